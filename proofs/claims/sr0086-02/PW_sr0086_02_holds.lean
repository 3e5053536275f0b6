import PyProof.Rows.All
import Wide.All
import OpenK.AllK
import Wide.FinOn
import KE.KCallOwn
import KE.KIntText
import KE.KxPercentT
import KE.KDictOf
import PyProof.AttrMissHeap
import PyProof.Draws
import PyProof.FString5
import PyProof.Rows.FStr
import Lean
import PySem.Challenge.RW_sr0086_02
set_option Elab.async false
set_option linter.all false
set_option genSizeOf false
set_option genInjectivity false
set_option maxRecDepth 100000
open Nat renaming le_trans -> oP, add_le_add_right -> Zzg, le_add_right -> Zzt, le_of_lt -> Zzs, add_le_add_left -> Zzr, le_refl -> Zz1, add_sub_cancel_left -> Zz2, zero_le -> Zz3, lt_of_le_of_lt -> Zz4, succ_le_succ -> ZzX, le_add_left -> ZzV, lt_of_lt_of_le -> ZzI, add_assoc -> ZzA, add_comm -> ZzT, ne_of_lt -> ZzR, ne_of_gt -> ZzE, zero_add -> ZzP, add_le_add -> Zyy, le_of_succ_le -> Zyx, succ_add_eq_add_succ -> Zyq, le_of_eq -> Zya, le_of_not_lt -> Zym, sub_le -> Zyo, min_eq_left -> Zy1, exists_eq_add_of_lt -> ZyV, lt_succ_of_lt -> ZyG, le_antisymm -> ZyM, min_eq_right -> Zxy, succ_pos -> Zxg, add_right_comm -> Zxd, sub_add_cancel -> Zxn, lt_succ_of_le -> Zxr, lt_irrefl -> Zxe, lt_add_of_pos_right -> Zxo, lt_of_succ_lt_succ -> Zx4, le_total -> Zx7, lt_trans -> ZxY, le_succ_of_le -> ZxD, sub_le_sub_right -> ZxB, mod_lt -> ZxN, add_lt_add_right -> ZxM, le_succ -> ZxT, lt_succ_self -> ZxO, not_lt_zero -> Zwq, lt_or_eq_of_le -> Zwj, le_of_lt_succ -> Zwd, not_lt -> Zwr, lt_of_not_le -> Zwe, add_sub_cancel' -> Zw4, mul_le_mul_left -> Zw7, sub_pos_of_lt -> ZwE, le_of_succ_le_succ -> ZwO, le_of_ble_eq_true -> Zvj, sub_lt -> Zvf, one_pos -> ZvX, pos_of_ne_zero -> ZvJ, lt_of_le_of_ne -> ZvK, zero_lt_of_lt -> ZvN, not_le -> ZvM, succ -> ZvR, le_max_right -> ZvP, zero_lt_succ -> Zuy, not_lt_of_le -> Zuu, sub_sub_self -> Zuj, add_zero -> Zuk, sub_zero -> Zui, min_le_left -> Zup, add_one_mul -> Zu0, sub_eq_zero_iff_le -> Zu2, sub_eq_zero_of_le -> Zu9, le_sub_of_add_le' -> ZuZ, lt_of_sub_eq_succ -> ZuU, le_sub_of_add_le -> ZuH, eq_sub_of_add_eq -> ZuS, mul_le_mul_right -> ZuR, sub_lt_sub_left -> Zqz, add_lt_add_left -> Zqj, eq_zero_or_pos -> Zqd, lt_of_succ_lt -> Zq5, min_le_right -> ZqZ, succ_ne_self -> ZqV, succ_ne_zero -> ZqC, le_max_left -> ZqN, strongRecOn -> ZqO, ble -> Zjx
open PySem renaming Str -> oO, wpAny_bind -> Zzz, Value -> Zzy, sizeLine -> Zzx, Expr -> Zzw, Shared -> Zzu, Addr -> Zzq, World -> Zzk, wpAny_pure -> Zzi, Heap -> Zza, Params -> Zzn, treeTable -> Zzh, Scope -> Zz0, OsState -> Zz8, Stmt -> ZzZ, Keeps -> ZzK, builtinLookup_eq_fast -> ZzF, wpAny_mono -> ZzC, Around -> ZzH, sizeLine_eq -> ZzS, wpAny_holding -> ZzO, starEach -> Zyf, typeLookup_type -> Zyn, FuncData -> Zyr, wpAny_items_cons -> Zyp, behindInMarks -> Zy3, cellsFrom -> Zy6, swappedStores -> ZyU, callWith_type -> ZyE, wpAny_items_nil -> Zxc, BindsTo -> Zxb, foldedSetIterable -> Zxs, assign -> Zx8, DictEntry -> ZxZ, Program -> ZxW, Comprehension -> ZxJ, wpAny_standAt -> ZxK, NameKind -> Zwz, Builtin -> Zwv, Keyword -> Zwc, ZipApart -> ZwK, JoinOk -> Zvg, IsPair -> Zvl, Arguments -> ZvW, Operator -> Zuq, Result -> Zu8, intText? -> ZuX, Setting -> ZuQ, GenState -> ZqG
open Option.some renaming inj -> Zzv
open PySem.Heap renaming get?_push_of_some -> Zzj, get?_push_size -> Zzl, lt_size -> ZzU, get?_update_self -> ZyB, size_push -> ZyT, SameBut -> Zxi, get?_update_other -> Zx6, get?_some_iff -> ZvU, get?_none_of_le -> ZuL
open PySem.W.Fast renaming te14364793385576792824 -> Zzf, te10110043849684766642 -> Zzc
open List renaming length_append -> Zzd, length_map -> Zzm, append_assoc -> Zzo, mem_singleton -> Zz5, map_append -> Zz9, range -> ZzW, map_cons -> ZzG, all_eq_true -> ZzD, mem_cons -> ZzN, length_drop -> ZzM, length_cons -> Zyw, getElem?_map -> Zyk, mem_map -> Zyi, length_take_of_le -> Zyc, mem_of_mem_drop -> Zyl, getElem?_eq_some_iff -> Zyt, forIn_cons -> Zys, take_length -> Zye, isPrefixOf_iff_prefix -> Zy5, mem_of_mem_take -> Zy8, append_nil -> ZyZ, length -> ZyQ, all_cons -> ZyF, map_map -> ZyD, mem_append -> ZyN, forIn_nil -> ZyS, length_range -> ZyR, lookup_cons -> Zxx, map_nil -> Zxw, take_of_length_le -> Zxk, contains_iff_mem -> Zxa, take_append_drop -> Zxm, foldl_cons -> Zxh, mapM_cons -> Zx3, nil_append -> ZxU, mem_cons_of_mem -> ZxA, map_eq_cons_iff -> ZxH, mem_range -> ZxS, length_take -> ZxP, cons_append -> Zwy, getElem?_take_of_lt -> Zwx, nodup_append -> Zwg, take_add_one -> Zwf, drop_left -> Zwa, getElem?_eq_none -> Zwn, length_singleton -> Zwm, map_eq_nil_iff -> Zw6, flatMap_append -> Zw8, drop_eq_getElem_cons -> ZwZ, getElem?_append_left -> ZwW, exists_cons_of_length_eq_add_one -> ZwV, mem_cons_self -> ZwJ, filterMap_cons_some -> ZwF, filterMap_cons_none -> ZwD, getElem?_drop -> ZwA, drop_drop -> ZwM, drop_take -> ZwH, prefix_iff_eq_take -> ZwR, range' -> ZwP, not_mem_nil -> Zvy, drop_suffix -> Zvx, range'_succ -> Zvw, getElem_mem -> Zvv, getElem?_zipWith -> Zvq, casesOn -> Zvi, length_nil -> Zvt, length_take_le' -> Zve, eq_nil_of_length_eq_zero -> Zvo, filterMap_cons -> Zv0, map_congr_left -> Zv2, getElem?_range -> Zv3, drop_zero -> Zv5, nodup_nil -> Zv8, take_take -> ZvZ, getElem?_append_right -> ZvF, mem_range'_1 -> ZvA, extract_eq_take_drop -> ZvL, mem_of_find?_eq_some -> ZvH, find?_range'_eq_some -> ZvT, all_map -> ZvE, drop_length -> Zux, suffix_iff_eq_drop -> Zua, drop -> Zuh, take -> Zut, range_succ -> Zur, nodup_cons -> Zue, mem_filter -> Zuo, filter_eq_nil_iff -> Zu4, drop_eq_nil_of_le -> Zu5, length_pos_of_mem -> Zu6, filterMap_eq_map -> ZuY, getElem?_toArray -> ZuJ, mem_of_getElem? -> ZuD, sum_cons -> ZuP, map_take -> ZuO, length_pos_iff -> Zqw, length_zipWith -> Zqu, getElem_of_mem -> Zqk, zipWith -> Zqc, filterMap_map -> Zqa, reverse_cons -> Zqp, foldl_append -> Zq1, flatMap_cons -> Zq6, take_prefix -> ZqX, any_eq_true -> ZqU, map_fst_zip -> ZqQ, zipIdx_cons -> ZqJ, cons_ne_nil -> ZqI, mem_toArray -> ZqF, filter_cons -> ZqD, mem_flatMap -> ZqB, find? -> ZqT, zipIdx_nil -> ZqS, take_left -> Zjw, rec -> ZjQ
open Option renaming bind_some -> Zzb, none -> ZyW, eq_none_or_eq_some -> ZwY, isSome_iff_exists -> ZwG, map_some -> Zvb, bind_eq_some_iff -> Zuc, casesOn -> Zu7, map -> ZuA, some -> Zq7, elim -> Zq8
open PySem.Builtin.Str renaming occurrences -> Zze, partsBetween -> Zz7, strSliceIndices -> ZyL, strKind -> Zxj, subAt -> ZxF, strOf -> Zul, isExactStr -> Zju
open Bool renaming false_ne_true -> Zz6, and_eq_true -> ZzQ, not_eq_true' -> Zyj, and_eq_true_iff -> Zyb, or_eq_true -> Zxq, false_eq_true -> Zx9, true_and -> ZxI, and_false -> ZxR, eq_iff_iff -> ZwX, eq_false_or_eq_true -> ZwU, or_false -> Zvz, eq_false_iff -> ZvB, or_eq_false_iff -> ZuG, or_true -> Zql, and_assoc -> Zjy, not_false -> Zjq, false_and -> Zjj, not_true -> Zjr, and_true -> Zje, false_or -> Zjp
open Exists renaming imp -> ZzY, elim -> Zyh
open Int renaming natCast_nonneg -> ZzJ, ofNat_le -> Zy7, ofNat_lt -> ZyC, toNat_natCast -> Zxu, max_eq_right -> Zx2, not_lt -> Zx5, add_sub_cancel -> Zwi, ofNat_sub -> Zwo, toNat_of_nonneg -> Zw2, min_eq_left -> Zw9, add_comm -> ZwN, fmod_eq_emod_of_nonneg -> ZvD, min_eq_right -> ZvO, le_trans -> Zuz, le_of_lt -> Zuw, sub_zero -> Zuv, max_eq_left -> Zus, add_sub_add_right -> ZuK, not_le -> ZuI, toNat_of_nonpos -> Zqy, lt_of_le_of_lt -> Zqg, ofNat_ne_zero -> Zq0, natCast_pos -> ZqE, emod_nonneg -> Zjz, toNat -> Zji
open PySem.Str renaming ofString -> ZzB, length -> ZxC
open Classical renaming byContradiction -> Zyg, em -> Zvc
open PySem.Txt renaming replace -> Zyd, endswith -> Zy0, join -> Zy4, startswith -> Zy9, contains -> ZyY, split -> ZyI, find -> Zx1, lower -> Zvu, upper -> Zqf
open PySem.Builtin.SmallTypes renaming ownedTupleIsFree -> Zy2, nextOf -> ZyO, ownedTupleHandOut -> ZwB
open PySem.W renaming SharedT -> ZyX
open PySem.Calls renaming callWith_builtin -> ZyJ, evalArgs_plain -> Zxv, Name_function_global -> ZvI, callWith_function -> Zub, spliced_cons -> Zqb, spliced_nil -> Zqo
open Array renaming getElem?_eq_getElem -> ZyK, size_push -> ZxV, toList_push -> ZxG, getElem?_toList -> Zwb, length_toList -> Zw3, toList_append -> Zv1, getElem?_eq_some_iff -> ZvG, ext' -> ZuB, forIn_toList -> Zqm, toList_inj -> ZqY
open PySem.Challenge renaming rw_sr0086_02 -> ZyA, pw_sr0086_02 -> Zv9
open PySem.BindsTo renaming of_eq -> ZyH, of_defaults -> Zqq
open PySem.F renaming plainAttrs_str -> ZyP, slot_str_split -> Zwl, plain_extend_loop -> Zw5, type_list_append -> ZwQ, args_str_split_2 -> ZwI, slot_list_getattribute -> ZwC, slot_dict_itemiterator_iter -> ZwL, plainAttrs_list -> ZwT, entry_str_split -> ZwS, slot_str_replace -> Zvm, slot_zip_next -> Zvh, called_str -> ZvV, slot_dict_items -> Zun, mro_object -> ZuW, type_str_replace -> ZuV, plainAttrs_dict -> ZuN, entry_extend_loop -> Zqv, args_zip_next_1 -> Zq2, entry_zip_next -> ZqK
open Nat.succ renaming inj -> Zxz
open PySem.Builtin.List renaming listFitsIndex -> Zxf, listExtendWith -> ZxX, listSubscript? -> Zws, listSameRef -> Zug, listItems -> Zu3
open ForInStep renaming yield -> Zxl
open PySem.Obj renaming mapSeq -> Zxt, mapDictKeys -> ZxQ
open PySem.NameKind renaming free -> Zxp, cell -> Zwu, noConfusion -> ZuF
open PySem.Builtin renaming divisionGoesByPylong -> Zx0
open PySem.Around renaming under_plainId -> ZxL
open PySem.Stmt renaming casesOn -> ZxE
open PySem.Builtin.Range renaming rangeSize -> Zww
open PySem.Value renaming int -> Zwk, ref -> Zwh, builtin -> Zw0, type -> Zvn, isStrOf_shape -> Zv4, str -> ZvQ, none -> ZqR, isStrOf -> Zjl
open List.cons renaming inj -> Zwp
open PySem.Builtin.Int renaming intBits -> Zw1
open PySem.Expr renaming casesOn -> Zvk
open PyProof.Rows renaming Subscript_ -> Zvd, IsTup -> Zvp, Assign_Tuple_swapped -> ZuC
open PUnit renaming unit -> Zva
open PySem.Heap.Ns renaming of_isNs -> Zvr
open PySem.Value.type renaming inj -> Zv6
open Ne renaming symm -> Zv7
open Nat.le renaming dest -> ZvY
open PySem.W.KPc renaming empty_app -> ZvC
open Iff renaming rfl -> ZvS
open Lean renaming mkIdent -> Zuf, TSyntax -> Zud
open PySem.Builtin.Dict renaming updateFrom -> Zum
open PySem.Env renaming kindOf -> ZuM
open PySem.W.WShape renaming has -> ZuT, hasItems -> ZqP, hasAll -> Zjs
open PySem.Value.ref renaming inj -> ZuE
open Std.Legacy.Range renaming forIn_eq_forIn_range' -> Zqx, size -> Zke
open PySem.Code renaming quiet_builtin -> Zqn
open Prod.mk renaming inj -> Zq9
open PySem.Walks renaming list -> ZqH
namespace Mine.Internal
universe u v
variable {α:Type u}{β:Type v}
theorem bS{o:Option α}{f:α->Option β}{b:β}:o.bind f=some b->∃a,o=some a/\f a=some b:=Zuc.mp
theorem mS{o:Option α}{f:α->β}{b:β}:o.map f=some b->∃a,o=some a/\f a=b:=Option.map_eq_some_iff.mp
theorem gE{l:List α}{i:Nat}(h:i<l.length):l[i]?=some l[i]:=List.getElem?_eq_getElem h
theorem gD(l:List α)(i:Nat)(d:α):l.getD i d=l[i]?.getD d:=List.getD_eq_getElem?_getD
theorem oD{p:Prop}(h:p:=by decide):p:=h
theorem oK{p:Prop}(h:p:=by kernel_rfl!):p:=h
theorem oW{p:Prop}(h:p:=by walk_at "ex"):p:=h
end Mine.Internal
noncomputable section
section
open PySem PySem.W PyProof.Rows
namespace Mine.Internal
theorem nS  {P:Prop}  (h:none=some r):P:=nomatch h
structure Oj where
 R:(Zzq->Prop)->Zza->Zzy->Prop
 mono:∀P P' h h' v,(∀a o,h.get? a=some o->P a->P' a)->(∀a o,P a->h.get? a=some o->h'.get? a=some o)->R P h v->R P' h' v
structure YM where
 R:(Zzq->Prop)->List oO->List Zzy->Zza->Zzy->Prop
 mono:∀P P' ks vs h h' v,(∀a o,h.get? a=some o->P a->P' a)->(∀a o,P a->h.get? a=some o->h'.get? a=some o)->R P ks vs h v->R P' ks vs h' v
inductive PV where
 |YZ (S:Oj)
 |box (T:YM) (ks:List oO) (l:List PV)
 |none
 |bool (b:Bool)
 |int (i:Int)
 |str (x:oO)
 |tup (l:List PV)
 |lst (l:List PV)
mutual
def Rep(P:Zzq->Prop)(h:Zza):PV->Zzy->Prop
 |.none,v=>v=.none
 |.YZ S,v=>S.R P h v
 |.box T ks l,v=>∃vs,T.R P ks vs h v/\Zy P h l vs
 |.bool b,v=>v=.bool b
 |.int i,v=>∃t,v=.int i t
 |.str x,v=>∃t,v=.str x t
 |.tup l,v=>∃a vs n,v=.ref a/\P a/\h.get? a=some { cls:=.type "tuple",data:=.seq vs n }/\Zy P h l vs.toList
 |.lst l,v=>∃a vs n,v=.ref a/\P a/\h.get? a=some { cls:=.type "list",data:=.seq vs n }/\Zy P h l vs.toList
def Zy(P:Zzq->Prop)(h:Zza):List PV->List Zzy->Prop
 |[],vs=>vs=[]
 |d::ds,vs=>∃v r,vs=v::r/\Rep P h d v/\Zy P h ds r
end
abbrev ZY(h h':Zza):Prop:=∀b o,h.get? b=some o->h'.get? b=some o
mutual
theorem Rep.mono{P P':Zzq->Prop}{h h':Zza}(hP:∀a o,h.get? a=some o->P a->P' a)(hk:∀a o,P a->h.get? a=some o->h'.get? a=some o):∀{d:PV} {v:Zzy},Rep P h d v->Rep P' h' d v
 |.none,_,x=>x
 |.YZ S,_,x=>S.mono _ _ _ _ _ hP hk x
 |.box T ks l,v,x=>ZzY (λvs t=>⟨T.mono _ _ _ _ _ _ _ hP hk t.1,Zy.mono hP hk t.2⟩) x
 |.bool _,_,x=>x
 |.int _,_,x=>x
 |.str _,_,x=>x
 |.tup l,v,x=>ZzY (λa=>ZzY λvs=>ZzY λn t=>⟨t.1,hP _ _ t.2.2.1 t.2.1,hk _ _ t.2.1 t.2.2.1,Zy.mono hP hk t.2.2.2⟩) x
 |.lst l,v,x=>ZzY (λa=>ZzY λvs=>ZzY λn t=>⟨t.1,hP _ _ t.2.2.1 t.2.1,hk _ _ t.2.1 t.2.2.1,Zy.mono hP hk t.2.2.2⟩) x
theorem Zy.mono{P P':Zzq->Prop}{h h':Zza}(hP:∀a o,h.get? a=some o->P a->P' a)(hk:∀a o,P a->h.get? a=some o->h'.get? a=some o):∀{ds:List PV} {vs:List Zzy},Zy P h ds vs->Zy P' h' ds vs
 |[],_,x=>x
 |d::ds,vs,x=>ZzY (λv=>ZzY λr t=>⟨t.1,Rep.mono hP hk t.2.1,Zy.mono hP hk t.2.2⟩) x
end
theorem Rep.ext     (x:Rep P h d v)(hk:ZY h h'):Rep P h' d v:=x.mono (λ_ _ _ p=>p) λa o _ e=>hk a o e
theorem Zy.ext     (x:Zy P h d v)(hk:ZY h h'):Zy P h' d v:=x.mono (λ_ _ _ p=>p) λa o _ e=>hk a o e
theorem Zy.length  :∀{ds:List PV} {vs:List Zzy},Zy P h ds vs->vs.length=ds.length
 |[],_,x=>congrArg ZyQ x
 |d::ds,vs,x=>Zyh x λv t=>t.elim λr t=>(congrArg ZyQ t.1).trans (congrArg ZvR (Zy.length t.2.2))
theorem Zy.get  {h:Zza}:∀{ds:List PV} {vs:List Zzy} {i:Nat} {d:PV},Zy P h ds vs->ds[i]?=some d->∃v,vs[i]?=some v/\Rep P h d v
 |[],_,i,d,_,e=>nS (List.getElem?_nil.symm.trans e)
 |d::ds,vs,0,d',x,e=>Zyh x λv t=>t.elim λr t=>⟨v,congrArg (·[0]?) t.1,Zzv e ▸ t.2.1⟩
 |d::ds,vs,i+1,d',x,e=>Zyh x λv t=>t.elim λr t=>(Zy.get t.2.2 (show ds[i]?=some d' from e)).imp λu z=>⟨(congrArg (·[i+1]?) t.1).trans z.1,z.2⟩
theorem Zy.append  :∀{ds es:List PV} {vs ws:List Zzy},Zy P h ds vs->Zy P h es ws->Zy P h (ds++es) (vs++ws)
 |[],es,vs,ws,x,y=>(congrArg (λv=>Zy P h es (v++ws)) (show vs=[] from x)).mpr y
 |d::ds,es,vs,ws,x,y=>ZzY (λv t=>t.elim λr t=>⟨r++ws,congrArg (·++ws) t.1,t.2.1,Zy.append t.2.2 y⟩) x
theorem Zy.head       (r:Zy P h (d::ds) (v::vs)):Rep P h d v:=Zyh r λ_ t=>t.elim λ_ t=>(Zwp t.1).1 ▸ t.2.1
theorem Zy.tail       (r:Zy P h (d::ds) (v::vs)):Zy P h ds vs:=Zyh r λ_ t=>t.elim λ_ t=>(Zwp t.1).2 ▸ t.2.2
theorem Zy.one     (x:Rep P h d v):Zy P h [d] [v]:=⟨v,[],rfl,x,rfl⟩
theorem Zy.nil  :Zy P h [] []:=rfl
theorem Zy.cons       (x:Rep P h d v)(y:Zy P h ds vs):Zy P h (d::ds) (v::vs):=⟨v,vs,rfl,x,y⟩
def ZM(P:Zzq->Prop)(h:Zza):Prop:=∀a,¬P a->∃o,h.get? a=some o
theorem ZM.ext   (x:ZM P h)(hk:ZY h h'):ZM P h':=λa n=>(x a n).imp λo e=>hk _ _ e
theorem ZM.new   (x:ZM P h):P h.objs.size:=by
 refine Zyg λn=>?_
 obtain⟨o,e⟩:=x _ n
 exact absurd (ZzU e) (Zxe _)
structure ZH(k:Nat)(A:ZzH):Prop where
 handled:A.handled=none
 depth:A.depth+k<recursionLimit
 units:A.units+16*k+16<cLine
theorem JL(a m n:Nat):a+m+m*n=a+m*(n+1):=by rw[Nat.mul_succ,ZzA,ZzT m]
theorem ZH.low{A:ZzH}{k n:Nat}(h:ZH k A)(hn:n<=16):A.units+n<cLine:=Zz4 (oP (Zzr hn _) (Zzg (Zzt _ _) 16)) h.units
theorem Nm{n:Nat}(h:n<=16777216):¬(n:Int)>=2 ^ 63:=ZuI.mpr (Zqg (Zy7.mpr h) oD)
theorem ZH.of{A B:ZzH}{k:Nat}(h:ZH (k+1) A)(h1:B.handled=none)(h2:B.depth<=A.depth+1)(h3:B.units<=A.units+16):ZH k B:=
 ⟨h1,Zz4 (Zzg h2 k) (by rw[ZzA,ZzT 1];exact h.depth),Zz4 (Zzg (Zzg h3 _) 16) (by rw[ZzA A.units,ZzT 16];exact h.units)⟩
structure Hh(mg mb:oO->Option Zzy)(K:Zza->Prop)(h:Zza):Prop where
 g:h.Ns mainGlobals mg
 b:h.Ns builtinsNs mb
 nolimit:h.NoLimit
 Xj:K h
def Loc(env:Env)(h:Zza)(x:oO)(v:Zzy):Prop:=
 (env.kindOf x=some .local/\∃m,h.Ns env.locals m/\m x=some v)∨
 ((env.kindOf x=some .cell∨env.kindOf x=some .free)/\∃c,env.cells.lookup x=some c/\h.IsCell c (some v))
theorem Loc.ext     (l:Loc env h x v)(hk:ZY h h'):Loc env h' x v:=by
 rcases l with ⟨a,m,hm,e⟩ |⟨a,c,hc,e⟩
 ·exact .inl ⟨a,m,hm.keeps hk,e⟩
 ·exact .inr ⟨a,c,hc,e.keeps hk⟩
structure TabAt(h:Zza)(c:Zzq)(x d b:Zzq)(vs:List Zzy):Prop where
 inst:h.get? x=some { cls:=.ref c,dict:=some d,data:=.plain }
 ns:h.Ns1 d (λy=>if y=("_headers":oO) then some (.ref b) else none)
 list:∃ws n,h.get? b=some { cls:=.type "list",data:=.seq ws n }/\ws.toList=vs
theorem TabAt.at    (T:TabAt h c x d b vs)(hk:∀a o,(a=x∨a=d∨a=b)->h.get? a=some o->h'.get? a=some o):TabAt h' c x d b vs:=
 ⟨hk _ _ (.inl rfl) T.inst,T.ns.at λo e=>hk _ o (.inr (.inl rfl)) e,T.list.imp λws t=>t.imp λn t=>⟨hk _ _ (.inr (.inr rfl)) t.1,t.2⟩⟩
theorem TabAt.lives    (T:TabAt h c x d b vs):(∃o,h.get? x=some o)/\(∃o,h.get? d=some o)/\∃o,h.get? b=some o:=
 ⟨⟨_,T.inst⟩,ZzY (λo t=>t.elim λ_ t=>t.elim λ_ t=>t.1) T.ns,T.list.elim λ_ t=>t.elim λ_ t=>⟨_,t.1⟩⟩
noncomputable def Y6(c:Zzq):YM where
 R:=λP _ vs h v=>∃x d b,v=.ref x/\P x/\P d/\P b/\TabAt h c x d b vs
 mono:=λP P' ks vs h h' v hP hk=>ZzY λx=>ZzY λd=>ZzY λb t=>have T:=t.2.2.2.2
  ⟨t.1,T.lives.1.elim λo e=>hP _ _ e t.2.1,T.lives.2.1.elim λo e=>hP _ _ e t.2.2.1,T.lives.2.2.elim λo e=>hP _ _ e t.2.2.2.1,T.at λa o q e=>hk a o (q.elim (λq=>q ▸ t.2.1) λq=>q.elim (λq=>q ▸ t.2.2.1) λq=>q ▸ t.2.2.2.1) e⟩
theorem CD      {R:Prop}(r:Rep P h (.box (Y6 c) [] l) v)(q:∀vs x d b,v=.ref x->P x->P d->P b->TabAt h c x d b vs->Zy P h l vs->R):R:=
 Zyh r λvs t=>Zyh t.1 λx z=>z.elim λd z=>z.elim λb z=>q vs x d b z.1 z.2.1 z.2.2.1 z.2.2.2.1 z.2.2.2.2 t.2
inductive AV where
 |val (d:PV)
 |own (l:List PV)
 |tab (c:Zzq) (l:List PV)
abbrev Zx:=oO->Option AV
def Qh(P:Zzq->Prop)(env:Env)(h:Zza)(x:oO):AV->Prop
 |.val d=>∃v,Loc env h x v/\Rep P h d v
 |.own ds=>∃a vs n,Loc env h x (.ref a)/\h.get? a=some { cls:=.type "list",data:=.seq vs n }/\Zy P h ds vs.toList
 |.tab c ds=>∃a d b vs,Loc env h x (.ref a)/\TabAt h c a d b vs/\Zy P h ds vs
def Wq(P:Zzq->Prop)(env:Env)(σ:Zx)(h:Zza):Prop:=∀x a,σ x=some a->Qh P env h x a
theorem Qh.ext      (H:Qh P env h x a)(hk:ZY h h'):Qh P env h' x a:=by
 cases a with
 |val d=>exact ZzY (λv t=>⟨t.1.ext hk,t.2.ext hk⟩) H
 |own ds=>exact ZzY (λb=>ZzY λvs=>ZzY λn t=>⟨t.1.ext hk,hk _ _ t.2.1,t.2.2.ext hk⟩) H
 |tab c ds=>exact ZzY (λa=>ZzY λd=>ZzY λb=>ZzY λvs t=>⟨t.1.ext hk,t.2.1.at λa o _ e=>hk a o e,t.2.2.ext hk⟩) H
theorem Wq.ext     (H:Wq P env σ h)(hk:ZY h h'):Wq P env σ h':=λx a e=>(H x a e).ext hk
theorem Z4(s:Zzu):ZzK s s:=⟨s.heap,s.toks,rfl,λ_ _ e=>e⟩
theorem Zq  (a:ZzK s s₁)(b:ZzK s₁ s₂):ZzK s s₂:=by
 obtain⟨h,t,rfl,k⟩:=a
 obtain⟨h',t',rfl,k'⟩:=b
 exact⟨h',t',rfl,λx o e=>k' x o (k x o e)⟩
theorem Zw  (a:ZzK s s'):ZY s.heap s'.heap:=by obtain⟨h,t,rfl,k⟩:=a;exact k
theorem ZZ(s:Zzu)(t:Nat):ZzK s { s with toks:=t }:=⟨s.heap,t,rfl,λ_ _ e=>e⟩
theorem X1(s:Zzu)(o:Obj):ZzK s { s with heap:=s.heap.push o }:=⟨_,s.toks,rfl,λ_ _ e=>Zzj o e⟩
theorem Hh.ext  {K:Zza->Prop}  (hK:∀h h',K h->ZY h h'->K h')(G:Hh mg mb K h)(hk:ZY h h'):Hh mg mb K h':=
 ⟨G.g.keeps hk,G.b.keeps hk,G.nolimit.keeps hk,hK _ _ G.Xj hk⟩
structure Cx where
 prog:ZxW
 w:Zzk
 mg:oO->Option Zzy
 mb:oO->Option Zzy
 K:Zza->Prop
 keep:∀h h',K h->ZY h h'->K h'
abbrev Cx.M(C:Cx):Model:=model C.prog C.w
abbrev Cx.G(C:Cx)(h:Zza):Prop:=Hh C.mg C.mb C.K h
theorem Cx.ext(C:Cx){h h':Zza}(G:C.G h)(hk:ZY h h'):C.G h':=Hh.ext C.keep G hk
structure Zt(env:Env):Prop where
 kind:env.scope.kind=.function
 globals:env.globals=mainGlobals
 builtins:env.builtins=builtinsNs
def Ev(C:Cx)(k:Nat)(env:Env)(σ:Zx)(e:Zzw)(d:PV):Prop:=
 ∀A s Q E P,ZH k A->C.G s.heap->Wq P env σ s.heap->ZM P s.heap->
  (∀v s',ZzK s s'->Rep P s'.heap d v->Q v s')->wpAny C.M A (eval e env) Q E s
def Kk(C:Cx)(k:Nat)(env:Env)(σ:Zx)(e:Zzw)(ds:List PV):Prop:=
 ∀A s Q E P,ZH k A->C.G s.heap->Wq P env σ s.heap->ZM P s.heap->
  (∀a vs n s',ZzK s s'->s'.heap.get? a=some { cls:=.type "list",data:=.seq vs n }->Zy P s'.heap ds vs.toList->Q (.ref a) s')->wpAny C.M A (eval e env) Q E s
def YV(C:Cx)(k:Nat)(env:Env)(σ:Zx)(e:Zzw)(b:Bool):Prop:=
 ∀A s Q E P,ZH k A->C.G s.heap->Wq P env σ s.heap->ZM P s.heap->
  (∀s',ZzK s s'->Q b s')->wpAny C.M A (isTrue e env (eval e env)) Q E s
section
variable {C:Cx}{k:Nat}{env:Env}{σ:Zx}
theorem Kk.of   (h:Ev C k env σ e (.lst ds)):Kk C k env σ e ds:=λA s Q E P hr hg hh hb q=>
 h A s Q E P hr hg hh hb λv s' ks r=>Zyh r λa t=>t.elim λvs t=>t.elim λn t=>t.1 ▸ q a vs n s' ks t.2.2.1 t.2.2.2
theorem XS         (hf:env.scope.kind=.function)(l:Loc env s.heap x v)
 (hn:(x==("__classdict__":oO))=false) (h:Q v s):wpAny M A (loadName env x) Q E s:=by
 rcases l with ⟨a,m,hm,e⟩ |⟨a |a,c,hc,e⟩
 ·exact wpAny_loadName_local hf a hm e h
 ·exact wpAny_loadName_cell hf a hc e h
 ·exact wpAny_loadName_free hf a hc e h hn
theorem Ev.name    (hf:Zt env)(hx:σ x=some (.val d))(hd:(x==("__debug__":oO))=false:=by decide)(hn:(x==("__classdict__":oO))=false:=by decide):
 Ev C k env σ (.Name x pos) d:=λA s Q E P hr hg hh hb q=>by
 obtain⟨v,l,r⟩:=hh x _ hx
 exact wpAny_Name (XS hf.kind l hn (q v s (Z4 s) r)) hd
theorem Kk.name    (hf:Zt env)(hx:σ x=some (.own ds))(hd:(x==("__debug__":oO))=false:=by decide)(hn:(x==("__classdict__":oO))=false:=by decide):
 Kk C k env σ (.Name x pos) ds:=λA s Q E P hr hg hh hb q=>by
 obtain⟨a,vs,n,l,e,r⟩:=hh x _ hx
 exact wpAny_Name (XS hf.kind l hn (q a vs n s (Z4 s) e r)) hd
theorem Ev.int   :Ev C k env σ (.Constant (.int i) n pos) (.int i):=λA s Q E P hr hg hh hb q=>
 wpAny_Constant_int (q _ _ (ZZ s _) ⟨_,rfl⟩)
theorem Ev.str   :Ev C k env σ (.Constant (.str x) n pos) (.str x):=λA s Q E P hr hg hh hb q=>
 wpAny_Constant_str (q _ _ (ZZ s _) ⟨_,rfl⟩)
theorem Ev.none  :Ev C k env σ (.Constant .none n pos) .none:=λA s Q E P hr hg hh hb q=>
 wpAny_Constant_none (q _ _ (Z4 s) rfl)
theorem Ev.bool   :Ev C k env σ (.Constant (.bool b) n pos) (.bool b):=λA s Q E P hr hg hh hb q=>
 wpAny_Constant_bool (q _ _ (Z4 s) rfl)
def ZA(C:Cx)(k:Nat)(f:Zzy->Zzy->Sem Zzy)(a b c:PV):Prop:=
 ∀A s Q E P va vb,ZH k A->C.G s.heap->Rep P s.heap a va->Rep P s.heap b vb->ZM P s.heap->
  (∀v s',ZzK s s'->Rep P s'.heap c v->Q v s')->wpAny C.M A (f va vb) Q E s
end
end Mine.Internal
end
section
open PySem PySem.W PyProof.Rows
namespace Mine.Internal
section
variable {α:Type}
theorem FE{β:Type}{P X:Prop}{d r:β}(h:d=r)(_:X)(q:d=r->P):P:=q h
noncomputable def UJ{β:Type}(e:Zzw)(d:β)(yl:oO->Pos->β:=λ_ _=>d)(yt:Zzw->oO->Pos->β:=λ_ _ _=>d)(yh:Zzw->List Zzw->List Zwc->Pos->β:=λ_ _ _ _=>d)(jy:List Zzw->Nat->Pos->β:=λ_ _ _=>d)(jk:List Zzw->Pos->β:=λ_ _=>d)(jx:Zzw->Zzw->Pos->β:=λ_ _ _=>d)(b9:Zzw->List ZxJ->Zz0->Pos->β:=λ_ _ _ _=>d)(jd:Zzw->List CmpOp->List Zzw->Pos->β:=λ_ _ _ _=>d)(bY:BoolOp->List Zzw->Pos->β:=λ_ _ _=>d)(jq:Option Zzw->Option Zzw->Option Zzw->Pos->β:=λ_ _ _ _=>d)(ym:Zzw->Pos->β:=λ_ _=>d)(jj:List Zzw->Nat->Pos->β:=λ_ _ _=>d)(bp:UnaryOp->Zzw->Pos->β:=λ_ _ _=>d)(ji:Zzw->Zzw->Zzw->Pos->β:=λ_ _ _ _=>d)(b8:Zzw->List ZxJ->Zz0->Pos->β:=λ_ _ _ _=>d)(bZ:Zzw->Zzw->List ZxJ->Zz0->Pos->β:=λ_ _ _ _ _=>d)(jf:Const->Nat->Pos->β:=λ_ _ _=>d)(jg:List (Option Zzw)->List Zzw->Pos->β:=λ_ _ _=>d):β:=@Zvk (λ_=>β) e bY (λ_ _ _=>d) (λ_ _ _ _=>d) bp (λ_ _ _ _=>d) ji jg jj b9 b8 bZ (λ_ _ _ _=>d) (λ_ _=>d) (λ_ _=>d) (λ_ _=>d) jd yh (λ_ _ _ _=>d) (λ_ _=>d) jf yt jx ym yl jk jy jq
def Wr{β:Type}(e:Zzw)(k:oO->Pos->β)(d:β):β:=UJ e d (yl:=k)
def C8{β:Type}(e:Zzw)(k:Zzw->oO->Pos->β)(d:β):β:=UJ e d (yt:=k)
def Fu{β:Type}(e:Zzw)(k:Zzw->List Zzw->List Zwc->Pos->β)(d:β):β:=UJ e d (yh:=k)
def KQ{β:Type}(e:Zzw)(k:List Zzw->Nat->Pos->β)(d:β):β:=UJ e d (jy:=k)
def Oz{β:Type}(e:Zzw)(k:List Zzw->Pos->β)(d:β):β:=UJ e d (jk:=k)
def PO{β:Type}(e:Zzw)(k:Zzw->Zzw->Pos->β)(d:β):β:=UJ e d (jx:=k)
def qN{β:Type}(e:Zzw)(k:Zzw->List ZxJ->Zz0->Pos->β)(d:β):β:=UJ e d (b9:=k)
def Ow{β:Type}(e:Zzw)(k:Zzw->List CmpOp->List Zzw->Pos->β)(d:β):β:=UJ e d (jd:=k)
def qM{β:Type}(e:Zzw)(k:BoolOp->List Zzw->Pos->β)(d:β):β:=UJ e d (bY:=k)
def kn{β:Type}(e:Zzw)(k:Option Zzw->Option Zzw->Option Zzw->Pos->β)(d:β):β:=UJ e d (jq:=k)
def cw{β:Type}(e:Zzw)(k:Zzw->Pos->β)(d:β):β:=UJ e d (ym:=k)
def tW{β:Type}(e:Zzw)(k:List Zzw->Nat->Pos->β)(d:β):β:=UJ e d (jj:=k)
def pN{β:Type}(e:Zzw)(k:UnaryOp->Zzw->Pos->β)(d:β):β:=UJ e d (bp:=k)
def tV{β:Type}(e:Zzw)(k:Zzw->Zzw->Zzw->Pos->β)(d:β):β:=UJ e d (ji:=k)
def pM{β:Type}(e:Zzw)(k:Zzw->List ZxJ->Zz0->Pos->β)(d:β):β:=UJ e d (b8:=k)
def pL{β:Type}(e:Zzw)(k:Zzw->Zzw->List ZxJ->Zz0->Pos->β)(d:β):β:=UJ e d (bZ:=k)
def Ox{β:Type}(e:Zzw)(k:Const->Nat->Pos->β)(d:β):β:=UJ e d (jf:=k)
def Oy{β:Type}(e:Zzw)(k:List (Option Zzw)->List Zzw->Pos->β)(d:β):β:=UJ e d (jg:=k)
theorem Xf{β:Type}{P:Prop}{e:Zzw}{k:oO->Pos->β}{d r:β}:Wr e k d=r->(∀x p,e=.Name x p->k x p=r->P)->(d=r->P)->P:=by cases e<;>first |exact λh q _=>q _ _ rfl h |exact FE
theorem Ig{β:Type}{P:Prop}{e:Zzw}{k:Zzw->oO->Pos->β}{d r:β}:C8 e k d=r->(∀o m p,e=.Attribute o m p->k o m p=r->P)->(d=r->P)->P:=by cases e<;>first |exact λh q _=>q _ _ _ rfl h |exact FE
theorem Ii{β:Type}{P:Prop}{e:Zzw}{k:Zzw->List Zzw->List Zwc->Pos->β}{d r:β}:Fu e k d=r->(∀f as ks p,e=.Call f as ks p->k f as ks p=r->P)->(d=r->P)->P:=by cases e<;>first |exact λh q _=>q _ _ _ _ rfl h |exact FE
theorem QE{β:Type}{P:Prop}{e:Zzw}{k:List Zzw->Nat->Pos->β}{d r:β}:KQ e k d=r->(∀es n p,e=.Tuple es n p->k es n p=r->P)->(d=r->P)->P:=by cases e<;>first |exact λh q _=>q _ _ _ rfl h |exact FE
theorem Tq{β:Type}{P:Prop}{e:Zzw}{k:List Zzw->Pos->β}{d r:β}:Oz e k d=r->(∀es p,e=.List es p->k es p=r->P)->(d=r->P)->P:=by cases e<;>first |exact λh q _=>q _ _ rfl h |exact FE
theorem Tu{β:Type}{P:Prop}{e:Zzw}{k:Zzw->Zzw->Pos->β}{d r:β}:PO e k d=r->(∀o i p,e=.Subscript o i p->k o i p=r->P)->(d=r->P)->P:=by cases e<;>first |exact λh q _=>q _ _ _ rfl h |exact FE
theorem gG{β:Type}{P:Prop}{e:Zzw}{k:Zzw->List ZxJ->Zz0->Pos->β}{d r:β}:qN e k d=r->(∀b gs s p,e=.ListComp b gs s p->k b gs s p=r->P)->(d=r->P)->P:=by cases e<;>first |exact λh q _=>q _ _ _ _ rfl h |exact FE
theorem uf{β:Type}{P:Prop}{e:Zzw}{k:Zzw->List CmpOp->List Zzw->Pos->β}{d r:β}:Ow e k d=r->(∀l os rs p,e=.Compare l os rs p->k l os rs p=r->P)->(d=r->P)->P:=by cases e<;>first |exact λh q _=>q _ _ _ _ rfl h |exact FE
theorem gF{β:Type}{P:Prop}{e:Zzw}{k:BoolOp->List Zzw->Pos->β}{d r:β}:qM e k d=r->(∀o vs p,e=.BoolOp o vs p->k o vs p=r->P)->(d=r->P)->P:=by cases e<;>first |exact λh q _=>q _ _ _ rfl h |exact FE
theorem Tj{β:Type}{P:Prop}{e:Zzw}{k:Const->Nat->Pos->β}{d r:β}:Ox e k d=r->(∀c n p,e=.Constant c n p->k c n p=r->P)->(d=r->P)->P:=by cases e<;>first |exact λh q _=>q _ _ _ rfl h |exact FE
def VQ(e:Zzw)(k:oO->Pos->Option α):Option α:=Wr e k none
theorem W3{P:Prop}{e:Zzw}{k:oO->Pos->Option α}{r:α}(h:VQ e k=some r)(q:∀x p,e=.Name x p->k x p=some r->P):P:=Xf h q nS
def CK(e:Zzw)(k:Zzw->oO->Pos->Option α):Option α:=C8 e k none
theorem GQ{P:Prop}{e:Zzw}{k:Zzw->oO->Pos->Option α}{r:α}(h:CK e k=some r)(q:∀o m p,e=.Attribute o m p->k o m p=some r->P):P:=Ig h q nS
def Jg(e:Zzw)(k:Zzw->List Zzw->List Zwc->Pos->Option α):Option α:=Fu e k none
theorem Ug{P:Prop}{e:Zzw}{k:Zzw->List Zzw->List Zwc->Pos->Option α}{r:α}(h:Jg e k=some r)(q:∀f as ks p,e=.Call f as ks p->k f as ks p=some r->P):P:=Ii h q nS
def yD(e:Zzw)(k:List Zzw->Nat->Pos->Option α):Option α:=KQ e k none
theorem O8{P:Prop}{e:Zzw}{k:List Zzw->Nat->Pos->Option α}{r:α}(h:yD e k=some r)(q:∀es n p,e=.Tuple es n p->k es n p=some r->P):P:=QE h q nS
def yC(e:Zzw)(k:List Zzw->Pos->Option α):Option α:=Oz e k none
theorem O9{P:Prop}{e:Zzw}{k:List Zzw->Pos->Option α}{r:α}(h:yC e k=some r)(q:∀es p,e=.List es p->k es p=some r->P):P:=Tq h q nS
noncomputable def PI(s:ZzZ)(k:List Zzw->Zzw->Pos->Option α)(k2:Zzw->Pos->Option α):Option α:=@ZxE (λ_=>Option α) s (λ_ _ _ _ _ _ _ _ _ _=>none) (λ_ _ _ _ _ _ _ _ _ _=>none) (λ_ _ _ _ _ _ _ _ _ _ _=>none) (λ_ _=>none) (λ_ _=>none) (λt e p=>k t e p) (λ_ _ _ _ _ _ _=>none) (λ_ _ _ _=>none) (λ_ _ _ _ _=>none) (λ_ _ _ _ _=>none) (λ_ _ _ _ _=>none) (λ_ _ _ _=>none) (λ_ _ _ _=>none) (λ_ _ _=>none) (λ_ _ _=>none) (λ_ _ _=>none) (λ_ _ _=>none) (λ_ _ _ _ _=>none) (λ_ _ _ _ _=>none) (λ_ _ _=>none) (λ_ _=>none) (λ_ _ _ _=>none) (λ_ _=>none) (λ_ _=>none) (λe p=>k2 e p) (λ_=>none) (λ_=>none) (λ_=>none)
theorem wK{P:Prop}{s:ZzZ}{k:List Zzw->Zzw->Pos->Option α}{k2:Zzw->Pos->Option α}{r:α}:PI s k k2=some r->(∀t e p,s=.Assign t e p->k t e p=some r->P)->(∀e p,s=.Expr e p->k2 e p=some r->P)->P:=@ZxE (λs=>PI s k k2=some r->(∀t e p,s=.Assign t e p->k t e p=some r->P)->(∀e p,s=.Expr e p->k2 e p=some r->P)->P) s (λ_ _ _ _ _ _ _ _ _ _=>λh=>nS h) (λ_ _ _ _ _ _ _ _ _ _=>λh=>nS h) (λ_ _ _ _ _ _ _ _ _ _ _=>λh=>nS h) (λ_ _=>λh=>nS h) (λ_ _=>λh=>nS h) (λt e p=>λh q _=>q t e p rfl h) (λ_ _ _ _ _ _ _=>λh=>nS h) (λ_ _ _ _=>λh=>nS h) (λ_ _ _ _ _=>λh=>nS h) (λ_ _ _ _ _=>λh=>nS h) (λ_ _ _ _ _=>λh=>nS h) (λ_ _ _ _=>λh=>nS h) (λ_ _ _ _=>λh=>nS h) (λ_ _ _=>λh=>nS h) (λ_ _ _=>λh=>nS h) (λ_ _ _=>λh=>nS h) (λ_ _ _=>λh=>nS h) (λ_ _ _ _ _=>λh=>nS h) (λ_ _ _ _ _=>λh=>nS h) (λ_ _ _=>λh=>nS h) (λ_ _=>λh=>nS h) (λ_ _ _ _=>λh=>nS h) (λ_ _=>λh=>nS h) (λ_ _=>λh=>nS h) (λe p=>λh _ q=>q e p rfl h) (λ_=>λh=>nS h) (λ_=>λh=>nS h) (λ_=>λh=>nS h)
noncomputable def d1{γ β:Type}(l:List γ)(k:γ->β)(d:β):β:=@Zvi γ (λ_=>β) l d λx r=>@Zvi γ (λ_=>β) r (k x) λ_ _=>d
theorem Vk{γ β:Type}{P:Prop}{k:γ->β}{d r:β}{l:List γ}(h:d1 l k d=r)(q:∀x,l=[x]->k x=r->P)(q2:d=r->P):P:=by
 cases l with
 |nil=>exact q2 h
 | cons x l=>
   cases l with
   |nil=>exact q x rfl h
   |cons _ _=>exact q2 h
noncomputable def d0{γ β:Type}(l:List γ)(k d:β):β:=@Zvi γ (λ_=>β) l k λ_ _=>d
theorem Fq{γ β:Type}{P:Prop}{k d r:β}{l:List γ}(h:d0 l k d=r)(q:l=[]->k=r->P)(q2:d=r->P):P:=by
 cases l with
 |nil=>exact q rfl h
 |cons _ _=>exact q2 h
noncomputable def dc{γ β:Type}(l:List γ)(k:γ->List γ->β)(d:β):β:=@Zvi γ (λ_=>β) l d k
theorem KH{γ β:Type}{P:Prop}{k:γ->List γ->β}{d r:β}{l:List γ}(h:dc l k d=r)(q:∀x m,l=x::m->k x m=r->P)(q2:d=r->P):P:=by
 cases l with
 |nil=>exact q2 h
 |cons x m=>exact q x m rfl h
def NL{β:Type}(es:List Zzw)(k:oO->oO->β)(d:β):β:=dc es (λe es=>Wr e (λx _=>d1 es (λe=>Wr e (λy _=>k x y) d) d) d) d
theorem G9{β:Type}{P:Prop}{es:List Zzw}{k:oO->oO->β}{d r:β}(h:NL es k d=r)(q:∀x p y p',es=[.Name x p,.Name y p']->k x y=r->P)(q2:d=r->P):P:=
 KH h (λ_ _ e1 h=>Xf h (λx p e2 h=>Vk h (λ_ e3 h=>Xf h (λy p' e4 h=>q x p y p' (by rw[e1,e2,e3,e4]) h) q2) q2) q2) q2
def qL{β:Type}(es:List Zzw)(k:oO->oO->oO->β)(d:β):β:=dc es (λe es=>Wr e (λx _=>NL es (k x) d) d) d
theorem EY{β:Type}{P:Prop}{es:List Zzw}{k:oO->oO->oO->β}{d r:β}(h:qL es k d=r)(q:∀x p y p' z Ab,es=[.Name x p,.Name y p',.Name z Ab]->k x y z=r->P)(q2:d=r->P):P:=
 KH h (λ_ _ e1 h=>Xf h (λx p e2 h=>G9 h (λy p' z Ab e3 h=>q x p y p' z Ab (by rw[e1,e2,e3]) h) q2) q2) q2
def Hn{β:Type}(e:Zzw)(k:oO->List Zzw->β)(d:β):β:=Fu e (λf as ks _=>Wr f (λx _=>d0 ks (k x as) d) d) d
theorem CF{β:Type}{P:Prop}{e:Zzw}{k:oO->List Zzw->β}{d r:β}(h:Hn e k d=r)(q:∀x p as p',e=.Call (.Name x p) as [] p'->k x as=r->P)(q2:d=r->P):P:=
 Ii h (λf as ks p' e1 h=>Xf h (λx p e2 h=>Fq h (λe3 h=>q x p as p' (by rw[e1,e2,e3]) h) q2) q2) q2
theorem Ga{γ:Type}{P:List γ->Prop}{l:List γ}(h:l.length=1)(q:∀a,P [a]):P l:=by
 cases l with
 |nil=>cases h
 | cons a l=>cases l with
   |nil=>exact q a
   |cons _ _=>cases h
theorem Qn{γ:Type}{P:List γ->Prop}{l:List γ}(h:l.length=2)(q:∀a b,P [a,b]):P l:=by
 cases l with
 |nil=>cases h
 |cons a l=>exact Ga (P:=λl=>P (a::l)) (Zxz h) (q a)
theorem PG{γ:Type}{P:List γ->Prop}{l:List γ}(h:l.length=3)(q:∀a b c,P [a,b,c]):P l:=by
 cases l with
 |nil=>cases h
 |cons a l=>exact Qn (P:=λl=>P (a::l)) (Zxz h) (q a)
noncomputable def Ys(o x:Option α):Option α:=@Zu7 α (λ_=>Option α) o x some
theorem Xr{P:Prop}{o x:Option α}{r:α}(h:Ys o x=some r)(q:o=some r->P)(q2:x=some r->P):P:=by
 cases o with
 |none=>exact q2 h
 |some a=>exact q h
def WT{β:Type}(l:List β)(k:β->Option α):Option α:=d1 l k none
def IG{β:Type}(l:List β)(k:β->β->Option α):Option α:=dc l (λx r=>WT r (k x)) none
theorem YH{β:Type}{P:Prop}{r:α}{l:List β}{k:β->Option α}(h:WT l k=some r)(q:∀x,l=[x]->k x=some r->P):P:=Vk h q nS
theorem VJ{β:Type}{P:Prop}{r:α}{l:List β}{k:β->β->Option α}(h:IG l k=some r)(q:∀x y,l=[x,y]->k x y=some r->P):P:=KH h (λx m e h=>YH h λy e2 h=>q x y (by rw[e,e2]) h) nS
theorem Zv{β:Type}{P:Prop}{o:Option β}{k:β->Option α}{r:α}(h:o.bind k=some r)(q:∀a,o=some a->k a=some r->P):P:=by
 cases o with
 |none=>exact nS h
 |some a=>exact q a rfl h
theorem Y2{β:Type}{P:Prop}{o:Option β}{f:β->α}{r:α}(h:o.map f=some r)(q:∀a,o=some a->r=f a->P):P:=by
 cases o with
 |none=>exact nS h
 |some a=>exact q a rfl (Zzv h).symm
theorem ZW{P:α->Prop}{a r:α}(q:P a)(h:some a=some r):P r:=Zzv h ▸ q
theorem Zl{P:Prop}{c:Prop} [Decidable c] {a:Option α}{r:α}(h:(if c then a else none)=some r)(q:c->a=some r->P):P:=by
 by_cases hc:c
 ·exact q hc ((if_pos hc).symm.trans h)
 ·exact nS ((if_neg hc).symm.trans h)
theorem Mp{α:Type}{P:Prop}{c:Prop} [Decidable c] {a:Option α}{r:α}(h:(if c then none else a)=some r)(q:¬c->a=some r->P):P:=by
 by_cases hc:c
 ·exact nS ((if_pos hc).symm.trans h)
 ·exact q hc ((if_neg hc).symm.trans h)
theorem YQ{α:Type}{P:Prop}{c:Prop} [Decidable c] {a b:α}{r:α}(h:(if c then a else b)=r)(q:c->a=r->P)(q2:¬c->b=r->P):P:=by
 by_cases hc:c
 ·exact q hc ((if_pos hc).symm.trans h)
 ·exact q2 hc ((if_neg hc).symm.trans h)
theorem Xw{a b:Bool}(h:(a&&b)=true):a=true/\b=true:=Zyb.mp h
theorem Z8{P:Prop}{a b:Bool}(h:(a&&b)=true)(q:a=true->b=true->P):P:=q (Xw h).1 (Xw h).2
theorem nil_of{β:Type}:∀{l:List β},l.isEmpty=true->l=[]
 |[],_=>rfl
end
end Mine.Internal
end
section
open PySem PySem.W PyProof.Rows
namespace Mine.Internal
theorem Zf    :Rep P h (.int i) v<->∃t,v=.int i t:=ZvS
theorem Zc    :Rep P h (.str i) v<->∃t,v=.str i t:=ZvS
theorem ZV    :Rep P h (.bool i) v<->v=.bool i:=ZvS
theorem Xo   :Rep P h .none v<->v=.none:=ZvS
theorem YA    :Rep P h (.tup l) v<->∃a vs n,v=.ref a/\P a/\h.get? a=some { cls:=.type "tuple",data:=.seq vs n }/\Zy P h l vs.toList:=ZvS
theorem Yn    :Rep P h (.lst l) v<->∃a vs n,v=.ref a/\P a/\h.get? a=some { cls:=.type "list",data:=.seq vs n }/\Zy P h l vs.toList:=ZvS
mutual
/-- values that==yR at as data of one make -/
noncomputable def alike:PV->PV->Bool
 |.none,.none=>true
 |.bool _,.bool _=>true
 |.int _,.int _=>true
 |.str _,.str _=>true
 |.tup l,.tup m=>alikeAll l m
 |.lst l,.lst m=>alikeAll l m
 |_,_=>false
noncomputable def alikeAll:List PV->List PV->Bool
 |a::l,b::m=>alike a b&&alikeAll l m
 |_,_=>true
end
mutual
noncomputable def eqv:PV->PV->Bool
 |.none,.none=>true
 |.bool a,.bool b=>a==b
 |.int a,.int b=>a==b
 |.str a,.str b=>a==b
 |.tup l,.tup m=>eqvAll l m
 |.lst l,.lst m=>eqvAll l m
 |_,_=>false
noncomputable def eqvAll:List PV->List PV->Bool
 |[],[]=>true
 |a::l,b::m=>eqv a b&&eqvAll l m
 |_,_=>false
end
mutual
noncomputable def dep:PV->Nat
 |.tup l=>Jd l+1
 |.lst l=>Jd l+1
 |_=>0
noncomputable def Jd:List PV->Nat
 |[]=>0
 |a::l=>max (dep a) (Jd l)
end
mutual
/-- no odd o6 in it -/
noncomputable def Km:PV->Bool
 |.YZ _=>false
 |.box ..=>false
 |.tup l=>plainAll l
 |.lst l=>plainAll l
 |_=>true
noncomputable def plainAll:List PV->Bool
 |[]=>true
 |a::l=>Km a&&plainAll l
end
theorem XB{P:Prop}(h:false=true):P:=absurd h Zz6
theorem QB{b:PV}(h:alike .none b=true):b=.none:=by cases b<;>first |rfl |exact XB h
theorem QA   (h:alike (.bool x) b=true):∃y,b=.bool y:=by cases b<;>first |exact⟨_,rfl⟩ |exact XB h
theorem JF   (h:alike (.int x) b=true):∃y,b=.int y:=by cases b<;>first |exact⟨_,rfl⟩ |exact XB h
theorem JI   (h:alike (.str x) b=true):∃y,b=.str y:=by cases b<;>first |exact⟨_,rfl⟩ |exact XB h
theorem JK   (h:alike (.tup l) b=true):∃m,b=.tup m/\alikeAll l m=true:=by cases b<;>first |exact⟨_,rfl,h⟩ |exact XB h
theorem JG   (h:alike (.lst l) b=true):∃m,b=.lst m/\alikeAll l m=true:=by cases b<;>first |exact⟨_,rfl,h⟩ |exact XB h
mutual
theorem eqv_refl:∀a:PV,alike a a=true->eqv a a=true
 |.none,_=>rfl
 |.YZ _,h=>XB h
 |.box ..,h=>XB h
 |.bool b,_=>beq_self_eq_true b
 |.int b,_=>beq_self_eq_true b
 |.str b,_=>beq_self_eq_true b
 |.tup l,h=>eqvAll_refl l h
 |.lst l,h=>eqvAll_refl l h
theorem eqvAll_refl:∀l:List PV,alikeAll l l=true->eqvAll l l=true
 |[],_=>rfl
 |a::l,h=>(ZzQ _ _).mpr ⟨eqv_refl a (Xw h).1,eqvAll_refl l (Xw h).2⟩
end
theorem all_nil    (x:Zy P h [] vs):vs=[]:=x
theorem all_cons      (x:Zy P h (a::l) vs):∃v r,vs=v::r/\Rep P h a v/\Zy P h l r:=x
mutual
theorem Rep.unique{P P':Zzq->Prop}{h:Zza}:∀{a b:PV} {v:Zzy},alike a b=true->Rep P h a v->Rep P' h b v->a=b
 |.none,b,v,Z9,x,y=>(QB Z9).symm
 |.YZ _,b,v,Z9,x,y=>by cases b<;>exact XB Z9
 |.box ..,b,v,Z9,x,y=>by cases b<;>exact XB Z9
 | .bool _,b,v,Z9,x,y=>by
   obtain⟨_,rfl⟩:=QA Z9
   cases (ZV.mp x).symm.trans (ZV.mp y);rfl
 | .int _,b,v,Z9,x,y=>by
   obtain⟨_,rfl⟩:=JF Z9
   obtain⟨t,e⟩:=Zf.mp x;obtain⟨u,e'⟩:=Zf.mp y
   cases e.symm.trans e';rfl
 | .str _,b,v,Z9,x,y=>by
   obtain⟨_,rfl⟩:=JI Z9
   obtain⟨t,e⟩:=Zc.mp x;obtain⟨u,e'⟩:=Zc.mp y
   cases e.symm.trans e';rfl
 | .tup l,b,v,Z9,x,y=>by
   obtain⟨m,rfl,Z9⟩:=JK Z9
   obtain⟨a,vs,n,e,_,h3,h4⟩:=YA.mp x;obtain⟨a',W6,n',e',_,k3,k4⟩:=YA.mp y
   cases e.symm.trans e'
   cases h3.symm.trans k3
   rw[Zy.unique Z9 h4 k4]
 | .lst l,b,v,Z9,x,y=>by
   obtain⟨m,rfl,Z9⟩:=JG Z9
   obtain⟨a,vs,n,e,_,h3,h4⟩:=Yn.mp x;obtain⟨a',W6,n',e',_,k3,k4⟩:=Yn.mp y
   cases e.symm.trans e'
   cases h3.symm.trans k3
   rw[Zy.unique Z9 h4 k4]
theorem Zy.unique{P P':Zzq->Prop}{h:Zza}:∀{l m:List PV} {vs:List Zzy},alikeAll l m=true->Zy P h l vs->Zy P' h m vs->l=m
 | [],m,vs,Z9,x,y=>by
   cases m with
   |nil=>rfl
   |cons b m=>obtain⟨_,_,e,_⟩:=all_cons y;cases (all_nil x).symm.trans e
 | a::l,m,vs,Z9,x,y=>by
   obtain⟨v,r,e,h2,h3⟩:=all_cons x
   cases m with
   |nil=>cases (all_nil y).symm.trans e
   | cons b m=>
     obtain⟨v',r',e',k2,k3⟩:=all_cons y
     cases e.symm.trans e'
     rw[Rep.unique (Xw Z9).1 h2 k2,Zy.unique (Xw Z9).2 h3 k3]
end
def pairAt(l m:List PV)(j:Nat):Bool:=match l[j]?,m[j]? with
 |some a,some b=>eqv a b
 |_,_=>false
theorem Ve:∀l m:List PV,((ZzW (min l.length m.length)).all (pairAt l m)&&l.length==m.length)=eqvAll l m
 |[],[]=>rfl
 |[],b::m=>rfl
 |a::l,[]=>rfl
 | a::l,b::m=>by
   have ih:=Ve l m
   have e:min (a::l).length (b::m).length=min l.length m.length+1:=by simp [Nat.succ_min_succ]
   rw[e,List.range_succ_eq_map,ZyF,ZvE]
   have h0:pairAt (a::l) (b::m) 0=eqv a b:=rfl
   have hs:(pairAt (a::l) (b::m))∘ZvR=pairAt l m:=rfl
   rw[h0,hs,show eqvAll (a::l) (b::m)=(eqv a b&&eqvAll l m) from rfl,<-ih]
   simp [Zjy]
theorem By  (h:l.length=m.length):(ZzW l.length).all (pairAt l m)=eqvAll l m:=by
 rw[<-Ve l m,<-h];simp
theorem AJ  (h:l.length≠m.length):eqvAll l m=false:=by
 rw[<-Ve l m];simp [h]
section
variable {P P':Zzq->Prop}{s:Zzu}
open PySem.SeqAt
theorem Wx    (h:s.heap.get? a=some { cls:=.type "tuple",data:=.seq vs n }):s.heap.IsTuple a vs:=⟨_,h,rfl,n,rfl⟩
theorem ZL{h:Zza}    (e:h.get? a=some { cls:=.type "list",data:=.seq vs n }):h.IsList a vs:=⟨_,e,rfl,n,rfl⟩
def Md(A:ZzH)(s:Zzu)(l m:List PV)(vs ws:List Zzy):Prop:=∀j (h1:j<vs.length) (h2:j<ws.length),EqAt A s vs[j] ws[j] (pairAt l m j)
theorem size_eq    {vs:Array Zzy}(x:Zy P h l vs.toList):vs.size=l.length:=x.length
section
variable {A:ZzH}{a a':Zzq}{vs W6:Array Zzy}{n n':Nat}{l m:List PV}
theorem RE(h3:s.heap.get? a=some { cls:=.type "tuple",data:=.seq vs n })(k3:s.heap.get? a'=some { cls:=.type "tuple",data:=.seq W6 n' })(h4:Zy P s.heap l vs.toList)(k4:Zy P' s.heap m W6.toList)(hu:A.units<cLine)(K:Md A.in1 s l m vs.toList W6.toList):RcAt A s (.ref a) (.ref a') (eqvAll l m):=by
 rw[<-Ve,<-size_eq h4,<-size_eq k4]
 exact RcAt.tuples (Wx h3) (Wx k3) hu λj j1 j2=>K j j1 j2
theorem RP(h3:s.heap.get? a=some { cls:=.type "list",data:=.seq vs n })(k3:s.heap.get? a'=some { cls:=.type "list",data:=.seq W6 n' })(h4:Zy P s.heap l vs.toList)(k4:Zy P' s.heap m W6.toList)(hu:A.units<cLine)(K:Md A.in1 s l m vs.toList W6.toList):RcAt A s (.ref a) (.ref a') (eqvAll l m):=by
 by_cases hsz:vs.size=W6.size
 ·rw[<-By ((size_eq h4).symm.trans (hsz.trans (size_eq k4))),<-size_eq h4]
  exact RcAt.lists (ZL h3) (ZL k3) hsz hu λj j1 j2=>K j j1 j2
 ·rw[AJ λe=>hsz ((size_eq h4).trans (e.trans (size_eq k4).symm))]
  exact RcAt.lists_lengths (ZL h3) (ZL k3) (bne_iff_ne.mpr hsz) hu
theorem iZ(h3:s.heap.get? a=some { cls:=.type "tuple",data:=.seq vs n })(k3:s.heap.get? a'=some { cls:=.type "tuple",data:=.seq W6 n' })(h4:Zy P s.heap l vs.toList)(k4:Zy P' s.heap m W6.toList)(hu:A.units<cLine)(K:Md A.in1 s l m vs.toList W6.toList):RcNeAt A s (.ref a) (.ref a') (!eqvAll l m):=by
 rw[<-Ve,<-size_eq h4,<-size_eq k4]
 exact RcNeAt.tuples (Wx h3) (Wx k3) hu λj j1 j2=>K j j1 j2
theorem iY(h3:s.heap.get? a=some { cls:=.type "list",data:=.seq vs n })(k3:s.heap.get? a'=some { cls:=.type "list",data:=.seq W6 n' })(h4:Zy P s.heap l vs.toList)(k4:Zy P' s.heap m W6.toList)(hu:A.units<cLine)(K:Md A.in1 s l m vs.toList W6.toList):RcNeAt A s (.ref a) (.ref a') (!eqvAll l m):=by
 by_cases hsz:vs.size=W6.size
 ·rw[<-By ((size_eq h4).symm.trans (hsz.trans (size_eq k4))),<-size_eq h4]
  exact RcNeAt.lists (ZL h3) (ZL k3) hsz hu λj j1 j2=>K j j1 j2
 ·rw[AJ λe=>hsz ((size_eq h4).trans (e.trans (size_eq k4).symm))]
  exact RcNeAt.lists_lengths (ZL h3) (ZL k3) (bne_iff_ne.mpr hsz) hu
end
theorem Bo  (h:u+(d+1)<cLine):u<cLine:=Zz4 (Zzt _ _) h
theorem B0{A:ZzH}  (h:A.units+(d+1)<cLine):A.in1.units+d<cLine:=by
 rw[<-ZzA,Zxd] at h;exact h
theorem sZ  (h:u+max a b<cLine):u+a<cLine:=Zz4 (Zzr (ZqN _ _) u) h
theorem s9  (h:u+max a b<cLine):u+b<cLine:=Zz4 (Zzr (ZvP _ _) u) h
mutual
theorem uw:∀{a b:PV} {A:ZzH} {v w:Zzy},Rep P s.heap a v->Rep P' s.heap b w->alike a b=true->A.units+dep a<cLine->EqAt A s v w (eqv a b)
 | .none,b,A,v,w,x,y,Z9,hu=>by
   cases QB Z9
   rw[Xo.mp x,Xo.mp y];exact EqAt.same _
 |.YZ _,b,A,v,w,x,y,Z9,hu=>by cases b<;>exact XB Z9
 |.box ..,b,A,v,w,x,y,Z9,hu=>by cases b<;>exact XB Z9
 | .bool p,b,A,v,w,x,y,Z9,hu=>by
   obtain⟨_,rfl⟩:=QA Z9
   rw[ZV.mp x,ZV.mp y];exact EqAt.bool_bool _ _
 | .int p,b,A,v,w,x,y,Z9,hu=>by
   obtain⟨_,rfl⟩:=JF Z9
   obtain⟨t,rfl⟩:=Zf.mp x;obtain⟨u,rfl⟩:=Zf.mp y;exact EqAt.int_int _ _ _ _
 | .str p,b,A,v,w,x,y,Z9,hu=>by
   obtain⟨_,rfl⟩:=JI Z9
   obtain⟨t,rfl⟩:=Zc.mp x;obtain⟨u,rfl⟩:=Zc.mp y;exact EqAt.str_str _ _ _ _
 | .tup l,b,A,v,w,x,y,Z9,hu=>by
   obtain⟨m,rfl,PS⟩:=JK Z9
   obtain⟨a,vs,n,rfl,_,h3,h4⟩:=YA.mp x;obtain⟨a',W6,n',rfl,_,k3,k4⟩:=YA.mp y
   by_cases NJ:a=a'
   ·subst NJ
    have e:=Rep.unique Z9 x y
    rw[<-e] at Z9 ⊢
    rw[eqv_refl _ Z9];exact EqAt.same _
   ·exact EqAt.of_refs NJ (RE h3 k3 h4 k4 (Bo hu) (WH (A:=A.in1) h4 k4 PS (B0 hu)))
 | .lst l,b,A,v,w,x,y,Z9,hu=>by
   obtain⟨m,rfl,PS⟩:=JG Z9
   obtain⟨a,vs,n,rfl,_,h3,h4⟩:=Yn.mp x;obtain⟨a',W6,n',rfl,_,k3,k4⟩:=Yn.mp y
   by_cases NJ:a=a'
   ·subst NJ
    have e:=Rep.unique Z9 x y
    rw[<-e] at Z9 ⊢
    rw[eqv_refl _ Z9];exact EqAt.same _
   ·exact EqAt.of_refs NJ (RP h3 k3 h4 k4 (Bo hu) (WH (A:=A.in1) h4 k4 PS (B0 hu)))
theorem WH:∀{l m:List PV} {A:ZzH} {vs ws:List Zzy},Zy P s.heap l vs->Zy P' s.heap m ws->alikeAll l m=true->A.units+Jd l<cLine->Md A s l m vs ws
 |[],_,_,_,_,x,_,_,_,j,h1,_=>by cases all_nil x;exact absurd h1 (Zwq _)
 | a::l,m,A,vs,ws,x,y,Z9,hu,j,h1,h2=>by
   obtain⟨v,r,rfl,q2,q3⟩:=all_cons x
   cases m with
   |nil=>cases all_nil y;exact absurd h2 (Zwq _)
   | cons b m=>
     obtain⟨v',r',rfl,k2,k3⟩:=all_cons y
     cases j with
     |zero=>exact uw (A:=A) q2 k2 (Xw Z9).1 (sZ hu)
     |succ j=>exact WH (A:=A) q3 k3 (Xw Z9).2 (s9 hu) j (Zx4 h1) (Zx4 h2)
end
theorem HU    (x:Rep P s.heap a v)(y:Rep P' s.heap b w)(Z9:alike a b=true)(hu:A.units+dep a<cLine):RcAt A s v w (eqv a b):=by
 cases a with
 | none=>
   cases QB Z9
   rw[Xo.mp x,Xo.mp y];exact RcAt.none_none
 |YZ p=>cases b<;>exact XB Z9
 |box T ks l=>cases b<;>exact XB Z9
 | bool p=>
   obtain⟨_,rfl⟩:=QA Z9
   rw[ZV.mp x,ZV.mp y];exact RcAt.bool_bool _ _
 | int p=>
   obtain⟨_,rfl⟩:=JF Z9
   obtain⟨t,rfl⟩:=Zf.mp x;obtain⟨u,rfl⟩:=Zf.mp y;exact RcAt.int_int _ _ _ _
 | str p=>
   obtain⟨_,rfl⟩:=JI Z9
   obtain⟨t,rfl⟩:=Zc.mp x;obtain⟨u,rfl⟩:=Zc.mp y;exact RcAt.str_str _ _ _ _
 | tup l=>
   obtain⟨m,rfl,Z9⟩:=JK Z9
   obtain⟨a,vs,n,rfl,_,h3,h4⟩:=YA.mp x;obtain⟨a',W6,n',rfl,_,k3,k4⟩:=YA.mp y
   exact RE h3 k3 h4 k4 (Bo hu) (WH (A:=A.in1) h4 k4 Z9 (B0 hu))
 | lst l=>
   obtain⟨m,rfl,Z9⟩:=JG Z9
   obtain⟨a,vs,n,rfl,_,h3,h4⟩:=Yn.mp x;obtain⟨a',W6,n',rfl,_,k3,k4⟩:=Yn.mp y
   exact RP h3 k3 h4 k4 (Bo hu) (WH (A:=A.in1) h4 k4 Z9 (B0 hu))
theorem A6    (x:Rep P s.heap a v)(y:Rep P' s.heap b w)(Z9:alike a b=true)(hu:A.units+dep a<cLine):SeqAt.RcNeAt A s v w (!eqv a b):=by
 cases a with
 | none=>
   cases QB Z9
   rw[Xo.mp x,Xo.mp y];exact SeqAt.RcNeAt.none_none
 |YZ p=>cases b<;>exact XB Z9
 |box T ks l=>cases b<;>exact XB Z9
 | bool p=>
   obtain⟨_,rfl⟩:=QA Z9
   rw[ZV.mp x,ZV.mp y];exact SeqAt.RcNeAt.bool_bool _ _
 | int p=>
   obtain⟨_,rfl⟩:=JF Z9
   obtain⟨t,rfl⟩:=Zf.mp x;obtain⟨u,rfl⟩:=Zf.mp y;exact SeqAt.RcNeAt.int_int _ _ _ _
 | str p=>
   obtain⟨_,rfl⟩:=JI Z9
   obtain⟨t,rfl⟩:=Zc.mp x;obtain⟨u,rfl⟩:=Zc.mp y;exact SeqAt.RcNeAt.str_str _ _ _ _
 | tup l=>
   obtain⟨m,rfl,Z9⟩:=JK Z9
   obtain⟨a,vs,n,rfl,_,h3,h4⟩:=YA.mp x;obtain⟨a',W6,n',rfl,_,k3,k4⟩:=YA.mp y
   exact iZ h3 k3 h4 k4 (Bo hu) (WH (A:=A.in1) h4 k4 Z9 (B0 hu))
 | lst l=>
   obtain⟨m,rfl,Z9⟩:=JG Z9
   obtain⟨a,vs,n,rfl,_,h3,h4⟩:=Yn.mp x;obtain⟨a',W6,n',rfl,_,k3,k4⟩:=Yn.mp y
   exact iY h3 k3 h4 k4 (Bo hu) (WH (A:=A.in1) h4 k4 Z9 (B0 hu))
end
section
variable {C:Cx}{k:Nat}{env:Env}{σ:Zx}
theorem Ev.two     (h₁:Ev C k env σ e₁ a)(h₂:Ev C k env σ e₂ b)(h:ZA C k f a b c)
 {A s Q E P} (hr:ZH k A) (hg:C.G s.heap) (hh:Wq P env σ s.heap) (hb:ZM P s.heap) (q:∀v s',ZzK s s'->Rep P s'.heap c v->Q v s')
 (ht:wpAny C.M A (eval e₁ env) (λva s₁=>wpAny C.M A (eval e₂ env) (λvb s₂=>wpAny C.M A (f va vb) Q E s₂) E s₁) E s->wpAny C.M A t Q E s):wpAny C.M A t Q E s:=by
 refine ht (h₁ A s _ _ P hr hg hh hb λva s₁ k₁ r₁=>?_)
 have x₁:=Zw k₁
 refine h₂ A s₁ _ _ P hr (C.ext hg x₁) (hh.ext x₁) (hb.ext x₁) λvb s₂ k₂ r₂=>?_
 have x₂:=Zw k₂
 exact h A s₂ _ _ P va vb hr (C.ext (C.ext hg x₁) x₂) (r₁.ext x₂) r₂ ((hb.ext x₁).ext x₂) λv s' k' r'=>q v s' (Zq (Zq k₁ k₂) k') r'
theorem Ev.binop     (h₁:Ev C k env σ l a)(h₂:Ev C k env σ r b)(h:ZA C k (binaryOp op) a b c):Ev C k env σ (.BinOp l op r pos) c:=
 λ_ _ _ _ _ hr hg hh hb q=>Ev.two h₁ h₂ h hr hg hh hb q λx=>wpAny_BinOp x
theorem Ev.cmp     (h₁:Ev C k env σ l a)(h₂:Ev C k env σ r b)(h:ZA C k (compareOp op) a b c)(hm:Zy3 op r=false:=by with_unfolding_all rfl):
 Ev C k env σ (.Compare l [op] [r] pos) c:=
 λ_ _ _ _ _ hr hg hh hb q=>Ev.two h₁ h₂ h hr hg hh hb q λx=>wpAny_Compare1 x hm
theorem YV.cmp      (h₁:Ev C k env σ l a)(h₂:Ev C k env σ r b)(h:ZA C k (compareOp op) a b (.bool c))(hm:Zy3 op r=false:=by with_unfolding_all rfl):
 YV C k env σ (.Compare l [op] [r] pos) c:=λA s Q E P hr hg hh hb q=>by
 refine wpAny_isTrue_Compare1 ?_ hm
 refine h₁ A s _ _ P hr hg hh hb λva s₁ k₁ r₁=>?_
 have x₁:=Zw k₁
 refine h₂ A s₁ _ _ P hr (C.ext hg x₁) (hh.ext x₁) (hb.ext x₁) λvb s₂ k₂ r₂=>?_
 have x₂:=Zw k₂
 refine h A s₂ _ _ P va vb hr (C.ext (C.ext hg x₁) x₂) (r₁.ext x₂) r₂ ((hb.ext x₁).ext x₂) λv s' k' r'=>?_
 rw[ZV] at r'
 subst r'
 exact wpAny_truthy_bool (q s' (Zq (Zq k₁ k₂) k'))
theorem ZA.add_int :ZA C k (binaryOp .Add) (.int a) (.int b) (.int (a+b)):=λA s Q E P va vb hr hg ra rb hb q=>by
 obtain⟨t,rfl⟩:=Zf.mp ra;obtain⟨u,rfl⟩:=Zf.mp rb
 exact PyProof.Rows.add_int (q _ _ (ZZ s _) (Zf.mpr ⟨_,rfl⟩))
theorem ZA.sub_int :ZA C k (binaryOp .Sub) (.int a) (.int b) (.int (a-b)):=λA s Q E P va vb hr hg ra rb hb q=>by
 obtain⟨t,rfl⟩:=Zf.mp ra;obtain⟨u,rfl⟩:=Zf.mp rb
 exact PyProof.Rows.sub_int (q _ _ (ZZ s _) (Zf.mpr ⟨_,rfl⟩))
theorem ZA.mul_int  (hm:IntMulOk a b):ZA C k (binaryOp .Mult) (.int a) (.int b) (.int (a*b)):=λA s Q E P va vb hr hg ra rb hb q=>by
 obtain⟨t,rfl⟩:=Zf.mp ra;obtain⟨u,rfl⟩:=Zf.mp rb
 exact PyProof.Rows.mul_int (q _ _ (ZZ s _) (Zf.mpr ⟨_,rfl⟩)) hm
theorem ZA.ug  (IS:b≠0)(hp:Zx0 a b=false):ZA C k (binaryOp .FloorDiv) (.int a) (.int b) (.int (a.fdiv b)):=λA s Q E P va vb hr hg ra rb hb q=>by
 obtain⟨t,rfl⟩:=Zf.mp ra;obtain⟨u,rfl⟩:=Zf.mp rb
 exact PyProof.Rows.floordiv_int IS (q _ _ (ZZ s _) (Zf.mpr ⟨_,rfl⟩)) (.inl hp)
theorem ZA.mod_int  (IS:b≠0):ZA C k (binaryOp .Mod) (.int a) (.int b) (.int (a.fmod b)):=λA s Q E P va vb hr hg ra rb hb q=>by
 obtain⟨t,rfl⟩:=Zf.mp ra;obtain⟨u,rfl⟩:=Zf.mp rb
 exact PyProof.Rows.mod_int' IS (q _ _ (ZZ s _) (Zf.mpr ⟨_,rfl⟩))
theorem ZA.pow_int  (h0:0<=b)(hsz:(Zw1 a:Int)*b<=2 ^ 27):ZA C k (binaryOp .Pow) (.int a) (.int b) (.int (a ^ b.toNat)):=λA s Q E P va vb hr hg ra rb hb q=>by
 obtain⟨t,rfl⟩:=Zf.mp ra;obtain⟨u,rfl⟩:=Zf.mp rb
 exact PyProof.Rows.pow_int h0 hsz (q _ _ (ZZ s _) (Zf.mpr ⟨_,rfl⟩))
theorem ZA.add_str  (hsz:a.length+b.length<=Zzx):ZA C k (binaryOp .Add) (.str a) (.str b) (.str (a++b)):=λA s Q E P va vb hr hg ra rb hb q=>by
 obtain⟨t,rfl⟩:=Zc.mp ra;obtain⟨u,rfl⟩:=Zc.mp rb
 exact PyProof.Rows.add_str (λt' tk=>q _ _ (ZZ s _) (Zc.mpr ⟨_,rfl⟩)) hsz
theorem ZA.lt_int :ZA C k (compareOp .Lt) (.int a) (.int b) (.bool (decide (a<b))):=λA s Q E P va vb hr hg ra rb hb q=>by
 obtain⟨t,rfl⟩:=Zf.mp ra;obtain⟨u,rfl⟩:=Zf.mp rb
 exact PyProof.Rows.lt_int (q _ _ (Z4 s) (ZV.mpr rfl))
theorem ZA.gt_int :ZA C k (compareOp .Gt) (.int a) (.int b) (.bool (decide (b<a))):=λA s Q E P va vb hr hg ra rb hb q=>by
 obtain⟨t,rfl⟩:=Zf.mp ra;obtain⟨u,rfl⟩:=Zf.mp rb
 exact PyProof.Rows.gt_int (q _ _ (Z4 s) (ZV.mpr rfl))
theorem ZA.le_int :ZA C k (compareOp .LtE) (.int a) (.int b) (.bool (decide (a<=b))):=λA s Q E P va vb hr hg ra rb hb q=>by
 obtain⟨t,rfl⟩:=Zf.mp ra;obtain⟨u,rfl⟩:=Zf.mp rb
 exact PyProof.Rows.le_int (q _ _ (Z4 s) (ZV.mpr rfl))
theorem ZA.ge_int :ZA C k (compareOp .GtE) (.int a) (.int b) (.bool (decide (b<=a))):=λA s Q E P va vb hr hg ra rb hb q=>by
 obtain⟨t,rfl⟩:=Zf.mp ra;obtain⟨u,rfl⟩:=Zf.mp rb
 exact PyProof.Rows.ge_int (q _ _ (Z4 s) (ZV.mpr rfl))
theorem ZA.in_str :ZA C k (compareOp .In) (.str b) (.str a) (.bool (ZyY a b)):=λA s Q E P va vb hr hg ra rb hb q=>by
 obtain⟨t,rfl⟩:=Zc.mp ra;obtain⟨u,rfl⟩:=Zc.mp rb
 exact PyProof.Rows.in_str (q _ _ (Z4 s) (ZV.mpr rfl))
theorem ZA.is_none  (hp:Km a=true):ZA C k (compareOp .Is) a .none (.bool (eqv a .none)):=λA s Q E P va vb hr hg ra rb hb q=>by
 rw[Xo] at rb;subst rb
 refine PySem.is_none (q _ _ (Z4 s) (ZV.mpr ?_))
 cases a with
 |none=>rw[Xo.mp ra];rfl
 |YZ _=>exact XB hp
 |box _ _ _=>exact XB hp
 |bool _=>rw[ZV.mp ra];rfl
 |int _=>obtain⟨_,rfl⟩:=Zf.mp ra;rfl
 |str _=>obtain⟨_,rfl⟩:=Zc.mp ra;rfl
 |tup _=>obtain⟨_,_,_,rfl,_⟩:=YA.mp ra;rfl
 |lst _=>obtain⟨_,_,_,rfl,_⟩:=Yn.mp ra;rfl
theorem ZA.isNot_none  (hp:Km a=true):ZA C k (compareOp .IsNot) a .none (.bool (!eqv a .none)):=λA s Q E P va vb hr hg ra rb hb q=>by
 rw[Xo] at rb;subst rb
 refine PySem.isNot_none (q _ _ (Z4 s) (ZV.mpr ?_))
 cases a with
 |none=>rw[Xo.mp ra];rfl
 |YZ _=>exact XB hp
 |box _ _ _=>exact XB hp
 |bool _=>rw[ZV.mp ra];rfl
 |int _=>obtain⟨_,rfl⟩:=Zf.mp ra;rfl
 |str _=>obtain⟨_,rfl⟩:=Zc.mp ra;rfl
 |tup _=>obtain⟨_,_,_,rfl,_⟩:=YA.mp ra;rfl
 |lst _=>obtain⟨_,_,_,rfl,_⟩:=Yn.mp ra;rfl
theorem ZA.is_bool :ZA C k (compareOp .Is) (.bool a) (.bool b) (.bool (a==b)):=λA s Q E P va vb hr hg ra rb hb q=>by
 rw[ZV] at ra rb;subst ra rb
 exact wpAny_is_plain rfl (q _ _ (Z4 s) (ZV.mpr (by cases a<;>cases b<;>rfl)))
theorem ZA.SR :ZA C k (compareOp .IsNot) (.bool a) (.bool b) (.bool (!(a==b))):=λA s Q E P va vb hr hg ra rb hb q=>by
 rw[ZV] at ra rb;subst ra rb
 exact wpAny_isNot_plain rfl (q _ _ (Z4 s) (ZV.mpr (by cases a<;>cases b<;>rfl)))
end
end Mine.Internal
end
section
open PySem PySem.W PyProof.Rows
namespace Mine.Internal
def YE(P:Zzq->Prop)(h:Zza):AV->Zzy->Prop
 |.val d,v=>Rep P h d v
 |.own ds,v=>∃a vs n,v=.ref a/\h.get? a=some { cls:=.type "list",data:=.seq vs n }/\Zy P h ds vs.toList
 |.tab c ds,v=>∃a d b vs,v=.ref a/\TabAt h c a d b vs/\Zy P h ds vs
def Wy(P:Zzq->Prop)(h:Zza):List AV->List Zzy->Prop
 |[],vs=>vs=[]
 |d::ds,vs=>∃v r,vs=v::r/\YE P h d v/\Wy P h ds r
theorem YE.ext     (x:YE P h a v)(hk:ZY h h'):YE P h' a v:=by
 cases a with
 |val d=>exact Rep.ext x hk
 |own ds=>obtain⟨b,vs,n,e,g,r⟩:=x;exact⟨b,vs,n,e,hk _ _ g,r.ext hk⟩
 |tab c ds=>obtain⟨a,d,b,vs,e,T,r⟩:=x;exact⟨a,d,b,vs,e,T.at λa o _ e=>hk a o e,r.ext hk⟩
theorem Wy.ext   (hk:ZY h h'):∀{as:List AV} {vs:List Zzy},Wy P h as vs->Wy P h' as vs
 |[],_,x=>x
 |_::_,_,⟨v,r,e,a,b⟩=>⟨v,r,e,a.ext hk,Wy.ext hk b⟩
def AV.pv:AV->PV
 |.val d=>d
 |.own ds=>.lst ds
 |.tab c ds=>.box (Y6 c) [] ds
theorem YE.pv     (x:YE P h a v):Rep (λ_=>True) h a.pv v:=by
 cases a with
 |val d=>exact Rep.mono (λ_ _ _ _=>trivial) (λ_ _ _ e=>e) x
 |own ds=>exact ZzY (λb=>ZzY λvs=>ZzY λn t=>⟨t.1,trivial,t.2.1,t.2.2.mono (λ_ _ _ _=>trivial) λ_ _ _ e=>e⟩) x
 |tab c ds=>exact Zyh x λa t=>t.elim λd t=>t.elim λb t=>t.elim λvs t=>⟨vs,⟨a,d,b,t.1,trivial,trivial,trivial,t.2.1⟩,t.2.2.mono (λ_ _ _ _=>trivial) λ_ _ _ e=>e⟩
theorem Wy.Rb  :∀{as:List AV} {vs:List Zzy},Wy P h as vs->Zy (λ_=>True) h (as.map AV.pv) vs
 |[],_,x=>by subst x;exact Zy.nil
 |_::_,_,⟨v,r,e,a,b⟩=>by subst e;exact Zy.cons a.pv b.Rb
section
variable {C:Cx}{k:Nat}{env:Env}{σ:Zx}
def Z1(C:Cx)(k:Nat)(env:Env)(σ:Zx)(e:Zzw)(a:AV):Prop:=
 ∀A s Q E P,ZH k A->C.G s.heap->Wq P env σ s.heap->ZM P s.heap->(∀v s',ZzK s s'->YE P s'.heap a v->Q v s')->wpAny C.M A (eval e env) Q E s
theorem Z1.val   (h:Ev C k env σ e d):Z1 C k env σ e (.val d):=h
def ZQ(C:Cx)(k:Nat)(env:Env)(σ:Zx):List Zzw->List AV->Prop
 |[],as=>as=[]
 |e::es,as=>∃a r,as=a::r/\Z1 C k env σ e a/\ZQ C k env σ es r/\(Zyf (e::es) env=(false,eval e env)::Zyf es env)
theorem ZQ.nil:ZQ C k env σ [] []:=rfl
theorem ZQ.cons     (h:Z1 C k env σ e a)(hs:ZQ C k env σ es r)(he:Zyf (e::es) env=(false,eval e env)::Zyf es env:=by rfl):
 ZQ C k env σ (e::es) (a::r):=⟨a,r,rfl,h,hs,he⟩
theorem ZQ.spliced :∀{es:List Zzw} {as:List AV},ZQ C k env σ es as->∀{A s E P} {Q:List Zzy->Zzu->Prop},ZH k A->C.G s.heap->Wq P env σ s.heap->ZM P s.heap->
 (∀vs s',ZzK s s'->Wy P s'.heap as vs->Q vs s')->wpAny C.M A (spliced (backTo pos (Zyf es env))) Q E s
 | [],as,h,A,s,E,P,Q,hr,hg,hh,hb,q=>by
   have h':as=[]:=h
   subst h'
   exact Zxc (q [] s (Z4 s) rfl)
 | e::es,as,h,A,s,E,P,Q,hr,hg,hh,hb,q=>by
   obtain⟨a,r,rfl,ha,hs,he⟩:=h
   refine Zyp (ha A s _ _ P hr hg hh hb λv s₁ k₁ r₁=>?_) he
   have x₁:=Zw k₁
   refine ZQ.spliced hs hr (C.ext hg x₁) (hh.ext x₁) (hb.ext x₁) λvs s₂ k₂ r₂=>?_
   exact q _ s₂ (Zq k₁ k₂) ⟨v,vs,rfl,r₁.ext (Zw k₂),r₂⟩
theorem ZQ.plain :∀{es:List Zzw} {as:List AV},ZQ C k env σ es as->(backTo pos (Zyf es env)).any (·.1)=false
 |[],_,_=>rfl
 | e::es,_,h=>by
   obtain⟨a,r,rfl,ha,hs,he⟩:=h
   rw[he]
   show (false||(backTo pos (Zyf es env)).any (·.1))=false
   rw[ZQ.plain hs];rfl
theorem ZQ.args     (h:ZQ C k env σ es as){A s E P}  (hr:ZH k A)(hg:C.G s.heap)(hh:Wq P env σ s.heap)(hb:ZM P s.heap)
 (q:∀vs s',ZzK s s'->Wy P s'.heap as vs->Q ⟨vs,[]⟩ s'):wpAny C.M A (evalArgs f true (backTo pos (Zyf es env)) []) Q E s:=by
 cases es with
 | nil=>
   have h':as=[]:=h
   subst h'
   exact PyProof.Rows.evalArgs_empty (q [] s (Z4 s) rfl)
 | cons e es=>
   have IA:=ZQ.spliced (pos:=pos) h (A:=A) (s:=s) (E:=E) (P:=P) (Q:=λvs s'=>Q ⟨vs,[]⟩ s') hr hg hh hb q
   obtain⟨a,r,rfl,ha,hs,he⟩:=h
   rw[he] at IA ⊢
   exact Zxv IA
def ZG(C:Cx)(k:Nat)(f:Zzy)(as:List AV)(d:PV):Prop:=
 ∀A s Q E P vs,ZH k A->C.G s.heap->Wy P s.heap as vs->ZM P s.heap->(∀v s',ZzK s s'->Rep P s'.heap d v->Q v s')->wpAny C.M A (call f vs) Q E s
structure VX(C:Cx)(env:Env)(x:oO)(v:Zzy):Prop where
 miss:C.mg x=none
 is:C.mb x=some v
 kind:env.kindOf x=some .globalImplicit
structure Ah(C:Cx)(env:Env)(x:oO)(v:Zzy):Prop where
 is:C.mg x=some v
 kind:env.kindOf x=some .globalImplicit
theorem name_B    {A s E}  (hf:Zt env)(b:VX C env x v)(hg:C.G s.heap)(h:Q v s)(hd:(x==("__debug__":oO))=false:=by decide):
 wpAny C.M A (eval (.Name x pos) env) Q E s:=
 ZvI hf.kind b.kind (Calls.loadGlobal_builtin (by rw[hf.globals];exact hg.g) b.miss (by rw[hf.builtins];exact hg.b) b.is h) hd
theorem Jf    {A s E}  (hf:Zt env)(b:Ah C env x v)(hg:C.G s.heap)(h:Q v s)(hd:(x==("__debug__":oO))=false:=by decide):
 wpAny C.M A (eval (.Name x pos) env) Q E s:=
 ZvI hf.kind b.kind (Calls.loadGlobal_global (by rw[hf.globals];exact hg.g) b.is h) hd
theorem Ym(x:oO)(p:Pos)(args:List Zzw)(pos:Pos)(env:Env):eval (.Call (.Name x p) args [] pos) env=(do
 callWith pos (<-eval (.Name x p) env) [] (backTo pos (Zyf args env)) (backToKw pos (keywordEach [] env))):=rfl
theorem Ev.N3  {id:String}     (hf:Zt env)(b:VX C env x (.builtin id))(ha:ZQ C k env σ args as)(hc:ZG C k (.builtin id) as d)
 (hd:(x==("__debug__":oO))=false:=by decide):Ev C k env σ (.Call (.Name x p) args [] pos) d:=λA s Q E P hr hg hh hb q=>by
 rw[Ym]
 refine Zzz (name_B hf b hg ?_ hd)
 refine ZyJ ha.plain (ha.args hr hg hh hb λvs s₁ k₁ r₁=>?_)
 have x₁:=Zw k₁
 exact hc A s₁ _ _ P vs hr (C.ext hg x₁) r₁ (hb.ext x₁) λv s' k' r'=>q v s' (Zq k₁ k') r'
theorem Ev.N2       (hf:Zt env)(b:VX C env x (.type T))(ha:ZQ C k env σ args as)(hc:ZG C k (.type T) as d)
 (hd:(x==("__debug__":oO))=false:=by decide):Ev C k env σ (.Call (.Name x p) args [] pos) d:=λA s Q E P hr hg hh hb q=>by
 rw[Ym]
 refine Zzz (name_B hf b hg ?_ hd)
 refine ZyE ha.plain (ha.args hr hg hh hb λvs s₁ k₁ r₁=>?_)
 have x₁:=Zw k₁
 exact hc A s₁ _ _ P vs hr (C.ext hg x₁) r₁ (hb.ext x₁) λv s' k' r'=>q v s' (Zq k₁ k') r'
def XH(C:Cx)(f:Zzq):Prop:=∃o fd,(∀h,C.G h->h.get? f=some o)/\o.data=.func fd
theorem Ev.cu       (hf:Zt env)(b:Ah C env x (.ref f))(R9:XH C f)(ha:ZQ C k env σ args as)(hc:ZG C k (.ref f) as d)
 (hd:(x==("__debug__":oO))=false:=by decide):Ev C k env σ (.Call (.Name x p) args [] pos) d:=λA s Q E P hr hg hh hb q=>by
 obtain⟨o,fd,ho,RY⟩:=R9
 rw[Ym]
 refine Zzz (Jf hf b hg ?_ hd)
 refine Zub (o:=o) (fd:=fd) (ha.args hr hg hh hb λvs s₁ k₁ r₁=>?_)
 have x₁:=Zw k₁
 exact⟨⟨ho _ (C.ext hg x₁),RY⟩,hc A s₁ _ _ P vs hr (C.ext hg x₁) r₁ (hb.ext x₁) λv s' k' r'=>q v s' (Zq k₁ k') r'⟩
theorem Wy.vals  :∀{ds:List PV} {vs:List Zzy},Wy P h (ds.map .val) vs->Zy P h ds vs
 |[],_,x=>by have x':_=_:=x;subst x';exact Zy.nil
 |_::_,_,⟨v,r,e,a,b⟩=>by subst e;exact Zy.cons a b.vals
theorem Ev.tuple     (h:ZQ C k env σ es (ds.map .val))(hsz:ds.length<=Zzx):Ev C k env σ (.Tuple es n pos) (.tup ds):=λA s Q E P hr hg hh hb q=>by
 refine wpAny_Tuple (h.spliced hr hg hh hb λvs s₁ k₁ r₁=>?_)
 have rv:=r₁.vals
 refine⟨by rw[rv.length];exact hsz,q _ _ (Zq k₁ (X1 s₁ _)) (YA.mpr ⟨_,vs.toArray,0,rfl,(hb.ext (Zw k₁)).new,Zzl _ rfl,?_⟩)⟩
 exact rv.ext λ_ _ e=>Zzj _ e
theorem Ev.list    (h:ZQ C k env σ es (ds.map .val))(hsz:ds.length<=Zzx):Ev C k env σ (.List es pos) (.lst ds):=λA s Q E P hr hg hh hb q=>by
 refine wpAny_List (h.spliced hr hg hh hb λvs s₁ k₁ r₁=>?_)
 have rv:=r₁.vals
 refine⟨by rw[rv.length];exact hsz,q _ _ (Zq k₁ (X1 s₁ _)) (Yn.mpr ⟨_,vs.toArray,0,rfl,(hb.ext (Zw k₁)).new,Zzl _ rfl,?_⟩)⟩
 exact rv.ext λ_ _ e=>Zzj _ e
theorem Ev.xj     (ht:YV C k env σ t c)(ha:c=true->Ev C k env σ a d)(WI:c=false->Ev C k env σ b d):Ev C k env σ (.IfExp t a b pos) d:=λA s Q E P hr hg hh hb q=>by
 show wpAny C.M A (do if <-isTrue t env (eval t env) then eval a env else eval b env) Q E s
 refine Zzz (ht A s _ _ P hr hg hh hb λs₁ k₁=>?_)
 have x₁:=Zw k₁
 cases c with
 |true=>exact ha rfl A s₁ _ _ P hr (C.ext hg x₁) (hh.ext x₁) (hb.ext x₁) λv s' k' r'=>q v s' (Zq k₁ k') r'
 |false=>exact WI rfl A s₁ _ _ P hr (C.ext hg x₁) (hh.ext x₁) (hb.ext x₁) λv s' k' r'=>q v s' (Zq k₁ k') r'
noncomputable def xT:PV->Option Bool
 |.none=>some false
 |.bool b=>some b
 |.int i=>some (i != 0)
 |.str x=>some (x.length != 0)
 |_=>ZyW
theorem YV.value    (h:Ev C k env σ e d)(ht:xT d=some b)(hz:∀x,d=.str x->x.length<=Zzx)(he:isTrue e env (eval e env)=(do let v <-eval e env;standAt e.pos;holding [v] (truthy v)):=by rfl):
 YV C k env σ e b:=λA s Q E P hr hg hh hb q=>by
 refine wpAny_isTrue_value (h A s _ _ P hr hg hh hb λv s₁ k₁ r₁=>?_) he
 cases d with
 |none=>rw[Xo] at r₁;subst r₁;cases ht;exact Zzi (q s₁ k₁)
 |bool c=>rw[ZV] at r₁;subst r₁;cases ht;exact wpAny_truthy_bool (q s₁ k₁)
 | int i=>
   obtain⟨t,rfl⟩:=Zf.mp r₁
   cases ht
   exact PyProof.Rows.truthy_int (q s₁ k₁)
 | str x=>
   obtain⟨t,rfl⟩:=Zc.mp r₁
   cases ht
   have hx:=hz x rfl
   rw[ZzS] at hx
   refine PySem.P.truthy_str (Nm hx) ?_
   rw[show ((x.length:Int) != 0)=(x.length != 0) from (show ∀n:Nat,((n:Int) != 0)=(n != 0) from λn=>by cases n<;>rfl) _]
   exact q _ (Zq k₁ (ZZ s₁ _))
 |tup _=>cases ht
 |YZ _=>cases ht
 |box _ _ _=>cases ht
 |lst _=>cases ht
theorem YV.and_nil    (h:∀A s Q E P,ZH k A->C.G s.heap->Wq P env σ s.heap->ZM P s.heap->(∀s',ZzK s s'->Q b s')->wpAny C.M A (allTrue .And vs env) Q E s):
 YV C k env σ (.BoolOp .And vs pos) b:=λA s Q E P hr hg hh hb q=>wpAny_isTrue_BoolOp (h A s Q E P hr hg hh hb q)
def U3(C:Cx)(k:Nat)(env:Env)(σ:Zx)(vs:List Zzw)(b:Bool):Prop:=
 ∀A s Q E P,ZH k A->C.G s.heap->Wq P env σ s.heap->ZM P s.heap->(∀s',ZzK s s'->Q b s')->wpAny C.M A (allTrue .And vs env) Q E s
theorem U3.nil:U3 C k env σ [] true:=λA s Q E P hr hg hh hb q=>wpAny_allTrue_And_nil (q s (Z4 s))
theorem U3.cons    (ha:YV C k env σ e a)(hs:a=true->U3 C k env σ es b):U3 C k env σ (e::es) (a&&b):=λA s Q E P hr hg hh hb q=>by
 refine wpAny_allTrue_And_cons (ha A s _ _ P hr hg hh hb λs₁ k₁=>?_)
 have x₁:=Zw k₁
 cases a with
 |true=>exact hs rfl A s₁ _ _ P hr (C.ext hg x₁) (hh.ext x₁) (hb.ext x₁) λs' k'=>q s' (Zq k₁ k')
 |false=>exact q s₁ k₁
theorem YV.and    (h:U3 C k env σ vs b):YV C k env σ (.BoolOp .And vs pos) b:=YV.and_nil h
end
structure Vm(T:String)(name:oO)(id:String):Prop where
 plain:PlainAttrs T
 slot:Slot T name id
 desc:typeOf (.builtin id)=pure (.type "method_descriptor")
noncomputable def QN:AV->Option String
 |.val (.str _)=>some "str"
 |.val (.lst _)=>some "list"
 |.own _=>some "list"
 |_=>none
theorem YE.rep     (r:YE P h (.val d) v):Rep P h d v:=r
theorem SJ   {R:Prop}(h:QN a=some T)(s:∀x,a=.val (.str x)->"str"=T->R)(l:∀ds,a=.val (.lst ds)->"list"=T->R)(o:∀ds,a=.own ds->"list"=T->R):R:=by
 cases a with
 |own ds=>exact o ds rfl (Zzv h)
 |tab c ds=>exact nS h
 | val d=>cases d with
   |str x=>exact s x rfl (Zzv h)
   |lst ds=>exact l ds rfl (Zzv h)
   |_=>exact nS h
theorem HL{s:Zzu}    (g:s.heap.get? b=some { cls:=.type "list",data:=.seq vs n }):s.TypeIs (.ref b) "list"/\∀c,Zwh b=.ref c->∃ob,s.heap.get? c=some ob/\ob.dict=none:=⟨⟨_,g,rfl⟩,λc e=>⟨_,ZuE e ▸ g,rfl⟩⟩
theorem YE.typeIs{P:Zzq->Prop}{s:Zzu}{a:AV}   (r:YE P s.heap a v)(h:QN a=some T):s.TypeIs v T/\(∀b,v=.ref b->∃ob,s.heap.get? b=some ob/\ob.dict=none):=
 SJ h (λx e et=>(Zc.mp (show Rep P s.heap (.str x) v from (e ▸ r:YE P s.heap (.val (.str x)) v))).elim λt ev=>et ▸ ev ▸ ⟨typeIs_str _ _ _,λc e=>nomatch e⟩)
  (λds e et=>(Yn.mp (show Rep P s.heap (.lst ds) v from (e ▸ r:YE P s.heap (.val (.lst ds)) v))).elim λb z=>z.elim λvs z=>z.elim λn z=>et ▸ z.1 ▸ HL z.2.2.1)
  λds e et=>Zyh (e ▸ r:YE P s.heap (.own ds) v) λb z=>z.elim λvs z=>z.elim λn z=>et ▸ z.1 ▸ HL z.2.1
section
variable {C:Cx}{k:Nat}{env:Env}{σ:Zx}
theorem ZQ.few  {args:List Zzw}  (h:ZQ C k env σ args as)(hl:args.length<29):
 ((backTo pos (Zyf args env)).all (λx=>!x.1)&&(backToKw pos (keywordEach [] env)).all (λx=>x.1.isSome)&&decide (args.length+([]:List Zwc).length+(if ([]:List Zwc).isEmpty then 0 else 1)<30))=true:=by
 have h1:(backTo pos (Zyf args env)).all (λx=>!x.1)=true:=by
  rw[List.all_eq_not_any_not]
  simp only[Bool.not_not]
  exact congrArg (!·) (h.plain (pos:=pos))
 exact Zyb.mpr ⟨Zyb.mpr ⟨h1,rfl⟩,decide_eq_true (show args.length+0+0<30 from ZyG hl)⟩
theorem Ev.method  {name:oO}{id T:String}      (ho:Z1 C k env σ o a)(hT:QN a=some T)(hm:Vm T name id)(ha:ZQ C k env σ args as)
 (hc:ZG C k (.builtin id) (a::as) d) (YI:attributeBase o name env (eval o env)=eval o env:=by rfl) (ZN:(apos.endLine==pos.line)=true:=by rfl) (hl:args.length<29:=by decide):
 Ev C k env σ (.Call (.Attribute o name apos) args [] pos) d:=λA s Q E P hr hg hh hb q=>by
 refine wpAny_Call_method YI (ha.few hl) ZN hm.plain hm.slot hm.desc (ho A s _ _ P hr hg hh hb λv s₁ k₁ r₁=>?_)
 have x₁:=Zw k₁
 refine⟨(r₁.typeIs hT).1,(r₁.typeIs hT).2,?_⟩
 refine ZyJ ha.plain (ha.args hr (C.ext hg x₁) (hh.ext x₁) (hb.ext x₁) λvs s₂ k₂ r₂=>?_)
 have x₂:=Zw k₂
 exact hc A s₂ _ _ P (v::vs) hr (C.ext (C.ext hg x₁) x₂) ⟨v,vs,rfl,r₁.ext x₂,r₂⟩ ((hb.ext x₁).ext x₂) λv' s' k' r'=>q v' s' (Zq (Zq k₁ k₂) k') r'
theorem XK     (r:Wy P h [a] vs):∃v,vs=[v]/\YE P h a v:=by
 obtain⟨v,r,e,x,y⟩:=r;cases y;exact⟨v,e,x⟩
theorem V0     (r:Wy P h [a,b] vs):∃v w,vs=[v,w]/\YE P h a v/\YE P h b w:=by
 obtain⟨v,r,e,x,y⟩:=r;obtain⟨w,rfl,z⟩:=XK y;exact⟨v,w,e,x,z⟩
theorem y4     (r:Wy P h [a,b,c] vs):∃v w u,vs=[v,w,u]/\YE P h a v/\YE P h b w/\YE P h c u:=by
 obtain⟨v,r,e,x,y⟩:=r;obtain⟨w,u,rfl,z⟩:=V0 y;exact⟨v,w,u,e,x,z⟩
theorem fL     (r:Wy P h [a,b,c,d] vs):∃v w u x,vs=[v,w,u,x]/\YE P h a v/\YE P h b w/\YE P h c u/\YE P h d x:=by
 obtain⟨v,r,e,x,y⟩:=r;obtain⟨w,u,z,rfl,h'⟩:=y4 y;exact⟨v,w,u,z,e,x,h'⟩
theorem Yj     (r:YE P h (.val (.str x)) v):∃t,v=.str x t:=Zc.mp r.rep
theorem Wd     (r:YE P h (.val (.int x)) v):∃t,v=.int x t:=Zf.mp r.rep
theorem DV      (ha:a=.val (.lst ds)∨a=.own ds)(r:YE P h a v):
 ∃b vs n,v=.ref b/\h.get? b=some { cls:=.type "list",data:=.seq vs n }/\Zy P h ds vs.toList:=by
 rcases ha with rfl |rfl
 ·obtain⟨b,vs,n,e,_,g,z⟩:=Yn.mp r.rep;exact⟨b,vs,n,e,g,z⟩
 ·exact r
theorem m_startswith:Vm "str" "startswith" "str.startswith":=⟨ZyP,F.slot_str_startswith,F.type_str_startswith⟩
theorem m_endswith:Vm "str" "endswith" "str.endswith":=⟨ZyP,F.slot_str_endswith,F.type_str_endswith⟩
theorem m_find:Vm "str" "find" "str.find":=⟨ZyP,F.slot_str_find,F.type_str_find⟩
theorem m_split:Vm "str" "split" "str.split":=⟨ZyP,Zwl,F.type_str_split⟩
theorem Er:Vm "str" "join" "str.join":=⟨ZyP,F.slot_str_join,F.type_str_join⟩
theorem m_upper:Vm "str" "upper" "str.upper":=⟨ZyP,F.slot_str_upper,F.type_str_upper⟩
theorem m_lower:Vm "str" "lower" "str.lower":=⟨ZyP,F.slot_str_lower,F.type_str_lower⟩
theorem Nq :ZG C k (.builtin "str.startswith") [.val (.str x),.val (.str y)] (.bool (Zy9 x y)):=λA s Q E P vs hr hg r hb q=>by
 obtain⟨v,w,rfl,a,b⟩:=V0 r
 obtain⟨t,rfl⟩:=Yj a;obtain⟨u,rfl⟩:=Yj b
 exact SC.startswith (q _ _ (Z4 s) (ZV.mpr rfl))
theorem Hz :ZG C k (.builtin "str.endswith") [.val (.str x),.val (.str y)] (.bool (Zy0 x y)):=λA s Q E P vs hr hg r hb q=>by
 obtain⟨v,w,rfl,a,b⟩:=V0 r
 obtain⟨t,rfl⟩:=Yj a;obtain⟨u,rfl⟩:=Yj b
 exact SC.endswith (q _ _ (Z4 s) (ZV.mpr rfl))
theorem uc :ZG C k (.builtin "str.find") [.val (.str x),.val (.str y)] (.int (Zx1 x y)):=λA s Q E P vs hr hg r hb q=>by
 obtain⟨v,w,rfl,a,b⟩:=V0 r
 obtain⟨t,rfl⟩:=Yj a;obtain⟨u,rfl⟩:=Yj b
 exact SC.find (q _ _ (ZZ s _) (Zf.mpr ⟨_,rfl⟩))
noncomputable def Xu(x y:oO)(i j:Int):Int:=match Zze x y (fromIndex x.length i) (min (fromIndex x.length j) x.length) 1 with |k::_=>(k:Int) |[]=>-1
theorem LP(x y:oO)(i j:Int)(t u v z:Tok):Gives (Zwv.«str.find» ⟨[.str x t,.str y u,.int i v,.int j z],[]⟩) (.int (Xu x y i j)):=by
 show Gives (match Zze x y (fromIndex x.length i) (min (fromIndex x.length j) x.length) 1 with |k::_=>retInt k |[]=>(do rule "str.find.not-found";retInt (-1))) _
 unfold Xu
 cases Zze x y (fromIndex x.length i) (min (fromIndex x.length j) x.length) 1 with
 |nil=>exact .rule (.of_eq rfl)
 |cons k _=>exact .of_eq rfl
theorem zt  :ZG C k (.builtin "str.find") [.val (.str x),.val (.str y),.val (.int i),.val (.int j)] (.int (Xu x y i j)):=λA s Q E P vs hr hg r hb q=>by
 obtain⟨v,w,u,z,rfl,a,b,c,d⟩:=fL r
 obtain⟨t,rfl⟩:=Yj a;obtain⟨u,rfl⟩:=Yj b;obtain⟨t',rfl⟩:=Wd c;obtain⟨u',rfl⟩:=Wd d
 exact call_gives F.slot_str_find (typeIs_str _ _ _) F.entry_str_find (F.args_str_find_4 _ _ _ _) (LP x y i j t u t' u') (q _ _ (ZZ s _) (Zf.mpr ⟨_,rfl⟩))
theorem zb  (hx:x.length<=5592405):ZG C k (.builtin "str.upper") [.val (.str x)] (.str (Zqf x)):=λA s Q E P vs hr hg r hb q=>by
 obtain⟨v,rfl,a⟩:=XK r
 obtain⟨t,rfl⟩:=Yj a
 exact SCL.upper hx λ_=>q _ _ (ZZ s _) (Zc.mpr ⟨_,rfl⟩)
theorem zh  (hx:x.length<=5592405):ZG C k (.builtin "str.lower") [.val (.str x)] (.str (Zvu x)):=λA s Q E P vs hr hg r hb q=>by
 obtain⟨v,rfl,a⟩:=XK r
 obtain⟨t,rfl⟩:=Yj a
 exact SCL.lower hx λ_=>q _ _ (ZZ s _) (Zc.mpr ⟨_,rfl⟩)
theorem Du  :∀{l:List (oO × Tok)},Zy P h (l.map λx=>.str x.1) (strValues l)
 |[]=>Zy.nil
 |(x,t)::l=>Zy.cons (Zc.mpr ⟨t,rfl⟩) Du
theorem Dw  :∀{ys:List oO} {vs:List Zzy},Zy P h (ys.map .str) vs->∃l:List (oO × Tok),vs=strValues l/\l.map (·.1)=ys
 |[],vs,r=>⟨[],r,rfl⟩
 |y::ys,vs,r=>Zyh r λv t=>t.elim λrr t=>(Zc.mp t.2.1).elim λu e=>(Dw t.2.2).elim λl z=>⟨(y,u)::l,t.1.trans (e.symm ▸ z.1.symm ▸ rfl),congrArg (y::·) z.2⟩
theorem Td    (ha:a=.val (.lst (ys.map .str))∨a=.own (ys.map .str))(IM:Zvg x ys=true):ZG C k (.builtin "str.join") [.val (.str x),a] (.str (Zy4 x ys)):=λA s Q E P vs hr hg r hb q=>by
 obtain⟨v,w,rfl,a,b⟩:=V0 r
 obtain⟨t,rfl⟩:=Yj a
 obtain⟨D,items,n,rfl,g,z⟩:=DV ha b
 obtain⟨l,e,hl⟩:=Dw z
 have e':items=(strValues l).toArray:=by rw[<-e]
 exact SC.join (l:=l) (ZL (by rw[<-e'];exact g)) hl IM λt' tk=>q _ _ (ZZ s _) (Zc.mpr ⟨_,rfl⟩)
theorem Rx  (hx:x.length<=Zzx):ZG C k (.builtin "len") [.val (.str x)] (.int x.length):=λA s Q E P vs hr hg r hb q=>by
 obtain⟨v,rfl,a⟩:=XK r
 obtain⟨t,rfl⟩:=Yj a
 rw[ZzS] at hx
 exact PySem.P.len_str (Nm hx) (q _ _ (ZZ s _) (Zf.mpr ⟨_,rfl⟩))
theorem LO   (ha:a=.val (.lst ds)∨a=.own ds)(hx:ds.length<=Zzx):ZG C k (.builtin "len") [a] (.int ds.length):=λA s Q E P vs hr hg r hb q=>by
 obtain⟨v,rfl,a⟩:=XK r
 obtain⟨D,items,n,rfl,g,z⟩:=DV ha a
 have hn:items.size=ds.length:=by simpa using z.length
 rw[ZzS] at hx
 refine Calls.call_len_list (ZL g) (ZuI.mp (Nm (by rw[hn];exact hx))) ?_
 rw[hn]
 exact q _ _ (ZZ s _) (Zf.mpr ⟨_,rfl⟩)
theorem gA :ZG C k (.builtin "ord") [.val (.str ⟨#[c]⟩)] (.int c):=λA s Q E P vs hr hg r hb q=>by
 obtain⟨v,rfl,a⟩:=XK r
 obtain⟨t,rfl⟩:=Yj a
 exact PySem.P.ord_of_char (q _ _ (ZZ s _) (Zf.mpr ⟨_,rfl⟩))
theorem gM  (h0:0<=i)(h1:i<=1114111):ZG C k (.builtin "chr") [.val (.int i)] (.str ⟨#[i.toNat]⟩):=λA s Q E P vs hr hg r hb q=>by
 obtain⟨v,rfl,a⟩:=XK r
 obtain⟨t,rfl⟩:=Wd a
 exact PyProof.Rows.chr_of_range h0 h1 (q _ _ (ZZ s _) (Zc.mpr ⟨_,rfl⟩))
end
noncomputable def Xh(i:Option Int)(n d:Nat):Nat:=match i with
 |none=>d
 |some i=>(max 0 (min (if i<0 then i+n else i) n)).toNat
def Yk{α:Type}(lo hi:Option Int)(l:List α):List α:=(l.drop (Xh lo l.length 0)).take (Xh hi l.length l.length-Xh lo l.length 0)
theorem Lb   (h:d<=n):Xh i n d<=n:=by
 cases i with
 |none=>exact h
 |some i=>exact Int.toNat_le.mpr (Int.max_le.mpr ⟨ZzJ n,Int.min_le_right _ _⟩)
theorem Ic(i n d:Nat):Xh (some (i:Int)) n d=min i n:=by
 show (max 0 (min (if (i:Int)<0 then _ else (i:Int)) (n:Int))).toNat=_
 rw[if_neg (Zx5.mpr (ZzJ i))]
 rcases Zx7 i n with h |h
 ·rw[Zy1 h,Zw9 (Zy7.mpr h),Zx2 (ZzJ i)];rfl
 ·rw[Zxy h,ZvO (Zy7.mpr h),Zx2 (ZzJ n)];rfl
theorem Ud(i:Option Int)(n d:Nat):(match i with
 |none=>(d:Int)
 |some i=>max 0 (min (if i<0 then i+n else i) n))=((Xh i n d:Nat):Int):=by
 cases i with
 |none=>rfl
 |some i=>exact (Zw2 (Int.le_max_left 0 _)).symm
theorem AB(lo hi:Option Int)(x:oO):(ZyL lo hi 1 x.length).filterMap (x.cps[·]?)=Yk lo hi x.cps.toList:=by
 have e:ZyL lo hi 1 x.length=(ZzW (Xh hi x.length x.length-Xh lo x.length 0)).map (Xh lo x.length 0+·):=by
  rw[<-sliceRange_one]
  have h1:=Ud lo x.length 0
  have h2:=Ud hi x.length x.length
  unfold ZyL
  simp only[show (1:Int) > 0 by decide,if_true]
  rw[<-h1,<-h2]
  rfl
 rw[e,pick_run]
 unfold Yk
 rw[show x.cps.toList.length=x.length from rfl]
theorem L6(lo hi:Option Int)(x:oO):(ZyL lo hi 1 x.length).length=Xh hi x.length x.length-Xh lo x.length 0:=by
 have e:ZyL lo hi 1 x.length=(ZzW (Xh hi x.length x.length-Xh lo x.length 0)).map (Xh lo x.length 0+·):=by
  rw[<-sliceRange_one]
  have h1:=Ud lo x.length 0
  have h2:=Ud hi x.length x.length
  unfold ZyL
  simp only[show (1:Int) > 0 by decide,if_true]
  rw[<-h1,<-h2]
  rfl
 rw[e];simp
def U4(lo hi:Option Int)(x:oO):oO:=⟨(Yk lo hi x.cps.toList).toArray⟩
theorem EB(lo hi:Option Int)(x:oO):(U4 lo hi x).length<=x.length:=by
 show (Yk lo hi x.cps.toList).toArray.size<=x.cps.size
 rw[List.size_toArray,Yk,ZxP,ZzM]
 exact oP (ZqZ _ _) (Zyo _ _)
theorem DR(items:Array Zzy)(lo hi:Option Int):slicePick items lo hi none=(Yk lo hi items.toList).toArray:=by
 have h1:=Ud lo items.size 0
 have h2:=Ud hi items.size items.size
 have e:sliceBounds lo hi none items.size=(((Xh lo items.size 0:Nat):Int),((Xh hi items.size items.size:Nat):Int),1):=by
  unfold sliceBounds
  simp only[Option.getD_none,show (1:Int) > 0 by decide,if_true]
  rw[<-h1,<-h2]
  rfl
 unfold slicePick
 rw[e]
 simp only[sliceRange_one,pick_run]
 rfl
theorem Zy.drop  :∀{n:Nat} {ds:List PV} {vs:List Zzy},Zy P h ds vs->Zy P h (ds.drop n) (vs.drop n)
 |0,_,_,x=>x
 |n+1,[],vs,x=>(congrArg (λv=>Zy P h [] (Zuh (n+1) v)) (show vs=[] from x)).mpr Zy.nil
 |n+1,d::ds,vs,x=>Zyh x λv t=>t.elim λr t=>(congrArg (λw=>Zy P h (ds.drop n) (Zuh (n+1) w)) t.1).mpr (Zy.drop t.2.2)
theorem Zy.take  :∀{n:Nat} {ds:List PV} {vs:List Zzy},Zy P h ds vs->Zy P h (ds.take n) (vs.take n)
 |0,_,_,x=>Zy.nil
 |n+1,[],vs,x=>(congrArg (λv=>Zy P h [] (Zut (n+1) v)) (show vs=[] from x)).mpr Zy.nil
 |n+1,d::ds,vs,x=>Zyh x λv t=>t.elim λr t=>(congrArg (λw=>Zy P h ((d::ds).take (n+1)) (Zut (n+1) w)) t.1).mpr (Zy.cons t.2.1 (Zy.take t.2.2))
theorem Zy.Yk   {lo hi:Option Int}   (x:Zy P h ds vs):Zy P h (Yk lo hi ds) (Yk lo hi vs):=by
 unfold Mine.Internal.Yk
 rw[x.length]
 exact x.drop.take
section
variable {C:Cx}{k:Nat}{env:Env}{σ:Zx}
def Q9(C:Cx)(k:Nat)(env:Env)(σ:Zx):Option Zzw->Option Int->Prop
 |none,i=>i=none
 |some e,i=>∃j,i=some j/\Ev C k env σ e (.int j)
theorem Q9.none:Q9 C k env σ ZyW ZyW:=rfl
theorem Q9.some   (h:Ev C k env σ e (.int j)):Q9 C k env σ (Zq7 e) (Zq7 j):=⟨j,rfl,h⟩
theorem Q9.eval   (h:Q9 C k env σ x i){A s E P}  (hr:ZH k A)(hg:C.G s.heap)(hh:Wq P env σ s.heap)(hb:ZM P s.heap)
 (q:∀(l:Option (Int × Tok)) s',ZzK s s'->l.map (·.1)=i->Q (partValue l) s'):wpAny C.M A (evalPart x env) Q E s:=by
 cases x with
 | none=>
   have h':i=ZyW:=h
   subst h'
   rw[evalPart_none]
   exact Zzi (q ZyW s (Z4 s) rfl)
 | some e=>
   obtain⟨j,rfl,he⟩:=h
   rw[evalPart_some]
   refine he A s _ _ P hr hg hh hb λv s₁ k₁ r₁=>?_
   obtain⟨t,rfl⟩:=Zf.mp r₁
   exact q (Zq7 (j,t)) s₁ k₁ rfl
theorem AX(l:Option (Int × Tok)):IsPart (partValue l) (l.map (·.1)):=by
 cases l with
 |none=>exact .none
 |some x=>exact .int _ _
theorem Ev.EL  {lo hi:Option Zzw}    (ho:Ev C k env σ o (.str x))(hl:Q9 C k env σ lo i)(hu:Q9 C k env σ hi j)(hx:x.length<=Zzx)
 (ht:∀a r,letTemporaryGo o a r=pure ():=by intro _ _;rfl):Ev C k env σ (.Subscript o (.Slice lo hi ZyW p) pos) (.str (U4 i j x)):=λA s Q E P hr hg hh hb q=>by
 refine wpAny_Subscript_str_slice (ho A s _ _ P hr hg hh hb λv s₁ k₁ r₁=>?_) ht
 obtain⟨t,rfl⟩:=Zc.mp r₁
 have x₁:=Zw k₁
 refine hl.eval hr (C.ext hg x₁) (hh.ext x₁) (hb.ext x₁) λl s₂ k₂ e₂=>?_
 have x₂:=Zw k₂
 refine hu.eval hr (C.ext (C.ext hg x₁) x₂) ((hh.ext x₁).ext x₂) ((hb.ext x₁).ext x₂) λu s₃ k₃ e₃=>?_
 refine⟨x,t,l,u,rfl,rfl,rfl,?_⟩
 have kk:∀tk,ZzK s { s₃ with heap:=s₃.heap.push { cls:=.type "slice",data:=.fields #[partValue l,partValue u,.none] },toks:=tk }:=λtk=>
  Zq (Zq (Zq k₁ k₂) k₃) ⟨_,tk,rfl,λ_ _ e=>Zzj _ e⟩
 subst e₂ e₃
 have key:(⟨((slicePicked x l u ZyW).filterMap (x.cps[·]?)).toArray⟩:oO)=U4 (l.map (·.1)) (u.map (·.1)) x:=by
  unfold slicePicked U4
  rw[show ((ZyW:Option (Int × Tok)).map (·.1)).getD 1=1 from rfl,AB]
 unfold sliceMade
 by_cases hc:(((ZyW:Option (Int × Tok)).map (·.1)).getD 1==1&&(slicePicked x l u ZyW).length==x.length)=true
 ·rw[if_pos hc]
  have hlen:(slicePicked x l u ZyW).length=x.length:=by simpa using (Zyb.mp hc).2
  have:U4 (l.map (·.1)) (u.map (·.1)) x=x:=by
   have h1:=L6 (l.map (·.1)) (u.map (·.1)) x
   unfold slicePicked at hlen
   rw[show ((ZyW:Option (Int × Tok)).map (·.1)).getD 1=1 from rfl,h1] at hlen
   have h2:Xh (l.map (·.1)) x.length 0<=x.length:=Lb (Zz3 _)
   have h3:Xh (u.map (·.1)) x.length x.length<=x.length:=Lb (Zz1 _)
   unfold U4 Yk
   rw[show x.cps.toList.length=x.length from rfl,hlen]
   obtain⟨c⟩:=x
   congr 1
   have h4:Xh (l.map (·.1)) (ZxC ⟨c⟩) 0=0∨ZxC ⟨c⟩=0:=(Zqd _).imp id λh=>(Zqd _).elim id λhL=>absurd hlen (ZzR (Zz4 (ZxB h3 _) (Zvf hL h)))
   rcases h4 with h4 |h4
   ·rw[h4]
    show (Zut c.size (Zuh 0 c.toList)).toArray=c
    rw[Zv5,Zxk (by simp)]
   ·have:c=#[]:=Array.eq_empty_of_size_eq_zero h4
    subst this
    simp
  refine q _ _ (kk _) (Zc.mpr ⟨t,?_⟩)
  rw[this]
 ·rw[if_neg hc,key]
  exact⟨oP (EB _ _ _) hx,q _ _ (kk _) (Zc.mpr ⟨_,rfl⟩)⟩
theorem Ev.slice_list  {lo hi:Option Zzw}    (ho:Kk C k env σ o ds)(hl:Q9 C k env σ lo i)(hu:Q9 C k env σ hi j)(hx:ds.length<=Zzx)
 (ht:∀a r,letTemporaryGo o a r=pure ():=by intro _ _;rfl):Ev C k env σ (.Subscript o (.Slice lo hi ZyW p) pos) (.lst (Yk i j ds)):=λA s Q E P hr hg hh hb q=>by
 refine wpAny_Subscript_list_slice (ho A s _ _ P hr hg hh hb λb vs n s₁ k₁ g₁ r₁=>?_) ht
 have x₁:=Zw k₁
 refine hl.eval hr (C.ext hg x₁) (hh.ext x₁) (hb.ext x₁) λl s₂ k₂ e₂=>?_
 have x₂:=Zw k₂
 refine hu.eval hr (C.ext (C.ext hg x₁) x₂) ((hh.ext x₁).ext x₂) ((hb.ext x₁).ext x₂) λu s₃ k₃ e₃=>?_
 have x₃:=Zw k₃
 have hn:vs.size=ds.length:=by simpa using r₁.length
 refine⟨b,vs,_,_,rfl,ZL (x₃ _ _ (x₂ _ _ g₁)),oP (Zya hn) hx,AX l,AX u,?_⟩
 have kk:ZzK s { s₃ with heap:=(s₃.heap.push { cls:=.type "slice",data:=.fields #[partValue l,partValue u,.none] }).push { cls:=.type "list",data:=.seq (slicePick vs (l.map (·.1)) (u.map (·.1)) ZyW) } }:=
  Zq (Zq (Zq k₁ k₂) k₃) ⟨_,_,rfl,λ_ _ e=>Zzj _ (Zzj _ e)⟩
 subst e₂ e₃
 have sz:(s₃.heap.push { cls:=.type "slice",data:=.fields #[partValue l,partValue u,.none] }).objs.size=s₃.heap.objs.size+1:=ZyT ..
 have al:ZM P (s₃.heap.push { cls:=.type "slice",data:=.fields #[partValue l,partValue u,.none] }):=(((hb.ext x₁).ext x₂).ext x₃).ext λ_ _ e=>Zzj _ e
 refine q _ _ kk (Yn.mpr ⟨_,slicePick vs (l.map (·.1)) (u.map (·.1)) ZyW,0,rfl,sz ▸ al.new,?_,?_⟩)
 ·rw[<-sz];exact Zzl _ rfl
 ·rw[DR]
  exact (((r₁.ext x₂).ext x₃).Yk).ext λ_ _ e=>Zzj _ (Zzj _ e)
theorem Ev.item      (ho:Kk C k env σ o ds)(hi:Ev C k env σ i (.int j))(h0:0<=j)(h1:j<2 ^ 63)(hd:ds[j.toNat]?=some d)
 (hs:∀a b,subscripted i false a b=operate [a,b] (getItem a b):=by intro _ _;rfl):Ev C k env σ (.Subscript o i pos) d:=λA s Q E P hr hg hh hb q=>by
 refine Zvd (ho A s _ _ P hr hg hh hb λb vs n s₁ k₁ g₁ r₁=>?_)
 have x₁:=Zw k₁
 refine hi A s₁ _ _ P hr (C.ext hg x₁) (hh.ext x₁) (hb.ext x₁) λv s₂ k₂ r₂=>?_
 obtain⟨t,rfl⟩:=Zf.mp r₂
 have x₂:=Zw k₂
 obtain⟨v,hv,rv⟩:=(r₁.ext x₂).get hd
 have hl:=ZL (x₂ _ _ g₁)
 exact tail_any hl.typeIs slot_list_getitem.lookup (wpAny_getItem_list hl h0 h1 (by simpa using hv) (q v s₂ (Zq k₁ k₂) rv)) (hs _ _)
theorem Ev.OR      (ho:Kk C k env σ o ds)(hi:Ev C k env σ i (.int j))(h0:j<0)(h1:-(ds.length:Int)<=j)(h2:-(2 ^ 63)<=j)(hd:ds[(j+ds.length).toNat]?=some d)
 (hs:∀a b,subscripted i false a b=operate [a,b] (getItem a b):=by intro _ _;rfl):Ev C k env σ (.Subscript o i pos) d:=λA s Q E P hr hg hh hb q=>by
 refine Zvd (ho A s _ _ P hr hg hh hb λb vs n s₁ k₁ g₁ r₁=>?_)
 have x₁:=Zw k₁
 refine hi A s₁ _ _ P hr (C.ext hg x₁) (hh.ext x₁) (hb.ext x₁) λv s₂ k₂ r₂=>?_
 obtain⟨t,rfl⟩:=Zf.mp r₂
 have x₂:=Zw k₂
 obtain⟨v,hv,rv⟩:=(r₁.ext x₂).get hd
 have hl:=ZL (x₂ _ _ g₁)
 have hn:vs.size=ds.length:=by simpa using r₁.length
 exact tail_any hl.typeIs slot_list_getitem.lookup (wpAny_getItem_list_neg hl h0 (by rw[hn];exact h1) h2 (by rw[hn];simpa using hv) (q v s₂ (Zq k₁ k₂) rv)) (hs _ _)
theorem Ev.item_tup      (ho:Ev C k env σ o (.tup ds))(hi:Ev C k env σ i (.int j))(h0:0<=j)(h1:j<2 ^ 63)(hd:ds[j.toNat]?=some d)
 (hs:∀a b,subscripted i false a b=operate [a,b] (getItem a b):=by intro _ _;rfl):Ev C k env σ (.Subscript o i pos) d:=λA s Q E P hr hg hh hb q=>by
 refine Zvd (ho A s _ _ P hr hg hh hb λv s₁ k₁ r₁=>?_)
 obtain⟨b,vs,n,rfl,_,g₁,r₁⟩:=YA.mp r₁
 have x₁:=Zw k₁
 refine hi A s₁ _ _ P hr (C.ext hg x₁) (hh.ext x₁) (hb.ext x₁) λv s₂ k₂ r₂=>?_
 obtain⟨t,rfl⟩:=Zf.mp r₂
 have x₂:=Zw k₂
 obtain⟨v,hv,rv⟩:=(r₁.ext x₂).get hd
 have hT:Zvp s₂.heap b vs:=⟨_,x₂ _ _ g₁,rfl,n,rfl⟩
 have YN:j.toNat<vs.size:=by
  have:=(Zyt.mp hv).1;simpa using this
 exact tail_any hT.typeIs slot_tuple_getitem.lookup (PyProof.Rows.getItem_tuple hT (Zuz oD h0) h1 (seqIndex_of h0 ((Int.toNat_lt h0).mp YN)) (by simpa using hv) (q v s₂ (Zq k₁ k₂) rv)) (hs _ _)
theorem Ev.item_str      (ho:Ev C k env σ o (.str x))(hi:Ev C k env σ i (.int j))(h0:-(2 ^ 63)<=j)(h1:j<2 ^ 63)(hj:seqIndex? j x.length=some m)(hc:x.cps[m]?=some c)
 (hs:∀a b,subscripted i false a b=operate [a,b] (getItem a b):=by intro _ _;rfl):Ev C k env σ (.Subscript o i pos) (.str ⟨#[c]⟩):=λA s Q E P hr hg hh hb q=>by
 refine Zvd (ho A s _ _ P hr hg hh hb λv s₁ k₁ r₁=>?_)
 obtain⟨u,rfl⟩:=Zc.mp r₁
 have x₁:=Zw k₁
 refine hi A s₁ _ _ P hr (C.ext hg x₁) (hh.ext x₁) (hb.ext x₁) λv s₂ k₂ r₂=>?_
 obtain⟨t,rfl⟩:=Zf.mp r₂
 refine tail_any (typeIs_str _ _ _) F.slot_str_getitem.lookup (PyProof.Rows.getItem_str (c:=c) ?_ ?_ (q _ _ (Zq (Zq k₁ k₂) (ZZ s₂ _)) (Zc.mpr ⟨_,rfl⟩))) (hs _ _)
 ·simp only[ZuG,decide_eq_false_iff_not];exact⟨Zx5.mpr h0,ZuI.mpr h1⟩
 ·rw[hj];exact hc
end
abbrev YB(base:Zza)(M:Zzq->Prop):Zzq->Prop:=λa=>¬M a/\base.get? a=none
def Thing(P:Zzq->Prop)(h:Zza)(v:Zzy):AV->List Zzq->Prop
 |.val _,_=>False
 |.own ds,ow=>∃a,ow=[a]/\v=.ref a/\∃vs n,h.get? a=some { cls:=.type "list",data:=.seq vs n }/\Zy P h ds vs.toList
 |.tab c ds,ow=>∃a d b,ow=[a,d,b]/\v=.ref a/\∃vs,TabAt h c a d b vs/\Zy P h ds vs
def Fj(env:Env)(P:Zzq->Prop)(h:Zza)(x:oO)(a:AV)(ow:List Zzq):Prop:=∃v,Loc env h x v/\Thing P h v a ow
noncomputable def XY:AV->Bool
 |.val _=>false
 |_=>true
theorem Thing.el      {R:Prop}(O:Thing P h v a ow)(o:∀ds b vs n,a=.own ds->ow=[b]->v=.ref b->h.get? b=some { cls:=.type "list",data:=.seq vs n }->Zy P h ds vs.toList->R)
 (t:∀c ds b d q vs,a=.tab c ds->ow=[b,d,q]->v=.ref b->TabAt h c b d q vs->Zy P h ds vs->R):R:=by
 cases a with
 |val d=>exact O.elim
 |own ds=>exact O.elim λa r=>r.2.2.elim λvs p=>p.elim λn p=>o ds a vs n rfl r.1 r.2.1 p.1 p.2
 |tab c ds=>exact O.elim λa r=>r.elim λd r=>r.elim λb r=>r.2.2.elim λvs p=>t c ds a d b vs rfl r.1 r.2.1 p.1 p.2
theorem Thing.r9          (e:a=.own ds)(w:ow=[b])(u:v=.ref b)(g:h.get? b=some { cls:=.type "list",data:=.seq vs n })(r:Zy P h ds vs.toList):Thing P h v a ow:=by
 cases e;exact⟨b,w,u,vs,n,g,r⟩
theorem Thing.ak          (e:a=.tab c ds)(w:ow=[b,d,q])(u:v=.ref b)(g:TabAt h c b d q vs)(r:Zy P h ds vs):Thing P h v a ow:=by
 cases e;exact⟨b,d,q,w,u,vs,g,r⟩
structure Ye where
 env:Env
 base:Zza
 P:Zzq->Prop
 cs:List oO
abbrev Ye.out(F:Ye)(M:Zzq->Prop):Zzq->Prop:=λa=>F.P a/\¬M a
def SW(F:Ye)(N M:Zzq->Prop)(h:Zza)(x:oO)(a:AV)(l:List Zzq):Prop:=Fj F.env (YB F.base M) h x a l/\∀b∈l,M b/\¬N b/\b≠F.env.locals
def Jk(F:Ye)(N M:Zzq->Prop)(σ:Zx)(h:Zza)(ow:oO->List Zzq):Prop:=∀x a,σ x=some a->XY a=true->SW F N M h x a (ow x)
def UB(σ:Zx)(ow:oO->List Zzq):Prop:=∀x y a b c,σ x=some a->XY a=true->σ y=some b->XY b=true->c∈ow x->c∈ow y->x=y
structure Inv(C:Cx)(F:Ye)(N M:Zzq->Prop)(σ:Zx)(h:Zza):Prop where
 Jx:C.G F.base
 live:ZM F.P F.base
 ext:ZY F.base h
 fresh:∀a,M a->F.base.get? a=none
 alive:∀a,M a->∃o,h.get? a=some o
 UX:M F.env.locals
 Ua:¬N F.env.locals
 pin:∀a,N a->M a
 ns:∃m,h.Ns F.env.locals m
 cell:∀x∈F.cs,F.env.kindOf x=some .cell/\∃c v,F.env.cells.lookup x=some c/\h.IsCell c v/\M c/\¬N c
 apart:∀x y c,x∈F.cs->F.env.cells.lookup x=some c->F.env.cells.lookup y=some c->x=y
 outer:∀y c,F.env.cells.lookup y=some c->y∈F.cs∨∃o,F.base.get? c=some o
 val:∀x d,σ x=some (.val d)->∃v,Loc F.env h x v/\Rep (F.out M) h d v
 own:∃ow:oO->List Zzq,Jk F N M σ h ow/\UB σ ow
section
variable {s s' s₁:Zzu}{h h':Zza}
def XQ(s s':Zzu):Prop:=∃h' tk,s'={ s with heap:=h',toks:=tk }
theorem XQ.trans(a:XQ s s')(b:XQ s' s₁):XQ s s₁:=by
 obtain⟨h,t,rfl⟩:=a
 obtain⟨h',t',rfl⟩:=b
 exact⟨h',t',rfl⟩
theorem XQ.refl:XQ s s:=⟨s.heap,s.toks,rfl⟩
theorem XQ.of_keeps(a:ZzK s s'):XQ s s':=let ⟨h,t,e,_⟩:=a;⟨h,t,e⟩
theorem XQ.keeps(a:XQ s s')(x:ZY s.heap s'.heap):ZzK s s':=a.elim λh q=>q.elim λt e=>⟨h,t,e,λb o r=>(congrArg (λz=>z.heap.get? b) e).symm.trans (x b o r)⟩
theorem ZD(x:ZY h h')  (e:h'.get? b=none):h.get? b=none:=by
 cases e':h.get? b with
 |none=>rfl
 |some o=>cases e.symm.trans (x b o e')
end
theorem lK   (q:x=a∨x=b∨x=c):x∈[a,b,c]:=q.elim (λe=>e ▸ .head _) λq=>q.elim (λe=>e ▸ .tail _ (.head _)) λe=>e ▸ .tail _ (.tail _ (.head _))
theorem HK   (q:x∈[a,b,c]):x=a∨x=b∨x=c:=(ZzN.mp q).imp_right λq=>(ZzN.mp q).imp_right Zz5.mp
structure Zo(N M:Zzq->Prop)(s:Zzu)(M':Zzq->Prop)(s':Zzu):Prop where
 same:∃h' tk,s'={ s with heap:=h',toks:=tk }
 kept:∀a o,(¬M a∨N a)->s.heap.get? a=some o->s'.heap.get? a=some o
 new:∀a,M' a->M a∨s.heap.get? a=none
section
variable {C:Cx}{k:Nat}{env:Env}{base:Zza}{F:Ye}{N M M':Zzq->Prop}{σ:Zx}{h h':Zza}{s s' s₁ s₂:Zzu}
theorem Zo.refl:Zo N M s M s:=⟨⟨_,_,rfl⟩,λ_ _ _ e=>e,λ_ m=>.inl m⟩
theorem Zo.of_keeps(x:ZzK s s'):Zo N M s M s':=⟨let ⟨h,t,e,_⟩:=x;⟨h,t,e⟩,λa o _ e=>Zw x a o e,λ_ m=>.inl m⟩
theorem Zo.trans  (x:Zo N M s M₁ s₁)(y:Zo N M₁ s₁ M₂ s₂):Zo N M s M₂ s₂ where
 same:=by
  obtain⟨h1,t1,e1⟩:=x.same
  obtain⟨h2,t2,e2⟩:=y.same
  exact⟨h2,t2,by rw[e2,e1]⟩
 kept:=λa o n e=>by
  refine y.kept a o ?_ (x.kept a o n e)
  rcases n with n |n
  ·refine .inl λm=>?_
   rcases x.new a m with m |m
   ·exact n m
   ·rw[m] at e;cases e
  ·exact .inr n
 new:=λa m=>by
  rcases y.new a m with m |m
  ·exact x.new a m
  ·cases e:s.heap.get? a with
   |none=>exact .inr rfl
   | some o=>
     refine .inl (Zyg λn=>?_)
     rw[x.kept a o (.inl n) e] at m;cases m
theorem Thing.mono     (O:Thing P h v a ow)(hw:∀a o,a∈ow->h.get? a=some o->h'.get? a=some o)
 (hP:∀a o,h.get? a=some o->P a->P' a) (hk:∀a o,P a->h.get? a=some o->h'.get? a=some o):Thing P' h' v a ow:=
 O.el (λds b vs n e w u g r=>Thing.r9 e w u (hw _ _ (w ▸ .head _) g) (r.mono hP hk))
  λc ds b d q vs e w u T r=>Thing.ak e w u (T.at λa o m e=>hw a o (w ▸ lK m) e) (r.mono hP hk)
theorem Fj.mono     (O:Fj env P h x a ow)(hl:∀v,Loc env h x v->Loc env h' x v)(hw:∀a o,a∈ow->h.get? a=some o->h'.get? a=some o)
 (hP:∀a o,h.get? a=some o->P a->P' a) (hk:∀a o,P a->h.get? a=some o->h'.get? a=some o):Fj env P' h' x a ow:=
 let ⟨v,l,T⟩:=O;⟨v,hl v l,T.mono hw hP hk⟩
theorem Fj.PH     (O:Fj env P h x a ow):Qh P env h x a:=
 O.elim λv t=>t.2.el (λds b vs n e w u g r=>by cases e;exact⟨b,vs,n,u ▸ t.1,g,r⟩) λc ds b d q vs e w u T r=>by cases e;exact⟨b,d,q,vs,u ▸ t.1,T,r⟩
theorem Thing.lives     (O:Thing P h v a ow):∀b∈ow,∃o,h.get? b=some o:=λz m=>
 O.el (λds b vs n e w u g r=>⟨_,Zz5.mp (w ▸ m) ▸ g⟩) λc ds b d q vs e w u T r=>(HK (w ▸ m:z∈[b,d,q])).elim (λk=>k ▸ T.lives.1) λk=>k.elim (λk=>k ▸ T.lives.2.1) λk=>k ▸ T.lives.2.2
theorem SN      (x:h.Ns a m)(e:h.get? a=some { cls:=cls,data:=.seq vs n }):False:=by
 obtain⟨o,es,ep,ho,hd,_⟩:=x
 rw[e] at ho;cases ho;cases hd
theorem Ky    (x:h.Ns a m)(e:h.IsCell a v):False:=by
 obtain⟨o,es,ep,ho,hd,_⟩:=x
 obtain⟨o',IL,Ku⟩:=e
 rw[ho] at IL;cases IL;rw[hd] at Ku;cases Ku
theorem Jr      (x:h.IsCell a v)(e:h.get? a=some { cls:=cls,data:=.seq vs n }):False:=by
 obtain⟨o',IL,Ku⟩:=x
 rw[e] at IL;cases IL;cases Ku
theorem Jk.keeps  (f:Jk F N M σ h ow)(hk:ZY h h'):Jk F N M σ h' ow:=λy b e i=>⟨(f y b e i).1.mono (λv l=>l.ext hk) (λa o _ e=>hk a o e) (λ_ _ _ p=>p) λa o _ e=>hk a o e,(f y b e i).2⟩
theorem Inv.keeps(I:Inv C F N M σ h)(hk:ZY h h'):Inv C F N M σ h' where
 Jx:=I.Jx
 live:=I.live
 ext:=λa o e=>hk _ _ (I.ext a o e)
 fresh:=I.fresh
 alive:=λa m=>(I.alive a m).imp λo e=>hk _ _ e
 UX:=I.UX
 Ua:=I.Ua
 pin:=I.pin
 ns:=I.ns.imp λm e=>e.keeps hk
 cell:=λx hx=>(I.cell x hx).imp_right λt=>t.imp λc t=>t.imp λv t=>⟨t.1,t.2.1.keeps hk,t.2.2⟩
 apart:=I.apart
 outer:=I.outer
 val:=λx d e=>(I.val x d e).imp λv t=>⟨t.1.ext hk,t.2.ext hk⟩
 own:=I.own.imp λow t=>⟨t.1.keeps hk,t.2⟩
theorem Inv.G(I:Inv C F N M σ h):C.G h:=C.ext I.Jx I.ext
theorem Ye.MP(F:Ye)(live:ZM F.P F.base)  (p:F.base.get? a=none):F.P a:=Zyg λn=>by
 obtain⟨o,e⟩:=live a n
 rw[p] at e;cases e
theorem Ye.GD(F:Ye)(live:ZM F.P F.base)  (p:YB F.base M a):F.P a:=F.MP live p.2
theorem Inv.has(I:Inv C F N M σ h):Wq (F.out M) F.env σ h:=λx a e=>by
 obtain⟨ow,f,_⟩:=I.own
 cases a with
 |val d=>exact I.val x d e
 |own ds=>exact ((f x _ e rfl).1.mono (λ_ l=>l) (λ_ _ _ e=>e) (λ_ _ _ p=>⟨F.GD I.live p,p.1⟩) λ_ _ _ e=>e).PH
 |tab c ds=>exact ((f x _ e rfl).1.mono (λ_ l=>l) (λ_ _ _ e=>e) (λ_ _ _ p=>⟨F.GD I.live p,p.1⟩) λ_ _ _ e=>e).PH
theorem Inv.Xv(I:Inv C F N M σ h):ZM (F.out M) h:=λa n=>by
 by_cases p:F.P a
 ·exact I.alive a (Zyg λm=>n ⟨p,m⟩)
 ·obtain⟨o,e⟩:=I.live a p;exact⟨o,I.ext a o e⟩
noncomputable def YY:PV->Bool
 |.none=>true |.bool _=>true |.int _=>true |.str _=>true |_=>false
def AV.flat:AV->Option AV
 |.val (.lst ds)=>if ds.all YY then some (.own ds) else none
 |.val d=>if YY d then some (.val d) else none
 |.own ds=>some (.own ds)
 |.tab c ds=>some (.tab c ds)
noncomputable def Zx.flat(σ:Zx):Zx:=λx=>(σ x).bind AV.flat
theorem Bp  (h:AV.val a=.val b):a=b:=by cases h;rfl
theorem u7  (h:(a&&b)=true):a=true/\b=true:=Zyb.mp h
theorem KO    (hd:YY d=true)(r:Rep P h d v):Rep P' h d v:=by
 cases d<;>first |exact r |exact absurd hd Zz6
theorem Dq  :∀{vs:List Zzy},ds.all YY=true->Zy P h ds vs->Zy P' h ds vs:=by
 induction ds with
 |nil=>exact λ_ r=>r
 |cons d ds ih=>exact λhd r=>ZzY (λv=>ZzY λvs t=>have a:=u7 hd;⟨t.1,KO a.1 t.2.1,ih a.2 t.2.2⟩) r
theorem AV.uy  {R:Prop}(e:AV.flat b=some a)(l:∀ds,b=.val (.lst ds)->ds.all YY=true->a=.own ds->R)(v:∀d,b=.val d->YY d=true->a=.val d->R)(o:XY b=true->a=b->R):R:=by
 have one:∀{d:PV},(if YY d then some (AV.val d) else none)=some a->YY d=true/\a=.val d:=λ{d} e=>(ZwU (YY d)).elim (λh=>⟨h,(Zzv ((if_pos h).symm.trans e)).symm⟩) λh=>nomatch (if_neg (h ▸ Zz6)).symm.trans e
 cases b with
 |own ds=>exact o rfl (Zzv e).symm
 |tab c ds=>exact o rfl (Zzv e).symm
 | val d=>
   cases d with
   |lst ds=>exact (ZwU (ds.all YY)).elim (λh=>l ds rfl h (Zzv ((if_pos h).symm.trans e)).symm) λh=>nomatch (if_neg (h ▸ Zz6)).symm.trans e
   | _=>
     refine v _ rfl ?_ ?_
     exact And.left (one e)
     exact And.right (one e)
theorem Inv.Vx(I:Inv C F N M σ h):Wq (YB F.base M) F.env σ.flat h:=λx a e=>
 (bS e).elim λb t=>I.own.elim λow fg=>AV.uy t.2
  (λds k hd q=>(I.val x _ (k ▸ t.1)).elim λv r=>(Yn.mp r.2).elim λb z=>z.elim λvs z=>z.elim λn z=>q ▸ ⟨b,vs,n,z.1 ▸ r.1,z.2.2.1,Dq hd z.2.2.2⟩)
  (λd k hd q=>(I.val x _ (k ▸ t.1)).elim λv r=>q ▸ ⟨v,r.1,KO hd r.2⟩) λi q=>q ▸ (fg.1 x _ t.1 i).1.PH
theorem Inv.Ww(I:Inv C F N M σ h):ZM (YB F.base M) h:=λa n=>by
 by_cases m:M a
 ·exact I.alive a m
 ·cases e:F.base.get? a with
  |none=>exact absurd ⟨m,e⟩ n
  |some o=>exact⟨o,I.ext _ _ e⟩
noncomputable def Zx.set(σ:Zx)(x:oO)(a:AV):Zx:=λy=>if y=x then some a else σ y
def ZS(env:Env)(cs:List oO)(x:oO):Prop:=env.kindOf x=some .local∨x∈cs
theorem Inv.move   (D:Zzq->Prop)(I:Inv C F N M σ h)
 (hD:∀a,D a->M a/\¬N a) (hk:∀a o,¬D a->h.get? a=some o->h'.get? a=some o)
 (hM:∀a,M' a->M a∨(h.get? a=none/\∃o,h'.get? a=some o)) (qK:∀a,M a->M' a)
 (Z9:∀a,D a->∃o,h'.get? a=some o)
 (R3:∃m,h'.Ns F.env.locals m) (KN:∀x∈F.cs,∀c v,F.env.cells.lookup x=some c->h.IsCell c v->∃v',h'.IsCell c v')
 (lP:∀x d,σ' x=some (.val d)->(∃v,Loc F.env h' x v/\Rep (F.out M') h' d v)∨(σ x=some (.val d)/\∀v,Loc F.env h x v->Loc F.env h' x v))
 (hV:∃ow:oO->List Zzq,Jk F N M' σ' h' ow/\UB σ' ow):
 Inv C F N M' σ' h' where
 Jx:=I.Jx
 live:=I.live
 ext:=λa o e=>hk a o (λd=>by rw[I.fresh a (hD a d).1] at e;cases e) (I.ext a o e)
 fresh:=λa m=>by
  rcases hM a m with m |⟨m,_⟩
  ·exact I.fresh a m
  ·cases e:F.base.get? a with
   |none=>rfl
   |some o=>rw[I.ext a o e] at m;cases m
 alive:=λa m=>by
  rcases hM a m with m |⟨_,m⟩
  ·by_cases d:D a
   ·exact Z9 a d
   ·obtain⟨o,e⟩:=I.alive a m;exact⟨o,hk a o d e⟩
  ·exact m
 UX:=qK _ I.UX
 Ua:=I.Ua
 pin:=λa n=>qK a (I.pin a n)
 ns:=R3
 cell:=λx hx=>by
  obtain⟨a,c,v,e,f,g,g'⟩:=I.cell x hx
  obtain⟨v',f'⟩:=KN x hx c v e f
  exact⟨a,c,v',e,f',qK c g,g'⟩
 apart:=I.apart
 outer:=I.outer
 val:=λx d e=>by
  rcases lP x d e with q |⟨q,l'⟩
  ·exact q
  ·obtain⟨v,l,r⟩:=I.val x d q
   refine⟨v,l' v l,r.mono (λa o ea p=>⟨p.1,λm=>?_⟩) λa o p ea=>hk a o (λd=>p.2 (hD a d).1) ea⟩
   rcases hM a m with m |⟨m,_⟩
   ·exact p.2 m
   ·rw[m] at ea;cases ea
 own:=hV
end
section
variable {C:Cx}{k:Nat}{env:Env}{base:Zza}{F:Ye}{N M M':Zzq->Prop}{σ:Zx}{h h':Zza}{s s' s₁ s₂:Zzu}
theorem KZ      {v:Option Zzy}(O:Thing P h u a ow)(x:h.IsCell q v):q∉ow:=λm=>
 O.el (λds b vs n e w u g r=>Jr x (Zz5.mp (w ▸ m) ▸ g)) λc ds b d q' vs e w u T r=>
  (HK (w ▸ m:q∈[b,d,q'])).elim (λk=>x.elim λo t=>nomatch congrArg Obj.data (Zzv (t.1.symm.trans (k ▸ T.inst))) ▸ t.2) λk=>k.elim (λk=>Ky T.ns.ns (k ▸ x)) λk=>T.list.elim λws t=>t.elim λn t=>Jr x (k ▸ t.1)
theorem Zx.WR   :(σ.set x a) x=some a:=if_pos rfl
theorem Zx.Xd    (h:y≠x):(σ.set x a) y=σ y:=if_neg h
theorem Zx.WE    {P:Prop}(e:(σ.set x a) y=some b)(p:y=x->a=b->P)(q:y≠x->σ y=some b->P):P:=
 (Zvc (y=x)).elim (λk=>p k (Zzv (((if_pos k).symm:some a=if y=x then some a else σ y).trans e))) λk=>q k (((if_neg k).symm:σ y=if y=x then some a else σ y).trans e)
theorem QL   {P:Prop}(e:a=.val d)(i:XY a=true):P:=absurd (e ▸ i:XY (.val d)=true) Zz6
theorem Loc.sameBut    (l:Loc env h y w)(hs:Zxi D h h')(nL:env.locals≠D)(nc:∀w,¬h.IsCell D w):Loc env h' y w:=
 l.imp (λt=>⟨t.1,t.2.imp λm r=>⟨r.1.sameBut hs nL,r.2⟩⟩) λt=>⟨t.1,t.2.imp λc r=>⟨r.1,r.2.sameBut hs λq=>nc _ (q ▸ r.2)⟩⟩
theorem Inv.Sk  (I:Inv C F N M σ h)(hN:∀b,N₂ b->N b):Inv C F N₂ M σ h where
 Jx:=I.Jx
 live:=I.live
 ext:=I.ext
 fresh:=I.fresh
 alive:=I.alive
 UX:=I.UX
 Ua:=λn=>I.Ua (hN _ n)
 pin:=λa n=>I.pin a (hN a n)
 ns:=I.ns
 cell:=λx hx=>(I.cell x hx).imp_right λt=>t.imp λc t=>t.imp λv t=>⟨t.1,t.2.1,t.2.2.1,λn=>t.2.2.2 (hN _ n)⟩
 apart:=I.apart
 outer:=I.outer
 val:=I.val
 own:=I.own.imp λow t=>⟨λx ds e i=>(t.1 x ds e i).imp_right λm b hb=>⟨(m b hb).1,λn=>(m b hb).2.1 (hN _ n),(m b hb).2.2⟩,t.2⟩
theorem Inv.UL(R:Zzq->Prop)(I:Inv C F N M σ h)(hk:ZY h h')(new:∀b,R b->h.get? b=none)(lv:∀b,R b->∃o,h'.get? b=some o):
 Inv C F (λb=>N b∨R b) (λb=>M b∨R b) σ h':=
 have nM:∀b,M b->¬R b:=λb m r=>(I.alive b m).elim λo e=>nS ((new b r).symm.trans e)
 ⟨I.Jx,I.live,λa o e=>hk _ _ (I.ext a o e),λa m=>m.elim (I.fresh a) λm=>ZD I.ext (new a m),λa m=>m.elim (λm=>(I.alive a m).imp λo e=>hk _ _ e) (lv a),.inl I.UX,λn=>n.elim I.Ua (nM _ I.UX),λa n=>n.imp_left (I.pin a),I.ns.imp λm e=>e.keeps hk,
  λx hx=>(I.cell x hx).imp_right λt=>t.imp λc t=>t.imp λv t=>⟨t.1,t.2.1.keeps hk,.inl t.2.2.1,λn=>n.elim t.2.2.2 (nM c t.2.2.1)⟩,I.apart,I.outer,
  λx d e=>(I.val x d e).imp λv t=>⟨t.1.ext hk,t.2.mono (λa o e p=>⟨p.1,λm=>m.elim p.2 λm=>nS ((new a m).symm.trans e)⟩) λa o _ e=>hk a o e⟩,
  I.own.imp λow fg=>⟨λx a e i=>⟨(fg.1 x a e i).1.mono (λv l=>l.ext hk) (λa o _ e=>hk a o e) (λa o e p=>⟨λm=>m.elim p.1 λm=>nS ((new a m).symm.trans e),p.2⟩) λa o _ e=>hk a o e,
   λb hb=>⟨.inl ((fg.1 x a e i).2 b hb).1,λn=>n.elim ((fg.1 x a e i).2 b hb).2.1 (nM b ((fg.1 x a e i).2 b hb).1),((fg.1 x a e i).2 b hb).2.2⟩⟩,fg.2⟩⟩
theorem EP    {Wh:oO->List Zzq}(g:UB σ Wh)(lv:∀y b,σ y=some b->XY b=true->∀c∈Wh y,c∉ow):UB (σ.set x a) λy=>if y=x then ow else Wh y:=λy z b b' c e i e' i' hy hz=>
 have hy:c∈if y=x then ow else Wh y:=hy
 have hz:c∈if z=x then ow else Wh z:=hz
 Zx.WE e (λk _=>Zx.WE e' (λk' _=>k.trans k'.symm) λk' e'=>absurd ((if_pos k:(if y=x then ow else Wh y)=ow) ▸ hy) (lv z b' e' i' c ((if_neg k':(if z=x then ow else Wh z)=Wh z) ▸ hz)))
  λk e=>Zx.WE e' (λk' _=>absurd ((if_pos k':(if z=x then ow else Wh z)=ow) ▸ hz) (lv y b e i c ((if_neg k:(if y=x then ow else Wh y)=Wh y) ▸ hy)))
   λk' e'=>g y z b b' c e i e' i' ((if_neg k:(if y=x then ow else Wh y)=Wh y) ▸ hy) ((if_neg k':(if z=x then ow else Wh z)=Wh z) ▸ hz)
theorem Inv.store   {v:Zzy}{a:AV}   (I:Inv C F N M σ h)(hN:∀b,N₂ b->N b)(how:∀b∈ow,N b/\¬N₂ b)
 (hD:M D/\¬N D) (hs:Zxi D h h') (zS:Loc F.env h' x v) (aB:∀y w,y≠x->Loc F.env h y w->Loc F.env h' y w)
 (R3:∃m,h'.Ns F.env.locals m) (KN:∀y∈F.cs,∀c w,F.env.cells.lookup y=some c->h.IsCell c w->∃w',h'.IsCell c w')
 (pf:D=F.env.locals∨∃w,h.IsCell D w) (Z9:∃o,h'.get? D=some o)
 (T:(∃d,a=.val d/\ow=[]/\Rep (F.out M) h d v)∨(XY a=true/\Thing (YB F.base M) h v a ow)):
 Inv C F N₂ M (σ.set x a) h':=
 have lQ:D∉ow:=λm=>hD.2 (how D m).1
 have kept:∀b o,¬b=D->h.get? b=some o->h'.get? b=some o:=λb o n e=>(hs.2 b n).trans e
 have xx:∀b o,YB F.base M b->h.get? b=some o->h'.get? b=some o:=λb o p eb=>kept b o (λq=>p.1 (q ▸ hD.1)) eb
 (I.Sk hN).move (λb=>b=D) (λb q=>q ▸ ⟨hD.1,λn=>hD.2 (hN _ n)⟩) kept (λb m=>.inl m) (λb m=>m) (λb q=>q ▸ Z9) R3 KN
  (λy d e=>Zx.WE e (λk q=>.inl (T.elim (λt=>t.elim λd' t=>have r:Rep (F.out M) h d v:=Bp (t.1.symm.trans q) ▸ t.2.2;⟨v,k ▸ zS,r.mono (λ_ _ _ p=>p) λb o p eb=>kept b o (λq=>p.2 (q ▸ hD.1)) eb⟩) λt=>QL q t.1)) λk e=>.inr ⟨e,λw l=>aB y w k l⟩)
  (I.own.elim λWh fg=>⟨λy=>if y=x then ow else Wh y,λy b e i=>Zx.WE e
   (λk q=>(congrArg (SW F N₂ M h' y b) (if_pos k)).mpr (T.elim (λt=>t.elim λd t=>QL (q.symm.trans t.1) i) λt=>⟨⟨v,k ▸ zS,q ▸ t.2.mono (λb o m eb=>kept b o (λq=>lQ (q ▸ m)) eb) (λ_ _ _ p=>p) xx⟩,λb m=>⟨I.pin b (how b m).1,(how b m).2,λq=>I.Ua (q ▸ (how b m).1)⟩⟩))
   λk e=>(congrArg (SW F N₂ M h' y b) (if_neg k)).mpr
    ⟨(fg.1 y b e i).1.mono (λw l=>aB y w k l) (λb' o m eb=>kept b' o (λq=>pf.elim (λq'=>((fg.1 y b e i).2 _ m).2.2 (q.trans q')) λt=>t.elim λw hw=>(fg.1 y b e i).1.elim λu t'=>KZ t'.2 hw (q ▸ m)) eb) (λ_ _ _ p=>p) xx,
      λb' m=>⟨((fg.1 y b e i).2 b' m).1,λn=>((fg.1 y b e i).2 b' m).2.1 (hN b' n),((fg.1 y b e i).2 b' m).2.2⟩⟩,
   EP fg.2 λy b e i c m m'=>((fg.1 y b e i).2 c m).2.1 (how c m').1⟩)
theorem yH   (x:h.Ns a m)(y:h.Ns a m'):m=m':=by
 obtain⟨o,es,ep,ho,hd,hk,hf⟩:=x
 obtain⟨o',Cp,NM,IL,Ku,aL,RZ⟩:=y
 rw[ho] at IL;cases IL;rw[hd] at Ku;cases Ku
 funext n;rw[<-hf,RZ]
def Oi(F:Ye)(s s':Zzu):Prop:=∀b o,s.heap.get? b=some o->b≠F.env.locals->¬(∃y,y∈F.cs/\F.env.cells.lookup y=some b)->s'.heap.get? b=some o
section
variable {N₂:Zzq->Prop}{A:ZzH}{E:Zzy->Zzu->Prop}{x:oO}{v:Zzy}{a:AV}{ow:List Zzq}{Q:Unit->Zzu->Prop}
theorem GX    (hD:M D/\¬N D)(hs:Zxi D s.heap h'):Zo N M s M { s with heap:=h',toks:=tk }:=
 ⟨⟨h',tk,rfl⟩,λb o n e=>(hs.2 b λq=>n.elim (λn=>n (q ▸ hD.1)) λn=>hD.2 (q ▸ n)).trans e,λb m=>.inl m⟩
theorem ED(hx:F.env.kindOf x=some .local)(hf:F.env.scope.kind=.function)(I:Inv C F N M σ s.heap)(hN:∀b,N₂ b->N b)(how:∀b∈ow,N b/\¬N₂ b)
 (T:(∃d,a=.val d/\ow=[]/\Rep (F.out M) s.heap d v)∨(XY a=true/\Thing (YB F.base M) s.heap v a ow))
 (q:∀s',Inv C F N₂ M (σ.set x a) s'.heap->Zo N M s M s'->Oi F s s'->Q () s'):wpAny C.M A (storeName F.env x v) Q E s:=
 I.ns.elim λm hm=>wpAny_storeName_local hx hm (λh' hn hs=>
  have nc:∀w c',s.heap.IsCell c' w->c'≠F.env.locals:=λw c' e q=>Ky hm (q ▸ e)
  q _ (I.store hN how (D:=F.env.locals) ⟨I.UX,I.Ua⟩ hs (.inl ⟨hx,_,hn,if_pos rfl⟩) (λy w ny l=>l.imp (λt=>⟨t.1,_,hn,t.2.elim λm' r=>(if_neg ny).trans ((congrFun (yH hm r.1) y).trans r.2)⟩) λt=>⟨t.1,t.2.imp λc r=>⟨r.1,r.2.sameBut hs (nc _ _ r.2)⟩⟩) ⟨_,hn⟩ (λy hy c w e f=>⟨w,f.sameBut hs (nc _ _ f)⟩) (.inl rfl) (hn.elim λo t=>t.elim λ_ t=>t.elim λ_ t=>⟨o,t.1⟩) T) (GX ⟨I.UX,I.Ua⟩ hs) λb o e n _=>(hs.2 b n).trans e) (hf ▸ rfl)
theorem SF(hx:x∈F.cs)(hf:F.env.scope.kind=.function)(I:Inv C F N M σ s.heap)(hN:∀b,N₂ b->N b)(how:∀b∈ow,N b/\¬N₂ b)
 (T:(∃d,a=.val d/\ow=[]/\Rep (F.out M) s.heap d v)∨(XY a=true/\Thing (YB F.base M) s.heap v a ow))
 (q:∀s',Inv C F N₂ M (σ.set x a) s'.heap->Zo N M s M s'->Oi F s s'->Q () s'):wpAny C.M A (storeName F.env x v) Q E s:=
 (I.cell x hx).2.elim λc t=>t.elim λv₀ t=>I.ns.elim λm hm=>
  have nL:F.env.locals≠c:=λq=>Ky hm (q ▸ t.2.1)
  wpAny_storeName_cell hf (I.cell x hx).1 t.1 t.2.1 λh' hn hs=>q _ (I.store hN how (D:=c) t.2.2 hs (.inr ⟨.inl (I.cell x hx).1,c,t.1,hn⟩)
   (λy w ny l=>l.imp (λt=>⟨t.1,t.2.imp λm r=>⟨r.1.sameBut hs nL,r.2⟩⟩) λu=>⟨u.1,u.2.imp λc' r=>⟨r.1,r.2.sameBut hs λq=>ny (I.apart x y c hx t.1 (q ▸ r.1)).symm⟩⟩)
   ⟨m,hm.sameBut hs nL⟩ (λy hy c' w e f=>(Zvc (c'=c)).elim (λq=>q ▸ ⟨_,hn⟩) λq=>⟨w,f.sameBut hs q⟩) (.inr ⟨_,t.2.1⟩) (hn.elim λo t=>⟨o,t.1⟩) T) (GX t.2.2 hs) λb o e _ n=>(hs.2 b λq=>n ⟨x,hx,q ▸ t.1⟩).trans e
theorem WC(hf:F.env.scope.kind=.function)(hx:ZS F.env F.cs x)(I:Inv C F N M σ s.heap)(hN:∀b,N₂ b->N b)(how:∀b∈ow,N b/\¬N₂ b)
 (T:(∃d,a=.val d/\ow=[]/\Rep (F.out M) s.heap d v)∨(XY a=true/\Thing (YB F.base M) s.heap v a ow))
 (q:∀s',Inv C F N₂ M (σ.set x a) s'.heap->Zo N M s M s'->Oi F s s'->Q () s'):wpAny C.M A (storeName F.env x v) Q E s:=
 hx.elim (λhx=>ED hx hf I hN how T q) λhx=>SF hx hf I hN how T q
end
theorem UB.back    (g:UB σ ow)(hx:σ x=some a1)(i1:XY a1=true):UB (σ.set x a2) ow:=λy z b b' c e i e' i' hy hz=>
 have back:∀{y b},(σ.set x a2) y=some b->XY b=true->∃b₀,σ y=some b₀/\XY b₀=true:=λe i=>Zx.WE e (λk _=>⟨_,k ▸ hx,i1⟩) λ_ e=>⟨_,e,i⟩
 (back e i).elim λb0 p0=>(back e' i').elim λb1 p1=>g y z b0 b1 c p0.1 p0.2 p1.1 p1.2 hy hz
theorem Inv.HD   {D:Zzq}{ow:oO->List Zzq}  (I:Inv C F N M σ h)(hx:σ x=some a1)(i1:XY a1=true)(i2:XY a2=true)(f:Jk F N M σ h ow)(g:UB σ ow)(hD:D∈ow x)(hl:Loc F.env h x u)
 (hs:Zxi D h h') (Z9:∃o,h'.get? D=some o) (T:Thing (YB F.base M) h' u a2 (ow x)):Inv C F N M (σ.set x a2) h':=
 have mm:=(f x _ hx i1).2
 have mD:=mm D hD
 have nL:F.env.locals≠D:=λq=>mD.2.2 q.symm
 have nc:∀w,¬h.IsCell D w:=λw c=>(f x _ hx i1).1.elim λu t=>KZ t.2 c hD
 have kept:∀b o,¬b=D->h.get? b=some o->h'.get? b=some o:=λb o n e=>(hs.2 b n).trans e
 I.move (λb=>b=D) (λb q=>q ▸ ⟨mD.1,mD.2.1⟩) kept (λb m=>.inl m) (λb m=>m) (λb q=>q ▸ Z9) (I.ns.imp λm hm=>hm.sameBut hs nL) (λy hy c w e f=>⟨w,f.sameBut hs λq=>nc _ (q ▸ f)⟩)
  (λy d e=>Zx.WE e (λ_ q=>QL q i2) λ_ e=>.inr ⟨e,λw l=>l.sameBut hs nL nc⟩)
  ⟨ow,λy b e i=>Zx.WE e (λk q=>k ▸ q ▸ ⟨⟨u,hl.sameBut hs nL nc,T⟩,mm⟩) λk e=>⟨(f y b e i).1.mono (λw l=>l.sameBut hs nL nc) (λb' o mb eb=>kept b' o (λq'=>k (g y x b _ D e i hx i1 (q' ▸ mb) hD)) eb) (λ_ _ _ p=>p) λb o p eb=>kept b o (λq=>p.1 (q ▸ mD.1)) eb,(f y b e i).2⟩,g.back hx i1⟩
theorem Inv.iX       (I:Inv C F N M σ h)(hx:σ x=some (.own ds))(f:Jk F N M σ h ow)(g:UB σ ow)
 (hl:Loc F.env h x (.ref a)) (how:ow x=[a]) (hs:Zxi a h h') (hn:h'.get? a=some { cls:=.type "list",data:=.seq vs n }) (hr:Zy (YB F.base M) h ds' vs.toList):
 Inv C F N M (σ.set x (.own ds')) h':=
 have m:a∈ow x:=how ▸ .head _
 I.HD hx rfl rfl f g m hl hs ⟨_,hn⟩ ⟨a,how,rfl,vs,n,hn,hr.mono (λ_ _ _ p=>p) λb o p eb=>(hs.2 b (λq=>p.1 (q ▸ ((f x _ hx rfl).2 a m).1))).trans eb⟩
theorem Inv.GI      (I:Inv C F N M σ s₁.heap)(ok:Zo N M s M s₁)(hx:σ x=some (.own ds))(f:Jk F N M σ s₁.heap ow)(g:UB σ ow)
 (hl:Loc F.env s₁.heap x (.ref a)) (how:ow x=[a]) (hs:Zxi a s₁.heap h') (hn:∃n,h'.get? a=some { cls:=.type "list",data:=.seq vs n }) (hr:Zy (YB F.base M) s₁.heap ds' vs.toList):
 Inv C F N M (σ.set x (.own ds')) h'/\Zo N M s M { s₁ with heap:=h' }:=
 have ma:=(f x _ hx rfl).2 a (how ▸ .head _)
 ⟨hn.elim λn hn=>I.iX hx f g hl how hs hn hr,ok.trans (GX (tk:=s₁.toks) ⟨ma.1,ma.2.1⟩ hs)⟩
theorem Zy.erase  :∀{vs:List Zzy} {m:Nat},Zy P h ds vs->Zy P h (ds.eraseIdx m) (vs.eraseIdx m):=by
 induction ds with
 |nil=>exact λr=>r ▸ Zy.nil
 |cons d ds ih=>exact λ{vs m} r=>r.elim λv t=>t.elim λw t=>t.1 ▸ Nat.casesOn (motive:=λm=>Zy P h ((d::ds).eraseIdx m) ((v::w).eraseIdx m)) m t.2.2 λm=>Zy.cons t.2.1 (ih t.2.2)
theorem Inv.freeze   (I:Inv C F N M σ h)(hx:σ x=some (.own ds)):
 ∃M',Inv C F N M' (σ.set x (.val (.lst ds))) h/\∀s:Zzu,s.heap=h->Zo N M s M' s:=
 I.own.elim λow fg=>(fg.1 x _ hx rfl).1.elim λu t=>t.2.elim λa t2=>t2.2.2.elim λvs t3=>t3.elim λn t3=>
  have hm:a∈ow x:=t2.1 ▸ .head _
  have ma:=(fg.1 x _ hx rfl).2 a hm
  ⟨λb=>M b/\b≠a,⟨I.Jx,I.live,I.ext,λb m=>I.fresh b m.1,λb m=>I.alive b m.1,⟨I.UX,λq=>ma.2.2 q.symm⟩,I.Ua,λb n=>⟨I.pin b n,λq=>ma.2.1 (q ▸ n)⟩,I.ns,
   λy hy=>(I.cell y hy).imp_right λt=>t.imp λc t=>t.imp λv t=>⟨t.1,t.2.1,⟨t.2.2.1,λq=>Jr t.2.1 (q ▸ t3.1)⟩,t.2.2.2⟩,I.apart,I.outer,
   λy d e=>Zx.WE e (λk q=>⟨u,k ▸ t.1,Bp q ▸ Yn.mpr ⟨a,vs,n,t2.2.1,⟨F.MP I.live (I.fresh a ma.1),λm=>m.2 rfl⟩,t3.1,t3.2.mono (λb o e p=>⟨F.GD I.live p,λm=>p.1 m.1⟩) λ_ _ _ e=>e⟩⟩)
    λk e=>(I.val y d e).imp λv t=>⟨t.1,t.2.mono (λb o e p=>⟨p.1,λm=>p.2 m.1⟩) λ_ _ _ e=>e⟩,
   ow,λy b e i=>Zx.WE e (λk q=>QL q.symm i) λk e=>⟨(fg.1 y b e i).1.mono (λ_ l=>l) (λ_ _ _ e=>e) (λb o e p=>⟨λm=>p.1 m.1,p.2⟩) λ_ _ _ e=>e,λc hc=>⟨⟨((fg.1 y b e i).2 c hc).1,λq'=>k (fg.2 y x b _ a e i hx rfl (q' ▸ hc) hm)⟩,((fg.1 y b e i).2 c hc).2⟩⟩,
   λy z b b' c e i e' i' hy hz=>Zx.WE e (λk q=>QL q.symm i) λk e=>Zx.WE e' (λk q=>QL q.symm i') λk' e'=>fg.2 y z b b' c e i e' i' hy hz⟩,
   λs e=>⟨⟨_,_,rfl⟩,λ_ _ _ e=>e,λb m=>.inl m.1⟩⟩
end
inductive Z7 where
 |Z2 |brk |cnt
 |ret (d:PV)
def VI(base h:Zza):Z7->Flow->Prop
 |.Z2,.next=>True
 |.brk,.brk=>True
 |.cnt,.cont=>True
 |.ret d,.ret v=>Rep (λa=>base.get? a=none) h d v
 |_,_=>False
def Ex(C:Cx)(k:Nat)(F:Ye)(σ:Zx)(t:Sem Flow)(af:Z7)(σ':Zx):Prop:=
 ∀N M A s Q E,ZH k A->Inv C F N M σ s.heap->(∀fl M' s',VI F.base s'.heap af fl->Inv C F N M' σ' s'.heap->Zo N M s M' s'->Q fl s')->wpAny C.M A t Q E s
def Wj(C:Cx)(k:Nat)(env:Env)(σ:Zx)(e:Zzw)(a:AV):Prop:=
 XY a=true/\∀A s Q E P,ZH k A->C.G s.heap->Wq P env σ s.heap->ZM P s.heap->
  (∀v ow s',ZzK s s'->(∀b∈ow,s.heap.get? b=none)->Thing (λb=>P b/\b∉ow) s'.heap v a ow->Q v s')->wpAny C.M A (eval e env) Q E s
section
variable {C:Cx}{k:Nat}{F:Ye}{N M:Zzq->Prop}{σ σ₁ σ₂:Zx}{s s' s₁:Zzu}{af:Z7}
theorem Wu   (x:VI base h .Z2 fl):fl=.next:=by cases fl<;>first |rfl |exact x.elim
theorem Ex.nil:Ex C k F σ (execs [] F.env) .Z2 σ:=λN M A s Q E hr I q=>wpAny_execs_nil (q _ M s trivial I .refl)
theorem Ex.cons{st:ZzZ}  (h:Ex C k F σ (exec st F.env) .Z2 σ₁)(hs:Ex C k F σ₁ (execs rest F.env) af σ₂):Ex C k F σ (execs (st::rest) F.env) af σ₂:=λN M A s Q E hr I q=>
 wpAny_execs_cons (h N M A s _ E hr I λfl M' s' hf I' ok=>by
  rw[Wu hf]
  exact hs N M' A s' Q E hr I' λfl RG Rd RZ RD I0=>q fl RG Rd RZ RD (ok.trans I0))
theorem Ex.stop{st:ZzZ}  (h:Ex C k F σ (exec st F.env) af σ₁)(hn:af≠.Z2):Ex C k F σ (execs (st::rest) F.env) af σ₁:=λN M A s Q E hr I q=>
 wpAny_execs_cons (h N M A s _ E hr I λfl M' s' hf I' ok=>by
  cases fl with
  |next=>cases af<;>first |exact hf.elim |exact absurd rfl hn
  |_=>exact q _ M' s' hf I' ok)
theorem Inv.of_keeps(I:Inv C F N M σ s.heap)(x:ZzK s s'):Inv C F N M σ s'.heap:=I.keeps (Zw x)
theorem Zo.after  (x:ZzK s s₁)(y:Zo N M s₁ M' s'):Zo N M s M' s':=(Zo.of_keeps x).trans y
theorem Ex.assign     (hf:Zt F.env)(hx:ZS F.env F.cs x)(h:Ev C k F.env σ e d)(hs:swapsWith e (some (.Name x p)) pos.line F.env=pure false):
 Ex C k F σ (exec (.Assign [.Name x p] e pos) F.env) .Z2 (σ.set x (.val d)):=λN M A s Q E hr I q=>by
 refine wpAny_Assign_Name (h A s _ _ _ hr I.G I.has I.Xv λv s₁ k₁ r₁=>?_) hs
 exact WC (ow:=[]) hf.kind hx (I.of_keeps k₁) (λ_ n=>n) (λ_ m=>nomatch m) (.inl ⟨d,rfl,rfl,r₁⟩) λs' I' ok _=>q _ _ s' trivial I' (ok.after k₁)
theorem Inv.EE        (hf:F.env.scope.kind=.function)(hx:ZS F.env F.cs x)
 (I:Inv C F N M σ s.heap) (ks:ZzK s s₁) (new:∀b∈ow,s.heap.get? b=none) (i:XY a=true) (T:Thing (λb=>YB F.base M b/\b∉ow) s₁.heap v a ow)
 (q:∀M' s',Inv C F N M' (σ.set x a) s'.heap->Zo N M s M' s'->Q () s'):wpAny C.M A (storeName F.env x v) Q E s₁:=by
 have I₁:=I.UL (λb=>b∈ow) (Zw ks) new T.lives
 refine WC hf hx I₁ (N₂:=N) (λb n=>.inl n) (λb m=>⟨.inr m,λn=>?_⟩) (.inr ⟨i,T.mono (λ_ _ _ e=>e) (λb o _ p=>⟨λm=>m.elim p.1.1 p.2,p.1.2⟩) λ_ _ _ e=>e⟩) λs' I' ok _=>q _ s' I' ?_
 ·obtain⟨o,e⟩:=I.alive b (I.pin b n);rw[new b m] at e;cases e
 ·refine⟨?_,λb o n e=>ok.kept b o ?_ (Zw ks b o e),λb m=>?_⟩
  ·obtain⟨h1,t1,rfl,_⟩:=ks
   obtain⟨h2,t2,e2⟩:=ok.same
   exact⟨h2,t2,by rw[e2]⟩
  ·rcases n with n |n
   ·exact .inl λm=>m.elim n λm=>by rw[new b m] at e;cases e
   ·exact .inr (.inl n)
  ·rcases m with m |m
   ·exact .inl m
   ·exact .inr (new b m)
theorem Ex.QP     (hf:Zt F.env)(hx:ZS F.env F.cs x)(h:Wj C k F.env σ.flat e a)(hs:swapsWith e (some (.Name x p)) pos.line F.env=pure false):
 Ex C k F σ (exec (.Assign [.Name x p] e pos) F.env) .Z2 (σ.set x a):=λN M A s Q E hr I q=>by
 refine wpAny_Assign_Name (h.2 A s _ _ (YB F.base M) hr I.G I.Vx I.Ww λv ow s₁ k₁ new T=>?_) hs
 exact I.EE hf.kind hx k₁ new h.1 T λM' s' I' ok=>q _ M' s' trivial I' ok
theorem Ex.aug      (hf:Zt F.env)(hx:ZS F.env F.cs x)(hd:σ x=some (.val a))(h:Ev C k F.env σ e b)(ht:ZA C k (inplaceOp op) a b d)
 (hn:(x==("__classdict__":oO))=false):Ex C k F σ (exec (.AugAssign (.Name x p) op e pos) F.env) .Z2 (σ.set x (.val d)):=λN M A s Q E hr I q=>by
 obtain⟨v,l,r⟩:=I.val x _ hd
 refine wpAny_AugAssign_Name (XS hf.kind l hn (h A s _ _ _ hr I.G I.has I.Xv λu s₁ k₁ r₁=>?_))
 have I₁:=I.of_keeps k₁
 refine ht A s₁ _ _ _ v u hr I₁.G (r.ext (Zw k₁)) r₁ I₁.Xv λy s₂ k₂ r₂=>?_
 exact WC (ow:=[]) hf.kind hx (I₁.of_keeps k₂) (λ_ n=>n) (λ_ m=>nomatch m) (.inl ⟨d,rfl,rfl,r₂⟩) λs' I' ok _=>q _ _ s' trivial I' ((ok.after k₂).after k₁)
theorem Ex.ite     (h:YV C k F.env σ t b)(ht:b=true->Ex C k F σ (execs body F.env) af σ₁)(he:b=false->Ex C k F σ (execs orelse F.env) af σ₁):
 Ex C k F σ (exec (.If t body orelse pos) F.env) af σ₁:=λN M A s Q E hr I q=>by
 refine wpAny_If (h A s _ _ _ hr I.G I.has I.Xv λs₁ k₁=>?_)
 cases b with
 |true=>exact ht rfl N M A s₁ Q E hr (I.of_keeps k₁) λfl M' s' hf I' ok=>q fl M' s' hf I' (ok.after k₁)
 |false=>exact he rfl N M A s₁ Q E hr (I.of_keeps k₁) λfl M' s' hf I' ok=>q fl M' s' hf I' (ok.after k₁)
theorem Ex.assert    (h:YV C k F.env σ t true):Ex C k F σ (exec (.Assert t msg pos) F.env) .Z2 σ:=λN M A s Q E hr I q=>
 wpAny_Assert_holds (h A s _ _ _ hr I.G I.has I.Xv λs₁ k₁=>⟨rfl,q _ M s₁ trivial (I.of_keeps k₁) (.of_keeps k₁)⟩)
theorem Ex.DW    (h:Ev C k F.env σ e d)(hd:YY d=true):Ex C k F σ (exec (.Return (some e) pos) F.env) (.ret d) σ:=λN M A s Q E hr I q=>
 wpAny_Return_some (h A s _ _ _ hr I.G I.has I.Xv λv s₁ k₁ r₁=>q _ M s₁ (KO hd r₁) (I.of_keeps k₁) (.of_keeps k₁))
def AV.last:AV->Option AV
 |.val d=>if YY d then some (.val d) else (AV.val d).flat
 |.own ds=>some (.val (.lst ds))
 |.tab c ds=>some (.val (.box (Y6 c) [] ds))
noncomputable def Zx.last(σ:Zx):Zx:=λx=>(σ x).bind AV.last
theorem AV.vA  {R:Prop}(e:AV.last b=some a)(v:∀d,b=.val d->YY d=true->a=.val d->R)(w:∀d,b=.val d->AV.flat b=some a->R)(o:∀ds,b=.own ds->a=.val (.lst ds)->R)(t:∀c ds,b=.tab c ds->a=.val (.box (Y6 c) [] ds)->R):R:=by
 cases b with
 |own ds=>exact o ds rfl (Zzv e).symm
 |tab c ds=>exact t c ds rfl (Zzv e).symm
 |val d=>exact (ZwU (YY d)).elim (λh=>v d rfl h (Zzv ((if_pos h).symm.trans e)).symm) λh=>w d rfl ((if_neg (h ▸ Zz6)).symm.trans e)
theorem Qh.weak      (H:Qh P env h x a)(w:∀b,P b->P' b):Qh P' env h x a:=by
 cases a with
 |val d=>exact ZzY (λv t=>⟨t.1,t.2.mono (λb _ _=>w b) λ_ _ _ e=>e⟩) H
 |own ds=>exact ZzY (λb=>ZzY λvs=>ZzY λn t=>⟨t.1,t.2.1,t.2.2.mono (λb _ _=>w b) λ_ _ _ e=>e⟩) H
 |tab c ds=>exact ZzY (λb=>ZzY λd=>ZzY λq=>ZzY λvs t=>⟨t.1,t.2.1,t.2.2.mono (λb _ _=>w b) λ_ _ _ e=>e⟩) H
theorem wY      (pa:P a)(pd:P d)(pb:P b)(T:TabAt h c a d b vs)(r:Zy P h ds vs):Rep P h (.box (Y6 c) [] ds) (.ref a):=⟨vs,⟨a,d,b,rfl,pa,pd,pb,T⟩,r⟩
theorem Inv.vS{h:Zza}(I:Inv C F N M σ h):Wq (λa=>F.base.get? a=none) F.env σ.last h:=λx a e=>
 (bS e).elim λb t=>I.own.elim λow fg=>AV.vA t.2
  (λd k hd q=>(I.val x _ (k ▸ t.1)).elim λv r=>q ▸ ⟨v,r.1,KO hd r.2⟩)
  (λd k hf=>(I.Vx x a (Zuc.mpr ⟨b,t.1,hf⟩)).weak λb p=>p.2)
  (λds k q=>have O:=fg.1 x (.own ds) (k ▸ t.1) rfl;O.1.elim λv z=>z.2.elim λa z2=>z2.2.2.elim λvs z3=>z3.elim λn z3=>q ▸ ⟨v,z.1,Yn.mpr ⟨a,vs,n,z2.2.1,I.fresh a (O.2 a (z2.1 ▸ .head _)).1,z3.1,z3.2.mono (λ_ _ _ p=>p.2) λ_ _ _ e=>e⟩⟩)
  (λc ds k q=>have O:=fg.1 x (.tab c ds) (k ▸ t.1) rfl;O.1.elim λv z=>z.2.elim λa z2=>z2.elim λd z2=>z2.elim λb z2=>z2.2.2.elim λvs z3=>q ▸ ⟨v,z.1,z2.2.1 ▸ wY (I.fresh a (O.2 a (z2.1 ▸ .head _)).1) (I.fresh d (O.2 d (z2.1 ▸ .tail _ (.head _))).1) (I.fresh b (O.2 b (z2.1 ▸ .tail _ (.tail _ (.head _)))).1) z3.1 (z3.2.mono (λ_ _ _ p=>p.2) λ_ _ _ e=>e)⟩)
theorem Inv.Pr  (I:Inv C F N M σ h):ZM (λa=>F.base.get? a=none) h:=λa n=>by
 cases e:F.base.get? a with
 |none=>exact absurd e n
 |some o=>exact⟨o,I.ext a o e⟩
theorem Ex.O3    (h:Ev C k F.env σ.last e d):Ex C k F σ (exec (.Return (some e) pos) F.env) (.ret d) σ:=λN M A s Q E hr I q=>
 wpAny_Return_some (h A s _ _ _ hr I.G I.vS I.Pr λv s₁ k₁ r₁=>q _ M s₁ r₁ (I.of_keeps k₁) (.of_keeps k₁))
theorem CJ(I:Inv C F N M σ h)   (hx:σ x=some (.own ds)){R:Prop}(q:∀ow a vs n,Jk F N M σ h ow->UB σ ow->ow x=[a]->Loc F.env h x (.ref a)->h.get? a=some { cls:=.type "list",data:=.seq vs n }->Zy (YB F.base M) h ds vs.toList->vs.size=ds.length->R):R:=
 I.own.elim λow fg=>(fg.1 x _ hx rfl).1.elim λu t=>t.2.elim λa t2=>t2.2.2.elim λvs t3=>t3.elim λn t3=>q ow a vs n fg.1 fg.2 t2.1 (t2.2.1 ▸ t.1) t3.1 t3.2 t3.2.length
theorem Ex.append   {e:Zzw}   (hf:Zt F.env)(hx:σ x=some (.own ds))(h:Ev C k F.env σ.flat e d)(hsz:ds.length<=Zzx)
 (hn:(x==("__classdict__":oO))=false) (hd:(x==("__debug__":oO))=false) (hi:interactive F.env=false)
 (hs:swapsWith (.Call (.Attribute (.Name x p) "append" apos) [e] [] cpos) none pos.line F.env=pure false)
 (YI:attributeBase (.Name x p) "append" F.env (eval (.Name x p) F.env)=eval (.Name x p) F.env) (ZN:(apos.endLine==cpos.line)=true)
 (he:Zyf [e] F.env=[(false,eval e F.env)]):
 Ex C k F σ (exec (.Expr (.Call (.Attribute (.Name x p) "append" apos) [e] [] cpos) pos) F.env) .Z2 (σ.set x (.own (ds++[d]))):=λN M A s Q E hr I q=>by
 have EA:ZQ C k F.env σ.flat [e] [.val d]:=⟨_,_,rfl,h,rfl,he⟩
 refine CJ I hx λow a vs n f g e1 l e0 r len=>?_
 refine wpAny_Expr ?_ hi hs
 refine wpAny_Call_method YI (EA.few (show 1<29 by decide)) ZN ZwT slot_list_append ZwQ ?_
 refine wpAny_Name (XS hf.kind l hn ?_) hd
 refine⟨⟨_,e0,rfl⟩,λb e=>by cases e;exact⟨_,e0,rfl⟩,?_⟩
 refine ZyJ EA.plain (EA.args hr I.G I.Vx I.Ww λws s₁ k₁ r₁=>?_)
 refine (XK r₁).elim λw z=>z.1 ▸ ?_
 have x₁:=Zw k₁
 refine wpAny_list_append_plain ⟨n,x₁ _ _ e0⟩ (λh' UU Kv=>?_) (len ▸ hsz)
 have m:=(I.keeps x₁).GI (ds':=ds++[d]) (.of_keeps k₁) hx (f.keeps x₁) g (l.ext x₁) e1 Kv UU ((congrArg (Zy _ _ _) ZxG).mpr ((r.ext x₁).append (Zy.one z.2)))
 exact q _ M _ trivial m.1 m.2
end
def Z5(e:Zzw):List oO:=Wr e (λx _=>[x]) (KQ e (λes _ _=>NL es (λx y=>[x,y]) []) [])
def TX(d:PV):Option (List PV):=match d with
 |.tup l=>dc l (λ_ r=>d1 r (λ_=>some l) none) none
 |_=>none
theorem wq   (h:TX d=some l):∃a b,d=.tup [a,b]/\l=[a,b]:=by
 cases d with
 |tup m=>exact KH h (λa r e h=>Vk h (λb e2 h=>⟨a,b,by rw[e,e2],by rw[<-Zzv h,e,e2]⟩) nS) nS
 |_=>exact nS h
def partsOf(e:Zzw)(d:PV):Option (List PV):=Wr e (λ_ _=>some [d]) (KQ e (λes _ _=>NL es (λ_ _=>TX d) none) none)
theorem CE{P:Prop}    (h:partsOf e d=some l)(q1:∀x p,e=.Name x p->l=[d]->P)(q2:∀x p y p' k Ab a b,e=.Tuple [.Name x p,.Name y p'] k Ab->d=.tup [a,b]->l=[a,b]->P):P:=
 Xf h (λx p e1 h=>q1 x p e1 (Zzv h).symm) λh=>QE h (λes k p e1 h=>G9 h (λx p1 y p2 e2 h=>let ⟨a,b,e3,e4⟩:=wq h;q2 x p1 y p2 k p a b (by rw[e1,e2]) e3 e4) nS) nS
def Stores(C:Cx)(A:ZzH)(env:Env)(Q:Unit->Zzu->Prop)(E:Zzy->Zzu->Prop):List oO->List Zzy->Zzu->Prop
 |[x],[v],s=>wpAny C.M A (storeName env x v) Q E s
 |[x,y],[v,u],s=>wpAny C.M A (storeName env x v) (λ_ s₁=>wpAny C.M A (storeName env y u) Q E s₁) E s
 |[x,y,z],[v,u,t],s=>wpAny C.M A (storeName env x v) (λ_ s₁=>wpAny C.M A (storeName env y u) (λ_ s₂=>wpAny C.M A (storeName env z t) Q E s₂) E s₁) E s
 |_,_,_=>False
noncomputable def Zd:Zx->List oO->List PV->Zx
 |σ,x::xs,d::ds=>Zd (σ.set x (.val d)) xs ds
 |σ,_,_=>σ
structure Vq(C:Cx)(A:ZzH)(Zu:Zzw)(I:Zzq)(fp wr:List Zzq)(n:Nat)(Pt:Nat->List Zzy->Prop)(St:Nat->Zza->Prop):Prop where
 sub:∀b∈wr,b∈fp
 frame:∀i h h',St i h->(∀b∈fp,∀o,h.get? b=some o->h'.get? b=some o)->St i h'
 lives:∀i h,St i h->∀b∈wr,∃o,h.get? b=some o
 item:∀(env:Env) i (s:Zzu) (Q:Unit->Zzu->Prop) (E:Zzy->Zzu->Prop),i<n->St i s.heap->
  (∀vals h' tk,Pt i vals->St (i+1) h'->(∀b o,b∉wr->s.heap.get? b=some o->h'.get? b=some o)->Stores C A env Q E (Z5 Zu) vals { s with heap:=h',toks:=tk })->
  wpAny C.M A (pyNext (.ref I)) (λr s₁=>match r with |none=>False |some v=>wpAny C.M A (letOwnedTupleGo Zu (.ref I) v) (λ_ s₂=>wpAny C.M A (assign Zu env v) Q E s₂) E s₁) E s
 done:∀(s:Zzu) (Q:Option Zzy->Zzu->Prop) (E:Zzy->Zzu->Prop),St n s.heap->
  (∀h' tk,(∀b o,b∉wr->s.heap.get? b=some o->h'.get? b=some o)->Q none { s with heap:=h',toks:=tk })->wpAny C.M A (pyNext (.ref I)) Q E s
 self:∀i (s:Zzu) (Q:Zzy->Zzu->Prop) (E:Zzy->Zzu->Prop),St i s.heap->Q (.ref I) s->wpAny C.M A (pyIter (.ref I)) Q E s
def Yd(C:Cx)(k:Nat)(env:Env)(σ:Zx)(strict:Bool)(Zu iter:Zzw)(ds:List PV):Prop:=
 ∀A s Q E P,ZH k A->C.G s.heap->Wq P env σ s.heap->ZM P s.heap->
  (∀I fp wr Pt St s',ZzK s s'->Vq C A Zu I fp wr ds.length Pt St->St 0 s'.heap->(∀b∈fp,∃o,s'.heap.get? b=some o)->(∀b∈wr,s.heap.get? b=none)->
   (strict=true->∀b∈fp,b∈wr∨P b)->
   (∀i vals,Pt i vals->∃d ps,ds[i]?=some d/\partsOf Zu d=some ps/\Zy (λa=>P a/\a∉wr) s'.heap ps vals)->Q (.ref I) s')->
  wpAny C.M A (eval iter env) (λxv s₁=>wpAny C.M A (pyIter xv) Q E s₁) E s
section
variable {C:Cx}{k:Nat}{F:Ye}{N M:Zzq->Prop}{σ σ₁ σ₂:Zx}{s s' s₁:Zzu}{af:Z7}{h h':Zza}
theorem Zo.Sk  (x:Zo N M s M' s')(hN:∀b,N₂ b->N b):Zo N₂ M s M' s':=⟨x.same,λa o n e=>x.kept a o (n.imp id (hN a)) e,x.new⟩
theorem Inv.F7(W:Zzq->Prop)(I:Inv C F N M σ h)(hW:∀b,W b->N b)(hk:∀b o,¬W b->h.get? b=some o->h'.get? b=some o)   (l:Loc F.env h x v):Loc F.env h' x v:=by
 rcases l with ⟨a,m,⟨o,es,ep,e,r⟩,e'⟩ |⟨a,c,hc,o,e,e'⟩
 ·exact .inl ⟨a,m,⟨o,es,ep,hk _ _ (λw=>I.Ua (hW _ w)) e,r⟩,e'⟩
 ·refine .inr ⟨a,c,hc,o,hk _ _ (λw=>?_) e,e'⟩
  rcases I.outer x c hc with hx |⟨o',e'⟩
  ·obtain⟨_,c',v',e1,_,_,g⟩:=I.cell x hx
   rw[hc] at e1;cases e1;exact g (hW _ w)
  ·rw[I.fresh c (I.pin c (hW c w))] at e';cases e'
theorem Inv.BG(W:Zzq->Prop)(I:Inv C F N M σ h)(hW:∀b,W b->N b)(hk:∀b o,¬W b->h.get? b=some o->h'.get? b=some o)(lv:∀b,W b->∃o,h'.get? b=some o):Inv C F N M σ h':=by
 have nL:¬W F.env.locals:=λw=>I.Ua (hW _ w)
 have Rn:∀b,¬M b->¬W b:=λb m w=>m (I.pin b (hW b w))
 refine⟨I.Jx,I.live,λa o e=>hk a o (λw=>?_) (I.ext a o e),I.fresh,λa m=>?_,I.UX,I.Ua,I.pin,?_,λx hx=>?_,I.apart,I.outer,λx d e=>?_,?_⟩
 ·rw[I.fresh a (I.pin a (hW a w))] at e;cases e
 ·by_cases w:W a
  ·exact lv a w
  ·obtain⟨o,e⟩:=I.alive a m;exact⟨o,hk a o w e⟩
 ·obtain⟨m,o,es,ep,e,r⟩:=I.ns;exact⟨m,o,es,ep,hk _ _ nL e,r⟩
 ·obtain⟨a,c,v,e,⟨o,f,f'⟩,g,g'⟩:=I.cell x hx
  exact⟨a,c,v,e,⟨o,hk c o (λw=>g' (hW _ w)) f,f'⟩,g,g'⟩
 ·obtain⟨v,l,r⟩:=I.val x d e
  exact⟨v,I.F7 W hW hk l,r.mono (λ_ _ _ p=>p) λa o p e=>hk a o (Rn a p.2) e⟩
 ·obtain⟨ow,f,g⟩:=I.own
  refine⟨ow,λx a e i=>?_,g⟩
  obtain⟨O,m⟩:=f x a e i
  exact⟨O.mono (λv l=>I.F7 W hW hk l) (λa o ma e=>hk a o (λw=>(m a ma).2.1 (hW a w)) e) (λ_ _ _ p=>p) λa o p e=>hk a o (Rn a p.1) e,m⟩
theorem Inv.Nf(W:Zzq->Prop)(I:Inv C F (λb=>N b∨W b) M σ h)(hN:∀b,N b->¬W b)(hk:∀b o,¬W b->h.get? b=some o->h'.get? b=some o):Inv C F N (λb=>M b/\¬W b) σ h':=by
 have hW:∀b,W b->N b∨W b:=λb w=>.inr w
 have nL:¬W F.env.locals:=λw=>I.Ua (hW _ w)
 have Rn:∀b,¬M b->¬W b:=λb m w=>m (I.pin b (hW b w))
 refine⟨I.Jx,I.live,λa o e=>hk a o (λw=>?_) (I.ext a o e),λa m=>I.fresh a m.1,λa m=>?_,⟨I.UX,nL⟩,λn=>I.Ua (.inl n),λa n=>⟨I.pin a (.inl n),hN a n⟩,?_,λx hx=>?_,I.apart,I.outer,λx d e=>?_,?_⟩
 ·rw[I.fresh a (I.pin a (hW a w))] at e;cases e
 ·obtain⟨o,e⟩:=I.alive a m.1;exact⟨o,hk a o m.2 e⟩
 ·obtain⟨m,o,es,ep,e,r⟩:=I.ns;exact⟨m,o,es,ep,hk _ _ nL e,r⟩
 ·obtain⟨a,c,v,e,⟨o,f,f'⟩,g,g'⟩:=I.cell x hx
  exact⟨a,c,v,e,⟨o,hk c o (λw=>g' (hW _ w)) f,f'⟩,⟨g,λw=>g' (hW _ w)⟩,λn=>g' (.inl n)⟩
 ·obtain⟨v,l,r⟩:=I.val x d e
  exact⟨v,I.F7 W hW hk l,r.mono (λ_ _ _ p=>⟨p.1,λm=>p.2 m.1⟩) λa o p e=>hk a o (Rn a p.2) e⟩
 ·obtain⟨ow,f,g⟩:=I.own
  refine⟨ow,λx a e i=>?_,g⟩
  obtain⟨O,m⟩:=f x a e i
  exact⟨O.mono (λv l=>I.F7 W hW hk l) (λa o ma e=>hk a o (λw=>(m a ma).2.1 (hW a w)) e) (λ_ _ _ p=>⟨λm=>p.1 m.1,p.2⟩) λa o p e=>hk a o (Rn a p.1) e,
   λb hb=>⟨⟨(m b hb).1,λw=>(m b hb).2.1 (hW b w)⟩,λn=>(m b hb).2.1 (.inl n),(m b hb).2.2⟩⟩
theorem WD(hf:F.env.scope.kind=.function)         (hx:ZS F.env F.cs x)(I:Inv C F N M σ s.heap)(r:Rep (F.out M) s.heap d v)
 (q:∀s',Inv C F N M (σ.set x (.val d)) s'.heap->Zo N M s M s'->Q () s'):wpAny C.M A (storeName F.env x v) Q E s:=
 WC (ow:=[]) hf hx I (λ_ n=>n) (λ_ m=>nomatch m) (.inl ⟨d,rfl,rfl,r⟩) λs₁ I₁ ok _=>q s₁ I₁ ok
section
variable {A:ZzH}{E:Zzy->Zzu->Prop}{Q:Unit->Zzu->Prop}{ds:List PV}{d e g:PV}{v u t:Zzy}{vals:List Zzy}{x y z:oO}{xs:List oO}
theorem QF(hf:F.env.scope.kind=.function)(hx:ZS F.env F.cs x)(I:Inv C F N M σ s.heap)(r:Rep (F.out M) s.heap d v)(rs:Zy (F.out M) s.heap ds vals)(q:∀s',Inv C F N M (σ.set x (.val d)) s'.heap->Zo N M s M s'->Zy (F.out M) s'.heap ds vals->Q () s'):wpAny C.M A (storeName F.env x v) Q E s:=
 WD hf hx I r λs₁ I₁ Qx=>q s₁ I₁ Qx (rs.mono (λ_ _ _ p=>p) λa o p e=>Qx.kept a o (.inl p.2) e)
theorem stores2(hf:F.env.scope.kind=.function)(hx:ZS F.env F.cs x)(hy:ZS F.env F.cs y)(I:Inv C F N M σ s.heap)(r:Rep (F.out M) s.heap d v)(rs:Zy (F.out M) s.heap [e] vals)(q:∀s',Inv C F N M ((σ.set x (.val d)).set y (.val e)) s'.heap->Zo N M s M s'->Q () s'):Stores C A F.env Q E [x,y] (v::vals) s:=
 rs.elim λu t=>t.elim λw t=>t.1 ▸ t.2.2 ▸ QF hf hx I r (Zy.one t.2.1) λs₁ I₁ Qx rs=>WD hf hy I₁ (Zy.head rs) λs₂ I₂ QX=>q s₂ I₂ (Qx.trans QX)
theorem wm(hf:F.env.scope.kind=.function)(hx:ZS F.env F.cs x)(hy:ZS F.env F.cs y)(hz:ZS F.env F.cs z)(I:Inv C F N M σ s.heap)(r:Rep (F.out M) s.heap d v)(rs:Zy (F.out M) s.heap [e,g] vals)
 (q:∀s',Inv C F N M (((σ.set x (.val d)).set y (.val e)).set z (.val g)) s'.heap->Zo N M s M s'->Q () s'):Stores C A F.env Q E [x,y,z] (v::vals) s:=
 rs.elim λu t=>t.elim λw t=>t.2.2.elim λu' t'=>t'.elim λw' t'=>t.1 ▸ t'.1 ▸ t'.2.2 ▸ QF hf hx I r (Zy.cons t.2.1 (Zy.one t'.2.1)) λs₁ I₁ Qx rs=>QF hf hy I₁ (Zy.head rs) (Zy.tail rs) λs₂ I₂ QX rs=>WD hf hz I₂ (Zy.head rs) λs₃ I₃ Wb=>q s₃ I₃ ((Qx.trans QX).trans Wb)
theorem vK  {P:Prop}  (h0:0<xs.length)(h3:xs.length<=3)(a:∀x,xs=[x]->P)(b:∀x y,xs=[x,y]->P)(c:∀x y z,xs=[x,y,z]->P):P:=by
 rcases xs with _ |⟨x,_ |⟨y,_ |⟨z,_ |⟨_,_⟩⟩⟩⟩
 ·exact absurd h0 (Zxe 0)
 ·exact a x rfl
 ·exact b x y rfl
 ·exact c x y z rfl
 ·exact absurd h3 (ZvM.mpr (ZzV 4 _))
theorem kS   (h:l.length=2):∃a b,l=[a,b]:=by
 rcases l with _ |⟨a,_ |⟨b,_ |⟨_,_⟩⟩⟩<;>cases h
 exact⟨a,b,rfl⟩
theorem Oa   (h:l.length=3):∃a b c,l=[a,b,c]:=by
 rcases l with _ |⟨a,_ |⟨b,_ |⟨c,_ |⟨_,_⟩⟩⟩⟩<;>cases h
 exact⟨a,b,c,rfl⟩
theorem Qc(hf:F.env.scope.kind=.function)(hx:∀x∈xs,ZS F.env F.cs x)(hl:xs.length=ds.length)(h0:0<xs.length)(h3:xs.length<=3)
 (I:Inv C F N M σ s.heap) (r:Zy (F.out M) s.heap ds vals) (q:∀s',Inv C F N M (Zd σ xs ds) s'.heap->Zo N M s M s'->Q () s'):Stores C A F.env Q E xs vals s:=
 have tr:∀{bf:List oO} {ds':List PV},xs=bf->ds=ds'->∀s',Inv C F N M (Zd σ bf ds') s'.heap->Zo N M s M s'->Q () s':=λex ed s' I=>q s' (ed ▸ ex ▸ I)
 vK h0 h3 (λx ex=>(List.length_eq_one_iff.mp (hl.symm.trans (congrArg ZyQ ex))).elim λd ed=>
  (show Zy (F.out M) s.heap [d] vals from ed ▸ r).elim λv t=>t.elim λw t=>ex ▸ t.1 ▸ t.2.2 ▸ WD hf (hx x (ex ▸ .head _)) I t.2.1 (tr ex ed))
  (λx y ex=>(kS (hl.symm.trans (congrArg ZyQ ex))).elim λd ed=>ed.elim λe ed=>
   (show Zy (F.out M) s.heap [d,e] vals from ed ▸ r).elim λv t=>t.elim λw t=>ex ▸ t.1 ▸ stores2 hf (hx x (ex ▸ .head _)) (hx y (ex ▸ .tail _ (.head _))) I t.2.1 t.2.2 (tr ex ed))
  λx y z ex=>(Oa (hl.symm.trans (congrArg ZyQ ex))).elim λd ed=>ed.elim λe ed=>ed.elim λg ed=>
   (show Zy (F.out M) s.heap [d,e,g] vals from ed ▸ r).elim λv t=>t.elim λw t=>ex ▸ t.1 ▸ wm hf (hx x (ex ▸ .head _)) (hx y (ex ▸ .tail _ (.head _))) (hx z (ex ▸ .tail _ (.tail _ (.head _)))) I t.2.1 t.2.2 (tr ex ed)
end
def qP(R:Zx->Prop)(af:Z7)(σ' σ₁:Zx):Z7->Prop
 |.Z2=>R σ₁
 |.cnt=>R σ₁
 |.brk=>af=.Z2/\σ'=σ₁
 |.ret v=>af=.ret v/\σ'=σ₁
def UA(C:Cx)(k:Nat)(F:Ye)(Zu:Zzw)(body:List ZzZ)(ds:List PV)(σ:Zx)(af:Z7)(σ':Zx):Prop:=ZjQ (motive:=λ_=>Zx->Prop) (λσ=>af=.Z2/\σ'=σ)
 (λd _ R σ=>∃ps Gv σ₁,partsOf Zu d=some ps/\Ex C k F (Zd σ (Z5 Zu) ps) (execs body F.env) Gv σ₁/\qP R af σ' σ₁ Gv) ds σ
theorem Uk{Zu:Zzw}   (h:partsOf Zu d=some ps):0<(Z5 Zu).length/\(Z5 Zu).length<=3:=by
 exact CE h (λx p e _=>by rw[e];exact⟨Nat.zero_lt_one,ZzV 1 2⟩) (λx p y p' k Ab a b e _ _=>by rw[e];exact⟨Zuy 1,ZzV 2 1⟩)
theorem GU{Zu:Zzw}   (h:partsOf Zu d=some ps):(Z5 Zu).length=ps.length:=by
 exact CE h (λx p e e2=>by rw[e,e2];rfl) (λx p y p' k Ab a b e _ e2=>by rw[e,e2];rfl)
section
variable {A:ZzH}{E:Zzy->Zzu->Prop}{env:Env}
theorem Vq.turn      {St:Nat->Zza->Prop}  {X:Zzu->Prop}(W:Vq C A Zu J fp wr n Pt St)(hi:i<n)(st:St i s.heap)
 (q:∀vals h' tk,Pt i vals->St (i+1) h'->(∀b o,b∉wr->s.heap.get? b=some o->h'.get? b=some o)->Stores C A env Q E (Z5 Zu) vals { s with heap:=h',toks:=tk }):
 wpAny C.M A (pyNext (.ref J)) (λr s₁=>match r with |none=>X s₁ |some v=>wpAny C.M A (letOwnedTupleGo Zu (.ref J) v) (λ_ s₂=>wpAny C.M A (assign Zu env v) Q E s₂) E s₁) E s:=
 ZzC (W.item env i s Q E hi st q) (λr _ h=>by
  cases r with
  |none=>exact h.elim
  |some v=>exact h) λ_ _ x=>x
end
theorem drop_cons{ds:List PV}   (hd:ds[i]?=some d):ds.drop i=d::ds.drop (i+1):=
 let ⟨_,he⟩:=Zyt.mp hd
 he ▸ ZwZ _
theorem BV  (h:i<n):n-(i+1)<n-i:=Zqz h (ZxO i)
theorem land  {X:Zzu->Prop}{Q:Flow->Zzu->Prop}     (WJ:VI B h Gv fl)(z:qP R af σ' σ₁ Gv)(n:R σ₁->X s)(q:∀fl,VI B h af fl->σ'=σ₁->Q fl s):
 (match (generalizing:=false) fl with |.next |.cont=>X s |.brk=>Q .next s |.ret v=>Q (.ret v) s):=by
 cases Gv<;>cases fl<;>first |exact WJ.elim |exact n z |exact q .next (z.1 ▸ trivial) z.2 |exact q _ (z.1 ▸ WJ) z.2
theorem UA.run        {X:Zzu->Prop}{Q:Flow->Zzu->Prop}(Q5:UA C k F Zu body (d::r) σ af σ')(hp:partsOf Zu d=some ps)(Y9:ZH k A)(I:Inv C F N M (Zd σ (Z5 Zu) ps) s.heap)
 (q1:∀σ₁ Mj s₄,Inv C F N Mj σ₁ s₄.heap->Zo N M s Mj s₄->UA C k F Zu body r σ₁ af σ'->X s₄) (q2:∀fl Mj s₄,VI F.base s₄.heap af fl->Inv C F N Mj σ' s₄.heap->Zo N M s Mj s₄->Q fl s₄):
 wpAny C.M A (execs body F.env) (λf s₃=>match f with
  |.next |.cont=>X s₃
  |.brk=>Q .next s₃
  |.ret v=>Q (.ret v) s₃) E s:=
 Zyh Q5 λuN t=>t.elim λGv t=>t.elim λσ₁ t=>
  have hex:Ex C k F (Zd σ (Z5 Zu) ps) (execs body F.env) Gv σ₁:=Zzv (t.1.symm.trans hp) ▸ t.2.1
  hex N M A s _ _ Y9 I λfl Mj s₄ WJ Ij J2=>land WJ t.2.2 (λhr=>q1 _ Mj s₄ Ij J2 hr) λpZ hf e=>q2 pZ Mj s₄ hf (e ▸ Ij) J2
structure FI(C:Cx)(F:Ye)(N M:Zzq->Prop)(wr:List Zzq)(St:Zza->Prop)(s₁:Zzu)(σ:Zx)(Mi:Zzq->Prop)(s':Zzu):Prop where
 inv:Inv C F (λb=>N b∨b∈wr) Mi σ s'.heap
 st:St s'.heap
 ok:Zo N (λb=>M b∨b∈wr) s₁ Mi s'
section
variable {wr fp:List Zzq}{St Gu:Zza->Prop}{Mi Mj:Zzq->Prop}{ps:List PV}{vals:List Zzy}{tk:Nat}{s₄:Zzu}{a:Zzq}{o:Obj}{σ':Zx}
theorem FI.old(L:FI C F N M wr St s₁ σ Mi s')(e:s₁.heap.get? a=some o)(m:Mi a):M a∨a∈wr:=(L.ok.new a m).elim id λm=>nS (m.symm.trans e)
theorem FI.rep(L:FI C F N M wr St s₁ σ Mi s')(UD:Zy (λb=>F.out M b/\b∉wr) s₁.heap ps vals):Zy (F.out Mi) s'.heap ps vals:=
 UD.mono (λa o e p=>⟨p.1.1,λm=>(L.old e m).elim p.1.2 p.2⟩) λa o p e=>L.ok.kept a o (.inl λm=>m.elim p.1.2 p.2) e
theorem FI.step(L:FI C F N M wr St s₁ σ Mi s')(fr:∀h h',Gu h->(∀b∈fp,∀o,h.get? b=some o->h'.get? b=some o)->Gu h')(VY:∀b∈fp,(b∈wr∨¬M b)/\∃o,s₁.heap.get? b=some o)(st:Gu s'.heap)
 (Ij:Inv C F (λb=>N b∨b∈wr) Mj σ' s₄.heap) (J2:Zo (λb=>N b∨b∈wr) Mi s' Mj s₄):FI C F N M wr Gu s₁ σ' Mj s₄:=
 ⟨Ij,fr _ _ st λb hb o e=>J2.kept b o ((Zvc (b∈wr)).elim (λw=>.inr (.inr w)) λnw=>.inl λm=>(VY b hb).2.elim λo e=>(L.old e m).elim ((VY b hb).1.resolve_left nw) nw) e,L.ok.trans (J2.Sk λb n=>.inl n)⟩
theorem FI.item(L:FI C F N M wr St s₁ σ Mi s')(UQ:∀b,N b->b∉wr)(hk:∀b o,b∉wr->s'.heap.get? b=some o->h.get? b=some o)(st:Gu h)(lv:∀b∈wr,∃o,h.get? b=some o):FI C F N M wr Gu s₁ σ Mi { s' with heap:=h,toks:=tk }:=
 ⟨L.inv.BG (λb=>b∈wr) (λb m=>.inr m) (λb o n e=>hk b o n e) lv,st,L.ok.trans ⟨⟨h,tk,rfl⟩,λb o n e=>hk b o (λm=>n.elim (λn=>n (L.inv.pin b (.inr m))) λn=>UQ b n m) e,λb m=>.inl m⟩⟩
theorem FI.fin(L:FI C F N M wr St s₁ σ Mi s')(UQ:∀b,N b->b∉wr)(k₁:ZzK s s₁)(new:∀b∈wr,s.heap.get? b=none):Inv C F N (λb=>Mi b/\¬b∈wr) σ s'.heap/\Zo N M s (λb=>Mi b/\¬b∈wr) s':=
 ⟨L.inv.Nf (λb=>b∈wr) UQ λ_ _ _ e=>e,(XQ.of_keeps k₁).trans L.ok.same,λb o n e=>L.ok.kept b o (n.elim (λn=>.inl λm=>m.elim n λm=>nS ((new b m).symm.trans e)) .inr) (Zw k₁ b o e),
  λb m=>(L.ok.new b m.1).elim (λm'=>.inl (m'.elim id λw=>absurd w m.2)) λm'=>.inr (ZD (Zw k₁) m')⟩
theorem FI.done(L:FI C F N M wr St s₁ σ Mi s')(UQ:∀b,N b->b∉wr)(k₁:ZzK s s₁)(new:∀b∈wr,s.heap.get? b=none)(hk:∀b o,b∉wr->s'.heap.get? b=some o->h.get? b=some o):
 Inv C F N (λb=>Mi b/\¬b∈wr) σ h/\Zo N M s (λb=>Mi b/\¬b∈wr) { s' with heap:=h,toks:=tk }:=
 have f:=(L.fin UQ k₁ new).2
 ⟨L.inv.Nf (λb=>b∈wr) UQ λb o n e=>hk b o n e,XQ.trans f.same ⟨h,tk,rfl⟩,λb o n e=>hk b o (λm=>nS ((new b m).symm.trans e)) (f.kept b o n e),f.new⟩
end
def FK(C:Cx)(k:Nat)(F:Ye)(N M:Zzq->Prop)(wr:List Zzq)(St:Nat->Zza->Prop)(s₁:Zzu)(Zu:Zzw)(body:List ZzZ)(ds:List PV)(af:Z7)(σ':Zx)(n:Nat)(s':Zzu):Prop:=
 ∃i σi Mi,n=ds.length-i/\i<=ds.length/\FI C F N M wr (St i) s₁ σi Mi s'/\UA C k F Zu body (ds.drop i) σi af σ'
section
variable {wr fp:List Zzq}{St:Nat->Zza->Prop}{Zu:Zzw}{body:List ZzZ}{ds:List PV}{σ':Zx}{A:ZzH}{Y:Zzu->Prop}{Q:Flow->Zzu->Prop}{E E':Zzy->Zzu->Prop}{J:Zzq}{Pt:Nat->List Zzy->Prop}{i n:Nat}{Mi:Zzq->Prop}
theorem FK.el{P:Prop}(K:FK C k F N M wr St s₁ Zu body ds af σ' n s')(q:∀i σi Mi,n=ds.length-i->i<=ds.length->FI C F N M wr (St i) s₁ σi Mi s'->UA C k F Zu body (ds.drop i) σi af σ'->P):P:=
 K.elim λi K=>K.elim λσi K=>K.elim λMi K=>q i σi Mi K.1 K.2.1 K.2.2.1 K.2.2.2
theorem FK.next(e:n=ds.length-i)(YN:i<ds.length)(L:FI C F N M wr (St (i+1)) s₁ σ Mi s')(h:UA C k F Zu body (ds.drop (i+1)) σ af σ'):∃m,m<n/\FK C k F N M wr St s₁ Zu body ds af σ' m s':=
 ⟨_,e ▸ BV YN,i+1,σ,Mi,rfl,YN,L,h⟩
theorem FI.turn(L:FI C F N M wr (St i) s₁ σ Mi s')(W:Vq C A Zu J fp wr ds.length Pt St)(hf:F.env.scope.kind=.function)(hx:∀x∈Z5 Zu,ZS F.env F.cs x)(UQ:∀b,N b->b∉wr)(VY:∀b∈fp,(b∈wr∨¬M b)/\∃o,s₁.heap.get? b=some o)(Y9:ZH k A)
 (hv:∀i vals,Pt i vals->∃d ps,ds[i]?=some d/\partsOf Zu d=some ps/\Zy (λb=>F.out M b/\b∉wr) s₁.heap ps vals) (YN:i<ds.length) (en:n=ds.length-i) (hr:UA C k F Zu body (ds.drop i) σ af σ')
 (q:∀fl Mj s₄,VI F.base s₄.heap af fl->FI C F N M wr (St (i+1)) s₁ σ' Mj s₄->Q fl s₄):
 wpAny C.M A (pyNext (.ref J)) (λ(r:Option Zzy) (s₅:Zzu)=>match r with |none=>Y s₅ |some v=>wpAny C.M A (letOwnedTupleGo Zu (.ref J) v) (λ_ s₂=>wpAny C.M A (assign Zu F.env v) (λ_ s₃=>wpAny C.M A (execs body F.env) (λf s₄=>match f with |.next |.cont=>∃m,m<n/\FK C k F N M wr St s₁ Zu body ds af σ' m s₄ |.brk=>Q .next s₄ |.ret v=>Q (.ret v) s₄) E' s₃) E s₂) E s₅) E s':=
 W.turn YN L.st λvals h₁ tk pv Qy XW=>(hv i vals pv).elim λd q'=>q'.elim λps q'=>
  have L₁:=L.item (tk:=tk) UQ XW Qy (W.lives _ _ Qy)
  Qc (s:={ s' with heap:=h₁,toks:=tk }) hf hx (GU q'.2.1) (Uk q'.2.1).1 (Uk q'.2.1).2 L₁.inv (L₁.rep q'.2.2) λs₃ I₃ Wb=>
   have L₃:=L₁.step (W.frame (i+1)) VY Qy I₃ Wb
   UA.run (drop_cons q'.1 ▸ hr) q'.2.1 Y9 I₃ (λσ₁ Mj s₄ Ij J2 C6=>FK.next en YN (L₃.step (W.frame (i+1)) VY L₃.st Ij J2) C6)
    λfl Mj s₄ WJ Ij J2=>q fl Mj s₄ WJ (L₃.step (W.frame (i+1)) VY L₃.st Ij J2)
theorem UA.end{P:Z7->Zx->Prop}(h:UA C k F Zu body [] σ af σ')(q:P .Z2 σ):P af σ':=(And.left h).symm ▸ (And.right h).symm ▸ q
end
theorem Ex.for      (hf:F.env.scope.kind=.function)(hx:∀x∈Z5 Zu,ZS F.env F.cs x)(hi:Yd C k F.env σ true Zu iter ds)(hr:UA C k F Zu body ds σ af σ')
 (hs:∀x,Zxs iter F.env x=pure x):Ex C k F σ (exec (.For Zu iter body [] pos) F.env) af σ':=λN M A s Q E Y9 I q=>
 wpAny_For (hi A s _ _ _ Y9 I.G I.has I.Xv λJ fp wr Pt St s₁ k₁ W Co Cr new str hv=>
  have UQ:∀b,N b->b∉wr:=λb n m=>(I.alive b (I.pin b n)).elim λo e=>nS ((new b m).symm.trans e)
  codeAny_forLoop_any (FK C k F N M wr St s₁ Zu body ds af σ') (λn s' K=>K.el λi σi Mi en PL L Q5=>
   (Zwj PL).elim (λYN=>L.turn W hf hx UQ (λb hb=>⟨(str rfl b hb).imp id λp=>p.2,Cr b hb⟩) Y9 hv YN en Q5 λfl Mj s₄ WJ L₄=>q fl _ s₄ WJ (L₄.fin UQ k₁ new).1 (L₄.fin UQ k₁ new).2)
    λJy=>
     have Q5:=Q5
     by
      rw[Jy,Zux] at Q5
      have d:=λh₁ tk XW=>L.done (h:=h₁) (tk:=tk) UQ k₁ new XW
      exact W.done s' _ _ (Jy ▸ L.st) λh₁ tk XW=>wpAny_execs_nil (UA.end (P:=λaf σ=>(∀fl Mj s₄,VI F.base s₄.heap af fl->Inv C F N Mj σ s₄.heap->Zo N M s Mj s₄->Q fl s₄)->Q .next { s' with heap:=h₁,toks:=tk }) Q5 (λq=>q .next _ _ trivial (d h₁ tk XW).1 (d h₁ tk XW).2) q))
   ds.length ⟨0,σ,_,rfl,Zz3 _,⟨I.UL (λb=>b∈wr) (Zw k₁) new (W.lives 0 _ Co),Co,.refl⟩,hr⟩) hs
end
def nV(C:Cx)(k:Nat)(F:Ye)(test:Zzw)(body:List ZzZ)(af:Z7)(σ':Zx)(R:Zx->Prop)(σ:Zx):Prop:=
 (YV C k F.env σ test false/\af=.Z2/\σ'=σ)∨(YV C k F.env σ test true/\∃Gv σ₁,Ex C k F σ (execs body F.env) Gv σ₁/\qP R af σ' σ₁ Gv)
def Hl(C:Cx)(k:Nat)(F:Ye)(test:Zzw)(body:List ZzZ)(n:Nat)(σ:Zx)(af:Z7)(σ':Zx):Prop:=Nat.rec (motive:=λ_=>Zx->Prop) (λ_=>False) (λ_ R=>nV C k F test body af σ' R) n σ
section
variable {C:Cx}{k:Nat}{F:Ye}{N M:Zzq->Prop}{σ σ₁ σ₂:Zx}{s s' s₁:Zzu}{af:Z7}{h h':Zza}
theorem Hl.el{P:Prop}     (h:Hl C k F test body n σ af σ')(q:∀m,m<n->nV C k F test body af σ' (λσ=>Hl C k F test body m σ af σ') σ->P):P:=by
 cases n with
 |zero=>exact False.elim h
 |succ m=>exact q m (ZxO m) h
def WK(C:Cx)(k:Nat)(F:Ye)(N M:Zzq->Prop)(test:Zzw)(body:List ZzZ)(af:Z7)(σ':Zx)(s:Zzu)(n:Nat)(s':Zzu):Prop:=∃σi Mi,Inv C F N Mi σi s'.heap/\Hl C k F test body n σi af σ'/\Zo N M s Mi s'
theorem Ex.while{test:Zzw}     (hr:Hl C k F test body n σ af σ'):Ex C k F σ (exec (.While test body [] pos) F.env) af σ':=λN M A s Q E Y9 I q=>
 wpAny_While (codeAny_whileLoop (WK C k F N M test body af σ' s) (λn s' K=>K.elim λσi K=>K.elim λMi K=>K.2.1.el λm hm z=>z.elim
  (λz=>z.1 A s' _ _ _ Y9 K.1.G K.1.has K.1.Xv λs₁ k₁=>wpAny_execs_nil (q _ Mi s₁ (z.2.1 ▸ trivial) (z.2.2 ▸ K.1.of_keeps k₁) (K.2.2.trans (.of_keeps k₁))))
  λz=>z.1 A s' _ _ _ Y9 K.1.G K.1.has K.1.Xv λs₁ k₁=>z.2.elim λGv z=>z.elim λσ₁ z=>z.1 N Mi A s₁ _ _ Y9 (K.1.of_keeps k₁) λfl Mj s₃ WJ Ij J2=>
   land (X:=λs₃=>∃m,m<n/\WK C k F N M test body af σ' s m s₃) (Q:=Q) WJ z.2 (λh=>⟨m,hm,_,Mj,Ij,h,K.2.2.trans (J2.after k₁)⟩) λfl hf e=>q fl Mj s₃ hf (e ▸ Ij) (K.2.2.trans (J2.after k₁)))
  n ⟨σ,M,I,hr,.refl⟩)
end
noncomputable def ZU(names:List (oO × Zwz)):List oO:=names.filterMap λx=>if x.2==.cell then some x.1 else none
theorem Wc:∀(names:List (oO × Zwz)) (n:Nat) (acc:List (oO × Zzq)),Zy6 n names acc=Zy6 n names []++acc
 |[],n,acc=>rfl
 | (x,kd)::r,n,acc=>by
   unfold Zy6
   split
   ·rw[Wc r (n+1) ((x,n)::acc),Wc r (n+1) [(x,n)]];simp
   ·exact Wc r n acc
theorem cellsFrom_names:∀(names:List (oO × Zwz)) (n:Nat) (x:oO),x∈(Zy6 n names []).map (·.1)<->x∈ZU names
 |[],n,x=>by simp [Zy6,ZU]
 | (y,kd)::r,n,x=>by
   unfold Zy6
   by_cases hk:(kd==Zwu)=true
   ·rw[if_pos hk,Wc]
    have:=cellsFrom_names r (n+1) x
    simp only[Zz9,ZyN,this,ZU,Zv0,hk,if_true]
    simp [or_comm]
   ·rw[if_neg hk]
    have:=cellsFrom_names r n x
    rw[this]
    simp only[ZU,Zv0]
    rw[if_neg hk]
theorem U9 :∀{l:List (oO × α)} {x:oO},x∈l.map (·.1)->∃c,l.lookup x=some c
 | (y,c)::r,x,h=>by
   rw[Zxx]
   cases hb:x==y with
   |true=>exact⟨c,rfl⟩
   | false=>
     simp only[ZzG,ZzN] at h
     rcases h with h |h
     ·subst h;simp at hb
     ·exact U9 h
theorem lookup_none_of_not_mem :∀{l:List (oO × α)} {x:oO},x∉l.map (·.1)->l.lookup x=none
 |[],x,_=>rfl
 | (y,c)::r,x,h=>by
   simp only[ZzG,ZzN,not_or] at h
   rw[Zxx]
   have:(x==y)=false:=by simpa using h.1
   rw[this];exact lookup_none_of_not_mem h.2
theorem KX :∀{l m:List (oO × α)} {x:oO},(l++m).lookup x=(l.lookup x).or (m.lookup x)
 |[],m,x=>by simp
 | (y,c)::r,m,x=>by
   simp only[Zwy,Zxx]
   cases x==y<;>simp [KX]
structure Lo(names:List (oO × Zwz))(cl cells:List (oO × Zzq))(h h':Zza)(L:Zzq):Prop where
 lJ:∀x∈ZU names,∃c,cells.lookup x=some c/\h'.IsCell c none/\h.get? c=none/\c≠L
 old:∀x,x∉ZU names->cells.lookup x=cl.lookup x
 apart:(∀y c,cl.lookup y=some c->∃o,h.get? c=some o)->∀x y c,x∈ZU names->cells.lookup x=some c->cells.lookup y=some c->x=y
noncomputable def B4(cls:String)(h:Zza)(names:List (oO × Zwz)):Zza:=pushCells (h.push { cls:=.type cls,data:=.dict #[] }) names
theorem Xz(h:Zza):h.get? h.objs.size=none:=(ZwY (h.get? h.objs.size)).elim id λt=>t.elim λo e=>absurd (ZzU e) (Zxe _)
theorem Xq{h:Zza}  (hb:h.objs.size<=b):h.get? b=none:=(ZwY (h.get? b)).elim id λt=>t.elim λo e=>absurd (ZzU e) (Zwr.mpr hb)
section
variable {h:Zza}{cls:String}{names:List (oO × Zwz)}{cl:List (oO × Zzq)}{x y:oO}{c:Zzq}
theorem Iw:ZY h (B4 cls h names):=λb o e=>pushCells_keeps _ _ b o (Zzj _ e)
theorem BM:(B4 cls h names).Ns h.objs.size (λ_=>none):=(Heap.Ns.new h (.type cls)).keeps (pushCells_keeps _ _)
theorem Lh:CellsOk (B4 cls h names) (h.objs.size+1) (Zy6 (h.objs.size+1) names []):=by
 have ok:=cellsFrom_ok names (h.push { cls:=.type cls,data:=.dict #[] }) (h.objs.size+1) [] ⟨λ_ _ hm=>(nomatch hm),List.Pairwise.nil⟩ (Zya (ZyT ..).symm)
 rwa [ZyT] at ok
theorem V5(e:(Zy6 (h.objs.size+1) names []).lookup x=some c):h.get? c=none/\c≠h.objs.size/\(B4 cls h names).IsCell c none/\x∈ZU names:=
 have t:=(Lh (cls:=cls)).empty x c (mem_of_lookup e)
 ⟨Xq (Zyx t.2),ZzE t.2,t.1,(cellsFrom_names names (h.objs.size+1) x).mp (Zyi.mpr ⟨_,mem_of_lookup e,rfl⟩)⟩
theorem DL(hx:x∈ZU names):∃c,(Zy6 (h.objs.size+1) names []).lookup x=some c:=U9 ((cellsFrom_names names (h.objs.size+1) x).mpr hx)
theorem Ls(e1:(Zy6 (h.objs.size+1) names []).lookup x=some c)(e2:(Zy6 (h.objs.size+1) names []).lookup y=some c):x=y:=name_of_addr (Lh (cls:="dict")).apart (mem_of_lookup e1) (mem_of_lookup e2)
theorem Ll:(Zy6 (h.objs.size+1) names cl).lookup x=((Zy6 (h.objs.size+1) names []).lookup x).or (cl.lookup x):=by rw[Wc,KX]
theorem Pz:Lo names cl (Zy6 (h.objs.size+1) names cl) h (B4 cls h names) h.objs.size:=
 have some_of:∀{x c},(Zy6 (h.objs.size+1) names []).lookup x=some c->(Zy6 (h.objs.size+1) names cl).lookup x=some c:=λe=>Ll.trans (by rw[e];rfl)
 have none_of:∀{x},(Zy6 (h.objs.size+1) names []).lookup x=none->(Zy6 (h.objs.size+1) names cl).lookup x=cl.lookup x:=λe=>Ll.trans (by rw[e];rfl)
 ⟨λx hx=>(DL hx).elim λc e=>⟨c,some_of e,(V5 e).2.2.1,(V5 (cls:=cls) e).1,(V5 (cls:=cls) e).2.1⟩,
  λx hx=>none_of (lookup_none_of_not_mem λm=>hx ((cellsFrom_names names _ x).mp m)),
  λhold x y c hx e1 e2=>(DL hx).elim λc0 e0=>
   have e0:(Zy6 (h.objs.size+1) names []).lookup x=some c:=e0.trans ((some_of e0).symm.trans e1)
   (ZwY ((Zy6 (h.objs.size+1) names []).lookup y)).elim (λn=>(hold y c ((none_of n).symm.trans e2)).elim λo eo=>nS ((V5 (cls:=cls) e0).1.symm.trans eo))
    λt=>t.elim λc2 e3=>Ls e0 (e3.trans ((some_of e3).symm.trans e2))⟩
end
section
variable {M:Model}{A:ZzH}{E:Zzy->Zzu->Prop}{s:Zzu}
theorem AF
 (hQ:∀L cells s',ZzK s s'->s.heap.get? L=none->s'.heap.Ns L (λ_=>none)->Lo scope.names cl cells s.heap s'.heap L->
  Q { scope:=scope,locals:=L,globals:=env.globals,cells:=cells,qual:=env.qual,func:=none,code:=env.code,frame:=env.frame,builtins:=env.builtins } s'):
 wpAny M A (newFunctionEnv scope env.globals cl [] env.qual none .none (some env)) Q E s:=by
 simp only[newFunctionEnv,Option.isSome_some,if_true]
 refine Zzz (wpAny_alloc ?_)
 refine Zzz (wpAny_layCells _ (λname kind cells=>by cases qo:kind==Zwu<;>simp [qo]) _ _ _ _ ?_)
 rw[show ({ s with heap:=s.heap.push { cls:=.type "dict",data:=.dict #[] } }:Zzu).heap.objs.size=s.heap.objs.size+1 from ZyT ..]
 refine Zzz ?_
 rw[ZyS]
 exact Zzi (Zzi (hQ _ _ _ ⟨_,s.toks,rfl,Iw⟩ (Xz _) BM Pz))
end
def xH(C:Cx)(A:ZzH)(E:Zzy->Zzu->Prop)(R:Zu8->Zzu->Prop)(target elt:Zzw)(ifs:List Zzw)(it acc:Zzy)(env:Env)(I:Nat->Zzu->Prop):Prop:=
 ∀n s,I n s->wpAny C.M A (pyNext it) (λr s₁=>match r with
    |none=>R (.ok .next) s₁
    |some v=>wpAny C.M A (letOwnedTupleGo target it v) (λ_ yp=>wpAny C.M A (assign target env v) (λ_ s₂=>
     wpAny C.M A (forIn ifs true λc r=>if r=true then do let ok <-isTrue c env (eval c env);pure (Zxl ok) else pure (Zxl r)) (λok s₃=>
      if ok=true then wpAny C.M A (eval elt env) (λx s₄=>
       wpAny C.M A (call (.builtin "list.append") [acc,x]) (λ_ s₅=>∃m,m<n/\I m s₅) E s₄) E s₃
      else ∃m,m<n/\I m s₃) E s₂) E yp) E s₁) E s
section
variable {C:Cx}{A:ZzH}{E:Zzy->Zzu->Prop}{R:Zu8->Zzu->Prop}{s:Zzu}
theorem Aj       (I:Nat->Zzu->Prop)
 (turn:xH C A (notedBy C.M A env λe s'=>R (.error e) s') R target elt ifs it acc env I)
 (n:Nat) (h:I n s):codeAny C.M A (.compLoop (.ListComp elt [⟨target,iter,ifs,0⟩] scope pos) 0 it acc env) R s:=by
 refine codeAny_loop rfl I (λn s hI=>?_) n h
 show wpAny _ A ((compTurn (.ListComp elt [⟨target,iter,ifs,0⟩] scope pos) 0 it acc env).onRaise (λx=>do noteFrame x env;theTreesLotGoes x)) _ _ s
 refine wpAny_noted ?_
 rw[compTurn_list]
 refine Zzz (ZxK (Zzz (ZzC (turn n s hI) (λr s₁ h₁=>?_) λ_ _ h'=>h')))
 cases r with
 |none=>exact Zzi h₁
 | some v=>
   refine Zzz (ZzC h₁ (λ_ yp dZ=>?_) λ_ _ h'=>h')
   refine Zzz (ZzC dZ (λ_ s₂ h₂=>Zzz (ZzC h₂ (λok s₃ h₃=>?_) λ_ _ h'=>h')) λ_ _ h'=>h')
   cases ok with
   |false=>exact Zzi ⟨rfl,h₃⟩
   | true=>
     exact Zzz (Zzz (ZzC h₃ (λx s₄ h₄=>Zzz (ZzC h₄ (λ_ s₅ h₅=>Zzi (Zzi ⟨rfl,h₅⟩)) λ_ _ h'=>h')) λ_ _ h'=>h'))
end
def Sz(C:Cx)(k:Nat)(env:Env)(σ:Zx):List Zzw->Bool->Prop
 |[],b=>b=true
 |[c],b=>YV C k env σ c b
 |_,_=>False
def JV(C:Cx)(k:Nat)(env:Env)(σ:Zx)(Zu:Zzw)(ifs:List Zzw)(elt:Zzw)(d:PV)(r:Option PV):Prop:=
 ∃ps b,partsOf Zu d=some ps/\Sz C k env (Zd σ (Z5 Zu) ps) ifs b/\((b=true/\∃y,r=some y/\Ev C k env (Zd σ (Z5 Zu) ps) elt y)∨(b=false/\r=none))
def Vi(C:Cx)(k:Nat)(env:Env)(σ:Zx)(Zu:Zzw)(ifs:List Zzw)(elt:Zzw)(ds ys:List PV):Prop:=
 ZjQ (motive:=λ_=>List PV->Prop) (λys=>ys=[]) (λd _ R ys=>∃r y₃,JV C k env σ Zu ifs elt d r/\ys=r.toList++y₃/\R y₃) ds ys
theorem Vi.len        :∀{ys:List PV},Vi C k env σ Zu ifs elt ds ys->ys.length<=ds.length:=by
 induction ds with
 |nil=>exact λh=>Zya (congrArg ZyQ (show _=[] from h))
 | cons d ds ih=>
   refine λ{ys} h=>Zyh h λr h=>h.elim λy h=>?_
   rw[h.2.1,Zzd,Zyw,ZzT]
   exact Zyy (ih h.2.2) (by cases r with |none=>exact Zz3 1 |some _=>exact Zz1 1)
theorem CT:∀{xs:List oO} {ps:List PV} {σ:Zx} {y:oO},y∉xs->Zd σ xs ps y=σ y
 |[],ps,σ,y,_=>by cases ps<;>rfl
 |x::xs,[],σ,y,_=>rfl
 | x::xs,p::ps,σ,y,h=>by
   simp only[ZzN,not_or] at h
   show Zd (σ.set x (.val p)) xs ps y=σ y
   rw[CT h.2];unfold Zx.set;rw[if_neg h.1]
section
variable {C:Cx}{k:Nat}{F:Ye}{N M:Zzq->Prop}{σ σ':Zx}{s s' s₁:Zzu}{h h':Zza}{env:Env}{A:ZzH}{E:Zzy->Zzu->Prop}{R:Zu8->Zzu->Prop}
theorem Inv.sub(I:Inv C F N M σ' h)(hs:∀x a,σ x=some a->σ' x=some a):Inv C F N M σ h:=
 { I with
   val:=λx d e=>I.val x d (hs x _ e)
   own:=let ⟨ow,a,b⟩:=I.own;⟨ow,λx a' e i=>a x a' (hs x a' e) i,λx y a b' c e i e' i'=>b x y a b' c (hs x a e) i (hs y b' e') i'⟩ }
theorem Sz.run    (R0:Sz C k F.env σ ifs b)(Y9:ZH k A)(I:Inv C F N M σ s.heap)(q:∀s',ZzK s s'->Q b s'):
 wpAny C.M A (forIn ifs true λc r=>if r=true then do let ok <-isTrue c F.env (eval c F.env);pure (Zxl ok) else pure (Zxl r)) Q E s:=by
 cases ifs with
 | nil=>
   have hb:b=true:=R0
   subst hb
   exact wpAny_tests_nil (q s (Z4 _))
 | cons c cs=>
   cases cs with
   |nil=>exact wpAny_tests_one (R0 A s _ _ _ Y9 I.G I.has I.Xv q)
   |cons _ _=>exact R0.elim
theorem Vi.head      {P:Prop}(h:Vi C k env σ Zu ifs elt (d::ds) ys)(q:∀r y₃,JV C k env σ Zu ifs elt d r->ys=r.toList++y₃->Vi C k env σ Zu ifs elt ds y₃->P):P:=
 Zyh h λr h=>h.elim λy h=>q r y h.1 h.2.1 h.2.2
structure LI(C:Cx)(F:Ye)(N M:Zzq->Prop)(D:Zzq)(kp:Zzq->Prop)(s:Zzu)(σ:Zx)(St:Zza->Prop)(vs:Array Zzy)(y₁:List PV)(s':Zzu):Prop where
 same:XQ s s'
 inv:Inv C F N M σ s'.heap
 st:St s'.heap
 pl:s'.heap.PlainList D vs
 rep:Zy (F.out M) s'.heap y₁ vs.toList
 hk:∀b o,kp b->s.heap.get? b=some o->s'.heap.get? b=some o
section
variable {D:Zzq}{kp:Zzq->Prop}{St Gu:Zza->Prop}{vs:Array Zzy}{y₁:List PV}{fp wr:List Zzq}{s₂:Zzu}
theorem LI.keeps(L:LI C F N M D kp s σ St vs y₁ s')(fr:∀h h',St h->(∀b∈fp,∀o,h.get? b=some o->h'.get? b=some o)->St h')(k:ZzK s' s₁):LI C F N M D kp s σ St vs y₁ s₁:=
 have x:=Zw k
 ⟨L.same.trans (.of_keeps k),L.inv.of_keeps k,fr _ _ L.st λb _ o e=>x b o e,L.pl.at λo e=>x D o e,L.rep.ext x,λb o n e=>x b o (L.hk b o n e)⟩
theorem LI.sub(L:LI C F N M D kp s σ' St vs y₁ s')(hs:∀x a,σ x=some a->σ' x=some a):LI C F N M D kp s σ St vs y₁ s':=⟨L.same,L.inv.sub hs,L.st,L.pl,L.rep,L.hk⟩
theorem LI.stored  (L:LI C F N M D kp s σ St vs y₁ s')(fr:∀h h',Gu h->(∀b∈fp,∀o,h.get? b=some o->h'.get? b=some o)->Gu h')(Cd:∀b,kp b->b∉wr/\(¬M b∨N b))(FJ:∀b∈wr,N b)(VY:∀b∈fp,b∈wr∨¬M b)(hD:N D)(FL:D∉wr)
 (st:Gu h) (hk:∀b o,b∉wr->s'.heap.get? b=some o->h.get? b=some o) (I:Inv C F N M σ' s₁.heap) (ok:Zo N M { s' with heap:=h,toks:=tk } M s₁):LI C F N M D kp s σ' Gu vs y₁ s₁:=
 have nW:∀b,¬M b->b∉wr:=λb nm m=>nm (I.pin b (FJ b m))
 ⟨L.same.trans (XQ.trans ⟨h,tk,rfl⟩ ok.same),I,fr _ _ st λb hb o e=>ok.kept b o ((VY b hb).elim (λw=>.inr (FJ b w)) .inl) e,L.pl.at λo e=>ok.kept D o (.inr hD) (hk D o FL e),
  L.rep.mono (λ_ _ _ p=>p) λa o p e=>ok.kept a o (.inl p.2) (hk a o (nW a p.2) e),λb o n e=>ok.kept b o (Cd b n).2 (hk b o (Cd b n).1 (L.hk b o n e))⟩
theorem LI.app    (L:LI C F N M D kp s σ St vs y₁ s')(fr:∀h h',St h->(∀b∈fp,∀o,h.get? b=some o->h'.get? b=some o)->St h')(Cd:∀b,kp b->b≠D)(VY:∀b∈fp,b≠D)(hD:N D)(rx:Rep (F.out M) s'.heap y x)
 (hl:h.PlainList D (vs.push x)) (hs:∀b,b≠D->h.get? b=s'.heap.get? b):LI C F N M D kp s σ St (vs.push x) (y₁++[y]) { s' with heap:=h,toks:=tk }:=
 have nD:∀b,¬M b->b≠D:=λb nm q=>nm (q ▸ L.inv.pin D hD)
 ⟨L.same.trans ⟨h,tk,rfl⟩,L.inv.BG (λb=>b=D) (λb e=>e ▸ hD) (λb o n e=>(hs b n).trans e) (λb e=>e ▸ let ⟨_,e'⟩:=hl;⟨_,e'⟩),fr _ _ L.st λb hb o e=>(hs b (VY b hb)).trans e,hl,
  by
   rw[ZxG]
   exact (L.rep.append (Zy.one rx)).mono (λ_ _ _ p=>p) λa o p e=>(hs a (nD a p.2)).trans e,λb o n e=>(hs b (Cd b n)).trans (L.hk b o n e)⟩
end
section
variable {D J:Zzq}{kp:Zzq->Prop}{Q:Unit->Zzu->Prop}{X:Zzu->Prop}{vs:Array Zzy}{y₁ ds:List PV}{fp wr:List Zzq}{Pt:Nat->List Zzy->Prop}{St:Nat->Zza->Prop}{Zu elt:Zzw}{ifs:List Zzw}{i:Nat}{s₀:Zzu}
theorem LI.take(L:LI C F N M D kp s₀ σ (St i) vs y₁ s)(W:Vq C A Zu J fp wr ds.length Pt St)(hf:F.env.scope.kind=.function)(hx:∀x∈Z5 Zu,ZS F.env F.cs x)(Cd:∀b,kp b->b∉wr/\(¬M b∨N b))(ku:∀b,¬M b->kp b)(FJ:∀b∈wr,N b)(VY:∀b∈fp,b∈wr∨¬M b)(hD:N D)(FL:D∉wr)
 (hv:∀i vals,Pt i vals->∃d ps,ds[i]?=some d/\partsOf Zu d=some ps/\Zy (F.out M) s₀.heap ps vals) (hi:i<ds.length)
 (q:∀s₁ d ps,ds[i]?=some d->partsOf Zu d=some ps->LI C F N M D kp s₀ (Zd σ (Z5 Zu) ps) (St (i+1)) vs y₁ s₁->Q () s₁):
 wpAny C.M A (pyNext (.ref J)) (λr s₁=>match r with |none=>X s₁ |some v=>wpAny C.M A (letOwnedTupleGo Zu (.ref J) v) (λ_ s₂=>wpAny C.M A (assign Zu F.env v) Q E s₂) E s₁) E s:=
 W.turn hi L.st λvals h₁ tk pv Qy XW=>by
  obtain⟨d,ps,hd,hp,rB⟩:=hv i vals pv
  exact Qc (s:={ s with heap:=h₁,toks:=tk }) hf hx (GU hp) (Uk hp).1 (Uk hp).2 (L.inv.BG (λb=>b∈wr) FJ (λb o n e=>XW b o n e) (W.lives _ _ Qy))
   (rB.mono (λ_ _ _ p=>p) λa o p e=>XW a o (Cd a (ku a p.2)).1 (L.hk a o (ku a p.2) e)) λs₃ I₃ Wb=>q s₃ d ps hd hp (L.stored (W.frame (i+1)) Cd FJ VY hD FL Qy XW I₃ Wb)
theorem LI.keep    {St:Zza->Prop}(L:LI C F N M D kp s₀ (Zd σ (Z5 Zu) ps) St vs y₁ s)(hp:partsOf Zu d=some ps)(ht:JV C k F.env σ Zu ifs elt d r)(fr:∀h h',St h->(∀b∈fp,∀o,h.get? b=some o->h'.get? b=some o)->St h')(Y9:ZH k A)(Cd:∀b,kp b->b≠D)(VY:∀b∈fp,b≠D)(hD:N D)(qf:vs.size<=Zzx)
 (q:∀W6 s',LI C F N M D kp s₀ (Zd σ (Z5 Zu) ps) St W6 (y₁++r.toList) s'->X s'):
 wpAny C.M A (forIn ifs true λc r=>if r=true then do let ok <-isTrue c F.env (eval c F.env);pure (Zxl ok) else pure (Zxl r)) (λok s₃=>
  if ok=true then wpAny C.M A (eval elt F.env) (λx s₄=>wpAny C.M A (call (.builtin "list.append") [.ref D,x]) (λ_ s₅=>X s₅) E s₄) E s₃ else X s₃) E s:=
 ht.elim λuN t=>t.elim λb t=>
  have e:uN=ps:=Zzv (t.1.symm.trans hp)
  have R0:Sz C k F.env (Zd σ (Z5 Zu) ps) ifs b:=e ▸ t.2.1
  R0.run Y9 L.inv λs₄ k₄=>
   have L₄:=L.keeps fr k₄
   t.2.2.elim (λz=>(if_pos z.1).mpr (z.2.elim λy z=>(e ▸ z.2) A s₄ _ _ _ Y9 L₄.inv.G L₄.inv.has L₄.inv.Xv λx s₅ k₅ rx=>
    have L₅:=L₄.keeps fr k₅
    wpAny_list_append_plain L₅.pl (λh₆ dI dQ=>q _ _ (by rw[z.1];exact L₅.app fr Cd VY hD rx dI dQ.2)) qf))
    λz=>(if_neg (z.1 ▸ Zz6)).mpr (q _ _ (by rw[z.2];exact (ZyZ y₁).symm ▸ L₄))
end
def LK(C:Cx)(k:Nat)(F:Ye)(N M:Zzq->Prop)(D:Zzq)(kp:Zzq->Prop)(s:Zzu)(σ:Zx)(St:Nat->Zza->Prop)(Zu elt:Zzw)(ifs:List Zzw)(ds zs:List PV)(n:Nat)(s':Zzu):Prop:=
 ∃i vs y₁ y₂,n=ds.length-i/\i<=ds.length/\LI C F N M D kp s σ (St i) vs y₁ s'/\y₁++y₂=zs/\Vi C k F.env σ Zu ifs elt (ds.drop i) y₂
section
variable {D:Zzq}{kp:Zzq->Prop}{St:Nat->Zza->Prop}{Zu elt:Zzw}{ifs:List Zzw}{ds zs:List PV}
theorem LK.el  {P:Prop}(h:LK C k F N M D kp s σ St Zu elt ifs ds zs n s')(q:∀i vs y₁ y₂,n=ds.length-i->i<=ds.length->LI C F N M D kp s σ (St i) vs y₁ s'->y₁++y₂=zs->Vi C k F.env σ Zu ifs elt (ds.drop i) y₂->P):P:=
 h.elim λi h=>h.elim λvs h=>h.elim λy₁ h=>h.elim λy₂ h=>q i vs y₁ y₂ h.1 h.2.1 h.2.2.1 h.2.2.2.1 h.2.2.2.2
theorem LK.next    (e:n=ds.length-i)(hi:i<ds.length)(L:LI C F N M D kp s σ (St (i+1)) vs y₁ s')(hy:y₁++y₂=zs)(hr:Vi C k F.env σ Zu ifs elt (ds.drop (i+1)) y₂):∃m,m<n/\LK C k F N M D kp s σ St Zu elt ifs ds zs m s':=
 ⟨_,e ▸ BV hi,i+1,vs,y₁,y₂,rfl,hi,L,hy,hr⟩
end
theorem size_of  {vs:Array Zzy}  (h:Zy P s.heap y₁ vs.toList)(hs:(y₁++y₂).length<=Zzx):vs.size<=Zzx:=by
 have:=h.length
 rw[Zzd,<-this,Zw3] at hs
 exact oP (Zzt _ _) hs
theorem LJ  {e:Zzw}{dep:Nat}{Zu elt:Zzw}  {J D:Zzq}   {St:Nat->Zza->Prop}
 (go:∀(I:Nat->Zzu->Prop),xH C A (notedBy C.M A F.env λe s'=>R (.error e) s') R Zu elt ifs (.ref J) (.ref D) F.env I->∀n s,I n s->codeAny C.M A (.compLoop e dep (.ref J) (.ref D) F.env) R s)
 (hf:F.env.scope.kind=.function) (hx:∀x∈Z5 Zu,ZS F.env F.cs x) (Y9:ZH k A) (W:Vq C A Zu J fp wr ds.length Pt St) (dS:N=λb=>N₀ b∨b∈wr) (pw:∀b,N₀ b->b∉wr) (I:Inv C F N M σ s.heap) (FJ:∀b∈wr,N b) (VY:∀b∈fp,b∈wr∨¬M b) (st:St 0 s.heap)
 (hD:N D) (FL:D∉wr) (D3:s.heap.PlainList D zK) (rQ:Zy (F.out M) s.heap y0 zK.toList) (qt:∀x∈Z5 Zu,σ x=none)
 (hv:∀i vals,Pt i vals->∃d ps,ds[i]?=some d/\partsOf Zu d=some ps/\Zy (F.out M) s.heap ps vals)
 (hr:Vi C k F.env σ Zu ifs elt ds ys) (hsz:(y0++ys).length<=Zzx)
 (hR:∀s' vs,XQ s s'->s'.heap.PlainList D vs->Zy (F.out M) s'.heap (y0++ys) vs.toList->Inv C F N₀ (λb=>M b/\b∉wr) σ s'.heap->(∀b o,b≠D->b∉wr->(¬M b∨N b)->s.heap.get? b=some o->s'.heap.get? b=some o)->R (.ok .next) s'):
 codeAny C.M A (.compLoop e dep (.ref J) (.ref D) F.env) R s:=
 have nW:∀b,¬M b->b∉wr:=λb nm m=>nm (I.pin b (FJ b m))
 have nD:∀b,¬M b->b≠D:=λb nm q=>nm (q ▸ I.pin D hD)
 have o5:∀b∈fp,b≠D:=λb hb q=>(VY b hb).elim (λw=>FL (q ▸ w)) λnm=>nD b nm q
 go (LK C k F N M D (λb=>b≠D/\b∉wr/\(¬M b∨N b)) s σ St Zu elt ifs ds (y0++ys)) (λn s' K=>K.el λi vs y₁ y₂ en PL L hy Q5=>
  (Zwj PL).elim (λYN=>L.take W hf hx (λb n=>n.2) (λb n=>⟨nD b n,nW b n,.inl n⟩) FJ VY hD FL hv YN λs₁ d ps hd hp L₁=>
   Vi.head (drop_cons hd ▸ Q5) λr y₃ ht dX C6=>
    L₁.keep hp ht (W.frame (i+1)) Y9 (λb n=>n.1) o5 hD (size_of L₁.rep (hy.symm ▸ hsz)) λW6 s₂ L₂=>
     LK.next en YN (L₂.sub λx a e=>(CT λm=>nS ((qt x m).symm.trans e)).trans e) (by rw[Zzo,<-dX,hy]) C6)
  (λJy=>by
   have e₂:y₂=[]:=by
    rw[Jy,Zux] at Q5
    exact Q5
   rw[e₂,ZyZ] at hy
   exact W.done s' _ _ (Jy ▸ L.st) λh₁ tk XW=>hR _ vs (L.same.trans ⟨h₁,tk,rfl⟩) (L.pl.at λo e=>XW D o FL e) (hy ▸ L.rep.mono (λ_ _ _ p=>p) λa o p e=>XW a o (nW a p.2) e) (by subst dS;exact L.inv.Nf (λb=>b∈wr) pw (λb o n e=>XW b o n e)) λb o n1 n2 n e=>XW b o n2 (L.hk b o ⟨n1,n2,n⟩ e)))
  ds.length _ ⟨0,zK,y0,ys,rfl,Zz3 _,⟨.refl,I,st,D3,rQ,λ_ _ _ e=>e⟩,rfl,hr⟩
end
noncomputable def KJ(env:Env):List (oO × Zwz)->List (oO × Zzq)->List (oO × Zzq)
 |[],acc=>acc
 |(x,kd)::r,acc=>KJ env r (if kd==.free then (x,(env.cells.lookup x).getD 0)::acc else acc)
theorem M8     :KJ env ((x,kd)::r) acc=KJ env r (if kd==.free then (x,(env.cells.lookup x).getD 0)::acc else acc):=rfl
theorem It(env:Env)(f:oO × Zwz->List (oO × Zzq)->Sem (ForInStep (List (oO × Zzq))))
 (hf:∀n kd cs,f (n,kd) cs=if kd==.free then (do let c <-cellOf env n;pure (.yield ((n,c)::cs))) else pure (.yield cs)):∀(names:List (oO × Zwz)) (acc:List (oO × Zzq)),(∀x∈names,x.2=.free->∃c,env.cells.lookup x.1=some c)->
 forIn names acc f=pure (KJ env names acc)
 |[],acc,_=>rfl
 | (x,kd)::r,acc,h=>by
   rw[Zys,hf]
   rw[M8]
   have hr:∀y∈r,y.2=.free->∃c,env.cells.lookup y.1=some c:=λy hy=>h y (ZxA _ hy)
   by_cases hk:(kd==Zxp)=true
   ·obtain⟨c,hc⟩:=h (x,kd) ZwJ (by simpa using hk)
    have Kq:env.cells.lookup x=some c:=hc
    rw[if_pos hk,if_pos hk]
    simp only[cellOf,Kq,Option.getD_some]
    exact It env f hf r _ hr
   ·rw[if_neg hk,if_neg hk]
    exact It env f hf r _ hr
theorem Nj   (h:∀x∈scope.names,x.2=.free->∃c,env.cells.lookup x.1=some c):closureFor scope env=pure (KJ env scope.names []):=by
 simp only[closureFor]
 rw[It env _ (λn kd cs=>by cases hk:kd==Zxp<;>simp [hk]) scope.names [] h]
 rfl
theorem La :∀{names:List (oO × Zwz)} {acc:List (oO × Zzq)},(∀x∈names,x.2=.free->∃c,env.cells.lookup x.1=some c)->∀{y:oO} {c:Zzq},(KJ env names acc).lookup y=some c->
 (env.cells.lookup y=some c/\(y,Zxp)∈names)∨acc.lookup y=some c
 |[],acc,_,y,c,e=>.inr e
 | (x,kd)::r,acc,h,y,c,e=>by
   rw[M8] at e
   have hr:∀y∈r,y.2=.free->∃c,env.cells.lookup y.1=some c:=λy hy=>h y (ZxA _ hy)
   rcases La hr e with e |e
   ·exact .inl ⟨e.1,ZxA _ e.2⟩
   ·by_cases hk:(kd==Zxp)=true
    ·rw[if_pos hk] at e
     obtain⟨c',hc⟩:=h (x,kd) ZwJ (by simpa using hk)
     have Kq:env.cells.lookup x=some c':=hc
     rw[Zxx] at e
     cases hb:y==x with
     | true=>
       rw[hb] at e
       rw[Kq] at e
       have e9:kd=.free:=by simpa using hk
       rw[beq_iff_eq.mp hb,Kq,e9]
       exact .inl ⟨by simpa using e,ZwJ⟩
     |false=>rw[hb] at e;exact .inr e
    ·rw[if_neg hk] at e;exact .inr e
theorem Ln :∀{names:List (oO × Zwz)} {acc:List (oO × Zzq)} {y:oO} {c:Zzq},(∀x∈names,x.2=.free->∃c,env.cells.lookup x.1=some c)->env.cells.lookup y=some c->(y,Zxp)∈names∨acc.lookup y=some c->
 (KJ env names acc).lookup y=some c
 |[],acc,y,c,_,_,m=>by rcases m with m |m;cases m;exact m
 | (x,kd)::r,acc,y,c,h,e,m=>by
   have hr:∀y∈r,y.2=.free->∃c,env.cells.lookup y.1=some c:=λy hy=>h y (ZxA _ hy)
   rw[M8]
   refine Ln hr e ?_
   rcases m with m |m
   ·rcases ZzN.mp m with m |m
    ·cases m
     refine .inr ?_
     simp [e]
    ·exact .inl m
   ·refine .inr ?_
    by_cases hk:(kd==Zxp)=true
    ·rw[if_pos hk,Zxx]
     cases hb:y==x with
     |true=>rw[<-beq_iff_eq.mp hb,e];rfl
     |false=>exact m
    ·rw[if_neg hk];exact m
theorem UP   :(relabel scope env).names.lookup y=(scope.names.lookup y).map λkd=>if (kd==.free&&env.scope.kind==.function&&env.kindOf y==some .cell) then .cell else kd:=by
 show (scope.names.map _).lookup y=_
 generalize scope.names=names
 induction names with
 |nil=>rfl
 | cons x r ih=>
   obtain⟨n,kd⟩:=x
   show List.lookup y ((if (kd==Zxp&&env.scope.kind==.function&&env.kindOf n==some .cell)=true then (n,Zwu) else (n,kd))::_)=_
   cases hb:y==n with
   | true=>
     have:=beq_iff_eq.mp hb
     subst this
     by_cases hc:(kd==Zxp&&env.scope.kind==.function&&env.kindOf y==some .cell)=true
     ·rw[if_pos hc];simp only[Zxx,hb,Zvb];rw[if_pos hc]
     ·rw[if_neg hc];simp only[Zxx,hb,Zvb];rw[if_neg hc]
   | false=>
     by_cases hc:(kd==Zxp&&env.scope.kind==.function&&env.kindOf n==some .cell)=true
     ·rw[if_pos hc];simp only[Zxx,hb];exact ih
     ·rw[if_neg hc];simp only[Zxx,hb];exact ih
structure Qq(scope:Zz0)(Zu:Zzw):Prop where
 kind:scope.kind=.function
 loc:∀x∈scope.names,x.2=.local->scope.names.lookup x.1=some .local
 Zu:∀x∈Z5 Zu,scope.names.lookup x=some .local∨(x,Zwu)∈scope.names
 free:∀x∈scope.names,x.2=.free->scope.names.lookup x.1=some .free
 cell:∀x∈scope.names,x.2=.cell->scope.names.lookup x.1=some .cell
theorem VA  :x∈ZU names<->(x,Zwu)∈names:=by
 unfold ZU
 rw[List.mem_filterMap]
 constructor
 ·rintro⟨⟨y,kd⟩,hm,he⟩
  by_cases hk:(kd==Zwu)=true
  ·simp only[hk,if_true] at he;cases he
   have:kd=.cell:=by simpa using hk
   rw[<-this];exact hm
  ·simp only[hk] at he;cases he
 ·intro hm;exact⟨_,hm,by simp⟩
section
variable {C:Cx}{k:Nat}{F:Ye}{N M:Zzq->Prop}{σ σ₁ σ₂:Zx}{s s' s₁:Zzu}{af:Z7}{h h':Zza}{env:Env}
structure InComp(scope:Zz0)(env W5:Env):Prop where
 scope:W5.scope=relabel scope env
 globals:W5.globals=env.globals
 builtins:W5.builtins=env.builtins
theorem InComp.Z3{scope:Zz0}  (x:InComp scope env W5)(hk:scope.kind=.function)(hf:Zt env):Zt W5:=⟨by rw[x.scope];exact hk,by rw[x.globals];exact hf.globals,by rw[x.builtins];exact hf.builtins⟩
theorem Loc.cellOf   (l:Loc env h y v)(hk:env.kindOf y=some .cell∨env.kindOf y=some .free):∃c,env.cells.lookup y=some c/\h.IsCell c (some v):=
 l.elim (λa=>hk.elim (λhk=>ZuF (Zzv (hk.symm.trans a.1))) λhk=>ZuF (Zzv (hk.symm.trans a.1))) λb=>b.2
def Qd(scope:Zz0)(env:Env)(h:Zza):Prop:=∀x∈scope.names,x.2=.free->∃v,Loc env h x.1 v/\(env.kindOf x.1=some .cell∨env.kindOf x.1=some .free)
def KP(scope:Zz0)(env:Env)(h:Zza)(Pc:Zzq->Prop)(σc:Zx):Prop:=∀y a,σc y=some a->∃d v,a=.val d/\scope.names.lookup y=some .free/\Loc env h y v/\Rep Pc h d v
theorem Qd.cells  (f:Qd scope env h):∀x∈scope.names,x.2=.free->∃c,env.cells.lookup x.1=some c:=λx hx hk=>
 (f x hx hk).elim λ_ l=>(l.1.cellOf l.2).elim λc e=>⟨c,e.1⟩
theorem Qd.lives  (f:Qd scope env h)   (e:(KJ env scope.names []).lookup y=some c):∃o,h.get? c=some o:=
 (La f.cells e).elim (λb=>(f _ b.2 rfl).elim λ_ l=>(l.1.cellOf l.2).elim λ_ q=>q.2.elim λo r=>⟨o,Zzv (q.1.symm.trans b.1) ▸ r.1⟩) nS
theorem KP.off     (hS:Qq scope Zu)(hσ:KP scope env h Pc σc)  (hx:x∈Z5 Zu):σc x=none:=by
 cases e:σc x with
 |none=>rfl
 | some a=>
   obtain⟨_,_,_,hl,_⟩:=hσ x a e
   rcases hS.Zu x hx with ht |ht
   ·cases ht.symm.trans hl
   ·cases (hS.cell _ ht rfl).symm.trans hl
structure XG(scope:Zz0)(env:Env)(h h₂ h₄:Zza)(L D:Zzq)(wr:List Zzq)(cells:List (oO × Zzq)):Prop where
 free:Qd scope env h
 Ag:ZY h h₂
 Ai:ZY h₂ h₄
 D1:h₂.get? L=none
 newD:h₂.get? D=none
 ne:D≠L
 uH:h₄.Ns L λ_=>none
 Sj:h₄.PlainList D #[]
 yn:∀b∈wr,h.get? b=none
 Mb:∀b∈wr,∃o,h₂.get? b=some o
 cell:∀x∈ZU scope.names,∃c,cells.lookup x=some c/\h₄.IsCell c none/\h₂.get? c=none/\c≠L/\c≠D
 old:∀x,x∉ZU scope.names->cells.lookup x=(KJ env scope.names []).lookup x
 apart:∀x y c,x∈ZU scope.names->cells.lookup x=some c->cells.lookup y=some c->x=y
def KS(scope:Zz0)(L D:Zzq)(wr:List Zzq)(cells:List (oO × Zzq))(b:Zzq):Prop:=b=L∨b=D∨(∃x,x∈ZU scope.names/\cells.lookup x=some b)∨b∈wr
def xY(D:Zzq)(wr:List Zzq)(b:Zzq):Prop:=b=D∨b∈wr
def Kb(scope:Zz0)(env:Env)(h:Zza)(Pc:Zzq->Prop)(L:Zzq)(cells:List (oO × Zzq)):Ye:=
 ⟨{ scope:=relabel scope env,locals:=L,globals:=env.globals,cells:=cells,qual:=env.qual,func:=none,code:=env.code,frame:=env.frame,builtins:=env.builtins },h,Pc,ZU scope.names⟩
section
variable {scope:Zz0}{h₂ h₄:Zza}{L D b:Zzq}{wr fp:List Zzq}{cells:List (oO × Zzq)}{Zu:Zzw}{Pc:Zzq->Prop}{σc:Zx}
theorem XG.cell'(X:XG scope env h h₂ h₄ L D wr cells)  (hx:x∈ZU scope.names)(hc:cells.lookup x=some b):h₄.IsCell b none/\h₂.get? b=none/\b≠L/\b≠D:=
 (X.cell x hx).elim λ_ q=>Zzv (q.1.symm.trans hc) ▸ q.2
theorem XG.el{P:Prop}(X:XG scope env h h₂ h₄ L D wr cells)(m:KS scope L D wr cells b)(q:h₂.get? b=none->P)(q2:b∈wr->P):P:=
 m.elim (λe=>q (e ▸ X.D1)) λm=>m.elim (λe=>q (e ▸ X.newD)) λm=>m.elim (λm=>m.elim λ_ m=>q (X.cell' m.1 m.2).2.1) q2
theorem XG.new(X:XG scope env h h₂ h₄ L D wr cells)(m:KS scope L D wr cells b):h.get? b=none:=X.el m (ZD X.Ag) (X.yn b)
theorem XG.jR(X:XG scope env h h₂ h₄ L D wr cells)  (e:h.get? b=some o):¬KS scope L D wr cells b:=λm=>nS ((X.new m).symm.trans e)
theorem XG.live(X:XG scope env h h₂ h₄ L D wr cells)(m:KS scope L D wr cells b):∃o,h₄.get? b=some o:=
 m.elim (λe=>e ▸ X.uH.elim λo r=>⟨o,r.elim λ_ r=>r.elim λ_ r=>r.1⟩) λm=>m.elim (λe=>e ▸ X.Sj.elim λ_ r=>⟨_,r⟩) λm=>m.elim (λm=>m.elim λ_ m=>(X.cell' m.1 m.2).1.elim λo r=>⟨o,r.1⟩) λm=>(X.Mb b m).elim λo r=>⟨o,X.Ai b o r⟩
theorem XG.Su(X:XG scope env h h₂ h₄ L D wr cells)(e:h₂.get? b=none):b∉wr:=λm=>(X.Mb b m).elim λ_ r=>nS (e.symm.trans r)
theorem XG.p9(X:XG scope env h h₂ h₄ L D wr cells)(Cr:∀b∈fp,∃o,h₂.get? b=some o):∀b∈fp,b∈wr∨¬KS scope L D wr cells b:=λb hb=>
 (Zvc (b∈wr)).elim .inl λhw=>.inr λm=>X.el m (λe=>(Cr b hb).elim λ_ r=>nS (e.symm.trans r)) hw
theorem XG.loc(X:XG scope env h h₂ h₄ L D wr cells)(hS:Qq scope Zu)   (NK:scope.names.lookup y=some .free)(l:Loc env h y v):Loc (Kb scope env h Pc L cells).env h₄ y v:=by
 have KU:=mem_of_lookup NK
 have hy:y∉ZU scope.names:=λm=>by cases (hS.cell _ (VA.mp m) rfl).symm.trans NK
 obtain⟨_,l',hk⟩:=X.free _ KU rfl
 obtain⟨c,hc,eH⟩:=l.cellOf hk
 refine .inr ⟨?_,c,(X.old y hy).trans (Ln X.free.cells hc (.inl KU)),eH.keeps λb o e=>X.Ai b o (X.Ag b o e)⟩
 have e:(relabel scope env).names.lookup y=_:=UP
 rw[NK] at e
 show (relabel scope env).names.lookup y=_∨(relabel scope env).names.lookup y=_
 rw[e]
 exact YQ (c:=_=true) rfl (λ_ e=>.inl (congrArg some e.symm)) λ_ e=>.inr (congrArg some e.symm)
theorem XG.mq(_:XG scope env h h₂ h₄ L D wr cells)(hS:Qq scope Zu)  (hx:x∈Z5 Zu):ZS (Kb scope env h Pc L cells).env (Kb scope env h Pc L cells).cs x:=
 (hS.Zu x hx).elim (λht=>.inl (UP.trans (by rw[ht];rfl))) λht=>.inr (VA.mpr ht)
theorem XG.inv(X:XG scope env h h₂ h₄ L D wr cells)(hS:Qq scope Zu)(hσ:KP scope env h Pc σc)(hg:C.G h)(NI:ZM Pc h):Inv C (Kb scope env h Pc L cells) (xY D wr) (KS scope L D wr cells) σc h₄ where
 Jx:=hg
 live:=NI
 ext:=λb o e=>X.Ai b o (X.Ag b o e)
 fresh:=λ_ m=>X.new m
 alive:=λ_ m=>X.live m
 UX:=.inl rfl
 Ua:=λn=>n.elim (λq=>X.ne q.symm) (X.Su X.D1)
 pin:=λ_ n=>n.elim (λq=>.inr (.inl q)) λm=>.inr (.inr (.inr m))
 ns:=⟨_,X.uH⟩
 cell:=λx hx=>⟨UP.trans (by rw[hS.cell _ (VA.mp hx) rfl];rfl),(X.cell x hx).elim λc q=>⟨c,none,q.1,q.2.1,.inr (.inr (.inl ⟨x,hx,q.1⟩)),λn=>n.elim q.2.2.2.2 (X.Su q.2.2.1)⟩⟩
 apart:=X.apart
 outer:=λy _ e=>(Zvc (y∈ZU scope.names)).elim .inl λhy=>.inr (X.free.lives ((X.old y hy).symm.trans e))
 val:=λy d e=>by
  obtain⟨d',v,e1,NK,l,r⟩:=hσ y _ e
  cases e1
  exact⟨v,X.loc hS NK l,r.mono (λ_ _ eb p=>⟨p,X.jR eb⟩) λb o _ eb=>X.Ai b o (X.Ag b o eb)⟩
 own:=⟨λ_=>[],λx a e i=>(hσ x a e).elim λ_ q=>q.elim λ_ q=>(by rw[q.1] at i;cases i),λx _ a _ _ e i=>(hσ x a e).elim λ_ q=>q.elim λ_ q=>(by rw[q.1] at i;cases i)⟩
end
theorem Rw{A:ZzH}
 (hf:Zt env) (hS:Qq scope Zu) (Y9:ZH k A) (hg:C.G s.heap) (hh:Wq P env σ s.heap) (hb:ZM P s.heap) (NI:ZM Pc s.heap) (qJ:∀a,P a->Pc a)
 (C7:Qd scope env s.heap) (hσ:KP scope env s.heap Pc σc)
 (hi:Yd C k env σ false Zu iter ds) (hs:∀x,Zxs iter env x=pure x)
 (loop:∀(F:Ye) (M:Zzq->Prop) (J D:Zzq) (fp wr:List Zzq) (Pt:Nat->List Zzy->Prop) (St:Nat->Zza->Prop) (s':Zzu) (R:Zu8->Zzu->Prop),InComp scope env F.env->Zt F.env->(∀t,Qq scope t->∀x∈Z5 t,ZS F.env F.cs x)->Vq C A Zu J fp wr ds.length Pt St->D∉wr->
  Inv C F (xY D wr) M σc s'.heap->(∀b∈fp,b∈wr∨¬M b)->St 0 s'.heap->s'.heap.PlainList D #[]->(∀i vals,Pt i vals->∃d ps,ds[i]?=some d/\partsOf Zu d=some ps/\Zy (F.out M) s'.heap ps vals)->
  (∀s₁ vs,XQ s' s₁->s₁.heap.PlainList D vs->Zy (F.out M) s₁.heap ys vs.toList->(∃m,s₁.heap.Ns F.env.locals m)->(∀b o,¬M b->s'.heap.get? b=some o->s₁.heap.get? b=some o)->R (.ok .next) s₁)->
  codeAny C.M A (.compLoop (.ListComp elt (⟨Zu,iter,ifs,0⟩::gs) scope pos) 0 (.ref J) (.ref D) F.env) R s')
 (post:∀s' D L vs n m,ZzK s s'->s.heap.get? D=none->s.heap.get? L=none->D≠L->s'.heap.get? D=some { cls:=.type "list",data:=.seq vs n }->
  Zy (λb=>Pc b/\b≠D/\b≠L) s'.heap ys vs.toList->s'.heap.Ns L m->compPost C.M A E use Q (.ref D) L (.ok .next) s'):
 wpAny C.M A (comprehension (.ListComp elt (⟨Zu,iter,ifs,0⟩::gs) scope pos) scope env p (newList []) false (eval iter env) use) Q E s:=by
 refine wpAny_comprehension_free (g:=⟨Zu,iter,ifs,0⟩) (gs:=gs) rfl hs (Nj C7.cells) hS.kind hS.loc ?_
 refine hi A s _ _ P Y9 hg hh hb λJ fp wr Pt St s₂ k₂ W y3 Cr new _ hv=>?_
 refine wpAny_newObj_type ?_
 have k3:=X1 s₂ { cls:=.type "list",dict:=none,data:=.seq ([]:List Zzy).toArray }
 have gD:(s₂.heap.push { cls:=.type "list",dict:=none,data:=.seq ([]:List Zzy).toArray }).get? s₂.heap.objs.size=_:=Zzl _ rfl
 have nD:=Xz s₂.heap
 refine AF λL cells s₄ k₄ D1 hL qr=>?_
 have X:XG scope env s.heap s₂.heap s₄.heap L s₂.heap.objs.size wr cells:={
  free:=C7
  Ag:=Zw k₂
  Ai:=λb o e=>Zw k₄ b o (Zw k3 b o e)
  D1:=ZD (Zw k3) D1
  newD:=nD
  ne:=λq=>nS (D1.symm.trans (q ▸ gD))
  uH:=hL
  Sj:=⟨0,Zw k₄ _ _ gD⟩
  yn:=new
  Mb:=W.lives 0 _ y3
  cell:=λx hx=>(qr.lJ x hx).elim λc q=>⟨c,q.1,q.2.1,ZD (Zw k3) q.2.2.1,q.2.2.2,λe=>nS (q.2.2.1.symm.trans (e ▸ gD))⟩
  old:=qr.old
  apart:=qr.apart λy c e=>(C7.lives e).elim λo r=>⟨o,Zw k3 c o (Zw k₂ c o r)⟩ }
 have R7:InComp scope env (Kb scope env s.heap Pc L cells).env:=⟨rfl,rfl,rfl⟩
 have y2:St 0 s₄.heap:=W.frame _ _ _ y3 λb _ o e=>X.Ai b o e
 have lp:=loop (Kb scope env s.heap Pc L cells) (KS scope L _ wr cells) J _ fp wr Pt St s₄ (compPost C.M A E use Q (.ref _) L) R7 (R7.Z3 hS.kind hf) (λt ht x hx=>X.mq ht hx) W (X.Su nD) (X.inv hS hσ hg NI) (X.p9 Cr) y2 X.Sj
  (λi vals pv=>(hv i vals pv).elim λd q=>q.elim λps q=>⟨d,ps,q.1,q.2.1,q.2.2.mono (λb o e p=>⟨qJ b p.1,λm=>X.el m (λe'=>nS (e'.symm.trans e)) p.2⟩) λb o _ e=>X.Ai b o e⟩)
  λs' vs dJ hl UD R3 hk=>R3.elim λm hm=>hl.elim λn hn=>post s' _ L vs n m (((((XQ.of_keeps k₂).trans (.of_keeps k3)).trans (.of_keeps k₄)).trans dJ).keeps λb o e=>hk b o (X.jR e) (X.Ai b o (X.Ag b o e))) (ZD X.Ag nD) (ZD X.Ag X.D1) X.ne hn (UD.mono (λb o e p=>⟨p.1,λq=>p.2 (.inr (.inl q)),λq=>p.2 (.inl q)⟩) λ_ _ _ e=>e) hm
 exact codeAny_compStart_list lp (W.self 0 _ _ _ y2 lp)
theorem AI
 (hf:Zt env) (hS:Qq scope Zu) (Y9:ZH k A) (hg:C.G s.heap) (hh:Wq P env σ s.heap) (hb:ZM P s.heap) (NI:ZM Pc s.heap) (qJ:∀a,P a->Pc a)
 (C7:Qd scope env s.heap) (hσ:KP scope env s.heap Pc σc)
 (hi:Yd C k env σ false Zu iter ds) (hsz:ds.length<=Zzx)
 (hr:∀W5,InComp scope env W5->Vi C k W5 σc Zu ifs elt ds ys)
 (hs:∀x,Zxs iter env x=pure x)
 (post:∀s' D L vs n m,ZzK s s'->s.heap.get? D=none->s.heap.get? L=none->D≠L->s'.heap.get? D=some { cls:=.type "list",data:=.seq vs n }->
  Zy (λb=>Pc b/\b≠D/\b≠L) s'.heap ys vs.toList->s'.heap.Ns L m->compPost C.M A E use Q (.ref D) L (.ok .next) s'):
 wpAny C.M A (comprehension (.ListComp elt [⟨Zu,iter,ifs,0⟩] scope pos) scope env p (newList []) false (eval iter env) use) Q E s:=
 Rw hf hS Y9 hg hh hb NI qJ C7 hσ hi hs (λF M J D fp wr Pt St s' R R7 eI Xk W FL I VY st hl hv hR=>
  LJ (N₀:=λb=>b=D) (y0:=[]) (zK:=#[]) (λI turn n s h=>Aj I turn n h) eI.kind (Xk Zu hS) Y9 W rfl (λb e=>e ▸ FL) I (λb m=>.inr m) VY st (.inl rfl) FL hl Zy.nil (λx hx=>hσ.off hS hx) hv (hr _ R7) (oP (hr _ R7).len hsz)
   λs₁ vs rD hl UD hI hk=>hR s₁ vs rD hl UD hI.ns λb o n e=>hk b o (λq=>n (q ▸ I.pin D (.inl rfl))) (λm=>n (I.pin b (.inr m))) (.inl n) e) post
end
noncomputable def Ut(scope:Zz0)(σ:Zx):Zx:=λy=>if scope.names.lookup y=some .free then (σ y).bind λa=>@AV.casesOn (λ_=>Option AV) a (λd=>some (.val d)) (λ_=>none) λ_ _=>none else none
def D7(scope:Zz0)(σ:Zx):Zx:=λy=>if scope.names.lookup y=some .free then (σ y).map λa=>.val a.pv else none
def CX(scope:Zz0)(env:Env)(σ:Zx):Prop:=∀x∈scope.names,x.2=.free->(∃a,σ x.1=some a)/\(env.kindOf x.1=some .cell∨env.kindOf x.1=some .free)
section
variable {C:Cx}{k:Nat}{F:Ye}{N M:Zzq->Prop}{σ σ₁ σ₂:Zx}{s s' s₁:Zzu}{af:Z7}{h h':Zza}{env:Env}
theorem Qh.loc    (H:Qh P env h x a):∃v,Loc env h x v:=by
 cases a with
 |val d=>obtain⟨v,l,_⟩:=H;exact⟨v,l⟩
 |own ds=>obtain⟨b,_,_,l,_⟩:=H;exact⟨_,l⟩
 |tab c ds=>obtain⟨b,_,_,_,l,_⟩:=H;exact⟨_,l⟩
theorem CX.free   (ht:CX scope env σ)(hh:Wq P env σ h):Qd scope env h:=λx hx hk=>
 (ht x hx hk).1.elim λ_ e=>(hh _ _ e).loc.elim λv l=>⟨v,l,(ht x hx hk).2⟩
theorem ue   (hh:Wq P env σ h):KP scope env h P (Ut scope σ):=λy a e=>Zl e λhl e=>Zv e λb e1 e=>by
 cases b with
 | val d=>
   cases e
   exact (hh _ _ e1).elim λv q=>⟨d,v,rfl,hl,q⟩
 |own _=>exact nS e
 |tab _ _=>exact nS e
theorem Qh.any    (H:Qh P env h x a):∃v,Loc env h x v/\Rep (λ_=>True) h a.pv v:=by
 cases a with
 |val d=>exact H.elim λv q=>⟨v,q.1,q.2.mono (λ_ _ _ _=>trivial) λ_ _ _ e=>e⟩
 |own ds=>obtain⟨b,vs,n,l,g,r⟩:=H;exact⟨_,l,YE.pv (a:=.own ds) ⟨b,vs,n,rfl,g,r⟩⟩
 |tab c ds=>obtain⟨a,d,b,vs,l,T,r⟩:=H;exact⟨_,l,YE.pv (a:=.tab c ds) ⟨a,d,b,vs,rfl,T,r⟩⟩
theorem uo   (hh:Wq P env σ h):KP scope env h (λ_=>True) (D7 scope σ):=λy a e=>Zl e λhl e=>Y2 e λb e1 e=>
 (hh _ _ e1).any.elim λv q=>⟨_,v,e,hl,q⟩
def I9(C:Cx)(k:Nat)(env:Env)(σ:Zx)(e:Zzw)(scope:Zz0)(p:Pos)(iter:Zzw)(ys:List PV):Prop:=
 ∀A s Q E P use,ZH k A->C.G s.heap->Wq P env σ s.heap->ZM P s.heap->
  (∀s' D L vs n m,ZzK s s'->s.heap.get? D=none->s.heap.get? L=none->D≠L->s'.heap.get? D=some { cls:=.type "list",data:=.seq vs n }->
   Zy (λb=>P b/\b≠D/\b≠L) s'.heap ys vs.toList->s'.heap.Ns L m->compPost C.M A E use Q (.ref D) L (.ok .next) s')->
  wpAny C.M A (comprehension e scope env p (newList []) false (eval iter env) use) Q E s
theorem I9.val      (hf:Zt env)(hS:Qq scope Zu)(ht:CX scope env σ)(hi:Yd C k env σ false Zu iter ds)(hsz:ds.length<=Zzx)
 (hr:∀W5,InComp scope env W5->Vi C k W5 (Ut scope σ) Zu ifs elt ds ys) (hs:∀x,Zxs iter env x=pure x):
 I9 C k env σ (.ListComp elt [⟨Zu,iter,ifs,0⟩] scope pos) scope p iter ys:=λA s Q E P use Y9 hg hh hb post=>
 AI hf hS Y9 hg hh hb hb (λ_ p=>p) (ht.free hh) (ue hh) hi hsz hr hs post
theorem I9.flat      (hf:Zt env)(hS:Qq scope Zu)(ht:CX scope env σ)(hi:Yd C k env σ false Zu iter ds)(hsz:ds.length<=Zzx)
 (hr:∀W5,InComp scope env W5->Vi C k W5 (D7 scope σ) Zu ifs elt ds ys) (hy:ys.all YY=true) (hs:∀x,Zxs iter env x=pure x):
 I9 C k env σ (.ListComp elt [⟨Zu,iter,ifs,0⟩] scope pos) scope p iter ys:=λA s Q E P use Y9 hg hh hb post=>
 AI hf hS Y9 hg hh hb (λ_ n=>absurd trivial n) (λ_ _=>trivial) (ht.free hh) (uo hh) hi hsz hr hs
  λs' D L vs n m ks nD nL NC hD UD hL=>post s' D L vs n m ks nD nL NC hD (Dq hy UD) hL
theorem I9.new      (h:I9 C k env σ (.ListComp elt [⟨Zu,iter,ifs,0⟩] scope pos) scope (firstIterPos [⟨Zu,iter,ifs,0⟩] pos) iter ys):
 Wj C k env σ (.ListComp elt [⟨Zu,iter,ifs,0⟩] scope pos) (.own ys):=⟨rfl,λA s Q E P Y9 hg hh hb q=>by
 rw[eval_ListComp]
 refine h A s Q E P none Y9 hg hh hb λs' D L vs n m ks nD nL NC hD UD hL=>⟨m,hL,λh' Kv=>?_⟩
 have Si:∀b o,b≠L->s'.heap.get? b=some o->h'.get? b=some o:=λb o n e=>(Kv.2 b n).trans e
 refine q (.ref D) [D] _ ?_ (λb hb=>by simp at hb;rw[hb];exact nD) ⟨D,rfl,rfl,vs,n,Si D _ NC hD,UD.mono (λb o e p=>⟨p.1,by simpa using p.2.1⟩) λb o p e=>Si b o p.2.2 e⟩
 obtain⟨h1,t1,rfl,hk⟩:=ks
 exact⟨h',t1,rfl,λb o e=>Si b o (λq=>by rw[q,nL] at e;cases e) (hk b o e)⟩⟩
theorem Wj.ev   (h:Wj C k env σ e (.own ds)):Ev C k env σ e (.lst ds):=λA s Q E P hr hg hh hb q=>
 h.2 A s Q E P hr hg hh hb λv ow s' ks new T=>by
  obtain⟨a,rfl,rfl,vs,n,e0,r⟩:=T
  refine q _ s' ks (Yn.mpr ⟨a,vs,n,rfl,Zyg λnp=>?_,e0,r.mono (λ_ _ _ p=>p.1) λ_ _ _ e=>e⟩)
  obtain⟨o,e⟩:=hb a np
  rw[new a (by simp)] at e;cases e
theorem Wj.list    (h:ZQ C k env σ es (ds.map .val))(hsz:ds.length<=Zzx):Wj C k env σ (.List es pos) (.own ds):=⟨rfl,λA s Q E P hr hg hh hb q=>by
 refine wpAny_List (h.spliced hr hg hh hb λvs s₁ k₁ r₁=>?_)
 have rv:=r₁.vals
 have nn:s₁.heap.get? s₁.heap.objs.size=none:=by
  cases e:s₁.heap.get? s₁.heap.objs.size with
  |none=>rfl
  |some o=>exact absurd (ZzU e) (Zxe _)
 refine⟨by rw[rv.length];exact hsz,q _ [s₁.heap.objs.size] _ (Zq k₁ (X1 s₁ _)) (λb m=>?_) ⟨_,rfl,rfl,vs.toArray,0,Zzl _ rfl,rv.mono (λb o e p=>⟨p,λm=>?_⟩) λ_ _ _ e=>Zzj _ e⟩⟩
 ·simp at m;subst m
  cases e:s.heap.get? s₁.heap.objs.size with
  |none=>rfl
  |some o=>rw[Zw k₁ _ o e] at nn;cases nn
 ·simp at m;subst m;rw[nn] at e;cases e⟩
theorem Ae         (hs:swapsWith (.ListComp elt [⟨Zu,iter,ifs,0⟩] scope cpos) (some (.Name x p)) pos.line env=pure true)
 (h:wpAny C.M A (comprehension (.ListComp elt [⟨Zu,iter,ifs,0⟩] scope cpos) scope env (firstIterPos [⟨Zu,iter,ifs,0⟩] cpos) (newList []) false (eval iter env) (some (Zx8 (.Name x p) env))) (λ_ s'=>Q .next s') E s):
 wpAny C.M A (exec (.Assign [.Name x p] (.ListComp elt [⟨Zu,iter,ifs,0⟩] scope cpos) pos) env) Q E s:=by
 rw[exec_Assign_Name_used _ _ _ _ hs]
 refine Zzz (ZxK (Zzz ?_))
 show wpAny _ A (do let _ <-comprehension (.ListComp elt [⟨Zu,iter,ifs,0⟩] scope cpos) scope env _ (newList []) false (eval iter env) (some (Zx8 (.Name x p) env))) _ _ s
 exact Zzz (ZzC h (λ_ s' hq=>Zzi (Zzi hq)) λ_ _ e=>e)
theorem MW   (I:Inv C F N M σ s.heap)(ks:ZzK s s')(nL:s.heap.get? L=none)(new:∀b,M₁ b->M b∨s.heap.get? b=none)(kN:∀b,N b->N₁ b)(I₂:Inv C F (λb=>N b∨b=L) M₁ σ₁ s₁.heap)(ok:Zo N₁ M₁ s' M₁ s₁)(hs:Zxi L s₁.heap h'):
 Inv C F N (λb=>M₁ b/\¬b=L) σ₁ h'/\Zo N M s (λb=>M₁ b/\¬b=L) { s₁ with heap:=h' }:=
 have xw:∀b o,¬b=L->s₁.heap.get? b=some o->h'.get? b=some o:=λb o n e=>(hs.2 b n).trans e
 ⟨I₂.Nf (λb=>b=L) (λb n q=>(I.alive b (I.pin b n)).elim λo e=>nS (nL.symm.trans (q ▸ e))) xw,((XQ.of_keeps ks).trans ok.same).trans ⟨h',s₁.toks,rfl⟩,
  λb o n e=>xw b o (λq=>nS (nL.symm.trans (q ▸ e))) (ok.kept b o (n.elim (λn=>.inl λm=>(new b m).elim n λq=>nS (q.symm.trans e)) λn=>.inr (kN b n)) (Zw ks b o e)),λb m=>new b m.1⟩
theorem DI   (h:h'.Ns L m):∃o,h'.get? L=some o:=h.elim λo t=>t.elim λ_ t=>t.elim λ_ t=>⟨o,t.1⟩
theorem Ex.u6       (hf:Zt F.env)(hx:ZS F.env F.cs x)
 (h:I9 C k F.env σ (.ListComp elt [⟨Zu,iter,ifs,0⟩] scope cpos) scope (firstIterPos [⟨Zu,iter,ifs,0⟩] cpos) iter ys)
 (hs:swapsWith (.ListComp elt [⟨Zu,iter,ifs,0⟩] scope cpos) (some (.Name x p)) pos.line F.env=pure true):
 Ex C k F σ (exec (.Assign [.Name x p] (.ListComp elt [⟨Zu,iter,ifs,0⟩] scope cpos) pos) F.env) .Z2 (σ.set x (.val (.lst ys))):=λN M A s Q E hr I q=>
 Ae hs (h A s _ E _ _ hr I.G I.has I.Xv λs' D L vs n m ks nD nL NC hD UD hL=>
  have r0:¬M D:=λm=>(I.alive D m).elim λo e=>nS (nD.symm.trans e)
  have pD:F.P D:=Zyg λnp=>(I.Xv D λp=>np p.1).elim λo e=>nS (nD.symm.trans e)
  wpAny_assign_Name (WC (ow:=[]) (N₂:=λb=>N b∨b=L) hf.kind hx (I.UL (λb=>b=L) (Zw ks) (λb (q:b=L)=>q ▸ nL) λb (q:b=L)=>q ▸ DI hL) (λ_ n=>n) (λ_ m=>nomatch m)
   (.inl ⟨.lst ys,rfl,rfl,Yn.mpr ⟨D,vs,n,rfl,⟨pD,λm=>m.elim r0 NC⟩,hD,UD.mono (λb o e p=>⟨p.1.1,λm=>m.elim p.1.2 p.2.2⟩) λ_ _ _ e=>e⟩⟩) λRd I₂ ok _=>
   ⟨m,hL.at' λo e=>ok.kept L o (.inr (.inr rfl)) e,λh' Kv=>
    have f:=MW I ks nL (λb (m:M b∨b=L)=>m.imp id λ(q:b=L)=>q ▸ nL) (λb n=>.inl n) I₂ ok Kv
    q .next _ _ trivial f.1 f.2⟩))
theorem Ex.zX       (hf:Zt F.env)(hx:ZS F.env F.cs x)
 (h:I9 C k F.env σ.flat (.ListComp elt [⟨Zu,iter,ifs,0⟩] scope cpos) scope (firstIterPos [⟨Zu,iter,ifs,0⟩] cpos) iter ys)
 (hs:swapsWith (.ListComp elt [⟨Zu,iter,ifs,0⟩] scope cpos) (some (.Name x p)) pos.line F.env=pure true):
 Ex C k F σ (exec (.Assign [.Name x p] (.ListComp elt [⟨Zu,iter,ifs,0⟩] scope cpos) pos) F.env) .Z2 (σ.set x (.own ys)):=λN M A s Q E hr I q=>
 Ae hs (h A s _ E _ _ hr I.G I.Vx I.Ww λs' D L vs n m ks nD nL NC hD UD hL=>
  have pz:∀b,N b->¬b=D:=λb n q=>(I.alive b (I.pin b n)).elim λo e=>nS (nD.symm.trans (q ▸ e))
  have nw:∀b,b=L∨b=D->s.heap.get? b=none:=λb q=>q.elim (λq=>q ▸ nL) λq=>q ▸ nD
  wpAny_assign_Name (WC (a:=.own ys) (ow:=[D]) (N₂:=λb=>N b∨b=L) hf.kind hx (I.UL (λb=>b=L∨b=D) (Zw ks) nw λb q=>q.elim (λq=>q ▸ DI hL) λq=>⟨_,q ▸ hD⟩) (λ_ n=>n.imp id .inl)
   (λb m=>have e:b=D:=Zz5.mp m;⟨.inr (.inr e),λn=>n.elim (λn=>pz b n e) λq=>NC (e.symm.trans q)⟩) (.inr ⟨rfl,D,rfl,rfl,vs,n,hD,UD.mono (λb o e p=>⟨λm=>m.elim p.1.1 λm=>m.elim p.2.2 p.2.1,p.1.2⟩) λ_ _ _ e=>e⟩) λRd I₂ ok _=>
   ⟨m,hL.at' λo e=>ok.kept L o (.inr (.inr (.inl rfl))) e,λh' Kv=>
    have f:=MW I ks nL (λb m=>m.imp id (nw b)) (λb n=>.inl n) I₂ ok Kv
    q .next _ _ trivial f.1 f.2⟩))
end
section
variable {C:Cx}{A:ZzH}{I:Zzq}{fp wr:List Zzq}{n:Nat}{P:Nat->Zzy->Prop}{St:Nat->Zza->Prop}
theorem Vq.one   (W:Walks C.prog C.w A I fp wr n P St)(lv:∀i h,St i h->∀b∈wr,∃o,h.get? b=some o):Vq C A (.Name x p) I fp wr n (λi vals=>∃v,vals=[v]/\P i v) St where
 sub:=W.sub
 frame:=W.frame
 lives:=lv
 item:=λenv i s Q E hi st hQ=>by
  refine W.item i s _ E hi st λv h' tk pv Hu hk=>?_
  refine wpAny_of_eq (a:=()) rfl ?_
  exact wpAny_assign_Name (hQ [v] h' tk ⟨v,rfl,pv⟩ Hu hk)
 done:=W.done
 self:=W.self
theorem Walks.bound(W:Walks C.prog C.w A I fp wr n P St):Walks C.prog C.w A I fp wr n (λi v=>i<n/\P i v) St where
 sub:=W.sub
 frame:=W.frame
 item:=λi s Q E hi st hQ=>W.item i s Q E hi st λv h' tk hP Hu hk=>hQ v h' tk ⟨hi,hP⟩ Hu hk
 done:=W.done
 self:=W.self
theorem fF{vals:Array Zzy}(h:vals.size=2):∃v u,vals=#[v,u]:=by
 obtain⟨l⟩:=vals
 exact Qn (P:=λl=>∃v u,(⟨l⟩:Array Zzy)=#[v,u]) h λv u=>⟨v,u,rfl⟩
theorem Vq.two    (hh:A.handled=none)   (W:WalksU C.prog C.w A I fp wr n Pt St oE)(lv:∀i h,St i h->∀b∈wr,∃o,h.get? b=some o)
 (h2:∀i vals,Pt i vals->vals.size=2):Vq C A (.Tuple [.Name x p1,.Name y p2] k p) I fp wr n (λi vals=>∃vs,Pt i vs/\vals=vs.toList) St where
 sub:=W.sub
 frame:=W.frame
 lives:=lv
 item:=λenv i s Q E hi st hQ=>by
  refine W.item i s _ E hi st λT vals h' tk pv hT hm hk=>?_
  refine W.go _ _ _ i T _ _ E hm λNB mr kq=>?_
  have th:NB.IsTuple T vals:=hT.at λo e=>kq T o (W.apart _ _ _ hm) e
  obtain⟨v,u,rfl⟩:=fF (h2 i vals pv)
  refine wpAny_assign_Tuple hh th rfl rfl λh₃ dW=>?_
  have ext:∀b o,NB.get? b=some o->h₃.get? b=some o:=λb o e=>dW b o (ZzR (ZzU e)) e
  have:=hQ [v,u] h₃ tk ⟨_,pv,rfl⟩ (W.frame _ _ _ mr λb _ o e=>ext b o e) λb o n e=>ext b o (kq b o n (hk b o n e))
  show wpAny _ A (do holding [u] (Zx8 (.Name x p1) env v);do holding [] (Zx8 (.Name y p2) env u);pure ()) _ _ _
  exact Zzz (ZzO (wpAny_assign_Name (ZzC this (λ_ s₁ h₁=>Zzz (ZzO (wpAny_assign_Name (ZzC h₁ (λ_ _ q=>Zzi q) λ_ _ e=>e)))) λ_ _ e=>e)))
 done:=W.done
 self:=W.self
end
section
variable {C:Cx}{k:Nat}{env:Env}{σ:Zx}{s:Zzu}
theorem YX{p:Zzq->Prop}:∀b∈([]:List Zzq),p b:=λ_ h=>absurd h Zvy
theorem Zs{p:Zzq->Prop}   (h:p a)(t:∀b∈l,p b):∀b∈a::l,p b:=λb hb=>(ZzN.mp hb).elim (λe=>e ▸ h) (t b)
theorem UR    {vs:Array Zzy}{wr:List Zzq}(hr:Zy P h ds vs.toList)(hk:ZY h h')(new:∀b∈wr,h.get? b=none){i:Nat}  (hv:vs[i]?=some v):
 ∃d,ds[i]?=some d/\Rep (λa=>P a/\a∉wr) h' d v:=by
 have hl:=hr.length
 have hi:i<vs.size:=(ZvG.mp hv).1
 have hd:i<ds.length:=by
  simp at hl
  first |(rw[hl];exact hi) |(rw[<-hl];exact hi)
 obtain⟨u,hu,r⟩:=hr.get (gE hd)
 rw[Zwb] at hu
 rw[hv] at hu;cases hu
 refine⟨_,gE hd,r.mono (λa o e p=>⟨p,λm=>?_⟩) λa o _ e=>hk a o e⟩
 rw[new a m] at e;cases e
theorem Yd.HI{x:oO}   {ds:List PV}{strict:Bool}
 (h:∀A s Q E P,ZH k A->C.G s.heap->Wq P env σ s.heap->ZM P s.heap->
  (∀a vs n s',ZzK s s'->(strict=true->P a)->s'.heap.get? a=some { cls:=.type "list",data:=.seq vs n }->Zy P s'.heap ds vs.toList->Q (.ref a) s')->wpAny C.M A (eval iter env) Q E s):
 Yd C k env σ strict (.Name x p) iter ds:=λA s Q E P Y9 hg hh hb q=>by
 refine h A s _ E P Y9 hg hh hb λa vs n s₁ k₁ qm hl hr=>?_
 have hL:s₁.heap.IsList a vs:=ZL hl
 have YN:a<s₁.heap.objs.size:=ZzU hl
 have WQ:a≠s₁.heap.objs.size:=ZzR YN
 refine wpAny_pyIter_list hL ?_
 have len:vs.size=ds.length:=by have:=hr.length;simpa using this
 have k₂:=X1 s₁ { cls:=.type "list_iterator",data:=.fields #[.ref a,.int 0 0] }
 have W:=ZqH (prog:=C.prog) (w:=C.w) (A:=A) Y9.handled s₁.heap.objs.size a WQ vs
 rw[len] at W
 refine q s₁.heap.objs.size [s₁.heap.objs.size,a] [s₁.heap.objs.size] _ _ _ (Zq k₁ k₂) (Vq.one W λi h st=>Zs (st.1.elim λo e=>⟨o,e.1⟩) YX) ⟨⟨_,Zzl _ rfl,rfl,rfl⟩,hL.push _⟩ (Zs ⟨_,Zzl _ rfl⟩ (Zs ⟨_,Zw k₂ _ _ hl⟩ YX))
  (Zs (ZD (Zw k₁) (Xz _)) YX) (λhs=>Zs (.inl (.head _)) (Zs (.inr (qm hs)) YX)) λi vals hp=>?_
 ·obtain⟨v,rfl,hv⟩:=hp
  obtain⟨d,hd,r⟩:=UR (wr:=[s₁.heap.objs.size]) hr (Zw k₂) (Zs (Xz _) YX) hv
  exact⟨d,[d],hd,rfl,Zy.one r⟩
theorem Yd.mz      (h:Ev C k env σ iter (.lst ds)):Yd C k env σ strict (.Name x p) iter ds:=
 Yd.HI λA s Q E P Y9 hg hh hb q=>h A s Q E P Y9 hg hh hb λv s₁ k₁ r₁=>by
  obtain⟨a,vs,n,rfl,pa,e,r⟩:=Yn.mp r₁
  exact q a vs n s₁ k₁ (λ_=>pa) e r
theorem Yd.Gd     (h:Kk C k env σ iter ds):Yd C k env σ false (.Name x p) iter ds:=
 Yd.HI λA s Q E P Y9 hg hh hb q=>h A s Q E P Y9 hg hh hb λa vs n s₁ k₁ e r=>q a vs n s₁ k₁ (λh=>by cases h) e r
structure GZ(P:Zzq->Prop)(h:Zza)(ds:List PV)(vs:Array Zzy)(T:Zzq)(w:Array Zzy)(j:Nat):Prop where
 get:vs[j]?=some (.ref T)
 tup:h.IsTuple T w
 own:P T
 val:∃d1 d2,ds[j]?=some (.tup [d1,d2])/\Zy P h [d1,d2] w.toList
theorem GZ.size       (x:GZ P h ds vs T w j):w.size=2:=
 x.val.elim λ_ q=>q.elim λ_ q=>q.2.length
theorem BF    (hr:Zy P s.heap ds vs.toList)(hd:∀d∈ds,∃a b,d=.tup [a,b]){j:Nat}(hj:j<vs.size):∃T w,GZ P s.heap ds vs T w j:=by
 obtain⟨d,aE,r⟩:=UR (P:=P) (wr:=[]) hr (λ_ _ e=>e) YX (ZyK hj)
 obtain⟨d1,d2,rfl⟩:=hd d (ZuD aE)
 obtain⟨T,w,m,e,pT,eT,rr⟩:=YA.mp r
 exact⟨T,w,by rw[ZyK hj,e],Wx (s:=s) eT,pT.1,d1,d2,aE,rr.mono (λ_ _ _ p=>p.1) λ_ _ _ e=>e⟩
theorem pairs_at    (hr:Zy P s.heap ds vs.toList)(hd:∀d∈ds,∃a b,d=.tup [a,b]):∃(Ts:Nat->Zzq) (ws:Nat->Array Zzy),∀j,j<vs.size->GZ P s.heap ds vs (Ts j) (ws j) j:=
 ⟨λj=>if hj:j<vs.size then (BF hr hd hj).choose else 0,λj=>if hj:j<vs.size then (BF hr hd hj).choose_spec.choose else #[],λj hj=>by
  show GZ P s.heap ds vs (dite _ _ _) (dite _ _ _) j
  rw[dif_pos hj,dif_pos hj]
  exact (BF hr hd hj).choose_spec.choose_spec⟩
theorem Yd.OX{x y:oO}      (hd:∀d∈ds,∃a b,d=.tup [a,b])
 (h:∀A s Q E P,ZH k A->C.G s.heap->Wq P env σ s.heap->ZM P s.heap->
  (∀a vs n s',ZzK s s'->(strict=true->P a)->s'.heap.get? a=some { cls:=.type "list",data:=.seq vs n }->Zy P s'.heap ds vs.toList->Q (.ref a) s')->wpAny C.M A (eval iter env) Q E s):
 Yd C k env σ strict (.Tuple [.Name x p1,.Name y p2] kk p) iter ds:=λA s Q E P Y9 hg hh hb q=>by
 refine h A s _ E P Y9 hg hh hb λa vs n s₁ k₁ qm hl hr=>?_
 have hL:s₁.heap.IsList a vs:=ZL hl
 have WQ:a≠s₁.heap.objs.size:=ZzR (ZzU hl)
 have len:vs.size=ds.length:=by have:=hr.length;simpa using this
 obtain⟨Ts,ws,sp⟩:=pairs_at hr hd
 have TI:∀j,j<vs.size->Ts j≠s₁.heap.objs.size:=λj hj=>(sp j hj).tup.elim λo e=>ZzR (ZzU e.1)
 refine wpAny_pyIter_list hL ?_
 have k₂:=X1 s₁ { cls:=.type "list_iterator",data:=.fields #[.ref a,.int 0 0] }
 have W:=WalksU.listOfTuples (prog:=C.prog) (w:=C.w) (A:=A) Y9.handled s₁.heap.objs.size a WQ vs Ts ws (λj hj=>(sp j hj).get) TI
 have W':=W.bound
 rw[len] at W'
 have lt:∀{j},j∈ZzW ds.length->j<vs.size:=λm=>len.symm ▸ ZxS.mp m
 refine q s₁.heap.objs.size _ [s₁.heap.objs.size] _ _ _ (Zq k₁ k₂) (Vq.two Y9.handled W' (λi h st=>Zs (st.1.elim λo e=>⟨o,e.1⟩) YX) (λi v hp=>hp.2 ▸ (sp i (len ▸ hp.1)).size)) ⟨⟨_,Zzl _ rfl,rfl,rfl⟩,hL.push _,λj hj=>(sp j (len ▸ hj)).tup.at λo e=>Zw k₂ _ o e⟩
  (Zs ⟨_,Zzl _ rfl⟩ (Zs ⟨_,Zw k₂ _ _ hl⟩ λb hb=>(Zyi.mp hb).elim λj q=>q.2 ▸ (sp j (lt q.1)).tup.elim λo e=>⟨o,Zw k₂ _ _ e.1⟩))
  (Zs (ZD (Zw k₁) (Xz _)) YX) (λhs=>Zs (.inl (.head _)) (Zs (.inr (qm hs)) λb hb=>(Zyi.mp hb).elim λj q=>q.2 ▸ .inr (sp j (lt q.1)).own)) λi vals hp=>hp.elim λw hp=>?_
 obtain⟨d1,d2,RX,rr⟩:=(sp i (len ▸ hp.1.1)).val
 rw[hp.2,hp.1.2]
 exact⟨_,[d1,d2],RX,rfl,rr.mono (λb o e p=>⟨p,λm=>nS ((Xz s₁.heap).symm.trans (Zz5.mp m ▸ e))⟩) λb o _ e=>Zw k₂ b o e⟩
theorem Yd.nO       (hd:∀d∈ds,∃a b,d=.tup [a,b])(h:Ev C k env σ iter (.lst ds)):Yd C k env σ strict (.Tuple [.Name x p1,.Name y p2] kk p) iter ds:=
 Yd.OX hd λA s Q E P Y9 hg hh hb q=>h A s Q E P Y9 hg hh hb λv s₁ k₁ r₁=>by
  obtain⟨a,vs,n,rfl,pa,e,r⟩:=Yn.mp r₁
  exact q a vs n s₁ k₁ (λ_=>pa) e r
theorem Yd.str      (h:Ev C k env σ iter (.str t)):Yd C k env σ strict (.Name x p) iter (t.cps.toList.map λc=>.str ⟨#[c]⟩):=λA s Q E P Y9 hg hh hb q=>by
 refine h A s _ E P Y9 hg hh hb λv s₁ k₁ r₁=>?_
 obtain⟨tk,rfl⟩:=Zc.mp r₁
 have key:∀(T:String) (o:Obj),o.isFreed=false->(Walks C.prog C.w A s₁.heap.objs.size [s₁.heap.objs.size] [s₁.heap.objs.size] t.cps.size (SignAt t) (λi h=>h.IsStrIter s₁.heap.objs.size T t tk i))->
  (s₁.heap.push o).IsStrIter s₁.heap.objs.size T t tk 0->Q (.ref s₁.heap.objs.size) { s₁ with heap:=s₁.heap.push o }:=λT o of W st=>by
  have k₂:=X1 s₁ o
  have len:t.cps.size=(t.cps.toList.map λc=>PV.str ⟨#[c]⟩).length:=by simp
  rw[len] at W
  refine q s₁.heap.objs.size _ [s₁.heap.objs.size] _ _ _ (Zq k₁ k₂) (Vq.one W λi h st b hb=>?_) st (λb hb=>?_) (λb hb=>?_) (λhs b hb=>.inl hb) λi vals hp=>?_
  ·simp at hb;subst hb;obtain⟨o,e,_⟩:=st;exact⟨o,e⟩
  ·simp at hb;subst hb;obtain⟨o,e,_⟩:=st;exact⟨o,e⟩
  ·simp at hb;subst hb;exact ZD (Zw k₁) (Xz _)
  ·obtain⟨v,rfl,c,u,hc,rfl⟩:=hp
   exact⟨.str ⟨#[c]⟩,[_],by simp [hc],rfl,Zy.one (Zc.mpr ⟨u,rfl⟩)⟩
 cases ha:t.cps.all (· < 128)
 ·exact wpAny_pyIter_wide ha (key _ _ rfl (Walks.strWide Y9.handled _ t tk) ⟨_,Zzl _ rfl,rfl,rfl⟩)
 ·exact wpAny_pyIter_ascii ha (key _ _ rfl (Walks.strAscii Y9.handled _ t tk) ⟨_,Zzl _ rfl,rfl,rfl⟩)
noncomputable def ZR(a b:Int):List PV:=(ZzW (b-a).toNat).map λi:Nat=>PV.int (a+(i:Int))
theorem MC(a b:Int):Zww a b 1=(((b-a).toNat:Nat):Int):=by
 rw[rangeSize_one]
 split
 ·exact (Zw2 (Int.sub_nonneg_of_le (Zuw ‹_›))).symm
 ·exact (congrArg _ (Zqy (Int.sub_nonpos_of_le (Zx5.mp ‹_›)))).symm
theorem CR          {P:Zzq->Prop}  (Y9:ZH k A)(k₁:ZzK s s₁)(hr:IsRange s₁.heap r a b 1 t u v)
 (ha:-(2 ^ 62)<=a) (Hb:a<2 ^ 62) (hb:-(2 ^ 62)<=b) (WI:b<2 ^ 62)
 (q:∀I fp wr Pt St s',ZzK s s'->Vq C A (.Name x p) I fp wr (ZR a b).length Pt St->St 0 s'.heap->(∀b∈fp,∃o,s'.heap.get? b=some o)->(∀b∈wr,s.heap.get? b=none)->
  (strict=true->∀b∈fp,b∈wr∨P b)->
  (∀i vals,Pt i vals->∃d ps,(ZR a b)[i]?=some d/\partsOf (.Name x p) d=some ps/\Zy (λa=>P a/\a∉wr) s'.heap ps vals)->Q (.ref I) s'):wpAny C.M A (pyIter (.ref r)) Q E s₁:=by
 refine wpAny_pyIter_range hr (small_one ha Hb hb WI) ?_
 have k₂:=X1 s₁ { cls:=.type "range_iterator",data:=.fields #[rawInt a,rawInt (Zww a b 1),rawInt 1] }
 have W:=Walks.range (prog:=C.prog) (w:=C.w) (A:=A) Y9.handled s₁.heap.objs.size a 1 (b-a).toNat
 have len:(ZR a b).length=(b-a).toNat:=by simp [ZR]
 rw[<-len] at W
 have sz:Zww a b 1=(((b-a).toNat:Nat):Int):=MC a b
 refine q s₁.heap.objs.size _ [s₁.heap.objs.size] _ _ _ (Zq k₁ k₂) (Vq.one (Walks.bound W) λi h st b hb=>?_) ?_ (λb hb=>?_) (λb hb=>?_) (λhs b hb=>.inl hb) λi vals hp=>?_
 ·simp at hb;subst hb;exact⟨_,st⟩
 ·show IsRangeIter _ _ _ _ _
  have e1:a+((0:Nat):Int)*1=a:=Int.add_zero a
  have e2:((ZR a b).length:Int)-((0:Nat):Int)=Zww a b 1:=by rw[sz,len];exact Zuv _
  rw[e1,e2]
  exact Zzl _ rfl
 ·simp at hb;subst hb;exact⟨_,Zzl _ rfl⟩
 ·simp at hb;subst hb;exact ZD (Zw k₁) (Xz _)
 ·obtain⟨w,rfl,hi,t',rfl⟩:=hp
  refine⟨.int (a+i),[_],?_,rfl,Zy.one (Zf.mpr ⟨t',by simp⟩)⟩
  rw[len] at hi
  simp [ZR,hi]
end
def Goes(C:Cx)(A:ZzH)(strict:Bool)(Zu:Zzw)(ds:List PV)(P:Zzq->Prop)(s:Zzu)(Q:Zzy->Zzu->Prop):Prop:=
 ∀I fp wr Pt St s',ZzK s s'->Vq C A Zu I fp wr ds.length Pt St->St 0 s'.heap->(∀b∈fp,∃o,s'.heap.get? b=some o)->(∀b∈wr,s.heap.get? b=none)->
    (strict=true->∀b∈fp,b∈wr∨P b)->
    (∀i vals,Pt i vals->∃d ps,ds[i]?=some d/\partsOf Zu d=some ps/\Zy (λa=>P a/\a∉wr) s'.heap ps vals)->Q (.ref I) s'
section
variable {C:Cx}{k:Nat}{env:Env}{σ:Zx}{s:Zzu}
theorem Goes.after        (q:Goes C A strict Zu ds P s Q)(k₁:ZzK s s₁):Goes C A strict Zu ds P s₁ Q:=
 λI fp wr Pt St s' k₂ W st Cr new str hv=>q I fp wr Pt St s' (Zq k₁ k₂) W st Cr (λb m=>ZD (Zw k₁) (new b m)) str hv
theorem Yd.call         (hf:Zt env)(b:VX C env x (.type T))(ha:ZQ C k env σ args as)
 (h:∀A s Q E P vs,ZH k A->C.G s.heap->Wy P s.heap as vs->ZM P s.heap->Goes C A strict Zu ds P s Q->wpAny C.M A (call (.type T) vs) (λv s₁=>wpAny C.M A (pyIter v) Q E s₁) E s)
 (hd:(x==("__debug__":oO))=false:=by decide):Yd C k env σ strict Zu (.Call (.Name x p) args [] pos) ds:=λA s Q E P hr hg hh hb q=>by
 rw[Ym]
 refine Zzz (name_B hf b hg ?_ hd)
 refine ZyE ha.plain (ha.args hr hg hh hb λvs s₁ k₁ r₁=>?_)
 have x₁:=Zw k₁
 exact h A s₁ _ _ P vs hr (C.ext hg x₁) r₁ (hb.ext x₁) (Goes.after q k₁)
theorem Yd.CQ      (hf:Zt env)(hB:VX C env x (.type "range"))(ha:ZQ C k env σ args [.val (.int b)])(hb:-(2 ^ 62)<=b)(WI:b<2 ^ 62)
 (hd:(x==("__debug__":oO))=false:=by decide):Yd C k env σ strict (.Name y py) (.Call (.Name x p) args [] pos) (ZR 0 b):=
 Yd.call hf hB ha (λA s Q E P vs hr hg r al q=>by
  obtain⟨v,rfl,rv⟩:=XK r
  obtain⟨t,rfl⟩:=Wd rv
  refine call_range_1 (CR (P:=P) (strict:=strict) (s:=s) hr ⟨_,_,rfl,λ_ _ e=>Zzj _ e⟩ (Zzl _ rfl) oD oD hb WI q)) hd
theorem Yd.G4      (hf:Zt env)(hB:VX C env x (.type "range"))(ha:ZQ C k env σ args [.val (.int a),.val (.int b)])(hl:-(2 ^ 62)<=a)(UU:a<2 ^ 62)(hb:-(2 ^ 62)<=b)(WI:b<2 ^ 62)
 (hd:(x==("__debug__":oO))=false:=by decide):Yd C k env σ strict (.Name y py) (.Call (.Name x p) args [] pos) (ZR a b):=
 Yd.call hf hB ha (λA s Q E P vs hr hg r al q=>by
  obtain⟨v,u,rfl,rv,ru⟩:=V0 r
  obtain⟨t,rfl⟩:=Wd rv
  obtain⟨t',rfl⟩:=Wd ru
  refine call_range_2 (CR (P:=P) (strict:=strict) (s:=s) hr ⟨_,_,rfl,λ_ _ e=>Zzj _ e⟩ (Zzl _ rfl) hl UU hb WI q)) hd
noncomputable def listOf:AV->Option (List PV)
 |.val (.lst ds)=>some ds
 |.own ds=>some ds
 |_=>none
theorem AY   {R:Prop}(h:listOf a=some ds)(l:a=.val (.lst ds)->R)(o:a=.own ds->R):R:=by
 cases a with
 |own es=>cases h;exact o rfl
 |tab c es=>exact nS h
 | val d=>cases d with
   |lst es=>cases h;exact l rfl
   |_=>exact nS h
theorem V7   {a:AV}   (ha:listOf a=some ds)(r:YE P h a v):∃b vs n,v=.ref b/\(a=.val (.lst ds)->P b)/\h.get? b=some { cls:=.type "list",data:=.seq vs n }/\Zy P h ds vs.toList:=
 AY ha (λe=>(Yn.mp (show Rep P h (.lst ds) v from (e ▸ r:YE P h (.val (.lst ds)) v))).imp λb=>ZzY λvs=>ZzY λn z=>⟨z.1,λ_=>z.2.1,z.2.2.1,z.2.2.2⟩)
  λe=>ZzY (λb=>ZzY λvs=>ZzY λn z=>⟨z.1,(λh=>AV.noConfusion (e.symm.trans h)),z.2.1,z.2.2⟩) (e ▸ r:YE P h (.own ds) v)
noncomputable def VD(a b:List PV):List PV:=Zqc (λx y=>.tup [x,y]) a b
theorem As  (h1:@LT.lt Nat _ l1 n)(h2:@LT.lt Nat _ l2 n):ZwK (n+4) (n+2) (n+3) n (n+1) l1 l2:=
 have c:∀i j:Nat,i≠j->n+i≠n+j:=λ_ _ h e=>h (Nat.add_left_cancel e)
 have u:∀(i:Nat) {l:Nat},l<n->l≠n+i:=λi l h e=>Zuu (Zzt n i) (Zz4 (Zya e.symm) h)
 ⟨c 2 4 oD,c 3 4 oD,c 0 4 oD,c 1 4 oD,c 2 3 oD,c 2 0 oD,c 2 1 oD,c 3 0 oD,c 3 1 oD,c 0 1 oD,u 4 h1,u 3 h1,u 0 h1,u 1 h1,u 4 h2,u 3 h2,u 0 h2,u 1 h2⟩
theorem Yd.zip        (hf:Zt env)(hB:VX C env x (.type "zip"))(ha:ZQ C k env σ args [a,b])(qe:listOf a=some da)(e8:listOf b=some db)
 (Xk:strict=true->a=.val (.lst da)/\b=.val (.lst db)) (hd:(x==("__debug__":oO))=false:=by decide):Yd C k env σ strict (.Tuple [.Name y p1,.Name z p2] kk pt) (.Call (.Name x p) args [] pos) (VD da db):=
 Yd.call hf hB ha (λA s Q E P vs hr hg r al q=>by
  obtain⟨v,u,rfl,rv,ru⟩:=V0 r
  obtain⟨l1,xs,n1,rfl,uM,g1,r1⟩:=V7 qe rv
  obtain⟨l2,ys,n2,rfl,rj,g2,r2⟩:=V7 e8 ru
  have h1:l1<s.heap.objs.size:=ZzU g1
  have h2:l2<s.heap.objs.size:=ZzU g2
  refine call_zip_2 (ZL g1) (ZL g2) λh' hz IE FA aH IT hsz hk=>?_
  refine wpAny_pyIter_zip hz ?_
  have W:=(WalksT.zip2 (prog:=C.prog) (w:=C.w) (A:=A) hr.handled _ _ _ _ _ _ _ (As h1 h2) xs ys).toU.bound
  have Ga:xs.size=da.length:=by have:=r1.length;simpa using this
  have Qn:ys.size=db.length:=by have:=r2.length;simpa using this
  have len:min xs.size ys.size=(VD da db).length:=by simp [VD,Ga,Qn]
  rw[len] at W
  have new:∀b∈[s.heap.objs.size+4,s.heap.objs.size+3,s.heap.objs.size,s.heap.objs.size+1],s.heap.get? b=none:=Zs (Xq (Zzt _ 4)) (Zs (Xq (Zzt _ 3)) (Zs (Xq (Zz1 _)) (Zs (Xq (Zzt _ 1)) YX)))
  refine q _ _ _ _ _ { s with heap:=h' } ⟨h',s.toks,rfl,hk⟩ (Vq.two hr.handled W (λi h st=>?_) (λi vals hp=>hp.elim λ_ q=>q.elim λx q=>q.elim λy q=>q.2.2 ▸ rfl)) ⟨hz,IE,⟨_,_,FA⟩,aH,IT,(ZL g1).at λo e=>hk _ _ e,(ZL g2).at λo e=>hk _ _ e⟩
   (Zs ⟨_,hz⟩ (Zs ⟨_,IE⟩ (Zs ⟨_,FA⟩ (Zs (aH.elim λo e=>⟨o,e.1⟩) (Zs (IT.elim λo e=>⟨o,e.1⟩) (Zs ⟨_,hk _ _ g1⟩ (Zs ⟨_,hk _ _ g2⟩ YX)))))))
   new (λhs=>?_) λi vals hp=>?_
  ·exact Zs ⟨_,st.1⟩ (Zs (st.2.2.1.elim λ_ q=>q.elim λ_ e=>⟨_,e⟩) (Zs (st.2.2.2.1.elim λo e=>⟨o,e.1⟩) (Zs (st.2.2.2.2.1.elim λo e=>⟨o,e.1⟩) YX)))
  ·obtain⟨ea,eb⟩:=Xk hs
   exact Zs (.inl (.head _)) (Zs (.inr (Zyg λnp=>(al _ np).elim λo e=>nS ((Xq (Zzt _ 2)).symm.trans e))) (Zs (.inl (.tail _ (.head _))) (Zs (.inl (.tail _ (.tail _ (.head _)))) (Zs (.inl (.tail _ (.tail _ (.tail _ (.head _))))) (Zs (.inr (uM ea)) (Zs (.inr (rj eb)) YX))))))
  ·obtain⟨w,⟨hi,x,y,hx,hy,rfl⟩,rfl⟩:=hp
   obtain⟨d1,e1,uG⟩:=UR r1 hk new hx
   obtain⟨d2,e2,sI⟩:=UR r2 hk new hy
   exact⟨.tup [d1,d2],[d1,d2],by simp [VD,Zvq,e1,e2],rfl,Zy.cons uG (Zy.one sI)⟩) hd
end
structure Yt(C:Cx)(f:Zzq)(fd:Zyr)(body:List ZzZ):Prop where
 obj:∀h,C.G h->∃o,h.get? f=some o/\o.data=.func fd
 code:∀h,C.G h->h.CodeRec fd.code fd.qualname
 globals:fd.globals=mainGlobals
 builtins:fd.builtins=builtinsNs
 closure:fd.closure=[]
 body:fd.body=.stmts body
 co:fd.scope.isCoroutine=false
 gen:fd.scope.isGenerator=false
 kind:fd.scope.kind=.function
 cell:∀x∈fd.scope.names,x.2=.cell->fd.scope.names.lookup x.1=some .cell
structure Fg(F:Ye)(fd:Zyr):Prop where
 scope:F.env.scope=fd.scope
 cs:F.cs=ZU fd.scope.names
 Z3:Zt F.env
section
variable {C:Cx}{k:Nat}{F:Ye}{N M:Zzq->Prop}{σ σ₁ σ₂:Zx}{s s' s₁:Zzu}{af:Z7}{h h':Zza}{env:Env}
theorem zZ(hf:F.env.scope.kind=.function)   (f:oO × Zzy->PUnit->Sem (ForInStep PUnit))(R9:∀n v u,f (n,v) u=(do storeName F.env n v;pure (.yield ⟨⟩))) :
 ∀{ds:List PV} {vals:List Zzy} {σ:Zx} {s:Zzu} {Q:PUnit->Zzu->Prop},(∀x∈xs,ZS F.env F.cs x)->xs.length=ds.length->Inv C F N M σ s.heap->Zy (F.out M) s.heap ds vals->
 (∀s',Inv C F N M (Zd σ xs ds) s'.heap->Zo N M s M s'->Q ⟨⟩ s')->wpAny C.M A (forIn (xs.zip vals) ⟨⟩ f) Q E s:=by
 induction xs with
 | nil=>
   intro ds vals σ s Q _ hl I r q
   rw[List.zip_nil_left,ZyS]
   cases ds with
   |nil=>exact Zzi (q s I .refl)
   |cons _ _=>cases hl
 | cons x xs ih=>
   intro ds vals σ s Q hx hl I r q
   cases ds with
   |nil=>cases hl
   | cons d ds=>
     refine Zyh r λv t=>t.elim λvs t=>?_
     rw[t.1,List.zip_cons_cons,Zys,R9]
     exact Zzz (Zzz (QF hf (hx x (.head _)) I t.2.1 t.2.2 λs₁ I₁ Qx r₂=>Zzi (ih (λy hy=>hx y (.tail _ hy)) (Zxz hl) I₁ r₂ λs' I' I0=>q s' I' (Qx.trans I0))))
theorem gY    (hL:env.locals=h.objs.size)(hc:env.cells=Zy6 (h.objs.size+1) env.scope.names [])(KN:∀x∈env.scope.names,x.2=.cell->env.scope.names.lookup x.1=some .cell)(hg:C.G h)(hb:ZM P h):
 Inv C ⟨env,h,P,ZU env.scope.names⟩ (λ_=>False) (λb=>b=h.objs.size∨∃x,(Zy6 (h.objs.size+1) env.scope.names []).lookup x=some b) (λ_=>none) (B4 "frame" h env.scope.names) where
 Jx:=hg
 live:=hb
 ext:=Iw
 fresh:=λb m=>m.elim (λe=>e ▸ Xz _) λm=>m.elim λx e=>(V5 (cls:="frame") e).1
 alive:=λb m=>m.elim (λe=>e ▸ DI BM) λm=>m.elim λx e=>(V5 e).2.2.1.imp λo t=>t.1
 UX:=.inl hL
 Ua:=λn=>n
 pin:=λa n=>n.elim
 ns:=⟨_,hL ▸ BM⟩
 cell:=λx hx=>⟨KN _ (VA.mp hx) rfl,(DL hx).elim λc e=>⟨c,none,hc ▸ e,(V5 e).2.2.1,.inr ⟨x,e⟩,λn=>n⟩⟩
 apart:=λx y c hx e1 e2=>Ls (hc ▸ e1) (hc ▸ e2)
 outer:=λy c e=>.inl (V5 (cls:="frame") (hc ▸ e)).2.2.2
 val:=λx d e=>nS e
 own:=⟨λ_=>[],λx a e=>nS e,λx y a b c e=>nS e⟩
theorem Dy      {code:Zzy}
 (hk:scope.kind=.function) (KN:∀x∈scope.names,x.2=.cell->scope.names.lookup x.1=some .cell) (hx:∀x∈xs,scope.names.lookup x=some .local∨x∈ZU scope.names) (hl:xs.length=ds.length)
 (hg:C.G s.heap) (hb:ZM P s.heap) (r:Zy P s.heap ds vals)
 (q:∀F M s',F.env.scope=scope->F.env.globals=mainGlobals->F.env.builtins=builtinsNs->F.cs=ZU scope.names->F.P=P->F.base=s.heap->(∀y c,F.env.cells.lookup y=some c->y∈F.cs)->Inv C F (λ_=>False) M (Zd (λ_=>none) xs ds) s'.heap->Zo (λ_=>False) (λ_=>False) s M s'->Q F.env s'):
 wpAny C.M A (newFunctionEnv scope mainGlobals [] (xs.zip vals) qual (some f) code none builtinsNs) Q E s:=by
 simp only[newFunctionEnv,Option.isSome_none,Zx9,if_false]
 refine Zzz (wpAny_alloc ?_)
 refine Zzz (wpAny_layCells _ (λname kind cells=>by cases qo:kind==Zwu<;>simp [qo]) _ _ _ _ ?_)
 rw[show ({ s with heap:=s.heap.push { cls:=.type "frame",data:=.dict #[] } }:Zzu).heap.objs.size=s.heap.objs.size+1 from ZyT ..]
 have I:=gY (C:=C) (env:={ scope:=scope,locals:=s.heap.objs.size,globals:=mainGlobals,cells:=Zy6 (s.heap.objs.size+1) scope.names [],qual:=qual,func:=some f,code:=code,frame:=some s.heap.objs.size,builtins:=builtinsNs }) rfl rfl KN hg hb
 refine Zzz (zZ (C:=C) (N:=λ_=>False) (σ:=λ_=>none) hk _ (λ_ _ _=>rfl) ?_ hl I (r.mono (λb o e p=>⟨p,λm=>nS ((I.fresh b m).symm.trans e)⟩) λb o _ e=>Iw b o e) λs' I' I0=>Zzi
  (q _ _ s' rfl rfl rfl rfl rfl rfl (λy c e=>(V5 (cls:="frame") e).2.2.2) I' ⟨XQ.trans ⟨_,s.toks,rfl⟩ I0.same,λb o _ e=>I0.kept b o (.inl λm=>nS ((I.fresh b m).symm.trans e)) (Iw b o e),λb m=>.inr (I.fresh b m)⟩))
 exact λx qg=>hx x qg
theorem ZH.deeper   (hr:ZH (k+1) A):ZH k (A.deeper env):=hr.of hr.handled (Zz1 _) (by simp)
theorem A5  (hr:ZH (k+1) A):A.depth<recursionLimit:=Zz4 (Zzt _ _) hr.depth
noncomputable def yq:Flow->Zzy
 |.ret v=>v
 |.next=>.none
 |.brk=>.none
 |.cont=>.none
theorem given    {Q:Zzy->Zzu->Prop}  (ND:af=.ret d∨(af=.Z2/\d=.none))(WJ:VI B h af fl)(q:∀v,Rep (λa=>B.get? a=none) h d v->Q v s'):Q (yq fl) s':=by
 cases ND with
 |inl e=>cases e;cases fl<;>first |exact WJ.elim |exact q _ WJ
 |inr e=>cases e.1;cases e.2;cases fl<;>first |exact WJ.elim |exact q _ rfl
theorem E6  {Q:Zzy->Zzu->Prop}  (h:Q (yq fl) s'):Q (match (generalizing:=false) fl with |.ret v=>v |_=>.none) s':=by cases fl<;>exact h
theorem Zo.keeps(h:Zo (λ_=>False) (λ_=>False) s M s'):ZzK s s':=XQ.keeps h.same λb o e=>h.kept b o (.inl id) e
section
variable {A:ZzH}{E:Zzy->Zzu->Prop}{Q:Zzy->Zzu->Prop}{P:Zzq->Prop}{f:Zzq}{fd:Zyr}{body:List ZzZ}{xs:List oO}{vals ws:List Zzy}{ks:List (oO × Zzy)}{ds:List PV}{d:PV}
theorem Yt.enter(D:Yt C f fd body)(hx:∀x∈xs,fd.scope.names.lookup x=some .local∨x∈ZU fd.scope.names)(hl:xs.length=ds.length)(hd:A.depth<recursionLimit)(hg:C.G s.heap)(hb:ZM P s.heap)(r:Zy P s.heap ds ws)(KL:Zxb s fd ⟨vals,ks⟩ (xs.zip ws))
 (q:∀F M s₁ E',Fg F fd->F.P=P->F.base=s.heap->(∀y c,F.env.cells.lookup y=some c->y∈F.cs)->Inv C F (λ_=>False) M (Zd (λ_=>none) xs ds) s₁.heap->Zo (λ_=>False) (λ_=>False) s M s₁->wpAny C.M (A.deeper F.env) (execs body F.env) (λfl s'=>Q (yq fl) s') E' s₁):
 wpAny C.M A (call (.ref f) vals ks) Q E s:=
 (D.obj _ hg).elim λo t=>wpAny_call (codeAny_call_function hd t.1 t.2 D.co D.gen D.body (D.code _ hg) (KL _ _ _ _ (by
  rw[D.globals,D.closure,D.builtins]
  exact Dy D.kind D.cell hx hl hg hb r λF M s₁ h1 h2 h3 h4 h5 h6 h7 I ok=>⟨I.G.nolimit,codeAny_func (ZzC (q F M s₁ _ ⟨h1,h4,⟨h1 ▸ D.kind,h2,h3⟩⟩ h5 h6 h7 I ok) (λfl s' h=>E6 h) λ_ _ e=>e)⟩)))
theorem Yt.gives(D:Yt C f fd body)(hx:∀x∈xs,fd.scope.names.lookup x=some .local∨x∈ZU fd.scope.names)(hl:xs.length=ds.length)(hr:ZH (k+1) A)(hg:C.G s.heap)(hb:ZM P s.heap)(r:Zy (λ_=>True) s.heap ds ws)(KL:Zxb s fd ⟨vals,ks⟩ (xs.zip ws))
 (ND:af=.ret d∨(af=.Z2/\d=.none)) (hex:∀F,Fg F fd->∃σ',Ex C k F (Zd (λ_=>none) xs ds) (execs body F.env) af σ') (q:∀v s',ZzK s s'->Rep P s'.heap d v->Q v s'):wpAny C.M A (call (.ref f) vals ks) Q E s:=
 D.enter hx hl (A5 hr) hg (λ_ n=>absurd trivial n) r KL λF M s₁ E' FF _ h5 _ I ok=>(hex F FF).elim λσ' ex=>ex (λ_=>False) M _ s₁ _ _ hr.deeper I λfl M' s' WJ I' I0=>
  given ND (h5 ▸ WJ) λv r'=>q v s' (ok.trans I0).keeps (r'.mono (λa o _ e=>Zyg λnp=>(hb a np).elim λo' e'=>nS (e.symm.trans e')) λ_ _ _ e=>e)
end
theorem ZG.Ei        (D:Yt C f fd body)(hx:∀x∈xs,fd.scope.names.lookup x=some .local∨x∈ZU fd.scope.names)(hl:xs.length=as.length)
 (KL:∀s vals,C.G s.heap->vals.length=xs.length->Zxb s fd ⟨vals,[]⟩ (xs.zip vals)) (ND:af=.ret d∨(af=.Z2/\d=.none))
 (hex:∀F,Fg F fd->Ex C k F (Zd (λ_=>none) xs (as.map AV.pv)) (execs body F.env) af σ'):ZG C (k+1) (.ref f) as d:=λA s Q E P vs hr hg r hb q=>
 D.gives hx (hl.trans (Zzm _).symm) hr hg hb r.Rb (KL s vs hg (r.Rb.length.trans ((Zzm _).trans hl.symm))) ND (λF FF=>⟨σ',hex F FF⟩) q
end
section
variable {C:Cx}{k:Nat}{F:Ye}{N M:Zzq->Prop}{σ σ₁ σ₂:Zx}{s s' s₁:Zzu}{af:Z7}{h h':Zza}
theorem Ex.jc       (hf:Zt F.env)(hx:∀x∈xs,ZS F.env F.cs x)(h0:0<xs.length)(h3:xs.length<=3)(hl:xs.length=ds.length)(h:Ev C k F.env σ e (.tup ds))
 (hn:(assignEach elts F.env).length=xs.length) (Sl:(assignEach elts F.env).findIdx? (·.1)=none)
 (Xk:∀A Q E vals s,Stores C A F.env Q E xs vals s->wpAny C.M A (assignInOrder ((assignEach elts F.env).map (·.2)) vals) Q E s)
 (hs:swapsWithSole [.Tuple elts n Vg] e pos.line F.env=pure false) (hw:ZyU [.Tuple elts n Vg] e F.env=pure none):
 Ex C k F σ (exec (.Assign [.Tuple elts n Vg] e pos) F.env) .Z2 (Zd σ xs ds):=λN M A s Q E hr I q=>by
 refine Assign_Tuple (h A s _ _ _ hr I.G I.has I.Xv λv s₁ k₁ r₁=>?_) hs hw
 obtain⟨T,vs,m,rfl,_,e0,rr⟩:=YA.mp r₁
 have len:vs.size=ds.length:=by have:=rr.length;simpa using this
 refine wpAny_assign_Tuple hr.handled (Wx e0) (by rw[hn,hl,len]) Sl λh' J7=>Xk _ _ _ _ _ ?_
 have k₂:ZzK s₁ { s₁ with heap:=h' }:=⟨h',s₁.toks,rfl,λb o e=>J7 b o (ZzR (ZzU e)) e⟩
 exact Qc hf.kind hx hl h0 h3 ((I.of_keeps k₁).of_keeps k₂) (rr.ext (Zw k₂)) λs' I' ok=>q _ M s' trivial I' ((ok.after k₂).after k₁)
theorem ie         (h:Stores C A env Q E [x,y] vals s):
 wpAny C.M A (assignInOrder ((assignEach [.Name x p1,.Name y p2] env).map (·.2)) vals) Q E s:=by
 rcases vals with _ |⟨v,_ |⟨u,_ |⟨_,_⟩⟩⟩
 ·exact h.elim
 ·exact h.elim
 ·show wpAny _ A (do holding [u] (Zx8 (.Name x p1) env v);do holding [] (Zx8 (.Name y p2) env u);pure ()) _ _ _
  exact Zzz (ZzO (wpAny_assign_Name (ZzC h (λ_ s₁ h₁=>Zzz (ZzO (wpAny_assign_Name (ZzC h₁ (λ_ _ q=>Zzi q) λ_ _ e=>e)))) λ_ _ e=>e)))
 ·exact h.elim
theorem Ej         (h:Stores C A env Q E [x,y,z] vals s):
 wpAny C.M A (assignInOrder ((assignEach [.Name x p1,.Name y p2,.Name z p3] env).map (·.2)) vals) Q E s:=by
 rcases vals with _ |⟨v,_ |⟨u,_ |⟨t,_ |⟨_,_⟩⟩⟩⟩
 ·exact h.elim
 ·exact h.elim
 ·exact h.elim
 ·show wpAny _ A (do holding [u,t] (Zx8 (.Name x p1) env v);do holding [t] (Zx8 (.Name y p2) env u);do holding [] (Zx8 (.Name z p3) env t);pure ()) _ _ _
  exact Zzz (ZzO (wpAny_assign_Name (ZzC h (λ_ s₁ h₁=>Zzz (ZzO (wpAny_assign_Name (ZzC h₁ (λ_ s₂ h₂=>
   Zzz (ZzO (wpAny_assign_Name (ZzC h₂ (λ_ _ q=>Zzi q) λ_ _ e=>e)))) λ_ _ e=>e)))) λ_ _ e=>e)))
 ·exact h.elim
theorem Ex.TX     {d1 d2:PV}(hf:Zt F.env)(hx:ZS F.env F.cs x)(hy:ZS F.env F.cs y)(h:Ev C k F.env σ e (.tup [d1,d2]))
 (hs:swapsWithSole [.Tuple [.Name x p1,.Name y p2] n Vg] e pos.line F.env=pure false) (hw:ZyU [.Tuple [.Name x p1,.Name y p2] n Vg] e F.env=pure none):
 Ex C k F σ (exec (.Assign [.Tuple [.Name x p1,.Name y p2] n Vg] e pos) F.env) .Z2 ((σ.set x (.val d1)).set y (.val d2)):=
 Ex.jc (xs:=[x,y]) (ds:=[d1,d2]) hf (λz hz=>by simp at hz;rcases hz with rfl |rfl<;>assumption) (by simp) (by simp) rfl h rfl rfl (λA Q E vals s=>ie) hs hw
theorem Ex.mw     {d1 d2 d3:PV}(hf:Zt F.env)(hx:ZS F.env F.cs x)(hy:ZS F.env F.cs y)(hz:ZS F.env F.cs z)(h:Ev C k F.env σ e (.tup [d1,d2,d3]))
 (hs:swapsWithSole [.Tuple [.Name x p1,.Name y p2,.Name z p3] n Vg] e pos.line F.env=pure false) (hw:ZyU [.Tuple [.Name x p1,.Name y p2,.Name z p3] n Vg] e F.env=pure none):
 Ex C k F σ (exec (.Assign [.Tuple [.Name x p1,.Name y p2,.Name z p3] n Vg] e pos) F.env) .Z2 (((σ.set x (.val d1)).set y (.val d2)).set z (.val d3)):=
 Ex.jc (xs:=[x,y,z]) (ds:=[d1,d2,d3]) hf (λw hw=>by simp at hw;rcases hw with rfl |rfl |rfl<;>assumption) (by simp) (by simp) rfl h rfl rfl (λA Q E vals s=>Ej) hs hw
theorem VT    (hn:x≠y):(σ.set y b).set x a=(σ.set x a).set y b:=by
 funext z;simp only[Zx.set]
 by_cases e:z=x
 ·rw[if_pos e];by_cases e':z=y
  ·exact absurd (e.symm.trans e') hn
  ·rw[if_neg e',if_pos e]
 ·rw[if_neg e];by_cases e':z=y
  ·rw[if_pos e',if_pos e']
  ·rw[if_neg e',if_neg e',if_neg e]
theorem Ex.tupS       (hf:Zt F.env)(hx:∀x∈xs,ZS F.env F.cs x)(h0:0<xs.length)(h3:xs.length<=3)(hl:xs.length=ds.length)(h:Ev C k F.env σ e (.tup ds))
 (Xk:∀A Q E vals s,Stores C A F.env Q E xs.reverse vals s->wpAny C.M A (assignInOrder (xs.reverse.map λn=>bindName F.env n) vals) Q E s)
 (hs:swapsWithSole [.Tuple elts n Vg] e pos.line F.env=pure false) (hw:ZyU [.Tuple elts n Vg] e F.env=pure (some xs)):
 Ex C k F σ (exec (.Assign [.Tuple elts n Vg] e pos) F.env) .Z2 (Zd σ xs.reverse ds.reverse):=λN M A s Q E hr I q=>by
 refine ZuC (h A s _ _ _ hr I.G I.has I.Xv λv s₁ k₁ r₁=>?_) hs hw
 obtain⟨T,vs,m,rfl,_,e0,rr⟩:=YA.mp r₁
 have len:vs.size=ds.length:=by have:=rr.length;simpa using this
 rw[show xs.length=vs.size by rw[hl,len]]
 refine wpAny_unpackItems_tuple hr.handled (Wx e0) λh' J7=>Xk _ _ _ _ _ ?_
 have k₂:ZzK s₁ { s₁ with heap:=h' }:=⟨h',s₁.toks,rfl,λb o e=>J7 b o (ZzR (ZzU e)) e⟩
 have rev:∀{ds:List PV} {vs:List Zzy},Zy (F.out M) h' ds vs->Zy (F.out M) h' ds.reverse vs.reverse:=λ{ds}=>by
  induction ds with
  |nil=>intro vs r;cases (r:vs=[]);exact Zy.nil
  | cons d ds ih=>
    intro vs r
    obtain⟨v,w,rfl,r1,r2⟩:=r
    rw[Zqp,Zqp]
    exact (ih r2).append (Zy.one r1)
 exact Qc hf.kind (λx qg=>hx x (by simpa using qg)) (by simpa using hl) (by simpa using h0) (by simpa using h3) ((I.of_keeps k₁).of_keeps k₂) (rev (rr.ext (Zw k₂))) λs' I' ok=>q _ M s' trivial I' ((ok.after k₂).after k₁)
theorem wQ        (h:Stores C A env Q E [x,y] vals s):
 wpAny C.M A (assignInOrder ([x,y].map λn=>bindName env n) vals) Q E s:=by
 rcases vals with _ |⟨v,_ |⟨u,_ |⟨_,_⟩⟩⟩
 ·exact h.elim
 ·exact h.elim
 ·show wpAny _ A (do holding [u] (bindName env x v);do holding [] (bindName env y u);pure ()) _ _ _
  exact Zzz (ZzO (wpAny_bindName (ZzC h (λ_ s₁ h₁=>Zzz (ZzO (wpAny_bindName (ZzC h₁ (λ_ _ q=>Zzi q) λ_ _ e=>e)))) λ_ _ e=>e)))
 ·exact h.elim
theorem HJ        (h:Stores C A env Q E [x,y,z] vals s):
 wpAny C.M A (assignInOrder ([x,y,z].map λn=>bindName env n) vals) Q E s:=by
 rcases vals with _ |⟨v,_ |⟨u,_ |⟨t,_ |⟨_,_⟩⟩⟩⟩
 ·exact h.elim
 ·exact h.elim
 ·exact h.elim
 ·show wpAny _ A (do holding [u,t] (bindName env x v);do holding [t] (bindName env y u);do holding [] (bindName env z t);pure ()) _ _ _
  exact Zzz (ZzO (wpAny_bindName (ZzC h (λ_ s₁ h₁=>Zzz (ZzO (wpAny_bindName (ZzC h₁ (λ_ s₂ h₂=>
   Zzz (ZzO (wpAny_bindName (ZzC h₂ (λ_ _ q=>Zzi q) λ_ _ e=>e)))) λ_ _ e=>e)))) λ_ _ e=>e)))
 ·exact h.elim
theorem Ex.fQ     {d1 d2:PV}(hf:Zt F.env)(hx:ZS F.env F.cs x)(hy:ZS F.env F.cs y)(hn:x≠y)(h:Ev C k F.env σ e (.tup [d1,d2]))
 (hs:swapsWithSole [.Tuple [.Name x p1,.Name y p2] n Vg] e pos.line F.env=pure false) (hw:ZyU [.Tuple [.Name x p1,.Name y p2] n Vg] e F.env=pure (some [x,y])):
 Ex C k F σ (exec (.Assign [.Tuple [.Name x p1,.Name y p2] n Vg] e pos) F.env) .Z2 ((σ.set x (.val d1)).set y (.val d2)):=by
 have:=Ex.tupS (elts:=[.Name x p1,.Name y p2]) (xs:=[x,y]) (ds:=[d1,d2]) hf (λz hz=>by simp at hz;rcases hz with rfl |rfl<;>assumption) (by simp) (by simp) rfl h (λA Q E vals s=>wQ) hs hw
 rw[<-VT hn];exact this
theorem Ex.fU     {d1 d2 d3:PV}(hf:Zt F.env)(hx:ZS F.env F.cs x)(hy:ZS F.env F.cs y)(hz:ZS F.env F.cs z)(hn:x≠y)(rR:x≠z)(rS:y≠z)(h:Ev C k F.env σ e (.tup [d1,d2,d3]))
 (hs:swapsWithSole [.Tuple [.Name x p1,.Name y p2,.Name z p3] n Vg] e pos.line F.env=pure false) (hw:ZyU [.Tuple [.Name x p1,.Name y p2,.Name z p3] n Vg] e F.env=pure (some [x,y,z])):
 Ex C k F σ (exec (.Assign [.Tuple [.Name x p1,.Name y p2,.Name z p3] n Vg] e pos) F.env) .Z2 (((σ.set x (.val d1)).set y (.val d2)).set z (.val d3)):=by
 have:=Ex.tupS (elts:=[.Name x p1,.Name y p2,.Name z p3]) (xs:=[x,y,z]) (ds:=[d1,d2,d3]) hf (λw hw=>by simp at hw;rcases hw with rfl |rfl |rfl<;>assumption) (by simp) (by simp) rfl h (λA Q E vals s=>HJ) hs hw
 have e:((σ.set x (.val d1)).set y (.val d2)).set z (.val d3)=((σ.set z (.val d3)).set y (.val d2)).set x (.val d1):=by
  rw[VT hn,VT rR,VT rS]
 rw[e];exact this
theorem Pb{vs:Array Zzy}  (hm:m<vs.size):vs.toList.eraseIdx m=(vs.eraseIdxIfInBounds m).toList:=by simp [Array.eraseIdxIfInBounds,hm]
theorem Ex.del{x:oO}      (hf:Zt F.env)(hx:σ x=some (.own ds))(h:Ev C k F.env σ i (.int j))(hj:seqIndex? j ds.length=some m)(eu:m<ds.length)(tf:Zxf j=true)(hsz:ds.length<=Zzx)
 (hn:(x==("__classdict__":oO))=false) (hd:(x==("__debug__":oO))=false):
 Ex C k F σ (exec (.Delete [.Subscript (.Name x p) i oY] pos) F.env) .Z2 (σ.set x (.own (ds.eraseIdx m))):=λN M A s Q E hr I q=>by
 refine CJ I hx λow a vs n f g e1 l e0 r len=>?_
 refine wpAny_Delete (wpAny_deleteEach_cons (wpAny_delete_Subscript (wpAny_Name (XS hf.kind l hn ?_) hd)))
 refine h A s _ _ _ hr I.G I.has I.Xv λiv s₁ k₁ r₁=>?_
 refine (Zf.mp r₁).elim λt z=>z ▸ ?_
 have x₁:=Zw k₁
 refine wpAny_delItem_plain ⟨n,x₁ _ _ e0⟩ tf (len ▸ hj) (λh' UU Kv=>wpAny_deleteEach_nil ?_) (len ▸ hsz)
 have m:=(I.keeps x₁).GI (ds':=ds.eraseIdx m) (.of_keeps k₁) hx (f.keeps x₁) g (l.ext x₁) e1 Kv UU ((congrArg (Zy _ _ _) (Pb (len ▸ eu))).mp (r.ext x₁).erase)
 exact q _ M _ trivial m.1 m.2
end
end Mine.Internal
end
section
open PySem PySem.W PyProof.Rows
open Sem (wp)
open PySem.SeqAt
open Builtin Builtin.Str
namespace Mine.Internal
section
variable {C:Cx}{k:Nat}{σ:Zx}{s s' s₁:Zzu}{h h':Zza}{env:Env}
theorem EN      (hy:(y.length==0)=false)(hsz:x.length<=Zzx)(PA:(partsBetween x (occurrences x y 0 x.length (x.length+1)) y.length).length<=Zzx)
 (q:∀(l:List (oO × Tok)) (tk:Nat),l.map (·.1)=ZyI x y->Q (.ref s.heap.objs.size) { s with toks:=tk,heap:=s.heap.push { cls:=.type "list",data:=.seq (strValues l).toArray } }):
 wpAny C.M A (call (.builtin "str.split") [.str x t,.str y u]) Q E s:=by
 cases h1:(decide (x.length<y.length)||decide (strKind x<strKind y))
 ·cases hf:(occurrences x y 0 x.length (x.length+1)).isEmpty
  ·refine call_meets Zwl (typeIs_str _ _ _) ZwS (ZwI _ _) (meets_str_split_sep x y t u h1 hy hf hsz PA) ?_
   show wants Q E _ { s with toks:=_,heap:=s.heap.push { cls:=.type "list",data:=.seq (strsFrom s.toks (partsBetween x (occurrences x y 0 x.length (x.length+1)) y.length)).toArray } }
   rw[strsFrom_eq]
   exact q (numbered s.toks _) _ ((numbered_texts _ _).trans ((if_neg (ne_true_of_eq_false h1)).trans (if_neg (ne_true_of_eq_false hf))).symm)
  ·exact call_meets Zwl (typeIs_str _ _ _) ZwS (ZwI _ _) (meets_str_split_not_found x y t u h1 hy hf)
    (q [(x,t)] s.toks ((if_neg (ne_true_of_eq_false h1)).trans (if_pos hf)).symm)
 ·exact call_meets Zwl (typeIs_str _ _ _) ZwS (ZwI _ _) (meets_str_split_cannot_occur x y t u h1)
   (q [(x,t)] s.toks (if_pos h1).symm)
theorem Wj.split     (ho:Ev C k env σ o (.str x))(ha:ZQ C k env σ args [.val (.str y)])(hy:(y.length==0)=false)(hsz:x.length<=Zzx)
 (PA:(partsBetween x (occurrences x y 0 x.length (x.length+1)) y.length).length<=Zzx) (YI:attributeBase o "split" env (eval o env)=eval o env) (ZN:(apos.endLine==pos.line)=true) (hl:args.length<29):
 Wj C k env σ (.Call (.Attribute o "split" apos) args [] pos) (.own ((ZyI x y).map .str)):=⟨rfl,λA s Q E P hr hg hh hb q=>by
 refine wpAny_Call_method YI (ha.few hl) ZN m_split.plain m_split.slot m_split.desc (ho A s _ _ P hr hg hh hb λv s₁ k₁ r₁=>?_)
 obtain⟨t,rfl⟩:=Zc.mp r₁
 have x₁:=Zw k₁
 refine⟨typeIs_str _ _ _,(λb e=>by cases e),?_⟩
 refine ZyJ ha.plain (ha.args hr (C.ext hg x₁) (hh.ext x₁) (hb.ext x₁) λvs s₂ k₂ r₂=>?_)
 obtain⟨v,rfl,rv⟩:=XK r₂
 obtain⟨u,rfl⟩:=Yj rv
 have x₂:=Zw k₂
 refine EN hy hsz PA λl tk hl=>?_
 have k₃:ZzK s₂ { s₂ with toks:=tk,heap:=s₂.heap.push { cls:=.type "list",data:=.seq (strValues l).toArray } }:=⟨_,tk,rfl,λ_ _ e=>Zzj _ e⟩
 refine q _ [s₂.heap.objs.size] _ (Zq (Zq k₁ k₂) k₃) (λb m=>?_) ⟨_,rfl,rfl,_,_,Zzl _ rfl,?_⟩
 ·simp at m;subst m
  exact ZD x₁ (ZD x₂ (Xz _))
 ·rw[<-hl]
  have:=Du (P:=λb=>P b/\b∉[s₂.heap.objs.size]) (h:=s₂.heap.push { cls:=.type "list",data:=.seq (strValues l).toArray }) (l:=l)
  rw[ZyD]
  exact this⟩
theorem Dk :∀{is:List Int} {vs:List Zzy},Zy P h (is.map .int) vs->∃l:List (Int × Tok),vs=l.map (λp=>.int p.1 p.2)/\l.map (·.1)=is
 |[],vs,r=>⟨[],r,rfl⟩
 |i::is,vs,r=>Zyh r λv t=>t.elim λrr t=>(Zf.mp t.2.1).elim λu e=>(Dk t.2.2).elim λl z=>⟨(i,u)::l,t.1.trans (e.symm ▸ z.1.symm ▸ rfl),congrArg (i::·) z.2⟩
theorem ints_list     (ha:listOf a=some (is.map .int))(r:YE P h a v):∃b xs,v=.ref b/\h.IsList b (intItems xs)/\xs.toList.map (·.1)=is:=by
 obtain⟨b,vs,n,rfl,_,g,rr⟩:=V7 ha r
 obtain⟨l,e,e'⟩:=Dk rr
 refine⟨b,l.toArray,rfl,?_,by simpa using e'⟩
 have:vs=intItems l.toArray:=by
  apply ZuB
  rw[e];simp [intItems]
 exact this ▸ ZL g
theorem gC  {is:List Int}(ha:listOf a=some (is.map .int)):ZG C k (.builtin "sum") [a] (.int is.sum):=λA s Q E P vs hr hg rr hb q=>by
 obtain⟨v,rfl,rv⟩:=XK rr
 obtain⟨b,xs,rfl,hL,e⟩:=ints_list ha rv
 refine sum_intListG hr.handled hL λh' tk t' hk=>q _ _ ⟨h',tk,rfl,hk⟩ (Zf.mpr ⟨t',?_⟩)
 rw[preSum_eq,Zxk (by simp),e]
end
end Mine.Internal
end
section
open PySem PySem.W PyProof.Rows
open Sem (wp)
open PySem.SeqAt
namespace Mine.Internal
theorem Rq:typeLookup (.type "bool") "__index__"=pure (some (.builtin "int.__index__")):=by rw[Zyn,ZzF];kernel_rfl
section
variable {M:Model}{A:ZzH}{E:Zzy->Zzu->Prop}{s:Zzu}
theorem GH   (h:Q (some (if b then 1 else 0)) s):wpAny M A (Zws (.bool b)) Q E s:=by
 unfold Zws
 refine Zzz (wpAny_specialOf (T:="bool") rfl Rq ?_)
 show wpAny M A (asIndex (.bool b)>>=_) Q E s
 refine Zzz (wpAny_of_eq (a:=if b then 1 else 0) rfl ?_)
 show wpAny M A (if (!Builtin.List.listFitsIndex (if b then 1 else 0))=true then _ else _) Q E s
 rw[if_neg (by cases b<;>decide)]
 exact Zzi h
end
section
variable {prog:ZxW}{w:Zzk}{A:ZzH}{E:Zzy->Zzu->Prop}{s:Zzu}
theorem FW      (hl:s.heap.IsList l items)
 (hx:items[if b then 1 else 0]?=some x) (h:Q x s):wpAny (model prog w) A (getItem (.ref l) (.bool b)) Q E s:=by
 obtain⟨o,ho,hc,ne,hd⟩:=id hl
 unfold getItem
 try with_reducible refine ZzO ?_
 first |refine Zzz (Zzi ?_) |skip
 refine Zzz (wpAny_sequenceKey hl.typeIs oD ?_)
 refine Zzz (wpAny_callSpecial?_slot (name:=ZzB "__getitem__") hl.typeIs slot_list_getitem
  (wpAny_call_entry slot_list_getitem hl.typeIs entry_list_getitem ?_ (args_list_getitem _ _)))
 show wpAny _ _ (Zws (.bool b)>>=_) _ _ s
 refine Zzz (GH ?_)
 cases b
 ·show wpAny _ _ ((seqItemAt l 0>>=λr=>pure (r.map (0,·)))>>=_) _ _ s
  refine Zzz (Zzz (wpAny_seqItemAt ho hd (Zzi ?_)))
  have J7:items[0]?=some x:=hx
  rw[J7]
  first
   |exact Zzz (Zzi (Zzi ⟨x,rfl,Zzi h⟩))
   |exact Zzi ⟨x,rfl,Zzi h⟩
 ·show wpAny _ _ ((seqItemAt l 1>>=λr=>pure (r.map (1,·)))>>=_) _ _ s
  refine Zzz (Zzz (wpAny_seqItemAt ho hd (Zzi ?_)))
  have J7:items[1]?=some x:=hx
  rw[J7]
  first
   |exact Zzz (Zzi (Zzi ⟨x,rfl,Zzi h⟩))
   |exact Zzi ⟨x,rfl,Zzi h⟩
end
section
variable {C:Cx}{k:Nat}{σ:Zx}{s s' s₁:Zzu}{h h':Zza}{env:Env}
theorem Ev.Pu      (ho:Kk C k env σ o ds)(hi:Ev C k env σ i (.bool b))(hd:ds[if b then 1 else 0]?=some d)
 (hs:∀a b,subscripted i false a b=operate [a,b] (getItem a b)):Ev C k env σ (.Subscript o i pos) d:=λA s Q E P hr hg hh hb q=>by
 refine Zvd (ho A s _ _ P hr hg hh hb λb' vs n s₁ k₁ g₁ r₁=>?_)
 have x₁:=Zw k₁
 refine hi A s₁ _ _ P hr (C.ext hg x₁) (hh.ext x₁) (hb.ext x₁) λv s₂ k₂ r₂=>?_
 rw[ZV] at r₂
 subst r₂
 have x₂:=Zw k₂
 obtain⟨v,hv,rv⟩:=(r₁.ext x₂).get hd
 have hl:=ZL (x₂ _ _ g₁)
 exact tail_any hl.typeIs slot_list_getitem.lookup (FW hl (by simpa using hv) (q v s₂ (Zq k₁ k₂) rv)) (hs _ _)
theorem Ev.my    (h:Ev C k env σ x (.int i)):Ev C k env σ (.UnaryOp .USub x pos) (.int (-i)):=λA s Q E P hr hg hh hb q=>by
 refine wpAny_UnaryOp (h A s _ _ P hr hg hh hb λv s₁ k₁ r₁=>?_)
 obtain⟨t,rfl⟩:=Zf.mp r₁
 exact PyProof.Rows.neg_int (q _ _ (Zq k₁ (ZZ _ _)) (Zf.mpr ⟨_,rfl⟩))
theorem Wj.add_list    (h₁:Kk C k env σ l a)(h₂:Kk C k env σ r b)(hsz:a.length+b.length<=Zzx):Wj C k env σ (.BinOp l .Add r pos) (.own (a++b)):=⟨rfl,λA s Q E P hr hg hh hb q=>by
 refine wpAny_BinOp (h₁ A s _ _ P hr hg hh hb λa1 v1 n1 s₁ k₁ g₁ r₁=>?_)
 have x₁:=Zw k₁
 refine h₂ A s₁ _ _ P hr (C.ext hg x₁) (hh.ext x₁) (hb.ext x₁) λa2 v2 n2 s₂ k₂ g₂ r₂=>?_
 have x₂:=Zw k₂
 have l1:v1.size=a.length:=by simpa using r₁.length
 have l2:v2.size=b.length:=by simpa using r₂.length
 refine PySem.P.add_list (x₂ _ _ g₁) g₂ (q _ [s₂.heap.objs.size] _ (Zq (Zq k₁ k₂) (X1 _ _)) (λc m=>?_) ⟨_,rfl,rfl,_,_,Zzl _ rfl,?_⟩) (by rw[l1,l2];exact hsz)
 ·simp at m;subst m;exact ZD x₁ (ZD x₂ (Xz _))
 ·rw[Zv1]
  refine ((r₁.ext x₂).append r₂).mono (λc o e p=>⟨p,λm=>?_⟩) λc o _ e=>Zzj _ e
  simp at m;subst m;rw[Xz] at e;cases e⟩
theorem Zy.of_get  :∀{ds:List PV} {vs:List Zzy},ds.length=vs.length->(∀(i:Nat) (d:PV) (v:Zzy),ds[i]?=some d->vs[i]?=some v->Rep P h d v)->Zy P h ds vs
 |[],[],_,_=>Zy.nil
 |[],_::_,e,_=>by simp at e
 |_::_,[],e,_=>by simp at e
 |d::ds,v::vs,e,H=>Zy.cons (H 0 d v rfl rfl) (Zy.of_get (by simpa using e) λi d' v' e1 e2=>H (i+1) d' v' (by simpa using e1) (by simpa using e2))
theorem Wj.list_range     (hf:Zt env)(hB:VX C env x (.type "list"))(hR:VX C env y (.type "range"))(ha:ZQ C k env σ args [.val (.int a),.val (.int b)])
 (hl:-(2 ^ 62)<=a) (UU:a<2 ^ 62) (hb:-(2 ^ 62)<=b) (WI:b<2 ^ 62) (WS:(b-a).toNat<=2 ^ 24) (hd:(x==("__debug__":oO))=false) (hd2:(y==("__debug__":oO))=false)
 (he:backTo My (Zyf [.Call (.Name y p2) args [] pos] env)=[(false,eval (.Call (.Name y p2) args [] pos) env)]):
 Wj C k env σ (.Call (.Name x p1) [.Call (.Name y p2) args [] pos] [] My) (.own (ZR a b)):=⟨rfl,λA s Q E P hr hg hh NG q=>by
 rw[Ym]
 refine Zzz (name_B hf hB hg ?_ hd)
 refine ZyE (by rw[he];rfl) ?_
 rw[he]
 refine Zxv (Zqb ?_)
 rw[Ym]
 refine Zzz (name_B hf hR hg ?_ hd2)
 refine ZyE ha.plain (ha.args hr hg hh NG λvs s₁ k₁ r₁=>?_)
 obtain⟨v,u,rfl,rv,ru⟩:=V0 r₁
 obtain⟨t,rfl⟩:=Wd rv
 obtain⟨t',rfl⟩:=Wd ru
 refine call_range_2 (Zqo ?_)
 have k₂:ZzK s₁ { s₁ with heap:=s₁.heap.push { cls:=.type "range",data:=.fields #[.int a t,.int b t',.int 1 s₁.toks] },toks:=s₁.toks+1 }:=⟨_,_,rfl,λ_ _ e=>Zzj _ e⟩
 have sz:=MC a b
 refine call_list_range (n:=(b-a).toNat) hr.handled (Zzl _ rfl) (small_one hl UU hb WI) sz WS λh' tk acc c' hk hS D3=>?_
 have x₁:=Zw k₁
 have x₂:=Zw k₂
 refine q _ [_] _ (Zq (Zq k₁ k₂) ⟨h',tk,rfl,hk⟩) (λc m=>?_) ⟨_,rfl,rfl,acc,c',hS,?_⟩
 ·simp at m;subst m;exact ZD x₁ (Xq (ZxT _))
 ·refine Zy.of_get (by simp [ZR,D3.1]) λi d v e1 e2=>?_
  obtain⟨t,rfl⟩:=D3.2 i v (by simpa using e2)
  have hi:i<(b-a).toNat:=by have:=(Zyt.mp e1).1;simpa [ZR] using this
  have e3:PV.int (a+(i:Int))=d:=by simpa [ZR,hi] using e1
  rw[<-e3]
  exact Zf.mpr ⟨t,by simp⟩⟩
end
section
variable {C:Cx}{k:Nat}{σ:Zx}{s s' s₁:Zzu}{h h':Zza}{env:Env}
def Ji(C:Cx)(k:Nat)(env:Env)(σ:Zx)(vs:List Zzw)(b:Bool):Prop:=
 ∀A s Q E P,ZH k A->C.G s.heap->Wq P env σ s.heap->ZM P s.heap->(∀s',ZzK s s'->Q b s')->wpAny C.M A (allTrue .Or vs env) Q E s
theorem Ji.nil:Ji C k env σ [] false:=λA s Q E P hr hg hh hb q=>wpAny_allTrue_Or_nil (q s (Z4 s))
theorem Ji.cons    (ha:YV C k env σ e a)(hs:a=false->Ji C k env σ es b):Ji C k env σ (e::es) (a||b):=λA s Q E P hr hg hh hb q=>by
 refine wpAny_allTrue_Or_cons (ha A s _ _ P hr hg hh hb λs₁ k₁=>?_)
 have x₁:=Zw k₁
 cases a with
 |true=>exact q s₁ k₁
 |false=>exact hs rfl A s₁ _ _ P hr (C.ext hg x₁) (hh.ext x₁) (hb.ext x₁) λs' k'=>q s' (Zq k₁ k')
theorem YV.or    (h:Ji C k env σ vs b):YV C k env σ (.BoolOp .Or vs pos) b:=λA s Q E P hr hg hh hb q=>wpAny_isTrue_BoolOp (h A s Q E P hr hg hh hb q)
theorem Sy   {G:Zzy->Zzy->Sem Zzy}      (h₁:Z1 C k env σ l a)(h₂:Z1 C k env σ r b)(hr:ZH k A)(hg:C.G s.heap)(hh:Wq P env σ s.heap)(hb:ZM P s.heap)
 (q:∀va vb s₂,ZzK s s₂->Rep (λ_=>True) s₂.heap a.pv va->Rep (λ_=>True) s₂.heap b.pv vb->wpAny C.M A (G va vb) Q E s₂):
 wpAny C.M A (eval l env) (λva s₁=>wpAny C.M A (eval r env) (λvb s₂=>wpAny C.M A (G va vb) Q E s₂) E s₁) E s:=by
 refine h₁ A s _ _ P hr hg hh hb λva s₁ k₁ r₁=>?_
 have x₁:=Zw k₁
 refine h₂ A s₁ _ _ P hr (C.ext hg x₁) (hh.ext x₁) (hb.ext x₁) λvb s₂ k₂ r₂=>?_
 exact q va vb s₂ (Zq k₁ k₂) (r₁.pv.ext (Zw k₂)) r₂.pv
theorem YV.qD   {a b:AV}(h₁:Z1 C k env σ l a)(h₂:Z1 C k env σ r b)(Z9:alike a.pv b.pv=true)(hd:dep a.pv<=8)(hm:Zy3 .Eq r=false):YV C k env σ (.Compare l [.Eq] [r] pos) (eqv a.pv b.pv):=λA s Q E P hr hg hh hb q=>
 wpAny_isTrue_Compare1 (Sy (G:=λa b=>compareOp .Eq a b) (Q:=λc s₃=>wpAny C.M A (truthy c) Q E s₃) h₁ h₂ hr hg hh hb λva vb s₂ k₂ ra rb=>
  HU ra rb Z9 (hr.low (oP hd oD)) _ _ _ _ (wpAny_truthy_bool (q s₂ k₂))) hm
theorem YV.uS   {a b:AV}(h₁:Z1 C k env σ l a)(h₂:Z1 C k env σ r b)(Z9:alike a.pv b.pv=true)(hd:dep a.pv<=8)(hm:Zy3 .NotEq r=false):YV C k env σ (.Compare l [.NotEq] [r] pos) (!eqv a.pv b.pv):=λA s Q E P hr hg hh hb q=>
 wpAny_isTrue_Compare1 (Sy (G:=λa b=>compareOp .NotEq a b) (Q:=λc s₃=>wpAny C.M A (truthy c) Q E s₃) h₁ h₂ hr hg hh hb λva vb s₂ k₂ ra rb=>
  A6 ra rb Z9 (hr.low (oP hd oD)) _ _ _ _ (wpAny_truthy_bool (q s₂ k₂))) hm
theorem Ev.qD   {a b:AV}(h₁:Z1 C k env σ l a)(h₂:Z1 C k env σ r b)(Z9:alike a.pv b.pv=true)(hd:dep a.pv<=8)(hm:Zy3 .Eq r=false):Ev C k env σ (.Compare l [.Eq] [r] pos) (.bool (eqv a.pv b.pv)):=λA s Q E P hr hg hh hb q=>
 wpAny_Compare1 (Sy (G:=λa b=>compareOp .Eq a b) (Q:=Q) h₁ h₂ hr hg hh hb λva vb s₂ k₂ ra rb=>
  HU ra rb Z9 (hr.low (oP hd oD)) _ _ _ _ (q _ s₂ k₂ (ZV.mpr rfl))) hm
theorem Ev.uS   {a b:AV}(h₁:Z1 C k env σ l a)(h₂:Z1 C k env σ r b)(Z9:alike a.pv b.pv=true)(hd:dep a.pv<=8)(hm:Zy3 .NotEq r=false):Ev C k env σ (.Compare l [.NotEq] [r] pos) (.bool (!eqv a.pv b.pv)):=λA s Q E P hr hg hh hb q=>
 wpAny_Compare1 (Sy (G:=λa b=>compareOp .NotEq a b) (Q:=Q) h₁ h₂ hr hg hh hb λva vb s₂ k₂ ra rb=>
  A6 ra rb Z9 (hr.low (oP hd oD)) _ _ _ _ (q _ s₂ k₂ (ZV.mpr rfl))) hm
end
section
variable {C:Cx}{k:Nat}{σ:Zx}{s s' s₁:Zzu}{h h':Zza}{env:Env}
theorem ZA.notIn_str :ZA C k (compareOp .NotIn) (.str b) (.str a) (.bool (!Txt.contains a b)):=λA s Q E P va vb hr hg ra rb hb q=>by
 obtain⟨t,rfl⟩:=Zc.mp ra;obtain⟨u,rfl⟩:=Zc.mp rb
 exact PyProof.Rows.notIn_str (q _ _ (Z4 s) (ZV.mpr rfl))
end
noncomputable def AV.ZC:AV->Option PV
 |.val d=>some d
 |_=>none
noncomputable def ZF(lo hi:Int)(i:Int):Bool:=decide (lo<=i)&&decide (i<hi)
noncomputable def XI(a:AV):Option Int:=match a with
 |.val d=>(match d with |.int i=>some i |_=>none)
 |_=>none
noncomputable def Yw(a:AV):Option oO:=match a with
 |.val d=>(match d with |.str i=>some i |_=>none)
 |_=>none
noncomputable def CZ(a:AV):Option (List PV):=match a with
 |.val d=>(match d with |.tup i=>some i |_=>none)
 |_=>none
noncomputable def S9(a:AV):Option (List PV):=match a with
 |.own l=>some l
 |_=>none
theorem Lp   (h:S9 a=some l):a=.own l:=by
 cases a with
 |own m=>exact congrArg AV.own (Zzv h)
 |_=>exact nS h
theorem Yo{P:AV->Prop}   (h:XI a=some i)(q:P (.val (.int i))):P a:=by
 cases a with
 | val d=>cases d with
   |int j=>exact Zzv h ▸ q
   |_=>exact nS h
 |_=>exact nS h
theorem Vt{P:AV->Prop}   (h:Yw a=some i)(q:P (.val (.str i))):P a:=by
 cases a with
 | val d=>cases d with
   |str j=>exact Zzv h ▸ q
   |_=>exact nS h
 |_=>exact nS h
theorem DH{P:AV->Prop}   (h:CZ a=some i)(q:P (.val (.tup i))):P a:=by
 cases a with
 | val d=>cases d with
   |tup j=>exact Zzv h ▸ q
   |_=>exact nS h
 |_=>exact nS h
theorem Y7{a:AV}  (h:Yw a=some x):a=.val (.str x):=Vt (P:=λa=>a=.val (.str x)) h rfl
theorem DT{P:AV->Prop}   (h:a.ZC=some d)(q:P (.val d)):P a:=by
 cases a with
 |val d=>exact Zzv h ▸ q
 |_=>exact nS h
def Qw(a b:AV)(f:Int->Int->Option PV):Option PV:=(XI a).bind λx=>(XI b).bind λy=>f x y
def YS(op:Zuq)(a b:AV):Option PV:=match op with
 |.Add=>Ys (Qw a b λx y=>some (.int (x+y))) (Ys ((Yw a).bind λx=>(Yw b).bind λy=>if x.length+y.length<=Zzx then some (.str (x++y)) else none)
  ((listOf a).bind λl=>(listOf b).bind λm=>if l.length+m.length<=Zzx then some (.lst (l++m)) else none))
 |.Sub=>Qw a b λx y=>some (.int (x-y))
 |.Mult=>Qw a b λx y=>if Zw1 x<=64 then some (.int (x*y)) else none
 |.FloorDiv=>Qw a b λx y=>if y≠0/\Zx0 x y=false then some (.int (x.fdiv y)) else none
 |.Mod=>Qw a b λx y=>if y≠0 then some (.int (x.fmod y)) else none
 |.Pow=>Qw a b λx y=>if 0<=y/\(Zw1 x:Int)*y<=2 ^ 27 then some (.int (x ^ y.toNat)) else none
 |_=>none
def C4(a b:AV)(f:Int->Int->Bool):Option Bool:=(XI a).bind λx=>(XI b).map λy=>f x y
def qy(x y:PV)(f:Bool->Bool):Option Bool:=match y with
 |.none=>if Km x then some (f (eqv x .none)) else none
 |.bool y=>(match x with |.bool x=>some (f (x==y)) |_=>none)
 |_=>none
def qx(a b:AV)(f:Bool->Bool):Option Bool:=(Yw a).bind λx=>(Yw b).map λy=>f (ZyY y x)
def ZE(op:CmpOp)(a b:AV):Option Bool:=
 match op with
 |.Lt=>C4 a b λx y=>decide (x<y)
 |.LtE=>C4 a b λx y=>decide (x<=y)
 |.Gt=>C4 a b λx y=>decide (y<x)
 |.GtE=>C4 a b λx y=>decide (y<=x)
 |.Eq=>if alike a.pv b.pv=true/\dep a.pv<=8 then some (eqv a.pv b.pv) else none
 |.NotEq=>if alike a.pv b.pv=true/\dep a.pv<=8 then some (!eqv a.pv b.pv) else none
 |.Is=>a.ZC.bind λx=>b.ZC.bind λy=>qy x y id
 |.IsNot=>a.ZC.bind λx=>b.ZC.bind λy=>qy x y not
 |.In=>qx a b id
 |.NotIn=>qx a b not
noncomputable def oc{γ β:Type}(o:Option γ)(k:γ->β)(d:β):β:=@Zu7 γ (λ_=>β) o d k
theorem JZ  {P:Prop}    (h:oc o k d=r)(q:∀a,o=some a->k a=r->P)(q2:d=r->P):P:=by
 cases o with
 |none=>exact q2 h
 |some a=>exact q a rfl h
def ZO(a:AV)(i:PV):Option PV:=
 match i with
 |.int j=>oc (CZ a) (λds=>if ZF 0 (2 ^ 63) j then ds[j.toNat]? else none) (oc (Yw a) (λx=>if ZF (-(2 ^ 63)) (2 ^ 63) j then (seqIndex? j x.length).bind λm=>x.cps[m]?.map λc=>.str ⟨#[c]⟩ else none)
  ((listOf a).bind λds=>if ZF 0 (2 ^ 63) j then ds[j.toNat]? else if ZF (-(2 ^ 63)) 0 j&&decide (-(ds.length:Int)<=j) then ds[(j+ds.length).toNat]? else none))
 |.bool b=>(listOf a).bind λds=>ds[if b then 1 else 0]?
 |_=>none
def YL(a:AV)(lo hi:Option Int):Option PV:=oc (Yw a) (λx=>if x.length<=Zzx then some (.str (U4 lo hi x)) else none)
 ((listOf a).bind λds=>if ds.length<=Zzx then some (.lst (Yk lo hi ds)) else none)
noncomputable def C3(strict:Bool)(a:AV):Option (List PV):=match a with
 |.val d=>(match d with |.lst ds=>some ds |.str t=>some (t.cps.toList.map λc=>.str ⟨#[c]⟩) |_=>none)
 |.own ds=>if strict then none else some ds
 |_=>none
structure Sg where
 cl:oO->List AV->Option PV
 mt:oO->AV->List AV->Option PV
 gv:oO->Option PV
 xe:Zz0->Zx->Zzw->Option AV
 xi:Zz0->Zx->Bool->Zzw->Zzw->Option (List PV)
noncomputable def Wg(f:PV->Option (Option PV)):List PV->Option (List PV)
 |[]=>some []
 |d::r=>(f d).bind λo=>o.elim (Wg f r) λy=>(Wg f r).map (y::·)
noncomputable def XC(scope sc:Zz0):Zz0:={ scope with names:=scope.names.map λ(n,k)=>if (k==.free&&sc.kind==.function&&sc.names.lookup n==some .cell) then (n,.cell) else (n,k) }
def Qf(scope:Zz0)(Zu:Zzw):Bool:=
 scope.kind==.function&&scope.names.all (λx=>x.2 != .local||scope.names.lookup x.1==some .local)&&(Z5 Zu).all (λx=>scope.names.lookup x==some .local||scope.names.contains (x,.cell))&&
  scope.names.all (λx=>x.2 != .free||scope.names.lookup x.1==some .free)&&scope.names.all (λx=>x.2 != .cell||scope.names.lookup x.1==some .cell)&&decide (Z5 Zu≠[])
noncomputable def Vb(scope sc:Zz0)(σ:Zx):Bool:=scope.names.all λx=>x.2 != .free||((σ x.1).isSome&&(sc.names.lookup x.1==some .cell||sc.names.lookup x.1==some .free))
def XF(e:Zzw):Bool:=tW e (λ_ _ _=>false) true
def WM(e:Zzw):Bool:=kn e (λ_ _ _ _=>false) true
def isName(e:Zzw):Bool:=Wr e (λ_ _=>true) false
def notStar(e:Zzw):Bool:=cw e (λ_ _=>false) true
def VS(e:Zzw):Bool:=Fu e (λf as _ _=>dc as (λ_ _=>true) (Wr f (λ_ _=>false) true)) true
def JU(e:Zzw):Bool:=pN e (λop _ _=>match op with |.Not=>false |_=>true) (qM e (λ_ _ _=>false) (tV e (λ_ _ _ _=>false) (Ow e (λ_ _ _ _=>false) true)))
def CV:PV->Option Bool
 |.str x=>if x.length<=Zzx then some (x.length != 0) else none
 |d=>xT d
noncomputable def Yl(x:oO):Bool:=!(x==("__debug__":oO))&&!(x==("__classdict__":oO))
noncomputable def ZI(sc:Zz0)(x:oO):Bool:=sc.names.lookup x==some .globalImplicit
def CQ(as:List AV):Option (List PV):=oc (WT as XI) (λb=>if ZF (-(2 ^ 62)) (2 ^ 62) b then some (ZR 0 b) else none)
 (IG as λa b=>(XI a).bind λa=>(XI b).bind λb=>if ZF (-(2 ^ 62)) (2 ^ 62) a&&ZF (-(2 ^ 62)) (2 ^ 62) b then some (ZR a b) else none)
def G4(as:List AV):Option AV:=
 IG as λa b=>(XI a).bind λa=>(XI b).bind λb=>if ZF (-(2 ^ 62)) (2 ^ 62) a&&ZF (-(2 ^ 62)) (2 ^ 62) b&&decide ((b-a).toNat<=2 ^ 24) then some (.val (.lst (ZR a b))) else none
def zip2(strict:Bool)(as:List AV):Option (List PV):=
 IG as λa b=>(listOf a).bind λl=>(listOf b).bind λm=>if strict&&(a.ZC.isNone||b.ZC.isNone) then none else some (VD l m)
noncomputable def Fz(d:PV):Bool:=(match d with |.tup l=>(match l with |[_,_]=>true |_=>false) |_=>false)
section
variable (S:Sg)(fe:Zz0->Zx->Zzw->Option AV)(fs:Zz0->Zx->List Zzw->Option (List AV))(fp:Zz0->Zx->Option Zzw->Option (Option Int))(fb:Zz0->Zx->Zzw->Option Bool)
 (ft:Zz0->Zx->Bool->Zzw->Zzw->Option (List PV)) (fu:Zz0->Zx->Zzw->List Zzw->Zzw->PV->Option (Option PV)) (sc:Zz0) (σ:Zx)
def bh(x:oO):Option AV:=if Yl x then (if ZI sc x then (S.gv x).map .val else σ x) else none
noncomputable def jz(c:Const)(d:Option AV):Option AV:=match c with
 |.int i=>some (.val (.int i))
 |.str x=>some (.val (.str x))
 |.none=>some (.val .none)
 |.bool b=>some (.val (.bool b))
 |_=>d
def nP(l:Zzw)(op:Zuq)(r:Zzw):Option AV:=(fe sc σ l).bind λa=>(fe sc σ r).bind λb=>(YS op a b).map .val
def bl(op:UnaryOp)(x:Zzw)(d:Option AV):Option AV:=match op with
 |.USub=>(fe sc σ x).bind λa=>(XI a).map λi=>.val (.int (-i))
 |_=>d
def TZ(l:Zzw)(op:CmpOp)(r:Zzw):Option Bool:=if Zy3 op r then none else (fe sc σ l).bind λa=>(fe sc σ r).bind λb=>ZE op a b
noncomputable def sd(t a b:Zzw):Option AV:=(fb sc σ t).bind λc=>(fe sc σ (if c then a else b)).bind λx=>x.ZC.map .val
def qO(o i:Zzw)(d:Option AV):Option AV:=kn i (λlo hi st _=>oc st (λ_=>none) (if isName o then (fe sc σ o).bind λa=>(fp sc σ lo).bind λl=>(fp sc σ hi).bind λu=>(YL a l u).map .val else d))
 (Ys ((fe sc σ o).bind λa=>(fe sc σ i).bind λj=>j.ZC.bind λj=>(ZO a j).map .val) d)
def Po(f:List PV->PV)(es:List Zzw):Option AV:=(fs sc σ es).bind λas=>(as.mapM AV.ZC).bind λds=>if ds.length<=Zzx then some (.val (f ds)) else none
def RN (x:oO) (args:List Zzw) (pl:Option AV):Option AV:=if Yl x&&ZI sc x&&decide (args.length<29) then
    d1 args (λe=>Hn e (λy bz=>if x==("list":oO)&&y==("range":oO)&&ZI sc y then (fs sc σ bz).bind G4 else pl) pl) pl
 else none
def ya(f:Zzw)(args:List Zzw)(pos:Pos)(d:Option AV):Option AV:=Wr f (λx _=>Ys (RN fs sc σ x args ((fs sc σ args).bind λas=>(S.cl x as).map .val)) d)
 (C8 f (λo name apos=>if apos.endLine==pos.line&&decide (args.length<29)&&VS o then (fe sc σ o).bind λa=>(fs sc σ args).bind λas=>(S.mt name a as).map .val else none) d)
def yb (elt Zu iter:Zzw) (ifs:List Zzw) (scope:Zz0):Option AV:=if Qf scope Zu&&Vb scope sc σ&&XF iter then
    (ft sc σ false Zu iter).bind λds=>if ds.length<=Zzx then
     match Wg (λd=>fu (XC scope sc) (Ut scope σ) Zu ifs elt d) ds with
     |some ys=>some (.val (.lst ys))
     |none=>(Wg (λd=>fu (XC scope sc) (D7 scope σ) Zu ifs elt d) ds).bind λys=>if ys.all YY then some (.val (.lst ys)) else none
    else none
 else none
def si(elt:Zzw)(gens:List ZxJ)(scope:Zz0)(d:Option AV):Option AV:=d1 gens (λg=>if g.is_async=0 then yb ft fu sc σ elt g.target g.iter g.ifs scope else d) d
def mh(e:Zzw):Option AV:=@Zvk (λ_=>Option AV) e (λ_ _ _=>(S.xe sc σ e)) (λ_ _ _=>(S.xe sc σ e)) (λl op r _=>Ys (nP fe sc σ l op r) (S.xe sc σ e)) (λop x _=>bl fe sc σ op x (S.xe sc σ e)) (λ_ _ _ _=>(S.xe sc σ e)) (λt a b _=>sd fe fb sc σ t a b) (λ_ _ _=>(S.xe sc σ e)) (λ_ _ _=>(S.xe sc σ e)) (λelt gens scope _=>si ft fu sc σ elt gens scope (S.xe sc σ e)) (λ_ _ _ _=>(S.xe sc σ e)) (λ_ _ _ _ _=>(S.xe sc σ e)) (λ_ _ _ _=>(S.xe sc σ e)) (λ_ _=>(S.xe sc σ e)) (λ_ _=>(S.xe sc σ e)) (λ_ _=>(S.xe sc σ e)) (λl ops rs _=>d1 ops (λop=>d1 rs (λr=>(TZ fe sc σ l op r).map λc=>.val (.bool c)) (S.xe sc σ e)) (S.xe sc σ e)) (λf args WZ pos=>d0 WZ (ya S fe fs sc σ f args pos (S.xe sc σ e)) (S.xe sc σ e)) (λ_ _ _ _=>(S.xe sc σ e)) (λ_ _=>(S.xe sc σ e)) (λc _ _=>jz c (S.xe sc σ e)) (λ_ _ _=>(S.xe sc σ e)) (λo i _=>qO fe fp sc σ o i (S.xe sc σ e)) (λ_ _=>(S.xe sc σ e)) (λx _=>bh S sc σ x) (λes _=>Po fs sc σ .lst es) (λes _ _=>Po fs sc σ .tup es) (λ_ _ _ _=>(S.xe sc σ e))
def jh(fa:Zz0->Zx->Bool->List Zzw->Option Bool)(e:Zzw):Option Bool:=
 Ow e (λl ops rs _=>d1 ops (λop=>d1 rs (λr=>TZ fe sc σ l op r) none) none) (qM e (λop vs _=>fa sc σ (match op with |.And=>true |.Or=>false) vs)
  (if JU e then (fe sc σ e).bind λa=>a.ZC.bind CV else none))
def jl(f1:Zz0->Zx->Bool->Zzw->Option (List PV))(f2:Zz0->Zx->Zzw->Option (List PV))(strict:Bool)(Zu e:Zzw):Option (List PV):=
 Wr Zu (λ_ _=>Hn e (λx args=>if x==("range":oO) then (if ZI sc x then (fs sc σ args).bind CQ else none) else f1 sc σ strict e) (f1 sc σ strict e))
  (KQ Zu (λes _ _=>NL es (λ_ _=>Hn e (λx args=>if x==("zip":oO) then (if ZI sc x then (fs sc σ args).bind (zip2 strict) else none) else f2 sc σ e) (f2 sc σ e)) none) none)
def RS(Zu:Zzw)(ifs:List Zzw)(elt:Zzw)(d:PV):Option (Option PV):=(partsOf Zu d).bind λps=>
 match ifs with
 |[]=>(fe sc (Zd σ (Z5 Zu) ps) elt).bind λy=>y.ZC.map some
 |[c]=>(fb sc (Zd σ (Z5 Zu) ps) c).bind λb=>if b then (fe sc (Zd σ (Z5 Zu) ps) elt).bind λy=>y.ZC.map some else some none
 |_=>none
end
mutual
noncomputable def ev(S:Sg):Nat->Zz0->Zx->Zzw->Option AV
 |0,_,_,_=>none
 |n+1,sc,σ,e=>mh S (ev S n) (Y3 S n) (FR S n) (YW S n) (Y4 S n) (XR S n) sc σ e
noncomputable def Y3(S:Sg):Nat->Zz0->Zx->List Zzw->Option (List AV)
 |0,_,_,_=>none
 | n+1,sc,σ,es=>match es with
   |[]=>some []
   |e::r=>if notStar e then (ev S n sc σ e).bind λa=>(Y3 S n sc σ r).map (a::·) else none
noncomputable def FR(S:Sg):Nat->Zz0->Zx->Option Zzw->Option (Option Int)
 |0,_,_,_=>none
 | n+1,sc,σ,e=>match e with
   |none=>some none
   |some e=>(ev S n sc σ e).bind λa=>(XI a).map some
noncomputable def YW(S:Sg):Nat->Zz0->Zx->Zzw->Option Bool
 |0,_,_,_=>none
 |n+1,sc,σ,e=>jh (ev S n) sc σ (VH S n) e
noncomputable def VH(S:Sg):Nat->Zz0->Zx->Bool->List Zzw->Option Bool
 |0,_,_,_,_=>none
 | n+1,sc,σ,all,vs=>match vs with
   |[]=>some all
   |e::r=>(YW S n sc σ e).bind λb=>if b==all then VH S n sc σ all r else some b
noncomputable def Y4(S:Sg):Nat->Zz0->Zx->Bool->Zzw->Zzw->Option (List PV)
 |0,_,_,_,_,_=>none
 |n+1,sc,σ,strict,Zu,e=>Ys (jl (Y3 S n) sc σ (Up S n) (Fv S n) strict Zu e) (S.xi sc σ strict Zu e)
noncomputable def Up(S:Sg):Nat->Zz0->Zx->Bool->Zzw->Option (List PV)
 |0,_,_,_,_=>none
 |n+1,sc,σ,strict,e=>(ev S n sc σ e).bind (C3 strict)
noncomputable def Fv(S:Sg):Nat->Zz0->Zx->Zzw->Option (List PV)
 |0,_,_,_=>none
 | n+1,sc,σ,e=>(ev S n sc σ e).bind λa=>a.ZC.bind λd=>match d with
   |.lst ds=>if ds.all Fz then some ds else none
   |_=>none
noncomputable def XR(S:Sg):Nat->Zz0->Zx->Zzw->List Zzw->Zzw->PV->Option (Option PV)
 |0,_,_,_,_,_,_=>none
 |n+1,sc,σ,Zu,ifs,elt,d=>RS (ev S n) (YW S n) sc σ Zu ifs elt d
end
structure Xy(C:Cx)(k:Nat)(S:Sg):Prop where
 cl:∀x as d,S.cl x as=some d->∀env σ p pos args,Zt env->env.kindOf x=some .globalImplicit->ZQ C k env σ args as->(x==("__debug__":oO))=false->args.length<29->Ev C k env σ (.Call (.Name x p) args [] pos) d
 mt:∀name a as d,S.mt name a as=some d->∀env σ o apos pos args,Z1 C k env σ o a->ZQ C k env σ args as->attributeBase o name env (eval o env)=eval o env->(apos.endLine==pos.line)=true->args.length<29->
  Ev C k env σ (.Call (.Attribute o name apos) args [] pos) d
 gv:∀x d,S.gv x=some d->∃v,C.mg x=some v/\∀P h,Rep P h d v
 xe:∀env σ e a,Zt env->S.xe env.scope σ e=some a->Z1 C k env σ e a
 xi:∀env σ strict Zu e ds,Zt env->S.xi env.scope σ strict Zu e=some ds->Yd C k env σ strict Zu e ds
 bi:∀x,x=("list":oO)∨x=("range":oO)∨x=("zip":oO)->C.mg x=none
 list:C.mb "list"=some (.type "list")
 range:C.mb "range"=some (.type "range")
 zip:C.mb "zip"=some (.type "zip")
section
variable {C:Cx}{k:Nat}{σ:Zx}{s s' s₁:Zzu}{h h':Zza}{env:Env}
theorem Z1.name    (hf:Zt env)(hx:σ x=some a)(hd:(x==("__debug__":oO))=false)(hn:(x==("__classdict__":oO))=false):Z1 C k env σ (.Name x pos) a:=λA s Q E P hr hg hh hb q=>by
 have H:=hh x _ hx
 cases a with
 |val d=>obtain⟨v,l,r⟩:=H;exact wpAny_Name (XS hf.kind l hn (q v s (Z4 s) r)) hd
 |own ds=>obtain⟨b,vs,n,l,e,r⟩:=H;exact wpAny_Name (XS hf.kind l hn (q _ s (Z4 s) ⟨b,vs,n,rfl,e,r⟩)) hd
 |tab c ds=>obtain⟨a,d,b,vs,l,T,r⟩:=H;exact wpAny_Name (XS hf.kind l hn (q _ s (Z4 s) ⟨a,d,b,vs,rfl,T,r⟩)) hd
theorem Yz  (h:Yl x=true):(x==("__debug__":oO))=false/\(x==("__classdict__":oO))=false:=by
 simp only[Yl,ZzQ,Zyj] at h;exact h
theorem Z1.ev    (h:Z1 C k env σ e a)(hd:a.ZC=some d):Ev C k env σ e d:=by
 cases a with
 |val _=>cases hd;exact h
 |own _=>exact nS hd
 |tab _ _=>exact nS hd
theorem Z1.l    (h:Z1 C k env σ e a)(hd:listOf a=some ds):Kk C k env σ e ds:=
 AY hd (λq=>Kk.of (q ▸ h:Z1 C k env σ e (.val (.lst ds)))) λq A s Q E P hr hg hh hb r=>(q ▸ h:Z1 C k env σ e (.own ds)) A s Q E P hr hg hh hb λv s' ks z=>Zyh z λa z=>z.elim λvs z=>z.elim λn z=>z.1 ▸ r a vs n s' ks z.2.1 z.2.2
theorem QT       (h₁:Z1 C k env σ l a)(h₂:Z1 C k env σ r b)(h:Qw a b f=some c)(t:∀x y,f x y=some c->ZA C k (binaryOp op) (.int x) (.int y) c):Ev C k env σ (.BinOp l op r pos) c:=
 Zv h λx e1 h=>Zv h λy e2 h=>Ev.binop (Yo (P:=λa=>Z1 C k env σ l a->Ev C k env σ l (.int x)) e1 id h₁) (Yo (P:=λb=>Z1 C k env σ r b->Ev C k env σ r (.int y)) e2 id h₂) (t x y h)
theorem z9      (h₁:Z1 C k env σ l a)(h₂:Z1 C k env σ r b)(h:YS op a b=some c):Ev C k env σ (.BinOp l op r pos) c:=by
 cases op with
 | Add=>
   exact Xr h (λh=>QT h₁ h₂ h λx y=>ZW ZA.add_int) λh=>Xr h
    (λh=>Zv h λx e1 h=>Zv h λy e2 h=>Zl h λhc h=>Ev.binop (Vt (P:=λa=>Z1 C k env σ l a->Ev C k env σ l (.str x)) e1 id h₁) (Vt (P:=λb=>Z1 C k env σ r b->Ev C k env σ r (.str y)) e2 id h₂) (ZW (ZA.add_str hc) h))
    (λh=>Zv h λm e1 h=>Zv h λm' e2 h=>Zl h λhc h=>ZW (P:=λc=>Ev C k env σ (.BinOp l .Add r pos) c) (Wj.add_list (h₁.l e1) (h₂.l e2) hc).ev h)
 |Sub=>exact QT h₁ h₂ h λx y=>ZW ZA.sub_int
 |Mult=>exact QT h₁ h₂ h λx y h=>Zl h λhc h=>ZW (ZA.mul_int (IntMulOk.of_left hc)) h
 |FloorDiv=>exact QT h₁ h₂ h λx y h=>Zl h λhc h=>ZW (ZA.ug hc.1 hc.2) h
 |Mod=>exact QT h₁ h₂ h λx y h=>Zl h λhc h=>ZW (ZA.mod_int hc) h
 |Pow=>exact QT h₁ h₂ h λx y h=>Zl h λhc h=>ZW (ZA.pow_int hc.1 hc.2) h
 |_=>exact nS h
section
variable {l r:Zzw}{op:CmpOp}{pos:Pos}{a b:AV}{c:Bool}
def JP(C:Cx)(k:Nat)(env:Env)(σ:Zx)(l r:Zzw)(op:CmpOp)(pos:Pos)(c:Bool):Prop:=YV C k env σ (.Compare l [op] [r] pos) c/\Ev C k env σ (.Compare l [op] [r] pos) (.bool c)
theorem JP.two  (h₁:Ev C k env σ l x)(h₂:Ev C k env σ r y)(t:ZA C k (compareOp op) x y (.bool c))(hm:Zy3 op r=false):JP C k env σ l r op pos c:=⟨YV.cmp h₁ h₂ t hm,Ev.cmp h₁ h₂ t hm⟩
theorem JP.ints  (h₁:Z1 C k env σ l a)(h₂:Z1 C k env σ r b)(h:C4 a b f=some c)(t:∀x y,ZA C k (compareOp op) (.int x) (.int y) (.bool (f x y)))(hm:Zy3 op r=false):JP C k env σ l r op pos c:=
 Zv h λx e1 h=>Y2 h λy e2 e=>.two (Yo (P:=λa=>Z1 C k env σ l a->Ev C k env σ l (.int x)) e1 id h₁) (Yo (P:=λb=>Z1 C k env σ r b->Ev C k env σ r (.int y)) e2 id h₂) (e ▸ t x y) hm
theorem JP.is  (h₁:Z1 C k env σ l a)(h₂:Z1 C k env σ r b)(h:(a.ZC.bind λx=>b.ZC.bind λy=>qy x y f)=some c)(t1:∀x,Km x=true->ZA C k (compareOp op) x .none (.bool (f (eqv x .none))))(t2:∀x y,ZA C k (compareOp op) (.bool x) (.bool y) (.bool (f (x==y))))(hm:Zy3 op r=false):JP C k env σ l r op pos c:=
 Zv h λx e1 h=>Zv h λy e2 h=>by
  have h₁:=h₁.ev e1;have h₂:=h₂.ev e2
  cases y with
  |none=>exact Zl h λhp h=>.two h₁ h₂ (Zzv h ▸ t1 x hp) hm
  | bool y=>cases x with
    |bool x=>exact .two h₁ h₂ (Zzv h ▸ t2 x y) hm
    |_=>exact nS h
  |_=>exact nS h
theorem JP.aK{f:Bool->Bool}(h₁:Z1 C k env σ l a)(h₂:Z1 C k env σ r b)(h:qx a b f=some c)(t1:∀x y,ZA C k (compareOp op) (.str x) (.str y) (.bool (f (ZyY y x))))
 (hm:Zy3 op r=false):JP C k env σ l r op pos c:=
 Zv h λx e1 h=>Y2 h λy e2 e=>.two (Vt (P:=λa=>Z1 C k env σ l a->Ev C k env σ l (.str x)) e1 id h₁) (Vt (P:=λb=>Z1 C k env σ r b->Ev C k env σ r (.str y)) e2 id h₂) (e ▸ t1 x y) hm
theorem gH(h₁:Z1 C k env σ l a)(h₂:Z1 C k env σ r b)(h:ZE op a b=some c)(hm:Zy3 op r=false):JP C k env σ l r op pos c:=by
 cases op with
 |Lt=>exact .ints h₁ h₂ h (λ_ _=>ZA.lt_int) hm
 |LtE=>exact .ints h₁ h₂ h (λ_ _=>ZA.le_int) hm
 |Gt=>exact .ints h₁ h₂ h (λ_ _=>ZA.gt_int) hm
 |GtE=>exact .ints h₁ h₂ h (λ_ _=>ZA.ge_int) hm
 |Eq=>exact Zl h λhc h=>Zzv h ▸ ⟨YV.qD h₁ h₂ hc.1 hc.2 hm,Ev.qD h₁ h₂ hc.1 hc.2 hm⟩
 |NotEq=>exact Zl h λhc h=>Zzv h ▸ ⟨YV.uS h₁ h₂ hc.1 hc.2 hm,Ev.uS h₁ h₂ hc.1 hc.2 hm⟩
 |Is=>exact .is h₁ h₂ h (λ_ hp=>ZA.is_none hp) (λ_ _=>ZA.is_bool) hm
 |IsNot=>exact .is h₁ h₂ h (λ_ hp=>ZA.isNot_none hp) (λ_ _=>ZA.SR) hm
 |In=>exact .aK h₁ h₂ h (λ_ _=>ZA.in_str) hm
 |NotIn=>exact .aK h₁ h₂ h (λ_ _=>ZA.notIn_str) hm
end
theorem in_of{lo hi j:Int}(h:ZF lo hi j=true):lo<=j/\j<hi:=Z8 h λh1 h2=>⟨of_decide_eq_true h1,of_decide_eq_true h2⟩
theorem vM     (h₁:Z1 C k env σ o a)(h₂:Ev C k env σ i j)(h:ZO a j=some d)(hs:∀a b,subscripted i false a b=operate [a,b] (getItem a b)):Ev C k env σ (.Subscript o i pos) d:=by
 cases j with
 | int j=>
   exact JZ h (λds e1 h=>Zl h λhc h=>Ev.item_tup (DH (P:=λa=>Z1 C k env σ o a->Ev C k env σ o (.tup ds)) e1 id h₁) h₂ (in_of hc).1 (in_of hc).2 h hs)
    λh=>JZ h (λx e1 h=>Zl h λhc h=>Zv h λm hm h=>Y2 h λc Kq e=>e ▸ Ev.item_str (Vt (P:=λa=>Z1 C k env σ o a->Ev C k env σ o (.str x)) e1 id h₁) h₂ (in_of hc).1 (in_of hc).2 hm Kq hs)
    λh=>Zv h λds e1 h=>YQ h (λhc h=>Ev.item (h₁.l e1) h₂ (in_of hc).1 (in_of hc).2 h hs)
    λ_ h=>Zl h λhc h=>Z8 hc λhc hd=>Ev.OR (h₁.l e1) h₂ (in_of hc).2 (of_decide_eq_true hd) (in_of hc).1 h hs
 |bool b=>exact Zv h λds e1 h=>Ev.Pu (h₁.l e1) h₂ h hs
 |_=>exact nS h
theorem O0  {lo hi:Option Zzw}     (ho:Z1 C k env σ o a)(hl:Q9 C k env σ lo i)(hu:Q9 C k env σ hi j)(h:YL a i j=some d)
 (ht:∀a r,letTemporaryGo o a r=pure ()):Ev C k env σ (.Subscript o (.Slice lo hi ZyW p) pos) d:=
 JZ h (λx e1 h=>Zl h λhc h=>Zzv h ▸ Ev.EL (Vt (P:=λa=>Z1 C k env σ o a->Ev C k env σ o (.str x)) e1 id ho) hl hu hc ht)
  λh=>Zv h λds e1 h=>Zl h λhc h=>Zzv h ▸ Ev.slice_list (ho.l e1) hl hu hc ht
end
theorem DM   (h:Qf scope Zu=true):Qq scope Zu:=by
 simp only[Qf,ZzQ,ZzD,Zxq,beq_iff_eq,bne_iff_ne,decide_eq_true_eq,Zxa] at h
 obtain⟨⟨⟨⟨⟨h1,h2⟩,h3⟩,h4⟩,h5⟩,h6⟩:=h
 exact⟨h1,λx hx e=>(h2 x hx).resolve_left (λn=>n e),λx hx=>h3 x hx,λx hx e=>(h4 x hx).resolve_left (λn=>n e),λx hx e=>(h5 x hx).resolve_left (λn=>n e)⟩
theorem MV    (h:Vb scope env.scope σ=true):CX scope env σ:=by
 intro x hx e
 simp only[Vb,ZzD,Zxq,ZzQ,beq_iff_eq,bne_iff_ne] at h
 obtain⟨h1,h2⟩:=(h x hx).resolve_left (λn=>n e)
 exact⟨ZwG.mp h1,h2⟩
theorem Ml   (h:XF e=true):∀x,Zxs e env x=pure x:=by
 intro x;cases e<;>first |rfl |cases h
theorem X4    (h:notStar e=true):Zyf (e::es) env=(false,eval e env)::Zyf es env:=by cases e<;>first |rfl |cases h
theorem Tb     (h:VS o=true):attributeBase o name env m=m:=by
 cases o<;>first |rfl |skip
 rename_i f as ks p
 cases as with
 |nil=>cases f<;>first |rfl |cases h
 |cons _ _=>cases f<;>rfl
theorem MN   (h:JU e=true):isTrue e env (eval e env)=(do let v <-eval e env;standAt e.pos;holding [v] (truthy v)):=by
 cases e<;>first |rfl |cases h |skip
 rename_i op x p
 cases op<;>first |rfl |cases h
theorem Kz   (h:listOf a=some l)(hv:a.ZC.isNone=false):a=.val (.lst l):=by
 cases a with
 | val d=>cases d with
   |lst m=>cases h;rfl
   |_=>cases h
 |own ds=>cases hv
 |tab c ds=>cases h
theorem vo  (h:isName o=true):∀a r,letTemporaryGo o a r=pure ():=λa r=>
 Xf h (λx p e _=>by rw[e];rfl) (λh=>nomatch h)
theorem RH  (h:WM i=true):∀a b,subscripted i false a b=operate [a,b] (getItem a b):=by
 intro a b;cases i<;>first |rfl |cases h
theorem wV  (h:Fz d=true):∃a b,d=.tup [a,b]:=by
 cases d with
 | tup l=>
   cases l with
   |nil=>cases h
   | cons a l=>cases l with
     |nil=>cases h
     | cons b l=>cases l with
       |nil=>exact⟨a,b,rfl⟩
       |cons _ _=>cases h
 |_=>cases h
structure Sound(C:Cx)(k:Nat)(S:Sg)(n:Nat):Prop where
 ev:∀env σ e a,Zt env->Mine.Internal.ev S n env.scope σ e=some a->Z1 C k env σ e a
 Y3:∀env σ es as,Zt env->Mine.Internal.Y3 S n env.scope σ es=some as->ZQ C k env σ es as
 FR:∀env σ e i,Zt env->Mine.Internal.FR S n env.scope σ e=some i->Q9 C k env σ e i
 YW:∀env σ e b,Zt env->Mine.Internal.YW S n env.scope σ e=some b->YV C k env σ e b
 VH:∀env σ es b,Zt env->Mine.Internal.VH S n env.scope σ true es=some b->U3 C k env σ es b
 x5:∀env σ es b,Zt env->Mine.Internal.VH S n env.scope σ false es=some b->Ji C k env σ es b
 Y4:∀env σ strict Zu e ds,Zt env->Mine.Internal.Y4 S n env.scope σ strict Zu e=some ds->Yd C k env σ strict Zu e ds
 Up:∀env σ strict x p e ds,Zt env->Mine.Internal.Up S n env.scope σ strict e=some ds->Yd C k env σ strict (.Name x p) e ds
 Fv:∀env σ strict x y p1 p2 kk p e ds,Zt env->Mine.Internal.Fv S n env.scope σ e=some ds->Yd C k env σ strict (.Tuple [.Name x p1,.Name y p2] kk p) e ds
 turn:∀env σ Zu ifs elt d r,Zt env->XR S n env.scope σ Zu ifs elt d=some r->JV C k env σ Zu ifs elt d r
section
variable {C:Cx}{k:Nat}{S:Sg}
theorem AG       (hf:∀d r,f d=some r->JV C k env σ Zu ifs elt d r)(ds:List PV):∀{ys:List PV},Wg f ds=some ys->Vi C k env σ Zu ifs elt ds ys:=by
 induction ds with
 |nil=>exact λh=>(Zzv h).symm
 | cons d ds ih=>
   exact λh=>Zv h λo e h=>by
    cases o with
    |none=>exact⟨none,_,hf d _ e,rfl,ih h⟩
    |some y=>exact Y2 h λzs h1 e2=>⟨some y,zs,hf d _ e,e2,ih h1⟩
theorem GF :∀{ds:List PV},as.mapM AV.ZC=some ds->as=ds.map .val:=by
 induction as with
 |nil=>intro ds h;exact ZW (P:=λds=>[]=ds.map AV.val) rfl h
 | cons a as ih=>
   intro ds h
   rw[Zx3] at h
   exact Zv h λd h1 h=>Zv h λes h2 h=>ZW (P:=λds=>a::as=ds.map AV.val) (DT (P:=λa=>a::as=(d::es).map AV.val) h1 (congrArg _ (ih h2))) h
theorem bq.ok         (h:Z1 C k env σ e a)(hd:C3 strict a=some ds):Yd C k env σ strict (.Name x p) e ds:=by
 cases a with
 | val d=>
   cases d with
   |lst l=>exact ZW (Yd.mz h) hd
   |str t=>exact ZW (Yd.str h) hd
   |_=>exact nS hd
 | own es=>
   cases strict with
   |true=>exact nS hd
   |false=>exact ZW (Yd.Gd (h.l rfl)) hd
 |tab c es=>exact nS hd
section
variable {fe:Zz0->Zx->Zzw->Option AV}{fs:Zz0->Zx->List Zzw->Option (List AV)}{fp:Zz0->Zx->Option Zzw->Option (Option Int)}{fb:Zz0->Zx->Zzw->Option Bool}
 {fo:Zz0->Zx->BoolOp->List Zzw->Option Bool} {ft:Zz0->Zx->Bool->Zzw->Zzw->Option (List PV)} {fu:Zz0->Zx->Zzw->List Zzw->Zzw->PV->Option (Option PV)} {env:Env} {σ:Zx} {a:AV} {pos:Pos}
theorem Gx  (h:ZI env.scope x=true):env.kindOf x=some .globalImplicit:=eq_of_beq h
theorem kC(H:Xy C k S)(hf:Zt env)  (h:bh S env.scope σ x=some a):Z1 C k env σ (.Name x pos) a:=
 Zl h λhn h=>YQ h (λhg h=>Y2 h λd h1 e=>by
  rw[e]
  obtain⟨v,e1,e2⟩:=H.gv _ _ h1
  exact λA s Q E P hr eJ hh hb q=>Jf hf ⟨e1,Gx hg⟩ eJ (q v s (Z4 s) (e2 _ _)) (Yz hn).1) λ_ h=>Z1.name hf h (Yz hn).1 (Yz hn).2
theorem wy    (h:jz c d=some a)(q:d=some a->Z1 C k env σ (.Constant c n pos) a):Z1 C k env σ (.Constant c n pos) a:=by
 cases c with
 |int i=>exact ZW (P:=Z1 C k env σ _) (a:=.val (.int i)) Ev.int h
 |str x=>exact ZW (P:=Z1 C k env σ _) (a:=.val (.str x)) Ev.str h
 |none=>exact ZW (P:=Z1 C k env σ _) (a:=.val .none) Ev.none h
 |bool b=>exact ZW (P:=Z1 C k env σ _) (a:=.val (.bool b)) Ev.bool h
 |_=>exact q h
section
variable (he:∀env σ e a,Zt env->fe env.scope σ e=some a->Z1 C k env σ e a)(hf:Zt env)
include he hf
theorem kD    (h:bl fe env.scope σ op x d=some a)(q:d=some a->Z1 C k env σ (.UnaryOp op x pos) a):Z1 C k env σ (.UnaryOp op x pos) a:=by
 cases op with
 |USub=>exact Zv h λy h1 h=>Y2 h λi h2 e=>e ▸ Ev.my (Yo (P:=λy=>Z1 C k env σ x y->Ev C k env σ x (.int i)) h2 id (he _ _ _ _ hf h1))
 |_=>exact q h
theorem Hr    (h:TZ fe env.scope σ l op r=some c):JP C k env σ l r op pos c:=
 Mp h λhm h=>Zv h λx h1 h=>Zv h λy h2 h=>gH (he _ _ _ _ hf h1) (he _ _ _ _ hf h2) h (eq_false_of_ne_true hm)
theorem xO(hp:∀env σ e i,Zt env->fp env.scope σ e=some i->Q9 C k env σ e i)   (h:qO fe fp env.scope σ o i d=some a)(q:d=some a->Z1 C k env σ (.Subscript o i pos) a):Z1 C k env σ (.Subscript o i pos) a:=by
 have pl:WM i=true->Ys ((fe env.scope σ o).bind λa=>(fe env.scope σ i).bind λj=>j.ZC.bind λj=>(ZO a j).map .val) d=some a->Z1 C k env σ (.Subscript o i pos) a:=λhs h=>
  Xr h (λh=>Zv h λx h1 h=>Zv h λj h2 h=>Zv h λj' h3 h=>Y2 h λd h4 e=>e ▸ vM (he _ _ _ _ hf h1) ((he _ _ _ _ hf h2).ev h3) h4 (RH hs)) q
 cases i with
 | Slice lo hi st p2=>
   cases st with
   |none=>exact YQ h (λhn h=>Zv h λx h1 h=>Zv h λl h2 h=>Zv h λu h3 h=>Y2 h λd h4 e=>e ▸ O0 (he _ _ _ _ hf h1) (hp _ _ _ _ hf h2) (hp _ _ _ _ hf h3) h4 (vo hn)) λ_ h=>q h
   |some _=>exact nS h
 |_=>exact pl rfl h
end
theorem Hs{P:Prop}   (h:Po fs env.scope σ f es=some a)(q:∀ds,fs env.scope σ es=some (ds.map .val)->ds.length<=Zzx->a=.val (f ds)->P):P:=
 Zv h λas h1 h=>Zv h λds h2 h=>Zl h λhz h=>q ds (GF h2 ▸ h1) hz (Zzv h).symm
section
variable (hs:∀env σ es as,Zt env->fs env.scope σ es=some as->ZQ C k env σ es as)(hf:Zt env)
include hs hf
theorem dz(H:Xy C k S)    (hx:Yl x=true)(hg:ZI env.scope x=true)(hl:args.length<29)(h:((fs env.scope σ args).bind λas=>(S.cl x as).map .val)=some a):Z1 C k env σ (.Call (.Name x p) args [] pos) a:=
 Zv h λas h1 h=>Y2 h λd h4 e=>e ▸ H.cl _ _ _ h4 env σ _ _ _ hf (Gx hg) (hs _ _ _ _ hf h1) (Yz hx).1 hl
theorem EK(H:Xy C k S)    (h:RN fs env.scope σ x args ((fs env.scope σ args).bind λas=>(S.cl x as).map .val)=some a):Z1 C k env σ (.Call (.Name x p) args [] pos) a:=
 Zl h λhc h=>Z8 hc λhc hl=>Z8 hc λhx hg=>by
  have pl:=dz (a:=a) (σ:=σ) (pos:=pos) (p:=p) hs hf H hx hg (of_decide_eq_true hl)
  refine Vk h (λe e1 h=>CF h (λy p2 oR p3 e2 h=>YQ h (λhc h=>Z8 hc λhc aT=>Z8 hc λhx hy=>Zv h λas h1 h=>?_) λ_ h=>pl h) pl) pl
  have ex:=eq_of_beq hx
  have ey:=eq_of_beq hy
  rw[e1,e2]
  refine VJ h λb1 b2 e3 h=>Zv h λi1 e4 h=>Zv h λi2 e5 h=>Zl h λhr h=>Z8 hr λhr hz=>Z8 hr λFH yv=>?_
  have ha:as=[.val (.int i1),.val (.int i2)]:=by rw[e3];exact Yo (P:=λb1=>[b1,b2]=_) e4 (Yo (P:=λb2=>[AV.val (.int i1),b2]=_) e5 rfl)
  rw[ex] at hg ⊢
  rw[ey] at aT ⊢
  rw[ha] at h1
  exact ZW (P:=Z1 C k env σ _) (a:=.val (.lst (ZR i1 i2))) (Wj.list_range hf ⟨H.bi _ (.inl rfl),H.list,Gx hg⟩ ⟨H.bi _ (.inr (.inl rfl)),H.range,Gx aT⟩ (hs _ _ _ _ hf h1) (in_of FH).1 (in_of FH).2 (in_of yv).1 (in_of yv).2 (of_decide_eq_true hz) oD oD rfl).ev h
theorem Of(H:Xy C k S)(he:∀env σ e a,Zt env->fe env.scope σ e=some a->Z1 C k env σ e a)    (h:ya S fe fs env.scope σ f args pos d=some a)(q:d=some a->Z1 C k env σ (.Call f args [] pos) a):Z1 C k env σ (.Call f args [] pos) a:=
 Xf h (λx p e h=>Xr h (λh=>e ▸ EK hs hf H h) q) λh=>Ig h (λo m p e h=>e ▸ Zl h λhc h=>Z8 hc λhc TC=>Z8 hc λZN hlen=>Zv h λx h1 h=>Zv h λas h2 h=>Y2 h λd h4 e=>e ▸
  H.mt _ _ _ _ h4 env σ _ _ _ _ (he _ _ _ _ hf h1) (hs _ _ _ _ hf h2) (Tb TC) ZN (of_decide_eq_true hlen)) q
end
theorem MY(ht:∀env σ strict Zu e ds,Zt env->ft env.scope σ strict Zu e=some ds->Yd C k env σ strict Zu e ds)(hu:∀env σ Zu ifs elt d r,Zt env->fu env.scope σ Zu ifs elt d=some r->JV C k env σ Zu ifs elt d r)
 (hf:Zt env)    (h:yb ft fu env.scope σ elt Zu iter ifs scope=some a):∃ys,a=.val (.lst ys)/\∀p,I9 C k env σ (.ListComp elt [⟨Zu,iter,ifs,0⟩] scope pos) scope p iter ys:=by
 refine Zl h λhc h=>Z8 hc λhc D2=>Z8 hc λhS hT=>Zv h λds h1 h=>Zl h λhz h=>?_
 have it:=ht _ _ _ _ _ _ hf h1
 have turns:∀{W5:Env} {σ':Zx},InComp scope env W5->∀d r,fu (XC scope env.scope) σ' Zu ifs elt d=some r->JV C k W5 σ' Zu ifs elt d r:=
  λ{W5 σ'} ic d r hr=>hu W5 σ' _ _ _ d r (ic.Z3 (DM hS).kind hf) (by rw[ic.scope];exact hr)
 revert h
 cases hy:Wg (λd=>fu (XC scope env.scope) (Ut scope σ) Zu ifs elt d) ds with
 |some ys=>exact λh=>⟨ys,(Zzv h).symm,λp=>I9.val hf (DM hS) (MV hT) it hz (λW5 ic=>AG (turns ic) ds hy) (Ml D2)⟩
 |none=>exact λh=>Zv h λys hy h=>Zl h λWJ h=>⟨ys,(Zzv h).symm,λp=>I9.flat hf (DM hS) (MV hT) it hz (λW5 ic=>AG (turns ic) ds hy) WJ (Ml D2)⟩
theorem wt  (he:∀env σ e a,Zt env->fe env.scope σ e=some a->Z1 C k env σ e a)(h1:∀env σ es b,Zt env->fa env.scope σ true es=some b->U3 C k env σ es b)(h2:∀env σ es b,Zt env->fa env.scope σ false es=some b->Ji C k env σ es b)
 (hf:Zt env)   (h:jh fe env.scope σ fa e=some b):YV C k env σ e b:=
 uf h (λl ops rs p e1 h=>Vk h (λop e2 h=>Vk h (λr e3 h=>by rw[e1,e2,e3];exact (Hr he hf h).1) nS) nS) λh=>gF h (λop vs p e1 h=>by
  rw[e1]
  cases op with
  |And=>exact YV.and (h1 _ _ _ _ hf h)
  |Or=>exact YV.or (h2 _ _ _ _ hf h)) λh=>Zl h λhp h=>Zv h λa h1 h=>Zv h λd h2 h=>by
  have hv:=(he _ _ _ _ hf h1).ev h2
  cases d with
  |str x=>exact Zl h λhz h=>YV.value hv h (λy e=>by cases e;exact hz) (MN hp)
  |_=>exact YV.value hv h (λy e=>nomatch e) (MN hp)
theorem ES{P:List AV->Prop}   (h:CQ as=some ds)(q1:∀b,ZF (-(2 ^ 62)) (2 ^ 62) b=true->ds=ZR 0 b->P [.val (.int b)])
 (q2:∀a b,ZF (-(2 ^ 62)) (2 ^ 62) a=true->ZF (-(2 ^ 62)) (2 ^ 62) b=true->ds=ZR a b->P [.val (.int a),.val (.int b)]):P as:=
 JZ h (λb e h=>YH e λx e1 e2=>Zl h λhc h=>e1 ▸ Yo (P:=λx=>P [x]) e2 (q1 b hc (Zzv h).symm))
  λh=>VJ h λx y e1 h=>Zv h λa e2 h=>Zv h λb e3 h=>Zl h λhc h=>Z8 hc λh1 h2=>e1 ▸ Yo (P:=λx=>P [x,y]) e2 (Yo (P:=λy=>P [.val (.int a),y]) e3 (q2 a b h1 h2 (Zzv h).symm))
theorem wh{f1:Zz0->Zx->Bool->Zzw->Option (List PV)}  (H:Xy C k S)(hs:∀env σ es as,Zt env->fs env.scope σ es=some as->ZQ C k env σ es as)
 (h1:∀env σ strict x p e ds,Zt env->f1 env.scope σ strict e=some ds->Yd C k env σ strict (.Name x p) e ds) (h2:∀env σ strict x y p1 p2 kk p e ds,Zt env->f2 env.scope σ e=some ds->Yd C k env σ strict (.Tuple [.Name x p1,.Name y p2] kk p) e ds)
 (hf:Zt env)    (h:jl fs env.scope σ f1 f2 strict Zu e=some ds):Yd C k env σ strict Zu e ds:=
 Xf h (λx p e1 h=>e1 ▸ CF h (λy py as pos e2 h=>YQ h (λhy h=>Zl h λhg h=>Zv h λvs h3 h=>by
  have ey:=eq_of_beq hy
  rw[ey] at hg e2
  rw[e2]
  exact ES (P:=λvs=>fs env.scope σ as=some vs->Yd C k env σ strict (.Name x p) (.Call (.Name "range" py) as [] pos) ds) h (λb hb e h3=>e ▸ Yd.CQ hf ⟨H.bi _ (.inr (.inl rfl)),H.range,Gx hg⟩ (hs _ _ _ _ hf h3) (in_of hb).1 (in_of hb).2)
   (λa b ha hb e h3=>e ▸ Yd.G4 hf ⟨H.bi _ (.inr (.inl rfl)),H.range,Gx hg⟩ (hs _ _ _ _ hf h3) (in_of ha).1 (in_of ha).2 (in_of hb).1 (in_of hb).2) h3)
  λ_ h=>h1 _ _ _ _ _ _ _ hf h) λh=>h1 _ _ _ _ _ _ _ hf h)
  λh=>QE h (λes kk pt e1 h=>G9 h (λx p1 y p2 e2 h=>by
   rw[e1,e2]
   exact CF h (λz py as pos e3 h=>YQ h (λhz h=>Zl h λhg h=>Zv h λvs h3 h=>by
    have ez:=eq_of_beq hz
    rw[ez] at hg e3
    rw[e3]
    refine VJ h λa b e4 h=>Zv h λl e5 h=>Zv h λm e6 h=>Mp h λhn h=>?_
    rw[e4] at h3
    exact ZW (Yd.zip hf ⟨H.bi _ (.inr (.inr rfl)),H.zip,Gx hg⟩ (hs _ _ _ _ hf h3) e5 e6 λqF=>by
     rw[qF] at hn
     have hn:=eq_false_of_ne_true hn
     have hn:=ZuG.mp hn
     exact⟨Kz e5 hn.1,Kz e6 hn.2⟩) h)
    λ_ h=>h2 _ _ _ _ _ _ _ _ _ _ _ hf h) λh=>h2 _ _ _ _ _ _ _ _ _ _ _ hf h) nS) nS
theorem EC(he:∀env σ e a,Zt env->fe env.scope σ e=some a->Z1 C k env σ e a)(hb:∀env σ e b,Zt env->fb env.scope σ e=some b->YV C k env σ e b)(hf:Zt env)
 (h:RS fe fb env.scope σ Zu ifs elt d=some r):JV C k env σ Zu ifs elt d r:=by
 refine Zv h λps h1 h=>?_
 cases ifs with
 |nil=>exact Zv h λy h2 h=>Y2 h λz h3 e=>e ▸ ⟨ps,true,h1,rfl,.inl ⟨rfl,z,rfl,(he _ _ _ _ hf h2).ev h3⟩⟩
 | cons c ifs=>
   cases ifs with
   |nil=>exact Zv h λb h2 h=>YQ h (λhc h=>Zv h λy h4 h=>Y2 h λz h3 e=>e ▸ ⟨ps,true,h1,hb _ _ _ _ hf (hc ▸ h2),.inl ⟨rfl,z,rfl,(he _ _ _ _ hf h4).ev h3⟩⟩) λhc h=>ZW ⟨ps,false,h1,hb _ _ _ _ hf (eq_false_of_ne_true hc ▸ h2),.inr ⟨rfl,rfl⟩⟩ h
   |cons _ _=>exact nS h
end
theorem sound(H:Xy C k S)(n:Nat):Sound C k S n:=by
 induction n with
 |zero=>exact⟨λ_ _ _ _ _ h=>nS h,λ_ _ _ _ _ h=>nS h,λ_ _ _ _ _ h=>nS h,λ_ _ _ _ _ h=>nS h,λ_ _ _ _ _ h=>nS h,λ_ _ _ _ _ h=>nS h,λ_ _ _ _ _ _ _ h=>nS h,λ_ _ _ _ _ _ _ _ h=>nS h,λ_ _ _ _ _ _ _ _ _ _ _ _ h=>nS h,λ_ _ _ _ _ _ _ _ h=>nS h⟩
 | succ n ih=>
   refine⟨?_,?_,?_,?_,?_,?_,?_,?_,?_,?_⟩
   ·intro env σ e a hf h
    have xe:=λh=>H.xe env σ e a hf h
    cases e with
    |Name x p=>exact kC H hf h
    |Constant c k p=>exact wy h xe
    |BinOp l op r p=>exact Xr h (λh=>Zv h λx h1 h=>Zv h λy h2 h=>Y2 h λz h3 e=>e ▸ z9 (ih.ev _ _ _ _ hf h1) (ih.ev _ _ _ _ hf h2) h3) xe
    |UnaryOp op x p=>exact kD ih.ev hf h xe
    |Compare l ops rs p=>exact Vk h (λop e1 h=>Vk h (λr e2 h=>Y2 h λc h3 e=>e ▸ e1 ▸ e2 ▸ (Hr ih.ev hf h3).2) xe) xe
    | IfExp t x y p=>
      exact Zv h λc h1 h=>Zv h λx h2 h=>Y2 h λd h3 e=>e ▸ Ev.xj (ih.YW _ _ _ _ hf h1) (λe=>(ih.ev _ _ _ _ hf ((if_pos e ▸ h2 :))).ev h3) (λe=>(ih.ev _ _ _ _ hf ((if_neg (ne_true_of_eq_false e) ▸ h2 :))).ev h3)
    |Subscript o i p=>exact xO ih.ev hf ih.FR h xe
    |Tuple es k p=>exact Hs h λds h1 hz e=>e ▸ Ev.tuple (ih.Y3 _ _ _ _ hf h1) hz
    |List es p=>exact Hs h λds h1 hz e=>e ▸ Ev.list (ih.Y3 _ _ _ _ hf h1) hz
    |Call f args WZ p=>exact Fq h (λe h=>by subst e;exact Of ih.Y3 hf H ih.ev h xe) xe
    | ListComp elt gens scope p=>
      exact Vk h (λg e1 h=>YQ h (λhz h=>by
       obtain⟨Zu,iter,ifs,z⟩:=g
       have hz:z=0:=hz
       rw[e1,hz]
       obtain⟨ys,e,hc⟩:=MY (pos:=p) ih.Y4 ih.turn hf h
       rw[e]
       exact (hc _).new.ev) λ_ h=>xe h) xe
    |_=>exact xe h
   ·intro env σ es as hf h
    cases es with
    |nil=>exact ZW ZQ.nil h
    |cons e es=>exact Zl h λhs h=>Zv h λa h1 h=>Y2 h λr h2 e=>e ▸ ZQ.cons (ih.ev _ _ _ _ hf h1) (ih.Y3 _ _ _ _ hf h2) (X4 hs)
   ·intro env σ e i hf h
    cases e with
    |none=>exact ZW Q9.none h
    |some e=>exact Zv h λa h1 h=>Y2 h λj h2 e2=>e2 ▸ Q9.some (Yo (P:=λa=>Z1 C k env σ e a->Ev C k env σ e (.int j)) h2 id (ih.ev _ _ _ _ hf h1))
   ·exact λenv σ e b hf h=>wt ih.ev ih.VH ih.x5 hf h
   ·intro env σ es b hf h
    cases es with
    |nil=>exact ZW U3.nil h
    | cons e es=>
      refine Zv h λc h1 h=>?_
      cases c with
      |true=>exact U3.cons (ih.YW _ _ _ _ hf h1) λ_=>ih.VH _ _ _ _ hf h
      |false=>exact ZW (U3.cons (b:=true) (ih.YW _ _ _ _ hf h1) (λe=>nomatch e)) h
   ·intro env σ es b hf h
    cases es with
    |nil=>exact ZW Ji.nil h
    | cons e es=>
      refine Zv h λc h1 h=>?_
      cases c with
      |true=>exact ZW (Ji.cons (b:=true) (ih.YW _ _ _ _ hf h1) (λe=>nomatch e)) h
      |false=>exact Ji.cons (ih.YW _ _ _ _ hf h1) λ_=>ih.x5 _ _ _ _ hf h
   ·exact λenv σ strict Zu e ds hf h=>Xr h (λh=>wh H ih.Y3 ih.Up ih.Fv hf h) λh=>H.xi _ _ _ _ _ _ hf h
   ·exact λenv σ strict x p e ds hf h=>Zv h λa h1 h=>bq.ok (ih.ev _ _ _ _ hf h1) h
   ·intro env σ strict x y p1 p2 kk p e ds hf h
    refine Zv h λa h1 h=>Zv h λd h2 h=>?_
    have hv:=(ih.ev _ _ _ _ hf h1).ev h2
    cases d with
    |lst l=>exact Zl h λhc h=>ZW (Yd.nO (λd hd=>wV (ZzD.mp hc d hd)) hv) h
    |_=>exact nS h
   ·exact λenv σ Zu ifs elt d r hf h=>EC ih.ev ih.YW hf h
end
def JS(op:Zuq)(a b:PV):Option PV:=match op with
 |.Add=>Ys (Qw (.val a) (.val b) λx y=>some (.int (x+y))) ((Yw (.val a)).bind λx=>(Yw (.val b)).bind λy=>if x.length+y.length<=Zzx then some (.str (x++y)) else none)
 |.Sub=>Qw (.val a) (.val b) λx y=>some (.int (x-y))
 |_=>none
def QH(e:Zzw):Bool:=qN e (λ_ _ _ _=>false) (pM e (λ_ _ _ _=>false) (pL e (λ_ _ _ _ _=>false) true))
def UT(e:Zzw):Bool:=qN e (λ_ gs _ _=>d1 gs (λg=>decide (g.is_async=0)) false) false
def Y0(sc:Zz0)(x:oO):Bool:=sc.names.lookup x==some .local||(ZU sc.names).contains x
def DX(es:List Zzw):Option (List oO):=NL es (λx y=>some [x,y]) (qL es (λx y z=>some [x,y,z]) none)
def Vy(ts:List Zzw)(e:Zzw):Bool:=KQ e (λvs _ _=>!(vs.all (constantsAlone 8))||vs.all (foldedForSure 8)) true
noncomputable def Qg(xs:List oO):Bool:=match xs with
 |[]=>false
 | x::r=>(match r with
   |[]=>false
   | y::r=>(match r with
     |[]=>!(x==y)
     | z::r=>(match r with
       |[]=>!(x==y)&&!(x==z)&&!(y==z)
       |_::_=>false)))
structure St where
 sg:Sg
 ow:List oO
 sp:Zx->ZzZ->Option (Z7 × Zx)
 wf:Nat
def JA(sc:Zz0)(S:Sg)(n:Nat)(σ:Zx)(e:Zzw):Option PV:=
 oc ((ev S n sc σ e).bind AV.ZC) (λd=>if YY d then some d else (ev S n sc σ.last e).bind AV.ZC) ((ev S n sc σ.last e).bind AV.ZC)
def ix(a:AV)(as:List AV):Option (List PV):=WT as λb=>(Yw a).bind λx=>(Yw b).bind λy=>
 if y.length≠0/\x.length<=Zzx/\(Zz7 x (Zze x y 0 x.length (x.length+1)) y.length).length<=Zzx then some ((ZyI x y).map .str) else none
def Gf(S:Sg)(n:Nat)(sc:Zz0)(σ:Zx)(e:Zzw):Option (List PV):=
 Oz e (λes _=>(Y3 S n sc σ.flat es).bind λas=>(as.mapM AV.ZC).bind λds=>if ds.length<=Zzx then some ds else none)
  (Fu e (λf args ks pos=>d0 ks (C8 f (λo name apos=>if name==("split":oO)&&apos.endLine==pos.line&&decide (args.length<29)&&VS o then
      (ev S n sc σ.flat o).bind λa=>(Y3 S n sc σ.flat args).bind (ix a) else none) none) none)
  (if UT e then (ev S n sc σ.flat e).bind λa=>listOf a else none))
noncomputable def NS(t:Zx->Option Bool)(f:Zx->Option (Z7 × Zx)):Nat->Zx->Option (Z7 × Zx)
 |0,_=>none
 |m + 1,σ=>(t σ).bind λb=>if b then (f σ).bind λp=>match p.1 with
    |.Z2=>NS t f m p.2
    |.cnt=>NS t f m p.2
    |.brk=>some (.Z2,p.2)
    |.ret d=>some (.ret d,p.2)
  else some (.Z2,σ)
noncomputable def Qm(f:Zx->PV->Option (Z7 × Zx)):List PV->Zx->Option (Z7 × Zx)
 |[],σ=>some (.Z2,σ)
 |d :: r,σ=>(f σ d).bind λp=>match p.1 with
    |.Z2=>Qm f r p.2
    |.cnt=>Qm f r p.2
    |.brk=>some (.Z2,p.2)
    |.ret d=>some (.ret d,p.2)
section
variable (T:St)(fe:Zz0->Zx->Zzw->Option AV)(fb:Zz0->Zx->Zzw->Option Bool)(ft:Zz0->Zx->Bool->Zzw->Zzw->Option (List PV))(fo:Zz0->Zx->Zzw->Option (List PV))(fr:Zz0->Zx->Zzw->Option PV)
 (fx:Zz0->Zx->List ZzZ->Option (Z7 × Zx)) (sc:Zz0) (σ:Zx)
def P9 (x:oO) (e:Zzw):Option (Z7 × Zx):=if Y0 sc x then
    if T.ow.contains x then (fo sc σ e).map λds=>(.Z2,σ.set x (.own ds))
    else if QH e||UT e then (fe sc σ e).bind λa=>a.ZC.map λd=>(.Z2,σ.set x (.val d)) else none
 else none
def P6 (ts:List Zzw) (e:Zzw):Option (Z7 × Zx):=if Vy ts e&&QH e then (DX ts).bind λxs=>if xs.all (Y0 sc)&&Qg xs then (fe sc σ e).bind λa=>(CZ a).bind λds=>
    if ds.length=xs.length then some (.Z2,Zd σ xs ds) else none
 else none else none
def P8(x:oO)(op:Zuq)(e:Zzw):Option (Z7 × Zx):=if Y0 sc x&&Yl x then (σ x).bind λv=>v.ZC.bind λa=>(fe sc σ e).bind λb=>b.ZC.bind λb=>(JS op a b).map λd=>(.Z2,σ.set x (.val d)) else none
def Q8(iter:Zzw):Zx:=Wr iter (λx _=>match σ x with |some v=>(match v with |.own ds=>σ.set x (.val (.lst ds)) |_=>σ) |none=>σ) σ
def jU (Zu iter:Zzw) (body:List ZzZ):Option (Z7 × Zx):=if (Z5 Zu).all (Y0 sc)&&XF iter then
    (ft sc (Q8 σ iter) true Zu iter).bind λes=>Qm (λσ d=>(partsOf Zu d).bind λps=>fx sc (Zd σ (Z5 Zu) ps) body) es (Q8 σ iter) else none
def P7 (x:oO) (i:Zzw):Option (Z7 × Zx):=if Yl x then (σ x).bind λv=>(S9 v).bind λds=>(fe sc σ i).bind λj=>(XI j).bind λj=>
    (seqIndex? j ds.length).bind λm=>if m<ds.length/\Zxf j=true/\ds.length<=Zzx then some (.Z2,σ.set x (.own (ds.eraseIdx m))) else none
 else none
def Sx (x m:oO) (e:Zzw) (apos cpos:Pos):Option (Z7 × Zx):=if Yl x&&apos.endLine==cpos.line&&notStar e then (σ x).bind λv=>(S9 v).bind λds=>
    if m==("append":oO) then (fe sc σ.flat e).bind λa=>a.ZC.bind λd=>if ds.length<=Zzx then some (.Z2,σ.set x (.own (ds++[d]))) else none
    else none
 else none
def mc(fw:Zzw->List ZzZ->Zx->Option (Z7 × Zx))(st:ZzZ):Option (Z7 × Zx):=@ZxE (λ_=>Option (Z7 × Zx)) st (λ_ _ _ _ _ _ _ _ _ _=>(T.sp σ st)) (λ_ _ _ _ _ _ _ _ _ _=>(T.sp σ st)) (λ_ _ _ _ _ _ _ _ _ _ _=>(T.sp σ st)) (λe _=>oc e (λe=>(fr sc σ e).map λd=>(.ret d,σ)) (T.sp σ st)) (λts _=>d1 ts (λt=>PO t (λo i _=>Wr o (λx _=>P7 fe sc σ x i) (T.sp σ st)) (T.sp σ st)) (T.sp σ st)) (λts e _=>d1 ts (λt=>Wr t (λx _=>Ys (P9 T fe fo sc σ x e) (T.sp σ st)) (KQ t (λes _ _=>Ys (T.sp σ st) (P6 fe sc σ es e)) (T.sp σ st))) (T.sp σ st)) (λ_ _ _ _ _ _ _=>(T.sp σ st)) (λt op e _=>Wr t (λx _=>P8 fe sc σ x op e) (T.sp σ st)) (λ_ _ _ _ _=>(T.sp σ st)) (λZu iter body orelse _=>d0 orelse (jU ft fx sc σ Zu iter body) (T.sp σ st)) (λ_ _ _ _ _=>(T.sp σ st)) (λt body orelse _=>d0 orelse (fw t body σ) (T.sp σ st)) (λt body orelse _=>(fb sc σ t).bind λb=>fx sc σ (if b then body else orelse)) (λ_ _ _=>(T.sp σ st)) (λ_ _ _=>(T.sp σ st)) (λ_ _ _=>(T.sp σ st)) (λ_ _ _=>(T.sp σ st)) (λ_ _ _ _ _=>(T.sp σ st)) (λ_ _ _ _ _=>(T.sp σ st)) (λt _ _=>(fb sc σ t).bind λb=>if b then some (.Z2,σ) else none) (λ_ _=>(T.sp σ st)) (λ_ _ _ _=>(T.sp σ st)) (λ_ _=>(T.sp σ st)) (λ_ _=>(T.sp σ st)) (λe _=>Fu e (λf args ks cpos=>C8 f (λo m apos=>Wr o (λx _=>d1 args (λe=>d0 ks (Ys (T.sp σ st) (Sx fe sc σ x m e apos cpos)) (T.sp σ st)) (T.sp σ st)) (T.sp σ st)) (T.sp σ st)) (T.sp σ st)) (λ_=>(T.sp σ st)) (λ_=>(T.sp σ st)) (λ_=>(T.sp σ st))
end
mutual
noncomputable def XD(T:St):Nat->Zz0->Zx->ZzZ->Option (Z7 × Zx)
 |0,_,_,_=>none
 |n+1,sc,σ,st=>mc T (ev T.sg n) (YW T.sg n) (Y4 T.sg n) (Gf T.sg n) (λsc σ e=>JA sc T.sg n σ e) (XU T n) sc σ (λt body=>NS (λσ=>YW T.sg n sc σ t) (λσ=>XU T n sc σ body) T.wf) st
noncomputable def XU(T:St):Nat->Zz0->Zx->List ZzZ->Option (Z7 × Zx)
 |0,_,_,_=>none
 | n+1,sc,σ,ss=>match ss with
   |[]=>some (.Z2,σ)
   | st::r=>(XD T n sc σ st).bind λp=>match p.1 with
     |.Z2=>XU T n sc p.2 r
     |_=>some p
end
def B8(C:Cx)(k:Nat)(T:St)(F:Ye):Prop:=∀σ st af σ',T.sp σ st=some (af,σ')->Ex C k F σ (exec st F.env) af σ'
theorem CH    (H:Xy C k S)         (hf:Zt env)
 (h:ev S n env.scope σ (.ListComp elt [⟨Zu,iter,ifs,0⟩] scope pos)=some a):∃ys,a=.val (.lst ys)/\∀p,I9 C k env σ (.ListComp elt [⟨Zu,iter,ifs,0⟩] scope pos) scope p iter ys:=by
 cases n with
 |zero=>exact nS h
 |succ n=>exact MY (sound H n).Y4 (sound H n).turn hf h
structure XT(F:Ye):Prop where
 Z3:Zt F.env
 cs:F.cs=ZU F.env.scope.names
 sees:True
section
variable {C:Cx}{k:Nat}{F:Ye}{N M:Zzq->Prop}{σ σ₁ σ₂:Zx}{s s' s₁:Zzu}{af:Z7}{h h':Zza}
theorem X3(hF:XT F)  (h:Y0 F.env.scope x=true):ZS F.env F.cs x:=by
 simp only[Y0,Zxq,beq_iff_eq,Zxa] at h
 rcases h with h |h
 ·exact .inl h
 ·rw[ZS,hF.cs];exact .inr h
theorem GY     (h:QH e=true):swapsWith e x line env=pure false:=by cases e<;>first |rfl |cases h
theorem CN        :∃b,swapsWith (.ListComp elt gs scope cpos) (some (.Name x p)) line env=pure b:=⟨_,rfl⟩
theorem Lc  (h:UT e=true):∃elt Zu iter ifs scope pos,e=.ListComp elt [⟨Zu,iter,ifs,0⟩] scope pos:=
 gG h (λelt gs s p e1 h=>Vk h (λg e2 h=>⟨elt,g.target,g.iter,g.ifs,s,p,by
  cases g with
  | mk Zu iter ifs z=>
    have z0:z=0:=of_decide_eq_true h
    rw[e1,e2,z0]⟩) (λh=>nomatch h)) (λh=>nomatch h)
theorem Iu(hf:Zt F.env):interactive F.env=false:=by unfold interactive;rw[hf.kind];rfl
theorem Hx  (H:Xy C k S)      (hF:XT F)(hx:ZS F.env F.cs x)(hc:UT e=true)(h:ev S n F.env.scope σ e=some (.val d)):
 Ex C k F σ (exec (.Assign [.Name x p] e pos) F.env) .Z2 (σ.set x (.val d)):=by
 obtain⟨elt,Zu,iter,ifs,scope,cpos,rfl⟩:=Lc hc
 obtain⟨ys,e1,hC⟩:=CH H hF.Z3 h
 cases e1
 obtain⟨b,hb⟩:=CN (elt:=elt) (gs:=[⟨Zu,iter,ifs,0⟩]) (scope:=scope) (cpos:=cpos) (x:=x) (p:=p) (line:=pos.line) (env:=F.env)
 cases b with
 |true=>exact Ex.u6 hF.Z3 hx (hC _) hb
 |false=>exact Ex.assign hF.Z3 hx (hC _).new.ev hb
theorem LG  (H:Xy C k S)       (hF:XT F)(hx:ZS F.env F.cs x)(hc:UT e=true)(h:ev S n F.env.scope σ.flat e=some a)(ha:listOf a=some ds):
 Ex C k F σ (exec (.Assign [.Name x p] e pos) F.env) .Z2 (σ.set x (.own ds)):=by
 obtain⟨elt,Zu,iter,ifs,scope,cpos,rfl⟩:=Lc hc
 obtain⟨ys,e1,hC⟩:=CH H hF.Z3 h
 subst e1
 cases ha
 obtain⟨b,hb⟩:=CN (elt:=elt) (gs:=[⟨Zu,iter,ifs,0⟩]) (scope:=scope) (cpos:=cpos) (x:=x) (p:=p) (line:=pos.line) (env:=F.env)
 cases b with
 |true=>exact Ex.zX hF.Z3 hx (hC _) hb
 |false=>exact Ex.QP hF.Z3 hx (hC _).new hb
theorem ir  (H:Xy C k S)      (hF:XT F)(hx:ZS F.env F.cs x)(h:Gf S n F.env.scope σ e=some ds):
 Ex C k F σ (exec (.Assign [.Name x p] e pos) F.env) .Z2 (σ.set x (.own ds)):=by
 have so:=sound H n
 exact Tq h (λes p e1 h=>e1 ▸ Zv h λas h1 h=>Zv h λys h2 h=>Zl h λhz h=>by
  have hy:=Zzv h
  rw[<-hy]
  exact Ex.QP hF.Z3 hx (Wj.list (so.Y3 _ _ _ _ hF.Z3 (GF h2 ▸ h1)) hz) (GY rfl))
  λh=>Ii h (λf args ks p1 e1 h=>Fq h (λe2 h=>Ig h (λo name p2 e3 h=>Zl h λhc h=>Z8 hc λhc TC=>Z8 hc λhc hlen=>Z8 hc λhn ZN=>Zv h λa h1 h=>Zv h λas h2 h=>
   YH h λb e4 h=>Zv h λx1 h3 h=>Zv h λy1 h4 h=>Zl h λhz h=>by
    have hn:=eq_of_beq hn
    have hy:=Zzv h
    rw[e4,Y7 h4] at h2
    rw[Y7 h3] at h1
    rw[e1,e2,e3,hn,<-hy]
    exact Ex.QP hF.Z3 hx (Wj.split (so.ev _ _ _ _ hF.Z3 h1) (so.Y3 _ _ _ _ hF.Z3 h2) (beq_eq_false_iff_ne.mpr hz.1) hz.2.1 hz.2.2 (Tb TC) ZN (of_decide_eq_true hlen)) (GY rfl)) nS) nS)
  λh=>Zl h λhc h=>Zv h λa h1 h=>LG H hF hx hc h1 h
theorem fy   (h:JS op a b=some d):ZA C k (inplaceOp op) a b d:=by
 have two:∀{f:Int->Int->Option PV},Qw (.val a) (.val b) f=some d->(∀x y,f x y=some d->ZA C k (inplaceOp op) (.int x) (.int y) d)->ZA C k (inplaceOp op) a b d:=λ{f} h t=>Zv h λx e1 h=>Zv h λy e2 h=>
  Bp (Yo (P:=λv=>v=.val (.int x)) e1 rfl) ▸ Bp (Yo (P:=λv=>v=.val (.int y)) e2 rfl) ▸ t x y h
 cases op with
 | Add=>
   refine Xr h (λh=>two h λx y h=>ZW ?_ h) λh=>Zv h λx e1 h=>Zv h λy e2 h=>Zl h λhz h=>Bp (Y7 e1) ▸ Bp (Y7 e2) ▸ ZW ?_ h
   ·intro A s Q E P va vb hr hg ra rb hb q
    obtain⟨t,rfl⟩:=Zf.mp ra;obtain⟨u,rfl⟩:=Zf.mp rb
    exact PySem.P.iadd_int (q _ _ (ZZ s _) (Zf.mpr ⟨_,rfl⟩))
   ·intro A s Q E P va vb hr hg ra rb hb q
    obtain⟨t,rfl⟩:=Zc.mp ra;obtain⟨u,rfl⟩:=Zc.mp rb
    exact PyProof.Rows.iadd_str (λt' tk=>q _ _ ⟨_,tk,rfl,λ_ _ e=>e⟩ (Zc.mpr ⟨t',rfl⟩)) hz
 | Sub=>
   refine two h λx y h=>ZW ?_ h
   intro A s Q E P va vb hr hg ra rb hb q
   obtain⟨t,rfl⟩:=Zf.mp ra;obtain⟨u,rfl⟩:=Zf.mp rb
   exact PySem.P.isub_int (q _ _ (ZZ s _) (Zf.mpr ⟨_,rfl⟩))
 |_=>exact nS h
theorem gy   [Decidable c] :(if c then some x else none)=some x∨(if c then some x else none)=none:=by
 by_cases h:c
 ·exact .inl (if_pos h)
 ·exact .inr (if_neg h)
theorem Ol{A B C D E:Prop} [Decidable A] [Decidable B] [Decidable C] [Decidable D] [Decidable E] {u:Sem (Option (List oO))}  (hn:¬C->names=xs)(hd:E->D):
 (if A then pure none else if B then pure none else if C then pure none else if D then pure none else if E then u else pure (some names))=pure none∨(if A then pure none else if B then pure none else if C then pure none else if D then pure none else if E then u else pure (some names))=pure (some xs):=by
 by_cases a:A
 ·exact .inl (if_pos a)
 ·rw[if_neg a]
  by_cases b:B
  ·exact .inl (if_pos b)
  ·rw[if_neg b]
   by_cases c:C
   ·exact .inl (if_pos c)
   ·rw[if_neg c,hn c]
    by_cases d:D
    ·exact .inl (if_pos d)
    ·rw[if_neg d,if_neg λe=>d (hd e)]
     exact .inr rfl
theorem uz   {k:γ->β}{l:List γ}(h:∀q,f q=some (k q)∨f q=none)(hl:(l.filterMap f).length=l.length):l.filterMap f=l.map k:=by
 induction l with
 |nil=>rfl
 | cons q l ih=>
   rcases h q with e |e
   ·rw[ZwF e] at hl ⊢
    rw[ih (Zxz hl)];rfl
   ·rw[ZwD e] at hl
    exact absurd (hl ▸ List.length_filterMap_le f l) (Nat.not_succ_le_self _)
noncomputable def uT(qs:List (oO × Pos)):List Zzw:=qs.map λq=>.Name q.1 q.2
theorem H2{qs:List (oO × Pos)}{tp:Pos}  {e:Zzw}  (ho:Vy (uT qs) e=true):
 ZyU [.Tuple (uT qs) kk tp] e env=pure none∨ZyU [.Tuple (uT qs) kk tp] e env=pure (some (qs.map (·.1))):=by
 cases e with
 | Tuple vs k2 p=>
   refine Ol (λhc=>(Zqa).trans (uz (λq=>gy) ?_)) λh=>?_
   ·rw[<-Zqa]
    refine Eq.trans (Decidable.of_not_not λn=>hc ((Zxq _ _).mpr (.inl (bne_iff_ne.mpr n)))) (Zzm _)
   ·rcases (Zxq _ _).mp ho with q |q
    ·rw[h] at q;cases q
    ·exact q
 |_=>exact .inl rfl
theorem Om      (ho:Vy [.Name x p1,.Name y p2] e=true):
 ZyU [.Tuple [.Name x p1,.Name y p2] kk tp] e env=pure none∨ZyU [.Tuple [.Name x p1,.Name y p2] kk tp] e env=pure (some [x,y]):=H2 (qs:=[(x,p1),(y,p2)]) ho
theorem MQ      (ho:Vy [.Name x p1,.Name y p2,.Name z p3] e=true):
 ZyU [.Tuple [.Name x p1,.Name y p2,.Name z p3] kk tp] e env=pure none∨ZyU [.Tuple [.Name x p1,.Name y p2,.Name z p3] kk tp] e env=pure (some [x,y,z]):=H2 (qs:=[(x,p1),(y,p2),(z,p3)]) ho
end
section
variable {C:Cx}{k:Nat}{F:Ye}{N M:Zzq->Prop}{σ σ₁ σ₂:Zx}{s s' s₁:Zzu}{af:Z7}{h h':Zza}
theorem Ex.frozen     (hx:σ x=some (.own ds))(h:Ex C k F (σ.set x (.val (.lst ds))) t af σ'):Ex C k F σ t af σ':=λN M A s Q E hr I q=>by
 obtain⟨M',I',ok⟩:=I.freeze hx
 exact h N M' A s Q E hr I' λfl RG s' WJ RD I0=>q fl RG s' WJ RD ((ok s rfl).trans I0)
theorem wx     (ht:∀σ b,T σ=some b->YV C k F.env σ t b)(hf:∀σ af σ',f σ=some (af,σ')->Ex C k F σ (execs body F.env) af σ')(m:Nat):
 ∀σ af σ',NS T f m σ=some (af,σ')->Hl C k F t body m σ af σ':=by
 induction m with
 |zero=>exact λ_ _ _ h=>nS h
 | succ m ih=>
   intro σ af σ' h
   refine Zv h λb h1 h=>?_
   cases b with
   | true=>
     refine Zv h λp h2 h=>?_
     refine .inr ⟨ht _ _ h1,p.1,p.2,hf _ _ _ h2,?_⟩
     cases p with
     | mk a σ₁=>cases a with
       |Z2=>exact ih _ _ _ h
       |cnt=>exact ih _ _ _ h
       |brk=>cases h;exact⟨rfl,rfl⟩
       |ret d=>cases h;exact⟨rfl,rfl⟩
   |false=>cases h;exact .inl ⟨ht _ _ h1,rfl,rfl⟩
theorem vO    (hf:∀σ d af σ',f σ d=some (af,σ')->∃ps,partsOf Zu d=some ps/\Ex C k F (Zd σ (Z5 Zu) ps) (execs body F.env) af σ')(ds:List PV):
 ∀σ af σ',Qm f ds σ=some (af,σ')->UA C k F Zu body ds σ af σ':=by
 induction ds with
 |nil=>intro σ af σ' h;cases h;exact⟨rfl,rfl⟩
 | cons d r ih=>
   intro σ af σ' h
   refine Zv h λp h2 h=>?_
   refine (hf _ _ _ _ h2).elim λps z=>⟨ps,p.1,p.2,z.1,z.2,?_⟩
   cases p with
   | mk a σ₁=>cases a with
     |Z2=>exact ih _ _ _ h
     |cnt=>exact ih _ _ _ h
     |brk=>cases h;exact⟨rfl,rfl⟩
     |ret d=>cases h;exact⟨rfl,rfl⟩
theorem ij  (H:Xy C k S)     (hF:XT F)(h:JA F.env.scope S n σ e=some d):Ex C k F σ (exec (.Return (some e) pos) F.env) (.ret d) σ:=by
 have so:=sound H n
 have last:(ev S n F.env.scope σ.last e).bind AV.ZC=some d->Ex C k F σ (exec (.Return (some e) pos) F.env) (.ret d) σ:=λh=>Zv h λa h1 h2=>Ex.O3 ((so.ev _ _ _ _ hF.Z3 h1).ev h2)
 exact JZ h (λd' e1 h=>Zv e1 λa h1 h2=>YQ h (λhd h=>Zzv h ▸ Ex.DW ((so.ev _ _ _ _ hF.Z3 h1).ev h2) hd) λ_=>last) last
theorem MD    (h:QH e=true):swapsWithSole [t] e line env=pure false:=by cases e<;>first |rfl |cases h
theorem i9  (h:Qg [x,y]=true):x≠y:=ne_of_beq_false ((Zyj _).mp h)
theorem Ef  (h:Qg [x,y,z]=true):x≠y/\x≠z/\y≠z:=
 Z8 h λh h3=>Z8 h λh1 h2=>⟨ne_of_beq_false ((Zyj _).mp h1),ne_of_beq_false ((Zyj _).mp h2),ne_of_beq_false ((Zyj _).mp h3)⟩
theorem kR       (hf:Zt F.env)(Xk:∀x∈xs,ZS F.env F.cs x)(h1:DX ts=some xs)(An:Qg xs=true)(hl:ds.length=xs.length)(ho:Vy ts e=true)
 (hs:swapsWithSole [.Tuple ts kk tp] e pos.line F.env=pure false) (he:Z1 C k F.env σ e (.val (.tup ds))):Ex C k F σ (exec (.Assign [.Tuple ts kk tp] e pos) F.env) .Z2 (Zd σ xs ds):=by
 refine G9 h1 (λx p y p' e1 h=>?_) λh=>EY h (λx p y p' z Ab e1 h=>?_) nS
 ·have hx:=Zzv h
  rw[e1] at ho hs ⊢
  rw[<-hx] at Xk hl An ⊢
  revert he
  refine Qn (P:=λds=>Z1 C k F.env σ e (.val (.tup ds))->Ex C k F σ _ .Z2 (Zd σ [x,y] ds)) hl λd1 d2 he=>?_
  have sx:=Xk x (.head _)
  have sy:=Xk y (.tail _ (.head _))
  exact (Om (tp:=tp) (kk:=kk) (env:=F.env) ho).elim (Ex.TX hf sx sy he hs) (Ex.fQ hf sx sy (i9 An) he hs)
 ·have hx:=Zzv h
  rw[e1] at ho hs ⊢
  rw[<-hx] at Xk hl An ⊢
  revert he
  refine PG (P:=λds=>Z1 C k F.env σ e (.val (.tup ds))->Ex C k F σ _ .Z2 (Zd σ [x,y,z] ds)) hl λd1 d2 d3 he=>?_
  have sx:=Xk x (.head _)
  have sy:=Xk y (.tail _ (.head _))
  have sz:=Xk z (.tail _ (.tail _ (.head _)))
  have nd:=Ef An
  exact (MQ (tp:=tp) (kk:=kk) (env:=F.env) ho).elim (Ex.mw hf sx sy sz he hs) (Ex.fU hf sx sy sz nd.1 nd.2.1 nd.2.2 he hs)
section
variable {T:St}{n:Nat}{pos:Pos}{σ':Zx}(H:Xy C k T.sg)(hF:XT F)
theorem fE  {P:α->β->Prop}   (q:P a' b')(h:(a,b)=(a',b')):P a b:=by cases h;exact q
theorem C0  {P:α->β->Prop}   (q:P a b)(h:some (a,b)=some (a',b')):P a' b':=by cases h;exact q
include H hF
theorem wZ    (h:P9 T (ev T.sg n) (Gf T.sg n) F.env.scope σ x e=some (af,σ')):Ex C k F σ (exec (.Assign [.Name x p] e pos) F.env) af σ':=
 Zl h λhx h=>YQ h (λ_ h=>Y2 h λds h1 e2=>by cases e2;exact ir H hF (X3 hF hx) h1) λ_ h=>Zl h λhc h=>Zv h λa h1 h=>Y2 h λd h2 e2=>by
  cases e2
  rw[DT (P:=λa=>a=.val d) h2 rfl] at h1
  rcases (Zxq _ _).mp hc with hc |hc
  ·exact Ex.assign hF.Z3 (X3 hF hx) ((sound H n).ev _ _ _ _ hF.Z3 h1) (GY hc)
  ·exact Hx H hF (X3 hF hx) hc h1
theorem w4     (h:P6 (ev T.sg n) F.env.scope σ ts e=some (af,σ')):Ex C k F σ (exec (.Assign [.Tuple ts kk tp] e pos) F.env) af σ':=
 Zl h λhc h=>Z8 hc λho hn=>Zv h λxs h1 h=>Zl h λrK h=>Z8 rK λXk An=>Zv h λa h2 h=>Zv h λds h3 h=>Zl h λhlen h=>by
  cases h
  rw[DH (P:=λa=>a=.val (.tup ds)) h3 rfl] at h2
  exact kR hF.Z3 (λx hx=>X3 hF (ZzD.mp Xk x hx)) h1 An hlen ho (MD hn) ((sound H n).ev _ _ _ _ hF.Z3 h2)
theorem w7     (h:P8 (ev T.sg n) F.env.scope σ x op e=some (af,σ')):Ex C k F σ (exec (.AugAssign (.Name x p) op e pos) F.env) af σ':=
 Zl h λhc h=>Z8 hc λhx hn=>Zv h λv h1 h=>Zv h λa h2 h=>Zv h λb h3 h=>Zv h λb' h4 h=>Y2 h λd h5 e2=>by
  cases e2
  rw[DT (P:=λv=>v=.val a) h2 rfl] at h1
  exact Ex.aug hF.Z3 (X3 hF hx) h1 (((sound H n).ev _ _ _ _ hF.Z3 h3).ev h4) (fy h5) (Yz hn).2
theorem g9   (h:Ex C k F (Q8 σ iter) t af σ'):Ex C k F σ t af σ':=by
 have g:∀x,Ex C k F (match σ x with |some v=>(match v with |.own ds=>σ.set x (.val (.lst ds)) |_=>σ) |none=>σ) t af σ'->Ex C k F σ t af σ':=λx=>by
  cases hx:σ x with
  |none=>exact id
  | some v=>cases v with
    |own ds=>exact λh=>Ex.frozen hx h
    |_=>exact id
 exact Xf (e:=iter) (d:=σ) (r:=Q8 σ iter) rfl (λx p _ e=>g x ((congrArg (λz=>Ex C k F z t af σ') e).mpr h)) λe=>(congrArg (λz=>Ex C k F z t af σ') e).mpr h
theorem w5   (NX:∀σ ss af σ',XU T n F.env.scope σ ss=some (af,σ')->Ex C k F σ (execs ss F.env) af σ')(h:jU (Y4 T.sg n) (XU T n) F.env.scope σ Zu iter body=some (af,σ')):
 Ex C k F σ (exec (.For Zu iter body [] pos) F.env) af σ':=
 Zl h λhc h=>Z8 hc λhx hs=>Zv h λes h1 h=>g9 H hF (iter:=iter) (Ex.for hF.Z3.kind (λx hm=>X3 hF (ZzD.mp hx x hm)) ((sound H n).Y4 _ _ _ _ _ _ hF.Z3 h1)
  (vO (λσ d af σ' h=>Zv h λps h1 h2=>⟨ps,h1,NX _ _ _ _ h2⟩) _ _ _ _ h) (Ml hs))
theorem w6    (h:P7 (ev T.sg n) F.env.scope σ x i=some (af,σ')):Ex C k F σ (exec (.Delete [.Subscript (.Name x p) i ip] pos) F.env) af σ':=
 Zl h λhn h=>Zv h λv h1 h=>Zv h λds h2 h=>Zv h λa h3 h=>Zv h λj h4 h=>Zv h λm h5 h=>Zl h λhc h=>by
  cases h
  rw[Lp h2] at h1
  rw[Yo (P:=λv=>v=.val (.int j)) h4 rfl] at h3
  exact Ex.del hF.Z3 h1 ((sound H n).ev _ _ _ _ hF.Z3 h3) h5 hc.1 hc.2.1 hc.2.2 (Yz hn).2 (Yz hn).1
theorem O2    (h:Sx (ev T.sg n) F.env.scope σ x m e apos cpos=some (af,σ')):Ex C k F σ (exec (.Expr (.Call (.Attribute (.Name x p) m apos) [e] [] cpos) pos) F.env) af σ':=
 Zl h λhc h=>Z8 hc λhc Sl=>Z8 hc λhn ZN=>Zv h λv h1 h=>Zv h λds h2 h=>by
  rw[Lp h2] at h1
  refine Zl h λhm h=>Zv h λa h3 h=>Zv h λd h4 h=>Zl h λhz h=>?_
  cases h
  rw[eq_of_beq hm]
  exact Ex.append hF.Z3 h1 (((sound H n).ev _ _ _ _ hF.Z3 h3).ev h4) hz (Yz hn).2 (Yz hn).1 (Iu hF.Z3) rfl rfl ZN (X4 Sl)
theorem tM      (e1:ts=[t])(e2:t=.Name x p)(h:P9 T (ev T.sg n) (Gf T.sg n) F.env.scope σ x e=some (af,σ')):Ex C k F σ (exec (.Assign ts e pos) F.env) af σ':=by
 rw[e1,e2];exact wZ H hF h
theorem mu      (e1:ts=[t])(e2:t=.Tuple es kk tp)(h:P6 (ev T.sg n) F.env.scope σ es e=some (af,σ')):Ex C k F σ (exec (.Assign ts e pos) F.env) af σ':=by
 rw[e1,e2];exact w4 H hF h
theorem tD      (e2:t=.Name x p)(h:P8 (ev T.sg n) F.env.scope σ x op e=some (af,σ')):Ex C k F σ (exec (.AugAssign t op e pos) F.env) af σ':=by
 rw[e2];exact w7 H hF h
theorem tX     (e1:ts=[t])(e2:t=.Subscript o i ip)(e3:o=.Name x p)(h:P7 (ev T.sg n) F.env.scope σ x i=some (af,σ')):Ex C k F σ (exec (.Delete ts pos) F.env) af σ':=by
 rw[e1,e2,e3];exact w6 H hF h
theorem df      (e1:c=.Call f as ks cpos)(e2:f=.Attribute o m apos)(e3:o=.Name x p)(e4:as=[e])(e5:ks=[])(h:Sx (ev T.sg n) F.env.scope σ x m e apos cpos=some (af,σ')):Ex C k F σ (exec (.Expr c pos) F.env) af σ':=by
 rw[e1,e2,e3,e4,e5];exact O2 H hF h
end
theorem US{T:St}(H:Xy C k T.sg)(hF:XT F)(IA:B8 C k T F)(n:Nat):(∀σ st af σ',XD T n F.env.scope σ st=some (af,σ')->Ex C k F σ (exec st F.env) af σ')/\(∀σ ss af σ',XU T n F.env.scope σ ss=some (af,σ')->Ex C k F σ (execs ss F.env) af σ'):=by
 induction n with
 |zero=>exact⟨λ_ _ _ _ h=>nS h,λ_ _ _ _ h=>nS h⟩
 | succ n ih=>
   obtain⟨Q4,NX⟩:=ih
   have so:=sound H n
   have hf:=hF.Z3
   refine⟨λσ st af σ' h=>?_,λσ ss af σ' h=>?_⟩
   ·have xe:=λh=>IA σ st af σ' h
    cases st with
    |Assign ts e pos=>exact Vk h (λt e1 h=>Xf h (λx p e2 h=>Xr h (λh=>tM H hF e1 e2 h) xe) λh=>QE h (λes kk tp e2 h=>Xr h xe λh=>mu H hF e1 e2 h) xe) xe
    |AugAssign Zu op e pos=>exact Xf h (λx p e2 h=>tD H hF e2 h) xe
    |If t body orelse p=>exact Zv h λb h1 h=>Ex.ite (so.YW _ _ _ _ hf h1) (λe=>NX _ _ _ _ ((if_pos e ▸ h :))) (λe=>NX _ _ _ _ ((if_neg (ne_true_of_eq_false e) ▸ h :)))
    |While t body orelse p=>exact Fq h (λe h=>e ▸ Ex.while (wx (λσ b hb=>so.YW _ _ _ _ hf hb) (λσ af σ' hh=>NX _ _ _ _ hh) _ _ _ _ h)) xe
    |For Zu iter body orelse p=>exact Fq h (λe h=>e ▸ w5 H hF NX h) xe
    |Return e p=>exact JZ h (λd e1 h=>Y2 h λd h1 e2=>fE (P:=λa s=>Ex C k F σ _ a s) (e1 ▸ ij H hF h1) e2) xe
    |Assert t m p=>exact Zv h λb h1 h=>Zl h λhb h=>C0 (P:=λa s=>Ex C k F σ _ a s) (Ex.assert (hb ▸ so.YW _ _ _ _ hf h1)) h
    |Delete ts p=>exact Vk h (λt e1 h=>Tu h (λo i ip e2 h=>Xf h (λx p2 e3 h=>tX H hF e1 e2 e3 h) xe) xe) xe
    |Expr e pos=>exact Ii h (λf args ks cpos e1 h=>Ig h (λo m apos e2 h=>Xf h (λx p e3 h=>Vk h (λa e4 h=>Fq h (λe5 h=>Xr h xe λh=>df H hF e1 e2 e3 e4 e5 h) xe) xe) xe) xe) xe
    |_=>exact xe h
   ·cases ss with
    |nil=>exact C0 (P:=λa s=>Ex C k F σ _ a s) Ex.nil h
    | cons st r=>
      refine Zv h λp h1 h=>?_
      cases p with
      | mk a σ₁=>cases a with
        |Z2=>exact Ex.cons (Q4 _ _ _ _ h1) (NX _ _ _ _ h)
        |brk=>exact C0 (P:=λa s=>Ex C k F σ _ a s) (Ex.stop (Q4 _ _ _ _ h1) Z7.noConfusion) h
        |cnt=>exact C0 (P:=λa s=>Ex C k F σ _ a s) (Ex.stop (Q4 _ _ _ _ h1) Z7.noConfusion) h
        |ret d=>exact C0 (P:=λa s=>Ex C k F σ _ a s) (Ex.stop (Q4 _ _ _ _ h1) Z7.noConfusion) h
end
noncomputable def KR(d:PV):Option Int:=match d with
 |.int i=>some i
 |_=>none
noncomputable def U0(d:PV):Option oO:=match d with
 |.str x=>some x
 |_=>none
theorem BL{α:Type}{f:PV->Option α}{g:α->PV}(hf:∀d a,f d=some a->d=g a) :∀{l:List α},ds.mapM f=some l->ds=l.map g:=by
 induction ds with
 |nil=>exact λ{l} h=>ZW (P:=λl=>[]=l.map g) rfl h
 | cons d ds ih=>
   intro l h
   rw[Zx3] at h
   exact Zv h λa h1 h=>Zv h λas h2 h=>ZW (P:=λl=>d::ds=l.map g) (by rw[ih h2,hf _ _ h1];rfl) h
theorem ints_of  {l:List Int}(h:ds.mapM KR=some l):ds=l.map .int:=BL (λd a e=>by
 cases d with
 |int i=>exact congrArg PV.int (Zzv e)
 |_=>exact nS e) h
theorem wc  {l:List oO}(h:ds.mapM U0=some l):ds=l.map .str:=BL (λd a e=>by
 cases d with
 |str i=>exact congrArg PV.str (Zzv e)
 |_=>exact nS e) h
def Ul(as:List AV):Option PV:=WT as λa=>oc (Yw a) (λx=>if x.length<=Zzx then some (.int x.length) else none)
 ((listOf a).bind λds=>if ds.length<=Zzx then some (.int ds.length) else none)
def Qa(as:List AV):Option PV:=WT as λa=>(Yw a).bind λx=>WT x.cps.toList λc=>some (.int c)
def D6(as:List AV):Option PV:=WT as λa=>(XI a).bind λi=>if 0<=i/\i<=1114111 then some (.str ⟨#[i.toNat]⟩) else none
def B1(as:List AV):Option PV:=WT as λa=>(listOf a).bind λds=>(ds.mapM KR).map λis=>.int is.sum
def FP(x:oO)(as:List AV):Option PV:=
 if x==("len":oO) then Ul as else if x==("ord":oO) then Qa as else if x==("chr":oO) then D6 as else if x==("sum":oO) then B1 as else none
def aq(name x:oO)(as:List AV):Option PV:=match as with
 |[]=>if x.length<=5592405 then (if name==("upper":oO) then some (.str (Zqf x)) else if name==("lower":oO) then some (.str (Zvu x)) else none) else none
 | b::r=>(match r with
   |[]=>oc (Yw b) (λy=>if name==("startswith":oO) then some (.bool (Zy9 x y)) else if name==("endswith":oO) then some (.bool (Zy0 x y)) else if name==("find":oO) then some (.int (Zx1 x y))
    else if name==("split":oO) then (if y.length≠0/\x.length<=Zzx/\(Zz7 x (Zze x y 0 x.length (x.length+1)) y.length).length<=Zzx then some (.lst ((ZyI x y).map .str)) else none) else none)
    (if name==("join":oO) then (listOf b).bind λds=>(ds.mapM U0).bind λys=>if Zvg x ys=true then some (.str (Zy4 x ys)) else none else none)
   |c::r=>(Yw b).bind λy=>(XI c).bind λi=>WT r λe=>(XI e).bind λj=>if name==("find":oO) then some (.int (Xu x y i j)) else none)
def IF(name:oO)(a:AV)(as:List AV):Option PV:=(Yw a).bind λx=>aq name x as
section
variable {C:Cx}{k:Nat}{σ:Zx}{s s' s₁:Zzu}{h h':Zza}{env:Env}
theorem F6   (h:listOf a=some ds):a=.val (.lst ds)∨a=.own ds:=by
 cases a with
 | val d=>cases d with
   |lst m=>exact .inl (by rw[Zzv h])
   |_=>exact nS h
 |own es=>exact .inr (by rw[Zzv h])
 |tab c es=>exact nS h
theorem vG   (h:Ul as=some d):ZG C k (.builtin "len") as d:=
 YH h λa e h=>e ▸ JZ h (λx e h=>Zl h λhc h=>Y7 e ▸ ZW (Rx hc) h) λh=>Zv h λds h1 h=>Zl h λhc h=>ZW (LO (F6 h1) hc) h
theorem wJ   (h:Qa as=some d):ZG C k (.builtin "ord") as d:=
 YH h λa e h=>e ▸ Zv h λx e h=>YH h λc e2 h=>by
  have:x=⟨#[c]⟩:=by
   cases x with
   |mk a=>exact congrArg Str.mk (ZuB e2)
  rw[Y7 e,this]
  exact ZW gA h
theorem ur   (h:D6 as=some d):ZG C k (.builtin "chr") as d:=
 YH h λa e h=>e ▸ Zv h λi e h=>Yo (P:=λa=>ZG C k (.builtin "chr") [a] d) e (Zl h λhc h=>ZW (gM hc.1 hc.2) h)
theorem wd  {d:PV}(h:B1 as=some d):ZG C k (.builtin "sum") as d:=
 YH h λa e h=>e ▸ Zv h λds h1 h=>Y2 h λis h2 e=>e ▸ gC (by rw[h1,ints_of h2])
structure MZ(C:Cx):Prop where
 miss:∀x∈([("len":oO),"ord","chr","sum","max","min"]:List oO),C.mg x=none
 len:C.mb "len"=some (.builtin "len")
 ord:C.mb "ord"=some (.builtin "ord")
 chr:C.mb "chr"=some (.builtin "chr")
 sum:C.mb "sum"=some (.builtin "sum")
 max:C.mb "max"=some (.builtin "max")
 min:C.mb "min"=some (.builtin "min")
theorem gT(B:MZ C)    (h:FP x as=some d)   (hf:Zt env)(hk:env.kindOf x=some .globalImplicit)(ha:ZQ C k env σ args as)(hd:(x==("__debug__":oO))=false):
 Ev C k env σ (.Call (.Name x p) args [] pos) d:=by
 have go:∀{y:oO} {b:String},(x==y)=true->C.mg y=none->C.mb y=some (.builtin b)->ZG C k (.builtin b) as d->Ev C k env σ (.Call (.Name x p) args [] pos) d:=λ{y b} e m i cv=>by
  have e:=eq_of_beq e
  rw[e] at hk hd ⊢
  exact Ev.N3 hf ⟨m,i,hk⟩ ha cv hd
 exact YQ h (λe h=>go e (B.miss _ (.head _)) B.len (vG h)) λ_ h=>YQ h (λe h=>go e (B.miss _ (.tail _ (.head _))) B.ord (wJ h)) λ_ h=>YQ h (λe h=>go e (B.miss _ (.tail _ (.tail _ (.head _)))) B.chr (ur h))
  λ_ h=>Zl h λe h=>go e (B.miss _ (.tail _ (.tail _ (.tail _ (.head _))))) B.sum (wd h)
section
variable {name:oO}{a:AV}{as:List AV}{d:PV}{o:Zzw}{apos pos:Pos}{args:List Zzw}(YI:attributeBase o name env (eval o env)=eval o env)(ZN:(apos.endLine==pos.line)=true)(hl:args.length<29)
include YI ZN hl
theorem di  {T id:String}(e:(name==m)=true)(hT:QN a=some T)(hm:Vm T m id)(hc:ZG C k (.builtin id) (a::as) d)(ho:Z1 C k env σ o a)(ha:ZQ C k env σ args as):Ev C k env σ (.Call (.Attribute o name apos) args [] pos) d:=by
 have e:=eq_of_beq e
 rw[e] at YI ⊢
 exact Ev.method ho hT hm ha hc YI ZN hl
theorem iW{x:oO}(h:aq name x as=some d)(ho:Ev C k env σ o (.str x))(ha:ZQ C k env σ args as):Ev C k env σ (.Call (.Attribute o name apos) args [] pos) d:=by
 have go {as:List AV} {m:oO} {id:String} (e:(name==m)=true) (hm:Vm "str" m id) (hc:ZG C k (.builtin id) (.val (.str x)::as) d) (ha:ZQ C k env σ args as):=di YI ZN hl e rfl hm hc ho ha
 cases as with
 |nil=>exact Zl h λhz h=>YQ h (λe h=>go e m_upper (ZW (zb hz) h) ha) λ_ h=>Zl h λe h=>go e m_lower (ZW (zh hz) h) ha
 | cons b r=>
   cases r with
   | nil=>
     refine JZ h (λy e1 h=>?_) λh=>Zl h λe h=>Zv h λds h1 h=>Zv h λys h2 h=>Zl h λhz h=>?_
     ·rw[Y7 e1] at ha
      refine YQ h (λe h=>go e m_startswith (ZW Nq h) ha) λ_ h=>YQ h (λe h=>go e m_endswith (ZW Hz h) ha) λ_ h=>YQ h (λe h=>go e m_find (ZW uc h) ha)
       λ_ h=>Zl h λe h=>Zl h λhz h=>?_
      have e:=eq_of_beq e
      rw[e] at YI ⊢
      exact ZW (Wj.split ho ha (beq_eq_false_iff_ne.mpr hz.1) hz.2.1 hz.2.2 YI ZN hl).ev h
     ·rw[wc h2] at h1
      exact go e Er (ZW (Td (F6 h1) hz) h) ha
   | cons c r=>
     refine Zv h λy e1 h=>Zv h λi e2 h=>YH h λe e3 h=>Zv h λj e4 h=>Zl h λen h=>?_
     rw[e3,Y7 e1,Yo (P:=λc=>c=.val (.int i)) e2 rfl,Yo (P:=λc=>c=.val (.int j)) e4 rfl] at ha
     exact go en m_find (ZW zt h) ha
theorem iU(h:IF name a as=some d)(ho:Z1 C k env σ o a)(ha:ZQ C k env σ args as):Ev C k env σ (.Call (.Attribute o name apos) args [] pos) d:=
 Zv h λx e h=>iW YI ZN hl h (Vt (P:=λa=>Z1 C k env σ o a->Ev C k env σ o (.str x)) e id ho) ha
end
end
end Mine.Internal
end
section
open PySem PySem.W PyProof.Rows
namespace Mine.Internal.L1
theorem ID  (h:x.length<=Zzx):Ul [.val (.str x)]=some (.int x.length):=if_pos h
theorem Hg  (h:l.length<=Zzx):Ul [.val (.lst l)]=some (.int l.length):=if_pos h
theorem a0  (h:l.length<=Zzx):Ul [.own l]=some (.int l.length):=if_pos h
theorem nX :JS .Add (.int x) (.int y)=some (.int (x+y)):=rfl
theorem nY :JS .Sub (.int x) (.int y)=some (.int (x-y)):=rfl
theorem Q1   (h:x.length<=Zzx):YL (.val (.str x)) a b=some (.str (U4 a b x)):=if_pos h
theorem Af   (h:l.length<=Zzx):YL (.val (.lst l)) a b=some (.lst (Yk a b l)):=if_pos h
theorem bQ  (h:x.length<=Zzx):CV (.str x)=some (x.length != 0):=if_pos h
theorem Rl  :C3 b (.val (.lst l))=some l:=rfl
theorem zH  :C3 b (.val (.str x))=some (x.cps.toList.map λc=>.str ⟨#[c]⟩):=rfl
theorem I5 :listOf (.val (.lst l))=some l:=rfl
theorem zN :listOf (.own l)=some l:=rfl
theorem qG :(AV.val (.str x)).flat=some (.val (.str x)):=rfl
theorem yj :(AV.val (.int i)).flat=some (.val (.int i)):=rfl
theorem aX :(AV.val (.str x)).last=some (.val (.str x)):=rfl
theorem aV :(AV.val (.int i)).last=some (.val (.int i)):=rfl
theorem aW :(AV.own l).last=some (.val (.lst l)):=rfl
theorem tT:true=true:=rfl
theorem tF:false=false:=rfl
theorem tG  (h:b=true):b=true:=h
theorem tH  (h:b=false):b=false:=h
theorem V9{α:Type}{o x:Option α}{r:α}(h:o=some r):Ys o x=some r:=by rw[h];rfl
theorem Uz{α:Type}{o x:Option α}(h:o=none):Ys o x=x:=by rw[h];rfl
structure Rf{α:Type}(a b:α):Prop where
 h:a=b
theorem Mk :YS .Add (.val (.int x)) (.val (.int y))=some (.int (x+y)):=rfl
theorem TR :YS .Sub (.val (.int x)) (.val (.int y))=some (.int (x-y)):=rfl
theorem nt :ZE .Lt (.val (.int x)) (.val (.int y))=some (decide (x<y)):=rfl
theorem qH :ZE .Gt (.val (.int x)) (.val (.int y))=some (decide (y<x)):=rfl
theorem Mq :ZE .Eq (.val (.str x)) (.val (.str y))=some (eqv (.str x) (.str y)):=by unfold ZE;exact if_pos ⟨rfl,(show 0<=8 by decide)⟩
theorem TS :ZE .Eq (.val (.int x)) (.val (.int y))=some (eqv (.int x) (.int y)):=by unfold ZE;exact if_pos ⟨rfl,(show 0<=8 by decide)⟩
theorem TH :ZE .NotEq (.val (.str x)) (.val (.str y))=some (!eqv (.str x) (.str y)):=by unfold ZE;exact if_pos ⟨rfl,(show 0<=8 by decide)⟩
theorem D5 :eqv (.str x) (.str y)=decide (x=y):=rfl
section
variable {S:Sg}{sc:Zz0}{σ:Zx}{n:Nat}{p q:Pos}
theorem UY   (c:(Yl x&&!ZI sc x)=true)(h:σ x=some a):ev S (n+1) sc σ (.Name x p)=some a:=by
 obtain⟨c1,c2⟩:=(ZzQ _ _).mp c
 exact (if_pos c1).trans ((if_neg (ne_true_of_eq_false ((Zyj _).mp c2))).trans h)
theorem Rc   (c:(Yl x&&ZI sc x)=true)(h:S.gv x=some d):ev S (n+1) sc σ (.Name x p)=some (.val d):=by
 obtain⟨c1,c2⟩:=(ZzQ _ _).mp c
 refine (if_pos c1).trans ((if_pos c2).trans ?_)
 rw[h];rfl
theorem W4  :ev S (n+1) sc σ (.Constant (.int i) l p)=some (.val (.int i)):=rfl
theorem YR  :ev S (n+1) sc σ (.Constant (.str i) l p)=some (.val (.str i)):=rfl
theorem KD :ev S (n+1) sc σ (.Constant .none l p)=some (.val .none):=rfl
theorem Sw  :ev S (n+1) sc σ (.Constant (.bool b) l p)=some (.val (.bool b)):=rfl
theorem X9     (h1:ev S n sc σ l=some a)(h2:ev S n sc σ r=some b)(h3:YS op a b=some d):ev S (n+1) sc σ (.BinOp l op r p)=some (.val d):=by
 refine V9 (o:=(ev S n sc σ l).bind λa=>(ev S n sc σ r).bind λb=>(YS op a b).map AV.val) ?_
 rw[h1,Zzb,h2,Zzb,h3];rfl
theorem jJ   (h:ev S n sc σ x=some (.val (.int i))):ev S (n+1) sc σ (.UnaryOp .USub x p)=some (.val (.int (-i))):=by
 show ((ev S n sc σ x).bind _)=_
 rw[h];rfl
theorem Dt     (c:Zy3 op r=false)(h1:ev S n sc σ l=some a)(h2:ev S n sc σ r=some b)(h3:ZE op a b=some d):ev S (n+1) sc σ (.Compare l [op] [r] p)=some (.val (.bool d)):=by
 have e:TZ (ev S n) sc σ l op r=some d:=(if_neg (ne_true_of_eq_false c)).trans (by rw[h1,Zzb,h2,Zzb,h3])
 exact congrArg (ZuA λc=>AV.val (.bool c)) e
theorem X8    (c:WM i=true)(h1:ev S n sc σ o=some a)(h2:ev S n sc σ i=some (.val j))(h3:ZO a j=some d):ev S (n+1) sc σ (.Subscript o i p)=some (.val d):=by
 have e:ev S (n+1) sc σ (.Subscript o i p)=Ys ((ev S n sc σ o).bind λa=>(ev S n sc σ i).bind λj=>j.ZC.bind λj=>(ZO a j).map .val) (S.xe sc σ (.Subscript o i p)):=by
  cases i<;>first |rfl |cases c
 rw[e,h1,Zzb,h2,Zzb]
 exact V9 (congrArg (ZuA _) h3)
theorem PX  {lo hi:Option Zzw}     (h1:ev S n sc σ (.Name x p2)=some a)(h2:FR S n sc σ lo=some l)(h3:FR S n sc σ hi=some u)(h4:YL a l u=some d):ev S (n+1) sc σ (.Subscript (.Name x p2) (.Slice lo hi none p) q)=some (.val d):=by
 show ((ev S n sc σ (.Name x p2)).bind λa=>(FR S n sc σ lo).bind λl=>(FR S n sc σ hi).bind λu=>(YL a l u).map AV.val)=_
 rw[h1,Zzb,h2,Zzb,h3,Zzb,h4];rfl
def NA(S:Sg)(n:Nat)(sc:Zz0)(σ:Zx)(es:List Zzw)(ds:List PV):Prop:=Y3 S n sc σ es=some (ds.map .val)
theorem Jo:NA S (n+1) sc σ [] []:=rfl
theorem VO     (c:notStar e=true)(h1:ev S n sc σ e=some (.val d))(h2:NA S n sc σ r ds):NA S (n+1) sc σ (e::r) (d::ds):=by
 refine (if_pos c).trans ?_
 rw[h1,Zzb,h2];rfl
theorem Ff{ds:List PV}:(ds.map AV.val).mapM AV.ZC=some ds:=by
 induction ds with
 |nil=>rfl
 |cons d ds ih=>rw[ZzG,Zx3,ih];rfl
theorem B2    (h1:NA S n sc σ es ds)(h3:Zjx ds.length Zzx=true):ev S (n+1) sc σ (.Tuple es k p)=some (.val (.tup ds)):=by
 show ((Y3 S n sc σ es).bind λas=>(as.mapM AV.ZC).bind λds=>if ds.length<=Zzx then some (AV.val (.tup ds)) else none)=_
 rw[show Y3 S n sc σ es=_ from h1,Zzb,Ff,Zzb,if_pos (Zvj h3)]
theorem UI   (h1:NA S n sc σ es ds)(h3:Zjx ds.length Zzx=true):ev S (n+1) sc σ (.List es p)=some (.val (.lst ds)):=by
 show ((Y3 S n sc σ es).bind λas=>(as.mapM AV.ZC).bind λds=>if ds.length<=Zzx then some (AV.val (.lst ds)) else none)=_
 rw[show Y3 S n sc σ es=_ from h1,Zzb,Ff,Zzb,if_pos (Zvj h3)]
theorem BR     (h:∀x,k x=d):d1 l k d=d:=Vk (r:=d1 l k d) rfl (λx _ e=>e.symm.trans (h x)) Eq.symm
theorem DN     (h:∀x as,k x as=d):Hn e k d=d:=CF (r:=Hn e k d) rfl (λx _ as _ _ e=>e.symm.trans (h x as)) Eq.symm
theorem Yc     (c:(!(x==("list":oO))&&(Yl x&&ZI sc x&&decide (args.length<29)))=true)(h1:Y3 S n sc σ args=some as)(h2:S.cl x as=some d):ev S (n+1) sc σ (.Call (.Name x p) args [] q)=some (.val d):=by
 obtain⟨c1,c2⟩:=(ZzQ _ _).mp c
 have c1:=(Zyj _).mp c1
 have e:(Y3 S n sc σ args).bind (λas=>(S.cl x as).map AV.val)=some (.val d):=by rw[h1,Zzb,h2];rfl
 refine V9 ((if_pos c2).trans ?_)
 refine (BR λe=>DN λy as=>?_).trans e
 rw[c1];rfl
theorem VF       (c:(p.endLine==q.line&&decide (args.length<29)&&VS o)=true)(h1:ev S n sc σ o=some a)(h2:Y3 S n sc σ args=some as)(h3:S.mt name a as=some d):ev S (n+1) sc σ (.Call (.Attribute o name p) args [] q)=some (.val d):=by
 refine (if_pos c).trans ?_
 rw[h1,Zzb,h2,Zzb,h3];rfl
theorem Xi:Y3 S (n+1) sc σ []=some []:=rfl
theorem Yv     (c:notStar e=true)(h1:ev S n sc σ e=some a)(h2:Y3 S n sc σ r=some as):Y3 S (n+1) sc σ (e::r)=some (a::as):=by
 refine (if_pos c).trans ?_
 rw[h1,Zzb,h2];rfl
theorem uC:FR S (n+1) sc σ none=some none:=rfl
theorem uD   (h:ev S n sc σ e=some (.val (.int i))):FR S (n+1) sc σ (some e)=some (some i):=by
 show ((ev S n sc σ e).bind _)=_
 rw[h];rfl
theorem Y1     (c:Zy3 op r=false)(h1:ev S n sc σ l=some a)(h2:ev S n sc σ r=some b)(h3:ZE op a b=some d):YW S (n+1) sc σ (.Compare l [op] [r] p)=some d:=by
 refine (if_neg (ne_true_of_eq_false c)).trans ?_
 rw[h1,Zzb,h2,Zzb,h3]
theorem GO   (h:VH S n sc σ true vs=some b):YW S (n+1) sc σ (.BoolOp .And vs p)=some b:=h
theorem JN   (h:VH S n sc σ false vs=some b):YW S (n+1) sc σ (.BoolOp .Or vs p)=some b:=h
theorem uA    (c:JU e=true)(h1:ev S n sc σ e=some (.val d))(h2:CV d=some b):YW S (n+1) sc σ e=some b:=by
 have e1:YW S (n+1) sc σ e=if JU e then (ev S n sc σ e).bind λa=>a.ZC.bind CV else none:=by
  cases e<;>first |rfl |cases c
 rw[e1,if_pos c,h1];exact h2
theorem De :VH S (n+1) sc σ all []=some all:=rfl
theorem VL    (h1:YW S n sc σ e=some all)(h2:VH S n sc σ all r=some b):VH S (n+1) sc σ all (e::r)=some b:=by
 show ((YW S n sc σ e).bind λb=>if b==all then VH S n sc σ all r else some b)=_
 rw[h1,Zzb,if_pos (beq_self_eq_true _),h2]
theorem TK   (h1:YW S n sc σ e=some false):VH S (n+1) sc σ true (e::r)=some false:=by
 show ((YW S n sc σ e).bind _)=_
 rw[h1];rfl
theorem Dr   (h1:YW S n sc σ e=some true):VH S (n+1) sc σ false (e::r)=some true:=by
 show ((YW S n sc σ e).bind _)=_
 rw[h1];rfl
theorem Jv{st:Bool}    (h1:ev S n sc σ e=some a)(h2:C3 st a=some ds):Up S (n+1) sc σ st e=some ds:=by
 show ((ev S n sc σ e).bind _)=_
 rw[h1];exact h2
theorem Hq{st:Bool}     (c:ZI sc "range"=true)(h:Y3 S n sc σ args=some [.val (.int b)])(h2:ZF (-(2 ^ 62)) (2 ^ 62) b=true):Y4 S (n+1) sc σ st (.Name x p1) (.Call (.Name "range" p) args [] q)=some (ZR 0 b):=by
 refine V9 (show (if ZI sc "range" then (Y3 S n sc σ args).bind _ else none)=_ from ?_)
 rw[if_pos c,h];exact if_pos h2
theorem zD{st:Bool}     (c:ZI sc "range"=true)(h:Y3 S n sc σ args=some [.val (.int a),.val (.int b)])(h1:ZF (-(2 ^ 62)) (2 ^ 62) a=true)(h2:ZF (-(2 ^ 62)) (2 ^ 62) b=true):Y4 S (n+1) sc σ st (.Name x p1) (.Call (.Name "range" p) args [] q)=some (ZR a b):=by
 refine V9 (show (if ZI sc "range" then (Y3 S n sc σ args).bind _ else none)=_ from ?_)
 rw[if_pos c,h];exact if_pos (by rw[h1,h2];rfl)
theorem Gg{st:Bool}    (h:Up S n sc σ st (.Name y p)=some ds):Y4 S (n+1) sc σ st (.Name x p1) (.Name y p)=some ds:=V9 h
theorem jK{st:Bool}     (h:Up S n sc σ st (.Subscript o i p)=some ds):Y4 S (n+1) sc σ st (.Name x p1) (.Subscript o i p)=some ds:=V9 h
theorem PU{st:Bool}      (h:Up S n sc σ st (.BinOp l op r p)=some ds):Y4 S (n+1) sc σ st (.Name x p1) (.BinOp l op r p)=some ds:=V9 h
theorem Un    (h2:ev S n sc (σ.set x (.val d)) elt=some (.val y)):XR S (n+1) sc σ (.Name x p) [] elt d=some (some y):=congrArg (λo:Option AV=>o.bind λy=>y.ZC.map some) h2
theorem B3    (h2:YW S n sc (σ.set x (.val d)) c=some true)(h3:ev S n sc (σ.set x (.val d)) elt=some (.val y)):XR S (n+1) sc σ (.Name x p) [c] elt d=some (some y):=by
 show ((YW S n sc (σ.set x (.val d)) c).bind _)=_
 rw[h2]
 exact congrArg (λo:Option AV=>o.bind λy=>y.ZC.map some) h3
theorem Gi    (h2:YW S n sc (σ.set x (.val d)) c=some false):XR S (n+1) sc σ (.Name x p) [c] elt d=some none:=by
 show ((YW S n sc (σ.set x (.val d)) c).bind _)=_
 rw[h2];rfl
theorem TU    (h2:YW S n sc (σ.set x (.val d)) c=some true)(h3:ev S n sc (σ.set x (.val d)) elt=none):XR S (n+1) sc σ (.Name x p) [c] elt d=none:=by
 show ((YW S n sc (σ.set x (.val d)) c).bind _)=_
 rw[h2]
 exact congrArg (λo:Option AV=>o.bind λy=>y.ZC.map some) h3
theorem uB  (c:WM i=true)(h1:ev S n sc σ o=none)(h2:Rf (S.xe sc σ (.Subscript o i p)) none):ev S (n+1) sc σ (.Subscript o i p)=none:=by
 have e:ev S (n+1) sc σ (.Subscript o i p)=Ys ((ev S n sc σ o).bind λa=>(ev S n sc σ i).bind λj=>j.ZC.bind λj=>(ZO a j).map .val) (S.xe sc σ (.Subscript o i p)):=by
  cases i<;>first |rfl |cases c
 rw[e,h1];exact h2.h
theorem bM  (c:(Yl x&&!ZI sc x)=true)(h:σ x=none):ev S (n+1) sc σ (.Name x p)=none:=by
 obtain⟨c1,c2⟩:=(ZzQ _ _).mp c
 exact (if_pos c1).trans ((if_neg (ne_true_of_eq_false ((Zyj _).mp c2))).trans h)
theorem bL   (c:(!(y==x))=true)(h:σ y=none):(σ.set x v) y=none:=(if_neg (ne_of_beq_false ((Zyj _).mp c))).trans h
theorem bP    (h:σ x=some (.own l)):Ut scope σ x=none:=by
 unfold Ut;rw[h];exact ite_self _
section
variable {x z:oO}{p1 p2:Pos}{k:Nat}{elt c:Zzw}{d a b y:PV}
theorem PY(h1:Rf d (.tup [a,b]))(h2:ev S n sc ((σ.set x (.val a)).set z (.val b)) elt=some (.val y)):XR S (n+1) sc σ (.Tuple [.Name x p1,.Name z p2] k p) [] elt d=some (some y):=by
 rw[h1.h];exact congrArg (λo:Option AV=>o.bind λy=>y.ZC.map some) h2
theorem TQ(h1:Rf d (.tup [a,b]))(h2:YW S n sc ((σ.set x (.val a)).set z (.val b)) c=some false):XR S (n+1) sc σ (.Tuple [.Name x p1,.Name z p2] k p) [c] elt d=some none:=by
 rw[h1.h]
 show ((YW S n sc ((σ.set x (.val a)).set z (.val b)) c).bind _)=_
 rw[h2];rfl
end
theorem YG  :(σ.set x a) x=some a:=if_pos rfl
theorem J1   (c:(!(y==x))=true)(h:σ y=some a):(σ.set x v) y=some a:=(if_neg (ne_of_beq_false ((Zyj _).mp c))).trans h
theorem N9      (h:(Zd (σ.set x (.val d)) xs ds) y=o):(Zd σ (x::xs) (d::ds)) y=o:=h
theorem Hj   (h:σ y=o):(Zd σ [] []) y=o:=h
theorem bR    (c:(scope.names.lookup x==some .free)=true)(h:σ x=some (.val d)):Ut scope σ x=some (.val d):=(if_pos (eq_of_beq c)).trans (by rw[h];rfl)
theorem bO    (c:(scope.names.lookup x==some .free)=true)(h:σ x=some (.val d)):D7 scope σ x=some (.val d):=(if_pos (eq_of_beq c)).trans (by rw[h];rfl)
theorem bE    (c:(scope.names.lookup x==some .free)=true)(h:σ x=some (.own l)):D7 scope σ x=some (.val (.lst l)):=(if_pos (eq_of_beq c)).trans (by rw[h];rfl)
theorem Ad   (h1:σ x=some a)(h2:a.flat=some b):σ.flat x=some b:=by
 show (σ x).bind _=_
 rw[h1];exact h2
theorem bH   (h1:σ x=some a)(h2:a.last=some b):σ.last x=some b:=by
 show (σ x).bind _=_
 rw[h1];exact h2
end
section
variable {S:Sg}{ow:List oO}{sp:Zx->ZzZ->Option (Z7 × Zx)}{wf:Nat}{sc:Zz0}{σ σ':Zx}{n:Nat}{p q:Pos}
theorem Wa    (c:(Y0 sc x&&!ow.contains x&&(QH e||UT e))=true)(h:ev S n sc σ e=some (.val d)):XD ⟨S,ow,sp,wf⟩ (n+1) sc σ (.Assign [.Name x p] e q)=some (.Z2,σ.set x (.val d)):=by
 obtain⟨c,c3⟩:=(ZzQ _ _).mp c
 obtain⟨c1,c2⟩:=(ZzQ _ _).mp c
 refine V9 ((if_pos c1).trans ((if_neg (ne_true_of_eq_false ((Zyj _).mp c2))).trans ((if_pos c3).trans ?_)))
 rw[h];rfl
theorem TJ    (c:(Y0 sc x&&ow.contains x)=true)(h:Gf S n sc σ e=some ds):XD ⟨S,ow,sp,wf⟩ (n+1) sc σ (.Assign [.Name x p] e q)=some (.Z2,σ.set x (.own ds)):=by
 obtain⟨c1,c2⟩:=(ZzQ _ _).mp c
 refine V9 ((if_pos c1).trans ((if_pos c2).trans ?_))
 rw[h];rfl
theorem jQ   (h1:NA S n sc σ.flat es ds)(h3:Zjx ds.length Zzx=true):Gf S n sc σ (.List es p)=some ds:=by
 show ((Y3 S n sc σ.flat es).bind _)=_
 rw[show Y3 S n sc σ.flat es=_ from h1,Zzb,Ff];exact if_pos (Zvj h3)
theorem Cg       (c0:Rf (sp σ (.Assign [.Tuple ts k tp] e q)) none)(c1:Rf (DX ts) (some xs))(c:((Vy ts e&&QH e)&&(xs.all (Y0 sc)&&Qg xs))=true)(h:ev S n sc σ e=some (.val (.tup ds)))(c2:Rf ds.length xs.length):
 XD ⟨S,ow,sp,wf⟩ (n+1) sc σ (.Assign [.Tuple ts k tp] e q)=some (.Z2,Zd σ xs ds):=by
 obtain⟨c3,c4⟩:=(ZzQ _ _).mp c
 show Ys (sp σ (.Assign [.Tuple ts k tp] e q)) _=_
 rw[c0.h]
 refine (if_pos c3).trans ?_
 rw[c1.h]
 refine (if_pos c4).trans ?_
 rw[h];exact if_pos c2.h
theorem Ds     (c:(Y0 sc x&&Yl x)=true)(h1:σ x=some (.val a))(h2:ev S n sc σ e=some (.val b))(h3:JS op a b=some d):XD ⟨S,ow,sp,wf⟩ (n+1) sc σ (.AugAssign (.Name x p) op e q)=some (.Z2,σ.set x (.val d)):=by
 refine (if_pos c).trans ?_
 rw[h1]
 show ((ev S n sc σ e).bind _)=_
 rw[h2]
 exact congrArg (ZuA λd=>(Z7.Z2,σ.set x (.val d))) h3
theorem Um    (h1:YW S n sc σ t=some true)(h2:XU ⟨S,ow,sp,wf⟩ n sc σ body=some r):XD ⟨S,ow,sp,wf⟩ (n+1) sc σ (.If t body RU p)=some r:=by
 show ((YW S n sc σ t).bind _)=_
 rw[h1];exact h2
theorem WX    (h1:YW S n sc σ t=some false)(h2:XU ⟨S,ow,sp,wf⟩ n sc σ RU=some r):XD ⟨S,ow,sp,wf⟩ (n+1) sc σ (.If t body RU p)=some r:=by
 show ((YW S n sc σ t).bind _)=_
 rw[h1];exact h2
theorem VM   (h:JA sc S n σ e=some d):XD ⟨S,ow,sp,wf⟩ (n+1) sc σ (.Return (some e) p)=some (.ret d,σ):=by
 show (JA sc S n σ e).map _=_
 rw[h];rfl
theorem II   (h:ev S n sc σ e=some (.val d))(c:YY d=true):JA sc S n σ e=some d:=by
 unfold JA;rw[h];exact if_pos c
theorem bN   (h:∀a,ev S n sc σ e=some (.val a)->YY a=true->a=d)(h2:ev S n sc σ.last e=some (.val d)):JA sc S n σ e=some d:=by
 have l:(ev S n sc σ.last e).bind AV.ZC=some d:=by rw[h2];rfl
 unfold JA
 cases he:ev S n sc σ e with
 |none=>exact l
 | some a=>cases a with
   | val a=>
     show (if YY a then some a else _)=_
     by_cases hf:YY a=true
     ·rw[if_pos hf,h a he hf]
     ·rw[if_neg hf];exact l
   |own _=>exact l
   |tab _ _=>exact l
theorem zF    (h:ev S n sc σ e=some (.own l))(h2:ev S n sc σ.last e=some (.val d)):JA sc S n σ e=some d:=bN (λa ha=>by rw[h] at ha;cases ha) h2
theorem uF   (h:ev S n sc σ e=some (.val d))(h2:ev S n sc σ.last e=some (.val d)):JA sc S n σ e=some d:=bN (λa ha _=>by rw[h] at ha;cases ha;rfl) h2
theorem jF   (h:YW S n sc σ t=some true):XD ⟨S,ow,sp,wf⟩ (n+1) sc σ (.Assert t om p)=some (.Z2,σ):=by
 show ((YW S n sc σ t).bind _)=_
 rw[h];rfl
theorem mM       (c:Yl x=true)(h1:σ x=some (.own ds))(h2:ev S n sc σ i=some (.val (.int j)))(h3:seqIndex? j ds.length=some m)(h4:m<ds.length/\Zxf j=true/\ds.length<=Zzx):
 XD ⟨S,ow,sp,wf⟩ (n+1) sc σ (.Delete [.Subscript (.Name x p) i p2] q)=some (.Z2,σ.set x (.own (ds.eraseIdx m))):=by
 refine (if_pos c).trans ?_
 rw[h1]
 show ((ev S n sc σ i).bind _)=_
 rw[h2]
 show ((seqIndex? j ds.length).bind _)=_
 rw[h3];exact if_pos h4
theorem Mz      (c0:Rf (sp σ (.Expr (.Call (.Attribute (.Name x p) "append" ap) [e] [] cp) q)) none)(c:(Yl x&&ap.endLine==cp.line&&notStar e)=true)(h1:σ x=some (.own ds))(h2:ev S n sc σ.flat e=some (.val d))(h3:ds.length<=Zzx):
 XD ⟨S,ow,sp,wf⟩ (n+1) sc σ (.Expr (.Call (.Attribute (.Name x p) "append" ap) [e] [] cp) q)=some (.Z2,σ.set x (.own (ds++[d]))):=by
 show Ys (sp σ (.Expr (.Call (.Attribute (.Name x p) "append" ap) [e] [] cp) q)) _=_
 rw[c0.h]
 refine (if_pos c).trans ?_
 rw[h1]
 show ((ev S n sc σ.flat e).bind _)=_
 rw[h2];exact if_pos h3
theorem sC      (h:sp σ (.Assign [.Tuple ts k tp] e q)=some r):XD ⟨S,ow,sp,wf⟩ (n+1) sc σ (.Assign [.Tuple ts k tp] e q)=some r:=by
 show Ys (sp σ (.Assign [.Tuple ts k tp] e q)) _=_
 rw[h];rfl
theorem WV:XU ⟨S,ow,sp,wf⟩ (n+1) sc σ []=some (.Z2,σ):=rfl
theorem J0{st:ZzZ}   (h1:XD ⟨S,ow,sp,wf⟩ n sc σ st=some (.Z2,σ'))(h2:XU ⟨S,ow,sp,wf⟩ n sc σ' ss=some r):XU ⟨S,ow,sp,wf⟩ (n+1) sc σ (st::ss)=some r:=by
 show ((XD ⟨S,ow,sp,wf⟩ n sc σ st).bind _)=_
 rw[h1];exact h2
theorem Io{st:ZzZ}   (h1:XD ⟨S,ow,sp,wf⟩ n sc σ st=some (.ret d,σ')):XU ⟨S,ow,sp,wf⟩ (n+1) sc σ (st::ss)=some (.ret d,σ'):=by
 show ((XD ⟨S,ow,sp,wf⟩ n sc σ st).bind _)=_
 rw[h1];rfl
theorem sk   (h:σ x=some (.val v)):Q8 σ (.Name x p)=σ:=by
 show (match σ x with |some v=>(match v with |.own ds=>σ.set x (.val (.lst ds)) |_=>σ) |none=>σ)=σ
 rw[h]
theorem vP   (h:σ x=some (.own ds)):Q8 σ (.Name x p)=σ.set x (.val (.lst ds)):=by
 show (match σ x with |some v=>(match v with |.own ds=>σ.set x (.val (.lst ds)) |_=>σ) |none=>σ)=_
 rw[h]
theorem HO  (h:isName e=false):Q8 σ e=σ:=Xf (e:=e) (d:=σ) (r:=Q8 σ e) rfl (λx p e1 _=>by rw[e1] at h;cases h) Eq.symm
theorem Lk        (h0:Q8 σ iter=σ2)(h1:Y0 sc x=true)(h2:XF iter=true)(h4:Y4 T.sg n sc σ2 true (.Name x p1) iter=some ds):
 XD T (n+1) sc σ (.For (.Name x p1) iter body [] p2)=Qm (λσ d=>XU T n sc (σ.set x (.val d)) body) ds σ2:=by
 refine (if_pos (show (([x].all (Y0 sc))&&XF iter)=true from by rw[ZyF,h1,h2];rfl)).trans ?_
 show ((Y4 T.sg n sc (Q8 σ iter) true (.Name x p1) iter).bind λes=>Qm _ es (Q8 σ iter))=_
 rw[h0,h4];rfl
end
end Mine.Internal.L1
end
section
open PySem PySem.W PyProof.Rows
namespace Mine.Internal
abbrev Zk(x:oO):List Nat:=x.cps.toList
theorem ZJ(x:oO):(Zk x).length=x.length:=Zw3
theorem Wn  (h:Zk x=Zk y):x=y:=by
 obtain⟨a⟩:=x;obtain⟨b⟩:=y
 have:a=b:=ZqY.mp h
 rw[this]
theorem gS(l:List Nat):Zk ⟨l.toArray⟩=l:=by simp [Zk]
theorem YK(x y:oO):Zk (x++y)=Zk x++Zk y:=by
 show (x.cps++y.cps).toList=_
 simp [Zk]
noncomputable def Gw(x y:List Nat)(i:Nat):Bool:=y.isPrefixOf (x.drop i)
theorem subAt_eq(x y:oO)(i:Nat):ZxF x y i=Gw (Zk x) (Zk y) i:=by
 unfold ZxF Gw
 have e:(x.cps.extract i (i+y.length)).toList=((Zk x).drop i).take (Zk y).length:=by
  rw[Array.toList_extract,ZJ]
  simp [ZvL]
 rw[ZwX,Zy5,beq_iff_eq]
 constructor
 ·intro h
  have:=congrArg Array.toList h
  rw[e] at this
  have t:=ZqX (Zk y).length ((Zk x).drop i)
  rw[this] at t
  exact t
 ·intro h
  apply ZqY.mp
  rw[e]
  exact (ZwR.mp h).symm
theorem KY :Zy9 x y=true<->Zk y<+:Zk x:=by
 unfold Zy9
 rw[subAt_eq]
 simp only[Gw,ZzQ,decide_eq_true_eq,Zy5,Zv5,ZzP]
 exact⟨λh=>h.2,λh=>⟨by have:=h.length_le;rwa [ZJ,ZJ] at this,h⟩⟩
theorem Js :Zy0 x y=true<->Zk y<:+Zk x:=by
 unfold Zy0
 rw[subAt_eq]
 simp only[Gw,ZzQ,decide_eq_true_eq,Zy5,ZzP]
 constructor
 ·rintro⟨h1,h2⟩
  have e:((Zk x).drop (x.length-y.length)).length=(Zk y).length:=by
   rw[ZzM,ZJ,ZJ];exact Zuj h1
  rw[h2.eq_of_length e.symm]
  exact Zvx _ _
 ·intro h
  have hl:=h.length_le
  rw[ZJ,ZJ] at hl
  refine⟨hl,?_⟩
  rw[Zua.mp h,ZJ,ZJ]
  exact List.prefix_rfl
def Z0(x y:List Nat)(lo hi:Nat):Option Nat:=(ZwP lo (hi+1-lo)).find? λi=>decide (i+y.length<=hi)&&Gw x y i
theorem Lw  (f:α->β->Id (ForInStep β))(g:β->α->β)(h:∀a b,f a b=pure (.yield (g b a))):∀(l:List α) (b:β),forIn (m:=Id) l b f=pure (l.foldl g b)
 |[],b=>rfl
 | a::l,b=>by
   rw[Zys,h]
   exact Lw f g h l (g b a)
noncomputable def V3(x y:oO)(hi limit:Nat)(p:Array Nat × Nat)(i:Nat):Array Nat × Nat:=
 if (decide (p.1.size<limit)&&decide (p.2<=i)&&decide (i+y.length<=hi)&&ZxF x y i)=true then (p.1.push i,i+y.length) else p
theorem MR(x y:oO)(lo hi limit:Nat):Zze x y lo hi limit=((ZwP lo (hi+1-lo)).foldl (V3 x y hi limit) (#[],lo)).1.toList:=by
 unfold Zze
 simp only[Zqx]
 rw[Lw _ (V3 x y hi limit) (λa b=>by unfold V3;split<;>rfl)]
 have:(ZwP lo [lo:hi+1].size)=ZwP lo (hi+1-lo):=by simp [Zke]
 rw[this]
 rfl
noncomputable def occs(x y:List Nat)(hi:Nat):Nat->Nat->List Nat
 |0,_=>[]
 |k+1,lo=>(Z0 x y lo hi).elim [] λp=>p::occs x y hi k (p+y.length)
theorem SP(x y:List Nat){lo hi:Nat}(h:lo<=hi):Z0 x y lo hi=bif decide (lo+y.length<=hi)&&Gw x y lo then some lo else Z0 x y (lo+1) hi:=by
 unfold Z0
 rw[show hi+1-lo=hi+1-(lo+1)+1 from (Zxn (ZwE (Zxr h))).symm,Zvw,List.find?_cons]
 cases (decide (lo+y.length<=hi)&&Gw x y lo)<;>rfl
theorem Vs  {lo hi k:Nat}(h:Z0 x y lo hi=none):occs x y hi (k+1) lo=[]:=congrArg (λo=>Zq8 o [] λp=>p::occs x y hi k (p+y.length)) h
theorem A9  {lo hi k:Nat}(h:hi+1<=lo):occs x y hi k lo=[]:=by
 cases k with
 |zero=>rfl
 |succ k=>exact Vs (by rw[Z0,Zu9 h];rfl)
theorem Jn  {lo hi k p:Nat}(h:Z0 x y lo hi=some p):occs x y hi (k+1) lo=p::occs x y hi k (p+y.length):=congrArg (λo=>Zq8 o [] λp=>p::occs x y hi k (p+y.length)) h
theorem OW  {lo ao hi k:Nat}(h:Z0 x y lo hi=Z0 x y ao hi):occs x y hi (k+1) lo=occs x y hi (k+1) ao:=congrArg (λo=>Zq8 o [] λp=>p::occs x y hi k (p+y.length)) h
theorem OV(x y:oO)(hi limit:Nat)(l:List Nat)(p:Array Nat × Nat)(h:¬p.1.size<limit):l.foldl (V3 x y hi limit) p=p:=by
 induction l with
 |nil=>rfl
 | cons i l ih=>
   have:V3 x y hi limit p i=p:=if_neg (ZvB.mp (by rw[decide_eq_false h];rfl))
   rw[Zxh,this];exact ih
theorem Im    (h:(decide (acc.size<limit)&&decide (free<=i)&&decide (i+y.length<=hi)&&ZxF x y i)=false):V3 x y hi limit (acc,free) i=(acc,free):=if_neg (ZvB.mp h)
def kY(lo free m:Nat):Prop:=(free<=lo/\m=lo)∨(lo<free/\m=free)
theorem BQ{lo free:Nat}(h:lo<=free):kY lo free free:=(Zwj h).elim (λh=>.inr ⟨h,rfl⟩) λe=>.inl ⟨Zya e.symm,e.symm⟩
theorem i7(x y:oO)(hi:Nat)(hy:0<y.length)(n:Nat):∀(lo:Nat) (acc:Array Nat) (free k m:Nat),lo+n=hi+1->kY lo free m->
 ((ZwP lo n).foldl (V3 x y hi (acc.size+k)) (acc,free)).1.toList=acc.toList++occs (Zk x) (Zk y) hi k m:=by
 induction n with
 | zero=>
   intro lo acc free k m h hm
   rw[A9 (h ▸ hm.elim (λq=>Zya q.2.symm) λq=>q.2 ▸ Zzs q.1),ZyZ];rfl
 | succ n ih=>
   intro lo acc free k m h hm
   have h':lo+1+n=hi+1:=by rw[Zxd];exact h
   have Am:lo<=hi:=ZwO (oP (Zzt _ n) (Zya h'))
   rw[Zvw,Zxh]
   rcases hm with ⟨hf,rfl⟩ |⟨hf,rfl⟩
   ·cases k with
    | zero=>
      rw[Im (by rw[Zuk,decide_eq_false (Zxe _)];rfl)]
      exact ih (m+1) acc free 0 (m+1) h' (.inl ⟨ZxD hf,rfl⟩)
    | succ k=>
      have fa:=SP (Zk x) (Zk y) Am
      rw[<-subAt_eq,ZJ] at fa
      cases hc:decide (m+y.length<=hi)&&ZxF x y m with
      | true=>
        rw[hc] at fa
        have e1:V3 x y hi (acc.size+(k+1)) (acc,free) m=(acc.push m,m+y.length):=if_pos (by
         rw[decide_eq_true (Zxo (Zxg k)),decide_eq_true hf,ZxI,ZxI];exact hc)
        have i:=ih (m+1) (acc.push m) (m+y.length) k _ h' (BQ (Zzr hy m))
        rw[ZxV,Zxd,ZxG,Zzo] at i
        rw[e1,Jn fa,ZJ]
        exact i
      | false=>
        rw[hc] at fa
        rw[Im (by rw[Zjy,hc,ZxR]),OW fa]
        exact ih (m+1) acc free (k+1) (m+1) h' (.inl ⟨ZxD hf,rfl⟩)
   ·rw[Im (by rw[decide_eq_false (Nat.not_le_of_lt hf),ZxR];rfl)]
    exact ih (lo+1) acc m k m h' (BQ hf)
theorem occ_eq(x y:oO)(lo hi k:Nat)(hy:0<y.length):Zze x y lo hi k=occs (Zk x) (Zk y) hi k lo:=by
 rw[MR]
 rcases Zx7 lo (hi+1) with h |h
 ·have:=i7 x y hi hy (hi+1-lo) lo #[] lo k lo (Zw4 h) (BQ (Zz1 _))
  rwa [show (#[]:Array Nat).size+k=k from ZzP k] at this
 ·rw[Zu9 h,A9 h];rfl
theorem YD  {lo hi p:Nat}(h:Z0 x y lo hi=some p):lo<=p/\p+y.length<=hi/\y<+:x.drop p:=
 have h0:(decide (p+y.length<=hi)&&Gw x y p)=true:=List.find?_some (p:=λi=>decide (i+y.length<=hi)&&Gw x y i) h
 have h1:=Xw h0
 ⟨(ZvA.mp (ZvH (h:ZqT _ _=_))).1,of_decide_eq_true h1.1,Zy5.mp h1.2⟩
theorem E2{lo p hi k:Nat}(h1:lo<=p)(h2:p+k<=hi):p<lo+(hi+1-lo):=by
 have h:=oP (Zzt p k) h2
 rw[Zw4 (ZxD (oP h1 h))];exact Zxr h
theorem Ur(n:Nat):¬(n:Int)<0:=Zx5.mpr (ZzJ n)
theorem Jh  {lo hi:Nat}(h:Z0 x y lo hi=none)  (h1:lo<=p)(h2:p+y.length<=hi):¬y<+:x.drop p:=
 λhp=>List.find?_eq_none.mp (h:ZqT _ _=_) p (ZvA.mpr ⟨h1,E2 h1 h2⟩) (Zyb.mpr ⟨decide_eq_true h2,Zy5.mpr hp⟩)
theorem Bz  {lo hi p:Nat}(h1:lo<=p)(h2:p+y.length<=hi)(hp:y<+:x.drop p)(h:∀i,lo<=i->i<p->¬y<+:x.drop i):Z0 x y lo hi=some p:=
 ZvT.mpr ⟨Zyb.mpr ⟨decide_eq_true h2,Zy5.mpr hp⟩,ZvA.mpr ⟨h1,E2 h1 h2⟩,λj a b=>by
  have:Gw x y j=false:=ZvB.mpr λe=>h j a b (Zy5.mp e)
  rw[this,ZxR];rfl⟩
theorem VN  (h:i<=n):fromIndex n (i:Int)=i:=by
 unfold fromIndex
 rw[if_neg (Ur i),Zx2 (ZzJ i)];rfl
theorem JQ  {i j:Nat}(R6:i<=j)(hj:j<=x.length):Xu x "" i j=i:=by
 unfold Xu
 rw[VN hj,VN (oP R6 hj),Zy1 hj,MR]
 have e:j+1-i=(j-i)+1:=Nat.succ_sub R6
 rw[e,Zvw,Zxh]
 have e2:ZxF x "" i=true:=(subAt_eq ..).trans rfl
 have e1:V3 x "" j 1 (#[],i) i=(#[i],i):=if_pos (by rw[e2,decide_eq_true (Zz1 i),show ("":oO).length=0 from rfl,Zuk,decide_eq_true R6];rfl)
 rw[e1,OV x "" j 1 _ (#[i],i) (Zxe 1)]
theorem Ik  {i j:Nat}(R6:i<=j)(hj:j<=x.length)(hy:0<y.length):Xu x y i j=(Z0 (Zk x) (Zk y) i j).elim (-1) λp=>(p:Int):=by
 unfold Xu
 rw[VN hj,VN (oP R6 hj),Zy1 hj,occ_eq _ _ _ _ _ hy]
 cases e:Z0 (Zk x) (Zk y) i j with
 |none=>rw[Vs e];rfl
 |some p=>rw[Jn e];rfl
noncomputable def YC(d:List Nat):List (List Nat)->List Nat
 |[]=>[]
 |[p]=>p
 |p::q::r=>p++d++YC d (q::r)
noncomputable def cutsOf(w:Nat)(lo:Nat):List (List Nat)->List Nat
 |[]=>[]
 |[p]=>[]
 |p::q::r=>(lo+p.length)::cutsOf w (lo+p.length+w) (q::r)
theorem yP{a b c:List Nat}:(a++(b++c)).length=a.length+b.length+c.length:=by rw[Zzd,Zzd,ZzA]
theorem O6   (h:(c::d)<+:l):l.head?=some c:=by
 obtain⟨t,rfl⟩:=h;rfl
theorem yT  {d p r pre:List Nat}(hp:c∉p)  (h1:pre.length<=i)(h2:i<pre.length+p.length):¬(c::d)<+:(pre++(p++r)).drop i:=by
 intro h
 have:=O6 h
 rw[List.head?_drop,ZvF h1,ZwW (Nat.sub_lt_left_of_lt_add h1 h2)] at this
 exact hp (ZuD this)
theorem Dg  {d p r pre:List Nat}(hp:c∉p):Z0 (pre++(p++(c::d)++r)) (c::d) pre.length (pre++(p++(c::d)++r)).length=some (pre.length+p.length):=
 Bz (Zzt _ _) (by rw[Zzd,Zzd,Zzd,ZzA];exact Zzr (Zzt _ _) _) (by rw[<-ZwM,Zwa,Zzo,Zwa];exact List.prefix_append _ _)
  λi a b=>by rw[Zzo p];exact yT hp a b
theorem AZ  :∀(ps:List (List Nat)) (p pre:List Nat) (k:Nat),(∀q∈p::ps,c∉q)->ps.length<=k->
 occs (pre++YC (c::d) (p::ps)) (c::d) (pre++YC (c::d) (p::ps)).length k pre.length=cutsOf (c::d).length pre.length (p::ps)
 |[],p,pre,0,_,_=>rfl
 |[],p,pre,k+1,h,_=>Vs (by
  show Z0 (pre++p) (c::d) pre.length (pre++p).length=none
  cases e:Z0 (pre++p) (c::d) pre.length (pre++p).length with
  |none=>rfl
  | some q=>
    obtain⟨h1,h2,h3⟩:=YD e
    rw[Zzd] at h2
    exact absurd h3 (ZyZ p ▸ yT (d:=d) (p:=p) (r:=[]) (pre:=pre) (h p (.head _)) h1 (ZzI (Zxo (Zxg _)) h2)))
 |q::r,p,pre,0,_,hk=>absurd hk (Nat.not_succ_le_zero _)
 | q::r,p,pre,k+1,h,hk=>by
   have ih:=AZ (d:=d) r q (pre++(p++(c::d))) k (λx hx=>h x (.tail _ hx)) (ZwO hk)
   rw[Zzo pre,yP (a:=pre) (b:=p) (c:=c::d)] at ih
   exact (Jn (Dg (h p (.head _)))).trans (congrArg (_::·) ih)
noncomputable def BU(x:List Nat)(w:Nat)(lo:Nat)(Gh:List Nat):List (List Nat):=((lo::Gh.map (·+w)).zip (Gh++[x.length])).map λp=>(x.drop p.1).take (p.2-p.1)
theorem Dv{d:List Nat}:∀(ps:List (List Nat)) (p pre:List Nat),BU (pre++YC d (p::ps)) d.length pre.length (cutsOf d.length pre.length (p::ps))=p::ps
 | [],p,pre=>by
   show [Zut ((pre++p).length-pre.length) ((pre++p).drop pre.length)]=[p]
   rw[Zwa,Zzd,Zz2,Zye]
 | q::r,p,pre=>by
   have ih:=Dv (d:=d) r q (pre++(p++d))
   rw[Zzo pre,yP (a:=pre) (b:=p) (c:=d)] at ih
   have e:((pre++(p++d++YC d (q::r))).drop pre.length).take (pre.length+p.length-pre.length)=p:=by
    rw[Zwa,Zz2,Zzo,Zjw]
   exact congr (congrArg _ e) ih
theorem O7(x:oO)(Gh:List Nat)(w:Nat):(Zz7 x Gh w).map Zk=BU (Zk x) w 0 Gh:=by
 unfold Zz7 BU
 rw[ZyD,ZJ]
 apply Zv2
 intro p _
 simp [Builtin.Str.strSub,Zk,ZvL]
theorem CP(x:oO)(Gh:List Nat)(w:Nat):(Zz7 x Gh w).length=Gh.length+1:=by
 unfold Zz7;simp
theorem Oo{a b:List oO}(h:a.map Zk=b.map Zk):a=b:=(List.map_inj_right λ_ _=>Wn).mp h
theorem Iv  (h:∀c∈Zk x,c<256):Zxj x=1:=by
 unfold Zxj
 rw[if_pos]
 rw[Array.all_eq_true_iff_forall_mem]
 intro c hc
 exact decide_eq_true (h c (by simpa [Zk] using hc))
theorem OH(x:oO):1<=Zxj x:=by
 unfold Zxj
 split
 ·exact Zz1 _
 ·split<;>decide
theorem GK{x:oO}{c:Nat}{d:List Nat}{y:oO}(hy:Zk y=c::d)(p:oO)(ps:List oO)(hx:Zk x=YC (c::d) ((p::ps).map Zk))(hc:∀z∈p::ps,c∉Zk z)(k:Nat)(aL:ps.length<=k):
 Zze x y 0 x.length k=cutsOf (c::d).length 0 ((p::ps).map Zk):=by
 have NV:y.length=(c::d).length:=by rw[<-ZJ,hy]
 rw[occ_eq _ _ _ _ _ (NV ▸ Zxg _),hy,hx]
 have:=AZ (c:=c) (d:=d) (ps.map Zk) (Zk p) [] k (λz hz=>by
  rw[<-ZzG] at hz
  obtain⟨w,hw,rfl⟩:=Zyi.mp hz
  exact hc w hw) (Zzm Zk (as:=ps) ▸ aL)
 rw[ZxU] at this
 rw[<-ZJ,hx]
 exact this
theorem Pg(d:List Nat)(hd:0<d.length)(l:List (List Nat)):∀a:List Nat,l.length<=(YC d (a::l)).length:=by
 induction l with
 |nil=>exact λa=>Zz3 _
 | cons b l ih=>
   intro a
   show l.length+1<=(a++d++YC d (b::l)).length
   rw[Zzd,Zzd]
   exact ZzT .. ▸ Zyy (oP hd (ZzV _ _)) (ih b)
theorem Lu{x p:oO}{c:Nat}{d:List Nat}{ps:List oO}(hx:Zk x=YC (c::d) ((p::ps).map Zk)):ps.length<=x.length:=by
 rw[<-ZJ,hx]
 exact oP (Zya (Zzm Zk (as:=ps)).symm) (Pg (c::d) (Zxg _) (ps.map Zk) (Zk p))
theorem zr(w:Nat)(ps:List (List Nat)):∀(p:List Nat) (lo:Nat),(cutsOf w lo (p::ps)).length=ps.length:=by
 induction ps with
 |nil=>exact λ_ _=>rfl
 |cons q r ih=>exact λp lo=>congrArg (·+1) (ih q (lo+p.length+w))
theorem CL     (hy:Zk y=c::d)(hk:Zxj y=1)(p q:oO)(ps:List oO)(hx:Zk x=YC (c::d) ((p::q::ps).map Zk))(hc:∀z∈p::q::ps,c∉Zk z):
 ZyI x y=p::q::ps:=by
 have NV:y.length=(c::d).length:=by rw[<-ZJ,hy]
 have qh:=GK hy p (q::ps) hx hc
 have hlen:ps.length+1<=x.length:=Lu hx
 unfold ZyI
 rw[hk]
 have nk:decide (Zxj x<1)=false:=by
  have:=OH x
  exact decide_eq_false (Zwr.mpr this)
 rw[nk,Zvz]
 have Fx:¬(decide (x.length<y.length)=true):=by
  rw[decide_eq_true_eq,NV,<-ZJ,hx]
  show ¬(Zk p++(c::d)++YC (c::d) ((q::ps).map Zk)).length<_
  rw[Zzd,Zzd];exact Zwr.mpr (oP (ZzV _ _) (Zzt _ _))
 rw[if_neg Fx]
 rw[qh _ (ZxD hlen)]
 have ne:(cutsOf (c::d).length 0 ((p::q::ps).map Zk)).isEmpty=false:=rfl
 rw[ne,if_neg oD]
 apply Oo
 rw[O7,NV,hx]
 exact Dv (d:=c::d) ((q::ps).map Zk) (Zk p) []
end Mine.Internal
end
section
open PySem PySem.W PyProof.Rows
namespace Mine.Internal.L1
def Gives(T:St)(n:Nat)(sc:Zz0)(σ:Zx)(ss:List ZzZ)(d:PV):Prop:=∃σ',XU T n sc σ ss=some (.ret d,σ')
theorem Gives.next     {st:ZzZ}   (h:XD T n sc σ st=some (.Z2,σ'))(h2:Gives T n sc σ' r d):Gives T (n+1) sc σ (st::r) d:=by
 obtain⟨σ2,e⟩:=h2
 exact⟨σ2,by
  show ((XD T n sc σ st).bind _)=_
  rw[h];exact e⟩
theorem Gives.ret     {st:ZzZ}   (h:XD T n sc σ st=some (.ret d,σ')):Gives T (n+1) sc σ (st::r) d:=⟨σ',by
 show ((XD T n sc σ st).bind _)=_
 rw[h];rfl⟩
section
variable {S:Sg}{ow:List oO}{sp:Zx->ZzZ->Option (Z7 × Zx)}{wf:Nat}{sc:Zz0}{σ σ':Zx}{n:Nat}{p q p2 p3:Pos}
theorem y8     (c:Yl x=true)(h1:σ x=some (.own ds))(h2:ev S n sc σ i=some (.val (.int j)))  (h3:seqIndex? j ds.length=some m)(h4:m<ds.length/\Zxf j=true/\ds.length<=Zzx)(h5:ds.eraseIdx m=ds'):
 XD ⟨S,ow,sp,wf⟩ (n+1) sc σ (.Delete [.Subscript (.Name x p) i p2] q)=some (.Z2,σ.set x (.own ds')):=h5 ▸ mM c h1 h2 h3 h4
theorem mI     (c:(p.endLine==q.line&&decide (args.length<29)&&VS o)=true)(h1:ev S n sc σ.flat o=some (.val (.str x)))(h2:Y3 S n sc σ.flat args=some [.val (.str y)])
 (h3:y.length≠0/\x.length<=Zzx/\(Zz7 x (Zze x y 0 x.length (x.length+1)) y.length).length<=Zzx) (h4:(ZyI x y).map .str=ds):Gf S n sc σ (.Call (.Attribute o "split" p) args [] q)=some ds:=by
 show (if (("split":oO)==("split":oO)&&p.endLine==q.line&&decide (args.length<29)&&VS o)=true then _ else none)=_
 rw[show (("split":oO)==("split":oO))=true from rfl,ZxI,if_pos c,h1,Zzb,h2,Zzb,<-h4]
 exact if_pos h3
def Ht(T:St)(n:Nat)(sc:Zz0)(y:oO)(body:List ZzZ)(ds:List PV)(σ:Zx)(r:Z7 × Zx):Prop:=Qm (λσ d=>XU T n sc (σ.set y (.val d)) body) ds σ=some r
variable {T:St}{y:oO}{body:List ZzZ}{d:PV}{ds:List PV}{r:Z7 × Zx}
theorem mA:Ht T n sc y body [] σ (.Z2,σ):=rfl
theorem mB(h1:XU T n sc (σ.set y (.val d)) body=some (.Z2,σ'))(h2:Ht T n sc y body ds σ' r):Ht T n sc y body (d::ds) σ r:=by
 show ((XU T n sc (σ.set y (.val d)) body).bind _)=_
 rw[h1];exact h2
theorem mC  (h1:XU T n sc (σ.set y (.val d)) body=some (.ret v,σ')):Ht T n sc y body (d::ds) σ (.ret v,σ'):=by
 show ((XU T n sc (σ.set y (.val d)) body).bind _)=_
 rw[h1];rfl
theorem jG  (c:(Y0 sc y&&(Yl x&&!ZI sc x))=true)(h1:σ x=some (.own ds))(h2:Ht ⟨S,ow,sp,wf⟩ (n+3) sc y body ds (σ.set x (.val (.lst ds))) r):XD ⟨S,ow,sp,wf⟩ (n+4) sc σ (.For (.Name y p) (.Name x p2) body [] q)=some r:=by
 obtain⟨c1,c2⟩:=(ZzQ _ _).mp c
 have e:Y4 S (n+3) sc (σ.set x (.val (.lst ds))) true (.Name y p) (.Name x p2)=some ds:=Gg (Jv (UY c2 YG) rfl)
 exact (Lk (T:=⟨S,ow,sp,wf⟩) (vP h1) c1 rfl e).trans h2
end
theorem tU  (h:Zw1 x<=64):YS .Mult (.val (.int x)) (.val (.int y))=some (.int (x*y)):=if_pos h
theorem ko  (h:y≠0):YS .Mod (.val (.int x)) (.val (.int y))=some (.int (x.fmod y)):=if_pos h
theorem tQ  (h:y≠0)(h2:Zx0 x y=false):YS .FloorDiv (.val (.int x)) (.val (.int y))=some (.int (x.fdiv y)):=if_pos ⟨h,h2⟩
theorem dv  (m:Nat)(h:y=(m:Int))(hm:m≠0)(h2:∀x,Zx0 x y=false)(n:Nat):YS .FloorDiv (.val (.int n)) (.val (.int y))=some (.int ((n/m:Nat):Int)):=by
 subst h
 rw[tQ (Zq0.mpr hm) (h2 _),Int.fdiv_eq_ediv_of_nonneg _ (ZzJ m)];rfl
theorem md  (m:Nat)(h:y=(m:Int))(hm:m≠0)(n:Nat):YS .Mod (.val (.int n)) (.val (.int y))=some (.int ((n%m:Nat):Int)):=by
 subst h
 rw[ko (Zq0.mpr hm),ZvD _ (ZzJ m)];rfl
theorem Us  (h:x.length+y.length<=Zzx):YS .Add (.val (.str x)) (.val (.str y))=some (.str (x++y)):=by
 show Ys none (Ys (if x.length+y.length<=Zzx then some (PV.str (x++y)) else none) _)=_
 rw[if_pos h];rfl
theorem Nh  (h1:a<=c)(h2:d<b)(h3:c<=i)(h4:i<=d):ZF a b i=true:=Zyb.mpr ⟨decide_eq_true (Zuz h1 h3),decide_eq_true (Zqg h4 h2)⟩
theorem H9  (h:-1000000000<=i)(h2:i<=1000000000):ZF (-(2 ^ 63)) (2 ^ 63) i=true:=Nh oD oD h h2
theorem fO  (h:0<=i)(h2:i<=1000000000):ZF 0 (2 ^ 63) i=true:=Nh oD oD h h2
theorem Dh{n:Nat}(h:n<=1000000000):ZF (-(2 ^ 62)) (2 ^ 62) (n:Int)=true:=Nh (c:=0) (d:=1000000000) oD oD (ZzJ n) (Zy7.mpr h)
theorem m7{n:Nat}(h:n<=1000000000):ZF (-(2 ^ 63)) (2 ^ 63) (n:Int)=true:=Nh (c:=0) (d:=1000000000) oD oD (ZzJ n) (Zy7.mpr h)
theorem LM   (h:listOf a=some ds):CZ a=none/\Yw a=none:=by
 cases a with
 | val d=>cases d with
   |lst _=>exact⟨rfl,rfl⟩
   |_=>exact nS h
 |own _=>exact⟨rfl,rfl⟩
 |tab _ _=>exact nS h
theorem aJ    (ha:listOf a=some ds):ZO a (.int j)=if ZF 0 (2 ^ 63) j then ds[j.toNat]? else if ZF (-(2 ^ 63)) 0 j&&decide (-(ds.length:Int)<=j) then ds[(j+ds.length).toNat]? else none:=by
 obtain⟨h1,h2⟩:=LM ha
 unfold ZO
 rw[h1,h2,ha];rfl
theorem PC  :ZO (.val (.str x)) (.int j)=if ZF (-(2 ^ 63)) (2 ^ 63) j then (seqIndex? j x.length).bind λm=>x.cps[m]?.map λc=>.str ⟨#[c]⟩ else none:=rfl
theorem FQ    {n:Nat}(ha:listOf a=some ds)(hj:j=(n:Int))(hn:n<=1000000000):ZO a (.int j)=ds[n]?:=by
 rw[aJ ha,hj]
 exact (if_pos (fO (ZzJ n) (Zy7.mpr hn))).trans (by rw[Zxu])
theorem zB{a b:Nat}(h:a<b):ZE .Lt (.val (.int a)) (.val (.int b))=some true:=congrArg some (decide_eq_true (ZyC.mpr h))
theorem zA{a b:Nat}(h:b<=a):ZE .Lt (.val (.int a)) (.val (.int b))=some false:=congrArg some (decide_eq_false (Zx5.mpr (Zy7.mpr h)))
theorem eqT{a b:Nat}(h:a=b):ZE .Eq (.val (.int a)) (.val (.int b))=some true:=TS.trans (congrArg some (decide_eq_true (congrArg _ h)))
theorem yk{a b:Nat}(h:a≠b):ZE .Eq (.val (.int a)) (.val (.int b))=some false:=TS.trans (congrArg some (decide_eq_false λe=>h (Int.ofNat.inj e)))
theorem cP{e:Nat}(h:0<e):(e:Int)-1=((e-1:Nat):Int):=(Zwo h).symm
theorem Zm{n a b:Nat}(h:n<=a)(h2:a<=b:=by decide):n<=b:=oP h h2
theorem Xc{a b:List Nat}  (h:a.length<=m)(h2:b.length<=n):(a++b).length<=m+n:=by rw[Zzd];exact Zyy h h2
theorem HB    (ha:listOf a=some [x,y]):ZO a (.int ((j%2:Nat):Int))=some (if j%2=0 then x else y):=by
 rw[FQ (n:=j%2) ha rfl (Zm (Zzs (ZxN j (oD:0<2))))]
 rcases Nat.mod_two_eq_zero_or_one j with h |h<;>rw[h]<;>rfl
theorem Fx{a b:Nat}(h:a<=b):¬(b:Int)<(a:Int):=Zx5.mpr (Zy7.mpr h)
theorem YT{α:Type}{P:α->Prop}:∀x∈([]:List α),P x:=λ_ h=>nomatch h
theorem Zi{α:Type}{P:α->Prop}{a:α}{l:List α}(h:P a)(h2:∀x∈l,P x):∀x∈a::l,P x:=List.forall_mem_cons.mpr ⟨h,h2⟩
theorem ZT  (h:n<=10000):n<=Zzx:=oP h (by rw[ZzS];decide)
theorem UH{T:List Nat}  (h:b+n<=T.length):((T.drop b).take n).length=n:=by
 rw[ZxP,ZzM];exact Zy1 (ZuZ h)
theorem Lz{T:List Nat}  (h:e<=T.length):((T.take e).drop b).length=e-b:=by
 rw[ZzM,ZxP,Zy1 h]
theorem ox{x b L:Nat}(h:b<=L):x+(L-b)<=L<->x<=b:=by
 obtain⟨k,rfl⟩:=ZvY h
 rw[Zz2];exact Nat.add_le_add_iff_right
theorem oy  (h:b<e)(h2:p+(e-b)<=e-1):p<b:=by
 obtain⟨n,rfl⟩:=ZyV h
 rw[show b+n+1-b=n+1 from Zz2 b (n+1)] at h2
 exact Nat.lt_of_add_lt_add_right (show p+n<b+n from h2)
theorem oz  (h:b<e)(h2:p<b):p+(e-b)<=e-1:=by
 obtain⟨n,rfl⟩:=ZyV h
 rw[show b+n+1-b=n+1 from Zz2 b (n+1)]
 exact ZxM h2 n
theorem Lj  {P:Nat->Zx->Prop} :∀{σ:Zx} (i:Nat),P i σ->(∀j σ d,l[j]?=some d->P (i+j) σ->∃σ',f σ d=some (.Z2,σ')/\P (i+j+1) σ')->∃σ',Qm f l σ=some (.Z2,σ')/\P (i+l.length) σ':=by
 induction l with
 |nil=>exact λ{σ} i h _=>⟨σ,rfl,h⟩
 | cons d l ih=>
   intro σ i h hs
   obtain⟨σ1,e1,h1⟩:=hs 0 σ d rfl h
   obtain⟨σ2,e2,h2⟩:=ih (i+1) h1 λj σ d hj hp=>by
    have e:i+1+j=i+(j+1):=by rw[ZzA,ZzT 1 j]
    rw[e] at hp ⊢
    exact hs (j+1) σ d hj hp
   refine⟨σ2,?_,?_⟩
   ·show ((f σ d).bind _)=_
    rw[e1];exact e2
   ·rw[Zyw,ZzT l.length 1,<-ZzA];exact h2
def S7(fV fA:PV->Option (Option PV))(ds:List PV):Option AV:=
 match Wg fV ds with
 |some ys=>some (.val (.lst ys))
 |none=>(Wg fA ds).bind λys=>if ys.all YY then some (.val (.lst ys)) else none
theorem Tw          (h1:Qf scope Zu=true)(h2:Vb scope sc σ=true)(h3:XF iter=true)(h4:Y4 S n sc σ false Zu iter=some ds)(h5:ds.length<=Zzx):
 ev S (n+1) sc σ (.ListComp elt [⟨Zu,iter,ifs,0⟩] scope p)=S7 (λd=>XR S n (XC scope sc) (Ut scope σ) Zu ifs elt d) (λd=>XR S n (XC scope sc) (D7 scope σ) Zu ifs elt d) ds:=by
 refine (if_pos (by rw[h1,h2,h3];rfl)).trans ?_
 rw[h4,Zzb]
 exact (if_pos h5).trans rfl
theorem ux          (h1:Y0 sc x=true)(h2:XF iter=true)(h3:isName iter=false)(h4:Y4 T.sg n sc σ true (.Name x p1) iter=some ds):
 XD T (n+1) sc σ (.For (.Name x p1) iter body [] p2)=Qm (λσ d=>XU T n sc (σ.set x (.val d)) body) ds σ:=by
 exact Lk (HO h3) h1 h2 h4
def Runs(T:St)(n:Nat)(sc:Zz0)(σ:Zx)(ss:List ZzZ)(Q:Zx->Prop):Prop:=∃σ',XU T n sc σ ss=some (.Z2,σ')/\Q σ'
theorem Runs.next     {st:ZzZ}   (h:XD T n sc σ st=some (.Z2,σ'))(h2:Runs T n sc σ' r Q):Runs T (n+1) sc σ (st::r) Q:=by
 obtain⟨σ2,e,hq⟩:=h2
 exact⟨σ2,J0 h e,hq⟩
theorem Runs.nil      (h:Q σ):Runs T (n+1) sc σ [] Q:=⟨σ,rfl,h⟩
theorem DA  {n:Nat}        {P:Nat->Zx->Prop}(h1:Y0 sc x=true)(h2:XF iter=true)(h3:isName iter=false)(h4:Y4 T.sg n sc σ true (.Name x p1) iter=some ds)
 (h5:P 0 σ) (h6:∀j d σ,ds[j]?=some d->P j σ->Runs T n sc (σ.set x (.val d)) body (P (j+1))):∃σ',XD T (n+1) sc σ (.For (.Name x p1) iter body [] p2)=some (.Z2,σ')/\P ds.length σ':=by
 rw[ux h1 h2 h3 h4]
 have:=Lj (f:=λσ d=>XU T n sc (σ.set x (.val d)) body) (P:=P) (l:=ds) 0 h5 λj σ d hj hp=>by
  rw[ZzP] at hp ⊢
  exact h6 j d σ hj hp
 rwa [ZzP] at this
theorem Gives.for          {d0:PV}  {P:Nat->Zx->Prop}(h1:Y0 sc x=true)(h2:XF iter=true)(h3:isName iter=false)(h4:Y4 T.sg n sc σ true (.Name x p1) iter=some ds)
 (h5:P 0 σ) (h6:∀j d σ,ds[j]?=some d->P j σ->Runs T n sc (σ.set x (.val d)) body (P (j+1))) (h7:∀σ',P ds.length σ'->Gives T (n+1) sc σ' r d0):Gives T (n+2) sc σ (.For (.Name x p1) iter body [] p2::r) d0:=by
 obtain⟨σ',e,hp⟩:=DA (P:=P) h1 h2 h3 h4 h5 h6
 exact Gives.next e (h7 _ hp)
theorem Runs.for          {Q:Zx->Prop}  {P:Nat->Zx->Prop}(h1:Y0 sc x=true)(h2:XF iter=true)(h3:isName iter=false)(h4:Y4 T.sg n sc σ true (.Name x p1) iter=some ds)
 (h5:P 0 σ) (h6:∀j d σ,ds[j]?=some d->P j σ->Runs T n sc (σ.set x (.val d)) body (P (j+1))) (h7:∀σ',P ds.length σ'->Runs T (n+1) sc σ' r Q):Runs T (n+2) sc σ (.For (.Name x p1) iter body [] p2::r) Q:=by
 obtain⟨σ',e,hp⟩:=DA (P:=P) h1 h2 h3 h4 h5 h6
 exact Runs.next e (h7 _ hp)
theorem Wv   (xs:List oO)(h:(scope.names.all λx=>x.2 != .free||(xs.contains x.1&&(sc.names.lookup x.1==some .cell||sc.names.lookup x.1==some .free)))=true)(h2:xs.all (λx=>(σ x).isSome)=true):Vb scope sc σ=true:=by
 rw[Vb,ZzD] at *
 intro x hx
 have:=h x hx
 simp only[Zxq,ZzQ] at this ⊢
 rcases this with h |⟨h,h3⟩
 ·exact .inl h
 ·exact .inr ⟨h2 _ (Zxa.mp h),h3⟩
theorem DU  {j:Nat}  (h:(ZR a b)[j]?=some d):d=.int (a+j)/\(j:Int)<b-a:=by
 unfold ZR at h
 rw[Zyk] at h
 obtain⟨i,h1,h2⟩:=mS h
 obtain⟨h3,h4⟩:=Zyt.mp h1
 simp at h3 h4
 subst h4
 exact⟨h2.symm,h3⟩
theorem GV(a b:Int):(ZR a b).length=(b-a).toNat:=by simp [ZR]
theorem zp   :Wg f (d::r)=(f d).bind λo=>o.elim (Wg f r) λy=>(Wg f r).map (y::·):=rfl
theorem Ih    :∀{l:List β},(∀x∈l,fn (f x)=some (q x))->Wg fn (l.map f)=some (l.filterMap q)
 |[],_=>rfl
 | x::l,h=>by
   rw[ZzG,zp,h x (.head _),Zzb,Ih λy hy=>h y (.tail _ hy)]
   cases hq:q x with
   |none=>rw[ZwD hq];rfl
   |some y=>rw[ZwF hq];rfl
theorem Dd    :∀{l:List β} {ys:List PV},(∀x∈l,fn (f x)=none∨fn (f x)=some (q x))->Wg fn (l.map f)=some ys->ys=l.filterMap q
 |[],ys,_,h=>(Zzv h).symm
 | x::l,ys,hf,h=>Zv h λo e h=>by
   have ih:=λys=>Dd (fn:=fn) (f:=f) (q:=q) (l:=l) (ys:=ys) λy hy=>hf y (.tail _ hy)
   cases Zzv (((hf x (.head _)).resolve_left λn=>nS (n.symm.trans e)).symm.trans e)
   cases hq:q x with
   |none=>rw[hq] at h;rw[ZwD hq];exact ih _ h
   |some y=>rw[hq] at h;rw[ZwF hq];exact Y2 h λzs h1 e=>e.trans (congrArg _ (ih _ h1))
section
variable {S:Sg}{n:Nat}{sc:Zz0}{σ:Zx}{elt Zu iter:Zzw}{ifs:List Zzw}{scope:Zz0}{p:Pos}{β:Type}{f:β->PV}{l:List β}
theorem NN(q:β->Option PV)(h1:Qf scope Zu=true)(h2:Vb scope sc σ=true)(h3:XF iter=true)(h4:Y4 S n sc σ false Zu iter=some (l.map f))(h5:l.length<=Zzx)
 (h6:∀x∈l,XR S n (XC scope sc) (Ut scope σ) Zu ifs elt (f x)=some (q x)):ev S (n+1) sc σ (.ListComp elt [⟨Zu,iter,ifs,0⟩] scope p)=some (.val (.lst (l.filterMap q))):=by
 rw[Tw h1 h2 h3 h4 (by rw[Zzm];exact h5),S7,Ih (q:=q) h6]
theorem Ce(k:β->PV)(h1:Qf scope Zu=true)(h2:Vb scope sc σ=true)(h3:XF iter=true)(h4:Y4 S n sc σ false Zu iter=some (l.map f))(h5:l.length<=Zzx)
 (h6:∀x∈l,XR S n (XC scope sc) (Ut scope σ) Zu ifs elt (f x)=some (some (k x))):ev S (n+1) sc σ (.ListComp elt [⟨Zu,iter,ifs,0⟩] scope p)=some (.val (.lst (l.map k))):=by
 rw[NN (λx=>some (k x)) h1 h2 h3 h4 h5 h6]
 congr 3
 exact ZuY ▸ rfl
theorem tY(q:β->Option PV)(h1:Qf scope Zu=true)(h2:Vb scope sc σ=true)(h3:XF iter=true)(h4:Y4 S n sc σ false Zu iter=some (l.map f))(h5:l.length<=Zzx)
 (h6:∀x∈l,XR S n (XC scope sc) (D7 scope σ) Zu ifs elt (f x)=some (q x)) (h7:∀x∈l,XR S n (XC scope sc) (Ut scope σ) Zu ifs elt (f x)=none∨XR S n (XC scope sc) (Ut scope σ) Zu ifs elt (f x)=some (q x))
 (h8:(l.filterMap q).all YY=true):ev S (n+1) sc σ (.ListComp elt [⟨Zu,iter,ifs,0⟩] scope p)=some (.val (.lst (l.filterMap q))):=by
 rw[Tw h1 h2 h3 h4 (by rw[Zzm];exact h5),S7]
 cases e:Wg (λd=>XR S n (XC scope sc) (Ut scope σ) Zu ifs elt d) (l.map f) with
 |some ys=>rw[Dd h7 e]
 | none=>
   show (Wg _ (l.map f)).bind _=_
   rw[Ih (q:=q) h6];exact if_pos h8
end
noncomputable def cj(s:ZzZ):List ZzZ:=@ZxE (λ_=>List ZzZ) s (λ_ _ _ _ _ _ _ _ _ _=>[]) (λ_ _ _ _ _ _ _ _ _ _=>[]) (λ_ _ _ _ _ _ _ _ _ _ _=>[]) (λ_ _=>[]) (λ_ _=>[]) (λ_ _ _=>[]) (λ_ _ _ _ _ _ _=>[]) (λ_ _ _ _=>[]) (λ_ _ _ _ _=>[]) (λ_ _ b _ _=>b) (λ_ _ _ _ _=>[]) (λ_ b _ _=>b) (λ_ b _ _=>b) (λ_ _ _=>[]) (λ_ _ _=>[]) (λ_ _ _=>[]) (λ_ _ _=>[]) (λ_ _ _ _ _=>[]) (λ_ _ _ _ _=>[]) (λ_ _ _=>[]) (λ_ _=>[]) (λ_ _ _ _=>[]) (λ_ _=>[]) (λ_ _=>[]) (λ_ _=>[]) (λ_=>[]) (λ_=>[]) (λ_=>[])
def bodyOf(s:Option ZzZ):List ZzZ:=@Zu7 ZzZ (λ_=>List ZzZ) s [] cj
end Mine.Internal.L1
end
section
open PySem PySem.W PyProof.Rows
namespace Mine.Internal
noncomputable def EZ(fd:Zyr):Bool:=fd.globals==mainGlobals&&fd.builtins==builtinsNs&&fd.closure.isEmpty&&!fd.scope.isCoroutine&&!fd.scope.isGenerator&&fd.scope.kind==.function&&
 fd.scope.names.all (λx=>x.2 != .cell||fd.scope.names.lookup x.1==some .cell)
theorem XJ   {o oc:Obj}     (ho:∀h,C.G h->h.get? f=some o)(hd:o.data=.func fd)(qh:∀h,C.G h->h.get? c=some oc)(hc:fd.code=.ref c)
 (eS:oc.data=.fields vs) (hq:vs[1]?=some (.str fd.qualname t)) (hb:EZ fd=true) (dN:fd.body=.stmts body):Yt C f fd body:=by
 unfold EZ at hb
 simp only[ZzQ,beq_iff_eq,Zyj,List.isEmpty_iff,ZzD,Zxq,bne_iff_ne] at hb
 obtain⟨⟨⟨⟨⟨⟨b1,b2⟩,b3⟩,b4⟩,b5⟩,b6⟩,b7⟩:=hb
 exact⟨λh g=>⟨o,ho h g,hd⟩,λh g=>⟨c,oc,vs,t,hc,qh h g,eS,hq⟩,b1,b2,b3,dN,b4,b5,b6,λx hx e=>(b7 x hx).resolve_left λn=>n e⟩
theorem VK     (ho:∀h,C.G h->h.get? f=some o)(hd:o.data=.func fd):XH C f:=⟨o,fd,ho,hd⟩
noncomputable def Wf(o:Obj):Array Zzy:=match o.data with |.fields vs=>vs |_=>#[]
noncomputable def Wi(o:Obj):Zyr:=match o.data with |.func f=>f |_=>default
end Mine.Internal
end
section
open PySem PySem.W PyProof.Rows
open Sem (wp)
namespace Mine.Internal
section
variable {C:Cx}{k:Nat}{σ:Zx}{s s' s₁:Zzu}{h h':Zza}{env:Env}
theorem Ev.inSet        (hf:Zt env)(he:Ev C k env σ e (.int i))(hx:Ah C env x (.ref a))
 (hS:∀h,C.G h->h.SetOf (intKind C.prog C.w) a S n) (hm:Zy3 .In (.Name x p)=false) (hd:(x==("__debug__":oO))=false:=by decide):Ev C k env σ (.Compare e [.In] [.Name x p] pos) (.bool (S i)):=λA s Q E P hr hg hh hb q=>by
 refine wpAny_Compare1 (he A s _ _ P hr hg hh hb λv s₁ k₁ r₁=>?_) hm
 have x₁:=Zw k₁
 obtain⟨t,rfl⟩:=Zf.mp r₁
 refine Jf hf hx (C.ext hg x₁) ?_ hd
 refine wpAny_inSet_of (knd:=intKind C.prog C.w) (k:=i) (by simp [intKind,Value.isInt]) rfl (hS _ (C.ext hg x₁)) ?_
 exact q _ _ (Zq k₁ (ZZ _ _)) (ZV.mpr rfl)
theorem Ev.dictGet        (hf:Zt env)(he:Ev C k env σ e (.int i))(hx:Ah C env x (.ref a))(ha:(a==sysModules)=false)
 (hS:∀h,C.G h->h.MapOf (intKind C.prog C.w) a f) (hv:∀P h,Rep P h d ((f i).getD .none)) (FG:Zyf [e] env=[(false,eval e env)])
 (YI:attributeBase (.Name x p) "get" env (eval (.Name x p) env)=eval (.Name x p) env) (ZN:(apos.endLine==pos.line)=true)
 (hd:(x==("__debug__":oO))=false:=by decide):Ev C k env σ (.Call (.Attribute (.Name x p) "get" apos) [e] [] pos) d:=λA s Q E P hr hg hh hb q=>by
 refine wpAny_Call_method (T:="dict") (id:="dict.get") YI ?_ ZN ZuN F.slot_dict_get F.type_dict_get ?_
 ·rw[FG];rfl
 ·refine Jf hf hx hg ?_ hd
  have hm:=hS _ hg
  refine⟨hm.typeIs,hm.noDict,?_⟩
  ·rw[FG]
   show wpAny C.M A (callWith pos (.builtin "dict.get") [.ref a] [(false,eval e env)] []) Q E s
   refine wpAny_dict_get1 (knd:=intKind C.prog C.w) ha ?_
   refine he A s _ _ P hr hg hh hb λv s₁ k₁ r₁=>?_
   obtain⟨t,rfl⟩:=Zf.mp r₁
   exact⟨i,f,by simp [intKind,Value.isInt],hS _ (C.ext hg (Zw k₁)),q _ _ (Zq k₁ (ZZ _ _)) (hv _ _)⟩
end
end Mine.Internal
end
section
open PySem PySem.W PyProof.Rows
namespace Mine.Internal
structure Yh(C:Cx)(name:oO)(sc:Zz0)(body:List ZzZ)(xs:List oO):Prop where
 ex:∃f fd,C.mg name=some (.ref f)/\XH C f/\Yt C f fd body/\fd.scope=sc/\∀s vals,vals.length=xs.length->Zxb s fd ⟨vals,[]⟩ (xs.zip vals)
noncomputable def Nd:Z7->Option PV
 |.ret d=>some d
 |.Z2=>some .none
 |.brk=>none
 |.cnt=>none
def Fb(T:St)(n:Nat)(sc:Zz0)(body:List ZzZ)(xs:List oO)(as:List AV):Option PV:=
 if as.length=xs.length then (XU T n sc (Zd (λ_=>none) xs (as.map AV.pv)) body).bind λp=>Nd p.1 else none
theorem O4   (h:Nd a=some d):a=.ret d∨(a=.Z2/\d=.none):=by
 cases a with
 |ret _=>cases h;exact .inl rfl
 |Z2=>cases h;exact .inr ⟨rfl,rfl⟩
 |_=>exact nS h
def Xg(sc:Zz0)(xs:List oO):Bool:=xs.all λx=>sc.names.lookup x==some .local||(ZU sc.names).contains x
theorem Ui   (h:Xg sc xs=true):∀x∈xs,sc.names.lookup x=some .local∨x∈ZU sc.names:=λx hx=>((Zxq _ _).mp (ZzD.mp h x hx)).imp eq_of_beq Zxa.mp
theorem Fg.s   (h:Fg F fd):XT F:=⟨h.Z3,by rw[h.cs,h.scope],trivial⟩
theorem ZG.own           (H:Xy C k T.sg)(IA:∀F:Ye,F.env.scope=sc->XT F->B8 C k T F)
 (D:Yh C name sc body xs) (hx:Xg sc xs=true) (h:Fb T n sc body xs as=some d):∃f,C.mg name=some (.ref f)/\XH C f/\ZG C (k+1) (.ref f) as d:=by
 obtain⟨f,fd,h1,h2,h3,h4,h5⟩:=D.ex
 refine⟨f,h1,h2,?_⟩
 refine Zl h λhl h=>Zv h λp e h=>?_
 exact ZG.Ei h3 (h4 ▸ Ui hx) hl.symm (λs vals _ hv=>h5 s vals hv) (O4 h) λF hF=>(US H hF.s (IA F (hF.scope.trans h4) hF.s) n).2 _ _ _ _ (by rw[hF.scope,h4];exact e)
def Y5(C:Cx)(k₀:Nat)(S:Sg):Prop:=∀k,k₀<=k->Xy C k S
noncomputable def Sg.add(S:Sg)(name:oO)(g:List AV->Option PV):Sg:=⟨λx as=>if x==name then g as else S.cl x as,S.mt,S.gv,S.xe,S.xi⟩
theorem Y5.call      (H:Y5 C k₀ S)(hg:∀k as d,k₀<=k->g as=some d->∃f,C.mg name=some (.ref f)/\XH C f/\ZG C (k+1) (.ref f) as d):Y5 C (k₀+1) (S.add name g):=λk hk=>by
 have K:=H k (Zyx hk)
 refine⟨λx as d h env σ p pos args hf Q6 ha hd hl=>?_,K.mt,K.gv,K.xe,K.xi,K.bi,K.list,K.range,K.zip⟩
 unfold Sg.add at h
 dsimp only at h
 split at h
 ·rename_i e
  have e:=beq_iff_eq.mp e
  subst e
  obtain⟨k',rfl⟩:∃k',k=k'+1:=⟨k-1,(Zxn (oP (ZzV 1 k₀) hk)).symm⟩
  obtain⟨f,h1,h2,h3⟩:=hg k' as d (ZwO hk) h
  exact Ev.cu hf ⟨h1,Q6⟩ h2 ha h3 hd
 ·exact K.cl x as d h env σ p pos args hf Q6 ha hd hl
theorem Y5.own         (H:Y5 C k₀ T.sg)(IA:∀k F,k₀<=k->F.env.scope=sc->XT F->B8 C k T F)
 (D:Yh C name sc body xs) (hx:Xg sc xs=true):Y5 C (k₀+1) (T.sg.add name (Fb T n sc body xs)):=
 H.call λk as d hk h=>ZG.own (H k hk) (λF e f=>IA k F hk e f) D hx h
theorem JM(C:Cx)(k:Nat)(F:Ye)  (h:T.sp=λ_ _=>none):B8 C k T F:=λσ st af σ' e=>by rw[h] at e;cases e
theorem Y5.base  (B:MZ C)  (qZ:∀x d,gv x=some d->∃v,C.mg x=some v/\∀P h,Rep P h d v)(eE:∀x,x=("list":oO)∨x=("range":oO)∨x=("zip":oO)->C.mg x=none)
 (h1:C.mb "list"=some (.type "list")) (h2:C.mb "range"=some (.type "range")) (h3:C.mb "zip"=some (.type "zip")):Y5 C 0 ⟨FP,IF,gv,λ_ _ _=>none,λ_ _ _ _ _=>none⟩:=λk _=>
 ⟨λx as d h env σ p pos args hf hk ha hd hl=>gT B h hf hk ha hd,λname a as d h env σ o apos pos args ho ha hb hl hn=>iU hb hl hn h ho ha,qZ,λenv σ e a hf h=>(by cases h),λenv σ st Zu e ds hf h=>(by cases h),eE,h1,h2,h3⟩
end Mine.Internal
end
section
open PySem PySem.W PyProof.Rows
open Sem (wp)
namespace Mine.Internal
section
variable {C:Cx}{k:Nat}{σ:Zx}{s s' s₁:Zzu}{h h':Zza}{env:Env}
theorem Pn  (hi:i.natAbs.log2<1920):ZG C k (.type "str") [.val (.int i)] (.str (ZzB (toString i))):=λA s Q E P vs hr hg rr hb q=>by
 obtain⟨v,rfl,rv⟩:=XK rr
 obtain⟨t,rfl⟩:=Wd rv
 exact PySem.P.str_of_int hi (q _ _ (ZZ s _) (Zc.mpr ⟨_,rfl⟩))
theorem Pl   (hn:ZuX x=some n)(hl:x.length<=640):ZG C k (.type "int") [.val (.str x)] (.int n):=λA s Q E P vs hr hg rr hb q=>by
 obtain⟨v,rfl,rv⟩:=XK rr
 obtain⟨t,rfl⟩:=Yj rv
 exact KIN.call_text hn hl (q _ _ (ZZ s _) (Zf.mpr ⟨_,rfl⟩))
theorem ud :ZG C k (.builtin "max") [.val (.int a),.val (.int b)] (.int (max a b)):=λA s Q E P vs hr hg rr hb q=>by
 obtain⟨v,u,rfl,rv,ru⟩:=V0 rr
 obtain⟨t,rfl⟩:=Wd rv
 obtain⟨t',rfl⟩:=Wd ru
 refine max_two_ints hr.handled λh' tk hk=>q _ _ ⟨h',tk,rfl,hk⟩ (Zf.mpr ?_)
 by_cases hc:b > a
 ·rw[if_pos hc];exact⟨t',by rw[Zx2 (Zuw hc)]⟩
 ·rw[if_neg hc];exact⟨t,by rw[Zus (Zx5.mp hc)]⟩
noncomputable def minOf:List Int->Int
 |[]=>0
 |a::l=>l.foldl min a
theorem Dc(f:Nat->Int):∀n,f (argBest (λi j=>decide (f i<f j)) n)=((ZzW n).map λi=>f (i+1)).foldl min (f 0)
 |0=>rfl
 | n+1=>by
   have ih:=Dc f n
   rw[Zur,Zz9,Zq1,<-ih]
   simp only[argBest,ZzG,Zxw,Zxh,List.foldl_nil]
   by_cases c:f (n+1)<f (argBest (λi j=>decide (f i<f j)) n)
   ·rw[if_pos (decide_eq_true c)];exact (ZvO (Zuw c)).symm
   ·rw[if_neg (by rw[decide_eq_false c];exact Zz6)];exact (Zw9 (Zx5.mp c)).symm
theorem Ry   (ha:listOf a=some (is.map .int))(WQ:is≠[]):ZG C k (.builtin "min") [a] (.int (minOf is)):=λA s Q E P vs hr hg rr hb q=>by
 obtain⟨v,rfl,rv⟩:=XK rr
 obtain⟨b,xs,rfl,hL,e⟩:=ints_list ha rv
 have len:xs.size=is.length:=by rw[<-e];simp
 have TN:0<is.length:=Zqw.mpr WQ
 refine min_intList hr.handled hL (by rw[len];exact TN) λv h' tk hv hk=>?_
 obtain⟨t,rfl⟩:=intItems_at hv
 refine q _ _ ⟨h',tk,rfl,hk⟩ (Zf.mpr ⟨t,?_⟩)
 rw[Dc (numAt xs)]
 have hn:∀i,numAt xs i=(is[i]?).getD 0:=λi=>by
  rw[<-e];simp [numAt]
 rcases is with _ |⟨i0,is⟩
 ·simp at TN
 ·show _=Zwk (is.foldl min i0) t
  have l1:xs.size-1=is.length:=by rw[len];rfl
  rw[l1]
  have:(ZzW is.length).map (λi=>numAt xs (i+1))=is:=by
   refine List.ext_getElem? λi=>?_
   by_cases hi:i<is.length
   ·rw[Zyk,Zv3 hi,gE hi]
    simp [hn,hi]
   ·rw[Zwn (by simpa using hi),Zwn (by simpa using hi)]
  rw[this,hn 0];simp
end
end Mine.Internal
end
section
open PySem PySem.W PyProof.Rows
open Sem (wp)
namespace Mine.Internal
theorem GW        (r:Runs M Γ p t fs s e s'):s.toks<=s'.toks:=by
 induction r with
 |done=>exact Zz1 _
 |raise=>exact Zz1 _
 |yield=>exact Zz1 _
 |fresh _ ih=>exact Zyx ih
 |call _ _ Q4 IC=>exact oP Q4 IC
 |resumeFresh _ _ _ _ Q4 IC=>exact oP Q4 IC
 |resumeSuspended _ _ _ _ Q4 IC=>exact oP Q4 IC
 |segRet _ _ Q4 IC=>exact oP Q4 IC
 |segGen _ _ Q4 IC=>exact oP Q4 IC
 |segSuspGen _ _ _ _ Q4 IC=>exact oP Q4 IC
 |_=>assumption
theorem SQ        (h:Wakes M Γ p g r s res s'):s.toks<=s'.toks:=by
 unfold Wakes at h
 split at h
 ·exact h.elim
 ·split at h
  ·obtain⟨e,s1,r1,_,_,rfl⟩:=h;have t1:=GW r1;exact t1
  ·exact h.2 ▸ Zz1 _
  ·exact h.2 ▸ Zz1 _
 ·obtain⟨e,s1,r1,_,_,rfl⟩:=h;have t1:=GW r1;exact t1
 ·exact h.2 ▸ Zz1 _
 ·exact h.2 ▸ Zz1 _
theorem wp_toks    (t:Sem α):∀{Γ:Ctx} {Q:α->Pos->Zzu->Prop} {E:Zzy->Pos->Zzu->Prop} {p:Pos} {s:Zzu},n<=s.toks->wp M Γ t Q E p s->wp M Γ t (λa p' s'=>n<=s'.toks/\Q a p' s') E p s:=by
 induction t with
 |pure a=>exact λhn h=>⟨hn,h⟩
 |raise e=>exact λhn h=>h
 |load a pt k ih=>exact λhn h=>h.imp λo t=>⟨t.1,ih _ hn t.2⟩
 |update a pt f k ih=>exact λhn h=>⟨h.1,ih _ hn h.2⟩
 |fresh k ih=>exact λhn h=>ih _ (ZxD hn) h
 |choose src m k ih=>exact λhn h=>⟨h.1,ih _ hn h.2⟩
 |genState g k ih=>exact λhn h=>h.imp λo t=>⟨t.1,ih _ hn t.2⟩
 |call c h g l k ih=>exact λhn h=>h.imp λr t=>t.imp λs' t=>⟨t.1,ih _ (oP hn (GW t.1)) t.2⟩
 |resume g r l k ih=>exact λhn h=>h.imp λr t=>t.imp λs' t=>⟨t.1,ih _ (oP hn (SQ t.1)) t.2⟩
 |rule _ k ih=>exact λhn h=>ih _ hn h
 | «at» _ k ih=>exact λhn h=>ih _ hn h
 |loadIfAlive _ k ih=>exact λhn h=>ih _ hn h
 |point _ k ih=>exact λhn h=>ih _ hn h
 |alloc _ k ih=>exact λhn h=>ih _ hn h
 |ask k ih=>exact λhn h=>ih _ hn h
 |os _ _ k ih=>exact λhn h=>ih _ hn h
 |handled _ k ih=>exact λhn h=>ih _ hn h
 |newGen _ k ih=>exact λhn h=>ih _ hn h
 |stack k ih=>exact λhn h=>ih _ hn h
 |thread k ih=>exact λhn h=>ih _ hn h
 |_=>exact λhn h=>h.elim
theorem wpAny_toks         (hn:n<=s.toks)(h:wpAny M A t (λa s'=>n<=s'.toks->Q a s') E s):wpAny M A t Q E s:=
 λΓ p hΓ=>Sem.wp_mono M Γ t (λa _ s' q=>q.2 q.1) (λ_ _ _ q=>q) p s (wp_toks t hn (h Γ p hΓ))
end Mine.Internal
end
section
open PySem PySem.W PyProof.Rows
namespace Mine.Internal
section
variable {C:Cx}{k:Nat}
theorem Yh.xX        (D:Yh C name sc body xs)(hx:Xg sc xs=true)(hl:as.length=xs.length)
 (hex:∀F:Ye,F.env.scope=sc->XT F->Ex C k F (Zd (λ_=>none) xs (as.map AV.pv)) (execs body F.env) (.ret d) σ'):∃f,C.mg name=some (.ref f)/\XH C f/\ZG C (k+1) (.ref f) as d:=
 D.ex.elim λf t=>t.elim λfd t=>⟨f,t.1,t.2.1,ZG.Ei t.2.2.1 (t.2.2.2.1 ▸ Ui hx) hl.symm (λs vals _ hv=>t.2.2.2.2 s vals hv) (.inl rfl) λF hF=>hex F (hF.scope.trans t.2.2.2.1) hF.s⟩
theorem Hy  (H:Xy C k S)
 (D:Yh C name sc [.Return (some (.Compare e [.In] [.Name x p] pos)) o9] xs) (hx:Xg sc xs=true) (hl:as.length=xs.length) (he:ev S n sc (Zd (λ_=>none) xs (as.map AV.pv)) e=some (.val (.int i)))
 (R4:C.mg x=some (.ref a)) (hk:sc.names.lookup x=some .globalImplicit) (hd:(x==("__debug__":oO))=false) (hm:Zy3 .In (.Name x p)=false) (hS:∀h,C.G h->h.SetOf (intKind C.prog C.w) a f m):
 ∃g,C.mg name=some (.ref g)/\XH C g/\ZG C (k+1) (.ref g) as (.bool (f i)):=
 D.xX hx hl (σ':=Zd (λ_=>none) xs (as.map AV.pv)) λF hs hF=>Ex.stop (Ex.DW (Ev.inSet hF.Z3 (Z1.ev ((sound H n).ev _ _ _ _ hF.Z3 (by rw[hs];exact he)) rfl) ⟨R4,by unfold ZuM;rw[hs];exact hk⟩ hS hm hd) rfl) (by intro e;cases e)
theorem Ni  (H:Xy C k T.sg)(hT:T.sp=λ_ _=>none)
 (D:Yh C name sc (.Assign [.Name r rp] (.Call (.Attribute (.Name x p) "get" apos) [e] [] cpos) pos::rest) xs) (hx:Xg sc xs=true) (hl:as.length=xs.length)
 (he:ev T.sg n sc (Zd (λ_=>none) xs (as.map AV.pv)) e=some (.val (.int i))) (hr:Y0 sc r=true)
 (R4:C.mg x=some (.ref a)) (ha:(a==sysModules)=false) (hk:sc.names.lookup x=some .globalImplicit) (hd:(x==("__debug__":oO))=false) (ZN:(apos.endLine==cpos.line)=true) (Xk:notStar e=true) (TC:VS (.Name x p)=true)
 (hS:∀h,C.G h->h.MapOf (intKind C.prog C.w) a f) (hv:∀P h,Rep P h dv ((f i).getD .none)) (C6:XU T n sc ((Zd (λ_=>none) xs (as.map AV.pv)).set r (.val dv)) rest=some (.ret d,σ')):
 ∃g,C.mg name=some (.ref g)/\XH C g/\ZG C (k+1) (.ref g) as d:=
 D.xX hx hl (σ':=σ') λF hs hF=>by
  have qW:=Z1.ev ((sound H n).ev _ _ _ _ hF.Z3 (by rw[hs];exact he)) rfl
  refine Ex.cons (Ex.assign hF.Z3 (X3 hF (by rw[hs];exact hr)) (Ev.dictGet hF.Z3 qW ⟨R4,by unfold ZuM;rw[hs];exact hk⟩ ha hS hv ?_ rfl ZN hd) ?_) ((US H hF (JM C k F hT) n).2 _ _ _ _ (by rw[hs];exact C6))
  ·cases e<;>first |rfl |(cases Xk)
  ·rfl
end
end Mine.Internal
end
section
open PySem PySem.W PyProof.Rows
open Sem (wp)
namespace Mine.Internal
structure Qu(C:Cx)(c N:Zzq)(mN:oO->Option Zzy)(k2 k3:Option Zzy):Prop where
 obj:∀h,C.G h->h.get? c=some (excClassObj "Headers" "Headers" c N [.type "object"] [.type "object"] true [] [] false none none none none k2 k3 (some (.bool true)) "object.__new__")
 ns:∀h,C.G h->h.Ns N mN
 ga:mN "__getattribute__"=none
 gh:mN "__getattr__"=none
 sa:mN "__setattr__"=none
 hd:mN "_headers"=none
noncomputable def Sr(b:Zzq):oO->Option Zzy:=λy=>if y=("_headers":oO) then some (.ref b) else none
theorem TabAt.Eo    (T:TabAt h c x d b vs):h.Inst x c (Sr b):=by
 refine⟨_,T.inst,rfl,(λc e=>nomatch e),.inr ⟨d,rfl,?_,T.ns⟩⟩
 intro e
 subst e
 obtain⟨o,es,ep,h1,h2,_⟩:=T.ns
 rw[T.inst] at h1
 cases h1
 cases h2
section
variable {C:Cx}{k:Nat}{σ:Zx}{s s' s₁:Zzu}{h h':Zza}{env:Env}{A:ZzH}{E:Zzy->Zzu->Prop}
variable {c N:Zzq}{mN:oO->Option Zzy}{k2 k3:Option Zzy}
theorem CO:typeLookup (.type "object") "_headers"=pure none:=by rw[Zyn,ZzF];kernel_rfl
theorem IZ(H:Qu C c N mN k2 k3)    (YI:attributeBase o "_headers" env (eval o env)=eval o env)
 (h:wpAny C.M A (eval o env) (λov s₁=>∃x d b vs,ov=.ref x/\TabAt s₁.heap c x d b vs/\C.G s₁.heap/\Q (.ref b) { s₁ with toks:=s₁.toks+1 }) E s):
 wpAny C.M A (eval (.Attribute o "_headers" pos) env) Q E s:=by
 rw[arm_eval_Attribute,YI]
 refine Zzz (ZzC h (λov s₁ h₁=>?_) λ_ _ e=>e)
 obtain⟨x,d,b,vs,rfl,T,hg,q⟩:=h₁
 refine Zzz (ZxK (Zzz (ZzO ?_)))
 obtain⟨hh,g,dr,t,os⟩:=s₁
 exact load_attr (H.obj _ hg) (H.ns _ hg) H.ga H.hd CO T.Eo (by simp [Sr]) rfl (Zzz (wpAny_letTemporaryGo (Zzi q)))
theorem JD(H:Qu C c N mN k2 k3)
 (YI:attributeBase o name env (eval o env)=eval o env)
 (td:methodCallForm (args.length+WZ.length) (backTo pos (Zyf args env)) (backToKw pos (keywordEach WZ env))=true)
 (ZN:(apos.endLine==pos.line)=true) (hf:mN name=some (.ref f)) (eK:∀h,C.G h->h.get? f=some of) (qX:of.cls=.type "function") (WQ:name≠("_headers":oO))
 (hB:typeLookup (.type "object") name=pure y)
 (h:wpAny C.M A (eval o env) (λov s₁=>∃x d b vs,ov=.ref x/\TabAt s₁.heap c x d b vs/\C.G s₁.heap/\
  wpAny C.M A (callWith pos (.ref f) [.ref x] (backTo pos (Zyf args env)) (backToKw pos (keywordEach WZ env))) Q E s₁) E s):
 wpAny C.M A (eval (.Call (.Attribute o name apos) args WZ pos) env) Q E s:=by
 rw[arm_eval_Call,YI]
 refine Zzz (ZzC h (λov s₁ h₁=>?_) λ_ _ e=>e)
 obtain⟨x,d,b,vs,rfl,T,hg,q⟩:=h₁
 refine Zzz (ZxK ?_)
 have TN:methodCallPos true o env apos pos=pure pos:=by unfold methodCallPos;simp [ZN]
 unfold methodCall
 rw[td]
 refine Zzz (ZzO ?_)
 obtain⟨hh,g,dr,t,os⟩:=s₁
 refine method_of (H.obj _ hg) (H.ns _ hg) H.ga H.gh hf (eK _ hg) qX hB T.Eo (by simp [Sr,WQ]) ?_
 exact Zzz (wpAny_of_eq TN q)
theorem Ev.headers(H:Qu C c N mN k2 k3)    (hf:Zt env)(hx:σ x=some (.val (.box (Y6 c) [] l)))(hn:Yl x=true):Ev C k env σ (.Attribute (.Name x p) "_headers" pos) (.lst l):=λA s Q E P hr hg hh hb q=>by
 refine IZ H rfl ((Z1.name hf hx (Yz hn).1 (Yz hn).2) A s _ _ P hr hg hh hb λv s₁ k₁ r₁=>?_)
 refine CD r₁ λvs x' d b e px pd pb T ra=>?_
 subst e
 refine⟨x',d,b,vs,rfl,T,C.ext hg (Zw k₁),q _ _ (Zq k₁ (ZZ _ _)) ?_⟩
 obtain⟨ws,n,e,rfl⟩:=T.list
 exact Yn.mpr ⟨b,ws,n,rfl,pb,e,ra⟩
end
section
variable {C:Cx}{k:Nat}{F:Ye}{σ σ':Zx}{s s' s₁:Zzu}{h h':Zza}{env:Env}{af:Z7}
def CW(C:Cx)(k:Nat)(f:Zzy)(as:List AV)(ks:List (oO × Zzy))(d:PV):Prop:=
 ∀A s Q E P vs,ZH k A->C.G s.heap->Wy P s.heap as vs->ZM P s.heap->(∀v s',ZzK s s'->Rep P s'.heap d v->Q v s')->wpAny C.M A (call f vs ks) Q E s
theorem CW.nil    (h:CW C k f as [] d):ZG C k f as d:=h
structure W0(C:Cx)(mN:oO->Option Zzy)(name:oO)(f:Zzq):Prop where
 is:mN name=some (.ref f)
 fn:∃of fd,(∀h,C.G h->h.get? f=some of)/\of.cls=.type "function"/\of.data=.func fd
 no:∃y,typeLookup (.type "object") name=pure y
 ne:name≠("_headers":oO)
variable {c N:Zzq}{mN:oO->Option Zzy}{k2 k3:Option Zzy}
theorem Ev.AW(H:Qu C c N mN k2 k3)  {name kw:oO}         (ho:Ev C k env σ o (.box (Y6 c) [] l))(hm:W0 C mN name f)
 (ha:Z1 C k env σ e a) (FG:Zyf [e] env=[(false,eval e env)]) (NI:∃u v,bc=.Constant (.bool b) u v) (hc:CW C k (.ref f) [.val (.box (Y6 c) [] l),a] [(kw,.bool b)] d)
 (YI:attributeBase o name env (eval o env)=eval o env) (ZN:(apos.endLine==pos.line)=true):
 Ev C k env σ (.Call (.Attribute o name apos) [e] [⟨some kw,bc,kp⟩] pos) d:=λA s Q E P hr hg hh hb q=>by
 obtain⟨of,fd,e1,e2,e3⟩:=hm.fn
 obtain⟨y,hB⟩:=hm.no
 obtain⟨u,v,rfl⟩:=NI
 refine JD H YI (by rw[FG];rfl) ZN hm.is e1 e2 hm.ne hB (ho A s _ _ P hr hg hh hb λv s₁ k₁ r₁=>?_)
 have x₁:=Zw k₁
 refine CD r₁ λvs x' d' b' e' px pd pb T ra=>?_
 subst e'
 refine⟨x',d',b',vs,rfl,T,C.ext hg x₁,?_⟩
 show wpAny C.M A (callWith pos (.ref f) [.ref x'] (backTo pos (Zyf [e] env)) [(some kw,do let w <-eval (.Constant (.bool b) u v) env;standAt pos;pure w)]) Q E s₁
 have NF:backTo pos (Zyf [e] env)=[(false,eval e env)]:=by rw[FG];rfl
 rw[NF]
 refine callWith_function_kw (o:=of) (fd:=fd) (evalArgs_kw (x:=eval e env) (rest:=[]) (by rfl) ?_)
 rw[<-NF]
 refine ZQ.spliced (ZQ.cons ha ZQ.nil (by rw[FG];rfl):ZQ C k env σ [e] [a]) hr (C.ext hg x₁) (hh.ext x₁) (hb.ext x₁) λvs s₂ k₂ r₂=>?_
 have x₂:=Zw k₂
 refine wpAny_evalAll_cons ?_
 refine Zzz (Ev.bool A s₂ _ _ P hr (C.ext (C.ext hg x₁) x₂) ((hh.ext x₁).ext x₂) ((hb.ext x₁).ext x₂) λw s₃ k₃ r₃=>?_)
 have x₃:=Zw k₃
 refine Zzz (ZxK (Zzi (wpAny_evalAll_nil ?_)))
 rw[ZV.mp r₃]
 have g₃:=C.ext (C.ext (C.ext hg x₁) x₂) x₃
 refine⟨⟨e1 _ g₃,e3⟩,?_⟩
 exact hc A s₃ _ _ P (_::vs) hr g₃ ⟨_,vs,rfl,(r₁.ext x₂).ext x₃,r₂.ext x₃⟩ (((hb.ext x₁).ext x₂).ext x₃) λv' s' k' r'=>q v' s' (Zq (Zq (Zq k₁ k₂) k₃) k') r'
end
open PySem.Sre
def good(c:Nat):Prop:=32<=c/\c≠127
noncomputable def S8:Array Nat:=#[14,10,4,1,1,22,0,31,16,127,0,13,7,22,0,31,16,127,0,1]
noncomputable def C9:Array Nat:=#[14,14,4,1,1,9,4294966783,0,0,2147483648,0,0,0,0,0,13,11,9,4294966783,0,0,2147483648,0,0,0,0,0,1]
theorem gn  (h:good c)(seen:Sre.Seen):∃s',inSet S8 c 20 5 true seen=.ok (false,s'):=
 have n1:¬(decide (0<=c)&&decide (c<=31))=true:=λe=>absurd (of_decide_eq_true (Xw e).2) (ZvM.mpr h.1)
 have n2:¬(c==127)=true:=λe=>h.2 (eq_of_beq e)
 ⟨_,(if_neg n1).trans ((if_neg n2).trans rfl)⟩
theorem w0(c:Nat)(hc:c<256):32<=c->c≠127->(C9.getD (5+(1+c/32)) 0).testBit (c%32)=false:=by
 revert c
 decide +kernel
theorem gb  (h:good c)(seen:Sre.Seen):∃s',inSet C9 c 28 5 true seen=.ok (false,s'):=
 have n1:¬(decide (c<256)&&(C9.getD (5+(1+c/32)) 0).testBit (c%32))=true:=λe=>Zz6 ((w0 c (of_decide_eq_true (Xw e).1) h.1 h.2).symm.trans (Xw e).2)
 ⟨_,(if_neg n1).trans rfl⟩
theorem IU  (D2:∀c seen,good c->∃s',inSet m.code c m.code.size 5 true seen=.ok (false,s'))(ht:∀c∈m.text.toList,good c)(PM:m.lim<=m.text.size):
 ∀(fuel s:Nat) (seen:Sre.Seen),∃s',M.admitted m fuel s seen=.ok (none,s')
 |0,s,seen=>⟨_,rfl⟩
 | fuel+1,s,seen=>by
   by_cases h:s>=m.lim
   ·exact⟨_,if_pos h⟩
   ·have hs:s<m.text.size:=ZzI (ZvM.mp h) PM
    have e0:m.text.getD s 0=m.text[s]:=dif_pos hs
    obtain⟨s',e⟩:=D2 (m.text.getD s 0) seen (ht _ (e0 ▸ Array.getElem_mem_toList hs))
    refine (IU D2 ht PM fuel (s+1) s').imp λs2 e2=>(if_neg h).trans ?_
    rw[e]
    exact e2
theorem L8{code text:Array Nat}(xh:code=S8∨code=C9)(ht:∀c∈text.toList,good c):∃m,(forSearch code text 0 0 text.size false).runFor 4=m/\m.outcome=some .failed:=by
 have fin:∀(m:M),m.outcome=none->m.frames=[]->((m.say false).runFor 4).outcome=some .failed:=by
  intro m h1 h2
  cases m
  dsimp only at h1 h2
  subst h1 h2
  rfl
 have D2:∀c seen,good c->∃s',inSet code c code.size 5 true seen=.ok (false,s'):=by
  intro c seen hc
  rcases xh with rfl |rfl
  ·exact gn hc seen
  ·exact gb hc seen
 refine⟨_,rfl,?_⟩
 unfold forSearch
 dsimp only
 split
 ·exact fin _ rfl rfl
 ·unfold M.attemptFrom
  rename_i PM
  have key:∀m:M,m.outcome=none->m.frames=[]->m.code=code->m.text=text->m.lim=text.size->
   ((if (!m.hasFirstSet)=true then m.attemptAt 0 true else match M.admitted m (m.lim+1-0) 0 m.seen with
     |.ok (some s,seen)=>{ m with mustAdvance:=false,seen }.attemptAt s true
     |.ok (none,seen)=>{ m with seen }.say false
     |.error why=>m.stick why).runFor 4).outcome=some .failed:=by
   intro m h1 h2 h3 h4 h5
   have hf:m.hasFirstSet=true:=by
    unfold M.hasFirstSet
    rw[h3]
    rcases xh with rfl |rfl<;>rfl
   rw[hf,if_neg (by simp)]
   obtain⟨s',e⟩:=IU (m:=m) (by rw[h3];exact D2) (by rw[h4];exact ht) (by rw[h4,h5];exact Zz1 _) (m.lim+1-0) 0 m.seen
   rw[e]
   exact fin _ h1 h2
  exact key _ rfl rfl rfl rfl rfl
theorem BP:PlainAttrs "re.Pattern":=
 ⟨⟨"object.__getattribute__",by rw[Zyn,ZzF];kernel_rfl,by decide +kernel⟩,by rw[Zyn,ZzF];kernel_rfl⟩
theorem JC:Slot "re.Pattern" "search" "re.Pattern.search":=
 .of (owner:="re.Pattern") (n:="search") (by rw[Zyn,ZzF];kernel_rfl) (by decide +kernel) (by decide +kernel) (by decide +kernel)
  (by first |exact .inl (by decide +kernel) |exact .inr (by decide +kernel)) (by rw[isSubtype_type];kernel_rfl)
theorem Bj:typeOf (.builtin "re.Pattern.search")=pure (.type "method_descriptor"):=by show builtinType _=_;rw[builtinType_eq_fast];kernel_rfl
theorem Cu:entryFor table "re.Pattern.search"=some Zwv.«re.Pattern.search»:=entryFor_of_tree (by kernel_rfl)
theorem Br(a b:Zzy):argsOk "re.Pattern.search" ⟨[a,b],[]⟩:=by
 unfold argsOk;kernel_rfl!
open Builtin Builtin.Re
theorem LZ(x:oO)(t:Tok):reNamed "re.Pattern.search" "search" ["string","pos","endpos"] 1 [.str x t] []=pure [some (.str x t),none,none]:=by kernel_rfl!
structure QK(C:Cx)(p:Zzq):Prop where
 is:∃(q:Zzq) (op oq:Obj) (fs xs:Array Zzy) (n:Nat),(∀h,C.G h->h.get? p=some op)/\(∀h,C.G h->h.get? q=some oq)/\op.cls=.type "re.Pattern"/\op.dict=none/\op.data=.fields fs/\oq.data=.seq xs n/\
  fs.getD 6 .none=.int 0 0/\fs.getD 5 .none=.ref q/\fs.getD 2 .none=.int 0 0/\((xs.map reRawOf).map Zji=S8∨(xs.map reRawOf).map Zji=C9)
section
variable {C:Cx}{k:Nat}{σ:Zx}{s s' s₁:Zzu}{h h':Zza}{env:Env}{A:ZzH}{E:Zzy->Zzu->Prop}
theorem LA    (ho:((m.runFor 4).outcome.isSome)=true)(q:Q (m.runFor 4) s):wpAny C.M A (reDrive (n+1) m) Q E s:=by
 show wpAny C.M A (if (m.runFor 4).outcome.isSome=true then pure (m.runFor 4) else _) Q E s
 rw[if_pos ho]
 exact Zzi q
theorem Dz   (hf:∀i (Q':ForInStep PUnit->Zzu->Prop) s,Q' (.yield ()) s->wpAny C.M A (f i ()) Q' E s):∀(l:List Nat) (s:Zzu),Q () s->wpAny C.M A (forIn l Zva f) Q E s
 |[],s,q=>by rw[ZyS];exact Zzi q
 |i::r,s,q=>by rw[Zys];exact Zzz (hf i _ s (Dz hf r s q))
theorem LC   (ho:(m.runFor 4).outcome=some .failed)(q:Q none s):wpAny C.M A (reRunToEnd m) Q E s:=by
 unfold reRunToEnd
 refine Zzz (LA (n:=2 ^ 64-1) (by rw[ho];rfl) ?_)
 refine Zzz (Dz (λi Q' s q'=>?_) _ _ ?_)
 ·split
  ·exact Zzz (wpAny_rule (Zzi q'))
  ·exact Zzi q'
 ·rw[ho]
  exact Zzi q
theorem Pm  (hP:QK C p)  (hx:∀c∈x.cps.toList,good c)(hz:x.cps.size<2 ^ 62){a:Zzy}   (hg:C.G s.heap)(q:Q .none s):
 wpAny C.M A (call (.builtin "re.Pattern.search") [.ref p,.str x t]) Q E s:=by
 obtain⟨qa,op,oq,fs,xs,n,h1,h2,hc,aR,h3,h4,h5,h6,h7,h8⟩:=hP.is
 refine wpAny_call_entry JC ⟨op,h1 _ hg,hc⟩ Cu ?_ (Br _ _)
 unfold Zwv.«re.Pattern.search» reTarget
 dsimp only
 refine Zzz ?_
 rw[LZ]
 refine Zzz (Zzi ?_)
 dsimp only
 refine Zzz (Zzi (Zzz (Zzi (Zzz (wpAny_fieldsOf (h1 _ hg) h3 (Zzz ?_))))))
 have ht:reTextOf (.str x t)=pure (x.cps,0):=rfl
 rw[ht]
 refine Zzi ?_
 dsimp only
 have e6:reRawNat (fs.getD 6 .none)=0:=by rw[h5];rfl
 rw[e6,if_neg oD,if_neg oD]
 have qt:reNoCollectionInside (.str x t) 0=pure ():=rfl
 rw[qt]
 refine Zzz (Zzi (Zzz ?_))
 unfold reRawItems
 rw[h6]
 refine Zzz (wpAny_seqItems (h2 _ hg) h4 (Zzi (Zzi ?_)))
 dsimp only
 unfold reAnswer
 have ep:Min.min (0:Int).toNat x.cps.size=0:=by simp
 have el:Min.min ((2:Int) ^ 63-1).toNat x.cps.size=x.cps.size:=by
  have:((2:Int) ^ 63-1).toNat=9223372036854775807:=by decide
  rw[this];exact Zxy (oP (Zzs hz) oD)
 have eg:reRawNat (fs.getD 2 .none)=0:=by rw[h7];rfl
 rw[ep,el,eg]
 obtain⟨m,em,ho⟩:=L8 (code:=(xs.map reRawOf).map Zji) (text:=x.cps) h8 hx
 refine Zzz (LC (by show (M.runFor 4 _).outcome=_;exact em ▸ ho) ?_)
 exact Zzi ⟨_,rfl,q⟩
noncomputable def Uq(p:Zzq):Oj:=⟨λP h v=>v=.ref p,λ_ _ _ _ _ _ _ r=>r⟩
theorem YV.search  (hP:QK C p)  {t:oO}  (hf:Zt env)(hx:σ x=some (.val (.YZ (Uq p))))(Rr:Yl x=true)(hy:σ y=some (.val (.str t)))(Rt:Yl y=true)
 (ht:∀c∈t.cps.toList,good c) (hz:t.cps.size<2 ^ 62) (ZN:(apos.endLine==pos.line)=true):
 YV C k env σ (.Call (.Attribute (.Name x p1) "search" apos) [.Name y p2] [] pos) false:=by
 have eA:Ev C k env σ (.Call (.Attribute (.Name x p1) "search" apos) [.Name y p2] [] pos) .none:=λA s Q E P hr hg hh hb q=>by
  have ha:ZQ C k env σ [.Name y p2] [.val (.str t)]:=ZQ.cons (Z1.name hf hy (Yz Rt).1 (Yz Rt).2) ZQ.nil
  refine wpAny_Call_method (T:="re.Pattern") (id:="re.Pattern.search") rfl (ha.few (by simp)) ZN BP JC Bj ((Z1.name hf hx (Yz Rr).1 (Yz Rr).2) A s _ _ P hr hg hh hb λv s₁ k₁ r₁=>?_)
  have x₁:=Zw k₁
  have r₁:v=.ref p:=r₁
  subst r₁
  obtain⟨qa,op,oq,fs,xs,n,h1,h2,hc,aR,_⟩:=id hP.is
  refine⟨⟨op,h1 _ (C.ext hg x₁),hc⟩,λa e=>by cases e;exact⟨op,h1 _ (C.ext hg x₁),aR⟩,?_⟩
  refine ZyJ ha.plain (ha.args hr (C.ext hg x₁) (hh.ext x₁) (hb.ext x₁) λvs s₂ k₂ r₂=>?_)
  have x₂:=Zw k₂
  obtain⟨w,rfl,Ci⟩:=XK r₂
  obtain⟨u,rfl⟩:=Yj Ci
  exact Pm hP ht hz (a:=.none) (t:=u) (C.ext (C.ext hg x₁) x₂) (q _ _ (Zq k₁ k₂) (Xo.mpr rfl))
 exact YV.value eA rfl (λx e=>by cases e)
end
section
variable {C:Cx}{k:Nat}{F:Ye}{σ σ':Zx}{s s' s₁:Zzu}{h h':Zza}{env:Env}{A:ZzH}{E:Zzy->Zzu->Prop}
noncomputable def XA(v:Zzy):Oj:=⟨λP h u=>u=v,λ_ _ _ _ _ _ _ r=>r⟩
theorem Uv  :Rep P h (.YZ (XA v)) u<->u=v:=ZvS
theorem Ev.AU    (hf:Zt env)(hx:Ah C env x v)(hn:Yl x=true):Ev C k env σ (.Name x p) (.YZ (XA v)):=λA s Q E P hr hg hh hb q=>
 Jf hf hx hg (q v s (Z4 s) (Uv.mpr rfl)) (Yz hn).1
theorem Ev.Bv    (hf:Zt env)(hx:VX C env x v)(hn:Yl x=true):Ev C k env σ (.Name x p) (.YZ (XA v)):=λA s Q E P hr hg hh hb q=>
 name_B hf hx hg (q v s (Z4 s) (Uv.mpr rfl)) (Yz hn).1
theorem Ev.QN    (hf:Zt env)(b:VX C env "type" (.type "type"))(he:Ev C k env σ e (.str x))(FG:Zyf [e] env=[(false,eval e env)]):
 Ev C k env σ (.Call (.Name "type" p) [e] [] pos) (.YZ (XA (.type "str"))):=λA s Q E P hr hg hh hb q=>by
 have ha:ZQ C k env σ [e] [.val (.str x)]:=ZQ.cons he ZQ.nil (by rw[FG];rfl)
 rw[Ym]
 refine Zzz (name_B hf b hg ?_ oD)
 refine ZyE ha.plain (ha.args hr hg hh hb λvs s₁ k₁ r₁=>?_)
 obtain⟨w,rfl,Ci⟩:=XK r₁
 obtain⟨u,rfl⟩:=Yj Ci
 exact call_type_of (typeIs_str _ _ _) oD (q _ _ k₁ (Uv.mpr rfl))
theorem Ev.Oc    (hf:Zt env)(b:VX C env "type" (.type "type"))(he:Ev C k env σ e (.lst l))(FG:Zyf [e] env=[(false,eval e env)]):
 Ev C k env σ (.Call (.Name "type" p) [e] [] pos) (.YZ (XA (.type "list"))):=λA s Q E P hr hg hh hb q=>by
 have ha:ZQ C k env σ [e] [.val (.lst l)]:=ZQ.cons he ZQ.nil (by rw[FG];rfl)
 rw[Ym]
 refine Zzz (name_B hf b hg ?_ oD)
 refine ZyE ha.plain (ha.args hr hg hh hb λvs s₁ k₁ r₁=>?_)
 obtain⟨w,rfl,Ci⟩:=XK r₁
 obtain⟨a,ws,n,rfl,e1,_⟩:=DV (.inl rfl) Ci
 exact call_type_of ⟨_,e1,rfl⟩ oD (q _ _ k₁ (Uv.mpr rfl))
theorem ZA.vH :ZA C k (compareOp .Is) (.YZ (XA (.type T))) (.YZ (XA (.type T))) (.bool true):=λA s Q E P va vb hr hg ra rb hb q=>by
 rw[Uv] at ra rb;subst ra rb
 exact wpAny_is_self rfl (q _ _ (Z4 s) (ZV.mpr rfl))
theorem ZA.SH :ZA C k (compareOp .IsNot) (.YZ (XA (.type T))) (.YZ (XA (.type T))) (.bool false):=λA s Q E P va vb hr hg ra rb hb q=>by
 rw[Uv] at ra rb;subst ra rb
 exact wpAny_isNot_self rfl (q _ _ (Z4 s) (ZV.mpr rfl))
def Xe(x:oO):Prop:=(∀c∈x.cps.toList,good c)/\x.cps.size<2 ^ 62
theorem Ph{a1 a2 a3 a4 a5 b1 b2 b3 b4 b5 b6 c1 c2 c3 c4 c5 d1 d2 e1:Pos}        (hF:XT F)
 (nu:QK C p1) (nv:QK C p2) (hx:Xe x) (h0:VX C F.env "type" (.type "type")) (h1:VX C F.env "str" (.type "str")) (h2:Ah C F.env R1 (.ref p1)) (h3:Ah C F.env R2 (.ref p2)) (n1:Yl R1=true) (n2:Yl R2=true)
 (hr:Y0 F.env.scope "regex"=true) (ZN:(c2.endLine==c4.line)=true):
 ∃σ',Ex C k F (Zd (λ_=>none) ["self","value","name"] [sl,.str x,.bool b])
  (execs (.If (.Compare (.Call (.Name "type" a1) [.Name "value" a2] [] a3) [.Is] [.Name "str" a4] a5)
   [.Assign [.Name "regex" b1] (.IfExp (.Name "name" b2) (.Name R1 b3) (.Name R2 b4) b5) b6,
    .If (.Call (.Attribute (.Name "regex" c1) "search" c2) [.Name "value" c3] [] c4) rb [] c5,
    .Return (some (.Name "value" d1)) d2] [] e1::rest) F.env) (.ret (.str x)) σ':=by
 let σ₀:Zx:=Zd (λ_=>none) ["self","value","name"] [sl,.str x,.bool b]
 let p:=if b then p1 else p2
 have hP:QK C p:=by cases b<;>assumption
 have v0:σ₀ "value"=some (.val (.str x)):=by
  show (if ("value":oO)="name" then some (AV.val (.bool b)) else if ("value":oO)="value" then some (AV.val (.str x)) else none)=_
  rw[if_neg oD,if_pos rfl]
 have n0:σ₀ "name"=some (.val (.bool b)):=by
  exact (if_pos rfl:Zx.set (Zd (λ_=>none) ["self","value"] [sl,.str x]) "name" (.val (.bool b)) "name"=_)
 have v1:(σ₀.set "regex" (.val (.YZ (Uq p)))) "value"=some (.val (.str x)):=by
  show (if ("value":oO)="regex" then _ else σ₀ "value")=_
  rw[if_neg oD];exact v0
 have r1:(σ₀.set "regex" (.val (.YZ (Uq p)))) "regex"=some (.val (.YZ (Uq p))):=by
  show (if ("regex":oO)="regex" then _ else σ₀ "regex")=_
  rw[if_pos rfl]
 have eV:Ev C k F.env σ₀ (.IfExp (.Name "name" b2) (.Name R1 b3) (.Name R2 b4) b5) (.YZ (Uq p)):=by
  refine Ev.xj (c:=b) (YV.value (Z1.name hF.Z3 n0 oD oD) rfl (λx e=>by cases e)) (λe=>?_) (λe=>?_)
  ·subst e;exact Ev.AU hF.Z3 h2 n1
  ·subst e;exact Ev.AU hF.Z3 h3 n2
 refine⟨σ₀.set "regex" (.val (.YZ (Uq p))),Ex.stop ?_ (by intro e;cases e)⟩
 refine Ex.ite (b:=true) (YV.cmp (Ev.QN hF.Z3 h0 (Z1.name hF.Z3 v0 oD oD) rfl) (Ev.Bv hF.Z3 h1 oD) ZA.vH rfl) (λ_=>?_) (λe=>by cases e)
 refine Ex.cons (Ex.assign hF.Z3 (X3 hF hr) eV rfl) ?_
 refine Ex.cons (σ₁:=σ₀.set "regex" (.val (.YZ (Uq p)))) (Ex.ite (b:=false) (YV.search hP hF.Z3 (x:="regex") (y:="value") (t:=x) r1 oD v1 oD hx.1 hx.2 ZN) (λe=>by cases e) (λ_=>Ex.nil)) ?_
 have hv:Ev C k F.env (σ₀.set "regex" (.val (.YZ (Uq p)))) (.Name "value" d1) (.str x):=Z1.name hF.Z3 v1 oD oD
 exact Ex.stop (Ex.DW hv rfl) (by intro e;cases e)
end
structure VB(C:Cx)(mN:oO->Option Zzy)(name:oO)(sc:Zz0)(body:List ZzZ)(xs:List oO)(n:Nat)(ks:List (oO × Zzy))(ex:List Zzy):Prop where
 ex:∃f fd,W0 C mN name f/\Yt C f fd body/\fd.scope=sc/\∀s vals,C.G s.heap->vals.length=n->Zxb s fd ⟨vals,ks⟩ (xs.zip (vals++ex))
section
variable {C:Cx}{k:Nat}{env:Env}{σ:Zx}
theorem VB.call        {ex:List Zzy}     (D:VB C mN name sc body xs n ks ex)(hx:Xg sc xs=true)
 (hn:as.length=n) (hl:xs.length=n+RQ.length) (tc:∀P h,Zy P h RQ ex) (ND:af=.ret d∨(af=.Z2/\d=.none))
 (hex:∀F:Ye,F.env.scope=sc->XT F->∃σ',Ex C k F (Zd (λ_=>none) xs (as.map AV.pv++RQ)) (execs body F.env) af σ'):∃f,W0 C mN name f/\CW C (k+1) (.ref f) as ks d:=
 D.ex.elim λf t=>t.elim λfd t=>⟨f,t.1,λA s Q E P vs hr hg r hb q=>
  t.2.1.gives (t.2.2.1 ▸ Ui hx) (hl.trans (by rw[Zzd,Zzm,hn])) hr hg hb (r.Rb.append (tc _ _)) (t.2.2.2 s vs hg (r.Rb.length.trans ((Zzm _).trans hn))) ND (λF FF=>hex F (FF.scope.trans t.2.2.1) FF.s) q⟩
end
def Lf(R1 R2:oO) (body:List ZzZ):Prop:=∃(pp:Nat->Pos) (rb rest:List ZzZ),body=.If (.Compare (.Call (.Name "type" (pp 0)) [.Name "value" (pp 1)] [] (pp 2)) [.Is] [.Name "str" (pp 3)] (pp 4))
       [.Assign [.Name "regex" (pp 5)] (.IfExp (.Name "name" (pp 6)) (.Name R1 (pp 7)) (.Name R2 (pp 8)) (pp 9)) (pp 10),
        .If (.Call (.Attribute (.Name "regex" (pp 11)) "search" (pp 12)) [.Name "value" (pp 13)] [] (pp 14)) rb [] (pp 15),
        .Return (some (.Name "value" (pp 16))) (pp 17)] [] (pp 18)::rest/\((pp 12).endLine==(pp 14).line)=true
structure HdOK(C:Cx)(c N:Zzq)(mN:oO->Option Zzy)(k2 k3:Option Zzy):Prop where
 cls:Qu C c N mN k2 k3
 conv:∃sc body R1 R2 p1 p2,(∀b,VB C mN "_convert_string_type" sc body ["self","value","name"] 2 [("name",.bool b)] [.bool b])/\Lf R1 R2 body/\QK C p1/\QK C p2/\C.mg R1=some (.ref p1)/\C.mg R2=some (.ref p2)/\
  sc.names.lookup R1=some .globalImplicit/\sc.names.lookup R2=some .globalImplicit/\sc.names.lookup ("type":oO)=some .globalImplicit/\sc.names.lookup ("str":oO)=some .globalImplicit/\Yl R1=true/\Yl R2=true/\Y0 sc "regex"=true/\Xg sc ["self","value","name"]=true
 type:C.mg "type"=none/\C.mb "type"=some (.type "type")
 str:C.mg "str"=none/\C.mb "str"=some (.type "str")
section
variable {C:Cx}{k:Nat}{env:Env}{σ:Zx}{c N:Zzq}{mN:oO->Option Zzy}{k2 k3:Option Zzy}
theorem HdOK.Ld(H:HdOK C c N mN k2 k3)    (hx:Xe x):∃f,W0 C mN "_convert_string_type" f/\CW C (k+1) (.ref f) [a,.val (.str x)] [("name",.bool b)] (.str x):=by
 obtain⟨sc,body,R1,R2,p1,p2,hD,hL,nu,nv,g1,g2,s1,s2,s3,s4,n1,n2,hr,hp⟩:=H.conv
 obtain⟨pp,rb,rest,e0,ZN⟩:=hL
 subst e0
 refine (hD b).call (RQ:=[.bool b]) (af:=.ret (.str x)) hp rfl rfl (λP h=>Zy.one (ZV.mpr rfl)) (.inl rfl) λF hs hF=>?_
 have kd:∀y,sc.names.lookup y=some .globalImplicit->F.env.kindOf y=some .globalImplicit:=λy e=>by unfold ZuM;rw[hs];exact e
 exact Ph (sl:=a.pv) hF nu nv hx ⟨H.type.1,H.type.2,kd _ s3⟩ ⟨H.str.1,H.str.2,kd _ s4⟩ ⟨g1,kd _ s1⟩ ⟨g2,kd _ s2⟩ n1 n2 (by rw[hs];exact hr) ZN
end
open Classical
def D9(c:Zzq)(a:AV):Option (List PV):=@AV.casesOn (λ_=>Option (List PV)) a (λv=>@PV.casesOn (λ_=>Option (List PV)) v (λ_=>none) (λT ks l=>if T=Y6 c/\ks=[] then some l else none) none (λ_=>none) (λ_=>none) (λ_=>none) (λ_=>none) λ_=>none) (λ_=>none) λ_ _=>none
theorem u5    (h:D9 c a=some l):a=.val (.box (Y6 c) [] l):=by
 cases a with
 | val d=>cases d with
   |box T ks l'=>exact Zl h λe h=>by rw[e.1,e.2,Zzv h]
   |_=>exact nS h
 |_=>exact nS h
theorem Ta(c:Zzq)(l:List PV):D9 c (.val (.box (Y6 c) [] l))=some l:=if_pos ⟨rfl,rfl⟩
theorem xm{P:Prop}    (h:o.bind (D9 c)=some l)(q:o=some (.val (.box (Y6 c) [] l))->P):P:=Zv h λa e h=>q (by rw[e,u5 h])
def zJ(c:Zzq)(σ:Zx)(e:Zzw):Option AV:=CK e λo a _=>VQ o λx _=>if a=("_headers":oO)/\Yl x=true then ((σ x).bind (D9 c)).map λl=>.val (.lst l) else none
def ba(c:Zzq)(S:Sg)(n:Nat)(sc:Zz0)(σ:Zx)(e:Zzw):Option AV:=Jg e λf as ks pos=>CK f λo m apos=>VQ o λx _=>WT as λe=>
 if m=("_convert_string_type":oO)/\(∃b u v kp,ks=[⟨some "name",.Constant (.bool b) u v,kp⟩])/\Yl x=true/\(apos.endLine==pos.line)=true/\notStar e=true then ((σ x).bind (D9 c)).bind λ_=>((ev S n sc σ e).bind Yw).bind λt=>if Xe t then some (.val (.str t)) else none else none
def zQ(c:Zzq)(S:Sg)(n:Nat)(sc:Zz0)(σ:Zx)(e:Zzw):Option AV:=Ys (zJ c σ e) (ba c S n sc σ e)
section
variable {C:Cx}{k:Nat}{env:Env}{σ:Zx}{c N:Zzq}{mN:oO->Option Zzy}{k2 k3:Option Zzy}
theorem RB(H:HdOK C c N mN k2 k3){e:Zzw}  (hf:Zt env)(h:zJ c σ e=some a):Z1 C (k+1) env σ e a:=
 GQ h λ_ _ _ e1 h=>W3 h λ_ _ e2 h=>Zl h λhc h=>Y2 h λ_ h e3=>xm h λhs=>by
  rw[e1,e2,hc.1,e3]
  exact Ev.headers H.cls hf hs hc.2
theorem kF(H:HdOK C c N mN k2 k3){S:Sg}(HS:Xy C (k+1) S)    (hf:Zt env)(h:ba c S n env.scope σ e=some a):Z1 C (k+1) env σ e a:=
 Ug h λ_ _ _ _ e1 h=>GQ h λ_ _ _ e2 h=>W3 h λ_ _ e3 h=>YH h λ_ e4 h=>Zl h λhc h=>Zv h λ_ hs h=>xm hs λhs=>Zv h λ_ ht h=>Zv ht λ_ ht hv=>Zl h λIM h=>ZW (P:=Z1 C (k+1) env σ e) (by
  obtain⟨b,u,v,kp,e5⟩:=hc.2.1
  rw[e1,e2,e3,e4,e5,hc.1]
  obtain⟨f,hm,Kq⟩:=H.Ld (k:=k) (b:=b) (a:=.val (.box (Y6 c) [] _)) IM
  exact Ev.AW H.cls (Z1.name hf hs (Yz hc.2.2.1).1 (Yz hc.2.2.1).2) hm ((sound HS n).ev _ _ _ _ hf (ht.trans (by rw[Y7 hv]))) (X4 hc.2.2.2.2) ⟨_,_,rfl⟩ Kq rfl hc.2.2.2.1) h
theorem kG(H:HdOK C c N mN k2 k3)  (HS:Xy C (k+1) S)(n:Nat):∀env σ e a,Zt env->zQ c S n env.scope σ e=some a->Z1 C (k+1) env σ e a:=
 λ_ _ _ _ hf h=>Xr h (RB H hf) (kF H HS hf)
def Sg.hd(S:Sg)(c:Zzq)(n:Nat):Sg:=⟨S.cl,S.mt,S.gv,zQ c S n,S.xi⟩
theorem Xy.hd(H:HdOK C c N mN k2 k3)  (HS:Xy C (k+1) S)(n:Nat):Xy C (k+1) (S.hd c n):=
 ⟨HS.cl,HS.mt,HS.gv,kG H HS n,HS.xi,HS.bi,HS.list,HS.range,HS.zip⟩
end
noncomputable def pairs(l:List (oO × oO)):List PV:=l.map λx=>.tup [.str x.1,.str x.2]
theorem LD         (hx:Yl x=true)(hs:σ x=some (.val (.box (Y6 c) [] l))):
 zQ c S n sc σ (.Attribute (.Name x p) "_headers" q)=some (.val (.lst l)):=by
 show Ys (if _ then ((σ x).bind (D9 c)).map _ else none) _=_
 rw[if_pos ⟨rfl,hx⟩,hs]
 rw[Zzb]
 rw[Ta]
 rfl
open Mine.Internal.L1
noncomputable def locs(sc:Zz0)(xs:List oO):Bool:=xs.all λx=>sc.names.lookup x==some .local
theorem K6   (h:locs sc xs=true)  (hx:x∈xs):ZI sc x=false/\Y0 sc x=true:=by
 have:=ZzD.mp h x hx
 have:=beq_iff_eq.mp this
 constructor
 ·unfold ZI;rw[this];rfl
 ·unfold Y0;rw[this];rfl
def Tg(c:Zzq):St:=⟨(⟨FP,IF,λ_=>none,λ_ _ _=>none,λ_ _ _ _ _=>none⟩:Sg).hd c 20,[],λ_ _=>none,100⟩
noncomputable def Yy:Option oO->PV
 |some v=>.str v
 |none=>.none
section
variable {C:Cx}{k:Nat}{F:Ye}{σ σ':Zx}{s s' s₁:Zzu}{h h':Zza}{env:Env}{A:ZzH}{E:Zzy->Zzu->Prop}
theorem L0       (h1:Ev C k env σ e1 (.str a))(h2:Ev C k env σ e2 (.str b))(n1:notStar e1=true)(n2:notStar e2=true)
 (hr:ZH k A) (hg:C.G s.heap) (hh:Wq P env σ s.heap) (hb:ZM P s.heap)
 (q:∀s' u w,ZzK s s'->Q (.ref s'.heap.objs.size) { s' with heap:=s'.heap.push { cls:=.type "tuple",data:=.seq #[.str a u,.str b w] } }):
 wpAny C.M A (eval (.Tuple [e1,e2] n pos) env) Q E s:=by
 have ha:ZQ C k env σ [e1,e2] [.val (.str a),.val (.str b)]:=ZQ.cons h1 (ZQ.cons h2 ZQ.nil (X4 n2)) (X4 n1)
 show wpAny C.M A (do standAt pos;newTuple (<-spliced (backTo pos (Zyf [e1,e2] env)))) Q E s
 refine Zzz (ZxK (Zzz (ha.spliced hr hg hh hb λvs s₁ k₁ r₁=>?_)))
 obtain⟨v,w,rfl,r1,r2⟩:=V0 r₁
 obtain⟨u,rfl⟩:=Yj r1
 obtain⟨t,rfl⟩:=Yj r2
 exact wpAny_newTuple (q s₁ u t k₁) (by show 2<=Zzx;decide)
noncomputable def Vf(c x d b:Zzq):YM where
 R:=λP _ vs h v=>v=.ref x/\P x/\P d/\P b/\TabAt h c x d b vs
 mono:=λP P' ks vs h h' v hP hk t=>have T:=t.2.2.2.2
  ⟨t.1,T.lives.1.elim λo e=>hP _ _ e t.2.1,T.lives.2.1.elim λo e=>hP _ _ e t.2.2.1,T.lives.2.2.elim λo e=>hP _ _ e t.2.2.2.1,T.at λa o q e=>hk a o (q.elim (λq=>q ▸ t.2.1) λq=>q.elim (λq=>q ▸ t.2.2.1) λq=>q ▸ t.2.2.2.1) e⟩
theorem zv      (r:Rep P h (.box (Vf c x d b) [] l) v):Rep P h (.box (Y6 c) [] l) v:=ZzY (λvs t=>⟨⟨x,d,b,t.1⟩,t.2⟩) r
theorem HE      {R:Prop}(r:Rep P h (.box (Vf c x d b) [] l) v)(q:∀vs,v=.ref x->P x->P d->P b->TabAt h c x d b vs->Zy P h l vs->R):R:=
 Zyh r λvs t=>q vs t.1.1 t.1.2.1 t.1.2.2.1 t.1.2.2.2.1 t.1.2.2.2.2 t.2
theorem Ev.cX    (h:Ev C k env σ e (.box (Vf c x d b) [] l)):Ev C k env σ e (.box (Y6 c) [] l):=λA s Q E P hr hg hh hb q=>
 h A s Q E P hr hg hh hb λv s' ks r=>q v s' ks (zv r)
variable {N M:Zzq->Prop}{c Nc:Zzq}{mN:oO->Option Zzy}{k2 k3:Option Zzy}
theorem BE(H:Qu C c Nc mN k2 k3)      {tk:Nat}  (hf:Zt F.env)(hr:ZH k A)(I:Inv C F N M σ s.heap)
 (hs:σ "self"=some (.val (.box (Vf c x d b) [] l))) (h1:Ev C k F.env σ e1 (.str nm)) (h2:Ev C k F.env σ e2 (.str val)) (n1:notStar e1=true) (n2:notStar e2=true) (ZN:(p3.endLine==p5.line)=true) (hi:interactive F.env=false)
 (hsz:l.length<=Zzx)
 (q:∀s₁ u w h' vs n,ZzK s s₁->s.heap.get? b=some { cls:=.type "list",data:=.seq vs n }->s₁.heap.get? s₁.heap.objs.size=none->Zxi b (s₁.heap.push { cls:=.type "tuple",data:=.seq #[.str nm u,.str val w] }) h'->
  h'.PlainList b (vs.push (.ref s₁.heap.objs.size))->Q .next { s₁ with heap:=h' }):
 wpAny C.M A (exec (.Expr (.Call (.Attribute (.Attribute (.Name "self" p1) "_headers" p2) "append" p3) [.Tuple [e1,e2] tk p4] [] p5) p6) F.env) Q E s:=by
 refine wpAny_Expr ?_ hi rfl
 refine wpAny_Call_method (T:="list") (id:="list.append") rfl rfl ZN ZwT slot_list_append ZwQ ?_
 have es:Z1 C k F.env σ (.Name "self" p1) (.val (.box (Vf c x d b) [] l)):=Z1.name hf hs oD oD
 refine IZ H rfl (es A s _ _ (F.out M) hr I.G I.has I.Xv λv s₁ k₁ r₁=>HE r₁ λvs ev px pd pb T ra=>T.list.elim λws t=>t.elim λn t=>?_)
 have x₁:=Zw k₁
 have ea:vs.length=l.length:=ra.length
 refine⟨x,d,b,vs,ev,T,C.ext I.G x₁,⟨_,t.1,rfl⟩,λa e=>⟨_,ZuE e ▸ t.1,rfl⟩,ZyJ rfl (Zxv ?_)⟩
 have I₁:Inv C F N M σ ({ s₁ with toks:=s₁.toks+1 }:Zzu).heap:=I.keeps x₁
 show wpAny C.M A (spliced (backTo p5 (Zyf [.Tuple [e1,e2] tk p4] F.env))) _ E _
 refine Zyp (L0 (P:=F.out M) h1 h2 n1 n2 hr I₁.G I₁.has I₁.Xv λs₂ u w k₂=>Zxc ?_) rfl
 have yO:ZzK s₁ s₂:=Zq (ZZ s₁ _) k₂
 have IS:s.heap.get? b=some { cls:=.type "list",data:=.seq ws n }:=(I.has _ _ hs).elim λv0 z=>HE z.2 λzK _ _ _ _ T0 _=>T0.list.elim λbr t0=>t0.elim λn0 t0=>t0.1.trans ((x₁ _ _ t0.1).symm.trans t.1)
 exact wpAny_list_append_plain ⟨n,Zzj _ (Zw yO _ _ t.1)⟩ (λh' UU Kv=>q s₂ u w h' ws n (Zq k₁ yO) IS (Xz _) Kv UU) (oP (Zya ((congrArg ZyQ t.2).trans ea)) hsz)
end
noncomputable abbrev qS:Sg:=⟨FP,IF,λ_=>none,λ_ _ _=>none,λ_ _ _ _ _=>none⟩
structure HdOK2(C:Cx)(c N:Zzq)(mN:oO->Option Zzy)(k2 k3:Option Zzy):Prop extends HdOK C c N mN k2 k3 where
 sg:Y5 C 0 qS
section
variable {C:Cx}{k:Nat}{F:Ye}{σ σ':Zx}{s s' s₁:Zzu}{h h':Zza}{env:Env}{A:ZzH}{E:Zzy->Zzu->Prop}
variable {c N:Zzq}{mN:oO->Option Zzy}{k2 k3:Option Zzy}
theorem Ev.conv(H:HdOK C c N mN k2 k3)       (hf:Zt env)(hs:Ev C (k+1) env σ (.Name x p1) (.box (Y6 c) [] l))(hy:σ y=some (.val (.str t)))(Rt:Yl y=true)(ht:Xe t)
 (ZN:(p2.endLine==p6.line)=true):Ev C (k+1) env σ (.Call (.Attribute (.Name x p1) "_convert_string_type" p2) [.Name y p3] [⟨some "name",.Constant (.bool b) bk p4,p5⟩] p6) (.str t):=by
 obtain⟨f,hm,hc⟩:=H.Ld (k:=k) (b:=b) (a:=.val (.box (Y6 c) [] l)) ht
 exact Ev.AW H.cls hs hm (Z1.name hf hy (Yz Rt).1 (Yz Rt).2) rfl ⟨_,_,rfl⟩ hc rfl ZN
end
section
variable {C:Cx}{k:Nat}{F:Ye}{N M:Zzq->Prop}{σ σ':Zx}{s s' s₁:Zzu}{h h':Zza}{A:ZzH}{E:Zzy->Zzu->Prop}
variable {cT c Nc:Zzq}{mN:oO->Option Zzy}{k2 k3:Option Zzy}
theorem TabAt.apart   (T:TabAt h cT a d b vs):a≠b/\d≠b:=by
 obtain⟨ws,n,e,_⟩:=T.list
 have h1:a≠b:=λq=>by
  have t:=T.inst
  rw[q,e] at t;cases t
 exact⟨h1,λq=>SN T.ns.ns (q ▸ e)⟩
theorem Inv.v7       (I:Inv C F N M σ h)(hx:σ x=some (.tab cT l))(f:Jk F N M σ h ow)(g:UB σ ow)
 (hl:Loc F.env h x (.ref a)) (how:ow x=[a,d,b])  (T:TabAt h cT a d b vs) (hs:Zxi b h h') (hn:h'.get? b=some { cls:=.type "list",data:=.seq ws n }) (hr:Zy (YB F.base M) h l' ws.toList):
 Inv C F N M (σ.set x (.tab cT l')) h':=
 have m:b∈ow x:=how ▸ .tail _ (.tail _ (.head _))
 have kept:∀q o,q≠b->h.get? q=some o->h'.get? q=some o:=λq o n e=>(hs.2 q n).trans e
 I.HD hx rfl rfl f g m hl hs ⟨_,hn⟩ (Thing.ak rfl how rfl ⟨kept _ _ T.apart.1 T.inst,T.ns.at λo e=>kept _ _ T.apart.2 e,ws,n,hn,rfl⟩ (hr.mono (λ_ _ _ p=>p) λq o p eb=>kept q o (λq'=>p.1 (q' ▸ ((f x _ hx rfl).2 b m).1)) eb))
theorem L9(l m:List (oO × oO)):pairs (l++m)=pairs l++pairs m:=by unfold pairs;rw[Zz9]
theorem z7   (x:h.IsCell c u)(y:h.IsCell c v):u=v:=x.elim λo t=>y.elim λo' t'=>Data.cell.inj (t.2.symm.trans ((congrArg Obj.data (Zzv (t.1.symm.trans t'.1))).trans t'.2))
theorem HR{k:Option Zwz}{P:Prop}(e:k=some .local)(c:k=some .cell∨k=some .free):P:=c.elim (λc=>nomatch e.symm.trans c) λc=>nomatch e.symm.trans c
theorem Loc.unique{env:Env}{y:oO}  (a:Loc env h y v)(b:Loc env h y w):v=w:=
 a.elim (λt=>b.elim (λu=>t.2.elim λm z=>u.2.elim λm' z'=>Zzv (z.2.symm.trans ((congrFun (yH z.1 z'.1) y).trans z'.2))) λu=>HR t.1 u.1)
  λt=>b.elim (λu=>HR u.1 t.1) λu=>t.2.elim λc z=>u.2.elim λc' z'=>Zzv (z7 z.2 (Zzv (z'.1.symm.trans z.1) ▸ z'.2))
end
def HT(body:List ZzZ):Prop:=∃(p1 p2 p3 p4 p5:Pos),body=[.Return (some (.Call (.Name "len" p1) [.Attribute (.Name "self" p2) "_headers" p3] [] p4)) p5]
structure HdOK3(C:Cx)(c N:Zzq)(mN:oO->Option Zzy)(k2 k3:Option Zzy):Prop extends HdOK2 C c N mN k2 k3 where
 len:∃sc body,VB C mN "__len__" sc body ["self"] 1 [] []/\HT body/\locs sc ["self"]=true/\Xg sc ["self"]=true/\ZI sc "len"=true
section
variable {C:Cx}{k:Nat}{F:Ye}{σ σ':Zx}{s s' s₁:Zzu}{h h':Zza}{env:Env}{A:ZzH}{E:Zzy->Zzu->Prop}
variable {c N:Zzq}{mN:oO->Option Zzy}{k2 k3:Option Zzy}
theorem HdOK3.vD(H:HdOK3 C c N mN k2 k3)  (hl:l.length<=Zzx):∃f,W0 C mN "__len__" f/\ZG C (k+2) (.ref f) [.val (.box (Y6 c) [] l)] (.int l.length):=by
 obtain⟨sc,body,hD,⟨p1,p2,p3,p4,p5,rfl⟩,Am,hp,eQ⟩:=H.len
 let σ₀:Zx:=Zd (λ_=>none) ["self"] [.box (Y6 c) [] l]
 have s0:σ₀ "self"=some (.val (.box (Y6 c) [] l)):=by simp (decide:=true) [σ₀,Zd,Zx.set]
 have x2:zQ c qS 20 sc σ₀ (.Attribute (.Name "self" p2) "_headers" p3)=some (.val (.lst l)):=LD oD s0
 have he:XU (Tg c) 10 sc σ₀ [.Return (some (.Call (.Name "len" p1) [.Attribute (.Name "self" p2) "_headers" p3] [] p4)) p5]=some (.ret (.int l.length),σ₀):=
  L1.Io (L1.VM (L1.II (L1.Yc (by rw[eQ];rfl) (L1.Yv rfl x2 L1.Xi) (show FP "len" [.val (.lst l)]=some (.int l.length) from L1.Hg hl)) rfl))
 obtain⟨f,h1,h2⟩:=hD.call (k:=k+1) (as:=[.val (.box (Y6 c) [] l)]) (RQ:=[]) (af:=.ret (.int l.length)) (d:=.int l.length) hp rfl rfl (λP h=>Zy.nil) (.inl rfl) λF hs hF=>
  ⟨σ₀,(US (T:=Tg c) (Xy.hd H.toHdOK (H.sg _ (Zz3 _)) 20) hF (JM _ _ F rfl) 10).2 _ _ _ _ (by rw[hs];exact he)⟩
 exact⟨f,h1,h2.nil⟩
theorem Mr:∃y,typeLookup (.type "object") "__len__"=pure y:=⟨none,by rw[Zyn,ZzF];kernel_rfl⟩
theorem HdOK3.gN(H:HdOK3 C c N mN k2 k3)   (ha:a=.tab c l∨a=.val (.box (Y6 c) [] l))(hl:l.length<=Zzx):ZG C (k+3) (.builtin "len") [a] (.int l.length):=λA s Q E P vs hr hg r hb q=>by
 obtain⟨f,hm,hc⟩:=H.vD (k:=k) hl
 obtain⟨v,rfl,r1⟩:=XK r
 have WI:Rep (λ_=>True) s.heap (.box (Y6 c) [] l) v:=by
  rcases ha with rfl |rfl
  ·exact r1.pv
  ·exact r1.pv
 refine CD WI λws x d b e' _ _ _ T _=>?_
 subst e'
 obtain⟨of,fd,g1,g2,g3⟩:=hm.fn
 obtain⟨y,hB⟩:=Mr
 have X:s.heap.OwnSpecial x c f "object" "__len__":=⟨_,of,_,_,N,_,_,_,_,_,_,_,_,_,_,_,_,_,_,mN,y,T.inst,rfl,H.cls.obj _ hg,H.cls.ns _ hg,hm.is,g1 _ hg,g2,ZuW,hB⟩
 obtain⟨hh,g,dr,t,os⟩:=s
 refine len_own X ?_
 refine hc A.in1 _ _ _ (λ_=>True) [.ref x] (hr.of hr.handled (ZxT _) (Zzr (oD:1<=16) _)) hg ⟨_,_,rfl,WI,rfl⟩ (λ_ n=>absurd trivial n) λw s' ks Ci=>?_
 obtain⟨u,rfl⟩:=Zf.mp Ci
 refine⟨l.length,u,rfl,ZzJ _,?_,q _ _ (Zq ks (ZZ _ _)) (Zf.mpr ⟨_,rfl⟩)⟩
 rw[ZzS] at hl
 exact ZuI.mp (Nm hl)
end
section
variable {C:Cx}{k:Nat}{F:Ye}{N M:Zzq->Prop}{σ σ':Zx}{s s' s₁:Zzu}{h h':Zza}{env:Env}{A:ZzH}{E:Zzy->Zzu->Prop}
variable {c Nc:Zzq}{mN:oO->Option Zzy}{k2 k3:Option Zzy}
theorem Inv.rebase   (I:Inv C F N M σ h)(ho:∀x a,σ x=some a->XY a=false)(hc:∀y c,F.env.cells.lookup y=some c->y∈F.cs)(hs:∀a o,a≠dx->h.get? a=some o->h'.get? a=some o)
 (eN:∃o,F.base.get? dx=some o) (hP:∀a,F.P a->a≠dx) (hG:C.G h0) (he:ZY h0 F.base) (hn:h0.get? dx=none):Inv C ⟨F.env,h0,λ_=>True,F.cs⟩ N M σ h':=
 have nM:∀a,M a->a≠dx:=λa m q=>eN.elim λo e=>nS ((I.fresh a m).symm.trans (q ▸ e))
 have lG:∀x v,Loc F.env h x v->Loc F.env h' x v:=λx v l=>l.elim (λt=>.inl ⟨t.1,t.2.elim λm r=>⟨m,r.1.at λo e=>hs _ o (nM _ I.UX) e,r.2⟩⟩)
  λt=>.inr ⟨t.1,t.2.elim λc r=>⟨c,r.1,(I.cell x (hc _ _ r.1)).2.elim λc' z=>z.elim λv' z=>r.2.elim λo g=>⟨o,hs _ _ (nM _ (Zzv (z.1.symm.trans r.1) ▸ z.2.2.1)) g.1,g.2⟩⟩⟩
 ⟨hG,λa n=>absurd trivial n,λa o e=>hs _ _ (λq=>nS (hn.symm.trans (q ▸ e))) (I.ext _ _ (he _ _ e)),λa m=>ZD he (I.fresh a m),λa m=>(I.alive a m).imp λo e=>hs _ _ (nM a m) e,I.UX,I.Ua,I.pin,
  I.ns.imp λm e=>e.at λo e=>hs _ o (nM _ I.UX) e,λx hx=>(I.cell x hx).imp_right λt=>t.imp λc t=>t.imp λv t=>⟨t.1,ZzY (λo g=>⟨hs _ _ (nM _ t.2.2.1) g.1,g.2⟩) t.2.1,t.2.2⟩,I.apart,λy c e=>.inl (hc y c e),
  λx d e=>(I.val x d e).imp λv t=>⟨lG x v t.1,t.2.mono (λa o _ p=>⟨trivial,p.2⟩) λa o p e=>hs a o (hP a p.1) e⟩,λ_=>[],λx a e i=>absurd ((ho x a e).symm.trans i) Zz6,λx y a b c e i=>absurd ((ho x a e).symm.trans i) Zz6⟩
noncomputable def iA(pp:Nat->Pos)(nn:Nat->Nat):ZzZ:=.Assign [.Name "headers" (pp 0)] (.IfExp (.Compare (.Name "headers" (pp 1)) [.IsNot] [.Constant .none (nn 0) (pp 2)] (pp 3)) (.Name "headers" (pp 4)) (.List [] (pp 5)) (pp 6)) (pp 7)
noncomputable def iB(pp:Nat->Pos)(rb:List ZzZ):ZzZ:=.If (.Compare (.Call (.Name "type" (pp 8)) [.Name "headers" (pp 9)] [] (pp 10)) [.IsNot] [.Name "list" (pp 11)] (pp 12)) rb [] (pp 13)
noncomputable def iC(pp:Nat->Pos):ZzZ:=.Assign [.Attribute (.Name "self" (pp 14)) "_headers" (pp 15)] (.Name "headers" (pp 16)) (pp 17)
noncomputable def iD(pp:Nat->Pos)(nn:Nat->Nat)(fb:List ZzZ):ZzZ:=.If (.Constant (.bool true) (nn 1) (pp 18)) [.For (.Tuple [.Name "k" (pp 19),.Name "v" (pp 20)] (nn 2) (pp 21)) (.Name "headers" (pp 22)) fb [] (pp 23)] [] (pp 24)
def DC(body:List ZzZ):Prop:=∃(pp:Nat->Pos) (nn:Nat->Nat) (rb fb:List ZzZ),body=[iA pp nn,iB pp rb,iC pp,iD pp nn fb]
theorem Wj.gm    (ht:YV C k env σ t false)(hb:Wj C k env σ b av):Wj C k env σ (.IfExp t a b pos) av:=⟨hb.1,λA s Q E P hr hg hh NG q=>by
 refine wpAny_IfExp (ht A s _ _ P hr hg hh NG λs₁ k₁=>?_)
 show wpAny C.M A (eval b env) Q E s₁
 exact hb.2 A s₁ Q E P hr (C.ext hg (Zw k₁)) (hh.ext (Zw k₁)) (NG.ext (Zw k₁)) λv ow s' k' new T=>q v ow s' (Zq k₁ k') (λb m=>by
  have:=new b m
  cases e:s.heap.get? b with
  |none=>rfl
  |some o=>rw[Zw k₁ _ _ e] at this;cases this) T⟩
noncomputable def JX(c dx:Zzq):Obj:={ cls:=.ref c,dict:=some dx,data:=.plain }
noncomputable def Ti:St:=⟨qS,[],λ_ _=>none,5⟩
theorem Pj      (h2:σ "headers"=some (.val (.lst [])))(gk:Y0 sc "k"=true)(gv:Y0 sc "v"=true)(gh:ZI sc "headers"=false):
 XU Ti 10 sc σ [.If (.Constant (.bool true) n2 s1) [.For (.Tuple [.Name "k" s2,.Name "v" s3] n3 s4) (.Name "headers" s5) fb [] s6] [] s7]=some (.Z2,σ):=by
 have tm:(Z5 (.Tuple [.Name "k" s2,.Name "v" s3] n3 s4)).all (Y0 sc)=true:=by
  show [("k":oO),"v"].all (Y0 sc)=true
  simp [gk,gv]
 have ei:Y4 Ti.sg 6 sc σ true (.Tuple [.Name "k" s2,.Name "v" s3] n3 s4) (.Name "headers" s5)=some []:=by
  have e:ev Ti.sg 4 sc σ (.Name "headers" s5)=some (.val (.lst [])):=L1.UY (by rw[gh];rfl) h2
  refine L1.V9 (show ((ev Ti.sg 4 sc σ (.Name "headers" s5)).bind _)=_ from ?_)
  rw[e];rfl
 have hF:XD Ti 7 sc σ (.For (.Tuple [.Name "k" s2,.Name "v" s3] n3 s4) (.Name "headers" s5) fb [] s6)=some (.Z2,σ):=by
  refine (if_pos (by rw[tm];rfl)).trans ?_
  have fz:Q8 σ (.Name "headers" s5)=σ:=by
   show (match σ "headers" with |some v=>(match v with |.own ds=>σ.set "headers" (.val (.lst ds)) |_=>σ) |none=>σ)=σ
   rw[h2]
  show ((Y4 Ti.sg 6 sc (Q8 σ (.Name "headers" s5)) true (.Tuple [.Name "k" s2,.Name "v" s3] n3 s4) (.Name "headers" s5)).bind λes=>Qm _ es (Q8 σ (.Name "headers" s5)))=_
  rw[fz,ei];rfl
 have eb:YW Ti.sg 8 sc σ (.Constant (.bool true) n2 s1)=some true:=rfl
 exact L1.J0 (L1.Um eb (L1.J0 hF L1.WV)) L1.WV
theorem OP      (h2:σ "headers"=some (.val (.lst [])))(gk:Y0 sc "k"=true)(gv:Y0 sc "v"=true)(gh:ZI sc "headers"=false):XU Ti 10 sc σ [iD pp nn fb]=some (.Z2,σ):=Pj h2 gk gv gh
theorem SG(HC:Qu C c Nc mN k2 k3)    (G:C.G s.heap)(IB:s.heap.get? x=some (JX c dx))(hd2:s.heap.Ns1 dx (λ_=>none))(NZ:dx≠x)(Ra:x≠c)
 (q:∀h' Jp,(∀a o,a≠dx->s.heap.get? a=some o->h'.get? a=some o)->h'.Ns1 dx (λy=>if y=("_headers":oO) then some v else none)->Q () { s with heap:=h',toks:=Jp }):wpAny C.M A (setAttr (.ref x) "_headers" v) Q E s:=by
 obtain⟨hh,g,dr,t,os⟩:=s
 refine store_attr (ns:=[]) PySem.F.store_object (HC.obj _ G) (HC.ns _ G) HC.sa HC.hd CO Ra ⟨_,IB,rfl,(λc e=>nomatch e),.inr ⟨dx,rfl,NZ,hd2⟩⟩ (λh' Jp J kp sx=>?_) Within.nil (Zz3 _)
 have same:∀a o,a≠dx->hh.get? a=some o->h'.get? a=some o:=λa o na e=>by
  by_cases q:a=x
  ·subst q
   obtain⟨o₁,g1,g2,g3,g4,g5⟩:=sx _ IB
   have g6:=g5 dx rfl
   cases (show hh.get? a=_ from IB).symm.trans e
   rw[g1]
   rcases o₁ with ⟨a1,a2,a3,a4⟩
   cases g2;cases g3;cases g4;cases g6
   rfl
  ·exact kp a o q (λo₀ d' e1 e2=>by
    cases (show hh.get? x=_ from IB).symm.trans e1;cases e2;exact na) e
 refine q h' Jp same ?_
 obtain⟨oj,e1,e2,e3,e4⟩:=J
 cases (same x _ (λq=>NZ q.symm) IB).symm.trans e1
 rcases e4 with ⟨e4,_⟩ |⟨d',e4,_,e5⟩
 ·cases e4
 ·cases e4
  exact e5
theorem zx   (hF:XT F)(stH:ZS F.env F.cs "headers")(e0:σ.flat "headers"=some (.val .none)):
 Ex C (k+1) F σ (exec (iA pp nn) F.env) .Z2 (σ.set "headers" (.own [])):=
 Ex.QP hF.Z3 stH (Wj.gm (YV.cmp (Ev.name hF.Z3 e0) Ev.none (ZA.isNot_none rfl)) (Wj.list (ds:=[]) ZQ.nil (Zz3 _))) rfl
theorem vT    (hF:XT F)(hB:VX C F.env "type" (.type "type"))(qI:VX C F.env "list" (.type "list"))(h2:σ "headers"=some (.val (.lst [])))(hr:ZH (k+1) A)(I:Inv C F N M σ s.heap)
 (q:∀s₂,ZzK s s₂->Q .next s₂):wpAny C.M A (exec (iB pp rb) F.env) Q E s:=
 wpAny_If ((YV.cmp (k:=k+1) (Ev.Oc hF.Z3 hB (Ev.name hF.Z3 h2) rfl) (Ev.Bv hF.Z3 qI oD) ZA.SH:YV C (k+1) F.env σ _ false) A s _ _ _ hr I.G I.has I.Xv λs₂ k₂=>wpAny_execs_nil (q s₂ k₂))
theorem OO    (HC:Qu C c Nc mN k2 k3)(hF:XT F)(I:Inv C F N M σ s.heap)(lv:Loc F.env s.heap "headers" (.ref b))(h3:σ "self"=some (.val (.YZ (XA (.ref x)))))
 (IB:s.heap.get? x=some (JX c dx)) (hd2:s.heap.Ns1 dx (λ_=>none)) (NZ:dx≠x) (Ra:x≠c)
 (q:∀h' Jp,(∀a o,a≠dx->s.heap.get? a=some o->h'.get? a=some o)->h'.Ns1 dx (λy=>if y=("_headers":oO) then some (.ref b) else none)->Q .next { s with heap:=h',toks:=Jp }):wpAny C.M A (exec (iC pp) F.env) Q E s:=by
 obtain⟨vx,lx,rx⟩:=I.val _ _ h3
 cases Uv.mp rx
 exact plainObj_wpAny_Assign_Attribute (wpAny_Name (XS hF.Z3.kind lv oD (wpAny_Name (XS hF.Z3.kind lx oD (SG HC I.G IB hd2 NZ Ra q)) oD)) oD) rfl
def σI(x:Zzq):Zx:=Zd (λ_=>none) ["self","headers"] [.YZ (XA (.ref x)),.none]
def σJ(x:Zzq):Zx:=((σI x).set "headers" (.own [])).set "headers" (.val (.lst []))
theorem Ng :σJ x "headers"=some (.val (.lst [])):=by
 show (((σI x).set "headers" (.own [])).set "headers" (.val (.lst []))) "headers"=_
 exact if_pos rfl
theorem yc :σJ x "self"=some (.val (.YZ (XA (.ref x)))):=by
 show (((σI x).set "headers" (.own [])).set "headers" (.val (.lst []))) "self"=_
 exact (if_neg oD).trans ((if_neg oD).trans rfl)
theorem xR    (e:σJ x y=some a):XY a=false:=by
 by_cases w8:y="headers"
 ·subst w8
  cases e.symm.trans Ng;rfl
 ·by_cases w9:y="self"
  ·subst w9
   cases e.symm.trans yc;rfl
  ·have e:(if y="headers" then _ else if y="headers" then _ else if y="headers" then _ else if y="self" then _ else none)=some a:=e
   rw[if_neg w8,if_neg w8,if_neg w8,if_neg w9] at e
   exact nS e
theorem Pq    (hL:DC body)(H:HdOK2 C c Nc mN k2 k3)(hF:XT F)(hB:VX C F.env "type" (.type "type"))(qI:VX C F.env "list" (.type "list"))
 (Am:locs F.env.scope ["self","headers","k","v"]=true) (hP:∀a,F.P a->a≠dx) (hc:∀y c,F.env.cells.lookup y=some c->y∈F.cs)
 (Hf:F.base.get? x=some (JX c dx)) (RV:F.base.Ns1 dx (λ_=>none)) (hG:C.G h0) (he:ZY h0 F.base) (hn:h0.get? dx=none) (hr:ZH (k+1) A)
 (I:Inv C F (λ_=>False) M (Zd (λ_=>none) ["self","headers"] [.YZ (XA (.ref x)),.none]) s.heap)
 (q:∀b s',(∃h' tk,s'={ s with heap:=h',toks:=tk })->ZY h0 s'.heap->F.base.get? b=none->TabAt s'.heap c x dx b []->Q .next s'):wpAny C.M A (execs body F.env) Q E s:=by
 obtain⟨pp,nn,rb,fb,e0⟩:=hL
 subst e0
 have gl:∀x∈(["self","headers","k","v"]:List oO),ZI F.env.scope x=false/\Y0 F.env.scope x=true:=λx hx=>K6 Am hx
 have gD:=RV.ns.elim λoD r=>r.elim λ_ r=>r.elim λ_ r=>(⟨oD,r.1⟩:∃o,F.base.get? dx=some o)
 have NZ:dx≠x:=by
  intro q
  subst q
  obtain⟨o,es,ep,g1,g2,_⟩:=RV
  rw[Hf] at g1;cases g1;cases g2
 refine wpAny_execs_cons (zx (σ:=σI x) hF (X3 hF (gl _ (.tail _ (.head _))).2) rfl _ M A s _ _ hr I λfl M₁ s₁ WJ I₁ Qx=>?_)
 rw[Wu WJ]
 have o1:((σI x).set "headers" (.own [])) "headers"=some (.own []):=if_pos rfl
 refine CJ I₁ o1 λow b vs n ff gg e1 lv eb rr len=>?_
 have nf:=I₁.fresh b ((ff "headers" _ o1 rfl).2 b (e1 ▸ .head _)).1
 refine (I₁.freeze o1).elim λM₂ z=>?_
 have I₂:=z.1
 have rt:¬M₂ b:=(I₂.val _ _ Ng).elim λv' t=>(Yn.mp t.2).elim λa' t'=>t'.elim λW6 t'=>t'.elim λn' t'=>ZuE (t'.1.symm.trans (Loc.unique t.1 lv)) ▸ t'.2.1.2
 refine wpAny_execs_cons (vT (σ:=σJ x) hF hB qI Ng hr I₂ λs₂ k₂=>?_)
 have I₃:=I₂.of_keeps k₂
 have IB:s₂.heap.get? x=some (JX c dx):=I₃.ext _ _ Hf
 have Ra:x≠c:=λq=>by cases IB.symm.trans (q ▸ H.cls.obj _ I₃.G)
 refine wpAny_execs_cons (OO H.cls hF I₃ (lv.ext (Zw k₂)) yc IB (RV.at λo e=>I₃.ext _ _ e) NZ Ra λh' Jp same kd=>?_)
 have I₄:=I₃.rebase (h':=h') (h0:=h0) (dx:=dx) (λy a e=>xR e) hc same gD hP hG he hn
 have pk:XT ⟨F.env,h0,λ_=>True,F.cs⟩:=⟨hF.Z3,hF.cs,trivial⟩
 have sY:=OP (pp:=pp) (nn:=nn) (fb:=fb) (Ng (x:=x)) (gl "k" (.tail _ (.tail _ (.head _)))).2 (gl "v" (.tail _ (.tail _ (.tail _ (.head _))))).2 (gl "headers" (.tail _ (.head _))).1
 refine (US (C:=C) (k:=k+1) (T:=Ti) (H.sg (k+1) (Zz3 _)) pk (JM _ _ _ rfl) 10).2 _ _ _ _ sY _ M₂ A _ _ _ hr I₄ λfl M₃ s₃ WJ I₅ Wb=>?_
 rw[Wu WJ]
 have az:∀a o,F.base.get? a=some o->¬M₂ a:=λa o e m=>nS ((I₃.fresh a m).symm.trans e)
 have rh:b≠dx:=λq=>gD.elim λo e=>nS ((q ▸ nf:F.base.get? dx=none).symm.trans e)
 have qf:vs.toList=[]:=rr
 refine q b _ (XQ.trans Qx.same ((XQ.of_keeps k₂).trans (XQ.trans ⟨h',Jp,rfl⟩ Wb.same))) I₅.ext nf ⟨Wb.kept x _ (.inl (az _ _ Hf)) (same x _ (λq=>NZ q.symm) IB),kd.at λo e=>Wb.kept dx o (.inl (gD.elim λo e=>az _ _ e)) e,
  vs,n,Wb.kept b _ (.inl rt) (same b _ rh (Zw k₂ _ _ eb)),qf⟩
end
section
variable {C:Cx}{k:Nat}{N M:Zzq->Prop}{σ σ':Zx}{s s' s₁:Zzu}{h h':Zza}{env:Env}{A:ZzH}{E:Zzy->Zzu->Prop}
variable {c Nc:Zzq}{mN:oO->Option Zzy}{k2 k3:Option Zzy}
def made(h:Zza)(c:Zzq):Zza:=(h.push { cls:=.type "dict",data:=.dict #[] }).push (JX c h.objs.size)
theorem MO:ZY h (made h c):=λ_ _ e=>Zzj _ (Zzj _ e)
theorem SU    (H:Qu C c Nc mN k2 k3)(hg:C.G s.heap)(hi:mN "__init__"=some (.ref fI))(eG:s.heap.get? fI=some oI)(qX:oI.cls=.type "function")
 (hq:wpAny C.M (A.under (.builtin "type.__call__" ⟨[.ref c],[]⟩)) (call (.ref fI) [.ref (s.heap.objs.size+1)]) (λr s'=>r=.none/\Q (.ref (s.heap.objs.size+1)) s') E { s with heap:=made s.heap c }):
 wpAny C.M A (call (.ref c) []) Q E s:=by
 obtain⟨h,g,d,t,os⟩:=s
 have hC:=H.obj _ hg
 have hn:=H.ns _ hg
 have f1:=tc_lookup
 have f2:=tc_bind (.ref c)
 have hT:(⟨h,g,d,t,os⟩:Zzu).TypeIs (.ref c) "type":=⟨_,hC,rfl⟩
 have FN:=PySem.F.objNew
 refine wpAny_call (codeAny_of_tree ?_)
 show wpAny _ _ (callAny (.ref c) _) _ _ _
 repeat (any_goals (first |assumption |with_reducible refine wpAny_loadPart_at hC ?_ |wp_step))
 refine⟨rfl,?_⟩
 refine codeAny_call_builtin_at (Zqn _ (by decide +kernel)) entry_typeCall (wpAny_check_type_call_sub hC ?_)
 have hH:mroOf (.type "object")=pure [.type "object"]:=ZuW
 have NK:typeLookup (.type "object") "__init__"=pure (some (.builtin "object.__init__")):=by rw[Zyn,ZzF];kernel_rfl
 repeat (first |with_reducible refine wpAny_loadPart_at hC ?_ |with_reducible refine wpAny_madeBy_exc hC ?_ |wp_step)
 refine codeAny_call_builtin_code (Zqn _ FN.quiet) (wpAny_check_obj_new FN hC ?_)
 refine codeAny_obj_new FN hC hn hi ?_
 show wpAny _ _ _ _ _ _
 have ext:=MO (h:=h) (c:=c)
 have xr:=ext _ _ hC
 have g8:=ext _ _ eG
 have dK:(made h c).Ns Nc mN:=hn.keeps ext
 have tj:(made h c).get? (h.objs.size+1)=some { cls:=.ref c,dict:=some h.objs.size,data:=.plain }:=by unfold made JX;heap_get
 have eR:(Zwh c::[Zvn "object"]).contains (.ref c)=true:=by simp
 unfold isInstance
 show wpAny _ _ _ _ _ ⟨made h c,g,d,t,os⟩
 repeat (first |with_reducible refine wpAny_loadPart_at tj ?_ |(with_reducible refine wpAny_isSubtype_exc xr ?_;rw[eR]) |wp_step)
 show wpAny _ _ (typeLookup (.ref c) _) _ _ _
 refine wpAny_typeLookup_exc xr dK hH NK ?_
 rw[hi]
 refine ZzO (Zzz ?_)
 unfold bindSpecial
 refine Zzz (wpAny_typeOf (T:="function") ⟨_,g8,qX⟩ ?_)
 rw[if_pos oD]
 refine Zzi (Zzz (ZzC hq (λr s' hr=>?_) λ_ _ x=>x))
 obtain⟨rfl,hQ⟩:=hr
 wp_walk
 exact hQ
structure Fi(C:Cx)(c N:Zzq)(mN:oO->Option Zzy)(k2 k3:Option Zzy):Prop extends HdOK3 C c N mN k2 k3 where
 init:∃sc body,VB C mN "__init__" sc body ["self","headers"] 1 [] [.none]/\DC body/\locs sc ["self","headers","k","v"]=true/\Xg sc ["self","headers"]=true/\ZI sc "type"=true/\ZI sc "list"=true
 list:C.mg "list"=none/\C.mb "list"=some (.type "list")
 glob:C.mg "Headers"=some (.ref c)
theorem E0{F:Ye}    (hs:F.env.scope=sc)(hm:C.mg x=none)(hb:C.mb x=some v)(hg:ZI sc x=true):VX C F.env x v:=
 ⟨hm,hb,by rw[<-hs] at hg;exact beq_iff_eq.mp hg⟩
theorem Fi.make(H:Fi C c Nc mN k2 k3)  (hr:ZH (k+3) A)(hg:C.G s.heap)
 (q:∀x d b s',ZzK s s'->s.heap.get? x=none->s.heap.get? d=none->s.heap.get? b=none->x≠d->x≠b->d≠b->TabAt s'.heap c x d b []->Q (.ref x) s'):wpAny C.M A (call (.ref c) []) Q E s:=by
 obtain⟨sc,body,hD,hL,Am,hp,gt,gl⟩:=H.init
 obtain⟨f,fd,h1,h2,h3,h4⟩:=hD.ex
 obtain⟨of,ng,g1,g2,g3⟩:=h1.fn
 refine SU H.cls hg h1.is (g1 _ hg) g2 ?_
 let FH:=made s.heap c
 have ext:=MO (h:=s.heap) (c:=c)
 have aS:C.G FH:=C.ext hg ext
 have aD:s.heap.get? s.heap.objs.size=none:=ZuL (Zz1 _)
 have rE:s.heap.get? (s.heap.objs.size+1)=none:=ZuL (ZxT _)
 have Hf:FH.get? (s.heap.objs.size+1)=some (JX c s.heap.objs.size):=by show (made s.heap c).get? _=_;unfold made JX;heap_get
 have qY:FH.get? s.heap.objs.size=some { cls:=.type "dict",data:=.dict #[] }:=Zzj _ (Heap.get?_push_at rfl rfl)
 have RV:FH.Ns1 s.heap.objs.size (λ_=>none):=Heap.Ns1.of_empty ⟨_,#[],_,qY,rfl,λe he=>absurd he (by simp),λ_=>rfl⟩
 have Z9:ZM (λa=>a≠s.heap.objs.size) FH:=λa n=>by
  have:a=s.heap.objs.size:=Zyg n
  rw[this];exact⟨_,qY⟩
 have dp:(A.under (.builtin "type.__call__" ⟨[.ref c],[]⟩)).depth=A.depth+1:=rfl
 have up:(A.under (.builtin "type.__call__" ⟨[.ref c],[]⟩)).units=A.units+1:=rfl
 have qV:(A.under (.builtin "type.__call__" ⟨[.ref c],[]⟩)).handled=none:=hr.handled
 have rN:=hr.depth
 have FC:=hr.units
 have rA:ZH (k+2) (A.under (.builtin "type.__call__" ⟨[.ref c],[]⟩)):=hr.of qV (Zya dp) (by rw[up];exact Zzr oD _)
 refine h2.enter (s:={ s with heap:=FH }) (P:=λa=>a≠s.heap.objs.size) (ds:=[.YZ (XA (.ref (s.heap.objs.size+1))),.none]) (h3 ▸ Ui hp) rfl (by rw[dp];exact Zz4 (Zzr (ZzV 1 (k+2)) _) rN) aS Z9 (Zy.cons (Uv.mpr rfl) (Zy.one (Xo.mpr rfl))) (h4 _ [.ref (s.heap.objs.size+1)] aS rfl) λF M s₁ E' FF e5 e6 e7 I ok=>?_
 have Jz:=FF.scope.trans h3
 refine Pq (k:=k) hL H.toHdOK2 FF.s (E0 Jz H.type.1 H.type.2 gt) (E0 Jz H.list.1 H.list.2 gl) (by rw[Jz];exact Am) (λa p=>by rw[e5] at p;exact p) e7 (by rw[e6];exact Hf) (by rw[e6];exact RV) hg (by rw[e6];exact ext) aD rA.deeper I λb s' sm qW WI hT=>?_
 rw[e6] at WI
 exact⟨rfl,q _ _ b _ (XQ.keeps (XQ.trans ⟨FH,s.toks,rfl⟩ (XQ.trans ok.same sm)) qW) rE aD (ZD ext WI) (ZqV _) (λe=>nS (WI.symm.trans (e ▸ Hf))) (λe=>nS (WI.symm.trans (e ▸ qY))) hT⟩
theorem Wj.headers(H:Fi C c Nc mN k2 k3)  (hf:Zt env)(hk:env.kindOf "Headers"=some .globalImplicit):Wj C (k+3) env σ (.Call (.Name "Headers" p) [] [] pos) (.tab c []):=⟨rfl,λA s Q E P hr hg hh hb q=>by
 rw[Ym]
 refine Zzz (Jf hf ⟨H.glob,hk⟩ hg ?_ oD)
 refine PyProof.Rows.callWith_cls0 (h₀:=s.heap) ⟨⟨_,_,_,_,_,_,_,_,_,_,_,_,H.cls.obj _ hg⟩,H.cls.ns _ hg⟩ (λ_ _ e=>e) ?_
 refine H.make hr hg λx d b s' ks n1 n2 n3 a1 a2 a3 T=>q _ [x,d,b] s' ks (λy hy=>?_) ⟨x,d,b,rfl,rfl,[],T,Zy.nil⟩
 simp only[ZzN,Zvy,or_false] at hy
 rcases hy with rfl |rfl |rfl<;>assumption⟩
end
noncomputable def Gb(c:Zzq)(cl:oO->List AV->Option PV):oO->List AV->Option PV:=λx as=>
 if x==("len":oO) then (match as with
  |[.tab c' l]=>if c'=c/\l.length<=Zzx then some (.int l.length) else none
  |_=>cl x as) else cl x as
theorem vF      {R:Prop}(h:Gb c cl x as=some d)(q:∀l:List PV,x="len"->as=[.tab c l]->l.length<=Zzx->d=.int l.length->R)(r:cl x as=some d->R):R:=by
 refine YQ h (λex h=>?_) λ_=>r
 rcases as with _ |⟨a,_ |⟨_,_⟩⟩
 ·exact r h
 ·cases a with
  |tab c' l=>exact Zl h λhc h=>q l (eq_of_beq ex) (by rw[hc.1]) hc.2 (Zzv h).symm
  |_=>exact r h
 ·cases a<;>exact r h
section
variable {C:Cx}{k:Nat}{σ:Zx}{env:Env}{c Nc:Zzq}{mN:oO->Option Zzy}{k2 k3:Option Zzy}
theorem Y5.len(H:HdOK3 C c Nc mN k2 k3){k₀:Nat}{S:Sg}(hS:Y5 C k₀ S)(hm:C.mg "len"=none)(hb:C.mb "len"=some (.builtin "len")):Y5 C (k₀+3) ⟨Gb c S.cl,S.mt,S.gv,S.xe,S.xi⟩:=λk hk=>by
 obtain⟨k',rfl⟩:∃k',k=k'+3:=⟨k-3,(Zxn (oP (ZzV 3 k₀) hk)).symm⟩
 have K:=hS (k'+3) (oP (Zzt _ _) hk)
 exact⟨λx as d h env σ p pos args hf Q6 ha hd hl=>vF h (λl ex ea hz ed=>by
  subst ex ea ed
  exact Ev.N3 hf ⟨hm,hb,Q6⟩ ha (H.gN (k:=k') (.inl rfl) hz) hd) λh=>K.cl x as d h env σ p pos args hf Q6 ha hd hl,K.mt,K.gv,K.xe,K.xi,K.bi,K.list,K.range,K.zip⟩
end
section
variable {C:Cx}{k:Nat}{σ:Zx}{s s' s₁:Zzu}{h h':Zza}{env:Env}{A:ZzH}{E:Zzy->Zzu->Prop}
noncomputable def Uo(es:Array ZxZ)(ep:Nat):Obj:={ cls:=.type "dict",data:=.dict es ep }
noncomputable def xy(w:Zzk)(x:oO)(t:Tok)(v:Zzy):ZxZ:=⟨hashStr w x,.str x t,v⟩
theorem Dj      (hk:∀e∈es,e.key.isStr name=false):Obj.putName name hh key v (Uo es ep)=Uo (es.push ⟨hh,key,v⟩) (ep+1):=by
 rw[Obj.putName_eq]
 show (match es.findIdx? (·.key.isStr name) with |some i=>_ |none=>_)=_
 rw[Array.findIdx?_eq_none_iff.mpr hk];rfl
theorem noRef   (hk:∀e∈es,e.refKey=false):aRefKeyMayBeTheName name es=false:=by
 rw[aRefKeyMayBeTheName_at,show es.any (·.refKey)=false from Array.any_eq_false'.mpr λe he=>by rw[hk e he];exact Zz6,ZxR]
theorem LB       (ho:s.heap.get? d=some (Uo es ep))(hk:∀e∈es,e.key.isStr name=false)(hr:∀e∈es,e.refKey=false)
 (q:∀h',h'.get? d=some (Uo (es.push (xy C.w name s.toks v)) (ep+1))->Zxi d s.heap h'->Q () { s with heap:=h',toks:=s.toks+1 }):wpAny C.M A (nsSet d name v) Q E s:=by
 unfold nsSet strHash
 refine Zzz (Zzz (wpAny_askSetting (Zzi (Zzz (wpAny_mkText (Zzz (wpAny_loadPart ho ?_)))))))
 dsimp only [Uo]
 rw[noRef hr,if_neg Zz6]
 exact wpAny_updatePart ho (q _ ((ZyB _ ho (by rw[Dj hk];rfl)).trans (congrArg some (Dj hk))) (Heap.SameBut.update ..))
end
section
variable {C:Cx}{k:Nat}{σ:Zx}{s s' s₁:Zzu}{h h':Zza}{env:Env}{A:ZzH}{E:Zzy->Zzu->Prop}
noncomputable def UE(pp:Nat->Pos):ZvW:=⟨[],[⟨"self",none,pp 0⟩,⟨"_name",none,pp 1⟩,⟨"_value",none,pp 2⟩],none,[],[],some ⟨"_params",none,pp 3⟩,[]⟩
theorem c6    (hp:fd.params=UE pp)(hd:fd.defaults=.none):bindArgs fd ⟨[a,b,c],[]⟩=(do
 let d <-alloc (Uo #[] 0)
 pure [("self",a),("_name",b),("_value",c),("_params",.ref d)]):=by
 obtain⟨f1,f2,f3,f4,f5,f6,f7,f8⟩:=fd
 dsimp only at hp hd
 subst hp hd
 kernel_rfl!
theorem ct    (hp:fd.params=UE pp)(hd:fd.defaults=.none):bindArgs fd ⟨[a,b,c],[("read_from",u),("read_size",v)]⟩=(do
 let d <-alloc (Uo #[] 0)
 for (k,v) in ([("read_from",u),("read_size",v)]:List (oO × Zzy)) do nsSet d k v
 pure [("self",a),("_name",b),("_value",c),("_params",.ref d)]):=by
 obtain⟨f1,f2,f3,f4,f5,f6,f7,f8⟩:=fd
 dsimp only at hp hd
 subst hp hd
 kernel_rfl!
theorem cb    (hp:fd.params=UE pp)(hd:fd.defaults=.none):bindArgs fd ⟨[a,b,c],[("read_from",u),("read_size",v),("lapping",w)]⟩=(do
 let d <-alloc (Uo #[] 0)
 for (k,v) in ([("read_from",u),("read_size",v),("lapping",w)]:List (oO × Zzy)) do nsSet d k v
 pure [("self",a),("_name",b),("_value",c),("_params",.ref d)]):=by
 obtain⟨f1,f2,f3,f4,f5,f6,f7,f8⟩:=fd
 dsimp only at hp hd
 subst hp hd
 kernel_rfl!
end
section
variable {prog:ZxW}{w:Zzk}{K:Type} [DecidableEq K] {knd:KeyKind prog w K}{A:ZzH}{E:Zzy->Zzu->Prop}{s:Zzu}
theorem IQ:entryFor table "dict_itemiterator.__iter__"=some Zwv.«dict_keyiterator.__iter__»:=
 entryFor_alias (id':="dict_keyiterator.__iter__") (by kernel_rfl) rfl (by decide +kernel) (by kernel_rfl)
theorem Bg     (hit:IsItemIter s.heap it d i n ep ok ov)(h:Q (.ref it) s):wpAny (model prog w) A (pyIter (.ref it)) Q E s:=by
 have hT:s.TypeIs (.ref it) "dict_itemiterator":=⟨_,hit,rfl⟩
 refine wpAny_pyIter_slot hT ZwL (wpAny_call_entry ZwL hT IQ ?_ (PySem.F.args_dict_itemiterator_iter_1 _))
 show wpAny _ _ (ret (.ref it)) _ _ s
 exact Zzi ⟨_,rfl,"dict_itemiterator",_,hT,PySem.F.slot_dict_itemiterator_next.lookup,h⟩
theorem LN(hh:A.handled=none)(it d:Zzq)(WQ:d≠it)(kvs:List (K × Zzy))(ep:Nat):
 WalksT prog w A it [it,d] [it] kvs.length (λi vals=>∃k v key,kvs[i]?=some (k,v)/\knd.is k key=true/\vals=#[key,v])
  (λi h=>(∃ok ov,IsItemIter h it d i kvs.length ep ok ov)/\h.DictAt knd d kvs ep)
  (λi T h=>(∃ok ov,IsItemIterOut h it d (i+1) kvs.length ep ok ov T)/\h.DictAt knd d kvs ep/\T≠it) where
 sub:=λb hb=>(Zz5.mp hb) ▸ .head _
 frame:=λi h h' st hk=>⟨st.1.imp λok t=>t.imp λov e=>hk it (.head _) _ e,st.2.at' λo e=>hk d (.tail _ (.head _)) o e⟩
 item:=λi s Q E hi st hQ=>by
  obtain⟨⟨ok,ov,hit⟩,hm⟩:=st
  obtain⟨⟨k,v⟩,hx⟩:∃p,kvs[i]?=some p:=⟨kvs[i],gE hi⟩
  refine wpAny_pyNext_items_item hit hm hx λkey h' Mw ho hT hz hk=>?_
  exact hQ s.heap.objs.size #[key,v] h' s.toks ⟨k,v,key,hx,Mw,rfl⟩ (Zz1 _) ⟨_,hT,rfl,_,rfl⟩ ⟨⟨_,_,ho⟩,hm.at' λo e=>hk d o WQ e,ZzE (ZzU hit)⟩
   λb o hb x=>hk b o (λe=>hb (e ▸ .head _)) x
 go:=λelts k pos i T s Q E hm hQ=>by
  obtain⟨⟨ok,ov,ho⟩,hd,hT⟩:=hm
  refine wpAny_letOwnedTupleGo_items ho λh' he hs=>hQ h' ⟨⟨_,_,he⟩,hd.at' λo e=>(hs.2 d WQ).trans e⟩ λb o hb y=>(hs.2 b λe=>hb (e ▸ .head _)).trans y
 apart:=λi T h hm hT=>hm.2.2 (Zz5.mp hT)
 done:=λs Q E st hQ=>by
  obtain⟨⟨ok,ov,hit⟩,hm⟩:=st
  exact wpAny_pyNext_items_end hh hit hm (Zwn (Zz1 _)) λh' hx=>hQ h' s.toks λb o hb y=>hx b o (λe=>hb (e ▸ .head _)) y
 self:=λi s Q E st hQ=>st.1.elim λok t=>t.elim λov e=>Bg e hQ
end
noncomputable def dB(prog:ZxW)(w:Zzk):YM where
 R:=λP ks vs h v=>∃a ep,v=.ref a/\P a/\(a==sysModules)=false/\h.DictAt (strKind prog w) a (ks.zip vs) ep/\ks.length=vs.length
 mono:=λP P' ks vs h h' v hP hk t=>t.imp λa t=>t.imp λep t=>⟨t.1,t.2.2.2.1.elim λo r=>r.elim λes r=>hP _ _ r.1 t.2.1,t.2.2.1,t.2.2.2.1.at' λo e=>hk _ _ t.2.1 e,t.2.2.2.2⟩
noncomputable def Gn(ks:List oO)(l:List PV):List PV:=(ks.zip l).map λx=>.tup [.str x.1,x.2]
theorem HV  :∀{ks:List oO} {l:List PV} {vs:List Zzy} {i:Nat} {x:oO} {v:Zzy},Zy P h l vs->(ks.zip vs)[i]?=some (x,v)->∃d,(ks.zip l)[i]?=some (x,d)/\Rep P h d v
 |[],l,vs,i,x,v,r,e=>by simp at e
 |k::ks,[],vs,i,x,v,r,e=>by cases (r:vs=[]);simp at e
 | k::ks,d::l,vs,i,x,v,r,e=>by
   obtain⟨u,us,rfl,r1,r2⟩:=r
   cases i with
   |zero=>cases (e:some (k,u)=some (x,v));exact⟨d,rfl,r1⟩
   |succ i=>exact HV (ks:=ks) r2 e
section
variable {C:Cx}{k:Nat}{σ:Zx}{s s' s₁:Zzu}{h h':Zza}{env:Env}{A:ZzH}{E:Zzy->Zzu->Prop}
theorem Yd.items        (ho:Ev C k env σ o (.box (dB C.prog C.w) ks l))(YI:attributeBase o "items" env (eval o env)=eval o env)(ZN:(apos.endLine==pos.line)=true):
 Yd C k env σ strict (.Tuple [.Name y p1,.Name z p2] kk pt) (.Call (.Attribute o "items" apos) [] [] pos) (Gn ks l):=λA s Q E P hr hg hh al q=>by
 refine wpAny_Call_method (T:="dict") (id:="dict.items") YI rfl ZN ZuN Zun PySem.F.type_dict_items (ho A s _ _ P hr hg hh al λv s₁ k₁ r₁=>?_)
 obtain⟨vs,⟨a,ep,rfl,pa,hS,hm,hl⟩,ra⟩:=r₁
 refine⟨hm.dictOf.typeIs,hm.dictOf.mapOf.noDict,?_⟩
 show wpAny _ _ (callWith pos (.builtin "dict.items") [.ref a] [] []) _ E s₁
 refine method_meetsIn Zun PySem.F.entry_dict_items rfl (PySem.evalArgs_none ⟨rfl,hm.dictOf.typeIs,PySem.F.args_dict_items_1 _,_,meets_dict_items (strKind C.prog C.w) a hS,⟨_,hm.dictOf⟩,?_⟩)
 have x₁:=Zw k₁
 have Sh:=hm.push { cls:=.type "dict_items",data:=.fields #[.ref a] }
 refine wpAny_pyIter_items (v:=s₁.heap.objs.size) (kvs:=ks.zip vs) (ep:=ep) ⟨_,Zzl _ rfl,rfl,rfl⟩ Sh ?_
 have sz:(s₁.heap.push { cls:=.type "dict_items",data:=.fields #[.ref a] }).objs.size=s₁.heap.objs.size+1:=ZyT ..
 have ha:a<s₁.heap.objs.size:=hm.lt_size
 have WQ:a≠(s₁.heap.push { cls:=.type "dict_items",data:=.fields #[.ref a] }).objs.size:=by rw[sz];exact ZzR (ZyG ha)
 have W:=(LN (A:=A) (knd:=strKind C.prog C.w) hr.handled (s₁.heap.push { cls:=.type "dict_items",data:=.fields #[.ref a] }).objs.size a WQ (ks.zip vs) ep).toU.bound
 have len:(ks.zip vs).length=(Gn ks l).length:=by
  have:=ra.length
  simp [Gn,this]
 rw[len] at W
 have x₂:∀b o,s₁.heap.get? b=some o->((s₁.heap.push { cls:=.type "dict_items",data:=.fields #[.ref a] }).push { cls:=.type "dict_itemiterator",data:=.fields #[.none,.bool false,.ref a,.int 0 0,.int (ks.zip vs).length 0,.int ep 0,.none,.none] }).get? b=some o:=λb o e=>Zzj _ (Zzj _ e)
 refine q _ _ _ _ _ { s₁ with heap:=_ } (Zq k₁ ⟨_,s₁.toks,rfl,x₂⟩) (Vq.two hr.handled W (λi h st=>Zs (st.1.elim λok t=>t.elim λov e=>⟨_,e⟩) YX) (λi vals hp=>hp.2.elim λ_ q=>q.elim λ_ q=>q.elim λ_ q=>q.2.2 ▸ rfl))
  ⟨⟨.none,.none,by rw[<-len];exact Zzl _ rfl⟩,Sh.push _⟩ (Zs ⟨_,Zzl _ rfl⟩ (Zs ((Sh.push _).elim λo t=>t.elim λes t=>⟨o,t.1⟩) YX)) (Zs (ZD x₁ (Xq (by rw[sz];exact ZxT _))) YX)
  (λhs=>Zs (.inl (.head _)) (Zs (.inr pa) YX)) λi vals hp=>?_
 obtain⟨w,⟨hi,x,v,key,hx,Mw,rfl⟩,rfl⟩:=hp
 obtain⟨d,e1,r1⟩:=HV ra hx
 obtain⟨t,rfl⟩:=Zv4 Mw
 refine⟨.tup [.str x,d],[.str x,d],by simp [Gn,e1],rfl,Zy.cons (Zc.mpr ⟨t,rfl⟩) (Zy.one (r1.mono (λb o e p=>⟨p,λm=>?_⟩) λb o _ e=>x₂ b o e))⟩
 have:=(Zz5.mp m) ▸ ZzU e
 rw[sz] at this
 exact absurd this (Zuu (ZxT _))
end
theorem ER     (h:Pairs (strKind prog w) es kvs):∀e∈es,∃x t,e.key=.str x t/\x∈kvs.map (·.1):=by
 induction h with
 |nil=>exact λe m=>nomatch m
 | cons h1 h2 h3 ih=>
   intro e m
   rcases ZzN.mp m with rfl |m
   ·obtain⟨t,ht⟩:=Zv4 h1
    exact⟨_,t,ht,.head _⟩
   ·obtain⟨x,t,e1,e2⟩:=ih e m
    exact⟨x,t,e1,.tail _ e2⟩
section
variable {C:Cx}{k:Nat}{σ:Zx}{s s' s₁:Zzu}{h h':Zza}{env:Env}{A:ZzH}{E:Zzy->Zzu->Prop}
theorem QD  :(strKind C.prog C.w).is n (.str n t)=true:=by
 show Zjl n (.str n t)=true
 simp [Zjl,Value.isStr]
theorem OM   (hf:∀n v u,f (n,v) u=(do nsSet d n v;pure (.yield ⟨⟩))):
 ∀(ks:List (oO × Zzy)) {done:List (oO × Zzy)} {es:Array ZxZ} {ep:Nat} {s:Zzu} {Q:PUnit->Zzu->Prop},s.heap.get? d=some (Uo es ep)->KeysOf (strKind C.prog C.w) es->Pairs (strKind C.prog C.w) es.toList done->((done++ks).map (·.1)).Nodup->
 (∀h' tk Cp NM,h'.get? d=some (Uo Cp NM)->KeysOf (strKind C.prog C.w) Cp->Pairs (strKind C.prog C.w) Cp.toList (done++ks)->(∀b o,b≠d->s.heap.get? b=some o->h'.get? b=some o)->s.toks+ks.length<=tk->Q ⟨⟩ { s with heap:=h',toks:=tk })->
 wpAny C.M A (forIn ks ⟨⟩ f) Q E s:=by
 intro ks
 induction ks with
 | nil=>
   intro done es ep s Q ho hk hp hn q
   rw[ZyS]
   exact Zzi (q s.heap s.toks es ep ho hk (by rw[ZyZ];exact hp) (λb o _ e=>e) (Zz1 _))
 | cons kv ks ih=>
   intro done es ep s Q ho hk hp hn q
   obtain⟨n,v⟩:=kv
   rw[Zys,hf]
   have key:∀e∈es,∃x t,e.key=.str x t/\x≠n:=λe m=>by
    obtain⟨x,t,e1,e2⟩:=ER hp e (Array.mem_toList_iff.mpr m)
    refine⟨x,t,e1,λq=>?_⟩
    subst q
    rw[Zz9,Zwg] at hn
    exact hn.2.2 _ e2 _ (.head _) rfl
   refine Zzz (Zzz (LB (C:=C) ho (λe m=>?_) (λe m=>?_) λh' e1 sb=>Zzi ?_))
   ·obtain⟨x,t,e1,e2⟩:=key e m
    rw[e1]
    simp [Value.isStr,e2]
   ·obtain⟨x,t,e1,e2⟩:=key e m
    unfold DictEntry.refKey
    rw[e1]
   refine ih (done:=done++[(n,v)]) (es:=es.push (xy C.w n s.toks v)) e1 (λe m=>?_) ?_ (by rw[Zzo];exact hn) λNB tk Cp NM e2 k2 p2 sU tl=>?_
   ·rcases Array.mem_push.mp m with m |rfl
    ·exact hk e m
    ·exact⟨n,QD,rfl⟩
   ·rw[ZxG]
    exact hp.append QD _ _
   ·refine q NB tk Cp NM e2 k2 (by rw[Zzo] at p2;exact p2) (λb o nb e=>sU b o nb ((sb.2 b nb).trans e)) (by have tl:s.toks+1+ks.length<=tk:=tl;exact Zyq s.toks ks.length ▸ tl)
end
def YO(n₀:Nat)(C:Cx)(k:Nat)(F:Ye)(σ:Zx)(t:Sem Flow)(af:Z7)(σ':Zx):Prop:=
 ∀N M A s Q E,n₀<=s.toks->ZH k A->Inv C F N M σ s.heap->(∀fl M' s',n₀<=s'.toks->VI F.base s'.heap af fl->Inv C F N M' σ' s'.heap->Zo N M s M' s'->Q fl s')->wpAny C.M A t Q E s
def I8(n₀:Nat)(C:Cx)(k:Nat)(env:Env)(σ:Zx)(e:Zzw)(d:PV):Prop:=
 ∀A s Q E P,n₀<=s.toks->ZH k A->C.G s.heap->Wq P env σ s.heap->ZM P s.heap->(∀v s',ZzK s s'->Rep P s'.heap d v->Q v s')->wpAny C.M A (eval e env) Q E s
section
variable {n₀:Nat}{C:Cx}{k:Nat}{F:Ye}{N M:Zzq->Prop}{σ σ₁ σ₂:Zx}{s s' s₁:Zzu}{af:Z7}{h h':Zza}{A:ZzH}{E:Zzy->Zzu->Prop}{env:Env}
theorem Ev.t   (h:Ev C k env σ e d):I8 n₀ C k env σ e d:=λA s Q E P _=>h A s Q E P
theorem Ex.t{t:Sem Flow}(h:Ex C k F σ t af σ₁):YO n₀ C k F σ t af σ₁:=λN M A s Q E ht hr I q=>
 wpAny_toks ht (h N M A s _ E hr I λfl M' s' hf I' ok n=>q fl M' s' n hf I' ok)
theorem YO.mk  (h:∀N M A s Q E,n₀<=s.toks->ZH k A->Inv C F N M σ s.heap->(∀fl M' s',VI F.base s'.heap af fl->Inv C F N M' σ₁ s'.heap->Zo N M s M' s'->Q fl s')->wpAny C.M A t Q E s):YO n₀ C k F σ t af σ₁:=λN M A s Q E ht hr I q=>
 wpAny_toks ht (h N M A s _ E ht hr I λfl M' s' hf I' ok n=>q fl M' s' n hf I' ok)
theorem YO.nil:YO n₀ C k F σ (execs [] F.env) .Z2 σ:=Ex.nil.t
theorem YO.cons{st:ZzZ}  (h:YO n₀ C k F σ (exec st F.env) .Z2 σ₁)(hs:YO n₀ C k F σ₁ (execs rest F.env) af σ₂):YO n₀ C k F σ (execs (st::rest) F.env) af σ₂:=λN M A s Q E ht hr I q=>
 wpAny_execs_cons (h N M A s _ E ht hr I λfl M' s' n hf I' ok=>by
  rw[Wu hf]
  exact hs N M' A s' Q E n hr I' λfl RG Rd n' RZ RD I0=>q fl RG Rd n' RZ RD (ok.trans I0))
theorem YO.ite     (h:YV C k F.env σ t b)(ht:b=true->YO n₀ C k F σ (execs body F.env) af σ₁)(he:b=false->YO n₀ C k F σ (execs orelse F.env) af σ₁):
 YO n₀ C k F σ (exec (.If t body orelse pos) F.env) af σ₁:=YO.mk λN M A s Q E tk hr I q=>by
 refine wpAny_If (wpAny_toks tk (h A s _ _ _ hr I.G I.has I.Xv λs₁ k₁ n=>?_))
 cases b with
 |true=>exact ht rfl N M A s₁ Q E n hr (I.of_keeps k₁) λfl M' s' _ hf I' ok=>q fl M' s' hf I' (ok.after k₁)
 |false=>exact he rfl N M A s₁ Q E n hr (I.of_keeps k₁) λfl M' s' _ hf I' ok=>q fl M' s' hf I' (ok.after k₁)
theorem YO.append      (hf:Zt F.env)(hx:σ x=some (.own ds))(h:I8 n₀ C k F.env σ.flat e d)(hsz:ds.length<=Zzx)
 (hn:Yl x=true) (ZN:(apos.endLine==cpos.line)=true) (Xk:notStar e=true):
 YO n₀ C k F σ (exec (.Expr (.Call (.Attribute (.Name x p) "append" apos) [e] [] cpos) pos) F.env) .Z2 (σ.set x (.own (ds++[d]))):=YO.mk λN M A s Q E tk hr I q=>by
 have he:Zyf [e] F.env=[(false,eval e F.env)]:=X4 Xk
 refine CJ I hx λow a vs n f g e1 l e0 r len=>?_
 refine wpAny_Expr ?_ (Iu hf) rfl
 refine wpAny_Call_method rfl (by rw[he];rfl) ZN ZwT slot_list_append ZwQ ?_
 refine wpAny_Name (XS hf.kind l (Yz hn).2 ?_) (Yz hn).1
 refine⟨⟨_,e0,rfl⟩,λb e=>by cases e;exact⟨_,e0,rfl⟩,?_⟩
 refine ZyJ (by rw[he];rfl) ?_
 rw[he]
 refine Zxv ?_
 show wpAny C.M A (spliced (backTo cpos [(false,eval e F.env)])) _ _ _
 rw[<-he]
 refine Zyp (h A s _ _ (YB F.base M) tk hr I.G I.Vx I.Ww λw s₁ k₁ r₁=>Zxc ?_) he
 have x₁:=Zw k₁
 refine wpAny_list_append_plain ⟨n,x₁ _ _ e0⟩ (λh' UU Kv=>?_) (len ▸ hsz)
 have m:=(I.keeps x₁).GI (ds':=ds++[d]) (.of_keeps k₁) hx (f.keeps x₁) g (l.ext x₁) e1 Kv UU ((congrArg (Zy _ _ _) ZxG).mpr ((r.ext x₁).append (Zy.one r₁)))
 exact q _ M _ trivial m.1 m.2
theorem I8.call2      (hf:Zt env)(hb:Ah C env x (.ref f))(R9:XH C f)(h1:I8 n₀ C k env σ e1 a)(h2:Ev C k env σ e2 b)(n1:notStar e1=true)(n2:notStar e2=true)
 (hc:ZG C k (.ref f) [.val a,.val b] d) (hd:Yl x=true):I8 n₀ C k env σ (.Call (.Name x p) [e1,e2] [] pos) d:=λA s Q E P tk hr hg hh Z9 q=>by
 obtain⟨o,fd,ho,RY⟩:=R9
 rw[Ym]
 refine Zzz (Jf hf hb hg ?_ (Yz hd).1)
 refine Zub (o:=o) (fd:=fd) ?_
 have IA:wpAny C.M A (spliced (backTo pos (Zyf [e1,e2] env))) (λvs s₁=>(s₁.heap.get? f=some o/\o.data=.func fd)/\wpAny C.M A (call (.ref f) ([]++vs)) Q E s₁) E s:=
  Zyp (h1 A s _ _ P tk hr hg hh Z9 λv s₁ k₁ r₁=>Zyp (h2 A s₁ _ _ P hr (C.ext hg (Zw k₁)) (hh.ext (Zw k₁)) (Z9.ext (Zw k₁)) λu s₂ k₂ r₂=>Zxc
   ⟨⟨ho _ (C.ext (C.ext hg (Zw k₁)) (Zw k₂)),RY⟩,hc A s₂ _ _ P [v,u] hr (C.ext (C.ext hg (Zw k₁)) (Zw k₂)) ⟨v,[u],rfl,r₁.ext (Zw k₂),u,[],rfl,r₂,rfl⟩ ((Z9.ext (Zw k₁)).ext (Zw k₂)) λw s' k' r'=>q w s' (Zq (Zq k₁ k₂) k') r'⟩) (X4 n2)) (X4 n1)
 rw[X4 n1] at IA ⊢
 exact Zxv IA
theorem I8.replace(KA:1<=n₀)     (ho:Ev C k env σ o (.str x))(Rh:(y==z)=false)(hx:x.length<=1048576)(hz:z.length<=14)(YI:attributeBase o "replace" env (eval o env)=eval o env)(ZN:(apos.endLine==pos.line)=true):
 I8 n₀ C k env σ (.Call (.Attribute o "replace" apos) [.Constant (.str y) k1 p1,.Constant (.str z) k2 p2] [] pos) (.str (Zyd x y z)):=λA s Q E P tk hr hg hh Z9 q=>by
 refine wpAny_Call_method YI rfl ZN ZyP Zvm ZuV (wpAny_toks tk (ho A s _ _ P hr hg hh Z9 λv s₁ d6 r₁ n₁=>?_))
 obtain⟨t,rfl⟩:=Zc.mp r₁
 have n₁:=oP KA n₁
 refine⟨typeIs_str _ _ _,(λc e=>by cases e),?_⟩
 refine ZyJ rfl (Zxv ?_)
 show wpAny C.M A (spliced (backTo pos (Zyf [.Constant (.str y) k1 p1,.Constant (.str z) k2 p2] env))) _ _ _
 refine Zyp (wpAny_Constant_str (Zyp (wpAny_Constant_str (Zxc ?_)) rfl)) rfl
 exact SC.replaceW (ZzE n₁) (ZzE (ZyG n₁)) (ZzR (ZxO _)) Rh hx hz λt' j=>q _ _ (Zq d6 ⟨_,j,rfl,λ_ _ e=>e⟩) (Zc.mpr ⟨_,rfl⟩)
def Mc(n₀:Nat)(C:Cx)(k:Nat)(F:Ye)(Zu:Zzw)(body:List ZzZ)(ds:List PV)(σ:Zx)(σ':Zx):Prop:=ZjQ (motive:=λ_=>Zx->Prop) (λσ=>σ'=σ)
 (λd _ R σ=>∃ps σ₁,partsOf Zu d=some ps/\YO n₀ C k F (Zd σ (Z5 Zu) ps) (execs body F.env) .Z2 σ₁/\R σ₁) ds σ
def FT(n₀:Nat)(C:Cx)(k:Nat)(F:Ye)(N M:Zzq->Prop)(wr:List Zzq)(St:Nat->Zza->Prop)(s₁:Zzu)(Zu:Zzw)(body:List ZzZ)(ds:List PV)(σ':Zx)(n:Nat)(s':Zzu):Prop:=
 ∃i σi Mi,n=ds.length-i/\i<=ds.length/\n₀<=s'.toks/\FI C F N M wr (St i) s₁ σi Mi s'/\Mc n₀ C k F Zu body (ds.drop i) σi σ'
section
variable {wr fp:List Zzq}{St:Nat->Zza->Prop}{Zu:Zzw}{body:List ZzZ}{ds:List PV}{σ':Zx}{Y:Zzu->Prop}{Q:Flow->Zzu->Prop}{E':Zzy->Zzu->Prop}{J:Zzq}{Pt:Nat->List Zzy->Prop}{i n:Nat}{Mi:Zzq->Prop}
theorem Vq.fW       {Q:Unit->Zzu->Prop}{X:Zzu->Prop}(W:Vq C A Zu J fp wr n Pt St)(hi:i<n)(tk:n₀<=s.toks)(st:St i s.heap)
 (q:∀vals h' tk,Pt i vals->St (i+1) h'->(∀b o,b∉wr->s.heap.get? b=some o->h'.get? b=some o)->Stores C A env (λx s₃=>n₀<=s₃.toks->Q x s₃) E (Z5 Zu) vals { s with heap:=h',toks:=tk }):
 wpAny C.M A (pyNext (.ref J)) (λr s₁=>match r with |none=>X s₁ |some v=>wpAny C.M A (letOwnedTupleGo Zu (.ref J) v) (λ_ s₂=>wpAny C.M A (assign Zu env v) Q E s₂) E s₁) E s:=
 wpAny_toks tk (ZzC (W.item env i s _ E hi st q) (λr _ h n=>by
  cases r with
  |none=>exact h.elim
  |some v=>exact wpAny_toks n (ZzC h (λ_ s₂ h n=>wpAny_toks n h) λ_ _ e=>e)) λ_ _ x=>x)
theorem FT.turn{σi:Zx}(L:FI C F N M wr (St i) s₁ σi Mi s')(tk:n₀<=s'.toks)(W:Vq C A Zu J fp wr ds.length Pt St)(hf:F.env.scope.kind=.function)(hx:∀x∈Z5 Zu,ZS F.env F.cs x)(UQ:∀b,N b->b∉wr)(VY:∀b∈fp,(b∈wr∨¬M b)/\∃o,s₁.heap.get? b=some o)(Y9:ZH k A)
 (hv:∀i vals,Pt i vals->∃d ps,ds[i]?=some d/\partsOf Zu d=some ps/\Zy (λb=>F.out M b/\b∉wr) s₁.heap ps vals) (YN:i<ds.length) (en:n=ds.length-i) (hr:Mc n₀ C k F Zu body (ds.drop i) σi σ'):
 wpAny C.M A (pyNext (.ref J)) (λ(r:Option Zzy) (s₅:Zzu)=>match r with |none=>Y s₅ |some v=>wpAny C.M A (letOwnedTupleGo Zu (.ref J) v) (λ_ s₂=>wpAny C.M A (assign Zu F.env v) (λ_ s₃=>wpAny C.M A (execs body F.env) (λf s₄=>match f with |.next |.cont=>∃m,m<n/\FT n₀ C k F N M wr St s₁ Zu body ds σ' m s₄ |.brk=>Q .next s₄ |.ret v=>Q (.ret v) s₄) E' s₃) E s₂) E s₅) E s':=
 W.fW YN tk L.st λvals h₁ ye pv Qy XW=>(hv i vals pv).elim λd q'=>q'.elim λps q'=>
  have L₁:=L.item (tk:=ye) UQ XW Qy (W.lives _ _ Qy)
  Qc (s:={ s' with heap:=h₁,toks:=ye }) hf hx (GU q'.2.1) (Uk q'.2.1).1 (Uk q'.2.1).2 L₁.inv (L₁.rep q'.2.2) λs₃ I₃ Wb n₃=>
   have L₃:=L₁.step (W.frame (i+1)) VY Qy I₃ Wb
   have h9:Mc n₀ C k F Zu body (d::ds.drop (i+1)) σi σ':=drop_cons q'.1 ▸ hr
   Zyh h9 λuN t=>t.elim λσ₁ t=>
    have hex:YO n₀ C k F (Zd σi (Z5 Zu) ps) (execs body F.env) .Z2 σ₁:=Zzv (t.1.symm.trans q'.2.1) ▸ t.2.1
    hex _ _ A s₃ _ _ n₃ Y9 I₃ λfl Mj s₄ n₄ WJ Ij J2=>by
     rw[Wu WJ]
     exact⟨_,en ▸ BV YN,i+1,σ₁,Mj,rfl,YN,n₄,L₃.step (W.frame (i+1)) VY L₃.st Ij J2,t.2.2⟩
end
theorem YO.for{Zu iter:Zzw}{body:List ZzZ}{pos:Pos}{ds:List PV}{σ':Zx}(hf:F.env.scope.kind=.function)(hx:∀x∈Z5 Zu,ZS F.env F.cs x)(hi:Yd C k F.env σ true Zu iter ds)(hr:Mc n₀ C k F Zu body ds σ σ')
 (hs:∀x,Zxs iter F.env x=pure x):YO n₀ C k F σ (exec (.For Zu iter body [] pos) F.env) .Z2 σ':=YO.mk λN M A s Q E tk Y9 I q=>
 wpAny_For (wpAny_toks tk (ZzC (hi A s (λit s₂=>n₀<=s₂.toks->codeAny C.M A (.forLoop Zu it body [] F.env) (λr s'=>match r with |.ok f=>Q f s' |.error e=>cameBackBy C.M A F.env E e s') s₂) _ _ Y9 I.G I.has I.Xv λJ fp wr Pt St s₁ k₁ W Co Cr new str hv n₁=>
  have UQ:∀b,N b->b∉wr:=λb n m=>(I.alive b (I.pin b n)).elim λo e=>nS ((new b m).symm.trans e)
  codeAny_forLoop_any (FT n₀ C k F N M wr St s₁ Zu body ds σ') (λn s' K=>K.elim λi K=>K.elim λσi K=>K.elim λMi K=>
   (Zwj K.2.1).elim (λYN=>FT.turn K.2.2.2.1 K.2.2.1 W hf hx UQ (λb hb=>⟨(str rfl b hb).imp id λp=>p.2,Cr b hb⟩) Y9 hv YN K.1 K.2.2.2.2)
    λJy=>
     have Q5:=K.2.2.2.2
     have L:=K.2.2.2.1
     by
      rw[Jy,Zux] at Q5
      have Q5:σ'=σi:=Q5
      have d:=λh₁ tk XW=>L.done (h:=h₁) (tk:=tk) UQ k₁ new XW
      exact W.done s' _ _ (Jy ▸ L.st) λh₁ tk XW=>wpAny_execs_nil (q .next _ _ trivial (Q5 ▸ (d h₁ tk XW).1) (d h₁ tk XW).2))
   ds.length ⟨0,σ,_,rfl,Zz3 _,n₁,⟨I.UL (λb=>b∈wr) (Zw k₁) new (W.lives 0 _ Co),Co,.refl⟩,hr⟩) (λxv s₁ h n=>wpAny_toks n h) λ_ _ e=>e)) hs
end
section
variable {C:Cx}{k:Nat}{s s' s₁:Zzu}{h h':Zza}{A:ZzH}{E:Zzy->Zzu->Prop}
theorem zip_parts :∀ks:List (α × β),(ks.map (·.1)).zip (ks.map (·.2))=ks
 |[]=>rfl
 |x::ks=>congrArg (x::·) (zip_parts ks)
theorem ME(hg:C.G s.heap):((s.heap.objs.size:Zzq)==sysModules)=false:=by
 obtain⟨o,es,ep,e,_⟩:=hg.g
 have h1:(3:Nat)<s.heap.objs.size:=ZzU e
 exact beq_eq_false_iff_ne.mpr (ZzE (ZxY oD h1))
def CB (fd:Zyr) (ks:List (oO × Zzy)):Prop:=∀a b c,bindArgs fd ⟨[a,b,c],ks⟩=(do
    let d <-alloc (Uo #[] 0)
    for (k,v) in ks do nsSet d k v
    pure [("self",a),("_name",b),("_value",c),("_params",.ref d)])
theorem uX     (I7:CB fd ks)(hn:(ks.map (·.1)).Nodup)
 (q:∀h' tk ep,ZY s.heap h'->h'.DictAt (strKind C.prog C.w) s.heap.objs.size ks ep->ks.length<=tk->Q [("self",a),("_name",b),("_value",c),("_params",.ref s.heap.objs.size)] { s with heap:=h',toks:=tk }):
 wpAny C.M A (bindArgs fd ⟨[a,b,c],ks⟩) Q E s:=by
 rw[I7]
 refine Zzz (wpAny_alloc ?_)
 refine Zzz (OM (done:=[]) (es:=#[]) (ep:=0) (d:=s.heap.objs.size) (λn v u=>rfl) ks (Zzl _ rfl) (λe m=>absurd m (Array.not_mem_empty e)) Pairs.nil hn λh' tk Cp NM e1 k1 p1 sb tl=>Zzi ?_)
 exact q h' tk NM (λb o e=>sb b o (ZzR (ZzU e)) (Zzj _ e)) ⟨_,Cp,e1,⟨rfl,rfl,rfl⟩,rfl,k1,p1,hn⟩ (oP (ZzV _ _) tl)
theorem Yt.gW   {body:List ZzZ}   {d1 d2 d3:PV}   (D:Yt C f fd body)
 (hx:∀x∈(["self","_name","_value","_params"]:List oO),fd.scope.names.lookup x=some .local∨x∈ZU fd.scope.names) (hd:A.depth<recursionLimit) (hg:C.G s.heap) (ra:Zy (λ_=>True) s.heap [d1,d2,d3] [a,b,c])
 (rk:Zy (λ_=>True) s.heap lk (ks.map (·.2))) (I7:CB fd ks) (hn:(ks.map (·.1)).Nodup)
 (q:∀F M s₀ s₁ E',Fg F fd->Inv C F (λ_=>False) M (Zd (λ_=>none) ["self","_name","_value","_params"] [d1,d2,d3,.box (dB C.prog C.w) (ks.map (·.1)) lk]) s₁.heap->ZzK s s₀->Zo (λ_=>False) (λ_=>False) s₀ M s₁->ks.length<=s₁.toks->wpAny C.M (A.deeper F.env) (execs body F.env) (λfl s'=>Q (yq fl) s') E' s₁):
 wpAny C.M A (call (.ref f) [a,b,c] ks) Q E s:=
 (D.obj _ hg).elim λo t=>wpAny_call (codeAny_call_function hd t.1 t.2 D.co D.gen D.body (D.code _ hg) (uX (C:=C) I7 hn λh' tk ep ext da n₀=>by
  rw[D.globals,D.closure,D.builtins]
  have r:Zy (λ_=>True) h' ([d1,d2,d3]++[.box (dB C.prog C.w) (ks.map (·.1)) lk]) ([a,b,c]++[.ref s.heap.objs.size]):=
   (ra.ext ext).append (Zy.one ⟨ks.map (·.2),⟨s.heap.objs.size,ep,rfl,trivial,ME hg,by rw[zip_parts];exact da,by rw[Zzm,Zzm]⟩,rk.ext ext⟩)
  refine wpAny_toks n₀ (Dy (s:={ s with heap:=h',toks:=tk }) (xs:=["self","_name","_value","_params"]) (vals:=[a,b,c,.ref s.heap.objs.size]) (ds:=[d1,d2,d3,.box (dB C.prog C.w) (ks.map λx:oO × Zzy=>x.1) lk]) D.kind D.cell hx rfl (C.ext hg ext) (λ_ n=>absurd trivial n) r λF M s₁ h1 h2 h3 h4 h5 h6 h7 I ok n₁=>
   ⟨I.G.nolimit,codeAny_func (ZzC (q F M { s with heap:=h',toks:=tk } s₁ _ ⟨h1,h4,⟨h1 ▸ D.kind,h2,h3⟩⟩ I ⟨h',tk,rfl,ext⟩ ok n₁) (λfl s' h=>E6 h) λ_ _ e=>e)⟩)))
end
end Mine.Internal
end
section
open PySem PySem.W PyProof.Rows
open Sem (wp)
namespace Mine.Internal
open Builtin
section
set_option maxHeartbeats 4000000 in
theorem OG    (hx:x.length<=1000000)(hy:y.length<=1000000):
 Meets («str.__mod__» ⟨[.str ⟨#[37,115,58,32,37,115]⟩ t,.ref b],[]⟩) (λ_ R s=>Zvp s.heap b #[.str x t1,.str y t2]/\∀t' k,R (.ok (.ret (.str (x++ZzB ": "++y) t'))) { s with toks:=k }):=by
 k_dflt kpt_run
end
end Mine.Internal
end
section
open PySem PySem.W PyProof.Rows
open Sem (wp)
namespace Mine.Internal
open Classical
noncomputable def yA{α:Type}(e:Zzw)(k:Zzw->Zuq->Zzw->Pos->Option α):Option α:=@Zvk (λ_=>Option α) e (λ_ _ _=>none) (λ_ _ _=>none) k (λ_ _ _=>none) (λ_ _ _ _=>none) (λ_ _ _ _=>none) (λ_ _ _=>none) (λ_ _ _=>none) (λ_ _ _ _=>none) (λ_ _ _ _=>none) (λ_ _ _ _ _=>none) (λ_ _ _ _=>none) (λ_ _=>none) (λ_ _=>none) (λ_ _=>none) (λ_ _ _ _=>none) (λ_ _ _ _=>none) (λ_ _ _ _=>none) (λ_ _=>none) (λ_ _ _=>none) (λ_ _ _=>none) (λ_ _ _=>none) (λ_ _=>none) (λ_ _=>none) (λ_ _=>none) (λ_ _ _=>none) (λ_ _ _ _=>none)
theorem OY  {P:Prop}   :yA e k=some r->(∀a o b p,e=.BinOp a o b p->k a o b p=some r->P)->P:=by cases e<;>first |exact λh q=>q _ _ _ _ rfl h |exact λh _=>nS h
section
variable {C:Cx}{k:Nat}{σ:Zx}{s s' s₁:Zzu}{h h':Zza}{env:Env}{A:ZzH}{E:Zzy->Zzu->Prop}
theorem wu  (hX:X=X')(hm:∀t t1 t2 b,Meets (Zwv.«str.__mod__» ⟨[.str X' t,.ref b],[]⟩) (λ_ R s=>Zvp s.heap b #[.str x t1,.str y t2]/\∀t' k,R (.ok (.ret (.str T t'))) { s with toks:=k })):
 ZA C k (binaryOp .Mod) (.str X) (.tup [.str x,.str y]) (.str T):=λA s Q E P va vb hr hg ra rb hb q=>by
 subst hX
 obtain⟨t,rfl⟩:=Zc.mp ra
 obtain⟨b,vs,n,rfl,_,g,r⟩:=YA.mp rb
 obtain⟨v,w,e,r1,r2⟩:=r
 obtain⟨u,w',e',r3,r4⟩:=r2
 obtain⟨t1,rfl⟩:=Zc.mp r1
 obtain⟨t2,rfl⟩:=Zc.mp r3
 have ew:w'=[]:=r4
 subst ew e'
 have ht:Zvp s.heap b #[.str x t1,.str y t2]:=⟨_,g,rfl,n,congrArg (λl=>Data.seq l n) (ZuB e)⟩
 exact KPt.bin_left (T:="str") (U:="tuple") (op:=.Mod) oD (typeIs_str s _ t) ⟨_,g,rfl⟩ F.fills_str_mod KPt.fills_tuple F.slot_str_mod
  (call_meets F.slot_str_mod (typeIs_str s _ t) F.entry_str_mod (F.args_str_mod_2 _ _) (hm t t1 t2 b) ⟨ht,λt' k=>⟨(λe=>nomatch e),q _ _ ⟨_,k,rfl,λ_ _ e=>e⟩ (Zc.mpr ⟨_,rfl⟩)⟩⟩)
def TG(a b:AV):Option PV:=(Yw a).bind λX=>(CZ b).bind λl=>IG l λp q=>(U0 p).bind λx=>(U0 q).bind λy=>if x.length<=1000000/\y.length<=1000000 then
 (if X="%s: %s" then some (.str (x++ZzB ": "++y)) else none) else none
theorem DS   (h:U0 d=some x):d=.str x:=by
 cases d with
 |str y=>cases h;rfl
 |_=>exact nS h
theorem iQ     (h₁:Z1 C k env σ l a)(h₂:Z1 C k env σ r b)(h:TG a b=some c):Ev C k env σ (.BinOp l .Mod r pos) c:=
 Zv h λX e1 h=>Zv h λm e2 h=>VJ h λp q e3 h=>Zv h λx e4 h=>Zv h λy e5 h=>Zl h λhz h=>by
  rw[Y7 e1] at h₁
  rw[DH (P:=λb=>b=.val (.tup m)) e2 rfl,e3,DS e4,DS e5] at h₂
  refine Ev.binop h₁ h₂ (Zl h λhX h=>ZW (P:=λc=>ZA C k (binaryOp .Mod) (.str X) (.tup [.str x,.str y]) c) ?_ h)
  exact wu (hX.trans (by decide +kernel)) λt t1 t2 b=>OG hz.1 hz.2
noncomputable def RK(B:YM)(a:AV):Option (List oO × List PV):=@AV.casesOn (λ_=>Option (List oO × List PV)) a (λv=>@PV.casesOn (λ_=>Option (List oO × List PV)) v (λ_=>none) (λT ks l=>if T=B then some (ks,l) else none) none (λ_=>none) (λ_=>none) (λ_=>none) (λ_=>none) λ_=>none) (λ_=>none) λ_ _=>none
theorem EW    (h:RK B a=some z):a=.val (.box B z.1 z.2):=by
 cases a with
 | val d=>cases d with
   |box T ks l'=>exact Zl h λe h=>by rw[e,<-Zzv h]
   |_=>exact nS h
 |_=>exact nS h
theorem EV   :RK B (.val (.box B ks l))=some (ks,l):=if_pos rfl
noncomputable def FO:List oO->List PV->oO->Option PV
 |k::ks,d::l,x=>bif k==x then some d else FO ks l x
 |_,_,_=>none
theorem L3{k x:oO}  :valueAt ((k,v)::r) x=bif k==x then some v else valueAt r x:=by
 unfold valueAt
 by_cases hk:k=x
 ·simp [hk]
 ·rw[show (k==x)=false from beq_eq_false_iff_ne.mpr hk]
  simp [hk]
def xZ(B:YM)(a:AV)(j:PV):Option PV:=(RK B a).bind λz=>(U0 j).bind λx=>FO z.1 z.2 x
theorem EU    :∀{ks:List oO} {l:List PV} {vs:List Zzy},Zy P h l vs->FO ks l x=some d->∃v,valueAt (ks.zip vs) x=some v/\Rep P h d v
 |[],_,_,_,e=>nS e
 |k::ks,[],_,_,e=>nS e
 | k::ks,c::l,vs,r,e=>by
   obtain⟨v,w,rfl,r1,r2⟩:=r
   show ∃u,valueAt ((k,v)::ks.zip w) x=some u/\_
   rw[L3]
   have e':(bif k==x then some c else FO ks l x)=some d:=e
   cases hk:k==x with
   | true=>
     rw[hk] at e'
     cases e'
     exact⟨v,rfl,r1⟩
   | false=>
     rw[hk] at e'
     exact EU (ks:=ks) r2 e'
theorem Ev.zf       (ho:Ev C k env σ o (.box (dB C.prog C.w) ks l))(hi:Ev C k env σ i (.str x))(hd:FO ks l x=some d)
 (hs:∀a b,subscripted i false a b=operate [a,b] (getItem a b)):Ev C k env σ (.Subscript o i pos) d:=λA s Q E P hr hg hh hb q=>by
 refine Zvd (ho A s _ _ P hr hg hh hb λv s₁ k₁ r₁=>?_)
 have x₁:=Zw k₁
 refine hi A s₁ _ _ P hr (C.ext hg x₁) (hh.ext x₁) (hb.ext x₁) λu s₂ k₂ r₂=>?_
 obtain⟨t,rfl⟩:=Zc.mp r₂
 have x₂:=Zw k₂
 obtain⟨vs,⟨a,ep,rfl,pa,hS,hm,hl⟩,ra⟩:=r₁
 have xa:s₂.heap.DictAt (strKind C.prog C.w) a (ks.zip vs) ep:=hm.at' λo e=>x₂ _ _ e
 obtain⟨v,hv,rv⟩:=EU (ks:=ks) (ra.ext x₂) hd
 exact tail_any xa.dictOf.typeIs slot_dict_getitem.lookup (wpAny_getItem_of QD xa.dictOf.mapOf hv (q v _ (Zq (Zq k₁ k₂) (ZZ _ _)) rv)) (hs _ _)
theorem Yd.keys       (ho:Ev C k env σ o (.box (dB C.prog C.w) ks l)):Yd C k env σ strict (.Name y p1) o (ks.map .str):=λA s Q E P hr hg hh al q=>by
 refine ho A s _ _ P hr hg hh al λv s₁ k₁ r₁=>?_
 obtain⟨vs,⟨a,ep,rfl,pa,hS,hm,hl⟩,ra⟩:=r₁
 have x₁:=Zw k₁
 refine wpAny_pyIter_dict hS hm ?_
 have ha:a<s₁.heap.objs.size:=hm.lt_size
 have WQ:a≠s₁.heap.objs.size:=ZzR ha
 have W:=Walks.bound (Walks.dictKeys (A:=A) (knd:=strKind C.prog C.w) hr.handled s₁.heap.objs.size a WQ (ks.zip vs) ep)
 have len:(ks.zip vs).length=(ks.map PV.str).length:=by simp [hl]
 rw[len] at W
 have k₂:=X1 s₁ { cls:=.type "dict_keyiterator",data:=.fields #[.ref a,.int 0 0,.int (ks.zip vs).length 0,.int ep 0] }
 refine q _ _ _ _ _ _ (Zq k₁ k₂) (Vq.one W λi h st=>Zs (st.1.elim λo e=>⟨o,e.1⟩) YX) ⟨⟨_,Zzl _ rfl,rfl,congrArg (λn:Nat=>Data.fields #[.ref a,.int 0 0,.int n 0,.int ep 0]) len⟩,hm.push _⟩ (Zs ⟨_,Zzl _ rfl⟩ (Zs ((hm.push _).elim λo t=>t.elim λes t=>⟨o,t.1⟩) YX))
  (Zs (ZD x₁ (Xz _)) YX) (λhs=>Zs (.inl (.head _)) (Zs (.inr pa) YX)) λi vals hp=>?_
 obtain⟨u,rfl,hi,x,z,hx,Mw⟩:=hp
 obtain⟨t,rfl⟩:=Zv4 Mw
 have I7:ks[i]?=some x:=by
  have:=congrArg (ZuA Prod.fst) hx
  rw[List.getElem?_zip_eq_some] at hx
  exact hx.1
 exact⟨.str x,[.str x],by simp [I7],rfl,Zy.one (Zc.mpr ⟨t,rfl⟩)⟩
noncomputable def Va(da:List PV):List PV:=da.zipIdx.map λz=>.tup [.int (z.2:Nat),z.1]
theorem Yd.enum        (hf:Zt env)(hB:VX C env x (.type "enumerate"))(ha:ZQ C k env σ args [a])(qe:listOf a=some da)
 (Xk:strict=true->a=.val (.lst da)) (hd:(x==("__debug__":oO))=false):Yd C k env σ strict (.Tuple [.Name y p1,.Name z p2] kk pt) (.Call (.Name x p) args [] pos) (Va da):=
 Yd.call hf hB ha (λA s Q E P vs hr hg r al q=>by
  obtain⟨v,rfl,rv⟩:=XK r
  obtain⟨l1,xs,n1,rfl,uM,g1,r1⟩:=V7 qe rv
  have h1:l1<s.heap.objs.size:=ZzU g1
  refine call_enumerate_1 g1 λh' he hit hsz hk=>?_
  refine wpAny_pyIter_enum he ?_
  have W:=(WalksT.enumerate (prog:=C.prog) (w:=C.w) (A:=A) hr.handled (s.heap.objs.size+1) s.heap.objs.size l1 (ZqV _) (ZzR (ZyG h1)) (ZzR h1) xs).toU.bound
  have Ga:xs.size=da.length:=by have:=r1.length;simpa using this
  have len:xs.size=(Va da).length:=by simp [Va,Ga]
  rw[len] at W
  have new:∀b∈[s.heap.objs.size+1,s.heap.objs.size],s.heap.get? b=none:=Zs (Xq (Zzt _ 1)) (Zs (Xq (Zz1 _)) YX)
  refine q _ _ _ _ _ { s with heap:=h' } ⟨h',s.toks,rfl,hk⟩ (Vq.two hr.handled W (λi h st=>?_) (λi vals hp=>hp.2.elim λ_ q=>q.elim λx q=>q.2 ▸ rfl)) ⟨⟨_,he⟩,hit,(ZL g1).at λo e=>hk _ _ e⟩
   (Zs ⟨_,he⟩ (Zs (hit.elim λo e=>⟨o,e.1⟩) (Zs ⟨_,hk _ _ g1⟩ YX))) new (λhs=>?_) λi vals hp=>?_
  ·exact Zs (st.1.elim λ_ e=>⟨_,e⟩) (Zs (st.2.1.elim λo e=>⟨o,e.1⟩) YX)
  ·exact Zs (.inl (.head _)) (Zs (.inl (.tail _ (.head _))) (Zs (.inr (uM (Xk hs))) YX))
  ·obtain⟨w,⟨hi,t,x,hx,rfl⟩,rfl⟩:=hp
   obtain⟨d1,e1,uG⟩:=UR r1 hk new hx
   exact⟨.tup [.int (i:Nat),d1],[.int (i:Nat),d1],by simp [Va,e1],rfl,Zy.cons (Zf.mpr ⟨t,rfl⟩) (Zy.one uG)⟩) hd
end
theorem Px:typeLookup (.type "list") "keys"=pure none:=by rw[Zyn,ZzF];kernel_rfl
theorem AR
 (hx:s.heap.get? a=some { cls:=.type "list",data:=.seq xs k }) (hA:A.handled=none)
 (h:∀h' tk e,Heap.NewExcOf s.heap h' e "AttributeError"->Q none { s with heap:=h',toks:=tk }):
 wpAny (model prog w) A (getAttr? (.ref a) "keys") Q E s:=by
 obtain⟨hp,g,d,tk,os⟩:=s
 have hT:∀Jp,(⟨hp,g,d,Jp,os⟩:Zzu).TypeIs (.ref a) "list":=λ_=>⟨_,hx,rfl⟩
 have f1:=sub_AttributeError
 have f3:=ZwC.lookup
 have f4:=ZwC.bind (.ref a)
 have f5:=am_list_getattr_none
 unfold getAttr? getAttrBy? getAttrBy
 repeat (any_goals (first |assumption |exact hT _ |((with_reducible show wpAny _ _ (call (Zw0 "list.__getattribute__") _ _) _ _ _);refine call_meets ZwC (hT _) am_entry_list_getattribute (F.args_list_getattribute_2 _ _) (meets_getattribute_miss_list a xs k #[] "keys" _ Px oD oD) ⟨hx,hA,λh' Jp e J7=>?_⟩) |wp_step))
 obtain⟨t',u',he⟩:=J7.there
 show wpAny _ _ (getattributeRaised _ _ _ _ _ _ _) _ _ _
 unfold getattributeRaised
 repeat (any_goals (first |assumption |wp_step))
 exact h _ _ _ J7.of
theorem W9:plainId "dict.update.loop"=true:=by decide +kernel
theorem QY:entryFor table "dict.update.loop"=some Zwv.«dict.update.loop»:=entryFor_of_fast (by kernel_rfl)
section
variable {prog:ZxW}{w:Zzk}{A:ZzH}{E:Zzy->Zzu->Prop}{s:Zzu}{R:Zu8->Zzu->Prop}
structure K9(prog:ZxW)(w:Zzk)(h:Zza)(vs:Array Zzy)(kvs:List (oO × Zzy)):Prop where
 len:vs.size=kvs.length
 at_:∀(j:Nat) x v,kvs[j]?=some (x,v)->∃T key n,vs[j]?=some (.ref T)/\h.get? T=some { cls:=.type "tuple",data:=.seq #[key,v] n }/\(strKind prog w).is x key=true
theorem K9.keep    (p:K9 prog w h vs kvs)(hk:∀b xs n,h.get? b=some { cls:=.type "tuple",data:=.seq xs n }->h'.get? b=some { cls:=.type "tuple",data:=.seq xs n }):K9 prog w h' vs kvs:=
 ⟨p.len,λj x v e=>(p.at_ j x v e).imp λT t=>t.imp λkey t=>t.imp λn t=>⟨t.1,hk _ _ _ t.2.1,t.2.2⟩⟩
theorem take_succ  {l:List α}   (h:l[i]?=some a):l.take (i+1)=l.take i++[a]:=by
 rw[Zwf,h];rfl
theorem FU(hh:A.handled=none)  {vs:Array Zzy}  (RX:d≠it)(qV:d≠l)(aA:l≠it)(hn:(kvs.map (·.1)).Nodup)(hsz:kvs.length<=Zzx):
 ∀(k i:Nat) (s:Zzu),kvs.length-i=k->i<=kvs.length->s.heap.IsListIter it l i->s.heap.IsList l vs->K9 prog w s.heap vs kvs->s.heap.DictOf (strKind prog w) d (kvs.take i)->
 (∀h' tk,(∀b o,b≠d->b≠it->s.heap.get? b=some o->h'.get? b=some o)->h'.DictOf (strKind prog w) d kvs->R (.ok (.ret .none)) { s with heap:=h',toks:=tk })->
 codeAny (model prog w) A (.builtin "dict.update.loop" ⟨[.ref d,.ref it,rawInt i,.none],[]⟩) R s:=by
 intro k
 induction k with
 | zero=>
   intro i s hk hi hit hl hp hd hR
   have Jy:i=kvs.length:=ZyM hi (Zu2.mp hk)
   subst Jy
   refine codeAny_builtin QY ?_
   rw[ZxL W9 _]
   show wpAny _ A.in1 (pyNext (.ref it)>>=_) _ _ s
   refine Zzz ((ZqH (A:=A.in1) hh it l aA vs).done s _ _ (hp.len ▸ ⟨hit,hl⟩) λh' tk hm=>?_)
   show wpAny _ A.in1 (Builtin.Dict.addKeywords d []>>=_) _ _ _
   refine Zzz (Zzi (Zzi ?_))
   rw[Zye] at hd
   have ke:∀b o,b≠it->s.heap.get? b=some o->h'.get? b=some o:=λb o nb e=>hm b o (λm=>nb (Zz5.mp m)) e
   exact hR h' tk (λb o _ nb e=>ke b o nb e) (hd.elim λo t=>t.elim λes t=>t.elim λep t=>⟨o,es,ep,ke _ _ RX t.1,t.2⟩)
 | succ k ih=>
   intro i s hk hi hit hl hp hd hR
   have YN:i<kvs.length:=ZuU hk
   refine codeAny_builtin QY ?_
   rw[ZxL W9 _]
   show wpAny _ A.in1 (pyNext (.ref it)>>=_) _ _ s
   refine Zzz ((ZqH (A:=A.in1) hh it l aA vs).item i s _ _ (hp.len ▸ YN) ⟨hit,hl⟩ λv h' tk pv Hu hm=>?_)
   have ke:∀b o,b≠it->s.heap.get? b=some o->h'.get? b=some o:=λb o nb e=>hm b o (λm=>nb (Zz5.mp m)) e
   obtain⟨x,u,hx⟩:∃x u,kvs[i]?=some (x,u):=⟨_,_,gE YN⟩
   obtain⟨T,key,n,e1,e2,e3⟩:=hp.at_ i x u hx
   have ev:v=.ref T:=Zzv (pv.symm.trans e1)
   subst ev
   have oh:T≠it:=λq=>by
    subst q
    obtain⟨o,eo,ec,_⟩:=hit
    rw[e2] at eo
    cases eo
    exact absurd (Zv6 ec) oD
   have nx:=ke _ _ oh e2
   have Ku:h'.DictOf (strKind prog w) d (kvs.take i):=hd.elim λo t=>t.elim λes t=>t.elim λep t=>⟨o,es,ep,ke _ _ RX t.1,t.2⟩
   show wpAny _ A.in1 (holding [Zwh T] _>>=_) _ _ _
   refine Zzz (ZzO (Zzz (wpAny_tryCatch ?_)))
   unfold Builtin.Dict.pairItems
   refine Zzz (wpAny_typeOf (T:="tuple") ⟨_,nx,rfl⟩ ?_)
   rw[if_pos oD]
   refine Zzz (wpAny_seqItems nx rfl (Zzi ?_))
   show wpAny _ A.in1 (holding [key,u] (dictSet d key u)) _ _ _
   have tl:(kvs.take i).length<=Zzx:=oP (oP (List.length_take_le ..) hi) hsz
   refine ZzO (wpAny_dictSet_pairs (hsz:=tl) e3 Ku λNB kj sb=>?_)
   refine Zzi ⟨plainId_quiet W9 _,?_⟩
   have nn:((kvs.take i++[(x,u)]).map (·.1)).Nodup:=take_succ hx ▸ hn.sublist ((List.take_sublist ..).map _)
   have st:stored (kvs.take i) x u=kvs.take (i+1):=by
    rw[take_succ hx]
    unfold stored
    rw[if_neg]
    intro ha
    obtain⟨z,hz,he⟩:=ZqU.mp ha
    rw[Zz9,Zwg] at nn
    exact nn.2.2 _ (Zyi.mpr ⟨z,hz,rfl⟩) x (.head _) (of_decide_eq_true he)
   rw[st] at kj
   have ks:∀b o,b≠d->h'.get? b=some o->NB.get? b=some o:=λb o nb e=>(sb.2 b nb).trans e
   have pA:∀b xs n,h'.get? b=some { cls:=.type "tuple",data:=.seq xs n }->b≠d:=λb xs n e q=>by
    subst q
    obtain⟨o,es,ep,eo,ex,_⟩:=Ku
    rw[e] at eo
    cases eo
    exact absurd (Zv6 ex.1) oD
   refine ih (i+1) { s with heap:=NB,toks:=tk+1 } (congrArg Nat.pred hk) YN (Hu.1.at λo e=>ks _ o RX.symm e) (Hu.2.at λo e=>ks _ o qV.symm e) (hp.keep λb xs n e=>?_) kj λh3 uV k3 d3=>hR h3 uV (λb o b1 b2 e=>k3 b o b1 b2 (ks b o b1 (ke b o b2 e))) d3
   have bi:b≠it:=λq=>by
    subst q
    obtain⟨o,eo,ec,_⟩:=hit
    rw[e] at eo
    cases eo
    exact absurd (Zv6 ec) oD
   exact ks _ _ (pA _ _ _ (ke _ _ bi e)) (ke _ _ bi e)
theorem Bu    (hd:h.DictOf (strKind prog w) d kvs)(hk:ZY h h'):h'.DictOf (strKind prog w) d kvs:=hd.elim λo t=>t.elim λes t=>t.elim λep t=>⟨o,es,ep,hk _ _ t.1,t.2⟩
theorem Bs      (hh:A.handled=none)(hl:s.heap.get? l=some { cls:=.type "list",data:=.seq vs n })(hp:K9 prog w s.heap vs kvs)(hn:(kvs.map (·.1)).Nodup)(hsz:kvs.length<=Zzx)
 (q:∀h' tk,ZY s.heap h'->h'.DictOf (strKind prog w) s.heap.objs.size kvs->Q (.ref s.heap.objs.size) { s with heap:=h',toks:=tk }):wpAny (model prog w) A (call (.type "dict") [.ref l]) Q E s:=by
 refine callType_codes (Q₁:=λobj s₁=>obj=.ref s.heap.objs.size/\s₁={ s with heap:=s.heap.push { cls:=.type "dict",data:=.dict #[] } }) F.kt_called_dict (F.kt_typeCall_dict_1 _) F.entry_dict_init (kt_code_dict_new _ ⟨rfl,rfl⟩) ?_
 rintro obj s₁ ⟨rfl,rfl⟩
 have KV:(s.heap.push { cls:=.type "dict",data:=.dict #[] }).DictOf (strKind prog w) s.heap.objs.size []:=Heap.DictOf.new s.heap
 have x1:ZY s.heap (s.heap.push { cls:=.type "dict",data:=.dict #[] }):=λb o e=>Zzj _ e
 have zE:=x1 _ _ hl
 refine⟨KV.typeIs,F.args_dict_init_2 _ _,?_⟩
 unfold Zwv.«dict.__init__»
 refine Zzz ?_
 unfold Builtin.Dict.selfAndRest
 refine Zzz (wpAny_notOrdered_dict KV.typeIs ?_)
 show wpAny _ _ (pure (s.heap.objs.size,[Zwh l])) _ _ _
 refine Zzi ?_
 show wpAny _ _ (Zum "dict.__init__" s.heap.objs.size (.ref l) [] .none) _ _ _
 unfold Zum
 refine Zzz (wpAny_typeOf (T:="list") ⟨_,zE,rfl⟩ ?_)
 rw[if_pos oD]
 refine Zzz (AR zE hh λh2 tk e ne=>?_)
 rw[if_pos (show Option.isNone (none:Option Zzy)=true from rfl)]
 refine Zzz (wpAny_rule ?_)
 have J8:=ne.keeps _ _ zE
 refine Zzz (wpAny_pyIter_list (ZL J8) ?_)
 refine Zzi ⟨plainId_quiet W9 _,?_⟩
 have x2:ZY (s.heap.push { cls:=.type "dict",data:=.dict #[] }) (h2.push { cls:=.type "list_iterator",data:=.fields #[.ref l,.int 0 0] }):=λb o e=>Zzj _ (ne.keeps b o e)
 have lt:l<s.heap.objs.size:=ZzU hl
 have qA:s.heap.objs.size<h2.objs.size:=(Bu KV ne.keeps).elim λo t=>t.elim λes t=>t.elim λep t=>ZzU t.1
 refine FU (A:=A.in1) (it:=h2.objs.size) (l:=l) (vs:=vs) hh (ZzR qA) (ZzE lt) (ZzR (ZxY lt qA)) hn hsz kvs.length 0 { s with heap:=h2.push { cls:=.type "list_iterator",data:=.fields #[.ref l,.int 0 0] },toks:=tk } (Zui _) (Zz3 _) ⟨_,Zzl _ rfl,rfl,rfl⟩ (ZL (x2 _ _ zE)) (hp.keep λb xs n e=>x2 _ _ (x1 _ _ e)) (Bu KV x2) λh' Jp k3 d3=>?_
 have ext:ZY s.heap h':=λb o e=>k3 b o (ZzR (ZzU e)) (ZzR (ZxY (ZzU e) qA)) (x2 _ _ (x1 _ _ e))
 exact⟨rfl,q h' Jp ext d3⟩
end
section
variable {C:Cx}{k:Nat}
theorem HQ  :∀{ks:List oO} {l:List PV} {vs:List Zzy},ks.length=l.length->Zy P h (Gn ks l) vs->∃us,ks.length=us.length/\Zy P h l us/\(vs.length=(ks.zip us).length/\∀(j:Nat) x v,(ks.zip us)[j]?=some (x,v)->∃T key n,vs[j]?=some (.ref T)/\h.get? T=some { cls:=.type "tuple",data:=.seq #[key,v] n }/\(strKind C.prog C.w).is x key=true)
 | [],[],vs,_,r=>by
   cases (r:vs=[])
   exact⟨[],rfl,Zy.nil,rfl,λj x v e=>by cases e⟩
 | k::ks,d::l,vs,hl,r=>by
   obtain⟨v,w,rfl,r1,r2⟩:=r
   obtain⟨us,h1,h2,h3,h4⟩:=HQ (ks:=ks) (Zxz hl) r2
   obtain⟨T,ws,n,rfl,_,g,r3⟩:=YA.mp r1
   obtain⟨a,w2,e,r4,r5⟩:=r3
   obtain⟨b,w3,e2,r6,r7⟩:=r5
   have e3:w3=[]:=r7
   subst e3 e2
   obtain⟨t,rfl⟩:=Zc.mp r4
   have ew:ws=#[.str k t,b]:=ZuB e
   subst ew
   refine⟨b::us,congrArg ZvR h1,Zy.cons r6 h2,congrArg ZvR h3,λj x v e=>?_⟩
   cases j with
   |zero=>cases e;exact⟨T,_,n,rfl,g,QD⟩
   |succ j=>exact h4 j x v e
theorem ub    (ha:listOf a=some (Gn ks l))(hl:ks.length=l.length)(hn:ks.Nodup)(hsz:ks.length<=Zzx):ZG C k (.type "dict") [a] (.box (dB C.prog C.w) ks l):=λA s Q E P vs hr hg rr hb q=>by
 obtain⟨v,rfl,rv⟩:=XK rr
 obtain⟨b,xs,n,rfl,_,g,r⟩:=V7 ha rv
 obtain⟨us,h1,h2,h3,h4⟩:=HQ (C:=C) hl r
 have hm:(ks.zip us).map (·.1)=ks:=ZqQ (Zya h1)
 refine Bs (kvs:=ks.zip us) hr.handled g ⟨by rw[<-h3];simp,λj x v e=>(h4 j x v e).imp λT t=>t.imp λkey t=>t.imp λn t=>⟨by rw[<-t.1];simp,t.2⟩⟩ (hm.symm ▸ hn) (by rw[List.length_zip,<-h1,Nat.min_self];exact hsz) λh' tk ext hd=>?_
 obtain⟨ep,da⟩:=Heap.DictOf.dictAt hd
 exact q _ _ ⟨h',tk,rfl,ext⟩ ⟨us,⟨_,ep,rfl,hb.new,ME hg,da,h1⟩,h2.ext ext⟩
end
end Mine.Internal
end
section
open PySem PySem.W PyProof.Rows
open Sem (wp)
open PySem.Builtin PySem.Builtin.Str
namespace Mine.Internal
theorem QZ       (h:Q (s.heap.get? a) s):wpAny M A (loadIfAlive a) Q E s:=λΓ p hΓ=>h
abbrev U1(h:Zza)(z TI TO:Zzq)(f0:Zzy)(c:Bool):Prop:=
 h.get? z=some { cls:=.type "zip",dict:=none,data:=.fields #[f0,.bool c,.bool false,.ref TI,.ref TO],slots:=#[] }
structure Wz(h:Zza)(z TI TO i1 i2 l:Zzq)(x:oO)(t:Tok)(ys:Array Zzy)(i:Nat):Prop where
 zip:∃f0 c,U1 h z TI TO f0 c/\(f0=.none∨∃T o,f0=rawInt (T:Nat)/\h.get? T=some o/\T≠z/\T≠i1/\T≠i2)
 ti:Zvl h TI (.ref i1) (.ref i2)
 to:∃a b,Zvl h TO a b
 qz:h.IsStrIter i1 "str_iterator" x t i
 NY:h.IsListIter i2 l i
 lst:h.IsList l ys
section
variable {prog:ZxW}{w:Zzk}{A:ZzH}{E:Zzy->Zzu->Prop}{s:Zzu}{z TI TO i1 i2 l:Zzq}{x:oO}{t:Tok}{ys:Array Zzy}{i c:Nat}{y:Zzy}
theorem EJ{Q:Zzy->Zzu->Prop}(D:ZwK z TI TO i1 i2 l l)(Z:Wz s.heap z TI TO i1 i2 l x t ys i)(hx:x.cps[i]?=some c)(hy:ys[i]?=some y)
 (hQ:∀h' tk u,Wz h' z TI TO i1 i2 l x t ys (i+1)->Zvl h' s.heap.objs.size (.str ⟨#[c]⟩ u) y->(∀c o,c≠z->c≠TO->c≠i1->c≠i2->s.heap.get? c=some o->h'.get? c=some o)->Q (.ref s.heap.objs.size) { s with heap:=h',toks:=tk }):
 wpAny (model prog w) A (Zwv.«zip.__next__» ⟨[.ref z],[]⟩) (λfin s'=>∃v,fin=.done (.ret v)/\Q v s') E s:=by
 obtain⟨⟨f0,c0,hz,hf⟩,IE,⟨a,b,FA⟩,h1,h2,hl⟩:=Z
 show wpAny _ _ (field (.ref z) 2>>=_) _ _ _
 refine Zzz (wpAny_field hz rfl (x:=.bool false) rfl ?_)
 show wpAny _ _ (field (.ref z) 3>>=_) _ _ _
 refine Zzz (wpAny_field hz rfl (x:=.ref TI) rfl ?_)
 refine Zzz (wpAny_seqItems IE rfl ?_)
 show wpAny _ _ (Zy2 (.ref z)>>=_) _ _ _
 rcases hf with rfl |⟨T,oT,rfl,hT,Tz,T1,T2⟩
 ·refine Zzz ?_
  unfold Zy2
  refine Zzz (wpAny_field hz rfl (x:=.none) rfl (Zzi ?_))
  simp only[if_true]
  refine Zzz (wpAny_rule ?_)
  refine Zzz (wpAny_field hz rfl (x:=.ref TO) rfl ?_)
  refine Zzz (wpAny_setField_rec hz (by simp) λh₁ VC XX=>?_)
  replace VC:U1 h₁ z TI TO .ellipsis c0:=VC
  refine Zzz ?_
  simp only[ZqJ,ZqS,Zys,ZyS]
  refine Zzz (Zzz (wpAny_onRaise ?_))
  show wpAny _ _ (ZyO (.ref i1)>>=_) _ _ _
  refine Zzz (wpAny_nextOf_wide_item (h1.extBut XX.extBut D.i1z) hx λh₂ Sp Ws=>Zzi ?_)
  have E5:Zvl h₂ TO a b:=Ws.extBut _ _ D.TOi1 (XX.extBut _ _ D.TOz FA)
  refine Zzz (wpAny_seqItems E5 rfl ?_)
  refine Zzz (wpAny_updateSeq_pair E5 λh₃ Mo QV=>?_)
  replace Mo:Zvl h₃ TO (.str ⟨#[c]⟩ s.toks) b:=Mo
  refine Zzz (wpAny_letGo (Zzi ?_))
  refine Zzz (Zzz (wpAny_onRaise ?_))
  show wpAny _ _ (ZyO (.ref i2)>>=_) _ _ _
  refine Zzz (wpAny_nextOf_list_item (((h2.extBut XX.extBut D.i2z).extBut Ws.extBut D.i12.symm).extBut QV.extBut D.TOi2.symm)
   (((hl.extBut XX.extBut D.l2z).extBut Ws.extBut D.l2i1).extBut QV.extBut D.l2TO) hy λh₄ Se Qv=>Zzi ?_)
  have E4:Zvl h₄ TO (.str ⟨#[c]⟩ s.toks) b:=Qv.extBut _ _ D.TOi2 Mo
  refine Zzz (wpAny_seqItems E4 rfl ?_)
  refine Zzz (wpAny_updateSeq_pair E4 λh₅ G7 C5=>?_)
  replace G7:Zvl h₅ TO (.str ⟨#[c]⟩ s.toks) y:=G7
  refine Zzz (wpAny_letGo (Zzi (Zzi ?_)))
  refine Zzz (wpAny_seqItems G7 rfl ?_)
  refine Zzz (wpAny_newTuple ?_)
  have hsz:h₅.objs.size=s.heap.objs.size:=by rw[C5.1,Qv.1,QV.1,Ws.1,XX.1]
  have xk:U1 h₅ z TI TO .ellipsis c0:=C5.extBut _ _ D.TOz.symm (Qv.extBut _ _ D.i2z.symm (QV.extBut _ _ D.TOz.symm (Ws.extBut _ _ D.i1z.symm VC)))
  have Ss:∀c o,c≠z->c≠TO->c≠i1->c≠i2->s.heap.get? c=some o->h₅.get? c=some o:=λc o c1 c2 c3 c4 e=>
   C5.extBut _ _ c2 (Qv.extBut _ _ c4 (QV.extBut _ _ c2 (Ws.extBut _ _ c3 (XX.extBut _ _ c1 e))))
  have x3:h₅.IsStrIter i1 "str_iterator" x t (i+1):=((Sp.extBut QV.extBut D.TOi1.symm).extBut Qv.extBut D.i12).extBut C5.extBut D.TOi1.symm
  have xo:h₅.IsListIter i2 l (i+1):=Se.extBut C5.extBut D.TOi2.symm
  have PB:z<h₅.objs.size:=ZzU xk
  have o7:TO<h₅.objs.size:=ZzU G7
  have dD:i1<h₅.objs.size:=by obtain⟨_,e,_⟩:=x3;exact ZzU e
  have dF:i2<h₅.objs.size:=by obtain⟨_,e,_⟩:=xo;exact ZzU e
  show wpAny _ _ (ZwB (.ref z) (.ref h₅.objs.size)>>=_) _ _ _
  refine Zzz ?_
  unfold ZwB
  have dY:U1 (h₅.push { cls:=.type "tuple",data:=.seq #[.str ⟨#[c]⟩ s.toks,y] }) z TI TO .ellipsis c0:=Zzj _ xk
  refine Zzz (wpAny_setField_rec dY (by simp) λh₇ Sm xc=>?_)
  replace Sm:U1 h₇ z TI TO (rawInt h₅.objs.size) c0:=Sm
  refine wpAny_setField_rec Sm (by simp) λh₈ Sn xf=>?_
  replace Sn:U1 h₈ z TI TO (rawInt h₅.objs.size) false:=Sn
  have up:∀c o,c≠z->h₅.get? c=some o->h₈.get? c=some o:=λc o c1 e=>xf.extBut _ _ c1 (xc.extBut _ _ c1 (Zzj _ e))
  have xt:Zvl h₈ h₅.objs.size (.str ⟨#[c]⟩ s.toks) y:=xf.extBut _ _ (ZzE PB) (xc.extBut _ _ (ZzE PB) (Zzl _ rfl))
  refine Zzi ⟨_,rfl,?_⟩
  show Q (.ref h₅.objs.size) _
  rw[hsz]
  refine hQ h₈ _ _ ⟨⟨_,_,Sn,.inr ⟨_,_,rfl,xt,ZzE PB,ZzE dD,ZzE dF⟩⟩,up _ _ D.TIz (Ss _ _ D.TIz D.TITO D.TIi1 D.TIi2 IE),⟨_,_,up _ _ D.TOz G7⟩,?_,xo.at λo e=>up _ o D.i2z e,hl.at λo e=>up _ o D.l2z (Ss _ _ D.l2z D.l2TO D.l2i1 D.l2i2 e)⟩ (hsz ▸ xt) λc o c1 c2 c3 c4 e=>up c o c1 (Ss c o c1 c2 c3 c4 e)
  obtain⟨o,eo,r⟩:=x3
  exact⟨o,up _ _ D.i1z eo,r⟩
 ·refine Zzz (ZzC (Q:=λa s'=>∃h₁,a=false/\s'={ s with heap:=h₁ }/\U1 h₁ z TI TO (rawInt (T:Nat)) true/\Heap.ExtBut z s.heap h₁/\h₁.objs.size=s.heap.objs.size) ?_ ?_ λ_ _ e=>e)
  ·unfold Zy2
   refine Zzz (wpAny_field hz rfl (x:=rawInt (T:Nat)) rfl ?_)
   refine Zzz (QZ ?_)
   rw[show ((T:Nat):Int).toNat=T from Zxu T,hT]
   rw[if_neg (by exact Zz6)]
   refine Zzz (wpAny_field hz rfl (x:=.bool c0) rfl ?_)
   cases c0 with
   | true=>
     rw[if_neg oD]
     exact Zzi ⟨s.heap,rfl,rfl,hz,λ_ _ _ e=>e,rfl⟩
   | false=>
     rw[if_pos oD]
     exact Zzz (wpAny_setField_rec hz (by simp) λh₁ VC XX=>Zzi ⟨h₁,rfl,rfl,VC,XX.extBut,XX.1⟩)
  ·rintro a' s' ⟨h₁,rfl,rfl,VC,XX,gp⟩
   simp only[Zx9,if_false]
   refine Zzz ?_
   rw[<-Zqm]
   simp only[Zys,ZyS]
   refine Zzz (Zzz (ZzO ?_))
   show wpAny _ _ (ZyO (.ref i1)>>=_) _ _ _
   refine Zzz (wpAny_nextOf_wide_item (h1.extBut XX D.i1z) hx λh₂ Sp Ws=>Zzi (Zzi ?_))
   refine Zzz (Zzz (ZzO ?_))
   show wpAny _ _ (ZyO (.ref i2)>>=_) _ _ _
   refine Zzz (wpAny_nextOf_list_item ((h2.extBut XX D.i2z).extBut Ws.extBut D.i12.symm) ((hl.extBut XX D.l2z).extBut Ws.extBut D.l2i1) hy λh₄ Se Qv=>Zzi (Zzi ?_))
   refine Zzi (Zzz (wpAny_newTuple ?_ (show 2<=Zzx by decide)))
   have hsz:h₄.objs.size=s.heap.objs.size:=by rw[Qv.1,Ws.1,gp]
   have hk:∀c o,c≠z->c≠i1->c≠i2->s.heap.get? c=some o->h₄.get? c=some o:=λc o c1 c3 c4 e=>Qv.extBut _ _ c4 (Ws.extBut _ _ c3 (XX _ _ c1 e))
   have up:∀b o,h₄.get? b=some o->(h₄.push { cls:=.type "tuple",data:=.seq #[.str ⟨#[c]⟩ s.toks,y] }).get? b=some o:=λb o e=>Zzj _ e
   refine Zzi ⟨_,rfl,?_⟩
   show Q (.ref h₄.objs.size) _
   rw[hsz]
   refine hQ (h₄.push { cls:=.type "tuple",data:=.seq #[.str ⟨#[c]⟩ s.toks,y] }) _ s.toks ⟨⟨_,_,up _ _ (Qv.extBut _ _ D.i2z.symm (Ws.extBut _ _ D.i1z.symm VC)),.inr ⟨T,oT,rfl,up _ _ (hk _ _ Tz T1 T2 hT),Tz,T1,T2⟩⟩,up _ _ (hk _ _ D.TIz D.TIi1 D.TIi2 IE),⟨a,b,up _ _ (hk _ _ D.TOz D.TOi1 D.TOi2 FA)⟩,?_,Se.at λo e=>up _ o e,hl.at λo e=>up _ o (hk _ _ D.l2z D.l2i1 D.l2i2 e)⟩ ?_ λb o b1 b2 b3 b4 e=>up _ _ (hk b o b1 b3 b4 e)
   ·obtain⟨o,eo,r⟩:=Sp
    exact⟨o,up _ _ (Qv.extBut _ _ D.i12 eo),r⟩
   ·rw[<-hsz]
    exact Zzl _ rfl
end
section
variable {prog:ZxW}{w:Zzk}{A:ZzH}{E:Zzy->Zzu->Prop}{s:Zzu}{z TI TO i1 i2 l:Zzq}{x:oO}{t:Tok}{ys:Array Zzy}{i c:Nat}{y:Zzy}
theorem Og  (hh:A.handled=none)(D:ZwK z TI TO i1 i2 l l)(Z:Wz s.heap z TI TO i1 i2 l x t ys i)(hx:x.cps[i]?=none)
 (hE:∀h' e,(∀c o,c≠z->c≠TO->c≠i1->c≠i2->s.heap.get? c=some o->h'.get? c=some o)->(∃o,h'.get? e=some o/\o.cls=.type "StopIteration")->E (.ref e) { s with heap:=h' }):
 wpAny (model prog w) A (Zwv.«zip.__next__» ⟨[.ref z],[]⟩) Q E s:=by
 obtain⟨⟨f0,c0,hz,hf⟩,IE,⟨a,b,FA⟩,h1,h2,hl⟩:=Z
 show wpAny _ _ (field (.ref z) 2>>=_) _ _ _
 refine Zzz (wpAny_field hz rfl (x:=.bool false) rfl ?_)
 show wpAny _ _ (field (.ref z) 3>>=_) _ _ _
 refine Zzz (wpAny_field hz rfl (x:=.ref TI) rfl ?_)
 refine Zzz (wpAny_seqItems IE rfl ?_)
 show wpAny _ _ (Zy2 (.ref z)>>=_) _ _ _
 rcases hf with rfl |⟨T,oT,rfl,hT,Tz,T1,T2⟩
 ·refine Zzz ?_
  unfold Zy2
  refine Zzz (wpAny_field hz rfl (x:=.none) rfl (Zzi ?_))
  simp only[if_true]
  refine Zzz (wpAny_rule ?_)
  refine Zzz (wpAny_field hz rfl (x:=.ref TO) rfl ?_)
  refine Zzz (wpAny_setField_rec hz (by simp) λh₁ VC XX=>?_)
  replace VC:U1 h₁ z TI TO .ellipsis c0:=VC
  refine Zzz ?_
  simp only[ZqJ,ZqS,Zys,ZyS]
  refine Zzz (Zzz (wpAny_onRaise ?_))
  show wpAny _ _ (ZyO (.ref i1)>>=_) _ _ _
  refine Zzz (wpAny_nextOf_wide_end hh (h1.extBut XX.extBut D.i1z) hx λh₂ e Ws he=>?_)
  obtain⟨oe,ql,aO⟩:=he
  have xg:U1 h₂ z TI TO .ellipsis c0:=Ws _ _ D.i1z.symm VC
  have eB:e≠z:=λx=>by subst x;rw[xg] at ql;cases ql;exact absurd (Zv6 aO) oD
  exact wpAny_setField_rec xg (by simp) λh₃ _ QV=>hE h₃ e (λc o c1 _ c3 _ x=>QV.extBut _ _ c1 (Ws _ _ c3 (XX.extBut _ _ c1 x))) ⟨oe,QV.extBut _ _ eB ql,aO⟩
 ·refine Zzz (ZzC (Q:=λa s'=>∃h₁,a=false/\s'={ s with heap:=h₁ }/\Heap.ExtBut z s.heap h₁) ?_ ?_ λ_ _ e=>e)
  ·unfold Zy2
   refine Zzz (wpAny_field hz rfl (x:=rawInt (T:Nat)) rfl ?_)
   refine Zzz (QZ ?_)
   rw[show ((T:Nat):Int).toNat=T from Zxu T,hT]
   rw[if_neg (by exact Zz6)]
   refine Zzz (wpAny_field hz rfl (x:=.bool c0) rfl ?_)
   cases c0 with
   | true=>
     rw[if_neg oD]
     exact Zzi ⟨s.heap,rfl,rfl,λ_ _ _ e=>e⟩
   | false=>
     rw[if_pos oD]
     exact Zzz (wpAny_setField_rec hz (by simp) λh₁ VC XX=>Zzi ⟨h₁,rfl,rfl,XX.extBut⟩)
  ·rintro a' s' ⟨h₁,rfl,rfl,XX⟩
   simp only[Zx9,if_false]
   refine Zzz ?_
   rw[<-Zqm]
   simp only[Zys,ZyS]
   refine Zzz (Zzz (ZzO ?_))
   show wpAny _ _ (ZyO (.ref i1)>>=_) _ _ _
   refine Zzz (wpAny_nextOf_wide_end hh (h1.extBut XX D.i1z) hx λh₂ e Ws he=>?_)
   exact hE h₂ e (λc o c1 _ c3 _ x=>Ws _ _ c3 (XX _ _ c1 x)) he
theorem Wz.typeIs(Z:Wz s.heap z TI TO i1 i2 l x t ys i):s.TypeIs (.ref z) "zip":=Z.zip.elim λf0 t=>t.elim λc t=>⟨_,t.1,rfl⟩
theorem DE  (D:ZwK z TI TO i1 i2 l l)(Z:Wz s.heap z TI TO i1 i2 l x t ys i)(hx:x.cps[i]?=some c)(hy:ys[i]?=some y)
 (hQ:∀h' tk u,Wz h' z TI TO i1 i2 l x t ys (i+1)->Zvl h' s.heap.objs.size (.str ⟨#[c]⟩ u) y->(∀c o,c≠z->c≠TO->c≠i1->c≠i2->s.heap.get? c=some o->h'.get? c=some o)->Q (some (.ref s.heap.objs.size)) { s with heap:=h',toks:=tk }):
 wpAny (model prog w) A (pyNext (.ref z)) Q E s:=by
 have hT:=Z.typeIs
 unfold pyNext
 exact Zzz (wpAny_attempt (wpAny_callSpecial?_slot (name:=ZzB "__next__") hT Zvh
  (wpAny_call_entry Zvh hT ZqK (EJ D Z hx hy λh' tk u a1 a2 a3=>Zzi (hQ h' tk u a1 a2 a3)) (Zq2 _))))
theorem Bk  (hh:A.handled=none)(D:ZwK z TI TO i1 i2 l l)(Z:Wz s.heap z TI TO i1 i2 l x t ys i)(hx:x.cps[i]?=none)
 (hQ:∀h',(∀c o,c≠z->c≠TO->c≠i1->c≠i2->s.heap.get? c=some o->h'.get? c=some o)->Q none { s with heap:=h' }):wpAny (model prog w) A (pyNext (.ref z)) Q E s:=by
 have hT:=Z.typeIs
 unfold pyNext
 refine Zzz (wpAny_attempt (wpAny_callSpecial?_slot (name:=ZzB "__next__") hT Zvh
  (wpAny_call_entry Zvh hT ZqK (Og hh D Z hx λh' e hk he=>?_) (Zq2 _))))
 obtain⟨o,ho,hc⟩:=he
 refine Zzz (wpAny_isInstance (T:="StopIteration") (b:=true) ⟨o,ho,hc⟩ isSubtype_stop ?_)
 exact Zzi (hQ _ hk)
structure Ge(h:Zza)(acc:Array Zzy)(x:oO)(ys:Array Zzy)(z TO i1 i2 S:Zzq)(i:Nat):Prop where
 size:acc.size=i
 at_:∀j,j<i->∃T u c y,acc[j]?=some (.ref T)/\Zvl h T (.str ⟨#[c]⟩ u) y/\x.cps[j]?=some c/\ys[j]?=some y/\T≠z/\T≠TO/\T≠i1/\T≠i2/\@LT.lt Nat _ S T
theorem Ge.keep    (a:Ge h acc x ys z TO i1 i2 S i)(hk:∀c o,c≠z->c≠TO->c≠i1->c≠i2->c≠S->h.get? c=some o->h'.get? c=some o):Ge h' acc x ys z TO i1 i2 S i:=
 ⟨a.size,λj hj=>by
  obtain⟨T,u,c,y,e1,e2,e3,e4,n1,n2,n3,n4,n5⟩:=a.at_ j hj
  exact⟨T,u,c,y,e1,hk _ _ n1 n2 n3 n4 (ZzE n5) e2,e3,e4,n1,n2,n3,n4,n5⟩⟩
theorem Cj  (hh:A.handled=none)(D:ZwK z TI TO i1 i2 l l)  (Kj:S≠z)(Gy:S≠TO)(Gz:S≠i1)(IP:S≠i2)(Ct:S≠TI)(Cm:S≠l)(res:Zzy)(QO:x.cps.size=ys.size)(hn:ys.size<=Zzx):
 ∀(k i:Nat) (s:Zzu) (acc:Array Zzy) (c:Nat),ys.size-i=k->i<=ys.size->Wz s.heap z TI TO i1 i2 l x t ys i->s.heap.get? S=some { cls:=.type "list",dict:=none,data:=.seq acc c,slots:=#[] }->Ge s.heap acc x ys z TO i1 i2 S i->
 (∀h' tk Vd c',(∀c o,c≠z->c≠TO->c≠i1->c≠i2->c≠S->s.heap.get? c=some o->h'.get? c=some o)->h'.get? S=some { cls:=.type "list",dict:=none,data:=.seq Vd c',slots:=#[] }->Ge h' Vd x ys z TO i1 i2 S ys.size->R (.ok (.ret res)) { s with heap:=h',toks:=tk })->
 codeAny (model prog w) A (.builtin "list.extend.loop" ⟨[.ref S,.ref z,res],[]⟩) R s:=by
 intro k
 induction k with
 | zero=>
   intro i s acc c hk hi Z hS ha hR
   have Jy:i=ys.size:=ZyM hi (Zu2.mp hk)
   subst Jy
   refine codeAny_builtin Zqv ?_
   rw[ZxL Zw5 _]
   show wpAny _ A.in1 (pyNext (.ref z)>>=_) _ _ s
   refine Zzz (Bk (A:=A.in1) hh D Z (Array.getElem?_eq_none (Zya QO)) λh' hm=>?_)
   exact Zzi (hR h' s.toks acc c (λc o c1 c2 c3 c4 _ e=>hm c o c1 c2 c3 c4 e) (hm _ _ Kj Gy Gz IP hS) (ha.keep λc o c1 c2 c3 c4 _ e=>hm c o c1 c2 c3 c4 e))
 | succ k ih=>
   intro i s acc c hk hi Z hS ha hR
   have YN:i<ys.size:=ZuU hk
   refine codeAny_builtin Zqv ?_
   rw[ZxL Zw5 _]
   show wpAny _ A.in1 (pyNext (.ref z)>>=_) _ _ s
   refine Zzz (DE D Z (ZyK (QO.symm ▸ YN)) (ZyK YN) λh' tk u Z' hp hm=>?_)
   have qQ:=hm _ _ Kj Gy Gz IP hS
   show wpAny _ A.in1 (updateSeq S (·.push (.ref s.heap.objs.size))>>=_) _ _ _
   have YZ:∀b o,b≠S->h'.get? b=some o->(h'.update S (Zxt (·.push (Zwh s.heap.objs.size)))).get? b=some o:=λb o hb e=>(Zx6 _ _ (Zv7 hb)).trans e
   have lt:∀{c o},s.heap.get? c=some o->s.heap.objs.size≠c:=λe=>ZzE (ZzU e)
   obtain⟨⟨f0,c0,hz,hf⟩,IE,⟨a,b,FA⟩,h1,h2,hl⟩:=Z
   have nz:=lt hz
   have ro:=lt FA
   have n1:s.heap.objs.size≠i1:=by obtain⟨_,e,_⟩:=h1;exact lt e
   have n2:s.heap.objs.size≠i2:=by obtain⟨_,e,_⟩:=h2;exact lt e
   have nS:=lt hS
   refine Zzz (wpAny_updateSeq qQ rfl (Zzi ⟨plainId_quiet Zw5 _,ih (i+1) { s with heap:=h'.update S (Zxt (·.push (Zwh s.heap.objs.size))),toks:=tk } (acc.push (.ref s.heap.objs.size)) _ (congrArg Nat.pred hk) YN ?_ (ZyB _ qQ rfl) ?_ λh3 uV tR c3 k3 e3 a3=>?_⟩)
    (by rw[ha.size];exact oP hi hn) (by show (acc.push _).size<=Zzx+1;rw[ZxV,ha.size];exact ZzX (oP hi hn)))
   ·obtain⟨⟨f0,c0,hz,hf⟩,IE,⟨a,b,FA⟩,h1,h2,hl⟩:=Z'
    refine⟨⟨f0,c0,YZ _ _ Kj.symm hz,hf.imp id λt=>t.imp λT t=>?_⟩,YZ _ _ Ct.symm IE,⟨a,b,YZ _ _ Gy.symm FA⟩,?_,h2.at λo e=>YZ _ o IP.symm e,hl.at λo e=>YZ _ o Cm.symm e⟩
    ·obtain⟨o,eo,r⟩:=h1
     exact⟨o,YZ _ _ Gz.symm eo,r⟩
    ·obtain⟨o,e1,e2,e3⟩:=t
     by_cases q:T=S
     ·subst q
      exact⟨_,e1,ZyB _ qQ rfl,e3⟩
     ·exact⟨o,e1,YZ _ _ q e2,e3⟩
   ·have Hb:=(ha.keep (h':=h') λc o c1 c2 c3 c4 _ e=>hm c o c1 c2 c3 c4 e).keep (h':=h'.update S (Zxt (·.push (Zwh s.heap.objs.size)))) λc o _ _ _ _ c5 e=>YZ c o c5 e
    refine⟨by rw[ZxV,ha.size],λj hj=>?_⟩
    rcases Zwj (Zwd hj) with hj |rfl
    ·obtain⟨T,u,c,y,e1,r⟩:=Hb.at_ j hj
     exact⟨T,u,c,y,by rw[Array.getElem?_push_lt (by rw[ha.size];exact hj)];rw[ZyK (by rw[ha.size];exact hj)] at e1;exact e1,r⟩
    ·exact⟨s.heap.objs.size,u,_,_,by rw[<-ha.size];simp,YZ _ _ nS hp,ZyK (QO.symm ▸ YN),ZyK YN,nz,ro,n1,n2,ZzU hS⟩
   ·exact hR h3 uV tR c3 (λc o c1 c2 c3 c4 c5 e=>k3 c o c1 c2 c3 c4 c5 (YZ c o c5 (hm c o c1 c2 c3 c4 e))) e3 a3
end
theorem SV:typeLookup (.type "zip") "__len__"=pure none:=by rw[Zyn,ZzF];kernel_rfl
theorem LF:typeLookup (.type "zip") "__length_hint__"=pure none:=by rw[Zyn,ZzF];kernel_rfl
section
variable {prog:ZxW}{w:Zzk}{A:ZzH}{E:Zzy->Zzu->Prop}{s:Zzu}{z TI TO i1 i2 l:Zzq}{x:oO}{t:Tok}{ys:Array Zzy}
theorem Wz.keep   (Z:Wz h z TI TO i1 i2 l x t ys i)(hk:ZY h h'):Wz h' z TI TO i1 i2 l x t ys i:=
 ⟨Z.zip.imp λf0 t=>t.imp λc t=>⟨hk _ _ t.1,t.2.imp id λt=>t.imp λT t=>t.imp λo t=>⟨t.1,hk _ _ t.2.1,t.2.2⟩⟩,hk _ _ Z.ti,Z.to.imp λa t=>t.imp λb t=>hk _ _ t,Z.qz.elim λo t=>⟨o,hk _ _ t.1,t.2⟩,Z.NY.at λo e=>hk _ _ e,Z.lst.at λo e=>hk _ _ e⟩
theorem Wz.off{h h':Zza}   (Z:Wz h z TI TO i1 i2 l x t ys i)(Kj:S≠z)(Gy:S≠TO)(Gz:S≠i1)(IP:S≠i2)(Ct:S≠TI)(Cm:S≠l)(hn:∀f0 c,U1 h z TI TO f0 c->f0=.none)(hk:∀b o,b≠S->h.get? b=some o->h'.get? b=some o):Wz h' z TI TO i1 i2 l x t ys i:=
 ⟨Z.zip.imp λf0 t=>t.imp λc t=>⟨hk _ _ Kj.symm t.1,.inl (hn _ _ t.1)⟩,hk _ _ Ct.symm Z.ti,Z.to.imp λa t=>t.imp λb t=>hk _ _ Gy.symm t,Z.qz.elim λo t=>⟨o,hk _ _ Gz.symm t.1,t.2⟩,Z.NY.at λo e=>hk _ _ IP.symm e,Z.lst.at λo e=>hk _ _ Cm.symm e⟩
theorem HF{h h':Zza}   (hz:IsZip h z TI TO .none)(e:U1 h z TI TO f0 c):f0=.none:=by
 have e:=Zzv ((show h.get? z=_ from hz).symm.trans e)
 injection e with _ _ e _
 injection e with e
 exact (congrArg (λa:Array Zzy=>a[0]!) e).symm
theorem SO{R:Zu8->Zzu->Prop}(hh:A.handled=none)(D:ZwK z TI TO i1 i2 l l)  (Kj:S≠z)(Gy:S≠TO)(Gz:S≠i1)(IP:S≠i2)(Ct:S≠TI)(Cm:S≠l)(res:Zzy)(c₀:Nat)(QO:x.cps.size=ys.size)(hn:ys.size<=Zzx)
 (Z:Wz s.heap z TI TO i1 i2 l x t ys 0) (hz:IsZip s.heap z TI TO .none) (hS:s.heap.get? S=some { cls:=.type "list",data:=.seq #[] c₀ })
 (hR:∀h' tk Vd c',(∀c o,c≠z->c≠TO->c≠i1->c≠i2->c≠S->s.heap.get? c=some o->h'.get? c=some o)->h'.get? S=some { cls:=.type "list",dict:=none,data:=.seq Vd c',slots:=#[] }->Ge h' Vd x ys z TO i1 i2 S ys.size->R (.ok (.ret res)) { s with heap:=h',toks:=tk }):
 wpAny (model prog w) A.in1 (ZxX (.ref S) (.ref z) res)
  (λfin s'=>match fin with |.done f=>R (.ok f) s' |.again c'=>c'.quiet=true/\codeAny (model prog w) A c' R s') (λe s'=>R (.error e) s') s:=by
 have hT:s.TypeIs (.ref z) "zip":=Z.typeIs
 unfold ZxX
 refine Zzz (wpAny_typeOf hT ?_)
 have h1:Zug (.ref S) (.ref z)=false:=by simp [Zug,Kj]
 have h2:(Zvn "zip"==Zvn "list")=false:=by decide
 have h3:(Zvn "zip"==Zvn "tuple")=false:=by decide
 simp only[h1,h2,h3,Zvz,Zx9,if_false]
 refine Zzz (wpAny_pyIter_zip hz ?_)
 refine Zzz (ZzO ?_)
 unfold Builtin.List.listLengthHint
 refine Zzz (wpAny_specialOf hT SV ?_)
 show wpAny _ A.in1 (specialOf (Zwh z) (ZzB "__length_hint__")>>=_) _ _ _
 refine Zzz (wpAny_specialOf hT LF ?_)
 refine Zzi ?_
 show wpAny _ A.in1 (rule "list.extend.makes-room">>=λ_=>Builtin.List.listTouch (.ref S)>>=λ_=>
  again (.builtin "list.extend.loop" ⟨[.ref S,.ref z,res],[]⟩)) _ _ _
 refine Zzz (wpAny_rule ?_)
 refine Zzz ?_
 show wpAny _ A.in1 (updateSeq S (·.push .none)>>=λ_=>updateSeq S (·.pop)) _ _ _
 refine Zzz (wpAny_updateSeq hS rfl ?_)
 have Nt:=ZyB (Zxt (·.push ZqR)) hS rfl
 refine wpAny_updateSeq (hz:=by seq_fits) Nt rfl ?_
 have dH:=ZyB (Zxt (·.pop)) Nt rfl
 have YZ:∀b o,b≠S->s.heap.get? b=some o->((s.heap.update S (Zxt (·.push ZqR))).update S (Zxt (·.pop))).get? b=some o:=
  λb o hb e=>(Zx6 _ _ (Zv7 hb)).trans ((Zx6 _ _ (Zv7 hb)).trans e)
 exact Zzi ⟨plainId_quiet Zw5 _,Cj hh D Kj Gy Gz IP Ct Cm _ QO hn ys.size 0 { s with heap:=(s.heap.update S (Zxt (·.push ZqR))).update S (Zxt (·.pop)) } _ _ (Zui _) (Zz3 _) (Z.off Kj Gy Gz IP Ct Cm (λf0 c e=>HF (h':=s.heap) hz e) YZ) dH ⟨rfl,λj hj=>absurd hj (Zwq _)⟩
  λh' tk Vd c' hk e a=>hR h' tk Vd c' (λc o c1 c2 c3 c4 c5 e=>hk c o c1 c2 c3 c4 c5 (YZ c o c5 e)) e a⟩
theorem AA{R:Zu8->Zzu->Prop}(hh:A.handled=none)(D:ZwK z TI TO i1 i2 l l)  (Kj:S≠z)(Gy:S≠TO)(Gz:S≠i1)(IP:S≠i2)(Ct:S≠TI)(Cm:S≠l)(QO:x.cps.size=ys.size)(hn:ys.size<=Zzx)
 (Z:Wz s.heap z TI TO i1 i2 l x t ys 0) (hz:IsZip s.heap z TI TO .none) (hS:s.heap.get? S=some { cls:=.type "list",data:=.seq #[] })
 (hR:∀h' tk Vd c',(∀c o,c≠z->c≠TO->c≠i1->c≠i2->c≠S->s.heap.get? c=some o->h'.get? c=some o)->h'.get? S=some { cls:=.type "list",dict:=none,data:=.seq Vd c',slots:=#[] }->Ge h' Vd x ys z TO i1 i2 S ys.size->R (.ok (.ret .none)) { s with heap:=h',toks:=tk }):
 wpAny (model prog w) A.in1 (Zwv.«list.__init__» ⟨[.ref S,.ref z],[]⟩)
  (λfin s'=>match fin with |.done f=>R (.ok f) s' |.again c'=>c'.quiet=true/\codeAny (model prog w) A c' R s') (λe s'=>R (.error e) s') s:=by
 show wpAny _ A.in1 (do let old <-Zu3 (.ref S);Builtin.List.listUpdate (.ref S) (λ_=>#[]);letGo old.toList.reverse;ZxX (.ref S) (.ref z) .none) _ _ s
 refine Zzz ?_
 unfold Zu3
 refine Zzz (wpAny_seqItems hS rfl (Zzi ?_))
 show wpAny _ A.in1 (updateSeq S (λ_=>#[])>>=λ_=>letGo (#[]:Array Zzy).toList.reverse>>=λ_=>ZxX (.ref S) (.ref z) .none) _ _ s
 refine Zzz (wpAny_updateSeq hS rfl ?_)
 have Nt:=ZyB (Zxt (λ_=>(#[]:Array Zzy))) hS rfl
 have YZ:∀b o,b≠S->s.heap.get? b=some o->(s.heap.update S (Zxt (λ_=>(#[]:Array Zzy)))).get? b=some o:=
  λb o hb e=>(Zx6 _ _ (Zv7 hb)).trans e
 refine Zzz (wpAny_letGo ?_)
 exact SO (s:={ s with heap:=s.heap.update S (Zxt (λ_=>(#[]:Array Zzy))) }) hh D Kj Gy Gz IP Ct Cm .none _ QO hn (Z.off Kj Gy Gz IP Ct Cm (λf0 c e=>HF (h':=s.heap) hz e) YZ) (YZ _ _ Kj.symm hz) Nt
  λh' tk Vd c' hk e a=>hR h' tk Vd c' (λc o c1 c2 c3 c4 c5 e=>hk c o c1 c2 c3 c4 c5 (YZ c o c5 e)) e a
theorem Nk  (hh:A.handled=none)(D:ZwK z TI TO i1 i2 l l)(QO:x.cps.size=ys.size)(hn:ys.size<=Zzx)(Z:Wz s.heap z TI TO i1 i2 l x t ys 0)(hz:IsZip s.heap z TI TO .none)
 (hQ:∀h' tk Vd c',(∀c o,c≠z->c≠TO->c≠i1->c≠i2->s.heap.get? c=some o->h'.get? c=some o)->h'.get? s.heap.objs.size=some { cls:=.type "list",dict:=none,data:=.seq Vd c',slots:=#[] }->Ge h' Vd x ys z TO i1 i2 s.heap.objs.size ys.size->Q (.ref s.heap.objs.size) { s with heap:=h',toks:=tk }):
 wpAny (model prog w) A (call (.type "list") [.ref z]) Q E s:=by
 refine callType_codes (Q₁:=λobj s₁=>obj=.ref s.heap.objs.size/\s₁={ s with heap:=s.heap.push { cls:=.type "list",data:=.seq #[] } }) F.called_list (F.typeCall_list_1 _) F.entry_list_init
  (code_list_new _ ⟨rfl,rfl⟩) λobj s₁ h₁=>?_
 obtain⟨rfl,rfl⟩:=h₁
 have hS:(s.heap.push { cls:=.type "list",data:=.seq #[] }).get? s.heap.objs.size=some { cls:=.type "list",data:=.seq #[] }:=Zzl _ rfl
 have ext:ZY s.heap (s.heap.push { cls:=.type "list",data:=.seq #[] }):=λb o e=>Zzj _ e
 have lt:∀{c o},s.heap.get? c=some o->s.heap.objs.size≠c:=λe=>ZzE (ZzU e)
 refine⟨⟨_,hS,rfl⟩,F.args_list_init_2 _ _,AA (A:=A.in1) hh D (lt hz) (Z.to.elim λa t=>t.elim λb e=>lt e) (Z.qz.elim λo t=>lt t.1) (Z.NY.elim λo t=>lt t.1) (lt Z.ti) (Z.lst.elim λo t=>lt t.1) QO hn (Z.keep ext) (ext _ _ hz) hS λh' tk Vd c' hk e a=>?_⟩
 exact⟨rfl,hQ h' tk Vd c' (λc o c1 c2 c3 c4 e=>hk c o c1 c2 c3 c4 (Zv7 (lt e)) (ext _ _ e)) e a⟩
end
abbrev To(h:Zza)(x:oO)(t:Tok):Zza:=h.push { cls:=.type "str_iterator",data:=.fields #[.str x t,.int 0 0] }
abbrev Tp(h:Zza)(x:oO)(t:Tok)(l2:Zzq):Zza:=(To h x t).push { cls:=.type "list_iterator",data:=.fields #[.ref l2,.int 0 0] }
abbrev Te(h:Zza)(x:oO)(t:Tok)(l2:Zzq):Zza:=(Tp h x t l2).push { cls:=.type "tuple",data:=.seq #[.ref h.objs.size,.ref (To h x t).objs.size] }
abbrev Tr(h:Zza)(x:oO)(t:Tok)(l2:Zzq):Zza:=(Te h x t l2).push { cls:=.type "tuple",data:=.seq #[.none,.none] }
abbrev Gj(h:Zza)(x:oO)(t:Tok)(l2:Zzq):Zza:=(Tr h x t l2).push { cls:=.type "zip",data:=.fields #[.none,.bool false,.bool false,.ref (Tp h x t l2).objs.size,.ref (Te h x t l2).objs.size] }
set_option maxHeartbeats 4000000 in
theorem Az(x:oO)(t:Tok)(l2:Zzq)(ys:Array Zzy)(ha:x.cps.all (· < 128)=false):
 Meets (Zwv.«zip.__new__» ⟨[.type "zip",.str x t,.ref l2],[]⟩) (λ_ R s=>s.heap.IsList l2 ys/\
  R (.ok (.ret (.ref (Tr s.heap x t l2).objs.size))) { s with heap:=Gj s.heap x t l2 }):=
 .of_wp λprog w A R s h=>by
  obtain⟨hp,g,d,tk,os⟩:=s;obtain⟨J8,h⟩:=h
  have kx:=sub_zip
  have pj:Heap.IsList (Shared.heap ⟨hp.push { cls:=.type "str_iterator",data:=.fields #[.str x t,.int 0 0] },g,d,tk,os⟩) l2 ys:=Heap.IsList.push J8 _
  wp_walk using wpAny_pyIter_wide ha,wpAny_pyIter_list pj
  exact⟨_,rfl,h⟩
section
variable {prog:ZxW}{w:Zzk}{A:ZzH}{E:Zzy->Zzu->Prop}{s:Zzu}
theorem Ru      (ha:x.cps.all (· < 128)=false)(J8:s.heap.IsList l2 ys)
 (h:∀h',IsZip h' (s.heap.objs.size+4) (s.heap.objs.size+2) (s.heap.objs.size+3) .none->Wz h' (s.heap.objs.size+4) (s.heap.objs.size+2) (s.heap.objs.size+3) s.heap.objs.size (s.heap.objs.size+1) l2 x t ys 0->h'.objs.size=s.heap.objs.size+5->ZY s.heap h'->Q (.ref (s.heap.objs.size+4)) { s with heap:=h' }):
 wpAny (model prog w) A (call (.type "zip") [.str x t,.ref l2]) Q E s:=by
 refine callType_new F.called_zip oD (F.typeCall_zip_2 _ _) (F.newCall_zip_2 _ _) (λobj=>F.args_object_init_3 obj _ _) F.entry_zip_new
  (Az x t l2 ys ha) ⟨J8,?_⟩
 have z1:(To s.heap x t).objs.size=s.heap.objs.size+1:=ZyT ..
 have z2:(Tp s.heap x t l2).objs.size=s.heap.objs.size+2:=by rw[ZyT,z1]
 have z3:(Te s.heap x t l2).objs.size=s.heap.objs.size+3:=by rw[ZyT,z2]
 have z4:(Tr s.heap x t l2).objs.size=s.heap.objs.size+4:=by rw[ZyT,z3]
 have z5:(Gj s.heap x t l2).objs.size=s.heap.objs.size+5:=by rw[ZyT,z4]
 have g5:(Gj s.heap x t l2).get? (Tr s.heap x t l2).objs.size=some _:=Zzl _ rfl
 have g4:(Gj s.heap x t l2).get? (Te s.heap x t l2).objs.size=some _:=Zzj _ (Zzl _ rfl)
 have g3:(Gj s.heap x t l2).get? (Tp s.heap x t l2).objs.size=some _:=Zzj _ (Zzj _ (Zzl _ rfl))
 have g2:(Gj s.heap x t l2).get? (To s.heap x t).objs.size=some _:=Zzj _ (Zzj _ (Zzj _ (Zzl _ rfl)))
 have g1:(Gj s.heap x t l2).get? s.heap.objs.size=some _:=Zzj _ (Zzj _ (Zzj _ (Zzj _ (Zzl _ rfl))))
 have ext:ZY s.heap (Gj s.heap x t l2):=λc o x=>Zzj _ (Zzj _ (Zzj _ (Zzj _ (Zzj _ x))))
 show _/\_
 rw[z2,z3,z4] at g5
 rw[z1,z2] at g3
 rw[z3] at g4
 rw[z1] at g2
 rw[z4]
 exact⟨⟨_,g5,rfl⟩,h _ g5 ⟨⟨_,_,g5,.inl rfl⟩,g3,⟨_,_,g4⟩,⟨_,g1,rfl,rfl⟩,⟨_,g2,rfl,rfl⟩,J8.at λo e=>ext _ _ e⟩ z5 ext⟩
end
section
variable {C:Cx}{k:Nat}{σ:Zx}{env:Env}
theorem Zy.du   {ds:List PV}:∀{vs:List Zzy},ds.length=vs.length->(∀(i:Nat) d v,ds[i]?=some d->vs[i]?=some v->Rep P h d v)->Zy P h ds vs:=by
 induction ds with
 |nil=>exact λe _=>Zvo e.symm ▸ Zy.nil
 | cons d ds ih=>
   intro vs e H
   obtain⟨v,W6,rfl⟩:=ZwV e.symm
   exact Zy.cons (H 0 d v rfl rfl) (ih (Zxz e) λi d v a b=>H (i+1) d v a b)
noncomputable def Vz(x:oO)(ds:List PV):List PV:=Zqc (λc d=>.tup [.str ⟨#[c]⟩,d]) x.cps.toList ds
theorem Wj.OC      (hf:Zt env)(hB:VX C env "list" (.type "list"))(hZ:VX C env "zip" (.type "zip"))(ha:ZQ C k env σ args [.val (.str x),b])(hb:listOf b=some ds)
 (hx:x.cps.all (· < 128)=false) (hl:x.length=ds.length) (hsz:ds.length<=Zzx):Wj C k env σ (.Call (.Name "list" p1) [.Call (.Name "zip" p2) args [] pos] [] My) (.own (Vz x ds)):=⟨rfl,λA s Q E P hr hg hh NG q=>by
 rw[Ym]
 refine Zzz (name_B hf hB hg ?_ oD)
 refine ZyE rfl ?_
 refine Zxv (Zqb ?_)
 rw[Ym]
 refine Zzz (name_B hf hZ hg ?_ oD)
 refine ZyE ha.plain (ha.args hr hg hh NG λvs s₁ k₁ r₁=>?_)
 obtain⟨v,u,rfl,rv,ru⟩:=V0 r₁
 obtain⟨t,rfl⟩:=Yj rv
 obtain⟨l2,ws,n,rfl,_,g2,r2⟩:=V7 hb ru
 have ar:l2<s₁.heap.objs.size:=ZzU g2
 have Qn:ws.size=ds.length:=by have:=r2.length;simpa using this
 refine Ru hx (ZL g2) λh' hz Z PN ext=>Zqo ?_
 have QO:x.cps.size=ws.size:=hl.trans Qn.symm
 refine Nk (s:={ s₁ with heap:=h' }) hr.handled (As ar ar) QO (Qn.symm ▸ hsz) Z hz λh2 tk acc c' hk e a=>?_
 have x₁:=Zw k₁
 have new:∀j:Nat,s₁.heap.get? (s₁.heap.objs.size+j)=none:=λj=>Xq (Zzt _ j)
 have ne:∀{c:Zzq} {o:Obj} (j:Nat),s₁.heap.get? c=some o->c≠s₁.heap.objs.size+j:=λj e q=>nS ((new j).symm.trans (q ▸ e))
 have ext2:ZY s₁.heap h2:=λc o e=>hk c o (ne 4 e) (ne 3 e) (ne 0 e) (ne 1 e) (ext _ _ e)
 refine q _ [h'.objs.size] _ (Zq k₁ ⟨h2,tk,rfl,ext2⟩) (λc m=>?_) ⟨_,rfl,rfl,acc,c',e,?_⟩
 ·rw[Zz5.mp m,PN]
  exact ZD x₁ (new 5)
 ·have D3:acc.toList.length=ws.size:=(Zw3).trans a.size
  have rC:(Vz x ds).length=ws.size:=by unfold Vz;rw[Zqu,Zw3,show x.cps.size=ds.length from hl,Nat.min_self,Qn]
  refine Zy.du (rC.trans D3.symm) λi d v e1 e2=>?_
  have hi:i<ws.size:=D3 ▸ (Zyt.mp e2).1
  obtain⟨T,u,c,y,f1,f2,f3,f4,n1,n2,n3,n4,n5⟩:=a.at_ i hi
  rw[Zwb,f1] at e2
  cases e2
  obtain⟨d',Ku,_⟩:=UR (P:=P) (wr:=[]) r2 ext2 YX f4
  obtain⟨y',rJ,rd⟩:=r2.get Ku
  have ey:y'=y:=Zzv ((rJ.symm.trans Zwb).trans f4)
  subst ey
  have ed:d=.tup [.str ⟨#[c]⟩,d']:=by
   unfold Vz at e1
   rw[Zvq,Zwb,f3,Ku] at e1
   exact (Zzv e1).symm
  have uR:h'.objs.size<T:=n5
  have lT:s₁.heap.get? T=none:=Xq (by rw[PN] at uR;exact oP (Zzt _ 5) (Zzs uR))
  have PT:P T:=Zyg λnp=>(NG T np).elim λo e=>nS ((ZD x₁ lT).symm.trans e)
  rw[ed]
  have oo:T∉[h'.objs.size]:=λm=>ZzE uR (Zz5.mp m)
  exact YA.mpr ⟨T,#[.str ⟨#[c]⟩ u,y'],0,rfl,⟨PT,oo⟩,f2,Zy.cons (Zc.mpr ⟨u,rfl⟩) (Zy.one (rd.mono (λb o e p=>⟨p,λm=>nS ((new 5).symm.trans (PN ▸ Zz5.mp m ▸ e))⟩) λb o _ e=>ext2 b o e))⟩⟩
end
end Mine.Internal
end
section
open PySem PySem.W PyProof.Rows
open Sem (wp)
namespace Mine.Internal
open Classical
noncomputable def xq(op:Zuq):Bool:=match op with |.Mod=>true |_=>false
theorem OE  (h:xq op=true):op=.Mod:=by cases op<;>first |rfl |cases h
section
variable (B:YM)(S:Sg)(n:Nat)(sc:Zz0)(σ:Zx)
def fm(e:Zzw):Option AV:=yA e λl op r _=>if xq op=true then (ev S n sc σ l).bind λa=>(ev S n sc σ r).bind λb=>(TG a b).map .val else none
def kI(e:Zzw):Option AV:=PO e (λo i _=>if WM i=true then (ev S n sc σ o).bind λa=>(ev S n sc σ i).bind λj=>j.ZC.bind λj=>(xZ B a j).map .val else none) none
def fk(e:Zzw):Option AV:=Jg e λf as ks _=>VQ f λx _=>WT as λc=>Jg c λg bs aQ _=>VQ g λy _=>
 if (x==("list":oO)&&(y==("zip":oO)&&(ks.isEmpty&&(aQ.isEmpty&&(ZI sc x&&ZI sc y)))))=true then (Y3 S n sc σ bs).bind λvs=>IG vs λa b=>(Yw a).bind λt=>(listOf b).bind λds=>
  if t.cps.all (· < 128)=false/\t.length=ds.length/\ds.length<=Zzx then some (.val (.lst (Vz t ds))) else none else none
def Ak(e:Zzw):Option AV:=Ys (fm S n sc σ e) (Ys (kI B S n sc σ e) (fk S n sc σ e))
def kU(Zu e:Zzw):Option (List PV):=VQ Zu λ_ _=>(ev S n sc σ e).bind λa=>(RK B a).map λz=>z.1.map .str
def kQ(strict:Bool)(Zu e:Zzw):Option (List PV):=KQ Zu (λes _ _=>NL es (λ_ _=>Jg e λf as ks _=>VQ f λx _=>
 if (x==("enumerate":oO)&&(ks.isEmpty&&ZI sc x))=true then (Y3 S n sc σ as).bind λvs=>WT vs λa=>(listOf a).bind λds=>if (strict&&a.ZC.isNone)=true then none else some (Va ds) else none) none) none
def Rk(strict:Bool)(Zu e:Zzw):Option (List PV):=Ys (kU B S n sc σ Zu e) (kQ S n sc σ strict Zu e)
end
section
variable {C:Cx}{k:Nat}{S:Sg}
theorem RA(HS:Xy C k S)(n:Nat):∀env σ e a,Zt env->Ak (dB C.prog C.w) S n env.scope σ e=some a->Z1 C k env σ e a:=λenv σ e a hf h=>
 have so:=sound HS n
 Xr h (λh=>OY h λl op r p e1 h=>Zl h λhm h=>Zv h λx h1 h=>Zv h λy h2 h=>Y2 h λc h3 e2=>by
  rw[e1,OE hm,e2]
  exact iQ (so.ev _ _ _ _ hf h1) (so.ev _ _ _ _ hf h2) h3) λh=>Xr h
  (λh=>Tu h (λo i p e1 h=>Zl h λhn h=>Zv h λx h1 h=>Zv h λj h2 h=>Zv h λj' h3 h=>Y2 h λc h4 e2=>Zv h4 λzz h5 h6=>Zv h6 λy h7 h8=>by
   rw[e1,e2]
   have a1:=so.ev _ _ _ _ hf h1
   rw[EW h5] at a1
   have a2:=(so.ev _ _ _ _ hf h2).ev h3
   rw[DS h7] at a2
   exact Ev.zf a1 a2 h8 (RH hn)) nS)
  λh=>Ug h λf as ks p e1 h=>W3 h λx p1 e2 h=>YH h λc e3 h=>Ug h λg bs aQ p2 e4 h=>W3 h λy p3 e5 h=>Zl h λhc h=>Z8 hc λhx hc=>Z8 hc λhy hc=>Z8 hc λk1 hc=>Z8 hc λk2 hc=>Z8 hc λg1 g2=>
   Zv h λvs h1 h=>VJ h λu v e6 h=>Zv h λt h2 h=>Zv h λds h3 h=>Zl h λhz h=>ZW (P:=λa=>Z1 C k env σ e a) (by
    rw[eq_of_beq hx] at g1 e2
    rw[eq_of_beq hy] at g2 e5
    have a1:=so.Y3 _ _ _ _ hf h1
    rw[e6,Y7 h2] at a1
    rw[e1,e2,e3,e4,e5,nil_of k1,nil_of k2]
    exact (Wj.OC hf ⟨HS.bi _ (.inl rfl),HS.list,Gx g1⟩ ⟨HS.bi _ (.inr (.inr rfl)),HS.zip,Gx g2⟩ a1 h3 hz.1 hz.2.1 hz.2.2).ev) h
theorem kJ(HS:Xy C k S)(n:Nat)(hm:C.mg "enumerate"=none)(hb:C.mb "enumerate"=some (.type "enumerate")):∀env σ strict Zu e ds,Zt env->Rk (dB C.prog C.w) S n env.scope σ strict Zu e=some ds->Yd C k env σ strict Zu e ds:=λenv σ strict Zu e ds hf h=>
 have so:=sound HS n
 Xr h (λh=>W3 h λx p e1 h=>Zv h λa h1 h=>Y2 h λz h2 e2=>by
  have a1:=so.ev _ _ _ _ hf h1
  rw[EW h2] at a1
  rw[e1,e2]
  exact Yd.keys a1)
  λh=>QE h (λes kk pt e1 h=>G9 h (λx p1 y p2 e2 h=>Ug h λf as ks p e3 h=>W3 h λz p3 e4 h=>Zl h λhc h=>Z8 hc λhx hc=>Z8 hc λk1 g1=>Zv h λvs h1 h=>YH h λa e5 h=>Zv h λl h2 h=>Mp h λhn h=>ZW (P:=λds=>Yd C k env σ strict Zu e ds) (by
      rw[eq_of_beq hx] at g1 e4
      have a1:=so.Y3 _ _ _ _ hf h1
      rw[e5] at a1
      rw[e1,e2,e3,e4,nil_of k1]
      refine Yd.enum hf ⟨hm,hb,Gx g1⟩ a1 h2 (λqF=>?_) oD
      rw[qF] at hn
      exact Kz h2 (eq_false_of_ne_true hn)) h) nS) nS
def Sg.Hv(S:Sg)(B:YM)(n:Nat):Sg:=⟨S.cl,S.mt,S.gv,Ak B S n,Rk B S n⟩
theorem Y5.Hv  (hS:Y5 C k₀ S)(n:Nat)(hm:C.mg "enumerate"=none)(hb:C.mb "enumerate"=some (.type "enumerate")):Y5 C k₀ (S.Hv (dB C.prog C.w) n):=λk hk=>
 have K:=hS k hk
 ⟨K.cl,K.mt,K.gv,RA K n,kJ K n hm hb,K.bi,K.list,K.range,K.zip⟩
def NR(as:List AV):Option PV:=WT as λa=>(XI a).bind λi=>if i.natAbs.log2<1920 then some (.str (ZzB (toString i))) else none
def Mx(as:List AV):Option PV:=WT as λa=>(Yw a).bind λx=>if x.length<=640 then (ZuX x).map .int else none
def dn(as:List AV):Option PV:=IG as λa b=>(XI a).bind λi=>(XI b).bind λj=>some (.int (max i j))
def Sq(as:List AV):Option PV:=WT as λa=>(listOf a).bind λds=>(ds.mapM KR).bind λis=>if is≠[] then some (.int (minOf is)) else none
noncomputable def TY:List PV->Option (List oO × List PV)
 |[]=>some ([],[])
 | d::r=>match d with
   |.tup [.str x,c]=>(TY r).map λz=>(x::z.1,c::z.2)
   |_=>none
def G6(B:YM)(as:List AV):Option PV:=WT as λa=>(listOf a).bind λds=>(TY ds).bind λz=>if z.1.Nodup/\z.1.length<=Zzx then some (.box B z.1 z.2) else none
theorem Ho:∀{ds:List PV} {z:List oO × List PV},TY ds=some z->ds=Gn z.1 z.2/\z.1.length=z.2.length
 |[],z,h=>by cases h;exact⟨rfl,rfl⟩
 | d::r,z,h=>by
   unfold TY at h
   split at h
   ·exact Y2 h λz' h1 e=>by
     have ih:=Ho h1
     subst e
     exact⟨congrArg (_::·) ih.1,congrArg ZvR ih.2⟩
   ·cases h
def pH(B:YM)(cl:oO->List AV->Option PV)(x:oO)(as:List AV):Option PV:=
 if x==("str":oO) then NR as else if x==("int":oO) then Mx as else if x==("dict":oO) then G6 B as else Ys (cl x as) (if x==("max":oO) then dn as else if x==("min":oO) then Sq as else none)
def mJ(a:AV)(as:List AV):Option PV:=(Yw a).bind λx=>IG as λb c=>(Yw b).bind λy=>(Yw c).bind λz=>if (Zze x y 0 x.length (x.length+1)).isEmpty=true then some (.str x) else none
def aj(mt:oO->AV->List AV->Option PV)(name:oO)(a:AV)(as:List AV):Option PV:=if name==("replace":oO) then mJ a as else mt name a as
def Sg.more(S:Sg)(B:YM):Sg:=⟨pH B S.cl,aj S.mt,S.gv,S.xe,S.xi⟩
structure M9(C:Cx):Prop where
 miss:∀x∈([("str":oO),"int","dict","max","min"]:List oO),C.mg x=none
 str:C.mb "str"=some (.type "str")
 int:C.mb "int"=some (.type "int")
 dict:C.mb "dict"=some (.type "dict")
 max:C.mb "max"=some (.builtin "max")
 min:C.mb "min"=some (.builtin "min")
theorem Rz  (ho:(Zze x y 0 x.length (x.length+1)).isEmpty=true):ZG C k (.builtin "str.replace") [.val (.str x),.val (.str y),.val (.str z)] (.str x):=λA s Q E P vs hr hg rr hb q=>by
 obtain⟨a,b,c,rfl,ra,rb,rc⟩:=y4 rr
 obtain⟨t,rfl⟩:=Yj ra
 obtain⟨u,rfl⟩:=Yj rb
 obtain⟨v,rfl⟩:=Yj rc
 refine call_gives Zvm (typeIs_str _ _ _) F.entry_str_replace (F.args_str_replace_3 _ _ _) (gives_str_replace x y z t u v λe=>?_) ?_
 ·rw[ho] at e;cases e
 ·rw[ho];exact q _ _ (Z4 s) (Zc.mpr ⟨_,rfl⟩)
theorem LX:Vm "str" "replace" "str.replace":=⟨ZyP,Zvm,ZuV⟩
theorem Y5.more  (hS:Y5 C k₀ S)(M:M9 C):Y5 C k₀ (S.more (dB C.prog C.w)):=λk hk=>
 have K:=hS k hk
 have ms:∀x,x∈([("str":oO),"int","dict","max","min"]:List oO)->C.mg x=none:=M.miss
 ⟨λx as d h env σ p pos args hf Q6 ha hd hl=>by
  refine YQ h (λe h=>?_) λ_ h=>YQ h (λe h=>?_) λ_ h=>YQ h (λe h=>?_) λ_ h=>Xr h (λh=>K.cl x as d h env σ p pos args hf Q6 ha hd hl) λh=>YQ h (λe h=>?_) λ_ h=>Zl h λe h=>?_
  ·have e:=eq_of_beq e
   subst e
   refine YH h λa e1 h=>Zv h λi h1 h=>Zl h λhc h=>ZW (P:=λd=>Ev C k env σ _ d) ?_ h
   rw[e1,Yo (P:=λa=>a=.val (.int i)) h1 rfl] at ha
   exact Ev.N2 hf ⟨ms _ (by simp),M.str,Q6⟩ ha (Pn hc) hd
  ·have e:=eq_of_beq e
   subst e
   refine YH h λa e1 h=>Zv h λx h1 h=>Zl h λhc h=>Y2 h λi h2 e2=>?_
   rw[e1,Y7 h1] at ha
   rw[e2]
   exact Ev.N2 hf ⟨ms _ (by simp),M.int,Q6⟩ ha (Pl h2 hc) hd
  ·have e:=eq_of_beq e
   subst e
   refine YH h λa e1 h=>Zv h λds h1 h=>Zv h λz h2 h=>Zl h λhc h=>ZW (P:=λd=>Ev C k env σ _ d) ?_ h
   rw[e1] at ha
   have u:=Ho h2
   exact Ev.N2 hf ⟨ms _ (by simp),M.dict,Q6⟩ ha (ub (u.1 ▸ h1) u.2 hc.1 hc.2) hd
  ·have e:=eq_of_beq e
   subst e
   refine VJ h λa b e1 h=>Zv h λi h1 h=>Zv h λj h2 h=>ZW (P:=λd=>Ev C k env σ _ d) ?_ h
   rw[e1,Yo (P:=λa=>a=.val (.int i)) h1 rfl,Yo (P:=λa=>a=.val (.int j)) h2 rfl] at ha
   exact Ev.N3 hf ⟨ms _ (by simp),M.max,Q6⟩ ha ud hd
  ·have e:=eq_of_beq e
   subst e
   refine YH h λa e1 h=>Zv h λds h1 h=>Zv h λis h2 h=>Zl h λhc h=>ZW (P:=λd=>Ev C k env σ _ d) ?_ h
   rw[e1] at ha
   exact Ev.N3 hf ⟨ms _ (by simp),M.min,Q6⟩ ha (Ry (by rw[h1,ints_of h2]) hc) hd,
 λname a as d h env σ o apos pos args ho ha YI ZN hl=>by
  refine YQ h (λe h=>?_) λ_ h=>K.mt name a as d h env σ o apos pos args ho ha YI ZN hl
  have e:=eq_of_beq e
  subst e
  refine Zv h λx h1 h=>VJ h λb c e1 h=>Zv h λy h2 h=>Zv h λz h3 h=>Zl h λhc h=>ZW (P:=λd=>Ev C k env σ _ d) ?_ h
  rw[e1,Y7 h2,Y7 h3] at ha
  rw[Y7 h1] at ho
  exact Ev.method ho rfl LX ha (Rz hc) YI ZN hl,
 K.gv,K.xe,K.xi,K.bi,K.list,K.range,K.zip⟩
end
noncomputable def yB{α:Type}(e:Zzw)(k:Zzw->Int->Option Zzw->Pos->Option α):Option α:=@Zvk (λ_=>Option α) e (λ_ _ _=>none) (λ_ _ _=>none) (λ_ _ _ _=>none) (λ_ _ _=>none) (λ_ _ _ _=>none) (λ_ _ _ _=>none) (λ_ _ _=>none) (λ_ _ _=>none) (λ_ _ _ _=>none) (λ_ _ _ _=>none) (λ_ _ _ _ _=>none) (λ_ _ _ _=>none) (λ_ _=>none) (λ_ _=>none) (λ_ _=>none) (λ_ _ _ _=>none) (λ_ _ _ _=>none) k (λ_ _=>none) (λ_ _ _=>none) (λ_ _ _=>none) (λ_ _ _=>none) (λ_ _=>none) (λ_ _=>none) (λ_ _=>none) (λ_ _ _=>none) (λ_ _ _ _=>none)
theorem OZ  {P:Prop}   :yB e k=some r->(∀v c sp p,e=.FormattedValue v c sp p->k v c sp p=some r->P)->P:=by cases e<;>first |exact λh q=>q _ _ _ _ rfl h |exact λh _=>nS h
noncomputable def Ek{α:Type}(e:Zzw)(k:List Zzw->Pos->Option α):Option α:=@Zvk (λ_=>Option α) e (λ_ _ _=>none) (λ_ _ _=>none) (λ_ _ _ _=>none) (λ_ _ _=>none) (λ_ _ _ _=>none) (λ_ _ _ _=>none) (λ_ _ _=>none) (λ_ _ _=>none) (λ_ _ _ _=>none) (λ_ _ _ _=>none) (λ_ _ _ _ _=>none) (λ_ _ _ _=>none) (λ_ _=>none) (λ_ _=>none) (λ_ _=>none) (λ_ _ _ _=>none) (λ_ _ _ _=>none) (λ_ _ _ _=>none) k (λ_ _ _=>none) (λ_ _ _=>none) (λ_ _ _=>none) (λ_ _=>none) (λ_ _=>none) (λ_ _=>none) (λ_ _ _=>none) (λ_ _ _ _=>none)
theorem EO  {P:Prop}   :Ek e k=some r->(∀vs p,e=.JoinedStr vs p->k vs p=some r->P)->P:=by cases e<;>first |exact λh q=>q _ _ rfl h |exact λh _=>nS h
section
variable {C:Cx}{k:Nat}{σ:Zx}{env:Env}{S:Sg}{n:Nat}
theorem Ev.t7    (h:Ev C k env σ e (.str x))(hx:x.length<=Zzx):Ev C k env σ (.FormattedValue e 115 ZyW pos) (.str x):=λA s Q E P hr hg hh hb q=>by
 refine wpAny_FormattedValue_s (h A s _ _ P hr hg hh hb λv s₁ k₁ r₁=>?_)
 obtain⟨t,rfl⟩:=Zc.mp r₁
 exact habitSame_str (λt' tk=>formatField_str (λoJ Jp=>q _ _ (Zq k₁ ⟨_,Jp,rfl,λ_ _ e=>e⟩) (Zc.mpr ⟨_,rfl⟩)) hx) hx
theorem Ev.vN    (h1:Ev C k env σ e1 (.str a))(h2:Ev C k env σ e2 (.str b))(h3:Ev C k env σ e3 (.str c))(h4:Ev C k env σ e4 (.str d))(hz:(a++b++c++d).length<=Zzx):
 Ev C k env σ (.JoinedStr [e1,e2,e3,e4] pos) (.str (a++b++c++d)):=λA s Q E P hr hg hh hb q=>by
 have l3:(a++b++c).length<=Zzx:=oP (by rw[strLen_append (a++b++c)];exact Zzt _ _) hz
 have l2:(a++b).length<=Zzx:=oP (by rw[strLen_append (a++b)];exact Zzt _ _) l3
 have l1:a.length<=Zzx:=oP (by rw[strLen_append];exact Zzt _ _) l2
 refine JoinedStr_many (joinParts_cons (h1 A s _ _ P hr hg hh hb λv s₁ k₁ r₁=>?_))
 obtain⟨t1,rfl⟩:=Zc.mp r₁
 have x₁:=Zw k₁
 refine⟨by rw[ZvC];exact l1,joinParts_cons (h2 A s₁ _ _ P hr (C.ext hg x₁) (hh.ext x₁) (hb.ext x₁) λv s₂ k₂ r₂=>?_)⟩
 obtain⟨t2,rfl⟩:=Zc.mp r₂
 have x₂:=Zw k₂
 refine⟨by rw[ZvC];exact l2,joinParts_cons (h3 A s₂ _ _ P hr (C.ext (C.ext hg x₁) x₂) ((hh.ext x₁).ext x₂) ((hb.ext x₁).ext x₂) λv s₃ k₃ r₃=>?_)⟩
 obtain⟨t3,rfl⟩:=Zc.mp r₃
 have x₃:=Zw k₃
 refine⟨by rw[ZvC];exact l3,joinParts_cons (h4 A s₃ _ _ P hr (C.ext (C.ext (C.ext hg x₁) x₂) x₃) (((hh.ext x₁).ext x₂).ext x₃) (((hb.ext x₁).ext x₂).ext x₃) λv s₄ k₄ r₄=>?_)⟩
 obtain⟨t4,rfl⟩:=Zc.mp r₄
 rw[ZvC]
 exact⟨hz,joinParts_nil (q _ _ (Zq (Zq (Zq (Zq k₁ k₂) k₃) k₄) (ZZ _ _)) (Zc.mpr ⟨_,rfl⟩)) hz⟩
def WN(S:Sg)(n:Nat)(sc:Zz0)(σ:Zx)(e:Zzw):Option oO:=Ys (yB e λv c sp _=>if c=115/\sp=none then ((ev S n sc σ v).bind Yw).bind λx=>if x.length<=1000000 then some x else none else none) (((ev S n sc σ e).bind Yw).bind λx=>if x.length<=1000000 then some x else none)
def bb(S:Sg)(n:Nat)(sc:Zz0)(σ:Zx)(e:Zzw):Option AV:=Ek e λvs _=>dc vs (λe1 r=>dc r (λe2 r=>IG r λe3 e4=>(WN S n sc σ e1).bind λa=>(WN S n sc σ e2).bind λb=>(WN S n sc σ e3).bind λc=>(WN S n sc σ e4).bind λd=>some (.val (.str (a++b++c++d)))) none) none
theorem H8(so:Sound C k S n)(hf:Zt env)   (h:(ev S n env.scope σ e).bind Yw=some x):Ev C k env σ e (.str x):=Zv h λa h1 h2=>by
 have a1:=so.ev _ _ _ _ hf h1
 rw[Y7 h2] at a1
 exact a1
theorem Iy(so:Sound C k S n)(hf:Zt env)  {x:oO}(h:WN S n env.scope σ e=some x):Ev C k env σ e (.str x)/\x.length<=1000000:=
 Xr h (λh=>OZ h λv c sp p e1 h=>Zl h λhc h=>Zv h λy h1 h=>Zl h λhz h=>ZW (P:=λx=>Ev C k env σ e (.str x)/\x.length<=1000000) (by
  rw[e1,hc.1,hc.2]
  exact⟨Ev.t7 (H8 so hf h1) (oP hz oD),hz⟩) h) λh=>Zv h λy h1 h=>Zl h λhz h=>ZW (P:=λx=>Ev C k env σ e (.str x)/\x.length<=1000000) ⟨H8 so hf h1,hz⟩ h
theorem kK(HS:Xy C k S)(n:Nat):∀env σ e a,Zt env->bb S n env.scope σ e=some a->Z1 C k env σ e a:=λenv σ e a hf h=>
 have so:=sound HS n
 EO h λvs p e1 h=>KH h (λu1 r e2 h=>KH h (λu2 r e3 h=>VJ h λu3 u4 e4 h=>Zv h λa1 g1 h=>Zv h λa2 g2 h=>Zv h λa3 g3 h=>Zv h λa4 g4 h=>ZW (P:=λa=>Z1 C k env σ e a) (by
  rw[e1,e2,e3,e4]
  have p1:=Iy so hf g1
  have p2:=Iy so hf g2
  have p3:=Iy so hf g3
  have p4:=Iy so hf g4
  refine Ev.vN p1.1 p2.1 p3.1 p4.1 ?_
  rw[strLen_append,strLen_append,strLen_append,ZzS]
  exact oP (Zyy (Zyy (Zyy p1.2 p2.2) p3.2) p4.2) oD) h) nS) nS
end
open Mine.Internal.L1
noncomputable abbrev Vv:Sg:=⟨FP,IF,λ_=>none,λ_ _ _=>none,λ_ _ _ _ _=>none⟩
def Sf(B:YM):Sg:=⟨(Vv.more B).cl,(Vv.more B).mt,λ_=>none,bb (Vv.more B) 30,λ_ _ _ _ _=>none⟩
@[reducible] def Tf (B:YM):St:=⟨Sf B,[],λ_ _=>none,5⟩
def QW(x y:oO):Prop:=(Zze x y 0 x.length (x.length+1)).isEmpty=true
noncomputable def fmt(a b:oO):oO:=a++ZzB "=\""++b++ZzB "\""
section
variable {B:YM}{sc:Zz0}{σ:Zx}{n:Nat}{a b:oO}
theorem t9(h:b.length<=Zzx):(Sf B).cl "len" [.val (.str b)]=some (.int b.length):=by
 show Ys (Ul [.val (.str b)]) _=_
 rw[ID h];rfl
theorem ka  (h:QW b y):(Sf B).mt "replace" (.val (.str b)) [.val (.str y),.val (.str z)]=some (.str b):=if_pos h
theorem part1     (h:ev S 30 sc σ e=some (.val (.str x)))(hx:x.length<=1000000):WN S 30 sc σ (.FormattedValue e 115 none p)=some x:=by
 refine V9 (show (if (115:Int)=115/\(none:Option Zzw)=none then ((ev S 30 sc σ e).bind Yw).bind λx=>if x.length<=1000000 then some x else none else none)=_ from ?_)
 rw[if_pos ⟨rfl,rfl⟩,h]
 exact if_pos hx
theorem part2     (hx:x.length<=1000000):WN S 30 sc σ (.Constant (.str x) m p)=some x:=by
 refine (Uz rfl).trans ?_
 show (((ev S 30 sc σ (.Constant (.str x) m p)).bind Yw).bind λx=>if x.length<=1000000 then some x else none)=_
 rw[YR]
 exact if_pos hx
theorem rJoin    (h1:WN (Vv.more B) 30 sc σ e1=some a)(h2:WN (Vv.more B) 30 sc σ e2=some b)(h3:WN (Vv.more B) 30 sc σ e3=some c)(h4:WN (Vv.more B) 30 sc σ e4=some d):ev (Sf B) (n+1) sc σ (.JoinedStr [e1,e2,e3,e4] p)=some (.val (.str (a++b++c++d))):=by
 show ((WN (Vv.more B) 30 sc σ e1).bind λa=>(WN (Vv.more B) 30 sc σ e2).bind λb=>(WN (Vv.more B) 30 sc σ e3).bind λc=>(WN (Vv.more B) 30 sc σ e4).bind λd=>some (AV.val (.str (a++b++c++d))))=_
 rw[h1,Zzb,h2,Zzb,h3,Zzb,h4];rfl
end
theorem fC   (K:Xy C k (Vv.more (dB C.prog C.w))):Xy C k (Sf (dB C.prog C.w)):=
 ⟨K.cl,K.mt,λx d h=>nS h,kK K 30,λenv σ st Zu e ds hf h=>nS h,K.bi,K.list,K.range,K.zip⟩
def M6(body:List ZzZ):Prop:=∃(pp:Nat->Pos) (nn:Nat->Nat) (e2:Zzw) (o1 o2:List ZzZ),body=
 [.If (.BoolOp .And [.Compare (.Name "value" (pp 0)) [.IsNot] [.Constant .none (nn 0) (pp 1)] (pp 2),.Compare (.Call (.Name "len" (pp 3)) [.Name "value" (pp 4)] [] (pp 5)) [.Gt] [.Constant (.int 0) (nn 1) (pp 6)] (pp 7)] (pp 8))
  [.If (.BoolOp .Or [.Name "quote" (pp 9),e2] (pp 10))
   [.Assign [.Name "value" (pp 11)] (.Call (.Attribute (.Call (.Attribute (.Name "value" (pp 12)) "replace" (pp 13)) [.Constant (.str "\\") (nn 2) (pp 14),.Constant (.str "\\\\") (nn 3) (pp 15)] [] (pp 16)) "replace" (pp 17)) [.Constant (.str "\"") (nn 4) (pp 18),.Constant (.str "\\\"") (nn 5) (pp 19)] [] (pp 20)) (pp 21),
    .Return (some (.JoinedStr [.FormattedValue (.Name "param" (pp 22)) 115 none (pp 23),.Constant (.str "=\"") (nn 6) (pp 24),.FormattedValue (.Name "value" (pp 25)) 115 none (pp 26),.Constant (.str "\"") (nn 7) (pp 27)] (pp 28))) (pp 29)]
   o1 (pp 30)] o2 (pp 31)]/\((pp 13).endLine==(pp 16).line)=true/\((pp 17).endLine==(pp 20).line)=true
theorem gZ     (hL:M6 body)(h1:ZI sc "value"=false)(h2:ZI sc "quote"=false)(h3:ZI sc "param"=false)(h4:ZI sc "len"=true)(h5:Y0 sc "value"=true)
 (ha:a.length<=1000000) (hb:b.length<=1000000) (IS:0<b.length) (l1:QW b "\\") (l2:QW b "\""):
 ∃σ',XU (Tf B) 20 sc (Zd (λ_=>none) ["param","value","quote"] [.str a,.str b,.int 1]) body=some (.ret (.str (fmt a b)),σ'):=by
 obtain⟨pp,nn,e2,o1,o2,e,g1,g2⟩:=hL
 rw[e]
 have RW:b.length<=Zzx:=oP hb oD
 show ∃σ',XU (Tf B) 20 sc (Zx.set (Zx.set (Zx.set (λ_=>none) "param" (.val (.str a))) "value" (.val (.str b))) "quote" (.val (.int 1))) _=some (.ret (.str (fmt a b)),σ')
 have vv:∀{S:Sg} {n:Nat} {p:Pos},ev S (n+1) sc (Zx.set (Zx.set (Zx.set (λ_=>none) "param" (.val (.str a))) "value" (.val (.str b))) "quote" (.val (.int 1))) (.Name "value" p)=some (.val (.str b)):=UY (by rw[h1];rfl) (J1 oD YG)
 refine⟨_,Io (Um (GO (VL (Y1 rfl vv KD (d:=true) rfl) (VL (Y1 rfl (Yc (by rw[h4];rfl) (Yv rfl vv Xi) (t9 RW)) W4 (qH.trans (by rw[decide_eq_true (ZqE.mpr IS)]))) De)))
  (Io (Um (JN (Dr (uA rfl (UY (by rw[h2];rfl) (a:=.val (.int 1)) YG) rfl)))
   (J0 (Wa (by rw[h5];rfl) (VF (by rw[g2];rfl) (VF (by rw[g1];rfl) vv (Yv rfl YR (Yv rfl YR Xi)) (ka l1)) (Yv rfl YR (Yv rfl YR Xi)) (ka l2)))
    (Io (VM (II (rJoin (part1 (UY (by rw[h3];rfl) (J1 oD (J1 oD (J1 oD YG)))) ha) (part2 oD) (part1 (UY (by rw[h1];rfl) YG) hb) (part2 oD)) rfl)))))))⟩
structure N6(C:Cx)(sc:Zz0)(body:List ZzZ):Prop where
 jO:M6 body
 loc:ZI sc "value"=false/\ZI sc "quote"=false/\ZI sc "param"=false/\ZI sc "len"=true/\Y0 sc "value"=true
 par:Xg sc ["param","value","quote"]=true
 ex:∃f fd t,C.mg "_formatparam"=some (.ref f)/\XH C f/\Yt C f fd body/\fd.scope=sc/\∀s u v,C.G s.heap->Zxb s fd ⟨[u,v],[]⟩ ((["param","value","quote"]:List oO).zip [u,v,.int 1 t])
theorem N6.call      (H:N6 C sc body)(HS:Xy C k (Sf (dB C.prog C.w)))(ha:a.length<=1000000)(hb:b.length<=1000000)(IS:0<b.length)(l1:QW b "\\")(l2:QW b "\""):
 ∃f,C.mg "_formatparam"=some (.ref f)/\XH C f/\ZG C (k+1) (.ref f) [.val (.str a),.val (.str b)] (.str (fmt a b)):=by
 obtain⟨f,fd,t,e1,e2,D,es,WI⟩:=H.ex
 refine⟨f,e1,e2,λA s Q E P vs hr hg rr Z9 q=>?_⟩
 obtain⟨u,v,rfl,ru,rv⟩:=V0 rr
 obtain⟨σ',he⟩:=gZ (B:=dB C.prog C.w) H.jO H.loc.1 H.loc.2.1 H.loc.2.2.1 H.loc.2.2.2.1 H.loc.2.2.2.2 ha hb IS l1 l2
 have r:Zy (λ_=>True) s.heap [.str a,.str b,.int 1] [u,v,.int 1 t]:=Zy.cons ((show Rep P s.heap (.str a) u from ru).mono (λ_ _ _ _=>trivial) λ_ _ _ e=>e) (Zy.cons ((show Rep P s.heap (.str b) v from rv).mono (λ_ _ _ _=>trivial) λ_ _ _ e=>e) (Zy.one (Zf.mpr ⟨t,rfl⟩)))
 exact D.gives (es ▸ Ui H.par) rfl hr hg Z9 r (WI s u v hg) (.inl rfl) (λF FF=>⟨σ',(US (T:=Tf (dB C.prog C.w)) HS FF.s (JM _ _ F rfl) 20).2 _ _ _ _ (by rw[FF.scope,es];exact he)⟩) q
noncomputable def NH(x:oO)(b:Bool)(n:Nat)(pp:Nat->Pos)(i:Nat):Zzw:=.Call (.Attribute (.Name "self" (pp i)) "_convert_string_type" (pp (i+1))) [.Name x (pp (i+2))] [⟨some "name",.Constant (.bool b) n (pp (i+3)),pp (i+4)⟩] (pp (i+5))
noncomputable def yi(e:Zzw)(pp:Nat->Pos)(i:Nat):ZzZ:=.Expr (.Call (.Attribute (.Name "parts" (pp i)) "append" (pp (i+1))) [e] [] (pp (i+2))) (pp (i+3))
noncomputable def zG(pp:Nat->Pos)(i n m:Nat):Zzw:=.Call (.Attribute (.Name "k" (pp i)) "replace" (pp (i+1))) [.Constant (.str "_") n (pp (i+2)),.Constant (.str "-") m (pp (i+3))] [] (pp (i+4))
noncomputable def nZ(pp:Nat->Pos):ZzZ:=.Assign [.Name "parts" (pp 0)] (.List [] (pp 1)) (pp 2)
def ou(pp:Nat->Pos)(nn:Nat->Nat):List ZzZ:=[.Assign [.Name "_value" (pp 6)] (NH "_value" false (nn 1) pp 7) (pp 13),yi (.Name "_value" (pp 14)) pp 15]
def n8(pp:Nat->Pos)(nn:Nat->Nat):ZzZ:=.If (.Compare (.Name "_value" (pp 3)) [.IsNot] [.Constant .none (nn 0) (pp 4)] (pp 5)) (ou pp nn) [] (pp 19)
def n6(pp:Nat->Pos)(nn:Nat->Nat):ZzZ:=.Assign [.Name "k" (pp 27)] (NH "k" true (nn 3) pp 28) (pp 34)
def og(pp:Nat->Pos)(nn:Nat->Nat):List ZzZ:=[yi (zG pp 38 (nn 5) (nn 6)) pp 43]
def oi(pp:Nat->Pos)(nn:Nat->Nat):List ZzZ:=[.Assign [.Name "v" (pp 47)] (NH "v" false (nn 7) pp 48) (pp 54),yi (.Call (.Name "_formatparam" (pp 55)) [zG pp 56 (nn 8) (nn 9),.Name "v" (pp 61)] [] (pp 62)) pp 63]
def qT(pp:Nat->Pos)(nn:Nat->Nat):List ZzZ:=[n6 pp nn,.If (.Compare (.Name "v" (pp 35)) [.Is] [.Constant .none (nn 4) (pp 36)] (pp 37)) (og pp nn) (oi pp nn) (pp 67)]
def n9(pp:Nat->Pos)(nn:Nat->Nat):ZzZ:=.For (.Tuple [.Name "k" (pp 20),.Name "v" (pp 21)] (nn 2) (pp 22)) (.Call (.Attribute (.Name "_params" (pp 23)) "items" (pp 24)) [] [] (pp 25)) (qT pp nn) [] (pp 26)
noncomputable def n7(pp:Nat->Pos)(nn:Nat->Nat):Zzw:=.Call (.Attribute (.Constant (.str "; ") (nn 10) (pp 68)) "join" (pp 69)) [.Name "parts" (pp 70)] [] (pp 71)
def od(pp:Nat->Pos)(nn:Nat->Nat):ZzZ:=.Expr (.Call (.Attribute (.Attribute (.Name "self" (pp 72)) "_headers" (pp 73)) "append" (pp 74)) [.Tuple [NH "_name" true (nn 11) pp 75,n7 pp nn] (nn 12) (pp 81)] [] (pp 82)) (pp 83)
noncomputable def K8(pp:Nat->Pos):Bool:=([(8,12),(16,17),(29,33),(39,42),(44,45),(49,53),(57,60),(64,65),(24,25),(69,71),(74,82),(76,80)]:List (Nat × Nat)).all λx=>(pp x.1).endLine==(pp x.2).line
def FZ(body:List ZzZ):Prop:=∃(pp:Nat->Pos) (nn:Nat->Nat),body=[nZ pp,n8 pp nn,n9 pp nn,od pp nn]/\K8 pp=true
def KC:oO × Option oO->oO
 |(x,none)=>Zyd x "_" "-"
 |(x,some t)=>fmt (Zyd x "_" "-") t
structure JW(p:oO × Option oO):Prop where
 ok:Xe p.1
 len:p.1.length<=1000
 mQ:(Zyd p.1 "_" "-").length<=1000000
 val:∀t,p.2=some t->Xe t/\t.length<=1000000/\0<t.length/\QW t "\\"/\QW t "\""
structure JO(C:Cx)(c N:Zzq)(mN:oO->Option Zzy)(k2 k3:Option Zzy)(sf sc:Zz0)(fb:List ZzZ):Prop extends HdOK2 C c N mN k2 k3 where
 fmt:N6 C sf fb
 sf:Y5 C 0 (Sf (dB C.prog C.w))
 loc:locs sc ["self","_name","_value","_params","parts","k","v"]=true
 kf:sc.names.lookup ("_formatparam":oO)=some .globalImplicit
section
variable {n₀:Nat}{C:Cx}{k:Nat}{F:Ye}{σ:Zx}{c N:Zzq}{mN:oO->Option Zzy}{k2 k3:Option Zzy}{sf sc:Zz0}{fb:List ZzZ}{pp:Nat->Pos}{nn:Nat->Nat}{l:List PV}
theorem Wm(h:K8 pp=true)  (m:(i,j)∈([(8,12),(16,17),(29,33),(39,42),(44,45),(49,53),(57,60),(64,65),(24,25),(69,71),(74,82),(76,80)]:List (Nat × Nat))):((pp i).endLine==(pp j).line)=true:=ZzD.mp h _ m
structure VV(C:Cx)(σ:Zx)(d:PV)(nm:oO)(ps:List (oO × Option oO))(parts:List oO):Prop where
 self:σ "self"=some (.val d)
 name:σ "_name"=some (.val (.str nm))
 Ac:σ "_params"=some (.val (.box (dB C.prog C.w) (ps.map (·.1)) (ps.map λp=>Yy p.2)))
 parts:σ "parts"=some (.own (parts.map .str))
theorem VV.set    {parts:List oO}(a:VV C σ d nm ps parts)   (h1:("self":oO)≠x)(h2:("_name":oO)≠x)(h3:("_params":oO)≠x)(h4:("parts":oO)≠x):VV C (σ.set x v) d nm ps parts:=
 ⟨(Zx.Xd h1).trans a.self,(Zx.Xd h2).trans a.name,(Zx.Xd h3).trans a.Ac,(Zx.Xd h4).trans a.parts⟩
theorem VV.add    {parts:List oO}(a:VV C σ d nm ps parts)(t:oO):VV C (σ.set "parts" (.own (parts.map .str++[.str t]))) d nm ps (parts++[t]):=
 ⟨(Zx.Xd oD).trans a.self,(Zx.Xd oD).trans a.name,(Zx.Xd oD).trans a.Ac,Zx.WR.trans (by rw[Zz9];rfl)⟩
theorem N1(H:JO C c N mN k2 k3 sf sc fb)(hF:XT F)      (hs:σ "self"=some (.val (.box (Vf c xd d b') [] l)))(hx:σ x=some (.val (.str t)))(hn:Yl x=true)(ht:Xe t)(hl:((pp (i+1)).endLine==(pp (i+5)).line)=true):
 Ev C (k+1) F.env σ (NH x b n pp i) (.str t):=Ev.conv H.toHdOK hF.Z3 (Ev.cX (Z1.name hF.Z3 hs oD oD)) hx hn ht hl
theorem SY(hF:XT F)    {nm t:oO}   (a:VV C σ d nm ps parts)(h:I8 n₀ C k F.env σ.flat e (.str t))(hsz:parts.length<=Zzx)(hl:((pp (i+1)).endLine==(pp (i+2)).line)=true)(Xk:notStar e=true):
 ∃σ',YO n₀ C k F σ (exec (yi e pp i) F.env) .Z2 σ'/\VV C σ' d nm ps (parts++[t]):=⟨_,YO.append hF.Z3 a.parts h (by rw[Zzm];exact hsz) oD hl Xk,a.add t⟩
theorem Iq  (h:σ x=some (.val (.str t))):σ.flat x=some (.val (.str t)):=Ad h qG
theorem u9(KA:1<=n₀)(H:JO C c N mN k2 k3 sf sc fb)(hF:XT F)(Jz:F.env.scope=sc)(hl:K8 pp=true)  (hp:JW p)   {ps:List (oO × Option oO)}  (a:VV C σ (.box (Vf c xd d b') [] l) nm ps parts)(hsz:parts.length<=Zzx):
 ∃σ',YO n₀ C (k+2) F ((σ.set "k" (.val (.str p.1))).set "v" (.val (Yy p.2))) (execs (qT pp nn) F.env) .Z2 σ'/\VV C σ' (.box (Vf c xd d b') [] l) nm ps (parts++[KC p]):=by
 obtain⟨x,o⟩:=p
 have st:∀y,y∈(["self","_name","_value","_params","parts","k","v"]:List oO)->ZS F.env F.cs y:=λy m=>X3 hF (Jz ▸ (K6 H.loc m).2)
 have a1:VV C ((σ.set "k" (.val (.str x))).set "v" (.val (Yy o))) (.box (Vf c xd d b') [] l) nm ps parts:=(a.set oD oD oD oD).set oD oD oD oD
 have eW:((σ.set "k" (.val (.str x))).set "v" (.val (Yy o))) "k"=some (.val (.str x)):=(Zx.Xd oD).trans Zx.WR
 have e1:YO n₀ C (k+2) F ((σ.set "k" (.val (.str x))).set "v" (.val (Yy o))) (exec (n6 pp nn) F.env) .Z2 _:=(Ex.assign hF.Z3 (st "k" (by simp)) (N1 (k:=k+1) H hF a1.self eW oD hp.ok (Wm hl oD)) rfl).t
 have a2:=a1.set (x:="k") (v:=.val (.str x)) oD oD oD oD
 have eY:(((σ.set "k" (.val (.str x))).set "v" (.val (Yy o))).set "k" (.val (.str x))) "k"=some (.val (.str x)):=Zx.WR
 have qd:(((σ.set "k" (.val (.str x))).set "v" (.val (Yy o))).set "k" (.val (.str x))) "v"=some (.val (Yy o)):=(Zx.Xd oD).trans Zx.WR
 have rp:∀{τ:Zx} {i n m:Nat},τ "k"=some (.val (.str x))->((pp (i+1)).endLine==(pp (i+4)).line)=true->I8 n₀ C (k+2) F.env τ (zG pp i n m) (.str (Zyd x "_" "-")):=λhk UU=>
  I8.replace KA (Z1.name hF.Z3 hk oD oD) oD (oP hp.len oD) oD rfl UU
 cases o with
 | none=>
   obtain⟨σ3,e3,a3⟩:=SY (k:=k+2) (i:=43) hF a2 (rp (i:=38) (Iq eY) (Wm hl oD)) hsz (Wm hl oD) rfl
   exact⟨σ3,e1.cons (YO.cons (YO.ite (YV.cmp (Z1.name hF.Z3 qd oD oD) Ev.none (ZA.is_none rfl) rfl) (λ_=>e3.cons YO.nil) (λq=>nomatch q)) YO.nil),a3⟩
 | some t=>
   obtain⟨hv,hlen,h0,la,lb⟩:=hp.val t rfl
   obtain⟨f,g1,g2,g3⟩:=H.fmt.call (k:=k+1) (H.sf _ (Zz3 _)) hp.mQ hlen h0 la lb
   have e4:YO n₀ C (k+2) F _ (exec (.Assign [.Name "v" (pp 47)] (NH "v" false (nn 7) pp 48) (pp 54)) F.env) .Z2 _:=(Ex.assign hF.Z3 (st "v" (by simp)) (N1 (k:=k+1) H hF a2.self qd oD hv (Wm hl oD)) rfl).t
   have a4:=a2.set (x:="v") (v:=.val (.str t)) oD oD oD oD
   have eZ:((((σ.set "k" (.val (.str x))).set "v" (.val (.str t))).set "k" (.val (.str x))).set "v" (.val (.str t))) "k"=some (.val (.str x)):=(Zx.Xd oD).trans Zx.WR
   have rI:((((σ.set "k" (.val (.str x))).set "v" (.val (.str t))).set "k" (.val (.str x))).set "v" (.val (.str t))) "v"=some (.val (.str t)):=Zx.WR
   have ec:I8 n₀ C (k+2) F.env ((((σ.set "k" (.val (.str x))).set "v" (.val (.str t))).set "k" (.val (.str x))).set "v" (.val (.str t))).flat (.Call (.Name "_formatparam" (pp 55)) [zG pp 56 (nn 8) (nn 9),.Name "v" (pp 61)] [] (pp 62)) (.str (fmt (Zyd x "_" "-") t)):=
    I8.call2 hF.Z3 ⟨g1,by unfold ZuM;rw[Jz];exact H.kf⟩ g2 (rp (i:=56) (Iq eZ) (Wm hl oD)) (Z1.name hF.Z3 (Iq rI) oD oD) rfl rfl g3 oD
   obtain⟨σ3,e3,a3⟩:=SY (k:=k+2) (i:=63) hF a4 ec hsz (Wm hl oD) rfl
   exact⟨σ3,e1.cons (YO.cons (YO.ite (YV.cmp (Z1.name hF.Z3 qd oD oD) Ev.none (ZA.is_none rfl) rfl) (λq=>nomatch q) (λ_=>e4.cons (e3.cons YO.nil))) YO.nil),a3⟩
theorem Tt(H:JO C c N mN k2 k3 sf sc fb)(hF:XT F)(Jz:F.env.scope=sc)(hl:K8 pp=true)   :∀(qs:List (oO × Option oO)) {σ:Zx} {parts:List oO},(qs≠[]->1<=n₀)->(∀p∈qs,JW p)->VV C σ (.box (Vf c xd d b') [] l) nm ps parts->parts.length+qs.length<=Zzx->
 ∃σ',Mc n₀ C (k+2) F (.Tuple [.Name "k" (pp 20),.Name "v" (pp 21)] (nn 2) (pp 22)) (qT pp nn) (Gn (qs.map (·.1)) (qs.map λp=>Yy p.2)) σ σ'/\VV C σ' (.box (Vf c xd d b') [] l) nm ps (parts++qs.map KC)
 |[],σ,parts,KA,hq,a,hsz=>⟨σ,rfl,by rw[Zxw,ZyZ];exact a⟩
 | q::qs,σ,parts,KA,hq,a,hsz=>by
   obtain⟨σ1,e1,a1⟩:=u9 (k:=k) (nn:=nn) (KA (ZqI _ _)) H hF Jz hl (hq q (.head _)) a (oP (Zzt _ _) hsz)
   obtain⟨σ2,e2,a2⟩:=Tt H hF Jz hl qs (λ_=>KA (ZqI _ _)) (λp m=>hq p (.tail _ m)) a1 (by rw[Zzd,Zyw] at *;simp at *;rw[Zyq];exact hsz)
   refine⟨σ2,⟨[.str q.1,Yy q.2],σ1,rfl,e1,e2⟩,?_⟩
   rw[Zzo] at a2
   exact a2
end
theorem mX  {d1 d2 d3 d4:PV}:Zd (λ_=>none) [w,x,y,z] [d1,d2,d3,d4]=Zx.set (Zx.set (Zx.set (Zx.set (λ_=>none) w (.val d1)) x (.val d2)) y (.val d3)) z (.val d4):=rfl
noncomputable def D0:Option oO->List oO
 |none=>[]
 |some t=>[t]
section
variable {C:Cx}{k:Nat}{A:ZzH}{E:Zzy->Zzu->Prop}{s:Zzu}{c N:Zzq}{mN:oO->Option Zzy}{k2 k3:Option Zzy}{sf sc:Zz0}{fb:List ZzZ}
theorem uZ      (H:JO C c N mN k2 k3 sf sc fb)(hF:XT F)(Jz:F.env.scope=sc)(hl:K8 pp=true)  (hv:∀t,val=some t->Xe t)
 (a:VV C σ (.box (Vf c xd d b') [] l) nm ps []) (ha:σ "_value"=some (.val (Yy val))):∃σ',YO n₀ C (k+2) F σ (exec (n8 pp nn) F.env) .Z2 σ'/\VV C σ' (.box (Vf c xd d b') [] l) nm ps (D0 val):=by
 cases val with
 |none=>exact⟨σ,YO.ite (YV.cmp (Z1.name hF.Z3 ha oD oD) Ev.none (ZA.isNot_none rfl) rfl) (λq=>nomatch q) (λ_=>YO.nil),a⟩
 | some t=>
   have st:ZS F.env F.cs "_value":=X3 hF (Jz ▸ (K6 H.loc (by simp)).2)
   have e1:YO n₀ C (k+2) F σ (exec (.Assign [.Name "_value" (pp 6)] (NH "_value" false (nn 1) pp 7) (pp 13)) F.env) .Z2 _:=(Ex.assign hF.Z3 st (N1 (k:=k+1) H hF a.self ha oD (hv t rfl) (Wm hl oD)) rfl).t
   have a1:=a.set (x:="_value") (v:=.val (.str t)) oD oD oD oD
   obtain⟨σ2,e2,a2⟩:=SY (k:=k+2) (pp:=pp) (i:=15) hF a1 (Ev.t (Z1.name hF.Z3 (x:="_value") (pos:=pp 14) (Iq Zx.WR) oD oD)) (Zz3 _) (Wm hl oD) rfl
   exact⟨σ2,YO.ite (YV.cmp (Z1.name hF.Z3 ha oD oD) Ev.none (ZA.isNot_none rfl) rfl) (λ_=>e1.cons (e2.cons YO.nil)) (λq=>nomatch q),a2⟩
set_option maxHeartbeats 2000000 in
theorem uY        {ps:List (oO × Option oO)}      (H:JO C c N mN k2 k3 sf sc fb)
 (D:Yt C f fd body) (hs:fd.scope=sc) (hL:FZ body) (hp:Xg sc ["self","_name","_value","_params"]=true) (hr:ZH (k+3) A) (hg:C.G s.heap) (T:TabAt s.heap c x d b vs) (r:Zy (λ_=>True) s.heap (pairs l) vs) (NJ:l.length<=Zzx)
 (hU:Xe nm) (hv:∀t,val=some t->Xe t) (rv:Rep (λ_=>True) s.heap (Yy val) v) (rk:Zy (λ_=>True) s.heap (ps.map λp=>Yy p.2) (ks.map (·.2))) (I7:ks.map (·.1)=ps.map (·.1)) (KL:CB fd ks) (hn:(ks.map (·.1)).Nodup) (rL:∀p∈ps,JW p)
 (hsz:1+ps.length<=Zzx) (hj:Zvg "; " (D0 val++ps.map KC)=true)
 (q:∀s₁ u w h' ws n,ZzK s s₁->s.heap.get? b=some { cls:=.type "list",data:=.seq ws n }->s₁.heap.get? s₁.heap.objs.size=none->Zxi b (s₁.heap.push { cls:=.type "tuple",data:=.seq #[.str nm u,.str (Zy4 "; " (D0 val++ps.map KC)) w] }) h'->
  h'.PlainList b (ws.push (.ref s₁.heap.objs.size))->Q .none { s₁ with heap:=h' }):wpAny C.M A (call (.ref f) [.ref x,.str nm t1,v] ks) Q E s:=by
 obtain⟨pp,nn,eb,hl⟩:=hL
 have hlen:ps.length=ks.length:=by have:=congrArg ZyQ I7;simpa using this.symm
 have ra:Zy (λ_=>True) s.heap [.box (Vf c x d b) [] (pairs l),.str nm,Yy val] [.ref x,.str nm t1,v]:=Zy.cons ⟨vs,⟨rfl,trivial,trivial,trivial,T⟩,r⟩ (Zy.cons (Zc.mpr ⟨_,rfl⟩) (Zy.one rv))
 refine D.gW (hs ▸ Ui hp) (A5 hr) hg ra rk KL hn λF M s₀ s₁ E' FF I d7 ok n₁=>?_
 have hF:=FF.s
 have Jz:F.env.scope=sc:=FF.scope.trans hs
 have FC:ZH (k+2) (A.deeper F.env):=ZH.deeper hr
 rw[I7] at I
 rw[eb]
 have st:∀y,y∈(["self","_name","_value","_params","parts","k","v"]:List oO)->ZS F.env F.cs y:=λy m=>X3 hF (Jz ▸ (K6 H.loc m).2)
 have i1:∀{τ:Zx},τ=Zd (λ_=>none) ["self","_name","_value","_params"] [.box (Vf c x d b) [] (pairs l),.str nm,Yy val,.box (dB C.prog C.w) (ps.map (·.1)) (ps.map λp=>Yy p.2)]->τ "_value"=some (.val (Yy val))/\VV C (τ.set "parts" (.own [])) (.box (Vf c x d b) [] (pairs l)) nm ps []:=λe=>by
  rw[e,mX]
  refine⟨(Zx.Xd oD).trans Zx.WR,?_,?_,?_,Zx.WR⟩
  ·exact (Zx.Xd oD).trans ((Zx.Xd oD).trans ((Zx.Xd oD).trans ((Zx.Xd oD).trans Zx.WR)))
  ·exact (Zx.Xd oD).trans ((Zx.Xd oD).trans ((Zx.Xd oD).trans Zx.WR))
  ·exact (Zx.Xd oD).trans Zx.WR
 generalize hσ:Zd (λ_=>none) ["self","_name","_value","_params"] [.box (Vf c x d b) [] (pairs l),.str nm,Yy val,.box (dB C.prog C.w) (ps.map (·.1)) (ps.map λp=>Yy p.2)]=σ at I
 obtain⟨j1,j2⟩:=i1 hσ.symm
 have e1:YO ks.length C (k+2) F σ (exec (nZ pp) F.env) .Z2 (σ.set "parts" (.own [])):=(Ex.QP hF.Z3 (st "parts" (by simp)) (Wj.list (ds:=[]) ZQ.nil (Zz3 _)) rfl).t
 obtain⟨σ2,e2,a2⟩:=uZ (n₀:=ks.length) (k:=k) (nn:=nn) H hF Jz hl hv j2 ((Zx.Xd oD).trans j1)
 obtain⟨σ3,e3,a3⟩:=Tt (k:=k) (nn:=nn) (n₀:=ks.length) H hF Jz hl (ps:=ps) ps (λq=>hlen ▸ Zqw.mpr q) rL a2 (oP (Zzg (by cases val<;>simp [D0]) _) hsz)
 have ef:YO ks.length C (k+2) F σ2 (exec (n9 pp nn) F.env) .Z2 σ3:=YO.for hF.Z3.kind (λy m=>st y (by
  have m:y∈(["k","v"]:List oO):=m
  rcases ZzN.mp m with rfl |m
  ·simp
  ·rw[Zz5.mp m];simp)) (Yd.items (Z1.name hF.Z3 a2.Ac oD oD) rfl (Wm hl oD)) e3 (λ_=>rfl)
 refine wpAny_execs_cons (e1 _ _ _ s₁ _ _ n₁ FC I λfl M2 s2 n2 eC I2 rm=>?_)
 rw[Wu eC]
 refine wpAny_execs_cons (e2 _ _ _ s2 _ _ n2 FC I2 λfl M3 s3 n3 eD I3 rf=>?_)
 rw[Wu eD]
 refine wpAny_execs_cons (ef _ _ _ s3 _ _ n3 FC I3 λfl M4 s4 n4 eF I4 rg=>?_)
 rw[Wu eF]
 have aU:ZzK s s4:=Zq d7 (((ok.trans rm).trans rf).trans rg).keeps
 have jn:Ev C (k+2) F.env σ3 (n7 pp nn) (.str (Zy4 "; " (D0 val++ps.map KC))):=
  Ev.method (Z1.val Ev.str) rfl Er (ZQ.cons (Z1.name hF.Z3 a3.parts oD oD) ZQ.nil) (Td (.inr rfl) hj) rfl (Wm hl oD) (show 1<29 by decide)
 refine wpAny_execs_cons (BE (k:=k+2) H.cls hF.Z3 FC I4 a3.self (N1 (k:=k+1) H hF a3.self a3.name oD hU (Wm hl oD)) jn rfl rfl (Wm hl oD) (Iu hF.Z3) ((Zzm _).symm ▸ NJ) λs5 u w h' ws n k5 RW KV zT qn=>?_)
 obtain⟨br,n0,e0,_⟩:=T.list
 exact wpAny_execs_nil (q s5 u w h' ws n (Zq aU k5) (by rw[<-RW,Zw aU _ _ e0];exact e0) KV zT qn)
end
noncomputable def Mn:PV->Option (oO × oO)
 |.tup [.str a,.str b]=>some (a,b)
 |_=>none
def UM(l:List PV):Option (List (oO × oO)):=l.mapM Mn
theorem EI   (h:Mn d=some a):d=.tup [.str a.1,.str a.2]:=by
 cases d with
 | tup l=>
   rcases l with _ |⟨x,_ |⟨y,_ |⟨z,w⟩⟩⟩
   ·exact nS h
   ·cases x<;>exact nS h
   ·cases x<;>first |exact nS h |(cases y<;>first |exact nS h |(cases h;rfl))
   ·cases x<;>first |exact nS h |(cases y<;>exact nS h)
 |_=>exact nS h
theorem CA   (h:UM l=some q):l=pairs q:=BL (g:=λ(x:oO × oO)=>PV.tup [.str x.1,.str x.2]) (λd a e=>EI e) h
theorem IY(q:List (oO × oO)):UM (pairs q)=some q:=by
 induction q with
 |nil=>rfl
 |cons x q ih=>exact Zx3.trans (by rw[show List.mapM Mn (List.map _ q)=some q from ih];rfl)
noncomputable def N4:AV->Option (Zzq × List PV)
 |.tab c l=>some (c,l)
 |.own _=>none
 |.val _=>none
theorem Le    (h:N4 a=some (c,l)):a=.tab c l:=by cases a<;>cases h;rfl
def DY(C:Cx)(k:Nat)(env:Env)(σ:Zx):List Zwc->List (oO × PV)->Prop
 |[],ds=>ds=[]
 |kw::r,ds=>∃x e p d rest,kw=⟨some x,e,p⟩/\ds=(x,d)::rest/\Ev C k env σ e d/\DY C k env σ r rest
section
variable {C:Cx}{k:Nat}{A:ZzH}{E:Zzy->Zzu->Prop}{s:Zzu}{env:Env}{σ:Zx}
theorem DY.names :∀{WZ:List Zwc} {ds:List (oO × PV)},DY C k env σ WZ ds->(backToKw pos (keywordEach WZ env)).filterMap (·.1)=ds.map (·.1)/\(backToKw pos (keywordEach WZ env)).all (·.1.isSome)=true/\WZ.length=ds.length
 |[],ds,h=>by cases (h:ds=[]);exact⟨rfl,rfl,rfl⟩
 | kw::r,ds,h=>by
   obtain⟨x,e,p,d,rest,rfl,rfl,_,h2⟩:=h
   have ih:=h2.names (pos:=pos)
   exact⟨congrArg (x::·) ih.1,ih.2.1,congrArg ZvR ih.2.2⟩
theorem DY.eval :∀{WZ:List Zwc} {ds:List (oO × PV)},DY C k env σ WZ ds->∀{A s E P} {Q:List Zzy->Zzu->Prop},ZH k A->C.G s.heap->Wq P env σ s.heap->ZM P s.heap->
 (∀vs s',ZzK s s'->Zy P s'.heap (ds.map (·.2)) vs->Q vs s')->wpAny C.M A (evalAll ((backToKw pos (keywordEach WZ env)).map (·.2))) Q E s
 | [],ds,h,A,s,E,P,Q,hr,hg,hh,hb,q=>by
   cases (h:ds=[])
   exact wpAny_evalAll_nil (q [] s (Z4 s) Zy.nil)
 | kw::r,ds,h,A,s,E,P,Q,hr,hg,hh,hb,q=>by
   obtain⟨x,e,p,d,rest,rfl,rfl,h1,h2⟩:=h
   refine wpAny_evalAll_cons (Zzz (h1 A s _ _ P hr hg hh hb λv s₁ k₁ r₁=>Zzz (ZxK (Zzi ?_))))
   have x₁:=Zw k₁
   exact h2.eval (pos:=pos) hr (C.ext hg x₁) (hh.ext x₁) (hb.ext x₁) λvs s₂ k₂ r₂=>q _ s₂ (Zq k₁ k₂) (Zy.cons (r₁.ext (Zw k₂)) r₂)
end
structure N7(C:Cx)(mN:oO->Option Zzy)(sc:Zz0):Prop where
 ex:∃f fd body pq,W0 C mN "add_header" f/\Yt C f fd body/\fd.scope=sc/\FZ body/\fd.params=UE pq/\fd.defaults=.none
 par:Xg sc ["self","_name","_value","_params"]=true
def PD(ns:List oO):Prop:=ns=[]∨ns=(["read_from","read_size"]:List oO)∨ns=(["read_from","read_size","lapping"]:List oO)
theorem zW    (hp:fd.params=UE pq)(hd:fd.defaults=.none)(h:PD (ks.map (·.1))):CB fd ks:=λa b c=>by
 rcases h with h |h |h
 ·cases ks with
  |nil=>exact (c6 hp hd).trans rfl
  |cons _ _=>cases h
 ·obtain⟨⟨n1,u⟩,r1,rfl,h1,h⟩:=ZxH.mp h
  obtain⟨⟨n2,v⟩,r2,rfl,h2,h⟩:=ZxH.mp h
  cases Zw6.mp h
  cases (show n1=_ from h1)
  cases (show n2=_ from h2)
  exact ct hp hd
 ·obtain⟨⟨n1,u⟩,r1,rfl,h1,h⟩:=ZxH.mp h
  obtain⟨⟨n2,v⟩,r2,rfl,h2,h⟩:=ZxH.mp h
  obtain⟨⟨n3,w⟩,r3,rfl,h3,h⟩:=ZxH.mp h
  cases Zw6.mp h
  cases (show n1=_ from h1)
  cases (show n2=_ from h2)
  cases (show n3=_ from h3)
  exact cb hp hd
theorem OL  (h:PD ns):ns.Nodup:=by
 rcases h with rfl |rfl |rfl
 ·exact Zv8
 ·decide
 ·decide
def V1(val:Option oO)(ps:List (oO × Option oO)):oO:=Zy4 "; " (D0 val++ps.map KC)
structure U2(l:List (oO × oO))(nm:oO)(val:Option oO)(ps:List (oO × Option oO)):Prop where
 len:l.length<=Zzx
 name:Xe nm
 zI:∀t,val=some t->Xe t
 Ac:∀p∈ps,JW p
 few:PD (ps.map (·.1))
 join:Zvg "; " (D0 val++ps.map KC)=true
theorem U2.sz     (h:U2 l nm val ps):1+ps.length<=Zzx:=by
 have:ps.length<=3:=by
  have e:ps.length=(ps.map (·.1)).length:=(Zzm _).symm
  rw[e]
  rcases h.few with h |h |h<;>rw[h]<;>decide
 rw[ZzS];exact oP (Zzr this 1) oD
section
variable {C:Cx}{k:Nat}{F:Ye}{N M:Zzq->Prop}{σ:Zx}{s s₁:Zzu}{A:ZzH}{E:Zzy->Zzu->Prop}{c Nc:Zzq}{mN:oO->Option Zzy}{k2 k3:Option Zzy}{sf sc:Zz0}{fb:List ZzZ}
theorem Pe(H:JO C c Nc mN k2 k3 sf sc fb)     (D:Yt C f fd body) (hs:fd.scope=sc) (hL:FZ body) (qc:fd.params=UE pq) (yz:fd.defaults=.none) (hp:Xg sc ["self","_name","_value","_params"]=true)
             (hr:ZH (k+3) A) (I:Inv C F N M σ s.heap) (hx:σ x=some (.tab c (pairs l)))
 (ff:Jk F N M σ s.heap ow) (gg:UB σ ow) (lv:Loc F.env s.heap x (.ref a)) (how:ow x=[a,d,b]) (T:TabAt s.heap c a d b vs) (ra:Zy (YB F.base M) s.heap (pairs l) vs) (L:U2 l nm val ps)
 (rv:Rep (λ_=>True) s.heap (Yy val) v) (rk:Zy (λ_=>True) s.heap (ps.map λp=>Yy p.2) (ks.map (·.2))) (I7:ks.map (·.1)=ps.map (·.1))
 (q:∀s',Inv C F N M (σ.set x (.tab c (pairs (l++[(nm,V1 val ps)])))) s'.heap->Zo N M s M s'->Q .none s'):wpAny C.M A (call (.ref f) [.ref a,.str nm t1,v] ks) Q E s:=by
 have mb:=(ff x _ hx rfl).2 b (how ▸ .tail _ (.tail _ (.head _)))
 refine uY (k:=k) (l:=l) (ps:=ps) H D hs hL hp hr I.G T (ra.mono (λ_ _ _ _=>trivial) λ_ _ _ e=>e) L.len L.name L.zI rv rk I7 (zW qc yz (I7 ▸ L.few)) (I7 ▸ OL L.few) L.Ac L.sz L.join λs₄ u w h' ws n k₄ RW KV zT qn=>?_
 have x₄:=Zw k₄
 have xp:ZY s.heap (s₄.heap.push { cls:=.type "tuple",data:=.seq #[.str nm u,.str (V1 val ps) w] }):=λb o e=>Zzj _ (x₄ b o e)
 obtain⟨n',rP⟩:=qn
 obtain⟨br,n0,e0,rfl⟩:=T.list
 cases RW.symm.trans e0
 have fP:YB F.base M s₄.heap.objs.size:=⟨λm=>(I.alive _ m).elim λo e=>nS (KV.symm.trans (x₄ _ _ e)),ZD (λb o e=>x₄ b o (I.ext b o e)) KV⟩
 refine q { s₄ with heap:=h' } ((I.keeps xp).v7 hx (ff.keeps xp) gg (lv.ext λb o e=>xp b o e) how (T.at λa o _ e=>xp a o e) zT rP ?_) ⟨(XQ.of_keeps k₄).trans ⟨h',s₄.toks,rfl⟩,λb' o nb e=>(zT.2 b' λq=>?_).trans (xp b' o e),λb m=>.inl m⟩
 ·rw[ZxG,L9]
  exact (ra.ext xp).append (Zy.one (YA.mpr ⟨s₄.heap.objs.size,#[.str nm u,.str (V1 val ps) w],0,rfl,fP,Zzl _ rfl,Zy.cons (Zc.mpr ⟨_,rfl⟩) (Zy.one (Zc.mpr ⟨_,rfl⟩))⟩))
 ·subst q
  exact nb.elim (λnb=>nb mb.1) mb.2.1
theorem MH     (r:Rep P h (Yy o) v):Rep (λ_=>True) h' (Yy o) v:=by
 cases o<;>exact r
theorem A8  :∀{ps:List (oO × Option oO)} {vs:List Zzy},Zy P h (ps.map λp=>Yy p.2) vs->Zy (λ_=>True) h' (ps.map λp=>Yy p.2) vs
 |[],vs,r=>r
 | p::ps,vs,r=>by
   obtain⟨v,w,rfl,r1,r2⟩:=r
   exact Zy.cons (MH r1) (A8 r2)
theorem Bq(H:JO C c Nc mN k2 k3 sf sc fb)(D:N7 C mN sc)          (hf:Zt F.env)(hr:ZH (k+3) A)(I:Inv C F N M σ s.heap)
 (hx:σ x=some (.tab c (pairs l))) (Rr:Yl x=true) (h1:Ev C (k+3) F.env σ.flat e1 (.str nm)) (h2:Ev C (k+3) F.env σ.flat e2 (Yy val)) (n1:notStar e1=true) (n2:notStar e2=true) (hk:DY C (k+3) F.env σ.flat WZ (ps.map λp=>(p.1,Yy p.2))) (ZN:(p3.endLine==p5.line)=true)
 (L:U2 l nm val ps) (q:∀s',Inv C F N M (σ.set x (.tab c (pairs (l++[(nm,V1 val ps)])))) s'.heap->Zo N M s M s'->Q .none s'):
 wpAny C.M A (eval (.Call (.Attribute (.Name x p1) "add_header" p3) [e1,e2] WZ p5) F.env) Q E s:=by
 obtain⟨f,fd,body,pq,hm,hD,hs,hL,qc,yz⟩:=D.ex
 obtain⟨of,ng,g1,g2,g3⟩:=hm.fn
 obtain⟨y,hB⟩:=hm.no
 have ha:ZQ C (k+3) F.env σ.flat [e1,e2] [.val (.str nm),.val (Yy val)]:=ZQ.cons h1 (ZQ.cons h2 ZQ.nil (X4 n2)) (X4 n1)
 have nk:=hk.names (pos:=p5)
 have lk:WZ.length<=3:=by
  rw[nk.2.2,Zzm,<-Zzm (f:=λp:oO × Option oO=>p.1)]
  rcases L.few with h |h |h<;>rw[h]<;>decide
 have Ri:Zyf [e1,e2] F.env=[(false,eval e1 F.env),(false,eval e2 F.env)]:=(X4 n1).trans (congrArg _ (X4 n2))
 obtain⟨ow,ff,gg⟩:=I.own
 obtain⟨⟨v,lv,TT⟩,mm⟩:=ff x _ hx rfl
 obtain⟨a,d,b,how,rfl,vs,T,ra⟩:=TT
 refine JD H.cls rfl ?_ ZN hm.is g1 g2 hm.ne hB ?_
 ·unfold methodCallForm
  rw[nk.2.1,Ri]
  refine Zyb.mpr ⟨rfl,decide_eq_true ?_⟩
  show 2+WZ.length+(if _ then 0 else 1)<30
  split<;>exact Zz4 (Zzg (Zzr lk 2) _) oD
 refine wpAny_Name (XS hf.kind lv (Yz Rr).2 ?_) (Yz Rr).1
 refine⟨a,d,b,vs,rfl,T,I.G,?_⟩
 have NF:backTo p5 (Zyf [e1,e2] F.env)=(false,eval e1 F.env)::[(false,eval e2 F.env)]:=by rw[Ri];rfl
 rw[NF]
 refine callWith_function_kw (o:=of) (fd:=ng) (evalArgs_kw nk.2.1 ?_)
 rw[<-NF]
 refine ha.spliced hr I.G I.Vx I.Ww λus s₁ k₁ r₁=>?_
 have x₁:=Zw k₁
 have I₁:Inv C F N M σ s₁.heap:=I.keeps x₁
 refine hk.eval hr I₁.G I₁.Vx I₁.Ww λws s₂ k₂ r₂=>?_
 have x₂:=Zw k₂
 have I₂:Inv C F N M σ s₂.heap:=I₁.keeps x₂
 refine⟨⟨g1 _ I₂.G,g3⟩,?_⟩
 obtain⟨u1,u2,rfl,sJ,sQ⟩:=V0 r₁
 obtain⟨t1,rfl⟩:=Yj sJ
 have T₂:TabAt s₂.heap c a d b vs:=T.at λa o _ e=>x₂ _ _ (x₁ a o e)
 have er:(ps.map λp=>(p.1,Yy p.2)).map (·.2)=ps.map λp=>Yy p.2:=by rw[ZyD];rfl
 have en:(ps.map λp=>(p.1,Yy p.2)).map (·.1)=ps.map (·.1):=by rw[ZyD];rfl
 rw[er] at r₂
 rw[nk.1,en]
 have lw:(ps.map (·.1)).length=ws.length:=by rw[Zzm,r₂.length,Zzm]
 have z1:((ps.map (·.1)).zip ws).map (·.1)=ps.map (·.1):=ZqQ (Zya lw)
 have z2:((ps.map (·.1)).zip ws).map (·.2)=ws:=List.map_snd_zip (Zya lw.symm)
 exact Pe H hD hs hL qc yz D.par hr I₂ hx (ff.keeps λb o e=>x₂ _ _ (x₁ b o e)) gg (lv.ext λb o e=>x₂ _ _ (x₁ b o e)) how T₂ ((ra.ext x₁).ext x₂) L (MH (show Rep _ _ (Yy val) u2 from sQ)) (z2.symm ▸ A8 r₂) z1 λs' I' ok=>q s' I' (Zo.after k₁ (Zo.after k₂ ok))
end
section
variable {C:Cx}{k:Nat}{F:Ye}{N M:Zzq->Prop}{σ:Zx}{s s₁ s₄:Zzu}{A:ZzH}{E:Zzy->Zzu->Prop}{ow:List Zzq}
theorem Zo.unres  (ks:ZzK s s₁)(new:∀b∈ow,s.heap.get? b=none)(ok:Zo (λb=>N b∨b∈ow) (λb=>M b∨b∈ow) s₁ M' s₄):Zo N M s M' s₄:=by
 obtain⟨h1,t1,rfl,x1⟩:=ks
 obtain⟨h4,t4,rfl⟩:=ok.same
 refine⟨⟨h4,t4,rfl⟩,λb o n e=>?_,λb m=>?_⟩
 ·have nr:¬b∈ow:=λm=>by rw[new b m] at e;cases e
  exact ok.kept b o (n.elim (λn=>.inl λm=>m.elim n nr) λn=>.inr (.inl n)) (x1 b o e)
 ·exact (ok.new b m).elim (λm=>m.elim .inl λm=>.inr (new b m)) λm=>.inr (ZD x1 m)
theorem LS      (hf:F.env.scope.kind=.function)(hx:ZS F.env F.cs x)(hy:ZS F.env F.cs y)(hz:ZS F.env F.cs z)(I:Inv C F N M σ s.heap)(ks:ZzK s s₁)(new:∀b∈ow,s.heap.get? b=none)(i3:XY a3=true)
 (T:Thing (λb=>YB F.base M b/\b∉ow) s₁.heap v3 a3 ow) (q:∀M' s',Inv C F N M' (((σ.set x (.val (.str a))).set y (.val (.str b))).set z a3) s'.heap->Zo N M s M' s'->Q () s'):Stores C A F.env Q E [x,y,z] [.str a t1,.str b t2,v3] s₁:=by
 have I₁:=I.UL (λb=>b∈ow) (Zw ks) new T.lives
 have nN:∀b∈ow,¬N b:=λb m n=>by
  obtain⟨o,e⟩:=I.alive b (I.pin b n)
  rw[new b m] at e;cases e
 have T1:=T.mono (h':=s₁.heap) (P':=YB F.base (λb=>M b∨b∈ow)) (λ_ _ _ e=>e) (λb o _ p=>⟨λm=>m.elim p.1.1 p.2,p.1.2⟩) λ_ _ _ e=>e
 refine WD hf hx I₁ (d:=.str a) (Zc.mpr ⟨_,rfl⟩) λs₂ I₂ QX=>?_
 have T2:=T1.mono (h':=s₂.heap) (λb o m e=>QX.kept b o (.inr (.inr m)) e) (λ_ _ _ p=>p) λb o p e=>QX.kept b o (.inl p.1) e
 refine WD hf hy I₂ (d:=.str b) (Zc.mpr ⟨_,rfl⟩) λs₃ I₃ Wb=>?_
 have T3:=T2.mono (h':=s₃.heap) (λb o m e=>Wb.kept b o (.inr (.inr m)) e) (λ_ _ _ p=>p) λb o p e=>Wb.kept b o (.inl p.1) e
 exact WC hf hz I₃ (N₂:=N) (λb n=>.inl n) (λb m=>⟨.inr m,nN b m⟩) (.inr ⟨i3,T3⟩) λs₄ I₄ Sv _=>q _ s₄ I₄ (Zo.unres ks new ((QX.trans Wb).trans Sv))
theorem L7      (hf:F.env.scope.kind=.function)(hx:ZS F.env F.cs x)(hy:ZS F.env F.cs y)(hz:ZS F.env F.cs z)(QO:x≠y)(qi:x≠z)(Rh:y≠z)(I:Inv C F N M σ s.heap)(ks:ZzK s s₁)(new:∀b∈ow,s.heap.get? b=none)(i3:XY a3=true)
 (T:Thing (λb=>YB F.base M b/\b∉ow) s₁.heap v3 a3 ow) (q:∀M' s',Inv C F N M' (((σ.set x (.val (.str a))).set y (.val (.str b))).set z a3) s'.heap->Zo N M s M' s'->Q () s'):Stores C A F.env Q E [z,y,x] [v3,.str b t2,.str a t1] s₁:=by
 have I₁:=I.UL (λb=>b∈ow) (Zw ks) new T.lives
 have nN:∀b∈ow,¬N b:=λb m n=>by
  obtain⟨o,e⟩:=I.alive b (I.pin b n)
  rw[new b m] at e;cases e
 have T1:=T.mono (h':=s₁.heap) (P':=YB F.base (λb=>M b∨b∈ow)) (λ_ _ _ e=>e) (λb o _ p=>⟨λm=>m.elim p.1.1 p.2,p.1.2⟩) λ_ _ _ e=>e
 refine WC hf hz I₁ (N₂:=N) (λb n=>.inl n) (λb m=>⟨.inr m,nN b m⟩) (.inr ⟨i3,T1⟩) λs₂ I₂ QX _=>?_
 refine WD hf hy I₂ (d:=.str b) (Zc.mpr ⟨_,rfl⟩) λs₃ I₃ Wb=>?_
 refine WD hf hx I₃ (d:=.str a) (Zc.mpr ⟨_,rfl⟩) λs₄ I₄ Sv=>q _ s₄ ?_ ((Zo.unres ks new QX).trans (Wb.trans Sv))
 rw[VT QO,VT qi,VT Rh] at I₄
 exact I₄
theorem Ex.vY      (hf:Zt F.env)(hx:ZS F.env F.cs x)(hy:ZS F.env F.cs y)(hz:ZS F.env F.cs z)(QO:x≠y)(qi:x≠z)(Rh:y≠z)(h1:Ev C k F.env σ.flat e1 (.str a))(h2:Ev C k F.env σ.flat e2 (.str b))(h3:Wj C k F.env σ.flat e3 a3)
 (n1:notStar e1=true) (r8:notStar e2=true) (n3:notStar e3=true) (hs:swapsWithSole [.Tuple [.Name x p1,.Name y p2,.Name z p3] n tp] (.Tuple [e1,e2,e3] n2 Ck) pos.line F.env=pure false)
 (ho:Vy [.Name x p1,.Name y p2,.Name z p3] (.Tuple [e1,e2,e3] n2 Ck)=true):
 Ex C k F σ (exec (.Assign [.Tuple [.Name x p1,.Name y p2,.Name z p3] n tp] (.Tuple [e1,e2,e3] n2 Ck) pos) F.env) .Z2 (((σ.set x (.val (.str a))).set y (.val (.str b))).set z a3):=λN M A s Q E hr I q=>by
 have ev:∀Q':Zzy->Zzu->Prop,(∀tv t1 t2 v3 ow s₁,ZzK s s₁->(∀b∈ow,s.heap.get? b=none)->
  Thing (λb=>YB F.base M b/\b∉ow) s₁.heap v3 a3 ow->s₁.heap.get? tv=some { cls:=.type "tuple",data:=.seq #[.str a t1,.str b t2,v3] }->Q' (.ref tv) s₁)->wpAny C.M A (eval (.Tuple [e1,e2,e3] n2 Ck) F.env) Q' E s:=by
  intro Q' q'
  show wpAny C.M A (do standAt Ck;newTuple (<-spliced (backTo Ck (Zyf [e1,e2,e3] F.env)))) _ E _
  refine Zzz (ZxK (Zzz ?_))
  refine Zyp (h1 A s _ _ (YB F.base M) hr I.G I.Vx I.Ww λv1 s₁ k₁ r1=>?_) (X4 n1)
  have x₁:=Zw k₁
  have I₁:=I.keeps x₁
  refine Zyp (h2 A s₁ _ _ (YB F.base M) hr I₁.G I₁.Vx I₁.Ww λv2 s₂ k₂ r2=>?_) (X4 r8)
  have x₂:=Zw k₂
  have I₂:=I₁.keeps x₂
  refine Zyp (h3.2 A s₂ _ _ (YB F.base M) hr I₂.G I₂.Vx I₂.Ww λv3 ow s₃ k₃ new T=>?_) (X4 n3)
  refine Zxc (wpAny_newTuple ?_ (by show 3<=Zzx;decide))
  obtain⟨t1,rfl⟩:=Zc.mp r1
  obtain⟨t2,rfl⟩:=Zc.mp r2
  have xp:ZY s₃.heap (s₃.heap.push { cls:=.type "tuple",data:=.seq #[.str a t1,.str b t2,v3] }):=λ_ _ e=>Zzj _ e
  exact q' _ t1 t2 v3 ow _ (Zq (Zq (Zq k₁ k₂) k₃) (X1 _ _)) (λb m=>ZD x₁ (ZD x₂ (new b m))) (T.mono (λb o _ e=>xp _ _ e) (λ_ _ _ p=>p) λb o _ e=>xp _ _ e) (Zzl _ rfl)
 rcases MQ (tp:=tp) (kk:=n) (env:=F.env) ho with hw |hw
 ·refine Assign_Tuple (ev _ λtv t1 t2 v3 ow s₁ k₁ new T et=>?_) hs hw
  refine wpAny_assign_Tuple hr.handled (Wx et) rfl rfl λh' J7=>Ej (C:=C) ?_
  have k₂:ZzK s₁ { s₁ with heap:=h' }:=⟨h',s₁.toks,rfl,λb o e=>J7 b o (ZzR (ZzU e)) e⟩
  exact LS hf.kind hx hy hz I (Zq k₁ k₂) new h3.1 (T.mono (λb o _ e=>Zw k₂ _ _ e) (λ_ _ _ p=>p) λb o _ e=>Zw k₂ _ _ e) λM' s' I' ok=>q _ M' s' trivial I' ok
 ·refine ZuC (ev _ λtv t1 t2 v3 ow s₁ k₁ new T et=>?_) hs hw
  refine wpAny_unpackItems_tuple (items:=#[.str a t1,.str b t2,v3]) hr.handled (Wx et) λh' J7=>HJ (C:=C) ?_
  have k₂:ZzK s₁ { s₁ with heap:=h' }:=⟨h',s₁.toks,rfl,λb o e=>J7 b o (ZzR (ZzU e)) e⟩
  exact L7 hf.kind hx hy hz QO qi Rh I (Zq k₁ k₂) new h3.1 (T.mono (λb o _ e=>Zw k₂ _ _ e) (λ_ _ _ p=>p) λb o _ e=>Zw k₂ _ _ e) λM' s' I' ok=>q _ M' s' trivial I' ok
end
noncomputable def QJ(a:AV):Option (Option oO):=match a with
 |.val d=>(match d with |.str t=>some (some t) |.none=>some none |_=>none)
 |_=>none
theorem zY   (h:QJ a=some o):a=.val (Yy o):=by
 cases a with
 |val d=>cases d<;>first |exact nS h |(cases h;rfl)
 |_=>exact nS h
section
variable (c:Zzq)(ow:List oO)(S:Sg)(n:Nat)(sc:Zz0)(σ:Zx)
noncomputable def Cf:List Zwc->Option (List (oO × Option oO))
 |[]=>some []
 |kw::r=>kw.arg.bind λx=>((ev S n sc σ kw.value).bind QJ).bind λv=>(Cf r).map ((x,v)::·)
def me(t e:Zzw):Option (Z7 × Zx):=VQ t λx _=>Jg e λf as ks _=>VQ f λh _=>
 if (as.isEmpty&&(ks.isEmpty&&(h==("Headers":oO)&&(Y0 sc x&&ZI sc h))))=true then some (.Z2,σ.set x (.tab c [])) else none
def sX(t e:Zzw):Option (Z7 × Zx):=KQ t (λes _ _=>qL es (λx y z=>yD e λvs _ _=>dc vs (λe1 vs=>IG vs λe2 e3=>yC e3 λl _=>
 if ((Y0 sc x&&(Y0 sc y&&(Y0 sc z&&(Qg [x,y,z]&&(ow.contains z&&(notStar e1&&(notStar e2&&Vy es e))))))))=true then ((ev S n sc σ.flat e1).bind Yw).bind λa=>((ev S n sc σ.flat e2).bind Yw).bind λb=>(Y3 S n sc σ.flat l).bind λas=>(as.mapM AV.ZC).bind λds=>
  if ds.length<=Zzx then some (.Z2,((σ.set x (.val (.str a))).set y (.val (.str b))).set z (.own ds)) else none else none) none) none) none
def fG(e:Zzw):Option (Z7 × Zx):=Jg e λf as WZ cpos=>CK f λo m apos=>VQ o λx _=>IG as λe1 e2=>
 if (m==("add_header":oO)&&(Yl x&&(notStar e1&&(notStar e2&&apos.endLine==cpos.line))))=true then ((σ x).bind N4).bind λtb=>(UM tb.2).bind λq=>((ev S n sc σ.flat e1).bind Yw).bind λnm=>((ev S n sc σ.flat e2).bind QJ).bind λval=>(Cf S n sc σ.flat WZ).bind λps=>
  if tb.1=c/\U2 q nm val ps then some (.Z2,σ.set x (.tab c (pairs (q++[(nm,V1 val ps)])))) else none else none
def Rg(st:ZzZ):Option (Z7 × Zx):=PI st (λts e _=>WT ts λt=>Ys (me c sc σ t e) (sX ow S n sc σ t e)) λe _=>fG c S n sc σ e
end
section
variable {C:Cx}{k:Nat}{F:Ye}{σ:Zx}{c Nc:Zzq}{mN:oO->Option Zzy}{k2 k3:Option Zzy}{sf bA:Zz0}{fb:List ZzZ}{S:Sg}{n:Nat}{ow:List oO}{env:Env}
theorem Mm(so:Sound C k S n)(hf:Zt env)   (h:(ev S n env.scope σ e).bind Yw=some x):Ev C k env σ e (.str x):=Zv h λa h1 h2=>by
 have a1:=so.ev _ _ _ _ hf h1
 rw[Y7 h2] at a1
 exact a1
theorem RR(so:Sound C k S n)(hf:Zt env)   (h:(ev S n env.scope σ e).bind QJ=some x):Ev C k env σ e (Yy x):=Zv h λa h1 h2=>by
 have a1:=so.ev _ _ _ _ hf h1
 rw[zY h2] at a1
 exact a1
theorem Ee(so:Sound C k S n)(hf:Zt env):∀{WZ:List Zwc} {ps:List (oO × Option oO)},Cf S n env.scope σ WZ=some ps->DY C k env σ WZ (ps.map λp=>(p.1,Yy p.2))
 |[],ps,h=>by cases h;exact rfl
 | ⟨nm,e,p⟩::r,ps,h=>Zv h λx e1 h=>Zv h λv e2 h=>Y2 h λrest e5 e6=>by
   rw[e6]
   exact⟨x,e,p,Yy v,rest.map λp=>(p.1,Yy p.2),by rw[show nm=some x from e1],rfl,RR so hf e2,Ee so hf e5⟩
theorem iw(H:Fi C c Nc mN k2 k3)(HA:JO C c Nc mN k2 k3 sf bA fb)(D:N7 C mN bA)(HS:Xy C (k+3) S)  (hT:T.sp=Rg c ow S n F.env.scope)(hF:XT F):B8 C (k+3) T F:=by
 intro σ st af σ' h
 rw[hT] at h
 have so:=sound HS n
 refine wK h (λts e pos es h=>YH h λt e1 h=>Xr h (λh=>?_) λh=>?_) λe pos es h=>?_
 ·refine W3 h λx p e2 h=>Ug h λf as ks cp e3 h=>W3 h λy p2 e4 h=>Zl h λhc h=>Z8 hc λh1 hc=>Z8 hc λh2 hc=>Z8 hc λh3 hc=>Z8 hc λh4 h5=>?_
  have h:=Zq9 (Zzv h)
  rw[eq_of_beq h3] at h5 e4
  rw[es,e1,e2,e3,e4,nil_of h1,nil_of h2,<-h.1,<-h.2]
  exact Ex.QP hF.Z3 (X3 hF h4) (Wj.headers H hF.Z3 (Gx h5)) rfl
 ·refine QE h (λoQ kk tp e2 h=>EY h (λx p1 y p2 z p3 e3 h=>O8 h λvs n2 Ck e4 h=>KH h (λv1 W6 e5 h=>VJ h λv2 v3 e6 h=>O9 h λl lp e7 h=>Zl h λhc h=>Z8 hc λhx hc=>Z8 hc λhy hc=>Z8 hc λhz hc=>Z8 hc λAn hc=>Z8 hc λhw hc=>Z8 hc λg1 hc=>Z8 hc λg2 ho=>
   Zv h λa a1 h=>Zv h λb a2 h=>Zv h λas a3 h=>Zv h λds a4 h=>Zl h λhsz h=>?_) nS) nS) nS
  have h:=Zq9 (Zzv h)
  rw[e3,e4,e5,e6,e7] at ho
  rw[es,e1,e2,e3,e4,e5,e6,e7,<-h.1,<-h.2]
  have nd:=Ef An
  exact Ex.vY hF.Z3 (X3 hF hx) (X3 hF hy) (X3 hF hz) nd.1 nd.2.1 nd.2.2 (Mm so hF.Z3 a1) (Mm so hF.Z3 a2) (Wj.list (GF a4 ▸ so.Y3 _ _ _ _ hF.Z3 a3) hsz) g1 g2 rfl (MD rfl) ho
 ·refine Ug h λf as WZ cpos e1 h=>GQ h λo m apos e2 h=>W3 h λx p e3 h=>VJ h λv1 v2 e4 h=>Zl h λhc h=>Z8 hc λhm hc=>Z8 hc λhx hc=>Z8 hc λg1 hc=>Z8 hc λg2 hl=>Zv h λtb a1 h=>Zv h λq a2 h=>Zv h λnm a3 h=>Zv h λval a4 h=>Zv h λps a5 h=>Zl h λhL h=>?_
  have h:=Zq9 (Zzv h)
  rw[es,e1,e2,e3,e4,eq_of_beq hm,<-h.1,<-h.2]
  have rG:σ x=some (.tab c (pairs q)):=Zv a1 λu b1 b2=>by rw[b1,Le (c:=tb.1) (l:=tb.2) b2,hL.1,CA a2]
  intro N M A s Q E hr I qq
  have i1:Ev C (k+3) F.env σ.flat v1 (.str nm):=Mm so hF.Z3 a3
  have i2:Ev C (k+3) F.env σ.flat v2 (Yy val):=RR so hF.Z3 a4
  refine wpAny_Expr (Bq HA D hF.Z3 hr I rG hx i1 i2 g1 g2 (Ee so hF.Z3 a5) hl hL.2 λs' I' ok=>qq _ _ _ trivial I' ok) (Iu hF.Z3) rfl
end
section
variable {prog:ZxW}{w:Zzk}{A:ZzH}{E:Zzy->Zzu->Prop}{h:Zza}{g:Array ZqG}{d:List Nat}{t:Nat}{os:Zz8}{x C f:Zzq}{B:String}
theorem EF   (hu:A.units<cLine)(X:s.heap.OwnSpecial x C f B "__str__")
 (hq:wpAny (model prog w) A (call (.ref f) [.ref x]) (StrBack Q) E s):wpAny (model prog w) A (Zul (.ref x)) Q E s:=by
 unfold Zul
 rw[show Zju (.ref x)=false from rfl]
 refine Zzz (m:=PySem.cRoomFor _ _) (wpAny_cRoomFor hu ?_)
 obtain⟨hh,g,dr,t,os⟩:=s
 refine Zzz (m:=callSpecial? (.ref x) (ZzB "__str__")) (wpAny_callSpecial?_own X (ZzC hq (λr s' hr=>?_) λ_ _ y=>y))
 cases r<;>first |exact hr.elim |exact Zzi hr
theorem wb   (hu:A.in1.in1.units<cLine)(X:s.heap.OwnSpecial x C f B "__str__")
 (hq:wpAny (model prog w) A.in1.in1 (call (.ref f) [.ref x]) (StrBack Q) E s):wpAny (model prog w) A (call (.type "str") [.ref x]) Q E s:=by
 refine callType_codes (T:="str") (Bi:=Zwv.«object.__init__») (Q₁:=λr s₁=>∃y u,r=.str y u/\Q r s₁) ZvV (PySem.F.typeCall_str_1 _) PySem.F.entry_object_init ?_ ?_
 ·refine codeAny_of_tree ?_
  show wpAny _ A.in1.in1 (do checkBuiltinCall "str.__new__" ⟨[.type "str",.ref x],[]⟩;again (.builtin "str.__new__" ⟨[.type "str",.ref x],[]⟩)) _ _ s
  refine Zzz (wpAny_of_eq (PySem.F.newCall_str_1 _) (Zzi ⟨plainId_quiet (by decide +kernel) _,codeAny_builtin PySem.F.entry_str_new ?_⟩))
  rw[ZxL (by decide +kernel) _]
  rw[str_new_tree]
  refine Zzz (Zzi ?_)
  refine Zzz (wpAny_of_eq isSubtype_str_str ?_)
  refine Zzz (ZzC (EF hu X (Q:=λr s₁=>∃y u,r=.str y u/\Q r s₁) (ZzC hq (λr s₁ hr=>?_) λ_ _ y=>y)) (λr s₁ hr=>Zzi hr) λ_ _ y=>y)
  cases r<;>first |exact hr.elim |exact⟨_,_,rfl,hr⟩
 ·rintro obj s₁ ⟨y,u,rfl,hq⟩
  exact⟨typeIs_str _ _ _,PySem.F.args_object_init_2 _ _,object_init_meets ZvV.init.lookup ZvV.made oD prog w A.in1 _ s₁ ⟨typeIs_str _ _ _,rfl,hq⟩⟩
end
noncomputable def We(x:oO × oO):oO:=x.1++ZzB ": "++x.2
def WB(l:List (oO × oO)):List oO:=l.map We++([ZzB "",ZzB ""]:List oO)
def X0(l:List (oO × oO)):oO:=Zy4 "\r\n" (WB l)
structure Jb(l:List (oO × oO)):Prop where
 len:l.length+2<=Zzx
 each:∀x∈l,x.1.length<=1000000/\x.2.length<=1000000
 join:Zvg "\r\n" (WB l)=true
def BW(body:List ZzZ):Prop:=∃(pp:Nat->Pos) (nn:Nat->Nat) (scope:Zz0),body=
 [.Return (some (.Call (.Attribute (.Constant (.str "\r\n") (nn 0) (pp 0)) "join" (pp 1)) [.BinOp (.ListComp (.BinOp (.Constant (.str "%s: %s") (nn 1) (pp 2)) .Mod (.Name "kv" (pp 3)) (pp 4)) [⟨.Name "kv" (pp 5),.Attribute (.Name "self" (pp 6)) "_headers" (pp 7),[],0⟩] scope (pp 8)) .Add
  (.List [.Constant (.str "") (nn 2) (pp 9),.Constant (.str "") (nn 3) (pp 10)] (pp 11)) (pp 12)] [] (pp 13))) (pp 14)]/\((pp 1).endLine==(pp 13).line)=true/\Qf scope (.Name "kv" (pp 5))=true/\(∀sc:Zz0,∀σ:Zx,Vb scope sc σ=true)/\∀sc:Zz0,ZI (XC scope sc) "kv"=false
def JR(B:YM)(c:Zzq):Sg:=⟨FP,IF,λ_=>none,λsc σ e=>Ys (zJ c σ e) (Ak B Vv 30 sc σ e),λ_ _ _ _ _=>none⟩
@[reducible] def Oq (B:YM)(c:Zzq):St:=⟨JR B c,[],λ_ _=>none,5⟩
theorem wa      (hL:BW body)(h1:ZI sc "self"=false)(hl:Jb l):
 ∃σ',XU (Oq B c) 20 sc (Zd (λ_=>none) ["self"] [.box (Y6 c) [] (pairs l)]) body=some (.ret (.str (X0 l)),σ'):=by
 obtain⟨pp,nn,scope,e,g1,g2,g3,g4⟩:=hL
 rw[e]
 show ∃σ',XU (Oq B c) 20 sc (Zx.set (λ_=>none) "self" (.val (.box (Y6 c) [] (pairs l)))) _=some (.ret (.str (X0 l)),σ')
 generalize hσ:Zx.set (λ_=>none) "self" (.val (.box (Y6 c) [] (pairs l)))=σ
 have s0:σ "self"=some (.val (.box (Y6 c) [] (pairs l))):=hσ ▸ YG
 have hh:∀{n:Nat} {p q:Pos},ev (JR B c) (n+1) sc σ (.Attribute (.Name "self" p) "_headers" q)=some (.val (.lst (pairs l))):=λ{n p q}=>by
  show Ys (if ("_headers":oO)=("_headers":oO)/\Yl "self"=true then ((σ "self").bind (D9 c)).map (λl=>AV.val (.lst l)) else none) _=_
  rw[if_pos ⟨rfl,by decide⟩,s0,Zzb,Ta]
  rfl
 have hc:∀{n:Nat},ev (JR B c) (n+10) sc σ (.ListComp (.BinOp (.Constant (.str "%s: %s") (nn 1) (pp 2)) .Mod (.Name "kv" (pp 3)) (pp 4)) [⟨.Name "kv" (pp 5),.Attribute (.Name "self" (pp 6)) "_headers" (pp 7),[],0⟩] scope (pp 8))=some (.val (.lst ((l.map We).map .str))):=λ{n}=>by
  rw[Ce (S:=JR B c) (n:=n+9) (f:=λx:oO × oO=>.tup [.str x.1,.str x.2]) (l:=l) (λx=>.str (We x)) g2 (g3 _ _) rfl (show Y4 (JR B c) (n+9) sc σ false (.Name "kv" (pp 5)) (.Attribute (.Name "self" (pp 6)) "_headers" (pp 7))=some (l.map λx=>PV.tup [.str x.1,.str x.2]) from V9 (show Up (JR B c) (n+8) sc σ false (.Attribute (.Name "self" (pp 6)) "_headers" (pp 7))=_ from Jv hh rfl)) (oP (Zzt _ 2) hl.len) λx hx=>?_,ZyD]
  ·rfl
  ·refine Un (y:=.str (We x)) ?_
   generalize hτ:(Ut scope σ).set "kv" (.val (.tup [.str x.1,.str x.2]))=τ
   have nm:∀{S:Sg} {m:Nat},ev S (m+1) (XC scope sc) τ (.Name "kv" (pp 3))=some (.val (.tup [.str x.1,.str x.2])):=UY (by rw[g4];rfl) (hτ ▸ YG)
   have em:TG (.val (.str "%s: %s")) (.val (.tup [.str x.1,.str x.2]))=some (.str (We x)):=by
    show (if x.1.length<=1000000/\x.2.length<=1000000 then _ else none)=_
    rw[if_pos (hl.each x hx),if_pos rfl];rfl
   have e:ev (JR B c) (n+8) (XC scope sc) τ (.BinOp (.Constant (.str "%s: %s") (nn 1) (pp 2)) .Mod (.Name "kv" (pp 3)) (pp 4))=Ys ((ev (JR B c) (n+7) (XC scope sc) τ (.Constant (.str "%s: %s") (nn 1) (pp 2))).bind λa=>(ev (JR B c) (n+7) (XC scope sc) τ (.Name "kv" (pp 3))).bind λb=>(YS .Mod a b).map .val)
    (Ys (zJ c τ (.BinOp (.Constant (.str "%s: %s") (nn 1) (pp 2)) .Mod (.Name "kv" (pp 3)) (pp 4))) (Ak B Vv 30 (XC scope sc) τ (.BinOp (.Constant (.str "%s: %s") (nn 1) (pp 2)) .Mod (.Name "kv" (pp 3)) (pp 4)))):=rfl
   rw[e,YR,Zzb,nm,Zzb]
   refine (Uz rfl).trans ((Uz rfl).trans (V9 (show (if true=true then (ev Vv 30 (XC scope sc) τ (.Constant (.str "%s: %s") (nn 1) (pp 2))).bind λa=>(ev Vv 30 (XC scope sc) τ (.Name "kv" (pp 3))).bind λb=>(TG a b).map AV.val else none)=_ from ?_)))
   rw[if_pos rfl,YR,Zzb,nm,Zzb,em];rfl
 have ha:YS .Add (.val (.lst ((l.map We).map .str))) (.val (.lst [.str "",.str ""]))=some (.lst ((WB l).map .str)):=by
  show (if ((l.map We).map PV.str).length+2<=Zzx then some (PV.lst _) else none)=_
  rw[if_pos (by rw[Zzm,Zzm];exact hl.len)]
  unfold WB
  rw[Zz9];rfl
 have hj:IF "join" (.val (.str "\r\n")) [.val (.lst ((WB l).map .str))]=some (.str (X0 l)):=by
  have em:∀ys:List oO,(ys.map PV.str).mapM U0=some ys:=λys=>by
   induction ys with
   |nil=>rfl
   |cons y ys ih=>rw[ZzG,Zx3,ih];rfl
  show ((((WB l).map PV.str).mapM U0).bind λys=>if Zvg "\r\n" ys=true then some (PV.str (Zy4 "\r\n" ys)) else none)=_
  rw[em,Zzb,if_pos hl.join];rfl
 exact⟨σ,Io (VM (II (VF (by rw[g1];rfl) YR (Yv rfl (X9 hc (UI (VO rfl YR (VO rfl YR Jo)) rfl) ha) Xi) hj) rfl))⟩
structure Jc(C:Cx)(mN:oO->Option Zzy):Prop where
 ex:∃sc body,VB C mN "__str__" sc body ["self"] 1 [] []/\BW body/\locs sc ["self"]=true/\Xg sc ["self"]=true
section
variable {C:Cx}{k:Nat}{c N:Zzq}{mN:oO->Option Zzy}{k2 k3:Option Zzy}
theorem wo(H:HdOK C c N mN k2 k3)(K:Xy C (k+1) Vv):Xy C (k+1) (JR (dB C.prog C.w) c):=
 ⟨K.cl,K.mt,K.gv,λenv σ e a hf h=>Xr h (λh=>RB H hf h) λh=>RA K 30 env σ e a hf h,λenv σ st Zu e ds hf h=>nS h,K.bi,K.list,K.range,K.zip⟩
theorem Jc.call(H:HdOK2 C c N mN k2 k3)(D:Jc C mN)  (hl:Jb l):∃f,W0 C mN "__str__" f/\ZG C (k+2) (.ref f) [.val (.box (Y6 c) [] (pairs l))] (.str (X0 l)):=by
 obtain⟨sc,body,hD,hL,Am,hp⟩:=D.ex
 obtain⟨σ',he⟩:=wa (B:=dB C.prog C.w) (c:=c) hL (K6 Am (.head _)).1 hl
 obtain⟨f,h1,h2⟩:=hD.call (k:=k+1) (as:=[.val (.box (Y6 c) [] (pairs l))]) (RQ:=[]) (af:=.ret (.str (X0 l))) (d:=.str (X0 l)) hp rfl rfl (λP h=>Zy.nil) (.inl rfl) λF hs hF=>
  ⟨σ',(US (T:=Oq (dB C.prog C.w) c) (wo H.toHdOK (H.sg _ (Zz3 _))) hF (JM _ _ F rfl) 20).2 _ _ _ _ (by rw[hs];exact he)⟩
 exact⟨f,h1,h2.nil⟩
theorem iP:∃y,typeLookup (.type "object") "__str__"=pure y:=⟨some (.builtin "object.__str__"),by rw[Zyn,ZzF];kernel_rfl⟩
theorem Jc.gB(H:HdOK2 C c N mN k2 k3)(D:Jc C mN)  (hl:Jb l):ZG C (k+3) (.type "str") [.tab c (pairs l)] (.str (X0 l)):=λA s Q E P vs hr hg r hb q=>by
 obtain⟨f,hm,hc⟩:=D.call (k:=k) H hl
 obtain⟨v,rfl,r1⟩:=XK r
 have WI:Rep (λ_=>True) s.heap (.box (Y6 c) [] (pairs l)) v:=r1.pv
 refine CD WI λws x d b e' _ _ _ T _=>?_
 subst e'
 obtain⟨of,fd,g1,g2,g3⟩:=hm.fn
 obtain⟨y,hB⟩:=iP
 have X:s.heap.OwnSpecial x c f "object" "__str__":=⟨_,of,_,_,N,_,_,_,_,_,_,_,_,_,_,_,_,_,_,mN,y,T.inst,rfl,H.cls.obj _ hg,H.cls.ns _ hg,hm.is,g1 _ hg,g2,ZuW,hB⟩
 have u1:=hr.units
 refine wb (hr.low (oD:2<=16)) X ?_
 refine hc A.in1.in1 _ _ _ (λ_=>True) [.ref x] (hr.of hr.handled (ZxT _) (Zzr (oD:2<=16) _)) hg ⟨_,_,rfl,WI,rfl⟩ (λ_ n=>absurd trivial n) λw s' ks Ci=>?_
 obtain⟨u,rfl⟩:=Zc.mp Ci
 exact q _ _ ks (Zc.mpr ⟨_,rfl⟩)
def Dm(c:Zzq)(cl:oO->List AV->Option PV)(x:oO)(as:List AV):Option PV:=Ys (cl x as) (if (x==("str":oO))=true then WT as λa=>(N4 a).bind λtb=>(UM tb.2).bind λq=>if tb.1=c/\Jb q then some (.str (X0 q)) else none else none)
theorem Y5.str(H:HdOK2 C c N mN k2 k3)(D:Jc C mN)   (hS:Y5 C k₀ S)(hm:C.mg "str"=none)(hb:C.mb "str"=some (.type "str")):Y5 C (k₀+3) ⟨Dm c S.cl,S.mt,S.gv,S.xe,S.xi⟩:=λk hk=>by
 obtain⟨k',rfl⟩:∃k',k=k'+3:=⟨k-3,(Zxn (oP (ZzV 3 k₀) hk)).symm⟩
 have K:=hS (k'+3) (oP (Zzt _ _) hk)
 refine⟨λx as d h env σ p pos args hf Q6 ha hd hl=>?_,K.mt,K.gv,K.xe,K.xi,K.bi,K.list,K.range,K.zip⟩
 refine Xr h (λh=>K.cl x as d h env σ p pos args hf Q6 ha hd hl) λh=>Zl h λe h=>YH h λa e1 h=>Zv h λtb e2 h=>Zv h λq e3 h=>Zl h λhc h=>ZW (P:=λd=>Ev C (k'+3) env σ _ d) ?_ h
 rw[eq_of_beq e] at Q6 hd ⊢
 rw[e1,Le (c:=tb.1) (l:=tb.2) e2,hc.1,CA e3] at ha
 exact Ev.N2 hf ⟨hm,hb,Q6⟩ ha (D.gB (k:=k') H hc.2) hd
end
end Mine.Internal
end
section
open PySem PySem.W PyProof.Rows
namespace Mine.Internal.Hd
def sw(den:Code->Sem Fin)(S:ZuQ)(n₀:Nat){α:Type}:Sem α->(α->Pos->Zza->Nat->Nat->Prop)->Pos->Zza->Nat->Nat->Prop
 |.pure a,Q,p,h,t,c=>Q a p h t c
 |.rule _ k,Q,p,h,t,c=>sw den S n₀ (k ()) Q p h t (c+1)
 |.at p' k,Q,_,h,t,c=>sw den S n₀ (k ()) Q p' h t (c+1)
 |.load a _ k,Q,p,h,t,c=>∃o,h.get? a=some o/\sw den S n₀ (k o) Q p h t (c+1)
 |.update a _ f k,Q,p,h,t,c=>(n₀<=a∨a=mainNs)/\(h.get? a).isSome/\sw den S n₀ (k ()) Q p (h.update a f) t (c+1)
 |.alloc o k,Q,p,h,t,c=>sw den S n₀ (k h.objs.size) Q p (h.push o) t (c+1)
 |.loadIfAlive a k,Q,p,h,t,c=>sw den S n₀ (k (h.get? a)) Q p h t (c+1)
 |.point _ k,Q,p,h,t,c=>sw den S n₀ (k ()) Q p h t (c+1)
 |.fresh k,Q,p,h,t,c=>sw den S n₀ (k t) Q p h (t+1) (c+1)
 |.ask k,Q,p,h,t,c=>sw den S n₀ (k S) Q p h t (c+1)
 |.call x _ _ _ k,Q,p,h,t,c=>∃(id:String) (args:Args) (f:Nat->Flow),den x=.pure (.again (.builtin id args))/\id.startsWith "lifetime."=false/\den (.builtin id args)=.fresh (λt=>.pure (.done (f t)))/\sw den S n₀ (k (.ok (f t))) Q p h (t+1) (c+4)
 |_,_,_,_,_,_=>False
section
variable {den:Code->Sem Fin}{S:ZuQ}{n₀:Nat}{α β:Type}
theorem Gl  {f g:γ->Prop}(h:∀x,f x=g x):(∃x,f x)=∃x,g x:=congrArg Exists (funext h)
theorem Ot(m:Sem α)(f:α->Sem β)(Q:β->Pos->Zza->Nat->Nat->Prop):∀(p:Pos) (h:Zza) (t c:Nat),
 sw den S n₀ (m.bind f) Q p h t c=sw den S n₀ m (λa p' h' t' c'=>sw den S n₀ (f a) Q p' h' t' c') p h t c:=by
 induction m with
 |pure a=>exact λ_ _ _ _=>rfl
 |rule _ k ih=>exact λ_ _ _ _=>ih _ _ _ _ _
 | «at» _ k ih=>exact λ_ _ _ _=>ih _ _ _ _ _
 |point _ k ih=>exact λ_ _ _ _=>ih _ _ _ _ _
 |ask k ih=>exact λ_ _ _ _=>ih _ _ _ _ _
 |fresh k ih=>exact λ_ _ _ _=>ih _ _ _ _ _
 |loadIfAlive _ k ih=>exact λ_ _ _ _=>ih _ _ _ _ _
 |alloc _ k ih=>exact λ_ _ _ _=>ih _ _ _ _ _
 |load a _ k ih=>exact λ_ _ _ _=>Gl λ_=>congrArg _ (ih _ _ _ _ _)
 |update a _ f k ih=>exact λ_ _ _ _=>congrArg _ (congrArg _ (ih _ _ _ _ _))
 |call x _ _ _ k ih=>exact λ_ _ _ _=>Gl λ_=>Gl λ_=>Gl λ_=>congrArg _ (congrArg _ (congrArg _ (ih _ _ _ _ _)))
 |_=>exact λ_ _ _ _=>rfl
theorem Zh(m:Sem α)(f:α->Sem β)(Q:β->Pos->Zza->Nat->Nat->Prop)(p:Pos)(h:Zza)(t c:Nat):
 sw den S n₀ (m>>=f) Q p h t c=sw den S n₀ m (λa p' h' t' c'=>sw den S n₀ (f a) Q p' h' t' c') p h t c:=Ot m f Q p h t c
theorem XN(a:α)(Q:α->Pos->Zza->Nat->Nat->Prop)(p:Pos)(h:Zza)(t c:Nat):sw den S n₀ (pure a) Q p h t c=Q a p h t c:=by
 rfl
theorem wj  (hQ:∀a p h t c,Q a p h t c->Q' a p h t c)(m:Sem α):∀(p:Pos) (h:Zza) (t c:Nat),sw den S n₀ m Q p h t c->sw den S n₀ m Q' p h t c:=by
 induction m with
 |pure a=>intro p h t c q;exact hQ _ _ _ _ _ q
 |rule _ k ih=>intro p h t c q;exact ih _ _ _ _ _ q
 | «at» _ k ih=>intro p h t c q;exact ih _ _ _ _ _ q
 |point _ k ih=>intro p h t c q;exact ih _ _ _ _ _ q
 |ask k ih=>intro p h t c q;exact ih _ _ _ _ _ q
 |fresh k ih=>intro p h t c q;exact ih _ _ _ _ _ q
 |loadIfAlive _ k ih=>intro p h t c q;exact ih _ _ _ _ _ q
 |alloc _ k ih=>intro p h t c q;exact ih _ _ _ _ _ q
 |load a _ k ih=>intro p h t c q;obtain⟨o,h1,h2⟩:=q;exact⟨o,h1,ih _ _ _ _ _ h2⟩
 |update a _ f k ih=>intro p h t c q;exact⟨q.1,q.2.1,ih _ _ _ _ _ q.2.2⟩
 |call x _ _ _ k ih=>intro p h t c q;obtain⟨id,args,f,h1,h2,h3,h4⟩:=q;exact⟨id,args,f,h1,h2,h3,ih _ _ _ _ _ h4⟩
 |_=>intro p h t c q;exact q.elim
theorem wk(vs:List Zzy)(m:Sem α)(Q:α->Pos->Zza->Nat->Nat->Prop):∀(p:Pos) (h:Zza) (t c:Nat),sw den S n₀ (m.keep vs) Q p h t c=sw den S n₀ m Q p h t c:=by
 induction m with
 |pure a=>exact λ_ _ _ _=>rfl
 |rule _ k ih=>exact λ_ _ _ _=>ih _ _ _ _ _
 | «at» _ k ih=>exact λ_ _ _ _=>ih _ _ _ _ _
 |point _ k ih=>exact λ_ _ _ _=>ih _ _ _ _ _
 |ask k ih=>exact λ_ _ _ _=>ih _ _ _ _ _
 |fresh k ih=>exact λ_ _ _ _=>ih _ _ _ _ _
 |loadIfAlive _ k ih=>exact λ_ _ _ _=>ih _ _ _ _ _
 |alloc _ k ih=>exact λ_ _ _ _=>ih _ _ _ _ _
 |load a _ k ih=>exact λ_ _ _ _=>Gl λ_=>congrArg _ (ih _ _ _ _ _)
 |update a _ f k ih=>exact λ_ _ _ _=>congrArg _ (congrArg _ (ih _ _ _ _ _))
 |call x _ _ _ k ih=>exact λ_ _ _ _=>Gl λ_=>Gl λ_=>Gl λ_=>congrArg _ (congrArg _ (congrArg _ (ih _ _ _ _ _)))
 |_=>exact λ_ _ _ _=>rfl
theorem YJ(vs:List Zzy)(m:Sem α)(Q:α->Pos->Zza->Nat->Nat->Prop)(p:Pos)(h:Zza)(t c:Nat):sw den S n₀ (holding vs m) Q p h t c=sw den S n₀ m Q p h t c:=by
 rw[holding_eq_keep,wk]
theorem SK(m:Sem α)(f:Zzy->Sem Unit)(Q:α->Pos->Zza->Nat->Nat->Prop):∀(p:Pos) (h:Zza) (t c:Nat),sw den S n₀ m Q p h t c->sw den S n₀ (m.onRaise f) Q p h t c:=by
 induction m with
 |pure a=>intro p h t c q;exact q
 |rule _ k ih=>intro p h t c q;exact ih _ _ _ _ _ q
 | «at» _ k ih=>intro p h t c q;exact ih _ _ _ _ _ q
 |point _ k ih=>intro p h t c q;exact ih _ _ _ _ _ q
 |ask k ih=>intro p h t c q;exact ih _ _ _ _ _ q
 |fresh k ih=>intro p h t c q;exact ih _ _ _ _ _ q
 |loadIfAlive _ k ih=>intro p h t c q;exact ih _ _ _ _ _ q
 |alloc _ k ih=>intro p h t c q;exact ih _ _ _ _ _ q
 |load a _ k ih=>intro p h t c q;obtain⟨o,h1,h2⟩:=q;exact⟨o,h1,ih _ _ _ _ _ h2⟩
 |update a _ f k ih=>intro p h t c q;exact⟨q.1,q.2.1,ih _ _ _ _ _ q.2.2⟩
 |call x _ _ _ k ih=>intro p h t c q;obtain⟨id,args,f,h1,h2,h3,h4⟩:=q;exact⟨id,args,f,h1,h2,h3,ih _ _ _ _ _ h4⟩
 |_=>intro p h t c q;exact q.elim
theorem L4(m:Sem α)(f:Zzy->Sem α)(Q:α->Pos->Zza->Nat->Nat->Prop):∀(p:Pos) (h:Zza) (t c:Nat),sw den S n₀ m Q p h t c->sw den S n₀ (m.tryCatch f) Q p h t c:=by
 induction m with
 |pure a=>intro p h t c q;exact q
 |rule _ k ih=>intro p h t c q;exact ih _ _ _ _ _ q
 | «at» _ k ih=>intro p h t c q;exact ih _ _ _ _ _ q
 |point _ k ih=>intro p h t c q;exact ih _ _ _ _ _ q
 |ask k ih=>intro p h t c q;exact ih _ _ _ _ _ q
 |fresh k ih=>intro p h t c q;exact ih _ _ _ _ _ q
 |loadIfAlive _ k ih=>intro p h t c q;exact ih _ _ _ _ _ q
 |alloc _ k ih=>intro p h t c q;exact ih _ _ _ _ _ q
 |load a _ k ih=>intro p h t c q;obtain⟨o,h1,h2⟩:=q;exact⟨o,h1,ih _ _ _ _ _ h2⟩
 |update a _ f k ih=>intro p h t c q;exact⟨q.1,q.2.1,ih _ _ _ _ _ q.2.2⟩
 |call x _ _ _ k ih=>intro p h t c q;obtain⟨id,args,f,h1,h2,h3,h4⟩:=q;exact⟨id,args,f,h1,h2,h3,ih _ _ _ _ _ h4⟩
 |_=>intro p h t c q;exact q.elim
theorem LL(m:Sem α)(f:Zzy->Sem α)(Q:α->Pos->Zza->Nat->Nat->Prop)(p:Pos)(h:Zza)(t c:Nat)(q:sw den S n₀ m Q p h t c):sw den S n₀ (tryCatch m f) Q p h t c:=L4 m f Q p h t c q
end
section
variable {tb:String->Option Zwv}{P:ZxW}{w:Zzk}{n₀:Nat}{ann:Option Zzy}{c:Code}{fr:Frame}
 {α:Type} {K:α->Sem Fin} {H:Zzy->Sem Fin} {gd:Bool->Bool} {lv:List Zzy->List Zzy}
 (gens:Array ZqG) (drawn:Drawn) (os:Zz8) (Q:α->Pos->Zza->Nat->Nat->Prop)
variable (tb P w n₀ ann c fr K H gd lv) in
def Seg(m:Sem α)(p:Pos)(h:Zza)(t n₁:Nat):Prop:=∃n a p' h' t',Q a p' h' t' (n₁+n)/\∀N r,segRun tb P w n₀ ann 1 N ⟨h',gens,drawn,t',os⟩ ⟨K a,c,p',[fr]⟩=some r->
 segRun tb P w n₀ ann 1 (n+N) ⟨h,gens,drawn,t,os⟩ ⟨m.wrap K H gd lv,c,p,[fr]⟩=some r
theorem NP    {r}(h1:endAt 1 t=none)(h2:stepOk n₀ ann t=true)(h3:step (denote tb) P w s t=.go s' t')
 (h4:segRun tb P w n₀ ann 1 N s' t'=some r):segRun tb P w n₀ ann 1 (N+1) s t=some r:=by
 unfold segRun;rw[h1,h2,h3];exact h4
variable {gens drawn os Q}{m m':Sem α}{p p2:Pos}{h h2:Zza}{t t2 n₁:Nat}
theorem Seg.step(q:Seg tb P w n₀ ann c fr K H gd lv gens drawn os Q m' p2 h2 t2 (n₁+1))(e1:endAt 1 ⟨m.wrap K H gd lv,c,p,[fr]⟩=none)(e2:stepOk n₀ ann ⟨m.wrap K H gd lv,c,p,[fr]⟩=true)
 (e3:step (denote tb) P w ⟨h,gens,drawn,t,os⟩ ⟨m.wrap K H gd lv,c,p,[fr]⟩=.go ⟨h2,gens,drawn,t2,os⟩ ⟨m'.wrap K H gd lv,c,p2,[fr]⟩):Seg tb P w n₀ ann c fr K H gd lv gens drawn os Q m p h t n₁:=by
 obtain⟨n,a,p',h',t',q',f⟩:=q
 refine⟨n+1,a,p',h',t',?_,λN r e=>?_⟩
 ·rw[ZzT n 1,<-ZzA];exact q'
 ·rw[Zxd n 1 N];exact NP e1 e2 e3 (f N r e)
end
theorem kA   {ann:Option Zzy}(ha:n₀<=a₀∨a₀=mainNs):(Zjx n₀ a₀||a₀==mainNs||a₀==cStatics||ann==some (.ref a₀))=true:=by
 rcases ha with ha |ha
 ·rw[Nat.ble_eq_true_of_le ha];rfl
 ·rw[ha,beq_self_eq_true,Zql];rfl
theorem Rv{id:String}{args c p st}(h:id.startsWith "lifetime."=false):Thread.calm ⟨.pure (.again (.builtin id args)),c,p,st⟩=true:=by
 show (((!id.startsWith "lifetime."||_)&&true)&&true)=true
 rw[h];rfl
theorem kE   {w:Zzk}
 {K:α->Sem Fin}
 (gens:Array ZqG) (drawn:Drawn) (os:Zz8) (Q:α->Pos->Zza->Nat->Nat->Prop) (m:Sem α):∀(p:Pos) (h:Zza) (t n₁:Nat),sw (denote tb) ⟨P,w.params⟩ n₀ m Q p h t n₁->Seg tb P w n₀ ann c fr K H gd lv gens drawn os Q m p h t n₁:=by
 induction m with
 |pure a=>exact λp h t n₁ q=>⟨0,a,p,h,t,q,λN r e=>by rw[ZzP];exact e⟩
 |rule tag k ih=>exact λp h t n₁ q=>(ih () p h t _ q).step rfl rfl rfl
 | «at» p₀ k ih=>exact λp h t n₁ q=>(ih () p₀ h t _ q).step rfl rfl rfl
 |point l k ih=>exact λp h t n₁ q=>(ih () p h t _ q).step rfl rfl rfl
 |ask k ih=>exact λp h t n₁ q=>(ih _ p h t _ q).step rfl rfl rfl
 |fresh k ih=>exact λp h t n₁ q=>(ih _ p h _ _ q).step rfl rfl rfl
 |loadIfAlive a₀ k ih=>exact λp h t n₁ q=>(ih _ p h t _ q).step rfl rfl rfl
 |alloc o k ih=>exact λp h t n₁ q=>(ih _ p _ t _ q).step rfl rfl rfl
 | load a₀ part k ih=>
   exact λp h t n₁ q=>q.elim λo q=>(ih _ p _ t _ q.2).step rfl rfl (by show (match h.get? a₀ with |some o=>_ |none=>_)=_;rw[q.1])
 | update a₀ part g k ih=>
   exact λp h t n₁ q=>(ih _ p _ t _ q.2.2).step rfl (Zyb.mpr ⟨rfl,kA q.1⟩) (if_pos q.2.1)
 | call c₀ hd g l k ih=>
   intro p h t n₁ q;obtain⟨id,args,f,h1,h2,h3,q⟩:=q
   obtain⟨n,a,p',h',t',q',F⟩:=ih _ p h _ _ q
   refine⟨n+4,a,p',h',t',?_,λN r e=>?_⟩
   ·rw[ZzT n 4,<-ZzA];exact q'
   rw[Zxd n 4 N]
   refine NP rfl rfl rfl ?_
   rw[h1]
   refine NP (s':=⟨h,gens,drawn,t,os⟩) rfl ?_ step_again ?_
   ·exact congrArg (·&&true) (Rv h2)
   rw[h3]
   refine NP rfl rfl rfl ?_
   exact NP (by unfold endAt;rfl) rfl rfl (F N r e)
 |_=>exact λp h t n₁ q=>q.elim
theorem Ny(k:Int)(t:Tok):denote Zzh (.call (.builtin "int.__hash__") ⟨[.int k t],[]⟩)=.pure (.again (.builtin "int.__hash__" ⟨[.int k t],[]⟩)):=by kernel_rfl!
theorem zd(k:Int)(t:Tok):denote Zzh (.builtin "int.__hash__" ⟨[.int k t],[]⟩)=.fresh (λu=>.pure (.done (.ret (.int (rawHash k) u)))):=by kernel_rfl!
noncomputable def Yi(es:Array ZxZ)(n:Nat):Obj:={ cls:=.type "dict",data:=.dict es n }
section
variable {S:ZuQ}{n₀:Nat}{p:Pos}{h:Zza}{t z:Nat}
theorem MK  :sw (denote Zzh) S n₀ (mkInt i) Q p h t z=Q (.int i t) p h (t+1) (z+1):=rfl
theorem A0  :sw (denote Zzh) S n₀ (mkText x) Q p h t z=Q (.str x t) p h (t+1) (z+1):=rfl
theorem QI  :sw (denote Zzh) S n₀ (standAt q) Q p h t z=Q () q h t (z+1):=rfl
theorem H4  :sw (denote Zzh) S n₀ (rule x) Q p h t z=Q () p h t (z+1):=rfl
theorem kO :sw (denote Zzh) S n₀ ask Q p h t z=Q S p h t (z+1):=rfl
theorem MF  :sw (denote Zzh) S n₀ (alloc o) Q p h t z=Q h.objs.size p (h.push o) t (z+1):=rfl
theorem Vw     (ho:h.get? a=some o)(q:Q o p h t (z+1)):sw (denote Zzh) S n₀ (loadPart a pt) Q p h t z:=⟨o,ho,q⟩
theorem AD      (ha:n₀<=a∨a=mainNs)(ho:h.get? a=some o)(q:Q () p (h.update a f) t (z+1)):
 sw (denote Zzh) S n₀ (updatePart a pt f) Q p h t z:=⟨ha,by rw[ho];rfl,q⟩
theorem QG   {es n}  (ho:h.get? a=some (Yi es n))(q:Q es p h t (z+1)):
 sw (denote Zzh) S n₀ (dictEntries a pt) Q p h t z:=by
 unfold dictEntries
 rw[Zh]
 exact Vw ho q
theorem MG   {es n}  (ho:h.get? a=some (Yi es n))(q:Q n p h t (z+1)):
 sw (denote Zzh) S n₀ (dictEpoch a pt) Q p h t z:=by
 unfold dictEpoch
 rw[Zh]
 exact Vw ho q
theorem H5   {es n}   (ha:n₀<=a∨a=mainNs)(ho:h.get? a=some (Yi es n))(hs:es.size<100000)
 (q:Q () p (h.update a (ZxQ (·.push e))) t (z+3)):sw (denote Zzh) S n₀ (updateDictKeys a (·.push e) pt) Q p h t z:=by
 unfold updateDictKeys
 rw[Zh]
 refine Vw ho ?_
 show sw _ _ _ (updatePart a pt _>>=λ_=>lookBehind a pt) Q p h t _
 rw[Zh]
 refine AD ha ho ?_
 unfold lookBehind
 rw[Zh]
 refine Vw (o:=Yi (es.push e) (n+1)) (ZyB _ ho rfl) ?_
 have hl:(Data.dict (es.push e) (n+1)).pastItsLine=none:=by
  show (if (es.push e).size > Zzx+1 then some "dict:memory" else none)=none
  rw[if_neg]
  rw[ZxV]
  have:Zzx=16777216:=by decide
  exact Zwr.mpr (ZzX (oP (Zzs hs) (by rw[this];decide)))
 show sw _ _ _ (match (Data.dict (es.push e) (n+1)).pastItsLine with |some what=>unsupported what |_=>pure ()) Q p _ t _
 rw[hl]
 exact q
theorem i8(es:Array ZxZ)(k:Int)(hk:∀e∈es,e.hash≠k):placesWithHash es.size (λi=>es[i]?.map (·.hash)) k=[]:=by
 unfold placesWithHash
 rw[Zu4]
 intro i _ he
 dsimp only at he
 cases x:es[i]? with
 |none=>rw[x] at he;simp at he
 |some e=>rw[x] at he;exact hk e (Array.mem_of_getElem? x) (by simpa using he)
theorem H7    {es n}  (ho:h.get? a=some (Yi es n))(hk:∀e∈es,e.hash≠hashInt k)(q:Q none p h t (z+1)):
 sw (denote Zzh) S n₀ (dictFind a (.int k u) (hashInt k)) Q p h t z:=by
 unfold dictFind
 rw[YJ,Zh]
 refine QG ho ?_
 rw[i8 es _ hk]
 exact q
theorem L5    (q:Q (.int (rawHash k) t) p h (t+1) (z+4)):sw (denote Zzh) S n₀ (call (.builtin "int.__hash__") [.int k u]) Q p h t z:=
 ⟨_,_,_,Ny k u,by decide +kernel,zd k u,q⟩
theorem wi    (q:Q (hashInt k) p h (t+1) (z+5)):sw (denote Zzh) S n₀ (pyHash (.int k u)) Q p h t z:=by
 have hr:=rawHash_range k
 have hv:[Zwk k u].any Value.onHeap=false:=rfl
 have sp:specialOf (.int k u) "__hash__"=pure (some (.builtin "int.__hash__")):=by
  show (pure (Zvn "int")>>=λT=>typeLookup T "__hash__")=_
  rw[pure_bind]
  exact slot_int_hash.lookup
 have hb:bindSpecialIfBound? (.int k u) "__hash__"=(do if (<-ask).params.followText "special-get-raises" then pure (some (.builtin "int.__hash__",[.int k u])) else tryCatch (pure (some (.builtin "int.__hash__",[.int k u]))) λ_=>(do rule "special.get-raises-dropped";pure none)):=by
  unfold bindSpecialIfBound?
  rw[sp,pure_bind]
  simp only[slot_int_hash.bind,pure_bind]
  rfl
 unfold pyHash pyHashByItsType
 rw[Zh,cRoomFor,if_neg (by rw[hv];exact Zz6),XN]
 dsimp only
 rw[sp,pure_bind]
 rw[if_neg (by rw[beq_builtin_none];exact Zz6),pure_bind,if_neg (c:=(some (Zw0 "int.__hash__")).isNone=true) Zz6]
 unfold callSpecialIfBoundUnlessNone?
 rw[Zh,YJ,hb,Zh,Zh,kO]
 have fin:∀(Q':Option (Zzy × List Zzy)->Pos->Zza->Nat->Nat->Prop),Q' (some (.builtin "int.__hash__",[.int k u])) p h t (z+1)->
  sw (denote Zzh) S n₀ (if S.params.followText "special-get-raises" then pure (some (Zw0 "int.__hash__",[Zwk k u])) else tryCatch (pure (some (Zw0 "int.__hash__",[Zwk k u]))) λ_=>(do rule "special.get-raises-dropped";pure none)) Q' p h t (z+1):=by
  intro Q' q'
  cases S.params.followText "special-get-raises" with
  |true=>exact q'
  |false=>exact LL _ _ _ _ _ _ _ q'
 refine fin _ ?_
 dsimp only
 rw[if_neg (by rw[builtin_beq_none];exact Zz6)]
 rw[Zh]
 refine L5 ?_
 show sw _ _ _ (if (decide (-(2:Int) ^ 63<=rawHash k)&&decide (rawHash k<2 ^ 63))=true then _ else _) Q p h _ _
 rw[if_pos (by rw[decide_eq_true hr.1,decide_eq_true hr.2];rfl)]
 exact q
theorem RM     {es n}  (ha:n₀<=a∨a=mainNs)(ho:h.get? a=some (Yi es n))(hs:es.size<100000)
 (hk:∀e∈es,e.hash≠hashInt k) (q:Q () p (h.update a (ZxQ (·.push ⟨hashInt k,.int k u,v⟩))) (t+1) (z+10)):
 sw (denote Zzh) S n₀ (dictSet a (.int k u) v) Q p h t z:=by
 unfold dictSet
 rw[YJ,Zh]
 refine wi ?_
 unfold dictSetHashed
 rw[YJ,Zh]
 refine H7 ho hk ?_
 dsimp only
 rw[Zh,H4]
 exact H5 ha ho hs q
theorem kP     {es n}  (ha:n₀<=a∨a=mainNs)(ho:h.get? a=some (Yi es n))(hs:es.size<100000)
 (hk:∀e∈es,e.hash≠hashInt k) (q:Q () p (h.update a (ZxQ (·.push ⟨hashInt k,.int k u,v⟩))) t (z+4)):
 sw (denote Zzh) S n₀ (dictPut a (hashInt k) (.int k u) v) Q p h t z:=by
 unfold dictPut
 rw[Zh]
 refine H7 ho hk ?_
 dsimp only
 exact H5 ha ho hs q
end
abbrev XM:=Int × Nat × Zzy
noncomputable def ent(x:XM):ZxZ:=⟨hashInt x.1,.int x.1 x.2.1,x.2.2⟩
def Zr(xs:List XM):Array ZxZ:=(xs.map ent).toArray
noncomputable def put(h:Zza)(a:Zzq)(o:Obj):Zza:=h.update a (λ_=>o)
theorem JL(a m n:Nat):a+m+m*n=a+m*(n+1):=by rw[Nat.mul_succ,ZzA,ZzT m]
theorem Jm{h h':Zza}(h1:∀i:Nat,h.objs[i]?=h'.objs[i]?)(h2:h.life=h'.life):h=h':=by
 obtain⟨o,l⟩:=h
 obtain⟨o',l'⟩:=h'
 cases h2
 have:o=o':=Array.ext_getElem? h1
 rw[this]
theorem W2(h:Zza)(a:Zzq)(f:Obj->Obj)(i:Nat):(h.update a f).objs[i]?=if a=i then h.objs[i]?.map f else h.objs[i]?:=by
 show (h.objs.modify a f)[i]?=_
 rw[Array.getElem?_modify]
theorem Qt     (ho:h.get? a=some o):h.update a f=put h a (f o):=by
 refine Jm (λi=>?_) rfl
 unfold put
 rw[W2,W2]
 by_cases e:a=i
 ·subst e
  rw[(ZvU.mp ho).1]
  rfl
 ·simp [e]
theorem Fn   :put (put h a o) a o'=put h a o':=by
 refine Jm (λi=>?_) rfl
 unfold put
 rw[W2,W2,W2]
 by_cases e:a=i
 ·subst e
  cases h.objs[a]?<;>simp
 ·simp [e]
theorem Kn    (ho:h.get? a=some o)(hf:o'.isFreed=false):(put h a o').get? a=some o':=ZyB _ ho hf
theorem RO    (e:a≠b):(put h a o).get? b=h.get? b:=Zx6 h _ e
theorem DJ    (ho:h.get? a=some o):put h a o=h:=by
 refine Jm (λi=>?_) rfl
 unfold put
 rw[W2]
 by_cases e:a=i
 ·subst e
  rw[(ZvU.mp ho).1];simp
 ·simp [e]
theorem DQ   :(put h a o).objs.size=h.objs.size:=by
 show (h.objs.modify a _).size=_
 simp
theorem Fm(h:Zza)(o:Obj)(i:Nat):(h.push o).objs[i]?=if i=h.objs.size then some o else h.objs[i]?:=by
 show (h.objs.push o)[i]?=_
 rw[Array.getElem?_push]
theorem MB    (ha:a<h.objs.size):put (h.push o') a o=(put h a o).push o':=by
 refine Jm (λi=>?_) rfl
 unfold put
 rw[W2,Fm,Fm,W2]
 have:(h.update a λ_=>o).objs.size=h.objs.size:=DQ
 rw[this]
 by_cases e:a=i
 ·subst e
  have:a≠h.objs.size:=ZzR ha
  simp [this]
 ·simp [e]
theorem BJ{h:Zza} :put (h.push o') h.objs.size o=h.push o:=by
 refine Jm (λi=>?_) rfl
 unfold put
 rw[W2,Fm,Fm]
 by_cases e:h.objs.size=i
 ·subst e;simp
 ·have:¬i=h.objs.size:=λq=>e q.symm
  simp [e,this]
theorem Ja{h:Zza}  (hf:o.isFreed=false):(h.push o).get? h.objs.size=some o:=Zzl _ hf
theorem DK{h:Zza}   (ho:h.get? a=some o):(h.push o').get? a=some o:=Zzj _ ho
theorem M5{h:Zza}   (ho:h.get? a=some o):a<h.objs.size:=by
 have:=(ZvU.mp ho).1
 exact (ZvG.mp this).1
theorem Kx(xs:List XM)(x:XM):(Zr xs).push (ent x)=Zr (xs++[x]):=by
 unfold Zr;simp
theorem Qj(xs:List XM):(Zr xs).size=xs.length:=by unfold Zr;simp
def Apart(xs:List XM):Prop:=(xs.map λx=>hashInt x.1).Nodup
theorem Apart.fresh   (hA:Apart (xs++[x])):∀e∈Zr xs,e.hash≠hashInt x.1:=by
 intro e he
 unfold Zr at he
 obtain⟨y,hy,rfl⟩:=Zyi.mp (ZqF.mp he)
 unfold Apart at hA
 rw[Zz9,Zwg] at hA
 exact hA.2.2 _ (Zyi.mpr ⟨y,hy,rfl⟩) _ (by simp)
theorem Apart.left  (hA:Apart (xs++ys)):Apart xs:=by
 unfold Apart at hA ⊢
 rw[Zz9,Zwg] at hA
 exact hA.1
noncomputable def pr(q:Pos)(x:Int × oO):Sem Zzy × Sem Zzy:=(mkInt x.1,do let v <-mkText x.2;standAt q;pure v)
noncomputable def ZP:Nat->List (Int × oO)->List XM
 |_,[]=>[]
 |t,(k,x)::r=>(k,t,.str x (t+1))::ZP (t+3) r
noncomputable def Xs:Nat->List (Int × oO)->List XM
 |_,[]=>[]
 |t,(k,x)::r=>(k,t,.str x (t+1))::Xs (t+2) r
section
variable {S:ZuQ}{n₀:Nat}
theorem H6(q:Pos)(a:Zzq)(ha:n₀<=a):∀(xs:List (Int × oO)) (ys:List XM) (n:Nat) (p:Pos) (h:Zza) (t z:Nat) (Q:PUnit->Pos->Zza->Nat->Nat->Prop),
 h.get? a=some (Yi (Zr ys) n)->Apart (ys++ZP t xs)->ys.length+xs.length<100000->
 Q () (if xs.isEmpty then p else q) (put h a (Yi (Zr (ys++ZP t xs)) (n+xs.length))) (t+3*xs.length) (z+13*xs.length)->
 sw (denote Zzh) S n₀ (forIn (xs.map (pr q)) Zva λ(x:Sem Zzy × Sem Zzy) (_:PUnit)=>(do
     let kv <-x.1
     let vv <-holding [kv] x.2
     holding [kv,vv] (dictSet a kv vv)
     pure (Zxl Zva):Sem (ForInStep PUnit))) Q p h t z
 | [],ys,n,p,h,t,z,Q,ho,_,_,hQ=>by
   rw[Zxw,ZyS]
   exact (DJ ho ▸ (ZyZ ys).symm ▸ hQ:Q () p h t z)
 | (k,x)::xs,ys,n,p,h,t,z,Q,ho,hA,hl,hQ=>by
   have Ha:Apart (ys++[(k,t,ZvQ x (t+1))]):=by
    exact Apart.left (((Zzo ys [_] _).symm:ys++ZP t ((k,x)::xs)=_) ▸ hA)
   rw[Zyw] at hl
   rw[ZzG,Zys]
   rw[Zh]
   show sw _ _ _ ((pr q (k,x)).1>>=_) _ p h t _
   rw[Zh]
   show sw _ _ _ (mkInt k) _ p h t _
   rw[MK,Zh,YJ]
   show sw _ _ _ (do let v <-mkText x;standAt q;pure v) _ p h _ _
   rw[Zh,A0,Zh,QI,XN,Zh,YJ]
   refine RM (.inl ha) ho (by rw[Qj];exact Zz4 (Zzt _ _) hl) Ha.fresh ?_
   rw[XN]
   dsimp only
   rw[Qt ho]
   have e:(ZxQ (λN8=>N8.push ⟨hashInt k,Zwk k t,ZvQ x (t+1)⟩) (Yi (Zr ys) n))=Yi (Zr (ys++[(k,t,ZvQ x (t+1))])) (n+1):=by
    show Yi ((Zr ys).push (ent (k,t,ZvQ x (t+1)))) (n+1)=_
    rw[Kx]
   rw[e]
   refine H6 q a ha xs (ys++[(k,t,ZvQ x (t+1))]) (n+1) q _ (t+3) (z+13) Q (Kn ho rfl) (((Zzo ys [_] _).symm:ys++ZP t ((k,x)::xs)=_) ▸ hA) (by rw[Zzd,Zwm,Zyq];exact hl) ?_
   rw[Fn]
   have e2:(ys++[(k,t,ZvQ x (t+1))])++ZP (t+3) xs=ys++ZP t ((k,x)::xs):=Zzo ..
   rw[e2]
   have e3:(if xs.isEmpty then q else q)=q:=ite_self _
   rw[e3]
   have e4:n+1+xs.length=n+((k,x)::xs).length:=Zyq _ _
   have e5:t+3+3*xs.length=t+3*((k,x)::xs).length:=JL t 3 _
   have e6:z+13+13*xs.length=z+13*((k,x)::xs).length:=JL z 13 _
   rw[e4,e5,e6]
   exact hQ
theorem H3(q:Pos):∀(xs:List (Int × oO)) (p:Pos) (h:Zza) (t z:Nat) (Q:List (Zzy × Zzy)->Pos->Zza->Nat->Nat->Prop),
 Q ((Xs t xs).map λx=>(.int x.1 x.2.1,x.2.2)) (if xs.isEmpty then p else q) h (t+2*xs.length) (z+3*xs.length)->sw (denote Zzh) S n₀ (evalPairs (xs.map (pr q))) Q p h t z
 |[],p,h,t,z,Q,hQ=>hQ
 | (k,x)::xs,p,h,t,z,Q,hQ=>by
   rw[ZzG]
   show sw _ _ _ (evalPairs ((mkInt k,do let v <-mkText x;standAt q;pure v)::xs.map (pr q))) Q p h t _
   unfold evalPairs
   rw[Zh,MK,Zh,YJ,Zh,A0,Zh,QI,XN,Zh,YJ]
   refine H3 q xs q h (t+2) (z+3) _ ?_
   rw[XN]
   have e3:(if xs.isEmpty then q else q)=q:=ite_self _
   rw[e3]
   have e5:t+2+2*xs.length=t+2*((k,x)::xs).length:=JL t 2 _
   have e6:z+3+3*xs.length=z+3*((k,x)::xs).length:=JL z 3 _
   rw[e5,e6]
   exact hQ
theorem MJ(a:Zzq)(ha:n₀<=a):∀(xs ys:List XM) (n:Nat) (p:Pos) (h:Zza) (t z:Nat) (Q:PUnit->Pos->Zza->Nat->Nat->Prop),
 h.get? a=some (Yi (Zr ys) n)->Apart (ys++xs)->ys.length+xs.length<100000->
 Q () p (put h a (Yi (Zr (ys++xs)) (n+xs.length))) (t+xs.length) (z+10*xs.length)->
 sw (denote Zzh) S n₀ (forIn (xs.map λx=>(Zwk x.1 x.2.1,x.2.2)) Zva λ(x:Zzy × Zzy) (_:PUnit)=>(do dictSet a x.1 x.2;pure (Zxl Zva):Sem (ForInStep PUnit))) Q p h t z
 | [],ys,n,p,h,t,z,Q,ho,_,_,hQ=>by
   rw[Zxw,ZyS]
   exact (DJ ho ▸ (ZyZ ys).symm ▸ hQ:Q () p h t z)
 | x::xs,ys,n,p,h,t,z,Q,ho,hA,hl,hQ=>by
   have e2:ys++x::xs=(ys++[x])++xs:=(Zzo ys [x] xs).symm
   rw[e2] at hA hQ
   rw[Zyw] at hl
   rw[ZzG,Zys,Zh,Zh]
   refine RM (.inl ha) ho (by rw[Qj];exact Zz4 (Zzt _ _) hl) hA.left.fresh ?_
   rw[XN]
   dsimp only
   rw[Qt ho]
   have e:(ZxQ (λN8=>N8.push ⟨hashInt x.1,Zwk x.1 x.2.1,x.2.2⟩) (Yi (Zr ys) n))=Yi (Zr (ys++[x])) (n+1):=by
    show Yi ((Zr ys).push (ent x)) (n+1)=_
    rw[Kx]
   rw[e]
   refine MJ a ha xs (ys++[x]) (n+1) p _ (t+1) (z+10) Q (Kn ho rfl) hA (by rw[Zzd,Zwm,Zyq];exact hl) ?_
   rw[Fn]
   have e4:n+1+xs.length=n+(x::xs).length:=Zyq _ _
   have e5:t+1+xs.length=t+(x::xs).length:=Zyq _ _
   have e6:z+10+10*xs.length=z+10*(x::xs).length:=JL z 10 _
   rw[e4,e5,e6]
   exact hQ
theorem WG:∀(t:Nat) (xs:List (Int × oO)),(ZP t xs).length=xs.length
 |_,[]=>rfl
 |t,(_,_)::r=>by rw[ZP,Zyw,Zyw,WG]
theorem V6:∀(t:Nat) (xs:List (Int × oO)),(Xs t xs).length=xs.length
 |_,[]=>rfl
 |t,(_,_)::r=>by rw[Xs,Zyw,Zyw,V6]
theorem CM      (hn:n₀<=h.objs.size)(hl:15<xs.length)(J8:xs.length<100000)(hA:Apart (ZP t xs))
 (hQ:Q h.objs.size q (h.push (Yi (Zr (ZP t xs)) xs.length)) (t+3*xs.length) (z+2+13*xs.length)):sw (denote Zzh) S n₀ (subDict (xs.map (pr q))) Q p h t z:=by
 unfold subDict
 rw[Zh,MF,Zh,YJ,if_neg (by rw[Zzm];exact ZvM.mpr hl),Zh,H4,Zh]
 refine H6 q h.objs.size hn xs [] 0 p _ t _ _ (Ja (o:=Yi #[] 0) rfl) hA (by simp;exact J8) ?_
 have e:(if xs.isEmpty then p else q)=q:=by
  cases xs with
  |nil=>simp at hl
  |cons=>rfl
 rw[e,XN,XN,ZzP]
 show Q _ _ (put (h.push (Yi #[] 0)) h.objs.size _) _ _
 rw[BJ]
 exact hQ
theorem LH      (hn:n₀<=h.objs.size)(hl:xs.length<=15)(h0:xs≠[])(hA:Apart (Xs t xs))
 (hQ:Q h.objs.size q (h.push (Yi (Zr (Xs t xs)) xs.length)) (t+3*xs.length) (z+1+13*xs.length)):sw (denote Zzh) S n₀ (subDict (xs.map (pr q))) Q p h t z:=by
 unfold subDict
 rw[Zh,MF,Zh,YJ,if_pos (by rw[Zzm];exact hl),Zh]
 refine H3 q xs p _ t _ _ ?_
 have e:(if xs.isEmpty then p else q)=q:=by
  cases xs with
  |nil=>exact absurd rfl h0
  |cons=>rfl
 rw[e,YJ,Zh]
 refine MJ h.objs.size hn (Xs t xs) [] 0 q _ _ _ _ (Ja (o:=Yi #[] 0) rfl) hA (by rw[V6];simp;exact Zz4 hl oD) ?_
 rw[XN,XN,V6,ZzP,show t+2*xs.length+xs.length=t+3*xs.length from (ZzA t _ _).trans (congrArg (t+·) (Nat.succ_mul 2 _).symm),show z+1+3*xs.length+10*xs.length=z+1+13*xs.length from (ZzA (z+1) _ _).trans (congrArg (z+1+·) (Nat.add_mul 3 10 _).symm)]
 show Q _ _ (put (h.push (Yi #[] 0)) h.objs.size _) _ _
 rw[BJ]
 exact hQ
end
section
variable {S:ZuQ}{n₀:Nat}
theorem GA    (WQ:d≠a)(f:Nat->PUnit->Sem (ForInStep PUnit))
 (hf:∀(i:Nat) (x:XM) (ys:List XM) (n:Nat) (p:Pos) (h:Zza) (t z:Nat) (Q:ForInStep PUnit->Pos->Zza->Nat->Nat->Prop),zs[i]?=some x->h.get? d=some (Yi (Zr ys) n)->h.get? a=some (Yi (Zr zs) m)->
  Apart (ys++[x])->ys.length<100000->Q (.yield ()) p (put h d (Yi (Zr (ys++[x])) (n+1))) t (z+6)->sw (denote Zzh) S n₀ (f i ()) Q p h t z):
 ∀(xs:List XM) (i:Nat) (ys:List XM) (n:Nat) (p:Pos) (h:Zza) (t z:Nat) (Q:PUnit->Pos->Zza->Nat->Nat->Prop),zs.drop i=xs->h.get? d=some (Yi (Zr ys) n)->h.get? a=some (Yi (Zr zs) m)->
  Apart (ys++xs)->ys.length+xs.length<100000->Q () p (put h d (Yi (Zr (ys++xs)) (n+xs.length))) t (z+6*xs.length)->
  sw (denote Zzh) S n₀ (forIn (ZwP i xs.length) Zva f) Q p h t z
 | [],i,ys,n,p,h,t,z,Q,_,ho,_,_,_,hQ=>by
   simp only[Zvt,List.range'_zero,ZyS]
   simp only[ZyZ,Zvt,Zuk] at hQ
   rw[DJ ho] at hQ
   exact hQ
 | x::xs,i,ys,n,p,h,t,z,Q,hz,ho,ha,hA,hl,hQ=>by
   have e2:ys++x::xs=(ys++[x])++xs:=by simp
   rw[e2] at hA hQ
   rw[Zyw] at hl
   rw[Zyw,Zvw,Zys,Zh]
   have hx:zs[i]?=some x:=by
    have:=congrArg (·[0]?) hz
    simpa [ZwA] using this
   refine hf i x ys n p h t _ _ hx ho ha hA.left (Zz4 (Zzt _ _) hl) ?_
   have qk:zs.drop (i+1)=xs:=by
    have:=congrArg (Zuh 1) hz
    simpa [ZwM] using this
   refine GA WQ f hf xs (i+1) (ys++[x]) (n+1) p _ t (z+6) Q qk (Kn ho rfl) ((RO WQ).trans ha) hA (by rw[Zzd,Zwm,Zyq];exact hl) ?_
   rw[Fn,show n+1+xs.length=n+(x::xs).length from Zyq _ _,show z+6+6*xs.length=z+6*(x::xs).length from JL z 6 _]
   exact hQ
theorem Oh        (hd:n₀<=d)(hs:(a==sysModules)=false)(WQ:d≠a)
 (ho:h.get? d=some (Yi (Zr ys) n)) (ha:h.get? a=some (Yi (Zr xs) m)) (hy:ys≠[]) (hA:Apart (ys++xs)) (hl:ys.length+xs.length<100000)
 (hQ:Q () p (put h d (Yi (Zr (ys++xs)) (n+xs.length))) t (z+5+6*xs.length)):sw (denote Zzh) S n₀ (mergeMapping d (.ref a) false) Q p h t z:=by
 have sp:∀(Q':Option Zzy->Pos->Zza->Nat->Nat->Prop) (z:Nat),Q' (some (.builtin "dict.__iter__")) p h t (z+1)->sw (denote Zzh) S n₀ (specialOf (.ref a) "__iter__") Q' p h t z:=by
  intro Q' z q'
  unfold specialOf
  rw[Zh]
  show sw (denote Zzh) S n₀ (loadPart a (some headPart)>>=λo=>pure o.cls) _ p h t _
  rw[Zh]
  refine Vw ha ?_
  show sw (denote Zzh) S n₀ (typeLookup (.type "dict") "__iter__") _ p h t _
  rw[F.slot_dict_iter.lookup]
  exact q'
 unfold mergeMapping
 rw[Zh]
 unfold isInstance
 rw[Zh]
 show sw (denote Zzh) S n₀ (loadPart a (some headPart)>>=λo=>pure o.cls) _ p h t _
 rw[Zh]
 refine Vw ha ?_
 rw[XN]
 show sw (denote Zzh) S n₀ (isSubtype (.type "dict") (.type "dict")) _ p h t _
 rw[isSubtype_dict_dict,XN]
 rw[if_pos rfl,Zh]
 refine sp _ _ ?_
 have e1:(some (Zw0 "dict.__iter__")==some (Zw0 "dict.__iter__"))=true:=by simp
 rw[e1,pure_bind]
 dsimp only
 rw[if_neg (by rw[hs];exact Zz6),Zh]
 refine QG ho ?_
 have e2:(Zr ys).isEmpty=false:=by
  cases ys with
  |nil=>exact absurd rfl hy
  |cons=>rfl
 rw[e2,if_neg Zz6,Zh]
 refine QG ha ?_
 rw[Zh]
 refine MG ha ?_
 rw[Zh,Qj,List.range_eq_range']
 refine GA (zs:=xs) (m:=m) WQ _ ?_ xs 0 ys n p h t _ _ rfl ho ha hA hl hQ
 intro i x zU n' p' h' t' z' Q' hx IL Hb Ha UU eO
 rw[Zh]
 refine QG Hb ?_
 have e3:(Zr xs)[i]?=some (ent x):=by
  unfold Zr;simp [hx]
 rw[e3]
 dsimp only
 rw[Zh,YJ,if_neg Zz6]
 refine kP (.inl hd) IL (by rw[Qj];exact UU) Ha.fresh ?_
 rw[Qt IL,Zh]
 refine MG (es:=Zr xs) (n:=m) ((RO WQ).trans Hb) ?_
 rw[if_neg (by simp)]
 have e:(ZxQ (λN8=>N8.push ⟨hashInt x.1,Zwk x.1 x.2.1,x.2.2⟩) (Yi (Zr zU) n'))=Yi (Zr (zU++[x])) (n'+1):=by
  show Yi ((Zr zU).push (ent x)) (n'+1)=_
  rw[Kx]
 show Q' _ _ (put h' d (ZxQ (λN8=>N8.push ⟨hashInt x.1,Zwk x.1 x.2.1,x.2.2⟩) (Yi (Zr zU) n'))) _ _
 rw[e]
 exact eO
end
abbrev Item:=Option (Sem Zzy) × Sem Zzy
noncomputable def J4(p:Sem Zzy × Sem Zzy):Item:=(some p.1,p.2)
theorem Il(f:Item->Option Zzq × List (Sem Zzy × Sem Zzy)->Sem (ForInStep (Option Zzq × List (Sem Zzy × Sem Zzy))))(fl:List (Sem Zzy × Sem Zzy)->Option Zzq->Sem (Option Zzq))
 (h1:∀p main run,run.length+1<17->f (J4 p) (main,run)=pure (.yield (main,run++[p])))
 (h2:∀p main run,run.length+1=17->f (J4 p) (main,run)=(fl (run++[p]) main>>=λm=>pure (.yield (m,[])))) (rest:List Item):
 ∀(c:List (Sem Zzy × Sem Zzy)) (main:Option Zzq) (run:List (Sem Zzy × Sem Zzy)),c≠[]->run.length+c.length=17->
  forIn (c.map J4++rest) (main,run) f=(fl (run++c) main>>=λm=>forIn rest (m,[]) f)
 |[],_,_,h,_=>absurd rfl h
 | [p],main,run,_,hl=>by
   rw[ZzG,Zxw,Zwy,ZxU,Zys,h2 p main run (by simpa using hl)]
   rw[bind_assoc]
   simp only[pure_bind]
 | p::p'::c,main,run,_,hl=>by
   rw[ZzG,Zwy,Zys,h1 p main run (by simp at hl;lia),pure_bind]
   have:=Il f fl h1 h2 rest (p'::c) main (run++[p]) (by simp) (by simp at hl ⊢;lia)
   simpa using this
theorem AK(f:Item->Option Zzq × List (Sem Zzy × Sem Zzy)->Sem (ForInStep (Option Zzq × List (Sem Zzy × Sem Zzy))))
 (h1:∀p main run,run.length+1<17->f (J4 p) (main,run)=pure (.yield (main,run++[p]))):
 ∀(c:List (Sem Zzy × Sem Zzy)) (main:Option Zzq) (run:List (Sem Zzy × Sem Zzy)),run.length+c.length<17->
  forIn (c.map J4) (main,run) f=pure (main,run++c)
 |[],main,run,_=>by simp
 | p::c,main,run,hl=>by
   rw[ZzG,Zys,h1 p main run (by simp at hl;lia),pure_bind]
   have:=AK f h1 c main (run++[p]) (by simp at hl ⊢;lia)
   simpa using this
noncomputable def Yp:Nat->List (List (Int × oO))->List XM
 |_,[]=>[]
 |t,c::cs=>ZP t c++Yp (t+3*c.length) cs
noncomputable def Vh(d:Zzq):Zza->Nat->List XM->Nat->List (List (Int × oO))->Zza
 |h,_,_,_,[]=>h
 |h,t,ys,n,c::cs=>Vh d (put (h.push (Yi (Zr (ZP t c)) c.length)) d (Yi (Zr (ys++ZP t c)) (n+c.length))) (t+3*c.length) (ys++ZP t c) (n+c.length) cs
section
variable {S:ZuQ}{n₀:Nat}
theorem Apart.right  (hA:Apart (xs++ys)):Apart ys:=by
 unfold Apart at hA ⊢
 rw[Zz9,Zwg] at hA
 exact hA.2.1
noncomputable def CG(d:Zzq)(run:List (Sem Zzy × Sem Zzy)):Sem (Option Zzq):=do
 let sub <-holding [.ref d] (subDict run)
 (holding [.ref d,.ref sub] (mergeMapping d (.ref sub) false)).onRaise λx=>do let _ <-holding [.ref d,x] (runValue (.builtin "proto.let_go" {}))
 return some d
theorem MI      {c:List (Int × oO)}  (hd:n₀<=d)(hs:sysModules<n₀)(ho:h.get? d=some (Yi (Zr ys) n))(hy:ys≠[])
 (hA:Apart (ys++ts)) (hl:ys.length+ts.length<100000) (kx:∀Q':Zzq->Pos->Zza->Nat->Nat->Prop,Q' h.objs.size q (h.push (Yi (Zr ts) ts.length)) (t+3*ts.length) (z+e₀)->sw (denote Zzh) S n₀ (subDict (c.map (pr q))) Q' p h t z)
 (hQ:Q (some d) q (put (h.push (Yi (Zr ts) ts.length)) d (Yi (Zr (ys++ts)) (n+ts.length))) (t+3*ts.length) (z+e₀+5+6*ts.length)):sw (denote Zzh) S n₀ (CG d (c.map (pr q))) Q p h t z:=by
 unfold CG
 have YN:d<h.objs.size:=M5 ho
 rw[Zh,YJ]
 refine kx _ ?_
 rw[Zh]
 refine SK _ _ _ _ _ _ _ ?_
 rw[YJ]
 refine Oh hd (beq_eq_false_iff_ne.mpr (λe=>?_)) (ZzR YN) (DK ho) (Ja rfl) hy hA hl ?_
 ·have h1:n₀<=h.objs.size:=oP hd (Zzs YN)
  rw[e] at h1
  exact absurd hs (Zwr.mpr h1)
 ·exact hQ
theorem A4   (hd:n₀<=d)(hs:sysModules<n₀)(f:Item->Option Zzq × List (Sem Zzy × Sem Zzy)->Sem (ForInStep (Option Zzq × List (Sem Zzy × Sem Zzy))))(fl:List (Sem Zzy × Sem Zzy)->Option Zzq->Sem (Option Zzq))
 (h1:∀p main run,run.length+1<17->f (J4 p) (main,run)=pure (.yield (main,run++[p])))
 (h2:∀p main run,run.length+1=17->f (J4 p) (main,run)=(fl (run++[p]) main>>=λm=>pure (.yield (m,[]))))
 (h3:∀run,run≠[]->fl run (some d)=CG d run) (last:List (Sem Zzy × Sem Zzy)) (xn:last.length<17):
 ∀(cs:List (List (Int × oO))) (p:Pos) (h:Zza) (t z n:Nat) (ys:List XM) (Q:Option Zzq × List (Sem Zzy × Sem Zzy)->Pos->Zza->Nat->Nat->Prop),(∀c∈cs,c.length=17)->h.get? d=some (Yi (Zr ys) n)->ys≠[]->
  Apart (ys++Yp t cs)->ys.length+(Yp t cs).length<100000->
  Q (some d,last) (if cs.isEmpty then p else q) (Vh d h t ys n cs) (t+51*cs.length) (z+330*cs.length)->
  sw (denote Zzh) S n₀ (forIn (((cs.flatten.map (pr q))++last).map J4) (some d,[]) f) Q p h t z
 | [],p,h,t,z,n,ys,Q,_,ho,hy,hA,hl,hQ=>by
   simp only[List.flatten_nil,Zxw,ZxU]
   rw[AK f h1 last (some d) [] (by simpa using xn),XN]
   exact hQ
 | c::cs,p,h,t,z,n,ys,Q,hc,ho,hy,hA,hl,hQ=>by
   have Gm:c.length=17:=hc c (by simp)
   have WQ:c.map (pr q)≠[]:=by
    intro e
    have:=congrArg ZyQ e
    simp [Gm] at this
   simp only[List.flatten_cons,Zz9]
   rw[Zzo,Il f fl h1 h2 _ (c.map (pr q)) (some d) [] WQ (by simp [Gm]),ZxU,h3 _ WQ,Zh]
   have e1:ys++Yp t (c::cs)=(ys++ZP t c)++Yp (t+3*c.length) cs:=(Zzo ..).symm
   have Ha:Apart (ys++ZP t c):=by rw[e1] at hA;exact hA.left
   have UU:ys.length+(ZP t c).length+(Yp (t+3*c.length) cs).length<100000:=by
    have e3:(Yp t (c::cs)).length=(ZP t c).length+(Yp (t+3*c.length) cs).length:=Zzd
    rw[ZzA,<-e3];exact hl
   have YN:d<h.objs.size:=M5 ho
   refine MI (ts:=ZP t c) (e₀:=2+13*c.length) hd hs ho hy Ha (Zz4 (Zzt _ _) UU) (λQ' hq=>?_) ?_
   ·refine CM (oP hd (Zzs YN)) (by rw[Gm];decide) (by rw[Gm];decide) Ha.right ?_
    rw[WG] at hq
    rw[ZzA z 2]
    exact hq
   ·rw[WG]
    have:=A4 hd hs f fl h1 h2 h3 last xn cs q (put (h.push (Yi (Zr (ZP t c)) c.length)) d (Yi (Zr (ys++ZP t c)) (n+c.length))) (t+3*c.length) (z+(2+13*c.length)+5+6*c.length) (n+c.length) (ys++ZP t c) Q
     (λc' Kq=>hc c' (by simp [Kq])) (Kn (DK ho) rfl) (by simp [hy]) (by rw[e1] at hA;exact hA) (by rw[Zzd];exact UU) (by
      have e3:(if cs.isEmpty then q else q)=q:=ite_self _
      rw[e3,show t+3*c.length+51*cs.length=t+51*(c::cs).length by rw[Gm];exact JL t 51 _,show z+(2+13*c.length)+5+6*c.length+330*cs.length=z+330*(c::cs).length by rw[Gm];exact JL z 330 _]
      exact hQ)
    simpa only [Zz9] using this
theorem GL(d:Zzq):∀(cs:List (List (Int × oO))) (h:Zza) (t:Nat) (ys:List XM) (n:Nat),(∀c∈cs,c.length=17)->h.get? d=some (Yi (Zr ys) n)->
 (Vh d h t ys n cs).get? d=some (Yi (Zr (ys++Yp t cs)) (n+17*cs.length))
 |[],h,t,ys,n,_,ho=>(ZyZ ys).symm ▸ ho
 | c::cs,h,t,ys,n,hc,ho=>by
   have Gm:c.length=17:=hc c (by simp)
   have:=GL d cs (put (h.push (Yi (Zr (ZP t c)) c.length)) d (Yi (Zr (ys++ZP t c)) (n+c.length))) (t+3*c.length) (ys++ZP t c) (n+c.length) (λc' h'=>hc c' (by simp [h'])) (Kn (DK ho) rfl)
   refine Eq.trans this ?_
   show _=some (Yi (Zr (_++(ZP t c++Yp (t+3*c.length) cs))) _)
   rw[Zzo,Gm,show n+17+17*cs.length=n+17*(c::cs).length from JL n 17 _]
noncomputable def Uj(run:List (Sem Zzy × Sem Zzy))(main:Option Zzq):Sem (Option Zzq):=
 if run.isEmpty=true then pure main else match main with
  | none=>do
    let x <-subDict run
    pure (some x)
  | some d=>do
    let sub <-holding [.ref d] (subDict run)
    (holding [.ref d,.ref sub] (mergeMapping d (.ref sub) false)).onRaise λx=>do
     let _ <-holding [.ref d,x] (runValue (.builtin "proto.let_go" {}))
     pure ()
    pure (some d)
theorem GN{run:List (Sem Zzy × Sem Zzy)}  (h:run≠[]):Uj run (some d)=CG d run:=by
 unfold Uj
 rw[if_neg (by simpa using h)]
 rfl
theorem SI{q p:Pos}       (hn:n₀<=h.objs.size)(hs:sysModules<n₀)
 (hc:c.length=17) (aP:∀c∈cs,c.length=17) (hl:l.length<=15) (aN:l≠[])
 (hA:Apart (ZP t c++Yp (t+51) cs++Xs (t+51+51*cs.length) l)) (hlen:17+(Yp (t+51) cs).length+l.length<100000)
 (hQ:Q (.ref h.objs.size) q
  (put ((Vh h.objs.size (h.push (Yi (Zr (ZP t c)) 17)) (t+51) (ZP t c) 17 cs).push (Yi (Zr (Xs (t+51+51*cs.length) l)) l.length)) h.objs.size
   (Yi (Zr (ZP t c++Yp (t+51) cs++Xs (t+51+51*cs.length) l)) (17+17*cs.length+l.length))) (t+51+51*cs.length+3*l.length) (z+223+330*cs.length+6+19*l.length)):
 sw (denote Zzh) S n₀ (dictDisplay (((c.map (pr q)++cs.flatten.map (pr q))++l.map (pr q)).map J4)) Q p h t z:=by
 unfold dictDisplay
 dsimp only
 rw[Zh]
 refine wj (Q:=λ(a:Option Zzq × List (Sem Zzy × Sem Zzy)) p' h' t' z'=>sw (denote Zzh) S n₀ (Uj a.2 a.1>>=λx=>match x with |some d=>pure (Zwh d) |none=>newDict) Q p' h' t' z') (λa p' h' t' z' x=>x) _ _ _ _ _ ?_
 generalize hf:(λ(x:Item) (__s:Option Zzq × List (Sem Zzy × Sem Zzy))=>_)=f
 have h1:∀p main run,run.length+1<17->f (J4 p) (main,run)=pure (.yield (main,run++[p])):=by
  intro p main run hl
  rw[<-hf]
  dsimp only [J4]
  rw[if_neg (by simp;exact λe=>absurd hl (by rw[e];decide))]
 have h2:∀p main run,run.length+1=17->f (J4 p) (main,run)=(Uj (run++[p]) main>>=λm=>pure (.yield (m,[]))):=by
  intro p main run hl
  rw[<-hf]
  dsimp only [J4]
  rw[if_pos (by simp;exact Zxz hl)]
  rfl
 have WQ:c.map (pr q)≠[]:=by
  intro e
  have:=congrArg ZyQ e
  simp [hc] at this
 have tw:l.map (pr q)≠[]:=by simpa using aN
 rw[Zzo,Zz9,Il f Uj h1 h2 _ (c.map (pr q)) none [] WQ (by simp [hc]),ZxU,Zh]
 have ef:Uj (c.map (pr q)) none=(do let x <-subDict (c.map (pr q));pure (some x)):=by
  unfold Uj
  rw[if_neg (by simpa using WQ)]
 rw[ef,Zh]
 refine CM hn (by rw[hc];decide) (by rw[hc];decide) hA.left.left ?_
 rw[XN,hc]
 refine A4 (q:=q) (d:=h.objs.size) hn hs f Uj h1 h2 (λrun hr=>GN hr) (l.map (pr q)) (by simp;exact Zz4 hl oD) cs q (h.push (Yi (Zr (ZP t c)) 17)) (t+3*17) (z+2+13*17) 17 (ZP t c) _ aP
  (Ja rfl) (by intro e;have:=congrArg ZyQ e;rw[WG,hc] at this;simp at this) hA.left (by rw[WG,hc];have hz:=hlen;rw[show t+51=t+3*17 from rfl] at hz;exact Zz4 (Zzt _ _) hz) ?_
 have e3:(if cs.isEmpty then q else q)=q:=ite_self _
 rw[e3]
 dsimp only
 rw[GN tw,Zh]
 have hg:=GL h.objs.size cs (h.push (Yi (Zr (ZP t c)) 17)) (t+51) (ZP t c) 17 aP (Ja rfl)
 have YN:=M5 hg
 refine MI (ts:=Xs (t+51+51*cs.length) l) (e₀:=1+13*l.length) hn hs hg (by intro e;have:=congrArg ZyQ e;rw[Zzd,WG,hc] at this;simp at this) hA (by rw[Zzd,WG,V6,hc];exact hlen) (λQ' hq=>?_) ?_
 ·refine LH (oP hn (Zzs YN)) hl aN hA.right ?_
  rw[V6] at hq
  rw[show ∀z:Nat,z+1+13*l.length=z+(1+13*l.length) from λz=>ZzA z 1 _]
  exact hq
 ·rw[V6]
  rw[show z+2+13*17+330*cs.length+(1+13*l.length)+5+6*l.length=z+223+330*cs.length+6+19*l.length by lia]
  exact hQ
end
end Mine.Internal.Hd
end
section
open PySem PySem.W PyProof.Rows
namespace Mine.Internal.Hd
noncomputable def kh(c:Const):Option Int:=match c with |.int i=>some i |_=>none
noncomputable def kl(c:Const):Option oO:=match c with |.str i=>some i |_=>none
theorem uh   (h:kh c=some i):c=.int i:=by cases c<;>first |exact nS h |exact congrArg _ (Zzv h)
theorem um   (h:kl c=some i):c=.str i:=by cases c<;>first |exact nS h |exact congrArg _ (Zzv h)
def datum(x:Option Zzw × Zzw):Option (Int × oO):=x.1.bind λk=>Ox k (λc _ _=>(kh c).bind λi=>Ox x.2 (λc _ _=>(kl c).map λt=>(i,t)) none) none
def dataOf(ks:List (Option Zzw))(vs:List Zzw):List (Int × oO):=(ks.zip vs).filterMap datum
def K7(ks:List (Option Zzw))(vs:List Zzw):Bool:=(ks.zip vs).all λx=>(datum x).isSome
theorem zc   {R:Prop}(h:(datum (k,v)).isSome=true)(q:∀i n p x n' p',k=some (.Constant (.int i) n p)->v=.Constant (.str x) n' p'->R):R:=
 (ZwG.mp h).elim λr h=>Zv h λk ek h=>Tj h (λc n p e1 h=>Zv h λi e2 h=>Tj h (λc' n' p' e3 h=>Y2 h λx e4 _=>q i n p x n' p' (uh e2 ▸ e1 ▸ ek) (um e4 ▸ e3)) nS) nS
theorem Lx(env:Env)(q:Pos):∀(ks:List (Option Zzw)) (vs:List Zzw),K7 ks vs=true->
 (evalEachOpt ks env).zip ((evalEach vs env).map λv=>do let x <-v;standAt q;pure x)=((dataOf ks vs).map (pr q)).map J4
 |[],vs,_=>by cases vs<;>rfl
 |k::ks,[],_=>by cases k<;>rfl
 | k::ks,v::vs,h=>by
   have h0:=Xw (h:((datum (k,v)).isSome&&K7 ks vs)=true)
   refine zc h0.1 λk' p n x' p' n' ek ev=>?_
   subst ek ev
   exact congrArg (_::·) (Lx env q ks vs h0.2)
noncomputable def Wo:Nat->List (Int × oO)->List (List (Int × oO))
 |0,_=>[]
 |n+1,l=>l.take 17::Wo n (l.drop 17)
theorem QC:∀(n:Nat) (l:List (Int × oO)),(Wo n l).flatten++l.drop (17*n)=l
 |0,l=>rfl
 | n+1,l=>by
   have:=QC n (l.drop 17)
   rw[ZwM] at this
   show (l.take 17++(Wo n (l.drop 17)).flatten)++_=_
   rw[Zzo,show 17*(n+1)=17+17*n from ZzT _ _,this,Zxm]
theorem Bw:∀(n:Nat) (l:List (Int × oO)),17*n<=l.length->∀c∈Wo n l,c.length=17
 |0,l,_,c,hc=>nomatch hc
 | n+1,l,h,c,hc=>by
   rcases ZzN.mp hc with rfl |hc
   ·exact Zyc (oP (ZzV 17 (17*n)) h)
   ·exact Bw n (l.drop 17) (by rw[ZzM];exact ZuH h) c hc
theorem Ir:∀(n:Nat) (l:List (Int × oO)),(Wo n l).length=n
 |0,_=>rfl
 |n+1,l=>congrArg (·+1) (Ir n _)
noncomputable def grows:Int->List (Int × oO)->Bool
 |_,[]=>true
 |b,(k,_)::r=>decide (b<k)&&decide (k<1000000000)&&grows k r
theorem IW  (h0:0<=k)(h1:k<1000000000):hashInt k=k:=by
 have ne:(k==-1)=false:=beq_eq_false_iff_ne.mpr λe=>absurd (e ▸ h0) oD
 have ha:(k.natAbs:Int)=k:=Int.natAbs_of_nonneg h0
 have YN:¬k<0:=Zx5.mpr h0
 have e:rawHash k=k:=by
  have hn:k.natAbs<1000000000:=ZyC.mp (by rw[ha];exact h1)
  have he:((k.natAbs:Int)%((2 ^ 61-1:Nat):Int))=k:=by
   rw[<-Int.natCast_emod,Nat.mod_eq_of_lt (ZxY hn oD),ha]
  show (if ((if k<0 then -((k.natAbs:Int)%((2 ^ 61-1:Nat):Int)) else ((k.natAbs:Int)%((2 ^ 61-1:Nat):Int)))==-1)=true then (-2:Int) else (if k<0 then -((k.natAbs:Int)%((2 ^ 61-1:Nat):Int)) else ((k.natAbs:Int)%((2 ^ 61-1:Nat):Int))))=k
  rw[he,if_neg YN,ne,if_neg Zz6]
 show (if (rawHash k==-1)=true then (-2:Int) else rawHash k)=k
 rw[e,ne];rfl
theorem HP    (h:grows b ((k,s)::r)=true):(b<k/\k<1000000000)/\grows k r=true:=⟨⟨of_decide_eq_true (Xw (Xw h).1).1,of_decide_eq_true (Xw (Xw h).1).2⟩,(Xw h).2⟩
theorem DB:∀(l:List (Int × oO)) (b:Int),grows b l=true->∀x∈l,b<x.1/\x.1<1000000000
 |[],_,_,x,hx=>by cases hx
 | (k,s)::r,b,h,x,hx=>by
   have h:=HP h
   rcases ZzN.mp hx with rfl |hx
   ·exact h.1
   ·have:=DB r k h.2 x hx
    exact⟨Int.lt_trans h.1.1 this.1,this.2⟩
theorem Di:∀(l:List (Int × oO)) (b:Int),0<=b+1->grows b l=true->(l.map λx=>hashInt x.1).Nodup
 |[],_,_,_=>Zv8
 | (k,s)::r,b,hb,h=>by
   have YN:=DB ((k,s)::r) b h
   have h:=HP h
   rw[ZzG,Zue]
   have R5:0<=k:=Zuz hb h.1.1
   refine⟨λhm=>?_,Di r k (Int.le_add_one R5) h.2⟩
   obtain⟨y,hy,e⟩:=Zyi.mp hm
   have h1:=DB r k h.2 y hy
   rw[IW (Zuz R5 (Zuw h1.1)) h1.2,IW R5 h.1.2] at e
   exact Int.lt_irrefl _ (e ▸ h1.1)
theorem Ia:∀(t:Nat) (l:List (Int × oO)),(ZP t l).map (·.1)=l.map (·.1)
 |_,[]=>rfl
 |t,(k,x)::r=>congrArg (k::·) (Ia _ r)
theorem Dx:∀(t:Nat) (l:List (Int × oO)),(Xs t l).map (·.1)=l.map (·.1)
 |_,[]=>rfl
 |t,(k,x)::r=>congrArg (k::·) (Dx _ r)
theorem IX:∀(t:Nat) (cs:List (List (Int × oO))),(Yp t cs).map (·.1)=cs.flatten.map (·.1)
 |_,[]=>rfl
 |t,c::cs=>Zz9.trans ((congr (congrArg _ (Ia _ c)) (IX _ cs)).trans Zz9.symm)
theorem GB:∀(t:Nat) (cs:List (List (Int × oO))),(Yp t cs).length=cs.flatten.length
 |_,[]=>rfl
 |t,c::cs=>Zzd.trans ((congr (congrArg _ (WG _ c)) (GB _ cs)).trans Zzd.symm)
noncomputable def Uu(h:Zza)(os:List Obj):Zza:=os.foldl Heap.push h
noncomputable def subs:Nat->List (List (Int × oO))->List Obj
 |_,[]=>[]
 |t,c::cs=>Yi (Zr (ZP t c)) c.length::subs (t+3*c.length) cs
theorem Lg(d:Zzq)(o:Obj):∀(cs:List (List (Int × oO))) (h:Zza) (t:Nat) (ys:List XM) (n:Nat),d<h.objs.size->put (Vh d h t ys n cs) d o=Uu (put h d o) (subs t cs)
 |[],h,t,ys,n,_=>rfl
 | c::cs,h,t,ys,n,hd=>by
   rw[show Vh d h t ys n (c::cs)=Vh d _ _ _ _ cs from rfl,Lg d o cs _ _ _ _ (by rw[DQ];show d<(h.objs.push _).size;rw[ZxV];exact ZyG hd),Fn,MB hd]
   rfl
theorem IV(d:Zzq):∀(cs:List (List (Int × oO))) (h:Zza) (t:Nat) (ys:List XM) (n:Nat),d<h.objs.size->d<(Vh d h t ys n cs).objs.size
 |[],h,t,ys,n,hd=>hd
 | c::cs,h,t,ys,n,hd=>by
   exact IV d cs _ _ _ _ (by rw[DQ];show d<(h.objs.push _).size;rw[ZxV];exact ZyG hd)
noncomputable def YF:BT->Nat->List Obj->BT
 |t,_,[]=>t
 |t,n,o::r=>YF (t.ins n o) (n+1) r
noncomputable def Nl:BT->Nat->List Obj->Bool
 |_,_,[]=>true
 |t,n,o::r=>((t.ins n o).get n).isSome&&Nl (t.ins n o) (n+1) r
theorem MA(life:Life):∀(os:List Obj) (t:BT) (n:Nat),Nl t n os=true->Uu (absHeap t n life) os=absHeap (YF t n os) (n+os.length) life
 |[],t,n,_=>rfl
 | o::r,t,n,h=>by
   have h:=Xw h
   show Uu ((absHeap t n life).push o) r=absHeap (YF (t.ins n o) (n+1) r) (n+(r.length+1)) life
   rw[<-absHeap_ins h.1,MA life r _ _ h.2,show n+1+r.length=n+(r.length+1) from (ZzA n 1 _).trans (congrArg (n+·) (ZzT 1 _))]
end Mine.Internal.Hd
namespace Mine.Internal.Hd
section
variable {P:ZxW}{w:Zzk}{n₀:Nat}{ann:Option Zzy}{env:Env}
def WL(t m:Nat)(data:List (Int × oO)):List Obj:=
 Yi (Zr (ZP t (data.take 17)++Yp (t+51) (Wo m (data.drop 17))++Xs (t+51+51*m) ((data.drop 17).drop (17*m)))) data.length ::
  subs (t+51) (Wo m (data.drop 17))++[Yi (Zr (Xs (t+51+51*m) ((data.drop 17).drop (17*m)))) ((data.drop 17).drop (17*m)).length]
theorem wg       (hn:n₀<=h.objs.size)(hs:sysModules<n₀)
 (hd:K7 ks vs=true) (hlen:(dataOf ks vs).length=17+17*m+r) (hr:0<r) (FC:r<=15) (hm:m<1000) (hg:grows (-1) (dataOf ks vs)=true)
 (hQ:Q (.ref h.objs.size) pd (Uu h (WL t m (dataOf ks vs))) (t+51+51*m+3*r) (z+1+223+330*m+6+19*r)):
 sw (denote Zzh) ⟨P,w.params⟩ n₀ (eval (.Dict ks vs pd) env) Q p h t z:=by
 generalize tn:dataOf ks vs=data at *
 rw[arm_eval_Dict,Lx env pd ks vs hd,tn,Zh,QI]
 have ph:(data.take 17).length=17:=Zyc (by rw[hlen,ZzA];exact Zzt 17 _)
 have hl:((data.drop 17).drop (17*m)).length=r:=by rw[ZzM,ZzM,hlen,ZzA,Zz2,Zz2]
 have g7:(((data.take 17).map (pr pd)++(Wo m (data.drop 17)).flatten.map (pr pd))++((data.drop 17).drop (17*m)).map (pr pd))=data.map (pr pd):=by
  rw[Zzo,<-Zz9,QC,<-Zz9,Zxm]
 have dG:Apart (ZP t (data.take 17)++Yp (t+51) (Wo m (data.drop 17))++Xs (t+51+51*m) ((data.drop 17).drop (17*m))):=by
  have:∀l:List XM,l.map (λx=>hashInt x.1)=(l.map (·.1)).map hashInt:=by intro l;rw[ZyD];rfl
  have hk:(ZP t (data.take 17)++Yp (t+51) (Wo m (data.drop 17))++Xs (t+51+51*m) ((data.drop 17).drop (17*m))).map (·.1)=data.map (·.1):=by
   rw[Zz9,Zz9,Ia,IX,Dx,Zzo,<-Zz9,QC,<-Zz9,Zxm]
  show (List.map (λx:XM=>hashInt x.1) _).Nodup
  rw[this,hk,ZyD]
  exact Di data (-1) oD hg
 rw[<-g7]
 refine SI (q:=pd) (c:=data.take 17) (cs:=Wo m (data.drop 17)) (l:=(data.drop 17).drop (17*m)) hn hs ph (Bw m _ (by rw[ZzM,hlen,ZzA,Zz2];exact Zzt _ _)) (by rw[hl];exact FC) (by
  intro e
  exact absurd (hl.symm.trans (congrArg ZyQ e)) (ZzE hr)) (by rw[Ir];exact dG) (by
   have:=congrArg ZyQ (QC m (data.drop 17))
   rw[Zzd,hl,ZzM,hlen,ZzA,Zz2] at this
   rw[GB,Nat.add_right_cancel this,hl]
   exact Zz4 (Zyy (Zzr (Zw7 17 (Zzs hm)) 17) FC) oD) ?_
 rw[Ir,hl]
 have hsz:h.objs.size<(h.push (Yi (Zr (ZP t (data.take 17))) 17)).objs.size:=by
  show _<(h.objs.push _).size
  rw[ZxV];exact ZxO _
 rw[MB (IV _ _ _ _ _ _ hsz),Lg _ _ _ _ _ _ _ hsz,BJ]
 have e1:Uu h (WL t m data)=(Uu (h.push (Yi (Zr (ZP t (data.take 17)++Yp (t+51) (Wo m (data.drop 17))++Xs (t+51+51*m) ((data.drop 17).drop (17*m)))) (17+17*m+r))) (subs (t+51) (Wo m (data.drop 17)))).push (Yi (Zr (Xs (t+51+51*m) ((data.drop 17).drop (17*m)))) r):=by
  unfold WL Uu
  rw[hl,hlen,Zwy,Zxh,Zq1]
  rfl
 rw[<-e1]
 exact hQ
theorem O1          {drawn:Drawn}{os:Zz8}{st:ZzZ}
 (Xk:st=.Assign tg (.Dict ks vs pd) p2) (rF:swapsWithSole tg (.Dict ks vs pd) p2.line env=pure false) (hn:n₀<=s) (hs:sysModules<n₀)
 (hd:K7 ks vs=true) (hlen:(dataOf ks vs).length=17+17*m+r) (hr:0<r) (FC:r<=15) (hm:m<1000) (hg:grows (-1) (dataOf ks vs)=true) (IM:Nl T s (WL t m (dataOf ks vs))=true)
 (tail:segRunT Zzh P w n₀ ann 1 N ⟨YF T s (WL t m (dataOf ks vs)),s+(WL t m (dataOf ks vs)).length,life,gens,drawn,t+51+51*m+3*r,os⟩
  ⟨((ZyU tg (.Dict ks vs pd) env>>=λx=>assignStores env (.ref s) x ((assignEach tg env).map (·.2))).wrap (λf=>match f with |.next=>doneF .next |f=>doneF f) deadEnd id id),c,pd,[fr]⟩=some (fl,S2,c',p')):
 segRun Zzh P w n₀ ann 1 (231+330*m+19*r+N) (SharedT.abs ⟨T,s,life,gens,drawn,t,os⟩) (piecesOf [st] env c p [fr])=some (fl,S2.abs,c',p'):=by
 have hsz:(absHeap T s life).objs.size=s:=absHeap_size T s life
 let tl:Zzy->Sem Flow:=λv=>ZyU tg (.Dict ks vs pd) env>>=λx=>assignStores env v x ((assignEach tg env).map (·.2))
 have e0:exec st env=((standAt p2>>=λ_=>eval (.Dict ks vs pd) env)>>=tl):=by
  rw[Xk,arm_exec_Assign,rF,bind_assoc]
  refine congrArg (λf=>standAt p2>>=f) (funext λ_=>?_)
  rw[pure_bind,if_neg Zz6]
 have e1:(execs [st] env).wrap doneF deadEnd id id=(standAt p2>>=λ_=>eval (.Dict ks vs pd) env).wrap (λv=>(tl v).wrap (λf=>match f with |.next=>doneF .next |f=>doneF f) deadEnd id id) deadEnd id id:=by
  rw[execs_cons_wrap,e0,Sem.bind_eq_wrap',Sem.wrap_wrap]
  rfl
 have h1:sw (denote Zzh) ⟨P,w.params⟩ n₀ (standAt p2>>=λ_=>eval (.Dict ks vs pd) env) (λa q h' t' z'=>a=.ref s/\q=pd/\h'=Uu (absHeap T s life) (WL t m (dataOf ks vs))/\t'=t+51+51*m+3*r/\z'=231+330*m+19*r)
  p (absHeap T s life) t 0:=by
  rw[Zh,QI]
  refine wg (by rw[hsz];exact hn) hs hd hlen hr FC hm hg ⟨by rw[hsz],rfl,rfl,rfl,by lia⟩
 obtain⟨n,a,q,h',t',⟨rfl,rfl,rfl,rfl,hz⟩,f⟩:=kE (ann:=ann) (c:=c) (fr:=fr) (K:=λv=>(tl v).wrap (λf=>match f with |.next=>doneF .next |f=>doneF f) deadEnd id id) (H:=deadEnd) (gd:=id) (lv:=id) gens drawn os _ _ _ _ _ _ h1
 rw[ZzP] at hz
 subst hz
 show segRun Zzh P w n₀ ann 1 _ ⟨absHeap T s life,gens,drawn,t,os⟩ ⟨(execs [st] env).wrap doneF deadEnd id id,c,p,[fr]⟩=_
 rw[e1]
 refine f N _ ?_
 rw[MA life _ _ _ IM]
 exact segRun_of tail
end
end Mine.Internal.Hd
end
section
open PySem PySem.W PyProof.Rows
namespace Mine.Internal.Uy
open Mine.Internal.Hd
abbrev prog:ZxW:=Zv9
noncomputable def S(x:String):oO:=ZzB x
def en(P:Zzn)(x:String)(t:Nat)(v:Zzy):ZxZ:=⟨PyData.keyHash P (S x),.str (S x) t,v⟩
def sv(x:String)(t:Nat):Zzy:=.str (S x) t
def eb(P:Zzn)(x:String)(t:Nat):ZxZ:=en P x t (.builtin x)
def et(P:Zzn)(x:String)(t:Nat):ZxZ:=en P x t (.type x)
noncomputable def ob(c:Zzy)(d:Data):Obj:=⟨c,none,d,#[]⟩
def tu(l:Array Zzy)(n:Nat):Obj:=ob (.type "tuple") (.seq l n)
def fi(l:Array Zzy):Obj:=ob .none (.fields l)
noncomputable def Hi:List ZzZ->Nat->ZzZ
 |[],_=>.Pass default
 |s::_,0=>s
 |_::r,n+1=>Hi r n
def fd(i:Nat):ZzZ:=Hi prog.main.body i
noncomputable def Nr{α:Type}(s:ZzZ)(d:α)(k:ZvW->List ZzZ->Zz0->α):α:=@ZxE (λ_=>α) s (λ_ a b _ _ _ sc _ _ _=>k a b sc) (λ_ _ _ _ _ _ _ _ _ _=>d) (λ_ _ _ _ _ _ _ _ _ _ _=>d) (λ_ _=>d) (λ_ _=>d) (λ_ _ _=>d) (λ_ _ _ _ _ _ _=>d) (λ_ _ _ _=>d) (λ_ _ _ _ _=>d) (λ_ _ _ _ _=>d) (λ_ _ _ _ _=>d) (λ_ _ _ _=>d) (λ_ _ _ _=>d) (λ_ _ _=>d) (λ_ _ _=>d) (λ_ _ _=>d) (λ_ _ _=>d) (λ_ _ _ _ _=>d) (λ_ _ _ _ _=>d) (λ_ _ _=>d) (λ_ _=>d) (λ_ _ _ _=>d) (λ_ _=>d) (λ_ _=>d) (λ_ _=>d) (λ_=>d) (λ_=>d) (λ_=>d)
def fc(i j:Nat):ZzZ:=@ZxE (λ_=>ZzZ) (fd i) (λ_ _ _ _ _ _ _ _ _ _=>(fd i)) (λ_ _ _ _ _ _ _ _ _ _=>(fd i)) (λ_ _ _ b _ _ _ _ _ _ _=>Hi b j) (λ_ _=>(fd i)) (λ_ _=>(fd i)) (λ_ _ _=>(fd i)) (λ_ _ _ _ _ _ _=>(fd i)) (λ_ _ _ _=>(fd i)) (λ_ _ _ _ _=>(fd i)) (λ_ _ _ _ _=>(fd i)) (λ_ _ _ _ _=>(fd i)) (λ_ _ _ _=>(fd i)) (λ_ _ _ _=>(fd i)) (λ_ _ _=>(fd i)) (λ_ _ _=>(fd i)) (λ_ _ _=>(fd i)) (λ_ _ _=>(fd i)) (λ_ _ _ _ _=>(fd i)) (λ_ _ _ _ _=>(fd i)) (λ_ _ _=>(fd i)) (λ_ _=>(fd i)) (λ_ _ _ _=>(fd i)) (λ_ _=>(fd i)) (λ_ _=>(fd i)) (λ_ _=>(fd i)) (λ_=>(fd i)) (λ_=>(fd i)) (λ_=>(fd i))
def fA(s:ZzZ):ZvW:=Nr s default λa _ _=>a
def fB(s:ZzZ):List ZzZ:=Nr s [] λ_ b _=>b
def fS(s:ZzZ):Zz0:=Nr s default λ_ _ s=>s
def mE(P:Zzn)(x:String)(t:Nat):List ZxZ:=[en P "__name__" 165 (sv x t),en P "__doc__" 166 .none,en P "__package__" 167 .none,en P "__loader__" 168 (.builtin "__main__.__loader__#opaque"),en P "__spec__" 169 .none,en P "__annotations__" 170 (.ref 6),en P "__builtins__" 171 (.ref 4),en P "__file__" 173 (sv "/claim/cut.py" 172),en P "__cached__" 174 .none,en P "_sre" 275 (.ref 12),en P "_wall" 288 (.ref 38),en P "ELLIPSIS_MARKER" 292 (sv "..." 291),en P "_ellipsis_match" 304 (.ref 45),en P "b1_set" 366 (.ref 53),en P "in_table_b1" 373 (.ref 63),en P "b3_exceptions" 2324 (.ref 64),en P "map_table_b3" 2332 (.ref 109),en P "tspecials" 2368 (.ref 114),en P "_name_disallowed_re" 2394 (.ref 119),en P "_value_disallowed_re" 2428 (.ref 124),en P "_formatparam" 2438 (.ref 132),en P "Headers" 2597 (.ref 255),en P "_law_great" 2607 (.ref 266),en P "_law_kinds" 2613 (.ref 271),en P "_law_pieces" 2623 (.ref 278),en P "_law_least" 2629 (.ref 283),en P "_law_page" 2635 (.ref 288),en P "law" 2641 (.ref 293)]
def mO(P:Zzn)(x:String)(t n k:Nat):Obj:=ob (.type "dict") (.dict ((mE P x t).take n).toArray k)
def TE(P:Zzn):BT:=YF .nil 0 [ob (.type "dict") (.dict #[en P "__name__" 1 (sv "builtins" 160),en P "__doc__" 2 (.builtin "builtins.__doc__:str#opaque"),en P "__package__" 3 (.builtin "builtins.__package__:str#opaque"),en P "__loader__" 4 (.builtin "builtins.__loader__:shared#opaque"),en P "__spec__" 5 (.builtin "builtins.__spec__#opaque"),eb P "__build_class__" 6,eb P "__import__" 7,eb P "abs" 8,eb P "all" 9,eb P "any" 10,eb P "ascii" 11,eb P "bin" 12,eb P "breakpoint" 13,eb P "callable" 14,eb P "chr" 15,eb P "compile" 16,eb P "delattr" 17,eb P "dir" 18,eb P "divmod" 19,eb P "eval" 20,eb P "exec" 21,eb P "format" 22,eb P "getattr" 23,eb P "globals" 24,eb P "hasattr" 25,eb P "hash" 26,eb P "hex" 27,eb P "id" 28,eb P "input" 29,eb P "isinstance" 30,eb P "issubclass" 31,eb P "iter" 32,eb P "aiter" 33,eb P "len" 34,eb P "locals" 35,eb P "max" 36,eb P "min" 37,eb P "next" 38,eb P "anext" 39,eb P "oct" 40,eb P "ord" 41,eb P "pow" 42,eb P "print" 43,eb P "repr" 44,eb P "round" 45,eb P "setattr" 46,eb P "sorted" 47,eb P "sum" 48,eb P "vars" 49,en P "None" 50 .none,en P "Ellipsis" 51 .ellipsis,en P "NotImplemented" 52 .notImplemented,en P "False" 53 (.bool false),en P "True" 54 (.bool true),et P "bool" 55,et P "memoryview" 56,et P "bytearray" 57,et P "bytes" 58,et P "classmethod" 59,et P "complex" 60,et P "dict" 61,et P "enumerate" 62,et P "filter" 63,et P "float" 64,et P "frozenset" 65,et P "property" 66,et P "int" 67,et P "list" 68,et P "map" 69,et P "object" 70,et P "range" 71,et P "reversed" 72,et P "set" 73,et P "slice" 74,et P "staticmethod" 75,et P "str" 76,et P "super" 77,et P "tuple" 78,et P "type" 79,et P "zip" 80,en P "__debug__" 81 (.bool true),et P "BaseException" 82,et P "BaseExceptionGroup" 83,et P "Exception" 84,et P "GeneratorExit" 85,et P "KeyboardInterrupt" 86,et P "SystemExit" 87,et P "ArithmeticError" 88,et P "AssertionError" 89,et P "AttributeError" 90,et P "BufferError" 91,et P "EOFError" 92,et P "ImportError" 93,et P "LookupError" 94,et P "MemoryError" 95,et P "NameError" 96,et P "OSError" 97,et P "ReferenceError" 98,et P "RuntimeError" 99,et P "StopAsyncIteration" 100,et P "StopIteration" 101,et P "SyntaxError" 102,et P "SystemError" 103,et P "TypeError" 104,et P "ValueError" 105,et P "Warning" 106,et P "FloatingPointError" 107,et P "OverflowError" 108,et P "ZeroDivisionError" 109,et P "BytesWarning" 110,et P "DeprecationWarning" 111,et P "EncodingWarning" 112,et P "FutureWarning" 113,et P "ImportWarning" 114,et P "PendingDeprecationWarning" 115,et P "ResourceWarning" 116,et P "RuntimeWarning" 117,et P "SyntaxWarning" 118,et P "UnicodeWarning" 119,et P "UserWarning" 120,et P "BlockingIOError" 121,et P "ChildProcessError" 122,et P "ConnectionError" 123,et P "FileExistsError" 124,et P "FileNotFoundError" 125,et P "InterruptedError" 126,et P "IsADirectoryError" 127,et P "NotADirectoryError" 128,et P "PermissionError" 129,et P "ProcessLookupError" 130,et P "TimeoutError" 131,et P "IndentationError" 132,et P "_IncompleteInputError" 133,et P "IndexError" 134,et P "KeyError" 135,et P "ModuleNotFoundError" 136,et P "NotImplementedError" 137,et P "PythonFinalizationError" 138,et P "RecursionError" 139,et P "UnboundLocalError" 140,et P "UnicodeError" 141,et P "BrokenPipeError" 142,et P "ConnectionAbortedError" 143,et P "ConnectionRefusedError" 144,et P "ConnectionResetError" 145,et P "TabError" 146,et P "UnicodeDecodeError" 147,et P "UnicodeEncodeError" 148,et P "UnicodeTranslateError" 149,et P "ExceptionGroup" 150,en P "EnvironmentError" 151 (.type "OSError"),en P "IOError" 152 (.type "OSError"),eb P "open" 153,en P "quit" 154 (.builtin "builtins.quit#opaque"),en P "exit" 155 (.builtin "builtins.exit#opaque"),en P "copyright" 156 (.builtin "builtins.copyright#opaque"),en P "credits" 157 (.builtin "builtins.credits#opaque"),en P "license" 158 (.builtin "builtins.license#opaque"),en P "help" 159 (.builtin "builtins.help#opaque")] 159),ob (.type "dict") (.dict #[en P "builtins" 162 (.ref 4),en P "__main__" 163 (.ref 5),en P "_sre" 244 (.ref 12)] 3),ob .none (.dict #[en P "im\x70ort.loaded._sre" 183 (.bool true),en P "class._frozen_importlib.BuiltinImporter" 185 (.ref 14),en P "watched.im\x70ort" 206 (.ref 18),en P "class._frozen_importlib.ModuleSpec" 216 (.ref 22),en P "sys.modules.booked-epoch" 245 (.int 3 0),en P "im\x70ort.later-laid._sre" 270 (.bool true),en P "watched.library" 272 (.ref 27),en P "watched.library-objects" 0 (sv "\x0c" 0),en P "watched.library-deep._sre" 273 (sv "\x04\x00\x00\x0b\x04\x00\x00\x0b\x04\x00\x00\x03\x04\x00\x00\x0b\x08\x04dict\x02" 0)] 9),mO P "__main__" 164 10 10,⟨(.type "module"),(some 0),.plain,#[]⟩,⟨(.type "module"),(some 3),.plain,#[]⟩,ob (.type "dict") (.dict #[] 0),tu #[] 0,fi #[],ob (.type "code") (.fields #[sv "<module>" 176,sv "<module>" 177,sv "/claim/cut.py" 178,.int 1 0,.int 0 0,.int 0 0,.int 0 0,.int 0 0,.ref 7,.bool false,.int 175 0,.ref 8,.none,.none,.none,.none,.int 179 0,.int 1 0,sv "/claim/cut.py" 180]),⟨(.type "frame"),none,.plain,#[(some (.ref 9)),(some (.ref 3)),(some (.ref 3)),none,(some (sv "__main__" 164)),none,(some (.ref 0))]⟩,ob (.type "dict") (.dict #[en P "__name__" 247 (sv "_sre" 246),en P "__doc__" 248 .none,en P "__package__" 250 (sv "" 249),en P "__loader__" 251 (.ref 14),en P "__spec__" 252 (.ref 26),en P "compile" 253 (.builtin "_sre.compile"),en P "template" 254 (.builtin "_sre.template"),en P "getcodesize" 255 (.builtin "_sre.getcodesize"),en P "ascii_iscased" 256 (.builtin "_sre.ascii_iscased"),en P "unicode_iscased" 257 (.builtin "_sre.unicode_iscased"),en P "ascii_tolower" 258 (.builtin "_sre.ascii_tolower"),en P "unicode_tolower" 259 (.builtin "_sre.unicode_tolower"),en P "MAGIC" 261 (.int 20230612 260),en P "CODESIZE" 263 (.int 4 262),en P "MAXREPEAT" 265 (.int 4294967295 264),en P "MAXGROUPS" 267 (.int 1073741823 266),en P "copyright" 269 (sv " SRE 2.2.2 Copyright (c) 1997-2002 by Secret Labs AB " 268)] 17),⟨(.type "module"),(some 11),.plain,#[]⟩,ob (.type "dict") (.dict #[en P "__module__" 189 (sv "_frozen_importlib" 186),en P "__firstlineno__" 190 (.int 971 187),en P "__doc__" 191 (.builtin "_frozen_importlib.BuiltinImporter.__doc__:str#opaque"),en P "_ORIGIN" 192 (sv "built-in" 188),en P "find_spec" 193 (.builtin "_frozen_importlib.BuiltinImporter.find_spec#opaque"),en P "create_module" 194 (.builtin "_frozen_importlib.BuiltinImporter.create_module#opaque"),en P "exec_module" 195 (.builtin "_frozen_importlib.BuiltinImporter.exec_module#opaque"),en P "get_code" 196 (.builtin "_frozen_importlib.BuiltinImporter.get_code#opaque"),en P "get_source" 197 (.builtin "_frozen_importlib.BuiltinImporter.get_source#opaque"),en P "is_package" 198 (.builtin "_frozen_importlib.BuiltinImporter.is_package#opaque"),en P "load_module" 199 (.builtin "_frozen_importlib.BuiltinImporter.load_module#opaque"),en P "__static_attributes__" 200 (.ref 15),en P "__dict__" 202 (.ref 16),en P "__weakref__" 204 (.ref 17)] 14),ob (.type "type") (.cls ⟨(S "BuiltinImporter"),[.type "object"],[.ref 14,.type "object"],13,(S "BuiltinImporter"),true,[],[],false,none,false⟩),tu #[] 0,ob (.type "getset_descriptor") (.fields #[sv "__dict__" 201,.ref 14,.builtin "function.__dict__",.builtin "function.__dict__#set"]),ob (.type "getset_descriptor") (.fields #[sv "__weakref__" 203,.ref 14,.builtin "ExceptionGroup.__weakref__",.none]),ob .none (.seq #[.int 13 0,sv "\x06\xbd\x0a__module__\x06\xba\x11_frozen_importlib\x06\xbe\x0f__firstlineno__\x04\xbb\x00\u03cb\x06\xbf\x07__doc__\x094_frozen_importlib.BuiltinImporter.__doc__:str#opaque\x06\xc0\x07_ORIGIN\x06\xbc\x08built-in\x06\xc1\x09find_spec\x092_frozen_importlib.BuiltinImporter.find_spec#opaque\x06\xc2\x0dcreate_module\x096_frozen_importlib.BuiltinImporter.create_module#opaque\x06\xc3\x0bexec_module\x094_frozen_importlib.BuiltinImporter.exec_module#opaque\x06\xc4\x08get_code\x091_frozen_importlib.BuiltinImporter.get_code#opaque\x06\xc5\x0aget_source\x093_frozen_importlib.BuiltinImporter.get_source#opaque\x06\xc6\x0ais_package\x093_frozen_importlib.BuiltinImporter.is_package#opaque\x06\xc7\x0bload_module\x094_frozen_importlib.BuiltinImporter.load_module#opaque\x06\xc8\x15__static_attributes__\x04\x00\x00\x0f\x06\xca\x08__dict__\x04\x00\x00\x10\x06\xcc\x0b__weakref__\x04\x00\x00\x11" 0,.bool true,.bool true,sv "" 205,.int 21 0,sv "\x06\xe3\x0a__module__\x06\xd9\x11_frozen_importlib\x06\xe4\x0f__firstlineno__\x04\xda\x00\u0232\x06\xe5\x07__doc__\x09/_frozen_importlib.ModuleSpec.__doc__:str#opaque\x06\xe6\x08__init__\x09,_frozen_importlib.ModuleSpec.__init__#opaque\x06\xe7\x08__repr__\x09,_frozen_importlib.ModuleSpec.__repr__#opaque\x06\xe8\x06__eq__\x09*_frozen_importlib.ModuleSpec.__eq__#opaque\x06\xe9\x06cached\x09*_frozen_importlib.ModuleSpec.cached#opaque\x06\xea\x06parent\x09*_frozen_importlib.ModuleSpec.parent#opaque\x06\xeb\x0chas_location\x090_frozen_importlib.ModuleSpec.has_location#opaque\x06\xec\x15__static_attributes__\x04\x00\x00\x17\x06\xee\x08__dict__\x04\x00\x00\x18\x06\xf0\x0b__weakref__\x04\x00\x00\x19\x06\xf1\x08__hash__\x00" 0,.bool true,.bool true,sv "" 242] 1),ob (.type "list") (.seq #[] 0),ob (.type "dict") (.dict #[en P "name" 208 (sv "_sre" 207),en P "loader" 209 (.ref 14),en P "origin" 210 (sv "built-in" 184),en P "loader_state" 211 .none,en P "submodule_search_locations" 212 .none,en P "_uninitialized_submodules" 213 (.ref 19),en P "_set_fileattr" 214 (.bool false),en P "_cached" 215 .none,en P "_initializing" 243 (.bool false)] 9),ob (.type "dict") (.dict #[en P "__module__" 227 (sv "_frozen_importlib" 217),en P "__firstlineno__" 228 (.int 562 218),en P "__doc__" 229 (.builtin "_frozen_importlib.ModuleSpec.__doc__:str#opaque"),en P "__init__" 230 (.builtin "_frozen_importlib.ModuleSpec.__init__#opaque"),en P "__repr__" 231 (.builtin "_frozen_importlib.ModuleSpec.__repr__#opaque"),en P "__eq__" 232 (.builtin "_frozen_importlib.ModuleSpec.__eq__#opaque"),en P "cached" 233 (.builtin "_frozen_importlib.ModuleSpec.cached#opaque"),en P "parent" 234 (.builtin "_frozen_importlib.ModuleSpec.parent#opaque"),en P "has_location" 235 (.builtin "_frozen_importlib.ModuleSpec.has_location#opaque"),en P "__static_attributes__" 236 (.ref 23),en P "__dict__" 238 (.ref 24),en P "__weakref__" 240 (.ref 25),en P "__hash__" 241 .none] 13),ob (.type "type") (.cls ⟨(S "ModuleSpec"),[.type "object"],[.ref 22,.type "object"],21,(S "ModuleSpec"),true,[],[],false,none,false⟩),tu #[sv "_cached" 219,sv "_set_fileattr" 220,sv "_uninitialized_submodules" 221,sv "loader" 222,sv "loader_state" 223,sv "name" 224,sv "origin" 225,sv "submodule_search_locations" 226] 0,ob (.type "getset_descriptor") (.fields #[sv "__dict__" 237,.ref 22,.builtin "function.__dict__",.builtin "function.__dict__#set"]),ob (.type "getset_descriptor") (.fields #[sv "__weakref__" 239,.ref 22,.builtin "ExceptionGroup.__weakref__",.none]),⟨(.ref 22),(some 20),.plain,#[]⟩,ob .none (.seq #[.int 11 0,(.str (Str.mk #[6,247,8,95,95,110,97,109,101,95,95,6,246,4,95,115,114,101,6,248,7,95,95,100,111,99,95,95,0,6,250,11,95,95,112,97,99,107,97,103,101,95,95,6,249,0,6,251,10,95,95,108,111,97,100,101,114,95,95,4,0,0,14,6,252,8,95,95,115,112,101,99,95,95,4,0,0,26,6,253,7,99,111,109,112,105,108,101,9,12,95,115,114,101,46,99,111,109,112,105,108,101,6,254,8,116,101,109,112,108,97,116,101,9,13,95,115,114,101,46,116,101,109,112,108,97,116,101,6,255,11,103,101,116,99,111,100,101,115,105,122,101,9,16,95,115,114,101,46,103,101,116,99,111,100,101,115,105,122,101,6,256,13,97,115,99,105,105,95,105,115,99,97,115,101,100,9,18,95,115,114,101,46,97,115,99,105,105,95,105,115,99,97,115,101,100,6,257,15,117,110,105,99,111,100,101,95,105,115,99,97,115,101,100,9,20,95,115,114,101,46,117,110,105,99,111,100,101,95,105,115,99,97,115,101,100,6,258,13,97,115,99,105,105,95,116,111,108,111,119,101,114,9,18,95,115,114,101,46,97,115,99,105,105,95,116,111,108,111,119,101,114,6,259,15,117,110,105,99,111,100,101,95,116,111,108,111,119,101,114,9,20,95,115,114,101,46,117,110,105,99,111,100,101,95,116,111,108,111,119,101,114,6,261,5,77,65,71,73,67,4,260,0,20230612,6,263,8,67,79,68,69,83,73,90,69,4,262,0,4,6,265,9,77,65,88,82,69,80,69,65,84,4,264,0,4294967295,6,267,9,77,65,88,71,82,79,85,80,83,4,266,0,1073741823,6,269,9,99,111,112,121,114,105,103,104,116,6,268,53,32,83,82,69,32,50,46,50,46,50,32,67,111,112,121,114,105,103,104,116,32,40,99,41,32,49,57,57,55,45,50,48,48,50,32,98,121,32,83,101,99,114,101,116,32,76,97,98,115,32,65,66,32]) 0),.bool true,.bool false,sv "_sre" 271] 0)]
def T0(P:Zzn):BT:=(((TE P)).set 11 λ_=>ob (.type "dict") (.dict #[en P "__name__" 247 (sv "_sre" 246),en P "__doc__" 248 .none,en P "__package__" 250 (sv "" 249),en P "__loader__" 251 (.builtin "off-the-table:_sre.__loader__:shared#opaque"),en P "__spec__" 252 (.builtin "off-the-table:_sre.__spec__:shared#opaque"),en P "compile" 253 (.builtin "_sre.compile"),en P "template" 254 (.builtin "off-the-table:_sre.template:shared#opaque"),en P "getcodesize" 255 (.builtin "off-the-table:_sre.getcodesize:shared#opaque"),en P "ascii_iscased" 256 (.builtin "off-the-table:_sre.ascii_iscased:shared#opaque"),en P "unicode_iscased" 257 (.builtin "off-the-table:_sre.unicode_iscased:shared#opaque"),en P "ascii_tolower" 258 (.builtin "off-the-table:_sre.ascii_tolower:shared#opaque"),en P "unicode_tolower" 259 (.builtin "off-the-table:_sre.unicode_tolower:shared#opaque"),en P "MAGIC" 261 (.int 20230612 260),en P "CODESIZE" 263 (.int 4 262),en P "MAXREPEAT" 265 (.int 4294967295 264),en P "MAXGROUPS" 267 (.int 1073741823 266),en P "copyright" 269 (sv " SRE 2.2.2 Copyright (c) 1997-2002 by Secret Labs AB " 268)] 17))
def TA(P:Zzn):BT:=YF (T0 P) 28 [tu #[] 0,fi #[],ob (.type "code") (.fields #[sv "<module>" 277,sv "<module>" 278,sv "/claim/cut.py" 279,.int 1 0,.int 0 0,.int 0 0,.int 0 0,.int 0 0,.ref 28,.bool false,.int 276 0,.ref 29,.none,.none,.none,.none,.int 280 0,.int 1 0,sv "/claim/cut.py" 281]),⟨(.type "frame"),none,.plain,#[(some (.ref 30)),(some (.ref 3)),(some (.ref 3)),none,(some (sv "__main__" 164)),none,(some (.ref 0))]⟩]
def TB(P:Zzn):BT:=(TA P)
noncomputable def ann:Option Zzy:=(some (.ref 6))
def bK(w:Zzk)(os:Zz8):ZyX:=⟨TE w.params,28,{},#[],{},276,os⟩
def uK(w:Zzk)(os:Zz8):ZyX:=⟨T0 w.params,28,{},#[],{},276,os⟩
def bI(w:Zzk)(os:Zz8):ZyX:=⟨TA w.params,32,{},#[],{},282,os⟩
def Y0(w:Zzk)(os:Zz8):ZyX:=⟨TB w.params,32,{},#[],{},282,os⟩
noncomputable def env:Env:={ scope:=prog.main.scope,locals:=mainNs,globals:=mainNs,cells:=[],code:=(.ref 30),frame:=some 31 }
def cE:Code:=.body (behindTheImports prog) env
noncomputable def jD:Pos:=⟨0,0,0,0⟩
noncomputable def posB:Pos:=⟨0,0,0,0⟩
noncomputable def XZ:Pos:=⟨0,0,0,0⟩
noncomputable def dj(P:Zzn):Obj:=ob (.type "code") (.fields #[sv "_wall" 282,sv "_wall" 283,sv "/claim/cut.py" 284,.int 2 0,.int 1 0,.int 0 0,.int 0 0,.int 3 0,.ref 32,.bool true,.int 276 0,.ref 33,.none,.ref 34,.ref 35,.ref 36,.int 286 0,.int 2 0,sv "/claim/cut.py" 287])
noncomputable def dq(P:Zzn):Obj:=ob (.type "function") (.func ⟨(S "_wall"),(S "_wall"),fA (fd 1),.stmts (fB (fd 1)),fS (fd 1),3,[],.none,.none,.none,sv "__main__" 164,none,.ref 37,.none,0⟩)
def T1(P:Zzn):BT:=YF (((((TB P)).set 3 λ_=>mO P "__main__" 164 11 11)).set 29 λ_=>fi #[.int 2 0,.int 0 0,.ref 37]) 32 [tu #[] 0,fi #[],tu #[sv "k" 285] 0,tu #[] 0,ob .none (.func ⟨(S "_wall"),(S "_wall"),fA (fd 1),.stmts (fB (fd 1)),fS (fd 1),0,[],.none,.none,.none,.none,none,.none,.none,0⟩),dj P,dq P]
def bB(w:Zzk)(os:Zz8):ZyX:=⟨T1 w.params,39,{},#[],{},289,os⟩
noncomputable def jL:Pos:=⟨2,0,4,12⟩
def T2(P:Zzn):BT:=(((T1 P)).set 3 λ_=>mO P "cpy313.doctest" 289 11 11)
def Ri(w:Zzk)(os:Zz8):ZyX:=⟨T2 w.params,39,{},#[],{},291,os⟩
noncomputable def My:Pos:=⟨5,0,5,8⟩
def T3(P:Zzn):BT:=(((T2 P)).set 3 λ_=>mO P "cpy313.doctest" 289 12 12)
def bC(w:Zzk)(os:Zz8):ZyX:=⟨T3 w.params,39,{},#[],{},293,os⟩
noncomputable def jM:Pos:=⟨6,0,6,15⟩
noncomputable def Na(P:Zzn):Obj:=ob (.type "code") (.fields #[sv "_ellipsis_match" 293,sv "_ellipsis_match" 294,sv "/claim/cut.py" 295,.int 7 0,.int 2 0,.int 0 0,.int 0 0,.int 3 0,.ref 39,.bool true,.int 276 0,.ref 40,.none,.ref 41,.ref 42,.ref 43,.int 302 0,.int 7 0,sv "/claim/cut.py" 303])
noncomputable def C2(P:Zzn):Obj:=ob (.type "function") (.func ⟨(S "_ellipsis_match"),(S "_ellipsis_match"),fA (fd 4),.stmts (fB (fd 4)),fS (fd 4),3,[],.none,.none,.none,sv "cpy313.doctest" 289,none,.ref 44,.none,0⟩)
def T4(P:Zzn):BT:=YF (((((T3 P)).set 3 λ_=>mO P "cpy313.doctest" 289 13 13)).set 29 λ_=>fi #[.int 2 0,.int 0 0,.ref 37,.int 7 0,.int 0 0,.ref 44]) 39 [tu #[] 0,fi #[],tu #[sv "want" 296,sv "got" 297,sv "ws" 298,sv "startpos" 299,sv "endpos" 300,sv "w" 301] 0,tu #[] 0,ob .none (.func ⟨(S "_ellipsis_match"),(S "_ellipsis_match"),fA (fd 4),.stmts (fB (fd 4)),fS (fd 4),0,[],.none,.none,.none,.none,none,.none,.none,0⟩),Na P,C2 P]
def bD(w:Zzk)(os:Zz8):ZyX:=⟨T4 w.params,46,{},#[],{},305,os⟩
noncomputable def jN:Pos:=⟨7,0,34,15⟩
def T5(P:Zzn):BT:=(((T4 P)).set 3 λ_=>mO P "cpy313.stringprep" 305 13 13)
def uJ(w:Zzk)(os:Zz8):ZyX:=⟨T5 w.params,46,{},#[],{},307,os⟩
noncomputable def PK:Pos:=⟨35,0,35,8⟩
def T6(P:Zzn):BT:=YF (((T5 P)).set 3 λ_=>mO P "cpy313.stringprep" 305 14 14) 46 [ob (.type "list") (.seq #[.int 173 307,.int 847 308,.int 6150 309,.int 6155 310,.int 6156 311,.int 6157 312,.int 8203 313,.int 8204 314,.int 8205 315,.int 8288 316,.int 65279 317] 0),ob (.type "range") (.fields #[.int 65024 318,.int 65040 319,.int 1 320]),ob (.type "list") (.seq #[.int 65024 323,.int 65025 324,.int 65026 325,.int 65027 326,.int 65028 327,.int 65029 328,.int 65030 329,.int 65031 330,.int 65032 331,.int 65033 332,.int 65034 333,.int 65035 334,.int 65036 335,.int 65037 336,.int 65038 337,.int 65039 338] 18),ob (.type "range_iterator") (.fields #[.int 65040 0,.int 0 0,.int 1 0]),tu #[] 0,ob (.type "StopIteration") (.fields #[.ref 50,.none,.none,.none,.bool false,.none]),ob (.type "list") (.seq #[.int 173 307,.int 847 308,.int 6150 309,.int 6155 310,.int 6156 311,.int 6157 312,.int 8203 313,.int 8204 314,.int 8205 315,.int 8288 316,.int 65279 317,.int 65024 323,.int 65025 324,.int 65026 325,.int 65027 326,.int 65028 327,.int 65029 328,.int 65030 329,.int 65031 330,.int 65032 331,.int 65033 332,.int 65034 333,.int 65035 334,.int 65036 335,.int 65037 336,.int 65038 337,.int 65039 338] 0),ob (.type "set") (.set #[(65024,(.int 65024 323)),(65025,(.int 65025 324)),(65026,(.int 65026 325)),(65027,(.int 65027 326)),(65028,(.int 65028 327)),(65029,(.int 65029 328)),(6150,(.int 6150 309)),(65030,(.int 65030 329)),(65031,(.int 65031 330)),(65032,(.int 65032 331)),(65033,(.int 65033 332)),(6155,(.int 6155 310)),(6156,(.int 6156 311)),(6157,(.int 6157 312)),(8203,(.int 8203 313)),(8204,(.int 8204 314)),(8205,(.int 8205 315)),(65034,(.int 65034 333)),(65035,(.int 65035 334)),(65036,(.int 65036 335)),(65037,(.int 65037 336)),(65038,(.int 65038 337)),(65039,(.int 65039 338)),(173,(.int 173 307)),(847,(.int 847 308)),(8288,(.int 8288 316)),(65279,(.int 65279 317))] 29 ⟨127,#[0,1,2,3,4,5,6,7,8,9,10,11,12,13,14,15,16,17,18,19,20,21,22,45,79,96,127],#[],0,!P.followText "set-order",2,true⟩),ob (.type "list_iterator") (.fields #[.none,.int 27 0]),tu #[] 0,ob (.type "StopIteration") (.fields #[.ref 55,.none,.none,.none,.bool false,.none])]
def uQ(w:Zzk)(os:Zz8):ZyX:=⟨T6 w.params,57,{},#[],{},367,os⟩
noncomputable def PJ:Pos:=⟨36,0,36,6⟩
noncomputable def Nb(P:Zzn):Obj:=ob (.type "code") (.fields #[sv "in_table_b1" 367,sv "in_table_b1" 368,sv "/claim/cut.py" 369,.int 37 0,.int 1 0,.int 0 0,.int 0 0,.int 3 0,.ref 57,.bool true,.int 276 0,.ref 58,.none,.ref 59,.ref 60,.ref 61,.int 371 0,.int 37 0,sv "/claim/cut.py" 372])
noncomputable def C1(P:Zzn):Obj:=ob (.type "function") (.func ⟨(S "in_table_b1"),(S "in_table_b1"),fA (fd 7),.stmts (fB (fd 7)),fS (fd 7),3,[],.none,.none,.none,sv "cpy313.stringprep" 305,none,.ref 62,.none,0⟩)
def T7(P:Zzn):BT:=YF (((((T6 P)).set 3 λ_=>mO P "cpy313.stringprep" 305 15 15)).set 29 λ_=>fi #[.int 2 0,.int 0 0,.ref 37,.int 7 0,.int 0 0,.ref 44,.int 37 0,.int 0 0,.ref 62]) 57 [tu #[] 0,fi #[],tu #[sv "code" 370] 0,tu #[] 0,ob .none (.func ⟨(S "in_table_b1"),(S "in_table_b1"),fA (fd 7),.stmts (fB (fd 7)),fS (fd 7),0,[],.none,.none,.none,.none,none,.none,.none,0⟩),Nb P,C1 P]
def bF(w:Zzk)(os:Zz8):ZyX:=⟨T7 w.params,64,{},#[],{},374,os⟩
noncomputable def jA:Pos:=⟨37,0,38,30⟩
def B7:ZzZ:=Hi (behindTheImports prog) 7
noncomputable def CY{α:Type}(s:ZzZ)(d:α)(k:List Zzw->Zzw->Pos->α):α:=@ZxE (λ_=>α) s (λ_ _ _ _ _ _ _ _ _ _=>d) (λ_ _ _ _ _ _ _ _ _ _=>d) (λ_ _ _ _ _ _ _ _ _ _ _=>d) (λ_ _=>d) (λ_ _=>d) (λt e p=>k t e p) (λ_ _ _ _ _ _ _=>d) (λ_ _ _ _=>d) (λ_ _ _ _ _=>d) (λ_ _ _ _ _=>d) (λ_ _ _ _ _=>d) (λ_ _ _ _=>d) (λ_ _ _ _=>d) (λ_ _ _=>d) (λ_ _ _=>d) (λ_ _ _=>d) (λ_ _ _=>d) (λ_ _ _ _ _=>d) (λ_ _ _ _ _=>d) (λ_ _ _=>d) (λ_ _=>d) (λ_ _ _ _=>d) (λ_ _=>d) (λ_ _=>d) (λ_ _=>d) (λ_=>d) (λ_=>d) (λ_=>d)
def k6:List Zzw:=CY B7 [] λt _ _=>t
def Gr:List (Option Zzw):=CY B7 [] λ_ e _=>Oy e (λk _ _=>k) []
def Gs:List Zzw:=CY B7 [] λ_ e _=>Oy e (λ_ v _=>v) []
def k7:Pos:=CY B7 default λ_ e _=>Oy e (λ_ _ p=>p) default
def k8:Pos:=CY B7 default λ_ _ p=>p
def tJ:List Obj:=WL 374 37 (dataOf Gr Gs)
def Xl(i:Nat):Obj:=match tJ[i]? with |some o=>o |none=>Yi #[] 0
def T8(P:Zzn):BT:=YF (((T7 P)).set 3 λ_=>mO P "cpy313.stringprep" 305 16 16) 64 [Xl 0,Xl 1,Xl 2,Xl 3,Xl 4,Xl 5,Xl 6,Xl 7,Xl 8,Xl 9,Xl 10,Xl 11,Xl 12,Xl 13,Xl 14,Xl 15,Xl 16,Xl 17,Xl 18,Xl 19,Xl 20,Xl 21,Xl 22,Xl 23,Xl 24,Xl 25,Xl 26,Xl 27,Xl 28,Xl 29,Xl 30,Xl 31,Xl 32,Xl 33,Xl 34,Xl 35,Xl 36,Xl 37,Xl 38]
def uU(w:Zzk)(os:Zz8):ZyX:=⟨T8 w.params,103,{},#[],{},2325,os⟩
noncomputable def jB:Pos:=⟨39,0,39,13⟩
noncomputable def CI(P:Zzn):Obj:=ob (.type "code") (.fields #[sv "map_table_b3" 2325,sv "map_table_b3" 2326,sv "/claim/cut.py" 2327,.int 40 0,.int 1 0,.int 0 0,.int 0 0,.int 3 0,.ref 103,.bool true,.int 276 0,.ref 104,.none,.ref 105,.ref 106,.ref 107,.int 2330 0,.int 40 0,sv "/claim/cut.py" 2331])
noncomputable def G5(P:Zzn):Obj:=ob (.type "function") (.func ⟨(S "map_table_b3"),(S "map_table_b3"),fA (fd 9),.stmts (fB (fd 9)),fS (fd 9),3,[],.none,.none,.none,sv "cpy313.stringprep" 305,none,.ref 108,.none,0⟩)
def T9(P:Zzn):BT:=YF (((((T8 P)).set 3 λ_=>mO P "cpy313.stringprep" 305 17 17)).set 29 λ_=>fi #[.int 2 0,.int 0 0,.ref 37,.int 7 0,.int 0 0,.ref 44,.int 37 0,.int 0 0,.ref 62,.int 40 0,.int 0 0,.ref 108]) 103 [tu #[] 0,fi #[],tu #[sv "code" 2328,sv "r" 2329] 0,tu #[] 0,ob .none (.func ⟨(S "map_table_b3"),(S "map_table_b3"),fA (fd 9),.stmts (fB (fd 9)),fS (fd 9),0,[],.none,.none,.none,.none,none,.none,.none,0⟩),CI P,G5 P]
def bG(w:Zzk)(os:Zz8):ZyX:=⟨T9 w.params,110,{},#[],{},2333,os⟩
noncomputable def jC:Pos:=⟨40,0,44,23⟩
def nR(P:Zzn):BT:=(((T9 P)).set 3 λ_=>mO P "cpy313.wsgiref.headers" 2333 17 17)
def jY(w:Zzk)(os:Zz8):ZyX:=⟨nR w.params,110,{},#[],{},2335,os⟩
noncomputable def yF:Pos:=⟨45,0,45,8⟩
def nT(P:Zzn):BT:=YF (((nR P)).set 3 λ_=>mO P "cpy313.wsgiref.headers" 2333 18 18) 110 [ob (.type "list") (.seq #[.int 14 2338,.int 14 2339,.int 4 2340,.int 1 2341,.int 1 2342,.int 9 2343,.int 0 2344,.int 4227896069 2345,.int 939524097 2346,.int 0 2347,.int 0 2348,.int 0 2349,.int 0 2350,.int 0 2351,.int 0 2352,.int 13 2353,.int 11 2354,.int 9 2355,.int 0 2356,.int 4227896069 2357,.int 939524097 2358,.int 0 2359,.int 0 2360,.int 0 2361,.int 0 2362,.int 0 2363,.int 0 2364,.int 1 2365] 0),ob (.type "dict") (.dict #[] 0),tu #[.none] 0,tu #[.int 14 0,.int 14 0,.int 4 0,.int 1 0,.int 1 0,.int 9 0,.int 0 0,.int 4227896069 0,.int 939524097 0,.int 0 0,.int 0 0,.int 0 0,.int 0 0,.int 0 0,.int 0 0,.int 13 0,.int 11 0,.int 9 0,.int 0 0,.int 4227896069 0,.int 939524097 0,.int 0 0,.int 0 0,.int 0 0,.int 0 0,.int 0 0,.int 0 0,.int 1 0] 0,ob (.type "re.Pattern") (.fields #[sv "[ \\(\\)<>@,;:\\\\\"/\\[\\]\\?=]" 2336,.int 32 2367,.int 0 0,.none,.none,.ref 113,.int 0 0])]
def jZ(w:Zzk)(os:Zz8):ZyX:=⟨nT w.params,115,{},#[],{},2369,os⟩
noncomputable def yG:Pos:=⟨46,0,46,9⟩
def nH(P:Zzn):BT:=YF (((nT P)).set 3 λ_=>mO P "cpy313.wsgiref.headers" 2333 19 19) 115 [ob (.type "list") (.seq #[.int 14 2372,.int 10 2373,.int 4 2374,.int 1 2375,.int 1 2376,.int 22 2377,.int 0 2378,.int 31 2379,.int 16 2380,.int 127 2381,.int 0 2382,.int 13 2383,.int 7 2384,.int 22 2385,.int 0 2386,.int 31 2387,.int 16 2388,.int 127 2389,.int 0 2390,.int 1 2391] 0),ob (.type "dict") (.dict #[] 0),tu #[.none] 0,tu #[.int 14 0,.int 10 0,.int 4 0,.int 1 0,.int 1 0,.int 22 0,.int 0 0,.int 31 0,.int 16 0,.int 127 0,.int 0 0,.int 13 0,.int 7 0,.int 22 0,.int 0 0,.int 31 0,.int 16 0,.int 127 0,.int 0 0,.int 1 0] 0,ob (.type "re.Pattern") (.fields #[sv "[\\x00-\\x1F\\x7F]" 2370,.int 32 2393,.int 0 0,.none,.none,.ref 118,.int 0 0])]
def j9(w:Zzk)(os:Zz8):ZyX:=⟨nH w.params,120,{},#[],{},2395,os⟩
noncomputable def yI:Pos:=⟨47,0,47,19⟩
def nA(P:Zzn):BT:=YF (((nH P)).set 3 λ_=>mO P "cpy313.wsgiref.headers" 2333 20 20) 120 [ob (.type "list") (.seq #[.int 14 2398,.int 14 2399,.int 4 2400,.int 1 2401,.int 1 2402,.int 9 2403,.int 4294966783 2404,.int 0 2405,.int 0 2406,.int 2147483648 2407,.int 0 2408,.int 0 2409,.int 0 2410,.int 0 2411,.int 0 2412,.int 13 2413,.int 11 2414,.int 9 2415,.int 4294966783 2416,.int 0 2417,.int 0 2418,.int 2147483648 2419,.int 0 2420,.int 0 2421,.int 0 2422,.int 0 2423,.int 0 2424,.int 1 2425] 0),ob (.type "dict") (.dict #[] 0),tu #[.none] 0,tu #[.int 14 0,.int 14 0,.int 4 0,.int 1 0,.int 1 0,.int 9 0,.int 4294966783 0,.int 0 0,.int 0 0,.int 2147483648 0,.int 0 0,.int 0 0,.int 0 0,.int 0 0,.int 0 0,.int 13 0,.int 11 0,.int 9 0,.int 4294966783 0,.int 0 0,.int 0 0,.int 2147483648 0,.int 0 0,.int 0 0,.int 0 0,.int 0 0,.int 0 0,.int 1 0] 0,ob (.type "re.Pattern") (.fields #[sv "[\\x00-\\x08\\x0A-\\x1F\\x7F]" 2396,.int 32 2427,.int 0 0,.none,.none,.ref 123,.int 0 0])]
def j8(w:Zzk)(os:Zz8):ZyX:=⟨nA w.params,125,{},#[],{},2429,os⟩
noncomputable def yK:Pos:=⟨48,0,48,20⟩
noncomputable def F4(P:Zzn):Obj:=ob (.type "code") (.fields #[sv "_formatparam" 2430,sv "_formatparam" 2431,sv "/claim/cut.py" 2432,.int 49 0,.int 3 0,.int 0 0,.int 0 0,.int 3 0,.ref 126,.bool true,.int 276 0,.ref 127,.none,.ref 128,.ref 129,.ref 130,.int 2436 0,.int 49 0,sv "/claim/cut.py" 2437])
noncomputable def K5(P:Zzn):Obj:=ob (.type "function") (.func ⟨(S "_formatparam"),(S "_formatparam"),fA (fd 14),.stmts (fB (fd 14)),fS (fd 14),3,[],.ref 125,.none,.none,sv "cpy313.wsgiref.headers" 2333,none,.ref 131,.none,0⟩)
def nB(P:Zzn):BT:=YF (((((nA P)).set 3 λ_=>mO P "cpy313.wsgiref.headers" 2333 21 21)).set 29 λ_=>fi #[.int 2 0,.int 0 0,.ref 37,.int 7 0,.int 0 0,.ref 44,.int 37 0,.int 0 0,.ref 62,.int 40 0,.int 0 0,.ref 108,.int 49 0,.int 0 0,.ref 131]) 125 [tu #[.none,.int 1 2429] 0,tu #[] 0,fi #[],tu #[sv "param" 2433,sv "value" 2434,sv "quote" 2435] 0,tu #[] 0,ob .none (.func ⟨(S "_formatparam"),(S "_formatparam"),fA (fd 14),.stmts (fB (fd 14)),fS (fd 14),0,[],.none,.none,.none,.none,none,.none,.none,0⟩),F4 P,K5 P]
def j7(w:Zzk)(os:Zz8):ZyX:=⟨nB w.params,133,{},#[],{},2439,os⟩
noncomputable def yJ:Pos:=⟨49,0,57,20⟩
noncomputable def F3(P:Zzn):Obj:=ob (.type "code") (.fields #[sv "__init__" 2451,sv "Headers.__init__" 2452,sv "/claim/cut.py" 2453,.int 60 0,.int 2 0,.int 0 0,.int 0 0,.int 3 0,.ref 141,.bool true,.int 276 0,.ref 142,.none,.ref 143,.ref 144,.ref 145,.int 2458 0,.int 60 0,sv "/claim/cut.py" 2459])
noncomputable def K4(P:Zzn):Obj:=ob (.type "function") (.func ⟨(S "__init__"),(S "Headers.__init__"),fA (fc 15 0),.stmts (fB (fc 15 0)),fS (fc 15 0),3,[],.ref 140,.none,.none,sv "cpy313.wsgiref.headers" 2333,none,.ref 146,.none,0⟩)
noncomputable def F2(P:Zzn):Obj:=ob (.type "code") (.fields #[sv "_convert_string_type" 2461,sv "Headers._convert_string_type" 2462,sv "/claim/cut.py" 2463,.int 70 0,.int 2 0,.int 0 0,.int 1 0,.int 3 0,.ref 148,.bool true,.int 276 0,.ref 149,.none,.ref 150,.ref 151,.ref 152,.int 2468 0,.int 70 0,sv "/claim/cut.py" 2469])
noncomputable def K3(P:Zzn):Obj:=ob (.type "function") (.func ⟨(S "_convert_string_type"),(S "Headers._convert_string_type"),fA (fc 15 1),.stmts (fB (fc 15 1)),fS (fc 15 1),3,[],.none,.none,.none,sv "cpy313.wsgiref.headers" 2333,none,.ref 153,.none,0⟩)
noncomputable def F1(P:Zzn):Obj:=ob (.type "code") (.fields #[sv "__len__" 2471,sv "Headers.__len__" 2472,sv "/claim/cut.py" 2473,.int 78 0,.int 1 0,.int 0 0,.int 0 0,.int 3 0,.ref 155,.bool true,.int 276 0,.ref 156,.none,.ref 157,.ref 158,.ref 159,.int 2475 0,.int 78 0,sv "/claim/cut.py" 2476])
noncomputable def K2(P:Zzn):Obj:=ob (.type "function") (.func ⟨(S "__len__"),(S "Headers.__len__"),fA (fc 15 2),.stmts (fB (fc 15 2)),fS (fc 15 2),3,[],.none,.none,.none,sv "cpy313.wsgiref.headers" 2333,none,.ref 160,.none,0⟩)
noncomputable def vh(P:Zzn):Obj:=ob (.type "code") (.fields #[sv "__setitem__" 2478,sv "Headers.__setitem__" 2479,sv "/claim/cut.py" 2480,.int 81 0,.int 3 0,.int 0 0,.int 0 0,.int 3 0,.ref 162,.bool true,.int 276 0,.ref 163,.none,.ref 164,.ref 165,.ref 166,.int 2484 0,.int 81 0,sv "/claim/cut.py" 2485])
noncomputable def vm(P:Zzn):Obj:=ob (.type "function") (.func ⟨(S "__setitem__"),(S "Headers.__setitem__"),fA (fc 15 3),.stmts (fB (fc 15 3)),fS (fc 15 3),3,[],.none,.none,.none,sv "cpy313.wsgiref.headers" 2333,none,.ref 167,.none,0⟩)
noncomputable def vn(P:Zzn):Obj:=ob (.type "code") (.fields #[sv "__delitem__" 2487,sv "Headers.__delitem__" 2488,sv "/claim/cut.py" 2489,.int 85 0,.int 2 0,.int 0 0,.int 0 0,.int 3 0,.ref 169,.bool true,.int 276 0,.ref 170,.none,.none,.none,.ref 171,.int 2490 0,.int 85 0,sv "/claim/cut.py" 2491])
noncomputable def vd(P:Zzn):Obj:=ob (.type "function") (.func ⟨(S "__delitem__"),(S "Headers.__delitem__"),fA (fc 15 4),.stmts (fB (fc 15 4)),fS (fc 15 4),3,[],.none,.none,.none,sv "cpy313.wsgiref.headers" 2333,none,.ref 172,.none,0⟩)
noncomputable def vf(P:Zzn):Obj:=ob (.type "code") (.fields #[sv "__getitem__" 2493,sv "Headers.__getitem__" 2494,sv "/claim/cut.py" 2495,.int 89 0,.int 2 0,.int 0 0,.int 0 0,.int 3 0,.ref 174,.bool true,.int 276 0,.ref 175,.none,.ref 176,.ref 177,.ref 178,.int 2498 0,.int 89 0,sv "/claim/cut.py" 2499])
noncomputable def vg(P:Zzn):Obj:=ob (.type "function") (.func ⟨(S "__getitem__"),(S "Headers.__getitem__"),fA (fc 15 5),.stmts (fB (fc 15 5)),fS (fc 15 5),3,[],.none,.none,.none,sv "cpy313.wsgiref.headers" 2333,none,.ref 179,.none,0⟩)
noncomputable def vi(P:Zzn):Obj:=ob (.type "code") (.fields #[sv "__contains__" 2501,sv "Headers.__contains__" 2502,sv "/claim/cut.py" 2503,.int 92 0,.int 2 0,.int 0 0,.int 0 0,.int 3 0,.ref 181,.bool true,.int 276 0,.ref 182,.none,.ref 183,.ref 184,.ref 185,.int 2506 0,.int 92 0,sv "/claim/cut.py" 2507])
noncomputable def vk(P:Zzn):Obj:=ob (.type "function") (.func ⟨(S "__contains__"),(S "Headers.__contains__"),fA (fc 15 6),.stmts (fB (fc 15 6)),fS (fc 15 6),3,[],.none,.none,.none,sv "cpy313.wsgiref.headers" 2333,none,.ref 186,.none,0⟩)
noncomputable def vj(P:Zzn):Obj:=ob (.type "code") (.fields #[sv "get_all" 2509,sv "Headers.get_all" 2510,sv "/claim/cut.py" 2511,.int 95 0,.int 2 0,.int 0 0,.int 0 0,.int 3 0,.ref 188,.bool true,.int 276 0,.ref 189,.none,.ref 190,.ref 191,.ref 192,.int 2514 0,.int 95 0,sv "/claim/cut.py" 2515])
noncomputable def vq(P:Zzn):Obj:=ob (.type "function") (.func ⟨(S "get_all"),(S "Headers.get_all"),fA (fc 15 7),.stmts (fB (fc 15 7)),fS (fc 15 7),3,[],.none,.none,.none,sv "cpy313.wsgiref.headers" 2333,none,.ref 193,.none,0⟩)
noncomputable def vu(P:Zzn):Obj:=ob (.type "code") (.fields #[sv "get" 2517,sv "Headers.get" 2518,sv "/claim/cut.py" 2519,.int 98 0,.int 3 0,.int 0 0,.int 0 0,.int 3 0,.ref 196,.bool true,.int 276 0,.ref 197,.none,.ref 198,.ref 199,.ref 200,.int 2525 0,.int 98 0,sv "/claim/cut.py" 2526])
noncomputable def vw(P:Zzn):Obj:=ob (.type "function") (.func ⟨(S "get"),(S "Headers.get"),fA (fc 15 8),.stmts (fB (fc 15 8)),fS (fc 15 8),3,[],.ref 195,.none,.none,sv "cpy313.wsgiref.headers" 2333,none,.ref 201,.none,0⟩)
noncomputable def vy(P:Zzn):Obj:=ob (.type "code") (.fields #[sv "keys" 2528,sv "Headers.keys" 2529,sv "/claim/cut.py" 2530,.int 105 0,.int 1 0,.int 0 0,.int 0 0,.int 3 0,.ref 203,.bool true,.int 276 0,.ref 204,.none,.none,.none,.ref 205,.int 2531 0,.int 105 0,sv "/claim/cut.py" 2532])
noncomputable def vz(P:Zzn):Obj:=ob (.type "function") (.func ⟨(S "keys"),(S "Headers.keys"),fA (fc 15 9),.stmts (fB (fc 15 9)),fS (fc 15 9),3,[],.none,.none,.none,sv "cpy313.wsgiref.headers" 2333,none,.ref 206,.none,0⟩)
noncomputable def wO(P:Zzn):Obj:=ob (.type "code") (.fields #[sv "values" 2534,sv "Headers.values" 2535,sv "/claim/cut.py" 2536,.int 108 0,.int 1 0,.int 0 0,.int 0 0,.int 3 0,.ref 208,.bool true,.int 276 0,.ref 209,.none,.none,.none,.ref 210,.int 2537 0,.int 108 0,sv "/claim/cut.py" 2538])
noncomputable def wR(P:Zzn):Obj:=ob (.type "function") (.func ⟨(S "values"),(S "Headers.values"),fA (fc 15 10),.stmts (fB (fc 15 10)),fS (fc 15 10),3,[],.none,.none,.none,sv "cpy313.wsgiref.headers" 2333,none,.ref 211,.none,0⟩)
noncomputable def wH(P:Zzn):Obj:=ob (.type "code") (.fields #[sv "items" 2540,sv "Headers.items" 2541,sv "/claim/cut.py" 2542,.int 111 0,.int 1 0,.int 0 0,.int 0 0,.int 3 0,.ref 213,.bool true,.int 276 0,.ref 214,.none,.ref 215,.ref 216,.ref 217,.int 2544 0,.int 111 0,sv "/claim/cut.py" 2545])
noncomputable def wL(P:Zzn):Obj:=ob (.type "function") (.func ⟨(S "items"),(S "Headers.items"),fA (fc 15 11),.stmts (fB (fc 15 11)),fS (fc 15 11),3,[],.none,.none,.none,sv "cpy313.wsgiref.headers" 2333,none,.ref 218,.none,0⟩)
noncomputable def wM(P:Zzn):Obj:=ob (.type "code") (.fields #[sv "__repr__" 2547,sv "Headers.__repr__" 2548,sv "/claim/cut.py" 2549,.int 114 0,.int 1 0,.int 0 0,.int 0 0,.int 3 0,.ref 220,.bool true,.int 276 0,.ref 221,.none,.ref 222,.ref 223,.ref 224,.int 2551 0,.int 114 0,sv "/claim/cut.py" 2552])
noncomputable def wN(P:Zzn):Obj:=ob (.type "function") (.func ⟨(S "__repr__"),(S "Headers.__repr__"),fA (fc 15 12),.stmts (fB (fc 15 12)),fS (fc 15 12),3,[],.none,.none,.none,sv "cpy313.wsgiref.headers" 2333,none,.ref 225,.none,0⟩)
noncomputable def F0(P:Zzn):Obj:=ob (.type "code") (.fields #[sv "__str__" 2554,sv "Headers.__str__" 2555,sv "/claim/cut.py" 2556,.int 117 0,.int 1 0,.int 0 0,.int 0 0,.int 3 0,.ref 227,.bool true,.int 276 0,.ref 228,.none,.none,.none,.ref 229,.int 2557 0,.int 117 0,sv "/claim/cut.py" 2558])
noncomputable def K1(P:Zzn):Obj:=ob (.type "function") (.func ⟨(S "__str__"),(S "Headers.__str__"),fA (fc 15 13),.stmts (fB (fc 15 13)),fS (fc 15 13),3,[],.none,.none,.none,sv "cpy313.wsgiref.headers" 2333,none,.ref 230,.none,0⟩)
noncomputable def wA(P:Zzn):Obj:=ob (.type "code") (.fields #[sv "__bytes__" 2560,sv "Headers.__bytes__" 2561,sv "/claim/cut.py" 2562,.int 120 0,.int 1 0,.int 0 0,.int 0 0,.int 3 0,.ref 232,.bool true,.int 276 0,.ref 233,.none,.ref 234,.ref 235,.ref 236,.int 2564 0,.int 120 0,sv "/claim/cut.py" 2565])
noncomputable def wB(P:Zzn):Obj:=ob (.type "function") (.func ⟨(S "__bytes__"),(S "Headers.__bytes__"),fA (fc 15 14),.stmts (fB (fc 15 14)),fS (fc 15 14),3,[],.none,.none,.none,sv "cpy313.wsgiref.headers" 2333,none,.ref 237,.none,0⟩)
noncomputable def wC(P:Zzn):Obj:=ob (.type "code") (.fields #[sv "setdefault" 2567,sv "Headers.setdefault" 2568,sv "/claim/cut.py" 2569,.int 123 0,.int 3 0,.int 0 0,.int 0 0,.int 3 0,.ref 239,.bool true,.int 276 0,.ref 240,.none,.ref 241,.ref 242,.ref 243,.int 2573 0,.int 123 0,sv "/claim/cut.py" 2574])
noncomputable def wD(P:Zzn):Obj:=ob (.type "function") (.func ⟨(S "setdefault"),(S "Headers.setdefault"),fA (fc 15 15),.stmts (fB (fc 15 15)),fS (fc 15 15),3,[],.none,.none,.none,sv "cpy313.wsgiref.headers" 2333,none,.ref 244,.none,0⟩)
noncomputable def Fo(P:Zzn):Obj:=ob (.type "code") (.fields #[sv "add_header" 2576,sv "Headers.add_header" 2577,sv "/claim/cut.py" 2578,.int 126 0,.int 3 0,.int 0 0,.int 0 0,.int 11 0,.ref 246,.bool true,.int 276 0,.ref 247,.none,.ref 248,.ref 249,.ref 250,.int 2586 0,.int 126 0,sv "/claim/cut.py" 2587])
noncomputable def K0(P:Zzn):Obj:=ob (.type "function") (.func ⟨(S "add_header"),(S "Headers.add_header"),fA (fc 15 16),.stmts (fB (fc 15 16)),fS (fc 15 16),3,[],.none,.none,.none,sv "cpy313.wsgiref.headers" 2333,none,.ref 251,.none,0⟩)
def nC(P:Zzn):BT:=YF (((((nB P)).set 3 λ_=>mO P "cpy313.wsgiref.headers" 2333 22 22)).set 29 λ_=>fi #[.int 2 0,.int 0 0,.ref 37,.int 7 0,.int 0 0,.ref 44,.int 37 0,.int 0 0,.ref 62,.int 40 0,.int 0 0,.ref 108,.int 49 0,.int 0 0,.ref 131,.int 58 0,.int 0 0,.ref 138]) 133 [tu #[] 0,ob (.type "builtin_function_or_method") (.fields #[.builtin "type.__prepare__",.type "type"]),ob (.type "dict") (.dict #[en P "__module__" 2446 (sv "cpy313.wsgiref.headers" 2333),en P "__qualname__" 2448 (sv "Headers" 2447),en P "__firstlineno__" 2450 (.int 58 2449),en P "__init__" 2460 (.ref 147),en P "_convert_string_type" 2470 (.ref 154),en P "__len__" 2477 (.ref 161),en P "__setitem__" 2486 (.ref 168),en P "__delitem__" 2492 (.ref 173),en P "__getitem__" 2500 (.ref 180),en P "__contains__" 2508 (.ref 187),en P "get_all" 2516 (.ref 194),en P "get" 2527 (.ref 202),en P "keys" 2533 (.ref 207),en P "values" 2539 (.ref 212),en P "items" 2546 (.ref 219),en P "__repr__" 2553 (.ref 226),en P "__str__" 2559 (.ref 231),en P "__bytes__" 2566 (.ref 238),en P "setdefault" 2575 (.ref 245),en P "add_header" 2588 (.ref 252),en P "__static_attributes__" 2590 (.ref 253)] 21),tu #[] 0,fi #[.int 60 0,.int 4 0,.ref 146,.int 70 0,.int 4 0,.ref 153,.int 78 0,.int 4 0,.ref 160,.int 81 0,.int 4 0,.ref 167,.int 85 0,.int 4 0,.ref 172,.int 89 0,.int 4 0,.ref 179,.int 92 0,.int 4 0,.ref 186,.int 95 0,.int 4 0,.ref 193,.int 98 0,.int 4 0,.ref 201,.int 105 0,.int 4 0,.ref 206,.int 108 0,.int 4 0,.ref 211,.int 111 0,.int 4 0,.ref 218,.int 114 0,.int 4 0,.ref 225,.int 117 0,.int 4 0,.ref 230,.int 120 0,.int 4 0,.ref 237,.int 123 0,.int 4 0,.ref 244,.int 126 0,.int 4 0,.ref 251],ob (.type "code") (.fields #[sv "Headers" 2441,sv "Headers" 2442,sv "/claim/cut.py" 2443,.int 58 0,.int 0 0,.int 0 0,.int 0 0,.int 0 0,.ref 136,.bool false,.int 276 0,.ref 137,.none,.none,.none,.none,.int 2444 0,.int 58 0,sv "/claim/cut.py" 2445]),⟨(.type "frame"),none,.plain,#[(some (.ref 138)),(some (.ref 3)),(some (.ref 135)),none,(some (sv "cpy313.wsgiref.headers" 2333)),none,(some (.ref 0))]⟩,tu #[.none] 0,tu #[] 0,fi #[],tu #[sv "self" 2454,sv "headers" 2455,sv "k" 2456,sv "v" 2457] 0,tu #[] 0,ob .none (.func ⟨(S "__init__"),(S "Headers.__init__"),fA (fc 15 0),.stmts (fB (fc 15 0)),fS (fc 15 0),0,[],.none,.none,.none,.none,none,.none,.none,0⟩),F3 P,K4 P,tu #[] 0,fi #[],tu #[sv "self" 2464,sv "value" 2465,sv "name" 2466,sv "regex" 2467] 0,tu #[] 0,ob .none (.func ⟨(S "_convert_string_type"),(S "Headers._convert_string_type"),fA (fc 15 1),.stmts (fB (fc 15 1)),fS (fc 15 1),0,[],.none,.none,.none,.none,none,.none,.none,0⟩),F2 P,K3 P,tu #[] 0,fi #[],tu #[sv "self" 2474] 0,tu #[] 0,ob .none (.func ⟨(S "__len__"),(S "Headers.__len__"),fA (fc 15 2),.stmts (fB (fc 15 2)),fS (fc 15 2),0,[],.none,.none,.none,.none,none,.none,.none,0⟩),F1 P,K2 P,tu #[] 0,fi #[],tu #[sv "self" 2481,sv "name" 2482,sv "val" 2483] 0,tu #[] 0,ob .none (.func ⟨(S "__setitem__"),(S "Headers.__setitem__"),fA (fc 15 3),.stmts (fB (fc 15 3)),fS (fc 15 3),0,[],.none,.none,.none,.none,none,.none,.none,0⟩),vh P,vm P,tu #[] 0,fi #[],ob .none (.func ⟨(S "__delitem__"),(S "Headers.__delitem__"),fA (fc 15 4),.stmts (fB (fc 15 4)),fS (fc 15 4),0,[],.none,.none,.none,.none,none,.none,.none,0⟩),vn P,vd P,tu #[] 0,fi #[],tu #[sv "self" 2496,sv "name" 2497] 0,tu #[] 0,ob .none (.func ⟨(S "__getitem__"),(S "Headers.__getitem__"),fA (fc 15 5),.stmts (fB (fc 15 5)),fS (fc 15 5),0,[],.none,.none,.none,.none,none,.none,.none,0⟩),vf P,vg P,tu #[] 0,fi #[],tu #[sv "self" 2504,sv "name" 2505] 0,tu #[] 0,ob .none (.func ⟨(S "__contains__"),(S "Headers.__contains__"),fA (fc 15 6),.stmts (fB (fc 15 6)),fS (fc 15 6),0,[],.none,.none,.none,.none,none,.none,.none,0⟩),vi P,vk P,tu #[] 0,fi #[],tu #[sv "self" 2512,sv "name" 2513] 0,tu #[] 0,ob .none (.func ⟨(S "get_all"),(S "Headers.get_all"),fA (fc 15 7),.stmts (fB (fc 15 7)),fS (fc 15 7),0,[],.none,.none,.none,.none,none,.none,.none,0⟩),vj P,vq P,tu #[.none] 0,tu #[] 0,fi #[],tu #[sv "self" 2520,sv "name" 2521,sv "default" 2522,sv "k" 2523,sv "v" 2524] 0,tu #[] 0,ob .none (.func ⟨(S "get"),(S "Headers.get"),fA (fc 15 8),.stmts (fB (fc 15 8)),fS (fc 15 8),0,[],.none,.none,.none,.none,none,.none,.none,0⟩),vu P,vw P,tu #[] 0,fi #[],ob .none (.func ⟨(S "keys"),(S "Headers.keys"),fA (fc 15 9),.stmts (fB (fc 15 9)),fS (fc 15 9),0,[],.none,.none,.none,.none,none,.none,.none,0⟩),vy P,vz P,tu #[] 0,fi #[],ob .none (.func ⟨(S "values"),(S "Headers.values"),fA (fc 15 10),.stmts (fB (fc 15 10)),fS (fc 15 10),0,[],.none,.none,.none,.none,none,.none,.none,0⟩),wO P,wR P,tu #[] 0,fi #[],tu #[sv "self" 2543] 0,tu #[] 0,ob .none (.func ⟨(S "items"),(S "Headers.items"),fA (fc 15 11),.stmts (fB (fc 15 11)),fS (fc 15 11),0,[],.none,.none,.none,.none,none,.none,.none,0⟩),wH P,wL P,tu #[] 0,fi #[],tu #[sv "self" 2550] 0,tu #[] 0,ob .none (.func ⟨(S "__repr__"),(S "Headers.__repr__"),fA (fc 15 12),.stmts (fB (fc 15 12)),fS (fc 15 12),0,[],.none,.none,.none,.none,none,.none,.none,0⟩),wM P,wN P,tu #[] 0,fi #[],ob .none (.func ⟨(S "__str__"),(S "Headers.__str__"),fA (fc 15 13),.stmts (fB (fc 15 13)),fS (fc 15 13),0,[],.none,.none,.none,.none,none,.none,.none,0⟩),F0 P,K1 P,tu #[] 0,fi #[],tu #[sv "self" 2563] 0,tu #[] 0,ob .none (.func ⟨(S "__bytes__"),(S "Headers.__bytes__"),fA (fc 15 14),.stmts (fB (fc 15 14)),fS (fc 15 14),0,[],.none,.none,.none,.none,none,.none,.none,0⟩),wA P,wB P,tu #[] 0,fi #[],tu #[sv "self" 2570,sv "name" 2571,sv "value" 2572] 0,tu #[] 0,ob .none (.func ⟨(S "setdefault"),(S "Headers.setdefault"),fA (fc 15 15),.stmts (fB (fc 15 15)),fS (fc 15 15),0,[],.none,.none,.none,.none,none,.none,.none,0⟩),wC P,wD P,tu #[] 0,fi #[],tu #[sv "self" 2579,sv "_name" 2580,sv "_value" 2581,sv "_params" 2582,sv "parts" 2583,sv "k" 2584,sv "v" 2585] 0,tu #[] 0,ob .none (.func ⟨(S "add_header"),(S "Headers.add_header"),fA (fc 15 16),.stmts (fB (fc 15 16)),fS (fc 15 16),0,[],.none,.none,.none,.none,none,.none,.none,0⟩),Fo P,K0 P,tu #[sv "_headers" 2589] 0,ob (.type "dict") (.dict #[en P "__module__" 2446 (sv "cpy313.wsgiref.headers" 2333),en P "__firstlineno__" 2450 (.int 58 2449),en P "__init__" 2460 (.ref 147),en P "_convert_string_type" 2470 (.ref 154),en P "__len__" 2477 (.ref 161),en P "__setitem__" 2486 (.ref 168),en P "__delitem__" 2492 (.ref 173),en P "__getitem__" 2500 (.ref 180),en P "__contains__" 2508 (.ref 187),en P "get_all" 2516 (.ref 194),en P "get" 2527 (.ref 202),en P "keys" 2533 (.ref 207),en P "values" 2539 (.ref 212),en P "items" 2546 (.ref 219),en P "__repr__" 2553 (.ref 226),en P "__str__" 2559 (.ref 231),en P "__bytes__" 2566 (.ref 238),en P "setdefault" 2575 (.ref 245),en P "add_header" 2588 (.ref 252),en P "__static_attributes__" 2590 (.ref 253),en P "__dict__" 2592 (.ref 256),en P "__weakref__" 2594 (.ref 257),en P "__doc__" 2595 .none] 4),⟨(.type "type"),none,.cls ⟨(S "Headers"),[.type "object"],[.ref 255,.type "object"],254,(S "Headers"),true,[],[],false,none,false⟩,#[none,none,(some (sv "Headers" 2439)),(some (sv "Headers" 2447)),(some (.builtin "object.__new__")),(some (.bool true))]⟩,ob (.type "getset_descriptor") (.fields #[sv "__dict__" 2591,.ref 255,.builtin "function.__dict__",.builtin "function.__dict__#set"]),ob (.type "getset_descriptor") (.fields #[sv "__weakref__" 2593,.ref 255,.builtin "ExceptionGroup.__weakref__",.none]),ob (.type "super") (.fields #[.ref 255,.ref 255,.ref 255]),ob (.type "builtin_function_or_method") (.fields #[.builtin "object.__init_subclass__",.ref 255])]
def j6(w:Zzk)(os:Zz8):ZyX:=⟨nC w.params,260,{},#[],{},2598,os⟩
noncomputable def yQ:Pos:=⟨58,0,138,93⟩
def nF(P:Zzn):BT:=(((nC P)).set 3 λ_=>mO P "law_sr0086_02" 2598 22 22)
def j5(w:Zzk)(os:Zz8):ZyX:=⟨nF w.params,260,{},#[],{},2600,os⟩
noncomputable def yU:Pos:=⟨139,0,139,8⟩
noncomputable def Fp(P:Zzn):Obj:=ob (.type "code") (.fields #[sv "_law_great" 2600,sv "_law_great" 2601,sv "/claim/cut.py" 2602,.int 140 0,.int 2 0,.int 0 0,.int 0 0,.int 3 0,.ref 260,.bool true,.int 276 0,.ref 261,.none,.ref 262,.ref 263,.ref 264,.int 2605 0,.int 140 0,sv "/claim/cut.py" 2606])
noncomputable def Ko(P:Zzn):Obj:=ob (.type "function") (.func ⟨(S "_law_great"),(S "_law_great"),fA (fd 17),.stmts (fB (fd 17)),fS (fd 17),3,[],.none,.none,.none,sv "law_sr0086_02" 2598,none,.ref 265,.none,0⟩)
def nG(P:Zzn):BT:=YF (((((nF P)).set 3 λ_=>mO P "law_sr0086_02" 2598 23 23)).set 29 λ_=>fi #[.int 2 0,.int 0 0,.ref 37,.int 7 0,.int 0 0,.ref 44,.int 37 0,.int 0 0,.ref 62,.int 40 0,.int 0 0,.ref 108,.int 49 0,.int 0 0,.ref 131,.int 58 0,.int 0 0,.ref 138,.int 140 0,.int 0 0,.ref 265]) 260 [tu #[] 0,fi #[],tu #[sv "letter" 2603,sv "q" 2604] 0,tu #[] 0,ob .none (.func ⟨(S "_law_great"),(S "_law_great"),fA (fd 17),.stmts (fB (fd 17)),fS (fd 17),0,[],.none,.none,.none,.none,none,.none,.none,0⟩),Fp P,Ko P]
def j4(w:Zzk)(os:Zz8):ZyX:=⟨nG w.params,267,{},#[],{},2608,os⟩
noncomputable def yV:Pos:=⟨140,0,143,89⟩
noncomputable def Fe(P:Zzn):Obj:=ob (.type "code") (.fields #[sv "_law_kinds" 2608,sv "_law_kinds" 2609,sv "/claim/cut.py" 2610,.int 144 0,.int 1 0,.int 0 0,.int 0 0,.int 3 0,.ref 267,.bool true,.int 276 0,.ref 268,.none,.none,.none,.ref 269,.int 2611 0,.int 144 0,sv "/claim/cut.py" 2612])
noncomputable def Kp(P:Zzn):Obj:=ob (.type "function") (.func ⟨(S "_law_kinds"),(S "_law_kinds"),fA (fd 18),.stmts (fB (fd 18)),fS (fd 18),3,[],.none,.none,.none,sv "law_sr0086_02" 2598,none,.ref 270,.none,0⟩)
def nI(P:Zzn):BT:=YF (((((nG P)).set 3 λ_=>mO P "law_sr0086_02" 2598 24 24)).set 29 λ_=>fi #[.int 2 0,.int 0 0,.ref 37,.int 7 0,.int 0 0,.ref 44,.int 37 0,.int 0 0,.ref 62,.int 40 0,.int 0 0,.ref 108,.int 49 0,.int 0 0,.ref 131,.int 58 0,.int 0 0,.ref 138,.int 140 0,.int 0 0,.ref 265,.int 144 0,.int 0 0,.ref 270]) 267 [tu #[] 0,fi #[],ob .none (.func ⟨(S "_law_kinds"),(S "_law_kinds"),fA (fd 18),.stmts (fB (fd 18)),fS (fd 18),0,[],.none,.none,.none,.none,none,.none,.none,0⟩),Fe P,Kp P]
def je(w:Zzk)(os:Zz8):ZyX:=⟨nI w.params,272,{},#[],{},2614,os⟩
noncomputable def yW:Pos:=⟨144,0,148,105⟩
noncomputable def Fs(P:Zzn):Obj:=ob (.type "code") (.fields #[sv "_law_pieces" 2614,sv "_law_pieces" 2615,sv "/claim/cut.py" 2616,.int 149 0,.int 1 0,.int 0 0,.int 0 0,.int 3 0,.ref 272,.bool true,.int 276 0,.ref 273,.none,.ref 274,.ref 275,.ref 276,.int 2621 0,.int 149 0,sv "/claim/cut.py" 2622])
noncomputable def Ke(P:Zzn):Obj:=ob (.type "function") (.func ⟨(S "_law_pieces"),(S "_law_pieces"),fA (fd 19),.stmts (fB (fd 19)),fS (fd 19),3,[],.none,.none,.none,sv "law_sr0086_02" 2598,none,.ref 277,.none,0⟩)
def nK(P:Zzn):BT:=YF (((((nI P)).set 3 λ_=>mO P "law_sr0086_02" 2598 25 25)).set 29 λ_=>fi #[.int 2 0,.int 0 0,.ref 37,.int 7 0,.int 0 0,.ref 44,.int 37 0,.int 0 0,.ref 62,.int 40 0,.int 0 0,.ref 108,.int 49 0,.int 0 0,.ref 131,.int 58 0,.int 0 0,.ref 138,.int 140 0,.int 0 0,.ref 265,.int 144 0,.int 0 0,.ref 270,.int 149 0,.int 0 0,.ref 277]) 272 [tu #[] 0,fi #[],tu #[sv "text" 2617,sv "ends" 2618,sv "begin" 2619,sv "end" 2620] 0,tu #[] 0,ob .none (.func ⟨(S "_law_pieces"),(S "_law_pieces"),fA (fd 19),.stmts (fB (fd 19)),fS (fd 19),0,[],.none,.none,.none,.none,none,.none,.none,0⟩),Fs P,Ke P]
def jr(w:Zzk)(os:Zz8):ZyX:=⟨nK w.params,279,{},#[],{},2624,os⟩
noncomputable def yX:Pos:=⟨149,0,157,15⟩
noncomputable def Ft(P:Zzn):Obj:=ob (.type "code") (.fields #[sv "_law_least" 2624,sv "_law_least" 2625,sv "/claim/cut.py" 2626,.int 158 0,.int 1 0,.int 0 0,.int 0 0,.int 3 0,.ref 279,.bool true,.int 276 0,.ref 280,.none,.none,.none,.ref 281,.int 2627 0,.int 158 0,sv "/claim/cut.py" 2628])
noncomputable def Kr(P:Zzn):Obj:=ob (.type "function") (.func ⟨(S "_law_least"),(S "_law_least"),fA (fd 20),.stmts (fB (fd 20)),fS (fd 20),3,[],.none,.none,.none,sv "law_sr0086_02" 2598,none,.ref 282,.none,0⟩)
def nJ(P:Zzn):BT:=YF (((((nK P)).set 3 λ_=>mO P "law_sr0086_02" 2598 26 26)).set 29 λ_=>fi #[.int 2 0,.int 0 0,.ref 37,.int 7 0,.int 0 0,.ref 44,.int 37 0,.int 0 0,.ref 62,.int 40 0,.int 0 0,.ref 108,.int 49 0,.int 0 0,.ref 131,.int 58 0,.int 0 0,.ref 138,.int 140 0,.int 0 0,.ref 265,.int 144 0,.int 0 0,.ref 270,.int 149 0,.int 0 0,.ref 277,.int 158 0,.int 0 0,.ref 282]) 279 [tu #[] 0,fi #[],ob .none (.func ⟨(S "_law_least"),(S "_law_least"),fA (fd 20),.stmts (fB (fd 20)),fS (fd 20),0,[],.none,.none,.none,.none,none,.none,.none,0⟩),Ft P,Kr P]
def js(w:Zzk)(os:Zz8):ZyX:=⟨nJ w.params,284,{},#[],{},2630,os⟩
noncomputable def yY:Pos:=⟨158,0,162,16⟩
noncomputable def Fh(P:Zzn):Obj:=ob (.type "code") (.fields #[sv "_law_page" 2630,sv "_law_page" 2631,sv "/claim/cut.py" 2632,.int 163 0,.int 3 0,.int 0 0,.int 0 0,.int 3 0,.ref 284,.bool true,.int 276 0,.ref 285,.none,.none,.none,.ref 286,.int 2633 0,.int 163 0,sv "/claim/cut.py" 2634])
noncomputable def Ks(P:Zzn):Obj:=ob (.type "function") (.func ⟨(S "_law_page"),(S "_law_page"),fA (fd 21),.stmts (fB (fd 21)),fS (fd 21),3,[],.none,.none,.none,sv "law_sr0086_02" 2598,none,.ref 287,.none,0⟩)
def nQ(P:Zzn):BT:=YF (((((nJ P)).set 3 λ_=>mO P "law_sr0086_02" 2598 27 27)).set 29 λ_=>fi #[.int 2 0,.int 0 0,.ref 37,.int 7 0,.int 0 0,.ref 44,.int 37 0,.int 0 0,.ref 62,.int 40 0,.int 0 0,.ref 108,.int 49 0,.int 0 0,.ref 131,.int 58 0,.int 0 0,.ref 138,.int 140 0,.int 0 0,.ref 265,.int 144 0,.int 0 0,.ref 270,.int 149 0,.int 0 0,.ref 277,.int 158 0,.int 0 0,.ref 282,.int 163 0,.int 0 0,.ref 287]) 284 [tu #[] 0,fi #[],ob .none (.func ⟨(S "_law_page"),(S "_law_page"),fA (fd 21),.stmts (fB (fd 21)),fS (fd 21),0,[],.none,.none,.none,.none,none,.none,.none,0⟩),Fh P,Ks P]
def jt(w:Zzk)(os:Zz8):ZyX:=⟨nQ w.params,289,{},#[],{},2636,os⟩
noncomputable def yZ:Pos:=⟨163,0,178,21⟩
noncomputable def Fl(P:Zzn):Obj:=ob (.type "code") (.fields #[sv "law" 2636,sv "law" 2637,sv "/claim/cut.py" 2638,.int 179 0,.int 1 0,.int 0 0,.int 0 0,.int 3 0,.ref 289,.bool true,.int 276 0,.ref 290,.none,.none,.none,.ref 291,.int 2639 0,.int 179 0,sv "/claim/cut.py" 2640])
noncomputable def Kt(P:Zzn):Obj:=ob (.type "function") (.func ⟨(S "law"),(S "law"),fA (fd 22),.stmts (fB (fd 22)),fS (fd 22),3,[],.none,.none,.none,sv "law_sr0086_02" 2598,none,.ref 292,.none,0⟩)
def nU(P:Zzn):BT:=YF (((((nQ P)).set 3 λ_=>mO P "law_sr0086_02" 2598 28 28)).set 29 λ_=>fi #[.int 2 0,.int 0 0,.ref 37,.int 7 0,.int 0 0,.ref 44,.int 37 0,.int 0 0,.ref 62,.int 40 0,.int 0 0,.ref 108,.int 49 0,.int 0 0,.ref 131,.int 58 0,.int 0 0,.ref 138,.int 140 0,.int 0 0,.ref 265,.int 144 0,.int 0 0,.ref 270,.int 149 0,.int 0 0,.ref 277,.int 158 0,.int 0 0,.ref 282,.int 163 0,.int 0 0,.ref 287,.int 179 0,.int 0 0,.ref 292]) 289 [tu #[] 0,fi #[],ob .none (.func ⟨(S "law"),(S "law"),fA (fd 22),.stmts (fB (fd 22)),fS (fd 22),0,[],.none,.none,.none,.none,none,.none,.none,0⟩),Fl P,Kt P]
def Dl(w:Zzk)(os:Zz8):ZyX:=⟨nU w.params,294,{},#[],{},2642,os⟩
noncomputable def y9:Pos:=⟨179,0,231,15⟩
def Yu(i:Nat):List ZzZ:=[Hi (behindTheImports prog) i]
theorem pre(w:Zzk)(os:Zz8):topGo Zzh prog w 28 ann 12 (uK w os).abs (topStub prog)=some ((bI w os).abs,⟨denote Zzh cE,cE,jD,[topFrame XZ]⟩):=by
 kernel_rfl!
theorem pR(w:Zzk)(os:Zz8):segRun Zzh prog w 28 ann 1 1 (bI w os).abs (blockOf (behindTheImports prog) env cE jD [topFrame XZ])=some (.next,(Y0 w os).abs,cE,posB):=by
 kernel_rfl!
theorem rq(w:Zzk)(os:Zz8):segRunT Zzh prog w 28 ann 1 30 (Y0 w os) (piecesOf (Yu 0) env cE posB [topFrame XZ])=some (.next,bB w os,cE,jL):=by
 rw[Zzc,Zzf];kernel_rfl!
theorem ry(w:Zzk)(os:Zz8):segRunT Zzh prog w 28 ann 1 10 (bB w os) (piecesOf (Yu 1) env cE jL [topFrame XZ])=some (.next,Ri w os,cE,My):=by
 rw[Zzc,Zzf];kernel_rfl!
theorem rz(w:Zzk)(os:Zz8):segRunT Zzh prog w 28 ann 1 10 (Ri w os) (piecesOf (Yu 2) env cE My [topFrame XZ])=some (.next,bC w os,cE,jM):=by
 rw[Zzc,Zzf];kernel_rfl!
theorem sO(w:Zzk)(os:Zz8):segRunT Zzh prog w 28 ann 1 35 (bC w os) (piecesOf (Yu 3) env cE jM [topFrame XZ])=some (.next,bD w os,cE,jN):=by
 rw[Zzc,Zzf];kernel_rfl!
theorem sP(w:Zzk)(os:Zz8):segRunT Zzh prog w 28 ann 1 10 (bD w os) (piecesOf (Yu 4) env cE jN [topFrame XZ])=some (.next,uJ w os,cE,PK):=by
 rw[Zzc,Zzf];kernel_rfl!
theorem sE(w:Zzk):∀(os:Zz8),segRunT Zzh prog w 28 ann 1 999 (uJ w os) (piecesOf (Yu 5) env cE PK [topFrame XZ])=some (.next,uQ w os,cE,PJ):=by
 refine byRow2 "special-get-raises" (P:=λw=>∀(os:Zz8),segRunT Zzh prog w 28 ann 1 999 (uJ w os) (piecesOf (Yu 5) env cE PK [topFrame XZ])=some (.next,uQ w os,cE,PJ)) (λw os=>?_) (λw os=>?_) w
 ·rw[Zzc,Zzf];kernel_rfl!
 ·rw[Zzc,Zzf];kernel_rfl!
theorem sR(w:Zzk)(os:Zz8):segRunT Zzh prog w 28 ann 1 30 (uQ w os) (piecesOf (Yu 6) env cE PJ [topFrame XZ])=some (.next,bF w os,cE,jA):=by
 rw[Zzc,Zzf];kernel_rfl!
theorem sT(w:Zzk)(os:Zz8):segRunT Zzh prog w 28 ann 1 31 (uU w os) (piecesOf (Yu 8) env cE jB [topFrame XZ])=some (.next,bG w os,cE,jC):=by
 rw[Zzc,Zzf];kernel_rfl!
theorem sH(w:Zzk)(os:Zz8):segRunT Zzh prog w 28 ann 1 10 (bG w os) (piecesOf (Yu 9) env cE jC [topFrame XZ])=some (.next,jY w os,cE,yF):=by
 rw[Zzc,Zzf];kernel_rfl!
theorem l7(w:Zzk)(os:Zz8):segRunT Zzh prog w 28 ann 1 78 (jY w os) (piecesOf (Yu 10) env cE yF [topFrame XZ])=some (.next,jZ w os,cE,yG):=by
 rw[Zzc,Zzf];kernel_rfl!
theorem l6(w:Zzk)(os:Zz8):segRunT Zzh prog w 28 ann 1 70 (jZ w os) (piecesOf (Yu 11) env cE yG [topFrame XZ])=some (.next,j9 w os,cE,yI):=by
 rw[Zzc,Zzf];kernel_rfl!
theorem l0(w:Zzk)(os:Zz8):segRunT Zzh prog w 28 ann 1 78 (j9 w os) (piecesOf (Yu 12) env cE yI [topFrame XZ])=some (.next,j8 w os,cE,yK):=by
 rw[Zzc,Zzf];kernel_rfl!
theorem lh(w:Zzk)(os:Zz8):segRunT Zzh prog w 28 ann 1 34 (j8 w os) (piecesOf (Yu 13) env cE yK [topFrame XZ])=some (.next,j7 w os,cE,yJ):=by
 rw[Zzc,Zzf];kernel_rfl!
theorem lj(w:Zzk)(os:Zz8):segRunT Zzh prog w 28 ann 1 731 (j7 w os) (piecesOf (Yu 14) env cE yJ [topFrame XZ])=some (.next,j6 w os,cE,yQ):=by
 rw[Zzc,Zzf];kernel_rfl!
theorem lq(w:Zzk)(os:Zz8):segRunT Zzh prog w 28 ann 1 10 (j6 w os) (piecesOf (Yu 15) env cE yQ [topFrame XZ])=some (.next,j5 w os,cE,yU):=by
 rw[Zzc,Zzf];kernel_rfl!
theorem lu(w:Zzk)(os:Zz8):segRunT Zzh prog w 28 ann 1 31 (j5 w os) (piecesOf (Yu 16) env cE yU [topFrame XZ])=some (.next,j4 w os,cE,yV):=by
 rw[Zzc,Zzf];kernel_rfl!
theorem ly(w:Zzk)(os:Zz8):segRunT Zzh prog w 28 ann 1 27 (j4 w os) (piecesOf (Yu 17) env cE yV [topFrame XZ])=some (.next,je w os,cE,yW):=by
 rw[Zzc,Zzf];kernel_rfl!
theorem lz(w:Zzk)(os:Zz8):segRunT Zzh prog w 28 ann 1 33 (je w os) (piecesOf (Yu 18) env cE yW [topFrame XZ])=some (.next,jr w os,cE,yX):=by
 rw[Zzc,Zzf];kernel_rfl!
theorem mP(w:Zzk)(os:Zz8):segRunT Zzh prog w 28 ann 1 27 (jr w os) (piecesOf (Yu 19) env cE yX [topFrame XZ])=some (.next,js w os,cE,yY):=by
 rw[Zzc,Zzf];kernel_rfl!
theorem mR(w:Zzk)(os:Zz8):segRunT Zzh prog w 28 ann 1 27 (js w os) (piecesOf (Yu 20) env cE yY [topFrame XZ])=some (.next,jt w os,cE,yZ):=by
 rw[Zzc,Zzf];kernel_rfl!
theorem mT(w:Zzk)(os:Zz8):segRunT Zzh prog w 28 ann 1 27 (jt w os) (piecesOf (Yu 21) env cE yZ [topFrame XZ])=some (.next,Dl w os,cE,y9):=by
 rw[Zzc,Zzf];kernel_rfl!
theorem fin(w:Zzk)(os:Zz8):topRun Zzh prog w 28 ann 2 (Dl w os).abs ⟨doneF .next,cE,y9,[topFrame XZ]⟩=some (Dl w os).abs:=by
 kernel_rfl!
theorem tI:B7=.Assign k6 (.Dict Gr Gs k7) k8:=by kernel_rfl!
theorem cZ:K7 Gr Gs=true:=by kernel_rfl!
theorem c9:(dataOf Gr Gs).length=17+17*37+4:=by kernel_rfl!
theorem u0:grows (-1) (dataOf Gr Gs)=true:=by kernel_rfl!
theorem gP:swapsWithSole k6 (.Dict Gr Gs k7) k8.line env=pure false:=by kernel_rfl!
theorem tK(P:Zzn):Nl (T7 P) 64 (WL 374 37 (dataOf Gr Gs))=true:=by kernel_rfl!
theorem sS(w:Zzk)(os:Zz8):segRun Zzh prog w 28 ann 1 (12517+8) (bF w os).abs (piecesOf (Yu 7) env cE jA [topFrame XZ])=some (.next,(uU w os).abs,cE,jB):=by
 refine O1 (T:=T7 w.params) (s:=64) (m:=37) (r:=4) (N:=8) (t:=374) (S2:=uU w os) tI gP oD oD cZ c9 oD oD oD u0 (tK w.params) ?_
 rw[Zzc,Zzf];kernel_rfl!
theorem gR:behindTheImports prog=Yu 0++(Yu 1++(Yu 2++(Yu 3++(Yu 4++(Yu 5++(Yu 6++(Yu 7++(Yu 8++(Yu 9++(Yu 10++(Yu 11++(Yu 12++(Yu 13++(Yu 14++(Yu 15++(Yu 16++(Yu 17++(Yu 18++(Yu 19++(Yu 20++(Yu 21++[]))))))))))))))))))))):=by kernel_rfl!
theorem SA(w:Zzk)(os:Zz8):topRun Zzh prog w 28 ann (30+(10+(10+(35+(10+(999+(30+((12517+8)+(31+(10+(78+(70+(78+(34+(731+(10+(31+(27+(33+(27+(27+(27+2)))))))))))))))))))))) (Y0 w os).abs (restOf (behindTheImports prog) env cE posB [topFrame XZ])=some (Dl w os).abs:=by
 have h:topRun Zzh prog w 28 ann (30+(10+(10+(35+(10+(999+(30+((12517+8)+(31+(10+(78+(70+(78+(34+(731+(10+(31+(27+(33+(27+(27+(27+2)))))))))))))))))))))) (Y0 w os).abs (restOf (Yu 0++(Yu 1++(Yu 2++(Yu 3++(Yu 4++(Yu 5++(Yu 6++(Yu 7++(Yu 8++(Yu 9++(Yu 10++(Yu 11++(Yu 12++(Yu 13++(Yu 14++(Yu 15++(Yu 16++(Yu 17++(Yu 18++(Yu 19++(Yu 20++(Yu 21++[])))))))))))))))))))))) env cE posB [topFrame XZ])=some (Dl w os).abs:=
  (piece_app (segRun_of (rq w os)) (piece_app (segRun_of (ry w os)) (piece_app (segRun_of (rz w os)) (piece_app (segRun_of (sO w os)) (piece_app (segRun_of (sP w os)) (piece_app (segRun_of (sE w os)) (piece_app (segRun_of (sR w os)) (piece_app (sS w os) (piece_app (segRun_of (sT w os)) (piece_app (segRun_of (sH w os)) (piece_app (segRun_of (l7 w os)) (piece_app (segRun_of (l6 w os)) (piece_app (segRun_of (l0 w os)) (piece_app (segRun_of (lh w os)) (piece_app (segRun_of (lj w os)) (piece_app (segRun_of (lq w os)) (piece_app (segRun_of (lu w os)) (piece_app (segRun_of (ly w os)) (piece_app (segRun_of (lz w os)) (piece_app (segRun_of (mP w os)) (piece_app (segRun_of (mR w os)) (piece_app (segRun_of (mT w os)) (fin w os)))))))))))))))))))))))
 rw[<-gR] at h
 exact h
theorem run(w:Zzk)(os:Zz8):topRun Zzh prog w 28 ann (12+(1+(30+(10+(10+(35+(10+(999+(30+((12517+8)+(31+(10+(78+(70+(78+(34+(731+(10+(31+(27+(33+(27+(27+(27+2)))))))))))))))))))))))) (uK w os).abs (topStub prog)=some (Dl w os).abs:=
 go_top (pre w os) (piece_block (pR w os) (SA w os))
theorem Pk       (h:(impGoT tb p w n s t).map (λx=>(x.1,x.2.atExitBegin))=some (s',some [])):
 importEnds tb p w (n+1) s.abs t=some s'.abs:=by
 obtain⟨⟨a,b⟩,h1,h2⟩:=mS h
 have e1:a=s':=congrArg Prod.fst h2
 have e2:b.atExitBegin=some []:=congrArg Prod.snd h2
 subst e1
 refine imp_go (impGo_of h1) ?_
 unfold importEnds
 rw[e2]
theorem lY(w:Zzk)(os:Zz8):(impGoT Zzh (opening prog) w 798 ⟨.nil,0,{},#[],{},1,os⟩ (start (opening prog)).2).map (λx=>(x.1,x.2.atExitBegin))=some (bK w os,some []):=by
 rw[PySem.W.Fast.te14789777615569096658,Zzf,PySem.W.Fast.te1435165496053646825];kernel_rfl!
theorem mi:(start (opening prog)).1=(⟨.nil,0,{},#[],{},1,(start (opening prog)).1.os⟩:ZyX).abs:=by kernel_rfl!
theorem iy(w:Zzk)(os:Zz8):(bK w os).abs=⟨absHeap (TE w.params) 28 {},#[],{},276,os⟩:=by kernel_rfl!
theorem ri(w:Zzk):importEnds Zzh (opening prog) w 799 (start (opening prog)).1 (start (opening prog)).2=some ⟨absHeap (TE w.params) 28 {},#[],{},276,(start (opening prog)).1.os⟩:=by
 have h:=Pk (lY w (start (opening prog)).1.os)
 rw[<-mi,iy] at h
 exact h
theorem fence(w:Zzk):(λos=>(fenceModules? prog ⟨absHeap (TE w.params) 28 {},#[],{},276,os⟩).map (λs=>(s.heap,s.gens,s.drawn,s.toks)))=λ_=>some (absHeap (T0 w.params) 28 {},#[],{},276):=by
 rw[PySem.W.Fast.te14289696077712309145];kernel_rfl!
theorem opened(w:Zzk):(fencedOpening Zzh prog w 60000).map (λs=>(s.heap,s.gens,s.drawn,s.toks))=some (absHeap (T0 w.params) 28 {},#[],{},276):=
 open_cut (He:=λP=>absHeap (TE P) 28 {}) (H₀:=λP=>absHeap (T0 P) 28 {}) (M:=799) ri (by decide +kernel) fence w
def qv:ZxW:={ prog with main:={ prog.main with body:=[Hi prog.main.body 22] } }
def loose:List oO:=(["ELLIPSIS_MARKER","Headers","_ellipsis_match","_formatparam","_law_great","_law_kinds","_law_least","_law_page","_law_pieces","_name_disallowed_re","_sre","_value_disallowed_re","_wall","b1_set","b3_exceptions","in_table_b1","map_table_b3","tspecials"]:List String).map S
def H1(P:Zzn):Zza:=absHeap (nU P) 294 {}
theorem fD(w:Zzk):((absHeap (T0 w.params) 28 {}).isNs mainGlobals&&(#[]:Array ZqG).size==0,(absHeap (T0 w.params) 28 {}).objs.size,(absHeap (T0 w.params) 28 {}).nsMap mainGlobals "__annotations__")=(true,28,ann):=by
 kernel_rfl!
theorem dh(w:Zzk)(os:Zz8):(staticsOk (importedModules prog.main.body) (absHeap (T0 w.params) 28 {}) (H1 w.params)&&namesBound prog (H1 w.params)&&gensDone ⟨H1 w.params,#[],{},2642,os⟩&&laidKept (absHeap (T0 w.params) 28 {}) (H1 w.params))=true:=by
 kernel_rfl!
theorem dm(w:Zzk)(os:Zz8):openSeen qv loose (importedModules prog.main.body) (λ_=>true) true ⟨H1 w.params,#[],{},2642,os⟩=openGood qv loose:=by
 rw[PySem.W.Fast.te4187177175401517315];kernel_rfl!
theorem tP(w:Zzk)(os:Zz8):(uK w os).abs=⟨absHeap (T0 w.params) 28 {},#[],{},276,os⟩:=by kernel_rfl!
theorem tE(w:Zzk)(os:Zz8):(Dl w os).abs=⟨H1 w.params,#[],{},2642,os⟩:=by kernel_rfl!
theorem mV(w:Zzk)(os:Zz8):topRun Zzh prog w 28 ann (12+(1+(30+(10+(10+(35+(10+(999+(30+((12517+8)+(31+(10+(78+(70+(78+(34+(731+(10+(31+(27+(33+(27+(27+(27+2)))))))))))))))))))))))) ⟨absHeap (T0 w.params) 28 {},#[],{},276,os⟩ (topStub prog)=some ⟨H1 w.params,#[],{},2642,os⟩:=by
 have h:=run w os
 rw[tP,tE] at h
 exact h
theorem yR(w:Zzk):(λos=>((staticsOk (importedModules prog.main.body) (absHeap (T0 w.params) 28 {}) (H1 w.params)&&namesBound prog (H1 w.params)&&gensDone ⟨H1 w.params,#[],{},2642,os⟩&&laidKept (absHeap (T0 w.params) 28 {}) (H1 w.params)),
 openSeen qv loose (importedModules prog.main.body) (λ_=>true) true ⟨H1 w.params,#[],{},2642,os⟩,H1 w.params))=λ_=>(true,openGood qv loose,H1 w.params):=
 funext λos=>by rw[dh,dm]
theorem left:LeftO prog qv loose (λ_=>true) (λs=>s.heap) (λw=>H1 w.params) 60000:=
 LeftO.of_pieces (p:=prog) (q:=qv) (loose:=loose) (Xt:=λ_=>true) (Yf:=λs=>s.heap) (Ya:=λw=>H1 w.params) (N:=60000) (g0:=true) (H₀:=λP=>absHeap (T0 P) 28 {}) (H₁:=H1) (gs₀:=#[]) (gs₁:=#[]) (d₀:={}) (d₁:={}) (k₀:=276) (k₁:=2642) (m₀:=28) (ann:=ann)
  (M:=(12+(1+(30+(10+(10+(35+(10+(999+(30+((12517+8)+(31+(10+(78+(70+(78+(34+(731+(10+(31+(27+(33+(27+(27+(27+2))))))))))))))))))))))))) opened fD mV (by decide +kernel) yR
end Mine.Internal.Uy
end
section
open PySem PySem.W PyProof.Rows
open Sem (wp)
namespace Mine.Internal.L2
open Mine.Internal.L1
def fnAt(i:Nat):List ZzZ × Zz0:=((Zv9.main.body)[i]?).elim ([],default) λs=>Uy.Nr s ([],default) λ_ b sc=>(b,sc)
def X6(i:Nat):List ZzZ:=(fnAt i).1
def Yq(i:Nat):Zz0:=(fnAt i).2
noncomputable def yu:oO->Option PV:=λx=>if x==("ELLIPSIS_MARKER":oO) then some (.str "...") else none
def nj(b1:Int->Bool)(as:List AV):Option PV:=WT as λa=>(Yw a).bind λx=>WT x.cps.toList λch=>some (.bool (b1 ch))
def kg(b3:Int->Option oO)(as:List AV):Option PV:=WT as λa=>(Yw a).bind λx=>WT x.cps.toList λch=>some (.str ((b3 ch).getD (Zvu x)))
section
variable (c:Zzq)(b1:Int->Bool)(b3:Int->Option oO)(B:YM)
def M0:Sg:=(⟨FP,IF,yu,λ_ _ _=>none,λ_ _ _ _ _=>none⟩:Sg).more B
def M1:Sg:=⟨Gb c (M0 B).cl,(M0 B).mt,(M0 B).gv,(M0 B).xe,(M0 B).xi⟩
def M2:Sg:=⟨Dm c (M1 c B).cl,(M1 c B).mt,(M1 c B).gv,(M1 c B).xe,(M1 c B).xi⟩
def M3:Sg:=(M2 c B).Hv B 30
def Sa:Sg:=(M3 c B).add "in_table_b1" (nj b1)
def Sb:Sg:=(Sa c b1 B).add "map_table_b3" (kg b3)
@[reducible] def Tn (S:Sg)(ow:List oO):St:=⟨S,ow,λ_ _=>none,1000⟩
@[reducible] def Th (S:Sg)(ow:List oO)(sc:Zz0):St:=⟨S,ow,Rg c ow S 30 sc,1000⟩
def run(S:Sg)(i:Nat)(ow xs:List oO):List AV->Option PV:=Fb (Tn S ow) 60 (Yq i) (X6 i) xs
def TV(S:Sg)(i:Nat)(ow xs:List oO):List AV->Option PV:=Fb (Th c S ow (Yq i)) 60 (Yq i) (X6 i) xs
def S1:Sg:=(Sb c b1 b3 B).add "_ellipsis_match" (run (Sb c b1 b3 B) 4 ["ws"] ["want","got"])
def S2:Sg:=(S1 c b1 b3 B).add "_law_great" (run (S1 c b1 b3 B) 17 [] ["letter","q"])
def S3:Sg:=(S2 c b1 b3 B).add "_law_kinds" (run (S2 c b1 b3 B) 18 ["great"] ["total"])
def S4:Sg:=(S3 c b1 b3 B).add "_law_pieces" (run (S3 c b1 b3 B) 19 ["ends"] ["text"])
def S5:Sg:=(S4 c b1 b3 B).add "_law_least" (run (S4 c b1 b3 B) 20 ["least"] ["text"])
def S6:Sg:=(S5 c b1 b3 B).add "_law_page" (TV c (S5 c b1 b3 B) 21 [] ["text","ends","great"])
def PF:List AV->Option PV:=TV c (S6 c b1 b3 B) 22 ["sizes"] ["script"]
end
structure Ql(C:Cx)(c Nc:Zzq)(mN:oO->Option Zzy)(k2 k3:Option Zzy)(sf sA:Zz0)(fb:List ZzZ)(b1:Int->Bool)(b3:Int->Option oO):Prop where
 hd:Fi C c Nc mN k2 k3
 ah:JO C c Nc mN k2 k3 sf sA fb
 ad:N7 C mN sA
 st:Jc C mN
 sg:Y5 C 0 ⟨FP,IF,yu,λ_ _ _=>none,λ_ _ _ _ _=>none⟩
 more:M9 C
 enum:C.mg "enumerate"=none/\C.mb "enumerate"=some (.type "enumerate")
 len:C.mg "len"=none/\C.mb "len"=some (.builtin "len")
 ky:Yh C "in_table_b1" (Yq 7) (X6 7) ["code"]
 set:∃a n,C.mg "b1_set"=some (.ref a)/\∀h,C.G h->h.SetOf (intKind C.prog C.w) a b1 n
 yS:Yh C "map_table_b3" (Yq 9) (X6 9) ["code"]
 dict:∃a f,C.mg "b3_exceptions"=some (.ref a)/\(a==sysModules)=false/\(∀h,C.G h->h.MapOf (intKind C.prog C.w) a f)/\∀i P h,Rep P h (Yy (b3 i)) ((f i).getD .none)
 em:Yh C "_ellipsis_match" (Yq 4) (X6 4) ["want","got"]
 great:Yh C "_law_great" (Yq 17) (X6 17) ["letter","q"]
 kinds:Yh C "_law_kinds" (Yq 18) (X6 18) ["total"]
 pieces:Yh C "_law_pieces" (Yq 19) (X6 19) ["text"]
 least:Yh C "_law_least" (Yq 20) (X6 20) ["text"]
 jH:Yh C "_law_page" (Yq 21) (X6 21) ["text","ends","great"]
 aY:Yh C "law" (Yq 22) (X6 22) ["script"]
section
variable {C:Cx}{c Nc:Zzq}{mN:oO->Option Zzy}{k2 k3:Option Zzy}{sf sA:Zz0}{fb:List ZzZ}{b1:Int->Bool}{b3:Int->Option oO}
abbrev bx(C:Cx):YM:=dB C.prog C.w
theorem bU(H:Ql C c Nc mN k2 k3 sf sA fb b1 b3):Y5 C 6 (M3 c (bx C)):=Y5.Hv (Y5.str H.hd.toHdOK2 H.st (Y5.len H.hd.toHdOK3 (H.sg.more H.more) H.len.1 H.len.2) (H.more.miss _ (by simp)) H.more.str) 30 H.enum.1 H.enum.2
theorem cf:∃p1 p2 p3 p4 p5 p6,X6 7=[.Return (some (.Compare (.Call (.Name "ord" p1) [.Name "code" p2] [] p3) [.In] [.Name "b1_set" p4] p5)) p6]:=⟨_,_,_,_,_,_,rfl⟩
theorem jS  (as:List AV):(M3 c B).cl "ord" as=Qa as:=by
 show Ys (Ys (Qa as) none) none=Qa as
 cases Qa as<;>rfl
theorem E8     {ch:Nat}(hS:∀as,S.cl "ord" as=Qa as)(hx:x.cps.toList=[ch])(h1:ZI sc "ord"=true)(h2:ZI sc "code"=false):
 ev S 60 sc (Zd (λ_=>none) ["code"] [.str x]) (.Call (.Name "ord" p1) [.Name "code" p2] [] p3)=some (.val (.int ch)):=by
 have e1:Qa [.val (.str x)]=some (.int ch):=by
  show (WT x.cps.toList λc=>some (PV.int c))=_
  rw[hx];rfl
 exact Yc (by rw[h1];rfl) (Yv tT (UY (by rw[h2];rfl) (a:=.val (.str x)) rfl) Xi) ((hS _).trans e1)
theorem up1(H:Ql C c Nc mN k2 k3 sf sA fb b1 b3):Y5 C 7 (Sa c b1 (bx C)):=by
 refine (bU H).call λk as d hk h=>?_
 refine YH h λv ev h=>Zv h λx ex h=>YH h λch hx h=>?_
 rw[ev,Y7 ex]
 obtain⟨p1,p2,p3,p4,p5,p6,e⟩:=cf
 obtain⟨a,n,h1,h2⟩:=H.set
 have D:=H.ky
 rw[e] at D
 rw[<-Zzv h]
 exact (Hy (bU H k hk) D oD rfl (E8 (S:=M3 c (bx C)) jS hx oD oD) h1 oD oD rfl h2)
theorem ck:∃p1 p2 p3 p4 p5 p6 p7 p8 q1 q2 q3 q4 q5 q6 r1 r2 r3 r4 n,X6 9=.Assign [.Name "r" p1] (.Call (.Attribute (.Name "b3_exceptions" p2) "get" p3) [.Call (.Name "ord" p4) [.Name "code" p5] [] p6] [] p7) p8 ::
 [.If (.Compare (.Name "r" q1) [.IsNot] [.Constant .none n q2] q3) [.Return (some (.Name "r" q4)) q5] [] q6,.Return (some (.Call (.Attribute (.Name "code" r1) "lower" r2) [] [] r3)) r4]/\(p3.endLine==p7.line)=true/\(r2.endLine==r3.line)=true:=
 ⟨_,_,_,_,_,_,_,_,_,_,_,_,_,_,_,_,_,_,_,rfl,by decide,by decide⟩
theorem fM      (hS:S.mt "lower" (.val (.str x)) []=some (.str (Zvu x)))(h1:ZI (Yq 9) "r"=false)(h2:ZI (Yq 9) "code"=false)(hl:(r2.endLine==r3.line)=true):
 XU (Tn S []) 60 (Yq 9) ((Zd (λ_=>none) ["code"] [.str x]).set "r" (.val (Yy o))) [.If (.Compare (.Name "r" q1) [.IsNot] [.Constant .none n q2] q3) [.Return (some (.Name "r" q4)) q5] [] q6,.Return (some (.Call (.Attribute (.Name "code" r1) "lower" r2) [] [] r3)) r4]=
  some (.ret (.str (o.getD (Zvu x))),(Zd (λ_=>none) ["code"] [.str x]).set "r" (.val (Yy o))):=by
 cases o with
 |none=>exact J0 (WX (Y1 tF (UY (by rw[h1];rfl) (a:=.val .none) rfl) KD rfl) WV) (Io (VM (II (VF (by rw[hl];rfl) (UY (by rw[h2];rfl) (a:=.val (.str x)) rfl) Xi hS) rfl)))
 |some y=>exact Io (Um (Y1 tF (UY (by rw[h1];rfl) (a:=.val (.str y)) rfl) KD rfl) (Io (VM (II (UY (by rw[h1];rfl) (a:=.val (.str y)) rfl) rfl))))
theorem Hv(H:Ql C c Nc mN k2 k3 sf sA fb b1 b3):Y5 C 8 (Sb c b1 b3 (bx C)):=by
 refine (up1 H).call λk as d hk h=>?_
 refine YH h λv ev h=>Zv h λx ex h=>YH h λch hx h=>?_
 rw[ev,Y7 ex]
 obtain⟨p1,p2,p3,p4,p5,p6,p7,p8,q1,q2,q3,q4,q5,q6,r1,r2,r3,r4,n,e,l1,l2⟩:=ck
 obtain⟨a,f,h1,h2,h3,h4⟩:=H.dict
 have D:=H.yS
 rw[e] at D
 have zS:x.length<=5592405:=by
  show x.cps.toList.length<=5592405
  rw[hx];exact ZzV 1 5592404
 have rO:(Sa c b1 (bx C)).mt "lower" (.val (.str x)) []=some (.str (Zvu x)):=(if_pos zS).trans rfl
 rw[<-Zzv h]
 exact (Ni (T:=Tn (Sa c b1 (bx C)) []) (up1 H k hk) rfl D oD rfl (E8 (S:=Sa c b1 (bx C)) (λas=>(jS (c:=c) as)) hx oD oD) oD h1 h2 oD oD l1 rfl rfl h3 (h4 ch)
  (fM (S:=Sa c b1 (bx C)) (o:=b3 ch) rO oD oD l2))
theorem s8(H:Ql C c Nc mN k2 k3 sf sA fb b1 b3):Y5 C 9 (S1 c b1 b3 (bx C)):=(Hv H).own (T:=Tn (Sb c b1 b3 (bx C)) ["ws"]) (λk F _ _ _=>JM C k F rfl) H.em oD
theorem se(H:Ql C c Nc mN k2 k3 sf sA fb b1 b3):Y5 C 10 (S2 c b1 b3 (bx C)):=(s8 H).own (T:=Tn (S1 c b1 b3 (bx C)) []) (λk F _ _ _=>JM C k F rfl) H.great oD
theorem sr(H:Ql C c Nc mN k2 k3 sf sA fb b1 b3):Y5 C 11 (S3 c b1 b3 (bx C)):=(se H).own (T:=Tn (S2 c b1 b3 (bx C)) ["great"]) (λk F _ _ _=>JM C k F rfl) H.kinds oD
theorem sh(H:Ql C c Nc mN k2 k3 sf sA fb b1 b3):Y5 C 12 (S4 c b1 b3 (bx C)):=(sr H).own (T:=Tn (S3 c b1 b3 (bx C)) ["ends"]) (λk F _ _ _=>JM C k F rfl) H.pieces oD
theorem bV(H:Ql C c Nc mN k2 k3 sf sA fb b1 b3):Y5 C 13 (S5 c b1 b3 (bx C)):=(sh H).own (T:=Tn (S4 c b1 b3 (bx C)) ["least"]) (λk F _ _ _=>JM C k F rfl) H.least oD
theorem jX(H:Ql C c Nc mN k2 k3 sf sA fb b1 b3)   (hS:Y5 C k₀ S)(h3:3<=k₀)  :∀k F,k₀<=k->F.env.scope=Yq i->XT F->B8 C k (Th c S ow (Yq i)) F:=λk F hk hs hF=>by
 obtain⟨k',rfl⟩:∃k',k=k'+3:=⟨k-3,(Zxn (oP h3 hk)).symm⟩
 exact iw H.hd H.ah H.ad (hS (k'+3) hk) (by rw[hs]) hF
theorem bW(H:Ql C c Nc mN k2 k3 sf sA fb b1 b3):Y5 C 14 (S6 c b1 b3 (bx C)):=(bV H).own (T:=Th c (S5 c b1 b3 (bx C)) [] (Yq 21)) (jX H (bV H) oD) H.jH oD
theorem ON(H:Ql C c Nc mN k2 k3 sf sA fb b1 b3)  (hk:14<=k)   (h:PF c b1 b3 (bx C) as=some d):∃f,C.mg "law"=some (.ref f)/\XH C f/\ZG C (k+1) (.ref f) as d:=
 ZG.own (T:=Th c (S6 c b1 b3 (bx C)) ["sizes"] (Yq 22)) (bW H k hk) (λF hs hF=>jX H (bW H) oD k F hk hs hF) H.aY oD h
end
end Mine.Internal.L2
end
section
open PySem PySem.W PyProof.Rows
namespace Mine.Internal.Uy
def YP(w:Zzk)(h:Zza):Prop:=∀b o,(H1 w.params).get? b=some o->h.get? b=some o
abbrev rr:OpenRow:=ZyA.row
theorem Ez:rr.prog=prog:=by kernel_rfl!
theorem de:LeftO rr.prog qv loose (λ_=>true) (λs=>s.heap) (λw=>H1 w.params) 60000:=by
 rw[Ez];exact left
def P0:Option (DefRec × List (oO × Zzw)):=defOf qv rr.name
theorem E3:P0.isSome=true:=by kernel_rfl!
noncomputable def dd:DefRec:=(P0.get E3).1
noncomputable def kk:List (oO × Zzw):=(P0.get E3).2
theorem ta:defOf qv rr.name=some (dd,kk):=by kernel_rfl!
theorem hp:rr.prog.theDef rr.name=some (dd.params,dd.body,dd.scope):=by kernel_rfl!
theorem hk:kwWritten? dd.params.kwonlyargs dd.params.kw_defaults=some kk:=by kernel_rfl!
theorem lX:(chainsOk qv&&opensWell rr.prog&&(frees rr.toRowW&&rr.within.isEmpty))=true:=by decide +kernel
theorem bare:rr.prog.bare:=by
 rw[Ez]
 exact⟨rfl,rfl,rfl,rfl,rfl,by decide +kernel⟩
theorem FJ:(!rr.writes||rr.records.isEmpty)=true:=by kernel_rfl!
theorem mK:rr.records=[]:=by kernel_rfl!
theorem ET(wit:rr.toRowW.promised)(P5:rr.wellSaid=true)(call:WalkO qv loose (λ_ _=>True) YP rr.toRowW dd kk λf vs=>PySem.call f vs):rr.Holds:=
 PySem.W.holds_open (r:=rr) (q:=qv) (loose:=loose) (Xt:=λ_=>true) (XP:=λ_ _=>True) (Yf:=λs=>s.heap) (Ya:=λw=>H1 w.params) (YP:=YP) (N:=60000) de
  (λw s e b o h=>by rw[e];exact h) (λw h h' y k b o e=>k b o (y b o e)) (λ_ _=>trivial) (λ_ _ _ _ _=>trivial) ta hp hk (λs _=>recFacts_nil mK) FJ P5 lX bare wit call
theorem fh:ZyA.wellSaid=true:=by decide +kernel
theorem holds_of(call:WalkO qv loose (λ_ _=>True) YP rr.toRowW dd kk λf vs=>PySem.call f vs):ZyA.Holds:=by
 refine PySem.W.holds_law fh λP5=>?_
 refine ET ?wit P5 call
 case wit=>w_witness2
end Mine.Internal.Uy
end
section
open PySem PySem.W PyProof.Rows
namespace Mine.Internal.Uy
theorem iE(P:Zzn):(H1 P).isNs mainGlobals=true:=by kernel_rfl!
theorem cc(P:Zzn):(H1 P).isNs builtinsNs=true:=by kernel_rfl!
theorem fK(P:Zzn):(H1 P).isNs cStatics=true:=by kernel_rfl!
theorem dk(P:Zzn):(H1 P).nsMap cStatics "sys.recursionlimit"=none:=by kernel_rfl!
def cx(w:Zzk):Cx:=⟨prog,w,(H1 w.params).nsMap mainGlobals,(H1 w.params).nsMap builtinsNs,YP w,λh h' y k b o e=>k b o (y b o e)⟩
theorem noLimit(P:Zzn):(H1 P).NoLimit:=⟨(H1 P).nsMap cStatics,Zvr (fK P),dk P⟩
theorem t6  {K:Zza->Prop}  (k:K h)(y:ZY (H1 P) h):Hh ((H1 P).nsMap mainGlobals) ((H1 P).nsMap builtinsNs) K h where
 g:=(Zvr (iE P)).keeps y
 b:=(Zvr (cc P)).keeps y
 nolimit:=(noLimit P).keeps y
 Xj:=k
theorem Jx  {h:Zza}(y:YP w h):(cx w).G h:=by
 simp only[Cx.G,cx]
 exact t6 (P:=w.params) (K:=YP w) (h:=h) y y
theorem Et(w:Zzk):(cx w).mb "len"=some (.builtin "len"):=by kernel_rfl!
theorem En(w:Zzk):(cx w).mg "len"=none:=by kernel_rfl!
theorem iT(w:Zzk):(cx w).mb "ord"=some (.builtin "ord"):=by kernel_rfl!
theorem iI(w:Zzk):(cx w).mg "ord"=none:=by kernel_rfl!
theorem iR(w:Zzk):(cx w).mb "chr"=some (.builtin "chr"):=by kernel_rfl!
theorem iF(w:Zzk):(cx w).mg "chr"=none:=by kernel_rfl!
theorem iH(w:Zzk):(cx w).mb "sum"=some (.builtin "sum"):=by kernel_rfl!
theorem iK(w:Zzk):(cx w).mg "sum"=none:=by kernel_rfl!
theorem Eh(w:Zzk):(cx w).mb "max"=some (.builtin "max"):=by kernel_rfl!
theorem Ea(w:Zzk):(cx w).mg "max"=none:=by kernel_rfl!
theorem El(w:Zzk):(cx w).mb "min"=some (.builtin "min"):=by kernel_rfl!
theorem Eb(w:Zzk):(cx w).mg "min"=none:=by kernel_rfl!
theorem HM(w:Zzk):(cx w).mb "list"=some (.type "list"):=by kernel_rfl!
theorem HN(w:Zzk):(cx w).mg "list"=none:=by kernel_rfl!
theorem OD(w:Zzk):(cx w).mb "range"=some (.type "range"):=by kernel_rfl!
theorem OJ(w:Zzk):(cx w).mg "range"=none:=by kernel_rfl!
theorem iM(w:Zzk):(cx w).mb "zip"=some (.type "zip"):=by kernel_rfl!
theorem iJ(w:Zzk):(cx w).mg "zip"=none:=by kernel_rfl!
theorem LW(w:Zzk):(cx w).mb "enumerate"=some (.type "enumerate"):=by kernel_rfl!
theorem LY(w:Zzk):(cx w).mg "enumerate"=none:=by kernel_rfl!
theorem Em(w:Zzk):(cx w).mb "str"=some (.type "str"):=by kernel_rfl!
theorem Ec(w:Zzk):(cx w).mg "str"=none:=by kernel_rfl!
theorem iS(w:Zzk):(cx w).mb "int"=some (.type "int"):=by kernel_rfl!
theorem iG(w:Zzk):(cx w).mg "int"=none:=by kernel_rfl!
theorem vV(w:Zzk):(cx w).mb "dict"=some (.type "dict"):=by kernel_rfl!
theorem v9(w:Zzk):(cx w).mg "dict"=none:=by kernel_rfl!
theorem base(w:Zzk):MZ (cx w):=⟨λx hx=>by
 simp only[ZzN,Zvy,or_false] at hx
 rcases hx with rfl |rfl |rfl |rfl |rfl |rfl
 ·exact En w
 ·exact iI w
 ·exact iF w
 ·exact iK w
 ·exact Ea w
 ·exact Eb w,Et w,iT w,iR w,iH w,Eh w,El w⟩
theorem kZ   (g:(cx w).G h):h.get? 45=some (C2 w.params):=g.Xj _ _ oK
theorem tN   (g:(cx w).G h):h.get? 44=some (Na w.params):=g.Xj _ _ oK
def Vp(P:Zzn):Zyr:=Wi (C2 P)
theorem GP(w:Zzk):Yt (cx w) 45 (Vp w.params) (fB (fd 4)):=
 XJ (c:=44) (o:=C2 w.params) (oc:=Na w.params) (vs:=Wf (Na w.params)) (t:=294) (λh g=>kZ g) oK (λh g=>tN g) oK oK oK oK oK
theorem GS(w:Zzk):XH (cx w) 45:=VK (o:=C2 w.params) (fd:=Vp w.params) (λh g=>kZ g) oK
theorem k9   (g:(cx w).G h):h.get? 63=some (C1 w.params):=g.Xj _ _ oK
theorem tB   (g:(cx w).G h):h.get? 62=some (Nb w.params):=g.Xj _ _ oK
def Qo(P:Zzn):Zyr:=Wi (C1 P)
theorem Nu(w:Zzk):Yt (cx w) 63 (Qo w.params) (fB (fd 7)):=
 XJ (c:=62) (o:=C1 w.params) (oc:=Nb w.params) (vs:=Wf (Nb w.params)) (t:=368) (λh g=>k9 g) oK (λh g=>tB g) oK oK oK oK oK
theorem AS(w:Zzk):XH (cx w) 63:=VK (o:=C1 w.params) (fd:=Qo w.params) (λh g=>k9 g) oK
theorem xN   (g:(cx w).G h):h.get? 109=some (G5 w.params):=g.Xj _ _ oK
theorem cO   (g:(cx w).G h):h.get? 108=some (CI w.params):=g.Xj _ _ oK
def Qz(P:Zzn):Zyr:=Wi (G5 P)
theorem Aq(w:Zzk):Yt (cx w) 109 (Qz w.params) (fB (fd 9)):=
 XJ (c:=108) (o:=G5 w.params) (oc:=CI w.params) (vs:=Wf (CI w.params)) (t:=2326) (λh g=>xN g) oK (λh g=>cO g) oK oK oK oK oK
theorem Ax(w:Zzk):XH (cx w) 109:=VK (o:=G5 w.params) (fd:=Qz w.params) (λh g=>xN g) oK
theorem xA   (g:(cx w).G h):h.get? 132=some (K5 w.params):=g.Xj _ _ oK
theorem cA   (g:(cx w).G h):h.get? 131=some (F4 w.params):=g.Xj _ _ oK
def U6(P:Zzn):Zyr:=Wi (K5 P)
theorem Bl(w:Zzk):Yt (cx w) 132 (U6 w.params) (fB (fd 14)):=
 XJ (c:=131) (o:=K5 w.params) (oc:=F4 w.params) (vs:=Wf (F4 w.params)) (t:=2431) (λh g=>xA g) oK (λh g=>cA g) oK oK oK oK oK
theorem Ba(w:Zzk):XH (cx w) 132:=VK (o:=K5 w.params) (fd:=U6 w.params) (λh g=>xA g) oK
theorem xB   (g:(cx w).G h):h.get? 147=some (K4 w.params):=g.Xj _ _ oK
theorem cC   (g:(cx w).G h):h.get? 146=some (F3 w.params):=g.Xj _ _ oK
def VP(P:Zzn):Zyr:=Wi (K4 P)
theorem Cq(w:Zzk):Yt (cx w) 147 (VP w.params) (fB (fc 15 0)):=
 XJ (c:=146) (o:=K4 w.params) (oc:=F3 w.params) (vs:=Wf (F3 w.params)) (t:=2452) (λh g=>xB g) oK (λh g=>cC g) oK oK oK oK oK
theorem xC   (g:(cx w).G h):h.get? 154=some (K3 w.params):=g.Xj _ _ oK
theorem cD   (g:(cx w).G h):h.get? 153=some (F2 w.params):=g.Xj _ _ oK
def X2(P:Zzn):Zyr:=Wi (K3 P)
theorem UZ(w:Zzk):Yt (cx w) 154 (X2 w.params) (fB (fc 15 1)):=
 XJ (c:=153) (o:=K3 w.params) (oc:=F2 w.params) (vs:=Wf (F2 w.params)) (t:=2462) (λh g=>xC g) oK (λh g=>cD g) oK oK oK oK oK
theorem xD   (g:(cx w).G h):h.get? 161=some (K2 w.params):=g.Xj _ _ oK
theorem cF   (g:(cx w).G h):h.get? 160=some (F1 w.params):=g.Xj _ _ oK
def U8(P:Zzn):Zyr:=Wi (K2 P)
theorem Bt(w:Zzk):Yt (cx w) 161 (U8 w.params) (fB (fc 15 2)):=
 XJ (c:=160) (o:=K2 w.params) (oc:=F1 w.params) (vs:=Wf (F1 w.params)) (t:=2472) (λh g=>xD g) oK (λh g=>cF g) oK oK oK oK oK
theorem xF   (g:(cx w).G h):h.get? 231=some (K1 w.params):=g.Xj _ _ oK
theorem cG   (g:(cx w).G h):h.get? 230=some (F0 w.params):=g.Xj _ _ oK
def U7(P:Zzn):Zyr:=Wi (K1 P)
theorem Bh(w:Zzk):Yt (cx w) 231 (U7 w.params) (fB (fc 15 13)):=
 XJ (c:=230) (o:=K1 w.params) (oc:=F0 w.params) (vs:=Wf (F0 w.params)) (t:=2555) (λh g=>xF g) oK (λh g=>cG g) oK oK oK oK oK
theorem xG   (g:(cx w).G h):h.get? 252=some (K0 w.params):=g.Xj _ _ oK
theorem cI   (g:(cx w).G h):h.get? 251=some (Fo w.params):=g.Xj _ _ oK
def Y8(P:Zzn):Zyr:=Wi (K0 P)
theorem Ip(w:Zzk):Yt (cx w) 252 (Y8 w.params) (fB (fc 15 16)):=
 XJ (c:=251) (o:=K0 w.params) (oc:=Fo w.params) (vs:=Wf (Fo w.params)) (t:=2577) (λh g=>xG g) oK (λh g=>cI g) oK oK oK oK oK
theorem xI   (g:(cx w).G h):h.get? 266=some (Ko w.params):=g.Xj _ _ oK
theorem cK   (g:(cx w).G h):h.get? 265=some (Fp w.params):=g.Xj _ _ oK
def Qp(P:Zzn):Zyr:=Wi (Ko P)
theorem Nv(w:Zzk):Yt (cx w) 266 (Qp w.params) (fB (fd 17)):=
 XJ (c:=265) (o:=Ko w.params) (oc:=Fp w.params) (vs:=Wf (Fp w.params)) (t:=2601) (λh g=>xI g) oK (λh g=>cK g) oK oK oK oK oK
theorem AH(w:Zzk):XH (cx w) 266:=VK (o:=Ko w.params) (fd:=Qp w.params) (λh g=>xI g) oK
theorem xK   (g:(cx w).G h):h.get? 271=some (Kp w.params):=g.Xj _ _ oK
theorem cJ   (g:(cx w).G h):h.get? 270=some (Fe w.params):=g.Xj _ _ oK
def Qe(P:Zzn):Zyr:=Wi (Kp P)
theorem Nw(w:Zzk):Yt (cx w) 271 (Qe w.params) (fB (fd 18)):=
 XJ (c:=270) (o:=Kp w.params) (oc:=Fe w.params) (vs:=Wf (Fe w.params)) (t:=2609) (λh g=>xK g) oK (λh g=>cJ g) oK oK oK oK oK
theorem AL(w:Zzk):XH (cx w) 271:=VK (o:=Kp w.params) (fd:=Qe w.params) (λh g=>xK g) oK
theorem xJ   (g:(cx w).G h):h.get? 278=some (Ke w.params):=g.Xj _ _ oK
theorem cQ   (g:(cx w).G h):h.get? 277=some (Fs w.params):=g.Xj _ _ oK
def UO(P:Zzn):Zyr:=Wi (Ke P)
theorem Au(w:Zzk):Yt (cx w) 278 (UO w.params) (fB (fd 19)):=
 XJ (c:=277) (o:=Ke w.params) (oc:=Fs w.params) (vs:=Wf (Fs w.params)) (t:=2615) (λh g=>xJ g) oK (λh g=>cQ g) oK oK oK oK oK
theorem Ay(w:Zzk):XH (cx w) 278:=VK (o:=Ke w.params) (fd:=UO w.params) (λh g=>xJ g) oK
theorem xQ   (g:(cx w).G h):h.get? 283=some (Kr w.params):=g.Xj _ _ oK
theorem cU   (g:(cx w).G h):h.get? 282=some (Ft w.params):=g.Xj _ _ oK
def Qr(P:Zzn):Zyr:=Wi (Kr P)
theorem Nx(w:Zzk):Yt (cx w) 283 (Qr w.params) (fB (fd 20)):=
 XJ (c:=282) (o:=Kr w.params) (oc:=Ft w.params) (vs:=Wf (Ft w.params)) (t:=2625) (λh g=>xQ g) oK (λh g=>cU g) oK oK oK oK oK
theorem AM(w:Zzk):XH (cx w) 283:=VK (o:=Kr w.params) (fd:=Qr w.params) (λh g=>xQ g) oK
theorem xU   (g:(cx w).G h):h.get? 288=some (Ks w.params):=g.Xj _ _ oK
theorem cV   (g:(cx w).G h):h.get? 287=some (Fh w.params):=g.Xj _ _ oK
def Jt(P:Zzn):Zyr:=Wi (Ks P)
theorem LQ(w:Zzk):Yt (cx w) 288 (Jt w.params) (fB (fd 21)):=
 XJ (c:=287) (o:=Ks w.params) (oc:=Fh w.params) (vs:=Wf (Fh w.params)) (t:=2631) (λh g=>xU g) oK (λh g=>cV g) oK oK oK oK oK
theorem LV(w:Zzk):XH (cx w) 288:=VK (o:=Ks w.params) (fd:=Jt w.params) (λh g=>xU g) oK
theorem xV   (g:(cx w).G h):h.get? 293=some (Kt w.params):=g.Xj _ _ oK
theorem cW   (g:(cx w).G h):h.get? 292=some (Fl w.params):=g.Xj _ _ oK
def So(P:Zzn):Zyr:=Wi (Kt P)
theorem cy(w:Zzk):Yt (cx w) 293 (So w.params) (fB (fd 22)):=
 XJ (c:=292) (o:=Kt w.params) (oc:=Fl w.params) (vs:=Wf (Fl w.params)) (t:=2637) (λh g=>xV g) oK (λh g=>cW g) oK oK oK oK oK
theorem d9(w:Zzk):XH (cx w) 293:=VK (o:=Kt w.params) (fd:=So w.params) (λh g=>xV g) oK
theorem FV(w:Zzk):(cx w).mg "ELLIPSIS_MARKER"=some (.str (S "...") 291):=by kernel_rfl!
theorem GR(w:Zzk):(cx w).mg "_ellipsis_match"=some (.ref 45):=by kernel_rfl!
theorem zu(w:Zzk):(cx w).mg "b1_set"=some (.ref 53):=by kernel_rfl!
theorem Nz(w:Zzk):(cx w).mg "in_table_b1"=some (.ref 63):=by kernel_rfl!
theorem Bm(w:Zzk):(cx w).mg "b3_exceptions"=some (.ref 64):=by kernel_rfl!
theorem Av(w:Zzk):(cx w).mg "map_table_b3"=some (.ref 109):=by kernel_rfl!
theorem Kw(w:Zzk):(cx w).mg "_name_disallowed_re"=some (.ref 119):=by kernel_rfl!
theorem Je(w:Zzk):(cx w).mg "_value_disallowed_re"=some (.ref 124):=by kernel_rfl!
theorem Bn(w:Zzk):(cx w).mg "_formatparam"=some (.ref 132):=by kernel_rfl!
theorem Pd(w:Zzk):(cx w).mg "Headers"=some (.ref 255):=by kernel_rfl!
theorem AO(w:Zzk):(cx w).mg "_law_great"=some (.ref 266):=by kernel_rfl!
theorem AP(w:Zzk):(cx w).mg "_law_kinds"=some (.ref 271):=by kernel_rfl!
theorem Aw(w:Zzk):(cx w).mg "_law_pieces"=some (.ref 278):=by kernel_rfl!
theorem AE(w:Zzk):(cx w).mg "_law_least"=some (.ref 283):=by kernel_rfl!
theorem LU(w:Zzk):(cx w).mg "_law_page"=some (.ref 288):=by kernel_rfl!
theorem dR(w:Zzk):(cx w).mg "law"=some (.ref 293):=by kernel_rfl!
end Mine.Internal.Uy
end
section
open PySem PySem.W PyProof.Rows
open Sem (wp)
namespace Mine.Internal.Uy
theorem len0{P:List Zzy->Prop}(h:P [])(v:List Zzy)(e:v.length=0):P v:=Zvo e ▸ h
theorem B5{n:Nat}{P:List Zzy->Prop}(h:∀a v,v.length=n->P (a::v))(v:List Zzy)(e:v.length=n+1):P v:=
 (ZwV e).elim λa t=>t.elim λr q=>by subst q;exact h a r (Zxz e)
theorem Ga{P:List Zzy->Prop}(h:∀a,P [a]):∀v:List Zzy,v.length=1->P v:=B5 λa=>len0 (h a)
theorem Qn{P:List Zzy->Prop}(h:∀a b,P [a,b]):∀v:List Zzy,v.length=2->P v:=B5 λa=>B5 λb=>len0 (h a b)
theorem PG{P:List Zzy->Prop}(h:∀a b c,P [a,b,c]):∀v:List Zzy,v.length=3->P v:=B5 λa=>B5 λb=>B5 λc=>len0 (h a b c)
theorem Gd      {fd:Zyr}(h1:(cx w).mg nm=some (.ref f))(h2:XH (cx w) f)(h3:Yt (cx w) f fd body)(h4:fd.scope=sc)(h5:∀s a,Zxb s fd ⟨[a],[]⟩ [(x,a)]):Yh (cx w) nm sc body [x]:=
 ⟨f,fd,h1,h2,h3,h4,λs vals h=>Ga (P:=λv=>Zxb s fd ⟨v,[]⟩ ([x].zip v)) (h5 s) vals h⟩
theorem jT      {fd:Zyr}(h1:(cx w).mg nm=some (.ref f))(h2:XH (cx w) f)(h3:Yt (cx w) f fd body)(h4:fd.scope=sc)(h5:∀s a b,Zxb s fd ⟨[a,b],[]⟩ [(x,a),(y,b)]):Yh (cx w) nm sc body [x,y]:=
 ⟨f,fd,h1,h2,h3,h4,λs vals h=>Qn (P:=λv=>Zxb s fd ⟨v,[]⟩ ([x,y].zip v)) (h5 s) vals h⟩
theorem l9      {fd:Zyr}(h1:(cx w).mg nm=some (.ref f))(h2:XH (cx w) f)(h3:Yt (cx w) f fd body)(h4:fd.scope=sc)(h5:∀s a b c,Zxb s fd ⟨[a,b,c],[]⟩ [(x,a),(y,b),(z,c)]):Yh (cx w) nm sc body [x,y,z]:=
 ⟨f,fd,h1,h2,h3,h4,λs vals h=>PG (P:=λv=>Zxb s fd ⟨v,[]⟩ ([x,y,z].zip v)) (h5 s) vals h⟩
theorem qU          {fd:Zyr}(h1:W0 (cx w) mN nm f)(h3:Yt (cx w) f fd body)(h4:fd.scope=sc)(h5:∀s,(cx w).G s.heap->∀a,Zxb s fd ⟨[a],ks⟩ (xs.zip ([a]++ex))):VB (cx w) mN nm sc body xs 1 ks ex:=
 ⟨f,fd,h1,h3,h4,λs vals g h=>Ga (P:=λv=>Zxb s fd ⟨v,ks⟩ (xs.zip (v++ex))) (h5 s g) vals h⟩
theorem hd2          {fd:Zyr}(h1:W0 (cx w) mN nm f)(h3:Yt (cx w) f fd body)(h4:fd.scope=sc)(h5:∀s,(cx w).G s.heap->∀a b,Zxb s fd ⟨[a,b],ks⟩ (xs.zip ([a,b]++ex))):VB (cx w) mN nm sc body xs 2 ks ex:=
 ⟨f,fd,h1,h3,h4,λs vals g h=>Qn (P:=λv=>Zxb s fd ⟨v,ks⟩ (xs.zip (v++ex))) (h5 s g) vals h⟩
theorem Ie(w:Zzk):Yh (cx w) "_ellipsis_match" (fS (fd 4)) (fB (fd 4)) ["want","got"]:=
 jT (f:=45) (fd:=Vp w.params) (GR w) (GS w) (GP w) oK λ_ _ _=>ZyH oK
theorem Bb(w:Zzk):Yh (cx w) "in_table_b1" (fS (fd 7)) (fB (fd 7)) ["code"]:=
 Gd (f:=63) (fd:=Qo w.params) (Nz w) (AS w) (Nu w) oK λ_ _=>ZyH oK
theorem DO(w:Zzk):Yh (cx w) "map_table_b3" (fS (fd 9)) (fB (fd 9)) ["code"]:=
 Gd (f:=109) (fd:=Qz w.params) (Av w) (Ax w) (Aq w) oK λ_ _=>ZyH oK
theorem Bc(w:Zzk):Yh (cx w) "_law_great" (fS (fd 17)) (fB (fd 17)) ["letter","q"]:=
 jT (f:=266) (fd:=Qp w.params) (AO w) (AH w) (Nv w) oK λ_ _ _=>ZyH oK
theorem Bd(w:Zzk):Yh (cx w) "_law_kinds" (fS (fd 18)) (fB (fd 18)) ["total"]:=
 Gd (f:=271) (fd:=Qe w.params) (AP w) (AL w) (Nw w) oK λ_ _=>ZyH oK
theorem DP(w:Zzk):Yh (cx w) "_law_pieces" (fS (fd 19)) (fB (fd 19)) ["text"]:=
 Gd (f:=278) (fd:=UO w.params) (Aw w) (Ay w) (Au w) oK λ_ _=>ZyH oK
theorem Bf(w:Zzk):Yh (cx w) "_law_least" (fS (fd 20)) (fB (fd 20)) ["text"]:=
 Gd (f:=283) (fd:=Qr w.params) (AE w) (AM w) (Nx w) oK λ_ _=>ZyH oK
theorem BO(w:Zzk):Yh (cx w) "_law_page" (fS (fd 21)) (fB (fd 21)) ["text","ends","great"]:=
 l9 (f:=288) (fd:=Jt w.params) (LU w) (LV w) (LQ w) oK λ_ _ _ _=>ZyH oK
theorem wU(w:Zzk):Yh (cx w) "law" (fS (fd 22)) (fB (fd 22)) ["script"]:=
 Gd (f:=293) (fd:=So w.params) (dR w) (d9 w) (cy w) oK λ_ _=>ZyH oK
noncomputable def UC(a:ZvW)(i:Nat):Pos:=match a.args[i]? with |some x=>x.pos |none=>default
noncomputable def TP(a:ZvW):List Zzw:=a.defaults
theorem pP  {fd:Zyr}     (hp:fd.params=⟨[],[⟨"self",none,UC fd.params 0⟩,⟨"headers",none,UC fd.params 1⟩],none,[],[],none,TP fd.params⟩)(hd:fd.defaults=.ref T)(ho:s.heap.get? T=some o)(hs:o.data=.seq #[.none] n):
 Zxb s fd ⟨[v],[]⟩ [("self",v),("headers",.none)]:=by
 generalize UC fd.params 0=p1 at hp
 generalize UC fd.params 1=p2 at hp
 generalize TP fd.params=c at hp
 obtain⟨f1,f2,f3⟩:=fd
 dsimp only at hp
 subst hp
 exact Zqq hd ho hs rfl rfl
noncomputable def BN(P:Zzn):Obj:=⟨(.type "tuple"),none,.seq #[(.int (14) 0),(.int (10) 0),(.int (4) 0),(.int (1) 0),(.int (1) 0),(.int (22) 0),(.int (0) 0),(.int (31) 0),(.int (16) 0),(.int (127) 0),(.int (0) 0),(.int (13) 0),(.int (7) 0),(.int (22) 0),(.int (0) 0),(.int (31) 0),(.int (16) 0),(.int (127) 0),(.int (0) 0),(.int (1) 0)] 0,#[]⟩
noncomputable def BA(P:Zzn):Obj:=⟨(.type "re.Pattern"),none,.fields #[(.str (S "[\\x00-\\x1F\\x7F]") 2370),(.int (32) 2393),(.int (0) 0),.none,.none,(.ref 118),(.int (0) 0)],#[]⟩
noncomputable def BC(P:Zzn):Obj:=⟨(.type "tuple"),none,.seq #[(.int (14) 0),(.int (14) 0),(.int (4) 0),(.int (1) 0),(.int (1) 0),(.int (9) 0),(.int (4294966783) 0),(.int (0) 0),(.int (0) 0),(.int (2147483648) 0),(.int (0) 0),(.int (0) 0),(.int (0) 0),(.int (0) 0),(.int (0) 0),(.int (13) 0),(.int (11) 0),(.int (9) 0),(.int (4294966783) 0),(.int (0) 0),(.int (0) 0),(.int (2147483648) 0),(.int (0) 0),(.int (0) 0),(.int (0) 0),(.int (0) 0),(.int (0) 0),(.int (1) 0)] 0,#[]⟩
noncomputable def BD(P:Zzn):Obj:=⟨(.type "re.Pattern"),none,.fields #[(.str (S "[\\x00-\\x08\\x0A-\\x1F\\x7F]") 2396),(.int (32) 2427),(.int (0) 0),.none,.none,(.ref 123),(.int (0) 0)],#[]⟩
noncomputable def vr(P:Zzn):Obj:=⟨(.type "tuple"),none,.seq #[.none,(.int (1) 2429)] 0,#[]⟩
noncomputable def vt(P:Zzn):Obj:=⟨(.type "tuple"),none,.seq #[.none] 0,#[]⟩
noncomputable def wF(P:Zzn):Obj:=⟨(.type "type"),none,.cls ⟨(S "Headers"),[(.type "object")],[(.ref 255),(.type "object")],254,(S "Headers"),true,[],[],false,none,false⟩,#[none,none,(some (.str (S "Headers") 2439)),(some (.str (S "Headers") 2447)),(some (.builtin "object.__new__")),(some (.bool true))]⟩
theorem atC   (g:(cx w).G h):h.get? 255=some (wF w.params):=g.Xj _ _ oK
def mN(w:Zzk):oO->Option Zzy:=(H1 w.params).nsMap 254
theorem lU(P:Zzn):(H1 P).isNs 254=true:=by kernel_rfl!
theorem dA(w:Zzk):Qu (cx w) 255 254 (mN w) (some (.str (S "Headers") 2439)) (some (.str (S "Headers") 2447)) where
 obj:=λh g=>(atC g).trans oK
 ns:=λh g=>(Zvr (lU w.params)).keeps g.Xj
 ga:=by kernel_rfl!
 gh:=by kernel_rfl!
 sa:=by kernel_rfl!
 hd:=by kernel_rfl!
theorem FY(w:Zzk):W0 (cx w) (mN w) "__init__" 147:=⟨by kernel_rfl!,⟨K4 w.params,VP w.params,λh g=>xB g,by kernel_rfl!,by kernel_rfl!⟩,⟨some (.builtin "object.__init__"),by rw[Zyn,ZzF];kernel_rfl⟩,by decide⟩
theorem cB   (g:(cx w).G h):h.get? 140=some (vt w.params):=g.Xj _ _ oK
theorem FX(w:Zzk):VB (cx w) (mN w) "__init__" (fS (fc 15 0)) (fB (fc 15 0)) ["self","headers"] 1 [] [.none]:=
 qU (f:=147) (fd:=VP w.params) (FY w) (Cq w) oK λ_ g _=>pP (T:=140) (n:=0) oK oK (cB g) oK
theorem Uc(w:Zzk):W0 (cx w) (mN w) "_convert_string_type" 154:=⟨by kernel_rfl!,⟨K3 w.params,X2 w.params,λh g=>xC g,by kernel_rfl!,by kernel_rfl!⟩,⟨none,by rw[Zyn,ZzF];kernel_rfl⟩,by decide⟩
theorem Ub(w:Zzk)(b:Bool):VB (cx w) (mN w) "_convert_string_type" (fS (fc 15 1)) (fB (fc 15 1)) ["self","value","name"] 2 [("name",.bool b)] [.bool b]:=
 hd2 (f:=154) (fd:=X2 w.params) (Uc w) (UZ w) oK λ_ g _ _=>ZyH oK
theorem Cy(w:Zzk):W0 (cx w) (mN w) "__len__" 161:=⟨by kernel_rfl!,⟨K2 w.params,U8 w.params,λh g=>xD g,by kernel_rfl!,by kernel_rfl!⟩,⟨none,by rw[Zyn,ZzF];kernel_rfl⟩,by decide⟩
theorem Cv(w:Zzk):VB (cx w) (mN w) "__len__" (fS (fc 15 2)) (fB (fc 15 2)) ["self"] 1 [] []:=
 qU (f:=161) (fd:=U8 w.params) (Cy w) (Bt w) oK λ_ g _=>ZyH oK
theorem Cz(w:Zzk):W0 (cx w) (mN w) "__str__" 231:=⟨by kernel_rfl!,⟨K1 w.params,U7 w.params,λh g=>xF g,by kernel_rfl!,by kernel_rfl!⟩,⟨some (.builtin "object.__str__"),by rw[Zyn,ZzF];kernel_rfl⟩,by decide⟩
theorem Cw(w:Zzk):VB (cx w) (mN w) "__str__" (fS (fc 15 13)) (fB (fc 15 13)) ["self"] 1 [] []:=
 qU (f:=231) (fd:=U7 w.params) (Cz w) (Bh w) oK λ_ g _=>ZyH oK
theorem Mr:HT (fB (fc 15 2)):=⟨_,_,_,_,_,rfl⟩
theorem vQ:DC (fB (fc 15 0)):=⟨λi=>[_,_,_,_,_,_,_,_,_,_,_,_,_,_,_,_,_,_,_,_,_,_,_,_,_].getD i default,λi=>[_,_,_].getD i 0,_,_,rfl⟩
theorem vJ:Lf "_name_disallowed_re" "_value_disallowed_re" (fB (fc 15 1)):=⟨λi=>[_,_,_,_,_,_,_,_,_,_,_,_,_,_,_,_,_,_,_].getD i default,_,_,rfl,by decide⟩
theorem cS   (g:(cx w).G h):h.get? 119=some (BA w.params):=g.Xj _ _ oK
theorem cR   (g:(cx w).G h):h.get? 118=some (BN w.params):=g.Xj _ _ oK
theorem cM   (g:(cx w).G h):h.get? 124=some (BD w.params):=g.Xj _ _ oK
theorem cH   (g:(cx w).G h):h.get? 123=some (BC w.params):=g.Xj _ _ oK
noncomputable def kb(o:Obj):Array Zzy:=match o.data with |.fields fs=>fs |_=>#[]
noncomputable def jW(o:Obj):Array Zzy:=match o.data with |.seq xs _=>xs |_=>#[]
theorem il(w:Zzk):QK (cx w) 119:=⟨118,BA w.params,BN w.params,kb (BA w.params),jW (BN w.params),0,λh g=>cS g,λh g=>cR g,by kernel_rfl!,by kernel_rfl!,by kernel_rfl!,by kernel_rfl!,by kernel_rfl!,by kernel_rfl!,by kernel_rfl!,.inl oK⟩
theorem ia(w:Zzk):QK (cx w) 124:=⟨123,BD w.params,BC w.params,kb (BD w.params),jW (BC w.params),0,λh g=>cM g,λh g=>cH g,by kernel_rfl!,by kernel_rfl!,by kernel_rfl!,by kernel_rfl!,by kernel_rfl!,by kernel_rfl!,by kernel_rfl!,.inr oK⟩
theorem v8(w:Zzk):(cx w).mg "type"=none:=by kernel_rfl!
theorem vX(w:Zzk):(cx w).mb "type"=some (.type "type"):=by kernel_rfl!
theorem P4(w:Zzk)  (qZ:∀x d,gv x=some d->∃v,(cx w).mg x=some v/\∀P h,Rep P h d v):Y5 (cx w) 0 ⟨FP,IF,gv,λ_ _ _=>none,λ_ _ _ _ _=>none⟩:=
 Y5.base (base w) qZ (λx e=>by
  rcases e with rfl |rfl |rfl
  ·exact HN w
  ·exact OJ w
  ·exact iJ w) (HM w) (OD w) (iM w)
theorem xl(w:Zzk):Fi (cx w) 255 254 (mN w) (some (.str (S "Headers") 2439)) (some (.str (S "Headers") 2447)) where
 cls:=dA w
 conv:=⟨_,_,_,_,119,124,Ub w,vJ,il w,ia w,Kw w,Je w,by kernel_rfl!,by kernel_rfl!,by kernel_rfl!,by kernel_rfl!,by decide,by decide,by kernel_rfl!,by kernel_rfl!⟩
 type:=⟨v8 w,vX w⟩
 str:=⟨Ec w,Em w⟩
 sg:=P4 w λ_ _ e=>by cases e
 len:=⟨_,_,Cv w,Mr,by kernel_rfl!,by kernel_rfl!,by kernel_rfl!⟩
 init:=⟨_,_,FX w,vQ,by kernel_rfl!,by kernel_rfl!,by kernel_rfl!,by kernel_rfl!⟩
 list:=⟨HN w,HM w⟩
 glob:=Pd w
end Mine.Internal.Uy
end
section
open PySem PySem.W PyProof.Rows
open Sem (wp)
namespace Mine.Internal
open Mine.Internal.Hd
noncomputable def gq(x:Int × Tok):Int × Zzy:=(x.1,.int x.1 x.2)
theorem SD   {h:Zza}     (xs:List (Int × Tok))(ho:h.get? a=some o)(hc:o.cls=.type "set")(hd:o.dict=none)(hs:o.slots=#[])(RY:o.data=.set (xs.map gq).toArray ep t)
 (hh:(xs.all λx=>hashInt x.1==x.1&&(Zwk x.1 x.2).scannable)=true) (hb:xs.length<scanBound) (hf:t.fits xs.length=true):h.SetOf (intKind prog w) a (λi=>xs.any λx=>x.1==i) xs.length:=by
 refine⟨o,_,ep,t,ho,⟨hc,hd,hs⟩,RY,λe he=>?_,λk=>?_,by simpa using hb,by simpa using hf,by simp⟩
 ·simp only[Zyi] at he
  obtain⟨x,hx,rfl⟩:=he
  have:=ZzD.mp hh x hx
  simp only[ZzQ,beq_iff_eq] at this
  exact⟨⟨x.1,(beq_self_eq_true x.1:(x.1==x.1)=true),this.1.symm⟩,this.2⟩
 ·simp only[ZqU,Zyi,beq_iff_eq]
  constructor
  ·rintro⟨x,hx,rfl⟩
   exact⟨_,⟨x,hx,rfl⟩,(beq_self_eq_true x.1:(x.1==x.1)=true)⟩
  ·rintro⟨e,⟨x,hx,rfl⟩,he⟩
   have he:(x.1==k)=true:=he
   exact⟨x,hx,beq_iff_eq.mp he⟩
theorem SM   {h:Zza}   (xs:List XM)(ho:h.get? a=some (Yi (Zr xs) n)):h.MapOf (intKind prog w) a (λi=>(xs.find? λx=>x.1==i).map (·.2.2)):=by
 refine⟨_,Zr xs,n,ho,⟨rfl,rfl,rfl⟩,rfl,λe he=>?_,λk=>?_⟩
 ·unfold Zr at he
  simp only[ZqF,Zyi] at he
  obtain⟨x,hx,rfl⟩:=he
  exact⟨x.1,(beq_self_eq_true x.1:(x.1==x.1)=true),rfl⟩
 ·unfold findBy Zr
  simp only[List.find?_toArray,List.find?_map]
  have:((λe:ZxZ=>(intKind prog w).is k e.key)∘ent)=λx:XM=>x.1==k:=by
   funext x
   rfl
  rw[this]
  cases xs.find? λx=>x.1==k<;>rfl
namespace Uy
open Mine.Internal.Hd
noncomputable def Ou:List (Int × Tok):=[(65024,323),(65025,324),(65026,325),(65027,326),(65028,327),(65029,328),(6150,309),(65030,329),(65031,330),(65032,331),(65033,332),(6155,310),(6156,311),(6157,312),(8203,313),(8204,314),(8205,315),(65034,333),(65035,334),(65036,335),(65037,336),(65038,337),(65039,338),(173,307),(847,308),(8288,316),(65279,317)]
noncomputable def yL(P:Zzn):Obj:=⟨(.type "set"),none,.set #[(65024,(.int (65024) 323)),(65025,(.int (65025) 324)),(65026,(.int (65026) 325)),(65027,(.int (65027) 326)),(65028,(.int (65028) 327)),(65029,(.int (65029) 328)),(6150,(.int (6150) 309)),(65030,(.int (65030) 329)),(65031,(.int (65031) 330)),(65032,(.int (65032) 331)),(65033,(.int (65033) 332)),(6155,(.int (6155) 310)),(6156,(.int (6156) 311)),(6157,(.int (6157) 312)),(8203,(.int (8203) 313)),(8204,(.int (8204) 314)),(8205,(.int (8205) 315)),(65034,(.int (65034) 333)),(65035,(.int (65035) 334)),(65036,(.int (65036) 335)),(65037,(.int (65037) 336)),(65038,(.int (65038) 337)),(65039,(.int (65039) 338)),(173,(.int (173) 307)),(847,(.int (847) 308)),(8288,(.int (8288) 316)),(65279,(.int (65279) 317))] 29 ⟨127,#[0,1,2,3,4,5,6,7,8,9,10,11,12,13,14,15,16,17,18,19,20,21,22,45,79,96,127],#[],0,!P.followText "set-order",2,true⟩,#[]⟩
def iu(o:Obj):SetTable:=match o.data with |.set _ _ t=>t |_=>default
theorem tA   (g:(cx w).G h):h.get? 53=some (yL w.params):=g.Xj _ _ oK
theorem cY(w:Zzk)(h:Zza)(g:(cx w).G h):h.SetOf (intKind (cx w).prog (cx w).w) 53 (λi=>Ou.any λx=>x.1==i) 27:=
 SD Ou (ep:=29) (t:=iu (yL w.params)) (tA g) oK oK oK oK oD oD oK
def CC:List (Int × oO):=dataOf Gr Gs
def D8:List XM:=ZP 374 (CC.take 17)++Yp (374+51) (Wo 37 (CC.drop 17))++Xs (374+51+51*37) ((CC.drop 17).drop (17*37))
theorem tC   (g:(cx w).G h):h.get? 64=some (Yi (Zr D8) CC.length):=g.Xj _ _ oK
theorem c8(w:Zzk)(h:Zza)(g:(cx w).G h):h.MapOf (intKind (cx w).prog (cx w).w) 64 (λi=>(D8.find? λx=>x.1==i).map (·.2.2)):=SM D8 (tC g)
noncomputable def gx:Zzy->Bool
 |.str _ _=>true
 |_=>false
theorem gO:(D8.all λx=>gx x.2.2)=true:=by decide +kernel
noncomputable def Hm(i:Int):Bool:=Ou.any λx=>x.1==i
noncomputable def strOf:Zzy->Option oO
 |.str s _=>some s
 |_=>none
def NT(i:Int):Option oO:=((D8.find? λx=>x.1==i).map (·.2.2)).bind strOf
noncomputable def optStr:Option oO->PV
 |some s=>.str s
 |none=>.none
theorem c7(i:Int)(P:Zzq->Prop)(h:Zza):Rep P h (optStr (NT i)) ((((D8.find? λx=>x.1==i).map (·.2.2))).getD .none):=by
 unfold NT
 cases e:D8.find? λx=>x.1==i with
 |none=>exact Xo.mpr rfl
 | some x=>
   have hm:=ZvH e
   have:=ZzD.mp gO x hm
   obtain⟨a,b,v⟩:=x
   cases v<;>first |cases this |skip
   exact Zc.mpr ⟨_,rfl⟩
end Uy
end Mine.Internal
end
section
open PySem PySem.W PyProof.Rows
open Sem (wp)
namespace Mine.Internal.Uy
theorem pE  {fd:Zyr}     (hp:fd.params=⟨[],[⟨"param",none,UC fd.params 0⟩,⟨"value",none,UC fd.params 1⟩,⟨"quote",none,UC fd.params 2⟩],none,[],[],none,TP fd.params⟩)(hd:fd.defaults=.ref T)(ho:s.heap.get? T=some o)(hs:o.data=.seq #[x0,x1] n):
 Zxb s fd ⟨[u,v],[]⟩ [("param",u),("value",v),("quote",x1)]:=by
 generalize UC fd.params 0=p1 at hp
 generalize UC fd.params 1=p2 at hp
 generalize UC fd.params 2=p3 at hp
 generalize TP fd.params=c at hp
 obtain⟨f1,f2,f3⟩:=fd
 dsimp only at hp
 subst hp
 exact Zqq hd ho hs rfl rfl
theorem cN   (g:(cx w).G h):h.get? 125=some (vr w.params):=g.Xj _ _ oK
theorem dt:M6 (fB (fd 14)):=⟨λi=>[_,_,_,_,_,_,_,_,_,_,_,_,_,_,_,_,_,_,_,_,_,_,_,_,_,_,_,_,_,_,_,_].getD i default,λi=>[_,_,_,_,_,_,_,_].getD i 0,_,_,_,rfl,by decide,by decide⟩
theorem dE(w:Zzk):N6 (cx w) (fS (fd 14)) (fB (fd 14)) where
 jO:=dt
 loc:=⟨by kernel_rfl!,by kernel_rfl!,by kernel_rfl!,by kernel_rfl!,by kernel_rfl!⟩
 par:=by kernel_rfl!
 ex:=⟨132,U6 w.params,2429,Bn w,Ba w,Bl w,by kernel_rfl!,λs u v g=>pE (T:=125) (n:=0) (x0:=.none) oK oK (cN g) oK⟩
theorem sV(w:Zzk):Y5 (cx w) 0 Vv:=P4 w λ_ _ e=>by cases e
theorem Ed(w:Zzk):M9 (cx w) where
 miss:=λx m=>by
  simp only[ZzN,Zvy,or_false] at m
  rcases m with rfl |rfl |rfl |rfl |rfl
  ·exact Ec w
  ·exact iG w
  ·exact v9 w
  ·exact Ea w
  ·exact Eb w
 str:=Em w
 int:=iS w
 dict:=vV w
 max:=Eh w
 min:=El w
theorem tS(w:Zzk):JO (cx w) 255 254 (mN w) (some (.str (S "Headers") 2439)) (some (.str (S "Headers") 2447)) (fS (fd 14)) (fS (fc 15 16)) (fB (fd 14)) where
 toHdOK2:=(xl w).toHdOK2
 fmt:=dE w
 sf:=λk hk=>fC ((sV w).more (Ed w) k hk)
 loc:=by kernel_rfl!
 kf:=by kernel_rfl!
theorem iN(w:Zzk):W0 (cx w) (mN w) "add_header" 252:=⟨by kernel_rfl!,⟨K0 w.params,Y8 w.params,λh g=>xG g,by kernel_rfl!,by kernel_rfl!⟩,⟨none,by rw[Zyn,ZzF];kernel_rfl⟩,by decide⟩
theorem iO:FZ (fB (fc 15 16)):=⟨λi=>[_,_,_,_,_,_,_,_,_,_,_,_,_,_,_,_,_,_,_,_,_,_,_,_,_,_,_,_,_,_,_,_,_,_,_,_,_,_,_,_,_,_,_,_,_,_,_,_,_,_,_,_,_,_,_,_,_,_,_,_,_,_,_,_,_,_,_,_,_,_,_,_,_,_,_,_,_,_,_,_,_,_,_,_].getD i default,λi=>[_,_,_,_,_,_,_,_,_,_,_,_,_].getD i 0,rfl,by decide⟩
noncomputable def tL(a:ZvW):Pos:=match a.kwarg with |some x=>x.pos |none=>default
theorem bw(w:Zzk):N7 (cx w) (mN w) (fS (fc 15 16)) where
 ex:=⟨252,Y8 w.params,fB (fc 15 16),λi=>[UC (Y8 w.params).params 0,UC (Y8 w.params).params 1,UC (Y8 w.params).params 2,tL (Y8 w.params).params].getD i default,iN w,Ip w,by kernel_rfl!,iO,by kernel_rfl!,by kernel_rfl!⟩
 par:=by kernel_rfl!
theorem vU:BW (fB (fc 15 13)):=⟨λi=>[_,_,_,_,_,_,_,_,_,_,_,_,_,_,_].getD i default,λi=>[_,_,_,_].getD i 0,_,rfl,by decide,by kernel_rfl!,λsc σ=>by kernel_rfl!,λsc=>by kernel_rfl!⟩
theorem iz(w:Zzk):Jc (cx w) (mN w) where
 ex:=⟨_,_,Cw w,vU,by kernel_rfl!,by kernel_rfl!⟩
theorem QQ      (h:Yh C n s b xs)(e1:s=s')(e2:b=b'):Yh C n s' b' xs:=by subst e1 e2;exact h
theorem t5(w:Zzk):∀x d,L2.yu x=some d->∃v,(cx w).mg x=some v/\∀P h,Rep P h d v:=by
 intro x d h
 unfold L2.yu at h
 split at h
 ·rename_i e
  have e:=beq_iff_eq.mp e
  subst e
  cases h
  exact⟨_,FV w,λP h=>Zc.mpr ⟨_,rfl⟩⟩
 ·cases h
theorem lZ(o:Option oO):Yy o=optStr o:=by cases o<;>rfl
theorem lL(w:Zzk):L2.Ql (cx w) 255 254 (mN w) (some (.str (S "Headers") 2439)) (some (.str (S "Headers") 2447)) (fS (fd 14)) (fS (fc 15 16)) (fB (fd 14)) Hm NT where
 hd:=xl w
 ah:=tS w
 ad:=bw w
 st:=iz w
 sg:=P4 w (t5 w)
 more:=Ed w
 enum:=⟨LY w,LW w⟩
 len:=⟨En w,Et w⟩
 ky:=QQ (Bb w) oK oK
 set:=⟨53,27,zu w,cY w⟩
 yS:=QQ (DO w) oK oK
 dict:=⟨64,_,Bm w,rfl,c8 w,λi P h=>by rw[lZ];exact c7 i P h⟩
 em:=QQ (Ie w) oK oK
 great:=QQ (Bc w) oK oK
 kinds:=QQ (Bd w) oK oK
 pieces:=QQ (DP w) oK oK
 least:=QQ (Bf w) oK oK
 jH:=QQ (BO w) oK oK
 aY:=QQ (wU w) oK oK
theorem OQ{h:Zza}   (x:h.Ns a m)(y:h.Ns a m'):m=m':=by
 obtain⟨o,es,ep,g1,g2,g3,g4⟩:=x
 obtain⟨o',Cp,NM,h1,h2,h3,h4⟩:=y
 rw[g1] at h1;cases h1;rw[g2] at h2;cases h2
 funext n;rw[<-g4,<-h4]
theorem has_int  (h:ZuT [] d .int=true):∃i,d=.int i:=by
 cases d with
 |int i=>exact⟨i,rfl⟩
 |_=>cases h
theorem ints_of_all :ZqP [] xs .int=true->∃is:List Int,xs=is.map .int:=by
 induction xs with
 |nil=>exact λ_=>⟨[],rfl⟩
 |cons x xs ih=>exact λh=>Z8 h λh1 h2=>(has_int h1).elim λi e=>(ih h2).elim λis e2=>⟨i::is,by rw[e,e2];rfl⟩
theorem has_list  (h:ZuT [] d (.list .int)=true):∃is:List Int,d=.list (is.map .int):=by
 cases d with
 |list l=>exact (ints_of_all ((Zvz _).symm.trans (show (ZqP [] l .int||false)=true from h))).elim λis e=>⟨is,by rw[e]⟩
 |_=>cases h
theorem i5  (h:Zjs [] args [.list .int]=true):∃is:List Int,args=[.list (is.map .int)]:=by
 cases args with
 |nil=>cases h
 | cons d r=>cases r with
   |nil=>exact Z8 h λh1 _=>(has_list h1).elim λis e=>⟨is,by rw[e]⟩
   |cons e r=>exact Z8 h λ_ h2=>nomatch h2
theorem Ar  :∀{is:List Int} {vs:List Zzy},WellAll P h vs (is.map .int)->Zy (λ_=>True) h (is.map .int) vs
 |[],vs,r=>by cases r;exact Zy.nil
 | i::is,vs,r=>by
   cases r with
   | cons r1 r2=>
     cases r1
     exact Zy.cons (Zf.mpr ⟨_,rfl⟩) (Ar r2)
theorem Od   {is:List Int}  (r:WellAll P h vals [.list (is.map .int)]):Wy (λ_=>True) h [.val (.lst (is.map .int))] vals:=by
 cases r with
 | cons r1 r2=>
   cases r2
   cases r1 with
   |list e1 r3=>exact⟨_,[],rfl,Yn.mpr ⟨_,_,_,rfl,trivial,e1,by simpa using Ar r3⟩,rfl⟩
theorem fR :∀b:Bool,WTm.holds [] (.and (.not (.lit (.bool b))) (.lit (.bool true))) x=true->b=false
 |true,h=>absurd h Zz6
 |false,_=>rfl
theorem zw(tq:∀(B:YM) (is:List Int),is.length<=63->L2.PF 255 Hm NT B [.val (.lst (is.map .int))]=some (.bool true)):ZyA.Holds:=by
 refine holds_of ?_
 intro w s₀ s₁ mg mb G Y a o pm cd doc dV kV ho hd oL yz R4 dC args vals as hY oV oN dU has
 have hG:=Jx Y
 have hO:mg=(cx w).mg:=OQ G.T.g hG.g
 have xb:(Zjs [] args [.list .int]&&(OpenLaw.pre ZyA).holds [] { args:=args })=true:=hY
 obtain⟨is,rfl⟩:=i5 (Xw xb).1
 have hlen:is.length<=63:=by
  have h6:¬(63:Int)<(is.map WData.int).length:=of_decide_eq_false (fR (x:={ args:=[WData.list (is.map .int)] }) _ (Xw xb).2)
  rw[Zzm] at h6
  exact Zy7.mp (Zx5.mp h6)
 obtain⟨f,h1,h2,h3⟩:=L2.ON (lL w) (k:=20) oD (tq _ is hlen)
 have hf:a=f:=by
  have hm:mg "law"=some (.ref a):=R4
  rw[hO,h1] at hm
  cases hm;rfl
 subst hf
 refine h3 callerA s₁ _ _ (λ_=>True) vals ⟨rfl,by decide,by decide⟩ hG (Od dU) (λ_ n=>absurd trivial n) λv s' ks r=>?_
 have:=ZV.mp r
 subst this
 obtain⟨h',tk,rfl,hk⟩:=ks
 refine⟨.inl ⟨.bool true,.bool true,[],rfl,λ_=>rfl,.bool true,?_,λ_=>⟨Zv8,λ_ m=>by cases m⟩⟩,⟨λb o e=>.inl (hk b o e),λb o e=>⟨o,hk b o e⟩⟩,rfl,AllBare.of_eq dC⟩
 show (ZuT [] (.bool true) .bool&&(WTm.eq .res (.lit (.bool true))).holds [] { args:=[.list (is.map .int)],res:=some (.bool true),after:=[.list (is.map .int)] })=true
 have e1:ZuT [] (.bool true) .bool=true:=by decide
 rw[e1]
 have e2:WTm.holds [] (.lit (.bool (W.same (.bool true) (.bool true)))) { args:=[] }=true:=by rw[W.same];rfl
 exact e2
end Mine.Internal.Uy
end
section
open PySem PySem.W PyProof.Rows
namespace Mine.Internal.L2
open Mine.Internal.L1
noncomputable abbrev I1:oO->AV->List AV->Option PV:=aj IF
structure Tab1(S:Sg):Prop where
 mt:∀nm x as,S.mt nm (.val (.str x)) as=I1 nm (.val (.str x)) as
 len:∀d,S.cl "len" [.val d]=Ul [.val d]
 B6:∀ds,S.cl "len" [.own ds]=Ul [.own ds]
 gv:S.gv "ELLIPSIS_MARKER"=some (.str "...")
def G8(x y:oO)(lo hi:Nat):Bool:=match Z0 (Zk x) (Zk y) lo hi with
 |none=>false
 |some p=>(Z0 (Zk x) (Zk y) (p+y.length) hi).isSome
local macro_rules |`(tactic| walk_at "lf")=>do
 let f:=λ(s:String)=>((s.splitOn " ").toArray.map λx=>(⟨Zuf x.toName⟩:Zud `ident))
 let a:=f "ID Hg a0 Mk TR nt qH Mq TS TH nX nY Rl zH Q1 Af bQ qG yj aX aV aW I5 zN ZzG Zxw Zyw Zvt Zzm ZyF List.all_nil Zwy ZxU Zzb Zvb AV.pv beq_self_eq_true D5 if_true if_false Zjr Zjq Zje ZxI Zql Bool.true_or Zvz Zjp Zjj ZxR Zx9"
 `(tactic| focus (simp (decide:=true) (implicitDefEqProofs:=false) only [$[$a:ident],*, *];(try rfl);done))
local macro_rules |`(tactic| walk_at "ex")=>do
 let f:=λ(s:String)=>((s.splitOn " ").toArray.map λx=>(⟨Zuf x.toName⟩:Zud `ident))
 let a:=f "UY W4 YR Yc VF Xi Yv YG J1 N9 Hj Jo VO X9 Dt Y1 PX X8 B2 UI Wa WV VM KD Sw Rc jJ uC uD GO JN De Gg jK PU Jv Un PY Ad bR bH Ds Cg Mz jF TU uB bM bL bP jQ"
 let b:=f "TJ Um WX J0 Io VL TK Dr Hq zD B3 Gi TQ II zF uF bO bE uA"
 `(tactic| first |with_reducible assumption |(with_reducible (first $[|apply $a]*))<;>walk_at "ex" |((with_reducible apply tG);exact tT) |((with_reducible apply tH);exact tF) |exact Rf.mk rfl $[|(with_reducible apply $b)<;>walk_at "ex"]* |walk_at "lf")
def WY(k:Nat):List ZzZ:=(X6 4).drop k
structure Ki(σ:Zx)(got:oO)(l:List PV)(a b:Int):Prop where
 ws:σ "ws"=some (.own l)
 st:σ "startpos"=some (.val (.int a))
 en:σ "endpos"=some (.val (.int b))
 got:σ "got"=some (.val (.str got))
section
variable {S:Sg}{want got s:oO}{l r:List PV}{a b:Int}{d:PV}{σ:Zx}
theorem ai :I1 "startswith" (.val (.str x)) [.val (.str y)]=some (.bool (Zy9 x y)):=rfl
theorem ag :I1 "endswith" (.val (.str x)) [.val (.str y)]=some (.bool (Zy0 x y)):=rfl
theorem rZ  :I1 "find" (.val (.str x)) [.val (.str y),.val (.int i),.val (.int j)]=some (.int (Xu x y i j)):=rfl
theorem QR(H:Tab1 S)(hw:ZyY want "..."=true)(hs:(ZyI want "...").map PV.str=l)(h2:(2:Int)<=l.length)(hl:l.length<=1000)(hz:want.length<=Zzx)(I6:got.length<=Zzx)
 (hp:(Zz7 want (Zze want "..." 0 want.length (want.length+1)) (ZxC "...")).length<=Zzx)
 (h:∀σ,Ki σ got l 0 got.length->Gives (Tn S ["ws"]) 56 (Yq 4) σ (WY 4) d):Gives (Tn S ["ws"]) 60 (Yq 4) (Zd (λ_=>none) ["want","got"] [.str want,.str got]) (X6 4) d:=by
 generalize hb:X6 4=b
 have h4:WY 4=b.drop 4:=by rw[<-hb];rfl
 rw[h4] at h
 clear h4
 conv at hb=>lhs;whnf
 subst hb
 have m2:=H.len;have m3:=H.B6;have m4:=H.gv
 have cn:∀x y:oO,ZE .NotIn (.val (.str x)) (.val (.str y))=some (!Txt.contains y x):=λ_ _=>rfl
 have ge:ZE .GtE (.val (.int l.length)) (.val (.int 2))=some true:=congrArg some (decide_eq_true h2)
 have zl:l.length<=Zzx:=ZT (Zm hl)
 have hq:(ZzB "...").length≠0/\want.length<=Zzx/\_:=⟨by decide,hz,hp⟩
 refine Gives.next (WX (Y1 tF (Rc tT m4) oW (b:=.val (.str want)) ((cn _ _).trans (by rw[hw];rfl))) WV) ?_
 refine Gives.next (TJ tT (mI tT oW (Yv tT (Rc tT m4) Xi) hq hs)) ?_
 refine Gives.next oW ?_
 refine Gives.next (σ':=Zd ((Zd (λ_=>none) ["want","got"] [.str want,.str got]).set "ws" (.own l)) ["startpos","endpos"] [.int 0,.int got.length]) oW (h _ ⟨?_,?_,?_,?_⟩)<;>walk_at "ex"
theorem jV(n:Nat):seqIndex? 0 (n+1)=some 0:=by
 unfold seqIndex?
 simp
theorem x8(H:Tab1 S)(E:Ki σ got (.str s::r) a b)(hr:r.length<=1000)(UW:0<s.length)(J6:s.length<=Zzx)(Xk:Zy9 got s=true)
 (h:∀σ,Ki σ got r s.length b->Gives (Tn S ["ws"]) 54 (Yq 4) σ (WY 6) d):Gives (Tn S ["ws"]) 56 (Yq 4) σ (WY 4) d:=by
 generalize hb:WY 4=bo
 have h6:WY 6=bo.drop 2:=by rw[<-hb];rfl
 rw[h6] at h
 clear h6
 conv at hb=>lhs;whnf
 subst hb
 have m1:=H.mt;have m2:=H.len
 have s1:=E.ws;have s2:=E.st;have s3:=E.en;have s4:=E.got
 have it:∀(a:PV) l,ZO (.own (a::l)) (.int 0)=some a:=λ_ _=>rfl
 have nz:(s.length != 0)=true:=bne_iff_ne.mpr (ZzE UW)
 have ms:=@ai
 refine Gives.next (σ':=σ.set "w" (.val (.str s))) oW ?_
 refine Gives.next (σ':=((σ.set "w" (.val (.str s))).set "startpos" (.val (.int s.length))).set "ws" (.own r)) (Um oW (J0 (Um oW (J0 oW (J0 (y8 (ds:=.str s::r) tT (j:=0) (m:=0) oW oW (jV _) ⟨Zuy _,rfl,ZT (Zm (ZzX hr))⟩ rfl) WV))) WV)) (h _ ⟨?_,?_,?_,?_⟩)<;>walk_at "ex"
theorem x9(H:Tab1 S)(E:Ki σ got (.str s::r) a b)(UW:0<s.length)(J6:s.length<=Zzx)(Xk:Zy9 got s=false):Gives (Tn S ["ws"]) 56 (Yq 4) σ (WY 4) (.bool false):=by
 generalize hb:WY 4=bo
 conv at hb=>lhs;whnf
 subst hb
 have m1:=H.mt
 have s1:=E.ws;have s4:=E.got
 have it:∀(a:PV) l,ZO (.own (a::l)) (.int 0)=some a:=λ_ _=>rfl
 have nz:(s.length != 0)=true:=bne_iff_ne.mpr (ZzE UW)
 have ms:=@ai
 refine Gives.next (σ':=σ.set "w" (.val (.str s))) oW ?_
 exact Gives.ret oW
theorem N0(E:Ki σ got (.str ""::r) a b)(h:∀σ,Ki σ got (.str ""::r) a b->Gives (Tn S ["ws"]) 54 (Yq 4) σ (WY 6) d):Gives (Tn S ["ws"]) 56 (Yq 4) σ (WY 4) d:=by
 generalize hb:WY 4=bo
 have h6:WY 6=bo.drop 2:=by rw[<-hb];rfl
 rw[h6] at h
 clear h6
 conv at hb=>lhs;whnf
 subst hb
 have s1:=E.ws;have s2:=E.st;have s3:=E.en;have s4:=E.got
 have it:∀(a:PV) l,ZO (.own (a::l)) (.int 0)=some a:=λ_ _=>rfl
 refine Gives.next (σ':=σ.set "w" (.val (.str ""))) oW ?_
 refine Gives.next (σ':=σ.set "w" (.val (.str ""))) oW (h _ ⟨?_,?_,?_,?_⟩)<;>walk_at "ex"
theorem Np(H:Tab1 S)(E:Ki σ got l a got.length)(hi:ZO (.own l) (.int (-1))=some (.str s))  (hd:seqIndex? (-1) l.length=some m)(hd2:m<l.length/\Zxf (-1)=true/\l.length<=Zzx)(eL:l.eraseIdx m=r)
 (UW:0<s.length) (J6:s.length<=Zzx) (Xk:Zy0 got s=true) (h:∀σ,Ki σ got r a ((got.length-s.length:Nat):Int)->Gives (Tn S ["ws"]) 52 (Yq 4) σ (WY 8) d):Gives (Tn S ["ws"]) 54 (Yq 4) σ (WY 6) d:=by
 generalize hb:WY 6=bo
 have h6:WY 8=bo.drop 2:=by rw[<-hb];rfl
 rw[h6] at h
 clear h6
 conv at hb=>lhs;whnf
 subst hb
 have m1:=H.mt;have m2:=H.len
 have s1:=E.ws;have s2:=E.st;have s3:=E.en;have s4:=E.got
 have nz:(s.length != 0)=true:=bne_iff_ne.mpr (ZzE UW)
 have ms:=@ag
 have hle:s.length<=got.length:=by
  have:=(Js.mp Xk).length_le
  rwa [ZJ,ZJ] at this
 have e1:(got.length:Int)-(s.length:Int)=((got.length-s.length:Nat):Int):=(Zwo hle).symm
 refine Gives.next (σ':=σ.set "w" (.val (.str s))) oW ?_
 refine Gives.next (σ':=((σ.set "w" (.val (.str s))).set "endpos" (.val (.int ((got.length-s.length:Nat):Int)))).set "ws" (.own r)) (Um oW (J0 (Um oW (J0 oW (J0 (y8 tT (j:=-1) (m:=m) oW oW hd hd2 eL) WV))) WV)) (h _ ⟨?_,?_,?_,?_⟩)<;>walk_at "ex"
theorem x6(H:Tab1 S)(E:Ki σ got l a b)(hi:ZO (.own l) (.int (-1))=some (.str s))(UW:0<s.length)(J6:s.length<=Zzx)(Xk:Zy0 got s=false):Gives (Tn S ["ws"]) 54 (Yq 4) σ (WY 6) (.bool false):=by
 generalize hb:WY 6=bo
 conv at hb=>lhs;whnf
 subst hb
 have m1:=H.mt
 have s1:=E.ws;have s4:=E.got
 have nz:(s.length != 0)=true:=bne_iff_ne.mpr (ZzE UW)
 have ms:=@ag
 refine Gives.next (σ':=σ.set "w" (.val (.str s))) oW ?_
 exact Gives.ret oW
theorem x7(E:Ki σ got l a b)(hi:ZO (.own l) (.int (-1))=some (.str ""))(h:∀σ,Ki σ got l a b->Gives (Tn S ["ws"]) 52 (Yq 4) σ (WY 8) d):Gives (Tn S ["ws"]) 54 (Yq 4) σ (WY 6) d:=by
 generalize hb:WY 6=bo
 have h6:WY 8=bo.drop 2:=by rw[<-hb];rfl
 rw[h6] at h
 clear h6
 conv at hb=>lhs;whnf
 subst hb
 have s1:=E.ws;have s2:=E.st;have s3:=E.en;have s4:=E.got
 refine Gives.next (σ':=σ.set "w" (.val (.str ""))) oW ?_
 refine Gives.next (σ':=σ.set "w" (.val (.str ""))) oW (h _ ⟨?_,?_,?_,?_⟩)<;>walk_at "ex"
theorem uu(E:Ki σ got l a b)(WS:b<a):Gives (Tn S ["ws"]) 52 (Yq 4) σ (WY 8) (.bool false):=by
 generalize hb:WY 8=bo
 conv at hb=>lhs;whnf
 subst hb
 have s2:=E.st;have s3:=E.en
 have h1:decide (b<a)=true:=decide_eq_true WS
 exact Gives.ret oW
noncomputable def Wt(got:oO)(b:Int):List oO->Int->Bool
 |[],_=>true
 |y::r,a=>if Xu got y a b<0 then false else Wt got b r (Xu got y a b+y.length)
def qC:List ZzZ:=@Zvi ZzZ (λ_=>List ZzZ) (WY 9) [] λs _=>@ZxE (λ_=>List ZzZ) s (λ_ _ _ _ _ _ _ _ _ _=>[]) (λ_ _ _ _ _ _ _ _ _ _=>[]) (λ_ _ _ _ _ _ _ _ _ _ _=>[]) (λ_ _=>[]) (λ_ _=>[]) (λ_ _ _=>[]) (λ_ _ _ _ _ _ _=>[]) (λ_ _ _ _=>[]) (λ_ _ _ _ _=>[]) (λ_ _ bd _ _=>bd) (λ_ _ _ _ _=>[]) (λ_ _ _ _=>[]) (λ_ _ _ _=>[]) (λ_ _ _=>[]) (λ_ _ _=>[]) (λ_ _ _=>[]) (λ_ _ _=>[]) (λ_ _ _ _ _=>[]) (λ_ _ _ _ _=>[]) (λ_ _ _=>[]) (λ_ _=>[]) (λ_ _ _ _=>[]) (λ_ _=>[]) (λ_ _=>[]) (λ_ _=>[]) (λ_=>[]) (λ_=>[]) (λ_=>[])
theorem V4   {r:List oO}:Wt got b (y::r) a=if Xu got y a b<0 then false else Wt got b r (Xu got y a b+y.length):=rfl
theorem uq(H:Tab1 S)(L:List oO):∀{a:Int} {σ:Zx},(∀y∈L,y.length<=Zzx)->σ "startpos"=some (.val (.int a))->σ "endpos"=some (.val (.int b))->σ "got"=some (.val (.str got))->
 ∃σ',Ht (Tn S ["ws"]) 49 (Yq 4) "w" qC (L.map .str) σ (if Wt got b L a then (.Z2,σ') else (.ret (.bool false),σ')):=by
 induction L with
 |nil=>exact λ_ _ _ _=>⟨_,mA⟩
 | cons y L ih=>
   intro a σ hz s2 s3 s4
   have m1:=H.mt;have m2:=H.len
   have mf:=@rZ
   have zy:=hz y (ZwJ ..)
   have e:XU (Tn S ["ws"]) 49 (Yq 4) (σ.set "w" (.val (.str y))) qC=some (if Xu got y a b<0 then (.ret (.bool false),(σ.set "w" (.val (.str y))).set "startpos" (.val (.int (Xu got y a b)))) else (.Z2,((σ.set "w" (.val (.str y))).set "startpos" (.val (.int (Xu got y a b)))).set "startpos" (.val (.int (Xu got y a b+y.length))))):=by
    generalize hb:qC=bo
    conv at hb=>lhs;whnf
    subst hb
    generalize hv:Xu got y a b=v at *
    by_cases h:v<0
    ·have d1:decide (v<0)=true:=decide_eq_true h
     rw[if_pos h];clear ih;walk_at "ex"
    ·have d1:decide (v<0)=false:=decide_eq_false h
     rw[if_neg h];clear ih;walk_at "ex"
   rw[V4]
   by_cases h:Xu got y a b<0
   ·rw[if_pos h] at e ⊢
    exact⟨_,mC e⟩
   ·rw[if_neg h] at e ⊢
    obtain⟨σ',hs⟩:=ih (a:=Xu got y a b+y.length) (σ:=((σ.set "w" (.val (.str y))).set "startpos" (.val (.int (Xu got y a b)))).set "startpos" (.val (.int (Xu got y a b+y.length)))) (λz qk=>hz z (ZxA _ qk)) YG (by clear ih;walk_at "ex") (by clear ih;walk_at "ex")
    exact⟨σ',mB e hs⟩
theorem QS(H:Tab1 S)  (hL:∀y∈L,y.length<=Zzx)(E:Ki σ got (L.map .str) a b)(WS:¬b<a):Gives (Tn S ["ws"]) 52 (Yq 4) σ (WY 8) (.bool (Wt got b L a)):=by
 generalize hb:WY 8=bo
 conv at hb=>lhs;whnf
 subst hb
 have s2:=E.st;have s3:=E.en
 have h1:decide (b<a)=false:=decide_eq_false WS
 refine Gives.next (σ':=σ) (WX oW WV) ?_
 obtain⟨σ',hf⟩:=uq H L (σ:=σ.set "ws" (.val (.lst (L.map .str)))) (a:=a) (b:=b) (got:=got) hL oW oW (by have s4:=E.got;walk_at "ex")
 cases hl:Wt got b L a with
 | false=>
   rw[hl] at hf
   exact Gives.ret (jG (n:=46) tT E.ws hf)
 | true=>
   rw[hl] at hf
   refine Gives.next (jG (n:=46) tT E.ws hf) ?_
   exact Gives.ret oW
end
theorem dT  [Decidable p] (h:decide p=true):p:=of_decide_eq_true h
section
variable {S:Sg}{want got s r z:oO}
theorem zi(H:Tab1 S)(hw:ZyY want "..."=true)(hs:ZyI want "..."=[s,""])(UW:0<s.length)(hz:want.length<=Zzx)(I6:got.length<=Zzx)(J6:s.length<=Zzx)
 (hp:(Zz7 want (Zze want "..." 0 want.length (want.length+1)) (ZxC "...")).length<=Zzx):
 Gives (Tn S ["ws"]) 60 (Yq 4) (Zd (λ_=>none) ["want","got"] [.str want,.str got]) (X6 4) (.bool (Zy9 got s)):=by
 refine QR H hw (congrArg _ hs) (dT tT) (dT tT) hz I6 hp λσ E=>?_
 cases Xk:Zy9 got s with
 |false=>exact x9 H E UW J6 Xk
 | true=>
   have hle:s.length<=got.length:=by
    have:=(KY.mp Xk).length_le
    rwa [ZJ,ZJ] at this
   have h2:Xu got "" (s.length:Int) (got.length:Int)=s.length:=JQ hle (Zz1 _)
   refine x8 H E (dT tT) UW J6 Xk λσ E=>x7 E rfl λσ E=>?_
   have:=QS H (L:=[""]) (λy hy=>by rw[Zz5.mp hy,ZzS];decide) E (Fx hle)
   rwa [show Wt got got.length [""] s.length=true from by rw[Wt,h2,if_neg (Ur _),Wt]] at this
theorem gJ(H:Tab1 S)(hw:ZyY want "..."=true)(hs:ZyI want "..."=[("":oO),s])(UW:0<s.length)(hz:want.length<=Zzx)(I6:got.length<=Zzx)(J6:s.length<=Zzx)
 (hp:(Zz7 want (Zze want "..." 0 want.length (want.length+1)) (ZxC "...")).length<=Zzx):
 Gives (Tn S ["ws"]) 60 (Yq 4) (Zd (λ_=>none) ["want","got"] [.str want,.str got]) (X6 4) (.bool (Zy0 got s)):=by
 refine QR H hw (congrArg _ hs) (dT tT) (dT tT) hz I6 hp λσ E=>N0 E λσ E=>?_
 cases Xk:Zy0 got s with
 |false=>exact x6 H E rfl UW J6 Xk
 | true=>
   have h2:Xu got "" 0 ((got.length-s.length:Nat):Int)=0:=JQ (i:=0) (Zz3 _) (Zyo _ _)
   refine Np H E rfl (m:=1) rfl ⟨dT tT,by decide,dT tT⟩ rfl UW J6 Xk λσ E=>?_
   have:=QS H (L:=[""]) (λy hy=>by rw[Zz5.mp hy,ZzS];decide) E (Ur _)
   rwa [show Wt got ((got.length-s.length:Nat):Int) [""] 0=true from by rw[Wt,h2,if_neg oD,Wt]] at this
theorem gV(H:Tab1 S)(hw:ZyY want "..."=true)(hs:ZyI want "..."=[s,r])(UW:0<s.length)(NU:0<r.length)(NW:r.length<=Zzx)(hz:want.length<=Zzx)(I6:got.length<=Zzx)(J6:s.length<=Zzx)
 (hp:(Zz7 want (Zze want "..." 0 want.length (want.length+1)) (ZxC "...")).length<=Zzx):
 Gives (Tn S ["ws"]) 60 (Yq 4) (Zd (λ_=>none) ["want","got"] [.str want,.str got]) (X6 4) (.bool (Zy9 got s&&(Zy0 got r&&decide (s.length+r.length<=got.length)))):=by
 refine QR H hw (congrArg _ hs) (dT tT) (dT tT) hz I6 hp λσ E=>?_
 cases Xk:Zy9 got s with
 |false=>exact x9 H E UW J6 Xk
 | true=>
   refine x8 H E (dT tT) UW J6 Xk λσ E=>?_
   cases Q7:Zy0 got r with
   |false=>exact x6 H E rfl NU NW Q7
   | true=>
     have hle:r.length<=got.length:=by
      have:=(Js.mp Q7).length_le
      rwa [ZJ,ZJ] at this
     refine Np H E rfl (m:=0) rfl ⟨dT tT,by decide,dT tT⟩ rfl NU NW Q7 λσ E=>?_
     by_cases hc:s.length+r.length<=got.length
     ·rw[decide_eq_true hc]
      exact QS H (L:=[]) (λy hy=>by cases hy) E (Fx (ZuH hc))
     ·rw[decide_eq_false hc]
      exact uu E (ZyC.mpr (Nat.sub_lt_right_of_lt_add hle (Zwe hc)))
end
theorem TM:Zk "..."=[46,46,46]:=rfl
theorem A7      (hy:Zk y=c::d)(hx:Zk x=YC (c::d) ((p::q::ps).map Zk))(hc:∀z∈p::q::ps,c∉Zk z)(hl:ps.length<1000):(Zz7 x (Zze x y 0 x.length (x.length+1)) y.length).length<=Zzx:=by
 rw[CP,GK hy p (q::ps) hx hc _ (ZxD (Lu hx)),ZzG,zr,Zzm]
 exact ZT (Zm (Zzg hl 1))
theorem Pf(s:oO)(l:List oO):∀(a:Array Nat),((l.foldl (λacc p=>acc++s.cps++p.cps) a).toList)=l.foldl (λacc p=>acc++Zk s++Zk p) a.toList:=by
 induction l with
 |nil=>exact λ_=>rfl
 |cons p l ih=>exact λa=>(ih _).trans (by rw[Zv1,Zv1];rfl)
theorem SE(s:List Nat)(l:List (List Nat)):∀(a:List Nat),l.foldl (λacc p=>acc++s++p) a=YC s (a::l):=by
 induction l with
 |nil=>exact λ_=>rfl
 | cons p l ih=>
   intro a
   rw[Zxh,ih]
   cases l with
   |nil=>rfl
   | cons q l=>
     show a++s++p++s++YC s (q::l)=a++s++(p++s++YC s (q::l))
     rw[Zzo (a++s),Zzo (a++s)]
theorem VE(s p:oO)(l:List oO):Zk (Zy4 s (p::l))=YC (Zk s) (Zk p::l.map Zk):=by
 show (((l.foldl (λacc p=>acc++s.cps++p.cps) p.cps)).toList)=_
 rw[Pf,<-SE,List.foldl_map]
structure fj(want:oO)(ps:List oO):Prop where
 cont:ZyY want "..."=true
 split:ZyI want "..."=ps
 parts:(Zz7 want (Zze want "..." 0 want.length (want.length+1)) (ZxC "...")).length<=Zzx
theorem Kg  (p q:oO)(ps:List oO)(hx:Zk want=YC [46,46,46] ((p::q::ps).map Zk))(hc:∀z∈p::q::ps,46∉Zk z)(hl:ps.length<1000):fj want (p::q::ps) where
 cont:=by
  unfold ZyY
  by_cases h:ps.length+1<=1
  ·rw[GK TM p (q::ps) hx hc 1 (by simpa using h)];rfl
  ·have NV:(ZzB "...").length=3:=rfl
   rw[occ_eq _ _ _ _ _ oD,TM]
   have hf:=Dg (c:=46) (d:=[46,46]) (p:=Zk p) (r:=YC [46,46,46] ((q::ps).map Zk)) (pre:=[]) (hc p (by simp))
   have e:Zk want=[]++(Zk p++[46,46,46]++YC [46,46,46] ((q::ps).map Zk)):=by rw[hx];rfl
   rw[<-e] at hf
   rw[<-ZJ,show occs (Zk want) [46,46,46] (Zk want).length 1 0=_ from Jn hf];rfl
 split:=CL TM (Iv oD) p q ps hx hc
 parts:=A7 TM hx hc hl
theorem X7      (hl:as.length=xs.length)(h:Gives (Tn S ow) 60 (Yq i) (Zd (λ_=>none) xs (as.map AV.pv)) (X6 i) d):run S i ow xs as=some d:=by
 obtain⟨σ',e⟩:=h
 exact (if_pos hl).trans (congrArg (λo:Option (Z7 × Zx)=>o.bind λp=>Nd p.1) e)
theorem len_app(x y:oO):(x++y).length=x.length+y.length:=by rw[<-ZJ,YK,Zzd,ZJ,ZJ]
theorem Mu:(ZzB "...").length=3:=rfl
theorem Fw:46∉Zk "":=by decide
structure Ok(n:Nat)(x:oO):Prop where
 no:46∉Zk x
 len:x.length<=n
theorem Ok.fits   (h:Ok n x)(hn:n<=1000):x.length<=Zzx:=ZT (oP h.len (Zm hn))
theorem Ok.le   (h:Ok n x)(hn:n<=300):(Zk x).length<=300:=by rw[ZJ];exact oP h.len hn
theorem GC(got:oO)(n:Nat)(h:n<=got.length):Xu got "" 0 (n:Int)=0:=JQ (i:=0) (Zz3 _) h
section
variable {S:Sg}{want got s r z:oO}
theorem gQ(H:Tab1 S)(hw:ZyY want "..."=true)(hs:ZyI want "..."=[("":oO),s,""])(UW:0<s.length)(hz:want.length<=Zzx)(I6:got.length<=Zzx)(J6:s.length<=Zzx)
 (hp:(Zz7 want (Zze want "..." 0 want.length (want.length+1)) (ZxC "...")).length<=Zzx):
 Gives (Tn S ["ws"]) 60 (Yq 4) (Zd (λ_=>none) ["want","got"] [.str want,.str got]) (X6 4) (.bool (Z0 (Zk got) (Zk s) 0 got.length).isSome):=by
 refine QR H hw (congrArg _ hs) (dT tT) (dT tT) hz I6 hp λσ E=>N0 E λσ E=>x7 E rfl λσ E=>?_
 have h0:=QS H (L:=["",s,""]) (Zi oD (Zi J6 (Zi oD YT))) E (Ur _)
 have e:Wt got got.length ["",s,""] 0=(Z0 (Zk got) (Zk s) 0 got.length).isSome:=by
  rw[V4,GC got _ (Zz1 _),if_neg oD,V4]
  have f1:=Ik (x:=got) (y:=s) (i:=0) (j:=got.length) (Zz3 _) (Zz1 _) UW
  rw[show (0:Int)+((ZzB "").length:Int)=((0:Nat):Int) from rfl,f1]
  cases hf:Z0 (Zk got) (Zk s) 0 got.length with
  |none=>rfl
  | some p=>
    obtain⟨a1,a2,_⟩:=YD hf
    rw[ZJ] at a2
    show (if (p:Int)<0 then false else Wt got _ [""] ((p:Int)+s.length))=true
    rw[if_neg (Ur _),V4,show (p:Int)+(s.length:Int)=((p+s.length:Nat):Int) from rfl,JQ a2 (Zz1 _),if_neg (Ur _)]
    rfl
 rw[e] at h0
 exact h0
theorem gU(H:Tab1 S)(hw:ZyY want "..."=true)(hs:ZyI want "..."=[("":oO),r,z])(NU:0<r.length)(qu:0<z.length)(hz:want.length<=Zzx)(I6:got.length<=Zzx)(NW:r.length<=Zzx)(qj:z.length<=Zzx)
 (hp:(Zz7 want (Zze want "..." 0 want.length (want.length+1)) (ZxC "...")).length<=Zzx) (Q7:Zy0 got z=true):
 Gives (Tn S ["ws"]) 60 (Yq 4) (Zd (λ_=>none) ["want","got"] [.str want,.str got]) (X6 4) (.bool (Z0 (Zk got) (Zk r) 0 (got.length-z.length)).isSome):=by
 refine QR H hw (congrArg _ hs) (dT tT) (dT tT) hz I6 hp λσ E=>N0 E λσ E=>?_
 refine Np H E rfl (m:=2) rfl ⟨dT tT,by decide,dT tT⟩ rfl qu qj Q7 λσ E=>?_
 have h0:=QS H (L:=["",r]) (Zi oD (Zi NW YT)) E (Ur _)
 have e:Wt got ((got.length-z.length:Nat):Int) ["",r] 0=(Z0 (Zk got) (Zk r) 0 (got.length-z.length)).isSome:=by
  rw[V4,GC got _ (Zyo _ _),if_neg oD,V4]
  have f1:=Ik (x:=got) (y:=r) (i:=0) (j:=got.length-z.length) (Zz3 _) (Zyo _ _) NU
  rw[show (0:Int)+((ZzB "").length:Int)=((0:Nat):Int) from rfl,f1]
  cases hf:Z0 (Zk got) (Zk r) 0 (got.length-z.length) with
  |none=>rfl
  | some p=>
    show (if (p:Int)<0 then false else true)=true
    rw[if_neg (Ur _)]
 rw[e] at h0
 exact h0
theorem zk(H:Tab1 S)(hw:ZyY want "..."=true)(hs:ZyI want "..."=[("":oO),r,r,z])(NU:0<r.length)(qu:0<z.length)(hz:want.length<=Zzx)(I6:got.length<=Zzx)(NW:r.length<=Zzx)(qj:z.length<=Zzx)
 (hp:(Zz7 want (Zze want "..." 0 want.length (want.length+1)) (ZxC "...")).length<=Zzx) (Q7:Zy0 got z=true):
 Gives (Tn S ["ws"]) 60 (Yq 4) (Zd (λ_=>none) ["want","got"] [.str want,.str got]) (X6 4) (.bool (G8 got r 0 (got.length-z.length))):=by
 refine QR H hw (congrArg _ hs) (dT tT) (dT tT) hz I6 hp λσ E=>N0 E λσ E=>?_
 refine Np H E rfl (m:=3) rfl ⟨dT tT,by decide,dT tT⟩ rfl qu qj Q7 λσ E=>?_
 have h0:=QS H (L:=["",r,r]) (Zi oD (Zi NW (Zi NW YT))) E (Ur _)
 have e:Wt got ((got.length-z.length:Nat):Int) ["",r,r] 0=G8 got r 0 (got.length-z.length):=by
  rw[V4,GC got _ (Zyo _ _),if_neg oD,V4]
  have f1:=Ik (x:=got) (y:=r) (i:=0) (j:=got.length-z.length) (Zz3 _) (Zyo _ _) NU
  unfold G8
  rw[show (0:Int)+((ZzB "").length:Int)=((0:Nat):Int) from rfl,f1]
  cases hf:Z0 (Zk got) (Zk r) 0 (got.length-z.length) with
  |none=>rfl
  | some p=>
    obtain⟨a1,a2,_⟩:=YD hf
    rw[ZJ] at a2
    have f3:=Ik (x:=got) (y:=r) (i:=p+r.length) (j:=got.length-z.length) a2 (Zyo _ _) NU
    show (if (p:Int)<0 then false else Wt got _ [r] ((p:Int)+r.length))=(Z0 (Zk got) (Zk r) (p+r.length) (got.length-z.length)).isSome
    rw[if_neg (Ur _),V4,show (p:Int)+(r.length:Int)=((p+r.length:Nat):Int) from rfl,f3]
    cases hg:Z0 (Zk got) (Zk r) (p+r.length) (got.length-z.length) with
    |none=>rfl
    | some u=>
      show (if (u:Int)<0 then false else true)=true
      rw[if_neg (Ur _)]
 rw[e] at h0
 exact h0
theorem zg(H:Tab1 S)(hw:ZyY want "..."=false):Gives (Tn S ["ws"]) 60 (Yq 4) (Zd (λ_=>none) ["want","got"] [.str want,.str got]) (X6 4) (.bool (decide (want=got))):=by
 generalize hb:X6 4=b
 conv at hb=>lhs;whnf
 subst hb
 have m4:=H.gv
 have cn:∀x y:oO,ZE .NotIn (.val (.str x)) (.val (.str y))=some (!Txt.contains y x):=λ_ _=>rfl
 exact Gives.ret (Um (Y1 tF (Rc tT m4) oW (b:=.val (.str want)) ((cn _ _).trans (by rw[hw];rfl))) (Io (VM (II oW rfl))))
end
section
variable {S:Sg}(H:Tab1 S){s r z got:oO}{n:Nat}(hn:n<=300)(hs:Ok n s)(hr:Ok n r)(hz:Ok n z)(hg:Ok n got)
include H hg hn
theorem pI(hw:ZyY s "..."=false):run S 4 ["ws"] ["want","got"] [.val (.str s),.val (.str got)]=some (.bool (decide (s=got))):=X7 rfl (zg H hw)
include hs
theorem pK(hl:0<s.length):run S 4 ["ws"] ["want","got"] [.val (.str (s++"...")),.val (.str got)]=some (.bool (Zy9 got s)):=by
 have W:=Kg (want:=s++"...") s "" [] (by rw[YK];exact (ZyZ _).symm) (Zi hs.no (Zi Fw YT)) oD
 exact X7 rfl (zi H W.cont W.split hl (by rw[len_app,Mu];exact ZT (Zm (Zzg (oP hs.len hn) 3))) (hg.fits (Zm hn)) (hs.fits (Zm hn)) W.parts)
theorem pC(hl:0<s.length):run S 4 ["ws"] ["want","got"] [.val (.str ("..."++s)),.val (.str got)]=some (.bool (Zy0 got s)):=by
 have W:=Kg (want:="..."++s) "" s [] (by rw[YK];rfl) (Zi Fw (Zi hs.no YT)) oD
 exact X7 rfl (gJ H W.cont W.split hl (by rw[len_app,Mu];exact ZT (Zm (Zzr (oP hs.len hn) 3))) (hg.fits (Zm hn)) (hs.fits (Zm hn)) W.parts)
theorem pF(hl:0<s.length):run S 4 ["ws"] ["want","got"] [.val (.str ("..."++s++"...")),.val (.str got)]=some (.bool (Z0 (Zk got) (Zk s) 0 got.length).isSome):=by
 have W:=Kg (want:="..."++s++"...") "" s [""] (by rw[YK,YK];exact (Zzo [46,46,46] (Zk s) [46,46,46]).trans (congrArg ([46,46,46]++·) (ZyZ (Zk s++[46,46,46])).symm)) (Zi Fw (Zi hs.no (Zi Fw YT))) oD
 exact X7 rfl (gQ H W.cont W.split hl (by rw[len_app,len_app,Mu];exact ZT (Zm (Zzg (Zzr (oP hs.len hn) 3) 3))) (hg.fits (Zm hn)) (hs.fits (Zm hn)) W.parts)
include hr
theorem pJ(hl:0<s.length)(J8:0<r.length):run S 4 ["ws"] ["want","got"] [.val (.str (Zy4 "..." [s,r])),.val (.str got)]=some (.bool (Zy9 got s&&(Zy0 got r&&decide (s.length+r.length<=got.length)))):=by
 have e:=VE "..." s [r]
 have W:=Kg (want:=Zy4 "..." [s,r]) s r [] e (Zi hs.no (Zi hr.no YT)) oD
 have hle:(Zy4 "..." [s,r]).length<=Zzx:=by
  rw[<-ZJ,e]
  exact ZT (Zm (Xc (Xc (hs.le hn) (Zz1 3)) (hr.le hn)))
 exact X7 rfl (gV H W.cont W.split hl J8 (hr.fits (Zm hn)) hle (hg.fits (Zm hn)) (hs.fits (Zm hn)) W.parts)
omit hs
include hz
theorem pG(J8:0<r.length)(qp:0<z.length)(Q7:Zy0 got z=true):run S 4 ["ws"] ["want","got"] [.val (.str (Zy4 "..." ["",r,z])),.val (.str got)]=some (.bool (Z0 (Zk got) (Zk r) 0 (got.length-z.length)).isSome):=by
 have e:=VE "..." "" [r,z]
 have W:=Kg (want:=Zy4 "..." ["",r,z]) "" r [z] e (Zi Fw (Zi hr.no (Zi hz.no YT))) (oD:1<1000)
 have hle:(Zy4 "..." ["",r,z]).length<=Zzx:=by
  rw[<-ZJ,e]
  exact ZT (Zm (Xc (Xc (Zz3 0) (Zz1 3)) (Xc (Xc (hr.le hn) (Zz1 3)) (hz.le hn))))
 exact X7 rfl (gU H W.cont W.split J8 qp hle (hg.fits (Zm hn)) (hr.fits (Zm hn)) (hz.fits (Zm hn)) W.parts Q7)
theorem pB(J8:0<r.length)(qp:0<z.length)(Q7:Zy0 got z=true):run S 4 ["ws"] ["want","got"] [.val (.str (Zy4 "..." ["",r,r,z])),.val (.str got)]=some (.bool (G8 got r 0 (got.length-z.length))):=by
 have e:=VE "..." "" [r,r,z]
 have W:=Kg (want:=Zy4 "..." ["",r,r,z]) "" r [r,z] e (Zi Fw (Zi hr.no (Zi hr.no (Zi hz.no YT)))) (oD:2<1000)
 have hle:(Zy4 "..." ["",r,r,z]).length<=Zzx:=by
  rw[<-ZJ,e]
  exact ZT (Zm (Xc (Xc (Zz3 0) (Zz1 3)) (Xc (Xc (hr.le hn) (Zz1 3)) (Xc (Xc (hr.le hn) (Zz1 3)) (hz.le hn)))))
 exact X7 rfl (zk H W.cont W.split J8 qp hle (hg.fits (Zm hn)) (hr.fits (Zm hn)) (hz.fits (Zm hn)) W.parts Q7)
end
end Mine.Internal.L2
end
section
namespace Mine.Internal.L2
def Q2(t:List Nat)(p b n:Nat):Prop:=(t.drop p).take n=(t.drop b).take n
theorem HG   (h:Q2 t p b n)(hm:m<=n):Q2 t p b m:=by
 have:=congrArg (Zut m) h
 rwa [ZvZ,ZvZ,Zy1 hm] at this
theorem wG   (h:Q2 t p b n):Q2 t (p+j) (b+j) (n-j):=by
 have:=congrArg (Zuh j) h
 rwa [ZwH,ZwH,ZwM,ZwM] at this
theorem Eg   (h:Q2 t p b n)(hi:i<n):t[p+i]?=t[b+i]?:=by
 have:=congrArg (λl=>l[i]?) h
 simp only[Zwx hi,ZwA] at this
 exact this
def V(t:List Nat)(b e:Nat):Prop:=b<e/\e<=t.length/\(e=b+1∨∃p,p<b/\Q2 t p b (e-1-b))
theorem xM   (h:b<t.length):V t b (b+1):=⟨ZxO _,h,.inl rfl⟩
theorem SX   (h:V t b e)(h1:b<e')(h2:e'<=e):V t b e':=by
 exact⟨h1,oP h2 h.2.1,h.2.2.elim (λq=>.inl (ZyM (oP h2 (Zya q)) h1)) λ⟨p,hp,ho⟩=>.inr ⟨p,hp,HG ho (ZxB (ZxB h2 1) b)⟩⟩
theorem bu   (h:V t b e)(h1:b<=b')(h2:b'<e):V t b' e:=by
 obtain⟨j,rfl⟩:=ZvY h1
 exact⟨h2,h.2.1,h.2.2.elim (λq=>.inl (ZyM (oP (Zya q) (ZzX (Zzt b j))) h2)) λ⟨p,hp,ho⟩=>.inr ⟨p+j,ZxM hp j,Nat.sub_sub (e-1) b j ▸ wG ho⟩⟩
def B9(t:List Nat)(b e:Nat):Prop:=V t b e/\∀e',V t b e'->e'<=e
inductive Chain (t:List Nat):Nat->List Nat->Prop
 |done {b:Nat}:t.length<=b->Chain t b []
 |step {b e:Nat} {l:List Nat}:B9 t b e->Chain t e l->Chain t b (e::l)
theorem Chain.gt    (h:Chain t b l):∀x∈l,b<x:=by
 induction h with
 |done _=>exact λx m=>by cases m
 |step h1 h2 ih=>exact λx m=>(ZzN.mp m).elim (λq=>q ▸ h1.1.1) λm=>ZxY h1.1.1 (ih x m)
noncomputable def cnt(k:Nat)(l:List Nat):Nat:=(l.filter λg=>decide (g<k)).length
theorem cnt_cons(k b:Nat)(l:List Nat):cnt k (b::l)=(if b<k then 1 else 0)+cnt k l:=by
 unfold cnt
 by_cases h:b<k
 ·simp [ZqD,h,ZzT]
 ·simp [ZqD,h]
theorem Jl   (h:∀x∈l,k<=x):cnt k l=0:=by
 unfold cnt
 rw[List.length_eq_zero_iff,Zu4]
 intro x m
 exact λh'=>Zwr.mpr (h x m) (of_decide_eq_true h')
theorem zo    (h:Chain t b l):∀k,b<k->k<=t.length->∃g,b<=g/\V t g k/\cnt g (b::l)+1=cnt k (b::l):=by
 induction h with
 |done hb=>exact λk h1 h2=>absurd (ZzI h1 (oP h2 hb)) (Zxe _)
 | @step b e l h1 h2 ih=>
   intro k hk hl
   by_cases hc:k<=e
   ·refine⟨b,Zz1 _,SX h1.1 hk hc,?_⟩
    have g1:cnt b (e::l)=0:=Jl λx m=>Zzs ((Chain.step h1 h2).gt x m)
    have g2:cnt k (e::l)=0:=Jl λx m=>(ZzN.mp m).elim (λq=>q ▸ hc) λm=>oP hc (Zzs (h2.gt x m))
    rw[cnt_cons b b,cnt_cons k b,g1,g2,if_neg (Zxe _),if_pos hk]
   ·obtain⟨g,a1,a2,a3⟩:=ih k (Zwe hc) hl
    have VU:=h1.1.1
    refine⟨g,oP (Zzs VU) a1,a2,?_⟩
    rw[cnt_cons g b,cnt_cons k b,if_pos (ZzI VU a1),if_pos hk,<-a3,ZzA]
theorem z6    (h:Chain t c l):∀b k,V t b k->cnt k (c::l)<=cnt b (c::l)+1:=by
 induction h with
 | @done c hc=>
   intro b k hv
   rw[cnt_cons]
   have:cnt k []=0:=rfl
   rw[this]
   split
   ·exact ZzV 1 _
   ·exact Zz3 _
 | @step c e l h1 h2 ih=>
   intro b k hv
   by_cases h3:c<b
   ·have:=ih b k hv
    rw[cnt_cons,cnt_cons b c,if_pos h3,if_pos (ZxY h3 hv.1)]
    exact Zzr this 1
   ·by_cases h4:c<k
    ·have hk:k<=e:=h1.2 k (bu hv (Zym h3) h4)
     have g2:cnt k (e::l)=0:=Jl λx m=>(ZzN.mp m).elim (λq=>q ▸ hk) λm=>oP hk (Zzs (h2.gt x m))
     rw[cnt_cons,g2,if_pos h4]
     exact ZzV 1 _
    ·have g2:cnt k (c::e::l)=0:=Jl λx m=>(ZzN.mp m).elim (λq=>q ▸ Zym h4) λm=>oP (Zym h4) (Zzs ((Chain.step h1 h2).gt x m))
     rw[g2]
     exact Zz3 _
structure N5(t:List Nat)(L:Nat->Nat):Prop where
 zero:L 0=0
 some:∀k,0<k->k<=t.length->∃b,V t b k/\L k=1+L b
 all:∀b k,V t b k->L k<=1+L b
theorem OB    (hL:N5 t L)(hc:Chain t 0 l):∀k,k<=t.length->L k=cnt k (0::l):=by
 intro k
 induction k using ZqO with
 | ind k ih=>
   intro hk
   by_cases h0:k=0
   ·subst h0
    rw[hL.zero,Jl λx _=>Zz3 _]
   ·obtain⟨b,hv,e⟩:=hL.some k (ZvJ h0) hk
    obtain⟨g,_,hg,eg⟩:=zo hc k (ZvJ h0) hk
    have i1:=ih b hv.1 (Zzs (ZzI hv.1 hk))
    have i2:=ih g hg.1 (Zzs (ZzI hg.1 hk))
    have i3:=hL.all g k hg
    rw[i2,ZzT,eg] at i3
    refine ZyM i3 ?_
    rw[e,i1,ZzT]
    exact z6 hc b k hv
section
variable {row:List Nat}{mean:Nat->List Nat}
noncomputable def txt(mean:Nat->List Nat)(row:List Nat):List Nat:=row.flatMap mean
def sz(mean:Nat->List Nat)(row:List Nat)(k:Nat):Nat:=(txt mean (row.take k)).length
theorem Ap(k:Nat):txt mean row=txt mean (row.take k)++txt mean (row.drop k):=by
 unfold txt
 rw[<-Zw8,Zxm]
theorem Ob(k:Nat):(txt mean row).drop (sz mean row k)=txt mean (row.drop k):=by
 rw[Ap k]
 exact Zwa
theorem yo(k:Nat):sz mean row k<=(txt mean row).length:=by
 rw[Ap k,Zzd]
 exact Zzt _ _
theorem EG(k n:Nat):row.take (k+n)=row.take k++(row.drop k).take n:=List.take_add
theorem G2(k n:Nat):sz mean row (k+n)=sz mean row k+(txt mean ((row.drop k).take n)).length:=by
 unfold sz txt
 rw[EG,Zw8,Zzd]
theorem Ux  (h:k<=m):sz mean row k<=sz mean row m:=by
 obtain⟨n,rfl⟩:=ZvY h
 rw[G2]
 exact Zzt _ _
theorem H0  (h:row[k]?=some a):sz mean row (k+1)=sz mean row k+(mean a).length:=by
 rw[G2]
 congr 2
 obtain⟨hk,e⟩:=Zyt.mp h
 rw[ZwZ hk,e,List.take_succ_cons,List.take_zero]
 simp [txt]
theorem MU(k n:Nat):((txt mean row).drop (sz mean row k)).take (sz mean row (k+n)-sz mean row k)=txt mean ((row.drop k).take n):=by
 rw[Ob,G2,Zz2]
 have e:txt mean (row.drop k)=txt mean ((row.drop k).take n)++txt mean ((row.drop k).drop n):=by
  unfold txt
  rw[<-Zw8,Zxm]
 rw[e]
 exact Zjw
theorem wI  (h:Q2 row p b n):Q2 (txt mean row) (sz mean row p) (sz mean row b) (sz mean row (b+n)-sz mean row b):=by
 have e1:=MU (row:=row) (mean:=mean) b n
 have e2:=MU (row:=row) (mean:=mean) p n
 have e3:sz mean row (p+n)-sz mean row p=sz mean row (b+n)-sz mean row b:=by
  rw[G2,G2,Zz2,Zz2,h]
 unfold Q2
 rw[e1,<-e3,e2,h]
variable {L:Nat->Nat}
theorem Qs(hL:N5 (txt mean row) L) :∀d,b+d<=(txt mean row).length->L (b+d)<=L b+d
 |0,_=>Zz1 _
 | d+1,h=>by
   have i1:=Qs hL (b:=b) d (Zyx h)
   have i2:=hL.all (b+d) (b+d+1) (xM h)
   rw[ZzT 1] at i2
   exact oP i2 (ZzX i1)
theorem fJ  (hp:p<b)(h:Q2 row p b n)(hb:b+n<=row.length)(hs:sz mean row p=sz mean row b):∀m,m<=n->sz mean row (b+m)=sz mean row b:=by
 have step:∀i,i<b+n->p<=i->sz mean row (i+1)=sz mean row i:=by
  intro i
  induction i using ZqO with
  | ind i ih=>
    intro hi rH
    by_cases hc:i<b
    ·exact ZyM (oP (Ux hc) (hs ▸ Ux rH)) (Ux (ZxT i))
    ·obtain⟨j,rfl⟩:=ZvY (Zym hc)
     have IT:=ih (p+j) (ZxM hp j) (ZxY (ZxM hp j) hi) (Zzt p j)
     have ha:=Eg h (Nat.lt_of_add_lt_add_left hi)
     have e2:row[b+j]?=some row[b+j]:=gE (ZzI hi hb)
     rw[H0 (ha.trans e2)] at IT
     rw[H0 e2,Nat.add_eq_left.mp IT,Zuk]
 intro m
 induction m with
 |zero=>exact λ_=>rfl
 | succ m ih=>
   intro hm
   exact (step (b+m) (Zqj hm b) (oP (Zzs hp) (Zzt b m))).trans (ih (Zyx hm))
theorem ua(hL:N5 (txt mean row) L)  (hv:V row b k)(hs:sz mean row b<sz mean row k):L (sz mean row k)<=L (sz mean row b)+max 1 (sz mean row k-sz mean row (k-1)):=by
 obtain⟨h1,h2,h3⟩:=hv
 obtain⟨n,rfl⟩:=ZyV h1
 show L (sz mean row (b+n+1))<=L (sz mean row b)+max 1 (sz mean row (b+n+1)-sz mean row (b+n))
 have hle:=yo (row:=row) (mean:=mean) (b+n+1)
 have m1:sz mean row b<=sz mean row (b+n):=Ux (Zzt b n)
 obtain⟨d,ed⟩:=ZvY (Ux (row:=row) (mean:=mean) (ZxT (b+n)))
 have ed:sz mean row (b+n+1)=sz mean row (b+n)+d:=ed.symm
 rw[ed] at hle hs ⊢
 rw[Zz2]
 have flat:sz mean row (b+n)=sz mean row b->L (sz mean row (b+n)+d)<=L (sz mean row b)+max 1 d:=λe=>by
  rw[e] at hle ⊢
  exact oP (Qs hL d hle) (Zzr (ZvP 1 d) _)
 rcases h3 with h3 |⟨p,hp,ho⟩
 ·exact flat (congrArg _ (Zxz h3))
 ·rw[show b+n+1-1-b=n from Zz2 b n] at ho
  by_cases hq:sz mean row p=sz mean row b
  ·exact flat (fJ hp ho (Zyx h2) hq n (Zz1 _))
  ·have aF:sz mean row p<sz mean row b:=ZvK (Ux (Zzs hp)) hq
   have ot:=wI (mean:=mean) ho
   clear flat hq ed
   generalize sz mean row (b+n)=M at *
   generalize sz mean row b=A at *
   cases d with
   | zero=>
     have:=hL.all _ _ ⟨hs,hle,.inr ⟨_,aF,HG ot (ZxB (Zyo M 1) A)⟩⟩
     rw[ZzT 1] at this
     exact oP this (Zzr (ZqN 1 0) _)
   | succ d=>
     have i1:=hL.all A (M+1) ⟨Zxr m1,oP (Zzr (ZzV 1 d) M) hle,.inr ⟨_,aF,ot⟩⟩
     have i2:=Qs hL (b:=M+1) d (by rw[Zxd];exact hle)
     rw[Zxd] at i2
     rw[ZzT 1] at i1
     refine oP i2 (oP (Zzg i1 d) ?_)
     rw[ZzA,ZzT 1]
     exact Zzr (ZvP 1 _) _
end
end Mine.Internal.L2
end
section
open PySem PySem.W PyProof.Rows
namespace Mine.Internal.L2
open Mine.Internal.L1
noncomputable def tx(l:List Nat):oO:=⟨l.toArray⟩
theorem Zp(l:List Nat):Zk (tx l)=l:=gS l
theorem kH(x:oO):tx (Zk x)=x:=Wn (Zp _)
theorem Zn(l:List Nat):(tx l).length=l.length:=by rw[<-ZJ,Zp]
theorem Kf(l m:List Nat):tx l++tx m=tx (l++m):=Wn (by rw[YK,Zp,Zp,Zp])
theorem Xp(lo hi:Option Int)(l:List Nat):U4 lo hi (tx l)=tx (Yk lo hi l):=rfl
theorem G1  (h:tx l=tx m):l=m:=by
 have:=congrArg Zk h
 rwa [Zp,Zp] at this
theorem Ao :Zy9 (tx l) (tx m)=decide (m<+:l):=by rw[ZwX,KY,Zp,Zp,decide_eq_true_iff]
theorem Fd :Zy0 (tx l) (tx m)=decide (m<:+l):=by rw[ZwX,Js,Zp,Zp,decide_eq_true_iff]
theorem V2   (h:l.length<=n)(hn:n<=1000):(tx l).length<=Zzx:=by rw[Zn];exact ZT (oP h (oP hn oD))
theorem W7   (h:46∉l)(hl:l.length<=n):Ok n (tx l):=⟨by rw[Zp];exact h,by rw[Zn];exact hl⟩
theorem Uw  {i:Nat} :Yk (some (i:Int)) none l=l.drop i:=by
 rw[Yk,Ic]
 show (l.drop (min i l.length)).take (l.length-min i l.length)=_
 rcases Zx7 i l.length with h |h
 ·rw[Zy1 h,Zxk (by simp)]
 ·rw[Zxy h,Zu5 h];simp
theorem Ka  {i:Nat} :Yk none (some (i:Int)) l=l.take i:=by
 rw[Yk,Ic]
 show (l.drop 0).take (min i l.length-0)=_
 rw[Zv5,Zui]
 rcases Zx7 i l.length with h |h
 ·rw[Zy1 h]
 ·rw[Zxy h,Zye,Zxk h]
theorem G3  {i j:Nat} :Yk (some (i:Int)) (some (j:Int)) l=(l.take j).drop i:=by
 rw[Yk,Ic,Ic,ZwH]
 rcases Zx7 i l.length with h |h
 ·rw[Zy1 h]
  rcases Zx7 j l.length with h2 |h2
  ·rw[Zy1 h2]
  ·rw[Zxy h2,Zxk (l:=l.drop i) (by rw[ZzM];exact Zz1 _),Zxk (l:=l.drop i) (by rw[ZzM];exact ZxB h2 i)]
 ·rw[Zxy h,Zu5 h];simp
theorem HZ  {m:Nat}  (hm:0<m):Yk none (some (-(m:Int))) l=l.take (l.length-m):=by
 unfold Yk
 have:Xh (some (-(m:Int))) l.length l.length=l.length-m:=by
  show (max 0 (min (if (-(m:Int))<0 then (-(m:Int))+l.length else (-(m:Int))) l.length)).toNat=_
  rw[if_pos (Int.neg_neg_of_pos (ZqE.mpr hm)),show -(m:Int)+l.length=(l.length:Int)-m from ZwN _ _,Zw9 (Int.sub_le_self _ (ZzJ m))]
  rcases Int.le_total 0 ((l.length:Int)-m) with h |h
  ·rw[Zx2 h];exact Int.toNat_sub _ _
  ·rw[Zus h,<-Int.toNat_sub,Zqy h];rfl
 rw[this]
 show (l.drop 0).take (l.length-m-0)=_
 rw[Zv5,Zui]
theorem find_eq  (hm:0<m.length):Zx1 (tx l) (tx m)=(Z0 l m 0 l.length).elim (-1) λp=>(p:Int):=by
 unfold Zx1
 rw[occ_eq _ _ _ _ _ (by rw[Zn];exact hm),Zp,Zp,Zn]
 cases h:Z0 l m 0 l.length with
 |none=>rw[Vs h];rfl
 |some p=>rw[Jn h];rfl
structure Xm(c:Zzq)(b1:Int->Bool)(b3:Int->Option oO)(B:YM)(S:Sg):Prop extends Tab1 S where
 Gb:∀l:List PV,l.length<=Zzx->S.cl "len" [.tab c l]=some (.int l.length)
 min:∀is:List Int,is≠[]->S.cl "min" [.val (.lst (is.map .int))]=some (.int (minOf is))
 max:∀i j:Int,S.cl "max" [.val (.int i),.val (.int j)]=some (.int (max i j))
 str:∀i:Int,S.cl "str" [.val (.int i)]=NR [.val (.int i)]
 Dm:∀q,Jb q->S.cl "str" [.tab c (pairs q)]=some (.str (X0 q))
 int:∀x:oO,S.cl "int" [.val (.str x)]=Mx [.val (.str x)]
 dict:∀d,S.cl "dict" [.val d]=G6 B [.val d]
 ord:∀as,S.cl "ord" as=Qa as
 chr:∀as,S.cl "chr" as=D6 as
 sum:∀as,S.cl "sum" as=B1 as
 xe:S.xe=Ak B (M2 c B) 30
 xi:S.xi=Rk B (M2 c B) 30
 hd:S.cl "Headers" []=none
 zip:∀as,S.cl "zip" as=none
 enum:∀as,S.cl "enumerate" as=none
 b1:∀as,S.cl "in_table_b1" as=nj b1 as
 b3:∀as,S.cl "map_table_b3" as=kg b3 as
section
variable {c:Zzq}{b1:Int->Bool}{b3:Int->Option oO}{B:YM}{S:Sg}
noncomputable def names2:List oO:=["len","min","max","str","int","dict","ord","chr","sum","Headers","zip","enumerate","in_table_b1","map_table_b3"]
theorem WO      (h:(x==y)=false):(S.add y g).cl x as=S.cl x as:=if_neg (ne_true_of_eq_false h)
theorem add_eq    :(S.add x g).cl x as=g as:=if_pos (beq_self_eq_true _)
theorem Xm.add(H:Xm c b1 b3 B S)   (h:(names2.all λx=>!(x==y))=true):Xm c b1 b3 B (S.add y g):=by
 have k:∀x∈names2,∀as,(S.add y g).cl x as=S.cl x as:=λx hx as=>WO (by have:=ZzD.mp h x hx;simpa using this)
 have m:∀x:oO,(names2.contains x)=true->∀as,(S.add y g).cl x as=S.cl x as:=λx hx=>k x (Zxa.mp hx)
 exact { mt:=H.mt,len:=λd=>(m _ rfl _).trans (H.len d),B6:=λd=>(m _ rfl _).trans (H.B6 d),gv:=H.gv
         Gb:=λl hl=>(m _ rfl _).trans (H.Gb l hl),min:=λl hl=>(m _ rfl _).trans (H.min l hl),max:=λi j=>(m _ rfl _).trans (H.max i j),str:=λi=>(m _ rfl _).trans (H.str i)
         Dm:=λl hl=>(m _ rfl _).trans (H.Dm l hl),int:=λi=>(m _ rfl _).trans (H.int i),dict:=λi=>(m _ rfl _).trans (H.dict i),ord:=λi=>(m _ rfl _).trans (H.ord i),chr:=λi=>(m _ rfl _).trans (H.chr i),sum:=λi=>(m _ rfl _).trans (H.sum i)
         xe:=H.xe,xi:=H.xi,hd:=(m _ rfl _).trans H.hd,zip:=λas=>(m _ rfl _).trans (H.zip as),enum:=λas=>(m _ rfl _).trans (H.enum as),b1:=λas=>(m _ rfl _).trans (H.b1 as),b3:=λas=>(m _ rfl _).trans (H.b3 as) }
theorem Gk:Xm c b1 b3 B (Sb c b1 b3 B) where
 mt:=λ_ _ _=>rfl
 len:=λd=>by
  show Ys (Ys (Ul [.val d]) none) none=_
  cases Ul [.val d]<;>rfl
 B6:=λd=>by
  show Ys (Ys (Ul [.own d]) none) none=_
  cases Ul [.own d]<;>rfl
 gv:=rfl
 Gb:=λl hl=>by
  show Ys (if c=c/\l.length<=Zzx then some (PV.int l.length) else none) none=_
  rw[if_pos ⟨rfl,hl⟩];rfl
 min:=λis h=>by
  show Ys (Ys none (Sq [.val (.lst (is.map .int))])) none=_
  have e2:(is.map PV.int).mapM KR=some is:=by
   clear h
   induction is with
   |nil=>rfl
   |cons i is ih=>rw[ZzG,Zx3,ih];rfl
  have e3:Sq [.val (.lst (is.map .int))]=some (.int (minOf is)):=by
   show ((is.map PV.int).mapM KR).bind _=_
   rw[e2];exact if_pos h
  rw[e3];rfl
 max:=λi j=>rfl
 str:=λi=>by
  show Ys (NR [.val (.int i)]) none=_
  cases NR [.val (.int i)]<;>rfl
 Dm:=λq hq=>by
  show (UM (pairs q)).bind _=_
  rw[IY];exact if_pos ⟨rfl,hq⟩
 int:=λx=>by
  show Ys (Mx [.val (.str x)]) none=_
  cases Mx [.val (.str x)]<;>rfl
 dict:=λx=>by
  show Ys (G6 B [.val x]) none=_
  cases G6 B [.val x]<;>rfl
 ord:=λas=>by
  show Ys (Ys (Qa as) none) none=_
  cases Qa as<;>rfl
 chr:=λas=>by
  show Ys (Ys (D6 as) none) none=_
  cases D6 as<;>rfl
 sum:=λas=>by
  show Ys (Ys (B1 as) none) none=_
  cases B1 as<;>rfl
 xe:=rfl
 xi:=rfl
 hd:=rfl
 zip:=λ_=>rfl
 enum:=λ_=>rfl
 b1:=λ_=>rfl
 b3:=λ_=>rfl
theorem jm:Xm c b1 b3 B (S1 c b1 b3 B):=Gk.add rfl
theorem ja:Xm c b1 b3 B (S2 c b1 b3 B):=jm.add rfl
theorem P2:Xm c b1 b3 B (S3 c b1 b3 B):=ja.add rfl
theorem P1:Xm c b1 b3 B (S4 c b1 b3 B):=P2.add rfl
theorem jb:Xm c b1 b3 B (S5 c b1 b3 B):=P1.add rfl
theorem Dn:Xm c b1 b3 B (S6 c b1 b3 B):=jb.add rfl
end
abbrev Gq(c:Zzq)(b1:Int->Bool)(b3:Int->Option oO)(B:YM)(S:Sg):Prop:=∀as,S.cl "_ellipsis_match" as=run (Sb c b1 b3 B) 4 ["ws"] ["want","got"] as
section
variable {S S0:Sg}{B:YM}{n0 n:Nat}{sc:Zz0}{σ:Zx}{p q:Pos}{ks:List oO}{l:List PV}
theorem bT    (hx:S.xe=Ak B S0 n0)(c:WM i=true)(h1:ev S n sc σ o=some (.val (.box B ks l)))(h2:ev S n sc σ i=some (.val (.str x)))(g1:ev S0 n0 sc σ o=some (.val (.box B ks l)))(g2:ev S0 n0 sc σ i=some (.val (.str x)))
 (h3:FO ks l x=some d):ev S (n+1) sc σ (.Subscript o i p)=some (.val d):=by
 have e:ev S (n+1) sc σ (.Subscript o i p)=Ys ((ev S n sc σ o).bind λa=>(ev S n sc σ i).bind λj=>j.ZC.bind λj=>(ZO a j).map .val) (S.xe sc σ (.Subscript o i p)):=by
  cases i<;>first |rfl |cases c
 rw[e,h1,Zzb,h2,Zzb]
 refine (Uz rfl).trans ?_
 rw[hx]
 refine (Uz rfl).trans (V9 ?_)
 show (if WM i=true then (ev S0 n0 sc σ o).bind λa=>(ev S0 n0 sc σ i).bind λj=>j.ZC.bind λj=>(xZ B a j).map AV.val else none)=_
 rw[if_pos c,g1,Zzb,g2,Zzb]
 show (((RK B (.val (.box B ks l))).bind λz=>(U0 (.str x)).bind λx=>FO z.1 z.2 x).map AV.val)=_
 rw[EV,Zzb]
 show (FO ks l x).map AV.val=_
 rw[h3];rfl
theorem y6  {st:Bool}(hx:S.xi=Rk B S0 (n0+1))(c:(Yl y&&!ZI sc y)=true)(h1:σ y=some (.val (.box B ks l))):Y4 S (n+3) sc σ st (.Name x p) (.Name y q)=some (ks.map .str):=by
 have e1:Up S (n+2) sc σ st (.Name y q)=none:=by
  show ((ev S (n+1) sc σ (.Name y q)).bind _)=_
  rw[UY c h1];rfl
 refine (Uz e1).trans ?_
 rw[hx]
 refine V9 ?_
 show (ev S0 (n0+1) sc σ (.Name y q)).bind _=_
 rw[UY c h1,Zzb,EV];rfl
theorem fT   {st:Bool}    (hx:S.xi=Rk B S0 n0)(hz:∀as,S.cl "enumerate" as=none)(Rp:Rf (S.xe sc σ (.Call (.Name "enumerate" p3) as [] q)) none)(c:ZI sc "enumerate"=true)(h1:Y3 S0 n0 sc σ as=some [.val (.lst ds)]):
 Y4 S (n+3) sc σ st (.Tuple [.Name x p1,.Name y p2] k p) (.Call (.Name "enumerate" p3) as [] q)=some (Va ds):=by
 have e0:ev S (n+1) sc σ (.Call (.Name "enumerate" p3) as [] q)=none:=by
  refine (Uz ?_).trans Rp.h
  show (if (Yl "enumerate"&&ZI sc "enumerate"&&decide (as.length<29))=true then _ else none)=_
  split
  ·refine (BR λe=>DN λy as=>if_neg (λh=>by cases h)).trans ?_
   cases h:Y3 S n sc σ as with
   |none=>rfl
   | some v=>
     show ((S.cl "enumerate" v).map AV.val)=_
     rw[hz];rfl
  ·rfl
 have e1:Fv S (n+2) sc σ (.Call (.Name "enumerate" p3) as [] q)=none:=by
  show ((ev S (n+1) sc σ _).bind _)=_
  rw[e0];rfl
 refine (Uz e1).trans ?_
 rw[hx]
 refine (Uz rfl).trans ?_
 show (if (("enumerate":oO)==("enumerate":oO)&&(true&&ZI sc "enumerate"))=true then _ else none)=_
 rw[c]
 refine (if_pos oD).trans ?_
 rw[h1,Zzb]
 show (if (st&&false)=true then _ else _)=_
 rw[ZxR];rfl
theorem sN      (hx:S.xe=Ak B S0 n0)(hz:∀as,S.cl "zip" as=none)(c:(ZI sc "list"&&ZI sc "zip")=true)(h1:Y3 S0 n0 sc σ bs=some [.val (.str t),b])(h2:listOf b=some ds)(h3:t.cps.all (· < 128)=false/\t.length=ds.length/\ds.length<=Zzx):
 ev S (n+3) sc σ (.Call (.Name "list" p1) [.Call (.Name "zip" p2) bs [] p] [] q)=some (.val (.lst (Vz t ds))):=by
 obtain⟨c1,c2⟩:=(ZzQ _ _).mp c
 have Rp:∀σ,S.xe sc σ (.Call (.Name "zip" p2) bs [] p)=none:=λσ=>by
  rw[hx]
  refine (Uz rfl).trans ((Uz rfl).trans ?_)
  show WT bs _=none
  rcases bs with _ |⟨b,_ |⟨_,_⟩⟩
  ·rfl
  ·cases b<;>first |rfl |skip
   rename_i f _ _ _
   cases f<;>first |rfl |exact if_neg λh=>by cases h
  ·rfl
 have e0:ev S (n+1) sc σ (.Call (.Name "zip" p2) bs [] p)=none:=by
  refine (Uz ?_).trans (Rp σ)
  show (if (Yl "zip"&&ZI sc "zip"&&decide (bs.length<29))=true then _ else none)=_
  split
  ·refine (BR λe=>DN λy as=>if_neg (λh=>by cases h)).trans ?_
   cases h:Y3 S n sc σ bs with
   |none=>rfl
   | some v=>
     show ((S.cl "zip" v).map AV.val)=_
     rw[hz];rfl
  ·rfl
 have e1:Y3 S (n+2) sc σ [.Call (.Name "zip" p2) bs [] p]=none:=by
  show (if notStar (.Call (.Name "zip" p2) bs [] p)=true then (ev S (n+1) sc σ (.Call (.Name "zip" p2) bs [] p)).bind λa=>(Y3 S (n+1) sc σ []).map (a::·) else none)=none
  rw[e0];exact ite_self _
 refine (Uz ?_).trans ?_
 ·show (if (Yl "list"&&ZI sc "list"&&decide (1<29))=true then (if (("list":oO)=="list"&&("zip":oO)=="range"&&ZI sc "zip")=true then (Y3 S (n+2) sc σ bs).bind G4 else (Y3 S (n+2) sc σ [.Call (.Name "zip" p2) bs [] p]).bind _) else none)=none
  rw[c1]
  refine (if_pos rfl).trans ((if_neg (by rw[c2];decide)).trans ?_)
  rw[e1];rfl
 ·rw[hx]
  refine (Uz rfl).trans ((Uz rfl).trans ?_)
  show (if (("list":oO)=="list"&&(("zip":oO)=="zip"&&(true&&(true&&(ZI sc "list"&&ZI sc "zip")))))=true then _ else none)=_
  rw[c1,c2]
  refine (if_pos oD).trans ?_
  rw[h1,Zzb]
  show ((listOf b).bind _)=_
  rw[h2];exact if_pos h3
end
theorem zq           {P:Nat->Zx->Prop}(h1:(Y0 sc x&&Y0 sc y)=true)(h2:XF iter=true)(h3:isName iter=false)(h4:Y4 T.sg n sc σ true (.Tuple [.Name x p1,.Name y p2] k p3) iter=some ds)
 (h5:P 0 σ) (h6:∀j d σ,ds[j]?=some d->P j σ->∃a b,d=.tup [a,b]/\Runs T n sc ((σ.set x (.val a)).set y (.val b)) body (P (j+1))):∃σ',XD T (n+1) sc σ (.For (.Tuple [.Name x p1,.Name y p2] k p3) iter body [] p4)=some (.Z2,σ')/\P ds.length σ':=by
 obtain⟨c1,c2⟩:=(ZzQ _ _).mp h1
 have e:XD T (n+1) sc σ (.For (.Tuple [.Name x p1,.Name y p2] k p3) iter body [] p4)=Qm (λσ d=>(partsOf (.Tuple [.Name x p1,.Name y p2] k p3) d).bind λps=>XU T n sc (Zd σ [x,y] ps) body) ds σ:=by
  refine (if_pos (show (([x,y].all (Y0 sc))&&XF iter)=true from by rw[ZyF,c1,ZyF,c2,h2];rfl)).trans ?_
  show ((Y4 T.sg n sc (Q8 σ iter) true (.Tuple [.Name x p1,.Name y p2] k p3) iter).bind λes=>Qm _ es (Q8 σ iter))=_
  rw[HO h3,h4];rfl
 rw[e]
 have:=Lj (f:=λσ d=>(partsOf (.Tuple [.Name x p1,.Name y p2] k p3) d).bind λps=>XU T n sc (Zd σ [x,y] ps) body) (P:=P) (l:=ds) 0 h5 λj σ d hj hp=>by
  rw[ZzP] at hp ⊢
  obtain⟨a,b,rfl,σ',e1,e2⟩:=h6 j d σ hj hp
  exact⟨σ',e1,e2⟩
 rwa [ZzP] at this
theorem Gives.PR           {d0:PV}  {P:Nat->Zx->Prop}(h1:(Y0 sc x&&Y0 sc y)=true)(h2:XF iter=true)(h3:isName iter=false)(h4:Y4 T.sg n sc σ true (.Tuple [.Name x p1,.Name y p2] k p3) iter=some ds)
 (h5:P 0 σ) (h6:∀j d σ,ds[j]?=some d->P j σ->∃a b,d=.tup [a,b]/\Runs T n sc ((σ.set x (.val a)).set y (.val b)) body (P (j+1))) (h7:∀σ',P ds.length σ'->Gives T (n+1) sc σ' r d0):Gives T (n+2) sc σ (.For (.Tuple [.Name x p1,.Name y p2] k p3) iter body [] p4::r) d0:=by
 obtain⟨σ',e,hp⟩:=zq (P:=P) h1 h2 h3 h4 h5 h6
 exact Gives.next e (h7 _ hp)
theorem MX   {P:Nat->Zx->Prop}{Q:Zx->Prop}(h:∀m σ,P m σ->(t σ=some false/\Q σ)∨(t σ=some true/\∃σ',f σ=some (.Z2,σ')/\∃m',m'<m/\P m' σ')):∀(w m:Nat) (σ:Zx),m<w->P m σ->∃σ',NS t f w σ=some (.Z2,σ')/\Q σ':=by
 intro w
 induction w with
 |zero=>exact λm σ hm=>absurd hm (Zwq _)
 | succ w ih=>
   intro m σ hm hp
   rcases h m σ hp with ⟨e,q⟩ |⟨e,σ',e2,m',hl,rT⟩
   ·exact⟨σ,by
     show ((t σ).bind _)=_
     rw[e];rfl,q⟩
   ·obtain⟨σ2,e3,q⟩:=ih m' σ' (ZzI hl (Zwd hm)) rT
    refine⟨σ2,?_,q⟩
    show ((t σ).bind _)=_
    rw[e]
    show ((f σ).bind _)=_
    rw[e2];exact e3
theorem Runs.while   {sc:Zz0}      {Q R:Zx->Prop}(P:Nat->Zx->Prop)(m:Nat)(hm:m<T.wf)(h0:P m σ)(h:∀m σ,P m σ->(YW T.sg n sc σ t=some false/\R σ)∨(YW T.sg n sc σ t=some true/\Runs T n sc σ body λσ=>∃m',m'<m/\P m' σ))
 (h2:∀σ,R σ->Runs T (n+1) sc σ r Q):Runs T (n+2) sc σ (.While t body [] p::r) Q:=by
 obtain⟨σ',e,q⟩:=MX (t:=λσ=>YW T.sg n sc σ t) (f:=λσ=>XU T n sc σ body) (P:=P) (Q:=R) h T.wf m σ hm h0
 exact Runs.next (σ':=σ') e (h2 _ q)
local macro_rules |`(tactic| walk_at "lf")=>do
 let f:=λ(s:String)=>((s.splitOn " ").toArray.map λx=>(⟨Zuf x.toName⟩:Zud `ident))
 let a:=f "ID Hg a0 Mk TR nt qH Mq TS TH nX nY Rl zH Q1 Af bQ qG yj aX aV aW I5 zN ZzG Zxw Zyw Zvt Zzm ZyF List.all_nil Zwy ZxU Zzb Zvb AV.pv beq_self_eq_true D5 if_true if_false Zjr Zjq Zje ZxI Zql Bool.true_or Zvz Zjp Zjj ZxR Zx9"
 `(tactic| focus (simp (decide:=true) (implicitDefEqProofs:=false) only [$[$a:ident],*, *];(try rfl);done))
local macro_rules |`(tactic| walk_at "ex")=>do
 let f:=λ(s:String)=>((s.splitOn " ").toArray.map λx=>(⟨Zuf x.toName⟩:Zud `ident))
 let a:=f "UY W4 YR Yc VF Xi Yv YG J1 N9 Hj Jo VO X9 Dt Y1 PX X8 B2 UI Wa WV VM KD Sw Rc jJ uC uD GO JN De Gg jK PU Jv Un PY Ad bR bH Ds Cg Mz jF TU uB bM bL bP jQ"
 let b:=f "TJ Um WX J0 Io VL TK Dr Hq zD B3 Gi TQ II zF uF bO bE uA"
 `(tactic| first |with_reducible assumption |(with_reducible (first $[|apply $a]*))<;>walk_at "ex" |((with_reducible apply tG);exact tT) |((with_reducible apply tH);exact tF) |exact Rf.mk rfl $[|(with_reducible apply $b)<;>walk_at "ex"]* |walk_at "lf")
noncomputable def W8:List Nat:=[0,1,2,4,7,8,9,10,11,12]
noncomputable def Yr(c q:Nat):Nat:=if q=0 then c-32 else 119808+52*W8.getD (q-1) 0+c-97
noncomputable def X5:List Nat:=[102,105,108,115,116,104,112,107,109]
section
variable {c:Zzq}{b1:Int->Bool}{b3:Int->Option oO}{B:YM}{S:Sg}
theorem kB:∀ch∈X5,Zqf (tx [ch])=tx [ch-32]:=by decide
theorem uk(H:Xm c b1 b3 B S)  (hc:ch∈X5):run S 17 [] ["letter","q"] [.val (.str (tx [ch])),.val (.int 0)]=some (.str (tx [ch-32])):=by
 refine X7 rfl ?_
 generalize hb:X6 17=b
 conv at hb=>lhs;whnf
 subst hb
 have m1:=H.mt
 have mU:I1 "upper" (.val (.str (tx [ch]))) []=some (.str (tx [ch-32])):=by
  rw[<-kB ch hc]
  show (if (tx [ch]).length<=5592405 then some (PV.str (Zqf (tx [ch]))) else none)=_
  exact if_pos (by rw[Zn];exact ZzV 1 5592404)
 refine Gives.ret (Um oW (Io (VM oW)))
theorem Es{l:List Nat}  (h:j<l.length):(l.map λn:Nat=>PV.int (n:Nat))[j]?=some (.int (l.getD j 0:Nat)):=by
 rw[Zyk,gD,gE h];rfl
theorem uj(H:Xm c b1 b3 B S){ch q:Nat}(hc:ch∈X5)(hq:q<10):run S 17 [] ["letter","q"] [.val (.str (tx [ch])),.val (.int ((q+1:Nat):Int))]=some (.str (tx [119808+52*W8.getD q 0+ch-97])):=by
 refine X7 rfl ?_
 generalize hb:X6 17=b
 conv at hb=>lhs;whnf
 subst hb
 have m1:=H.ord;have m2:=H.chr
 have ne:ZE .Eq (.val (.int ((q+1:Nat):Int))) (.val (.int 0))=some false:=by
  exact yk (b:=0) (ZqC q)
 have i1:ZO (.val (.lst [.int 0,.int 1,.int 2,.int 4,.int 7,.int 8,.int 9,.int 10,.int 11,.int 12])) (.int (((q+1:Nat):Int)-1))=some (.int ((W8.getD q 0:Nat):Int)):=by
  rw[FQ (n:=q) I5 (show ((q+1:Nat):Int)-1=(q:Int) from Zwi (q:Int) 1) (Zm (Zzs hq))]
  exact Es (l:=W8) hq
 have i2:YS .Mult (.val (.int 52)) (.val (.int ((W8.getD q 0:Nat):Int)))=some (.int (52*((W8.getD q 0:Nat):Int))):=tU oD
 have i3:Qa [.val (.str (tx [ch]))]=some (.int ch):=rfl
 have hg:W8.getD q 0<=12:=(show ∀q,q<10->W8.getD q 0<=12 by decide) q hq
 have hl:97<=ch/\ch<=122:=(show ∀ch∈X5,97<=ch/\ch<=122 by decide) ch hc
 have i4:D6 [.val (.int (119808+52*((W8.getD q 0:Nat):Int)+ch-97))]=some (.str (tx [119808+52*W8.getD q 0+ch-97])):=by
  show (if 0<=(119808+52*((W8.getD q 0:Nat):Int)+ch-97)/\(119808+52*((W8.getD q 0:Nat):Int)+ch-97)<=1114111 then some (PV.str ⟨#[(119808+52*((W8.getD q 0:Nat):Int)+ch-97).toNat]⟩) else none)=_
  rw[show 119808+52*((W8.getD q 0:Nat):Int)+(ch:Int)-97=((119808+52*W8.getD q 0+ch-97:Nat):Int) from (Zwo (oP hl.1 (ZzV _ _))).symm]
  exact if_pos ⟨ZzJ _,Zy7.mpr (oP (Zyo _ _) (Zm (Zyy (Zzr (Zw7 52 hg) 119808) hl.2)))⟩
 have j1:=(m1 [.val (.str (tx [ch]))]).trans i3
 have j2:=(m2 [.val (.int (119808+52*((W8.getD q 0:Nat):Int)+ch-97))]).trans i4
 clear i3 i4 m1 m2
 exact Gives.next (WX (Y1 tF oW W4 ne) WV) (Gives.ret (VM (II (Yc tT oW j2) rfl)))
theorem gI(H:Xm c b1 b3 B S){ch q:Nat}(hc:ch∈X5)(hq:q<11):run S 17 [] ["letter","q"] [.val (.str (tx [ch])),.val (.int q)]=some (.str (tx [Yr ch q])):=by
 cases q with
 |zero=>exact uk H hc
 |succ q=>exact uj H hc (Zx4 hq)
end
noncomputable def Yg:Nat->List Nat
 |0=>[102,105] |1=>[102,108] |2=>[115,116] |3=>[104,112] |_=>[107,109]
noncomputable def Jq:Nat->List Nat
 |0=>[64256,64257,64259] |1=>[64256,64258,64260] |2=>[223,64261,64262] |3=>[13259,13271,8459] |_=>[13261,13262,8499]
noncomputable def JT:Nat->List (List Nat)
 |0=>[[102,102],[102,105],[102,102,105]] |1=>[[102,102],[102,108],[102,102,108]] |2=>[[115,115],[115,116],[115,116]] |3=>[[104,112],[112,104],[104]] |_=>[[107,107],[107,109],[109]]
noncomputable def VG:List Nat:=[173,847,6150,6155,6156,6157,8203,8204,8205,8288,65279,65024,65025,65026,65027,65028,65029,65030,65031,65032,65033,65034,65035,65036,65037,65038,65039]
def Kc(t:Nat):List (Nat × List Nat):=((Yg (t%5)).map λc=>(c,[c]))++((Yg (t%5)).map λc=>(Yr c (t/5%11),[c]))++(Jq (t%5)).zip (JT (t%5))++[(VG.getD (t/5%27) 0,[])]
def WU(k:Nat × List Nat):PV:=.tup [.str (tx [k.1]),.str (tx k.2)]
def x4(k:Nat):List PV:=[.str (tx (Yg k)),.str (tx (Jq k)),.lst ((JT k).map λm=>.str (tx m))]
section
variable {c:Zzq}{b1:Int->Bool}{b3:Int->Option oO}{B:YM}{S:Sg}
theorem gX{k:Nat}(hk:k<5):ZO (.val (.lst [.tup [.str "fi",.str "ﬀﬁﬃ",.lst [.str "ff",.str "fi",.str "ffi"]],.tup [.str "fl",.str "ﬀﬂﬄ",.lst [.str "ff",.str "fl",.str "ffl"]],.tup [.str "st",.str "ßﬅﬆ",.lst [.str "ss",.str "st",.str "st"]],
 .tup [.str "hp",.str "㏋㏗ℋ",.lst [.str "hp",.str "ph",.str "h"]],.tup [.str "km",.str "㏍㏎ℳ",.lst [.str "kk",.str "km",.str "m"]]])) (.int k)=some (.tup (x4 k)):=by
 rw[FQ (n:=k) I5 rfl (Zm (Zzs hk))]
 rcases k with _ |_ |_ |_ |_ |k<;>first |rfl |exact absurd hk (Zwr.mpr (ZzV 5 k))
theorem RJ   (h1:listOf a=some l)(h2:listOf b=some m)(h3:l.length+m.length<=Zzx):YS .Add a b=some (.lst (l++m)):=by
 have e1:XI a=none:=by
  rcases F6 h1 with rfl |rfl<;>rfl
 have e2:Yw a=none:=by
  rcases F6 h1 with rfl |rfl<;>rfl
 show Ys ((XI a).bind _) (Ys ((Yw a).bind _) ((listOf a).bind λl=>(listOf b).bind λm=>if l.length+m.length<=Zzx then some (PV.lst (l++m)) else none))=_
 rw[e1,e2,h1,h2];exact if_pos h3
theorem mG          (h:ev S n sc σ.flat (.ListComp elt [⟨Zu,iter,ifs,0⟩] scope p)=some a)(h2:listOf a=some ds):Gf S n sc σ (.ListComp elt [⟨Zu,iter,ifs,0⟩] scope p)=some ds:=by
 show (if UT (.ListComp elt [⟨Zu,iter,ifs,0⟩] scope p) then (ev S n sc σ.flat _).bind λa=>listOf a else none)=_
 rw[h];exact h2
theorem sM       (c:(ZI sc "list"&&ZI sc "range")=true)(h:Y3 S n sc σ args=some [.val (.int a),.val (.int b)])(h1:(ZF (-(2 ^ 62)) (2 ^ 62) a&&ZF (-(2 ^ 62)) (2 ^ 62) b&&decide ((b-a).toNat<=2 ^ 24))=true):ev S (n+1) sc σ (.Call (.Name "list" p1) [.Call (.Name "range" p2) args [] p] [] q)=some (.val (.lst (ZR a b))):=by
 obtain⟨c1,c2⟩:=(ZzQ _ _).mp c
 refine V9 ?_
 show (if (Yl "list"&&ZI sc "list"&&decide (1<29))=true then (if (("list":oO)=="list"&&("range":oO)=="range"&&ZI sc "range")=true then (Y3 S n sc σ args).bind G4 else _) else none)=_
 rw[c1,c2,h]
 exact if_pos h1
theorem EH:∀(J:List Nat) (M:List (List Nat)),Vz (tx J) (M.map λm=>.str (tx m))=(J.zip M).map WU:=by
 intro J M
 show Zqc _ J _=_
 rw[List.zipWith_map_right,List.zip_eq_zipWith,List.map_zipWith];rfl
theorem dP:∀k,k<5->(∀ch∈Yg k,ch∈X5)/\(Yg k).length=2/\((Jq k).all (· < 128)=false/\(Jq k).length=3/\(JT k).length=3):=by decide
theorem kT(l:List Nat):(tx l).cps.all (· < 128)=l.all (· < 128):=by
 show l.toArray.all _=_
 simp
theorem xP{j:Nat}(hj:j<27):ZO (.val (.lst ([.int 173,.int 847,.int 6150,.int 6155,.int 6156,.int 6157,.int 8203,.int 8204,.int 8205,.int 8288,.int 65279]++ZR 65024 65040))) (.int j)=some (.int (VG.getD j 0:Nat)):=by
 rw[FQ (n:=j) I5 rfl (Zm (Zzs hj))]
 exact Es (l:=VG) hj
theorem zero_le:∀j,j<27->VG.getD j 0<=65279:=by decide
theorem gK(H:Xm c b1 b3 B S)(hG:∀ch∈X5,∀q:Nat,q<11->S.cl "_law_great" [.val (.str (tx [ch])),.val (.int q)]=some (.str (tx [Yr ch q])))(t:Nat)(ht:t<=1000000000):run S 18 ["great"] ["total"] [.val (.int t)]=some (.lst ((Kc t).map WU)):=by
 refine X7 rfl ?_
 generalize hb:X6 18=b
 conv at hb=>lhs;whnf
 subst hb
 have k5:t%5<5:=ZxN _ oD
 have q5:=md (y:=5) 5 rfl oD t
 have oF:=md (y:=27) 27 rfl oD (t/5)
 have oC:=md (y:=11) 11 rfl oD (t/5)
 have d5:=dv (y:=5) 5 rfl oD (λx=>rfl) t
 obtain⟨f1,f2,f3,f4,f5⟩:=dP _ k5
 have Al:t/5%11<11:=ZxN _ oD
 have yw:t/5%27<27:=ZxN _ oD
 have nh:=gX k5
 unfold x4 at nh
 unfold Kc
 generalize Yg (t%5)=W at *
 generalize Jq (t%5)=J at *
 generalize JT (t%5)=M at *
 generalize t/5%11=g at *
 have za:=xP yw
 have zl:=zero_le _ yw
 generalize VG.getD (t/5%27) 0=z at *
 refine Gives.next (Cg (xs:=["two","joined","means"]) (ds:=[.str (tx W),.str (tx J),.lst (M.map λm=>.str (tx m))]) ⟨rfl⟩ ⟨rfl⟩ tT (X8 tT oW oW nh) ⟨rfl⟩) ?_
 have wl:W.length<=Zzx:=by rw[f2,ZzS];decide
 refine Gives.next (TJ tT (mG (a:=.val (.lst (W.map λch=>.tup [.str (tx [Yr ch g]),.str (tx [ch])]))) (ds:=W.map λch=>.tup [.str (tx [Yr ch g]),.str (tx [ch])]) (Ce (f:=λch=>.str (tx [ch])) (l:=W) (λch=>.tup [.str (tx [Yr ch g]),.str (tx [ch])]) rfl (Wv ["total"] rfl rfl) rfl (Gg (Jv oW zH)) wl λch hc=>?_) rfl)) ?_
 ·have:=hG ch (f1 ch hc) g Al
  exact Un (B2 (VO tT (Yc tT (Yv tT oW (Yv tT oW Xi)) this) (VO tT oW Jo)) rfl)
 refine Gives.next (Wa tT (X8 tT (X9 oW (sM tT oW rfl) (RJ rfl rfl oD)) oW za)) ?_
 have g3:(tx J).cps.all (· < 128)=false/\(tx J).length=(M.map λm=>PV.str (tx m)).length/\(M.map λm=>PV.str (tx m)).length<=Zzx:=⟨(kT J).trans f3,by rw[Zn,Zzm,f4,f5],by rw[Zzm,f5,ZzS];decide⟩
 have pS:D6 [.val (.int z)]=some (.str (tx [z])):=by
  show (if 0<=(z:Int)/\(z:Int)<=1114111 then some (PV.str ⟨#[(z:Int).toNat]⟩) else none)=_
  rw[if_pos ⟨ZzJ z,Zy7.mpr (Zm zl)⟩,Zxu];rfl
 have oS:=(H.chr _).trans pS
 have lg:∀{l m:List PV},l.length<=20->m.length<=20->l.length+m.length<=Zzx:=λh1 h2=>ZT (Zm (Zyy h1 h2))
 have Rp:=H.xe;have hz:=H.zip
 have Mf:(M.map λm=>PV.str (tx m)).all YY=true:=by rw[ZvE];exact ZzD.mpr λ_ _=>rfl
 have mL:(AV.val (.lst (M.map λm=>PV.str (tx m)))).last=some (.own (M.map λm=>PV.str (tx m))):=by
  show (if (M.map λm=>PV.str (tx m)).all YY then some (AV.own (M.map λm=>PV.str (tx m))) else none)=_
  exact if_pos Mf
 have o3:Vz (tx J) (M.map λm=>.str (tx m))=(J.zip M).map WU:=EH J M
 refine Gives.ret (VM (uF (d:=.lst (((W.map λch=>(ch,[ch]))++(W.map λch=>(Yr ch g,[ch]))++J.zip M++[(z,[])]).map WU)) ?_ ?_))
 all_goals
  rw[Zz9,Zz9,Zz9,ZyD,ZyD,<-o3]
  refine X9 (X9 (X9 (a:=.val (.lst (W.map (WU∘λch=>(ch,[ch]))))) (Ce (f:=λch=>.str (tx [ch])) (l:=W) (WU∘λch=>(ch,[ch])) rfl (Wv [] rfl rfl) rfl (Gg (Jv oW zH)) wl λch hc=>?_) oW (RJ rfl rfl (lg (by simp [f2]) (by simp [f2]))))
   (sN Rp hz tT oW rfl g3) (RJ rfl rfl (lg (by simp [f2]) (by simp [Vz,f4,f5,tx])))) oW (RJ rfl rfl (lg (by simp [f2,Vz,f4,f5,tx]) (by simp)))
  exact Un (y:=.tup [.str (tx [ch]),.str (tx [ch])]) (B2 oW rfl)
end
inductive UN (t:List Nat):Nat->List Nat->Nat->Prop
 |nil {b:Nat}:UN t b [] b
 |step {b e f:Nat} {l:List Nat}:B9 t b e->UN t e l f->UN t b (e::l) f
theorem UN.snoc    (h:UN t b l e)(m:B9 t e f):UN t b (l++[f]) f:=by
 induction h with
 |nil=>exact .step m .nil
 |step a _ ih=>exact .step a (ih m)
theorem UN.chain    (h:UN t b l e)(hl:t.length<=e):Chain t b l:=by
 induction h with
 |nil=>exact .done hl
 |step a _ ih=>exact .step a (ih hl)
theorem UN.last    (h:UN t b l e):(b::l)[l.length]?=some e:=by
 induction h with
 |nil=>rfl
 |step a _ ih=>exact ih
theorem UN.cnt    (h:UN t b l e):b+l.length<=e:=by
 induction h with
 |nil=>exact Zz1 _
 |step a _ ih=>exact Zyq _ _ ▸ oP (Zzg a.1.1 _) ih
noncomputable def Z6(l:List Nat):List PV:=l.map λn=>.int (n:Nat)
theorem Ue(l:List Nat):(Z6 l).length=l.length:=Zzm _
theorem vL    (ha:listOf a=some ds)(h0:0<ds.length)(h:ds[ds.length-1]?=some d):ZO a (.int (-1))=some d:=by
 rw[aJ ha]
 refine (if_neg oD).trans ((if_pos ?_).trans ?_)
 ·rw[show ZF (-(2 ^ 63)) 0 (-1)=true by decide,ZxI]
  exact decide_eq_true (Int.neg_le_neg (Zy7.mpr h0))
 ·rw[show (-1:Int)+ds.length=((ds.length-1:Nat):Int) from (ZwN _ _).trans (cP h0)]
  exact h
section
variable {T:List Nat}
theorem BK  (hb:b+n<=T.length)(hp:p+n<=h):(T.drop b).take n<+:(T.take h).drop p<->Q2 T p b n:=by
 rw[ZwR,UH hb,ZwH,ZvZ,Zy1 (ZuZ hp)]
 exact eq_comm
theorem M7{b n lo hi h:Nat}(hb:b+n<=T.length)(hh:hi<=h):(Z0 (T.take h) ((T.drop b).take n) lo hi).isSome=true<->∃p,lo<=p/\p+n<=hi/\Q2 T p b n:=by
 have l:=UH hb
 constructor
 ·intro h
  obtain⟨p,e⟩:=ZwG.mp h
  obtain⟨a1,a2,a3⟩:=YD e
  rw[l] at a2
  exact⟨p,a1,a2,(BK hb (oP a2 hh)).mp a3⟩
 ·rintro⟨p,a1,a2,a3⟩
  cases e:Z0 (T.take h) ((T.drop b).take n) lo hi with
  |some _=>rfl
  |none=>exact absurd ((BK hb (oP a2 hh)).mpr a3) (Jh e a1 (by rw[l];exact a2))
theorem Ms :(T.take e).drop b=(T.drop b).take (e-b):=ZwH ..
end
structure o4(σ:Zx)(T:List Nat)(l:List Nat):Prop where
 text:σ "text"=some (.val (.str (tx T)))
 ends : σ "ends" = some (.own (Z6 (0 :: l)))
section
variable {c:Zzq}{b1:Int->Bool}{b3:Int->Option oO}{B:YM}{S:Sg}{T:List Nat}
theorem rV(x:Bool):ZE .Is (.val (.bool x)) (.val (.bool true))=some x:=by cases x<;>rfl
def Vc(T:St)(n:Nat)(sc:Zz0)(σ:Zx)(ss:List ZzZ)(P:PV->Prop):Prop:=∃d,P d/\Gives T n sc σ ss d
theorem Vc.next{T:St}    {st:ZzZ}   (h:XD T n sc σ st=some (.Z2,σ'))(h2:Vc T n sc σ' r P):Vc T (n+1) sc σ (st::r) P:=h2.imp λd h2=>⟨h2.1,Gives.next h h2.2⟩
theorem Vc.while{T:St}        {R:Zx->Prop}  (P:Nat->Zx->Prop)(m:Nat)(hm:m<T.wf)(h0:P m σ)(h:∀m σ,P m σ->(YW T.sg n sc σ t=some false/\R σ)∨(YW T.sg n sc σ t=some true/\Runs T n sc σ body λσ=>∃m',m'<m/\P m' σ))
 (h2:∀σ,R σ->Vc T (n+1) sc σ r D):Vc T (n+2) sc σ (.While t body [] p::r) D:=by
 obtain⟨σ',e,q⟩:=MX (t:=λσ=>YW T.sg n sc σ t) (f:=λσ=>XU T n sc σ body) (P:=P) (Q:=R) h T.wf m σ hm h0
 exact Vc.next (σ':=σ') e (h2 _ q)
theorem DG(l:List Nat)(e:Nat):Z6 l++[.int (e:Nat)]=Z6 (l++[e]):=by rw[Z6,Z6,Zz9];rfl
structure yd(σ:Zx)(T:List Nat)(b:Nat):Prop where
 ex:∃l,o4 σ T l/\UN T 0 l b
structure qR(σ:Zx)(T:List Nat)(b e:Nat):Prop extends yd σ T b where
 bg:σ "begin"=some (.val (.int b))
 en:σ "end"=some (.val (.int e))
 v:V T b e
theorem cz(H:Xm c b1 b3 B S)(hM:Gq c b1 b3 B S)(hd:46∉T)(hT:T.length<=100)  (hv:V T b e)(h1:e<T.length):
 S.cl "_ellipsis_match" [.val (.str ((("...":oO)++tx ((T.take e).drop b))++"...")),.val (.str (tx (T.take (e-1))))]=some (.bool (Z0 (T.take (e-1)) ((T.drop b).take (e-b)) 0 (e-1)).isSome):=by
 have VU:=hv.1
 have l:=Lz (b:=b) hv.2.1
 have l2:(T.take (e-1)).length=e-1:=Zyc (oP (Zyo e 1) hv.2.1)
 have:=pF (S:=Sb c b1 b3 B) Gk.toTab1 (n:=100) oD (s:=tx ((T.take e).drop b)) (got:=tx (T.take (e-1))) (W7 (λm=>hd (Zy8 (Zyl m))) (by rw[l];exact oP (Zyo e b) (oP hv.2.1 hT))) (W7 (λm=>hd (Zy8 m)) (oP (Zve _ _) hT))
  (by rw[Zn,l];exact ZwE VU)
 rw[hM,this,Zp,Zp,Zn,l2,Ms]
theorem Tv(H:Xm c b1 b3 B S)(hM:Gq c b1 b3 B S)(hd:46∉T)(hT:T.length<=100):∃l,Chain T 0 l/\l.length<=100/\run S 19 ["ends"] ["text"] [.val (.str (tx T))]=some (.lst (Z6 (0::l))):=by
 suffices h:Vc (Tn S ["ends"]) 60 (Yq 19) (Zd (λ_=>none) ["text"] [.str (tx T)]) (X6 19) λd=>∃l,(Chain T 0 l/\l.length<=100)/\d=.lst (Z6 (0::l)) by
  obtain⟨d,⟨l,⟨h1,h2⟩,rfl⟩,h3⟩:=h
  exact⟨l,h1,h2,X7 rfl h3⟩
 generalize hb:X6 19=b
 conv at hb=>lhs;whnf
 subst hb
 have m2:=H.len;have m3:=H.B6
 have fz:(tx T).length<=Zzx:=V2 hT oD
 have fl:((tx T).length:Int)=(T.length:Int):=by rw[Zn]
 refine Vc.next (σ':=(Zd (λ_=>none) ["text"] [.str (tx T)]).set "ends" (.own [.int 0])) oW ?_
 have h0:yd ((Zd (λ_=>none) ["text"] [.str (tx T)]).set "ends" (.own [.int 0])) T 0:=⟨[],⟨J1 tT (N9 (Hj YG)),YG⟩,.nil⟩
 refine Vc.while (R:=λσ=>yd σ T T.length) (λm σ=>∃b,yd σ T b/\b<=T.length/\m=T.length-b) T.length (Zz4 hT (show 100<1000 by decide)) ⟨0,h0,Zz3 _,rfl⟩ ?_ ?_
 ·rintro m σ ⟨b,⟨l,⟨s1,s2⟩,hc⟩,hb,rfl⟩
  have it:ZO (.own (Z6 (0::l))) (.int (-1))=some (.int b):=vL zN (by rw[Ue];exact Zuy _) (by
   rw[Ue,Z6,Zyk,show (0::l).length-1=l.length from rfl,hc.last];rfl)
  have lx:Ul [.val (.str (tx T))]=some (.int T.length):=(ID fz).trans (by rw[fl])
  have t1:=(m2 _).trans lx
  by_cases YN:b<T.length
  ·right
   have lt:=zB YN
   refine⟨by walk_at "ex",?_⟩
   have e1:(b:Int)+1=((b+1:Nat):Int):=rfl
   refine Runs.next (σ':=σ.set "begin" (.val (.int b))) oW ?_
   refine Runs.next (σ':=(σ.set "begin" (.val (.int b))).set "end" (.val (.int (b+1:Nat)))) (by rw[<-e1];walk_at "ex") ?_
   have j0:qR ((σ.set "begin" (.val (.int b))).set "end" (.val (.int (b+1:Nat)))) T b (b+1):=⟨⟨l,⟨by walk_at "ex",by walk_at "ex"⟩,hc⟩,by walk_at "ex",by walk_at "ex",xM YN⟩
   refine Runs.while (R:=λσ=>∃e,qR σ T b e/\B9 T b e) (λm σ=>∃e,qR σ T b e/\m=T.length-e) (T.length-(b+1)) (Zz4 (oP (Zyo _ _) hT) (show 100<1000 by decide)) ⟨_,j0,rfl⟩ ?_ ?_
   ·rintro m σ ⟨e,J,rfl⟩
    have J':=J
    obtain⟨⟨l,⟨s1,s2⟩,hc⟩,s3,s4,hv⟩:=J
    have VU:=hv.1
    by_cases h1:e<T.length
    ·have lt:=zB h1
     have gr:=cz H hM hd hT hv h1
     have c1:YL (.val (.str (tx T))) (some (b:Int)) (some (e:Int))=some (.str (tx ((T.take e).drop b))):=(Q1 fz).trans (by rw[Xp,G3])
     have c2:YL (.val (.str (tx T))) none (some ((e:Int)-1))=some (.str (tx (T.take (e-1)))):=(Q1 fz).trans (by rw[cP (ZvN VU),Xp,Ka])
     have l1:(tx ((T.take e).drop b)).length<=100:=by rw[Zn,Lz hv.2.1];exact oP (Zyo e b) (oP hv.2.1 hT)
     have a1:YS .Add (.val (.str "...")) (.val (.str (tx ((T.take e).drop b))))=some (.str ("..."++tx ((T.take e).drop b))):=Us (by rw[Mu];exact ZT (oP (Zzr l1 3) oD))
     have a2:YS .Add (.val (.str ("..."++tx ((T.take e).drop b)))) (.val (.str "..."))=some (.str (("..."++tx ((T.take e).drop b))++"...")):=Us (by rw[len_app,Mu];exact ZT (oP (Zzg (Zzr l1 3) 3) oD))
     have ci:=rV (Z0 (T.take (e-1)) ((T.drop b).take (e-b)) 0 (e-1)).isSome
     have fi:=M7 (T:=T) (b:=b) (n:=e-b) (lo:=0) (hi:=e-1) (h:=e-1) (oP (Zya (Zw4 (Zzs VU))) (Zzs h1)) (Zz1 _)
     cases hx:(Z0 (T.take (e-1)) ((T.drop b).take (e-b)) 0 (e-1)).isSome with
     | true=>
       rw[hx] at gr ci
       obtain⟨p,_,p1,p2⟩:=fi.mp hx
       have Ro:V T b (e+1):=⟨ZyG VU,h1,.inr ⟨p,oy VU p1,p2⟩⟩
       right
       refine⟨GO (VL oW (VL (Y1 oW (Yc tT (Yv tT (X9 (X9 YR oW a1) YR a2) (Yv tT oW Xi)) gr) oW ci) De)),?_⟩
       refine Runs.next (σ':=σ.set "end" (.val (.int ((e:Int)+1)))) oW (Runs.nil ⟨T.length-(e+1),Nat.sub_succ_lt_self _ _ h1,e+1,⟨⟨l,⟨by walk_at "ex",by walk_at "ex"⟩,hc⟩,by walk_at "ex",YG,Ro⟩,rfl⟩)
     | false=>
       rw[hx] at gr ci
       left
       refine⟨GO (VL oW (TK oW)),e,J',hv,λe' Ro=>?_⟩
       by_cases Kq:e'<=e
       ·exact Kq
       ·exfalso
        obtain⟨_,w2,w3⟩:=SX Ro (e':=e+1) (ZyG VU) (Zwe Kq)
        rcases w3 with w3 |⟨p,p1,p2⟩
        ·exact ZzE VU (Zxz w3)
        ·exact Zz6 (hx.symm.trans (fi.mpr ⟨p,Zz3 _,oz VU p1,p2⟩))
    ·have lt:=zA (Zym h1)
     left
     exact⟨GO (TK oW),e,J',hv,λe' Ro=>oP Ro.2.1 (Zym h1)⟩
   ·rintro σ ⟨e,⟨⟨l,⟨s1,s2⟩,hc⟩,s3,s4,hv⟩,hm⟩
    have z1:(Z6 (0::l)).length<=Zzx:=by rw[Ue];exact ZT (oP (ZzX (oP (ZzP l.length ▸ hc.cnt) (oP (Zzs hv.1) (oP hv.2.1 hT)))) oD)
    refine Runs.next (σ':=σ.set "ends" (.own (Z6 (0::l)++[.int e]))) (Mz ⟨rfl⟩ tT s2 oW z1) (Runs.nil ?_)
    exact⟨T.length-e,Zqz (ZzI hv.1 hv.2.1) hv.1,e,⟨l++[e],⟨by walk_at "ex",by rw[DG];exact YG⟩,hc.snoc hm⟩,hv.2.1,rfl⟩
  ·left
   have lt:=zA (Zym YN)
   have:b=T.length:=ZyM hb (Zym YN)
   exact⟨by walk_at "ex",this ▸ ⟨l,⟨s1,s2⟩,hc⟩⟩
 ·rintro σ ⟨l,⟨s1,s2⟩,hc⟩
  exact⟨_,⟨l,⟨hc.chain (Zz1 _),oP (ZzP l.length ▸ hc.cnt) hT⟩,rfl⟩,Gives.ret (VM (zF oW oW))⟩
end
open Classical
theorem OI(l:List Nat):∀a:Nat,∃m:Nat,(l.map λn:Nat=>(n:Int)).foldl min (a:Int)=(m:Int)/\m∈a::l/\∀x∈a::l,m<=x:=by
 induction l with
 |nil=>exact λa=>⟨a,rfl,.head _,λx h=>Zya (Zz5.mp h).symm⟩
 | cons b l ih=>
   intro a
   obtain⟨m,e,h1,h2⟩:=ih (min a b)
   have hm:=h2 _ (.head _)
   refine⟨m,?_,(ZzN.mp h1).elim (λq=>?_) λh=>.tail _ (.tail _ h),λx hx=>(ZzN.mp hx).elim (λq=>q ▸ oP hm (Zup _ _)) λhx=>(ZzN.mp hx).elim (λq=>q ▸ oP hm (ZqZ _ _)) λhx=>h2 _ (.tail _ hx)⟩
   ·rw[ZzG,Zxh,show min (a:Int) (b:Int)=((min a b:Nat):Int) from by
     rcases Zx7 a b with h |h
     ·rw[Zy1 h,Zw9 (Zy7.mpr h)]
     ·rw[Zxy h,ZvO (Zy7.mpr h)]]
    exact e
   ·rw[q]
    rcases Zx7 a b with h |h
    ·rw[Zy1 h];exact .head _
    ·rw[Zxy h];exact .tail _ (.head _)
theorem OK  (h:l≠[]):∃m:Nat,minOf (l.map λn:Nat=>(n:Int))=(m:Int)/\m∈l/\∀x∈l,m<=x:=by
 cases l with
 |nil=>exact absurd rfl h
 |cons a l=>exact OI l a
structure LsI(T L:List Nat):Prop where
 zero:L.getD 0 0=0
 ex:∀k,0<k->k<L.length->∃b,V T b k/\L.getD k 0=1+L.getD b 0
 all:∀b k,V T b k->k<L.length->L.getD k 0<=1+L.getD b 0
theorem VR   (h:k<L.length):(L++[x]).getD k 0=L.getD k 0:=by
 rw[gD,ZwW h,<-gD]
theorem Lq  :(L++[x]).getD L.length 0=x:=by
 rw[gD,ZvF (Zz1 _),Nat.sub_self];rfl
theorem LsI.step  (h:LsI T L)(h0:0<L.length)  (hb:V T b L.length)(e:m=L.getD b 0)(ha:∀b,V T b L.length->m<=L.getD b 0):LsI T (L++[1+m]) where
 zero:=by rw[VR h0];exact h.zero
 ex:=λk hk hl=>by
  rw[Zzd] at hl
  by_cases hc:k<L.length
  ·obtain⟨b,h1,h2⟩:=h.ex k hk hc
   exact⟨b,h1,by rw[VR hc,h2,VR (ZxY h1.1 hc)]⟩
  ·have:k=L.length:=ZyM (Zwd hl) (Zym hc)
   subst this
   exact⟨b,hb,by rw[Lq,e,VR hb.1]⟩
 all:=λb k hv hl=>by
  rw[Zzd] at hl
  by_cases hc:k<L.length
  ·rw[VR hc,VR (ZxY hv.1 hc)];exact h.all b k hv hc
  ·have:k=L.length:=ZyM (Zwd hl) (Zym hc)
   subst this
   rw[Lq,VR hv.1];exact Zzr (ha b hv) 1
theorem LsI.least  (h:LsI T L)(hl:L.length=T.length+1):N5 T λk=>L.getD k 0:=
 ⟨h.zero,λk h1 h2=>h.ex k h1 (by rw[hl];exact Zxr h2),λb k hv=>h.all b k hv (by rw[hl];exact Zxr hv.2.1)⟩
theorem Mt(e:Nat):ZR 0 (e:Int)=(ZzW e).map λb=>.int (b:Nat):=by
 unfold ZR
 rw[Zuv,Zxu]
 exact Zv2 λb _=>by rw[Int.zero_add]
theorem Df  {lo hi p i:Nat}(h:Z0 x y lo hi=some p)(h1:lo<=i)(h2:i<p):¬y<+:x.drop i:=λhp=>by
 obtain⟨_,_,h4⟩:=ZvT.mp (h:ZqT _ _=_)
 have a2:=(YD h).2.1
 have:=h4 i h1 h2
 rw[decide_eq_true (oP (Zzg (Zzs h2) _) a2),show Gw x y i=true from Zy5.mpr hp] at this
 cases this
section
variable {T:List Nat}
theorem Vl  (hb:b+n<=T.length)(hp:p+n<=T.length):(T.drop b).take n<+:T.drop p<->Q2 T p b n:=by
 have:=BK hb hp
 rwa [Zye] at this
theorem E7  (h1:b+1<e)(h2:e<=T.length):(Zx1 (tx T) (tx ((T.take (e-1)).drop b))<(b:Int))<->V T b e:=by
 have h3:=Zq5 h1
 obtain⟨n,rfl⟩:=ZyV h3
 have en:b+n+1-1-b=n:=Zz2 b n
 have hb:b+n<=T.length:=Zyx h2
 have l:=UH hb
 have h0:=Nat.pos_of_lt_add_right (Zx4 h1)
 rw[Ms,en,find_eq (by rw[l];exact h0)]
 cases hf:Z0 T ((T.drop b).take n) 0 T.length with
 |none=>exact absurd ((Vl hb hb).mpr rfl) (Jh hf (Zz3 _) (by rw[l];exact hb))
 | some p=>
   obtain⟨_,a2,a3⟩:=YD hf
   rw[l] at a2
   show ((p:Int)<(b:Int))<->_
   constructor
   ·exact λh=>⟨h3,h2,.inr ⟨p,ZyC.mp h,en.symm ▸ (Vl hb a2).mp a3⟩⟩
   ·rintro⟨_,_,w |⟨p',w1,w2⟩⟩
    ·exact absurd (Zxz w) (ZzE (Zxo h0))
    ·rw[en] at w2
     exact ZyC.mpr (Zwe λhc=>Df hf (Zz3 _) (ZzI w1 hc) ((Vl hb (oP (Zzg (Zzs w1) n) hb)).mpr w2))
end
section
variable {c:Zzq}{b1:Int->Bool}{b3:Int->Option oO}{B:YM}{S:Sg}{T:List Nat}
theorem Vc.for{T:St}           {P:Nat->Zx->Prop}(h1:Y0 sc x=true)(h2:XF iter=true)(h3:isName iter=false)(h4:Y4 T.sg n sc σ true (.Name x p1) iter=some ds)
 (h5:P 0 σ) (h6:∀j d σ,ds[j]?=some d->P j σ->Runs T n sc (σ.set x (.val d)) body (P (j+1))) (h7:∀σ',P ds.length σ'->Vc T (n+1) sc σ' r D):Vc T (n+2) sc σ (.For (.Name x p1) iter body [] p2::r) D:=by
 obtain⟨σ',e,hp⟩:=DA (P:=P) h1 h2 h3 h4 h5 h6
 exact Vc.next e (h7 _ hp)
theorem jI       (hx:S.xe=Ak B S0 n0)(c:WM i=true)(h1:ev S n sc σ o=none)(g1:ev S0 n0 sc σ o=none):ev S (n+1) sc σ (.Subscript o i p)=none:=by
 refine uB c h1 ⟨?_⟩
 rw[hx]
 refine (Uz rfl).trans ((Uz ?_).trans rfl)
 show (if WM i=true then (ev S0 n0 sc σ o).bind _ else none)=none
 rw[g1];exact ite_self _
structure nE(σ:Zx)(T L:List Nat):Prop extends LsI T L where
 text:σ "text"=some (.val (.str (tx T)))
 least:σ "least"=some (.own (Z6 L))
noncomputable def Aa(T L:List Nat)(e b:Nat):Option PV:=if V T b e then some (.int (L.getD b 0:Nat)) else none
theorem MS  :(ZzW e).filterMap (Aa T L e)=(((ZzW e).filter λb=>decide (V T b e)).map λb=>L.getD b 0).map (λn:Nat=>PV.int (n:Int)):=by
 rw[ZyD,<-ZuY,List.filterMap_filter]
 congr 1
 funext b
 unfold Aa
 by_cases h:V T b e
 ·rw[if_pos h,if_pos (decide_eq_true h)];rfl
 ·rw[if_neg h,if_neg λq=>h (of_decide_eq_true q)]
theorem E9(H:Xm c b1 b3 B S)(hT:T.length<=100):∃L:List Nat,LsI T L/\L.length=T.length+1/\run S 20 ["least"] ["text"] [.val (.str (tx T))]=some (.lst (Z6 L)):=by
 suffices h:Vc (Tn S ["least"]) 60 (Yq 20) (Zd (λ_=>none) ["text"] [.str (tx T)]) (X6 20) λd=>∃L,(LsI T L/\L.length=T.length+1)/\d=.lst (Z6 L) by
  obtain⟨d,⟨l,⟨h1,h2⟩,rfl⟩,h3⟩:=h
  exact⟨l,h1,h2,X7 rfl h3⟩
 generalize hb:X6 20=b
 conv at hb=>lhs;whnf
 subst hb
 have m2:=H.len;have m3:=H.B6
 have fz:(tx T).length<=Zzx:=V2 hT oD
 have fl:((tx T).length:Int)=(T.length:Int):=by rw[Zn]
 refine Vc.next (σ':=(Zd (λ_=>none) ["text"] [.str (tx T)]).set "least" (.own [.int 0])) oW ?_
 have h0:nE ((Zd (λ_=>none) ["text"] [.str (tx T)]).set "least" (.own [.int 0])) T [0]:=⟨⟨rfl,λk a b=>absurd b (Zuu a),λb k hv hk=>absurd hv.1 (by rw[Nat.lt_one_iff.mp hk];exact Zwq _)⟩,J1 tT (N9 (Hj YG)),YG⟩
 have lx:S.cl "len" [.val (.str (tx T))]=some (.int T.length):=(m2 _).trans ((ID fz).trans (by rw[fl]))
 have i1:ZF (-(2 ^ 62)) (2 ^ 62) 1=true:=by decide
 have i2:ZF (-(2 ^ 62)) (2 ^ 62) ((T.length:Int)+1)=true:=Dh (n:=T.length+1) (oP (ZzX hT) oD)
 refine Vc.for (P:=λj σ=>∃L,nE σ T L/\L.length=j+1) (ds:=ZR 1 ((T.length:Int)+1)) rfl rfl rfl (zD tT oW i1 i2) ⟨[0],h0,rfl⟩ ?_ ?_
 ·rintro j d σ hj ⟨L,J,hl⟩
  obtain⟨rfl,q9⟩:=DU hj
  obtain⟨hI,s1,s2⟩:=J
  rw[Zwi] at q9
  have zP:j+1<=T.length:=ZyC.mp q9
  rw[show (1:Int)+(j:Int)=((j+1:Nat):Int) from ZwN _ _]
  have Cb:0<j+1:=Zxg j
  have zO:=oP zP hT
  clear hj q9
  generalize j+1=e at *
  have z1:(Z6 L).length<=Zzx:=by rw[Ue,hl];exact ZT (oP zO oD)
  have q1:(ZzW e).length<=Zzx:=by rw[ZyR];exact ZT (oP zO oD)
  have vl:V T (e-1) e:=⟨Zvf Cb ZvX,zP,.inl (Zxn Cb).symm⟩
  have ne:((ZzW e).filter λb=>decide (V T b e)).map (λb=>L.getD b 0)≠[]:=λh0=>by
   have:=Zw6.mp h0
   have hm:e-1∈(ZzW e).filter λb=>decide (V T b e):=Zuo.mpr ⟨ZxS.mpr vl.1,decide_eq_true vl⟩
   rw[this] at hm;cases hm
  obtain⟨m,em,ee,eh⟩:=OK ne
  obtain⟨b0,IS,eP⟩:=Zyi.mp ee
  have NF:=of_decide_eq_true (Zuo.mp IS).2
  have mn:=H.min (((ZzW e).filter λb=>decide (V T b e)).map (λb=>L.getD b 0) |>.map λn:Nat=>(n:Int)) (λh=>ne (Zw6.mp h))
  rw[em,ZyD] at mn
  have cm:S.cl "min" [.val (.lst ((ZzW e).filterMap (Aa T L e)))]=some (.int (m:Int)):=by rw[MS];exact mn
  have new:=hI.step (hl ▸ Cb) (m:=m) (b:=b0) (by rw[hl];exact NF) eP.symm (λb hv=>eh _ (Zyi.mpr ⟨b,Zuo.mpr ⟨ZxS.mpr (by rw[hl] at hv;exact hv.1),decide_eq_true (by rw[hl] at hv;exact hv)⟩,rfl⟩))
  have e1:(1:Int)+(m:Int)=((1+m:Nat):Int):=rfl
  have k1:(σ.set "end" (.val (.int e))).flat "end"=some (.val (.int e)):=Ad YG rfl
  have k2:(σ.set "end" (.val (.int e))).flat "least"=some (.own (Z6 L)):=Ad (J1 tT s2) rfl
  have k3:(σ.set "end" (.val (.int e))).flat "text"=some (.val (.str (tx T))):=Ad (J1 tT s1) rfl
  have i3:ZF (-(2 ^ 62)) (2 ^ 62) (e:Int)=true:=Dh (oP zO oD)
  refine Runs.next (σ':=(σ.set "end" (.val (.int e))).set "least" (.own (Z6 L++[.int ((1+m:Nat):Int)]))) (Mz ⟨rfl⟩ tT oW (X9 W4 (Yc tT (Yv tT (tY (f:=λb:Nat=>.int b) (l:=ZzW e) (Aa T L e) rfl (Wv ["end","least","text"] rfl (by
   show (((σ.set "end" (.val (.int e))).flat "end").isSome&&(((σ.set "end" (.val (.int e))).flat "least").isSome&&(((σ.set "end" (.val (.int e))).flat "text").isSome&&true)))=true
   rw[k1,k2,k3];rfl)) rfl ?_ q1 ?_ ?_ ?_) Xi) cm) (by rw[<-e1];exact Mk)) z1) (Runs.nil ⟨L++[1+m],⟨new,by walk_at "ex",by rw[DG];exact YG⟩,by rw[Zzd,hl];rfl⟩)
  ·rw[<-Mt]
   exact Hq tT oW i3
  ·intro b hb
   have hb:=ZxS.mp hb
   have it:ZO (.val (.lst (Z6 L))) (.int (b:Int))=some (.int (L.getD b 0:Nat)):=by
    rw[FQ (n:=b) I5 rfl (oP (Zzs hb) (oP zO oD)),Z6,Zyk,gD,gE (show b<L.length by rw[hl];exact hb)];rfl
   by_cases VU:b=e-1
   ·have hv:V T b e:=VU ▸ vl
    have ce:ZE .Eq (.val (.int (b:Int))) (.val (.int ((e:Int)-1)))=some true:=by rw[cP Cb];exact eqT VU
    rw[Aa,if_pos hv]
    exact B3 (JN (Dr oW)) oW
   ·have ce:ZE .Eq (.val (.int (b:Int))) (.val (.int ((e:Int)-1)))=some false:=by rw[cP Cb];exact yk VU
    have c2:YL (.val (.str (tx T))) (some (b:Int)) (some ((e:Int)-1))=some (.str (tx ((T.take (e-1)).drop b))):=(Q1 fz).trans (by rw[cP Cb,Xp,G3])
    have mf:S.mt "find" (.val (.str (tx T))) [.val (.str (tx ((T.take (e-1)).drop b)))]=some (.int (Zx1 (tx T) (tx ((T.take (e-1)).drop b)))):=(H.mt _ _ _).trans rfl
    have fv:=E7 (T:=T) (b:=b) (e:=e) (ZvK hb λq=>VU (ZuS q)) zP
    by_cases hv:V T b e
    ·have lt:ZE .Lt (.val (.int (Zx1 (tx T) (tx ((T.take (e-1)).drop b))))) (.val (.int (b:Int)))=some true:=congrArg some (decide_eq_true (fv.mpr hv))
     rw[Aa,if_pos hv]
     exact B3 (JN (VL oW (Dr oW))) oW
    ·have lt:ZE .Lt (.val (.int (Zx1 (tx T) (tx ((T.take (e-1)).drop b))))) (.val (.int (b:Int)))=some false:=congrArg some (decide_eq_false λh=>hv (fv.mp h))
     rw[Aa,if_neg hv]
     exact Gi (JN (VL oW (VL oW De)))
  ·intro b hb
   have hb:=ZxS.mp hb
   have hx:=H.xe
   by_cases VU:b=e-1
   ·have ce:ZE .Eq (.val (.int (b:Int))) (.val (.int ((e:Int)-1)))=some true:=by rw[cP Cb];exact eqT VU
    left
    exact TU (JN (Dr oW)) (jI hx tT oW oW)
   ·have ce:ZE .Eq (.val (.int (b:Int))) (.val (.int ((e:Int)-1)))=some false:=by rw[cP Cb];exact yk VU
    have c2:YL (.val (.str (tx T))) (some (b:Int)) (some ((e:Int)-1))=some (.str (tx ((T.take (e-1)).drop b))):=(Q1 fz).trans (by rw[cP Cb,Xp,G3])
    have mf:S.mt "find" (.val (.str (tx T))) [.val (.str (tx ((T.take (e-1)).drop b)))]=some (.int (Zx1 (tx T) (tx ((T.take (e-1)).drop b)))):=(H.mt _ _ _).trans rfl
    have fv:=E7 (T:=T) (b:=b) (e:=e) (ZvK hb λq=>VU (ZuS q)) zP
    by_cases hv:V T b e
    ·have lt:ZE .Lt (.val (.int (Zx1 (tx T) (tx ((T.take (e-1)).drop b))))) (.val (.int (b:Int)))=some true:=congrArg some (decide_eq_true (fv.mpr hv))
     left
     exact TU (JN (VL oW (Dr oW))) (jI hx tT oW oW)
    ·have lt:ZE .Lt (.val (.int (Zx1 (tx T) (tx ((T.take (e-1)).drop b))))) (.val (.int (b:Int)))=some false:=congrArg some (decide_eq_false λh=>hv (fv.mp h))
     right
     rw[Aa,if_neg hv]
     exact Gi (JN (VL oW (VL oW De)))
  ·rw[MS,ZvE];exact ZzD.mpr λ_ _=>rfl
 ·rintro σ ⟨L,J,hl⟩
  rw[GV,Zwi,Zxu] at hl
  have s2:=J.least
  exact⟨_,⟨L,⟨J.toLsI,hl⟩,rfl⟩,Gives.ret (VM (zF oW oW))⟩
end
theorem Tx:∀(l:List oO) (n s m:Nat),(∀x∈l,x.length<=m)->l.foldl (λacc x=>acc+x.length+s) n<=n+l.length*(m+s)
 |[],n,s,m,_=>by simp
 | x::l,n,s,m,h=>by
   have h1:=h x (.head _)
   have:=Tx l (n+x.length+s) s m λy hy=>h y (.tail _ hy)
   rw[Zxh,Zyw,Zu0,ZzT (l.length*_),<-ZzA]
   exact oP this (Zzg (by rw[ZzA];exact Zzr (Zzg h1 s) n) _)
theorem F8   (hs:sep.length<=100)(hl:l.length<=200)(h:∀x∈l,x.length<=400):Zvg sep l=true:=by
 have h1:=Tx l 0 sep.length 400 h
 have h2:l.length*(400+sep.length)<=200*500:=Nat.mul_le_mul hl (Zzr hs 400)
 have h3:l.toArray.foldl (λacc x=>acc+x.length+sep.length) 0=l.foldl (λacc x=>acc+x.length+sep.length) 0:=by simp
 unfold Zvg Builtin.Str.tooLong
 rw[h3,Zyj,decide_eq_false_iff_not,ZzS]
 exact Zwr.mpr (oP h1 (by rw[ZzP];exact Zm h2))
noncomputable def dg(n:Nat):List Nat:=Zk (ZzB (toString (n:Int)))
theorem Vj:∀n,n<100->(dg n).length<=2/\0<(dg n).length/\∀c∈dg n,48<=c/\c<=57:=by decide
theorem RT(n:Nat):ZzB (toString (n:Int))=tx (dg n):=(kH _).symm
theorem CU{n:Nat}(h:n<100):NR [.val (.int n)]=some (.str (tx (dg n))):=by
 rw[<-RT]
 exact if_pos (Zz4 (Nat.log2_le_self _) (ZzI h (oD:100<=1920)))
theorem E1  (h:n<100):Mx [.val (.str (tx (dg n)))]=some (.int n):=by
 have h1:=KIN.num_reads (n:=(n:Int)) (ZzJ n) (Int.lt_of_lt_of_le (ZyC.mpr h) oD)
 rw[RT] at h1
 show (if (tx (dg n)).length<=640 then (ZuX (tx (dg n))).map PV.int else none)=_
 rw[if_pos (by rw[Zn];exact Zm (Vj n h).1),h1];rfl
def Vn(p z:Nat):List Nat:=Zk "whole; read-from=\""++(dg p++(Zk "\"; read-size=\""++(dg z++Zk "\"")))
def Jj(p z:Nat):List Nat:=Zk "read-from=\""++(dg p++(Zk "\"; read-size=\""++(dg z++Zk "\"; lapping")))
theorem Mh(x y z:oO)(hy:0<y.length):Zyd x y z=if ((occs (Zk x) (Zk y) x.length (x.length+1) 0).isEmpty||(y.length==0&&z.length==0))=true then x else Builtin.Str.glued z (Zz7 x (occs (Zk x) (Zk y) x.length (x.length+1) 0) y.length):=by
 unfold Zyd;rw[occ_eq _ _ _ _ _ hy]
theorem rep1:Zyd "read_from" "_" "-"="read-from":=(Mh _ _ _ oD).trans (Wn oD)
theorem rep2:Zyd "read_size" "_" "-"="read-size":=(Mh _ _ _ oD).trans (Wn oD)
theorem rep3:Zyd "lapping" "_" "-"="lapping":=(Mh _ _ _ oD).trans (Wn oD)
def Dp(p z:Nat):List (oO × Option oO):=[("read_from",some (tx (dg p))),("read_size",some (tx (dg z)))]
theorem vR(p z:Nat):V1 (some "whole") (Dp p z)=tx (Vn p z):=Wn (by
 show Zk (Zy4 "; " ["whole",fmt (Zyd "read_from" "_" "-") (tx (dg p)),fmt (Zyd "read_size" "_" "-") (tx (dg z))])=_
 rw[VE,rep1,rep2,Zp]
 simp only[ZzG,Zxw,YC,fmt,YK,Zp,Vn]
 simp only[Zzo]
 rfl)
theorem dM(p z:Nat):V1 none (Dp p z++[(("lapping":oO),none)])=tx (Jj p z):=Wn (by
 show Zk (Zy4 "; " [fmt (Zyd "read_from" "_" "-") (tx (dg p)),fmt (Zyd "read_size" "_" "-") (tx (dg z)),Zyd "lapping" "_" "-"])=_
 rw[VE,rep1,rep2,rep3,Zp]
 simp only[ZzG,Zxw,YC,fmt,YK,Zp,Jj]
 simp only[Zzo]
 rfl)
theorem GJ  (h:∀c∈Zk x,good c)(hl:x.length<=1000):Xe x:=⟨h,by
 exact Zz4 hl oD⟩
theorem Kh  (h:(Zk x).all (λc=>decide (32<=c/\c≠127))=true)(hl:x.length<=1000):Xe x:=GJ (λc hc=>show 32<=c/\c≠127 from of_decide_eq_true (ZzD.mp h c hc)) hl
theorem i6  (h:n<100):Xe (tx (dg n)):=GJ (λc hc=>by
 rw[Zp] at hc
 have:=(Vj n h).2.2 c hc
 exact⟨oP oD this.1,ZzR (Zz4 this.2 oD)⟩) (by rw[Zn];exact Zm (Vj n h).1)
theorem Ly   (hy:Zk y=[c])(h:c∉Zk x):QW x y:=by
 unfold QW
 have hl:y.length=1:=by rw[<-ZJ,hy];rfl
 rw[occ_eq _ _ _ _ _ (by rw[hl];decide),hy]
 have:Z0 (Zk x) [c] 0 x.length=none:=by
  cases hf:Z0 (Zk x) [c] 0 x.length with
  |none=>rfl
  | some p=>
    have:=(YD hf).2.2
    exact absurd (Zyl (this.subset (.head _))) h
 rw[Vs this];rfl
theorem Eu   (h:n<100)(h1:Xe nm)(h2:nm.length<=1000)(h3:(Zyd nm "_" "-").length<=1000000):JW (nm,some (tx (dg n))):=⟨h1,h2,h3,λt ht=>by
 cases ht
 have d:=Vj n h
 refine⟨i6 h,by rw[Zn];exact Zm d.1,by rw[Zn];exact d.2.1,Ly (c:=92) rfl ?_,Ly (c:=34) rfl ?_⟩
 ·rw[Zp];exact λm=>absurd (d.2.2 _ m).2 oD
 ·rw[Zp];exact λm=>absurd (d.2.2 _ m).1 oD⟩
theorem Ew  (h:n<100):JW ("read_from",some (tx (dg n))):=Eu h (Kh oD oD) oD (by rw[rep1];decide)
theorem Ey  (h:n<100):JW ("read_size",some (tx (dg n))):=Eu h (Kh oD oD) oD (by rw[rep2];decide)
theorem wX:JW ("lapping",none):=⟨show Xe "lapping" from Kh oD oD,by decide,by rw[show ((("lapping":oO),(none:Option oO)).1)="lapping" from rfl,rep3];decide,λt ht=>by cases ht⟩
section
variable {l:List (oO × oO)}{nm:oO}{p z:Nat}(hl:l.length<=1000)(hn:Xe nm)
include hl hn
theorem vC:U2 l nm (some "new") [] where
 len:=ZT (Zm hl)
 name:=hn
 zI:=λt ht=>by cases ht;exact Kh oD oD
 Ac:=λp h=>by cases h
 few:=.inl rfl
 join:=by decide
omit hl hn in
theorem F9{x:oO}{n:Nat}(hx:x.length<=300)(h:n<100):(fmt x (tx (dg n))).length<=400:=by
 unfold fmt
 rw[len_app,len_app,len_app,Zn]
 have:=(Vj n h).1
 exact Zm (Zyy (Zyy (Zyy hx (show (ZzB "=\"").length<=2 from Zz1 _)) this) (show (ZzB "\"").length<=1 from Zz1 _))
variable (hp:p<100)(hz:z<100)
include hp hz
theorem Pw:U2 l nm (some "whole") (Dp p z) where
 len:=ZT (Zm hl)
 name:=hn
 zI:=λt ht=>by cases ht;exact Kh oD oD
 Ac:=Zi (Ew hp) (Zi (Ey hz) YT)
 few:=.inr (.inl rfl)
 join:=F8 oD (show 3<=200 by decide) (show ∀x∈[("whole":oO),fmt (Zyd "read_from" "_" "-") (tx (dg p)),fmt (Zyd "read_size" "_" "-") (tx (dg z))],x.length<=400 from by
  rw[rep1,rep2]
  exact Zi oD (Zi (F9 oD hp) (Zi (F9 oD hz) YT)))
theorem vB:U2 l nm none (Dp p z++[(("lapping":oO),none)]) where
 len:=ZT (Zm hl)
 name:=hn
 zI:=λt ht=>by cases ht
 Ac:=Zi (Ew hp) (Zi (Ey hz) (Zi wX YT))
 few:=.inr (.inr rfl)
 join:=F8 oD (show 3<=200 by decide) (show ∀x∈[fmt (Zyd "read_from" "_" "-") (tx (dg p)),fmt (Zyd "read_size" "_" "-") (tx (dg z)),Zyd "lapping" "_" "-"],x.length<=400 from by
  rw[rep1,rep2,rep3]
  exact Zi (F9 oD hp) (Zi (F9 oD hz) (Zi oD YT)))
end
def pl(T:List Nat)(b n:Nat):Nat:=(Z0 T ((T.drop b).take n) 0 T.length).getD 0
section
variable {T:List Nat}{b e:Nat}
theorem Kl  (hv:V T b (b+n+1))(h:0<n):Z0 T ((T.drop b).take n) 0 T.length=some (pl T b n)/\pl T b n<b/\Q2 T (pl T b n) b n/\∀p,Q2 T p b n->p+n<=T.length->pl T b n<=p:=by
 obtain⟨v1,v2,v3⟩:=hv
 have hb:b+n<=T.length:=Zyx v2
 have l:=UH hb
 rcases v3 with v3 |⟨p,hp,ho⟩
 ·exact absurd (Zxz v3) (ZzE (Zxo h))
 ·rw[show b+n+1-1-b=n from Zz2 b n] at ho
  have qb:=oP (Zzg (Zzs hp) n) hb
  cases hf:Z0 T ((T.drop b).take n) 0 T.length with
  |none=>exact absurd ((Vl hb qb).mpr ho) (Jh hf (Zz3 _) (by rw[l];exact qb))
  | some q=>
    have eq:pl T b n=q:=by unfold pl;rw[hf];rfl
    rw[eq]
    obtain⟨_,a2,a3⟩:=YD hf
    rw[l] at a2
    have mn:∀p,Q2 T p b n->p+n<=T.length->q<=p:=λp ho hp=>Zym λhc=>Df hf (Zz3 _) hc ((Vl hb hp).mpr ho)
    exact⟨rfl,Zz4 (mn p ho qb) hp,(Vl hb a2).mp a3,mn⟩
end
def Mv(T:List Nat)(b n:Nat):Bool:=decide (pl T b n+n<=b)
theorem BI  (h:b<a):0<a-b:=ZwE h
theorem Lr{e L:Nat}(h:e<=L):L-(L-e)=e:=Zuj h
section
variable {c:Zzq}{b1:Int->Bool}{b3:Int->Option oO}{B:YM}{S:Sg}{T:List Nat}{b n:Nat}
variable (hM:Gq c b1 b3 B S)(hd:46∉T)(hT:T.length<=100)(hv:V T b (b+n+1))(hn:0<n)
include hM hd hT hv hn
theorem fY:S.cl "_ellipsis_match" [.val (.str (Zy4 "..." [tx (T.take (pl T b n+n)),tx (T.drop b)])),.val (.str (tx T))]=some (.bool (Mv T b n)):=by
 obtain⟨_,p1,p2,_⟩:=Kl hv hn
 have v2:=hv.2.1
 have hb:b<T.length:=ZzI hv.1 v2
 have hp:pl T b n+n<=T.length:=oP (Zzg (Zzs p1) n) (Zyx v2)
 have l1:(T.take (pl T b n+n)).length=pl T b n+n:=Zyc hp
 have l2:(T.drop b).length=T.length-b:=ZzM
 rw[hM,pJ (n:=100) Gk.toTab1 oD (W7 (λm=>hd (Zy8 m)) (by rw[l1];exact oP hp hT)) (W7 (λm=>hd (Zyl m)) (by rw[l2];exact oP (Zyo _ _) hT)) (W7 hd hT) (by rw[Zn,l1];exact ZzI hn (ZzV _ _)) (by rw[Zn,l2];exact BI hb),Ao,Fd,
  decide_eq_true (ZqX _ _),decide_eq_true (Zvx _ _),Zn,Zn,Zn,l1,l2,ZxI,ZxI]
 exact congrArg _ (congrArg _ (decide_eq_decide.mpr (ox (Zzs hb))))
theorem fZ:S.cl "_ellipsis_match" [.val (.str (Zy4 "..." ["",tx ((T.drop b).take n),tx (T.drop b)])),.val (.str (tx T))]=some (.bool (Mv T b n)):=by
 obtain⟨_,p1,p2,p3⟩:=Kl hv hn
 have v2:=hv.2.1
 have hb:b<T.length:=ZzI hv.1 v2
 have Hc:b+n<=T.length:=Zyx v2
 have l:=UH Hc
 have l2:(T.drop b).length=T.length-b:=ZzM
 rw[hM,pG (n:=100) Gk.toTab1 oD (W7 (λm=>hd (Zyl (Zy8 m))) (by rw[l];exact oP (ZzV n b) (oP Hc hT))) (W7 (λm=>hd (Zyl m)) (by rw[l2];exact oP (Zyo _ _) hT)) (W7 hd hT) (by rw[Zn,l];exact hn) (by rw[Zn,l2];exact BI hb)
  (by rw[Fd];exact decide_eq_true (Zvx _ _)),Zp,Zp,Zn,Zn,l2,Lr (Zzs hb)]
 have fi:=M7 (T:=T) (b:=b) (n:=n) (lo:=0) (hi:=b) (h:=T.length) Hc (Zzs hb)
 rw[Zye] at fi
 refine congrArg _ (congrArg _ (ZwX.mpr (fi.trans (Iff.trans ?_ decide_eq_true_iff.symm))))
 exact⟨λ⟨p,_,q1,q2⟩=>oP (Zzg (p3 p q2 (oP q1 (Zzs hb))) n) q1,λh=>⟨_,Zz3 _,h,p2⟩⟩
theorem f9:S.cl "_ellipsis_match" [.val (.str (Zy4 "..." ["",tx ((T.drop b).take n),tx ((T.drop b).take n),tx (T.drop (b+n))])),.val (.str (tx T))]=some (.bool (Mv T b n)):=by
 obtain⟨_,p1,p2,p3⟩:=Kl hv hn
 have Hc:b+n<T.length:=hv.2.1
 have Cn:=Zzs Hc
 have l:=UH Cn
 have l2:(T.drop (b+n)).length=T.length-(b+n):=ZzM
 have pn:=Zzg (Zzs p1) n
 rw[hM,pB (n:=100) Gk.toTab1 oD (W7 (λm=>hd (Zyl (Zy8 m))) (by rw[l];exact oP (ZzV n b) (oP Cn hT))) (W7 (λm=>hd (Zyl m)) (by rw[l2];exact oP (Zyo _ _) hT)) (W7 hd hT) (by rw[Zn,l];exact hn) (by rw[Zn,l2];exact BI Hc)
  (by rw[Fd];exact decide_eq_true (Zvx _ _)),Zn,Zn,l2,Lr Cn]
 have f1:Z0 T ((T.drop b).take n) 0 (b+n)=some (pl T b n):=Bz (Zz3 _) (by rw[l];exact pn) ((Vl Cn (oP pn Cn)).mpr p2) λi _ hi hp=>by
  have Jy:=oP (Zzg (Zzs hi) n) (oP pn Cn)
  exact ZvM.mpr hi (p3 i ((Vl Cn Jy).mp hp) Jy)
 unfold G8
 rw[Zp,Zp,f1]
 show some (PV.bool (Z0 T ((T.drop b).take n) (pl T b n+(tx ((T.drop b).take n)).length) (b+n)).isSome)=_
 rw[Zn,l]
 have fi:=M7 (T:=T) (b:=b) (n:=n) (lo:=pl T b n+n) (hi:=b+n) (h:=T.length) Cn Cn
 rw[Zye] at fi
 refine congrArg _ (congrArg _ (ZwX.mpr (fi.trans (Iff.trans ?_ decide_eq_true_iff.symm))))
 exact⟨λ⟨p,q0,q1,q2⟩=>oP q0 (Nat.le_of_add_le_add_right q1),λh=>⟨b,h,Zz1 _,rfl⟩⟩
end
theorem mF         (hc:(Y0 sc x&&ZI sc "Headers"&&!ow.contains x)=true)(h0:S.cl "Headers" []=none)(hx:Rf (S.xe sc σ (.Call (.Name "Headers" p2) [] [] p3)) none):
 XD ⟨S,ow,Rg c zC S' 30 sc,wf⟩ (n+3) sc σ (.Assign [.Name x p1] (.Call (.Name "Headers" p2) [] [] p3) q)=some (.Z2,σ.set x (.tab c [])):=by
 obtain⟨hc,c3⟩:=(ZzQ _ _).mp hc
 obtain⟨c1,c2⟩:=(ZzQ _ _).mp hc
 have e0:ev S (n+2) sc σ (.Call (.Name "Headers" p2) [] [] p3)=none:=by
  refine (Uz ?_).trans hx.h
  show (if (Yl "Headers"&&ZI sc "Headers"&&decide (0<29))=true then (Y3 S (n+1) sc σ []).bind λas=>(S.cl "Headers" as).map AV.val else none)=none
  rw[c2]
  refine (if_pos rfl).trans ?_
  show (S.cl "Headers" []).map AV.val=none
  rw[h0];rfl
 refine (Uz ?_).trans (V9 ?_)
 ·refine (if_pos c1).trans ((if_neg (ne_true_of_eq_false ((Zyj _).mp c3))).trans ((if_pos rfl).trans ?_))
  show (ev S (n+2) sc σ (.Call (.Name "Headers" p2) [] [] p3)).bind _=none
  rw[e0];rfl
 ·show (if (true&&(true&&(("Headers":oO)=="Headers"&&(Y0 sc x&&ZI sc "Headers"))))=true then some (Z7.Z2,σ.set x (.tab c [])) else none)=_
  rw[c1,c2];exact if_pos oD
theorem PQ                (hc:(Yl x&&(notStar e1&&(notStar e2&&p2.endLine==p3.line)))=true)
 (h0:σ x=some (.tab c (pairs l))) (h1:ev S' 30 sc σ.flat e1=some (.val (.str nm))) (h2:ev S' 30 sc σ.flat e2=some a) (yv:QJ a=some val) (h3:Cf S' 30 sc σ.flat WZ=some ps) (hL:U2 l nm val ps):
 XD ⟨S,ow,Rg c zC S' 30 sc,wf⟩ (n+1) sc σ (.Expr (.Call (.Attribute (.Name x p1) "add_header" p2) [e1,e2] WZ p3) q)=some (.Z2,σ.set x (.tab c (pairs (l++[(nm,V1 val ps)])))):=by
 show (if (("add_header":oO)==("add_header":oO)&&(Yl x&&(notStar e1&&(notStar e2&&p2.endLine==p3.line))))=true then ((σ x).bind N4).bind λtb=>(UM tb.2).bind λq=>((ev S' 30 sc σ.flat e1).bind Yw).bind λnm=>((ev S' 30 sc σ.flat e2).bind QJ).bind λval=>(Cf S' 30 sc σ.flat WZ).bind λps=>
  if tb.1=c/\U2 q nm val ps then some (Z7.Z2,σ.set x (.tab c (pairs (q++[(nm,V1 val ps)])))) else none else none)=_
 rw[hc]
 refine (if_pos oD).trans ?_
 rw[h0,h1,h2,h3]
 show ((UM (pairs l)).bind λq=>(QJ a).bind λval=>if c=c/\U2 q nm val ps then some (Z7.Z2,σ.set x (.tab c (pairs (q++[(nm,V1 val ps)])))) else none)=_
 rw[IY,yv];exact if_pos ⟨rfl,hL⟩
theorem PW    :Cf S n sc σ []=some []:=rfl
theorem NO            (h1:ev S n sc σ e=some a)(h2:QJ a=some v)(h3:Cf S n sc σ r=some ps):Cf S n sc σ (⟨some x,e,p⟩::r)=some ((x,v)::ps):=by
 show ((ev S n sc σ e).bind QJ).bind (λv=>(Cf S n sc σ r).map ((x,v)::·))=_
 rw[h1,Zzb,h2,h3];rfl
def XE(T:List Nat)(b n:Nat):oO:=if n=0 then "new" else if pl T b n+n<=b then tx (Vn (pl T b n) n) else tx (Jj (pl T b n) n)
noncomputable def VZ(gr:Nat->Nat)(j ch:Nat):Nat:=if j%2=0 then ch else gr ch
def ent(T:List Nat)(gr:Nat->Nat)(l:List Nat)(j:Nat):oO × oO:=(tx [VZ gr j (T.getD (l.getD j 0-1) 0)],XE T ((0::l).getD j 0) (l.getD j 0-1-(0::l).getD j 0))
theorem Ib    (h:Chain T b l):∀j,j<l.length->B9 T ((b::l).getD j 0) (l.getD j 0):=by
 induction h with
 |done _=>exact λj hj=>absurd hj (Zwq _)
 | step m _ ih=>exact λj hj=>match j,hj with
   |0,_=>m
   |j+1,hj=>ih j (Zx4 hj)
structure RI(σ:Zx)(c:Zzq)(B:YM)(T l:List Nat)(ks:List oO)(vs:List PV)(gr:Nat->Nat)(j:Nat):Prop where
 text:σ "text"=some (.val (.str (tx T)))
 great:σ "great"=some (.val (.box B ks vs))
 table:σ "table"=some (.tab c (pairs ((ZzW j).map (ent T gr l))))
section
variable {c:Zzq}{b1:Int->Bool}{b3:Int->Option oO}{B:YM}{S:Sg}{T:List Nat}{l:List Nat}{ks:List oO}{vs:List PV}{gr:Nat->Nat}
theorem item_at  (hj:j<T.length)(hT:T.length<=100):ZO (.val (.str (tx T))) (.int (j:Int))=some (.str (tx [T.getD j 0])):=by
 rw[PC]
 refine (if_pos (m7 (Zm (oP (Zzs hj) hT)))).trans ?_
 have:seqIndex? (j:Int) (tx T).length=some j:=by
  rw[Zn]
  exact (congrArg (λi:Int=>if 0<=i&&i<T.length then some i.toNat else none) (if_neg (Zx5.mpr (ZzJ j)))).trans (if_pos (Zyb.mpr ⟨decide_eq_true (ZzJ j),decide_eq_true (ZyC.mpr hj)⟩))
 rw[this,Zzb]
 show ((T.toArray)[j]?).map _=_
 rw[ZuJ,gD,gE hj];rfl
theorem wW  (hl:q.length<=100)(h1:∀x∈q,x.1.length<=100/\x.2.length<=100):Jb q where
 len:=ZT (Zm (Zzg hl 2))
 each:=λx hx=>⟨Zm (h1 x hx).1,Zm (h1 x hx).2⟩
 join:=F8 oD (by unfold WB;rw[Zzd,Zzm];exact Zm (Zzg hl 2)) λx hx=>by
  rcases ZyN.mp hx with hx |hx
  ·obtain⟨y,hy,rfl⟩:=Zyi.mp hx
   have:=h1 y hy
   unfold We
   rw[len_app,len_app,show (ZzB ": ").length=2 from rfl]
   exact Zm (Zyy (Zzg this.1 2) this.2)
  ·exact Zi (P:=λx:oO=>x.length<=400) oD (Zi oD YT) x hx
theorem Ma  (h1:p<100)(h2:n<100):(Vn p n).length<=37:=
 Xc (show (Zk "whole; read-from=\"").length<=18 from Zz1 _) (Xc (Vj _ h1).1 (Xc (show (Zk "\"; read-size=\"").length<=14 from Zz1 _) (Xc (Vj _ h2).1 (show (Zk "\"").length<=1 from Zz1 _))))
theorem BH  (h1:p<100)(h2:n<100):(Jj p n).length<=39:=
 Xc (show (Zk "read-from=\"").length<=11 from Zz1 _) (Xc (Vj _ h1).1 (Xc (show (Zk "\"; read-size=\"").length<=14 from Zz1 _) (Xc (Vj _ h2).1 (show (Zk "\"; lapping").length<=10 from Zz1 _))))
theorem Hp  (h1:pl T b n<100)(h2:n<100):(XE T b n).length<=100:=by
 unfold XE
 split
 ·decide
 ·split
  ·rw[Zn];exact Zm (Ma h1 h2)
  ·rw[Zn];exact Zm (BH h1 h2)
theorem Iz  (hv:V T b (b+n+1))(hT:T.length<=63):pl T b n<100/\n<100:=by
 refine⟨?_,Zz4 (oP (ZzV n b) (oP (Zyx hv.2.1) hT)) oD⟩
 unfold pl
 cases h:Z0 T ((T.drop b).take n) 0 T.length with
 |none=>exact (oD:0<100)
 |some p=>exact Zz4 (oP (Zzt p _) (oP (YD h).2.1 hT)) oD
end
theorem CS       (hl:as.length=xs.length)(h:Gives (Th c S ow (Yq i)) 60 (Yq i) (Zd (λ_=>none) xs (as.map AV.pv)) (X6 i) d):TV c S i ow xs as=some d:=by
 obtain⟨σ',e⟩:=h
 exact (if_pos hl).trans (congrArg (λo:Option (Z7 × Zx)=>o.bind λp=>Nd p.1) e)
theorem Vr    (h:Chain T b l):b<=T.length->b+l.length<=T.length:=by
 induction h with
 |done _=>exact λh=>h
 | step m _ ih=>
   intro _
   exact Zyq _ _ ▸ oP (Zzg m.1.1 _) (ih m.1.2.1)
theorem y5          (c:ZI sc "zip"=true)(h:Y3 S n sc σ args=some [.val (.lst l),.val (.lst m)]):Y4 S (n+1) sc σ true (.Tuple [.Name x p1,.Name y p2] k p3) (.Call (.Name "zip" p) args [] q)=some (VD l m):=by
 refine V9 (show (if ZI sc "zip" then (Y3 S n sc σ args).bind (zip2 true) else none)=_ from ?_)
 rw[if_pos c,h];rfl
theorem RC    (h:(VD (Z6 (0::l)) (Z6 l))[j]?=some d):j<l.length/\d=.tup [.int ((0::l).getD j 0:Nat),.int (l.getD j 0:Nat)]:=by
 unfold VD Z6 at h
 rw[List.zipWith_map,Zvq] at h
 have hj:j<l.length:=by
  by_cases hc:j<l.length
  ·exact hc
  ·rw[Zwn (l:=l) (Zym hc)] at h
   cases h0:(0::l)[j]?<;>rw[h0] at h<;>cases h
 refine⟨hj,?_⟩
 rw[gD,gD]
 rw[gE hj,gE (l:=0::l) (ZyG hj)] at h ⊢
 exact (Zzv h).symm
theorem xE :(VD (Z6 (0::l)) (Z6 l)).length=l.length:=by
 unfold VD;rw[Zqu,Ue,Ue];exact Zxy (ZxT _)
theorem Runs.aI         (h1:YW T.sg n sc σ t=some false)(h2:Runs T n sc σ RU R)(h3:∀σ,R σ->Runs T (n+1) sc σ r Q):Runs T (n+2) sc σ (.If t body RU p::r) Q:=by
 obtain⟨σ',e,q⟩:=h2
 exact Runs.next (σ':=σ') (WX h1 e) (h3 _ q)
theorem Runs.qw         (h1:YW T.sg n sc σ t=some true)(h2:Runs T n sc σ body R)(h3:∀σ,R σ->Runs T (n+1) sc σ r Q):Runs T (n+2) sc σ (.If t body RU p::r) Q:=by
 obtain⟨σ',e,q⟩:=h2
 exact Runs.next (σ':=σ') (Um h1 e) (h3 _ q)
theorem Kd    (x:oO)(h:(scope.names.all λy=>y.2 != .free||([x].contains y.1&&(sc.names.lookup y.1==some .cell||sc.names.lookup y.1==some .free)))=true)(hx:σ x=some a):Vb scope sc σ=true:=Wv [x] h (by rw[ZyF,hx];rfl)
theorem fq(l:List oO):(l.map PV.str).mapM U0=some l:=by
 induction l with
 |nil=>rfl
 |cons x l ih=>rw[ZzG,Zx3,ih];rfl
theorem iV   (h:Zvg x l=true):I1 "join" (.val (.str x)) [.val (.lst (l.map .str))]=some (.str (Zy4 x l)):=by
 show ((l.map PV.str).mapM U0).bind (λys=>if Zvg x ys=true then some (PV.str (Zy4 x ys)) else none)=_
 rw[fq];exact if_pos h
section
variable {c:Zzq}{b1:Int->Bool}{b3:Int->Option oO}{B:YM}{S:Sg}{T:List Nat}{l:List Nat}{ks:List oO}{vs:List PV}{gr:Nat->Nat}
set_option maxHeartbeats 2000000 in
theorem dO(H:Xm c b1 b3 B S)(hM:Gq c b1 b3 B S)(hd:46∉T)(hT:T.length<=63)(hc:Chain T 0 l)(eU:∀ch∈T,FO ks vs (tx [ch])=some (.str (tx [gr ch])))
 (IM:∀ch∈T,good ch/\good (gr ch)):TV c S 21 [] ["text","ends","great"] [.val (.str (tx T)),.val (.lst (Z6 (0::l))),.val (.box B ks vs)]=some (.str (X0 ((ZzW l.length).map (ent T gr l)))):=by
 refine CS rfl ?_
 generalize hb:X6 21=b
 conv at hb=>lhs;whnf
 subst hb
 have m2:=H.len;have hx:=H.xe
 have lc:=Vr hc (Zz3 _)
 have fz:(tx T).length<=Zzx:=V2 hT oD
 have zM:l.length<=63:=oP (ZzP l.length ▸ lc) hT
 have nz:(Z6 (0::l)).length<=Zzx:=by rw[Ue];exact ZT (Zm (ZzX zM))
 have z1:Yk (some 1) none (Z6 (0::l))=Z6 l:=(Uw (i:=1)).trans rfl
 have uI:YL (.val (.lst (Z6 (0::l)))) (some 1) none=some (.lst (Z6 l)):=(Af nz).trans (by rw[z1])
 refine Gives.next (mF tT H.hd ⟨by rw[hx];rfl⟩) ?_
 refine Gives.PR (ds:=VD (Z6 (0::l)) (Z6 l)) (P:=λj σ=>RI σ c B T l ks vs gr j) tT tT rfl ?_ ⟨by walk_at "ex",by walk_at "ex",YG⟩ ?_ ?_
 ·exact y5 tT oW
 ·rintro j d σ hj ⟨s1,s2,s3⟩
  obtain⟨IH,rfl⟩:=RC hj
  refine⟨_,_,rfl,?_⟩
  have hv:=(Ib hc j IH).1
  have Q7:ent T gr l j=(tx [VZ gr j (T.getD (l.getD j 0-1) 0)],XE T ((0::l).getD j 0) (l.getD j 0-1-(0::l).getD j 0)):=rfl
  generalize (0::l).getD j 0=b at *
  generalize l.getD j 0=e at *
  obtain⟨n,rfl⟩:=ZyV hv.1
  have v2:=hv.2.1
  have en:b+n+1-1-b=n:=Zz2 b n
  rw[en] at Q7
  have e2:((b+n+1:Nat):Int)-1=((b+n:Nat):Int):=Zwi ((b+n:Nat):Int) 1
  have i1:ZO (.val (.str (tx T))) (.int (((b+n+1:Nat):Int)-1))=some (.str (tx [T.getD (b+n) 0])):=by rw[e2];exact item_at v2 (Zm hT)
  have c2:YL (.val (.str (tx T))) (some (b:Int)) (some (((b+n+1:Nat):Int)-1))=some (.str (tx ((T.drop b).take n))):=(Q1 fz).trans (by rw[e2,Xp,G3,Ms,Zz2])
  have Ca:T.getD (b+n) 0∈T:=by rw[gD,gE v2];exact Zvv _
  have Q7:ent T gr l j=(tx [VZ gr j (T.getD (b+n) 0)],XE T b n):=Q7
  have a3:YL (.val (.str (tx T))) (some (((b+n+1:Nat):Int)-1)) none=some (.str (tx (T.drop (b+n)))):=(Q1 fz).trans (by rw[e2,Xp,Uw])
  clear e2
  generalize T.getD (b+n) 0=ch at *
  generalize yx:(T.drop b).take n=ah at *
  have la:ah.length=n:=by rw[<-yx,UH (Zyx v2)]
  have au:n<=63:=oP (ZzV n b) (oP (Zyx v2) hT)
  refine Runs.next (Cg (xs:=["letter","ahead"]) (ds:=[.str (tx [ch]),.str (tx ah)]) ⟨rfl⟩ ⟨rfl⟩ tT oW ⟨rfl⟩) ?_
  have mf:S.mt "find" (.val (.str (tx T))) [.val (.str (tx ah))]=some (.int (Zx1 (tx T) (tx ah))):=(H.mt _ _ _).trans rfl
  have rY:Ul [.val (.str (tx ah))]=some (.int (ah.length:Int)):=(ID (V2 (n:=100) (by rw[la];exact Zm au) oD)).trans (by rw[Zn])
  have ml:=(m2 _).trans rY
  refine Runs.next (Cg (xs:=["place","size"]) (ds:=[.int (Zx1 (tx T) (tx ah)),.int (ah.length:Int)]) ⟨rfl⟩ ⟨rfl⟩ tT oW ⟨rfl⟩) ?_
  have pn:(pairs ((ZzW j).map (ent T gr l))).length=j:=by rw[pairs,Zzm,Zzm,ZyR]
  have mt:S.cl "len" [.tab c (pairs ((ZzW j).map (ent T gr l)))]=some (.int (j:Int)):=(H.Gb _ (by rw[pn];exact ZT (oP (Zzs IH) (Zm zM)))).trans (by rw[pn])
  have uE:=md (y:=2) 2 rfl oD j
  have NY:ZO (.val (.lst [.str (tx [ch]),.str (tx [gr ch])])) (.int ((j%2:Nat):Int))=some (.str (tx [VZ gr j ch])):=(HB I5).trans (by unfold VZ;split<;>rfl)
  have hg:=eU ch Ca
  refine Runs.next (Wa (d:=.str (tx [VZ gr j ch])) tT (X8 tT (UI (VO tT oW (VO tT (bT hx tT oW oW oW oW hg) Jo)) rfl)
   (X9 oW W4 uE) NY)) ?_
  have uL:Xe (tx [VZ gr j ch]):=GJ (λx hx=>by
   rw[Zp,Zz5] at hx
   rw[hx];unfold VZ
   split
   ·exact (IM ch Ca).1
   ·exact (IM ch Ca).2) (by rw[Zn];exact ZzV 1 999)
  have lr:((ZzW j).map (ent T gr l)).length<=1000:=by rw[Zzm,ZyR];exact oP (Zzs IH) (Zm zM)
  have Z2:∀v:oO,v=XE T b n->pairs ((ZzW j).map (ent T gr l)++[(tx [VZ gr j ch],v)])=pairs ((ZzW (j+1)).map (ent T gr l)):=λv hv=>by rw[Zur,Zz9,hv,<-Q7];rfl
  by_cases h0:n=0
  ·have pX:ZE .Eq (.val (.int (ah.length:Int))) (.val (.int 0))=some true:=eqT (la.trans h0)
   refine Runs.next (Um oW (J0 (PQ (ps:=[]) (val:=some "new") tT oW oW YR rfl PW (vC lr uL)) WV)) (Runs.nil ⟨by walk_at "ex",by walk_at "ex",?_⟩)
   rw[<-Z2 (V1 (some "new") []) (by unfold XE;rw[if_pos h0];rfl)]
   exact YG
  ·have pX:ZE .Eq (.val (.int (ah.length:Int))) (.val (.int 0))=some false:=yk (la ▸ h0)
   have hn:0<n:=ZvJ h0
   obtain⟨p0,p1,p2,p3⟩:=Kl hv hn
   have w1:=fY (S:=S) hM hd (Zm hT) hv hn
   have w2:=fZ (S:=S) hM hd (Zm hT) hv hn
   have w3:=f9 (S:=S) hM hd (Zm hT) hv hn
   have fp:Zx1 (tx T) (tx ah)=((pl T b n:Nat):Int):=by rw[<-yx,find_eq (by rw[yx,la];exact hn),p0];rfl
   have vE:XE T b n=if pl T b n+n<=b then tx (Vn (pl T b n) n) else tx (Jj (pl T b n) n):=if_neg h0
   have fB:Mv T b n=decide (pl T b n+n<=b):=rfl
   rw[yx] at w2 w3
   rw[fp]
   have Hk:=Iz hv hT
   generalize pl T b n=p at *
   have a1:YL (.val (.str (tx T))) none (some ((p:Int)+(ah.length:Int)))=some (.str (tx (T.take (p+n)))):=(Q1 fz).trans (by rw[la,show (p:Int)+(n:Int)=((p+n:Nat):Int) from rfl,Xp,Ka])
   have a2:YL (.val (.str (tx T))) (some (b:Int)) none=some (.str (tx (T.drop b))):=(Q1 fz).trans (by rw[Xp,Uw])
   have dl:∀i,(tx (T.drop i)).length<=400:=λi=>by rw[Zn,ZzM];exact oP (Zyo _ _) (Zm hT)
   have l1:(tx (T.take (p+n))).length<=400:=by rw[Zn];exact oP (Zve _ _) (Zm hT)
   have l2:=dl b
   have l3:=dl (b+n)
   clear dl
   have l4:(tx ah).length<=400:=by rw[Zn,la];exact Zm au
   have l5:("":oO).length<=400:=by decide
   have mj:∀w:List oO,w.length<=200->(∀x∈w,x.length<=400)->S.mt "join" (.val (.str "...")) [.val (.lst (w.map .str))]=some (.str (Zy4 "..." w)):=λw h1 h2=>(H.mt _ _ _).trans (iV (F8 oD h1 h2))
   generalize tx (T.take (p+n))=A1 at *
   generalize tx (T.drop b)=A2 at *
   generalize tx (T.drop (b+n))=A3 at *
   generalize tx ah=X at *
   have j1:=mj [A1,A2] (show 2<=200 by decide) (by simp [l1,l2])
   have j2:=mj ["",X,A2] (show 3<=200 by decide) (by simp [l5,l4,l2])
   have j3:=mj ["",X,X,A3] (show 4<=200 by decide) (by simp [l5,l4,l3])
   have sp:=(H.str (p:Nat)).trans (CU Hk.1)
   have sn:S.cl "str" [.val (.int (ah.length:Int))]=some (.str (tx (dg n))):=by rw[la];exact (H.str n).trans (CU Hk.2)
   generalize Mv T b n=F at *
   have wz:([[A1,A2],["",X,A2],["",X,X,A3]]:List (List oO)).length<=Zzx:=by rw[ZzS];exact (show 3<=16777216 by decide)
   have TL:ZE .Eq (.val (.lst [.bool F,.bool F,.bool F])) (.val (.lst [.bool true,.bool true,.bool true]))=some F:=by cases F<;>rfl
   have Ov:ZE .Eq (.val (.lst [.bool false,.bool false,.bool false])) (.val (.lst [.bool false,.bool false,.bool false]))=some true:=rfl
   refine Runs.aI (R:=λσ=>RI σ c B T l ks vs gr (j+1)) oW ?_ λσ h=>Runs.nil h
   clear la
   refine Runs.next (Wa (d:=.lst [.lst [.str A1,.str A2],.lst [.str "",.str X,.str A2],.lst [.str "",.str X,.str X,.str A3]]) tT oW) ?_
   refine Runs.next (Wa (d:=.lst [.bool F,.bool F,.bool F]) tT (Ce (f:=λw:List oO=>.lst (w.map .str)) (l:=[[A1,A2],["",X,A2],["",X,X,A3]]) (λ_=>.bool F) rfl (Kd "text" rfl oW) rfl ?_ wz ?_)) ?_
   ·exact Gg (Jv (a:=.val (.lst [.lst [.str A1,.str A2],.lst [.str "",.str X,.str A2],.lst [.str "",.str X,.str X,.str A3]])) oW rfl)
   ·refine Zi ?_ (Zi ?_ (Zi ?_ YT))
    ·exact Un (Yc tT (Yv tT (VF rfl YR (Yv tT oW Xi) j1) (Yv tT oW Xi)) w1)
    ·exact Un (Yc tT (Yv tT (VF rfl YR (Yv tT oW Xi) j2) (Yv tT oW Xi)) w2)
    ·exact Un (Yc tT (Yv tT (VF rfl YR (Yv tT oW Xi) j3) (Yv tT oW Xi)) w3)
   clear w1 w2 w3 j1 j2 j3 mj
   cases F with
   | true=>
     have vW:V1 (some "whole") (Dp p n)=XE T b n:=by rw[vR,vE,if_pos (of_decide_eq_true fB.symm)]
     refine Runs.qw (R:=λσ=>RI σ c B T l ks vs gr (j+1)) (Y1 tF oW oW TL) ?_ λσ h=>Runs.nil h
     refine Runs.next (PQ (ps:=Dp p n) (val:=some "whole") tT oW oW YR rfl (NO (a:=.val (.str (tx (dg p)))) oW rfl (NO (a:=.val (.str (tx (dg n)))) (Yc tT (Yv tT (UY tT (Ad oW yj)) Xi) sn) rfl PW)) (Pw lr uL Hk.1 Hk.2)) (Runs.nil ⟨by walk_at "ex",by walk_at "ex",?_⟩)
     rw[<-Z2 _ vW]
     exact YG
   | false=>
     have vW:V1 none (Dp p n++[(("lapping":oO),none)])=XE T b n:=by rw[dM,vE,if_neg (of_decide_eq_false fB.symm)]
     refine Runs.aI (R:=λσ=>RI σ c B T l ks vs gr (j+1)) (Y1 tF oW oW TL) ?_ λσ h=>Runs.nil h
     refine Runs.qw (R:=λσ=>RI σ c B T l ks vs gr (j+1)) (Y1 tF oW oW Ov) ?_ λσ h=>Runs.nil h
     refine Runs.next (PQ (ps:=[(("read_from":oO),some (tx (dg p))),(("read_size":oO),some (tx (dg n))),(("lapping":oO),none)]) (val:=none) tT oW oW KD rfl (NO (a:=.val (.str (tx (dg p)))) oW rfl (NO (a:=.val (.str (tx (dg n)))) (Yc tT (Yv tT (UY tT (Ad oW yj)) Xi) sn) rfl (NO KD rfl PW))) (vB lr uL Hk.1 Hk.2)) (Runs.nil ⟨by walk_at "ex",by walk_at "ex",?_⟩)
     rw[<-Z2 _ vW]
     exact YG
 ·rintro σ ⟨s1,s2,s3⟩
  rw[xE] at s3
  have ps:Jb ((ZzW l.length).map (ent T gr l)):=wW (by rw[Zzm,ZyR];exact Zm zM) λx hx=>by
   obtain⟨j,hj,rfl⟩:=Zyi.mp hx
   have hv:=(Ib hc j (ZxS.mp hj)).1
   obtain⟨n,en⟩:=ZyV hv.1
   rw[en] at hv
   have:=Iz hv hT
   exact⟨by unfold ent;rw[Zn];exact (oD:1<=100),by unfold ent;rw[en,show (0::l).getD j 0+n+1-1-(0::l).getD j 0=n from Zz2 _ n];exact Hp this.1 this.2⟩
  have st:=H.Dm _ ps
  exact Gives.ret (VM (II oW rfl))
end
def Vu(k:Nat):List ZzZ:=(X6 22).drop k
abbrev UG(b3:Int->Option oO)(c:Nat):oO:=(b3 c).getD (Zvu (tx [c]))
def J3(c:Nat):Prop:=good c/\c≠34/\c≠46
structure Qk(b1:Int->Bool)(b3:Int->Option oO)(K:List (Nat × List Nat))(a b A B:Nat):Prop where
 len:K.length=8
 head:K.take 4=[(a,[a]),(b,[b]),(A,[a]),(B,[b])]
 ab:a≠b
 b1:∀x∈K,b1 x.1=decide (x.2=[])
 b3:∀x∈K.take 7,UG b3 x.1=tx x.2
 mn:∀x∈K,x.2.length<=3/\∀c∈x.2,c=a∨c=b
 last:∀x∈K.drop 7,x.2=[]
 ok:∀x∈K,J3 x.1
section
variable {S:Sg}{n:Nat}{sc:Zz0}{σ:Zx}{p q p1 p2 p3:Pos}{k:Nat}{st:Bool}{x y z:oO}{ds:List PV}
theorem Ep   (h:ev S n sc σ e=some (.val (.lst l)))(h2:l.all Fz=true):Fv S (n+1) sc σ e=some l:=by
 show ((ev S n sc σ e).bind _)=_
 rw[h];exact if_pos h2
theorem fH(h:ev S n sc σ (.Name z q)=some (.val (.lst ds)))(h2:ds.all Fz=true):Y4 S (n+2) sc σ st (.Tuple [.Name x p1,.Name y p2] k p3) (.Name z q)=some ds:=V9 (Ep h h2)
theorem y7  (h:ev S n sc σ (.Subscript o i q)=some (.val (.lst ds)))(h2:ds.all Fz=true):Y4 S (n+2) sc σ st (.Tuple [.Name x p1,.Name y p2] k p3) (.Subscript o i q)=some ds:=V9 (Ep h h2)
theorem Sd(u:Bool):ZE .IsNot (.val (.bool u)) (.val (.bool u))=some false:=by cases u<;>rfl
theorem Me(K:List (Nat × List Nat)):(K.map WU).all Fz=true:=by rw[ZvE];exact ZzD.mpr λ_ _=>rfl
theorem kL :tx m=("":oO)<->m=[]:=⟨λh=>by
 have:=congrArg Zk h
 rw[Zp] at this;exact this,λh=>by rw[h];rfl⟩
end
noncomputable def nums(is:List Int):List Nat:=(is.take 7).map λx=>(x%1000000).toNat
theorem v5(l:List Nat):B1 [.val (.lst (Z6 l))]=some (.int (l.sum:Nat)):=by
 have e:(Z6 l).mapM KR=some (l.map λn:Nat=>(n:Int)):=by
  unfold Z6
  induction l with
  |nil=>rfl
  |cons i l ih=>rw[ZzG,Zx3,ih];rfl
 show ((Z6 l).mapM KR).map (λis=>PV.int is.sum)=_
 rw[e]
 show some (PV.int _)=_
 congr 2
 clear e
 induction l with
 |nil=>rfl
 |cons i l ih=>rw[ZzG,ZuP,ih,ZuP];rfl
theorem OU(is:List Int):(nums is).length<=7:=by unfold nums;rw[Zzm,ZxP];exact Zup _ _
theorem ve :∀x∈nums is,x<1000000:=λx hx=>by
 obtain⟨y,_,rfl⟩:=Zyi.mp hx
 exact ZyC.mp ((Zw2 (Zjz y (b:=1000000) oD)).symm ▸ Int.emod_lt_of_pos y (b:=1000000) oD)
theorem RL:∀(l:List Nat),(∀x∈l,x<1000000)->l.sum<=l.length*1000000
 |[],_=>Zz3 _
 | x::l,h=>by
   rw[ZuP,Zyw,Zu0,ZzT]
   exact Zyy (RL l λy hy=>h y (.tail _ hy)) (Zzs (h x (.head _)))
section
variable {c:Zzq}{b1:Int->Bool}{b3:Int->Option oO}{Bx:YM}{S:Sg}{d:PV}
theorem in1(H:Xm c b1 b3 Bx S)(ch:Nat):S.cl "in_table_b1" [.val (.str (tx [ch]))]=some (.bool (b1 ch)):=(H.b1 _).trans rfl
theorem jP(H:Xm c b1 b3 Bx S)(ch:Nat):S.cl "map_table_b3" [.val (.str (tx [ch]))]=some (.str (UG b3 ch)):=(H.b3 _).trans rfl
noncomputable abbrev LT(c:Zzq)(S:Sg):St:=Th c S ["sizes"] (Yq 22)
theorem lM(H:Xm c b1 b3 Bx S)  (hl:is.length<=63){K:List (Nat × List Nat)}  (hK:Qk b1 b3 K a b A B)(hk:S.cl "_law_kinds" [.val (.int ((nums is).sum:Nat))]=some (.lst (K.map WU)))
 (h:∀σ,σ "numbers"=some (.val (.lst (Z6 (nums is))))->σ "kinds"=some (.val (.lst (K.map WU)))->Gives (LT c S) 56 (Yq 22) σ (Vu 4) d):Gives (LT c S) 60 (Yq 22) (Zd (λ_=>none) ["script"] [.lst (is.map .int)]) (X6 22) d:=by
 generalize hb:X6 22=bo
 have h4:Vu 4=bo.drop 4:=by rw[<-hb];rfl
 rw[h4] at h
 clear h4
 conv at hb=>lhs;whnf
 subst hb
 have m3:=H.sum
 have z1:is.length<=Zzx:=oP hl oD
 have hp:YS .Pow (.val (.int 10)) (.val (.int 6))=some (.int 1000000):=rfl
 have e1:Yk none (some 7) (is.map PV.int)=(is.take 7).map .int:=by
  rw[show (7:Int)=((7:Nat):Int) from rfl,Ka,ZuO]
 have s0:Zd (λ_=>none) ["script"] [.lst (is.map .int)] "script"=some (.val (.lst (is.map .int))):=N9 (Hj YG)
 generalize Zd (λ_=>none) ["script"] [.lst (is.map .int)]=σ at *
 refine Gives.next (Wa (d:=.lst (Z6 (nums is))) tT ?_) ?_
 ·have e2:Z6 (nums is)=(is.take 7).map λx=>PV.int (x.fmod 1000000):=by
   rw[Z6,nums,ZyD]
   refine Zv2 λx _=>?_
   show PV.int ((x%1000000).toNat:Int)=PV.int (x.fmod 1000000)
   rw[ZvD _ oD,Zw2 (Zjz _ oD)]
  rw[e2]
  refine Ce (f:=PV.int) (λx=>PV.int (x.fmod 1000000)) rfl (Wv [] rfl rfl) rfl (by rw[<-e1];walk_at "ex") (oP (Zya ZxP) (oP (Zup _ _) oD)) λx _=>?_
  have bm:YS .Mod (.val (.int x)) (.val (.int 1000000))=some (.int (x.fmod 1000000)):=ko oD
  walk_at "ex"
 have m4:=(m3 _).trans (v5 (nums is))
 refine Gives.next (Wa (d:=.lst (K.map WU)) tT (Yc tT (Yv tT (Yc tT oW m4) Xi) hk)) ?_
 have kz:K.length<=Zzx:=by rw[hK.len,ZzS];decide
 have ay:ZE .NotEq (.val (.lst [])) (.val (.lst []))=some false:=rfl
 refine Gives.next (WX (Y1 (a:=.val (.lst [])) tF ?_ (UI Jo rfl) ay) WV) ?_
 ·rw[show ([]:List PV)=K.filterMap λ_=>none by simp]
  refine NN (f:=WU) (l:=K) (λ_=>none) rfl (Wv [] rfl rfl) rfl (fH oW (Me K)) kz λx hx=>?_
  have ib:=in1 H x.1
  have ce:ZE .Eq (.val (.str (tx x.2))) (.val (.str ""))=some (b1 x.1):=by rw[Mq,D5,hK.b1 x hx];exact congrArg _ (decide_eq_decide.mpr kL)
  exact TQ ⟨rfl⟩ (Y1 tF (Yc tT oW ib) (Dt tF oW YR ce) (Sd _))
 refine Gives.next (WX (Y1 (a:=.val (.lst [])) tF ?_ (UI Jo rfl) ay) WV) ?_
 ·have e7:Yk none (some 7) (K.map WU)=(K.take 7).map WU:=by
   rw[show (7:Int)=((7:Nat):Int) from rfl,Ka,ZuO]
  have rX:(K.map WU).length<=Zzx:=by rw[Zzm];exact kz
  have sl:=(Af (a:=none) (b:=some 7) rX).trans (congrArg (λl=>some (PV.lst l)) e7)
  rw[show ([]:List PV)=(K.take 7).filterMap λ_=>none by simp]
  refine NN (f:=WU) (l:=K.take 7) (λ_=>none) rfl (Wv [] rfl rfl) rfl (y7 oW (Me _)) (oP (Zve ..) kz) λx hx=>?_
  have ib:=(jP H x.1).trans (by rw[hK.b3 x hx])
  have ce:ZE .NotEq (.val (.str (tx x.2))) (.val (.str (tx x.2)))=some false:=by rw[TH,D5,decide_eq_true rfl];rfl
  exact TQ ⟨rfl⟩ (Y1 tF (Yc tT oW ib) oW ce)
 exact h _ oW oW
end
theorem ik
 (hc:(Y0 sc x&&(Y0 sc y&&(Y0 sc z&&(Qg [x,y,z]&&(zC.contains z&&(notStar e1&&(notStar e2&&Vy [.Name x p1,.Name y p2,.Name z p3] (.Tuple [e1,e2,.List l lp] k2 Ck))))))))=true)
 (h1:ev S' 30 sc σ.flat e1=some (.val (.str a))) (h2:ev S' 30 sc σ.flat e2=some (.val (.str b))) (h3:NA S' 30 sc σ.flat l ds) (h4:ds.length<=Zzx):
 XD ⟨S,ow,Rg c zC S' 30 sc,wf⟩ (n+1) sc σ (.Assign [.Tuple [.Name x p1,.Name y p2,.Name z p3] k tp] (.Tuple [e1,e2,.List l lp] k2 Ck) q)=some (.Z2,((σ.set x (.val (.str a))).set y (.val (.str b))).set z (.own ds)):=by
 refine sC ((Uz rfl).trans ?_)
 show (if (Y0 sc x&&(Y0 sc y&&(Y0 sc z&&(Qg [x,y,z]&&(zC.contains z&&(notStar e1&&(notStar e2&&Vy [.Name x p1,.Name y p2,.Name z p3] (.Tuple [e1,e2,.List l lp] k2 Ck))))))))=true then ((ev S' 30 sc σ.flat e1).bind Yw).bind λa=>((ev S' 30 sc σ.flat e2).bind Yw).bind λb=>(Y3 S' 30 sc σ.flat l).bind λas=>(as.mapM AV.ZC).bind λds=>
  if ds.length<=Zzx then some (Z7.Z2,((σ.set x (.val (.str a))).set y (.val (.str b))).set z (.own ds)) else none else none)=_
 refine (if_pos hc).trans ?_
 rw[h1,h2,show Y3 S' 30 sc σ.flat l=_ from h3]
 show ((ds.map AV.val).mapM AV.ZC).bind (λds=>if ds.length<=Zzx then some (Z7.Z2,((σ.set x (.val (.str a))).set y (.val (.str b))).set z (.own ds)) else none)=_
 rw[Ff];exact if_pos h4
theorem lR :ZO (.val (.tup [a,b])) (.int 0)=some a:=rfl
theorem lS :ZO (.val (.tup [a,b])) (.int 1)=some b:=rfl
theorem yg  (h:x.length+y.length<=Zzx):JS .Add (.str x) (.str y)=some (.str (x++y)):=by
 show Ys none (if x.length+y.length<=Zzx then some (PV.str (x++y)) else none)=_
 rw[if_pos h];rfl
noncomputable def mean(b1:Int->Bool)(b3:Int->Option oO)(c:Nat):List Nat:=if b1 c then [] else Zk (UG b3 c)
section
variable {b1:Int->Bool}{b3:Int->Option oO}{K:List (Nat × List Nat)}{a b A B:Nat}
theorem Qk.mean(hK:Qk b1 b3 K a b A B)  (hx:x∈K):mean b1 b3 x.1=x.2:=by
 unfold L2.mean
 rw[hK.b1 x hx]
 by_cases h:x.2=[]
 ·rw[decide_eq_true h,h];rfl
 ·rw[decide_eq_false h]
  have h7:x∈K.take 7:=by
   rw[<-Zxm 7 K] at hx
   exact (ZyN.mp hx).resolve_right λhx=>h (hK.last x hx)
  show Zk (UG b3 x.1)=_
  rw[hK.b3 x h7,Zp]
noncomputable def QM(N:List Nat):List Nat:=N++[0,4,1,5,0]
noncomputable def Q3(K:List (Nat × List Nat))(x:Nat):Nat × List Nat:=K.getD (x%8) (0,[])
def rowOf(K:List (Nat × List Nat))(N:List Nat):List Nat:=(QM N).map λx=>(Q3 K x).1
theorem BS(hK:K.length=8)(x:Nat):Q3 K x∈K:=by
 have:x%8<K.length:=by rw[hK];exact ZxN _ oD
 unfold Q3
 rw[gD,gE this];exact Zvv _
theorem OT(hK:K.length=8)(x:Nat):ZO (.val (.lst (K.map WU))) (.int ((x%8:Nat):Int))=some (WU (Q3 K x)):=by
 have:x%8<K.length:=by rw[hK];exact ZxN _ oD
 rw[FQ (n:=x%8) I5 rfl (Zm (Zzs (ZxN x (oD:0<8)))),Zyk]
 unfold Q3
 rw[gD,gE this];rfl
theorem HW(N:List Nat):(rowOf K N).length=N.length+5:=by unfold rowOf QM;simp
theorem BY(hK:Qk b1 b3 K a b A B):∀R:List Nat,(∀s∈R,∃x∈K,x.1=s)->(txt (L2.mean b1 b3) R).length<=3*R.length
 |[],_=>Zz1 _
 | s::R,h=>by
   have ih:=BY hK R λs hs=>h s (.tail _ hs)
   obtain⟨x,hx,rfl⟩:=h _ (.head _)
   have h3:=(hK.mn x hx).1
   unfold txt at ih ⊢
   rw[Zq6,Zzd,hK.mean hx,ZzT]
   exact Zyy ih h3
theorem HX(hK:K.length=8) :∀s∈rowOf K N,∃x∈K,x.1=s:=λs hs=>by
 obtain⟨x,_,rfl⟩:=Zyi.mp hs
 exact⟨_,BS hK x,rfl⟩
theorem txt_snoc  {R:List Nat}  (h:R[j]?=some s):R.take (j+1)=R.take j++[s]/\txt m (R.take (j+1))=txt m (R.take j)++m s:=by
 have e:R.take (j+1)=R.take j++[s]:=by rw[Zwf,h];rfl
 refine⟨e,?_⟩
 rw[e];unfold txt
 rw[Zw8,Zq6,List.flatMap_nil,ZyZ]
end
structure yf(σ:Zx)(K:List (Nat × List Nat))(m:Nat->List Nat)(R:List Nat)(j:Nat):Prop where
 kinds:σ "kinds"=some (.val (.lst (K.map WU)))
 row:σ "row"=some (.val (.str (tx (R.take j))))
 text:σ "text"=some (.val (.str (tx (txt m (R.take j)))))
 sizes:σ "sizes"=some (.own (Z6 ((ZzW (j+1)).map (sz m R))))
section
variable {c:Zzq}{b1:Int->Bool}{b3:Int->Option oO}{Bx:YM}{S:Sg}{d:PV}{K:List (Nat × List Nat)}{a b A B:Nat}{σ:Zx}
theorem lN(H:Xm c b1 b3 Bx S)(hK:Qk b1 b3 K a b A B){N:List Nat}(hN:N.length<=7)(s1:σ "numbers"=some (.val (.lst (Z6 N))))(s2:σ "kinds"=some (.val (.lst (K.map WU))))
 (h:∀σ,yf σ K (mean b1 b3) (rowOf K N) (rowOf K N).length->Gives (LT c S) 54 (Yq 22) σ (Vu 6) d):Gives (LT c S) 56 (Yq 22) σ (Vu 4) d:=by
 generalize hb:Vu 4=bo
 have h4:Vu 6=bo.drop 2:=by rw[<-hb];rfl
 rw[h4] at h
 clear h4
 conv at hb=>lhs;whnf
 subst hb
 have m2:=H.len
 refine Gives.next (ik (a:="") (b:="") (ds:=[.int 0]) tT YR YR oW (by rw[ZzS];exact (show 1<=16777216 by decide))) ?_
 have fN:(Z6 N).length+([.int 0,.int 4,.int 1,.int 5,.int 0]:List PV).length<=Zzx:=by rw[Ue];exact ZT (Zm (Zzg hN 5))
 have add:=RJ (a:=.val (.lst (Z6 N))) (b:=.val (.lst [.int 0,.int 4,.int 1,.int 5,.int 0])) rfl rfl fN
 have eX:Z6 N++[.int 0,.int 4,.int 1,.int 5,.int 0]=Z6 (QM N):=by unfold Z6 QM;rw[Zz9];rfl
 rw[eX] at add
 have hlen:(QM N).length=(rowOf K N).length:=by unfold rowOf;rw[Zzm]
 have rl:=HW (K:=K) N
 refine Gives.for (ds:=Z6 (QM N)) (P:=λj σ=>yf σ K (mean b1 b3) (rowOf K N) j) rfl rfl rfl (PU (Jv oW Rl)) ⟨by walk_at "ex",J1 tT (J1 tT YG),J1 tT YG,YG⟩ ?_ λσ J=>by
  rw[Ue,hlen] at J;exact h σ J
 rintro j d σ hj ⟨s1,s2,s3,s4⟩
 unfold Z6 at hj
 rw[Zyk] at hj
 obtain⟨x,hx,rfl⟩:=mS hj
 have hR:(rowOf K N)[j]?=some (Q3 K x).1:=by unfold rowOf;rw[Zyk,hx];rfl
 have IH:j<(rowOf K N).length:=(Zyt.mp hR).1
 obtain⟨t1,t2⟩:=txt_snoc (m:=mean b1 b3) hR
 have km:=BS hK.len x
 rw[hK.mean km] at t2
 have oB:=md (y:=8) 8 rfl oD x
 have it:=OT (K:=K) hK.len x
 have lt:=BY hK ((rowOf K N).take j) λs hs=>HX hK.len s (Zy8 hs)
 have l3:=(hK.mn _ km).1
 have uO:j<=12:=oP (Zzs IH) (rl ▸ Zzg hN 5)
 have tk:((rowOf K N).take j).length=j:=Zyc (Zzs IH)
 rw[tk] at lt
 have lt:=oP lt (Zw7 3 uO)
 have hz:(Z6 ((ZzW (j+1)).map (sz (mean b1 b3) (rowOf K N)))).length<=Zzx:=by rw[Ue,Zzm,ZyR];exact ZT (Zm (ZzX uO))
 have bJ:Z6 ((ZzW (j+1)).map (sz (mean b1 b3) (rowOf K N)))++[.int ((txt (mean b1 b3) ((rowOf K N).take j)++(Q3 K x).2).length:Nat)]=Z6 ((ZzW (j+1+1)).map (sz (mean b1 b3) (rowOf K N))):=by
  rw[DG,Zur (n:=j+1),Zz9]
  unfold sz;rw[<-t2];rfl
 have kz:(K.map WU).length<=Zzx:=by rw[Zzm,hK.len,ZzS];decide
 have kv:WU (Q3 K x)=.tup [.str (tx [(Q3 K x).1]),.str (tx (Q3 K x).2)]:=rfl
 rw[kv] at it
 have a1:JS .Add (.str (tx ((rowOf K N).take j))) (.str (tx [(Q3 K x).1]))=some (.str (tx ((rowOf K N).take (j+1)))):=(yg (by rw[Zn,Zn,tk];exact ZT (Zm (ZzX uO)))).trans (by rw[Kf,t1])
 have a2:JS .Add (.str (tx (txt (mean b1 b3) ((rowOf K N).take j)))) (.str (tx (Q3 K x).2))=some (.str (tx (txt (mean b1 b3) ((rowOf K N).take (j+1))))):=(yg (by rw[Zn,Zn];exact ZT (Zm (Zyy lt l3)))).trans (by rw[Kf,t2])
 have ln:S.cl "len" [.val (.str (tx (txt (mean b1 b3) ((rowOf K N).take (j+1)))))]=some (.int ((txt (mean b1 b3) ((rowOf K N).take j)++(Q3 K x).2).length:Nat)):=(m2 _).trans ((ID (by rw[Zn,t2,Zzd];exact ZT (Zm (Zyy lt l3)))).trans (by rw[Zn,t2]))
 clear t1 t2
 refine Runs.next (Ds tT oW (X8 tT (X8 tT oW oW it) W4 lR) a1) ?_
 refine Runs.next (Ds tT oW (X8 tT (X8 tT oW oW it) W4 lS) a2) ?_
 refine Runs.next (Mz ⟨rfl⟩ tT oW oW hz) (Runs.nil ⟨by walk_at "ex",by walk_at "ex",by walk_at "ex",?_⟩)
 rw[bJ];exact YG
end
theorem jE:∀L:List Nat,alikeAll (Z6 L) (Z6 L)=true/\Jd (Z6 L)=0/\eqvAll (Z6 L) (Z6 L)=true
 |[]=>⟨rfl,rfl,rfl⟩
 | n::L=>by
   obtain⟨h1,h2,h3⟩:=jE L
   refine⟨?_,?_,?_⟩
   ·show (true&&alikeAll (Z6 L) (Z6 L))=true
    rw[h1];rfl
   ·show max 0 (Jd (Z6 L))=0
    rw[h2];rfl
   ·show (((n:Int)==(n:Int))&&eqvAll (Z6 L) (Z6 L))=true
    rw[h3,beq_self_eq_true];rfl
theorem ax(L:List Nat):ZE .NotEq (.val (.lst (Z6 L))) (.val (.lst (Z6 L)))=some false:=by
 obtain⟨h1,h2,h3⟩:=jE L
 unfold ZE
 have h4:Jd (Z6 L)+1<=8:=by rw[h2];decide
 refine (if_pos ⟨h1,h4⟩).trans ?_
 show some (!eqvAll (Z6 L) (Z6 L))=_
 rw[h3];rfl
theorem EX(k:Nat)(l:List Nat):(l.filterMap λg:Nat=>if g<k then some (PV.int (g:Nat)) else none).length=cnt k l:=by
 induction l with
 |nil=>rfl
 | cons g l ih=>
   rw[cnt_cons,<-ih,Zv0]
   by_cases h:g<k
   ·rw[if_pos h,if_pos h];exact ZzT _ _
   ·rw[if_neg h,if_neg h,ZzP]
theorem gL(k:Nat)(l:List Nat):cnt k l<=l.length:=List.length_filter_le ..
theorem yE  (hL:LsI T L)(hl:L.length=T.length+1)(hc:Chain T 0 l):Z6 ((ZzW (T.length+1)).map λk=>cnt k (0::l))=Z6 L:=by
 congr 1
 refine List.ext_getElem (by rw[Zzm,ZyR,hl]) λk h1 h2=>?_
 rw[List.getElem_map,List.getElem_range]
 have:=OB (hL.least hl) hc k (by rw[hl] at h2;exact Zwd h2)
 rw[<-this,gD,gE h2];rfl
structure qE(σ:Zx)(K:List (Nat × List Nat))(m:Nat->List Nat)(R l1 l2 L:List Nat):Prop extends yf σ K m R R.length where
 ends : σ "ends" = some (.val (.lst (Z6 (0 :: l1))))
 marks:σ "marks"=some (.val (.lst (Z6 (0::l2))))
 least:σ "least"=some (.val (.lst (Z6 L)))
section
variable {c:Zzq}{b1:Int->Bool}{b3:Int->Option oO}{Bx:YM}{S:Sg}{d:PV}{K:List (Nat × List Nat)}{σ:Zx}{m:Nat->List Nat}{R l1 l2 L RF:List Nat}
theorem lA(H:Xm c b1 b3 Bx S)(hs:yf σ K m R R.length)(hR:R.length<=63)(hT:(txt m R).length<=63)(p1:S.cl "_law_pieces" [.val (.str (tx (txt m R)))]=some (.lst (Z6 (0::l1))))(p2:S.cl "_law_pieces" [.val (.str (tx R))]=some (.lst (Z6 (0::l2))))
 (q1:S.cl "_law_least" [.val (.str (tx (txt m R)))]=some (.lst (Z6 L))) (q2:S.cl "_law_least" [.val (.str (tx R))]=some (.lst (Z6 RF))) (c1:Chain (txt m R) 0 l1) (c2:Chain R 0 l2) (g1:LsI (txt m R) L) (g2:LsI R RF) (z1:L.length=(txt m R).length+1) (z2:RF.length=R.length+1)
 (h:∀σ,qE σ K m R l1 l2 L->Gives (LT c S) 50 (Yq 22) σ (Vu 10) d):Gives (LT c S) 54 (Yq 22) σ (Vu 6) d:=by
 generalize hb:Vu 6=bo
 have h4:Vu 10=bo.drop 4:=by rw[<-hb];rfl
 rw[h4] at h
 clear h4
 conv at hb=>lhs;whnf
 subst hb
 have m2:=H.len
 obtain⟨s1,s2,s3,s4⟩:=hs
 rw[Zye] at s2 s3
 have aZ:l1.length<=63:=oP (ZzP l1.length ▸ Vr c1 (Zz3 _)) hT
 have a9:l2.length<=63:=oP (ZzP l2.length ▸ Vr c2 (Zz3 _)) hR
 have e1:=yE g1 z1 c1
 have e2:=yE g2 z2 c2
 have f1:(tx (txt m R)).length<=Zzx:=V2 hT oD
 have f2:(tx R).length<=Zzx:=V2 hR oD
 have k1:S.cl "len" [.val (.str (tx (txt m R)))]=some (.int ((txt m R).length:Nat)):=(m2 _).trans ((ID f1).trans (by rw[Zn]))
 have k2:S.cl "len" [.val (.str (tx R))]=some (.int (R.length:Nat)):=(m2 _).trans ((ID f2).trans (by rw[Zn]))
 refine Gives.next (Cg (xs:=["ends","marks"]) (ds:=[.lst (Z6 (0::l1)),.lst (Z6 (0::l2))]) ⟨rfl⟩ ⟨rfl⟩ tT oW ⟨rfl⟩) ?_
 refine Gives.next (Wa (d:=.lst (Z6 L)) tT oW) ?_
 have TL:=ax L
 have Ov:=ax RF
 have i1:ZF (-(2 ^ 62)) (2 ^ 62) (((txt m R).length:Int)+1)=true:=Dh (n:=(txt m R).length+1) (Zm (ZzX hT))
 have i2:ZF (-(2 ^ 62)) (2 ^ 62) ((R.length:Int)+1)=true:=Dh (n:=R.length+1) (Zm (ZzX hR))
 have a1:((txt m R).length:Int)+1=(((txt m R).length+1:Nat):Int):=rfl
 have a2:(R.length:Int)+1=((R.length+1:Nat):Int):=rfl
 have inner:∀(l:List Nat) (k:Nat),l.length<=63->S.cl "len" [.val (.lst ((0::l).filterMap λg:Nat=>if g<k then some (PV.int (g:Nat)) else none))]=some (.int (cnt k (0::l):Nat)):=λl k hl=>(m2 _).trans ((Hg (by rw[EX];exact ZT (oP (gL k (0::l)) (Zm (ZzX hl))))).trans (by rw[EX]))
 refine Gives.next (WX (Y1 (a:=.val (.lst (Z6 L))) tF ?_ oW TL) WV) ?_
 ·rw[<-e1,show Z6 ((ZzW ((txt m R).length+1)).map λk=>cnt k (0::l1))=(ZzW ((txt m R).length+1)).map λk=>PV.int (cnt k (0::l1):Nat) by rw[Z6,ZyD];rfl]
  refine Ce (f:=λk:Nat=>.int k) (l:=ZzW ((txt m R).length+1)) (λk=>PV.int (cnt k (0::l1):Nat)) rfl (Kd "ends" rfl oW) rfl ?_ (by rw[ZyR];exact ZT (Zm (ZzX hT))) λk hk=>?_
  ·rw[<-Mt,<-a1];exact Hq tT (by clear a1;walk_at "ex") i1
  ·refine Un (Yc tT (Yv tT (NN (f:=λg:Nat=>.int g) (l:=0::l1) (λg:Nat=>if g<k then some (PV.int (g:Nat)) else none) rfl (Kd "k" rfl YG) rfl (Gg (Jv oW Rl)) (ZT (Zm (ZzX aZ))) λg hg=>?_) Xi) (inner l1 k aZ))
   by_cases Cc:g<k
   ·rw[if_pos Cc]
    have lt:ZE .Lt (.val (.int (g:Int))) (.val (.int (k:Int)))=some true:=zB Cc
    exact B3 oW oW
   ·rw[if_neg Cc]
    have lt:ZE .Lt (.val (.int (g:Int))) (.val (.int (k:Int)))=some false:=zA (Zym Cc)
    exact Gi oW
 refine Gives.next (WX (Y1 (a:=.val (.lst (Z6 RF))) tF ?_ oW Ov) WV) ?_
 ·rw[<-e2,show Z6 ((ZzW (R.length+1)).map λk=>cnt k (0::l2))=(ZzW (R.length+1)).map λk=>PV.int (cnt k (0::l2):Nat) by rw[Z6,ZyD];rfl]
  refine Ce (f:=λk:Nat=>.int k) (l:=ZzW (R.length+1)) (λk=>PV.int (cnt k (0::l2):Nat)) rfl (Kd "marks" rfl oW) rfl ?_ (by rw[ZyR];exact ZT (Zm (ZzX hR))) λk hk=>?_
  ·rw[<-Mt,<-a2];exact Hq tT (by clear a2;walk_at "ex") i2
  ·refine Un (Yc tT (Yv tT (NN (f:=λg:Nat=>.int g) (l:=0::l2) (λg:Nat=>if g<k then some (PV.int (g:Nat)) else none) rfl (Kd "k" rfl YG) rfl (Gg (Jv oW Rl)) (ZT (Zm (ZzX a9))) λg hg=>?_) Xi) (inner l2 k a9))
   by_cases Cc:g<k
   ·rw[if_pos Cc]
    have lt:ZE .Lt (.val (.int (g:Int))) (.val (.int (k:Int)))=some true:=zB Cc
    exact B3 oW oW
   ·rw[if_neg Cc]
    have lt:ZE .Lt (.val (.int (g:Int))) (.val (.int (k:Int)))=some false:=zA (Zym Cc)
    exact Gi oW
 refine h _ ⟨⟨by walk_at "ex",?_,?_,by walk_at "ex"⟩,by walk_at "ex",by walk_at "ex",by walk_at "ex"⟩<;>rw[Zye]<;>walk_at "ex"
end
theorem DF    {W:List oO}(hy:Zk y=c::d)(hk:Zxj y=1)(hW:2<=W.length)(hl:W.length<=1000)(hx:Zk x=YC (c::d) (W.map Zk))(hc:∀z∈W,c∉Zk z)(hz:x.length<=Zzx):
 I1 "split" (.val (.str x)) [.val (.str y)]=some (.lst (W.map .str)):=by
 rcases W with _ |⟨p,_ |⟨q,ps⟩⟩
 ·exact absurd hW (show ¬2<=0 by decide)
 ·exact absurd hW (show ¬2<=1 by decide)
 have NV:y.length≠0:=by rw[<-ZJ,hy];exact ZqC _
 have rM:=A7 hy hx hc (ZzI (ZyG (ZxO ps.length)) hl)
 have:=CL hy hk p q ps hx hc
 show (if y.length≠0/\x.length<=Zzx/\(Zz7 x (Zze x y 0 x.length (x.length+1)) y.length).length<=Zzx then some (PV.lst ((ZyI x y).map .str)) else none)=_
 rw[this];exact if_pos ⟨NV,hz,rM⟩
noncomputable def Xn(a A B:Nat)(c:Nat):Nat:=if c=a then A else B
theorem JY  (h:(Zk x).all (λc=>decide (32<=c))=true):∀c∈Zk x,32<=c:=λc hc=>of_decide_eq_true (ZzD.mp h c hc)
theorem fX   (h1:pl T b n<100)(h2:n<100):∀c∈Zk (XE T b n),32<=c:=λc hc=>by
 have d1:=(Vj _ h1).2.2;have d2:=(Vj _ h2).2.2
 have dd:∀n,(∀c∈dg n,48<=c/\c<=57)->∀c∈dg n,32<=c:=λn h c hc=>oP oD (h c hc).1
 unfold XE at hc
 split at hc
 ·exact JY oD c hc
 ·split at hc
  ·rw[Zp,Vn] at hc
   simp only[ZyN] at hc
   rcases hc with hc |hc |hc |hc |hc
   ·exact JY oD c hc
   ·exact dd _ d1 c hc
   ·exact JY oD c hc
   ·exact dd _ d2 c hc
   ·exact JY oD c hc
  ·rw[Zp,Jj] at hc
   simp only[ZyN] at hc
   rcases hc with hc |hc |hc |hc |hc
   ·exact JY oD c hc
   ·exact dd _ d1 c hc
   ·exact JY oD c hc
   ·exact dd _ d2 c hc
   ·exact JY oD c hc
theorem Lm(x:oO × oO):Zk (We x)=Zk x.1++(Zk ": "++Zk x.2):=by
 unfold We;rw[YK,YK,Zzo]
def Fy(T:List Nat)(gr:Nat->Nat)(l:List Nat):List (oO × oO):=(ZzW l.length).map (ent T gr l)
def Xx(T:List Nat)(gr:Nat->Nat)(l:List Nat):List oO:=(Fy T gr l).map We
theorem U5   :(Xx T gr l).length=l.length:=by unfold Xx Fy;rw[Zzm,Zzm,ZyR]
structure KG(T:List Nat)(gr:Nat->Nat)(l:List Nat):Prop where
 ch:Chain T 0 l
 len:T.length<=63
 ok:∀c∈T,J3 c/\J3 (gr c)
section
variable {T:List Nat}{gr:Nat->Nat}{l:List Nat}
theorem KG.at(h:KG T gr l)  (hj:j<l.length):B9 T ((0::l).getD j 0) (l.getD j 0)/\T.getD (l.getD j 0-1) 0∈T/\J3 (VZ gr j (T.getD (l.getD j 0-1) 0)):=by
 have m:=Ib h.ch j hj
 have hm:T.getD (l.getD j 0-1) 0∈T:=by
  have v2:=m.1.2.1;have v1:=m.1.1
  rw[gD (l:=T),gE (show l.getD j 0-1<T.length from ZzI (Zvf (ZvN v1) ZvX) v2)];exact Zvv _
 refine⟨m,hm,?_⟩
 unfold VZ
 split
 ·exact (h.ok _ hm).1
 ·exact (h.ok _ hm).2
theorem KG.gz(h:KG T gr l):∀x∈Xx T gr l,(∀c∈Zk x,32<=c)/\x.length<=200:=λx hx=>by
 obtain⟨y,hy,rfl⟩:=Zyi.mp hx
 obtain⟨j,hj,rfl⟩:=Zyi.mp hy
 obtain⟨m,_,o⟩:=h.at (ZxS.mp hj)
 have hv:=m.1
 obtain⟨n,en⟩:=ZyV hv.1
 have ev:(ent T gr l j).2=XE T ((0::l).getD j 0) n:=by unfold ent;rw[en,show (0::l).getD j 0+n+1-1-(0::l).getD j 0=n from Zz2 _ n]
 rw[en] at hv
 have ps:=Iz hv h.len
 refine⟨λc hc=>?_,?_⟩
 ·rw[Lm] at hc
  rcases ZyN.mp hc with hc |hc
  ·rw[show (ent T gr l j).1=tx [VZ gr j (T.getD (l.getD j 0-1) 0)] from rfl,Zp,Zz5] at hc
   rw[hc];exact o.1.1
  ·rcases ZyN.mp hc with hc |hc
   ·exact JY oD c hc
   ·rw[ev] at hc;exact fX ps.1 ps.2 c hc
 ·unfold We
  have:=Hp ps.1 ps.2
  rw[len_app,len_app,show (ZzB ": ").length=2 from rfl,show (ent T gr l j).1=tx [VZ gr j (T.getD (l.getD j 0-1) 0)] from rfl,Zn,ev]
  exact Zm (Zzr this 3)
theorem Lv(d:List Nat):∀(W:List (List Nat)),(∀w∈W,w.length<=200)->(YC d W).length<=W.length*(200+d.length)
 |[],_=>Zz3 _
 |[w],h=>by rw[Zwm,Nat.one_mul];exact oP (h w (.head _)) (Zzt _ _)
 | w::v::W,h=>by
   have:=h w (.head _);have ih:=Lv d (v::W) λx hx=>h x (.tail _ hx)
   show (w++d++YC d (v::W)).length<=((v::W).length+1)*(200+d.length)
   rw[Zzd,Zzd,Zu0,ZzT ((v::W).length*_)]
   exact Zyy (Zzg this _) ih
theorem ML:Zk (X0 (Fy T gr l))=YC [13,10] ((Xx T gr l++([ "",""]:List oO)).map Zk):=by
 unfold X0 WB
 show Zk (Zy4 "\r\n" (Xx T gr l++([ "",""]:List oO)))=_
 cases h:Xx T gr l with
 |nil=>exact VE ..
 |cons x xs=>exact VE ..
theorem KG.split(h:KG T gr l):I1 "split" (.val (.str (X0 (Fy T gr l)))) [.val (.str "\r\n")]=some (.lst ((Xx T gr l++([ "",""]:List oO)).map .str)):=by
 have lc:=Vr h.ch (Zz3 _)
 have Cs:=h.len
 have all:∀z∈Xx T gr l++([ "",""]:List oO),(∀c∈Zk z,32<=c)/\z.length<=200:=λz hz=>by
  rcases ZyN.mp hz with hz |hz
  ·exact h.gz z hz
  ·exact Zi (P:=λz:oO=>(∀c∈Zk z,32<=c)/\z.length<=200) ⟨λc hc=>(by cases hc),oD⟩ (Zi ⟨λc hc=>(by cases hc),oD⟩ YT) z hz
 have wl:(Xx T gr l++([ "",""]:List oO)).length=l.length+2:=by rw[Zzd,U5];rfl
 refine DF (c:=13) (d:=[10]) rfl (Iv oD) (by rw[wl];exact ZzV 2 _) (by rw[wl];exact Zm (Zzg (oP (ZzP l.length ▸ lc) Cs) 2)) ML (λz hz m=>absurd ((all z hz).1 13 m) oD) ?_
 rw[<-ZJ,ML]
 have:=Lv [13,10] ((Xx T gr l++([ "",""]:List oO)).map Zk) λw hw=>by
  obtain⟨z,hz,rfl⟩:=Zyi.mp hw
  rw[ZJ];exact (all z hz).2
 rw[Zzm,wl] at this
 exact oP this (oP (ZuR 202 (Zzg (oP (ZzP l.length ▸ lc) Cs) 2)) (by rw[ZzS];decide))
end
structure DtS(σ:Zx)(B':YM)(K:List (Nat × List Nat))(m:Nat->List Nat)(R l1 l2 L:List Nat)(a b A B:Nat):Prop extends qE σ K m R l1 l2 L where
 great:σ "great"=some (.val (.box B' [tx [a],tx [b]] [.str (tx [A]),.str (tx [B])]))
section
variable {c:Zzq}{b1:Int->Bool}{b3:Int->Option oO}{Bx:YM}{S:Sg}{d:PV}{K:List (Nat × List Nat)}{σ:Zx}{m:Nat->List Nat}{R l1 l2 L:List Nat}{a b A B:Nat}
theorem vZ(WS:a≠b):G6 Bx [.val (.lst [.tup [.str (tx [a]),.str (tx [A])],.tup [.str (tx [b]),.str (tx [B])]])]=some (.box Bx [tx [a],tx [b]] [.str (tx [A]),.str (tx [B])]):=by
 have nd:[tx [a],tx [b]].Nodup:=by
  refine Zue.mpr ⟨λh=>?_,Zue.mpr ⟨λh=>(by cases h),Zv8⟩⟩
  have:=G1 (Zz5.mp h)
  exact WS (Zwp this).1
 exact if_pos ⟨nd,by rw[ZzS];exact (show 2<=16777216 by decide)⟩
theorem lB(H:Xm c b1 b3 Bx S)(hK:Qk b1 b3 K a b A B)(hs:qE σ K m R l1 l2 L)(hp:KG (txt m R) (Xn a A B) l1)
 (pg:S.cl "_law_page" [.val (.str (tx (txt m R))),.val (.lst (Z6 (0::l1))),.val (.box Bx [tx [a],tx [b]] [.str (tx [A]),.str (tx [B])])]=some (.str (X0 (Fy (txt m R) (Xn a A B) l1))))
 (h:∀σ,DtS σ Bx K m R l1 l2 L a b A B->σ "lines"=some (.val (.lst ((Xx (txt m R) (Xn a A B) l1++([ "",""]:List oO)).map .str)))->σ "told"=some (.val (.str ""))->Gives (LT c S) 46 (Yq 22) σ (Vu 14) d):Gives (LT c S) 50 (Yq 22) σ (Vu 10) d:=by
 generalize hb:Vu 10=bo
 have h4:Vu 14=bo.drop 4:=by rw[<-hb];rfl
 rw[h4] at h
 clear h4
 conv at hb=>lhs;whnf
 subst hb
 obtain⟨⟨s1,s2,s3,s4⟩,s5,s6,s7⟩:=hs
 rw[Zye] at s2 s3
 have lc:=Vr hp.ch (Zz3 _)
 have Cs:=hp.len
 have kz:(K.map WU).length<=Zzx:=by rw[Zzm,hK.len,ZzS];decide
 have ke:Yk (some 2) (some 4) (K.map WU)=[(A,[a]),(B,[b])].map WU:=by
  rw[show (2:Int)=((2:Nat):Int) from rfl,show (4:Int)=((4:Nat):Int) from rfl,G3,<-ZuO,hK.head];rfl
 have sl:=(Af (a:=some 2) (b:=some 4) kz).trans (congrArg (λl=>some (PV.lst l)) ke)
 have dc:=(H.dict _).trans (vZ (Bx:=Bx) (A:=A) (B:=B) hK.ab)
 refine Gives.next (Wa tT (Yc tT (Yv tT (Ce (f:=WU) (l:=[(A,[a]),(B,[b])]) (λx=>.tup [.str (tx x.2),.str (tx [x.1])]) rfl (Wv [] rfl rfl) rfl (y7 oW (Me _)) (by rw[ZzS];exact (show 2<=16777216 by decide)) λx hx=>PY ⟨rfl⟩ (B2 oW rfl)) Xi) dc)) ?_
 have sp:=(H.mt _ _ _).trans hp.split
 refine Gives.next (Wa tT (VF rfl (Yc tT oW pg) oW sp)) ?_
 have wz:((Xx (txt m R) (Xn a A B) l1++([ "",""]:List oO)).map PV.str).length<=Zzx:=by rw[Zzm,Zzd,U5];exact ZT (Zm (Zzg (oP (ZzP l1.length ▸ lc) Cs) 2))
 have we:Yk (some (-2)) none ((Xx (txt m R) (Xn a A B) l1++([ "",""]:List oO)).map PV.str)=[.str "",.str ""]:=by
  rw[Zz9]
  generalize (Xx (txt m R) (Xn a A B) l1).map PV.str=W
  unfold Yk
  have:Xh (some (-2)) (W++[PV.str "",PV.str ""]).length 0=W.length:=by
   rw[Zzd]
   show (max 0 (min (if (-2:Int)<0 then (-2:Int)+((W.length+2:Nat):Int) else -2) ((W.length+2:Nat):Int))).toNat=_
   rw[if_pos oD,show (-2:Int)+((W.length+2:Nat):Int)=(W.length:Int) from (ZwN _ _).trans (Zwi (W.length:Int) 2),Zw9 (Zy7.mpr (Zzt _ 2)),Zx2 (ZzJ _)];rfl
  show ((W++[PV.str "",PV.str ""]).drop (Xh (some (-2)) (W++[PV.str "",PV.str ""]).length 0)).take ((W++[PV.str "",PV.str ""]).length-Xh (some (-2)) (W++[PV.str "",PV.str ""]).length 0)=_
  rw[this,Zwa,Zzd,Zz2];rfl
 have sw:=(Af (a:=some (-2)) (b:=none) wz).trans (congrArg (λl=>some (PV.lst l)) we)
 have ne:ZE .NotEq (.val (.lst [.str "",.str ""])) (.val (.lst [.str "",.str ""]))=some false:=rfl
 refine Gives.next (WX (Y1 tF oW oW ne) WV) ?_
 refine Gives.next (Wa tT YR) ?_
 refine h _ ⟨⟨⟨by walk_at "ex",?_,?_,by walk_at "ex"⟩,by walk_at "ex",by walk_at "ex",by walk_at "ex"⟩,by walk_at "ex"⟩ oW oW<;>rw[Zye]<;>walk_at "ex"
end
def IK(k:Nat):List ZzZ:=(bodyOf ((X6 22)[14]?)).drop k
theorem Zx.ne{σ:Zx}   (h:(x==y)=false):(σ.set y v) x=σ x:=if_neg (ne_of_beq_false h)
theorem Fc{l:List oO}{σ:Zx}{x y:oO}{v:AV}{o:Option AV}(hx:(l.all λy=>!(y==x))=true)(hy:l.contains y=true)(e:σ y=o):(σ.set x v) y=o:=(Zx.ne ((Zyj _).mp (ZzD.mp hx y (Zxa.mp hy)))).trans e
section
variable {σ:Zx}{Bx:YM}{K:List (Nat × List Nat)}{m:Nat->List Nat}{R l1 l2 L:List Nat}{a b A B:Nat}
theorem DtS.set(h:DtS σ Bx K m R l1 l2 L a b A B){x:oO}  (hx:((["kinds","row","text","sizes","ends","marks","least","great"]:List oO).all λy=>!(y==x))=true):DtS (σ.set x v) Bx K m R l1 l2 L a b A B:=by
 have k:∀y:oO,(["kinds","row","text","sizes","ends","marks","least","great"]:List oO).contains y=true->∀{o},σ y=o->(σ.set x v) y=o:=λ_ hy _=>Fc hx hy
 exact⟨⟨⟨k _ rfl h.kinds,k _ rfl h.row,k _ rfl h.text,k _ rfl h.sizes⟩,k _ rfl h.ends,k _ rfl h.marks,k _ rfl h.least⟩,k _ rfl h.great⟩
end
theorem Py   (hy:Zk y=[c])(hc:c∉Zk x)(hz:x.length<=Zzx):I1 "split" (.val (.str x)) [.val (.str y)]=some (.lst [.str x]):=by
 have hl:y.length=1:=by rw[<-ZJ,hy];rfl
 have ho:∀k,Zze x y 0 x.length (k+1)=[]:=λk=>by
  rw[occ_eq _ _ _ _ _ (by rw[hl];decide),hy]
  refine Vs ?_
  cases hf:Z0 (Zk x) [c] 0 x.length with
  |none=>rfl
  |some p=>exact absurd (Zyl ((YD hf).2.2.subset (.head _))) hc
 have hs:ZyI x y=[x]:=by
  unfold ZyI
  rw[ho]
  split
  ·rfl
  ·rfl
 show (if y.length≠0/\x.length<=Zzx/\(Zz7 x (Zze x y 0 x.length (x.length+1)) y.length).length<=Zzx then some (PV.lst ((ZyI x y).map .str)) else none)=_
 rw[hs]
 refine if_pos ⟨by rw[hl];decide,hz,?_⟩
 rw[CP,ho,ZzS];exact (show 1<=16777216 by decide)
theorem vI  :We (tx [nm],v)=tx (nm::58::32::Zk v):=Wn (by rw[Lm,Zp,Zp];rfl)
theorem F5  (h:n<100):34∉dg n:=λm=>absurd ((Vj n h).2.2 _ m).1 oD
section
variable {nm p n:Nat}(NQ:nm≠34)(hp:p<100)(hn:n<100)
include NQ hp hn
theorem LR:I1 "split" (.val (.str (tx (nm::58::32::Vn p n)))) [.val (.str "\"")]=some (.lst [.str (tx (nm::Zk ": whole; read-from=")),.str (tx (dg p)),.str "; read-size=",.str (tx (dg n)),.str ""]):=by
 refine (DF (y:="\"") (c:=34) (d:=[]) (W:=[tx (nm::Zk ": whole; read-from="),tx (dg p),"; read-size=",tx (dg n),""]) rfl (Iv oD) (show 2<=5 by decide) (show 5<=1000 by decide) ?_ ?_ ?_)
 ·rw[Zp]
  simp only[ZzG,Zxw,YC,Zp,Vn,Zzo]
  rfl
 ·refine Zi ?_ (Zi (by rw[Zp];exact F5 hp) (Zi oD (Zi (by rw[Zp];exact F5 hn) (Zi oD YT))))
  rw[Zp];exact λm=>(ZzN.mp m).elim (λm=>NQ m.symm) λm=>absurd m oD
 ·rw[Zn];exact ZT (Zm (Zzg (Ma hp hn) 3))
theorem EM:I1 "split" (.val (.str (tx (nm::58::32::Jj p n)))) [.val (.str "\"")]=some (.lst [.str (tx (nm::Zk ": read-from=")),.str (tx (dg p)),.str "; read-size=",.str (tx (dg n)),.str "; lapping"]):=by
 refine (DF (y:="\"") (c:=34) (d:=[]) (W:=[tx (nm::Zk ": read-from="),tx (dg p),"; read-size=",tx (dg n),"; lapping"]) rfl (Iv oD) (show 2<=5 by decide) (show 5<=1000 by decide) ?_ ?_ ?_)
 ·rw[Zp]
  simp only[ZzG,Zxw,YC,Zp,Jj,Zzo]
  rfl
 ·refine Zi ?_ (Zi (by rw[Zp];exact F5 hp) (Zi oD (Zi (by rw[Zp];exact F5 hn) (Zi oD YT))))
  rw[Zp];exact λm=>(ZzN.mp m).elim (λm=>NQ m.symm) λm=>absurd m oD
 ·rw[Zn];exact ZT (Zm (Zzg (BH hp hn) 3))
end
structure J9(σ:Zx)(Bx:YM)(K:List (Nat × List Nat))(m:Nat->List Nat)(R l1 l2 L:List Nat)(a b A B:Nat)(ln told:List Nat)(j:Nat):Prop extends DtS σ Bx K m R l1 l2 L a b A B where
 line:σ "line"=some (.val (.str (tx ln)))
 told:σ "told"=some (.val (.str (tx told)))
 number:σ "number"=some (.val (.int (j:Nat)))
theorem J9.set   {K:List (Nat × List Nat)}    {ln told:List Nat}  (h:J9 σ Bx K m R l1 l2 L a b A B ln told j)   (hx:((["kinds","row","text","sizes","ends","marks","least","great","line","told","number"]:List oO).all λy=>!(y==x))=true):
 J9 (σ.set x v) Bx K m R l1 l2 L a b A B ln told j:=by
 have h8:((["kinds","row","text","sizes","ends","marks","least","great"]:List oO).all λy=>!(y==x))=true:=ZzD.mpr λy hy=>by
  have:=List.mem_append_left (["line","told","number"]:List oO) hy
  exact ZzD.mp hx y this
 exact⟨h.toDtS.set h8,Fc hx rfl h.line,Fc hx rfl h.told,Fc hx rfl h.number⟩
theorem Nn  (h:x=y):ZE .NotEq (.val (.str x)) (.val (.str y))=some false:=by rw[TH,D5,decide_eq_true h];rfl
def VW(p n:Nat):oO:=((("read-from=\""++tx (dg p))++"\"; read-size=\"")++tx (dg n))++"\""
theorem Li(p n:Nat):Zk (VW p n)=Zk "read-from=\""++(dg p++(Zk "\"; read-size=\""++(dg n++Zk "\""))):=by
 unfold VW;rw[YK,YK,YK,YK,Zp,Zp];simp only[Zzo]
theorem Pa(p n:Nat):(": whole; ":oO)++VW p n=tx (58::32::Vn p n):=Wn (by
 rw[YK,Li,Zp,Vn,<-Zzo];rfl)
theorem ui(p n:Nat):((": ":oO)++VW p n)++"; lapping"=tx (58::32::Jj p n):=Wn (by
 rw[YK,YK,Li,Zp,Jj]
 simp only[Zzo];rfl)
section
variable {c:Zzq}{b1:Int->Bool}{b3:Int->Option oO}{Bx:YM}{S:Sg}{K:List (Nat × List Nat)}{σ:Zx}{m:Nat->List Nat}{R l1 l2 L:List Nat}{a b A B:Nat}{g n j nm:Nat}{Q:Zx->Prop}
theorem sD(H:Xm c b1 b3 Bx S)(hs:J9 σ Bx K m R l1 l2 L a b A B (nm::58::32::Zk (XE (txt m R) g n)) ((txt m R).take g) j)(hT:(txt m R).length<=63)(hv:V (txt m R) g (g+n+1))(NQ:nm≠34)
 (h:∀(σ:Zx) (p:Nat),J9 σ Bx K m R l1 l2 L a b A B (nm::58::32::Zk (XE (txt m R) g n)) ((txt m R).take g) j->σ "place"=some (.val (.int p))->(0<n->p=pl (txt m R) g n)->σ "size"=some (.val (.int (n:Nat)))->Runs (LT c S) 39 (Yq 22) σ (IK 5) Q):
 Runs (LT c S) 44 (Yq 22) σ (IK 0) Q:=by
 generalize hb:IK 0=bo
 have h4:IK 5=bo.drop 5:=by rw[<-hb];rfl
 rw[h4] at h
 clear h4
 conv at hb=>lhs;whnf
 subst hb
 have m2:=H.len
 have ps:=Iz hv hT
 have sl:=hs.line;have st:=hs.told
 by_cases h0:n=0
 ·have vE:XE (txt m R) g n="new":=if_pos h0
  have hJ:34∉Zk (tx (nm::58::32::Zk (XE (txt m R) g n))):=by
   rw[Zp,vE];intro m
   rcases ZzN.mp m with m |m
   ·exact NQ m.symm
   ·exact absurd m oD
  have sp:=(H.mt "split" (tx (nm::58::32::Zk (XE (txt m R) g n))) [.val (.str "\"")]).trans (Py (c:=34) rfl hJ (by rw[Zn,vE,ZzS];exact (show 6<=16777216 by decide)))
  have cg:ZE .Gt (.val (.int ((1:Nat):Int))) (.val (.int 3))=some false:=by decide
  have ll:=(m2 (.lst [.str (tx (nm::58::32::Zk (XE (txt m R) g n)))])).trans (Hg (l:=[.str (tx (nm::58::32::Zk (XE (txt m R) g n)))]) (by rw[ZzS];exact (show 1<=16777216 by decide)))
  have s1:YL (.val (.str (tx (nm::58::32::Zk (XE (txt m R) g n))))) (some 1) none=some (.str ": new"):=(Q1 (by rw[Zn,vE,ZzS];exact (show 6<=16777216 by decide))).trans (by rw[Xp,show (1:Int)=((1:Nat):Int) from rfl,Uw,vE];rfl)
  have ne:=Nn (x:=": new") rfl
  refine Runs.next (Wa tT (VF rfl oW oW sp)) ?_
  refine Runs.next (Cg (xs:=["place","size"]) (ds:=[.int 0,.int 0]) ⟨rfl⟩ ⟨rfl⟩ tT oW ⟨rfl⟩) ?_
  refine Runs.next (Wa (d:=.str ": new") tT YR) ?_
  refine Runs.next (WX (Y1 tF (Yc tT oW ll) W4 cg) WV) ?_
  refine Runs.next (WX (Y1 tF oW oW ne) WV) ?_
  refine h _ 0 ?_ oW (λhc=>absurd h0 (ZzE hc)) (by rw[h0];exact J1 tT (N9 (N9 (Hj YG))))
  exact ((hs.set rfl).set (x:="place") rfl |>.set (x:="size") rfl).set rfl
 ·have vE:XE (txt m R) g n=if pl (txt m R) g n+n<=g then tx (Vn (pl (txt m R) g n) n) else tx (Jj (pl (txt m R) g n) n):=if_neg h0
  have hg:=Zzs (ZzI hv.1 hv.2.1)
  have bX:((txt m R).take g).length=g:=Zyc hg
  obtain⟨hp,hn⟩:=ps
  generalize oM:pl (txt m R) g n=p at *
  generalize XE (txt m R) g n=vv at *
  obtain⟨U,W,Z,FD,Rm,sW,pe,fd,pY,lv⟩:∃(U W Z FD:oO) (Rm:Bool),I1 "split" (.val (.str (tx (nm::58::32::Zk vv)))) [.val (.str "\"")]=some (.lst [.str U,.str (tx (dg p)),.str W,.str (tx (dg n)),.str Z])/\ZE .Gt (.val (.int ((p:Int)+(n:Int)))) (.val (.int (g:Int)))=some Rm/\(if Rm then ((": ":oO)++VW p n)++"; lapping" else (": whole; ":oO)++VW p n)=FD/\
   FD=tx (58::32::Zk vv)/\(Zk vv).length<=200:=by
   by_cases hf:p+n<=g
   ·rw[if_pos hf] at vE
    refine⟨_,_,_,_,false,by rw[vE,Zp];exact LR NQ hp hn,congrArg some (decide_eq_false (Fx hf)),rfl,by rw[vE,Zp];exact Pa p n,?_⟩
    rw[vE,Zp];exact Zm (Ma hp hn)
   ·rw[if_neg hf] at vE
    refine⟨_,_,_,_,true,by rw[vE,Zp];exact EM NQ hp hn,congrArg some (decide_eq_true (ZyC.mpr (Zwe hf))),rfl,by rw[vE,Zp];exact ui p n,?_⟩
    rw[vE,Zp];exact Zm (BH hp hn)
  have d1:=Vj p hp;have d2:=Vj n hn
  have sp:=(H.mt _ _ _).trans sW
  have i1:ZO (.val (.lst [.str U,.str (tx (dg p)),.str W,.str (tx (dg n)),.str Z])) (.int 1)=some (.str (tx (dg p))):=FQ (n:=1) I5 rfl oD
  have i3:ZO (.val (.lst [.str U,.str (tx (dg p)),.str W,.str (tx (dg n)),.str Z])) (.int 3)=some (.str (tx (dg n))):=FQ (n:=3) I5 rfl oD
  have cg:ZE .Gt (.val (.int ((5:Nat):Int))) (.val (.int 3))=some true:=by decide
  have ll:=(m2 (.lst [.str U,.str (tx (dg p)),.str W,.str (tx (dg n)),.str Z])).trans (Hg (l:=[.str U,.str (tx (dg p)),.str W,.str (tx (dg n)),.str Z]) (by rw[ZzS];exact (show 5<=16777216 by decide)))
  have n1:=(H.int _).trans (E1 hp)
  have n2:=(H.int _).trans (E1 hn)
  have t1:=(H.str _).trans (CU hp)
  have t2:=(H.str _).trans (CU hn)
  have d1:(dg p).length<=2:=d1.1
  have d2:(dg n).length<=2:=d2.1
  have b1:(("read-from=\"":oO)++tx (dg p)).length<=13:=by rw[len_app,Zn];exact Zzr d1 11
  have b2:((("read-from=\"":oO)++tx (dg p))++"\"; read-size=\"").length<=27:=by rw[len_app];exact Zzg b1 14
  have b3:(((("read-from=\"":oO)++tx (dg p))++"\"; read-size=\"")++tx (dg n)).length<=29:=by rw[len_app,Zn];exact Zyy b2 d2
  have q7:(VW p n).length<=30:=by unfold VW;rw[len_app];exact Zzg b3 1
  have q8:((": ":oO)++VW p n).length<=32:=by rw[len_app];exact Zzr q7 2
  have a1:=Us (x:="read-from=\"") (y:=tx (dg p)) (by rw[Zn];exact ZT (Zm (Zzr d1 11)))
  have a2:=Us (x:="read-from=\""++tx (dg p)) (y:="\"; read-size=\"") (ZT (Zm (Zzg b1 14)))
  have a3:=Us (x:=("read-from=\""++tx (dg p))++"\"; read-size=\"") (y:=tx (dg n)) (by rw[Zn];exact ZT (Zm (Zyy b2 d2)))
  have a4:YS .Add (.val (.str ((("read-from=\""++tx (dg p))++"\"; read-size=\"")++tx (dg n)))) (.val (.str "\""))=some (.str (VW p n)):=Us (ZT (Zm (Zzg b3 1)))
  have a5:=Us (x:=": whole; ") (y:=VW p n) (ZT (Zm (Zzr q7 9)))
  have a6:=Us (x:=": ") (y:=VW p n) (ZT (Zm (Zzr q7 2)))
  have a7:=Us (x:=": "++VW p n) (y:="; lapping") (ZT (Zm (Zzg q8 9)))
  have ib:ZO (.val (.lst [.str (": whole; "++VW p n),.str ((": "++VW p n)++"; lapping")])) (.bool Rm)=some (.str FD):=by rw[<-fd];cases Rm<;>rfl
  have lt:S.cl "len" [.val (.str (tx ((txt m R).take g)))]=some (.int (g:Nat)):=(m2 _).trans ((ID (by rw[Zn,bX];exact ZT (oP hg (Zm hT)))).trans (by rw[Zn,bX]))
  have s1:YL (.val (.str (tx (nm::58::32::Zk vv)))) (some 1) none=some (.str FD):=(Q1 (by rw[Zn];exact ZT (Zm (Zzg lv 3)))).trans (by rw[Xp,show (1:Int)=((1:Nat):Int) from rfl,Uw,pY];rfl)
  have ne:=Nn (x:=FD) rfl
  clear b1 b2 b3 q7 q8 d1 d2
  refine Runs.next (Wa tT (VF rfl oW oW sp)) ?_
  refine Runs.next (Cg (xs:=["place","size"]) (ds:=[.int 0,.int 0]) ⟨rfl⟩ ⟨rfl⟩ tT oW ⟨rfl⟩) ?_
  refine Runs.next (Wa (d:=.str ": new") tT YR) ?_
  refine Runs.qw (R:=λσ=>J9 σ Bx K m R l1 l2 L a b A B (nm::58::32::Zk vv) ((txt m R).take g) j/\σ "place"=some (.val (.int (p:Nat)))/\σ "size"=some (.val (.int (n:Nat)))/\σ "due"=some (.val (.str FD))) (Y1 tF (Yc tT oW ll) W4 cg) ?_ ?_
  ·refine Runs.next (Cg (xs:=["place","size"]) (ds:=[.int (p:Nat),.int (n:Nat)]) ⟨rfl⟩ ⟨rfl⟩ tT (B2 (VO tT (Yc tT (Yv tT (X8 tT oW W4 i1) Xi) n1) (VO tT (Yc tT (Yv tT (X8 tT oW W4 i3) Xi) n2) Jo)) rfl) ⟨rfl⟩) ?_
   refine Runs.next (Wa (d:=.str (VW p n)) tT (X9 (X9 (X9 (X9 YR (Yc tT oW t1) a1) YR a2) (Yc tT oW t2) a3) YR a4)) ?_
   refine Runs.next (Wa (d:=.str FD) tT (X8 tT (UI (VO tT (X9 YR oW a5) (VO tT (X9 (X9 YR oW a6) YR a7) Jo)) rfl) (Dt tF oW oW pe) ib)) (Runs.nil ⟨?_,by walk_at "ex",by walk_at "ex",by walk_at "ex"⟩)
   exact ((((((((hs.set rfl).set (x:="place") rfl).set (x:="size") rfl).set rfl).set (x:="place") rfl).set (x:="size") rfl).set rfl).set rfl)
  ·rintro σ ⟨hs,r1,r2,r3⟩
   have sl:=hs.line
   refine Runs.next (WX (Y1 tF oW oW ne) WV) ?_
   exact h _ p hs r1 (λ_=>rfl) r2
end
theorem xu  :ZO (.val (.str (tx (x::l)))) (.int 0)=some (.str (tx [x])):=by
 rw[PC]
 refine (if_pos (H9 oD oD)).trans ?_
 rw[Zn,Zyw,jV];rfl
theorem d8   (h:l[l.length-1]?=some x):ZO (.val (.str (tx l))) (.int (-1))=some (.str (tx [x])):=by
 have hl:0<l.length:=by
  rcases l with _ |⟨y,l⟩
  ·cases h
  ·exact Zxg _
 rw[PC]
 refine (if_pos (H9 oD oD)).trans ?_
 have:seqIndex? (-1) (tx l).length=some (l.length-1):=by
  rw[Zn]
  show (if (decide (0<=(-1:Int)+l.length)&&decide ((-1:Int)+l.length<l.length))=true then some ((-1:Int)+l.length).toNat else none)=_
  rw[show (-1:Int)+l.length=((l.length-1:Nat):Int) from (ZwN _ _).trans (cP hl)]
  exact if_pos (Zyb.mpr ⟨decide_eq_true (ZzJ _),decide_eq_true (ZyC.mpr (Zvf hl ZvX))⟩)
 rw[this,Zzb]
 show (l.toArray[l.length-1]?).map _=_
 rw[ZuJ,h];rfl
theorem take_one{T:List Nat}  (h:j<T.length):T.take j++[T.getD j 0]=T.take (j+1):=by
 rw[Zwf,gD,gE h];rfl
section
variable {c:Zzq}{b1:Int->Bool}{b3:Int->Option oO}{Bx:YM}{S:Sg}{K:List (Nat × List Nat)}{σ:Zx}{m:Nat->List Nat}{R l1 l2 L:List Nat}{a b A B:Nat}{g n j nm p:Nat}{Q:Zx->Prop}{ln tl yr:List Nat}
theorem J9.tell(h:J9 σ Bx K m R l1 l2 L a b A B ln tl j):J9 (σ.set "told" (.val (.str (tx yr)))) Bx K m R l1 l2 L a b A B ln yr j:=
 ⟨h.toDtS.set rfl,(Zx.ne rfl).trans h.line,YG,(Zx.ne rfl).trans h.number⟩
theorem sF(H:Xm c b1 b3 Bx S)(hs:J9 σ Bx K m R l1 l2 L a b A B (nm::ln) ((txt m R).take g) j)(s1:σ "place"=some (.val (.int (p:Nat))))(s2:σ "size"=some (.val (.int (n:Nat))))(hp:0<n->p=pl (txt m R) g n)(hT:(txt m R).length<=63)(hv:V (txt m R) g (g+n+1))
 (hm:UG b3 nm=tx [(txt m R).getD (g+n) 0]) (h:∀σ,J9 σ Bx K m R l1 l2 L a b A B (nm::ln) ((txt m R).take (g+n+1)) j->σ "left"=some (.val (.str (tx ((txt m R).drop (g+n+1)))))->Runs (LT c S) 36 (Yq 22) σ (IK 8) Q):Runs (LT c S) 39 (Yq 22) σ (IK 5) Q:=by
 generalize hb:IK 5=bo
 have h4:IK 8=bo.drop 3:=by rw[<-hb];rfl
 rw[h4] at h
 clear h4
 conv at hb=>lhs;whnf
 subst hb
 have m2:=H.len
 have v2:=hv.2.1
 have i1:ZF (-(2 ^ 62)) (2 ^ 62) ((n:Nat):Int)=true:=Dh (oP (ZzV n g) (oP (Zyx v2) (Zm hT)))
 refine Runs.for (ds:=ZR 0 ((n:Nat):Int)) (P:=λi σ=>J9 σ Bx K m R l1 l2 L a b A B (nm::ln) ((txt m R).take (g+i)) j/\σ "place"=some (.val (.int (p:Nat)))) rfl rfl rfl (Hq tT oW i1) ⟨hs,s1⟩ ?_ ?_
 ·rintro i d σ hi ⟨hs,s1⟩
  obtain⟨rfl,IT⟩:=DU hi
  rw[Zuv] at IT
  have R8:=ZyC.mp IT
  have hn:=ZvN R8
  obtain⟨_,q1,q2,_⟩:=Kl hv hn
  rw[<-hp hn] at q1 q2
  have oc:=Eg q2 R8
  have st:=hs.told
  have gi:g+i<(txt m R).length:=ZzI (Zqj R8 g) (Zyx v2)
  have pg:=ZxM q1 i
  have ni:g+i<=63:=oP (Zzs gi) hT
  have tl:((txt m R).take (g+i)).length=g+i:=Zyc (Zzs gi)
  have ge:((txt m R).take (g+i)).getD (p+i) 0=(txt m R).getD (g+i) 0:=by
   rw[gD,gD,Zwx pg,oc]
  have it:ZO (.val (.str (tx ((txt m R).take (g+i))))) (.int ((p:Int)+(0+(i:Int))))=some (.str (tx [(txt m R).getD (g+i) 0])):=by
   rw[Int.zero_add,show (p:Int)+(i:Int)=((p+i:Nat):Int) from rfl,item_at (by rw[tl];exact pg) (by rw[tl];exact Zm ni),ge]
  have ad:JS .Add (.str (tx ((txt m R).take (g+i)))) (.str (tx [(txt m R).getD (g+i) 0]))=some (.str (tx ((txt m R).take (g+(i+1))))):=(yg (by rw[Zn,Zn,tl];exact ZT (Zm (ZzX ni)))).trans (by rw[Kf,take_one gi];rfl)
  clear ge tl oc
  exact Runs.next (Ds tT oW (X8 tT oW (X9 oW oW Mk) it) ad) (Runs.nil ⟨(hs.set rfl).tell,by walk_at "ex"⟩)
 ·rintro σ ⟨hs,s1⟩
  rw[GV,Zuv,Zxu] at hs
  have st:=hs.told;have sl:=hs.line;have sx:=hs.text
  rw[Zye] at sx
  have tl:((txt m R).take (g+n)).length=g+n:=Zyc (Zyx v2)
  have uW:((txt m R).take (g+n+1)).length=g+n+1:=Zyc v2
  have i0:=@xu nm ln
  have mp:=(jP H nm).trans (by rw[hm])
  have ad:JS .Add (.str (tx ((txt m R).take (g+n)))) (.str (tx [(txt m R).getD (g+n) 0]))=some (.str (tx ((txt m R).take (g+n+1)))):=(yg (by rw[Zn,Zn,tl];exact ZT (oP v2 (Zm hT)))).trans (by rw[Kf,take_one v2])
  have oA:S.cl "len" [.val (.str (tx ((txt m R).take (g+n+1))))]=some (.int (g+n+1:Nat)):=(m2 _).trans ((ID (by rw[Zn,uW];exact ZT (oP v2 (Zm hT)))).trans (by rw[Zn,uW]))
  have oG:YL (.val (.str (tx (txt m R)))) (some ((g+n+1:Nat):Int)) none=some (.str (tx ((txt m R).drop (g+n+1)))):=(Q1 (V2 hT oD)).trans (by rw[Xp,Uw])
  clear tl uW
  refine Runs.next (Ds tT oW (Yc tT (Yv tT (X8 tT oW W4 i0) Xi) mp) ad) ?_
  refine Runs.next (Wa tT oW) ?_
  exact h _ (hs.tell.set rfl) YG
end
theorem xW  (WS:a≠b)(h:ch=a∨ch=b):FO [tx [a],tx [b]] [.str (tx [A]),.str (tx [B])] (tx [ch])=some (.str (tx [Xn a A B ch])):=by
 unfold Xn
 rcases h with rfl |rfl
 ·show (bif tx [ch]==tx [ch] then _ else _)=_
  rw[beq_self_eq_true,if_pos rfl];rfl
 ·have e1:(tx [a]==tx [ch])=false:=by
   rw[beq_eq_false_iff_ne];intro e;exact WS (Zwp (G1 e)).1
  show (bif tx [a]==tx [ch] then _ else (bif tx [ch]==tx [ch] then _ else _))=_
  rw[e1,beq_self_eq_true,if_neg (Zv7 WS)];rfl
section
variable {T:List Nat}{e x:Nat}
theorem O5(he:e<=T.length):T.take e++[x]<+:T<->T[e]?=some x:=by
 rw[ZwR,Zzd,ZxP,Zy1 he]
 show T.take e++[x]=T.take (e+1)<->_
 rw[Zwf,List.append_cancel_left_eq]
 cases T[e]? with
 |none=>simp
 |some y=>simp [eq_comm]
theorem MT:(T.drop e).take 1=[x]<->T[e]?=some x:=by
 rw[show (1:Nat)=0+1 from rfl,Zwf,ZwA]
 show []++T[e]?.toList=[x]<->_
 cases T[e]? with
 |none=>simp
 |some y=>simp
theorem Oe  (h1:0<e)(he:e<=T.length)(hc:T[e-1]?=some ch):x::T.drop e<:+T<->ch=x:=by
 rw[Zua,Zyw,ZzM,show T.length-(T.length-e+1)=e-1 from (Nat.sub_sub _ _ 1).symm.trans (congrArg (·-1) (Zuj he))]
 obtain⟨h2,h3⟩:=Zyt.mp hc
 rw[ZwZ h2,h3,Zxn h1]
 exact⟨λh=>(Zwp h).1.symm,λh=>by rw[h]⟩
end
section
variable {c:Zzq}{b1:Int->Bool}{b3:Int->Option oO}{Bx:YM}{S:Sg}{K:List (Nat × List Nat)}{σ:Zx}{m:Nat->List Nat}{R l1 l2 L:List Nat}{a b A B:Nat}{e j ch:Nat}{Q:Zx->Prop}{ln:List Nat}
theorem sG(H:Xm c b1 b3 Bx S)(hM:Gq c b1 b3 Bx S)(hs:J9 σ Bx K m R l1 l2 L a b A B (VZ (Xn a A B) j ch::ln) ((txt m R).take e) j)(s1:σ "left"=some (.val (.str (tx ((txt m R).drop e)))))(WS:a≠b)(ha:a≠46)(WI:b≠46)(hd:46∉txt m R)(hT:(txt m R).length<=63)
 (h1:0<e) (he:e<=(txt m R).length) (hc:(txt m R)[e-1]?=some ch) (Ca:ch=a∨ch=b) (h:∀σ,J9 σ Bx K m R l1 l2 L a b A B (VZ (Xn a A B) j ch::ln) ((txt m R).take e) j->Q σ):Runs (LT c S) 36 (Yq 22) σ (IK 8) Q:=by
 generalize hb:IK 8=bo
 conv at hb=>lhs;whnf
 subst hb
 have hx:=H.xe
 have sl:=hs.line;have st:=hs.told;have sx:=hs.text;have sg:=hs.great;have sn:=hs.number
 rw[Zye] at sx
 have tl:((txt m R).take e).length=e:=Zyc he
 have iL:ZO (.val (.str (tx ((txt m R).take e)))) (.int (-1))=some (.str (tx [ch])):=d8 (by rw[tl,Zwx (Zvf h1 ZvX),hc])
 have i0:=@xu (VZ (Xn a A B) j ch) ln
 have uE:=md (y:=2) 2 rfl oD j
 have NY:ZO (.val (.lst [.str (tx [ch]),.str (tx [Xn a A B ch])])) (.int ((j%2:Nat):Int))=some (.str (tx [VZ (Xn a A B) j ch])):=(HB I5).trans (by unfold VZ;split<;>rfl)
 have hg:=xW (A:=A) (B:=B) WS Ca
 have ne:=Nn (x:=tx [VZ (Xn a A B) j ch]) rfl
 have aw:ZE .NotEq (.val (.lst [])) (.val (.lst []))=some false:=rfl
 refine Runs.next (WX (Y1 tF (X8 tT oW W4 i0) (X8 tT (UI (VO tT (X8 tT oW oW iL) (VO tT (bT hx tT oW (X8 tT oW oW iL) oW (X8 tT oW oW iL) hg) Jo)) rfl) (X9 oW W4 uE) NY) ne) WV) ?_
 have bt:∀x∈[a,b],x≠46:=Zi ha (Zi WI YT)
 have z2:[a,b].length<=Zzx:=by rw[ZzS];exact (show 2<=16777216 by decide)
 have ld:((txt m R).drop e).length<=63:=by rw[ZzM];exact oP (Zyo _ _) hT
 have qB:=oP he hT
 refine Runs.next (WX (Y1 (a:=.val (.lst [])) tF ?_ (UI Jo rfl) aw) WV) ?_
 ·rw[show ([]:List PV)=[a,b].filterMap λ_=>none by simp]
  refine NN (f:=λx:Nat=>.str (tx [x])) (l:=[a,b]) (λ_=>none) rfl (Wv ["left","text","told"] rfl ?_) rfl (show Y4 _ _ _ _ _ _ _=some ([tx [a],tx [b]].map PV.str) from y6 H.xi tT sg) z2 λx hx=>?_
  ·rw[ZyF,ZyF,ZyF,s1,sx,st];rfl
  ·have em:S.cl "_ellipsis_match" [.val (.str ((tx ((txt m R).take e)++tx [x])++"...")),.val (.str (tx (txt m R)))]=some (.bool (decide ((txt m R)[e]?=some x))):=by
    rw[hM,Kf,pK (n:=100) Gk.toTab1 oD (W7 (λm=>(ZyN.mp m).elim (λm=>hd (Zy8 m)) λm=>bt x hx (Zz5.mp m).symm) (by rw[Zzd,tl];exact Zm (ZzX qB))) (W7 hd (Zm hT)) (by rw[Zn,Zzd];exact Zxg _),Ao]
    exact congrArg _ (congrArg _ (decide_eq_decide.mpr (O5 he)))
   have uI:YL (.val (.str (tx ((txt m R).drop e)))) none (some 1)=some (.str (tx (((txt m R).drop e).take 1))):=(Q1 (V2 ld oD)).trans (by rw[Xp,show (1:Int)=((1:Nat):Int) from rfl,Ka])
   have ce:ZE .Eq (.val (.str (tx (((txt m R).drop e).take 1)))) (.val (.str (tx [x])))=some (decide ((txt m R)[e]?=some x)):=by
    rw[Mq,D5]
    exact congrArg _ (decide_eq_decide.mpr ⟨λh=>MT.mp (G1 h),λh=>by rw[MT.mpr h]⟩)
   have a1:=Us (x:=tx ((txt m R).take e)) (y:=tx [x]) (by rw[Zn,Zn,tl];exact ZT (Zm (ZzX qB)))
   have a2:=Us (x:=tx ((txt m R).take e)++tx [x]) (y:="...") (by rw[len_app,Zn,Zn,tl];exact ZT (Zm (Zzg qB 4)))
   exact Gi (Y1 tF (Yc tT (Yv tT (X9 (X9 oW oW a1) YR a2) (Yv tT oW Xi)) em) (Dt tF (PX oW uC (uD W4) uI) oW ce) (Sd _))
 refine Runs.next (WX (Y1 (a:=.val (.lst [])) tF ?_ (UI Jo rfl) aw) WV) (Runs.nil (h _ hs))
 ·rw[show ([]:List PV)=[a,b].filterMap λ_=>none by simp]
  refine NN (f:=λx:Nat=>.str (tx [x])) (l:=[a,b]) (λ_=>none) rfl (Wv ["left","text","told"] rfl ?_) rfl (show Y4 _ _ _ _ _ _ _=some ([tx [a],tx [b]].map PV.str) from y6 H.xi tT sg) z2 λx hx=>?_
  ·rw[ZyF,ZyF,ZyF,s1,sx,st];rfl
  ·have em:S.cl "_ellipsis_match" [.val (.str (("..."++tx [x])++tx ((txt m R).drop e))),.val (.str (tx (txt m R)))]=some (.bool (decide (ch=x))):=by
    rw[hM,show ((("...":oO)++tx [x])++tx ((txt m R).drop e))="..."++tx (x::(txt m R).drop e) from Wn (by rw[YK,YK,YK,Zp,Zp,Zp,Zzo];rfl),
     pC (n:=100) Gk.toTab1 oD (W7 (λm=>(ZzN.mp m).elim (λm=>bt x hx m.symm) λm=>hd (Zyl m)) (Zm (ZzX ld))) (W7 hd (Zm hT)) (by rw[Zn];exact Zxg _),Fd]
    exact congrArg _ (congrArg _ (decide_eq_decide.mpr (Oe h1 he hc)))
   have ce:ZE .Eq (.val (.str (tx [ch]))) (.val (.str (tx [x])))=some (decide (ch=x)):=by
    rw[Mq,D5]
    exact congrArg _ (decide_eq_decide.mpr ⟨λh=>(Zwp (G1 h)).1,λh=>by rw[h]⟩)
   have a1:=Us (x:="...") (y:=tx [x]) (by rw[Zn];exact ZT (oD:3+1<=10000))
   have a2:=Us (x:="..."++tx [x]) (y:=tx ((txt m R).drop e)) (by rw[len_app,Zn,Zn];exact ZT (Zm (Zzr ld 4)))
   exact Gi (Y1 tF (Yc tT (Yv tT (X9 (X9 YR oW a1) oW a2) (Yv tT oW Xi)) em) (Dt tF (X8 tT oW oW iL) oW ce) (Sd _))
end
theorem uv   {d:PV}(h:(Va ds)[j]?=some d):∃y,ds[j]?=some y/\d=.tup [.int (j:Nat),y]:=by
 unfold Va at h
 rw[Zyk,List.getElem?_zipIdx] at h
 cases e:ds[j]? with
 |none=>rw[e] at h;cases h
 | some y=>
   rw[e] at h
   refine⟨y,rfl,?_⟩
   have:=(Zzv h).symm
   rw[this,ZzP]
theorem zj(ds:List PV):(Va ds).length=ds.length:=by unfold Va;simp
theorem chain_last    (h:Chain T b l):b<=T.length->(b::l).getD l.length 0=T.length:=by
 induction h with
 |done hb=>exact λh=>ZyM h hb
 |step m _ ih=>exact λ_=>ih m.1.2.1
theorem AQ(l:List Nat)(j:Nat):(0::l).getD (j+1) 0=l.getD j 0:=rfl
section
variable {b1:Int->Bool}{b3:Int->Option oO}{K:List (Nat × List Nat)}{a b A B:Nat}
theorem Qk.mem(hK:Qk b1 b3 K a b A B):∀x∈[(a,[a]),(b,[b]),(A,[a]),(B,[b])],x∈K.take 7:=λx hx=>by
 rw[<-hK.head,show K.take 4=(K.take 7).take 4 by rw[ZvZ];rfl] at hx
 exact Zy8 hx
theorem Qk.lI(hK:Qk b1 b3 K a b A B)  (h:ch=a∨ch=b)(j:Nat):UG b3 (VZ (Xn a A B) j ch)=tx [ch]:=by
 have m:=hK.mem
 unfold VZ Xn
 rcases h with rfl |rfl
 ·split
  ·exact hK.b3 _ (m _ (.head _))
  ·rw[if_pos rfl];exact hK.b3 _ (m _ (.tail _ (.tail _ (.head _))))
 ·split
  ·exact hK.b3 _ (m _ (.tail _ (.head _)))
  ·rw[if_neg (Zv7 hK.ab)];exact hK.b3 _ (m _ (.tail _ (.tail _ (.tail _ (.head _)))))
theorem Qk.J3(hK:Qk b1 b3 K a b A B)  (h:ch=a∨ch=b):J3 ch/\L2.J3 (Xn a A B ch):=by
 have m:=λx hx=>hK.ok x (Zy8 (hK.mem x hx))
 unfold Xn
 rcases h with rfl |rfl
 ·exact⟨m _ (.head _),by rw[if_pos rfl];exact m _ (.tail _ (.tail _ (.head _)))⟩
 ·exact⟨m _ (.tail _ (.head _)),by rw[if_neg (Zv7 hK.ab)];exact m _ (.tail _ (.tail _ (.tail _ (.head _))))⟩
end
section
variable {c:Zzq}{b1:Int->Bool}{b3:Int->Option oO}{Bx:YM}{S:Sg}{d:PV}{K:List (Nat × List Nat)}{σ:Zx}{m:Nat->List Nat}{R l1 l2 L:List Nat}{a b A B:Nat}
theorem lC(H:Xm c b1 b3 Bx S)(hM:Gq c b1 b3 Bx S)(hK:Qk b1 b3 K a b A B)(hs:DtS σ Bx K m R l1 l2 L a b A B)(hp:KG (txt m R) (Xn a A B) l1)(WS:∀ch∈txt m R,ch=a∨ch=b)(hd:46∉txt m R)
 (s1:σ "lines"=some (.val (.lst ((Xx (txt m R) (Xn a A B) l1++([ "",""]:List oO)).map .str)))) (s2:σ "told"=some (.val (.str "")))
 (h:∀σ,DtS σ Bx K m R l1 l2 L a b A B->σ "told"=some (.val (.str (tx (txt m R))))->Gives (LT c S) 45 (Yq 22) σ (Vu 15) d):Gives (LT c S) 46 (Yq 22) σ (Vu 14) d:=by
 generalize hb:Vu 14=bo
 have h4:Vu 15=bo.drop 1:=by rw[<-hb];rfl
 rw[h4] at h
 clear h4
 conv at hb=>lhs;whnf
 subst hb
 have lc:=Vr hp.ch (Zz3 _)
 have Cs:=hp.len
 have wz:((Xx (txt m R) (Xn a A B) l1++([ "",""]:List oO)).map PV.str).length<=Zzx:=by rw[Zzm,Zzd,U5];exact ZT (Zm (Zzg (oP (ZzP l1.length ▸ lc) Cs) 2))
 have we:Yk none (some (-2)) ((Xx (txt m R) (Xn a A B) l1++([ "",""]:List oO)).map PV.str)=(Xx (txt m R) (Xn a A B) l1).map PV.str:=by
  have:=HZ (m:=2) (l:=(Xx (txt m R) (Xn a A B) l1++([ "",""]:List oO)).map PV.str) oD
  refine this.trans ?_
  rw[Zz9,Zzd]
  exact List.take_left' (by simp)
 have sw:=(Af (a:=none) (b:=some (-2)) wz).trans (congrArg (λl=>some (PV.lst l)) we)
 refine Gives.PR (ds:=Va ((Xx (txt m R) (Xn a A B) l1).map PV.str)) (P:=λj σ=>DtS σ Bx K m R l1 l2 L a b A B/\σ "told"=some (.val (.str (tx ((txt m R).take ((0::l1).getD j 0)))))) tT tT rfl (fT H.xi H.enum ⟨by rw[H.xe];rfl⟩ tT oW) ⟨hs,s2⟩ ?_ ?_
 ·rintro j d σ hj ⟨hs,st⟩
  obtain⟨y,hy,rfl⟩:=uv hj
  refine⟨_,_,rfl,?_⟩
  rw[Zyk] at hy
  obtain⟨ln,zR,rfl⟩:=mS hy
  have IH:j<l1.length:=by
   have:=(Zyt.mp zR).1
   rwa [U5] at this
  have hle:ln=We (ent (txt m R) (Xn a A B) l1 j):=by
   unfold Xx Fy at zR
   rw[Zyk,Zyk,Zv3 IH] at zR
   exact (Zzv zR).symm
  obtain⟨mv,KU,IM⟩:=hp.at IH
  rw[hle,show ent (txt m R) (Xn a A B) l1 j=(tx [VZ (Xn a A B) j ((txt m R).getD (l1.getD j 0-1) 0)],XE (txt m R) ((0::l1).getD j 0) (l1.getD j 0-1-(0::l1).getD j 0)) from rfl,vI,AQ]
  have hv:=mv.1
  have Ca:=WS _ KU
  have aC:=hK.lI Ca j
  generalize (0::l1).getD j 0=g at *
  generalize l1.getD j 0=e at *
  obtain⟨n,rfl⟩:=ZyV hv.1
  have v2:=hv.2.1
  rw[Nat.add_sub_cancel] at KU IM aC Ca ⊢
  rw[Zz2]
  have hc:(txt m R)[g+n]?=some ((txt m R).getD (g+n) 0):=by rw[gD,gE v2];rfl
  generalize (txt m R).getD (g+n) 0=ch at *
  have oa:=(hK.J3 (.inl rfl)).1.2.2
  have pO:=(hK.J3 (.inr rfl)).1.2.2
  show Runs (LT c S) 44 (Yq 22) _ (IK 0) _
  refine sD H (j:=j) ⟨(hs.set rfl).set rfl,by walk_at "ex",by walk_at "ex",by walk_at "ex"⟩ Cs hv IM.2.1 λσ p hr r1 r2 r3=>?_
  refine sF H hr r1 r3 r2 Cs hv (aC.trans (by rw[gD,hc];rfl)) λσ hr r4=>?_
  exact sG H hM hr r4 hK.ab oa pO hd Cs (Zxg _) v2 hc Ca λσ hr=>⟨hr.toDtS,hr.told⟩
 ·rintro σ ⟨hs,st⟩
  rw[zj,Zzm,U5,chain_last hp.ch (Zz3 _),Zye] at st
  exact h σ hs st
end
theorem vp  (h:46∉Zk s):ZyY s "..."=false:=by
 unfold ZyY
 rw[occ_eq _ _ _ _ _ oD]
 have:Z0 (Zk s) (Zk "...") 0 s.length=none:=by
  cases hf:Z0 (Zk s) (Zk "...") 0 s.length with
  |none=>rfl
  |some p=>exact absurd (Zyl ((YD hf).2.2.subset (show 46∈Zk "..." by decide))) h
 rw[Vs this];rfl
theorem iq   (WS:a≠b)(ha:a∈T)(hb:b∈T):T.drop 1++[T.getD 0 0]≠T:=by
 intro e
 have h0:0<T.length:=Zu6 ha
 have all:∀i,i<T.length->T[i]?=some (T.getD 0 0):=by
  intro i
  induction i with
  |zero=>intro h;rw[gD,gE h];rfl
  | succ i ih=>
    intro h
    have:=ih (Zq5 h)
    have e':(T.drop 1++[T.getD 0 0])[i]?=T[i]?:=by rw[e]
    rw[ZwW (by rw[ZzM];exact Nat.lt_sub_of_add_lt h),ZwA,ZzT 1 i] at e'
    exact e'.trans this
 obtain⟨i,hi,ei⟩:=Zqk ha
 obtain⟨j,hj,ej⟩:=Zqk hb
 have e1:=all i hi;have e2:=all j hj
 rw[gE hi,ei] at e1
 rw[gE hj,ej] at e2
 exact WS ((Zzv e1).trans (Zzv e2).symm)
theorem ig     {st:Bool}     (h:Up S n sc σ st (.List es p)=some ds):Y4 S (n+1) sc σ st (.Name x p1) (.List es p)=some ds:=V9 h
section
variable {c:Zzq}{b1:Int->Bool}{b3:Int->Option oO}{Bx:YM}{S:Sg}{d:PV}{K:List (Nat × List Nat)}{σ:Zx}{m:Nat->List Nat}{R l1 l2 L:List Nat}{a b A B:Nat}
theorem lD(H:Xm c b1 b3 Bx S)(hM:Gq c b1 b3 Bx S)(hs:DtS σ Bx K m R l1 l2 L a b A B)(hT:(txt m R).length<=63)(hd:46∉txt m R)(WS:a≠b)(ha:a∈txt m R)(WI:b∈txt m R)(st:σ "told"=some (.val (.str (tx (txt m R)))))
 (h:∀σ,DtS σ Bx K m R l1 l2 L a b A B->σ "spent"=some (.val (.int (0:Nat)))->Gives (LT c S) 43 (Yq 22) σ (Vu 17) d):Gives (LT c S) 45 (Yq 22) σ (Vu 15) d:=by
 generalize hb:Vu 15=bo
 have h4:Vu 17=bo.drop 2:=by rw[<-hb];rfl
 rw[h4] at h
 clear h4
 conv at hb=>lhs;whnf
 subst hb
 have sx:=hs.text
 rw[Zye] at sx
 have h0:0<(txt m R).length:=Zu6 ha
 have rn:=iq WS ha WI
 generalize oH:txt m R=T at *
 have ne:=Nn (x:=tx T) rfl
 have f1:(tx T).length<=Zzx:=V2 hT oD
 have c1:YL (.val (.str (tx T))) (some 1) none=some (.str (tx (T.drop 1))):=(Q1 f1).trans (by rw[Xp,show (1:Int)=((1:Nat):Int) from rfl,Uw])
 have c2:YL (.val (.str (tx T))) none (some (-1))=some (.str (tx (T.take (T.length-1)))):=(Q1 f1).trans (by rw[Xp];exact congrArg (λl=>some (PV.str (tx l))) (HZ (m:=1) (l:=T) oD))
 have c3:ZO (.val (.str (tx T))) (.int 0)=some (.str (tx [T.getD 0 0])):=item_at (j:=0) h0 (Zm hT)
 have ld:(T.drop 1).length<=63:=by rw[ZzM];exact oP (Zyo _ _) hT
 have ae:=Zvf h0 ZvX
 have a1:YS .Add (.val (.str (tx (T.drop 1)))) (.val (.str (tx [T.getD 0 0])))=some (.str (tx (T.drop 1++[T.getD 0 0]))):=(Us (by rw[Zn,Zn];exact ZT (Zm (ZzX ld)))).trans (by rw[Kf])
 have t0:T.getD 0 0∈T:=by rw[gD,gE h0];exact Zvv _
 have em:∀x:List Nat,(∀y∈x,y∈T)->S.cl "_ellipsis_match" [.val (.str (tx x)),.val (.str (tx T))]=some (.bool (decide (x=T))):=λx hx=>by
  rw[hM,pI (n:=63) (s:=tx x) (got:=tx T) Gk.toTab1 oD (W7 hd hT) (vp (by rw[Zp];exact λm=>hd (hx _ m)))]
  exact congrArg _ (congrArg _ (decide_eq_decide.mpr ⟨G1,λh=>by rw[h]⟩))
 have pQ:=(em T λ_ h=>h).trans (by rw[decide_eq_true rfl])
 have pU:=(em (T.drop 1) λ_ h=>Zyl h).trans (by rw[decide_eq_false (λe=>ZzR ae (ZzM.symm.trans (congrArg ZyQ e)))])
 have pV:=(em (T.take (T.length-1)) λ_ h=>Zy8 h).trans (by rw[decide_eq_false (λe=>ZzR ae ((Zyc (Zyo _ _)).symm.trans (congrArg ZyQ e)))])
 have pW:=(em (T.drop 1++[T.getD 0 0]) λy h=>(ZyN.mp h).elim Zyl λh=>by rw[Zz5.mp h];exact t0).trans (by rw[decide_eq_false rn])
 have z4:[T,T.drop 1,T.take (T.length-1),T.drop 1++[T.getD 0 0]].length<=Zzx:=by rw[ZzS];exact (show 4<=16777216 by decide)
 have cq:ZE .NotEq (.val (.lst [.bool true,.bool false,.bool false,.bool false])) (.val (.lst [.bool true,.bool false,.bool false,.bool false]))=some false:=rfl
 refine Gives.next (WX (JN (VL (Y1 tF oW oW ne) (VL (Y1 (a:=.val (.lst [.bool true,.bool false,.bool false,.bool false])) tF ?_ (UI oW rfl) cq) De))) WV) ?_
 ·rw[show ([.bool true,.bool false,.bool false,.bool false]:List PV)=[(T,true),(T.drop 1,false),(T.take (T.length-1),false),(T.drop 1++[T.getD 0 0],false)].map λx=>PV.bool x.2 from rfl]
  refine Ce (f:=λx:List Nat × Bool=>.str (tx x.1)) (l:=[(T,true),(T.drop 1,false),(T.take (T.length-1),false),(T.drop 1++[T.getD 0 0],false)]) (λx=>.bool x.2) rfl (Kd "text" rfl sx) rfl ?_ z4 ?_
  ·exact ig (Jv (UI (ds:=[.str (tx T),.str (tx (T.drop 1)),.str (tx (T.take (T.length-1))),.str (tx (T.drop 1++[T.getD 0 0]))]) (VO tT oW (VO tT oW (VO tT oW (VO tT (X9 oW (X8 tT oW W4 c3) a1) Jo)))) rfl) rfl)
  ·refine Zi ?_ (Zi ?_ (Zi ?_ (Zi ?_ YT)))
   ·exact Un (Yc tT oW pQ)
   ·exact Un (Yc tT oW pU)
   ·exact Un (Yc tT oW pV)
   ·exact Un (Yc tT oW pW)
 refine Gives.next (Wa (d:=.int 0) tT W4) ?_
 exact h _ (hs.set rfl) YG
end
def QU(m:Nat->List Nat)(R:List Nat)(g k:Nat):Nat:=if sz m R g<sz m R k then max 1 (sz m R k-sz m R (k-1)) else 0
theorem Tc   (hL:LsI (txt m R) L)(hl:L.length=(txt m R).length+1)  (hv:V R g k)(hs:L.getD (sz m R g) 0<=s):L.getD (sz m R k) 0<=s+QU m R g k:=by
 unfold QU
 by_cases h:sz m R g<sz m R k
 ·have:=ua (mean:=m) (hL.least hl) hv h
  rw[if_pos h];exact oP this (Zzg hs _)
 ·have e:sz m R k=sz m R g:=ZyM (Zym h) (Ux (Zzs hv.1))
  rw[if_neg h,e];exact hs
theorem z8{a b:Nat}:max (a:Int) b=((max a b:Nat):Int):=by
 rcases Zx7 a b with h |h
 ·rw[Nat.max_eq_right h,Zx2 (Zy7.mpr h)]
 ·rw[Nat.max_eq_left h,Zus (Zy7.mpr h)]
theorem BX    (hk:k<=R.length)(hR:R.length<=63):ZO (.own (Z6 ((ZzW (R.length+1)).map (sz m R)))) (.int (k:Nat))=some (.int (sz m R k:Nat)):=by
 rw[FQ (n:=k) zN rfl (oP hk (Zm hR)),Z6,Zyk,Zyk,Zv3 (Zxr hk)];rfl
section
variable {c:Zzq}{b1:Int->Bool}{b3:Int->Option oO}{Bx:YM}{S:Sg}{K:List (Nat × List Nat)}{σ:Zx}{m:Nat->List Nat}{R l1 l2 L:List Nat}{a b A B:Nat}
theorem lF(H:Xm c b1 b3 Bx S)(hs:DtS σ Bx K m R l1 l2 L a b A B)(hR:R.length<=63)(hT:(txt m R).length<=63)(c2:Chain R 0 l2)(hL:LsI (txt m R) L)(hl:L.length=(txt m R).length+1)(s1:σ "spent"=some (.val (.int (0:Nat)))):Gives (LT c S) 43 (Yq 22) σ (Vu 17) (.bool true):=by
 generalize hb:Vu 17=bo
 conv at hb=>lhs;whnf
 subst hb
 have lc:=Vr c2 (Zz3 _)
 have nz:(Z6 (0::l2)).length<=Zzx:=by rw[Ue];exact ZT (Zm (ZzX (oP (ZzP l2.length ▸ lc) hR)))
 have z1:Yk (some 1) none (Z6 (0::l2))=Z6 l2:=(Uw (i:=1)).trans rfl
 have uI:YL (.val (.lst (Z6 (0::l2)))) (some 1) none=some (.lst (Z6 l2)):=(Af nz).trans (by rw[z1])
 have sm:=hs.marks
 refine Gives.PR (ds:=VD (Z6 (0::l2)) (Z6 l2)) (P:=λj σ=>DtS σ Bx K m R l1 l2 L a b A B/\∃s:Nat,σ "spent"=some (.val (.int (s:Nat)))/\L.getD (sz m R ((0::l2).getD j 0)) 0<=s) tT tT rfl (y5 tT oW) ⟨hs,0,s1,Zya hL.zero⟩ ?_ ?_
 ·rintro j d σ hj ⟨hs,s,ss,hle⟩
  obtain⟨IH,rfl⟩:=RC hj
  refine⟨_,_,rfl,?_⟩
  have hv:=(Ib c2 j IH).1
  rw[AQ]
  generalize (0::l2).getD j 0=g at *
  generalize l2.getD j 0=e at *
  have v1:=hv.1;have v2:=hv.2.1
  have i1:ZF (-(2 ^ 62)) (2 ^ 62) ((g:Int)+1)=true:=Dh (n:=g+1) (oP v1 (oP v2 (Zm hR)))
  have i2:ZF (-(2 ^ 62)) (2 ^ 62) ((e:Int)+1)=true:=Dh (n:=e+1) (oP (ZzX v2) (Zm (ZzX hR)))
  refine Runs.for (ds:=ZR ((g:Int)+1) ((e:Int)+1)) (P:=λi σ=>DtS σ Bx K m R l1 l2 L a b A B/\σ "spent"=some (.val (.int (s:Nat)))/\σ "begin"=some (.val (.int (g:Nat)))/\(0<i->σ "cost"=some (.val (.int (QU m R g (g+i):Nat))))) rfl rfl rfl (zD tT oW i1 i2) ⟨(hs.set rfl).set rfl,by walk_at "ex",by walk_at "ex",λh=>absurd h (Zxe _)⟩ ?_ ?_
  ·rintro i d σ hi ⟨hs,ss,sb,_⟩
   obtain⟨rfl,IT⟩:=DU hi
   rw[ZuK,<-Zwo (Zzs v1)] at IT
   have R8:=ZyC.mp IT
   have hk:V R g (g+(i+1)):=SX hv (Zxo (Zxg i)) (Nat.add_le_of_le_sub' (Zzs v1) R8)
   have cl:=Tc hL hl hk hle
   rw[show (g:Int)+1+(i:Int)=((g+(i+1):Nat):Int) from by rw[Int.add_assoc,ZwN 1];rfl]
   have R5:0<g+(i+1):=Zxg (g+i)
   have aM:g+(i+1)<=R.length:=hk.2.1
   generalize g+(i+1)=k at *
   have bJ:=hs.sizes;have sL:=hs.least
   have q1:=BX (m:=m) aM hR
   have q2:ZO (.own (Z6 ((ZzW (R.length+1)).map (sz m R)))) (.int ((k:Int)-1))=some (.int (sz m R (k-1):Nat)):=by
    rw[cP R5];exact BX (oP (Zyo _ _) aM) hR
   have q3:=BX (m:=m) (k:=g) (Zzs (ZzI v1 v2)) hR
   have a8:sz m R (k-1)<=sz m R k:=Ux (Zyo _ _)
   have uP:sz m R k<=(txt m R).length:=yo k
   have q4:ZO (.val (.lst (Z6 L))) (.int (sz m R k:Nat))=some (.int (L.getD (sz m R k) 0:Nat)):=by
    rw[FQ (n:=sz m R k) I5 rfl (Zm (oP uP hT)),Z6,Zyk,gD,gE (by rw[hl];exact Zxr uP)];rfl
   have mx:=H.max 1 ((sz m R k:Int)-(sz m R (k-1):Int))
   have gt:ZE .Gt (.val (.int (sz m R k:Nat))) (.val (.int (sz m R g:Nat)))=some (decide (sz m R g<sz m R k)):=congrArg some (decide_eq_decide.mpr ZyC)
   have ic:ZO (.val (.lst [.int 0,.int (max 1 ((sz m R k:Int)-(sz m R (k-1):Int)))])) (.bool (decide (sz m R g<sz m R k)))=some (.int (QU m R g k:Nat)):=by
    unfold QU
    by_cases h:sz m R g<sz m R k
    ·rw[decide_eq_true h,if_pos h]
     rw[<-Zwo a8]
     exact congrArg (λz=>some (PV.int z)) (z8 (a:=1))
    ·rw[decide_eq_false h,if_neg h];rfl
   have gf:ZE .Gt (.val (.int (L.getD (sz m R k) 0:Nat))) (.val (.int ((s:Int)+(QU m R g k:Int))))=some false:=congrArg some (decide_eq_false (Fx cl))
   clear a8 uP cl
   refine Runs.next (Wa (d:=.int (QU m R g k:Nat)) tT (X8 tT (UI (VO tT W4 (VO tT (Yc tT (Yv tT W4 (Yv tT (X9 (X8 tT oW oW q1) (X8 tT oW (X9 oW W4 TR) q2) TR) Xi)) mx) Jo)) rfl)
    (Dt tF (X8 tT oW oW q1) (X8 tT oW oW q3) gt) ic)) ?_
   refine Runs.next (WX (Y1 tF (X8 tT oW (X8 tT oW oW q1) q4) (X9 oW oW Mk) gf) WV) (Runs.nil ⟨(hs.set rfl).set rfl,by walk_at "ex",by walk_at "ex",λ_=>YG⟩)
  ·rintro σ ⟨hs,ss,sb,sc⟩
   rw[GV,ZuK,<-Zwo (Zzs v1),Zxu,Zw4 (Zzs v1)] at sc
   have sc:=sc (ZwE v1)
   refine Runs.next (Ds (d:=.int ((s+QU m R g e:Nat):Int)) tT ss oW rfl) (Runs.nil ⟨hs.set rfl,s+QU m R g e,YG,Tc hL hl hv hle⟩)
 ·rintro σ ⟨_,_⟩
  exact Gives.ret (VM (II Sw rfl))
end
structure xS(b1:Int->Bool)(b3:Int->Option oO):Prop where
 lt:∀ch∈X5,b1 (ch:Nat)=false/\UG b3 ch=tx [ch]
 gr:∀ch∈X5,∀q,q<11->b1 (Yr ch q:Nat)=false/\UG b3 (Yr ch q)=tx [ch]
 jo:∀k,k<5->∀x∈(Jq k).zip (JT k),b1 (x.1:Nat)=false/\UG b3 x.1=tx x.2
 ze:∀c∈VG,b1 (c:Nat)=true
theorem Qi  (h:(32<=c/\c≠127)/\c≠34/\c≠46):J3 c:=h
theorem yN:∀ch∈X5,(32<=ch/\ch≠127)/\ch≠34/\ch≠46:=by decide
theorem yM:∀ch∈X5,∀q,q<11->(32<=Yr ch q/\Yr ch q≠127)/\Yr ch q≠34/\Yr ch q≠46:=by decide
theorem dw:∀k,k<5->∀x∈(Jq k).zip (JT k),((32<=x.1/\x.1≠127)/\x.1≠34/\x.1≠46)/\(x.2.length<=3/\x.2≠[]/\∀c∈x.2,c=(Yg k).getD 0 0∨c=(Yg k).getD 1 0):=by decide
theorem dy:∀c∈VG,(32<=c/\c≠127)/\c≠34/\c≠46:=by decide
theorem kW:∀j,j<27->VG.getD j 0∈VG:=by decide
theorem t8:∀k,k<5->Yg k=[(Yg k).getD 0 0,(Yg k).getD 1 0]/\(Yg k).getD 0 0≠(Yg k).getD 1 0/\(Yg k).getD 0 0∈X5/\(Yg k).getD 1 0∈X5/\((Jq k).zip (JT k)).length=3:=by decide
section
variable {b1:Int->Bool}{b3:Int->Option oO}
theorem rW(G:xS b1 b3)(t:Nat):Qk b1 b3 (Kc t) ((Yg (t%5)).getD 0 0) ((Yg (t%5)).getD 1 0) (Yr ((Yg (t%5)).getD 0 0) (t/5%11)) (Yr ((Yg (t%5)).getD 1 0) (t/5%11)):=by
 have k5:t%5<5:=ZxN _ oD
 have Al:t/5%11<11:=ZxN _ oD
 have yw:t/5%27<27:=ZxN _ oD
 obtain⟨f1,f2,f3,f4,f5⟩:=t8 _ k5
 have oj:=dw _ k5
 have gj:=G.jo _ k5
 have kd:Kc t=[((Yg (t%5)).getD 0 0,[(Yg (t%5)).getD 0 0]),((Yg (t%5)).getD 1 0,[(Yg (t%5)).getD 1 0]),(Yr ((Yg (t%5)).getD 0 0) (t/5%11),[(Yg (t%5)).getD 0 0]),(Yr ((Yg (t%5)).getD 1 0) (t/5%11),[(Yg (t%5)).getD 1 0])]++(Jq (t%5)).zip (JT (t%5))++[(VG.getD (t/5%27) 0,[])]:=by
  unfold Kc
  conv=>lhs;rw[f1]
  rfl
 rw[kd]
 have zm:=kW _ yw
 generalize VG.getD (t/5%27) 0=z at *
 generalize (Jq (t%5)).zip (JT (t%5))=J at *
 generalize (Yg (t%5)).getD 0 0=a at *
 generalize (Yg (t%5)).getD 1 0=b at *
 generalize t/5%11=g at *
 obtain⟨u,v,w,rfl⟩:∃u v w,J=[u,v,w]:=by
  rcases J with _ |⟨u,_ |⟨v,_ |⟨w,_ |⟨y,r⟩⟩⟩⟩<;>first |exact⟨u,v,w,rfl⟩ |cases f5
 have each:∀P:Nat × List Nat->Prop,P (a,[a])->P (b,[b])->P (Yr a g,[a])->P (Yr b g,[b])->P u->P v->P w->P (z,[])->∀x∈[(a,[a]),(b,[b]),(Yr a g,[a]),(Yr b g,[b]),u,v,w,(z,[])],P x:=λP p1 p2 p3 p4 p5 p6 p7 p8=>Zi p1 (Zi p2 (Zi p3 (Zi p4 (Zi p5 (Zi p6 (Zi p7 (Zi p8 YT)))))))
 have zL:1<=3:=by decide
 have ju:=oj u (.head _);have jv:=oj v (.tail _ (.head _));have jw:=oj w (.tail _ (.tail _ (.head _)))
 have gu:=gj u (.head _);have gv:=gj v (.tail _ (.head _));have gw:=gj w (.tail _ (.tail _ (.head _)))
 exact {
  len:=rfl
  head:=rfl
  ab:=f2
  b1:=each _ ((G.lt a f3).1.trans rfl) ((G.lt b f4).1.trans rfl) ((G.gr a f3 g Al).1.trans rfl) ((G.gr b f4 g Al).1.trans rfl) (gu.1.trans (decide_eq_false ju.2.2.1).symm) (gv.1.trans (decide_eq_false jv.2.2.1).symm) (gw.1.trans (decide_eq_false jw.2.2.1).symm) ((G.ze z zm).trans rfl)
  b3:=show ∀x∈[(a,[a]),(b,[b]),(Yr a g,[a]),(Yr b g,[b]),u,v,w],UG b3 x.1=tx x.2 from Zi (G.lt _ f3).2 (Zi (G.lt _ f4).2 (Zi (G.gr _ f3 g Al).2 (Zi (G.gr _ f4 g Al).2 (Zi gu.2 (Zi gv.2 (Zi gw.2 YT))))))
  mn:=each _ ⟨zL,λc h=>.inl (Zz5.mp h)⟩ ⟨zL,λc h=>.inr (Zz5.mp h)⟩ ⟨zL,λc h=>.inl (Zz5.mp h)⟩ ⟨zL,λc h=>.inr (Zz5.mp h)⟩ ⟨ju.2.1,ju.2.2.2⟩ ⟨jv.2.1,jv.2.2.2⟩ ⟨jw.2.1,jw.2.2.2⟩ ⟨Zz3 _,λc h=>(by cases h)⟩
  last:=λx hx=>by
   have hx:x∈[(z,([]:List Nat))]:=hx
   rw[Zz5.mp hx]
  ok:=each _ (Qi (yN a f3)) (Qi (yN b f4)) (Qi (yM a f3 g Al)) (Qi (yM b f4 g Al)) (Qi ju.1) (Qi jv.1) (Qi jw.1) (Qi (dy z zm)) }
end
section
variable {b1:Int->Bool}{b3:Int->Option oO}{K:List (Nat × List Nat)}{a b A B:Nat}
theorem kM(hK:Qk b1 b3 K a b A B)  (hR:∀s∈R,∃x∈K,x.1=s):∀ch∈txt (mean b1 b3) R,ch=a∨ch=b:=λch h=>by
 obtain⟨s,hs,hc⟩:=ZqB.mp h
 obtain⟨x,hx,rfl⟩:=hR s hs
 rw[hK.mean hx] at hc
 exact (hK.mn x hx).2 ch hc
theorem HY   (h:x∈[0,4,1,5,0])  (hu:Q3 K x=u)(hK:Qk b1 b3 K a b A B)  (hc:ch∈u.2):ch∈txt (mean b1 b3) (rowOf K N):=by
 refine ZqB.mpr ⟨u.1,Zyi.mpr ⟨x,ZyN.mpr (.inr h),by rw[hu]⟩,?_⟩
 rw[hK.mean (hu ▸ BS hK.len x)];exact hc
theorem OS(hK:Qk b1 b3 K a b A B):Q3 K 0=(a,[a])/\Q3 K 1=(b,[b]):=by
 have h:=hK.head
 have g:∀i,i<4->K.getD i (0,[])=(K.take 4).getD i (0,[]):=λi hi=>by rw[gD,gD,Zwx hi]
 exact⟨(g 0 oD).trans (by rw[h];rfl),(g 1 oD).trans (by rw[h];rfl)⟩
end
section
variable {c:Zzq}{b1:Int->Bool}{b3:Int->Option oO}{Bx:YM}
theorem OA(G:xS b1 b3)(is:List Int)(hl:is.length<=63):PF c b1 b3 Bx [.val (.lst (is.map .int))]=some (.bool true):=by
 have hN:=OU is
 have lO:=RL (nums is) ve
 have ht:(nums is).sum<=1000000000:=oP lO (Zm (ZuR 1000000 hN))
 have hK:=rW G (nums is).sum
 generalize (Yg ((nums is).sum%5)).getD 0 0=a at hK
 generalize (Yg ((nums is).sum%5)).getD 1 0=b at hK
 generalize Yr a ((nums is).sum/5%11)=A at hK
 generalize Yr b ((nums is).sum/5%11)=B at hK
 have hG:∀ch∈X5,∀q:Nat,q<11->(S2 c b1 b3 Bx).cl "_law_great" [.val (.str (tx [ch])),.val (.int q)]=some (.str (tx [Yr ch q])):=λch hc q hq=>add_eq.trans (gI jm hc hq)
 have kk:=gK (S:=S2 c b1 b3 Bx) ja hG (nums is).sum ht
 generalize Kc (nums is).sum=K at hK kk
 have m2:Gq c b1 b3 Bx (S2 c b1 b3 Bx):=λas=>(WO rfl).trans add_eq
 have m3:Gq c b1 b3 Bx (S3 c b1 b3 Bx):=λas=>(WO rfl).trans (m2 as)
 have m5:Gq c b1 b3 Bx (S5 c b1 b3 Bx):=λas=>(WO rfl).trans ((WO rfl).trans (m3 as))
 have m6:Gq c b1 b3 Bx (S6 c b1 b3 Bx):=λas=>(WO rfl).trans (m5 as)
 have rl:=HW (K:=K) (nums is)
 have KU:=HX (K:=K) hK.len (N:=nums is)
 have tl:=BY hK _ KU
 have WS:=kM hK KU
 obtain⟨k0,k1⟩:=OS hK
 have ha:=HY (N:=nums is) (x:=0) oD k0 hK (ch:=a) (.head _)
 have hb:=HY (N:=nums is) (x:=1) oD k1 hK (ch:=b) (.head _)
 have yy:46∉txt (mean b1 b3) (rowOf K (nums is)):=λh=>(hK.J3 (WS 46 h)).1.2.2 rfl
 have eM:46∉rowOf K (nums is):=λh=>by
  obtain⟨x,hx,e⟩:=KU 46 h
  exact (hK.ok x hx).2.2 e
 have kc:(S6 c b1 b3 Bx).cl "_law_kinds" [.val (.int ((nums is).sum:Nat))]=some (.lst (K.map WU)):=(WO rfl).trans ((WO rfl).trans ((WO rfl).trans (add_eq.trans kk)))
 refine CS rfl (lM (Dn) hl hK kc λσ s1 s2=>lN Dn hK hN s1 s2 λσ hs=>?_)
 generalize rowOf K (nums is)=R at *
 have nq:R.length<=12:=rl ▸ Zzg hN 5
 have hR:R.length<=63:=Zm nq
 have hT:(txt (mean b1 b3) R).length<=63:=oP tl (Zm (Zw7 3 nq))
 obtain⟨l1,c1,_,p1⟩:=Tv (S:=S3 c b1 b3 Bx) P2 m3 yy (Zm hT)
 obtain⟨l2,c2,_,p2⟩:=Tv (S:=S3 c b1 b3 Bx) P2 m3 eM (Zm hR)
 obtain⟨L,g1,z1,q1⟩:=E9 (S:=S4 c b1 b3 Bx) P1 (T:=txt (mean b1 b3) R) (Zm hT)
 obtain⟨L',g2,z2,q2⟩:=E9 (S:=S4 c b1 b3 Bx) P1 (T:=R) (Zm hR)
 have pg:=dO (S:=S5 c b1 b3 Bx) (ks:=[tx [a],tx [b]]) (vs:=[.str (tx [A]),.str (tx [B])]) (gr:=Xn a A B) jb m5 yy hT c1 (λch h=>xW hK.ab (WS ch h)) λch h=>⟨(hK.J3 (WS ch h)).1.1,(hK.J3 (WS ch h)).2.1⟩
 have hp:KG (txt (mean b1 b3) R) (Xn a A B) l1:=⟨c1,hT,λch h=>hK.J3 (WS ch h)⟩
 have cP:∀as,(S6 c b1 b3 Bx).cl "_law_pieces" as=run (S3 c b1 b3 Bx) 19 ["ends"] ["text"] as:=λas=>(WO rfl).trans ((WO rfl).trans add_eq)
 have cL:∀as,(S6 c b1 b3 Bx).cl "_law_least" as=run (S4 c b1 b3 Bx) 20 ["least"] ["text"] as:=λas=>(WO rfl).trans add_eq
 exact lA Dn hs hR hT ((cP _).trans p1) ((cP _).trans p2) ((cL _).trans q1) ((cL _).trans q2) c1 c2 g1 g2 z1 z2 λσ hs=>
  lB Dn hK hs hp (add_eq.trans pg) λσ hs s3 s4=>lC Dn m6 hK hs hp WS yy s3 s4 λσ hs s5=>lD Dn m6 hs hT yy hK.ab ha hb s5 λσ hs s6=>lF Dn hs hR hT c2 g1 z1 s6
end
theorem mY:∀ch∈X5,Uy.Hm (ch:Nat)=false/\UG Uy.NT ch=tx [ch]:=by decide +kernel
theorem mZ:∀ch∈X5,∀q,q<11->Uy.Hm (Yr ch q:Nat)=false/\UG Uy.NT (Yr ch q)=tx [ch]:=by decide +kernel
theorem m9:∀k,k<5->∀x∈(Jq k).zip (JT k),Uy.Hm (x.1:Nat)=false/\UG Uy.NT x.1=tx x.2:=by decide +kernel
theorem m8:∀c∈VG,Uy.Hm (c:Nat)=true:=by decide +kernel
theorem law2_holds:ZyA.Holds:=Uy.zw λB is hl=>OA ⟨mY,mZ,m9,m8⟩ is hl
end Mine.Internal.L2
end
theorem PySem.Challenge.cw_sr0086_02_holds : PySem.Challenge.rw_sr0086_02.Holds :=
  Mine.Internal.L2.law2_holds
