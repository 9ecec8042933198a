import PyProof.Rows.All
import Wide.All
import OpenK.AllK
import Wide.FinOn
import PySem.Challenge.RW_ta0125_02
open PySem PySem.W PySem.W.X PySem.Calls PyProof.Rows
set_option Elab.async false
set_option maxRecDepth 100000
set_option linter.all false
set_option maxHeartbeats 4000000
set_option tactic.hygienic false
set_option genSizeOf false
set_option genInjectivity false
namespace Mine
def E1:=@Nat.le_of_ble_eq_true
def E2:=@Bool.and_eq_true_iff
def E3:=@wpAny_bind
def E4:=@Nat.le_trans
def E5:=@congrArg
def E6:=@List.mem_cons_of_mem
def E7:=@List.mem_cons_self
def E8:=@Nat.le_refl
def E9:=@List.length_map
def Jb:=@List.all_eq_true
def U0:=@List.mem_map
def U1:=@wpAny_pure
def U2:=@Nat.lt_of_lt_of_le
def U3:=@List.getD_eq_getElem?_getD
def U4:=@decide_eq_false
def U5:=@decide_eq_true
def U6:=@List.getElem?_eq_getElem
def U7:=@Nat.eq_of_beq_eq_true
def U8:=@Nat.le_of_eq
def U9:=@of_decide_eq_true
def V1:=@List.mem_cons
def V2:=@Nat.ne_of_lt
def V3:=@List.map_map
def V4:=@if_neg
def V5:=@List.forall_mem_cons
def V6:=@Int.natCast_nonneg
def V7:=@List.getElem?_eq_some_iff
def V8:=@if_pos
def V9:=@List.getElem?_map
def Yy:=@Nat.le_of_lt
def Yz:=@List.mem_singleton
def YA:=@List.map_append
def YB:=@Nat.lt_trans
def YC:=@List.mem_of_getElem?
def YD:=@List.mem_range
def YE:=@Nat.lt_of_le_of_lt
def YF:=@List.length_append
def YG:=@List.mem_append_left
def YH:=@List.append_assoc
def YI:=@List.map_cons
def YJ:=@wpAny_holding
def YK:=@Nat.mod_lt
def YL:=@Bool.and_eq_true
def YM:=@Nat.ble_eq_true_of_le
def YN:=@Nat.le_of_succ_le
def YO:=@decide_eq_decide
def YP:=@List.length_range
def YQ:=@Bool.false_ne_true
def YR:=@Int.ofNat_lt
def YS:=@Nat.le_of_lt_succ
def YT:=@Nat.add_le_add_left
def YU:=@List.map_congr_left
def YV:=@Option.some.inj
def YW:=@Nat.lt_succ_of_lt
def YX:=@Prod.mk.inj
def YY:=@Nat.le_sub_one_of_lt
def YZ:=@List.mem_append
def Y0:=@Nat.le_add_right
def Y1:=@List.any_eq_true
def Y2:=@Bool.not_eq_true'
def Y3:=@List.take_of_length_le
def Y4:=@List.lookup_cons
def Y5:=@Int.toNat_of_nonneg
def Y6:=@Nat.mul_le_mul_left
def Y7:=@List.mem_iff_getElem?
def Y8:=@Nat.zero_le
def Y9:=@List.nodup_cons
def Y_:=@List.append_nil
def Y':=@Int.one_mul
def Za:=@Nat.lt_succ_self
def Zb:=@List.eq_nil_of_length_eq_zero
def Zc:=@wpAny_standAt
def Zd:=@Nat.not_lt
def Ze:=@Nat.ne_of_gt
def Zf:=@Exists.elim
def Zg:=@Nat.le_of_add_right_le
def Zh:=@List.filterMap_cons
def Zi:=@Nat.le_add_left
def Zj:=@builtinLookup_eq_fast
def Zk:=@Bool.false_eq_true
def Zl:=@Int.ofNat_le
def Zm:=@List.getElem_mem
def Zn:=@Nat.sub_add_cancel
def Zo:=@List.take_add_one
def Zp:=@Nat.min_eq_left
def Zq:=@Nat.le_antisymm
def Zr:=@Bool.or_eq_true_iff
def Zs:=@beq_eq_false_iff_ne
def Zt:=@Nat.succ_pos
def Zu:=@List.drop_eq_nil_of_le
def Zv:=@List.sublist_cons_self
def Zw:=@Nat.zero_add
def Zx:=@Exists.imp
def Zy:=@List.length_drop
def Zz:=@PySem.F.slot_tuple_iterator_next
def ZA:=@List.filter_cons
def ZB:=@cond_true
def ZC:=@List.rel_of_pairwise_cons
def ZD:=@Int.not_lt
def ZE:=@beq_iff_eq
def ZF:=@Bool.eq_iff_iff
def ZG:=@Nat.le_succ_of_le
def ZH:=@List.getElem?_range
def ZI:=@beq_self_eq_true
def ZJ:=@wpAny_call_entry
def ZK:=@List.not_mem_nil
def ZL:=@List.nodup_nil
def ZM:=@List.take_length
def ZN:=@List.length_take
def ZO:=@Nat.testBit_or
def ZP:=@wpAny_field
def ZQ:=@Nat.lt_of_succ_lt_succ
def ZR:=@Nat.add_right_comm
def ZS:=@Nat.lt_or_eq_of_le
def ZT:=@Nat.testBit_two_pow_sub_one
def ZU:=@Int.mul_zero
def ZV:=@typeLookup_type
def ZW:=@List.take_append_drop
def ZX:=@List.length_filter_le
def ZY:=@List.length_replicate
def ZZ:=@Nat.add_assoc
def Z0:=@Nat.lt_irrefl
def Z1:=@Nat.sub_lt_right_of_lt_add
def Z2:=@Int.toNat_natCast
def Z3:=@Bool.eq_false_iff
def Z4:=@Nat.lt_succ_of_le
def Z5:=@List.map_inj_left
def Z6:=@List.mem_of_mem_drop
def Z7:=@Option.isSome_iff_exists
def Z8:=@Nat.add_comm
def Z9:=@List.perm_middle
def Z_:=@Int.le_of_lt
def aaa:=@Array.toList_append
def aab:=@wpAny_callSpecial?_slot
def aac:=@Int.eq_ofNat_of_zero_le
def aad:=@Int.lt_irrefl
def aae:=@List.any_cons
def aaf:=@Int.ofNat_inj
def aag:=@wpAny_pyIter_tuple
def aah:=@Nat.not_lt_zero
def aai:=@ne_of_beq_false
def aaj:=@List.range_succ
def aak:=@List.find?_cons
def aal:=@List.of_mem_zip
def aam:=@decide_eq_true_iff
def aan:=@Array.getElem?_eq_none
def aao:=@getMethod_builtin
def aap:=@List.Sublist.refl
def aaq:=@decide_eq_true_eq
def aar:=@List.foldl_append
def aas:=@Nat.lt_of_succ_lt
def aat:=@wpAny_seqItems
def aau:=@Nat.add_le_add
def aav:=@List.mem_append_right
def aaw:=@Nat.lt_or_ge
def aax:=@List.countP_le_length
def aay:=@Nat.le_of_add_left_le
def aaz:=@List.Pairwise.of_cons
def aaA:=@wpAny_mono
def aaB:=@Nat.min_eq_right
def aaC:=@List.length_take_le'
def aaD:=@List.mem_of_mem_take
def aaE:=@Nat.mod_eq_of_lt
def aaF:=@List.length_cons
def aaG:=@Nat.zero_testBit
def aaH:=@List.map_take
def aaI:=@List.map_drop
def aaJ:=@Bool.or_false
def aaK:=@List.mem_map_of_mem
def aaL:=@Array.length_toList
def aaM:=@wpAny_loadPart'
def aaN:=@List.sublist_append_right
def aaO:=@List.length_zip
def aaP:=@Int.natCast_add
def aaQ:=@Nat.testBit_and
def aaR:=@Int.le_trans
def aaS:=@Nat.pos_of_ne_zero
def aaT:=@PySem.F.slot_list_append
def aaU:=@PySem.F.type_list_append
def aaV:=@List.length_filterMap_le
def aaW:=@List.pairwise_cons
def aaX:=@Bool.not_eq_false'
def aaY:=@List.zip_cons_cons
def aaZ:=@PySem.W.Fast.te10274390034422433532
def aa0:=@PySem.W.Fast.te14364793385576792824
def aa1:=@PySem.W.Fast.te14289696077712309145
def aa2:=@PySem.W.Fast.te14082659384304107361
def aa3:=@Int.not_le
def aa4:=@wpAny_rule
def aa5:=@PySem.F.slot_dict_itemiterator_iter
def aa6:=@Nat.mul_le_mul
def aa7:=@Option.map_map
def aa8:=@Bool.and_false
def aa9:=@cond_false
def aba:=@PySem.W.Fast.te1435165496053646825
def abb:=@PySem.W.Fast.te4187177175401517315
def abc:=@wpAny_newObj_type
def abd:=@PySem.F.args_tuple_iterator_next_1
def abe:=@List.any_eq_false
def abf:=@List.filter_congr
def abg:=@Nat.le_succ
def abh:=@wpAny_pyNext_list_item
def abi:=@PySem.F.entry_tuple_iterator_next
def abj:=@wpAny_nextOf_list_item
def abk:=@PySem.F.slot_list_iadd
def abl:=@PySem.F.slot_str_lower
def abm:=@PySem.F.type_str_lower
def abn:=@Int.fmod_nonneg_of_pos
def abo:=@Nat.testBit_shiftRight
def abp:=@Bool.false_or
def abq:=@if_false
def abr:=@Nat.min_le_right
def abs:=@Nat.le_of_not_lt
def abt:=@Nat.succ_le_succ
def abu:=@List.getElem?_eq_none
def abv:=@List.take_eq_take_min
def abw:=@wpAny_pyNext_list_end
def abx:=@List.lookup_cons_self
def aby:=@PySem.F.slot_str_join
def abz:=@Nat.testBit_shiftLeft
def abA:=@typeIs_str
def abB:=@List.forIn_cons
def abC:=@List.getElem?_zipIdx
def abD:=@F.slot_zip_next
def abE:=@call_meets
def abF:=@Nat.pow_le_pow_right
def abG:=@List.any_map
def abH:=@List.mem_filter
def abI:=@List.foldl_cons
def abJ:=@Nat.beq_refl
def abK:=@Array.mem_toList_iff
def abL:=@List.countP_eq_zero
def abM:=@Nat.add_left_cancel
def abN:=@Bool.false_and
def abO:=@Nat.add_sub_cancel
def abP:=@List.getElem?_drop
def abQ:=@of_decide_eq_false
def abR:=@List.find?_eq_none
def abS:=@Nat.lt_of_le_of_ne
def abT:=@Bool.true_and
def abU:=@Int.mul_assoc
def abV:=@wpAny_truthy_bool
def abW:=@wpAny_pyIter_list
def abX:=@slot_dict_getitem
def abY:=@Str.length_append
def abZ:=@Nat.lt_trichotomy
def ab0:=@Nat.sub_le
def ab1:=@if_true
def ab2:=@congrFun
def ab3:=@codeAny_mono
def ab4:=@Nat.le_total
def ab5:=@wpAny_getItem_of
def ab6:=@IntMulOk.of_left
def ab7:=@Nat.succ.inj
def ab8:=@Nat.mul_succ
def ab9:=@Nat.succ_lt_succ
def aca:=@Nat.lt_asymm
def acb:=@wpAny_execs_nil
def acd:=@Int.le_antisymm
def ace:=@Nat.testBit_xor
def acf:=@wpAny_of_eq
def acg:=@Int.mul_sub
open List(drop filter filterMap flatten foldl head? length map map_tail replicate take)
open PyData(canLay0 canLayAll0 depth depthAll eqv eqvAll keyHash)
open Prod(fst snd)
open Builtin.Range(rangeSize)
open Builtin.SmallTypes(ownedTupleIsFree)
open PySem.SeqAt(EqAt shaped)
open Nat(beq ble blt land log2_lt lor mod pow shiftLeft shiftRight testBit)
open Int(fdiv fmod mul_one natAbs toNat)
open Float64(add decode div divmod isFinite isInf isZero mul ofFrac ofInt)
open NameKind(globalImplicit)
open Option(elim toList)
open PySem.Txt(join)
noncomputable section
section
section
structure FI where
 name:Str
 params:Arguments
 body:FuncBody
 scope:Scope
 deriving Inhabited
noncomputable def NL(s:Stmt):FI:=if h:s.ctorIdx=0 then Stmt.FunctionDef.elim (motive_2:=fun O=>FI) s h fun name args body O O O scope O O O=> ⟨name,args,.stmts body,scope⟩ else default
noncomputable def EJ(s:Stmt):List Stmt:=if h:s.ctorIdx=2 then Stmt.ClassDef.elim (motive_2:=fun O=>List Stmt) s h fun O O O body O O O O O O O=>body else []
inductive BI | len | range | sum | max | min | sorted | str | int | isinstance | enumerate | zip | type | list deriving Inhabited
noncomputable def BI.val:BI→Value
 | .len=> .builtin "len" | .range=> .type "range" | .sum=> .builtin "sum" | .max=> .builtin "max" | .min=> .builtin "min" | .sorted=> .builtin "sorted"
 | .str=> .type "str" | .int=> .type "int" | .isinstance=> .builtin "isinstance" | .enumerate=> .type "enumerate" | .zip=> .type "zip" | .type=> .type "type" | .list=> .type "list"
inductive GV where
 | b (x:BI)
 | v (x:Value)
 | i (n:Int) (t:Tok)
 deriving Inhabited
noncomputable def GV.val:GV→Value
 | .b x=>x.val
 | .v x=>x
 | .i n t=> .int n t
noncomputable def bf(es:Array DictEntry)(x:Str):Option Value:=findBy Value.isStrOf es x
end
end
section
set_option tactic.hygienic true
section
structure Lay where
 ad:Nat→Addr
 t1:Tok
 t2:Tok
 N:Addr
 mN:Str→Option Value
 am:Nat→Addr
 d0:Addr
 dd:Nat→Addr
 dk:Nat→Addr
 es:Array DictEntry
 en:Nat
 lp:Nat→Addr
noncomputable def GX(y:Lay):List (Str×GV):=
 ("len",.b .len)::
 ("range",.b .range)::
 ("sum",.b .sum)::
 ("max",.b .max)::
 ("min",.b .min)::
 ("sorted",.b .sorted)::
 ("str",.b .str)::
 ("int",.b .int)::
 ("isinstance",.b .isinstance)::
 ("enumerate",.b .enumerate)::
 ("zip",.b .zip)::
 ("type",.b .type)::
 ("list",.b .list)::
 ("bisect_right",.v (.ref (y.ad 3)))::
 ("insort_left",.v (.ref (y.ad 4)))::
 ("bisect_left",.v (.ref (y.ad 5)))::
 ("rgb_to_hls",.v (.ref (y.ad 7)))::
 ("rgb_to_hsv",.v (.ref (y.ad 8)))::
 ("hsv_to_rgb",.v (.ref (y.ad 9)))::
 ("ISTERMINAL",.v (.ref (y.ad 62)))::
 ("ISNONTERMINAL",.v (.ref (y.ad 63)))::
 ("ISEOF",.v (.ref (y.ad 64)))::
 ("_law_road",.v (.ref (y.ad 72)))::
 ("_law_read",.v (.ref (y.ad 73)))::
 ("_law_hues",.v (.ref (y.ad 74)))::
 ("_law_order",.v (.ref (y.ad 75)))::
 ("_law_signs",.v (.ref (y.ad 76)))::
 ("_law_pfaffian",.v (.ref (y.ad 77)))::
 ("_law_determinant",.v (.ref (y.ad 78)))::
 ("_law_steps",.v (.ref (y.ad 79)))::
 ("_law_trees",.v (.ref (y.ad 80)))::
 ("Headers",.v (.ref (y.ad 100)))::
 ("EXACT_TOKEN_TYPES",.v (.ref (y.ad 101)))::
 ("_name_disallowed_re",.v (.ref (y.ad 102)))::
 ("_value_disallowed_re",.v (.ref (y.ad 103)))::
 ("NT_OFFSET",.i 256 y.t1)::
 ("ENDMARKER",.i 0 y.t2):: []
noncomputable def rQ(i:Nat):FI:=NL (PySem.Challenge.pw_ta0125_02.main.body.getD i default)
noncomputable def fm(j:Nat):FI:=NL ((EJ (PySem.Challenge.pw_ta0125_02.main.body.getD 70 default)).getD j default)
noncomputable def wy:List Nat:=[14,10,4,1,1,22,0,31,16,127,0,13,7,22,0,31,16,127,0,1]
noncomputable def wz:List Nat:=[14,14,4,1,1,9,4294966783,0,0,2147483648,0,0,0,0,0,13,11,9,4294966783,0,0,2147483648,0,0,0,0,0,1]
noncomputable def aT:List Str:=["(",")","[","]",":",",",";","+","-","*","/","|","&","<",">","=",".","%","{","}","==","!=","<=",">=","~","^","<<",">>","**","+=","-=","*=","/=","%=","&=","|=","^=","<<=",">>=","**=","//","//=","@","@=","->","...",":=","!"].map Str.ofString
end
end
section
set_option tactic.hygienic true
section
noncomputable def wA(h:Heap)(a:Addr):Array DictEntry:=match h.get? a with | some o=> (match o.data with | .dict es _=>es | _=> #[]) | none=> #[]
noncomputable def J3(h:Heap)(a:Addr):Nat:=match h.get? a with | some o=> (match o.data with | .dict _ n=>n | _=>0) | none=>0
noncomputable abbrev mu(h:Heap)(a:Addr):Str→Option Value:=nsFind (wA h a)
noncomputable def qc(es:Array DictEntry):Bool:=es.toList.all fun e=>match e.key with | .str _ _=>true | _=>false
noncomputable def valsOk(l:List DictEntry):Bool:=l.all fun e=>match e.val with
 | .int c _=>decide (7≤c∧c≤54)
 | _=>false
noncomputable def gA(a:Addr):Bool:=a==279
noncomputable def gb(h:Heap)(a:Addr):Bool:=!gA a&& (match h.get? a with | some o=> (match o.data with | .dict _ _=>true | _=>false) | none=>false)&&qc (wA h a)
noncomputable abbrev zY:=FuncData×Option Str×Bool
noncomputable def strip(d:FuncData):FuncData:= {d with doc:= .none,pyModule:= .none,annotations:=none,code:= .none,closureTuple:= .none }
noncomputable def wB(h:Heap):Value→Option Str
 | .ref c=>if gA c then none else(match h.get? c with | some o=> (match o.data with | .fields (vs:Array Value)=> (match(vs[1]?:Option Value) with | some (.str q _)=>some q | _=>none) | _=>none) | none=>none)
 | _=>none
noncomputable def rW(h:Heap)(a:Addr):Option zY:=match h.get? a with
 | some o=> (match o.data with | .func fd=>some (strip fd,wB h fd.code,(match o.cls with | .type t=>t== "function" | _=>false)) | _=>none)
 | none=>none
noncomputable def codeAt(h:Heap)(a:Addr):Value:=match h.get? a with
 | some o=> (match o.data with | .func fd=>fd.code | _=> .none)
 | none=> .none
noncomputable def mw(f:FI)(q:Str)(d k:Value):zY:=(⟨f.name,q,f.params,f.body,f.scope,mainGlobals,[],d,k,.none,.none,none,.none,.none,builtinsNs⟩,some q,true)
noncomputable def wC(e:DictEntry):Option Str×Int:=(match e.key with | .str x _=>some x | _=>none,e.hash)
noncomputable def qd(h:Heap):Bool:=match h.get? 87 with | some ⟨.type t,none,.dict _ _,sl⟩=>t== "dict" &&sl.size==0 | _=>false
noncomputable def zZ(es:Array DictEntry):Bool:=(List.range 48).all fun k=>match bf es (aT.getD k ⟨#[]⟩) with
 | some (.int c _)=>c==7+(k:Int)
 | _=>false
noncomputable def z0(es:Array DictEntry):Bool:=es.toList.all fun e=>match e.key with
 | .str x _=>aT.contains x
 | _=>false
noncomputable def lk(l:List (Nat×Addr))(i:Nat):Addr:=(l.lookup i).getD 0
noncomputable def Il:List (Nat×Addr):=[(3,47),(4,56),(5,65),(7,72),(8,79),(9,86),(62,96),(63,103),(64,110),(72,265),(73,270),(74,277),(75,284),(76,289),(77,296),(78,301),(79,306),(80,311),(81,316),(100,254),(101,87),(102,120),(103,125)]
noncomputable def Im:List (Nat×Addr):=[(0,148),(1,155),(7,193),(16,251)]
noncomputable def Nb:List (Nat×Addr):=[(3,39),(4,48),(5,57)]
noncomputable def Nc:List (Nat×Addr):=[(3,40),(4,49),(5,58)]
noncomputable def Wd:List (Nat×Addr):=[(3,291),(4,305),(5,318)]
noncomputable def yl(m:Str→Option Value)(es:Array DictEntry)(en:Nat):Lay:=⟨lk Il,485,387,253,m,lk Im,141,lk Nb,lk Nc,es,en,lk [(75,279)]⟩
noncomputable def FL:List (Nat×String):=(81,"law"):: [(72,"_law_road"),(73,"_law_read"),(74,"_law_hues"),(75,"_law_order"),(76,"_law_signs"),(77,"_law_pfaffian"),(78,"_law_determinant"),(79,"_law_steps"),(80,"_law_trees"),(7,"rgb_to_hls"),(8,"rgb_to_hsv"),(9,"hsv_to_rgb"),(62,"ISTERMINAL"),(63,"ISNONTERMINAL"),(64,"ISEOF")]
noncomputable def BL:List (Nat×String):=[(3,"bisect_right"),(4,"insort_left"),(5,"bisect_left")]
noncomputable def ML:List (Nat×String):=[(0,"__init__"),(1,"_convert_string_type"),(7,"get_all"),(16,"add_header")]
noncomputable def Sj(j:Nat):Value:=if j=0 then .ref 141 else .none
noncomputable def Uy:List (Str×GV):=GX (yl (fun O=>none) #[] 0)
noncomputable def NM(h:Heap):List Bool:=[gb h 0,gb h 2,gb h 3,gb h 253,gb h 40,gb h 49,gb h 58,qd h,valsOk (wA h 87).toList,zZ (wA h 87),z0 (wA h 87),(bf (wA h 87) ⟨#[]⟩).isNone,(h.get? sysModules).isSome]
noncomputable def NN(h:Heap):List (Option Value×Option Value):=Uy.map fun p=> (mu h 3 p.1,mu h 0 p.1)
noncomputable def Io:List (Option Value×Option Value):=Uy.map fun p=>match p.2 with | .b b=> (none,some (GV.b b).val) | v=> (some v.val,none)
noncomputable def NO(h:Heap):List (Option Value):=[mu h 3 "__builtins__",mu h 3 (Str.ofString "law"),mu h 2 "sys.recursionlimit",mu h 2 sharingNotToldKey,mu h 253 "__getattribute__",mu h 253 "__getattr__",mu h 253 "__setattr__",mu h 253 (Str.ofString "_headers"),some (codeAt h 284)]
noncomputable def Ip:List (Option Value):=[some (.ref 4),some (.ref 316),none,none,none,none,none,none,some (.ref 283)]
noncomputable def NP(h:Heap):List (Option zY):=FL.map fun p=>rW h (lk Il p.1)
noncomputable def z5:List (Option zY):=FL.map fun p=>some (mw (rQ p.1) (Str.ofString p.2) .none .none)
noncomputable def NQ(h:Heap):List (Option zY×Option Value):=ML.map fun p=> (rW h (lk Im p.1),mu h 253 (Str.ofString p.2))
noncomputable def Iq:List (Option zY×Option Value):=ML.map fun p=> (some (mw (fm p.1) (Str.ofString ("Headers." ++p.2)) (Sj p.1) .none),some (.ref (lk Im p.1)))
noncomputable def NR(h:Heap):List (Option zY×Option Obj×Option Value):=BL.map fun p=> (rW h (lk Il p.1),h.get? (lk Nb p.1),mu h (lk Nc p.1) (Str.ofString "key"))
noncomputable def Ir:List (Option zY×Option Obj×Option Value):=BL.map fun p=> (some (mw (rQ p.1) (Str.ofString p.2) (.ref (lk Nb p.1)) (.ref (lk Nc p.1))),some {cls:= .type "tuple",data:= .seq #[.int 0 (lk Wd p.1),.none] },some .none)
noncomputable def NS:Obj:= {cls:= .type "code",data:= .fields #[.str (Str.ofString "_law_order") 909,.str (Str.ofString "_law_order") 910,.str (Str.ofString "/claim/cut.py") 911,.int 301 0,.int 1 0,.int 0 0,.int 0 0,.int 3 0,.ref 278,.bool true,.int 276 0,.ref 279,.none,.ref 280,.ref 281,.ref 282,.int 916 0,.int 301 0,.str (Str.ofString "/claim/cut.py") 917] }
noncomputable def J4(h:Heap):List (Option Obj):=[h.get? 254,h.get? 120,h.get? 119,h.get? 125,h.get? 124,h.get? 4,h.get? 141,h.get? 279,h.get? 283]
noncomputable def NT(c:List Nat):Option Obj:=some {cls:= .type "tuple",data:= .seq (c.map fun n:Nat=>Value.int n 0).toArray }
noncomputable def z6:List (Option Obj):=[some ({cls:= .type "type",data:= .cls {name:=Str.ofString "Headers",bases:=[.type "object"],mro:=[.ref 254,.type "object"],ns:=253,qualname:=Str.ofString "Headers" },slots:= #[none,none,some (.str (Str.ofString "Headers") 711),some (.str (Str.ofString "Headers") 719),some (.builtin "object.__new__"),some (.bool true)] }),some ({cls:= .type "re.Pattern",data:= .fields #[.str (Str.ofString "[\\x00-\\x1F\\x7F]") 642,.int 32 665,.int 0 0,.none,.none,.ref 119,.int 0 0] }),NT wy,some ({cls:= .type "re.Pattern",data:= .fields #[.str (Str.ofString "[\\x00-\\x08\\x0A-\\x1F\\x7F]") 668,.int 32 699,.int 0 0,.none,.none,.ref 124,.int 0 0] }),NT wz,some {cls:= .type "module",dict:=some 0 },some {cls:= .type "tuple",data:= .seq #[.none] },some (tableObj #[]),some NS]
noncomputable def wD:List Str:=(["!","!=","%","%=","&","&=","(",")","*","**","**=","*=","+","+=",",","-","-=","->",".","...","/","//","//=","/=",":",":=",";","<","<<","<<=","<=","=","==",">",">=",">>",">>=","@","@=","[","]","^","^=","{","|","|=","}","~"]:List String).map Str.ofString
noncomputable abbrev Ob:=List Bool×List (Option Value×Option Value)×List (Option Value)×List (Option zY)×List (Option zY×Option Value)×List (Option zY×Option Obj×Option Value)×List (Option Obj)×List (Option Str×Int)×Nat×Nat
noncomputable def J5(s:Shared):Ob:=(NM s.heap,NN s.heap,NO s.heap,NP s.heap,NQ s.heap,NR s.heap,J4 s.heap,(wA s.heap 87).toList.map wC,s.heap.objs.size,s.toks)
noncomputable def z7(w:World):Ob:=(replicate 13 true,Io,Ip,z5,Iq,Ir,z6,wD.map (fun x=> (some x,keyHash w.params x)),317,959)
noncomputable abbrev pw:Program:=PySem.Challenge.pw_ta0125_02
noncomputable abbrev R1:=PySem.Challenge.rw_ta0125_02.row
noncomputable def q1:Program:=view pw [81]
noncomputable def ux:List Str:=(pw.main.scope.names.map (·.1)).filter fun x=>!(x==Str.ofString "law")
abbrev z8(w:World):Prop:=(openEnds treeTable R1.prog w 10000).map (fun s=> (openSeen q1 ux (importedModules R1.prog.main.body) (fun s=>recOk R1.toRowW.records s) true s,J5 s))=some (openGood q1 ux,z7 w)
theorem NU:PySem.Challenge.rw_ta0125_02.wellSaid=true:=by kernel_rfl
theorem Sk:∃d NV,defOf q1 R1.name=some (d,NV)∧R1.prog.theDef R1.name=some (d.params,d.body,d.scope)∧kwWritten? d.params.kwonlyargs d.params.kw_defaults=some NV:=by
 have h:((defOf q1 R1.name).map fun x=> (some (x.1.params,x.1.body,x.1.scope),kwWritten? x.1.params.kwonlyargs x.1.params.kw_defaults))=(defOf q1 R1.name).map fun x=> (R1.prog.theDef R1.name,some x.2):=by kernel_rfl
 have h2:(defOf q1 R1.name).isSome=true:=by kernel_rfl
 obtain⟨⟨d,NV⟩,e⟩:=Z7.mp h2
 rw[e] at h
 have h':=YV h
 exact⟨d,NV,e,(E5 fst h').symm,E5 snd h'⟩
theorem We:(chainsOk q1&&opensWell R1.prog&& (frees R1.toRowW&&R1.within.isEmpty))=true:=by kernel_rfl
theorem Sl(w:World):z8 (w.withFollow "special-get-raises" false):=by
 unfold z8 openEnds fencedOpening topFrom
 rw[aaZ,aa0,aba,aa1,aa2,abb]
 kernel_rfl
theorem Sm(w:World):z8 (w.withFollow "special-get-raises" true):=by
 unfold z8 openEnds fencedOpening topFrom
 rw[aaZ,aa0,aba,aa1,aa2,abb]
 kernel_rfl
theorem NW:LeftO R1.prog q1 ux (fun s=>recOk R1.toRowW.records s) J5 z7 10000:=fun w=>byRow2 "special-get-raises" (P:=fun w=>z8 w) Sl Sm w
end
end
section
set_option tactic.hygienic true
theorem kc{M:Model}{Γ:Ctx}{t:Sem Fin}{fs:List Frame}{e:End}(h:Runs M Γ p t fs s e s'):s.toks≤s'.toks:=by
 induction h
 all_goals first
  | exact E8 _
  | assumption
  |(rename_i h1 h2;exact E4 h1 h2)
  |(rename_i h1;exact E4 (abg _) h1)
  |(rename_i h1 h2 h3;exact E4 h1 h3)
  |(rename_i h1 _ h2;exact E4 h1 h2)
  | skip
theorem uy{M:Model}{Γ:Ctx}{g:Nat}{r:Resume}{Sn:GenResult}(h:Wakes M Γ p g r s Sn s'):s.toks≤s'.toks:=by
 unfold Wakes at h
 split at h
 ·exact h.elim
 ·split at h
  ·obtain⟨e1,s1,h1,_,_,rfl⟩:=h
   have:=kc h1
   exact this
  ·rw[h.2];exact E8 _
  ·rw[h.2];exact E8 _
 ·obtain⟨e1,s1,h1,_,_,rfl⟩:=h
  have:=kc h1
  exact this
 ·rw[h.2];exact E8 _
 ·rw[h.2];exact E8 _
theorem EK{M:Model}{Γ:Ctx}{X:Type}(n:Nat){E:Value→Pos→Shared→Prop}{Q:X→Pos→Shared→Prop}(t:Sem X)(p:Pos)(s:Shared)(hn:n≤s.toks)(h:Sem.wp M Γ t (fun a p' s'=>n≤s'.toks→Q a p' s') E p s):Sem.wp M Γ t Q E p s:=by
 revert h
 induction t generalizing p s with
 | pure x=>exact fun h=>h hn
 | raise v=>exact id
 | unsupported | finish | yield | fork | await | register=>exact id
 | rule _ k ih | «at» _ k ih | alloc _ k ih | loadIfAlive _ k ih | point _ k ih | ask k ih | os _ _ k ih | handled _ k ih | newGen _ k ih | stack k ih | thread k ih=>exact ih _ _ _ hn
 | fresh k ih=>exact ih _ _ _ (ZG hn)
 | load a _ k ih | genState a k ih=>exact fun⟨o,ho,h⟩=> ⟨o,ho,ih _ _ _ hn h⟩
 | update a _ f k ih | choose _ _ k ih=>exact fun⟨ha,h⟩=> ⟨ha,ih _ _ _ hn h⟩
 | call c h g l k ih=>exact fun⟨r,s',hr,h⟩=> ⟨r,s',hr,ih r p s' (E4 hn (kc hr)) h⟩
 | resume g r l k ih=>exact fun⟨Sn,s',hw,h⟩=> ⟨Sn,s',hw,ih _ _ _ (E4 hn (uy hw)) h⟩
theorem b3{M:Model}{X:Type}{t:Sem X}{Q:X→Shared→Prop}{E:Value→Shared→Prop}{s:Shared}(h:wpAny M A t (fun a s'=>s.toks≤s'.toks→Q a s') E s):wpAny M A t Q E s:=
 fun Γ p hΓ=>EK s.toks t p s (E8 _) (h Γ p hΓ)
end
section
theorem oG{α:Type}{x:Option α}{a:α}(e:x=none)(e':x=some a):False:=nomatch e.symm.trans e'
theorem nt:∀ {b:Bool},(!b)=true→b=false
 | false,_=>rfl
noncomputable abbrev PM:=Addr→Option Obj
noncomputable def PM.put(F:PM)(a:Addr)(o:Obj):PM:=fun b=>if b=a then some o else F b
theorem PM.cn(F:PM)(a:Addr)(o:Obj):F.put a o a=some o:=by simp[PM.put]
theorem PM.bR(F:PM){a b:Addr}(o:Obj)(h:b≠a):F.put a o b=F b:=by simp[PM.put,h]
theorem PM.rX{F:PM}{a b:Addr}(e:F.put a o b=some o'):(b=a∧o=o')∨(b≠a∧F b=some o'):=by
 by_cases h:b=a
 ·exact .inl ⟨h,YV ((V8 h).symm.trans e)⟩
 ·exact .inr ⟨h,(V4 h).symm.trans e⟩
structure FM where
 P:PM
 f:PM
structure FM.le(F G:FM):Prop where
 P:G.P=F.P
 f:∀a o,F.f a=some o→G.f a=some o
theorem FM.le.refl(F:FM):FM.le F F:=⟨rfl,fun O O e=>e⟩
theorem FM.le.trans{F G H:FM}(x:FM.le F G)(y:FM.le G H):FM.le F H:=⟨y.P.trans x.P,fun a o e=>y.f a o (x.f a o e)⟩
noncomputable def FM.put(F:FM)(a:Addr)(o:Obj):FM:=⟨F.P,F.f.put a o⟩
theorem FM.cn(F:FM)(a:Addr)(o:Obj):(F.put a o).f a=some o:=PM.cn ..
theorem FM.bR(F:FM){a b:Addr}(o:Obj)(h:b≠a):(F.put a o).f b=F.f b:=PM.bR _ _ h
theorem FM.ej{F:FM}{a:Addr}(h:F.f a=none):FM.le F (F.put a o):=⟨rfl,fun b o' e=>by
 by_cases hb:b=a
 ·subst hb;rw[h] at e;cases e
 ·rw[FM.bR _ _ hb];exact e⟩
inductive AV where
 | none
 | bool (b:Bool)
 | int (i:Int)
 | aI (x:UInt64)
 | str (x:Str)
 | val (v:Value)
 | tup (l:List AV)
 | lst (l:List AV)
 | iJ (l u s:AV)
 | fn (f:FI) (qual:Str) (fR:List (Str×Addr))
 | wE (a b c:Int)
 deriving Inhabited
noncomputable abbrev cb(items:Array Value)(n:Nat):Obj:= {cls:= .type "list",data:= .seq items n }
noncomputable abbrev fG(items:Array Value)(n:Nat):Obj:= {cls:= .type "tuple",data:= .seq items n }
noncomputable abbrev z9(a b c:Value):Obj:= {cls:= .type "slice",data:= .fields #[a,b,c] }
inductive dU(F:FM)(cd:Value)(q:Str):Prop
 | mk (c:Addr) (o:Obj) (vs:Array Value) (t:Tok) (e:cd= .ref c) (h:F.f c=some o) (d:o.data= .fields vs) (x:vs[1]? =some (.str q t))
abbrev FM.lf(F G:FM):Prop:= ∀a o,F.f a=some o→G.f a=some o
theorem dU.aX{F G:FM}(h:FM.lf F G){q:Str}(x:dU F cd q):dU G cd q:=
 x.rec fun c o vs t a b d e=> ⟨c,o,vs,t,a,h _ _ b,d,e⟩
noncomputable def J6(f:FI)(qual:Str)(fR:List (Str×Addr))(doc pm:Value)(an:Option Addr)(eg ct:Value):FuncData:=
 {name:=f.name,qualname:=qual,params:=f.params,body:=f.body,scope:=f.scope,globals:=mainGlobals,closure:=fR,defaults:= .none,kwdefaults:= .none,doc:=doc,pyModule:=pm,annotations:=an,code:=eg,closureTuple:=ct,builtins:=builtinsNs }
inductive uz(F:FM)(mk:Array Value→Nat→Obj)(R:List Value→Prop)(v:Value):Prop
 | mk (a:Addr) (items:Array Value) (n:Nat) (e:v= .ref a) (h:F.f a=some (mk items n)) (r:R items.toList)
inductive Nd(F:FM)(a b c:Int)(v:Value):Prop
 | mk (r:Addr) (t u w:Tok) (e:v= .ref r) (h:F.f r=some {cls:= .type "range",data:= .fields #[.int a t,.int b u,.int c w] })
inductive NX(F:FM)(f:FI)(qual:Str)(fR:List (Str×Addr))(v:Value):Prop
 | mk (a:Addr) (o:Obj) (doc pm:Value) (an:Option Addr) (eg ct:Value) (e:v= .ref a) (h:F.f a=some o) (d:o.data= .func (J6 f qual fR doc pm an eg ct)) (c:dU F eg qual)
inductive Ri(F:FM)(x y z:Value→Prop)(v:Value):Prop
 | mk (a:Addr) (p q r:Value) (e:v= .ref a) (h:F.f a=some (z9 p q r)) (x:x p) (y:y q) (z:z r)
inductive gO(x:Value→Prop)(y:List Value→Prop)(l:List Value):Prop
 | mk (v:Value) (r:List Value) (e:l=v::r) (x:x v) (y:y r)
mutual
def VR(F:FM):AV→Value→Prop
 | .none,v=>v= .none
 | .bool b,v=>v= .bool b
 | .int i,v=> ∃t,v= .int i t
 | .aI x,v=> ∃t,v= .float x t∧t≠0
 | .str x,v=> ∃t,v= .str x t
 | .val u,v=>v=u
 | .tup l,v=>uz F fG (aQ F l) v
 | .lst l,v=>uz F cb (aQ F l) v
 | .wE a b c,v=>Nd F a b c v
 | .fn f qual fR,v=>NX F f qual fR v
 | .iJ x y z,v=>Ri F (VR F x) (VR F y) (VR F z) v
def aQ(F:FM):List AV→List Value→Prop
 | [],vs=>vs=[]
 | x::xs,vs=>gO (VR F x) (aQ F xs) vs
end
theorem gd{F:FM}:aQ F [] []:=rfl
theorem dE{F:FM}{r:List Value}(a:VR F x v)(b:aQ F xs r):aQ F (x::xs) (v::r):=gO.mk v r rfl a b
theorem Rj{F:FM}{a:Addr}{items:Array Value}{n:Nat}(h:F.f a=some (fG items n))(r:aQ F l items.toList):VR F (.tup l) (.ref a):=uz.mk a items n rfl h r
theorem J7{F:FM}{a:Addr}{items:Array Value}{n:Nat}(h:F.f a=some (cb items n))(r:aQ F l items.toList):VR F (.lst l) (.ref a):=uz.mk a items n rfl h r
theorem oH(F:FM)(i:Int)(t:Tok):VR F (.int i) (.int i t):=by simp only[VR];exact⟨t,rfl⟩
theorem zQ(F:FM)(i:UInt64)(t:Tok)(ht:0<t):VR F (.aI i) (.float i t):=by simp only[VR];exact⟨t,rfl,Ze ht⟩
theorem yA(F:FM)(i:Str)(t:Tok):VR F (.str i) (.str i t):=by simp only[VR];exact⟨t,rfl⟩
theorem un(F:FM):VR F .none .none:=by simp only[VR]
theorem my(F:FM)(b:Bool):VR F (.bool b) (.bool b):=by simp only[VR]
theorem ke(F:FM)(v:Value):VR F (.val v) v:=by simp only[VR]
mutual
theorem VR.aX{F G:FM}(h:FM.lf F G):∀ {x:AV} {v:Value},VR F x v→VR G x v
 | .none,_,e=>e
 | .bool _,_,e=>e
 | .int _,_,e=>e
 | .aI _,_,e=>e
 | .str _,_,e=>e
 | .val _,_,e=>e
 | .tup l,_,e=>uz.rec (motive:=fun O=>uz G fG (aQ G l) _) (fun a items n e1 e2 e3=> ⟨a,items,n,e1,h _ _ e2,aQ.aX h e3⟩) e
 | .lst l,_,e=>uz.rec (motive:=fun O=>uz G cb (aQ G l) _) (fun a items n e1 e2 e3=> ⟨a,items,n,e1,h _ _ e2,aQ.aX h e3⟩) e
 | .wE x y z,_,e=>Nd.rec (motive:=fun O=>Nd G x y z _) (fun a p q r e1 e2=> ⟨a,p,q,r,e1,h _ _ e2⟩) e
 | .fn f qual fR,_,e=>NX.rec (motive:=fun O=>NX G f qual fR _) (fun a o doc pm an eg ct e1 e2 e3 e4=> ⟨a,o,doc,pm,an,eg,ct,e1,h _ _ e2,e3,e4.aX h⟩) e
 | .iJ x y z,_,e=>Ri.rec (motive:=fun O=>Ri G (VR G x) (VR G y) (VR G z) _) (fun a p q r e1 e2 e3 e4 e5=> ⟨a,p,q,r,e1,h _ _ e2,VR.aX h e3,VR.aX h e4,VR.aX h e5⟩) e
theorem aQ.aX{F G:FM}(h:FM.lf F G):∀ {xs:List AV} {vs:List Value},aQ F xs vs→aQ G xs vs
 | [],_,e=>e
 | x::xs,_,e=>gO.rec (motive:=fun O=>gO (VR G x) (aQ G xs) _) (fun v r e1 e2 e3=> ⟨v,r,e1,VR.aX h e2,aQ.aX h e3⟩) e
end
theorem dU.mono{F G:FM}(h:FM.le F G){q:Str}(x:dU F cd q):dU G cd q:=x.aX h.f
theorem VR.mono{F G:FM}(h:FM.le F G)(r:VR F x v):VR G x v:=r.aX h.f
theorem aQ.mono{F G:FM}(h:FM.le F G){v:List Value}(r:aQ F x v):aQ G x v:=r.aX h.f
theorem aQ.length{F:FM}:∀ {xs:List AV} {vs:List Value},aQ F xs vs→vs.length=xs.length
 | [],_,e=>by simp only[aQ] at e;subst e;rfl
 | x::xs,_,e=>by
  simp only[aQ] at e
  obtain⟨v,r,rfl,_,e3⟩:=e
  simp[e3.length]
theorem aQ.get{F:FM}:∀ {xs:List AV} {vs:List Value},aQ F xs vs→∀ {i:Nat} {x:AV},xs[i]? =some x→∃v,vs[i]? =some v∧VR F x v
 | [],_,e,i,x,h=>by simp at h
 | y::xs,_,e,i,x,h=>by
  simp only[aQ] at e
  obtain⟨v,r,rfl,e2,e3⟩:=e
  cases i with
  | zero=>simp at h;subst h;exact⟨v,by simp,e2⟩
  | succ i=>simp at h;obtain⟨u,hu,hx⟩:=e3.get h;exact⟨u,by simpa using hu,hx⟩
theorem aQ.append{F:FM}:∀ {xs ys:List AV} {vs us:List Value},aQ F xs vs→aQ F ys us→aQ F (xs++ys) (vs++us)
 | [],_,_,_,e,f=>by simp only[aQ] at e;subst e;simpa using f
 | x::xs,_,_,_,e,f=>by
  simp only[aQ] at e
  obtain⟨v,r,rfl,e2,e3⟩:=e
  simp only[List.cons_append,aQ]
  exact⟨v,_,rfl,e2,e3.append f⟩
theorem aQ.take{F:FM}:∀ {xs:List AV} {vs:List Value} (n:Nat),aQ F xs vs→aQ F (xs.take n) (vs.take n)
 | _,_,0,_=>by simp[aQ]
 | [],_,n+1,e=>by simp only[aQ] at e;subst e;simp[aQ]
 | x::xs,_,n+1,e=>by
  simp only[aQ] at e
  obtain⟨v,r,rfl,e2,e3⟩:=e
  simp only[List.take_succ_cons,aQ]
  exact⟨v,_,rfl,e2,e3.take n⟩
theorem aQ.drop{F:FM}:∀ {xs:List AV} {vs:List Value} (n:Nat),aQ F xs vs→aQ F (xs.drop n) (vs.drop n)
 | _,_,0,e=>by simpa using e
 | [],_,n+1,e=>by simp only[aQ] at e;subst e;simp[aQ]
 | x::xs,_,n+1,e=>by
  simp only[aQ] at e
  obtain⟨v,r,rfl,e2,e3⟩:=e
  simpa using e3.drop n
def i9(F:FM):Option AV→Option Value→Prop
 | some x,v=> ∃u,v=some u∧VR F x u
 | none,_=>True
theorem i9.aX{F G:FM}(h:FM.lf F G):∀ {x:Option AV} {v:Option Value},i9 F x v→i9 G x v
 | some _,_,⟨u,e,r⟩=> ⟨u,e,r.aX h⟩
 | none,_,e=>e
theorem i9.mono{F G:FM}(h:FM.le F G){x:Option AV}{v:Option Value}(r:i9 F x v):i9 G x v:=r.aX h.f
theorem i9.EM{F:FM}{v:Option Value}(h:i9 F (some x) v):∃u,v=some u∧VR F x u:=h
theorem i9.of{F:FM}(h:VR F x v):i9 F (some x) (some v):=⟨v,rfl,h⟩
inductive AO where
 | list (l:List AV)
 | cell (v:Option AV)
 | aU (l:List AV)
 | inst (cls:Value) (vars:List (Str×AV))
 | obj (o:Obj)
 | eO (tu:Bool) (l:List AV) (i:Nat)
 | shell (C dx:Addr)
 | z_ (lV:Addr) (i:Nat)
 | ci (p:Program) (w:World) (kvs:List (Int×AV))
 | iK (p:Program) (w:World) (ep:Option Nat) (kvs:List (Str×AV))
 deriving Inhabited
def uA(F:FM):Option AV→Option Value→Prop
 | some x,v=> ∃u,v=some u∧VR F x u
 | none,v=>v=none
theorem uA.aX{F G:FM}(h:FM.lf F G):∀ {x:Option AV} {v:Option Value},uA F x v→uA G x v
 | some _,_,⟨u,e,r⟩=> ⟨u,e,r.aX h⟩
 | none,_,e=>e
inductive o_(F:FM)(h:Heap)(a:Addr)(l:List AV):Prop
 | mk (items:Array Value) (n:Nat) (e:h.get? a=some (cb items n)) (r:aQ F l items.toList)
inductive jq(F:FM)(h:Heap)(a:Addr)(v:Option AV):Prop
 | mk (o:Obj) (u:Option Value) (e:h.get? a=some o) (d:o.data= .cell u) (r:i9 F v u)
inductive kg(C dx:Addr)(h:Heap)(a:Addr):Prop
 | mk (o:Obj) (e:h.get? a=some o) (c:o.cls= .ref C) (d:∀c,o.data≠.cls c) (x:o.dict=some dx) (n:dx≠a)
abbrev NY(tu:Bool)(ax:Addr)(i:Nat)(o:Obj):Prop:=o.cls= .type (cond tu "tuple_iterator" "list_iterator")∧o.data= .fields #[.ref ax,.int i 0]
noncomputable abbrev So(tu:Bool)(items:Array Value)(n:Nat):Obj:= {cls:= .type (cond tu "tuple" "list"),data:= .seq items n }
inductive lC(tu:Bool)(l:List AV)(I:Addr)(i:Nat)(F:FM)(h:Heap):Prop
 | mk (ax:Addr) (items:Array Value) (n:Nat) (o:Obj) (g:h.get? I=some o) (d:NY tu ax i o) (e:F.f ax=some (So tu items n)) (r:aQ F l items.toList)
theorem lC.mono{tu:Bool}{I:Addr}{i:Nat}{F G:FM}{h h':Heap}(hF:FM.lf F G)(hh:h'.get? I=h.get? I)(x:lC tu l I i F h):lC tu l I i G h':=
 x.rec fun ax items n o g d e r=> ⟨ax,items,n,o,hh.trans g,d,hF _ _ e,r.aX hF⟩
inductive lD{K:Type}[DecidableEq K]{p:Program}{w:World}(knd:KeyKind p w K)(F:FM)(h:Heap)(a:Addr)(kvs:List (K×AV)):Prop
 | mk (vs:List Value) (e:h.DictOf knd a ((kvs.map (·.1)).zip vs)) (r:aQ F (kvs.map (·.2)) vs)
theorem lD.aX{K:Type}[DecidableEq K]{p:Program}{w:World}{knd:KeyKind p w K}{F G:FM}(hF:FM.lf F G){h h':Heap}{a:Addr}{kvs:List (K×AV)}(hh:h'.get? a=h.get? a)(x:lD knd F h a kvs):lD knd G h' a kvs:=
 x.rec fun vs e r=> ⟨vs,Zx (fun O e=>Zx (fun O e=>Zx (fun O e=> ⟨hh.trans e.1,e.2⟩) e) e) e,r.aX hF⟩
theorem lD.there{K:Type}[DecidableEq K]{p:Program}{w:World}{knd:KeyKind p w K}{F:FM}{a:Addr}{kvs:List (K×AV)}(x:lD knd F h a kvs):∃ob,h.get? a=some ob:=
 x.rec fun O e O=>Zf e fun o e=>Zf e fun O e=>Zf e fun O e=> ⟨o,e.1⟩
inductive gP{K:Type}[DecidableEq K]{p:Program}{w:World}(knd:KeyKind p w K)(F:FM)(h:Heap)(a:Addr)(ep:Option Nat)(kvs:List (K×AV)):Prop
 | mk (vs:List Value) (n:Nat) (e:h.DictAt knd a ((kvs.map (·.1)).zip vs) n) (q:∀x,ep=some x→x=n) (r:aQ F (kvs.map (·.2)) vs)
theorem gP.aX{K:Type}[DecidableEq K]{p:Program}{w:World}{knd:KeyKind p w K}{F G:FM}(hF:FM.lf F G){h h':Heap}{a:Addr}{ep:Option Nat}{kvs:List (K×AV)}(hh:h'.get? a=h.get? a)(x:gP knd F h a ep kvs):gP knd G h' a ep kvs:=
 x.rec fun vs n e q r=> ⟨vs,n,Zx (fun O e=>Zx (fun O e=> ⟨hh.trans e.1,e.2⟩) e) e,q,r.aX hF⟩
theorem gP.there{K:Type}[DecidableEq K]{p:Program}{w:World}{knd:KeyKind p w K}{F:FM}{a:Addr}{ep:Option Nat}{kvs:List (K×AV)}(x:gP knd F h a ep kvs):∃ob,h.get? a=some ob:=
 x.rec fun O O e O O=>Zf e fun o e=>Zf e fun O e=> ⟨o,e.1⟩
def kX(F:FM)(h:Heap)(a:Addr):AO→Prop
 | .list l=>o_ F h a l
 | .cell v=>jq F h a v
 | .aU l=> ∃items,h.IsList a items∧aQ F l items.toList
 | .inst _ vars=> ∃m,h.Ns1 a m∧∀y,uA F (vars.lookup y) (m y)
 | .obj o=>h.get? a=some o
 | .eO tu l i=>lC tu l a i F h
 | .shell C dx=>kg C dx h a
 | .z_ lV i=>h.IsListIter a lV i
 | .ci p w kvs=>lD (intKind p w) F h a kvs
 | .iK p w ep kvs=>gP (strKind p w) F h a ep kvs
theorem Heap.IsListIter.at'{h h':Heap}{a ax:Addr}{i:Nat}(x:h.IsListIter a ax i)(hh:h'.get? a=h.get? a):h'.IsListIter a ax i:=Zx (fun O e=> ⟨hh.trans e.1,e.2⟩) x
theorem kX.aX{F G:FM}(hF:FM.lf F G){h h':Heap}{a:Addr}(hh:h'.get? a=h.get? a):∀ {o:AO},kX F h a o→kX G h' a o
 | .list _,x=>o_.rec (motive:=fun O=>o_ G h' a _) (fun i n e r=> ⟨i,n,hh.trans e,r.aX hF⟩) x
 | .cell _,x=>jq.rec (motive:=fun O=>jq G h' a _) (fun o u e d r=> ⟨o,u,hh.trans e,d,r.aX hF⟩) x
 | .aU _,x=>Zx (fun O e=> ⟨Zx (fun O e=> ⟨hh.trans e.1,e.2⟩) e.1,e.2.aX hF⟩) x
 | .inst _ _,x=>Zx (fun O e=> ⟨e.1.at fun O ho=>hh.trans ho,fun y=> (e.2 y).aX hF⟩) x
 | .obj _,x=>hh.trans x
 | .eO _ _ _,x=>lC.mono hF hh x
 | .shell _ _,x=>kg.rec (motive:=fun O=>kg _ _ h' a) (fun o e c d x n=> ⟨o,hh.trans e,c,d,x,n⟩) x
 | .z_ _ _,x=>Heap.IsListIter.at' x hh
 | .ci _ _ _,x=>lD.aX hF hh x
 | .iK _ _ _ _,x=>gP.aX hF hh x
theorem kX.mono{F G:FM}(hF:FM.le F G){h h':Heap}{a:Addr}(hh:h'.get? a=h.get? a)(r:kX F h a o):kX G h' a o:=r.aX hF.f hh
theorem kX.there{F:FM}{a:Addr}:∀ {o:AO},kX F h a o→∃ob,h.get? a=some ob
 | .list _,x=>o_.rec (motive:=fun O=> ∃ob,h.get? a=some ob) (fun O O e O=> ⟨_,e⟩) x
 | .cell _,x=>jq.rec (motive:=fun O=> ∃ob,h.get? a=some ob) (fun O O e O O=> ⟨_,e⟩) x
 | .aU _,x=>Zf x fun O e=>Zx (fun O e=>e.1) e.1
 | .inst _ _,x=>Zf x fun O e=>Zf e.1 fun O e=>Zf e fun O e=>Zf e fun O e=> ⟨_,e.1⟩
 | .obj _,x=> ⟨_,x⟩
 | .eO _ _ _,x=>lC.rec (motive:=fun O=> ∃ob,h.get? a=some ob) (fun O O O O e O O O=> ⟨_,e⟩) x
 | .shell _ _,x=>kg.rec (motive:=fun O=> ∃ob,h.get? a=some ob) (fun O e O O O O=> ⟨_,e⟩) x
 | .z_ _ _,x=>Zx (fun O e=>e.1) x
 | .ci _ _ _,x=>lD.there x
 | .iK _ _ _ _,x=>gP.there x
noncomputable abbrev Mem:=List (Addr×AO)
noncomputable abbrev cI:=List (Str×Option AV)
structure AS where
 vars:cI
 mem:Mem
inductive gQ(F:FM)(h:Heap)(P:Addr)(q:Str):Prop
 | mk (vs:Array Value) (e:h.get? P=some (tableObj vs)) (t:TriplesOk vs.toList) (c:∀pos c,codeAmong pos vs.toList=some c→dU F c q)
theorem gQ.aX{F G:FM}(hF:FM.lf F G){h h':Heap}{P:Addr}{q:Str}(hh:h'.get? P=h.get? P)(x:gQ F h P q):gQ G h' P q:=
 x.rec fun vs a d b=> ⟨vs,hh.trans a,d,fun pos c e=> (b pos c e).aX hF⟩
theorem gQ.uB{F G:FM}(h:G.f=F.f){P:Addr}{q:Str}(x:gQ F hp P q):gQ G hp P q:=x.aX (fun O O e=>h▸e) rfl
theorem gQ.mono{F G:FM}(hF:FM.le F G){h h':Heap}{P:Addr}{q:Str}(hh:h'.get? P=h.get? P)(x:gQ F h P q):gQ G h' P q:=x.aX hF.f hh
structure Gd where
 prog:Program
 w:World
 K:FM
 os:OsState
 tabs:List (Addr×Str)
 L:Addr
 A:Around
 n:Nat
 gl:Str→Option Value
 bl:Str→Option Value
 J8:∀h:Heap,(∀a o,K.f a=some o→h.get? a=some o)→h.Ns mainGlobals gl
 Uz:∀h:Heap,(∀a o,K.f a=some o→h.get? a=some o)→h.Ns builtinsNs bl
 J9:∀h:Heap,(∀a o,K.f a=some o→h.get? a=some o)→h.NoLimit
 hh:A.handled=none
 hd:A.depth+n<1000
 hu:A.units+8*n<9900
structure RepM(g:Gd)(F:FM)(mem:Mem)(s:Shared):Prop where
 tk:0<s.toks
 hP:∀a o,F.P a=some o→s.heap.get? a=some o
 hF:∀a o,F.f a=some o→s.heap.get? a=some o
 hK:∀a o,g.K.f a=some o→F.f a=some o
 pf:∀a o,F.P a=some o→F.f a=none
 hm:∀p∈mem,kX F s.heap p.1 p.2
 ap:∀p∈mem,F.P p.1=none∧F.f p.1=none
 nd:(mem.map (·.1)).Nodup
 gens:s.gens=#[]
 os:s.os=g.os
 tab:∀t∈g.tabs,gQ F s.heap t.1 t.2
 b0:∀t∈g.tabs,F.P t.1=none∧F.f t.1=none∧∀p∈mem,p.1≠t.1
structure Rep(g:Gd)(F:FM)(st:AS)(s:Shared):Prop extends RepM g F st.mem s where
 ns:∃m,s.heap.Ns g.L m∧∀p∈st.vars,i9 F p.2 (m p.1)
 nv:(st.vars.map (·.1)).Nodup
 fq:F.P g.L=none
 fH:F.f g.L=none
 eN:∀p∈st.mem,p.1≠g.L
 ft:∀t∈g.tabs,t.1≠g.L
def W0(g:Gd){α β:Type}(R:FM→β→α→Prop)(t:Sem α)(st:AS)(Q:β→AS→Prop):Prop:=
 ∀F s,Rep g F st s→∀(K:α→Shared→Prop) (E:Value→Shared→Prop),
  (∀F' b a bH s',FM.le F F'→Rep g F' bH s'→R F' b a→Q b bH→K a s')→wpAny (model g.prog g.w) g.A t K E s
def W1(g:Gd){α β:Type}(R:FM→β→α→Prop)(f:Value→Sem α)(x:AV)(st:AS)(Q:β→AS→Prop):Prop:=
 ∀F s v,Rep g F st s→VR F x v→∀(K:α→Shared→Prop) (E:Value→Shared→Prop),
  (∀F' b a bH s',FM.le F F'→Rep g F' bH s'→R F' b a→Q b bH→K a s')→wpAny (model g.prog g.w) g.A (f v) K E s
def W2(g:Gd){α β:Type}(R:FM→β→α→Prop)(f:Value→Value→Sem α)(x y:AV)(st:AS)(Q:β→AS→Prop):Prop:=
 ∀F s v u,Rep g F st s→VR F x v→VR F y u→∀(K:α→Shared→Prop) (E:Value→Shared→Prop),
  (∀F' b a bH s',FM.le F F'→Rep g F' bH s'→R F' b a→Q b bH→K a s')→wpAny (model g.prog g.w) g.A (f v u) K E s
def Wl(g:Gd){α β:Type}(R:FM→β→α→Prop)(f:List Value→Sem α)(xs:List AV)(st:AS)(Q:β→AS→Prop):Prop:=
 ∀F s vs,Rep g F st s→aQ F xs vs→∀(K:α→Shared→Prop) (E:Value→Shared→Prop),
  (∀F' b a bH s',FM.le F F'→Rep g F' bH s'→R F' b a→Q b bH→K a s')→wpAny (model g.prog g.w) g.A (f vs) K E s
def RQ{β:Type}:FM→β→β→Prop:=fun O b a=>a=b
inductive fu where
 | next | brk | cont
 | ret (v:AV)
def FR(F:FM):fu→Flow→Prop
 | .next,f=>f= .next
 | .brk,f=>f= .brk
 | .cont,f=>f= .cont
 | .ret x,f=> ∃v,f= .ret v∧VR F x v
def UR:FM→Unit→Unit→Prop:=fun O O O=>True
theorem FR.mono{F G:FM}(h:FM.le F G):∀ {x:fu} {f:Flow},FR F x f→FR G x f
 | .next,_,e=>e
 | .brk,_,e=>e
 | .cont,_,e=>e
 | .ret _,_,⟨v,a,b⟩=> ⟨v,a,b.mono h⟩
inductive Upd{α β:Type}:List (α×β)→α→β→β→List (α×β)→Prop where
 | here {a:α} {o o':β} {m:List (α×β)}:Upd ((a,o)::m) a o o' ((a,o')::m)
 | there {p:α×β} {a:α} {o o':β} {m m':List (α×β)} (h:Upd m a o o' m'):Upd (p::m) a o o' (p::m')
section
variable {α β:Type}{m m':List (α×β)}{a:α}{o o':β}
theorem Upd.mem(h:Upd m a o o' m'):(a,o)∈m:=by
 induction h with
 | here=>exact E7
 | there _ ih=>exact E6 _ ih
theorem Upd.keys(h:Upd m a o o' m'):m'.map (·.1)=m.map (·.1):=by
 induction h with
 | here=>rfl
 | there _ ih=>simp[ih]
theorem Upd.apart(h:Upd m a o o' m')(nd:(m.map (·.1)).Nodup):∀p∈m',p=(a,o')∨(p∈m∧p.1≠a):=by
 induction h with
 | @here a o o' m=>
  intro p hp
  rcases V1.mp hp with rfl | hp
  ·exact .inl rfl
  ·refine .inr ⟨E6 _ hp,fun e=>?_⟩
   have:=(Y9.mp nd).1
   exact this (U0.mpr ⟨p,hp,e⟩)
 | @there q a o o' m m' h' ih=>
  intro p hp
  have UA:=Y9.mp nd
  rcases V1.mp hp with rfl | hp
  ·refine .inr ⟨E7,fun e=>UA.1 ?_⟩
   exact U0.mpr ⟨(a,o),h'.mem,e.symm⟩
  ·rcases ih UA.2 p hp with e | e
   ·exact .inl e
   ·exact .inr ⟨E6 _ e.1,e.2⟩
theorem Upd.jr(h:Upd m a o o' m'){p:α×β}(hp:p∈m'):∃q∈m,q.1=p.1:=by
 have:p.1∈m'.map (·.1):=aaK hp
 rw[h.keys] at this
 obtain⟨q,hq,e⟩:=U0.mp this
 exact⟨q,hq,e⟩
end
section
variable {g:Gd}{F:FM}{st:AS}{s:Shared}
theorem aF{f:PM}{h:Heap}(hf:∀a o,f a=some o→h.get? a=some o){a:Addr}(ha:h.objs.size≤a):f a=none:=by
 cases e:f a with
 | none=>rfl
 | some o=>exact absurd (Heap.lt_size (hf a o e)) (Zd.mpr ha)
theorem tp{p:Prop}{n:Nat}:p→0<n+1:=fun O=>Zt _
theorem Rep.tok(r:Rep g F st s)(t:Nat)(ht:0<s.toks→0<t):Rep g F st {s with toks:=t }:=
 {hP:=r.hP,hF:=r.hF,hK:=r.hK,pf:=r.pf,hm:=r.hm,ap:=r.ap,nd:=r.nd,tk:=ht r.tk,gens:=r.gens,os:=r.os,tab:=r.tab,b0:=r.b0,ns:=r.ns,nv:=r.nv,fq:=r.fq,fH:=r.fH,eN:=r.eN,ft:=r.ft }
theorem RepM.keeps(r:RepM g F mem s){h':Heap}(hk:∀b o,s.heap.get? b=some o→h'.get? b=some o)(t:Nat)(ht:0<s.toks→0<t):RepM g F mem {s with heap:=h',toks:=t }:=
 {hP:=fun a o e=>hk a o (r.hP a o e)
  hF:=fun a o e=>hk a o (r.hF a o e)
  hK:=r.hK,pf:=r.pf
  hm:=fun p hp=>by
   have x:=r.hm p hp
   obtain⟨ob,e⟩:=x.there
   exact x.mono (FM.le.refl _) ((hk _ _ e).trans e.symm)
  ap:=r.ap,nd:=r.nd,tk:=ht r.tk,gens:=r.gens,os:=r.os
  tab:=fun p hp=>by
   have x:=r.tab p hp
   obtain⟨vs,e,_⟩:=id x
   exact x.mono (FM.le.refl _) ((hk _ _ e).trans e.symm)
  b0:=r.b0 }
theorem Rep.keeps(r:Rep g F st s){h':Heap}(hk:∀b o,s.heap.get? b=some o→h'.get? b=some o)(t:Nat)(ht:0<s.toks→0<t):Rep g F st {s with heap:=h',toks:=t }:=
 {r.toRepM.keeps hk t ht with
  ns:=let⟨m,a,b⟩:=r.ns;⟨m,a.keeps hk,b⟩
  nv:=r.nv,fq:=r.fq,fH:=r.fH,eN:=r.eN,ft:=r.ft }
theorem Rep.wF(r:Rep g F st s){a:Addr}(e:s.heap.get? a=some o)(h1:F.f a=none)(h0:F.P a=none)(h2:a≠g.L)(h3:∀p∈st.mem,p.1≠a)(h4:∀t∈g.tabs,t.1≠a):Rep g (F.put a o) st s:=
 {hP:=r.hP
  hF:=fun b o' e'=>by
   by_cases hb:b=a
   ·subst hb;rw[FM.cn] at e';cases e';exact e
   ·rw[FM.bR _ _ hb] at e';exact r.hF b o' e'
  hK:=fun b o' e'=> (FM.ej h1).f _ _ (r.hK _ _ e')
  pf:=fun b o' e'=>by
   by_cases hb:b=a
   ·subst hb
    have UB:F.P b=some o':=e'
    rw[h0] at UB;cases UB
   ·rw[FM.bR _ _ hb];exact r.pf b o' e'
  hm:=fun p hp=> (r.hm p hp).mono (FM.ej h1) rfl
  ap:=fun p hp=> ⟨(r.ap p hp).1,by rw[FM.bR _ _ (h3 p hp)];exact(r.ap p hp).2⟩
  nd:=r.nd,tk:=r.tk,gens:=r.gens,os:=r.os
  tab:=fun p hp=> (r.tab p hp).mono (FM.ej h1) rfl
  b0:=fun p hp=> ⟨(r.b0 p hp).1,by rw[FM.bR _ _ (h4 p hp)];exact(r.b0 p hp).2.1,(r.b0 p hp).2.2⟩
  ns:=let⟨m,x,y⟩:=r.ns;⟨m,x,fun z hz=> (y z hz).mono (FM.ej h1)⟩
  nv:=r.nv
  fq:=r.fq,fH:=by rw[FM.bR _ _ (Ne.symm h2)];exact r.fH
  eN:=r.eN,ft:=r.ft }
theorem Rep.J_(r:Rep g F st s):g.L<s.heap.objs.size:=let⟨_,x,_⟩:=r.ns;x.lt
theorem RepM.iU(r:RepM g F mem s){p:Addr×AO}(hp:p∈mem):p.1<s.heap.objs.size:=let⟨_,e⟩:=(r.hm p hp).there;Heap.lt_size e
theorem RepM.iV(r:RepM g F mem s){p:Addr×Str}(hp:p∈g.tabs):p.1<s.heap.objs.size:=(r.tab p hp).rec fun O e O O=>Heap.lt_size e
theorem Rep.alloc(r:Rep g F st s){o:Obj}(ho:o.isFreed=false)(t:Nat)(ht:0<s.toks→0<t):Rep g (F.put s.heap.objs.size o) st {s with heap:=s.heap.push o,toks:=t }∧FM.le F (F.put s.heap.objs.size o)∧(F.put s.heap.objs.size o).f s.heap.objs.size=some o:=by
 have h1:F.f s.heap.objs.size=none:=aF r.hF (E8 _)
 refine⟨?_,FM.ej h1,FM.cn ..⟩
 refine(r.keeps (h':=s.heap.push o) (fun b o' e=>Heap.get?_push_of_some _ e) t ht).wF (Heap.get?_push_size _ ho) h1 (aF r.hP (E8 _)) (Ze r.J_) (fun p hp=>V2 (r.iU hp)) (fun p hp=>V2 (r.iV hp))
theorem Rep.mz(r:Rep g F st s){a:Addr}(h1:F.f a=none)(h0:F.P a=none)(h2:a≠g.L)(h3:∀p∈st.mem,p.1≠a)(h4:∀t∈g.tabs,t.1≠a)(EN:kX F s.heap a ao):
  Rep g F {st with mem:=(a,ao)::st.mem } s:=
 {hP:=r.hP,hF:=r.hF,hK:=r.hK,pf:=r.pf
  hm:=fun p hp=>by
   rcases V1.mp hp with rfl | hp
   ·exact EN
   ·exact r.hm p hp
  ap:=fun p hp=>by
   rcases V1.mp hp with rfl | hp
   ·exact⟨h0,h1⟩
   ·exact r.ap p hp
  nd:=Y9.mpr ⟨fun hm=>by
    obtain⟨p,hp,e⟩:=U0.mp hm
    exact h3 p hp e,r.nd⟩
  tk:=r.tk,gens:=r.gens,os:=r.os,tab:=r.tab
  b0:=fun p hp=> ⟨(r.b0 p hp).1,(r.b0 p hp).2.1,fun q hq=>by
   rcases V1.mp hq with rfl | hq
   ·exact(h4 p hp).symm
   ·exact(r.b0 p hp).2.2 q hq⟩
  ns:=r.ns,nv:=r.nv,fq:=r.fq,fH:=r.fH
  eN:=fun p hp=>by
   rcases V1.mp hp with rfl | hp
   ·exact h2
   ·exact r.eN p hp
  ft:=r.ft }
theorem Rep.js(r:Rep g F st s){o:Obj}(ho:o.isFreed=false)(t:Nat)(EN:∀h:Heap,h.get? s.heap.objs.size=some o→kX F h s.heap.objs.size ao)(ht:0<s.toks→0<t):
  Rep g F {st with mem:=(s.heap.objs.size,ao)::st.mem } {s with heap:=s.heap.push o,toks:=t }:=
 (r.keeps (h':=s.heap.push o) (fun b o' e=>Heap.get?_push_of_some _ e) t ht).mz (aF r.hF (E8 _)) (aF r.hP (E8 _)) (Ze r.J_) (fun p hp=>V2 (r.iU hp)) (fun p hp=>V2 (r.iV hp))
  (EN _ (Heap.get?_push_size _ ho))
theorem Rep.set(r:Rep g F st s){o:Option AV}(hu:Upd st.vars x o (some v) fV)(hv:VR F v u){h':Heap}{m m':Str→Option Value}(hm:∀p∈st.vars,i9 F p.2 (m p.1))(hn:h'.Ns g.L m')(Sp:∀y,m' y=if y=x then some u else m y)(hs:Heap.SameBut g.L s.heap h')(t:Nat)(ht:0<s.toks→0<t):Rep g F {st with vars:=fV } {s with heap:=h',toks:=t }:=
 {hP:=fun a o e=> (hs.2 a (fun q=>by subst q;rw[r.fq] at e;cases e)).trans (r.hP a o e)
  hF:=fun a o e=> (hs.2 a (fun q=>by subst q;rw[r.fH] at e;cases e)).trans (r.hF a o e)
  hK:=r.hK,pf:=r.pf
  hm:=fun p hp=> (r.hm p hp).mono (FM.le.refl _) (hs.2 _ (r.eN p hp))
  ap:=r.ap,nd:=r.nd,tk:=ht r.tk,gens:=r.gens,os:=r.os
  tab:=fun p hp=> (r.tab p hp).mono (FM.le.refl _) (hs.2 _ (r.ft p hp))
  b0:=r.b0
  ns:=⟨m',hn,fun p hp=>by
   rw[Sp p.1]
   rcases hu.apart r.nv p hp with rfl |⟨h1,h2⟩
   ·rw[V8 rfl];exact .of hv
   ·rw[V4 h2];exact hm p h1⟩
  nv:=by rw[hu.keys];exact r.nv
  fq:=r.fq,fH:=r.fH,eN:=r.eN,ft:=r.ft }
theorem RepM.turn(r:RepM g F mem s){a:Addr}(u:Upd mem a o o' mem')(hs:Heap.SameBut a s.heap h')(ha:kX F h' a o')(t:Nat)(ht:0<s.toks→0<t):
  RepM g F mem' {s with heap:=h',toks:=t }:=by
 have am:=u.mem
 have key:∀p∈mem',∃q∈mem,q.1=p.1:=fun p hp=>u.jr hp
 exact
 {hP:=fun b o e=> (hs.2 b (fun q=>by subst q;rw[(r.ap _ am).1] at e;cases e)).trans (r.hP b o e)
  hF:=fun b o e=> (hs.2 b (fun q=>by subst q;rw[(r.ap _ am).2] at e;cases e)).trans (r.hF b o e)
  hK:=r.hK,pf:=r.pf
  hm:=fun p hp=>by
   rcases u.apart r.nd p hp with rfl |⟨h1,h2⟩
   ·exact ha
   ·exact(r.hm p h1).mono (FM.le.refl _) (hs.2 _ h2)
  ap:=fun p hp=>let⟨q,hq,e⟩:=key p hp;e▸r.ap q hq
  nd:=by rw[u.keys];exact r.nd
  tk:=ht r.tk,gens:=r.gens,os:=r.os
  tab:=fun p hp=> (r.tab p hp).mono (FM.le.refl _) (hs.2 _ (Ne.symm ((r.b0 p hp).2.2 _ am)))
  b0:=fun p hp=> ⟨(r.b0 p hp).1,(r.b0 p hp).2.1,fun q hq=>let⟨x,hx,e⟩:=key q hq;e▸(r.b0 p hp).2.2 x hx⟩ }
theorem Rep.turn(r:Rep g F st s){a:Addr}(u:Upd st.mem a o o' mem')(hs:Heap.SameBut a s.heap h')(ha:kX F h' a o')(t:Nat)(ht:0<s.toks→0<t):
  Rep g F {st with mem:=mem' } {s with heap:=h',toks:=t }:=
 {r.toRepM.turn u hs ha t ht with
  ns:=let⟨m,x,y⟩:=r.ns;⟨m,x.sameBut hs (Ne.symm (r.eN _ u.mem)),y⟩
  nv:=r.nv,fq:=r.fq,fH:=r.fH
  eN:=fun p hp=>let⟨q,hq,e⟩:=u.jr hp;e▸r.eN q hq
  ft:=r.ft }
end
end
section
structure bp(g:Gd)(env:Env):Prop where
 locals:env.locals=g.L
 kind:env.scope.kind= .function
 globals:env.globals=mainGlobals
 builtins:env.builtins=builtinsNs
section
variable {g:Gd}{env:Env}{st:AS}{α β:Type}
theorem W0.mono{R:FM→β→α→Prop}{t:Sem α}{Q Q':β→AS→Prop}(h:W0 g R t st Q)(hq:∀b bH,Q b bH→Q' b bH):W0 g R t st Q':=
 fun F s r K E k=>h F s r K E fun F' b a bH s' h1 h2 h3 h4=>k F' b a bH s' h1 h2 h3 (hq _ _ h4)
theorem RepM.bS{F:FM}(r:RepM g F mem s):∀a o,g.K.f a=some o→s.heap.get? a=some o:=fun a o e=>r.hF a o (r.hK a o e)
structure Kn(env:Env)(names:List (Str×NameKind))(cs:List (Str×Addr)):Prop where
 kind:∀p∈names,env.kindOf p.1=some p.2∨(p.2= .free∧env.kindOf p.1=some .cell)
 Rk:∀p∈names,(p.1==("__debug__" :Str))=false∧(p.1==("__classdict__" :Str))=false
 cell:∀x k,(x,k)∈names→(k= .cell∨k= .free)→∀c,(x,c)∈cs→env.cells.lookup x=some c
def iW(g:Gd)(x:Str)(v:Value):Prop:=g.gl x=some v∨(g.gl x=none∧g.bl x=some v)
def EP(g:Gd)(GL:List (Str×Value)):Prop:= ∀p∈GL,iW g p.1 p.2
theorem Kn.ne{names cs x k}(N:Kn env names cs)(hm:(x,k)∈names)(h:k≠.free):env.kindOf x=some k:=by
 rcases N.kind _ hm with e |⟨e,_⟩
 ·exact e
 ·exact absurd e h
theorem Sq{names cs x v}(e:bp g env)(N:Kn env names cs)(hm:(x,.local)∈names)(hv:(x,some v)∈st.vars)(h:Q v st):W0 g VR (loadName env x) st Q:=by
 intro F s r K E k
 obtain⟨m,hn,Sp⟩:=r.ns
 obtain⟨u,hu,hr⟩:=(Sp _ hv).EM
 exact wpAny_loadName_local e.kind (N.ne hm (by decide)) (by rw[e.locals];exact hn) hu (k F v u st s (FM.le.refl _) r hr h)
theorem It{x v c}(e:bp g env)(hx:env.kindOf x=some .cell∨env.kindOf x=some .free)(hd:(x==("__classdict__" :Str))=false)(hc:env.cells.lookup x=some c)(hm:(c,AO.cell (some v))∈st.mem)(h:Q v st):W0 g VR (loadName env x) st Q:=by
 intro F s r K E k
 obtain⟨o,u,h1,h2,h3⟩:=r.hm _ hm
 obtain⟨w,rfl,hr⟩:=h3.EM
 rcases hx with hx | hx
 ·exact wpAny_loadName_cell e.kind hx hc ⟨o,h1,h2⟩ (k F v w st s (FM.le.refl _) r hr h)
 ·exact wpAny_loadName_free e.kind hx hc ⟨o,h1,h2⟩ (k F v w st s (FM.le.refl _) r hr h) hd
theorem Sr{names cs x v c}(e:bp g env)(N:Kn env names cs)(hn:(x,.cell)∈names)(hc:(x,c)∈cs)(hm:(c,AO.cell (some v))∈st.mem)(h:Q v st):W0 g VR (loadName env x) st Q:=
 It e (.inl (N.ne hn (by decide))) (N.Rk _ hn).2 (N.cell _ _ hn (.inl rfl) _ hc) hm h
theorem Ss{names cs x v c}(e:bp g env)(N:Kn env names cs)(hn:(x,.free)∈names)(hc:(x,c)∈cs)(hm:(c,AO.cell (some v))∈st.mem)(h:Q v st):W0 g VR (loadName env x) st Q:=
 It e (by rcases N.kind _ hn with e |⟨_,e⟩;exact .inr e;exact .inl e) (N.Rk _ hn).2 (N.cell _ _ hn (.inr rfl) _ hc) hm h
theorem Iu{GL names cs x v y}(hy:∀F,VR F y v)(e:bp g env)(G:EP g GL)(N:Kn env names cs)(hn:(x,.globalImplicit)∈names)(hv:(x,v)∈GL)(h:Q y st):W0 g VR (loadName env x) st Q:=by
 intro F s r K E k
 rw[loadName_read e.kind (N.ne hn (by decide))]
 rcases G _ hv with h1 |⟨h1,h2⟩
 ·exact loadGlobal_global (by rw[e.globals];exact g.J8 _ r.bS) h1 (k F _ v st s (FM.le.refl _) r (hy F) h)
 ·exact loadGlobal_builtin (by rw[e.globals];exact g.J8 _ r.bS) h1 (by rw[e.builtins];exact g.Uz _ r.bS) h2 (k F _ v st s (FM.le.refl _) r (hy F) h)
theorem Su{GL names cs x v}(e:bp g env)(G:EP g GL)(N:Kn env names cs)(hn:(x,.globalImplicit)∈names)(hv:(x,v)∈GL)(h:Q (.val v) st):W0 g VR (loadName env x) st Q:=Iu (fun O=>ke ..) e G N hn hv h
def Ld(g:Gd)(env:Env)(names:List (Str×NameKind))(cs:List (Str×Addr))(x:Str)(k:NameKind)(st:AS)(Q:AV→AS→Prop):Prop:=Kn env names cs→(x,k)∈names→W0 g VR (loadName env x) st Q
theorem Aa{names cs x k}(N:Kn env names cs)(hm:(x,k)∈names)(h:Ld g env names cs x k st Q):W0 g VR (loadName env x) st Q:=h N hm
theorem aA{names cs x k pos}(N:Kn env names cs)(hm:(x,k)∈names)(h:Ld g env names cs x k st Q):W0 g VR (eval (.Name x pos) env) st Q:=
 fun F s r K E kk=>wpAny_Name (h N hm F s r K E kk) (N.Rk _ hm).1
theorem rY{i k pos}(h:Q (.int i) st):W0 g VR (eval (.Constant (.int i) k pos) env) st Q:=
 fun F s r K E kk=>wpAny_Constant_int (kk F _ _ st _ (FM.le.refl _) (r.tok _ tp) (oH ..) h)
theorem NZ{x k pos}(h:Q (.aI x) st):W0 g VR (eval (.Constant (.float x) k pos) env) st Q:=
 fun F s r K E kk=>fun O O O=>kk F _ _ st _ (FM.le.refl _) (r.tok _ tp) (zQ _ _ _ r.tk) h
theorem qe{k pos}(h:Q .none st):W0 g VR (eval (.Constant .none k pos) env) st Q:=
 fun F s r K E kk=>wpAny_Constant_none (kk F .none _ st s (FM.le.refl _) r (un _) h)
theorem gR{b k pos}(h:Q (.bool b) st):W0 g VR (eval (.Constant (.bool b) k pos) env) st Q:=
 fun F s r K E kk=>wpAny_Constant_bool (kk F (.bool b) _ st s (FM.le.refl _) r (my ..) h)
theorem Iv{x k pos}(h:Q (.str x) st):W0 g VR (eval (.Constant (.str x) k pos) env) st Q:=
 fun F s r K E kk=>wpAny_Constant_str (kk F (.str x) _ st _ (FM.le.refl _) (r.tok _ tp) (yA ..) h)
theorem qf{l op r pos}(h:W0 g VR (eval l env) st fun a aD=>W0 g VR (eval r env) aD fun b aK=>W2 g VR (binaryOp op) a b aK Q):
  W0 g VR (eval (.BinOp l op r pos) env) st Q:=
 fun F s rr K E k=>wpAny_BinOp (h F s rr _ E fun F1 a u aD s1 l1 r1 v1 h1=>h1 F1 s1 r1 _ E fun F2 b w aK s2 l2 r2 v2 h2=>
  h2 F2 s2 u w r2 (v1.mono l2) v2 K E fun F3 c x eu s3 l3 r3 v3 h3=>k F3 c x eu s3 (l1.trans (l2.trans l3)) r3 v3 h3)
theorem J'{op x pos}(h:W0 g VR (eval x env) st fun a aD=>W1 g VR (unaryOp op) a aD Q):
  W0 g VR (eval (.UnaryOp op x pos) env) st Q:=fun F s rr K E k=>by
 rw[arm_eval_UnaryOp]
 exact E3 (h F s rr _ E fun F1 a u aD s1 l1 r1 v1 h1=>E3 (Zc (YJ (h1 F1 s1 u r1 v1 K E fun F2 c x aK s2 l2 r2 v2 h2=>k F2 c x aK s2 (l1.trans l2) r2 v2 h2))))
theorem uC{l op r pos}(h:W0 g VR (eval l env) st fun a aD=>W0 g VR (eval r env) aD fun b aK=>W2 g VR (compareOp op) a b aK Q)(hm:behindInMarks op r=false:=by with_unfolding_all rfl):W0 g VR (eval (.Compare l [op] [r] pos) env) st Q:=
 fun F s rr K E k=>wpAny_Compare1 (h F s rr _ E fun F1 a u aD s1 l1 r1 v1 h1=>h1 F1 s1 r1 _ E fun F2 b w aK s2 l2 r2 v2 h2=>
  h2 F2 s2 u w r2 (v1.mono l2) v2 K E fun F3 c x eu s3 l3 r3 v3 h3=>k F3 c x eu s3 (l1.trans (l2.trans l3)) r3 v3 h3) hm
theorem aM{b}(h:Q b st):W1 g RQ truthy (.bool b) st Q:=fun F s v r hv K E k=>by
 cases hv
 exact abV (k F b b st s (FM.le.refl _) r rfl h)
theorem aN{l op r pos whole}(h:W0 g VR (eval l env) st fun a aD=>W0 g VR (eval r env) aD fun b aK=>W2 g VR (compareOp op) a b aK fun c eu=>W1 g RQ truthy c eu Q)(hm:behindInMarks op r=false:=by with_unfolding_all rfl):W0 g RQ (isTrue (.Compare l [op] [r] pos) env whole) st Q:=
 fun F s rr K E k=>wpAny_isTrue_Compare1 (h F s rr _ E fun F1 a u aD s1 l1 r1 v1 h1=>h1 F1 s1 r1 _ E fun F2 b w aK s2 l2 r2 v2 h2=>
  h2 F2 s2 u w r2 (v1.mono l2) v2 _ E fun F3 c x eu s3 l3 r3 v3 h3=>h3 F3 s3 x r3 v3 K E fun F4 d y zR s4 l4 r4 v4 h4=>k F4 d y zR s4 (l1.trans (l2.trans (l3.trans l4))) r4 v4 h4) hm
theorem bw(h:W0 g VR (eval e env) st fun v aD=>W1 g RQ truthy v aD Q)(he:isTrue e env (eval e env)=(do let v ← eval e env;standAt e.pos;holding [v] (truthy v)):=by rfl):W0 g RQ (isTrue e env (eval e env)) st Q:=
 fun F s rr K E k=>wpAny_isTrue_value (h F s rr _ E fun F1 a u aD s1 l1 r1 v1 h1=>h1 F1 s1 u r1 v1 K E fun F2 c x aK s2 l2 r2 v2 h2=>k F2 c x aK s2 (l1.trans l2) r2 v2 h2) he
theorem gB{op vs pos whole}(h:W0 g RQ (allTrue op vs env) st Q):W0 g RQ (isTrue (.BoolOp op vs pos) env whole) st Q:=
 fun F s rr K E k=>wpAny_isTrue_BoolOp (h F s rr K E k)
theorem oJ(h:Q true st):W0 g RQ (allTrue .And [] env) st Q:=fun F s rr K E k=>wpAny_allTrue_And_nil (k F true true st s (FM.le.refl _) rr rfl h)
theorem qg(h:Q false st):W0 g RQ (allTrue .Or [] env) st Q:=fun F s rr K E k=>wpAny_allTrue_Or_nil (k F false false st s (FM.le.refl _) rr rfl h)
theorem yB{x rest}(h:W0 g RQ (isTrue x env (eval x env)) st fun b aD=>if b=true then W0 g RQ (allTrue .And rest env) aD Q else Q false aD):
  W0 g RQ (allTrue .And (x::rest) env) st Q:=fun F s rr K E k=>wpAny_allTrue_And_cons (h F s rr _ E fun F1 b a aD s1 l1 r1 v1 h1=>by
   have:a=b:=v1;subst this
   cases a with
   | true=>simp only[ab1] at h1 ⊢;exact h1 F1 s1 r1 K E fun F2 c x aK s2 l2 r2 v2 h2=>k F2 c x aK s2 (l1.trans l2) r2 v2 h2
   | false=>simp only[Zk,abq] at h1 ⊢;exact k F1 false false aD s1 l1 r1 rfl h1)
theorem Ab{x rest}(h:W0 g RQ (isTrue x env (eval x env)) st fun b aD=>if b=true then Q true aD else W0 g RQ (allTrue .Or rest env) aD Q):
  W0 g RQ (allTrue .Or (x::rest) env) st Q:=fun F s rr K E k=>wpAny_allTrue_Or_cons (h F s rr _ E fun F1 b a aD s1 l1 r1 v1 h1=>by
   have:a=b:=v1;subst this
   cases a with
   | true=>simp only[ab1] at h1 ⊢;exact k F1 true true aD s1 l1 r1 rfl h1
   | false=>simp only[Zk,abq] at h1 ⊢;exact h1 F1 s1 r1 K E fun F2 c x aK s2 l2 r2 v2 h2=>k F2 c x aK s2 (l1.trans l2) r2 v2 h2)
theorem jt{t b o pos}(h:W0 g RQ (isTrue t env (eval t env)) st fun c aD=>if c=true then W0 g VR (eval b env) aD Q else W0 g VR (eval o env) aD Q):
  W0 g VR (eval (.IfExp t b o pos) env) st Q:=fun F s rr K E k=>by
 rw[arm_eval_IfExp]
 refine E3 (h F s rr _ E fun F1 b a aD s1 l1 r1 v1 h1=>?_)
 have:a=b:=v1;subst this
 cases a with
 | true=>simp only[ab1] at h1 ⊢;exact h1 F1 s1 r1 K E fun F2 c x aK s2 l2 r2 v2 h2=>k F2 c x aK s2 (l1.trans l2) r2 v2 h2
 | false=>simp only[Zk,abq] at h1 ⊢;exact h1 F1 s1 r1 K E fun F2 c x aK s2 l2 r2 v2 h2=>k F2 c x aK s2 (l1.trans l2) r2 v2 h2
theorem qh{op e pos}(h:W0 g VR (eval e env) st Q):W0 g VR (boolOp pos op (evalEach [e] env)) st Q:=h
theorem Ac{op vs pos}(h:W0 g VR (boolOp pos op (evalEach vs env)) st Q):W0 g VR (eval (.BoolOp op vs pos) env) st Q:=h
theorem qi{e e2 es pos}(h:W0 g VR (eval e env) st fun v aD=>W1 g RQ truthy v aD fun b aK=>if b=true then W0 g VR (boolOp pos .And (evalEach (e2::es) env)) aK Q else Q v aK):
  W0 g VR (boolOp pos .And (evalEach (e::e2::es) env)) st Q:=fun F s rr K E k=>by
 show wpAny _ _ (do let v ← eval e env;standAt pos;let t ← holding [v] (truthy v);match BoolOp.And,t with | .And,false | .Or,true=>pure v | _,_=>boolOp pos .And (evalEach (e2::es) env)) K E s
 refine E3 (h F s rr _ E fun F1 a u aD s1 l1 r1 v1 h1=>E3 (Zc (E3 (YJ (h1 F1 s1 u r1 v1 _ E fun F2 b c aK s2 l2 r2 v2 h2=>?_)))))
 have:c=b:=v2;subst this
 cases c with
 | true=>simp only[ab1] at h2;exact h2 F2 s2 r2 K E fun F3 c x eu s3 l3 r3 v3 h3=>k F3 c x eu s3 (l1.trans (l2.trans l3)) r3 v3 h3
 | false=>simp only[Zk,abq] at h2;exact U1 (k F2 _ _ aK s2 (l1.trans l2) r2 (v1.mono l2) h2)
theorem aB{pos}{Q:List AV→AS→Prop}(h:Q [] st):W0 g aQ (spliced (backTo pos (starEach [] env))) st Q:=
 fun F s rr K E k=>wpAny_items_nil (k F [] [] st s (FM.le.refl _) rr rfl h)
theorem aC{pos e rest}{Q:List AV→AS→Prop}(h:W0 g VR (eval e env) st fun x aD=>W0 g aQ (spliced (backTo pos (starEach rest env))) aD fun xs aK=>Q (x::xs) aK)
  (he:starEach (e::rest) env=(false,eval e env)::starEach rest env:=by rfl):W0 g aQ (spliced (backTo pos (starEach (e::rest) env))) st Q:=
 fun F s rr K E k=>wpAny_items_cons (h F s rr _ E fun F1 a u aD s1 l1 r1 v1 h1=>h1 F1 s1 r1 _ E fun F2 b w aK s2 l2 r2 v2 h2=>
  k F2 _ _ aK s2 (l1.trans l2) r2 (dE (v1.mono l2) v2) h2) he
theorem ju{cD k pos}(h:W0 g aQ (spliced (backTo pos (starEach cD env))) st fun xs aD=>xs.length≤sizeLine∧Q (.tup xs) aD):
  W0 g VR (eval (.Tuple cD k pos) env) st Q:=fun F s rr K E kk=>wpAny_Tuple (h F s rr _ E fun F1 xs vs aD s1 l1 r1 v1 h1=>by
   refine⟨by rw[v1.length];exact h1.1,?_⟩
   obtain⟨r2,l2,e2⟩:=r1.alloc (o:=fG vs.toArray 0) rfl s1.toks id
   exact kk _ (.tup xs) _ aD _ (l1.trans l2) r2 (Rj e2 (v1.mono l2)) h1.2)
theorem Ka{cD pos}(h:W0 g aQ (spliced (backTo pos (starEach cD env))) st fun xs aD=>xs.length≤sizeLine∧Q (.lst xs) aD):
  W0 g VR (eval (.List cD pos) env) st Q:=fun F s rr K E kk=>wpAny_List (h F s rr _ E fun F1 xs vs aD s1 l1 r1 v1 h1=>by
   refine⟨by rw[v1.length];exact h1.1,?_⟩
   obtain⟨r2,l2,e2⟩:=r1.alloc (o:=cb vs.toArray 0) rfl s1.toks id
   exact kk _ (.lst xs) _ aD _ (l1.trans l2) r2 (J7 e2 (v1.mono l2)) h1.2)
def io(xs:List AV)(st:AS)(Q:AV→AS→Prop):Prop:=xs.length≤sizeLine∧∀a,Q (.val (.ref a)) {st with mem:=(a,.list xs)::st.mem }
theorem mA{xs:List AV}{vars mem}(h1:xs.length≤sizeLine)(h2:∀a,Q (.val (.ref a)) ⟨vars,(a,.list xs)::mem⟩):io xs ⟨vars,mem⟩ Q:=⟨h1,h2⟩
theorem gf{cD pos}(h:W0 g aQ (spliced (backTo pos (starEach cD env))) st fun xs aD=>io xs aD Q):
  W0 g VR (eval (.List cD pos) env) st Q:=fun F s rr K E kk=>wpAny_List (h F s rr _ E fun F1 xs vs aD s1 l1 r1 v1 h1=>by
   refine⟨by rw[v1.length];exact h1.1,?_⟩
   have r2:=r1.js (o:=cb vs.toArray 0) (ao:= .list xs) rfl s1.toks (fun h e=> ⟨_,_,e,v1⟩) id
   exact kk _ (.val _) _ _ _ l1 r2 (ke ..) (h1.2 _))
theorem ba(h:Q .next st):W0 g FR (execs [] env) st Q:=fun F s rr K E k=>acb (k F .next .next st s (FM.le.refl _) rr rfl h)
def Nx(g:Gd)(env:Env)(rest:List Stmt)(Q:fu→AS→Prop):fu→AS→Prop
 | .next,st=>W0 g FR (execs rest env) st Q
 | .brk,st=>Q .brk st
 | .cont,st=>Q .cont st
 | .ret v,st=>Q (.ret v) st
theorem a9{rest}(h:W0 g FR (execs rest env) st Q):Nx g env rest Q .next st:=h
theorem mC{rest v}(h:Q (.ret v) st):Nx g env rest Q (.ret v) st:=h
theorem ah{a rest}(h:W0 g FR (exec a env) st (Nx g env rest Q)):
  W0 g FR (execs (a::rest) env) st Q:=fun F s rr K E k=>wpAny_execs_cons (h F s rr _ E fun F1 f fl aD s1 l1 r1 v1 h1=>by
   cases f with
   | next=>have:fl= .next:=v1;subst this;exact h1 F1 s1 r1 K E fun F2 c x aK s2 l2 r2 v2 h2=>k F2 c x aK s2 (l1.trans l2) r2 v2 h2
   | brk=>have:fl= .brk:=v1;subst this;exact k F1 .brk _ aD s1 l1 r1 rfl h1
   | cont=>have:fl= .cont:=v1;subst this;exact k F1 .cont _ aD s1 l1 r1 rfl h1
   | ret x=>obtain⟨u,rfl,hu⟩:=v1;exact k F1 (.ret x) _ aD s1 l1 r1 ⟨u,rfl,hu⟩ h1)
theorem jv{e pos}(h:W0 g VR (eval e env) st fun v aD=>Q (.ret v) aD):W0 g FR (exec (.Return (some e) pos) env) st Q:=
 fun F s rr K E k=>wpAny_Return_some (h F s rr _ E fun F1 a u aD s1 l1 r1 v1 h1=>k F1 (.ret a) _ aD s1 l1 r1 ⟨u,rfl,v1⟩ h1)
theorem oK{t b o pos}(h:W0 g RQ (isTrue t env (eval t env)) st fun c aD=>if c=true then W0 g FR (execs b env) aD Q else W0 g FR (execs o env) aD Q):
  W0 g FR (exec (.If t b o pos) env) st Q:=fun F s rr K E k=>wpAny_If (h F s rr _ E fun F1 b a aD s1 l1 r1 v1 h1=>by
   have:a=b:=v1;subst this
   cases a with
   | true=>simp only[ab1] at h1 ⊢;exact h1 F1 s1 r1 K E fun F2 c x aK s2 l2 r2 v2 h2=>k F2 c x aK s2 (l1.trans l2) r2 v2 h2
   | false=>simp only[Zk,abq] at h1 ⊢;exact h1 F1 s1 r1 K E fun F2 c x aK s2 l2 r2 v2 h2=>k F2 c x aK s2 (l1.trans l2) r2 v2 h2)
theorem N0(e:bp g env):(env.scope.kind== .class||(env.scope.kind== .module&&env.locals !=env.globals))=false:=by rw[e.kind];rfl
def Sv(g:Gd)(env:Env)(names:List (Str×NameKind))(cs:List (Str×Addr))(x:Str)(k:NameKind)(v:AV)(st:AS)(Q:Unit→AS→Prop):Prop:=Kn env names cs→(x,k)∈names→W1 g UR (storeName env x) v st Q
theorem cQ{names cs x k v}(N:Kn env names cs)(hm:(x,k)∈names)(h:Sv g env names cs x k v st Q):W1 g UR (storeName env x) v st Q:=h N hm
theorem iX{names cs x v o vars fV mem}(e:bp g env)(hu:Upd vars x o (some v) fV)(h:Q () ⟨fV,mem⟩):
  Sv g env names cs x .local v ⟨vars,mem⟩ Q:=fun N hx F s u r hv K E k=>by
 obtain⟨m,hn,hm⟩:=r.ns
 exact wpAny_storeName_local (N.ne hx (by decide)) (by rw[e.locals];exact hn) (fun h' N1 uo=>k F () () _ _ (FM.le.refl _) (r.set hu hv hm (by rw[e.locals] at N1;exact N1) (fun y=>rfl) (by rw[e.locals] at uo;exact uo) _ tp) trivial h) (N0 e)
theorem Iw{names cs x v c o vars mem mem'}(e:bp g env)(hc:(x,c)∈cs)(hm:Upd mem c (.cell o) (.cell (some v)) mem')(h:Q () ⟨vars,mem'⟩):Sv g env names cs x .cell v ⟨vars,mem⟩ Q:=fun N hx F s u r hv K E k=>by
 obtain⟨ob,cv,h1,h2,h3⟩:=r.hm _ hm.mem
 refine wpAny_storeName_cell e.kind (N.ne hx (by decide)) (N.cell _ _ hx (.inl rfl) _ hc) ⟨ob,h1,h2⟩ fun h' Wf uo=>k F () () _ _ (FM.le.refl _) (r.turn hm uo ?_ s.toks id) trivial h
 obtain⟨o',Wg,Wh⟩:=Wf
 exact⟨o',_,Wg,Wh,.of hv⟩
theorem b8{x pos v}(h:W1 g UR (storeName env x) v st Q):W1 g UR (assign (.Name x pos) env) v st Q:=
 fun F s u r hv K E k=>wpAny_assign_Name (h F s u r hv K E k)
theorem a8{x mD aj pos}(h:W0 g VR (eval aj env) st fun v aD=>W1 g UR (storeName env x) v aD fun O aK=>Q .next aK)(hs:swapsWith aj (some (.Name x mD)) pos.line env=pure false:=by rfl):W0 g FR (exec (.Assign [.Name x mD] aj pos) env) st Q:=
 fun F s rr K E k=>wpAny_Assign_Name (h F s rr _ E fun F1 a u aD s1 l1 r1 v1 h1=>h1 F1 s1 u r1 v1 _ E fun F2 O O aK s2 l2 r2 O h2=>k F2 .next _ aK s2 (l1.trans l2) r2 rfl h2) hs
theorem kh{x mD op aj pos}(h:W0 g VR (loadName env x) st fun o aD=>W0 g VR (eval aj env) aD fun v aK=>W2 g VR (inplaceOp op) o v aK fun r eu=>W1 g UR (storeName env x) r eu fun O zR=>Q .next zR):
  W0 g FR (exec (.AugAssign (.Name x mD) op aj pos) env) st Q:=
 fun F s rr K E k=>wpAny_AugAssign_Name (h F s rr _ E fun F1 a u aD s1 l1 r1 v1 h1=>h1 F1 s1 r1 _ E fun F2 b w aK s2 l2 r2 v2 h2=>h2 F2 s2 u w r2 (v1.mono l2) v2 _ E fun F3 c x eu s3 l3 r3 v3 h3=>
   h3 F3 s3 x r3 v3 _ E fun F4 O O zR s4 l4 r4 O h4=>k F4 .next _ zR s4 (l1.trans (l2.trans (l3.trans l4))) r4 rfl h4)
end
end
section
theorem RepM.sub{F:FM}{mem mem':Mem}(r:RepM g F mem s)(h:mem'.Sublist mem):RepM g F mem' s:=
 {hP:=r.hP,hF:=r.hF,hK:=r.hK,pf:=r.pf
  hm:=fun p hp=>r.hm p (h.subset hp)
  ap:=fun p hp=>r.ap p (h.subset hp)
  nd:=(h.map _).nodup r.nd
  tk:=r.tk,gens:=r.gens,os:=r.os,tab:=r.tab
  b0:=fun p hp=> ⟨(r.b0 p hp).1,(r.b0 p hp).2.1,fun q hq=> (r.b0 p hp).2.2 q (h.subset hq)⟩ }
theorem Rep.sub{g:Gd}{F:FM}{st:AS}{mem':Mem}{s:Shared}(r:Rep g F st s)(h:mem'.Sublist st.mem):Rep g F {st with mem:=mem' } s:=
 {r.toRepM.sub h with ns:=r.ns,nv:=r.nv,fq:=r.fq,fH:=r.fH,eN:=fun p hp=>r.eN p (h.subset hp),ft:=r.ft }
theorem VR.uB{F G:FM}(h:G.f=F.f)(r:VR F x v):VR G x v:=VR.aX (fun a o e=>by rw[h];exact e) r
theorem aQ.uB{F G:FM}(h:G.f=F.f){v:List Value}(r:aQ F x v):aQ G x v:=aQ.aX (fun a o e=>by rw[h];exact e) r
theorem kX.uB{F G:FM}(h:G.f=F.f){a:Addr}(r:kX F hp a o):kX G hp a o:=kX.aX (fun a o e=>by rw[h];exact e) rfl r
theorem RepM.Rl{F:FM}{P':PM}(r:RepM g F mem s)(h1:∀a o,P' a=some o→s.heap.get? a=some o∧F.f a=none)(h2:∀p∈mem,P' p.1=none)(h3:∀t∈g.tabs,P' t.1=none):RepM g ⟨P',F.f⟩ mem s:=
 {hP:=fun a o e=> (h1 a o e).1,hF:=r.hF,hK:=r.hK,pf:=fun a o e=> (h1 a o e).2
  hm:=fun p hp=>kX.uB (F:=F) (G:=⟨P',F.f⟩) rfl (r.hm p hp)
  ap:=fun p hp=> ⟨h2 p hp,(r.ap p hp).2⟩
  nd:=r.nd,tk:=r.tk,gens:=r.gens,os:=r.os,tab:=fun t ht=>gQ.uB (F:=F) (G:=⟨P',F.f⟩) rfl (r.tab t ht)
  b0:=fun p hp=> ⟨h3 p hp,(r.b0 p hp).2⟩ }
inductive Kb(g:Gd)(F:FM)(st:AS)(s:Shared):Prop
 | mk (P':PM) (ne:∀a,a≠g.L→P' a=F.P a) (r:RepM g ⟨P',F.f⟩ st.mem s) (oM:∀F' mem' s',FM.le ⟨P',F.f⟩ F'→RepM g F' mem' s'→Rep g ⟨F.P,F'.f⟩ {st with mem:=mem' } s')
theorem Rep.uD{g:Gd}{F:FM}{st:AS}{s:Shared}(r:Rep g F st s):Kb g F st s:=by
 obtain⟨m,hn,hm⟩:=r.ns
 obtain⟨oL,es,ep,hL,rest⟩:=id hn
 have ne:∀b,b≠g.L→F.P.put g.L oL b=F.P b:=fun b h=>PM.bR _ _ h
 refine⟨F.P.put g.L oL,ne,r.toRepM.Rl (fun a o e=> (PM.rX e).elim (fun x=>x.1▸x.2▸⟨hL,r.fH⟩) fun x=> ⟨r.hP _ _ x.2,r.pf _ _ x.2⟩)
  (fun p hp=> (ne _ (r.eN p hp)).trans (r.ap p hp).1) (fun t ht=> (ne _ (r.ft t ht)).trans (r.b0 t ht).1),fun F' mem' s' UC r'=>?_⟩
 have Kc:∀b,F'.P b=F.P.put g.L oL b:=ab2 UC.P
 have pL:F'.P g.L=some oL:=(Kc _).trans (PM.cn ..)
 have EQ:∀b,F'.P b=none→b≠g.L∧F.P b=none:=fun b hb=>
  have hn:b≠g.L:=fun q=>oG hb (q▸pL)
  ⟨hn,(ne b hn).symm.trans ((Kc b).symm.trans hb)⟩
 exact {r'.Rl (P':=F.P) (fun a o e=>have q:=(Kc a).trans ((ne a fun q=>oG r.fq (q▸e)).trans e);⟨r'.hP a o q,r'.pf a o q⟩) (fun p hp=> (EQ _ (r'.ap p hp).1).2) (fun p hp=> (EQ _ (r'.b0 p hp).1).2) with
  ns:=⟨m,⟨oL,es,ep,r'.hP _ _ pL,rest⟩,fun p hp=>i9.aX (F:=F) (G:=⟨F.P,F'.f⟩) UC.f (hm p hp)⟩
  nv:=r.nv,fq:=r.fq,fH:=r'.pf _ _ pL,eN:=fun p hp=> (EQ _ (r'.ap p hp).1).1,ft:=r.ft }
def eP(M:Model)(s:Shared)(f:Value):Prop:= ∃b:Bool,∀(A:Around) (Q:Keeper→Shared→Prop) (E:Value→Shared→Prop),Q (cond b .machine .frame) s→wpAny M A (keeperOf f) Q E s
theorem uE{M:Model}{n:String}:eP M s (.type n):=⟨true,fun O O O h=>U1 h⟩
theorem uF{M:Model}{n:String}:eP M s (.builtin n):=⟨true,fun O O O h=>U1 h⟩
theorem i_{M:Model}{s:Shared}{a:Addr}{fd:FuncData}(ho:s.heap.get? a=some o)(hd:o.data= .func fd):eP M s (.ref a):=⟨false,fun A Q E h=>by
 unfold keeperOf
 refine E3 (wpAny_load ho ?_)
 rw[hd]
 exact U1 h⟩
def WC(g:Gd)(fv:AV)(xs:List AV)(kn:List Str)(fw:List AV)(mem:Mem)(Q:AV→Mem→Prop):Prop:=
 ∀F s f vs kvs,RepM g F mem s→VR F fv f→aQ F xs vs→aQ F fw kvs→∀R:Result→Shared→Prop,
  (∀F' x v mem' s',FM.le F F'→RepM g F' mem' s'→VR F' x v→Q x mem'→R (.ok (.ret v)) s')→eP (model g.prog g.w) s f∧codeAny (model g.prog g.w) g.A (.call f ⟨vs,kn.zip kvs⟩) R s
def bB(g:Gd)(fv:AV)(xs:List AV)(kn:List Str)(fw:List AV)(st:AS)(Q:AV→AS→Prop):Prop:=
 ∀F s f vs kvs,Rep g F st s→VR F fv f→aQ F xs vs→aQ F fw kvs→∀(K:Value→Shared→Prop) (E:Value→Shared→Prop),
  (∀F' b a bH s',FM.le F F'→Rep g F' bH s'→VR F' b a→Q b bH→K a s')→eP (model g.prog g.w) s f∧wpAny (model g.prog g.w) g.A (call f vs (kn.zip kvs)) K E s
inductive Wi(K:Value→Shared→Prop)(r:Result)(s:Shared):Prop
 | mk (v:Value) (e:r= .ok (.ret v)) (k:K v s)
section
variable {g:Gd}{env:Env}{st:AS}
theorem cY{kn:List Str}{vars mem}(h:WC g fv xs kn fw mem fun x mem'=>Q x ⟨vars,mem'⟩):bB g fv xs kn fw ⟨vars,mem⟩ Q:=
 fun F s f vs kvs r hf hv gN K E k=>by
  obtain⟨P',_,r',oM⟩:=r.uD
  have rf:(⟨P',F.f⟩:FM).f=F.f:=rfl
  have key:=h ⟨P',F.f⟩ s f vs kvs r' (hf.uB rf) (hv.uB rf) (gN.uB rf) (Wi K) fun F' x v mem' s' l r2 hx hq=>
   ⟨v,rfl,k ⟨F.P,F'.f⟩ x v _ s' ⟨rfl,l.f⟩ (oM F' mem' s' l r2) (VR.uB (F:=F') (G:=⟨F.P,F'.f⟩) rfl hx) hq⟩
  exact⟨key.1,wpAny_call (ab3 key.2 fun r s' hr=>by obtain⟨v,rfl,k⟩:=hr;exact k)⟩
theorem rZ{M:Model}{E:Value→Shared→Prop}{first:List Value}{args:List (Bool×Sem Value)}{lW:List (Option Str×Sem Value)}{Q:Value→Shared→Prop}(dF:(args.any (·.1)||lW.any (·.1.isNone))=false)(h:wpAny M A (evalArgs f true args lW) (fun x s₁=>eP M s₁ f∧wpAny M A (call f (first++x.pos) x.kw) Q E s₁) E s):
  wpAny M A (callWith pos f first args lW) Q E s:=by
 unfold callWith
 refine E3 (YJ (aaA h (fun x s₁ h₁=>E3 (Zc ?_)) fun O O x=>x))
 have tail:∀ {t:Sem Value},wpAny M A t Q E s₁→wpAny M A (t >>= fun r=>holding [r] point >>= fun O=>pure r) Q E s₁:=
  fun ht=>E3 (aaA ht (fun r s₂ hr=>E3 (YJ (wpAny_point (U1 hr)))) fun O O x=>x)
 obtain⟨⟨b,hk⟩,h₂⟩:=h₁
 rw[dF]
 refine E3 (hk _ _ _ ?_)
 cases b with
 | true=>exact tail h₂
 | false=>
  show wpAny M A (if args.length+2*lW.length > 30 then _ else _) Q E s₁
  split
  ·exact tail h₂
  ·exact tail (Calls.wpAny_keep h₂)
theorem qj{M:Model}{E:Value→Shared→Prop}{jw:List (Option Str×Sem Value)}{Q:Args→Shared→Prop}(yC:jw.all (·.1.isSome)=true)(h:wpAny M A (spliced []) (fun vs s₁=>wpAny M A (evalAll (jw.map (·.2))) (fun ks s₂=>Q ⟨vs,(jw.filterMap (·.1)).zip ks⟩ s₂) E s₁) E s):wpAny M A (evalArgs f true [] jw) Q E s:=by
 unfold evalArgs
 show wpAny M A (spliced [] >>= _) Q E s
 refine E3 (aaA h (fun vs s₁ h₁=>?_) fun O O x=>x)
 refine YJ ?_
 simp only[yC,ab1]
 refine E3 (aaA h₁ (fun ks s₂ h₂=>?_) fun O O x=>x)
 exact E3 (U1 (U1 h₂))
noncomputable abbrev ip(pos:Pos)(lW:List Keyword)(env:Env):List (Sem Value):=(backToKw pos (keywordEach lW env)).map (·.2)
noncomputable abbrev qk(pos:Pos)(lW:List Keyword)(env:Env):List Str:=(backToKw pos (keywordEach lW env)).filterMap (·.1)
theorem iq{pos}{Q:List AV→AS→Prop}(h:Q [] st):W0 g aQ (evalAll (ip pos [] env)) st Q:=fun F s rr K E k=>kwAll_nil (k F [] [] st s (FM.le.refl _) rr rfl h)
theorem mE{pos p name aj rest}{Q:List AV→AS→Prop}(h:W0 g VR (eval aj env) st fun x aD=>W0 g aQ (evalAll (ip pos rest env)) aD fun xs aK=>Q (x::xs) aK):
  W0 g aQ (evalAll (ip pos (⟨some name,aj,p⟩::rest) env)) st Q:=
 fun F s rr K E k=>kwAll_cons (h F s rr _ E fun F1 a u aD s1 l1 r1 v1 h1=>h1 F1 s1 r1 _ E fun F2 b w aK s2 l2 r2 v2 h2=>
  k F2 _ _ aK s2 (l1.trans l2) r2 (dE (v1.mono l2) v2) h2)
theorem ja{first:List Value}{args:List Expr}{lW:List Keyword}(dF:((backTo pos (starEach args env)).any (·.1)||(backToKw pos (keywordEach lW env)).any (·.1.isNone))=false)(yC:(backToKw pos (keywordEach lW env)).all (·.1.isSome)=true)(hs:args=[]∨∃e rest,args=e::rest∧starEach (e::rest) env=(false,eval e env)::starEach rest env)(h:W0 g aQ (spliced (backTo pos (starEach args env))) st fun xs aD=>W0 g aQ (evalAll (ip pos lW env)) aD fun fw aK=>bB g fv (ql++xs) (qk pos lW env) fw aK Q):
  ∀F s,Rep g F st s→VR F fv f→aQ F ql first→∀(K:Value→Shared→Prop) (E:Value→Shared→Prop),
  (∀F' b a bH s',FM.le F F'→Rep g F' bH s'→VR F' b a→Q b bH→K a s')→
  wpAny (model g.prog g.w) g.A (callWith pos f first (backTo pos (starEach args env)) (backToKw pos (keywordEach lW env))) K E s:=by
 intro F s r hf Sw K E k
 refine rZ dF ?_
 have key:wpAny (model g.prog g.w) g.A (spliced (backTo pos (starEach args env))) (fun vs s₁=>wpAny (model g.prog g.w) g.A (evalAll (ip pos lW env))
   (fun ks s₂=>eP (model g.prog g.w) s₂ f∧wpAny (model g.prog g.w) g.A (call f (first++vs) ((qk pos lW env).zip ks)) K E s₂) E s₁) E s:=
  h F s r _ E fun F1 xs vs aD s1 l1 r1 v1 h1=>h1 F1 s1 r1 _ E fun F2 fw kvs aK s2 l2 r2 v2 h2=>
   h2 F2 s2 f (first++vs) kvs r2 (hf.mono (l1.trans l2)) ((Sw.mono (l1.trans l2)).append (v1.mono l2)) v2 K E fun F3 b a eu s3 l3 r3 v3 h3=>k F3 b a eu s3 (l1.trans (l2.trans l3)) r3 v3 h3
 rcases hs with rfl |⟨e,rest,rfl,he⟩
 ·exact qj yC key
 ·rw[he] at key ⊢
  exact evalArgs_kw yC key
theorem fx{func args pos}(h:W0 g VR (eval func env) st fun fv uG=>W0 g aQ (spliced (backTo pos (starEach args env))) uG fun xs aD=>bB g fv xs [] [] aD Q)(he:eval (.Call func args [] pos) env=(do callWith pos (← eval func env) [] (backTo pos (starEach args env)) (backToKw pos (keywordEach [] env))))(dF:((backTo pos (starEach args env)).any (·.1)||(backToKw pos (keywordEach [] env)).any (·.1.isNone))=false)(hs:args=[]∨∃e rest,args=e::rest∧starEach (e::rest) env=(false,eval e env)::starEach rest env):
  W0 g VR (eval (.Call func args [] pos) env) st Q:=fun F s rr K E k=>by
 rw[he]
 refine E3 (h F s rr _ E fun F1 fv f aD s1 l1 r1 v1 h1=>ja (ql:=[]) (first:=[]) (Q:=Q) dF rfl hs ?_ F1 s1 r1 v1 rfl K E fun F2 b a aK s2 l2 r2 v2 h2=>k F2 b a aK s2 (l1.trans l2) r2 v2 h2)
 exact h1.mono fun xs aD hx=>iq hx
theorem ER{func args n v p pos}(h:W0 g VR (eval func env) st fun fv uG=>W0 g aQ (spliced (backTo pos (starEach args env))) uG fun xs aD=>W0 g VR (eval v env) aD fun y aK=>bB g fv xs [n] [y] aK Q)(he:eval (.Call func args [⟨some n,v,p⟩] pos) env=(do callWith pos (← eval func env) [] (backTo pos (starEach args env)) (backToKw pos (keywordEach [⟨some n,v,p⟩] env))))(dF:((backTo pos (starEach args env)).any (·.1)||(backToKw pos (keywordEach [⟨some n,v,p⟩] env)).any (·.1.isNone))=false)(hs:args=[]∨∃e rest,args=e::rest∧starEach (e::rest) env=(false,eval e env)::starEach rest env):
  W0 g VR (eval (.Call func args [⟨some n,v,p⟩] pos) env) st Q:=fun F s rr K E k=>by
 rw[he]
 refine E3 (h F s rr _ E fun F1 fv f aD s1 l1 r1 v1 h1=>ja (ql:=[]) (first:=[]) (Q:=Q) dF rfl hs ?_ F1 s1 r1 v1 rfl K E fun F2 b a aK s2 l2 r2 v2 h2=>k F2 b a aK s2 (l1.trans l2) r2 v2 h2)
 exact h1.mono fun xs aD hx=>mE (hx.mono fun y aK hy=>iq hy)
def eQ(g:Gd)(x:AV)(name:Str)(fv:AV)(ql:List AV)(st:AS):Prop:=
 ∀F s v (plain:Sem Bool),Rep g F st s→VR F x v→∀(K:Value×List Value→Shared→Prop) (E:Value→Shared→Prop),
  (∀F' f first s',FM.le F F'→Rep g F' st s'→VR F' fv f→aQ F' ql first→K (f,first) s')→wpAny (model g.prog g.w) g.A (getMethod v name plain) K E s
theorem wG{o name qm args lW pos}(hb:∀whole,attributeBase o name env whole=whole)(Ad:methodCallForm (args.length+lW.length) (backTo pos (starEach args env)) (backToKw pos (keywordEach lW env))=true)(Ae:(qm.endLine==pos.line)=true)(h:W0 g VR (eval o env) st fun ov uG=> ∃fv ql,eQ g ov name fv ql uG∧
   W0 g aQ (spliced (backTo pos (starEach args env))) uG fun xs aD=>W0 g aQ (evalAll (ip pos lW env)) aD fun fw aK=>bB g fv (ql++xs) (qk pos lW env) fw aK Q) (dF:((backTo pos (starEach args env)).any (·.1)||(backToKw pos (keywordEach lW env)).any (·.1.isNone))=false) (yC:(backToKw pos (keywordEach lW env)).all (·.1.isSome)=true) (hs:args=[]∨∃e rest,args=e::rest∧starEach (e::rest) env=(false,eval e env)::starEach rest env):
  W0 g VR (eval (.Call (.Attribute o name qm) args lW pos) env) st Q:=fun F s rr K E k=>by
 rw[arm_eval_Call,hb]
 refine E3 (h F s rr _ E fun F1 ov v aD s1 l1 r1 v1 h1=>E3 (Zc ?_))
 obtain⟨fv,ql,hm,h2⟩:=h1
 unfold methodCall
 rw[Ad]
 refine E3 (YJ ?_)
 unfold calleeOf
 rw[V8 rfl]
 refine hm F1 s1 v _ r1 v1 _ E fun F2 f first s2 l2 r2 hf Sw=>?_
 have hp:methodCallPos true o env qm pos=pure pos:=by unfold methodCallPos;simp[Ae]
 rw[hp]
 refine E3 (U1 ?_)
 exact ja dF yC hs h2 F2 s2 r2 hf Sw K E fun F3 b a eu s3 l3 r3 v3 h3=>k F3 b a eu s3 (l1.trans (l2.trans l3)) r3 v3 h3
def MC(g:Gd)(env:Env)(ov:AV)(name:Str)(pos:Pos)(args:List Expr)(st:AS)(Q:AV→AS→Prop):Prop:=
 ∃fv ql,eQ g ov name fv ql st∧W0 g aQ (spliced (backTo pos (starEach args env))) st fun xs aD=>bB g fv (ql++xs) [] [] aD Q
def UD(g:Gd)(env:Env)(ov:AV)(name:Str)(pos:Pos)(args:List Expr)(n:Str)(v:Expr)(st:AS)(Q:AV→AS→Prop):Prop:=
 ∃fv ql,eQ g ov name fv ql st∧W0 g aQ (spliced (backTo pos (starEach args env))) st fun xs aD=>W0 g VR (eval v env) aD fun y aK=>bB g fv (ql++xs) [n] [y] aK Q
theorem cR{o name qm args pos}(h:W0 g VR (eval o env) st fun ov uG=>MC g env ov name pos args uG Q)(hb:∀whole,attributeBase o name env whole=whole)(Ad:methodCallForm (args.length+([]:List Keyword).length) (backTo pos (starEach args env)) (backToKw pos (keywordEach [] env))=true)(Ae:(qm.endLine==pos.line)=true)(dF:((backTo pos (starEach args env)).any (·.1)||(backToKw pos (keywordEach [] env)).any (·.1.isNone))=false)(hs:args=[]∨∃e rest,args=e::rest∧starEach (e::rest) env=(false,eval e env)::starEach rest env):
  W0 g VR (eval (.Call (.Attribute o name qm) args [] pos) env) st Q:=by
 refine wG hb Ad Ae (h.mono fun ov uG h0=>?_) dF rfl hs
 obtain⟨fv,ql,hm,h1⟩:=h0
 exact⟨fv,ql,hm,h1.mono fun xs aD hx=>iq hx⟩
theorem jx{o name qm args n v p pos}(h:W0 g VR (eval o env) st fun ov uG=>UD g env ov name pos args n v uG Q)(hb:∀whole,attributeBase o name env whole=whole)(Ad:methodCallForm (args.length+ [(⟨some n,v,p⟩:Keyword)].length) (backTo pos (starEach args env)) (backToKw pos (keywordEach [⟨some n,v,p⟩] env))=true)(Ae:(qm.endLine==pos.line)=true)(dF:((backTo pos (starEach args env)).any (·.1)||(backToKw pos (keywordEach [⟨some n,v,p⟩] env)).any (·.1.isNone))=false)(hs:args=[]∨∃e rest,args=e::rest∧starEach (e::rest) env=(false,eval e env)::starEach rest env):
  W0 g VR (eval (.Call (.Attribute o name qm) args [⟨some n,v,p⟩] pos) env) st Q:=by
 refine wG hb Ad Ae (h.mono fun ov uG h0=>?_) dF rfl hs
 obtain⟨fv,ql,hm,h1⟩:=h0
 exact⟨fv,ql,hm,h1.mono fun xs aD hx=>mE (hx.mono fun y aK hy=>iq hy)⟩
theorem ew{ov name pos args fv}(hm:eQ g ov name fv [ov] st)(h:W0 g aQ (spliced (backTo pos (starEach args env))) st fun xs aD=>bB g fv (ov::xs) [] [] aD Q):MC g env ov name pos args st Q:=⟨fv,_,hm,h⟩
theorem jy{ov name pos args n v fv}(hm:eQ g ov name fv [ov] st)(h:W0 g aQ (spliced (backTo pos (starEach args env))) st fun xs aD=>W0 g VR (eval v env) aD fun y aK=>bB g fv (ov::xs) [n] [y] aK Q):UD g env ov name pos args n v st Q:=⟨fv,_,hm,h⟩
end
end
section
inductive Sx(x:Str)(R:Value→Prop)(T:List (Str×Value)→Prop)(bs:List (Str×Value)):Prop
 | mk (v:Value) (t:List (Str×Value)) (e:bs=(x,v)::t) (h:R v) (t:T t)
def BR(F:FM):List (Str×AV)→List (Str×Value)→Prop
 | [],bs=>bs=[]
 | p::r,bs=>Sx p.1 (VR F p.2) (BR F r) bs
theorem BR.names{F:FM}:∀ {as:List (Str×AV)} {bs:List (Str×Value)},BR F as bs→bs.map (·.1)=as.map (·.1)
 | [],_,e=>E5 (map _) e
 | p::r,_,e=>Sx.rec (fun v t e O h=> (E5 (map _) e).trans (E5 (p.1:: ·) h.names)) e
noncomputable def upd(m:Str→Option AV)(x:Str)(v:AV):Str→Option AV:=fun y=>if y=x then some v else m y
noncomputable def ki(kindOf:Str→Option NameKind):List (Str×AV)→(Str→Option AV)→Str→Option AV
 | [],m=>m
 |(n,v)::r,m=>ki kindOf r (if kindOf n=some .local then upd m n v else m)
noncomputable def kj(kindOf:Str→Option NameKind):List (Str×AV)→(Str→Option AV)→Str→Option AV
 | [],m=>m
 |(n,v)::r,m=>kj kindOf r (if kindOf n=some .local then m else upd m n v)
theorem i9.upd{F:FM}{am:Str→Option AV}{m:Str→Option Value}(h:∀y,i9 F (am y) (m y))(hx:VR F x v):
  ∀y,i9 F (Mine.upd am n x y) ((fun y=>if y=n then some v else m y) y):=fun y=>by
 show i9 F (if y=n then some x else am y) (if y=n then some v else m y)
 split
 ·exact .of hx
 ·exact h y
theorem i9.ite{F:FM}{c:Prop}[Decidable c]{a b:Str→Option AV}{a' b':Str→Option Value}(h1:∀y,i9 F (a y) (a' y))(h2:∀y,i9 F (b y) (b' y))(y:Str):i9 F ((if c then a else b) y) ((if c then a' else b') y):=by
 split
 ·exact h1 y
 ·exact h2 y
theorem pe{F:FM}(kindOf:Str→Option NameKind):∀(as:List (Str×AV)) (bs:List (Str×Value)),BR F as bs→∀(am:Str→Option AV) (m:Str→Option Value),(∀y,i9 F (am y) (m y))→
  ∀y,i9 F (ki kindOf as am y) (bindL kindOf bs m y)
 | [],_,e,am,m,h=>by cases(e:_=_);exact h
 |(n,x)::r,_,e,am,m,h=>by
  obtain⟨v,t,rfl,hx,hr⟩:=e
  exact pe kindOf r t hr _ _ (.ite (.upd h hx) h)
theorem pg{F:FM}(kindOf:Str→Option NameKind):∀(as:List (Str×AV)) (bs:List (Str×Value)),BR F as bs→∀(am:Str→Option AV) (m:Str→Option Value),(∀y,i9 F (am y) (m y))→
  ∀y,i9 F (kj kindOf as am y) (bindC kindOf bs m y)
 | [],_,e,am,m,h=>by cases(e:_=_);exact h
 |(n,x)::r,_,e,am,m,h=>by
  obtain⟨v,t,rfl,hx,hr⟩:=e
  exact pg kindOf r t hr _ _ (.ite h (.upd h hx))
noncomputable def cp(cs:List (Str×Addr))(m:Str→Option AV):Mem:=cs.map fun p=> (p.2,AO.cell (m p.1))
theorem oN(cs:List (Str×Addr))(m:Str→Option AV):(cp cs m).map (·.1)=cs.map (·.2):=by simp[cp]
theorem Ix{a b n m:Nat}(hn:1≤n)(h:a+n<m):a+1+(n - 1)<m:=by rw[ZZ,Nat.add_sub_cancel' hn];exact h
theorem Iy{a k n m:Nat}(hn:1≤n)(hk:k≤8)(h:a+8*n<m):a+k+8*(n - 1)<m:=by
 obtain⟨j,rfl⟩:=Nat.exists_eq_add_of_le' hn
 exact YE (by rw[abO,Nat.mul_add,ZZ,Z8 k];exact YT (YT hk _) _) h
noncomputable def Gd.callee(g:Gd)(hn:1≤g.n)(L:Addr)(env:Env):Gd:=
 {g with L:=L,A:=g.A.deeper env,n:=g.n - 1,hd:=Ix (b:=0) hn g.hd,hu:=Iy (k:=3) hn (E1 rfl) g.hu }
theorem RepM.enter{g g':Gd}{F:FM}{L:Addr}{m cm:Str→Option Value}{cs:List (Str×Addr)}{am Nf:Str→Option AV}(r:RepM g F mem s)(Wj:g'.K=g.K)(Wm:g'.os=g.os)(Sy:g'.tabs=g.tabs)(Wn:g'.L=L)(x:InCallC s L m cs cm s₁)(gS:s.toks≤s₁.toks)(h1:∀y,i9 F (am y) (m y))(h2:∀y,i9 F (Nf y) (cm y))(Wo:(cs.map (·.1)).Nodup)(vars:cI)(hv:∀p∈vars,p.2=am p.1)(N3:(vars.map (·.1)).Nodup):
  Rep g' F ⟨vars,cp cs Nf++mem⟩ s₁:=by
 obtain⟨h',tk,rfl,hk⟩:=x.done
 subst Wn
 have Ng:s.heap.objs.size≤g'.L:=x.toInCall.fresh
 have UE:∀p∈cp cs Nf,g'.L<p.1:=fun p hp=>by
  obtain⟨q,hq,rfl⟩:=U0.mp hp
  exact x.above q.1 q.2 hq
 have Sz:∀p∈cp cs Nf,s.heap.objs.size≤p.1:=fun p hp=>E4 Ng (Yy (UE p hp))
 have rk:=r.keeps hk tk fun h=>U2 h gS
 have all:∀ {P:Addr×AO→Prop},(∀p∈cp cs Nf,P p)→(∀p∈mem,P p)→∀p∈cp cs Nf++mem,P p:=fun a b p hp=> (YZ.mp hp).elim (a p) (b p)
 exact
 {hP:=rk.hP,hF:=rk.hF,hK:=Wj▸rk.hK,pf:=rk.pf
  hm:=all (fun p hp=>by
    obtain⟨q,hq,rfl⟩:=U0.mp hp
    obtain⟨o,ho,hd⟩:=x.cell q.1 q.2 (lookup_of_mem_nodup Wo hq)
    exact⟨o,_,ho,hd,h2 _⟩) rk.hm
  ap:=all (fun p hp=> ⟨aF r.hP (Sz p hp),aF r.hF (Sz p hp)⟩) rk.ap
  nd:=by
   rw[YA,oN]
   refine List.nodup_append.mpr ⟨List.nodup_iff_pairwise_ne.mpr (List.pairwise_map.mpr x.apart),r.nd,fun a ha b hb e=>?_⟩
   obtain⟨q,hq,e1⟩:=U0.mp ha
   obtain⟨p,hp,e2⟩:=U0.mp hb
   exact Z0 _ (YE (E4 (E4 Ng (Yy (x.above q.1 q.2 hq))) (U8 (e1.trans (e.trans e2.symm)))) (r.iU hp))
  tk:=rk.tk,gens:=r.gens,os:=Wm▸r.os
  tab:=Sy▸rk.tab
  b0:=Sy▸fun t ht=> ⟨(r.b0 t ht).1,(r.b0 t ht).2.1,all (fun p hp=>Ze (U2 (r.iV ht) (Sz p hp))) (r.b0 t ht).2.2⟩
  ns:=⟨m,x.toInCall.ns,fun p hp=>hv p hp▸h1 p.1⟩
  nv:=N3
  fq:=aF r.hP Ng,fH:=aF r.hF Ng
  eN:=all (fun p hp=>Ze (UE p hp)) fun p hp=>V2 (U2 (r.iU hp) Ng)
  ft:=Sy▸fun t ht=>V2 (U2 (r.iV ht) Ng) }
def Ends(mem:Mem)(Q:AV→Mem→Prop):fu→AS→Prop
 | .ret x,st=> ∃mem',mem'.Sublist st.mem∧Q x mem'
 | .next,st=> ∃mem',mem'.Sublist st.mem∧Q .none mem'
 | _,_=>False
theorem dU.at{F:FM}(r:RepM g F mem s){q:Str}(x:dU F cd q):s.heap.CodeRec cd q:=
 x.rec fun c o vs t a b d e=> ⟨c,o,vs,t,a,r.hF _ _ b,d,e⟩
theorem dU.UF{F:FM}(r:RepM g F mem s){q:Str}(x:dU g.K cd q):dU F cd q:=x.aX r.hK
structure cU(g g':Gd):Prop where
 prog:g'.prog=g.prog
 w:g'.w=g.w
 K:g'.K=g.K
 os:g'.os=g.os
 gl:g'.gl=g.gl
 bl:g'.bl=g.bl
 tabs:g'.tabs=g.tabs
 n:g'.n=g.n - 1
theorem EP.of{g g':Gd}{GL:List (Str×Value)}(h:EP g GL)(e1:g'.gl=g.gl)(e2:g'.bl=g.bl):EP g' GL:=fun p hp=>by
 unfold iW
 rw[e1,e2];exact h p hp
inductive FnAt(K:FM)(a:Addr)(f:FI)(qual:Str)(dV kV:Value):Prop
 | mk (o:Obj) (body:List Stmt) (doc pm:Value) (an:Option Addr) (eg ct:Value) (b:f.body= .stmts body) (h:K.f a=some o) (d:o.data= .func (fnX f.name qual f.params body f.scope [] dV kV doc pm an eg ct)) (c:dU K eg qual)
noncomputable def cy(names:List (Str×NameKind)):Bool:=
 decide ((names.map (·.1)).Nodup)&&names.all fun p=>decide (names.lookup p.1=some p.2)&& (!(p.1==("__debug__" :Str))&&!(p.1==("__classdict__" :Str)))
noncomputable def kr(names oy:List (Str×NameKind)):Bool:=oy.all fun p=>decide (names.lookup p.1=some p.2)&& (!(p.1==("__debug__" :Str))&&!(p.1==("__classdict__" :Str)))
theorem kr.at{names oy:List (Str×NameKind)}(h:kr names oy=true){p:Str×NameKind}(hp:p∈oy):names.lookup p.1=some p.2∧(p.1==("__debug__" :Str))=false∧(p.1==("__classdict__" :Str))=false:=
 have h:=E2.mp (Jb.mp h p hp)
 have h2:=E2.mp h.2
 ⟨U9 h.1,nt h2.1,nt h2.2⟩
theorem Af{env:Env}{oy:List (Str×NameKind)}{cs:List (Str×Addr)}(hk:kr env.scope.names oy=true)(hc:env.cells=cs)(rR:(cs.map (·.1)).Nodup):Kn env oy cs:=
 ⟨fun p hp=> .inl (kr.at hk hp).1,fun p hp=> (kr.at hk hp).2,fun x k O O c hx=>hc▸lookup_of_mem_nodup rR hx⟩
theorem r7{g:Gd}(hn:1≤g.n){F:FM}{Q:AV→Mem→Prop}(r:RepM g F mem s){scope:Scope}{bs:List (Str×Value)}{a:Addr}{body:List Stmt}{R:Result→Shared→Prop}{E:Value→Shared→Prop}{as:List (Str×AV)}{ls:cI}{oy:List (Str×NameKind)}(Kd:BR F as bs)(hk:scope.kind= .function)(wH:kr scope.names oy=true)(gT:(as.all fun x=>decide (scope.names.lookup x.1=some .local)||decide (scope.names.lookup x.1=some .cell))=true)(Nh:(ls.map fun p=> (p.1,ki (scope.names.lookup ·) as (fun O=>none) p.1))=ls)(Ag:decide ((ls.map (·.1)).Nodup)=true)(Ah:decide (((cellsFrom 0 scope.names []).map (·.1)).Nodup)=true)(h:∀(g':Gd) env,cU g g'→bp g' env→Kn env oy (cellsFrom (s.heap.objs.size+1) scope.names [])→(∀x,env.kindOf x=scope.names.lookup x)→env.code=eg→env.qual=qual→
   W0 g' FR (execs body env) ⟨ls,cp (cellsFrom (s.heap.objs.size+1) scope.names []) (kj (scope.names.lookup ·) as fun O=>none)++mem⟩ (Ends Wp Q)) (k:∀F' x v mem' s',FM.le F F'→RepM g F' mem' s'→VR F' x v→Q x mem'→R (.ok (.ret v)) s'):
  wpAny (model g.prog g.w) g.A.in1 (newFunctionEnv scope mainGlobals [] bs qual (some a) eg none builtinsNs) (fun env s₂=>s₂.heap.NoLimit∧codeAny (model g.prog g.w) g.A (.func body env) R s₂) E s:=by
 refine b3 (wpAny_newFunctionEnv_cells hk (fun y hy=>?_) fun env he s₁ x gS=>?_)
 ·obtain⟨z,hz,e⟩:=U0.mp (Kd.names▸aaK hy:y.1∈as.map (·.1))
  rw[← e]
  rcases Zr.mp (Jb.mp gT z hz) with h1 | h1
  ·exact .inl (U9 h1)
  ·exact .inr ⟨U9 h1,cellsFrom_some _ _ _ (.inl (U9 h1))⟩
 ·subst he
  have UG:((cellsFrom (s.heap.objs.size+1) scope.names []).map (·.1)).Nodup:=cellsFrom_names scope.names 0 (s.heap.objs.size+1) [] [] rfl▸U9 Ah
  refine⟨(g.J9 _ r.bS).keeps x.toInCall.keep,codeAny_func ?_⟩
  refine h (g.callee hn s.heap.objs.size _) _ ⟨rfl,rfl,rfl,rfl,rfl,rfl,rfl,rfl⟩ ⟨rfl,hk,rfl,rfl⟩ (Af wH rfl UG) (fun O=>rfl) rfl rfl F s₁
   (r.enter (g':=g.callee hn s.heap.objs.size _) rfl rfl rfl rfl x gS (pe _ as bs Kd (fun O=>none) (fun O=>none) fun O=>True.intro) (pg _ as bs Kd (fun O=>none) (fun O=>none) fun O=>True.intro) UG ls
    (fun p hp=>by rw[← Nh] at hp;obtain⟨q,_,rfl⟩:=U0.mp hp;rfl) (U9 Ag)) _ _ fun F' f fl bH s' l r' hf hq=>?_
  cases f with
  | ret x=>
   obtain⟨v,rfl,hx⟩:=hf
   obtain⟨mem',hs,hq⟩:=hq
   exact k F' x v mem' s' l {r'.toRepM.sub hs with hm:=(r'.toRepM.sub hs).hm } hx hq
  | next=>
   cases(hf:_=_)
   obtain⟨mem',hs,hq⟩:=hq
   exact k F' .none .none mem' s' l {r'.toRepM.sub hs with hm:=(r'.toRepM.sub hs).hm } (un _) hq
  | brk=>exact hq.elim
  | cont=>exact hq.elim
def qn(g:Gd)(a:Addr)(env:Env):Prop:= ∃o fd,g.K.f a=some o∧o.data= .func fd∧env.code=fd.code∧env.qual=fd.qualname++ ".<locals>."
def jz(g:Gd)(f:FI)(qual:Str)(dV kV:Value)(xs:List AV)(kn:List Str)(fw:List AV)(as:List (Str×AV)):Prop:=
 ∀(body:List Stmt) (F:FM) (s:Shared) vs kvs doc pm an eg ct,(∀a o,g.K.f a=some o→s.heap.get? a=some o)→aQ F xs vs→aQ F fw kvs→∃bs,BindsTo s (fnX f.name qual f.params body f.scope [] dV kV doc pm an eg ct) ⟨vs,kn.zip kvs⟩ bs∧BR F as bs
theorem Ke{g:Gd}(hn:1≤g.n){a:Addr}{kn:List Str}{Q:AV→Mem→Prop}(hf:FnAt g.K a f qual dV kV)(as:List (Str×AV))(ls:cI)(body:List Stmt)(eR:f.body= .stmts body)(gU:jz g f qual dV kV xs kn fw as)(oy:List (Str×NameKind))(wH:kr f.scope.names oy=true)(gT:(as.all fun x=>decide (f.scope.names.lookup x.1=some .local)||decide (f.scope.names.lookup x.1=some .cell))=true)(Nh:(ls.map fun p=> (p.1,ki (f.scope.names.lookup ·) as (fun O=>none) p.1))=ls)(Ag:decide ((ls.map (·.1)).Nodup)=true)(Ah:decide (((cellsFrom 0 f.scope.names []).map (·.1)).Nodup)=true)(h:∀(g':Gd) L env,cU g g'→bp g' env→Kn env oy (cellsFrom (L+1) f.scope.names [])→(∀x,env.kindOf x=f.scope.names.lookup x)→qn g a env→
   W0 g' FR (execs body env) ⟨ls,cp (cellsFrom (L+1) f.scope.names []) (kj (f.scope.names.lookup ·) as fun O=>none)++mem⟩ (Ends mem Q)) (SC:f.scope.isCoroutine=false) (Kf:f.scope.isGenerator=false) (hk:f.scope.kind= .function):
  WC g (.val (.ref a)) xs kn fw mem Q:=by
 intro F s fv vs kvs r Kg hv gN R k
 cases(Kg:_=_)
 obtain⟨o,N4,doc,pm,an,eg,ct,SD,ho,hd,uH⟩:=hf
 cases eR.symm.trans SD
 obtain⟨bs,SF,Kd⟩:=gU body F s vs kvs doc pm an eg ct r.bS hv gN
 exact⟨i_ (r.bS _ _ ho) hd,codeAny_call_function (YE (Y0 _ _) g.hd) (r.bS _ _ ho) hd SC Kf rfl ((uH.UF r).at r) (SF _ _ _ _
  (r7 hn r Kd hk wH gT Nh Ag Ah (fun g' env b e N kd h1 h2=>h g' _ env b e N kd ⟨o,_,ho,hd,h1,h2⟩) k))⟩
end
section
section
variable {g:Gd}{env:Env}{st:AS}
theorem gV{op:Operator}{a b c:Int}(h:Q (.int c) st)(hp:∀(A:Around) (s:Shared) (t u:Tok) (K:Value→Shared→Prop) (E:Value→Shared→Prop),K (.int c s.toks) {s with toks:=s.toks+1 }→wpAny (model g.prog g.w) A (binaryOp op (.int a t) (.int b u)) K E s):
  W2 g VR (binaryOp op) (.int a) (.int b) st Q:=fun F s v u r hv hu K E k=>by
 obtain⟨t,rfl⟩:=hv;obtain⟨t',rfl⟩:=hu
 exact hp _ s t t' K E (k F _ _ st _ (FM.le.refl _) (r.tok _ tp) (oH ..) h)
theorem ES{op:Operator}{a b c:Int}(h:Q (.int c) st)(hp:∀(A:Around) (s:Shared) (t u:Tok) (K:Value→Shared→Prop) (E:Value→Shared→Prop),K (.int c s.toks) {s with toks:=s.toks+1 }→wpAny (model g.prog g.w) A (inplaceOp op (.int a t) (.int b u)) K E s):
  W2 g VR (inplaceOp op) (.int a) (.int b) st Q:=fun F s v u r hv hu K E k=>by
 obtain⟨t,rfl⟩:=hv;obtain⟨t',rfl⟩:=hu
 exact hp _ s t t' K E (k F _ _ st _ (FM.le.refl _) (r.tok _ tp) (oH ..) h)
theorem N5{a b:Int}(h:Q (.int (a+b)) st):W2 g VR (binaryOp .Add) (.int a) (.int b) st Q:=gV h fun O O O O O O k=>PyProof.Rows.add_int k
theorem Kh{a b:Int}(h:Q (.int (a+b)) st):W2 g VR (inplaceOp .Add) (.int a) (.int b) st Q:=ES h fun O O O O O O k=>PyProof.Rows.iadd_int k
theorem N6{a b:Int}(h:Q (.int (a - b)) st):W2 g VR (binaryOp .Sub) (.int a) (.int b) st Q:=gV h fun O O O O O O k=>PyProof.Rows.sub_int k
theorem N7{a b:Int}(hm:IntMulOk a b)(h:Q (.int (a*b)) st):W2 g VR (binaryOp .Mult) (.int a) (.int b) st Q:=gV h fun O O O O O O k=>PyProof.Rows.mul_int k hm
theorem Iz{a b:Int}(hb:b≠0)(h:Q (.int (a.fmod b)) st):W2 g VR (binaryOp .Mod) (.int a) (.int b) st Q:=gV h fun O O O O O O k=>PyProof.Rows.mod_int hb k
theorem IA{a b:Int}(hb:b≠0)(hs:b.natAbs<1073741824)(h:Q (.int (a.fdiv b)) st):W2 g VR (binaryOp .FloorDiv) (.int a) (.int b) st Q:=
 gV h fun O O O O O O k=>PyProof.Rows.floordiv_int hb k (.inl (PyProof.noPylong_small hs))
theorem N8{a n:Int}(hn:0≤n)(hsz:(Builtin.Int.intBits a:Int)*n≤2 ^ 27)(h:Q (.int (a ^ n.toNat)) st):W2 g VR (binaryOp .Pow) (.int a) (.int n) st Q:=gV h fun O O O O O O k=>PyProof.Rows.pow_int hn hsz k
theorem N9{a n:Int}(hn:0≤n)(h:Q (.int (a.fdiv (2 ^ n.toNat))) st):W2 g VR (binaryOp .RShift) (.int a) (.int n) st Q:=gV h fun O O O O O O k=>PyProof.Rows.rshift_int hn k
theorem N_{a b:Int}(h:Q (.int (Builtin.bitAnd a b)) st):W2 g VR (binaryOp .BitAnd) (.int a) (.int b) st Q:=gV h fun O O O O O O k=>PyProof.Rows.and_int k
theorem Oa{a:Int}(h:Q (.int (-a)) st):W1 g VR (unaryOp .USub) (.int a) st Q:=fun F s v r hv K E k=>by
 obtain⟨t,rfl⟩:=hv
 exact PyProof.Rows.neg_int (k F _ _ st _ (FM.le.refl _) (r.tok _ tp) (oH ..) h)
theorem mH{op:CmpOp}{a b:Int}{c:Bool}(h:Q (.bool c) st)(hp:∀(A:Around) (s:Shared) (t u:Tok) (K:Value→Shared→Prop) (E:Value→Shared→Prop),K (.bool c) s→wpAny (model g.prog g.w) A (compareOp op (.int a t) (.int b u)) K E s):
  W2 g VR (compareOp op) (.int a) (.int b) st Q:=fun F s v u r hv hu K E k=>by
 obtain⟨t,rfl⟩:=hv;obtain⟨t',rfl⟩:=hu
 exact hp _ s t t' K E (k F _ _ st _ (FM.le.refl _) r (my ..) h)
theorem Oc{a b:Int}(h:Q (.bool (decide (a<b))) st):W2 g VR (compareOp .Lt) (.int a) (.int b) st Q:=mH h fun O O O O O O k=>PyProof.Rows.lt_int k
theorem SG{a b:Int}(h:Q (.bool (decide (a≤b))) st):W2 g VR (compareOp .LtE) (.int a) (.int b) st Q:=mH h fun O O O O O O k=>PyProof.Rows.le_int k
theorem SH{a b:Int}(h:Q (.bool (decide (b≤a))) st):W2 g VR (compareOp .GtE) (.int a) (.int b) st Q:=mH h fun O O O O O O k=>PyProof.Rows.ge_int k
theorem Ki{a b:Int}(h:Q (.bool (a==b)) st):W2 g VR (compareOp .Eq) (.int a) (.int b) st Q:=mH h fun O O O O O O k=>PyProof.Rows.eq_int k
theorem SI{a b:Int}(h:Q (.bool (a !=b)) st):W2 g VR (compareOp .NotEq) (.int a) (.int b) st Q:=mH h fun O O O O O O k=>PyProof.Rows.ne_int k
theorem qo{a:Int}(h:Q (a !=0) st):W1 g RQ truthy (.int a) st Q:=fun F s v r hv K E k=>by
 obtain⟨t,rfl⟩:=hv
 exact PySem.P.truthy_int (k F _ _ st _ (FM.le.refl _) r rfl h)
theorem kt{b:Bool}(hx:∀F v,VR F x v→(v==Value.none)=b)(h:Q (.bool b) st):W2 g VR (compareOp .Is) x .none st Q:=fun F s v u r hv hu K E k=>by
 cases(hu:_=_)
 exact is_none (by rw[hx F v hv];exact k F _ _ st _ (FM.le.refl _) r (my ..) h)
theorem gg{b:Bool}(hx:∀F v,VR F x v→(v==Value.none)=b)(h:Q (.bool (!b)) st):W2 g VR (compareOp .IsNot) x .none st Q:=fun F s v u r hv hu K E k=>by
 cases(hu:_=_)
 exact isNot_none (by rw[hx F v hv];exact k F _ _ st _ (FM.le.refl _) r (my ..) h)
theorem IB(h:Q (.bool (x==y)) st):W2 g VR (compareOp .Eq) (.str x) (.str y) st Q:=fun F s v u r hv hu K E k=>by
 obtain⟨t,rfl⟩:=hv;obtain⟨t',rfl⟩:=hu
 exact PyProof.Rows.eq_str (k F _ _ st _ (FM.le.refl _) r (my ..) h)
theorem Od(h:Q (.bool (x !=y)) st):W2 g VR (compareOp .NotEq) (.str x) (.str y) st Q:=fun F s v u r hv hu K E k=>by
 obtain⟨t,rfl⟩:=hv;obtain⟨t',rfl⟩:=hu
 exact PyProof.Rows.ne_str (k F _ _ st _ (FM.le.refl _) r (my ..) h)
theorem Kj{x y:Str}(hsz:x.length+y.length≤sizeLine)(h:Q (.str (x++y)) st):W2 g VR (binaryOp .Add) (.str x) (.str y) st Q:=fun F s v u r hv hu K E k=>by
 obtain⟨t,rfl⟩:=hv;obtain⟨t',rfl⟩:=hu
 exact b3 (PyProof.Rows.add_str (fun t' tk gS=>k F _ _ st _ (FM.le.refl _) (r.tok _ fun q=>U2 q gS) (yA ..) h) hsz)
theorem Oe{F:FM}(r:RepM g F mem s)(hv:VR F (.tup l) v):∃a items,v= .ref a∧s.heap.IsTuple a items∧aQ F l items.toList:=
 uz.rec (fun a items n e h i=> ⟨a,items,e,⟨_,r.hF _ _ h,rfl,n,rfl⟩,i⟩) hv
theorem ph{F:FM}(r:RepM g F mem s){a:Addr}(hm:(a,AO.list l)∈mem):∃items,s.heap.IsList a items∧aQ F l items.toList:=
 o_.rec (fun items n e h=> ⟨items,⟨_,e,rfl,n,rfl⟩,h⟩) (r.hm _ hm)
theorem r8{h:Heap}{a:Addr}{items:Array Value}(x:h.IsTuple a items):IsTup h a items:=by
 obtain⟨o,e,c,n,d⟩:=x
 exact⟨o,e,c,n,d⟩
theorem aQ.size{F:FM}{items:Array Value}(h:aQ F l items.toList):items.size=l.length:=by have:=h.length;simpa using this
theorem aQ.at{F:FM}{items:Array Value}(h:aQ F l items.toList){i:Nat}(e:l[i]? =some x):∃v,items[i]? =some v∧VR F x v:=by
 obtain⟨v,e',hv⟩:=h.get e
 exact⟨v,by simpa using e',hv⟩
inductive cr:AV→List AV→Mem→Prop
 | lst (l:List AV) (mem:Mem):cr (.lst l) l mem
 | mem {a:Addr} {l:List AV} {mem:Mem} (h:(a,AO.list l)∈mem):cr (.val (.ref a)) l mem
inductive UH(F:FM)(s:Shared)(l:List AV)(v:Value):Prop
 | mk (a:Addr) (items:Array Value) (n:Nat) (e:v= .ref a) (h:s.heap.get? a=some (cb items n)) (r:aQ F l items.toList)
theorem cr.at{F:FM}{mem:Mem}{s:Shared}{a:AV}{l:List AV}{v:Value}(h:cr a l mem)(r:RepM g F mem s)(hv:VR F a v):UH F s l v:=by
 cases h with
 | lst=>exact uz.rec (fun a items n e h i=> ⟨a,items,n,e,r.hF _ _ h,i⟩) hv
 | mem hm=>exact o_.rec (fun items n e h=> ⟨_,items,n,hv,e,h⟩) (r.hm _ hm)
noncomputable def bT(l:List AV)(k:Int):Option AV:=(seqIndex? k l.length).bind (l[·]?)
theorem dW{k:Nat}(h:l[k]? =some x):bT l (k:Int)=some x:=by
 unfold bT
 rw[PySem.seqIndex_of (V6 k) (YR.mpr (V7.mp h).1)]
 exact h
theorem UI{α:Type}{c:Bool}{x y:α}:(if c=true then some x else none)=some y→c=true∧x=y:=by
 cases c
 ·exact fun h=>nomatch h
 ·exact fun h=> ⟨rfl,YV h⟩
theorem uI{a b:Prop}[Decidable a][Decidable b](h:(decide a&&decide b)=true):a∧b:=⟨U9 (E2.mp h).1,U9 (E2.mp h).2⟩
theorem gW{k:Int}{n j:Nat}(h:seqIndex? k n=some j):j<n∧((0≤k∧(j:Int)=k)∨(k<0∧(j:Int)=k+n)):=by
 by_cases hk:k<0
 ·obtain⟨c,rfl⟩:=UI (show(if(decide (0≤k+n)&&decide (k+n<n))=true then some (k+(n:Int)).toNat else none)=some j by rw[← h,seqIndex?,V8 hk])
  exact⟨(Int.toNat_lt (uI c).1).mpr (uI c).2,.inr ⟨hk,Y5 (uI c).1⟩⟩
 ·obtain⟨c,rfl⟩:=UI (show(if(decide (0≤k)&&decide (k<n))=true then some k.toNat else none)=some j by rw[← h,seqIndex?,V4 hk])
  exact⟨(Int.toNat_lt (uI c).1).mpr (uI c).2,.inl ⟨(uI c).1,Y5 (uI c).1⟩⟩
theorem Ai{a n:Nat}(h:a<n)(hn:n≤sizeLine):(a:Int)<2 ^ 63:=YR.mpr (U2 h (E4 hn (E1 rfl)))
theorem qp{k:Int}{j n:Nat}(h:(j:Int)=k+n)(hn:n≤sizeLine):-(n:Int)≤k∧-2 ^ 63≤k:=
 have h1:-(n:Int)≤k:=Int.neg_le_of_neg_le (Int.le_of_sub_nonneg (by rw[Int.sub_neg,Int.add_comm,← h];exact V6 j))
 ⟨h1,aaR (Int.neg_le_neg (Zl.mpr (E4 hn (E1 rfl:sizeLine≤2 ^ 63)))) h1⟩
theorem uJ{k:Int}{n j:Nat}(h:seqIndex? k n=some j)(hn:n≤sizeLine):-2 ^ 63≤k∧k<2 ^ 63:=
 have h:=gW h
 ⟨h.2.elim (fun q=>aaR (by decide) q.1) fun q=> (qp q.2 hn).2,h.2.elim (fun q=>q.2▸Ai h.1 hn) fun q=>Int.lt_trans q.1 (by decide)⟩
theorem r9{prog:Program}{w:World}{E:Value→Shared→Prop}{s:Shared}{l:Addr}{items:Array Value}{k:Int}{t:Tok}{j:Nat}{Q:Value→Shared→Prop}(hl:s.heap.IsList l items)(hj:seqIndex? k items.size=some j)(hsz:items.size≤sizeLine)(hx:items[j]? =some x)(h:Q x s):wpAny (model prog w) A (getItem (.ref l) (.int k t)) Q E s:=by
 obtain⟨hr,⟨h0,rfl⟩ |⟨h0,h1⟩⟩:=gW hj
 ·exact wpAny_getItem_list hl h0 (Ai hr hsz) hx h
 ·exact wpAny_getItem_list_neg hl h0 (qp h1 hsz).1 (qp h1 hsz).2 (by rw[← h1];exact hx) h
theorem Aj{α β:Type}{o:Option α}{f:α→Option β}{x:β}(h:o.bind f=some x):∃a,o=some a∧f a=some x:=by
 cases o with
 | none=>cases h
 | some a=>exact⟨a,rfl,h⟩
theorem yD{k:Int}(hL:cr a l st.mem)(hsz:l.length≤sizeLine)(hx:bT l k=some x)(h:Q x st):W2 g VR getItem a (.int k) st Q:=fun F s v u r hv hu K E kk=>by
 obtain⟨a,items,n,rfl,hl,hi⟩:=hL.at r.toRepM hv
 obtain⟨t,rfl⟩:=hu
 obtain⟨j,hj,hx⟩:=Aj hx
 obtain⟨v,hv,hr⟩:=hi.at hx
 exact r9 ⟨_,hl,rfl,n,rfl⟩ (hi.size▸hj) (hi.size▸hsz) hv (kk F _ _ st _ (FM.le.refl _) r hr h)
theorem jb{l:List AV}{k:Int}(hsz:l.length≤sizeLine)(hx:bT l k=some x)(h:Q x st):W2 g VR getItem (.tup l) (.int k) st Q:=fun F s v u r hv hu K E kk=>by
 obtain⟨a,items,rfl,hl,hi⟩:=Oe r.toRepM hv
 obtain⟨t,rfl⟩:=hu
 obtain⟨j,hj,hx⟩:=Aj hx
 obtain⟨v,hv,hr⟩:=hi.at hx
 refine PyProof.Rows.getItem_tuple (r8 hl) (uJ hj hsz).1 (uJ hj hsz).2 (hi.size▸hj) hv (kk F _ _ st _ (FM.le.refl _) r hr h)
theorem w_sub{aj slice pos}(h:W0 g VR (eval aj env) st fun a aD=>W0 g VR (eval slice env) aD fun b aK=>W2 g VR (subscriptTail aj slice) a b aK Q):
  W0 g VR (eval (.Subscript aj slice pos) env) st Q:=
 fun F s rr K E k=>Subscript_ (h F s rr _ E fun F1 a u aD s1 l1 r1 v1 h1=>h1 F1 s1 r1 _ E fun F2 b w aK s2 l2 r2 v2 h2=>
  h2 F2 s2 u w r2 (v1.mono l2) v2 K E fun F3 c x eu s3 l3 r3 v3 h3=>k F3 c x eu s3 (l1.trans (l2.trans l3)) r3 v3 h3)
theorem ku{T id:String}(hT:∀F s v,Rep g F st s→VR F x v→s.TypeIs v T)(hl:typeLookup (.type T) "__getitem__" =pure (some (.builtin id)))(h:W2 g VR getItem x y st Q)(hs:∀o i,∃uK,subscripted slice false o i=operate uK (getItem o i)):W2 g VR (subscriptTail aj slice) x y st Q:=fun F s v u r hv hu K E k=>by
 obtain⟨uK,e⟩:=hs v u
 exact tail_any (hT F s v r hv) hl (h F s v u r hv hu K E k) e
theorem Of{F:FM}(hL:cr a l st.mem)(r:Rep g F st s)(hv:VR F a v):s.TypeIs v "list":=
 UH.rec (fun a items n e h O=>e▸⟨_,h,rfl⟩) (hL.at r.toRepM hv)
theorem Kk{F:FM}(r:Rep g F st s)(hv:VR F (.tup l) v):s.TypeIs v "tuple":=
 uz.rec (fun a items n e h i=>e▸⟨_,r.hF _ _ h,rfl⟩) hv
theorem Kl{F:FM}(r:Rep g F st s)(hv:VR F (.str x) v):s.TypeIs v "str":=Zf hv fun t e=>e▸abA s x t
def Ak(slice:Expr):Prop:= ∀o i,∃uK,subscripted slice false o i=operate uK (getItem o i)
theorem pj(hL:cr a l st.mem)(h:W2 g VR getItem a y st Q)(hs:Ak slice):W2 g VR (subscriptTail aj slice) a y st Q:=ku (fun F s v r hv=>Of hL r hv) slot_list_getitem.lookup h hs
theorem gi(h:W2 g VR getItem (.tup l) y st Q)(hs:Ak slice):W2 g VR (subscriptTail aj slice) (.tup l) y st Q:=ku (fun F s v r hv=>Kk r hv) slot_tuple_getitem.lookup h hs
theorem jc(h:W2 g VR getItem (.str x) y st Q)(hs:Ak slice):W2 g VR (subscriptTail aj slice) (.str x) y st Q:=ku (fun F s v r hv=>Kl r hv) F.slot_str_getitem.lookup h hs
theorem r_(h:Q .none st):W0 g VR (evalPart none env) st Q:=fun F s r K E k=>by
 rw[evalPart_none];exact U1 (k F .none _ st s (FM.le.refl _) r (un _) h)
theorem sb{e}(h:W0 g VR (eval e env) st Q):W0 g VR (evalPart (some e) env) st Q:=h
theorem ET{l u p3 pos}(h:W0 g VR (evalPart l env) st fun a aD=>W0 g VR (evalPart u env) aD fun b aK=>W0 g VR (evalPart p3 env) aK fun c eu=>Q (.iJ a b c) eu):
  W0 g VR (eval (.Slice l u p3 pos) env) st Q:=
 fun F s rr K E k=>wpAny_Slice (h F s rr _ E fun F1 a u aD s1 l1 r1 v1 h1=>h1 F1 s1 r1 _ E fun F2 b w aK s2 l2 r2 v2 h2=>h2 F2 s2 r2 _ E fun F3 c x eu s3 l3 r3 v3 h3=>by
  obtain⟨r4,l4,e4⟩:=r3.alloc (o:=z9 u w x) rfl s3.toks id
  refine k _ (.iJ a b c) _ eu _ (l1.trans (l2.trans (l3.trans l4))) r4 ?_ h3
  exact Ri.mk _ u w x rfl e4 (v1.mono (l2.trans (l3.trans l4))) (v2.mono (l3.trans l4)) (v3.mono l4))
inductive fy:AV→Option Int→Prop
 | none:fy .none none
 | int (i:Int):fy (.int i) (some i)
theorem fy.is{F:FM}{o:Option Int}(h:fy x o)(hv:VR F x v):IsPart v o:=by
 cases h with
 | none=>cases(hv:_=_);exact .none
 | int i=>obtain⟨t,rfl⟩:=hv;exact .int i t
noncomputable def cu(l:List AV)(lo hi step:Option Int):List AV:=
 (sliceRange (sliceBounds lo hi step l.length).1 (sliceBounds lo hi step l.length).2.1 (sliceBounds lo hi step l.length).2.2).filterMap (l[·]?)
theorem sf{F:FM}{vs:List Value}(h:aQ F l vs):∀is:List Nat,aQ F (is.filterMap (l[·]?)) (is.filterMap (vs[·]?))
 | []=>rfl
 | i::is=>by
  have ih:=sf h is
  rw[Zh,Zh]
  cases e:l[i]? with
  | none=>
   rw[abu (E4 (U8 h.length) (List.getElem?_eq_none_iff.mp e))]
   exact ih
  | some x=>
   obtain⟨v,e',hv⟩:=h.get e
   rw[e']
   exact dE hv ih
theorem yE{F:FM}{items:Array Value}(h:aQ F l items.toList)(lo hi step:Option Int):aQ F (cu l lo hi step) (slicePick items lo hi step).toList:=by
 unfold cu slicePick
 rw[h.size]
 have:=sf h (sliceRange (sliceBounds lo hi step l.length).1 (sliceBounds lo hi step l.length).2.1 (sliceBounds lo hi step l.length).2.2)
 simpa using this
theorem uL{lo hi step:Option Int}(hL:cr a l st.mem)(hx:fy x lo)(hy:fy y hi)(hz:fy z step)(h0:step≠some 0)(hsz:l.length≤sizeLine)(h:Q (.lst (cu l lo hi step)) st):
  W2 g VR getItem a (.iJ x y z) st Q:=fun F s v u r hv hu K E k=>by
 obtain⟨a,items,n,rfl,hl,Ni⟩:=hL.at r.toRepM hv
 obtain⟨b,p,q,t,rfl,hs,h1,h2,h3⟩:=hu
 refine wpAny_getItem_list_slice ⟨_,hl,rfl,n,rfl⟩ ⟨_,r.hF _ _ hs,rfl,rfl⟩ (hx.is h1) (hy.is h2) (hz.is h3) h0 ?_ (Ni.size▸hsz)
 obtain⟨r4,l4,e4⟩:=r.alloc (o:=cb (slicePick items lo hi step) 0) rfl s.toks id
 exact k _ _ _ st _ l4 r4 (J7 e4 ((yE Ni lo hi step).mono l4)) h
end
end
section
section
variable {g:Gd}{env:Env}{st:AS}
theorem a_{id:String}(h:Wl g VR (fun vs=>call (.builtin id) vs) xs st Q):bB g (.val (.builtin id)) xs [] [] st Q:=
 fun F s f vs kvs r hf hv hk K E k=>by
  cases(hf:_=_)
  exact⟨uF,h F s vs r hv K E k⟩
theorem dL{id:String}(h:Wl g VR (fun vs=>call (.type id) vs) xs st Q):bB g (.val (.type id)) xs [] [] st Q:=
 fun F s f vs kvs r hf hv hk K E k=>by
  cases(hf:_=_)
  exact⟨uE,h F s vs r hv K E k⟩
theorem Og{F:FM}{vs:List Value}(h:aQ F [x] vs):∃v,vs=[v]∧VR F x v:=gO.rec (fun v r e h1 h2=> ⟨v,(h2:r=[])▸e,h1⟩) h
theorem Oh{F:FM}{vs:List Value}(h:aQ F [x,y] vs):∃v u,vs=[v,u]∧VR F x v∧VR F y u:=gO.rec (fun v r e h1 h2=>let⟨u,e2,h3⟩:=Og h2;⟨v,u,e2▸e,h1,h3⟩) h
theorem si{α β:Type}{R:FM→β→α→Prop}{f:List Value→Sem α}{Q:β→AS→Prop}(h:W1 g R (fun v=>f [v]) x st Q):Wl g R f [x] st Q:=fun F s vs r hv K E k=>
 let⟨v,e,hv⟩:=Og hv
 e▸h F s v r hv K E k
theorem Eu{α β:Type}{R:FM→β→α→Prop}{f:List Value→Sem α}{Q:β→AS→Prop}(h:W2 g R (fun v u=>f [v,u]) x y st Q):Wl g R f [x,y] st Q:=fun F s vs r hv K E k=>
 let⟨v,u,e,hv,hu⟩:=Oh hv
 e▸h F s v u r hv hu K E k
theorem Al{n:Nat}(h:n≤sizeLine):(n:Int)<2 ^ 63:=YR.mpr (YE h (E1 rfl))
theorem yF(h1:cr a l st.mem)(h2:cr b m st.mem)(hsz:l.length+m.length≤sizeLine)(h:Q (.lst (l++m)) st):W2 g VR (binaryOp .Add) a b st Q:=fun F s v u r hv hu K E k=>by
 obtain⟨a,items,n,rfl,hl,hi⟩:=h1.at r.toRepM hv
 obtain⟨b,df,n2,rfl,EU,zS⟩:=h2.at r.toRepM hu
 refine PySem.P.add_list hl EU ?_ (hi.size▸zS.size▸hsz)
 obtain⟨r4,l4,e4⟩:=r.alloc (o:=cb (items++df) 0) rfl s.toks id
 exact k _ _ _ st _ l4 r4 (J7 e4 (by rw[aaa];exact(hi.append zS).mono l4)) h
theorem Am(hL:cr a l st.mem)(hsz:l.length≤sizeLine)(h:Q (.int l.length) st):Wl g VR (fun vs=>call (.builtin "len") vs) [a] st Q:=si fun F s v r hv K E k=>by
 obtain⟨a,items,n,rfl,hl,hi⟩:=hL.at r.toRepM hv
 exact PyProof.Rows.len_list ⟨_,hl,rfl,n,rfl⟩ (hi.size▸Al hsz) (hi.size.symm▸k F _ _ st _ (FM.le.refl _) (r.tok _ tp) (oH ..) h)
theorem yG{x:Str}(hsz:x.length≤sizeLine)(h:Q (.int x.length) st):Wl g VR (fun vs=>call (.builtin "len") vs) [.str x] st Q:=si fun F s v r hv K E k=>by
 obtain⟨t,rfl⟩:=hv
 exact PySem.P.len_str (aa3.mpr (Al hsz)) (k F _ _ st _ (FM.le.refl _) (r.tok _ tp) (oH ..) h)
theorem uM{a:Addr}{id:String}(hm:(a,AO.list l)∈st.mem)(slot:Slot "list" name id)(Oi:typeOf (.builtin id)=pure (.type "method_descriptor")):
  eQ g (.val (.ref a)) name (.val (.builtin id)) [.val (.ref a)] st:=fun F s v pl r hv K E k=>by
 cases(hv:_=_)
 obtain⟨items,n,e,h⟩:=r.hm _ hm
 exact aao ⟨_,e,rfl⟩ PySem.F.plainAttrs_list slot Oi (fun b eb=>by cases eb;exact⟨_,e,rfl⟩) (k F _ _ s (FM.le.refl _) r (ke ..) (dE (ke ..) gd))
theorem jA{a:Addr}{vars}(u:Upd mem a (.list l) (.list (l++ [x])) mem')(hsz:l.length≤sizeLine)(h:Q .none ⟨vars,mem'⟩):
  Wl g VR (fun vs=>call (.builtin "list.append") vs) [.val (.ref a),x] ⟨vars,mem⟩ Q:=Eu fun F s v w r hv hw K E k=>by
 cases(hv:_=_)
 obtain⟨items,n,e,hi⟩:=r.hm _ u.mem
 exact wpAny_list_append_plain ⟨n,e⟩ (fun h' hp hs=>k F .none _ _ _ (FM.le.refl _) (r.turn u hs (hp.elim fun n' e'=> ⟨_,n',e',by rw[Array.toList_push];exact hi.append (dE hw gd)⟩) s.toks id) (un _) h) (hi.size▸hsz)
end
end
section
theorem b4(e:bp g env):interactive env=false:=by
 unfold interactive
 rw[e.kind];rfl
theorem An{A B:Prop}(h:A):(if(true:Bool)=true then A else B):=h
theorem EV{A B:Prop}(h:B):(if(false:Bool)=true then A else B):=h
end
section
theorem EW(l:List AV)(a b:Nat):(sliceRange (a:Int) (b:Int) 1).filterMap (l[·]?)=(l.drop a).take (b - a):=by
 rw[sliceRange_one]
 have:=pick_run l.toArray a (b - a)
 simpa using this
theorem wI(a b:Nat):((min a b:Nat):Int)=min (a:Int) (b:Int):=by
 rcases ab4 a b with h | h
 ·rw[Zp h,Int.min_eq_left (Zl.mpr h)]
 ·rw[aaB h,Int.min_eq_right (Zl.mpr h)]
theorem ir{k:Int}{n:Nat}(h:0≤k):max 0 (min (if k<0 then k+n else k) n)=((min k.toNat n:Nat):Int):=by
 rw[V4 (ZD.mpr h),wI,Y5 h,← Y5 h,← wI]
 exact Int.max_eq_right (V6 _)
theorem ky(l:List AV)(lo hi:Option Int)(a b:Nat)(h:sliceBounds lo hi none l.length=((a:Int),(b:Int),1)):cu l lo hi none=(l.drop a).take (b - a):=by
 unfold cu
 rw[h]
 exact EW l a b
theorem jd(l:List AV){k:Int}(h:0≤k):cu l (some k) none none=l.drop k.toNat:=by
 rw[ky l (some k) none (min k.toNat l.length) l.length (E5 (·,(l.length:Int),(1:Int)) (ir h)),Y3 (U8 Zy)]
 exact List.drop_eq_drop_min.symm
theorem mJ(l:List AV){k:Int}(h:0≤k):cu l none (some k) none=l.take k.toNat:=
 (ky l none (some k) 0 (min k.toNat l.length) (E5 (fun x:Int=> ((0:Int),x,(1:Int))) (ir h))).trans abv.symm
theorem uN(l:List AV){i k:Int}(hi:0≤i)(h:0≤k):cu l (some i) (some k) none=(l.take k.toNat).drop i.toNat:=by
 rw[ky l (some i) (some k) (min i.toNat l.length) (min k.toNat l.length) ((E5 (fun x:Int=> (max 0 (min (if i<0 then i+l.length else i) l.length),x,(1:Int))) (ir h)).trans (E5 (·,((min k.toNat l.length:Nat):Int),(1:Int)) (ir hi))),← List.drop_take,← abv]
 rcases ab4 i.toNat l.length with h1 | h1
 ·rw[Zp h1]
 ·have e:(l.take k.toNat).length≤l.length:=aaC ..
  rw[aaB h1,Zu e,Zu (E4 e h1)]
end
section
section
variable {g:Gd}{env:Env}{st:AS}
theorem fW{x v}{names cs}(e:bp g env)(hv:(x,some v)∈st.vars)(h:Q v st):Ld g env names cs x .local st Q:=fun N hm=>Sq e N hm hv h
theorem ldc{x v c}{names cs}(e:bp g env)(hc:(x,c)∈cs)(hm:(c,AO.cell (some v))∈st.mem)(h:Q v st):Ld g env names cs x .cell st Q:=fun N hn=>Sr e N hn hc hm h
theorem SJ{x v c}{names cs}(e:bp g env)(hc:(x,c)∈cs)(hm:(c,AO.cell (some v))∈st.mem)(h:Q v st):Ld g env names cs x .free st Q:=fun N hn=>Ss e N hn hc hm h
theorem Ao{x v}{GL names cs}(e:bp g env)(G:EP g GL)(hv:(x,v)∈GL)(h:Q (.val v) st):Ld g env names cs x .globalImplicit st Q:=fun N hn=>Su e G N hn hv h
end
noncomputable def kd{α:Type}(k:NameKind)(l c o:α):α:=match k with
 | .local=>l
 | .cell=>c
 | _=>o
noncomputable def mK(names:List (Str×NameKind)):List AV→cI:=names.rec (fun O=>[]) fun p O ih vs=>kd p.2 ((p.1,vs.head?)::ih vs.tail) (ih vs.tail) (ih vs)
noncomputable def po(n:Nat)(names:List (Str×NameKind)):List AV→Mem→Mem:=names.rec (motive:=fun O=>Nat→List AV→Mem→Mem) (fun O O m=>m) (fun p O ih n vs m=>kd p.2 (ih n vs.tail m) (ih (n+1) vs.tail ((n,.cell vs.head?)::m)) (ih n vs m)) n
noncomputable def dg(names:List (Str×NameKind))(iL:List AV):List (Str×AV):=(names.map (·.1)).zip iL
noncomputable def SK(names oy:List (Str×NameKind))(iL:List AV):Bool×Bool×Bool×Bool×cI×(Addr→Mem):=
 (kr names oy,(dg names iL).all (fun x=>decide (names.lookup x.1=some .local)||decide (names.lookup x.1=some .cell)),decide (((mK names iL).map (·.1)).Nodup),decide (((cellsFrom 0 names []).map (·.1)).Nodup),
  (mK names iL).map (fun p=> (p.1,ki (names.lookup ·) (dg names iL) (fun O=>none) p.1)),fun L=>cp (cellsFrom (L+1) names []) (kj (names.lookup ·) (dg names iL) (fun O=>none)))
noncomputable def SM(names:List (Str×NameKind))(iL:List AV):Bool×Bool×Bool×Bool×cI×(Addr→Mem):=(true,true,true,true,mK names iL,fun L=>po (L+1) names iL [])
theorem mM{g:Gd}(hn:1≤g.n){a:Addr}{kn:List Str}{Q:AV→Mem→Prop}(hf:FnAt g.K a f qual dV kV)(oy:List (Str×NameKind))(iL:List AV){names:List (Str×NameKind)}{body:List Stmt}{more:List (Str×Const)}(eR:f.body= .stmts body)(uO:f.scope=⟨.function,names,false,false,more⟩)(gU:jz g f qual dV kV xs kn fw (dg names iL))(hc:SK names oy iL=SM names iL)(h:∀(g':Gd) L env,cU g g'→bp g' env→Kn env oy (cellsFrom (L+1) names [])→(∀x,env.kindOf x=names.lookup x)→qn g a env→W0 g' FR (execs body env) ⟨mK names iL,po (L+1) names iL []++mem⟩ (Ends mem Q)):
  WC g (.val (.ref a)) xs kn fw mem Q:=by
 obtain⟨name,params,UJ,scope⟩:=f
 cases(uO:scope=_)
 have c:=YX hc
 have c2:=YX c.2
 have c3:=YX c2.2
 have c4:=YX c3.2
 have c5:=YX c4.2
 exact Ke hn hf (dg names iL) (mK names iL) body eR gU oy c.1 c2.1 c5.1 c3.1 c4.1 (fun g' L env b e k kd cq=>ab2 c5.2 L▸h g' L env b e k kd cq) rfl rfl rfl
theorem Ap{F:FM}{names:List (Str×NameKind)}:∀ {xs:List AV} {vs:List Value},aQ F xs vs→BR F (dg names xs) ((names.map (·.1)).zip vs):=by
 induction names with
 | nil=>intro xs vs _;rfl
 | cons n ns ih=>
  intro xs vs hv
  cases xs with
  | nil=>cases(hv:_=_);rfl
  | cons x xs=>
   obtain⟨v,r,rfl,h1,h2⟩:=hv
   exact Sx.mk v _ rfl h1 (ih h2)
theorem sj{F:FM}{vs:List Value}{kvs:List Value}{fd:FuncData}{names:List (Str×NameKind)}(hv:aQ F xs vs)(hk:aQ F [] kvs)(hb:∀vs:List Value,vs.length=xs.length→BindsTo s fd ⟨vs,[]⟩ ((names.map (·.1)).zip vs)):∃bs,BindsTo s fd ⟨vs,([]:List Str).zip kvs⟩ bs∧BR F (dg names xs) bs:=
 ⟨_,hb vs hv.length,Ap hv⟩
end
section
structure dX(g:Gd)(F:FM)(st:AS)(fp:List Addr):Prop where
 P:∀a∈fp,F.P a=none
 f:∀a∈fp,F.f a=none
 L:∀a∈fp,a≠g.L
 m:∀a∈fp,∀p∈st.mem,p.1≠a
 t:∀a∈fp,∀t∈g.tabs,t.1≠a
theorem Rep.keepsBut{g:Gd}{F:FM}{st:AS}{s:Shared}{fp:List Addr}(r:Rep g F st s)(w:dX g F st fp){h':Heap}(hk:∀b o,b∉fp→s.heap.get? b=some o→h'.get? b=some o)(t:Nat)(Km:0<s.toks→0<t):Rep g F st {s with heap:=h',toks:=t }:=
 {hP:=fun a o e=>hk a o (fun hm=>oG (w.P a hm) e) (r.hP a o e)
  hF:=fun a o e=>hk a o (fun hm=>oG (w.f a hm) e) (r.hF a o e)
  hK:=r.hK,pf:=r.pf
  hm:=fun p hp=>
   have x:=r.hm p hp
   let⟨_,e⟩:=x.there
   x.mono (FM.le.refl _) ((hk _ _ (fun hm=>w.m _ hm p hp rfl) e).trans e.symm)
  ap:=r.ap,nd:=r.nd,tk:=Km r.tk,gens:=r.gens,os:=r.os
  tab:=fun p hp=>
   have x:=r.tab p hp
   x.rec fun O e O O=>x.mono (FM.le.refl _) ((hk _ _ (fun hm=>w.t _ hm p hp rfl) e).trans e.symm)
  b0:=r.b0
  ns:=let⟨m,a,b⟩:=r.ns;⟨m,a.at' fun o e=>hk _ o (fun hm=>w.L _ hm rfl) e,b⟩
  nv:=r.nv,fq:=r.fq,fH:=r.fH,eN:=r.eN,ft:=r.ft }
open Classical in
noncomputable def PM.over(P:PM)(h:Heap)(fp:List Addr):PM:=fun b=>if b∈fp then h.get? b else P b
theorem PM.wJ{P:PM}{fp:List Addr}{b:Addr}(hb:b∈fp):P.over h fp b=h.get? b:=by unfold PM.over;rw[V8 hb]
theorem PM.jB{P:PM}{fp:List Addr}{b:Addr}(hb:b∉fp):P.over h fp b=P b:=by unfold PM.over;rw[V4 hb]
theorem PM.kz{P:PM}{fp:List Addr}{b:Addr}(hb:∀a∈fp,a≠b)(e:P b=none):P.over h fp b=none:=(PM.jB fun hm=>hb _ hm rfl).trans e
theorem Rep.IC{g:Gd}{F:FM}{st:AS}{s:Shared}{fp:List Addr}(r:Rep g F st s)(w:dX g F st fp):Rep g ⟨F.P.over s.heap fp,F.f⟩ st s:=
 {r.toRepM.Rl (P':=F.P.over s.heap fp) (fun a o e=>by
   by_cases ha:a∈fp
   ·exact⟨(PM.wJ ha).symm.trans e,w.f a ha⟩
   ·have e':=(PM.jB ha).symm.trans e
    exact⟨r.hP a o e',r.pf a o e'⟩) (fun p hp=>PM.kz (fun a hm q=>w.m _ hm p hp q.symm) (r.ap p hp).1) fun p hp=>PM.kz (fun a hm q=>w.t _ hm p hp q.symm) (r.b0 p hp).1 with
  ns:=let⟨m,x,y⟩:=r.ns;⟨m,x,fun z hz=>i9.aX (F:=F) (G:=⟨F.P.over s.heap fp,F.f⟩) (fun O O h=>h) (y z hz)⟩
  nv:=r.nv,fq:=PM.kz w.L r.fq,fH:=r.fH,eN:=r.eN,ft:=r.ft }
theorem Rep.ID{g:Gd}{F F':FM}{st bH:AS}{s s':Shared}{fp:List Addr}(w:dX g F st fp)(ex:∀a∈fp,∃o,s.heap.get? a=some o)(r0:Rep g F st s)(hP:F'.P=F.P.over s.heap fp)(r:Rep g F' bH s'):
  Rep g ⟨F.P,F'.f⟩ bH s'∧dX g ⟨F.P,F'.f⟩ bH fp∧∀a∈fp,s'.heap.get? a=s.heap.get? a:=by
 have at':∀a∈fp,∃o,s.heap.get? a=some o∧F'.P a=some o:=fun a ha=> (ex a ha).imp fun o e=> ⟨e,(ab2 hP a).trans ((PM.wJ ha).trans e)⟩
 have keep:∀a o,F.P a=some o→F'.P a=some o:=fun a o e=> (ab2 hP a).trans ((PM.jB fun hm=>oG (w.P a hm) e).trans e)
 have EQ:∀b,F'.P b=none→b∉fp∧F.P b=none:=fun b hb=>
  have hn:b∉fp:=fun hm=> (at' b hm).elim fun o e=>oG hb e.2
  ⟨hn,(PM.jB hn).symm.trans ((ab2 hP b).symm.trans hb)⟩
 exact⟨{r.toRepM.Rl (P':=F.P) (fun a o e=> ⟨r.hP a o (keep a o e),r.pf a o (keep a o e)⟩) (fun p hp=> (EQ _ (r.ap p hp).1).2) (fun p hp=> (EQ _ (r.b0 p hp).1).2) with
   ns:=let⟨m,x,y⟩:=r.ns;⟨m,x,fun z hz=>i9.aX (F:=F') (G:=⟨F.P,F'.f⟩) (fun O O h=>h) (y z hz)⟩
   nv:=r.nv,fq:=(EQ _ r.fq).2,fH:=r.fH,eN:=r.eN,ft:=r.ft },
  ⟨w.P,fun a ha=> (at' a ha).elim fun o e=>r.pf _ _ e.2,fun a ha q=> (EQ _ r.fq).1 (q▸ha),fun a ha p hp q=> (EQ _ (r.ap p hp).1).1 (q▸ha),w.t⟩,
  fun a ha=> (at' a ha).elim fun o e=> (r.hP _ _ e.2).trans e.1.symm⟩
noncomputable def Gd.at(g:Gd)(L:Addr):Gd:= {g with L:=L }
structure yH(g:Gd)(it:Value)(fp:List Addr)(tg:Expr→Prop)(bK:Mem→Prop)(l:List AV)(St:Nat→FM→Heap→Prop):Prop where
 mono:∀i F F' h h',FM.lf F F'→(∀a∈fp,h'.get? a=h.get? a)→St i F h→St i F' h'
 ex:∀i F h,St i F h→∀a∈fp,∃o,h.get? a=some o
 self:∀(i:Nat) (F:FM) (s:Shared),(∀a o,F.f a=some o→s.heap.get? a=some o)→St i F s.heap→∀(K:Value→Shared→Prop) (E:Value→Shared→Prop),K it s→wpAny (model g.prog g.w) g.A (pyIter it) K E s
 next:∀(L:Addr) (aw:Expr) (i:Nat) (x:AV) F st s,tg aw→bK st.mem→Rep (g.at L) F st s→dX (g.at L) F st fp→St i F s.heap→l[i]? =some x→∀(K:Value→Shared→Prop) (E E':Value→Shared→Prop),
  (∀F' v s',FM.le F F'→Rep (g.at L) F' st s'→dX (g.at L) F' st fp→St (i+1) F' s'.heap→VR F' x v→K v s')→
  wpAny (model g.prog g.w) g.A (pyNext it) (fun r s1=> ∃v,r=some v∧wpAny (model g.prog g.w) g.A (letOwnedTupleGo aw it v) (fun O s2=>K v s2) E' s1) E s
 stop:∀(L:Addr) (i:Nat) F st s,bK st.mem→Rep (g.at L) F st s→dX (g.at L) F st fp→St i F s.heap→i=l.length→∀(K:Option Value→Shared→Prop) (E:Value→Shared→Prop),
  (∀h',(∀b o,b∉fp→s.heap.get? b=some o→h'.get? b=some o)→Rep (g.at L) F st {s with heap:=h' }→K none {s with heap:=h' })→wpAny (model g.prog g.w) g.A (pyNext it) K E s
def cE(g:Gd)(x:AV)(st bH:AS)(tg:Expr→Prop)(bK:Mem→Prop)(l:List AV):Prop:=
 ∀F s v,Rep g F st s→VR F x v→∀(K:Value→Shared→Prop) (E:Value→Shared→Prop),
  (∀F' it fp St s',FM.le F F'→yH g it fp tg bK l St→Rep g F' bH s'→dX g F' bH fp→St 0 F' s'.heap→K it s')→wpAny (model g.prog g.w) g.A (pyIter v) K E s
def IE(g:Gd)(env:Env)(aw:Expr)(body:List Stmt)(x:AV)(st:AS)(Q:fu→AS→Prop):Prop:=
 ∀F s v,Rep g F st s→VR F x v→∀(K:Flow→Shared→Prop) (E E':Value→Shared→Prop),(∀F' b a bH s',FM.le F F'→Rep g F' bH s'→FR F' b a→Q b bH→K a s')→
  wpAny (model g.prog g.w) g.A (pyIter v) (fun it s2=>codeAny (model g.prog g.w) g.A (.forLoop aw it body [] env) (fun r s'=>match r with | .ok f=>K f s' | .error e=>E' e s') s2) E s
section
variable {g:Gd}{env:Env}{st:AS}
theorem wK{aw iter body pos}(h:W0 g VR (eval iter env) st fun x aD=>IE g env aw body x aD Q)(hs:∀x,foldedSetIterable iter env x=pure x:=by intro _;rfl):
  W0 g FR (exec (.For aw iter body [] pos) env) st Q:=fun F s r K E k=>
 wpAny_For (h F s r _ E fun F1 x v aD s1 l1 r1 v1 h1=>h1 F1 s1 v r1 v1 K E _ fun F' b a bH s' l r2 hf hq=>k F' b a bH s' (l1.trans l) r2 hf hq) hs
def TurnEnd(Inv:AS→Prop)(Q:fu→AS→Prop):fu→AS→Prop
 | .next,st=>Inv st
 | .cont,st=>Inv st
 | .brk,st=>Q .next st
 | .ret v,st=>Q (.ret v) st
def Wk(g:Gd)(st bH:AS):Prop:= ∀F s,Rep g F st s→∃F',FM.le F F'∧Rep g F' bH s
theorem yH.turn{fp:List Addr}{tg:Expr→Prop}{bK:Mem→Prop}{St:Nat→FM→Heap→Prop}(sr:yH g it fp tg bK l St){L:Addr}(ht:tg aw){i:Nat}(hi:i≤l.length){F:FM}{st:AS}(hn:bK st.mem)(r:Rep (g.at L) F st s)(w:dX (g.at L) F st fp)(hS:St i F s.heap){N:Shared→Prop}{B:Value→Shared→Prop}{E E':Value→Shared→Prop}(kA:i=l.length→∀h',(∀b o,b∉fp→s.heap.get? b=some o→h'.get? b=some o)→Rep (g.at L) F st {s with heap:=h' }→N {s with heap:=h' })(sk:∀y,l[i]? =some y→i<l.length→∀F1 v s3,FM.lf F F1→Rep (g.at L) F1 st s3→VR F1 y v→
   (∀F5 up s5,FM.le F1 F5→Rep (g.at L) F5 up s5→Rep (g.at L) ⟨F.P,F5.f⟩ up s5∧dX (g.at L) ⟨F.P,F5.f⟩ up fp∧St (i+1) ⟨F.P,F5.f⟩ s5.heap)→B v s3):
  wpAny (model g.prog g.w) g.A (pyNext it) (fun r s₁=>match r with
   | none=>N s₁
   | some v=>wpAny (model g.prog g.w) g.A (letOwnedTupleGo aw it v) (fun O s'=>B v s') E' s₁) E s:=by
 cases hx:l[i]? with
 | none=>
  have e:=Zq hi (List.getElem?_eq_none_iff.mp hx)
  exact sr.stop L _ F st s hn r w hS e _ _ fun h' hk r'=>kA e h' hk r'
 | some y=>
  refine aaA (sr.next L aw i y F st s ht hn r w hS hx B E E' fun F3 v s3 l3 r3 w3 UK Oj=>
   sk y hx (V7.mp hx).1 ⟨F3.P.over s3.heap fp,F3.f⟩ v s3 l3.f (r3.IC w3) (Oj.uB (F:=F3) (G:=⟨F3.P.over s3.heap fp,F3.f⟩) rfl) fun F5 up s5 l5 r5=>?_) (fun rr s3 h3=>by obtain⟨v,rfl,h4⟩:=h3;exact h4) fun O O e=>e
  have w6:=Rep.ID w3 (sr.ex _ _ _ UK) r3 l5.P r5
  have S6:=sr.mono _ F3 ⟨F3.P,F5.f⟩ _ _ l5.f w6.2.2 UK
  rw[l3.P] at w6 S6
  exact⟨w6.1,w6.2.1,S6⟩
inductive Ok(g:Gd)(F:FM)(l:List AV)(Inv:Nat→AS→Prop)(fp:List Addr)(St:Nat→FM→Heap→Prop)(n:Nat)(s:Shared):Prop
 | mk (i:Nat) (F':FM) (st:AS) (le:FM.le F F') (e:n=l.length+1 - i) (hi:i≤l.length) (hI:Inv i st) (r:Rep g F' st s) (w:dX g F' st fp) (h:St i F' s.heap)
theorem FR.uB{F G:FM}(h:G.f=F.f){x:fu}{f:Flow}(e:FR F x f):FR G x f:=by
 cases x with
 | ret z=>exact Zx (fun O e=> ⟨e.1,e.2.uB h⟩) e
 | _=>exact e
theorem FR.turn{F:FM}{x:fu}{f:Flow}{st:AS}{Inv:AS→Prop}{N:Prop}{R:Flow→Prop}(e:FR F x f)(h:TurnEnd Inv Q x st)(hn:Inv st→N)(hR:∀x f,FR F x f→Q x st→R f):
  match(generalizing:=false) f with
  | .next | .cont=>N
  | .brk=>R .next
  | .ret v=>R (.ret v):=by
 cases x with
 | next=>cases(e:_=_);exact hn h
 | cont=>cases(e:_=_);exact hn h
 | brk=>cases(e:_=_);exact hR .next _ rfl h
 | ret z=>obtain⟨u,rfl,hu⟩:=e;exact hR (.ret z) _ ⟨u,rfl,hu⟩ h
theorem wL{body:List Stmt}{tg:Expr→Prop}{bK:Mem→Prop}(lV:cE g x st uG tg bK l)(ht:tg aw)(Inv:Nat→AS→Prop)(h0:Inv 0 uG)(iY:∀i st,Inv i st→bK st.mem)(step:∀i y st,l[i]? =some y→Inv i st→W1 g UR (assign aw env) y st fun O aD=>W0 g FR (execs body env) aD (TurnEnd (Inv (i+1)) Q))(kA:∀st,Inv l.length st→Q .next st):IE g env aw body x st Q:=by
 intro F s v r hv K E E' k
 refine lV F s v r hv _ E fun F1 it fp St s1 l1 sr r1 w1 aD=>codeAny_forLoop_any (Ok g F l Inv fp St) ?_ (l.length+1) ⟨0,F1,uG,l1,rfl,Y8 _,h0,r1,w1,aD⟩
 rintro n s2 ⟨i,F2,aK,l2,rfl,hi,hI,r2,w2,hS⟩
 refine sr.turn ht hi (iY _ _ hI) r2 w2 hS (fun e h' O r3=>?_) fun y hx oz F3 v s3 l3 r3 Oj oM=>?_
 ·cases e
  exact acb (k F2 .next .next aK _ l2 r3 rfl (kA _ hI))
 ·exact step i y aK hx hI F3 s3 v r3 Oj _ _ fun F4 O O zR s4 l4 r4 O h4=>h4 F4 s4 r4 _ _ fun F5 f fl up s5 l5 r5 hf h5=>
   have w6:=oM F5 up s5 (l4.trans l5) r5
   have Ol:FM.le F ⟨F2.P,F5.f⟩:=l2.trans ⟨rfl,fun a o e=>l5.f a o (l4.f a o (l3 a o e))⟩
   FR.turn (FR.uB (F:=F5) (G:=⟨F2.P,F5.f⟩) rfl hf) h5 (fun h5=> ⟨_,Nat.sub_succ_lt_self _ _ (YW oz),i+1,_,up,Ol,rfl,oz,h5,w6.1,w6.2.1,w6.2.2⟩) fun x f hf hq=>k _ x f up s5 Ol w6.1 hf hq
end
end
section
section
variable {g:Gd}{env:Env}{st:AS}
theorem Rep.away{F:FM}(r:Rep g F st s){fp:List Addr}(h:∀a∈fp,s.heap.objs.size≤a):dX g F st fp:=
 ⟨fun a ha=>aF r.hP (h a ha),fun a ha=>aF r.hF (h a ha),fun a ha=>Ze (U2 r.J_ (h a ha)),fun a ha p hp=>V2 (U2 (r.iU hp) (h a ha)),
  fun a ha t ht=>V2 (U2 (r.iV ht) (h a ha))⟩
theorem su(aw:Expr)(it v:Value):letOwnedTupleGo aw it v=letOwnedTupleGo (.Tuple [] 0 default) it v∨letOwnedTupleGo aw it v=pure ():=by
 cases aw <;> first | exact .inl rfl | exact .inr rfl
theorem dY{E:Value→Shared→Prop}{s:Shared}{I:Addr}{n:String}{Q:Unit→Shared→Prop}(ho:s.heap.get? I=some o)(hc:o.cls= .type n)(hn:(["enumerate","zip","dict_itemiterator","dict_reverseitemiterator","odict_iterator","itertools.zip_longest","itertools.pairwise"].contains n)=false)(hQ:Q () s):
  wpAny (model g.prog g.w) A (letOwnedTupleGo aw (.ref I) v) Q E s:=by
 rcases su aw (.ref I) v with e | e <;> rw[e]
 ·cases v with
  | ref a=>
   refine E3 (wpAny_load ho ?_)
   obtain⟨c,d,dt,sl⟩:=o
   cases(hc:c=_)
   cases dt with
   | fields vs=>
    refine wpAny_ite_false (U4 ?_) (U1 hQ)
    rw[hn]
    exact YQ
   | _=>exact U1 hQ
  | _=>exact U1 hQ
 ·exact U1 hQ
theorem lX{F:FM}{items:Array Value}(h:aQ F l items.toList){i:Nat}(hx:i=l.length):items[i]? =none:=aan (U8 (h.size.trans hx.symm))
theorem zT{a b:Addr}(h:b∉[a]):b≠a:=fun e=>h (e▸E7)
theorem Aq(tu:Bool)(l:List AV)(I:Addr):yH g (.ref I) [I] (fun O=>True) (fun O=>True) l (lC tu l I) where
 mono:=fun i F F' h h' hl he x=>x.mono hl (he I E7)
 ex:=fun i F h x a ha=>Yz.mp ha▸x.rec fun O O O O e O O O=> ⟨_,e⟩
 self:=fun i F s O x K E k=>x.rec fun ax items n o e d O O=>by
  cases tu
  ·exact wpAny_pyIter_listiter ⟨o,e,d⟩ k
  ·exact wpAny_pyIter_tupleiter ⟨o,e,d⟩ k
 next:=fun L aw i x F st s O O r w y hx K E E' k=>by
  obtain⟨ax,items,n,o,e,d,e2,e3⟩:=y
  obtain⟨v,hv,hr⟩:=e3.at hx
  have fin:∀(h':Heap) o,h'.get? I=some o→NY tu ax (i+1) o→Heap.SameBut I s.heap h'→∃u,some v=some u∧wpAny (model g.prog g.w) g.A (letOwnedTupleGo aw (.ref I) u) (fun O s2=>K u s2) E' {s with heap:=h' }:=fun h' o ho d hs=>
   ⟨v,rfl,dY ho d.1 (by cases tu <;> decide) (k F v _ (FM.le.refl _) (r.keepsBut w (fun b o hb e=>hs.extBut b o (zT hb) e) s.toks id) w ⟨ax,items,n,o,ho,d,e2,e3⟩ hr)⟩
  cases tu
  ·exact abh ⟨o,e,d⟩ ⟨_,r.hF _ _ e2,rfl,n,rfl⟩ hv fun h' gX hs=>gX.elim fun o ho=>fin h' o ho.1 ho.2 hs
  ·exact wpAny_pyNext_tuple_item ⟨o,e,d⟩ ⟨_,r.hF _ _ e2,rfl,n,rfl⟩ hv fun h' gX hs=>gX.elim fun o ho=>fin h' o ho.1 ho.2 hs
 stop:=fun L i F st s O r w y hx K E k=>by
  obtain⟨ax,items,n,o,e,d,e2,e3⟩:=y
  have hn:=lX e3 hx
  have fin:∀h':Heap,Heap.ExtBut I s.heap h'→K none {s with heap:=h' }:=fun h' hs=>have hk:=fun b o hb e=>hs b o (zT hb) e;k h' hk (r.keepsBut w hk s.toks id)
  cases tu
  ·exact abw g.hh ⟨o,e,d⟩ ⟨_,r.hF _ _ e2,rfl,n,rfl⟩ hn fin
  ·exact wpAny_pyNext_tuple_end g.hh ⟨o,e,d⟩ ⟨_,r.hF _ _ e2,rfl,n,rfl⟩ hn fin
theorem bu{P:Addr→Prop}{a:Addr}(h:P a):∀b∈[a],P b:=fun b hb=>Yz.mp hb▸h
theorem sv(l:List AV):cE g (.lst l) st st (fun O=>True) (fun O=>True) l:=fun F s v r hv K E k=>by
 obtain⟨a,items,n,rfl,e,h⟩:=hv
 exact abW ⟨_,r.hF _ _ e,rfl,n,rfl⟩ (k F _ [s.heap.objs.size] (lC false l s.heap.objs.size) _ (FM.le.refl _) (Aq false l _) (r.keeps (fun b o' e=>Heap.get?_push_of_some _ e) s.toks id) (r.away (bu (E8 _))) ⟨a,items,n,_,Heap.get?_push_size _ rfl,⟨rfl,rfl⟩,e,h⟩)
theorem Ar(l:List AV):cE g (.tup l) st st (fun O=>True) (fun O=>True) l:=fun F s v r hv K E k=>by
 obtain⟨a,items,n,rfl,e,h⟩:=hv
 exact aag ⟨_,r.hF _ _ e,rfl,n,rfl⟩ (k F _ [s.heap.objs.size] (lC true l s.heap.objs.size) _ (FM.le.refl _) (Aq true l _) (r.keeps (fun b o' e=>Heap.get?_push_of_some _ e) s.toks id) (r.away (bu (E8 _))) ⟨a,items,n,_,Heap.get?_push_size _ rfl,⟨rfl,rfl⟩,e,h⟩)
theorem EX(l:List AV)(a I:Addr):yH g (.ref I) [I] (fun O=>True) (fun mem=> (a,AO.list l)∈mem) l (fun i O h=>h.IsListIter I a i) where
 mono:=fun i F F' h h' hl he e1=>Heap.IsListIter.at' e1 (he I E7)
 ex:=fun i F h e=>bu (e.imp fun O e=>e.1)
 self:=fun i F s O e1 K E k=>wpAny_pyIter_listiter e1 k
 next:=fun L aw i x F st s O hm r w e1 hx K E E' k=>by
  obtain⟨items,hl,e3⟩:=ph r.toRepM hm
  obtain⟨v,hv,hr⟩:=e3.at hx
  exact abh e1 hl hv fun h' gX hs=> ⟨v,rfl,gX.elim fun o ho=>dY ho.1 ho.2.1 (by decide) (k F v _ (FM.le.refl _) (r.keepsBut w (fun b o hb e=>hs.extBut b o (zT hb) e) s.toks id) w gX hr)⟩
 stop:=fun L i F st s hm r w e1 hx K E k=>by
  obtain⟨items,hl,e3⟩:=ph r.toRepM hm
  exact abw g.hh e1 hl (lX e3 hx) fun h' hs=>have hk:=fun b o hb e=>hs b o (zT hb) e;k h' hk (r.keepsBut w hk s.toks id)
theorem mO{a:Addr}(hm:(a,AO.list l)∈st.mem):cE g (.val (.ref a)) st st (fun O=>True) (fun mem=> (a,AO.list l)∈mem) l:=fun F s v r hv K E k=>by
 cases(hv:_=_)
 obtain⟨items,hl,e3⟩:=ph r.toRepM hm
 exact abW hl (k F _ [s.heap.objs.size] _ _ (FM.le.refl _) (EX l a _) (r.keeps (fun b o' e=>Heap.get?_push_of_some _ e) s.toks id) (r.away (bu (E8 _))) ⟨_,Heap.get?_push_size _ rfl,rfl,rfl⟩)
noncomputable def aJ(a b c:Int):List AV:=(List.range (rangeSize a b c).toNat).map fun k:Nat=> .int (a+(k:Int)*c)
theorem gY(a b c:Int):(aJ a b c).length=(rangeSize a b c).toNat:=by simp[aJ]
theorem EY(a b c:Int)(I:Addr):yH g (.ref I) [I] (fun O=>True) (fun O=>True) (aJ a b c) (fun i O h=>IsRangeIter h I (a+i*c) (rangeSize a b c - i) c) where
 mono:=fun i F F' h h' hl he e1=> (he I E7).trans e1
 ex:=fun i F h e=>bu ⟨_,e⟩
 self:=fun i F s O e1 K E k=>wpAny_pyIter_rangeiter e1 k
 next:=fun L aw i x F st s O hm r w e1 hx K E E' k=>by
  have oz:i<(rangeSize a b c).toNat:=gY a b c▸(V7.mp hx).1
  have Wq:x= .int (a+i*c):=by
   rw[aJ,V9,ZH oz] at hx
   exact(YV hx).symm
  subst Wq
  refine wpAny_pyNext_range_item e1 (Int.sub_pos_of_lt (Int.lt_toNat.mp oz)) fun h' gX hs=> ⟨_,rfl,dY gX rfl (by decide) (k F _ _ (FM.le.refl _) (r.keepsBut w (fun b o hb e=>hs.extBut b o (zT hb) e) (s.toks+1) tp) w ?_ (oH ..))⟩
  show IsRangeIter h' I (a+((i:Int)+1)*c) (rangeSize a b c - ((i:Int)+1)) c
  rw[Int.add_mul,Y',← Int.add_assoc,← Int.sub_sub];exact gX
 stop:=fun L i F st s hm r w e1 hx K E k=>wpAny_pyNext_range_end g.hh e1 (Int.sub_nonpos_of_le (Int.toNat_le.mp (U8 ((gY a b c).symm.trans hx.symm)))) fun h' hs=>have hk:=fun b o hb e=>hs b o (zT hb) e;k h' hk (r.keepsBut w hk s.toks id)
theorem As{a b c:Int}(hs:Builtin.Range.small a b c=true):cE g (.wE a b c) st st (fun O=>True) (fun O=>True) (aJ a b c):=fun F s v r hv K E k=>by
 obtain⟨x,t,u,w',rfl,e⟩:=hv
 refine wpAny_pyIter_range (r.hF _ _ e) hs (k F _ [s.heap.objs.size] _ _ (FM.le.refl _) (EY a b c _) (r.keeps (fun b o' e=>Heap.get?_push_of_some _ e) s.toks id) (r.away (bu (E8 _))) ?_)
 show IsRangeIter _ _ (a+(0:Int)*c) (rangeSize a b c - (0:Int)) c
 rw[Int.zero_mul,Int.add_zero,Int.sub_zero]
 exact Heap.get?_push_size _ rfl
theorem Au{n:Int}(h:Q (.wE 0 n 1) st):Wl g VR (fun vs=>call (.type "range") vs) [.int n] st Q:=si fun F s v r hv K E k=>by
 obtain⟨t,rfl⟩:=hv
 have ra:=r.alloc (o:= {cls:= .type "range",data:= .fields #[.int 0 s.toks,.int n t,.int 1 (s.toks+1)] }) rfl (s.toks+1+1) tp
 exact call_range_1 (k _ (.wE _ _ _) _ st _ ra.2.1 ra.1 (Nd.mk _ _ _ _ rfl ra.2.2) h)
theorem Av{a b:Int}(h:Q (.wE a b 1) st):Wl g VR (fun vs=>call (.type "range") vs) [.int a,.int b] st Q:=Eu fun F s v u r hv hu K E k=>by
 obtain⟨t,rfl⟩:=hv;obtain⟨t',rfl⟩:=hu
 have ra:=r.alloc (o:= {cls:= .type "range",data:= .fields #[.int a t,.int b t',.int 1 s.toks] }) rfl (s.toks+1) tp
 exact call_range_2 (k _ (.wE _ _ _) _ st _ ra.2.1 ra.1 (Nd.mk _ _ _ _ rfl ra.2.2) h)
end
end
section
noncomputable abbrev iZ(ifs:List Expr)(env:Env):Sem Bool:=forIn ifs true fun c r=>if r=true then do let ok ← isTrue c env (eval c env);pure (ForInStep.yield ok) else pure (ForInStep.yield r)
abbrev kY(e:Expr)(k:Nat)(env:Env)(pos:Pos)(t:Expr)(ifs:List Expr)(B:Value→Sem Fin→Sem Fin):Prop:= ∀it acc,compTurn e k it acc env=(do
 standAt pos
 match ← pyNext it with
 | none=>pure (.done .next)
 | some v=>do
  letOwnedTupleGo t it v
  assign t env v
  let ok ← iZ ifs env
  if ok=true then B acc (again (.compLoop e k it acc env))
  else again (.compLoop e k it acc env))
noncomputable def yI(elt:Expr)(env:Env)(acc:Value)(k:Sem Fin):Sem Fin:=(do let _ ← call (.builtin "list.append") [acc,← eval elt env]:Sem Unit) >>= fun O=>k
noncomputable def Rm(e:Expr)(i2:Expr)(env:Env)(acc:Value)(k:Sem Fin):Sem Fin:=do
 let x ← eval i2 env
 standAt i2.pos
 let x ← foldedSetIterable i2 env x
 let _ ← runOwn (.compStart e 1 (← holding [x] (pyIter x)) acc env) env
 k
theorem IF(elt t i:Expr)(ifs:List Expr)(scope:Scope)(pos:Pos)(env:Env):kY (.ListComp elt [⟨t,i,ifs,0⟩] scope pos) 0 env i.pos t ifs (yI elt env):=fun it acc=>by rfl
theorem Ko(elt t1 i1 t2 i2:Expr)(lE gJ:List Expr)(scope:Scope)(pos:Pos)(env:Env):kY (.ListComp elt [⟨t1,i1,lE,0⟩,⟨t2,i2,gJ,0⟩] scope pos) 1 env i2.pos t2 gJ (yI elt env):=fun it acc=>by rfl
theorem Kp(elt t1 i1 t2 i2:Expr)(lE gJ:List Expr)(scope:Scope)(pos:Pos)(env:Env):kY (.ListComp elt [⟨t1,i1,lE,0⟩,⟨t2,i2,gJ,0⟩] scope pos) 0 env i1.pos t1 lE (Rm (.ListComp elt [⟨t1,i1,lE,0⟩,⟨t2,i2,gJ,0⟩] scope pos) i2 env):=fun it acc=>by rfl
def WB(g:Gd)(B:Sem Fin→Sem Fin)(st:AS)(P:AS→Prop):Prop:= ∀F s,Rep g F st s→∀(k:Sem Fin) (Q:Fin→Shared→Prop) (E:Value→Shared→Prop),(∀F' bH s',FM.le F F'→Rep g F' bH s'→P bH→wpAny (model g.prog g.w) g.A k Q E s')→wpAny (model g.prog g.w) g.A (B k) Q E s
section
variable {g:Gd}{env:Env}{st:AS}
theorem uP{D:Addr}{P:AS→Prop}(h:W0 g VR (eval elt env) st fun v eu=> ∃a mem',Upd eu.mem D (.list a) (.list (a++ [v])) mem'∧a.length≤sizeLine∧P ⟨eu.vars,mem'⟩):WB g (yI elt env (.ref D)) st P:=fun F s r k Q E kk=>
 E3 (E3 (h F s r _ E fun F1 z zv aD s1 l1 r1 hz ⟨a,mem',u,ha,hp⟩=>E3 (jA (g:=g) (vars:=aD.vars) u ha (Q:=fun O st=>P st) hp F1 s1 [.ref D,zv] r1 (dE (ke ..) (dE hz gd)) _ E fun F2 O O aK s2 l2 r2 O hp=>U1 (kk F2 aK s2 (l1.trans l2) r2 hp))))
variable {ce:Expr}{k:Nat}{pos:Pos}{t:Expr}{ifs:List Expr}{D L:Addr}{B:Value→Sem Fin→Sem Fin}{it:Value}{fp:List Addr}{tg:Expr→Prop}{bK:Mem→Prop}{l:List AV}{St:Nat→FM→Heap→Prop}{F:FM}{s:Shared}
theorem yJ(hT:kY ce k env pos t ifs B)(sr:yH g it fp tg bK l St)(ht:tg t){i:Nat}(hi:i≤l.length)(hn:bK st.mem)(step:∀y,l[i]? =some y→W1 (g.at L) UR (assign t env) y st fun O aD=>W0 (g.at L) RQ (iZ ifs env) aD fun ok aK=>cond ok (WB (g.at L) (B (.ref D)) aK fun eu=>Wk (g.at L) eu S') (Wk (g.at L) aK S'))(r:Rep (g.at L) F st s)(w:dX (g.at L) F st fp)(hS:St i F s.heap){Q:Fin→Shared→Prop}{E:Value→Shared→Prop}(kA:i=l.length→∀h',Rep (g.at L) F st {s with heap:=h' }→Q (.done .next) {s with heap:=h' })(kk:∀F' s',FM.le F F'→i<l.length→Rep (g.at L) F' S' s'→dX (g.at L) F' S' fp→St (i+1) F' s'.heap→Q (.again (.compLoop ce k it (.ref D) env)) s'):
  wpAny (model g.prog g.w) g.A (compTurn ce k it (.ref D) env) Q E s:=by
 rw[hT]
 refine E3 (Zc (E3 (aaA (sr.turn (N:=Q (.done .next)) (B:=fun v s'=>wpAny (model g.prog g.w) g.A (assign t env v >>= fun O=>iZ ifs env >>= fun ok=>if ok=true then B (.ref D) (again (.compLoop ce k it (.ref D) env)) else again (.compLoop ce k it (.ref D) env)) Q E s')
  (E':=E) ht hi hn r w hS (fun q h' O r3=>kA q h' r3) fun y hx oz F3 v s3 l3 r3 Oj oM=>?_) (fun rr s1 h1=>?_) fun O O h=>h)))
 ·have fin:∀F5 up s5,FM.le F3 F5→Rep (g.at L) F5 up s5→Wk (g.at L) up S'→wpAny (model g.prog g.w) g.A (again (.compLoop ce k it (.ref D) env)) Q E s5:=fun F5 up s5 l5 r5 hw=>
   let⟨F6,l6,r6⟩:=hw F5 s5 r5
   have w6:=oM F6 _ s5 (l5.trans l6) r6
   U1 (kk ⟨F.P,F6.f⟩ s5 ⟨rfl,fun a o e=>l6.f a o (l5.f a o (l3 a o e))⟩ oz w6.1 w6.2.1 w6.2.2)
  refine E3 (step y hx F3 s3 v r3 Oj _ _ fun F4 O O zR s4 l4 r4 O h4=>E3 (h4 F4 s4 r4 _ _ fun F5 ok b up s5 l5 r5 hb h5=>?_))
  cases(hb:_=_)
  cases ok with
  | true=>exact h5 F5 s5 r5 _ _ _ fun F6 Wr s6 l6 r6 hw=>fin F6 Wr s6 (l4.trans (l5.trans l6)) r6 hw
  | false=>exact fin F5 up s5 (l4.trans l5) r5 h5
 ·cases rr with
  | none=>exact U1 h1
  | some v=>exact E3 h1
inductive gZ:Expr→Prop
 | list (elt:Expr) (gs:List Comprehension) (sc:Scope) (ps:Pos):gZ (.ListComp elt gs sc ps)
 | dict (x y:Expr) (gs:List Comprehension) (sc:Scope) (ps:Pos):gZ (.DictComp x y gs sc ps)
theorem gZ.Om(hp:gZ ce){Q:Fin→Shared→Prop}{E:Value→Shared→Prop}(h:wpAny (model g.prog g.w) A (compTurn ce k it acc env) Q (notedBy (model g.prog g.w) A env E) s):wpAny (model g.prog g.w) (A.under (.compLoop ce k it acc env)) ((model g.prog g.w).den (.compLoop ce k it acc env)) Q E s:=by cases hp <;> exact wpAny_noted h
theorem gZ.quiet(hp:gZ ce):(Code.compLoop ce k it acc env).quiet=true:=by cases hp <;> rfl
theorem kZ(hp:gZ ce)(hT:kY ce k env pos t ifs B)(sr:yH g it fp tg bK l St)(ht:tg t)(S:Nat→AS)(iY:∀i,bK (S i).mem)
  (step:∀i y,l[i]? =some y→W1 (g.at L) UR (assign t env) y (S i) fun O aD=>W0 (g.at L) RQ (iZ ifs env) aD fun ok aK=>cond ok (WB (g.at L) (B (.ref D)) aK fun eu=>Wk (g.at L) eu (S (i+1))) (Wk (g.at L) aK (S (i+1))))
  (r:Rep (g.at L) F (S 0) s) (w:dX (g.at L) F (S 0) fp) (hS:St 0 F s.heap) {R:Result→Shared→Prop} (kk:∀F' s',FM.le F F'→Rep (g.at L) F' (S l.length) s'→R (.ok .next) s'):
  codeAny (model g.prog g.w) g.A (.compLoop ce k it (.ref D) env) R s:=by
 refine codeAny_loop hp.quiet (Ok (g.at L) F l (fun i st=>st=S i) fp St) (fun n s ⟨i,F2,aK,l2,en,hi,hI,r2,w2,hS⟩=>?_) (l.length+1) ⟨0,F,_,FM.le.refl _,rfl,Y8 _,rfl,r,w,hS⟩
 cases en;cases hI
 exact hp.Om (yJ hT sr ht hi (iY i) (step i) r2 w2 hS (fun q h' r3=>kk F2 _ l2 (q▸r3)) fun F' s' l' oz r' w' h'=> ⟨rfl,_,Nat.sub_succ_lt_self _ _ (YW oz),i+1,F',_,l2.trans l',rfl,oz,rfl,r',w',h'⟩)
end
end
section
theorem RepM.less{F:FM}{mem mem':Mem}(r:RepM g F mem s)(nd:(mem.map (·.1)).Nodup→(mem'.map (·.1)).Nodup)(hs:∀p∈mem',∃o,(p.1,o)∈mem∧(o=p.2∨∃v,o= .cell v∧p.2= .cell none)):RepM g F mem' s:=
 have at':∀ {P:Addr→Prop},(∀p∈mem,P p.1)→∀p∈mem',P p.1:=fun h p hp=> (hs p hp).elim fun o e=>h (p.1,o) e.1
 {hP:=r.hP,hF:=r.hF,hK:=r.hK,pf:=r.pf,ap:=at' (P:=fun a=>F.P a=none∧F.f a=none) r.ap,nd:=nd r.nd,tk:=r.tk,gens:=r.gens,os:=r.os,tab:=r.tab
  b0:=fun t ht=> ⟨(r.b0 t ht).1,(r.b0 t ht).2.1,at' (P:=(·≠t.1)) (r.b0 t ht).2.2⟩
  hm:=fun(a,b) hp=>by
   obtain⟨o,e,h⟩:=hs _ hp
   have x:=r.hm _ e
   rcases h with rfl |⟨v,rfl,eb⟩
   ·exact x
   ·cases(eb:b=_)
    exact jq.rec (motive:=fun O=>jq F s.heap a none) (fun o u e d O=> ⟨o,u,e,d,trivial⟩) x }
theorem RepM.at{F:FM}(L:Addr)(r:RepM g F mem s):RepM (g.at L) F mem s:=⟨r.tk,r.hP,r.hF,r.hK,r.pf,r.hm,r.ap,r.nd,r.gens,r.os,r.tab,r.b0⟩
theorem RepM.EZ{F:FM}(r:RepM g F mem s){m:Str→Option Value}(hn:s.heap.Ns g.L m)(hv:∀p∈vs,i9 F p.2 (m p.1))(nv:(vs.map (·.1)).Nodup)(hP:F.P g.L=none)(hf:F.f g.L=none)(hm:∀p∈mem,p.1≠g.L)(ht:∀t∈g.tabs,t.1≠g.L):Rep g F ⟨vs,mem⟩ s:=
 {r with fq:=hP,fH:=hf,ft:=ht,nv:=nv,ns:=⟨m,hn,hv⟩,eN:=hm }
theorem Rep.less{g:Gd}{F:FM}{st:AS}{mem:Mem}{s:Shared}(r:Rep g F st s)(nd:(st.mem.map (·.1)).Nodup→(mem.map (·.1)).Nodup)(hs:∀p∈mem,∃o,(p.1,o)∈st.mem∧(o=p.2∨∃v,o= .cell v∧p.2= .cell none)):Rep g F ⟨st.vars,mem⟩ s:=
 {r.toRepM.less nd hs with ns:=r.ns,nv:=r.nv,fq:=r.fq,fH:=r.fH,ft:=r.ft,eN:=fun p hp=> (hs p hp).elim fun o e=>r.eN (p.1,o) e.1 }
theorem sx{g:Gd}{vs fX:cI}{mem mem':Mem}(hk:fX.map (·.1)=vs.map (·.1))(hv:∀p∈fX,p.2=none∨p∈vs)(nd:(mem.map (·.1)).Nodup→(mem'.map (·.1)).Nodup)(hs:∀p∈mem',∃o,(p.1,o)∈mem∧(o=p.2∨∃v,o= .cell v∧p.2= .cell none)):Wk g ⟨vs,mem⟩ ⟨fX,mem'⟩:=fun F s r=>
 ⟨F,.refl _, {r.less nd hs with ns:=r.ns.imp fun m hm=> ⟨hm.1,fun(a,b) hp=> (hv _ hp).elim (fun e=>by cases(e:b=_);trivial) (hm.2 _)⟩,nv:=hk▸r.nv }⟩
noncomputable def mc(co:Bool)(C:Addr)(mem:Mem):Mem:=cond co ((C+1,.cell none)::mem) mem
noncomputable def jm(co:Bool)(ck:List Str)(m1 m2:Mem)(C D:Addr)(a:AO):AS:=⟨ck.map fun x=> (x,none),mc co C (m1++(D,a)::m2)⟩
def wM(co:Bool)(g:Gd)(env:Env)(scope:Scope)(cl:List (Str×Addr))(Kq:Addr→List (Str×Addr)):Prop:= ∀ {E:Value→Shared→Prop} {s:Shared} {Q:Env→Shared→Prop},
 (∀h',h'.Ns s.heap.objs.size (fun O=>none)→(∀b o,s.heap.get? b=some o→h'.get? b=some o)→(co=true→h'.get? (s.heap.objs.size+1)=some {cls:= .type "cell",data:= .cell none })→
  Q (newEnv scope s.heap.objs.size env.globals (Kq s.heap.objs.size) env.qual none .none (some env) builtinsNs) {s with heap:=h' })→wpAny (model g.prog g.w) g.A (newFunctionEnv scope env.globals cl [] env.qual none .none (some env)) Q E s
section
variable {g:Gd}{env:Env}{st:AS}
theorem On{scope:Scope}{cl:List (Str×Addr)}(Oo:∀y∈scope.names,y.2≠.cell)(gT:scope.kind= .function):wM false g env scope cl fun O=>cl:=fun {E s Q} h=>
 wpAny_newFunctionEnv Oo (fun O hy=>nomatch hy) (fun h' hn hs=>h h' hn (fun b o e=>hs.extBut b o (V2 (Heap.lt_size e)) (Heap.get?_push_of_some _ e)) fun e=>nomatch e) gT
inductive Kr(g:Gd)(D:Addr)(s:Shared)(F:FM)(Q:AV→AS→Prop):Prop
 | mk (F':FM) (x:AV) (bH:AS) (le:FM.le F F') (r:Rep g F' bH s) (v:VR F' x (.ref D)) (h:Q x bH)
def uQ(g:Gd)(a:AO)(vars:cI)(m1 m2:Mem)(Q:AV→AS→Prop):Prop:= ∀D F s,Rep g F ⟨vars,(D,a)::(m1++m2)⟩ s→Kr g D s F Q
theorem Aw{a vars m1 m2}(h:∀D,Q (.val (.ref D)) ⟨vars,(D,a)::(m1++m2)⟩):uQ g a vars m1 m2 Q:=fun D F s r=> ⟨F,_,_,.refl _,r,ke ..,h D⟩
theorem Rep.freeze{F:FM}{vars:cI}{mem:Mem}{s:Shared}{D:Addr}{a:List AV}(r:Rep g F ⟨vars,(D,.list a)::mem⟩ s):∃G,FM.le F G∧Rep g G ⟨vars,mem⟩ s∧VR G (.lst a) (.ref D):=by
 have mP:(D,AO.list a)∈(D,AO.list a)::mem:=E7
 obtain⟨items,n,hD,hI⟩:=r.hm _ mP
 have f5:=(r.ap _ mP).2
 exact⟨F.put D (cb items n),FM.ej f5,(r.sub (Zv _ _)).wF hD f5 (r.ap _ mP).1 (r.eN _ mP) (fun p hp q=> (Y9.mp r.nd).1 (U0.mpr ⟨p,hp,q⟩)) (fun t ht q=> (r.b0 t ht).2.2 _ mP q.symm),J7 (FM.cn ..) (hI.mono (FM.ej f5))⟩
theorem qq{a vars m1 m2}(h:Q (.lst a) ⟨vars,m1++m2⟩):uQ g (.list a) vars m1 m2 Q:=fun D F s r=>let⟨G,l,r,v⟩:=r.freeze;⟨G,_,_,l,r,v,h⟩
def E0(g:Gd)(use:Option (Value→Sem Unit))(Q:AV→AS→Prop)(x:AV)(st:AS):Prop:=use.elim (Q x st) fun u=>W1 g UR u x st fun O=>Q .none
structure CK(g:Gd)(ce:Expr)(nl:Sem Value)(ob:Obj)(o0:AO):Prop where
 new:∀ {E:Value→Shared→Prop} {s:Shared} {Q:Value→Shared→Prop},Q (.ref s.heap.objs.size) {s with heap:=s.heap.push ob }→wpAny (model g.prog g.w) g.A nl Q E s
 nf:ob.isFreed=false
 pl:gZ ce
 at':∀(F:FM) (h:Heap) (a:Addr),h.get? a=some ob→kX F h a o0
 start:∀ {it acc:Value} {env:Env} {R:Result→Shared→Prop} {s:Shared},codeAny (model g.prog g.w) g.A (.compLoop ce 0 it acc env) R s→wpAny (model g.prog g.w) g.A (pyIter it) (fun Rn s'=>codeAny (model g.prog g.w) g.A (.compLoop ce 0 Rn acc env) R s') (notedBy (model g.prog g.w) g.A env fun x s'=>R (.error x) s') s→
  codeAny (model g.prog g.w) g.A (.compStart ce 0 it acc env) R s
theorem qr{elt aw iter ifs rest scope pos}:CK g (.ListComp elt (⟨aw,iter,ifs,0⟩::rest) scope pos) (newList []) (cb #[] 0) (.list []):=⟨fun h=>abc h,rfl,.list ..,fun F h a e=> ⟨#[],0,e,gd⟩,fun h k=>codeAny_compStart_list h k⟩
def Ax(g:Gd)(env:Env)(e:Expr)(nl:Sem Value)(scope:Scope)(cl:List (Str×Addr))(use:Option (Value→Sem Unit))(x:AV)(st:AS)(Q:AV→AS→Prop):Prop:=
 ∀F s v,Rep g F st s→VR F x v→∀(K:Value→Shared→Prop) (E:Value→Shared→Prop),(∀F' b a bH s',FM.le F F'→Rep g F' bH s'→VR F' b a→Q b bH→K a s')→
  wpAny (model g.prog g.w) g.A (pyIter v) (fun it s2=>wpAny (model g.prog g.w) g.A nl (fun acc s3=>wpAny (model g.prog g.w) g.A (newFunctionEnv scope env.globals cl [] env.qual none .none (some env)) (fun Oq s4=>
   codeAny (model g.prog g.w) g.A (.compStart e 0 it acc {Oq with scope:=relabel scope env }) (compPost (model g.prog g.w) g.A E use K acc Oq.locals) s4) E s3) E s2) E s
theorem uR{nl:Sem Value}{aw iter ifs rest scope ps cl}{use:Option (Value→Sem Unit)}(Ay:clausesOf ce=⟨aw,iter,ifs,0⟩::rest)(h:W0 g VR (eval iter env) st fun x aD=>Ax g env ce nl scope cl use x aD Q)(Ot:closureFor scope env=pure cl)(gT:scope.kind= .function)(Ks:∀y∈scope.names,y.2= .local→scope.names.lookup y.1=some .local)(hs:∀x,foldedSetIterable iter env x=pure x):W0 g VR (comprehension ce scope env ps nl false (eval iter env) use) st Q:=fun F s r K E k=>
 wpAny_comprehension_free Ay hs Ot gT Ks (h F s r _ E fun F1 x v aD s1 l1 r1 v1 h1=>h1 F1 s1 v r1 v1 K E fun F' b a bH s' l r2 hf hq=>k F' b a bH s' (l1.trans l) r2 hf hq)
theorem dX.one{F:FM}{a:Addr}(hP:F.P a=none)(hf:F.f a=none)(hL:a≠g.L)(hm:∀p∈st.mem,p.1≠a)(ht:∀t∈g.tabs,t.1≠a):dX g F st [a]:=⟨bu hP,bu hf,bu hL,bu hm,bu ht⟩
theorem E_{a vars m1 m2}{use:Option (Value→Sem Unit)}(h:uQ g a vars m1 m2 (E0 g use Q)){D C:Addr}{F:FM}(r:Rep g F ⟨vars,(D,a)::(m1++m2)⟩ s)(w:dX g F ⟨vars,(D,a)::(m1++m2)⟩ [C]){m:Str→Option Value}(hn:s.heap.Ns C m){K:Value→Shared→Prop}{E:Value→Shared→Prop}(k:∀F' b a bH s',FM.le F F'→Rep g F' bH s'→VR F' b a→Q b bH→K a s'):compPost (model g.prog g.w) g.A E use K (.ref D) C (.ok .next) s:=by
 obtain⟨F1,x,aD,l1,r1,v1,h1⟩:=h D _ s (r.IC w)
 have ex:∀b∈[C],∃o,s.heap.get? b=some o:=bu (hn.elim fun o e=>e.elim fun O e=>e.elim fun O e=> ⟨o,e.1⟩)
 have fin:∀F2 aK s2,FM.le ⟨F.P.over s.heap [C],F.f⟩ F2→Rep g F2 aK s2→∀b v,VR F2 b v→Q b aK→∃m,s2.heap.Ns C m∧∀h',Heap.SameBut C s2.heap h'→K v {s2 with heap:=h' }:=fun F2 aK s2 l2 r2 b v hb hq=>
  have w2:=Rep.ID w ex r l2.P r2
  ⟨m,hn.at' fun o e=> (w2.2.2 C E7).trans e,fun h' hs=>k ⟨F.P,F2.f⟩ b v aK _ ⟨rfl,l2.f⟩ (w2.1.keepsBut w2.2.1 (fun b o hb e=>hs.extBut b o (zT hb) e) s2.toks id) (hb.uB (F:=F2) (G:=⟨F.P,F2.f⟩) rfl) hq⟩
 cases use with
 | none=>exact fin F1 aD s l1 r1 x _ v1 h1
 | some u=>exact h1 F1 s _ r1 v1 _ E fun F2 O O aK s2 l2 r2 O hq=>fin F2 aK s2 (l1.trans l2) r2 .none .none (un _) hq
theorem Rep.Ou{F:FM}{fp:List Addr}(r:Rep g F ⟨vs,m⟩ s)(w:dX g F ⟨vs,m⟩ fp){a:Addr}(h0:F.P a=none)(h1:F.f a=none)(h2:a≠g.L)(h3:∀p∈m,p.1≠a)(h4:∀t∈g.tabs,t.1≠a)(h5:a∉fp)(EN:kX F s.heap a ao):
  Rep g F ⟨vs,(a,ao)::m⟩ s∧dX g F ⟨vs,(a,ao)::m⟩ fp:=⟨r.mz h1 h0 h2 h3 h4 EN,w.P,w.f,w.L,fun b hb=>V5.mpr ⟨fun e=>h5 ((E5 (·∈fp) e).mpr hb),w.m b hb⟩,w.t⟩
theorem mc_perm(co:Bool){C D:Addr}{m1 m2:Mem}:(mc co C (m1++(D,o)::m2)).Perm (mc co C ((D,o)::(m1++m2))):=by
 cases co
 ·exact Z9
 ·exact Z9.cons _
theorem Az(co:Bool){C:Addr}{m:Mem}:m.Sublist (mc co C m):=by
 cases co
 ·exact .refl _
 ·exact Zv ..
theorem Fa(co:Bool){nl:Sem Value}(kk:CK g ce nl ob o0){ifs:List Expr}{cl:List (Str×Addr)}{Kq:Addr→List (Str×Addr)}{vars:cI}{m1 m2:Mem}{tg:Expr→Prop}{bK:Mem→Prop}{B:Addr→Value→Sem Fin→Sem Fin}(e:bp g env)(lV:cE g x st ⟨vars,m1++m2⟩ tg bK l)(ht:tg aw){ck:List Str}(iY:∀C D a,bK (jm co ck m1 m2 C D a).mem)(SN:wM co g env scope cl Kq)(gT:scope.kind= .function)(Ws:ck.Nodup)(hT:∀C,kY ce 0 (compEnvC scope (Kq C) C env) ps aw ifs (B C))(Acc:Nat→AO)(UL:Acc 0=o0)(step:∀C D i y,l[i]? =some y→bp (g.at C) (compEnvC scope (Kq C) C env)→W1 (g.at C) UR (assign aw (compEnvC scope (Kq C) C env)) y (jm co ck m1 m2 C D (Acc i)) fun O aD=>W0 (g.at C) RQ (iZ ifs (compEnvC scope (Kq C) C env)) aD fun ok aK=>
   cond ok (WB (g.at C) (B C (.ref D)) aK fun eu=>Wk (g.at C) eu (jm co ck m1 m2 C D (Acc (i+1)))) (Wk (g.at C) aK (jm co ck m1 m2 C D (Acc (i+1))))) {use:Option (Value→Sem Unit)} (last:uQ g (Acc l.length) vars m1 m2 (E0 g use Q)):Ax g env ce nl scope cl use x st Q:=by
 intro F s v r hv K E k
 refine lV F s v r hv _ E fun F1 it fp St s1 l1 sr r1 w1 aD=>?_
 obtain⟨P',SO,rM,oM⟩:=r1.uD
 refine kk.new (SN fun h₁ Ev Ov Ay=>?_)
 dsimp only at Ev Ov Ay ⊢
 rw[Heap.size_push] at Ev Ay ⊢
 have old:∀b o,s1.heap.get? b=some o→h₁.get? b=some o:=fun b o e=>Ov b o (Heap.get?_push_of_some _ e)
 have hD:=Ov _ _ (Heap.get?_push_size s1.heap (o:=ob) kk.nf)
 have fr:∀a,s1.heap.objs.size≤a→P' a=none∧F1.f a=none∧(∀p∈m1++m2,p.1≠a)∧(∀t∈g.tabs,t.1≠a)∧F1.P a=none∧a≠g.L∧a∉fp:=fun a ha=>
  ⟨aF rM.hP ha,aF r1.hF ha,fun p hp=>V2 (U2 (r1.iU hp) ha),fun t ht=>V2 (U2 (r1.iV ht) ha),aF r1.hP ha,Ze (U2 r1.J_ ha),
   fun hm=> (sr.ex _ _ _ aD a hm).elim fun O e=>Z0 _ (U2 (Heap.lt_size e) ha)⟩
 generalize s1.heap.objs.size=D at Ev Ay hD fr ⊢
 have d:=fr D (E8 D)
 have c:=fr (D+1) (abg D)
 have b:=fr (D+1+1) (ZG (abg D))
 have R0:=((rM.keeps (h':=h₁) old s1.toks id).at (D+1)).EZ Ev (vs:=ck.map fun x=> (x,none)) (fun p hp=>by obtain⟨_,_,rfl⟩:=U0.mp hp;trivial) (by rw[V3];exact(List.map_id' ck).symm▸Ws) c.1 c.2.1 c.2.2.1 c.2.2.2.1
 have A0:dX (g.at (D+1)) ⟨P',F1.f⟩ ⟨ck.map fun x=> (x,none),m1++m2⟩ fp:=⟨fun a ha=> (SO a (w1.L a ha)).trans (w1.P a ha),w1.f,fun a ha q=>c.2.2.2.2.2.2 ((E5 (·∈fp) q).mp ha),w1.m,w1.t⟩
 have S0:St 0 ⟨P',F1.f⟩ h₁:=sr.mono 0 F1 _ s1.heap h₁ (fun O O h=>h) (fun a ha=> (sr.ex _ _ _ aD a ha).elim fun o e=> (old _ _ e).trans e.symm) aD
 have R1:=R0.Ou A0 (a:=D) (ao:=o0) d.1 d.2.1 (V2 (Za D)) d.2.2.1 d.2.2.2.1 d.2.2.2.2.2.2 (kk.at' _ _ _ hD)
 have R2:Rep (g.at (D+1)) ⟨P',F1.f⟩ ⟨ck.map fun x=> (x,none),mc co (D+1) ((D,o0)::(m1++m2))⟩ {s1 with heap:=h₁ }∧dX (g.at (D+1)) ⟨P',F1.f⟩ ⟨ck.map fun x=> (x,none),mc co (D+1) ((D,o0)::(m1++m2))⟩ fp:=by
  cases co with
  | false=>exact R1
  | true=>exact R1.1.Ou R1.2 b.1 b.2.1 (Nat.succ_ne_self _) (V5.mpr ⟨V2 (YW (Za D)),b.2.2.1⟩) b.2.2.2.1 b.2.2.2.2.2.2 (jq.mk _ none (Ay rfl) rfl trivial)
 have R3:=R2.1.less (mem:=mc co (D+1) (m1++(D,o0)::m2)) ((mc_perm co).map _).nodup_iff.mpr fun p hp=> ⟨_,(mc_perm co).mem_iff.mp hp,.inl rfl⟩
 have A3:dX (g.at (D+1)) ⟨P',F1.f⟩ (jm co ck m1 m2 (D+1) D o0) fp:=⟨R2.2.P,R2.2.f,R2.2.L,fun a ha p hp=>R2.2.m a ha p ((mc_perm co).mem_iff.mp hp),R2.2.t⟩
 have loop:=kZ (g:=g) (it:=it) (D:=D) (R:=compPost (model g.prog g.w) g.A E use K (.ref D) (D+1)) kk.pl (hT (D+1)) sr ht (fun i=>jm co ck m1 m2 (D+1) D (Acc i)) (fun i=>iY _ _ _) (fun i y hy=>step (D+1) D i y hy ⟨rfl,gT,e.globals,e.builtins⟩) (UL▸R3) (UL▸A3) S0 fun F3 s' l' r'=>by
  obtain⟨m,hm,_⟩:=r'.ns
  have r5:=(r'.less ((mc_perm co).symm.map _).nodup_iff.mpr fun p hp=> ⟨_,(mc_perm co).symm.mem_iff.mp hp,.inl rfl⟩).sub (Az co)
  exact E_ last (oM F3 _ s' l' (r5.toRepM.at g.L)) (.one c.2.2.2.2.1 r'.fH c.2.2.2.2.2.1 r5.eN c.2.2.2.1) hm fun F' b a bH s' l2=>k F' b a bH s' (l1.trans (FM.le.trans (G:=⟨F1.P,F3.f⟩) ⟨rfl,l'.f⟩ l2))
 exact kk.start loop (sr.self 0 ⟨P',F1.f⟩ _ R0.hF S0 _ _ loop)
end
end
section
section
structure eS(g g':Gd):Prop where
 prog:g'.prog=g.prog
 w:g'.w=g.w
 K:g'.K=g.K
 os:g'.os=g.os
 gl:g'.gl=g.gl
 bl:g'.bl=g.bl
 tabs:g'.tabs=g.tabs
 n:g'.n=g.n
theorem eS.at(g:Gd)(L:Addr):eS g (g.at L):=⟨rfl,rfl,rfl,rfl,rfl,rfl,rfl,rfl⟩
noncomputable def yK(k:NameKind):Bool:=k.rec false true true false false
noncomputable def qs(k:NameKind):Bool:=k.rec false false true false false
noncomputable def SP(k:NameKind):Bool:=k.rec true false false false false
theorem Fb:∀ {k:NameKind},yK k=true→k= .cell∨k= .free
 | .cell,_=> .inl rfl
 | .free,_=> .inr rfl
noncomputable def bh(sn:List (Str×NameKind)):List Str:=(sn.filter fun p=>SP p.2).map (·.1)
theorem sA{sn:List (Str×NameKind)}(h:cy sn=true):(bh sn).Nodup:=(List.filter_sublist.map _).nodup (U9 (E2.mp h).1)
theorem cy.kn{sn:List (Str×NameKind)}(h:cy sn=true):kr sn sn=true:=(E2.mp h).2
noncomputable def gj(cs:List (Str×Addr)):List (Str×NameKind)→List (Str×Addr)→List (Str×Addr)
 | [],acc=>acc
 | p::r,acc=>gj cs r (cond (qs p.2) ((cs.lookup p.1).elim acc fun c=> (p.1,c)::acc) acc)
noncomputable def jC(sn names:List (Str×NameKind))(cs:List (Str×Addr)):Bool:=
 sn.all fun p=>cond (qs p.2) ((names.any fun q=>q.1==p.1&&yK q.2)&& (cs.lookup p.1).isSome) true
structure Fc(env:Env)(cs:List (Str×Addr))(x:Str)(c:Addr):Prop where
 l:cs.lookup x=some c
 e:env.cells.lookup x=some c
 u:∀d,(x,d)∈cs→d=c
theorem mem_of_lookup{β:Type}{c:β}:∀ {l:List (Str×β)},l.lookup x=some c→(x,c)∈l
 |(a,b)::r,h=>by
  rw[Y4] at h
  cases hb:x==a with
  | true=>rw[hb] at h;cases h;cases eq_of_beq hb;exact .head _
  | false=>rw[hb] at h;exact .tail _ (mem_of_lookup h)
theorem qt{sn names:List (Str×NameKind)}{cs:List (Str×Addr)}(N:Kn env names cs)(h:jC sn names cs=true)(hx:(x,NameKind.free)∈sn):∃c,Fc env cs x c:=by
 obtain⟨h1,h2⟩:=E2.mp (Jb.mp h _ hx)
 obtain⟨q,hq,e⟩:=Y1.mp h1
 obtain⟨e,hk⟩:=E2.mp e
 obtain⟨c,hc⟩:=Z7.mp h2
 have key:=N.cell x q.2 ((eq_of_beq e:q.1=x)▸hq) (Fb hk)
 have e:=key c (mem_of_lookup hc)
 exact⟨c,hc,e,fun d hd=>YV ((key d hd).symm.trans e)⟩
theorem k4{cs:List (Str×Addr)}{c:Addr}(X:Fc env cs x c):∀(sn:List (Str×NameKind)) (acc:List (Str×Addr)),((x,NameKind.free)∈sn∨acc.lookup x=some c)→(gj cs sn acc).lookup x=some c
 | [],acc,h=>h.elim (fun h=>nomatch h) id
 |(y,k)::r,acc,h=>k4 X r _<|by
  cases hb:x==y with
  | true=>
   cases eq_of_beq hb
   cases k with
   | free=>
    refine .inr ?_
    show List.lookup x ((cs.lookup x).elim acc fun c=> (x,c)::acc)=_
    rw[X.l]
    exact abx
   | _=>exact h.imp_left fun h=> (V1.mp h).elim (fun e=>by cases e) id
  | false=>
   refine h.imp (fun h=> (V1.mp h).elim (fun e=>by cases e;rw[ZI] at hb;cases hb) id) fun h=>?_
   cases qs k with
   | false=>exact h
   | true=>
    show List.lookup x ((cs.lookup y).elim acc fun c=> (y,c)::acc)=_
    cases cs.lookup y with
    | none=>exact h
    | some d=>exact(show List.lookup x ((y,d)::acc)=_ by rw[Y4,hb];exact h)
theorem i0{scope:Scope}{cs:List (Str×Addr)}(h:∀x,(x,NameKind.free)∈scope.names→∃c,Fc env cs x c):closureFor scope env=pure (gj cs scope.names []):=by
 unfold closureFor
 suffices H:∀(sn:List (Str×NameKind)) (acc:List (Str×Addr)),(∀x,(x,NameKind.free)∈sn→∃c,Fc env cs x c)→
   ((forIn sn acc (fun(p:Str×NameKind) (cs:List (Str×Addr))=>match p with |(name,kind)=>if(kind==NameKind.free)=true then(cellOf env name >>= fun c=>pure (ForInStep.yield ((name,c)::cs))) else pure (ForInStep.yield cs)):Sem (List (Str×Addr))) >>= fun r=>pure r)=pure (gj cs sn acc) by
  exact H scope.names [] h
 intro sn
 induction sn with
 | nil=>exact fun acc O=>rfl
 | cons p r ih=>
  intro acc h
  rw[abB]
  obtain⟨x,k⟩:=p
  have UM:=fun acc=>ih acc fun x hx=>h x (.tail _ hx)
  cases k with
  | free=>
   obtain⟨c,X⟩:=h x (.head _)
   have e:cellOf env x=pure c:=by unfold cellOf;rw[X.e]
   show((cellOf env x >>= fun c=>pure (ForInStep.yield ((x,c)::acc))) >>= _) >>= _=pure (gj cs r ((cs.lookup x).elim acc fun c=> (x,c)::acc))
   rw[e,X.l]
   exact UM ((x,c)::acc)
  | _=>exact UM acc
theorem g3{env:Env}:∀ {names:List (Str×NameKind)} {x:Str} {k:NameKind},names.lookup x=some k→
  have r:=(names.map fun(n,k)=>if(k==NameKind.free&&env.scope.kind== .function&&env.kindOf n==some .cell) then(n,NameKind.cell) else(n,k)).lookup x
  r=some k∨(k= .free∧r=some .cell)
 |(n,kq)::r,x,k,h=>by
  have ih:= @g3 env r x k
  rw[Y4] at h
  show(List.lookup x ((if(kq==NameKind.free&&env.scope.kind== .function&&env.kindOf n==some .cell)=true then(n,NameKind.cell) else(n,kq))::_)=_)∨(_∧List.lookup x ((if(kq==NameKind.free&&env.scope.kind== .function&&env.kindOf n==some .cell)=true then(n,NameKind.cell) else(n,kq))::_)=_)
  cases hb:x==n with
  | true=>
   rw[hb] at h
   cases h
   split
   ·next hc=>exact .inr ⟨eq_of_beq (E2.mp (E2.mp hc).1).1,by rw[Y4,hb]⟩
   ·exact .inl (by rw[Y4,hb])
  | false=>
   rw[hb] at h
   split <;> (rw[Y4,hb];exact ih h)
noncomputable def Nj(oc:Option Str)(C:Addr)(cl:List (Str×Addr)):List (Str×Addr):=oc.elim cl fun x=> (x,C+1)::cl
noncomputable def dh(oc:Option Str)(sn:List (Str×NameKind))(cs:List (Str×Addr)):Bool:=(sn.all fun p=>cond (yK p.2) (cond (qs p.2) (oc !=some p.1) (oc==some p.1)) true)&&cs.all fun q=>oc !=some q.1
theorem Fd{names sn:List (Str×NameKind)}{cs:List (Str×Addr)}{scope:Scope}{C:Addr}{oc:Option Str}(N:Kn env names cs)(uO:scope.names=sn)(hf:jC sn names cs=true)(wH:cy sn=true)(IG:dh oc sn cs=true):
  Kn (compEnvC scope (Nj oc C (gj cs sn [])) C env) sn (Nj oc C cs):=by
 subst uO
 obtain⟨h1,h2⟩:=E2.mp IG
 have old:∀x,(x,NameKind.free)∈scope.names→∀c,(x,c)∈cs→(gj cs scope.names []).lookup x=some c:=fun x hx c hc=>by
  obtain⟨d,X⟩:=qt N hf hx
  rw[X.u c hc]
  exact k4 X _ _ (.inl hx)
 refine⟨fun p hp=>g3 (kr.at (cy.kn wH) hp).1,fun p hp=> (kr.at (cy.kn wH) hp).2,fun x k hx hk c hc=>?_⟩
 have hh:=Jb.mp h1 _ hx
 cases oc with
 | none=>
  rcases hk with rfl | rfl
  ·cases hh
  ·exact old x hx c hc
 | some x0=>
  show List.lookup x ((x0,C+1)::_)=_
  rcases V1.mp hc with e | hc
  ·cases e;exact abx
  ·have j_:=bne_iff_ne.mp (Jb.mp h2 _ hc)
   rcases hk with rfl | rfl
   ·exact absurd (eq_of_beq hh) j_
   ·rw[Y4,Zs.mpr fun e=>j_ (E5 some e.symm)]
    exact old x hx c hc
section
variable {g:Gd}{env:Env}{st:AS}
def jD(g:Gd)(aw:Expr)(ifs:List Expr)(sn:List (Str×NameKind))(cs:List (Str×Addr))(oc:Option Str)(B:Env→Value→Sem Fin→Sem Fin)(m1 m2:Mem)(y:AV)(a a':AO):Prop:=
 ∀g' dG C D,eS g g'→bp g' dG→Kn dG sn (Nj oc C cs)→W1 g' UR (assign aw dG) y (jm oc.isSome (bh sn) m1 m2 C D a) fun O aD=>W0 g' RQ (iZ ifs dG) aD fun ok aK=>
  cond ok (WB g' (B dG (.ref D)) aK fun eu=>Wk g' eu (jm oc.isSome (bh sn) m1 m2 C D a')) (Wk g' aK (jm oc.isSome (bh sn) m1 m2 C D a'))
inductive Kt(g:Gd)(aw:Expr)(ifs:List Expr)(sn:List (Str×NameKind))(cs:List (Str×Addr))(oc:Option Str)(B:Env→Value→Sem Fin→Sem Fin)(use:Option (Value→Sem Unit))(o0:AO)(x:AV)(st:AS)(Q:AV→AS→Prop):Prop
 | mk (vars:cI) (m1 m2:Mem) (tg:Expr→Prop) (bK:Mem→Prop) (l:List AV) (lV:cE g x st ⟨vars,m1++m2⟩ tg bK l) (ht:tg aw) (iY:∀C D a,bK (jm oc.isSome (bh sn) m1 m2 C D a).mem) (Acc:Nat→AO) (h0:Acc 0=o0)
  (step:∀i y,l[i]? =some y→jD g aw ifs sn cs oc B m1 m2 y (Acc i) (Acc (i+1))) (last:uQ g (Acc l.length) vars m1 m2 (E0 g use Q))
def jE(oc:Option Str)(sn:List (Str×NameKind)):Prop:=oc.elim True fun x=> (∀n acc,cellsFrom n sn acc=(x,n)::acc)∧∀h,pushCells h sn=h.push {cls:= .type "cell",data:= .cell none }
theorem Ku{scope:Scope}{cl:List (Str×Addr)}(h:jE (some x) scope.names):wM true g env scope cl fun C=>Nj (some x) C cl:=fun {E s Q} hQ=>by
 unfold newFunctionEnv
 refine E3 (wpAny_alloc ?_)
 refine E3 (wpAny_layCells _ (fun name kind cells=>by cases kind <;> rfl) _ _ _ _ ?_)
 rw[h.1,h.2]
 refine E3 (U1 (U1 ?_))
 have hz:(s.heap.push {cls:= .type "dict",data:= .dict #[] }).objs.size=s.heap.objs.size+1:=Heap.size_push ..
 have e:=Heap.get?_push_size (s.heap.push {cls:= .type "dict",data:= .dict #[] }) (o:= {cls:= .type "cell",data:= .cell none }) rfl
 show Q (newEnv scope s.heap.objs.size env.globals ((x,(s.heap.push {cls:= .type "dict",data:= .dict #[] }).objs.size)::cl) env.qual none .none (some env) builtinsNs) _
 rw[hz] at e ⊢
 exact hQ _ ((Heap.Ns.new s.heap (.type "dict")).keeps fun b o e=>Heap.get?_push_of_some _ e) (fun b o e=>Heap.get?_push_of_some _ (Heap.get?_push_of_some _ e)) fun O=>e
theorem dh.no{sn:List (Str×NameKind)}{cs:List (Str×Addr)}(h:dh none sn cs=true):∀y∈sn,y.2≠.cell:=fun(y,k) hy e=>by cases(e:k=_);cases Jb.mp (E2.mp h).1 _ hy
theorem AA{scope:Scope}{cl cs:List (Str×Addr)}{oc:Option Str}(hk:scope.kind= .function)(h:jE oc scope.names)(IG:dh oc scope.names cs=true):wM oc.isSome g env scope cl fun C=>Nj oc C cl:=by
 cases oc with
 | some x=>exact Ku h
 | none=>exact On (dh.no IG) hk
theorem qu{ce aw iter:Expr}{nl:Sem Value}{ifs:List Expr}{rest:List Comprehension}{names sn:List (Str×NameKind)}{cs:List (Str×Addr)}{more:List (Str×Const)}{oc:Option Str}{B:Env→Value→Sem Fin→Sem Fin}{use:Option (Value→Sem Unit)}(kk:CK g ce nl ob o0)(Ay:clausesOf ce=⟨aw,iter,ifs,0⟩::rest)(e:bp g env)(N:Kn env names cs)(uO:scope=⟨.function,sn,false,false,more⟩)(hf:jC sn names cs=true)(wH:cy sn=true)(IG:dh oc sn cs=true)(h1:jE oc sn)(hT:∀dG,kY ce 0 dG p2 aw ifs (B dG))(hs:∀x,foldedSetIterable iter env x=pure x)(h:W0 g VR (eval iter env) st fun x aD=>Kt g aw ifs sn cs oc B use o0 x aD Q):W0 g VR (comprehension ce scope env ps nl false (eval iter env) use) st Q:=by
 subst uO
 refine uR Ay (h.mono fun x aD h=>?_) (i0 fun x hx=>qt N hf hx) rfl (fun y hy hl=> (kr.at (cy.kn wH) hy).1.trans (E5 some hl)) hs
 obtain⟨vars,m1,m2,tg,bK,l,lV,ht,iY,Acc,h0,step,last⟩:=h
 exact Fa oc.isSome kk e lV ht iY (AA rfl h1 IG) rfl (sA wH) (fun C=>hT _) Acc h0 (fun C D i y hy ek=>step i y hy _ _ C D (.at g C) ek (Fd N rfl hf wH IG)) last
theorem AB{gens:List Comprehension}{scope:Scope}{cF py:Pos}{line:Nat}(e:bp g env)(hy:env.kindOf y=some .local)(hc:(py.line==cF.line&&!(scope.names.any fun x=>x.1==y&& (x.2== .local||x.2== .cell)))=true):
  swapsWith (.ListComp elt gens scope cF) (some (.Name y py)) line env=pure true:=by
 have h1:(env.blockKind==ScopeKind.function)=true:=by
  unfold Env.blockKind
  rw[e.kind];rfl
 have h:=E2.mp hc
 show pure (env.blockKind==ScopeKind.function&& (env.kindOf y==some NameKind.local)&&py.line==cF.line&&_)=pure true
 rw[h1,hy,h.1]
 exact E5 pure h.2
theorem sB{y py elt aw iter ifs rest sn more cF pos names cs}(e:bp g env)(N:Kn env names cs)(hy:(y,NameKind.local)∈names)(hc:(py.line==cF.line&&!(sn.any fun x=>x.1==y&& (x.2== .local||x.2== .cell)))=true)(h:W0 g VR (comprehension (.ListComp elt (⟨aw,iter,ifs,0⟩::rest) ⟨.function,sn,false,false,more⟩ cF) ⟨.function,sn,false,false,more⟩ env iter.pos (newList []) false (eval iter env) (some (assign (.Name y py) env))) st fun O aK=>Q .next aK):
  W0 g FR (exec (.Assign [.Name y py] (.ListComp elt (⟨aw,iter,ifs,0⟩::rest) ⟨.function,sn,false,false,more⟩ cF) pos) env) st Q:=fun F s r K E k=>by
 rw[exec_Assign_Name_used _ _ _ _ (AB e (N.ne hy (by decide)) hc)]
 refine E3 (Zc (E3 ?_))
 show wpAny _ _ (do let _ ← comprehension (.ListComp elt (⟨aw,iter,ifs,0⟩::rest) ⟨.function,sn,false,false,more⟩ cF) ⟨.function,sn,false,false,more⟩ env iter.pos (newList []) false (eval iter env) (some (assign (.Name y py) env))) _ _ s
 exact E3 (h F s r _ _ fun F1 b a aD s1 l1 r1 O h1=>U1 (U1 (k F1 .next .next aD s1 l1 r1 rfl h1)))
end
end
end
section
section
variable {g:Gd}{env:Env}{st:AS}
theorem k6(h:Q true st):W0 g RQ (iZ [] env) st Q:=fun F s r K E k=>wpAny_tests_nil (k F true true st s (FM.le.refl _) r rfl h)
theorem k7(h:W0 g RQ (isTrue c env (eval c env)) st Q):W0 g RQ (iZ [c] env) st Q:=fun F s r K E k=>wpAny_tests_one (h F s r K E k)
theorem sC{R:Result→Shared→Prop}{lE gJ:List Expr}(h0:codeAny (model g.prog g.w) A (.compLoop (.ListComp elt [⟨t1,i1,lE,0⟩,⟨t2,i2,gJ,0⟩] scope pos) 1 it acc env) R s)(h:wpAny (model g.prog g.w) A (pyIter it) (fun Rn s'=>codeAny (model g.prog g.w) A (.compLoop (.ListComp elt [⟨t1,i1,lE,0⟩,⟨t2,i2,gJ,0⟩] scope pos) 1 Rn acc env) R s')
   (notedBy (model g.prog g.w) A env fun x s'=>R (.error x) s') s):
  codeAny (model g.prog g.w) A (.compStart (.ListComp elt [⟨t1,i1,lE,0⟩,⟨t2,i2,gJ,0⟩] scope pos) 1 it acc env) R s:=by
 refine codeAny_of_tree (wpAny_notedAt ?_)
 unfold compStart
 refine E3 (wpAny_askSetting (wpAny_ite ?_))
 split
 ·exact E3 (U1 (U1 ⟨rfl,h0⟩))
 ·exact E3 (aa4 (E3 (Zc (E3 (aaA h (fun Rn s' hh=>U1 ⟨rfl,hh⟩) fun O O h'=>h')))))
theorem Ow{lE gJ:List Expr}{D:Addr}{P:AS→Prop}(hs:∀x,foldedSetIterable i2 env x=pure x)(h:W0 g VR (eval i2 env) st fun x aD=> ∃tg bK l aK,cE g x aD aK tg bK l∧tg t2∧∃S:Nat→AS,S 0=aK∧(∀i,bK (S i).mem)∧P (S l.length)∧
   ∀i y,l[i]? =some y→W1 g UR (assign t2 env) y (S i) fun O aD=>W0 g RQ (iZ gJ env) aD fun ok aK=>cond ok (WB g (yI elt env (.ref D)) aK fun eu=>Wk g eu (S (i+1))) (Wk g aK (S (i+1)))):
  WB g (Rm (.ListComp elt [⟨t1,i1,lE,0⟩,⟨t2,i2,gJ,0⟩] scope pos) i2 env (.ref D)) st P:=fun F s r k Q E kk=>by
 refine E3 (h F s r _ E fun F1 x v aD s1 l1 r1 hv h1=>E3 (Zc (E3 ?_)))
 rw[hs]
 obtain⟨tg,bK,l,aK,lV,ht,S,h0,hn,hP,step⟩:=h1
 refine U1 (E3 (YJ (lV F1 s1 v r1 hv _ E fun F2 it fp St s2 l2 sr r2 w2 S2=>E3 (wpAny_runOwn (ab3 (R:=fun r s'=>r= .ok .next∧wpAny (model g.prog g.w) g.A k Q E s') ?_ fun r s' hr=>by obtain⟨rfl,hr⟩:=hr;exact hr) fun h=>nomatch h))))
 have loop:=kZ (g:=g) (L:=g.L) (D:=D) (it:=it) (R:=fun r s'=>r= .ok .next∧wpAny (model g.prog g.w) g.A k Q E s') (.list ..) (Ko elt t1 i1 t2 i2 lE gJ scope pos env) sr ht S hn step (h0▸r2) (h0▸w2) S2 fun F3 s3 l3 r3=> ⟨rfl,kk F3 _ s3 (l1.trans (l2.trans l3)) r3 hP⟩
 exact sC loop (sr.self 0 F2 s2 r2.hF S2 _ _ loop)
def Nk(g:Gd)(env:Env)(cD:List Expr)(xs:List AV)(st:AS)(Q:Unit→AS→Prop):Prop:=
 ∀F s vs,Rep g F st s→aQ F xs vs→∀(K:Unit→Shared→Prop) (E:Value→Shared→Prop),
  (∀F' b a bH s',FM.le F F'→Rep g F' bH s'→UR F' b a→Q b bH→K a s')→wpAny (model g.prog g.w) g.A (assignInOrder ((assignEach cD env).map (·.2)) vs) K E s
theorem Rep.ext(r:Rep g F st s)(hx:Heap.ExtBut s.heap.objs.size s.heap h'):Rep g F st {s with heap:=h' }:=
 r.keeps (h':=h') (fun b o e=>hx b o (V2 (Heap.lt_size e)) e) s.toks id
theorem eU{cD x1 pos}(h:Nk g env cD xs st Q)(hn:(assignEach cD env).length=xs.length)(AC:(assignEach cD env).findIdx? (·.1)=none):
  W1 g UR (assign (.Tuple cD x1 pos) env) (.tup xs) st Q:=fun F s v r hv K E k=>by
 obtain⟨a,items,n,rfl,e,hi⟩:=hv
 exact wpAny_assign_Tuple g.hh ⟨_,r.hF _ _ e,rfl,n,rfl⟩ (hn.trans hi.size.symm) AC fun h' hx=>h F _ items.toList (r.ext hx) hi K E k
theorem wO(h:Q () st):Nk g env [] [] st Q:=fun F s vs r hv K E k=>by
 cases(hv:_=_)
 exact U1 (k F () () st s (FM.le.refl _) r trivial h)
theorem mQ{e rest x xs}(h:W1 g UR (assign e env) x st fun O aD=>Nk g env rest xs aD Q)(he:assignEach (e::rest) env=(false,assign e env)::assignEach rest env):
  Nk g env (e::rest) (x::xs) st Q:=fun F s vs r hv K E k=>by
 obtain⟨v,vr,rfl,h1,h2⟩:=hv
 rw[he]
 exact E3 (YJ (h F s v r h1 _ E fun F1 O O aD s1 l1 r1 O h3=>h3 F1 s1 vr r1 (h2.mono l1) K E fun F' b a bH s' l r2 hb hq=>k F' b a bH s' (l1.trans l) r2 hb hq))
noncomputable def uS(names:List (Str×NameKind)):Env:= {scope:=⟨.function,names,false,false,[]⟩,locals:=0,globals:=0,cells:=[] }
theorem AD{names:List (Str×NameKind)}{ts:List Expr}(kd:∀x,env.kindOf x=names.lookup x)(e:bp g env):swappedStores ts v env=swappedStores ts v (uS names):=by
 have h1:env.blockKind= .function:=by
  unfold Env.blockKind
  rw[e.kind];rfl
 unfold swappedStores
 rw[h1,funext kd]
 rfl
theorem g4{cD k eV aj pos names}(kd:∀x,env.kindOf x=names.lookup x)(e:bp g env)(h:W0 g VR (eval aj env) st fun v aD=>W1 g UR (assign (.Tuple cD k eV) env) v aD fun O aK=>Q .next aK)(hs:swapsWithSole [.Tuple cD k eV] aj pos.line env=pure false)(hw:swappedStores [.Tuple cD k eV] aj (uS names)=pure none):W0 g FR (exec (.Assign [.Tuple cD k eV] aj pos) env) st Q:=fun F s r K E kk=>
 Assign_Tuple (h F s r _ E fun F1 x v aD s1 l1 r1 v1 h1=>h1 F1 s1 v r1 v1 _ E fun F2 O O aK s2 l2 r2 O h2=>kk F2 .next .next aK s2 (l1.trans l2) r2 rfl h2) hs ((AD kd e).trans hw)
def Bn(g:Gd)(env:Env)(Q:AS→Prop):List Str→List AV→AS→Prop
 | [],[],st=>Q st
 | n::ns,x::xs,st=>W1 g UR (storeName env n) x st fun O=>Bn g env Q ns xs
 | _,_,_=>False
theorem IH{Q:AS→Prop}:∀ {ns:List Str} {xs:List AV} {st:AS},Bn g env Q ns xs st→∀F s vs,Rep g F st s→aQ F xs vs→∀(K:Shared→Prop) (E:Value→Shared→Prop),(∀F' bH s',FM.le F F'→Rep g F' bH s'→Q bH→K s')→
  wpAny (model g.prog g.w) g.A (assignInOrder (ns.map fun n=>bindName env n) vs) (fun O=>K) E s
 | [],[],st,h,F,s,vs,r,hv,K,E,k=>by cases(hv:_=_);exact U1 (k F st s (.refl _) r h)
 | n::ns,x::xs,st,h,F,s,vs,r,hv,K,E,k=>by
  obtain⟨v,vr,rfl,h1,h2⟩:=hv
  exact E3 (YJ (bindName_ (h F s v r h1 _ E fun F1 O O aD s1 l1 r1 O h3=>IH h3 F1 s1 vr r1 (h2.mono l1) K E fun F' bH s' l r2 hq=>k F' bH s' (l1.trans l) r2 hq)))
theorem aQ.rev{F:FM}:∀ {xs:List AV} {vs:List Value},aQ F xs vs→aQ F xs.reverse vs.reverse
 | [],_,e=>by cases(e:_=_);exact gd
 | x::xs,_,e=>by
  obtain⟨v,r,rfl,h1,h2⟩:=e
  rw[List.reverse_cons,List.reverse_cons]
  exact(aQ.rev h2).append (dE h1 gd)
theorem jF{cD k eV aj pos names}{ns:List Str}(kd:∀x,env.kindOf x=names.lookup x)(e:bp g env)(h:W0 g VR (eval aj env) st fun v aD=> ∃xs,v= .tup xs∧ns.length=xs.length∧Bn g env (Q .next) ns.reverse xs.reverse aD)(hs:swapsWithSole [.Tuple cD k eV] aj pos.line env=pure false)(hw:swappedStores [.Tuple cD k eV] aj (uS names)=pure (some ns)):W0 g FR (exec (.Assign [.Tuple cD k eV] aj pos) env) st Q:=fun F s r K E kk=>by
 refine Assign_Tuple_swapped (h F s r _ E fun F1 v u aD s1 l1 r1 v1 h1=>?_) hs ((AD kd e).trans hw)
 obtain⟨xs,rfl,hl,h1⟩:=h1
 obtain⟨a,items,n,rfl,e,hi⟩:=v1
 rw[hl.trans hi.size.symm]
 exact wpAny_unpackItems_tuple g.hh ⟨_,r1.hF _ _ e,rfl,n,rfl⟩ fun h' hx=>IH h1 F1 _ _ (r1.ext hx) hi.rev _ E fun F2 aK s2 l2 r2 hq=>kk F2 .next .next aK s2 (l1.trans l2) r2 rfl hq
inductive Wt(g:Gd)(F:FM)(Inv:Nat→AS→Prop)(n:Nat)(s:Shared):Prop
 | mk (F':FM) (st:AS) (le:FM.le F F') (h:Inv n st) (r:Rep g F' st s)
theorem Fe{Kv body pos}(Inv:Nat→AS→Prop)(n:Nat)(h0:Inv n st)(step:∀n st,Inv n st→W0 g RQ (isTrue Kv env (eval Kv env)) st fun b aD=>if b=true then W0 g FR (execs body env) aD (TurnEnd (fun aK=> ∃m,m<n∧Inv m aK) Q) else Q .next aD):
  W0 g FR (exec (.While Kv body [] pos) env) st Q:=fun F s r K E k=>by
 refine wpAny_While (codeAny_whileLoop (Wt g F Inv) (fun n s1 ⟨F1,aD,l1,hI,r1⟩=>step n aD hI F1 s1 r1 _ _ fun F2 b a aK s2 l2 r2 hb h2=>?_) n ⟨F,st,.refl _,h0,r⟩)
 cases(hb:_=_)
 cases b with
 | true=>exact h2 F2 s2 r2 _ _ fun F3 f fl eu s3 l3 r3 hf h3=>FR.turn hf h3 (fun⟨m,hm,h3⟩=> ⟨m,hm,F3,eu,l1.trans (l2.trans l3),h3,r3⟩) fun x f hf hq=>k F3 x f eu s3 (l1.trans (l2.trans l3)) r3 hf hq
 | false=>exact acb (k F2 .next .next aK s2 (l1.trans l2) r2 rfl h2)
end
end
section
set_option tactic.hygienic true
section
open AutoSeq1 (wpAny_loadPart')
variable {prog:Program}{w:World}{A:Around}{E:Value→Shared→Prop}{s:Shared}
theorem lF{it t:Addr}{i:Nat}{items}{Q:Value→Shared→Prop}(gX:s.heap.IsTupleIter it t i)(ht:s.heap.IsTuple t items)(hx:items[i]? =some x)(hQ:∀h',h'.IsTupleIter it t (i+1)→Heap.SameBut it s.heap h'→Q x {s with heap:=h' }):
  wpAny (model prog w) A (Builtin.SmallTypes.nextOf (.ref it)) Q E s:=by
 obtain⟨o,ho,hc,hd⟩:=id gX
 obtain⟨ol,SQ,_,nl,SR⟩:=ht
 unfold Builtin.SmallTypes.nextOf
 refine E3 (aab (name:=Str.ofString "__next__") gX.typeIs Zz
  (ZJ Zz gX.typeIs abi ?_ (abd _)))
 show wpAny _ _ (field (.ref it) 0 >>= _) _ _ s
 refine E3 (ZP ho hd (x:= .ref t) rfl ?_)
 show wpAny _ _ (if(Value.ref t==Value.none)=true then _ else _) _ _ s
 rw[V4 (show ¬ ((Value.ref t==Value.none)=true) from YQ)]
 show wpAny _ _ (field (.ref it) 1 >>= _) _ _ s
 refine E3 (ZP ho hd (x:= .int i 0) rfl ?_)
 show wpAny _ _ (seqItems? (.ref t) >>= _) _ _ s
 refine E3 (aat SQ SR ?_)
 simp only[Z2,hx]
 refine E3 (wpAny_setField ho hd (by simp) (U1 ⟨x,rfl,U1 (hQ _ ?_ (Heap.SameBut.update ..))⟩))
 exact⟨_,Heap.get?_update_self _ ho (Obj.isFreed_of_fields (Obj.data_mapFields hd _)),(Obj.cls_mapFields ..).trans hc,by
  rw[Obj.data_mapFields hd];simp[rawInt]⟩
theorem mU{it t:Addr}{i:Nat}{items}{Q:Value→Shared→Prop}(hh:A.handled=none)
  (gX:s.heap.IsTupleIter it t i) (ht:s.heap.IsTuple t items) (hx:items[i]? =none)
  (hE:∀h' e,Heap.ExtBut it s.heap h'→(∃o,h'.get? e=some o∧o.cls= .type "StopIteration")→E (.ref e) {s with heap:=h' }):
  wpAny (model prog w) A (Builtin.SmallTypes.nextOf (.ref it)) Q E s:=by
 obtain⟨o,ho,hc,hd⟩:=id gX
 obtain⟨ol,SQ,_,nl,SR⟩:=ht
 unfold Builtin.SmallTypes.nextOf
 refine E3 (aab (name:=Str.ofString "__next__") gX.typeIs Zz
  (ZJ Zz gX.typeIs abi ?_ (abd _)))
 show wpAny _ _ (field (.ref it) 0 >>= _) _ _ s
 refine E3 (ZP ho hd (x:= .ref t) rfl ?_)
 show wpAny _ _ (if(Value.ref t==Value.none)=true then _ else _) _ _ s
 rw[V4 (show ¬ ((Value.ref t==Value.none)=true) from YQ)]
 show wpAny _ _ (field (.ref it) 1 >>= _) _ _ s
 refine E3 (ZP ho hd (x:= .int i 0) rfl ?_)
 show wpAny _ _ (seqItems? (.ref t) >>= _) _ _ s
 refine E3 (aat SQ SR ?_)
 simp only[Z2,hx]
 refine E3 (aa4 (E3 (wpAny_setField ho hd (by simp) ?_)))
 show wpAny _ _ (newExc (.type "StopIteration") [] >>= _) _ _ _
 refine E3 ?_
 simp only[newExc,newTuple]
 refine E3 (abc ?_ (by size_fits))
 refine E3 (m:=firstArgMember _ _) (acf (a:=Value.none) (by first | rfl |(simp only[firstArgMember];rfl)) ?_)
 refine abc ?_ (by size_fits)
 simp only[raiseNew]
 refine E3 (wpAny_handled ?_)
 first | rw[show A.in1.handled=none from hh] | rw[hh]
 refine E3 (U1 (wpAny_throw ?_))
 exact hE _ _ (((Heap.SameBut.update ..).extBut.push _).push _) ⟨_,Heap.get?_push_size _ rfl,rfl⟩
theorem Draws.tup(hh:A.handled=none)(it l:Addr)(j_:l≠it)(items:Array Value):
  Draws prog w A it [it,l] items.size (fun i v=>items[i]? =some v) (fun i h=>h.IsTupleIter it l i∧h.IsTuple l items) where
 live:=fun O O st=>let⟨o,ho,_⟩:=st.1;⟨o,ho⟩
 frame:=fun O O O st hk=> ⟨let⟨o,ho,r⟩:=st.1;⟨o,hk it (by simp) o ho,r⟩,let⟨o,ho,r⟩:=st.2;⟨o,hk l (by simp) o ho,r⟩⟩
 item:=fun i s Q E hi st hQ=>by
  refine lF st.1 st.2 (x:=items[i]) (by simp[hi]) fun h' SU uo=>?_
  exact hQ _ h' s.toks (by simp[hi]) ⟨SU,st.2.extBut uo.extBut j_⟩ uo
 done:=fun s Q E st hE=>mU hh st.1 st.2 (by simp) hE
theorem lG(l:Addr)(items:Array Value)(n:Nat)(SV:Option Addr)(sl:Array (Option Value)):
  Meets (Builtin.«enumerate.__new__» ⟨[.type "enumerate",.ref l],[]⟩) (fun O R s=>s.heap.get? l=some {cls:= .type "tuple",dict:=SV,data:= .seq items n,slots:=sl }∧
   R (.ok (.ret (.ref (s.heap.push {cls:= .type "tuple_iterator",data:= .fields #[.ref l,.int 0 0] }).objs.size)))
    {s with heap:=(s.heap.push {cls:= .type "tuple_iterator",data:= .fields #[.ref l,.int 0 0] }).push {cls:= .type "enumerate",data:= .fields #[.none,.bool false,.ref s.heap.objs.size,rawInt 0,.none,.none] } }):=
 .of_wp fun prog w A R s h=>by
  obtain⟨hp,g,d,tk,os⟩:=s;obtain⟨hl,h⟩:=h
  have Wu:=sub_enumerate
  have hL:Heap.IsTuple (Shared.heap ⟨hp,g,d,tk,os⟩) l items:=⟨_,hl,rfl,n,rfl⟩
  wp_walk using aaM hl
  refine wpAny_stack_any fun st=>U1 ?_
  split
  ·rename_i c _ _ _ _ _
   cases(c==Value.type "enumerate")
   ·wp_walk using aaM hl,aag hL
    exact⟨_,rfl,h⟩
   ·wp_walk using aaM hl,aag hL
    exact⟨_,rfl,h⟩
  ·wp_walk using aaM hl,aag hL
   exact⟨_,rfl,h⟩
theorem oO{l:Addr}{items:Array Value}{Q:Value→Shared→Prop}(hL:s.heap.IsTuple l items)
  (h:∀h',IsEnum h' (s.heap.objs.size+1) s.heap.objs.size 0 .none→h'.IsTupleIter s.heap.objs.size l 0→h'.objs.size=s.heap.objs.size+2→
   (∀b o,s.heap.get? b=some o→h'.get? b=some o)→Q (.ref (s.heap.objs.size+1)) {s with heap:=h' }):
  wpAny (model prog w) A (call (.type "enumerate") [.ref l]) Q E s:=by
 obtain⟨⟨c,SV,dt,sl⟩,hl,hc,n,hd⟩:=hL
 replace hc:c= .type "tuple":=hc
 replace hd:dt= .seq items n:=hd
 subst hc hd
 refine callType_new PySem.F.called_enumerate (by decide) (PySem.F.typeCall_enumerate_1 _) (PySem.F.newCall_enumerate_1 _) (fun obj=>PySem.F.args_object_init_2 obj _) PySem.F.entry_enumerate_new
  (lG l items n SV sl) ⟨hl,?_⟩
 have hz:(s.heap.push {cls:= .type "tuple_iterator",data:= .fields #[.ref l,.int 0 0] }).objs.size=s.heap.objs.size+1:=Heap.size_push ..
 show _∧_
 rw[hz]
 have he:IsEnum ((s.heap.push {cls:= .type "tuple_iterator",data:= .fields #[.ref l,.int 0 0] }).push
   {cls:= .type "enumerate",data:= .fields #[.none,.bool false,.ref s.heap.objs.size,rawInt 0,.none,.none] }) (s.heap.objs.size+1) s.heap.objs.size 0 .none:=by
  have:=Heap.get?_push_size (s.heap.push {cls:= .type "tuple_iterator",data:= .fields #[.ref l,.int 0 0] })
   (o:= {cls:= .type "enumerate",data:= .fields #[.none,.bool false,.ref s.heap.objs.size,rawInt 0,.none,.none] }) rfl
  rw[hz] at this;exact this
 refine⟨⟨_,he,rfl⟩,h _ he ⟨_,Heap.get?_push_of_some _ (Heap.get?_push_size _ rfl),rfl,rfl⟩ (by rw[Heap.size_push,hz]) fun b o x=>Heap.get?_push_of_some _ (Heap.get?_push_of_some _ x)⟩
end
section
variable {g:Gd}{env:Env}{st:AS}
theorem ni{a b:Addr}{l:List Addr}(h:b∉l)(ha:a∈l):b≠a:=fun e=>h (e▸ha)
theorem Rep.wP{F:FM}{vars:cI}{m1 mem:Mem}(r:Rep g F ⟨vars,m1++mem⟩ s):dX g F ⟨vars,mem⟩ (m1.map (·.1)):=
 have nd:=List.nodup_append.mp (YA (f:=(·.1)) (l₁:=m1) (l₂:=mem)▸r.nd)
 have at':∀ {P:Addr→Prop},(∀p∈m1++mem,P p.1)→∀a∈m1.map (·.1),P a:=fun h a ha=> (U0.mp ha).elim fun q hq=>hq.2▸h q (YG _ hq.1)
 ⟨at' (P:=fun a=>F.P a=none) fun p hp=> (r.ap p hp).1,at' (P:=fun a=>F.f a=none) fun p hp=> (r.ap p hp).2,at' (P:=(·≠g.L)) r.eN,fun a ha p hp e=>nd.2.2 a ha p.1 (aaK hp) e.symm,
  fun a ha t ht=>Ne.symm (at' (P:=(·≠t.1)) (r.b0 t ht).2.2 a ha)⟩
structure UN(g:Gd)(F:FM)(m:Mem)(N:Nat):Prop where
 P:∀a,N≤a→F.P a=none
 f:∀a,N≤a→F.f a=none
 L:g.L<N
 m:∀p∈m,p.1<N
 t:∀t∈g.tabs,t.1<N
theorem Rep.SW{F:FM}(r:Rep g F st s):UN g F st.mem s.heap.objs.size:=⟨fun O=>aF r.hP,fun O=>aF r.hF,r.J_,fun O=>r.iU,fun O=>r.iV⟩
abbrev RB(g:Gd)(F:FM)(vars:cI)(m:Mem)(s:Shared)(N:Nat):Prop:=Rep g F ⟨vars,m⟩ s∧UN g F m N
theorem RB.add{F:FM}{vars:cI}{N:Nat}(x:RB g F vars m s N)(h:kX F s.heap N ao):RB g F vars ((N,ao)::m) s (N+1):=
 ⟨x.1.mz (x.2.f N (E8 N)) (x.2.P N (E8 N)) (Ze x.2.L) (fun p hp=>V2 (x.2.m p hp)) (fun t ht=>V2 (x.2.t t ht)) h,
  fun a ha=>x.2.P a (YN ha),fun a ha=>x.2.f a (YN ha),YW x.2.L,V5.mpr ⟨Za N,fun p hp=>YW (x.2.m p hp)⟩,fun t ht=>YW (x.2.t t ht)⟩
theorem Rep.got{F:FM}{fp:List Addr}(r:Rep g F st s)(w:dX g F st fp)(ex:∀a∈fp,∃o,s.heap.get? a=some o){h2:Heap}(hk:∀b o,b∉fp→s.heap.get? b=some o→h2.get? b=some o)(ho:h2.get? s.heap.objs.size=some o)(t:Nat)(ht:0<s.toks→0<t):
  FM.le F (F.put s.heap.objs.size o)∧Rep g (F.put s.heap.objs.size o) st {s with heap:=h2,toks:=t }∧dX g (F.put s.heap.objs.size o) st fp:=
 have b:=r.SW
 have fT:=b.f _ (E8 _)
 ⟨FM.ej fT,(r.keepsBut w hk t ht).wF ho fT (b.P _ (E8 _)) (Ze b.L) (fun p hp=>V2 (b.m p hp)) (fun t ht=>V2 (b.t t ht)),
  w.P,fun a ha=> (FM.bR F o ((ex a ha).elim fun O e=>V2 (Heap.lt_size e))).trans (w.f a ha),w.L,w.m,w.t⟩
def kB(t:Expr):Prop:= ∃cD k pos,t= .Tuple cD k pos
noncomputable abbrev k8(it:Addr):Obj:= {cls:= .type "enumerate",dict:=none,data:= .fields #[.none,.bool false,.ref it,rawInt 0,.none,.none],slots:= #[] }
noncomputable def cA(l:List AV):List AV:=l.zipIdx.map fun p=> .tup [.int (p.2:Nat),p.1]
theorem kC(l:List AV):(cA l).length=l.length:=(E9 _).trans List.length_zipIdx
theorem yL{i:Nat}(h:(cA l)[i]? =some x):∃y,l[i]? =some y∧.tup [.int (i:Nat),y]=x:=by
 rw[cA,V9,abC,Zw] at h
 cases hy:l[i]? with
 | none=>rw[hy] at h;cases h
 | some y=>rw[hy] at h;exact⟨y,rfl,YV h⟩
theorem sD{tu:Bool}{l:List AV}{vars:cI}{mem:Mem}{Q:AV→AS→Prop}(h:∀e it,Q (.val (.ref e)) ⟨vars,(e,.obj (k8 it))::(it,.eO tu l 0)::mem⟩){F:FM}{s:Shared}(r:Rep g F ⟨vars,mem⟩ s){a:Addr}{items:Array Value}{n:Nat}(ha:F.f a=some (So tu items n))(hi:aQ F l items.toList)
  {K:Value→Shared→Prop} (k:∀F' b a bH s',FM.le F F'→Rep g F' bH s'→VR F' b a→Q b bH→K a s') {h':Heap} (he:IsEnum h' (s.heap.objs.size+1) s.heap.objs.size 0 .none) {o:Obj} (gX:h'.get? s.heap.objs.size=some o) (d:NY tu a 0 o) (hk:∀b o,s.heap.get? b=some o→h'.get? b=some o):K (.ref (s.heap.objs.size+1)) {s with heap:=h' }:=
 have x:RB g F vars mem {s with heap:=h' } _:=⟨r.keeps hk s.toks id,r.SW⟩
 k F _ _ _ _ (.refl _) ((x.add (ao:= .eO tu l 0) ⟨a,items,n,o,gX,d,ha,hi⟩).add (ao:= .obj (k8 s.heap.objs.size)) he).1 (ke ..) (h _ _)
theorem Kw{l:List AV}{vars mem}{Q:AV→AS→Prop}(h:∀e it,Q (.val (.ref e)) ⟨vars,(e,.obj (k8 it))::(it,.eO false l 0)::mem⟩):Wl g VR (fun vs=>call (.type "enumerate") vs) [.lst l] ⟨vars,mem⟩ Q:=si fun F s v r hv K E k=>by
 obtain⟨a,items,n,rfl,ha,hi⟩:=hv
 exact call_enumerate_list ⟨_,r.hF _ _ ha,rfl,n,rfl⟩ fun h' he gX O hk=>gX.elim fun o ho=>sD (tu:=false) h r ha hi k he ho.1 ho.2 hk
theorem Ff{l:List AV}{vars mem}{Q:AV→AS→Prop}(h:∀e it,Q (.val (.ref e)) ⟨vars,(e,.obj (k8 it))::(it,.eO true l 0)::mem⟩):Wl g VR (fun vs=>call (.type "enumerate") vs) [.tup l] ⟨vars,mem⟩ Q:=si fun F s v r hv K E k=>by
 obtain⟨a,items,n,rfl,ha,hi⟩:=hv
 exact oO ⟨_,r.hF _ _ ha,rfl,n,rfl⟩ fun h' he gX O hk=>gX.elim fun o ho=>sD (tu:=true) h r ha hi k he ho.1 ho.2 hk
def Fg(tu:Bool)(it ax:Addr)(items:Array Value)(i:Nat)(h:Heap):Prop:=cond tu (h.IsTupleIter it ax i∧h.IsTuple ax items) (h.IsListIter it ax i∧h.IsList ax items)
theorem wQ{prog:Program}{w:World}{A:Around}(tu:Bool)(hh:A.handled=none){it ax:Addr}(j_:ax≠it)(items:Array Value):Draws prog w A it [it,ax] items.size (fun i v=>items[i]? =some v) (Fg tu it ax items):=by
 cases tu
 ·exact Draws.list hh it ax j_ items
 ·exact Draws.tup hh it ax j_ items
theorem Ox{tu:Bool}{it ax:Addr}{items:Array Value}{n i:Nat}{h:Heap}(e:h.get? it=some o)(d:NY tu ax i o)(ha:h.get? ax=some (So tu items n)):Fg tu it ax items i h:=by
 cases tu
 ·exact⟨⟨o,e,d⟩,_,ha,rfl,n,rfl⟩
 ·exact⟨⟨o,e,d⟩,_,ha,rfl,n,rfl⟩
theorem Fg.it{tu:Bool}{it ax:Addr}{items:Array Value}{i:Nat}(x:Fg tu it ax items i h):∃o,h.get? it=some o∧NY tu ax i o:=by
 cases tu
 ·exact x.1
 ·exact x.1
inductive qv(tu:Bool)(l:List AV)(e it:Addr)(i:Nat)(F:FM)(h:Heap):Prop
 | mk (old:Value) (x:IsEnum h e it (i:Int) old) (y:lC tu l it i F h)
theorem qv.ex{tu:Bool}{e it:Addr}{i:Nat}{F:FM}(x:qv tu l e it i F h):∀a∈[e,it],∃o,h.get? a=some o:=
 x.rec fun O x y=>V5.mpr ⟨⟨_,x⟩,bu (y.rec fun O O O O e O O O=> ⟨_,e⟩)⟩
theorem AE(tu:Bool)(l:List AV)(e it:Addr)(j_:e≠it):yH g (.ref e) [e,it] kB (fun O=>True) (cA l) (qv tu l e it) where
 mono:=fun i F F' h h' hl he x=>x.rec fun old x y=> ⟨old,(he e (.head _)).trans x,y.mono hl (he it (.tail _ (.head _)))⟩
 ex:=fun i F h x=>x.ex
 self:=fun i F s O x K E k=>x.rec fun O x O=>wpAny_pyIter_enum x k
 next:=fun L aw i x F st s Oy O r w S hx K E E' k=>by
  obtain⟨cD,kk,pos,rfl⟩:=Oy
  obtain⟨y,hy,rfl⟩:=yL hx
  have ex:=S.ex
  obtain⟨old,e1,ax,items,n,o,e2,d,e3,e4⟩:=S
  obtain⟨v,hv,hr⟩:=e4.at hy
  have na:∀a∈[e,it],ax≠a:=fun a ha q=>oG (w.f a ha) (q▸e3)
  refine wpAny_pyNext_enum_itemD (wQ tu (by exact g.hh) (na it (.tail _ (.head _))) items) e1 (Ox e2 d (r.hF _ _ e3)) (Array.getElem?_eq_some_iff.mp hv).1 j_
   (fun hm=> (V1.mp hm).elim j_ fun hm=>na e (.head _) (Yz.mp hm).symm) fun x h1 tk hx Wv gX ht hz hk=> ⟨_,rfl,wpAny_letOwnedTupleGo_enum Wv fun h2 Ww Fi=>?_⟩
  cases hv.symm.trans hx
  have Wx:∀b o,b∉[e,it]→s.heap.get? b=some o→h2.get? b=some o:=fun b o hb q=>Fi.extBut b o (ni hb (.head _)) (hk b o (ni hb (.head _)) (ni hb (.tail _ (.head _))) q)
  have G:=r.got w ex Wx (o:=fG #[.int i tk,v] 0) ((Fi.2 _ (Ze (Heap.lt_size e1))).trans ht) (tk+1) tp
  obtain⟨o',ho,d'⟩:=gX.it
  exact k _ _ _ G.1 G.2.1 G.2.2 ⟨_,Ww,ax,items,n,o',(Fi.2 _ j_.symm).trans ho,d',G.1.f _ _ e3,e4.mono G.1⟩ (Rj (FM.cn ..) (dE (oH ..) (dE (hr.mono G.1) gd)))
 stop:=fun L i F st s O r w S hx K E k=>by
  obtain⟨old,e1,ax,items,n,o,e2,d,e3,e4⟩:=S
  cases hx.trans ((kC l).trans e4.size.symm)
  have fin:∀h':Heap,Heap.ExtBut it s.heap h'→K none {s with heap:=h' }:=fun h' hs=>have hk:=fun b o (hb:b∉[e,it]) q=>hs b o (ni hb (.tail _ (.head _))) q;k h' hk (r.keepsBut w hk s.toks id)
  exact wpAny_pyNext_enum_endD (wQ tu (by exact g.hh) (fun q=>oG (w.f it (.tail _ (.head _))) (q▸e3)) items) e1 (Ox e2 d (r.hF _ _ e3)) fin
theorem pq{tu:Bool}{l:List AV}{e it:Addr}{vars mem}:cE g (.val (.ref e)) ⟨vars,(e,.obj (k8 it))::(it,.eO tu l 0)::mem⟩ ⟨vars,mem⟩ kB (fun O=>True) (cA l):=fun F s v r hv K E k=>by
 cases(hv:_=_)
 have he:s.heap.get? e=some (k8 it):=r.hm _ (.head _)
 exact wpAny_pyIter_enum (i:=0) (old:= .none) he (k F _ [e,it] (qv tu l e it) s (.refl _) (AE tu l e it fun q=> (Y9.mp r.nd).1 (q▸ .head _)) (r.sub (aaN [(e,AO.obj (k8 it)),(it,AO.eO tu l 0)] mem))
  (Rep.wP (m1:=[(e,.obj (k8 it)),(it,.eO tu l 0)]) r) ⟨.none,he,r.hm (it,.eO tu l 0) (.tail _ (.head _))⟩)
end
end
section
section
variable {g:Gd}{env:Env}{st:AS}
theorem SX{x i t}{GL names cs}(e:bp g env)(G:EP g GL)(hv:(x,Value.int i t)∈GL)(h:Q (.int i) st):Ld g env names cs x .globalImplicit st Q:=fun N hn=>Iu (fun O=>oH ..) e G N hn hv h
end
end
section
section
variable {g:Gd}{env:Env}{st:AS}
theorem pz{n:Int}(h:Q (.bool true) st):Wl g VR (fun vs=>call (.builtin "isinstance") vs) [.int n,.val (.type "int")] st Q:=Eu fun F s v u r hv hu K E k=>by
 obtain⟨t,rfl⟩:=hv;cases(hu:_=_)
 exact PySem.IsiPair.int_int (k F _ _ st _ (FM.le.refl _) r (my ..) h)
theorem pA(h:Q (.bool false) st):Wl g VR (fun vs=>call (.builtin "isinstance") vs) [.tup l,.val (.type "int")] st Q:=Eu fun F s v u r hv hu K E k=>by
 obtain⟨a,items,n,rfl,e,hi⟩:=hv
 cases(hu:_=_)
 exact PySem.IsiPair.tuple_int (r.hF _ _ e) rfl (k F _ _ st _ (FM.le.refl _) (r.tok _ tp) (my ..) h)
noncomputable def sE(x:Str)(i:Int):Option Nat:=(seqIndex? i x.length).bind (x.cps[·]?)
theorem uT{x:Str}{i:Int}{c:Nat}(hsz:x.length≤sizeLine)(hc:sE x i=some c)(h:Q (.str ⟨#[c]⟩) st):W2 g VR getItem (.str x) (.int i) st Q:=fun F s v u r hv hu K E k=>by
 obtain⟨t,rfl⟩:=hv;obtain⟨t',rfl⟩:=hu
 refine PyProof.Rows.getItem_str ?_ hc (k F _ _ st _ (FM.le.refl _) (r.tok _ tp) (yA ..) h)
 cases hj:seqIndex? i x.length with
 | none=>rw[sE,hj] at hc;cases hc
 | some j=>
  have q:=uJ hj hsz
  exact Bool.or_eq_false_iff.mpr ⟨U4 (ZD.mpr q.1),U4 (aa3.mpr q.2)⟩
end
end
section
section
variable {g:Gd}{env:Env}{st:AS}
theorem sF{id:String}(slot:Slot "str" name id)(Oi:typeOf (.builtin id)=pure (.type "method_descriptor")):eQ g (.str x) name (.val (.builtin id)) [.str x] st:=fun F s v pl r hv K E k=>by
 obtain⟨t,rfl⟩:=hv
 exact aao (abA s x t) PySem.F.plainAttrs_str slot Oi (fun a e=>nomatch e) (k F _ _ s (FM.le.refl _) r (ke ..) (dE (yA ..) gd))
theorem qw{x:Str}(hsz:x.length≤sizeLine)(h:Q ((x.length:Int) !=0) st):W1 g RQ truthy (.str x) st Q:=fun F s v r hv K E k=>by
 obtain⟨t,rfl⟩:=hv
 exact PySem.P.truthy_str (aa3.mpr (YR.mpr (YE hsz (E1 rfl)))) (k F _ _ st _ (FM.le.refl _) (r.tok _ tp) rfl h)
theorem qx{x:Str}(hsz:x.length≤5592405)(h:Q (.str (PySem.Txt.lower x)) st):Wl g VR (fun vs=>call (.builtin "str.lower") vs) [.str x] st Q:=si fun F s v r hv K E k=>by
 obtain⟨t,rfl⟩:=hv
 exact SCL.lower hsz fun O=>k F _ _ st _ (FM.le.refl _) (r.tok _ tp) (yA ..) h
theorem Fj{x:Str}(hsz:x.length≤5592405)(h:Q (.str (PySem.Txt.upper x)) st):Wl g VR (fun vs=>call (.builtin "str.upper") vs) [.str x] st Q:=si fun F s v r hv K E k=>by
 obtain⟨t,rfl⟩:=hv
 exact SCL.upper hsz fun O=>k F _ _ st _ (FM.le.refl _) (r.tok _ tp) (yA ..) h
theorem uU{x:Str}(hsz:x.length≤5592405)(h:Q (.str (PySem.Txt.swapcase x)) st):Wl g VR (fun vs=>call (.builtin "str.swapcase") vs) [.str x] st Q:=si fun F s v r hv K E k=>by
 obtain⟨t,rfl⟩:=hv
 exact SCL.swapcase hsz fun O=>k F _ _ st _ (FM.le.refl _) (r.tok _ tp) (yA ..) h
end
end
section
theorem sG{M:Model}{E:Value→Shared→Prop}{s:Shared}{a:Addr}{Q:Option Obj→Shared→Prop}(ho:s.heap.get? a=some o)(h:Q (some o) s):wpAny M A (loadIfAlive a) Q E s:=fun Γ p O=>by
 show Sem.wp M Γ (.loadIfAlive a .pure) _ _ p s
 rw[Sem.wp_loadIfAlive,ho]
 simpa using h
abbrev qy(h:Heap)(z TI TO:Addr)(f0:Value)(b:Bool):Prop:=
 h.get? z=some {cls:= .type "zip",dict:=none,data:= .fields #[f0,.bool b,.bool false,.ref TI,.ref TO],slots:= #[] }
section
variable {prog:Program}{w:World}{A:Around}{E:Value→Shared→Prop}{s:Shared}
theorem k9{z TI TO T:Addr}{b:Bool}{Q:Bool→Shared→Prop}(hz:qy s.heap z TI TO (rawInt T) b)(hT:s.heap.get? T=some oT)(hQ:∀h',qy h' z TI TO (rawInt T) true→Heap.SameBut z s.heap h'→Q false {s with heap:=h' }):wpAny (model prog w) A (ownedTupleIsFree (.ref z)) Q E s:=by
 unfold ownedTupleIsFree
 refine E3 (ZP hz rfl (x:=rawInt T) rfl ?_)
 show wpAny _ _ (loadIfAlive (T:Int).toNat >>= _) _ _ _
 rw[Z2]
 refine E3 (sG hT ?_)
 show wpAny _ _ (field (.ref z) 1 >>= _) _ _ _
 refine E3 (ZP hz rfl (x:= .bool b) rfl ?_)
 cases b with
 | true=>exact U1 (hQ s.heap hz (Heap.SameBut.refl ..))
 | false=>
  show wpAny _ _ (setField (.ref z) 1 (.bool true) >>= _) _ _ _
  refine E3 (wpAny_setField_rec hz (by simp) fun h' Wy hs=>?_)
  exact U1 (hQ h' Wy hs)
theorem oP{z TI TO i1 i2 l1 l2 T:Addr}{b:Bool}{k1 k2:Nat}{xs ys:Array Value}{Q:Value→Shared→Prop}(D:ZipApart z TI TO i1 i2 l1 l2)(hz:qy s.heap z TI TO (rawInt T) b)(hT:s.heap.get? T=some oT)(Fk:IsPair s.heap TI (.ref i1) (.ref i2))(h1:s.heap.IsListIter i1 l1 k1)(h2:s.heap.IsListIter i2 l2 k2)(II:s.heap.IsList l1 xs)(EU:s.heap.IsList l2 ys)(hx:xs[k1]? =some x)(hy:ys[k2]? =some y)(hQ:∀h',qy h' z TI TO (rawInt T) true→h'.IsListIter i1 l1 (k1+1)→h'.IsListIter i2 l2 (k2+1)→h'.objs.size=s.heap.objs.size→
   (∀c o,c≠z→c≠i1→c≠i2→s.heap.get? c=some o→h'.get? c=some o)→Q (.ref s.heap.objs.size) {s with heap:=h'.push {cls:= .type "tuple",data:= .seq #[x,y] } }):
  wpAny (model prog w) A (Builtin.«zip.__next__» ⟨[.ref z],[]⟩) (fun fin s'=> ∃v,fin= .done (.ret v)∧Q v s') E s:=by
 show wpAny _ _ (field (.ref z) 2 >>= _) _ _ _
 refine E3 (ZP hz rfl (x:= .bool false) rfl ?_)
 show wpAny _ _ (field (.ref z) 3 >>= _) _ _ _
 refine E3 (ZP hz rfl (x:= .ref TI) rfl ?_)
 refine E3 (aat Fk rfl ?_)
 show wpAny _ _ (ownedTupleIsFree (.ref z) >>= _) _ _ _
 refine E3 (k9 hz hT fun h₁ IJ cJ=>?_)
 simp only[Zk,abq]
 refine E3 ?_
 rw[← Array.forIn_toList]
 simp only[abB,List.forIn_nil]
 refine E3 (E3 (YJ ?_))
 show wpAny _ _ (Builtin.SmallTypes.nextOf (.ref i1) >>= _) _ _ _
 refine E3 (abj (h1.extBut cJ.extBut D.i1z) (II.extBut cJ.extBut D.l1z) hx fun h₂ IK fY=>U1 (U1 ?_))
 dsimp only
 refine E3 (E3 (YJ ?_))
 show wpAny _ _ (Builtin.SmallTypes.nextOf (.ref i2) >>= _) _ _ _
 refine E3 (abj ((h2.extBut cJ.extBut D.i2z).extBut fY.extBut D.i12.symm) ((EU.extBut cJ.extBut D.l2z).extBut fY.extBut D.l2i1) hy fun h₃ Oz pB=>U1 (U1 ?_))
 dsimp only
 refine U1 ?_
 dsimp only
 refine E3 (wpAny_newTuple (hsz:=by show 2≤sizeLine;decide) ?_)
 have hsz:h₃.objs.size=s.heap.objs.size:=by rw[pB.1,fY.1,cJ.1]
 refine U1 ⟨_,rfl,?_⟩
 show Q (.ref h₃.objs.size) _
 rw[hsz]
 exact hQ h₃ (pB.extBut _ _ D.i2z.symm (fY.extBut _ _ D.i1z.symm IJ)) (IK.extBut pB.extBut D.i12) Oz hsz fun c o c1 c3 c4 e=>pB.extBut _ _ c4 (fY.extBut _ _ c3 (cJ.extBut _ _ c1 e))
theorem qz{z TI TO i1 i2 l1 l2 T:Addr}{b:Bool}{k1 k2:Nat}{xs ys:Array Value}{Q:Fin→Shared→Prop}(hh:A.handled=none)(D:ZipApart z TI TO i1 i2 l1 l2)(hz:qy s.heap z TI TO (rawInt T) b)(hT:s.heap.get? T=some oT)(Fk:IsPair s.heap TI (.ref i1) (.ref i2))(h1:s.heap.IsListIter i1 l1 k1)(h2:s.heap.IsListIter i2 l2 k2)(II:s.heap.IsList l1 xs)(EU:s.heap.IsList l2 ys)(kA:xs[k1]? =none∨ys[k2]? =none)(hE:∀h' e,(∀c o,c≠z→c≠i1→c≠i2→s.heap.get? c=some o→h'.get? c=some o)→(∃o,h'.get? e=some o∧o.cls= .type "StopIteration")→E (.ref e) {s with heap:=h' }):
  wpAny (model prog w) A (Builtin.«zip.__next__» ⟨[.ref z],[]⟩) Q E s:=by
 show wpAny _ _ (field (.ref z) 2 >>= _) _ _ _
 refine E3 (ZP hz rfl (x:= .bool false) rfl ?_)
 show wpAny _ _ (field (.ref z) 3 >>= _) _ _ _
 refine E3 (ZP hz rfl (x:= .ref TI) rfl ?_)
 refine E3 (aat Fk rfl ?_)
 show wpAny _ _ (ownedTupleIsFree (.ref z) >>= _) _ _ _
 refine E3 (k9 hz hT fun h₁ IJ cJ=>?_)
 simp only[Zk,abq]
 refine E3 ?_
 rw[← Array.forIn_toList]
 simp only[abB,List.forIn_nil]
 refine E3 (E3 (YJ ?_))
 show wpAny _ _ (Builtin.SmallTypes.nextOf (.ref i1) >>= _) _ _ _
 cases hx:xs[k1]? with
 | none=>
  refine E3 (wpAny_nextOf_list_end hh (h1.extBut cJ.extBut D.i1z) (II.extBut cJ.extBut D.l1z) hx fun h₂ e fY he=>?_)
  exact hE h₂ e (fun c o c1 c3 O x=>fY _ _ c3 (cJ.extBut _ _ c1 x)) he
 | some x=>
  have hy:ys[k2]? =none:=by rcases kA with h | h;rw[hx] at h;cases h;exact h
  refine E3 (abj (h1.extBut cJ.extBut D.i1z) (II.extBut cJ.extBut D.l1z) hx fun h₂ IK fY=>U1 (U1 ?_))
  dsimp only
  refine E3 (E3 (YJ ?_))
  show wpAny _ _ (Builtin.SmallTypes.nextOf (.ref i2) >>= _) _ _ _
  refine E3 (wpAny_nextOf_list_end hh ((h2.extBut cJ.extBut D.i2z).extBut fY.extBut D.i12.symm) ((EU.extBut cJ.extBut D.l2z).extBut fY.extBut D.l2i1) hy fun h₃ e pB he=>?_)
  exact hE h₃ e (fun c o c1 c3 c4 x=>pB _ _ c4 (fY.extBut _ _ c3 (cJ.extBut _ _ c1 x))) he
theorem gK{z TI TO i1 i2 l1 l2 T:Addr}{b:Bool}{k1 k2:Nat}{xs ys:Array Value}{Q:Option Value→Shared→Prop}(D:ZipApart z TI TO i1 i2 l1 l2)(hz:qy s.heap z TI TO (rawInt T) b)(hT:s.heap.get? T=some oT)(Fk:IsPair s.heap TI (.ref i1) (.ref i2))(h1:s.heap.IsListIter i1 l1 k1)(h2:s.heap.IsListIter i2 l2 k2)(II:s.heap.IsList l1 xs)(EU:s.heap.IsList l2 ys)(hx:xs[k1]? =some x)(hy:ys[k2]? =some y)(hQ:∀h',qy h' z TI TO (rawInt T) true→h'.IsListIter i1 l1 (k1+1)→h'.IsListIter i2 l2 (k2+1)→h'.objs.size=s.heap.objs.size→
   (∀c o,c≠z→c≠i1→c≠i2→s.heap.get? c=some o→h'.get? c=some o)→Q (some (.ref s.heap.objs.size)) {s with heap:=h'.push {cls:= .type "tuple",data:= .seq #[x,y] } }):
  wpAny (model prog w) A (pyNext (.ref z)) Q E s:=by
 have OA:s.TypeIs (.ref z) "zip":=⟨_,hz,rfl⟩
 unfold pyNext
 exact E3 (wpAny_attempt (aab (name:=Str.ofString "__next__") OA abD
  (ZJ abD OA F.entry_zip_next
   (oP D hz hT Fk h1 h2 II EU hx hy fun h' a1 a2 a3 a4 a5=>U1 (hQ h' a1 a2 a3 a4 a5)) (F.args_zip_next_1 _))))
theorem fj{z TI TO i1 i2 l1 l2 T:Addr}{b:Bool}{k1 k2:Nat}{xs ys:Array Value}{Q:Option Value→Shared→Prop}(hh:A.handled=none)(D:ZipApart z TI TO i1 i2 l1 l2)(hz:qy s.heap z TI TO (rawInt T) b)(hT:s.heap.get? T=some oT)(Fk:IsPair s.heap TI (.ref i1) (.ref i2))(h1:s.heap.IsListIter i1 l1 k1)(h2:s.heap.IsListIter i2 l2 k2)(II:s.heap.IsList l1 xs)(EU:s.heap.IsList l2 ys)(kA:xs[k1]? =none∨ys[k2]? =none)(hQ:∀h',(∀c o,c≠z→c≠i1→c≠i2→s.heap.get? c=some o→h'.get? c=some o)→Q none {s with heap:=h' }):wpAny (model prog w) A (pyNext (.ref z)) Q E s:=by
 have OA:s.TypeIs (.ref z) "zip":=⟨_,hz,rfl⟩
 unfold pyNext
 refine E3 (wpAny_attempt (aab (name:=Str.ofString "__next__") OA abD
  (ZJ abD OA F.entry_zip_next (qz hh D hz hT Fk h1 h2 II EU kA fun h' e hk he=>?_) (F.args_zip_next_1 _))))
 obtain⟨o,ho,hc⟩:=he
 refine E3 (wpAny_isInstance (T:= "StopIteration") (b:=true) ⟨o,ho,hc⟩ isSubtype_stop ?_)
 exact U1 (hQ _ hk)
end
section
variable {g:Gd}{env:Env}{st:AS}
noncomputable abbrev Kx(TI TO:Addr):Obj:= {cls:= .type "zip",dict:=none,data:= .fields #[.none,.bool false,.bool false,.ref TI,.ref TO],slots:= #[] }
noncomputable abbrev wR(a b:Value):Obj:= {cls:= .type "tuple",data:= .seq #[a,b] }
noncomputable def lH(l m:List AV):List AV:=(l.zip m).map fun p=> .tup [p.1,p.2]
noncomputable abbrev mW(z TI TO i1 i2:Addr)(l m:List AV):Mem:=[(z,.obj (Kx TI TO)),(TO,.obj (wR .none .none)),(TI,.obj (wR (.ref i1) (.ref i2))),(i2,.eO false m 0),(i1,.eO false l 0)]
theorem OB{vars mem}(h:∀z TI TO i1 i2,Q (.val (.ref z)) ⟨vars,mW z TI TO i1 i2 l m++mem⟩):Wl g VR (fun vs=>call (.type "zip") vs) [.lst l,.lst m] ⟨vars,mem⟩ Q:=Eu fun F s v u r hv hu K E k=>by
 obtain⟨a,items,n,rfl,ha,hi⟩:=hv
 obtain⟨b,df,n2,rfl,hb,zS⟩:=hu
 exact call_zip_2 ⟨_,r.hF _ _ ha,rfl,n,rfl⟩ ⟨_,r.hF _ _ hb,rfl,n2,rfl⟩ fun h' hz Fk SY ⟨o1,e1,d1⟩ ⟨o2,e2,d2⟩ hsz hk=>
  have x:RB g F vars mem {s with heap:=h' } _:=⟨r.keeps hk s.toks id,r.SW⟩
  k F _ _ _ _ (.refl _) (((((x.add (ao:= .eO false l 0) ⟨a,items,n,o1,e1,d1,ha,hi⟩).add (ao:= .eO false m 0) ⟨b,df,n2,o2,e2,d2,hb,zS⟩).add (ao:= .obj (wR (.ref s.heap.objs.size) (.ref (s.heap.objs.size+1)))) Fk).add (ao:= .obj (wR .none .none)) SY).add (ao:= .obj (Kx (s.heap.objs.size+2) (s.heap.objs.size+3))) hz).1 (ke ..) (h _ _ _ _ _)
theorem sH{i:Nat}(h:(lH l m)[i]? =some x):∃y z,l[i]? =some y∧m[i]? =some z∧.tup [y,z]=x:=by
 rw[lH,V9] at h
 cases hz:(l.zip m)[i]? with
 | none=>rw[hz] at h;cases h
 | some p=>
  rw[hz] at h
  have q:=List.getElem?_zip_eq_some.mp hz
  exact⟨p.1,p.2,q.1,q.2,YV h⟩
theorem AF{i:Nat}(h:i=(lH l m).length):i=l.length∨i=m.length:=by
 cases h.trans ((E9 _).trans aaO)
 exact(ab4 l.length m.length).imp Zp aaB
def wS(t:Expr):Prop:= ∃x pos,t= .Name x pos
inductive UO(kept:Bool)(z TI TO:Addr)(F:FM)(h:Heap):Prop
 | fresh (e:IsZip h z TI TO .none)
 | kept (hk:kept=true) (T:Addr) (b:Bool) (oT:Obj) (e:qy h z TI TO (rawInt T) b) (hT:F.f T=some oT)
inductive wT(kept:Bool)(l m:List AV)(z TI TO i1 i2:Addr)(i:Nat)(F:FM)(h:Heap):Prop
 | mk (a b:Value) (e1:UO kept z TI TO F h) (e2:IsPair h TI (.ref i1) (.ref i2)) (e3:IsPair h TO a b) (x:lC false l i1 i F h) (y:lC false m i2 i F h)
theorem Fl{P:Addr→Prop}{a b c d e:Addr}(h1:P a)(h2:P b)(h3:P c)(h4:P d)(h5:P e):∀x∈[a,b,c,d,e],P x:=
 V5.mpr ⟨h1,V5.mpr ⟨h2,V5.mpr ⟨h3,V5.mpr ⟨h4,bu h5⟩⟩⟩⟩
section
variable {a b c d e:Addr}
theorem m0:a∈[a,b,c,d,e]:= .head _
theorem m1:b∈[a,b,c,d,e]:= .tail _ (.head _)
theorem m2:c∈[a,b,c,d,e]:= .tail _ (.tail _ (.head _))
theorem m3:d∈[a,b,c,d,e]:= .tail _ (.tail _ (.tail _ (.head _)))
theorem m4:e∈[a,b,c,d,e]:= .tail _ (.tail _ (.tail _ (.tail _ (.head _))))
theorem sI{x y:Addr}(nd: [a,b,c,d,e].Nodup)(hx:x∉[a,b,c,d,e])(hy:y∉[a,b,c,d,e]):ZipApart a c b e d x y:=
 have n1:=Y9.mp nd
 have n2:=Y9.mp n1.2
 have n3:=Y9.mp n2.2
 have n4:=Y9.mp n3.2
 ⟨(ni n1.1 (.tail _ (.head _))).symm,(ni n1.1 (.head _)).symm,(ni n1.1 (.tail _ (.tail _ (.tail _ (.head _))))).symm,(ni n1.1 (.tail _ (.tail _ (.head _)))).symm,(ni n2.1 (.head _)).symm,ni n3.1 (.tail _ (.head _)),ni n3.1 (.head _),ni n2.1 (.tail _ (.tail _ (.head _))),ni n2.1 (.tail _ (.head _)),(ni n4.1 (.head _)).symm,
  ni hx m0,ni hx m1,ni hx m4,ni hx m3,ni hy m0,ni hy m1,ni hy m4,ni hy m3⟩
end
variable {kept:Bool}{l m:List AV}{z TI TO i1 i2:Addr}
theorem wT.ex{i:Nat}{F:FM}(x:wT kept l m z TI TO i1 i2 i F h):∀a∈[z,TO,TI,i2,i1],∃o,h.get? a=some o:=
 x.rec fun a b e1 e2 e3 x y=>Fl (e1.rec (fun e=> ⟨_,e⟩) fun O O O O e O=> ⟨_,e⟩) ⟨_,e3⟩ ⟨_,e2⟩ (y.rec fun O O O O e O O O=> ⟨_,e⟩) (x.rec fun O O O O e O O O=> ⟨_,e⟩)
theorem Fm(nd: [z,TO,TI,i2,i1].Nodup):yH g (.ref z) [z,TO,TI,i2,i1] (cond kept wS kB) (fun O=>True) (lH l m) (wT kept l m z TI TO i1 i2) where
 mono:=fun i F F' h h' hl he x=>x.rec fun a b e1 e2 e3 x y=> ⟨a,b,e1.rec (fun e=> .fresh ((he z m0).trans e)) fun hk T b o e hT=> .kept hk T b o ((he z m0).trans e) (hl _ _ hT),(he TI m2).trans e2,(he TO m1).trans e3,x.mono hl (he i1 m4),y.mono hl (he i2 m3)⟩
 ex:=fun i F h x=>x.ex
 self:=fun i F s O x K E k=>x.rec fun a b e1 O O O O=>e1.rec (fun e=>wpAny_pyIter_zip e k) fun O T b oT h1 O=>by
  have hT:s.TypeIs (.ref z) "zip":=⟨_,h1,rfl⟩
  exact wpAny_pyIter_slot hT PySem.F.slot_zip_iter (ZJ PySem.F.slot_zip_iter hT PySem.F.entry_zip_iter (U1 ⟨_,rfl,"zip",_,hT,PySem.F.slot_zip_next.lookup,k⟩) (PySem.F.args_zip_iter_1 _))
 next:=fun L aw i x F st s Oy O r w S hx K E E' k=>by
  obtain⟨y1,y2,g1,g2,rfl⟩:=sH hx
  have ex:=S.ex
  obtain⟨a,b,e1,e2,e3,⟨ax,items,n,o1,e4,d1,e5,e6⟩,⟨bx,df,n2,o2,e7,d2,e8,e9⟩⟩:=S
  obtain⟨v1,Nl,Ro⟩:=e6.at g1
  obtain⟨v2,UP,Rp⟩:=e9.at g2
  have na:∀ {c o},F.f c=some o→c∉[z,TO,TI,i2,i1]:=fun e hm=>oG (w.f _ hm) e
  have D:=sI nd (na e5) (na e8)
  have fin:∀(h2:Heap) a b,(∀F',F'.f s.heap.objs.size=some (fG #[v1,v2] 0)→FM.le F F'→UO kept z TI TO F' h2)→IsPair h2 TO a b→h2.IsListIter i1 ax (i+1)→h2.IsListIter i2 bx (i+1)→IsPair h2 s.heap.objs.size v1 v2→
    (∀c o,c≠z→c≠TO→c≠i1→c≠i2→s.heap.get? c=some o→h2.get? c=some o)→K (.ref s.heap.objs.size) {s with heap:=h2 }:=fun h2 a b hz SY ⟨o3,Wz,d3⟩ ⟨o4,WA,d4⟩ hT hk=>
   have G:=r.got w ex (fun c o hc e=>hk c o (ni hc m0) (ni hc m1) (ni hc m4) (ni hc m3) e) (o:=fG #[v1,v2] 0) hT s.toks id
   k _ _ _ G.1 G.2.1 G.2.2 ⟨a,b,hz _ (FM.cn ..) G.1,hk _ _ D.TIz D.TITO D.TIi1 D.TIi2 e2,SY,⟨ax,items,n,o3,Wz,d3,G.1.f _ _ e5,e6.mono G.1⟩,⟨bx,df,n2,o4,WA,d4,G.1.f _ _ e8,e9.mono G.1⟩⟩ (Rj (FM.cn ..) (dE (Ro.mono G.1) (dE (Rp.mono G.1) gd)))
  cases e1 with
  | fresh ez=>
   refine wpAny_pyNext_zip_item D ez e2 e3 ⟨o1,e4,d1⟩ ⟨o2,e7,d2⟩ ⟨_,r.hF _ _ e5,rfl,n,rfl⟩ ⟨_,r.hF _ _ e8,rfl,n2,rfl⟩ Nl UP fun h1 Rq OD uV zS UQ hsz hk=> ⟨_,rfl,?_⟩
   cases kept with
   | true=>
    obtain⟨xn,pos,rfl⟩:=Oy
    exact U1 (fin h1 _ _ (fun F' hf O=> .kept rfl _ false _ Rq hf) OD uV zS UQ hk)
   | false=>
    obtain⟨cD,kk,pos,rfl⟩:=Oy
    have WD:s.heap.objs.size≠z:=Ze (Heap.lt_size ez)
    exact wpAny_letOwnedTupleGo_zip Rq fun h2 WE Fi=>fin h2 _ _ (fun F' O O=> .fresh WE) (Fi.extBut _ _ D.TOz OD) (Heap.IsListIter.at' uV (Fi.2 _ D.i1z)) (Heap.IsListIter.at' zS (Fi.2 _ D.i2z)) ((Fi.2 _ WD).trans UQ) fun c o c1 c2 c3 c4 e=>Fi.extBut c o c1 (hk c o c1 c2 c3 c4 e)
  | kept US T bb oT hz hT=>
   cases US
   obtain⟨xn,pos,rfl⟩:=Oy
   refine gK D hz (r.hF _ _ hT) e2 ⟨o1,e4,d1⟩ ⟨o2,e7,d2⟩ ⟨_,r.hF _ _ e5,rfl,n,rfl⟩ ⟨_,r.hF _ _ e8,rfl,n2,rfl⟩ Nl UP fun h1 Rq uV zS hsz hk=> ⟨_,rfl,U1 ?_⟩
   have OE:∀c o,h1.get? c=some o→(h1.push (fG #[v1,v2] 0)).get? c=some o:=fun c o e=>Heap.get?_push_of_some _ e
   exact fin _ a b (fun F' O l=> .kept rfl T true oT (OE _ _ Rq) (l.f _ _ hT)) (OE _ _ (hk _ _ D.TOz D.TOi1 D.TOi2 e3)) (uV.imp fun O e=> ⟨OE _ _ e.1,e.2⟩) (zS.imp fun O e=> ⟨OE _ _ e.1,e.2⟩) (hsz▸Heap.get?_push_size _ rfl) fun c o c1 O c3 c4 e=>OE _ _ (hk c o c1 c3 c4 e)
 stop:=fun L i F st s O r w S hx K E k=>by
  obtain⟨a,b,e1,e2,e3,⟨ax,items,n,o1,e4,d1,e5,e6⟩,⟨bx,df,n2,o2,e7,d2,e8,e9⟩⟩:=S
  have na:∀ {c o},F.f c=some o→c∉[z,TO,TI,i2,i1]:=fun e hm=>oG (w.f _ hm) e
  have D:=sI nd (na e5) (na e8)
  have hn:items[i]? =none∨df[i]? =none:=(AF hx).imp (lX e6) (lX e9)
  have fin:∀h':Heap,(∀c o,c≠z→c≠TO→c≠i1→c≠i2→s.heap.get? c=some o→h'.get? c=some o)→K none {s with heap:=h' }:=fun h' hs=>
   have hk:=fun c o (hc:c∉[z,TO,TI,i2,i1]) e=>hs c o (ni hc m0) (ni hc m1) (ni hc m4) (ni hc m3) e;k h' hk (r.keepsBut w hk s.toks id)
  cases e1 with
  | fresh ez=>exact wpAny_pyNext_zip_end g.hh D ez e2 e3 ⟨o1,e4,d1⟩ ⟨o2,e7,d2⟩ ⟨_,r.hF _ _ e5,rfl,n,rfl⟩ ⟨_,r.hF _ _ e8,rfl,n2,rfl⟩ hn fin
  | kept US T bb oT hz hT=>exact fj g.hh D hz (r.hF _ _ hT) e2 ⟨o1,e4,d1⟩ ⟨o2,e7,d2⟩ ⟨_,r.hF _ _ e5,rfl,n,rfl⟩ ⟨_,r.hF _ _ e8,rfl,n2,rfl⟩ hn fun h' hs=>fin h' fun c o a1 O a3 a4=>hs c o a1 a3 a4
theorem AH(kept:Bool){vars mem}:cE g (.val (.ref z)) ⟨vars,mW z TI TO i1 i2 l m++mem⟩ ⟨vars,mem⟩ (cond kept wS kB) (fun O=>True) (lH l m):=fun F s v r hv K E k=>by
 cases(hv:_=_)
 have at':∀p∈mW z TI TO i1 i2 l m,kX F s.heap p.1 p.2:=fun p hp=>r.hm p (YG _ hp)
 have hz:s.heap.get? z=some (Kx TI TO):=at' _ (.head _)
 exact wpAny_pyIter_zip hz (k F _ [z,TO,TI,i2,i1] (wT kept l m z TI TO i1 i2) s (.refl _) (Fm (((List.sublist_append_left (mW z TI TO i1 i2 l m) mem).map fst).nodup r.nd)) (r.sub (aaN _ mem)) (Rep.wP (m1:=mW z TI TO i1 i2 l m) r)
  ⟨_,_,.fresh hz,at' _ (.tail _ (.tail _ (.head _))),at' _ (.tail _ (.head _)),at' _ (.tail _ (.tail _ (.tail _ (.tail _ (.head _))))),at' _ (.tail _ (.tail _ (.tail _ (.head _))))⟩)
end
end
section
mutual
noncomputable def mX:PyData→AV
 | .none=> .none
 | .bool b=> .bool b
 | .int i=> .int i
 | .str s=> .str s
 | .list xs=> .lst (mY xs)
 | .tuple xs=> .tup (mY xs)
 | .dict _=> .none
noncomputable def mY:List PyData→List AV
 | []=>[]
 | x::xs=>mX x::mY xs
end
mutual
noncomputable def noDict:PyData→Bool
 | .list xs=>noDicts xs
 | .tuple xs=>noDicts xs
 | .dict _=>false
 | .none=>true
 | .bool _=>true
 | .int _=>true
 | .str _=>true
noncomputable def noDicts:List PyData→Bool
 | []=>true
 | x::xs=>noDict x&&noDicts xs
end
mutual
theorem di{F:FM}{h:Heap}(hF:∀a o,F.f a=some o→h.get? a=some o):∀(d:PyData) (v:Value),noDict d=true→VR F (mX d) v→∃as,Reads h v d as
 | .none,_,_,e=>by cases(e:_=_);exact⟨_,.none⟩
 | .bool b,_,_,e=>by cases(e:_=_);exact⟨_,.bool b⟩
 | .int i,_,_,e=>Zf e fun t e=>e▸⟨_,.int i t⟩
 | .str i,_,_,e=>Zf e fun t e=>e▸⟨_,.str i t⟩
 | .list xs,_,hn,e=>uz.rec (motive:=fun O=> ∃as,Reads h _ (.list xs) as) (fun a items n e e1 e2=>e▸(dZ hF xs items.toList hn e2).elim fun as ha=> ⟨_,.list (hF _ _ e1) rfl rfl ha⟩) e
 | .tuple xs,_,hn,e=>uz.rec (motive:=fun O=> ∃as,Reads h _ (.tuple xs) as) (fun a items n e e1 e2=>e▸(dZ hF xs items.toList hn e2).elim fun as ha=> ⟨_,.tuple (hF _ _ e1) rfl rfl ha⟩) e
theorem dZ{F:FM}{h:Heap}(hF:∀a o,F.f a=some o→h.get? a=some o):∀(ds:List PyData) (vs:List Value),noDicts ds=true→aQ F (mY ds) vs→∃as,ReadsAll h vs ds as
 | [],_,_,e=>by cases(e:_=_);exact⟨_,.nil⟩
 | d::ds,_,hn,e=>gO.rec (motive:=fun O=> ∃as,ReadsAll h _ (d::ds) as) (fun v r e e1 e2=>e▸(di hF d v (E2.mp hn).1 e1).elim fun as ha=> (dZ hF ds r (E2.mp hn).2 e2).elim fun bs hb=> ⟨_,.cons ha hb⟩) e
end
section
variable {g:Gd}{env:Env}{st:AS}
theorem sJ(g:Gd)(h8:8≤g.n){n:Nat}(hn:n≤64):g.A.units+n<cLine:=YE (YT (E4 hn (Y6 8 h8)) _) g.hu
theorem OF{d e:PyData}(hd:noDict d=true)(he:noDict e=true)(sd:shaped d=true)(se:shaped e=true)(h8:8≤g.n)(h:Q (.bool (eqv d e)) st):W2 g VR (compareOp .Eq) (mX d) (mX e) st Q:=fun F s v u r hv hu K E k=>by
 obtain⟨as,ha⟩:=di r.hF d v hd hv
 obtain⟨bs,hb⟩:=di r.hF e u he hu
 exact PyProof.Rows.eq_dataH ha hb sd se (sJ g h8 (E8 64)) (k F _ _ st s (FM.le.refl _) r (my ..) h)
theorem OG{d e:PyData}(hd:noDict d=true)(he:noDict e=true)(sd:shaped d=true)(se:shaped e=true)(h8:8≤g.n)(h:Q (.bool (!eqv d e)) st):W2 g VR (compareOp .NotEq) (mX d) (mX e) st Q:=fun F s v u r hv hu K E k=>by
 obtain⟨as,ha⟩:=di r.hF d v hd hv
 obtain⟨bs,hb⟩:=di r.hF e u he hu
 exact PyProof.Rows.ne_dataH ha hb sd se (sJ g h8 (E8 64)) (k F _ _ st s (FM.le.refl _) r (my ..) h)
end
end
section
section
variable {g:Gd}{env:Env}{st:AS}
theorem OH{d:PyData}{xs:List PyData}(hd:noDict d=true)(he:noDicts xs=true)(sd:d.canLay0=true)(se:canLayAll0 xs=true)(SZ:d.depth≤60)(h8:8≤g.n)(h:Q (.bool (xs.any fun y=>eqv y d)) st):
  W2 g VR (compareOp .In) (mX d) (mX (.list xs)) st Q:=fun F s v u r hv hu K E k=>by
 obtain⟨as,ha⟩:=di r.hF d v hd hv
 obtain⟨bs,hb⟩:=di r.hF (.list xs) u he hu
 exact PySem.SeqAt.in_list_reads hb ha se sd (ZZ ..▸sJ g h8 (YT (E4 (abr ..) (E4 SZ (by decide:60≤63))) 1)) (k F _ _ st s (FM.le.refl _) r (my ..) h)
end
end
section
section
variable {g:Gd}{env:Env}{st:AS}
theorem Rep.sK{F:FM}(r:Rep g F st s){h':Heap}(hk:∀b o,s.heap.get? b=some o→h'.get? b=some o){a:Addr}(ha:s.heap.objs.size≤a)(e:h'.get? a=some o)(t:Nat)(Km:0<s.toks→0<t):
  Rep g (F.put a o) st {s with heap:=h',toks:=t }∧FM.le F (F.put a o)∧(F.put a o).f a=some o:=
 have h1:=aF r.hF ha
 ⟨(r.keeps hk t Km).wF e h1 (aF r.hP ha) (Ze (U2 r.J_ ha)) (fun p hp=>V2 (U2 (r.iU hp) ha)) (fun p hp=>V2 (U2 (r.iV hp) ha)),FM.ej h1,FM.cn ..⟩
theorem intsAre_of{F:FM}:∀ {ns:List Int} {vs:List Value},aQ F (ns.map .int) vs→IntsAre vs ns
 | [],_,e=>by cases(e:_=_);exact .nil
 | n::ns,_,e=>gO.rec (motive:=fun O=>IntsAre _ (n::ns)) (fun v r e e1 e2=>Zf e1 fun t h=>e▸h▸ .cons n t (intsAre_of e2)) e
theorem sL{F:FM}{vs:List Value}{ns:List Int}(h:IntsAre vs ns):aQ F (ns.map .int) vs:=by
 induction h with
 | nil=>exact gd
 | cons n t h ih=>exact dE (oH ..) ih
theorem Ky{F:FM}(r:RepM g F mem s){ns:List Int}(hv:VR F (.lst (ns.map .int)) v):∃a vs,v= .ref a∧s.heap.IsList a vs.toArray∧IntsAre vs ns:=
 uz.rec (fun a items n e h i=> ⟨a,items.toList,e,⟨_,r.hF _ _ h,rfl,n,rfl⟩,intsAre_of i⟩) hv
theorem OI{ns:List Int}(h:Q (.int ns.sum) st):Wl g VR (fun vs=>call (.builtin "sum") vs) [.lst (ns.map .int)] st Q:=si fun F s v r hv K E k=>by
 obtain⟨a,vs,rfl,hl,hi⟩:=Ky r.toRepM hv
 obtain⟨xs,hx⟩:=hi.allInts.items
 have S1:s.heap.IsList a (intItems xs):=hx▸hl
 refine b3 (sum_intListG g.hh S1 fun h' tk t' hk gS=>?_)
 have e1:ns=xs.toList.map (·.1):=by
  rw[← nums_intItems,← hx]
  exact(show numsOf vs.toArray.toList=ns from hi.numsOf).symm
 have e2:preSum (numAt xs) xs.size=ns.sum:=by
  rw[preSum_eq,Y3 (U8 ((E9 _).trans aaL)),e1]
 rw[e2]
 exact k F _ _ st _ (FM.le.refl _) (r.keeps hk tk fun O=>U2 r.tk gS) (oH ..) h
theorem OJ{ns:List Int}(j_:0<ns.length)(h:∀M,M∈ns→(∀a,a∈ns→a≤M)→Q (.int M) st):Wl g VR (fun vs=>call (.builtin "max") vs) [.lst (ns.map .int)] st Q:=si fun F s v r hv K E k=>by
 obtain⟨a,vs,rfl,hl,hi⟩:=Ky r.toRepM hv
 obtain⟨xs,e⟩:=hi.allInts.items
 have Ev:ns=xs.toList.map (·.1):=by rw[← hi.numsOf,← nums_intItems,← e]
 have hsz:0<xs.size:=by have h3:=j_;rw[Ev,E9,aaL] at h3;exact h3
 rw[e] at hl
 refine b3 (max_intList g.hh hl hsz fun v h' tk hv hk gS=>?_)
 obtain⟨t,rfl⟩:=intItems_at hv
 obtain⟨h1,h2⟩:=argBest_gt (numAt xs) (xs.size - 1)
 refine k F _ _ st _ (FM.le.refl _) (r.keeps hk tk fun O=>U2 r.tk gS) (oH ..) (h _ ?_ fun a ha=>?_)
 ·rw[Ev,numAt_eq];exact getD_mem (by rw[E9,aaL];exact Nat.lt_of_le_pred hsz h1)
 ·rw[Ev] at ha
  obtain⟨j,hj,rfl⟩:=mem_getD ha
  rw[E9,aaL] at hj
  rw[← numAt_eq];exact h2 j (Nat.le_pred_of_lt hj)
theorem AI{ns:List Int}(hsz:ns.length<64)(h:∀Fo:List Int,Fo.Perm ns→Fo.Pairwise (·≤·)→Q (.lst (Fo.map .int)) st):Wl g VR (fun vs=>call (.builtin "sorted") vs) [.lst (ns.map .int)] st Q:=si fun F s v r hv K E k=>by
 obtain⟨a,vs,rfl,hl,hi⟩:=Ky r.toRepM hv
 refine sorted_ints hl hi (by rw[hi.length];exact hsz) fun UT Fo h1 h2 h3=>?_
 obtain⟨e,he⟩:=sortedAll_at s.heap vs UT
 obtain⟨r2,l2,e2⟩:=r.sK (h':=sortedAll s.heap vs UT) (fun b o hb=>sortedAll_old hb) (abg _) he s.toks id
 exact k _ _ _ st _ l2 r2 (J7 e2 (sL h1)) (h Fo h2 h3)
theorem Kz{a b:Int}(h:Q (.int (if b > a then b else a)) st):Wl g VR (fun vs=>call (.builtin "max") vs) [.int a,.int b] st Q:=Eu fun F s v u r hv hu K E k=>by
 obtain⟨t,rfl⟩:=hv;obtain⟨t',rfl⟩:=hu
 refine b3 (max_two_ints g.hh fun h' tk hk gS=>k F _ _ st _ (FM.le.refl _) (r.keeps hk tk fun O=>U2 r.tk gS) ?_ h)
 by_cases c:b > a
 ·rw[V8 c,V8 c];exact oH ..
 ·rw[V4 c,V4 c];exact oH ..
theorem wU{a:Addr}{f:Obj→Obj}:Heap.SameBut a h (h.update a f):=⟨Array.size_modify,fun b hb=>Heap.get?_update_ne _ _ _ _ hb⟩
theorem Fp{a:Addr}{vars}(u:Upd mem a (.list l) (.list (l++m)) mem')(hsz:l.length+m.length≤1000000)(h:Q (.val (.ref a)) ⟨vars,mem'⟩):
  W2 g VR (inplaceOp .Add) (.val (.ref a)) (.lst m) ⟨vars,mem⟩ Q:=fun F s v w r hv hw K E k=>by
 cases(hv:_=_)
 obtain⟨b,df,n2,rfl,e2,zS⟩:=hw
 obtain⟨items,n,e,hi⟩:=r.hm _ u.mem
 have hz:items.size+df.size≤1000000:=by rw[hi.size,zS.size];exact hsz
 have hs:items.size+df.size≤sizeLine:=E4 hz (E1 rfl)
 have ta:s.TypeIs (.ref a) "list":=⟨_,e,rfl⟩
 unfold inplaceOp
 refine YJ ?_
 have WF:fillsInplaceSlot (.type "list") "add" (Operator.Add== .Add)=pure false:=by
  show(typeLookup (.type "list") (dunderI "add") >>= fun fi=>pure (fi.isSome&&!isSeqSlot fi))=pure false
  rw[abk.lookup];rfl
 refine E3 (wpAny_typeOf ta (E3 (acf WF ?_)))
 refine E3 (wpAny_binaryOp1_none (nm:= "add") ta ⟨_,r.hF _ _ e2,rfl⟩ noFill_list_add ?_)
 refine E3 (acf (PySem.seqSlot_of abk.lookup (by rfl)) ?_)
 refine E3 (aa4 ?_)
 exact abE abk ta PySem.F.entry_list_iadd (PySem.F.args_list_iadd_2 _ _) (AutoSeq1.list___iadd___list_list_0 a items n b df n2 (fun h=>Zd.mpr hs (U9 (E2.mp h).2)) (E4 (Y0 ..) hs) (ZG hs))
  ⟨e,r.hF _ _ e2,k F (.val (.ref a)) _ _ _ (FM.le.refl _) (r.turn u (h':=s.heap.update a (Obj.mapSeq fun x=>x++df)) wU ⟨_,_,get?_update_seq e (fun x=>x++df),aaa (xs:=items) (ys:=df)▸hi.append zS⟩ s.toks id) (ke ..) h⟩
end
end
section
section
variable {g:Gd}{env:Env}{st:AS}
theorem AJ(items:Array Value){i:Int}(h0:0≤i)(h1:i.toNat≤items.size)(v:Value):
  (have k:=if i<0 then(i+((items.size:Nat):Int)).toNat else min i.toNat items.size;(items.extract 0 k).push v++items.extract k).toList=items.toList.take i.toNat++v::items.toList.drop i.toNat:=by
 rw[(V4 (ZD.mpr h0)).trans (Zp h1),aaa,Array.toList_push,Array.toList_extract,Array.toList_extract,List.extract_eq_take_drop,List.extract_eq_take_drop,Y3 (show(items.toList.drop i.toNat).length≤items.size - i.toNat from U8 Zy),YH]
 rfl
theorem fitsIdx{i:Int}{n:Nat}(h0:0≤i)(h1:i≤n)(hn:n≤1000000):Builtin.List.listFitsIndex i=true:=
 E2.mpr ⟨U5 (aaR (by decide) h0),U5 (Int.lt_of_le_of_lt h1 (YR.mpr (YE hn (E1 rfl))))⟩
theorem AK{a:Addr}{l:List AV}{i:Int}{vars}(Rs:0≤i)(uV:i≤l.length)(u:Upd mem a (.list l) (.list (l.take i.toNat++x::l.drop i.toNat)) mem')(hsz:l.length≤1000000)(h:Q .none ⟨vars,mem'⟩):
  Wl g VR (fun vs=>call (.builtin "list.insert") vs) [.val (.ref a),.int i,x] ⟨vars,mem⟩ Q:=fun F s vs r hv K E k=>by
 obtain⟨v1,_,rfl,h1,v2,_,rfl,h2,v3,_,rfl,h3,h4⟩:=hv
 cases(h1:_=_);obtain⟨t,rfl⟩:=h2;cases(h4:_=_)
 obtain⟨items,n,e,hi⟩:=r.hm _ u.mem
 exact abE PySem.F.slot_list_insert ⟨_,e,rfl⟩ PySem.F.entry_list_insert (PySem.F.args_list_insert_3 _ _ _) (AutoListH.list_insert_list_int_val_1 a items n i t v3 (by rw[fitsIdx Rs uV hsz];exact YQ) (hi.size▸E4 hsz (E1 rfl)))
  ⟨e,k F .none _ _ _ (FM.le.refl _) (r.turn u wU ⟨_,_,get?_update_seq e _,(AJ items Rs (hi.size▸Int.toNat_le.mpr uV) v3).symm▸(hi.take _).append (dE h3 (hi.drop _))⟩ s.toks id) (un _) h⟩
inductive wV:AO→List AV→Prop
 | list (l:List AV):wV (.list l) l
 | aU (l:List AV):wV (.aU l) l
theorem Fq{F:FM}(r:RepM g F mem s){a:Addr}(hm:(a,o)∈mem)(ho:wV o l):∃items,s.heap.IsList a items∧aQ F l items.toList:=by
 cases ho with
 | list=>exact ph r hm
 | aU=>exact r.hm _ hm
theorem aQ.set{F:FM}(hv:VR F x v):∀ {l:List AV} {vs:List Value},aQ F l vs→∀j,aQ F (l.set j x) (vs.set j v)
 | [],_,e,_=>by cases(e:_=_);exact gd
 | _::_,_,e,0=>gO.rec (motive:=fun O=>aQ F _ (List.set _ 0 v)) (fun w r e h1 h2=>e▸dE hv h2) e
 | _::_,_,e,j+1=>gO.rec (motive:=fun O=>aQ F _ (List.set _ (j+1) v)) (fun w r e h1 h2=>e▸dE h1 (aQ.set hv h2 j)) e
def W3(g:Gd)(f:Value→Value→Value→Sem Unit)(x y z:AV)(st:AS)(Q:Unit→AS→Prop):Prop:=
 ∀F s v u w,Rep g F st s→VR F x v→VR F y u→VR F z w→∀(K:Unit→Shared→Prop) (E:Value→Shared→Prop),
  (∀F' b a bH s',FM.le F F'→Rep g F' bH s'→UR F' b a→Q b bH→K a s')→wpAny (model g.prog g.w) g.A (f v u w) K E s
theorem pC{a:Addr}{i:Int}{vars}(ho:wV o l)(Rs:0≤i)(uV:i<l.length)(hsz:l.length≤1000000)(u:Upd mem a o (.aU (l.set i.toNat x)) mem')(h:Q () ⟨vars,mem'⟩):
  W3 g setItem (.val (.ref a)) (.int i) x ⟨vars,mem⟩ Q:=fun F s v w z r hv hw hz K E k=>by
 cases(hv:_=_);obtain⟨t,rfl⟩:=hw
 obtain⟨items,hl,hi⟩:=Fq r.toRepM u.mem ho
 exact wpAny_setItem_list hl Rs (Int.lt_trans uV (YR.mpr (YE hsz (E1 rfl)))) (hi.size.symm▸uV) fun h' S1 hs=>k F () () _ _ (FM.le.refl _) (r.turn u hs ⟨_,S1,by rw[Array.toList_setIfInBounds];exact hi.set hz _⟩ s.toks id) trivial h
theorem sM{a:Addr}{k:Int}(hm:(a,AO.aU l)∈st.mem)(hsz:l.length≤sizeLine)(hx:bT l k=some x)(h:Q x st):
  W2 g VR getItem (.val (.ref a)) (.int k) st Q:=fun F s v u r hv hu K E kk=>by
 cases(hv:_=_);obtain⟨t,rfl⟩:=hu
 obtain⟨items,hl,hi⟩:=r.hm _ hm
 obtain⟨j,hj,hx⟩:=Aj hx
 obtain⟨v,hv,hr⟩:=hi.at hx
 exact r9 hl (hi.size▸hj) (hi.size▸hsz) hv (kk F _ _ st _ (FM.le.refl _) r hr h)
theorem sN{a:Addr}(hm:(a,AO.aU l)∈st.mem)(h:W2 g VR getItem (.val (.ref a)) y st Q)(hs:∀o i,∃uK,subscripted slice false o i=operate uK (getItem o i)):
  W2 g VR (subscriptTail aj slice) (.val (.ref a)) y st Q:=ku (fun F s v r hv=>by cases(hv:_=_);exact(r.hm _ hm).elim fun O hl=>hl.1.typeIs) slot_list_getitem.lookup h hs
theorem jG{o i pos v}(h:W0 g VR (eval o env) st fun ov aD=>W0 g VR (eval i env) aD fun iv aK=>W3 g setItem ov iv v aK Q):
  W1 g UR (assign (.Subscript o i pos) env) v st Q:=fun F s u r hv K E k=>by
 rw[assign_Subscript]
 refine E3 (YJ (h F s r _ E fun F1 ov o' aD s1 l1 r1 v1 h1=>E3 (YJ (h1 F1 s1 r1 _ E fun F2 iv i' aK s2 l2 r2 v2 h2=>?_))))
 refine E3 (Zc (E3 (YJ (h2 F2 s2 o' i' u r2 (v1.mono l2) v2 (hv.mono (l1.trans l2)) _ E fun F3 O O eu s3 l3 r3 O h3=>wpAny_release (k F3 () () eu s3 (l1.trans (l2.trans l3)) r3 trivial h3)))))
noncomputable def be(x:Str)(n:Nat):Str:=⟨(x.cps.toList.take n).toArray⟩
noncomputable def fz(x:Str)(n:Nat):Str:=⟨(x.cps.toList.drop n).toArray⟩
theorem pD(x:Str)(lo hi:Option Int)(a b:Nat)(hb:b≤x.length)(e:Builtin.Str.strSliceIndices lo hi 1 x.length=sliceRange a b 1):
  Txt.slice x lo hi=⟨((x.cps.toList.drop a).take (b - a)).toArray⟩:=by
 unfold Txt.slice
 rw[e,sliceRange_one,pick_run]
 split
 ·next hc=>
  have hc:b - a=x.cps.toList.length:=(((E9 _).trans YP).symm.trans (eq_of_beq (E2.mp hc).2))
  cases a with
  | zero=>rw[List.drop_zero,Y3 (U8 hc.symm)]
  | succ a=>
   have h0:x.cps.toList=[]:=Zb (Nat.eq_zero_of_not_pos fun h=>Z0 b (YE (E4 hb (U8 hc.symm)) (Nat.sub_lt (aaS fun q=>by rw[q,Nat.zero_sub] at hc;exact V2 h hc) (Zt a))))
   rw[h0,List.drop_nil,List.take_nil,← h0]
 ·rfl
theorem AL(x:Str){j:Int}(hj:0≤j):Txt.slice x none (some j)=be x j.toNat:=by
 rw[pD x none (some j) 0 (min j.toNat x.length) (abr _ _) (E5 (sliceRange 0 · 1) (ir hj)),List.drop_zero,Nat.sub_zero,be]
 exact E5 (fun l:List Nat=> (⟨l.toArray⟩:Str)) abv.symm
theorem uW(x:Str){j:Int}(hj:0≤j):Txt.slice x (some j) none=fz x j.toNat:=by
 rw[pD x (some j) none (min j.toNat x.length) x.length (E8 _) (E5 (sliceRange · x.length 1) (ir hj)),Y3 (show(x.cps.toList.drop (min j.toNat x.length)).length≤x.length - min j.toNat x.length from U8 Zy),fz]
 rcases ab4 j.toNat x.length with h1 | h1
 ·rw[Zp h1]
 ·rw[aaB h1,Zu (show x.cps.toList.length≤x.length from E8 _),Zu h1]
noncomputable def S3(i:Option Int):AV:=i.elim .none .int
theorem part_of{F:FM}{i:Option Int}(h:VR F (S3 i) p):∃l:Option (Int×Tok),p=partValue l∧l.map (·.1)=i:=by
 cases i with
 | none=>exact⟨none,h,rfl⟩
 | some i=>exact h.elim fun t e=> ⟨some (i,t),e,rfl⟩
theorem AM{x:Str}{lo hi:Option Int}(hsz:x.length≤sizeLine)(h:Q (.str (Txt.slice x lo hi)) st):W2 g VR getItem (.str x) (.iJ (S3 lo) (S3 hi) .none) st Q:=fun F s v u r hv hu K E k=>by
 obtain⟨b,p,q,t,rfl,e,h1,h2,h3⟩:=hu
 obtain⟨tv,rfl⟩:=hv
 obtain⟨l,rfl,rfl⟩:=part_of h1
 obtain⟨u,rfl,rfl⟩:=part_of h2
 cases(h3:_=_)
 exact b3 (wpAny_getItem_str_slice (l:=l) (u:=u) (st:=none) ⟨_,r.hF _ _ e,rfl,rfl⟩ rfl (post_val_or_str ⟨E4 (PySem.Txt.slice_le x _ _) hsz,fun t' tk gS=>k F (.str (PySem.Txt.slice x _ _)) _ st _ (FM.le.refl _) (r.tok _ fun O=>U2 r.tk gS) (yA ..) h⟩))
theorem OK{x:Str}{j:Int}(hj:0≤j)(hsz:x.length≤sizeLine)(h:Q (.str (be x j.toNat)) st):W2 g VR getItem (.str x) (.iJ .none (.int j) .none) st Q:=AM (lo:=none) (hi:=some j) hsz (AL x hj▸h)
theorem Fs{x:Str}{j:Int}(hj:0≤j)(hsz:x.length≤sizeLine)(h:Q (.str (fz x j.toNat)) st):W2 g VR getItem (.str x) (.iJ (.int j) .none .none) st Q:=AM (lo:=some j) (hi:=none) hsz (uW x hj▸h)
noncomputable def bL(n:Int):Str:=Str.ofString (toString n)
theorem yM{n:Int}(h1:n.natAbs<1000000)(h:Q (.str (bL n)) st):Wl g VR (fun vs=>call (.type "str") vs) [.int n] st Q:=si fun F s v r hv K E k=>by
 obtain⟨t,rfl⟩:=hv
 refine PySem.P.str_of_int ?_ (k F _ _ st _ (FM.le.refl _) (r.tok _ tp) (yA ..) h)
 cases e:n.natAbs with
 | zero=>decide
 | succ m=>exact(log2_lt (Nat.succ_ne_zero m)).mpr (U2 (show m+1<1000000 from e▸h1) (E4 (E1 rfl:1000000≤2 ^ 20) (abF (Zt 1) (E1 rfl))))
theorem yN{n:Int}(h0:0≤n)(h1:n<10 ^ 10)(h:Q (.int n) st):Wl g VR (fun vs=>call (.type "int") vs) [.str (bL n)] st Q:=si fun F s v r hv K E k=>by
 obtain⟨t,rfl⟩:=hv
 exact KIN.call_num h0 h1 (k F _ _ st _ (FM.le.refl _) (r.tok _ tp) (oH ..) h)
theorem OL{b c:Bool}(h:Q (.bool (b==c)) st):W2 g VR (compareOp .Is) (.bool b) (.bool c) st Q:=fun F s v u r hv hu K E k=>by
 cases(hv:_=_);cases(hu:_=_)
 exact PyProof.Rows.is_bool (k F _ _ st _ (FM.le.refl _) r (my ..) h)
end
end
section
section
variable {g:Gd}{env:Env}{st:AS}
theorem uX{pos p:Pos}{l:List Value}(h:TriplesOk l)(e:codeAmong p (l++ [rawInt pos.line,rawInt pos.col,c])=some d):codeAmong p l=some d∨d=c:=by
 fun_induction TriplesOk l with
 | case1=>
  replace e:(if((pos.line:Int)==p.line&& (pos.col:Int)==p.col)=true then some c else none)=some d:=e
  split at e
  ·exact .inr (YV e).symm
  ·cases e
 | case2 a' t b' u x rest ih=>
  replace e:(if(a'==p.line&&b'==p.col)=true then some x else codeAmong p (rest++ [rawInt pos.line,rawInt pos.col,c]))=some d:=e
  show(if(a'==p.line&&b'==p.col)=true then some x else codeAmong p rest)=some d∨_
  split at e
  ·next hc=>exact .inl ((V8 hc).trans e)
  ·next hc=>exact(ih h e).imp_left (V4 hc).trans
 | case3 l h1 h2=>exact h.elim
theorem Rep.Ft{F:FM}(r:Rep g F st s){P:Addr}{q:Str}(mP:(P,q)∈g.tabs)(hq:∀t∈g.tabs,t.1=P→t.2=q)(hx:Heap.ExtBut P s.heap h'){c':Addr}(hc:s.heap.objs.size≤c')(ec:h'.get? c'=some oc){fX:Array Value}(hP:h'.get? P=some (tableObj fX))(ht:TriplesOk fX.toList)(uH:∀pos c,codeAmong pos fX.toList=some c→dU (F.put c' oc) c q)(t:Nat)(Km:0<s.toks→0<t):Rep g (F.put c' oc) st {s with heap:=h',toks:=t }:=by
 have fP:F.P P=none:=(r.b0 _ mP).1
 have fF:F.f P=none:=(r.b0 _ mP).2.1
 have fc:F.f c'=none:=aF r.hF hc
 have pc:F.P c'=none:=aF r.hP hc
 have le:=FM.ej (o:=oc) fc
 have old:∀ {a},a<s.heap.objs.size→(F.put c' oc).f a=F.f a:=fun h=>FM.bR _ _ (V2 (U2 h hc))
 exact
 {hP:=fun a o e=>hx a o (fun x=>oG fP (x▸e)) (r.hP a o e)
  hF:=fun a o e=> (PM.rX e).elim (fun x=>x.1▸x.2▸ec) fun x=>hx a o (fun q=>oG fF (q▸x.2)) (r.hF a o x.2)
  hK:=fun a o e=>le.f _ _ (r.hK _ _ e)
  pf:=fun a o e=> (old (Heap.lt_size (r.hP a o e))).trans (r.pf a o e)
  hm:=fun p hp=>
   have x:=r.hm p hp
   let⟨_,e⟩:=x.there
   x.mono le ((hx _ _ ((r.b0 _ mP).2.2 p hp) e).trans e.symm)
  ap:=fun p hp=> ⟨(r.ap p hp).1,(old (r.iU hp)).trans (r.ap p hp).2⟩
  nd:=r.nd,tk:=Km r.tk,gens:=r.gens,os:=r.os
  tab:=fun u hu=>by
   by_cases Kc:u.1=P
   ·rw[hq u hu Kc,Kc]
    exact⟨fX,hP,ht,uH⟩
   ·have x:=r.tab u hu
    exact x.rec fun O e O O=>x.mono le ((hx _ _ Kc e).trans e.symm)
  b0:=fun u hu=> ⟨(r.b0 u hu).1,(old (r.iV hu)).trans (r.b0 u hu).2.1,(r.b0 u hu).2.2⟩
  ns:=let⟨m,x,y⟩:=r.ns;⟨m,x.extBut hx (Ne.symm (r.ft _ mP)),fun z hz=> (y z hz).mono le⟩
  nv:=r.nv
  fq:=r.fq,fH:=(old r.J_).trans r.fH
  eN:=r.eN,ft:=r.ft }
structure wW(g:Gd)(env:Env)(P:Addr)(q:Str):Prop where
 code:∃c,env.code= .ref c∧∀h:Heap,(∀a o,g.K.f a=some o→h.get? a=some o)→CodeHd h c P
 qual:env.qual++ "<lambda>" =q
 tab:(P,q)∈g.tabs
 uniq:∀t∈g.tabs,t.1=P→t.2=q
 main:mainGlobals≠P
 bi:∀h:Heap,(∀a o,g.K.f a=some o→h.get? a=some o)→h.BuiltinsAt g.gl P
theorem AN{params body scope pos P q names sn cs more}(X:wW g env P q)(e:bp g env)(N:Kn env names cs)(uO:scope=⟨.function,sn,false,false,more⟩)(hf:jC sn names cs=true)(S4:defaultsOf params env=([],[]))(h:Q (.fn ⟨"<lambda>",params,.expr body,scope⟩ q (gj cs sn [])) st):W0 g VR (eval (.Lambda params body scope pos) env) st Q:=fun F s r K E k=>by
 subst uO
 have Ay:closureFor ⟨.function,sn,false,false,more⟩ env=pure (gj cs sn []):=i0 fun x hx=>qt N hf hx
 obtain⟨c,IL,hC⟩:=X.code
 have bS:=r.bS
 have C:=hC _ bS
 obtain⟨vs,hP,Rt,uH⟩:=r.tab _ X.tab
 refine kla_eval S4 ?_
 rw[X.qual]
 cases ha:codeAmong pos vs.toList with
 | some cv=>
  refine b3 (kla_makeFunctionHit (mg:=g.gl) Ay e.globals (g.J8 _ bS) IL C hP Rt ha (X.bi _ bS) fun OM h' tk hk hsz gS=>?_)
  have x:=r.sK (fun b o e=>Heap.get?_push_of_some _ (hk b o e)) hsz (o:= {cls:= .type "function",data:= .func (kla_fn "<lambda>" q params body ⟨.function,sn,false,false,more⟩ (gj cs sn []) ((g.gl "__name__").getD .none) cv OM) }) (Heap.get?_push_size _ rfl) tk fun O=>U2 r.tk gS
  exact k _ (.fn ⟨"<lambda>",params,.expr body,_⟩ q (gj cs sn [])) _ st _ x.2.1 x.1 (NX.mk _ _ .none ((g.gl "__name__").getD .none) none cv OM rfl x.2.2 rfl ((uH _ _ ha).mono x.2.1)) h
 | none=>
  refine b3 (kla_makeFunction (mg:=g.gl) Ay e.globals (g.J8 _ bS) IL C hP Rt ha X.main (X.bi _ bS) fun c' OM h' tk hx KA oz S5 WG gS=>?_)
  obtain⟨c2,oc,fs,tq,WH,IG,hd,hv⟩:=S5
  cases WH
  have fc:F.f c'=none:=aF r.hF KA
  have cd:dU (F.put c' oc) (.ref c') q:=⟨c',oc,fs,tq,rfl,FM.cn ..,hd,hv⟩
  have r1:=r.Ft X.tab X.uniq hx KA IG WG (by rw[aaa];exact TriplesOk_snoc _ _ _ _ Rt) (fun p d ed=> (uX Rt (aaa▸ed)).elim (fun h1=> (uH _ _ h1).mono (FM.ej fc)) fun e=>e▸cd) tk fun O=>U2 r.tk gS
  have x:=r1.alloc (o:=kla_obj "<lambda>" q params body ⟨.function,sn,false,false,more⟩ (gj cs sn []) ((g.gl "__name__").getD .none) c' OM) rfl tk id
  exact k _ (.fn ⟨"<lambda>",params,.expr body,_⟩ q (gj cs sn [])) _ st _ ((FM.ej fc).trans x.2.1) x.1 (NX.mk _ _ .none ((g.gl "__name__").getD .none) none (.ref c') OM rfl x.2.2 rfl (cd.mono x.2.1)) h
end
end
section
section
variable {g:Gd}{env:Env}{st:AS}
noncomputable def d6(x:Str):List AV:=x.cps.toList.map fun c=> .str ⟨#[c]⟩
theorem Fu(x:Str)(t:Tok)(I:Addr):yH g (.ref I) [I] (fun O=>True) (fun O=>True) (d6 x) (fun i O h=>h.IsStrIter I "str_ascii_iterator" x t i) where
 mono:=fun i F F' h h' hl he e=>e.imp fun O e=> ⟨(he I (.head _)).trans e.1,e.2⟩
 ex:=fun i F h e=>bu (e.imp fun O e=>e.1)
 self:=fun i F s O e1 K E k=>wpAny_pyIter_striter_ascii e1 k
 next:=fun L aw i y F st s O O r w e1 hx K E E' k=>by
  rw[d6,V9,Array.getElem?_toList] at hx
  cases hc:x.cps[i]? with
  | none=>rw[hc] at hx;cases hx
  | some c=>
   rw[hc] at hx
   cases hx
   exact wpAny_pyNext_ascii_item e1 hc fun h' gX hs=> ⟨_,rfl,gX.elim fun o ho=>dY ho.1 ho.2.1 (by decide) (k F _ _ (FM.le.refl _) (r.keepsBut w (fun b o hb e=>hs.extBut b o (zT hb) e) (s.toks+1) tp) w gX (yA ..))⟩
 stop:=fun L i F st s O r w e1 hx K E k=>wpAny_pyNext_ascii_end g.hh e1 (aan (U8 ((E9 _).symm.trans hx.symm))) fun h' hs=>have hk:=fun b o hb e=>hs b o (zT hb) e;k h' hk (r.keepsBut w hk s.toks id)
theorem AP{x:Str}(ha:x.cps.all (· <128)=true):cE g (.str x) st st (fun O=>True) (fun O=>True) (d6 x):=fun F s v r hv K E k=>by
 obtain⟨t,rfl⟩:=hv
 exact wpAny_pyIter_ascii ha (k F _ [s.heap.objs.size] _ _ (FM.le.refl _) (Fu x t _) (r.keeps (fun b o' e=>Heap.get?_push_of_some _ e) s.toks id) (r.away (bu (E8 _))) ⟨_,Heap.get?_push_size _ rfl,rfl,rfl⟩)
theorem Fv{g:Gd}(hn:1≤g.n){f:FI}{q:Str}{fR:List (Str×Addr)}{Q:AV→Mem→Prop}{sn:List (Str×NameKind)}{more:List (Str×Const)}(eR:f.body= .expr body)(uO:f.scope=⟨.function,sn,false,false,more⟩)(S7:dh none sn fR=true)(wH:cy sn=true)(AQ:sn.lookup x=some .local)(S8:(fR.map (·.1)).Nodup)(gU:∀v doc pm an eg ct,bindArgs (J6 f q fR doc pm an eg ct) ⟨[v],[]⟩=pure [(x,v)])(h:∀(g':Gd) (L:Addr) (env:Env),cU g g'→bp g' env→Kn env sn fR→W0 g' VR (eval body env) ⟨[(x,some y)],mem⟩ fun v st=> ∃mem',mem'.Sublist st.mem∧Q v mem'):
  WC g (.fn f q fR) [y] [] [] mem Q:=by
 intro F s fv vs kvs r Kg hv gN R k
 obtain⟨nm,ps,bd,sc⟩:=f
 cases(eR:bd=_);cases(uO:sc=_)
 obtain⟨a,o,doc,pm,an,eg,ct,rfl,ho,hd,uH⟩:=Kg
 obtain⟨v,_,rfl,hv,h0⟩:=hv
 cases(h0:_=_)
 refine⟨i_ (r.hF _ _ ho) hd,kla_callFunE (body:=body) (YE (Y0 _ _) g.hd) (r.hF _ _ ho) hd rfl rfl rfl (uH.at r) (acf (gU ..) ?_)⟩
 refine wpAny_newFunctionEnv (dh.no S7) (fun z hz=>Yz.mp hz▸AQ) (fun h₁ Ev Ov=>?_) rfl
 have IM:∀b o,s.heap.get? b=some o→h₁.get? b=some o:=fun b o e=>Ov.extBut b o (V2 (Heap.lt_size e)) (Heap.get?_push_of_some _ e)
 have r1:=r.keeps IM (s.toks+1) tp
 refine⟨(g.J9 _ r.bS).keeps IM,kla_codeExpr ?_⟩
 exact h (g.callee hn s.heap.objs.size _) s.heap.objs.size _ ⟨rfl,rfl,rfl,rfl,rfl,rfl,rfl,rfl⟩ ⟨rfl,rfl,rfl,rfl⟩ (Af (cy.kn wH) rfl S8) F _
  {hP:=r1.hP,hF:=r1.hF,hK:=r1.hK,pf:=r1.pf,hm:=r1.hm,ap:=r1.ap,nd:=r1.nd,tk:=r1.tk,gens:=r1.gens,os:=r1.os,tab:=r1.tab,b0:=r1.b0
   ns:=⟨_,Ev,fun p hp=>Yz.mp hp▸⟨v,abx,hv⟩⟩
   nv:=Y9.mpr ⟨ZK,ZL⟩
   fq:=aF r.hP (E8 _),fH:=aF r.hF (E8 _)
   eN:=fun p hp=>V2 (r.iU hp),ft:=fun t ht=>V2 (r.iV ht) } _ _ fun F' b w bH s' l r' hb ⟨mem',hs,hq⟩=>k F' b w mem' s' l {r'.toRepM.sub hs with hm:=(r'.toRepM.sub hs).hm } hb hq
structure kD(g:Gd)(a:Addr)(es:Array DictEntry)(n:Nat):Prop where
 at':g.K.f a=some ⟨.type "dict",none,.dict es n,#[]⟩
 keys:KeysLit g.w.params es.toList
 lo:(a==sysModules)=false
theorem AR{F:FM}(r:RepM g F mem s){a:Addr}{es:Array DictEntry}{n:Nat}(T:kD g a es n):s.heap.MapOf (strKind g.prog g.w) a (fun k=>bf es k):=
 mapOf_K (n:=n) (K:=[(a,⟨.type "dict",none,.dict es n,#[]⟩)]) (fun b o e=>by
  rw[Y4] at e
  cases hb:b==a with
  | true=>rw[hb] at e;cases e;rw[eq_of_beq hb];exact r.bS _ _ T.at'
  | false=>rw[hb] at e;cases e) (by simp) T.keys
theorem Fw{a:Addr}{es:Array DictEntry}{n:Nat}(T:kD g a es n)(h:Q (.bool (bf es x).isSome) st):W2 g VR (compareOp .In) (.str x) (.val (.ref a)) st Q:=fun F s v u r hv hu K E k=>by
 obtain⟨t,rfl⟩:=hv;cases(hu:_=_)
 exact wpAny_in_of (strKind_is g.prog g.w x t) T.lo (AR r.toRepM T) (k F _ _ st _ (FM.le.refl _) (r.tok _ tp) (my ..) h)
theorem uY{a:Addr}{es:Array DictEntry}{n:Nat}{i:Int}{t:Tok}(T:kD g a es n)(hx:bf es x=some (.int i t))(h:Q (.int i) st)(hs:∀o i,∃uK,subscripted slice false o i=operate uK (getItem o i)):
  W2 g VR (subscriptTail aj slice) (.val (.ref a)) (.str x) st Q:=fun F s v u r hv hu K E k=>by
 obtain⟨t',rfl⟩:=hu;cases(hv:_=_)
 have hm:=AR r.toRepM T
 obtain⟨uK,e⟩:=hs (.ref a) (.str x t')
 exact tail_any hm.typeIs abX.lookup (ab5 (strKind_is g.prog g.w x t') hm hx (k F _ _ st _ (FM.le.refl _) (r.tok _ tp) (oH ..) h)) e
end
end
section
section
variable {g:Gd}{env:Env}{st:AS}
theorem yO{n:Int}(h:Q (.bool false) st):W2 g VR (compareOp .Is) (.int n) .none st Q:=kt (b:=false) (fun F v hv=>by obtain⟨t,rfl⟩:=hv;rfl) h
theorem uZ(h:Q (.bool true) st):W2 g VR (compareOp .Is) .none .none st Q:=kt (b:=true) (fun F v hv=>by cases(hv:_=_);rfl) h
theorem AT{f q fR}(h:Q (.bool false) st):W2 g VR (compareOp .Is) (.fn f q fR) .none st Q:=kt (b:=false) (fun F v hv=>by obtain⟨a,o,doc,pm,an,eg,ct,rfl⟩:=hv;rfl) h
theorem sO(h:Q (.bool false) st):W2 g VR (compareOp .IsNot) .none .none st Q:=gg (b:=true) (fun F v hv=>by cases(hv:_=_);rfl) h
theorem u0{x}(h:Q (.bool true) st):W2 g VR (compareOp .IsNot) (.str x) .none st Q:=gg (b:=false) (fun F v hv=>by obtain⟨t,rfl⟩:=hv;rfl) h
theorem u4{a:Addr}(h:Q (.bool true) st):W2 g VR (compareOp .IsNot) (.val (.ref a)) .none st Q:=gg (b:=false) (fun F v hv=>by cases(hv:_=_);rfl) h
theorem IN{x y:Str}(h:Q (.bool (decide (x.cps.toList<y.cps.toList))) st):W2 g VR (compareOp .Lt) (.str x) (.str y) st Q:=fun F s v u r hv hu K E k=>by
 obtain⟨t,rfl⟩:=hv;obtain⟨t',rfl⟩:=hu
 exact PyProof.Rows.lt_str (k F _ _ st _ (FM.le.refl _) r (my ..) h)
theorem fJ(h:Q false st):W1 g RQ truthy .none st Q:=fun F s v r hv K E k=>by
 cases(hv:_=_)
 exact PyProof.Rows.truthy_none (k F false false st s (FM.le.refl _) r rfl h)
end
end
section
structure sQ(K:FM)(C N:Addr)(mN:Str→Option Value):Prop where
 at':∀h:Heap,(∀a o,K.f a=some o→h.get? a=some o)→ClsAt h C N mN
 ga:mN "__getattribute__" =none
 gh:mN "__getattr__" =none
 sa:mN "__setattr__" =none
 hC:∃o,K.f C=some o
theorem IP{P:PM}{h:Heap}(hP:∀a o,P a=some o→h.get? a=some o){a:Addr}(e:h.get? a=none):P a=none:=by
 cases q:P a with
 | none=>rfl
 | some o=>exact(oG e (hP a o q)).elim
theorem RepM.mz{F:FM}(r:RepM g F mem s){a:Addr}(h1:F.f a=none)(h0:F.P a=none)(h3:∀p∈mem,p.1≠a)(h4:∀t∈g.tabs,t.1≠a)(EN:kX F s.heap a ao):
  RepM g F ((a,ao)::mem) s:=
 {hP:=r.hP,hF:=r.hF,hK:=r.hK,pf:=r.pf,hm:=V5.mpr ⟨EN,r.hm⟩,ap:=V5.mpr ⟨⟨h0,h1⟩,r.ap⟩
  nd:=Y9.mpr ⟨fun hm=> (U0.mp hm).elim fun p hp=>h3 p hp.1 hp.2,r.nd⟩
  tk:=r.tk,gens:=r.gens,os:=r.os,tab:=r.tab,b0:=fun p hp=> ⟨(r.b0 p hp).1,(r.b0 p hp).2.1,V5.mpr ⟨(h4 p hp).symm,(r.b0 p hp).2.2⟩⟩ }
theorem RepM.u5{g:Gd}{F:FM}{mem:Mem}{s s':Shared}(r0:RepM g F mem s){m2:Mem}(r:RepM g F (m2++mem) s'){a:Addr}{ao:AO}(e:s.heap.get? a=none)(h2:∀p∈m2,p.1≠a)(EN:kX F s'.heap a ao):RepM g F ((a,ao)::(m2++mem)) s':=
 r.mz (IP r0.hF e) (IP r0.hP e) (fun p hp=> (YZ.mp hp).elim (h2 p) fun hp q=> (r0.hm p hp).there.elim fun O x=>oG e (q▸x)) (fun t ht q=> (r0.tab t ht).rec fun O x O O=>oG e (q▸x)) EN
noncomputable def Gd.under(g:Gd)(hn:1≤g.n)(C:Addr)(vs:List Value):Gd:=
 {g with A:=g.A.under (.builtin "type.__call__" ⟨.ref C::vs,[]⟩),n:=g.n - 1,hh:=g.hh,hd:=YE (Nat.add_le_add_right (YT (E1 (by kernel_rfl!):Code.weight (.builtin "type.__call__" ⟨.ref C::vs,[]⟩)≤1) _) _) (Ix (b:=0) hn g.hd),hu:=Iy (k:=Code.cUnits (.builtin "type.__call__" ⟨.ref C::vs,[]⟩)) hn (E1 (by kernel_rfl!)) g.hu }
theorem AU{h:Heap}{x C dx:Addr}{m:Str→Option Value}(I:h.Inst x C m)(e:h.get? x=some o)(hd:o.dict=some dx):o.cls= .ref C∧(∀c,o.data≠.cls c)∧dx≠x∧h.Ns1 dx m:=by
 obtain⟨o',e',hc,hn,hx⟩:=I
 cases e.symm.trans e'
 refine⟨hc,hn,?_⟩
 rcases hx with⟨h0,_⟩ |⟨d,h1,h2,h3⟩
 ·exact(oG h0 hd).elim
 ·cases hd.symm.trans h1;exact⟨h2,h3⟩
inductive ON(h:Heap)(C N:Addr)(mN:Str→Option Value):Prop
 | mk (nm q bs sn sub col dd k0 k1 k2 k3 k5) (hC:h.get? C=some (excClassObj nm q C N bs [.type "object"] true sn sub false col dd k0 k1 k2 k3 k5 "object.__new__")) (ns:h.Ns N mN)
theorem RepM.cls{F:FM}(r:RepM g F mem s){C N:Addr}{mN:Str→Option Value}(X:sQ g.K C N mN):ON s.heap C N mN:=
 have X:=X.at' _ r.bS
 X.obj.elim fun nm h=>h.elim fun q h=>h.elim fun bs h=>h.elim fun sn h=>h.elim fun sub h=>h.elim fun col h=>h.elim fun dd h=>h.elim fun k0 h=>h.elim fun k1 h=>h.elim fun k2 h=>h.elim fun k3 h=>h.elim fun k5 h=> ⟨nm,q,bs,sn,sub,col,dd,k0,k1,k2,k3,k5,h,X.ns⟩
inductive OO(K:Value→Shared→Prop)(x:Value)(r:Result)(s:Shared):Prop
 | mk (e:r= .ok (.ret .none)) (k:K x s)
section
variable {g:Gd}{env:Env}{st:AS}
theorem pE(hn:1≤g.n){C N fI:Addr}{mN:Str→Option Value}{vars:cI}(X:sQ g.K C N mN)(hi:mN "__init__" =some (.ref fI))(hf:∃o,g.K.f fI=some o∧o.cls= .type "function")(h:∀x dx vs,WC (g.under hn C vs) (.val (.ref fI)) (.val (.ref x)::xs) [] [] ((x,.shell C dx)::(dx,.inst .none [])::mem) fun v m=>v= .none∧Q (.val (.ref x)) ⟨vars,m⟩):
  bB g (.val (.ref C)) xs [] [] ⟨vars,mem⟩ Q:=by
 intro F s f vs kvs r Kg hv gN K E k
 cases(Kg:_=_);cases(gN:_=_)
 obtain⟨P',_,r',oM⟩:=r.uD
 obtain⟨nm,q,bs,sn,sub,col,dd,k0,k1,k2,k3,k5,hC,ns⟩:=r.toRepM.cls X
 obtain⟨oI,WI,WJ⟩:=hf
 refine⟨⟨true,fun A Q E hq=>?_⟩,?_⟩
 ·unfold keeperOf
  exact E3 (wpAny_load hC (E3 (wpAny_specialOf (T:= "type") ⟨_,hC,rfl⟩ PySem.tc_lookup (U1 hq))))
 ·obtain⟨hh,gs,d,t,os⟩:=s
  refine wpAny_call_obj_init PySem.F.objNew hC ns hi (r.bS _ _ WI) WJ fun h' x dx Mk=>?_
  obtain⟨ox,hx,_⟩:=id Mk.inst
  have UU:=Mk.dict ox hx
  have I:=AU Mk.inst hx UU
  have r3:=r'.u5 (m2:=[]) (r'.keeps (h':=h') Mk.keeps t id) (ao:= .inst .none []) Mk.newD (fun O hp=>nomatch hp) ⟨_,I.2.2.2,fun y=>rfl⟩
  have r4:=r'.u5 (m2:=[(dx,.inst .none [])]) r3 (ao:= .shell C dx) Mk.newX (V5.mpr ⟨I.2.2.1,fun O hp=>nomatch hp⟩) (kg.mk ox hx I.1 I.2.1 UU I.2.2.1)
  have key:=h x dx vs ⟨P',F.f⟩ _ (.ref fI) (.ref x::vs) [] {hP:=r4.hP,hF:=r4.hF,hK:=r4.hK,pf:=r4.pf,hm:=r4.hm,ap:=r4.ap,nd:=r4.nd,tk:=r4.tk,gens:=r4.gens,os:=r4.os,tab:=r4.tab,b0:=r4.b0 } (ke ..) (dE (ke ..) (hv.uB (F:=F) (G:=⟨P',F.f⟩) rfl)) gd (OO K (.ref x)) fun F' y v mem' s' l r6 hy hq=>by
   obtain⟨rfl,hq⟩:=hq
   cases(hy:_=_)
   exact⟨rfl,k ⟨F.P,F'.f⟩ _ _ _ s' ⟨rfl,l.f⟩ (oM F' mem' s' l {hP:=r6.hP,hF:=r6.hF,hK:=r6.hK,pf:=r6.pf,hm:=r6.hm,ap:=r6.ap,nd:=r6.nd,tk:=r6.tk,gens:=r6.gens,os:=r6.os,tab:=r6.tab,b0:=r6.b0 }) (ke ..) hq⟩
  exact wpAny_call (ab3 key.2 fun r s' hr=>by obtain⟨rfl,k⟩:=hr;exact⟨rfl,k⟩)
theorem u6{F:FM}(r:RepM g F mem s){x dx C:Addr}{vs:List (Str×AV)}(h1:(x,AO.shell C dx)∈mem)(h2:(dx,AO.inst .none vs)∈mem):∃m,s.heap.Inst x C m∧(∀y,uA F (vs.lookup y) (m y)):=
 Zx (fun m hm=> ⟨kg.rec (motive:=fun O=>s.heap.Inst x C m) (fun o e hc S7 hd j_=> ⟨o,e,hc,S7,.inr ⟨dx,hd,j_,hm.1⟩⟩) (r.hm _ h1),hm.2⟩) (r.hm _ h2)
theorem pF{C N x dx:Addr}{mN:Str→Option Value}{vs:List (Str×AV)}(X:sQ g.K C N mN)(h1:(x,AO.shell C dx)∈st.mem)(h2:(dx,AO.inst .none vs)∈st.mem)(hv:vs.lookup name=some v)(S9:mN name=none)(hB:typeLookup (.type "object") name=pure none)(hh:∀F w,VR F v w→handedOut w=pure w)(h:Q v st):W1 g VR (fun o=>getAttr o name true) (.val (.ref x)) st Q:=fun F s u r hu K E k=>by
 cases(hu:_=_)
 obtain⟨m,I,hy⟩:=u6 r.toRepM h1 h2
 obtain⟨w,hw,hr⟩:uA F (some v) (m name):=hv▸hy name
 obtain⟨nm,q,bs,sn,sub,col,dd,k0,k1,k2,k3,k5,hC,ns⟩:=r.toRepM.cls X
 obtain⟨Ru,gs,d,t,os⟩:=s
 exact load_attr hC ns X.ga S9 hB I hw (hh F w hr) (k F _ _ st _ (FM.le.refl _) (r.tok _ tp) hr h)
theorem AW{aj sR pos}(h:W0 g VR (eval aj env) st fun o aD=>W1 g VR (fun o=>getAttr o sR true) o aD Q)(he:eval (.Attribute aj sR pos) env=(do
   let o ← eval aj env
   standAt pos.atName
   let r ← holding [o] (getAttr o sR true)
   letTemporaryGo aj o r
   pure r)):W0 g VR (eval (.Attribute aj sR pos) env) st Q:=fun F s r K E k=>
 Attribute_any_ (h F s r _ E fun F1 o ov aD s1 l1 r1 v1 h1=>h1 F1 s1 ov r1 v1 K E fun F2 a b aK s2 l2 r2 v2 h2=>k F2 a b aK s2 (l1.trans l2) r2 v2 h2) he
theorem i3{o sR mD aj pos}(h:W0 g VR (eval aj env) st fun v aD=>W0 g VR (eval o env) aD fun ov aK=>W2 g UR (fun o w=>setAttr o sR w) ov v aK fun O eu=>Q .next eu)(hs:swapsWith aj (some (.Attribute o sR mD)) pos.line env=pure false):W0 g FR (exec (.Assign [.Attribute o sR mD] aj pos) env) st Q:=fun F s r K E k=>
 plainObj_wpAny_Assign_Attribute (h F s r _ E fun F1 v w aD s1 l1 r1 v1 h1=>h1 F1 s1 r1 _ E fun F2 ov u aK s2 l2 r2 v2 h2=>h2 F2 s2 u w r2 v2 (v1.mono l2) _ E fun F3 O O eu s3 l3 r3 O h3=>
  k F3 .next .next eu s3 (l1.trans (l2.trans l3)) r3 rfl h3) hs
theorem mZ{C N x dx f:Addr}{mN:Str→Option Value}{y:Option Value}{vs:List (Str×AV)}(X:sQ g.K C N mN)(h1:(x,AO.shell C dx)∈st.mem)(h2:(dx,AO.inst .none vs)∈st.mem)(hf:mN name=some (.ref f))(WK:∃o,g.K.f f=some o∧o.cls= .type "function")(WL:vs.lookup name=none)(hB:typeLookup (.type "object") name=pure y):eQ g (.val (.ref x)) name (.val (.ref f)) [.val (.ref x)] st:=fun F s u pl r hu K E k=>by
 cases(hu:_=_)
 obtain⟨m,I,hy⟩:=u6 r.toRepM h1 h2
 have hm:uA F none (m name):=WL▸hy name
 obtain⟨nm,q,bs,sn,sub,col,dd,k0,k1,k2,k3,k5,hC,ns⟩:=r.toRepM.cls X
 obtain⟨of,WM,WN⟩:=WK
 have S_:=r.bS _ _ WM
 obtain⟨Ru,gs,d,t,os⟩:=s
 exact method_of hC ns X.ga X.gh hf S_ WN hB I hm (k F _ _ _ (FM.le.refl _) r (ke ..) (dE (ke ..) gd))
end
end
section
open Builtin.Re
theorem m6:PlainAttrs "re.Pattern":=
 ⟨⟨"object.__getattribute__",by rw[ZV,Zj];kernel_rfl,by decide+kernel⟩,by rw[ZV,Zj];kernel_rfl⟩
theorem gD:Slot "re.Pattern" "search" "re.Pattern.search":=
 .of (owner:= "re.Pattern") (n:= "search") (by rw[ZV,Zj];kernel_rfl) (by decide+kernel) (by decide+kernel) (by decide+kernel)
  (by first | exact .inl (by decide+kernel) | exact .inr (by decide+kernel)) (by rw[isSubtype_type];kernel_rfl)
theorem lI:typeOf (.builtin "re.Pattern.search")=pure (.type "method_descriptor"):=by show builtinType _=_;rw[builtinType_eq_fast];kernel_rfl
theorem kE:entryFor table "re.Pattern.search" =some Builtin.«re.Pattern.search»:=entryFor_of_tree (by kernel_rfl)
theorem lJ(a b:Value):argsOk "re.Pattern.search" ⟨[a,b],[]⟩:=by unfold argsOk;kernel_rfl
noncomputable def ey:Nat→Sre.M→Sre.M
 | 0,m=>m
 | k+1,m=>if(m.runFor reTurnSteps).outcome.isSome then m.runFor reTurnSteps else ey k (m.runFor reTurnSteps)
section
variable {M:Model}{A:Around}{E:Value→Shared→Prop}{s:Shared}
theorem qB:∀(k t:Nat) (m:Sre.M) (Q:Sre.M→Shared→Prop),(ey (k+1) m).outcome.isSome=true→Q (ey (k+1) m) s→wpAny M A (reDrive (t+k+1) m) Q E s:=fun k=>by
 induction k with
 | zero=>
  intro t m Q h q
  unfold reDrive
  by_cases hc:(m.runFor reTurnSteps).outcome.isSome=true
  ·have e:ey 1 m=m.runFor reTurnSteps:=V8 hc
   rw[V8 hc]
   exact U1 (e▸q)
  ·have e:ey 1 m=m.runFor reTurnSteps:=V4 hc
   exact absurd (e▸h) hc
 | succ k ih=>
  intro t m Q h q
  show wpAny M A (reDrive ((t+k+1)+1) m) Q E s
  unfold reDrive
  by_cases hc:(m.runFor reTurnSteps).outcome.isSome=true
  ·have e:ey (k+2) m=m.runFor reTurnSteps:=V8 hc
   rw[V8 hc]
   exact U1 (e▸q)
  ·have e:ey (k+2) m=ey (k+1) (m.runFor reTurnSteps):=V4 hc
   rw[V4 hc]
   exact E3 (aa4 (ih t _ Q (e▸h) (e▸q)))
theorem g5(f:Nat→Bool)(Ta:Nat→String){Q:Unit→Shared→Prop}:∀l:List Nat,Q () s→wpAny M A (forIn l PUnit.unit fun i O=>if f i=true then(rule (Ta i) >>= fun O=>pure (ForInStep.yield PUnit.unit)) else pure (ForInStep.yield PUnit.unit)) Q E s
 | [],q=>U1 q
 | i::l,q=>by
  rw[abB]
  refine E3 ?_
  by_cases hc:f i=true
  ·rw[V8 hc];exact E3 (aa4 (U1 (g5 f Ta l q)))
  ·rw[V4 hc];exact U1 (g5 f Ta l q)
noncomputable def AX(code:List Nat)(x:Str):Sre.M:=Sre.forSearch code.toArray x.cps 0 0 x.length false
noncomputable def lY(code:List Nat)(x:Str):Bool:=match(ey 40 (AX code x)).outcome with
 | some .failed=>true
 | _=>false
inductive u7(K:FM)(p:Addr)(code:List Nat):Prop
 | mk (fs:Array Value) (T:Addr) (ws:Array Value) (n:Nat) (h1:K.f p=some {cls:= .type "re.Pattern",data:= .fields fs }) (h2:fs.getD 5 .none= .ref T) (h3:reRawNat (fs.getD 2 .none)=0) (h4:reRawNat (fs.getD 6 .none)=0)
  (h5:K.f T=some (fG ws n)) (h6:(ws.map reRawOf).map (·.toNat)=code.toArray)
theorem yP:∀ {o:Option Sre.Outcome},(match o with | some .failed=>true | _=>false)=true→o=some .failed
 | some .failed,_=>rfl
theorem u8{K:FM}{code:List Nat}{p:Addr}{x:Str}{t:Tok}{Q:Fin→Shared→Prop}(hK:∀a o,K.f a=some o→s.heap.get? a=some o)(hp:u7 K p code)(hsz:x.length<1000000)(hf:lY code x=true)(h:Q (.done (.ret .none)) s):
  wpAny M A (Builtin.«re.Pattern.search» ⟨[.ref p,.str x t],[]⟩) Q E s:=by
 obtain⟨fs,T,ws,n,h1,h2,h3,h4,h5,h6⟩:=hp
 unfold Builtin.«re.Pattern.search» reTarget
 refine E3 ?_
 show wpAny _ _ (reNamed "re.Pattern.search" "search" ["string","pos","endpos"] 1 [.str x t] [] >>= _) _ _ s
 have e1:reNamed "re.Pattern.search" "search" ["string","pos","endpos"] 1 [.str x t] []=pure [some (.str x t),none,none]:=by kernel_rfl!
 rw[e1]
 refine E3 (U1 ?_)
 refine E3 (U1 (E3 (U1 ?_)))
 refine E3 (wpAny_fieldsOf (hK _ _ h1) rfl ?_)
 refine E3 (m:=reTextOf (.str x t)) (E3 (U1 (U1 ?_)))
 simp only[h4,h2,h3]
 rw[V4 (by decide),V4 (by decide)]
 refine E3 (U1 ?_)
 refine E3 (E3 (aat (hK _ _ h5) rfl (U1 ?_)))
 refine U1 ?_
 show wpAny M A (reAnswer _ (Sre.forSearch ((ws.map reRawOf).map fun x=>x.toNat) x.cps 0 (min (toNat 0) x.cps.size) (min (2 ^ 63 - 1:Int).toNat x.cps.size) false)) Q E s
 have e2:min (toNat 0) x.cps.size=0:=Nat.zero_min _
 have e3:min (2 ^ 63 - 1:Int).toNat x.cps.size=x.length:=aaB (E4 (Yy hsz) (E1 rfl))
 rw[h6,e2,e3]
 unfold reAnswer reRunToEnd
 have ho:=yP hf
 unfold AX at ho
 generalize Sre.forSearch code.toArray x.cps 0 0 x.length false=mm at ho ⊢
 have e4:(2 ^ 64:Nat)=(2 ^ 64 - 40)+39+1:=by decide
 refine E3 (E3 ?_)
 rw[e4]
 refine qB 39 _ mm _ (by rw[ho];rfl) ?_
 refine E3 (aaA (g5 (fun i=> (ey 40 mm).seen.has i) (fun i=>Sre.names.getD i "") _ ?_) (fun O O q=>q) fun O O e=>e)
 show wpAny M A (match(ey 40 mm).outcome with
  | some .matched=>pure (some (ey 40 mm))
  | some .failed=>pure none
  | some (.stuck why)=>unsupported s!"_sre:{why}"
  | none=>unsupported "internal:sre:no-outcome") _ E s
 rw[ho]
 exact U1 (U1 h)
end
section
variable {g:Gd}{env:Env}{st:AS}
theorem IQ{p:Addr}{code:List Nat}(hp:u7 g.K p code):eQ g (.val (.ref p)) "search" (.val (.builtin "re.Pattern.search")) [.val (.ref p)] st:=fun F s v pl r hv K E k=>by
 cases(hv:_=_)
 obtain⟨fs,T,ws,n,h1⟩:=hp
 have e:=r.bS _ _ h1
 exact aao ⟨_,e,rfl⟩ m6 gD lI (fun b eb=>by cases eb;exact⟨_,e,rfl⟩) (k F _ _ s (FM.le.refl _) r (ke ..) (dE (ke ..) gd))
theorem sS{p:Addr}{code:List Nat}{x:Str}(hp:u7 g.K p code)(hsz:x.length<1000000)(hf:lY code x=true)(h:Q .none st):Wl g VR (fun vs=>call (.builtin "re.Pattern.search") vs) [.val (.ref p),.str x] st Q:=Eu fun F s v u r hv hu K E k=>by
 cases(hv:_=_);obtain⟨t,rfl⟩:=hu
 obtain⟨fs,T,ws,n,h1⟩:=id hp
 refine ZJ gD ⟨_,r.bS _ _ h1,rfl⟩ kE ?_ (lJ _ _)
 exact u8 r.bS hp hsz hf ⟨_,rfl,k F _ _ st _ (FM.le.refl _) r (un _) h⟩
theorem pG{n:String}(hT:∀F s v,Rep g F st s→VR F x v→s.TypeIs v n)(hn:(Value.type n==Value.type "builtin_function_or_method")=false)(h:Q (.val (.type n)) st):Wl g VR (fun vs=>call (.type "type") vs) [x] st Q:=si fun F s v r hv K E k=>
 PySem.call_type_of (hT F s v r hv) hn (k F _ _ st _ (FM.le.refl _) r (ke ..) h)
theorem IR{a b:String}(h:Q (.bool (Value.type a==Value.type b)) st):W2 g VR (compareOp .Is) (.val (.type a)) (.val (.type b)) st Q:=fun F s v u r hv hu K E k=>by
 cases(hv:_=_);cases(hu:_=_)
 exact U1 (k F (.bool _) _ st _ (FM.le.refl _) r (my ..) h)
theorem AY{a b:String}(h:Q (.bool (!(Value.type a==Value.type b))) st):W2 g VR (compareOp .IsNot) (.val (.type a)) (.val (.type b)) st Q:=fun F s v u r hv hu K E k=>by
 cases(hv:_=_);cases(hu:_=_)
 exact U1 (k F (.bool _) _ st _ (FM.le.refl _) r (my ..) h)
theorem wX(prog:Program)(w:World){h:Heap}{d:Addr}(e:h.get? d=some emptyDict):h.DictAt (strKind prog w) d [] 0:=
 ⟨_,#[],e,⟨rfl,rfl,rfl⟩,rfl,(fun e he=>nomatch he),.nil,ZL⟩
theorem KB{d:Addr}(hm:(d,AO.obj emptyDict)∈st.mem):eQ g (.val (.ref d)) "items" (.val (.builtin "dict.items")) [.val (.ref d)] st:=fun F s v pl r hv K E k=>by
 cases(hv:_=_)
 have e:s.heap.get? d=some emptyDict:=r.hm _ hm
 exact aao ⟨_,e,rfl⟩ PySem.F.plainAttrs_dict PySem.F.slot_dict_items PySem.F.type_dict_items (fun b eb=>by cases eb;exact⟨_,e,rfl⟩) (k F _ _ s (FM.le.refl _) r (ke ..) (dE (ke ..) gd))
noncomputable abbrev kF(d:Addr):Obj:= {cls:= .type "dict_items",data:= .fields #[.ref d] }
theorem Fx{d:Addr}{vars:cI}(Tb:∃o,g.K.f sysModules=some o)(hm:(d,AO.obj emptyDict)∈mem)(h:∀v,Q (.val (.ref v)) ⟨vars,(v,.obj (kF d))::mem⟩):Wl g VR (fun vs=>call (.builtin "dict.items") vs) [.val (.ref d)] ⟨vars,mem⟩ Q:=si fun F s v r hv K E k=>by
 cases(hv:_=_)
 have e:s.heap.get? d=some emptyDict:=r.hm _ hm
 have hd:(d==sysModules)=false:=by
  obtain⟨o,ho⟩:=Tb
  exact Zs.mpr fun q=>oG (r.ap _ hm).2 (show F.f d=_ from q▸r.hK _ _ ho)
 have hD:s.heap.DictOf (strKind g.prog g.w) d []:=⟨_,#[],0,e,⟨rfl,rfl,rfl⟩,rfl,(fun e he=>nomatch he),.nil,ZL⟩
 refine call_meetsIn PySem.F.slot_dict_items ⟨_,e,rfl⟩ PySem.F.entry_dict_items (PySem.F.args_dict_items_1 _) (meets_dict_items (strKind g.prog g.w) d hd) ⟨⟨[],hD⟩,?_⟩
 exact k F _ _ _ _ (FM.le.refl _) (r.js (o:=kF d) (ao:= .obj (kF d)) rfl s.toks (fun h e=>e) id) (ke ..) (h _)
theorem iM:entryFor table "dict_itemiterator.__iter__" =some Builtin.«dict_keyiterator.__iter__»:=entryFor_alias (id':= "dict_keyiterator.__iter__") (by kernel_rfl) rfl (by decide+kernel) (by kernel_rfl)
theorem u9(d it:Addr):yH g (.ref it) [it] (fun O=>True) (fun mem=> (d,AO.obj emptyDict)∈mem) [] (fun i O h=>IsItemIter h it d i 0 0 .none .none) where
 mono:=fun i F F' h h' hl he e1=> (he it (.head _)).trans e1
 ex:=fun i F h e=>bu ⟨_,e⟩
 self:=fun i F s O e1 K E k=>by
  refine wpAny_pyIter_slot (T:= "dict_itemiterator") ⟨_,e1,rfl⟩ aa5 (ZJ aa5 ⟨_,e1,rfl⟩ iM ?_ (PySem.F.args_dict_itemiterator_iter_1 _))
  exact U1 ⟨_,rfl,"dict_itemiterator",_,⟨_,e1,rfl⟩,PySem.F.slot_dict_itemiterator_next.lookup,k⟩
 next:=fun L aw i x F st s O hm r w e1 hx K E E' k=>nomatch hx
 stop:=fun L i F st s hm r w e1 hx K E k=>by
  have e:s.heap.get? d=some emptyDict:=r.hm _ hm
  exact wpAny_pyNext_items_end (knd:=strKind g.prog g.w) (kvs:=[]) g.hh e1 (wX g.prog g.w e) rfl fun h' hs=>have hk:=fun b o hb e=>hs b o (zT hb) e;k h' hk (r.keepsBut w hk s.toks id)
theorem sT{v d:Addr}(h1:(v,AO.obj (kF d))∈st.mem)(h2:(d,AO.obj emptyDict)∈st.mem):cE g (.val (.ref v)) st st (fun O=>True) (fun mem=> (d,AO.obj emptyDict)∈mem) []:=fun F s u r hv K E k=>by
 cases(hv:_=_)
 have e1:s.heap.get? v=some (kF d):=r.hm _ h1
 have e2:s.heap.get? d=some emptyDict:=r.hm _ h2
 refine wpAny_pyIter_items (knd:=strKind g.prog g.w) (kvs:=[]) ⟨_,e1,rfl,rfl⟩ (wX g.prog g.w e2) ?_
 have r2:=r.keeps (h':=s.heap.push {cls:= .type "dict_itemiterator",data:= .fields #[.none,.bool false,.ref d,.int 0 0,.int 0 0,.int 0 0,.none,.none] }) (fun b o' e=>Heap.get?_push_of_some _ e) s.toks id
 exact k F _ [s.heap.objs.size] _ _ (FM.le.refl _) (u9 d _) r2 (r.away (bu (E8 _))) (Heap.get?_push_size _ rfl)
theorem Fy{rS x:Str}{a:Addr}(hm:(a,AO.list [.str x])∈st.mem)(h1:x.length<1000000)(h2:rS.length<1000000)(h:Q (.str x) st):Wl g VR (fun vs=>call (.builtin "str.join") vs) [.str rS,.val (.ref a)] st Q:=Eu fun F s v u r hv hu K E k=>by
 obtain⟨t,rfl⟩:=hv;cases(hu:_=_)
 obtain⟨⟨items⟩,hl,hi⟩:=ph r.toRepM hm
 obtain⟨w,_,e1,⟨tx,rfl⟩,e2⟩:=hi
 cases(e2:_=_);cases(e1:items=_)
 exact abE aby (abA s rS t) PySem.F.entry_str_join (PySem.F.args_str_join_2 _ _) (meets_str_join_list rS t a [(x,tx)] (show decide (0+x.length+rS.length > sizeLine)=false from U4 (Zd.mpr (E4 (aau (show 0+x.length≤1000000 from(Zw x.length).symm▸Yy h1) (Yy h2)) (E1 rfl:1000000+1000000≤sizeLine))))) ⟨hl,k F (.str x) _ st _ (FM.le.refl _) r (yA ..) h⟩
end
end
section
theorem wY{F:FM}(hv:VR F y v):∀ {as:List (Str×AV)} {bs:List (Str×Value)},BR F as bs→BR F (as++ [(x,y)]) (bs++ [(x,v)])
 | [],_,e=>by cases(e:_=_);exact⟨v,_,rfl,hv,rfl⟩
 |(n,z)::r,_,e=>by
  obtain⟨u,t,rfl,h1,h2⟩:=e
  exact⟨u,_,rfl,h1,wY hv h2⟩
theorem KC{g:Gd}(hn:1≤g.n){a:Addr}{f:FI}{qual:Str}{dV kV:Value}{xs:List AV}{kn:List Str}{fw:List AV}{mem:Mem}{Q:AV→Mem→Prop}(hf:FnAt g.K a f qual dV kV)
  (kw:Str) (as:List (Str×AV)) (ls:Addr→cI) (body:List Stmt) (eR:f.body= .stmts body)
  (gU:∀(F:FM) (s:Shared) vs kvs doc pm an eg ct,aQ F xs vs→aQ F fw kvs→∃bs,bindArgs (fnX f.name qual f.params body f.scope [] dV kV doc pm an eg ct) ⟨vs,kn.zip kvs⟩=(alloc emptyDict >>= fun d=>pure (bs++ [(kw,.ref d)]))∧BR F as bs)
  (oy:List (Str×NameKind)) (wH:kr f.scope.names oy=true)
  (gT:∀d:Addr,((as++ [(kw,AV.val (.ref d))]).all fun x=>decide (f.scope.names.lookup x.1=some .local)||decide (f.scope.names.lookup x.1=some .cell))=true)
  (Nh:∀d,((ls d).map fun p=> (p.1,ki (f.scope.names.lookup ·) (as++ [(kw,AV.val (.ref d))]) (fun O=>none) p.1))=ls d) (Ag:∀d,decide (((ls d).map (·.1)).Nodup)=true) (Ah:decide (((cellsFrom 0 f.scope.names []).map (·.1)).Nodup)=true)
  (h:∀(g':Gd) L d env,cU g g'→bp g' env→Kn env oy (cellsFrom (L+1) f.scope.names [])→(∀x,env.kindOf x=f.scope.names.lookup x)→qn g a env→
   W0 g' FR (execs body env) ⟨ls d,cp (cellsFrom (L+1) f.scope.names []) (kj (f.scope.names.lookup ·) (as++ [(kw,AV.val (.ref d))]) fun O=>none)++((d,.obj emptyDict)::mem)⟩ (Ends mem Q))
  (SC:f.scope.isCoroutine=false) (Kf:f.scope.isGenerator=false) (hk:f.scope.kind= .function):WC g (.val (.ref a)) xs kn fw mem Q:=by
 intro F s fv vs kvs r Kg hv gN R k
 cases(Kg:_=_)
 obtain⟨o,N4,doc,pm,an,eg,ct,SD,ho,hd,uH⟩:=hf
 cases eR.symm.trans SD
 obtain⟨bs,SF,Kd⟩:=gU F s vs kvs doc pm an eg ct hv gN
 refine⟨i_ (r.bS _ _ ho) hd,codeAny_call_function (YE (Y0 _ _) g.hd) (r.bS _ _ ho) hd SC Kf rfl ((uH.UF r).at r) ?_⟩
 rw[SF]
 refine E3 (wpAny_alloc (U1 ?_))
 have r1:=r.u5 (m2:=[]) (r.keeps (h':=s.heap.push emptyDict) (fun b o' e=>Heap.get?_push_of_some _ e) s.toks id) (a:=s.heap.objs.size) (ao:= .obj emptyDict) (Option.eq_none_iff_forall_ne_some.mpr fun O e=>Z0 _ (Heap.lt_size e)) (fun O hp=>nomatch hp) (Heap.get?_push_size _ rfl)
 exact r7 hn r1 (wY (ke ..) Kd) hk wH (gT _) (Nh _) (Ag _) Ah (fun g' env b e N kd h1 h2=>h g' _ _ env b e N kd ⟨o,_,ho,hd,h1,h2⟩) k
end
section
inductive g7:AV→Prop
 | none:g7 .none
 | bool (b:Bool):g7 (.bool b)
 | int (i:Int):g7 (.int i)
 | str (x:Str):g7 (.str x)
section
variable {g:Gd}{env:Env}{st:AS}
theorem jH{e pos}(h:W0 g VR (eval e env) st fun v aD=>g7 v∧Q .next aD)(hi:interactive env=false)(hs:swapsWith e none pos.line env=pure false):
  W0 g FR (exec (.Expr e pos) env) st Q:=fun F s rr K E k=>wpAny_Expr (h F s rr _ E fun F1 a u aD s1 l1 r1 v1 h1=>by
   obtain⟨hn,h1⟩:=h1
   have key:=k F1 .next .next aD s1 l1 r1 rfl h1
   cases hn with
   | none=>cases(v1:_=_);exact key
   | bool b=>cases(v1:_=_);exact key
   | int i=>obtain⟨t,rfl⟩:=v1;exact key
   | str x=>obtain⟨t,rfl⟩:=v1;exact key) hi hs
theorem Fz{p q:Addr×AO}{l:Mem}(nd:(l.map (·.1)).Nodup)(hp:p∈l)(hq:q∈l)(e:p.1=q.1):p=q:=by
 induction l with
 | nil=>cases hp
 | cons y ys ih=>
  have nd:=Y9.mp nd
  rcases V1.mp hp with h1 | h1
  ·exact(V1.mp hq).elim (fun h2=>h1.trans h2.symm) fun h2=> (nd.1 (U0.mpr ⟨q,h2,e.symm.trans (E5 (·.1) h1)⟩)).elim
  ·exact(V1.mp hq).elim (fun h2=> (nd.1 (U0.mpr ⟨p,h1,e.trans (E5 (·.1) h2)⟩)).elim) (ih nd.2 h1)
theorem m8{C N x dx:Addr}{mN:Str→Option Value}{vars:cI}(X:sQ g.K C N mN)(S9:mN name=none)(hB:typeLookup (.type "object") name=pure none)(h1:(x,AO.shell C dx)∈mem)(u:Upd mem dx (.inst .none []) (.inst .none [(name,v)]) mem')(h:Q () ⟨vars,mem'⟩):
  W2 g UR (fun o w=>setAttr o name w) (.val (.ref x)) v ⟨vars,mem⟩ Q:=fun F s w0 w r hu hw K E k=>by
 cases(hu:_=_)
 obtain⟨m,I,hy⟩:=u6 r.toRepM h1 u.mem
 cases(funext hy:m=fun O=>none)
 obtain⟨nm,q,bs,sn,sub,col,dd,k0,k1,k2,k3,k5,hC,ns⟩:=r.toRepM.cls X
 obtain⟨oC,WO⟩:=X.hC
 obtain⟨ox,hx,Yh,WP,Tc,j_⟩:=r.hm _ h1
 have px:=r.ap _ h1
 have pd:=r.ap _ u.mem
 obtain⟨Ru,gs,d,t,os⟩:=s
 refine b3 (store_attr PySem.F.store_object hC ns X.sa S9 hB (fun e=>oG px.2 (show F.f x=_ from e▸r.hK _ _ WO)) I (fun h' Yi I' hk OP gS=>k F () () _ _ (FM.le.refl _) ?_ trivial h) Within.nil (Y8 _))
 have kk:∀b o,b≠x→b≠dx→Ru.get? b=some o→h'.get? b=some o:=fun b o h1 h2 e=>
  hk b o h1 (fun o₀ d' e₀ ed=>by cases hx.symm.trans e₀;cases Tc.symm.trans ed;exact h2) e
 obtain⟨o₁,e₁,c₁,UV,_,IS⟩:=OP ox hx
 have J:=AU I' e₁ (IS dx Tc)
 have off:∀ {f:PM},f x=none→f dx=none→(∀a o,f a=some o→Ru.get? a=some o)→∀b o,f b=some o→h'.get? b=some o:=fun h1 h2 hf b o e=>kk b o (fun q=>oG h1 (q▸e)) (fun q=>oG h2 (q▸e)) (hf b o e)
 have all:∀ {P:Addr→Prop},(∀p∈mem,P p.1)→∀p∈mem',P p.1:=fun h p hp=>let⟨q,hq,e⟩:=u.jr hp;e▸h q hq
 exact
  {hP:=off px.1 pd.1 r.hP,hF:=off px.2 pd.2 r.hF,hK:=r.hK,pf:=r.pf
   hm:=fun p hp=>by
    rcases u.apart r.nd p hp with rfl |⟨hq,Td⟩
    ·refine⟨_,J.2.2.2,fun y=>?_⟩
     rw[Y4]
     cases hb:y==name with
     | true=>rw[V8 (eq_of_beq hb)];exact⟨w,rfl,hw⟩
     | false=>rw[V4 (Zs.mp hb)];rfl
    ·by_cases UW:p.1=x
     ·cases Fz r.nd hq h1 UW
      exact⟨o₁,e₁,J.1,J.2.1,IS dx Tc,j_⟩
     ·have y:=r.hm p hq
      exact y.there.elim fun ob e=>y.mono (FM.le.refl _) ((kk _ _ UW Td e).trans e.symm)
   ap:=all (P:=fun a=>F.P a=none∧F.f a=none) r.ap
   nd:=u.keys▸r.nd
   tk:=U2 r.tk gS,gens:=r.gens,os:=r.os
   tab:=fun t ht=>have y:=r.tab t ht;y.rec fun O e O O=>y.mono (FM.le.refl _) ((kk _ _ (fun q=> (r.b0 t ht).2.2 _ h1 q.symm) (fun q=> (r.b0 t ht).2.2 _ u.mem q.symm) e).trans e.symm)
   b0:=fun t ht=> ⟨(r.b0 t ht).1,(r.b0 t ht).2.1,all (P:=(·≠t.1)) (r.b0 t ht).2.2⟩
   ns:=let⟨m,x',y⟩:=r.ns;⟨m,x'.at' fun o e=>kk _ o (fun q=>r.eN _ h1 q.symm) (fun q=>r.eN _ u.mem q.symm) e,y⟩
   nv:=r.nv,fq:=r.fq,fH:=r.fH
   eN:=all (P:=(·≠g.L)) r.eN
   ft:=r.ft }
end
end
section
theorem m9{a:Addr}:∀(F:FM) (w:Value),VR F (.val (.ref a)) w→handedOut w=pure w:=fun F w h=>by cases(h:_=_);rfl
theorem u_:∀(F:FM) (w:Value),VR F (.lst l) w→handedOut w=pure w:=fun F w h=>by obtain⟨a,i,n,rfl⟩:=h;rfl
end
section
section
variable {g:Gd}{env:Env}{st:AS}{α β:Type}
theorem KD{a:Addr}{xs:List PyData}{e:PyData}(hm:(a,AO.list (mY xs))∈st.mem)(hd:noDicts xs=true)(he:noDict e=true)(sd:shaped (.list xs)=true)(se:shaped e=true)(h8:8≤g.n)(h:Q (.bool (eqv (.list xs) e)) st):
  W2 g VR (compareOp .Eq) (.val (.ref a)) (mX e) st Q:=fun F s v u r hv hu K E k=>by
 cases(hv:_=_)
 obtain⟨items,n,eh,hi⟩:=r.hm _ hm
 obtain⟨as,ha⟩:=dZ r.hF xs items.toList hd hi
 obtain⟨bs,hb⟩:=di r.hF e u he hu
 exact PyProof.Rows.eq_dataH (.list eh rfl rfl ha) hb sd se (sJ g h8 (E8 64)) (k F _ _ st s (FM.le.refl _) r (my ..) h)
end
end
section
section
variable {prog:Program}{w:World}{A:Around}{E:Value→Shared→Prop}
theorem pH{it t:Addr}{items:Array Value}(j_:t≠it):∀(l:List Value) (i:Nat) (s:Shared) (Q:List Value→Shared→Prop),items.toList.drop i=l→s.heap.IsListIter it t i→s.heap.IsList t items→
  (∀h',h'.IsListIter it t (i+l.length)→Heap.SameBut it s.heap h'→Q l {s with heap:=h' })→wpAny (model prog w) A (draw (.ref it) l.length) Q E s
 | [],i,s,Q,_,gX,_,hQ=>U1 (hQ s.heap gX (Heap.SameBut.refl ..))
 | x::l,i,s,Q,e,gX,ht,hQ=>by
  have hx:items[i]? =some x:=Array.getElem?_toList.symm.trans ((E5 (· +0) rfl▸abP (xs:=items.toList) (i:=i) (j:=0)).symm.trans (E5 (·[0]?) e))
  exact E3 (abh gX ht hx fun h₁ u' cJ=>E3 (YJ (pH j_ l (i+1) _ _ (List.tail_drop.symm.trans (E5 List.tail e)) u' (ht.extBut cJ.extBut j_) fun h₂ KE fY=>U1 (hQ h₂ (Nat.succ_add_eq_add_succ i l.length▸KE) (cJ.trans fY)))))
theorem sU{s:Shared}{t:Addr}{items:Array Value}{Q:List Value→Shared→Prop}(hh:A.handled=none)(ht:s.heap.IsList t items)
  (hQ:∀h',Heap.ExtBut s.heap.objs.size s.heap h'→Q items.toList {s with heap:=h' }):wpAny (model prog w) A (unpackItems (.ref t) items.size none) Q E s:=by
 have oz:t≠s.heap.objs.size:=ht.elim fun o ho=>V2 (Heap.lt_size ho.1)
 unfold unpackItems notIterableAtAll
 refine E3 (E3 (wpAny_specialOf ht.typeIs F.slot_list_iter.lookup (U1 ?_)))
 refine E3 (YJ (abW ht ?_))
 refine E3 (YJ (pH oz items.toList 0 _ _ rfl ⟨_,Heap.get?_push_size _ rfl,rfl,rfl⟩ (ht.push _) fun h₁ u' cJ=>?_))
 rw[V4 (show ¬ items.toList.length<items.size from Z0 _)]
 exact E3 (YJ (abw hh u' ((ht.push _).extBut cJ.extBut oz) (aan (U8 (Zw _).symm)) fun h₂ OQ=>U1 (hQ h₂ fun b o hb e=>OQ b o hb (cJ.extBut b o hb (Heap.get?_push_of_some _ e)))))
end
section
variable {g:Gd}{env:Env}{st:AS}{α β:Type}
theorem lK{cD x1 pos}(h:Nk g env cD xs st Q)(hn:(assignEach cD env).length=xs.length)(AC:(assignEach cD env).findIdx? (·.1)=none):
  W1 g UR (assign (.Tuple cD x1 pos) env) (.lst xs) st Q:=fun F s v r hv K E k=>by
 obtain⟨a,items,n,rfl,e,hi⟩:=hv
 rw[arm_assign_Tuple]
 refine E3 (Zc ?_)
 unfold unpack
 rw[hn.trans hi.size.symm,AC]
 exact E3 (YJ (sU g.hh ⟨_,r.hF _ _ e,rfl,n,rfl⟩ fun h' hx=>h F _ items.toList (r.ext hx) hi K E k))
theorem FA{l:List AV}{k:Int}(h0:1≤k)(h1:k≤l.length)(hsz:l.length≤sizeLine)(h:Q (.tup (l.drop k.toNat)) st):W2 g VR getItem (.tup l) (.iJ (.int k) .none .none) st Q:=fun F s v u r hv hu K E kk=>by
 obtain⟨a,items,n,rfl,e,hi⟩:=hv
 obtain⟨b,p,q,t,rfl,e2,OR,h2,h3⟩:=hu
 obtain⟨tk,rfl⟩:=OR
 cases(h2:_=_);cases(h3:_=_)
 obtain⟨m,rfl⟩:=aac (aaR (by decide) h0)
 have r4:=r.alloc (o:=fG (items.toList.drop m).toArray 0) rfl s.toks id
 exact getItem_tuple_from (r8 ⟨_,r.hF _ _ e,rfl,n,rfl⟩) ⟨_,r.hF _ _ e2,rfl,rfl⟩ (Zl.mp h0) (hi.size▸Zl.mp h1) (kk _ _ _ st _ r4.2.1 r4.1 (Rj r4.2.2 ((hi.drop m).mono r4.2.1)) h) (hi.size▸hsz)
theorem Rep.weak{F:FM}{vars:cI}{a:Addr}(r:Rep g F ⟨vars,mem⟩ s)(u:Upd mem a (.list l) (.aU l) mem'):Rep g F ⟨vars,mem'⟩ s:=
 have all:∀ {P:Addr→Prop},(∀p∈mem,P p.1)→∀p∈mem',P p.1:=fun h p hp=>let⟨q,hq,e⟩:=u.jr hp;e▸h q hq
 {hP:=r.hP,hF:=r.hF,hK:=r.hK,pf:=r.pf,tk:=r.tk,gens:=r.gens,os:=r.os,tab:=r.tab
  hm:=fun p hp=>by
   rcases u.apart r.nd p hp with rfl |⟨hp,_⟩
   ·exact ph r.toRepM u.mem
   ·exact r.hm _ hp
  ap:=all (P:=fun a=>F.P a=none∧F.f a=none) r.ap
  nd:=u.keys▸r.nd
  b0:=fun t ht=> ⟨(r.b0 t ht).1,(r.b0 t ht).2.1,all (P:=(·≠t.1)) (r.b0 t ht).2.2⟩
  ns:=r.ns,nv:=r.nv,fq:=r.fq,fH:=r.fH,eN:=all (P:=(·≠g.L)) r.eN,ft:=r.ft }
end
end
section
section
variable {prog:Program}{w:World}{A:Around}{E:Value→Shared→Prop}{s:Shared}
noncomputable def lL(a b c:UInt64):Nat→UInt64
 | 0=>a
 | 1=>b
 | _=>c
noncomputable def k_(bt:UInt64→UInt64→Bool)(a b c:UInt64):UInt64:=if bt b a then(if bt c b then c else b) else(if bt c a then c else a)
noncomputable def FB(a b c:UInt64)(t u x:Tok):Array Value:= #[.float a t,.float b u,.float c x]
noncomputable def KF(t u x:Tok):Nat→Tok
 | 0=>t
 | 1=>u
 | _=>x
theorem jI{a b c:UInt64}{t u x:Tok}{i:Nat}(h:(FB a b c t u x)[i]? =some v):v= .float (lL a b c i) (KF t u x i):=by
 cases i with
 | zero=>exact(YV h).symm
 | succ i=>cases i with
  | zero=>exact(YV h).symm
  | succ i=>cases i with
   | zero=>exact(YV h).symm
   | succ i=>exact nomatch (aan (Zi 3 i)).symm.trans h
theorem OS(bt:UInt64→UInt64→Bool)(a b c:UInt64):lL a b c (argBest (fun i j=>bt (lL a b c i) (lL a b c j)) 2)=k_ bt a b c:=by
 show lL a b c (if bt c (lL a b c (if bt b a=true then 1 else 0))=true then 2 else if bt b a=true then 1 else 0)=if bt b a=true then(if bt c b=true then c else b) else(if bt c a=true then c else a)
 cases bt b a with
 | true=>
  show lL a b c (if bt c b=true then 2 else 1)=if bt c b=true then c else b
  cases bt c b <;> rfl
 | false=>
  show lL a b c (if bt c a=true then 2 else 0)=if bt c a=true then c else a
  cases bt c a <;> rfl
theorem sV{t u x:Tok}(h1:t≠0)(h2:u≠0)(h3:x≠0):∀i,0<KF t u x i
 | 0=>aaS h1
 | 1=>aaS h2
 | _+2=>aaS h3
theorem IU(bt:UInt64→UInt64→Bool)(op:CmpOp){a b c:UInt64}{t u x:Tok}{Q:Value→Shared→Prop}(hh:A.handled=none)(hc:CmpOf prog w A.in1 op (fun i v=> (FB a b c t u x)[i]? =some v) (fun i j=>bt (lL a b c i) (lL a b c j)))
  (h:∀h' tk i,(∀d o,s.heap.get? d=some o→h'.get? d=some o)→Q (.float (k_ bt a b c) (KF t u x i)) {s with heap:=h',toks:=tk }):
  wpAny (model prog w) A.in1 (pyIter (.ref s.heap.objs.size)) (fun it s₂=> ∃I fp wr n P St bt,it= .ref I∧Walks prog w A.in1 I fp wr n P St∧St 0 s₂.heap∧(∀b∈fp,b<s₂.heap.objs.size)∧0<n∧CmpOf prog w A.in1 op P bt∧
   ∀v h' tk,P (argBest bt (n - 1)) v→(∀b o,b∉wr→s₂.heap.get? b=some o→h'.get? b=some o)→Q v {s₂ with heap:=h',toks:=tk }) E
   {s with heap:=s.heap.push {cls:= .type "tuple",data:= .seq #[.float a t,.float b u,.float c x] } }:=by
 have hT:(s.heap.push {cls:= .type "tuple",data:= .seq #[.float a t,.float b u,.float c x] }).IsTuple s.heap.objs.size (FB a b c t u x):=⟨_,Heap.get?_push_size _ rfl,rfl,0,rfl⟩
 have hsz:(s.heap.push {cls:= .type "tuple",data:= .seq #[.float a t,.float b u,.float c x] }).objs.size=s.heap.objs.size+1:=Heap.size_push ..
 refine aag hT ⟨_,[_,s.heap.objs.size],[_],_,_,_,_,rfl,Walks.tuple (A:=A.in1) hh _ s.heap.objs.size (hsz▸V2 (Za _)) (FB a b c t u x),⟨⟨_,Heap.get?_push_size _ rfl,rfl,rfl⟩,hT.push _⟩,?_,Zt _,hc,fun v h' tk hP hk=>?_⟩
 ·rw[show((s.heap.push {cls:= .type "tuple",data:= .seq #[.float a t,.float b u,.float c x] }).push _).objs.size=s.heap.objs.size+1+1 from Heap.size_push .. |>.trans (E5 (· +1) hsz),hsz]
  exact V5.mpr ⟨Za _,bu (YW (Za _))⟩
 ·rw[jI hP]
  have e:=h h' tk (argBest (fun i j=>bt (lL a b c i) (lL a b c j)) 2) fun d o e=>hk d o (fun hm=>V2 (YW (Heap.lt_size e)) ((Yz.mp hm).trans hsz)) (Heap.get?_push_of_some _ (Heap.get?_push_of_some _ e))
  rw[← OS] at e
  exact e
end
section
variable {g:Gd}{env:Env}{st:AS}
theorem KG{a b:UInt64}(h:Q (.aI (add a b)) st):W2 g VR (binaryOp .Add) (.aI a) (.aI b) st Q:=fun F s v u r hv hu K E k=>by
 obtain⟨t,rfl,_⟩:=hv;obtain⟨t',rfl,_⟩:=hu
 exact add_float (k F _ _ st _ (FM.le.refl _) (r.tok _ tp) (zQ _ _ _ r.tk) h)
theorem KH{a b:UInt64}(h:Q (.aI (Float64.sub a b)) st):W2 g VR (binaryOp .Sub) (.aI a) (.aI b) st Q:=fun F s v u r hv hu K E k=>by
 obtain⟨t,rfl,_⟩:=hv;obtain⟨t',rfl,_⟩:=hu
 exact sub_float (k F _ _ st _ (FM.le.refl _) (r.tok _ tp) (zQ _ _ _ r.tk) h)
theorem KI{a b:UInt64}(h:Q (.aI (mul a b)) st):W2 g VR (binaryOp .Mult) (.aI a) (.aI b) st Q:=fun F s v u r hv hu K E k=>by
 obtain⟨t,rfl,_⟩:=hv;obtain⟨t',rfl,_⟩:=hu
 exact mul_float (k F _ _ st _ (FM.le.refl _) (r.tok _ tp) (zQ _ _ _ r.tk) h)
theorem KJ{a b:UInt64}(hz:isZero b=false)(h:Q (.aI (div a b)) st):W2 g VR (binaryOp .Div) (.aI a) (.aI b) st Q:=fun F s v u r hv hu K E k=>by
 obtain⟨t,rfl,_⟩:=hv;obtain⟨t',rfl,_⟩:=hu
 exact truediv_float_or g.hh (fun e=>absurd (hz.symm.trans e) YQ) fun O=>k F _ _ st _ (FM.le.refl _) (r.tok _ tp) (zQ _ _ _ r.tk) h
theorem KL{a b:UInt64}(hz:isZero b=false)(h:Q (.aI (divmod a b).2) st):W2 g VR (binaryOp .Mod) (.aI a) (.aI b) st Q:=fun F s v u r hv hu K E k=>by
 obtain⟨t,rfl,_⟩:=hv;obtain⟨t',rfl,_⟩:=hu
 exact PySem.Flt.mod_ff g.hh (fun e=>absurd (hz.symm.trans e) YQ) fun O=>k F _ _ st _ (FM.le.refl _) (r.tok _ tp) (zQ _ _ _ r.tk) h
theorem OT{a b:UInt64}(h:Q (.bool (Float64.cmp a b==some .eq)) st):W2 g VR (compareOp .Eq) (.aI a) (.aI b) st Q:=fun F s v u r hv hu K E k=>by
 obtain⟨t,rfl,_⟩:=hv;obtain⟨t',rfl,_⟩:=hu
 exact AutoFloatOps.eq_0 (k F _ _ st _ (FM.le.refl _) r (my ..) h)
theorem OU{a b:UInt64}(h:Q (.bool (Float64.cmp a b==some .lt||Float64.cmp a b==some .eq)) st):W2 g VR (compareOp .LtE) (.aI a) (.aI b) st Q:=fun F s v u r hv hu K E k=>by
 obtain⟨t,rfl,_⟩:=hv;obtain⟨t',rfl,_⟩:=hu
 exact AutoFloatOps.le_0 (k F _ _ st _ (FM.le.refl _) r (my ..) h)
theorem FC{a:UInt64}{n:Int}(hn:isInf (ofInt n)=false)(h:Q (.aI (Float64.sub a (ofInt n))) st):W2 g VR (binaryOp .Sub) (.aI a) (.int n) st Q:=fun F s v u r hv hu K E k=>by
 obtain⟨t,rfl,_⟩:=hv;obtain⟨t',rfl⟩:=hu
 exact sub_fi_or g.hh (fun e=>absurd (hn.symm.trans e) YQ) fun O=>k F _ _ st _ (FM.le.refl _) (r.tok _ tp) (zQ _ _ _ r.tk) h
theorem FD{a:UInt64}{n:Int}(hn:isInf (ofInt n)=false)(h:Q (.aI (add a (ofInt n))) st):W2 g VR (binaryOp .Add) (.aI a) (.int n) st Q:=fun F s v u r hv hu K E k=>by
 obtain⟨t,rfl,_⟩:=hv;obtain⟨t',rfl⟩:=hu
 exact add_fi_or g.hh (fun e=>absurd (hn.symm.trans e) YQ) fun O=>k F _ _ st _ (FM.le.refl _) (r.tok _ tp) (zQ _ _ _ r.tk) h
theorem FE{a:UInt64}{n:Int}(hn:isInf (ofInt n)=false)(h:Q (.aI (mul a (ofInt n))) st):W2 g VR (binaryOp .Mult) (.aI a) (.int n) st Q:=fun F s v u r hv hu K E k=>by
 obtain⟨t,rfl,_⟩:=hv;obtain⟨t',rfl⟩:=hu
 exact mul_fi_or g.hh (fun e=>absurd (hn.symm.trans e) YQ) fun O=>k F _ _ st _ (FM.le.refl _) (r.tok _ tp) (zQ _ _ _ r.tk) h
noncomputable def bC(a b:Nat):UInt64:=ofFrac false a b
theorem OV{a b:Int}(h0:0≤a)(h1:a<1000000)(hb:0<b)(h:Q (.aI (bC a.toNat b.toNat)) st):W2 g VR (binaryOp .Div) (.int a) (.int b) st Q:=fun F s v u r hv hu K E k=>by
 obtain⟨t,rfl⟩:=hv;obtain⟨t',rfl⟩:=hu
 obtain⟨a,rfl⟩:=aac h0
 obtain⟨b,rfl⟩:=aac (Z_ hb)
 refine PySem.Flt.div_ii_fits g.hh (U2 (U2 (YR.mp h1) (E1 rfl:1000000≤2 ^ 20)) (abF (Zt 1) (E1 rfl))) (fun e=>absurd e (Int.ne_of_gt hb)) fun O O=>k F _ _ st _ (FM.le.refl _) (r.tok _ tp) (zQ _ _ _ r.tk) ?_
 rw[U4 (ZD.mpr h0),U4 (ZD.mpr (Z_ hb))]
 exact h
noncomputable def bD(x:UInt64):Int:=match decode x with
 | .fin sg m e=>Float64.truncOf sg m e
 | _=>0
theorem yQ{x:UInt64}(hf:isFinite x=true)(h:Q (.int (bD x)) st):Wl g VR (fun vs=>call (.type "int") vs) [.aI x] st Q:=si fun F s v r hv K E k=>by
 obtain⟨t,rfl,_⟩:=hv
 unfold bD at h
 unfold isFinite at hf
 cases hd:decode x with
 | fin sg m e=>
  rw[hd] at h
  exact call_int_float hd (k F _ _ st _ (FM.le.refl _) (r.tok _ fun O=>Zt _) (oH ..) h)
 | _=>rw[hd] at hf;cases hf
theorem KM{a b c:UInt64}(h:Q (.aI (k_ Float64.gt a b c)) st):Wl g VR (fun vs=>call (.builtin "max") vs) [.aI a,.aI b,.aI c] st Q:=fun F s vs r hv K E k=>by
 obtain⟨_,_,rfl,⟨t,rfl,h1⟩,_,_,rfl,⟨u,rfl,h2⟩,_,_,rfl,⟨x,rfl,h3⟩,h4⟩:=hv
 cases(h4:_=_)
 exact b3 (call_max_three (IU (prog:=g.prog) (w:=g.w) (a:=a) (b:=b) (c:=c) (t:=t) (u:=u) (x:=x) (Q:=fun v s'=>s.toks≤s'.toks→K v s') Float64.gt .Gt g.hh (fun i j vi vj s Q E hi hj h=>by rw[jI hi,jI hj];exact AutoFloatOps.gt_0 h) fun h' tk i KN gS=>k F _ _ st _ (FM.le.refl _) (r.keeps KN tk fun O=>U2 r.tk gS) (zQ _ _ _ (sV h1 h2 h3 i)) h))
theorem KO{a b c:UInt64}(h:Q (.aI (k_ Float64.lt a b c)) st):Wl g VR (fun vs=>call (.builtin "min") vs) [.aI a,.aI b,.aI c] st Q:=fun F s vs r hv K E k=>by
 obtain⟨_,_,rfl,⟨t,rfl,h1⟩,_,_,rfl,⟨u,rfl,h2⟩,_,_,rfl,⟨x,rfl,h3⟩,h4⟩:=hv
 cases(h4:_=_)
 exact b3 (call_min_three (IU (prog:=g.prog) (w:=g.w) (a:=a) (b:=b) (c:=c) (t:=t) (u:=u) (x:=x) (Q:=fun v s'=>s.toks≤s'.toks→K v s') Float64.lt .Lt g.hh (fun i j vi vj s Q E hi hj h=>by rw[jI hi,jI hj];exact AutoFloatOps.lt_0 h) fun h' tk i KN gS=>k F _ _ st _ (FM.le.refl _) (r.keeps KN tk fun O=>U2 r.tk gS) (zQ _ _ _ (sV h1 h2 h3 i)) h))
end
end
section
section
variable {prog:Program}{w:World}{A:Around}{E:Value→Shared→Prop}{s:Shared}
theorem FF{M:Model}{x:UInt64}{t u:Tok}{Q:Bool→Shared→Prop}(ht:t≠0)(hu:u≠0)(hb:NoneBooked s.heap)(hq:∀b,Q b s):wpAny M A (isSame (.float x t) (.float x u)) Q E s:=by
 show wpAny M A (isSame.created (x==x&&!Float64.isNaN x) t u) Q E s
 unfold isSame.created
 refine wpAny_ite ?_
 split
 ·next h=>exact(Zr.mp h).elim (fun h=>absurd (eq_of_beq h) ht) fun h=>absurd (eq_of_beq h) hu
 refine wpAny_ite ?_
 split
 ·exact U1 (hq _)
 refine wpAny_ite ?_
 split
 ·exact U1 (hq _)
 refine E3 (wpAny_sharingNotTold_none hb (E3 (wpAny_sharingNotTold_none hb ?_)))
 exact E3 (aa4 (E3 (wpAny_askSetting (U1 (hq _)))))
theorem AZ{x:UInt64}(h:Float64.isNaN x=false):(Float64.cmp x x==some .eq)=true:=by
 unfold Float64.isNaN at h
 unfold Float64.cmp
 cases hd:decode x with
 | nan=>rw[hd] at h;cases h
 | inf a=>cases a <;> decide
 | fin a m e=>
  exact E5 (some · ==some Ordering.eq) (Std.ReflCmp.compare_self (cmp:=(compare:Int→Int→Ordering)))
theorem A1{x:UInt64}{t u:Tok}(ht:t≠0)(hu:u≠0)(hb:NoneBooked s.heap)(hx:Float64.isNaN x=false):EqAt A s (.float x t) (.float x u) true:=fun prog w E Q hq=>by
 unfold eqBool
 refine YJ ?_
 refine wpAny_ite_split (fun IV=>?_) (fun IV=>?_)
 ·exact E3 (aa4 (U1 hq))
 ·refine E3 (FF ht hu hb fun b=>?_)
  cases b
  ·refine E3 (AutoFloatOps.eq_0 ?_)
   rw[AZ hx]
   exact abV hq
  ·exact U1 hq
end
section
variable {g:Gd}{env:Env}{st:AS}
def NB(g:Gd):Prop:= ∀h:Heap,(∀a o,g.K.f a=some o→h.get? a=some o)→NoneBooked h
inductive Te(a b c:UInt64)(l:List Value):Prop
 | mk (t u x:Tok) (h1:t≠0) (h2:u≠0) (h3:x≠0) (e:l=[.float a t,.float b u,.float c x])
theorem OW{F:FM}{a b c:UInt64}{l:List Value}(h:aQ F [.aI a,.aI b,.aI c] l):Te a b c l:=by
 obtain⟨_,_,rfl,⟨t,rfl,h1⟩,_,_,rfl,⟨u,rfl,h2⟩,_,_,rfl,⟨x,rfl,h3⟩,h4⟩:=h
 cases(h4:_=_)
 exact⟨t,u,x,h1,h2,h3,rfl⟩
theorem KP{a b c:UInt64}(WQ:NB g)(ha:Float64.isNaN a=false)(hb:Float64.isNaN b=false)(hc:Float64.isNaN c=false)(h:Q (.bool true) st):W2 g VR (compareOp .Eq) (.tup [.aI a,.aI b,.aI c]) (.tup [.aI a,.aI b,.aI c]) st Q:=fun F s v u r hv hu K E k=>by
 have nb:=WQ _ r.bS
 obtain⟨l,⟨items⟩,n,rfl,h1,i1⟩:=hv
 obtain⟨l',⟨KQ⟩,n',rfl,OR,i2⟩:=hu
 obtain⟨t1,t2,t3,z1,z2,z3,e1⟩:=OW i1
 obtain⟨u1,u2,u3,y1,y2,y3,e2⟩:=OW i2
 cases(e1:items=_);cases(e2:KQ=_)
 refine PySem.SeqAt.eq_tupleAt (e:=fun O=>true) ⟨_,r.hF _ _ h1,rfl,n,rfl⟩ ⟨_,r.hF _ _ OR,rfl,n',rfl⟩ (YE (Y0 ..) g.hu) (fun j j1 j2=>?_) (k F _ _ st s (FM.le.refl _) r (my ..) h)
 cases j with
 | zero=>exact A1 z1 y1 nb ha
 | succ j=>cases j with
  | zero=>exact A1 z2 y2 nb hb
  | succ j=>cases j with
   | zero=>exact A1 z3 y3 nb hc
   | succ j=>exact absurd j1 (Zd.mpr (Zi 3 j))
end
end
section
section
variable {g:Gd}{env:Env}{st:AS}
theorem FG{i:Nat}{rest:List Nat}(ho:Builtin.Str.occurrences x y 0 x.length 1=i::rest)(h:Q (.int i) st):Wl g VR (fun vs=>call (.builtin "str.index") vs) [.str x,.str y] st Q:=Eu fun F s v u r hv hu K E k=>by
 obtain⟨t,rfl⟩:=hv;obtain⟨t',rfl⟩:=hu
 exact call_gives PySem.F.slot_str_index (abA s x t) PySem.F.entry_str_index (PySem.F.args_str_index_2 _ _) (gives_str_index x y t t' i rest ho) (k F _ _ st _ (FM.le.refl _) (r.tok _ tp) (oH ..) h)
theorem wZ{a b:Int}(h0:0≤a)(h1:a<1000000):IntMulOk a b:=ab6 (by
 obtain⟨a,rfl⟩:=aac h0
 unfold Builtin.Int.intBits
 split
 ·exact Y8 _
 ·next hz=>exact(log2_lt fun e=>hz (ZE.mpr (E5 Int.ofNat e))).mpr (U2 (YR.mp h1) (E1 rfl)))
end
end
section
section
variable {g:Gd}{env:Env}{st:AS}
theorem sW{F:FM}:∀(ws:List Str) (t:Nat),aQ F (ws.map .str) (strsFrom t ws)
 | [],_=>gd
 | _::r,t=>dE (yA ..) (sW r (t+1))
theorem FH{ws:List Str}(hw:PySem.wordsOf x=ws)(h1:(Builtin.Str.spaceWords x (x.length+1)==[(0,x.length)])=false)(hx:x.length≤100000)(hn:ws.length≤100000)(h:Q (.lst (ws.map .str)) st):Wl g VR (fun vs=>call (.builtin "str.split") vs) [.str x] st Q:=si fun F s v r hv K E k=>by
 obtain⟨t,rfl⟩:=hv
 subst hw
 have hl:(100000:Nat)≤sizeLine:=E1 rfl
 refine abE PySem.F.slot_str_split (abA s x t) PySem.F.entry_str_split (PySem.F.args_str_split_1 _) (meets_str_split_space x t (E4 hx hl) (E4 (U8 (E9 (as:=Builtin.Str.spaceWords x (x.length+1)) _).symm) (E4 hn hl))) ?_
 show(if(Builtin.Str.spaceWords x (x.length+1)==[(0,x.length)])=true then _ else _)
 rw[h1]
 have y:=r.alloc (o:= {cls:= .type "list",data:= .seq (strsFrom s.toks (PySem.wordsOf x)).toArray }) rfl (s.toks+(Builtin.Str.spaceWords x (x.length+1)).length) fun h=>U2 h (Y0 _ _)
 exact k _ _ _ st _ y.2.1 y.1 (J7 y.2.2 (sW _ s.toks)) h
theorem aQ.flat{F:FM}{vs:List Value}(h:aQ F l vs):∀n,aQ F (replicate n l).flatten (replicate n vs).flatten
 | 0=>gd
 | n+1=>h.append (aQ.flat h n)
theorem KR{l:List AV}{x:Int}(h0:0≤x)(h1:x<1000)(hsz:l.length≤1000)(h:Q (.lst (replicate x.toNat l).flatten) st):W2 g VR (binaryOp .Mult) (.lst l) (.int x) st Q:=fun F s v u r hv hu K E k=>by
 obtain⟨a,items,n,rfl,ha,hi⟩:=hv
 obtain⟨t,rfl⟩:=hu
 have hl:=r.hF _ _ ha
 have hb:items.size*x.toNat≤1000*1000:=aa6 (hi.size▸hsz) (Int.toNat_le.mpr (Z_ h1))
 refine wpAny_binaryOp_repeat_ref (T:= "list") (U:= "int") (by decide) ⟨_,hl,rfl⟩ (fun s'=>typeIs_int s' x t) noFill_list_mul PySem.F.fills_int_mul PySem.F.slot_int_rmul repeat_list PySem.F.slot_int_index.lookup
  (abE PySem.F.slot_int_rmul (typeIs_int s x t) PySem.F.entry_int_rmul (PySem.F.args_int_rmul_2 _ _) (int___rmul___int_list x t a items n)
   ⟨hl,rfl,⟨_,hl,rfl⟩,abE PySem.F.slot_list_mul ⟨_,hl,rfl⟩ PySem.F.entry_list_mul (PySem.F.args_list_mul_2 _ _)
    (AutoListH.list___mul___list_int_3 a items n x t (by rw[fitsIdx (n:=1000) h0 (Z_ h1) (E1 rfl)];exact YQ) (Zd.mpr (E4 hb (E1 rfl))) fun h=>Zd.mpr (E4 hb (E1 rfl:1000*1000≤sizeLine)) (U9 h))
    ⟨hl,?_⟩⟩)
 rw[listMul_foldl_if]
 have y:=r.alloc (o:= {cls:= .type "list",data:= .seq (replicate x.toNat items.toList).flatten.toArray }) rfl s.toks id
 exact k _ _ _ st _ y.2.1 y.1 (J7 y.2.2 ((hi.flat x.toNat).mono y.2.1)) h
theorem KS{a:Addr}{xs:List PyData}{e:PyData}(hm:(a,AO.list (mY xs))∈st.mem)(hd:noDicts xs=true)(he:noDict e=true)(sd:shaped (.list xs)=true)(se:shaped e=true)(h8:8≤g.n)(h:Q (.bool (!eqv (.list xs) e)) st):
  W2 g VR (compareOp .NotEq) (.val (.ref a)) (mX e) st Q:=fun F s v u r hv hu K E k=>by
 cases(hv:_=_)
 obtain⟨items,n,eh,hi⟩:=r.hm _ hm
 obtain⟨as,ha⟩:=dZ r.hF xs items.toList hd hi
 obtain⟨bs,hb⟩:=di r.hF e u he hu
 exact PyProof.Rows.ne_dataH (.list eh rfl rfl ha) hb sd se (sJ g h8 (E8 64)) (k F _ _ st s (FM.le.refl _) r (my ..) h)
end
end
section
section
variable {g:Gd}{env:Env}{st:AS}
theorem OX{F:FM}{vs:List Value}(h:aQ F [x,y,z] vs):∃v u w,vs=[v,u,w]∧VR F x v∧VR F y u∧VR F z w:=gO.rec (fun v r e h1 h2=>let⟨u,w,e2,h3,h4⟩:=Oh h2;⟨v,u,w,e2▸e,h1,h3,h4⟩) h
theorem A2{a b c:Int}(hc:c≠0)(hp:Builtin.divisionGoesByPylong (b - a) c=false)(h:Q (.wE a b c) st):Wl g VR (fun vs=>call (.type "range") vs) [.int a,.int b,.int c] st Q:=fun F s vs r hv K E k=>by
 obtain⟨v,u,w,rfl,hv,hu,hw⟩:=OX hv
 obtain⟨t,rfl⟩:=hv;obtain⟨t',rfl⟩:=hu;obtain⟨t2,rfl⟩:=hw
 have ra:=r.alloc (o:= {cls:= .type "range",data:= .fields #[.int a t,.int b t',.int c t2] }) rfl s.toks id
 exact call_range_3 hc (k _ (.wE _ _ _) _ st _ ra.2.1 ra.1 (Nd.mk _ _ _ _ rfl ra.2.2) h) (.inl hp)
theorem qC{l:List AV}(hsz:l.length≤sizeLine)(h:Q (!decide (l.length=0)) st):W1 g RQ truthy (.lst l) st Q:=fun F s v r hv K E k=>by
 obtain⟨a,items,n,rfl,hl,hi⟩:=(cr.lst l st.mem).at r.toRepM hv
 have e:(!items.isEmpty)=!decide (l.length=0):=by rw[← hi.size];rfl
 exact wpAny_truthy_list ⟨_,hl,rfl,n,rfl⟩ (hi.size▸Al hsz) (e▸k F _ _ st _ (FM.le.refl _) (r.tok _ tp) rfl h)
end
end
section
section
noncomputable abbrev dz:=Nat→Addr
inductive RV where
 | v (x:AV)
 | r (k:Nat)
 | b (x:BI)
 | f (fi:FI) (q:Str) (fR:List (Str×Nat))
 deriving Inhabited
noncomputable def aa(ρ:dz):RV→AV
 | .v x=>x
 | .r k=> .val (.ref (ρ k))
 | .b x=> .val x.val
 | .f fi q fR=> .fn fi q (fR.map fun p=> (p.1,ρ p.2))
inductive EO where
 | list (l:List AV)
 | aU (l:List AV)
 | cell (v:Option RV)
 | any (n:Nat) (m:List Addr→Mem)
noncomputable def kG(ρ:dz)(n:Nat):Nat→List Addr:=n.rec (fun O=>[]) fun O ih k=>ρ k::ih (k+1)
noncomputable def EO.mem(ρ:dz)(k:Nat):EO→Mem
 | .list l=>[(ρ k,.list l)]
 | .aU l=>[(ρ k,.aU l)]
 | .cell v=>[(ρ k,.cell (v.map (aa ρ)))]
 | .any n m=>m (kG ρ n k)
noncomputable abbrev Os:=List (Nat×EO)
noncomputable abbrev Vs:=List (Option RV)
inductive Hint where
 | nil
 | v (x:AV) (k:Hint)
 | b (c:Bool) (k:Hint)
 | a (k:Hint)
 | sp (t e:Hint)
 | mv (z:RV) (t e k:Hint)
 | call (x:RV) (outs:Os) (k:Hint)
 | loop (I:Nat→Prop) (vs:Nat→Vs) (os:Nat→Os) (h:Nat→AV→Hint) (k:Hint)
 | wh (n:Nat) (vs:Nat→Vs) (os:Nat→Os) (h:Nat→Hint) (k:Hint)
 | f (f:AV→Option AV) (h:AV→Hint) (k:Hint)
structure S where
 vs:Vs
 os:Os
 h:Hint
noncomputable def ka{α:Type}(l:List α):Nat→Option α:=l.rec (fun O=>none) fun x O ih i=>i.casesOn (some x) ih
theorem bW{α:Type}{x:α}{l:List α}:∀ {i:Nat},ka l i=some x→x∈l:=by
 induction l with
 | nil=>intro i h;cases h
 | cons y t ih=>
  intro i h
  cases i with
  | zero=>cases h;exact E7
  | succ n=>exact E6 _ (ih h)
noncomputable def hd(l:Vs):Option RV:=l.casesOn none fun x O=>x
noncomputable def tl(l:Vs):Vs:=l.casesOn [] fun O t=>t
noncomputable def qD(n:Nat)(v:RV):Vs→Vs:=n.rec (fun l=>some v::tl l) fun O ih l=>hd l::ih (tl l)
noncomputable def A4(n:Nat):Vs→Option RV:=n.rec hd fun O ih l=>ih (tl l)
noncomputable def bU(ρ:dz)(xs:List Str):Vs→cI:=xs.rec (fun O=>[]) fun x O ih l=> (x,(hd l).map (aa ρ))::ih (tl l)
theorem m_{xs:List Str}:∀ {vs:Vs} {i:Nat},ka xs i=some x→A4 i vs=some v→(x,some (aa ρ v))∈bU ρ xs vs:=by
 induction xs with
 | nil=>intro vs i h;cases h
 | cons y t ih=>
  intro vs i h h'
  cases i with
  | zero=>
   cases h
   have:hd vs=some v:=h'
   show _∈(x,(hd vs).map (aa ρ))::bU ρ t (tl vs)
   rw[this];exact E7
  | succ n=>exact E6 _ (ih (vs:=tl vs) h h')
theorem sX{xs:List Str}:∀ {vs:Vs} {i:Nat},ka xs i=some x→∃o,Upd (bU ρ xs vs) x o (some (aa ρ v)) (bU ρ xs (qD i v vs)):=by
 induction xs with
 | nil=>intro vs i h;cases h
 | cons y t ih=>
  intro vs i h
  cases i with
  | zero=>cases h;exact⟨_,.here⟩
  | succ n=>exact(ih (vs:=tl vs) h).imp fun O u=> .there u
noncomputable def ay(ρ:dz)(os:Os):Mem:=os.rec [] fun p O ih=>p.2.mem ρ p.1++ih
noncomputable def bM(k:Nat)(os:Os):Option EO:=os.rec none fun p O ih=>cond (beq p.1 k) (some p.2) ih
noncomputable def dA(k:Nat)(o:EO)(os:Os):Os:=os.rec [] fun p t ih=>cond (beq p.1 k) ((p.1,o)::t) (p::ih)
noncomputable def GV.rv:GV→RV
 | .b x=> .b x
 | .v x=> .v (.val x)
 | .i n _=> .v (.int n)
structure Cx where
 names:List (Str×NameKind)
 loc:List Str
 cc:List (Str×NameKind×Nat)
 oA:List Nat
 gx:List (Str×GV)
 pin:Nat
 full:Bool
 lam:List (Addr×Str)
structure Ctx extends Cx where
 g:Gd
structure bQ(C:Ctx)(ρ:dz)(env:Env):Prop where
 e:bp C.g env
 N:∃cs,Kn env C.names cs∧∀p∈C.cc,(p.1,ρ p.2.2)∈cs
 hl:∀x∈C.loc,(x,NameKind.local)∈C.names
 hc:∀p∈C.cc,(p.1,p.2.1)∈C.names∧p.2.2<C.pin
 hg:∀i∈C.oA,∀p,ka C.gx i=some p→(p.1,globalImplicit)∈C.names
 hx:∀p∈C.gx,iW C.g p.1 p.2.val
 h8:8≤C.g.n
 nb:NB C.g
 kd:C.full=true→∀x,env.kindOf x=C.names.lookup x
 lm:∀p∈C.lam,wW C.g env p.1 p.2
noncomputable def tr(C:Ctx)(ρ:dz)(M:Mem)(s:S):AS:=⟨bU ρ C.loc s.vs,ay ρ s.os++M⟩
theorem Wk.refl{g:Gd}{st:AS}:Wk g st st:=fun F s r=> ⟨F,FM.le.refl F,r⟩
theorem Wk.trans(x:Wk g a b)(y:Wk g b c):Wk g a c:=fun F s r=>
 let⟨F1,l1,r1⟩:=x F s r
 let⟨F2,l2,r2⟩:=y F1 s r1
 ⟨F2,l1.trans l2,r2⟩
section
variable {g:Gd}{st bH:AS}{α β:Type}{R:FM→β→α→Prop}
theorem W0.weak{t:Sem α}{Q:β→AS→Prop}(w:Wk g st bH)(h:W0 g R t bH Q):W0 g R t st Q:=fun F s r K E k=>
 let⟨F1,l1,r1⟩:=w F s r
 h F1 s r1 K E fun F' b a aK s2 l2=>k F' b a aK s2 (l1.trans l2)
end
inductive PV(C:Ctx)(ρ:dz)(M:Mem)(K:RV→S→Prop):AV→AS→Prop
 | mk {rv s st} (w:Wk C.g st (tr C ρ M s)) (k:K rv s):PV C ρ M K (aa ρ rv) st
inductive PB(C:Ctx)(ρ:dz)(M:Mem)(K:Bool→S→Prop):Bool→AS→Prop
 | mk {b s st} (w:Wk C.g st (tr C ρ M s)) (k:K b s):PB C ρ M K b st
inductive PU(C:Ctx)(ρ:dz)(M:Mem)(K:S→Prop):Unit→AS→Prop
 | mk {s st} (w:Wk C.g st (tr C ρ M s)) (k:K s):PU C ρ M K () st
inductive PL(C:Ctx)(ρ:dz)(M:Mem)(K:List RV→S→Prop):List AV→AS→Prop
 | mk {rs s st} (w:Wk C.g st (tr C ρ M s)) (k:K rs s):PL C ρ M K (rs.map (aa ρ)) st
section
variable {C:Ctx}{ρ:dz}{M:Mem}{st:AS}{α β:Type}
theorem bz{t:Sem Value}{K:RV→S→Prop}{G:AV→AS→Prop}(h:W0 C.g VR t st (PV C ρ M K))(f:∀rv s,K rv s→G (aa ρ rv) (tr C ρ M s)):W0 C.g VR t st G:=fun F s r K' E k=>h F s r K' E fun F' b a bH s' l r hb q=>by
 obtain⟨w,q⟩:=q
 obtain⟨F2,l2,r2⟩:=w F' s' r
 exact k F2 _ a _ s' (l.trans l2) r2 (hb.mono l2) (f _ _ q)
theorem vb{t:Sem Bool}{K:Bool→S→Prop}(h:W0 C.g RQ t st (PB C ρ M K))(f:∀b s,K b s→G b (tr C ρ M s)):W0 C.g RQ t st G:=fun F s r K' E k=>h F s r K' E fun F' b a bH s' l r hb q=>by
 obtain⟨w,q⟩:=q
 obtain⟨F2,l2,r2⟩:=w F' s' r
 exact k F2 _ a _ s' (l.trans l2) r2 hb (f _ _ q)
theorem lM{t:Sem (List Value)}{K:List RV→S→Prop}{G:List AV→AS→Prop}(h:W0 C.g aQ t st (PL C ρ M K))(f:∀rs s,K rs s→G (rs.map (aa ρ)) (tr C ρ M s)):W0 C.g aQ t st G:=fun F s r K' E k=>h F s r K' E fun F' b a bH s' l r hb q=>by
 obtain⟨w,q⟩:=q
 obtain⟨F2,l2,r2⟩:=w F' s' r
 exact k F2 _ a _ s' (l.trans l2) r2 (hb.mono l2) (f _ _ q)
theorem pv{K:RV→S→Prop}{rv:RV}{s:S}(k:K rv s):PV C ρ M K (aa ρ rv) (tr C ρ M s):= .mk Wk.refl k
theorem db{K:RV→S→Prop}{x:AV}{s:S}(k:K (.v x) s):PV C ρ M K x (tr C ρ M s):=pv k
theorem pb{K:Bool→S→Prop}{b:Bool}(k:K b s):PB C ρ M K b (tr C ρ M s):= .mk Wk.refl k
end
abbrev eE(b:Bool)(K:Prop):Prop:=cond b K False
theorem aq{b:Bool}{K:Prop}(h:eE b K):b=true∧K:=by cases b;exact h.elim;exact⟨rfl,h⟩
def mI(a:RV)(f:Int→Prop)(d:Prop):Prop:=a.casesOn (fun x=>x.casesOn d (fun O=>d) (fun i=>f i) (fun O=>d) (fun O=>d) (fun O=>d) (fun O=>d) (fun O=>d) (fun O O O=>d) (fun O O O=>d) (fun O O O=>d)) (fun O=>d) (fun O=>d) fun O O O=>d
def mS(a:RV)(f:Str→Prop)(d:Prop):Prop:=a.casesOn (fun x=>x.casesOn d (fun O=>d) (fun O=>d) (fun O=>d) (fun i=>f i) (fun O=>d) (fun O=>d) (fun O=>d) (fun O O O=>d) (fun O O O=>d) (fun O O O=>d)) (fun O=>d) (fun O=>d) fun O O O=>d
def mL(a:RV)(f:List AV→Prop)(d:Prop):Prop:=a.casesOn (fun x=>x.casesOn d (fun O=>d) (fun O=>d) (fun O=>d) (fun O=>d) (fun O=>d) (fun O=>d) (fun i=>f i) (fun O O O=>d) (fun O O O=>d) (fun O O O=>d)) (fun O=>d) (fun O=>d) fun O O O=>d
def mT(a:RV)(f:List AV→Prop)(d:Prop):Prop:=a.casesOn (fun x=>x.casesOn d (fun O=>d) (fun O=>d) (fun O=>d) (fun O=>d) (fun O=>d) (fun i=>f i) (fun O=>d) (fun O O O=>d) (fun O O O=>d) (fun O O O=>d)) (fun O=>d) (fun O=>d) fun O O O=>d
def mB(a:RV)(f:Bool→Prop)(d:Prop):Prop:=a.casesOn (fun x=>x.casesOn d (fun i=>f i) (fun O=>d) (fun O=>d) (fun O=>d) (fun O=>d) (fun O=>d) (fun O=>d) (fun O O O=>d) (fun O O O=>d) (fun O O O=>d)) (fun O=>d) (fun O=>d) fun O O O=>d
def mF(a:RV)(f:UInt64→Prop)(d:Prop):Prop:=a.casesOn (fun x=>x.casesOn d (fun O=>d) (fun O=>d) (fun i=>f i) (fun O=>d) (fun O=>d) (fun O=>d) (fun O=>d) (fun O O O=>d) (fun O O O=>d) (fun O O O=>d)) (fun O=>d) (fun O=>d) fun O O O=>d
def mN(a:RV)(f:Prop)(d:Prop):Prop:=a.casesOn (fun x=>x.casesOn f (fun O=>d) (fun O=>d) (fun O=>d) (fun O=>d) (fun O=>d) (fun O=>d) (fun O=>d) (fun O O O=>d) (fun O O O=>d) (fun O O O=>d)) (fun O=>d) (fun O=>d) fun O O O=>d
def mV(a:RV)(f:AV→Prop)(d:Prop):Prop:=a.casesOn f (fun O=>d) (fun O=>d) fun O O O=>d
def mR(a:RV)(f:Nat→Prop)(d:Prop):Prop:=a.casesOn (fun O=>d) f (fun O=>d) fun O O O=>d
def mG(a:RV)(f:BI→Prop)(d:Prop):Prop:=a.casesOn (fun O=>d) (fun O=>d) f fun O O O=>d
section
variable {a:RV}{d:Prop}{P:RV→Prop}
theorem cK{f:Int→Prop}(h:mI a f d)(h1:∀i,f i→P (.v (.int i)))(h2:d→P a):P a:=by cases a with | v x=> (cases x with | int i=>exact h1 _ h | _=>exact h2 h) | _=>exact h2 h
theorem cZ{f:Str→Prop}(h:mS a f d)(h1:∀i,f i→P (.v (.str i)))(h2:d→P a):P a:=by cases a with | v x=> (cases x with | str i=>exact h1 _ h | _=>exact h2 h) | _=>exact h2 h
theorem fA{f:List AV→Prop}(h:mL a f d)(h1:∀i,f i→P (.v (.lst i)))(h2:d→P a):P a:=by cases a with | v x=> (cases x with | lst i=>exact h1 _ h | _=>exact h2 h) | _=>exact h2 h
theorem pI{f:List AV→Prop}(h:mT a f d)(h1:∀i,f i→P (.v (.tup i)))(h2:d→P a):P a:=by cases a with | v x=> (cases x with | tup i=>exact h1 _ h | _=>exact h2 h) | _=>exact h2 h
theorem A5{f:Bool→Prop}(h:mB a f d)(h1:∀i,f i→P (.v (.bool i)))(h2:d→P a):P a:=by cases a with | v x=> (cases x with | bool i=>exact h1 _ h | _=>exact h2 h) | _=>exact h2 h
theorem pJ{f:UInt64→Prop}(h:mF a f d)(h1:∀i,f i→P (.v (.aI i)))(h2:d→P a):P a:=by cases a with | v x=> (cases x with | aI i=>exact h1 _ h | _=>exact h2 h) | _=>exact h2 h
theorem w7{f:Prop}(h:mN a f d)(h1:f→P (.v .none))(h2:d→P a):P a:=by cases a with | v x=> (cases x with | none=>exact h1 h | _=>exact h2 h) | _=>exact h2 h
theorem cL{f:AV→Prop}(h:mV a f d)(h1:∀i,f i→P (.v i))(h2:d→P a):P a:=by cases a with | v x=>exact h1 _ h | _=>exact h2 h
theorem eF{f:Nat→Prop}(h:mR a f d)(h1:∀i,f i→P (.r i))(h2:d→P a):P a:=by cases a with | r x=>exact h1 _ h | _=>exact h2 h
theorem w8{f:BI→Prop}(h:mG a f d)(h1:∀i,f i→P (.b i))(h2:d→P a):P a:=by cases a with | b x=>exact h1 _ h | _=>exact h2 h
end
end
end
section
section
def hV(s:S)(f:AV→S→Prop):Prop:=s.h.casesOn False (fun x k=>f x ⟨s.vs,s.os,k⟩) (fun O O=>False) (fun O=>False) (fun O O=>False) (fun O O O O=>False) (fun O O O=>False) (fun O O O O O=>False) (fun O O O O O=>False) (fun O O O=>False)
def hB(s:S)(f:Bool→S→Prop):Prop:=s.h.casesOn False (fun O O=>False) (fun x k=>f x ⟨s.vs,s.os,k⟩) (fun O=>False) (fun O O=>False) (fun O O O O=>False) (fun O O O=>False) (fun O O O O O=>False) (fun O O O O O=>False) (fun O O O=>False)
def hA(s:S)(f:S→Prop)(d:Prop):Prop:=s.h.casesOn False (fun O O=>d) (fun O O=>d) (fun k=>f ⟨s.vs,s.os,k⟩) (fun O O=>d) (fun O O O O=>d) (fun O O O=>d) (fun O O O O O=>d) (fun O O O O O=>d) (fun O O O=>d)
def Tf(s:S)(f:Bool→S→Prop)(d:Prop):Prop:=s.h.casesOn d (fun O O=>d) (fun x k=>f x ⟨s.vs,s.os,k⟩) (fun O=>d) (fun O O=>d) (fun O O O O=>d) (fun O O O=>d) (fun O O O O O=>d) (fun O O O O O=>d) (fun O O O=>d)
section
variable {s:S}{R:Prop}
theorem A6{f:Bool→S→Prop}{d:Prop}(h:Tf s f d)(k:∀x k,f x ⟨s.vs,s.os,k⟩→R)(k2:d→R):R:=by
 obtain⟨vs,os,k'⟩:=s
 cases k' with | b x k'=>exact k x k' h | _=>exact k2 h
theorem dB{f:AV→S→Prop}(h:hV s f)(k:∀x k,f x ⟨s.vs,s.os,k⟩→R):R:=by
 obtain⟨vs,os,k'⟩:=s
 cases k' with | v x k'=>exact k x k' h | _=>exact h.elim
theorem A7{f:Bool→S→Prop}(h:hB s f)(k:∀x k,f x ⟨s.vs,s.os,k⟩→R):R:=by
 obtain⟨vs,os,k'⟩:=s
 cases k' with | b x k'=>exact k x k' h | _=>exact h.elim
theorem w9{f:S→Prop}{d:Prop}(h:hA s f d)(k:∀k,f ⟨s.vs,s.os,k⟩→R)(k2:d→R):R:=by
 obtain⟨vs,os,k'⟩:=s
 cases k' with | a k'=>exact k k' h | nil=>exact h.elim | _=>exact k2 h
end
def br(b:Bool)(s:S)(T F:S→Prop):Prop:=s.h.casesOn False (fun O O=>False) (fun c k=>b=c∧cond c (T ⟨s.vs,s.os,k⟩) (F ⟨s.vs,s.os,k⟩)) (fun k=>cond b (T ⟨s.vs,s.os,k⟩) (F ⟨s.vs,s.os,k⟩))
 (fun t e=> (b=true→T ⟨s.vs,s.os,t⟩)∧(b=false→F ⟨s.vs,s.os,e⟩)) (fun O O O O=>False) (fun O O O=>False) (fun O O O O O=>False) (fun O O O O O=>False) (fun O O O=>False)
theorem pK{b:Bool}{T F:S→Prop}{P:Bool→Prop}(h:br b s T F)(h1:∀k,T ⟨s.vs,s.os,k⟩→P true)(h2:∀k,F ⟨s.vs,s.os,k⟩→P false):P b:=by
 obtain⟨vs,os,k⟩:=s
 cases k with
 | b c k=> (obtain⟨rfl,h⟩:=h;cases b with | true=>exact h1 k h | false=>exact h2 k h)
 | a k=>cases b with | true=>exact h1 k h | false=>exact h2 k h
 | sp t e=>cases b with | true=>exact h1 t (h.1 rfl) | false=>exact h2 e (h.2 rfl)
 | _=>exact h.elim
structure KU(e:Expr)(ai sw:Bool):Prop where
 st:∀rest env,starEach (e::rest) env=(false,eval e env)::starEach rest env
 bm:∀op,behindInMarks op e=false
 fs:∀env x,foldedSetIterable e env x=pure x
 ab:ai=true→∀nm env whole,attributeBase e nm env whole=whole
 sp:sw=true→∀t l env,swapsWith e t l env=pure false
structure SE(C:Ctx) where
 e:Expr
 ev:S→(RV→S→Prop)→Prop
 tv:S→(Bool→S→Prop)→Prop
 ai:Bool
 sw:Bool
 ok:∀ {ρ env M s K},bQ C ρ env→ev s K→W0 C.g VR (eval e env) (tr C ρ M s) (PV C ρ M K)
 tok:∀ {ρ env M s K},bQ C ρ env→tv s K→W0 C.g RQ (isTrue e env (eval e env)) (tr C ρ M s) (PB C ρ M K)
 fm:KU e ai sw
section
variable {C:Ctx}{ρ:dz}{env:Env}{M:Mem}{s:S}
def sY(a:RV)(s:S)(K:Bool→S→Prop):Prop:=mB a (fun b=>K b s)<|mI a (fun i=>K (i !=0) s)<|mS a (fun x=>x.length≤sizeLine∧K ((x.length:Int) !=0) s)<|mL a (fun l=>l.length≤sizeLine∧K (!decide (l.length=0)) s)<|mN a (K false s) False
theorem jJ{K:Bool→S→Prop}(h:sY a s K):W1 C.g RQ truthy (aa ρ a) (tr C ρ M s) (PB C ρ M K):=
 A5 (P:=fun a=>W1 C.g RQ truthy (aa ρ a) (tr C ρ M s) (PB C ρ M K)) h (fun b h=>aM (pb h)) fun h=>cK (P:=fun a=>W1 C.g RQ truthy (aa ρ a) (tr C ρ M s) (PB C ρ M K)) h (fun b h=>qo (pb h)) fun h=>cZ (P:=fun a=>W1 C.g RQ truthy (aa ρ a) (tr C ρ M s) (PB C ρ M K)) h (fun b h=>qw h.1 (pb h.2)) fun h=>fA (P:=fun a=>W1 C.g RQ truthy (aa ρ a) (tr C ρ M s) (PB C ρ M K)) h (fun l h=>qC h.1 (pb h.2)) fun h=>w7 (P:=fun a=>W1 C.g RQ truthy (aa ρ a) (tr C ρ M s) (PB C ρ M K)) h (fun h=>fJ (pb h)) False.elim
noncomputable def SE.rT(e:Expr)(ev:S→(RV→S→Prop)→Prop)(ok:∀ {ρ env M s K},bQ C ρ env→ev s K→W0 C.g VR (eval e env) (tr C ρ M s) (PV C ρ M K))
  (he:∀env,isTrue e env (eval e env)=(do let v ← eval e env;standAt e.pos;holding [v] (truthy v)):=by exact fun O=>rfl) (fm:KU e true true:=by exact⟨fun O O=>rfl,fun O=>rfl,fun O O=>rfl,fun O O O O=>rfl,fun O O O O=>rfl⟩):SE C:=
 ⟨e,ev,fun s K=>ev s fun a s1=>sY a s1 K,true,true,ok,fun fr h=>bw (bz (ok fr h) fun O O h=>jJ h) (he _),fm⟩
noncomputable def nP(x:Str)(l a:Nat):Pos:=⟨l,a,l,a+x.length⟩
noncomputable def fZ(a b:Pos)(i j:Nat):Pos:=⟨a.line,a.col - i,b.endLine,b.endCol+j⟩
noncomputable def SE.p(x:SE C):Pos:=x.e.pos
noncomputable def fP(l:List (SE C)):Pos:=l.casesOn default fun x O=>x.p
noncomputable def lP(l:List (SE C)):Pos:=l.foldl (fun O x=>x.p) default
noncomputable def cP(f:Pos)(l:List (SE C)):Pos:=l.casesOn (fZ f f 0 2) fun O O=>fZ f (lP l) 0 1
noncomputable def dP(n l a:Nat):Pos:=⟨l,a,l,a+cond (blt n 10) 1 2⟩
def oR{α:Type}(o:Option α)(f:α→Prop):Prop:=o.casesOn False f
theorem b6{α:Type}{o:Option α}{f:α→Prop}(h:oR o f):∃x,o=some x∧f x:=by cases o with | none=>exact h.elim | some x=>exact⟨x,rfl,h⟩
noncomputable def i4{α:Type}[Inhabited α](l:List α)(i:Nat):α:=(ka l i).getD default
theorem eX{α:Type}[Inhabited α]{l:List α}{i:Nat}{x:α}(h:ka l i=some x):i4 l i=x:=by unfold i4;rw[h];rfl
noncomputable def SE.loc(i:Nat)(pos:Pos):SE C:=SE.rT (.Name (i4 C.loc i) pos) (fun s K=>oR (ka C.loc i) fun O=>oR (A4 i s.vs) fun v=>K v s)
 fun {ρ env M s K} fr h=>by
  obtain⟨x,hx,h⟩:=b6 h
  obtain⟨v,hv,h⟩:=b6 h
  obtain⟨cs,N,_⟩:=fr.N
  rw[eX hx]
  exact aA N (fr.hl _ (bW hx)) (fW fr.e (m_ hx hv) (pv h))
noncomputable def SE.lo(i l a:Nat):SE C:=SE.loc i (nP (i4 C.loc i) l a)
def oC(o:Option EO)(f:Option RV→Prop):Prop:=o.casesOn False fun e=>e.casesOn (fun O=>False) (fun O=>False) f (fun O O=>False)
theorem sZ{o:Option EO}{f:Option RV→Prop}(h:oC o f):∃v,o=some (.cell v)∧f v:=by
 cases o with | none=>exact h.elim | some e=>cases e with | cell v=>exact⟨v,rfl,h⟩ | _=>exact h.elim
theorem b7{k:Nat}{o:EO}{os:Os}(h:bM k os=some o):∀p∈o.mem ρ k,p∈ay ρ os:=by
 induction os with
 | nil=>cases h
 | cons q t ih=>
  intro p hp
  have h':cond (beq q.1 k) (some q.2) (bM k t)=some o:=h
  show p∈q.2.mem ρ q.1++ay ρ t
  cases hb:beq q.1 k with
  | true=>rw[hb] at h';cases h';rw[U7 hb];exact YG _ hp
  | false=>rw[hb] at h';exact aav _ (ih h' p hp)
theorem A8(k:NameKind)(h:(k== .cell||k== .free)=true):k= .cell∨k= .free:=by cases k <;> first | exact .inl rfl | exact .inr rfl | cases h
noncomputable def SE.cc(i:Nat)(pos:Pos):SE C:=SE.rT (.Name (i4 C.cc i).1 pos) (fun s K=>oR (ka C.cc i) fun p=>eE (p.2.1== .cell||p.2.1== .free) (oC (bM p.2.2 s.os) fun o=>oR o fun v=>K v s))
 fun {ρ env M s K} fr h=>by
  obtain⟨x,hx,h⟩:=b6 h
  obtain⟨hk,h⟩:=aq h
  obtain⟨o,ho,h⟩:=sZ h
  obtain⟨v,rfl,h⟩:=b6 h
  obtain⟨cs,N,rR⟩:=fr.N
  rw[eX hx]
  have hm:=(fr.hc _ (bW hx)).1
  have hc:=rR _ (bW hx)
  have A9:(ρ x.2.2,AO.cell (some (aa ρ v)))∈(tr C ρ M s).mem:=YG _ (b7 ho _ E7)
  have hl:Ld C.g env C.names cs x.1 x.2.1 (tr C ρ M s) (PV C ρ M K):=by
   rcases A8 _ hk with e | e
   ·rw[e];exact ldc fr.e hc A9 (pv h)
   ·rw[e];exact SJ fr.e hc A9 (pv h)
  exact aA N hm hl
noncomputable def SE.ce(i l a:Nat):SE C:=SE.cc i (nP (i4 C.cc i).1 l a)
noncomputable def SE.oA(i:Nat)(pos:Pos):SE C:=SE.rT (.Name (i4 C.gx i).1 pos) (fun s K=>eE (C.oA.any (beq i)) (oR (ka C.gx i) fun p=>K p.2.rv s))
 fun {ρ env M s K} fr h=>by
  obtain⟨hi,h⟩:=aq h
  obtain⟨x,hx,h⟩:=b6 h
  obtain⟨cs,N,_⟩:=fr.N
  obtain⟨j,hj,IW⟩:=Y1.mp hi
  cases U7 IW
  rw[eX hx]
  have hm:=fr.hg _ hj _ hx
  have hg:=fr.hx _ (bW hx)
  have G:EP C.g [(x.1,x.2.val)]:=fun p hp=>by cases Yz.mp hp;exact hg
  have hl:∀cs,Ld C.g env C.names cs x.1 .globalImplicit (tr C ρ M s) (PV C ρ M K):=fun cs=>by
   obtain⟨y,v⟩:=x
   cases v with
   | i n t=>exact SX fr.e G E7 (pv h)
   | _=>exact Ao fr.e G E7 (pv h)
  exact aA N hm (hl _)
noncomputable def SE.gl(i l a:Nat):SE C:=SE.oA i (nP (i4 C.gx i).1 l a)
noncomputable def SE.int(i:Int)(k:Nat)(pos:Pos):SE C:=SE.rT (.Constant (.int i) k pos) (fun s K=>K (.v (.int i)) s) fun fr h=>rY (pv h)
noncomputable def SE.str(i:Str)(k:Nat)(pos:Pos):SE C:=SE.rT (.Constant (.str i) k pos) (fun s K=>K (.v (.str i)) s) fun fr h=>Iv (pv h)
noncomputable def SE.nt(i l a:Nat):SE C:=SE.int i 0 (dP i l a)
noncomputable def SE.st(x:Str)(l a:Nat):SE C:=SE.str x 0 ⟨l,a,l,a+x.length+2⟩
noncomputable def SE.aI(i:UInt64)(k:Nat)(pos:Pos):SE C:=SE.rT (.Constant (.float i) k pos) (fun s K=>K (.v (.aI i)) s) fun fr h=>NZ (pv h)
noncomputable def SE.none(k:Nat)(pos:Pos):SE C:=SE.rT (.Constant .none k pos) (fun s K=>K (.v .none) s) fun fr h=>qe (pv h)
noncomputable def SE.bool(b:Bool)(k:Nat)(pos:Pos):SE C:=SE.rT (.Constant (.bool b) k pos) (fun s K=>K (.v (.bool b)) s) fun fr h=>gR (pv h)
def oL(o:Option EO)(f:List AV→Prop)(d:Prop):Prop:=o.casesOn d fun e=>e.casesOn f (fun O=>d) (fun O=>d) (fun O O=>d)
def oW(o:Option EO)(f:List AV→Prop)(d:Prop):Prop:=o.casesOn d fun e=>e.casesOn (fun O=>d) f (fun O=>d) (fun O O=>d)
theorem g8{o:Option EO}{f:List AV→Prop}{d R:Prop}(h:oL o f d)(h1:∀l,o=some (.list l)→f l→R)(h2:d→R):R:=by
 cases o with | none=>exact h2 h | some e=>cases e with | list v=>exact h1 _ rfl h | _=>exact h2 h
theorem OY{o:Option EO}{f:List AV→Prop}{d R:Prop}(h:oW o f d)(h1:∀l,o=some (.aU l)→f l→R)(h2:d→R):R:=by
 cases o with | none=>exact h2 h | some e=>cases e with | aU v=>exact h1 _ rfl h | _=>exact h2 h
def la(a:RV)(s:S)(f:List AV→Prop)(d:Prop):Prop:=mL a f (mR a (fun k=>oL (bM k s.os) f d) d)
theorem s8{f:List AV→Prop}{d:Prop}{P:AV→Prop}(h:la a s f d)(ρ:dz)(M:Mem)(h1:∀x l,cr x l (tr C ρ M s).mem→f l→P x)(h2:d→P (aa ρ a)):P (aa ρ a):=
 fA (P:=fun a=> (d→P (aa ρ a))→P (aa ρ a)) h (fun l h O=>h1 (.lst l) l (.lst ..) h) (fun h=>eF (P:=fun a=> (d→P (aa ρ a))→P (aa ρ a)) h (fun k h h2=>g8 h (fun l e' h=>h1 _ l (.mem (YG _ (b7 e' _ E7))) h) h2) fun h h2=>h2 h) h2
def lw(a:RV)(s:S)(f:List AV→Prop)(d:Prop):Prop:=mR a (fun k=>oW (bM k s.os) f d) d
theorem OZ{f:List AV→Prop}{d:Prop}{P:RV→Prop}(h:lw a s f d)(ρ:dz)(M:Mem)(h1:∀k l,(ρ k,AO.aU l)∈(tr C ρ M s).mem→f l→P (.r k))(h2:d→P a):P a:=
 eF (P:=fun a=> (d→P a)→P a) h (fun k h h2=>OY h (fun l e' h=>h1 k l (YG _ (b7 e' _ E7)) h) h2) (fun h h2=>h2 h) h2
end
end
end
section
section
section
variable {C:Ctx}{ρ:dz}{env:Env}{M:Mem}{s:S}{α β:Type}
theorem IX{f:Value→Value→Sem Value}{x y:AV}{st:AS}{K:RV→S→Prop}{G:AV→AS→Prop}(h:W2 C.g VR f x y st (PV C ρ M K))(k:∀rv s,K rv s→G (aa ρ rv) (tr C ρ M s)):W2 C.g VR f x y st G:=fun F s v u r hv hu K' E kk=>h F s v u r hv hu K' E fun F' b a bH s' l r hb q=>by
 obtain⟨w,q⟩:=q
 obtain⟨F2,l2,r2⟩:=w F' s' r
 exact kk F2 _ a _ s' (l.trans l2) r2 (hb.mono l2) (k _ _ q)
noncomputable abbrev Op:=RV→RV→S→(RV→S→Prop)→Prop
def f3(f:Value→Value→Sem Value)(o:Op):Prop:= ∀ {C ρ env M a b s K},bQ C ρ env→o a b s K→W2 C.g VR f (aa ρ a) (aa ρ b) (tr C ρ M s) (PV C ρ M K)
def ii(a b:RV)(f:Int→Int→Prop)(d:Prop):Prop:=mI a (fun i=>mI b (f i) False) d
theorem dj{f:Int→Int→Prop}{d:Prop}{P:RV→RV→Prop}(h:ii a b f d)(h1:∀i j,f i j→P (.v (.int i)) (.v (.int j)))(h2:d→P a b):P a b:=cK (P:=fun a=> (d→P a b)→P a b) h (fun i h h2=>cK h (fun j h=>h1 i j h) False.elim) (fun h h2=>h2 h) h2
def ff(a b:RV)(f:UInt64→UInt64→Prop)(d:Prop):Prop:=mF a (fun i=>mF b (f i) d) d
theorem jK{f:UInt64→UInt64→Prop}{d:Prop}{P:RV→RV→Prop}(h:ff a b f d)(h1:∀i j,f i j→P (.v (.aI i)) (.v (.aI j)))(h2:d→P a b):P a b:=pJ (P:=fun a=> (d→P a b)→P a b) h (fun i h h2=>pJ h (fun j h=>h1 i j h) h2) (fun h h2=>h2 h) h2
def fi(a b:RV)(f:UInt64→Int→Prop)(d:Prop):Prop:=mF a (fun i=>mI b (f i) d) d
theorem A_{f:UInt64→Int→Prop}{d:Prop}{P:RV→RV→Prop}(h:fi a b f d)(h1:∀i j,f i j→P (.v (.aI i)) (.v (.int j)))(h2:d→P a b):P a b:=pJ (P:=fun a=> (d→P a b)→P a b) h (fun i h h2=>cK h (fun j h=>h1 i j h) h2) (fun h h2=>h2 h) h2
def ss(a b:RV)(f:Str→Str→Prop)(d:Prop):Prop:=mS a (fun i=>mS b (f i) d) d
theorem s9{f:Str→Str→Prop}{d:Prop}{P:RV→RV→Prop}(h:ss a b f d)(h1:∀i j,f i j→P (.v (.str i)) (.v (.str j)))(h2:d→P a b):P a b:=cZ (P:=fun a=> (d→P a b)→P a b) h (fun i h h2=>cZ h (fun j h=>h1 i j h) h2) (fun h h2=>h2 h) h2
noncomputable def IY:Op:=fun a b s K=>ii a b (fun i j=>K (.v (.int (i+j))) s)<|ss a b (fun x y=>x.length+y.length≤sizeLine∧K (.v (.str (x++y))) s)<|
 ff a b (fun x y=>K (.v (.aI (add x y))) s)<|fi a b (fun x n=>isInf (ofInt n)=false∧K (.v (.aI (add x (ofInt n)))) s)<|
 la a s (fun l=>la b s (fun m=>l.length+m.length≤sizeLine∧K (.v (.lst (l++m))) s) False) False
theorem A':f3 (binaryOp .Add) IY:=fun {C ρ env M a b s K} fr h=>
 dj (P:=fun a b=>W2 C.g VR _ (aa ρ a) (aa ρ b) (tr C ρ M s) (PV C ρ M K)) h (fun O O h=>N5 (db h)) fun h=>s9 (P:=fun a b=>W2 C.g VR _ (aa ρ a) (aa ρ b) (tr C ρ M s) (PV C ρ M K)) h (fun O O h=>Kj h.1 (db h.2)) fun h=>
 jK (P:=fun a b=>W2 C.g VR _ (aa ρ a) (aa ρ b) (tr C ρ M s) (PV C ρ M K)) h (fun O O h=>KG (db h)) fun h=>A_ (P:=fun a b=>W2 C.g VR _ (aa ρ a) (aa ρ b) (tr C ρ M s) (PV C ρ M K)) h (fun O O h=>FD h.1 (db h.2)) fun h=>
 s8 (P:=fun x=>W2 C.g VR _ x (aa ρ b) (tr C ρ M s) (PV C ρ M K)) h ρ M (fun y l hl h=>s8 (P:=fun x=>W2 C.g VR _ y x (tr C ρ M s) (PV C ρ M K)) h ρ M (fun O m hm h=>yF hl hm h.1 (db h.2)) False.elim) False.elim
noncomputable def IZ:Op:=fun a b s K=>ii a b (fun i j=>K (.v (.int (i - j))) s)<|ff a b (fun x y=>K (.v (.aI (Float64.sub x y))) s)<|fi a b (fun x n=>isInf (ofInt n)=false∧K (.v (.aI (Float64.sub x (ofInt n)))) s) False
theorem Ba:f3 (binaryOp .Sub) IZ:=fun {C ρ env M a b s K} fr h=>
 dj (P:=fun a b=>W2 C.g VR _ (aa ρ a) (aa ρ b) (tr C ρ M s) (PV C ρ M K)) h (fun O O h=>N6 (db h)) fun h=>jK (P:=fun a b=>W2 C.g VR _ (aa ρ a) (aa ρ b) (tr C ρ M s) (PV C ρ M K)) h (fun O O h=>KH (db h)) fun h=>A_ (P:=fun a b=>W2 C.g VR _ (aa ρ a) (aa ρ b) (tr C ρ M s) (PV C ρ M K)) h (fun O O h=>FC h.1 (db h.2)) False.elim
noncomputable def I0:Op:=fun a b s K=>ii a b (fun i j=>IntMulOk i j∧K (.v (.int (i*j))) s)<|ff a b (fun x y=>K (.v (.aI (mul x y))) s)<|fi a b (fun x n=>isInf (ofInt n)=false∧K (.v (.aI (mul x (ofInt n)))) s)<|
 mL a (fun l=>mI b (fun x=>0≤x∧x<1000∧l.length≤1000∧K (.v (.lst (replicate x.toNat l).flatten)) s) False) False
theorem Bb:f3 (binaryOp .Mult) I0:=fun {C ρ env M a b s K} fr h=>
 dj (P:=fun a b=>W2 C.g VR _ (aa ρ a) (aa ρ b) (tr C ρ M s) (PV C ρ M K)) h (fun O O h=>N7 h.1 (db h.2)) fun h=>jK (P:=fun a b=>W2 C.g VR _ (aa ρ a) (aa ρ b) (tr C ρ M s) (PV C ρ M K)) h (fun O O h=>KI (db h)) fun h=>A_ (P:=fun a b=>W2 C.g VR _ (aa ρ a) (aa ρ b) (tr C ρ M s) (PV C ρ M K)) h (fun O O h=>FE h.1 (db h.2)) fun h=>
 fA (P:=fun a=>W2 C.g VR _ (aa ρ a) (aa ρ b) (tr C ρ M s) (PV C ρ M K)) h (fun l h=>cK (P:=fun b=>W2 C.g VR _ (.lst l) (aa ρ b) (tr C ρ M s) (PV C ρ M K)) h (fun x h=>KR h.1 h.2.1 h.2.2.1 (db h.2.2.2)) False.elim) False.elim
noncomputable def I1:Op:=fun a b s K=>ii a b (fun i j=>j≠0∧j.natAbs<1073741824∧K (.v (.int (i.fdiv j))) s) False
theorem Bc:f3 (binaryOp .FloorDiv) I1:=fun {C ρ env M a b s K} fr h=>dj (P:=fun a b=>W2 C.g VR _ (aa ρ a) (aa ρ b) (tr C ρ M s) (PV C ρ M K)) h (fun O O h=>IA h.1 h.2.1 (db h.2.2)) False.elim
noncomputable def I2:Op:=fun a b s K=>ii a b (fun i j=>j≠0∧K (.v (.int (i.fmod j))) s)<|ff a b (fun i j=>isZero j=false∧K (.v (.aI (divmod i j).2)) s) False
theorem Bd:f3 (binaryOp .Mod) I2:=fun {C ρ env M a b s K} fr h=>dj (P:=fun a b=>W2 C.g VR _ (aa ρ a) (aa ρ b) (tr C ρ M s) (PV C ρ M K)) h (fun O O h=>Iz h.1 (db h.2)) fun h=>jK (P:=fun a b=>W2 C.g VR _ (aa ρ a) (aa ρ b) (tr C ρ M s) (PV C ρ M K)) h (fun O O h=>KL h.1 (db h.2)) False.elim
noncomputable def I3:Op:=fun a b s K=>ii a b (fun i j=>0≤i∧i<1000000∧0<j∧K (.v (.aI (bC i.toNat j.toNat))) s)<|ff a b (fun i j=>isZero j=false∧K (.v (.aI (div i j))) s) False
theorem Be:f3 (binaryOp .Div) I3:=fun {C ρ env M a b s K} fr h=>dj (P:=fun a b=>W2 C.g VR _ (aa ρ a) (aa ρ b) (tr C ρ M s) (PV C ρ M K)) h (fun O O h=>OV h.1 h.2.1 h.2.2.1 (db h.2.2.2)) fun h=>jK (P:=fun a b=>W2 C.g VR _ (aa ρ a) (aa ρ b) (tr C ρ M s) (PV C ρ M K)) h (fun O O h=>KJ h.1 (db h.2)) False.elim
noncomputable def I4:Op:=fun a b s K=>ii a b (fun i j=>0≤j∧(Builtin.Int.intBits i:Int)*j≤2 ^ 27∧K (.v (.int (i ^ j.toNat))) s) False
theorem Bf:f3 (binaryOp .Pow) I4:=fun {C ρ env M a b s K} fr h=>dj (P:=fun a b=>W2 C.g VR _ (aa ρ a) (aa ρ b) (tr C ρ M s) (PV C ρ M K)) h (fun O O h=>N8 h.1 h.2.1 (db h.2.2)) False.elim
noncomputable def I5:Op:=fun a b s K=>ii a b (fun i j=>0≤j∧K (.v (.int (i.fdiv (2 ^ j.toNat)))) s) False
theorem Bg:f3 (binaryOp .RShift) I5:=fun {C ρ env M a b s K} fr h=>dj (P:=fun a b=>W2 C.g VR _ (aa ρ a) (aa ρ b) (tr C ρ M s) (PV C ρ M K)) h (fun O O h=>N9 h.1 (db h.2)) False.elim
noncomputable def I6:Op:=fun a b s K=>ii a b (fun i j=>K (.v (.int (Builtin.bitAnd i j))) s) False
theorem Bh:f3 (binaryOp .BitAnd) I6:=fun {C ρ env M a b s K} fr h=>dj (P:=fun a b=>W2 C.g VR _ (aa ρ a) (aa ρ b) (tr C ρ M s) (PV C ρ M K)) h (fun O O h=>N_ (db h)) False.elim
noncomputable def SE.FJ(l r:SE C)(op:Operator)(o:Op)(ho:f3 (binaryOp op) o)(pos:Pos):SE C:=SE.rT (.BinOp l.e op r.e pos) (fun s K=>l.ev s fun a s1=>r.ev s1 fun b s2=>o a b s2 K)
 fun fr h=>qf (bz (l.ok fr h) fun O O h=>bz (r.ok fr h) fun O O h=>ho fr h)
noncomputable def SE.add(l r:SE C)(p:Pos:=fZ l.p r.p 0 0):SE C:=SE.FJ l r .Add IY A' p
noncomputable def SE.sub(l r:SE C)(p:Pos:=fZ l.p r.p 0 0):SE C:=SE.FJ l r .Sub IZ Ba p
noncomputable def SE.mul(l r:SE C)(p:Pos:=fZ l.p r.p 0 0):SE C:=SE.FJ l r .Mult I0 Bb p
noncomputable def SE.div(l r:SE C)(p:Pos:=fZ l.p r.p 0 0):SE C:=SE.FJ l r .FloorDiv I1 Bc p
noncomputable def SE.mod(l r:SE C)(p:Pos:=fZ l.p r.p 0 0):SE C:=SE.FJ l r .Mod I2 Bd p
noncomputable def SE.bC(l r:SE C)(p:Pos:=fZ l.p r.p 0 0):SE C:=SE.FJ l r .Div I3 Be p
noncomputable def SE.pow(l r:SE C)(p:Pos:=fZ l.p r.p 0 0):SE C:=SE.FJ l r .Pow I4 Bf p
noncomputable def SE.shr(l r:SE C)(p:Pos:=fZ l.p r.p 0 0):SE C:=SE.FJ l r .RShift I5 Bg p
noncomputable def SE.band(l r:SE C)(p:Pos:=fZ l.p r.p 0 0):SE C:=SE.FJ l r .BitAnd I6 Bh p
noncomputable def SE.neg(x:SE C)(pos:Pos:=fZ x.p x.p 1 0):SE C:=SE.rT (.UnaryOp .USub x.e pos) (fun s K=>x.ev s fun a s1=>mI a (fun i=>K (.v (.int (-i))) s1) False)
 (fun {ρ env M s K} fr h=>J' (bz (x.ok fr h) fun O s1 h=>cK (P:=fun a=>W1 C.g VR _ (aa ρ a) (tr C ρ M s1) (PV C ρ M K)) h (fun i h=>Oa (db h)) False.elim))
def fK(a b:AV)(c:Bool):Prop:= ∃d e,a=mX d∧b=mX e∧noDict d=true∧noDict e=true∧shaped d=true∧shaped e=true∧eqv d e=c
def Bi(l:List AV)(b:AV)(c:Bool):Prop:= ∃d e,l=mY d∧b=mX e∧noDicts d=true∧noDict e=true∧shaped (.list d)=true∧shaped e=true∧eqv (.list d) e=c
def Rv(n:Bool)(a b:RV)(s:S)(K:RV→S→Prop):Prop:=
 hA s (fun s=>ii a b (fun i j=>K (.v (.bool (cond n (!(i==j)) (i==j)))) s)<|ss a b (fun i j=>K (.v (.bool (cond n (!(i==j)) (i==j)))) s) False)<|
 hB s fun c s=>mV b (fun y=>mV a (fun x=>fK x y c∧K (.v (.bool (cond n (!c) c))) s)<|mR a (fun k=>oL (bM k s.os) (fun l=>Bi l y c∧K (.v (.bool (cond n (!c) c))) s) False) False) False
theorem lN{K:RV→S→Prop}{x:AV}{k:Hint}(h:K (.v x) ⟨s.vs,s.os,k⟩):PV C ρ M K x (tr C ρ M s):=db (s:=⟨s.vs,s.os,k⟩) h
theorem gk{K:RV→S→Prop}{b c:Bool}{k:Hint}(e:b=c)(h:K (.v (.bool c)) ⟨s.vs,s.os,k⟩):PV C ρ M K (.bool b) (tr C ρ M s):=by subst e;exact lN h
theorem O0{g:Gd}{st:AS}{x y:AV}{c:Bool}{Q:AV→AS→Prop}(h:fK x y c)(h8:8≤g.n)(q:Q (.bool c) st):W2 g VR (compareOp .Eq) x y st Q:=by
 obtain⟨d,e,rfl,rfl,h1,h2,h3,h4,rfl⟩:=h
 exact OF h1 h2 h3 h4 h8 q
theorem O1{g:Gd}{st:AS}{x y:AV}{c:Bool}{Q:AV→AS→Prop}(h:fK x y c)(h8:8≤g.n)(q:Q (.bool (!c)) st):W2 g VR (compareOp .NotEq) x y st Q:=by
 obtain⟨d,e,rfl,rfl,h1,h2,h3,h4,rfl⟩:=h
 exact OG h1 h2 h3 h4 h8 q
theorem KV{g:Gd}{st:AS}{a:Addr}{c:Bool}(hm:(a,AO.list l)∈st.mem)(h:Bi l y c)(h8:8≤g.n)(q:Q (.bool c) st):W2 g VR (compareOp .Eq) (.val (.ref a)) y st Q:=by
 obtain⟨d,e,rfl,rfl,h1,h2,h3,h4,rfl⟩:=h
 exact KD hm h1 h2 h3 h4 h8 q
theorem KW{g:Gd}{st:AS}{a:Addr}{c:Bool}(hm:(a,AO.list l)∈st.mem)(h:Bi l y c)(h8:8≤g.n)(q:Q (.bool (!c)) st):W2 g VR (compareOp .NotEq) (.val (.ref a)) y st Q:=by
 obtain⟨d,e,rfl,rfl,h1,h2,h3,h4,rfl⟩:=h
 exact KS hm h1 h2 h3 h4 h8 q
theorem FK:f3 (compareOp .Eq) (Rv false):=fun {C ρ env M a b s K} fr h=>
 w9 h (fun k h=>dj (P:=fun a b=>W2 C.g VR _ (aa ρ a) (aa ρ b) (tr C ρ M s) (PV C ρ M K)) h (fun O O h=>Ki (gk rfl h)) fun h=>s9 (P:=fun a b=>W2 C.g VR _ (aa ρ a) (aa ρ b) (tr C ρ M s) (PV C ρ M K)) h (fun O O h=>IB (gk rfl h)) False.elim) fun h=>A7 h fun c k h=>
  cL (P:=fun b=>W2 C.g VR _ (aa ρ a) (aa ρ b) (tr C ρ M s) (PV C ρ M K)) h (fun y h=>cL (P:=fun a=>W2 C.g VR _ (aa ρ a) y (tr C ρ M s) (PV C ρ M K)) h (fun x h=>O0 h.1 fr.h8 (gk rfl h.2)) fun h=>eF (P:=fun a=>W2 C.g VR _ (aa ρ a) y (tr C ρ M s) (PV C ρ M K)) h (fun i h=>g8 h (fun l e' h=>KV (YG _ (b7 e' _ E7)) h.1 fr.h8 (gk rfl h.2)) False.elim) False.elim) False.elim
theorem FN:f3 (compareOp .NotEq) (Rv true):=fun {C ρ env M a b s K} fr h=>
 w9 h (fun k h=>dj (P:=fun a b=>W2 C.g VR _ (aa ρ a) (aa ρ b) (tr C ρ M s) (PV C ρ M K)) h (fun O O h=>SI (gk rfl h)) fun h=>s9 (P:=fun a b=>W2 C.g VR _ (aa ρ a) (aa ρ b) (tr C ρ M s) (PV C ρ M K)) h (fun O O h=>Od (gk rfl h)) False.elim) fun h=>A7 h fun c k h=>
  cL (P:=fun b=>W2 C.g VR _ (aa ρ a) (aa ρ b) (tr C ρ M s) (PV C ρ M K)) h (fun y h=>cL (P:=fun a=>W2 C.g VR _ (aa ρ a) y (tr C ρ M s) (PV C ρ M K)) h (fun x h=>O1 h.1 fr.h8 (gk rfl h.2)) fun h=>eF (P:=fun a=>W2 C.g VR _ (aa ρ a) y (tr C ρ M s) (PV C ρ M K)) h (fun i h=>g8 h (fun l e' h=>KW (YG _ (b7 e' _ E7)) h.1 fr.h8 (gk rfl h.2)) False.elim) False.elim) False.elim
def f4(a b:RV)(c:Bool):Prop:=(∃i j,a= .v (.int i)∧b= .v (.int j)∧decide (i<j)=c)∨∃x y,a= .v (.str x)∧b= .v (.str y)∧decide (x.cps.toList<y.cps.toList)=c
noncomputable def O2:Op:=fun a b s K=>Tf s (fun c s=>f4 a b c∧K (.v (.bool c)) s)<|ii a b (fun i j=>K (.v (.bool (decide (i<j)))) s)<|ss a b (fun x y=>K (.v (.bool (decide (x.cps.toList<y.cps.toList)))) s) False
theorem FO:f3 (compareOp .Lt) O2:=fun {C ρ env M a b s K} fr h=>A6 h (fun c k h=>by
  obtain⟨⟨i,j,rfl,rfl,rfl⟩ |⟨x,y,rfl,rfl,rfl⟩,h⟩:=h
  ·exact Oc (lN h)
  ·exact IN (lN h)) fun h=>
 dj (P:=fun a b=>W2 C.g VR _ (aa ρ a) (aa ρ b) (tr C ρ M s) (PV C ρ M K)) h (fun O O h=>Oc (db h)) fun h=>s9 (P:=fun a b=>W2 C.g VR _ (aa ρ a) (aa ρ b) (tr C ρ M s) (PV C ρ M K)) h (fun O O h=>IN (db h)) False.elim
noncomputable def O3:Op:=fun a b s K=>ii a b (fun i j=>K (.v (.bool (decide (i≤j)))) s)<|ff a b (fun x y=>K (.v (.bool (Float64.cmp x y==some .lt||Float64.cmp x y==some .eq))) s) False
theorem FP:f3 (compareOp .LtE) O3:=fun {C ρ env M a b s K} fr h=>dj (P:=fun a b=>W2 C.g VR _ (aa ρ a) (aa ρ b) (tr C ρ M s) (PV C ρ M K)) h (fun O O h=>SG (db h)) fun h=>jK (P:=fun a b=>W2 C.g VR _ (aa ρ a) (aa ρ b) (tr C ρ M s) (PV C ρ M K)) h (fun O O h=>OU (db h)) False.elim
noncomputable def O4:Op:=fun a b s K=>ii a b (fun i j=>K (.v (.bool (decide (j≤i)))) s) False
theorem FQ:f3 (compareOp .GtE) O4:=fun {C ρ env M a b s K} fr h=>dj (P:=fun a b=>W2 C.g VR _ (aa ρ a) (aa ρ b) (tr C ρ M s) (PV C ρ M K)) h (fun O O h=>SH (db h)) False.elim
def FS(x:AV)(l:List AV)(c:Bool):Prop:= ∃d e,x=mX d∧l=mY e∧noDict d=true∧noDicts e=true∧d.canLay0=true∧canLayAll0 e=true∧d.depth≤60∧(e.any fun y=>eqv y d)=c
def pM(C:Ctx)(x:Str)(v:AV)(c:Bool):Prop:= ∃a es n,v= .val (.ref a)∧kD C.g a es n∧(bf es x).isSome=c
noncomputable def O5(C:Ctx):Op:=fun a b s K=>hB s fun c s=>mL b (fun l=>mV a (fun x=>FS x l c∧K (.v (.bool c)) s) False)<|mV b (fun v=>mS a (fun x=>pM C x v c∧K (.v (.bool c)) s) False) False
theorem O6{g:Gd}{st:AS}{x:AV}{l:List AV}{c:Bool}{Q:AV→AS→Prop}(h:FS x l c)(h8:8≤g.n)(q:Q (.bool c) st):W2 g VR (compareOp .In) x (.lst l) st Q:=by
 obtain⟨d,e,rfl,rfl,h1,h2,h3,h4,h5,rfl⟩:=h
 exact OH h1 h2 h3 h4 h5 h8 q
theorem FT{st:AS}{x:Str}{v:AV}{c:Bool}{Q:AV→AS→Prop}(h:pM C x v c)(q:Q (.bool c) st):W2 C.g VR (compareOp .In) (.str x) v st Q:=by
 obtain⟨a,es,n,rfl,T,rfl⟩:=h
 exact Fw T q
theorem FU:∀ {ρ env M a b s K},bQ C ρ env→O5 C a b s K→W2 C.g VR (compareOp .In) (aa ρ a) (aa ρ b) (tr C ρ M s) (PV C ρ M K):=fun {ρ env M a b s K} fr h=>A7 h fun c k h=>
 fA (P:=fun b=>W2 C.g VR _ (aa ρ a) (aa ρ b) (tr C ρ M s) (PV C ρ M K)) h (fun l h=>cL (P:=fun a=>W2 C.g VR _ (aa ρ a) (.lst l) (tr C ρ M s) (PV C ρ M K)) h (fun x h=>O6 h.1 fr.h8 (lN h.2)) False.elim) fun h=>cL (P:=fun b=>W2 C.g VR _ (aa ρ a) (aa ρ b) (tr C ρ M s) (PV C ρ M K)) h (fun v h=>cZ (P:=fun a=>W2 C.g VR _ (aa ρ a) v (tr C ρ M s) (PV C ρ M K)) h (fun x h=>FT h.1 (lN h.2)) False.elim) False.elim
def UX(a:RV)(f d:Prop):Prop:=a.casesOn (fun O=>d) (fun O=>d) (fun O=>d) fun O O O=>f
theorem KX{f d:Prop}{P:RV→Prop}(h:UX a f d)(h1:∀x q c,f→P (.f x q c))(h2:d→P a):P a:=by cases a with | f x q c=>exact h1 _ _ _ h | _=>exact h2 h
noncomputable def O7:Op:=fun a b s K=>mB b (fun c=>mB a (fun d=>K (.v (.bool (d==c))) s) False)<|mN b (mN a (K (.v (.bool true)) s)<|mI a (fun O=>K (.v (.bool false)) s)<|UX a (K (.v (.bool false)) s)<|mV a (fun x=> (∃f q c,x= .fn f q c)∧K (.v (.bool false)) s) False) False
theorem Bj{g:Gd}{st:AS}{x:AV}{Q:AV→AS→Prop}(h:∃f q c,x= .fn f q c)(q:Q (.bool false) st):W2 g VR (compareOp .Is) x .none st Q:=by
 obtain⟨f,q,c,rfl⟩:=h
 exact AT ‹_›
theorem FV:f3 (compareOp .Is) O7:=fun {C ρ env M a b s K} fr h=>
 A5 (P:=fun b=>W2 C.g VR _ (aa ρ a) (aa ρ b) (tr C ρ M s) (PV C ρ M K)) h (fun c h=>A5 (P:=fun a=>W2 C.g VR _ (aa ρ a) (.bool c) (tr C ρ M s) (PV C ρ M K)) h (fun d h=>OL (db h)) False.elim) fun h=>w7 (P:=fun b=>W2 C.g VR _ (aa ρ a) (aa ρ b) (tr C ρ M s) (PV C ρ M K)) h (fun h=>w7 (P:=fun a=>W2 C.g VR _ (aa ρ a) .none (tr C ρ M s) (PV C ρ M K)) h (fun h=>uZ (db h)) fun h=>cK (P:=fun a=>W2 C.g VR _ (aa ρ a) .none (tr C ρ M s) (PV C ρ M K)) h (fun i h=>yO (db h)) fun h=>KX (P:=fun a=>W2 C.g VR _ (aa ρ a) .none (tr C ρ M s) (PV C ρ M K)) h (fun x q c h=>Bj ⟨_,_,_,rfl⟩ (db h)) fun h=>cL (P:=fun a=>W2 C.g VR _ (aa ρ a) .none (tr C ρ M s) (PV C ρ M K)) h (fun x h=>Bj h.1 (db h.2)) False.elim) False.elim
noncomputable def SE.Bk(l r:SE C)(op:CmpOp)(o:Op)(ho:∀ {ρ env M a b s K},bQ C ρ env→o a b s K→W2 C.g VR (compareOp op) (aa ρ a) (aa ρ b) (tr C ρ M s) (PV C ρ M K))(pos:Pos):SE C where
 e:= .Compare l.e [op] [r.e] pos
 ev s K:=l.ev s fun a s1=>r.ev s1 fun b s2=>o a b s2 K
 tv s K:=l.ev s fun a s1=>r.ev s1 fun b s2=>o a b s2 fun c s3=>sY c s3 K
 ai:=true
 sw:=true
 ok fr h:=uC (bz (l.ok fr h) fun O O h=>bz (r.ok fr h) fun O O h=>ho fr h) (r.fm.bm _)
 tok fr h:=aN (bz (l.ok fr h) fun O O h=>bz (r.ok fr h) fun O O h=>IX (ho fr h) fun O O h=>jJ h) (r.fm.bm _)
 fm:=⟨fun O O=>rfl,fun O=>rfl,fun O O=>rfl,fun O O O O=>rfl,fun O O O O=>rfl⟩
noncomputable def SE.eq(l r:SE C)(p:Pos:=fZ l.p r.p 0 0):SE C:=SE.Bk l r .Eq (Rv false) FK p
noncomputable def SE.ne(l r:SE C)(p:Pos:=fZ l.p r.p 0 0):SE C:=SE.Bk l r .NotEq (Rv true) FN p
noncomputable def SE.lt(l r:SE C)(p:Pos:=fZ l.p r.p 0 0):SE C:=SE.Bk l r .Lt O2 FO p
noncomputable def SE.le(l r:SE C)(p:Pos:=fZ l.p r.p 0 0):SE C:=SE.Bk l r .LtE O3 FP p
noncomputable def SE.ge(l r:SE C)(p:Pos:=fZ l.p r.p 0 0):SE C:=SE.Bk l r .GtE O4 FQ p
noncomputable def SE.isin(l r:SE C)(p:Pos:=fZ l.p r.p 0 0):SE C:=SE.Bk l r .In (O5 C) FU p
noncomputable def SE.is(l r:SE C)(p:Pos:=fZ l.p r.p 0 0):SE C:=SE.Bk l r .Is O7 FV p
end
end
end
section
section
section
variable {C:Ctx}{ρ:dz}{env:Env}{M:Mem}{s:S}{α β:Type}
def Tg(w:Bool)(es:List (SE C)):S→(Bool→S→Prop)→Prop:=es.rec (fun s K=>K w s) fun x O ih s K=>x.tv s fun b s1=>br b s1 (fun s=>cond w (ih s K) (K true s)) (fun s=>cond w (K false s) (ih s K))
def UY(x:SE C)(es:List (SE C)):S→(RV→S→Prop)→Prop:=es.rec (motive:=fun O=>SE C→S→(RV→S→Prop)→Prop) (fun x s K=>x.ev s K) (fun y O ih x s K=>x.ev s fun a s1=>sY a s1 fun b s2=>br b s2 (fun s=>ih y s K) (fun s=>K a s)) x
theorem Bl(w:Bool)(fr:bQ C ρ env):∀ {es:List (SE C)} {s:S} {K:Bool→S→Prop},Tg w es s K→W0 C.g RQ (allTrue (cond w .And .Or) (es.map SE.e) env) (tr C ρ M s) (PB C ρ M K):=by
 intro es
 induction es with
 | nil=>intro s K h;cases w;exact qg (pb h);exact oJ (pb h)
 | cons x t ih=>
  intro s K h
  cases w with
  | true=>exact yB (vb (G:=fun b aD=>if b=true then W0 C.g RQ (allTrue .And (t.map SE.e) env) aD (PB C ρ M K) else PB C ρ M K false aD) (x.tok fr h) fun b s1 h=>pK (P:=fun b=>if b=true then W0 C.g RQ (allTrue .And (t.map SE.e) env) (tr C ρ M s1) (PB C ρ M K) else PB C ρ M K false (tr C ρ M s1)) h (fun k h=>ih (s:=⟨s1.vs,s1.os,k⟩) h) fun k h=> .mk (s:=⟨s1.vs,s1.os,k⟩) Wk.refl h)
  | false=>exact Ab (vb (G:=fun b aD=>if b=true then PB C ρ M K true aD else W0 C.g RQ (allTrue .Or (t.map SE.e) env) aD (PB C ρ M K)) (x.tok fr h) fun b s1 h=>pK (P:=fun b=>if b=true then PB C ρ M K true (tr C ρ M s1) else W0 C.g RQ (allTrue .Or (t.map SE.e) env) (tr C ρ M s1) (PB C ρ M K)) h (fun k h=> .mk (s:=⟨s1.vs,s1.os,k⟩) Wk.refl h) fun k h=>ih (s:=⟨s1.vs,s1.os,k⟩) h)
theorem KY(fr:bQ C ρ env)(pos:Pos):∀ {es:List (SE C)} {x:SE C} {s:S} {K:RV→S→Prop},UY x es s K→W0 C.g VR (boolOp pos .And (evalEach (x.e::es.map SE.e) env)) (tr C ρ M s) (PV C ρ M K):=by
 intro es
 induction es with
 | nil=>intro x s K h;exact qh (x.ok fr h)
 | cons y t ih=>
  intro x s K h
  refine qi (bz (x.ok fr h) fun a s1 h=>?_)
  have hb:=jJ (C:=C) (ρ:=ρ) (M:=M) h
  refine fun F s v r hv K' E k=>hb F s v r hv K' E fun F' b c aK s2 l2 r2 hr hq=>k F' b c aK s2 l2 r2 hr ?_
  obtain⟨w,h⟩:=hq
  exact pK (P:=fun b=>if b=true then W0 C.g VR (boolOp pos .And (evalEach (y.e::t.map SE.e) env)) aK (PV C ρ M K) else PV C ρ M K (aa ρ a) aK) h (fun k h=>W0.weak w (ih (s:=⟨_,_,k⟩) h)) fun k h=> .mk (s:=⟨_,_,k⟩) w h
noncomputable def SE.and(x:SE C)(es:List (SE C))(pos:Pos:=fZ x.p (lP es) 0 0):SE C where
 e:= .BoolOp .And (x.e::es.map SE.e) pos
 ev:=UY x es
 tv:=Tg true (x::es)
 ai:=true
 sw:=true
 ok fr h:=Ac (KY fr pos h)
 tok fr h:=gB (Bl true fr h)
 fm:=⟨fun O O=>rfl,fun O=>rfl,fun O O=>rfl,fun O O O O=>rfl,fun O O O O=>rfl⟩
noncomputable def SE.or(es:List (SE C))(pos:Pos:=fZ (fP es) (lP es) 0 0):SE C where
 e:= .BoolOp .Or (es.map SE.e) pos
 ev _ _:=False
 tv:=Tg false es
 ai:=true
 sw:=true
 ok _ h:=h.elim
 tok fr h:=gB (Bl false fr h)
 fm:=⟨fun O O=>rfl,fun O=>rfl,fun O O=>rfl,fun O O O O=>rfl,fun O O O O=>rfl⟩
def UZ(b:Bool)(s:S)(T F:S→(RV→S→Prop)→Prop)(K:RV→S→Prop):Prop:=s.h.casesOn (br b s (T · K) (F · K)) (fun O O=>br b s (T · K) (F · K)) (fun O O=>br b s (T · K) (F · K)) (fun O=>br b s (T · K) (F · K)) (fun O O=>br b s (T · K) (F · K))
 (fun z t e k=> (b=true→T ⟨s.vs,s.os,t⟩ fun v s'=>v=z∧s'=⟨s.vs,s.os,.nil⟩)∧(b=false→F ⟨s.vs,s.os,e⟩ fun v s'=>v=z∧s'=⟨s.vs,s.os,.nil⟩)∧K z ⟨s.vs,s.os,k⟩) (fun O O O=>False) (fun O O O O O=>False) (fun O O O O O=>False) (fun O O O=>False)
theorem KZ{b:Bool}{s:S}{T F:S→(RV→S→Prop)→Prop}{K:RV→S→Prop}{P:Bool→Prop}(h:UZ b s T F K)(h1:∀K' s',T s' K'→s'.vs=s.vs→s'.os=s.os→(∀v s',K' v s'→∃k,K v ⟨s'.vs,s'.os,k⟩)→P true)(h2:∀K' s',F s' K'→s'.vs=s.vs→s'.os=s.os→(∀v s',K' v s'→∃k,K v ⟨s'.vs,s'.os,k⟩)→P false):P b:=by
 have key:br b s (T · K) (F · K)→P b:=fun h=>pK h (fun k h=>h1 _ ⟨s.vs,s.os,k⟩ h rfl rfl fun v s' q=> ⟨s'.h,q⟩) fun k h=>h2 _ ⟨s.vs,s.os,k⟩ h rfl rfl fun v s' q=> ⟨s'.h,q⟩
 obtain⟨vs,os,k⟩:=s
 cases k with
 | mv z t e k=>
  obtain⟨ht,he,hk⟩:=h
  cases b with
  | true=>exact h1 _ ⟨vs,os,t⟩ (ht rfl) rfl rfl fun v s' q=>by obtain⟨rfl,rfl⟩:=q;exact⟨k,hk⟩
  | false=>exact h2 _ ⟨vs,os,e⟩ (he rfl) rfl rfl fun v s' q=>by obtain⟨rfl,rfl⟩:=q;exact⟨k,hk⟩
 | nil | v | b | a | sp=>exact key h
 | _=>exact h.elim
theorem PV.map{K K':RV→S→Prop}{v:AV}{st:AS}(h:PV C ρ M K v st)(f:∀v s',K v s'→∃k,K' v ⟨s'.vs,s'.os,k⟩):PV C ρ M K' v st:=by
 obtain⟨w,k⟩:=h
 obtain⟨k',q⟩:=f _ _ k
 exact .mk (s:=⟨_,_,k'⟩) w q
noncomputable def SE.yR(t b o:SE C)(pos:Pos:=fZ b.p o.p 0 0):SE C where
 e:= .IfExp t.e b.e o.e pos
 ev s K:=t.tv s fun c s1=>UZ c s1 b.ev o.ev K
 tv _ _:=False
 ai:=true
 sw:=true
 ok {ρ env M s K} fr h:=jt (vb (G:=fun c aD=>if c=true then W0 C.g VR (eval b.e env) aD (PV C ρ M K) else W0 C.g VR (eval o.e env) aD (PV C ρ M K)) (t.tok fr h) fun c s1 h=>
  KZ (P:=fun c=>if c=true then W0 C.g VR (eval b.e env) (tr C ρ M s1) (PV C ρ M K) else W0 C.g VR (eval o.e env) (tr C ρ M s1) (PV C ρ M K)) h
   (fun K' s' h e1 e2 f=>by have:=(b.ok (M:=M) fr h).mono fun v st q=>q.map f;rw[tr,e1,e2] at this;exact this)
   (fun K' s' h e1 e2 f=>by have:=(o.ok (M:=M) fr h).mono fun v st q=>q.map f;rw[tr,e1,e2] at this;exact this))
 tok _ h:=h.elim
 fm:=⟨fun O O=>rfl,fun O=>rfl,fun O O=>rfl,fun O O O O=>rfl,fun O O O O=>rfl⟩
def uq(es:List (SE C)):S→(List RV→S→Prop)→Prop:=es.rec (fun s K=>K [] s) fun x O ih s K=>x.ev s fun a s1=>ih s1 fun as s2=>K (a::as) s2
noncomputable abbrev fM(es:List (SE C)):List Expr:=es.map SE.e
theorem eA(fr:bQ C ρ env)(pos:Pos):∀ {es:List (SE C)} {s:S} {K:List RV→S→Prop},uq es s K→W0 C.g aQ (spliced (backTo pos (starEach (fM es) env))) (tr C ρ M s) (PL C ρ M K):=by
 intro es
 induction es with
 | nil=>intro s K h;exact aB (PL.mk (rs:=[]) Wk.refl h)
 | cons x t ih=>
  intro s K h
  exact aC (bz (x.ok fr h) fun a s1 h=> (ih h).mono fun as st q=>by obtain⟨w,k⟩:=q;exact .mk (rs:=a::_) w k) (x.fm.st _ _)
def s_(rs:List RV):(List AV→Prop)→Prop:=rs.rec (fun f=>f []) fun r O ih f=>mV r (fun x=>ih fun xs=>f (x::xs)) False
theorem jL:∀ {f:List AV→Prop} {P:List AV→Prop},s_ rs f→(∀xs,f xs→P xs)→P (rs.map (aa ρ)):=by
 induction rs with
 | nil=>exact fun h k=>k _ h
 | cons r t ih=>exact fun {f P} h k=>cL (P:=fun r=>P (aa ρ r::t.map (aa ρ))) h (fun x h=>ih (P:=fun xs=>P (x::xs)) h fun xs h=>k _ h) False.elim
noncomputable def vc(n:Nat):Bool:=ble n 16777216
theorem fB{n:Nat}(h:vc n=true):n≤sizeLine:=E1 h
noncomputable def SE.tup(es:List (SE C))(k:Nat:=0)(pos:Pos:=fZ (fP es) (lP es) 1 1):SE C:=SE.rT (.Tuple (fM es) k pos) (fun s K=>uq es s fun rs s1=>s_ rs fun xs=>eE (vc xs.length) (K (.v (.tup xs)) s1))
 fun {ρ env M s K} fr h=>ju (lM (G:=fun xs st=>xs.length≤sizeLine∧PV C ρ M K (.tup xs) st) (eA fr pos h) fun rs s1 h=>jL (P:=fun xs=>xs.length≤sizeLine∧PV C ρ M K (.tup xs) (tr C ρ M s1)) h fun xs h=> ⟨fB (aq h).1,db (aq h).2⟩)
noncomputable def SE.lst(es:List (SE C))(pos:Pos:=fZ (fP es) (lP es) 1 1):SE C:=SE.rT (.List (fM es) pos) (fun s K=>uq es s fun rs s1=>s_ rs fun xs=>eE (vc xs.length) (K (.v (.lst xs)) s1))
 fun {ρ env M s K} fr h=>Ka (lM (G:=fun xs st=>xs.length≤sizeLine∧PV C ρ M K (.lst xs) st) (eA fr pos h) fun rs s1 h=>jL (P:=fun xs=>xs.length≤sizeLine∧PV C ρ M K (.lst xs) (tr C ρ M s1)) h fun xs h=> ⟨fB (aq h).1,db (aq h).2⟩)
def U_(a:RV)(f:AV→AV→AV→Prop)(d:Prop):Prop:=a.casesOn (fun x=>x.casesOn d (fun O=>d) (fun O=>d) (fun O=>d) (fun O=>d) (fun O=>d) (fun O=>d) (fun O=>d) (fun x y z=>f x y z) (fun O O O=>d) (fun O O O=>d)) (fun O=>d) (fun O=>d) fun O O O=>d
theorem K0{f:AV→AV→AV→Prop}{d:Prop}{P:RV→Prop}(h:U_ a f d)(h1:∀x y z,f x y z→P (.v (.iJ x y z)))(h2:d→P a):P a:=by cases a with | v x=> (cases x with | iJ x y z=>exact h1 _ _ _ h | _=>exact h2 h) | _=>exact h2 h
def part(x:AV)(f:Option Int→Prop):Prop:=x.casesOn (f .none) (fun O=>False) (fun i=>f (some i)) (fun O=>False) (fun O=>False) (fun O=>False) (fun O=>False) (fun O=>False) (fun O O O=>False) (fun O O O=>False) (fun O O O=>False)
theorem qE{f:Option Int→Prop}(h:part x f):∃o,fy x o∧f o:=by cases x with | none=>exact⟨_,.none,h⟩ | int i=>exact⟨_,.int i,h⟩ | _=>exact h.elim
def SE.part(o:Option (SE C)):S→(RV→S→Prop)→Prop:=o.rec (fun s K=>K (.v .none) s) fun x=>x.ev
theorem qF(fr:bQ C ρ env){o:Option (SE C)}{s:S}{K:RV→S→Prop}(h:SE.part o s K):W0 C.g VR (evalPart (o.map SE.e) env) (tr C ρ M s) (PV C ρ M K):=by
 cases o with | none=>exact r_ (db h) | some x=>exact sb (x.ok fr h)
noncomputable def WR(l u:Option (SE C)):Pos:=l.casesOn (u.casesOn default fun u=>fZ u.p u.p 1 0) fun l=>u.casesOn (fZ l.p l.p 0 1) fun u=>fZ l.p u.p 0 0
noncomputable def SE.iJ(l u p:Option (SE C))(pos:Pos:=WR l u):SE C:=SE.rT (.Slice (l.map SE.e) (u.map SE.e) (p.map SE.e) pos) (fun s K=>SE.part l s fun a s1=>SE.part u s1 fun b s2=>SE.part p s2 fun c s3=>mV a (fun x=>mV b (fun y=>mV c (fun z=>K (.v (.iJ x y z)) s3) False) False) False)
 fun {ρ env M s K} fr h=>ET (bz (qF fr h) fun a O h=>bz (qF fr h) fun b O h=>bz (qF fr h) fun c s3 h=>
  cL (P:=fun a=>PV C ρ M K (.iJ (aa ρ a) (aa ρ b) (aa ρ c)) (tr C ρ M s3)) h (fun x h=>cL (P:=fun b=>PV C ρ M K (.iJ x (aa ρ b) (aa ρ c)) (tr C ρ M s3)) h (fun y h=>cL (P:=fun c=>PV C ρ M K (.iJ x y (aa ρ c)) (tr C ρ M s3)) h (fun z h=>db h) False.elim) False.elim) False.elim)
theorem nh(slice:Expr):∀o i,∃uK,subscripted slice false o i=operate uK (getItem o i):=fun o i=>by
 cases slice with
 | Slice l u st p=>cases st <;> exact⟨_,rfl⟩
 | _=>exact⟨_,rfl⟩
def item(l:List AV)(k:Int)(s:S)(K:RV→S→Prop):Prop:=hA s (fun s=>eE (vc l.length) (oR (bT l k) fun x=>K (.v x) s)) (hV s fun x s=>l.length≤sizeLine∧bT l k=some x∧K (.v x) s)
theorem qG{l:List AV}{k:Int}{K:RV→S→Prop}{P:Prop}(h:item l k s K)(f:∀x k',l.length≤sizeLine→bT l k=some x→K (.v x) ⟨s.vs,s.os,k'⟩→P):P:=
 w9 h (fun k' h=>let⟨x,hx,h'⟩:=b6 (aq h).2;f x k' (fB (aq h).1) hx h') fun h=>dB h fun x k' h=>f x k' h.1 h.2.1 h.2.2
end
end
end
section
section
section
variable {C:Ctx}{ρ:dz}{env:Env}{M:Mem}{s:S}{α β:Type}
def Bm(C:Ctx)(v:AV)(x:Str)(y:AV):Prop:= ∃a es n i t,v= .val (.ref a)∧y= .int i∧kD C.g a es n∧bf es x=some (.int i t)
def O8(a:RV)(k:Int)(s:S)(K:RV→S→Prop):Prop:=mT a (fun l=>item l k s K)<|la a s (fun l=>item l k s K)<|lw a s (fun l=>item l k s K)<|mS a (fun x=>hV s fun y s=>x.length≤sizeLine∧(∃c,sE x k=some c∧y= .str ⟨#[c]⟩)∧K (.v y) s) False
noncomputable def stepOk(o:Option Int):Bool:=o.casesOn true fun i=>!(i==0)
theorem yS{o:Option Int}(h:stepOk o=true):o≠some 0:=fun e=>by subst e;cases h
def U'(l:List AV)(lo hi st:Option Int)(s:S)(K:RV→S→Prop):Prop:=eE (stepOk st) (l.length≤sizeLine∧hA s (fun s=>K (.v (.lst (cu l lo hi st))) s) (hV s fun r s=> .lst (cu l lo hi st)=r∧K (.v r) s))
theorem K1{a:AV}{l:List AV}{x y z:AV}{lo hi st:Option Int}{K:RV→S→Prop}(h:U' l lo hi st s K)(hL:cr a l (tr C ρ M s).mem)(hx:fy x lo)(hy:fy y hi)(hz:fy z st):W2 C.g VR getItem a (.iJ x y z) (tr C ρ M s) (PV C ρ M K):=
 let⟨h0,hsz,h⟩:=aq h
 uL hL hx hy hz (yS h0) hsz (w9 h (fun k h=>lN h) fun h=>dB h fun r k h=>by obtain⟨rfl,h⟩:=h;exact lN h)
def oI(o:Option Int)(f:Prop)(g:Int→Prop):Prop:=o.casesOn f g
def O9(a:RV)(lo hi st:Option Int)(s:S)(K:RV→S→Prop):Prop:=la a s (fun l=>U' l lo hi st s K)<|oI st (mS a (fun x=>oI lo (oI hi False fun j=>0≤j∧x.length≤sizeLine∧K (.v (.str (be x j.toNat))) s) fun j=>oI hi (0≤j∧x.length≤sizeLine∧K (.v (.str (fz x j.toNat))) s) fun O=>False)<|
 mT a (fun l=>oI lo False fun k=>oI hi (1≤k∧k≤l.length∧l.length≤sizeLine∧K (.v (.tup (l.drop k.toNat))) s) fun O=>False) False) fun O=>False
def O_(C:Ctx)(a b:RV)(s:S)(K:RV→S→Prop):Prop:=mI b (fun k=>O8 a k s K)<|U_ b (fun x y z=>part x fun lo=>part y fun hi=>part z fun st=>O9 a lo hi st s K)<|
 mS b (fun x=>mV a (fun v=>hV s fun y s=>Bm C v x y∧K (.v y) s) False) False
theorem tc{g:Gd}{st:AS}{x:Str}{i:Int}{y:AV}{Q:AV→AS→Prop}(hsz:x.length≤sizeLine)(hc:∃c,sE x i=some c∧y= .str ⟨#[c]⟩)(h:Q y st):W2 g VR getItem (.str x) (.int i) st Q:=by
 obtain⟨c,hc,rfl⟩:=hc
 exact uT hsz hc h
theorem td{aj slice:Expr}{st:AS}{v y:AV}{x:Str}{Q:AV→AS→Prop}(T:Bm C v x y)(h:Q y st):W2 C.g VR (subscriptTail aj slice) v (.str x) st Q:=by
 obtain⟨a,es,n,i,t,rfl,rfl,T,hx⟩:=T
 exact uY T hx h (nh slice)
theorem FW{aj slice:Expr}{a:RV}{k:Int}{K:RV→S→Prop}(h:O8 a k s K):W2 C.g VR (subscriptTail aj slice) (aa ρ a) (.int k) (tr C ρ M s) (PV C ρ M K):=
 pI (P:=fun a=>W2 C.g VR (subscriptTail aj slice) (aa ρ a) (.int k) (tr C ρ M s) (PV C ρ M K)) h (fun l h=>qG h fun x k' h1 h2 h=>gi (jb h1 h2 (lN h)) (nh _)) fun h=>
 s8 (P:=fun a=>W2 C.g VR (subscriptTail aj slice) a (.int k) (tr C ρ M s) (PV C ρ M K)) h ρ M (fun x l hL h=>qG h fun x k' h1 h2 h=>pj hL (yD hL h1 h2 (lN h)) (nh _)) fun h=>
 OZ (P:=fun a=>W2 C.g VR (subscriptTail aj slice) (aa ρ a) (.int k) (tr C ρ M s) (PV C ρ M K)) h ρ M (fun i l hm h=>qG h fun x k' h1 h2 h=>sN hm (sM hm h1 h2 (lN h)) (nh _)) fun h=>
 cZ (P:=fun a=>W2 C.g VR (subscriptTail aj slice) (aa ρ a) (.int k) (tr C ρ M s) (PV C ρ M K)) h (fun x h=>dB h fun y k' h=>jc (tc h.1 h.2.1 (lN h.2.2)) (nh _)) False.elim
theorem FX{aj slice:Expr}{a:RV}{x y z:AV}{lo hi st:Option Int}{K:RV→S→Prop}(h:O9 a lo hi st s K)(hx:fy x lo)(hy:fy y hi)(hz:fy z st):W2 C.g VR (subscriptTail aj slice) (aa ρ a) (.iJ x y z) (tr C ρ M s) (PV C ρ M K):=
 s8 (P:=fun a=>W2 C.g VR (subscriptTail aj slice) a (.iJ x y z) (tr C ρ M s) (PV C ρ M K)) h ρ M (fun O l hL h=>pj hL (K1 h hL hx hy hz) (nh _)) fun h=>by
  cases hz with
  | int=>exact h.elim
  | none=>
   refine cZ (P:=fun a=>W2 C.g VR (subscriptTail aj slice) (aa ρ a) (.iJ x y .none) (tr C ρ M s) (PV C ρ M K)) h (fun x h=>?_) fun h=>pI (P:=fun a=>W2 C.g VR (subscriptTail aj slice) (aa ρ a) (.iJ x y .none) (tr C ρ M s) (PV C ρ M K)) h (fun x h=>?_) False.elim
   ·cases hx with
    | none=>cases hy with | none=>exact h.elim | int j=>exact jc (OK h.1 h.2.1 (db h.2.2)) (nh _)
    | int i=>cases hy with | none=>exact jc (Fs h.1 h.2.1 (db h.2.2)) (nh _) | int j=>exact h.elim
   ·cases hx with
    | none=>exact h.elim
    | int i=>cases hy with | none=>exact gi (FA h.1 h.2.1 h.2.2.1 (db h.2.2.2)) (nh _) | int j=>exact h.elim
theorem FY{aj slice:Expr}{a b:RV}{K:RV→S→Prop}(h:O_ C a b s K):W2 C.g VR (subscriptTail aj slice) (aa ρ a) (aa ρ b) (tr C ρ M s) (PV C ρ M K):=
 cK (P:=fun b=>W2 C.g VR (subscriptTail aj slice) (aa ρ a) (aa ρ b) (tr C ρ M s) (PV C ρ M K)) h (fun k h=>FW h) fun h=>
 K0 (P:=fun b=>W2 C.g VR (subscriptTail aj slice) (aa ρ a) (aa ρ b) (tr C ρ M s) (PV C ρ M K)) h (fun x y z h=>let⟨_,hx,h⟩:=qE h;let⟨_,hy,h⟩:=qE h;let⟨_,hz,h⟩:=qE h;FX h hx hy hz) fun h=>
 cZ (P:=fun b=>W2 C.g VR (subscriptTail aj slice) (aa ρ a) (aa ρ b) (tr C ρ M s) (PV C ρ M K)) h (fun x h=>cL (P:=fun a=>W2 C.g VR (subscriptTail aj slice) (aa ρ a) (.str x) (tr C ρ M s) (PV C ρ M K)) h (fun v h=>dB h fun y k h=>td h.1 (lN h.2)) False.elim) False.elim
noncomputable def SE.get(l r:SE C)(pos:Pos:=fZ l.p r.p 0 1):SE C:=SE.rT (.Subscript l.e r.e pos) (fun s K=>l.ev s fun a s1=>r.ev s1 fun b s2=>O_ C a b s2 K)
 fun fr h=>w_sub (bz (l.ok fr h) fun O O h=>bz (r.ok fr h) fun O O h=>FY h)
end
end
end
section
section
section
variable {g:Gd}{F:FM}{C:Ctx}{ρ:dz}{env:Env}{M:Mem}{s:S}{α β:Type}
theorem RepM.perm{mem mem':Mem}{s:Shared}(r:RepM g F mem s)(p:mem.Perm mem'):RepM g F mem' s:=
 {hP:=r.hP,hF:=r.hF,hK:=r.hK,pf:=r.pf
  hm:=fun q hq=>r.hm q (p.mem_iff.mpr hq)
  ap:=fun q hq=>r.ap q (p.mem_iff.mpr hq)
  nd:=(p.map _).nodup_iff.mp r.nd
  tk:=r.tk,gens:=r.gens,os:=r.os,tab:=r.tab
  b0:=fun t ht=> ⟨(r.b0 t ht).1,(r.b0 t ht).2.1,fun q hq=> (r.b0 t ht).2.2 q (p.mem_iff.mpr hq)⟩ }
theorem Wk.perm{vars:cI}{mem mem':Mem}(p:mem.Perm mem'):Wk g ⟨vars,mem⟩ ⟨vars,mem'⟩:=fun F s r=>
 ⟨F,FM.le.refl F, {r.toRepM.perm p with ns:=r.ns,nv:=r.nv,fq:=r.fq,fH:=r.fH,eN:=fun q hq=>r.eN q (p.mem_iff.mpr hq),ft:=r.ft }⟩
def Fn(g:Gd)(fv:RV)(xs:List RV)(kn:List Str)(fw:List RV)(os:Os)(x:RV)(os':Os):Prop:=
 ∀ρ M,WC g (aa ρ fv) (xs.map (aa ρ)) kn (fw.map (aa ρ)) (ay ρ os++M) fun v m=>v=aa ρ x∧m=ay ρ os'++M
noncomputable def vd(k:Nat)(os:Os):Os:=os.rec [] fun p t ih=>cond (beq p.1 k) t (p::ih)
theorem iu{k:Nat}{o o':EO}(ρ:dz){os:Os}(h:bM k os=some o):(ay ρ os).Perm (ay ρ [(k,o)]++ay ρ (vd k os))∧(ay ρ (dA k o' os)).Perm (ay ρ [(k,o')]++ay ρ (vd k os)):=by
 show _∧_
 rw[show ay ρ [(k,o)]=o.mem ρ k++ [] from rfl,show ay ρ [(k,o')]=o'.mem ρ k++ [] from rfl,Y_,Y_]
 induction os with
 | nil=>cases h
 | cons p t ih=>
  have h':cond (beq p.1 k) (some p.2) (bM k t)=some o:=h
  have e1:dA k o' (p::t)=cond (beq p.1 k) ((p.1,o')::t) (p::dA k o' t):=rfl
  have e2:vd k (p::t)=cond (beq p.1 k) t (p::vd k t):=rfl
  rw[e1,e2]
  cases hb:beq p.1 k with
  | true=>
   rw[hb] at h';cases h';rw[← U7 hb]
   exact⟨.refl _,.refl _⟩
  | false=>
   rw[hb] at h'
   obtain⟨i1,i2⟩:=ih h'
   have sw:∀(a b c:Mem),(a++(b++c)).Perm (b++(a++c)):=fun a b c=>by rw[← YH,← YH];exact List.perm_append_comm.append_right c
   exact⟨(i1.append_left (p.2.mem ρ p.1)).trans (sw ..),(i2.append_left (p.2.mem ρ p.1)).trans (sw ..)⟩
theorem Bo{fv:RV}{xs:List RV}{kn:List Str}{fw:List RV}{x:RV}{ins outs os':Os}{R:Mem}{k:Hint}{K:RV→S→Prop}(h:Fn C.g fv xs kn fw ins x outs)(p1:(ay ρ s.os).Perm (ay ρ ins++R))(p2:(ay ρ os').Perm (ay ρ outs++R))(q:K x ⟨s.vs,os',k⟩):
  bB C.g (aa ρ fv) (xs.map (aa ρ)) kn (fw.map (aa ρ)) (tr C ρ M s) (PV C ρ M K):=
 cY fun F sh f vs kvs r hf hv hk Rr kk=>h ρ (R++M) F sh f vs kvs (r.perm (by rw[← YH];exact p1.append_right M)) hf hv hk Rr fun F' y v m s' l r' hy hq=>by
  obtain⟨rfl,rfl⟩:=hq
  exact kk F' _ v _ s' l r' hy (.mk (s:=⟨s.vs,os',k⟩) (Wk.perm (by rw[← YH];exact p2.symm.append_right M)) q)
def w_(C:Ctx)(fv:RV)(xs:List RV)(kn:List Str)(fw:List RV)(s:S)(K:RV→S→Prop):Prop:=
 s.h.casesOn False (fun O O=>False) (fun O O=>False) (fun O=>False) (fun O O=>False) (fun O O O O=>False)
  (fun x outs k=>outs.casesOn (Fn C.g fv xs kn fw [] x []∧K x ⟨s.vs,s.os,k⟩) fun p r=>oR (bM p.1 s.os) fun o=>r.casesOn (Fn C.g fv xs kn fw [(p.1,o)] x [(p.1,p.2)]∧K x ⟨s.vs,dA p.1 p.2 s.os,k⟩)
   fun q O=>oR (bM q.1 (vd p.1 s.os)) fun o2=>Fn C.g fv xs kn fw [(p.1,o),(q.1,o2)] x [(p.1,p.2),(q.1,o2)]∧K x ⟨s.vs,dA p.1 p.2 s.os,k⟩)
  (fun O O O O O=>False) (fun O O O O O=>False) (fun O O O=>False)
theorem nj{fv:RV}{xs:List RV}{kn:List Str}{fw:List RV}{K:RV→S→Prop}(h:w_ C fv xs kn fw s K):bB C.g (aa ρ fv) (xs.map (aa ρ)) kn (fw.map (aa ρ)) (tr C ρ M s) (PV C ρ M K):=by
 obtain⟨vs,os,k⟩:=s
 cases k with
 | call x outs k=>
  cases outs with
  | nil=>exact Bo (s:=⟨vs,os,_⟩) (ins:=[]) (outs:=[]) (R:=ay ρ os) h.1 (.refl _) (.refl _) h.2
  | cons p r=>
   obtain⟨o,ho,h⟩:=b6 h
   obtain⟨p1,p2⟩:=iu ρ (o':=p.2) ho
   cases r with
   | nil=>exact Bo (s:=⟨vs,os,_⟩) h.1 p1 p2 h.2
   | cons q r=>
    obtain⟨o2,Th,h⟩:=b6 h
    obtain⟨p3,_⟩:=iu ρ (o':=o2) Th
    have e:∀o:EO,ay ρ [(p.1,o),(q.1,o2)]=ay ρ [(p.1,o)]++ay ρ [(q.1,o2)]:=fun o=>by show _++(_++ [])=(_++ [])++(_++ []);simp
    exact Bo (s:=⟨vs,os,_⟩) (R:=ay ρ (vd q.1 (vd p.1 os))) h.1 (by rw[e,YH];exact p1.trans (p3.append_left _)) (by rw[e,YH];exact p2.trans (p3.append_left _)) h.2
 | _=>exact h.elim
def a1(l:List RV)(f:RV→Prop)(d:Prop):Prop:=l.casesOn d fun a r=>r.casesOn (f a) fun O O=>d
def a2(l:List RV)(f:RV→RV→Prop)(d:Prop):Prop:=l.casesOn d fun a r=>r.casesOn d fun b r=>r.casesOn (f a b) fun O O=>d
def a3(l:List RV)(f:RV→RV→RV→Prop)(d:Prop):Prop:=l.casesOn d fun a r=>r.casesOn d fun b r=>r.casesOn d fun c r=>r.casesOn (f a b c) fun O O=>d
section
variable {l:List RV}{d:Prop}{P:List RV→Prop}
theorem g9{f:RV→Prop}(h:a1 l f d)(h1:∀a,f a→P [a])(h2:d→P l):P l:=by
 cases l with | nil=>exact h2 h | cons a r=>cases r with | nil=>exact h1 a h | cons=>exact h2 h
theorem nk{f:RV→RV→Prop}(h:a2 l f d)(h1:∀a b,f a b→P [a,b])(h2:d→P l):P l:=by
 cases l with | nil=>exact h2 h | cons a r=>cases r with | nil=>exact h2 h | cons b r=>cases r with | nil=>exact h1 a b h | cons=>exact h2 h
theorem xa{f:RV→RV→RV→Prop}(h:a3 l f d)(h1:∀a b c,f a b c→P [a,b,c])(h2:d→P l):P l:=by
 cases l with | nil=>exact h2 h | cons a r=>cases r with | nil=>exact h2 h | cons b r=>cases r with | nil=>exact h2 h | cons c r=>cases r with | nil=>exact h1 a b c h | cons=>exact h2 h
end
abbrev cG(C:Ctx)(ρ:dz)(M:Mem)(s:S)(K:RV→S→Prop)(f:List Value→Sem Value)(xs:List AV):Prop:=Wl C.g VR f xs (tr C ρ M s) (PV C ρ M K)
def SumTo(l:List AV)(y:AV):Prop:= ∃ns:List Int,l=ns.map .int∧y= .int ns.sum
def Bp(l:List AV)(y:AV):Prop:= ∃ns:List Int,l=ns.map .int∧0<ns.length∧∀m,m∈ns→(∀a,a∈ns→a≤m)→y= .int m
def qH(l:List AV)(y:AV):Prop:= ∃ns:List Int,l=ns.map .int∧ns.length<64∧∀Fo:List Int,Fo.Perm ns→Fo.Pairwise (·≤·)→y= .lst (Fo.map .int)
def Bq(x:Str)(y:AV):Prop:= ∃n:Int,x=bL n∧0≤n∧n<10 ^ 10∧y= .int n
def O'(xs:List RV)(s:S)(K:RV→S→Prop):Prop:=a1 xs (fun a=>la a s (fun l=>l.length≤sizeLine∧K (.v (.int l.length)) s)<|mS a (fun x=>x.length≤sizeLine∧K (.v (.int x.length)) s) False) False
def Br(xs:List RV)(s:S)(K:RV→S→Prop):Prop:=a1 xs (fun a=>mI a (fun n=>K (.v (.wE 0 n 1)) s) False)<|a2 xs (fun a b=>ii a b (fun i j=>K (.v (.wE i j 1)) s) False)<|a3 xs (fun a b c=>ii a b (fun i j=>mI c (fun k=>k≠0∧Builtin.divisionGoesByPylong (j - i) k=false∧K (.v (.wE i j k)) s) False) False) False
def Pa(xs:List RV)(s:S)(K:RV→S→Prop):Prop:=a1 xs (fun a=>mL a (fun l=>hV s fun y s=>SumTo l y∧K (.v y) s) False) False
def Pb(xs:List RV)(s:S)(K:RV→S→Prop):Prop:=a1 xs (fun a=>mL a (fun l=>hV s fun y s=>Bp l y∧K (.v y) s) False)<|a2 xs (fun a b=>ii a b (fun i j=>K (.v (.int (if j > i then j else i))) s) False)<|
 a3 xs (fun a b c=>ff a b (fun x y=>mF c (fun z=>K (.v (.aI (k_ Float64.gt x y z))) s) False) False) False
def Pc(xs:List RV)(s:S)(K:RV→S→Prop):Prop:=a3 xs (fun a b c=>ff a b (fun x y=>mF c (fun z=>K (.v (.aI (k_ Float64.lt x y z))) s) False) False) False
def xb(xs:List RV)(s:S)(K:RV→S→Prop):Prop:=a1 xs (fun a=>mL a (fun l=>hV s fun y s=>qH l y∧K (.v y) s) False) False
def Pd(xs:List RV)(s:S)(K:RV→S→Prop):Prop:=a1 xs (fun a=>mI a (fun n=>n.natAbs<1000000∧K (.v (.str (bL n))) s) False) False
def Pe(xs:List RV)(s:S)(K:RV→S→Prop):Prop:=a1 xs (fun a=>mF a (fun x=>isFinite x=true∧K (.v (.int (bD x))) s)<|mS a (fun x=>hV s fun y s=>Bq x y∧K (.v y) s) False) False
noncomputable def isInt(b:BI):Bool:=b.casesOn false false false false false false false true false false false false false
def WS(x:AV)(c:Bool):Prop:=(∃i,x= .int i∧c=true)∨∃l,x= .tup l∧c=false
def Pf(xs:List RV)(s:S)(K:RV→S→Prop):Prop:=a2 xs (fun a b=>mG b (fun t=>eE (isInt t) (Tf s (fun c s=>mV a (fun x=>WS x c∧K (.v (.bool c)) s) False) (mI a (fun O=>K (.v (.bool true)) s)<|mT a (fun O=>K (.v (.bool false)) s) False))) False) False
theorem Bs{b:BI}(h:isInt b=true):b= .int:=by cases b <;> first | rfl | cases h
theorem FZ{xs:List RV}{K:RV→S→Prop}(h:O' xs s K):cG C ρ M s K (fun vs=>call (.builtin "len") vs) (xs.map (aa ρ)):=
 g9 (P:=fun xs=>cG C ρ M s K _ (xs.map (aa ρ))) h (fun a h=>s8 (P:=fun x=>cG C ρ M s K _ [x]) h ρ M (fun x l hL h=>Am hL h.1 (db h.2)) fun h=>cZ (P:=fun a=>cG C ρ M s K _ [aa ρ a]) h (fun x h=>yG h.1 (db h.2)) False.elim) False.elim
theorem yT{xs:List RV}{K:RV→S→Prop}(h:Br xs s K):cG C ρ M s K (fun vs=>call (.type "range") vs) (xs.map (aa ρ)):=
 g9 (P:=fun xs=>cG C ρ M s K _ (xs.map (aa ρ))) h (fun a h=>cK (P:=fun a=>cG C ρ M s K _ [aa ρ a]) h (fun x h=>Au (db h)) False.elim) fun h=>
 nk (P:=fun xs=>cG C ρ M s K _ (xs.map (aa ρ))) h (fun a b h=>dj (P:=fun a b=>cG C ρ M s K _ [aa ρ a,aa ρ b]) h (fun i j h=>Av (db h)) False.elim) fun h=>
 xa (P:=fun xs=>cG C ρ M s K _ (xs.map (aa ρ))) h (fun a b c h=>dj (P:=fun a b=>cG C ρ M s K _ [aa ρ a,aa ρ b,aa ρ c]) h (fun i j h=>cK (P:=fun c=>cG C ρ M s K _ [.int i,.int j,aa ρ c]) h (fun k h=>A2 h.1 h.2.1 (db h.2.2)) False.elim) False.elim) False.elim
theorem K2{l:List AV}{y:AV}{st:AS}{Q:AV→AS→Prop}(h:SumTo l y)(q:Q y st):Wl g VR (fun vs=>call (.builtin "sum") vs) [.lst l] st Q:=by obtain⟨ns,rfl,rfl⟩:=h;exact OI q
theorem K3{l:List AV}{y:AV}{st:AS}{Q:AV→AS→Prop}(h:Bp l y)(q:Q y st):Wl g VR (fun vs=>call (.builtin "max") vs) [.lst l] st Q:=by obtain⟨ns,rfl,h0,h⟩:=h;exact OJ h0 fun m h1 h2=>by rw[← h m h1 h2];exact q
theorem F7{l:List AV}{y:AV}{st:AS}{Q:AV→AS→Prop}(h:qH l y)(q:Q y st):Wl g VR (fun vs=>call (.builtin "sorted") vs) [.lst l] st Q:=by obtain⟨ns,rfl,h0,h⟩:=h;exact AI h0 fun m h1 h2=>by rw[← h m h1 h2];exact q
theorem K4{x:Str}{y:AV}{st:AS}{Q:AV→AS→Prop}(h:Bq x y)(q:Q y st):Wl g VR (fun vs=>call (.type "int") vs) [.str x] st Q:=by obtain⟨n,rfl,h0,h1,rfl⟩:=h;exact yN h0 h1 q
theorem F8{xs:List RV}{K:RV→S→Prop}(h:Pa xs s K):cG C ρ M s K (fun vs=>call (.builtin "sum") vs) (xs.map (aa ρ)):=
 g9 (P:=fun xs=>cG C ρ M s K _ (xs.map (aa ρ))) h (fun a h=>fA (P:=fun a=>cG C ρ M s K _ [aa ρ a]) h (fun l h=>dB h fun y k h=>K2 h.1 (lN h.2)) False.elim) False.elim
theorem ve{xs:List RV}{K:RV→S→Prop}(h:xb xs s K):cG C ρ M s K (fun vs=>call (.builtin "sorted") vs) (xs.map (aa ρ)):=
 g9 (P:=fun xs=>cG C ρ M s K _ (xs.map (aa ρ))) h (fun a h=>fA (P:=fun a=>cG C ρ M s K _ [aa ρ a]) h (fun l h=>dB h fun y k h=>F7 h.1 (lN h.2)) False.elim) False.elim
theorem F9{xs:List RV}{K:RV→S→Prop}(h:Pb xs s K):cG C ρ M s K (fun vs=>call (.builtin "max") vs) (xs.map (aa ρ)):=
 g9 (P:=fun xs=>cG C ρ M s K _ (xs.map (aa ρ))) h (fun a h=>fA (P:=fun a=>cG C ρ M s K _ [aa ρ a]) h (fun l h=>dB h fun y k h=>K3 h.1 (lN h.2)) False.elim) fun h=>
 nk (P:=fun xs=>cG C ρ M s K _ (xs.map (aa ρ))) h (fun a b h=>dj (P:=fun a b=>cG C ρ M s K _ [aa ρ a,aa ρ b]) h (fun i j h=>Kz (db h)) False.elim) fun h=>
 xa (P:=fun xs=>cG C ρ M s K _ (xs.map (aa ρ))) h (fun a b c h=>jK (P:=fun a b=>cG C ρ M s K _ [aa ρ a,aa ρ b,aa ρ c]) h (fun i j h=>pJ (P:=fun c=>cG C ρ M s K _ [.aI i,.aI j,aa ρ c]) h (fun z h=>KM (db h)) False.elim) False.elim) False.elim
theorem F_{xs:List RV}{K:RV→S→Prop}(h:Pc xs s K):cG C ρ M s K (fun vs=>call (.builtin "min") vs) (xs.map (aa ρ)):=
 xa (P:=fun xs=>cG C ρ M s K _ (xs.map (aa ρ))) h (fun a b c h=>jK (P:=fun a b=>cG C ρ M s K _ [aa ρ a,aa ρ b,aa ρ c]) h (fun i j h=>pJ (P:=fun c=>cG C ρ M s K _ [.aI i,.aI j,aa ρ c]) h (fun z h=>KO (db h)) False.elim) False.elim) False.elim
theorem Ga{xs:List RV}{K:RV→S→Prop}(h:Pd xs s K):cG C ρ M s K (fun vs=>call (.type "str") vs) (xs.map (aa ρ)):=
 g9 (P:=fun xs=>cG C ρ M s K _ (xs.map (aa ρ))) h (fun a h=>cK (P:=fun a=>cG C ρ M s K _ [aa ρ a]) h (fun x h=>yM h.1 (db h.2)) False.elim) False.elim
theorem Gb{xs:List RV}{K:RV→S→Prop}(h:Pe xs s K):cG C ρ M s K (fun vs=>call (.type "int") vs) (xs.map (aa ρ)):=
 g9 (P:=fun xs=>cG C ρ M s K _ (xs.map (aa ρ))) h (fun a h=>pJ (P:=fun a=>cG C ρ M s K _ [aa ρ a]) h (fun x h=>yQ h.1 (db h.2)) fun h=>cZ (P:=fun a=>cG C ρ M s K _ [aa ρ a]) h (fun x h=>dB h fun y k h=>K4 h.1 (lN h.2)) False.elim) False.elim
theorem Gc{xs:List RV}{K:RV→S→Prop}(h:Pf xs s K):cG C ρ M s K (fun vs=>call (.builtin "isinstance") vs) (xs.map (aa ρ)):=
 nk (P:=fun xs=>cG C ρ M s K _ (xs.map (aa ρ))) h (fun a b h=>w8 (P:=fun b=>cG C ρ M s K _ [aa ρ a,aa ρ b]) h (fun t h=>by
  obtain⟨ht,h2⟩:=aq h
  cases Bs ht
  refine A6 h2 (fun c k h=>cL (P:=fun a=>cG C ρ M s K _ [aa ρ a,.val (.type "int")]) h (fun x h=>?_) False.elim) fun h=>?_
  ·obtain⟨⟨i,rfl,rfl⟩ |⟨l,rfl,rfl⟩,h⟩:=h
   ·exact pz (lN h)
   ·exact pA (lN h)
  exact cK (P:=fun a=>cG C ρ M s K _ [aa ρ a,.val (.type "int")]) h (fun x h=>pz (db h)) fun h=>pI (P:=fun a=>cG C ρ M s K _ [aa ρ a,.val (.type "int")]) h (fun x h=>pA (db h)) False.elim) False.elim) False.elim
def Va(b:BI)(xs:List RV)(s:S)(K:RV→S→Prop):Prop:=b.casesOn (O' xs s K) (Br xs s K) (Pa xs s K) (Pb xs s K) (Pc xs s K) (xb xs s K) (Pd xs s K) (Pe xs s K) (Pf xs s K) False False False False
theorem K5{b:BI}{xs:List RV}{K:RV→S→Prop}(h:Va b xs s K):bB C.g (.val b.val) (xs.map (aa ρ)) [] [] (tr C ρ M s) (PV C ρ M K):=by
 cases b with
 | len=>exact a_ (FZ h)
 | range=>exact dL (yT h)
 | sum=>exact a_ (F8 h)
 | max=>exact a_ (F9 h)
 | min=>exact a_ (F_ h)
 | sorted=>exact a_ (ve h)
 | str=>exact dL (Ga h)
 | int=>exact dL (Gb h)
 | isinstance=>exact a_ (Gc h)
 | _=>exact h.elim
theorem cz(fr:bQ C ρ env)(pos:Pos)(es:List (SE C)):((backTo pos (starEach (fM es) env)).any (·.1))=false:=by
 induction es with
 | nil=>rfl
 | cons x t ih=>show((backTo pos (starEach (x.e::fM t) env)).any (·.1))=false;rw[x.fm.st];exact ih
theorem c8(env:Env)(es:List (SE C)):fM es=[]∨∃e rest,fM es=e::rest∧starEach (e::rest) env=(false,eval e env)::starEach rest env:=by
 cases es with | nil=>exact .inl rfl | cons x t=>exact .inr ⟨x.e,fM t,rfl,x.fm.st _ _⟩
def Bt(C:Ctx)(f:RV)(xs:List RV)(s:S)(K:RV→S→Prop):Prop:=mG f (fun b=>Va b xs s K)<|w_ C f xs [] [] s K
theorem Bu{f:RV}{xs:List RV}{K:RV→S→Prop}(h:Bt C f xs s K):bB C.g (aa ρ f) (xs.map (aa ρ)) [] [] (tr C ρ M s) (PV C ρ M K):=
 w8 (P:=fun f=>bB C.g (aa ρ f) (xs.map (aa ρ)) [] [] (tr C ρ M s) (PV C ρ M K)) h (fun b h=>K5 h) fun h=>nj (fw:=[]) h
theorem Bv{f:SE C}{x:Str}{p:Pos}(hf:f.e= .Name x p){es:List (SE C)}{pos:Pos}{K:RV→S→Prop}(fr:bQ C ρ env)(h:f.ev s fun fv s1=>uq es s1 fun xs s2=>Bt C fv xs s2 K):
  W0 C.g VR (eval (.Call (.Name x p) (fM es) [] pos) env) (tr C ρ M s) (PV C ρ M K):=
 fx (by rw[← hf];exact bz (f.ok fr h) fun fv s1 h=>lM (eA fr pos h) fun xs s2 h=>Bu h) rfl (by rw[cz fr];rfl) (c8 _ _)
noncomputable def SE.I7(e:Expr)(ev:S→(RV→S→Prop)→Prop)(ai sw:Bool)(ok:∀ {ρ env M s K},bQ C ρ env→ev s K→W0 C.g VR (eval e env) (tr C ρ M s) (PV C ρ M K))
  (he:∀env,isTrue e env (eval e env)=(do let v ← eval e env;standAt e.pos;holding [v] (truthy v))) (fm:KU e ai sw):SE C:=
 ⟨e,ev,fun s K=>ev s fun a s1=>sY a s1 K,ai,sw,ok,fun fr h=>bw (bz (ok fr h) fun O O h=>jJ h) (he _),fm⟩
noncomputable def SE.I8(f:SE C)(x:Str)(p:Pos)(hf:f.e= .Name x p)(es:List (SE C))(pos:Pos):SE C:=
 SE.I7 (.Call (.Name x p) (fM es) [] pos) (fun s K=>f.ev s fun fv s1=>uq es s1 fun xs s2=>Bt C fv xs s2 K) false true (fun fr h=>Bv hf fr h) (fun O=>rfl) ⟨fun O O=>rfl,fun O=>rfl,fun O O=>rfl,fun h=> (nomatch h),fun O O O O=>rfl⟩
noncomputable def SE.call(i:Nat)(fp:Pos)(es:List (SE C))(pos:Pos):SE C:=SE.I8 (SE.oA i fp) _ fp rfl es pos
noncomputable def SE.cl(i l a:Nat)(es:List (SE C))(pos:Pos:=cP (nP (i4 C.gx i).1 l a) es):SE C:=SE.call i (nP (i4 C.gx i).1 l a) es pos
noncomputable def SE.Pg(i:Nat)(fp:Pos)(es:List (SE C))(pos:Pos):SE C:=SE.I8 (SE.loc i fp) _ fp rfl es pos
noncomputable def SE.Ti(i l a:Nat)(es:List (SE C))(pos:Pos:=cP (nP (i4 C.loc i) l a) es):SE C:=SE.Pg i (nP (i4 C.loc i) l a) es pos
end
end
end
section
set_option tactic.hygienic true
section
section
variable {g:Gd}{F:FM}{C:Ctx}{ρ ρ':dz}{env:Env}{M:Mem}{s:S}{α β:Type}
inductive RF | next | brk | cont | ret (v:RV)
noncomputable def Vb(ρ:dz):RF→fu
 | .next=> .next
 | .brk=> .brk
 | .cont=> .cont
 | .ret v=> .ret (aa ρ v)
def Pin(C:Ctx)(ρ ρ':dz):Prop:= ∀k,k<C.pin→ρ' k=ρ k
theorem Pin.refl:Pin C ρ ρ:=fun O O=>rfl
theorem Pin.trans(a:Pin C ρ ρ')(b:Pin C ρ' qI):Pin C ρ qI:=fun k h=> (b k h).trans (a k h)
theorem bQ.pin(fr:bQ C ρ env)(p:Pin C ρ ρ'):bQ C ρ' env:=
 ⟨fr.e,let⟨cs,N,h⟩:=fr.N;⟨cs,N,fun q hq=>by rw[p _ (fr.hc q hq).2];exact h q hq⟩,fr.hl,fr.hc,fr.hg,fr.hx,fr.h8,fr.nb,fr.kd,fr.lm⟩
inductive PF(C:Ctx)(ρ:dz)(M:Mem)(K:RF→S→Prop):fu→AS→Prop
 | mk {ρ' f s st} (p:Pin C ρ ρ') (w:Wk C.g st (tr C ρ' M s)) (k:K f s):PF C ρ M K (Vb ρ' f) st
theorem PF.pin{K:RF→S→Prop}{a:fu}{st:AS}(p:Pin C ρ ρ')(h:PF C ρ' M K a st):PF C ρ M K a st:=by obtain⟨p',w',k⟩:=h;exact .mk (p.trans p') w' k
theorem pf{K:RF→S→Prop}{f:RF}(k:K f s):PF C ρ M K (Vb ρ f) (tr C ρ M s):= .mk Pin.refl Wk.refl k
theorem gm{f:Value→Sem Unit}{x:AV}{st:AS}{K:S→Prop}{G:Unit→AS→Prop}(h:W1 C.g UR f x st (PU C ρ M K))(k:∀s,K s→G () (tr C ρ M s)):W1 C.g UR f x st G:=fun F s v r hv K' E kk=>h F s v r hv K' E fun F' b a bH s' l r hb q=>by
 obtain⟨w,q⟩:=q
 obtain⟨F2,l2,r2⟩:=w F' s' r
 exact kk F2 _ a _ s' (l.trans l2) r2 trivial (k _ q)
structure SS(C:Ctx) where
 st:Stmt
 ex:S→(RF→S→Prop)→Prop
 ok:∀ {ρ env M s K},bQ C ρ env→ex s K→W0 C.g FR (exec st env) (tr C ρ M s) (PF C ρ M K)
structure SB(C:Ctx) where
 ss:List Stmt
 ex:S→(RF→S→Prop)→Prop
 ok:∀ {ρ env M s K},bQ C ρ env→ex s K→W0 C.g FR (execs ss env) (tr C ρ M s) (PF C ρ M K)
def fN(f:RF)(a b:Prop):Prop:=f.casesOn a b b fun O=>b
noncomputable def SB.nil:SB C:=⟨[],fun s K=>K .next s,fun fr h=>ba (pf (f:= .next) h)⟩
noncomputable def SB.cons(a:SS C)(r:SB C):SB C:=⟨a.st::r.ss,fun s K=>a.ex s fun f s1=>fN f (r.ex s1 K) (K f s1),fun {ρ env M s K} fr h=>ah ((a.ok fr h).mono fun f st q=>by
 obtain⟨p,w,k⟩:=q
 rename_i ρ' f s'
 cases f with
 | next=>exact W0.weak w ((r.ok (fr.pin p) k).mono fun O O q=>q.pin p)
 | brk=>exact .mk (f:= .brk) p w k
 | cont=>exact .mk (f:= .cont) p w k
 | ret v=>exact .mk (f:= .ret v) p w k)⟩
noncomputable def SS.ret(e:SE C)(pos:Pos:=fZ e.p e.p 7 0):SS C:=⟨.Return (some e.e) pos,fun s K=>e.ev s fun v s1=>K (.ret v) s1,fun {ρ env M s K} fr h=>jv (bz (G:=fun v st=>PF C ρ M K (.ret v) st) (e.ok fr h) fun v s1 h=>pf (f:= .ret v) h)⟩
noncomputable def SS.exp(e:SE C)(pos:Pos:=e.p):SS C:=⟨.Expr e.e pos,fun s K=>eE e.sw (e.ev s fun v s1=>mN v (K .next s1)<|mS v (fun O=>K .next s1) False),
 fun {ρ env M s K} fr h=>jH (bz (G:=fun v st=>g7 v∧PF C ρ M K .next st) (e.ok fr (aq h).2) fun v s1 h=>w7 (P:=fun v=>g7 (aa ρ v)∧PF C ρ M K .next (tr C ρ M s1)) h (fun h=> ⟨.none,pf (f:= .next) h⟩) fun h=>
  cZ (P:=fun v=>g7 (aa ρ v)∧PF C ρ M K .next (tr C ρ M s1)) h (fun x h=> ⟨.str x,pf (f:= .next) h⟩) False.elim) (b4 fr.e) (e.fm.sp (aq h).1 _ _ _)⟩
noncomputable def SS.ite(t:SE C)(b o:SB C)(pos:Pos):SS C:=⟨.If t.e b.ss o.ss pos,fun s K=>t.tv s fun c s1=>br c s1 (b.ex · K) (o.ex · K),
 fun {ρ env M s K} fr h=>oK (vb (G:=fun c aD=>if c=true then W0 C.g FR (execs b.ss env) aD (PF C ρ M K) else W0 C.g FR (execs o.ss env) aD (PF C ρ M K)) (t.tok fr h) fun c s1 h=>
  pK (P:=fun c=>if c=true then W0 C.g FR (execs b.ss env) (tr C ρ M s1) (PF C ρ M K) else W0 C.g FR (execs o.ss env) (tr C ρ M s1) (PF C ρ M K)) h (fun k h=>b.ok (s:=⟨s1.vs,s1.os,k⟩) fr h) fun k h=>o.ok (s:=⟨s1.vs,s1.os,k⟩) fr h)⟩
inductive TN | loc (i:Nat) | cc (i:Nat)
noncomputable def TN.name(C:Ctx)(t:TN):Str:=t.casesOn (fun i=>i4 C.loc i) fun i=> (i4 C.cc i).1
def TN.set(C:Ctx)(t:TN)(v:RV)(s:S)(f:S→Prop):Prop:=t.casesOn (fun i=>oR (ka C.loc i) fun O=>f ⟨qD i v s.vs,s.os,s.h⟩)
 fun i=>oR (ka C.cc i) fun p=>eE (p.2.1== .cell) (oC (bM p.2.2 s.os) fun O=>f ⟨s.vs,dA p.2.2 (.cell (some v)) s.os,s.h⟩)
theorem Upd.pre{a:Addr}(u:Upd m a o o' m'):∀m1:Mem,Upd (m1++m) a o o' (m1++m'):=fun m1=>by induction m1 with | nil=>exact u | cons p t ih=>exact .there ih
theorem cN{k:Nat}{o o':EO}{a a':AO}(ρ:dz)(M:Mem)(h1:o.mem ρ k=[(ρ k,a)])(h2:o'.mem ρ k=[(ρ k,a')]){os:Os}(h:bM k os=some o):Upd (ay ρ os++M) (ρ k) a a' (ay ρ (dA k o' os)++M):=by
 induction os with
 | nil=>cases h
 | cons p t ih=>
  have h':cond (beq p.1 k) (some p.2) (bM k t)=some o:=h
  have e1:dA k o' (p::t)=cond (beq p.1 k) ((p.1,o')::t) (p::dA k o' t):=rfl
  rw[e1]
  cases hb:beq p.1 k with
  | true=>
   rw[hb] at h';cases h'
   have e:=U7 hb
   show Upd ((p.2.mem ρ p.1++ay ρ t)++M) _ _ _ ((o'.mem ρ p.1++ay ρ t)++M)
   rw[e,h1,h2];exact .here
  | false=>
   rw[hb] at h'
   show Upd ((p.2.mem ρ p.1++ay ρ t)++M) _ _ _ ((p.2.mem ρ p.1++ay ρ (dA k o' t))++M)
   rw[YH,YH]
   exact(ih h').pre _
theorem TN.ok{t:TN}{f:S→Prop}(fr:bQ C ρ env)(h:t.set C v s f):W1 C.g UR (storeName env (t.name C)) (aa ρ v) (tr C ρ M s) (PU C ρ M f):=by
 obtain⟨cs,N,rR⟩:=fr.N
 cases t with
 | loc i=>
  obtain⟨x,hx,h⟩:=b6 h
  obtain⟨o,u⟩:=sX (ρ:=ρ) (v:=v) (vs:=s.vs) hx
  show W1 C.g UR (storeName env (i4 C.loc i)) _ _ _
  rw[eX hx]
  exact cQ N (fr.hl _ (bW hx)) (iX fr.e u (PU.mk (s:=⟨qD i v s.vs,s.os,s.h⟩) Wk.refl h))
 | cc i=>
  obtain⟨p,hx,h⟩:=b6 h
  obtain⟨hk,h⟩:=aq h
  obtain⟨o,ho,h⟩:=sZ h
  show W1 C.g UR (storeName env (i4 C.cc i).1) _ _ _
  rw[eX hx]
  have Nm:p.2.1= .cell:=by cases e:p.2.1 <;> first | rfl |(rw[e] at hk;cases hk)
  have hm:=(fr.hc _ (bW hx)).1
  rw[Nm] at hm
  exact cQ N hm (Iw fr.e (rR _ (bW hx)) (cN ρ M (o':= .cell (some v)) rfl rfl ho) (PU.mk (s:=⟨s.vs,dA p.2.2 (.cell (some v)) s.os,s.h⟩) Wk.refl h))
noncomputable def SS.asg(t:TN)(px:Pos)(e:SE C)(pos:Pos):SS C:=⟨.Assign [.Name (t.name C) px] e.e pos,fun s K=>eE e.sw (e.ev s fun v s1=>t.set C v s1 fun s2=>K .next s2),
 fun {ρ env M s K} fr h=>a8 (bz (e.ok fr (aq h).2) fun v s1 h=>gm (G:=fun O st=>PF C ρ M K .next st) (TN.ok fr h) fun s h=>pf (f:= .next) h) (e.fm.sp (aq h).1 _ _ _)⟩
end
end
end
section
section
section
variable {g:Gd}{F:FM}{C:Ctx}{ρ ρ':dz}{env:Env}{M:Mem}{s:S}{α β:Type}
inductive MT | append | insert | lower | upper | swapcase | index | split
noncomputable def MT.name(m:MT):Str:=m.casesOn "append" "insert" "lower" "upper" "swapcase" "index" "split"
noncomputable def MT.id(m:MT):String:=m.casesOn "list.append" "list.insert" "str.lower" "str.upper" "str.swapcase" "str.index" "str.split"
noncomputable def MT.Rw(m:MT):Bool:=m.casesOn true true false false false false false
theorem MT.I9(m:MT)(h:m.Rw=false):Slot "str" m.name m.id∧typeOf (.builtin m.id)=pure (.type "method_descriptor"):=by
 cases m with
 | append=>cases h
 | insert=>cases h
 | lower=>exact⟨abl,abm⟩
 | upper=>exact⟨PySem.F.slot_str_upper,PySem.F.type_str_upper⟩
 | swapcase=>exact⟨PySem.F.slot_str_swapcase,PySem.F.type_str_swapcase⟩
 | index=>exact⟨PySem.F.slot_str_index,PySem.F.type_str_index⟩
 | split=>exact⟨PySem.F.slot_str_split,PySem.F.type_str_split⟩
theorem MT.I_(m:MT)(h:m.Rw=true):Slot "list" m.name m.id∧typeOf (.builtin m.id)=pure (.type "method_descriptor"):=by
 cases m with
 | append=>exact⟨aaT,aaU⟩
 | insert=>exact⟨PySem.F.slot_list_insert,PySem.F.type_list_insert⟩
 | _=>cases h
def Tj(m:MT)(a:RV)(s:S)(f:Prop):Prop:=cond m.Rw (mR a (fun k=>oL (bM k s.os) (fun O=>f) False) False) (mS a (fun O=>f) False)
theorem K6{m:MT}{f:Prop}{P:Prop}(h:Tj m a s f)(h1:eQ g (aa ρ a) m.name (.val (.builtin m.id)) [aa ρ a] (tr C ρ M s)→f→P):P:=by
 unfold Tj at h
 cases e:m.Rw with
 | true=>
  rw[e] at h
  exact eF (P:=fun a=> (eQ g (aa ρ a) m.name (.val (.builtin m.id)) [aa ρ a] (tr C ρ M s)→f→P)→P) h (fun k h h1=>g8 h (fun l e' h=>h1 (uM (YG _ (b7 e' _ E7)) (m.I_ e).1 (m.I_ e).2) h) False.elim) (fun h O=>h.elim) h1
 | false=>
  rw[e] at h
  exact cZ (P:=fun a=> (eQ g (aa ρ a) m.name (.val (.builtin m.id)) [aa ρ a] (tr C ρ M s)→f→P)→P) h (fun k h h1=>h1 (sF (m.I9 e).1 (m.I9 e).2) h) (fun h O=>h.elim) h1
def Bw(x:Str)(y:AV):Prop:= ∃ws,PySem.wordsOf x=ws∧(Builtin.Str.spaceWords x (x.length+1)==[(0,x.length)])=false∧x.length≤100000∧ws.length≤100000∧y= .lst (ws.map .str)
def Bx(x y:Str)(v:AV):Prop:= ∃i rest,Builtin.Str.occurrences x y 0 x.length 1=i::rest∧v= .int (i:Nat)
def a0(l:List RV)(f:Prop):Prop:=l.casesOn f fun O O=>False
def z1(l:List RV)(f:RV→Prop):Prop:=a1 l f False
def xc(a:RV)(xs:List RV)(s:S)(K:RV→S→Prop):Prop:=z1 xs fun x=>mV x (fun v=>mR a (fun k=>oL (bM k s.os) (fun l=>l.length≤sizeLine∧K (.v .none) ⟨s.vs,dA k (.list (l++ [v])) s.os,s.h⟩) False) False) False
def xd(a:RV)(xs:List RV)(s:S)(K:RV→S→Prop):Prop:=a2 xs (fun i x=>mI i (fun i=>mV x (fun v=>mR a (fun k=>oL (bM k s.os) (fun l=>0≤i∧i≤l.length∧l.length≤1000000∧K (.v .none) ⟨s.vs,dA k (.list (l.take i.toNat++v::l.drop i.toNat)) s.os,s.h⟩) False) False) False) False) False
def xe(f:Str→Str)(a:RV)(xs:List RV)(s:S)(K:RV→S→Prop):Prop:=a0 xs (mS a (fun x=>x.length≤5592405∧K (.v (.str (f x))) s) False)
def By(a:RV)(xs:List RV)(s:S)(K:RV→S→Prop):Prop:=z1 xs fun b=>ss a b (fun x y=>hV s fun v s=>Bx x y v∧K (.v v) s) False
def Bz(a:RV)(xs:List RV)(s:S)(K:RV→S→Prop):Prop:=a0 xs (mS a (fun x=>hV s fun v s=>Bw x v∧K (.v v) s) False)
def Vc(m:MT)(a:RV)(xs:List RV)(s:S)(K:RV→S→Prop):Prop:=m.casesOn (xc a xs s K) (xd a xs s K) (xe PySem.Txt.lower a xs s K) (xe PySem.Txt.upper a xs s K) (xe PySem.Txt.swapcase a xs s K) (By a xs s K) (Bz a xs s K)
theorem Ja{f:Prop}{P:List RV→Prop}(h:a0 l f)(h1:f→P []):P l:=by cases l with | nil=>exact h1 h | cons=>exact h.elim
theorem BA{x:Str}{y:AV}{st:AS}{Q:AV→AS→Prop}(h:Bw x y)(q:Q y st):Wl g VR (fun vs=>call (.builtin "str.split") vs) [.str x] st Q:=by obtain⟨ws,h1,h2,h3,h4,rfl⟩:=h;exact FH h1 h2 h3 h4 q
theorem BB{x y:Str}{v:AV}{st:AS}{Q:AV→AS→Prop}(h:Bx x y v)(q:Q v st):Wl g VR (fun vs=>call (.builtin "str.index") vs) [.str x,.str y] st Q:=by obtain⟨i,r,h1,rfl⟩:=h;exact FG h1 q
theorem vf{a:RV}{xs:List RV}{K:RV→S→Prop}(h:xc a xs s K):cG C ρ M s K (fun vs=>call (.builtin "list.append") vs) (aa ρ a::xs.map (aa ρ)):=
 g9 (P:=fun xs=>cG C ρ M s K _ (aa ρ a::xs.map (aa ρ))) h (fun x h=>cL (P:=fun x=>cG C ρ M s K _ [aa ρ a,aa ρ x]) h (fun v h=>eF (P:=fun a=>cG C ρ M s K _ [aa ρ a,v]) h (fun k h=>g8 h (fun l e h=>
  jA (cN ρ M (o:= .list l) (o':= .list (l++ [v])) rfl rfl e) h.1 (.mk (rv:= .v .none) (s:=⟨s.vs,dA k (.list (l++ [v])) s.os,s.h⟩) Wk.refl h.2)) False.elim) False.elim) False.elim) False.elim
theorem yU{a:Addr}{i:Int}{vars}(u:Upd mem a (.list l) (.list (l.take i.toNat++x::l.drop i.toNat)) mem')(h:0≤i∧i≤l.length∧l.length≤1000000)(q:Q .none ⟨vars,mem'⟩):
  Wl g VR (fun vs=>call (.builtin "list.insert") vs) [.val (.ref a),.int i,x] ⟨vars,mem⟩ Q:=AK h.1 h.2.1 u h.2.2 q
theorem vg{a:RV}{xs:List RV}{K:RV→S→Prop}(h:xd a xs s K):cG C ρ M s K (fun vs=>call (.builtin "list.insert") vs) (aa ρ a::xs.map (aa ρ)):=
 nk (P:=fun xs=>cG C ρ M s K _ (aa ρ a::xs.map (aa ρ))) h (fun i x h=>cK (P:=fun i=>cG C ρ M s K _ [aa ρ a,aa ρ i,aa ρ x]) h (fun i h=>cL (P:=fun x=>cG C ρ M s K _ [aa ρ a,.int i,aa ρ x]) h (fun v h=>eF (P:=fun a=>cG C ρ M s K _ [aa ρ a,.int i,v]) h (fun k h=>g8 h (fun l e h=>
  yU (cN ρ M (o:= .list l) (o':= .list (l.take i.toNat++v::l.drop i.toNat)) rfl rfl e) ⟨h.1,h.2.1,h.2.2.1⟩ (PV.mk (C:=C) (rv:= .v .none) (s:=⟨s.vs,dA k (.list (l.take i.toNat++v::l.drop i.toNat)) s.os,s.h⟩) Wk.refl h.2.2.2)) False.elim) False.elim) False.elim) False.elim) False.elim
theorem nn{f:Str→Str}{id:String}(hp:∀ {x:Str} {st:AS} {Q:AV→AS→Prop},x.length≤5592405→Q (.str (f x)) st→Wl C.g VR (fun vs=>call (.builtin id) vs) [.str x] st Q){a:RV}{xs:List RV}{K:RV→S→Prop}(h:xe f a xs s K):cG C ρ M s K (fun vs=>call (.builtin id) vs) (aa ρ a::xs.map (aa ρ)):=
 Ja (P:=fun xs=>cG C ρ M s K _ (aa ρ a::xs.map (aa ρ))) h fun h=>cZ (P:=fun a=>cG C ρ M s K _ [aa ρ a]) h (fun x h=>hp h.1 (db h.2)) False.elim
theorem yV{a:RV}{xs:List RV}{K:RV→S→Prop}(h:By a xs s K):cG C ρ M s K (fun vs=>call (.builtin "str.index") vs) (aa ρ a::xs.map (aa ρ)):=
 g9 (P:=fun xs=>cG C ρ M s K _ (aa ρ a::xs.map (aa ρ))) h (fun b h=>s9 (P:=fun a b=>cG C ρ M s K _ [aa ρ a,aa ρ b]) h (fun x y h=>dB h fun v k h=>BB h.1 (lN h.2)) False.elim) False.elim
theorem yW{a:RV}{xs:List RV}{K:RV→S→Prop}(h:Bz a xs s K):cG C ρ M s K (fun vs=>call (.builtin "str.split") vs) (aa ρ a::xs.map (aa ρ)):=
 Ja (P:=fun xs=>cG C ρ M s K _ (aa ρ a::xs.map (aa ρ))) h fun h=>cZ (P:=fun a=>cG C ρ M s K _ [aa ρ a]) h (fun x h=>dB h fun v k h=>BA h.1 (lN h.2)) False.elim
theorem K7{m:MT}{a:RV}{xs:List RV}{K:RV→S→Prop}(h:Vc m a xs s K):bB C.g (.val (.builtin m.id)) (aa ρ a::xs.map (aa ρ)) [] [] (tr C ρ M s) (PV C ρ M K):=by
 cases m with
 | append=>exact a_ (vf h)
 | insert=>exact a_ (vg h)
 | lower=>exact a_ (nn qx h)
 | upper=>exact a_ (nn Fj h)
 | swapcase=>exact a_ (nn uU h)
 | index=>exact a_ (yV h)
 | split=>exact a_ (yW h)
theorem jM{fr:bQ C ρ env}{es:List (SE C)}(h:ble es.length 20=true):methodCallForm ((fM es).length+([]:List Keyword).length) (backTo pos (starEach (fM es) env)) (backToKw pos (keywordEach [] env))=true:=by
 have h1:(backTo pos (starEach (fM es) env)).all (!·.1)=true:=by
  have:=cz fr pos es
  rw[Jb]
  rw[abe] at this
  exact fun x hx=>by simpa using this x hx
 have h2:=E1 h
 unfold methodCallForm
 rw[h1,E9]
 show(true&&true&&decide (es.length+0+0<30))=true
 simp;omega
noncomputable def SE.Ph(o:SE C)(m:MT)(ap:Pos)(es:List (SE C))(pos:Pos):SE C:=
 SE.I7 (.Call (.Attribute o.e m.name ap) (fM es) [] pos) (fun s K=>eE (o.ai&& (ap.endLine==pos.line)&&ble es.length 20) (o.ev s fun a s1=>Tj m a s1 (uq es s1 fun xs s2=>Vc m a xs s2 K))) true true
  (fun {ρ env M s K} fr h=>by
   obtain⟨hc,h⟩:=aq h
   rw[YL,YL] at hc
   exact cR (bz (G:=fun a st=>MC C.g env a m.name pos (fM es) st (PV C ρ M K)) (o.ok fr h) fun a s1 h=>K6 h fun hm h=>ew hm (lM (eA fr pos h) fun xs s2 h=>K7 h)) (o.fm.ab hc.1.1 _ _) (jM (fr:=fr) hc.2) hc.1.2 (by rw[cz fr];rfl) (c8 _ _))
  (fun O=>rfl) ⟨fun O O=>rfl,fun O=>rfl,fun O O=>rfl,fun O O O O=>rfl,fun O O O O=>rfl⟩
noncomputable def aP(o:Pos)(m:MT):Pos:=fZ o o 0 (1+m.name.length)
noncomputable def SE.mt(o:SE C)(m:MT)(es:List (SE C)):SE C:=SE.Ph o m (aP o.p m) es (cP (aP o.p m) es)
end
end
end
section
set_option tactic.hygienic true
section
section
variable {g:Gd}{F:FM}{C:Ctx}{ρ ρ':dz}{env:Env}{M:Mem}{s:S}{α β:Type}
structure TG(C:Ctx) where
 e:Expr
 set:RV→S→(S→Prop)→Prop
 tup:Bool
 ok:∀ {ρ env M v s f},bQ C ρ env→set v s f→W1 C.g UR (assign e env) (aa ρ v) (tr C ρ M s) (PU C ρ M f)
 ae:∀rest env,assignEach (e::rest) env=(false,assign e env)::assignEach rest env
 it:tup=true→kB e
noncomputable def TG.nm(t:TN)(pos:Pos):TG C:=⟨.Name (t.name C) pos,t.set C,false,fun fr h=>b8 (TN.ok fr h),fun O O=>rfl,fun h=>nomatch h⟩
noncomputable def TG.n(t:TN)(l a:Nat):TG C:=TG.nm t (nP (t.name C) l a)
def Ge(ts:List (TG C)):List RV→S→(S→Prop)→Prop:=ts.rec (fun vs s f=>vs.casesOn (f s) fun O O=>False) fun t O ih vs s f=>vs.casesOn False fun v vs=>t.set v s fun s1=>ih vs s1 f
noncomputable abbrev zU(ts:List (TG C)):List Expr:=ts.map TG.e
theorem qJ(fr:bQ C ρ env):∀ {ts:List (TG C)} {vs:List RV} {s:S} {f:S→Prop},Ge ts vs s f→Nk C.g env (zU ts) (vs.map (aa ρ)) (tr C ρ M s) (PU C ρ M f):=by
 intro ts
 induction ts with
 | nil=>intro vs s f h;cases vs with | nil=>exact wO (.mk Wk.refl h) | cons=>exact h.elim
 | cons t ts ih=>intro vs s f h;cases vs with | nil=>exact h.elim | cons v vs=>exact mQ (gm (t.ok fr h) fun s1 h=>ih h) (t.ae _ _)
theorem iw(env:Env)(ts:List (TG C)):(assignEach (zU ts) env).length=ts.length∧(assignEach (zU ts) env).findIdx? (·.1)=none:=by
 induction ts with
 | nil=>exact⟨rfl,rfl⟩
 | cons t ts ih=>show(assignEach (t.e::zU ts) env).length=_∧_;rw[show zU (t::ts)=t.e::zU ts from rfl,t.ae];exact⟨E5 (· +1) ih.1,by rw[List.findIdx?_cons];simp[ih.2]⟩
noncomputable def BC(l:List AV):List RV:=l.map .v
theorem te(l:List AV):(BC l).map (aa ρ)=l:=by unfold BC;rw[V3];exact List.map_id l
noncomputable def tP(ts:List (TG C)):Pos:=fZ (ts.casesOn default fun x O=>x.e.pos) (ts.foldl (fun O x=>x.e.pos) default) 0 0
noncomputable def TG.K8(ts:List (TG C))(k:Nat:=0)(pos:Pos:=tP ts):TG C where
 e:= .Tuple (zU ts) k pos
 set v s f:=mT v (fun l=>eE (beq ts.length l.length) (Ge ts (BC l) s f))<|mL v (fun l=>eE (beq ts.length l.length) (Ge ts (BC l) s f)) False
 tup:=true
 ok {ρ env M v s f} fr h:=pI (P:=fun v=>W1 C.g UR _ (aa ρ v) (tr C ρ M s) (PU C ρ M f)) h (fun l h=>eU (by have:=qJ (M:=M) fr (aq h).2;rw[te] at this;exact this) ((iw env ts).1.trans (U7 (aq h).1)) (iw env ts).2) fun h=>
  fA (P:=fun v=>W1 C.g UR _ (aa ρ v) (tr C ρ M s) (PU C ρ M f)) h (fun l h=>lK (by have:=qJ (M:=M) fr (aq h).2;rw[te] at this;exact this) ((iw env ts).1.trans (U7 (aq h).1)) (iw env ts).2) False.elim
 ae _ _:=rfl
 it _:=⟨_,_,_,rfl⟩
def WT(o:Option EO)(f:List AV→Prop):Prop:=o.casesOn False fun e=>e.casesOn f f (fun O=>False) (fun O O=>False)
def Pi(a b v:RV)(s:S)(f:S→Prop):Prop:=mR a (fun k=>mI b (fun i=>mV v (fun x=>WT (bM k s.os) fun l=>0≤i∧i<l.length∧l.length≤1000000∧f ⟨s.vs,dA k (.aU (l.set i.toNat x)) s.os,s.h⟩) False) False) False
theorem Gf{f:S→Prop}(h:Pi a b v s f):W3 C.g setItem (aa ρ a) (aa ρ b) (aa ρ v) (tr C ρ M s) (PU C ρ M f):=
 eF (P:=fun a=>W3 C.g setItem (aa ρ a) (aa ρ b) (aa ρ v) (tr C ρ M s) (PU C ρ M f)) h (fun k h=>cK (P:=fun b=>W3 C.g setItem _ (aa ρ b) (aa ρ v) (tr C ρ M s) (PU C ρ M f)) h (fun i h=>cL (P:=fun v=>W3 C.g setItem _ _ (aa ρ v) (tr C ρ M s) (PU C ρ M f)) h (fun x h=>by
  cases e:bM k s.os with
  | none=>rw[e] at h;exact h.elim
  | some o=>
   rw[e] at h
   cases o with
   | list l=>exact pC (.list _) h.1 h.2.1 h.2.2.1 (cN ρ M (o:= .list l) (o':= .aU (l.set i.toNat x)) rfl rfl e) (PU.mk (s:=⟨s.vs,dA k (.aU (l.set i.toNat x)) s.os,s.h⟩) Wk.refl h.2.2.2)
   | aU l=>exact pC (.aU _) h.1 h.2.1 h.2.2.1 (cN ρ M (o:= .aU l) (o':= .aU (l.set i.toNat x)) rfl rfl e) (PU.mk (s:=⟨s.vs,dA k (.aU (l.set i.toNat x)) s.os,s.h⟩) Wk.refl h.2.2.2)
   | _=>exact h.elim) False.elim) False.elim) False.elim
noncomputable def TG.sub(o i:SE C)(pos:Pos):TG C:=⟨.Subscript o.e i.e pos,fun v s f=>o.ev s fun a s1=>i.ev s1 fun b s2=>Pi a b v s2 f,false,
 fun fr h=>jG (bz (o.ok fr h) fun a s1 h=>bz (i.ok fr h) fun b s2 h=>Gf h),fun O O=>rfl,fun h=>nomatch h⟩
inductive PA(C:Ctx)(ρ:dz)(M:Mem)(ids:List Nat)(K:RV→S→Prop):AV→AS→Prop
 | mk {ρ' rv s st} (p:∀j,j∉ids→ρ' j=ρ j) (w:Wk C.g st (tr C ρ' M s)) (k:K rv s):PA C ρ M ids K (aa ρ' rv) st
inductive Pj(C:Ctx)(ρ:dz)(M:Mem)(ids:List Nat)(K:List RV→S→Prop):List AV→AS→Prop
 | mk {ρ' rs s st} (p:∀j,j∉ids→ρ' j=ρ j) (w:Wk C.g st (tr C ρ' M s)) (k:K rs s):Pj C ρ M ids K (rs.map (aa ρ')) st
structure SA(C:Ctx) where
 e:Expr
 ids:List Nat
 sw:Bool
 ev:S→(RV→S→Prop)→Prop
 ok:∀ {ρ env M s K},bQ C ρ env→ev s K→W0 C.g VR (eval e env) (tr C ρ M s) (PA C ρ M ids K)
 st:∀rest env,starEach (e::rest) env=(false,eval e env)::starEach rest env
 sp:sw=true→∀t l env,swapsWith e t l env=pure false
noncomputable def SA.of(x:SE C):SA C:=⟨x.e,[],x.sw,x.ev,fun fr h=> (x.ok fr h).mono fun O O q=>by obtain⟨w,k⟩:=q;exact .mk (fun O O=>rfl) w k,x.fm.st,x.fm.sp⟩
noncomputable def RV.off(k:Nat)(v:RV):Bool:=v.casesOn (fun O=>true) (fun j=>!(beq j k)) (fun O=>true) fun O O fR=>fR.all fun p=>!(beq p.2 k)
noncomputable def Gg(k:Nat)(o:Option RV):Bool:=o.casesOn true (RV.off k)
noncomputable def EO.off(k:Nat)(j:Nat)(o:EO):Bool:=o.casesOn (fun O=>!(beq j k)) (fun O=>!(beq j k)) (fun v=>!(beq j k)&&Gg k v) fun n O=>blt k j||ble (j+n) k
noncomputable def S.off(k:Nat)(s:S):Bool:=s.vs.all (Gg k)&&s.os.all fun p=>p.2.off k p.1
theorem c9{j k:Nat}(h:(!(beq j k))=true):j≠k:=fun e=>by subst e;simp at h
theorem RV.vh{k:Nat}{v:RV}(h:v.off k=true)(p:∀j,j≠k→ρ' j=ρ j):aa ρ' v=aa ρ v:=by
 cases v with
 | r j=>show AV.val (.ref (ρ' j))=_;rw[p j (c9 h)];rfl
 | f fi q fR=>exact E5 (AV.fn fi q) (YU fun z hz=>by rw[p z.2 (c9 (Jb.mp h z hz))])
 | _=>rfl
theorem xf{k:Nat}{o:Option RV}(h:Gg k o=true)(p:∀j,j≠k→ρ' j=ρ j):o.map (aa ρ')=o.map (aa ρ):=by
 cases o with
 | none=>rfl
 | some v=>exact E5 some (RV.vh h p)
theorem xg{k:Nat}(p:∀j,j≠k→ρ' j=ρ j):∀(n j:Nat),(k<j∨j+n≤k)→kG ρ' n j=kG ρ n j
 | 0,_,_=>rfl
 | n+1,j,h=>by
  show ρ' j::kG ρ' n (j+1)=ρ j::kG ρ n (j+1)
  rw[p j (by omega),xg p n (j+1) (by omega)]
theorem EO.vh{k j:Nat}{o:EO}(h:o.off k j=true)(p:∀j,j≠k→ρ' j=ρ j):o.mem ρ' j=o.mem ρ j:=by
 cases o with
 | list l=>show [(ρ' j,_)]=_;rw[p j (c9 h)];rfl
 | aU l=>show [(ρ' j,_)]=_;rw[p j (c9 h)];rfl
 | cell v=>have:=E2.mp h;show [(ρ' j,AO.cell (v.map (aa ρ')))]=_;rw[p j (c9 this.1),xf this.2 p];rfl
 | any n m=>
  show m (kG ρ' n j)=m (kG ρ n j)
  rw[xg p n j]
  rcases Zr.mp h with h | h
  ·exact .inl (E1 h)
  ·exact .inr (E1 h)
theorem tf{k:Nat}(p:∀j,j≠k→ρ' j=ρ j){os:Os}(h:(os.all fun q=>q.2.off k q.1)=true):ay ρ' os=ay ρ os:=by
 induction os with
 | nil=>rfl
 | cons q t ih=>
  rw[List.all_cons,YL] at h
  show q.2.mem ρ' q.1++ay ρ' t=q.2.mem ρ q.1++ay ρ t
  rw[EO.vh h.1 p,ih h.2]
theorem BD{k:Nat}(p:∀j,j≠k→ρ' j=ρ j){xs:List Str}:∀ {vs:Vs},vs.all (Gg k)=true→bU ρ' xs vs=bU ρ xs vs:=by
 induction xs with
 | nil=>intro vs _;rfl
 | cons x t ih=>
  intro vs h
  show(x,(hd vs).map (aa ρ'))::bU ρ' t (tl vs)=(x,(hd vs).map (aa ρ))::bU ρ t (tl vs)
  cases vs with
  | nil=>rw[ih (vs:=tl []) rfl];rfl
  | cons v vs=>
   rw[List.all_cons,YL] at h
   rw[ih (vs:=tl (v::vs)) h.2,show(hd (v::vs)).map (aa ρ')=(hd (v::vs)).map (aa ρ) from xf h.1 p]
theorem je{k:Nat}(p:∀j,j≠k→ρ' j=ρ j)(h:s.off k=true):tr C ρ' M s=tr C ρ M s:=by
 have:=E2.mp h
 unfold tr;rw[BD p this.1,tf p this.2]
noncomputable def fS(ρ:dz)(k:Nat)(a:Addr):dz:=fun j=>if j=k then a else ρ j
theorem bX{k:Nat}{a:Addr}:∀j,j≠k→fS ρ k a j=ρ j:=fun j h=>V4 h
theorem K9{k:Nat}{xs:List AV}{K:RV→S→Prop}(h:s.off k=true)(hl:xs.length≤sizeLine)(q:K (.r k) ⟨s.vs,(k,.list xs)::s.os,s.h⟩):io xs (tr C ρ M s) (PA C ρ M [k] K):=
 ⟨hl,fun a=>by
  have e:=je (C:=C) (M:=M) (bX (ρ:=ρ) (a:=a)) h
  have e2:fS ρ k a k=a:=V8 rfl
  have:=PA.mk (C:=C) (ρ:=ρ) (M:=M) (ids:=[k]) (ρ':=fS ρ k a) (rv:= .r k) (s:=⟨s.vs,(k,.list xs)::s.os,s.h⟩) (st:= {tr C ρ M s with mem:=(a,.list xs)::(tr C ρ M s).mem }) (fun j hj=>bX j fun e=>hj (by rw[e];exact Yz.mpr rfl)) (by
   rw[← e]
   show Wk _ ⟨bU _ _ _,(a,AO.list xs)::(ay _ _++M)⟩ ⟨bU _ _ _,((fS ρ k a k,AO.list xs)::ay _ _)++M⟩
   rw[e2];exact Wk.refl) q
  have e3:aa (fS ρ k a) (.r k)= .val (.ref a):=by show AV.val (.ref (fS ρ k a k))=_;rw[e2]
  rw[e3] at this
  exact this⟩
noncomputable def SA.new(k:Nat)(es:List (SE C))(pos:Pos):SA C where
 e:= .List (fM es) pos
 ids:=[k]
 sw:=true
 ev s K:=uq es s fun rs s1=>s_ rs fun xs=>eE (vc xs.length&&s1.off k) (K (.r k) ⟨s1.vs,(k,.list xs)::s1.os,s1.h⟩)
 ok {ρ env M s K} fr h:=gf (lM (G:=fun xs st=>io xs st (PA C ρ M [k] K)) (eA fr pos h) fun rs s1 h=>jL (P:=fun xs=>io xs (tr C ρ M s1) (PA C ρ M [k] K)) h fun xs h=>by
  have:=aq h
  have h1:=E2.mp this.1
  exact K9 h1.2 (fB h1.1) this.2)
 st _ _:=rfl
 sp _ _ _ _:=rfl
noncomputable abbrev K_(xs:List (SA C)):List Expr:=xs.map SA.e
noncomputable def vk(xs:List (SA C)):List Nat:=xs.rec [] fun x O ih=>x.ids++ih
def Rx(xs:List (SA C)):S→(List RV→S→Prop)→Prop:=xs.rec (fun s K=>K [] s) fun x t ih s K=>x.ev s fun a s1=>eE ((vk t).all fun k=>a.off k) (ih s1 fun as s2=>K (a::as) s2)
theorem RV.Gh{ids:List Nat}{v:RV}(h:(ids.all fun k=>v.off k)=true)(p:∀j,j∉ids→ρ' j=ρ j):aa ρ' v=aa ρ v:=by
 cases v with
 | r j=>
  have hj:j∉ids:=fun hm=>c9 (Jb.mp h j hm) rfl
  show AV.val (.ref (ρ' j))=_;rw[p j hj];rfl
 | f fi q fR=>exact E5 (AV.fn fi q) (YU fun z hz=>by rw[p z.2 fun hm=>c9 (Jb.mp (Jb.mp h z.2 hm) z hz) rfl])
 | _=>rfl
theorem vl(pos:Pos):∀ {xs:List (SA C)} {ρ:dz} {s:S} {K:List RV→S→Prop},(vk xs).all (ble C.pin)=true→bQ C ρ env→Rx xs s K→W0 C.g aQ (spliced (backTo pos (starEach (K_ xs) env))) (tr C ρ M s) (Pj C ρ M (vk xs) K):=by
 intro xs
 induction xs with
 | nil=>intro ρ s K _ fr h;exact aB (Pj.mk (ρ':=ρ) (rs:=[]) (fun O O=>rfl) Wk.refl h)
 | cons x t ih=>
  intro ρ s K hp fr h
  have La:(x.ids.all (ble C.pin)&& (vk t).all (ble C.pin))=true:=by rw[← List.all_append];exact hp
  rw[YL] at La
  refine aC (fun F s0 r K' E k=>x.ok fr h F s0 r K' E fun F' b a bH s' l r' hb q=>?_) (x.st _ _)
  obtain⟨p,w,q⟩:=q
  rename_i ρ1 rv s1
  obtain⟨F2,l2,r2⟩:=w F' s' r'
  obtain⟨hc,q⟩:=aq q
  have pin:Pin C ρ ρ1:=fun j hj=>p j fun hm=>Zd.mpr (E1 (Jb.mp La.1 j hm)) hj
  refine k F2 _ a _ s' (l.trans l2) r2 (hb.mono l2) ((ih La.2 (fr.pin pin) q).mono fun as st q=>?_)
  obtain⟨p2,w2,q2⟩:=q
  rename_i ρ2 rs s2
  rw[← RV.Gh hc p2]
  exact Pj.mk (rs:=rv::rs) (fun j hj=> (p2 j fun hm=>hj (aav _ hm)).trans (p j fun hm=>hj (YG _ hm))) w2 q2
end
end
end
section
section
section
variable {g:Gd}{F:FM}{C:Ctx}{ρ ρ':dz}{env:Env}{M:Mem}{s:S}{α β:Type}
noncomputable def th(C:Ctx)(ids:List Nat):Bool:=ids.all (ble C.pin)
theorem g_{ids:List Nat}(h:th C ids=true)(p:∀j,j∉ids→ρ' j=ρ j):Pin C ρ ρ':=fun j hj=>p j fun hm=>Zd.mpr (E1 (Jb.mp h j hm)) hj
theorem Tk{t:Sem Value}{st:AS}{ids:List Nat}{K:RV→S→Prop}{G:AV→AS→Prop}(h:W0 C.g VR t st (PA C ρ M ids K))(f:∀ρ' rv s,(∀j,j∉ids→ρ' j=ρ j)→K rv s→G (aa ρ' rv) (tr C ρ' M s)):W0 C.g VR t st G:=fun F s r K' E k=>h F s r K' E fun F' b a bH s' l r hb q=>by
 obtain⟨p,w,q⟩:=q
 obtain⟨F2,l2,r2⟩:=w F' s' r
 exact k F2 _ a _ s' (l.trans l2) r2 (hb.mono l2) (f _ _ _ p q)
theorem BE{t:Sem (List Value)}{st:AS}{ids:List Nat}{K:List RV→S→Prop}{G:List AV→AS→Prop}(h:W0 C.g aQ t st (Pj C ρ M ids K))(f:∀ρ' rs s,(∀j,j∉ids→ρ' j=ρ j)→K rs s→G (rs.map (aa ρ')) (tr C ρ' M s)):W0 C.g aQ t st G:=fun F s r K' E k=>h F s r K' E fun F' b a bH s' l r hb q=>by
 obtain⟨p,w,q⟩:=q
 obtain⟨F2,l2,r2⟩:=w F' s' r
 exact k F2 _ a _ s' (l.trans l2) r2 (hb.mono l2) (f _ _ _ p q)
theorem Lb{K:RF→S→Prop}(p:Pin C ρ ρ')(k:K .next s):PF C ρ M K .next (tr C ρ' M s):= .mk (f:= .next) p Wk.refl k
noncomputable def SS.BF(t:TN)(px:Pos)(x:SA C)(pos:Pos):SS C:=⟨.Assign [.Name (t.name C) px] x.e pos,fun s K=>eE (x.sw&&th C x.ids) (x.ev s fun v s1=>t.set C v s1 fun s2=>K .next s2),
 fun {ρ env M s K} fr h=>have hc:=E2.mp (aq h).1
  a8 (Tk (G:=fun v st=>W1 C.g UR (storeName env (t.name C)) v st fun O aK=>PF C ρ M K .next aK) (x.ok fr (aq h).2) fun ρ' v s1 p h=>gm (TN.ok (fr.pin (g_ hc.2 p)) h) fun s h=>Lb (g_ hc.2 p) h) (x.sp hc.1 _ _ _)⟩
noncomputable def SS.Vd(ts:List (TG C))(k:Nat)(eV:Pos)(e:SE C)(pos:Pos)(hw:swappedStores [.Tuple (zU ts) k eV] e.e (uS C.names)=pure none):SS C:=⟨.Assign [.Tuple (zU ts) k eV] e.e pos,
 fun s K=>eE (e.sw&&C.full) (e.ev s fun v s1=> (TG.K8 ts k eV).set v s1 fun s2=>K .next s2),
 fun {ρ env M s K} fr h=>have hc:=E2.mp (aq h).1
  g4 (fr.kd hc.2) fr.e (bz (e.ok fr (aq h).2) fun v s1 h=>gm ((TG.K8 ts k eV).ok fr h) fun s h=>Lb Pin.refl h) (by unfold swapsWithSole;exact e.fm.sp hc.1 _ _ _) hw⟩
noncomputable def SS.mul(ts:List (TG C))(k:Nat)(eV:Pos)(xs:List (SA C))(k2:Nat)(np pos:Pos)(hw:swappedStores [.Tuple (zU ts) k eV] (.Tuple (K_ xs) k2 np) (uS C.names)=pure none):SS C:=⟨.Assign [.Tuple (zU ts) k eV] (.Tuple (K_ xs) k2 np) pos,
 fun s K=>eE (C.full&&th C (vk xs)) (Rx xs s fun vs s1=>eE (vc vs.length&&beq ts.length vs.length) (Ge ts vs s1 fun s2=>K .next s2)),
 fun {ρ env M s K} fr h=>have hc:=E2.mp (aq h).1
  g4 (fr.kd hc.1) fr.e (ju (BE (G:=fun vs st=>vs.length≤sizeLine∧W1 C.g UR (assign (.Tuple (zU ts) k eV) env) (.tup vs) st fun O aK=>PF C ρ M K .next aK) (vl np hc.2 fr (aq h).2) fun ρ' vs s1 p h=>by
   have h1:=E2.mp (aq h).1
   have pp:=g_ hc.2 p
   exact⟨by rw[E9];exact fB h1.1,gm (eU (qJ (M:=M) (fr.pin pp) (aq h).2) ((iw env ts).1.trans ((U7 h1.2).trans (E9 ..).symm)) (iw env ts).2) fun s h=>Lb pp h⟩)) rfl hw⟩
noncomputable def SS.BG(t u:TN)(pt pu:Pos)(k:Nat)(eV:Pos)(xs:List (SA C))(k2:Nat)(np pos:Pos)(hw:swappedStores [.Tuple [.Name (t.name C) pt,.Name (u.name C) pu] k eV] (.Tuple (K_ xs) k2 np) (uS C.names)=pure (some [t.name C,u.name C])):SS C:=⟨.Assign [.Tuple [.Name (t.name C) pt,.Name (u.name C) pu] k eV] (.Tuple (K_ xs) k2 np) pos,
 fun s K=>eE (C.full&&th C (vk xs)) (Rx xs s fun vs s1=>a2 vs (fun a b=>u.set C b s1 fun s2=>t.set C a s2 fun s3=>K .next s3) False),
 fun {ρ env M s K} fr h=>have hc:=E2.mp (aq h).1
  jF (fr.kd hc.1) fr.e (ju (BE (G:=fun vs st=>vs.length≤sizeLine∧∃xs,AV.tup vs= .tup xs∧[t.name C,u.name C].length=xs.length∧Bn C.g env (PF C ρ M K .next) [u.name C,t.name C] xs.reverse st) (vl np hc.2 fr (aq h).2) fun ρ' vs s1 p h=>
   have pp:=g_ hc.2 p
   nk (P:=fun vs=> (vs.map (aa ρ')).length≤sizeLine∧∃xs,AV.tup (vs.map (aa ρ'))= .tup xs∧[t.name C,u.name C].length=xs.length∧Bn C.g env (PF C ρ M K .next) [u.name C,t.name C] xs.reverse (tr C ρ' M s1)) h
    (fun a b h=> ⟨fB (n:=2) rfl,_,rfl,rfl,(gm (TN.ok (fr.pin pp) h) fun s h=>gm (TN.ok (fr.pin pp) h) fun s h=>Lb pp h:W1 C.g UR (storeName env (u.name C)) (aa ρ' b) (tr C ρ' M s1) fun O aK=>W1 C.g UR (storeName env (t.name C)) (aa ρ' a) aK fun O=>PF C ρ M K .next)⟩) False.elim)) rfl hw⟩
noncomputable def SS.Tl(t u w:TN)(pt pu pw:Pos)(k:Nat)(eV:Pos)(xs:List (SA C))(k2:Nat)(np pos:Pos)(hw:swappedStores [.Tuple [.Name (t.name C) pt,.Name (u.name C) pu,.Name (w.name C) pw] k eV] (.Tuple (K_ xs) k2 np) (uS C.names)=pure (some [t.name C,u.name C,w.name C])):SS C:=⟨.Assign [.Tuple [.Name (t.name C) pt,.Name (u.name C) pu,.Name (w.name C) pw] k eV] (.Tuple (K_ xs) k2 np) pos,
 fun s K=>eE (C.full&&th C (vk xs)) (Rx xs s fun vs s1=>a3 vs (fun a b c=>w.set C c s1 fun s2=>u.set C b s2 fun s2=>t.set C a s2 fun s3=>K .next s3) False),
 fun {ρ env M s K} fr h=>have hc:=E2.mp (aq h).1
  jF (fr.kd hc.1) fr.e (ju (BE (G:=fun vs st=>vs.length≤sizeLine∧∃xs,AV.tup vs= .tup xs∧[t.name C,u.name C,w.name C].length=xs.length∧Bn C.g env (PF C ρ M K .next) [w.name C,u.name C,t.name C] xs.reverse st) (vl np hc.2 fr (aq h).2) fun ρ' vs s1 p h=>
   have pp:=g_ hc.2 p
   xa (P:=fun vs=> (vs.map (aa ρ')).length≤sizeLine∧∃xs,AV.tup (vs.map (aa ρ'))= .tup xs∧[t.name C,u.name C,w.name C].length=xs.length∧Bn C.g env (PF C ρ M K .next) [w.name C,u.name C,t.name C] xs.reverse (tr C ρ' M s1)) h
    (fun a b c h=> ⟨fB (n:=3) rfl,_,rfl,rfl,(gm (TN.ok (fr.pin pp) h) fun s h=>gm (TN.ok (fr.pin pp) h) fun s h=>gm (TN.ok (fr.pin pp) h) fun s h=>Lb pp h:W1 C.g UR (storeName env (w.name C)) (aa ρ' c) (tr C ρ' M s1) fun O aK=>W1 C.g UR (storeName env (u.name C)) (aa ρ' b) aK fun O aK=>W1 C.g UR (storeName env (t.name C)) (aa ρ' a) aK fun O=>PF C ρ M K .next)⟩) False.elim)) rfl hw⟩
def Pk(a b:RV)(s:S)(K:RV→S→Prop):Prop:=ii a b (fun i j=>K (.v (.int (i+j))) s)<|mR a (fun k=>oL (bM k s.os) (fun l=>mL b (fun m=>l.length+m.length≤1000000∧K (.r k) ⟨s.vs,dA k (.list (l++m)) s.os,s.h⟩) False) False) False
theorem Gi{a b:RV}{K:RV→S→Prop}(h:Pk a b s K):W2 C.g VR (inplaceOp .Add) (aa ρ a) (aa ρ b) (tr C ρ M s) (PV C ρ M K):=
 dj (P:=fun a b=>W2 C.g VR _ (aa ρ a) (aa ρ b) (tr C ρ M s) (PV C ρ M K)) h (fun O O h=>Kh (db h)) fun h=>eF (P:=fun a=>W2 C.g VR _ (aa ρ a) (aa ρ b) (tr C ρ M s) (PV C ρ M K)) h (fun k h=>g8 h (fun l e h=>fA (P:=fun b=>W2 C.g VR _ (.val (.ref (ρ k))) (aa ρ b) (tr C ρ M s) (PV C ρ M K)) h (fun m h=>
  Fp (cN ρ M (o:= .list l) (o':= .list (l++m)) rfl rfl e) h.1 (PV.mk (C:=C) (rv:= .r k) (s:=⟨s.vs,dA k (.list (l++m)) s.os,s.h⟩) Wk.refl h.2)) False.elim) False.elim) False.elim
def TN.get(C:Ctx)(t:TN)(s:S)(K:RV→S→Prop):Prop:=t.casesOn (fun i=>oR (ka C.loc i) fun O=>oR (A4 i s.vs) fun v=>K v s) fun i=>oR (ka C.cc i) fun p=>eE (p.2.1== .cell||p.2.1== .free) (oC (bM p.2.2 s.os) fun o=>oR o fun v=>K v s)
theorem TN.Lc{t:TN}{K:RV→S→Prop}(fr:bQ C ρ env)(h:t.get C s K):W0 C.g VR (loadName env (t.name C)) (tr C ρ M s) (PV C ρ M K):=by
 obtain⟨cs,N,rR⟩:=fr.N
 cases t with
 | loc i=>
  obtain⟨x,hx,h⟩:=b6 h
  obtain⟨v,hv,h⟩:=b6 h
  show W0 C.g VR (loadName env (i4 C.loc i)) _ _
  rw[eX hx]
  exact Aa N (fr.hl _ (bW hx)) (fW fr.e (m_ hx hv) (pv h))
 | cc i=>
  obtain⟨x,hx,h⟩:=b6 h
  obtain⟨hk,h⟩:=aq h
  obtain⟨o,ho,h⟩:=sZ h
  obtain⟨v,rfl,h⟩:=b6 h
  show W0 C.g VR (loadName env (i4 C.cc i).1) _ _
  rw[eX hx]
  have hm:=(fr.hc _ (bW hx)).1
  have hc:=rR _ (bW hx)
  have A9:(ρ x.2.2,AO.cell (some (aa ρ v)))∈(tr C ρ M s).mem:=YG _ (b7 ho _ E7)
  have hl:Ld C.g env C.names cs x.1 x.2.1 (tr C ρ M s) (PV C ρ M K):=by
   rcases A8 _ hk with e | e
   ·rw[e];exact ldc fr.e hc A9 (pv h)
   ·rw[e];exact SJ fr.e hc A9 (pv h)
  exact Aa N hm hl
noncomputable def SS.aug(t:TN)(px:Pos)(e:SE C)(pos:Pos):SS C:=⟨.AugAssign (.Name (t.name C) px) .Add e.e pos,fun s K=>t.get C s fun a s1=>e.ev s1 fun b s2=>Pk a b s2 fun c s3=>t.set C c s3 fun s4=>K .next s4,
 fun {ρ env M s K} fr h=>kh (bz (TN.Lc fr h) fun a s1 h=>bz (e.ok fr h) fun b s2 h=>IX (Gi h) fun c s3 h=>gm (TN.ok fr h) fun s4 h=>Lb Pin.refl h)⟩
noncomputable def SS.ag(t:TN)(l a:Nat)(e:SE C):SS C:=SS.asg t (nP (t.name C) l a) e (fZ (nP (t.name C) l a) e.p 0 0)
noncomputable def SS.au(t:TN)(l a:Nat)(e:SE C):SS C:=SS.aug t (nP (t.name C) l a) e (fZ (nP (t.name C) l a) e.p 0 0)
theorem Rep.Pl{F:FM}{vars fV:cI}{mem:Mem}{s:Shared}{x:Str}{v v':AV}{o:Option AV}(r:Rep g F ⟨vars,mem⟩ s)(hm:(x,some v)∈vars)(u:Upd vars x o (some v') fV)(h:∀w,VR F v w→VR F v' w):Rep g F ⟨fV,mem⟩ s:=
 {r.toRepM with
  ns:=let⟨m,hn,hv⟩:=r.ns;⟨m,hn,fun p hp=>by
   rcases u.apart r.nv p hp with rfl |⟨hp,_⟩
   ·obtain⟨w,hw,hr⟩:=(hv _ hm).EM
    exact⟨w,hw,h w hr⟩
   ·exact hv p hp⟩
  nv:=by rw[show(⟨fV,mem⟩:AS).vars.map (·.1)=vars.map (·.1) from u.keys];exact r.nv
  fq:=r.fq,fH:=r.fH,eN:=r.eN,ft:=r.ft }
theorem Wk.Le{i k:Nat}(hx:ka C.loc i=some x)(hv:A4 i s.vs=some (.r k))(ho:bM k s.os=some (.list l)):Wk C.g (tr C ρ M s) (tr C ρ M ⟨qD i (.v (.lst l)) s.vs,vd k s.os,h⟩):=fun F sh r=>by
 obtain⟨F0,l0,r0⟩:=Wk.perm (g:=C.g) (((iu ρ (o':= .list l) ho).1.append_right M)) F sh r
 have Tm:Rep C.g F0 ⟨bU ρ C.loc s.vs,(ρ k,.list l)::(ay ρ (vd k s.os)++M)⟩ sh:=r0
 obtain⟨G,l1,r1,Nl⟩:=Tm.freeze
 obtain⟨o,u⟩:=sX (ρ:=ρ) (v:= .v (.lst l)) (vs:=s.vs) hx
 exact⟨G,l0.trans l1,r1.Pl (m_ hx hv) u fun w hw=>by simp only[aa,VR] at hw;subst hw;exact Nl⟩
noncomputable def SB.Le(i:Nat)(r:SB C):SB C:=⟨r.ss,fun s K=>oR (ka C.loc i) fun O=>oR (A4 i s.vs) fun a=>mR a (fun k=>oL (bM k s.os) (fun l=>r.ex ⟨qD i (.v (.lst l)) s.vs,vd k s.os,s.h⟩ K) False) False,
 fun {ρ env M s K} fr h=>by
  obtain⟨x,hx,h⟩:=b6 h
  obtain⟨a,ha,h⟩:=b6 h
  cases a with
  | r k=>exact g8 h (fun l e h=>W0.weak (Wk.Le hx ha e) (r.ok fr h)) False.elim
  | _=>exact h.elim⟩
noncomputable def Pm(vs fX:Vs):Vs:=fX.rec (motive:=fun O=>Vs→Vs) (fun O=>[]) (fun o O ih vs=>o.casesOn none (fun O=>hd vs)::ih (tl vs)) vs
noncomputable def Tn(os:Os)(k:Nat):Bool:=os.any fun p=>beq p.1 k
noncomputable def Ew(os os':Os):Os:=os.filter fun p=>Tn os' p.1
noncomputable def lb(os':Os)(p:Nat×EO):Nat×EO:=(bM p.1 os').casesOn p fun e=>e.casesOn (fun O=>p) (fun O=>p.2.casesOn (fun l=> (p.1,.aU l)) (fun O=>p) (fun O=>p) (fun O O=>p)) (fun v=>v.casesOn (p.2.casesOn (fun O=>p) (fun O=>p) (fun O=> (p.1,.cell .none)) (fun O O=>p)) fun O=>p) (fun O O=>p)
noncomputable def Gj(os' os:Os):Os:=os.map (lb os')
theorem Gk{vars:cI}:∀ {os:Os} {pre:Mem},Wk g ⟨vars,pre++(ay ρ os++M)⟩ ⟨vars,pre++(ay ρ (Gj os' os)++M)⟩:=by
 intro os
 induction os with
 | nil=>exact Wk.refl
 | cons p t ih=>
  intro pre
  have a1:∀(p:Nat×EO) (t:Os),pre++(ay ρ (p::t)++M)=(pre++p.2.mem ρ p.1)++(ay ρ t++M):=fun p t=>by show pre++((p.2.mem ρ p.1++ay ρ t)++M)=_;rw[YH,YH]
  have key:Wk g ⟨vars,pre++(ay ρ (p::t)++M)⟩ ⟨vars,pre++(ay ρ (lb os' p::t)++M)⟩:=by
   have step:∀v,Wk g ⟨vars,pre++(ay ρ ((p.1,.cell v)::t)++M)⟩ ⟨vars,pre++(ay ρ ((p.1,.cell .none)::t)++M)⟩:=fun v=>
    (Wk.perm Z9).trans (Wk.trans (sx (mem:=(ρ p.1,.cell (v.map (aa ρ)))::(pre++(ay ρ t++M))) (mem':=(ρ p.1,.cell none)::(pre++(ay ρ t++M))) rfl (fun p hp=> .inr hp) id (V5.mpr ⟨⟨_,.head _,.inr ⟨_,rfl,rfl⟩⟩,fun p hp=> ⟨_,.tail _ hp,.inl rfl⟩⟩)) (Wk.perm Z9.symm))
   obtain⟨k,o⟩:=p
   cases o with
   | cell v=>
    show Wk g _ ⟨vars,pre++(ay ρ (lb os' (k,.cell v)::t)++M)⟩
    unfold lb
    cases bM k os' with
    | none=>exact Wk.refl
    | some e=>cases e with
     | cell w=>cases w with
      | none=>exact step v
      | some w=>exact Wk.refl
     | _=>exact Wk.refl
   | list l=>
    show Wk g _ ⟨vars,pre++(ay ρ (lb os' (k,.list l)::t)++M)⟩
    unfold lb
    cases bM k os' with
    | none=>exact Wk.refl
    | some e=>cases e with
     | cell w=>cases w <;> exact Wk.refl
     | aU l'=>exact(Wk.perm Z9).trans (Wk.trans (fun F s r=> ⟨F,FM.le.refl F,r.weak Upd.here⟩) (Wk.perm Z9.symm))
     | _=>exact Wk.refl
   | _=>
    unfold lb
    cases bM k os' with
    | none=>exact Wk.refl
    | some e=>cases e with
     | cell w=>cases w <;> exact Wk.refl
     | _=>exact Wk.refl
  refine key.trans ?_
  show Wk g _ ⟨vars,pre++(ay ρ (lb os' p::Gj os' t)++M)⟩
  rw[a1,a1];exact ih
def av(s:S)(vs:Vs)(os:Os):Prop:=(Pm s.vs vs,Gj os (Ew s.os os))=(vs,os)
theorem yX:∀ {xs:List Str} {vs fX:Vs},Pm vs fX=fX→(bU ρ xs fX).map (·.1)=(bU ρ xs vs).map (·.1)∧∀p∈bU ρ xs fX,p.2=none∨p∈bU ρ xs vs:=by
 intro xs
 induction xs with
 | nil=>intro vs fX _;exact⟨rfl,fun p hp=>by cases hp⟩
 | cons x t ih=>
  intro vs fX h
  have key:Pm (tl vs) (tl fX)=tl fX∧(hd fX=none∨hd fX=hd vs):=by
   cases fX with
   | nil=>exact⟨rfl,.inl rfl⟩
   | cons o r=>
    have h':(o.casesOn none (fun O=>hd vs):Option RV)::Pm (tl vs) r=o::r:=h
    obtain⟨h1,h2⟩:=List.cons.inj h'
    refine⟨h2,?_⟩
    cases o with
    | none=>exact .inl rfl
    | some v=>exact .inr h1.symm
  obtain⟨i1,i2⟩:=ih key.1
  refine⟨E5 (x:: ·) i1,fun p hp=>?_⟩
  rcases V1.mp hp with rfl | hp
  ·rcases key.2 with e | e
   ·left;show(hd fX).map _=none;rw[e];rfl
   ·right;show(x,(hd fX).map (aa ρ))∈(x,(hd vs).map (aa ρ))::_;rw[e];exact E7
  ·rcases i2 p hp with e | e
   ·exact .inl e
   ·exact .inr (E6 _ e)
theorem lg{f:Nat×EO→Bool}:∀ {os:Os},(ay ρ (os.filter f)).Sublist (ay ρ os):=by
 intro os
 induction os with
 | nil=>exact .slnil
 | cons p t ih=>
  rw[ZA]
  split
  ·exact(aap _).append ih
  ·exact ih.trans (aaN _ _)
theorem Wk.sub{vars fV:cI}{mem mem':Mem}(h1:fV.map (·.1)=vars.map (·.1))(h2:∀p∈fV,p.2=none∨p∈vars)(h3:mem'.Sublist mem):Wk g ⟨vars,mem⟩ ⟨fV,mem'⟩:=fun F s r=>
 ⟨F,FM.le.refl F, {(r.sub h3).toRepM with
  ns:=let⟨m,hn,hv⟩:=r.ns;⟨m,hn,fun p hp=>by
   rcases h2 p hp with e | e
   ·rw[e];trivial
   ·exact hv p e⟩
  nv:=by rw[show(⟨fV,mem'⟩:AS).vars.map (·.1)=vars.map (·.1) from h1];exact r.nv
  fq:=r.fq,fH:=r.fH,eN:=fun p hp=>r.eN p (h3.subset hp),ft:=r.ft }⟩
theorem av.wk{vs:Vs}{os:Os}{h:Hint}(e:av s vs os):Wk C.g (tr C ρ M s) (tr C ρ M ⟨vs,os,h⟩):=by
 have e1:Pm s.vs vs=vs:=E5 fst e
 have e2:Gj os (Ew s.os os)=os:=E5 snd e
 have:=yX (ρ:=ρ) (xs:=C.loc) e1
 refine(Wk.sub this.1 this.2 (mem':=ay ρ (Ew s.os os)++M) (lg.append (.refl M))).trans ?_
 have:=Gk (g:=C.g) (ρ:=ρ) (M:=M) (os':=os) (vars:=bU ρ C.loc vs) (os:=Ew s.os os) (pre:=[])
 rw[e2] at this;exact this
end
end
end
section
set_option tactic.hygienic true
section
section
variable {g:Gd}{F:FM}{C:Ctx}{ρ ρ':dz}{env:Env}{M:Mem}{s:S}{α β:Type}
inductive PI(C:Ctx)(ρ:dz)(M:Mem)(tp:Bool)(nd:Option Nat)(K:List AV→S→Prop):AV→AS→Prop
 | mk {l s v st tg bK} (o:AO) (lV:cE C.g v st (tr C ρ M s) tg bK l) (ht:∀t,(tp=true→kB t)→tg t) (hn:∀mem,(∀k,nd=some k→(ρ k,o)∈mem)→bK mem) (hm:∀k,nd=some k→(ρ k,o)∈(tr C ρ M s).mem) (k:K l s):PI C ρ M tp nd K v st
structure IT(C:Ctx) where
 e:Expr
 it:S→(List AV→S→Prop)→Prop
 tp:Bool
 nd:Option Nat
 ok:∀ {ρ env M s K},bQ C ρ env→it s K→W0 C.g VR (eval e env) (tr C ρ M s) (PI C ρ M tp nd K)
 fs:∀env x,foldedSetIterable e env x=pure x
def Ve(a:RV)(f:Int→Int→Int→Prop)(d:Prop):Prop:=a.casesOn (fun x=>x.casesOn d (fun O=>d) (fun O=>d) (fun O=>d) (fun O=>d) (fun O=>d) (fun O=>d) (fun O=>d) (fun O O O=>d) (fun O O O=>d) f) (fun O=>d) (fun O=>d) fun O O O=>d
theorem Lf{f:Int→Int→Int→Prop}{d:Prop}{P:RV→Prop}(h:Ve a f d)(h1:∀x y z,f x y z→P (.v (.wE x y z)))(h2:d→P a):P a:=by cases a with | v x=> (cases x with | wE x y z=>exact h1 _ _ _ h | _=>exact h2 h) | _=>exact h2 h
theorem Ry{tg:Expr→Prop}{tp:Bool}{K:List AV→S→Prop}(lV:cE C.g v (tr C ρ M s) (tr C ρ M s) (fun O=>True) (fun O=>True) l)(k:K l s):PI C ρ M tp none K v (tr C ρ M s):= .mk (.list l) lV (fun O O=>trivial) (fun O O=>trivial) (fun O e=>nomatch e) k
def Vf(a:RV)(s:S)(K:List AV→S→Prop):Prop:=mL a (fun l=>K l s)<|mT a (fun l=>K l s)<|Ve a (fun x y z=>Builtin.Range.small x y z=true∧K (aJ x y z) s)<|mS a (fun x=>x.cps.all (· <128)=true∧K (d6 x) s) False
theorem Lg{tp:Bool}{K:List AV→S→Prop}(h:Vf a s K):PI C ρ M tp none K (aa ρ a) (tr C ρ M s):=
 fA (P:=fun a=>PI C ρ M tp none K (aa ρ a) (tr C ρ M s)) h (fun l h=>Ry (tg:=fun O=>True) (sv l) h) fun h=>pI (P:=fun a=>PI C ρ M tp none K (aa ρ a) (tr C ρ M s)) h (fun l h=>Ry (tg:=fun O=>True) (Ar l) h) fun h=>
 Lf (P:=fun a=>PI C ρ M tp none K (aa ρ a) (tr C ρ M s)) h (fun x y z h=>Ry (tg:=fun O=>True) (As h.1) h.2) fun h=>cZ (P:=fun a=>PI C ρ M tp none K (aa ρ a) (tr C ρ M s)) h (fun x h=>Ry (tg:=fun O=>True) (AP h.1) h.2) False.elim
noncomputable def IT.of(x:SE C):IT C:=⟨x.e,fun s K=>x.ev s fun a s1=>Vf a s1 K,false,none,fun fr h=>bz (x.ok fr h) fun O O h=>Lg h,x.fm.fs⟩
noncomputable def BH(b:BI):Bool:=b.casesOn false false false false false false false false false true false false false
noncomputable def Jc(b:BI):Bool:=b.casesOn false false false false false false false false false false true false false
theorem yY{b:BI}(h:BH b=true):b= .enumerate:=by cases b <;> first | rfl | cases h
theorem BJ{b:BI}(h:Jc b=true):b= .zip:=by cases b <;> first | rfl | cases h
theorem BK{i:Nat}{es:List (SE C)}{tp:Bool}{K:List AV→S→Prop}{P:RV→List RV→S→Prop}(fr:bQ C ρ env)(h:(SE.oA i fp:SE C).ev s fun f s1=>uq es s1 fun xs s2=>P f xs s2)(hp:∀f xs s2,P f xs s2→bB C.g (aa ρ f) (xs.map (aa ρ)) [] [] (tr C ρ M s2) (PI C ρ M tp none K)):W0 C.g VR (eval (.Call (.Name (i4 C.gx i).1 fp) (fM es) [] pos) env) (tr C ρ M s) (PI C ρ M tp none K):=
 fx (bz ((SE.oA i fp:SE C).ok fr h) fun f s1 h=>lM (eA fr pos h) fun xs s2 h=>hp f xs s2 h) rfl (by rw[cz fr];rfl) (c8 _ _)
noncomputable def IT.enum(i:Nat)(fp:Pos)(x:SE C)(pos:Pos):IT C:=⟨.Call (.Name (i4 C.gx i).1 fp) (fM [x]) [] pos,
 fun s K=> (SE.oA i fp:SE C).ev s fun f s1=>uq [x] s1 fun xs s2=>mG f (fun b=>eE (BH b) (a1 xs (fun a=>mL a (fun l=>K (cA l) s2)<|mT a (fun l=>K (cA l) s2) False) False)) False,true,none,
 fun {ρ env M s K} fr h=>BK fr h fun f xs s2 h=>w8 (P:=fun f=>bB C.g (aa ρ f) (xs.map (aa ρ)) [] [] (tr C ρ M s2) (PI C ρ M true none K)) h (fun b h=>by
  obtain⟨hb,h⟩:=aq h
  cases yY hb
  exact g9 (P:=fun xs=>bB C.g _ (xs.map (aa ρ)) [] [] (tr C ρ M s2) (PI C ρ M true none K)) h (fun a h=>fA (P:=fun a=>bB C.g _ [aa ρ a] [] [] (tr C ρ M s2) (PI C ρ M true none K)) h (fun l h=>dL (Kw fun e it=> .mk (.list []) pq (fun t h=>h rfl) (fun O O=>trivial) (fun O e=>nomatch e) h)) fun h=>
   pI (P:=fun a=>bB C.g _ [aa ρ a] [] [] (tr C ρ M s2) (PI C ρ M true none K)) h (fun l h=>dL (Ff fun e it=> .mk (.list []) pq (fun t h=>h rfl) (fun O O=>trivial) (fun O e=>nomatch e) h)) False.elim) False.elim) False.elim,
 fun O O=>rfl⟩
noncomputable def IT.zip(i:Nat)(fp:Pos)(x y:SE C)(pos:Pos):IT C:=⟨.Call (.Name (i4 C.gx i).1 fp) (fM [x,y]) [] pos,
 fun s K=> (SE.oA i fp:SE C).ev s fun f s1=>uq [x,y] s1 fun xs s2=>mG f (fun b=>eE (Jc b) (a2 xs (fun a b=>mL a (fun l=>mL b (fun m=>K (lH l m) s2) False) False) False)) False,true,none,
 fun {ρ env M s K} fr h=>BK fr h fun f xs s2 h=>w8 (P:=fun f=>bB C.g (aa ρ f) (xs.map (aa ρ)) [] [] (tr C ρ M s2) (PI C ρ M true none K)) h (fun b h=>by
  obtain⟨hb,h⟩:=aq h
  cases BJ hb
  exact nk (P:=fun xs=>bB C.g _ (xs.map (aa ρ)) [] [] (tr C ρ M s2) (PI C ρ M true none K)) h (fun a b h=>fA (P:=fun a=>bB C.g _ [aa ρ a,aa ρ b] [] [] (tr C ρ M s2) (PI C ρ M true none K)) h (fun l h=>fA (P:=fun b=>bB C.g _ [.lst l,aa ρ b] [] [] (tr C ρ M s2) (PI C ρ M true none K)) h (fun m h=>
   dL (OB fun z TI TO i1 i2=> .mk (.list []) (AH false) (fun t h=>h rfl) (fun O O=>trivial) (fun O e=>nomatch e) h)) False.elim) False.elim) False.elim) False.elim,
 fun O O=>rfl⟩
theorem W1.weak{R:FM→β→α→Prop}{st bH:AS}{f:Value→Sem α}{x:AV}{Q:β→AS→Prop}(w:Wk g st bH)(h:W1 g R f x bH Q):W1 g R f x st Q:=fun F s v r hv K E k=>
 let⟨F1,l1,r1⟩:=w F s r
 h F1 s v r1 (hv.mono l1) K E fun F' b a aK s2 l2=>k F' b a aK s2 (l1.trans l2)
def bF(f:RF)(E A:Prop)(R:RV→Prop):Prop:=f.casesOn E A E R
def Jd(s:S)(f:(Nat→Prop)→(Nat→Vs)→(Nat→Os)→(Nat→AV→Hint)→Hint→Prop):Prop:=s.h.casesOn False (fun O O=>False) (fun O O=>False) (fun O=>False) (fun O O=>False) (fun O O O O=>False) (fun O O O=>False) f (fun O O O O O=>False) (fun O O O=>False)
def To(s:S)(f:Nat→(Nat→Vs)→(Nat→Os)→(Nat→Hint)→Hint→Prop):Prop:=s.h.casesOn False (fun O O=>False) (fun O O=>False) (fun O=>False) (fun O O=>False) (fun O O O O=>False) (fun O O O=>False) (fun O O O O O=>False) f (fun O O O=>False)
theorem BM{f:(Nat→Prop)→(Nat→Vs)→(Nat→Os)→(Nat→AV→Hint)→Hint→Prop}{P:Prop}(h:Jd s f)(k:∀i a b c d,f i a b c d→P):P:=by obtain⟨vs,os,h'⟩:=s;cases h' with | loop i a b c d=>exact k _ _ _ _ _ h | _=>exact h.elim
theorem BN{f:Nat→(Nat→Vs)→(Nat→Os)→(Nat→Hint)→Hint→Prop}{P:Prop}(h:To s f)(k:∀n a b c d,f n a b c d→P):P:=by obtain⟨vs,os,h'⟩:=s;cases h' with | wh n a b c d=>exact k _ _ _ _ _ h | _=>exact h.elim
theorem xh{K:RF→S→Prop}{vs:Vs}{os:Os}{f:fu}{st:AS}{Inv:AS→Prop}{J:Prop}(p:Pin C ρ ρ')(h:PF C ρ' M (fun f s=>bF f (J∧av s vs os) False fun v=>K (.ret v) s) f st)(hI:J→∀qI,Pin C ρ qI→∀st,Wk C.g st (tr C qI M ⟨vs,os,.nil⟩)→Inv st):TurnEnd Inv (PF C ρ M K) f st:=by
 obtain⟨p',w,k⟩:=h
 rename_i qI f s
 cases f with
 | next=>exact hI k.1 _ (p.trans p') _ (w.trans (av.wk k.2))
 | cont=>exact hI k.1 _ (p.trans p') _ (w.trans (av.wk k.2))
 | brk=>exact k.elim
 | ret v=>exact .mk (f:= .ret v) (p.trans p') w k
def bg(t:TG C)(b:SB C)(l:List AV)(I:Nat→Prop)(vs:Nat→Vs)(os:Nat→Os)(h:Nat→AV→Hint)(R:RV→S→Prop):Prop:=
 ∀i y,l[i]? =some y→I i→t.set (.v y) ⟨vs i,os i,h i y⟩ fun s2=>b.ex s2 fun f s3=>bF f (I (i+1)∧av s3 (vs (i+1)) (os (i+1))) False fun v=>R v s3
def vm(t:SE C)(b:SB C)(n:Nat)(vs:Nat→Vs)(os:Nat→Os)(h:Nat→Hint)(R:RV→S→Prop):Prop:=
 ∀i,i<n→t.tv ⟨vs i,os i,h i⟩ fun c s1=>c=true∧b.ex s1 fun f s3=>bF f (True∧av s3 (vs (i+1)) (os (i+1))) False fun v=>R v s3
noncomputable def SS.for(t:TG C)(x:IT C)(b:SB C)(pos:Pos):SS C:=⟨.For t.e x.e b.ss [] pos,fun s K=>eE ((!x.tp||t.tup)&&x.nd.isNone) (x.it s fun l s1=>Jd s1 fun I vs os h k=> (I 0∧av s1 (vs 0) (os 0))∧
  bg t b l I vs os h (fun v s3=>K (.ret v) s3)∧(I l.length→K .next ⟨vs l.length,os l.length,k⟩)),
 fun {ρ env M s K} fr h=>by
  obtain⟨hc,h⟩:=aq h
  obtain⟨Nn,Rz⟩:=E2.mp hc
  refine wK ((x.ok fr h).mono fun v st q=>?_) (x.fs env)
  obtain⟨o,lV,ht,hn,hm,k⟩:=q
  rename_i l s1 tg bK
  refine BM k fun I vs os hh k ⟨⟨hI,h0⟩,sk,kA⟩=>?_
  have Tp:x.nd=none:=by cases e:x.nd with | none=>rfl | some k=>rw[e] at Rz;cases Rz
  refine wL lV (ht _ fun e=>t.it (by rw[e] at Nn;exact Nn)) (fun i st=>I i∧∃ρ',Pin C ρ ρ'∧Wk C.g st (tr C ρ' M ⟨vs i,os i,.nil⟩)) ⟨hI,ρ,Pin.refl,av.wk h0⟩ (fun O O O=>hn _ fun k e=>by rw[Tp] at e;cases e) (fun i y st hy ⟨hi,ρ',p,w⟩=>?_) fun st ⟨hi,ρ',p,w⟩=> .mk (f:= .next) (s:=⟨vs l.length,os l.length,k⟩) p w (kA hi)
  exact W1.weak w (gm (t.ok (v:= .v y) (s:=⟨vs i,os i,hh i y⟩) (fr.pin p) (sk i y hy hi)) fun s2 h=> (b.ok (fr.pin p) h).mono fun f st q=>xh p q fun j qI p' st w=> ⟨j,qI,p',w⟩)⟩
noncomputable def SS.No(t:SE C)(b:SB C)(pos:Pos):SS C:=⟨.While t.e b.ss [] pos,fun s K=>To s fun n vs os h k=>av s (vs 0) (os 0)∧vm t b n vs os h (fun v s3=>K (.ret v) s3)∧
  t.tv ⟨vs n,os n,h n⟩ fun c s1=>c=false∧K .next ⟨s1.vs,s1.os,k⟩,
 fun {ρ env M s K} fr h=>by
  refine BN h fun n vs os hh k ⟨h0,sk,kA⟩=>?_
  refine Fe (fun m st=> ∃i ρ',m=n - i∧i≤n∧Pin C ρ ρ'∧Wk C.g st (tr C ρ' M ⟨vs i,os i,.nil⟩)) n ⟨0,ρ,rfl,Y8 _,Pin.refl,av.wk h0⟩ fun m st ⟨i,ρ',hm,hi,p,w⟩=>W0.weak w ?_
  rcases aaw i n with oz | KA
  ·exact vb (G:=fun c aD=>if c=true then W0 C.g FR (execs b.ss env) aD (TurnEnd (fun aK=> ∃m',m'<m∧∃i ρ',m'=n - i∧i≤n∧Pin C ρ ρ'∧Wk C.g aK (tr C ρ' M ⟨vs i,os i,.nil⟩)) (PF C ρ M K)) else PF C ρ M K .next aD) (t.tok (s:=⟨vs i,os i,hh i⟩) (fr.pin p) (sk i oz)) fun c s1 h=>by
    obtain⟨rfl,h⟩:=h
    rw[V8 rfl]
    exact(b.ok (fr.pin p) h).mono fun f st q=>xh p q fun O qI p' st w=> ⟨n - (i+1),by omega,i+1,qI,rfl,oz,p',w⟩
  ·have:i=n:=Zq hi KA
   subst this
   exact vb (G:=fun c aD=>if c=true then W0 C.g FR (execs b.ss env) aD (TurnEnd (fun aK=> ∃m',m'<m∧∃j ρ',m'=i - j∧j≤i∧Pin C ρ ρ'∧Wk C.g aK (tr C ρ' M ⟨vs j,os j,.nil⟩)) (PF C ρ M K)) else PF C ρ M K .next aD) (t.tok (s:=⟨vs i,os i,hh i⟩) (fr.pin p) kA) fun c s1 h=>by
    obtain⟨rfl,h⟩:=h
    rw[V4 (by simp)]
    exact .mk (f:= .next) (s:=⟨s1.vs,s1.os,k⟩) p Wk.refl h⟩
end
end
end
section
set_option tactic.hygienic true
section
section
variable {g:Gd}{F:FM}{C:Ctx}{ρ ρ':dz}{env:Env}{M:Mem}{s:S}
noncomputable def isIn(l:List (Str×NameKind))(x:Str)(k:NameKind):Bool:=l.any fun p=>p.1==x&&decide (p.2=k)
theorem qK{l:List (Str×NameKind)}{k:NameKind}(h:isIn l x k=true):(x,k)∈l:=by
 obtain⟨p,hp,h⟩:=Y1.mp h
 have h:=E2.mp h
 exact(Prod.ext (eq_of_beq h.1) (U9 h.2):p=(x,k))▸hp
noncomputable def Lh(X:Cx):Bool:=X.loc.all (fun x=>isIn X.names x .local)&& (X.cc.all fun p=>isIn X.names p.1 p.2.1&&blt p.2.2 X.pin)&&X.oA.all fun i=> (ka X.gx i).rec true fun p=>isIn X.names p.1 .globalImplicit
structure WU(X:Cx):Prop where
 hl:∀x∈X.loc,(x,NameKind.local)∈X.names
 hc:∀p∈X.cc,(p.1,p.2.1)∈X.names∧p.2.2<X.pin
 hg:∀i∈X.oA,∀p,ka X.gx i=some p→(p.1,globalImplicit)∈X.names
theorem BO{X:Cx}(h:Lh X=true):WU X:=
 have h1:=E2.mp h
 have h2:=E2.mp h1.1
 ⟨fun x hx=>qK (Jb.mp h2.1 x hx),fun p hp=>have h:=E2.mp (Jb.mp h2.2 p hp);⟨qK h.1,E1 h.2⟩,fun i hi p hp=>qK (by have:=Jb.mp h1.2 i hi;rw[hp] at this;exact this)⟩
theorem Gl{X:Cx}{cs:List (Str×Addr)}(fr:bQ C ρ env)(hX:Lh X=true)(Tq:X.gx=C.gx)(hl:(!X.full&&X.lam.isEmpty)=true)(hc:∀p∈X.cc,(p.1,ρ' p.2.2)∈cs)(b:eS C.g g')(e:bp g' dG)(N:Kn dG X.names cs):bQ ⟨X,g'⟩ ρ' dG:=by
 have x:=BO hX
 obtain⟨h6,h8⟩:=E2.mp hl
 refine⟨e,⟨cs,N,hc⟩,x.hl,x.hc,x.hg,fun p hp=>?_,b.n▸fr.h8,fun h hk=>fr.nb h fun a o ho=>hk a o (b.K▸ho),fun hf=>absurd ((nt h6).symm.trans hf) YQ,fun p hp=>?_⟩
 ·have:iW C.g p.1 p.2.val:=fr.hx p (Tq▸hp)
  show(g'.gl _=_)∨(g'.gl _=_∧g'.bl _=_)
  rw[b.gl,b.bl];exact this
 ·rw[show X.lam=[] from List.isEmpty_iff.mp h8] at hp;cases hp
structure LC(C:Ctx) where
 X:Cx
 t:∀g,TG ⟨X,g⟩
 ifs:∀g,List (SE ⟨X,g⟩)
 elt:∀g,SE ⟨X,g⟩
 more:List (Str×Const)
 gx:X.gx=C.gx
 loc:bh X.names=X.loc
 et:∀g,(t g).e=(t C.g).e
 ei:∀g,fM (ifs g)=fM (ifs C.g)
 ee:∀g,(elt g).e=(elt C.g).e
noncomputable def LC.expr(m:LC C)(it:IT C)(pos:Pos):Expr:= .ListComp (m.elt C.g).e [⟨(m.t C.g).e,it.e,fM (m.ifs C.g),0⟩] ⟨.function,m.X.names,false,false,m.more⟩ pos
noncomputable abbrev OC:=Option (Str×Nat)
noncomputable def OC.kH(oc:OC)(ρ:dz)(L:Addr):dz:=oc.elim ρ fun q=>fS ρ q.2 (L+1)
noncomputable def OC.os(oc:OC)(os:Os):Os:=oc.elim os fun q=> (q.2,.cell none)::os
noncomputable def OC.off(oc:OC)(os:Os):Bool:=oc.elim true fun q=>os.all fun p=>p.2.off q.2 p.1
def OC.fin(oc:OC)(os:Os)(os':Os):Prop:=oc.elim (os'=os) fun q=> ∃o,os'=(q.2,.cell o)::os
noncomputable def OC.cc(oc:OC)(C:Ctx)(p:Str×NameKind×Nat):Bool:=oc.elim (C.cc.any fun q=>q.1==p.1&&beq q.2.2 p.2.2) fun z=> (p.1==z.1&&beq p.2.2 z.2)||((C.cc.any fun q=>q.1==p.1&&beq q.2.2 p.2.2)&&!(beq p.2.2 z.2))
noncomputable def ur(C:Ctx)(ρ:dz):List (Str×Addr):=C.cc.map fun p=> (p.1,ρ p.2.2)
noncomputable def jN(C:Ctx)(X:Cx)(oc:OC)(tp tup:Bool):Bool:=(X.names.all fun p=>cond (qs p.2) (C.cc.any fun q=>q.1==p.1&&yK q.2.1) true)&& (cy X.names&& (dh (oc.map fst) X.names (ur C fun O=>0)&& (Lh X&& ((X.cc.all (oc.cc C))&& ((!X.full&&X.lam.isEmpty)&& (!tp||tup))))))
structure d7(C:Ctx)(X:Cx)(oc:OC)(tp tup:Bool):Prop where
 fr:(X.names.all fun p=>cond (qs p.2) (C.cc.any fun q=>q.1==p.1&&yK q.2.1) true)=true
 kn:cy X.names=true
 own:dh (oc.map fst) X.names (ur C fun O=>0)=true
 WV:Lh X=true
 cc:(X.cc.all (OC.cc oc C))=true
 pl:(!X.full&&X.lam.isEmpty)=true
 tp:(!tp||tup)=true
theorem hG{X:Cx}{tp tup:Bool}(h:jN C X oc tp tup=true):d7 C X oc tp tup:=
 have a:=E2.mp h
 have b:=E2.mp a.2
 have c:=E2.mp b.2
 have d:=E2.mp c.2
 have e:=E2.mp d.2
 have f:=E2.mp e.2
 ⟨a.1,b.1,c.1,d.1,e.1,f.1,f.2⟩
theorem qL{cs:List (Str×Addr)}(N:Kn env C.names cs)(rR:∀p∈C.cc,(p.1,ρ p.2.2)∈cs):Kn env C.names (ur C ρ):=
 ⟨N.kind,N.Rk,fun x k hm hk c hc=>N.cell x k hm hk c ((U0.mp hc).elim fun p hp=>hp.2▸rR p hp.1)⟩
theorem pO{β:Type}{q:Str×β}:∀ {l:List (Str×β)},q∈l→(l.lookup q.1).isSome=true
 | p::r,h=>by
  rw[Y4]
  cases hb:q.1==p.1 with
  | true=>rfl
  | false=>exact pO ((V1.mp h).elim (fun e=>by rw[e,ZI] at hb;cases hb) id)
noncomputable def Vg(C:Ctx)(sn:List (Str×NameKind)):Bool:=sn.all fun p=>cond (qs p.2) (C.cc.any fun q=>q.1==p.1&&yK q.2.1) true
theorem jO{sn:List (Str×NameKind)}(h:Vg C sn=true)(hc:∀p∈C.cc,(p.1,p.2.1)∈C.names∧p.2.2<C.pin):jC sn C.names (ur C ρ)=true:=
 Jb.mpr fun p hp=>by
  have x:=Jb.mp h p hp
  cases e:qs p.2 with
  | false=>rfl
  | true=>
   rw[e] at x
   obtain⟨q,hq,x⟩:=Y1.mp x
   have x:=E2.mp x
   have l:((ur C ρ).lookup q.1).isSome=true:=pO (q:=(q.1,ρ q.2.2)) (U0.mpr ⟨q,hq,rfl⟩)
   exact E2.mpr ⟨Y1.mpr ⟨(q.1,q.2.1),(hc q hq).1,E2.mpr x⟩,(eq_of_beq x.1)▸l⟩
theorem d7.Tr{X:Cx}{tp tup:Bool}(h:d7 C X oc tp tup):dh (oc.map fst) X.names (ur C ρ)=true:=by
 have x:=h.own
 unfold dh ur at x ⊢
 rw[List.all_map] at x ⊢
 exact x
theorem OC.Je(z:Str×Nat)(L:Addr):OC.kH (some z) ρ L z.2=L+1:=V8 rfl
theorem OC.Li{oc:OC}{os:Os}{L:Addr}(h:oc.off os=true):ay (oc.kH ρ L) (oc.os os)=mc (oc.map fst).isSome L (ay ρ os):=by
 cases oc with
 | none=>rfl
 | some z=>exact congr (E5 (fun a l=> (a,AO.cell none)::l) (OC.Je z L)) (tf bX h)
theorem d7.yZ{X:Cx}{tp tup:Bool}(h:d7 C X oc tp tup)(fr:bQ C ρ env)(Tq:X.gx=C.gx){L:Addr}(b:eS C.g g')(e:bp g' dG)(N:Kn dG X.names (Nj (oc.map fst) L (ur C ρ))):bQ ⟨X,g'⟩ (oc.kH ρ L) dG:=by
 refine Gl fr h.WV Tq h.pl (fun p hp=>?_) b e N
 have old:(C.cc.any fun q=>q.1==p.1&&beq q.2.2 p.2.2)=true→(p.1,ρ p.2.2)∈ur C ρ:=fun e=>by
  obtain⟨q,hq,e⟩:=Y1.mp e
  have e:=E2.mp e
  exact U0.mpr ⟨q,hq,by rw[eq_of_beq e.1,U7 e.2]⟩
 have x:=Jb.mp h.cc p hp
 cases oc with
 | none=>exact old x
 | some z=>
  rcases Zr.mp x with x | x
  ·have x:=E2.mp x
   rw[eq_of_beq x.1,U7 x.2,OC.Je]
   exact .head _
  ·have x:=E2.mp x
   rw[show OC.kH (some z) ρ L p.2.2=ρ p.2.2 from bX _ (c9 x.2)]
   exact .tail _ (old x.1)
theorem pP{xs:List Str}:∀ {vs:Vs},(bU ρ xs vs).map (·.1)=xs:=by
 induction xs with
 | nil=>exact rfl
 | cons x t ih=>exact E5 (x:: ·) ih
theorem jP{xs:List Str}:bU ρ xs []=xs.map fun x=> (x,none):=by induction xs with | nil=>rfl | cons x t ih=>exact E5 ((x,none):: ·) ih
theorem OC.wk{oc:OC}{os os':Os}(h:oc.fin os os'){xs:List Str}{vs:Vs}{m:Mem}:Wk g ⟨bU ρ xs vs,ay ρ os'++m⟩ ⟨bU ρ xs [],ay ρ (oc.os os)++m⟩:=by
 have hk:(bU ρ xs []).map (·.1)=(bU ρ xs vs).map (·.1):=pP.trans pP.symm
 have hv:∀p∈bU ρ xs [],p.2=none∨p∈bU ρ xs vs:=fun p hp=>by rw[jP] at hp;obtain⟨_,_,rfl⟩:=U0.mp hp;exact .inl rfl
 cases oc with
 | none=>cases(h:_=_);exact sx hk hv id fun p hp=> ⟨_,hp,.inl rfl⟩
 | some z=>
  obtain⟨o,rfl⟩:=h
  exact sx hk hv id (V5.mpr ⟨⟨_,.head _,.inr ⟨_,rfl,rfl⟩⟩,fun p hp=> ⟨_,.tail _ hp,.inl rfl⟩⟩)
def xi(ifs:List (SE C))(s:S)(T F:S→Prop):Prop:=ifs.casesOn (T s) fun c r=>r.casesOn (c.tv s fun b s1=>br b s1 T F) fun O O=>False
theorem nq{ifs:List (SE C)}(fr:bQ C ρ env){T F:S→Prop}(h:xi ifs s T F)(hT:∀s,T s→G true (tr C ρ M s))(hF:∀s,F s→G false (tr C ρ M s)):W0 C.g RQ (iZ (fM ifs) env) (tr C ρ M s) G:=by
 cases ifs with
 | nil=>exact k6 (hT s h)
 | cons c r=>cases r with
  | nil=>exact k7 (vb (c.tok fr h) fun b s3 h=>pK (P:=fun b=>G b (tr C ρ M s3)) h (fun k=>hT ⟨s3.vs,s3.os,k⟩) fun k=>hF ⟨s3.vs,s3.os,k⟩)
  | cons=>exact h.elim
def LC.bV(m:LC C)(oc:OC)(os:Os)(f:AV→Option AV)(h:AV→Hint)(l:List AV):Prop:= ∀g',eS C.g g'→∀y,y∈l→(m.t g').set (.v y) ⟨[],oc.os os,h y⟩ fun s2=>xi (m.ifs g') s2 (fun s3=> (m.elt g').ev s3 fun v s4=>mV v (fun x=>f y=some x∧oc.fin os s4.os) False) fun s3=>f y=none∧oc.fin os s3.os
def LC.turn(m:LC C)(os:Os)(f:AV→Option AV)(h:AV→Hint)(l:List AV):Prop:=m.bV none os f h l
def LC.Pn(m:LC C)(x0:Str)(c0:Nat)(os:Os)(f:AV→Option AV)(h:AV→Hint)(l:List AV):Prop:=m.bV (some (x0,c0)) os f h l
theorem LC.step(m:LC C){tp tup:Bool}(fr:bQ C ρ env)(hg:d7 C m.X oc tp tup){f:AV→Option AV}{hh:AV→Hint}(ho:oc.off s.os=true)(h:m.bV oc s.os f hh l)(hy:y∈l){a:List AV}(ha:a.length≤sizeLine):
  jD C.g (m.t C.g).e (fM (m.ifs C.g)) m.X.names (ur C ρ) (oc.map fst) (yI (m.elt C.g).e) (ay ρ s.os) M y (.list a) (.list (a++(f y).toList)):=fun g' dG L D b e N=>by
 have xj:=hg.yZ fr m.gx b e N
 have eC:∀(a:List AV) (k:Hint),jm (oc.map fst).isSome (bh m.X.names) (ay ρ s.os) M L D (.list a)=tr ⟨m.X,g'⟩ (oc.kH ρ L) ((D,.list a)::M) ⟨[],oc.os s.os,k⟩:=fun a k=>by
  unfold jm tr
  rw[m.loc,jP,OC.Li ho]
  cases oc <;> rfl
 rw[eC a (hh y),← m.et g',← m.ei g',← m.ee g']
 refine gm (C:=⟨m.X,g'⟩) ((m.t g').ok (v:= .v y) xj (h g' b y hy)) fun s2 h2=>nq (C:=⟨m.X,g'⟩) xj h2 (fun s3 h3=>?_) fun s3 h3=>?_
 ·refine uP (bz (C:=⟨m.X,g'⟩) ((m.elt g').ok xj h3) fun v s4 h4=>cL (P:=fun v=> ∃a' mem',Upd (ay (oc.kH ρ L) s4.os++(D,.list a)::M) D (.list a') (.list (a'++ [aa (oc.kH ρ L) v])) mem'∧a'.length≤sizeLine∧Wk g' ⟨bU (oc.kH ρ L) m.X.loc s4.vs,mem'⟩ (jm (oc.map fst).isSome (bh m.X.names) (ay ρ s.os) M L D (.list (a++(f y).toList)))) h4 (fun x h4=>?_) False.elim)
  refine⟨a,_,Upd.pre .here _,ha,?_⟩
  rw[h4.1,eC _ .nil]
  exact OC.wk h4.2
 ·show Wk g' _ (jm _ _ _ _ _ _ _)
  rw[h3.1,eC _ .nil,toList,Y_]
  exact OC.wk h3.2
def hF(s:S)(f:(AV→Option AV)→(AV→Hint)→Hint→Prop):Prop:=s.h.casesOn False (fun O O=>False) (fun O O=>False) (fun O=>False) (fun O O=>False) (fun O O O O=>False) (fun O O O=>False) (fun O O O O O=>False) (fun O O O O O=>False) f
theorem xk{f:(AV→Option AV)→(AV→Hint)→Hint→Prop}{P:Prop}(h:hF s f)(k:∀a b c,f a b c→P):P:=by obtain⟨vs,os,h'⟩:=s;cases h' with | f a b c=>exact k _ _ _ h | _=>exact h.elim
def LC.run(m:LC C)(oc:OC)(it:IT C)(s:S)(K:List AV→S→Prop):Prop:=eE (jN C m.X oc it.tp (m.t C.g).tup) (it.it s fun l s1=>hF s1 fun f h k=>eE (oc.off s1.os) (l.length≤sizeLine∧m.bV oc s1.os f h l∧hV ⟨s1.vs,s1.os,k⟩ fun r s2=>mL (.v r) (fun r=>l.filterMap f=r∧K r s2) False))
theorem kI{l:List AV}{f:AV→Option AV}{i:Nat}{y:AV}(h:l[i]? =some y):(l.take (i+1)).filterMap f=(l.take i).filterMap f++(f y).toList:=by
 rw[Zo,h,List.filterMap_append]
 show _++ [y].filterMap f=_
 rw[Zh]
 cases f y <;> rfl
theorem jm.has{co:Bool}{ck:List Str}{m1 m2:Mem}{L D:Addr}{a:AO}{p:Addr×AO}(h:p∈m1++m2):p∈(jm co ck m1 m2 L D a).mem:=
 (Az co).subset ((YZ.mp h).elim (YG _) fun h=>aav _ (.tail _ h))
theorem LC.go(m:LC C){oc:OC}{it:IT C}{pos ps:Pos}{use:Option (Value→Sem Unit)}{Q:AV→AS→Prop}{K:List AV→S→Prop}(fr:bQ C ρ env)(h1:jE (oc.map fst) m.X.names)(h:m.run oc it s K)
  (hQ:∀l s1,K l s1→uQ C.g (.list l) (bU ρ C.loc s1.vs) (ay ρ s1.os) M (E0 C.g use Q)):W0 C.g VR (comprehension (m.expr it pos) ⟨.function,m.X.names,false,false,m.more⟩ env ps (newList []) false (eval it.e env) use) (tr C ρ M s) Q:=by
 obtain⟨hg,h⟩:=aq h
 have hg:=hG hg
 obtain⟨cs,N,rR⟩:=fr.N
 refine qu qr rfl (p2:=it.e.pos) (cs:=ur C ρ) (B:=yI (m.elt C.g).e) fr.e (qL N rR) rfl (jO hg.fr fr.hc) hg.kn hg.Tr h1 (fun dG=>IF _ _ _ _ _ _ dG) (it.fs env) ((it.ok fr h).mono fun v st q=>?_)
 obtain⟨o,lV,ht,hn,hm,k⟩:=q
 rename_i l s1 tg bK
 refine xk k fun f hh k h=>?_
 obtain⟨ho,hsz,Lj,hr⟩:=aq h
 refine dB hr fun r k' hr=>?_
 cases r with
 | lst r=>
  refine⟨bU ρ C.loc s1.vs,ay ρ s1.os,M,tg,bK,l,lV,ht _ fun e=> (m.t C.g).it ?_,fun L D a=>hn _ fun k e=>jm.has (hm k e),fun i=> .list ((l.take i).filterMap f),rfl,fun i y hy=>?_,?_⟩
  ·have:=hg.tp
   rw[e] at this;exact this
  ·rw[kI hy]
   exact m.step fr hg ho Lj (YC hy) (E4 (aaV ..) (E4 (aaC ..) hsz))
  ·rw[ZM,hr.1]
   exact hQ r ⟨s1.vs,s1.os,k'⟩ hr.2
 | _=>exact hr.elim
noncomputable def SE.lc(m:LC C)(it:IT C)(pos:Pos):SE C:=SE.I7 (m.expr it pos) (fun s K=>m.run Option.none it s fun l s1=>K (.v (.lst l)) s1) true false (fun fr h=>m.go (oc:=Option.none) (use:=Option.none) fr trivial h fun l s k=>qq (db k)) (fun O=>rfl) ⟨fun O O=>rfl,fun O=>rfl,fun O O=>rfl,fun O O O O=>rfl,fun h=>nomatch h⟩
noncomputable def Gm(X:Cx)(x:Str)(py cF:Pos):Bool:=py.line==cF.line&&!(X.names.any fun q=>q.1==x&& (q.2== .local||q.2== .cell))
theorem LC.asg(m:LC C){oc:OC}{it:IT C}{i:Nat}{K:RF→S→Prop}{K':List AV→S→Prop}(fr:bQ C ρ env)(hx:ka C.loc i=some x)(hc:Gm m.X x py cF=true)(h1:jE (oc.map fst) m.X.names)(h:m.run oc it s K')(hQ:∀l s1,K' l s1→uQ C.g (.list l) (bU ρ C.loc s1.vs) (ay ρ s1.os) M fun v st=>W1 C.g UR (storeName env x) v st fun O=>PF C ρ M K .next):
  W0 C.g FR (exec (.Assign [.Name (i4 C.loc i) py] (m.expr it cF) pos) env) (tr C ρ M s) (PF C ρ M K):=by
 obtain⟨cs,N,rR⟩:=fr.N
 rw[eX hx]
 exact sB fr.e N (fr.hl _ (bW hx)) hc (m.go (use:=some (assign (.Name x py) env)) fr h1 h fun l s1 k D F sh r=> (hQ l s1 k D F sh r).rec fun F' y bH le r v h=> ⟨F',y,bH,le,r,v,b8 h⟩)
theorem LC.Ts{i:Nat}{K:RF→S→Prop}(fr:bQ C ρ' env)(hx:ka C.loc i=some x)(p:Pin C ρ ρ')(h:K .next ⟨qD i v s.vs,s.os,s.h⟩):W1 C.g UR (storeName env x) (aa ρ' v) (tr C ρ' M s) fun O=>PF C ρ M K .next:=by
 have t:=TN.ok (t:= .loc i) (v:=v) (f:=fun s=>K .next s) (s:=s) (M:=M) fr (by show oR (ka C.loc i) _;rw[hx];exact h)
 rw[show TN.name C (.loc i)=x from eX hx] at t
 exact gm t fun s h=>Lb p h
noncomputable def SS.Jf(i:Nat)(py:Pos)(m:LC C)(it:IT C)(cF pos:Pos):SS C:=⟨.Assign [.Name (i4 C.loc i) py] (m.expr it cF) pos,
 fun s K=>oR (ka C.loc i) fun x=>eE (Gm m.X x py cF) (m.run Option.none it s fun l s1=>K .next ⟨qD i (.v (.lst l)) s1.vs,s1.os,s1.h⟩),
 fun fr h=>by
  obtain⟨x,hx,h⟩:=b6 h
  obtain⟨hc,h⟩:=aq h
  exact m.asg (oc:=Option.none) fr hx hc trivial h fun l s1 k=>qq (LC.Ts (v:= .v (.lst l)) fr hx Pin.refl k)⟩
end
end
end
section
set_option tactic.hygienic true
section
section
variable {g:Gd}{F:FM}{C:Ctx}{ρ ρ':dz}{env:Env}{M:Mem}{s:S}{α β:Type}
noncomputable def xm(names:List (Str×NameKind)):List RV→Vs:=names.rec (fun O=>[]) fun p O ih vs=>kd p.2 (vs.head?::ih vs.tail) (ih vs.tail) (ih vs)
noncomputable def xo(n:Nat)(names:List (Str×NameKind)):List RV→Os→Os:=names.rec (motive:=fun O=>Nat→List RV→Os→Os) (fun O O m=>m) (fun p O ih n vs m=>kd p.2 (ih n vs.tail m) (ih (n+1) vs.tail ((n,.cell vs.head?)::m)) (ih n vs m)) n
theorem BP(ρ:dz){names:List (Str×NameKind)}:∀(vs:List RV),mK names (vs.map (aa ρ))=bU ρ (bh names) (xm names vs):=by
 induction names with
 | nil=>exact fun O=>rfl
 | cons p r ih=>
  intro vs
  obtain⟨x,k⟩:=p
  have h1:=map_tail (f:=aa ρ) (l:=vs)▸ih vs.tail
  cases k with
  | «local» =>exact congr (E5 (fun o l=> (x,o)::l) List.head?_map) h1
  | cell=>exact h1
  | _=>exact ih vs
theorem BQ(ρ:dz)(c0 L:Nat)(hρ:∀i,ρ (c0+i)=L+i){names:List (Str×NameKind)}:∀(i:Nat) (vs:List RV) (m:Os),po (L+i) names (vs.map (aa ρ)) (ay ρ m)=ay ρ (xo (c0+i) names vs m):=by
 induction names with
 | nil=>exact fun O O O=>rfl
 | cons p r ih=>
  intro i vs m
  obtain⟨x,k⟩:=p
  have h1:=map_tail (f:=aa ρ) (l:=vs)▸ih i vs.tail m
  cases k with
  | «local» =>exact h1
  | cell=>
   have h2:=map_tail (f:=aa ρ) (l:=vs)▸ih (i+1) vs.tail ((c0+i,.cell vs.head?)::m)
   refine Eq.trans ?_ h2
   show po (L+i+1) r _ ((L+i,AO.cell _)::ay ρ m)=po (L+i+1) r _ ((ρ (c0+i),AO.cell _)::ay ρ m)
   rw[hρ,List.head?_map]
  | _=>exact ih i vs m
theorem y0(ρ:dz)(c0 L:Nat)(hρ:∀i,ρ (c0+i)=L+i){names:List (Str×NameKind)}:∀(i:Nat) (acc:List (Str×Nat)),cellsFrom (L+i) names (acc.map fun p=> (p.1,ρ p.2))=(cellsFrom (c0+i) names acc).map fun p=> (p.1,ρ p.2):=by
 induction names with
 | nil=>exact fun O O=>rfl
 | cons p r ih=>
  intro i acc
  obtain⟨x,k⟩:=p
  cases k with
  | cell=>exact(E5 (fun a=>cellsFrom (L+i+1) r ((x,a)::acc.map fun p=> (p.1,ρ p.2))) (hρ i).symm).trans (ih (i+1) ((x,c0+i)::acc))
  | _=>exact ih i acc
noncomputable def pQ(n:Nat)(v:RV):Bool:=v.casesOn (fun O=>true) (fun k=>blt k n) (fun O=>true) fun O O fR=>fR.all fun p=>blt p.2 n
noncomputable def EO.below(n k:Nat)(o:EO):Bool:=o.casesOn (fun O=>blt k n) (fun O=>blt k n) (fun v=>blt k n&&v.casesOn true (pQ n)) fun m O=>ble (k+m) n
theorem ti{n:Nat}(h:pQ n v=true)(p:∀j,j<n→ρ' j=ρ j):aa ρ' v=aa ρ v:=by
 cases v with
 | r j=>show AV.val (.ref (ρ' j))=_;rw[p j (E1 h)];rfl
 | f fi q fR=>exact E5 (AV.fn fi q) (YU fun z hz=>by rw[p z.2 (E1 (Jb.mp h z hz))])
 | _=>rfl
theorem xp{n:Nat}(p:∀j,j<n→ρ' j=ρ j):∀(m j:Nat),j+m≤n→kG ρ' m j=kG ρ m j
 | 0,_,_=>rfl
 | m+1,j,h=>by
  show ρ' j::kG ρ' m (j+1)=ρ j::kG ρ m (j+1)
  rw[p j (U2 (Nat.lt_add_of_pos_right (Zt m)) h),xp p m (j+1) (Nat.succ_add_eq_add_succ j m▸h)]
theorem BS{n k:Nat}{o:EO}(h:o.below n k=true)(p:∀j,j<n→ρ' j=ρ j):o.mem ρ' k=o.mem ρ k:=by
 cases o with
 | list l=>show [(ρ' k,_)]=_;rw[p k (E1 h)];rfl
 | aU l=>show [(ρ' k,_)]=_;rw[p k (E1 h)];rfl
 | cell v=>
  have h':=E2.mp h
  show [(ρ' k,AO.cell (v.map (aa ρ')))]=_
  rw[p k (E1 h'.1)]
  cases v with
  | none=>rfl
  | some v=>show [(ρ k,AO.cell (some (aa ρ' v)))]=_;rw[ti h'.2 p];rfl
 | any m f=>exact E5 f (xp p m k (E1 h))
noncomputable def Gn(n:Nat)(os:Os):Bool:=os.all fun p=>p.2.below n p.1
theorem xq{n:Nat}{os:Os}(h:Gn n os=true)(p:∀j,j<n→ρ' j=ρ j):ay ρ' os=ay ρ os:=by
 induction os with
 | nil=>rfl
 | cons q t ih=>
  obtain⟨h1,h2⟩:=E2.mp (show(q.2.below n q.1&&Gn n t)=true from h)
  show q.2.mem ρ' q.1++ay ρ' t=q.2.mem ρ q.1++ay ρ t
  rw[BS h1 p,ih h2]
theorem Go{n:Nat}{vs:List RV}(h:vs.all (pQ n)=true)(p:∀j,j<n→ρ' j=ρ j):vs.map (aa ρ')=vs.map (aa ρ):=by
 induction vs with
 | nil=>rfl
 | cons v t ih=>
  obtain⟨h1,h2⟩:=E2.mp (show(pQ n v&&t.all (pQ n))=true from h)
  show aa ρ' v::_=_::_
  rw[ti h1 p];exact E5 _ (ih h2)
structure tj(g g':Gd):Prop where
 prog:g'.prog=g.prog
 w:g'.w=g.w
 K:g'.K=g.K
 os:g'.os=g.os
 gl:g'.gl=g.gl
 bl:g'.bl=g.bl
 tabs:g'.tabs=g.tabs
theorem cU.bS(b:cU g g'):tj g g':=⟨b.prog,b.w,b.K,b.os,b.gl,b.bl,b.tabs⟩
theorem eS.bS(b:eS g g'):tj g g':=⟨b.prog,b.w,b.K,b.os,b.gl,b.bl,b.tabs⟩
theorem tj.trans(b:tj g g')(c:tj g' Tt):tj g Tt:=⟨c.prog.trans b.prog,c.w.trans b.w,c.K.trans b.K,c.os.trans b.os,c.gl.trans b.gl,c.bl.trans b.bl,c.tabs.trans b.tabs⟩
theorem tj.refl(g:Gd):tj g g:=⟨rfl,rfl,rfl,rfl,rfl,rfl,rfl⟩
structure tm(g:Gd)(a P:Addr)(q:Str):Prop where
 code:∀o fd,g.K.f a=some o→o.data= .func fd→(∃c,fd.code= .ref c∧∀h:Heap,(∀a o,g.K.f a=some o→h.get? a=some o)→CodeHd h c P)∧fd.qualname++ ".<locals>." ++ "<lambda>" =q
 tab:(P,q)∈g.tabs
 uniq:∀t∈g.tabs,t.1=P→t.2=q
 main:mainGlobals≠P
 bi:∀h:Heap,(∀a o,g.K.f a=some o→h.get? a=some o)→h.BuiltinsAt g.gl P
theorem tm.at{a P:Addr}{q:Str}(X:tm g a P q)(b:tj g g')(hc:qn g a env):wW g' env P q:=by
 obtain⟨o,fd,h1,h2,h3,h4⟩:=hc
 obtain⟨⟨c,h5,h6⟩,h7⟩:=X.code o fd h1 h2
 exact⟨⟨c,by rw[h3,h5],by rw[b.K];exact h6⟩,by rw[h4];exact h7,by rw[b.tabs];exact X.tab,by rw[b.tabs];exact X.uniq,X.main,by rw[b.K,b.gl];exact X.bi⟩
theorem tm.bS{a P:Addr}{q:Str}(X:tm g a P q)(b:tj g g'):tm g' a P q:=⟨by rw[b.K];exact X.code,by rw[b.tabs];exact X.tab,by rw[b.tabs];exact X.uniq,X.main,by rw[b.K,b.gl];exact X.bi⟩
def dH(f:RF)(s:S)(x:AV)(os:Os):Prop:=f.casesOn (x= .none∧Ew s.os os=os) False False fun v=>v= .v x∧Ew s.os os=os
noncomputable def yZ(X:Cx)(c0:Nat)(iL:List RV)(os:Os)(os':Os):Bool:=Lh X&& ((X.cc.all fun p=> (cellsFrom c0 X.names []).any fun q=>q.1==p.1&&beq q.2 p.2.2)&& (ble c0 X.pin&& (iL.all (pQ c0)&& (Gn c0 os&&Gn c0 os'))))
theorem BU:ay ρ (a++b)=ay ρ a++ay ρ b:=by
 induction a with
 | nil=>rfl
 | cons p t ih=>exact(E5 (p.2.mem ρ p.1++ ·) ih).trans (YH ..).symm
noncomputable def y4(ρ:dz)(c0 L:Nat):dz:=fun j=>if c0≤j then L+1+(j - c0) else ρ j
theorem qM{c0 L:Nat}:∀j,j<c0→y4 ρ c0 L j=ρ j:=fun j hj=>V4 (Nat.not_le.mpr hj)
theorem xr{c0 L:Nat}:∀i,y4 ρ c0 L (c0+i)=L+1+i:=fun i=> (V8 (Y0 _ _)).trans (by rw[Nat.add_sub_cancel_left])
theorem tn{X:Cx}{cs:List (Str×Addr)}(hn:9≤g.n)(nb:NB g)(hx:∀p∈X.gx,iW g p.1 p.2.val)(hX:Lh X=true)(b:cU g g')(e:bp g' env)(N:Kn env X.names cs)(hc:∀p∈X.cc,(p.1,ρ p.2.2)∈cs)(kd:X.full=true→∀x,env.kindOf x=X.names.lookup x)(lm:∀p∈X.lam,wW g' env p.1 p.2):bQ ⟨X,g'⟩ ρ env:=
 have x:=BO hX
 ⟨e,⟨cs,N,hc⟩,x.hl,x.hc,x.hg,fun p hp=>by
  have:=hx p hp
  show(g'.gl _=_)∨(g'.gl _=_∧g'.bl _=_)
  rw[b.gl,b.bl];exact this,b.n▸YY hn,fun h hk=>nb h fun a o ho=>hk a o (b.K▸ho),kd,lm⟩
theorem BV{os os':Os}(h:Ew os os'=os'):(ay ρ os'++M).Sublist (ay ρ os++M):=by
 have q:(ay ρ (Ew os os')).Sublist (ay ρ os):=lg
 rw[h] at q
 exact q.append (.refl M)
theorem jQ(hn:9≤g.n)(nb:NB g){a:Addr}{xs:List RV}{kn:List Str}{fw:List RV}{os os':Os}(hf:FnAt g.K a f qual dV kV)(X:Cx)(hx:∀p∈X.gx,iW g p.1 p.2.val)(B:∀g,SB ⟨X,g⟩)(iL:List RV)(c0:Nat)(h:Hint){more:List (Str×Const)}(eR:∀g,f.body= .stmts (B g).ss)(uO:f.scope=⟨.function,X.names,false,false,more⟩)(AQ:bh X.names=X.loc)(gU:∀ρ,jz g f qual dV kV (xs.map (aa ρ)) kn (fw.map (aa ρ)) (dg X.names (iL.map (aa ρ))))(Po:yZ X c0 iL os os'=true)(hc:∀ρ,SK X.names X.names (iL.map (aa ρ))=SM X.names (iL.map (aa ρ)))(Tu:∀p∈X.lam,tm g a p.1 p.2)(hex:∀g',cU g g'→(B g').ex ⟨xm X.names iL,xo c0 X.names iL []++os,h⟩ fun f s=>dH f s x os'):
  Fn g (.v (.val (.ref a))) xs kn fw os (.v x) os':=fun ρ M=>by
 have o1:=E2.mp Po
 have o2:=E2.mp o1.2
 have o3:=E2.mp o2.2
 have o4:=E2.mp o3.2
 have o5:=E2.mp o4.2
 refine mM (E4 (E1 rfl) hn) hf X.names (iL.map (aa ρ)) (eR g) uO (gU ρ) (hc ρ) fun g' L env b e N kd cq=>?_
 have fr:bQ ⟨X,g'⟩ (y4 ρ c0 L) env:=tn hn nb hx o1.1 b e N (fun p hp=>by
  obtain⟨q,hq,e⟩:=Y1.mp (Jb.mp o2.1 p hp)
  have e:=E2.mp e
  rw[← eq_of_beq e.1,← U7 e.2]
  exact y0 (y4 ρ c0 L) c0 (L+1) xr 0 []▸U0.mpr ⟨q,hq,rfl⟩) (fun O=>kd) fun p hp=> (Tu p hp).at b.bS cq
 have e4:(⟨mK X.names (iL.map (aa ρ)),po (L+1) X.names (iL.map (aa ρ)) []++(ay ρ os++M)⟩:AS)=tr ⟨X,g'⟩ (y4 ρ c0 L) M ⟨xm X.names iL,xo c0 X.names iL []++os,h⟩:=by
  unfold tr
  rw[BU,xq o5.1 qM,YH,← Go o4.1 (qM (ρ:=ρ) (L:=L)),BP,AQ]
  exact E5 (fun m=> (⟨_,m++_⟩:AS)) (BQ (y4 ρ c0 L) c0 (L+1) xr 0 iL [])
 rw[e4,show(B g).ss=(B g').ss from FuncBody.stmts.inj ((eR g).symm.trans (eR g'))]
 refine fun F s r K E k=> (B g').ok fr (hex g' b) F s r K E fun F' fl a st s' l r' hr q=>?_
 obtain⟨p,w,q⟩:=q
 rename_i ρ2 f2 s2
 obtain⟨F2,l2,r2⟩:=w F' s' r'
 have sub:Ew s2.os os'=os'→(ay ρ os'++M).Sublist (tr ⟨X,g'⟩ ρ2 M s2).mem:=fun e=>
  xq o5.2 (fun j hj=> (p j (U2 hj (E1 o3.1))).trans (qM j hj))▸BV e
 cases f2 with
 | next=>exact k F2 .next a _ s' (l.trans l2) r2 hr ⟨_,sub q.2,q.1▸⟨rfl,rfl⟩⟩
 | ret v=>
  obtain⟨rfl,q⟩:=q
  exact k F2 (.ret x) a _ s' (l.trans l2) r2 (hr.mono l2) ⟨_,sub q,rfl,rfl⟩
 | _=>exact q.elim
noncomputable def RV.shift(d:Nat)(v:RV):RV:=v.casesOn .v (fun k=> .r (k+d)) .b fun fi q fR=> .f fi q (fR.map fun p=> (p.1,p.2+d))
noncomputable def EO.shift(d:Nat)(o:EO):EO:=o.casesOn .list .aU (fun v=> .cell (v.map (RV.shift d))) .any
noncomputable def Os.shift(d:Nat)(os:Os):Os:=os.map fun p=> (p.1+d,p.2.shift d)
theorem ix(d:Nat)(v:RV):aa ρ (v.shift d)=aa (fun k=>ρ (k+d)) v:=by cases v with
 | f fi q fR=>exact E5 (AV.fn fi q) (V3 ..)
 | _=>rfl
theorem nr(d:Nat):∀n k,kG ρ n (k+d)=kG (fun k=>ρ (k+d)) n k
 | 0,_=>rfl
 | n+1,k=>E5 (ρ (k+d):: ·) (by have:=nr d n (k+1);rw[ZR] at this;exact this)
theorem nu(d:Nat)(os:Os):ay ρ (Os.shift d os)=ay (fun k=>ρ (k+d)) os:=by
 induction os with
 | nil=>rfl
 | cons p t ih=>
  show(p.2.shift d).mem ρ (p.1+d)++ay ρ (Os.shift d t)=_++_
  rw[ih]
  congr 1
  cases h:p.2 with
  | list l=>rfl
  | aU l=>rfl
  | cell v=>show [(ρ (p.1+d),AO.cell ((v.map (RV.shift d)).map (aa ρ)))]=[(ρ (p.1+d),AO.cell (v.map _))];rw[aa7];congr 4;funext v;exact ix d v
  | any n f=>exact E5 f (nr d n p.1)
theorem Fn.shift{kn:List Str}{os os':Os}(h:Fn g fv xs kn fw os x os')(d:Nat):Fn g (fv.shift d) (xs.map (RV.shift d)) kn (fw.map (RV.shift d)) (Os.shift d os) (x.shift d) (Os.shift d os'):=fun ρ M=>by
 have:=h (fun k=>ρ (k+d)) M
 rw[← nu,← nu,← ix,← ix] at this
 have e:∀l:List RV,(l.map (RV.shift d)).map (aa ρ)=l.map (aa fun k=>ρ (k+d)):=fun l=>by rw[V3];exact YU fun v O=>ix d v
 rw[e,e];exact this
end
end
end
section
section
section
variable {C:Ctx}
noncomputable def vn(n:Nat):Bool:=blt 0 n&&blt n 1073741824
theorem kJ{n:Nat}(h:vn n=true):(n:Int)≠0∧(n:Int).natAbs<1073741824:=by
 obtain⟨h1,h2⟩:=E2.mp h
 have h1:=E1 h1
 have h2:=E1 h2
 exact⟨fun e=>Z0 0 (by cases Int.ofNat.inj e;exact h1),h2⟩
noncomputable def SE.tt(l:SE C)(n k:Nat)(rp pos:Pos):SE C:=SE.rT (.BinOp l.e .FloorDiv (.Constant (.int n) k rp) pos) (fun s K=>l.ev s fun a s1=>mI a (fun i=>eE (vn n) (K (.v (.int (i.fdiv (n:Nat)))) s1)) False)
 fun {ρ env M s K} fr h=>qf (bz (l.ok fr h) fun a s1 h=>rY (cK (P:=fun a=>W2 C.g VR _ (aa ρ a) (.int n) (tr C ρ M s1) (PV C ρ M K)) h (fun i h=> (aq h).elim fun e h=>IA (kJ e).1 (kJ e).2 (db h)) False.elim))
noncomputable def SE.y5(l:SE C)(n k:Nat)(rp pos:Pos):SE C:=SE.rT (.BinOp l.e .Mod (.Constant (.int n) k rp) pos) (fun s K=>l.ev s fun a s1=>mI a (fun i=>eE (vn n) (K (.v (.int (i.fmod (n:Nat)))) s1)) False)
 fun {ρ env M s K} fr h=>qf (bz (l.ok fr h) fun a s1 h=>rY (cK (P:=fun a=>W2 C.g VR _ (aa ρ a) (.int n) (tr C ρ M s1) (PV C ρ M K)) h (fun i h=> (aq h).elim fun e h=>Iz (kJ e).1 (db h)) False.elim))
noncomputable def SE.dv(x:SE C)(n a:Nat):SE C:=SE.tt x n 0 (dP n x.p.endLine a) (fZ x.p (dP n x.p.endLine a) 0 0)
noncomputable def SE.md(x:SE C)(n a:Nat):SE C:=SE.y5 x n 0 (dP n x.p.endLine a) (fZ x.p (dP n x.p.endLine a) 0 0)
noncomputable def SS.dead(st:Stmt):SS C:=⟨st,fun O O=>False,fun O h=>h.elim⟩
def Lk(C:Ctx)(f:RV)(xs:List RV)(n:Str)(y:RV)(s:S)(K:RV→S→Prop):Prop:=w_ C f xs [n] [y] s K
noncomputable def SE.Ll(f:SE C)(x:Str)(p:Pos)(hf:f.e= .Name x p)(es:List (SE C))(n:Str)(v:SE C)(kp pos:Pos):SE C:=
 SE.I7 (.Call (.Name x p) (fM es) [⟨some n,v.e,kp⟩] pos) (fun s K=>f.ev s fun fv s1=>uq es s1 fun xs s2=>v.ev s2 fun y s3=>Lk C fv xs n y s3 K) false true
  (fun {ρ env M s K} fr h=>ER (by rw[← hf];exact bz (f.ok fr h) fun fv s1 h=>lM (eA fr pos h) fun xs s2 h=>bz (v.ok fr h) fun y s3 h=>nj (fw:=[y]) h) rfl (by rw[cz fr];rfl) (c8 _ _))
  (fun O=>rfl) ⟨fun O O=>rfl,fun O=>rfl,fun O O=>rfl,fun h=> (nomatch h),fun O O O O=>rfl⟩
noncomputable def SE.Jg(i:Nat)(fp:Pos)(es:List (SE C))(n:Str)(v:SE C)(kp pos:Pos):SE C:=SE.Ll (SE.oA i fp) _ fp rfl es n v kp pos
theorem nw:∀ {l:List (Str×Nat)},(l.map fun p=> (p.1,ρ p.2)).lookup x=(l.lookup x).map ρ
 | []=>rfl
 | p::r=>by
  rw[YI,Y4,Y4]
  cases x==p.1 with
  | true=>rfl
  | false=>exact nw
theorem BW{ρ:dz}{l:List (Str×Nat)}{sn:List (Str×NameKind)}:∀ {acc:List (Str×Nat)},gj (l.map fun p=> (p.1,ρ p.2)) sn (acc.map fun p=> (p.1,ρ p.2))=(gj l sn acc).map fun p=> (p.1,ρ p.2):=by
 induction sn with
 | nil=>exact rfl
 | cons p r ih=>
  intro acc
  unfold gj
  rw[← ih,nw]
  cases qs p.2 with
  | false=>rfl
  | true=>cases l.lookup p.1 <;> rfl
noncomputable def Tv(C:Ctx):List (Str×Nat):=C.cc.map fun p=> (p.1,p.2.2)
noncomputable def SE.lam(params:Arguments)(body:Expr)(sn:List (Str×NameKind))(more:List (Str×Const))(pos:Pos)(hd:∀env,defaultsOf params env=([],[])):SE C:=
 SE.rT (.Lambda params body ⟨.function,sn,false,false,more⟩ pos) (fun s K=>eE (Vg C sn) (oR (ka C.lam 0) fun P=>K (.f ⟨"<lambda>",params,.expr body,⟨.function,sn,false,false,more⟩⟩ P.2 (gj (Tv C) sn [])) s))
 fun {ρ env M s K} fr h=>by
  obtain⟨hf,h⟩:=aq h
  obtain⟨P,hP,h⟩:=b6 h
  obtain⟨cs,N,rR⟩:=fr.N
  refine AN (fr.lm P (bW hP)) fr.e (qL N rR) rfl (jO hf fr.hc) (hd env) ?_
  rw[show gj (ur C ρ) sn []=_ from(E5 (gj · sn []) (V3 (g:=fun p:Str×Nat=> (p.1,ρ p.2)) (f:=fun p:Str×NameKind×Nat=> (p.1,p.2.2)) (l:=C.cc)).symm).trans (BW (acc:=[]))]
  exact pv (rv:= .f _ P.2 _) h
noncomputable def Pp(X:Cx)(x:Str)(fR:List (Str×Nat))(os:Os):Bool:=Lh X&& (dh none X.names []&& (cy X.names&& ((X.names.lookup x==some .local)&& (decide ((fR.map (·.1)).Nodup)&& ((X.cc.all fun p=>fR.any fun q=>q.1==p.1&&beq q.2 p.2.2)&& (X.lam.isEmpty&&!X.full))))))
theorem Lm{g:Gd}(hn:9≤g.n)(nb:NB g){f:FI}{q:Str}{fR:List (Str×Nat)}{os:Os}(X:Cx)(hx:∀p∈X.gx,iW g p.1 p.2.val)(E:∀g,SE ⟨X,g⟩){a0:Str}(h:Hint){more:List (Str×Const)}(eR:∀g,f.body= .expr (E g).e)(uO:f.scope=⟨.function,X.names,false,false,more⟩)(gU:∀v fR doc pm an eg ct,bindArgs (J6 f q fR doc pm an eg ct) ⟨[v],[]⟩=pure [(a0,v)])(Po:Pp X a0 fR os=true)(AQ:X.loc=[a0])(hex:∀g',cU g g'→(E g').ev ⟨[some (.v y)],os,h⟩ fun v s=>v= .v x∧Ew s.os os=os):Fn g (.f f q fR) [.v y] [] [] os (.v x) os:=fun ρ M=>by
 have o1:=E2.mp Po
 have o2:=E2.mp o1.2
 have o3:=E2.mp o2.2
 have o4:=E2.mp o3.2
 have o5:=E2.mp o4.2
 have o6:=E2.mp o5.2
 have o7:=E2.mp o6.2
 have oc:∀cs,dh none X.names cs=true:=fun cs=>E2.mpr ⟨(E2.mp o2.1).1,Jb.mpr fun O O=>rfl⟩
 refine Fv (x:=a0) (E4 (E1 rfl) hn) (eR g) uO (oc _) o3.1 (eq_of_beq o4.1) ((V3 (l:=fR) (g:=fst) (f:=fun p:Str×Nat=> (p.1,ρ p.2))).symm▸U9 o5.1) (fun v doc pm an eg ct=>gU v _ doc pm an eg ct) fun g' L env b e N=>?_
 have fr:bQ ⟨X,g'⟩ ρ env:=tn hn nb hx o1.1 b e N (fun p hp=>by
  obtain⟨z,hz,e⟩:=Y1.mp (Jb.mp o6.1 p hp)
  have e:=E2.mp e
  exact U0.mpr ⟨z,hz,by rw[eq_of_beq e.1,U7 e.2]⟩) (fun hf=>absurd ((nt o7.2).symm.trans hf) YQ) fun p hp=>by rw[List.isEmpty_iff.mp o7.1] at hp;cases hp
 rw[show(E g).e=(E g').e from FuncBody.expr.inj ((eR g).symm.trans (eR g'))]
 have e4:(⟨[(a0,some y)],ay ρ os++M⟩:AS)=tr ⟨X,g'⟩ ρ M ⟨[some (.v y)],os,h⟩:=by
  unfold tr
  rw[AQ];rfl
 show W0 g' VR _ ⟨[(a0,some y)],ay ρ os++M⟩ _
 rw[e4]
 exact bz ((E g').ok fr (hex g' b)) fun v s hk=>by
  obtain⟨rfl,hk⟩:=hk
  exact⟨ay ρ os++M,BV hk,rfl,rfl⟩
end
end
end
section
section
noncomputable def cx(y:Lay)(loc:List Str)(cc:List (Str×NameKind×Nat))(oA:List Nat)(full:Bool)(lam:List (Addr×Str):=[]):Cx:=
 ⟨loc.map (·,.local)++(cc.map (fun p=> (p.1,p.2.1))++oA.map fun i=> ((i4 (GX y) i).1,.globalImplicit)),loc,cc,oA,GX y,30,full,lam⟩
noncomputable def Jh(y:Lay)(ns:List (Str×NameKind))(cc:List (Str×NameKind×Nat))(oA:List Nat)(full:Bool)(lam:List (Addr×Str):=[]):Cx:=
 ⟨ns++oA.map fun i=> ((i4 (GX y) i).1,.globalImplicit),bh ns,cc,oA,GX y,30,full,lam⟩
theorem pR{g:Gd}{hn:1≤g.n}{C:Addr}{vs:List Value}:tj g (g.under hn C vs):=⟨rfl,rfl,rfl,rfl,rfl,rfl,rfl⟩
structure Pq(K:FM)(d k:Addr):Prop where
 d:∃o n t,K.f d=some o∧o.data= .seq #[.int 0 t,.none] n
 k:∃m,(∀h:Heap,(∀a o,K.f a=some o→h.get? a=some o)→h.Ns k m)∧m (Str.ofString "key")=some .none
structure Ps(y:Lay)(K:FM):Prop where
 cls:sQ K (y.ad 100) y.N y.mN
 m0:y.mN (Str.ofString "__init__")=some (.ref (y.am 0))
 m1:y.mN (Str.ofString "_convert_string_type")=some (.ref (y.am 1))
 m7:y.mN (Str.ofString "get_all")=some (.ref (y.am 7))
 Pt:y.mN (Str.ofString "add_header")=some (.ref (y.am 16))
 mh:y.mN (Str.ofString "_headers")=none
 f0:FnAt K (y.am 0) (fm 0) (Str.ofString "Headers.__init__") (.ref y.d0) .none
 f1:FnAt K (y.am 1) (fm 1) (Str.ofString "Headers._convert_string_type") .none .none
 f7:FnAt K (y.am 7) (fm 7) (Str.ofString "Headers.get_all") .none .none
 Pu:FnAt K (y.am 16) (fm 16) (Str.ofString "Headers.add_header") .none .none
 fn:∀j,(j=0∨j=1∨j=7∨j=16)→∃o,K.f (y.am j)=some o∧o.cls= .type "function"
 d0:∃o n,K.f y.d0=some o∧o.data= .seq #[.none] n
 pn:u7 K (y.ad 102) wy
 pv:u7 K (y.ad 103) wz
 sm:∃o,K.f sysModules=some o
structure cH(y:Lay)(g:Gd):Prop where
 gx:∀p∈GX y,iW g p.1 p.2.val
 nb:NB g
 fn:∀i q,(i,q)∈[(72,"_law_road"),(73,"_law_read"),(74,"_law_hues"),(75,"_law_order"),(76,"_law_signs"),(77,"_law_pfaffian"),(78,"_law_determinant"),(79,"_law_steps"),(80,"_law_trees"),(7,"rgb_to_hls"),(8,"rgb_to_hsv"),(9,"hsv_to_rgb"),(62,"ISTERMINAL"),(63,"ISNONTERMINAL"),(64,"ISEOF")]→FnAt g.K (y.ad i) (rQ i) (Str.ofString q) .none .none
 Ex:∀i q,(i,q)∈[(3,"bisect_right"),(4,"insort_left"),(5,"bisect_left")]→FnAt g.K (y.ad i) (rQ i) (Str.ofString q) (.ref (y.dd i)) (.ref (y.dk i))∧Pq g.K (y.dd i) (y.dk i)
 kK:Ps y g.K
 tab:kD g (y.ad 101) y.es y.en
 RA:tm g (y.ad 75) (y.lp 75) (Str.ofString "_law_order.<locals>.<lambda>")
theorem cH.bS(X:cH y g)(b:tj g g'):cH y g' where
 gx p hp:=by unfold iW;rw[b.gl,b.bl];exact X.gx p hp
 nb h:=by rw[b.K];exact X.nb h
 fn:=by rw[b.K];exact X.fn
 Ex:=by rw[b.K];exact X.Ex
 kK:=by rw[b.K];exact X.kK
 tab:=⟨by rw[b.K];exact X.tab.at',by rw[b.w];exact X.tab.keys,X.tab.lo⟩
 RA:=X.RA.bS b
theorem Gp{l:List Value}(h:l.length=1):∃a,l=[a]:=by cases l with | nil=>cases h | cons a l=>cases l with | nil=>exact⟨a,rfl⟩ | cons=>cases h
theorem Gq{l:List Value}(h:l.length=2):∃a b,l=[a,b]:=by cases l with | nil=>cases h | cons a l=>obtain⟨b,rfl⟩:=Gp (ab7 h);exact⟨a,b,rfl⟩
theorem Tw{l:List Value}(h:l.length=3):∃a b c,l=[a,b,c]:=by cases l with | nil=>cases h | cons a l=>obtain⟨b,c,rfl⟩:=Gq (ab7 h);exact⟨a,b,c,rfl⟩
theorem Gr{l:List Value}(h:l.length=4):∃a b c d,l=[a,b,c,d]:=by cases l with | nil=>cases h | cons a l=>obtain⟨b,c,d,rfl⟩:=Tw (ab7 h);exact⟨a,b,c,d,rfl⟩
noncomputable abbrev q(l a b:Nat):Pos:=⟨l,a,l,b⟩
abbrev SL(l:List AV):Prop:=l.length≤sizeLine
abbrev AG(l:List AV)(k:Int)(v:AV):Prop:=bT l k=some v
abbrev VI(a b:AV):Prop:=RV.v a=RV.v b
abbrev VV(a:AV):Prop:=RV.v a=RV.v a
abbrev rf{α:Type}(a:α):Prop:=a=a
abbrev EE(V:Vs)(O:Os):Prop:=av ⟨V,O,.nil⟩ V O
theorem aR{Q P:Prop}(p:P)(e:Q=P):Q:=e▸p
end
end
section
section
noncomputable def rU(x:AV):List AV:=x.casesOn [] (fun O=>[]) (fun O=>[]) (fun O=>[]) (fun O=>[]) (fun O=>[]) (fun l=>l) (fun O=>[]) (fun O O O=>[]) (fun O O O=>[]) (fun O O O=>[])
noncomputable def Ln(x:AV):List AV:=x.casesOn [] (fun O=>[]) (fun O=>[]) (fun O=>[]) (fun O=>[]) (fun O=>[]) (fun O=>[]) (fun l=>l) (fun O O O=>[]) (fun O O O=>[]) (fun O O O=>[])
noncomputable def dC(x:AV):Int:=x.casesOn 0 (fun O=>0) (fun i=>i) (fun O=>0) (fun O=>0) (fun O=>0) (fun O=>0) (fun O=>0) (fun O O O=>0) (fun O O O=>0) (fun O O O=>0)
noncomputable def jf(x:AV):Str:=x.casesOn ⟨#[]⟩ (fun O=> ⟨#[]⟩) (fun O=> ⟨#[]⟩) (fun O=> ⟨#[]⟩) (fun s=>s) (fun O=> ⟨#[]⟩) (fun O=> ⟨#[]⟩) (fun O=> ⟨#[]⟩) (fun O O O=> ⟨#[]⟩) (fun O O O=> ⟨#[]⟩) (fun O O O=> ⟨#[]⟩)
noncomputable def lZ(l:List AV)(n:Nat):AV:=(ka l n).casesOn .none fun x=>x
end
section
variable {α β:Type}{a b:List α}{m n i:Nat}
theorem qN(h:a.length≤m)(k:b.length≤n):(a++b).length≤m+n:=by rw[YF];exact aau h k
theorem iy(h:a.length≤m):(a.take i).length≤m:=E4 (by rw[ZN];exact abr ..) h
theorem l7(h:a.length≤m):(a.drop i).length≤m:=by rw[Zy];exact E4 (ab0 ..) h
theorem ar{f:α→β}(h:a.length≤m):(a.map f).length≤m:=by rw[E9];exact h
theorem Gs{n:Nat}(h:n≤1000000):n≤sizeLine:=E4 h (by decide)
theorem sz(h:n≤m)(k:ble m 1000000=true):n≤sizeLine:=Gs (E4 h (E1 k))
theorem bd{p:Nat}(h:n≤m)(k:ble m p=true):n≤p:=E4 h (E1 k)
theorem sa{p q:Nat}(h:m≤p)(k:n≤q):m+n≤p+q:=aau h k
theorem Lo{x:Int}{n:Nat}(h:0<n):0≤x.fmod n:=abn _ (YR.mpr h)
theorem RC{x:Int}{n:Nat}(h:0<n):x.fmod n<n:=Int.fmod_lt_of_pos _ (YR.mpr h)
theorem nz{n:Nat}(h:0<n):(n:Int)≠0:=fun e=>Z0 0 (by cases Int.ofNat.inj e;exact h)
theorem toNat_lt{x:Int}(h0:0≤x)(h:x<n):x.toNat<n:=(Int.toNat_lt h0).mpr h
theorem pS{l:List AV}{i:Int}(h0:0≤i)(h1:i<l.length):bT l i=some (l.getD i.toNat .none):=by
 have e:((i.toNat:Nat):Int)=i:=Y5 h0
 have hl:i.toNat<l.length:=toNat_lt h0 h1
 have:=dW (l:=l) (k:=i.toNat) (x:=l.getD i.toNat .none) (by rw[U6 hl,U3,U6 hl];rfl)
 rw[e] at this;exact this
theorem hJ{a b:List AV}(h:a=b):AV.lst a=AV.lst b:=E5 _ h
theorem Pv{f:α→AV}(l:List α)(i:Nat):AV.lst (cu (l.map f) none (some (i:Int)) none)=AV.lst ((l.take i).map f):=hJ ((mJ _ (V6 i)).trans aaH.symm)
theorem aO{l:List α}{f:α→AV}{k:Nat}(d:α)(h:k<l.length):bT (l.map f) (k:Int)=some (f (l.getD k d)):=
 dW (by rw[V9,U6 h,U3,U6 h];rfl)
theorem ny(l:List α)(x:α):(l++ [x]).length=l.length+1:=YF
end
theorem eY{F:FM}{vs kvs ds:List Value}{fd:FuncData}{names:List (Str×NameKind)}{kn:List Str}(hv:aQ F xs vs)(hd:aQ F Ji ds)(hk:aQ F fw kvs)(hb:vs.length=xs.length→kvs.length=fw.length→BindsTo s fd ⟨vs,kn.zip kvs⟩ ((names.map (·.1)).zip (vs++(ds++kvs)))):∃bs,BindsTo s fd ⟨vs,kn.zip kvs⟩ bs∧BR F (dg names (xs++(Ji++fw))) bs:=
 ⟨_,hb hv.length hk.length,Ap (hv.append (hd.append hk))⟩
theorem Pw{l:List Value}(h:l.length≤4):∃a b c d,l=[a,b,c,d].take l.length:=by
 cases l with
 | nil=>exact⟨.none,.none,.none,.none,rfl⟩
 | cons a l=>cases l with
  | nil=>exact⟨a,.none,.none,.none,rfl⟩
  | cons b l=>cases l with
   | nil=>exact⟨a,b,.none,.none,rfl⟩
   | cons c l=>cases l with
    | nil=>exact⟨a,b,c,.none,rfl⟩
    | cons d l=>cases l with
     | nil=>exact⟨a,b,c,d,rfl⟩
     | cons _ l=>exact absurd h (Nat.not_le_of_lt (Zi 5 l.length))
theorem iN(X:cH y g)(hn:9≤g.n){i:Nat}(hf:FnAt g.K (y.ad i) (rQ i) qual .none .none)(Z:Cx)(B:∀g,SB ⟨Z,g⟩){xs:List RV}{os os':Os}(h:Hint)(hd:∀(ρ:dz) g' bd doc pm an eg ct a b c d,(Z.gx,Z.lam,ble xs.length 4,(rQ i).body,(rQ i).scope,bh Z.names,yZ Z 10 xs os os',SK Z.names Z.names (xs.map (aa ρ)),bindArgs (fnX (rQ i).name qual (rQ i).params bd (rQ i).scope [] .none .none doc pm an eg ct) ⟨[a,b,c,d].take xs.length,[]⟩)=
   (GX y,[],true,.stmts (B g').ss,⟨.function,Z.names,false,false,(rQ i).scope.more⟩,Z.loc,true,SM Z.names (xs.map (aa ρ)),pure ((Z.names.map (·.1)).zip ([a,b,c,d].take xs.length)))) (hex:∀g',cU g g'→(B g').ex ⟨xm Z.names xs,xo 10 Z.names xs []++os,h⟩ fun f s=>dH f s x os'):
  Fn g (.v (.val (.ref (y.ad i)))) xs [] [] os (.v x) os':=by
 have h0:=fun ρ g'=>hd ρ g' [] .none .none .none .none .none .none .none .none .none
 have a:=fun ρ g'=>E5 snd (E5 snd (E5 snd (h0 ρ g')))
 have b:=fun ρ g'=>E5 snd (a ρ g')
 have c:=fun ρ g'=>E5 snd (E5 snd (b ρ g'))
 refine jQ hn X.nb hf Z ((show Z.gx=GX y from E5 fst (h0 id g)).symm▸X.gx) B xs 10 h (fun g'=>E5 fst (a id g')) (E5 fst (b id g)) (E5 (fun p=>p.2.1) (b id g)) (fun ρ bd F s vs kvs doc pm an eg ct O hv gN=>sj hv gN fun vs hl=>?_)
  (E5 fst (c id g)) (fun ρ=>E5 (fun p=>p.2.1) (c ρ g)) (fun p hp=>?_) hex
 ·have hl:=hl.trans (E9 ..)
  obtain⟨a,b,c,d,e⟩:=Pw (l:=vs) (hl▸E1 (E5 (fun p=>p.2.2.1) (h0 id g)))
  rw[e,hl]
  exact BindsTo.of_eq (E5 (fun p=>p.2.2.2.2.2.2.2.2) (hd ρ g bd doc pm an eg ct a b c d))
 ·rw[show Z.lam=[] from E5 (fun p=>p.2.1) (h0 id g)] at hp
  exact nomatch hp
section
variable {ρ:dz}(σ:Nat→Nat)
noncomputable def RV.kH(v:RV):RV:=v.casesOn .v (fun k=> .r (σ k)) .b fun fi q fR=> .f fi q (fR.map fun p=> (p.1,σ p.2))
noncomputable def EO.kH(o:EO):EO:=o.casesOn .list .aU (fun v=> .cell (v.map (RV.kH σ))) .any
noncomputable def Os.kH(os:Os):Os:=os.map fun p=> (σ p.1,p.2.kH σ)
noncomputable def BX(os:Os):Bool:=os.all fun p=>p.2.casesOn (fun O=>true) (fun O=>true) (fun O=>true) fun O O=>false
theorem l8(v:RV):aa ρ (v.kH σ)=aa (fun k=>ρ (σ k)) v:=by cases v with
 | f fi q fR=>exact E5 (AV.fn fi q) (V3 ..)
 | _=>rfl
theorem tw{os:Os}(h:BX os=true):ay ρ (Os.kH σ os)=ay (fun k=>ρ (σ k)) os:=by
 induction os with
 | nil=>rfl
 | cons p t ih=>
  obtain⟨h1,h2⟩:=E2.mp h
  obtain⟨k,o⟩:=p
  show(o.kH σ).mem ρ (σ k)++ay ρ (Os.kH σ t)=o.mem (fun k=>ρ (σ k)) k++_
  rw[ih h2]
  refine E5 (· ++ay (fun k=>ρ (σ k)) t) ?_
  cases o with
  | cell v=>cases v with
   | none=>rfl
   | some v=>exact E5 (fun x=>[(ρ (σ k),AO.cell (some x))]) (l8 σ v)
  | any=>cases h1
  | _=>rfl
theorem Fn.kH{kn:List Str}{os os':Os}(h:Fn g fv xs kn fw os x os')(ha:BX os=true)(hb:BX os'=true):
  Fn g (fv.kH σ) (xs.map (RV.kH σ)) kn (fw.map (RV.kH σ)) (Os.kH σ os) (x.kH σ) (Os.kH σ os'):=fun ρ M=>by
 have:=h (fun k=>ρ (σ k)) M
 rw[← tw σ ha,← tw σ hb,← l8 σ fv,← l8 σ x] at this
 have e:∀l:List RV,(l.map (RV.kH σ)).map (aa ρ)=l.map (aa fun k=>ρ (σ k)):=fun l=>by rw[V3];exact YU fun v O=>l8 σ v
 rw[e,e];exact this
end
end
section
section
section
variable {g:Gd}{F:FM}{C:Ctx}{ρ ρ':dz}{env:Env}{M:Mem}{s:S}
def Vh(g:Gd)(fv:RV)(xs:List RV)(m:List Addr→Mem):Prop:= ∀(ρ:dz) (vars:cI) (mem:Mem) (Q:AV→AS→Prop),(∀x d a:Addr,Q (.val (.ref x)) ⟨vars,m [x,d,a]++mem⟩)→bB g (aa ρ fv) (xs.map (aa ρ)) [] [] ⟨vars,mem⟩ Q
def Lp(s:S)(f:RV→(List Addr→Mem)→S→Prop):Prop:=s.h.casesOn False (fun O O=>False) (fun O O=>False) (fun O=>False) (fun O O=>False) (fun O O O O=>False)
 (fun x outs k=>outs.casesOn False fun p O=>p.2.casesOn (fun O=>False) (fun O=>False) (fun O=>False) fun O m=>f x m ⟨s.vs,s.os,k⟩) (fun O O O O O=>False) (fun O O O O O=>False) (fun O O O=>False)
theorem xt{f:RV→(List Addr→Mem)→S→Prop}{P:Prop}(h:Lp s f)(k:∀x m k,f x m ⟨s.vs,s.os,k⟩→P):P:=by
 obtain⟨vs,os,h'⟩:=s
 cases h' with
 | call x outs k'=>cases outs with
  | nil=>exact h.elim
  | cons p r=>obtain⟨i,o⟩:=p;cases o with | any n m=>exact k x m k' h | _=>exact h.elim
 | _=>exact h.elim
theorem xu{k:Nat}{m:List Addr→Mem}{K:RV→S→Prop}(h:(s.off k&& (s.off (k+1)&&s.off (k+2)))=true)(q:K (.r k) ⟨s.vs,(k,.any 3 m)::s.os,s.h⟩)(x d a:Addr):
  PA C ρ M [k,k+1,k+2] K (.val (.ref x)) ⟨(tr C ρ M s).vars,m [x,d,a]++(tr C ρ M s).mem⟩:=by
 obtain⟨h0,h⟩:=E2.mp h
 obtain⟨h1,h2⟩:=E2.mp h
 have e:tr C (fS (fS (fS ρ k x) (k+1) d) (k+2) a) M s=tr C ρ M s:=(je bX h2).trans ((je bX h1).trans (je bX h0))
 have n1:k+1≠k+2:=V2 (Za _)
 have n0:k≠k+1:=V2 (Za _)
 have n2:k≠k+2:=V2 (Nat.lt_add_of_pos_right (by decide))
 have r0:fS (fS (fS ρ k x) (k+1) d) (k+2) a k=x:=(bX _ n2).trans ((bX _ n0).trans (V8 rfl))
 have r1:fS (fS (fS ρ k x) (k+1) d) (k+2) a (k+1)=d:=(bX _ n1).trans (V8 rfl)
 have r2:fS (fS (fS ρ k x) (k+1) d) (k+2) a (k+2)=a:=V8 rfl
 have:=PA.mk (C:=C) (ρ:=ρ) (M:=M) (ids:=[k,k+1,k+2]) (ρ':=fS (fS (fS ρ k x) (k+1) d) (k+2) a) (rv:= .r k) (s:=⟨s.vs,(k,.any 3 m)::s.os,s.h⟩) (st:=⟨(tr C ρ M s).vars,m [x,d,a]++(tr C ρ M s).mem⟩)
  (fun j hj=>by
   simp only[V1,ZK,or_false,not_or] at hj
   rw[bX _ hj.2.2,bX _ hj.2.1,bX _ hj.1]) (by
   rw[← e]
   show Wk _ ⟨_,m [x,d,a]++_⟩ ⟨_,(m [_,_,_]++ay _ _)++M⟩
   rw[r0,r1,r2,YH];exact Wk.refl) q
 have e3:aa (fS (fS (fS ρ k x) (k+1) d) (k+2) a) (.r k)= .val (.ref x):=E5 (fun z=>AV.val (.ref z)) r0
 rw[e3] at this
 exact this
noncomputable def SA.cls(k:Nat)(i:Nat)(fp:Pos)(es:List (SE C))(pos:Pos):SA C where
 e:= .Call (.Name (i4 C.gx i).1 fp) (fM es) [] pos
 ids:=[k,k+1,k+2]
 sw:=true
 ev s K:=(SE.oA i fp:SE C).ev s fun f s1=>uq es s1 fun xs s2=>Lp s2 fun O m s3=>eE (s3.off k&& (s3.off (k+1)&&s3.off (k+2))) (Vh C.g f xs m∧K (.r k) ⟨s3.vs,(k,.any 3 m)::s3.os,s3.h⟩)
 ok {ρ env M s K} fr h:=fx (bz ((SE.oA i fp:SE C).ok fr h) fun f s1 h=>lM (eA fr pos h) fun xs s2 h=>xt h fun x m kk h=>by
  obtain⟨hc,hN,hK⟩:=aq h
  exact hN ρ (tr C ρ M s2).vars (tr C ρ M s2).mem _ (xu (s:=⟨s2.vs,s2.os,kk⟩) hc hK)) rfl (by rw[cz fr];rfl) (c8 _ _)
 st _ _:=rfl
 sp _ _ _ _:=rfl
def Mt(g:Gd)(o:EO)(name:Str)(f:AV):Prop:= ∀(ρ:dz) (k:Nat) (st:AS),(∀p∈o.mem ρ k,p∈st.mem)→eQ g (.val (.ref (ρ k))) name f [.val (.ref (ρ k))] st
noncomputable def SE.xv(o:SE C)(name:Str)(ap:Pos)(es:List (SE C))(pos:Pos):SE C:=
 SE.I7 (.Call (.Attribute o.e name ap) (fM es) [] pos) (fun s K=>eE (o.ai&& (ap.endLine==pos.line)&&ble es.length 20) (o.ev s fun a s1=>mR a (fun k=>oR (bM k s1.os) fun ob=>hV s1 fun f s2=>Mt C.g ob name f∧uq es s2 fun xs s3=>w_ C (.v f) (.r k::xs) [] [] s3 K) False)) true true
  (fun {ρ env M s K} fr h=>by
   obtain⟨hc,h⟩:=aq h
   rw[YL,YL] at hc
   refine cR (bz (G:=fun a st=>MC C.g env a name pos (fM es) st (PV C ρ M K)) (o.ok fr h) fun a s1 h=>eF (P:=fun a=>MC C.g env (aa ρ a) name pos (fM es) (tr C ρ M s1) (PV C ρ M K)) h (fun k h=>?_) False.elim) (o.fm.ab hc.1.1 _ _) (jM (fr:=fr) hc.2) hc.1.2 (by rw[cz fr];rfl) (c8 _ _)
   obtain⟨ob,ho,h⟩:=b6 h
   refine dB h fun f kk h=>ew (h.1 ρ k _ fun p hp=>YG _ (b7 ho p hp)) (lM (eA (s:=⟨s1.vs,s1.os,kk⟩) fr pos h.2) fun xs s3 h=>nj (fv:= .v f) (xs:= .r k::xs) (fw:=[]) h))
  (fun O=>rfl) ⟨fun O O=>rfl,fun O=>rfl,fun O O=>rfl,fun O O O O=>rfl,fun O O O O=>rfl⟩
end
end
end
section
theorem mg{α:Type}{x:α}{l:List α}(i:Nat)(h:ka l i=some x):x∈l:=bW h
theorem Jj{b:Bool}{A B:Prop}(h:b=true)(hA:A):(if b=true then A else B):=(V8 h).symm▸hA
theorem Jk{b:Bool}{A B:Prop}(h:b=false)(hB:B):(if b=true then A else B):=(V4 (h▸YQ)).symm▸hB
section
variable {g:Gd}{st:AS}
theorem nA(h:Q (.val (.type "str")) st):Wl g VR (fun vs=>call (.type "type") vs) [.str x] st Q:=pG (fun F s v r hv=>by obtain⟨t,rfl⟩:=hv;exact abA s x t) rfl h
theorem nB{a:Addr}(hm:(a,AO.list l)∈st.mem)(h:Q (.val (.type "list")) st):Wl g VR (fun vs=>call (.type "type") vs) [.val (.ref a)] st Q:=pG (fun F s v r hv=>by cases(hv:_=_);obtain⟨items,n,e,_⟩:=r.hm _ hm;exact⟨_,e,rfl⟩) rfl h
end
theorem nC(i:Nat){p:Str×GV}(h:(GX y)[i]? =some p):p∈GX y:=YC h
noncomputable abbrev WW(pN pV:Addr):List (Str×Value):=[("type",.type "type"),("str",.type "str"),("list",.type "list"),("_name_disallowed_re",.ref pN),("_value_disallowed_re",.ref pV)]
noncomputable def bN(x:Str):Bool:=lY wy x&&lY wz x&&decide (x.length<1000)
structure oQ(g:Gd)(C N:Addr)(mN:Str→Option Value)(am:Nat→Addr)(pN pV d0:Addr):Prop where
 cls:sQ g.K C N mN
 m0:mN (Str.ofString "__init__")=some (.ref (am 0))
 m1:mN (Str.ofString "_convert_string_type")=some (.ref (am 1))
 m7:mN (Str.ofString "get_all")=some (.ref (am 7))
 Pt:mN (Str.ofString "add_header")=some (.ref (am 16))
 mh:mN (Str.ofString "_headers")=none
 f0:FnAt g.K (am 0) (fm 0) (Str.ofString "Headers.__init__") (.ref d0) .none
 f1:FnAt g.K (am 1) (fm 1) (Str.ofString "Headers._convert_string_type") .none .none
 f7:FnAt g.K (am 7) (fm 7) (Str.ofString "Headers.get_all") .none .none
 Pu:FnAt g.K (am 16) (fm 16) (Str.ofString "Headers.add_header") .none .none
 fn:∀j,(j=0∨j=1∨j=7∨j=16)→∃o,g.K.f (am j)=some o∧o.cls= .type "function"
 d0:∃o n,g.K.f d0=some o∧o.data= .seq #[.none] n
 pn:u7 g.K pN wy
 pv:u7 g.K pV wz
 G:EP g (WW pN pV)
 sm:∃o,g.K.f sysModules=some o
theorem oQ.bS{C N:Addr}{mN}{am:Nat→Addr}{pN pV d0:Addr}(H:oQ g C N mN am pN pV d0)(k:tj g g'):oQ g' C N mN am pN pV d0:=
 ⟨by rw[k.K];exact H.cls,H.m0,H.m1,H.m7,H.Pt,H.mh,by rw[k.K];exact H.f0,by rw[k.K];exact H.f1,by rw[k.K];exact H.f7,by rw[k.K];exact H.Pu,by rw[k.K];exact H.fn,by rw[k.K];exact H.d0,by rw[k.K];exact H.pn,by rw[k.K];exact H.pv,H.G.of k.gl k.bl,by rw[k.K];exact H.sm⟩
theorem gn:typeLookup (.type "object") (Str.ofString "_headers")=pure none:=by rw[ZV,Zj];kernel_rfl
theorem qO:typeLookup (.type "object") (Str.ofString "_convert_string_type")=pure none:=by rw[ZV,Zj];kernel_rfl
theorem y6:typeLookup (.type "object") (Str.ofString "get_all")=pure none:=by rw[ZV,Zj];kernel_rfl
theorem Gu:typeLookup (.type "object") (Str.ofString "add_header")=pure none:=by rw[ZV,Zj];kernel_rfl
theorem eZ{C N:Addr}{mN}{am:Nat→Addr}{pN pV d0:Addr}(H:oQ g C N mN am pN pV d0)(hn:1≤g.n)(hx:bN x=true)(b:Bool)(self:AV)(mem:Mem)(Q:AV→Mem→Prop)(h:Q (.str x) mem):WC g (.val (.ref (am 1))) [self,.str x] [Str.ofString "name"] [.bool b] mem Q:=by
 refine mM hn H.f1 (fm 1).scope.names [self,.str x,.bool b] rfl rfl ?_ (by kernel_rfl!) ?_
 ·intro bd F s vs kvs doc pm an eg ct _ hv gN
  obtain⟨v1,_,rfl,h1,v2,_,rfl,h2,h0⟩:=hv
  obtain⟨v3,_,rfl,h3,h4⟩:=gN
  cases(h0:_=_);cases(h4:_=_)
  exact⟨_,BindsTo.of_eq (by kernel_rfl!),⟨v1,_,rfl,h1,v2,_,rfl,h2,v3,_,rfl,h3,rfl⟩⟩
 ·intro g' L env bl e N' kd _
  have H':=H.bS bl.bS
  have G:=H'.G
  show W0 g' FR _ ⟨[(Str.ofString "self",some self),(Str.ofString "value",some (.str x)),(Str.ofString "name",some (.bool b)),(Str.ofString "regex",none)],mem⟩ _
  have ht:(Value.type "str" ==Value.type "str")=true:=rfl
  have Yj:=H'.pn
  have Yk:=H'.pv
  unfold bN at hx
  rw[YL,YL,aaq] at hx
  obtain⟨⟨Yl,Ym⟩,Yn⟩:=hx
  cases b
  ·refine ah (oK (aN (fx (aA N' (mg 4 rfl) (Ao e G (mg 0 rfl) (aC (aA N' (mg 1 rfl) (fW e (mg 1 rfl) (aB (dL (nA (aA N' (mg 5 rfl) (Ao e G (mg 1 rfl) (IR (aM (Jj ‹_› (ah (a8 (jt (bw (aA N' (mg 2 rfl) (fW e (mg 2 rfl) (aM (EV (aA N' (mg 7 rfl) (Ao e G (mg 4 rfl) (cQ N' (mg 3 rfl) (iX e (.there (.there (.there .here))) (a9 (ah (oK (bw (cR (aA N' (mg 3 rfl) (fW e (mg 3 rfl) (ew (IQ ‹_›) (aC (aA N' (mg 1 rfl) (fW e (mg 1 rfl) (aB (a_ (sS ‹_› (by omega) ‹_› (fJ (EV (ba (a9 (ah ?_)))))))))) (by kernel_rfl!))))) (fun O=>by kernel_rfl!) (by kernel_rfl!) (by kernel_rfl!) (by kernel_rfl!) (.inr ⟨_,_,rfl,by kernel_rfl!⟩)) (by kernel_rfl!))))))))))))) (by kernel_rfl!))) (by kernel_rfl!))))))))))))) (by kernel_rfl!)))) (by kernel_rfl!) (by kernel_rfl!) (.inr ⟨_,_,rfl,by kernel_rfl!⟩)) (by kernel_rfl!)))
   refine jv (aA N' (mg 1 rfl) (fW e (mg 1 rfl) (mC (mC ?_))))
   exact⟨_,aap _,h⟩
  ·refine ah (oK (aN (fx (aA N' (mg 4 rfl) (Ao e G (mg 0 rfl) (aC (aA N' (mg 1 rfl) (fW e (mg 1 rfl) (aB (dL (nA (aA N' (mg 5 rfl) (Ao e G (mg 1 rfl) (IR (aM (Jj ‹_› (ah (a8 (jt (bw (aA N' (mg 2 rfl) (fW e (mg 2 rfl) (aM (An (aA N' (mg 6 rfl) (Ao e G (mg 3 rfl) (cQ N' (mg 3 rfl) (iX e (.there (.there (.there .here))) (a9 (ah (oK (bw (cR (aA N' (mg 3 rfl) (fW e (mg 3 rfl) (ew (IQ ‹_›) (aC (aA N' (mg 1 rfl) (fW e (mg 1 rfl) (aB (a_ (sS ‹_› (by omega) ‹_› (fJ (EV (ba (a9 (ah ?_)))))))))) (by kernel_rfl!))))) (fun O=>by kernel_rfl!) (by kernel_rfl!) (by kernel_rfl!) (by kernel_rfl!) (.inr ⟨_,_,rfl,by kernel_rfl!⟩)) (by kernel_rfl!))))))))))))) (by kernel_rfl!))) (by kernel_rfl!))))))))))))) (by kernel_rfl!)))) (by kernel_rfl!) (by kernel_rfl!) (.inr ⟨_,_,rfl,by kernel_rfl!⟩)) (by kernel_rfl!)))
   refine jv (aA N' (mg 1 rfl) (fW e (mg 1 rfl) (mC (mC ?_))))
   exact⟨_,aap _,h⟩
theorem Gv{g:Gd}{d0:Addr}(D:∃o n,g.K.f d0=some o∧o.data= .seq #[.none] n){q:Str}:jz g (fm 0) q (.ref d0) .none [x] [] [] (dg (fm 0).scope.names [x,.none]):=by
 intro body F s vs kvs doc pm an eg ct hk hv gN
 obtain⟨o,n,ho,hd⟩:=D
 obtain⟨v1,_,rfl,h1,h0⟩:=hv
 cases(h0:_=_);cases(gN:_=_)
 exact⟨[(Str.ofString "self",v1),(Str.ofString "headers",.none)],BindsTo.of_defaults rfl (hk _ _ ho) hd rfl rfl,⟨v1,_,rfl,h1,.none,_,rfl,un _,rfl⟩⟩
theorem Gw{g:Gd}{d0:Addr}(D:∃o n,g.K.f d0=some o∧o.data= .seq #[.none] n){q:Str}:jz g (fm 0) q (.ref d0) .none [x,y] [] [] (dg (fm 0).scope.names [x,y]):=by
 intro body F s vs kvs doc pm an eg ct hk hv gN
 obtain⟨o,n,ho,hd⟩:=D
 obtain⟨v1,_,rfl,h1,v2,_,rfl,h2,h0⟩:=hv
 cases(h0:_=_);cases(gN:_=_)
 exact⟨[(Str.ofString "self",v1),(Str.ofString "headers",v2)],BindsTo.of_defaults rfl (hk _ _ ho) hd rfl rfl,⟨v1,_,rfl,h1,v2,_,rfl,h2,rfl⟩⟩
theorem BY{C N:Addr}{mN}{am:Nat→Addr}{pN pV d0:Addr}(H:oQ g C N mN am pN pV d0)(hn:1≤g.n)(x dx:Addr)(mem:Mem)(Q:AV→Mem→Prop)(h:∀a,Q .none ((a,.list [])::(x,.shell C dx)::(dx,.inst .none [(Str.ofString "_headers",.val (.ref a))])::mem)):WC g (.val (.ref (am 0))) [.val (.ref x)] [] [] ((x,.shell C dx)::(dx,.inst .none [])::mem) Q:=by
 refine mM hn H.f0 [(Str.ofString "self",NameKind.local),(Str.ofString "headers",NameKind.local),(Str.ofString "k",NameKind.local),(Str.ofString "v",NameKind.local),(Str.ofString "type",globalImplicit),(Str.ofString "list",globalImplicit)] [.val (.ref x),.none] rfl rfl (Gv H.d0) (by kernel_rfl!) fun g' L env bl e N' kd O=>?_
 have H':=H.bS bl.bS
 have G:=H'.G
 have ht:(!(Value.type "list" ==Value.type "list"))=false:=rfl
 have hX:=H'.cls
 refine ah (a8 (jt (aN (aA N' (mg 1 rfl) (fW e (mg 1 rfl) (qe (sO (aM (EV (gf (aB (mA (E1 rfl) fun a=> (cQ N' (mg 1 rfl) (iX e (.there .here) (a9 (ah (oK (aN (fx (aA N' (mg 4 rfl) (Ao e G (mg 0 rfl) (aC (aA N' (mg 1 rfl) (fW e (mg 1 rfl) (aB (dL (nB (mg 0 rfl) (aA N' (mg 5 rfl) (Ao e G (mg 2 rfl) (AY (aM (Jk ‹_› (ba (a9 (ah (i3 (aA N' (mg 1 rfl) (fW e (mg 1 rfl) (aA N' (mg 0 rfl) (fW e (mg 0 rfl) ?_)))) (by kernel_rfl!))))))))))))))) (by kernel_rfl!)))) (by kernel_rfl!) (by kernel_rfl!) (.inr ⟨_,_,rfl,by kernel_rfl!⟩)) (by kernel_rfl!)))))))))))))))) (by kernel_rfl!))) (by kernel_rfl!))
 refine m8 hX H'.mh gn (mg 1 rfl) (Upd.there (Upd.there Upd.here)) ?_
 refine a9 (ah (oK (bw (gR (aM (An (ah (wK (aA N' (mg 1 rfl) (fW e (mg 1 rfl) ?_)) (fun O=>by kernel_rfl!)))))) (by kernel_rfl!))))
 refine wL (mO (mg 0 rfl)) trivial (fun i st=>st=⟨[(Str.ofString "self",some (AV.val (Value.ref x))),(Str.ofString "headers",some (AV.val (Value.ref a))),(Str.ofString "k",none),(Str.ofString "v",none)],(a,.list [])::(x,AO.shell C dx)::(dx,AO.inst Value.none [(Str.ofString "_headers",.val (.ref a))])::mem⟩) rfl ?_ ?_ ?_
 ·rintro i st rfl
  exact mg 0 rfl
 ·intro i y st hy
  simp at hy
 ·rintro st rfl
  refine a9 (ba (a9 (ba ?_)))
  exact⟨_,aap _,h a⟩
noncomputable def gL(l:List (Str×Str)):List AV:=l.map fun p=> .tup [.str p.1,.str p.2]
theorem BZ{C N:Addr}{mN}{am:Nat→Addr}{pN pV d0:Addr}(H:oQ g C N mN am pN pV d0)(hn:2≤g.n){vars:cI}(h:∀a x dx,Q (.val (.ref x)) ⟨vars,(a,.list [])::(x,.shell C dx)::(dx,.inst .none [(Str.ofString "_headers",.val (.ref a))])::mem⟩):bB g (.val (.ref C)) [] [] [] ⟨vars,mem⟩ Q:=
 pE (by omega) H.cls H.m0 (H.fn 0 (.inl rfl)) fun x dx vs=>BY (H.bS pR) (by show 1≤g.n - 1;omega) x dx mem _ fun a=> ⟨rfl,h a x dx⟩
noncomputable def aV(l:List (Str×Str))(nm:Str):List AV:=(l.filter fun p=>PySem.Txt.lower p.1==PySem.Txt.lower nm).map fun p=> .str p.2
noncomputable def ty(nm:Str):AV→Option AV
 | .tup [.str k,.str v]=>cond (PySem.Txt.lower k==nm) (some (.str v)) none
 | _=>none
theorem y7(l:List (Str×Str))(nm:Str):(gL l).filterMap (ty (PySem.Txt.lower nm))=aV l nm:=by
 unfold gL aV
 rw[List.filterMap_map]
 induction l with
 | nil=>rfl
 | cons p l ih=>
  rw[Zh,ZA]
  simp only[Function.comp,ty]
  cases PySem.Txt.lower p.1==PySem.Txt.lower nm <;> simp[ih,Function.comp]
theorem vo(h:bN x=true):x.length<1000:=by
 unfold bN at h
 rw[YL,aaq] at h
 exact h.2
theorem Lq{st:AS}{elt aw iter:Expr}{ifs:List Expr}{rest:List Comprehension}(h:W0 g VR (comprehension (.ListComp elt (⟨aw,iter,ifs,0⟩::rest) scope pos) scope env iter.pos (newList []) false (eval iter env) none) st Q):W0 g VR (eval (.ListComp elt (⟨aw,iter,ifs,0⟩::rest) scope pos) env) st Q:=h
theorem y8(h:cr a l mem):∀F w,VR F a w→handedOut w=pure w:=by
 cases h with
 | lst=>exact u_
 | mem=>exact m9
theorem Gx(h:cr a l mem){P:Prop}(k:∀bK,(∀st:AS,(∀p∈mem,p∈st.mem)→cE g a st st (fun O=>True) bK l)→(∀m,(∀p∈mem,p∈m)→bK m)→P):P:=by
 cases h with
 | lst=>exact k _ (fun st O=>sv _) fun O O=>trivial
 | mem hm=>exact k _ (fun st h=>mO (h _ hm)) fun m h=>h _ hm
theorem vp{C N:Addr}{mN}{am:Nat→Addr}{pN pV d0:Addr}(H:oQ g C N mN am pN pV d0)(hn:2≤g.n){x dx:Addr}{l:List (Str×Str)}{Q:AV→Mem→Prop}(h1:(x,AO.shell C dx)∈mem)(h2:(dx,AO.inst .none [(Str.ofString "_headers",hv)])∈mem)(hL:cr hv (gL l) mem)(Ls:bN (PySem.Txt.lower nm)=true)(Tx:nm.length<1000)(hl:∀p∈l,p.1.length<1000)(hsz:l.length≤1000)(h:Q (.lst (aV l nm)) mem):WC g (.val (.ref (am 7))) [.val (.ref x),.str nm] [] [] mem Q:=by
 refine mM (YN hn) H.f7 (fm 7).scope.names [.val (.ref x),.str nm] rfl rfl (fun bd F s vs kvs doc pm an eg ct hk hv gN=>?_) (by kernel_rfl!) fun g' L env bl e N' kd O=>?_
 ·obtain⟨v1,_,rfl,h1,v2,_,rfl,h2,h0⟩:=hv
  cases(h0:_=_);cases(gN:_=_)
  exact⟨_,BindsTo.of_eq (by kernel_rfl!),⟨v1,_,rfl,h1,v2,_,rfl,h2,rfl⟩⟩
 have H':=H.bS bl.bS
 have hX:=H'.cls
 have small:∀ {n:Nat},n<1000→n≤5592405:=fun h=>E4 (Yy h) (E1 rfl)
 have OR:=E6 (L+1,AO.cell (some (.str nm))) h1
 have WX:=E6 (L+1,AO.cell (some (.str nm))) h2
 show W0 g' FR _ ⟨[(Str.ofString "self",some (.val (.ref x)))],(L+1,.cell (some (.str nm)))::mem⟩ _
 refine ah (a8 (jx (aA N' (mg 0 rfl) (fW e (mg 0 rfl) (jy (mZ hX OR WX H'.m1 (H'.fn 1 (.inr (.inl rfl))) (by kernel_rfl!) qO) (aC (cR (aA N' (mg 1 rfl) (ldc e (mg 0 rfl) (mg 0 rfl) (ew (sF abl abm) (aB (a_ (qx (small Tx) (aB (gR ?_)))))))) (fun O=>by kernel_rfl!) (by kernel_rfl!) (by kernel_rfl!) (by kernel_rfl!) (.inl rfl)) (by kernel_rfl!))))) (fun O=>by kernel_rfl!) (by kernel_rfl!) (by kernel_rfl!) (by kernel_rfl!) (.inr ⟨_,_,rfl,by kernel_rfl!⟩)) (by kernel_rfl!))
 refine cY (eZ H' (bl.n▸Nat.le_sub_of_add_le hn) Ls true _ _ _ ?_)
 refine cQ N' (mg 1 rfl) (Iw e (mg 0 rfl) .here (a9 (ah (jv (Lq (qu qr rfl (oc:=none) e N' rfl (by kernel_rfl!) (by kernel_rfl!) (by kernel_rfl!) trivial (fun dG=>IF _ _ _ _ _ _ dG) (fun O=>rfl) (AW (aA N' (mg 0 rfl) (fW e (mg 0 rfl) (pF hX (.tail _ h1) (.tail _ h2) rfl H'.mh gn (y8 hL) ?_))) (by kernel_rfl!))))))))
 refine Gx (g:=g') hL fun bK it iY=>?_
 refine⟨_,[],(L+1,AO.cell (some (.str (PySem.Txt.lower nm))))::mem,_,bK,gL l,it _ fun p hp=> .tail _ hp,trivial,fun C D a=>iY _ fun p hp=> .tail _ (.tail _ hp),fun i=> .list (((gL l).take i).filterMap (ty (PySem.Txt.lower nm))),rfl,fun i y hy g2 WY C D bs e2 N2=>?_,?_⟩
 ·obtain⟨p,hp,rfl⟩:=U0.mp (YC hy)
  have dc:(((gL l).take i).filterMap (ty (PySem.Txt.lower nm))).length≤sizeLine:=E4 (aaV ..) (E4 (aaC ..) (by unfold gL;rw[E9];exact E4 hsz (E1 rfl)))
  rw[kI hy]
  have ep:ty (PySem.Txt.lower nm) (.tup [.str p.1,.str p.2])=cond (PySem.Txt.lower p.1==PySem.Txt.lower nm) (some (.str p.2)) none:=rfl
  rw[ep]
  refine b8 (cQ N2 (mg 1 rfl) (iX e2 (.there .here) (k7 (aN (cR (w_sub (aA N2 (mg 1 rfl) (fW e2 (mg 1 rfl) (rY (gi (jb (E1 rfl) rfl (ew (sF abl abm) (aB (a_ (qx (small (hl p hp)) (aA N2 (mg 2 rfl) (SJ e2 (mg 0 rfl) (mg 1 rfl) (IB (aM ?_))))))))) (fun O O=> ⟨_,rfl⟩)))))) (fun O=>by kernel_rfl!) (by kernel_rfl!) (by kernel_rfl!) (by kernel_rfl!) (.inl rfl)) (by kernel_rfl!)))))
  cases PySem.Txt.lower p.1==PySem.Txt.lower nm with
  | true=>
   refine uP (w_sub (aA N2 (mg 1 rfl) (fW e2 (mg 1 rfl) (rY (gi (jb (E1 rfl) rfl ?_) (fun O O=> ⟨_,rfl⟩))))))
   exact⟨_,_,.here,dc,sx rfl (V5.mpr ⟨.inl rfl,V5.mpr ⟨.inl rfl,fun O h=>nomatch h⟩⟩) id fun p hp=> ⟨_,hp,.inl rfl⟩⟩
  | false=>
   show Wk _ _ (jm _ _ _ _ _ _ (.list (_++ [])))
   rw[Y_]
   exact sx rfl (V5.mpr ⟨.inl rfl,V5.mpr ⟨.inl rfl,fun O h=>nomatch h⟩⟩) id fun p hp=> ⟨_,hp,.inl rfl⟩
 ·rw[ZM,y7]
  refine qq ?_
  show Nx g' env [] (Ends mem Q) (.ret _) _
  exact mC ⟨_,Zv _ _,h⟩
theorem Lu{C N:Addr}{mN}{am:Nat→Addr}{pN pV d0:Addr}(H:oQ g C N mN am pN pV d0)(hn:2≤g.n){x dx a:Addr}{Q:AV→Mem→Prop}(h1:(x,AO.shell C dx)∈mem)(h2:(dx,AO.inst .none [(Str.ofString "_headers",.val (.ref a))])∈mem)(u:Upd mem a (.list l) (.list (l++ [.tup [.str nm,.str v]])) mem')(Ls:bN nm=true)(hv:bN v=true)(hsz:l.length≤100000)(h:Q .none mem'):WC g (.val (.ref (am 16))) [.val (.ref x),.str nm,.str v] [] [] mem Q:=by
 refine KC (YN hn) H.Pu (Str.ofString "_params") [(Str.ofString "self",.val (.ref x)),(Str.ofString "_name",.str nm),(Str.ofString "_value",.str v)]
  (fun d=>[(Str.ofString "self",some (.val (.ref x))),(Str.ofString "_name",some (.str nm)),(Str.ofString "_value",some (.str v)),(Str.ofString "_params",some (.val (.ref d))),(Str.ofString "parts",none),(Str.ofString "k",none),(Str.ofString "v",none)])
  _ rfl (fun F s vs kvs doc pm an eg ct hv gN=>?_) (fm 16).scope.names (by kernel_rfl!) (fun d=>by kernel_rfl!) (fun d=>by kernel_rfl!) (fun d=>by kernel_rfl!) (by kernel_rfl!) (fun g' L d env bl e N' kd O=>?_) rfl rfl rfl
 ·obtain⟨v1,_,rfl,h1,v2,_,rfl,h2,v3,_,rfl,h3,h0⟩:=hv
  cases(h0:_=_);cases(gN:_=_)
  exact⟨[(Str.ofString "self",v1),(Str.ofString "_name",v2),(Str.ofString "_value",v3)],by rfl,⟨v1,_,rfl,h1,v2,_,rfl,h2,v3,_,rfl,h3,rfl⟩⟩
 have H':=H.bS bl.bS
 show W0 g' FR _ ⟨[(Str.ofString "self",some (.val (.ref x))),(Str.ofString "_name",some (.str nm)),(Str.ofString "_value",some (.str v)),(Str.ofString "_params",some (.val (.ref d))),(Str.ofString "parts",none),(Str.ofString "k",none),(Str.ofString "v",none)],(d,.obj emptyDict)::mem⟩ _
 have hX:=H'.cls
 have Px:=H'.m1
 have Yo:=H'.mh
 have Py:=H'.fn 1 (.inr (.inl rfl))
 have Pz:=qO
 have Yp:=gn
 have Tb:=H'.sm
 have Yq:=vo hv
 have Yr:=u.mem
 refine ah (a8 (gf (aB (mA (E1 rfl) fun pa=> (cQ N' (mg 4 rfl) (iX e (.there (.there (.there (.there .here)))) (a9 (ah (oK (aN (aA N' (mg 2 rfl) (fW e (mg 2 rfl) (qe (u0 (aM (An (ah (a8 (jx (aA N' (mg 0 rfl) (fW e (mg 0 rfl) (jy (mZ hX (E6 _ (E6 _ ‹_›)) (E6 _ (E6 _ ‹_›)) Px Py (by kernel_rfl!) Pz) (aC (aA N' (mg 2 rfl) (fW e (mg 2 rfl) (aB (gR ?_)))) (by kernel_rfl!))))) (fun O=>by kernel_rfl!) (by kernel_rfl!) (by kernel_rfl!) (by kernel_rfl!) (.inr ⟨_,_,rfl,by kernel_rfl!⟩)) (by kernel_rfl!))))))))) (by kernel_rfl!)))))))))) (by kernel_rfl!))
 refine cY (eZ H' (by rw[bl.n];omega) hv false _ _ _ ?_)
 refine cQ N' (mg 2 rfl) (iX e (.there (.there .here)) (a9 (ah (jH (cR (aA N' (mg 4 rfl) (fW e (mg 4 rfl) (ew (uM (name:= "append") (mg 0 rfl) aaT aaU) (aC (aA N' (mg 2 rfl) (fW e (mg 2 rfl) (aB (a_ (jA .here (E1 rfl) (And.intro .none (a9 (ba (a9 (ah (wK (cR (aA N' (mg 3 rfl) (fW e (mg 3 rfl) (ew (KB (mg 1 rfl)) (aB (a_ (Fx Tb (mg 1 rfl) fun iv=>?_)))))) (fun O=>by kernel_rfl!) (by kernel_rfl!) (by kernel_rfl!) (by kernel_rfl!) (.inl rfl)) (fun O=>by kernel_rfl!)))))))))))) (by kernel_rfl!))))) (fun O=>by kernel_rfl!) (by kernel_rfl!) (by kernel_rfl!) (by kernel_rfl!) (.inr ⟨_,_,rfl,by kernel_rfl!⟩)) (b4 ‹_›) (by kernel_rfl!)))))
 refine wL (sT (mg 0 rfl) (mg 2 rfl)) trivial (fun i st=>st=⟨[(Str.ofString "self",some (.val (.ref x))),(Str.ofString "_name",some (.str nm)),(Str.ofString "_value",some (.str v)),(Str.ofString "_params",some (.val (.ref d))),(Str.ofString "parts",some (.val (.ref pa))),(Str.ofString "k",none),(Str.ofString "v",none)],
  (iv,AO.obj (kF d))::(pa,AO.list [AV.str v])::(d,AO.obj emptyDict)::mem⟩) rfl ?_ ?_ ?_
 ·rintro i st rfl
  exact mg 2 rfl
 ·intro i y st hy
  simp at hy
 ·rintro st rfl
  refine a9 (ah (jH (cR (AW (aA N' (mg 0 rfl) (fW e (mg 0 rfl) (pF hX (E6 _ (E6 _ (E6 _ ‹_›))) (E6 _ (E6 _ (E6 _ ‹_›))) rfl ‹_› ‹_› m9 (ew (uM (name:= "append") (E6 _ (E6 _ (E6 _ ‹_›))) aaT aaU) (aC (ju (aC (jx (aA N' (mg 0 rfl) (fW e (mg 0 rfl) (jy (mZ hX (E6 _ (E6 _ (E6 _ ‹_›))) (E6 _ (E6 _ (E6 _ ‹_›))) Px Py (by kernel_rfl!) Pz) (aC (aA N' (mg 1 rfl) (fW e (mg 1 rfl) (aB (gR ?_)))) (by kernel_rfl!))))) (fun O=>by kernel_rfl!) (by kernel_rfl!) (by kernel_rfl!) (by kernel_rfl!) (.inr ⟨_,_,rfl,by kernel_rfl!⟩)) (by kernel_rfl!))) (by kernel_rfl!)))))) (by kernel_rfl!)) (fun O=>by kernel_rfl!) (by kernel_rfl!) (by kernel_rfl!) (by kernel_rfl!) (.inr ⟨_,_,rfl,by kernel_rfl!⟩)) (b4 ‹_›) (by kernel_rfl!)))
  refine cY (eZ H' (by rw[bl.n];omega) Ls true _ _ _ ?_)
  refine aC (cR (Iv (ew (sF aby PySem.F.type_str_join) (aC (aA N' (mg 4 rfl) (fW e (mg 4 rfl) (aB (a_ (Fy (mg 1 rfl) (by omega) (by decide+kernel) (aB (And.intro (E1 rfl) (aB (a_ (jA (.there (.there (.there ‹_›))) (E4 hsz (E1 rfl)) (And.intro .none (a9 (ba ?_))))))))))))) (by kernel_rfl!)))) (fun O=>by kernel_rfl!) (by kernel_rfl!) (by kernel_rfl!) (by kernel_rfl!) (.inr ⟨_,_,rfl,by kernel_rfl!⟩)) (by kernel_rfl!)
  refine⟨mem',?_,h⟩
  exact(Zv _ _).trans ((Zv _ _).trans (Zv _ _))
noncomputable def fU(l:List (Str×Str))(C:Addr)(as:List Addr):Mem:=match as with
 | [x,d,a]=>[(a,.list (gL l)),(x,.shell C d),(d,.inst .none [(Str.ofString "_headers",.val (.ref a))])]
 | _=>[]
theorem cH.hk(X:cH y g):oQ g (y.ad 100) y.N y.mN y.am (y.ad 102) (y.ad 103) y.d0:=
 ⟨X.kK.cls,X.kK.m0,X.kK.m1,X.kK.m7,X.kK.Pt,X.kK.mh,X.kK.f0,X.kK.f1,X.kK.f7,X.kK.Pu,X.kK.fn,X.kK.d0,X.kK.pn,X.kK.pv,(fun p hp=>by
  rcases V1.mp hp with rfl | hp
  ·exact X.gx ("type",.b .type) (nC 11 rfl)
  rcases V1.mp hp with rfl | hp
  ·exact X.gx ("str",.b .str) (nC 6 rfl)
  rcases V1.mp hp with rfl | hp
  ·exact X.gx ("list",.b .list) (nC 12 rfl)
  rcases V1.mp hp with rfl | hp
  ·exact X.gx ("_name_disallowed_re",.v (.ref (y.ad 102))) (nC 33 rfl)
  rcases V1.mp hp with rfl | hp
  ·exact X.gx ("_value_disallowed_re",.v (.ref (y.ad 103))) (nC 34 rfl)
  cases hp),X.kK.sm⟩
theorem Tz(X:cH y g)(hn:2≤g.n):Vh g (.v (.val (.ref (y.ad 100)))) [] (fU [] (y.ad 100)):=fun ρ vars mem Q h=>BZ X.hk hn fun a x d=>h x d a
theorem Vi(X:cH y g)(l:List (Str×Str)):Mt g (.any 3 (fU l (y.ad 100))) "get_all" (.val (.ref (y.am 7))):=fun ρ k st h=>mZ X.kK.cls (h _ (E6 _ E7)) (h _ (E6 _ (E6 _ E7))) X.kK.m7 (X.kK.fn 7 (.inr (.inr (.inl rfl)))) (by kernel_rfl!) y6
theorem PC(X:cH y g)(l:List (Str×Str)):Mt g (.any 3 (fU l (y.ad 100))) "add_header" (.val (.ref (y.am 16))):=fun ρ k st h=>mZ X.kK.cls (h _ (E6 _ E7)) (h _ (E6 _ (E6 _ E7))) X.kK.Pt (X.kK.fn 16 (.inr (.inr (.inr rfl)))) (by kernel_rfl!) Gu
theorem B0(X:cH y g)(hn:2≤g.n){l:List (Str×Str)}(Ls:bN (PySem.Txt.lower nm)=true)(Tx:nm.length<1000)(hl:∀p∈l,p.1.length<1000)(hsz:l.length≤1000):
  Fn g (.v (.val (.ref (y.am 7)))) [.r 0,.v (.str nm)] [] [] [(0,.any 3 (fU l (y.ad 100)))] (.v (.lst (aV l nm))) [(0,.any 3 (fU l (y.ad 100)))]:=fun ρ M=>
 vp X.hk hn (x:=ρ 0) (dx:=ρ 1) (hv:= .val (.ref (ρ 2))) (l:=l) (E6 _ E7) (E6 _ (E6 _ E7)) (.mem E7) Ls Tx hl hsz ⟨rfl,rfl⟩
theorem B1(X:cH y g)(hn:2≤g.n){l:List (Str×Str)}(Ls:bN nm=true)(hv:bN v=true)(hsz:l.length≤1000):
  Fn g (.v (.val (.ref (y.am 16)))) [.r 0,.v (.str nm),.v (.str v)] [] [] [(0,.any 3 (fU l (y.ad 100)))] (.v .none) [(0,.any 3 (fU (l++ [(nm,v)]) (y.ad 100)))]:=fun ρ M=>
 Lu X.hk hn (x:=ρ 0) (dx:=ρ 1) (a:=ρ 2) (l:=gL l) (E6 _ E7) (E6 _ (E6 _ E7)) Upd.here Ls hv (by unfold gL;rw[E9];exact E4 hsz (by decide)) ⟨rfl,by
  show _=(ρ 2,AO.list (gL (l++ [(nm,v)])))::_
  unfold gL;rw[YA];rfl⟩
end
section
set_option tactic.hygienic true
section
section
variable {g:Gd}{F:FM}{C:Ctx}{ρ ρ':dz}{env:Env}{M:Mem}{s:S}
structure LD(C:Ctx) where
 X:Cx
 t:∀g,TG ⟨X,g⟩
 ifs:∀g,List (SE ⟨X,g⟩)
 t2:∀g,TG ⟨X,g⟩
 i2:∀g,IT ⟨X,g⟩
 gJ:∀g,List (SE ⟨X,g⟩)
 elt:∀g,SE ⟨X,g⟩
 more:List (Str×Const)
 gx:X.gx=C.gx
 loc:bh X.names=X.loc
 et:∀g,(t g).e=(t C.g).e
 ei:∀g,fM (ifs g)=fM (ifs C.g)
 Vj:∀g,(t2 g).e=(t2 C.g).e
 e2:∀g,(i2 g).e=(i2 C.g).e
 WZ:∀g,fM (gJ g)=fM (gJ C.g)
 ee:∀g,(elt g).e=(elt C.g).e
noncomputable def LD.expr(m:LD C)(it:IT C)(pos:Pos):Expr:= .ListComp (m.elt C.g).e [⟨(m.t C.g).e,it.e,fM (m.ifs C.g),0⟩,⟨(m.t2 C.g).e,(m.i2 C.g).e,fM (m.gJ C.g),0⟩] ⟨.function,m.X.names,false,false,m.more⟩ pos
noncomputable def gE(f:AV→Option AV)(y:AV):List AV:=Ln ((f y).getD .none)
def Jl(k:Hint)(l:List AV)(P:AV→Prop):Prop:=k.casesOn (∀z,z∈l→P z) (fun O O=> ∀z,z∈l→P z) (fun O O=> ∀z,z∈l→P z) (fun O=>l.rec True fun z O ih=>P z∧ih) (fun O O=> ∀z,z∈l→P z) (fun O O O O=> ∀z,z∈l→P z) (fun O O O=> ∀z,z∈l→P z) (fun O O O O O=> ∀z,z∈l→P z) (fun O O O O O=> ∀z,z∈l→P z) (fun O O O=> ∀z,z∈l→P z)
theorem B2{P:AV→Prop}(h:Jl k l P):∀z,z∈l→P z:=by
 cases k with
 | a k=>
  replace h:l.rec (motive:=fun O=>Prop) True fun z O ih=>P z∧ih:=h
  induction l with
  | nil=>exact fun z hz=> (ZK hz).elim
  | cons x t ih=>exact V5.mpr ⟨h.1,ih h.2⟩
 | _=>exact h
def LD.turn(m:LD C)(os:Os)(f:AV→Option AV)(h:AV→Hint)(l:List AV):Prop:= ∀g',eS C.g g'→∀y,y∈l→(m.t g').set (.v y) ⟨[],os,h y⟩ fun s2=>xi (m.ifs g') s2 (fun s3=>eE ((!(m.i2 g').tp||(m.t2 g').tup)&& (m.i2 g').nd.isNone) ((m.i2 g').it s3 fun l2 s4=>hF s4 fun f2 h2 kk=>s4.os=os∧gE f y=l2.filterMap f2∧
 Jl kk l2 fun z=> (m.t2 g').set (.v z) ⟨s4.vs,os,h2 z⟩ fun s5=>xi (m.gJ g') s5 (fun s6=> (m.elt g').ev s6 fun v s7=>mV v (fun x=>f2 z=some x∧av s7 s4.vs os) False) fun s6=>f2 z=none∧av s6 s4.vs os)) fun s3=>gE f y=[]∧s3.os=os
def LD.run(m:LD C)(it:IT C)(s:S)(K:List AV→S→Prop):Prop:=eE (jN C m.X Option.none it.tp (m.t C.g).tup) (it.it s fun l s1=>hF s1 fun f h k=>m.turn s1.os f h l∧hV ⟨s1.vs,s1.os,k⟩ fun r s2=>mL (.v r) (fun r=> (l.flatMap (gE f)=r∧r.length≤sizeLine)∧K r s2) False)
theorem LD.step(m:LD C){it:IT C}{tp tup:Bool}(fr:bQ C ρ env)(hg:d7 C m.X Option.none tp tup){f:AV→Option AV}{hh:AV→Hint}(h:m.turn s.os f hh l)(hy:y∈l)(ha:(a++gE f y).length≤sizeLine):
  jD C.g (m.t C.g).e (fM (m.ifs C.g)) m.X.names (ur C ρ) Option.none (Rm (m.expr it pos) (m.i2 C.g).e) (ay ρ s.os) M y (.list a) (.list (a++gE f y)):=fun g' dG L D b e N=>by
 have xj:bQ ⟨m.X,g'⟩ ρ dG:=hg.yZ (oc:=Option.none) (L:=L) fr m.gx b e N
 have eC:∀(a:List AV) (k:Hint),jm false (bh m.X.names) (ay ρ s.os) M L D (.list a)=tr ⟨m.X,g'⟩ ρ ((D,.list a)::M) ⟨[],s.os,k⟩:=fun a k=>by
  unfold jm tr
  rw[m.loc,jP];rfl
 show W1 g' UR _ y (jm false _ _ _ _ _ _) _
 rw[eC a (hh y),← m.et g',← m.ei g']
 refine gm (C:=⟨m.X,g'⟩) ((m.t g').ok (v:= .v y) xj (h g' b y hy)) fun s2 h2=>nq (C:=⟨m.X,g'⟩) xj h2 (fun s3 h3=>?_) fun s3 h3=>?_
 ·obtain⟨hc,h3⟩:=aq h3
  have hc:=E2.mp hc
  refine Ow (fun x=> (m.i2 C.g).fs dG x) (m.e2 g'▸((m.i2 g').ok xj h3).mono fun v st q=>?_)
  obtain⟨o,lV,ht,hn,hm,k⟩:=q
  rename_i l2 s4 tg bK
  refine xk k fun f2 h2 k' ⟨e4,ef,mP⟩=>?_
  have Tp:(m.i2 g').nd=Option.none:=Option.isNone_iff_eq_none.mp hc.2
  refine⟨tg,bK,l2,_,lV,ht _ fun e=>m.Vj g'▸(m.t2 g').it (by have:=hc.1;rw[e] at this;exact this),fun j=>tr ⟨m.X,g'⟩ ρ ((D,.list (a++(l2.take j).filterMap f2))::M) ⟨s4.vs,s.os,.nil⟩,?_,fun j=>hn _ fun k e=> (oG Tp e).elim,?_,fun j z hz=>?_⟩
  ·show tr ⟨m.X,g'⟩ ρ ((D,.list (a++(l2.take 0).filterMap f2))::M) ⟨s4.vs,s.os,.nil⟩=_
   rw[List.take_zero,List.filterMap_nil,Y_,← e4];rfl
  ·show Wk g' (tr ⟨m.X,g'⟩ ρ ((D,.list (a++(l2.take l2.length).filterMap f2))::M) ⟨s4.vs,s.os,.nil⟩) (jm false _ _ _ _ _ _)
   rw[ZM,← ef,eC _ .nil]
   exact OC.wk (oc:=Option.none) rfl
  ·have dc:(a++(l2.take j).filterMap f2).length≤sizeLine:=E4 (by
    rw[ef,YF,YF]
    exact YT ((List.take_sublist j l2).filterMap f2).length_le _) ha
   have eq:∀r,f2 z=r→a++(l2.take (j+1)).filterMap f2=(a++(l2.take j).filterMap f2)++r.toList:=fun r e=>by rw[kI hz,e,YH]
   rw[← m.Vj g',← m.WZ g',← m.ee g']
   refine gm (C:=⟨m.X,g'⟩) ((m.t2 g').ok (v:= .v z) (s:=⟨s4.vs,s.os,h2 z⟩) xj (B2 mP z (YC hz))) fun s5 h5=>nq (C:=⟨m.X,g'⟩) xj h5 (fun s6 h6=>?_) fun s6 h6=>?_
   ·refine uP (bz (C:=⟨m.X,g'⟩) ((m.elt g').ok xj h6) fun v s7 h7=>cL (P:=fun v=> ∃a' mem',Upd (ay ρ s7.os++(D,.list (a++(l2.take j).filterMap f2))::M) D (.list a') (.list (a'++ [aa ρ v])) mem'∧a'.length≤sizeLine∧Wk g' ⟨bU ρ m.X.loc s7.vs,mem'⟩ (tr ⟨m.X,g'⟩ ρ ((D,.list (a++(l2.take (j+1)).filterMap f2))::M) ⟨s4.vs,s.os,.nil⟩)) h7 (fun x h7=> ⟨_,_,Upd.pre .here _,dc,?_⟩) False.elim)
    rw[eq _ h7.1]
    exact av.wk (C:=⟨m.X,g'⟩) h7.2
   ·show Wk g' _ (tr ⟨m.X,g'⟩ ρ ((D,.list (a++(l2.take (j+1)).filterMap f2))::M) ⟨s4.vs,s.os,.nil⟩)
    rw[eq _ h6.1,toList,Y_]
    exact av.wk (C:=⟨m.X,g'⟩) h6.2
 ·show Wk g' _ (jm false _ _ _ _ _ _)
  rw[h3.1,Y_,eC _ .nil]
  exact OC.wk (oc:=Option.none) h3.2
noncomputable def SE.W4(m:LD C)(it:IT C)(pos:Pos):SE C:=SE.I7 (m.expr it pos) (fun s K=>m.run it s fun l s1=>K (.v (.lst l)) s1) true false (fun {ρ env M s K} fr h=>by
  obtain⟨hg,h⟩:=aq h
  have hg:=hG hg
  obtain⟨cs,N,rR⟩:=fr.N
  refine qu qr rfl (p2:=it.e.pos) (cs:=ur C ρ) (oc:=Option.none) (use:=Option.none) (B:=Rm (m.expr it pos) (m.i2 C.g).e) fr.e (qL N rR) rfl (jO hg.fr fr.hc) hg.kn hg.Tr trivial (fun dG=>Kp _ _ _ _ _ _ _ _ _ dG) (it.fs env) ((it.ok fr h).mono fun v st q=>?_)
  obtain⟨o,lV,ht,hn,hm,k⟩:=q
  rename_i l s1 tg bK
  refine xk k fun f hh k ⟨Lj,hr⟩=>dB hr fun r k' hr=>?_
  cases r with
  | lst r=>
   obtain⟨⟨Ro,Rp⟩,W5⟩:=hr
   have tk:∀i y,l[i]? =some y→(l.take (i+1)).flatMap (gE f)=(l.take i).flatMap (gE f)++gE f y:=fun i y hy=>by
    rw[Zo,hy,List.flatMap_append]
    exact E5 (_++ ·) (Y_ _)
   refine⟨bU ρ C.loc s1.vs,ay ρ s1.os,M,tg,bK,l,lV,ht _ fun e=> (m.t C.g).it (by have:=hg.tp;rw[e] at this;exact this),fun L D a=>hn _ fun k e=>jm.has (hm k e),fun i=> .list ((l.take i).flatMap (gE f)),rfl,fun i y hy=>tk i y hy▸m.step fr hg Lj (YC hy) (tk i y hy▸?_),?_⟩
   ·have e:=List.flatMap_append (xs:=l.take (i+1)) (ys:=l.drop (i+1)) (f:=gE f)
    rw[ZW,Ro] at e
    rw[e,YF] at Rp
    exact E4 (Y0 ..) Rp
   ·rw[ZM,Ro]
    exact qq (db (s:=⟨s1.vs,s1.os,k'⟩) W5)
  | _=>exact hr.elim) (fun O=>rfl) ⟨fun O O=>rfl,fun O=>rfl,fun O O=>rfl,fun O O O O=>rfl,fun h=>nomatch h⟩
end
end
end
section
section
section
variable {g:Gd}{F:FM}{C:Ctx}{ρ ρ':dz}{env:Env}{M:Mem}{s:S}
noncomputable def SE.told(x:SE C):SE C:=⟨x.e,fun s K=>x.ev s fun a s1=>hV s1 fun v s2=>a= .v v∧K (.v v) s2,fun O O=>False,x.ai,x.sw,fun fr h=>bz (x.ok fr h) fun a s1 h=>dB h fun v k h'=>by
 obtain⟨rfl,h'⟩:=h'
 exact lN h',fun O h=>h.elim,x.fm⟩
noncomputable def Jm:Op:=fun a b s K=>ff a b (fun x y=>K (.v (.bool (Float64.cmp x y==some .eq))) s) False
theorem B3:f3 (compareOp .Eq) Jm:=fun {C ρ env M a b s K} fr h=>jK (P:=fun a b=>W2 C.g VR _ (aa ρ a) (aa ρ b) (tr C ρ M s) (PV C ρ M K)) h (fun O O h=>OT (db h)) False.elim
noncomputable def SE.oS(l r:SE C)(p:Pos:=fZ l.p r.p 0 0):SE C:=SE.Bk l r .Eq Jm B3 p
def TA(a b:RV):Prop:= ∃x y z,a= .v (.tup [.aI x,.aI y,.aI z])∧b= .v (.tup [.aI x,.aI y,.aI z])∧Float64.isNaN x=false∧Float64.isNaN y=false∧Float64.isNaN z=false
noncomputable def PD:Op:=fun a b s K=>TA a b∧K (.v (.bool true)) s
theorem Gy:f3 (compareOp .Eq) PD:=fun {C ρ env M a b s K} fr h=>by
 obtain⟨⟨x,y,z,rfl,rfl,h1,h2,h3⟩,h⟩:=h
 exact KP fr.nb h1 h2 h3 (db h)
noncomputable def SE.PE(l r:SE C)(p:Pos:=fZ l.p r.p 0 0):SE C:=SE.Bk l r .Eq PD Gy p
end
end
end
section
section
noncomputable def Vk(y:Lay):Cx:=cx y ["x"] [] [35] true
noncomputable def W6(y:Lay)(g:Gd):SB ⟨Vk y,g⟩:= .cons (.ret (.lt (.lo 0 169 11) (.gl 35 169 15)))<| .nil
theorem hM(X:cH y g)(hn:9≤g.n)(x:Int):Fn g (.v (.val (.ref (y.ad 62)))) [.v (.int x)] [] [] [] (.v (.bool (decide (x<256)))) []:=
 iN X hn (X.fn 62 "ISTERMINAL" (by decide)) (Vk y) (W6 y) .nil (by intros;kernel_rfl!) fun g' b=>by
  refine aR (P:=VV (.bool (decide (x<256)))∧rf ([]:Os))
   ⟨rfl,rfl⟩ (by kernel_rfl!)
noncomputable def Vl(y:Lay):Cx:=cx y ["x"] [] [35] true
noncomputable def W7(y:Lay)(g:Gd):SB ⟨Vl y,g⟩:= .cons (.ret (.ge (.lo 0 171 11) (.gl 35 171 16)))<| .nil
theorem e_(X:cH y g)(hn:9≤g.n)(x:Int):Fn g (.v (.val (.ref (y.ad 63)))) [.v (.int x)] [] [] [] (.v (.bool (decide (256≤x)))) []:=
 iN X hn (X.fn 63 "ISNONTERMINAL" (by decide)) (Vl y) (W7 y) .nil (by intros;kernel_rfl!) fun g' b=>by
  refine aR (P:=VV (.bool (decide (256≤x)))∧rf ([]:Os))
   ⟨rfl,rfl⟩ (by kernel_rfl!)
noncomputable def Vm(y:Lay):Cx:=cx y ["x"] [] [36] true
noncomputable def W8(y:Lay)(g:Gd):SB ⟨Vm y,g⟩:= .cons (.ret (.eq (.lo 0 173 11) (.gl 36 173 16)))<| .nil
theorem vq(X:cH y g)(hn:9≤g.n)(x:Int):Fn g (.v (.val (.ref (y.ad 64)))) [.v (.int x)] [] [] [] (.v (.bool (x==0))) []:=
 iN X hn (X.fn 64 "ISEOF" (by decide)) (Vm y) (W8 y) (.a .nil) (by intros;kernel_rfl!) fun g' b=>by
  refine aR (P:=VV (.bool (x==0))∧rf ([]:Os))
   ⟨rfl,rfl⟩ (by kernel_rfl!)
end
end
section
section
noncomputable def Jn(y:Lay):Cx:=Jh y [("a",.local),("x",.local),("lo",.local),("hi",.local),("key",.local),("mid",.local),("ValueError",.globalImplicit)] [] [0] true
noncomputable def B4(y:Lay)(g:Gd):SE ⟨Jn y,g⟩:= .lt (.lo 2 38 14) (.lo 3 38 19)
noncomputable def B5(y:Lay)(g:Gd):SB ⟨Jn y,g⟩:= .cons (.ag (.loc 5) 39 12 (.tt (.add (.lo 2 39 19) (.lo 3 39 24)) 2 0 (q 39 31 32) (q 39 18 32)))<| .cons (.ite (.lt (.get (.lo 0 40 15) (.lo 5 40 17)) (.lo 1 40 24)) (.cons (.ag (.loc 2) 41 16 (.add (.lo 5 41 21) (.nt 1 41 27)))<| .nil) (.cons (.ag (.loc 3) 43 16 (.lo 5 43 21))<| .nil) ⟨40,12,43,24⟩)<| .nil
noncomputable def Jo(y:Lay)(g:Gd):SE ⟨Jn y,g⟩:= .lt (.lo 2 45 14) (.lo 3 45 19)
noncomputable def Jp(y:Lay)(g:Gd):SB ⟨Jn y,g⟩:= .cons (.ag (.loc 5) 46 12 (.tt (.add (.lo 2 46 19) (.lo 3 46 24)) 2 0 (q 46 31 32) (q 46 18 32)))<| .cons (.ite (.lt (.Ti 4 47 15 [(.get (.lo 0 47 19) (.lo 5 47 21))]) (.lo 1 47 29)) (.cons (.ag (.loc 2) 48 16 (.add (.lo 5 48 21) (.nt 1 48 27)))<| .nil) (.cons (.ag (.loc 3) 50 16 (.lo 5 50 21))<| .nil) ⟨47,12,50,24⟩)<| .nil
noncomputable def TB(y:Lay)(g:Gd):SB ⟨Jn y,g⟩:= .cons (.ite (.lt (.lo 2 33 7) (.nt 0 33 12)) (.cons (.dead (.Raise (some (.Call (.Name "ValueError" (q 34 14 24)) [(.Constant (.str "lo must be non-negative") 0 (q 34 25 50))] [] (q 34 14 51))) .none (q 34 8 51)))<| .nil) .nil ⟨33,4,34,51⟩)<| .cons (.ite (.is (.lo 3 35 7) (.none 0 (q 35 13 17))) (.cons (.ag (.loc 3) 36 8 (.cl 0 36 13 [(.lo 0 36 17)]))<| .nil) .nil ⟨35,4,36,19⟩)<| .cons (.ite (.is (.lo 4 37 7) (.none 0 (q 37 14 18))) (.cons (.No (B4 y g) (B5 y g) ⟨38,8,43,24⟩)<| .nil) (.cons (.No (Jo y g) (Jp y g) ⟨45,8,50,24⟩)<| .nil) ⟨37,4,50,24⟩)<| .cons (.ret (.lo 2 51 11))<| .nil
noncomputable def X9(y:Lay):Cx:=Jh y [("a",.local),("x",.local),("lo",.local),("hi",.local),("key",.local),("mid",.local),("ValueError",.globalImplicit)] [] [0] true
noncomputable def PG(y:Lay)(g:Gd):SE ⟨X9 y,g⟩:= .lt (.lo 2 12 14) (.lo 3 12 19)
noncomputable def PJ(y:Lay)(g:Gd):SB ⟨X9 y,g⟩:= .cons (.ag (.loc 5) 13 12 (.tt (.add (.lo 2 13 19) (.lo 3 13 24)) 2 0 (q 13 31 32) (q 13 18 32)))<| .cons (.ite (.lt (.lo 1 14 15) (.get (.lo 0 14 19) (.lo 5 14 21))) (.cons (.ag (.loc 3) 15 16 (.lo 5 15 21))<| .nil) (.cons (.ag (.loc 2) 17 16 (.add (.lo 5 17 21) (.nt 1 17 27)))<| .nil) ⟨14,12,17,28⟩)<| .nil
noncomputable def TC(y:Lay)(g:Gd):SE ⟨X9 y,g⟩:= .lt (.lo 2 19 14) (.lo 3 19 19)
noncomputable def TD(y:Lay)(g:Gd):SB ⟨X9 y,g⟩:= .cons (.ag (.loc 5) 20 12 (.tt (.add (.lo 2 20 19) (.lo 3 20 24)) 2 0 (q 20 31 32) (q 20 18 32)))<| .cons (.ite (.lt (.lo 1 21 15) (.Ti 4 21 19 [(.get (.lo 0 21 23) (.lo 5 21 25))])) (.cons (.ag (.loc 3) 22 16 (.lo 5 22 21))<| .nil) (.cons (.ag (.loc 2) 24 16 (.add (.lo 5 24 21) (.nt 1 24 27)))<| .nil) ⟨21,12,24,28⟩)<| .nil
noncomputable def B9(y:Lay)(g:Gd):SB ⟨X9 y,g⟩:= .cons (.ite (.lt (.lo 2 7 7) (.nt 0 7 12)) (.cons (.dead (.Raise (some (.Call (.Name "ValueError" (q 8 14 24)) [(.Constant (.str "lo must be non-negative") 0 (q 8 25 50))] [] (q 8 14 51))) .none (q 8 8 51)))<| .nil) .nil ⟨7,4,8,51⟩)<| .cons (.ite (.is (.lo 3 9 7) (.none 0 (q 9 13 17))) (.cons (.ag (.loc 3) 10 8 (.cl 0 10 13 [(.lo 0 10 17)]))<| .nil) .nil ⟨9,4,10,19⟩)<| .cons (.ite (.is (.lo 4 11 7) (.none 0 (q 11 14 18))) (.cons (.No (PG y g) (PJ y g) ⟨12,8,17,28⟩)<| .nil) (.cons (.No (TC y g) (TD y g) ⟨19,8,24,28⟩)<| .nil) ⟨11,4,24,28⟩)<| .cons (.ret (.lo 2 25 11))<| .nil
noncomputable def TE(y:Lay):Cx:=cx y ["a","x","lo","hi","key"] [] [15] true
noncomputable def Vn(y:Lay)(g:Gd):SB ⟨TE y,g⟩:= .cons (.ite (.is (.lo 4 27 7) (.none 0 (q 27 14 18))) (.cons (.ag (.loc 2) 28 8 (.cl 15 28 13 [(.lo 0 28 25),(.lo 1 28 28),(.lo 2 28 31),(.lo 3 28 35)]))<| .nil) (.cons (.ag (.loc 2) 30 8 (.Jg 15 (q 30 13 24) [(.lo 0 30 25),(.Ti 4 30 28 [(.lo 1 30 32)]),(.lo 2 30 36),(.lo 3 30 40)] "key" (.lo 4 30 48) (q 30 44 51) (q 30 13 52)))<| .nil) ⟨27,4,30,52⟩)<| .cons (.exp (.mt (.lo 0 31 4) .insert [(.lo 2 31 13),(.lo 1 31 17)]))<| .nil
noncomputable def oB(lt:Nat→Bool)(s:Nat×Nat):Nat×Nat:=cond (lt ((s.1+s.2) / 2)) ((s.1+s.2) / 2+1,s.2) (s.1,(s.1+s.2) / 2)
noncomputable def eI(lt:Nat→Bool)(s:Nat×Nat)(n:Nat):Nat×Nat:=n.rec s fun O x=>oB lt x
theorem nD(lt:Nat→Bool)(s:Nat×Nat):∀n,eI lt (oB lt s) n=oB lt (eI lt s n)
 | 0=>rfl
 | n+1=>E5 (oB lt) (nD lt s n)
theorem vt{lo hi:Nat}(h:lo<hi):lo≤(lo+hi) / 2∧(lo+hi) / 2<hi:=by omega
theorem nE{lt:Nat→Bool}{p H:Nat}:∀(m lo hi:Nat),hi≤lo+m→hi≤H→lo≤p→p≤hi→(∀j,lo≤j→j<hi→lt j=decide (j<p))→
  ∃n,(∀i,i<n→(eI lt (lo,hi) i).1<(eI lt (lo,hi) i).2∧(eI lt (lo,hi) i).2≤H)∧eI lt (lo,hi) n=(p,p):=by
 intro m
 induction m with
 | zero=>
  intro lo hi h _ h1 h2 _
  have e1:lo=p:=Zq h1 (E4 h2 h)
  have e2:hi=p:=Zq (E4 h h1) h2
  exact⟨0,fun i hi=>absurd hi (aah i),by rw[e1,e2];rfl⟩
 | succ m ih=>
  intro lo hi h hH h1 h2 hl
  rcases aaw lo hi with oz | KA
  ·obtain⟨a,b⟩:=vt oz
   have hb:=hl _ a b
   have key:∃n,(∀i,i<n→(eI lt (oB lt (lo,hi)) i).1<(eI lt (oB lt (lo,hi)) i).2∧(eI lt (oB lt (lo,hi)) i).2≤H)∧eI lt (oB lt (lo,hi)) n=(p,p):=by
    show ∃n,(∀i,i<n→(eI lt (cond (lt ((lo+hi) / 2)) ((lo+hi) / 2+1,hi) (lo,(lo+hi) / 2)) i).1<(eI lt (cond (lt ((lo+hi) / 2)) ((lo+hi) / 2+1,hi) (lo,(lo+hi) / 2)) i).2∧(eI lt (cond (lt ((lo+hi) / 2)) ((lo+hi) / 2+1,hi) (lo,(lo+hi) / 2)) i).2≤H)∧eI lt (cond (lt ((lo+hi) / 2)) ((lo+hi) / 2+1,hi) (lo,(lo+hi) / 2)) n=(p,p)
    generalize(lo+hi) / 2=c at a b hb
    cases hc:lt c with
    | true=>
     rw[hc] at hb
     have TF:=U9 hb.symm
     exact ih (c+1) hi (by omega) hH TF h2 fun j h3 h4=>hl j (E4 a (YN h3)) h4
    | false=>
     rw[hc] at hb
     have TF:=Zd.mp (abQ hb.symm)
     exact ih lo c (by omega) (E4 (Yy b) hH) h1 TF fun j h3 h4=>hl j h3 (YB h4 b)
   obtain⟨n,k1,k2⟩:=key
   refine⟨n+1,fun i Ni=>?_,(nD ..).symm.trans k2⟩
   cases i with
   | zero=>exact⟨oz,hH⟩
   | succ i=>have:=k1 i (ZQ Ni);rw[nD] at this;exact this
  ·exact⟨0,fun i hi=>absurd hi (aah i),by rw[Zq h1 (E4 h2 KA),Zq (E4 KA h1) h2];rfl⟩
structure y9(g:Gd)(l:List AV)(key:RV)(ko:Os)(kf:AV→AV)(lt:Nat→Bool)(lo hi p:Nat):Prop where
 h0:lo≤p
 h1:p≤hi
 hh:hi≤l.length
 sz:l.length≤1000
 mono:∀j,lo≤j→j<hi→lt j=decide (j<p)
 key:∀g',tj g g'→9≤g'.n→∀(j:Nat) (y:AV),l[j]? =some y→Fn g' key [.v y] [] [] ko (.v (kf y)) ko
theorem y9.bS{l key ko kf lt lo hi p}(X:y9 g l key ko kf lt lo hi p)(b:tj g g'):y9 g' l key ko kf lt lo hi p:=⟨X.h0,X.h1,X.hh,X.sz,X.mono,fun Tt k=>X.key Tt (b.trans k)⟩
noncomputable def lh(a x key:RV)(s:Nat×Nat):Vs:=[some a,some x,some (.v (.int s.1)),some (.v (.int s.2)),some key,none]
noncomputable def Vo(n:Bool)(l:List AV)(ko:Os)(kf:AV→AV)(lt:Nat→Bool)(s:Nat×Nat):Hint:= .v (l.getD ((s.1+s.2) / 2) .none)<| .call (.v (kf (l.getD ((s.1+s.2) / 2) .none))) ko<| .b (cond n (!(lt ((s.1+s.2) / 2))) (lt ((s.1+s.2) / 2)))<| .sp .nil .nil
theorem i6(a b:Nat):fdiv ((a:Int)+(b:Int)) ((2:Nat):Int)=(((a+b) / 2:Nat):Int):=by rw[← aaP,Int.fdiv_eq_ediv_of_nonneg _ (by decide)];rfl
theorem xw{lt:Nat→Bool}{s:Nat×Nat}(h:lt ((s.1+s.2) / 2)=true):oB lt s=((s.1+s.2) / 2+1,s.2):=E5 (fun b=>cond b _ _) h
theorem xx{lt:Nat→Bool}{s:Nat×Nat}(h:lt ((s.1+s.2) / 2)=false):oB lt s=(s.1,(s.1+s.2) / 2):=E5 (fun b=>cond b _ _) h
section
variable {y:Lay}{g:Gd}{l:List AV}{kf:AV→AV}{lt:Nat→Bool}{x:AV}{fi:FI}{q:Str}{nm:Str}{w:AV}
theorem B6(s:Nat×Nat)(hl:l.length≤1000)(h0:s.1<s.2)(h1:s.2≤l.length)(R:RV→S→Prop)
  (hk:∀z,l[(s.1+s.2) / 2]? =some z→Fn g (.f fi q [(nm,1)]) [.v z] [] [] [(1,.cell (some (.v w)))] (.v (kf z)) [(1,.cell (some (.v w)))]∧f4 (.v (kf z)) (.v x) (lt ((s.1+s.2) / 2))):
  (Jo y g).tv ⟨lh (.r 0) (.v x) (.f fi q [(nm,1)]) s,[(0,.list l),(1,.cell (some (.v w)))],Vo false l [(1,.cell (some (.v w)))] kf lt s⟩ fun c s1=>c=true∧(Jp y g).ex s1 fun f s3=>bF f (True∧av s3 (lh (.r 0) (.v x) (.f fi q [(nm,1)]) (oB lt s)) [(0,.list l),(1,.cell (some (.v w)))]) False fun v=>R v s3:=by
 have hm:=U2 (vt h0).2 h1
 obtain⟨hk,hc⟩:=hk (l.getD ((s.1+s.2) / 2) .none) (by rw[U6 hm,U3,U6 hm];rfl)
 have hi:bT l (fdiv ((s.1:Int)+(s.2:Int)) ((2:Nat):Int))=some (l.getD ((s.1+s.2) / 2) .none):=by rw[i6];exact pS (V6 _) (YR.mpr hm)
 refine aR (P:=_∧_∧_∧_∧_∧(lt ((fst s+snd s) / 2)=true→True∧av (.mk ([some (.r 0),some (.v x),some (.v (.int (fdiv ((↑s.1:Int)+(↑s.2:Int)) ((2:Nat):Int)+(1:Int)))),some (.v (.int ↑s.2)),some (RV.f fi q [(nm,1)]),some (.v (.int (fdiv ((↑s.1:Int)+(↑s.2:Int)) ((2:Nat):Int))))]) ([(0,EO.list l),(1,EO.cell (some (.v w)))]) .nil) (lh (RV.r 0) (RV.v x) (RV.f fi q [(nm,1)]) (oB lt s)) ([(0,EO.list l),(1,EO.cell (some (.v w)))]))∧(lt ((fst s+snd s) / 2)=false→True∧av (.mk ([some (.r 0),some (.v x),some (.v (.int ↑s.1)),some (.v (.int (fdiv ((↑s.1:Int)+(↑s.2:Int)) ((2:Nat):Int)))),some (RV.f fi q [(nm,1)]),some (.v (.int (fdiv ((↑s.1:Int)+(↑s.2:Int)) ((2:Nat):Int))))]) ([(0,EO.list l),(1,EO.cell (some (.v w)))]) .nil) (lh (RV.r 0) (RV.v x) (RV.f fi q [(nm,1)]) (oB lt s)) ([(0,EO.list l),(1,EO.cell (some (.v w)))])))
  ⟨U5 (YR.mpr h0),sz hl rfl,hi,hk,hc,fun h=> ⟨trivial,by rw[i6,xw h];rfl⟩,fun h=> ⟨trivial,by rw[i6,xx h];rfl⟩⟩ (by kernel_rfl!)
noncomputable abbrev xz(l:List AV)(w:AV):=[(0,EO.list l),(1,EO.cell (some (.v w)))]
theorem Gz(X:cH y g)(hn:10≤g.n){lo p:Nat}(Z:y9 g l (.f fi q [(nm,1)]) [(1,.cell (some (.v w)))] kf lt lo l.length p)(hc:∀(j:Nat) z,l[j]? =some z→f4 (.v (kf z)) (.v x) (lt j)):
  Fn g (.v (.val (.ref (y.ad 5)))) [(.r 0),.v x,.v (.int lo),.v .none] ["key"] [.f fi q [(nm,1)]] [(0,.list l),(1,.cell (some (.v w)))] (.v (.int p)) [(0,.list l),(1,.cell (some (.v w)))]:=by
 obtain⟨n,hs,he⟩:=nE l.length lo l.length (Zi ..) (E8 _) Z.h0 Z.h1 Z.mono
 have D:=X.Ex 5 "bisect_left" (by decide)
 refine jQ (YN hn) X.nb D.1 (Jn y) X.gx (TB y) [(.r 0),.v x,.v (.int lo),.v .none,.f fi q [(nm,1)]] 10
  (.b false<| .a<| .a<| .a<| .wh n (fun i=>lh (.r 0) (.v x) (.f fi q [(nm,1)]) (eI lt (lo,l.length) i)) (fun O=>[(0,.list l),(1,.cell (some (.v w)))]) (fun i=>Vo false l [(1,.cell (some (.v w)))] kf lt (eI lt (lo,l.length) i)) .nil)
  (more:=[]) (fun O=>by kernel_rfl!) (by kernel_rfl!) rfl
  (fun ρ bd F s vs kvs doc pm an eg ct hk hv gN=>by
   obtain⟨o,n,t,ho,hd⟩:=D.2.d
   exact eY (ds:=[]) (Ji:=[]) hv rfl gN fun h1 h2=>by
    obtain⟨_,_,_,_,rfl⟩:=Gr h1
    obtain⟨_,rfl⟩:=Gp h2
    exact BindsTo.of_defaults rfl (hk _ _ ho) hd rfl rfl) (by kernel_rfl!) (fun O=>by kernel_rfl!) (fun O h=>nomatch h) fun g' b=>?_
 have Z':=Z.bS b.bS
 have ws:=fun i h=>B6 (y:=y) (g:=g') (R:=fun v s3=>dH (.ret v) s3 (.int p) [(0,.list l),(1,.cell (some (.v w)))]) (eI lt (lo,l.length) i) Z.sz (hs i h).1 (E4 (hs i h).2 Z.hh) fun z hz=> ⟨Z'.key g' (.refl g') (by rw[b.n];exact YY hn) _ z hz,hc _ z hz⟩
 refine aR (P:=f4 (RV.v (.int ↑lo)) (RV.v (.int 0)) false∧_∧EE ((fun(i:Nat)=>lh (RV.r 0) (RV.v x) (RV.f fi q [(nm,1)]) (eI lt (lo,length l) i)) 0) ((fun(x:Nat)=> (xz l w)) 0)∧_∧decide ((↑(fst (eI lt (lo,length l) n)):Int)<(↑(snd (eI lt (lo,length l) n)):Int))=false∧VI (.int (↑(fst (eI lt (lo,length l) n)):Int)) (.int ↑p)∧rf (xz l w))
  ⟨.inl ⟨_,_,rfl,rfl,U4 (ZD.mpr (V6 lo))⟩,sz Z.sz rfl,rfl,ws,by rw[he];exact U4 (aad _),by rw[he],rfl⟩ (by kernel_rfl!)
theorem GA(X:cH y g)(hn:11≤g.n){p:Nat}(Z:y9 g l (.f fi q [(nm,1)]) [(1,.cell (some (.v w)))] kf lt 0 l.length p)(hx:∀g',tj g g'→9≤g'.n→Fn g' (.f fi q [(nm,1)]) [.v x] [] [] [(1,.cell (some (.v w)))] (.v (kf x)) [(1,.cell (some (.v w)))])(hc:∀(j:Nat) z,l[j]? =some z→f4 (.v (kf z)) (.v (kf x)) (lt j)):
  Fn g (.v (.val (.ref (y.ad 4)))) [.r 0,.v x] ["key"] [.f fi q [(nm,1)]] [(0,.list l),(1,.cell (some (.v w)))] (.v .none) [(0,.list (l.take p++x::l.drop p)),(1,.cell (some (.v w)))]:=by
 have D:=X.Ex 4 "insort_left" (by decide)
 refine jQ (Zg (k:=2) hn) X.nb D.1 (TE y) X.gx (Vn y) [.r 0,.v x,.v (.int 0),.v .none,.f fi q [(nm,1)]] 10
  (.a<| .call (.v (kf x)) [(1,.cell (some (.v w)))]<| .call (.v (.int p)) [(0,.list l),(1,.cell (some (.v w)))] .nil)
  (more:=[]) (fun O=>by kernel_rfl!) (by kernel_rfl!) rfl
  (fun ρ bd F s vs kvs doc pm an eg ct hk hv gN=>by
   obtain⟨o,n,t,ho,hd⟩:=D.2.d
   exact eY (ds:=[.int 0 t,.none]) (Ji:=[.int 0,.none]) hv ⟨_,_,rfl,oH ..,_,_,rfl,un _,rfl⟩ gN fun h1 h2=>by
    obtain⟨_,_,rfl⟩:=Gq h1
    obtain⟨_,rfl⟩:=Gp h2
    exact BindsTo.of_defaults rfl (hk _ _ ho) hd rfl rfl) (by kernel_rfl!) (fun O=>by kernel_rfl!) (fun O h=>nomatch h) fun g' b=>?_
 have Ey:10≤g'.n:=by rw[b.n];exact YY hn
 have f1:=hx g' b.bS (YN Ey)
 have f2:=Gz (X.bS b.bS) Ey (Z.bS b.bS) hc
 refine aR (P:=_∧_∧_∧_∧length l≤1000000∧rf AV.none∧[(0,EO.list (take p l++x::drop p l)),(1,EO.cell (some (.v w)))]=[(0,.list (take p l++x::drop p l)),(1,.cell (some (.v w)))])
  ⟨f1,f2,V6 p,Zl.mpr Z.h1,E4 Z.sz (by decide),rfl,rfl⟩ (by kernel_rfl!)
end
end
end
section
section
noncomputable def Vp(y:Lay):Cx:=cx y ["r","g","b","maxc","minc","sumc","rangec","l","s","rc","gc","bc","h"] [] [3,4] true
noncomputable def W9(y:Lay)(g:Gd):SB ⟨Vp y,g⟩:= .cons (.ag (.loc 3) 54 4 (.cl 3 54 11 [(.lo 0 54 15),(.lo 1 54 18),(.lo 2 54 21)]))<| .cons (.ag (.loc 4) 55 4 (.cl 4 55 11 [(.lo 0 55 15),(.lo 1 55 18),(.lo 2 55 21)]))<| .cons (.ag (.loc 5) 56 4 (.add (.lo 3 56 11) (.lo 4 56 18)))<| .cons (.ag (.loc 6) 57 4 (.sub (.lo 3 57 13) (.lo 4 57 20)))<| .cons (.ag (.loc 7) 58 4 (.bC (.lo 5 58 8) (.aI 4611686018427387904 0 (q 58 15 18))))<| .cons (.ite (.oS (.lo 4 59 7) (.lo 3 59 15)) (.cons (.ret (.tup [(.aI 0 0 (q 60 16 19)),(.lo 7 60 21),(.aI 0 0 (q 60 24 27))]))<| .nil) .nil ⟨59,4,60,28⟩)<| .cons (.ite (.le (.lo 7 61 7) (.aI 4602678819172646912 0 (q 61 12 15))) (.cons (.ag (.loc 8) 62 8 (.bC (.lo 6 62 12) (.lo 5 62 21)))<| .nil) (.cons (.ag (.loc 8) 64 8 (.bC (.lo 6 64 12) (.sub (.sub (.aI 4611686018427387904 0 (q 64 22 25)) (.lo 3 64 28)) (.lo 4 64 35)) (q 64 12 40)))<| .nil) ⟨61,4,64,40⟩)<| .cons (.ag (.loc 9) 65 4 (.bC (.sub (.lo 3 65 10) (.lo 0 65 17)) (.lo 6 65 22) (q 65 9 28)))<| .cons (.ag (.loc 10) 66 4 (.bC (.sub (.lo 3 66 10) (.lo 1 66 17)) (.lo 6 66 22) (q 66 9 28)))<| .cons (.ag (.loc 11) 67 4 (.bC (.sub (.lo 3 67 10) (.lo 2 67 17)) (.lo 6 67 22) (q 67 9 28)))<| .cons (.ite (.oS (.lo 0 68 7) (.lo 3 68 12)) (.cons (.ag (.loc 12) 69 8 (.sub (.lo 11 69 12) (.lo 10 69 17)))<| .nil) (.cons (.ite (.oS (.lo 1 70 9) (.lo 3 70 14)) (.cons (.ag (.loc 12) 71 8 (.sub (.add (.aI 4611686018427387904 0 (q 71 12 15)) (.lo 9 71 18)) (.lo 11 71 23)))<| .nil) (.cons (.ag (.loc 12) 73 8 (.sub (.add (.aI 4616189618054758400 0 (q 73 12 15)) (.lo 10 73 18)) (.lo 9 73 23)))<| .nil) ⟨70,4,73,25⟩)<| .nil) ⟨68,4,73,25⟩)<| .cons (.ag (.loc 12) 74 4 (.mod (.bC (.lo 12 74 8) (.aI 4618441417868443648 0 (q 74 12 15))) (.aI 4607182418800017408 0 (q 74 18 21))))<| .cons (.ret (.tup [(.lo 12 75 12),(.lo 7 75 15),(.lo 8 75 18)]))<| .nil
noncomputable def Vq(y:Lay):Cx:=cx y ["r","g","b","maxc","minc","rangec","v","s","rc","gc","bc","h"] [] [3,4] true
noncomputable def W_(y:Lay)(g:Gd):SB ⟨Vq y,g⟩:= .cons (.ag (.loc 3) 77 4 (.cl 3 77 11 [(.lo 0 77 15),(.lo 1 77 18),(.lo 2 77 21)]))<| .cons (.ag (.loc 4) 78 4 (.cl 4 78 11 [(.lo 0 78 15),(.lo 1 78 18),(.lo 2 78 21)]))<| .cons (.ag (.loc 5) 79 4 (.sub (.lo 3 79 13) (.lo 4 79 20)))<| .cons (.ag (.loc 6) 80 4 (.lo 3 80 8))<| .cons (.ite (.oS (.lo 4 81 7) (.lo 3 81 15)) (.cons (.ret (.tup [(.aI 0 0 (q 82 16 19)),(.aI 0 0 (q 82 21 24)),(.lo 6 82 26)]))<| .nil) .nil ⟨81,4,82,28⟩)<| .cons (.ag (.loc 7) 83 4 (.bC (.lo 5 83 8) (.lo 3 83 17)))<| .cons (.ag (.loc 8) 84 4 (.bC (.sub (.lo 3 84 10) (.lo 0 84 17)) (.lo 5 84 22) (q 84 9 28)))<| .cons (.ag (.loc 9) 85 4 (.bC (.sub (.lo 3 85 10) (.lo 1 85 17)) (.lo 5 85 22) (q 85 9 28)))<| .cons (.ag (.loc 10) 86 4 (.bC (.sub (.lo 3 86 10) (.lo 2 86 17)) (.lo 5 86 22) (q 86 9 28)))<| .cons (.ite (.oS (.lo 0 87 7) (.lo 3 87 12)) (.cons (.ag (.loc 11) 88 8 (.sub (.lo 10 88 12) (.lo 9 88 17)))<| .nil) (.cons (.ite (.oS (.lo 1 89 9) (.lo 3 89 14)) (.cons (.ag (.loc 11) 90 8 (.sub (.add (.aI 4611686018427387904 0 (q 90 12 15)) (.lo 8 90 18)) (.lo 10 90 23)))<| .nil) (.cons (.ag (.loc 11) 92 8 (.sub (.add (.aI 4616189618054758400 0 (q 92 12 15)) (.lo 9 92 18)) (.lo 8 92 23)))<| .nil) ⟨89,4,92,25⟩)<| .nil) ⟨87,4,92,25⟩)<| .cons (.ag (.loc 11) 93 4 (.mod (.bC (.lo 11 93 8) (.aI 4618441417868443648 0 (q 93 12 15))) (.aI 4607182418800017408 0 (q 93 18 21))))<| .cons (.ret (.tup [(.lo 11 94 12),(.lo 7 94 15),(.lo 6 94 18)]))<| .nil
noncomputable def Vr(y:Lay):Cx:=cx y ["h","s","v","i","f","p","q","t"] [] [7] true
noncomputable def Xa(y:Lay)(g:Gd):SB ⟨Vr y,g⟩:= .cons (.ite (.oS (.lo 1 96 7) (.aI 0 0 (q 96 12 15))) (.cons (.ret (.tup [(.lo 2 97 16),(.lo 2 97 19),(.lo 2 97 22)]))<| .nil) .nil ⟨96,4,97,24⟩)<| .cons (.ag (.loc 3) 98 4 (.cl 7 98 8 [(.mul (.lo 0 98 12) (.aI 4618441417868443648 0 (q 98 16 19)))]))<| .cons (.ag (.loc 4) 99 4 (.sub (.mul (.lo 0 99 8) (.aI 4618441417868443648 0 (q 99 12 15))) (.lo 3 99 18)))<| .cons (.ag (.loc 5) 100 4 (.mul (.lo 2 100 8) (.sub (.aI 4607182418800017408 0 (q 100 13 16)) (.lo 1 100 19)) (q 100 8 21)))<| .cons (.ag (.loc 6) 101 4 (.mul (.lo 2 101 8) (.sub (.aI 4607182418800017408 0 (q 101 13 16)) (.mul (.lo 1 101 19) (.lo 4 101 23))) (q 101 8 25)))<| .cons (.ag (.loc 7) 102 4 (.mul (.lo 2 102 8) (.sub (.aI 4607182418800017408 0 (q 102 13 16)) (.mul (.lo 1 102 19) (.sub (.aI 4607182418800017408 0 (q 102 24 27)) (.lo 4 102 30)) (q 102 19 32))) (q 102 8 33)))<| .cons (.ag (.loc 3) 103 4 (.md (.lo 3 103 8) 6 12))<| .cons (.ite (.eq (.lo 3 104 7) (.nt 0 104 12)) (.cons (.ret (.tup [(.lo 2 105 16),(.lo 7 105 19),(.lo 5 105 22)]))<| .nil) .nil ⟨104,4,105,24⟩)<| .cons (.ite (.eq (.lo 3 106 7) (.nt 1 106 12)) (.cons (.ret (.tup [(.lo 6 107 16),(.lo 2 107 19),(.lo 5 107 22)]))<| .nil) .nil ⟨106,4,107,24⟩)<| .cons (.ite (.eq (.lo 3 108 7) (.nt 2 108 12)) (.cons (.ret (.tup [(.lo 5 109 16),(.lo 2 109 19),(.lo 7 109 22)]))<| .nil) .nil ⟨108,4,109,24⟩)<| .cons (.ite (.eq (.lo 3 110 7) (.nt 3 110 12)) (.cons (.ret (.tup [(.lo 5 111 16),(.lo 6 111 19),(.lo 2 111 22)]))<| .nil) .nil ⟨110,4,111,24⟩)<| .cons (.ite (.eq (.lo 3 112 7) (.nt 4 112 12)) (.cons (.ret (.tup [(.lo 7 113 16),(.lo 5 113 19),(.lo 2 113 22)]))<| .nil) .nil ⟨112,4,113,24⟩)<| .cons (.ite (.eq (.lo 3 114 7) (.nt 5 114 12)) (.cons (.ret (.tup [(.lo 2 115 16),(.lo 5 115 19),(.lo 6 115 22)]))<| .nil) .nil ⟨114,4,115,24⟩)<| .nil
noncomputable abbrev F0:UInt64:=0x0000000000000000
noncomputable abbrev Fh:UInt64:=0x3fe0000000000000
noncomputable abbrev F1:UInt64:=0x3ff0000000000000
noncomputable abbrev F2:UInt64:=0x4000000000000000
noncomputable abbrev F4:UInt64:=0x4010000000000000
noncomputable abbrev F6:UInt64:=0x4018000000000000
noncomputable def oS(a b:UInt64):Bool:=Float64.cmp a b==some .eq
noncomputable def RD(a b:UInt64):Bool:=Float64.cmp a b==some .lt||Float64.cmp a b==some .eq
noncomputable abbrev T3:=UInt64×UInt64×UInt64
noncomputable def oU(x:T3):AV:= .tup [.aI x.1,.aI x.2.1,.aI x.2.2]
noncomputable def a6(k:Int)(f s v:UInt64):T3:=
 let p:=mul v (Float64.sub F1 s)
 let q:=mul v (Float64.sub F1 (mul s f))
 let t:=mul v (Float64.sub F1 (mul s (Float64.sub F1 f)))
 cond (k==0) (v,t,p)<|cond (k==1) (q,v,p)<|cond (k==2) (p,v,t)<|cond (k==3) (p,q,v)<|cond (k==4) (t,p,v) (v,p,q)
noncomputable def lO(h:UInt64):Int:=bD (mul h F6)
noncomputable def qP(h:UInt64):UInt64:=Float64.sub (mul h F6) (ofInt (lO h))
noncomputable def gp(h s v:UInt64):T3:=a6 ((lO h).fmod 6) (qP h) s v
noncomputable def gF(r g b B7 range:UInt64):UInt64:=
 let rc:=div (Float64.sub B7 r) range
 let gc:=div (Float64.sub B7 g) range
 let bc:=div (Float64.sub B7 b) range
 let h:=cond (oS r B7) (Float64.sub bc gc)<|cond (oS g B7) (Float64.sub (add F2 rc) bc) (Float64.sub (add F4 gc) rc)
 (divmod (div h F6) F1).2
noncomputable def mx(x:T3):UInt64:=k_ Float64.gt x.1 x.2.1 x.2.2
noncomputable def mn(x:T3):UInt64:=k_ Float64.lt x.1 x.2.1 x.2.2
noncomputable def nF(x:T3):T3:=(gF x.1 x.2.1 x.2.2 (mx x) (Float64.sub (mx x) (mn x)),div (Float64.sub (mx x) (mn x)) (mx x),mx x)
noncomputable def vu(x:T3):UInt64:=cond (RD (div (add (mx x) (mn x)) F2) Fh) (div (Float64.sub (mx x) (mn x)) (add (mx x) (mn x))) (div (Float64.sub (mx x) (mn x)) (Float64.sub (Float64.sub F2 (mx x)) (mn x)))
noncomputable def nG(x:T3):T3:=(gF x.1 x.2.1 x.2.2 (mx x) (Float64.sub (mx x) (mn x)),div (add (mx x) (mn x)) F2,vu x)
theorem GB:isZero F6=false:=by decide+kernel
theorem GC:isZero F1=false:=by decide+kernel
theorem Xb:isZero F2=false:=by decide+kernel
theorem vw{r g b m d:UInt64}(h:oS r m=true):gF r g b m d=(divmod (div (Float64.sub (div (Float64.sub m b) d) (div (Float64.sub m g) d)) F6) F1).2:=by unfold gF;rw[h];rfl
theorem vy{r g b m d:UInt64}(h:oS r m=false)(h2:oS g m=true):gF r g b m d=(divmod (div (Float64.sub (add F2 (div (Float64.sub m r) d)) (div (Float64.sub m b) d)) F6) F1).2:=by unfold gF;rw[h,h2];rfl
theorem vz{r g b m d:UInt64}(h:oS r m=false)(h2:oS g m=false):gF r g b m d=(divmod (div (Float64.sub (add F4 (div (Float64.sub m g) d)) (div (Float64.sub m r) d)) F6) F1).2:=by unfold gF;rw[h,h2];rfl
theorem B8{x:T3}(h:RD (div (add (mx x) (mn x)) F2) Fh=true):vu x=div (Float64.sub (mx x) (mn x)) (add (mx x) (mn x)):=by unfold vu;rw[h];rfl
theorem B_{x:T3}(h:RD (div (add (mx x) (mn x)) F2) Fh=false):vu x=div (Float64.sub (mx x) (mn x)) (Float64.sub (Float64.sub F2 (mx x)) (mn x)):=by unfold vu;rw[h];rfl
theorem Lv{x:T3}{z:UInt64}(h:gF x.1 x.2.1 x.2.2 (mx x) (Float64.sub (mx x) (mn x))=z):RV.v (oU (z,div (Float64.sub (mx x) (mn x)) (mx x),mx x))= .v (oU (nF x)):=by subst h;rfl
theorem y_{x:T3}{z w:UInt64}(h:gF x.1 x.2.1 x.2.2 (mx x) (Float64.sub (mx x) (mn x))=z)(h2:vu x=w):RV.v (oU (z,div (add (mx x) (mn x)) F2,w))= .v (oU (nG x)):=by subst h;subst h2;rfl
theorem Xc(i:Int)(h0:(i.fmod 6==0)=false)(h1:(i.fmod 6==1)=false)(h2:(i.fmod 6==2)=false)(h3:(i.fmod 6==3)=false)(h4:(i.fmod 6==4)=false):(i.fmod 6==5)=true:=by
 have a:=abn i (b:=6) (by decide)
 have b:=Int.fmod_lt_of_pos i (b:=6) (by decide)
 have e0:=aai h0
 have e1:=aai h1
 have e2:=aai h2
 have e3:=aai h3
 have e4:=aai h4
 exact ZE.mpr (by omega)
section
variable {k:Int}{f s v:UInt64}
theorem GD(e0:(k==0)=true):a6 k f s v=(v,mul v (Float64.sub F1 (mul s (Float64.sub F1 f))),mul v (Float64.sub F1 s)):=by unfold a6;rw[e0];rfl
theorem GE(e0:(k==0)=false)(e1:(k==1)=true):a6 k f s v=(mul v (Float64.sub F1 (mul s f)),v,mul v (Float64.sub F1 s)):=by unfold a6;rw[e0,e1];rfl
theorem GF(e0:(k==0)=false)(e1:(k==1)=false)(e2:(k==2)=true):a6 k f s v=(mul v (Float64.sub F1 s),v,mul v (Float64.sub F1 (mul s (Float64.sub F1 f)))):=by unfold a6;rw[e0,e1,e2];rfl
theorem GG(e0:(k==0)=false)(e1:(k==1)=false)(e2:(k==2)=false)(e3:(k==3)=true):a6 k f s v=(mul v (Float64.sub F1 s),mul v (Float64.sub F1 (mul s f)),v):=by unfold a6;rw[e0,e1,e2,e3];rfl
theorem GH(e0:(k==0)=false)(e1:(k==1)=false)(e2:(k==2)=false)(e3:(k==3)=false)(e4:(k==4)=true):a6 k f s v=(mul v (Float64.sub F1 (mul s (Float64.sub F1 f))),mul v (Float64.sub F1 s),v):=by unfold a6;rw[e0,e1,e2,e3,e4];rfl
theorem GI(e0:(k==0)=false)(e1:(k==1)=false)(e2:(k==2)=false)(e3:(k==3)=false)(e4:(k==4)=false):a6 k f s v=(v,mul v (Float64.sub F1 s),mul v (Float64.sub F1 (mul s f))):=by unfold a6;rw[e0,e1,e2,e3,e4];rfl
theorem pT{z:T3}(h:a6 k f s v=z):RV.v (oU z)= .v (oU (a6 k f s v)):=by rw[h]
end
section
variable {y:Lay}{g:Gd}
noncomputable abbrev bY(h:UInt64):=mul h 4618441417868443648
noncomputable abbrev xA(h:UInt64):=Float64.sub (bY h) (ofInt (bD (bY h)))
noncomputable abbrev iz(v:UInt64)(s:UInt64):=mul v (Float64.sub 4607182418800017408 s)
noncomputable abbrev qQ(v:UInt64)(s:UInt64)(h:UInt64):=mul v (Float64.sub 4607182418800017408 (mul s (Float64.sub 4607182418800017408 (xA h))))
noncomputable abbrev qR(v:UInt64)(s:UInt64)(h:UInt64):=mul v (Float64.sub 4607182418800017408 (mul s (xA h)))
theorem oV(X:cH y g)(hn:9≤g.n){h s v:UInt64}(h1:(Float64.cmp s F0==some .eq)=false)
  (h2:isFinite (mul h F6)=true) (h3:isInf (ofInt (lO h))=false):Fn g (.v (.val (.ref (y.ad 9)))) [.v (.aI h),.v (.aI s),.v (.aI v)] [] [] [] (.v (oU (gp h s v))) []:=by
 refine iN X hn (X.fn 9 "hsv_to_rgb" (by decide)) (Vr y) (Xa y) (.b false<| .a<| .sp .nil<| .a<| .sp .nil<| .a<| .sp .nil<| .a<| .sp .nil<| .a<| .sp .nil<| .a<| .b true .nil) (by intros;kernel_rfl!) (fun g' b=>?_)
 refine aR (P:=(Float64.cmp s 0==some Ordering.eq)=false∧isFinite (bY h)=true∧isInf (ofInt (bD (bY h)))=false∧((fmod (bD (bY h)) ((6:Nat):Int)==(0:Int))=true→VI (.tup [.aI v,.aI (qQ v s h),.aI (iz v s)]) (oU (gp h s v))∧rf ([]:Os))∧((fmod (bD (bY h)) ((6:Nat):Int)==(0:Int))=false→((fmod (bD (bY h)) ((6:Nat):Int)==(1:Int))=true→VI (.tup [.aI (qR v s h),.aI v,.aI (iz v s)]) (oU (gp h s v))∧rf ([]:Os))∧((fmod (bD (bY h)) ((6:Nat):Int)==(1:Int))=false→((fmod (bD (bY h)) ((6:Nat):Int)==(2:Int))=true→VI (.tup [.aI (iz v s),.aI v,.aI (qQ v s h)]) (oU (gp h s v))∧rf ([]:Os))∧((fmod (bD (bY h)) ((6:Nat):Int)==(2:Int))=false→((fmod (bD (bY h)) ((6:Nat):Int)==(3:Int))=true→VI (.tup [.aI (iz v s),.aI (qR v s h),.aI v]) (oU (gp h s v))∧rf ([]:Os))∧((fmod (bD (bY h)) ((6:Nat):Int)==(3:Int))=false→((fmod (bD (bY h)) ((6:Nat):Int)==(4:Int))=true→VI (.tup [.aI (qQ v s h),.aI (iz v s),.aI v]) (oU (gp h s v))∧rf ([]:Os))∧((fmod (bD (bY h)) ((6:Nat):Int)==(4:Int))=false→(fmod (bD (bY h)) ((6:Nat):Int)==5)=true∧VI (.tup [.aI v,.aI (iz v s),.aI (qR v s h)]) (oU (gp h s v))∧rf ([]:Os)))))))
  ⟨h1,h2,h3,fun e0=> ⟨pT (GD e0),rfl⟩,fun e0=> ⟨fun e1=> ⟨pT (GE e0 e1),rfl⟩,fun e1=> ⟨fun e2=> ⟨pT (GF e0 e1 e2),rfl⟩,fun e2=> ⟨fun e3=> ⟨pT (GG e0 e1 e2 e3),rfl⟩,fun e3=> ⟨fun e4=> ⟨pT (GH e0 e1 e2 e3 e4),rfl⟩,fun e4=> ⟨Xc _ e0 e1 e2 e3 e4,pT (GI e0 e1 e2 e3 e4),rfl⟩⟩⟩⟩⟩⟩ (by kernel_rfl!)
theorem oX(X:cH y g)(hn:9≤g.n){x:T3}(h1:oS (mn x) (mx x)=false)
  (h2:isZero (mx x)=false) (h3:isZero (Float64.sub (mx x) (mn x))=false):Fn g (.v (.val (.ref (y.ad 8)))) [.v (.aI x.1),.v (.aI x.2.1),.v (.aI x.2.2)] [] [] [] (.v (oU (nF x))) []:=by
 refine iN X hn (X.fn 8 "rgb_to_hsv" (by decide)) (Vq y) (W_ y) (.b false<| .sp .nil<| .sp .nil .nil) (by intros;kernel_rfl!) (fun g' b=>?_)
 refine aR (P:=_∧_∧_∧_∧_∧((Float64.cmp x.1 (mx x)==some Ordering.eq)=true→_∧_∧_∧rf ([]:Os))∧((Float64.cmp x.1 (mx x)==some Ordering.eq)=false→((Float64.cmp x.2.1 (mx x)==some Ordering.eq)=true→_∧_∧_∧rf ([]:Os))∧((Float64.cmp x.2.1 (mx x)==some Ordering.eq)=false→_∧_∧_∧rf ([]:Os))))
  ⟨h1,h2,h3,h3,h3,fun e=> ⟨GB,GC,Lv (vw e),rfl⟩,fun e=> ⟨fun e2=> ⟨GB,GC,Lv (vy e e2),rfl⟩,fun e2=> ⟨GB,GC,Lv (vz e e2),rfl⟩⟩⟩ (by kernel_rfl!)
noncomputable abbrev xC(x:T3):=div (add (mx x) (mn x)) 4611686018427387904
noncomputable abbrev xD(x:T3):=match Float64.cmp (xC x) 4602678819172646912==some Ordering.lt with | true=>true | false=>Float64.cmp (xC x) 4602678819172646912==some Ordering.eq
noncomputable abbrev l9(x:T3):=Float64.cmp x.2.1 (mx x)==some Ordering.eq
noncomputable abbrev l_(x:T3):=Float64.cmp x.1 (mx x)==some Ordering.eq
theorem oY(X:cH y g)(hn:9≤g.n){x:T3}(h1:oS (mn x) (mx x)=false)
  (h2:isZero (add (mx x) (mn x))=false) (h4:isZero (Float64.sub (Float64.sub F2 (mx x)) (mn x))=false) (h3:isZero (Float64.sub (mx x) (mn x))=false):Fn g (.v (.val (.ref (y.ad 7)))) [.v (.aI x.1),.v (.aI x.2.1),.v (.aI x.2.2)] [] [] [] (.v (oU (nG x))) []:=by
 refine iN X hn (X.fn 7 "rgb_to_hls" (by decide)) (Vp y) (W9 y) (.b false<| .sp (.sp .nil<| .sp .nil .nil) (.sp .nil<| .sp .nil .nil)) (by intros;kernel_rfl!) (fun g' b=>?_)
 refine aR (P:=_∧_∧((xD x)=true→_∧_∧_∧_∧((l_ x)=true→_∧_∧_∧rf ([]:Os))∧((l_ x)=false→((l9 x)=true→_∧_∧_∧rf ([]:Os))∧((l9 x)=false→_∧_∧_∧rf ([]:Os))))∧((xD x)=false→_∧_∧_∧_∧((l_ x)=true→_∧_∧_∧rf ([]:Os))∧((l_ x)=false→((l9 x)=true→_∧_∧_∧rf ([]:Os))∧((l9 x)=false→_∧_∧_∧rf ([]:Os)))))
  ⟨Xb,h1,fun l=> ⟨h2,h3,h3,h3,fun e=> ⟨GB,GC,y_ (vw e) (B8 l),rfl⟩,fun e=> ⟨fun e2=> ⟨GB,GC,y_ (vy e e2) (B8 l),rfl⟩,fun e2=> ⟨GB,GC,y_ (vz e e2) (B8 l),rfl⟩⟩⟩,
  fun l=> ⟨h4,h3,h3,h3,fun e=> ⟨GB,GC,y_ (vw e) (B_ l),rfl⟩,fun e=> ⟨fun e2=> ⟨GB,GC,y_ (vy e e2) (B_ l),rfl⟩,fun e2=> ⟨GB,GC,y_ (vz e e2) (B_ l),rfl⟩⟩⟩⟩ (by kernel_rfl!)
end
end
end
section
section
section
variable {α:Type}
theorem f6{key:α→Int}:∀ {l:List α},l.Pairwise (fun a b=>key a≤key b)→∀(t:Int) (j:Nat) (y:α),l[j]? =some y→decide (key y<t)=decide (j<l.countP (fun z=>decide (key z<t)))
 | [],_,_,j,y,h=>by simp at h
 | a::l,hs,t,j,y,h=>by
  rw[aaW] at hs
  by_cases ha:key a<t
  ·rw[List.countP_cons_of_pos (by simpa using ha)]
   cases j with
   | zero=>simp at h;subst h;simp[ha]
   | succ j=>rw[f6 hs.2 t j y (by simpa using h)];simp
  ·rw[List.countP_cons_of_neg (by simpa using ha)]
   have h0:l.countP (fun z=>decide (key z<t))=0:=by
    rw[abL]
    intro z hz
    have:=hs.1 z hz
    simp;omega
   rw[h0]
   cases j with
   | zero=>simp at h;subst h;simp;omega
   | succ j=>
    have:=hs.1 y (YC (by simpa using h))
    simp;omega
theorem kL{key:α→Int}:∀ {l:List α},l.Pairwise (fun a b=>key a≤key b)→∀(t:Int) (j:Nat) (y:α),l[j]? =some y→decide (t<key y)=decide (l.countP (fun z=>decide (key z≤t))≤j)
 | [],_,_,j,y,h=>by simp at h
 | a::l,hs,t,j,y,h=>by
  rw[aaW] at hs
  by_cases ha:key a≤t
  ·rw[List.countP_cons_of_pos (by simpa using ha)]
   cases j with
   | zero=>simp at h;subst h;simp;omega
   | succ j=>rw[kL hs.2 t j y (by simpa using h)];simp
  ·rw[List.countP_cons_of_neg (by simpa using ha)]
   have h0:l.countP (fun z=>decide (key z≤t))=0:=by
    rw[abL]
    intro z hz
    have:=hs.1 z hz
    simp;omega
   rw[h0]
   cases j with
   | zero=>simp at h;subst h;simp;omega
   | succ j=>
    have:=hs.1 y (YC (by simpa using h))
    simp;omega
noncomputable def fk(key:α→Int)(l:List α)(x:α):List α:=l.take (l.countP fun y=>decide (key y<key x))++x::l.drop (l.countP fun y=>decide (key y<key x))
theorem ln{key:α→Int}{l:List α}(hs:l.Pairwise (fun a b=>key a≤key b))(x:α):(fk key l x).Pairwise (fun a b=>key a≤key b):=by
 have h1:∀y∈l.take (l.countP fun y=>decide (key y<key x)),key y<key x:=by
  intro y hy
  obtain⟨j,hj⟩:=Y7.mp hy
  rw[List.getElem?_take] at hj
  split at hj
  ·have:=f6 hs (key x) j y hj
   rename_i h
   simpa [h] using this
  ·cases hj
 have h2:∀y∈l.drop (l.countP fun y=>decide (key y<key x)),key x≤key y:=by
  intro y hy
  obtain⟨j,hj⟩:=Y7.mp hy
  rw[abP] at hj
  have:=f6 hs (key x) _ y hj
  rw[YO] at this
  omega
 unfold fk
 rw[List.pairwise_append]
 refine⟨hs.sublist (List.take_sublist ..),?_,?_⟩
 ·rw[aaW]
  exact⟨h2,hs.sublist (List.drop_sublist ..)⟩
 ·intro a ha b hb
  have h3:=h1 a ha
  rcases V1.mp hb with rfl | hb
  ·omega
  ·have:=h2 b hb;omega
theorem lu(key:α→Int)(l:List α)(x:α):(fk key l x).length=l.length+1:=by
 unfold fk
 have:(l.countP fun y=>decide (key y<key x))≤l.length:=aax
 simp;omega
theorem tz{key:α→Int}{l:List α}{x y:α}(h:y∈fk key l x):y=x∨y∈l:=by
 unfold fk at h
 rw[YZ,V1] at h
 rcases h with h | h | h
 ·exact .inr (aaD h)
 ·exact .inl h
 ·exact .inr (Z6 h)
end
noncomputable def ch(c:Nat):Str:=⟨#[c]⟩
noncomputable def az(c:Nat):Nat:=if c<97 then c+32 else c
noncomputable def six:List Nat:=[97,65,98,66,99,67,100,68,101,69]
theorem d8{c:Nat}(h:c∈six):PySem.Txt.lower (ch c)=ch (az c):=by
 have:(six.all fun c=>PySem.Txt.lower (ch c)==ch (az c))=true:=by decide+kernel
 simpa using Jb.mp this c h
theorem tA{c:Nat}(h:c∈six):bN (ch c)=true:=by
 have:(six.all fun c=>bN (ch c))=true:=by decide+kernel
 exact Jb.mp this c h
theorem vA(a b:Nat):(ch a==ch b)=decide (a=b):=by
 by_cases h:a=b
 ·subst h;simp
 ·have:ch a≠ch b:=by
   intro e
   have:=E5 Str.cps e
   simp[ch] at this
   exact h this
  simp[h,this]
noncomputable def iO(lv:List Nat)(s:Nat):Int:=az (lv.getD s 0)
noncomputable def d9(lv:List Nat)(i:Nat):List Nat:=(List.range i).foldl (fk (iO lv)) []
theorem f8(lv:List Nat)(i:Nat):d9 lv (i+1)=fk (iO lv) (d9 lv i) i:=by
 unfold d9
 rw[aaj,aar]
 rfl
theorem lx(lv:List Nat):∀i,(d9 lv i).Pairwise fun a b=>iO lv a≤iO lv b
 | 0=>List.Pairwise.nil
 | i+1=>by rw[f8];exact ln (lx lv i) i
theorem c_(lv:List Nat):∀i,(d9 lv i).length=i
 | 0=>rfl
 | i+1=>by rw[f8,lu,c_ lv i]
theorem qS(lv:List Nat):∀i,∀y∈d9 lv i,y<i
 | 0,y,h=>by simp[d9] at h
 | i+1,y,h=>by
  rw[f8] at h
  rcases tz h with rfl | h
  ·omega
  ·have:=qS lv i y h;omega
theorem PN(a b:Nat):decide ((ch a).cps.toList<(ch b).cps.toList)=decide ((a:Int)<(b:Int)):=by
 have:((ch a).cps.toList<(ch b).cps.toList)↔a<b:=by
  show([a]< [b])↔_
  rw[List.cons_lt_cons_iff];simp
 by_cases h:a<b
 ·rw[U5 (this.mpr h),U5 (by omega)]
 ·rw[U4 (fun x=>h (this.mp x)),U4 (by omega)]
noncomputable def af(l:List Nat):List AV:=l.map fun s:Nat=> .int s
theorem vB(key:Nat→Int)(l:List Nat)(x:Nat):af (fk key l x)=(af l).take (l.countP fun y=>decide (key y<key x))++ .int x::(af l).drop (l.countP fun y=>decide (key y<key x)):=by
 unfold af fk
 simp[aaH,aaI]
theorem xE{c:Nat}(h:c∈six):az c∈six:=by
 have:(six.all fun c=>decide (az c∈six))=true:=by decide
 exact U9 (Jb.mp this c h)
noncomputable def Vt(lv:List Nat)(z:AV):AV:= .str (ch (az (lv.getD (dC z).toNat 0)))
noncomputable def cV(lv:List Nat):List AV:=lv.map fun c=> .str (ch c)
theorem tB(l:List AV)(i:Nat):(cA l)[i]? =(l[i]?).map fun x=> .tup [.int (i:Nat),x]:=by
 rw[cA,V9,abC,Zw]
 cases l[i]? <;> rfl
theorem B'{α:Type}{f:α→AV}{l:List α}{i:Nat}(h:(cA (l.map f))[i]? =some y):∃c,l[i]? =some c∧y= .tup [.int (i:Nat),f c]:=by
 rw[tB,V9] at h
 cases hc:l[i]? with
 | none=>rw[hc] at h;cases h
 | some c=>rw[hc] at h;cases h;exact⟨c,rfl,rfl⟩
theorem tC(h:y∈cA l):∃(k:Nat) (c:AV),y= .tup [.int k,c]∧l[k]? =some c:=by
 obtain⟨i,hi⟩:=Y7.mp h
 rw[tB] at hi
 cases hc:l[i]? with
 | none=>rw[hc] at hi;cases hi
 | some c=>rw[hc] at hi;cases hi;exact⟨i,c,rfl,hc⟩
theorem eJ{α:Type}{l:List α}{i:Nat}{c d:α}(h:l[i]? =some c):l.getD i d=c:=by rw[U3,h];rfl
theorem Ca(n:Nat):(rangeSize 0 n 1).toNat=n:=by
 unfold rangeSize
 simp
 split <;> omega
theorem fC{n:Nat}:(aJ 0 n 1).length=n:=(gY ..).trans (Ca n)
theorem dm{n i:Nat}(h:(aJ 0 n 1)[i]? =some y):i<n∧y= .int i:=by
 have hi:=(V7.mp h).1
 rw[fC] at hi
 unfold aJ at h
 rw[V9,Ca,ZH hi] at h
 cases h
 exact⟨hi,E5 AV.int ((Int.zero_add _).trans (mul_one _))⟩
theorem pU{n:Nat}(h:n≤1048576):Builtin.Range.small 0 n 1=true:=by
 unfold Builtin.Range.small Builtin.Range.rangeFitsLong rangeSize
 have h1:(if(0:Int)<(n:Int) then((n:Int) - 0 - 1) / 1+1 else 0)=n:=by split <;> omega
 simp only[show(1:Int) > 0 by decide,ab1,h1,YL,Bool.or_eq_true,aaq]
 refine⟨⟨⟨⟨⟨?_,?_⟩,⟨?_,?_⟩⟩,⟨?_,?_⟩⟩,⟨?_,?_⟩⟩,.inr ⟨?_,?_⟩⟩ <;> omega
end
end
section
section
noncomputable def RE(y:Lay):Cx:=Jh y [("passed",.cell),("order",.local),("place",.local)] [("passed",.cell,10)] [1,0,14] true [(y.lp 75,"_law_order.<locals>.<lambda>")]
noncomputable def Jq(y:Lay):Cx:=cx y ["spot"] [("passed",.free,10)] [] false
noncomputable def Cb(y:Lay)(g:Gd):SE ⟨Jq y,g⟩:=(.Ph (.get (.cc 0 (q 304 51 57)) (.loc 0 (q 304 58 62)) (q 304 51 63)) .lower (q 304 51 69) [] (q 304 51 71))
noncomputable def Cc(y:Lay)(g:Gd):TG ⟨RE y,g⟩:=(.n (.loc 1) 303 8)
noncomputable def Cd(y:Lay)(g:Gd):SB ⟨RE y,g⟩:=(.cons (.exp (.Jg 14 (q 304 8 19) [(.lo 0 304 20),(.lo 1 304 27)] "key" (.lam ⟨[],[⟨"spot",.none,(q 304 45 49)⟩],.none,[],[],.none,[]⟩ (Cb y g).e [("spot",.local),("passed",.free)] [] (q 304 38 71) fun O=>rfl) (q 304 34 71) (q 304 8 72)))<| .nil)
noncomputable def Xd(y:Lay)(g:Gd):SB ⟨RE y,g⟩:=(.cons (.BF (.loc 0) (q 302 4 9) (.new 30 [] (q 302 12 14)) (q 302 4 14))<|(.cons (.for (Cc y g) (.of (.cl 1 303 17 [(.cl 0 303 23 [(.ce 0 303 27)])])) (Cd y g) ⟨303,4,304,72⟩)<|(.Le 0<| .cons (.ret (.lo 0 305 11))<| .nil)))
section
variable {y:Lay}{g:Gd}{lv:List Nat}
noncomputable def GJ(y:Lay)(g:Gd):FI:=⟨"<lambda>",⟨[],[⟨"spot",.none,(q 304 45 49)⟩],.none,[],[],.none,[]⟩,.expr (Cb y g).e,⟨.function,[("spot",.local),("passed",.free)],false,false,[]⟩⟩
noncomputable def RG:Str:=Str.ofString "_law_order.<locals>.<lambda>"
theorem PO(X:cH y g)(hn:9≤g.n)(dc:lv.length=10)(qT:∀c∈lv,c∈six)(g0:Gd)(s:Nat)(hs:s<lv.length):Fn g (.f (GJ y g0) RG [("passed",10)]) [.v (.int s)] [] [] [(10,.cell (some (.v (.lst (cV lv)))))] (.v (.str (ch (az (lv.getD s 0))))) [(10,.cell (some (.v (.lst (cV lv)))))]:=by
 refine Lm hn X.nb (Jq y) X.gx (Cb y) (.v (.str (ch (lv.getD s 0))) .nil) (more:=[]) (fun O=>rfl) rfl (fun v fR doc pm an eg ct=>by kernel_rfl!) (by kernel_rfl!) rfl fun g' b=>?_
 have hm:lv.getD s 0∈six:=by rw[U3,U6 hs];exact qT _ (Zm hs)
 refine aR (P:=SL (cV lv)∧AG (cV lv) ↑s (.str (ch (List.getD lv s 0)))∧Str.length (ch (List.getD lv s 0))≤5592405∧VI (.str (Txt.lower (ch (List.getD lv s 0)))) (.str (ch (az (List.getD lv s 0))))∧rf (filter (fun(p:Nat×EO)=>List.any [(10,EO.cell (some (.v (.lst (cV lv)))))] fun(Lw:Nat×EO)=>beq Lw.1 p.1) [(10,EO.cell (some (.v (.lst (cV lv)))))]))
  ⟨sz (ar (U8 dc)) rfl,aO 0 hs,E1 rfl,E5 (fun x=>RV.v (.str x)) (d8 hm),rfl⟩ (by kernel_rfl!)
noncomputable def Np:Vs:=[some (.r 30),none]
noncomputable def Nq(lv:List Nat)(i:Nat):Os:=[(30,.list (af (d9 lv i))),(10,.cell (some (.v (.lst (cV lv)))))]
noncomputable def TH(lv:List Nat)(i:Nat):Hint:= .call (.v .none) [(30,.list (af (d9 lv (i+1)))),(10,.cell .none)] .nil
theorem PP(X:cH y g)(hn:11≤g.n)(dc:lv.length=10)(qT:∀c∈lv,c∈six)(i:Nat)(hi:i<10)(g0:Gd):
  Fn g (.v (.val (.ref (y.ad 4)))) [.r 30,.v (.int i)] ["key"] [.f (GJ y g0) RG [("passed",10)]] [(30,.list (af (d9 lv i))),(10,.cell (some (.v (.lst (cV lv)))))] (.v .none) [(30,.list (af (d9 lv (i+1)))),(10,.cell (some (.v (.lst (cV lv)))))]:=by
 have ol:(af (d9 lv i)).length=i:=(E9 ..).trans (c_ lv i)
 have cl:=aax (p:=fun z=>decide (iO lv z<iO lv i)) (l:=d9 lv i)
 rw[c_] at cl
 have key:∀g',tj g g'→9≤g'.n→∀s:Nat,s<10→Fn g' (.f (GJ y g0) RG [("passed",1)]) [.v (.int s)] [] [] [(1,.cell (some (.v (.lst (cV lv)))))] (.v (Vt lv (.int s))) [(1,.cell (some (.v (.lst (cV lv)))))]:=fun g' k hn s hs=>
  (PO (X.bS k) hn dc qT g0 s (by rw[dc];exact hs)).kH (fun O=>1) rfl rfl
 have mem:∀(j:Nat) (z:AV),(af (d9 lv i))[j]? =some z→∃s:Nat,(d9 lv i)[j]? =some s∧s<i∧z= .int s:=fun j z hz=>by
  rw[af,V9] at hz
  cases hs:(d9 lv i)[j]? with
  | none=>rw[hs] at hz;cases hz
  | some s=>rw[hs] at hz;cases hz;exact⟨s,rfl,qS lv i s (YC hs),rfl⟩
 have Z:y9 g (af (d9 lv i)) (.f (GJ y g0) RG [("passed",1)]) [(1,.cell (some (.v (.lst (cV lv)))))] (Vt lv) (fun j=>decide (j<(d9 lv i).countP fun z=>decide (iO lv z<iO lv i))) 0 (af (d9 lv i)).length ((d9 lv i).countP fun z=>decide (iO lv z<iO lv i)):=
  ⟨Y8 _,by rw[ol];exact cl,E8 _,by rw[ol];exact E4 (Yy hi) (by decide),fun O O O=>rfl,fun g' k hn j z hz=>by
   obtain⟨s,_,hs,rfl⟩:=mem j z hz
   exact key g' k hn s (YB hs hi)⟩
 have:=(GA X hn Z (x:= .int i) (fun g' k hn=>key g' k hn i hi) (fun j z hz=>by
  obtain⟨s,hj,hs,rfl⟩:=mem j z hz
  exact .inr ⟨_,_,rfl,rfl,(PN _ _).trans (f6 (lx lv i) (iO lv i) j s hj)⟩)).kH (fun k=>cond (beq k 0) 30 10) rfl rfl
 rw[← vB,← f8] at this
 exact this
theorem Ce(X:cH y g)(hn:11≤g.n)(dc:lv.length=10)(qT:∀c∈lv,c∈six)(i:Nat)(hi:i<10)(R:RV→S→Prop):
  (Cc y g).set (.v (.int i)) ⟨Np,Nq lv i,TH lv i⟩ fun s2=> (Cd y g).ex s2 fun f s3=>bF f (True∧av s3 Np (Nq lv (i+1))) False fun v=>R v s3:=by
 refine aR (P:=_∧True∧EE (Np) (Nq lv (i+1)))
  ⟨PP X hn dc qT i hi g,trivial,rfl⟩ (by kernel_rfl!)
theorem Cf(X:cH y g)(hn:12≤g.n)(dc:lv.length=10)(qT:∀c∈lv,c∈six):
  Fn g (.v (.val (.ref (y.ad 75)))) [.v (.lst (cV lv))] [] [] [] (.v (.lst (af (d9 lv 10)))) []:=by
 refine jQ (Zg (k:=3) hn) X.nb (X.fn 75 "_law_order" (by decide)) (RE y) X.gx (Xd y) [.v (.lst (cV lv))] 10
  (.loop (fun O=>True) (fun O=>Np) (Nq lv) (fun i O=>TH lv i) .nil)
  (more:=(rQ 75).scope.more) (fun O=>by kernel_rfl!) (by kernel_rfl!) rfl
  (fun ρ bd F s vs kvs doc pm an eg ct O hv gN=>sj hv gN fun vs hl=>by
   obtain⟨_,rfl⟩:=Gp hl
   exact BindsTo.of_eq (by kernel_rfl!)) (by kernel_rfl!) (fun O=>by kernel_rfl!) (fun p hp=>?_) (fun g' b=>?_)
 ·cases hp with
  | head=>exact X.RA
  | tail _ h=>cases h
 ·have X':=X.bS b.bS
  have el:(cV lv).length=10:=(E9 ..).trans dc
  refine aR (P:=length (cV lv)≤sizeLine∧Builtin.Range.small 0 (↑(length (cV lv)):Int) 1=true∧(True∧av (.mk ([some (.r 30),none]) ([(30,EO.list []),(10,EO.cell (head? [RV.v (.lst (cV lv))]))]) .nil) ((fun(x:Nat)=>Np) 0) (Nq lv 0))∧(bg (Cc y g') (Cd y g') (aJ 0 (↑(length (cV lv)):Int) 1) (fun(x:Nat)=>True) (fun(x:Nat)=>Np) (Nq lv) (fun(i:Nat) (x:AV)=>TH lv i) fun(v:RV) (s3:S)=>dH (RF.ret v) s3 (AV.lst (af (d9 lv 10))) [])∧(True→RV.v (.lst (af (d9 lv (length (aJ 0 (↑(length (cV lv)):Int) 1)))))= .v (.lst (af (d9 lv 10)))∧([]:Os)=[])) ?_ (by kernel_rfl!)
  rw[el]
  refine⟨E1 rfl,pU (n:=10) (by decide),⟨trivial,rfl⟩,fun i z hz O=>?_,fun O=> ⟨by rw[show(aJ 0 ((10:Nat):Int) 1).length=10 from fC],rfl⟩⟩
  obtain⟨hi,rfl⟩:=dm (n:=10) hz
  exact Ce X' (by rw[b.n];exact YY hn) dc qT i hi _
end
end
end
section
section
noncomputable def RH(y:Lay):Cx:=cx y ["passed","x","hues","place","name","hue","letter","share","value","red","green","blue","told","light","full","fine"] [] [9,18,17,16,7] true
noncomputable def tD(y:Lay)(g:Gd):TG ⟨RH y,g⟩:=(.K8 [(.n (.loc 3) 292 8),(.n (.loc 4) 292 15)])
noncomputable def xF(y:Lay)(g:Gd):SB ⟨RH y,g⟩:=(.cons (.BG (.loc 5) (.loc 6) (q 293 8 11) (q 293 13 19) 0 (q 293 8 19) [(.of (.told (.add (.md (.lo 1 293 23) 64 27) (.mul (.lo 3 293 32) (.add (.nt 1 293 41) (.md (.dv (.lo 1 293 45) 64 50) 6 55)) (q 293 32 57))))),(.of (.mt (.st "abcde" 293 59) .index [(.mt (.lo 4 293 73) .lower [])]))] 0 (q 293 22 87) (q 293 8 87) (by kernel_rfl!))<|(.cons (.BG (.loc 7) (.loc 8) (q 294 8 13) (q 294 15 20) 0 (q 294 8 20) [(.of (.told (.add (.nt 1 294 24) (.y5 (.add (.tt (.lo 1 294 29) 384 0 (q 294 34 37) (q 294 29 37)) (.lo 6 294 40)) 4 0 (q 294 50 51) (q 294 28 51))))),(.of (.told (.add (.nt 1 294 53) (.y5 (.add (.tt (.lo 1 294 58) 1536 0 (q 294 63 67) (q 294 58 67)) (.mul (.nt 2 294 70) (.lo 6 294 74))) 4 0 (q 294 84 85) (q 294 57 85)))))] 0 (q 294 23 86) (q 294 8 86) (by kernel_rfl!))<|(.cons (.Vd [(.n (.loc 9) 295 8),(.n (.loc 10) 295 13),(.n (.loc 11) 295 20)] 0 (q 295 8 24) (.cl 18 295 27 [(.add (.bC (.lo 5 295 38) (.nt 64 295 44)) (.told (.md (.tt (.lo 1 295 49) 6144 0 (q 295 54 58) (q 295 49 58)) 3 61))),(.bC (.lo 7 295 64) (.nt 4 295 72)),(.bC (.lo 8 295 75) (.nt 4 295 83))]) (q 295 8 85) (by kernel_rfl!))<|(.cons (.BG (.loc 12) (.loc 13) (q 296 8 12) (q 296 14 19) 0 (q 296 8 19) [(.of (.cl 17 296 23 [(.lo 9 296 34),(.lo 10 296 39),(.lo 11 296 46)])),(.of (.told (.mul (.lo 8 296 53) (.sub (.nt 8 296 62) (.lo 7 296 66)) (q 296 53 72))))] 0 (q 296 22 73) (q 296 8 73) (by kernel_rfl!))<|(.cons (.ag (.loc 14) 297 8 (.yR (.le (.lo 13 297 38) (.nt 16 297 47)) (.bC (.lo 7 297 15) (.sub (.nt 8 297 24) (.lo 7 297 28)) (q 297 15 34)) (.bC (.mul (.lo 8 297 55) (.lo 7 297 63)) (.sub (.nt 32 297 72) (.lo 13 297 77)) (q 297 55 83))))<|(.cons (.ag (.loc 15) 298 8 (.and (.PE (.lo 12 298 15) (.tup [(.bC (.told (.md (.lo 5 298 24) 64 30)) (.nt 64 298 35)),(.bC (.lo 7 298 39) (.nt 4 298 47)),(.bC (.lo 8 298 50) (.nt 4 298 58))])) [(.PE (.cl 16 298 65 [(.lo 9 298 76),(.lo 10 298 81),(.lo 11 298 88)]) (.tup [(.bC (.told (.md (.lo 5 298 98) 64 104)) (.nt 64 298 109)),(.bC (.lo 13 298 113) (.nt 32 298 121)),(.lo 14 298 125)]))]))<|(.cons (.exp (.mt (.lo 2 299 8) .append [(.yR (.lo 15 299 41) (.told (.cl 7 299 20 [(.mul (.get (.lo 12 299 24) (.nt 0 299 29)) (.nt 64 299 34))])) (.neg (.nt 1 299 52)))]))<| .nil)))))))
noncomputable def Xe(y:Lay)(g:Gd):SB ⟨RH y,g⟩:=(.cons (.BF (.loc 2) (q 291 4 8) (.new 30 [] (q 291 11 13)) (q 291 4 13))<|(.cons (.for (tD y g) (.enum 9 (q 292 23 32) (.lo 0 292 33) (q 292 23 40)) (xF y g) ⟨292,4,299,54⟩)<|(.Le 2<| .cons (.ret (.lo 2 300 11))<| .nil)))
noncomputable def gG(bI aj:Nat):UInt64:=cond (ble (aj*(8 - bI)) 16) (bC bI (8 - bI)) (bC (aj*bI) (32 - aj*(8 - bI)))
structure Cg(k:Int)(f:UInt64)(bO bI aj:Nat):Prop where
 ne:oS (mn (a6 k f (bC bI 4) (bC aj 4))) (mx (a6 k f (bC bI 4) (bC aj 4)))=false
 z1:isZero (mx (a6 k f (bC bI 4) (bC aj 4)))=false
 z2:isZero (Float64.sub (mx (a6 k f (bC bI 4) (bC aj 4))) (mn (a6 k f (bC bI 4) (bC aj 4))))=false
 z3:isZero (add (mx (a6 k f (bC bI 4) (bC aj 4))) (mn (a6 k f (bC bI 4) (bC aj 4))))=false
 z4:isZero (Float64.sub (Float64.sub F2 (mx (a6 k f (bC bI 4) (bC aj 4)))) (mn (a6 k f (bC bI 4) (bC aj 4))))=false
 Ys:nF (a6 k f (bC bI 4) (bC aj 4))=(bC bO 64,bC bI 4,bC aj 4)
 Nh:nG (a6 k f (bC bI 4) (bC aj 4))=(bC bO 64,bC (aj*(8 - bI)) 32,gG bI aj)
noncomputable def oD(bO turn:Nat):UInt64:=add (bC bO 64) (ofInt (turn:Nat))
structure iA(bO turn:Nat):Prop where
 fin:isFinite (mul (oD bO turn) F6)=true
 inf:isInf (ofInt (lO (oD bO turn)))=false
 k:(lO (oD bO turn)).fmod 6=(lO (oD (bO % 64) 0)).fmod 6
 f:qP (oD bO turn)=qP (oD (bO % 64) 0)
structure jR:Prop where
 PQ:∀bO turn,bO<128→turn<3→iA bO turn
 col:∀bO bI aj,bO<64→(1≤bI∧bI≤4)→(1≤aj∧aj≤4)→Cg ((lO (oD bO 0)).fmod 6) (qP (oD bO 0)) bO bI aj
 PR:∀bO,bO<64→isFinite (mul (bC bO 64) (ofInt 64))=true
 PS:∀bO,bO<64→bD (mul (bC bO 64) (ofInt 64))=bO
theorem PT:isInf (ofInt 64)=false:=by decide+kernel
theorem Ci{t:Nat}(h:t<3):isInf (ofInt (t:Nat))=false:=by
 have:((List.range 3).all fun t:Nat=>!isInf (ofInt (t:Nat)))=true:=by decide+kernel
 exact(Y2 _).mp (Jb.mp this t (YD.mpr h))
theorem Cj{t:Nat}(h:1≤t∧t≤4):(Float64.cmp (bC t 4) F0==some .eq)=false:=by
 have:((List.range 4).all fun t:Nat=>!(Float64.cmp (bC (t+1) 4) F0==some .eq))=true:=by decide+kernel
 obtain⟨s,rfl⟩:=Nat.exists_eq_add_of_le' h.1
 exact(Y2 _).mp (Jb.mp this s (YD.mpr h.2))
theorem iB(n d:Nat):Float64.isNaN (bC n d)=false:=by unfold bC ofFrac;exact PySem.W.isNaN_pack _ (PySem.W.roundMag_le _ _)
theorem Ck(bI aj:Nat):Float64.isNaN (gG bI aj)=false:=by unfold gG;cases ble (aj*(8 - bI)) 16 <;> exact iB _ _
noncomputable def bn(X place:Nat):Nat:=X % 64+place*(1+X / 64 % 6)
noncomputable def da(X n:Nat):List Int:=(List.range n).map fun place=> ((bn X place % 64:Nat):Int)
theorem hO(a b:Nat):(a:Int).fmod (b:Nat)=((a % b:Nat):Int):=by rw[Int.fmod_eq_emod_of_nonneg _ (V6 b)];rfl
theorem pW(a b:Nat):(a:Int).fdiv (b:Nat)=((a / b:Nat):Int):=by rw[Int.fdiv_eq_ediv_of_nonneg _ (V6 b)];rfl
theorem y'{c:Nat}(h:c∈six):Builtin.Str.occurrences (Str.ofString "abcde") (ch (az c)) 0 (Str.ofString "abcde").length 1=[az c - 97]:=by
 have:(six.all fun c=>Builtin.Str.occurrences (Str.ofString "abcde") (ch (az c)) 0 (Str.ofString "abcde").length 1==[az c - 97])=true:=by decide+kernel
 exact eq_of_beq (Jb.mp this c h)
noncomputable def fb(X l:Nat):Nat:=1+(X / 384+l) % 4
noncomputable def fD(X l:Nat):Nat:=1+(X / 1536+2*l) % 4
theorem hY{a:Int}{b:Nat}(h:a=b):RV.v (.int a)= .v (.int b):=by rw[h]
theorem Lx(x i:Nat):fmod x (64:Nat)+(i:Int)*(1+fmod (fdiv x (64:Nat)) (6:Nat))=(bn x i:Nat):=by
 rw[hO,pW,hO];exact(aaP ..).symm▸E5 (_+ ·) (Int.natCast_mul ..).symm
theorem PW(x l:Nat):(1:Int)+fmod (fdiv x (384:Nat)+(l:Int)) (4:Nat)=(fb x l:Nat):=by rw[pW,← aaP,hO];rfl
theorem PX(x l:Nat):(1:Int)+fmod (fdiv x (1536:Nat)+2*(l:Int)) (4:Nat)=(fD x l:Nat):=by rw[pW];exact(E5 (1+ ·) (hO (x / 1536+2*l) 4))
theorem Jr(x l:Nat):1≤fb x l∧fb x l≤4:=⟨Y0 ..,YT (YS (YK _ (by decide))) 1⟩
theorem Js(x l:Nat):1≤fD x l∧fD x l≤4:=⟨Y0 ..,YT (YS (YK _ (by decide))) 1⟩
theorem Ly(x:Nat){i:Nat}(hi:i<10):bn x i<128:=by
 have h1:x % 64<64:=YK _ (by decide)
 have h2:i*(1+x / 64 % 6)≤9*6:=aa6 (YS hi) (YT (YS (YK _ (by decide))) 1)
 exact U2 (Nat.add_lt_add_of_lt_of_le h1 h2) (by decide)
theorem PY{U V:Nat}(hU:U≤4):(V:Int)*(8 - (U:Int))=(V*(8 - U):Nat):=by rw[Int.natCast_mul,Int.ofNat_sub (E4 hU (by decide))];rfl
theorem Xf{U:Nat}(hU:U≤4):toNat (8 - (U:Int))=8 - U:=by rw[show(8:Int) - (U:Int)=((8 - U:Nat):Int) from(Int.ofNat_sub (E4 hU (by decide))).symm];rfl
theorem PZ{U V:Nat}(hU:U≤4)(h:decide (((V*(8 - U):Nat):Int)≤16)=true):RV.v (.aI (bC U (toNat (8 - (U:Int)))))= .v (.aI (gG U V)):=by
 rw[Xf hU,gG,YM (Zl.mp (U9 h))];rfl
theorem P1{U V:Nat}(hV:V*(8 - U)≤32)(h:decide (((V*(8 - U):Nat):Int)≤16)=false):RV.v (.aI (bC (toNat ((V:Int)*(U:Int))) (toNat (32 - ((V*(8 - U):Nat):Int)))))= .v (.aI (gG U V)):=by
 have e:toNat (32 - ((V*(8 - U):Nat):Int))=32 - V*(8 - U):=by rw[show(32:Int) - ((V*(8 - U):Nat):Int)=((32 - V*(8 - U):Nat):Int) from(Int.ofNat_sub hV).symm];rfl
 have b:ble (V*(8 - U)) 16=false:=Z3.mpr fun hb=>abQ h (Zl.mpr (E1 hb))
 rw[e,gG,b];rfl
theorem TJ{U:Nat}(hU:U≤4):(0:Int)<8 - (U:Int):=by omega
theorem P2{n:Nat}(h:n≤28):(0:Int)<32 - (n:Int):=by omega
theorem vC(x i:Nat):da x (i+1)=da x i++ [((bn x i % 64:Nat):Int)]:=by unfold da;rw[aaj,YA];rfl
section
variable {y:Lay}{g:Gd}
noncomputable def Lz(X:Nat):Vs:=[none,some (.v (.int X)),some (.r 30),none,none,none,none,none,none,none,none,none,none,none,none,none]
noncomputable def Ez(X i:Nat):Os:=[(30,.list ((da X i).map .int))]
noncomputable def i7(H U V:Nat):T3:=a6 ((lO (oD H 0)).fmod 6) (qP (oD H 0)) (bC U 4) (bC V 4)
noncomputable def P3(X i l:Nat):Hint:=
 .v (.int (bn X i:Nat))<| .v (.int (l:Nat))<| .v (.int (fb X l:Nat))<| .v (.int (fD X l:Nat))<| .v (.int (X / 6144 % 3:Nat))<|
 .call (.v (oU (i7 (bn X i % 64) (fb X l) (fD X l)))) []<| .call (.v (oU (bC (bn X i % 64) 64,bC (fb X l) 4,bC (fD X l) 4))) []<| .v (.int (fD X l*(8 - fb X l):Nat))<|
 .mv (.v (.aI (gG (fb X l) (fD X l)))) .nil .nil<| .v (.int (bn X i % 64:Nat))<| .a<| .call (.v (oU (bC (bn X i % 64) 64,bC (fD X l*(8 - fb X l)) 32,gG (fb X l) (fD X l)))) []<| .v (.int (bn X i % 64:Nat))<| .a<| .a<| .v (.int (bn X i % 64:Nat)) .nil
noncomputable abbrev xH(x:Nat)(i:Nat)(c:Nat):Vs:=[none,some (.v (.int ↑x)),some (.r 30),some (.v (.int ↑i)),some (.v (.str (ch c))),some (.v (.int ↑(bn x i))),some (.v (.int ↑(az c - 97))),some (.v (.int (↑(fb x (az c - 97)):Int))),some (.v (.int (↑(fD x (az c - 97)):Int))),some (.v (.aI (fst (i7 (bn x i % 64) (fb x (az c - 97)) (fD x (az c - 97)))))),some (.v (.aI (fst (snd (i7 (bn x i % 64) (fb x (az c - 97)) (fD x (az c - 97))))))),some (.v (.aI (snd (snd (i7 (bn x i % 64) (fb x (az c - 97)) (fD x (az c - 97))))))),some (.v (oU (bC (bn x i % 64) 64,bC (fb x (az c - 97)) 4,bC (fD x (az c - 97)) 4))),some (.v (.int (↑(fD x (az c - 97)*(8 - fb x (az c - 97))):Int))),none,none]
noncomputable abbrev dM(x:Nat)(c:Nat):=fD x (az c - 97)*(8 - fb x (az c - 97))
noncomputable abbrev ma(x:Nat)(c:Nat):=gG (fb x (az c - 97)) (fD x (az c - 97))
noncomputable abbrev qU(x:Nat)(i:Nat)(c:Nat):=i7 (bn x i % 64) (fb x (az c - 97)) (fD x (az c - 97))
noncomputable abbrev qV(x:Nat)(c:Nat):=(8:Int) - (↑(fb x (az c - 97)):Int)
noncomputable abbrev xI(x:Nat):=(1:Int)+fmod (fdiv ↑x ((64:Nat):Int)) ((6:Nat):Int)
noncomputable abbrev xJ(x:Nat)(i:Nat)(c:Nat):=oU (bC (bn x i % 64) 64,bC (fb x (az c - 97)) 4,bC (fD x (az c - 97)) 4)
noncomputable abbrev qW:=ofInt (64:Int)
theorem Cm(X:cH y g)(hn:10≤g.n)(CF:jR)(x i:Nat)(hi:i<10)(c:Nat)(hc:c∈six)(R:RV→S→Prop):
  (tD y g).set (.v (.tup [.int i,.str (ch c)])) ⟨Lz x,Ez x i,P3 x i (az c - 97)⟩ fun s2=> (xF y g).ex s2 fun f s3=>bF f (True∧av s3 (Lz x) (Ez x (i+1))) False fun v=>R v s3:=by
 have nc:∀n:Nat,(0:Int)≤(n:Int):=V6
 have hH:=Ly x hi
 obtain⟨Vu,Nr⟩:=Jr x (az c - 97)
 obtain⟨Yt,TK⟩:=Js x (az c - 97)
 have hT:x / 6144 % 3<3:=YK _ (by decide)
 have hK:bn x i % 64<64:=YK _ (by decide)
 have W:=CF.PQ (bn x i) _ hH hT
 obtain⟨c1,c2,c3,c4,c5,c6,c7⟩:=CF.col (bn x i % 64) _ _ hK (Jr x (az c - 97)) (Js x (az c - 97))
 have b1:=CF.PR (bn x i % 64) hK
 have b2:=CF.PS (bn x i % 64) hK
 have Vv:=oV X (YN hn) (h:=oD (bn x i) (x / 6144 % 3)) (s:=bC (fb x (az c - 97)) 4) (v:=bC (fD x (az c - 97)) 4) (Cj ⟨Vu,Nr⟩) W.fin W.inf
 have Vw:=oX X (YN hn) (x:=i7 (bn x i % 64) (fb x (az c - 97)) (fD x (az c - 97))) c1 c2 c3
 have Vx:=oY X (YN hn) (x:=i7 (bn x i % 64) (fb x (az c - 97)) (fD x (az c - 97))) c1 c4 c5 c3
 rw[show nF (i7 (bn x i % 64) (fb x (az c - 97)) (fD x (az c - 97)))=_ from c6] at Vw
 rw[show nG (i7 (bn x i % 64) (fb x (az c - 97)) (fD x (az c - 97)))=_ from c7] at Vx
 rw[show gp (oD (bn x i) (x / 6144 % 3)) (bC (fb x (az c - 97)) 4) (bC (fD x (az c - 97)) 4)=i7 (bn x i % 64) (fb x (az c - 97)) (fD x (az c - 97)) by unfold gp;rw[W.k,W.f];rfl] at Vv
 have l6:∀ {n m:Nat},n≤m→ble m 999999=true→(n:Int)<1000000:=fun h hm=>YR.mpr (Z4 (E4 h (E1 hm)))
 have LA:fD x (az c - 97)*(8 - fb x (az c - 97))≤28:=aa6 TK (Nat.sub_le_sub_left Vu 8)
 have Vy:((bn x i % 64:Nat):Int)<1000000:=l6 (Yy hK) rfl
 have TL:(fb x (az c - 97):Int)<1000000:=l6 Nr rfl
 have RI:(fD x (az c - 97):Int)<1000000:=l6 TK rfl
 have Xg:fD x (az c - 97)*fb x (az c - 97)≤16:=aa6 TK Nr
 have km:fmod (bn x i:Nat) (64:Nat)=(bn x i % 64:Nat):=hO _ 64
 have dc:((da x i).map AV.int).length≤sizeLine:=sz (ar (m:=10) (by unfold da;rw[E9,YP];exact Yy hi)) rfl
 have Xh:Bx (Str.ofString "abcde") (PySem.Txt.lower (ch c)) (.int (az c - 97:Nat)):=⟨_,[],by rw[d8 hc];exact y' hc,rfl⟩
 refine aR (P:=IntMulOk (↑i:Int) (xI x)∧VI (.int (fmod ↑x ((64:Nat):Int)+(↑i:Int)*(xI x))) (.int ↑(bn x i))∧Str.length (ch c)≤5592405∧_∧VI (.int ((1:Int)+fmod (fdiv ↑x ((384:Nat):Int)+(↑(az c - 97):Int)) ((4:Nat):Int))) (.int (↑(fb x (az c - 97)):Int))∧IntMulOk (2:Int) (↑(az c - 97):Int)∧VI (.int ((1:Int)+fmod (fdiv ↑x ((1536:Nat):Int)+(2:Int)*(↑(az c - 97):Int)) ((4:Nat):Int))) (.int (↑(fD x (az c - 97)):Int))∧(0:Int)≤(↑(bn x i):Int)∧(↑(bn x i):Int)<(1000000:Int)∧(0:Int)<(64:Int)∧VI (.int (fmod (fdiv ↑x ((6144:Nat):Int)) ((3:Nat):Int))) (.int ↑(x / 6144 % 3))∧isInf (ofInt (↑(x / 6144 % 3):Int))=false∧(0:Int)≤(↑(fb x (az c - 97)):Int)∧(↑(fb x (az c - 97)):Int)<(1000000:Int)∧(0:Int)<(4:Int)∧(0:Int)≤(↑(fD x (az c - 97)):Int)∧(↑(fD x (az c - 97)):Int)<(1000000:Int)∧(0:Int)<(4:Int)∧_∧_∧IntMulOk (↑(fD x (az c - 97)):Int) (qV x c)∧VI (.int ((↑(fD x (az c - 97)):Int)*(qV x c))) (.int (↑(dM x c):Int))∧(decide ((↑(dM x c):Int)≤(16:Int))=true→(0:Int)≤(↑(fb x (az c - 97)):Int)∧(↑(fb x (az c - 97)):Int)<(1000000:Int)∧(0:Int)<(8:Int) - (↑(fb x (az c - 97)):Int)∧VI (.aI (bC (fb x (az c - 97)) (toNat (qV x c)))) (.aI (ma x c))∧rf (S.mk (xH x i c) (Ez x i) .nil))∧(decide ((↑(dM x c):Int)≤(16:Int))=false→IntMulOk (↑(fD x (az c - 97)):Int) (↑(fb x (az c - 97)):Int)∧(0:Int)≤(↑(fD x (az c - 97)):Int)*(↑(fb x (az c - 97)):Int)∧(↑(fD x (az c - 97)):Int)*(↑(fb x (az c - 97)):Int)<(1000000:Int)∧(0:Int)<(32:Int) - (↑(dM x c):Int)∧VI (.aI (bC (toNat ((↑(fD x (az c - 97)):Int)*(↑(fb x (az c - 97)):Int))) (toNat ((32:Int) - (↑(dM x c):Int))))) (.aI (ma x c))∧rf (S.mk (xH x i c) (Ez x i) .nil))∧VI (.int (fmod ↑(bn x i) ((64:Nat):Int))) (.int ↑(bn x i % 64))∧(0:Int)≤(↑(bn x i % 64):Int)∧(↑(bn x i % 64):Int)<(1000000:Int)∧(0:Int)<(64:Int)∧(0:Int)≤(↑(fb x (az c - 97)):Int)∧(↑(fb x (az c - 97)):Int)<(1000000:Int)∧(0:Int)<(4:Int)∧(0:Int)≤(↑(fD x (az c - 97)):Int)∧(↑(fD x (az c - 97)):Int)<(1000000:Int)∧(0:Int)<(4:Int)∧(∃(za:UInt64),∃(y:UInt64),∃(z:UInt64),RV.v (xJ x i c)=RV.v (.tup [.aI za,AV.aI y,AV.aI z])∧RV.v (.tup [.aI (bC (bn x i % 64) (toNat 64)),AV.aI (bC (fb x (az c - 97)) (toNat 4)),AV.aI (bC (fD x (az c - 97)) (toNat 4))])=RV.v (.tup [.aI za,AV.aI y,AV.aI z])∧Float64.isNaN za=false∧Float64.isNaN y=false∧Float64.isNaN z=false)∧_∧VI (.int (fmod ↑(bn x i) ((64:Nat):Int))) (.int ↑(bn x i % 64))∧(0:Int)≤(↑(bn x i % 64):Int)∧(↑(bn x i % 64):Int)<(1000000:Int)∧(0:Int)<(64:Int)∧(0:Int)≤(↑(dM x c):Int)∧(↑(dM x c):Int)<(1000000:Int)∧(0:Int)<(32:Int)∧(∃(za:UInt64),∃(y:UInt64),∃(z:UInt64),RV.v (oU (bC (bn x i % 64) 64,bC (dM x c) 32,gG (fb x (az c - 97)) (fD x (az c - 97))))=RV.v (.tup [.aI za,AV.aI y,AV.aI z])∧RV.v (.tup [.aI (bC (bn x i % 64) (toNat 64)),AV.aI (bC (dM x c) (toNat 32)),AV.aI (ma x c)])=RV.v (.tup [.aI za,AV.aI y,AV.aI z])∧Float64.isNaN za=false∧Float64.isNaN y=false∧Float64.isNaN z=false)∧isInf qW=false∧isFinite (mul (bC (bn x i % 64) 64) qW)=true∧VI (.int (bD (mul (bC (bn x i % 64) 64) qW))) (.int ↑(bn x i % 64))∧SL (map AV.int (da x i))∧True∧av (.mk ([none,some (.v (.int ↑x)),some (.r 30),some (.v (.int ↑i)),some (.v (.str (ch c))),some (.v (.int ↑(bn x i))),some (.v (.int ↑(az c - 97))),some (.v (.int (↑(fb x (az c - 97)):Int))),some (.v (.int (↑(fD x (az c - 97)):Int))),some (.v (.aI (fst (qU x i c)))),some (.v (.aI (fst (snd (qU x i c))))),some (.v (.aI (snd (snd (qU x i c))))),some (.v (xJ x i c)),some (.v (.int (↑(dM x c):Int))),some (.v (.aI (ma x c))),some (.v (.bool true))]) ([(30,EO.list (map AV.int (da x i)++ [AV.int ↑(bn x i % 64)]))]) .nil) (Lz x) (Ez x (i+1)))
  ⟨wZ (nc i) (l6 (Yy hi) rfl),hY (Lx x i),E1 rfl,Xh,hY (PW x _),wZ (by decide) (by decide),hY (PX x _),nc _,l6 (Yy hH) rfl,by decide,hY (by rw[pW,hO]),Ci hT,nc _,TL,by decide,nc _,RI,by decide,Vv,Vw,
  wZ (nc _) RI,hY (PY Nr),fun h=> ⟨nc _,TL,TJ Nr,PZ Nr h,rfl⟩,fun h=> ⟨wZ (nc _) RI,nc (_*_),l6 (n:=_*_) Xg rfl,P2 LA,P1 (E4 LA (by decide)) h,rfl⟩,
  hY km,nc _,Vy,by decide,nc _,TL,by decide,nc _,RI,by decide,⟨_,_,_,rfl,rfl,iB _ _,iB _ _,iB _ _⟩,Vx,hY km,nc _,Vy,by decide,nc _,l6 LA rfl,by decide,⟨_,_,_,rfl,rfl,iB _ _,iB _ _,Ck _ _⟩,PT,b1,hY b2,dc,trivial,by unfold Ez;rw[vC,YA];rfl⟩ (by kernel_rfl!)
theorem GK(X:cH y g)(hn:11≤g.n)(CF:jR){lv:List Nat}(dc:lv.length=10)(qT:∀c∈lv,c∈six)(x:Nat):
  Fn g (.v (.val (.ref (y.ad 74)))) [.v (.lst (cV lv)),.v (.int x)] [] [] [] (.v (.lst ((da x 10).map .int))) []:=by
 refine iN X (Zg (k:=2) hn) (X.fn 74 "_law_hues" (by decide)) (RH y) (Xe y) (.loop (fun O=>True) (fun O=>Lz x) (fun i=>Ez x i) (fun i z=>P3 x i (az (lv.getD i 0) - 97)) .nil) (by intros;kernel_rfl!) (fun g' b=>?_)
 have el:(cA (cV lv)).length=10:=(kC _).trans ((E9 ..).trans dc)
 have fs:∀R:RV→S→Prop,bg (tD y g') (xF y g') (cA (cV lv)) (fun O=>True) (fun O=>Lz x) (fun i=>Ez x i) (fun i z=>P3 x i (az (lv.getD i 0) - 97)) R:=fun R i z hz O=>by
  obtain⟨c,hc,rfl⟩:=B' hz
  have:=Cm (X.bS b.bS) (by rw[b.n];exact YY hn) CF x i (by rw[← dc];exact(V7.mp hc).1) c (qT c (YC hc)) R
  rw[← eJ (d:=0) hc] at this
  show(tD y g').set _ ⟨_,_,P3 x i (az (lv.getD i 0) - 97)⟩ _
  rw[← eJ (d:=0) hc]
  exact this
 refine aR (P:=(True∧EE ((fun(za:Nat)=>Lz x) 0) ((fun(i:Nat)=>Ez x i) 0))∧(bg (tD y g') (xF y g') (cA (cV lv)) (fun(x:Nat)=>True) (fun(za:Nat)=>Lz x) (fun(i:Nat)=>Ez x i) (fun(i:Nat) (z:AV)=>P3 x i (az (List.getD lv i 0) - 97)) fun(v:RV) (s3:S)=>dH (RF.ret v) s3 (AV.lst (map AV.int (da x 10))) [])∧(True→VI (.lst (map .int (da x (length (cA (cV lv)))))) (.lst (map .int (da x 10)))∧rf ([]:Os)))
  ⟨⟨trivial,rfl⟩,fs _,fun O=> ⟨by rw[el],rfl⟩⟩ (by kernel_rfl!)
end
end
end
section
set_option tactic.hygienic true
section
noncomputable def fo(x:UInt64)(g:UInt64→Bool):Bool:=match x.toNat with
 | 0=>g 0
 | n+1=>g (UInt64.ofNat (n+1))
theorem xK(x:UInt64)(g:UInt64→Bool):fo x g=g x:=by
 unfold fo
 split
 ·rename_i h
  have:x=0:=UInt64.toNat_inj.mp h
  rw[this]
 ·rename_i n h
  rw[show n+1=x.toNat from h.symm,UInt64.ofNat_toNat]
noncomputable def P4(x:Int)(g:Int→Bool):Bool:=match x with
 | .ofNat 0=>g 0
 | .ofNat (n+1)=>g (Int.ofNat (n+1))
 | .negSucc n=>g (.negSucc n)
theorem Cn(x:Int)(g:Int→Bool):P4 x g=g x:=by
 unfold P4
 split <;> rfl
noncomputable def LB(r g b M D:UInt64)(K:UInt64→Bool):Bool:=
 fo (div (Float64.sub M r) D) fun rc=>fo (div (Float64.sub M g) D) fun gc=>fo (div (Float64.sub M b) D) fun bc=>
  fo (cond (oS r M) (Float64.sub bc gc) (cond (oS g M) (Float64.sub (add F2 rc) bc) (Float64.sub (add F4 gc) rc))) fun h=>fo (div h F6) fun h6=>fo (divmod h6 F1).2 K
theorem GM(r g b M D:UInt64)(K:UInt64→Bool):LB r g b M D K=K (gF r g b M D):=by
 unfold LB gF
 simp only[xK]
noncomputable def LF(k:Int)(f H S V:UInt64)(sh va:Nat):Bool:=
 fo (a6 k f S V).1 fun r=>fo (a6 k f S V).2.1 fun g=>fo (a6 k f S V).2.2 fun b=>
 fo (mx (r,g,b)) fun M=>fo (mn (r,g,b)) fun m=>fo (Float64.sub M m) fun D=>fo (add M m) fun A=>fo (Float64.sub (Float64.sub F2 M) m) fun B=>
 !oS m M&& (!isZero M&& (!isZero D&& (!isZero A&& (!isZero B&& (LB r g b M D (fun h=>h==H)&& (div D M==S&& (M==V&&
  (fo (div A F2) fun L=>L==bC (va*(8 - sh)) 32&& (cond (RD L Fh) (div D A) (div D B)==gG sh va)))))))))
theorem GN{k:Int}{f:UInt64}{bO sh va:Nat}(h:LF k f (bC bO 64) (bC sh 4) (bC va 4) sh va=true):Cg k f bO sh va:=by
 unfold LF at h
 simp only[xK,GM,YL,Y2,ZE] at h
 obtain⟨h1,h2,h3,h4,h5,h6,h7,h8,h9,Ey⟩:=h
 refine⟨h1,h2,h3,h4,h5,?_,?_⟩
 ·unfold nF
  rw[h6]
  exact E5 (Prod.mk _) (by rw[h7,h8])
 ·unfold nG
  rw[h6]
  refine E5 (Prod.mk _) ?_
  unfold vu
  rw[h9,← Ey,h9]
noncomputable def fO(k0:Int)(f0:UInt64)(bO turn:Nat):Bool:=
 fo (oD bO turn) fun h=>fo (mul h F6) fun y=>isFinite y&& (P4 (bD y) fun i=>fo (ofInt i) fun o=>!isInf o&& (i.fmod 6==k0&&Float64.sub y o==f0))
theorem pX{bO turn:Nat}(h:fO ((lO (oD (bO % 64) 0)).fmod 6) (qP (oD (bO % 64) 0)) bO turn=true):iA bO turn:=by
 unfold fO at h
 simp only[xK,Cn,YL,Y2,ZE] at h
 exact⟨h.1,h.2.1,h.2.2.1,h.2.2.2⟩
noncomputable def GO(bO:Nat):Bool:=
 fo (oD bO 0) fun h=>fo (mul h F6) fun y=>P4 (bD y) fun i=>P4 (i.fmod 6) fun k=>fo (Float64.sub y (ofInt i)) fun f=>
  (fO k f bO 0&& (fO k f bO 1&& (fO k f bO 2&& (fO k f (bO+64) 0&& (fO k f (bO+64) 1&&fO k f (bO+64) 2)))))&&
  (fo (bC bO 64) fun H=> (fo (mul H (ofInt 64)) fun z=>isFinite z&&bD z==bO)&& (List.range 4).all fun a=>fo (bC (a+1) 4) fun S=> (List.range 4).all fun b=>fo (bC (b+1) 4) fun V=>LF k f H S V (a+1) (b+1))
theorem GP:((List.range 32).all GO)=true:=by decide+kernel
theorem GQ:((List.range 32).all fun n=>GO (n+32))=true:=by decide+kernel
theorem GR{bO:Nat}(h:bO<64):GO bO=true:=by
 by_cases hc:bO<32
 ·exact Jb.mp GP bO (YD.mpr hc)
 ·have:=Jb.mp GQ (bO - 32) (YD.mpr (Z1 (abs hc) h))
  rw[Zn (abs hc)] at this
  exact this
theorem zb:jR:=by
 have tE:∀bO,bO<64→(∀t,t<3→iA bO t∧iA (bO+64) t)∧(isFinite (mul (bC bO 64) (ofInt 64))=true∧bD (mul (bC bO 64) (ofInt 64))=bO)∧∀a,a<4→∀b,b<4→Cg ((lO (oD bO 0)).fmod 6) (qP (oD bO 0)) bO (a+1) (b+1):=by
  intro bO hh
  have h:=GR hh
  unfold GO at h
  simp only[xK,Cn,YL,ZE,Jb,YD] at h
  obtain⟨⟨w1,w2,w3,w4,w5,w6⟩,⟨b1,b2⟩,hc⟩:=h
  have hm:bO % 64=bO:=aaE hh
  have Xi:(bO+64) % 64=bO:=(Nat.add_mod_right bO 64).trans hm
  have W:∀t,fO ((lO (oD bO 0)).fmod 6) (qP (oD bO 0)) bO t=true→iA bO t:=fun t h=>pX (by rw[hm];exact h)
  have W':∀t,fO ((lO (oD bO 0)).fmod 6) (qP (oD bO 0)) (bO+64) t=true→iA (bO+64) t:=fun t h=>pX (by rw[Xi];exact h)
  refine⟨fun t ht=>?_,⟨b1,b2⟩,fun a ha b hb=>GN (hc a ha b hb)⟩
  match t,ht with
  | 0,_=>exact⟨W 0 w1,W' 0 w4⟩
  | 1,_=>exact⟨W 1 w2,W' 1 w5⟩
  | 2,_=>exact⟨W 2 w3,W' 2 w6⟩
 refine⟨fun bO turn h1 h2=>?_,fun bO bI aj h hs hv=>?_,fun bO h=> (tE bO h).2.1.1,fun bO h=> (tE bO h).2.1.2⟩
 ·by_cases hc:bO<64
  ·exact((tE bO hc).1 turn h2).1
  ·have:=((tE (bO - 64) (Z1 (abs hc) h1)).1 turn h2).2
   rw[Zn (abs hc)] at this
   exact this
 ·have:=(tE bO h).2.2 (bI - 1) (Z1 hs.1 (Z4 hs.2)) (aj - 1) (Z1 hv.1 (Z4 hv.2))
  rw[Zn hs.1,Zn hv.1] at this
  exact this
end
end
section
section
noncomputable def zV(y:Lay):Cx:=Jh y [("text",.cell),("cut",.local),("passed",.local),("roads",.local),("size",.local),("sign",.local),("symbol",.local),("marks",.local)] [("text",.cell,10)] [3,32,0,21,20,19] true
noncomputable def Jt(y:Lay):Cx:=⟨[(".0",.local),("n",.local),("EXACT_TOKEN_TYPES",.globalImplicit),("text",.free)],[".0","n"],[("text",.free,10)],[32],GX y,30,false,[]⟩
noncomputable def Ju(y:Lay)(g:Gd):LC ⟨zV y,g⟩:=⟨Jt y,fun g=> (.n (.loc 1) 280 32),fun g=>[(.isin (.get (.ce 0 280 47) (.iJ .none (some (.lo 1 280 53)) .none)) (.gl 32 280 59))],fun g=> (.lo 1 280 26),[],rfl,rfl,fun O=>rfl,fun O=>rfl,fun O=>rfl⟩
noncomputable def Co(y:Lay)(g:Gd):SE ⟨zV y,g⟩:=(.ne (.ce 0 279 10) (.st "" 279 18))
noncomputable def Cp(y:Lay)(g:Gd):SB ⟨zV y,g⟩:=(.cons (.ag (.loc 3) 280 8 (.cl 3 280 15 [(.add (.lst [(.nt 1 280 20)]) (.lc (Ju y g) (.of (.tup [(.nt 2 280 38),(.nt 3 280 41)])) (q 280 25 77)))]))<|(.cons (.mul [(.n (.loc 0) 281 8),(.n (.cc 0) 281 13)] 0 (q 281 8 17) [(.of (.add (.lo 0 281 21) (.lst [(.get (.ce 0 281 28) (.iJ .none (some (.lo 3 281 34)) .none))]))),(.of (.get (.ce 0 281 42) (.iJ (some (.lo 3 281 47)) .none .none)))] 0 (q 281 20 54) (q 281 8 54) (by kernel_rfl!))<| .nil))
noncomputable def P5(y:Lay):Cx:=cx y [".0","told"] [] [] false
noncomputable def tF(y:Lay)(g:Gd):LC ⟨zV y,g⟩:=⟨P5 y,fun g=> (.n (.loc 1) 284 70),fun g=>[],fun g=> (.yR (.is (.lo 1 284 22) (.bool true 0 (q 284 30 34))) (.nt 1 284 17) (.yR (.is (.lo 1 284 45) (.bool false 0 (q 284 53 58))) (.nt 0 284 40) (.nt 2 284 64))),[],rfl,rfl,fun O=>rfl,fun O=>rfl,fun O=>rfl⟩
noncomputable def nH(y:Lay)(g:Gd):TG ⟨zV y,g⟩:=(.n (.loc 4) 282 8)
noncomputable def nJ(y:Lay)(g:Gd):SB ⟨zV y,g⟩:=(.cons (.ag (.loc 5) 283 8 (.yR (.isin (.lo 4 283 50) (.gl 32 283 58)) (.add (.get (.gl 32 283 17) (.lo 4 283 35)) (.int 201 0 (q 283 43 46))) (.yR (.lo 4 283 102) (.add (.int 256 0 (q 283 81 84)) (.cl 0 283 87 [(.lo 1 283 91)])) (.nt 0 283 112))))<|(.cons (.Jf 6 (q 284 8 13) (tF y g) (.of (.tup [(.cl 21 284 79 [(.lo 5 284 85)]),(.cl 20 284 94 [(.lo 5 284 108)]),(.cl 19 284 117 [(.lo 5 284 128)])])) (q 284 16 137) (q 284 8 137))<|(.cons (.ite (.eq (.lo 6 285 11) (.lst [(.nt 0 285 21),(.nt 1 285 24),(.nt 0 285 27)])) (.cons (.exp (.mt (.lo 1 286 12) .append [(.lo 4 286 26)]))<| .nil) (.cons (.ite (.eq (.get (.lo 6 287 13) (.iJ (some (.nt 1 287 19)) .none .none)) (.lst [(.nt 0 287 27),(.nt 1 287 30)])) (.cons (.exp (.mt (.lo 2 288 12) .append [(.get (.lst [(.lo 5 288 26),(.st "end" 288 34),(.st "none" 288 41)]) (.get (.lo 6 288 49) (.nt 0 288 55)))]))<| .nil) .nil ⟨287,8,288,59⟩)<| .nil) ⟨285,8,288,59⟩)<| .nil)))
noncomputable def Xj(y:Lay)(g:Gd):SB ⟨zV y,g⟩:=(.cons (.Tl (.loc 0) (.loc 1) (.loc 2) (q 278 4 7) (q 278 9 15) (q 278 17 22) 0 (q 278 4 22) [(.of (.lst [] (q 278 26 28))),(.new 30 [] (q 278 30 32)),(.new 31 [] (q 278 34 36))] 0 (q 278 25 37) (q 278 4 37) (by kernel_rfl!))<|(.cons (.No (Co y g) (Cp y g) ⟨279,4,281,54⟩)<|(.cons (.for (nH y g) (.of (.add (.lo 0 282 16) (.lst [(.st "" 282 23)]))) (nJ y g) ⟨282,4,288,59⟩)<|(.Le 1<| .Le 2<| .cons (.ret (.tup [(.lo 1 289 12),(.lo 2 289 20)]))<| .nil))))
noncomputable def bG(es:Array DictEntry)(x:Str):Bool:=(bf es x).isSome
structure zc(es:Array DictEntry):Prop where
 codes:∀x v,bf es x=some v→∃c t,v= .int c t∧7≤c∧c≤54
 empty:bf es ⟨#[]⟩=none
noncomputable def xL(es:Array DictEntry)(S:Str):List Int:=1::([2,3].filter fun n:Int=>bG es (be S n.toNat))
noncomputable def cutSize(es:Array DictEntry)(S:Str):Nat:=if bG es (be S 3) then 3 else if bG es (be S 2) then 2 else 1
theorem GS(es:Array DictEntry)(S:Str){M:Int}(h1:M∈xL es S)(h2:∀a∈xL es S,a≤M):M=cutSize es S:=by
 unfold xL cutSize at*
 cases h3:bG es (be S 3) <;> cases h4:bG es (be S 2) <;> simp[filter,h3,h4] at h1 h2 ⊢ <;> omega
noncomputable def bk:List Str→Str
 | []=> ⟨#[]⟩
 | x::r=>x++bk r
theorem Cq(S:Str):(S !=Str.ofString "")=decide (S.length≠0):=by
 have e:Str.ofString "" =⟨#[]⟩:=rfl
 rw[e]
 by_cases h:S.length=0
 ·have:S=⟨#[]⟩:=by
   obtain⟨c⟩:=S
   have h':c.size=0:=h
   rw[Array.size_eq_zero_iff.mp h']
  subst this
  rfl
 ·have:S≠⟨#[]⟩:=fun e=>h (by rw[e];rfl)
  simp[h,this]
noncomputable def zd(es:Array DictEntry)(S:Str)(y:AV):Option AV:=cond (bG es (be S (dC y).toNat)) (some (.int (dC y))) none
theorem Cr(es:Array DictEntry)(S:Str): [AV.int 2,AV.int 3].filterMap (zd es S)=([2,3].filter fun n:Int=>bG es (be S n.toNat)).map AV.int:=by
 simp only[Zh,List.filterMap_nil,zd,dC,ZA,List.filter_nil]
 cases bG es (be S (toNat 2)) <;> cases bG es (be S (toNat 3)) <;> rfl
theorem eL(l:List Int):mY (l.map .int)=l.map .int∧noDicts (l.map PyData.int)=true∧canLayAll0 (l.map .int)=true∧depthAll (l.map .int)=0:=by
 induction l with
 | nil=>exact⟨rfl,rfl,rfl,rfl⟩
 | cons x r ih=>
  obtain⟨h1,h2,h3,h4⟩:=ih
  refine⟨E5 (AV.int x:: ·) h1,?_,?_,?_⟩
  ·simp only[YI,noDicts,noDict,h2];rfl
  ·simp only[YI,canLayAll0,canLay0,h3];rfl
  ·simp only[YI,depthAll,depth,h4];rfl
theorem xM(l:List Int):shaped (.list (l.map .int))=true:=by
 unfold shaped
 simp only[canLay0,(eL l).2.2.1,depth,(eL l).2.2.2];rfl
theorem nK:∀a b:List Int,eqvAll (a.map .int) (b.map .int)=decide (a=b)
 | [],[]=>rfl
 | [],_::_=>rfl
 | _::_,[]=>rfl
 | x::r,y::s=>by
  simp only[YI,eqvAll,eqv,nK r s,List.cons.injEq]
  rw[ZF,YL,ZE,aaq,aaq]
theorem ze{xs ys:List Int}:fK (.lst (xs.map .int)) (.lst (ys.map .int)) (decide (xs=ys)):=
 ⟨.list (xs.map .int),.list (ys.map .int),hJ (eL xs).1.symm,hJ (eL ys).1.symm,(eL xs).2.1,(eL ys).2.1,xM xs,xM ys,nK xs ys⟩
noncomputable def eB(x:AV):Option AV:=x.casesOn none (fun b=>some (.int (cond b 1 0))) (fun O=>none) (fun O=>none) (fun O=>none) (fun O=>none) (fun O=>none) (fun O=>none) (fun O O O=>none) (fun O O O=>none) (fun O O O=>none)
theorem TM:(Str.ofString "")=(⟨#[]⟩:Str):=rfl
noncomputable def xN(o:Option Int):AV:=o.elim (.str (Str.ofString "end")) .int
structure iP where
 aS:List Str
 bP:List (Option Int)
noncomputable def aG(es:Array DictEntry)(s:iP)(t:Str):iP:=match bf es t with
 | some (.int c _)=> ⟨s.aS,s.bP++ [some (c+201)]⟩
 | _=>if t.length=0 then⟨s.aS,s.bP++ [none]⟩ else⟨s.aS++ [t],s.bP⟩
noncomputable def aL(es:Array DictEntry)(toks:List Str)(n:Nat):iP:=((toks++ [(⟨#[]⟩:Str)]).take n).foldl (aG es) ⟨[],[]⟩
theorem jS{es:Array DictEntry}{toks:List Str}{i:Nat}(h:(toks++ [(⟨#[]⟩:Str)])[i]? =some t):aL es toks (i+1)=aG es (aL es toks i) t:=by
 unfold aL
 rw[Zo,h,aar]
 rfl
theorem qX(es:Array DictEntry)(s:iP)(t:Str)(n:Nat)(h:s.aS.length≤n∧s.bP.length≤n):(aG es s t).aS.length≤n+1∧(aG es s t).bP.length≤n+1:=by
 unfold aG
 repeat' split
 all_goals (simp only[YF,aaF,List.length_nil];omega)
theorem ly(es:Array DictEntry)(toks:List Str):∀i,(aL es toks i).aS.length≤i∧(aL es toks i).bP.length≤i
 | 0=>by simp[aL]
 | i+1=>by
  have ih:=ly es toks i
  cases h:(toks++ [(⟨#[]⟩:Str)])[i]? with
  | none=>
   have:aL es toks (i+1)=aL es toks i:=by
    unfold aL
    rw[Zo,h];simp
   rw[this];omega
  | some t=>rw[jS h];exact qX es _ t i ih
section
variable {y:Lay}{g:Gd}
noncomputable def Nt(toks:List Str)(i:Nat):Vs:=[some (.v (.lst ((toks.take i).map .str))),some (.r 30),some (.r 31),none,none,none,none]
noncomputable def GT(tx:Str):Os:=[(31,.list []),(30,.list []),(10,.cell (some (.v (.str tx))))]
noncomputable def Vz(es:Array DictEntry)(tx:Str)(z:AV):Hint:= .b (bG es (be tx (dC z).toNat)) (.sp .nil .nil)
noncomputable def TP(es:Array DictEntry)(tx:Str):Hint:= .a<| .f (zd es tx) (Vz es tx)<| .v (.lst (([2,3].filter fun n:Int=>bG es (be tx n.toNat)).map .int))<| .v (.int (cutSize es tx)) .nil
theorem LG(X:cH y g)(tx:Str)(hS:tx.length≤1000):(Ju y g).turn (GT tx) (zd y.es tx) (Vz y.es tx) [.int 2,.int 3]:=fun g' b z hz=>by
 obtain⟨k,Xk,rfl⟩:∃k:Int,0≤k∧z= .int k:=by
  rcases V1.mp hz with rfl | hz
  ·exact⟨2,by decide,rfl⟩
  ·exact⟨3,by decide,Yz.mp hz⟩
 refine aR (P:=_∧_∧pM (Ctx.mk (Jt y) g') (be tx (toNat k)) (AV.val (Value.ref (y.ad 101))) (bG (y.es) (be tx (toNat k)))∧(bG (y.es) (be tx (toNat k))=true→zd (y.es) tx (AV.int k)=some (.int k)∧rf (GT tx))∧(bG (y.es) (be tx (toNat k))=false→zd (y.es) tx (AV.int k)=none∧rf (GT tx)))
  ⟨Xk,sz hS rfl,⟨_,_,_,rfl,(X.bS b.bS).tab,rfl⟩,fun h=> ⟨(E5 (fun c=>cond c (some (AV.int k)) none) h:_=cond true _ _),rfl⟩,fun h=> ⟨(E5 (fun c=>cond c (some (AV.int k)) none) h:_=cond false _ _),rfl⟩⟩ (by kernel_rfl!)
theorem GU(X:cH y g)(toks:List Str)(i:Nat)(t:Str)(ht:toks[i]? =some t)(dc:toks.length≤100)(j_:(bk (toks.drop i)).length≠0)(hsz:(bk (toks.drop i)).length≤1000)
  (c1:be (bk (toks.drop i)) (cutSize y.es (bk (toks.drop i)))=t) (c2:fz (bk (toks.drop i)) (cutSize y.es (bk (toks.drop i)))=bk (toks.drop (i+1))) (R:RV→S→Prop):
  (Co y g).tv ⟨Nt toks i,GT (bk (toks.drop i)),TP y.es (bk (toks.drop i))⟩ fun c s1=>c=true∧(Cp y g).ex s1 fun f s3=>bF f (True∧av s3 (Nt toks (i+1)) (GT (bk (toks.drop (i+1))))) False fun v=>R v s3:=by
 rw[← c2]
 generalize bk (toks.drop i)=tx at j_ hsz c1
 have e:(toks.take i).map AV.str++ [.str (be tx (cutSize y.es tx))]=(toks.take (i+1)).map AV.str:=by rw[c1,Zo,ht,YA];rfl
 have Xl:(([2,3].filter fun n:Int=>bG y.es (be tx n.toNat)).map AV.int).length≤2:=ar (ZX _ _)
 refine aR (P:=_∧SL [AV.int 2,.int ((3:Nat):Int)]∧_∧_∧length [AV.int ((1:Nat):Int)]+length (map AV.int (filter (fun(n:Int)=>bG (y.es) (be tx (toNat n))) [2,3]))≤sizeLine∧Bp ([AV.int ((1:Nat):Int)]++map AV.int (filter (fun(n:Int)=>bG (y.es) (be tx (toNat n))) [2,3])) (AV.int (↑(cutSize (y.es) tx):Int))∧0≤(↑(cutSize (y.es) tx):Int)∧_∧length (map AV.str (take i toks))+length [AV.str (be tx (cutSize (y.es) tx))]≤sizeLine∧0≤(↑(cutSize (y.es) tx):Int)∧_∧True∧av (.mk ([some (.v (.lst (map AV.str (take i toks)++ [AV.str (be tx (cutSize (y.es) tx))]))),some (.r 30),some (.r 31),some (.v (.int (↑(cutSize (y.es) tx):Int))),none,none,none]) ([(31,EO.list []),(30,EO.list []),(10,EO.cell (some (.v (.str (fz tx (cutSize (y.es) tx))))))]) .nil) (Nt toks (i+1)) (GT (fz tx (cutSize (y.es) tx))))
  ⟨(Cq tx).trans (U5 j_),by decide,LG X tx hsz,Cr y.es tx,sz (sa (E8 1) Xl) rfl,⟨xL y.es tx,rfl,Nat.zero_lt_succ _,fun m h1 h2=>E5 AV.int (GS y.es tx h1 h2).symm⟩,V6 _,sz hsz rfl,
  sz (sa (ar (iy dc)) (E8 1)) rfl,V6 _,sz hsz rfl,trivial,by rw[e];rfl⟩ (by kernel_rfl!)
noncomputable def xO:Vs:=[none,some (.r 30),some (.r 31),none,none,none,none]
noncomputable def tG(s:iP):Os:=[(31,.list (s.bP.map xN)),(30,.list (s.aS.map .str))]
noncomputable def Cs(sy:Int)(m:List Int)(k:Hint):Hint:= .call (.v (.bool (sy==0))) []<| .call (.v (.bool (decide (256≤sy)))) []<| .call (.v (.bool (decide (sy<256)))) []<| .f eB (fun O=> .sp .nil (.sp .nil .nil))<| .v (.lst (m.map .int)) k
theorem TQ(hl:∀z∈l,∃b,z= .bool b)(os:Os):(tF y g).turn os eB (fun O=> .sp .nil (.sp .nil .nil)) l:=fun g' b z hz=>by
 obtain⟨b,rfl⟩:=hl z hz
 refine aR (P:=((b==true)=true→eB (AV.bool b)=some (AV.int ((1:Nat):Int))∧(elim none os fun(q:Str×Nat)=> (snd q,EO.cell none)::os)=os)∧((b==true)=false→((b==false)=true→eB (AV.bool b)=some (AV.int ((0:Nat):Int))∧(elim none os fun(q:Str×Nat)=> (snd q,EO.cell none)::os)=os)∧((b==false)=false→eB (AV.bool b)=some (AV.int ((2:Nat):Int))∧(elim none os fun(q:Str×Nat)=> (snd q,EO.cell none)::os)=os))) ?_ (by kernel_rfl!)
 cases b
 ·exact⟨(fun h=>nomatch h),fun O=> ⟨fun O=> ⟨rfl,rfl⟩,(fun h=>nomatch h)⟩⟩
 ·exact⟨fun O=> ⟨rfl,rfl⟩,(fun h=>nomatch h)⟩
theorem vD(a b c:Bool):∀z∈[AV.bool a,.bool b,.bool c],∃d,z= .bool d:=fun z hz=>by
 rcases V1.mp hz with rfl | hz
 ·exact⟨_,rfl⟩
 ·rcases V1.mp hz with rfl | hz
  ·exact⟨_,rfl⟩
  ·exact⟨_,Yz.mp hz⟩
theorem Jv{a b c:Bool}{a' b' c':Bool}(h1:a=a')(h2:b=b')(h3:c=c'): [AV.bool a,.bool b,.bool c].filterMap eB=[cond a' 1 0,cond b' 1 0,cond c' 1 0].map AV.int:=by rw[h1,h2,h3];rfl
theorem P6{xs ys:List Int}{b:Bool}(h:decide (xs=ys)=b):fK (.lst (xs.map .int)) (.lst (ys.map .int)) b:=h▸ze
structure RJ(s:iP):Prop where
 p:s.aS.length≤101
 r:s.bP.length≤101
noncomputable def LH(c:Int):Hint:= .b true<| .a<| .v (.int c)<|Cs (c+201) [0,0,1]<| .b false<| .a<| .v (.lst [.int 0,.int 1])<| .b true<| .a<| .a<| .a .nil
noncomputable abbrev qY:=map AV.int [0,0,1]
theorem P7(X:cH y g)(hn:9≤g.n)(s:iP)(ho:RJ s)(t:Str)(c:Int)(tk:Tok)(hf:bf y.es t=some (.int c tk))(h7:7≤c)(VA:c≤54)(R:RV→S→Prop):
  (nH y g).set (.v (.str t)) ⟨xO,tG s,LH c⟩ fun s2=> (nJ y g).ex s2 fun f s3=>bF f (True∧av s3 xO (tG (aG y.es s t))) False fun v=>R v s3:=by
 have hs:aG y.es s t=⟨s.aS,s.bP++ [some (c+201)]⟩:=by
  unfold aG
  rw[hf]
 have m1:(c+201==0)=false:=Zs.mpr (by omega)
 have m2:decide (256≤c+201)=false:=U4 (by omega)
 have m3:decide (c+201<256)=true:=U5 (by omega)
 refine aR (P:=pM (Ctx.mk (zV y) g) t (AV.val (Value.ref (y.ad 101))) true∧Bm (Ctx.mk (zV y) g) (AV.val (Value.ref (y.ad 101))) t (AV.int c)∧Fn g (RV.v (.val (Value.ref (y.ad 64)))) [RV.v (.int (c+201))] [] [] [] (RV.v (.bool (c+201==0))) []∧Fn g (RV.v (.val (Value.ref (y.ad 63)))) [RV.v (.int (c+201))] [] [] [] (RV.v (.bool (decide (256≤c+201)))) []∧Fn g (RV.v (.val (Value.ref (y.ad 62)))) [RV.v (.int (c+201))] [] [] [] (RV.v (.bool (decide (c+201<256)))) []∧SL [AV.bool (c+201==0),.bool (decide (256≤c+201)),.bool (decide (c+201<256))]∧LC.bV (tF y g) none (tG s) eB (fun(x:AV)=>Hint.sp .nil (Hint.sp .nil .nil)) [AV.bool (c+201==0),.bool (decide (256≤c+201)),.bool (decide (c+201<256))]∧filterMap eB [AV.bool (c+201==0),.bool (decide (256≤c+201)),.bool (decide (c+201<256))]=map AV.int [0,0,1]∧fK (AV.lst qY) (AV.lst [.int ((0:Nat):Int),AV.int ((1:Nat):Int),AV.int ((0:Nat):Int)]) false∧SL qY∧AV.lst (cu qY (some ((1:Nat):Int)) none none)=AV.lst [.int 0,AV.int 1]∧fK (AV.lst [.int 0,AV.int 1]) (AV.lst [.int ((0:Nat):Int),AV.int ((1:Nat):Int)]) true∧SL (map xN (iP.bP s))∧True∧av (.mk ([none,some (.r 30),some (.r 31),none,some (.v (.str t)),some (.v (.int (c+201))),some (.v (.lst qY))]) ([(31,EO.list (map xN (iP.bP s)++ [AV.int (c+201)])),(30,EO.list (map AV.str (iP.aS s)))]) .nil) (xO) (tG (aG (y.es) s t)))
  ⟨⟨_,_,_,rfl,X.tab,by rw[hf];rfl⟩,⟨_,_,_,c,tk,rfl,rfl,X.tab,hf⟩,vq X hn _,e_ X hn _,hM X hn _,E1 rfl,TQ (vD _ _ _) _,Jv m1 m2 m3,P6 (ys:=[0,1,0]) rfl,by decide,rfl,P6 (xs:=[0,1]) (ys:=[0,1]) rfl,sz (ar ho.r) rfl,trivial,?_⟩ (by kernel_rfl!)
 rw[hs]
 show _=(_,[(31,EO.list ((s.bP++ [some (c+201)]).map xN)),_])
 rw[YA];rfl
noncomputable def LI:Hint:= .b false<| .a<| .b false<|Cs 0 [1,0,1]<| .b false<| .a<| .v (.lst [.int 0,.int 1])<| .b true<| .a<| .a<| .a .nil
noncomputable abbrev qZ:=map AV.int [1,0,1]
noncomputable abbrev vE:=[RV.v (.int ((0:Nat):Int))]
theorem P8(X:cH y g)(hn:9≤g.n)(s:iP)(ho:RJ s)(t:Str)(hf:bf y.es t=none)(h0:t.length=0)(R:RV→S→Prop):
  (nH y g).set (.v (.str t)) ⟨xO,tG s,LI⟩ fun s2=> (nJ y g).ex s2 fun f s3=>bF f (True∧av s3 xO (tG (aG y.es s t))) False fun v=>R v s3:=by
 have hs:aG y.es s t=⟨s.aS,s.bP++ [none]⟩:=by
  unfold aG
  rw[hf]
  exact V8 h0
 refine aR (P:=pM (Ctx.mk (zV y) g) t (AV.val (Value.ref (y.ad 101))) false∧Str.length t≤sizeLine∧((↑(Str.length t):Int) !=0)=false∧Fn g (RV.v (.val (Value.ref (y.ad 64)))) vE [] [] [] (RV.v (.bool (0==0))) []∧Fn g (RV.v (.val (Value.ref (y.ad 63)))) vE [] [] [] (RV.v (.bool (decide (256≤0)))) []∧Fn g (RV.v (.val (Value.ref (y.ad 62)))) vE [] [] [] (RV.v (.bool (decide (0<256)))) []∧SL [AV.bool (0==0),.bool (decide (256≤0)),.bool (decide (0<256))]∧LC.bV (tF y g) none (tG s) eB (fun(x:AV)=>Hint.sp .nil (Hint.sp .nil .nil)) [AV.bool (0==0),.bool (decide (256≤0)),.bool (decide (0<256))]∧filterMap eB [AV.bool (0==0),.bool (decide (256≤0)),.bool (decide (0<256))]=map AV.int [1,0,1]∧fK (AV.lst qZ) (AV.lst [.int ((0:Nat):Int),AV.int ((1:Nat):Int),AV.int ((0:Nat):Int)]) false∧SL qZ∧AV.lst (cu qZ (some ((1:Nat):Int)) none none)=AV.lst [.int 0,AV.int 1]∧fK (AV.lst [.int 0,AV.int 1]) (AV.lst [.int ((0:Nat):Int),AV.int ((1:Nat):Int)]) true∧SL (map xN (iP.bP s))∧True∧av (.mk ([none,some (.r 30),some (.r 31),none,some (.v (.str t)),some (.v (.int ((0:Nat):Int))),some (.v (.lst qZ))]) ([(31,EO.list (map xN (iP.bP s)++ [AV.str (Str.ofString "end")])),(30,EO.list (map AV.str (iP.aS s)))]) .nil) (xO) (tG (aG (y.es) s t)))
  ⟨⟨_,_,_,rfl,X.tab,by rw[hf];rfl⟩,sz (U8 h0) rfl,by rw[h0];rfl,vq X hn _,e_ X hn _,hM X hn _,E1 rfl,TQ (vD _ _ _) _,rfl,P6 (ys:=[0,1,0]) rfl,by decide,rfl,P6 (xs:=[0,1]) (ys:=[0,1]) rfl,sz (ar ho.r) rfl,trivial,?_⟩ (by kernel_rfl!)
 rw[hs]
 show _=(_,[(31,EO.list ((s.bP++ [none]).map xN)),_])
 rw[YA];rfl
noncomputable def LJ(s:iP):Hint:= .b false<| .a<| .b true<|Cs (256+(s.aS.map AV.str).length) [0,1,0]<| .b true<| .a .nil
noncomputable abbrev hZ(s:iP):=length (map AV.str (iP.aS s))
noncomputable abbrev q4(s:iP):=256+(↑(hZ s):Int)<256
noncomputable abbrev q5(s:iP):=256+(↑(hZ s):Int)==0
noncomputable abbrev vF(s:iP):=[RV.v (.int (256+(↑(hZ s):Int)))]
theorem P9(X:cH y g)(hn:9≤g.n)(s:iP)(ho:RJ s)(t:Str)(hf:bf y.es t=none)(h0:t.length≠0)(ht:t.length≤1000)(R:RV→S→Prop):
  (nH y g).set (.v (.str t)) ⟨xO,tG s,LJ s⟩ fun s2=> (nJ y g).ex s2 fun f s3=>bF f (True∧av s3 xO (tG (aG y.es s t))) False fun v=>R v s3:=by
 have hs:aG y.es s t=⟨s.aS++ [t],s.bP⟩:=by
  unfold aG
  rw[hf]
  exact V4 h0
 have hx:(0:Int)≤((s.aS.map AV.str).length:Int):=V6 _
 have m1:(256+((s.aS.map AV.str).length:Int)==0)=false:=Zs.mpr (by omega)
 have m2:decide (256≤256+((s.aS.map AV.str).length:Int))=true:=U5 (by omega)
 have m3:decide (256+((s.aS.map AV.str).length:Int)<256)=false:=U4 (by omega)
 refine aR (P:=pM (Ctx.mk (zV y) g) t (AV.val (Value.ref (y.ad 101))) false∧Str.length t≤sizeLine∧((↑(Str.length t):Int) !=0)=true∧SL (map AV.str (iP.aS s))∧Fn g (RV.v (.val (Value.ref (y.ad 64)))) (vF s) [] [] [] (RV.v (.bool (q5 s))) []∧Fn g (RV.v (.val (Value.ref (y.ad 63)))) (vF s) [] [] [] (RV.v (.bool (decide (256≤256+(↑(hZ s):Int))))) []∧Fn g (RV.v (.val (Value.ref (y.ad 62)))) (vF s) [] [] [] (RV.v (.bool (decide (q4 s)))) []∧SL [AV.bool (q5 s),.bool (decide (256≤256+(↑(hZ s):Int))),.bool (decide (q4 s))]∧LC.bV (tF y g) none (tG s) eB (fun(x:AV)=>Hint.sp .nil (Hint.sp .nil .nil)) [AV.bool (q5 s),.bool (decide (256≤256+(↑(hZ s):Int))),.bool (decide (q4 s))]∧filterMap eB [AV.bool (q5 s),.bool (decide (256≤256+(↑(hZ s):Int))),.bool (decide (q4 s))]=map AV.int [0,1,0]∧fK (AV.lst (map AV.int [0,1,0])) (AV.lst [.int ((0:Nat):Int),AV.int ((1:Nat):Int),AV.int ((0:Nat):Int)]) true∧SL (map AV.str (iP.aS s))∧True∧av (.mk ([none,some (.r 30),some (.r 31),none,some (.v (.str t)),some (.v (.int (256+(↑(hZ s):Int)))),some (.v (.lst (map AV.int [0,1,0])))]) ([(31,EO.list (map xN (iP.bP s))),(30,EO.list (map AV.str (iP.aS s)++ [AV.str t]))]) .nil) (xO) (tG (aG (y.es) s t)))
  ⟨⟨_,_,_,rfl,X.tab,by rw[hf];rfl⟩,sz ht rfl,bne_iff_ne.mpr fun e=>h0 (Int.ofNat.inj e),sz (ar ho.p) rfl,vq X hn _,e_ X hn _,hM X hn _,E1 rfl,TQ (vD _ _ _) _,Jv m1 m2 m3,P6 (ys:=[0,1,0]) rfl,sz (ar ho.p) rfl,trivial,?_⟩ (by kernel_rfl!)
 rw[hs]
 show _=(_,[_,(30,EO.list ((s.aS++ [t]).map .str))])
 rw[YA];rfl
noncomputable def codeOf(es:Array DictEntry)(t:Str):Int:=match bf es t with
 | some (.int c _)=>c
 | _=>0
noncomputable def LK(es:Array DictEntry)(toks:List Str)(i:Nat)(y:AV):Hint:=cond (bG es (jf y)) (LH (codeOf es (jf y))) (cond ((jf y).length==0) LI (LJ (aL es toks i)))
theorem GW(X:cH y g)(hn:9≤g.n)(T:zc y.es)(toks:List Str)(dc:toks.length≤100)(gS:∀(i:Nat) (t:Str),(toks++ [(⟨#[]⟩:Str)])[i]? =some t→t.length≤1000)(R:RV→S→Prop):
  bg (nH y g) (nJ y g) ((toks++ [(⟨#[]⟩:Str)]).map .str) (fun O=>True) (fun O=>xO) (fun i=>tG (aL y.es toks i)) (LK y.es toks) R:=fun i z hz O=>by
 rw[V9] at hz
 cases ht:(toks++ [(⟨#[]⟩:Str)])[i]? with
 | none=>rw[ht] at hz;cases hz
 | some t=>
  rw[ht] at hz
  cases hz
  have hi:i≤100:=by
   have:=(V7.mp ht).1
   rw[ny] at this
   exact E4 (YS this) dc
  obtain⟨h1,h2⟩:=ly y.es toks i
  have ho:RJ (aL y.es toks i):=⟨E4 h1 (ZG hi),E4 h2 (ZG hi)⟩
  show(nH y g).set _ ⟨_,_,cond (bG y.es t) (LH (codeOf y.es t)) (cond (t.length==0) LI (LJ (aL y.es toks i)))⟩ fun s2=> (nJ y g).ex s2 fun f s3=>bF f (True∧av s3 xO (tG (aL y.es toks (i+1)))) False fun v=>R v s3
  rw[jS ht]
  unfold bG codeOf
  cases hf:bf y.es t with
  | some v=>
   obtain⟨c,tk,rfl,h7,VA⟩:=T.codes t v hf
   exact P7 X hn _ ho t c tk hf h7 VA R
  | none=>
   cases h0:(t.length==0) with
   | true=>exact P8 X hn _ ho t hf (eq_of_beq h0) R
   | false=>exact P9 X hn _ ho t hf (aai h0) (gS i t ht) R
theorem GY(X:cH y g)(hn:10≤g.n)(T:zc y.es)(toks:List Str)(dc:toks.length≤100)(gS:∀(i:Nat) (t:Str),(toks++ [(⟨#[]⟩:Str)])[i]? =some t→t.length≤1000)
  (j_:∀i,i<toks.length→(bk (toks.drop i)).length≠0) (hsz:∀i,(bk (toks.drop i)).length≤1000)
  (P_:∀i t,toks[i]? =some t→be (bk (toks.drop i)) (cutSize y.es (bk (toks.drop i)))=t∧fz (bk (toks.drop i)) (cutSize y.es (bk (toks.drop i)))=bk (toks.drop (i+1))):
  Fn g (.v (.val (.ref (y.ad 73)))) [.v (.str (bk toks))] [] [] [] (.v (.tup [.lst ((aL y.es toks (toks.length+1)).aS.map .str),.lst ((aL y.es toks (toks.length+1)).bP.map xN)])) []:=by
 refine iN X (YN hn) (X.fn 73 "_law_read" (by decide)) (zV y) (Xj y)
  (.wh toks.length (fun i=>Nt toks i) (fun i=>GT (bk (toks.drop i))) (fun i=>TP y.es (bk (toks.drop i)))<|
   .loop (fun O=>True) (fun O=>xO) (fun i=>tG (aL y.es toks i)) (LK y.es toks) .nil) (by intros;kernel_rfl!) fun g' b=>?_
 have X':=X.bS b.bS
 have ws:vm (Co y g') (Cp y g') toks.length (fun i=>Nt toks i) (fun i=>GT (bk (toks.drop i))) (fun i=>TP y.es (bk (toks.drop i))) _:=fun i hi=>by
  have ht:toks[i]? =some toks[i]:=U6 hi
  exact GU X' toks i _ ht dc (j_ i hi) (hsz i) (P_ i _ ht).1 (P_ i _ ht).2 (fun v s3=>dH (.ret v) s3 (.tup [.lst ((aL y.es toks (toks.length+1)).aS.map .str),.lst ((aL y.es toks (toks.length+1)).bP.map xN)]) [])
 have e1:bk (toks.drop toks.length)=Str.ofString "":=by rw[List.drop_length];rfl
 have e2:(toks.take toks.length).map AV.str++ [AV.str (Str.ofString "")]=(toks++ [(⟨#[]⟩:Str)]).map .str:=by rw[ZM,YA];rfl
 have e3:((toks.take toks.length).map AV.str++ [AV.str (Str.ofString "")]).length=toks.length+1:=by rw[e2,E9,ny]
 refine aR (P:=EE ((fun(i:Nat)=>Nt toks i) 0) ((fun(i:Nat)=>GT (bk (drop i toks))) 0)∧_∧(!bk (drop (length toks) toks)==Str.ofString "")=false∧length (map AV.str (take (length toks) toks))+length [AV.str (Str.ofString "")]≤sizeLine∧(True∧EE ((fun(x:Nat)=>xO) 0) ((fun(i:Nat)=>tG (aL (y.es) toks i)) 0))∧(bg (nH y g') (nJ y g') (map AV.str (take (length toks) toks)++ [AV.str (Str.ofString "")]) (fun(x:Nat)=>True) (fun(x:Nat)=>xO) (fun(i:Nat)=>tG (aL (y.es) toks i)) (LK (y.es) toks) fun(v:RV) (s3:S)=>dH (RF.ret v) s3 (AV.tup [.lst (map AV.str (iP.aS (aL (y.es) toks (length toks+1)))),AV.lst (map xN (iP.bP (aL (y.es) toks (length toks+1))))]) [])∧(True→VI (.tup [.lst (map AV.str (iP.aS (aL (y.es) toks (length (map AV.str (take (length toks) toks)++ [AV.str (Str.ofString "")]))))),AV.lst (map xN (iP.bP (aL (y.es) toks (length (map AV.str (take (length toks) toks)++ [AV.str (Str.ofString "")])))))]) (.tup [.lst (map AV.str (iP.aS (aL (y.es) toks (length toks+1)))),AV.lst (map xN (iP.bP (aL (y.es) toks (length toks+1))))])∧rf ([]:Os)))
  ⟨rfl,ws,by rw[e1];rfl,sz (sa (ar (iy dc)) (E8 1)) rfl,⟨trivial,rfl⟩,?_,fun O=> ⟨by rw[e3],rfl⟩⟩ (by kernel_rfl!)
 rw[e2]
 exact GW X' (by rw[b.n];exact YY hn) T toks dc gS _
end
end
end
section
section
noncomputable def Qa(y:Lay):Cx:=cx y ["some","signs","total","k"] [] [1,0,27] true
noncomputable def nL(y:Lay)(g:Gd):TG ⟨Qa y,g⟩:=(.n (.loc 3) 314 8)
noncomputable def nM(y:Lay)(g:Gd):SB ⟨Qa y,g⟩:=(.cons (.ite (.ne (.get (.get (.lo 1 315 11) (.get (.lo 0 315 17) (.nt 0 315 22))) (.get (.lo 0 315 26) (.lo 3 315 31))) (.nt 0 315 38)) (.cons (.au (.loc 2) 316 12 (.mul (.mul (.pow (.neg (.nt 1 316 23)) (.sub (.lo 3 316 30) (.nt 1 316 34)) (q 316 21 36)) (.get (.get (.lo 1 316 39) (.get (.lo 0 316 45) (.nt 0 316 50))) (.get (.lo 0 316 54) (.lo 3 316 59)))) (.cl 27 316 65 [(.add (.get (.lo 0 316 79) (.iJ (some (.nt 1 316 84)) (some (.lo 3 316 86)) .none)) (.get (.lo 0 316 91) (.iJ (some (.add (.lo 3 316 96) (.nt 1 316 100))) .none .none))),(.lo 1 316 105)])))<| .nil) .nil ⟨315,8,316,111⟩)<| .nil)
noncomputable def VB(y:Lay)(g:Gd):SB ⟨Qa y,g⟩:=(.cons (.ag (.loc 2) 313 4 (.yR (.lo 0 313 17) (.nt 0 313 12) (.nt 1 313 27)))<|(.cons (.for (nL y g) (.of (.cl 1 314 13 [(.nt 1 314 19),(.cl 0 314 22 [(.lo 0 314 26)])])) (nM y g) ⟨314,4,316,111⟩)<|(.cons (.ret (.lo 2 317 11))<| .nil)))
noncomputable def ak(sg:List (List Int)):List AV:=sg.map fun r=> .lst (r.map .int)
noncomputable def bJ(sg:List (List Int))(a b:Nat):Int:=(sg.getD a []).getD b 0
noncomputable def d_(l:List Nat)(i:Nat):List Nat:=(l.take (i+1)).drop 1++l.drop (i+2)
noncomputable def cW(pf:List Nat→Int)(sg:List (List Int))(l:List Nat)(i:Nat)(t:Int):Int:=
 cond (bJ sg (l.getD 0 0) (l.getD (i+1) 0) !=0) (t+(-1) ^ i*bJ sg (l.getD 0 0) (l.getD (i+1) 0)*pf (d_ l i)) t
noncomputable def ut(pf:List Nat→Int)(sg:List (List Int))(l:List Nat)(i:Nat):Int:=i.rec (cond (beq l.length 0) 1 0) fun i t=>cW pf sg l i t
noncomputable def dJ(sg:List (List Int)):Nat→List Nat→Int
 | 0,_=>0
 | n+1,l=>ut (dJ sg n) sg l (l.length - 1)
structure q6(sg:List (List Int)):Prop where
 l:sg.length=5
 r:∀a,a<5→(sg.getD a []).length=5
 s:∀a b,a<5→b<5→bJ sg a b=0∨bJ sg a b=1∨bJ sg a b= -1
section
variable {y:Lay}{g:Gd}
noncomputable def tH(sg:List (List Int))(l:List Nat)(t:Int):Vs:=[some (.v (.lst (af l))),some (.v (.lst (ak sg))),some (.v (.int t)),none]
noncomputable def LL(sg:List (List Int))(l:List Nat)(i:Nat)(h:Hint):Hint:=
 .v (.int (l.getD 0 0:Nat))<| .v (.lst ((sg.getD (l.getD 0 0) []).map .int))<| .v (.int (l.getD (i+1) 0:Nat))<| .v (.int (bJ sg (l.getD 0 0) (l.getD (i+1) 0))) h
noncomputable def Qb(pf:List Nat→Int)(sg:List (List Int))(l:List Nat)(i:Nat):Hint:=
 LL sg l i<| .b (bJ sg (l.getD 0 0) (l.getD (i+1) 0)==0)<| .a<|cond (bJ sg (l.getD 0 0) (l.getD (i+1) 0) !=0) (LL sg l i<| .v (.lst (af ((l.take (i+1)).drop 1)))<| .v (.lst (af (l.drop (i+2))))<| .call (.v (.int (pf (d_ l i)))) [] .nil) .nil
structure Xm(sg:List (List Int))(l:List Nat)(i:Nat):Prop where
 a:(af l).length≤sizeLine
 b:bT (af l) ((0:Nat):Int)=some (.int (l.getD 0 0:Nat))
 c:(ak sg).length≤sizeLine
 d:bT (ak sg) (l.getD 0 0:Nat)=some (.lst ((sg.getD (l.getD 0 0) []).map .int))
 e:bT (af l) ((i+1:Nat):Int)=some (.int (l.getD (i+1) 0:Nat))
 f:((sg.getD (l.getD 0 0) []).map AV.int).length≤sizeLine
 g:bT ((sg.getD (l.getD 0 0) []).map AV.int) (l.getD (i+1) 0:Nat)=some (.int (bJ sg (l.getD 0 0) (l.getD (i+1) 0)))
 s:bJ sg (l.getD 0 0) (l.getD (i+1) 0)=0∨bJ sg (l.getD 0 0) (l.getD (i+1) 0)=1∨bJ sg (l.getD 0 0) (l.getD (i+1) 0)= -1
theorem xP{sg:List (List Int)}(hs:q6 sg){l:List Nat}(hl:l.length≤5)(h5:∀a∈l,a<5){i:Nat}(hi:i+1<l.length):Xm sg l i:=by
 have h0:0<l.length:=YE (Y8 _) hi
 have m0:l.getD 0 0<5:=by rw[U3,U6 h0];exact h5 _ (Zm h0)
 have mi:l.getD (i+1) 0<5:=by rw[U3,U6 hi];exact h5 _ (Zm hi)
 exact⟨sz (ar hl) rfl,aO 0 h0,sz (ar (U8 hs.l)) rfl,aO [] (by rw[hs.l];exact m0),aO 0 hi,sz (ar (U8 (hs.r _ m0))) rfl,aO 0 (by rw[hs.r _ m0];exact mi),hs.s _ _ m0 mi⟩
theorem tI{i j:Int}{b:Bool}(h:(i==j)=b):fK (.int i) (.int j) b:=⟨.int i,.int j,rfl,rfl,rfl,rfl,rfl,rfl,h⟩
theorem Qc{a b:Int}(h:a=0∨a=1∨a= -1):IntMulOk a b:=ab6 (by rcases h with rfl | rfl | rfl <;> decide)
theorem LM:∀i:Nat,(-1:Int) ^ i=1∨(-1:Int) ^ i= -1
 | 0=> .inl rfl
 | i+1=>by
  rw[Int.pow_succ]
  rcases LM i with h | h <;> rw[h]
  ·exact .inr rfl
  ·exact .inl rfl
theorem Xn{a b:Int}(h:a=1∨a= -1)(k:b=0∨b=1∨b= -1):a*b=0∨a*b=1∨a*b= -1:=by
 rcases h with rfl | rfl <;> rcases k with rfl | rfl | rfl <;> decide
theorem LN(X:cH y g)(hn:9≤g.n){sg:List (List Int)}(hs:q6 sg){pf:List Nat→Int}{l:List Nat}(hl:l.length≤5)(h5:∀a∈l,a<5)(i:Nat)(hi:i+1<l.length)(t:Int)(R:RV→S→Prop)
  (hc:(bJ sg (l.getD 0 0) (l.getD (i+1) 0)==0)=false) (fp:Fn g (.v (.val (.ref (y.ad 77)))) [.v (.lst (af (d_ l i))),.v (.lst (ak sg))] [] [] [] (.v (.int (pf (d_ l i)))) []):
  (nL y g).set (.v (.int ((i+1:Nat):Int))) ⟨tH sg l t,[],LL sg l i<| .b false<| .a<|LL sg l i<| .v (.lst (af ((l.take (i+1)).drop 1)))<| .v (.lst (af (l.drop (i+2))))<| .call (.v (.int (pf (d_ l i)))) [] .nil⟩ fun s2=> (nM y g).ex s2 fun f s3=>bF f (True∧av s3 (tH sg l (t+(-1) ^ i*bJ sg (l.getD 0 0) (l.getD (i+1) 0)*pf (d_ l i))) []) False fun v=>R v s3:=by
 have F:=xP hs hl h5 hi
 have e1:((i+1:Nat):Int) - ((1:Nat):Int)=i:=Int.add_sub_cancel (i:Int) 1
 have e3:af ((l.take (i+1)).drop 1)++af (l.drop (i+2))=af (d_ l i):=(YA ..).symm
 have p:(Builtin.Int.intBits (-((1:Nat):Int)):Int)*i≤2 ^ 27:=by
  rw[show(Builtin.Int.intBits (-((1:Nat):Int)):Int)=1 from rfl,Y']
  exact aaR (Zl.mpr (E4 (abg i) (E4 (Yy hi) hl))) (by decide)
 have s1:(af l).length≤5:=ar hl
 refine aR (P:=SL (af l)∧AG (af l) ((0:Nat):Int) (.int ↑(List.getD l 0 0))∧SL (ak sg)∧AG (ak sg) (↑(List.getD l 0 0):Int) (.lst (map .int (List.getD sg (List.getD l 0 0) [])))∧SL (af l)∧AG (af l) (↑(i+1):Int) (.int (↑(List.getD l (i+1) 0):Int))∧SL (map AV.int (List.getD sg (List.getD l 0 0) []))∧AG (map .int (List.getD sg (List.getD l 0 0) [])) (↑(List.getD l (i+1) 0):Int) (.int (bJ sg (List.getD l 0 0) (List.getD l (i+1) 0)))∧fK (AV.int (bJ sg (List.getD l 0 0) (List.getD l (i+1) 0))) (AV.int ((0:Nat):Int)) false∧0≤(↑(i+1):Int) - ((1:Nat):Int)∧(↑(Builtin.Int.intBits (-((1:Nat):Int))):Int)*((↑(i+1):Int) - ((1:Nat):Int))≤2 ^ 27∧SL (af l)∧AG (af l) ((0:Nat):Int) (.int ↑(List.getD l 0 0))∧SL (ak sg)∧AG (ak sg) (↑(List.getD l 0 0):Int) (.lst (map .int (List.getD sg (List.getD l 0 0) [])))∧SL (af l)∧AG (af l) (↑(i+1):Int) (.int (↑(List.getD l (i+1) 0):Int))∧SL (map AV.int (List.getD sg (List.getD l 0 0) []))∧AG (map .int (List.getD sg (List.getD l 0 0) [])) (↑(List.getD l (i+1) 0):Int) (.int (bJ sg (List.getD l 0 0) (List.getD l (i+1) 0)))∧IntMulOk ((-((1:Nat):Int)) ^ toNat ((↑(i+1):Int) - ((1:Nat):Int))) (bJ sg (List.getD l 0 0) (List.getD l (i+1) 0))∧SL (af l)∧AV.lst (cu (af l) (some ((1:Nat):Int)) (some (↑(i+1):Int)) none)= .lst (af (drop 1 (take (i+1) l)))∧SL (af l)∧AV.lst (cu (af l) (some ((↑(i+1):Int)+((1:Nat):Int))) none none)= .lst (af (drop (i+2) l))∧length (af (drop 1 (take (i+1) l)))+length (af (drop (i+2) l))≤sizeLine∧Fn g (.v (.val (.ref (y.ad 77)))) [.v (.lst (af (drop 1 (take (i+1) l))++af (drop (i+2) l))),.v (.lst (ak sg))] [] [] [] (.v (.int (pf (d_ l i)))) []∧IntMulOk ((-((1:Nat):Int)) ^ toNat ((↑(i+1):Int) - ((1:Nat):Int))*bJ sg (List.getD l 0 0) (List.getD l (i+1) 0)) (pf (d_ l i))∧True∧av (.mk ([some (.v (.lst (af l))),some (.v (.lst (ak sg))),some (.v (.int (t+(-((1:Nat):Int)) ^ toNat ((↑(i+1):Int) - ((1:Nat):Int))*bJ sg (List.getD l 0 0) (List.getD l (i+1) 0)*pf (d_ l i)))),some (.v (.int ↑(i+1)))]) ([]) .nil) (tH sg l (t+(-1:Int) ^ i*bJ sg (List.getD l 0 0) (List.getD l (i+1) 0)*pf (d_ l i))) ([])) ?_ (by kernel_rfl!)
 rw[e1,e3,Z2]
 refine⟨F.a,F.b,F.c,F.d,F.a,F.e,F.f,F.g,tI hc,V6 i,p,F.a,F.b,F.c,F.d,F.a,F.e,F.f,F.g,Qc ((LM i).elim (fun h=> .inr (.inl h)) fun h=> .inr (.inr h)),F.a,?_,F.a,?_,sz (sa (ar (l7 (iy hl))) (ar (l7 hl))) rfl,fp,Qc (Xn (LM i) F.s),trivial,rfl⟩
 ·rw[uN _ (by decide) (V6 _)]
  unfold af
  rw[aaI,aaH];rfl
 ·rw[jd (af l) (k:=((i+1:Nat):Int)+((1:Nat):Int)) (V6 (i+2))]
  unfold af
  rw[aaI];rfl
theorem Qd(X:cH y g)(hn:9≤g.n){sg:List (List Int)}(hs:q6 sg){l:List Nat}(hl:l.length≤5)(h5:∀a∈l,a<5)(i:Nat)(hi:i+1<l.length)(t:Int)(R:RV→S→Prop)
  (hc:(bJ sg (l.getD 0 0) (l.getD (i+1) 0)==0)=true):
  (nL y g).set (.v (.int ((i+1:Nat):Int))) ⟨tH sg l t,[],LL sg l i<| .b true<| .a .nil⟩ fun s2=> (nM y g).ex s2 fun f s3=>bF f (True∧av s3 (tH sg l t) []) False fun v=>R v s3:=by
 have F:=xP hs hl h5 hi
 refine aR (P:=_∧_∧_∧_∧_∧_∧_∧_∧_∧True∧EE (tH sg l t) ([]))
  ⟨F.a,F.b,F.c,F.d,F.a,F.e,F.f,F.g,tI hc,trivial,rfl⟩ (by kernel_rfl!)
theorem GZ{n i:Nat}{y:AV}(h:(aJ 1 (n:Nat) 1)[i]? =some y):i+1<n∧y= .int ((i+1:Nat):Int):=by
 have hi:=(V7.mp h).1
 have hs:rangeSize 1 (n:Nat) 1=((n - 1:Nat):Int):=by
  unfold rangeSize
  repeat' split
  all_goals omega
 rw[gY,hs,Z2] at hi
 unfold aJ at h
 rw[V9,hs,Z2,ZH hi] at h
 cases h
 exact⟨Nat.add_lt_of_lt_sub hi,E5 AV.int (by rw[mul_one];exact Int.add_comm ..)⟩
theorem tJ(n:Nat):(aJ 1 (n:Nat) 1).length=n - 1:=by
 rw[gY]
 unfold rangeSize
 split <;> omega
theorem small_one{n:Nat}(h:n≤5):Builtin.Range.small 1 (n:Nat) 1=true:=by
 match n,h with
 | 0,_=>rfl
 | 1,_=>rfl
 | 2,_=>rfl
 | 3,_=>rfl
 | 4,_=>rfl
 | 5,_=>rfl
theorem Jw{sg:List (List Int)}(hs:q6 sg):∀(n:Nat) {g:Gd} (X:cH y g) (hn:n+9≤g.n) (l:List Nat) (hl:l.length<n) (h5:l.length≤5) (hm:∀a∈l,a<5),
  Fn g (.v (.val (.ref (y.ad 77)))) [.v (.lst (af l)),.v (.lst (ak sg))] [] [] [] (.v (.int (dJ sg n l))) []
 | 0,_,_,_,l,hl,_,_=>absurd hl (aah _)
 | n+1,g,X,hn,l,hl,h5,hm=>by
  have key:∀b,(!decide ((af l).length=0))=b→Fn g (.v (.val (.ref (y.ad 77)))) [.v (.lst (af l)),.v (.lst (ak sg))] [] [] [] (.v (.int (dJ sg (n+1) l))) []:=fun b hb=>by
   have len:(af l).length=l.length:=E9 ..
   have s1:(af l).length≤sizeLine:=sz (ar h5) rfl
   have ii:∀i,i+1<l.length→ut (dJ sg n) sg l (i+1)=cW (dJ sg n) sg l i (ut (dJ sg n) sg l i):=fun i O=>rfl
   have step:∀(g':Gd) (X':cH y g') (hg:n+9≤g'.n) (R:RV→S→Prop),bg (nL y g') (nM y g') (aJ 1 ((af l).length:Nat) 1) (fun O=>True) (fun i=>tH sg l (ut (dJ sg n) sg l i)) (fun O=>[]) (fun i O=>Qb (dJ sg n) sg l i) R:=fun g' X' hg R i z hz O=>by
    rw[len] at hz
    obtain⟨hi,rfl⟩:=GZ hz
    show(nL y g').set (.v (.int ((i+1:Nat):Int))) ⟨tH sg l (ut (dJ sg n) sg l i),[],LL sg l i<| .b (bJ sg (l.getD 0 0) (l.getD (i+1) 0)==0)<| .a<|cond (bJ sg (l.getD 0 0) (l.getD (i+1) 0) !=0) (LL sg l i<| .v (.lst (af ((l.take (i+1)).drop 1)))<| .v (.lst (af (l.drop (i+2))))<| .call (.v (.int (dJ sg n (d_ l i)))) [] .nil) .nil⟩ fun s2=> (nM y g').ex s2 fun f s3=>bF f (True∧av s3 (tH sg l (ut (dJ sg n) sg l (i+1))) []) False fun v=>R v s3
    rw[ii i hi]
    unfold cW
    have sl:(d_ l i).length+2=l.length:=by
     unfold d_
     rw[YF,Zy,Zy,ZN,Zp (Yy hi)]
     omega
    have sm:∀a∈d_ l i,a<5:=fun a ha=>hm a ((YZ.mp ha).elim (fun h=>aaD (Z6 h)) Z6)
    cases hc:(bJ sg (l.getD 0 0) (l.getD (i+1) 0)==0) with
    | true=>
     rw[show(bJ sg (l.getD 0 0) (l.getD (i+1) 0) !=0)=false from E5 not hc]
     exact Qd X' (aay hg) hs h5 hm i hi _ R hc
    | false=>
     rw[show(bJ sg (l.getD 0 0) (l.getD (i+1) 0) !=0)=true from E5 not hc]
     exact LN X' (aay hg) hs h5 hm i hi _ R hc (Jw hs n X' hg (d_ l i) (by omega) (by omega) sm)
   have rl:(aJ 1 ((af l).length:Nat) 1).length=l.length - 1:=by rw[len,tJ]
   have sm:Builtin.Range.small 1 ((af l).length:Nat) 1=true:=by rw[len];exact small_one h5
   cases b with
   | false=>
    have hz:l.length=0:=by rw[← len];exact U9 ((aaX _).mp hb)
    refine iN X (aay hn) (X.fn 77 "_law_pfaffian" (by decide)) (Qa y) (VB y)
     (.b false<| .loop (fun O=>True) (fun i=>tH sg l (ut (dJ sg n) sg l i)) (fun O=>[]) (fun i O=>Qb (dJ sg n) sg l i) .nil) (by intros;kernel_rfl!) fun g' b=>?_
    refine aR (P:=_∧_∧_∧_∧(True∧av (.mk ([some (.v (.lst (af l))),some (.v (.lst (ak sg))),some (.v (.int ((1:Nat):Int))),none]) ([]) .nil) ((fun(i:Nat)=>tH sg l (ut (dJ sg n) sg l i)) 0) ((fun(x:Nat)=>[]) 0))∧(bg (nL y g') (nM y g') (aJ ((1:Nat):Int) (↑(length (af l)):Int) 1) (fun(x:Nat)=>True) (fun(i:Nat)=>tH sg l (ut (dJ sg n) sg l i)) (fun(x:Nat)=>[]) (fun(i:Nat) (x:AV)=>Qb (dJ sg n) sg l i) fun(v:RV) (s3:S)=>dH (RF.ret v) s3 (AV.int (dJ sg (n+1) l)) [])∧(True→VI (.int (ut (dJ sg n) sg l (length (aJ ((1:Nat):Int) (↑(length (af l)):Int) 1)))) (.int (dJ sg (n+1) l))∧rf ([]:Os)))
     ⟨s1,hb,s1,sm,⟨trivial,by show _=(tH sg l (cond (beq l.length 0) 1 0),_);rw[hz];rfl⟩,step g' (X.bS b.bS) (by rw[b.n];exact YY (by rw[Nat.lt_iff_add_one_le,ZR];exact hn)) _,fun O=> ⟨E5 (fun k=>RV.v (.int (ut (dJ sg n) sg l k))) rl,rfl⟩⟩ (by kernel_rfl!)
   | true=>
    have hz:beq l.length 0=false:=by
     rw[len] at hb
     cases hL:l.length with
     | zero=>rw[hL] at hb;cases hb
     | succ=>rfl
    refine iN X (aay hn) (X.fn 77 "_law_pfaffian" (by decide)) (Qa y) (VB y)
     (.b true<| .loop (fun O=>True) (fun i=>tH sg l (ut (dJ sg n) sg l i)) (fun O=>[]) (fun i O=>Qb (dJ sg n) sg l i) .nil) (by intros;kernel_rfl!) fun g' b=>?_
    refine aR (P:=_∧_∧_∧_∧(True∧av (.mk ([some (.v (.lst (af l))),some (.v (.lst (ak sg))),some (.v (.int ((0:Nat):Int))),none]) ([]) .nil) ((fun(i:Nat)=>tH sg l (ut (dJ sg n) sg l i)) 0) ((fun(x:Nat)=>[]) 0))∧(bg (nL y g') (nM y g') (aJ ((1:Nat):Int) (↑(length (af l)):Int) 1) (fun(x:Nat)=>True) (fun(i:Nat)=>tH sg l (ut (dJ sg n) sg l i)) (fun(x:Nat)=>[]) (fun(i:Nat) (x:AV)=>Qb (dJ sg n) sg l i) fun(v:RV) (s3:S)=>dH (RF.ret v) s3 (AV.int (dJ sg (n+1) l)) [])∧(True→VI (.int (ut (dJ sg n) sg l (length (aJ ((1:Nat):Int) (↑(length (af l)):Int) 1)))) (.int (dJ sg (n+1) l))∧rf ([]:Os)))
     ⟨s1,hb,s1,sm,⟨trivial,by show _=(tH sg l (cond (beq l.length 0) 1 0),_);rw[hz];rfl⟩,step g' (X.bS b.bS) (by rw[b.n];exact YY (by rw[Nat.lt_iff_add_one_le,ZR];exact hn)) _,fun O=> ⟨E5 (fun k=>RV.v (.int (ut (dJ sg n) sg l k))) rl,rfl⟩⟩ (by kernel_rfl!)
  exact key _ rfl
end
end
end
section
section
def bv{α:Type}(s:Shared)(c:Sem α)(r:α):Prop:= ∀(M:Model) (A:Around) (E:Value→Shared→Prop) (Q:α→Shared→Prop),Q r s→wpAny M A c Q E s
theorem bv.pure{α:Type}{r:α}:bv s (Pure.pure r:Sem α) r:=fun O O O O h=>U1 h
theorem bv.bind{α β:Type}{c:Sem α}{f:α→Sem β}{r:α}{r':β}(h:bv s c r)(k:bv s (f r) r'):bv s (c >>= f) r':=fun M A E Q q=>E3 (h M A E _ (k M A E Q q))
theorem bv.ns{s:Shared}{d:Addr}{m:Str→Option Value}(hn:s.heap.Ns d m)(hv:m name=some v):bv s (nsGet d name) (some v):=fun O O O O h=>wpAny_nsGet hn (hv▸h)
theorem BindsTo.tK{s:Shared}{fd:FuncData}{args:Args}{binds:List (Str×Value)}{T:Addr}{items:Array Value}{n:Nat}{k:Option (Array Value)→Sem (List (Str×Value))}(hd:fd.defaults= .ref T)(ho:s.heap.get? T=some o)(hs:o.data= .seq items n)(h₁:bindArgs fd args=seqItems? fd.defaults >>= k)(h₂:bv s (k (some items)) binds):BindsTo s fd args binds:=fun M A E Q hq=>by
 rw[h₁,hd]
 exact E3 (aat ho hs (h₂ M A E Q hq))
structure Jx(l:List AV)(lt:Nat→Bool)(lo hi p:Nat):Prop where
 h0:lo≤p
 h1:p≤hi
 hh:hi≤l.length
 sz:l.length≤1000
 mono:∀j,lo≤j→j<hi→lt j=decide (j<p)
noncomputable def LO(n:Bool)(l:List AV)(lt:Nat→Bool)(s:Nat×Nat):Hint:= .v (l.getD ((s.1+s.2) / 2) .none)<| .b (cond n (!(lt ((s.1+s.2) / 2))) (lt ((s.1+s.2) / 2)))<| .sp .nil .nil
section
variable {y:Lay}{g:Gd}{l:List AV}{lt:Nat→Bool}{x:AV}
theorem q7(s:Nat×Nat)(h0:s.1<s.2)(h1:s.2≤l.length):bT l (fdiv ((s.1:Int)+(s.2:Int)) ((2:Nat):Int))=some (l.getD ((s.1+s.2) / 2) .none)∧l[(s.1+s.2) / 2]? =some (l.getD ((s.1+s.2) / 2) .none):=by
 have hm:=U2 (vt h0).2 h1
 exact⟨by rw[i6];exact pS (V6 _) (YR.mpr hm),by rw[U6 hm,U3,U6 hm];rfl⟩
theorem zf(s:Nat×Nat)(hl:l.length≤1000)(h0:s.1<s.2)(h1:s.2≤l.length)(R:RV→S→Prop)(hc:∀(j:Nat) z,l[j]? =some z→f4 (.v z) (.v x) (lt j)):
  (B4 y g).tv ⟨lh (.v (.lst l)) (.v x) (.v .none) s,[],LO false l lt s⟩ fun c s1=>c=true∧(B5 y g).ex s1 fun f s3=>bF f (True∧av s3 (lh (.v (.lst l)) (.v x) (.v .none) (oB lt s)) []) False fun v=>R v s3:=by
 obtain⟨hi,hz⟩:=q7 s h0 h1
 have hc:=hc _ _ hz
 refine aR (P:=_∧_∧_∧_∧(lt ((fst s+snd s) / 2)=true→True∧av (.mk ([some (.v (.lst l)),some (.v x),some (.v (.int (fdiv ((↑s.1:Int)+(↑s.2:Int)) ((2:Nat):Int)+((1:Nat):Int)))),some (.v (.int ↑s.2)),some (.v AV.none),some (.v (.int (fdiv ((↑s.1:Int)+(↑s.2:Int)) ((2:Nat):Int))))]) ([]) .nil) (lh (RV.v (.lst l)) (RV.v x) (RV.v AV.none) (oB lt s)) ([]))∧(lt ((fst s+snd s) / 2)=false→True∧av (.mk ([some (.v (.lst l)),some (.v x),some (.v (.int ↑s.1)),some (.v (.int (fdiv ((↑s.1:Int)+(↑s.2:Int)) ((2:Nat):Int)))),some (.v AV.none),some (.v (.int (fdiv ((↑s.1:Int)+(↑s.2:Int)) ((2:Nat):Int))))]) ([]) .nil) (lh (RV.v (.lst l)) (RV.v x) (RV.v AV.none) (oB lt s)) ([])))
  ⟨U5 (YR.mpr h0),sz hl rfl,hi,hc,fun h=> ⟨trivial,by rw[i6,xw h];rfl⟩,fun h=> ⟨trivial,by rw[i6,xx h];rfl⟩⟩ (by kernel_rfl!)
theorem zg(s:Nat×Nat)(hl:l.length≤1000)(h0:s.1<s.2)(h1:s.2≤l.length)(R:RV→S→Prop)(hc:∀(j:Nat) z,l[j]? =some z→f4 (.v z) (.v x) (lt j)):
  (B4 y g).tv ⟨lh (.r 0) (.v x) (.v .none) s,[(0,.list l)],LO false l lt s⟩ fun c s1=>c=true∧(B5 y g).ex s1 fun f s3=>bF f (True∧av s3 (lh (.r 0) (.v x) (.v .none) (oB lt s)) [(0,.list l)]) False fun v=>R v s3:=by
 obtain⟨hi,hz⟩:=q7 s h0 h1
 have hc:=hc _ _ hz
 refine aR (P:=_∧_∧_∧_∧(lt ((fst s+snd s) / 2)=true→True∧av (.mk ([some (.r 0),some (.v x),some (.v (.int (fdiv ((↑s.1:Int)+(↑s.2:Int)) ((2:Nat):Int)+((1:Nat):Int)))),some (.v (.int ↑s.2)),some (.v AV.none),some (.v (.int (fdiv ((↑s.1:Int)+(↑s.2:Int)) ((2:Nat):Int))))]) ([(0,EO.list l)]) .nil) (lh (RV.r 0) (RV.v x) (RV.v AV.none) (oB lt s)) ([(0,EO.list l)]))∧(lt ((fst s+snd s) / 2)=false→True∧av (.mk ([some (.r 0),some (.v x),some (.v (.int ↑s.1)),some (.v (.int (fdiv ((↑s.1:Int)+(↑s.2:Int)) ((2:Nat):Int)))),some (.v AV.none),some (.v (.int (fdiv ((↑s.1:Int)+(↑s.2:Int)) ((2:Nat):Int))))]) ([(0,EO.list l)]) .nil) (lh (RV.r 0) (RV.v x) (RV.v AV.none) (oB lt s)) ([(0,EO.list l)])))
  ⟨U5 (YR.mpr h0),sz hl rfl,hi,hc,fun h=> ⟨trivial,by rw[i6,xw h];rfl⟩,fun h=> ⟨trivial,by rw[i6,xx h];rfl⟩⟩ (by kernel_rfl!)
theorem pY(s:Nat×Nat)(hl:l.length≤1000)(h0:s.1<s.2)(h1:s.2≤l.length)(R:RV→S→Prop)(hc:∀(j:Nat) z,l[j]? =some z→f4 (.v x) (.v z) (!(lt j))):
  (PG y g).tv ⟨lh (.v (.lst l)) (.v x) (.v .none) s,[],LO true l lt s⟩ fun c s1=>c=true∧(PJ y g).ex s1 fun f s3=>bF f (True∧av s3 (lh (.v (.lst l)) (.v x) (.v .none) (oB lt s)) []) False fun v=>R v s3:=by
 obtain⟨hi,hz⟩:=q7 s h0 h1
 have hc:=hc _ _ hz
 refine aR (P:=_∧_∧_∧_∧((!lt ((fst s+snd s) / 2))=true→True∧av (.mk ([some (.v (.lst l)),some (.v x),some (.v (.int ↑s.1)),some (.v (.int (fdiv ((↑s.1:Int)+(↑s.2:Int)) ((2:Nat):Int)))),some (.v AV.none),some (.v (.int (fdiv ((↑s.1:Int)+(↑s.2:Int)) ((2:Nat):Int))))]) ([]) .nil) (lh (RV.v (.lst l)) (RV.v x) (RV.v AV.none) (oB lt s)) ([]))∧((!lt ((fst s+snd s) / 2))=false→True∧av (.mk ([some (.v (.lst l)),some (.v x),some (.v (.int (fdiv ((↑s.1:Int)+(↑s.2:Int)) ((2:Nat):Int)+((1:Nat):Int)))),some (.v (.int ↑s.2)),some (.v AV.none),some (.v (.int (fdiv ((↑s.1:Int)+(↑s.2:Int)) ((2:Nat):Int))))]) ([]) .nil) (lh (RV.v (.lst l)) (RV.v x) (RV.v AV.none) (oB lt s)) ([])))
  ⟨U5 (YR.mpr h0),sz hl rfl,hi,hc,fun h=> ⟨trivial,by rw[i6,xx ((Y2 _).mp h)];rfl⟩,fun h=> ⟨trivial,by rw[i6,xw ((aaX _).mp h)];rfl⟩⟩ (by kernel_rfl!)
theorem Xo(X:cH y g)(hn:10≤g.n){lo hi p:Nat}(Z:Jx l lt lo hi p)(hc:∀(j:Nat) z,l[j]? =some z→f4 (.v z) (.v x) (lt j)):
  Fn g (.v (.val (.ref (y.ad 5)))) [(.v (.lst l)),.v x,.v (.int lo),.v (.int hi)] [] [] [] (.v (.int p)) []:=by
 obtain⟨n,hs,he⟩:=nE hi lo hi (Zi ..) (E8 _) Z.h0 Z.h1 Z.mono
 have D:=X.Ex 5 "bisect_left" (by decide)
 refine jQ (YN hn) X.nb D.1 (Jn y) X.gx (TB y) [(.v (.lst l)),.v x,.v (.int lo),.v (.int hi),.v .none] 10
  (.b false<| .a<| .a<| .a<| .wh n (fun i=>lh (.v (.lst l)) (.v x) (.v .none) (eI lt (lo,hi) i)) (fun O=>[]) (fun i=>LO false l lt (eI lt (lo,hi) i)) .nil)
  (more:=[]) (fun O=>by kernel_rfl!) (by kernel_rfl!) rfl
  (fun ρ bd F s vs kvs doc pm an eg ct hk hv gN=>by
   obtain⟨o,n,t,ho,hd⟩:=D.2.d
   obtain⟨m,hm,q8⟩:=D.2.k
   exact eY (ds:=[.none]) (Ji:=[.none]) hv ⟨_,_,rfl,un _,rfl⟩ gN fun h1 h2=>by
    obtain⟨_,_,_,_,rfl⟩:=Gr h1
    cases Zb h2
    refine BindsTo.tK (k:=?k) rfl (hk _ _ ho) hd ?h1 ?h2
    case h1=>rfl
    case h2=>
     have N:=bv.ns (hm _ hk) q8
     refine bv.bind (bv.pure) ?_
     refine bv.bind (r:=?r1) (bv.bind (r:=?r2) (bv.bind N ?a) ?b) ?c
     case a=>exact bv.pure
     case b=>exact bv.pure
     case c=>exact bv.pure) (by kernel_rfl!) (fun O=>by kernel_rfl!) (fun O h=>nomatch h) fun g' b=>?_
 have ws:=fun i h=>zf (y:=y) (g:=g') (R:=fun v s3=>dH (.ret v) s3 (.int p) []) (eI lt (lo,hi) i) Z.sz (hs i h).1 (E4 (hs i h).2 Z.hh) hc
 refine aR (P:=f4 (RV.v (.int ↑lo)) (RV.v (.int ((0:Nat):Int))) false∧EE ((fun(i:Nat)=>lh (RV.v (.lst l)) (RV.v x) (RV.v AV.none) (eI lt (lo,hi) i)) 0) ((fun(x:Nat)=>[]) 0)∧_∧decide ((↑(fst (eI lt (lo,hi) n)):Int)<(↑(snd (eI lt (lo,hi) n)):Int))=false∧VI (.int (↑(fst (eI lt (lo,hi) n)):Int)) (.int ↑p)∧rf ([]:Os))
  ⟨.inl ⟨_,_,rfl,rfl,U4 (ZD.mpr (V6 lo))⟩,rfl,ws,by rw[he];exact U4 (aad _),by rw[he],rfl⟩ (by kernel_rfl!)
theorem Xp(X:cH y g)(hn:10≤g.n){lo hi p:Nat}(Z:Jx l lt lo hi p)(hc:∀(j:Nat) z,l[j]? =some z→f4 (.v x) (.v z) (!(lt j))):
  Fn g (.v (.val (.ref (y.ad 3)))) [(.v (.lst l)),.v x,.v (.int lo),.v (.int hi)] [] [] [] (.v (.int p)) []:=by
 obtain⟨n,hs,he⟩:=nE hi lo hi (Zi ..) (E8 _) Z.h0 Z.h1 Z.mono
 have D:=X.Ex 3 "bisect_right" (by decide)
 refine jQ (YN hn) X.nb D.1 (X9 y) X.gx (B9 y) [(.v (.lst l)),.v x,.v (.int lo),.v (.int hi),.v .none] 10
  (.b false<| .a<| .a<| .a<| .wh n (fun i=>lh (.v (.lst l)) (.v x) (.v .none) (eI lt (lo,hi) i)) (fun O=>[]) (fun i=>LO true l lt (eI lt (lo,hi) i)) .nil)
  (more:=[]) (fun O=>by kernel_rfl!) (by kernel_rfl!) rfl
  (fun ρ bd F s vs kvs doc pm an eg ct hk hv gN=>by
   obtain⟨o,n,t,ho,hd⟩:=D.2.d
   obtain⟨m,hm,q8⟩:=D.2.k
   exact eY (ds:=[.none]) (Ji:=[.none]) hv ⟨_,_,rfl,un _,rfl⟩ gN fun h1 h2=>by
    obtain⟨_,_,_,_,rfl⟩:=Gr h1
    cases Zb h2
    refine BindsTo.tK (k:=?k) rfl (hk _ _ ho) hd ?h1 ?h2
    case h1=>rfl
    case h2=>
     have N:=bv.ns (hm _ hk) q8
     refine bv.bind (bv.pure) ?_
     refine bv.bind (r:=?r1) (bv.bind (r:=?r2) (bv.bind N ?a) ?b) ?c
     case a=>exact bv.pure
     case b=>exact bv.pure
     case c=>exact bv.pure) (by kernel_rfl!) (fun O=>by kernel_rfl!) (fun O h=>nomatch h) fun g' b=>?_
 have ws:=fun i h=>pY (y:=y) (g:=g') (R:=fun v s3=>dH (.ret v) s3 (.int p) []) (eI lt (lo,hi) i) Z.sz (hs i h).1 (E4 (hs i h).2 Z.hh) hc
 refine aR (P:=f4 (RV.v (.int ↑lo)) (RV.v (.int ((0:Nat):Int))) false∧EE ((fun(i:Nat)=>lh (RV.v (.lst l)) (RV.v x) (RV.v AV.none) (eI lt (lo,hi) i)) 0) ((fun(x:Nat)=>[]) 0)∧_∧decide ((↑(fst (eI lt (lo,hi) n)):Int)<(↑(snd (eI lt (lo,hi) n)):Int))=false∧VI (.int (↑(fst (eI lt (lo,hi) n)):Int)) (.int ↑p)∧rf ([]:Os))
  ⟨.inl ⟨_,_,rfl,rfl,U4 (ZD.mpr (V6 lo))⟩,rfl,ws,by rw[he];exact U4 (aad _),by rw[he],rfl⟩ (by kernel_rfl!)
theorem Xq(X:cH y g)(hn:10≤g.n){p:Nat}(Z:Jx l lt 0 l.length p)(hc:∀(j:Nat) z,l[j]? =some z→f4 (.v x) (.v z) (!(lt j))):
  Fn g (.v (.val (.ref (y.ad 3)))) [(.v (.lst l)),.v x] [] [] [] (.v (.int p)) []:=by
 obtain⟨n,hs,he⟩:=nE l.length 0 l.length (Zi ..) (E8 _) Z.h0 Z.h1 Z.mono
 have D:=X.Ex 3 "bisect_right" (by decide)
 refine jQ (YN hn) X.nb D.1 (X9 y) X.gx (B9 y) [(.v (.lst l)),.v x,.v (.int 0),.v .none,.v .none] 10
  (.b false<| .a<| .a<| .a<| .wh n (fun i=>lh (.v (.lst l)) (.v x) (.v .none) (eI lt (0,l.length) i)) (fun O=>[]) (fun i=>LO true l lt (eI lt (0,l.length) i)) .nil)
  (more:=[]) (fun O=>by kernel_rfl!) (by kernel_rfl!) rfl
  (fun ρ bd F s vs kvs doc pm an eg ct hk hv gN=>by
   obtain⟨o,n,t,ho,hd⟩:=D.2.d
   obtain⟨m,hm,q8⟩:=D.2.k
   exact eY (ds:=[.int 0 t,.none,.none]) (Ji:=[.int 0,.none,.none]) hv ⟨_,_,rfl,oH ..,_,_,rfl,un _,_,_,rfl,un _,rfl⟩ gN fun h1 h2=>by
    obtain⟨_,_,rfl⟩:=Gq h1
    cases Zb h2
    refine BindsTo.tK (k:=?k) rfl (hk _ _ ho) hd ?h1 ?h2
    case h1=>rfl
    case h2=>
     have N:=bv.ns (hm _ hk) q8
     refine bv.bind (bv.pure) ?_
     refine bv.bind (r:=?r1) (bv.bind (r:=?r2) (bv.bind N ?a) ?b) ?c
     case a=>exact bv.pure
     case b=>exact bv.pure
     case c=>exact bv.pure) (by kernel_rfl!) (fun O=>by kernel_rfl!) (fun O h=>nomatch h) fun g' b=>?_
 have ws:=fun i h=>pY (y:=y) (g:=g') (R:=fun v s3=>dH (.ret v) s3 (.int p) []) (eI lt (0,l.length) i) Z.sz (hs i h).1 (E4 (hs i h).2 Z.hh) hc
 refine aR (P:=f4 (RV.v (.int 0)) (RV.v (.int ((0:Nat):Int))) false∧_∧EE ((fun(i:Nat)=>lh (RV.v (.lst l)) (RV.v x) (RV.v AV.none) (eI lt (0,length l) i)) 0) ((fun(x:Nat)=>[]) 0)∧_∧decide ((↑(fst (eI lt (0,length l) n)):Int)<(↑(snd (eI lt (0,length l) n)):Int))=false∧VI (.int (↑(fst (eI lt (0,length l) n)):Int)) (.int ↑p)∧rf ([]:Os))
  ⟨.inl ⟨_,_,rfl,rfl,rfl⟩,sz Z.sz rfl,rfl,ws,by rw[he];exact U4 (aad _),by rw[he],rfl⟩ (by kernel_rfl!)
theorem TR(X:cH y g)(hn:10≤g.n){p:Nat}(Z:Jx l lt 0 l.length p)(hc:∀(j:Nat) z,l[j]? =some z→f4 (.v z) (.v x) (lt j)):
  Fn g (.v (.val (.ref (y.ad 5)))) [.r 0,.v x,.v (.int 0),.v .none] [] [] [(0,.list l)] (.v (.int p)) [(0,.list l)]:=by
 obtain⟨n,hs,he⟩:=nE l.length 0 l.length (Zi ..) (E8 _) Z.h0 Z.h1 Z.mono
 have D:=X.Ex 5 "bisect_left" (by decide)
 refine jQ (YN hn) X.nb D.1 (Jn y) X.gx (TB y) [.r 0,.v x,.v (.int 0),.v .none,.v .none] 10
  (.b false<| .a<| .a<| .a<| .wh n (fun i=>lh (.r 0) (.v x) (.v .none) (eI lt (0,l.length) i)) (fun O=>[(0,.list l)]) (fun i=>LO false l lt (eI lt (0,l.length) i)) .nil)
  (more:=[]) (fun O=>by kernel_rfl!) (by kernel_rfl!) rfl
  (fun ρ bd F s vs kvs doc pm an eg ct hk hv gN=>by
   obtain⟨o,n,t,ho,hd⟩:=D.2.d
   obtain⟨m,hm,q8⟩:=D.2.k
   exact eY (ds:=[.none]) (Ji:=[.none]) hv ⟨_,_,rfl,un _,rfl⟩ gN fun h1 h2=>by
    obtain⟨_,_,_,_,rfl⟩:=Gr h1
    cases Zb h2
    refine BindsTo.tK (k:=?k) rfl (hk _ _ ho) hd ?h1 ?h2
    case h1=>rfl
    case h2=>
     have N:=bv.ns (hm _ hk) q8
     refine bv.bind (bv.pure) ?_
     refine bv.bind (r:=?r1) (bv.bind (r:=?r2) (bv.bind N ?a) ?b) ?c
     case a=>exact bv.pure
     case b=>exact bv.pure
     case c=>exact bv.pure) (by kernel_rfl!) (fun O=>by kernel_rfl!) (fun O h=>nomatch h) fun g' b=>?_
 have ws:=fun i h=>zg (y:=y) (g:=g') (R:=fun v s3=>dH (.ret v) s3 (.int p) [(0,.list l)]) (eI lt (0,l.length) i) Z.sz (hs i h).1 (E4 (hs i h).2 Z.hh) hc
 refine aR (P:=f4 (RV.v (.int 0)) (RV.v (.int ((0:Nat):Int))) false∧_∧EE ((fun(i:Nat)=>lh (RV.r 0) (RV.v x) (RV.v AV.none) (eI lt (0,length l) i)) 0) ((fun(x:Nat)=>[(0,EO.list l)]) 0)∧_∧decide ((↑(fst (eI lt (0,length l) n)):Int)<(↑(snd (eI lt (0,length l) n)):Int))=false∧VI (.int (↑(fst (eI lt (0,length l) n)):Int)) (.int ↑p)∧rf (filter (fun(p:Nat×EO)=>List.any [(0,EO.list l)] fun(Lw:Nat×EO)=>beq Lw.1 p.1) [(0,EO.list l)]))
  ⟨.inl ⟨_,_,rfl,rfl,rfl⟩,sz Z.sz rfl,rfl,ws,by rw[he];exact U4 (aad _),by rw[he],rfl⟩ (by kernel_rfl!)
theorem G0(X:cH y g)(hn:11≤g.n){p:Nat}(Z:Jx l lt 0 l.length p)(hc:∀(j:Nat) z,l[j]? =some z→f4 (.v z) (.v x) (lt j)):
  Fn g (.v (.val (.ref (y.ad 4)))) [.r 0,.v x] [] [] [(0,.list l)] (.v .none) [(0,.list (l.take p++x::l.drop p))]:=by
 have D:=X.Ex 4 "insort_left" (by decide)
 refine jQ (Zg (k:=2) hn) X.nb D.1 (TE y) X.gx (Vn y) [.r 0,.v x,.v (.int 0),.v .none,.v .none] 10
  (.a<| .call (.v (.int p)) [(0,.list l)] .nil)
  (more:=[]) (fun O=>by kernel_rfl!) (by kernel_rfl!) rfl
  (fun ρ bd F s vs kvs doc pm an eg ct hk hv gN=>by
   obtain⟨o,n,t,ho,hd⟩:=D.2.d
   obtain⟨m,hm,q8⟩:=D.2.k
   exact eY (ds:=[.int 0 t,.none,.none]) (Ji:=[.int 0,.none,.none]) hv ⟨_,_,rfl,oH ..,_,_,rfl,un _,_,_,rfl,un _,rfl⟩ gN fun h1 h2=>by
    obtain⟨_,_,rfl⟩:=Gq h1
    cases Zb h2
    refine BindsTo.tK (k:=?k) rfl (hk _ _ ho) hd ?h1 ?h2
    case h1=>rfl
    case h2=>
     have N:=bv.ns (hm _ hk) q8
     refine bv.bind (bv.pure) ?_
     refine bv.bind (r:=?r1) (bv.bind (r:=?r2) (bv.bind N ?a) ?b) ?c
     case a=>exact bv.pure
     case b=>exact bv.pure
     case c=>exact bv.pure) (by kernel_rfl!) (fun O=>by kernel_rfl!) (fun O h=>nomatch h) fun g' b=>?_
 have X':=X.bS b.bS
 have f:=TR X' (by rw[b.n];exact YY hn) Z hc
 refine aR (P:=_∧_∧_∧length l≤1000000∧rf AV.none∧rf (filter (fun(Lw:Nat×EO)=>List.any [(0,EO.list (take p l++x::drop p l))] fun(p:Nat×EO)=>beq p.1 Lw.1) [(0,EO.list (take p l++x::drop p l))]))
  ⟨f,V6 p,Zl.mpr Z.h1,E4 Z.sz (by decide),rfl,rfl⟩ (by kernel_rfl!)
end
end
end
section
section
noncomputable def LP(y:Lay):Cx:=Jh y [("pairs",.local),("laid",.cell),("square",.local),("one",.cell),("cuts",.local)] [("laid",.cell,10),("one",.cell,11)] [1] true
noncomputable def Qe(y:Lay):Cx:=cx y [".0","pair","hue"] [] [] false
noncomputable def Jy(y:Lay)(g:Gd):LD ⟨LP y,g⟩:=⟨Qe y,fun g=> (.n (.loc 1) 307 29),fun g=>[],fun g=> (.n (.loc 2) 307 47),fun g=> (.of (.lo 1 307 54)),fun g=>[],fun g=> (.lo 2 307 21),[],rfl,rfl,fun O=>rfl,fun O=>rfl,fun O=>rfl,fun O=>rfl,fun O=>rfl,fun O=>rfl⟩
noncomputable def Qf(y:Lay):Cx:=⟨[(".0",.local),("k",.local),("bisect_right",.globalImplicit),("bisect_left",.globalImplicit),("laid",.free),("one",.free)],[".0","k"],[("laid",.free,10),("one",.free,11)],[13,15],GX y,30,false,[]⟩
noncomputable def Ct(y:Lay)(g:Gd):LC ⟨LP y,g⟩:=⟨Qf y,fun g=> (.n (.loc 1) 309 104),fun g=>[],fun g=> (.tup [(.sub (.cl 13 309 17 [(.ce 0 309 30),(.get (.ce 1 309 36) (.nt 0 309 40)),(.lo 1 309 44),(.add (.lo 1 309 47) (.nt 2 309 51))]) (.lo 1 309 56)),(.sub (.cl 15 309 59 [(.ce 0 309 71),(.get (.ce 1 309 77) (.nt 1 309 81)),(.lo 1 309 85),(.add (.lo 1 309 88) (.nt 2 309 92))]) (.lo 1 309 97))]),[],rfl,rfl,fun O=>rfl,fun O=>rfl,fun O=>by kernel_rfl!⟩
noncomputable def Qg(y:Lay):Cx:=cx y [".0","cut"] [] [] false
noncomputable def Cu(y:Lay)(g:Gd):LC ⟨LP y,g⟩:=⟨Qg y,fun g=> (.n (.loc 1) 310 78),fun g=>[],fun g=> (.yR (.eq (.lo 1 310 28) (.tup [(.nt 0 310 36),(.nt 1 310 39)])) (.nt 1 310 23) (.yR (.eq (.lo 1 310 53) (.tup [(.nt 1 310 61),(.nt 2 310 64)])) (.neg (.nt 1 310 48)) (.nt 0 310 72))),[],rfl,rfl,fun O=>rfl,fun O=>rfl,fun O=>by kernel_rfl!⟩
noncomputable def tL(y:Lay)(g:Gd):TG ⟨LP y,g⟩:=(.n (.cc 1) 308 8)
noncomputable def tM(y:Lay)(g:Gd):SB ⟨LP y,g⟩:=(.cons (.Jf 2 (q 309 8 12) (Ct y g) (.of (.cl 1 309 109 [(.nt 0 309 115),(.nt 10 309 118),(.nt 2 309 122)])) (q 309 15 125) (q 309 8 125))<|(.cons (.exp (.mt (.lo 1 310 8) .append [(.lc (Cu y g) (.of (.lo 2 310 85)) (q 310 22 90))]))<| .nil))
noncomputable def Xr(y:Lay)(g:Gd):SB ⟨LP y,g⟩:=(.cons (.mul [(.n (.cc 0) 307 4),(.n (.loc 1) 307 10)] 0 (q 307 4 16) [(.of (.W4 (Jy y g) (.of (.lo 0 307 37)) (q 307 20 59))),(.new 30 [] (q 307 61 63))] 0 (q 307 19 64) (q 307 4 64) (by kernel_rfl!))<|(.cons (.for (tL y g) (.of (.lo 0 308 15)) (tM y g) ⟨308,4,310,91⟩)<|(.Le 1<| .cons (.ret (.lo 1 311 11))<| .nil)))
noncomputable abbrev Pr:=Int×Int
noncomputable def cS(p:Pr):AV:= .lst [.int p.1,.int p.2]
noncomputable def cB(ps:List Pr):List Int:=ps.flatMap fun p=>[p.1,p.2]
noncomputable def VC(p:Pr)(x:Int):Nat:=(cond (decide (p.1≤x)) 1 0)+cond (decide (p.2≤x)) 1 0
noncomputable def Cv(p:Pr)(x:Int):Nat:=(cond (decide (p.1<x)) 1 0)+cond (decide (p.2<x)) 1 0
noncomputable def aY(one p:Pr):Nat×Nat:=(VC p one.1,Cv p one.2)
noncomputable def bE(c:Nat×Nat):Int:=cond (decide ([(c.1:Int),(c.2:Int)]=[0,1])) 1 (cond (decide ([(c.1:Int),(c.2:Int)]=[1,2])) (-1) 0)
noncomputable def a7(ps:List Pr):List (List Int):=ps.map fun one=>ps.map fun p=>bE (aY one p)
noncomputable def vG(ps:List Pr)(one:Pr)(z:AV):Option AV:=some (.tup [.int (aY one (ps.getD ((dC z).toNat / 2) (0,0))).1,.int (aY one (ps.getD ((dC z).toNat / 2) (0,0))).2])
noncomputable def LQ(ps:List Pr)(one:Pr)(z:AV):Hint:=
 .v (.int one.1)<| .call (.v (.int ((dC z).toNat+(aY one (ps.getD ((dC z).toNat / 2) (0,0))).1:Nat))) []<| .v (.int one.2)<| .call (.v (.int ((dC z).toNat+(aY one (ps.getD ((dC z).toNat / 2) (0,0))).2:Nat))) [] .nil
noncomputable def G1(z:AV):Option AV:=some (.int (bE ((dC (lZ (rU z) 0)).toNat,(dC (lZ (rU z) 1)).toNat)))
noncomputable def TS(z:AV):Hint:= .b (decide ([dC (lZ (rU z) 0),dC (lZ (rU z) 1)]=[0,1]))<| .sp .nil (.b (decide ([dC (lZ (rU z) 0),dC (lZ (rU z) 1)]=[1,2]))<| .sp .nil .nil)
section
variable {y:Lay}{g:Gd}
theorem f9{a b:Int}{c:Bool}(h:decide (a<b)=c):f4 (.v (.int a)) (.v (.int b)) c:= .inl ⟨_,_,rfl,rfl,h⟩
theorem tN(ps:List Pr):(cB ps).length=2*ps.length:=by
 induction ps with
 | nil=>rfl
 | cons p ps ih=>exact(E5 (· +2) ih).trans (ab8 2 _).symm
theorem xQ:∀(ps:List Pr) (k:Nat),k<ps.length→(cB ps).getD (2*k) 0=(ps.getD k (0,0)).1∧(cB ps).getD (2*k+1) 0=(ps.getD k (0,0)).2
 | p::ps,0,_=> ⟨rfl,rfl⟩
 | p::ps,k+1,h=>xQ ps k (ZQ h)
theorem xR(ps:List Pr)(hl:ps.length=5){k:Nat}(hk:k<5)(f:Int→Bool)(hf:f (ps.getD k (0,0)).2=true→f (ps.getD k (0,0)).1=true):
  Jx ((cB ps).map .int) (fun j=>f ((cB ps).getD j 0)) (2*k) (2*k+2) (2*k+((cond (f (ps.getD k (0,0)).1) 1 0)+cond (f (ps.getD k (0,0)).2) 1 0)):=by
 obtain⟨e1,e2⟩:=xQ ps k (by rw[hl];exact hk)
 have Ey:((cB ps).map AV.int).length=10:=by rw[E9,tN,hl]
 refine⟨Y0 ..,?_,?_,by rw[Ey];decide,fun j j0 j1=>?_⟩
 ·cases f (ps.getD k (0,0)).1 <;> cases f (ps.getD k (0,0)).2 <;> simp only[cond] <;> omega
 ·rw[Ey];omega
 ·have:j=2*k∨j=2*k+1:=by omega
  rcases this with rfl | rfl
  ·rw[e1]
   cases h1:f (ps.getD k (0,0)).1 with
   | true=>simp only[cond];exact(U5 (by omega)).symm
   | false=>
    cases h2:f (ps.getD k (0,0)).2 with
    | true=>exact absurd (hf h2) (by rw[h1];exact YQ)
    | false=>simp only[cond];exact(U4 (by omega)).symm
  ·rw[e2]
   cases h2:f (ps.getD k (0,0)).2 with
   | true=>rw[hf h2];simp only[cond];exact(U5 (by omega)).symm
   | false=>
    cases f (ps.getD k (0,0)).1 <;> simp only[cond] <;> exact(U4 (by omega)).symm
theorem G2:aJ 0 10 2=[AV.int 0,.int 2,.int 4,.int 6,.int 8]:=by kernel_rfl!
theorem tO(h:z∈aJ 0 10 2):∃k:Nat,k<5∧z= .int ((2*k:Nat):Int):=by
 rw[G2] at h
 simp only[V1,ZK,or_false] at h
 rcases h with rfl | rfl | rfl | rfl | rfl
 ·exact⟨0,by decide,rfl⟩
 ·exact⟨1,by decide,rfl⟩
 ·exact⟨2,by decide,rfl⟩
 ·exact⟨3,by decide,rfl⟩
 ·exact⟨4,by decide,rfl⟩
theorem Cw(X:cH y g)(hn:11≤g.n)(ps:List Pr)(hl:ps.length=5)(Qh:∀p∈ps,p.1≤p.2)(t:EO)(one:Pr):
  (Ct y g).turn [(30,t),(11,.cell (some (.v (cS one)))),(10,.cell (some (.v (.lst ((cB ps).map .int)))))] (vG ps one) (LQ ps one) (aJ 0 10 2):=fun g' b z hz=>by
 obtain⟨k,hk,rfl⟩:=tO hz
 have X':=X.bS b.bS
 have N1:10≤g'.n:=by rw[b.n];exact YN hn
 have Xs:2*k / 2=k:=Nat.mul_div_cancel_left k (by decide)
 have Nm:k<ps.length:=by rw[hl];exact hk
 have hp:(ps.getD k (0,0)).1≤(ps.getD k (0,0)).2:=Qh _ (by rw[U3,U6 Nm];exact Zm Nm)
 have at':∀(j:Nat) z,((cB ps).map AV.int)[j]? =some z→z= .int ((cB ps).getD j 0):=fun j z h=>by
  rw[V9] at h
  cases e:(cB ps)[j]? with
  | none=>rw[e] at h;cases h
  | some v=>rw[e] at h;cases h;rw[eJ e]
 have r:=Xp X' N1 (x:= .int one.1) (xR ps hl hk (fun x=>decide (x≤one.1)) fun h=>U5 (aaR hp (U9 h))) fun j z h=>by
  rw[at' j z h]
  exact f9 (by rw[← decide_not];exact YO.mpr aa3.symm)
 have l:=Xo X' N1 (x:= .int one.2) (xR ps hl hk (fun x=>decide (x<one.2)) fun h=>U5 (Int.lt_of_le_of_lt hp (U9 h))) fun j z h=>by
  rw[at' j z h]
  exact f9 rfl
 have e:∀a:Nat,((2*k+a:Nat):Int) - ((2*k:Nat):Int)=a:=fun a=>by rw[aaP,Int.add_comm];exact Int.add_sub_cancel ..
 have ef:vG ps one (.int ((2*k:Nat):Int))=some (.tup [.int (aY one (ps.getD (2*k / 2) (0,0))).1,.int (aY one (ps.getD (2*k / 2) (0,0))).2]):=rfl
 refine aR (P:=SL [AV.int one.1,.int one.2]∧AG [.int one.1,.int one.2] ((0:Nat):Int) (.int one.1)∧Fn g' (.v (.val (.ref (y.ad 3)))) [.v (.lst (map .int (cB ps))),.v (.int one.1),.v (.int ↑(2*k)),.v (.int ((↑(2*k):Int)+2))] [] [] [] (.v (.int (↑(2*k+fst (aY one (List.getD ps (2*k / 2) (0,0)))):Int))) []∧SL [AV.int one.1,.int one.2]∧AG [.int one.1,.int one.2] ((1:Nat):Int) (.int one.2)∧Fn g' (.v (.val (.ref (y.ad 5)))) [.v (.lst (map .int (cB ps))),.v (.int one.2),.v (.int ↑(2*k)),.v (.int ((↑(2*k):Int)+2))] [] [] [] (.v (.int (↑(2*k+snd (aY one (List.getD ps (2*k / 2) (0,0)))):Int))) []∧vG ps one (AV.int ↑(2*k))=some (.tup [.int ((↑(2*k+fst (aY one (List.getD ps (2*k / 2) (0,0)))):Int) - (↑(2*k):Int)),.int ((↑(2*k+snd (aY one (List.getD ps (2*k / 2) (0,0)))):Int) - (↑(2*k):Int))])∧(elim none [(30,t),(11,EO.cell (some (.v (cS one)))),(10,EO.cell (some (.v (.lst (map AV.int (cB ps))))))] fun(q:Str×Nat)=>[(snd q,EO.cell none),(30,t),(11,EO.cell (some (.v (cS one)))),(10,EO.cell (some (.v (.lst (map AV.int (cB ps))))))])=[(30,t),(11,.cell (some (.v (cS one)))),(10,.cell (some (.v (.lst (map .int (cB ps))))))]) ?_ (by kernel_rfl!)
 rw[e,e,ef,Xs]
 exact⟨E1 rfl,rfl,r,E1 rfl,rfl,l,rfl,rfl⟩
theorem tQ{a b c d:Int}{e:Bool}(h:decide ([a,b]=[c,d])=e):fK (.tup [.int a,.int b]) (.tup [.int c,.int d]) e:=by
 subst h
 exact⟨.tuple [.int a,.int b],.tuple [.int c,.int d],rfl,rfl,rfl,rfl,rfl,rfl,nK [a,b] [c,d]⟩
noncomputable abbrev kM(c:Nat×Nat):=[(↑c.1:Int),(↑c.2:Int)]
noncomputable abbrev nN(c:Nat×Nat):=AV.tup [.int ↑c.1,AV.int ↑c.2]
theorem zh(X:cH y g)(os:Os)(one:Pr)(ps:List Pr):(Cu y g).turn os G1 TS (ps.map fun p=> .tup [.int (aY one p).1,.int (aY one p).2]):=fun g' b z hz=>by
 obtain⟨p,_,rfl⟩:=U0.mp hz
 generalize aY one p=c
 have e:G1 (.tup [.int c.1,.int c.2])=some (.int (bE c)):=rfl
 refine aR (P:=fK (nN c) (AV.tup [.int ((0:Nat):Int),AV.int ((1:Nat):Int)]) (decide ((kM c)=[(0:Int),(1:Int)]))∧(decide ((kM c)=[(0:Int),(1:Int)])=true→G1 (nN c)=some (.int ((1:Nat):Int))∧rf os)∧(decide ((kM c)=[(0:Int),(1:Int)])=false→fK (nN c) (AV.tup [.int ((1:Nat):Int),AV.int ((2:Nat):Int)]) (decide ((kM c)=[(1:Int),(2:Int)]))∧(decide ((kM c)=[(1:Int),(2:Int)])=true→G1 (nN c)=some (.int (-((1:Nat):Int)))∧rf os)∧(decide ((kM c)=[(1:Int),(2:Int)])=false→G1 (nN c)=some (.int ((0:Nat):Int))∧rf os)))
  ⟨tQ rfl,fun h=> ⟨by rw[e];unfold bE;rw[h];rfl,rfl⟩,fun h=> ⟨tQ rfl,fun h2=> ⟨by rw[e];unfold bE;rw[h,h2];rfl,rfl⟩,fun h2=> ⟨by rw[e];unfold bE;rw[h,h2];rfl,rfl⟩⟩⟩ (by kernel_rfl!)
theorem G3(ps:List Pr)(hl:ps.length=5)(one:Pr):(aJ 0 10 2).filterMap (vG ps one)=ps.map fun p=> .tup [.int (aY one p).1,.int (aY one p).2]:=by
 rw[G2]
 match ps,hl with
 | [_,_,_,_,_],_=>rfl
theorem tR(one:Pr):∀ps:List Pr,(ps.map fun p=>AV.tup [.int (aY one p).1,.int (aY one p).2]).filterMap G1=(ps.map fun p=>bE (aY one p)).map .int
 | []=>rfl
 | p::ps=>E5 (AV.int (bE (aY one p)):: ·) (tR one ps)
theorem vH(l:List (List Int))(r:List Int):ak l++ [.lst (r.map .int)]=ak (l++ [r]):=by
 unfold ak
 rw[YA];rfl
noncomputable def Xt(ps:List Pr)(i:Nat):Option RV:=i.casesOn none fun k=>some (.v (cS (ps.getD k (0,0))))
noncomputable def G4:Vs:=[none,some (.r 30),none]
noncomputable def G5(ps:List Pr)(i:Nat):Os:=[(30,.list (ak ((a7 ps).take i))),(11,.cell (Xt ps i)),(10,.cell (some (.v (.lst ((cB ps).map .int)))))]
noncomputable def Qi(ps:List Pr)(one:Pr):Hint:=
 .f (vG ps one) (LQ ps one)<| .v (.lst (ps.map fun p=> .tup [.int (aY one p).1,.int (aY one p).2]))<| .f G1 TS<| .v (.lst ((ps.map fun p=>bE (aY one p)).map .int))<| .a .nil
noncomputable abbrev Cy(i:Nat)(ps:List Pr)(one:Pr):=[(30,EO.list (ak (take i (a7 ps)))),(11,EO.cell (some (.v (cS one)))),(10,EO.cell (some (.v (.lst (map AV.int (cB ps))))))]
noncomputable abbrev vI:=aJ ((0:Nat):Int) ((10:Nat):Int) ((2:Nat):Int)
theorem G6(X:cH y g)(hn:11≤g.n)(ps:List Pr)(hl:ps.length=5)(Qh:∀p∈ps,p.1≤p.2)(i:Nat)(one:Pr)(h1:ps[i]? =some one)(R:RV→S→Prop):
  (tL y g).set (.v (cS one)) ⟨G4,G5 ps i,Qi ps one⟩ fun s2=> (tM y g).ex s2 fun f s3=>bF f (True∧av s3 G4 (G5 ps (i+1))) False fun v=>R v s3:=by
 have hi:i<5:=by rw[← hl];exact(V7.mp h1).1
 have er:ak ((a7 ps).take i)++ [.lst ((ps.map fun p=>bE (aY one p)).map .int)]=ak ((a7 ps).take (i+1)):=by
  rw[Zo,show(a7 ps)[i]? =some (ps.map fun p=>bE (aY one p)) by rw[a7,V9,h1];rfl]
  exact vH ..
 have l5:ps.length≤5:=U8 hl
 have lr:(ak ((a7 ps).take i)).length≤5:=ar (iy (ar l5))
 refine aR (P:=((2:Nat):Int)≠(0:Int)∧Builtin.divisionGoesByPylong (((10:Nat):Int) - ((0:Nat):Int)) ((2:Nat):Int)=false∧Builtin.Range.small ((0:Nat):Int) ((10:Nat):Int) ((2:Nat):Int)=true∧SL vI∧LC.bV (Ct y g) none (Cy i ps one) (vG ps one) (LQ ps one) vI∧filterMap (vG ps one) vI=map (fun(p:Pr)=> .tup [.int (↑(fst (aY one p)):Int),.int (↑(snd (aY one p)):Int)]) ps∧SL (map (fun(p:Pr)=>AV.tup [.int (↑(fst (aY one p)):Int),AV.int (↑(snd (aY one p)):Int)]) ps)∧LC.bV (Cu y g) none (Cy i ps one) G1 TS (map (fun(p:Pr)=>AV.tup [.int (↑(fst (aY one p)):Int),AV.int (↑(snd (aY one p)):Int)]) ps)∧filterMap G1 (map (fun(p:Pr)=>AV.tup [.int (↑(fst (aY one p)):Int),AV.int (↑(snd (aY one p)):Int)]) ps)=map .int (map (fun(p:Pr)=>bE (aY one p)) ps)∧SL (ak (take i (a7 ps)))∧True∧av (.mk ([none,some (.r 30),some (.v (.lst (map (fun(p:Pr)=>AV.tup [.int (↑(fst (aY one p)):Int),AV.int (↑(snd (aY one p)):Int)]) ps)))]) ([(30,EO.list (ak (take i (a7 ps))++ [AV.lst (map AV.int (map (fun(p:Pr)=>bE (aY one p)) ps))])),(11,EO.cell (some (.v (cS one)))),(10,EO.cell (some (.v (.lst (map AV.int (cB ps))))))]) .nil) (G4) (G5 ps (i+1)))
  ⟨by decide,by decide,by kernel_rfl,E4 (U8 (E5 length G2)) (E1 rfl),Cw X hn ps hl Qh _ one,G3 ps hl one,sz (ar l5) rfl,zh X _ one ps,tR one ps,sz lr rfl,trivial,?_⟩ (by kernel_rfl!)
 rw[er]
 show _=(_,[_,(11,EO.cell (some (RV.v (cS (ps.getD i (0,0)))))),_])
 rw[eJ h1];rfl
noncomputable abbrev vJ:=[(11,EO.cell none),(10,EO.cell none)]
theorem zj(X:cH y g)(ps:List Pr):(Jy y g).turn [(11,.cell none),(10,.cell none)] some (fun O=> .f some (fun O=> .nil) .nil) (ps.map cS):=fun g' b z hz=>by
 obtain⟨p,_,rfl⟩:=U0.mp hz
 refine aR (P:=vJ=[(11,.cell none),(10,.cell none)]∧rf (gE some (cS p))∧(∀z:AV,((z∈[AV.int p.1,.int p.2])→(((some z)=(some z))∧av (.mk ([none,some (.v (cS p)),some (.v z)]) (vJ) .nil) ([none,some (.v (cS p))]) (vJ)))))
  ⟨rfl,rfl,fun O O=> ⟨rfl,rfl⟩⟩ (by kernel_rfl!)
theorem Cz(X:cH y g)(hn:12≤g.n)(ps:List Pr)(hl:ps.length=5)(Qh:∀p∈ps,p.1≤p.2):
  Fn g (.v (.val (.ref (y.ad 76)))) [.v (.lst (ps.map cS))] [] [] [] (.v (.lst (ak (a7 ps)))) []:=by
 refine iN X (Zg (k:=3) hn) (X.fn 76 "_law_signs" (by decide)) (LP y) (Xr y)
  (.f some (fun O=> .f some (fun O=> .nil) .nil)<| .v (.lst ((cB ps).map .int))<| .loop (fun O=>True) (fun O=>G4) (G5 ps) (fun i O=>Qi ps (ps.getD i (0,0))) .nil) (by intros;kernel_rfl!) fun g' b=>?_
 have X':=X.bS b.bS
 have Jz:((cB ps).map AV.int).length≤10:=by rw[E9,tN,hl];exact E8 _
 have lf:(ps.map cS).flatMap (gE some)=(cB ps).map .int:=by
  match ps,hl with
  | [_,_,_,_,_],_=>rfl
 have fs:∀R:RV→S→Prop,bg (tL y g') (tM y g') (ps.map cS) (fun O=>True) (fun O=>G4) (G5 ps) (fun i O=>Qi ps (ps.getD i (0,0))) R:=fun R i z hz O=>by
  rw[V9] at hz
  cases h:ps[i]? with
  | none=>rw[h] at hz;cases hz
  | some one=>
   rw[h] at hz;cases hz
   show(tL y g').set (.v (cS one)) ⟨G4,G5 ps i,Qi ps (ps.getD i (0,0))⟩ fun s2=> (tM y g').ex s2 fun f s3=>bF f (True∧av s3 G4 (G5 ps (i+1))) False fun v=>R v s3
   rw[eJ h]
   exact G6 X' (by rw[b.n];exact YY hn) ps hl Qh i one h R
 have rt:(a7 ps).take (ps.map cS).length=a7 ps:=Y3 (by unfold a7;rw[E9,E9];exact E8 _)
 refine aR (P:=_∧(_∧_)∧(True∧av (.mk [some (.v (.lst (ps.map cS))),some (.r 30),none] [(30,.list []),(11,.cell none),(10,.cell (some (.v (.lst ((cB ps).map .int)))))] .nil) G4 (G5 ps 0))∧bg (tL y g') (tM y g') (ps.map cS) (fun O=>True) (fun O=>G4) (G5 ps) (fun i O=>Qi ps (ps.getD i (0,0))) (fun v s3=>dH (.ret v) s3 (.lst (ak (a7 ps))) [])∧(True→RV.v (.lst (ak ((a7 ps).take (ps.map cS).length)))= .v (.lst (ak (a7 ps)))∧rf ([]:Os)))
  ⟨zj X' ps,⟨lf,sz Jz rfl⟩,⟨trivial,rfl⟩,fs _,fun O=> ⟨by rw[rt],rfl⟩⟩ (by kernel_rfl!)
end
end
end
section
section
section
variable {g:Gd}{env:Env}{st:AS}
theorem q9{o i mD aj pos}(h:W0 g VR (eval aj env) st fun v aD=>W1 g UR (assign (.Subscript o i mD) env) v aD fun O aK=>Q .next aK)(hs:swapsWith aj (some (.Subscript o i mD)) pos.line env=pure false):W0 g FR (exec (.Assign [.Subscript o i mD] aj pos) env) st Q:=fun F s r K E k=>by
 rw[exec_Assign_Subscript _ _ _ _ _ hs]
 exact E3 (Zc (E3 (h F s r _ E fun F1 v v' aD s1 l1 r1 hv h1=>E3 (h1 F1 s1 v' r1 hv _ E fun F2 O O aK s2 l2 r2 O h2=>U1 (k F2 .next _ aK s2 (l1.trans l2) r2 rfl h2)))))
end
structure LR(C:Ctx) where
 o:SE C
 i:SE C
 p:Pos
noncomputable def LR.sub{C:Ctx}(o i:SE C)(p:Pos):LR C:=⟨o,i,p⟩
noncomputable def SS.TT{C:Ctx}(t:LR C)(x:SE C)(pos:Pos):SS C:=⟨.Assign [(TG.sub t.o t.i t.p).e] x.e pos,fun s K=>eE x.sw (x.ev s fun v s1=> (TG.sub t.o t.i t.p).set v s1 fun s2=>K .next s2),
 fun {ρ env M s K} fr h=>q9 (bz (x.ok fr (aq h).2) fun v s1 h=>gm (G:=fun O st=>PF C ρ M K .next st) ((TG.sub t.o t.i t.p).ok fr h) fun s h=>pf (f:= .next) h) (x.fm.sp (aq h).1 _ _ _)⟩
end
end
section
section
noncomputable def LS(y:Lay):Cx:=cx y [] [("square",.cell,10),("last",.cell,11),("k",.cell,12),("i",.cell,13)] [1] true
noncomputable def Qj(y:Lay):Cx:=cx y [".0","j"] [("i",.free,13),("k",.free,12),("last",.free,11),("square",.free,10)] [] false
noncomputable def CA(y:Lay)(g:Gd):LC ⟨LS y,g⟩:=⟨Qj y,fun g=> (.n (.loc 1) 322 113),fun g=>[],fun g=> (.div (.sub (.mul (.get (.get (.ce 3 322 42) (.ce 0 322 49)) (.lo 1 322 52)) (.get (.get (.ce 3 322 57) (.ce 1 322 64)) (.ce 1 322 67))) (.mul (.get (.get (.ce 3 322 72) (.ce 0 322 79)) (.ce 1 322 82)) (.get (.get (.ce 3 322 87) (.ce 1 322 94)) (.lo 1 322 97)))) (.ce 2 322 104) (q 322 41 108)),[],rfl,rfl,fun O=>rfl,fun O=>rfl,fun O=>by kernel_rfl!⟩
noncomputable def xS(y:Lay)(g:Gd):TG ⟨LS y,g⟩:=(.n (.cc 3) 321 12)
noncomputable def xT(y:Lay)(g:Gd):SB ⟨LS y,g⟩:=(.cons (.TT (.sub (.ce 0 322 12) (.ce 3 322 19) (q 322 12 21)) (.add (.mul (.lst [(.nt 0 322 25)]) (.add (.ce 2 322 31) (.nt 1 322 35)) (q 322 24 37)) (.lc (CA y g) (.of (.cl 1 322 118 [(.add (.ce 2 322 124) (.nt 1 322 128)),(.nt 5 322 131)])) (q 322 40 134))) (q 322 12 134))<| .nil)
noncomputable def xU(y:Lay)(g:Gd):TG ⟨LS y,g⟩:=(.n (.cc 2) 320 8)
noncomputable def xV(y:Lay)(g:Gd):SB ⟨LS y,g⟩:=(.cons (.for (xS y g) (.of (.cl 1 321 17 [(.add (.ce 2 321 23) (.nt 1 321 27)),(.nt 5 321 30)])) (xT y g) ⟨321,8,322,134⟩)<|(.cons (.ag (.cc 1) 323 8 (.get (.get (.ce 0 323 15) (.ce 2 323 22)) (.ce 2 323 25)))<| .nil))
noncomputable def Xu(y:Lay)(g:Gd):SB ⟨LS y,g⟩:=(.cons (.ag (.cc 1) 319 4 (.nt 1 319 11))<|(.cons (.for (xU y g) (.of (.cl 1 320 13 [(.nt 4 320 19)])) (xV y g) ⟨320,4,323,27⟩)<|(.cons (.ret (.get (.get (.ce 0 324 11) (.nt 4 324 18)) (.nt 4 324 21)))<| .nil)))
noncomputable def iQ(M:List (List Int))(last:Int)(k i j:Nat):Int:=(bJ M i j*bJ M k k - bJ M i k*bJ M k j).fdiv last
noncomputable def nO(M:List (List Int))(last:Int)(k i:Nat):List Int:=replicate (k+1) 0++(List.range (4 - k)).map fun d=>iQ M last k i (k+1+d)
noncomputable def dI(M:List (List Int))(last:Int)(k n:Nat):List (List Int):=n.rec M fun n A=>A.set (k+1+n) (nO A last k (k+1+n))
noncomputable def dS(M:List (List Int))(k:Nat):List (List Int)×Int:=k.rec (M,1) fun k s=> (dI s.1 s.2 k (4 - k),bJ (dI s.1 s.2 k (4 - k)) k k)
noncomputable def kN(M:List (List Int)):Int:=bJ (dS M 4).1 4 4
structure vK(A:List (List Int)):Prop where
 l:A.length=5
 r:∀a,a<5→(A.getD a []).length=5
 b:∀a b,a<5→b<5→(bJ A a b).natAbs<1000000
theorem LU{a b:Int}(h:a.natAbs<1000000):IntMulOk a b:=ab6 (by
 unfold Builtin.Int.intBits
 split
 ·exact Y8 _
 ·next hz=>exact(log2_lt fun e=>hz (ZE.mpr (Int.natAbs_eq_zero.mp e))).mpr (U2 h (E1 rfl)))
theorem kO{A:List (List Int)}(F:vK A){a:Nat}(ha:a<5):bT (ak A) (a:Nat)=some (.lst ((A.getD a []).map .int)):=aO [] (by rw[F.l];exact ha)
theorem kP{A:List (List Int)}(F:vK A){a b:Nat}(ha:a<5)(hb:b<5):bT ((A.getD a []).map AV.int) (b:Nat)=some (.int (bJ A a b)):=aO 0 (by rw[F.r a ha];exact hb)
section
variable {y:Lay}{g:Gd}
noncomputable def dO(A:List (List Int))(i k last:Option RV):Os:=[(13,.cell i),(12,.cell k),(11,.cell last),(10,.cell (some (.r 0))),(0,.aU (ak A))]
noncomputable abbrev nI(n:Nat):Option RV:=some (.v (.int n))
noncomputable def LV(A:List (List Int))(last:Int)(k i:Nat)(z:AV):Option AV:=some (.int (iQ A last k i (dC z).toNat))
noncomputable def TU(A:List (List Int))(k i:Nat)(z:AV):Hint:=
 let r:=fun a=>AV.lst ((A.getD a []).map .int)
 let e:=fun a b=>AV.int (bJ A a b)
 .v (r i)<| .v (e i (dC z).toNat)<| .v (r k)<| .v (e k k)<| .v (r i)<| .v (e i k)<| .v (r k)<| .v (e k (dC z).toNat) .nil
theorem CB(X:cH y g)(A:List (List Int))(F:vK A)(last:Int)(h0:last≠0)(h1:last.natAbs<1073741824)(k i:Nat)(hk:k<5)(hi:i<5)(l:List AV)(hl:∀z∈l,∃j:Nat,j<5∧z= .int j):
  (CA y g).turn (dO A (nI i) (nI k) (some (.v (.int last)))) (LV A last k i) (TU A k i) l:=fun g' b z hz=>by
 obtain⟨j,hj,rfl⟩:=hl z hz
 have r1:(ak A).length≤sizeLine:=sz (ar (U8 F.l)) rfl
 have r2:∀a,a<5→((A.getD a []).map AV.int).length≤sizeLine:=fun a ha=>sz (ar (U8 (F.r a ha))) rfl
 refine aR (P:=SL (ak A)∧AG (ak A) ↑i (.lst (map .int (List.getD A i [])))∧SL (map AV.int (List.getD A i []))∧AG (map .int (List.getD A i [])) ↑j (.int (bJ A i j))∧SL (ak A)∧AG (ak A) ↑k (.lst (map .int (List.getD A k [])))∧SL (map AV.int (List.getD A k []))∧AG (map .int (List.getD A k [])) ↑k (.int (bJ A k k))∧IntMulOk (bJ A i j) (bJ A k k)∧SL (ak A)∧AG (ak A) ↑i (.lst (map .int (List.getD A i [])))∧SL (map AV.int (List.getD A i []))∧AG (map .int (List.getD A i [])) ↑k (.int (bJ A i k))∧SL (ak A)∧AG (ak A) ↑k (.lst (map .int (List.getD A k [])))∧SL (map AV.int (List.getD A k []))∧AG (map .int (List.getD A k [])) ↑j (.int (bJ A k j))∧IntMulOk (bJ A i k) (bJ A k j)∧last≠0∧natAbs last<1073741824∧rf (LV A last k i (AV.int ↑j))∧rf (dO A (nI i) (nI k) (some (.v (.int last)))))
  ⟨r1,kO F hi,r2 i hi,kP F hi hj,r1,kO F hk,r2 k hk,kP F hk hk,LU (F.b i j hi hj),r1,kO F hi,r2 i hi,kP F hi hk,r1,kO F hk,r2 k hk,kP F hk hj,LU (F.b i k hi hk),h0,h1,rfl,rfl⟩ (by kernel_rfl!)
theorem LW:∀k:Nat,k<4→aJ ((k:Int)+((1:Nat):Int)) ((5:Nat):Int) 1=(List.range (4 - k)).map fun d=>AV.int ((k+1+d:Nat):Int)
 | 0,_=>by kernel_rfl!
 | 1,_=>by kernel_rfl!
 | 2,_=>by kernel_rfl!
 | 3,_=>by kernel_rfl!
 | n+4,h=>absurd h (Zd.mpr (Zi 4 n))
theorem CC:∀k:Nat,k<4→Builtin.Range.small ((k:Int)+((1:Nat):Int)) ((5:Nat):Int) 1=true
 | 0,_=>by kernel_rfl!
 | 1,_=>by kernel_rfl!
 | 2,_=>by kernel_rfl!
 | 3,_=>by kernel_rfl!
 | n+4,h=>absurd h (Zd.mpr (Zi 4 n))
theorem jT{α:Type}{f g:α→AV}{F:AV→Option AV}(h:∀a,F (f a)=some (g a)):∀l:List α,(l.map f).filterMap F=l.map g
 | []=>rfl
 | a::l=>by rw[YI,Zh,h a,jT h l];rfl
theorem Qk:∀n,(replicate n [AV.int 0]).flatten=(replicate n (0:Int)).map .int
 | 0=>rfl
 | n+1=>E5 (AV.int 0:: ·) (Qk n)
noncomputable def JA(A:List (List Int))(last:Int)(k i:Nat):Hint:= .f (LV A last k i) (TU A k i)<| .v (.lst (((List.range (4 - k)).map fun d=>iQ A last k i (k+1+d)).map .int))<| .a .nil
theorem CD(X:cH y g)(A:List (List Int))(F:vK A)(last:Int)(h0:last≠0)(h1:last.natAbs<1073741824)(k n:Nat)(hk:k<4)(hn:n<4 - k)(c:Option RV)(R:RV→S→Prop):
  (xS y g).set (.v (.int (k+1+n:Nat))) ⟨[],dO A c (nI k) (some (.v (.int last))),JA A last k (k+1+n)⟩ fun s2=> (xT y g).ex s2 fun f s3=>bF f (True∧av s3 [] (dO (A.set (k+1+n) (nO A last k (k+1+n))) none (nI k) (some (.v (.int last))))) False fun v=>R v s3:=by
 have k5:k<5:=YW hk
 have i5:k+1+n<5:=by omega
 have er:=LW k hk
 have et:=CB X A F last h0 h1 k (k+1+n) k5 i5 (aJ ((k:Int)+((1:Nat):Int)) ((5:Nat):Int) 1) fun z hz=>by
  rw[er] at hz
  obtain⟨d,hd,rfl⟩:=U0.mp hz
  exact⟨k+1+d,by have:=YD.mp hd;omega,rfl⟩
 have ef:(aJ ((k:Int)+((1:Nat):Int)) ((5:Nat):Int) 1).filterMap (LV A last k (k+1+n))=((List.range (4 - k)).map fun d=>iQ A last k (k+1+n) (k+1+d)).map .int:=by
  rw[er,V3]
  exact jT (F:=LV A last k (k+1+n)) (g:=AV.int∘fun d=>iQ A last k (k+1+n) (k+1+d)) (fun d=>rfl) (List.range (4 - k))
 have hl:(ak A).length=5:=(E9 ..).trans F.l
 have e1:(replicate (toNat ((k:Int)+((1:Nat):Int))) [AV.int ((0:Nat):Int)]).flatten=(replicate (k+1) (0:Int)).map .int:=Qk (k+1)
 have e2:(replicate (k+1) (0:Int)).map AV.int++((List.range (4 - k)).map fun d=>iQ A last k (k+1+n) (k+1+d)).map .int=(nO A last k (k+1+n)).map .int:=(YA ..).symm
 have l4:(((List.range (4 - k)).map fun d=>iQ A last k (k+1+n) (k+1+d)).map AV.int).length≤4:=by rw[E9,E9,YP];exact ab0 ..
 have l5:((replicate (k+1) (0:Int)).map AV.int).length≤5:=by rw[E9,ZY];exact k5
 refine aR (P:=0≤↑k+((1:Nat):Int)∧↑k+((1:Nat):Int)<1000∧length [AV.int ((0:Nat):Int)]≤1000∧Builtin.Range.small (↑k+((1:Nat):Int)) ((5:Nat):Int) 1=true∧length (aJ (↑k+((1:Nat):Int)) ((5:Nat):Int) 1)≤sizeLine∧LC.bV (CA y g) none [(13,EO.cell (some (.v (.int ↑(k+1+n))))),(12,EO.cell (nI k)),(11,EO.cell (some (.v (.int last)))),(10,EO.cell (some (.r 0))),(0,EO.aU (ak A))] (LV A last k (k+1+n)) (TU A k (k+1+n)) (aJ (↑k+((1:Nat):Int)) ((5:Nat):Int) 1)∧filterMap (LV A last k (k+1+n)) (aJ (↑k+((1:Nat):Int)) ((5:Nat):Int) 1)=map .int (map (fun(d:Nat)=>iQ A last k (k+1+n) (k+1+d)) (List.range (4 - k)))∧length (flatten (replicate (toNat (↑k+((1:Nat):Int))) [AV.int ((0:Nat):Int)]))+length (map AV.int (map (fun(d:Nat)=>iQ A last k (k+1+n) (k+1+d)) (List.range (4 - k))))≤sizeLine∧0≤(↑(k+1+n):Int)∧(↑(k+1+n):Int)<(↑(length (ak A)):Int)∧length (ak A)≤1000000∧True∧av (.mk ([]) ([(13,EO.cell (some (.v (.int ↑(k+1+n))))),(12,EO.cell (nI k)),(11,EO.cell (some (.v (.int last)))),(10,EO.cell (some (.r 0))),(0,EO.aU (List.set (ak A) (k+1+n) (AV.lst (flatten (replicate (toNat (↑k+((1:Nat):Int))) [AV.int ((0:Nat):Int)])++map AV.int (map (fun(d:Nat)=>iQ A last k (k+1+n) (k+1+d)) (List.range (4 - k)))))))]) .nil) ([]) (dO (List.set A (k+1+n) (nO A last k (k+1+n))) none (nI k) (some (.v (.int last))))) ?_ (by kernel_rfl!)
 rw[e1,e2]
 refine⟨V6 (k+1),Int.lt_of_lt_of_le (YR.mpr (ab9 k5)) (by decide),E1 rfl,CC k hk,?_,et,ef,sz (sa l5 l4) rfl,V6 _,?_,?_,trivial,?_⟩
 ·rw[er,E9,YP];exact sz (ab0 4 k) rfl
 ·rw[hl];exact YR.mpr i5
 ·rw[hl];decide
 ·show _=(_,[_,_,_,_,(0,EO.aU (ak (A.set (k+1+n) (nO A last k (k+1+n)))))])
  rw[show ak (A.set (k+1+n) (nO A last k (k+1+n)))=(ak A).set (k+1+n) (.lst ((nO A last k (k+1+n)).map .int)) from List.map_set ..]
  rfl
structure tS(M:List (List Int)):Prop where
 Ql:∀k n,k<4→n≤4 - k→vK (dI (dS M k).1 (dS M k).2 k n)
 last:∀k,k<4→(dS M k).2≠0∧(dS M k).2.natAbs<1073741824
 TV:vK (dS M 4).1
theorem G7(A:List (List Int))(last:Int)(k n:Nat):dI A last k (n+1)=(dI A last k n).set (k+1+n) (nO (dI A last k n) last k (k+1+n)):=rfl
noncomputable def TW(A:List (List Int))(last:Int)(k:Nat)(n:Nat):Hint:=JA (dI A last k n) last k (k+1+n)
noncomputable def G8(M:List (List Int))(k:Nat):Hint:=
 .loop (fun O=>True) (fun O=>[]) (fun n=>dO (dI (dS M k).1 (dS M k).2 k n) none (nI k) (some (.v (.int (dS M k).2)))) (fun n O=>TW (dS M k).1 (dS M k).2 k n)<|
 .v (.lst (((dS M (k+1)).1.getD k []).map .int))<| .v (.int (bJ (dS M (k+1)).1 k k)) .nil
theorem LX(X:cH y g){M:List (List Int)}(D:tS M)(k:Nat)(hk:k<4)(R:RV→S→Prop):
  bg (xS y g) (xT y g) (aJ ((k:Int)+((1:Nat):Int)) ((5:Nat):Int) 1) (fun O=>True) (fun O=>[]) (fun n=>dO (dI (dS M k).1 (dS M k).2 k n) none (nI k) (some (.v (.int (dS M k).2)))) (fun n O=>TW (dS M k).1 (dS M k).2 k n) R:=fun n z hz O=>by
 rw[LW k hk,V9] at hz
 cases h:(List.range (4 - k))[n]? with
 | none=>rw[h] at hz;cases hz
 | some d=>
  rw[h] at hz;cases hz
  obtain⟨hn,e⟩:=V7.mp h
  rw[YP] at hn
  rw[List.getElem_range] at e
  subst e
  obtain⟨l0,l1⟩:=D.last k hk
  exact CD X _ (D.Ql k n hk (Yy hn)) _ l0 l1 k n hk hn none R
theorem CE(X:cH y g){M:List (List Int)}(D:tS M)(k:Nat)(hk:k<4)(c d:Option RV)(R:RV→S→Prop):
  (xU y g).set (.v (.int k)) ⟨[],dO (dS M k).1 c d (some (.v (.int (dS M k).2))),G8 M k⟩ fun s2=> (xV y g).ex s2 fun f s3=>bF f (True∧av s3 [] (dO (dS M (k+1)).1 none none (some (.v (.int (dS M (k+1)).2))))) False fun v=>R v s3:=by
 have k5:k<5:=YW hk
 have fi:=LX X D k hk R
 have F:vK (dS M (k+1)).1:=D.Ql k (4 - k) hk (E8 _)
 have rl:(aJ ((k:Int)+((1:Nat):Int)) ((5:Nat):Int) 1).length=4 - k:=by rw[LW k hk,E9,YP]
 refine aR (P:=Builtin.Range.small (↑k+((1:Nat):Int)) ((5:Nat):Int) 1=true∧(True∧av (.mk ([]) ([(13,EO.cell c),(12,EO.cell (some (.v (.int ↑k)))),(11,EO.cell (some (.v (.int (snd (dS M k)))))),(10,EO.cell (some (.r 0))),(0,EO.aU (ak (fst (dS M k))))]) .nil) ((fun(x:Nat)=>[]) 0) ((fun(n:Nat)=>dO (dI (fst (dS M k)) (snd (dS M k)) k n) none (nI k) (some (.v (.int (snd (dS M k)))))) 0))∧(bg (xS y g) (xT y g) (aJ (↑k+((1:Nat):Int)) ((5:Nat):Int) 1) (fun(x:Nat)=>True) (fun(x:Nat)=>[]) (fun(n:Nat)=>dO (dI (fst (dS M k)) (snd (dS M k)) k n) none (nI k) (some (.v (.int (snd (dS M k)))))) (fun(n:Nat) (x:AV)=>TW (fst (dS M k)) (snd (dS M k)) k n) fun(v:RV) (s3:S)=>R v s3)∧(True→SL (ak (dI (fst (dS M k)) (snd (dS M k)) k (length (aJ (↑k+((1:Nat):Int)) ((5:Nat):Int) 1))))∧AG (ak (dI (fst (dS M k)) (snd (dS M k)) k (length (aJ (↑k+((1:Nat):Int)) ((5:Nat):Int) 1)))) ↑k (.lst (map .int (List.getD (fst (dS M (k+1))) k [])))∧SL (map AV.int (List.getD (fst (dS M (k+1))) k []))∧AG (map .int (List.getD (fst (dS M (k+1))) k [])) ↑k (.int (bJ (fst (dS M (k+1))) k k))∧True∧av (.mk ([]) ([(13,EO.cell none),(12,EO.cell (nI k)),(11,EO.cell (some (.v (.int (bJ (fst (dS M (k+1))) k k))))),(10,EO.cell (some (.r 0))),(0,EO.aU (ak (dI (fst (dS M k)) (snd (dS M k)) k (length (aJ (↑k+((1:Nat):Int)) ((5:Nat):Int) 1)))))]) .nil) ([]) (dO (fst (dS M (k+1))) none none (some (.v (.int (snd (dS M (k+1))))))))) ?_ (by kernel_rfl!)
 rw[rl]
 exact⟨CC k hk,⟨trivial,rfl⟩,fi,fun O=> ⟨sz (ar (U8 F.l)) rfl,kO F k5,sz (ar (U8 (F.r k k5))) rfl,kP F k5 k5,trivial,rfl⟩⟩
theorem LY(X:cH y g)(hn:9≤g.n){M:List (List Int)}(D:tS M):
  Fn g (.v (.val (.ref (y.ad 78)))) [.r 0] [] [] [(0,.list (ak M))] (.v (.int (kN M))) [(0,.aU (ak (dS M 4).1))]:=by
 refine iN X hn (X.fn 78 "_law_determinant" (by decide)) (LS y) (Xu y)
  (.loop (fun O=>True) (fun O=>[]) (fun k=>dO (dS M k).1 none none (some (.v (.int (dS M k).2)))) (fun k O=>G8 M k)<| .v (.lst (((dS M 4).1.getD 4 []).map .int))<| .v (.int (kN M)) .nil) (by intros;kernel_rfl!) fun g' b=>?_
 have X':=X.bS b.bS
 have fo:∀R:RV→S→Prop,bg (xU y g') (xV y g') (aJ 0 ((4:Nat):Int) 1) (fun O=>True) (fun O=>[]) (fun k=>dO (dS M k).1 none none (some (.v (.int (dS M k).2)))) (fun k O=>G8 M k) R:=fun R i z hz O=>by
  obtain⟨hi,rfl⟩:=dm (n:=4) hz
  exact CE X' D i hi none none R
 have rl:(aJ 0 ((4:Nat):Int) 1).length=4:=fC
 have F:=D.TV
 refine aR (P:=Builtin.Range.small 0 ((4:Nat):Int) 1=true∧(True∧EE ((fun(x:Nat)=>[]) 0) ((fun(k:Nat)=>dO (fst (dS M k)) none none (some (.v (.int (snd (dS M k)))))) 0))∧(bg (xU y g') (xV y g') (aJ 0 ((4:Nat):Int) 1) (fun(x:Nat)=>True) (fun(x:Nat)=>[]) (fun(k:Nat)=>dO (fst (dS M k)) none none (some (.v (.int (snd (dS M k)))))) (fun(k:Nat) (x:AV)=>G8 M k) fun(v:RV) (s3:S)=>dH (RF.ret v) s3 (AV.int (kN M)) [(0,EO.aU (ak (fst (dS M 4))))])∧(True→SL (ak (fst (dS M (length (aJ 0 ((4:Nat):Int) 1)))))∧AG (ak (fst (dS M (length (aJ 0 ((4:Nat):Int) 1))))) ((4:Nat):Int) (.lst (map .int (List.getD (fst (dS M 4)) 4 [])))∧SL (map AV.int (List.getD (fst (dS M 4)) 4 []))∧AG (map .int (List.getD (fst (dS M 4)) 4 [])) ((4:Nat):Int) (.int (kN M))∧VI (.int (kN M)) (.int (kN M))∧filter (fun(p:Nat×EO)=>List.any [(0,EO.aU (ak (fst (dS M 4))))] fun(Lw:Nat×EO)=>beq Lw.1 p.1) (dO (fst (dS M (length (aJ 0 ((4:Nat):Int) 1)))) none none (some (.v (.int (snd (dS M (length (aJ 0 ((4:Nat):Int) 1))))))))=[(0,.aU (ak (fst (dS M 4))))])) ?_ (by kernel_rfl!)
 rw[rl]
 exact⟨pU (n:=4) (by decide),⟨trivial,rfl⟩,fo _,fun O=> ⟨sz (ar (U8 F.l)) rfl,kO F (by decide),sz (ar (U8 (F.r 4 (by decide)))) rfl,kP F (by decide) (by decide),rfl,rfl⟩⟩
end
end
end
section
section
variable {K:Type}[DecidableEq K]
noncomputable def aZ{α:Type}(kvs:List (K×α))(k:K):Option α:=(kvs.find? fun q=>decide (q.1=k)).map (·.2)
noncomputable def aH{α:Type}(kvs:List (K×α))(k:K)(x:α):List (K×α):=
 if kvs.any (fun q=>decide (q.1=k)) then kvs.map (fun q=>if q.1=k then(q.1,x) else q) else kvs++ [(k,x)]
theorem h_{F:FM}:∀ {kvs:List (K×AV)} {vs:List Value},aQ F (kvs.map (·.2)) vs→∀k,(aZ kvs k=none→valueAt ((kvs.map (·.1)).zip vs) k=none)∧∀v,aZ kvs k=some v→∃u,valueAt ((kvs.map (·.1)).zip vs) k=some u∧VR F v u
 | [],vs,_,k=> ⟨fun O=>rfl,fun v h=>nomatch h⟩
 | q::kvs,vs,h,k=>by
  obtain⟨u,r,rfl,h1,h2⟩:=h
  have ih:=h_ h2 k
  unfold aZ valueAt at ih ⊢
  rw[YI,aaY,aak,aak]
  by_cases e:q.1=k
  ·simp only[e,decide_true]
   exact⟨fun h=> (nomatch h),fun v hv=>by cases hv;exact⟨u,rfl,h1⟩⟩
  ·simp only[e,decide_false]
   exact ih
theorem kQ{F:FM}{k:K}(hx:VR F x u){kvs:List (K×AV)}{vs:List Value}(h:aQ F (kvs.map (·.2)) vs):
  ∃fX,stored ((kvs.map (·.1)).zip vs) k u=((aH kvs k x).map (·.1)).zip fX∧aQ F ((aH kvs k x).map (·.2)) fX:=by
 have TX:∀ {kvs:List (K×AV)} {vs:List Value},aQ F (kvs.map (·.2)) vs→(((kvs.map (·.1)).zip vs).any fun kv=>decide (kv.1=k))=kvs.any fun q=>decide (q.1=k):=by
  intro kvs
  induction kvs with
  | nil=>intro vs _;rfl
  | cons q kvs ih=>
   intro vs h
   obtain⟨u,r,rfl,h1,h2⟩:=h
   rw[YI,aaY,aae,aae,ih h2]
 unfold stored aH
 rw[TX h]
 by_cases e:(kvs.any fun q=>decide (q.1=k))=true
 ·rw[V8 e,V8 e]
  clear e
  induction kvs generalizing vs with
  | nil=>cases(h:vs=[]);exact⟨[],rfl,rfl⟩
  | cons q kvs ih=>
   obtain⟨w,r,rfl,h1,h2⟩:=h
   obtain⟨fX,e1,e2⟩:=ih h2
   rw[YI,aaY,YI,YI,YI,YI,e1]
   by_cases e:q.1=k
   ·rw[V8 e,V8 e]
    exact⟨u::fX,rfl,dE hx e2⟩
   ·rw[V4 e,V4 e]
    exact⟨w::fX,rfl,dE h1 e2⟩
 ·rw[V4 e,V4 e]
  clear e
  induction kvs generalizing vs with
  | nil=>cases(h:vs=[]);exact⟨[u],rfl,dE hx gd⟩
  | cons q kvs ih=>
   obtain⟨w,r,rfl,h1,h2⟩:=h
   obtain⟨fX,e1,e2⟩:=ih h2
   refine⟨w::fX,?_,dE h1 e2⟩
   rw[YI,aaY,List.cons_append,e1];rfl
end
section
variable {g:Gd}{env:Env}{st:AS}
theorem RK(p:Program)(w:World)(k:Int)(t:Tok):(intKind p w).is k (.int k t)=true:=ZI k
theorem VD(p:Program)(w:World)(k:Str)(t:Tok):(strKind p w).is k (.str k t)=true:=ZI k
theorem LZ{a:Addr}{kvs:List (Int×AV)}{k:Int}(hm:(a,AO.ci g.prog g.w kvs)∈st.mem)(hk:aZ kvs k=some v)(h:Q v st):W2 g VR getItem (.val (.ref a)) (.int k) st Q:=fun F s v' u r hv hu K E kk=>by
 cases(hv:_=_);obtain⟨t,rfl⟩:=hu
 obtain⟨vs,e,rr⟩:=r.hm _ hm
 obtain⟨w,hw,hr⟩:=(h_ rr k).2 v hk
 exact ab5 (RK _ _ k t) e.mapOf hw (kk F _ _ st _ (FM.le.refl _) (r.tok _ tp) hr h)
theorem G9{a:Addr}{ep:Option Nat}{kvs:List (Str×AV)}(hm:(a,AO.iK g.prog g.w ep kvs)∈st.mem)(hk:aZ kvs k=some v)(h:Q v st):W2 g VR getItem (.val (.ref a)) (.str k) st Q:=fun F s v' u r hv hu K E kk=>by
 cases(hv:_=_);obtain⟨t,rfl⟩:=hu
 obtain⟨vs,n,e,_,rr⟩:=r.hm _ hm
 obtain⟨w,hw,hr⟩:=(h_ rr k).2 v hk
 exact ab5 (VD _ _ k t) e.dictOf.mapOf hw (kk F _ _ st _ (FM.le.refl _) (r.tok _ tp) hr h)
theorem iC{K:Type}{F:FM}{kvs:List (K×AV)}{vs:List Value}(h:aQ F (kvs.map (·.2)) vs):((kvs.map (·.1)).zip vs).length=kvs.length:=by
 rw[aaO,h.length,E9,E9,Nat.min_self]
theorem L0{a:Addr}{kvs:List (Int×AV)}{k:Int}{vars}(hsz:kvs.length≤sizeLine)(u:Upd mem a (.ci g.prog g.w kvs) (.ci g.prog g.w (aH kvs k x)) mem')(h:Q () ⟨vars,mem'⟩):
  W3 g setItem (.val (.ref a)) (.int k) x ⟨vars,mem⟩ Q:=fun F s v w z r hv hw hz K E kk=>by
 cases(hv:_=_);obtain⟨t,rfl⟩:=hw
 obtain⟨vs,e,rr⟩:=r.hm _ u.mem
 obtain⟨fX,e1,e2⟩:=kQ (k:=k) hz rr
 exact wpAny_setItem_pairs (RK _ _ k t) e (fun h' hd hs=>kk F () () _ _ (FM.le.refl _) (r.turn u hs (lD.mk fX (e1▸hd) e2) (s.toks+1) tp) trivial h) (by rw[iC rr];exact hsz)
theorem G_{a:Addr}{ep:Option Nat}{kvs:List (Str×AV)}{vars}(hsz:kvs.length≤sizeLine)(u:Upd mem a (.iK g.prog g.w ep kvs) (.iK g.prog g.w none (aH kvs k x)) mem')(h:Q () ⟨vars,mem'⟩):
  W3 g setItem (.val (.ref a)) (.str k) x ⟨vars,mem⟩ Q:=fun F s v w z r hv hw hz K E kk=>by
 cases(hv:_=_);obtain⟨t,rfl⟩:=hw
 obtain⟨vs,n,e,_,rr⟩:=r.hm _ u.mem
 obtain⟨fX,e1,e2⟩:=kQ (k:=k) hz rr
 exact wpAny_setItem_pairs (VD _ _ k t) e.dictOf (fun h' hd hs=>kk F () () _ _ (FM.le.refl _) (r.turn u hs ((e1▸hd:h'.DictOf (strKind g.prog g.w) a _).dictAt.elim fun n d=>gP.mk fX n d (fun O h=>nomatch h) e2) (s.toks+1) tp) trivial h) (by rw[iC rr];exact hsz)
end
end
section
section
variable {g:Gd}{env:Env}{st:AS}
theorem xW{F:FM}(sm:∃o,g.K.f sysModules=some o)(r:RepM g F mem s){a:Addr}(hm:(a,o)∈mem):(a==sysModules)=false:=by
 obtain⟨ob,e⟩:=sm
 refine Zs.mpr fun q=>?_
 have h2:=(r.ap _ hm).2
 rw[show F.f (a,o).1=some ob from q▸r.hK _ _ e] at h2
 cases h2
theorem Qm{a:Addr}{kvs:List (Int×AV)}{id:String}(hm:(a,AO.ci g.prog g.w kvs)∈st.mem)(slot:Slot "dict" name id)(Oi:typeOf (.builtin id)=pure (.type "method_descriptor")):
  eQ g (.val (.ref a)) name (.val (.builtin id)) [.val (.ref a)] st:=fun F s v pl r hv K E k=>by
 cases(hv:_=_)
 obtain⟨vs,⟨o,es,ep,e,hx,h⟩,rr⟩:=r.hm _ hm
 exact aao ⟨_,e,hx.1⟩ PySem.F.plainAttrs_dict slot Oi (fun b eb=>by cases eb;exact⟨_,e,hx.2.1⟩) (k F _ _ s (FM.le.refl _) r (ke ..) (dE (ke ..) gd))
theorem G'{a:Addr}{kvs:List (Int×AV)}{k:Int}(sm:∃o,g.K.f sysModules=some o)(hm:(a,AO.ci g.prog g.w kvs)∈st.mem)(h:Q ((aZ kvs k).getD d) st):Wl g VR (fun vs=>call (.builtin "dict.get") vs) [.val (.ref a),.int k,d] st Q:=fun F s vs r hv K E kk=>by
 obtain⟨v,u,w,rfl,hv,hu,hw⟩:=OX hv
 cases(hv:_=_);obtain⟨t,rfl⟩:=hu
 obtain⟨vs,e,rr⟩:=r.hm _ hm
 have hr:VR F ((aZ kvs k).getD d) ((valueAt ((kvs.map (·.1)).zip vs) k).getD w):=by
  cases hl:aZ kvs k with
  | none=>rw[(h_ rr k).1 hl];exact hw
  | some v=>obtain⟨w',Xv,hr⟩:=(h_ rr k).2 v hl;rw[Xv];exact hr
 exact call_meetsIn PySem.F.slot_dict_get e.typeIs PySem.F.entry_dict_get (PySem.F.args_dict_get_3 _ _ _) (meets_dict_get_default (intKind g.prog g.w) a (RK _ _ k t) (xW sm r.toRepM hm) w)
  ⟨_,e.mapOf,kk F _ _ st _ (FM.le.refl _) (r.tok _ tp) hr h⟩
theorem Ha(h:∀a,Q (.val (.ref a)) ⟨st.vars,(a,.ci g.prog g.w [])::st.mem⟩):W0 g VR (eval (.Dict [] [] pos) env) st Q:=fun F s r K E k=>
 wpAny_Dict_empty (k F _ _ _ _ (FM.le.refl _) (r.js (o:= {cls:= .type "dict",data:= .dict #[] }) (ao:= .ci g.prog g.w []) rfl s.toks (fun h e=>lD.mk [] ⟨_,#[],0,e,⟨rfl,rfl,rfl⟩,rfl,(fun O he=>by simp at he),Pairs.nil,ZL⟩ rfl) id) (ke ..) (h _))
theorem CG(h:∀a,Q (.val (.ref a)) ⟨st.vars,(a,.iK g.prog g.w none [])::st.mem⟩):W0 g VR (eval (.Dict [] [] pos) env) st Q:=fun F s r K E k=>
 wpAny_Dict_empty (k F _ _ _ _ (FM.le.refl _) (r.js (o:= {cls:= .type "dict",data:= .dict #[] }) (ao:= .iK g.prog g.w none []) rfl s.toks (fun h e=>gP.mk [] 0 ⟨_,#[],e,⟨rfl,rfl,rfl⟩,rfl,(fun O he=>by simp at he),Pairs.nil,ZL⟩ (fun O h=>nomatch h) rfl) id) (ke ..) (h _))
end
end
section
section
variable {g:Gd}{env:Env}{st:AS}
theorem me{F:FM}:∀ {l:List Str} {vs:List Value},aQ F (l.map .str) vs→StrsAre vs l
 | [],vs,h=>by cases(h:vs=[]);exact .nil
 | x::l,vs,h=>by
  obtain⟨u,r,rfl,h1,h2⟩:=h
  obtain⟨t,rfl⟩:=h1
  exact .cons _ _ (me h2)
theorem L1{a:Addr}{l:List Str}(hm:(a,AO.list (l.map .str))∈st.mem)(h:Q (.bool (l.any (· ==k))) st):W2 g VR (compareOp .In) (.str k) (.val (.ref a)) st Q:=fun F s v u r hv hu K E kk=>by
 obtain⟨t,rfl⟩:=hv;cases(hu:_=_)
 obtain⟨items,n,eh,hi⟩:=r.hm _ hm
 exact in_list_strs (vs:=items.toList) ⟨_,eh,rfl,n,rfl⟩ (me hi) (kk F _ _ st s (FM.le.refl _) r (my ..) h)
theorem Hb{a:Addr}{l:List Str}(hm:(a,AO.list (l.map .str))∈st.mem)(h:Q (.bool (!l.any (· ==k))) st):W2 g VR (compareOp .NotIn) (.str k) (.val (.ref a)) st Q:=fun F s v u r hv hu K E kk=>by
 obtain⟨t,rfl⟩:=hv;cases(hu:_=_)
 obtain⟨items,n,eh,hi⟩:=r.hm _ hm
 exact notin_list_strs (vs:=items.toList) ⟨_,eh,rfl,n,rfl⟩ (me hi) (kk F _ _ st s (FM.le.refl _) r (my ..) h)
theorem vL{a:Addr}{kvs:List (Int×AV)}(hm:(a,AO.ci g.prog g.w kvs)∈st.mem)(h:W2 g VR getItem (.val (.ref a)) y st Q)(hs:∀o i,∃uK,subscripted slice false o i=operate uK (getItem o i)):
  W2 g VR (subscriptTail aj slice) (.val (.ref a)) y st Q:=ku (fun F s v r hv=>by cases(hv:_=_);exact(r.hm _ hm).rec fun vs e O=>e.typeIs) abX.lookup h hs
theorem tT{a:Addr}{ep:Option Nat}{kvs:List (Str×AV)}(hm:(a,AO.iK g.prog g.w ep kvs)∈st.mem)(h:W2 g VR getItem (.val (.ref a)) y st Q)(hs:∀o i,∃uK,subscripted slice false o i=operate uK (getItem o i)):
  W2 g VR (subscriptTail aj slice) (.val (.ref a)) y st Q:=ku (fun F s v r hv=>by cases(hv:_=_);exact(r.hm _ hm).rec fun vs n e O O=>e.dictOf.typeIs) abX.lookup h hs
theorem Hc(kvs:List (Str×AV))(a I:Addr)(ep:Nat):yH g (.ref I) [I] (fun O=>True) (fun mem=> (a,AO.iK g.prog g.w (some ep) kvs)∈mem) (kvs.map fun q=> .str q.1) (fun i O h=>h.IsKeyIter I a i kvs.length ep) where
 mono:=fun i F F' h h' hl he e1=>e1.at fun o e=> (he I E7).trans e
 ex:=fun i F h e=>bu (e.imp fun O e=>e.1)
 self:=fun i F s O e1 K E k=>wpAny_pyIter_keyiter e1 k
 next:=fun L aw i x F st s O hm r w e1 hx K E E' k=>by
  obtain⟨vs,n,e,q,rr⟩:=r.hm _ hm
  cases q _ rfl
  have hz:=iC rr
  obtain⟨q,hq,rfl⟩:∃q,kvs[i]? =some q∧x= .str q.1:=by
   rw[V9] at hx
   cases e:kvs[i]? with
   | none=>rw[e] at hx;cases hx
   | some q=>rw[e] at hx;cases hx;exact⟨q,rfl,rfl⟩
  have hl:i<((kvs.map (·.1)).zip vs).length:=by rw[hz];exact(V7.mp hq).1
  have hx:((kvs.map (·.1)).zip vs)[i]? =some (q.1,(((kvs.map (·.1)).zip vs)[i]'hl).2):=by
   rw[U6 hl]
   refine E5 some (Prod.ext ?_ rfl)
   rw[List.getElem_zip]
   have:=V7.mp hq
   exact(List.getElem_map ..).trans (E5 fst this.2)
  exact wpAny_pyNext_dict_item (by rw[hz];exact e1) e hx fun key h' hk gX hs=> ⟨key,rfl,gX.elim fun o ho=>dY ho.1 ho.2.1 (by decide) (k F key _ (FM.le.refl _) (r.keepsBut w (fun b o hb e=>hs.extBut b o (zT hb) e) s.toks id) w (hz▸gX) (Value.isStrOf_shape hk))⟩
 stop:=fun L i F st s hm r w e1 hx K E k=>by
  obtain⟨vs,n,e,q,rr⟩:=r.hm _ hm
  cases q _ rfl
  have hz:=iC rr
  exact wpAny_pyNext_dict_end g.hh (by rw[hz];exact e1) e (abu (by rw[hz,hx,E9];exact E8 _)) fun h' hs=>have hk:=fun b o hb e=>hs b o (zT hb) e;k h' hk (r.keepsBut w hk s.toks id)
theorem CH{a:Addr}{ep:Nat}{kvs:List (Str×AV)}(sm:∃o,g.K.f sysModules=some o)(hm:(a,AO.iK g.prog g.w (some ep) kvs)∈st.mem):cE g (.val (.ref a)) st st (fun O=>True) (fun mem=> (a,AO.iK g.prog g.w (some ep) kvs)∈mem) (kvs.map fun q=> .str q.1):=fun F s v r hv K E k=>by
 cases(hv:_=_)
 obtain⟨vs,n,e,q,rr⟩:=r.hm _ hm
 cases q _ rfl
 exact wpAny_pyIter_dict (xW sm r.toRepM hm) e (k F _ [s.heap.objs.size] _ _ (FM.le.refl _) (Hc kvs a s.heap.objs.size ep) (r.keeps (fun b o' e=>Heap.get?_push_of_some _ e) s.toks id) (r.away (bu (E8 _))) ⟨_,Heap.get?_push_size _ rfl,rfl,by rw[← iC rr];rfl⟩)
theorem W0.ep{α β:Type}{R:FM→β→α→Prop}{t:Sem α}{a:Addr}{kvs:List (Str×AV)}{vars:cI}{mem':Nat→Mem}{Q:β→AS→Prop}(u:∀ep,Upd mem a (.iK g.prog g.w none kvs) (.iK g.prog g.w (some ep) kvs) (mem' ep))(h:∀ep,W0 g R t ⟨vars,mem' ep⟩ Q):W0 g R t ⟨vars,mem⟩ Q:=fun F s r=>by
 obtain⟨vs,n,e,q,rr⟩:=r.hm _ (u 0).mem
 exact h n F s (r.turn (u n) (Heap.SameBut.refl ..) (gP.mk vs n e (fun O h=>by cases h;rfl) rr) s.toks id)
noncomputable def Hd(kx vx:Expr)(env:Env)(acc:Value)(k:Sem Fin):Sem Fin:=(do
 let kv ← eval kx env
 let vv ← holding [kv] (eval vx env)
 match acc with
 | .ref d=>do
  standAt {kx.pos with endLine:=vx.pos.endLine,endCol:=vx.pos.endCol }
  holding [kv,vv] (dictSet d kv vv)
 | _=>unsupported "internal:dictcomp" :Sem Unit) >>= fun O=>k
theorem L2(kx vx t i:Expr)(ifs:List Expr)(scope:Scope)(pos:Pos)(env:Env):kY (.DictComp kx vx [⟨t,i,ifs,0⟩] scope pos) 0 env i.pos t ifs (Hd kx vx env):=fun it acc=>by rfl
theorem He{D:Addr}{P:AS→Prop}(h:W0 g VR (eval kx env) st fun kv aD=>W0 g VR (eval vx env) aD fun v eu=> ∃i a mem',kv= .int i∧Upd eu.mem D (.ci g.prog g.w a) (.ci g.prog g.w (aH a i v)) mem'∧a.length≤sizeLine∧P ⟨eu.vars,mem'⟩):WB g (Hd kx vx env (.ref D)) st P:=fun F s r k Q E kk=>
 E3 (E3 (h F s r _ E fun F1 z zv aD s1 l1 r1 hz h1=>E3 (YJ (h1 F1 s1 r1 _ E fun F2 y yv aK s2 l2 r2 hy ⟨i,a,mem',e,u,ha,hp⟩=>E3 (Zc (YJ (by
  subst e
  obtain⟨t,rfl⟩:=hz
  obtain⟨vs,e,rr⟩:=r2.hm _ u.mem
  obtain⟨fX,e1,e2⟩:=kQ (k:=i) hy rr
  exact wpAny_dictSet_pairs (RK _ _ i t) e (fun h' hd hs=>kk F2 _ _ (l1.trans l2) (r2.turn u hs (lD.mk fX (e1▸hd) e2) (s2.toks+1) tp) hp) (by rw[iC rr];exact ha))))))))
theorem Hf{kx vx aw iter ifs scope pos}:CK g (.DictComp kx vx [⟨aw,iter,ifs,0⟩] scope pos) newDict {cls:= .type "dict",data:= .dict #[] } (.ci g.prog g.w []):=
 ⟨fun h=>abc h,rfl,.dict ..,fun F h a e=>lD.mk [] ⟨_,#[],0,e,⟨rfl,rfl,rfl⟩,rfl,(fun O he=>by simp at he),Pairs.nil,ZL⟩ rfl,fun h k=>codeAny_compStart_dict h k⟩
theorem zk{gens:List Comprehension}{scope:Scope}{cF py:Pos}{line:Nat}(e:bp g env)(hy:env.kindOf y=some .local)(hc:(py.line==cF.line&&!(scope.names.any fun x=>x.1==y&& (x.2== .local||x.2== .cell)))=true):
  swapsWith (.DictComp kx vx gens scope cF) (some (.Name y py)) line env=pure true:=by
 have h1:(env.blockKind==ScopeKind.function)=true:=by
  unfold Env.blockKind
  rw[e.kind];rfl
 have h:=E2.mp hc
 show pure (env.blockKind==ScopeKind.function&& (env.kindOf y==some NameKind.local)&&py.line==cF.line&&_)=pure true
 rw[h1,hy,h.1]
 exact E5 pure h.2
theorem tU{y py kx vx aw iter ifs sn more cF pos names cs}(e:bp g env)(N:Kn env names cs)(hy:(y,NameKind.local)∈names)(hc:(py.line==cF.line&&!(sn.any fun x=>x.1==y&& (x.2== .local||x.2== .cell)))=true)(h:W0 g VR (comprehension (.DictComp kx vx [⟨aw,iter,ifs,0⟩] ⟨.function,sn,false,false,more⟩ cF) ⟨.function,sn,false,false,more⟩ env iter.pos newDict false (eval iter env) (some (assign (.Name y py) env))) st fun O aK=>Q .next aK):
  W0 g FR (exec (.Assign [.Name y py] (.DictComp kx vx [⟨aw,iter,ifs,0⟩] ⟨.function,sn,false,false,more⟩ cF) pos) env) st Q:=fun F s r K E k=>by
 rw[exec_Assign_Name_used _ _ _ _ (zk e (N.ne hy (by decide)) hc)]
 refine E3 (Zc (E3 ?_))
 show wpAny _ _ (do let _ ← comprehension (.DictComp kx vx [⟨aw,iter,ifs,0⟩] ⟨.function,sn,false,false,more⟩ cF) ⟨.function,sn,false,false,more⟩ env iter.pos newDict false (eval iter env) (some (assign (.Name y py) env))) _ _ s
 exact E3 (h F s r _ _ fun F1 b a aD s1 l1 r1 O h1=>U1 (U1 (k F1 .next .next aD s1 l1 r1 rfl h1)))
end
end
section
set_option tactic.hygienic true
section
noncomputable def eG(g:Gd)(kvs:List (Int×AV)):EO:= .any 1 fun as=>as.casesOn [] fun a O=>[(a,.ci g.prog g.w kvs)]
noncomputable def iD(g:Gd)(ep:Option Nat)(kvs:List (Str×AV)):EO:= .any 1 fun as=>as.casesOn [] fun a O=>[(a,.iK g.prog g.w ep kvs)]
theorem nQ(b:cU g g'):eG g'=eG g:=by funext kvs;unfold eG;rw[b.prog,b.w]
theorem L3(b:cU g g'):iD g'=iD g:=by funext ep kvs;unfold iD;rw[b.prog,b.w]
theorem L4(b:eS g g'):iD g'=iD g:=by funext ep kvs;unfold iD;rw[b.prog,b.w]
def lQ(g:Gd):Prop:= ∃o,g.K.f sysModules=some o
section
variable {g:Gd}{F:FM}{C:Ctx}{ρ ρ':dz}{env:Env}{M:Mem}{s:S}
theorem mf{k:Nat}{kvs:List (Int×AV)}{os:Os}(h:bM k os=some (eG g kvs)):(ρ k,AO.ci g.prog g.w kvs)∈ay ρ os++M:=YG _ (b7 h _ E7)
theorem mj{k:Nat}{ep:Option Nat}{kvs:List (Str×AV)}{os:Os}(h:bM k os=some (iD g ep kvs)):(ρ k,AO.iK g.prog g.w ep kvs)∈ay ρ os++M:=YG _ (b7 h _ E7)
theorem xX{k:Nat}{o:EO}(ho:∀ρ:dz,o.mem ρ k=[(ρ k,ao)]){K:RV→S→Prop}(h:s.off k=true)(q:K (.r k) ⟨s.vs,(k,o)::s.os,s.h⟩)(a:Addr):PA C ρ M [k] K (.val (.ref a)) ⟨(tr C ρ M s).vars,(a,ao)::(tr C ρ M s).mem⟩:=by
 have e:=je (C:=C) (M:=M) (bX (ρ:=ρ) (a:=a)) h
 have e2:fS ρ k a k=a:=V8 rfl
 have:=PA.mk (C:=C) (ρ:=ρ) (M:=M) (ids:=[k]) (ρ':=fS ρ k a) (rv:= .r k) (s:=⟨s.vs,(k,o)::s.os,s.h⟩) (st:=⟨(tr C ρ M s).vars,(a,ao)::(tr C ρ M s).mem⟩) (fun j hj=>bX j fun e=>hj (by rw[e];exact Yz.mpr rfl)) (by
  rw[← e]
  show Wk _ ⟨bU _ _ _,(a,ao)::(ay _ _++M)⟩ ⟨bU _ _ _,(o.mem (fS ρ k a) k++ay _ _)++M⟩
  rw[ho,e2];exact Wk.refl) q
 have e3:aa (fS ρ k a) (.r k)= .val (.ref a):=by show AV.val (.ref (fS ρ k a k))=_;rw[e2]
 rw[e3] at this
 exact this
noncomputable def SA.dict(k:Nat)(pos:Pos):SA C where
 e:= .Dict [] [] pos
 ids:=[k]
 sw:=true
 ev s K:=eE (s.off k) (K (.r k) ⟨s.vs,(k,eG C.g [])::s.os,s.h⟩)
 ok fr h:=Ha fun a=>xX (fun O=>rfl) (aq h).1 (aq h).2 a
 st _ _:=rfl
 sp _ _ _ _:=rfl
noncomputable def SA.Qn(k:Nat)(pos:Pos):SA C where
 e:= .Dict [] [] pos
 ids:=[k]
 sw:=true
 ev s K:=eE (s.off k) (K (.r k) ⟨s.vs,(k,iD C.g none [])::s.os,s.h⟩)
 ok fr h:=CG fun a=>xX (fun O=>rfl) (aq h).1 (aq h).2 a
 st _ _:=rfl
 sp _ _ _ _:=rfl
def getD(C:Ctx)(a b:RV)(s:S)(K:RV→S→Prop):Prop:=mR a (fun k=>mI b (fun i=>hV s fun v s=> ∃kvs,bM k s.os=some (eG C.g kvs)∧aZ kvs i=some v∧K (.v v) s)<|mS b (fun i=>hV s fun v s=> ∃ep kvs,bM k s.os=some (iD C.g ep kvs)∧aZ kvs i=some v∧K (.v v) s) False) False
theorem Hg{K:RV→S→Prop}(h:getD C a b s K):W2 C.g VR (subscriptTail aj slice) (aa ρ a) (aa ρ b) (tr C ρ M s) (PV C ρ M K):=
 eF (P:=fun a=>W2 C.g VR (subscriptTail aj slice) (aa ρ a) (aa ρ b) (tr C ρ M s) (PV C ρ M K)) h (fun k h=>cK (P:=fun b=>W2 C.g VR (subscriptTail aj slice) (.val (.ref (ρ k))) (aa ρ b) (tr C ρ M s) (PV C ρ M K)) h (fun i h=>dB h fun v k' ⟨kvs,h1,h2,h⟩=>vL (mf h1) (LZ (mf h1) h2 (lN h)) (nh _)) fun h=>
  cZ (P:=fun b=>W2 C.g VR (subscriptTail aj slice) (.val (.ref (ρ k))) (aa ρ b) (tr C ρ M s) (PV C ρ M K)) h (fun i h=>dB h fun v k' ⟨ep,kvs,h1,h2,h⟩=>tT (mj h1) (G9 (mj h1) h2 (lN h)) (nh _)) False.elim) False.elim
noncomputable def SE.L5(l r:SE C)(pos:Pos:=fZ l.p r.p 0 1):SE C:=SE.rT (.Subscript l.e r.e pos) (fun s K=>l.ev s fun a s1=>r.ev s1 fun b s2=>getD C a b s2 K)
 fun fr h=>w_sub (bz (l.ok fr h) fun O O h=>bz (r.ok fr h) fun O O h=>Hg h)
def JB(C:Ctx)(k:Nat)(xs:List RV)(s:S)(K:RV→S→Prop):Prop:=a2 xs (fun i d=>mI i (fun i=>mV d (fun d=>hV s fun r s=> ∃kvs,bM k s.os=some (eG C.g kvs)∧lQ C.g∧(aZ kvs i).getD d=r∧K (.v r) s) False) False) False
theorem CI{k:Nat}{K:RV→S→Prop}(h:JB C k xs s K):bB C.g (.val (.builtin "dict.get")) (aa ρ (.r k)::xs.map (aa ρ)) [] [] (tr C ρ M s) (PV C ρ M K):=a_ (
 nk (P:=fun xs=>cG C ρ M s K (fun vs=>call (.builtin "dict.get") vs) (aa ρ (.r k)::xs.map (aa ρ))) h (fun i d h=>cK (P:=fun i=>cG C ρ M s K (fun vs=>call (.builtin "dict.get") vs) [aa ρ (.r k),aa ρ i,aa ρ d]) h (fun i h=>cL (P:=fun d=>cG C ρ M s K (fun vs=>call (.builtin "dict.get") vs) [aa ρ (.r k),.int i,aa ρ d]) h (fun d h=>dB h fun r k' ⟨kvs,h1,h2,h3,h⟩=>G' h2 (mf h1) (h3.symm▸lN h)) False.elim) False.elim) False.elim)
noncomputable def SE.Qo(o:SE C)(ap:Pos)(x y:SE C)(pos:Pos):SE C:=
 SE.I7 (.Call (.Attribute o.e "get" ap) (fM [x,y]) [] pos) (fun s K=>eE (o.ai&& (ap.endLine==pos.line)) (o.ev s fun a s1=>mR a (fun k=> (∃kvs,bM k s1.os=some (eG C.g kvs))∧uq [x,y] s1 fun xs s2=>JB C k xs s2 K) False)) true true
  (fun {ρ env M s K} fr h=>by
   obtain⟨hc,h⟩:=aq h
   rw[YL] at hc
   exact cR (bz (G:=fun a st=>MC C.g env a "get" pos (fM [x,y]) st (PV C ρ M K)) (o.ok fr h) fun a s1 h=>eF (P:=fun a=>MC C.g env (aa ρ a) "get" pos (fM [x,y]) (tr C ρ M s1) (PV C ρ M K)) h (fun k ⟨⟨kvs,h1⟩,h⟩=>ew (Qm (mf h1) PySem.F.slot_dict_get PySem.F.type_dict_get) (lM (eA fr pos h) fun xs s2 h=>CI h)) False.elim)
    (o.fm.ab hc.1 _ _) (jM (fr:=fr) (es:=[x,y]) rfl) hc.2 (by rw[cz fr];rfl) (c8 _ _))
  (fun O=>rfl) ⟨fun O O=>rfl,fun O=>rfl,fun O O=>rfl,fun O O O O=>rfl,fun O O O O=>rfl⟩
def Qp(C:Ctx)(a b v:RV)(s:S)(f:S→Prop):Prop:=mR a (fun k=>mV v (fun x=>mI b (fun i=> ∃kvs,bM k s.os=some (eG C.g kvs)∧kvs.length≤sizeLine∧f ⟨s.vs,dA k (eG C.g (aH kvs i x)) s.os,s.h⟩)<|mS b (fun i=> ∃ep kvs,bM k s.os=some (iD C.g ep kvs)∧kvs.length≤sizeLine∧f ⟨s.vs,dA k (iD C.g none (aH kvs i x)) s.os,s.h⟩) False) False) False
theorem Hh{f:S→Prop}(h:Qp C a b v s f):W3 C.g setItem (aa ρ a) (aa ρ b) (aa ρ v) (tr C ρ M s) (PU C ρ M f):=
 eF (P:=fun a=>W3 C.g setItem (aa ρ a) (aa ρ b) (aa ρ v) (tr C ρ M s) (PU C ρ M f)) h (fun k h=>cL (P:=fun v=>W3 C.g setItem _ _ (aa ρ v) (tr C ρ M s) (PU C ρ M f)) h (fun x h=>cK (P:=fun b=>W3 C.g setItem _ (aa ρ b) x (tr C ρ M s) (PU C ρ M f)) h (fun i ⟨kvs,h1,h2,h⟩=>
  L0 h2 (cN ρ M (o:=eG C.g kvs) (o':=eG C.g (aH kvs i x)) rfl rfl h1) (PU.mk (s:=⟨s.vs,dA k (eG C.g (aH kvs i x)) s.os,s.h⟩) Wk.refl h)) fun h=>cZ (P:=fun b=>W3 C.g setItem _ (aa ρ b) x (tr C ρ M s) (PU C ρ M f)) h (fun i ⟨ep,kvs,h1,h2,h⟩=>
  G_ h2 (cN ρ M (o:=iD C.g ep kvs) (o':=iD C.g none (aH kvs i x)) rfl rfl h1) (PU.mk (s:=⟨s.vs,dA k (iD C.g none (aH kvs i x)) s.os,s.h⟩) Wk.refl h)) False.elim) False.elim) False.elim
noncomputable def TG.L6(o i:SE C)(pos:Pos):TG C:=⟨.Subscript o.e i.e pos,fun v s f=>o.ev s fun a s1=>i.ev s1 fun b s2=>Qp C a b v s2 f,false,
 fun fr h=>jG (bz (o.ok fr h) fun a s1 h=>bz (i.ok fr h) fun b s2 h=>Hh h),fun O O=>rfl,fun h=>nomatch h⟩
noncomputable def RL(n:Bool):Op:=fun a b s K=>mR b (fun k=>oL (bM k s.os) (fun l=>mS a (fun x=> ∃xs:List Str,l=xs.map .str∧K (.v (.bool (cond n (!xs.any (· ==x)) (xs.any (· ==x))))) s) False) False) False
theorem L7:f3 (compareOp .In) (RL false):=fun {C ρ env M a b s K} fr h=>eF (P:=fun b=>W2 C.g VR _ (aa ρ a) (aa ρ b) (tr C ρ M s) (PV C ρ M K)) h (fun k h=>g8 h (fun l e h=>cZ (P:=fun a=>W2 C.g VR _ (aa ρ a) _ (tr C ρ M s) (PV C ρ M K)) h (fun x h=>by
 obtain⟨xs,rfl,h9⟩:=h
 exact L1 (YG _ (b7 e _ E7)) (db h9)) False.elim) False.elim) False.elim
theorem Hi:f3 (compareOp .NotIn) (RL true):=fun {C ρ env M a b s K} fr h=>eF (P:=fun b=>W2 C.g VR _ (aa ρ a) (aa ρ b) (tr C ρ M s) (PV C ρ M K)) h (fun k h=>g8 h (fun l e h=>cZ (P:=fun a=>W2 C.g VR _ (aa ρ a) _ (tr C ρ M s) (PV C ρ M K)) h (fun x h=>by
 obtain⟨xs,rfl,h9⟩:=h
 exact Hb (YG _ (b7 e _ E7)) (db h9)) False.elim) False.elim) False.elim
noncomputable def SE.TY(l r:SE C)(p:Pos:=fZ l.p r.p 0 0):SE C:=SE.Bk l r .In (RL false) L7 p
noncomputable def SE.Qq(l r:SE C)(p:Pos:=fZ l.p r.p 0 0):SE C:=SE.Bk l r .NotIn (RL true) Hi p
noncomputable def SB.ep(k:Nat)(r:SB C):SB C:=⟨r.ss,fun s K=>To s fun O O O hh O=> ∃kvs,bM k s.os=some (iD C.g none kvs)∧∀ep,r.ex ⟨s.vs,dA k (iD C.g (some ep) kvs) s.os,hh ep⟩ K,
 fun {ρ env M s K} fr h=>BN h fun O O O hh O ⟨kvs,h1,h⟩=>W0.ep (fun ep=>cN ρ M (o:=iD C.g none kvs) (o':=iD C.g (some ep) kvs) rfl rfl h1) fun ep=>r.ok (s:=⟨s.vs,dA k (iD C.g (some ep) kvs) s.os,hh ep⟩) fr (h ep)⟩
noncomputable def IT.Xw(x:SE C)(k:Nat):IT C:=⟨x.e,fun s K=>x.ev s fun a s1=>mR a (fun j=>eE (beq j k) (∃ep kvs,bM j s1.os=some (iD C.g (some ep) kvs)∧lQ C.g∧K (kvs.map fun q=> .str q.1) s1)) False,false,some k,
 fun {ρ env M s K} fr h=>bz (x.ok fr h) fun a s1 h=>eF (P:=fun a=>PI C ρ M false (some k) K (aa ρ a) (tr C ρ M s1)) h (fun j h=>by
  obtain⟨hj,ep,kvs,h1,h2,h9⟩:=aq h
  cases U7 hj
  exact .mk _ (CH h2 (mj h1)) (fun O O=>trivial) (fun mem hm=>hm _ rfl) (fun O e'=>by cases e';exact mj h1) h9) False.elim,x.fm.fs⟩
structure DC(C:Ctx) where
 X:Cx
 t:∀g,TG ⟨X,g⟩
 kx:∀g,SE ⟨X,g⟩
 vx:∀g,SE ⟨X,g⟩
 more:List (Str×Const)
 gx:X.gx=C.gx
 loc:bh X.names=X.loc
 et:∀g,(t g).e=(t C.g).e
 ek:∀g,(kx g).e=(kx C.g).e
 ev:∀g,(vx g).e=(vx C.g).e
noncomputable def DC.expr(m:DC C)(it:IT C)(pos:Pos):Expr:= .DictComp (m.kx C.g).e (m.vx C.g).e [⟨(m.t C.g).e,it.e,[],0⟩] ⟨.function,m.X.names,false,false,m.more⟩ pos
def DC.turn(m:DC C)(os:Os)(f:AV→Int×AV)(h:AV→Hint)(l:List AV):Prop:= ∀g',eS C.g g'→∀y,y∈l→(m.t g').set (.v y) ⟨[],os,h y⟩ fun s2=> (m.kx g').ev s2 fun k s3=> (m.vx g').ev s3 fun v s4=>mI k (fun i=>mV v (fun x=>f y=(i,x)∧s4.os=os) False) False
noncomputable def gM(f:AV→Int×AV)(kvs:List (Int×AV))(y:AV):List (Int×AV):=aH kvs (f y).1 (f y).2
theorem fe{K α:Type}[DecidableEq K](kvs:List (K×α))(k:K)(x:α):(aH kvs k x).length≤kvs.length+1:=by
 unfold aH
 split
 ·rw[E9];exact abg _
 ·rw[YF];exact E8 _
theorem tV(f:AV→Int×AV):∀(l:List AV) (kvs:List (Int×AV)),(l.foldl (gM f) kvs).length≤kvs.length+l.length
 | [],kvs=>E8 _
 | y::l,kvs=>by
  refine E4 (tV f l _) ?_
  have:=fe kvs (f y).1 (f y).2
  rw[aaF]
  show(aH kvs (f y).1 (f y).2).length+l.length≤_
  omega
theorem DC.step(m:DC C){tp tup:Bool}(fr:bQ C ρ env)(hg:d7 C m.X Option.none tp tup){f:AV→Int×AV}{hh:AV→Hint}(h:m.turn s.os f hh l)(hy:y∈l){a:List (Int×AV)}(ha:a.length≤sizeLine):
  jD C.g (m.t C.g).e [] m.X.names (ur C ρ) Option.none (Hd (m.kx C.g).e (m.vx C.g).e) (ay ρ s.os) M y (.ci C.g.prog C.g.w a) (.ci C.g.prog C.g.w (gM f a y)):=fun g' dG L D b e N=>by
 have xj:=hg.yZ fr m.gx b e N
 have eC:∀(a:List (Int×AV)) (k:Hint),jm false (bh m.X.names) (ay ρ s.os) M L D (.ci C.g.prog C.g.w a)=tr ⟨m.X,g'⟩ ρ ((D,.ci C.g.prog C.g.w a)::M) ⟨[],s.os,k⟩:=fun a k=>by
  unfold jm tr
  rw[m.loc,jP]
  rfl
 show W1 g' UR _ y (jm false _ _ _ _ _ _) _
 rw[eC a (hh y),← m.et g',← m.ek g',← m.ev g']
 refine gm (C:=⟨m.X,g'⟩) ((m.t g').ok (v:= .v y) xj (h g' b y hy)) fun s2 h2=>k6 ?_
 refine He (bz (C:=⟨m.X,g'⟩) ((m.kx g').ok xj h2) fun k s3 h3=>bz (C:=⟨m.X,g'⟩) ((m.vx g').ok xj h3) fun v s4 h4=>?_)
 refine cK (P:=fun k=> ∃i a' mem',aa ρ k= .int i∧Upd (ay ρ s4.os++(D,.ci C.g.prog C.g.w a)::M) D (.ci g'.prog g'.w a') (.ci g'.prog g'.w (aH a' i (aa ρ v))) mem'∧a'.length≤sizeLine∧Wk g' ⟨bU ρ m.X.loc s4.vs,mem'⟩ (jm false (bh m.X.names) (ay ρ s.os) M L D (.ci C.g.prog C.g.w (gM f a y)))) h4 (fun i h4=>?_) False.elim
 refine cL (P:=fun v=> ∃i' a' mem',AV.int i= .int i'∧Upd (ay ρ s4.os++(D,.ci C.g.prog C.g.w a)::M) D (.ci g'.prog g'.w a') (.ci g'.prog g'.w (aH a' i' (aa ρ v))) mem'∧a'.length≤sizeLine∧Wk g' ⟨bU ρ m.X.loc s4.vs,mem'⟩ (jm false (bh m.X.names) (ay ρ s.os) M L D (.ci C.g.prog C.g.w (gM f a y)))) h4 (fun x h4=>?_) False.elim
 have u:Upd (ay ρ s4.os++(D,.ci C.g.prog C.g.w a)::M) D (.ci g'.prog g'.w a) (.ci g'.prog g'.w (aH a i x)) (ay ρ s4.os++(D,.ci C.g.prog C.g.w (aH a i x))::M):=by rw[b.prog,b.w];exact Upd.pre .here _
 refine⟨i,a,_,rfl,u,ha,?_⟩
 rw[eC _ .nil,h4.2]
 unfold gM
 rw[h4.1]
 exact OC.wk (oc:=Option.none) rfl
def DC.run(m:DC C)(it:IT C)(s:S)(K:List (Int×AV)→S→Prop):Prop:=eE (jN C m.X Option.none it.tp (m.t C.g).tup) (it.it s fun l s1=>hF s1 fun O h k=> ∃f,l.length≤sizeLine∧m.turn s1.os f h l∧K (l.foldl (gM f) []) ⟨s1.vs,s1.os,k⟩)
noncomputable def SS.Xx(i id:Nat)(py:Pos)(m:DC C)(it:IT C)(cF pos:Pos):SS C:=⟨.Assign [.Name (i4 C.loc i) py] (m.expr it cF) pos,
 fun s K=>oR (ka C.loc i) fun x=>eE (Gm m.X x py cF&&ble C.pin id) (m.run it s fun kvs s1=>eE (s1.off id) (K .next ⟨qD i (.r id) s1.vs,(id,eG C.g kvs)::s1.os,s1.h⟩)),
 fun {ρ env M s K} fr h=>by
  obtain⟨x,hx,h⟩:=b6 h
  obtain⟨hc,h⟩:=aq h
  obtain⟨hc,hp⟩:=E2.mp hc
  obtain⟨hg,h⟩:=aq h
  have hg:=hG hg
  obtain⟨cs,N,rR⟩:=fr.N
  rw[eX hx]
  refine tU fr.e N (fr.hl _ (bW hx)) hc ?_
  refine qu Hf rfl (p2:=it.e.pos) (cs:=ur C ρ) (oc:=Option.none) (B:=Hd (m.kx C.g).e (m.vx C.g).e) fr.e (qL N rR) rfl (jO hg.fr fr.hc) hg.kn hg.Tr trivial (fun dG=>L2 _ _ _ _ _ _ _ dG) (it.fs env) ((it.ok fr h).mono fun v st q=>?_)
  obtain⟨o,lV,ht,hn,hm,k⟩:=q
  rename_i l s1 tg bK
  refine xk k fun O hh k h=>?_
  obtain⟨f,hsz,Lj,hr⟩:=h
  obtain⟨ho,hr⟩:=aq hr
  refine⟨bU ρ C.loc s1.vs,ay ρ s1.os,M,tg,bK,l,lV,ht _ fun e=> (m.t C.g).it ?_,fun L D a=>hn _ fun k e=>jm.has (hm k e),fun i=> .ci C.g.prog C.g.w ((l.take i).foldl (gM f) []),rfl,fun i y hy=>?_,?_⟩
  ·have:=hg.tp
   rw[e] at this;exact this
  ·have e1:(l.take (i+1)).foldl (gM f) []=gM f ((l.take i).foldl (gM f) []) y:=by
    rw[Zo,hy,aar];rfl
   rw[e1]
   exact m.step fr hg Lj (YC hy) (E4 (tV f _ _) (by rw[List.length_nil,Zw];exact E4 (aaC ..) hsz))
  ·rw[ZM]
   refine fun D F sh r=> (Aw (Q:=fun v st=>W1 C.g UR (storeName env x) v st fun O=>PF C ρ M K .next) (fun D=>?_) D F sh r).rec fun F' y bH le r v h=> ⟨F',y,bH,le,r,v,b8 h⟩
   have e:=je (C:=C) (M:=M) (s:=s1) (bX (ρ:=ρ) (a:=D)) ho
   have e2:fS ρ id D id=D:=V8 rfl
   have pin:Pin C ρ (fS ρ id D):=fun j hj=>bX j fun q=>Zd.mpr (E1 hp) (q▸hj)
   have t:=LC.Ts (v:= .r id) (s:=⟨s1.vs,(id,eG C.g (l.foldl (gM f) []))::s1.os,k⟩) (M:=M) (fr.pin pin) hx pin hr
   have e3:tr C (fS ρ id D) M ⟨s1.vs,(id,eG C.g (l.foldl (gM f) []))::s1.os,k⟩=⟨bU ρ C.loc s1.vs,(D,.ci C.g.prog C.g.w (l.foldl (gM f) []))::(ay ρ s1.os++M)⟩:=
    (congr (E5 AS.mk (E5 AS.vars e)) (congr (E5 (fun a m=> (a,AO.ci C.g.prog C.g.w (l.foldl (gM f) []))::m) e2) (E5 AS.mem e)):(⟨_,(fS ρ id D id,AO.ci C.g.prog C.g.w (l.foldl (gM f) []))::(ay (fS ρ id D) s1.os++M)⟩:AS)=_)
   have e4:aa (fS ρ id D) (.r id)= .val (.ref D):=E5 (fun a=>AV.val (.ref a)) e2
   rw[e3,e4] at t
   exact t⟩
end
end
end
section
section
noncomputable def L8(y:Lay):Cx:=Jh y [("some",.local),("pairs",.cell),("follow",.local),("mates",.local),("one",.local),("other",.local),("first",.local),("hue",.local),("steps",.local)] [("pairs",.cell,10)] [] true
noncomputable def Qr(y:Lay):Cx:=cx y [".0","k"] [("pairs",.free,10)] [] false
noncomputable def CJ(y:Lay)(g:Gd):LC ⟨L8 y,g⟩:=⟨Qr y,fun g=> (.n (.loc 1) 327 36),fun g=>[],fun g=> (.get (.ce 0 327 23) (.lo 1 327 29)),[],rfl,rfl,fun O=>rfl,fun O=>rfl,fun O=>rfl⟩
noncomputable def CL(y:Lay)(g:Gd):TG ⟨L8 y,g⟩:=(.K8 [(.n (.loc 3) 327 8),(.n (.loc 4) 327 13)])
noncomputable def CM(y:Lay)(g:Gd):SB ⟨L8 y,g⟩:=(.cons (.mul [(.L6 (.lo 2 328 8) (.lo 3 328 14) (q 328 8 18)),(.L6 (.lo 2 328 20) (.lo 4 328 26) (q 328 20 32))] 0 (q 328 8 32) [(.of (.lo 4 328 36)),(.of (.lo 3 328 43))] 0 (q 328 35 47) (q 328 8 47) (by kernel_rfl!))<| .nil)
noncomputable def CN(y:Lay)(g:Gd):SE ⟨L8 y,g⟩:=(.and (.ne (.lo 6 331 10) (.lo 5 331 17)) [(.lt (.lo 7 331 27) (.nt 11 331 35))])
noncomputable def CO(y:Lay)(g:Gd):SB ⟨L8 y,g⟩:=(.cons (.BG (.loc 6) (.loc 7) (q 332 8 11) (q 332 13 18) 0 (q 332 8 18) [(.of (.L5 (.lo 1 332 22) (.Qo (.lo 2 332 29) (q 332 29 38) (.lo 6 332 39) (.lo 6 332 44) (q 332 29 48)))),(.of (.add (.lo 7 332 51) (.nt 1 332 59)))] 0 (q 332 21 61) (q 332 8 61) (by kernel_rfl!))<| .nil)
noncomputable def Xy(y:Lay)(g:Gd):SB ⟨L8 y,g⟩:=(.cons (.BF (.loc 2) (q 326 4 9) (.dict 30 (q 326 12 14)) (q 326 4 14))<|(.cons (.for (CL y g) (.of (.lc (CJ y g) (.of (.lo 0 327 41)) (q 327 22 46))) (CM y g) ⟨327,4,328,47⟩)<|(.cons (.ag (.loc 5) 329 4 (.get (.get (.ce 0 329 12) (.nt 0 329 18)) (.nt 0 329 21)))<|(.cons (.BG (.loc 6) (.loc 7) (q 330 4 7) (q 330 9 14) 0 (q 330 4 14) [(.of (.L5 (.lo 1 330 18) (.Qo (.lo 2 330 25) (q 330 25 34) (.lo 5 330 35) (.lo 5 330 42) (q 330 25 48)))),(.of (.nt 1 330 51))] 0 (q 330 17 53) (q 330 4 53) (by kernel_rfl!))<|(.cons (.No (CN y g) (CO y g) ⟨331,4,332,61⟩)<|(.cons (.ret (.lo 7 333 11))<| .nil))))))
section
variable {K α β:Type}[DecidableEq K]
noncomputable def b_(f:α→β)(l:List (K×α)):List (K×β):=l.map fun q=> (q.1,f q.2)
theorem jU(f:α→β)(l:List (K×α))(k:K):aZ (b_ f l) k=(aZ l k).map f:=by
 unfold aZ b_
 rw[List.find?_map,aa7,aa7]
 rfl
theorem pZ(f:α→β)(l:List (K×α))(k:K)(x:α):aH (b_ f l) k (f x)=b_ f (aH l k x):=by
 unfold aH b_
 rw[abG]
 show(if(l.any fun q=>decide (q.1=k))=true then _ else _)=_
 split
 ·rw[V3,V3]
  refine YU fun q O=>?_
  show(if q.1=k then _ else _)=_
  by_cases e:q.1=k
  ·rw[V8 e]
   show _=((if q.1=k then(q.1,x) else q).1,f (if q.1=k then(q.1,x) else q).2)
   rw[V8 e]
  ·rw[V4 e]
   show _=((if q.1=k then(q.1,x) else q).1,f (if q.1=k then(q.1,x) else q).2)
   rw[V4 e]
 ·rw[YA];rfl
end
noncomputable def Qs(ps:List Pr)(m:List (Int×Int))(k:Nat):List (Int×Int):=aH (aH m (ps.getD k (0,0)).1 (ps.getD k (0,0)).2) (ps.getD k (0,0)).2 (ps.getD k (0,0)).1
noncomputable def kb(ps:List Pr)(sm:List Nat)(i:Nat):List (Int×Int):=i.rec [] fun i m=>Qs ps m (sm.getD i 0)
noncomputable def ia(ps:List Pr)(sm:List Nat)(h:Int):Int:=(aZ (kb ps sm sm.length) h).getD h
theorem xY(ps:List Pr)(sm:List Nat):∀i,(kb ps sm i).length≤2*i
 | 0=>E8 _
 | i+1=>by
  have h:=xY ps sm i
  have h1:=fe (kb ps sm i) (ps.getD (sm.getD i 0) (0,0)).1 (ps.getD (sm.getD i 0) (0,0)).2
  have h2:=fe (aH (kb ps sm i) (ps.getD (sm.getD i 0) (0,0)).1 (ps.getD (sm.getD i 0) (0,0)).2) (ps.getD (sm.getD i 0) (0,0)).2 (ps.getD (sm.getD i 0) (0,0)).1
  show(Qs ps (kb ps sm i) (sm.getD i 0)).length≤_
  unfold Qs
  omega
section
variable {y:Lay}{g:Gd}
noncomputable def Nu(sm:List Nat):Vs:=[some (.v (.lst (af sm))),some (.r 0),some (.r 30),none,none]
noncomputable def oE(g:Gd)(ps:List Pr)(fo:List (Int×Int))(m:List (Int×Int)):Os:=[(30,eG g (b_ .int m)),(10,.cell (some (.v (.lst (ps.map cS))))),(0,eG g (b_ .int fo))]
theorem q_(m:List (Int×Int))(k x:Int):aH (b_ AV.int m) k (.int x)=b_ .int (aH m k x):=pZ ..
noncomputable abbrev kR(ps:List Pr)(sm:List Nat)(i:Nat):=List.getD ps (List.getD sm i 0) ((0:Int),(0:Int))
theorem Hj(sm:List Nat)(ps:List Pr)(fo:List (Int×Int))(i:Nat)(hi:i≤5)(R:RV→S→Prop):
  (CL y g).set (.v (cS (ps.getD (sm.getD i 0) (0,0)))) ⟨Nu sm,oE g ps fo (kb ps sm i),.nil⟩ fun s2=> (CM y g).ex s2 fun f s3=>bF f (True∧av s3 (Nu sm) (oE g ps fo (kb ps sm (i+1)))) False fun v=>R v s3:=by
 have l1:(b_ AV.int (kb ps sm i)).length≤10:=ar (E4 (xY ps sm i) (Y6 2 hi))
 refine aR (P:= ∃(kvs:List (Int×AV)),some (eG g (b_ AV.int (kb ps sm i)))=some (eG g kvs)∧length kvs≤sizeLine∧∃(ib:List (Int×AV)),some (eG g (aH kvs (fst (kR ps sm i)) (AV.int (snd (kR ps sm i)))))=some (eG g ib)∧length ib≤sizeLine∧True∧av (.mk [some (.v (.lst (af sm))),some (.r 0),some (.r 30),some (.v (.int (fst (kR ps sm i)))),some (.v (.int (snd (kR ps sm i))))] [(30,eG g (aH ib (snd (kR ps sm i)) (AV.int (fst (kR ps sm i))))),(10,EO.cell (some (.v (.lst (map cS ps))))),(0,eG g (b_ AV.int fo))] .nil) (Nu sm) (oE g ps fo (kb ps sm (i+1))))
  ⟨_,rfl,sz l1 rfl,_,rfl,sz (E4 (fe ..) (abt l1)) rfl,trivial,?_⟩ (by kernel_rfl!)
 rw[q_,q_];rfl
noncomputable def stC(ps:List Pr)(z:AV):AV:=cS (ps.getD (dC z).toNat (0,0))
structure Qt(ps:List Pr)(sm:List Nat)(fo:List (Int×Int))(nx:Int→Int)(P:Int→Prop):Prop where
 fo:∀h,P h→aZ fo (ia ps sm h)=some (nx h)
 st:∀h,P h→P (nx h)
noncomputable def oF(nx:Int→Int)(h:Int)(n:Nat):Int:=n.rec h fun O h=>nx h
noncomputable def CP(sm:List Nat)(first:Int)(nx:Int→Int)(i:Nat):Vs:=[some (.v (.lst (af sm))),some (.r 0),some (.r 30),none,none,some (.v (.int first)),some (.v (.int (oF nx first (i+1)))),some (.v (.int ((i+1:Nat):Int)))]
theorem xZ(ps:List Pr)(sm:List Nat)(h:Int):(aZ (b_ AV.int (kb ps sm sm.length)) h).getD (.int h)= .int (ia ps sm h):=by
 rw[jU]
 unfold ia
 cases aZ (kb ps sm sm.length) h <;> rfl
theorem lQ.of(h:lQ g)(b:cU g g'):lQ g':=by unfold lQ;rw[b.K];exact h
noncomputable def RM(ps:List Pr)(sm:List Nat)(nx:Int→Int)(first:Int)(i:Nat):Hint:= .a<| .sp (.b (decide (((i+1:Nat):Int)<((11:Nat):Int)))<| .sp (.v (.int (ia ps sm (oF nx first (i+1))))<| .v (.int (oF nx first (i+2))) .nil) .nil) .nil
noncomputable abbrev re(g:Gd)(ps:List Pr)(sm:List Nat):=eG g (b_ AV.int (kb ps sm (length sm)))
noncomputable abbrev vM(i:Nat):=(↑(i+1):Int)<((11:Nat):Int)
theorem Hk(b:cU g g')(Xz:lQ g)(sm:List Nat)(ps:List Pr)(fo:List (Int×Int))(nx:Int→Int)(P:Int→Prop)(W:Qt ps sm fo nx P)(first:Int)(i:Nat)(h1:oF nx first (i+1)≠first)(h2:i<10)(hP:P (oF nx first (i+1)))(R:RV→S→Prop):
  (CN y g').tv ⟨CP sm first nx i,oE g ps fo (kb ps sm sm.length),RM ps sm nx first i⟩ fun c s1=>c=true∧(CO y g').ex s1 fun f s3=>bF f (True∧av s3 (CP sm first nx (i+1)) (oE g ps fo (kb ps sm sm.length))) False fun v=>R v s3:=by
 have e0:((i+1:Nat):Int)<((11:Nat):Int):=YR.mpr (ab9 h2)
 refine aR (P:=((!oF nx first (i+1)==first)=true→f4 (RV.v (.int ↑(i+1))) (RV.v (.int ((11:Nat):Int))) (decide (vM i))∧(decide (vM i)=true→((true=true)∧(∃(kvs:List (Int×AV)),some (re g ps sm)=some (eG g' kvs))∧∃(kvs:List (Int×AV)),some (re g ps sm)=some (eG g' kvs)∧lQ g'∧Option.getD (aZ kvs (oF nx first (i+1))) (AV.int (oF nx first (i+1)))=AV.int (ia ps sm (oF nx first (i+1)))∧∃(kvs:List (Int×AV)),some (eG g (b_ AV.int fo))=some (eG g' kvs)∧aZ kvs (ia ps sm (oF nx first (i+1)))=some (AV.int (oF nx first (i+2)))∧True∧av (.mk [some (.v (.lst (af sm))),some (.r 0),some (.r 30),none,none,some (.v (.int first)),some (.v (.int (oF nx first (i+2)))),some (.v (.int ((↑(i+1):Int)+((1:Nat):Int))))] (oE g ps fo (kb ps sm (length sm))) .nil) (CP sm first nx (i+1)) (oE g ps fo (kb ps sm (length sm)))))∧(decide (vM i)=false→false=true∧(∃(kvs:List (Int×AV)),some (re g ps sm)=some (eG g' kvs))∧False))∧((!oF nx first (i+1)==first)=false→false=true∧(∃(kvs:List (Int×AV)),some (re g ps sm)=some (eG g' kvs))∧False)) ?_ (by kernel_rfl!)
 simp only[nQ b]
 exact⟨fun O=> ⟨f9 rfl,fun O=> ⟨trivial,⟨_,rfl⟩,_,rfl,Xz.of b,xZ ..,_,rfl,by rw[jU,W.fo _ hP];rfl,trivial,rfl⟩,fun h=>absurd e0 (abQ h)⟩,fun h=>absurd (eq_of_beq ((aaX _).mp h)) h1⟩
theorem TZ(ps:List Pr)(sm:List Nat)(e1 e2:EO)(h5:ps.length=5)(hs:∀k∈sm,k<5):(CJ y g).turn [(30,e1),(10,.cell (some (.v (.lst (ps.map cS))))),(0,e2)] (fun z=>some (stC ps z)) (fun z=> .v (stC ps z) .nil) (af sm):=fun g' b z hz=>by
 obtain⟨k,hk,rfl⟩:=U0.mp hz
 refine aR (P:=SL (map cS ps)∧AG (map cS ps) ↑k (stC ps (.int ↑k))∧rf (some (stC ps (AV.int ↑k)))∧rf (elim none [(30,e1),(10,EO.cell (some (.v (.lst (map cS ps))))),(0,e2)] fun(q:Str×Nat)=>[(snd q,EO.cell none),(30,e1),(10,EO.cell (some (.v (.lst (map cS ps))))),(0,e2)]))
  ⟨sz (ar (U8 h5)) rfl,aO (0,0) (h5▸hs k hk),rfl,rfl⟩ (by kernel_rfl!)
theorem VE{ps:List Pr}{sm:List Nat}{fo:List (Int×Int)}{nx:Int→Int}{P:Int→Prop}(W:Qt ps sm fo nx P){first:Int}(h:P first):∀i,P (oF nx first i)
 | 0=>h
 | i+1=>W.st _ (VE W h i)
noncomputable abbrev jg(g:Gd)(fo:List (Int×Int)):Nat×EO:=(0,eG g (b_ AV.int fo))
noncomputable abbrev kS(ps:List Pr)(sm:List Nat):=kb ps sm (length sm)
noncomputable abbrev CQ(ps:List Pr):=[AV.int (fst (List.getD ps 0 (0,0))),.int (snd (List.getD ps 0 (0,0)))]
noncomputable abbrev CR(sm:List Nat)(ps:List Pr):Nat×EO:=(10,EO.cell (head? (List.tail [RV.v (.lst (af sm)),RV.v (.lst (map cS ps)),RV.r 0])))
noncomputable abbrev vN(n:Nat):=(↑(n+1):Int)<((11:Nat):Int)
noncomputable abbrev vO(n:Nat):=RF.ret (RV.v (.int ↑(n+1)))
theorem CS(X:cH y g)(hn:9≤g.n)(sm:List Nat)(ps:List Pr)(fo:List (Int×Int))(nx:Int→Int)(P:Int→Prop)(W:Qt ps sm fo nx P)(first:Int)(hl:sm.length≤5)(h5:ps.length=5)(hs:∀k∈sm,k<5)(hf:(ps.getD 0 (0,0)).1=first)(n:Nat)(hP:P first)
  (h1:∀i,i<n→oF nx first (i+1)≠first) (h2:n≤10) (h3:oF nx first (n+1)=first∨n=10):
  Fn g (.v (.val (.ref (y.ad 79)))) [.v (.lst (af sm)),.v (.lst (ps.map cS)),.r 0] [] [] [(0,eG g (b_ .int fo))] (.v (.int ((n+1:Nat):Int))) [(0,eG g (b_ .int fo))]:=by
 refine iN X hn (X.fn 79 "_law_steps" (by decide)) (L8 y) (Xy y)
  (.f (fun z=>some (stC ps z)) (fun z=> .v (stC ps z) .nil)<| .v (.lst (sm.map fun k=>cS (ps.getD k (0,0))))<| .loop (fun O=>True) (fun O=>Nu sm) (fun i=>oE g ps fo (kb ps sm i)) (fun O O=> .nil)<| .v (cS (ps.getD 0 (0,0)))<| .v (.int first)<|
   .v (.int (ia ps sm first))<| .v (.int (nx first))<| .wh n (CP sm first nx) (fun O=>oE g ps fo (kb ps sm sm.length)) (RM ps sm nx first) .nil) (by intros;kernel_rfl!) fun g' b=>?_
 have fin:∀h,dH (RF.ret (.v (.int ((n+1:Nat):Int)))) ⟨CP sm first nx n,oE g ps fo (kb ps sm sm.length),h⟩ (.int ((n+1:Nat):Int)) [(0,eG g (b_ .int fo))]:=fun O=> ⟨rfl,rfl⟩
 refine aR (P:=SL (af sm)∧LC.bV (CJ y g') none ((30,eG g' [])::([(CR sm ps)]++ [(jg g fo)])) (fun(z:AV)=>some (stC ps z)) (fun(z:AV)=>Hint.v (stC ps z) .nil) (af sm)∧filterMap (fun(z:AV)=>some (stC ps z)) (af sm)=map (fun(k:Nat)=>cS (List.getD ps k (0,0))) sm∧(True∧av (.mk ([some (.v (.lst (af sm))),some (.r 0),some (.r 30),none,none,none,none,none]) ([(30,eG g' []),(CR sm ps),(jg g fo)]) .nil) ((fun(x:Nat)=>Nu sm) 0) ((fun(i:Nat)=>oE g ps fo (kb ps sm i)) 0))∧(bg (CL y g') (CM y g') (map (fun(k:Nat)=>cS (List.getD ps k (0,0))) sm) (fun(x:Nat)=>True) (fun(x:Nat)=>Nu sm) (fun(i:Nat)=>oE g ps fo (kb ps sm i)) (fun(x:Nat) (za:AV)=> .nil) fun(v:RV) (s3:S)=>dH (RF.ret v) s3 (AV.int ↑(n+1)) [(jg g fo)])∧(True→((length (map cS ps)≤sizeLine)∧((bT (map cS ps) ((0:Nat):Int))=(some (cS (List.getD ps 0 (0,0)))))∧(length (CQ ps)≤sizeLine)∧((bT (CQ ps) ((0:Nat):Int))=(some (AV.int first)))∧(∃(kvs:List (Int×AV)),some (eG g (b_ AV.int (kb ps sm (length (map (fun(k:Nat)=>cS (List.getD ps k (0,0))) sm)))))=some (eG g' kvs))∧∃(kvs:List (Int×AV)),some (eG g (b_ AV.int (kb ps sm (length (map (fun(k:Nat)=>cS (List.getD ps k (0,0))) sm)))))=some (eG g' kvs)∧lQ g'∧Option.getD (aZ kvs first) (AV.int first)=AV.int (ia ps sm first)∧∃(kvs:List (Int×AV)),some (eG g (b_ AV.int fo))=some (eG g' kvs)∧aZ kvs (ia ps sm first)=some (AV.int (nx first))∧av (.mk [some (.v (.lst (af sm))),some (.r 0),some (.r 30),none,none,some (.v (.int first)),some (.v (.int (nx first))),some (.v (.int ((1:Nat):Int)))] (oE g ps fo (kb ps sm (length (map (fun(k:Nat)=>cS (List.getD ps k (0,0))) sm)))) (Hint.wh n (CP sm first nx) (fun(x:Nat)=>oE g ps fo (kS ps sm)) (RM ps sm nx first) .nil)) (CP sm first nx 0) (oE g ps fo (kS ps sm))∧(vm (CN y g') (CO y g') n (CP sm first nx) (fun(x:Nat)=>oE g ps fo (kS ps sm)) (RM ps sm nx first) fun(v:RV) (s3:S)=>dH (RF.ret v) s3 (AV.int ↑(n+1)) [(jg g fo)])∧((!oF nx first (n+1)==first)=true→f4 (RV.v (.int ↑(n+1))) (RV.v (.int ((11:Nat):Int))) (decide (vN n))∧(decide (vN n)=true→true=false∧dH (vO n) (S.mk (CP sm first nx n) (oE g ps fo (kS ps sm)) .nil) (AV.int ↑(n+1)) [(jg g fo)])∧(decide (vN n)=false→false=false∧dH (vO n) (S.mk (CP sm first nx n) (oE g ps fo (kS ps sm)) .nil) (AV.int ↑(n+1)) [(jg g fo)]))∧((!oF nx first (n+1)==first)=false→false=false∧dH (vO n) (S.mk (CP sm first nx n) (oE g ps fo (kS ps sm)) .nil) (AV.int ↑(n+1)) [(jg g fo)])))) ?_ (by kernel_rfl!)
 have l5:(af sm).length≤5:=ar hl
 have eo:oE g'=oE g:=by unfold oE;rw[nQ b]
 simp only[nQ b,E9]
 refine⟨sz l5 rfl,TZ ps sm _ _ h5 hs,?_,⟨trivial,rfl⟩,fun i z hz O=>?_,fun O=> ⟨sz (U8 h5) rfl,aO (0,0) (h5▸by decide),E1 rfl,E5 (fun z=>some (AV.int z)) hf,⟨_,rfl⟩,_,rfl,lQ.of X.kK.sm b,xZ ..,_,rfl,by rw[jU,W.fo _ hP];rfl,rfl,
  fun i hi=>Hk b X.kK.sm sm ps fo nx P W first i (h1 i hi) (U2 hi h2) (VE W hP (i+1)) _,fun e=> ⟨f9 rfl,fun e2=>?_,fun O=> ⟨trivial,fin _⟩⟩,fun O=> ⟨trivial,fin _⟩⟩⟩
 ·unfold af
  rw[List.filterMap_map]
  exact ab2 (List.filterMap_eq_map' (f:=fun k=>cS (ps.getD k (0,0)))) sm
 ·rw[V9] at hz
  cases hq:sm[i]? with
  | none=>rw[hq] at hz;cases hz
  | some k=>
   rw[hq] at hz
   cases hz
   have hi:=(V7.mp hq).1
   have:=Hj (y:=y) (g:=g') sm ps fo i (Yy (U2 hi hl)) (fun v s3=>dH (.ret v) s3 (.int ((n+1:Nat):Int)) [(0,eG g (b_ .int fo))])
   rw[eJ hq,eo] at this
   exact this
 ·rcases h3 with h3 | rfl
  ·rw[h3,ZI] at e;cases e
  ·exact absurd (U9 e2) (by decide)
end
end
end
section
section
noncomputable def Hl(y:Lay):Cx:=Jh y [("ways",.local),("root",.local),("trees",.local),("pick",.local),("goes",.cell),("k",.local),("reached",.cell),("turn",.local)] [("goes",.cell,10),("reached",.cell,11)] [1,0] true
noncomputable def CT(y:Lay)(g:Gd):TG ⟨Hl y,g⟩:=(.n (.loc 4) 338 12)
noncomputable def CU(y:Lay)(g:Gd):SB ⟨Hl y,g⟩:=(.cons (.ite (.ne (.lo 4 339 15) (.lo 1 339 20)) (.cons (.mul [(.L6 (.ce 0 340 16) (.get (.st "abcde" 340 21) (.lo 4 340 29)) (q 340 16 32)),(.n (.loc 3) 340 34)] 0 (q 340 16 38) [(.of (.get (.get (.lo 0 340 42) (.lo 4 340 47)) (.md (.lo 3 340 50) 2 57))),(.of (.dv (.lo 3 340 61) 2 69))] 0 (q 340 41 71) (q 340 16 71) (by kernel_rfl!))<| .nil) .nil ⟨339,12,340,71⟩)<| .nil)
noncomputable def Qu(y:Lay):Cx:=cx y [".0","letter"] [("goes",.free,10),("reached",.free,11)] [] false
noncomputable def CV(y:Lay)(g:Gd):LC ⟨Hl y,g⟩:=⟨Qu y,fun g=> (.n (.loc 1) 343 35),fun g=>[(.and (.TY (.L5 (.ce 0 343 53) (.lo 1 343 58)) (.ce 1 343 69)) [(.Qq (.lo 1 343 81) (.ce 1 343 95))])],fun g=> (.lo 1 343 24),[],rfl,rfl,fun O=>rfl,fun O=>rfl,fun O=>rfl⟩
noncomputable def CW(y:Lay)(g:Gd):TG ⟨Hl y,g⟩:=(.n (.loc 5) 342 12)
noncomputable def CX(y:Lay)(g:Gd):SB ⟨Hl y,g⟩:=(.cons (.au (.cc 1) 343 12 (.lc (CV y g) (.Xw (.ce 0 343 45) 30) (q 343 23 103)))<| .nil)
noncomputable def CY(y:Lay)(g:Gd):TG ⟨Hl y,g⟩:=(.n (.loc 3) 336 8)
noncomputable def CZ(y:Lay)(g:Gd):SB ⟨Hl y,g⟩:=(.cons (.BF (.cc 0) (q 337 8 12) (.Qn 30 (q 337 15 17)) (q 337 8 17))<|(.cons (.for (CT y g) (.of (.cl 1 338 17 [(.nt 5 338 23)])) (CU y g) ⟨338,8,340,71⟩)<|(.ep 30<| .cons (.BF (.cc 1) (q 341 8 15) (.new 31 [(.get (.st "abcde" 341 19) (.lo 1 341 27))] (q 341 18 33)) (q 341 8 33))<|(.cons (.for (CW y g) (.of (.cl 1 342 20 [(.nt 4 342 26)])) (CX y g) ⟨342,8,343,103⟩)<|(.cons (.au (.loc 2) 344 8 (.yR (.eq (.cl 0 344 22 [(.ce 1 344 26)]) (.nt 5 344 38)) (.nt 1 344 17) (.nt 0 344 45)))<| .nil)))))
noncomputable def XA(y:Lay)(g:Gd):SB ⟨Hl y,g⟩:=(.cons (.ag (.loc 2) 335 4 (.nt 0 335 12))<|(.cons (.for (CY y g) (.of (.cl 1 336 16 [(.nt 16 336 22)])) (CZ y g) ⟨336,4,344,46⟩)<|(.cons (.ret (.lo 2 345 11))<| .nil)))
noncomputable abbrev eD(k:Nat):Str:=ch (97+k)
noncomputable def zm(ws:List (List Str))(k b:Nat):Str:=(ws.getD k []).getD b ⟨#[]⟩
noncomputable def JC(ws:List (List Str))(root k:Nat)(s:List (Str×Str)×Nat):List (Str×Str)×Nat:=cond (beq k root) s (aH s.1 (eD k) (zm ws k (s.2 % 2)),s.2 / 2)
noncomputable def cf(ws:List (List Str))(root p k:Nat):List (Str×Str)×Nat:=k.rec ([],p) fun k s=>JC ws root k s
noncomputable def jV(kvs:List (Str×Str))(l:Str):Str:=(aZ kvs l).getD ⟨#[]⟩
noncomputable def C0(kvs:List (Str×Str))(r:List Str)(l:Str):Bool:=r.any (· ==jV kvs l)&&!r.any (· ==l)
noncomputable def Nv(kvs:List (Str×Str))(r:List Str):List Str:=r++(kvs.map (·.1)).filter (C0 kvs r)
noncomputable def gI(kvs:List (Str×Str))(root t:Nat):List Str:=t.rec [eD root] fun O r=>Nv kvs r
noncomputable def bo(ws:List (List Str))(root p:Nat):Int:=cond (((gI (cf ws root p 5).1 root 4).length:Int)==5) 1 0
noncomputable def jh(ws:List (List Str))(root i:Nat):Int:=i.rec 0 fun i t=>t+bo ws root i
structure rg(ws:List (List Str)):Prop where
 l:ws.length=5
 r:∀a,a<5→(ws.getD a []).length=2
theorem rh(ws:List (List Str))(root p:Nat):∀k,(cf ws root p k).1.length≤k
 | 0=>E8 _
 | k+1=>by
  have h:=rh ws root p k
  show(JC ws root k (cf ws root p k)).1.length≤_
  unfold JC
  cases beq k root with
  | true=>exact ZG h
  | false=>exact E4 (fe ..) (abt h)
theorem ri(kvs:List (Str×Str))(root:Nat):∀t,(gI kvs root t).length≤1+t*kvs.length
 | 0=>by rw[Nat.zero_mul];exact E8 _
 | t+1=>by
  have h:=ri kvs root t
  show(Nv kvs (gI kvs root t)).length≤_
  unfold Nv
  rw[YF,Nat.succ_mul,← ZZ]
  exact aau h (E4 (ZX ..) (U8 (E9 ..)))
section
variable {y:Lay}{g:Gd}
noncomputable def bq(ws:List (List Str)):List AV:=ws.map fun r=> .lst (r.map .str)
noncomputable def lR(ws:List (List Str))(root:Nat)(t:Int)(p:Option RV):Vs:=[some (.v (.lst (bq ws))),some (.v (.int root)),some (.v (.int t)),p,none,none]
noncomputable def JD(g:Gd)(kvs:List (Str×Str)):Os:=[(30,iD g none (b_ .str kvs)),(11,.cell none),(10,.cell (some (.r 30)))]
noncomputable def T0(ws:List (List Str))(root k:Nat)(s:List (Str×Str)×Nat):Hint:= .a<| .sp (.v (.lst ((ws.getD k []).map .str))<| .v (.str (zm ws k (s.2 % 2)))<| .v (.str (eD k)) .nil) .nil
theorem Hm(X:cH y g)(ws:List (List Str))(W:rg ws)(root p k:Nat)(hk:k<5)(t:Int)(R:RV→S→Prop):
  (CT y g).set (.v (.int k)) ⟨lR ws root t (some (.v (.int (cf ws root p k).2))),JD g (cf ws root p k).1,T0 ws root k (cf ws root p k)⟩ fun s2=> (CU y g).ex s2 fun f s3=>bF f (True∧av s3 (lR ws root t (some (.v (.int (cf ws root p (k+1)).2)))) (JD g (cf ws root p (k+1)).1)) False fun v=>R v s3:=by
 have row:(ws.getD k []).length=2:=W.r k hk
 have m2:(cf ws root p k).2 % 2<2:=YK _ (by decide)
 have ab:∃c,sE (Str.ofString "abcde") (k:Nat)=some c∧AV.str (eD k)= .str ⟨#[c]⟩:=by
  match k,hk with
  | 0,_ | 1,_ | 2,_ | 3,_ | 4,_=>exact⟨_,by kernel_rfl!,rfl⟩
 have es:cf ws root p (k+1)=JC ws root k (cf ws root p k):=rfl
 have eb:((k:Int)==(root:Int))=beq k root:=by
  rw[ZF,ZE,aaf,Nat.beq_eq]
 refine aR (P:=((!(↑k:Int)==(↑root:Int))=true→((length (bq ws)≤sizeLine)∧((bT (bq ws) (↑k:Int))=(some (AV.lst (map AV.str (List.getD ws k [])))))∧(length (map AV.str (List.getD ws k []))≤sizeLine)∧((bT (map AV.str (List.getD ws k [])) (fmod (↑(snd (cf ws root p k)):Int) ((2:Nat):Int)))=(some (AV.str (zm ws k (snd (cf ws root p k) % 2)))))∧(Str.length (Str.ofString "abcde")≤sizeLine)∧(∃(c:Nat),sE (Str.ofString "abcde") (↑k:Int)=some c∧AV.str (eD k)=AV.str (Str.mk #[c]))∧∃(ep:Option Nat),∃(kvs:List (Str×AV)),some (iD g none (b_ AV.str (fst (cf ws root p k))))=some (iD g ep kvs)∧length kvs≤sizeLine∧True∧av (.mk [some (.v (.lst (bq ws))),some (.v (.int ↑root)),some (.v (.int t)),some (.v (.int (fdiv (↑(snd (cf ws root p k)):Int) ((2:Nat):Int)))),some (.v (.int ↑k)),none] [(30,iD g none (aH kvs (eD k) (AV.str (zm ws k (snd (cf ws root p k) % 2))))),(11,EO.cell none),(10,EO.cell (some (.r 30)))] .nil) (lR ws root t (some (.v (.int (↑(snd (cf ws root p (k+1))):Int))))) (JD g (fst (cf ws root p (k+1))))))∧((!(↑k:Int)==(↑root:Int))=false→True∧av (.mk ([some (.v (.lst (bq ws))),some (.v (.int ↑root)),some (.v (.int t)),some (.v (.int (↑(snd (cf ws root p k)):Int))),some (.v (.int ↑k)),none]) ([(30,iD g none (b_ AV.str (fst (cf ws root p k)))),(11,EO.cell none),(10,EO.cell (some (.r 30)))]) .nil) (lR ws root t (some (.v (.int (↑(snd (cf ws root p (k+1))):Int))))) (JD g (fst (cf ws root p (k+1)))))) ?_ (by kernel_rfl!)
 rw[hO,pW,eb,es]
 refine⟨fun e=>?_,fun e=>?_⟩
 ·rw[JC,(Y2 _).mp e]
  exact⟨sz (ar (U8 W.l)) rfl,aO [] (W.l▸hk),sz (ar (U8 row)) rfl,aO ⟨#[]⟩ (Nat.lt_of_lt_of_eq m2 row.symm),E1 rfl,ab,none,_,rfl,sz (ar (E4 (rh ws root p k) (Yy hk))) rfl,trivial,by rw[pZ];rfl⟩
 ·rw[JC,(aaX _).mp e]
  exact⟨trivial,rfl⟩
noncomputable def iR(g:Gd)(ep:Nat)(kvs:List (Str×Str))(r:List Str):Os:=[(31,.list (r.map .str)),(30,iD g (some ep) (b_ .str kvs)),(11,.cell (some (.r 31))),(10,.cell (some (.r 30)))]
noncomputable def EA(kvs:List (Str×Str))(r:List Str)(z:AV):Option AV:=cond (C0 kvs r (jf z)) (some z) none
noncomputable def Nw(kvs:List (Str×Str))(z:AV):Hint:= .v (.str (jV kvs (jf z)))<| .sp (.sp (.a .nil) (.a .nil)) (.a .nil)
theorem p7{K α:Type}[DecidableEq K]{kvs:List (K×α)}{k:K}(h:k∈kvs.map (·.1))(d:α):aZ kvs k=some ((aZ kvs k).getD d):=by
 obtain⟨q,hq,rfl⟩:=U0.mp h
 unfold aZ
 cases hf:kvs.find? fun p=>decide (p.1=q.1) with
 | none=>exact absurd (U5 rfl) (abR.mp hf q hq)
 | some x=>rfl
theorem Hn(ep:Nat)(kvs:List (Str×Str))(r:List Str):(CV y g).turn (iR g ep kvs r) (EA kvs r) (Nw kvs) ((b_ AV.str kvs).map fun q=> .str q.1):=fun g' b z hz=>by
 obtain⟨q',XB,rfl⟩:=U0.mp hz
 obtain⟨q,hq,rfl⟩:=U0.mp XB
 have hk:q.1∈kvs.map (·.1):=U0.mpr ⟨q,hq,rfl⟩
 refine aR (P:= ∃(L9:Option Nat),∃(ib:List (Str×AV)),some (iD g (some ep) (b_ AV.str kvs))=some (iD g' L9 ib)∧aZ ib q.1=some (AV.str (jV kvs q.1))∧∃(xs:List Str),map AV.str r=map AV.str xs∧((List.any xs fun(x:Str)=>x==jV kvs q.1)=true→∃(xs:List Str),map AV.str r=map AV.str xs∧((!List.any xs fun(x:Str)=>x==fst q)=true→EA kvs r (AV.str q.1)=some (AV.str q.1)∧elim none ((elim none (iR g ep kvs r) fun(q:Str×Nat)=> (snd q,EO.cell none)::iR g ep kvs r)=iR g ep kvs r) fun(q:Str×Nat)=> ∃(o:Option RV),(elim none (iR g ep kvs r) fun(q:Str×Nat)=> (snd q,EO.cell none)::iR g ep kvs r)=(snd q,EO.cell o)::iR g ep kvs r)∧((!List.any xs fun(x:Str)=>x==fst q)=false→EA kvs r (AV.str q.1)=none∧elim none ((elim none (iR g ep kvs r) fun(q:Str×Nat)=> (snd q,EO.cell none)::iR g ep kvs r)=iR g ep kvs r) fun(q:Str×Nat)=> ∃(o:Option RV),(elim none (iR g ep kvs r) fun(q:Str×Nat)=> (snd q,EO.cell none)::iR g ep kvs r)=(snd q,EO.cell o)::iR g ep kvs r))∧((List.any xs fun(x:Str)=>x==jV kvs q.1)=false→EA kvs r (AV.str q.1)=none∧elim none ((elim none (iR g ep kvs r) fun(q:Str×Nat)=> (snd q,EO.cell none)::iR g ep kvs r)=iR g ep kvs r) fun(q:Str×Nat)=> ∃(o:Option RV),(elim none (iR g ep kvs r) fun(q:Str×Nat)=> (snd q,EO.cell none)::iR g ep kvs r)=(snd q,EO.cell o)::iR g ep kvs r)) ?_ (by kernel_rfl!)
 simp only[L4 b]
 refine⟨some ep,_,rfl,by rw[jU,p7 hk ⟨#[]⟩];rfl,r,rfl,fun e1=> ⟨r,rfl,fun e2=> ⟨?_,rfl⟩,fun e2=> ⟨?_,rfl⟩⟩,fun e1=> ⟨?_,rfl⟩⟩
 ·show cond (r.any (· ==jV kvs q.1)&&!r.any (· ==q.1)) _ _=_;rw[e1,e2];rfl
 ·show cond (r.any (· ==jV kvs q.1)&&!r.any (· ==q.1)) _ _=_;rw[e1,e2];rfl
 ·show cond (r.any (· ==jV kvs q.1)&&!r.any (· ==q.1)) _ _=_;rw[e1];rfl
theorem x4(P:Str→Bool):∀L:List Str,(L.map AV.str).filterMap (fun z=>cond (P (jf z)) (some z) none)=(L.filter P).map .str
 | []=>rfl
 | x::L=>by
  rw[YI,Zh,ZA,x4 P L]
  rw[show jf (AV.str x)=x from rfl]
  cases P x <;> rfl
theorem tW(kvs:List (Str×Str)):((b_ AV.str kvs).map fun q=>AV.str q.1)=(kvs.map (·.1)).map .str:=by
 unfold b_
 rw[V3,V3];rfl
theorem Ho(X:cH y g)(ws:List (List Str))(root ep:Nat)(kvs:List (Str×Str))(hl:kvs.length≤5)(sm:lQ g)(t:Int)(i:Nat)(hi:i<4)(R:RV→S→Prop):
  (CW y g).set (.v (.int i)) ⟨lR ws root t none,iR g ep kvs (gI kvs root i),.f (EA kvs (gI kvs root i)) (Nw kvs)<| .v (.lst (((kvs.map (·.1)).filter (C0 kvs (gI kvs root i))).map .str)) .nil⟩ fun s2=> (CX y g).ex s2 fun f s3=>bF f (True∧av s3 (lR ws root t none) (iR g ep kvs (gI kvs root (i+1)))) False fun v=>R v s3:=by
 have k5:(kvs.map (·.1)).length≤5:=ar hl
 have T1:(gI kvs root i).length≤21:=E4 (ri kvs root i) (YT (aa6 (Yy hi) hl) 1)
 refine aR (P:= ∃(L9:Nat),∃(ib:List (Str×AV)),some (iD g (some ep) (b_ AV.str kvs))=some (iD g (some L9) ib)∧lQ g∧length (map (fun(q:Str×AV)=>AV.str q.1) ib)≤sizeLine∧LC.bV (CV y g) none (iR g ep kvs (gI kvs root i)) (EA kvs (gI kvs root i)) (Nw kvs) (map (fun(q:Str×AV)=>AV.str q.1) ib)∧filterMap (EA kvs (gI kvs root i)) (map (fun(q:Str×AV)=>AV.str q.1) ib)=map AV.str (filter (C0 kvs (gI kvs root i)) (map (fun(x:Str×Str)=>fst x) kvs))∧length (map AV.str (gI kvs root i))+length (map AV.str (filter (C0 kvs (gI kvs root i)) (map (fun(x:Str×Str)=>fst x) kvs)))≤1000000∧True∧av (.mk [some (.v (.lst (bq ws))),some (.v (.int ↑root)),some (.v (.int t)),none,none,some (.v (.int ↑i))] [(31,EO.list (map AV.str (gI kvs root i)++map AV.str (filter (C0 kvs (gI kvs root i)) (map (fun(x:Str×Str)=>fst x) kvs)))),(30,iD g (some ep) (b_ AV.str kvs)),(11,EO.cell (some (.r 31))),(10,EO.cell (some (.r 30)))] .nil) (lR ws root t none) (iR g ep kvs (gI kvs root (i+1))))
  ⟨ep,_,rfl,sm,?_,Hn ep kvs _,?_,?_,trivial,?_⟩ (by kernel_rfl!)
 ·rw[tW];exact sz (ar k5) rfl
 ·rw[tW];exact x4 ..
 ·exact E4 (sa (ar T1) (ar (E4 (ZX ..) k5))) (E1 rfl)
 ·rw[← YA];rfl
noncomputable def Ny(g:Gd)(ws:List (List Str))(root p:Nat):Hint:=
 .loop (fun O=>True) (fun k=>lR ws root (jh ws root p) (some (.v (.int (cf ws root p k).2)))) (fun k=>JD g (cf ws root p k).1) (fun k O=>T0 ws root k (cf ws root p k))<|
 .wh 0 (fun O=>[]) (fun O=>[]) (fun ep=> .v (.str (eD root))<| .loop (fun O=>True) (fun O=>lR ws root (jh ws root p) none) (fun i=>iR g ep (cf ws root p 5).1 (gI (cf ws root p 5).1 root i))
  (fun i O=> .f (EA (cf ws root p 5).1 (gI (cf ws root p 5).1 root i)) (Nw (cf ws root p 5).1)<| .v (.lst ((((cf ws root p 5).1.map (·.1)).filter (C0 (cf ws root p 5).1 (gI (cf ws root p 5).1 root i))).map .str)) .nil)<| .a<| .mv (.v (.int (bo ws root p))) .nil .nil .nil) .nil
theorem Hp(X:cH y g)(ws:List (List Str))(W:rg ws)(root p:Nat)(hr:root<5)(R:RV→S→Prop):
  (CY y g).set (.v (.int p)) ⟨lR ws root (jh ws root p) none,[(11,.cell none),(10,.cell none)],Ny g ws root p⟩ fun s2=> (CZ y g).ex s2 fun f s3=>bF f (True∧av s3 (lR ws root (jh ws root (p+1)) none) [(11,.cell none),(10,.cell none)]) False fun v=>R v s3:=by
 have ab:∃c,sE (Str.ofString "abcde") (root:Nat)=some c∧AV.str (eD root)= .str ⟨#[c]⟩:=by
  match root,hr with
  | 0,_ | 1,_ | 2,_ | 3,_ | 4,_=>exact⟨_,by kernel_rfl!,rfl⟩
 have k5:=rh ws root p 5
 have T1:((gI (cf ws root p 5).1 root 4).map AV.str).length≤21:=ar (E4 (ri ..) (YT (Y6 4 k5) 1))
 refine aR (P:=Builtin.Range.small 0 ((5:Nat):Int) 1=true∧(True∧EE ((fun(k:Nat)=>lR ws root (jh ws root p) (some (.v (.int (↑(snd (cf ws root p k)):Int))))) 0) ((fun(k:Nat)=>JD g (fst (cf ws root p k))) 0))∧(bg (CT y g) (CU y g) (aJ 0 ((5:Nat):Int) 1) (fun(x:Nat)=>True) (fun(k:Nat)=>lR ws root (jh ws root p) (some (.v (.int (↑(snd (cf ws root p k)):Int))))) (fun(k:Nat)=>JD g (fst (cf ws root p k))) (fun(k:Nat) (x:AV)=>T0 ws root k (cf ws root p k)) fun(v:RV) (s3:S)=>R v s3)∧(True→(∃(kvs:List (Str×AV)),some (iD g none (b_ AV.str (fst (cf ws root p (length (aJ 0 ((5:Nat):Int) 1))))))=some (iD g none kvs)∧∀(ep:Nat),Str.length (Str.ofString "abcde")≤sizeLine∧(∃(c:Nat),sE (Str.ofString "abcde") ↑root=some c∧AV.str (eD root)=AV.str (Str.mk #[c]))∧Builtin.Range.small 0 ((4:Nat):Int) 1=true∧(True∧av (.mk (lR ws root (jh ws root p) (some (.v (.int (↑(snd (cf ws root p (length (aJ 0 ((5:Nat):Int) 1)))):Int))))) [(31,EO.list [AV.str (eD root)]),(30,iD g (some ep) kvs),(11,EO.cell (some (.r 31))),(10,EO.cell (some (.r 30)))] (Hint.loop (fun(x:Nat)=>True) (fun(x:Nat)=>lR ws root (jh ws root p) none) (fun(i:Nat)=>iR g ep (fst (cf ws root p 5)) (gI (fst (cf ws root p 5)) root i)) (fun(i:Nat) (x:AV)=>Hint.f (EA (fst (cf ws root p 5)) (gI (fst (cf ws root p 5)) root i)) (Nw (fst (cf ws root p 5))) (Hint.v (AV.lst (map AV.str (filter (C0 (fst (cf ws root p 5)) (gI (fst (cf ws root p 5)) root i)) (map (fun(x:Str×Str)=>fst x) (fst (cf ws root p 5)))))) .nil)) (Hint.a (Hint.mv (RV.v (.int (bo ws root p))) .nil .nil .nil)))) (lR ws root (jh ws root p) none) (iR g ep (fst (cf ws root p 5)) (gI (fst (cf ws root p 5)) root 0)))∧(bg (CW y g) (CX y g) (aJ 0 ((4:Nat):Int) 1) (fun(x:Nat)=>True) (fun(x:Nat)=>lR ws root (jh ws root p) none) (fun(i:Nat)=>iR g ep (fst (cf ws root p 5)) (gI (fst (cf ws root p 5)) root i)) (fun(i:Nat) (x:AV)=>Hint.f (EA (fst (cf ws root p 5)) (gI (fst (cf ws root p 5)) root i)) (Nw (fst (cf ws root p 5))) (Hint.v (AV.lst (map AV.str (filter (C0 (fst (cf ws root p 5)) (gI (fst (cf ws root p 5)) root i)) (map (fun(x:Str×Str)=>fst x) (fst (cf ws root p 5)))))) .nil)) fun(v:RV) (s3:S)=>R v s3)∧(True→length (map AV.str (gI (fst (cf ws root p 5)) root (length (aJ 0 ((4:Nat):Int) 1))))≤sizeLine∧(((↑(length (map AV.str (gI (fst (cf ws root p 5)) root (length (aJ 0 ((4:Nat):Int) 1))))):Int)==((5:Nat):Int))=true→RV.v (.int ((1:Nat):Int))=RV.v (.int (bo ws root p))∧S.mk (lR ws root (jh ws root p) none) (iR g ep (fst (cf ws root p 5)) (gI (fst (cf ws root p 5)) root (length (aJ 0 ((4:Nat):Int) 1)))) .nil=S.mk (lR ws root (jh ws root p) none) (iR g ep (fst (cf ws root p 5)) (gI (fst (cf ws root p 5)) root (length (aJ 0 ((4:Nat):Int) 1)))) .nil)∧(((↑(length (map AV.str (gI (fst (cf ws root p 5)) root (length (aJ 0 ((4:Nat):Int) 1))))):Int)==((5:Nat):Int))=false→RV.v (.int ((0:Nat):Int))=RV.v (.int (bo ws root p))∧S.mk (lR ws root (jh ws root p) none) (iR g ep (fst (cf ws root p 5)) (gI (fst (cf ws root p 5)) root (length (aJ 0 ((4:Nat):Int) 1)))) .nil=S.mk (lR ws root (jh ws root p) none) (iR g ep (fst (cf ws root p 5)) (gI (fst (cf ws root p 5)) root (length (aJ 0 ((4:Nat):Int) 1)))) .nil)∧True∧av (.mk [some (.v (.lst (bq ws))),some (.v (.int ↑root)),some (.v (.int (jh ws root p+bo ws root p))),none,none,none] (iR g ep (fst (cf ws root p 5)) (gI (fst (cf ws root p 5)) root (length (aJ 0 ((4:Nat):Int) 1)))) .nil) (lR ws root (jh ws root (p+1)) none) [(11,EO.cell none),(10,EO.cell none)])))) ?_ (by kernel_rfl!)
 rw[fC,fC]
 refine⟨by decide,⟨trivial,rfl⟩,fun i z hz O=>?_,fun O=> ⟨_,rfl,fun ep=> ⟨E1 rfl,ab,by decide,⟨trivial,rfl⟩,fun i z hz O=>?_,fun O=> ⟨sz T1 rfl,fun e=> ⟨?_,rfl⟩,fun e=> ⟨?_,rfl⟩,trivial,rfl⟩⟩⟩⟩
 ·obtain⟨hi,rfl⟩:=dm hz
  exact Hm X ws W root p i hi _ _
 ·obtain⟨hi,rfl⟩:=dm hz
  exact Ho X ws root ep _ k5 X.kK.sm _ i hi _
 ·rw[E9] at e
  unfold bo
  exact E5 (fun b=>RV.v (.int (cond b 1 0))) e.symm
 ·rw[E9] at e
  unfold bo
  exact E5 (fun b=>RV.v (.int (cond b 1 0))) e.symm
theorem C1(X:cH y g)(hn:9≤g.n)(ws:List (List Str))(W:rg ws)(root:Nat)(hr:root<5):
  Fn g (.v (.val (.ref (y.ad 80)))) [.v (.lst (bq ws)),.v (.int root)] [] [] [] (.v (.int (jh ws root 16))) []:=by
 refine iN X hn (X.fn 80 "_law_trees" (by decide)) (Hl y) (XA y)
  (.loop (fun O=>True) (fun i=>lR ws root (jh ws root i) none) (fun O=>[(11,.cell none),(10,.cell none)]) (fun i O=>Ny g ws root i) .nil) (by intros;kernel_rfl!) fun g' b=>?_
 have et:Ny g=Ny g':=by unfold Ny JD iR;rw[L3 b]
 refine aR (P:=Builtin.Range.small 0 ((16:Nat):Int) 1=true∧(True∧EE ((fun(i:Nat)=>lR ws root (jh ws root i) none) 0) ((fun(x:Nat)=>[(11,EO.cell none),(10,EO.cell none)]) 0))∧(bg (CY y g') (CZ y g') (aJ 0 ((16:Nat):Int) 1) (fun(x:Nat)=>True) (fun(i:Nat)=>lR ws root (jh ws root i) none) (fun(x:Nat)=>[(11,EO.cell none),(10,EO.cell none)]) (fun(i:Nat) (x:AV)=>Ny g ws root i) fun(v:RV) (s3:S)=>dH (RF.ret v) s3 (AV.int (jh ws root 16)) [])∧(True→VI (.int (jh ws root (length (aJ 0 ((16:Nat):Int) 1)))) (.int (jh ws root 16))∧([]:Os)=[])) ?_ (by kernel_rfl!)
 rw[fC,et]
 refine⟨by decide,⟨trivial,rfl⟩,fun i z hz O=>?_,fun O=> ⟨rfl,rfl⟩⟩
 obtain⟨hi,rfl⟩:=dm hz
 exact Hp (X.bS b.bS) ws W root i hr _
end
end
end
section
section
variable {g:Gd}{env:Env}{st:AS}
theorem T2{F:FM}(r:RepM g F mem s){ns:List Str}(hv:VR F (.lst (ns.map .str)) v):∃a vs,v= .ref a∧s.heap.IsList a vs.toArray∧StrsAre vs ns:=
 uz.rec (fun a items n e h i=> ⟨a,items.toList,e,⟨_,r.hF _ _ h,rfl,n,rfl⟩,me i⟩) hv
theorem L_{rS:Str}{ys:List Str}(Po:(ys.map (·.length)).sum+ys.length*rS.length≤16777216)(h:Q (.str (join rS ys)) st):Wl g VR (fun vs=>call (.builtin "str.join") vs) [.str rS,.lst (ys.map .str)] st Q:=Eu fun F s v u r hv hu K E k=>by
 obtain⟨t,rfl⟩:=hv
 obtain⟨a,vs,rfl,hl,hi⟩:=T2 r.toRepM hu
 exact b3 (join_list hl hi Po fun t' n gS=>k F _ _ st _ (FM.le.refl _) (r.tok n fun O=>U2 r.tk gS) (yA ..) h)
theorem vP{o1 o2:CmpOp}(h:W0 g VR (eval l env) st fun a aD=>W0 g VR (eval r1 env) aD fun b aK=>W2 g VR (compareOp o1) a b aK fun c eu=>c= .bool true∧W0 g VR (eval r2 env) eu fun d zR=>W2 g VR (compareOp o2) b d zR Q)(hm:lastMarks [o1,o2] [r1,r2]=false):W0 g VR (eval (.Compare l [o1,o2] [r1,r2] pos) env) st Q:=fun F s rr K E k=>
 Compare_chain (h F s rr _ E fun F1 a u aD s1 l1 R1 v1 h1=>chain_link (h1 F1 s1 R1 _ E fun F2 b w aK s2 l2 R2 v2 h2=>h2 F2 s2 u w R2 (v1.mono l2) v2 _ E fun F3 c x eu s3 l3 R3 v3 h3=>by
  obtain⟨rfl,h3⟩:=h3
  cases(v3:x=_)
  exact abV (chain_last (h3 F3 s3 R3 _ E fun F4 d y zR s4 l4 R4 v4 h4=>h4 F4 s4 w y R4 ((v2.mono l3).mono l4) v4 K E fun F5 e z up s5 l5 R5 v5 h5=>k F5 e z up s5 (l1.trans (l2.trans (l3.trans (l4.trans l5)))) R5 v5 h5)))) hm
theorem Rep.XC{F:FM}{vars:cI}{a:Addr}(r:Rep g F ⟨vars,mem⟩ s)(u:Upd mem a o o' mem')(h:kX F s.heap a o→kX F s.heap a o'):Rep g F ⟨vars,mem'⟩ s:=
 have all:∀ {P:Addr→Prop},(∀p∈mem,P p.1)→∀p∈mem',P p.1:=fun h p hp=>let⟨q,hq,e⟩:=u.jr hp;e▸h q hq
 {hP:=r.hP,hF:=r.hF,hK:=r.hK,pf:=r.pf,tk:=r.tk,gens:=r.gens,os:=r.os,tab:=r.tab
  hm:=fun p hp=>by
   rcases u.apart r.nd p hp with rfl |⟨hp,_⟩
   ·exact h (r.hm _ u.mem)
   ·exact r.hm _ hp
  ap:=all (P:=fun a=>F.P a=none∧F.f a=none) r.ap
  nd:=u.keys▸r.nd
  b0:=fun t ht=> ⟨(r.b0 t ht).1,(r.b0 t ht).2.1,all (P:=(·≠t.1)) (r.b0 t ht).2.2⟩
  ns:=r.ns,nv:=r.nv,fq:=r.fq,fH:=r.fH,eN:=all (P:=(·≠g.L)) r.eN,ft:=r.ft }
theorem Rep.L'{F:FM}{vars:cI}{a:Addr}(r:Rep g F ⟨vars,mem⟩ s)(u:Upd mem a (.cell (some v)) (.cell (some v')) mem')(h:∀w,VR F v w→VR F v' w):Rep g F ⟨vars,mem'⟩ s:=
 r.XC u fun x=>jq.rec (motive:=fun O=>jq F s.heap a (some v')) (fun o w e d q=> ⟨o,w,e,d,q.EM.imp fun u z=> ⟨z.1,h u z.2⟩⟩) x
end
end
section
section
section
variable {g:Gd}{F:FM}{C:Ctx}{ρ ρ':dz}{env:Env}{M:Mem}{s:S}
def vQ(rS:Str)(l:List AV)(r:AV):Prop:= ∃ys:List Str,l=ys.map .str∧(ys.map (·.length)).sum+ys.length*rS.length≤16777216∧r= .str (join rS ys)
theorem Hq{st:AS}(h:vQ rS l r)(q:Q r st):Wl g VR (fun vs=>call (.builtin "str.join") vs) [.str rS,.lst l] st Q:=by
 obtain⟨ys,rfl,h1,rfl⟩:=h
 exact L_ h1 q
def JE(a:RV)(xs:List RV)(s:S)(K:RV→S→Prop):Prop:=a1 xs (fun b=>mS a (fun rS=>mL b (fun l=>hV s fun r s=>vQ rS l r∧K (.v r) s) False) False) False
theorem C2{K:RV→S→Prop}(h:JE a xs s K):bB C.g (.val (.builtin "str.join")) (aa ρ a::xs.map (aa ρ)) [] [] (tr C ρ M s) (PV C ρ M K):=a_ (
 g9 (P:=fun xs=>cG C ρ M s K (fun vs=>call (.builtin "str.join") vs) (aa ρ a::xs.map (aa ρ))) h (fun b h=>cZ (P:=fun a=>cG C ρ M s K (fun vs=>call (.builtin "str.join") vs) [aa ρ a,aa ρ b]) h (fun rS h=>fA (P:=fun b=>cG C ρ M s K (fun vs=>call (.builtin "str.join") vs) [.str rS,aa ρ b]) h (fun l h=>dB h fun r k h=>Hq h.1 (lN h.2)) False.elim) False.elim) False.elim)
noncomputable def SE.XD(o:SE C)(ap:Pos)(x:SE C)(pos:Pos):SE C:=
 SE.I7 (.Call (.Attribute o.e "join" ap) (fM [x]) [] pos) (fun s K=>eE (o.ai&& (ap.endLine==pos.line)) (o.ev s fun a s1=>mS a (fun O=>uq [x] s1 fun xs s2=>JE a xs s2 K) False)) true true
  (fun {ρ env M s K} fr h=>by
   obtain⟨hc,h⟩:=aq h
   rw[YL] at hc
   exact cR (bz (G:=fun a st=>MC C.g env a "join" pos (fM [x]) st (PV C ρ M K)) (o.ok fr h) fun a s1 h=>cZ (P:=fun a'=>a'=a→MC C.g env (aa ρ a') "join" pos (fM [x]) (tr C ρ M s1) (PV C ρ M K)) h (fun k h e=>ew (sF aby PySem.F.type_str_join) (lM (eA fr pos h) fun xs s2 h=>C2 (a:= .v (.str k)) (e▸h))) (fun h=>h.elim) rfl)
    (o.fm.ab hc.1 _ _) (jM (fr:=fr) (es:=[x]) rfl) hc.2 (by rw[cz fr];rfl) (c8 _ _))
  (fun O=>rfl) ⟨fun O O=>rfl,fun O=>rfl,fun O O=>rfl,fun O O O O=>rfl,fun O O O O=>rfl⟩
noncomputable def SE.eq3(l a b:SE C)(pos:Pos:=fZ l.p b.p 0 0):SE C where
 e:= .Compare l.e [.Eq,.Eq] [a.e,b.e] pos
 ev s K:=l.ev s fun x s1=>a.ev s1 fun y s2=>ii x y (fun i j=>i=j∧b.ev s2 fun z s3=>mI z (fun k=>j=k∧K (.v (.bool true)) s3) False) False
 tv _ _:=False
 ai:=true
 sw:=true
 ok {ρ env M s K} fr h:=vP (bz (l.ok fr h) fun x s1 h=>bz (a.ok fr h) fun y s2 h=>dj (P:=fun x y=>W2 C.g VR (compareOp .Eq) (aa ρ x) (aa ρ y) (tr C ρ M s2) fun c eu=>c= .bool true∧W0 C.g VR (eval b.e env) eu fun d zR=>W2 C.g VR (compareOp .Eq) (aa ρ y) d zR (PV C ρ M K)) h
  (fun i j ⟨e,h⟩=>Ki ⟨E5 AV.bool (ZE.mpr e),bz (b.ok fr h) fun z s3 h=>cK (P:=fun z=>W2 C.g VR (compareOp .Eq) (.int j) (aa ρ z) (tr C ρ M s3) (PV C ρ M K)) h (fun k ⟨e,h⟩=>Ki (gk (ZE.mpr e) h)) False.elim⟩) False.elim) (b.fm.bm _)
 tok _ h:=h.elim
 fm:=⟨fun O O=>rfl,fun O=>rfl,fun O O=>rfl,fun O O O O=>rfl,fun O O O O=>rfl⟩
theorem Wk.Ma{c k:Nat}(ho:bM k s.os=some (.list l))(hc:bM c (vd k s.os)=some (.cell (some (.r k)))):Wk C.g (tr C ρ M s) (tr C ρ M ⟨s.vs,dA c (.cell (some (.v (.lst l)))) (vd k s.os),h⟩):=fun F sh r=>by
 obtain⟨F0,l0,r0⟩:=Wk.perm (g:=C.g) (((iu ρ (o':= .list l) ho).1.append_right M)) F sh r
 have Tm:Rep C.g F0 ⟨bU ρ C.loc s.vs,(ρ k,.list l)::(ay ρ (vd k s.os)++M)⟩ sh:=r0
 obtain⟨G,l1,r1,Nl⟩:=Tm.freeze
 exact⟨G,l0.trans l1,r1.L' (cN ρ M (o:= .cell (some (.r k))) (o':= .cell (some (.v (.lst l)))) rfl rfl hc) fun w hw=>by cases(hw:w=_);exact Nl⟩
noncomputable def SB.Ma(i:Nat)(r:SB C):SB C:=⟨r.ss,fun s K=>oR (ka C.cc i) fun p=>oC (bM p.2.2 s.os) fun o=>oR o fun a=>mR a (fun k=>oL (bM k s.os) (fun l=>oC (bM p.2.2 (vd k s.os)) fun o2=>oR o2 fun a2=>mR a2 (fun k2=>eE (beq k2 k) (r.ex ⟨s.vs,dA p.2.2 (.cell (some (.v (.lst l)))) (vd k s.os),s.h⟩ K)) False) False) False,
 fun {ρ env M s K} fr h=>by
  obtain⟨p,hp,h⟩:=b6 h
  obtain⟨o,ho,h⟩:=sZ h
  obtain⟨a,rfl,h⟩:=b6 h
  cases a with
  | r k=>
   refine g8 h (fun l e h=>?_) False.elim
   obtain⟨o2,Th,h2⟩:=sZ h
   obtain⟨a2,rfl,h3⟩:=b6 h2
   cases a2 with
   | r k2=>
    obtain⟨hk,h4⟩:=aq h3
    cases U7 hk
    exact W0.weak (Wk.Ma e Th) (r.ok fr h4)
   | _=>exact h3.elim
  | _=>exact h.elim⟩
noncomputable def SS.T4(i id:Nat)(py:Pos)(m:LC C)(x0:Str)(c0:Nat)(it:IT C)(cF pos:Pos)(Nn:∀n acc,cellsFrom n m.X.names acc=(x0,n)::acc)(XE:∀h,pushCells h m.X.names=h.push {cls:= .type "cell",data:= .cell none }):SS C:=⟨.Assign [.Name (i4 C.loc i) py] (m.expr it cF) pos,
 fun s K=>oR (ka C.loc i) fun x=>eE (Gm m.X x py cF&&ble C.pin id) (m.run (some (x0,c0)) it s fun l s1=>eE (s1.off id) (K .next ⟨qD i (.r id) s1.vs,(id,.list l)::s1.os,s1.h⟩)),
 fun {ρ env M s K} fr h=>by
  obtain⟨x,hx,h⟩:=b6 h
  obtain⟨hc,h⟩:=aq h
  obtain⟨hc,hp⟩:=E2.mp hc
  refine m.asg (oc:=some (x0,c0)) fr hx hc ⟨Nn,XE⟩ h fun l s1 k=>Aw fun D=>?_
  obtain⟨ho,k⟩:=aq k
  have e:=je (C:=C) (M:=M) (s:=s1) (bX (ρ:=ρ) (a:=D)) ho
  have e2:fS ρ id D id=D:=V8 rfl
  have pin:Pin C ρ (fS ρ id D):=fun j hj=>bX j fun q=>Zd.mpr (E1 hp) (q▸hj)
  have t:=LC.Ts (v:= .r id) (s:=⟨s1.vs,(id,.list l)::s1.os,s1.h⟩) (M:=M) (fr.pin pin) hx pin k
  have e3:tr C (fS ρ id D) M ⟨s1.vs,(id,.list l)::s1.os,s1.h⟩=⟨bU ρ C.loc s1.vs,(D,.list l)::(ay ρ s1.os++M)⟩:=
   (congr (E5 AS.mk (E5 AS.vars e)) (congr (E5 (fun a m=> (a,AO.list l)::m) e2) (E5 AS.mem e)):(⟨_,(fS ρ id D id,AO.list l)::(ay (fS ρ id D) s1.os++M)⟩:AS)=_)
  have e4:aa (fS ρ id D) (.r id)= .val (.ref D):=E5 (fun a=>AV.val (.ref a)) e2
  rw[e3,e4] at t
  exact t⟩
noncomputable def SS.XF(i:Nat)(px:Pos)(m:LC C)(it:IT C)(cF pos:Pos):SS C:=⟨.Assign [.Name (i4 C.cc i).1 px] (m.expr it cF) pos,
 fun s K=>oR (ka C.cc i) fun p=>eE (p.2.1== .cell) (m.run Option.none it s fun l s1=> (TN.cc i).set C (.v (.lst l)) s1 fun s2=>K .next s2),
 fun {ρ env M s K} fr h=>by
  obtain⟨p,hp,h⟩:=b6 h
  obtain⟨hk,h⟩:=aq h
  obtain⟨cs,N,_⟩:=fr.N
  have Nm:p.2.1= .cell:=by cases e:p.2.1 <;> first | rfl |(rw[e] at hk;cases hk)
  have hm:=(fr.hc _ (bW hp)).1
  rw[Nm] at hm
  have kd:env.kindOf (i4 C.cc i).1=some .cell:=by rw[eX hp];exact N.ne hm (by decide)
  refine a8 (bz ((SE.lc m it cF).ok (K:=fun v s1=> (TN.cc i).set C v s1 fun s2=>K .next s2) fr h) fun v s1 h=>gm (G:=fun O st=>PF C ρ M K .next st) (TN.ok (t:= .cc i) fr h) fun s h=>pf (f:= .next) h) ?_
  show pure (env.blockKind==ScopeKind.function&& (env.kindOf (i4 C.cc i).1==some NameKind.local)&&_&&_)=pure false
  rw[kd,show(some NameKind.cell==some NameKind.local)=false from rfl,aa8,abN,abN]⟩
def Qv(g:Gd)(fv:RV)(xs:List AV)(m:List Addr→Mem):Prop:= ∀(ρ:dz) (vars:cI) (mem:Mem) (Q:AV→AS→Prop) (a:Addr),(∀(x d:Addr) (mm:Mem),mm.Perm (m [x,d,a]++mem)→Q (.val (.ref x)) ⟨vars,mm⟩)→bB g (aa ρ fv) [.val (.ref a)] [] [] ⟨vars,(a,.list xs)::mem⟩ Q
theorem PA.weak{ids:List Nat}{K:RV→S→Prop}{st bH:AS}(w:Wk C.g st bH)(h:PA C ρ M ids K a bH):PA C ρ M ids K a st:=by obtain⟨p,w',k⟩:=h;exact .mk p (w.trans w') k
noncomputable def SA.T5(k:Nat)(i:Nat)(fp:Pos)(es:List (SE C))(lp pos:Pos):SA C where
 e:= .Call (.Name (i4 C.gx i).1 fp) [.List (fM es) lp] [] pos
 ids:=[k,k+1,k+2]
 sw:=true
 ev s K:=(SE.oA i fp:SE C).ev s fun f s1=>uq es s1 fun rs s2=>s_ rs fun xs=>Lp s2 fun O m s3=>eE (vc xs.length&& (s3.off k&& (s3.off (k+1)&&s3.off (k+2)))) (Qv C.g f xs m∧K (.r k) ⟨s3.vs,(k,.any 3 m)::s3.os,s3.h⟩)
 ok {ρ env M s K} fr h:=fx (bz ((SE.oA i fp:SE C).ok fr h) fun f s1 h=>aC (gf (lM (eA fr lp h) fun rs s2 h=>jL (P:=fun xs=>io xs (tr C ρ M s2) fun a aD=>W0 C.g aQ (spliced (backTo pos (starEach [] env))) aD fun as aK=>bB C.g (aa ρ f) (a::as) [] [] aK (PA C ρ M [k,k+1,k+2] K)) h fun xs h=>xt h fun x m kk h=>by
  obtain⟨hc,hN,hK⟩:=aq h
  obtain⟨Nn,Rz⟩:=E2.mp hc
  exact⟨fB Nn,fun a=>aB (hN ρ (tr C ρ M s2).vars (tr C ρ M s2).mem _ a fun x d mm hp=> (xu (s:=⟨s2.vs,s2.os,kk⟩) Rz hK x d a).weak (Wk.perm hp))⟩)) rfl) rfl rfl (.inr ⟨_,_,rfl,rfl⟩)
 st _ _:=rfl
 sp _ _ _ _:=rfl
end
end
end
section
theorem zn{C N:Addr}{mN}{am:Nat→Addr}{pN pV d0:Addr}(H:oQ g C N mN am pN pV d0)(hn:2≤g.n)(x dx a:Addr)(l:List (Str×Str))(hl:∀p∈l,bN p.1=true∧bN p.2=true)(mem:Mem)(Q:AV→Mem→Prop)(h:Q .none ((x,.shell C dx)::(dx,.inst .none [(Str.ofString "_headers",.val (.ref a))])::(a,.list (gL l))::mem)):WC g (.val (.ref (am 0))) [.val (.ref x),.val (.ref a)] [] [] ((x,.shell C dx)::(dx,.inst .none [])::(a,.list (gL l))::mem) Q:=by
 refine mM (YN hn) H.f0 [(Str.ofString "self",NameKind.local),(Str.ofString "headers",NameKind.local),(Str.ofString "k",NameKind.local),(Str.ofString "v",NameKind.local),(Str.ofString "type",globalImplicit),(Str.ofString "list",globalImplicit)] [.val (.ref x),.val (.ref a)] rfl rfl (Gw H.d0) (by kernel_rfl!) fun g' L env bl e N' kd O=>?_
 have H':=H.bS bl.bS
 have G:=H'.G
 have ht:(!(Value.type "list" ==Value.type "list"))=false:=rfl
 have hX:=H'.cls
 have Px:=H'.m1
 have Py:=H'.fn 1 (.inr (.inl rfl))
 have Pz:=qO
 refine ah (a8 (jt (aN (aA N' (mg 1 rfl) (fW e (mg 1 rfl) (qe (u4 (aM (An (aA N' (mg 1 rfl) (fW e (mg 1 rfl) (cQ N' (mg 1 rfl) (iX e (.there .here) (a9 (ah (oK (aN (fx (aA N' (mg 4 rfl) (Ao e G (mg 0 rfl) (aC (aA N' (mg 1 rfl) (fW e (mg 1 rfl) (aB (dL (nB (mg 2 rfl) (aA N' (mg 5 rfl) (Ao e G (mg 2 rfl) (AY (aM (Jk ‹_› (ba (a9 (ah (i3 (aA N' (mg 1 rfl) (fW e (mg 1 rfl) (aA N' (mg 0 rfl) (fW e (mg 0 rfl) ?_)))) (by kernel_rfl!))))))))))))))) (by kernel_rfl!)))) (by kernel_rfl!) (by kernel_rfl!) (.inr ⟨_,_,rfl,by kernel_rfl!⟩)) (by kernel_rfl!))))))))))))))) (by kernel_rfl!))) (by kernel_rfl!))
 refine m8 hX H'.mh gn (mg 0 rfl) (Upd.there Upd.here) ?_
 refine a9 (ah (oK (bw (gR (aM (An (ah (wK (aA N' (mg 1 rfl) (fW e (mg 1 rfl) ?_)) (fun O=>by kernel_rfl!)))))) (by kernel_rfl!))))
 refine wL (mO (mg 2 rfl)) trivial (fun i st=> ∃o1 o2,st=⟨[(Str.ofString "self",some (AV.val (Value.ref x))),(Str.ofString "headers",some (.val (.ref a))),(Str.ofString "k",o1),(Str.ofString "v",o2)],(x,AO.shell C dx)::(dx,AO.inst Value.none [(Str.ofString "_headers",.val (.ref a))])::(a,AO.list (gL l))::mem⟩) ⟨_,_,rfl⟩ (fun i st hi=>?_) ?_ ?_
 ·obtain⟨_,_,rfl⟩:=hi
  exact mg 2 rfl
 ·rintro i y st hy ⟨o1,o2,rfl⟩
  obtain⟨p,hp,rfl⟩:∃p∈l,y= .tup [.str p.1,.str p.2]:=by
   have:=YC hy
   unfold gL at this
   obtain⟨p,hp,e⟩:=U0.mp this
   exact⟨p,hp,e.symm⟩
  obtain⟨k1,k2⟩:=hl p hp
  refine eU (mQ (b8 (cQ N' (mg 2 rfl) (iX e (.there (.there .here)) (mQ (b8 (cQ N' (mg 3 rfl) (iX e (.there (.there (.there .here))) (wO (ah (jH (jx (aA N' (mg 0 rfl) (fW e (mg 0 rfl) (jy (mZ hX (mg 0 rfl) (mg 1 rfl) Px Py (by kernel_rfl!) Pz) (aC (aA N' (mg 2 rfl) (fW e (mg 2 rfl) (aB (gR ?_)))) (by kernel_rfl!))))) (fun O=>by kernel_rfl!) (by kernel_rfl!) (by kernel_rfl!) (by kernel_rfl!) (.inr ⟨_,_,rfl,by kernel_rfl!⟩)) (b4 ‹_›) (by kernel_rfl!))))))) rfl)))) rfl) rfl rfl
  refine cY (eZ H' (by rw[bl.n];omega) k1 true _ _ _ ?_)
  refine And.intro (.str _) (a9 (ah (jH (jx (aA N' (mg 0 rfl) (fW e (mg 0 rfl) (jy (mZ hX (mg 0 rfl) (mg 1 rfl) Px Py (by kernel_rfl!) Pz) (aC (aA N' (mg 3 rfl) (fW e (mg 3 rfl) (aB (gR ?_)))) (by kernel_rfl!))))) (fun O=>by kernel_rfl!) (by kernel_rfl!) (by kernel_rfl!) (by kernel_rfl!) (.inr ⟨_,_,rfl,by kernel_rfl!⟩)) (b4 ‹_›) (by kernel_rfl!))))
  refine cY (eZ H' (by rw[bl.n];omega) k2 false _ _ _ ?_)
  refine And.intro (.str _) (a9 (ba ?_))
  exact⟨_,_,rfl⟩
 ·rintro st ⟨o1,o2,rfl⟩
  refine a9 (ba (a9 (ba ?_)))
  exact⟨_,aap _,h⟩
theorem T6(X:cH y g)(hn:3≤g.n){l:List (Str×Str)}(hl:∀p∈l,bN p.1=true∧bN p.2=true):Qv g (.v (.val (.ref (y.ad 100)))) (gL l) (fU l (y.ad 100)):=fun ρ vars mem Q a h=>
 pE (E4 (by decide) hn) X.hk.cls X.hk.m0 (X.hk.fn 0 (.inl rfl)) fun x dx vs=>zn (X.hk.bS pR) (YY hn) x dx a l hl mem _ ⟨rfl,h x dx _ (List.perm_append_comm (l₁:=[(x,AO.shell (y.ad 100) dx),(dx,AO.inst .none [(Str.ofString "_headers",.val (.ref a))])]) (l₂:=[(a,AO.list (gL l))]) |>.append_right mem)⟩
end
section
section
noncomputable def rV(y:Lay):Cx:=Jh y [("script",.cell),("k",.local),("cells",.cell),("told",.cell),("names",.local),("signs",.local),("passed",.local),("roads",.local),("hues",.cell),("order",.cell),("table",.cell),("second",.cell),("row",.cell),("due",.local),("pairs",.local),("ways",.local),("follow",.local),("square",.cell),("wholes",.local),("pick",.cell),("some",.local),("whole",.local),("middle",.local)] [("script",.cell,10),("cells",.cell,11),("told",.cell,12),("hues",.cell,13),("order",.cell,14),("table",.cell,15),("second",.cell,16),("row",.cell,17),("square",.cell,18),("pick",.cell,19)] [9,22,1,23,10,24,25,31,6,14,26,29,27,30,28] true
noncomputable def JF(y:Lay):Cx:=⟨[(".0",.local),("k",.local),("base",.local),("sum",.globalImplicit),("script",.free)],[".0","k","base"],[("script",.free,10)],[2],GX y,30,false,[]⟩
noncomputable def Qw(y:Lay):Cx:=cx y [".0","x"] [] [] false
noncomputable def C3(y:Lay)(g:Gd):LC ⟨JF y,g⟩:=⟨Qw y,fun g=> (.n (.loc 1) 347 41),fun g=>[],fun g=> (.mod (.lo 1 347 25) (.pow (.nt 10 347 29) (.nt 6 347 35))),[],rfl,rfl,fun O=>rfl,fun O=>rfl,fun O=>rfl⟩
noncomputable def C4(y:Lay)(g:Gd):LC ⟨rV y,g⟩:=⟨JF y,fun g=> (.K8 [(.n (.loc 1) 347 70),(.n (.loc 2) 347 73)]),fun g=>[],fun g=> (.add (.lo 2 347 13) (.cl 2 347 20 [(.lc (C3 y g) (.of (.get (.get (.ce 0 347 46) (.iJ .none (some (.nt 60 347 54)) .none)) (.iJ (some (.lo 1 347 58)) .none (some (.nt 6 347 61)) (q 347 58 62)))) (q 347 24 64))])),[],rfl,rfl,fun O=>rfl,fun O=>rfl,fun O=>by kernel_rfl!⟩
noncomputable def Qx(y:Lay):Cx:=cx y [".0","k","letter"] [("cells",.free,11)] [] false
noncomputable def C5(y:Lay)(g:Gd):LC ⟨rV y,g⟩:=⟨Qx y,fun g=> (.K8 [(.n (.loc 1) 349 70),(.n (.loc 2) 349 73)]),fun g=>[],fun g=> (.yR (.md (.div (.get (.ce 0 349 31) (.nt 2 349 37)) (.pow (.nt 2 349 43) (.lo 1 349 48))) 2 52) (.mt (.lo 2 349 13) .upper []) (.lo 2 349 59)),[],rfl,rfl,fun O=>rfl,fun O=>rfl,fun O=>by kernel_rfl!⟩
noncomputable def Qy(y:Lay):Cx:=cx y [".0","k"] [("cells",.free,11)] [] false
noncomputable def C6(y:Lay)(g:Gd):LC ⟨rV y,g⟩:=⟨Qy y,fun g=> (.n (.loc 1) 350 65),fun g=>[],fun g=> (.y5 (.add (.get (.ce 0 350 14) (.nt 3 350 20)) (.mul (.lo 1 350 25) (.add (.nt 1 350 30) (.md (.dv (.get (.ce 0 350 34) (.nt 3 350 40)) 48 46) 47 51)) (q 350 25 54))) 48 0 (q 350 58 60) (q 350 13 60)),[],rfl,rfl,fun O=>rfl,fun O=>rfl,fun O=>by kernel_rfl!⟩
noncomputable def Qz(y:Lay):Cx:=cx y [".0","name","sign"] [("told",.free,12)] [] false
noncomputable def C7(y:Lay)(g:Gd):LC ⟨rV y,g⟩:=⟨Qz y,fun g=> (.K8 [(.n (.loc 1) 351 61),(.n (.loc 2) 351 67)]),fun g=>[],fun g=> (.add (.lo 1 351 39) (.get (.ce 0 351 46) (.lo 2 351 51))),[],rfl,rfl,fun O=>rfl,fun O=>rfl,fun O=>rfl⟩
noncomputable def QA(y:Lay):Cx:=cx y [".0","sign"] [] [] false
noncomputable def C8(y:Lay)(g:Gd):LC ⟨rV y,g⟩:=⟨QA y,fun g=> (.n (.loc 1) 352 51),fun g=>[],fun g=> (.add (.int 208 0 (q 352 36 39)) (.lo 1 352 42)),[],rfl,rfl,fun O=>rfl,fun O=>rfl,fun O=>rfl⟩
noncomputable def C9(y:Lay)(g:Gd):TG ⟨rV y,g⟩:=(.n (.loc 0) 356 8)
noncomputable def C_(y:Lay)(g:Gd):SB ⟨rV y,g⟩:=(.cons (.exp (.xv (.ce 5 357 8) "add_header" (q 357 8 24) [(.get (.lo 1 357 25) (.lo 0 357 31)),(.cl 6 357 35 [(.get (.ce 3 357 39) (.lo 0 357 44))])] (q 357 8 48)))<|(.cons (.exp (.xv (.ce 6 358 8) "add_header" (q 358 8 25) [(.get (.lo 1 358 26) (.lo 0 358 32)),(.get (.lo 1 358 36) (.y5 (.add (.lo 0 358 43) (.nt 1 358 47)) 10 0 (q 358 52 54) (q 358 42 54)))] (q 358 8 56)))<|(.cons (.exp (.cl 14 359 8 [(.ce 7 359 20),(.get (.ce 3 359 25) (.lo 0 359 30))]))<| .nil)))
noncomputable def QB(y:Lay):Cx:=⟨[(".0",.local),("k",.local),("str",.globalImplicit),("hues",.free),("order",.free)],[".0","k"],[("hues",.free,13),("order",.free,14)],[6],GX y,30,false,[]⟩
noncomputable def C'(y:Lay)(g:Gd):LC ⟨rV y,g⟩:=⟨QB y,fun g=> (.n (.loc 1) 360 62),fun g=>[],fun g=> (.lst [(.cl 6 360 12 [(.get (.ce 0 360 16) (.get (.ce 1 360 21) (.add (.lo 1 360 27) (.nt 1 360 31))))]),(.cl 6 360 37 [(.get (.ce 0 360 41) (.get (.ce 1 360 46) (.lo 1 360 52)))])]),[],rfl,rfl,fun O=>rfl,fun O=>rfl,fun O=>by kernel_rfl!⟩
noncomputable def QC(y:Lay):Cx:=cx y [".0","letter"] [("table",.free,15)] [] false
noncomputable def Da(y:Lay)(g:Gd):LC ⟨rV y,g⟩:=⟨QC y,fun g=> (.n (.loc 1) 361 48),fun g=>[],fun g=> (.xv (.ce 0 361 22) "get_all" (q 361 22 35) [(.lo 1 361 36)] (q 361 22 43)),[],rfl,rfl,fun O=>rfl,fun O=>rfl,fun O=>rfl⟩
noncomputable def JG(y:Lay):Cx:=cx y [".0","pair"] [] [5] false
noncomputable def Mb(y:Lay):Cx:=cx y [".0","hue"] [] [7] false
noncomputable def Db(y:Lay)(g:Gd):LC ⟨JG y,g⟩:=⟨Mb y,fun g=> (.n (.loc 1) 363 34),fun g=>[],fun g=> (.cl 7 363 21 [(.lo 1 363 25)]),[],rfl,rfl,fun O=>rfl,fun O=>rfl,fun O=>rfl⟩
noncomputable def Dc(y:Lay)(g:Gd):LC ⟨rV y,g⟩:=⟨JG y,fun g=> (.n (.loc 1) 363 52),fun g=>[],fun g=> (.cl 5 363 13 [(.lc (Db y g) (.of (.lo 1 363 41)) (q 363 20 46))]),[],rfl,rfl,fun O=>rfl,fun O=>rfl,fun O=>rfl⟩
noncomputable def Dd(y:Lay):Cx:=cx y [".0","letter"] [("second",.free,16)] [] false
noncomputable def Mc(y:Lay):Cx:=cx y [".0","name"] [] [] false
noncomputable def vR(y:Lay)(g:Gd):LC ⟨Dd y,g⟩:=⟨Mc y,fun g=> (.n (.loc 1) 364 30),fun g=>[],fun g=> (.mt (.lo 1 364 13) .lower []),[],rfl,rfl,fun O=>rfl,fun O=>rfl,fun O=>rfl⟩
noncomputable def vS(y:Lay)(g:Gd):LC ⟨rV y,g⟩:=⟨Dd y,fun g=> (.n (.loc 1) 364 66),fun g=>[],fun g=> (.lc (vR y g) (.of (.xv (.ce 0 364 38) "get_all" (q 364 38 52) [(.lo 1 364 53)] (q 364 38 60))) (q 364 12 61)),[],rfl,rfl,fun O=>rfl,fun O=>rfl,fun O=>rfl⟩
noncomputable def Md(y:Lay):Cx:=⟨[(".0",.local),("hue",.local),("bisect_right",.globalImplicit),("row",.free)],[".0","hue"],[("row",.free,17)],[13],GX y,30,false,[]⟩
noncomputable def vT(y:Lay)(g:Gd):DC ⟨rV y,g⟩:=⟨Md y,fun g=> (.nm (.loc 1) (q 365 56 59)),fun g=> (.loc 1 (q 365 14 17)),fun g=> (.get (.cc 0 (q 365 19 22)) (.y5 (.call 13 (q 365 23 35) [(.cc 0 (q 365 36 39)),(.loc 1 (q 365 41 44))] (q 365 23 45)) 10 0 (q 365 48 50) (q 365 23 50)) (q 365 19 51)),[],rfl,rfl,fun O=>rfl,fun O=>rfl,fun O=>rfl⟩
noncomputable def Me(y:Lay):Cx:=cx y [".0","k"] [("pick",.free,19)] [] false
noncomputable def vU(y:Lay)(g:Gd):LC ⟨rV y,g⟩:=⟨Me y,fun g=> (.n (.loc 1) 368 22),fun g=>[(.band (.shr (.ce 0 368 39) (.lo 1 368 47)) (.nt 1 368 51))],fun g=> (.lo 1 368 16),[],rfl,rfl,fun O=>rfl,fun O=>rfl,fun O=>rfl⟩
noncomputable def vV(y:Lay)(g:Gd):TG ⟨rV y,g⟩:=(.n (.cc 9) 367 8)
noncomputable def vW(y:Lay)(g:Gd):SB ⟨rV y,g⟩:=(.cons (.Jf 10 (q 368 8 12) (vU y g) (.of (.cl 1 368 27 [(.nt 5 368 33)])) (q 368 15 53) (q 368 8 53))<|(.cons (.ag (.loc 11) 369 8 (.yR (.eq (.cl 29 369 21 [(.lo 10 369 32),(.lo 6 369 38),(.lo 8 369 45)]) (.nt 10 369 56)) (.nt 1 369 16) (.nt 0 369 64)))<|(.cons (.ite (.or [(.ne (.pow (.cl 27 370 11 [(.lo 10 370 25),(.ce 8 370 31)]) (.nt 2 370 42)) (.lo 11 370 47)),(.ne (.get (.get (.ce 8 370 56) (.md (.ce 9 370 63) 5 70)) (.md (.ce 9 370 73) 5 80)) (.nt 0 370 86))]) (.cons (.ret (.bool false 0 (q 371 19 24)))<| .nil) .nil ⟨370,8,371,24⟩)<|(.cons (.au (.loc 9) 372 8 (.lo 11 372 18))<| .nil))))
noncomputable def De(y:Lay):Cx:=⟨[(".0",.local),("i",.cell),("range",.globalImplicit),("square",.free)],[".0"],[("i",.cell,29),("square",.free,18)],[1],GX y,30,false,[]⟩
noncomputable def Mf(y:Lay):Cx:=cx y [".0","j"] [("i",.free,29),("square",.free,18)] [] false
noncomputable def vX(y:Lay)(g:Gd):LC ⟨De y,g⟩:=⟨Mf y,fun g=> (.n (.loc 1) 373 55),fun g=>[],fun g=> (.add (.get (.get (.ce 1 373 15) (.ce 0 373 22)) (.lo 1 373 25)) (.yR (.eq (.ce 0 373 36) (.lo 1 373 41)) (.nt 1 373 31) (.nt 0 373 48)) (q 373 15 50)),[],rfl,rfl,fun O=>rfl,fun O=>rfl,fun O=>by kernel_rfl!⟩
noncomputable def vY(y:Lay)(g:Gd):LC ⟨rV y,g⟩:=⟨De y,fun g=> (.n (.cc 0) 373 74),fun g=>[],fun g=> (.lc (vX y g) (.of (.cl 1 373 60 [(.nt 5 373 66)])) (q 373 14 69)),[],rfl,rfl,fun O=>rfl,fun O=>rfl,fun O=>by kernel_rfl!⟩
noncomputable def VF(y:Lay)(g:Gd):SB ⟨rV y,g⟩:=(.cons (.XF 1 (q 347 4 9) (C4 y g) (.enum 9 (q 347 81 90) (.tup [(.int 500 0 (q 347 92 95)),(.nt 3 347 97),(.int 677 0 (q 347 100 103)),(.nt 28 347 105),(.int 1000 0 (q 347 109 113)),(.nt 2 347 115)]) (q 347 81 118)) (q 347 12 119) (q 347 4 119))<|(.cons (.ag (.cc 2) 348 4 (.mt (.st "( ) [ ] : , ; + - * / | & < > = . % { } == != <= >= ~ ^ << >> ** += -= *= /= %= &= |= ^= <<= >>= **= // //= @ @= -> ... := !" 348 11) .split []))<|(.cons (.Jf 1 (q 349 4 9) (C5 y g) (.enum 9 (q 349 83 92) (.cl 22 349 93 [(.get (.ce 1 349 103) (.nt 0 349 109)),(.get (.ce 1 349 113) (.nt 1 349 119))]) (q 349 83 123)) (q 349 12 124) (q 349 4 124))<|(.cons (.Jf 2 (q 350 4 9) (C6 y g) (.of (.cl 1 350 70 [(.nt 10 350 76)])) (q 350 12 80) (q 350 4 80))<|(.cons (.Vd [(.n (.loc 3) 351 4),(.n (.loc 4) 351 12)] 0 (q 351 4 17) (.cl 23 351 20 [(.XD (.st "" 351 30) (q 351 30 37) (.lc (C7 y g) (.zip 10 (q 351 75 78) (.lo 1 351 79) (.lo 2 351 86) (q 351 75 92)) (q 351 38 93)) (q 351 30 94))]) (q 351 4 95) (by kernel_rfl!))<|(.cons (.ite (.or [(.ne (.lo 3 352 7) (.lo 1 352 17)),(.ne (.lo 4 352 26) (.add (.lc (C8 y g) (.of (.lo 2 352 59)) (q 352 35 65)) (.lst [(.st "end" 352 69)])))]) (.cons (.ret (.bool false 0 (q 353 15 20)))<| .nil) .nil ⟨352,4,353,20⟩)<|(.cons (.mul [(.n (.cc 3) 354 4),(.n (.cc 4) 354 10)] 0 (q 354 4 15) [(.of (.cl 24 354 19 [(.lo 3 354 29),(.get (.ce 1 354 37) (.nt 4 354 43))])),(.of (.cl 25 354 48 [(.lo 3 354 59)]))] 0 (q 354 18 67) (q 354 4 67) (by kernel_rfl!))<|(.cons (.mul [(.n (.cc 5) 355 4),(.n (.cc 6) 355 11),(.n (.cc 7) 355 19)] 0 (q 355 4 22) [(.T5 40 31 (q 355 26 33) [(.tup [(.add (.get (.lo 1 355 36) (.nt 0 355 42)) (.get (.lo 1 355 47) (.nt 1 355 53))),(.st "" 355 57)])] (q 355 34 61) (q 355 26 62)),(.cls 44 31 (q 355 64 71) [] (q 355 64 73)),(.new 50 [] (q 355 75 77))] 0 (q 355 25 78) (q 355 4 78) (by kernel_rfl!))<|(.cons (.for (C9 y g) (.of (.cl 1 356 13 [(.nt 10 356 19)])) (C_ y g) ⟨356,4,359,33⟩)<|(.cons (.Jf 5 (q 360 4 7) (C' y g) (.of (.cl 1 360 67 [(.nt 0 360 73),(.nt 10 360 76),(.nt 2 360 80)])) (q 360 10 83) (q 360 4 83))<|(.cons (.ite (.or [(.isin (.neg (.nt 1 361 8)) (.ce 3 361 13)),(.ne (.lc (Da y g) (.of (.st "AbCdE" 361 58)) (q 361 21 66)) (.lo 5 361 70))]) (.cons (.ret (.bool false 0 (q 362 15 20)))<| .nil) .nil ⟨361,4,362,20⟩)<|(.cons (.Jf 6 (q 363 4 9) (Dc y g) (.of (.lo 5 363 60)) (q 363 12 64) (q 363 4 64))<|(.cons (.Jf 7 (q 364 4 8) (vS y g) (.of (.st "aBcDe" 364 76)) (q 364 11 84) (q 364 4 84))<|(.Ma 7<| .cons (.Xx 8 30 (q 365 4 10) (vT y g) (.of (.ce 7 365 63)) (q 365 13 67) (q 365 4 67))<|(.cons (.mul [(.n (.cc 8) 366 4),(.n (.loc 9) 366 12)] 0 (q 366 4 18) [(.of (.cl 26 366 22 [(.lo 6 366 33)])),(.of (.nt 0 366 41))] 0 (q 366 21 43) (q 366 4 43) (by kernel_rfl!))<|(.cons (.for (vV y g) (.of (.cl 1 367 16 [(.nt 32 367 22)])) (vW y g) ⟨367,4,372,23⟩)<|(.cons (.T4 12 31 (q 373 4 10) (vY y g) "i" 29 (.of (.cl 1 373 79 [(.nt 5 373 85)])) (q 373 13 88) (q 373 4 88) (fun O O=>rfl) (fun O=>rfl))<|(.cons (.ret (.eq3 (.lo 9 374 11) (.cl 30 374 21 [(.lo 7 374 32),(.md (.get (.ce 1 374 38) (.nt 5 374 44)) 5 49)]) (.cl 28 374 55 [(.lo 12 374 72)]) (q 374 11 79)))<| .nil))))))))))))))))))
noncomputable def lz(l:List Int)(lo hi step:Option Int):List Int:=
 (sliceRange (sliceBounds lo hi step l.length).1 (sliceBounds lo hi step l.length).2.1 (sliceBounds lo hi step l.length).2.2).filterMap (l[·]?)
theorem zo(l:List Int)(lo hi step:Option Int):cu (l.map .int) lo hi step=(lz l lo hi step).map .int:=by
 unfold cu lz
 rw[E9,List.map_filterMap]
 exact E5 (fun f=>filterMap f _) (funext fun i=>V9)
theorem vZ:∀k:Nat,k<6→∀n:Nat,n<61→(sliceRange (sliceBounds (some (k:Int)) none (some 6) n).1 (sliceBounds (some (k:Int)) none (some 6) n).2.1 (sliceBounds (some (k:Int)) none (some 6) n).2.2).length≤1000:=by decide+kernel
theorem zp{l:List Int}{k:Nat}(hk:k<6)(hl:l.length<61):(lz l (some (k:Int)) none (some 6)).length≤1000:=
 E4 (aaV ..) (vZ k hk l.length hl)
noncomputable def Hr:List Int:=[500,3,677,28,1000,2]
noncomputable def EB(x:Int):Int:=x.fmod (10 ^ toNat 6)
noncomputable def fg(xs:List Int)(k:Int)(base:Int):Int:=base+((lz (xs.take 60) (some k) none (some 6)).map EB).sum
noncomputable def tX(xs:List Int)(z:AV):Option AV:=some (.int (fg xs (dC (lZ (rU z) 0)) (dC (lZ (rU z) 1))))
noncomputable def zq(z:AV):Option AV:=some (.int (EB (dC z)))
theorem tY:∀l:List Int,(l.map AV.int).filterMap zq=(l.map EB).map .int
 | []=>rfl
 | x::l=>E5 (AV.int (EB x):: ·) (tY l)
theorem nR:∀l:List Int,(∀x∈l,0≤x)→0≤l.sum
 | [],_=>Int.le_refl 0
 | x::l,h=>by rw[List.sum_cons];exact Int.add_nonneg (h x E7) (nR l fun y hy=>h y (E6 _ hy))
theorem iE(xs:List Int)(k:Int){base:Int}(hb:0≤base):0≤fg xs k base:=Int.add_nonneg hb (nR _ fun x hx=>by
  obtain⟨y,_,rfl⟩:=U0.mp hx
  exact abn _ (by decide))
theorem jW{k:Nat}:∀l:List PyData,(∀d∈l,d.canLay0=true∧d.depth≤k∧noDict d=true)→canLayAll0 l=true∧depthAll l≤k∧noDicts l=true∧mY l=l.map mX
 | [],_=> ⟨rfl,Y8 _,rfl,rfl⟩
 | d::l,h=>by
  obtain⟨a,b,c,e⟩:=jW l fun d hd=>h d (E6 _ hd)
  obtain⟨a',b',c'⟩:=h d E7
  refine⟨?_,?_,?_,?_⟩
  ·rw[canLayAll0,a',a];rfl
  ·rw[depthAll];exact Nat.max_le.mpr ⟨b',b⟩
  ·rw[noDicts,c',c];rfl
  ·rw[mY,e];rfl
theorem nS{l:List PyData}{k:Nat}(h:∀d∈l,d.canLay0=true∧d.depth≤k∧noDict d=true)(hk:k≤63):fK (.lst (l.map mX)) (.lst (l.map mX)) true:=by
 obtain⟨a,b,c,e⟩:=jW l h
 have s:shaped (.list l)=true:=E2.mpr ⟨by rw[canLay0];exact a,U5 (by rw[depth];exact abt (E4 b hk))⟩
 have o:mX (.list l)= .lst (l.map mX):=by rw[mX,e]
 have n:noDict (.list l)=true:=by rw[noDict];exact c
 exact⟨.list l,.list l,o.symm,o.symm,n,n,s,s,PySem.SeqAt.eqv_refl _ (PySem.SeqAt.canLay_of_shaped s)⟩
theorem zr{l:List Str}(h:∀x∈l,PyData.strOk x=true):fK (.lst (l.map .str)) (.lst (l.map .str)) true:=by
 have:=nS (l:=l.map .str) (k:=0) (fun d hd=>by
  obtain⟨x,hx,rfl⟩:=U0.mp hd
  exact⟨by rw[canLay0];exact h x hx,by rw[depth];exact E8 _,rfl⟩) (by decide)
 rw[V3] at this
 exact this
theorem zs{l:List (List Str)}(h:∀r∈l,∀x∈r,PyData.strOk x=true):fK (.lst (bq l)) (.lst (bq l)) true:=by
 have f:∀r∈l,∀d∈r.map PyData.str,d.canLay0=true∧d.depth≤0∧noDict d=true:=fun r hr d hd=>by
  obtain⟨x,hx,rfl⟩:=U0.mp hd
  exact⟨by rw[canLay0];exact h r hr x hx,by rw[depth];exact E8 _,rfl⟩
 have:=nS (l:=l.map fun r=> .list (r.map .str)) (k:=1) (fun d hd=>by
  obtain⟨r,hr,rfl⟩:=U0.mp hd
  obtain⟨a,b,c,_⟩:=jW _ (f r hr)
  exact⟨by rw[canLay0];exact a,by rw[depth];exact abt b,by rw[noDict];exact c⟩) (by decide)
 have e:(l.map fun r=>PyData.list (r.map .str)).map mX=bq l:=by
  rw[V3]
  refine YU fun r hr=>?_
  show mX (.list (r.map .str))=_
  rw[mX,(jW _ (f r hr)).2.2.2,V3];rfl
 rw[e] at this
 exact this
noncomputable def rj:List Nat:=[97,98,99,100,101]
noncomputable def oZ(c:Int)(k:Nat):Bool:=(c.fdiv (2 ^ k)).fmod (2:Nat) !=0
noncomputable def uu(b:Bool)(c:Nat):Nat:=cond b (c - 32) c
noncomputable def zt(c2:Int)(lo:List Nat):List Nat:=lo.zipIdx.map fun p=>uu (oZ c2 p.2) p.1
noncomputable def QD(c2:Int)(z:AV):Option AV:=some (.str (ch (uu (oZ c2 (dC (lZ (rU z) 0)).toNat) ((jf (lZ (rU z) 1)).cps.getD 0 0))))
noncomputable def T7(c2:Int)(z:AV):Hint:= .v (.int c2)<| .mv (.v (.str (ch (uu (oZ c2 (dC (lZ (rU z) 0)).toNat) ((jf (lZ (rU z) 1)).cps.getD 0 0))))) .nil .nil .nil
theorem Hs(c2:Int)(lo:List Nat):(cA (cV lo)).filterMap (QD c2)=cV (zt c2 lo):=by
 unfold cA cV zt
 rw[List.zipIdx_map,V3,V3]
 exact jT (f:=fun p:Nat×Nat=>AV.tup [.int (p.2:Nat),.str (ch p.1)]) (g:=fun p=> .str (ch (uu (oZ c2 p.2) p.1))) (fun p=>rfl) _
theorem x5(c2:Int)(lo:List Nat):(zt c2 lo).length=lo.length:=(E9 ..).trans List.length_zipIdx
theorem Df{c:Nat}(h:c∈rj):PySem.Txt.upper (ch c)=ch (c - 32):=by
 have:(rj.all fun c=>PySem.Txt.upper (ch c)==ch (c - 32))=true:=by decide+kernel
 simpa using Jb.mp this c h
theorem Dg(b:Bool){c:Nat}(h:c∈rj):uu b c∈six∧az (uu b c)=c:=by
 have:(rj.all fun c=>decide (uu true c∈six∧az (uu true c)=c)&&decide (uu false c∈six∧az (uu false c)=c))=true:=by decide+kernel
 have:=E2.mp (Jb.mp this c h)
 cases b
 ·exact U9 this.2
 ·exact U9 this.1
theorem Mg{c2:Int}{lo:List Nat}{i:Nat}(hi:i<lo.length):(zt c2 lo)[i]? =some (uu (oZ c2 i) (lo.getD i 0)):=by
 unfold zt
 rw[V9,abC,U6 hi,U3,U6 hi]
 show some (uu (oZ c2 (0+i)) _)=_
 rw[Zw];rfl
noncomputable def Ht(c3 k:Int):Int:=(c3+k*(1+(c3.fdiv (48:Nat)).fmod (47:Nat))).fmod (48:Nat)
noncomputable def Dh(c3:Int)(z:AV):Option AV:=some (.int (Ht c3 (dC z)))
noncomputable def Di(c3:Int):List Int:=(List.range 10).map fun k:Nat=>Ht c3 k
theorem x6(c3 k:Int):0≤Ht c3 k∧Ht c3 k<((48:Nat):Int):=⟨Lo (by decide),RC (by decide)⟩
noncomputable def QE(z:AV):Option AV:=some (.str (jf (lZ (rU z) 0)++aT.getD (dC (lZ (rU z) 1)).toNat ⟨#[]⟩))
noncomputable def QF(lv:List Nat)(sg:List Int):List Str:=(lv.zip sg).map fun p=>ch p.1++aT.getD p.2.toNat ⟨#[]⟩
theorem Hu(lv:List Nat)(sg:List Int):(lH (cV lv) (sg.map .int)).filterMap QE=(QF lv sg).map .str:=by
 unfold lH cV QF
 rw[List.zip_map,V3,V3]
 exact jT (f:=fun p:Nat×Int=>AV.tup [.str (ch p.1),.int p.2]) (g:=fun p=> .str (ch p.1++aT.getD p.2.toNat ⟨#[]⟩)) (fun p=>rfl) _
noncomputable def cO(lv:List Nat)(sg:List Int):List Str:=(lv.zip sg).flatMap fun p=>[ch p.1,aT.getD p.2.toNat ⟨#[]⟩]
theorem tZ:∀k:Nat,k<48→(aT.getD k ⟨#[]⟩).length≤3:=by decide+kernel
noncomputable def Nz(z:AV):Option AV:=some (.int (((208:Nat):Int)+dC z))
theorem Hv(l:List Int):(l.map AV.int).filterMap Nz=(l.map fun s=> ((208:Nat):Int)+s).map .int:=(jT (F:=Nz) (f:=AV.int) (g:=fun s:Int=> .int (((208:Nat):Int)+s)) (fun s:Int=>rfl) l).trans (V3 (g:=AV.int) (f:=fun s:Int=> ((208:Nat):Int)+s)).symm
section
variable {y:Lay}{g:Gd}{xs:List Int}
noncomputable def jn(xs:List Int)(ce to hu od ta se ro sq pi:Option RV):Os:=[(19,.cell pi),(18,.cell sq),(17,.cell ro),(16,.cell se),(15,.cell ta),(14,.cell od),(13,.cell hu),(12,.cell to),(11,.cell ce),(10,.cell (some (.v (.lst (xs.map .int)))))]
theorem Dj(os:Os)(l:List Int):(C3 y g).turn os zq (fun O=> .nil) (l.map .int):=fun g' b z hz=>by
 obtain⟨x,hx,rfl⟩:=U0.mp hz
 refine aR (P:=0≤((6:Nat):Int)∧(↑(Builtin.Int.intBits ((10:Nat):Int)):Int)*((6:Nat):Int)≤2 ^ 27∧((10:Nat):Int) ^ 6≠0∧rf (zq (AV.int x))∧rf os)
  ⟨by decide,by decide+kernel,by decide,rfl,rfl⟩ (by kernel_rfl!)
noncomputable def Dk(xs:List Int)(z:AV):Hint:=
 let k:=dC (lZ (rU z) 0)
 .v (.lst ((xs.take 60).map .int))<| .v (.lst ((lz (xs.take 60) (some k) none (some 6)).map .int))<| .f zq (fun O=> .nil)<| .v (.lst (((lz (xs.take 60) (some k) none (some 6)).map EB).map .int))<| .v (.int ((lz (xs.take 60) (some k) none (some 6)).map EB).sum) .nil
noncomputable abbrev fE(xs:List Int)(k:Nat):=lz (take 60 xs) (some (↑k:Int)) none (some (6:Int))
theorem zu(hx:xs.length≤63):(C4 y g).turn (jn xs none none none none none none none none none) (tX xs) (Dk xs) (cA (Hr.map .int)):=fun g' b z hz=>by
 obtain⟨k,c,rfl,hc⟩:=tC hz
 obtain⟨e,he,rfl⟩:=U0.mp (YC hc)
 have hk:k<6:=(V7.mp hc).1
 refine aR (P:=SL (map AV.int xs)∧AV.lst (cu (map AV.int xs) none (some ((60:Nat):Int)) none)= .lst (map .int (take 60 xs))∧SL (map AV.int (take 60 xs))∧AV.lst (cu (map AV.int (take 60 xs)) (some (↑k:Int)) none (some ((6:Nat):Int)))= .lst (map .int (fE xs k))∧SL (map AV.int (fE xs k))∧LC.bV (C3 y g') none (elim none (jn xs none none none none none none none none none) fun(q:Str×Nat)=> (snd q,EO.cell none)::jn xs none none none none none none none none none) zq (fun O=> .nil) (map AV.int (fE xs k))∧filterMap zq (map AV.int (fE xs k))=map .int (map EB (fE xs k))∧SumTo (map AV.int (map EB (fE xs k))) (AV.int (List.sum (map EB (fE xs k))))∧tX xs (AV.tup [.int ↑k,AV.int e])=some (.int (e+List.sum (map EB (fE xs k))))∧(elim none (jn xs none none none none none none none none none) fun(q:Str×Nat)=> (snd q,EO.cell none)::jn xs none none none none none none none none none)=jn xs none none none none none none none none none) ?_ (by kernel_rfl!)
 have tk:(xs.take 60).length<61:=by rw[ZN];exact Z4 (Nat.min_le_left ..)
 exact⟨sz (ar hx) rfl,Pv xs 60,sz (ar (Yy tk)) rfl,hJ (zo ..),sz (ar (zp hk tk)) rfl,Dj _ _,tY _,⟨_,rfl,rfl⟩,rfl,rfl⟩
theorem zw{ce:List Int}{to hu od ta se ro sq pi:Option RV}{c2:Int}(RN:ce.length=6)(hc:bT (ce.map .int) ((2:Nat):Int)=some (.int c2))(lo:List Nat)(h5:∀c∈lo,c∈rj)(hl:lo.length=10):
  (C5 y g).turn (jn xs (some (.v (.lst (ce.map .int)))) to hu od ta se ro sq pi) (QD c2) (T7 c2) (cA (cV lo)):=fun g' b z hz=>by
 obtain⟨k,c,rfl,hk⟩:=tC hz
 obtain⟨e,he,rfl⟩:=U0.mp (YC hk)
 have hk:k<10:=by
  have:=(V7.mp hk).1
  rw[cV,E9,hl] at this;exact this
 have h2:((2:Nat):Int) ^ k=((2 ^ k:Nat):Int):=(Int.natCast_pow 2 k).symm
 have p0:0<2 ^ k:=Nat.pow_pos (by decide)
 have p1:2 ^ k<1073741824:=U2 (Nat.pow_lt_pow_right (by decide) hk) (by decide)
 refine aR (P:=SL (map AV.int ce)∧AG (map .int ce) ((2:Nat):Int) (.int c2)∧(0:Int)≤(↑k:Int)∧(↑(Builtin.Int.intBits ((2:Nat):Int)):Int)*(↑k:Int)≤(2:Int) ^ 27∧((2:Nat):Int) ^ k≠(0:Int)∧natAbs (((2:Nat):Int) ^ k)<1073741824∧((fmod (fdiv c2 (((2:Nat):Int) ^ k)) ((2:Nat):Int) !=(0:Int))=true→Str.length (ch e)≤5592405∧VI (.str (Txt.upper (ch e))) (.str (ch (uu (oZ c2 k) (Array.getD (Str.cps (ch e)) 0 0))))∧rf (S.mk [none,some (.v (.int ↑k)),some (.v (.str (ch e)))] (elim none (jn xs (some (.v (.lst (map AV.int ce)))) to hu od ta se ro sq pi) fun(q:Str×Nat)=> (snd q,EO.cell none)::jn xs (some (.v (.lst (map AV.int ce)))) to hu od ta se ro sq pi) .nil))∧((fmod (fdiv c2 (((2:Nat):Int) ^ k)) ((2:Nat):Int) !=(0:Int))=false→VI (.str (ch e)) (.str (ch (uu (oZ c2 k) (Array.getD (Str.cps (ch e)) 0 0))))∧rf (S.mk [none,some (.v (.int ↑k)),some (.v (.str (ch e)))] (elim none (jn xs (some (.v (.lst (map AV.int ce)))) to hu od ta se ro sq pi) fun(q:Str×Nat)=> (snd q,EO.cell none)::jn xs (some (.v (.lst (map AV.int ce)))) to hu od ta se ro sq pi) .nil))∧rf (QD c2 (AV.tup [.int ↑k,AV.str (ch e)]))∧rf (jn xs (some (.v (.lst (map AV.int ce)))) to hu od ta se ro sq pi))
  ⟨sz (ar (U8 RN)) rfl,hc,V6 k,?_,by rw[h2];exact nz p0,by rw[h2];exact p1,fun h=> ⟨E1 rfl,?_,rfl⟩,fun h=> ⟨?_,rfl⟩,rfl,rfl⟩ (by kernel_rfl!)
 ·exact Zl.mpr (E4 (Y6 _ (Yy hk)) (by decide+kernel:Builtin.Int.intBits ((2:Nat):Int)*10≤2 ^ 27))
 ·rw[Df (h5 e he)]
  exact E5 (fun b=>RV.v (.str (ch (uu b e)))) (show true=oZ c2 k from h.symm)
 ·exact E5 (fun b=>RV.v (.str (ch (uu b e)))) (show false=oZ c2 k from h.symm)
theorem Dl{ce:List Int}{to hu od ta se ro sq pi:Option RV}{c3:Int}(RN:ce.length=6)(hc:bT (ce.map .int) ((3:Nat):Int)=some (.int c3)):
  (C6 y g).turn (jn xs (some (.v (.lst (ce.map .int)))) to hu od ta se ro sq pi) (Dh c3) (fun O=> .v (.int c3)<| .v (.int c3) .nil) (aJ 0 ((10:Nat):Int) 1):=fun g' b z hz=>by
 obtain⟨i,hg⟩:=Y7.mp hz
 obtain⟨hi,rfl⟩:=dm hg
 refine aR (P:=SL (map AV.int ce)∧AG (map .int ce) ((3:Nat):Int) (.int c3)∧SL (map AV.int ce)∧AG (map .int ce) ((3:Nat):Int) (.int c3)∧IntMulOk ↑i (((1:Nat):Int)+fmod (fdiv c3 ((48:Nat):Int)) ((47:Nat):Int))∧rf (Dh c3 (AV.int ↑i))∧rf (jn xs (some (.v (.lst (map AV.int ce)))) to hu od ta se ro sq pi))
  ⟨sz (ar (U8 RN)) rfl,hc,sz (ar (U8 RN)) rfl,hc,LU (show i<1000000 from YB hi (by decide)),rfl,rfl⟩ (by kernel_rfl!)
theorem Hw{ce hu od ta se ro sq pi:Option RV}(lv:List Nat)(sg:List Int)(Mh:∀s∈sg,0≤s∧s<((48:Nat):Int)):
  (C7 y g).turn (jn xs ce (some (.v (.lst (aT.map .str)))) hu od ta se ro sq pi) QE (fun z=> .v (.str (aT.getD (dC (lZ (rU z) 1)).toNat ⟨#[]⟩)) .nil) (lH (cV lv) (sg.map .int)):=fun g' b z hz=>by
 obtain⟨i,hi⟩:=Y7.mp hz
 obtain⟨a,c,h1,h2,rfl⟩:=sH hi
 obtain⟨e,he,rfl⟩:=U0.mp (YC h1)
 obtain⟨s,hs,rfl⟩:=U0.mp (YC h2)
 have s0:=(Mh s hs).1
 have s1:s.toNat<48:=toNat_lt (Mh s hs).1 (Mh s hs).2
 have e1:bT (aT.map AV.str) s=some (.str (aT.getD s.toNat ⟨#[]⟩)):=by
  have:=aO (f:=AV.str) (l:=aT) ⟨#[]⟩ s1
  rw[Y5 s0] at this
  exact this
 refine aR (P:=SL (map AV.str aT)∧_∧Str.length (ch e)+Str.length (List.getD aT (toNat s) (Str.mk #[]))≤sizeLine∧rf (QE (AV.tup [.str (ch e),AV.int s]))∧rf (jn xs ce (some (.v (.lst (map AV.str aT)))) hu od ta se ro sq pi))
  ⟨E1 rfl,e1,E4 (YT (tZ _ s1) 1) (E1 rfl),rfl,rfl⟩ (by kernel_rfl!)
theorem Hx(os:Os)(l:List Int):(C8 y g).turn os Nz (fun O=> .nil) (l.map .int):=fun g' b z hz=>by
 obtain⟨x,hx,rfl⟩:=U0.mp hz
 refine aR (P:=rf (Nz (AV.int x))∧rf os)
  ⟨rfl,rfl⟩ (by kernel_rfl!)
end
noncomputable def ca(lv:List Nat)(hs:List Int)(i:Nat):List (Str×Str):=(ch (lv.getD 0 0)++ch (lv.getD 1 0),Str.ofString "")::(List.range i).map fun k=> (ch (lv.getD k 0),bL (hs.getD k 0))
noncomputable def bZ(lv:List Nat)(i:Nat):List (Str×Str):=(List.range i).map fun k=> (ch (lv.getD k 0),ch (lv.getD ((k+1) % 10) 0))
noncomputable def jo(hs:List Int)(i:Nat):List Int:=(List.range i).foldl (fun l k=>fk (fun z:Int=>z) l (hs.getD k 0)) []
theorem jX(hs:List Int)(i:Nat):jo hs (i+1)=fk (fun z:Int=>z) (jo hs i) (hs.getD i 0):=by
 unfold jo
 rw[aaj,aar];rfl
theorem gq(hs:List Int):∀i,(jo hs i).Pairwise fun a b=>a≤b
 | 0=>List.Pairwise.nil
 | i+1=>by rw[jX];exact ln (key:=fun z:Int=>z) (gq hs i) _
theorem ml(hs:List Int):∀i,(jo hs i).length=i
 | 0=>rfl
 | i+1=>by rw[jX,lu,ml hs i]
theorem zx(lv:List Nat)(hs:List Int)(i:Nat):ca lv hs (i+1)=ca lv hs i++ [(ch (lv.getD i 0),bL (hs.getD i 0))]:=by
 unfold ca
 rw[aaj,YA];rfl
theorem zy(lv:List Nat)(i:Nat):bZ lv (i+1)=bZ lv i++ [(ch (lv.getD i 0),ch (lv.getD ((i+1) % 10) 0))]:=by
 unfold bZ
 rw[aaj,YA];rfl
theorem t0(lv:List Nat)(hs:List Int)(i:Nat):(ca lv hs i).length=i+1:=E5 (· +1) ((E9 ..).trans YP)
theorem nT(lv:List Nat)(i:Nat):(bZ lv i).length=i:=(E9 ..).trans YP
def RO(hs:List Int):Prop:=hs.length=10∧∀k,k<10→∃n:Nat,n<64∧hs.getD k 0=n
theorem Dm{n:Nat}(h:n<64):bN (bL n)=true∧PyData.strOk (bL n)=true:=by
 have:((List.range 64).all fun k:Nat=>bN (bL k)&&PyData.strOk (bL k))=true:=by decide+kernel
 exact E2.mp (Jb.mp this n (YD.mpr h))
theorem rm{lv:List Nat}(hl:lv.length=10)(hs:∀c∈lv,c∈six){k:Nat}(hk:k<10):lv.getD k 0∈six:=by
 rw[U3,U6 (hl▸hk)];exact hs _ (Zm _)
theorem Mi{a b:Nat}(ha:a∈six)(hb:b∈six):bN (ch a++ch b)=true:=by
 have:(six.all fun a=>six.all fun b=>bN (ch a++ch b))=true:=by decide+kernel
 exact Jb.mp (Jb.mp this a ha) b hb
theorem T8:bN (Str.ofString "")=true:=by decide+kernel
theorem Mj{lv:List Nat}{hs:List Int}(hl:lv.length=10)(h6:∀c∈lv,c∈six){i:Nat}(hi:i≤10):∀p∈ca lv hs i,p.1.length<1000:=fun p hp=>by
 rcases V1.mp hp with rfl | hp
 ·exact E1 rfl
 ·obtain⟨k,_,rfl⟩:=U0.mp hp
  exact E1 rfl
theorem Ml{lv:List Nat}{i:Nat}:∀p∈bZ lv i,p.1.length<1000:=fun p hp=>by
 obtain⟨k,_,rfl⟩:=U0.mp hp
 exact E1 rfl
noncomputable def uv(C:Addr)(cl:Os)(lv:List Nat)(hs:List Int)(i:Nat):Os:=(50,.list ((jo hs i).map .int))::(44,.any 3 (fU (bZ lv i) C))::(40,.any 3 (fU (ca lv hs i) C))::cl
noncomputable def EC(sg:List Int):List AV:=(sg.map fun s=>AV.int (((208:Nat):Int)+s))++ [.str (Str.ofString "end")]
noncomputable def zz(lv:List Nat)(sg:List Int)(du pa wa fo wh so wo mi:Option RV):Vs:=[none,some (.v (.lst (cV lv))),some (.v (.lst (sg.map .int))),some (.v (.lst (cV lv))),some (.v (.lst (EC sg))),du,pa,wa,fo,wh,so,wo,mi]
section
variable {y:Lay}{g:Gd}{xs:List Int}
theorem Mm(X:cH y g)(hn:11≤g.n)(hs:List Int)(i:Nat)(hi:i<10):
  Fn g (.v (.val (.ref (y.ad 4)))) [.r 50,.v (.int (hs.getD i 0))] [] [] [(50,.list ((jo hs i).map .int))] (.v .none) [(50,.list ((jo hs (i+1)).map .int))]:=by
 have cl:=aax (p:=fun z=>decide (z<hs.getD i 0)) (l:=jo hs i)
 have Z:Jx ((jo hs i).map .int) (fun j=>decide (j<(jo hs i).countP fun z=>decide (z<hs.getD i 0))) 0 ((jo hs i).map AV.int).length ((jo hs i).countP fun z=>decide (z<hs.getD i 0)):=
  ⟨Y8 _,by rw[E9];exact cl,E8 _,by rw[E9,ml];exact E4 (Yy hi) (by decide),fun O O O=>rfl⟩
 have:=(G0 X hn Z (x:= .int (hs.getD i 0)) fun j z hz=>by
  rw[V9] at hz
  cases e:(jo hs i)[j]? with
  | none=>rw[e] at hz;cases hz
  | some v=>rw[e] at hz;cases hz;exact f9 (f6 (key:=fun z:Int=>z) (gq hs i) _ j v e)).shift 50
 rw[jX]
 unfold fk
 rw[YA,YI,aaH,aaI]
 exact this
noncomputable def T9(y:Lay)(lv:List Nat)(hs:List Int)(i:Nat):Hint:=
 .v (.val (.ref (y.am 16)))<| .v (.str (ch (lv.getD i 0)))<| .v (.int (hs.getD i 0))<| .call (.v .none) [(40,.any 3 (fU (ca lv hs (i+1)) (y.ad 100)))]<|
 .v (.val (.ref (y.am 16)))<| .v (.str (ch (lv.getD i 0)))<| .v (.str (ch (lv.getD ((i+1) % 10) 0)))<| .call (.v .none) [(44,.any 3 (fU (bZ lv (i+1)) (y.ad 100)))]<|
 .v (.int (hs.getD i 0))<| .call (.v .none) [(50,.list ((jo hs (i+1)).map .int))] .nil
noncomputable abbrev ED(xs:List Int)(ce to od:AV)(hs:List Int):Os:=jn xs (some (.v ce)) (some (.v to)) (some (.v (.lst (hs.map .int)))) (some (.v od)) (some (.r 40)) (some (.r 44)) (some (.r 50)) none none
theorem Dn(X:cH y g)(hn:12≤g.n){lv:List Nat}{hs sg:List Int}(hl:lv.length=10)(h6:∀c∈lv,c∈six)(hh:RO hs)(i:Nat)(hi:i<10)(R:RV→S→Prop):
  (C9 y g).set (.v (.int i)) ⟨zz lv sg none none none none none none none none,uv (y.ad 100) (ED xs ce to od hs) lv hs i,T9 y lv hs i⟩ fun s2=> (C_ y g).ex s2 fun f s3=>bF f (True∧av s3 (zz lv sg none none none none none none none none) (uv (y.ad 100) (ED xs ce to od hs) lv hs (i+1))) False fun v=>R v s3:=by
 have VG:2≤g.n:=E4 (by decide) hn
 have c0:=rm hl h6 hi
 have hm:(i+1) % 10<10:=YK _ (by decide)
 have c1:=rm hl h6 hm
 obtain⟨n,NA,en⟩:=hh.2 i hi
 have a1:=(B1 X VG (l:=ca lv hs i) (tA c0) (v:=bL (hs.getD i 0)) (by rw[en];exact(Dm NA).1) (by rw[t0];exact E4 hi (by decide))).shift 40
 have a2:=(B1 X VG (l:=bZ lv i) (tA c0) (tA c1) (by rw[nT];exact E4 (Yy hi) (by decide))).shift 44
 have a3:=Mm X (E4 (by decide) hn) hs i hi
 rw[← zx] at a1
 rw[← zy] at a2
 have Jz:(cV lv).length≤sizeLine:=sz (ar (U8 hl)) rfl
 have Ey:(hs.map AV.int).length≤sizeLine:=sz (ar (U8 hh.1)) rfl
 have g0:bT (cV lv) (i:Nat)=some (.str (ch (lv.getD i 0))):=aO 0 (hl▸hi)
 have g1:bT (cV lv) (fmod ((i:Int)+((1:Nat):Int)) ((10:Nat):Int))=some (.str (ch (lv.getD ((i+1) % 10) 0))):=by
  have e:fmod ((i:Int)+((1:Nat):Int)) ((10:Nat):Int)=(((i+1) % 10:Nat):Int):=hO (i+1) 10
  rw[e]
  exact aO 0 (hl▸hm)
 have g2:bT (hs.map AV.int) (i:Nat)=some (.int (hs.getD i 0)):=aO 0 (hh.1▸hi)
 have hb:(hs.getD i 0).natAbs<1000000:=by rw[en];exact YB NA (by decide)
 refine aR (P:=Mt g (EO.any 3 (fU (ca lv hs i) (y.ad 100))) (Str.ofString "add_header") (AV.val (Value.ref (y.am 16)))∧_∧_∧_∧_∧_∧_∧Mt g (EO.any 3 (fU (bZ lv i) (y.ad 100))) (Str.ofString "add_header") (AV.val (Value.ref (y.am 16)))∧_∧_∧_∧_∧_∧_∧_∧_∧True∧EE (zz lv sg none none none none none none none none) (uv (y.ad 100) (ED xs ce to od hs) lv hs (i+1)))
  ⟨PC X _,Jz,g0,Ey,g2,hb,a1,PC X _,Jz,g0,Jz,g1,a2,Ey,g2,a3,trivial,rfl⟩ (by kernel_rfl!)
end
noncomputable def dn(lv:List Nat):List Nat:=d9 lv 10
noncomputable def ji(hs:List Int)(od:List Nat):List (List Str):=(List.range 5).map fun j=>[bL (hs.getD (od.getD (2*j+1) 0) 0),bL (hs.getD (od.getD (2*j) 0) 0)]
noncomputable def zA(hs:List Int)(od:List Nat)(z:AV):Option AV:=some (.lst [.str (bL (hs.getD (od.getD ((dC z).toNat+1) 0) 0)),.str (bL (hs.getD (od.getD (dC z).toNat 0) 0))])
noncomputable def Mn(hs:List Int)(od:List Nat)(z:AV):Hint:= .v (.int (od.getD ((dC z).toNat+1) 0:Nat))<| .v (.int (hs.getD (od.getD ((dC z).toNat+1) 0) 0))<| .v (.int (od.getD (dC z).toNat 0:Nat))<| .v (.int (hs.getD (od.getD (dC z).toNat 0) 0)) .nil
theorem Do(hs:List Int)(od:List Nat):(aJ 0 10 2).filterMap (zA hs od)=bq (ji hs od):=by
 rw[G2];rfl
noncomputable def v0(T:List (Str×Str))(z:AV):Option AV:=some (.lst (aV T (jf z)))
noncomputable def dD(x:Str):Int:=(((List.range 64).find? fun n:Nat=>bL n==x).getD 0:Nat)
theorem p8:∀n:Nat,n<64→dD (bL n)=n:=by decide+kernel
noncomputable def rn(a b:Int):Pr:=if a≤b then(a,b) else(b,a)
theorem Dp(a b:Int):(rn a b).1≤(rn a b).2:=by
 unfold rn
 split
 ·exact ‹_›
 ·exact Z_ (aa3.mp ‹_›)
noncomputable def jY(hs:List Int)(od:List Nat):List Pr:=(List.range 5).map fun j=>rn (hs.getD (od.getD (2*j+1) 0) 0) (hs.getD (od.getD (2*j) 0) 0)
noncomputable def RP(z:AV):Option AV:=some (.int (dD (jf z)))
noncomputable def JH(z:AV):Option AV:=some (cS (rn (dD (jf (lZ (Ln z) 0))) (dD (jf (lZ (Ln z) 1)))))
noncomputable def T_(z:AV):Hint:= .f RP (fun z=> .v (.int (dD (jf z))) .nil)<| .v (.lst [.int (dD (jf (lZ (Ln z) 0))),.int (dD (jf (lZ (Ln z) 1)))])<| .v (cS (rn (dD (jf (lZ (Ln z) 0))) (dD (jf (lZ (Ln z) 1))))) .nil
noncomputable def gr(z:AV):Option AV:=some (.str (PySem.Txt.lower (jf z)))
noncomputable def v6(T:List (Str×Str))(z:AV):Option AV:=some (.lst ((aV T (jf z)).filterMap gr))
theorem Dq(a b:Int):qH [.int a,.int b] (cS (rn a b)):=⟨[a,b],rfl,E1 rfl,fun ns h1 h2=>by
 have s: [(rn a b).1,(rn a b).2].Pairwise (·≤·):=aaW.mpr ⟨fun z hz=>by rw[Yz.mp hz];exact Dp a b,List.pairwise_singleton ..⟩
 have p: [a,b].Perm [(rn a b).1,(rn a b).2]:=by
  unfold rn
  split
  ·exact .refl _
  ·exact .swap ..
 rw[(h1.trans p).eq_of_pairwise (le:=(·≤·)) (fun a b O O h1 h2=>acd h1 h2) h2 s];rfl⟩
theorem nU:d6 (Str.ofString "AbCdE")=[.str (ch 65),.str (ch 98),.str (ch 67),.str (ch 100),.str (ch 69)]:=by kernel_rfl!
theorem nV:d6 (Str.ofString "aBcDe")=[.str (ch 97),.str (ch 66),.str (ch 99),.str (ch 68),.str (ch 101)]:=by kernel_rfl!
theorem t4(h:z∈d6 (Str.ofString "AbCdE")∨z∈d6 (Str.ofString "aBcDe")):∃c,c∈six∧z= .str (ch c):=by
 have e:∀l:List Nat,(∀c∈l,c∈six)→∀z∈l.map fun c=>AV.str (ch c),∃c,c∈six∧z= .str (ch c):=fun l hl z hz=>by
  obtain⟨c,hc,rfl⟩:=U0.mp hz
  exact⟨c,hl c hc,rfl⟩
 rw[nU,nV] at h
 exact h.elim (e [65,98,67,100,69] (by decide) z) (e [97,66,99,68,101] (by decide) z)
section
variable {y:Lay}{g:Gd}{xs:List Int}
theorem t5{lv:List Nat}{k:Nat}(hk:k<10):(dn lv).getD k 0<10:=by
 have hl:k<(dn lv).length:=by rw[dn,c_];exact hk
 rw[U3,U6 hl]
 exact qS lv 10 _ (Zm hl)
theorem Dr{C:Addr}{ce to ta se ro sq pi:Option RV}{hs:List Int}{lv:List Nat}(hh:RO hs):
  (C' y g).turn (uv C (jn xs ce to (some (.v (.lst (hs.map .int)))) (some (.v (.lst (af (dn lv))))) ta se ro sq pi) lv hs 10) (zA hs (dn lv)) (Mn hs (dn lv)) (aJ 0 10 2):=fun g' b z hz=>by
 obtain⟨k,hk,rfl⟩:=tO hz
 have k1:2*k+1<10:=Y6 2 hk
 have k0:2*k<10:=aas k1
 have ol:(af (dn lv)).length≤sizeLine:=sz (ar (U8 (c_ lv 10))) rfl
 have hl:(hs.map AV.int).length≤sizeLine:=sz (ar (U8 hh.1)) rfl
 have og:∀ {j:Nat},j<10→bT (af (dn lv)) (j:Nat)=some (.int ((dn lv).getD j 0:Nat)):=fun hj=>aO (f:=fun s:Nat=>AV.int s) 0 (by rw[dn,c_];exact hj)
 have hg:∀ {j:Nat},j<10→bT (hs.map AV.int) ((dn lv).getD j 0:Nat)=some (.int (hs.getD ((dn lv).getD j 0) 0))∧(hs.getD ((dn lv).getD j 0) 0).natAbs<1000000:=fun hj=>by
  obtain⟨n,NA,en⟩:=hh.2 _ (t5 (lv:=lv) hj)
  exact⟨aO 0 (hh.1▸t5 hj),by rw[en];exact YB NA (by decide)⟩
 refine aR (P:=_∧_∧_∧_∧_∧_∧_∧_∧_∧_∧rf (zA hs (dn lv) (AV.int ↑(2*k)))∧rf (uv C (jn xs ce to (some (.v (.lst (map AV.int hs)))) (some (.v (.lst (af (dn lv))))) ta se ro sq pi) lv hs 10))
  ⟨ol,og k1,hl,(hg k1).1,(hg k1).2,ol,og k0,hl,(hg k0).1,(hg k0).2,rfl,rfl⟩ (by kernel_rfl!)
theorem Ds(X:cH y g)(hn:12≤g.n){ce to od sq pi ro:Option RV}{lv:List Nat}{hs:List Int}(hl:lv.length=10)(h6:∀c∈lv,c∈six):
  (Da y g).turn (uv (y.ad 100) (jn xs ce to (some (.v (.lst (hs.map .int)))) od (some (.r 40)) (some (.r 44)) ro sq pi) lv hs 10) (v0 (ca lv hs 10)) (fun z=> .v (.val (.ref (y.am 7)))<| .call (.v (.lst (aV (ca lv hs 10) (jf z)))) [(40,.any 3 (fU (ca lv hs 10) (y.ad 100)))] .nil) (d6 (Str.ofString "AbCdE")):=fun g' b z hz=>by
 obtain⟨d,hd,rfl⟩:=t4 (.inl hz)
 have X':=X.bS b.bS
 have f:=(B0 X' (by rw[b.n];exact E4 (by decide) hn) (l:=ca lv hs 10) (nm:=ch d) (by rw[d8 hd];exact tA (xE hd)) (E1 rfl) (Mj hl h6 (E8 _)) (by rw[t0];decide)).shift 40
 refine aR (P:=Mt g' (EO.any 3 (fU (ca lv hs 10) (y.ad 100))) (Str.ofString "get_all") (AV.val (Value.ref (y.am 7)))∧_∧rf (v0 (ca lv hs 10) (AV.str (ch d)))∧rf (uv (y.ad 100) (jn xs ce to (some (.v (.lst (map AV.int hs)))) od (some (.r 40)) (some (.r 44)) ro sq pi) lv hs 10))
  ⟨Vi X' _,f,rfl,rfl⟩ (by kernel_rfl!)
theorem Hy(os:Os){a b:Nat}(ha:a<64)(hb:b<64):(Db y g).turn os RP (fun z=> .v (.int (dD (jf z))) .nil) [.str (bL a),.str (bL b)]:=fun g' b' z hz=>by
 obtain⟨n,hn,rfl⟩:∃n:Nat,n<64∧z= .str (bL n):=by
  rcases V1.mp hz with rfl | hz
  ·exact⟨a,ha,rfl⟩
  ·exact⟨b,hb,Yz.mp hz⟩
 have e:=p8 n hn
 refine aR (P:=Bq (bL ↑n) (AV.int (dD (bL ↑n)))∧rf (RP (AV.str (bL ↑n)))∧rf os)
  ⟨⟨n,rfl,V6 n,YR.mpr (YB hn (by decide)),E5 AV.int e⟩,rfl,rfl⟩ (by kernel_rfl!)
noncomputable abbrev nW(a:Nat)(c:Nat):=map AV.str [bL ↑a,bL ↑c]
theorem Hz(os:Os)(l:List (List Str))(h:∀r∈l,∃a b:Nat,a<64∧b<64∧r=[bL a,bL b]):(Dc y g).turn os JH T_ (bq l):=fun g' b z hz=>by
 obtain⟨r,hr,rfl⟩:=U0.mp hz
 obtain⟨a,c,ha,hc,rfl⟩:=h r hr
 have t:=Hy (y:=y) (g:=g') os ha hc
 refine aR (P:=SL (nW a c)∧_∧rf (filterMap RP (nW a c))∧qH [AV.int (dD (bL ↑a)),.int (dD (bL ↑c))] (cS (rn (dD (bL ↑a)) (dD (bL ↑c))))∧rf (JH (AV.lst (nW a c)))∧rf os)
  ⟨E1 rfl,t,rfl,Dq _ _,rfl,rfl⟩ (by kernel_rfl!)
theorem HA(os:Os){T:List (Str×Str)}(hT:∀p∈T,p.2.length<1000)(nm:Str):(vR y g).turn os gr (fun O=> .nil) (aV T nm):=fun g' b z hz=>by
 obtain⟨p,hp,rfl⟩:=U0.mp hz
 have h1:=hT p (abH.mp hp).1
 refine aR (P:=Str.length p.2≤5592405∧rf (gr (AV.str p.2))∧rf os)
  ⟨E4 (Yy h1) (by decide),rfl,rfl⟩ (by kernel_rfl!)
noncomputable abbrev ic(lv:List Nat)(d:Nat):=aV (bZ lv 10) (ch d)
theorem Dt(X:cH y g)(hn:12≤g.n){ce to od sq pi ro hu:Option RV}{lv:List Nat}{hs:List Int}:
  (vS y g).turn (uv (y.ad 100) (jn xs ce to hu od (some (.r 40)) (some (.r 44)) ro sq pi) lv hs 10) (v6 (bZ lv 10)) (fun z=> .v (.val (.ref (y.am 7)))<| .call (.v (.lst (aV (bZ lv 10) (jf z)))) [(44,.any 3 (fU (bZ lv 10) (y.ad 100)))]<| .f gr (fun O=> .nil)<| .v (.lst ((aV (bZ lv 10) (jf z)).filterMap gr)) .nil) (d6 (Str.ofString "aBcDe")):=fun g' b z hz=>by
 obtain⟨d,hd,rfl⟩:=t4 (.inr hz)
 have X':=X.bS b.bS
 have f:=(B0 X' (by rw[b.n];exact E4 (by decide) hn) (l:=bZ lv 10) (nm:=ch d) (by rw[d8 hd];exact tA (xE hd)) (E1 rfl) Ml (by rw[nT];decide)).shift 44
 have t:=fun os=>HA (y:=y) (g:=g') os (T:=bZ lv 10) (fun p hp=>by
  obtain⟨k,_,rfl⟩:=U0.mp hp
  exact E1 rfl) (ch d)
 refine aR (P:=Mt g' (EO.any 3 (fU (bZ lv 10) (y.ad 100))) (Str.ofString "get_all") (AV.val (Value.ref (y.am 7)))∧_∧SL (ic lv d)∧LC.bV (vR y g') none ((50,EO.list (map AV.int (jo hs 10)))::(44,EO.any 3 (fU (bZ lv 10) (y.ad 100)))::(40,EO.any 3 (fU (ca lv hs 10) (y.ad 100)))::jn xs ce to hu od (some (.r 40)) (some (.r 44)) ro sq pi) gr (fun O=> .nil) (ic lv d)∧filterMap gr (ic lv d)=filterMap gr (ic lv d)∧v6 (bZ lv 10) (AV.str (ch d))=some (.lst (filterMap gr (ic lv d)))∧((50,EO.list (map AV.int (jo hs 10)))::(44,EO.any 3 (fU (bZ lv 10) (y.ad 100)))::(40,EO.any 3 (fU (ca lv hs 10) (y.ad 100)))::jn xs ce to hu od (some (.r 40)) (some (.r 44)) ro sq pi)=uv (y.ad 100) (jn xs ce to hu od (some (.r 40)) (some (.r 44)) ro sq pi) lv hs 10)
  ⟨Vi X' _,f,?_,t _,rfl,rfl,rfl⟩ (by kernel_rfl!)
 exact sz (ar (E4 (ZX ..) (U8 (nT lv 10)))) rfl
end
noncomputable def nextOf(row:List Int)(h:Int):Int:=row.getD ((row.countP fun z=>decide (z≤h)) % 10) 0
noncomputable def Du(row:List Int)(z:AV):Int×AV:=(dC z,.int (nextOf row (dC z)))
noncomputable def zB(row:List Int):List (Int×AV):=(row.map AV.int).foldl (gM (Du row)) []
noncomputable def t6(row:List Int):List (Int×Int):=row.foldl (fun kvs h=>aH kvs h (nextOf row h)) []
theorem HB(row:List Int):zB row=b_ .int (t6 row):=by
 have:∀(l:List Int) (kvs:List (Int×Int)),(l.map AV.int).foldl (gM (Du row)) (b_ .int kvs)=b_ .int (l.foldl (fun kvs h=>aH kvs h (nextOf row h)) kvs):=by
  intro l
  induction l with
  | nil=>intro kvs;rfl
  | cons h l ih=>
   intro kvs
   rw[YI,abI,abI,← ih]
   exact E5 (foldl _ · _) (q_ kvs h (nextOf row h))
 exact this row []
noncomputable def zC(p:Nat)(k:Int):Bool:=Builtin.bitAnd ((p:Int).fdiv (2 ^ k.toNat)) (1:Nat) !=0
noncomputable def HC(p:Nat)(z:AV):Option AV:=cond (zC p (dC z)) (some z) none
noncomputable def mo(p:Nat):List Nat:=(List.range 5).filter fun k=>zC p k
theorem rq:aJ 0 ((5:Nat):Int) 1=af (List.range 5):=by kernel_rfl!
theorem HD(p:Nat):(aJ 0 ((5:Nat):Int) 1).filterMap (HC p)=af (mo p):=by
 rw[rq]
 have:∀l:List Nat,(af l).filterMap (HC p)=af (l.filter fun k=>zC p k):=by
  intro l
  induction l with
  | nil=>rfl
  | cons k l ih=>
   unfold af at ih ⊢
   rw[YI,Zh,ZA,ih]
   have e:HC p (AV.int (k:Int))=cond (zC p k) (some (AV.int k)) none:=rfl
   rw[e]
   cases zC p k <;> rfl
 exact this _
theorem ru(p:Nat):(mo p).length≤5∧∀k∈mo p,k<5:=
 ⟨E4 (ZX ..) (U8 YP),fun k hk=>YD.mp (abH.mp hk).1⟩
noncomputable def v7(wk:Nat→Bool)(i:Nat):Int:=i.rec 0 fun i t=>t+cond (wk i) 1 0
noncomputable def v8(sq:List (List Int))(i:Nat):List Int:=(List.range 5).map fun j=>bJ sq i j+cond ((i:Int)==(j:Int)) 1 0
noncomputable def gu(sq:List (List Int)):List (List Int):=(List.range 5).map (v8 sq)
noncomputable def NC(sq:List (List Int))(i:Nat)(z:AV):Option AV:=some (.int (bJ sq i (dC z).toNat+cond ((i:Int)==dC z) 1 0))
noncomputable def T'(sq:List (List Int))(i:Nat)(z:AV):Hint:= .v (.lst ((sq.getD i []).map .int))<| .v (.int (bJ sq i (dC z).toNat))<| .a<| .mv (.v (.int (cond ((i:Int)==dC z) 1 0))) .nil .nil .nil
noncomputable def Mo(sq:List (List Int))(z:AV):Option AV:=some (.lst ((v8 sq (dC z).toNat).map .int))
noncomputable def RR(sq:List (List Int))(z:AV):Hint:= .f (NC sq (dC z).toNat) (T' sq (dC z).toNat)<| .v (.lst ((v8 sq (dC z).toNat).map .int)) .nil
theorem HE(sq:List (List Int))(i:Nat):(aJ 0 ((5:Nat):Int) 1).filterMap (NC sq i)=(v8 sq i).map .int:=by rw[rq];rfl
theorem HF(sq:List (List Int)):(aJ 0 ((5:Nat):Int) 1).filterMap (Mo sq)=ak (gu sq):=by rw[rq];rfl
theorem Ua{x:Int}{b:Bool}(h:x ^ 2=cond b 1 0):((Builtin.Int.intBits x:Nat):Int)*((2:Nat):Int)≤2 ^ 27:=by
 have h1:x.natAbs<2:=by
  rcases aaw x.natAbs 2 with h2 | h2
  ·exact h2
  ·have h3:=Nat.pow_le_pow_left h2 2
   rw[← Int.natAbs_pow,h] at h3
   cases b
   ·exact absurd h3 (by decide)
   ·exact absurd h3 (by decide)
 rcases Int.natAbs_eq x with e | e <;> rw[e] <;> generalize x.natAbs=n at h1 <;> match n,h1 with
  | 0,_=>decide+kernel
  | 1,_=>decide+kernel
structure v9(ps:List Pr)(fo:List (Int×Int))(sq:List (List Int))(first:Int)(wk:Nat→Bool)(st:Nat→Nat)(nx:Nat→Int→Int)(P:Int→Prop)(p:Nat):Prop where
 way:Qt ps (mo p) fo (nx p) P
 no:∀i,i<st p→oF (nx p) first (i+1)≠first
 le:st p≤10
 en:oF (nx p) first (st p+1)=first∨st p=10
 is:(((st p+1:Nat):Int)==((10:Nat):Int))=wk p
 pf:dJ sq 6 (mo p) ^ 2=cond (wk p) 1 0
section
variable {y:Lay}{g:Gd}{xs:List Int}
noncomputable def lS(g:Gd)(C:Addr)(xs:List Int)(ce to od:AV)(lv:List Nat)(hs row:List Int)(sq pi:Option RV):Os:=(30,eG g (zB row))::(44,.any 3 (fU (bZ lv 10) C))::(40,.any 3 (fU (ca lv hs 10) C))::
 jn xs (some (.v ce)) (some (.v to)) (some (.v (.lst (hs.map .int)))) (some (.v od)) (some (.r 40)) (some (.r 44)) (some (.v (.lst (row.map .int)))) sq pi
theorem Dv(X:cH y g)(hn:12≤g.n){C:Addr}{lv:List Nat}{hs row:List Int}(hr:row.Pairwise fun a b=>a≤b)(hl:row.length=10):
  (vT y g).turn ((44,.any 3 (fU (bZ lv 10) C))::(40,.any 3 (fU (ca lv hs 10) C))::jn xs (some (.v ce)) (some (.v to)) (some (.v (.lst (hs.map .int)))) (some (.v od)) (some (.r 40)) (some (.r 44)) (some (.v (.lst (row.map .int)))) none none)
   (Du row) (fun z=> .call (.v (.int ((row.countP fun z'=>decide (z'≤dC z)):Nat))) []<| .v (.int (nextOf row (dC z))) .nil) (row.map .int):=fun g' b z hz=>by
 obtain⟨h,hh,rfl⟩:=U0.mp hz
 have cl:=aax (p:=fun z=>decide (z≤h)) (l:=row)
 have Z:Jx (row.map .int) (fun j=>decide (j<row.countP fun z=>decide (z≤h))) 0 (row.map AV.int).length (row.countP fun z=>decide (z≤h)):=
  ⟨Y8 _,by rw[E9];exact cl,E8 _,by rw[E9,hl];decide,fun O O O=>rfl⟩
 have f:=Xq (X.bS b.bS) (by rw[b.n];exact E4 (by decide) hn) (x:= .int h) Z fun j z hz=>by
  rw[V9] at hz
  cases e:row[j]? with
  | none=>rw[e] at hz;cases hz
  | some v=>
   rw[e] at hz;cases hz
   exact f9 ((kL (key:=fun z:Int=>z) hr h j v e).trans (by rw[← decide_not];exact YO.mpr Zd.symm))
 have g1:bT (row.map AV.int) (fmod ((row.countP fun z=>decide (z≤h)):Nat) ((10:Nat):Int))=some (.int (nextOf row h)):=by
  rw[hO]
  exact aO 0 (by rw[hl];exact YK _ (by decide))
 refine aR (P:=_∧SL (map AV.int row)∧AG (map .int row) (fmod (↑(List.countP (fun(z':Int)=>decide (z'≤h)) row):Int) ((10:Nat):Int)) (.int (nextOf row h))∧rf (Du row (AV.int h))∧rf ((44,EO.any 3 (fU (bZ lv 10) C))::(40,EO.any 3 (fU (ca lv hs 10) C))::jn xs (some (.v ce)) (some (.v to)) (some (.v (.lst (map AV.int hs)))) (some (.v od)) (some (.r 40)) (some (.r 44)) (some (.v (.lst (map AV.int row)))) none none))
  ⟨f,sz (ar (U8 hl)) rfl,g1,rfl,rfl⟩ (by kernel_rfl!)
noncomputable abbrev t7(p:Nat)(i:Nat):=Builtin.bitAnd (fdiv ↑p ((2:Int) ^ i)) ((1:Nat):Int) !=(0:Int)
theorem zD{os:Os}{C:Addr}{lv:List Nat}{hs row:List Int}{sq:Option RV}(p:Nat):
  (vU y g).turn (lS g C xs ce to od lv hs row sq (some (.v (.int p)))) (HC p) (fun O=> .sp .nil .nil) (aJ 0 ((5:Nat):Int) 1):=fun g' b z hz=>by
 obtain⟨i,hg⟩:=Y7.mp hz
 obtain⟨hi,rfl⟩:=dm hg
 refine aR (P:=_∧((t7 p i)=true→HC p (AV.int ↑i)=some (.int ↑i)∧rf (lS g C xs ce to od lv hs row sq (some (.v (.int ↑p)))))∧((t7 p i)=false→HC p (AV.int ↑i)=none∧rf (lS g C xs ce to od lv hs row sq (some (.v (.int ↑p))))))
  ⟨V6 i,fun h=> ⟨(E5 (fun b=>cond b (some (AV.int i)) none) h:_=cond true _ _),rfl⟩,fun h=> ⟨(E5 (fun b=>cond b (some (AV.int i)) none) h:_=cond false _ _),rfl⟩⟩ (by kernel_rfl!)
noncomputable def Mp(g:Gd)(row:List Int)(sq:List (List Int))(wk:Nat→Bool)(st:Nat→Nat)(p:Nat):Hint:=
 .f (HC p) (fun O=> .sp .nil .nil)<| .v (.lst (af (mo p)))<| .call (.v (.int ((st p+1:Nat):Int))) [(30,eG g (zB row))]<| .a<| .mv (.v (.int (cond (wk p) 1 0))) .nil .nil<|
 .call (.v (.int (dJ sq 6 (mo p)))) []<| .a<| .b false<| .v (.lst ((sq.getD (p % 5) []).map .int))<| .v (.int 0)<| .a<| .a<| .a .nil
noncomputable abbrev ie(g:Gd)(row:List Int)(lv:List Nat)(C:Addr)(hs:List Int)(p:Nat)(sq:List (List Int))(od:AV)(to:AV)(ce:AV)(xs:List Int):=[(30,eG g (zB row)),(44,EO.any 3 (fU (bZ lv 10) C)),(40,EO.any 3 (fU (ca lv hs 10) C)),(19,EO.cell (some (.v (.int ↑p)))),(18,EO.cell (some (.v (.lst (ak sq))))),(17,EO.cell (some (.v (.lst (map AV.int row))))),(16,EO.cell (some (.r 44))),(15,EO.cell (some (.r 40))),(14,EO.cell (some (.v od))),(13,EO.cell (some (.v (.lst (map AV.int hs))))),(12,EO.cell (some (.v to))),(11,EO.cell (some (.v ce))),(10,EO.cell (some (.v (.lst (map AV.int xs)))))]
noncomputable abbrev jZ(lv:List Nat)(sg:List Int)(du:AV)(ps:List Pr)(wa:AV)(wk:Nat→Bool)(p:Nat):Vs:=[none,some (.v (.lst (cV lv))),some (.v (.lst (map AV.int sg))),some (.v (.lst (cV lv))),some (.v (.lst (EC sg))),some (.v du),some (.v (.lst (map cS ps))),some (.v wa),some (.r 30),some (.v (.int (v7 wk p))),some (.v (.lst (af (mo p)))),none,none]
noncomputable abbrev nX:=aJ (0:Int) ((5:Nat):Int) (1:Int)
theorem zE(X:cH y g)(hn:20≤g.n){C:Addr}{lv:List Nat}{hs sg row:List Int}{sq:List (List Int)}{ps:List Pr}{wk:Nat→Bool}{st:Nat→Nat}{nx:Nat→Int→Int}{P:Int→Prop}{first:Int}(hq:q6 sq)(hd:∀k,k<5→bJ sq k k=0)(h5:ps.length=5)(hf:(ps.getD 0 (0,0)).1=first)(hP:P first)(p:Nat)(K:v9 ps (t6 row) sq first wk st nx P p)(R:RV→S→Prop):
  (vV y g).set (.v (.int p)) ⟨zz lv sg (some (.v du)) (some (.v (.lst (ps.map cS)))) (some (.v wa)) (some (.r 30)) (some (.v (.int (v7 wk p)))) none none none,lS g C xs ce to od lv hs row (some (.v (.lst (ak sq)))) none,Mp g row sq wk st p⟩ fun s2=>
   (vW y g).ex s2 fun f s3=>bF f (True∧av s3 (zz lv sg (some (.v du)) (some (.v (.lst (ps.map cS)))) (some (.v wa)) (some (.r 30)) (some (.v (.int (v7 wk (p+1))))) none none none) (lS g C xs ce to od lv hs row (some (.v (.lst (ak sq)))) none)) False fun v=>R v s3:=by
 have sm:=ru p
 have f1:=(CS X (E4 (by decide) hn) (mo p) ps (t6 row) (nx p) P K.way first sm.1 h5 sm.2 hf (st p) hP K.no K.le K.en).shift 30
 rw[← HB] at f1
 have f2:=Jw hq 6 X (E4 (by decide) hn) (mo p) (Z4 sm.1) sm.1 sm.2
 have p5:p % 5<5:=YK _ (by decide)
 have e5:fmod (p:Int) ((5:Nat):Int)=((p % 5:Nat):Int):=hO p 5
 have r1:bT (ak sq) (fmod (p:Int) ((5:Nat):Int))=some (.lst ((sq.getD (p % 5) []).map .int)):=by rw[e5];exact aO [] (by rw[hq.l];exact p5)
 have r2:bT ((sq.getD (p % 5) []).map AV.int) (fmod (p:Int) ((5:Nat):Int))=some (.int 0):=by
  rw[e5,← hd _ p5];exact aO 0 (by rw[hq.r _ p5];exact p5)
 refine aR (P:=Builtin.Range.small (0:Int) ((5:Nat):Int) (1:Int)=true∧SL nX∧LC.bV (vU y g) none (ie g row lv C hs p sq od to ce xs) (HC p) (fun(x:AV)=>Hint.sp .nil .nil) nX∧filterMap (HC p) nX=af (mo p)∧Fn g (RV.v (.val (Value.ref (y.ad 79)))) [RV.v (.lst (af (mo p))),RV.v (.lst (map cS ps)),RV.r 30] [] [] [(30,eG g (zB row))] (RV.v (.int ↑(st p+1))) [(30,eG g (zB row))]∧(((↑(st p+1):Int)==((10:Nat):Int))=true→VI (.int ((1:Nat):Int)) (.int (bif wk p then(1:Int) else(0:Int)))∧S.mk (jZ lv sg du ps wa wk p) (ie g row lv C hs p sq od to ce xs) .nil=S.mk (jZ lv sg du ps wa wk p) (ie g row lv C hs p sq od to ce xs) .nil)∧(((↑(st p+1):Int)==((10:Nat):Int))=false→VI (.int ((0:Nat):Int)) (.int (bif wk p then(1:Int) else(0:Int)))∧S.mk (jZ lv sg du ps wa wk p) (ie g row lv C hs p sq od to ce xs) .nil=S.mk (jZ lv sg du ps wa wk p) (ie g row lv C hs p sq od to ce xs) .nil)∧Fn g (RV.v (.val (Value.ref (y.ad 77)))) [RV.v (.lst (af (mo p))),RV.v (.lst (ak sq))] [] [] [] (RV.v (.int (dJ sq 6 (mo p)))) []∧(0:Int)≤((2:Nat):Int)∧(↑(Builtin.Int.intBits (dJ sq 6 (mo p))):Int)*((2:Nat):Int)≤(2:Int) ^ 27∧(!dJ sq 6 (mo p) ^ 2==bif wk p then(1:Int) else(0:Int))=false∧SL (ak sq)∧AG (ak sq) (fmod ↑p ((5:Nat):Int)) (AV.lst (map AV.int (List.getD sq (p % 5) [])))∧SL (map AV.int (List.getD sq (p % 5) []))∧AG (map AV.int (List.getD sq (p % 5) [])) (fmod ↑p ((5:Nat):Int)) (AV.int 0)∧True∧EE (zz lv sg (some (.v du)) (some (.v (.lst (map cS ps)))) (some (.v wa)) (some (.r 30)) (some (.v (.int (v7 wk (p+1))))) none none none) (lS g C xs ce to od lv hs row (some (.v (.lst (ak sq)))) none)) ?_ (by kernel_rfl!)
 have e:=K.pf
 exact⟨by decide,by decide+kernel,zD (os:=[]) p,HD p,f1,fun h=> ⟨E5 (fun b=>RV.v (.int (cond b 1 0))) (h.symm.trans K.is),rfl⟩,fun h=> ⟨E5 (fun b=>RV.v (.int (cond b 1 0))) (h.symm.trans K.is),rfl⟩,f2,by decide,Ua e,by rw[e,ZI];rfl,sz (ar (U8 hq.l)) rfl,r1,sz (ar (U8 (hq.r _ p5))) rfl,r2,trivial,rfl⟩
noncomputable abbrev ig(i:Nat):Nat×EO:=(29,EO.cell (some (.v (.int ↑i))))
theorem Mq{os:Os}{C:Addr}{lv:List Nat}{hs row:List Int}{sq:List (List Int)}(hq:q6 sq)(i:Nat)(hi:i<5):
  (vX y g).turn ((29,.cell (some (.v (.int i))))::lS X0 C xs ce to od lv hs row (some (.v (.lst (ak sq)))) none) (NC sq i) (T' sq i) (aJ 0 ((5:Nat):Int) 1):=fun g' b z hz=>by
 obtain⟨j,hg⟩:=Y7.mp hz
 obtain⟨hj,rfl⟩:=dm hg
 refine aR (P:=SL (ak sq)∧AG (ak sq) (↑i:Int) (.lst (map .int (List.getD sq i [])))∧SL (map AV.int (List.getD sq i []))∧AG (map .int (List.getD sq i [])) (↑j:Int) (.int (bJ sq i j))∧(((↑i:Int)==(↑j:Int))=true→VI (.int ((1:Nat):Int)) (.int (bif (↑i:Int)==(↑j:Int) then(1:Int) else(0:Int)))∧rf (S.mk [none,some (.v (.int ↑j))] (elim none ((ig i)::lS X0 C xs ce to od lv hs row (some (.v (.lst (ak sq)))) none) fun(q:Str×Nat)=> (snd q,EO.cell none)::(ig i)::lS X0 C xs ce to od lv hs row (some (.v (.lst (ak sq)))) none) .nil))∧(((↑i:Int)==(↑j:Int))=false→VI (.int ((0:Nat):Int)) (.int (bif (↑i:Int)==(↑j:Int) then(1:Int) else(0:Int)))∧rf (S.mk [none,some (.v (.int ↑j))] (elim none ((ig i)::lS X0 C xs ce to od lv hs row (some (.v (.lst (ak sq)))) none) fun(q:Str×Nat)=> (snd q,EO.cell none)::(ig i)::lS X0 C xs ce to od lv hs row (some (.v (.lst (ak sq)))) none) .nil))∧rf (NC sq i (AV.int ↑j))∧rf ((ig i)::lS X0 C xs ce to od lv hs row (some (.v (.lst (ak sq)))) none))
  ⟨sz (ar (U8 hq.l)) rfl,aO [] (hq.l▸hi),sz (ar (U8 (hq.r _ hi))) rfl,aO 0 (by rw[hq.r _ hi];exact hj),fun h=> ⟨E5 (fun b=>RV.v (.int (cond b 1 0))) h.symm,rfl⟩,fun h=> ⟨E5 (fun b=>RV.v (.int (cond b 1 0))) h.symm,rfl⟩,rfl,rfl⟩ (by kernel_rfl!)
noncomputable abbrev nY:=aJ 0 ((5:Nat):Int) 1
theorem Dw{C:Addr}{lv:List Nat}{hs row:List Int}{sq:List (List Int)}(hq:q6 sq):
  (vY y g).Pn (Str.ofString "i") 29 (lS X0 C xs ce to od lv hs row (some (.v (.lst (ak sq)))) none) (Mo sq) (RR sq) (aJ 0 ((5:Nat):Int) 1):=fun g' b z hz=>by
 obtain⟨i,hg⟩:=Y7.mp hz
 obtain⟨hi,rfl⟩:=dm hg
 refine aR (P:=Builtin.Range.small 0 ((5:Nat):Int) 1=true∧SL nY∧LC.bV (vX y g') none ((29,EO.cell (some (.v (.int ↑i))))::lS X0 C xs ce to od lv hs row (some (.v (.lst (ak sq)))) none) (NC sq i) (T' sq i) nY∧filterMap (NC sq i) nY=map .int (v8 sq i)∧Mo sq (AV.int ↑i)=some (.lst (map .int (v8 sq i)))∧(∃(o:Option RV),(29,EO.cell (some (.v (.int ↑i))))::lS X0 C xs ce to od lv hs row (some (.v (.lst (ak sq)))) none=(29,EO.cell o)::lS X0 C xs ce to od lv hs row (some (.v (.lst (ak sq)))) none))
  ⟨by decide,by decide+kernel,Mq (os:=[]) hq i hi,HE sq i,rfl,_,rfl⟩ (by kernel_rfl!)
end
end
end
section
section
noncomputable def RS(y:Lay):Cx:=cx y ["x","turn","row","letter","at"] [] [0] true
noncomputable def x7(y:Lay)(g:Gd):TG ⟨RS y,g⟩:=(.n (.loc 3) 272 8)
noncomputable def x8(y:Lay)(g:Gd):SB ⟨RS y,g⟩:=(.cons (.ag (.loc 4) 273 8 (.mod (.lo 0 273 13) (.add (.cl 0 273 18 [(.lo 2 273 22)]) (.nt 1 273 29)) (q 273 13 31)))<|(.cons (.ag (.loc 0) 274 8 (.div (.lo 0 274 12) (.add (.cl 0 274 18 [(.lo 2 274 22)]) (.nt 1 274 29)) (q 274 12 31)))<|(.cons (.ag (.loc 2) 275 8 (.add (.add (.add (.lst [(.lo 3 275 15)]) (.get (.lo 2 275 25) (.iJ .none (some (.lo 4 275 30)) .none))) (.lst [(.lo 3 275 37)])) (.get (.lo 2 275 47) (.iJ (some (.lo 4 275 51)) .none .none))))<| .nil)))
noncomputable def XG(y:Lay)(g:Gd):SB ⟨RS y,g⟩:=(.cons (.ag (.loc 2) 271 4 (.lst [] (q 271 10 12)))<|(.cons (.for (x7 y g) (.of (.st "edcba" 272 18)) (x8 y g) ⟨272,4,275,55⟩)<|(.cons (.ret (.get (.get (.add (.lo 2 276 12) (.lo 2 276 18)) (.iJ (some (.md (.lo 1 276 23) 10 30)) .none .none) (q 276 11 34)) (.iJ .none (some (.nt 10 276 36)) .none)))<| .nil)))
noncomputable def iS(s:List AV×Int):Int:=s.2.fmod ((s.1.length:Int)+1)
noncomputable def gv(c:AV)(s:List AV×Int):List AV×Int:=([c]++s.1.take (iS s).toNat++ [c]++s.1.drop (iS s).toNat,s.2.fdiv ((s.1.length:Int)+1))
noncomputable def iT(x:Int)(i:Nat):List AV×Int:=i.rec ([],x) fun i s=>gv ((d6 (Str.ofString "edcba")).getD i .none) s
noncomputable def j3(x turn:Int):List AV:=(((iT x 5).1++(iT x 5).1).drop (turn.fmod 10).toNat).take 10
theorem v_(c:AV)(s:List AV×Int):(gv c s).1.length=s.1.length+2:=by
 unfold gv
 show([c]++s.1.take (iS s).toNat++ [c]++s.1.drop (iS s).toNat).length=_
 rw[YF,YF,YF,ZR _ [c].length,ZZ [c].length,← YF,ZW,ZR]
 exact Z8 2 _
theorem rx(x:Int):∀i,(iT x i).1.length=2*i
 | 0=>rfl
 | i+1=> (v_ _ _).trans (E5 (· +2) (rx x i))
noncomputable def JI(turn:Int)(s:List AV×Int):Vs:=[some (.v (.int s.2)),some (.v (.int turn)),some (.v (.lst s.1)),none,none]
noncomputable def RT(s:List AV×Int):Hint:= .v (.lst (s.1.take (iS s).toNat))<| .v (.lst (s.1.drop (iS s).toNat)) .nil
noncomputable abbrev wb(s:List AV×Int):=(↑(length s.1):Int)+((1:Nat):Int)
theorem zF(turn:Int)(s:List AV×Int)(c:AV)(R:RV→S→Prop)(hl:s.1.length≤10):
  (x7 y g).set (.v c) ⟨JI turn s,[],RT s⟩ fun s2=> (x8 y g).ex s2 fun f s3=>bF f (True∧av s3 (JI turn (gv c s)) []) False fun v=>R v s3:=by
 have h0:0≤iS s:=Lo (n:=s.1.length+1) (Zt _)
 have z:(s.1.length:Int)+((1:Nat):Int)≠0:=nz (n:=s.1.length+1) (Zt _)
 have l1: [c].length≤1:=E8 1
 have l2:=qN l1 (iy (i:=(iS s).toNat) hl)
 refine aR (P:=SL s.1∧(↑(length s.1):Int)+((1:Nat):Int)≠0∧SL s.1∧(↑(length s.1):Int)+((1:Nat):Int)≠0∧natAbs (wb s)<1073741824∧SL s.1∧AV.lst (cu s.1 none (some (fmod s.2 (wb s))) none)= .lst (take (toNat (iS s)) s.1)∧length [c]+length (take (toNat (iS s)) s.1)≤sizeLine∧length ([c]++take (toNat (iS s)) s.1)+length [c]≤sizeLine∧SL s.1∧AV.lst (cu s.1 (some (fmod s.2 (wb s))) none none)= .lst (drop (toNat (iS s)) s.1)∧length ([c]++take (toNat (iS s)) s.1++ [c])+length (drop (toNat (iS s)) s.1)≤sizeLine∧True∧EE (JI turn (gv c s)) ([]))
  ⟨sz hl rfl,z,sz hl rfl,z,bd (sa hl (E8 2)) rfl,sz hl rfl,hJ (mJ _ h0),sz (sa l1 (iy hl)) rfl,sz (sa l2 l1) rfl,sz hl rfl,hJ (jd _ h0),sz (sa (qN l2 l1) (l7 hl)) rfl,trivial,rfl⟩ (by kernel_rfl!)
theorem VH:(d6 (Str.ofString "edcba")).length=5:=by kernel_rfl
theorem HG(X:cH y g)(hn:9≤g.n)(x turn:Int):
  Fn g (.v (.val (.ref (y.ad 72)))) [.v (.int x),.v (.int turn)] [] [] [] (.v (.lst (j3 x turn))) []:=
 iN X hn (X.fn 72 "_law_road" (by decide)) (RS y) (XG y)
  (.loop (fun O=>True) (fun i=>JI turn (iT x i)) (fun O=>[]) (fun i O=>RT (iT x i))<| .v (.lst (((iT x 5).1++(iT x 5).1).drop (turn.fmod 10).toNat))<| .v (.lst (j3 x turn)) .nil) (by intros;kernel_rfl!) fun g' b=>by
  have hL:(iT x 5).1.length≤10:=U8 (rx x 5)
  refine aR (P:=(Array.all (Str.cps (Str.ofString "edcba")) fun(x:Nat)=>decide (x<128))=true∧(True∧EE ((fun(i:Nat)=>JI turn (iT x i)) 0) ((fun(x:Nat)=>[]) 0))∧(bg (x7 y g') (x8 y g') (d6 (Str.ofString "edcba")) (fun(x:Nat)=>True) (fun(i:Nat)=>JI turn (iT x i)) (fun(x:Nat)=>[]) (fun(i:Nat) (za:AV)=>RT (iT x i)) fun(v:RV) (s3:S)=>dH (RF.ret v) s3 (AV.lst (j3 x turn)) [])∧(True→length (fst (iT x (length (d6 (Str.ofString "edcba")))))+length (fst (iT x (length (d6 (Str.ofString "edcba")))))≤sizeLine∧SL (fst (iT x (length (d6 (Str.ofString "edcba"))))++fst (iT x (length (d6 (Str.ofString "edcba")))))∧AV.lst (cu (fst (iT x (length (d6 (Str.ofString "edcba"))))++fst (iT x (length (d6 (Str.ofString "edcba"))))) (some (fmod turn ((10:Nat):Int))) none none)= .lst (drop (toNat (fmod turn 10)) (fst (iT x 5)++fst (iT x 5)))∧SL (drop (toNat (fmod turn 10)) (fst (iT x 5)++fst (iT x 5)))∧AV.lst (cu (drop (toNat (fmod turn 10)) (fst (iT x 5)++fst (iT x 5))) none (some ((10:Nat):Int)) none)= .lst (j3 x turn)∧VI (.lst (j3 x turn)) (.lst (j3 x turn))∧([]:Os)=[])) ?_ (by kernel_rfl!)
  rw[VH]
  refine⟨by kernel_rfl,⟨trivial,rfl⟩,fun i c hc O=>?_,fun O=> ⟨sz (sa hL hL) rfl,sz (qN hL hL) rfl,hJ (jd _ (Lo (n:=10) (by decide))),sz (l7 (qN hL hL)) rfl,hJ (mJ _ (by decide)),rfl,rfl⟩⟩
  have hi:i<5:=VH▸(V7.mp hc).1
  have e:iT x (i+1)=gv c (iT x i):=E5 (gv · (iT x i)) (by rw[U3,hc];rfl)
  show(x7 y g').set (.v c) ⟨JI turn (iT x i),[],RT (iT x i)⟩ fun s2=> (x8 y g').ex s2 fun f s3=>bF f (True∧av s3 (JI turn (iT x (i+1))) []) False _
  rw[e]
  exact zF turn _ c _ (by rw[rx];exact E4 (Y6 2 (Yy hi)) (E8 10))
end
end
section
section
theorem Dx(l:List (Nat×Int)):join (Str.ofString "") (l.map fun p=>ch p.1++aT.getD p.2.toNat ⟨#[]⟩)=bk (l.flatMap fun p=>[ch p.1,aT.getD p.2.toNat ⟨#[]⟩]):=by
 have nl:∀x:Str,x++(⟨#[]⟩:Str)=x:=fun x=>E5 Str.mk (Array.append_empty (xs:=x.cps))
 refine(StrLaws.glued_eq_join ..).trans ?_
 induction l with
 | nil=>rfl
 | cons p l ih=>
  cases l with
  | nil=>exact E5 (ch p.1++ ·) (nl _).symm
  | cons q l=>
   rw[YI,YI,List.flatMap_cons]
   rw[YI] at ih
   show(ch p.1++aT.getD p.2.toNat ⟨#[]⟩)++(⟨#[]⟩:Str)++Str.join _ _=ch p.1++(aT.getD p.2.toNat ⟨#[]⟩++bk _)
   rw[nl,Str.append_assoc]
   exact E5 (fun z=>ch p.1++(aT.getD p.2.toNat ⟨#[]⟩++z)) ih
noncomputable def lB(c5:Int):Nat:=(c5.fmod (5:Nat)).toNat
structure JJ(es:Array DictEntry)(c0 c1 c5:Int)(lo lv:List Nat)(sg hs:List Int)(ws:List (List Str))(wk:Nat→Bool)(st:Nat→Nat)(nx:Nat→Int→Int)(P:Int→Prop):Prop where
 road:j3 c0 c1=cV lo
 ll:lo.length=10
 l5:∀c∈lo,c∈rj
 tl:(cO lv sg).length≤100
 Ub:∀(i:Nat) (t:Str),(cO lv sg++ [(⟨#[]⟩:Str)])[i]? =some t→t.length≤1000
 Uc:∀i,i<(cO lv sg).length→(bk ((cO lv sg).drop i)).length≠0
 Ud:∀i,(bk ((cO lv sg).drop i)).length≤1000
 cut:∀i t,(cO lv sg)[i]? =some t→be (bk ((cO lv sg).drop i)) (cutSize es (bk ((cO lv sg).drop i)))=t∧fz (bk ((cO lv sg).drop i)) (cutSize es (bk ((cO lv sg).drop i)))=bk ((cO lv sg).drop (i+1))
 rd:aL es (cO lv sg) ((cO lv sg).length+1)=⟨lv.map ch,(sg.map fun s=>some (((208:Nat):Int)+s))++ [none]⟩
 XH:(d6 (Str.ofString "AbCdE")).filterMap (v0 (ca lv hs 10))=bq (ji hs (dn lv))
 way:(d6 (Str.ofString "aBcDe")).filterMap (v6 (bZ lv 10))=bq ws
 XI:rg ws
 QG:q6 (a7 (jY hs (dn lv)))
 RU:∀k,k<5→bJ (a7 (jY hs (dn lv))) k k=0
 P0:P ((jY hs (dn lv)).getD 0 (0,0)).1
 pick:∀p,p<32→v9 (jY hs (dn lv)) (t6 (jo hs 10)) (a7 (jY hs (dn lv))) ((jY hs (dn lv)).getD 0 (0,0)).1 wk st nx P p
 trees:jh ws (lB c5) 16=v7 wk 32
 det:tS (gu (a7 (jY hs (dn lv))))
 HH:kN (gu (a7 (jY hs (dn lv))))=v7 wk 32
def t8(es:Array DictEntry):Prop:= ∀(c0 c1 c2 c3 c5:Int) (X:Nat),0≤c0→0≤c1→0≤c2→0≤c3→0≤c5→∃lo ws wk st nx P,JJ es c0 c1 c5 lo (zt c2 lo) (Di c3) (da X 10) ws wk st nx P
theorem Mr(X:Nat):RO (da X 10):=⟨(E9 ..).trans YP,fun k hk=> ⟨bn X k % 64,YK _ (by decide),by
 unfold da
 rw[U3,V9,ZH hk];rfl⟩⟩
theorem HI{hs:List Int}{od:List Nat}:∀p∈jY hs od,p.1≤p.2:=fun p hp=>by
 obtain⟨j,_,rfl⟩:=U0.mp hp
 exact Dp _ _
section
variable {y:Lay}{g:Gd}{xs:List Int}
theorem HJ{hs:List Int}{lv:List Nat}(hh:RO hs):(bq (ji hs (dn lv))).filterMap JH=(jY hs (dn lv)).map cS:=by
 have e:∀k,k<10→dD (bL (hs.getD ((dn lv).getD k 0) 0))=hs.getD ((dn lv).getD k 0) 0:=fun k hk=>by
  obtain⟨n,NA,en⟩:=hh.2 _ (t5 (lv:=lv) hk)
  rw[en];exact p8 n NA
 have f:(bq (ji hs (dn lv))).filterMap JH=(List.range 5).map fun j=>cS (rn (dD (bL (hs.getD ((dn lv).getD (2*j+1) 0) 0))) (dD (bL (hs.getD ((dn lv).getD (2*j) 0) 0)))):=rfl
 rw[f,jY,V3]
 refine YU fun j hj=>?_
 have h1:2*j+1<10:=Y6 2 (YD.mp hj)
 rw[e _ h1,e _ (aas h1)];rfl
theorem Ms{l:List Nat}{f:Nat→Nat}:FS (.int (-1)) ((l.map fun p=> ((f p:Nat):Int)).map .int) false:=by
 refine⟨.int (-1),(l.map fun p=> ((f p:Nat):Int)).map .int,rfl,(eL _).1.symm,rfl,(eL _).2.1,rfl,(eL _).2.2.1,E1 rfl,?_⟩
 rw[abe]
 intro y hy
 obtain⟨z,hz,rfl⟩:=U0.mp hy
 obtain⟨p,_,rfl⟩:=U0.mp hz
 exact fun h=>nomatch h
theorem Dy:Bw (Str.ofString "( ) [ ] : , ; + - * / | & < > = . % { } == != <= >= ~ ^ << >> ** += -= *= /= %= &= |= ^= <<= >>= **= // //= @ @= -> ... := !") (.lst (aT.map .str)):=⟨aT,by decide+kernel,by decide+kernel,by decide+kernel,by decide+kernel,rfl⟩
noncomputable abbrev mr(c0:Int)(c1:Int)(c2:Int)(c3:Int)(x:Nat)(c5:Int)(xs:List Int):Os:=[(19,EO.cell none),(18,EO.cell none),(17,EO.cell none),(16,EO.cell none),(15,EO.cell none),(14,EO.cell none),(13,EO.cell none),(12,EO.cell (some (.v (.lst (map AV.str aT))))),(11,EO.cell (some (.v (.lst (map AV.int [c0,c1,c2,c3,(↑x:Int),c5]))))),(10,EO.cell (some (.v (.lst (map AV.int xs)))))]
noncomputable abbrev eM(c0:Int)(c1:Int)(c2:Int)(c3:Int)(x:Nat)(c5:Int):=map AV.int [c0,c1,c2,c3,(↑x:Int),c5]
noncomputable abbrev dp:=AV.lst (map AV.str aT)
noncomputable abbrev ry:=cA [AV.int 500,.int ((3:Nat):Int),.int 677,.int ((28:Nat):Int),.int 1000,.int ((2:Nat):Int)]
noncomputable abbrev dq(lv:List Nat):=AV.lst (af (dn lv))
noncomputable abbrev cT(hs:List Int)(lv:List Nat):=bq (ji hs (dn lv))
noncomputable abbrev rz:Nat×EO:=(12,EO.cell (some (.v (.lst (map AV.str aT)))))
noncomputable abbrev rA:=aJ ((0:Nat):Int) ((10:Nat):Int) ((2:Nat):Int)
noncomputable abbrev dw(c0:Int)(c1:Int)(c2:Int)(c3:Int)(x:Nat)(c5:Int):=AV.lst (eM c0 c1 c2 c3 x c5)
noncomputable abbrev rB:=aJ (0:Int) ((10:Nat):Int) (1:Int)
noncomputable abbrev nZ:=aJ (0:Int) ((5:Nat):Int) (1:Int)
noncomputable abbrev n5(hs:List Int):Nat×EO:=(13,EO.cell (some (.v (.lst (map AV.int hs)))))
noncomputable abbrev n6(xs:List Int):Nat×EO:=(10,EO.cell (some (.v (.lst (map AV.int xs)))))
noncomputable abbrev n7(lv:List Nat):Nat×EO:=(14,EO.cell (some (.v (.lst (af (dn lv))))))
noncomputable abbrev n8(sq:List (List Int)):Nat×EO:=(31,EO.aU (ak (fst (dS (gu sq) 4))))
noncomputable abbrev n9:=d6 (Str.ofString "AbCdE")
noncomputable abbrev n_:=d6 (Str.ofString "aBcDe")
noncomputable abbrev oa:Nat×EO:=(16,EO.cell (some (.r 44)))
noncomputable abbrev oe:Nat×EO:=(15,EO.cell (some (.r 40)))
theorem Mu(X:cH y g)(CF:jR)(PL:t8 y.es)(T:zc y.es)(hf:FnAt g.K (y.ad 81) (rQ 81) (Str.ofString "law") .none .none)(hn:60≤g.n)(hx:xs.length≤63):
  Fn g (.v (.val (.ref (y.ad 81)))) [.v (.lst (xs.map .int))] [] [] [] (.v (.bool true)) []:=by
 obtain⟨x,hX⟩:∃x:Nat,fg xs 4 1000=x:=⟨_,(Y5 (iE xs 4 (by decide))).symm⟩
 obtain⟨lo,ws,wk,st,nx,P,L⟩:=PL (fg xs 0 500) (fg xs 1 3) (fg xs 2 677) (fg xs 3 28) (fg xs 5 2) x (iE xs 0 (by decide)) (iE xs 1 (by decide)) (iE xs 2 (by decide)) (iE xs 3 (by decide)) (iE xs 5 (by decide))
 have gl:=x5 (fg xs 2 677) lo
 rw[L.ll] at gl
 have g6:∀c∈zt (fg xs 2 677) lo,c∈six:=fun c hc=>by
  obtain⟨p,hp,rfl⟩:=U0.mp hc
  exact(Dg _ (L.l5 _ (by rw[(List.mem_zipIdx hp).2.2];exact Zm _))).1
 have hh:=Mr x
 generalize e0:fg xs 0 500=c0 at L
 generalize e1:fg xs 1 3=c1 at L
 generalize e2:fg xs 2 677=c2 at L gl g6
 generalize e3:fg xs 3 28=c3 at L
 generalize e5:fg xs 5 2=c5 at L
 generalize XJ:zt c2 lo=lv at L gl g6
 have mP:=Ms (l:=List.range 10) (f:=fun p=>bn x p % 64)
 rw[show((List.range 10).map fun p=> ((bn x p % 64:Nat):Int))=da x 10 from rfl] at mP
 generalize XK:da x 10=hs at L hh mP
 generalize Ue:Di c3=sg at L
 have sl:sg.length=10:=by rw[← Ue];exact(E9 ..).trans YP
 have QH:∀s∈sg,0≤s∧s<((48:Nat):Int):=fun s h=>by
  rw[← Ue] at h
  obtain⟨k,_,rfl⟩:=U0.mp h
  exact x6 c3 k
 generalize ND:jY hs (dn lv)=ps at L
 generalize erw:jo hs 10=row at L
 generalize Uf:a7 ps=sq at L
 have pk:=L.pick
 have QG:=L.QG
 have RU:=L.RU
 have P0:=L.P0
 have det:=L.det
 have HH:=L.HH
 rw[ND,erw,Uf] at pk
 rw[ND,Uf] at QG RU det HH
 rw[ND] at P0
 refine iN X (Zg (k:=51) hn) hf (rV y) (VF y) (.f (tX xs) (Dk xs)<| .v (.lst ([c0,c1,c2,c3,(x:Int),c5].map .int))<|
   .v (.lst (aT.map .str))<| .v (.int c0)<| .v (.int c1)<| .call (.v (.lst (cV lo))) []<| .f (QD c2) (T7 c2)<| .v (.lst (cV lv))<|
   .f (Dh c3) (fun O=> .v (.int c3)<| .v (.int c3) .nil)<| .v (.lst (sg.map .int))<|
   .f QE (fun z=> .v (.str (aT.getD (dC (lZ (rU z) 1)).toNat ⟨#[]⟩)) .nil)<| .v (.lst ((QF lv sg).map .str))<| .v (.str (bk (cO lv sg)))<| .call (.v (.tup [.lst (cV lv),.lst (EC sg)])) []<|
   .b true<| .a<| .f Nz (fun O=> .nil)<| .v (.lst ((sg.map fun s=> ((208:Nat):Int)+s).map .int))<| .b true<| .a<| .a<|
   .v (.int x)<| .call (.v (.lst (hs.map .int))) []<| .call (.v (.lst (af (dn lv)))) []<|
   .v (.str (ch (lv.getD 0 0)))<| .v (.str (ch (lv.getD 1 0)))<| .call (.r 0) [(0,.any 3 (fU (ca lv hs 0) (y.ad 100)))]<| .call (.r 0) [(0,.any 3 (fU [] (y.ad 100)))]<|
   .loop (fun O=>True) (fun O=>zz lv sg none none none none none none none none) (fun i=>uv (y.ad 100) (ED xs (.lst ([c0,c1,c2,c3,(x:Int),c5].map .int)) (.lst (aT.map .str)) (.lst (af (dn lv))) hs) lv hs i) (fun i O=>T9 y lv hs i)<|
   .f (zA hs (dn lv)) (Mn hs (dn lv))<| .v (.lst (bq (ji hs (dn lv))))<| .b false<| .a<|
   .f (v0 (ca lv hs 10)) (fun z=> .v (.val (.ref (y.am 7)))<| .call (.v (.lst (aV (ca lv hs 10) (jf z)))) [(40,.any 3 (fU (ca lv hs 10) (y.ad 100)))] .nil)<| .v (.lst (bq (ji hs (dn lv))))<| .b true<| .a<| .a<|
   .f JH T_<| .v (.lst (ps.map cS))<|
   .f (v6 (bZ lv 10)) (fun z=> .v (.val (.ref (y.am 7)))<| .call (.v (.lst (aV (bZ lv 10) (jf z)))) [(44,.any 3 (fU (bZ lv 10) (y.ad 100)))]<| .f gr (fun O=> .nil)<| .v (.lst ((aV (bZ lv 10) (jf z)).filterMap gr)) .nil)<| .v (.lst (bq ws))<|
   .f (fun O=>none) (fun z=> .call (.v (.int ((row.countP fun z'=>decide (z'≤dC z)):Nat))) []<| .v (.int (nextOf row (dC z))) .nil)<|
   .call (.v (.lst (ak sq))) []<|
   .loop (fun O=>True) (fun i=>zz lv sg (some (.v (.lst (bq (ji hs (dn lv)))))) (some (.v (.lst (ps.map cS)))) (some (.v (.lst (bq ws)))) (some (.r 30)) (some (.v (.int (v7 wk i)))) none none none)
    (fun O=>lS g (y.ad 100) xs (.lst ([c0,c1,c2,c3,(x:Int),c5].map .int)) (.lst (aT.map .str)) (.lst (af (dn lv))) lv hs row (some (.v (.lst (ak sq)))) none) (fun p O=>Mp g row sq wk st p)<|
   .f (Mo sq) (RR sq)<| .v (.lst (ak (gu sq)))<|
   .v (.int c5)<| .call (.v (.int (jh ws (lB c5) 16))) []<| .call (.v (.int (kN (gu sq)))) [(31,.aU (ak (dS (gu sq) 4).1))] .nil) (by intros;kernel_rfl!) (fun g' b=>?_)
 have X':=X.bS b.bS
 have x9:∀ {k:Nat},ble k 50=true→k≤g'.n:=fun h=>E4 (E1 h) (by rw[b.n];exact E4 (by decide) (Nat.sub_le_sub_right hn 1))
 have em:lS g=lS g':=by unfold lS;rw[nQ b]
 have ep:Mp g=Mp g':=by unfold Mp;rw[nQ b]
 rw[em,ep]
 change (VF y g').ex ⟨_,jn xs none none none none none none none none none,_⟩ _
 have l6:([c0,c1,c2,c3,(x:Int),c5].map AV.int).length≤sizeLine:=E1 rfl
 have Jz:(cV lv).length≤sizeLine:=sz (ar (U8 gl)) rfl
 have VJ:=HG X' (x9 rfl) c0 c1
 rw[L.road] at VJ
 have Ug:=GY X' (x9 rfl) T (cO lv sg) L.tl L.Ub L.Uc L.Ud L.cut
 rw[L.rd] at Ug
 have rd:(lv.map ch).map AV.str=cV lv∧((sg.map fun s=>some (((208:Nat):Int)+s))++ [none]).map xN=EC sg:=by
  unfold cV EC
  rw[V3,YA,V3]
  exact⟨rfl,rfl⟩
 rw[rd.1,rd.2] at Ug
 have VK:=GK X' (x9 rfl) CF gl g6 x
 rw[XK] at VK
 have XM:=Cf X' (x9 rfl) gl g6
 have pl:ps.length=5:=by rw[← ND];exact(E9 ..).trans YP
 have XN:∀p∈ps,p.1≤p.2:=by rw[← ND];exact HI
 have VL:=Cz X' (x9 rfl) ps pl XN
 rw[Uf] at VL
 have VM:=C1 X' (x9 rfl) ws L.XI (lB c5) (toNat_lt (Lo (by decide)) (RC (by decide)))
 rw[show((lB c5:Nat):Int)=c5.fmod ((5:Nat):Int) from Y5 (Lo (by decide))] at VM
 have XO:=(LY X' (x9 rfl) det).shift 31
 have Yu:(aJ 0 ((10:Nat):Int) 1).length=10:=fC
 have Yv:(aJ 0 ((32:Nat):Int) 1).length=32:=fC
 have sr:PyData.strOk (Str.ofString "end")=true:=by decide+kernel
 have XQ:∀c∈lv,PyData.strOk (ch c)=true:=fun c hc=>by
  have:(six.all fun c=>PyData.strOk (ch c))=true:=by decide+kernel
  exact Jb.mp this c (g6 c hc)
 have zG:(sg.map AV.int).length≤10:=ar (U8 sl)
 have h0:bT (cV lv) ((0:Nat):Int)=some (.str (ch (lv.getD 0 0))):=aO 0 (by rw[gl];decide)
 have h1:bT (cV lv) ((1:Nat):Int)=some (.str (ch (lv.getD 1 0))):=aO 0 (by rw[gl];decide)
 have q0:=rm gl g6 (k:=0) (by decide)
 have q1:=rm gl g6 (k:=1) (by decide)
 have XR:(aJ 0 ((10:Nat):Int) 1).filterMap (Dh c3)=sg.map .int:=by rw[← Ue];rfl
 have JK:∀r∈ji hs (dn lv),∃a b:Nat,a<64∧b<64∧r=[bL a,bL b]:=fun r hr=>by
  obtain⟨j,hj,rfl⟩:=U0.mp hr
  have h1:2*j+1<10:=Y6 2 (YD.mp hj)
  obtain⟨a,Uh,ea⟩:=hh.2 _ (t5 (lv:=lv) h1)
  obtain⟨c,Ui,ec⟩:=hh.2 _ (t5 (lv:=lv) (aas h1))
  exact⟨a,c,Uh,Ui,by rw[ea,ec]⟩
 have QI:∀r∈ji hs (dn lv),∀z∈r,PyData.strOk z=true:=fun r hr z hz=>by
  obtain⟨a,c,Uh,Ui,rfl⟩:=JK r hr
  rcases V1.mp hz with rfl | hz
  ·exact(Dm Uh).2
  ·rw[Yz.mp hz];exact(Dm Ui).2
 have dl:(bq (ji hs (dn lv))).length≤5:=ar (ar (U8 YP))
 have XS:(bq (ji hs (dn lv))).filterMap JH=ps.map cS:=by rw[← ND];exact HJ hh
 have rs:row.Pairwise fun a b=>a≤b:=by rw[← erw];exact gq hs 10
 have rl:row.length=10:=by rw[← erw];exact ml hs 10
 refine aR (P:=length ry≤sizeLine∧LC.bV (C4 y g') none (jn xs none none none none none none none none none) (tX xs) (Dk xs) ry∧filterMap (tX xs) ry=map .int [c0,c1,c2,c3,(↑x:Int),c5]∧_∧_∧bT (eM c0 c1 c2 c3 x c5) ((0:Nat):Int)=some (.int c0)∧_∧bT (eM c0 c1 c2 c3 x c5) ((1:Nat):Int)=some (.int c1)∧_∧length (cA (cV lo))≤sizeLine∧LC.bV (C5 y g') none (mr c0 c1 c2 c3 x c5 xs) (QD c2) (T7 c2) (cA (cV lo))∧_∧Builtin.Range.small (0:Int) ((10:Nat):Int) (1:Int)=true∧length rB≤sizeLine∧LC.bV (C6 y g') none (mr c0 c1 c2 c3 x c5 xs) (Dh c3) (fun(x:AV)=>Hint.v (AV.int c3) (Hint.v (AV.int c3) .nil)) rB∧_∧length (lH (cV lv) (map AV.int sg))≤sizeLine∧LC.bV (C7 y g') none (mr c0 c1 c2 c3 x c5 xs) QE (fun(z:AV)=>Hint.v (AV.str (List.getD aT (toNat (dC (lZ (rU z) 1))) (Str.mk #[]))) .nil) (lH (cV lv) (map AV.int sg))∧_∧vQ (Str.ofString "") (map AV.str (QF lv sg)) (AV.str (bk (cO lv sg)))∧_∧fK (AV.lst (cV lv)) (AV.lst (cV lv)) true∧_∧LC.bV (C8 y g') none (mr c0 c1 c2 c3 x c5 xs) Nz (fun O=> .nil) (map AV.int sg)∧_∧length (map AV.int (map (fun(s:Int)=> ((208:Nat):Int)+s) sg))+length [AV.str (Str.ofString "end")]≤sizeLine∧fK (AV.lst (EC sg)) (AV.lst (map AV.int (map (fun(s:Int)=> ((208:Nat):Int)+s) sg)++ [AV.str (Str.ofString "end")])) true∧_∧bT (eM c0 c1 c2 c3 x c5) ((4:Nat):Int)=some (.int ↑x)∧_∧_∧_∧_∧_∧_∧Str.length (ch (List.getD lv 0 0))+Str.length (ch (List.getD lv 1 0))≤sizeLine∧_∧_∧Builtin.Range.small (0:Int) ((10:Nat):Int) (1:Int)=true∧(True∧av (.mk ([none,some (.v (.lst (cV lv))),some (.v (.lst (map AV.int sg))),some (.v (.lst (cV lv))),some (.v (.lst (EC sg))),none,none,none,none,none,none,none,none]) ([(50,EO.list []),(44,EO.any 3 (fU [] (y.ad 100))),(40,EO.any 3 (fU (ca lv hs 0) (y.ad 100))),(19,EO.cell none),(18,EO.cell none),(17,EO.cell (some (.r 50))),oa,oe,(n7 lv),(n5 hs),rz,(11,EO.cell (some (.v (.lst (eM c0 c1 c2 c3 x c5))))),(n6 xs)]) .nil) (zz lv sg none none none none none none none none) ((fun(i:Nat)=>uv (y.ad 100) (ED xs (dw c0 c1 c2 c3 x c5) dp (dq lv) hs) lv hs i) 0))∧(bg (C9 y g') (C_ y g') rB (fun(x:Nat)=>True) (fun(x:Nat)=>zz lv sg none none none none none none none none) (fun(i:Nat)=>uv (y.ad 100) (ED xs (dw c0 c1 c2 c3 x c5) dp (dq lv) hs) lv hs i) (fun(i:Nat) (x:AV)=>T9 y lv hs i) fun(v:RV) (s3:S)=>dH (RF.ret v) s3 (AV.bool true) [])∧(True→((((2:Nat):Int)≠(0:Int))∧((Builtin.divisionGoesByPylong (((10:Nat):Int) - ((0:Nat):Int)) ((2:Nat):Int))=false)∧((Builtin.Range.small ((0:Nat):Int) ((10:Nat):Int) ((2:Nat):Int))=true)∧(length rA≤sizeLine)∧(LC.bV (C' y g') none (uv (y.ad 100) (ED xs (dw c0 c1 c2 c3 x c5) dp (dq lv) hs) lv hs 10) (zA hs (dn lv)) (Mn hs (dn lv)) rA)∧((filterMap (zA hs (dn lv)) rA)=(cT hs lv))∧(FS (AV.int (-((1:Nat):Int))) (map AV.int hs) false)∧((Array.all (Str.cps (Str.ofString "AbCdE")) fun(x:Nat)=>decide (x<128))=true)∧(length n9≤sizeLine)∧(LC.bV (Da y g') none (uv (y.ad 100) (ED xs (dw c0 c1 c2 c3 x c5) dp (dq lv) hs) lv hs 10) (v0 (ca lv hs 10)) (fun(z:AV)=>Hint.v (AV.val (Value.ref (y.am 7))) (Hint.call (RV.v (.lst (aV (ca lv hs 10) (jf z)))) [(40,EO.any 3 (fU (ca lv hs 10) (y.ad 100)))] .nil)) n9)∧((filterMap (v0 (ca lv hs 10)) n9)=(cT hs lv))∧(fK (AV.lst (cT hs lv)) (AV.lst (cT hs lv)) true)∧(length (cT hs lv)≤sizeLine)∧(LC.bV (Dc y g') none (uv (y.ad 100) (ED xs (dw c0 c1 c2 c3 x c5) dp (dq lv) hs) lv hs 10) JH T_ (cT hs lv))∧((filterMap JH (cT hs lv))=(map cS ps))∧((Array.all (Str.cps (Str.ofString "aBcDe")) fun(x:Nat)=>decide (x<128))=true)∧(length n_≤sizeLine)∧(LC.bV (vS y g') none (uv (y.ad 100) (ED xs (dw c0 c1 c2 c3 x c5) dp (dq lv) hs) lv hs 10) (v6 (bZ lv 10)) (fun(z:AV)=>Hint.v (AV.val (Value.ref (y.am 7))) (Hint.call (RV.v (.lst (aV (bZ lv 10) (jf z)))) [(44,EO.any 3 (fU (bZ lv 10) (y.ad 100)))] (Hint.f gr (fun O=> .nil) (Hint.v (AV.lst (filterMap gr (aV (bZ lv 10) (jf z)))) .nil)))) n_)∧((filterMap (v6 (bZ lv 10)) n_)=(bq ws))∧∃(f:AV→Int×AV),length (map AV.int (jo hs 10))≤sizeLine∧DC.turn (vT y g') [(44,EO.any 3 (fU (bZ lv 10) (y.ad 100))),(40,EO.any 3 (fU (ca lv hs 10) (y.ad 100))),(19,EO.cell none),(18,EO.cell none),(17,EO.cell (some (.v (.lst (map AV.int (jo hs 10)))))),oa,oe,(n7 lv),(n5 hs),rz,(11,EO.cell (some (.v (.lst (eM c0 c1 c2 c3 x c5))))),(n6 xs)] f (fun(z:AV)=>Hint.call (RV.v (.int (↑(List.countP (fun(z':Int)=>decide (z'≤dC z)) row):Int))) [] (Hint.v (AV.int (nextOf row (dC z))) .nil)) (map AV.int (jo hs 10))∧Fn g' (RV.v (.val (Value.ref (y.ad 76)))) [RV.v (.lst (map cS ps))] [] [] [] (RV.v (.lst (ak sq))) []∧Builtin.Range.small (0:Int) ((32:Nat):Int) (1:Int)=true∧(True∧av (.mk [none,some (.v (.lst (cV lv))),some (.v (.lst (map AV.int sg))),some (.v (.lst (cV lv))),some (.v (.lst (EC sg))),some (.v (.lst (cT hs lv))),some (.v (.lst (map cS ps))),some (.v (.lst (bq ws))),some (.r 30),some (.v (.int ((0:Nat):Int))),none,none,none] [(30,eG g' (foldl (gM f) [] (map AV.int (jo hs 10)))),(44,EO.any 3 (fU (bZ lv 10) (y.ad 100))),(40,EO.any 3 (fU (ca lv hs 10) (y.ad 100))),(19,EO.cell none),(18,EO.cell (some (.v (.lst (ak sq))))),(17,EO.cell (some (.v (.lst (map AV.int (jo hs 10)))))),oa,oe,(n7 lv),(n5 hs),rz,(11,EO.cell (some (.v (.lst (eM c0 c1 c2 c3 x c5))))),(n6 xs)] (Hint.loop (fun(x:Nat)=>True) (fun(i:Nat)=>zz lv sg (some (.v (.lst (cT hs lv)))) (some (.v (.lst (map cS ps)))) (some (.v (.lst (bq ws)))) (some (.r 30)) (some (.v (.int (v7 wk i)))) none none none) (fun(za:Nat)=>lS g' (y.ad 100) xs (dw c0 c1 c2 c3 x c5) dp (dq lv) lv hs row (some (.v (.lst (ak sq)))) none) (fun(p:Nat) (x:AV)=>Mp g' row sq wk st p) (Hint.f (Mo sq) (RR sq) (Hint.v (AV.lst (ak (gu sq))) (Hint.v (AV.int c5) (Hint.call (RV.v (.int (jh ws (lB c5) 16))) [] (Hint.call (RV.v (.int (kN (gu sq)))) [(n8 sq)] .nil))))))) (zz lv sg (some (.v (.lst (cT hs lv)))) (some (.v (.lst (map cS ps)))) (some (.v (.lst (bq ws)))) (some (.r 30)) (some (.v (.int (v7 wk 0)))) none none none) (lS g' (y.ad 100) xs (dw c0 c1 c2 c3 x c5) dp (dq lv) lv hs row (some (.v (.lst (ak sq)))) none))∧(bg (vV y g') (vW y g') (aJ (0:Int) ((32:Nat):Int) (1:Int)) (fun(x:Nat)=>True) (fun(i:Nat)=>zz lv sg (some (.v (.lst (cT hs lv)))) (some (.v (.lst (map cS ps)))) (some (.v (.lst (bq ws)))) (some (.r 30)) (some (.v (.int (v7 wk i)))) none none none) (fun(za:Nat)=>lS g' (y.ad 100) xs (dw c0 c1 c2 c3 x c5) dp (dq lv) lv hs row (some (.v (.lst (ak sq)))) none) (fun(p:Nat) (x:AV)=>Mp g' row sq wk st p) fun(v:RV) (s3:S)=>dH (RF.ret v) s3 (AV.bool true) [])∧(True→Builtin.Range.small (0:Int) ((5:Nat):Int) (1:Int)=true∧length nZ≤sizeLine∧LC.bV (vY y g') (some (Str.ofString "i",29)) (lS g' (y.ad 100) xs (dw c0 c1 c2 c3 x c5) dp (dq lv) lv hs row (some (.v (.lst (ak sq)))) none) (Mo sq) (RR sq) nZ∧filterMap (Mo sq) nZ=ak (gu sq)∧length (eM c0 c1 c2 c3 x c5)≤sizeLine∧bT (eM c0 c1 c2 c3 x c5) ((5:Nat):Int)=some (AV.int c5)∧Fn g' (RV.v (.val (Value.ref (y.ad 80)))) [RV.v (.lst (bq ws)),RV.v (.int (fmod c5 ((5:Nat):Int)))] [] [] [] (RV.v (.int (jh ws (lB c5) 16))) []∧v7 wk 32=jh ws (lB c5) 16∧Fn g' (RV.v (.val (Value.ref (y.ad 78)))) [RV.r 31] [] [] [(31,EO.list (ak (gu sq)))] (RV.v (.int (kN (gu sq)))) [(n8 sq)]∧jh ws (lB c5) 16=kN (gu sq)∧dH (RF.ret (RV.v (.bool true))) (S.mk [none,some (.v (.lst (cV lv))),some (.v (.lst (map AV.int sg))),some (.v (.lst (cV lv))),some (.v (.lst (EC sg))),some (.v (.lst (cT hs lv))),some (.v (.lst (map cS ps))),some (.v (.lst (bq ws))),some (.r 30),some (.v (.int (v7 wk 32))),none,none,some (.r 31)] ((n8 sq)::lS g' (y.ad 100) xs (dw c0 c1 c2 c3 x c5) dp (dq lv) lv hs row (some (.v (.lst (ak sq)))) none) .nil) (AV.bool true) []))))
  ⟨E1 rfl,zu hx,?_,Dy,l6,dW rfl,l6,dW rfl,VJ,sz (U8 ((kC _).trans ((E9 ..).trans L.ll))) rfl,zw rfl (dW rfl) lo L.l5 L.ll,XJ▸Hs c2 lo,
  by decide,E1 rfl,Dl rfl (dW rfl),XR,?_,Hw lv sg QH,Hu lv sg,⟨QF lv sg,rfl,?_,E5 AV.str (Dx _).symm⟩,Ug,rd.1▸zr fun z hz=>?_,sz zG rfl,Hx _ sg,Hv sg,?_,?_,l6,dW rfl,VK,XM,
  Jz,h0,Jz,h1,E1 rfl,T6 X' (x9 rfl) (l:=ca lv hs 0) (fun p hp=>?_),Tz X' (x9 rfl),by decide,⟨trivial,rfl⟩,fun i z hz O=>?_,fun O=>?_⟩ (by kernel_rfl!)
 ·rw[← e0,← e1,← e2,← e3,← hX,← e5];rfl
 ·unfold lH
  rw[E9,aaO]
  exact E4 (abr ..) (sz zG rfl)
 ·rw[show(Str.ofString "").length=0 from rfl,Nat.mul_zero]
  have:∀l:List (Nat×Int),(∀p∈l,p.2.toNat<48)→((l.map fun p=>ch p.1++aT.getD p.2.toNat ⟨#[]⟩).map (·.length)).sum≤4*l.length:=fun l h=>by
   induction l with
   | nil=>exact E8 _
   | cons p l ih=>
    rw[YI,YI,List.sum_cons,aaF,ab8,Z8]
    refine aau (ih fun q hq=>h q (E6 _ hq)) ?_
    rw[abY]
    exact YT (tZ _ (h p E7)) 1
  have h:=this (lv.zip sg) fun p hp=>toNat_lt (QH _ (aal hp).2).1 (QH _ (aal hp).2).2
  rw[aaO] at h
  exact E4 h (E4 (Y6 4 (E4 (Nat.min_le_left ..) (U8 gl))) (by decide))
 ·obtain⟨c,hc,rfl⟩:=U0.mp hz
  exact XQ c hc
 ·exact sz (sa (ar (ar (U8 sl))) (E8 1)) rfl
 ·have:=nS (l:=(sg.map fun s=>PyData.int (((208:Nat):Int)+s))++ [.str (Str.ofString "end")]) (k:=0) (fun d hd=>?_) (by decide)
  ·rw[YA,V3] at this
   unfold EC
   rw[V3]
   exact this
  ·rcases YZ.mp hd with hd | hd
   ·obtain⟨s,_,rfl⟩:=U0.mp hd
    exact⟨rfl,E8 _,rfl⟩
   ·rw[Yz.mp hd]
    exact⟨sr,E8 _,rfl⟩
 ·rw[Yz.mp hp]
  exact⟨Mi q0 q1,T8⟩
 ·obtain⟨hi,rfl⟩:=dm (n:=10) hz
  exact Dn X' (x9 rfl) gl g6 hh i hi _
 ·rw[erw]
  refine⟨by decide,by decide+kernel,by decide+kernel,E1 (by kernel_rfl!),Dr hh,Do _ _,mP,by decide+kernel,E1 (by kernel_rfl!),Ds X' (x9 rfl) gl g6,L.XH,zs QI,sz dl rfl,Hz _ _ JK,XS,by decide+kernel,E1 (by kernel_rfl!),Dt X' (x9 rfl),L.way,
   Du row,sz (ar (U8 rl)) rfl,Dv X' (x9 rfl) rs rl,VL,by decide,⟨trivial,rfl⟩,fun i z hz O=>?_,fun O=>?_⟩
  ·obtain⟨hi,rfl⟩:=dm (n:=32) hz
   exact zE X' (x9 rfl) QG RU pl rfl P0 i (pk i hi) _
  ·exact⟨by decide,E1 rfl,Dw QG,HF sq,l6,dW rfl,VM,L.trees.symm,XO,L.trees.trans HH.symm,rfl,rfl⟩
end
end
end
section
set_option tactic.hygienic true
section
structure dN(es:Array DictEntry):Prop where
 at':∀k:Nat,k<48→∃t,bf es (aT.getD k ⟨#[]⟩)=some (.int (7+(k:Int)) t)
 only:∀x,bG es x=true→x∈aT
noncomputable def oh(c:Nat):Bool:=six.contains c
theorem oi:∀x∈aT,∀c∈x.cps.toList,oh c=false:=by decide+kernel
theorem kT:∀k,k<48→1≤(aT.getD k ⟨#[]⟩).cps.toList.length∧(aT.getD k ⟨#[]⟩).cps.toList.length≤3:=by decide+kernel
theorem f_(a b:Str):(a++b).cps.toList=a.cps.toList++b.cps.toList:=by show(a.cps++b.cps).toList=_;simp
theorem iF{a b:Str}(h:a.cps.toList=b.cps.toList):a=b:=by
 obtain⟨a⟩:=a
 obtain⟨b⟩:=b
 simp only[Str.mk.injEq]
 exact Array.toList_inj.mp h
theorem iG(x:Str)(n:Nat):(be x n).cps.toList=x.cps.toList.take n:=by unfold be;simp
theorem p9(x:Str)(n:Nat):(fz x n).cps.toList=x.cps.toList.drop n:=by unfold fz;simp
def gw(es:Array DictEntry)(t R:Str):Prop:=be (t++R) (cutSize es (t++R))=t∧fz (t++R) (cutSize es (t++R))=R
theorem x_{es:Array DictEntry}{t R:Str}(h:cutSize es (t++R)=t.cps.toList.length):gw es t R:=by
 unfold gw
 rw[h]
 exact⟨iF (by rw[iG,f_,List.take_left'];rfl),iF (by rw[p9,f_,List.drop_left'];rfl)⟩
theorem rC{es:Array DictEntry}(T:dN es){S:Str}{n:Nat}{c:Nat}(hc:c∈S.cps.toList.take n)(h:oh c=true):bG es (be S n)=false:=by
 cases hi:bG es (be S n) with
 | false=>rfl
 | true=>
  have p1:=oi _ (T.only _ hi) c (by rw[iG];exact hc)
  rw[h] at p1;cases p1
theorem wc{es:Array DictEntry}(T:dN es){c:Nat}(hc:oh c=true)(R:Str):gw es (ch c) R:=by
 have hl:(ch c++R).cps.toList=c::R.cps.toList:=by rw[f_];rfl
 refine x_ ?_
 unfold cutSize
 rw[rC T (c:=c) (by rw[hl];simp) hc,rC T (c:=c) (by rw[hl];simp) hc]
 rfl
theorem Mv{es:Array DictEntry}(T:dN es){k:Nat}(hk:k<48){R:Str}{d:Nat}{R':List Nat}(hR:R.cps.toList=d::R')(hd:oh d=true):gw es (aT.getD k ⟨#[]⟩) R:=by
 obtain⟨l1,l3⟩:=kT k hk
 have mP:bG es (aT.getD k ⟨#[]⟩)=true:=by
  obtain⟨t,ht⟩:=T.at' k hk
  unfold bG
  rw[ht];rfl
 generalize aT.getD k ⟨#[]⟩=x at l1 l3 mP
 have hl:(x++R).cps.toList=x.cps.toList++d::R':=by rw[f_,hR]
 have VN:∀n,x.cps.toList.length<n→bG es (be (x++R) n)=false:=by
  intro n hn
  refine rC T (c:=d) ?_ hd
  rw[hl,List.take_append]
  refine aav _ ?_
  rw[← Zn (Nat.sub_pos_of_lt hn),List.take_succ_cons]
  exact E7
 have JL:be (x++R) x.cps.toList.length=x:=iF (by rw[iG,hl,List.take_left'];rfl)
 refine x_ ?_
 unfold cutSize
 by_cases h3:x.cps.toList.length=3
 ·rw[← h3,JL,mP];rfl
 ·have l2:=YS (abS l3 h3)
  rw[VN 3 (abS l3 h3)]
  by_cases h2:x.cps.toList.length=2
  ·rw[← h2,JL,mP];rfl
  ·have Uj:=abS l2 h2
   rw[VN 2 Uj]
   simp only[Zk,abq]
   first | exact Zq l1 (YS Uj) | exact(Zq l1 (YS Uj)).symm
theorem QJ{es:Array DictEntry}(T:dN es){k:Nat}(hk:k<48):bG es (aT.getD k ⟨#[]⟩)=true:=by
 obtain⟨t,ht⟩:=T.at' k hk
 unfold bG
 rw[ht];rfl
theorem Dz{es:Array DictEntry}(T:dN es){k:Nat}(hk:k<48):gw es (aT.getD k ⟨#[]⟩) ⟨#[]⟩:=by
 have h3:=(kT k hk).2
 have mP:=QJ T hk
 generalize aT.getD k ⟨#[]⟩=x at h3 mP
 have e:x++(⟨#[]⟩:Str)=x:=iF (by rw[f_];exact Y_ _)
 have e3:be x 3=x:=iF (by rw[iG];exact Y3 h3)
 unfold gw
 rw[e]
 have c3:cutSize es x=3:=by unfold cutSize;rw[e3,mP];rfl
 rw[c3]
 exact⟨e3,iF (by rw[p9];exact Zu h3)⟩
noncomputable abbrev RW(s:Int):Str:=aT.getD s.toNat ⟨#[]⟩
noncomputable abbrev wd(l:List (Nat×Int)):List Str:=l.flatMap fun p=>[ch p.1,RW p.2]
def ya(l:List (Nat×Int)):Prop:= ∀p∈l,oh p.1=true∧p.2.toNat<48
def we(es:Array DictEntry):List Str→Prop
 | []=>True
 | t::r=>gw es t (bk r)∧we es r
theorem yb{es:Array DictEntry}(T:dN es):∀l:List (Nat×Int),ya l→we es (wd l)
 | [],_=>trivial
 | p::l,h=>by
  have hp:=h p E7
  refine⟨wc T hp.1 _,?_,yb T l fun q hq=>h q (E6 _ hq)⟩
  cases l with
  | nil=>exact Dz T hp.2
  | cons q l=>exact Mv T hp.2 (R':=(bk (RW q.2::wd l)).cps.toList) (d:=q.1) (by show(ch q.1++bk _).cps.toList=_;rw[f_];rfl) (h q (E6 _ E7)).1
theorem yc{es:Array DictEntry}:∀ {toks:List Str},we es toks→∀i t,toks[i]? =some t→be (bk (toks.drop i)) (cutSize es (bk (toks.drop i)))=t∧fz (bk (toks.drop i)) (cutSize es (bk (toks.drop i)))=bk (toks.drop (i+1))
 | [],_,i,t,h=>by cases h
 | x::r,hc,0,t,h=>by cases h;exact hc.1
 | x::r,hc,i+1,t,h=>yc hc.2 i t h
theorem t9:∀l:List Str,(∀t∈l,t.length≤3)→(bk l).length≤3*l.length
 | [],_=>E8 _
 | x::r,h=>by
  rw[bk,abY,aaF,ab8,Z8]
  exact aau (t9 r fun t ht=>h t (E6 _ ht)) (h x E7)
theorem Mw{l:List (Nat×Int)}(h:ya l):∀t∈wd l,1≤t.length∧t.length≤3:=fun t ht=>by
 obtain⟨p,hp,ht⟩:=List.mem_flatMap.mp ht
 rcases V1.mp ht with rfl | ht
 ·exact⟨E8 1,E1 rfl⟩
 ·rw[Yz.mp ht]
  have:=kT _ (h p hp).2
  exact this
theorem t_{es:Array DictEntry}(T:dN es):∀(l:List (Nat×Int)) (s:iP),ya l→(∀p∈l,0≤p.2)→(wd l).foldl (aG es) s=⟨s.aS++l.map (fun p=>ch p.1),s.bP++l.map (fun p=>some (((208:Nat):Int)+p.2))⟩
 | [],s,_,_=>by rw[List.map_nil,List.map_nil,Y_,Y_];rfl
 | p::l,s,h,h0=>by
  have hp:=h p E7
  have e1:aG es s (ch p.1)=⟨s.aS++ [ch p.1],s.bP⟩:=by
   have:bf es (ch p.1)=none:=by
    cases e:bf es (ch p.1) with
    | none=>rfl
    | some v=>
     have:=oi _ (T.only (ch p.1) (by unfold bG;rw[e];rfl)) p.1 E7
     rw[hp.1] at this;cases this
   unfold aG
   rw[this];rfl
  have e2:∀s,aG es s (RW p.2)=⟨s.aS,s.bP++ [some (((208:Nat):Int)+p.2)]⟩:=fun s=>by
   obtain⟨t,ht⟩:=T.at' _ hp.2
   unfold aG
   rw[ht]
   have:(7+((p.2.toNat:Nat):Int))+201=((208:Nat):Int)+p.2:=by
    rw[Y5 (h0 p E7),Int.add_right_comm];rfl
   exact E5 (fun z=>iP.mk s.aS (s.bP++ [some z])) this
  show(wd l).foldl (aG es) (aG es (aG es s (ch p.1)) (RW p.2))=_
  rw[e1,e2,t_ T l _ (fun q hq=>h q (E6 _ hq)) fun q hq=>h0 q (E6 _ hq),YH,YH]
  rfl
structure Mx(es:Array DictEntry)(lv:List Nat)(sg:List Int):Prop where
 tl:(cO lv sg).length≤100
 Ub:∀(i:Nat) (t:Str),(cO lv sg++ [(⟨#[]⟩:Str)])[i]? =some t→t.length≤1000
 Uc:∀i,i<(cO lv sg).length→(bk ((cO lv sg).drop i)).length≠0
 Ud:∀i,(bk ((cO lv sg).drop i)).length≤1000
 cut:∀i t,(cO lv sg)[i]? =some t→be (bk ((cO lv sg).drop i)) (cutSize es (bk ((cO lv sg).drop i)))=t∧fz (bk ((cO lv sg).drop i)) (cutSize es (bk ((cO lv sg).drop i)))=bk ((cO lv sg).drop (i+1))
 rd:aL es (cO lv sg) ((cO lv sg).length+1)=⟨lv.map ch,(sg.map fun s=>some (((208:Nat):Int)+s))++ [none]⟩
theorem HK{es:Array DictEntry}(T:dN es)(E:zc es){lv:List Nat}{sg:List Int}(hl:lv.length=10)(hs:sg.length=10)(h6:∀c∈lv,c∈six)(Mh:∀s∈sg,0≤s∧s<((48:Nat):Int)):Mx es lv sg:=by
 have ok:ya (lv.zip sg):=fun p hp=> ⟨List.contains_iff_mem.mpr (h6 _ (aal hp).1),toNat_lt (Mh _ (aal hp).2).1 (Mh _ (aal hp).2).2⟩
 have tk:=Mw ok
 have zl:(lv.zip sg).length=10:=by rw[aaO,hl,hs];rfl
 have len:(cO lv sg).length=20:=by
  have:∀l:List (Nat×Int),(wd l).length=2*l.length:=fun l=>by
   induction l with
   | nil=>rfl
   | cons p l ih=>
    rw[aaF,ab8,← ih];rfl
  exact(this _).trans (by rw[zl])
 have dr:∀i,∀t∈(cO lv sg).drop i,1≤t.length∧t.length≤3:=fun i t ht=>tk t (Z6 ht)
 refine⟨by rw[len];decide,fun i t h=>?_,fun i hi=>?_,fun i=>?_,yc (yb T _ ok),?_⟩
 ·rcases YZ.mp (YC h) with h | h
  ·exact E4 (tk t h).2 (by decide)
  ·rw[Yz.mp h];exact Y8 _
 ·rw[← List.getElem_cons_drop hi,bk,abY]
  have:=(dr i _ (by rw[← List.getElem_cons_drop hi];exact E7)).1
  exact fun e=>absurd (Zg (U8 e)) (Nat.not_le.mpr this)
 ·refine E4 (t9 _ fun t ht=> (dr i t ht).2) ?_
  rw[Zy,len]
  exact E4 (Y6 3 (ab0 ..)) (by decide)
 ·unfold aL
  rw[Y3 (U8 (ny ..)),aar,show cO lv sg=wd (lv.zip sg) from rfl,t_ T _ _ ok fun p hp=> (Mh _ (aal hp).2).1]
  have e:∀s,aG es s (⟨#[]⟩:Str)=⟨s.aS,s.bP++ [none]⟩:=fun s=>by unfold aG;rw[E.empty];rfl
  show aG es _ _=_
  rw[e]
  have m1:(lv.zip sg).map (fun p=>ch p.1)=lv.map ch:=by
   rw[← List.map_fst_zip (l₁:=lv) (l₂:=sg) (by rw[hl,hs];exact E8 _),V3]
   rw[List.map_fst_zip (by rw[hl,hs];exact E8 _)];rfl
  have m2:(lv.zip sg).map (fun p=>some (((208:Nat):Int)+p.2))=sg.map fun s=>some (((208:Nat):Int)+s):=by
   conv=>rhs;rw[← List.map_snd_zip (l₁:=lv) (l₂:=sg) (by rw[hl,hs];exact E8 _)]
   rw[V3];rfl
  rw[m1,m2];rfl
end
end
section
set_option tactic.hygienic true
section
noncomputable def RX(n:Nat)(g:Nat→Bool):Bool:=n.rec (g 0) fun k O=>g (k+1)
theorem DA(n:Nat)(g:Nat→Bool):RX n g=g n:=by cases n <;> rfl
noncomputable def fL(l:List Nat):(List Nat→Bool)→Bool:=l.rec (fun g=>g []) fun x O ih g=>RX x fun x=>ih fun l=>g (x::l)
theorem JM(l:List Nat):∀g,fL l g=g l:=by
 induction l with
 | nil=>exact fun g=>rfl
 | cons x l ih=>
  intro g
  show RX x (fun x=>fL l fun l=>g (x::l))=_
  rw[DA,ih]
theorem ua{α:Type}{key:α→Int}{l:List α}{x y:α}(h:y=x∨y∈l):y∈fk key l x:=by
 unfold fk
 rw[YZ,V1]
 rcases h with h | h
 ·exact .inr (.inl h)
 ·rw[← ZW (l.countP fun z=>decide (key z<key x)) l,YZ] at h
  exact h.elim .inl fun h=> .inr (.inr h)
theorem iH{hs:List Int}:∀ {i y},y∈jo hs i↔∃k,k<i∧y=hs.getD k 0
 | 0,y=> ⟨fun h=> (nomatch h),fun⟨k,h,_⟩=>absurd h (aah k)⟩
 | i+1,y=>by
  rw[jX]
  constructor
  ·intro h
   rcases tz h with h | h
   ·exact⟨i,Za i,h⟩
   ·obtain⟨k,hk,e⟩:=iH.mp h
    exact⟨k,YW hk,e⟩
  ·rintro⟨k,hk,e⟩
   rcases ZS (YS hk) with h | h
   ·exact ua (.inr (iH.mpr ⟨k,h,e⟩))
   ·exact ua (.inl (h▸e))
theorem HL{row:List Int}(hr:row.Pairwise fun a b=>a≤b)(hl:row.length=10){h y:Int}(hy:y∈row)(hb:(h<y∧∀x∈row,x≤h∨y≤x)∨∀x∈row,x≤h∧y≤x):nextOf row h=y:=by
 obtain⟨j,hj⟩:=Y7.mp hy
 have jl:=(V7.mp hj).1
 have fin:∀k,k≤j→(∀x,row[k]? =some x→y≤x)→row.getD k 0=y:=fun k hk hx=>by
  have kl:=YE hk jl
  have ek:=U6 kl
  rw[eJ ek]
  refine acd ?_ (hx _ ek)
  rcases ZS hk with h | h
  ·have:=List.pairwise_iff_getElem.mp hr k j kl jl h
   rw[(V7.mp hj).2] at this;exact this
  ·subst h
   exact Int.le_of_eq (V7.mp hj).2
 unfold nextOf
 have gt:=fun k x e=>kL (key:=fun z:Int=>z) hr h k x e
 rcases hb with⟨oz,hb⟩ | hb
 ·have cj:row.countP (fun z=>decide (z≤h))≤j:=by
   have:=gt j y hj
   rw[U5 oz] at this
   exact U9 this.symm
  rw[aaE (YE cj (hl▸jl))]
  refine fin _ cj fun x e=>?_
  have:=gt _ x e
  rw[U5 (E8 _)] at this
  exact(hb x (YC e)).resolve_left (aa3.mpr (U9 this))
 ·have cl:row.countP (fun z=>decide (z≤h))=10:=hl▸List.countP_eq_length.mpr fun x hx=>U5 (hb x hx).1
  rw[cl]
  exact fin 0 (Y8 _) fun x e=> (hb x (YC e)).2
noncomputable def RY(s w:Nat):List Nat:=(List.range 10).map fun p=> (s+p*(1+w)) % 64
theorem DB(X:Nat):da X 10=(RY (X % 64) (X / 64 % 6)).map fun n:Nat=> (n:Int):=rfl
noncomputable def jp(z i:Nat):Nat:=(i+(10 - z)) % 10
noncomputable def VO(s w:Nat):Nat:=cond (ble 64 (s+9*(1+w))) ((64 - s+w) / (1+w)) 0
noncomputable def QK(s w:Nat):Bool:=RX (VO s w) fun z=>blt z 10&&fL (RY s w) fun hs=>fL ((List.range 10).map (jp z)) fun rs=> (hs.zip rs).all fun p=> (hs.zip rs).all fun q=>blt p.1 q.1==blt p.2 q.2
theorem My:((List.range 64).all fun s=> (List.range 6).all fun w=>QK s w)=true:=by decide+kernel
structure oj(hs:List Int)(z:Nat):Prop where
 RZ:z<10
 lt:∀i j,i<10→j<10→(hs.getD i 0<hs.getD j 0↔jp z i<jp z j)
theorem DD{n:Nat}{p:Nat→Bool}(h:(List.range n).all p=true){i:Nat}(hi:i<n):p i=true:=Jb.mp h i (YD.mpr hi)
theorem wf{a b:Bool}(h:(a&&b)=true):a=true∧b=true:=E2.mp h
theorem Mz(X:Nat):∃z,oj (da X 10) z:=by
 have h:=DD (DD My (YK X (by decide))) (YK (X / 64) (by decide))
 unfold QK at h
 rw[DA,JM,JM] at h
 rw[DB]
 have hl:(RY (X % 64) (X / 64 % 6)).length=10:=(E9 ..).trans YP
 generalize RY (X % 64) (X / 64 % 6)=hs at h hl
 generalize VO (X % 64) (X / 64 % 6)=z at h
 obtain⟨h1,h⟩:=wf h
 refine⟨z,E1 h1,fun i j hi hj=>?_⟩
 have zi:∀k,k<10→(hs.getD k 0,jp z k)∈hs.zip ((List.range 10).map (jp z)):=fun k hk=>by
  refine YC (i:=k) ?_
  rw[List.getElem?_zip_eq_some,V9,ZH hk,U3,U6 (hl▸hk)]
  exact⟨rfl,rfl⟩
 have at':∀k,(hs.map fun n:Nat=> (n:Int)).getD k 0=(hs.getD k 0:Nat):=fun k=>by
  rw[U3,V9,U3]
  cases hs[k]? <;> rfl
 have e:blt (hs.getD i 0) (hs.getD j 0)=blt (jp z i) (jp z j):=eq_of_beq (Jb.mp (Jb.mp h _ (zi i hi)) _ (zi j hj))
 rw[at',at',YR]
 exact⟨fun h=>E1 (e.symm.trans (YM h)),fun h=>E1 (e.trans (YM h))⟩
theorem MA{hs:List Int}{z:Nat}(H:oj hs z){i:Nat}(hi:i<10):nextOf (jo hs 10) (hs.getD i 0)=hs.getD ((i+1) % 10) 0:=by
 have RZ:=H.RZ
 have uV:(i+1) % 10<10:=YK _ (by decide)
 have le:∀a b,a<10→b<10→jp z a≤jp z b→hs.getD a 0≤hs.getD b 0:=fun a b ha hb h=>ZD.mp fun h'=>Zd.mpr h ((H.lt b a hb ha).mp h')
 refine HL (gq hs 10) (ml hs 10) (iH.mpr ⟨_,uV,rfl⟩) ?_
 have key:(jp z i<jp z ((i+1) % 10)∧∀k,k<10→jp z k≤jp z i∨jp z ((i+1) % 10)≤jp z k)∨∀k,k<10→jp z k≤jp z i∧jp z ((i+1) % 10)≤jp z k:=by
  have d:∀z,z<10→∀i,i<10→(jp z i<jp z ((i+1) % 10)∧∀k,k<10→jp z k≤jp z i∨jp z ((i+1) % 10)≤jp z k)∨∀k,k<10→jp z k≤jp z i∧jp z ((i+1) % 10)≤jp z k:=by decide+kernel
  exact d z RZ i hi
 rcases key with⟨h1,h2⟩ | h
 ·refine .inl ⟨(H.lt _ _ hi uV).mpr h1,fun x hx=>?_⟩
  obtain⟨k,hk,rfl⟩:=iH.mp hx
  exact(h2 k hk).imp (le _ _ hk hi) (le _ _ uV hk)
 ·refine .inr fun x hx=>?_
  obtain⟨k,hk,rfl⟩:=iH.mp hx
  exact⟨le _ _ hk hi (h k hk).1,le _ _ uV hk (h k hk).2⟩
end
end
section
set_option tactic.hygienic true
section
noncomputable def yd(c:Nat)(s:List Nat×Nat):List Nat×Nat:=([c]++s.1.take (s.2 % (s.1.length+1))++ [c]++s.1.drop (s.2 % (s.1.length+1)),s.2 / (s.1.length+1))
noncomputable def i8(m i:Nat):List Nat×Nat:=i.rec ([],m) fun i s=>yd (4 - i) s
noncomputable def j4(m:Nat):List Nat:=(i8 m 5).1
noncomputable abbrev lA(c:Nat):AV:= .str (ch (97+c))
theorem QL:∀i,i<5→(d6 (Str.ofString "edcba")).getD i .none=lA (4 - i)
 | 0,_ | 1,_ | 2,_ | 3,_ | 4,_=>by kernel_rfl!
theorem DE(n:Nat):∀i,i≤5→iT n i=((i8 n i).1.map lA,((i8 n i).2:Int))
 | 0,_=>rfl
 | i+1,h=>by
  show gv _ (iT n i)=((yd (4 - i) (i8 n i)).1.map lA,((yd (4 - i) (i8 n i)).2:Int))
  rw[QL i h,DE n i (Yy h)]
  generalize i8 n i=s
  have e:(((s.1.map lA).length:Int)+1)=((s.1.length+1:Nat):Int):=by rw[E9];rfl
  have a:(iS (s.1.map lA,(s.2:Int))).toNat=s.2 % (s.1.length+1):=by
   unfold iS
   show((s.2:Int).fmod (((s.1.map lA).length:Int)+1)).toNat=_
   rw[e,hO];rfl
  unfold gv
  rw[a]
  show(_,(s.2:Int).fdiv (((s.1.map lA).length:Int)+1))=_
  rw[e,pW]
  unfold yd
  rw[YA,YA,YA,aaH,aaI]
  rfl
theorem dQ(m:Nat):∀i,(i8 m i).1.length=2*i
 | 0=>rfl
 | i+1=>by
  show(yd (4 - i) (i8 m i)).1.length=_
  have:=dQ m i
  unfold yd
  generalize i8 m i=s at this
  show([4 - i]++s.1.take (s.2 % (s.1.length+1))++ [4 - i]++s.1.drop (s.2 % (s.1.length+1))).length=_
  have ta:=E5 length (ZW (s.2 % (s.1.length+1)) s.1)
  rw[YF] at ta
  rw[YF,YF,YF,ZR _ [4 - i].length,ZZ [4 - i].length,ta,this]
  exact(ZZ 1 (2*i) 1).trans (Z8 1 (2*i+1))
theorem j5{c d M:Nat}{s s':List Nat×Nat}(h1:s.1=s'.1)(hl:s.1.length+1=d)(h2:s.2 % (d*M)=s'.2 % (d*M)):(yd c s).1=(yd c s').1∧(yd c s).2 % M=(yd c s').2 % M:=by
 have e1:s.2 % d=s'.2 % d:=by
  have:=E5 (· % d) h2
  simp only[Nat.mod_mul_right_mod] at this
  exact this
 unfold yd
 rw[← h1,hl,e1]
 exact⟨rfl,by
  show s.2 / d % M=s'.2 / d % M
  rw[← Nat.mod_mul_right_div_self,← Nat.mod_mul_right_div_self,h2]⟩
theorem HM(n:Nat):j4 n=j4 (n % 945):=by
 have h0:n % (1*945)=(n % 945) % (1*945):=(Nat.mod_mod _ _).symm
 have h1:=j5 (c:=4) (d:=1) (M:=945) (s:=i8 n 0) (s':=i8 (n % 945) 0) rfl rfl h0
 have h2:=j5 (c:=3) (d:=3) (M:=315) (s:=i8 n 1) (s':=i8 (n % 945) 1) h1.1 (E5 (· +1) (dQ n 1)) h1.2
 have h3:=j5 (c:=2) (d:=5) (M:=63) (s:=i8 n 2) (s':=i8 (n % 945) 2) h2.1 (E5 (· +1) (dQ n 2)) h2.2
 have h4:=j5 (c:=1) (d:=7) (M:=9) (s:=i8 n 3) (s':=i8 (n % 945) 3) h3.1 (E5 (· +1) (dQ n 3)) h3.2
 exact(j5 (c:=0) (d:=9) (M:=1) (s:=i8 n 4) (s':=i8 (n % 945) 4) h4.1 (E5 (· +1) (dQ n 4)) h4.2).1
theorem om(m:Nat):∀i,∀c∈(i8 m i).1,c<5
 | 0,c,h=>nomatch h
 | i+1,c,h=>by
  have h:c∈[4 - i]++(i8 m i).1.take ((i8 m i).2 % ((i8 m i).1.length+1))++ [4 - i]++(i8 m i).1.drop ((i8 m i).2 % ((i8 m i).1.length+1)):=h
  have l:4 - i<5:=Z4 (ab0 4 i)
  rcases YZ.mp h with h | h
  ·rcases YZ.mp h with h | h
   ·rcases YZ.mp h with h | h
    ·exact Yz.mp h▸l
    ·exact om m i c (aaD h)
   ·exact Yz.mp h▸l
  ·exact om m i c (Z6 h)
theorem DF(m:Nat):(j4 m).length=10:=dQ m 5
noncomputable def fh(R:List Nat)(t:Nat):List Nat:=(((R++R).drop t).take 10).map (97+ ·)
theorem HN{c0 c1:Int}(h0:0≤c0):j3 c0 c1=cV (fh (j4 (c0.toNat % 945)) (c1.fmod 10).toNat):=by
 unfold j3
 have e:iT c0 5=iT (c0.toNat:Int) 5:=by rw[Y5 h0]
 rw[e,DE _ 5 (E8 _),← HM]
 unfold cV fh j4
 rw[V3,aaH,aaI,YA]
 rfl
theorem ye{R:List Nat}(hl:R.length=10){t i:Nat}(ht:t<10)(hi:i<10):(fh R t).getD i 0=97+R.getD ((i+t) % 10) 9:=by
 unfold fh
 rw[U3,V9,List.getElem?_take,V8 hi,abP,List.getElem?_append,U3]
 split
 ·rw[aaE (show i+t<10 by rw[Z8];omega),Z8 t i,U6 (by omega)];rfl
 ·rw[show t+i - R.length=(i+t) % 10 by omega,U6 (by rw[hl];exact YK _ (by decide))];rfl
theorem ub{R:List Nat}(hl:R.length=10){t:Nat}(ht:t<10):(fh R t).length=10:=by
 unfold fh
 rw[E9,ZN,Zy,YF,hl]
 omega
end
end
section
set_option tactic.hygienic true
section
noncomputable def full:Nat:=2 ^ 320 - 1
noncomputable def cM(k:Nat):Nat:=([2863311530,3435973836,4042322160,4278255360,4294901760]:List Nat).getD k 0
theorem DG:∀k,k<5→∀S,S<32→(cM k).testBit S=S.testBit k:=by decide+kernel
theorem p_:∀k,k<5→cM k<2 ^ 32:=by decide+kernel
noncomputable def bt(P q S:Nat):Bool:=P.testBit (32*q+S)
theorem on{C a q S:Nat}(hC:C<2 ^ 32)(hS:S<32):bt (C<<<(32*a)) q S=(beq q a&&C.testBit S):=by
 unfold bt
 rw[abz]
 rcases abZ q a with h | h | h
 ·rw[U4 (by omega),show beq q a=false from Z3.mpr fun e=>absurd (U7 e) (V2 h)];rfl
 ·subst h
  rw[U5 (by omega),show 32*q+S - 32*q=S by omega,show beq q q=true from abJ q]
 ·rw[Nat.testBit_lt_two_pow (U2 hC (abF (by decide) (by omega))),aa8,show beq q a=false from Z3.mpr fun e=>absurd (U7 e).symm (V2 h)];rfl
noncomputable def NE(P:Nat)(x:Nat×Nat):Nat:=((P >>> x.2)&&&x.1)|||((P&&&x.1)<<< x.2)
noncomputable def wg(x:Nat×Nat):Nat:=x.1|||(x.1<<< x.2)
theorem aW(a b:Nat):beq a b=decide (a=b):=by
 rw[ZF,aam]
 exact⟨U7,fun h=>h▸abJ a⟩
theorem MB{P x q S d:Nat}(hx:∀i S,S<32→bt x i S=true→i=P)(hS:S<32):bt (x<<<(32*d)) q S=(beq q (P+d)&&bt x P S):=by
 unfold bt at hx ⊢
 rw[abz]
 by_cases h:d≤q
 ·have e:32*q+S - 32*d=32*(q - d)+S:=by omega
  rw[U5 (by omega),e,abT]
  by_cases h2:q=P+d
  ·subst h2
   rw[abO,show beq (P+d) (P+d)=true from abJ _];rfl
  ·rw[aW,U4 h2]
   refine Z3.mpr fun e=>h2 ?_
   have:=hx _ S hS e
   omega
 ·rw[U4 (by omega),aW,U4 (by omega)];rfl
theorem DH{P C a b q S:Nat}(hC:C<2 ^ 32)(IV:a<b)(hS:S<32):bt (NE P (C<<<(32*a),32*(b - a))) q S=(C.testBit S&& ((beq q a&&bt P b S)||(beq q b&&bt P a S))):=by
 have h1:bt ((P >>> (32*(b - a)))&&& (C<<<(32*a))) q S=(C.testBit S&& (beq q a&&bt P b S)):=by
  have:=on (q:=q) (a:=a) hC hS
  unfold bt at this ⊢
  rw[aaQ,this,abo]
  by_cases h:q=a
  ·subst h
   rw[show 32*(b - q)+(32*q+S)=32*b+S by omega,show beq q q=true from abJ q,abT,abT,Bool.and_comm]
  ·rw[aW,U4 h];simp
 have h2:bt ((P&&& (C<<<(32*a)))<<<(32*(b - a))) q S=(C.testBit S&& (beq q b&&bt P a S)):=by
  have key:∀i S,S<32→bt (P&&& (C<<<(32*a))) i S=(bt P i S&& (beq i a&&C.testBit S)):=fun i S hS=>by
   have:=on (q:=i) (a:=a) hC hS
   unfold bt at this ⊢
   rw[aaQ,this]
  rw[MB (P:=a) (fun i S hS h=>by rw[key i S hS] at h;exact U7 (wf (wf h).2).1) hS,key a S hS,show beq a a=true from abJ a,show a+(b - a)=b by omega,abT]
  cases beq q b <;> cases bt P a S <;> cases C.testBit S <;> rfl
 show((_|||_:Nat)).testBit _=_
 rw[ZO]
 show(bt _ q S||bt _ q S)=_
 rw[h1,h2,Bool.and_or_distrib_left]
theorem wi{C a b q S:Nat}(hC:C<2 ^ 32)(IV:a<b)(hS:S<32):bt (wg (C<<<(32*a),32*(b - a))) q S=(C.testBit S&& (beq q a||beq q b)):=by
 have e:(C<<<(32*a))<<<(32*(b - a))=C<<<(32*b):=by
  rw[← Nat.shiftLeft_add]
  exact E5 (C<<< ·) (by omega)
 unfold wg bt
 show(C<<<(32*a)|||(C<<<(32*a))<<<(32*(b - a))).testBit _=_
 rw[e,ZO]
 show(bt _ q S||bt _ q S)=_
 rw[on hC hS,on hC hS]
 cases beq q a <;> cases beq q b <;> cases C.testBit S <;> rfl
theorem gy{α:Type}(f:α→Nat)(i:Nat):∀(l:List α) (x:Nat),(l.foldl (fun acc k=>acc|||f k) x).testBit i=(x.testBit i||l.any fun k=> (f k).testBit i)
 | [],x=> (aaJ _).symm
 | k::l,x=>by rw[abI,gy f i l,ZO,aae,Bool.or_assoc]
noncomputable def uc(xs:List (Nat×Nat))(M0 P:Nat):Nat:=xs.foldl (fun acc x=>acc|||NE P x) (P&&&M0)
noncomputable def HP(Q:Nat):Nat:=((Q<<< 32)|||(Q >>> 288))&&&full
noncomputable def wj(xs:List (Nat×Nat)):Nat:=full ^^^ xs.foldl (fun acc x=>acc|||wg x) 0
structure kU(a b L:Nat→Nat):Prop where
 ab:∀k,k<5→a k<b k∧b k<10
 la:∀k,k<5→L (a k)=k∧L (b k)=k
 all:∀q,q<10→L q<5∧(q=a (L q)∨q=b (L q))
noncomputable def j6(a b:Nat→Nat):List (Nat×Nat):=(List.range 5).map fun k=> (cM k<<<(32*a k),32*(b k - a k))
noncomputable def eH(a b L:Nat→Nat)(q:Nat):Nat:=a (L q)+b (L q) - q
noncomputable def uw(a b L:Nat→Nat)(S q:Nat):Nat:=(cond (S.testBit (L q)) (eH a b L q) q+1) % 10
section
variable {a b L:Nat→Nat}(H:kU a b L)
include H
theorem JN{q:Nat}(hq:q<10)(F:Nat→Nat→Bool)(hF:∀k,k<5→F k q=true→q=a k∨q=b k):((List.range 5).any fun k=>F k q)=F (L q) q:=by
 rw[ZF,Y1]
 constructor
 ·rintro⟨k,hk,h⟩
  have hk:=YD.mp hk
  have:L q=k:=by rcases hF k hk h with rfl | rfl;exact(H.la k hk).1;exact(H.la k hk).2
  rw[this];exact h
 ·exact fun h=> ⟨_,YD.mpr (H.all q hq).1,h⟩
theorem rD{q:Nat}(hq:q<10):(q=a (L q)∧eH a b L q=b (L q))∨(q=b (L q)∧eH a b L q=a (L q)):=by
 have h:=H.all q hq
 have:=(H.ab _ h.1).1
 unfold eH
 rcases h.2 with h2 | h2
 ·exact .inl ⟨h2,by omega⟩
 ·exact .inr ⟨h2,by omega⟩
theorem MD{P q S:Nat}(hS:S<32)(hq:q<10):bt (uc (j6 a b) (wj (j6 a b)) P) q S=cond (S.testBit (L q)) (bt P (eH a b L q) S) (bt P q S):=by
 have own:bt (wj (j6 a b)) q S=!(S.testBit (L q)):=by
  unfold wj bt
  rw[ace,gy,aaG,abp,j6,abG,full,ZT,U5 (by omega)]
  have:=JN H hq (fun k q=>bt (wg (cM k<<<(32*a k),32*(b k - a k))) q S) fun k hk h=>by
   rw[wi (p_ k hk) (H.ab k hk).1 hS] at h
   exact(Zr.mp (wf h).2).imp U7 U7
  refine(E5 (true ^^ ·) this).trans ?_
  have hl:=(H.all q hq).1
  rw[wi (p_ _ hl) (H.ab _ hl).1 hS,DG _ hl S hS]
  rw[aW,aW,show(decide (q=a (L q))||decide (q=b (L q)))=true from Zr.mpr ((H.all q hq).2.imp U5 U5),Bool.and_true,Bool.true_xor]
 have hl:=(H.all q hq).1
 unfold uc
 show testBit _ _=_
 rw[gy,j6,abG,aaQ]
 have:=JN H hq (fun k q=>bt (NE P (cM k<<<(32*a k),32*(b k - a k))) q S) fun k hk h=>by
  rw[DH (p_ k hk) (H.ab k hk).1 hS] at h
  rcases Zr.mp (wf h).2 with h | h
  ·exact .inl (U7 (wf h).1)
  ·exact .inr (U7 (wf h).1)
 refine(E5 ((_&&_)|| ·) this).trans ?_
 rw[DH (p_ _ hl) (H.ab _ hl).1 hS,DG _ hl S hS]
 have Uk:testBit (wj (j6 a b)) (32*q+S)=!(S.testBit (L q)):=own
 rw[show(List.range 5).map (fun k=> (cM k<<<(32*a k),32*(b k - a k)))=j6 a b from rfl,Uk,aW,aW]
 show(bt P q S&&_||_)=_
 have ne:=V2 (H.ab _ hl).1
 rcases rD H hq with⟨h1,h2⟩ |⟨h1,h2⟩
 ·rw[h2,U5 h1,U4 (fun e=>ne (h1.symm.trans e))]
  cases S.testBit (L q) <;> cases bt P q S <;> cases bt P (b (L q)) S <;> rfl
 ·rw[h2,U5 h1,U4 (fun e=>ne (e.symm.trans h1))]
  cases S.testBit (L q) <;> cases bt P q S <;> cases bt P (a (L q)) S <;> rfl
theorem ME{P q S:Nat}(hS:S<32)(hq:10≤q):bt (uc (j6 a b) (wj (j6 a b)) P) q S=false:=by
 have no:∀k,k<5→beq q (a k)=false∧beq q (b k)=false:=fun k hk=>by
  have:=H.ab k hk
  rw[aW,aW]
  exact⟨U4 (by omega),U4 (by omega)⟩
 unfold uc
 show testBit _ _=_
 rw[gy,aaQ,wj,ace,gy,aaG,abp,full,ZT,U4 (by omega)]
 have e1:((j6 a b).any fun x=> (wg x).testBit (32*q+S))=false:=abe.mpr fun x hx=>by
  obtain⟨k,hk,rfl⟩:=U0.mp hx
  have hk:=YD.mp hk
  have:=wi (q:=q) (p_ k hk) (H.ab k hk).1 hS
  rw[(no k hk).1,(no k hk).2,aaJ,aa8] at this
  exact fun h=>absurd (this.symm.trans h) (by decide)
 have e2:((j6 a b).any fun x=> (NE P x).testBit (32*q+S))=false:=abe.mpr fun x hx=>by
  obtain⟨k,hk,rfl⟩:=U0.mp hx
  have hk:=YD.mp hk
  have:=DH (P:=P) (q:=q) (p_ k hk) (H.ab k hk).1 hS
  rw[(no k hk).1,(no k hk).2,abN,abN,aaJ,aa8] at this
  exact fun h=>absurd (this.symm.trans h) (by decide)
 rw[e1,e2,Bool.xor_false,aa8,aaJ]
end
theorem MF{Q q S:Nat}(hi:∀q,10≤q→∀S,S<32→bt Q q S=false)(hS:S<32)(hq:q<10):bt (HP Q) ((q+1) % 10) S=bt Q q S:=by
 unfold HP bt
 rw[aaQ,ZO,abz,abo,full,ZT]
 by_cases h:q=9
 ·subst h
  rw[show 32*((9+1) % 10)+S=S by omega,U4 (by omega),U5 (by omega)]
  simp
 ·rw[show 32*((q+1) % 10)+S=32*q+S+32 by omega,U5 (by omega),U5 (by omega),abO]
  have:=hi (q+10) (by omega) S hS
  unfold bt at this
  rw[show 288+(32*q+S+32)=32*(q+10)+S by omega,this]
  simp
end
end
section
set_option tactic.hygienic true
section
noncomputable def de(n:Nat)(g:Nat→Bool):Bool:=n.rec (g (nat_lit 0)) fun k O=>g (Nat.succ k)
theorem aE(n:Nat)(g:Nat→Bool):de n g=g n:=by cases n <;> rfl
noncomputable def nb(p k:Nat):Nat:=mod (Nat.div p (pow (nat_lit 32) k)) (nat_lit 32)
theorem QM(p k:Nat):nb p k=p / 32 ^ k % 32:=rfl
noncomputable def val(l:List Nat):Nat:=l.foldr (fun x p=>x+32*p) 0
theorem DI:∀(l:List Nat),(∀x∈l,x<32)→∀k,nb (val l) k=l.getD k 0
 | [],_,k=>by rw[QM];unfold val;rw[List.foldr_nil,Nat.zero_div,Nat.zero_mod];rfl
 | x::l,h,0=>by
  show(x+32*val l) / 32 ^ 0 % 32=x
  rw[Nat.pow_zero,Nat.div_one,Nat.add_mul_mod_self_left,aaE (h x E7)]
 | x::l,h,k+1=>by
  have ih:=DI l (fun y hy=>h y (E6 _ hy)) k
  show(x+32*val l) / 32 ^ (k+1) % 32=l.getD k 0
  rw[Nat.pow_succ,Nat.mul_comm (32 ^ k),← Nat.div_div_eq_div_mul,Nat.add_mul_div_left _ _ (by decide),Nat.div_eq_of_lt (h x E7),Zw]
  exact ih
theorem rE:∀a b:List Nat,val (a++b)=val a+32 ^ a.length*val b
 | [],b=>by show val b=0+1*val b;rw[Zw,Nat.one_mul]
 | x::a,b=>by
  show x+32*val (a++b)=x+32*val a+32 ^ (a.length+1)*val b
  rw[rE a b,Nat.mul_add,Nat.pow_succ,Nat.mul_comm (32 ^ a.length) 32,Nat.mul_assoc,ZZ]
theorem DJ:∀l:List Nat,(∀x∈l,x<32)→val l<32 ^ l.length
 | [],_=>Nat.one_pos
 | x::l,h=>by
  have ih:=DJ l fun y hy=>h y (E6 _ hy)
  have hx:=h x E7
  show x+32*val l<32 ^ (l.length+1)
  rw[Nat.pow_succ]
  omega
theorem HQ{l:List Nat}(h:∀x∈l,x<32){n:Nat}(hn:n≤l.length):val (l.take n)=val l % 32 ^ n∧val (l.drop n)=val l / 32 ^ n:=by
 have e:val l=val (l.take n)+32 ^ n*val (l.drop n):=by
  conv=>lhs;rw[← ZW n l]
  rw[rE,ZN,Zp hn]
 have lt:val (l.take n)<32 ^ n:=by
  have:=DJ (l.take n) fun x hx=>h x (aaD hx)
  rw[ZN,Zp hn] at this;exact this
 rw[e]
 exact⟨by rw[Nat.add_mul_mod_self_left,aaE lt],by rw[Nat.add_mul_div_left _ _ (Nat.pow_pos (by decide)),Nat.div_eq_of_lt lt,Zw]⟩
noncomputable def stK(c len p x:Nat)(K:Nat→Nat→Bool):Bool:=de (mod x (Nat.succ len)) fun n=>de (pow (nat_lit 32) n) fun w=>de (Nat.add c (Nat.mul (nat_lit 32) (Nat.add (mod p w) (Nat.mul w (Nat.add c (Nat.mul (nat_lit 32) (Nat.div p w))))))) fun p=>de (Nat.div x (Nat.succ len)) fun x=>K p x
theorem ud{c len x:Nat}{s:List Nat×Nat}(hs:s.2=x)(hl:s.1.length=len)(h:∀y∈s.1,y<32)(K:Nat→Nat→Bool):stK c len (val s.1) x K=K (val (yd c s).1) (yd c s).2:=by
 subst hs hl
 unfold stK
 rw[aE,aE,aE,aE]
 obtain⟨h1,h2⟩:=HQ h (YS (YK s.2 (Zt s.1.length)))
 unfold yd
 have e:val ([c]++s.1.take (s.2 % (s.1.length+1))++ [c]++s.1.drop (s.2 % (s.1.length+1)))=c+32*(val s.1 % 32 ^ (s.2 % (s.1.length+1))+32 ^ (s.2 % (s.1.length+1))*(c+32*(val s.1 / 32 ^ (s.2 % (s.1.length+1))))):=by
  rw[YH,YH]
  show c+32*val (s.1.take _++c::s.1.drop _)=_
  rw[rE,ZN,Zp (YS (YK s.2 (Zt s.1.length)))]
  show c+32*(val (s.1.take _)+_*(c+32*val (s.1.drop _)))=_
  rw[h1,h2]
 rw[e];rfl
noncomputable def DK(m:Nat)(D:Nat→Bool):Bool:=stK (nat_lit 4) (nat_lit 0) (nat_lit 0) m fun p x=>stK (nat_lit 3) (nat_lit 2) p x fun p x=>stK (nat_lit 2) (nat_lit 4) p x fun p x=>stK (nat_lit 1) (nat_lit 6) p x fun p x=>stK (nat_lit 0) (nat_lit 8) p x fun p O=>D p
theorem wl(m:Nat)(D:Nat→Bool):DK m D=D (val (j4 m)):=by
 have lt:∀i,∀y∈(i8 m i).1,y<32:=fun i y hy=>YB (om m i y hy) (by decide)
 unfold DK
 refine(ud (s:=i8 m 0) rfl rfl (lt 0) _).trans ?_
 refine(ud (s:=i8 m 1) rfl (dQ m 1) (lt 1) _).trans ?_
 refine(ud (s:=i8 m 2) rfl (dQ m 2) (lt 2) _).trans ?_
 refine(ud (s:=i8 m 3) rfl (dQ m 3) (lt 3) _).trans ?_
 exact ud (s:=i8 m 4) rfl (dQ m 4) (lt 4) _
noncomputable def tb(m n:Nat):Bool:=beq (mod (shiftRight m n) (nat_lit 2)) (nat_lit 1)
theorem DL(m n:Nat):tb m n=m.testBit n:=by
 rw[Nat.testBit_eq_decide_div_mod_eq,← Nat.shiftRight_eq_div_pow]
 exact aW _ _
noncomputable def cw(n:Nat)(p:Nat→Bool):Bool:=n.rec true fun k ih=>cond (p k) ih false
theorem bA{p:Nat→Bool}:∀ {n},cw n p=true→∀i,i<n→p i=true
 | n+1,h,i,hi=>by
  have h:cond (p n) (cw n p) false=true:=h
  cases hp:p n with
  | false=>rw[hp] at h;cases h
  | true=>
   rw[hp] at h
   rcases ZS (YS hi) with hi | rfl
   ·exact bA h i hi
   ·exact hp
noncomputable def R6(K:Nat→Nat→Bool)(pr n:Nat):Nat→Nat→Nat→Bool:=n.rec (fun pa pb O=>K pa pb) fun i ih pa pb seen=>de (Nat.sub (nat_lit 9) i) fun q=>de (nb pr q) fun l=>de (pow (nat_lit 32) l) fun w=>cond (tb seen l) (de (Nat.add pb (Nat.mul q w)) fun pb=>ih pa pb seen) (de (Nat.add pa (Nat.mul q w)) fun pa=>de (Nat.add seen (pow (nat_lit 2) l)) fun seen=>ih pa pb seen)
theorem DM{K:Nat→Nat→Bool}{pr:Nat}:∀ {n pa pb seen},R6 K pr n pa pb seen=true→∃pa pb,K pa pb=true
 | 0,pa,pb,_,h=> ⟨pa,pb,h⟩
 | n+1,pa,pb,seen,h=>by
  have h:de (Nat.sub (nat_lit 9) n) (fun q=>de (nb pr q) fun l=>de (pow (nat_lit 32) l) fun w=>cond (tb seen l) (de (Nat.add pb (Nat.mul q w)) fun pb=>R6 K pr n pa pb seen) (de (Nat.add pa (Nat.mul q w)) fun pa=>de (Nat.add seen (pow (nat_lit 2) l)) fun seen=>R6 K pr n pa pb seen))=true:=h
  rw[aE,aE,aE] at h
  cases hb:tb seen (nb pr (Nat.sub (nat_lit 9) n)) with
  | true=>rw[hb,ZB,aE] at h;exact DM h
  | false=>rw[hb,aa9,aE,aE] at h;exact DM h
noncomputable def cC(a b:Bool):Bool:=cond a b (cond b false true)
theorem iI{a b:Bool}(h:cC a b=true):a=b:=by cases a <;> cases b <;> first | rfl | cases h
noncomputable def dR(a b:Nat):Bool:=ble (Nat.succ a) b
noncomputable def VP(pr pa pb:Nat):Bool:=cond (cw (nat_lit 5) fun k=>de (nb pa k) fun a=>de (nb pb k) fun b=>cond (dR a b) (cond (dR b (nat_lit 10)) (cond (beq (nb pr a) k) (beq (nb pr b) k) false) false) false)
 (cond (cw (nat_lit 10) fun q=>de (nb pr q) fun l=>cond (dR l (nat_lit 5)) (cond (beq q (nb pa l)) true (beq q (nb pb l))) false) (cw (nat_lit 4) fun k=>dR (nb pa k) (nb pa (Nat.succ k))) false) false
noncomputable def ue:List (Nat×Nat×Nat):=[(nat_lit 0,nat_lit 1,nat_lit 0),(nat_lit 0,nat_lit 2,nat_lit 1),(nat_lit 0,nat_lit 3,nat_lit 2),(nat_lit 0,nat_lit 4,nat_lit 3),(nat_lit 1,nat_lit 2,nat_lit 4),(nat_lit 1,nat_lit 3,nat_lit 5),(nat_lit 1,nat_lit 4,nat_lit 6),(nat_lit 2,nat_lit 3,nat_lit 7),(nat_lit 2,nat_lit 4,nat_lit 8),(nat_lit 3,nat_lit 4,nat_lit 9)]
noncomputable def xB(pa pb i j:Nat):Bool:=de (nb pb i) fun b=>cond (dR (nb pa j) b) (dR b (nb pb j)) false
noncomputable def R7(pa pb:Nat)(l:List (Nat×Nat×Nat))(K:Nat→Bool):Nat→Bool:=l.rec K fun p O ih g=>cond (xB pa pb p.1 p.2.1) (de (Nat.add g (pow (nat_lit 2) p.2.2)) ih) (ih g)
noncomputable def HS{α:Type}(l:List α)(p:α→Bool):Bool:=l.rec true fun x O ih=>cond (p x) ih false
theorem DN{α:Type}{p:α→Bool}:∀ {l:List α},HS l p=true→∀x,x∈l→p x=true
 | y::l,h,x,hx=>by
  have h:cond (p y) (HS l p) false=true:=h
  cases hp:p y with
  | false=>rw[hp] at h;cases h
  | true=>
   rw[hp] at h
   rcases V1.mp hx with rfl | hx
   ·exact hp
   ·exact DN h x hx
noncomputable def gC(g pa pb:Nat):Bool:=cond (dR g (nat_lit 1024)) (HS ue fun p=>cC (tb g p.2.2) (xB pa pb p.1 p.2.1)) false
noncomputable def uf(s P:Nat):Nat:=mod (shiftRight P s) (nat_lit 4294967296)
noncomputable def zH(l:List (Nat×Nat)):(List (Nat×Nat)→Bool)→Bool:=l.rec (fun g=>g []) fun x O ih g=>de x.1 fun a=>de x.2 fun d=>ih fun t=>g ((a,d)::t)
theorem rF(l:List (Nat×Nat)):∀g,zH l g=g l:=by
 induction l with
 | nil=>exact fun g=>rfl
 | cons x l ih=>
  intro g
  show de x.1 (fun a=>de x.2 fun d=>zH l fun t=>g ((a,d)::t))=_
  rw[aE,aE,ih]
noncomputable def XT(P:Nat)(x:Nat×Nat):Nat:=lor (land (shiftRight P x.2) x.1) (shiftLeft (land P x.1) x.2)
noncomputable def DO(xs:List (Nat×Nat))(M0 P:Nat):Nat:=xs.rec (land P M0) fun x O ih=>lor (XT P x) ih
noncomputable def DP:Nat:=nat_lit 2135987035920910082395021706169552114602704522356652769947041607822219725780640550022962086936575
noncomputable def HT(Q:Nat):Nat:=land (lor (shiftLeft Q (nat_lit 32)) (shiftRight Q (nat_lit 288))) DP
noncomputable def VQ(xs:List (Nat×Nat)):Nat:=Nat.xor DP (xs.rec (nat_lit 0) fun x O ih=>lor (lor x.1 (shiftLeft x.1 x.2)) ih)
noncomputable def XU:List (Nat×Nat):=[(nat_lit 0,nat_lit 2863311530),(nat_lit 1,nat_lit 3435973836),(nat_lit 2,nat_lit 4042322160),(nat_lit 3,nat_lit 4278255360),(nat_lit 4,nat_lit 4294901760)]
noncomputable def VS(pa pb:Nat):List (Nat×Nat):=XU.map fun c=> (shiftLeft c.2 (Nat.mul (nat_lit 32) (nb pa c.1)),Nat.mul (nat_lit 32) (Nat.sub (nb pb c.1) (nb pa c.1)))
noncomputable def MG(xs:List (Nat×Nat))(M0 s:Nat)(K:Nat→Bool)(n:Nat):Nat→Nat→Bool:=n.rec (fun P acc=>de (Nat.xor (lor (uf s P) acc) acc) K) fun O ih P acc=>de (lor acc (uf s P)) fun acc=>de (DO xs M0 P) fun Q=>de (HT Q) fun P=>ih P acc
noncomputable def NF(xs:List (Nat×Nat))(M0 s:Nat)(K:Nat→Bool):Bool:=de (DO xs M0 (shiftLeft (nat_lit 4294967295) s)) fun Q=>de (HT Q) fun P=>MG xs M0 s K (nat_lit 9) P (nat_lit 0)
noncomputable def MH:List ((Nat×Nat)×(Nat×Nat)×(Nat×Nat)×Nat):=[((nat_lit 4,nat_lit 9),(nat_lit 5,nat_lit 8),(nat_lit 6,nat_lit 7),nat_lit 30),((nat_lit 1,nat_lit 9),(nat_lit 2,nat_lit 8),(nat_lit 3,nat_lit 7),nat_lit 29),((nat_lit 0,nat_lit 9),(nat_lit 2,nat_lit 6),(nat_lit 3,nat_lit 5),nat_lit 27),((nat_lit 0,nat_lit 8),(nat_lit 1,nat_lit 6),(nat_lit 3,nat_lit 4),nat_lit 23),((nat_lit 0,nat_lit 7),(nat_lit 1,nat_lit 5),(nat_lit 2,nat_lit 4),nat_lit 15)]
noncomputable def qA(g:Nat)(p:Nat×Nat):Bool:=cond (tb g p.1) (tb g p.2) false
noncomputable def DQ(g:Nat):Bool:=HS MH fun q=>cond (qA g q.1) (cond (qA g q.2.2.1) (qA g q.2.1) true) true
noncomputable def Ul:List (Nat×Nat):=[(nat_lit 0,nat_lit 3),(nat_lit 1,nat_lit 5),(nat_lit 2,nat_lit 9),(nat_lit 3,nat_lit 17),(nat_lit 4,nat_lit 6),(nat_lit 5,nat_lit 10),(nat_lit 6,nat_lit 18),(nat_lit 7,nat_lit 12),(nat_lit 8,nat_lit 20),(nat_lit 9,nat_lit 24)]
noncomputable def wm(g:Nat):Nat:=MH.rec (Ul.rec (nat_lit 1) fun p O ih=>Nat.add (cond (tb g p.1) (pow (nat_lit 2) p.2) (nat_lit 0)) ih) fun q O ih=>Nat.add (cond (cC (qA g q.1) (cC (qA g q.2.1) (qA g q.2.2.1))) (pow (nat_lit 2) q.2.2.2) (nat_lit 0)) ih
noncomputable def DR:Nat:=nat_lit 147147979099341939302968397074850026683467745592585636518563360877617817651148866217442587140058802884968827651397686849110703279558092122705215822374245220615317856314771082887168815548910707187733040491397402474202571829692961803332580055977618839633624762048128857898844884597794585103826916890964719042559
noncomputable def DS:List Nat:=[nat_lit 5288194002786576698274790796291953460192110358585303716238131723099945515496619634851496263445783093975379345340635624360101446461,nat_lit 83437154238136925816069319497828558319436555635365152429254938061077108898791016245883716004388929744905522927517876816005543559362,nat_lit 2813485818183592988620107473574890668704930763422868703212404898622159959144211923533337012895878685367277976766215320783134678795294724,nat_lit 3167703514911543730064434346172405296075129390682596051301211986795152838085047961432367224385328781324049640033815122862536988819844517835987870883848,nat_lit 134739206219734548613619886021550634065745452581956789500596163666718752913609569494927812151383337313398842571777926491522108424056020800297441726686290696328611340044590609701774251540496]
noncomputable def QN(T:Nat)(ws:List (Nat×Nat)):Nat→Nat:=ws.rec (fun i=>mod (shiftRight T i) (nat_lit 2)) fun w O ih i=>Nat.add (ih (Nat.add i w.1)) (ih (Nat.add i w.2))
noncomputable def dy(r j:Nat):Nat:=cond (dR j r) j (Nat.succ j)
noncomputable def w5:List (Nat×Nat):=[(nat_lit 0,nat_lit 1),(nat_lit 1,nat_lit 5),(nat_lit 2,nat_lit 25),(nat_lit 3,nat_lit 125)]
noncomputable def R8(pr pa pb r:Nat):List (Nat×Nat):=w5.map fun p=> (Nat.mul p.2 (nb pr (mod (Nat.succ (nb pa (dy r p.1))) (nat_lit 10))),Nat.mul p.2 (nb pr (mod (Nat.succ (nb pb (dy r p.1))) (nat_lit 10))))
noncomputable def Um(pr pa pb c:Nat)(l:List Nat):Nat→Bool:=l.rec (fun O=>true) fun T O ih r=>cond (zH (R8 pr pa pb r) fun ws=>beq (QN T ws (nat_lit 0)) c) (ih (Nat.succ r)) false
noncomputable def ug(W:Nat)(n:Nat):Nat:=n.rec (nat_lit 0) fun p s=>Nat.add s (mod (shiftRight W p) (nat_lit 2))
noncomputable def zI(pr:Nat):Bool:=R6 (fun pa pb=>cond (VP pr pa pb) (R7 pa pb ue (fun g=>cond (gC g pa pb) (cond (tb DR g) (zH (VS pa pb) fun xs=>de (VQ xs) fun M0=>de (Nat.mul (nat_lit 32) (nb pa (nat_lit 0))) fun s=>de (Nat.mul (nat_lit 32) (nb pb (nat_lit 0))) fun s'=>
 NF xs M0 s fun W=>cond (beq W (wm g)) (NF xs M0 s' fun W'=>cond (beq W W') (de (ug W (nat_lit 32)) fun c=>Um pr pa pb c DS (nat_lit 0)) false) false) false) false) (nat_lit 0)) false) pr (nat_lit 10) (nat_lit 0) (nat_lit 0) (nat_lit 0)
end
end
section
set_option tactic.hygienic true
section
noncomputable def en(p i j:Nat):Nat:=mod (Nat.div p (pow (nat_lit 4096) (Nat.add (Nat.mul (nat_lit 5) i) j))) (nat_lit 4096)
noncomputable def QO(n:Nat)(f:Nat→Nat):Nat:=n.rec (nat_lit 0) fun k s=>Nat.add s (f k)
noncomputable def QP(n:Nat)(f:Nat→Nat→Nat):Nat:=QO n fun i=>QO n fun j=>Nat.mul (f i j) (pow (nat_lit 4096) (Nat.add (Nat.mul (nat_lit 5) i) j))
noncomputable def VT(last a b c d:Nat):Nat:=Nat.add (Nat.mul a b) (Nat.mul (nat_lit 1000) (Nat.add (Nat.add c d) last))
noncomputable def VU(a b c d:Nat):Nat:=Nat.add (Nat.mul c d) (Nat.mul (nat_lit 1000) (Nat.add a b))
noncomputable def R9(last p i j:Nat):Nat:=Nat.div (Nat.sub (VT last (en p (Nat.succ i) (Nat.succ j)) (en p 0 0) (en p (Nat.succ i) 0) (en p 0 (Nat.succ j))) (VU (en p (Nat.succ i) (Nat.succ j)) (en p 0 0) (en p (Nat.succ i) 0) (en p 0 (Nat.succ j)))) last
noncomputable def EF(n last p p':Nat):Bool:=cond (dR (nat_lit 0) last) (cw n fun i=>de (en p (Nat.succ i) (nat_lit 0)) fun c=>cw n fun j=>de (en p (nat_lit 0) (Nat.succ j)) fun d=>de (en p (Nat.succ i) (Nat.succ j)) fun a=>de (en p (nat_lit 0) (nat_lit 0)) fun b=>de (en p' i j) fun q=>cond (beq (VT last a b c d) (Nat.add (VU a b c d) (Nat.mul last q))) (ble q (nat_lit 2000)) false) false
noncomputable def wn(i j:Nat):Nat:=Nat.sub (Nat.sub (Nat.add (Nat.div (Nat.mul i (Nat.sub (nat_lit 9) i)) (nat_lit 2)) j) i) (nat_lit 1)
noncomputable def QQ(g i j:Nat):Nat:=cond (beq i j) (nat_lit 1001) (cond (dR i j) (cond (tb g (wn i j)) (nat_lit 1001) (nat_lit 1000)) (cond (tb g (wn j i)) (nat_lit 999) (nat_lit 1000)))
noncomputable def EG(p:Nat):Nat:=Nat.sub (en p (nat_lit 0) (nat_lit 0)) (nat_lit 1000)
noncomputable def MI(g:Nat):Bool:=de (QP (nat_lit 5) (QQ g)) fun p0=>cond (cw (nat_lit 5) fun i=>cw (nat_lit 5) fun j=>beq (en p0 i j) (QQ g i j)) (de (QP (nat_lit 4) (R9 (nat_lit 1) p0)) fun p1=>cond (EF (nat_lit 4) (nat_lit 1) p0 p1) (de (EG p0) fun l1=>de (QP (nat_lit 3) (R9 l1 p1)) fun p2=>cond (EF (nat_lit 3) l1 p1 p2) (de (EG p1) fun l2=>de (QP (nat_lit 2) (R9 l2 p2)) fun p3=>cond (EF (nat_lit 2) l2 p2 p3)
 (de (EG p2) fun l3=>de (QP (nat_lit 1) (R9 l3 p3)) fun p4=>cond (EF (nat_lit 1) l3 p3 p4) (beq (en p4 (nat_lit 0) (nat_lit 0)) (Nat.add (ug (wm g) (nat_lit 32)) (nat_lit 1000))) false) false) false) false) false
noncomputable def DT:List (List Nat):=[[],[nat_lit 0],[nat_lit 1],[nat_lit 0,nat_lit 1],[nat_lit 2],[nat_lit 0,nat_lit 2],[nat_lit 1,nat_lit 2],[nat_lit 0,nat_lit 1,nat_lit 2],[nat_lit 3],[nat_lit 0,nat_lit 3],[nat_lit 1,nat_lit 3],[nat_lit 0,nat_lit 1,nat_lit 3],[nat_lit 2,nat_lit 3],[nat_lit 0,nat_lit 2,nat_lit 3],[nat_lit 1,nat_lit 2,nat_lit 3],[nat_lit 0,nat_lit 1,nat_lit 2,nat_lit 3],[nat_lit 4],[nat_lit 0,nat_lit 4],[nat_lit 1,nat_lit 4],[nat_lit 0,nat_lit 1,nat_lit 4],[nat_lit 2,nat_lit 4],[nat_lit 0,nat_lit 2,nat_lit 4],[nat_lit 1,nat_lit 2,nat_lit 4],[nat_lit 0,nat_lit 1,nat_lit 2,nat_lit 4],[nat_lit 3,nat_lit 4],[nat_lit 0,nat_lit 3,nat_lit 4],[nat_lit 1,nat_lit 3,nat_lit 4],[nat_lit 0,nat_lit 1,nat_lit 3,nat_lit 4],[nat_lit 2,nat_lit 3,nat_lit 4],[nat_lit 0,nat_lit 2,nat_lit 3,nat_lit 4],[nat_lit 1,nat_lit 2,nat_lit 3,nat_lit 4],[nat_lit 0,nat_lit 1,nat_lit 2,nat_lit 3,nat_lit 4]]
noncomputable def xG(g i j:Nat):Bool:=tb g (wn i j)
noncomputable def R_(g:Nat)(l:List Nat):Bool:=l.rec true fun a r O=>r.rec false fun b r O=>r.rec (xG g a b) fun c r O=>r.rec false fun d r O=>r.rec (cC (cond (xG g a b) (xG g c d) false) (cC (cond (xG g a c) (xG g b d) false) (cond (xG g a d) (xG g b c) false))) fun O O O=>false
noncomputable def Sa(g W:Nat)(l:List (List Nat)):Nat→Bool:=l.rec (fun O=>true) fun l O ih p=>cond (cC (R_ g l) (tb W p)) (ih (Nat.succ p)) false
noncomputable def XW(g:Nat):Bool:=de (wm g) fun W=>Sa g W DT (nat_lit 0)
noncomputable def QR(g:Nat):Bool:=cond (tb DR g) (cond (DQ g) (cond (XW g) (MI g) false) false) true
end
end
section
set_option tactic.hygienic true
section
theorem MJ:cw 315 (fun m=>DK m zI)=true:=by decide+kernel
theorem MK:cw 315 (fun m=>DK (Nat.add m (nat_lit 315)) zI)=true:=by decide+kernel
theorem MM:cw 315 (fun m=>DK (Nat.add m (nat_lit 630)) zI)=true:=by decide+kernel
theorem DU:cw 512 QR=true:=by decide+kernel
theorem DV:cw 512 (fun g=>QR (Nat.add g (nat_lit 512)))=true:=by decide+kernel
end
end
section
set_option tactic.hygienic true
section
noncomputable def wq(nx:Nat→Nat)(s i:Nat):Nat:=i.rec s fun O q=>nx q
def Un(nx:Nat→Nat)(s:Nat):Prop:=(∀i,i<9→wq nx s (i+1)≠s)∧wq nx s 10=s
theorem yf(xs:List (Nat×Nat))(M0 P:Nat):DO xs M0 P=uc xs M0 P:=Nat.eq_of_testBit_eq fun i=>by
 unfold uc
 rw[gy]
 induction xs with
 | nil=>exact(aaJ _).symm
 | cons x xs ih=>
  show(NE P x|||DO xs M0 P).testBit i=_
  rw[ZO,ih,aae]
  cases(NE P x).testBit i <;> simp
theorem yg:DP=full:=by decide+kernel
theorem MN(xs:List (Nat×Nat)):VQ xs=wj xs:=by
 have:∀xs:List (Nat×Nat),(xs.rec (nat_lit 0) fun x O ih=>lor (lor x.1 (shiftLeft x.1 x.2)) ih:Nat)=xs.foldl (fun acc x=>acc|||wg x) 0:=fun xs=>Nat.eq_of_testBit_eq fun i=>by
  rw[gy]
  induction xs with
  | nil=>rw[aaG];rfl
  | cons x xs ih=>
   show(wg x|||_).testBit i=_
   rw[ZO,ih,aae,aaG,abp,abp]
 exact(E5 (Nat.xor · _) yg).trans (E5 (Nat.xor full) (this xs))
theorem yi(Q:Nat):HT Q=HP Q:=E5 (land (lor (shiftLeft Q 32) (shiftRight Q 288))) yg
theorem MO(pa pb:Nat):VS pa pb=j6 (nb pa) (nb pb):=rfl
noncomputable def PK(xs:List (Nat×Nat))(s i:Nat):Nat:=i.rec ((2 ^ 32 - 1)<<<(32*s)) fun O P=>HP (uc xs (wj xs) P)
noncomputable def zW(xs:List (Nat×Nat))(s i:Nat):Nat:=i.rec 0 fun i A=>A|||uf (32*s) (PK xs s (i+1))
theorem DW{xs:List (Nat×Nat)}{s:Nat}{K:Nat→Bool}:∀(n i:Nat),MG xs (wj xs) (32*s) K n (PK xs s (i+1)) (zW xs s i)=K ((uf (32*s) (PK xs s (i+1+n))|||zW xs s (i+n)) ^^^ zW xs s (i+n))
 | 0,i=>aE _ _
 | n+1,i=>by
  show de (zW xs s (i+1)) (fun acc=>de (DO xs (wj xs) (PK xs s (i+1))) fun Q=>de (HT Q) fun P=>MG xs (wj xs) (32*s) K n P acc)=_
  rw[aE,aE,aE,yf,yi]
  have:=DW (xs:=xs) (s:=s) (K:=K) n (i+1)
  rw[show i+1+1+n=i+1+(n+1) by omega,show i+1+n=i+(n+1) by omega] at this
  exact this
theorem JO{xs:List (Nat×Nat)}{s:Nat}{K:Nat→Bool}:NF xs (wj xs) (32*s) K=K ((uf (32*s) (PK xs s 10)|||zW xs s 9) ^^^ zW xs s 9):=by
 unfold NF
 rw[aE,aE,yf,yi]
 exact DW 9 0
theorem DX{s P S:Nat}(hS:S<32):(uf (32*s) P).testBit S=bt P s S:=by
 show(P >>> (32*s) % 2 ^ 32).testBit S=_
 rw[Nat.testBit_mod_two_pow,U5 hS,abo];rfl
theorem JP{xs:List (Nat×Nat)}{s S:Nat}(hS:S<32):∀n,(zW xs s n).testBit S=true↔∃i,i<n∧bt (PK xs s (i+1)) s S=true
 | 0=> ⟨fun h=>absurd ((aaG S).symm.trans h) (by decide),fun⟨i,h,_⟩=>absurd h (aah i)⟩
 | n+1=>by
  show(zW xs s n|||uf (32*s) (PK xs s (n+1))).testBit S=true↔_
  rw[ZO,Bool.or_eq_true,JP hS n,DX hS]
  constructor
  ·rintro(⟨i,h,e⟩ | h)
   ·exact⟨i,YW h,e⟩
   ·exact⟨n,Za n,h⟩
  ·rintro⟨i,h,e⟩
   rcases ZS (YS h) with h | rfl
   ·exact .inl ⟨i,h,e⟩
   ·exact .inr e
section
variable {a b L:Nat→Nat}(H:kU a b L)
include H
theorem HU{q:Nat}(hq:q<10):eH a b L q<10∧L (eH a b L q)=L q∧eH a b L (eH a b L q)=q:=by
 have hl:=(H.all q hq).1
 have ab:=H.ab _ hl
 have la:=H.la _ hl
 rcases rD H hq with⟨h1,h2⟩ |⟨h1,h2⟩
 ·rw[h2]
  refine⟨ab.2,la.2,?_⟩
  unfold eH
  rw[la.2];omega
 ·rw[h2]
  refine⟨YB ab.1 ab.2,la.1,?_⟩
  unfold eH
  rw[la.1];omega
noncomputable def EH(a b L:Nat→Nat)(S q:Nat):Nat:=cond (S.testBit (L q)) (eH a b L q) q
theorem DY{S q:Nat}(hq:q<10):EH a b L S q<10∧EH a b L S (EH a b L S q)=q:=by
 obtain⟨h1,h2,h3⟩:=HU H hq
 unfold EH
 cases e:S.testBit (L q) with
 | true=>exact⟨h1,by rw[ZB,h2,e,ZB];exact h3⟩
 | false=>exact⟨hq,by rw[aa9,e];rfl⟩
theorem QS{S s:Nat}(hs:s<10):∀i,wq (uw a b L S) s i<10
 | 0=>hs
 | i+1=>YK _ (by decide)
theorem yj{s S:Nat}(hs:s<10)(hS:S<32):∀i q,q<10→bt (PK (j6 a b) s i) q S=decide (wq (uw a b L S) s i=q)
 | 0,q,hq=>by
  refine(on (C:=2 ^ 32 - 1) (by decide) hS).trans ?_
  rw[ZT,U5 hS,Bool.and_true,aW]
  exact YO.mpr eq_comm
 | i+1,q,hq=>by
  have hp:(q+9) % 10<10:=YK _ (by decide)
  have eq:((q+9) % 10+1) % 10=q:=by omega
  have key:=MF (Q:=uc (j6 a b) (wj (j6 a b)) (PK (j6 a b) s i)) (fun q hq S hS=>ME H hS hq) hS hp
  rw[eq,MD H hS hp] at key
  refine key.trans ?_
  have il:=QS H (S:=S) hs i
  have mp:=DY H (S:=S) hp
  have mi:=DY H (S:=S) il
  have ih:=yj hs hS i
  have e1:cond (S.testBit (L ((q+9) % 10))) (bt (PK (j6 a b) s i) (eH a b L ((q+9) % 10)) S) (bt (PK (j6 a b) s i) ((q+9) % 10) S)=bt (PK (j6 a b) s i) (EH a b L S ((q+9) % 10)) S:=by
   unfold EH
   cases S.testBit (L ((q+9) % 10)) <;> rfl
  rw[e1,ih _ mp.1]
  refine YO.mpr ?_
  show _↔(EH a b L S (wq (uw a b L S) s i)+1) % 10=q
  constructor
  ·intro h
   rw[h,mp.2,eq]
  ·intro h
   have:EH a b L S (wq (uw a b L S) s i)=(q+9) % 10:=by have:=mi.1;omega
   rw[← this,mi.2]
theorem DZ{s S:Nat}(hs:s<10)(hS:S<32):((uf (32*s) (PK (j6 a b) s 10)|||zW (j6 a b) s 9) ^^^ zW (j6 a b) s 9).testBit S=true↔Un (uw a b L S) s:=by
 rw[ace,ZO,DX hS,yj H hs hS 10 s hs]
 have ac:=JP (xs:=j6 a b) (s:=s) hS 9
 have no:(zW (j6 a b) s 9).testBit S=false↔∀i,i<9→wq (uw a b L S) s (i+1)≠s:=by
  rw[← Bool.not_eq_true,ac]
  constructor
  ·exact fun h i hi e=>h ⟨i,hi,(yj H hs hS (i+1) s hs).trans (U5 e)⟩
  ·rintro h ⟨i,hi,e⟩
   rw[yj H hs hS (i+1) s hs] at e
   exact h i hi (U9 e)
 unfold Un
 rw[← no]
 cases(zW (j6 a b) s 9).testBit S
 ·rw[aaJ,Bool.xor_false]
  exact⟨fun h=> ⟨rfl,U9 h⟩,fun h=>U5 h.2⟩
 ·rw[Bool.or_true]
  exact⟨fun h=> (nomatch h),fun h=> (nomatch h.1)⟩
end
theorem MP{pa pb:Nat}{K:Nat→Bool}:∀ {l:List (Nat×Nat×Nat)} {g:Nat},R7 pa pb l K g=true→∃g,K g=true
 | [],g,h=> ⟨g,h⟩
 | p::l,g,h=>by
  have h:cond (xB pa pb p.1 p.2.1) (de (Nat.add g (pow (nat_lit 2) p.2.2)) (R7 pa pb l K)) (R7 pa pb l K g)=true:=h
  cases e:xB pa pb p.1 p.2.1 with
  | true=>rw[e,ZB,aE] at h;exact MP h
  | false=>rw[e,aa9] at h;exact MP h
theorem cX{a b:Bool}(h:cond a b false=true):a=true∧b=true:=by cases a;cases h;exact⟨rfl,h⟩
theorem ik{a b:Nat}(h:dR a b=true):a<b:=E1 h
structure yk(R:List Nat)(a b:Nat→Nat)(g:Nat):Prop where
 ch:kU a b (fun q=>R.getD q 0)
 inc:∀k,k<4→a k<a (k+1)
 gx:∀p∈ue,tb g p.2.2=(decide (a p.2.1<b p.1)&&decide (b p.1<b p.2.1))
 lt:g<1024
 VW:tb DR g=true
 wk:∀S,S<32→∀s,s=a 0∨s=b 0→((wm g).testBit S=true↔Un (uw a b (fun q=>R.getD q 0) S) s)
 tr:∀r,r<5→QN (DS.getD r 0) (w5.map fun p=> (p.2*R.getD ((a (dy r p.1)+1) % 10) 0,p.2*R.getD ((b (dy r p.1)+1) % 10) 0)) 0=ug (wm g) 32
theorem JQ{pr pa pb c:Nat}:∀ {l:List Nat} {r:Nat},Um pr pa pb c l r=true→∀i,i<l.length→QN (l.getD i 0) (R8 pr pa pb (r+i)) 0=c
 | T::l,r,h,i,hi=>by
  have h:cond (zH (R8 pr pa pb r) fun ws=>beq (QN T ws (nat_lit 0)) c) (Um pr pa pb c l (Nat.succ r)) false=true:=h
  obtain⟨h1,h2⟩:=cX h
  cases i with
  | zero=>rw[rF] at h1;exact U7 h1
  | succ i=>
   have:=JQ h2 i (ZQ hi)
   rw[Nat.succ_add] at this
   exact this
theorem D0(m:Nat)(h:m<945):zI (val (j4 m))=true:=by
 rcases aaw m 315 with h1 | h1
 ·exact(wl m zI).symm.trans (bA MJ m h1)
 ·rcases aaw m 630 with h2 | h2
  ·have:=bA MK (m - 315) (by omega)
   rw[show Nat.add (m - 315) 315=m from Zn h1,wl] at this
   exact this
  ·have:=bA MM (m - 630) (by omega)
   rw[show Nat.add (m - 630) 630=m from Zn h2,wl] at this
   exact this
theorem MQ(m:Nat)(h:m<945):∃a b g,yk (j4 m) a b g:=by
 have h:=D0 m h
 have nv:∀k,nb (val (j4 m)) k=(j4 m).getD k 0:=DI _ fun y hy=>YB (om m 5 y hy) (by decide)
 generalize j4 m=R at h nv
 unfold zI at h
 obtain⟨pa,pb,h⟩:=DM h
 obtain⟨hc,h⟩:=cX h
 obtain⟨g,h⟩:=MP h
 obtain⟨hg,h⟩:=cX h
 obtain⟨ho,h⟩:=cX h
 rw[rF,aE,aE,aE,MO,MN] at h
 have h:NF (j6 (nb pa) (nb pb)) (wj (j6 (nb pa) (nb pb))) (32*nb pa 0) _=true:=h
 rw[JO] at h
 obtain⟨hW,h⟩:=cX h
 have h:NF (j6 (nb pa) (nb pb)) (wj (j6 (nb pa) (nb pb))) (32*nb pb 0) _=true:=h
 rw[JO] at h
 obtain⟨XX,h⟩:=cX h
 rw[aE] at h
 have eW:=U7 hW
 have XY:=U7 XX
 unfold VP at hc
 obtain⟨c1,hc⟩:=cX hc
 obtain⟨c2,c3⟩:=cX hc
 have c1:=fun k (hk:k<5)=>by have:=bA c1 k hk;rw[aE,aE] at this;exact this
 have c2:=fun q (hq:q<10)=>by have:=bA c2 q hq;rw[aE] at this;exact this
 have ch:kU (nb pa) (nb pb) fun q=>R.getD q 0:=⟨fun k hk=> ⟨ik (cX (c1 k hk)).1,ik (cX (cX (c1 k hk)).2).1⟩,fun k hk=>by
   obtain⟨e1,e2⟩:=cX (cX (cX (c1 k hk)).2).2
   exact⟨(nv _).symm.trans (U7 e1),(nv _).symm.trans (U7 e2)⟩,fun q hq=>by
   obtain⟨e1,e2⟩:=cX (c2 q hq)
   rw[nv] at e1 e2
   refine⟨ik e1,?_⟩
   cases e3:beq q (nb pa (R.getD q 0)) with
   | true=>exact .inl (U7 e3)
   | false=>rw[e3] at e2;exact .inr (U7 e2)⟩
 have zG:=ch.ab 0 (by decide)
 unfold gC at hg
 obtain⟨g1,g2⟩:=cX hg
 refine⟨nb pa,nb pb,g,ch,fun k hk=>ik (bA c3 k hk),fun p hp=>?_,ik g1,ho,fun S hS s hs=>?_,fun r hr=>?_⟩
 ·rw[iI (DN g2 p hp)]
  unfold xB
  rw[aE]
  have e:∀x y:Nat,dR x y=decide (x<y):=fun x y=>by
   rw[ZF,aam]
   exact⟨E1,YM⟩
  rw[e,e]
  cases decide (nb pa p.2.1<nb pb p.1) <;> rfl
 ·rcases hs with rfl | rfl
  ·rw[← eW];exact DZ ch (YB zG.1 zG.2) hS
  ·rw[← eW,XY];exact DZ ch zG.2 hS
 ·have:=JQ h r hr
  rw[Zw,eW] at this
  unfold R8 at this
  simp only[nv] at this
  exact this
end
end
section
set_option tactic.hygienic true
section
noncomputable def VX(s:Nat→Nat→Int):List Nat→Int
 | []=>1
 | [a,b]=>s a b
 | [a,b,c,d]=>s a b*s c d - s a c*s b d+s a d*s b c
 | _=>0
section
variable {sg:List (List Int)}
theorem dT(pf:List Nat→Int)(l:List Nat)(i:Nat)(t:Int):cW pf sg l i t=t+(-1) ^ i*bJ sg (l.getD 0 0) (l.getD (i+1) 0)*pf (d_ l i):=by
 unfold cW
 by_cases h:bJ sg (l.getD 0 0) (l.getD (i+1) 0)=0
 ·rw[h,ZU,Int.zero_mul,Int.add_zero];rfl
 ·rw[show(bJ sg (l.getD 0 0) (l.getD (i+1) 0) !=0)=true from bne_iff_ne.mpr h];rfl
theorem rG(n a b:Nat):dJ sg (n+2) [a,b]=bJ sg a b:=by
 show cW (dJ sg (n+1)) sg [a,b] 0 0=_
 rw[dT]
 show 0+(-1) ^ 0*bJ sg a b*1=_
 rw[Int.pow_zero,Y',mul_one,Int.zero_add]
theorem im(n a b c:Nat):dJ sg (n+2) [a,b,c]=0:=by
 show cW (dJ sg (n+1)) sg [a,b,c] 1 (cW (dJ sg (n+1)) sg [a,b,c] 0 0)=0
 rw[dT,dT]
 show 0+_*(0:Int)+_*(0:Int)=0
 rw[ZU,ZU];rfl
theorem QT:∀l:List Nat,l.length≤5→dJ sg 6 l=VX (bJ sg) l
 | [],_=>rfl
 | [a],_=>rfl
 | [a,b],_=>rG 4 a b
 | [a,b,c],_=>im 4 a b c
 | [a,b,c,d],_=>by
  show cW (dJ sg 5) sg [a,b,c,d] 2 (cW (dJ sg 5) sg [a,b,c,d] 1 (cW (dJ sg 5) sg [a,b,c,d] 0 0))=_
  rw[dT,dT,dT]
  show 0+(-1) ^ 0*bJ sg a b*dJ sg 5 [c,d]+(-1) ^ 1*bJ sg a c*dJ sg 5 [b,d]+(-1) ^ 2*bJ sg a d*dJ sg 5 [b,c]=bJ sg a b*bJ sg c d - bJ sg a c*bJ sg b d+bJ sg a d*bJ sg b c
  rw[rG 3,rG 3,rG 3,show(-1:Int) ^ 0=1 from rfl,show(-1:Int) ^ 1= -1 from rfl,show(-1:Int) ^ 2=1 from rfl,Y',Y',Int.neg_mul,Int.neg_mul,Y',Int.zero_add,← Int.sub_eq_add_neg]
 | [a,b,c,d,e],_=>by
  show cW (dJ sg 5) sg [a,b,c,d,e] 3 (cW (dJ sg 5) sg [a,b,c,d,e] 2 (cW (dJ sg 5) sg [a,b,c,d,e] 1 (cW (dJ sg 5) sg [a,b,c,d,e] 0 0)))=0
  rw[dT,dT,dT,dT]
  show 0+_*dJ sg 5 [c,d,e]+_*dJ sg 5 [b,d,e]+_*dJ sg 5 [b,c,e]+_*dJ sg 5 [b,c,d]=0
  rw[im 3,im 3,im 3,im 3,ZU,ZU,ZU,ZU];rfl
 | _::_::_::_::_::_::_,h=>absurd h (by simp)
end
noncomputable def D1(g i j:Nat):Int:=cond (beq i j) 0 (cond (dR i j) (cond (xG g i j) 1 0) (cond (xG g j i) (-1) 0))
def D3(e:Nat→Int):Prop:= ∀i,e i=1∨e i= -1
theorem HV{e:Nat→Int}(he:D3 e)(i:Nat):e i*e i=1:=by rcases he i with h | h <;> rw[h] <;> rfl
theorem oo{g a b:Nat}(h:a<b):D1 g a b=cond (xG g a b) 1 0:=by
 unfold D1
 rw[aW,U4 (V2 h),show dR a b=true from YM h];rfl
noncomputable def XZ(g a b c d:Nat):Bool:=cond (cond (xG g a b) (xG g c d) false) (cond (cond (xG g a d) (xG g b c) false) (cond (xG g a c) (xG g b d) false) true) true
theorem MR:∀p q r s t u:Bool,cond (cond p q false) (cond (cond t u false) (cond r s false) true) true=true→((cond p 1 0:Int)*cond q 1 0 - cond r 1 0*cond s 1 0+cond t 1 0*cond u 1 0) ^ 2=cond (cC (cond p q false) (cC (cond r s false) (cond t u false))) 1 0:=by decide
theorem HW:(cw 5 fun a=>cw 5 fun b=>cw 5 fun c=>cw 5 fun d=>cond (dR a b) (cond (dR b c) (cond (dR c d) (MH.any fun q=>decide (q.1=(wn a b,wn c d)∧q.2.1=(wn a c,wn b d)∧q.2.2.1=(wn a d,wn b c))) true) true) true)=true:=by decide+kernel
theorem D4{g:Nat}(h:DQ g=true){a b c d:Nat}(h1:a<b)(h2:b<c)(h3:c<d)(h4:d<5):XZ g a b c d=true:=by
 have hc:=YB h3 h4
 have hb:=YB h2 hc
 have ht:=bA (bA (bA (bA HW a (YB h1 hb)) b hb) c hc) d h4
 rw[show dR a b=true from YM h1,show dR b c=true from YM h2,show dR c d=true from YM h3] at ht
 obtain⟨q,hq,e⟩:=Y1.mp ht
 obtain⟨e1,e2,e3⟩:=U9 e
 have:=DN h q hq
 rw[e1,e2,e3] at this
 exact this
theorem D5(y:Int):y ^ 2=y*y:=by rw[Int.pow_succ,Int.pow_succ,Int.pow_zero,Y']
theorem QU{g:Nat}{s:Nat→Nat→Int}{e:Nat→Int}(hn:DQ g=true)(he:D3 e)(hs:∀i j,i<5→j<5→s i j=e i*e j*D1 g i j):∀l:List Nat,l.length≤5→l.Pairwise (· < ·)→(∀a∈l,a<5)→VX s l ^ 2=cond (R_ g l) 1 0
 | [],_,_,_=>rfl
 | [_],_,_,_=>rfl
 | [a,b],_,hp,h5=>by
  have ab:a<b:=ZC hp E7
  show s a b ^ 2=cond (xG g a b) 1 0
  rw[hs a b (h5 a E7) (h5 b (E6 _ E7)),oo ab]
  rcases he a with h | h <;> rcases he b with h' | h' <;> rw[h,h'] <;> cases xG g a b <;> rfl
 | [_,_,_],_,_,_=>rfl
 | [a,b,c,d],_,hp,h5=>by
  have ab:a<b:=ZC hp E7
  have bc:b<c:=ZC (aaz hp) E7
  have cd:c<d:=ZC (aaz (aaz hp)) E7
  have d5:d<5:=h5 d (by simp)
  have c5:=YB cd d5
  have b5:=YB bc c5
  have a5:=YB ab b5
  have q:=MR _ _ _ _ _ _ (D4 hn ab bc cd d5)
  show(s a b*s c d - s a c*s b d+s a d*s b c) ^ 2=_
  rw[hs a b a5 b5,hs c d c5 d5,hs a c a5 c5,hs b d b5 d5,hs a d a5 d5,hs b c b5 c5,oo ab,oo cd,oo (YB ab bc),oo (YB bc cd),oo (YB (YB ab bc) cd),oo bc]
  refine Eq.trans ?_ q
  generalize(cond (xG g a b) 1 0:Int)=p1
  generalize(cond (xG g c d) 1 0:Int)=p2
  generalize(cond (xG g a c) 1 0:Int)=p3
  generalize(cond (xG g b d) 1 0:Int)=p4
  generalize(cond (xG g a d) 1 0:Int)=p5
  generalize(cond (xG g b c) 1 0:Int)=p6
  have m1:e a*e b*p1*(e c*e d*p2)=(e a*e b*e c*e d)*(p1*p2):=by ac_rfl
  have m2:e a*e c*p3*(e b*e d*p4)=(e a*e b*e c*e d)*(p3*p4):=by ac_rfl
  have m3:e a*e d*p5*(e b*e c*p6)=(e a*e b*e c*e d)*(p5*p6):=by ac_rfl
  have m4:(e a*e b*e c*e d)*(e a*e b*e c*e d)=(e a*e a)*(e b*e b)*((e c*e c)*(e d*e d)):=by ac_rfl
  rw[HV he,HV he,HV he,HV he] at m4
  rw[m1,m2,m3,← acg,← Int.mul_add,D5,D5]
  generalize e a*e b*e c*e d=E at m4
  generalize p1*p2 - p3*p4+p5*p6=y
  have m5:E*y*(E*y)=(E*E)*(y*y):=by ac_rfl
  rw[m5,m4]
  exact Y' _
 | [_,_,_,_,_],_,_,_=>rfl
 | _::_::_::_::_::_::_,h,_,_=>absurd h (by simp)
theorem oq(g:Nat)(h:g<1024):QR g=true:=by
 rcases aaw g 512 with h1 | h1
 ·exact bA DU g h1
 ·have:=bA DV (g - 512) (by omega)
  rw[show Nat.add (g - 512) 512=g from Zn h1] at this
  exact this
theorem D6:∀p,p<32→mo p=DT.getD p []:=by decide+kernel
theorem D7{g W:Nat}:∀ {l:List (List Nat)} {p:Nat},Sa g W l p=true→∀i,i<l.length→R_ g (l.getD i [])=tb W (p+i)
 | x::l,p,h,i,hi=>by
  obtain⟨h1,h2⟩:=cX (a:=cC (R_ g x) (tb W p)) h
  cases i with
  | zero=>exact iI h1
  | succ i=>
   have:=D7 h2 i (ZQ hi)
   rw[Nat.succ_add] at this
   exact this
theorem D8{g:Nat}(h:g<1024)(ho:tb DR g=true){sg:List (List Int)}{e:Nat→Int}(he:D3 e)(hs:∀i j,i<5→j<5→bJ sg i j=e i*e j*D1 g i j)(p:Nat)(hp:p<32):dJ sg 6 (mo p) ^ 2=cond ((wm g).testBit p) 1 0:=by
 have hg:=oq g h
 unfold QR at hg
 rw[ho,ZB] at hg
 obtain⟨hn,hg⟩:=cX hg
 obtain⟨hf,_⟩:=cX hg
 have hf:Sa g (wm g) DT 0=true:=(aE (wm g) fun W=>Sa g W DT 0).symm.trans hf
 have X1:DT.length=32:=by decide+kernel
 have hf:=D7 hf p (by rw[X1];exact hp)
 have sm:=ru p
 have pw:(mo p).Pairwise (· < ·):=List.Pairwise.filter _ List.pairwise_lt_range
 have e1:=QU hn he hs (mo p) sm.1 pw sm.2
 rw[D6 p hp] at e1 ⊢
 rw[QT _ (by rw[← D6 p hp];exact sm.1),e1,hf,Zw,DL]
end
end
section
set_option tactic.hygienic true
section
structure rH(M:Nat→Nat→Int)(m:Nat→Nat→Nat→Int)(la:Nat→Int):Prop where
 m0:∀i j,i<5→j<5→m 0 i j=M i j
 l0:la 0=1
 ls:∀k,k<4→la (k+1)=m k k k
 st:∀k,k<4→∀i j,k<i→i<5→k<j→j<5→m k i j*m k k k - m k i k*m k k j=m (k+1) i j*la k
 ne:∀k,k<4→la k≠0
 bd:∀k,k≤4→∀i j,k≤i→i<5→k≤j→j<5→(m k i j).natAbs≤1000
theorem rH.flip{M:Nat→Nat→Int}{m:Nat→Nat→Nat→Int}{la:Nat→Int}(E:rH M m la){e:Nat→Int}(he:D3 e):rH (fun i j=>e i*e j*M i j) (fun k i j=>e i*e j*m k i j) la where
 m0 i j hi hj:=by rw[E.m0 i j hi hj]
 l0:=E.l0
 ls k hk:=by rw[E.ls k hk,HV he,Y']
 st k hk i j h1 h2 h3 h4:=by
  have a1:e i*e j*m k i j*(e k*e k*m k k k)=e i*e j*(m k i j*m k k k):=by rw[HV he,Y',abU]
  have a2:e i*e k*m k i k*(e k*e j*m k k j)=(e k*e k)*(e i*e j*(m k i k*m k k j)):=by ac_rfl
  rw[a1,a2,HV he,Y',← acg,E.st k hk i j h1 h2 h3 h4,abU,abU,abU]
 ne:=E.ne
 bd k hk i j h1 h2 h3 h4:=by
  have:=E.bd k hk i j h1 h2 h3 h4
  have u:∀i,(e i).natAbs=1:=fun i=>by rcases he i with h | h <;> rw[h] <;> rfl
  rw[Int.natAbs_mul,Int.natAbs_mul,u,u,Nat.one_mul]
  exact this
structure Sh(A:List (List Int)):Prop where
 l:A.length=5
 r:∀a,a<5→(A.getD a []).length=5
theorem ym{A:List (List Int)}(h:A.length=5){r:Nat}(hr:r<5)(row:List Int)(i j:Nat):(A.set r row).getD i []=(if i=r then row else A.getD i [])∧bJ (A.set r row) i j=if i=r then row.getD j 0 else bJ A i j:=by
 have e:(A.set r row).getD i []=if i=r then row else A.getD i []:=by
  rw[U3,List.getElem?_set,U3]
  by_cases h1:r=i
  ·subst h1
   rw[V8 rfl,V8 (h▸hr),V8 rfl];rfl
  ·rw[V4 h1,V4 (fun e=>h1 e.symm)]
 refine⟨e,?_⟩
 unfold bJ
 rw[e]
 by_cases h1:i=r
 ·rw[V8 h1,V8 h1]
 ·rw[V4 h1,V4 h1]
theorem HX(A:List (List Int))(last:Int){k:Nat}(hk:k<4)(i:Nat):(nO A last k i).length=5∧∀j,j<5→(nO A last k i).getD j 0=if j≤k then 0 else iQ A last k i j:=by
 unfold nO
 constructor
 ·rw[YF,ZY,E9,YP]
  omega
 ·intro j hj
  rw[U3]
  by_cases h:j≤k
  ·rw[V8 h,List.getElem?_append_left (by rw[ZY];omega),List.getElem?_replicate,V8 (by omega)];rfl
  ·rw[V4 h,List.getElem?_append_right (by rw[ZY];omega),ZY,V9,ZH (by omega)]
   show iQ A last k i (k+1+(j - (k+1)))=_
   rw[show k+1+(j - (k+1))=j by omega]
theorem yn{A:List (List Int)}(S:Sh A)(last:Int){k:Nat}(hk:k<4):∀n,n≤4 - k→Sh (dI A last k n)∧∀i j,i<5→j<5→bJ (dI A last k n) i j=if k+1≤i∧i<k+1+n then(if j≤k then 0 else iQ A last k i j) else bJ A i j
 | 0,_=> ⟨S,fun i j O O=>by rw[V4 (by omega)];rfl⟩
 | n+1,hn=>by
  obtain⟨S',ih⟩:=yn S last hk n (Yy hn)
  rw[G7]
  have hr:k+1+n<5:=by omega
  have row:=HX (dI A last k n) last hk (k+1+n)
  refine⟨⟨by rw[List.length_set];exact S'.l,fun a ha=>?_⟩,fun i j hi hj=>?_⟩
  ·rw[(ym S'.l hr _ a 0).1]
   split
   ·exact row.1
   ·exact S'.r a ha
  ·rw[(ym S'.l hr _ i j).2]
   by_cases h:i=k+1+n
   ·rw[V8 h,V8 (show k+1≤i∧i<k+1+(n+1) by omega),row.2 j hj]
    by_cases Sb:j≤k
    ·rw[V8 Sb,V8 Sb]
    ·rw[V4 Sb,V4 Sb]
     unfold iQ
     rw[ih (k+1+n) j hr hj,ih k k (by omega) (by omega),ih (k+1+n) k hr (by omega),ih k j (by omega) hj,V4 (by omega),V4 (by omega),V4 (by omega),V4 (by omega),h]
   ·rw[V4 h,ih i j hi hj]
    by_cases h2:k+1≤i∧i<k+1+n
    ·rw[V8 h2,V8 (show k+1≤i∧i<k+1+(n+1) by omega)]
    ·rw[V4 h2,V4 (show ¬(k+1≤i∧i<k+1+(n+1)) by omega)]
section
variable {A:List (List Int)}{m:Nat→Nat→Nat→Int}{la:Nat→Int}
structure At(A:List (List Int))(m:Nat→Nat→Nat→Int)(la:Nat→Int)(k:Nat):Prop where
 sh:Sh (dS A k).1
 m:∀i j,k≤i→i<5→k≤j→j<5→bJ (dS A k).1 i j=m k i j
 la:(dS A k).2=la k
 bd:∀i j,i<5→j<5→(bJ (dS A k).1 i j).natAbs≤1000
theorem D9(E:rH (bJ A) m la){k:Nat}(hk:k<4)(T:At A m la k){i j:Nat}(h1:k<i)(h2:i<5)(h3:k<j)(h4:j<5):iQ (dS A k).1 (dS A k).2 k i j=m (k+1) i j:=by
 unfold iQ
 rw[T.m i j (Yy h1) h2 (Yy h3) h4,T.m k k (E8 k) (by omega) (E8 k) (by omega),T.m i k (Yy h1) h2 (E8 k) (by omega),T.m k j (E8 k) (by omega) (Yy h3) h4,T.la,E.st k hk i j h1 h2 h3 h4]
 exact Int.mul_fdiv_cancel _ (E.ne k hk)
theorem JR(E:rH (bJ A) m la){k:Nat}(hk:k<4)(T:At A m la k){n:Nat}(hn:n≤4 - k)(i j:Nat)(hi:i<5)(hj:j<5):(bJ (dI (dS A k).1 (dS A k).2 k n) i j).natAbs≤1000:=by
 rw[(yn T.sh (dS A k).2 hk n hn).2 i j hi hj]
 split
 ·split
  ·exact Y8 _
  ·rw[D9 E hk T (by omega) hi (by omega) hj]
   exact E.bd (k+1) hk i j (by omega) hi (by omega) hj
 ·exact T.bd i j hi hj
theorem uh(S:Sh A)(E:rH (bJ A) m la):∀k,k≤4→At A m la k
 | 0,_=> ⟨S,fun i j O hi O hj=> (E.m0 i j hi hj).symm,E.l0.symm,fun i j hi hj=>by
  have:=E.bd 0 (Y8 _) i j (Y8 _) hi (Y8 _) hj
  rw[E.m0 i j hi hj] at this
  exact this⟩
 | k+1,hk=>by
  have T:=uh S E k (Yy hk)
  obtain⟨S',h⟩:=yn T.sh (dS A k).2 hk (4 - k) (E8 _)
  refine⟨S',fun i j h1 hi h2 hj=>?_,?_,JR E hk T (E8 _)⟩
  ·show bJ (dI (dS A k).1 (dS A k).2 k (4 - k)) i j=_
   rw[h i j hi hj,V8 (by omega),V4 (by omega)]
   exact D9 E hk T h1 hi h2 hj
  ·show bJ (dI (dS A k).1 (dS A k).2 k (4 - k)) k k=_
   rw[h k k (by omega) (by omega),V4 (by omega),E.ls k hk]
   exact T.m k k (E8 k) (by omega) (E8 k) (by omega)
theorem D_(S:Sh A)(E:rH (bJ A) m la):tS A∧kN A=m 4 4 4:=by
 refine⟨⟨fun k n hk hn=>?_,fun k hk=>?_,?_⟩,(uh S E 4 (E8 _)).m 4 4 (by decide) (by decide) (by decide) (by decide)⟩
 ·have T:=uh S E k (Yy hk)
  have S':=(yn T.sh (dS A k).2 hk n hn).1
  exact⟨S'.l,S'.r,fun i j hi hj=>YE (JR E hk T hn i j hi hj) (by decide)⟩
 ·have T:=uh S E k (Yy hk)
  rw[T.la]
  refine⟨E.ne k hk,?_⟩
  cases k with
  | zero=>rw[E.l0];decide
  | succ k=>
   rw[E.ls k (aas hk)]
   exact YE (E.bd k (by omega) k k (E8 k) (by omega) (E8 k) (by omega)) (by decide)
 ·have T:=uh S E 4 (E8 _)
  exact⟨T.sh.l,T.sh.r,fun i j hi hj=>YE (T.bd i j hi hj) (by decide)⟩
end
theorem yo{n last p p':Nat}(h:EF n last p p'=true):0<last∧∀i j,i<n→j<n→(((en p (i+1) (j+1):Int) - 1000)*((en p 0 0:Int) - 1000) - ((en p (i+1) 0:Int) - 1000)*((en p 0 (j+1):Int) - 1000)=((en p' i j:Int) - 1000)*(last:Int))∧((en p' i j:Int) - 1000).natAbs≤1000:=by
 unfold EF at h
 obtain⟨h1,h2⟩:=cX h
 refine⟨ik h1,fun i j hi hj=>?_⟩
 have h3:=bA h2 i hi
 rw[aE] at h3
 have h4:=bA h3 j hj
 rw[aE,aE,aE,aE] at h4
 obtain⟨h5,h6⟩:=cX h4
 have e:=U7 h5
 have q:en p' i j≤2000:=E1 h6
 generalize en p (Nat.succ i) (Nat.succ j)=a at e
 generalize en p (nat_lit 0) (nat_lit 0)=b at e
 generalize en p (Nat.succ i) (nat_lit 0)=c at e
 generalize en p (nat_lit 0) (Nat.succ j)=d at e
 generalize en p' i j=x at e q
 have e:a*b+1000*(c+d+last)=c*d+1000*(a+b)+last*x:=e
 have e2:(a:Int)*b+1000*((c:Int)+d+last)=(c:Int)*d+1000*((a:Int)+b)+last*x:=by exact_mod_cast e
 have ex:∀u v:Int,(u - 1000)*(v - 1000)=u*v - 1000*u - 1000*v+1000000:=fun u v=>by rw[Int.sub_mul,acg,acg];omega
 constructor
 ·rw[ex,ex,Int.sub_mul,Int.mul_comm (x:Int) last]
  omega
 ·omega
end
end
section
set_option tactic.hygienic true
section
noncomputable def EI(p i j:Nat):Int:=(en p i j:Int) - 1000
noncomputable def Sc(p0 p1 p2 p3 p4 k i j:Nat):Int:=EI (([p0,p1,p2,p3,p4]:List Nat).getD k 0) (i - k) (j - k)
noncomputable def VY(p0 p1 p2 p3 k:Nat):Int:=k.casesOn 1 fun k=>EI (([p0,p1,p2,p3]:List Nat).getD k 0) 0 0
noncomputable def JS(g i j:Nat):Int:=D1 g i j+cond ((i:Int)==(j:Int)) 1 0
structure QV(g p0 p1 p2 p3 p4:Nat):Prop where
 h0:∀i j,i<5→j<5→en p0 i j=QQ g i j
 h1:EF 4 1 p0 p1=true
 h2:EF 3 (EG p0) p1 p2=true
 h3:EF 2 (EG p1) p2 p3=true
 h4:EF 1 (EG p2) p3 p4=true
 h5:en p4 0 0=ug (wm g) 32+1000
theorem QW{g:Nat}(hg:MI g=true):∃p0 p1 p2 p3 p4,QV g p0 p1 p2 p3 p4:=by
 unfold MI at hg
 rw[aE] at hg
 obtain⟨h0,hg⟩:=cX hg
 rw[aE] at hg
 obtain⟨h1,hg⟩:=cX hg
 rw[aE,aE] at hg
 obtain⟨h2,hg⟩:=cX hg
 rw[aE,aE] at hg
 obtain⟨h3,hg⟩:=cX hg
 rw[aE,aE] at hg
 obtain⟨h4,h5⟩:=cX hg
 exact⟨_,_,_,_,_,fun i j hi hj=>U7 (bA (bA h0 i hi) j hj),h1,h2,h3,h4,U7 h5⟩
theorem QX(g i j:Nat):((QQ g i j:Nat):Int) - 1000=JS g i j:=by
 unfold QQ JS D1
 have ij:((i:Int)==(j:Int))=beq i j:=by
  rw[aW]
  exact YO.mpr aaf
 rw[ij]
 show _=cond (beq i j) 0 (cond (dR i j) (cond (tb g (wn i j)) 1 0) (cond (tb g (wn j i)) (-1) 0))+_
 cases beq i j <;> cases dR i j <;> cases tb g (wn i j) <;> cases tb g (wn j i) <;> rfl
theorem QY(g i j:Nat):(JS g i j).natAbs≤1000:=by
 unfold JS D1
 have ij:((i:Int)==(j:Int))=beq i j:=by
  rw[aW]
  exact YO.mpr aaf
 rw[ij]
 cases beq i j <;> cases dR i j <;> cases xG g i j <;> cases xG g j i <;> exact E1 rfl
theorem yp{p:Nat}(hp:0<EG p):((EG p:Nat):Int)=EI p 0 0:=by
 have e:EG p=en p 0 0 - 1000:=rfl
 rw[e] at hp ⊢
 unfold EI
 omega
theorem D'{g p0 p1 p2 p3 p4:Nat}(D:QV g p0 p1 p2 p3 p4):rH (JS g) (Sc p0 p1 p2 p3 p4) (VY p0 p1 p2 p3):=by
 have z:∀i j,i<5→j<5→EI p0 i j=JS g i j:=fun i j hi hj=>by
  unfold EI
  rw[D.h0 i j hi hj]
  exact QX g i j
 obtain⟨l1,s1⟩:=yo D.h1
 obtain⟨l2,s2⟩:=yo D.h2
 obtain⟨l3,s3⟩:=yo D.h3
 obtain⟨l4,s4⟩:=yo D.h4
 rw[yp l2] at s2
 rw[yp l3] at s3
 rw[yp l4] at s4
 have nz:∀ {p},0<EG p→EI p 0 0≠0:=fun h e=>by
  rw[← yp h] at e
  omega
 clear D
 refine⟨fun i j hi hj=>z i j hi hj,rfl,fun k hk=>?_,fun k hk i j a1 a2 a3 a4=>?_,fun k hk=>?_,fun k hk i j a1 a2 a3 a4=>?_⟩
 ·unfold Sc VY
  rw[Nat.sub_self]
  match k,hk with
  | 0,_ | 1,_ | 2,_ | 3,_=>rfl
 ·unfold Sc
  rw[Nat.sub_self,show i - k=i - (k+1)+1 by omega,show j - k=j - (k+1)+1 by omega]
  have bi:i - (k+1)<4 - k:=by omega
  have bj:j - (k+1)<4 - k:=by omega
  generalize i - (k+1)=i' at bi
  generalize j - (k+1)=j' at bj
  match k,hk with
  | 0,_=>exact(s1 i' j' bi bj).1
  | 1,_=>exact(s2 i' j' bi bj).1
  | 2,_=>exact(s3 i' j' bi bj).1
  | 3,_=>exact(s4 i' j' bi bj).1
 ·match k,hk with
  | 0,_=>exact(by decide:(1:Int)≠0)
  | 1,_=>exact nz l2
  | 2,_=>exact nz l3
  | 3,_=>exact nz l4
 ·unfold Sc
  have bi:i - k<5 - k:=by omega
  have bj:j - k<5 - k:=by omega
  generalize i - k=i' at bi
  generalize j - k=j' at bj
  match k,hk with
  | 0,_=>
   show(EI p0 i' j').natAbs≤1000
   rw[z i' j' bi bj]
   exact QY g i' j'
  | 1,_=>exact(s1 i' j' bi bj).2
  | 2,_=>exact(s2 i' j' bi bj).2
  | 3,_=>exact(s3 i' j' bi bj).2
  | 4,_=>exact(s4 i' j' bi bj).2
theorem zJ{g:Nat}(h:g<1024)(ho:tb DR g=true):∃m la,rH (JS g) m la∧m 4 4 4=((ug (wm g) 32:Nat):Int):=by
 have hg:=oq g h
 unfold QR at hg
 rw[ho,ZB] at hg
 obtain⟨p0,p1,p2,p3,p4,D⟩:=QW (cX (cX hg).2).2
 refine⟨_,_,D' D,?_⟩
 show EI p4 0 0=_
 unfold EI
 rw[D.h5]
 omega
end
end
section
set_option tactic.hygienic true
section
noncomputable def zK(kvs:List (Nat×Nat))(r:List Nat)(l:Nat):Bool:=r.any (· ==(aZ kvs l).getD 0)&&!r.any (· ==l)
noncomputable def rI(kvs:List (Nat×Nat))(r:List Nat):List Nat:=r++(kvs.map (·.1)).filter (zK kvs r)
noncomputable def HY(kvs:List (Nat×Nat))(root t:Nat):List Nat:=t.rec [root] fun O r=>rI kvs r
noncomputable def NG(r x0 x1 x2 x3:Nat):List (Nat×Nat):=[(dy r 0,x0),(dy r 1,x1),(dy r 2,x2),(dy r 3,x3)]
noncomputable def HZ(r x0 x1 x2 x3:Nat):Bool:=beq (HY (NG r x0 x1 x2 x3) r 4).length 5
noncomputable def NH(l:List Nat):(List Nat→Bool)→Bool:=l.rec (fun K=>K []) fun x O ih K=>de x fun x=>ih fun l=>K (x::l)
theorem rJ(l:List Nat):∀g,NH l g=g l:=by
 induction l with
 | nil=>exact fun g=>rfl
 | cons x l ih=>
  intro g
  show de x (fun x=>NH l fun l=>g (x::l))=_
  rw[aE,ih]
noncomputable def o8(l:List Nat)(x:Nat):Bool:=l.rec false fun y O ih=>cond (beq y x) true ih
noncomputable def JT(r:List Nat)(kvs:List (Nat×Nat)):List Nat:=kvs.rec [] fun p O ih=>cond (o8 r p.2) (cond (o8 r p.1) ih (p.1::ih)) ih
noncomputable def Uo(r:Nat)(kvs:List (Nat×Nat))(K:List Nat→Bool):Bool:=zH kvs fun kvs=>NH (r::JT [r] kvs) fun r1=>NH (r1++JT r1 kvs) fun r2=>NH (r2++JT r2 kvs) fun r3=>NH (r3++JT r3 kvs) K
theorem qa{kvs:List (Nat×Nat)}(r:List Nat):∀l:List (Nat×Nat),(∀p∈l,aZ kvs p.1=some p.2)→(l.map (·.1)).filter (zK kvs r)=JT r l
 | [],_=>rfl
 | p::l,h=>by
  have an:∀x,o8 r x=r.any (· ==x):=fun x=>by
   induction r with
   | nil=>rfl
   | cons y r ih=>
    show cond (beq y x) true (o8 r x)=_
    rw[ih,aae,show(y==x)=beq y x from(aW y x).symm▸rfl]
    cases beq y x <;> rfl
  have e:zK kvs r p.1=(o8 r p.2&&!o8 r p.1):=by
   unfold zK
   rw[h p E7,an,an];rfl
  rw[YI,ZA,qa r l fun q hq=>h q (E6 _ hq),e]
  show _=cond (o8 r p.2) (cond (o8 r p.1) (JT r l) (p.1::JT r l)) (JT r l)
  cases o8 r p.2 <;> cases o8 r p.1 <;> rfl
theorem MS{r:Nat}{kvs:List (Nat×Nat)}{K:List Nat→Bool}(h:∀p∈kvs,aZ kvs p.1=some p.2):Uo r kvs K=K (HY kvs r 4):=by
 have st:=fun r=>qa (kvs:=kvs) r kvs h
 unfold Uo
 rw[rF,rJ,rJ,rJ,rJ]
 show K _=K (rI kvs (rI kvs (rI kvs (rI kvs [r]))))
 unfold rI
 simp only[st]
 rfl
theorem Ea:∀r,r<5→∀x0 x1 x2 x3,∀p∈NG r x0 x1 x2 x3,aZ (NG r x0 x1 x2 x3) p.1=some p.2
 | 0,_,_,_,_,_,p,h | 1,_,_,_,_,_,p,h | 2,_,_,_,_,_,p,h | 3,_,_,_,_,_,p,h | 4,_,_,_,_,_,p,h=>by
  simp only[NG,V1,ZK,or_false] at h
  rcases h with rfl | rfl | rfl | rfl <;> rfl
noncomputable def JU(x0 x1 x2 x3:Nat):Nat:=0+1*x0+5*x1+25*x2+125*x3
theorem QZ:(cw 5 fun r=>cw 5 fun a=>cw 5 fun b=>cw 5 fun c=>cw 5 fun d=>Uo r (NG r a b c d) fun l=>cC (beq l.length 5) (tb (DS.getD r 0) (Nat.add a (Nat.add (Nat.mul 5 b) (Nat.add (Nat.mul 25 c) (Nat.mul 125 d))))))=true:=by decide+kernel
theorem H0{r x0 x1 x2 x3:Nat}(hr:r<5)(h0:x0<5)(h1:x1<5)(h2:x2<5)(h3:x3<5):HZ r x0 x1 x2 x3=tb (DS.getD r 0) (JU x0 x1 x2 x3):=by
 have h:=bA (bA (bA (bA (bA QZ r hr) x0 h0) x1 h1) x2 h2) x3 h3
 rw[MS (Ea r hr x0 x1 x2 x3)] at h
 have h:=iI h
 rw[show Nat.add x0 (Nat.add (Nat.mul 5 x1) (Nat.add (Nat.mul 25 x2) (Nat.mul 125 x3)))=JU x0 x1 x2 x3 by unfold JU;show x0+(5*x1+(25*x2+125*x3))=_;omega] at h
 exact h
noncomputable def j7(kvs:List (Nat×Nat)):List (Str×Str):=kvs.map fun q=> (eD q.1,eD q.2)
theorem ms{x y:Nat}:eD x=eD y↔x=y:=by
 constructor
 ·intro h
  have:=vA (97+x) (97+y)
  rw[show ch (97+x)=ch (97+y) from h,ZI] at this
  exact abM (U9 this.symm)
 ·exact E5 eD
theorem H1(kvs:List (Nat×Nat))(k x:Nat):aH (j7 kvs) (eD k) (eD x)=j7 (aH kvs k x):=by
 unfold aH j7
 have e:((kvs.map fun q=> (eD q.1,eD q.2)).any fun q=>decide (q.1=eD k))=kvs.any fun q=>decide (q.1=k):=by
  rw[abG]
  exact E5 (List.any kvs) (funext fun q=>YO.mpr ms)
 rw[e]
 split
 ·rw[V3,V3]
  refine YU fun q O=>?_
  show(if eD q.1=eD k then(eD q.1,eD x) else(eD q.1,eD q.2))=(eD (if q.1=k then(q.1,x) else q).1,eD (if q.1=k then(q.1,x) else q).2)
  by_cases h:q.1=k
  ·rw[V8 h,V8 (ms.mpr h)]
  ·rw[V4 h,V4 (fun e=>h (ms.mp e))]
 ·rw[YA];rfl
theorem MU(kvs:List (Nat×Nat))(k:Nat):aZ (j7 kvs) (eD k)=(aZ kvs k).map eD:=by
 unfold aZ j7
 rw[List.find?_map,aa7,aa7]
 rw[show((fun q:Str×Str=>decide (q.1=eD k))∘fun q:Nat×Nat=> (eD q.1,eD q.2))=fun q=>decide (q.1=k) from funext fun q=>YO.mpr ms]
 rfl
theorem JV(r:List Nat)(x:Nat):(r.map eD).any (· ==eD x)=r.any (· ==x):=by
 rw[abG]
 refine E5 (List.any r) (funext fun y=>?_)
 show(ch (97+y)==ch (97+x))=(y==x)
 rw[vA,show(y==x)=decide (y=x) from rfl]
 exact YO.mpr ⟨abM,E5 (97+ ·)⟩
theorem Q0(kvs:List (Nat×Nat))(r:List Nat):Nv (j7 kvs) (r.map eD)=(rI kvs r).map eD:=by
 unfold Nv rI
 rw[YA]
 have e:(j7 kvs).map (·.1)=(kvs.map (·.1)).map eD:=by
  unfold j7
  rw[V3,V3];rfl
 rw[e,List.filter_map]
 refine E5 (_++map eD ·) (abf fun l hl=>?_)
 show C0 (j7 kvs) (r.map eD) (eD l)=zK kvs r l
 unfold C0 zK jV
 rw[MU,JV]
 rw[p7 hl 0]
 show(List.any _ (· ==eD _)&&_)=_
 rw[JV];rfl
theorem JW(kvs:List (Nat×Nat))(root:Nat):∀t,gI (j7 kvs) root t=(HY kvs root t).map eD
 | 0=>rfl
 | t+1=>by
  show Nv _ (gI (j7 kvs) root t)=(rI kvs (HY kvs root t)).map eD
  rw[JW kvs root t,Q0]
noncomputable def wN(W:Nat→Nat×Nat)(k b:Nat):Nat:=cond (beq b 0) (W k).1 (W k).2
noncomputable def j8(W:Nat→Nat×Nat):List (List Str):=(List.range 5).map fun k=>[eD (W k).1,eD (W k).2]
theorem MV(W:Nat→Nat×Nat):∀k,k<5→∀b,b<2→zm (j8 W) k b=eD (wN W k b)
 | 0,_,0,_ | 0,_,1,_ | 1,_,0,_ | 1,_,1,_ | 2,_,0,_ | 2,_,1,_ | 3,_,0,_ | 3,_,1,_ | 4,_,0,_ | 4,_,1,_=>rfl
noncomputable def H2(W:Nat→Nat×Nat)(root k:Nat)(s:List (Nat×Nat)×Nat):List (Nat×Nat)×Nat:=cond (beq k root) s (aH s.1 k (wN W k (s.2 % 2)),s.2 / 2)
noncomputable def wt(W:Nat→Nat×Nat)(root p k:Nat):List (Nat×Nat)×Nat:=k.rec ([],p) fun k s=>H2 W root k s
theorem JX(W:Nat→Nat×Nat)(root p:Nat):∀k,k≤5→cf (j8 W) root p k=(j7 (wt W root p k).1,(wt W root p k).2)
 | 0,_=>rfl
 | k+1,h=>by
  show JC (j8 W) root k (cf (j8 W) root p k)=(j7 (H2 W root k (wt W root p k)).1,(H2 W root k (wt W root p k)).2)
  rw[JX W root p k (Yy h)]
  unfold JC H2
  cases beq k root with
  | true=>rfl
  | false=>
   show(aH (j7 (wt W root p k).1) (eD k) (zm (j8 W) k ((wt W root p k).2 % 2)),_)=_
   rw[MV W k h _ (YK _ (by decide)),H1];rfl
theorem MW(W:Nat→Nat×Nat):∀r,r<5→∀p,(wt W r p 5).1=NG r (wN W (dy r 0) (p % 2)) (wN W (dy r 1) (p / 2 % 2)) (wN W (dy r 2) (p / 2 / 2 % 2)) (wN W (dy r 3) (p / 2 / 2 / 2 % 2))
 | 0,_,p | 1,_,p | 2,_,p | 3,_,p | 4,_,p=>by kernel_rfl!
theorem Eb(W:Nat→Nat×Nat){r:Nat}(hr:r<5)(p:Nat):bo (j8 W) r p=cond (HZ r (wN W (dy r 0) (p % 2)) (wN W (dy r 1) (p / 2 % 2)) (wN W (dy r 2) (p / 2 / 2 % 2)) (wN W (dy r 3) (p / 2 / 2 / 2 % 2))) 1 0:=by
 unfold bo HZ
 rw[JX W r p 5 (E8 _),JW,E9,MW W r hr p,aW]
 refine E5 (cond · 1 0) ?_
 show decide ((_:Int)=((5:Nat):Int))=_
 exact YO.mpr aaf
noncomputable def wu(w:Nat×Nat)(f:Nat→Nat):Nat:=f w.1+f w.2
theorem Ec{R:List Nat}{a b:Nat→Nat}{g:Nat}(H:yk R a b g)(h5:∀q,R.getD q 0<5)(W:Nat→Nat×Nat)(hW:∀k,k<5→W k=(R.getD ((a k+1) % 10) 0,R.getD ((b k+1) % 10) 0)∨W k=(R.getD ((b k+1) % 10) 0,R.getD ((a k+1) % 10) 0)){r:Nat}(hr:r<5):
  jh (j8 W) r 16=((ug (wm g) 32:Nat):Int):=by
 have NI:∀k,k<5→(W k).1<5∧(W k).2<5:=fun k hk=>by
  rcases hW k hk with e | e <;> rw[e] <;> exact⟨h5 _,h5 _⟩
 have ot:∀j,j<4→dy r j<5:=fun j hj=>by
  unfold dy
  cases dR j r
  ·exact ab9 hj
  ·exact YW hj
 have sw:∀k,k<5→∀f,wu (W k) f=wu (R.getD ((a k+1) % 10) 0,R.getD ((b k+1) % 10) 0) f:=fun k hk f=>by
  rcases hW k hk with e | e <;> rw[e]
  exact Z8 _ _
 rw[← H.tr r hr]
 generalize hT:DS.getD r 0=T
 have X2:∀x0 x1 x2 x3,x0<5→x1<5→x2<5→x3<5→(cond (HZ r x0 x1 x2 x3) 1 0:Int)=((T >>> (JU x0 x1 x2 x3) % 2:Nat):Int):=fun x0 x1 x2 x3 a0 a1 a2 a3=>by
  rw[H0 hr a0 a1 a2 a3,hT]
  unfold tb
  rw[aW]
  show cond (decide (T >>> JU x0 x1 x2 x3 % 2=1)) 1 0=_
  rcases Nat.mod_two_eq_zero_or_one (T >>> JU x0 x1 x2 x3) with e | e <;> rw[e] <;> rfl
 have ts:QN T (w5.map fun p=> (p.2*R.getD ((a (dy r p.1)+1) % 10) 0,p.2*R.getD ((b (dy r p.1)+1) % 10) 0)) 0=
   wu (W (dy r 0)) fun x0=>wu (W (dy r 1)) fun x1=>wu (W (dy r 2)) fun x2=>wu (W (dy r 3)) fun x3=>T >>> (JU x0 x1 x2 x3) % 2:=by
  rw[sw _ (ot 0 (by decide))]
  simp only[sw _ (ot 1 (by decide)),sw _ (ot 2 (by decide)),sw _ (ot 3 (by decide))]
  rfl
 rw[ts]
 have X3:jh (j8 W) r 16=0+bo (j8 W) r 0+bo (j8 W) r 1+bo (j8 W) r 2+bo (j8 W) r 3+bo (j8 W) r 4+bo (j8 W) r 5+bo (j8 W) r 6+bo (j8 W) r 7+bo (j8 W) r 8+bo (j8 W) r 9+bo (j8 W) r 10+bo (j8 W) r 11+bo (j8 W) r 12+bo (j8 W) r 13+bo (j8 W) r 14+bo (j8 W) r 15:=rfl
 rw[X3]
 obtain⟨p0,q0⟩:=NI _ (ot 0 (by decide))
 obtain⟨p1,q1⟩:=NI _ (ot 1 (by decide))
 obtain⟨p2,q2⟩:=NI _ (ot 2 (by decide))
 obtain⟨p3,q3⟩:=NI _ (ot 3 (by decide))
 have wh:∀p,bo (j8 W) r p=((T >>> (JU (wN W (dy r 0) (p % 2)) (wN W (dy r 1) (p / 2 % 2)) (wN W (dy r 2) (p / 2 / 2 % 2)) (wN W (dy r 3) (p / 2 / 2 / 2 % 2))) % 2:Nat):Int):=fun p=>by
  have lt:∀j,j<4→∀c,wN W (dy r j) c<5:=fun j hj c=>by
   unfold wN
   cases beq c 0
   ·exact(NI _ (ot j hj)).2
   ·exact(NI _ (ot j hj)).1
  rw[Eb W hr p,X2 _ _ _ _ (lt 0 (by decide) _) (lt 1 (by decide) _) (lt 2 (by decide) _) (lt 3 (by decide) _)]
 simp only[wh,Nat.reduceMod,Nat.reduceDiv,wN,wu,show beq 0 0=true from rfl,show beq 1 0=false from rfl,ZB,aa9]
 omega
end
end
section
set_option tactic.hygienic true
section
section
variable {key:Nat→Int}
theorem Ed{X Y:List Nat}{x:Nat}(h:∀y∈X,key y<key x):fk key (X++Y) x=X++fk key Y x:=by
 unfold fk
 have e:(X++Y).countP (fun y=>decide (key y<key x))=X.length+Y.countP fun y=>decide (key y<key x):=by
  rw[List.countP_append,List.countP_eq_length.mpr fun y hy=>U5 (h y hy)]
 rw[e,List.take_append,List.drop_append,Y3 (Y0 ..),Zu (Y0 ..),Nat.add_sub_cancel_left,YH];rfl
theorem H3{l:List Nat}{x:Nat}(h:∀y∈l,¬key y<key x):fk key l x=x::l:=by
 unfold fk
 rw[abL.mpr fun y hy=>by rw[aam];exact h y hy];rfl
noncomputable def Ee(key:Nat→Int)(i:Nat)(c:Int):List Nat:=((List.range i).filter fun s=>decide (key s=c)).reverse
noncomputable def zX(key:Nat→Int)(i:Nat)(cs:List Int):List Nat:=cs.flatMap (Ee key i)
theorem rK{i:Nat}{c:Int}{y:Nat}(h:y∈Ee key i c):key y=c:=U9 (abH.mp (List.mem_reverse.mp h)).2
theorem H4{i:Nat}{cs:List Int}{y:Nat}(h:y∈zX key i cs):key y∈cs:=by
 obtain⟨c,hc,h⟩:=List.mem_flatMap.mp h
 rw[rK h];exact hc
theorem Ef(i:Nat)(c:Int):Ee key (i+1) c=if key i=c then i::Ee key i c else Ee key i c:=by
 unfold Ee
 rw[aaj,List.filter_append,ZA,List.filter_nil]
 by_cases h:key i=c
 ·rw[V8 (U5 h),V8 h,List.reverse_append];rfl
 ·rw[V4 (fun e=>h (U9 e)),V4 h,Y_]
theorem yq(i:Nat):∀cs:List Int,cs.Pairwise (· < ·)→(key i∈cs→fk key (zX key i cs) i=zX key (i+1) cs)∧(key i∉cs→zX key (i+1) cs=zX key i cs)
 | [],_=> ⟨fun h=> (nomatch h),fun O=>rfl⟩
 | c::cs,hp=>by
  have ih:=yq i cs (aaz hp)
  have hd:=fun d hd=>ZC hp (a':=d) hd
  show(key i∈c::cs→fk key (Ee key i c++zX key i cs) i=Ee key (i+1) c++zX key (i+1) cs)∧(key i∉c::cs→Ee key (i+1) c++zX key (i+1) cs=Ee key i c++zX key i cs)
  rw[Ef]
  constructor
  ·intro h
   by_cases e:key i=c
   ·rw[V8 e,H3 fun y hy=>?_,ih.2 fun hm=>absurd (hd _ hm) (by rw[e];exact aad c)];rfl
    rcases YZ.mp hy with hy | hy
    ·rw[rK hy,e];exact aad c
    ·rw[e];exact ZD.mpr (Z_ (hd _ (H4 hy)))
   ·have hm:=(V1.mp h).resolve_left e
    rw[V4 e,Ed fun y hy=>by rw[rK hy];exact hd _ hm,ih.1 hm]
  ·intro h
   rw[V4 fun e:key i=c=>h (by rw[e];exact E7),ih.2 fun hm=>h (E6 _ hm)]
end
theorem yr{lv:List Nat}{cs:List Int}(hp:cs.Pairwise (· < ·)):∀i,(∀s,s<i→iO lv s∈cs)→d9 lv i=zX (iO lv) i cs
 | 0,_=>by
  unfold zX
  exact(List.flatMap_eq_nil_iff.mpr fun c O=>rfl).symm
 | i+1,h=>by rw[f8,yr hp i fun s hs=>h s (YW hs),(yq i cs hp).1 (h i (Za i))]
noncomputable def lT(t q:Nat):Nat:=(q+(10 - t)) % 10
noncomputable def zL(t a b:Nat):Nat:=cond (dR (lT t a) (lT t b)) (lT t a) (lT t b)
noncomputable def zM(t a b:Nat):Nat:=cond (dR (lT t a) (lT t b)) (lT t b) (lT t a)
theorem MX:(cw 10 fun t=>cw 10 fun a=>cw 10 fun b=>cond (dR a b) (decide (((List.range 10).filter fun i=>beq ((i+t) % 10) a||beq ((i+t) % 10) b)=[zL t a b,zM t a b])) true)=true:=by decide+kernel
section
variable {R:List Nat}{a b:Nat→Nat}{g t:Nat}
theorem H5(H:kU a b fun q=>R.getD q 0)(ht:t<10){k:Nat}(hk:k<5):((List.range 10).filter fun i=>beq (R.getD ((i+t) % 10) 0) k)=[zL t (a k) (b k),zM t (a k) (b k)]:=by
 have ab:=H.ab k hk
 have:=bA (bA (bA MX t ht) (a k) (YB ab.1 ab.2)) (b k) ab.2
 rw[show dR (a k) (b k)=true from YM ab.1] at this
 rw[← U9 this]
 refine abf fun i O=>?_
 have hq:(i+t) % 10<10:=YK _ (by decide)
 rw[aW,aW,aW,← Bool.decide_or]
 refine YO.mpr ⟨fun e=>?_,fun h=>?_⟩
 ·have:=(H.all _ hq).2
  rw[e] at this
  exact this
 ·rcases h with h | h <;> rw[h]
  ·exact(H.la k hk).1
  ·exact(H.la k hk).2
theorem Q1{c2:Int}(hl:R.length=10)(h5:∀q,R.getD q 0<5)(ht:t<10){i:Nat}(hi:i<10):(zt c2 (fh R t)).getD i 0∈six∧az ((zt c2 (fh R t)).getD i 0)=97+R.getD ((i+t) % 10) 0:=by
 have tl:=ub hl ht
 rw[eJ (Mg (c2:=c2) (by rw[tl];exact hi)),ye hl ht hi]
 have e:R.getD ((i+t) % 10) 9=R.getD ((i+t) % 10) 0:=by
  have hq:(i+t) % 10<R.length:=by rw[hl];exact YK _ (by decide)
  rw[U3,U6 hq,U3,U6 hq];rfl
 rw[e]
 have m:97+R.getD ((i+t) % 10) 0∈rj:=by
  have:=h5 ((i+t) % 10)
  generalize R.getD ((i+t) % 10) 0=c at this
  match c,this with
  | 0,_ | 1,_ | 2,_ | 3,_ | 4,_=>decide
 exact Dg _ m
variable {lv:List Nat}(H:kU a b fun q=>R.getD q 0)(ht:t<10)(hv:∀i,i<10→lv.getD i 0∈six∧az (lv.getD i 0)=97+R.getD ((i+t) % 10) 0)
include H ht hv
theorem ui{k:Nat}(hk:k<5):((List.range 10).filter fun s=>decide (az (lv.getD s 0)=97+k))=[zL t (a k) (b k),zM t (a k) (b k)]:=by
 rw[← H5 H ht hk]
 refine abf fun i hi=>?_
 rw[(hv i (YD.mp hi)).2,aW]
 exact YO.mpr ⟨abM,E5 (97+ ·)⟩
theorem Q2(h5:∀q,R.getD q 0<5):dn lv=(List.range 5).flatMap fun k=>[zM t (a k) (b k),zL t (a k) (b k)]:=by
 have hc:∀s,s<10→iO lv s∈(List.range 5).map fun k:Nat=> ((97+k:Nat):Int):=fun s hs=>by
  unfold iO
  rw[(hv s hs).2]
  exact U0.mpr ⟨_,YD.mpr (h5 _),rfl⟩
 have hp:((List.range 5).map fun k:Nat=> ((97+k:Nat):Int)).Pairwise (· < ·):=by decide
 unfold dn
 rw[yr hp 10 hc]
 unfold zX
 rw[List.flatMap_map]
 refine E5 flatten (YU fun k hk=>?_)
 have:=ui H ht hv (YD.mp hk)
 unfold Ee iO
 rw[show(fun s=>decide (((az (lv.getD s 0):Nat):Int)=((97+k:Nat):Int)))=fun s=>decide (az (lv.getD s 0)=97+k) from funext fun s=>YO.mpr aaf,this]
 rfl
theorem Eg(h5:∀q,R.getD q 0<5):∀j,j<5→(dn lv).getD (2*j+1) 0=zL t (a j) (b j)∧(dn lv).getD (2*j) 0=zM t (a j) (b j):=by
 rw[Q2 H ht hv h5]
 intro j hj
 match j,hj with
 | 0,_ | 1,_ | 2,_ | 3,_ | 4,_=>exact⟨rfl,rfl⟩
omit H ht hv in
theorem H6{a b d:Nat}(ha:a∈six)(hb:b∈six):(PySem.Txt.lower (ch a++ch b)==ch d)=false:=by
 have:(six.all fun a=>six.all fun b=> (PySem.Txt.lower (ch a++ch b)).length==2)=true:=by decide+kernel
 have:=eq_of_beq (Jb.mp (Jb.mp this a ha) b hb)
 refine Z3.mpr fun e=>?_
 rw[eq_of_beq e] at this
 cases this
theorem yt(f:Nat→Str){d k:Nat}(hd:d∈six)(hk:k<5)(ed:az d=97+k):aV ((List.range 10).map fun s=> (ch (lv.getD s 0),f s)) (ch d)=[.str (f (zL t (a k) (b k))),.str (f (zM t (a k) (b k)))]:=by
 unfold aV
 rw[List.filter_map,V3]
 have:(List.range 10).filter ((fun p:Str×Str=>PySem.Txt.lower p.1==PySem.Txt.lower (ch d))∘fun s=> (ch (lv.getD s 0),f s))=[zL t (a k) (b k),zM t (a k) (b k)]:=by
  rw[← ui H ht hv hk]
  refine abf fun s hs=>?_
  show(PySem.Txt.lower (ch (lv.getD s 0))==PySem.Txt.lower (ch d))=_
  rw[d8 (hv s (YD.mp hs)).1,d8 hd,vA,ed]
 rw[this];rfl
theorem j9{hs:List Int}{d k:Nat}(hd:d∈six)(hk:k<5)(ed:az d=97+k):aV (ca lv hs 10) (ch d)=[.str (bL (hs.getD (zL t (a k) (b k)) 0)),.str (bL (hs.getD (zM t (a k) (b k)) 0))]:=by
 rw[← yt H ht hv (fun s=>bL (hs.getD s 0)) hd hk ed]
 unfold aV ca
 rw[ZA,d8 hd,H6 (hv 0 (by decide)).1 (hv 1 (by decide)).1];rfl
theorem MY{hs:List Int}(h5:∀q,R.getD q 0<5):(d6 (Str.ofString "AbCdE")).filterMap (v0 (ca lv hs 10))=bq (ji hs (dn lv)):=by
 have od:=Eg H ht hv h5
 have e:bq (ji hs (dn lv))=(List.range 5).map fun j=> .lst [.str (bL (hs.getD (zL t (a j) (b j)) 0)),.str (bL (hs.getD (zM t (a j) (b j)) 0))]:=by
  unfold bq ji
  rw[V3]
  refine YU fun j hj=>?_
  show AV.lst [.str (bL (hs.getD ((dn lv).getD (2*j+1) 0) 0)),.str (bL (hs.getD ((dn lv).getD (2*j) 0) 0))]=_
  rw[(od j (YD.mp hj)).1,(od j (YD.mp hj)).2]
 rw[e,nU]
 show [AV.lst (aV _ (ch 65)),.lst (aV _ (ch 98)),.lst (aV _ (ch 67)),.lst (aV _ (ch 100)),.lst (aV _ (ch 69))]=_
 rw[j9 H ht hv (d:=65) (k:=0) (by decide) (by decide) rfl,j9 H ht hv (d:=98) (k:=1) (by decide) (by decide) rfl,j9 H ht hv (d:=67) (k:=2) (by decide) (by decide) rfl,j9 H ht hv (d:=100) (k:=3) (by decide) (by decide) rfl,j9 H ht hv (d:=69) (k:=4) (by decide) (by decide) rfl]
 rfl
noncomputable def uj(R:List Nat)(t:Nat)(a b:Nat→Nat)(k:Nat):Nat×Nat:=(R.getD (((zL t (a k) (b k)+1) % 10+t) % 10) 0,R.getD (((zM t (a k) (b k)+1) % 10+t) % 10) 0)
theorem MZ:(d6 (Str.ofString "aBcDe")).filterMap (v6 (bZ lv 10))=bq (j8 (uj R t a b)):=by
 have lo:∀x,PySem.Txt.lower (ch (lv.getD ((x+1) % 10) 0))=eD (R.getD (((x+1) % 10+t) % 10) 0):=fun x=>by
  have h:=hv ((x+1) % 10) (YK _ (by decide))
  rw[d8 h.1,h.2]
 have gs:∀ {d k},d∈six→k<5→az d=97+k→(aV (bZ lv 10) (ch d)).filterMap gr=[.str (eD (uj R t a b k).1),.str (eD (uj R t a b k).2)]:=fun {d k} hd hk ed=>by
  unfold bZ
  rw[yt H ht hv (fun s=>ch (lv.getD ((s+1) % 10) 0)) hd hk ed]
  show [AV.str (PySem.Txt.lower (ch (lv.getD ((zL t (a k) (b k)+1) % 10) 0))),.str (PySem.Txt.lower (ch (lv.getD ((zM t (a k) (b k)+1) % 10) 0)))]=_
  rw[lo,lo];rfl
 rw[nV]
 show [AV.lst ((aV _ (ch 97)).filterMap gr),.lst ((aV _ (ch 66)).filterMap gr),.lst ((aV _ (ch 99)).filterMap gr),.lst ((aV _ (ch 68)).filterMap gr),.lst ((aV _ (ch 101)).filterMap gr)]=_
 rw[gs (d:=97) (k:=0) (by decide) (by decide) rfl,gs (d:=66) (k:=1) (by decide) (by decide) rfl,gs (d:=99) (k:=2) (by decide) (by decide) rfl,gs (d:=68) (k:=3) (by decide) (by decide) rfl,gs (d:=101) (k:=4) (by decide) (by decide) rfl]
 rfl
omit hv in
theorem H7{k:Nat}(hk:k<5):uj R t a b k=(R.getD ((a k+1) % 10) 0,R.getD ((b k+1) % 10) 0)∨uj R t a b k=(R.getD ((b k+1) % 10) 0,R.getD ((a k+1) % 10) 0):=by
 have ab:=H.ab k hk
 have e:∀q,q<10→((lT t q+1) % 10+t) % 10=(q+1) % 10:=fun q hq=>by unfold lT;omega
 unfold uj zL zM
 cases dR (lT t (a k)) (lT t (b k))
 ·exact .inr (by show(R.getD (((lT t (b k)+1) % 10+t) % 10) 0,R.getD (((lT t (a k)+1) % 10+t) % 10) 0)=_;rw[e _ ab.2,e _ (YB ab.1 ab.2)])
 ·exact .inl (by show(R.getD (((lT t (a k)+1) % 10+t) % 10) 0,R.getD (((lT t (b k)+1) % 10+t) % 10) 0)=_;rw[e _ ab.2,e _ (YB ab.1 ab.2)])
end
end
end
section
set_option tactic.hygienic true
section
noncomputable def gz(T q:Nat):Nat:=mod (Nat.add q (Nat.sub (nat_lit 10) T)) (nat_lit 10)
noncomputable def H8(a:Bool):Bool:=cond a false true
noncomputable def NJ(p q r s:Bool):Bool:=cond p false (cond q false (cond r (H8 s) s))
noncomputable def NK(p q r s:Bool):Bool:=cond (cond p (H8 q) q) (cond r s false) false
theorem M1:∀p q r s:Bool,bE ((cond p 1 0)+cond q 1 0,(cond r 1 0)+cond s 1 0)=cond (NJ p q r s) 1 (cond (NK p q r s) (-1) 0):=by decide
noncomputable def zN(a b c d:Nat):Bool:=cond (dR a c) (cond (dR c b) (dR b d) false) false
noncomputable def Eh(r1 r2 r3 r4:Nat)(F:Bool→Bool→Bool→Bool→Bool):Bool:=F (ble r3 r1) (ble r4 r1) (dR r3 r2) (dR r4 r2)
noncomputable def M2(a b c d ra rb rc rd:Nat):Bool:=
 cond (dR ra rb) (cond (dR rc rd) (cond (cC (Eh ra rb rc rd NJ) (zN a b c d)) (cC (Eh ra rb rc rd NK) (zN c d a b)) false) (cond (cC (Eh ra rb rd rc NJ) (zN c d a b)) (cC (Eh ra rb rd rc NK) (zN a b c d)) false))
  (cond (dR rc rd) (cond (cC (Eh rb ra rc rd NJ) (zN c d a b)) (cC (Eh rb ra rc rd NK) (zN a b c d)) false) (cond (cC (Eh rb ra rd rc NJ) (zN a b c d)) (cC (Eh rb ra rd rc NK) (zN c d a b)) false))
theorem Q3:(cw 10 fun T=>cw 10 fun a=>de (gz T a) fun ra=>cw 10 fun b=>cond (dR a b) (de (gz T b) fun rb=>cw 10 fun c=>cond (cC (beq a c) (cond (beq a c) true (beq b c))) (de (gz T c) fun rc=>cw 10 fun d=>cond (dR c d) (cond (cond (beq a c) (beq b d) (cond (beq a d) false (H8 (beq b d)))) (de (gz T d) fun rd=>M2 a b c d ra rb rc rd) true) true) true) true)=true:=by decide+kernel
theorem fQ(a b:Nat):dR a b=decide (a<b):=by
 rw[ZF,aam]
 exact⟨E1,YM⟩
theorem Ei(a b:Nat):ble a b=decide (a≤b):=by
 rw[ZF,aam]
 exact⟨E1,YM⟩
noncomputable def yu(T a b:Nat):Nat×Nat:=cond (dR (gz T a) (gz T b)) (a,b) (b,a)
noncomputable def eT(T a b:Nat):Int:=cond (dR (gz T a) (gz T b)) 1 (-1)
noncomputable def sP(a b c d:Nat):Int:=cond (zN a b c d) 1 (cond (zN c d a b) (-1) 0)
noncomputable def Sd(T:Nat)(x y:Nat×Nat):Int:=cond (Eh (gz T x.1) (gz T x.2) (gz T y.1) (gz T y.2) NJ) 1 (cond (Eh (gz T x.1) (gz T x.2) (gz T y.1) (gz T y.2) NK) (-1) 0)
theorem M3(a b c d:Nat):sP c d a b= -sP a b c d:=by
 unfold sP
 cases h1:zN a b c d <;> cases h2:zN c d a b <;> first | rfl | skip
 have a1:=ik (cX h1).1
 have a2:=ik (cX h2).1
 exact absurd a1 (aca a2)
theorem M4{T a b c d:Nat}(hT:T<10)(IV:a<b)(hb:b<10)(uH:c<d)(hd:d<10)(h:(a=c∧b=d)∨(a≠c∧b≠c∧a≠d∧b≠d)):Sd T (yu T a b) (yu T c d)=eT T a b*eT T c d*sP a b c d:=by
 have h0:=bA (bA Q3 T hT) a (YB IV hb)
 rw[aE] at h0
 have h1:=bA h0 b hb
 rw[show dR a b=true from YM IV,ZB,aE] at h1
 have h2:=bA h1 c (YB uH hd)
 have e1:cC (beq a c) (cond (beq a c) true (beq b c))=true:=by
  rcases h with⟨h,_⟩ |⟨h,h',_⟩
  ·rw[aW,U5 h];rfl
  ·rw[aW,aW,U4 h,U4 h'];rfl
 rw[e1,ZB,aE] at h2
 have h3:=bA h2 d hd
 have e2:cond (beq a c) (beq b d) (cond (beq a d) false (H8 (beq b d)))=true:=by
  rcases h with⟨h,h'⟩ |⟨h,_,h',X4⟩
  ·rw[aW,aW,U5 h,U5 h'];rfl
  ·rw[aW,aW,aW,U4 h,U4 h',U4 X4];rfl
 rw[show dR c d=true from YM uH,ZB,e2,ZB,aE] at h3
 have h4:M2 a b c d (gz T a) (gz T b) (gz T c) (gz T d)=true:=h3
 unfold M2 at h4
 unfold Sd yu eT
 have ng:=M3 a b c d
 unfold sP at ng ⊢
 cases x1:dR (gz T a) (gz T b) <;> cases x2:dR (gz T c) (gz T d) <;> rw[x1,x2] at h4 <;> obtain⟨y1,y2⟩:=cX h4 <;> simp only[ZB,aa9] <;> rw[iI y1,iI y2]
 ·exact(Y' _).symm
 ·rw[ng];exact(Int.neg_one_mul _).symm
 ·rw[ng];exact(Int.neg_one_mul _).symm
 ·exact(Y' _).symm
theorem Ej(a b:Int):rn a b=rn b a:=by
 unfold rn
 by_cases h:a≤b
 ·rw[V8 h]
  by_cases h2:b≤a
  ·rw[V8 h2,acd h h2]
  ·rw[V4 h2]
 ·rw[V4 h,V8 (Z_ (aa3.mp h))]
noncomputable def gH(hs:List Int)(t q:Nat):Int:=hs.getD (lT t q) 0
theorem b9{α:Type}(f:Nat→α)(d:α):∀i,i<5→((List.range 5).map f).getD i d=f i
 | 0,_ | 1,_ | 2,_ | 3,_ | 4,_=>rfl
section
variable {hs:List Int}{z t:Nat}(HO:oj hs z)(ht:t<10)
include HO ht
theorem JY{q:Nat}(hq:q<10):jp z (lT t q)=gz ((t+z) % 10) q:=by
 have:=HO.RZ
 show((q+(10 - t)) % 10+(10 - z)) % 10=(q+(10 - (t+z) % 10)) % 10
 omega
theorem uk{p q:Nat}(hp:p<10)(hq:q<10):gH hs t p<gH hs t q↔gz ((t+z) % 10) p<gz ((t+z) % 10) q:=by
 rw[← JY HO ht hp,← JY HO ht hq]
 exact HO.lt _ _ (YK _ (by decide)) (YK _ (by decide))
theorem yw{p q:Nat}(hp:p<10)(hq:q<10):gH hs t p≤gH hs t q↔gz ((t+z) % 10) p≤gz ((t+z) % 10) q:=by
 rw[← ZD,uk HO ht hq hp,Zd]
theorem kW{p q:Nat}(hp:p<10)(hq:q<10)(h:gH hs t p=gH hs t q):p=q:=by
 have h1:=(yw HO ht hp hq).mp (Int.le_of_eq h)
 have h2:=(yw HO ht hq hp).mp (Int.le_of_eq h.symm)
 have e:=Zq h1 h2
 have e:(p+(10 - (t+z) % 10)) % 10=(q+(10 - (t+z) % 10)) % 10:=e
 omega
theorem M5{a b:Nat}(ha:a<10)(hb:b<10)(IV:a≠b):rn (gH hs t a) (gH hs t b)=(gH hs t (yu ((t+z) % 10) a b).1,gH hs t (yu ((t+z) % 10) a b).2):=by
 unfold rn yu
 rw[fQ]
 by_cases h:gH hs t a<gH hs t b
 ·rw[V8 (Z_ h),U5 ((uk HO ht ha hb).mp h)];rfl
 ·rw[U4 fun h'=>h ((uk HO ht ha hb).mpr h'),V4 fun h'=>h (Int.lt_iff_le_and_ne.mpr ⟨h',fun e=>IV (kW HO ht ha hb e)⟩)];rfl
theorem sign_is{x y:Nat×Nat}(hx:x.1<10∧x.2<10)(hy:y.1<10∧y.2<10):bE (aY (gH hs t x.1,gH hs t x.2) (gH hs t y.1,gH hs t y.2))=Sd ((t+z) % 10) x y:=by
 unfold aY VC Cv Sd Eh
 show bE ((cond (decide (gH hs t y.1≤gH hs t x.1)) 1 0)+cond (decide (gH hs t y.2≤gH hs t x.1)) 1 0,(cond (decide (gH hs t y.1<gH hs t x.2)) 1 0)+cond (decide (gH hs t y.2<gH hs t x.2)) 1 0)=_
 rw[M1,YO.mpr (yw HO ht hy.1 hx.1),YO.mpr (yw HO ht hy.2 hx.1),YO.mpr (uk HO ht hy.1 hx.2),YO.mpr (uk HO ht hy.2 hx.2),Ei,Ei,fQ,fQ]
end
section
variable {R:List Nat}{a b:Nat→Nat}{g t z:Nat}{hs:List Int}{lv:List Nat}(HR:yk R a b g)(HO:oj hs z)(ht:t<10)
noncomputable def lU(hs:List Int)(t z:Nat)(a b:Nat→Nat)(j:Nat):Pr:=(gH hs t (yu ((t+z) % 10) (a j) (b j)).1,gH hs t (yu ((t+z) % 10) (a j) (b j)).2)
include HR HO ht
theorem Q4(hv:∀i,i<10→lv.getD i 0∈six∧az (lv.getD i 0)=97+R.getD ((i+t) % 10) 0)(h5:∀q,R.getD q 0<5):jY hs (dn lv)=(List.range 5).map (lU hs t z a b):=by
 unfold jY
 refine YU fun j hj=>?_
 have hj:=YD.mp hj
 have od:=Eg HR.ch ht hv h5 j hj
 have ab:=HR.ch.ab j hj
 rw[od.1,od.2]
 unfold lU
 rw[← M5 HO ht (YB ab.1 ab.2) ab.2 (V2 ab.1)]
 unfold zL zM gH
 cases dR (lT t (a j)) (lT t (b j))
 ·exact Ej _ _
 ·rfl
noncomputable def eK(t z:Nat)(a b:Nat→Nat)(i:Nat):Int:=eT ((t+z) % 10) (a i) (b i)
omit HR HO ht in
theorem rL:D3 (eK t z a b):=fun i=>by
 unfold eK eT
 cases dR (gz ((t+z) % 10) (a i)) (gz ((t+z) % 10) (b i))
 ·exact .inr rfl
 ·exact .inl rfl
omit HO ht in
theorem wv{i:Nat}:∀ {j:Nat},i<j→j<5→a i<a j
 | j+1,IW,hj=>by
  have s:=HR.inc j (ZQ hj)
  rcases ZS (YS IW) with h | h
  ·exact YB (wv h (aas hj)) s
  ·exact h▸s
omit HR HO ht in
theorem Up:(cw 5 fun i=>cw 5 fun j=>cond (dR i j) (ue.any fun p=>decide (p=(i,j,wn i j))) true)=true:=by decide+kernel
omit HR HO ht in
theorem Q5{i j:Nat}(IW:i<j)(hj:j<5):(i,j,wn i j)∈ue:=by
 have:=bA (bA Up i (YB IW hj)) j hj
 rw[show dR i j=true from YM IW] at this
 obtain⟨p,hp,e⟩:=Y1.mp this
 exact U9 e▸hp
omit HO ht in
theorem JZ{i j:Nat}(IW:i<j)(hj:j<5):xG g i j=(decide (a j<b i)&&decide (b i<b j)):=HR.gx _ (Q5 IW hj)
omit HO ht in
theorem Q6{i j:Nat}(hi:i<5)(hj:j<5):sP (a i) (b i) (a j) (b j)=D1 g i j:=by
 unfold sP D1 zN
 rw[aW,fQ,fQ,fQ,fQ,fQ,fQ,fQ]
 rcases abZ i j with h | h | h
 ·have:=wv HR h hj
  rw[U4 (V2 h),U5 h,U5 this,U4 (aca this),JZ HR h hj]
  cases decide (a j<b i) <;> cases decide (b i<b j) <;> rfl
 ·subst h
  rw[U5 rfl,U4 (Z0 (a i))];rfl
 ·have:=wv HR h hi
  rw[U4 (Ze h),U4 (aca h),U5 this,U4 (aca this),JZ HR h hi]
  cases decide (a i<b j) <;> cases decide (b j<b i) <;> rfl
theorem Ek{i j:Nat}(hi:i<5)(hj:j<5):bJ (a7 ((List.range 5).map (lU hs t z a b))) i j=eK t z a b i*eK t z a b j*D1 g i j:=by
 have xl:∀k,k<5→(yu ((t+z) % 10) (a k) (b k)).1<10∧(yu ((t+z) % 10) (a k) (b k)).2<10:=fun k hk=>by
  have ab:=HR.ch.ab k hk
  have al:=YB ab.1 ab.2
  unfold yu
  cases dR (gz ((t+z) % 10) (a k)) (gz ((t+z) % 10) (b k))
  ·exact⟨ab.2,al⟩
  ·exact⟨al,ab.2⟩
 unfold bJ a7
 rw[V3,b9 _ _ i hi]
 show List.getD (map (fun p=>bE (aY (lU hs t z a b i) p)) ((List.range 5).map (lU hs t z a b))) j 0=_
 rw[V3,b9 _ _ j hj]
 show bE (aY (lU hs t z a b i) (lU hs t z a b j))=_
 unfold lU
 rw[sign_is HO ht (xl i hi) (xl j hj),← Q6 HR hi hj]
 have VZ:=HR.ch.ab i hi
 have V0:=HR.ch.ab j hj
 refine M4 (YK _ (by decide)) VZ.1 VZ.2 V0.1 V0.2 ?_
 by_cases e:i=j
 ·exact .inl ⟨by rw[e],by rw[e]⟩
 ·have li:=HR.ch.la i hi
  have lj:=HR.ch.la j hj
  exact .inr ⟨fun h=>e (li.1.symm.trans ((E5 (fun q=>R.getD q 0) h).trans lj.1)),fun h=>e (li.2.symm.trans ((E5 (fun q=>R.getD q 0) h).trans lj.1)),fun h=>e (li.1.symm.trans ((E5 (fun q=>R.getD q 0) h).trans lj.2)),fun h=>e (li.2.symm.trans ((E5 (fun q=>R.getD q 0) h).trans lj.2))⟩
end
end
end
section
set_option tactic.hygienic true
section
theorem jj{K α:Type}[DecidableEq K](kvs:List (K×α))(k h:K)(x:α):aZ (aH kvs k x) h=if k=h then some x else aZ kvs h:=by
 unfold aZ aH
 by_cases hk:kvs.any (fun q=>decide (q.1=k))=true
 ·rw[V8 hk]
  induction kvs with
  | nil=>cases hk
  | cons q l ih=>
   rw[YI,aak,aak]
   by_cases e:q.1=k
   ·rw[V8 e]
    by_cases e2:k=h
    ·rw[V8 e2,show decide ((q.1,x).1=h)=true from U5 (e.trans e2)];rfl
    ·rw[show decide ((q.1,x).1=h)=false from U4 fun e3=>e2 (e.symm.trans e3),V4 e2]
     by_cases hl:l.any (fun q=>decide (q.1=k))=true
     ·have:=ih hl
      rw[V4 e2] at this;exact this
     ·have:l.map (fun q=>if q.1=k then(q.1,x) else q)=l:=by
       refine(YU fun p hp=>?_).trans (List.map_id l)
       exact V4 fun e=>hl (Y1.mpr ⟨p,hp,U5 e⟩)
      rw[this]
   ·rw[V4 e]
    rw[aae,U4 e,abp] at hk
    by_cases e3:q.1=h
    ·rw[U5 e3,V4 fun e2=>e (e3.trans e2.symm)]
    ·rw[U4 e3];exact ih hk
 ·rw[V4 hk,List.find?_append,Option.map_or]
  by_cases e:k=h
  ·rw[V8 e]
   have:kvs.find? (fun q=>decide (q.1=h))=none:=abR.mpr fun q hq e2=>hk (Y1.mpr ⟨q,hq,U5 ((U9 e2).trans e.symm)⟩)
   rw[this,aak,show decide ((k,x).1=h)=true from U5 e];rfl
  ·rw[V4 e,aak,show decide ((k,x).1=h)=false from U4 e]
   exact Option.or_none
theorem ul(row:List Int)(h:Int):∀(l:List Int) (kvs:List (Int×Int)),aZ (l.foldl (fun kvs h=>aH kvs h (nextOf row h)) kvs) h=if h∈l then some (nextOf row h) else aZ kvs h
 | [],kvs=>by rw[V4 (ZK)];rfl
 | x::l,kvs=>by
  rw[abI,ul row h l,jj]
  by_cases e:h∈l
  ·rw[V8 e,V8 (E6 _ e)]
  ·rw[V4 e]
   by_cases e2:x=h
   ·rw[V8 e2,e2,V8 E7]
   ·rw[V4 e2,V4 fun hm=> (V1.mp hm).elim (fun e3=>e2 e3.symm) e]
theorem J0{P:Nat→Prop}[∀i,Decidable (P i)]:∀m,∃n,n≤m∧(∀i,i<n→¬P i)∧(P n∨n=m)
 | 0=> ⟨0,E8 _,fun i h=>absurd h (aah i),.inr rfl⟩
 | m+1=>by
  obtain⟨n,h1,h2,h3⟩:=J0 (P:=P) m
  by_cases hp:P n
  ·exact⟨n,ZG h1,h2,.inl hp⟩
  ·have e:=h3.resolve_left hp
   refine⟨m+1,E8 _,fun i hi=>?_,.inr rfl⟩
   rcases ZS (YS hi) with h | h
   ·exact h2 i (e▸h)
   ·rw[h,← e];exact hp
theorem Q7:(cw 32 fun p=>cw 5 fun k=>cC (zC p k) (tb p k))=true:=by decide+kernel
section
variable {R:List Nat}{a b:Nat→Nat}{g t z:Nat}{hs:List Int}(HR:yk R a b g)(HO:oj hs z)(ht:t<10)
noncomputable abbrev Lr(R:List Nat)(q:Nat):Nat:=R.getD q 0
include HR HO ht
theorem ou{sm:List Nat}(h5:∀k∈sm,k<5){q:Nat}(hq:q<10):∀i,i≤sm.length→aZ (kb ((List.range 5).map (lU hs t z a b)) sm i) (gH hs t q)=if Lr R q∈sm.take i then some (gH hs t (eH a b (Lr R) q)) else none
 | 0,_=>by rw[List.take_zero,V4 (ZK)];rfl
 | i+1,hi=>by
  have ih:=ou h5 hq i (Yy hi)
  have hk:sm[i]? =some sm[i]:=U6 hi
  have k5:sm[i]<5:=h5 _ (Zm hi)
  show aZ (Qs _ (kb _ sm i) (sm.getD i 0)) _=_
  rw[eJ hk]
  unfold Qs
  rw[b9 _ _ _ k5,jj,jj,ih,Zo,hk]
  generalize sm[i]=k at k5
  have ab:=HR.ch.ab k k5
  have al:=YB ab.1 ab.2
  have la:=HR.ch.la k k5
  have mq:=rD HR.ch hq
  have inj:=fun {p} (hp:p<10) (h:gH hs t p=gH hs t q)=>kW HO ht hp hq h
  have no:Lr R q≠k→a k≠q∧b k≠q:=fun j_=> ⟨fun e=>j_ (by rw[← e];exact la.1),fun e=>j_ (by rw[← e];exact la.2)⟩
  have mem:(Lr R q∈sm.take i++ [k])↔(Lr R q∈sm.take i∨Lr R q=k):=by rw[YZ,Yz]
  show(if(lU hs t z a b k).2=gH hs t q then some (lU hs t z a b k).1 else if(lU hs t z a b k).1=gH hs t q then some (lU hs t z a b k).2 else _)=if Lr R q∈sm.take i++ [k] then _ else _
  by_cases e:Lr R q=k
  ·rw[V8 (mem.mpr (.inr e))]
   have mq:(q=a k∧eH a b (Lr R) q=b k)∨(q=b k∧eH a b (Lr R) q=a k):=by rw[← e];exact mq
   have ne:=V2 ab.1
   unfold lU yu
   cases dR (gz ((t+z) % 10) (a k)) (gz ((t+z) % 10) (b k))
   ·rcases mq with⟨h1,h2⟩ |⟨h1,h2⟩
    ·rw[h2,h1,aa9,V8 rfl]
    ·rw[h2,h1,aa9,V4 fun h=>ne (kW HO ht al ab.2 h),V8 rfl]
   ·rcases mq with⟨h1,h2⟩ |⟨h1,h2⟩
    ·rw[h2,h1,ZB,V4 fun h=>ne (kW HO ht ab.2 al h).symm,V8 rfl]
    ·rw[h2,h1,ZB,V8 rfl]
  ·have n:=no e
   have xy:(lU hs t z a b k).2≠gH hs t q∧(lU hs t z a b k).1≠gH hs t q:=by
    unfold lU yu
    cases dR (gz ((t+z) % 10) (a k)) (gz ((t+z) % 10) (b k))
    ·exact⟨fun h=>n.1 (inj al h),fun h=>n.2 (inj ab.2 h)⟩
    ·exact⟨fun h=>n.2 (inj ab.2 h),fun h=>n.1 (inj al h)⟩
   rw[V4 xy.1,V4 xy.2]
   by_cases h:Lr R q∈sm.take i
   ·rw[V8 h,V8 (mem.mpr (.inl h))]
   ·rw[V4 h,V4 fun h'=> (mem.mp h').elim h e]
omit HO ht in
theorem yx{p k:Nat}(hp:p<32)(hk:k<5):k∈mo p↔p.testBit k=true:=by
 unfold mo
 rw[abH,YD,iI (bA (bA Q7 p hp) k hk),DL]
 exact⟨fun h=>h.2,fun h=> ⟨hk,h⟩⟩
theorem H9{p q:Nat}(hp:p<32)(hq:q<10):ia ((List.range 5).map (lU hs t z a b)) (mo p) (gH hs t q)=gH hs t (EH a b (Lr R) p q):=by
 unfold ia EH
 rw[ou HR HO ht (ru p).2 hq _ (E8 _),ZM]
 have lq:=(HR.ch.all q hq).1
 by_cases h:p.testBit (Lr R q)=true
 ·rw[V8 ((yx HR hp lq).mpr h),h];rfl
 ·rw[V4 fun e=>h ((yx HR hp lq).mp e),Z3.mpr h];rfl
omit HR in
theorem M6{q:Nat}(hq:q<10):aZ (t6 (jo hs 10)) (gH hs t q)=some (gH hs t ((q+1) % 10)):=by
 have hp:lT t q<10:=YK _ (by decide)
 unfold t6
 rw[ul,V8 (show gH hs t q∈jo hs 10 from iH.mpr ⟨lT t q,hp,rfl⟩)]
 unfold gH
 rw[MA HO hp]
 have e:(lT t q+1) % 10=lT t ((q+1) % 10):=by unfold lT;omega
 rw[e]
noncomputable def M7(hs:List Int)(t:Nat)(h:Int):Nat:=((List.range 10).find? fun q=>decide (gH hs t q=h)).getD 0
omit HR in
theorem El{q:Nat}(hq:q<10):M7 hs t (gH hs t q)=q:=by
 unfold M7
 cases e:(List.range 10).find? fun p=>decide (gH hs t p=gH hs t q) with
 | none=>exact absurd (U5 rfl) (abR.mp e q (YD.mpr hq))
 | some p=>
  have h:decide (gH hs t p=gH hs t q)=true:=List.find?_some (p:=fun p=>decide (gH hs t p=gH hs t q)) e
  show p=q
  exact kW HO ht (YD.mp (List.mem_of_find?_eq_some e)) hq (U9 h)
noncomputable def H_(R:List Nat)(a b:Nat→Nat)(hs:List Int)(t p:Nat)(h:Int):Int:=gH hs t (uw a b (Lr R) p (M7 hs t h))
def PH(hs:List Int)(t:Nat)(h:Int):Prop:= ∃q,q<10∧h=gH hs t q
theorem M8{p:Nat}(hp:p<32):Qt ((List.range 5).map (lU hs t z a b)) (mo p) (t6 (jo hs 10)) (H_ R a b hs t p) (PH hs t):=⟨fun h ⟨q,hq,e⟩=>by
  subst e
  rw[H9 HR HO ht hp hq,M6 HO ht (DY HR.ch hq).1]
  unfold H_
  rw[El HO ht hq];rfl,
 fun h O=> ⟨_,YK _ (by decide),rfl⟩⟩
omit HR in
theorem Em{p s:Nat}(uo:s<10):∀i,oF (H_ R a b hs t p) (gH hs t s) i=gH hs t (wq (uw a b (Lr R) p) s i)
 | 0=>rfl
 | i+1=>by
  have il:wq (uw a b (Lr R) p) s i<10:=by
   cases i with
   | zero=>exact uo
   | succ i=>exact YK _ (by decide)
  show H_ R a b hs t p (oF (H_ R a b hs t p) (gH hs t s) i)=_
  rw[Em uo i]
  unfold H_
  rw[El HO ht il];rfl
theorem En(p s:Nat):∃n,n≤10∧(∀i,i<n→wq (uw a b (Lr R) p) s (i+1)≠s)∧(wq (uw a b (Lr R) p) s (n+1)=s∨n=10):=J0 (P:=fun i=>wq (uw a b (Lr R) p) s (i+1)=s) 10
theorem Ia{p s:Nat}(hp:p<32)(uo:s=a 0∨s=b 0){st:Nat→Nat}(Lj:st p≤10∧(∀i,i<st p→wq (uw a b (Lr R) p) s (i+1)≠s)∧(wq (uw a b (Lr R) p) s (st p+1)=s∨st p=10)):
  v9 ((List.range 5).map (lU hs t z a b)) (t6 (jo hs 10)) (a7 ((List.range 5).map (lU hs t z a b))) (gH hs t s) (wm g).testBit st (H_ R a b hs t) (PH hs t) p:=by
 have ab:=HR.ch.ab 0 (by decide)
 have zG:s<10:=uo.elim (fun e=>e▸YB ab.1 ab.2) fun e=>e▸ab.2
 have il:∀i,wq (uw a b (Lr R) p) s i<10:=fun i=>by
  cases i with
  | zero=>exact zG
  | succ i=>exact YK _ (by decide)
 obtain⟨h1,h2,h3⟩:=Lj
 refine⟨M8 HR HO ht hp,fun i hi e=>?_,h1,h3.imp (fun e=>?_) id,?_,D8 HR.lt HR.VW rL (fun i j hi hj=>Ek HR HO ht hi hj) p hp⟩
 ·rw[Em HO ht zG] at e
  exact h2 i hi (kW HO ht (il _) zG e)
 ·rw[Em HO ht zG,e]
 ·rw[ZF,HR.wk p hp s uo,ZE,aaf]
  constructor
  ·intro e
   have e9:st p=9:=ab7 e
   rw[e9] at h2 h3
   exact⟨h2,h3.resolve_right (by decide)⟩
  ·rintro⟨t1,t2⟩
   rcases abZ (st p) 9 with h | h | h
   ·rcases h3 with h3 | h3
    ·exact absurd h3 (t1 _ h)
    ·omega
   ·rw[h]
   ·exact absurd t2 (h2 9 h)
end
theorem ww(W:Nat):∀n,v7 W.testBit n=((ug W n:Nat):Int)
 | 0=>rfl
 | n+1=>by
  show v7 W.testBit n+cond (W.testBit n) 1 0=((ug W n+W >>> n % 2:Nat):Int)
  rw[ww W n,aaP,← DL]
  unfold tb
  rw[aW]
  show _+cond (decide (W >>> n % 2=1)) 1 0=_
  rcases Nat.mod_two_eq_zero_or_one (W >>> n) with e | e <;> rw[e] <;> rfl
theorem Ib(c:Nat×Nat):bE c=0∨bE c=1∨bE c= -1:=by
 unfold bE
 cases decide ([(c.1:Int),(c.2:Int)]=[0,1])
 ·cases decide ([(c.1:Int),(c.2:Int)]=[1,2])
  ·exact .inl rfl
  ·exact .inr (.inr rfl)
 ·exact .inr (.inl rfl)
theorem M9(f:Nat→Pr):q6 (a7 ((List.range 5).map f)):=by
 have row:∀i,i<5→(a7 ((List.range 5).map f)).getD i []=((List.range 5).map f).map fun p=>bE (aY (f i) p):=fun i hi=>by
  unfold a7
  rw[V3,b9 _ _ i hi];rfl
 refine⟨rfl,fun i hi=>by rw[row i hi];rfl,fun i j hi hj=>?_⟩
 unfold bJ
 rw[row i hi,V3,b9 _ _ j hj]
 exact Ib _
theorem Ic(sq:List (List Int)){i j:Nat}(hi:i<5)(hj:j<5):bJ (gu sq) i j=bJ sq i j+cond ((i:Int)==(j:Int)) 1 0:=by
 show((gu sq).getD i []).getD j 0=_
 unfold gu
 rw[b9 _ _ i hi]
 unfold v8
 rw[b9 _ _ j hj]
theorem zO{es:Array DictEntry}(T:dN es)(E:zc es):t8 es:=fun c0 c1 c2 c3 c5 X h0 h1 h2 h3 h5=>by
 have hm:c0.toNat % 945<945:=YK _ (by decide)
 obtain⟨a,b,g,HR⟩:=MQ _ hm
 obtain⟨z,HO⟩:=Mz X
 have hl:=DF (c0.toNat % 945)
 have r5:∀q,(j4 (c0.toNat % 945)).getD q 0<5:=fun q=>by
  rcases aaw q (j4 (c0.toNat % 945)).length with h | h
  ·rw[U3,U6 h]
   exact om _ 5 _ (Zm h)
  ·rw[U3,abu h];exact Nat.zero_lt_succ 4
 have hr:=HN (c1:=c1) h0
 generalize j4 (c0.toNat % 945)=R at HR hl r5 hr
 have ht:(c1.fmod 10).toNat<10:=toNat_lt (Lo (n:=10) (by decide)) (RC (n:=10) (by decide))
 generalize(c1.fmod 10).toNat=t at hr ht
 have hv:=fun i hi=>Q1 (c2:=c2) (t:=t) hl r5 ht (i:=i) hi
 have tl:=ub hl ht
 have gl:(zt c2 (fh R t)).length=10:=(x5 ..).trans tl
 have X5:∀c∈fh R t,c∈rj:=fun c hc=>by
  obtain⟨i,hi,rfl⟩:=List.mem_iff_getElem.mp hc
  have Ni:i<10:=tl▸hi
  have e:=ye hl ht Ni
  rw[U3,U6 hi] at e
  have e:(fh R t)[i]=97+R.getD ((i+t) % 10) 9:=e
  rw[e]
  have q:(i+t) % 10<R.length:=by rw[hl];exact YK _ (by decide)
  have:=r5 ((i+t) % 10)
  rw[U3,U6 q] at this ⊢
  have this:R[(i+t) % 10]<5:=this
  show 97+R[(i+t) % 10]∈rj
  generalize R[(i+t) % 10]=c at this
  match c,this with
  | 0,_ | 1,_ | 2,_ | 3,_ | 4,_=>decide
 have g6:∀c∈zt c2 (fh R t),c∈six:=fun c hc=>by
  obtain⟨i,hi,rfl⟩:=List.mem_iff_getElem.mp hc
  have:=(hv i (gl▸hi)).1
  rw[U3,U6 hi] at this
  exact this
 have QH:∀s∈Di c3,0≤s∧s<((48:Nat):Int):=fun s h=>by
  obtain⟨k,_,rfl⟩:=U0.mp h
  exact x6 c3 k
 have tx:=HK T E gl ((E9 ..).trans YP:(Di c3).length=10) g6 QH
 generalize da X 10=hs at HO
 have ps:=Q4 HR HO ht hv r5
 obtain⟨s,uo,ef⟩:∃s,(s=a 0∨s=b 0)∧(((List.range 5).map (lU hs t z a b)).getD 0 (0,0)).1=gH hs t s:=by
  rw[b9 _ _ 0 (by decide)]
  unfold lU yu
  cases dR (gz ((t+z) % 10) (a 0)) (gz ((t+z) % 10) (b 0))
  ·exact⟨_,.inr rfl,rfl⟩
  ·exact⟨_,.inl rfl,rfl⟩
 have ab:=HR.ch.ab 0 (by decide)
 have zG:s<10:=uo.elim (fun e=>e▸YB ab.1 ab.2) fun e=>e▸ab.2
 have Uq:=fun p=>En HR HO ht p s
 obtain⟨m,la,EL,em⟩:=zJ HR.lt HR.VW
 have EL:=EL.flip (rL (t:=t) (z:=z) (a:=a) (b:=b))
 have sh:Sh (gu (a7 ((List.range 5).map (lU hs t z a b)))):=⟨rfl,fun i hi=>by unfold gu;rw[b9 _ _ i hi];rfl⟩
 have D:=D_ sh ⟨fun i j hi hj=> (EL.m0 i j hi hj).trans (by
  rw[Ic _ hi hj,Ek HR HO ht hi hj]
  unfold JS
  rw[Int.mul_add]
  by_cases e:i=j
  ·subst e
   rw[HV rL,Y',Y']
  ·rw[show((i:Int)==(j:Int))=false from Zs.mpr fun h=>e (aaf.mp h)]
   show _+_*(0:Int)=_+(0:Int)
   rw[ZU]),EL.l0,EL.ls,EL.st,EL.ne,EL.bd⟩
 have D2:kN (gu (a7 ((List.range 5).map (lU hs t z a b))))=v7 (wm g).testBit 32:=by
  rw[D.2,ww,← em]
  show _*_*_=_
  rw[HV rL,Y']
 refine⟨fh R t,j8 (uj R t a b),(wm g).testBit,fun p=> (Uq p).choose,H_ R a b hs t,PH hs t,?_⟩
 have W:JJ es c0 c1 c5 (fh R t) (zt c2 (fh R t)) (Di c3) hs (j8 (uj R t a b)) (wm g).testBit (fun p=> (Uq p).choose) (H_ R a b hs t) (PH hs t):=by
  refine⟨hr,tl,X5,tx.tl,tx.Ub,tx.Uc,tx.Ud,tx.cut,tx.rd,MY HR.ch ht hv r5,MZ HR.ch ht hv,⟨rfl,fun k hk=>by unfold j8;rw[b9 _ _ k hk];rfl⟩,?_,?_,?_,?_,?_,?_,?_⟩ <;> try rw[ps]
  ·exact M9 _
  ·intro k hk
   rw[Ek HR HO ht hk hk]
   unfold D1
   rw[aW,U5 rfl]
   exact ZU _
  ·rw[ef];exact⟨s,zG,rfl⟩
  ·intro p hp
   rw[ef]
   exact Ia HR HO ht hp uo (Uq p).choose_spec
  ·rw[ww]
   exact Ec HR r5 _ (fun k hk=>H7 HR.ch ht hk) (toNat_lt (Lo (by decide)) (RC (by decide)))
  ·exact D.1
  ·exact D2
 exact W
end
end
section
set_option tactic.hygienic true
section
theorem Q8{h:Heap}{a:Addr}(e:h.get? a=some o){es:Array DictEntry}{ep:Nat}(hd:o.data= .dict es ep)(hk:StrKeys es):h.Ns a (nsFind es):=⟨o,es,ep,e,hd,hk,fun O=>rfl⟩
theorem wx{es:Array DictEntry}(h:qc es=true):StrKeys es:=fun e he=>by
 have:=Jb.mp h e (abK.mpr he)
 split at this
 ·rename_i n t hk;exact⟨n,t,hk⟩
 ·cases this
theorem Ie{es:Array DictEntry}(h:valsOk es.toList=true)(x:Str)(v:Value)(hv:bf es x=some v):∃c t,v= .int c t∧7≤c∧c≤54:=by
 unfold bf findBy at hv
 obtain⟨e,he,rfl⟩:=Option.map_eq_some_iff.mp hv
 have hm:=Array.mem_of_find?_eq_some he
 have:=Jb.mp h e (abK.mpr hm)
 split at this
 ·rename_i c t hc
  exact⟨c,t,hc,U9 this⟩
 ·cases this
noncomputable def qb(h:Heap):FM:=⟨fun O=>none,fun a=>if gA a=true then none else h.get? a⟩
theorem Ig{a:Addr}(ha:gA a=false):(qb h).f a=h.get? a:=V4 (by rw[ha];exact YQ)
theorem Eo{a:Addr}(e:(qb h).f a=some o):h.get? a=some o:=by
 have e':(if gA a=true then none else h.get? a)=some o:=e
 split at e'
 ·cases e'
 ·exact e'
def DictAt(h:Heap)(a:Addr):Prop:= ∃o n,(qb h).f a=some o∧o.data= .dict (wA h a) n∧qc (wA h a)=true
theorem DictAt.ns{a:Addr}(x:DictAt h a){h':Heap}(hk:∀a o,(qb h).f a=some o→h'.get? a=some o):h'.Ns a (mu h a):=
 let⟨_,_,e,hd,hs⟩:=x;Q8 (hk _ _ e) hd (wx hs)
theorem dK{a:Addr}(e:gb h a=true):DictAt h a:=by
 unfold gb at e
 simp only[YL,Y2] at e
 obtain⟨⟨h1,h2⟩,h3⟩:=e
 split at h2
 ·rename_i o ho
  split at h2
  ·rename_i es n hd
   exact⟨o,n,(Ig h1).trans ho,by unfold wA;rw[ho];simp only[hd],h3⟩
  ·cases h2
 ·cases h2
theorem Ep{q:Str}(e:wB h v=some q):dU (qb h) v q:=by
 unfold wB at e
 split at e
 ·rename_i c
  split at e
  ·cases e
  ·rename_i hc
   split at e
   ·rename_i o ho
    split at e
    ·rename_i vs hd
     split at e
     ·rename_i q' t hv
      cases e
      exact⟨c,o,vs,t,rfl,(Ig (by simpa using hc)).trans ho,hd,hv⟩
     ·cases e
    ·cases e
   ·cases e
 ·cases e
noncomputable def Se:FuncBody→List Stmt
 | .stmts b=>b
 | _=>[]
inductive Q9(h:Heap)(a:Addr)(f:FI)(q:Str)(d k:Value):Prop
 | mk (o:Obj) (doc pm:Value) (an:Option Addr) (eg ct:Value) (ho:h.get? a=some o) (hd:o.data= .func (fnX f.name q f.params (Se f.body) f.scope [] d k doc pm an eg ct)) (hc:o.cls= .type "function") (cq:wB h eg=some q)
noncomputable def jk(b:FuncBody):Bool:=match b with | .stmts _=>true | _=>false
theorem um{b:FuncBody}(h:jk b=true):b= .stmts (Se b):=by
 cases b with
 | stmts b=>rfl
 | _=>cases h
theorem rN{a:Addr}{f:FI}{q:Str}(hb:jk f.body=true)(e:rW h a=some (mw f q d k)):Q9 h a f q d k:=by
 unfold rW at e
 split at e
 ·rename_i o ho
  split at e
  ·rename_i fd hd
   have e:=YV e
   have k:=E5 (fun x:FuncData=>Data.func {x with body:= .stmts (Se f.body),doc:=fd.doc,pyModule:=fd.pyModule,annotations:=fd.annotations,code:=fd.code,closureTuple:=fd.closureTuple }) (E5 fst e)
   have b:fd.body= .stmts (Se f.body):=(E5 (fun x:FuncData×Option Str×Bool=>x.1.body) e).trans (um hb)
   refine⟨o,fd.doc,fd.pyModule,fd.annotations,fd.code,fd.closureTuple,ho,hd.trans ((E5 (fun z=>Data.func {fd with body:=z }) b).trans k),?_,E5 (fun x:FuncData×Option Str×Bool=>x.2.1) e⟩
   have Sf:=E5 (fun x:FuncData×Option Str×Bool=>x.2.2) e
   simp only at Sf
   split at Sf
   ·rename_i t ht
    rw[ht,eq_of_beq Sf]
   ·cases Sf
  ·cases e
 ·cases e
theorem rO{a:Addr}(ha:gA a=false){f:FI}{q:Str}(hb:jk f.body=true)(e:rW h a=some (mw f q d k)):FnAt (qb h) a f q d k:=
 let⟨o,doc,pm,an,eg,ct,ho,hd,_,hc⟩:=rN hb e
 ⟨o,_,doc,pm,an,eg,ct,um hb,(Ig ha).trans ho,hd,Ep hc⟩
theorem ow{P:Params}:∀ {l:List DictEntry} {ks:List Str},l.map wC=ks.map (fun x=> (some x,keyHash P x))→KeysLit P l
 | [],_,_=>trivial
 | e::r,[],h=>by simp at h
 | e::r,x::ks,h=>by
  simp only[YI,List.cons.injEq,Prod.mk.injEq,wC] at h
  refine⟨?_,ow (ks:=ks) h.2⟩
  obtain⟨⟨h1,h2⟩,_⟩:=h
  split at h1
  ·rename_i y t hy
   cases h1
   exact⟨_,t,hy,h2⟩
  ·cases h1
theorem Ih(e:qd h=true):(qb h).f 87=some ⟨.type "dict",none,.dict (wA h 87) (J3 h 87),#[]⟩:=by
 rw[Ig (by decide)]
 unfold qd at e
 split at e
 ·rename_i t es n sl ho
  simp only[YL,ZE] at e
  have h2:sl=#[]:=Array.eq_empty_of_size_eq_zero e.2
  unfold wA J3
  rw[ho,e.1,h2]
 ·cases e
theorem cg{α:Type}{l m:List α}(h:l=m)(i:Nat){a b:α}(ha:l[i]? =some a)(hb:m[i]? =some b):a=b:=by subst h;exact YV (ha.symm.trans hb)
theorem Ii{es:Array DictEntry}(h1:zZ es=true)(h2:z0 es=true):dN es where
 at' k hk:=by
  have:=Jb.mp h1 k (YD.mpr hk)
  split at this
  ·rename_i c t hc
   exact⟨t,by rw[hc,eq_of_beq this]⟩
  ·cases this
 only x hx:=by
  unfold bG bf findBy at hx
  obtain⟨v,hv⟩:=Z7.mp hx
  obtain⟨e,he,rfl⟩:=Option.map_eq_some_iff.mp hv
  have hm:=Array.mem_of_find?_eq_some he
  have hp:=Array.find?_some he
  have:=Jb.mp h2 e (abK.mpr hm)
  split at this
  ·rename_i y t hy
   rw[hy] at hp
   have X6:y=x:=by
    have La:Value.isStrOf x (.str y t)=true:=hp
    unfold Value.isStrOf at La
    first | exact eq_of_beq La | exact(eq_of_beq La).symm
   rw[← X6]
   exact List.contains_iff_mem.mp this
  ·cases this
noncomputable abbrev yh(h:Heap):Lay:=yl (mu h 253) (wA h 87) (J3 h 87)
structure Er(P:Params)(h:Heap):Prop where
 b:NM h=replicate 13 true
 g:NN h=Io
 v:NO h=Ip
 f:NP h=z5
 m:NQ h=Iq
 d:NR h=Ir
 o:J4 h=z6
 k:(wA h 87).toList.map wC=wD.map (fun x=> (some x,keyHash P x))
structure TopE(P:Params)(s:Shared):Prop where
 x:Er P s.heap
 n:s.heap.objs.size=317
 t:s.toks=959
theorem Ij{w:World}(e:J5 s=z7 w):TopE w.params s:=
 have e0:=YX e
 have e1:=YX e0.2
 have e2:=YX e1.2
 have e3:=YX e2.2
 have e4:=YX e3.2
 have e5:=YX e4.2
 have e6:=YX e5.2
 have e7:=YX e6.2
 have e8:=YX e7.2
 ⟨⟨e0.1,e1.1,e2.1,e3.1,e4.1,e5.1,e6.1,e7.1⟩,e8.1,e8.2⟩
section
variable {P:Params}{h:Heap}(X:Er P h)
include X
theorem J1{p:Nat×String}(hp:p∈FL):rW h (lk Il p.1)=some (mw (rQ p.1) (Str.ofString p.2) .none .none):=Z5.mp X.f p hp
omit X in
theorem Q_:(FL.all fun p=>!gA (lk Il p.1)&&jk (rQ p.1).body)=true:=by kernel_rfl
theorem J2{p:Nat×String}(hp:p∈FL):FnAt (qb h) (lk Il p.1) (rQ p.1) (Str.ofString p.2) .none .none:=
 have k:=E2.mp (Jb.mp Q_ p hp)
 rO ((Y2 _).mp k.1) k.2 (J1 X hp)
omit X in
theorem Ra:(BL.all fun p=>!gA (lk Il p.1)&&jk (rQ p.1).body&&!gA (lk Nb p.1))=true:=by kernel_rfl
theorem Rb{p:Nat×String}(hp:p∈BL):DictAt h (lk Nc p.1):=by
 rcases V1.mp hp with rfl | hp
 ·exact dK (cg X.b 4 rfl rfl)
 rcases V1.mp hp with rfl | hp
 ·exact dK (cg X.b 5 rfl rfl)
 cases Yz.mp hp
 exact dK (cg X.b 6 rfl rfl)
theorem Rc{p:Nat×String}(hp:p∈BL):FnAt (qb h) (lk Il p.1) (rQ p.1) (Str.ofString p.2) (.ref (lk Nb p.1)) (.ref (lk Nc p.1))∧Pq (qb h) (lk Nb p.1) (lk Nc p.1):=
 have k:=E2.mp (Jb.mp Ra p hp)
 have k1:=E2.mp k.1
 have e:=YX (Z5.mp X.d p hp)
 have e2:=YX e.2
 ⟨rO ((Y2 _).mp k1.1) k1.2 e.1,⟨_,_,_,(Ig ((Y2 _).mp k.2)).trans e2.1,rfl⟩,_,fun O hk=> (Rb X hp).ns hk,e2.2⟩
omit X in
theorem Es:(ML.all fun p=>!gA (lk Im p.1)&&jk (fm p.1).body)=true:=by kernel_rfl
theorem Rd{p:Nat×String}(hp:p∈ML):Q9 h (lk Im p.1) (fm p.1) (Str.ofString ("Headers." ++p.2)) (Sj p.1) .none:=
 rN (E2.mp (Jb.mp Es p hp)).2 (YX (Z5.mp X.m p hp)).1
theorem yy{p:Nat×String}(hp:p∈ML):FnAt (qb h) (lk Im p.1) (fm p.1) (Str.ofString ("Headers." ++p.2)) (Sj p.1) .none:=
 have k:=E2.mp (Jb.mp Es p hp)
 rO ((Y2 _).mp k.1) k.2 (YX (Z5.mp X.m p hp)).1
theorem yz{p:Nat×String}(hp:p∈ML):mu h 253 (Str.ofString p.2)=some (.ref (lk Im p.1)):=(YX (Z5.mp X.m p hp)).2
theorem rP{p:Nat×String}(hp:p∈ML):∃o,(qb h).f (lk Im p.1)=some o∧o.cls= .type "function":=
 have k:=E2.mp (Jb.mp Es p hp)
 let⟨o,_,_,_,_,_,ho,_,hc,_⟩:=Rd X hp
 ⟨o,(Ig ((Y2 _).mp k.1)).trans ho,hc⟩
theorem o9(i a:Nat)(ha:gA a=false)(h1:(J4 h)[i]? =some (h.get? a))(h2:z6[i]? =some (some o)):(qb h).f a=some o:=(Ig ha).trans (cg X.o i h1 h2)
theorem Rf(h':Heap)(hk:∀a o,(qb h).f a=some o→h'.get? a=some o):h'.Ns mainGlobals (mu h 3)∧h'.Ns builtinsNs (mu h 0)∧h'.Ns cStatics (mu h 2):=⟨(dK (cg X.b 2 rfl rfl)).ns hk,(dK (cg X.b 0 rfl rfl)).ns hk,(dK (cg X.b 1 rfl rfl)).ns hk⟩
theorem M_:mu h 3 (Str.ofString "law")=some (.ref 316):=cg X.v 1 rfl rfl
theorem Et{a c P':Addr}{f:FI}{q q':Str}(hb:jk f.body=true)(ha:gA a=false)(e:rW h a=some (mw f q .none .none))(hc:codeAt h a= .ref c)(ho:(qb h).f c=some o')(hd:∀h':Heap,h'.get? c=some o'→CodeHd h' c P')(hq:q++ ".<locals>." ++ "<lambda>" =q'):
  ∀o fd,(qb h).f a=some o→o.data= .func fd→(∃c,fd.code= .ref c∧∀h':Heap,(∀a o,(qb h).f a=some o→h'.get? a=some o)→CodeHd h' c P')∧fd.qualname++ ".<locals>." ++ "<lambda>" =q':=fun o fd h1 h2=>by
 obtain⟨o1,doc,pm,an,eg,ct,V_,V',_⟩:=rN hb e
 have h1:=(Ig ha).symm.trans h1
 cases V_.symm.trans h1
 have X7:codeAt h a=eg:=by
  unfold codeAt
  rw[V_]
  simp only[V']
 rw[V'] at h2
 cases h2
 exact⟨⟨c,X7.symm.trans hc,fun h' hk=>hd h' (hk _ _ ho)⟩,hq⟩
end
noncomputable def M'{h:Heap}(w:World)(X:Er w.params h)(os:OsState):Gd where
 prog:=Challenge.rw_ta0125_02.row.prog
 w:=w
 K:=qb h
 os:=os
 tabs:=[(279,Str.ofString "_law_order.<locals>.<lambda>")]
 L:=0
 A:=callerA
 n:=100
 gl:=mu h 3
 bl:=mu h 0
 J8 h' hk:=(Rf X h' hk).1
 Uz h' hk:=(Rf X h' hk).2.1
 J9 h' hk:=⟨_,(Rf X h' hk).2.2,cg X.v 2 rfl rfl⟩
 hh:=rfl
 hd:=by decide
 hu:=by decide
variable {h:Heap}(w:World)(Y:Er w.params h)(os:OsState)
theorem X8:∀p∈GX (yh h),iW (M' w Y os) p.1 p.2.val:=fun p hp=>by
 have e:=YX (Z5.mp Y.g p hp)
 obtain⟨x,v⟩:=p
 cases v with
 | b b=>exact .inr e
 | v v=>exact .inl e.1
 | i n t=>exact .inl e.1
section
include Y
theorem Ur:sQ (qb h) 254 253 (mu h 253) where
 at' h' hk:=⟨⟨_,_,_,_,_,_,_,_,_,_,_,_,hk 254 _ (o9 Y 0 254 rfl rfl rfl)⟩,(dK (cg Y.b 3 rfl rfl)).ns hk⟩
 ga:=cg Y.v 4 rfl rfl
 gh:=cg Y.v 5 rfl rfl
 sa:=cg Y.v 6 rfl rfl
 hC:=⟨_,o9 Y 0 254 rfl rfl rfl⟩
end
theorem Us:Ps (yh h) (M' w Y os).K where
 cls:=Ur w Y
 m0:=yz Y (.head _)
 m1:=yz Y (.tail _ (.head _))
 m7:=yz Y (.tail _ (.tail _ (.head _)))
 Pt:=yz Y (.tail _ (.tail _ (.tail _ (.head _))))
 mh:=cg Y.v 7 rfl rfl
 f0:=yy Y (p:=(0,"__init__")) (.head _)
 f1:=yy Y (p:=(1,"_convert_string_type")) (.tail _ (.head _))
 f7:=yy Y (p:=(7,"get_all")) (.tail _ (.tail _ (.head _)))
 Pu:=yy Y (p:=(16,"add_header")) (.tail _ (.tail _ (.tail _ (.head _))))
 fn j hj:=by
  rcases hj with rfl | rfl | rfl | rfl
  ·exact rP Y (.head _)
  ·exact rP Y (.tail _ (.head _))
  ·exact rP Y (.tail _ (.tail _ (.head _)))
  ·exact rP Y (.tail _ (.tail _ (.tail _ (.head _))))
 d0:=⟨_,_,o9 Y 6 141 rfl rfl rfl,rfl⟩
 pn:=⟨_,119,_,_,o9 Y 1 120 rfl rfl rfl,rfl,by kernel_rfl,by kernel_rfl,o9 Y 2 119 rfl rfl rfl,by kernel_rfl⟩
 pv:=⟨_,124,_,_,o9 Y 3 125 rfl rfl rfl,rfl,by kernel_rfl,by kernel_rfl,o9 Y 4 124 rfl rfl rfl,by kernel_rfl⟩
 sm:=let⟨o,e⟩:=Z7.mp (cg Y.b 12 rfl rfl:(h.get? sysModules).isSome=true);⟨o,(Ig (by decide)).trans e⟩
theorem X_{h':Heap}(hk:∀a o,(M' w Y os).K.f a=some o→h'.get? a=some o){Q:Addr}(h1:4≠Q):h'.BuiltinsAt (mu h 3) Q:=
 ⟨4,_,cg Y.v 0 rfl rfl,by decide,by decide,h1,hk _ _ (o9 Y 5 4 rfl rfl rfl),rfl,rfl,rfl⟩
theorem Rg:tm (M' w Y os) 284 279 (Str.ofString "_law_order.<locals>.<lambda>") where
 code:=Et Y (c:=283) (by kernel_rfl) rfl (J1 Y (p:=(75,"_law_order")) (by decide)) (YV (cg Y.v 8 rfl rfl)) (o9 Y 8 283 rfl rfl rfl) (fun h' e=> ⟨_,_,_,_,_,_,_,_,_,e,rfl,rfl,rfl,rfl,rfl,rfl,rfl,rfl,by decide⟩) (by kernel_rfl)
 tab:= .head _
 uniq t ht e:=by cases Yz.mp ht;rfl
 main:=by decide
 bi h' hk:=X_ w Y os hk (by decide)
theorem Ut:cH (yh h) (M' w Y os) where
 gx:=X8 w Y os
 nb h' hk:=⟨_,(Rf Y h' hk).2.2,cg Y.v 3 rfl rfl⟩
 fn i q hm:=J2 Y (p:=(i,q)) (.tail _ hm)
 Ex i q hm:=Rc Y (p:=(i,q)) hm
 kK:=Us w Y os
 tab:=⟨Ih (cg Y.b 7 rfl rfl),ow Y.k,rfl⟩
 RA:=Rg w Y os
theorem Ya{xs:List Int}(dc:xs.length≤63):WC (M' w Y os) (.val (.ref 316)) [.lst (xs.map .int)] [] [] [] fun x m=>x= .bool true∧m=[]:=
 have T:zc (yh h).es:=⟨Ie (cg Y.b 8 rfl rfl),Option.isNone_iff_eq_none.mp (cg Y.b 11 rfl rfl)⟩
 Mu (Ut w Y os) zb (zO (Ii (cg Y.b 9 rfl rfl) (cg Y.b 10 rfl rfl)) T) T (J2 Y (p:=(81,"law")) (.head _)) (show 60≤100 by decide) dc (fun O=>0) []
theorem script_obj{P:Params}{a:Addr}{xs:List WData}{items:Array Value}(w:Well P h (.ref a) (.list xs))(hL:h.IsList a items):∃n,h.get? a=some (cb items n):=by
 obtain⟨o,ho,hc,n,hd⟩:=hL
 cases w with
 | list e _=>
  have:=YV (ho.symm.trans e)
  subst this
  cases hd
  exact⟨_,e⟩
theorem Na{g:Gd}(hA:g.A=callerA){s:Shared}(gS:0<s.toks)(hg:s.gens=#[])(Wa:s.os=g.os)
  (hK:∀a o,g.K.f a=some o→s.heap.get? a=some o) (Yb:∀t∈g.tabs,g.K.f t.1=none)
  (ht:∀t∈g.tabs,s.heap.get? t.1=some (tableObj #[])∧isCodeTable s.heap t.1)
  {lw sc:Addr} {ws:List Int} {vs:List Value} (hL:∃n,s.heap.get? sc=some (cb vs.toArray n)) (hi:IntsAre vs ws) (uO:∀t∈g.tabs,t.1≠sc)
  (W:WC g (.val (.ref lw)) [.lst (ws.map .int)] [] [] [] fun x m=>x= .bool true∧m=[])
  {Q:Value→Shared→Prop} {E:Value→Shared→Prop} (hQ:∀s',OldK s.heap s'.heap→s'.os=s.os→s'.gens=#[]→Q (.bool true) s'):
  wpAny (model g.prog g.w) callerA (call (.ref lw) [.ref sc]) Q E s:=by
 obtain⟨n,ho⟩:=hL
 let F:FM:=⟨fun O=>none,fun a=>if a∈g.tabs.map (·.1) then none else s.heap.get? a⟩
 have Sg:∀a,a∉g.tabs.map (·.1)→F.f a=s.heap.get? a:=fun a ha=>V4 ha
 have r:RepM g F [] s:= {
  tk:=gS
  hP:=fun a o e=>by cases e
  hF:=fun a o e=>by
   have e':(if a∈g.tabs.map (·.1) then none else s.heap.get? a)=some o:=e
   split at e'
   ·cases e'
   ·exact e'
  hK:=fun a o e=>by
   refine(Sg a fun hm=>?_).trans (hK a o e)
   obtain⟨t,zP,rfl⟩:=U0.mp hm
   rw[Yb t zP] at e;cases e
  pf:=fun a o e=>by cases e
  hm:=fun p hp=>by cases hp
  ap:=fun p hp=>by cases hp
  nd:=ZL
  gens:=hg
  os:=Wa
  tab:=fun t zP=> ⟨#[],(ht t zP).1,by simp[TriplesOk],fun pos c e=>by cases e⟩
  b0:=fun t zP=> ⟨rfl,V8 (aaK zP),fun p hp=>by cases hp⟩ }
 have Yc:F.f sc=some (cb vs.toArray n):=(Sg sc fun hm=>by
  obtain⟨t,zP,e⟩:=U0.mp hm
  exact uO t zP e).trans ho
 have hv:aQ F [AV.lst (ws.map .int)] [Value.ref sc]:=by
  simp only[aQ]
  refine⟨_,_,rfl,?_,rfl⟩
  simp only[VR]
  exact⟨sc,vs.toArray,n,rfl,Yc,sL hi⟩
 have key:=W F s (.ref lw) [.ref sc] [] r (ke F _) hv (by simp only[aQ]) (fun r s'=>match r with | .ok (.ret v)=>Q v s' | _=>False) fun F' x v mem' s' l r2 hx hq=>by
  obtain⟨rfl,_⟩:=hq
  simp only[VR] at hx
  subst hx
  refine hQ s' ⟨fun b o e=>?_,fun b o e=>?_⟩ (r2.os.trans Wa.symm) r2.gens
  ·by_cases hb:b∈g.tabs.map (·.1)
   ·obtain⟨t,zP,rfl⟩:=U0.mp hb
    obtain⟨fX,h1,-,-⟩:=r2.tab t zP
    have e0:o=tableObj #[]:=YV (e.symm.trans (ht t zP).1)
    subst e0
    exact .inr (.inl ⟨(ht t zP).2,rfl,#[],fX,rfl,by rw[h1];simp[tableObj]⟩)
   ·exact .inl (r2.hF b o (l.f b o ((Sg b hb).trans e)))
  ·by_cases hb:b∈g.tabs.map (·.1)
   ·obtain⟨t,zP,rfl⟩:=U0.mp hb
    obtain⟨fX,h1,-,-⟩:=r2.tab t zP
    exact⟨_,h1⟩
   ·exact⟨_,r2.hF b o (l.f b o ((Sg b hb).trans e))⟩
 rw[hA] at key
 refine wpAny_call (ab3 key.2 fun r s' hr=>?_)
 split at hr
 ·exact hr
 ·exact hr.elim
end
end
section
set_option tactic.hygienic true
theorem Ik{h:Heap}{a:Addr}{m m':Str→Option Value}(x:h.Ns a m)(y:h.Ns a m'):m=m':=by
 obtain⟨o,es,ep,e,d,_,f⟩:=x
 obtain⟨o',Yw,Yx,e',d',_,f'⟩:=y
 rw[e] at e'
 cases e'
 rw[d] at d'
 cases d'
 funext k
 rw[← f,← f']
theorem Uu{w:World}{s₀ s:Shared}(X:Er w.params s₀.heap)(hk:∀b o,s₀.heap.get? b=some o→s.heap.get? b=some o)(hg:s.gens=#[])(gS:959≤s.toks){xs:List Int}(dc:¬ ((63:Nat):Int)<(xs.length:Int)){vs:List Value}(hL:s.heap.IsList 317 vs.toArray){ds:List WData}(w1:Well w.params s.heap (.ref 317) (.list ds))(hi:IntsAre vs xs)
  {fa:Addr} {mg:Str→Option Value} (Si:s.heap.Ns mainGlobals mg) (Wb:mg (Str.ofString "law")=some (.ref fa))
  {Q:Value→Shared→Prop} {E:Value→Shared→Prop} (hQ:∀s',OldK s.heap s'.heap→s'.os=s.os→s'.gens=#[]→Q (.bool true) s'):
  wpAny (model R1.prog w) callerA (call (.ref fa) [.ref 317]) Q E s:=by
 have hK:∀a o,(qb s₀.heap).f a=some o→s.heap.get? a=some o:=fun a o e=>hk _ _ (Eo e)
 have e:=Ik Si (Rf X s.heap hK).1
 rw[e,M_ X] at Wb
 cases Wb
 have t1:=cg X.o 7 rfl rfl
 refine Na (g:=M' w X s.os) rfl (U2 (by decide) gS) hg rfl hK ?_ ?_ (script_obj w1 hL) hi ?_ (Ya w X s.os (Zl.mp (ZD.mp dc))) hQ
 ·exact V5.mpr ⟨rfl,fun _ h=>nomatch h⟩
 ·exact V5.mpr ⟨⟨hk _ _ t1,283,_,_,hK _ _ (o9 X 8 283 rfl rfl rfl),rfl,rfl,rfl⟩,fun _ h=>nomatch h⟩
 ·exact V5.mpr ⟨by decide,fun _ h=>nomatch h⟩
end
end
end Mine
set_option tactic.hygienic true
theorem PySem.Challenge.cw_ta0125_02_holds : PySem.Challenge.rw_ta0125_02.Holds := by
 w_on
 refine holds_law Mine.NU fun Uv=>?_
 obtain⟨d,NV,h1,h2,h3⟩:=Mine.Sk
 refine holds_openX (XP:=fun _ _=>True) Mine.NW (fun _ _=>trivial) (fun _ _ _ _ _=>trivial) h1 h2 h3 (fun s e=>recFacts_of e) rfl Uv Mine.We ⟨rfl,rfl,rfl,rfl,rfl,by decide+kernel⟩ ?hw ?hc
 case hw=>w_witness2
 intro w s₀ s₁ mg mb G y fa o pm cd doc dV kV ho hd uH hD Si hg args BC as L Uw Ux Yd Ye Yf
 obtain⟨X,Yg,Km⟩:=Mine.Ij y
 have T:=G.T
 have hn:d.name=Str.ofString "law":=defOf_name h1
 rw[hn] at Si
 have J8:=T.g
 clear G y ho hd uH hD T h1 h2 h3 hn
 wrow_args Uw Ux Yd Ye Yf
 obtain⟨Wc,hsz⟩:=script_at L
 have gS:=script_toks L Km
 rw[Yg] at Wc
 subst Wc
 all_lens
 rename_i xs _ _ _ _ _ _ _ vs _ _ _ Rh _ hL w1 _ hi _
 refine Mine.Uu X L.keeps hg gS Rh hL w1 hi J8 Si fun s' h1 h2 h3=>?_
 refine⟨.inl ⟨_,.bool true,[],rfl,fun _=>rfl,.bool true,?_,fun _=> ⟨List.nodup_nil,fun a ha=>by cases ha⟩⟩,h1,h2,?_⟩
 ·kernel_rfl!
 ·rw[h3]
  intro y hy
  simp at hy
