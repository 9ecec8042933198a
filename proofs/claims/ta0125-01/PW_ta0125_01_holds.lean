import PyProof.Rows.All
import Wide.All
import OpenK.AllK
import Wide.FinOn
import PySem.Challenge.RW_ta0125_01
open PySem PySem.W PySem.W.X PySem.Calls PyProof.Rows
set_option Elab.async false
set_option maxRecDepth 100000
set_option linter.all false
set_option maxHeartbeats 4000000
set_option tactic.hygienic false
set_option genSizeOf false
set_option genInjectivity false
namespace Mine
def E1:=@Nat.le_of_ble_eq_true
def E2:=@Nat.le_trans
def E3:=@Bool.and_eq_true_iff
def E4:=@List.mem_cons_of_mem
def E5:=@wpAny_bind
def E6:=@List.mem_cons_self
def E7:=@List.length_map
def E8:=@congrArg
def E9:=@List.all_eq_true
def J0:=@List.mem_cons
def J3:=@Nat.lt_of_lt_of_le
def N1:=@Nat.le_refl
def N3:=@Int.natCast_nonneg
def N4:=@List.getD_eq_getElem?_getD
def N5:=@List.mem_map
def N6:=@List.getElem?_eq_getElem
def N7:=@wpAny_pure
def N8:=@List.length_append
def N9:=@List.map_append
def X5:=@if_neg
def X6:=@if_pos
def X7:=@Nat.le_of_eq
def X8:=@List.mem_singleton
def X_:=@List.forall_mem_cons
def Ya:=@List.mem_range
def Yb:=@Bool.and_eq_true
def Yc:=@List.append_assoc
def Yd:=@Int.ofNat_lt
def Ye:=@List.map_cons
def Yf:=@List.mem_append
def Yg:=@Nat.le_of_succ_le
def Yh:=@List.mem_of_getElem?
def Yi:=@List.getElem?_map
def Yj:=@Nat.le_sub_one_of_lt
def Yk:=@decide_eq_false
def Yl:=@Nat.le_add_right
def Ym:=@List.getElem?_eq_some_iff
def Yn:=@List.mem_append_left
def Yo:=@Nat.add_le_add_left
def Yp:=@Nat.ne_of_lt
def Yq:=@decide_eq_true_eq
def Yr:=@of_decide_eq_true
def Ys:=@List.filterMap_cons
def Yt:=@Bool.false_ne_true
def Yu:=@List.mem_flatMap
def Yv:=@Nat.lt_of_le_of_lt
def Yw:=@decide_eq_true
def Yx:=@Int.toNat_of_nonneg
def Yy:=@List.length_cons
def Yz:=@wpAny_holding
def YA:=@Nat.le_of_lt
def YB:=@Option.some.inj
def YC:=@List.append_nil
def YD:=@Bool.false_eq_true
def YE:=@Nat.eq_of_beq_eq_true
def YF:=@Int.fmod_nonneg_of_pos
def YG:=@List.nodup_cons
def YH:=@Int.ofNat_le
def YI:=@Int.not_lt
def YJ:=@List.length_drop
def YK:=@Nat.zero_le
def YL:=@List.mem_append_right
def YM:=@Bool.not_eq_true'
def YN:=@List.take_of_length_le
def YO:=@Prod.mk.inj
def YP:=@Nat.le_of_add_right_le
def YQ:=@Nat.zero_add
def YR:=@Nat.le_add_left
def YS:=@List.length_take
def YT:=@Int.lt_trans
def YU:=@List.map_map
def YV:=@Int.fmod_lt_of_pos
def YW:=@Nat.add_assoc
def YX:=@List.lookup_cons
def YY:=@List.any_eq_true
def YZ:=@Nat.le_of_not_lt
def Y0:=@Int.add_le_add_left
def Y1:=@beq_iff_eq
def Y2:=@BindsTo.of_defaults
def Y3:=@Nat.lt_of_lt_of_eq
def Y4:=@Nat.lt_succ_self
def Y5:=@List.not_mem_nil
def Y6:=@Nat.le_succ_of_le
def Y7:=@Nat.le_of_lt_succ
def Y8:=@List.map_take
def Y9:=@List.map_drop
def Y_:=@if_false
def Y':=@Int.le_trans
def Za:=@List.count_cons
def Zb:=@Int.lt_of_lt_of_le
def Zc:=@Int.eq_ofNat_of_zero_le
def Zd:=@List.cons_append
def Ze:=@Int.toNat_lt
def Zf:=@Nat.lt_succ_of_lt
def Zg:=@Int.toNat_natCast
def Zh:=@List.length_range
def Zi:=@List.take_add_one
def Zj:=@List.count_append
def Zk:=@List.getElem?_eq_none
def Zl:=@builtinLookup_eq_fast
def Zm:=@List.mem_iff_getElem?
def Zn:=@Nat.ne_of_gt
def Zo:=@Nat.add_right_comm
def Zp:=@Nat.succ_le_succ
def Zq:=@List.mem_of_mem_drop
def Zr:=@Nat.le_antisymm
def Zs:=@Bool.eq_iff_iff
def Zt:=@Nat.not_lt_zero
def Zu:=@List.nil_append
def Zv:=@Nat.mul_le_mul_left
def Zw:=@List.sublist_cons_self
def Zx:=@wpAny_standAt
def Zy:=@PySem.F.slot_tuple_iterator_next
def Zz:=@List.filter_cons
def ZA:=@List.getElem_mem
def ZB:=@if_true
def ZC:=@Nat.sub_add_cancel
def ZD:=@Nat.le_succ
def ZE:=@Nat.not_lt
def ZF:=@Nat.succ_pos
def ZG:=@Nat.min_eq_left
def ZH:=@List.length_filterMap_le
def ZI:=@List.mem_of_mem_take
def ZJ:=@ne_of_beq_false
def ZK:=@List.Sublist.refl
def ZL:=@List.foldl_append
def ZM:=@Nat.lt_add_of_pos_right
def ZN:=@Array.toList_append
def ZO:=@beq_eq_false_iff_ne
def ZP:=@wpAny_call_entry
def ZQ:=@Nat.add_le_add
def ZR:=@List.take_length
def ZS:=@Exists.elim
def ZT:=@wpAny_field
def ZU:=@Nat.add_comm
def ZV:=@typeLookup_type
def ZW:=@List.take_append_drop
def ZX:=@List.countP_le_length
def ZY:=@List.length_set
def ZZ:=@List.nodup_iff_pairwise_ne
def Z0:=@Int.fdiv_eq_ediv_of_nonneg
def Z1:=@Int.fmod_eq_emod_of_nonneg
def Z2:=@Int.le_add_of_nonneg_right
def Z3:=@Nat.sub_lt_right_of_lt_add
def Z4:=@List.flatMap_cons
def Z5:=@List.map_inj_left
def Z6:=@List.sublist_append_right
def Z7:=@Nat.add_le_add_right
def Z8:=@Option.isSome_iff_exists
def Z9:=@Int.le_of_lt
def Z_:=@List.perm_middle
def aaa:=@decide_eq_decide
def aab:=@List.mem_map_of_mem
def aac:=@List.getElem?_range
def aad:=@List.map_congr_left
def aae:=@List.flatMap_append
def aaf:=@Int.add_lt_add_left
def aag:=@Nat.add_sub_cancel_left
def aah:=@wpAny_callSpecial?_slot
def aai:=@Nat.lt_irrefl
def aaj:=@Int.lt_irrefl
def aak:=@wpAny_pyIter_tuple
def aal:=@Nat.mod_lt
def aam:=@Nat.lt_of_le_of_ne
def aan:=@List.drop_eq_nil_of_le
def aao:=@Array.getElem?_eq_none
def aap:=@Option.map_eq_some_iff
def aaq:=@Nat.le_of_add_left_le
def aar:=@Nat.lt_trans
def aas:=@List.length_filter_le
def aat:=@Nat.add_zero
def aau:=@Int.add_nonneg
def aav:=@Exists.imp
def aaw:=@wpAny_mono
def aax:=@Nat.min_eq_right
def aay:=@Int.ofNat_inj
def aaz:=@Bool.or_eq_true_iff
def aaA:=@Array.length_toList
def aaB:=@List.getElem?_eq_none_iff
def aaC:=@wpAny_loadPart'
def aaD:=@List.length_nil
def aaE:=@List.countP_map
def aaF:=@List.foldl_cons
def aaG:=@Nat.pos_of_ne_zero
def aaH:=@Nat.succ_add_eq_add_succ
def aaI:=@PySem.F.slot_list_append
def aaJ:=@PySem.F.type_list_append
def aaK:=@List.filterMap_map
def aaL:=@or_false
def aaM:=@List.map_nil
def aaN:=@List.idxOf_lt_length_iff
def aaO:=@PySem.W.Fast.te10274390034422433532
def aaP:=@PySem.W.Fast.te14364793385576792824
def aaQ:=@PySem.W.Fast.te14289696077712309145
def aaR:=@PySem.W.Fast.te14082659384304107361
def aaS:=@wpAny_rule
def aaT:=@wpAny_seqItems
def aaU:=@List.nodup_nil
def aaV:=@PySem.F.slot_dict_itemiterator_iter
def aaW:=@Option.map_map
def aaX:=@List.countP_cons_of_pos
def aaY:=@List.countP_cons_of_neg
def aaZ:=@PySem.W.Fast.te1435165496053646825
def aa0:=@PySem.W.Fast.te4187177175401517315
def aa1:=@List.nodup_append
def aa2:=@getMethod_builtin
def aa3:=@PySem.F.args_tuple_iterator_next_1
def aa4:=@List.any_eq_false
def aa5:=@List.drop_sublist
def aa6:=@Nat.lt_succ_of_le
def aa7:=@wpAny_pyNext_list_item
def aa8:=@PySem.F.entry_tuple_iterator_next
def aa9:=@wpAny_nextOf_list_item
def aba:=@PySem.F.slot_list_iadd
def abb:=@PySem.F.slot_str_lower
def abc:=@PySem.F.type_str_lower
def abd:=@Int.le_refl
def abe:=@Int.ofNat.inj
def abf:=@BindsTo.of_eq
def abg:=@Nat.min_le_right
def abh:=@List.zipIdx_cons
def abi:=@List.getElem_map
def abj:=@List.take_eq_take_min
def abk:=@wpAny_pyNext_list_end
def abl:=@List.lookup_cons_self
def abm:=@typeIs_str
def abn:=@List.length_take_le'
def abo:=@List.forIn_cons
def abp:=@F.slot_zip_next
def abq:=@call_meets
def abr:=@Nat.pow_le_pow_right
def abs:=@List.Nodup.length_le_of_subset
def abt:=@Nat.testBit_and
def abu:=@List.count_cons_self
def abv:=@Array.mem_toList_iff
def abw:=@Nat.add_sub_cancel'
def abx:=@Nat.add_lt_add_left
def aby:=@PySem.SeqAt.notIn_list_reads
def abz:=@Nat.mul_le_mul
def abA:=@List.mem_zipIdx_iff_getElem?
def abB:=@List.count_nil
def abC:=@List.getElem?_drop
def abD:=@List.filterMap_nil
def abE:=@List.pairwise_cons
def abF:=@List.getElem_idxOf
def abG:=@List.any_cons
def abH:=@List.pairwise_map
def abI:=@wpAny_pyIter_list
def abJ:=@wpAny_newObj_type
def abK:=@Bool.eq_false_iff
def abL:=@Option.some.injEq
def abM:=@not_false_eq_true
def abN:=@List.countP_congr
def abO:=@Int.not_le
def abP:=@codeAny_mono
def abQ:=@Nat.le_total
def abR:=@Nat.succ.inj
def abS:=@Nat.succ_lt_succ
def abT:=@Nat.zero_lt_succ
def abU:=@List.any_map
def abV:=@Option.getD_some
def abW:=@Nat.succ_add
def abX:=@Nat.pow_succ
def abY:=@wpAny_execs_nil
def abZ:=@Bool.or_eq_true
def ab0:=@List.cons.injEq
def ab1:=@Int.natCast_add
def ab2:=@List.range_succ
def ab3:=@List.mem_filter
def ab4:=@Int.le_antisymm
def ab5:=@List.take_left'
def ab6:=@wpAny_of_eq
open List(all_cons drop drop_zero filter filterMap flatMap flatten foldl_nil getD length map map_tail range' replicate reverse sum_cons take)
open PyData(canLay0 canLayAll0 depth depthAll eqv eqvAll keyHash)
open Prod(fst snd)
open Builtin.Range(rangeSize)
open Builtin.SmallTypes(nextOf ownedTupleIsFree)
open PySem.SeqAt(EqAt shaped)
open Int(fdiv fmod lt_succ natAbs toNat)
open Float64(add decode div divmod isFinite isInf isZero mul ofFrac ofInt)
open Nat(beq ble blt max_lt not_le sub_le)
open NameKind(globalImplicit)
open Option(toList)
noncomputable section
section
set_option tactic.hygienic true
section
structure FI where
 name:Str
 params:Arguments
 body:FuncBody
 scope:Scope
 deriving Inhabited
noncomputable def Nf(s:Stmt):FI:=if h:s.ctorIdx=0 then Stmt.FunctionDef.elim (motive_2:=fun O=>FI) s h fun name args body O O O scope O O O=> ⟨name,args,.stmts body,scope⟩ else default
noncomputable def Gc(s:Stmt):List Stmt:=if h:s.ctorIdx=2 then Stmt.ClassDef.elim (motive_2:=fun O=>List Stmt) s h fun O O O body O O O O O O O=>body else []
inductive BI | len | range | sum | max | min | sorted | str | int | isinstance | enumerate | zip | type | list deriving Inhabited
noncomputable def BI.val:BI→Value
 | .len=> .builtin "len" | .range=> .type "range" | .sum=> .builtin "sum" | .max=> .builtin "max" | .min=> .builtin "min" | .sorted=> .builtin "sorted"
 | .str=> .type "str" | .int=> .type "int" | .isinstance=> .builtin "isinstance" | .enumerate=> .type "enumerate" | .zip=> .type "zip" | .type=> .type "type" | .list=> .type "list"
inductive GV where
 | b (x:BI)
 | v (x:Value)
 | i (n:Int) (t:Tok)
 deriving Inhabited
noncomputable def GV.val:GV→Value
 | .b x=>x.val
 | .v x=>x
 | .i n t=> .int n t
structure Lay where
 ad:Nat→Addr
 t1:Tok
 t2:Tok
 N:Addr
 mN:Str→Option Value
 am:Nat→Addr
 d0:Addr
 dd:Nat→Addr
 dk:Nat→Addr
 es:Array DictEntry
 en:Nat
 lp:Nat→Addr
noncomputable def GX(y:Lay):List (Str×GV):=
 ("len",.b .len)::
 ("range",.b .range)::
 ("sum",.b .sum)::
 ("max",.b .max)::
 ("min",.b .min)::
 ("sorted",.b .sorted)::
 ("str",.b .str)::
 ("int",.b .int)::
 ("isinstance",.b .isinstance)::
 ("enumerate",.b .enumerate)::
 ("zip",.b .zip)::
 ("type",.b .type)::
 ("list",.b .list)::
 ("bisect_right",.v (.ref (y.ad 9)))::
 ("insort_left",.v (.ref (y.ad 10)))::
 ("bisect_left",.v (.ref (y.ad 11)))::
 ("rgb_to_hls",.v (.ref (y.ad 13)))::
 ("rgb_to_hsv",.v (.ref (y.ad 14)))::
 ("hsv_to_rgb",.v (.ref (y.ad 15)))::
 ("ISTERMINAL",.v (.ref (y.ad 68)))::
 ("ISNONTERMINAL",.v (.ref (y.ad 69)))::
 ("ISEOF",.v (.ref (y.ad 70)))::
 ("_law_either",.v (.ref (y.ad 72)))::
 ("_law_claim",.v (.ref (y.ad 73)))::
 ("_law_written",.v (.ref (y.ad 74)))::
 ("_law_proved",.v (.ref (y.ad 75)))::
 ("_law_net",.v (.ref (y.ad 76)))::
 ("_law_paired",.v (.ref (y.ad 77)))::
 ("_law_hangs",.v (.ref (y.ad 78)))::
 ("_law_hues",.v (.ref (y.ad 79)))::
 ("_law_crossed",.v (.ref (y.ad 80)))::
 ("Headers",.v (.ref (y.ad 100)))::
 ("EXACT_TOKEN_TYPES",.v (.ref (y.ad 101)))::
 ("_name_disallowed_re",.v (.ref (y.ad 102)))::
 ("_value_disallowed_re",.v (.ref (y.ad 103)))::
 ("NT_OFFSET",.i 256 y.t1)::
 ("ENDMARKER",.i 0 y.t2):: []
noncomputable def s8(i:Nat):FI:=Nf (PySem.Challenge.pw_ta0125_01.main.body.getD i default)
noncomputable def fm(j:Nat):FI:=Nf ((Gc (PySem.Challenge.pw_ta0125_01.main.body.getD 7 default)).getD j default)
noncomputable def yy:List Nat:=[14,10,4,1,1,22,0,31,16,127,0,13,7,22,0,31,16,127,0,1]
noncomputable def yz:List Nat:=[14,14,4,1,1,9,4294966783,0,0,2147483648,0,0,0,0,0,13,11,9,4294966783,0,0,2147483648,0,0,0,0,0,1]
noncomputable def bS:List Str:=["(",")","[","]",":",",",";","+","-","*","/","|","&","<",">","=",".","%","{","}","==","!=","<=",">=","~","^","<<",">>","**","+=","-=","*=","/=","%=","&=","|=","^=","<<=",">>=","**=","//","//=","@","@=","->","...",":=","!"].map Str.ofString
noncomputable def bo(es:Array DictEntry)(x:Str):Option Value:=findBy Value.isStrOf es x
noncomputable def yA(h:Heap)(a:Addr):Array DictEntry:=match h.get? a with | some o=> (match o.data with | .dict es _=>es | _=> #[]) | none=> #[]
noncomputable def Ku(h:Heap)(a:Addr):Nat:=match h.get? a with | some o=> (match o.data with | .dict _ n=>n | _=>0) | none=>0
noncomputable abbrev oo(h:Heap)(a:Addr):Str→Option Value:=nsFind (yA h a)
noncomputable def s9(es:Array DictEntry):Bool:=es.toList.all fun e=>match e.key with | .str _ _=>true | _=>false
noncomputable def valsOk(l:List DictEntry):Bool:=l.all fun e=>match e.val with
 | .int c _=>decide (7≤c∧c≤54)
 | _=>false
noncomputable def iJ(a:Addr):Bool:=a==291||a==308
noncomputable def hO(h:Heap)(a:Addr):Bool:=!iJ a&& (match h.get? a with | some o=> (match o.data with | .dict _ _=>true | _=>false) | none=>false)&&s9 (yA h a)
structure BV where
 name:Str
 qual:Str
 params:Arguments
 body:FuncBody
 scope:Scope
 globals:Addr
 closure:List (Str×Addr)
 d:Value
 k:Value
 builtins:Addr
 cq:Option Str
 fn:Bool
noncomputable def yB(h:Heap):Value→Option Str
 | .ref c=>if iJ c then none else(match h.get? c with | some o=> (match o.data with | .fields (vs:Array Value)=> (match(vs[1]?:Option Value) with | some (.str q _)=>some q | _=>none) | _=>none) | none=>none)
 | _=>none
noncomputable def uL(h:Heap)(a:Addr):Option BV:=match h.get? a with
 | some o=> (match o.data with | .func fd=>some ⟨fd.name,fd.qualname,fd.params,fd.body,fd.scope,fd.globals,fd.closure,fd.defaults,fd.kwdefaults,fd.builtins,yB h fd.code,(match o.cls with | .type t=>t== "function" | _=>false)⟩ | _=>none)
 | none=>none
noncomputable def codeAt(h:Heap)(a:Addr):Value:=match h.get? a with
 | some o=> (match o.data with | .func fd=>fd.code | _=> .none)
 | none=> .none
noncomputable def oq(f:FI)(q:Str)(d k:Value):BV:=⟨f.name,q,f.params,f.body,f.scope,mainGlobals,[],d,k,builtinsNs,some q,true⟩
noncomputable def yC(e:DictEntry):Option Str×Int:=(match e.key with | .str x _=>some x | _=>none,e.hash)
noncomputable def s_(h:Heap):Bool:=match h.get? 235 with | some ⟨.type t,none,.dict _ _,sl⟩=>t== "dict" &&sl.size==0 | _=>false
noncomputable def BW(es:Array DictEntry):Bool:=(List.range 48).all fun k=>match bo es (bS.getD k ⟨#[]⟩) with
 | some (.int c _)=>c==7+(k:Int)
 | _=>false
noncomputable def BX(es:Array DictEntry):Bool:=es.toList.all fun e=>match e.key with
 | .str x _=>bS.contains x
 | _=>false
noncomputable def lk(l:List (Nat×Addr))(i:Nat):Addr:=(l.lookup i).getD 0
noncomputable def IZ:List (Nat×Addr):=[(9,195),(10,204),(11,213),(13,220),(14,227),(15,234),(68,244),(69,251),(70,258),(72,265),(73,272),(74,279),(75,284),(76,289),(77,294),(78,299),(79,306),(80,311),(81,316),(100,182),(101,235),(102,48),(103,53)]
noncomputable def I0:List (Nat×Addr):=[(0,76),(1,83),(7,121),(16,179)]
noncomputable def MX:List (Nat×Addr):=[(9,187),(10,196),(11,205)]
noncomputable def MY:List (Nat×Addr):=[(9,188),(10,197),(11,206)]
noncomputable def VO:List (Nat×Addr):=[(9,554),(10,568),(11,581)]
noncomputable def yl(m:Str→Option Value)(es:Array DictEntry)(en:Nat):Lay:=⟨lk IZ,748,650,181,m,lk I0,69,lk MX,lk MY,es,en,lk [(77,291),(80,308)]⟩
noncomputable def FL:List (Nat×String):=(81,"law"):: [(72,"_law_either"),(73,"_law_claim"),(74,"_law_written"),(75,"_law_proved"),(76,"_law_net"),(77,"_law_paired"),(78,"_law_hangs"),(79,"_law_hues"),(80,"_law_crossed"),(13,"rgb_to_hls"),(14,"rgb_to_hsv"),(15,"hsv_to_rgb"),(68,"ISTERMINAL"),(69,"ISNONTERMINAL"),(70,"ISEOF")]
noncomputable def BL:List (Nat×String):=[(9,"bisect_right"),(10,"insort_left"),(11,"bisect_left")]
noncomputable def ML:List (Nat×String):=[(0,"__init__"),(1,"_convert_string_type"),(7,"get_all"),(16,"add_header")]
noncomputable def RL(j:Nat):Value:=if j=0 then .ref 69 else .none
noncomputable def T_:List (Str×GV):=GX (yl (fun O=>none) #[] 0)
noncomputable def Ng(h:Heap):List Bool:=[hO h 0,hO h 2,hO h 3,hO h 181,hO h 188,hO h 197,hO h 206,s_ h,valsOk (yA h 235).toList,BW (yA h 235),BX (yA h 235),(bo (yA h 235) ⟨#[]⟩).isNone,(h.get? sysModules).isSome]
noncomputable def Nh(h:Heap):List (Option Value×Option Value):=T_.map fun p=> (oo h 3 p.1,oo h 0 p.1)
noncomputable def I1:List (Option Value×Option Value):=T_.map fun p=>match p.2 with | .b b=> (none,some (GV.b b).val) | v=> (some v.val,none)
noncomputable def Ni(h:Heap):List (Option Value):=[oo h 3 "__builtins__",oo h 3 (Str.ofString "law"),oo h 2 "sys.recursionlimit",oo h 2 sharingNotToldKey,oo h 181 "__getattribute__",oo h 181 "__getattr__",oo h 181 "__setattr__",oo h 181 (Str.ofString "_headers"),some (codeAt h 294),some (codeAt h 311)]
noncomputable def I2:List (Option Value):=[some (.ref 4),some (.ref 316),none,none,none,none,none,none,some (.ref 293),some (.ref 310)]
noncomputable def Nj(h:Heap):List (Option BV):=FL.map fun p=>uL h (lk IZ p.1)
noncomputable def BY:List (Option BV):=FL.map fun p=>some (oq (s8 p.1) (Str.ofString p.2) .none .none)
noncomputable def Nk(h:Heap):List (Option BV×Option Value):=ML.map fun p=> (uL h (lk I0 p.1),oo h 181 (Str.ofString p.2))
noncomputable def I3:List (Option BV×Option Value):=ML.map fun p=> (some (oq (fm p.1) (Str.ofString ("Headers." ++p.2)) (RL p.1) .none),some (.ref (lk I0 p.1)))
noncomputable def Nl(h:Heap):List (Option BV×Option Obj×Option Value):=BL.map fun p=> (uL h (lk IZ p.1),h.get? (lk MX p.1),oo h (lk MY p.1) (Str.ofString "key"))
noncomputable def I4:List (Option BV×Option Obj×Option Value):=BL.map fun p=> (some (oq (s8 p.1) (Str.ofString p.2) (.ref (lk MX p.1)) (.ref (lk MY p.1))),some {cls:= .type "tuple",data:= .seq #[.int 0 (lk VO p.1),.none] },some .none)
noncomputable def Nm:Obj:= {cls:= .type "code",data:= .fields #[.str (Str.ofString "_law_paired") 916,.str (Str.ofString "_law_paired") 917,.str (Str.ofString "/claim/cut.py") 918,.int 317 0,.int 1 0,.int 0 0,.int 0 0,.int 3 0,.ref 290,.bool true,.int 276 0,.ref 291,.none,.none,.none,.ref 292,.int 919 0,.int 317 0,.str (Str.ofString "/claim/cut.py") 920] }
noncomputable def Nn:Obj:= {cls:= .type "code",data:= .fields #[.str (Str.ofString "_law_crossed") 950,.str (Str.ofString "_law_crossed") 951,.str (Str.ofString "/claim/cut.py") 952,.int 352 0,.int 3 0,.int 0 0,.int 0 0,.int 3 0,.ref 307,.bool true,.int 276 0,.ref 308,.none,.none,.none,.ref 309,.int 953 0,.int 352 0,.str (Str.ofString "/claim/cut.py") 954] }
noncomputable def Kv(h:Heap):List (Option Obj):=[h.get? 182,h.get? 48,h.get? 47,h.get? 53,h.get? 52,h.get? 4,h.get? 69,h.get? 291,h.get? 308,h.get? 293,h.get? 310]
noncomputable def No(c:List Nat):Option Obj:=some {cls:= .type "tuple",data:= .seq (c.map fun n:Nat=>Value.int n 0).toArray }
noncomputable def BZ:List (Option Obj):=[some ({cls:= .type "type",data:= .cls {name:=Str.ofString "Headers",bases:=[.type "object"],mro:=[.ref 182,.type "object"],ns:=181,qualname:=Str.ofString "Headers" },slots:= #[none,none,some (.str (Str.ofString "Headers") 395),some (.str (Str.ofString "Headers") 403),some (.builtin "object.__new__"),some (.bool true)] }),some ({cls:= .type "re.Pattern",data:= .fields #[.str (Str.ofString "[\\x00-\\x1F\\x7F]") 326,.int 32 349,.int 0 0,.none,.none,.ref 47,.int 0 0] }),No yy,some ({cls:= .type "re.Pattern",data:= .fields #[.str (Str.ofString "[\\x00-\\x08\\x0A-\\x1F\\x7F]") 352,.int 32 383,.int 0 0,.none,.none,.ref 52,.int 0 0] }),No yz,some {cls:= .type "module",dict:=some 0 },some {cls:= .type "tuple",data:= .seq #[.none] },some (tableObj #[]),some (tableObj #[]),some Nm,some Nn]
noncomputable def yD:List Str:=(["!","!=","%","%=","&","&=","(",")","*","**","**=","*=","+","+=",",","-","-=","->",".","...","/","//","//=","/=",":",":=",";","<","<<","<<=","<=","=","==",">",">=",">>",">>=","@","@=","[","]","^","^=","{","|","|=","}","~"]:List String).map Str.ofString
noncomputable abbrev Ob:=List Bool×List (Option Value×Option Value)×List (Option Value)×List (Option BV)×List (Option BV×Option Value)×List (Option BV×Option Obj×Option Value)×List (Option Obj)×List (Option Str×Int)×Nat×Nat
noncomputable def Kw(s:Shared):Ob:=(Ng s.heap,Nh s.heap,Ni s.heap,Nj s.heap,Nk s.heap,Nl s.heap,Kv s.heap,(yA s.heap 235).toList.map yC,s.heap.objs.size,s.toks)
noncomputable def B0(w:World):Ob:=(replicate 13 true,I1,I2,BY,I3,I4,BZ,yD.map (fun x=> (some x,keyHash w.params x)),317,962)
noncomputable abbrev pw:Program:=PySem.Challenge.pw_ta0125_01
noncomputable abbrev R1:=PySem.Challenge.rw_ta0125_01.row
noncomputable def q1:Program:=view pw [81]
noncomputable def wL:List Str:=(pw.main.scope.names.map (·.1)).filter fun x=>!(x==Str.ofString "law")
abbrev B1(w:World):Prop:=(openEnds treeTable R1.prog w 6346).map (fun s=> (openSeen q1 wL (importedModules R1.prog.main.body) (fun s=>recOk R1.toRowW.records s) true s,Kw s))=some (openGood q1 wL,B0 w)
theorem Np:PySem.Challenge.rw_ta0125_01.wellSaid=true:=by kernel_rfl
theorem RM:∃d Nq,defOf q1 R1.name=some (d,Nq)∧R1.prog.theDef R1.name=some (d.params,d.body,d.scope)∧kwWritten? d.params.kwonlyargs d.params.kw_defaults=some Nq:=by
 have h:((defOf q1 R1.name).map fun x=> (some (x.1.params,x.1.body,x.1.scope),kwWritten? x.1.params.kwonlyargs x.1.params.kw_defaults))=(defOf q1 R1.name).map fun x=> (R1.prog.theDef R1.name,some x.2):=by kernel_rfl
 have h2:(defOf q1 R1.name).isSome=true:=by kernel_rfl
 obtain⟨⟨d,Nq⟩,e⟩:=Z8.mp h2
 rw[e] at h
 have h':=YB h
 exact⟨d,Nq,e,(E8 fst h').symm,E8 snd h'⟩
theorem VP:(chainsOk q1&&opensWell R1.prog&& (frees R1.toRowW&&R1.within.isEmpty))=true:=by kernel_rfl
theorem RN(w:World):B1 (w.withFollow "special-get-raises" false):=by
 unfold B1 openEnds fencedOpening topFrom
 rw[aaO,aaP,aaZ,aaQ,aaR,aa0]
 kernel_rfl
theorem RO(w:World):B1 (w.withFollow "special-get-raises" true):=by
 unfold B1 openEnds fencedOpening topFrom
 rw[aaO,aaP,aaZ,aaQ,aaR,aa0]
 kernel_rfl
theorem Nr:LeftO R1.prog q1 wL (fun s=>recOk R1.toRowW.records s) Kw B0 6346:=fun w=>byRow2 "special-get-raises" (P:=fun w=>B1 w) RN RO w
end
end
section
set_option tactic.hygienic true
theorem lH{M:Model}{Γ:Ctx}{t:Sem Fin}{fs:List Frame}{e:End}(h:Runs M Γ p t fs s e s'):s.toks≤s'.toks:=by
 induction h
 all_goals first
  | exact N1 _
  | assumption
  |(rename_i h1 h2;exact E2 h1 h2)
  |(rename_i h1;exact E2 (ZD _) h1)
  |(rename_i h1 h2 h3;exact E2 h1 h3)
  |(rename_i h1 _ h2;exact E2 h1 h2)
  | skip
theorem wM{M:Model}{Γ:Ctx}{g:Nat}{r:Resume}{res:GenResult}(h:Wakes M Γ p g r s res s'):s.toks≤s'.toks:=by
 unfold Wakes at h
 split at h
 ·exact h.elim
 ·split at h
  ·obtain⟨e1,s1,h1,_,_,rfl⟩:=h
   have:=lH h1
   exact this
  ·rw[h.2];exact N1 _
  ·rw[h.2];exact N1 _
 ·obtain⟨e1,s1,h1,_,_,rfl⟩:=h
  have:=lH h1
  exact this
 ·rw[h.2];exact N1 _
 ·rw[h.2];exact N1 _
theorem Ge{M:Model}{Γ:Ctx}{X:Type}(n:Nat){E:Value→Pos→Shared→Prop}{Q:X→Pos→Shared→Prop}(t:Sem X)(p:Pos)(s:Shared)(hn:n≤s.toks)(h:Sem.wp M Γ t (fun a p' s'=>n≤s'.toks→Q a p' s') E p s):Sem.wp M Γ t Q E p s:=by
 revert h
 induction t generalizing p s with
 | pure x=>exact fun h=>h hn
 | raise v=>exact id
 | unsupported | finish | yield | fork | await | register=>exact id
 | rule _ k ih | «at» _ k ih | alloc _ k ih | loadIfAlive _ k ih | point _ k ih | ask k ih | os _ _ k ih | handled _ k ih | newGen _ k ih | stack k ih | thread k ih=>exact ih _ _ _ hn
 | fresh k ih=>exact ih _ _ _ (Y6 hn)
 | load a _ k ih | genState a k ih=>exact fun⟨o,ho,h⟩=> ⟨o,ho,ih _ _ _ hn h⟩
 | update a _ f k ih | choose _ _ k ih=>exact fun⟨ha,h⟩=> ⟨ha,ih _ _ _ hn h⟩
 | call c h g l k ih=>exact fun⟨r,s',hr,h⟩=> ⟨r,s',hr,ih r p s' (E2 hn (lH hr)) h⟩
 | resume g r l k ih=>exact fun⟨res,s',hw,h⟩=> ⟨res,s',hw,ih _ _ _ (E2 hn (wM hw)) h⟩
theorem cQ{M:Model}{X:Type}{t:Sem X}{Q:X→Shared→Prop}{E:Value→Shared→Prop}{s:Shared}(h:wpAny M A t (fun a s'=>s.toks≤s'.toks→Q a s') E s):wpAny M A t Q E s:=
 fun Γ p hΓ=>Ge s.toks t p s (N1 _) (h Γ p hΓ)
end
section
theorem qM{α:Type}{x:Option α}{a:α}(e:x=none)(e':x=some a):False:=nomatch e.symm.trans e'
theorem nt:∀ {b:Bool},(!b)=true→b=false
 | false,_=>rfl
noncomputable abbrev PM:=Addr→Option Obj
noncomputable def PM.put(F:PM)(a:Addr)(o:Obj):PM:=fun b=>if b=a then some o else F b
theorem PM.cR(F:PM)(a:Addr)(o:Obj):F.put a o a=some o:=by simp[PM.put]
theorem PM.cw(F:PM){a b:Addr}(o:Obj)(h:b≠a):F.put a o b=F b:=by simp[PM.put,h]
theorem PM.uM{F:PM}{a b:Addr}(e:F.put a o b=some o'):(b=a∧o=o')∨(b≠a∧F b=some o'):=by
 by_cases h:b=a
 ·exact .inl ⟨h,YB ((X6 h).symm.trans e)⟩
 ·exact .inr ⟨h,(X5 h).symm.trans e⟩
structure FM where
 P:PM
 f:PM
structure FM.le(F G:FM):Prop where
 P:G.P=F.P
 f:∀a o,F.f a=some o→G.f a=some o
theorem FM.le.refl(F:FM):FM.le F F:=⟨rfl,fun O O e=>e⟩
theorem FM.le.trans{F G H:FM}(x:FM.le F G)(y:FM.le G H):FM.le F H:=⟨y.P.trans x.P,fun a o e=>y.f a o (x.f a o e)⟩
noncomputable def FM.put(F:FM)(a:Addr)(o:Obj):FM:=⟨F.P,F.f.put a o⟩
theorem FM.cR(F:FM)(a:Addr)(o:Obj):(F.put a o).f a=some o:=PM.cR ..
theorem FM.cw(F:FM){a b:Addr}(o:Obj)(h:b≠a):(F.put a o).f b=F.f b:=PM.cw _ _ h
theorem FM.eW{F:FM}{a:Addr}(h:F.f a=none):FM.le F (F.put a o):=⟨rfl,fun b o' e=>by
 by_cases hb:b=a
 ·subst hb;rw[h] at e;cases e
 ·rw[FM.cw _ _ hb];exact e⟩
inductive AV where
 | none
 | bool (b:Bool)
 | int (i:Int)
 | aT (x:UInt64)
 | str (x:Str)
 | val (v:Value)
 | tup (l:List AV)
 | lst (l:List AV)
 | fx (l u s:AV)
 | fn (f:FI) (qual:Str) (fZ:List (Str×Addr))
 | B2 (a b c:Int)
 deriving Inhabited
noncomputable abbrev cE(items:Array Value)(n:Nat):Obj:= {cls:= .type "list",data:= .seq items n }
noncomputable abbrev gv(items:Array Value)(n:Nat):Obj:= {cls:= .type "tuple",data:= .seq items n }
noncomputable abbrev B3(a b c:Value):Obj:= {cls:= .type "slice",data:= .fields #[a,b,c] }
inductive eN(F:FM)(cd:Value)(q:Str):Prop
 | mk (c:Addr) (o:Obj) (vs:Array Value) (t:Tok) (e:cd= .ref c) (h:F.f c=some o) (d:o.data= .fields vs) (x:vs[1]? =some (.str q t))
abbrev FM.lf(F G:FM):Prop:= ∀a o,F.f a=some o→G.f a=some o
theorem eN.bA{F G:FM}(h:FM.lf F G){q:Str}(x:eN F cd q):eN G cd q:=
 x.rec fun c o vs t a b d e=> ⟨c,o,vs,t,a,h _ _ b,d,e⟩
noncomputable def Kx(f:FI)(qual:Str)(fZ:List (Str×Addr))(doc pm:Value)(an:Option Addr)(d9 ct:Value):FuncData:=
 {name:=f.name,qualname:=qual,params:=f.params,body:=f.body,scope:=f.scope,globals:=mainGlobals,closure:=fZ,defaults:= .none,kwdefaults:= .none,doc:=doc,pyModule:=pm,annotations:=an,code:=d9,closureTuple:=ct,builtins:=builtinsNs }
inductive yE(F:FM)(mk:Array Value→Nat→Obj)(R:List Value→Prop)(v:Value):Prop
 | mk (a:Addr) (items:Array Value) (n:Nat) (e:v= .ref a) (h:F.f a=some (mk items n)) (r:R items.toList)
inductive Nt(F:FM)(a b c:Int)(v:Value):Prop
 | mk (r:Addr) (t u w:Tok) (e:v= .ref r) (h:F.f r=some {cls:= .type "range",data:= .fields #[.int a t,.int b u,.int c w] })
inductive Nu(F:FM)(f:FI)(qual:Str)(fZ:List (Str×Addr))(v:Value):Prop
 | mk (a:Addr) (o:Obj) (doc pm:Value) (an:Option Addr) (d9 ct:Value) (e:v= .ref a) (h:F.f a=some o) (d:o.data= .func (Kx f qual fZ doc pm an d9 ct)) (c:eN F d9 qual)
inductive Q4(F:FM)(x y z:Value→Prop)(v:Value):Prop
 | mk (a:Addr) (p q r:Value) (e:v= .ref a) (h:F.f a=some (B3 p q r)) (x:x p) (y:y q) (z:z r)
inductive iW(x:Value→Prop)(y:List Value→Prop)(l:List Value):Prop
 | mk (v:Value) (r:List Value) (e:l=v::r) (x:x v) (y:y r)
mutual
def VR(F:FM):AV→Value→Prop
 | .none,v=>v= .none
 | .bool b,v=>v= .bool b
 | .int i,v=> ∃t,v= .int i t
 | .aT x,v=> ∃t,v= .float x t∧t≠0
 | .str x,v=> ∃t,v= .str x t
 | .val u,v=>v=u
 | .tup l,v=>yE F gv (be F l) v
 | .lst l,v=>yE F cE (be F l) v
 | .B2 a b c,v=>Nt F a b c v
 | .fn f qual fZ,v=>Nu F f qual fZ v
 | .fx x y z,v=>Q4 F (VR F x) (VR F y) (VR F z) v
def be(F:FM):List AV→List Value→Prop
 | [],vs=>vs=[]
 | x::xs,vs=>iW (VR F x) (be F xs) vs
end
theorem iX{F:FM}:be F [] []:=rfl
theorem f6{F:FM}{r:List Value}(a:VR F x v)(b:be F xs r):be F (x::xs) (v::r):=iW.mk v r rfl a b
theorem Q5{F:FM}{a:Addr}{items:Array Value}{n:Nat}(h:F.f a=some (gv items n))(r:be F l items.toList):VR F (.tup l) (.ref a):=yE.mk a items n rfl h r
theorem Ky{F:FM}{a:Addr}{items:Array Value}{n:Nat}(h:F.f a=some (cE items n))(r:be F l items.toList):VR F (.lst l) (.ref a):=yE.mk a items n rfl h r
theorem rj(F:FM)(i:Int)(t:Tok):VR F (.int i) (.int i t):=by simp only[VR];exact⟨t,rfl⟩
theorem BG(F:FM)(i:UInt64)(t:Tok)(ht:0<t):VR F (.aT i) (.float i t):=by simp only[VR];exact⟨t,rfl,Zn ht⟩
theorem BH(F:FM)(i:Str)(t:Tok):VR F (.str i) (.str i t):=by simp only[VR];exact⟨t,rfl⟩
theorem BJ(F:FM):VR F .none .none:=by simp only[VR]
theorem ot(F:FM)(b:Bool):VR F (.bool b) (.bool b):=by simp only[VR]
theorem nH(F:FM)(v:Value):VR F (.val v) v:=by simp only[VR]
mutual
theorem VR.bA{F G:FM}(h:FM.lf F G):∀ {x:AV} {v:Value},VR F x v→VR G x v
 | .none,_,e=>e
 | .bool _,_,e=>e
 | .int _,_,e=>e
 | .aT _,_,e=>e
 | .str _,_,e=>e
 | .val _,_,e=>e
 | .tup l,_,e=>yE.rec (motive:=fun O=>yE G gv (be G l) _) (fun a items n e1 e2 e3=> ⟨a,items,n,e1,h _ _ e2,be.bA h e3⟩) e
 | .lst l,_,e=>yE.rec (motive:=fun O=>yE G cE (be G l) _) (fun a items n e1 e2 e3=> ⟨a,items,n,e1,h _ _ e2,be.bA h e3⟩) e
 | .B2 x y z,_,e=>Nt.rec (motive:=fun O=>Nt G x y z _) (fun a p q r e1 e2=> ⟨a,p,q,r,e1,h _ _ e2⟩) e
 | .fn f qual fZ,_,e=>Nu.rec (motive:=fun O=>Nu G f qual fZ _) (fun a o doc pm an d9 ct e1 e2 e3 e4=> ⟨a,o,doc,pm,an,d9,ct,e1,h _ _ e2,e3,e4.bA h⟩) e
 | .fx x y z,_,e=>Q4.rec (motive:=fun O=>Q4 G (VR G x) (VR G y) (VR G z) _) (fun a p q r e1 e2 e3 e4 e5=> ⟨a,p,q,r,e1,h _ _ e2,VR.bA h e3,VR.bA h e4,VR.bA h e5⟩) e
theorem be.bA{F G:FM}(h:FM.lf F G):∀ {xs:List AV} {vs:List Value},be F xs vs→be G xs vs
 | [],_,e=>e
 | x::xs,_,e=>iW.rec (motive:=fun O=>iW (VR G x) (be G xs) _) (fun v r e1 e2 e3=> ⟨v,r,e1,VR.bA h e2,be.bA h e3⟩) e
end
theorem eN.mono{F G:FM}(h:FM.le F G){q:Str}(x:eN F cd q):eN G cd q:=x.bA h.f
theorem VR.mono{F G:FM}(h:FM.le F G)(r:VR F x v):VR G x v:=r.bA h.f
theorem be.mono{F G:FM}(h:FM.le F G){v:List Value}(r:be F x v):be G x v:=r.bA h.f
theorem be.length{F:FM}:∀ {xs:List AV} {vs:List Value},be F xs vs→vs.length=xs.length
 | [],_,e=>by simp only[be] at e;subst e;rfl
 | x::xs,_,e=>by
  simp only[be] at e
  obtain⟨v,r,rfl,_,e3⟩:=e
  simp[e3.length]
theorem be.get{F:FM}:∀ {xs:List AV} {vs:List Value},be F xs vs→∀ {i:Nat} {x:AV},xs[i]? =some x→∃v,vs[i]? =some v∧VR F x v
 | [],_,e,i,x,h=>by simp at h
 | y::xs,_,e,i,x,h=>by
  simp only[be] at e
  obtain⟨v,r,rfl,e2,e3⟩:=e
  cases i with
  | zero=>simp at h;subst h;exact⟨v,by simp,e2⟩
  | succ i=>simp at h;obtain⟨u,hu,hx⟩:=e3.get h;exact⟨u,by simpa using hu,hx⟩
theorem be.append{F:FM}:∀ {xs ys:List AV} {vs us:List Value},be F xs vs→be F ys us→be F (xs++ys) (vs++us)
 | [],_,_,_,e,f=>by simp only[be] at e;subst e;simpa using f
 | x::xs,_,_,_,e,f=>by
  simp only[be] at e
  obtain⟨v,r,rfl,e2,e3⟩:=e
  simp only[Zd,be]
  exact⟨v,_,rfl,e2,e3.append f⟩
theorem be.take{F:FM}:∀ {xs:List AV} {vs:List Value} (n:Nat),be F xs vs→be F (xs.take n) (vs.take n)
 | _,_,0,_=>by simp[be]
 | [],_,n+1,e=>by simp only[be] at e;subst e;simp[be]
 | x::xs,_,n+1,e=>by
  simp only[be] at e
  obtain⟨v,r,rfl,e2,e3⟩:=e
  simp only[List.take_succ_cons,be]
  exact⟨v,_,rfl,e2,e3.take n⟩
theorem be.drop{F:FM}:∀ {xs:List AV} {vs:List Value} (n:Nat),be F xs vs→be F (xs.drop n) (vs.drop n)
 | _,_,0,e=>by simpa using e
 | [],_,n+1,e=>by simp only[be] at e;subst e;simp[be]
 | x::xs,_,n+1,e=>by
  simp only[be] at e
  obtain⟨v,r,rfl,e2,e3⟩:=e
  simpa using e3.drop n
def kh(F:FM):Option AV→Option Value→Prop
 | some x,v=> ∃u,v=some u∧VR F x u
 | none,_=>True
theorem kh.bA{F G:FM}(h:FM.lf F G):∀ {x:Option AV} {v:Option Value},kh F x v→kh G x v
 | some _,_,⟨u,e,r⟩=> ⟨u,e,r.bA h⟩
 | none,_,e=>e
theorem kh.mono{F G:FM}(h:FM.le F G){x:Option AV}{v:Option Value}(r:kh F x v):kh G x v:=r.bA h.f
theorem kh.Kz{F:FM}{v:Option Value}(h:kh F (some x) v):∃u,v=some u∧VR F x u:=h
theorem kh.of{F:FM}(h:VR F x v):kh F (some x) (some v):=⟨v,rfl,h⟩
inductive AO where
 | list (l:List AV)
 | cell (v:Option AV)
 | bq (l:List AV)
 | inst (cls:Value) (vars:List (Str×AV))
 | obj (o:Obj)
 | fz (tu:Bool) (l:List AV) (i:Nat)
 | shell (C dx:Addr)
 | B4 (qF:Addr) (i:Nat)
 deriving Inhabited
def wN(F:FM):Option AV→Option Value→Prop
 | some x,v=> ∃u,v=some u∧VR F x u
 | none,v=>v=none
theorem wN.bA{F G:FM}(h:FM.lf F G):∀ {x:Option AV} {v:Option Value},wN F x v→wN G x v
 | some _,_,⟨u,e,r⟩=> ⟨u,e,r.bA h⟩
 | none,_,e=>e
inductive ou(F:FM)(h:Heap)(a:Addr)(l:List AV):Prop
 | mk (items:Array Value) (n:Nat) (e:h.get? a=some (cE items n)) (r:be F l items.toList)
inductive ow(F:FM)(h:Heap)(a:Addr)(v:Option AV):Prop
 | mk (o:Obj) (u:Option Value) (e:h.get? a=some o) (d:o.data= .cell u) (r:kh F v u)
inductive lI(C dx:Addr)(h:Heap)(a:Addr):Prop
 | mk (o:Obj) (e:h.get? a=some o) (c:o.cls= .ref C) (d:∀c,o.data≠.cls c) (x:o.dict=some dx) (n:dx≠a)
abbrev Nv(tu:Bool)(ax:Addr)(i:Nat)(o:Obj):Prop:=o.cls= .type (cond tu "tuple_iterator" "list_iterator")∧o.data= .fields #[.ref ax,.int i 0]
noncomputable abbrev RP(tu:Bool)(items:Array Value)(n:Nat):Obj:= {cls:= .type (cond tu "tuple" "list"),data:= .seq items n }
inductive np(tu:Bool)(l:List AV)(I:Addr)(i:Nat)(F:FM)(h:Heap):Prop
 | mk (ax:Addr) (items:Array Value) (n:Nat) (o:Obj) (g:h.get? I=some o) (d:Nv tu ax i o) (e:F.f ax=some (RP tu items n)) (r:be F l items.toList)
theorem np.mono{tu:Bool}{I:Addr}{i:Nat}{F G:FM}{h h':Heap}(hF:FM.lf F G)(hh:h'.get? I=h.get? I)(x:np tu l I i F h):np tu l I i G h':=
 x.rec fun ax items n o g d e r=> ⟨ax,items,n,o,hh.trans g,d,hF _ _ e,r.bA hF⟩
def oy(F:FM)(h:Heap)(a:Addr):AO→Prop
 | .list l=>ou F h a l
 | .cell v=>ow F h a v
 | .bq l=> ∃items,h.IsList a items∧be F l items.toList
 | .inst _ vars=> ∃m,h.Ns1 a m∧∀y,wN F (vars.lookup y) (m y)
 | .obj o=>h.get? a=some o
 | .fz tu l i=>np tu l a i F h
 | .shell C dx=>lI C dx h a
 | .B4 qF i=>h.IsListIter a qF i
theorem Heap.IsListIter.at'{h h':Heap}{a ax:Addr}{i:Nat}(x:h.IsListIter a ax i)(hh:h'.get? a=h.get? a):h'.IsListIter a ax i:=aav (fun O e=> ⟨hh.trans e.1,e.2⟩) x
theorem oy.bA{F G:FM}(hF:FM.lf F G){h h':Heap}{a:Addr}(hh:h'.get? a=h.get? a):∀ {o:AO},oy F h a o→oy G h' a o
 | .list _,x=>ou.rec (motive:=fun O=>ou G h' a _) (fun i n e r=> ⟨i,n,hh.trans e,r.bA hF⟩) x
 | .cell _,x=>ow.rec (motive:=fun O=>ow G h' a _) (fun o u e d r=> ⟨o,u,hh.trans e,d,r.bA hF⟩) x
 | .bq _,x=>aav (fun O e=> ⟨aav (fun O e=> ⟨hh.trans e.1,e.2⟩) e.1,e.2.bA hF⟩) x
 | .inst _ _,x=>aav (fun O e=> ⟨e.1.at fun O ho=>hh.trans ho,fun y=> (e.2 y).bA hF⟩) x
 | .obj _,x=>hh.trans x
 | .fz _ _ _,x=>np.mono hF hh x
 | .shell _ _,x=>lI.rec (motive:=fun O=>lI _ _ h' a) (fun o e c d x n=> ⟨o,hh.trans e,c,d,x,n⟩) x
 | .B4 _ _,x=>Heap.IsListIter.at' x hh
theorem oy.mono{F G:FM}(hF:FM.le F G){h h':Heap}{a:Addr}(hh:h'.get? a=h.get? a)(r:oy F h a o):oy G h' a o:=r.bA hF.f hh
theorem oy.there{F:FM}{a:Addr}:∀ {o:AO},oy F h a o→∃ob,h.get? a=some ob
 | .list _,x=>ou.rec (motive:=fun O=> ∃ob,h.get? a=some ob) (fun O O e O=> ⟨_,e⟩) x
 | .cell _,x=>ow.rec (motive:=fun O=> ∃ob,h.get? a=some ob) (fun O O e O O=> ⟨_,e⟩) x
 | .bq _,x=>ZS x fun O e=>aav (fun O e=>e.1) e.1
 | .inst _ _,x=>ZS x fun O e=>ZS e.1 fun O e=>ZS e fun O e=>ZS e fun O e=> ⟨_,e.1⟩
 | .obj _,x=> ⟨_,x⟩
 | .fz _ _ _,x=>np.rec (motive:=fun O=> ∃ob,h.get? a=some ob) (fun O O O O e O O O=> ⟨_,e⟩) x
 | .shell _ _,x=>lI.rec (motive:=fun O=> ∃ob,h.get? a=some ob) (fun O e O O O O=> ⟨_,e⟩) x
 | .B4 _ _,x=>aav (fun O e=>e.1) x
noncomputable abbrev Mem:=List (Addr×AO)
noncomputable abbrev dL:=List (Str×Option AV)
structure AS where
 vars:dL
 mem:Mem
inductive iY(F:FM)(h:Heap)(P:Addr)(q:Str):Prop
 | mk (vs:Array Value) (e:h.get? P=some (tableObj vs)) (t:TriplesOk vs.toList) (c:∀pos c,codeAmong pos vs.toList=some c→eN F c q)
theorem iY.bA{F G:FM}(hF:FM.lf F G){h h':Heap}{P:Addr}{q:Str}(hh:h'.get? P=h.get? P)(x:iY F h P q):iY G h' P q:=
 x.rec fun vs a d b=> ⟨vs,hh.trans a,d,fun pos c e=> (b pos c e).bA hF⟩
theorem iY.wO{F G:FM}(h:G.f=F.f){P:Addr}{q:Str}(x:iY F hp P q):iY G hp P q:=x.bA (fun O O e=>h▸e) rfl
theorem iY.mono{F G:FM}(hF:FM.le F G){h h':Heap}{P:Addr}{q:Str}(hh:h'.get? P=h.get? P)(x:iY F h P q):iY G h' P q:=x.bA hF.f hh
structure Gd where
 prog:Program
 w:World
 K:FM
 os:OsState
 tabs:List (Addr×Str)
 L:Addr
 A:Around
 n:Nat
 gl:Str→Option Value
 bl:Str→Option Value
 KA:∀h:Heap,(∀a o,K.f a=some o→h.get? a=some o)→h.Ns mainGlobals gl
 T':∀h:Heap,(∀a o,K.f a=some o→h.get? a=some o)→h.Ns builtinsNs bl
 KB:∀h:Heap,(∀a o,K.f a=some o→h.get? a=some o)→h.NoLimit
 hh:A.handled=none
 hd:A.depth+n<1000
 hu:A.units+8*n<9900
structure RepM(g:Gd)(F:FM)(mem:Mem)(s:Shared):Prop where
 tk:0<s.toks
 hP:∀a o,F.P a=some o→s.heap.get? a=some o
 hF:∀a o,F.f a=some o→s.heap.get? a=some o
 hK:∀a o,g.K.f a=some o→F.f a=some o
 pf:∀a o,F.P a=some o→F.f a=none
 hm:∀p∈mem,oy F s.heap p.1 p.2
 ap:∀p∈mem,F.P p.1=none∧F.f p.1=none
 nd:(mem.map (·.1)).Nodup
 gens:s.gens=#[]
 os:s.os=g.os
 tab:∀t∈g.tabs,iY F s.heap t.1 t.2
 cM:∀t∈g.tabs,F.P t.1=none∧F.f t.1=none∧∀p∈mem,p.1≠t.1
structure Rep(g:Gd)(F:FM)(st:AS)(s:Shared):Prop extends RepM g F st.mem s where
 ns:∃m,s.heap.Ns g.L m∧∀p∈st.vars,kh F p.2 (m p.1)
 nv:(st.vars.map (·.1)).Nodup
 gH:F.P g.L=none
 gL:F.f g.L=none
 fX:∀p∈st.mem,p.1≠g.L
 gI:∀t∈g.tabs,t.1≠g.L
def W0(g:Gd){α β:Type}(R:FM→β→α→Prop)(t:Sem α)(st:AS)(Q:β→AS→Prop):Prop:=
 ∀F s,Rep g F st s→∀(K:α→Shared→Prop) (E:Value→Shared→Prop),
  (∀F' b a cg s',FM.le F F'→Rep g F' cg s'→R F' b a→Q b cg→K a s')→wpAny (model g.prog g.w) g.A t K E s
def W1(g:Gd){α β:Type}(R:FM→β→α→Prop)(f:Value→Sem α)(x:AV)(st:AS)(Q:β→AS→Prop):Prop:=
 ∀F s v,Rep g F st s→VR F x v→∀(K:α→Shared→Prop) (E:Value→Shared→Prop),
  (∀F' b a cg s',FM.le F F'→Rep g F' cg s'→R F' b a→Q b cg→K a s')→wpAny (model g.prog g.w) g.A (f v) K E s
def W2(g:Gd){α β:Type}(R:FM→β→α→Prop)(f:Value→Value→Sem α)(x y:AV)(st:AS)(Q:β→AS→Prop):Prop:=
 ∀F s v u,Rep g F st s→VR F x v→VR F y u→∀(K:α→Shared→Prop) (E:Value→Shared→Prop),
  (∀F' b a cg s',FM.le F F'→Rep g F' cg s'→R F' b a→Q b cg→K a s')→wpAny (model g.prog g.w) g.A (f v u) K E s
def Wl(g:Gd){α β:Type}(R:FM→β→α→Prop)(f:List Value→Sem α)(xs:List AV)(st:AS)(Q:β→AS→Prop):Prop:=
 ∀F s vs,Rep g F st s→be F xs vs→∀(K:α→Shared→Prop) (E:Value→Shared→Prop),
  (∀F' b a cg s',FM.le F F'→Rep g F' cg s'→R F' b a→Q b cg→K a s')→wpAny (model g.prog g.w) g.A (f vs) K E s
def RQ{β:Type}:FM→β→β→Prop:=fun O b a=>a=b
inductive f9 where
 | next | brk | cont
 | ret (v:AV)
def FR(F:FM):f9→Flow→Prop
 | .next,f=>f= .next
 | .brk,f=>f= .brk
 | .cont,f=>f= .cont
 | .ret x,f=> ∃v,f= .ret v∧VR F x v
def UR:FM→Unit→Unit→Prop:=fun O O O=>True
theorem FR.mono{F G:FM}(h:FM.le F G):∀ {x:f9} {f:Flow},FR F x f→FR G x f
 | .next,_,e=>e
 | .brk,_,e=>e
 | .cont,_,e=>e
 | .ret _,_,⟨v,a,b⟩=> ⟨v,a,b.mono h⟩
inductive Upd{α β:Type}:List (α×β)→α→β→β→List (α×β)→Prop where
 | here {a:α} {o o':β} {m:List (α×β)}:Upd ((a,o)::m) a o o' ((a,o')::m)
 | there {p:α×β} {a:α} {o o':β} {m m':List (α×β)} (h:Upd m a o o' m'):Upd (p::m) a o o' (p::m')
section
variable {α β:Type}{m m':List (α×β)}{a:α}{o o':β}
theorem Upd.mem(h:Upd m a o o' m'):(a,o)∈m:=by
 induction h with
 | here=>exact E6
 | there _ ih=>exact E4 _ ih
theorem Upd.keys(h:Upd m a o o' m'):m'.map (·.1)=m.map (·.1):=by
 induction h with
 | here=>rfl
 | there _ ih=>simp[ih]
theorem Upd.apart(h:Upd m a o o' m')(nd:(m.map (·.1)).Nodup):∀p∈m',p=(a,o')∨(p∈m∧p.1≠a):=by
 induction h with
 | @here a o o' m=>
  intro p hp
  rcases J0.mp hp with rfl | hp
  ·exact .inl rfl
  ·refine .inr ⟨E4 _ hp,fun e=>?_⟩
   have:=(YG.mp nd).1
   exact this (N5.mpr ⟨p,hp,e⟩)
 | @there q a o o' m m' h' ih=>
  intro p hp
  have Ua:=YG.mp nd
  rcases J0.mp hp with rfl | hp
  ·refine .inr ⟨E6,fun e=>Ua.1 ?_⟩
   exact N5.mpr ⟨(a,o),h'.mem,e.symm⟩
  ·rcases ih Ua.2 p hp with e | e
   ·exact .inl e
   ·exact .inr ⟨E4 _ e.1,e.2⟩
theorem Upd.nI(h:Upd m a o o' m'){p:α×β}(hp:p∈m'):∃q∈m,q.1=p.1:=by
 have:p.1∈m'.map (·.1):=aab hp
 rw[h.keys] at this
 obtain⟨q,hq,e⟩:=N5.mp this
 exact⟨q,hq,e⟩
end
section
variable {g:Gd}{F:FM}{st:AS}{s:Shared}
theorem aO{f:PM}{h:Heap}(hf:∀a o,f a=some o→h.get? a=some o){a:Addr}(ha:h.objs.size≤a):f a=none:=by
 cases e:f a with
 | none=>rfl
 | some o=>exact absurd (Heap.lt_size (hf a o e)) (ZE.mpr ha)
theorem tp{p:Prop}{n:Nat}:p→0<n+1:=fun O=>ZF _
theorem Rep.tok(r:Rep g F st s)(t:Nat)(ht:0<s.toks→0<t):Rep g F st {s with toks:=t }:=
 {hP:=r.hP,hF:=r.hF,hK:=r.hK,pf:=r.pf,hm:=r.hm,ap:=r.ap,nd:=r.nd,tk:=ht r.tk,gens:=r.gens,os:=r.os,tab:=r.tab,cM:=r.cM,ns:=r.ns,nv:=r.nv,gH:=r.gH,gL:=r.gL,fX:=r.fX,gI:=r.gI }
theorem RepM.keeps(r:RepM g F mem s){h':Heap}(hk:∀b o,s.heap.get? b=some o→h'.get? b=some o)(t:Nat)(ht:0<s.toks→0<t):RepM g F mem {s with heap:=h',toks:=t }:=
 {hP:=fun a o e=>hk a o (r.hP a o e)
  hF:=fun a o e=>hk a o (r.hF a o e)
  hK:=r.hK,pf:=r.pf
  hm:=fun p hp=>by
   have x:=r.hm p hp
   obtain⟨ob,e⟩:=x.there
   exact x.mono (FM.le.refl _) ((hk _ _ e).trans e.symm)
  ap:=r.ap,nd:=r.nd,tk:=ht r.tk,gens:=r.gens,os:=r.os
  tab:=fun p hp=>by
   have x:=r.tab p hp
   obtain⟨vs,e,_⟩:=id x
   exact x.mono (FM.le.refl _) ((hk _ _ e).trans e.symm)
  cM:=r.cM }
theorem Rep.keeps(r:Rep g F st s){h':Heap}(hk:∀b o,s.heap.get? b=some o→h'.get? b=some o)(t:Nat)(ht:0<s.toks→0<t):Rep g F st {s with heap:=h',toks:=t }:=
 {r.toRepM.keeps hk t ht with
  ns:=let⟨m,a,b⟩:=r.ns;⟨m,a.keeps hk,b⟩
  nv:=r.nv,gH:=r.gH,gL:=r.gL,fX:=r.fX,gI:=r.gI }
theorem Rep.yF(r:Rep g F st s){a:Addr}(e:s.heap.get? a=some o)(h1:F.f a=none)(h0:F.P a=none)(h2:a≠g.L)(h3:∀p∈st.mem,p.1≠a)(h4:∀t∈g.tabs,t.1≠a):Rep g (F.put a o) st s:=
 {hP:=r.hP
  hF:=fun b o' e'=>by
   by_cases hb:b=a
   ·subst hb;rw[FM.cR] at e';cases e';exact e
   ·rw[FM.cw _ _ hb] at e';exact r.hF b o' e'
  hK:=fun b o' e'=> (FM.eW h1).f _ _ (r.hK _ _ e')
  pf:=fun b o' e'=>by
   by_cases hb:b=a
   ·subst hb
    have Ub:F.P b=some o':=e'
    rw[h0] at Ub;cases Ub
   ·rw[FM.cw _ _ hb];exact r.pf b o' e'
  hm:=fun p hp=> (r.hm p hp).mono (FM.eW h1) rfl
  ap:=fun p hp=> ⟨(r.ap p hp).1,by rw[FM.cw _ _ (h3 p hp)];exact(r.ap p hp).2⟩
  nd:=r.nd,tk:=r.tk,gens:=r.gens,os:=r.os
  tab:=fun p hp=> (r.tab p hp).mono (FM.eW h1) rfl
  cM:=fun p hp=> ⟨(r.cM p hp).1,by rw[FM.cw _ _ (h4 p hp)];exact(r.cM p hp).2.1,(r.cM p hp).2.2⟩
  ns:=let⟨m,x,y⟩:=r.ns;⟨m,x,fun z hz=> (y z hz).mono (FM.eW h1)⟩
  nv:=r.nv
  gH:=r.gH,gL:=by rw[FM.cw _ _ (Ne.symm h2)];exact r.gL
  fX:=r.fX,gI:=r.gI }
theorem Rep.KC(r:Rep g F st s):g.L<s.heap.objs.size:=let⟨_,x,_⟩:=r.ns;x.lt
theorem RepM.j3(r:RepM g F mem s){p:Addr×AO}(hp:p∈mem):p.1<s.heap.objs.size:=let⟨_,e⟩:=(r.hm p hp).there;Heap.lt_size e
theorem RepM.j4(r:RepM g F mem s){p:Addr×Str}(hp:p∈g.tabs):p.1<s.heap.objs.size:=(r.tab p hp).rec fun O e O O=>Heap.lt_size e
theorem Rep.alloc(r:Rep g F st s){o:Obj}(ho:o.isFreed=false)(t:Nat)(ht:0<s.toks→0<t):Rep g (F.put s.heap.objs.size o) st {s with heap:=s.heap.push o,toks:=t }∧FM.le F (F.put s.heap.objs.size o)∧(F.put s.heap.objs.size o).f s.heap.objs.size=some o:=by
 have h1:F.f s.heap.objs.size=none:=aO r.hF (N1 _)
 refine⟨?_,FM.eW h1,FM.cR ..⟩
 refine(r.keeps (h':=s.heap.push o) (fun b o' e=>Heap.get?_push_of_some _ e) t ht).yF (Heap.get?_push_size _ ho) h1 (aO r.hP (N1 _)) (Zn r.KC) (fun p hp=>Yp (r.j3 hp)) (fun p hp=>Yp (r.j4 hp))
theorem Rep.oz(r:Rep g F st s){a:Addr}(h1:F.f a=none)(h0:F.P a=none)(h2:a≠g.L)(h3:∀p∈st.mem,p.1≠a)(h4:∀t∈g.tabs,t.1≠a)(Gf:oy F s.heap a ao):
  Rep g F {st with mem:=(a,ao)::st.mem } s:=
 {hP:=r.hP,hF:=r.hF,hK:=r.hK,pf:=r.pf
  hm:=fun p hp=>by
   rcases J0.mp hp with rfl | hp
   ·exact Gf
   ·exact r.hm p hp
  ap:=fun p hp=>by
   rcases J0.mp hp with rfl | hp
   ·exact⟨h0,h1⟩
   ·exact r.ap p hp
  nd:=YG.mpr ⟨fun hm=>by
    obtain⟨p,hp,e⟩:=N5.mp hm
    exact h3 p hp e,r.nd⟩
  tk:=r.tk,gens:=r.gens,os:=r.os,tab:=r.tab
  cM:=fun p hp=> ⟨(r.cM p hp).1,(r.cM p hp).2.1,fun q hq=>by
   rcases J0.mp hq with rfl | hq
   ·exact(h4 p hp).symm
   ·exact(r.cM p hp).2.2 q hq⟩
  ns:=r.ns,nv:=r.nv,gH:=r.gH,gL:=r.gL
  fX:=fun p hp=>by
   rcases J0.mp hp with rfl | hp
   ·exact h2
   ·exact r.fX p hp
  gI:=r.gI }
theorem Rep.oA(r:Rep g F st s){o:Obj}(ho:o.isFreed=false)(t:Nat)(Gf:∀h:Heap,h.get? s.heap.objs.size=some o→oy F h s.heap.objs.size ao)(ht:0<s.toks→0<t):
  Rep g F {st with mem:=(s.heap.objs.size,ao)::st.mem } {s with heap:=s.heap.push o,toks:=t }:=
 (r.keeps (h':=s.heap.push o) (fun b o' e=>Heap.get?_push_of_some _ e) t ht).oz (aO r.hF (N1 _)) (aO r.hP (N1 _)) (Zn r.KC) (fun p hp=>Yp (r.j3 hp)) (fun p hp=>Yp (r.j4 hp))
  (Gf _ (Heap.get?_push_size _ ho))
theorem Rep.set(r:Rep g F st s){o:Option AV}(hu:Upd st.vars x o (some v) gM)(hv:VR F v u){h':Heap}{m m':Str→Option Value}(hm:∀p∈st.vars,kh F p.2 (m p.1))(hn:h'.Ns g.L m')(RR:∀y,m' y=if y=x then some u else m y)(hs:Heap.SameBut g.L s.heap h')(t:Nat)(ht:0<s.toks→0<t):Rep g F {st with vars:=gM } {s with heap:=h',toks:=t }:=
 {hP:=fun a o e=> (hs.2 a (fun q=>by subst q;rw[r.gH] at e;cases e)).trans (r.hP a o e)
  hF:=fun a o e=> (hs.2 a (fun q=>by subst q;rw[r.gL] at e;cases e)).trans (r.hF a o e)
  hK:=r.hK,pf:=r.pf
  hm:=fun p hp=> (r.hm p hp).mono (FM.le.refl _) (hs.2 _ (r.fX p hp))
  ap:=r.ap,nd:=r.nd,tk:=ht r.tk,gens:=r.gens,os:=r.os
  tab:=fun p hp=> (r.tab p hp).mono (FM.le.refl _) (hs.2 _ (r.gI p hp))
  cM:=r.cM
  ns:=⟨m',hn,fun p hp=>by
   rw[RR p.1]
   rcases hu.apart r.nv p hp with rfl |⟨h1,h2⟩
   ·rw[X6 rfl];exact .of hv
   ·rw[X5 h2];exact hm p h1⟩
  nv:=by rw[hu.keys];exact r.nv
  gH:=r.gH,gL:=r.gL,fX:=r.fX,gI:=r.gI }
theorem RepM.turn(r:RepM g F mem s){a:Addr}(u:Upd mem a o o' mem')(hs:Heap.SameBut a s.heap h')(ha:oy F h' a o')(t:Nat)(ht:0<s.toks→0<t):
  RepM g F mem' {s with heap:=h',toks:=t }:=by
 have am:=u.mem
 have key:∀p∈mem',∃q∈mem,q.1=p.1:=fun p hp=>u.nI hp
 exact
 {hP:=fun b o e=> (hs.2 b (fun q=>by subst q;rw[(r.ap _ am).1] at e;cases e)).trans (r.hP b o e)
  hF:=fun b o e=> (hs.2 b (fun q=>by subst q;rw[(r.ap _ am).2] at e;cases e)).trans (r.hF b o e)
  hK:=r.hK,pf:=r.pf
  hm:=fun p hp=>by
   rcases u.apart r.nd p hp with rfl |⟨h1,h2⟩
   ·exact ha
   ·exact(r.hm p h1).mono (FM.le.refl _) (hs.2 _ h2)
  ap:=fun p hp=>let⟨q,hq,e⟩:=key p hp;e▸r.ap q hq
  nd:=by rw[u.keys];exact r.nd
  tk:=ht r.tk,gens:=r.gens,os:=r.os
  tab:=fun p hp=> (r.tab p hp).mono (FM.le.refl _) (hs.2 _ (Ne.symm ((r.cM p hp).2.2 _ am)))
  cM:=fun p hp=> ⟨(r.cM p hp).1,(r.cM p hp).2.1,fun q hq=>let⟨x,hx,e⟩:=key q hq;e▸(r.cM p hp).2.2 x hx⟩ }
theorem Rep.turn(r:Rep g F st s){a:Addr}(u:Upd st.mem a o o' mem')(hs:Heap.SameBut a s.heap h')(ha:oy F h' a o')(t:Nat)(ht:0<s.toks→0<t):
  Rep g F {st with mem:=mem' } {s with heap:=h',toks:=t }:=
 {r.toRepM.turn u hs ha t ht with
  ns:=let⟨m,x,y⟩:=r.ns;⟨m,x.sameBut hs (Ne.symm (r.fX _ u.mem)),y⟩
  nv:=r.nv,gH:=r.gH,gL:=r.gL
  fX:=fun p hp=>let⟨q,hq,e⟩:=u.nI hp;e▸r.fX q hq
  gI:=r.gI }
end
end
section
structure bI(g:Gd)(env:Env):Prop where
 locals:env.locals=g.L
 kind:env.scope.kind= .function
 globals:env.globals=mainGlobals
 builtins:env.builtins=builtinsNs
section
variable {g:Gd}{env:Env}{st:AS}{α β:Type}
theorem W0.mono{R:FM→β→α→Prop}{t:Sem α}{Q Q':β→AS→Prop}(h:W0 g R t st Q)(hq:∀b cg,Q b cg→Q' b cg):W0 g R t st Q':=
 fun F s r K E k=>h F s r K E fun F' b a cg s' h1 h2 h3 h4=>k F' b a cg s' h1 h2 h3 (hq _ _ h4)
theorem RepM.bO{F:FM}(r:RepM g F mem s):∀a o,g.K.f a=some o→s.heap.get? a=some o:=fun a o e=>r.hF a o (r.hK a o e)
structure Kn(env:Env)(names:List (Str×NameKind))(cs:List (Str×Addr)):Prop where
 kind:∀p∈names,env.kindOf p.1=some p.2∨(p.2= .free∧env.kindOf p.1=some .cell)
 Q6:∀p∈names,(p.1==("__debug__" :Str))=false∧(p.1==("__classdict__" :Str))=false
 cell:∀x k,(x,k)∈names→(k= .cell∨k= .free)→∀c,(x,c)∈cs→env.cells.lookup x=some c
def j5(g:Gd)(x:Str)(v:Value):Prop:=g.gl x=some v∨(g.gl x=none∧g.bl x=some v)
def Gg(g:Gd)(GL:List (Str×Value)):Prop:= ∀p∈GL,j5 g p.1 p.2
theorem Kn.ne{names cs x k}(N:Kn env names cs)(hm:(x,k)∈names)(h:k≠.free):env.kindOf x=some k:=by
 rcases N.kind _ hm with e |⟨e,_⟩
 ·exact e
 ·exact absurd e h
theorem RS{names cs x v}(e:bI g env)(N:Kn env names cs)(hm:(x,.local)∈names)(hv:(x,some v)∈st.vars)(h:Q v st):W0 g VR (loadName env x) st Q:=by
 intro F s r K E k
 obtain⟨m,hn,RR⟩:=r.ns
 obtain⟨u,hu,hr⟩:=(RR _ hv).Kz
 exact wpAny_loadName_local e.kind (N.ne hm (by decide)) (by rw[e.locals];exact hn) hu (k F v u st s (FM.le.refl _) r hr h)
theorem I5{x v c}(e:bI g env)(hx:env.kindOf x=some .cell∨env.kindOf x=some .free)(hd:(x==("__classdict__" :Str))=false)(hc:env.cells.lookup x=some c)(hm:(c,AO.cell (some v))∈st.mem)(h:Q v st):W0 g VR (loadName env x) st Q:=by
 intro F s r K E k
 obtain⟨o,u,h1,h2,h3⟩:=r.hm _ hm
 obtain⟨w,rfl,hr⟩:=h3.Kz
 rcases hx with hx | hx
 ·exact wpAny_loadName_cell e.kind hx hc ⟨o,h1,h2⟩ (k F v w st s (FM.le.refl _) r hr h)
 ·exact wpAny_loadName_free e.kind hx hc ⟨o,h1,h2⟩ (k F v w st s (FM.le.refl _) r hr h) hd
theorem RT{names cs x v c}(e:bI g env)(N:Kn env names cs)(hn:(x,.cell)∈names)(hc:(x,c)∈cs)(hm:(c,AO.cell (some v))∈st.mem)(h:Q v st):W0 g VR (loadName env x) st Q:=
 I5 e (.inl (N.ne hn (by decide))) (N.Q6 _ hn).2 (N.cell _ _ hn (.inl rfl) _ hc) hm h
theorem RU{names cs x v c}(e:bI g env)(N:Kn env names cs)(hn:(x,.free)∈names)(hc:(x,c)∈cs)(hm:(c,AO.cell (some v))∈st.mem)(h:Q v st):W0 g VR (loadName env x) st Q:=
 I5 e (by rcases N.kind _ hn with e |⟨_,e⟩;exact .inr e;exact .inl e) (N.Q6 _ hn).2 (N.cell _ _ hn (.inr rfl) _ hc) hm h
theorem I6{GL names cs x v y}(hy:∀F,VR F y v)(e:bI g env)(G:Gg g GL)(N:Kn env names cs)(hn:(x,.globalImplicit)∈names)(hv:(x,v)∈GL)(h:Q y st):W0 g VR (loadName env x) st Q:=by
 intro F s r K E k
 rw[loadName_read e.kind (N.ne hn (by decide))]
 rcases G _ hv with h1 |⟨h1,h2⟩
 ·exact loadGlobal_global (by rw[e.globals];exact g.KA _ r.bO) h1 (k F _ v st s (FM.le.refl _) r (hy F) h)
 ·exact loadGlobal_builtin (by rw[e.globals];exact g.KA _ r.bO) h1 (by rw[e.builtins];exact g.T' _ r.bO) h2 (k F _ v st s (FM.le.refl _) r (hy F) h)
theorem RW{GL names cs x v}(e:bI g env)(G:Gg g GL)(N:Kn env names cs)(hn:(x,.globalImplicit)∈names)(hv:(x,v)∈GL)(h:Q (.val v) st):W0 g VR (loadName env x) st Q:=I6 (fun O=>nH ..) e G N hn hv h
def Ld(g:Gd)(env:Env)(names:List (Str×NameKind))(cs:List (Str×Addr))(x:Str)(k:NameKind)(st:AS)(Q:AV→AS→Prop):Prop:=Kn env names cs→(x,k)∈names→W0 g VR (loadName env x) st Q
theorem B5{names cs x k}(N:Kn env names cs)(hm:(x,k)∈names)(h:Ld g env names cs x k st Q):W0 g VR (loadName env x) st Q:=h N hm
theorem aD{names cs x k pos}(N:Kn env names cs)(hm:(x,k)∈names)(h:Ld g env names cs x k st Q):W0 g VR (eval (.Name x pos) env) st Q:=
 fun F s r K E kk=>wpAny_Name (h N hm F s r K E kk) (N.Q6 _ hm).1
theorem uN{i k pos}(h:Q (.int i) st):W0 g VR (eval (.Constant (.int i) k pos) env) st Q:=
 fun F s r K E kk=>wpAny_Constant_int (kk F _ _ st _ (FM.le.refl _) (r.tok _ tp) (rj ..) h)
theorem Nw{x k pos}(h:Q (.aT x) st):W0 g VR (eval (.Constant (.float x) k pos) env) st Q:=
 fun F s r K E kk=>fun O O O=>kk F _ _ st _ (FM.le.refl _) (r.tok _ tp) (BG _ _ _ r.tk) h
theorem tb{k pos}(h:Q .none st):W0 g VR (eval (.Constant .none k pos) env) st Q:=
 fun F s r K E kk=>wpAny_Constant_none (kk F .none _ st s (FM.le.refl _) r (BJ _) h)
theorem iZ{b k pos}(h:Q (.bool b) st):W0 g VR (eval (.Constant (.bool b) k pos) env) st Q:=
 fun F s r K E kk=>wpAny_Constant_bool (kk F (.bool b) _ st s (FM.le.refl _) r (ot ..) h)
theorem I7{x k pos}(h:Q (.str x) st):W0 g VR (eval (.Constant (.str x) k pos) env) st Q:=
 fun F s r K E kk=>wpAny_Constant_str (kk F (.str x) _ st _ (FM.le.refl _) (r.tok _ tp) (BH ..) h)
theorem nJ{l op r pos}(h:W0 g VR (eval l env) st fun a aN=>W0 g VR (eval r env) aN fun b a8=>W2 g VR (binaryOp op) a b a8 Q):
  W0 g VR (eval (.BinOp l op r pos) env) st Q:=
 fun F s rr K E k=>wpAny_BinOp (h F s rr _ E fun F1 a u aN s1 l1 r1 v1 h1=>h1 F1 s1 r1 _ E fun F2 b w a8 s2 l2 r2 v2 h2=>
  h2 F2 s2 u w r2 (v1.mono l2) v2 K E fun F3 c x gw s3 l3 r3 v3 h3=>k F3 c x gw s3 (l1.trans (l2.trans l3)) r3 v3 h3)
theorem KD{op x pos}(h:W0 g VR (eval x env) st fun a aN=>W1 g VR (unaryOp op) a aN Q):
  W0 g VR (eval (.UnaryOp op x pos) env) st Q:=fun F s rr K E k=>by
 rw[arm_eval_UnaryOp]
 exact E5 (h F s rr _ E fun F1 a u aN s1 l1 r1 v1 h1=>E5 (Zx (Yz (h1 F1 s1 u r1 v1 K E fun F2 c x a8 s2 l2 r2 v2 h2=>k F2 c x a8 s2 (l1.trans l2) r2 v2 h2))))
theorem wP{l op r pos}(h:W0 g VR (eval l env) st fun a aN=>W0 g VR (eval r env) aN fun b a8=>W2 g VR (compareOp op) a b a8 Q)(hm:behindInMarks op r=false:=by with_unfolding_all rfl):W0 g VR (eval (.Compare l [op] [r] pos) env) st Q:=
 fun F s rr K E k=>wpAny_Compare1 (h F s rr _ E fun F1 a u aN s1 l1 r1 v1 h1=>h1 F1 s1 r1 _ E fun F2 b w a8 s2 l2 r2 v2 h2=>
  h2 F2 s2 u w r2 (v1.mono l2) v2 K E fun F3 c x gw s3 l3 r3 v3 h3=>k F3 c x gw s3 (l1.trans (l2.trans l3)) r3 v3 h3) hm
theorem aX{b}(h:Q b st):W1 g RQ truthy (.bool b) st Q:=fun F s v r hv K E k=>by
 cases hv
 exact wpAny_truthy_bool (k F b b st s (FM.le.refl _) r rfl h)
theorem aZ{l op r pos whole}(h:W0 g VR (eval l env) st fun a aN=>W0 g VR (eval r env) aN fun b a8=>W2 g VR (compareOp op) a b a8 fun c gw=>W1 g RQ truthy c gw Q)(hm:behindInMarks op r=false:=by with_unfolding_all rfl):W0 g RQ (isTrue (.Compare l [op] [r] pos) env whole) st Q:=
 fun F s rr K E k=>wpAny_isTrue_Compare1 (h F s rr _ E fun F1 a u aN s1 l1 r1 v1 h1=>h1 F1 s1 r1 _ E fun F2 b w a8 s2 l2 r2 v2 h2=>
  h2 F2 s2 u w r2 (v1.mono l2) v2 _ E fun F3 c x gw s3 l3 r3 v3 h3=>h3 F3 s3 x r3 v3 K E fun F4 d y KE s4 l4 r4 v4 h4=>k F4 d y KE s4 (l1.trans (l2.trans (l3.trans l4))) r4 v4 h4) hm
theorem bE(h:W0 g VR (eval e env) st fun v aN=>W1 g RQ truthy v aN Q)(he:isTrue e env (eval e env)=(do let v ← eval e env;standAt e.pos;holding [v] (truthy v)):=by rfl):W0 g RQ (isTrue e env (eval e env)) st Q:=
 fun F s rr K E k=>wpAny_isTrue_value (h F s rr _ E fun F1 a u aN s1 l1 r1 v1 h1=>h1 F1 s1 u r1 v1 K E fun F2 c x a8 s2 l2 r2 v2 h2=>k F2 c x a8 s2 (l1.trans l2) r2 v2 h2) he
theorem tc{x pos whole}(h:W0 g RQ (isTrue x env (eval x env)) st fun b aN=>Q (!b) aN):W0 g RQ (isTrue (.UnaryOp .Not x pos) env whole) st Q:=
 fun F s rr K E k=>by
  rw[arm_isTrue_UnaryOp]
  exact E5 (h F s rr _ E fun F1 b a aN s1 l1 r1 v1 h1=>N7 (by have:a=b:=v1;subst this;exact k F1 _ _ aN s1 l1 r1 rfl h1))
theorem iK{op vs pos whole}(h:W0 g RQ (allTrue op vs env) st Q):W0 g RQ (isTrue (.BoolOp op vs pos) env whole) st Q:=
 fun F s rr K E k=>wpAny_isTrue_BoolOp (h F s rr K E k)
theorem qN(h:Q true st):W0 g RQ (allTrue .And [] env) st Q:=fun F s rr K E k=>wpAny_allTrue_And_nil (k F true true st s (FM.le.refl _) rr rfl h)
theorem td(h:Q false st):W0 g RQ (allTrue .Or [] env) st Q:=fun F s rr K E k=>wpAny_allTrue_Or_nil (k F false false st s (FM.le.refl _) rr rfl h)
theorem Ai{x rest}(h:W0 g RQ (isTrue x env (eval x env)) st fun b aN=>if b=true then W0 g RQ (allTrue .And rest env) aN Q else Q false aN):
  W0 g RQ (allTrue .And (x::rest) env) st Q:=fun F s rr K E k=>wpAny_allTrue_And_cons (h F s rr _ E fun F1 b a aN s1 l1 r1 v1 h1=>by
   have:a=b:=v1;subst this
   cases a with
   | true=>simp only[ZB] at h1 ⊢;exact h1 F1 s1 r1 K E fun F2 c x a8 s2 l2 r2 v2 h2=>k F2 c x a8 s2 (l1.trans l2) r2 v2 h2
   | false=>simp only[YD,Y_] at h1 ⊢;exact k F1 false false aN s1 l1 r1 rfl h1)
theorem B6{x rest}(h:W0 g RQ (isTrue x env (eval x env)) st fun b aN=>if b=true then Q true aN else W0 g RQ (allTrue .Or rest env) aN Q):
  W0 g RQ (allTrue .Or (x::rest) env) st Q:=fun F s rr K E k=>wpAny_allTrue_Or_cons (h F s rr _ E fun F1 b a aN s1 l1 r1 v1 h1=>by
   have:a=b:=v1;subst this
   cases a with
   | true=>simp only[ZB] at h1 ⊢;exact k F1 true true aN s1 l1 r1 rfl h1
   | false=>simp only[YD,Y_] at h1 ⊢;exact h1 F1 s1 r1 K E fun F2 c x a8 s2 l2 r2 v2 h2=>k F2 c x a8 s2 (l1.trans l2) r2 v2 h2)
theorem kI{t b o pos}(h:W0 g RQ (isTrue t env (eval t env)) st fun c aN=>if c=true then W0 g VR (eval b env) aN Q else W0 g VR (eval o env) aN Q):
  W0 g VR (eval (.IfExp t b o pos) env) st Q:=fun F s rr K E k=>by
 rw[arm_eval_IfExp]
 refine E5 (h F s rr _ E fun F1 b a aN s1 l1 r1 v1 h1=>?_)
 have:a=b:=v1;subst this
 cases a with
 | true=>simp only[ZB] at h1 ⊢;exact h1 F1 s1 r1 K E fun F2 c x a8 s2 l2 r2 v2 h2=>k F2 c x a8 s2 (l1.trans l2) r2 v2 h2
 | false=>simp only[YD,Y_] at h1 ⊢;exact h1 F1 s1 r1 K E fun F2 c x a8 s2 l2 r2 v2 h2=>k F2 c x a8 s2 (l1.trans l2) r2 v2 h2
theorem te{op e pos}(h:W0 g VR (eval e env) st Q):W0 g VR (boolOp pos op (evalEach [e] env)) st Q:=h
theorem B7{op vs pos}(h:W0 g VR (boolOp pos op (evalEach vs env)) st Q):W0 g VR (eval (.BoolOp op vs pos) env) st Q:=h
theorem tf{e e2 es pos}(h:W0 g VR (eval e env) st fun v aN=>W1 g RQ truthy v aN fun b a8=>if b=true then W0 g VR (boolOp pos .And (evalEach (e2::es) env)) a8 Q else Q v a8):
  W0 g VR (boolOp pos .And (evalEach (e::e2::es) env)) st Q:=fun F s rr K E k=>by
 show wpAny _ _ (do let v ← eval e env;standAt pos;let t ← holding [v] (truthy v);match BoolOp.And,t with | .And,false | .Or,true=>pure v | _,_=>boolOp pos .And (evalEach (e2::es) env)) K E s
 refine E5 (h F s rr _ E fun F1 a u aN s1 l1 r1 v1 h1=>E5 (Zx (E5 (Yz (h1 F1 s1 u r1 v1 _ E fun F2 b c a8 s2 l2 r2 v2 h2=>?_)))))
 have:c=b:=v2;subst this
 cases c with
 | true=>simp only[ZB] at h2;exact h2 F2 s2 r2 K E fun F3 c x gw s3 l3 r3 v3 h3=>k F3 c x gw s3 (l1.trans (l2.trans l3)) r3 v3 h3
 | false=>simp only[YD,Y_] at h2;exact N7 (k F2 _ _ a8 s2 (l1.trans l2) r2 (v1.mono l2) h2)
theorem aH{pos}{Q:List AV→AS→Prop}(h:Q [] st):W0 g be (spliced (backTo pos (starEach [] env))) st Q:=
 fun F s rr K E k=>wpAny_items_nil (k F [] [] st s (FM.le.refl _) rr rfl h)
theorem aM{pos e rest}{Q:List AV→AS→Prop}(h:W0 g VR (eval e env) st fun x aN=>W0 g be (spliced (backTo pos (starEach rest env))) aN fun xs a8=>Q (x::xs) a8)
  (he:starEach (e::rest) env=(false,eval e env)::starEach rest env:=by rfl):W0 g be (spliced (backTo pos (starEach (e::rest) env))) st Q:=
 fun F s rr K E k=>wpAny_items_cons (h F s rr _ E fun F1 a u aN s1 l1 r1 v1 h1=>h1 F1 s1 r1 _ E fun F2 b w a8 s2 l2 r2 v2 h2=>
  k F2 _ _ a8 s2 (l1.trans l2) r2 (f6 (v1.mono l2) v2) h2) he
theorem kJ{df k pos}(h:W0 g be (spliced (backTo pos (starEach df env))) st fun xs aN=>xs.length≤sizeLine∧Q (.tup xs) aN):
  W0 g VR (eval (.Tuple df k pos) env) st Q:=fun F s rr K E kk=>wpAny_Tuple (h F s rr _ E fun F1 xs vs aN s1 l1 r1 v1 h1=>by
   refine⟨by rw[v1.length];exact h1.1,?_⟩
   obtain⟨r2,l2,e2⟩:=r1.alloc (o:=gv vs.toArray 0) rfl s1.toks id
   exact kk _ (.tup xs) _ aN _ (l1.trans l2) r2 (Q5 e2 (v1.mono l2)) h1.2)
theorem KF{df pos}(h:W0 g be (spliced (backTo pos (starEach df env))) st fun xs aN=>xs.length≤sizeLine∧Q (.lst xs) aN):
  W0 g VR (eval (.List df pos) env) st Q:=fun F s rr K E kk=>wpAny_List (h F s rr _ E fun F1 xs vs aN s1 l1 r1 v1 h1=>by
   refine⟨by rw[v1.length];exact h1.1,?_⟩
   obtain⟨r2,l2,e2⟩:=r1.alloc (o:=cE vs.toArray 0) rfl s1.toks id
   exact kk _ (.lst xs) _ aN _ (l1.trans l2) r2 (Ky e2 (v1.mono l2)) h1.2)
def jx(xs:List AV)(st:AS)(Q:AV→AS→Prop):Prop:=xs.length≤sizeLine∧∀a,Q (.val (.ref a)) {st with mem:=(a,.list xs)::st.mem }
theorem oB{xs:List AV}{vars mem}(h1:xs.length≤sizeLine)(h2:∀a,Q (.val (.ref a)) ⟨vars,(a,.list xs)::mem⟩):jx xs ⟨vars,mem⟩ Q:=⟨h1,h2⟩
theorem ki{df pos}(h:W0 g be (spliced (backTo pos (starEach df env))) st fun xs aN=>jx xs aN Q):
  W0 g VR (eval (.List df pos) env) st Q:=fun F s rr K E kk=>wpAny_List (h F s rr _ E fun F1 xs vs aN s1 l1 r1 v1 h1=>by
   refine⟨by rw[v1.length];exact h1.1,?_⟩
   have r2:=r1.oA (o:=cE vs.toArray 0) (ao:= .list xs) rfl s1.toks (fun h e=> ⟨_,_,e,v1⟩) id
   exact kk _ (.val _) _ _ _ l1 r2 (nH ..) (h1.2 _))
theorem bu(h:Q .next st):W0 g FR (execs [] env) st Q:=fun F s rr K E k=>abY (k F .next .next st s (FM.le.refl _) rr rfl h)
def Nx(g:Gd)(env:Env)(rest:List Stmt)(Q:f9→AS→Prop):f9→AS→Prop
 | .next,st=>W0 g FR (execs rest env) st Q
 | .brk,st=>Q .brk st
 | .cont,st=>Q .cont st
 | .ret v,st=>Q (.ret v) st
theorem bp{rest}(h:W0 g FR (execs rest env) st Q):Nx g env rest Q .next st:=h
theorem oD{rest v}(h:Q (.ret v) st):Nx g env rest Q (.ret v) st:=h
theorem ak{a rest}(h:W0 g FR (exec a env) st (Nx g env rest Q)):
  W0 g FR (execs (a::rest) env) st Q:=fun F s rr K E k=>wpAny_execs_cons (h F s rr _ E fun F1 f fl aN s1 l1 r1 v1 h1=>by
   cases f with
   | next=>have:fl= .next:=v1;subst this;exact h1 F1 s1 r1 K E fun F2 c x a8 s2 l2 r2 v2 h2=>k F2 c x a8 s2 (l1.trans l2) r2 v2 h2
   | brk=>have:fl= .brk:=v1;subst this;exact k F1 .brk _ aN s1 l1 r1 rfl h1
   | cont=>have:fl= .cont:=v1;subst this;exact k F1 .cont _ aN s1 l1 r1 rfl h1
   | ret x=>obtain⟨u,rfl,hu⟩:=v1;exact k F1 (.ret x) _ aN s1 l1 r1 ⟨u,rfl,hu⟩ h1)
theorem kK{e pos}(h:W0 g VR (eval e env) st fun v aN=>Q (.ret v) aN):W0 g FR (exec (.Return (some e) pos) env) st Q:=
 fun F s rr K E k=>wpAny_Return_some (h F s rr _ E fun F1 a u aN s1 l1 r1 v1 h1=>k F1 (.ret a) _ aN s1 l1 r1 ⟨u,rfl,v1⟩ h1)
theorem qO{t b o pos}(h:W0 g RQ (isTrue t env (eval t env)) st fun c aN=>if c=true then W0 g FR (execs b env) aN Q else W0 g FR (execs o env) aN Q):
  W0 g FR (exec (.If t b o pos) env) st Q:=fun F s rr K E k=>wpAny_If (h F s rr _ E fun F1 b a aN s1 l1 r1 v1 h1=>by
   have:a=b:=v1;subst this
   cases a with
   | true=>simp only[ZB] at h1 ⊢;exact h1 F1 s1 r1 K E fun F2 c x a8 s2 l2 r2 v2 h2=>k F2 c x a8 s2 (l1.trans l2) r2 v2 h2
   | false=>simp only[YD,Y_] at h1 ⊢;exact h1 F1 s1 r1 K E fun F2 c x a8 s2 l2 r2 v2 h2=>k F2 c x a8 s2 (l1.trans l2) r2 v2 h2)
theorem Ny(e:bI g env):(env.scope.kind== .class||(env.scope.kind== .module&&env.locals !=env.globals))=false:=by rw[e.kind];rfl
def RX(g:Gd)(env:Env)(names:List (Str×NameKind))(cs:List (Str×Addr))(x:Str)(k:NameKind)(v:AV)(st:AS)(Q:Unit→AS→Prop):Prop:=Kn env names cs→(x,k)∈names→W1 g UR (storeName env x) v st Q
theorem dp{names cs x k v}(N:Kn env names cs)(hm:(x,k)∈names)(h:RX g env names cs x k v st Q):W1 g UR (storeName env x) v st Q:=h N hm
theorem j6{names cs x v o vars gM mem}(e:bI g env)(hu:Upd vars x o (some v) gM)(h:Q () ⟨gM,mem⟩):
  RX g env names cs x .local v ⟨vars,mem⟩ Q:=fun N hx F s u r hv K E k=>by
 obtain⟨m,hn,hm⟩:=r.ns
 exact wpAny_storeName_local (N.ne hx (by decide)) (by rw[e.locals];exact hn) (fun h' Nz Gh=>k F () () _ _ (FM.le.refl _) (r.set hu hv hm (by rw[e.locals] at Nz;exact Nz) (fun y=>rfl) (by rw[e.locals] at Gh;exact Gh) _ tp) trivial h) (Ny e)
theorem I8{names cs x v c o vars mem mem'}(e:bI g env)(hc:(x,c)∈cs)(hm:Upd mem c (.cell o) (.cell (some v)) mem')(h:Q () ⟨vars,mem'⟩):RX g env names cs x .cell v ⟨vars,mem⟩ Q:=fun N hx F s u r hv K E k=>by
 obtain⟨ob,cv,h1,h2,h3⟩:=r.hm _ hm.mem
 refine wpAny_storeName_cell e.kind (N.ne hx (by decide)) (N.cell _ _ hx (.inl rfl) _ hc) ⟨ob,h1,h2⟩ fun h' KG Gh=>k F () () _ _ (FM.le.refl _) (r.turn hm Gh ?_ s.toks id) trivial h
 obtain⟨o',VQ,Q7⟩:=KG
 exact⟨o',_,VQ,Q7,.of hv⟩
theorem dh{x pos v}(h:W1 g UR (storeName env x) v st Q):W1 g UR (assign (.Name x pos) env) v st Q:=
 fun F s u r hv K E k=>wpAny_assign_Name (h F s u r hv K E k)
theorem bC{x wQ ay pos}(h:W0 g VR (eval ay env) st fun v aN=>W1 g UR (storeName env x) v aN fun O a8=>Q .next a8)(hs:swapsWith ay (some (.Name x wQ)) pos.line env=pure false:=by rfl):W0 g FR (exec (.Assign [.Name x wQ] ay pos) env) st Q:=
 fun F s rr K E k=>wpAny_Assign_Name (h F s rr _ E fun F1 a u aN s1 l1 r1 v1 h1=>h1 F1 s1 u r1 v1 _ E fun F2 O O a8 s2 l2 r2 O h2=>k F2 .next _ a8 s2 (l1.trans l2) r2 rfl h2) hs
theorem lJ{x wQ op ay pos}(h:W0 g VR (loadName env x) st fun o aN=>W0 g VR (eval ay env) aN fun v a8=>W2 g VR (inplaceOp op) o v a8 fun r gw=>W1 g UR (storeName env x) r gw fun O KE=>Q .next KE):
  W0 g FR (exec (.AugAssign (.Name x wQ) op ay pos) env) st Q:=
 fun F s rr K E k=>wpAny_AugAssign_Name (h F s rr _ E fun F1 a u aN s1 l1 r1 v1 h1=>h1 F1 s1 r1 _ E fun F2 b w a8 s2 l2 r2 v2 h2=>h2 F2 s2 u w r2 (v1.mono l2) v2 _ E fun F3 c x gw s3 l3 r3 v3 h3=>
   h3 F3 s3 x r3 v3 _ E fun F4 O O KE s4 l4 r4 O h4=>k F4 .next _ KE s4 (l1.trans (l2.trans (l3.trans l4))) r4 rfl h4)
end
end
section
theorem RepM.sub{F:FM}{mem mem':Mem}(r:RepM g F mem s)(h:mem'.Sublist mem):RepM g F mem' s:=
 {hP:=r.hP,hF:=r.hF,hK:=r.hK,pf:=r.pf
  hm:=fun p hp=>r.hm p (h.subset hp)
  ap:=fun p hp=>r.ap p (h.subset hp)
  nd:=(h.map _).nodup r.nd
  tk:=r.tk,gens:=r.gens,os:=r.os,tab:=r.tab
  cM:=fun p hp=> ⟨(r.cM p hp).1,(r.cM p hp).2.1,fun q hq=> (r.cM p hp).2.2 q (h.subset hq)⟩ }
theorem Rep.sub{g:Gd}{F:FM}{st:AS}{mem':Mem}{s:Shared}(r:Rep g F st s)(h:mem'.Sublist st.mem):Rep g F {st with mem:=mem' } s:=
 {r.toRepM.sub h with ns:=r.ns,nv:=r.nv,gH:=r.gH,gL:=r.gL,fX:=fun p hp=>r.fX p (h.subset hp),gI:=r.gI }
theorem VR.wO{F G:FM}(h:G.f=F.f)(r:VR F x v):VR G x v:=VR.bA (fun a o e=>by rw[h];exact e) r
theorem be.wO{F G:FM}(h:G.f=F.f){v:List Value}(r:be F x v):be G x v:=be.bA (fun a o e=>by rw[h];exact e) r
theorem oy.wO{F G:FM}(h:G.f=F.f){a:Addr}(r:oy F hp a o):oy G hp a o:=oy.bA (fun a o e=>by rw[h];exact e) rfl r
theorem RepM.Q8{F:FM}{P':PM}(r:RepM g F mem s)(h1:∀a o,P' a=some o→s.heap.get? a=some o∧F.f a=none)(h2:∀p∈mem,P' p.1=none)(h3:∀t∈g.tabs,P' t.1=none):RepM g ⟨P',F.f⟩ mem s:=
 {hP:=fun a o e=> (h1 a o e).1,hF:=r.hF,hK:=r.hK,pf:=fun a o e=> (h1 a o e).2
  hm:=fun p hp=>oy.wO (F:=F) (G:=⟨P',F.f⟩) rfl (r.hm p hp)
  ap:=fun p hp=> ⟨h2 p hp,(r.ap p hp).2⟩
  nd:=r.nd,tk:=r.tk,gens:=r.gens,os:=r.os,tab:=fun t ht=>iY.wO (F:=F) (G:=⟨P',F.f⟩) rfl (r.tab t ht)
  cM:=fun p hp=> ⟨h3 p hp,(r.cM p hp).2⟩ }
inductive KH(g:Gd)(F:FM)(st:AS)(s:Shared):Prop
 | mk (P':PM) (ne:∀a,a≠g.L→P' a=F.P a) (r:RepM g ⟨P',F.f⟩ st.mem s) (qP:∀F' mem' s',FM.le ⟨P',F.f⟩ F'→RepM g F' mem' s'→Rep g ⟨F.P,F'.f⟩ {st with mem:=mem' } s')
theorem Rep.wR{g:Gd}{F:FM}{st:AS}{s:Shared}(r:Rep g F st s):KH g F st s:=by
 obtain⟨m,hn,hm⟩:=r.ns
 obtain⟨oL,es,ep,hL,rest⟩:=id hn
 have ne:∀b,b≠g.L→F.P.put g.L oL b=F.P b:=fun b h=>PM.cw _ _ h
 refine⟨F.P.put g.L oL,ne,r.toRepM.Q8 (fun a o e=> (PM.uM e).elim (fun x=>x.1▸x.2▸⟨hL,r.gL⟩) fun x=> ⟨r.hP _ _ x.2,r.pf _ _ x.2⟩)
  (fun p hp=> (ne _ (r.fX p hp)).trans (r.ap p hp).1) (fun t ht=> (ne _ (r.gI t ht)).trans (r.cM t ht).1),fun F' mem' s' I9 r'=>?_⟩
 have KI:∀b,F'.P b=F.P.put g.L oL b:=congrFun I9.P
 have pL:F'.P g.L=some oL:=(KI _).trans (PM.cR ..)
 have Gi:∀b,F'.P b=none→b≠g.L∧F.P b=none:=fun b hb=>
  have hn:b≠g.L:=fun q=>qM hb (q▸pL)
  ⟨hn,(ne b hn).symm.trans ((KI b).symm.trans hb)⟩
 exact {r'.Q8 (P':=F.P) (fun a o e=>have q:=(KI a).trans ((ne a fun q=>qM r.gH (q▸e)).trans e);⟨r'.hP a o q,r'.pf a o q⟩) (fun p hp=> (Gi _ (r'.ap p hp).1).2) (fun p hp=> (Gi _ (r'.cM p hp).1).2) with
  ns:=⟨m,⟨oL,es,ep,r'.hP _ _ pL,rest⟩,fun p hp=>kh.bA (F:=F) (G:=⟨F.P,F'.f⟩) I9.f (hm p hp)⟩
  nv:=r.nv,gH:=r.gH,gL:=r'.pf _ _ pL,fX:=fun p hp=> (Gi _ (r'.ap p hp).1).1,gI:=r.gI }
def fA(M:Model)(s:Shared)(f:Value):Prop:= ∃b:Bool,∀(A:Around) (Q:Keeper→Shared→Prop) (E:Value→Shared→Prop),Q (cond b .machine .frame) s→wpAny M A (keeperOf f) Q E s
theorem wS{M:Model}{n:String}:fA M s (.type n):=⟨true,fun O O O h=>N7 h⟩
theorem wT{M:Model}{n:String}:fA M s (.builtin n):=⟨true,fun O O O h=>N7 h⟩
theorem kj{M:Model}{s:Shared}{a:Addr}{fd:FuncData}(ho:s.heap.get? a=some o)(hd:o.data= .func fd):fA M s (.ref a):=⟨false,fun A Q E h=>by
 unfold keeperOf
 refine E5 (wpAny_load ho ?_)
 rw[hd]
 exact N7 h⟩
def WC(g:Gd)(fv:AV)(xs:List AV)(kn:List Str)(f_:List AV)(mem:Mem)(Q:AV→Mem→Prop):Prop:=
 ∀F s f vs kvs,RepM g F mem s→VR F fv f→be F xs vs→be F f_ kvs→∀R:Result→Shared→Prop,
  (∀F' x v mem' s',FM.le F F'→RepM g F' mem' s'→VR F' x v→Q x mem'→R (.ok (.ret v)) s')→fA (model g.prog g.w) s f∧codeAny (model g.prog g.w) g.A (.call f ⟨vs,kn.zip kvs⟩) R s
def b8(g:Gd)(fv:AV)(xs:List AV)(kn:List Str)(f_:List AV)(st:AS)(Q:AV→AS→Prop):Prop:=
 ∀F s f vs kvs,Rep g F st s→VR F fv f→be F xs vs→be F f_ kvs→∀(K:Value→Shared→Prop) (E:Value→Shared→Prop),
  (∀F' b a cg s',FM.le F F'→Rep g F' cg s'→VR F' b a→Q b cg→K a s')→fA (model g.prog g.w) s f∧wpAny (model g.prog g.w) g.A (call f vs (kn.zip kvs)) K E s
inductive VS(K:Value→Shared→Prop)(r:Result)(s:Shared):Prop
 | mk (v:Value) (e:r= .ok (.ret v)) (k:K v s)
section
variable {g:Gd}{env:Env}{st:AS}
theorem dD{kn:List Str}{vars mem}(h:WC g fv xs kn f_ mem fun x mem'=>Q x ⟨vars,mem'⟩):b8 g fv xs kn f_ ⟨vars,mem⟩ Q:=
 fun F s f vs kvs r hf hv hG K E k=>by
  obtain⟨P',_,r',qP⟩:=r.wR
  have rf:(⟨P',F.f⟩:FM).f=F.f:=rfl
  have key:=h ⟨P',F.f⟩ s f vs kvs r' (hf.wO rf) (hv.wO rf) (hG.wO rf) (VS K) fun F' x v mem' s' l r2 hx hq=>
   ⟨v,rfl,k ⟨F.P,F'.f⟩ x v _ s' ⟨rfl,l.f⟩ (qP F' mem' s' l r2) (VR.wO (F:=F') (G:=⟨F.P,F'.f⟩) rfl hx) hq⟩
  exact⟨key.1,wpAny_call (abP key.2 fun r s' hr=>by obtain⟨v,rfl,k⟩:=hr;exact k)⟩
theorem uO{M:Model}{E:Value→Shared→Prop}{first:List Value}{args:List (Bool×Sem Value)}{nK:List (Option Str×Sem Value)}{Q:Value→Shared→Prop}(d_:(args.any (·.1)||nK.any (·.1.isNone))=false)(h:wpAny M A (evalArgs f true args nK) (fun x s₁=>fA M s₁ f∧wpAny M A (call f (first++x.pos) x.kw) Q E s₁) E s):
  wpAny M A (callWith pos f first args nK) Q E s:=by
 unfold callWith
 refine E5 (Yz (aaw h (fun x s₁ h₁=>E5 (Zx ?_)) fun O O x=>x))
 have tail:∀ {t:Sem Value},wpAny M A t Q E s₁→wpAny M A (t >>= fun r=>holding [r] point >>= fun O=>pure r) Q E s₁:=
  fun ht=>E5 (aaw ht (fun r s₂ hr=>E5 (Yz (wpAny_point (N7 hr)))) fun O O x=>x)
 obtain⟨⟨b,hk⟩,h₂⟩:=h₁
 rw[d_]
 refine E5 (hk _ _ _ ?_)
 cases b with
 | true=>exact tail h₂
 | false=>
  show wpAny M A (if args.length+2*nK.length > 30 then _ else _) Q E s₁
  split
  ·exact tail h₂
  ·exact tail (Calls.wpAny_keep h₂)
theorem th{M:Model}{E:Value→Shared→Prop}{kL:List (Option Str×Sem Value)}{Q:Args→Shared→Prop}(nq:kL.all (·.1.isSome)=true)(h:wpAny M A (spliced []) (fun vs s₁=>wpAny M A (evalAll (kL.map (·.2))) (fun ks s₂=>Q ⟨vs,(kL.filterMap (·.1)).zip ks⟩ s₂) E s₁) E s):wpAny M A (evalArgs f true [] kL) Q E s:=by
 unfold evalArgs
 show wpAny M A (spliced [] >>= _) Q E s
 refine E5 (aaw h (fun vs s₁ h₁=>?_) fun O O x=>x)
 refine Yz ?_
 simp only[nq,ZB]
 refine E5 (aaw h₁ (fun ks s₂ h₂=>?_) fun O O x=>x)
 exact E5 (N7 (N7 h₂))
noncomputable abbrev jy(pos:Pos)(nK:List Keyword)(env:Env):List (Sem Value):=(backToKw pos (keywordEach nK env)).map (·.2)
noncomputable abbrev ti(pos:Pos)(nK:List Keyword)(env:Env):List Str:=(backToKw pos (keywordEach nK env)).filterMap (·.1)
theorem jz{pos}{Q:List AV→AS→Prop}(h:Q [] st):W0 g be (evalAll (jy pos [] env)) st Q:=fun F s rr K E k=>kwAll_nil (k F [] [] st s (FM.le.refl _) rr rfl h)
theorem oE{pos p name ay rest}{Q:List AV→AS→Prop}(h:W0 g VR (eval ay env) st fun x aN=>W0 g be (evalAll (jy pos rest env)) aN fun xs a8=>Q (x::xs) a8):
  W0 g be (evalAll (jy pos (⟨some name,ay,p⟩::rest) env)) st Q:=
 fun F s rr K E k=>kwAll_cons (h F s rr _ E fun F1 a u aN s1 l1 r1 v1 h1=>h1 F1 s1 r1 _ E fun F2 b w a8 s2 l2 r2 v2 h2=>
  k F2 _ _ a8 s2 (l1.trans l2) r2 (f6 (v1.mono l2) v2) h2)
theorem kr{first:List Value}{args:List Expr}{nK:List Keyword}(d_:((backTo pos (starEach args env)).any (·.1)||(backToKw pos (keywordEach nK env)).any (·.1.isNone))=false)(nq:(backToKw pos (keywordEach nK env)).all (·.1.isSome)=true)(hs:args=[]∨∃e rest,args=e::rest∧starEach (e::rest) env=(false,eval e env)::starEach rest env)(h:W0 g be (spliced (backTo pos (starEach args env))) st fun xs aN=>W0 g be (evalAll (jy pos nK env)) aN fun f_ a8=>b8 g fv (tj++xs) (ti pos nK env) f_ a8 Q):
  ∀F s,Rep g F st s→VR F fv f→be F tj first→∀(K:Value→Shared→Prop) (E:Value→Shared→Prop),
  (∀F' b a cg s',FM.le F F'→Rep g F' cg s'→VR F' b a→Q b cg→K a s')→
  wpAny (model g.prog g.w) g.A (callWith pos f first (backTo pos (starEach args env)) (backToKw pos (keywordEach nK env))) K E s:=by
 intro F s r hf RY K E k
 refine uO d_ ?_
 have key:wpAny (model g.prog g.w) g.A (spliced (backTo pos (starEach args env))) (fun vs s₁=>wpAny (model g.prog g.w) g.A (evalAll (jy pos nK env))
   (fun ks s₂=>fA (model g.prog g.w) s₂ f∧wpAny (model g.prog g.w) g.A (call f (first++vs) ((ti pos nK env).zip ks)) K E s₂) E s₁) E s:=
  h F s r _ E fun F1 xs vs aN s1 l1 r1 v1 h1=>h1 F1 s1 r1 _ E fun F2 f_ kvs a8 s2 l2 r2 v2 h2=>
   h2 F2 s2 f (first++vs) kvs r2 (hf.mono (l1.trans l2)) ((RY.mono (l1.trans l2)).append (v1.mono l2)) v2 K E fun F3 b a gw s3 l3 r3 v3 h3=>k F3 b a gw s3 (l1.trans (l2.trans l3)) r3 v3 h3
 rcases hs with rfl |⟨e,rest,rfl,he⟩
 ·exact th nq key
 ·rw[he] at key ⊢
  exact evalArgs_kw nq key
theorem gb{func args pos}(h:W0 g VR (eval func env) st fun fv wU=>W0 g be (spliced (backTo pos (starEach args env))) wU fun xs aN=>b8 g fv xs [] [] aN Q)(he:eval (.Call func args [] pos) env=(do callWith pos (← eval func env) [] (backTo pos (starEach args env)) (backToKw pos (keywordEach [] env))))(d_:((backTo pos (starEach args env)).any (·.1)||(backToKw pos (keywordEach [] env)).any (·.1.isNone))=false)(hs:args=[]∨∃e rest,args=e::rest∧starEach (e::rest) env=(false,eval e env)::starEach rest env):
  W0 g VR (eval (.Call func args [] pos) env) st Q:=fun F s rr K E k=>by
 rw[he]
 refine E5 (h F s rr _ E fun F1 fv f aN s1 l1 r1 v1 h1=>kr (tj:=[]) (first:=[]) (Q:=Q) d_ rfl hs ?_ F1 s1 r1 v1 rfl K E fun F2 b a a8 s2 l2 r2 v2 h2=>k F2 b a a8 s2 (l1.trans l2) r2 v2 h2)
 exact h1.mono fun xs aN hx=>jz hx
theorem Gj{func args n v p pos}(h:W0 g VR (eval func env) st fun fv wU=>W0 g be (spliced (backTo pos (starEach args env))) wU fun xs aN=>W0 g VR (eval v env) aN fun y a8=>b8 g fv xs [n] [y] a8 Q)(he:eval (.Call func args [⟨some n,v,p⟩] pos) env=(do callWith pos (← eval func env) [] (backTo pos (starEach args env)) (backToKw pos (keywordEach [⟨some n,v,p⟩] env))))(d_:((backTo pos (starEach args env)).any (·.1)||(backToKw pos (keywordEach [⟨some n,v,p⟩] env)).any (·.1.isNone))=false)(hs:args=[]∨∃e rest,args=e::rest∧starEach (e::rest) env=(false,eval e env)::starEach rest env):
  W0 g VR (eval (.Call func args [⟨some n,v,p⟩] pos) env) st Q:=fun F s rr K E k=>by
 rw[he]
 refine E5 (h F s rr _ E fun F1 fv f aN s1 l1 r1 v1 h1=>kr (tj:=[]) (first:=[]) (Q:=Q) d_ rfl hs ?_ F1 s1 r1 v1 rfl K E fun F2 b a a8 s2 l2 r2 v2 h2=>k F2 b a a8 s2 (l1.trans l2) r2 v2 h2)
 exact h1.mono fun xs aN hx=>oE (hx.mono fun y a8 hy=>jz hy)
def gd(g:Gd)(x:AV)(name:Str)(fv:AV)(tj:List AV)(st:AS):Prop:=
 ∀F s v (plain:Sem Bool),Rep g F st s→VR F x v→∀(K:Value×List Value→Shared→Prop) (E:Value→Shared→Prop),
  (∀F' f first s',FM.le F F'→Rep g F' st s'→VR F' fv f→be F' tj first→K (f,first) s')→wpAny (model g.prog g.w) g.A (getMethod v name plain) K E s
theorem yG{o name tm args nK pos}(hb:∀whole,attributeBase o name env whole=whole)(B8:methodCallForm (args.length+nK.length) (backTo pos (starEach args env)) (backToKw pos (keywordEach nK env))=true)(B_:(tm.endLine==pos.line)=true)(h:W0 g VR (eval o env) st fun ov wU=> ∃fv tj,gd g ov name fv tj wU∧
   W0 g be (spliced (backTo pos (starEach args env))) wU fun xs aN=>W0 g be (evalAll (jy pos nK env)) aN fun f_ a8=>b8 g fv (tj++xs) (ti pos nK env) f_ a8 Q) (d_:((backTo pos (starEach args env)).any (·.1)||(backToKw pos (keywordEach nK env)).any (·.1.isNone))=false) (nq:(backToKw pos (keywordEach nK env)).all (·.1.isSome)=true) (hs:args=[]∨∃e rest,args=e::rest∧starEach (e::rest) env=(false,eval e env)::starEach rest env):
  W0 g VR (eval (.Call (.Attribute o name tm) args nK pos) env) st Q:=fun F s rr K E k=>by
 rw[arm_eval_Call,hb]
 refine E5 (h F s rr _ E fun F1 ov v aN s1 l1 r1 v1 h1=>E5 (Zx ?_))
 obtain⟨fv,tj,hm,h2⟩:=h1
 unfold methodCall
 rw[B8]
 refine E5 (Yz ?_)
 unfold calleeOf
 rw[X6 rfl]
 refine hm F1 s1 v _ r1 v1 _ E fun F2 f first s2 l2 r2 hf RY=>?_
 have hp:methodCallPos true o env tm pos=pure pos:=by unfold methodCallPos;simp[B_]
 rw[hp]
 refine E5 (N7 ?_)
 exact kr d_ nq hs h2 F2 s2 r2 hf RY K E fun F3 b a gw s3 l3 r3 v3 h3=>k F3 b a gw s3 (l1.trans (l2.trans l3)) r3 v3 h3
def MC(g:Gd)(env:Env)(ov:AV)(name:Str)(pos:Pos)(args:List Expr)(st:AS)(Q:AV→AS→Prop):Prop:=
 ∃fv tj,gd g ov name fv tj st∧W0 g be (spliced (backTo pos (starEach args env))) st fun xs aN=>b8 g fv (tj++xs) [] [] aN Q
def Uc(g:Gd)(env:Env)(ov:AV)(name:Str)(pos:Pos)(args:List Expr)(n:Str)(v:Expr)(st:AS)(Q:AV→AS→Prop):Prop:=
 ∃fv tj,gd g ov name fv tj st∧W0 g be (spliced (backTo pos (starEach args env))) st fun xs aN=>W0 g VR (eval v env) aN fun y a8=>b8 g fv (tj++xs) [n] [y] a8 Q
theorem eH{o name tm args pos}(h:W0 g VR (eval o env) st fun ov wU=>MC g env ov name pos args wU Q)(hb:∀whole,attributeBase o name env whole=whole)(B8:methodCallForm (args.length+([]:List Keyword).length) (backTo pos (starEach args env)) (backToKw pos (keywordEach [] env))=true)(B_:(tm.endLine==pos.line)=true)(d_:((backTo pos (starEach args env)).any (·.1)||(backToKw pos (keywordEach [] env)).any (·.1.isNone))=false)(hs:args=[]∨∃e rest,args=e::rest∧starEach (e::rest) env=(false,eval e env)::starEach rest env):
  W0 g VR (eval (.Call (.Attribute o name tm) args [] pos) env) st Q:=by
 refine yG hb B8 B_ (h.mono fun ov wU h0=>?_) d_ rfl hs
 obtain⟨fv,tj,hm,h1⟩:=h0
 exact⟨fv,tj,hm,h1.mono fun xs aN hx=>jz hx⟩
theorem kM{o name tm args n v p pos}(h:W0 g VR (eval o env) st fun ov wU=>Uc g env ov name pos args n v wU Q)(hb:∀whole,attributeBase o name env whole=whole)(B8:methodCallForm (args.length+ [(⟨some n,v,p⟩:Keyword)].length) (backTo pos (starEach args env)) (backToKw pos (keywordEach [⟨some n,v,p⟩] env))=true)(B_:(tm.endLine==pos.line)=true)(d_:((backTo pos (starEach args env)).any (·.1)||(backToKw pos (keywordEach [⟨some n,v,p⟩] env)).any (·.1.isNone))=false)(hs:args=[]∨∃e rest,args=e::rest∧starEach (e::rest) env=(false,eval e env)::starEach rest env):
  W0 g VR (eval (.Call (.Attribute o name tm) args [⟨some n,v,p⟩] pos) env) st Q:=by
 refine yG hb B8 B_ (h.mono fun ov wU h0=>?_) d_ rfl hs
 obtain⟨fv,tj,hm,h1⟩:=h0
 exact⟨fv,tj,hm,h1.mono fun xs aN hx=>oE (hx.mono fun y a8 hy=>jz hy)⟩
theorem gy{ov name pos args fv}(hm:gd g ov name fv [ov] st)(h:W0 g be (spliced (backTo pos (starEach args env))) st fun xs aN=>b8 g fv (ov::xs) [] [] aN Q):MC g env ov name pos args st Q:=⟨fv,_,hm,h⟩
theorem kN{ov name pos args n v fv}(hm:gd g ov name fv [ov] st)(h:W0 g be (spliced (backTo pos (starEach args env))) st fun xs aN=>W0 g VR (eval v env) aN fun y a8=>b8 g fv (ov::xs) [n] [y] a8 Q):Uc g env ov name pos args n v st Q:=⟨fv,_,hm,h⟩
end
end
section
inductive RZ(x:Str)(R:Value→Prop)(T:List (Str×Value)→Prop)(bs:List (Str×Value)):Prop
 | mk (v:Value) (t:List (Str×Value)) (e:bs=(x,v)::t) (h:R v) (t:T t)
def BR(F:FM):List (Str×AV)→List (Str×Value)→Prop
 | [],bs=>bs=[]
 | p::r,bs=>RZ p.1 (VR F p.2) (BR F r) bs
theorem BR.names{F:FM}:∀ {as:List (Str×AV)} {bs:List (Str×Value)},BR F as bs→bs.map (·.1)=as.map (·.1)
 | [],_,e=>E8 (map _) e
 | p::r,_,e=>RZ.rec (fun v t e O h=> (E8 (map _) e).trans (E8 (p.1:: ·) h.names)) e
noncomputable def upd(m:Str→Option AV)(x:Str)(v:AV):Str→Option AV:=fun y=>if y=x then some v else m y
noncomputable def lK(kindOf:Str→Option NameKind):List (Str×AV)→(Str→Option AV)→Str→Option AV
 | [],m=>m
 |(n,v)::r,m=>lK kindOf r (if kindOf n=some .local then upd m n v else m)
noncomputable def lL(kindOf:Str→Option NameKind):List (Str×AV)→(Str→Option AV)→Str→Option AV
 | [],m=>m
 |(n,v)::r,m=>lL kindOf r (if kindOf n=some .local then m else upd m n v)
theorem kh.upd{F:FM}{am:Str→Option AV}{m:Str→Option Value}(h:∀y,kh F (am y) (m y))(hx:VR F x v):
  ∀y,kh F (Mine.upd am n x y) ((fun y=>if y=n then some v else m y) y):=fun y=>by
 show kh F (if y=n then some x else am y) (if y=n then some v else m y)
 split
 ·exact .of hx
 ·exact h y
theorem kh.ite{F:FM}{c:Prop}[Decidable c]{a b:Str→Option AV}{a' b':Str→Option Value}(h1:∀y,kh F (a y) (a' y))(h2:∀y,kh F (b y) (b' y))(y:Str):kh F ((if c then a else b) y) ((if c then a' else b') y):=by
 split
 ·exact h1 y
 ·exact h2 y
theorem rm{F:FM}(kindOf:Str→Option NameKind):∀(as:List (Str×AV)) (bs:List (Str×Value)),BR F as bs→∀(am:Str→Option AV) (m:Str→Option Value),(∀y,kh F (am y) (m y))→
  ∀y,kh F (lK kindOf as am y) (bindL kindOf bs m y)
 | [],_,e,am,m,h=>by cases(e:_=_);exact h
 |(n,x)::r,_,e,am,m,h=>by
  obtain⟨v,t,rfl,hx,hr⟩:=e
  exact rm kindOf r t hr _ _ (.ite (.upd h hx) h)
theorem rq{F:FM}(kindOf:Str→Option NameKind):∀(as:List (Str×AV)) (bs:List (Str×Value)),BR F as bs→∀(am:Str→Option AV) (m:Str→Option Value),(∀y,kh F (am y) (m y))→
  ∀y,kh F (lL kindOf as am y) (bindC kindOf bs m y)
 | [],_,e,am,m,h=>by cases(e:_=_);exact h
 |(n,x)::r,_,e,am,m,h=>by
  obtain⟨v,t,rfl,hx,hr⟩:=e
  exact rq kindOf r t hr _ _ (.ite h (.upd h hx))
noncomputable def cS(cs:List (Str×Addr))(m:Str→Option AV):Mem:=cs.map fun p=> (p.2,AO.cell (m p.1))
theorem qQ(cs:List (Str×Addr))(m:Str→Option AV):(cS cs m).map (·.1)=cs.map (·.2):=by simp[cS]
theorem I_{a b n m:Nat}(hn:1≤n)(h:a+n<m):a+1+(n - 1)<m:=by rw[YW,abw hn];exact h
theorem Ja{a k n m:Nat}(hn:1≤n)(hk:k≤8)(h:a+8*n<m):a+k+8*(n - 1)<m:=by
 obtain⟨j,rfl⟩:=Nat.exists_eq_add_of_le' hn
 exact Yv (by rw[Nat.add_sub_cancel,Nat.mul_add,YW,ZU k];exact Yo (Yo hk _) _) h
noncomputable def Gd.callee(g:Gd)(hn:1≤g.n)(L:Addr)(env:Env):Gd:=
 {g with L:=L,A:=g.A.deeper env,n:=g.n - 1,hd:=I_ (b:=0) hn g.hd,hu:=Ja (k:=3) hn (E1 rfl) g.hu }
theorem RepM.enter{g g':Gd}{F:FM}{L:Addr}{m cm:Str→Option Value}{cs:List (Str×Addr)}{am MZ:Str→Option AV}(r:RepM g F mem s)(VT:g'.K=g.K)(VU:g'.os=g.os)(R4:g'.tabs=g.tabs)(VW:g'.L=L)(x:InCallC s L m cs cm s₁)(jW:s.toks≤s₁.toks)(h1:∀y,kh F (am y) (m y))(h2:∀y,kh F (MZ y) (cm y))(KJ:(cs.map (·.1)).Nodup)(vars:dL)(hv:∀p∈vars,p.2=am p.1)(NA:(vars.map (·.1)).Nodup):
  Rep g' F ⟨vars,cS cs MZ++mem⟩ s₁:=by
 obtain⟨h',tk,rfl,hk⟩:=x.done
 subst VW
 have M0:s.heap.objs.size≤g'.L:=x.toInCall.fresh
 have Ud:∀p∈cS cs MZ,g'.L<p.1:=fun p hp=>by
  obtain⟨q,hq,rfl⟩:=N5.mp hp
  exact x.above q.1 q.2 hq
 have R5:∀p∈cS cs MZ,s.heap.objs.size≤p.1:=fun p hp=>E2 M0 (YA (Ud p hp))
 have rk:=r.keeps hk tk fun h=>J3 h jW
 have all:∀ {P:Addr×AO→Prop},(∀p∈cS cs MZ,P p)→(∀p∈mem,P p)→∀p∈cS cs MZ++mem,P p:=fun a b p hp=> (Yf.mp hp).elim (a p) (b p)
 exact
 {hP:=rk.hP,hF:=rk.hF,hK:=VT▸rk.hK,pf:=rk.pf
  hm:=all (fun p hp=>by
    obtain⟨q,hq,rfl⟩:=N5.mp hp
    obtain⟨o,ho,hd⟩:=x.cell q.1 q.2 (lookup_of_mem_nodup KJ hq)
    exact⟨o,_,ho,hd,h2 _⟩) rk.hm
  ap:=all (fun p hp=> ⟨aO r.hP (R5 p hp),aO r.hF (R5 p hp)⟩) rk.ap
  nd:=by
   rw[N9,qQ]
   refine aa1.mpr ⟨ZZ.mpr (abH.mpr x.apart),r.nd,fun a ha b hb e=>?_⟩
   obtain⟨q,hq,e1⟩:=N5.mp ha
   obtain⟨p,hp,e2⟩:=N5.mp hb
   exact aai _ (Yv (E2 (E2 M0 (YA (x.above q.1 q.2 hq))) (X7 (e1.trans (e.trans e2.symm)))) (r.j3 hp))
  tk:=rk.tk,gens:=r.gens,os:=VU▸r.os
  tab:=R4▸rk.tab
  cM:=R4▸fun t ht=> ⟨(r.cM t ht).1,(r.cM t ht).2.1,all (fun p hp=>Zn (J3 (r.j4 ht) (R5 p hp))) (r.cM t ht).2.2⟩
  ns:=⟨m,x.toInCall.ns,fun p hp=>hv p hp▸h1 p.1⟩
  nv:=NA
  gH:=aO r.hP M0,gL:=aO r.hF M0
  fX:=all (fun p hp=>Zn (Ud p hp)) fun p hp=>Yp (J3 (r.j3 hp) M0)
  gI:=R4▸fun t ht=>Yp (J3 (r.j4 ht) M0) }
def Ends(mem:Mem)(Q:AV→Mem→Prop):f9→AS→Prop
 | .ret x,st=> ∃mem',mem'.Sublist st.mem∧Q x mem'
 | .next,st=> ∃mem',mem'.Sublist st.mem∧Q .none mem'
 | _,_=>False
theorem eN.at{F:FM}(r:RepM g F mem s){q:Str}(x:eN F cd q):s.heap.CodeRec cd q:=
 x.rec fun c o vs t a b d e=> ⟨c,o,vs,t,a,r.hF _ _ b,d,e⟩
theorem eN.Ue{F:FM}(r:RepM g F mem s){q:Str}(x:eN g.K cd q):eN F cd q:=x.bA r.hK
structure fB(g g':Gd):Prop where
 prog:g'.prog=g.prog
 w:g'.w=g.w
 K:g'.K=g.K
 os:g'.os=g.os
 gl:g'.gl=g.gl
 bl:g'.bl=g.bl
 tabs:g'.tabs=g.tabs
 n:g'.n=g.n - 1
theorem Gg.of{g g':Gd}{GL:List (Str×Value)}(h:Gg g GL)(e1:g'.gl=g.gl)(e2:g'.bl=g.bl):Gg g' GL:=fun p hp=>by
 unfold j5
 rw[e1,e2];exact h p hp
inductive FnAt(K:FM)(a:Addr)(f:FI)(qual:Str)(dV kV:Value):Prop
 | mk (o:Obj) (body:List Stmt) (doc pm:Value) (an:Option Addr) (d9 ct:Value) (b:f.body= .stmts body) (h:K.f a=some o) (d:o.data= .func (fnX f.name qual f.params body f.scope [] dV kV doc pm an d9 ct)) (c:eN K d9 qual)
noncomputable def c9(names:List (Str×NameKind)):Bool:=
 decide ((names.map (·.1)).Nodup)&&names.all fun p=>decide (names.lookup p.1=some p.2)&& (!(p.1==("__debug__" :Str))&&!(p.1==("__classdict__" :Str)))
noncomputable def lM(names qG:List (Str×NameKind)):Bool:=qG.all fun p=>decide (names.lookup p.1=some p.2)&& (!(p.1==("__debug__" :Str))&&!(p.1==("__classdict__" :Str)))
theorem lM.at{names qG:List (Str×NameKind)}(h:lM names qG=true){p:Str×NameKind}(hp:p∈qG):names.lookup p.1=some p.2∧(p.1==("__debug__" :Str))=false∧(p.1==("__classdict__" :Str))=false:=
 have h:=E3.mp (E9.mp h p hp)
 have h2:=E3.mp h.2
 ⟨Yr h.1,nt h2.1,nt h2.2⟩
theorem B'{env:Env}{qG:List (Str×NameKind)}{cs:List (Str×Addr)}(hk:lM env.scope.names qG=true)(hc:env.cells=cs)(tn:(cs.map (·.1)).Nodup):Kn env qG cs:=
 ⟨fun p hp=> .inl (lM.at hk hp).1,fun p hp=> (lM.at hk hp).2,fun x k O O c hx=>hc▸lookup_of_mem_nodup tn hx⟩
theorem uP{g:Gd}(hn:1≤g.n){F:FM}{Q:AV→Mem→Prop}(r:RepM g F mem s){scope:Scope}{bs:List (Str×Value)}{a:Addr}{body:List Stmt}{R:Result→Shared→Prop}{E:Value→Shared→Prop}{as:List (Str×AV)}{ls:dL}{qG:List (Str×NameKind)}(KL:BR F as bs)(hk:scope.kind= .function)(yH:lM scope.names qG=true)(i3:(as.all fun x=>decide (scope.names.lookup x.1=some .local)||decide (scope.names.lookup x.1=some .cell))=true)(M1:(ls.map fun p=> (p.1,lK (scope.names.lookup ·) as (fun O=>none) p.1))=ls)(Ca:decide ((ls.map (·.1)).Nodup)=true)(Cb:decide (((cellsFrom 0 scope.names []).map (·.1)).Nodup)=true)(h:∀(g':Gd) env,fB g g'→bI g' env→Kn env qG (cellsFrom (s.heap.objs.size+1) scope.names [])→(∀x,env.kindOf x=scope.names.lookup x)→env.code=d9→env.qual=qual→
   W0 g' FR (execs body env) ⟨ls,cS (cellsFrom (s.heap.objs.size+1) scope.names []) (lL (scope.names.lookup ·) as fun O=>none)++mem⟩ (Ends VX Q)) (k:∀F' x v mem' s',FM.le F F'→RepM g F' mem' s'→VR F' x v→Q x mem'→R (.ok (.ret v)) s'):
  wpAny (model g.prog g.w) g.A.in1 (newFunctionEnv scope mainGlobals [] bs qual (some a) d9 none builtinsNs) (fun env s₂=>s₂.heap.NoLimit∧codeAny (model g.prog g.w) g.A (.func body env) R s₂) E s:=by
 refine cQ (wpAny_newFunctionEnv_cells hk (fun y hy=>?_) fun env he s₁ x jW=>?_)
 ·obtain⟨z,hz,e⟩:=N5.mp (KL.names▸aab hy:y.1∈as.map (·.1))
  rw[← e]
  rcases aaz.mp (E9.mp i3 z hz) with h1 | h1
  ·exact .inl (Yr h1)
  ·exact .inr ⟨Yr h1,cellsFrom_some _ _ _ (.inl (Yr h1))⟩
 ·subst he
  have Q9:((cellsFrom (s.heap.objs.size+1) scope.names []).map (·.1)).Nodup:=cellsFrom_names scope.names 0 (s.heap.objs.size+1) [] [] rfl▸Yr Cb
  refine⟨(g.KB _ r.bO).keeps x.toInCall.keep,codeAny_func ?_⟩
  refine h (g.callee hn s.heap.objs.size _) _ ⟨rfl,rfl,rfl,rfl,rfl,rfl,rfl,rfl⟩ ⟨rfl,hk,rfl,rfl⟩ (B' yH rfl Q9) (fun O=>rfl) rfl rfl F s₁
   (r.enter (g':=g.callee hn s.heap.objs.size _) rfl rfl rfl rfl x jW (rm _ as bs KL (fun O=>none) (fun O=>none) fun O=>True.intro) (rq _ as bs KL (fun O=>none) (fun O=>none) fun O=>True.intro) Q9 ls
    (fun p hp=>by rw[← M1] at hp;obtain⟨q,_,rfl⟩:=N5.mp hp;rfl) (Yr Ca)) _ _ fun F' f fl cg s' l r' hf hq=>?_
  cases f with
  | ret x=>
   obtain⟨v,rfl,hx⟩:=hf
   obtain⟨mem',hs,hq⟩:=hq
   exact k F' x v mem' s' l {r'.toRepM.sub hs with hm:=(r'.toRepM.sub hs).hm } hx hq
  | next=>
   cases(hf:_=_)
   obtain⟨mem',hs,hq⟩:=hq
   exact k F' .none .none mem' s' l {r'.toRepM.sub hs with hm:=(r'.toRepM.sub hs).hm } (BJ _) hq
  | brk=>exact hq.elim
  | cont=>exact hq.elim
def to(g:Gd)(a:Addr)(env:Env):Prop:= ∃o fd,g.K.f a=some o∧o.data= .func fd∧env.code=fd.code∧env.qual=fd.qualname++ ".<locals>."
def kO(g:Gd)(f:FI)(qual:Str)(dV kV:Value)(xs:List AV)(kn:List Str)(f_:List AV)(as:List (Str×AV)):Prop:=
 ∀(body:List Stmt) (F:FM) (s:Shared) vs kvs doc pm an d9 ct,(∀a o,g.K.f a=some o→s.heap.get? a=some o)→be F xs vs→be F f_ kvs→∃bs,BindsTo s (fnX f.name qual f.params body f.scope [] dV kV doc pm an d9 ct) ⟨vs,kn.zip kvs⟩ bs∧BR F as bs
theorem KM{g:Gd}(hn:1≤g.n){a:Addr}{kn:List Str}{Q:AV→Mem→Prop}(hf:FnAt g.K a f qual dV kV)(as:List (Str×AV))(ls:dL)(body:List Stmt)(fC:f.body= .stmts body)(i4:kO g f qual dV kV xs kn f_ as)(qG:List (Str×NameKind))(yH:lM f.scope.names qG=true)(i3:(as.all fun x=>decide (f.scope.names.lookup x.1=some .local)||decide (f.scope.names.lookup x.1=some .cell))=true)(M1:(ls.map fun p=> (p.1,lK (f.scope.names.lookup ·) as (fun O=>none) p.1))=ls)(Ca:decide ((ls.map (·.1)).Nodup)=true)(Cb:decide (((cellsFrom 0 f.scope.names []).map (·.1)).Nodup)=true)(h:∀(g':Gd) L env,fB g g'→bI g' env→Kn env qG (cellsFrom (L+1) f.scope.names [])→(∀x,env.kindOf x=f.scope.names.lookup x)→to g a env→
   W0 g' FR (execs body env) ⟨ls,cS (cellsFrom (L+1) f.scope.names []) (lL (f.scope.names.lookup ·) as fun O=>none)++mem⟩ (Ends mem Q)) (M2:f.scope.isCoroutine=false) (KN:f.scope.isGenerator=false) (hk:f.scope.kind= .function):
  WC g (.val (.ref a)) xs kn f_ mem Q:=by
 intro F s fv vs kvs r KO hv hG R k
 cases(KO:_=_)
 obtain⟨o,NC,doc,pm,an,d9,ct,Jb,ho,hd,BK⟩:=hf
 cases fC.symm.trans Jb
 obtain⟨bs,R6,KL⟩:=i4 body F s vs kvs doc pm an d9 ct r.bO hv hG
 exact⟨kj (r.bO _ _ ho) hd,codeAny_call_function (Yv (Yl _ _) g.hd) (r.bO _ _ ho) hd M2 KN rfl ((BK.Ue r).at r) (R6 _ _ _ _
  (uP hn r KL hk yH i3 M1 Ca Cb (fun g' env b e N kd h1 h2=>h g' _ env b e N kd ⟨o,_,ho,hd,h1,h2⟩) k))⟩
end
section
section
variable {g:Gd}{env:Env}{st:AS}
theorem i5{op:Operator}{a b c:Int}(h:Q (.int c) st)(hp:∀(A:Around) (s:Shared) (t u:Tok) (K:Value→Shared→Prop) (E:Value→Shared→Prop),K (.int c s.toks) {s with toks:=s.toks+1 }→wpAny (model g.prog g.w) A (binaryOp op (.int a t) (.int b u)) K E s):
  W2 g VR (binaryOp op) (.int a) (.int b) st Q:=fun F s v u r hv hu K E k=>by
 obtain⟨t,rfl⟩:=hv;obtain⟨t',rfl⟩:=hu
 exact hp _ s t t' K E (k F _ _ st _ (FM.le.refl _) (r.tok _ tp) (rj ..) h)
theorem Gk{op:Operator}{a b c:Int}(h:Q (.int c) st)(hp:∀(A:Around) (s:Shared) (t u:Tok) (K:Value→Shared→Prop) (E:Value→Shared→Prop),K (.int c s.toks) {s with toks:=s.toks+1 }→wpAny (model g.prog g.w) A (inplaceOp op (.int a t) (.int b u)) K E s):
  W2 g VR (inplaceOp op) (.int a) (.int b) st Q:=fun F s v u r hv hu K E k=>by
 obtain⟨t,rfl⟩:=hv;obtain⟨t',rfl⟩:=hu
 exact hp _ s t t' K E (k F _ _ st _ (FM.le.refl _) (r.tok _ tp) (rj ..) h)
theorem ND{a b:Int}(h:Q (.int (a+b)) st):W2 g VR (binaryOp .Add) (.int a) (.int b) st Q:=i5 h fun O O O O O O k=>PyProof.Rows.add_int k
theorem KP{a b:Int}(h:Q (.int (a+b)) st):W2 g VR (inplaceOp .Add) (.int a) (.int b) st Q:=Gk h fun O O O O O O k=>PyProof.Rows.iadd_int k
theorem NE{a b:Int}(h:Q (.int (a - b)) st):W2 g VR (binaryOp .Sub) (.int a) (.int b) st Q:=i5 h fun O O O O O O k=>PyProof.Rows.sub_int k
theorem NF{a b:Int}(hm:IntMulOk a b)(h:Q (.int (a*b)) st):W2 g VR (binaryOp .Mult) (.int a) (.int b) st Q:=i5 h fun O O O O O O k=>PyProof.Rows.mul_int k hm
theorem Jc{a b:Int}(hb:b≠0)(h:Q (.int (a.fmod b)) st):W2 g VR (binaryOp .Mod) (.int a) (.int b) st Q:=i5 h fun O O O O O O k=>PyProof.Rows.mod_int hb k
theorem NG{a b:Int}(hb:b≠0)(hs:b.natAbs<1073741824)(h:Q (.int (a.fdiv b)) st):W2 g VR (binaryOp .FloorDiv) (.int a) (.int b) st Q:=
 i5 h fun O O O O O O k=>PyProof.Rows.floordiv_int hb k (.inl (PyProof.noPylong_small hs))
theorem NH{a n:Int}(hn:0≤n)(hsz:(Builtin.Int.intBits a:Int)*n≤2 ^ 27)(h:Q (.int (a ^ n.toNat)) st):W2 g VR (binaryOp .Pow) (.int a) (.int n) st Q:=i5 h fun O O O O O O k=>PyProof.Rows.pow_int hn hsz k
theorem NI{a n:Int}(hn:0≤n)(h:Q (.int (a.fdiv (2 ^ n.toNat))) st):W2 g VR (binaryOp .RShift) (.int a) (.int n) st Q:=i5 h fun O O O O O O k=>PyProof.Rows.rshift_int hn k
theorem NJ{a b:Int}(h:Q (.int (Builtin.bitAnd a b)) st):W2 g VR (binaryOp .BitAnd) (.int a) (.int b) st Q:=i5 h fun O O O O O O k=>PyProof.Rows.and_int k
theorem NK{a:Int}(h:Q (.int (-a)) st):W1 g VR (unaryOp .USub) (.int a) st Q:=fun F s v r hv K E k=>by
 obtain⟨t,rfl⟩:=hv
 exact PyProof.Rows.neg_int (k F _ _ st _ (FM.le.refl _) (r.tok _ tp) (rj ..) h)
theorem lN{op:CmpOp}{a b:Int}{c:Bool}(h:Q (.bool c) st)(hp:∀(A:Around) (s:Shared) (t u:Tok) (K:Value→Shared→Prop) (E:Value→Shared→Prop),K (.bool c) s→wpAny (model g.prog g.w) A (compareOp op (.int a t) (.int b u)) K E s):
  W2 g VR (compareOp op) (.int a) (.int b) st Q:=fun F s v u r hv hu K E k=>by
 obtain⟨t,rfl⟩:=hv;obtain⟨t',rfl⟩:=hu
 exact hp _ s t t' K E (k F _ _ st _ (FM.le.refl _) r (ot ..) h)
theorem NL{a b:Int}(h:Q (.bool (decide (a<b))) st):W2 g VR (compareOp .Lt) (.int a) (.int b) st Q:=lN h fun O O O O O O k=>PyProof.Rows.lt_int k
theorem R7{a b:Int}(h:Q (.bool (decide (b<a))) st):W2 g VR (compareOp .Gt) (.int a) (.int b) st Q:=lN h fun O O O O O O k=>PyProof.Rows.gt_int k
theorem R8{a b:Int}(h:Q (.bool (decide (a≤b))) st):W2 g VR (compareOp .LtE) (.int a) (.int b) st Q:=lN h fun O O O O O O k=>PyProof.Rows.le_int k
theorem R9{a b:Int}(h:Q (.bool (decide (b≤a))) st):W2 g VR (compareOp .GtE) (.int a) (.int b) st Q:=lN h fun O O O O O O k=>PyProof.Rows.ge_int k
theorem R_{a b:Int}(h:Q (.bool (a==b)) st):W2 g VR (compareOp .Eq) (.int a) (.int b) st Q:=lN h fun O O O O O O k=>PyProof.Rows.eq_int k
theorem Sa{a b:Int}(h:Q (.bool (a !=b)) st):W2 g VR (compareOp .NotEq) (.int a) (.int b) st Q:=lN h fun O O O O O O k=>PyProof.Rows.ne_int k
theorem tt{a:Int}(h:Q (a !=0) st):W1 g RQ truthy (.int a) st Q:=fun F s v r hv K E k=>by
 obtain⟨t,rfl⟩:=hv
 exact PySem.P.truthy_int (k F _ _ st _ (FM.le.refl _) r rfl h)
theorem lO{b:Bool}(hx:∀F v,VR F x v→(v==Value.none)=b)(h:Q (.bool b) st):W2 g VR (compareOp .Is) x .none st Q:=fun F s v u r hv hu K E k=>by
 cases(hu:_=_)
 exact is_none (by rw[hx F v hv];exact k F _ _ st _ (FM.le.refl _) r (ot ..) h)
theorem hY{b:Bool}(hx:∀F v,VR F x v→(v==Value.none)=b)(h:Q (.bool (!b)) st):W2 g VR (compareOp .IsNot) x .none st Q:=fun F s v u r hv hu K E k=>by
 cases(hu:_=_)
 exact isNot_none (by rw[hx F v hv];exact k F _ _ st _ (FM.le.refl _) r (ot ..) h)
theorem Jd(h:Q (.bool (x==y)) st):W2 g VR (compareOp .Eq) (.str x) (.str y) st Q:=fun F s v u r hv hu K E k=>by
 obtain⟨t,rfl⟩:=hv;obtain⟨t',rfl⟩:=hu
 exact PyProof.Rows.eq_str (k F _ _ st _ (FM.le.refl _) r (ot ..) h)
theorem NM(h:Q (.bool (x !=y)) st):W2 g VR (compareOp .NotEq) (.str x) (.str y) st Q:=fun F s v u r hv hu K E k=>by
 obtain⟨t,rfl⟩:=hv;obtain⟨t',rfl⟩:=hu
 exact PyProof.Rows.ne_str (k F _ _ st _ (FM.le.refl _) r (ot ..) h)
theorem KQ{x y:Str}(hsz:x.length+y.length≤sizeLine)(h:Q (.str (x++y)) st):W2 g VR (binaryOp .Add) (.str x) (.str y) st Q:=fun F s v u r hv hu K E k=>by
 obtain⟨t,rfl⟩:=hv;obtain⟨t',rfl⟩:=hu
 exact cQ (PyProof.Rows.add_str (fun t' tk jW=>k F _ _ st _ (FM.le.refl _) (r.tok _ fun q=>J3 q jW) (BH ..) h) hsz)
theorem NN{F:FM}(r:RepM g F mem s)(hv:VR F (.tup l) v):∃a items,v= .ref a∧s.heap.IsTuple a items∧be F l items.toList:=
 yE.rec (fun a items n e h i=> ⟨a,items,e,⟨_,r.hF _ _ h,rfl,n,rfl⟩,i⟩) hv
theorem rt{F:FM}(r:RepM g F mem s){a:Addr}(hm:(a,AO.list l)∈mem):∃items,s.heap.IsList a items∧be F l items.toList:=
 ou.rec (fun items n e h=> ⟨items,⟨_,e,rfl,n,rfl⟩,h⟩) (r.hm _ hm)
theorem uQ{h:Heap}{a:Addr}{items:Array Value}(x:h.IsTuple a items):IsTup h a items:=by
 obtain⟨o,e,c,n,d⟩:=x
 exact⟨o,e,c,n,d⟩
theorem be.size{F:FM}{items:Array Value}(h:be F l items.toList):items.size=l.length:=by have:=h.length;simpa using this
theorem be.at{F:FM}{items:Array Value}(h:be F l items.toList){i:Nat}(e:l[i]? =some x):∃v,items[i]? =some v∧VR F x v:=by
 obtain⟨v,e',hv⟩:=h.get e
 exact⟨v,by simpa using e',hv⟩
inductive cJ:AV→List AV→Mem→Prop
 | lst (l:List AV) (mem:Mem):cJ (.lst l) l mem
 | mem {a:Addr} {l:List AV} {mem:Mem} (h:(a,AO.list l)∈mem):cJ (.val (.ref a)) l mem
inductive Uf(F:FM)(s:Shared)(l:List AV)(v:Value):Prop
 | mk (a:Addr) (items:Array Value) (n:Nat) (e:v= .ref a) (h:s.heap.get? a=some (cE items n)) (r:be F l items.toList)
theorem cJ.at{F:FM}{mem:Mem}{s:Shared}{a:AV}{l:List AV}{v:Value}(h:cJ a l mem)(r:RepM g F mem s)(hv:VR F a v):Uf F s l v:=by
 cases h with
 | lst=>exact yE.rec (fun a items n e h i=> ⟨a,items,n,e,r.hF _ _ h,i⟩) hv
 | mem hm=>exact ou.rec (fun items n e h=> ⟨_,items,n,hv,e,h⟩) (r.hm _ hm)
noncomputable def d5(l:List AV)(k:Int):Option AV:=(seqIndex? k l.length).bind (l[·]?)
theorem fD{k:Nat}(h:l[k]? =some x):d5 l (k:Int)=some x:=by
 unfold d5
 rw[PySem.seqIndex_of (N3 k) (Yd.mpr (Ym.mp h).1)]
 exact h
theorem Ug{α:Type}{c:Bool}{x y:α}:(if c=true then some x else none)=some y→c=true∧x=y:=by
 cases c
 ·exact fun h=>nomatch h
 ·exact fun h=> ⟨rfl,YB h⟩
theorem wV{a b:Prop}[Decidable a][Decidable b](h:(decide a&&decide b)=true):a∧b:=⟨Yr (E3.mp h).1,Yr (E3.mp h).2⟩
theorem i6{k:Int}{n j:Nat}(h:seqIndex? k n=some j):j<n∧((0≤k∧(j:Int)=k)∨(k<0∧(j:Int)=k+n)):=by
 by_cases hk:k<0
 ·obtain⟨c,rfl⟩:=Ug (show(if(decide (0≤k+n)&&decide (k+n<n))=true then some (k+(n:Int)).toNat else none)=some j by rw[← h,seqIndex?,X6 hk])
  exact⟨(Ze (wV c).1).mpr (wV c).2,.inr ⟨hk,Yx (wV c).1⟩⟩
 ·obtain⟨c,rfl⟩:=Ug (show(if(decide (0≤k)&&decide (k<n))=true then some k.toNat else none)=some j by rw[← h,seqIndex?,X5 hk])
  exact⟨(Ze (wV c).1).mpr (wV c).2,.inl ⟨(wV c).1,Yx (wV c).1⟩⟩
theorem Cc{a n:Nat}(h:a<n)(hn:n≤sizeLine):(a:Int)<2 ^ 63:=Yd.mpr (J3 h (E2 hn (E1 rfl)))
theorem tw{k:Int}{j n:Nat}(h:(j:Int)=k+n)(hn:n≤sizeLine):-(n:Int)≤k∧-2 ^ 63≤k:=
 have h1:-(n:Int)≤k:=Int.neg_le_of_neg_le (Int.le_of_sub_nonneg (by rw[Int.sub_neg,Int.add_comm,← h];exact N3 j))
 ⟨h1,Y' (Int.neg_le_neg (YH.mpr (E2 hn (E1 rfl:sizeLine≤2 ^ 63)))) h1⟩
theorem wW{k:Int}{n j:Nat}(h:seqIndex? k n=some j)(hn:n≤sizeLine):-2 ^ 63≤k∧k<2 ^ 63:=
 have h:=i6 h
 ⟨h.2.elim (fun q=>Y' (by decide) q.1) fun q=> (tw q.2 hn).2,h.2.elim (fun q=>q.2▸Cc h.1 hn) fun q=>YT q.1 (by decide)⟩
theorem uR{prog:Program}{w:World}{E:Value→Shared→Prop}{s:Shared}{l:Addr}{items:Array Value}{k:Int}{t:Tok}{j:Nat}{Q:Value→Shared→Prop}(hl:s.heap.IsList l items)(hj:seqIndex? k items.size=some j)(hsz:items.size≤sizeLine)(hx:items[j]? =some x)(h:Q x s):wpAny (model prog w) A (getItem (.ref l) (.int k t)) Q E s:=by
 obtain⟨hr,⟨h0,rfl⟩ |⟨h0,h1⟩⟩:=i6 hj
 ·exact wpAny_getItem_list hl h0 (Cc hr hsz) hx h
 ·exact wpAny_getItem_list_neg hl h0 (tw h1 hsz).1 (tw h1 hsz).2 (by rw[← h1];exact hx) h
theorem Cd{α β:Type}{o:Option α}{f:α→Option β}{x:β}(h:o.bind f=some x):∃a,o=some a∧f a=some x:=by
 cases o with
 | none=>cases h
 | some a=>exact⟨a,rfl,h⟩
theorem Aj{k:Int}(hL:cJ a l st.mem)(hsz:l.length≤sizeLine)(hx:d5 l k=some x)(h:Q x st):W2 g VR getItem a (.int k) st Q:=fun F s v u r hv hu K E kk=>by
 obtain⟨a,items,n,rfl,hl,hi⟩:=hL.at r.toRepM hv
 obtain⟨t,rfl⟩:=hu
 obtain⟨j,hj,hx⟩:=Cd hx
 obtain⟨v,hv,hr⟩:=hi.at hx
 exact uR ⟨_,hl,rfl,n,rfl⟩ (hi.size▸hj) (hi.size▸hsz) hv (kk F _ _ st _ (FM.le.refl _) r hr h)
theorem kt{l:List AV}{k:Int}(hsz:l.length≤sizeLine)(hx:d5 l k=some x)(h:Q x st):W2 g VR getItem (.tup l) (.int k) st Q:=fun F s v u r hv hu K E kk=>by
 obtain⟨a,items,rfl,hl,hi⟩:=NN r.toRepM hv
 obtain⟨t,rfl⟩:=hu
 obtain⟨j,hj,hx⟩:=Cd hx
 obtain⟨v,hv,hr⟩:=hi.at hx
 refine PyProof.Rows.getItem_tuple (uQ hl) (wW hj hsz).1 (wW hj hsz).2 (hi.size▸hj) hv (kk F _ _ st _ (FM.le.refl _) r hr h)
theorem w_sub{ay slice pos}(h:W0 g VR (eval ay env) st fun a aN=>W0 g VR (eval slice env) aN fun b a8=>W2 g VR (subscriptTail ay slice) a b a8 Q):
  W0 g VR (eval (.Subscript ay slice pos) env) st Q:=
 fun F s rr K E k=>Subscript_ (h F s rr _ E fun F1 a u aN s1 l1 r1 v1 h1=>h1 F1 s1 r1 _ E fun F2 b w a8 s2 l2 r2 v2 h2=>
  h2 F2 s2 u w r2 (v1.mono l2) v2 K E fun F3 c x gw s3 l3 r3 v3 h3=>k F3 c x gw s3 (l1.trans (l2.trans l3)) r3 v3 h3)
theorem ty{T id:String}(hT:∀F s v,Rep g F st s→VR F x v→s.TypeIs v T)(hl:typeLookup (.type T) "__getitem__" =pure (some (.builtin id)))(h:W2 g VR getItem x y st Q)(hs:∀o i,∃Ce,subscripted slice false o i=operate Ce (getItem o i)):W2 g VR (subscriptTail ay slice) x y st Q:=fun F s v u r hv hu K E k=>by
 obtain⟨Ce,e⟩:=hs v u
 exact tail_any (hT F s v r hv) hl (h F s v u r hv hu K E k) e
theorem NO{F:FM}(hL:cJ a l st.mem)(r:Rep g F st s)(hv:VR F a v):s.TypeIs v "list":=
 Uf.rec (fun a items n e h O=>e▸⟨_,h,rfl⟩) (hL.at r.toRepM hv)
theorem KR{F:FM}(r:Rep g F st s)(hv:VR F (.tup l) v):s.TypeIs v "tuple":=
 yE.rec (fun a items n e h i=>e▸⟨_,r.hF _ _ h,rfl⟩) hv
theorem KS{F:FM}(r:Rep g F st s)(hv:VR F (.str x) v):s.TypeIs v "str":=ZS hv fun t e=>e▸abm s x t
def Cf(slice:Expr):Prop:= ∀o i,∃Ce,subscripted slice false o i=operate Ce (getItem o i)
theorem ru(hL:cJ a l st.mem)(h:W2 g VR getItem a y st Q)(hs:Cf slice):W2 g VR (subscriptTail ay slice) a y st Q:=ty (fun F s v r hv=>NO hL r hv) slot_list_getitem.lookup h hs
theorem hZ(h:W2 g VR getItem (.tup l) y st Q)(hs:Cf slice):W2 g VR (subscriptTail ay slice) (.tup l) y st Q:=ty (fun F s v r hv=>KR r hv) slot_tuple_getitem.lookup h hs
theorem ku(h:W2 g VR getItem (.str x) y st Q)(hs:Cf slice):W2 g VR (subscriptTail ay slice) (.str x) y st Q:=ty (fun F s v r hv=>KS r hv) F.slot_str_getitem.lookup h hs
theorem uS(h:Q .none st):W0 g VR (evalPart none env) st Q:=fun F s r K E k=>by
 rw[evalPart_none];exact N7 (k F .none _ st s (FM.le.refl _) r (BJ _) h)
theorem uT{e}(h:W0 g VR (eval e env) st Q):W0 g VR (evalPart (some e) env) st Q:=h
theorem Gl{l u p3 pos}(h:W0 g VR (evalPart l env) st fun a aN=>W0 g VR (evalPart u env) aN fun b a8=>W0 g VR (evalPart p3 env) a8 fun c gw=>Q (.fx a b c) gw):
  W0 g VR (eval (.Slice l u p3 pos) env) st Q:=
 fun F s rr K E k=>wpAny_Slice (h F s rr _ E fun F1 a u aN s1 l1 r1 v1 h1=>h1 F1 s1 r1 _ E fun F2 b w a8 s2 l2 r2 v2 h2=>h2 F2 s2 r2 _ E fun F3 c x gw s3 l3 r3 v3 h3=>by
  obtain⟨r4,l4,e4⟩:=r3.alloc (o:=B3 u w x) rfl s3.toks id
  refine k _ (.fx a b c) _ gw _ (l1.trans (l2.trans (l3.trans l4))) r4 ?_ h3
  exact Q4.mk _ u w x rfl e4 (v1.mono (l2.trans (l3.trans l4))) (v2.mono (l3.trans l4)) (v3.mono l4))
inductive gf:AV→Option Int→Prop
 | none:gf .none none
 | int (i:Int):gf (.int i) (some i)
theorem gf.is{F:FM}{o:Option Int}(h:gf x o)(hv:VR F x v):IsPart v o:=by
 cases h with
 | none=>cases(hv:_=_);exact .none
 | int i=>obtain⟨t,rfl⟩:=hv;exact .int i t
noncomputable def aS(l:List AV)(lo hi step:Option Int):List AV:=
 (sliceRange (sliceBounds lo hi step l.length).1 (sliceBounds lo hi step l.length).2.1 (sliceBounds lo hi step l.length).2.2).filterMap (l[·]?)
theorem uU{F:FM}{vs:List Value}(h:be F l vs):∀is:List Nat,be F (is.filterMap (l[·]?)) (is.filterMap (vs[·]?))
 | []=>rfl
 | i::is=>by
  have ih:=uU h is
  rw[Ys,Ys]
  cases e:l[i]? with
  | none=>
   rw[Zk (E2 (X7 h.length) (aaB.mp e))]
   exact ih
  | some x=>
   obtain⟨v,e',hv⟩:=h.get e
   rw[e']
   exact f6 hv ih
theorem Ak{F:FM}{items:Array Value}(h:be F l items.toList)(lo hi step:Option Int):be F (aS l lo hi step) (slicePick items lo hi step).toList:=by
 unfold aS slicePick
 rw[h.size]
 have:=uU h (sliceRange (sliceBounds lo hi step l.length).1 (sliceBounds lo hi step l.length).2.1 (sliceBounds lo hi step l.length).2.2)
 simpa using this
theorem wX{lo hi step:Option Int}(hL:cJ a l st.mem)(hx:gf x lo)(hy:gf y hi)(hz:gf z step)(h0:step≠some 0)(hsz:l.length≤sizeLine)(h:Q (.lst (aS l lo hi step)) st):
  W2 g VR getItem a (.fx x y z) st Q:=fun F s v u r hv hu K E k=>by
 obtain⟨a,items,n,rfl,hl,Q_⟩:=hL.at r.toRepM hv
 obtain⟨b,p,q,t,rfl,hs,h1,h2,h3⟩:=hu
 refine wpAny_getItem_list_slice ⟨_,hl,rfl,n,rfl⟩ ⟨_,r.hF _ _ hs,rfl,rfl⟩ (hx.is h1) (hy.is h2) (hz.is h3) h0 ?_ (Q_.size▸hsz)
 obtain⟨r4,l4,e4⟩:=r.alloc (o:=cE (slicePick items lo hi step) 0) rfl s.toks id
 exact k _ _ _ st _ l4 r4 (Ky e4 ((Ak Q_ lo hi step).mono l4)) h
end
end
section
section
variable {g:Gd}{env:Env}{st:AS}
theorem bD{id:String}(h:Wl g VR (fun vs=>call (.builtin id) vs) xs st Q):b8 g (.val (.builtin id)) xs [] [] st Q:=
 fun F s f vs kvs r hf hv hk K E k=>by
  cases(hf:_=_)
  exact⟨wT,h F s vs r hv K E k⟩
theorem eI{id:String}(h:Wl g VR (fun vs=>call (.type id) vs) xs st Q):b8 g (.val (.type id)) xs [] [] st Q:=
 fun F s f vs kvs r hf hv hk K E k=>by
  cases(hf:_=_)
  exact⟨wS,h F s vs r hv K E k⟩
theorem NP{F:FM}{vs:List Value}(h:be F [x] vs):∃v,vs=[v]∧VR F x v:=iW.rec (fun v r e h1 h2=> ⟨v,(h2:r=[])▸e,h1⟩) h
theorem Sb{F:FM}{vs:List Value}(h:be F [x,y] vs):∃v u,vs=[v,u]∧VR F x v∧VR F y u:=iW.rec (fun v r e h1 h2=>let⟨u,e2,h3⟩:=NP h2;⟨v,u,e2▸e,h1,h3⟩) h
theorem uV{α β:Type}{R:FM→β→α→Prop}{f:List Value→Sem α}{Q:β→AS→Prop}(h:W1 g R (fun v=>f [v]) x st Q):Wl g R f [x] st Q:=fun F s vs r hv K E k=>
 let⟨v,e,hv⟩:=NP hv
 e▸h F s v r hv K E k
theorem Gm{α β:Type}{R:FM→β→α→Prop}{f:List Value→Sem α}{Q:β→AS→Prop}(h:W2 g R (fun v u=>f [v,u]) x y st Q):Wl g R f [x,y] st Q:=fun F s vs r hv K E k=>
 let⟨v,u,e,hv,hu⟩:=Sb hv
 e▸h F s v u r hv hu K E k
theorem Je{n:Nat}(h:n≤sizeLine):(n:Int)<2 ^ 63:=Yd.mpr (Yv h (E1 rfl))
theorem Al(h1:cJ a l st.mem)(h2:cJ b m st.mem)(hsz:l.length+m.length≤sizeLine)(h:Q (.lst (l++m)) st):W2 g VR (binaryOp .Add) a b st Q:=fun F s v u r hv hu K E k=>by
 obtain⟨a,items,n,rfl,hl,hi⟩:=h1.at r.toRepM hv
 obtain⟨b,cT,n2,rfl,wY,wK⟩:=h2.at r.toRepM hu
 refine PySem.P.add_list hl wY ?_ (hi.size▸wK.size▸hsz)
 obtain⟨r4,l4,e4⟩:=r.alloc (o:=cE (items++cT) 0) rfl s.toks id
 exact k _ _ _ st _ l4 r4 (Ky e4 (by rw[ZN];exact(hi.append wK).mono l4)) h
theorem Cg(hL:cJ a l st.mem)(hsz:l.length≤sizeLine)(h:Q (.int l.length) st):Wl g VR (fun vs=>call (.builtin "len") vs) [a] st Q:=uV fun F s v r hv K E k=>by
 obtain⟨a,items,n,rfl,hl,hi⟩:=hL.at r.toRepM hv
 exact PyProof.Rows.len_list ⟨_,hl,rfl,n,rfl⟩ (hi.size▸Je hsz) (hi.size.symm▸k F _ _ st _ (FM.le.refl _) (r.tok _ tp) (rj ..) h)
theorem Am{x:Str}(hsz:x.length≤sizeLine)(h:Q (.int x.length) st):Wl g VR (fun vs=>call (.builtin "len") vs) [.str x] st Q:=uV fun F s v r hv K E k=>by
 obtain⟨t,rfl⟩:=hv
 exact PySem.P.len_str (abO.mpr (Je hsz)) (k F _ _ st _ (FM.le.refl _) (r.tok _ tp) (rj ..) h)
theorem wZ{a:Addr}{id:String}(hm:(a,AO.list l)∈st.mem)(slot:Slot "list" name id)(Sc:typeOf (.builtin id)=pure (.type "method_descriptor")):
  gd g (.val (.ref a)) name (.val (.builtin id)) [.val (.ref a)] st:=fun F s v pl r hv K E k=>by
 cases(hv:_=_)
 obtain⟨items,n,e,h⟩:=r.hm _ hm
 exact aa2 ⟨_,e,rfl⟩ PySem.F.plainAttrs_list slot Sc (fun b eb=>by cases eb;exact⟨_,e,rfl⟩) (k F _ _ s (FM.le.refl _) r (nH ..) (f6 (nH ..) iX))
theorem kP{a:Addr}{vars}(u:Upd mem a (.list l) (.list (l++ [x])) mem')(hsz:l.length≤sizeLine)(h:Q .none ⟨vars,mem'⟩):
  Wl g VR (fun vs=>call (.builtin "list.append") vs) [.val (.ref a),x] ⟨vars,mem⟩ Q:=Gm fun F s v w r hv hw K E k=>by
 cases(hv:_=_)
 obtain⟨items,n,e,hi⟩:=r.hm _ u.mem
 exact wpAny_list_append_plain ⟨n,e⟩ (fun h' hp hs=>k F .none _ _ _ (FM.le.refl _) (r.turn u hs (hp.elim fun n' e'=> ⟨_,n',e',by rw[Array.toList_push];exact hi.append (f6 hw iX)⟩) s.toks id) (BJ _) h) (hi.size▸hsz)
end
end
section
theorem cH(e:bI g env):interactive env=false:=by
 unfold interactive
 rw[e.kind];rfl
theorem Ci{A B:Prop}(h:A):(if(true:Bool)=true then A else B):=h
theorem Gn{A B:Prop}(h:B):(if(false:Bool)=true then A else B):=h
end
section
theorem Go(l:List AV)(a b:Nat):(sliceRange (a:Int) (b:Int) 1).filterMap (l[·]?)=(l.drop a).take (b - a):=by
 rw[sliceRange_one]
 have:=pick_run l.toArray a (b - a)
 simpa using this
theorem yI(a b:Nat):((min a b:Nat):Int)=min (a:Int) (b:Int):=by
 rcases abQ a b with h | h
 ·rw[ZG h,Int.min_eq_left (YH.mpr h)]
 ·rw[aax h,Int.min_eq_right (YH.mpr h)]
theorem jA{k:Int}{n:Nat}(h:0≤k):max 0 (min (if k<0 then k+n else k) n)=((min k.toNat n:Nat):Int):=by
 rw[X5 (YI.mpr h),yI,Yx h,← Yx h,← yI]
 exact Int.max_eq_right (N3 _)
theorem tz{k:Int}{n:Nat}(h:k<0)(hl:-(n:Int)≤k):max 0 (min (if k<0 then k+n else k) n)=(((n:Int)+k).toNat:Int):=by
 have h0:0≤(n:Int)+k:=Int.add_nonneg_iff_neg_le'.mpr hl
 rw[X6 h,Yx h0,Int.add_comm k,Int.min_eq_left (Int.add_zero (n:Int)▸Y0 (Z9 h) (n:Int))]
 exact Int.max_eq_right h0
theorem ea(l:List AV)(lo hi:Option Int)(a b:Nat)(h:sliceBounds lo hi none l.length=((a:Int),(b:Int),1)):aS l lo hi none=(l.drop a).take (b - a):=by
 unfold aS
 rw[h]
 exact Go l a b
theorem fE(l:List AV){k:Int}(h:0≤k):aS l (some k) none none=l.drop k.toNat:=by
 rw[ea l (some k) none (min k.toNat l.length) l.length (E8 (·,(l.length:Int),(1:Int)) (jA h)),YN (X7 YJ)]
 exact List.drop_eq_drop_min.symm
theorem oF(l:List AV){k:Int}(h:0≤k):aS l none (some k) none=l.take k.toNat:=
 (ea l none (some k) 0 (min k.toNat l.length) (E8 (fun x:Int=> ((0:Int),x,(1:Int))) (jA h))).trans abj.symm
theorem w7(l:List AV){i k:Int}(hi:0≤i)(h:0≤k):aS l (some i) (some k) none=(l.take k.toNat).drop i.toNat:=by
 rw[ea l (some i) (some k) (min i.toNat l.length) (min k.toNat l.length) ((E8 (fun x:Int=> (max 0 (min (if i<0 then i+l.length else i) l.length),x,(1:Int))) (jA h)).trans (E8 (·,((min k.toNat l.length:Nat):Int),(1:Int)) (jA hi))),← List.drop_take,← abj]
 rcases abQ i.toNat l.length with h1 | h1
 ·rw[ZG h1]
 ·have e:(l.take k.toNat).length≤l.length:=abn ..
  rw[aax h1,aan e,aan (E2 e h1)]
theorem An(l:List AV):aS l none none none=l:=(ea l none none 0 l.length rfl).trans (YN (N1 _))
theorem Ao(l:List AV){i k:Int}(hi:i<0)(h:k<0)(hl:-(l.length:Int)≤i)(hk:i≤k):aS l (some i) (some k) none=(l.drop (l.length+i).toNat).take (k - i).toNat:=by
 rw[ea l (some i) (some k) (l.length+i).toNat (l.length+k).toNat ((E8 (fun x:Int=> (max 0 (min (if i<0 then i+l.length else i) l.length),x,(1:Int))) (tz h (Y' hl hk))).trans (E8 (·,(((l.length:Int)+k).toNat:Int),(1:Int)) (tz hi hl)))]
 have e:(l.length:Int)+k=(l.length+i)+(k - i):=by rw[Int.add_assoc,Int.add_comm i,Int.sub_add_cancel]
 rw[e,Int.toNat_add (Int.add_nonneg_iff_neg_le'.mpr hl) (Int.sub_nonneg.mpr hk),aag]
theorem uW(l:List AV){k:Int}(h:k<0)(hl:-(l.length:Int)≤k):aS l none (some k) none=l.take (l.length+k).toNat:=
 ea l none (some k) 0 (l.length+k).toNat (E8 (fun x:Int=> ((0:Int),x,(1:Int))) (tz h hl))
end
section
section
variable {g:Gd}{env:Env}{st:AS}
theorem gO{x v}{names cs}(e:bI g env)(hv:(x,some v)∈st.vars)(h:Q v st):Ld g env names cs x .local st Q:=fun N hm=>RS e N hm hv h
theorem ldc{x v c}{names cs}(e:bI g env)(hc:(x,c)∈cs)(hm:(c,AO.cell (some v))∈st.mem)(h:Q v st):Ld g env names cs x .cell st Q:=fun N hn=>RT e N hn hc hm h
theorem Sd{x v c}{names cs}(e:bI g env)(hc:(x,c)∈cs)(hm:(c,AO.cell (some v))∈st.mem)(h:Q v st):Ld g env names cs x .free st Q:=fun N hn=>RU e N hn hc hm h
theorem Cj{x v}{GL names cs}(e:bI g env)(G:Gg g GL)(hv:(x,v)∈GL)(h:Q (.val v) st):Ld g env names cs x .globalImplicit st Q:=fun N hn=>RW e G N hn hv h
end
noncomputable def kd{α:Type}(k:NameKind)(l c o:α):α:=match k with
 | .local=>l
 | .cell=>c
 | _=>o
noncomputable def oG(names:List (Str×NameKind)):List AV→dL:=names.rec (fun O=>[]) fun p O ih vs=>kd p.2 ((p.1,vs.head?)::ih vs.tail) (ih vs.tail) (ih vs)
noncomputable def rx(n:Nat)(names:List (Str×NameKind)):List AV→Mem→Mem:=names.rec (motive:=fun O=>Nat→List AV→Mem→Mem) (fun O O m=>m) (fun p O ih n vs m=>kd p.2 (ih n vs.tail m) (ih (n+1) vs.tail ((n,.cell vs.head?)::m)) (ih n vs m)) n
noncomputable def dM(names:List (Str×NameKind))(jX:List AV):List (Str×AV):=(names.map (·.1)).zip jX
noncomputable def Se(names qG:List (Str×NameKind))(jX:List AV):Bool×Bool×Bool×Bool×dL×(Addr→Mem):=
 (lM names qG,(dM names jX).all (fun x=>decide (names.lookup x.1=some .local)||decide (names.lookup x.1=some .cell)),decide (((oG names jX).map (·.1)).Nodup),decide (((cellsFrom 0 names []).map (·.1)).Nodup),
  (oG names jX).map (fun p=> (p.1,lK (names.lookup ·) (dM names jX) (fun O=>none) p.1)),fun L=>cS (cellsFrom (L+1) names []) (lL (names.lookup ·) (dM names jX) (fun O=>none)))
noncomputable def Sf(names:List (Str×NameKind))(jX:List AV):Bool×Bool×Bool×Bool×dL×(Addr→Mem):=(true,true,true,true,oG names jX,fun L=>rx (L+1) names jX [])
theorem oH{g:Gd}(hn:1≤g.n){a:Addr}{kn:List Str}{Q:AV→Mem→Prop}(hf:FnAt g.K a f qual dV kV)(qG:List (Str×NameKind))(jX:List AV){names:List (Str×NameKind)}{body:List Stmt}{more:List (Str×Const)}(fC:f.body= .stmts body)(w8:f.scope=⟨.function,names,false,false,more⟩)(i4:kO g f qual dV kV xs kn f_ (dM names jX))(hc:Se names qG jX=Sf names jX)(h:∀(g':Gd) L env,fB g g'→bI g' env→Kn env qG (cellsFrom (L+1) names [])→(∀x,env.kindOf x=names.lookup x)→to g a env→W0 g' FR (execs body env) ⟨oG names jX,rx (L+1) names jX []++mem⟩ (Ends mem Q)):
  WC g (.val (.ref a)) xs kn f_ mem Q:=by
 obtain⟨name,params,Uh,scope⟩:=f
 cases(w8:scope=_)
 have c:=YO hc
 have c2:=YO c.2
 have c3:=YO c2.2
 have c4:=YO c3.2
 have c5:=YO c4.2
 exact KM hn hf (dM names jX) (oG names jX) body fC i4 qG c.1 c2.1 c5.1 c3.1 c4.1 (fun g' L env b e k kd cq=>congrFun c5.2 L▸h g' L env b e k kd cq) rfl rfl rfl
theorem Ck{F:FM}{names:List (Str×NameKind)}:∀ {xs:List AV} {vs:List Value},be F xs vs→BR F (dM names xs) ((names.map (·.1)).zip vs):=by
 induction names with
 | nil=>intro xs vs _;rfl
 | cons n ns ih=>
  intro xs vs hv
  cases xs with
  | nil=>cases(hv:_=_);rfl
  | cons x xs=>
   obtain⟨v,r,rfl,h1,h2⟩:=hv
   exact RZ.mk v _ rfl h1 (ih h2)
theorem oJ{F:FM}{vs:List Value}{kvs:List Value}{fd:FuncData}{names:List (Str×NameKind)}(hv:be F xs vs)(hk:be F [] kvs)(hb:∀vs:List Value,vs.length=xs.length→BindsTo s fd ⟨vs,[]⟩ ((names.map (·.1)).zip vs)):∃bs,BindsTo s fd ⟨vs,([]:List Str).zip kvs⟩ bs∧BR F (dM names xs) bs:=
 ⟨_,hb vs hv.length,Ck hv⟩
end
section
structure eO(g:Gd)(F:FM)(st:AS)(fp:List Addr):Prop where
 P:∀a∈fp,F.P a=none
 f:∀a∈fp,F.f a=none
 L:∀a∈fp,a≠g.L
 m:∀a∈fp,∀p∈st.mem,p.1≠a
 t:∀a∈fp,∀t∈g.tabs,t.1≠a
theorem Rep.keepsBut{g:Gd}{F:FM}{st:AS}{s:Shared}{fp:List Addr}(r:Rep g F st s)(w:eO g F st fp){h':Heap}(hk:∀b o,b∉fp→s.heap.get? b=some o→h'.get? b=some o)(t:Nat)(KU:0<s.toks→0<t):Rep g F st {s with heap:=h',toks:=t }:=
 {hP:=fun a o e=>hk a o (fun hm=>qM (w.P a hm) e) (r.hP a o e)
  hF:=fun a o e=>hk a o (fun hm=>qM (w.f a hm) e) (r.hF a o e)
  hK:=r.hK,pf:=r.pf
  hm:=fun p hp=>
   have x:=r.hm p hp
   let⟨_,e⟩:=x.there
   x.mono (FM.le.refl _) ((hk _ _ (fun hm=>w.m _ hm p hp rfl) e).trans e.symm)
  ap:=r.ap,nd:=r.nd,tk:=KU r.tk,gens:=r.gens,os:=r.os
  tab:=fun p hp=>
   have x:=r.tab p hp
   x.rec fun O e O O=>x.mono (FM.le.refl _) ((hk _ _ (fun hm=>w.t _ hm p hp rfl) e).trans e.symm)
  cM:=r.cM
  ns:=let⟨m,a,b⟩:=r.ns;⟨m,a.at' fun o e=>hk _ o (fun hm=>w.L _ hm rfl) e,b⟩
  nv:=r.nv,gH:=r.gH,gL:=r.gL,fX:=r.fX,gI:=r.gI }
open Classical in
noncomputable def PM.over(P:PM)(h:Heap)(fp:List Addr):PM:=fun b=>if b∈fp then h.get? b else P b
theorem PM.yJ{P:PM}{fp:List Addr}{b:Addr}(hb:b∈fp):P.over h fp b=h.get? b:=by unfold PM.over;rw[X6 hb]
theorem PM.kQ{P:PM}{fp:List Addr}{b:Addr}(hb:b∉fp):P.over h fp b=P b:=by unfold PM.over;rw[X5 hb]
theorem PM.lQ{P:PM}{fp:List Addr}{b:Addr}(hb:∀a∈fp,a≠b)(e:P b=none):P.over h fp b=none:=(PM.kQ fun hm=>hb _ hm rfl).trans e
theorem Rep.Jf{g:Gd}{F:FM}{st:AS}{s:Shared}{fp:List Addr}(r:Rep g F st s)(w:eO g F st fp):Rep g ⟨F.P.over s.heap fp,F.f⟩ st s:=
 {r.toRepM.Q8 (P':=F.P.over s.heap fp) (fun a o e=>by
   by_cases ha:a∈fp
   ·exact⟨(PM.yJ ha).symm.trans e,w.f a ha⟩
   ·have e':=(PM.kQ ha).symm.trans e
    exact⟨r.hP a o e',r.pf a o e'⟩) (fun p hp=>PM.lQ (fun a hm q=>w.m _ hm p hp q.symm) (r.ap p hp).1) fun p hp=>PM.lQ (fun a hm q=>w.t _ hm p hp q.symm) (r.cM p hp).1 with
  ns:=let⟨m,x,y⟩:=r.ns;⟨m,x,fun z hz=>kh.bA (F:=F) (G:=⟨F.P.over s.heap fp,F.f⟩) (fun O O h=>h) (y z hz)⟩
  nv:=r.nv,gH:=PM.lQ w.L r.gH,gL:=r.gL,fX:=r.fX,gI:=r.gI }
theorem Rep.Jg{g:Gd}{F F':FM}{st cg:AS}{s s':Shared}{fp:List Addr}(w:eO g F st fp)(ex:∀a∈fp,∃o,s.heap.get? a=some o)(r0:Rep g F st s)(hP:F'.P=F.P.over s.heap fp)(r:Rep g F' cg s'):
  Rep g ⟨F.P,F'.f⟩ cg s'∧eO g ⟨F.P,F'.f⟩ cg fp∧∀a∈fp,s'.heap.get? a=s.heap.get? a:=by
 have at':∀a∈fp,∃o,s.heap.get? a=some o∧F'.P a=some o:=fun a ha=> (ex a ha).imp fun o e=> ⟨e,(congrFun hP a).trans ((PM.yJ ha).trans e)⟩
 have keep:∀a o,F.P a=some o→F'.P a=some o:=fun a o e=> (congrFun hP a).trans ((PM.kQ fun hm=>qM (w.P a hm) e).trans e)
 have Gi:∀b,F'.P b=none→b∉fp∧F.P b=none:=fun b hb=>
  have hn:b∉fp:=fun hm=> (at' b hm).elim fun o e=>qM hb e.2
  ⟨hn,(PM.kQ hn).symm.trans ((congrFun hP b).symm.trans hb)⟩
 exact⟨{r.toRepM.Q8 (P':=F.P) (fun a o e=> ⟨r.hP a o (keep a o e),r.pf a o (keep a o e)⟩) (fun p hp=> (Gi _ (r.ap p hp).1).2) (fun p hp=> (Gi _ (r.cM p hp).1).2) with
   ns:=let⟨m,x,y⟩:=r.ns;⟨m,x,fun z hz=>kh.bA (F:=F') (G:=⟨F.P,F'.f⟩) (fun O O h=>h) (y z hz)⟩
   nv:=r.nv,gH:=(Gi _ r.gH).2,gL:=r.gL,fX:=r.fX,gI:=r.gI },
  ⟨w.P,fun a ha=> (at' a ha).elim fun o e=>r.pf _ _ e.2,fun a ha q=> (Gi _ r.gH).1 (q▸ha),fun a ha p hp q=> (Gi _ (r.ap p hp).1).1 (q▸ha),w.t⟩,
  fun a ha=> (at' a ha).elim fun o e=> (r.hP _ _ e.2).trans e.1.symm⟩
noncomputable def Gd.at(g:Gd)(L:Addr):Gd:= {g with L:=L }
structure BM(g:Gd)(it:Value)(fp:List Addr)(tg:Expr→Prop)(cy:Mem→Prop)(l:List AV)(St:Nat→FM→Heap→Prop):Prop where
 mono:∀i F F' h h',FM.lf F F'→(∀a∈fp,h'.get? a=h.get? a)→St i F h→St i F' h'
 ex:∀i F h,St i F h→∀a∈fp,∃o,h.get? a=some o
 self:∀(i:Nat) (F:FM) (s:Shared),(∀a o,F.f a=some o→s.heap.get? a=some o)→St i F s.heap→∀(K:Value→Shared→Prop) (E:Value→Shared→Prop),K it s→wpAny (model g.prog g.w) g.A (pyIter it) K E s
 next:∀(L:Addr) (aF:Expr) (i:Nat) (x:AV) F st s,tg aF→cy st.mem→Rep (g.at L) F st s→eO (g.at L) F st fp→St i F s.heap→l[i]? =some x→∀(K:Value→Shared→Prop) (E E':Value→Shared→Prop),
  (∀F' v s',FM.le F F'→Rep (g.at L) F' st s'→eO (g.at L) F' st fp→St (i+1) F' s'.heap→VR F' x v→K v s')→
  wpAny (model g.prog g.w) g.A (pyNext it) (fun r s1=> ∃v,r=some v∧wpAny (model g.prog g.w) g.A (letOwnedTupleGo aF it v) (fun O s2=>K v s2) E' s1) E s
 stop:∀(L:Addr) (i:Nat) F st s,cy st.mem→Rep (g.at L) F st s→eO (g.at L) F st fp→St i F s.heap→i=l.length→∀(K:Option Value→Shared→Prop) (E:Value→Shared→Prop),
  (∀h',(∀b o,b∉fp→s.heap.get? b=some o→h'.get? b=some o)→Rep (g.at L) F st {s with heap:=h' }→K none {s with heap:=h' })→wpAny (model g.prog g.w) g.A (pyNext it) K E s
def dw(g:Gd)(x:AV)(st cg:AS)(tg:Expr→Prop)(cy:Mem→Prop)(l:List AV):Prop:=
 ∀F s v,Rep g F st s→VR F x v→∀(K:Value→Shared→Prop) (E:Value→Shared→Prop),
  (∀F' it fp St s',FM.le F F'→BM g it fp tg cy l St→Rep g F' cg s'→eO g F' cg fp→St 0 F' s'.heap→K it s')→wpAny (model g.prog g.w) g.A (pyIter v) K E s
def ry(g:Gd)(env:Env)(aF:Expr)(body:List Stmt)(x:AV)(st:AS)(Q:f9→AS→Prop):Prop:=
 ∀F s v,Rep g F st s→VR F x v→∀(K:Flow→Shared→Prop) (E E':Value→Shared→Prop),(∀F' b a cg s',FM.le F F'→Rep g F' cg s'→FR F' b a→Q b cg→K a s')→
  wpAny (model g.prog g.w) g.A (pyIter v) (fun it s2=>codeAny (model g.prog g.w) g.A (.forLoop aF it body [] env) (fun r s'=>match r with | .ok f=>K f s' | .error e=>E' e s') s2) E s
section
variable {g:Gd}{env:Env}{st:AS}
theorem uX{aF iter body pos}(h:W0 g VR (eval iter env) st fun x aN=>ry g env aF body x aN Q)(hs:∀x,foldedSetIterable iter env x=pure x:=by intro _;rfl):
  W0 g FR (exec (.For aF iter body [] pos) env) st Q:=fun F s r K E k=>
 wpAny_For (h F s r _ E fun F1 x v aN s1 l1 r1 v1 h1=>h1 F1 s1 v r1 v1 K E _ fun F' b a cg s' l r2 hf hq=>k F' b a cg s' (l1.trans l) r2 hf hq) hs
def TurnEnd(Inv:AS→Prop)(Q:f9→AS→Prop):f9→AS→Prop
 | .next,st=>Inv st
 | .cont,st=>Inv st
 | .brk,st=>Q .next st
 | .ret v,st=>Q (.ret v) st
def Wk(g:Gd)(st cg:AS):Prop:= ∀F s,Rep g F st s→∃F',FM.le F F'∧Rep g F' cg s
theorem BM.turn{fp:List Addr}{tg:Expr→Prop}{cy:Mem→Prop}{St:Nat→FM→Heap→Prop}(sr:BM g it fp tg cy l St){L:Addr}(ht:tg aF){i:Nat}(hi:i≤l.length){F:FM}{st:AS}(hn:cy st.mem)(r:Rep (g.at L) F st s)(w:eO (g.at L) F st fp)(hS:St i F s.heap){N:Shared→Prop}{B:Value→Shared→Prop}{E E':Value→Shared→Prop}(kv:i=l.length→∀h',(∀b o,b∉fp→s.heap.get? b=some o→h'.get? b=some o)→Rep (g.at L) F st {s with heap:=h' }→N {s with heap:=h' })(oK:∀y,l[i]? =some y→i<l.length→∀F1 v s3,FM.lf F F1→Rep (g.at L) F1 st s3→VR F1 y v→
   (∀F5 yK s5,FM.le F1 F5→Rep (g.at L) F5 yK s5→Rep (g.at L) ⟨F.P,F5.f⟩ yK s5∧eO (g.at L) ⟨F.P,F5.f⟩ yK fp∧St (i+1) ⟨F.P,F5.f⟩ s5.heap)→B v s3):
  wpAny (model g.prog g.w) g.A (pyNext it) (fun r s₁=>match r with
   | none=>N s₁
   | some v=>wpAny (model g.prog g.w) g.A (letOwnedTupleGo aF it v) (fun O s'=>B v s') E' s₁) E s:=by
 cases hx:l[i]? with
 | none=>
  have e:=Zr hi (aaB.mp hx)
  exact sr.stop L _ F st s hn r w hS e _ _ fun h' hk r'=>kv e h' hk r'
 | some y=>
  refine aaw (sr.next L aF i y F st s ht hn r w hS hx B E E' fun F3 v s3 l3 r3 w3 Ui NQ=>
   oK y hx (Ym.mp hx).1 ⟨F3.P.over s3.heap fp,F3.f⟩ v s3 l3.f (r3.Jf w3) (NQ.wO (F:=F3) (G:=⟨F3.P.over s3.heap fp,F3.f⟩) rfl) fun F5 yK s5 l5 r5=>?_) (fun rr s3 h3=>by obtain⟨v,rfl,h4⟩:=h3;exact h4) fun O O e=>e
  have w6:=Rep.Jg w3 (sr.ex _ _ _ Ui) r3 l5.P r5
  have S6:=sr.mono _ F3 ⟨F3.P,F5.f⟩ _ _ l5.f w6.2.2 Ui
  rw[l3.P] at w6 S6
  exact⟨w6.1,w6.2.1,S6⟩
inductive NR(g:Gd)(F:FM)(l:List AV)(Inv:Nat→AS→Prop)(fp:List Addr)(St:Nat→FM→Heap→Prop)(n:Nat)(s:Shared):Prop
 | mk (i:Nat) (F':FM) (st:AS) (le:FM.le F F') (e:n=l.length+1 - i) (hi:i≤l.length) (hI:Inv i st) (r:Rep g F' st s) (w:eO g F' st fp) (h:St i F' s.heap)
theorem FR.wO{F G:FM}(h:G.f=F.f){x:f9}{f:Flow}(e:FR F x f):FR G x f:=by
 cases x with
 | ret z=>exact aav (fun O e=> ⟨e.1,e.2.wO h⟩) e
 | _=>exact e
theorem FR.turn{F:FM}{x:f9}{f:Flow}{st:AS}{Inv:AS→Prop}{N:Prop}{R:Flow→Prop}(e:FR F x f)(h:TurnEnd Inv Q x st)(hn:Inv st→N)(hR:∀x f,FR F x f→Q x st→R f):
  match(generalizing:=false) f with
  | .next | .cont=>N
  | .brk=>R .next
  | .ret v=>R (.ret v):=by
 cases x with
 | next=>cases(e:_=_);exact hn h
 | cont=>cases(e:_=_);exact hn h
 | brk=>cases(e:_=_);exact hR .next _ rfl h
 | ret z=>obtain⟨u,rfl,hu⟩:=e;exact hR (.ret z) _ ⟨u,rfl,hu⟩ h
theorem uY{body:List Stmt}{tg:Expr→Prop}{cy:Mem→Prop}(qF:dw g x st wU tg cy l)(ht:tg aF)(Inv:Nat→AS→Prop)(h0:Inv 0 wU)(j7:∀i st,Inv i st→cy st.mem)(step:∀i y st,l[i]? =some y→Inv i st→W1 g UR (assign aF env) y st fun O aN=>W0 g FR (execs body env) aN (TurnEnd (Inv (i+1)) Q))(kv:∀st,Inv l.length st→Q .next st):ry g env aF body x st Q:=by
 intro F s v r hv K E E' k
 refine qF F s v r hv _ E fun F1 it fp St s1 l1 sr r1 w1 aN=>codeAny_forLoop_any (NR g F l Inv fp St) ?_ (l.length+1) ⟨0,F1,wU,l1,rfl,YK _,h0,r1,w1,aN⟩
 rintro n s2 ⟨i,F2,a8,l2,rfl,hi,hI,r2,w2,hS⟩
 refine sr.turn ht hi (j7 _ _ hI) r2 w2 hS (fun e h' O r3=>?_) fun y hx dK F3 v s3 l3 r3 NQ qP=>?_
 ·cases e
  exact abY (k F2 .next .next a8 _ l2 r3 rfl (kv _ hI))
 ·exact step i y a8 hx hI F3 s3 v r3 NQ _ _ fun F4 O O KE s4 l4 r4 O h4=>h4 F4 s4 r4 _ _ fun F5 f fl yK s5 l5 r5 hf h5=>
   have w6:=qP F5 yK s5 (l4.trans l5) r5
   have NS:FM.le F ⟨F2.P,F5.f⟩:=l2.trans ⟨rfl,fun a o e=>l5.f a o (l4.f a o (l3 a o e))⟩
   FR.turn (FR.wO (F:=F5) (G:=⟨F2.P,F5.f⟩) rfl hf) h5 (fun h5=> ⟨_,Nat.sub_succ_lt_self _ _ (Zf dK),i+1,_,yK,NS,rfl,dK,h5,w6.1,w6.2.1,w6.2.2⟩) fun x f hf hq=>k _ x f yK s5 NS w6.1 hf hq
end
end
section
section
variable {g:Gd}{env:Env}{st:AS}
theorem Rep.away{F:FM}(r:Rep g F st s){fp:List Addr}(h:∀a∈fp,s.heap.objs.size≤a):eO g F st fp:=
 ⟨fun a ha=>aO r.hP (h a ha),fun a ha=>aO r.hF (h a ha),fun a ha=>Zn (J3 r.KC (h a ha)),fun a ha p hp=>Yp (J3 (r.j3 hp) (h a ha)),
  fun a ha t ht=>Yp (J3 (r.j4 ht) (h a ha))⟩
theorem uZ(aF:Expr)(it v:Value):letOwnedTupleGo aF it v=letOwnedTupleGo (.Tuple [] 0 default) it v∨letOwnedTupleGo aF it v=pure ():=by
 cases aF <;> first | exact .inl rfl | exact .inr rfl
theorem gg{E:Value→Shared→Prop}{s:Shared}{I:Addr}{n:String}{Q:Unit→Shared→Prop}(ho:s.heap.get? I=some o)(hc:o.cls= .type n)(hn:(["enumerate","zip","dict_itemiterator","dict_reverseitemiterator","odict_iterator","itertools.zip_longest","itertools.pairwise"].contains n)=false)(hQ:Q () s):
  wpAny (model g.prog g.w) A (letOwnedTupleGo aF (.ref I) v) Q E s:=by
 rcases uZ aF (.ref I) v with e | e <;> rw[e]
 ·cases v with
  | ref a=>
   refine E5 (wpAny_load ho ?_)
   obtain⟨c,d,dt,sl⟩:=o
   cases(hc:c=_)
   cases dt with
   | fields vs=>
    refine wpAny_ite_false (Yk ?_) (N7 hQ)
    rw[hn]
    exact Yt
   | _=>exact N7 hQ
  | _=>exact N7 hQ
 ·exact N7 hQ
theorem nL{F:FM}{items:Array Value}(h:be F l items.toList){i:Nat}(hx:i=l.length):items[i]? =none:=aao (X7 (h.size.trans hx.symm))
theorem FV{a b:Addr}(h:b∉[a]):b≠a:=fun e=>h (e▸E6)
theorem Cm(tu:Bool)(l:List AV)(I:Addr):BM g (.ref I) [I] (fun O=>True) (fun O=>True) l (np tu l I) where
 mono:=fun i F F' h h' hl he x=>x.mono hl (he I E6)
 ex:=fun i F h x a ha=>X8.mp ha▸x.rec fun O O O O e O O O=> ⟨_,e⟩
 self:=fun i F s O x K E k=>x.rec fun ax items n o e d O O=>by
  cases tu
  ·exact wpAny_pyIter_listiter ⟨o,e,d⟩ k
  ·exact wpAny_pyIter_tupleiter ⟨o,e,d⟩ k
 next:=fun L aF i x F st s O O r w y hx K E E' k=>by
  obtain⟨ax,items,n,o,e,d,e2,e3⟩:=y
  obtain⟨v,hv,hr⟩:=e3.at hx
  have fin:∀(h':Heap) o,h'.get? I=some o→Nv tu ax (i+1) o→Heap.SameBut I s.heap h'→∃u,some v=some u∧wpAny (model g.prog g.w) g.A (letOwnedTupleGo aF (.ref I) u) (fun O s2=>K u s2) E' {s with heap:=h' }:=fun h' o ho d hs=>
   ⟨v,rfl,gg ho d.1 (by cases tu <;> decide) (k F v _ (FM.le.refl _) (r.keepsBut w (fun b o hb e=>hs.extBut b o (FV hb) e) s.toks id) w ⟨ax,items,n,o,ho,d,e2,e3⟩ hr)⟩
  cases tu
  ·exact aa7 ⟨o,e,d⟩ ⟨_,r.hF _ _ e2,rfl,n,rfl⟩ hv fun h' i7 hs=>i7.elim fun o ho=>fin h' o ho.1 ho.2 hs
  ·exact wpAny_pyNext_tuple_item ⟨o,e,d⟩ ⟨_,r.hF _ _ e2,rfl,n,rfl⟩ hv fun h' i7 hs=>i7.elim fun o ho=>fin h' o ho.1 ho.2 hs
 stop:=fun L i F st s O r w y hx K E k=>by
  obtain⟨ax,items,n,o,e,d,e2,e3⟩:=y
  have hn:=nL e3 hx
  have fin:∀h':Heap,Heap.ExtBut I s.heap h'→K none {s with heap:=h' }:=fun h' hs=>have hk:=fun b o hb e=>hs b o (FV hb) e;k h' hk (r.keepsBut w hk s.toks id)
  cases tu
  ·exact abk g.hh ⟨o,e,d⟩ ⟨_,r.hF _ _ e2,rfl,n,rfl⟩ hn fin
  ·exact wpAny_pyNext_tuple_end g.hh ⟨o,e,d⟩ ⟨_,r.hF _ _ e2,rfl,n,rfl⟩ hn fin
theorem bV{P:Addr→Prop}{a:Addr}(h:P a):∀b∈[a],P b:=fun b hb=>X8.mp hb▸h
theorem oM(l:List AV):dw g (.lst l) st st (fun O=>True) (fun O=>True) l:=fun F s v r hv K E k=>by
 obtain⟨a,items,n,rfl,e,h⟩:=hv
 exact abI ⟨_,r.hF _ _ e,rfl,n,rfl⟩ (k F _ [s.heap.objs.size] (np false l s.heap.objs.size) _ (FM.le.refl _) (Cm false l _) (r.keeps (fun b o' e=>Heap.get?_push_of_some _ e) s.toks id) (r.away (bV (N1 _))) ⟨a,items,n,_,Heap.get?_push_size _ rfl,⟨rfl,rfl⟩,e,h⟩)
theorem Cn(l:List AV):dw g (.tup l) st st (fun O=>True) (fun O=>True) l:=fun F s v r hv K E k=>by
 obtain⟨a,items,n,rfl,e,h⟩:=hv
 exact aak ⟨_,r.hF _ _ e,rfl,n,rfl⟩ (k F _ [s.heap.objs.size] (np true l s.heap.objs.size) _ (FM.le.refl _) (Cm true l _) (r.keeps (fun b o' e=>Heap.get?_push_of_some _ e) s.toks id) (r.away (bV (N1 _))) ⟨a,items,n,_,Heap.get?_push_size _ rfl,⟨rfl,rfl⟩,e,h⟩)
theorem Gp(l:List AV)(a I:Addr):BM g (.ref I) [I] (fun O=>True) (fun mem=> (a,AO.list l)∈mem) l (fun i O h=>h.IsListIter I a i) where
 mono:=fun i F F' h h' hl he e1=>Heap.IsListIter.at' e1 (he I E6)
 ex:=fun i F h e=>bV (e.imp fun O e=>e.1)
 self:=fun i F s O e1 K E k=>wpAny_pyIter_listiter e1 k
 next:=fun L aF i x F st s O hm r w e1 hx K E E' k=>by
  obtain⟨items,hl,e3⟩:=rt r.toRepM hm
  obtain⟨v,hv,hr⟩:=e3.at hx
  exact aa7 e1 hl hv fun h' i7 hs=> ⟨v,rfl,i7.elim fun o ho=>gg ho.1 ho.2.1 (by decide) (k F v _ (FM.le.refl _) (r.keepsBut w (fun b o hb e=>hs.extBut b o (FV hb) e) s.toks id) w i7 hr)⟩
 stop:=fun L i F st s hm r w e1 hx K E k=>by
  obtain⟨items,hl,e3⟩:=rt r.toRepM hm
  exact abk g.hh e1 hl (nL e3 hx) fun h' hs=>have hk:=fun b o hb e=>hs b o (FV hb) e;k h' hk (r.keepsBut w hk s.toks id)
theorem u0{a:Addr}(hm:(a,AO.list l)∈st.mem):dw g (.val (.ref a)) st st (fun O=>True) (fun mem=> (a,AO.list l)∈mem) l:=fun F s v r hv K E k=>by
 cases(hv:_=_)
 obtain⟨items,hl,e3⟩:=rt r.toRepM hm
 exact abI hl (k F _ [s.heap.objs.size] _ _ (FM.le.refl _) (Gp l a _) (r.keeps (fun b o' e=>Heap.get?_push_of_some _ e) s.toks id) (r.away (bV (N1 _))) ⟨_,Heap.get?_push_size _ rfl,rfl,rfl⟩)
noncomputable def eg(a b c:Int):List AV:=(List.range (rangeSize a b c).toNat).map fun k:Nat=> .int (a+(k:Int)*c)
theorem oN(a b c:Int):(eg a b c).length=(rangeSize a b c).toNat:=by simp[eg]
theorem Gq(a b c:Int)(I:Addr):BM g (.ref I) [I] (fun O=>True) (fun O=>True) (eg a b c) (fun i O h=>IsRangeIter h I (a+i*c) (rangeSize a b c - i) c) where
 mono:=fun i F F' h h' hl he e1=> (he I E6).trans e1
 ex:=fun i F h e=>bV ⟨_,e⟩
 self:=fun i F s O e1 K E k=>wpAny_pyIter_rangeiter e1 k
 next:=fun L aF i x F st s O hm r w e1 hx K E E' k=>by
  have dK:i<(rangeSize a b c).toNat:=oN a b c▸(Ym.mp hx).1
  have VY:x= .int (a+i*c):=by
   rw[eg,Yi,aac dK] at hx
   exact(YB hx).symm
  subst VY
  refine wpAny_pyNext_range_item e1 (Int.sub_pos_of_lt (Int.lt_toNat.mp dK)) fun h' i7 hs=> ⟨_,rfl,gg i7 rfl (by decide) (k F _ _ (FM.le.refl _) (r.keepsBut w (fun b o hb e=>hs.extBut b o (FV hb) e) (s.toks+1) tp) w ?_ (rj ..))⟩
  show IsRangeIter h' I (a+((i:Int)+1)*c) (rangeSize a b c - ((i:Int)+1)) c
  rw[Int.add_mul,Int.one_mul,← Int.add_assoc,← Int.sub_sub];exact i7
 stop:=fun L i F st s hm r w e1 hx K E k=>wpAny_pyNext_range_end g.hh e1 (Int.sub_nonpos_of_le (Int.toNat_le.mp (X7 ((oN a b c).symm.trans hx.symm)))) fun h' hs=>have hk:=fun b o hb e=>hs b o (FV hb) e;k h' hk (r.keepsBut w hk s.toks id)
theorem Co{a b c:Int}(hs:Builtin.Range.small a b c=true):dw g (.B2 a b c) st st (fun O=>True) (fun O=>True) (eg a b c):=fun F s v r hv K E k=>by
 obtain⟨x,t,u,w',rfl,e⟩:=hv
 refine wpAny_pyIter_range (r.hF _ _ e) hs (k F _ [s.heap.objs.size] _ _ (FM.le.refl _) (Gq a b c _) (r.keeps (fun b o' e=>Heap.get?_push_of_some _ e) s.toks id) (r.away (bV (N1 _))) ?_)
 show IsRangeIter _ _ (a+(0:Int)*c) (rangeSize a b c - (0:Int)) c
 rw[Int.zero_mul,Int.add_zero,Int.sub_zero]
 exact Heap.get?_push_size _ rfl
theorem Cp{n:Int}(h:Q (.B2 0 n 1) st):Wl g VR (fun vs=>call (.type "range") vs) [.int n] st Q:=uV fun F s v r hv K E k=>by
 obtain⟨t,rfl⟩:=hv
 have ra:=r.alloc (o:= {cls:= .type "range",data:= .fields #[.int 0 s.toks,.int n t,.int 1 (s.toks+1)] }) rfl (s.toks+1+1) tp
 exact call_range_1 (k _ (.B2 _ _ _) _ st _ ra.2.1 ra.1 (Nt.mk _ _ _ _ rfl ra.2.2) h)
theorem Cq{a b:Int}(h:Q (.B2 a b 1) st):Wl g VR (fun vs=>call (.type "range") vs) [.int a,.int b] st Q:=Gm fun F s v u r hv hu K E k=>by
 obtain⟨t,rfl⟩:=hv;obtain⟨t',rfl⟩:=hu
 have ra:=r.alloc (o:= {cls:= .type "range",data:= .fields #[.int a t,.int b t',.int 1 s.toks] }) rfl (s.toks+1) tp
 exact call_range_2 (k _ (.B2 _ _ _) _ st _ ra.2.1 ra.1 (Nt.mk _ _ _ _ rfl ra.2.2) h)
end
end
section
noncomputable abbrev j8(ifs:List Expr)(env:Env):Sem Bool:=forIn ifs true fun c r=>if r=true then do let ok ← isTrue c env (eval c env);pure (ForInStep.yield ok) else pure (ForInStep.yield r)
abbrev oO(e:Expr)(k:Nat)(env:Env)(pos:Pos)(t:Expr)(ifs:List Expr)(B:Value→Sem Fin→Sem Fin):Prop:= ∀it acc,compTurn e k it acc env=(do
 standAt pos
 match ← pyNext it with
 | none=>pure (.done .next)
 | some v=>do
  letOwnedTupleGo t it v
  assign t env v
  let ok ← j8 ifs env
  if ok=true then B acc (again (.compLoop e k it acc env))
  else again (.compLoop e k it acc env))
noncomputable def Ap(elt:Expr)(env:Env)(acc:Value)(k:Sem Fin):Sem Fin:=(do let _ ← call (.builtin "list.append") [acc,← eval elt env]:Sem Unit) >>= fun O=>k
noncomputable def Ra(e:Expr)(i2:Expr)(env:Env)(acc:Value)(k:Sem Fin):Sem Fin:=do
 let x ← eval i2 env
 standAt i2.pos
 let x ← foldedSetIterable i2 env x
 let _ ← runOwn (.compStart e 1 (← holding [x] (pyIter x)) acc env) env
 k
theorem Jh(elt t i:Expr)(ifs:List Expr)(scope:Scope)(pos:Pos)(env:Env):oO (.ListComp elt [⟨t,i,ifs,0⟩] scope pos) 0 env i.pos t ifs (Ap elt env):=fun it acc=>by rfl
theorem KV(elt t1 i1 t2 i2:Expr)(nr iQ:List Expr)(scope:Scope)(pos:Pos)(env:Env):oO (.ListComp elt [⟨t1,i1,nr,0⟩,⟨t2,i2,iQ,0⟩] scope pos) 1 env i2.pos t2 iQ (Ap elt env):=fun it acc=>by rfl
theorem KW(elt t1 i1 t2 i2:Expr)(nr iQ:List Expr)(scope:Scope)(pos:Pos)(env:Env):oO (.ListComp elt [⟨t1,i1,nr,0⟩,⟨t2,i2,iQ,0⟩] scope pos) 0 env i1.pos t1 nr (Ra (.ListComp elt [⟨t1,i1,nr,0⟩,⟨t2,i2,iQ,0⟩] scope pos) i2 env):=fun it acc=>by rfl
def WB(g:Gd)(B:Sem Fin→Sem Fin)(st:AS)(P:AS→Prop):Prop:= ∀F s,Rep g F st s→∀(k:Sem Fin) (Q:Fin→Shared→Prop) (E:Value→Shared→Prop),(∀F' cg s',FM.le F F'→Rep g F' cg s'→P cg→wpAny (model g.prog g.w) g.A k Q E s')→wpAny (model g.prog g.w) g.A (B k) Q E s
section
variable {g:Gd}{env:Env}{st:AS}
theorem w9{D:Addr}{P:AS→Prop}(h:W0 g VR (eval elt env) st fun v gw=> ∃a mem',Upd gw.mem D (.list a) (.list (a++ [v])) mem'∧a.length≤sizeLine∧P ⟨gw.vars,mem'⟩):WB g (Ap elt env (.ref D)) st P:=fun F s r k Q E kk=>
 E5 (E5 (h F s r _ E fun F1 z zv aN s1 l1 r1 hz ⟨a,mem',u,ha,hp⟩=>E5 (kP (g:=g) (vars:=aN.vars) u ha (Q:=fun O st=>P st) hp F1 s1 [.ref D,zv] r1 (f6 (nH ..) (f6 hz iX)) _ E fun F2 O O a8 s2 l2 r2 O hp=>N7 (kk F2 a8 s2 (l1.trans l2) r2 hp))))
variable {elt:Expr}{gs:List Comprehension}{sc:Scope}{ps:Pos}{k:Nat}{pos:Pos}{t:Expr}{ifs:List Expr}{D L:Addr}{B:Value→Sem Fin→Sem Fin}{it:Value}{fp:List Addr}{tg:Expr→Prop}{cy:Mem→Prop}{l:List AV}{St:Nat→FM→Heap→Prop}{F:FM}{s:Shared}
theorem Aq(hT:oO (.ListComp elt gs sc ps) k env pos t ifs B)(sr:BM g it fp tg cy l St)(ht:tg t){i:Nat}(hi:i≤l.length)(hn:cy st.mem)(step:∀y,l[i]? =some y→W1 (g.at L) UR (assign t env) y st fun O aN=>W0 (g.at L) RQ (j8 ifs env) aN fun ok a8=>cond ok (WB (g.at L) (B (.ref D)) a8 fun gw=>Wk (g.at L) gw S') (Wk (g.at L) a8 S'))(r:Rep (g.at L) F st s)(w:eO (g.at L) F st fp)(hS:St i F s.heap){Q:Fin→Shared→Prop}{E:Value→Shared→Prop}(kv:i=l.length→∀h',Rep (g.at L) F st {s with heap:=h' }→Q (.done .next) {s with heap:=h' })(kk:∀F' s',FM.le F F'→i<l.length→Rep (g.at L) F' S' s'→eO (g.at L) F' S' fp→St (i+1) F' s'.heap→Q (.again (.compLoop (.ListComp elt gs sc ps) k it (.ref D) env)) s'):
  wpAny (model g.prog g.w) g.A (compTurn (.ListComp elt gs sc ps) k it (.ref D) env) Q E s:=by
 rw[hT]
 refine E5 (Zx (E5 (aaw (sr.turn (N:=Q (.done .next)) (B:=fun v s'=>wpAny (model g.prog g.w) g.A (assign t env v >>= fun O=>j8 ifs env >>= fun ok=>if ok=true then B (.ref D) (again (.compLoop (.ListComp elt gs sc ps) k it (.ref D) env)) else again (.compLoop (.ListComp elt gs sc ps) k it (.ref D) env)) Q E s')
  (E':=E) ht hi hn r w hS (fun q h' O r3=>kv q h' r3) fun y hx dK F3 v s3 l3 r3 NQ qP=>?_) (fun rr s1 h1=>?_) fun O O h=>h)))
 ·have fin:∀F5 yK s5,FM.le F3 F5→Rep (g.at L) F5 yK s5→Wk (g.at L) yK S'→wpAny (model g.prog g.w) g.A (again (.compLoop (.ListComp elt gs sc ps) k it (.ref D) env)) Q E s5:=fun F5 yK s5 l5 r5 hw=>
   let⟨F6,l6,r6⟩:=hw F5 s5 r5
   have w6:=qP F6 _ s5 (l5.trans l6) r6
   N7 (kk ⟨F.P,F6.f⟩ s5 ⟨rfl,fun a o e=>l6.f a o (l5.f a o (l3 a o e))⟩ dK w6.1 w6.2.1 w6.2.2)
  refine E5 (step y hx F3 s3 v r3 NQ _ _ fun F4 O O KE s4 l4 r4 O h4=>E5 (h4 F4 s4 r4 _ _ fun F5 ok b yK s5 l5 r5 hb h5=>?_))
  cases(hb:_=_)
  cases ok with
  | true=>exact h5 F5 s5 r5 _ _ _ fun F6 VZ s6 l6 r6 hw=>fin F6 VZ s6 (l4.trans (l5.trans l6)) r6 hw
  | false=>exact fin F5 yK s5 (l4.trans l5) r5 h5
 ·cases rr with
  | none=>exact N7 h1
  | some v=>exact E5 h1
theorem mE(hT:oO (.ListComp elt gs sc ps) k env pos t ifs B)(sr:BM g it fp tg cy l St)(ht:tg t)(S:Nat→AS)(j7:∀i,cy (S i).mem)
  (step:∀i y,l[i]? =some y→W1 (g.at L) UR (assign t env) y (S i) fun O aN=>W0 (g.at L) RQ (j8 ifs env) aN fun ok a8=>cond ok (WB (g.at L) (B (.ref D)) a8 fun gw=>Wk (g.at L) gw (S (i+1))) (Wk (g.at L) a8 (S (i+1))))
  (r:Rep (g.at L) F (S 0) s) (w:eO (g.at L) F (S 0) fp) (hS:St 0 F s.heap) {R:Result→Shared→Prop} (kk:∀F' s',FM.le F F'→Rep (g.at L) F' (S l.length) s'→R (.ok .next) s'):
  codeAny (model g.prog g.w) g.A (.compLoop (.ListComp elt gs sc ps) k it (.ref D) env) R s:=by
 refine codeAny_loop rfl (NR (g.at L) F l (fun i st=>st=S i) fp St) (fun n s ⟨i,F2,a8,l2,en,hi,hI,r2,w2,hS⟩=>?_) (l.length+1) ⟨0,F,_,FM.le.refl _,rfl,YK _,rfl,r,w,hS⟩
 cases en;cases hI
 exact wpAny_noted (Aq hT sr ht hi (j7 i) (step i) r2 w2 hS (fun q h' r3=>kk F2 _ l2 (q▸r3)) fun F' s' l' dK r' w' h'=> ⟨rfl,_,Nat.sub_succ_lt_self _ _ (Zf dK),i+1,F',_,l2.trans l',rfl,dK,rfl,r',w',h'⟩)
end
end
section
theorem RepM.less{F:FM}{mem mem':Mem}(r:RepM g F mem s)(nd:(mem.map (·.1)).Nodup→(mem'.map (·.1)).Nodup)(hs:∀p∈mem',∃o,(p.1,o)∈mem∧(o=p.2∨∃v,o= .cell v∧p.2= .cell none)):RepM g F mem' s:=
 have at':∀ {P:Addr→Prop},(∀p∈mem,P p.1)→∀p∈mem',P p.1:=fun h p hp=> (hs p hp).elim fun o e=>h (p.1,o) e.1
 {hP:=r.hP,hF:=r.hF,hK:=r.hK,pf:=r.pf,ap:=at' (P:=fun a=>F.P a=none∧F.f a=none) r.ap,nd:=nd r.nd,tk:=r.tk,gens:=r.gens,os:=r.os,tab:=r.tab
  cM:=fun t ht=> ⟨(r.cM t ht).1,(r.cM t ht).2.1,at' (P:=(·≠t.1)) (r.cM t ht).2.2⟩
  hm:=fun(a,b) hp=>by
   obtain⟨o,e,h⟩:=hs _ hp
   have x:=r.hm _ e
   rcases h with rfl |⟨v,rfl,eb⟩
   ·exact x
   ·cases(eb:b=_)
    exact ow.rec (motive:=fun O=>ow F s.heap a none) (fun o u e d O=> ⟨o,u,e,d,trivial⟩) x }
theorem RepM.at{F:FM}(L:Addr)(r:RepM g F mem s):RepM (g.at L) F mem s:=⟨r.tk,r.hP,r.hF,r.hK,r.pf,r.hm,r.ap,r.nd,r.gens,r.os,r.tab,r.cM⟩
theorem RepM.Gr{F:FM}(r:RepM g F mem s){m:Str→Option Value}(hn:s.heap.Ns g.L m)(hv:∀p∈vs,kh F p.2 (m p.1))(nv:(vs.map (·.1)).Nodup)(hP:F.P g.L=none)(hf:F.f g.L=none)(hm:∀p∈mem,p.1≠g.L)(ht:∀t∈g.tabs,t.1≠g.L):Rep g F ⟨vs,mem⟩ s:=
 {r with gH:=hP,gL:=hf,gI:=ht,nv:=nv,ns:=⟨m,hn,hv⟩,fX:=hm }
theorem Rep.less{g:Gd}{F:FM}{st:AS}{mem:Mem}{s:Shared}(r:Rep g F st s)(nd:(st.mem.map (·.1)).Nodup→(mem.map (·.1)).Nodup)(hs:∀p∈mem,∃o,(p.1,o)∈st.mem∧(o=p.2∨∃v,o= .cell v∧p.2= .cell none)):Rep g F ⟨st.vars,mem⟩ s:=
 {r.toRepM.less nd hs with ns:=r.ns,nv:=r.nv,gH:=r.gH,gL:=r.gL,gI:=r.gI,fX:=fun p hp=> (hs p hp).elim fun o e=>r.fX (p.1,o) e.1 }
theorem u4{g:Gd}{vs lR:dL}{mem mem':Mem}(hk:lR.map (·.1)=vs.map (·.1))(hv:∀p∈lR,p.2=none∨p∈vs)(nd:(mem.map (·.1)).Nodup→(mem'.map (·.1)).Nodup)(hs:∀p∈mem',∃o,(p.1,o)∈mem∧(o=p.2∨∃v,o= .cell v∧p.2= .cell none)):Wk g ⟨vs,mem⟩ ⟨lR,mem'⟩:=fun F s r=>
 ⟨F,.refl _, {r.less nd hs with ns:=r.ns.imp fun m hm=> ⟨hm.1,fun(a,b) hp=> (hv _ hp).elim (fun e=>by cases(e:b=_);trivial) (hm.2 _)⟩,nv:=hk▸r.nv }⟩
noncomputable def mc(co:Bool)(C:Addr)(mem:Mem):Mem:=cond co ((C+1,.cell none)::mem) mem
noncomputable def nM(co:Bool)(ck:List Str)(m1 m2:Mem)(C D:Addr)(a:List AV):AS:=⟨ck.map fun x=> (x,none),mc co C (m1++(D,.list a)::m2)⟩
def yL(co:Bool)(g:Gd)(env:Env)(scope:Scope)(cl:List (Str×Addr))(Ji:Addr→List (Str×Addr)):Prop:= ∀ {E:Value→Shared→Prop} {s:Shared} {Q:Env→Shared→Prop},
 (∀h',h'.Ns s.heap.objs.size (fun O=>none)→(∀b o,s.heap.get? b=some o→h'.get? b=some o)→(co=true→h'.get? (s.heap.objs.size+1)=some {cls:= .type "cell",data:= .cell none })→
  Q (newEnv scope s.heap.objs.size env.globals (Ji s.heap.objs.size) env.qual none .none (some env) builtinsNs) {s with heap:=h' })→wpAny (model g.prog g.w) g.A (newFunctionEnv scope env.globals cl [] env.qual none .none (some env)) Q E s
section
variable {g:Gd}{env:Env}{st:AS}
theorem NT{scope:Scope}{cl:List (Str×Addr)}(NU:∀y∈scope.names,y.2≠.cell)(i3:scope.kind= .function):yL false g env scope cl fun O=>cl:=fun {E s Q} h=>
 wpAny_newFunctionEnv NU (fun O hy=>nomatch hy) (fun h' hn hs=>h h' hn (fun b o e=>hs.extBut b o (Yp (Heap.lt_size e)) (Heap.get?_push_of_some _ e)) fun e=>nomatch e) i3
inductive KX(g:Gd)(D:Addr)(s:Shared)(F:FM)(Q:AV→AS→Prop):Prop
 | mk (F':FM) (x:AV) (cg:AS) (le:FM.le F F') (r:Rep g F' cg s) (v:VR F' x (.ref D)) (h:Q x cg)
def w_(g:Gd)(a:List AV)(vars:dL)(m1 m2:Mem)(Q:AV→AS→Prop):Prop:= ∀D F s,Rep g F ⟨vars,(D,.list a)::(m1++m2)⟩ s→KX g D s F Q
theorem KY{a vars m1 m2}(h:∀D,Q (.val (.ref D)) ⟨vars,(D,.list a)::(m1++m2)⟩):w_ g a vars m1 m2 Q:=fun D F s r=> ⟨F,_,_,.refl _,r,nH ..,h D⟩
theorem Rep.freeze{F:FM}{vars:dL}{mem:Mem}{s:Shared}{D:Addr}{a:List AV}(r:Rep g F ⟨vars,(D,.list a)::mem⟩ s):∃G,FM.le F G∧Rep g G ⟨vars,mem⟩ s∧VR G (.lst a) (.ref D):=by
 have i8:(D,AO.list a)∈(D,AO.list a)::mem:=E6
 obtain⟨items,n,hD,hI⟩:=r.hm _ i8
 have f5:=(r.ap _ i8).2
 exact⟨F.put D (cE items n),FM.eW f5,(r.sub (Zw _ _)).yF hD f5 (r.ap _ i8).1 (r.fX _ i8) (fun p hp q=> (YG.mp r.nd).1 (N5.mpr ⟨p,hp,q⟩)) (fun t ht q=> (r.cM t ht).2.2 _ i8 q.symm),Ky (FM.cR ..) (hI.mono (FM.eW f5))⟩
theorem oP{a vars m1 m2}(h:Q (.lst a) ⟨vars,m1++m2⟩):w_ g a vars m1 m2 Q:=fun D F s r=>let⟨G,l,r,v⟩:=r.freeze;⟨G,_,_,l,r,v,h⟩
def Gs(g:Gd)(use:Option (Value→Sem Unit))(Q:AV→AS→Prop)(x:AV)(st:AS):Prop:=use.elim (Q x st) fun u=>W1 g UR u x st fun O=>Q .none
def Cr(g:Gd)(env:Env)(e:Expr)(scope:Scope)(cl:List (Str×Addr))(use:Option (Value→Sem Unit))(x:AV)(st:AS)(Q:AV→AS→Prop):Prop:=
 ∀F s v,Rep g F st s→VR F x v→∀(K:Value→Shared→Prop) (E:Value→Shared→Prop),(∀F' b a cg s',FM.le F F'→Rep g F' cg s'→VR F' b a→Q b cg→K a s')→
  wpAny (model g.prog g.w) g.A (pyIter v) (fun it s2=>wpAny (model g.prog g.w) g.A (newList []) (fun acc s3=>wpAny (model g.prog g.w) g.A (newFunctionEnv scope env.globals cl [] env.qual none .none (some env)) (fun NV s4=>
   codeAny (model g.prog g.w) g.A (.compStart e 0 it acc {NV with scope:=relabel scope env }) (compPost (model g.prog g.w) g.A E use K acc NV.locals) s4) E s3) E s2) E s
theorem xa{elt aF iter ifs rest scope pos ps cl}{use:Option (Value→Sem Unit)}(h:W0 g VR (eval iter env) st fun x aN=>Cr g env (.ListComp elt (⟨aF,iter,ifs,0⟩::rest) scope pos) scope cl use x aN Q)(NW:closureFor scope env=pure cl)(i3:scope.kind= .function)(KZ:∀y∈scope.names,y.2= .local→scope.names.lookup y.1=some .local)(hs:∀x,foldedSetIterable iter env x=pure x):W0 g VR (comprehension (.ListComp elt (⟨aF,iter,ifs,0⟩::rest) scope pos) scope env ps (newList []) false (eval iter env) use) st Q:=fun F s r K E k=>
 wpAny_comprehension_free rfl hs NW i3 KZ (h F s r _ E fun F1 x v aN s1 l1 r1 v1 h1=>h1 F1 s1 v r1 v1 K E fun F' b a cg s' l r2 hf hq=>k F' b a cg s' (l1.trans l) r2 hf hq)
theorem eO.one{F:FM}{a:Addr}(hP:F.P a=none)(hf:F.f a=none)(hL:a≠g.L)(hm:∀p∈st.mem,p.1≠a)(ht:∀t∈g.tabs,t.1≠a):eO g F st [a]:=⟨bV hP,bV hf,bV hL,bV hm,bV ht⟩
theorem Gu{a vars m1 m2}{use:Option (Value→Sem Unit)}(h:w_ g a vars m1 m2 (Gs g use Q)){D C:Addr}{F:FM}(r:Rep g F ⟨vars,(D,.list a)::(m1++m2)⟩ s)(w:eO g F ⟨vars,(D,.list a)::(m1++m2)⟩ [C]){m:Str→Option Value}(hn:s.heap.Ns C m){K:Value→Shared→Prop}{E:Value→Shared→Prop}(k:∀F' b a cg s',FM.le F F'→Rep g F' cg s'→VR F' b a→Q b cg→K a s'):compPost (model g.prog g.w) g.A E use K (.ref D) C (.ok .next) s:=by
 obtain⟨F1,x,aN,l1,r1,v1,h1⟩:=h D _ s (r.Jf w)
 have ex:∀b∈[C],∃o,s.heap.get? b=some o:=bV (hn.elim fun o e=>e.elim fun O e=>e.elim fun O e=> ⟨o,e.1⟩)
 have fin:∀F2 a8 s2,FM.le ⟨F.P.over s.heap [C],F.f⟩ F2→Rep g F2 a8 s2→∀b v,VR F2 b v→Q b a8→∃m,s2.heap.Ns C m∧∀h',Heap.SameBut C s2.heap h'→K v {s2 with heap:=h' }:=fun F2 a8 s2 l2 r2 b v hb hq=>
  have w2:=Rep.Jg w ex r l2.P r2
  ⟨m,hn.at' fun o e=> (w2.2.2 C E6).trans e,fun h' hs=>k ⟨F.P,F2.f⟩ b v a8 _ ⟨rfl,l2.f⟩ (w2.1.keepsBut w2.2.1 (fun b o hb e=>hs.extBut b o (FV hb) e) s2.toks id) (hb.wO (F:=F2) (G:=⟨F.P,F2.f⟩) rfl) hq⟩
 cases use with
 | none=>exact fin F1 aN s l1 r1 x _ v1 h1
 | some u=>exact h1 F1 s _ r1 v1 _ E fun F2 O O a8 s2 l2 r2 O hq=>fin F2 a8 s2 (l1.trans l2) r2 .none .none (BJ _) hq
theorem Rep.NX{F:FM}{fp:List Addr}(r:Rep g F ⟨vs,m⟩ s)(w:eO g F ⟨vs,m⟩ fp){a:Addr}(h0:F.P a=none)(h1:F.f a=none)(h2:a≠g.L)(h3:∀p∈m,p.1≠a)(h4:∀t∈g.tabs,t.1≠a)(h5:a∉fp)(Gf:oy F s.heap a ao):
  Rep g F ⟨vs,(a,ao)::m⟩ s∧eO g F ⟨vs,(a,ao)::m⟩ fp:=⟨r.oz h1 h0 h2 h3 h4 Gf,w.P,w.f,w.L,fun b hb=>X_.mpr ⟨fun e=>h5 ((E8 (·∈fp) e).mpr hb),w.m b hb⟩,w.t⟩
theorem mc_perm(co:Bool){C D:Addr}{m1 m2:Mem}:(mc co C (m1++(D,o)::m2)).Perm (mc co C ((D,o)::(m1++m2))):=by
 cases co
 ·exact Z_
 ·exact Z_.cons _
theorem Cs(co:Bool){C:Addr}{m:Mem}:m.Sublist (mc co C m):=by
 cases co
 ·exact .refl _
 ·exact Zw ..
theorem Gv(co:Bool){elt aF iter:Expr}{ifs:List Expr}{rest:List Comprehension}{cl:List (Str×Addr)}{Ji:Addr→List (Str×Addr)}{vars:dL}{m1 m2:Mem}{tg:Expr→Prop}{cy:Mem→Prop}{B:Addr→Value→Sem Fin→Sem Fin}(e:bI g env)(qF:dw g x st ⟨vars,m1++m2⟩ tg cy l)(ht:tg aF){ck:List Str}(j7:∀C D a,cy (nM co ck m1 m2 C D a).mem)(Sg:yL co g env scope cl Ji)(i3:scope.kind= .function)(V0:ck.Nodup)(hT:∀C,oO (.ListComp elt (⟨aF,iter,ifs,0⟩::rest) scope pos) 0 (compEnvC scope (Ji C) C env) ps aF ifs (B C))(Acc:Nat→List AV)(Uj:Acc 0=[])(step:∀C D i y,l[i]? =some y→bI (g.at C) (compEnvC scope (Ji C) C env)→W1 (g.at C) UR (assign aF (compEnvC scope (Ji C) C env)) y (nM co ck m1 m2 C D (Acc i)) fun O aN=>W0 (g.at C) RQ (j8 ifs (compEnvC scope (Ji C) C env)) aN fun ok a8=>
   cond ok (WB (g.at C) (B C (.ref D)) a8 fun gw=>Wk (g.at C) gw (nM co ck m1 m2 C D (Acc (i+1)))) (Wk (g.at C) a8 (nM co ck m1 m2 C D (Acc (i+1))))) {use:Option (Value→Sem Unit)} (Gw:w_ g (Acc l.length) vars m1 m2 (Gs g use Q)):Cr g env (.ListComp elt (⟨aF,iter,ifs,0⟩::rest) scope pos) scope cl use x st Q:=by
 intro F s v r hv K E k
 refine qF F s v r hv _ E fun F1 it fp St s1 l1 sr r1 w1 aN=>?_
 obtain⟨P',Sh,rM,qP⟩:=r1.wR
 refine abJ (Sg fun h₁ FW NY Ct=>?_)
 dsimp only at FW NY Ct ⊢
 rw[Heap.size_push] at FW Ct ⊢
 have old:∀b o,s1.heap.get? b=some o→h₁.get? b=some o:=fun b o e=>NY b o (Heap.get?_push_of_some _ e)
 have hD:=NY _ _ (Heap.get?_push_size s1.heap (o:=cE #[] 0) rfl)
 have fr:∀a,s1.heap.objs.size≤a→P' a=none∧F1.f a=none∧(∀p∈m1++m2,p.1≠a)∧(∀t∈g.tabs,t.1≠a)∧F1.P a=none∧a≠g.L∧a∉fp:=fun a ha=>
  ⟨aO rM.hP ha,aO r1.hF ha,fun p hp=>Yp (J3 (r1.j3 hp) ha),fun t ht=>Yp (J3 (r1.j4 ht) ha),aO r1.hP ha,Zn (J3 r1.KC ha),
   fun hm=> (sr.ex _ _ _ aN a hm).elim fun O e=>aai _ (J3 (Heap.lt_size e) ha)⟩
 generalize s1.heap.objs.size=D at FW Ct hD fr ⊢
 have d:=fr D (N1 D)
 have c:=fr (D+1) (ZD D)
 have b:=fr (D+1+1) (Y6 (ZD D))
 have R0:=((rM.keeps (h':=h₁) old s1.toks id).at (D+1)).Gr FW (vs:=ck.map fun x=> (x,none)) (fun p hp=>by obtain⟨_,_,rfl⟩:=N5.mp hp;trivial) (by rw[YU];exact(List.map_id' ck).symm▸V0) c.1 c.2.1 c.2.2.1 c.2.2.2.1
 have A0:eO (g.at (D+1)) ⟨P',F1.f⟩ ⟨ck.map fun x=> (x,none),m1++m2⟩ fp:=⟨fun a ha=> (Sh a (w1.L a ha)).trans (w1.P a ha),w1.f,fun a ha q=>c.2.2.2.2.2.2 ((E8 (·∈fp) q).mp ha),w1.m,w1.t⟩
 have S0:St 0 ⟨P',F1.f⟩ h₁:=sr.mono 0 F1 _ s1.heap h₁ (fun O O h=>h) (fun a ha=> (sr.ex _ _ _ aN a ha).elim fun o e=> (old _ _ e).trans e.symm) aN
 have R1:=R0.NX A0 (a:=D) (ao:= .list []) d.1 d.2.1 (Yp (Y4 D)) d.2.2.1 d.2.2.2.1 d.2.2.2.2.2.2 (ou.mk #[] 0 hD iX)
 have R2:Rep (g.at (D+1)) ⟨P',F1.f⟩ ⟨ck.map fun x=> (x,none),mc co (D+1) ((D,.list [])::(m1++m2))⟩ {s1 with heap:=h₁ }∧eO (g.at (D+1)) ⟨P',F1.f⟩ ⟨ck.map fun x=> (x,none),mc co (D+1) ((D,.list [])::(m1++m2))⟩ fp:=by
  cases co with
  | false=>exact R1
  | true=>exact R1.1.NX R1.2 b.1 b.2.1 (Nat.succ_ne_self _) (X_.mpr ⟨Yp (Zf (Y4 D)),b.2.2.1⟩) b.2.2.2.1 b.2.2.2.2.2.2 (ow.mk _ none (Ct rfl) rfl trivial)
 have R3:=R2.1.less (mem:=mc co (D+1) (m1++(D,.list [])::m2)) ((mc_perm co).map _).nodup_iff.mpr fun p hp=> ⟨_,(mc_perm co).mem_iff.mp hp,.inl rfl⟩
 have A3:eO (g.at (D+1)) ⟨P',F1.f⟩ (nM co ck m1 m2 (D+1) D []) fp:=⟨R2.2.P,R2.2.f,R2.2.L,fun a ha p hp=>R2.2.m a ha p ((mc_perm co).mem_iff.mp hp),R2.2.t⟩
 have loop:=mE (g:=g) (it:=it) (D:=D) (R:=compPost (model g.prog g.w) g.A E use K (.ref D) (D+1)) (hT (D+1)) sr ht (fun i=>nM co ck m1 m2 (D+1) D (Acc i)) (fun i=>j7 _ _ _) (fun i y hy=>step (D+1) D i y hy ⟨rfl,i3,e.globals,e.builtins⟩) (Uj▸R3) (Uj▸A3) S0 fun F3 s' l' r'=>by
  obtain⟨m,hm,_⟩:=r'.ns
  have r5:=(r'.less ((mc_perm co).symm.map _).nodup_iff.mpr fun p hp=> ⟨_,(mc_perm co).symm.mem_iff.mp hp,.inl rfl⟩).sub (Cs co)
  exact Gu Gw (qP F3 _ s' l' (r5.toRepM.at g.L)) (.one c.2.2.2.2.1 r'.gL c.2.2.2.2.2.1 r5.fX c.2.2.2.1) hm fun F' b a cg s' l2=>k F' b a cg s' (l1.trans (FM.le.trans (G:=⟨F1.P,F3.f⟩) ⟨rfl,l'.f⟩ l2))
 exact codeAny_compStart_list loop (sr.self 0 ⟨P',F1.f⟩ _ R0.hF S0 _ _ loop)
end
end
section
section
structure h_(g g':Gd):Prop where
 prog:g'.prog=g.prog
 w:g'.w=g.w
 K:g'.K=g.K
 os:g'.os=g.os
 gl:g'.gl=g.gl
 bl:g'.bl=g.bl
 tabs:g'.tabs=g.tabs
 n:g'.n=g.n
theorem h_.at(g:Gd)(L:Addr):h_ g (g.at L):=⟨rfl,rfl,rfl,rfl,rfl,rfl,rfl,rfl⟩
noncomputable def Ar(k:NameKind):Bool:=k.rec false true true false false
noncomputable def tA(k:NameKind):Bool:=k.rec false false true false false
noncomputable def Si(k:NameKind):Bool:=k.rec true false false false false
theorem Gx:∀ {k:NameKind},Ar k=true→k= .cell∨k= .free
 | .cell,_=> .inl rfl
 | .free,_=> .inr rfl
noncomputable def b_(sn:List (Str×NameKind)):List Str:=(sn.filter fun p=>Si p.2).map (·.1)
theorem u5{sn:List (Str×NameKind)}(h:c9 sn=true):(b_ sn).Nodup:=(List.filter_sublist.map _).nodup (Yr (E3.mp h).1)
theorem c9.kn{sn:List (Str×NameKind)}(h:c9 sn=true):lM sn sn=true:=(E3.mp h).2
noncomputable def ic(cs:List (Str×Addr)):List (Str×NameKind)→List (Str×Addr)→List (Str×Addr)
 | [],acc=>acc
 | p::r,acc=>ic cs r (cond (tA p.2) ((cs.lookup p.1).elim acc fun c=> (p.1,c)::acc) acc)
noncomputable def kR(sn names:List (Str×NameKind))(cs:List (Str×Addr)):Bool:=
 sn.all fun p=>cond (tA p.2) ((names.any fun q=>q.1==p.1&&Ar q.2)&& (cs.lookup p.1).isSome) true
structure Gy(env:Env)(cs:List (Str×Addr))(x:Str)(c:Addr):Prop where
 l:cs.lookup x=some c
 e:env.cells.lookup x=some c
 u:∀d,(x,d)∈cs→d=c
theorem mem_of_lookup{β:Type}{c:β}:∀ {l:List (Str×β)},l.lookup x=some c→(x,c)∈l
 |(a,b)::r,h=>by
  rw[YX] at h
  cases hb:x==a with
  | true=>rw[hb] at h;cases h;cases eq_of_beq hb;exact .head _
  | false=>rw[hb] at h;exact .tail _ (mem_of_lookup h)
theorem tB{sn names:List (Str×NameKind)}{cs:List (Str×Addr)}(N:Kn env names cs)(h:kR sn names cs=true)(hx:(x,NameKind.free)∈sn):∃c,Gy env cs x c:=by
 obtain⟨h1,h2⟩:=E3.mp (E9.mp h _ hx)
 obtain⟨q,hq,e⟩:=YY.mp h1
 obtain⟨e,hk⟩:=E3.mp e
 obtain⟨c,hc⟩:=Z8.mp h2
 have key:=N.cell x q.2 ((eq_of_beq e:q.1=x)▸hq) (Gx hk)
 have e:=key c (mem_of_lookup hc)
 exact⟨c,hc,e,fun d hd=>YB ((key d hd).symm.trans e)⟩
theorem mH{cs:List (Str×Addr)}{c:Addr}(X:Gy env cs x c):∀(sn:List (Str×NameKind)) (acc:List (Str×Addr)),((x,NameKind.free)∈sn∨acc.lookup x=some c)→(ic cs sn acc).lookup x=some c
 | [],acc,h=>h.elim (fun h=>nomatch h) id
 |(y,k)::r,acc,h=>mH X r _<|by
  cases hb:x==y with
  | true=>
   cases eq_of_beq hb
   cases k with
   | free=>
    refine .inr ?_
    show List.lookup x ((cs.lookup x).elim acc fun c=> (x,c)::acc)=_
    rw[X.l]
    exact abl
   | _=>exact h.imp_left fun h=> (J0.mp h).elim (fun e=>by cases e) id
  | false=>
   refine h.imp (fun h=> (J0.mp h).elim (fun e=>by cases e;rw[beq_self_eq_true] at hb;cases hb) id) fun h=>?_
   cases tA k with
   | false=>exact h
   | true=>
    show List.lookup x ((cs.lookup y).elim acc fun c=> (y,c)::acc)=_
    cases cs.lookup y with
    | none=>exact h
    | some d=>exact(show List.lookup x ((y,d)::acc)=_ by rw[YX,hb];exact h)
theorem j9{scope:Scope}{cs:List (Str×Addr)}(h:∀x,(x,NameKind.free)∈scope.names→∃c,Gy env cs x c):closureFor scope env=pure (ic cs scope.names []):=by
 unfold closureFor
 suffices H:∀(sn:List (Str×NameKind)) (acc:List (Str×Addr)),(∀x,(x,NameKind.free)∈sn→∃c,Gy env cs x c)→
   ((forIn sn acc (fun(p:Str×NameKind) (cs:List (Str×Addr))=>match p with |(name,kind)=>if(kind==NameKind.free)=true then(cellOf env name >>= fun c=>pure (ForInStep.yield ((name,c)::cs))) else pure (ForInStep.yield cs)):Sem (List (Str×Addr))) >>= fun r=>pure r)=pure (ic cs sn acc) by
  exact H scope.names [] h
 intro sn
 induction sn with
 | nil=>exact fun acc O=>rfl
 | cons p r ih=>
  intro acc h
  rw[abo]
  obtain⟨x,k⟩:=p
  have Uk:=fun acc=>ih acc fun x hx=>h x (.tail _ hx)
  cases k with
  | free=>
   obtain⟨c,X⟩:=h x (.head _)
   have e:cellOf env x=pure c:=by unfold cellOf;rw[X.e]
   show((cellOf env x >>= fun c=>pure (ForInStep.yield ((x,c)::acc))) >>= _) >>= _=pure (ic cs r ((cs.lookup x).elim acc fun c=> (x,c)::acc))
   rw[e,X.l]
   exact Uk ((x,c)::acc)
  | _=>exact Uk acc
theorem i9{env:Env}:∀ {names:List (Str×NameKind)} {x:Str} {k:NameKind},names.lookup x=some k→
  have r:=(names.map fun(n,k)=>if(k==NameKind.free&&env.scope.kind== .function&&env.kindOf n==some .cell) then(n,NameKind.cell) else(n,k)).lookup x
  r=some k∨(k= .free∧r=some .cell)
 |(n,kq)::r,x,k,h=>by
  have ih:= @i9 env r x k
  rw[YX] at h
  show(List.lookup x ((if(kq==NameKind.free&&env.scope.kind== .function&&env.kindOf n==some .cell)=true then(n,NameKind.cell) else(n,kq))::_)=_)∨(_∧List.lookup x ((if(kq==NameKind.free&&env.scope.kind== .function&&env.kindOf n==some .cell)=true then(n,NameKind.cell) else(n,kq))::_)=_)
  cases hb:x==n with
  | true=>
   rw[hb] at h
   cases h
   split
   ·next hc=>exact .inr ⟨eq_of_beq (E3.mp (E3.mp hc).1).1,by rw[YX,hb]⟩
   ·exact .inl (by rw[YX,hb])
  | false=>
   rw[hb] at h
   split <;> (rw[YX,hb];exact ih h)
noncomputable def M3(oc:Option Str)(C:Addr)(cl:List (Str×Addr)):List (Str×Addr):=oc.elim cl fun x=> (x,C+1)::cl
noncomputable def dN(oc:Option Str)(sn:List (Str×NameKind))(cs:List (Str×Addr)):Bool:=(sn.all fun p=>cond (Ar p.2) (cond (tA p.2) (oc !=some p.1) (oc==some p.1)) true)&&cs.all fun q=>oc !=some q.1
theorem Gz{names sn:List (Str×NameKind)}{cs:List (Str×Addr)}{scope:Scope}{C:Addr}{oc:Option Str}(N:Kn env names cs)(w8:scope.names=sn)(hf:kR sn names cs=true)(yH:c9 sn=true)(Jj:dN oc sn cs=true):
  Kn (compEnvC scope (M3 oc C (ic cs sn [])) C env) sn (M3 oc C cs):=by
 subst w8
 obtain⟨h1,h2⟩:=E3.mp Jj
 have old:∀x,(x,NameKind.free)∈scope.names→∀c,(x,c)∈cs→(ic cs scope.names []).lookup x=some c:=fun x hx c hc=>by
  obtain⟨d,X⟩:=tB N hf hx
  rw[X.u c hc]
  exact mH X _ _ (.inl hx)
 refine⟨fun p hp=>i9 (lM.at (c9.kn yH) hp).1,fun p hp=> (lM.at (c9.kn yH) hp).2,fun x k hx hk c hc=>?_⟩
 have hh:=E9.mp h1 _ hx
 cases oc with
 | none=>
  rcases hk with rfl | rfl
  ·cases hh
  ·exact old x hx c hc
 | some x0=>
  show List.lookup x ((x0,C+1)::_)=_
  rcases J0.mp hc with e | hc
  ·cases e;exact abl
  ·have fY:=bne_iff_ne.mp (E9.mp h2 _ hc)
   rcases hk with rfl | rfl
   ·exact absurd (eq_of_beq hh) fY
   ·rw[YX,ZO.mpr fun e=>fY (E8 some e.symm)]
    exact old x hx c hc
section
variable {g:Gd}{env:Env}{st:AS}
def oQ(g:Gd)(aF:Expr)(ifs:List Expr)(sn:List (Str×NameKind))(cs:List (Str×Addr))(oc:Option Str)(B:Env→Value→Sem Fin→Sem Fin)(m1 m2:Mem)(y:AV)(a a':List AV):Prop:=
 ∀g' fq C D,h_ g g'→bI g' fq→Kn fq sn (M3 oc C cs)→W1 g' UR (assign aF fq) y (nM oc.isSome (b_ sn) m1 m2 C D a) fun O aN=>W0 g' RQ (j8 ifs fq) aN fun ok a8=>
  cond ok (WB g' (B fq (.ref D)) a8 fun gw=>Wk g' gw (nM oc.isSome (b_ sn) m1 m2 C D a')) (Wk g' a8 (nM oc.isSome (b_ sn) m1 m2 C D a'))
inductive K0(g:Gd)(aF:Expr)(ifs:List Expr)(sn:List (Str×NameKind))(cs:List (Str×Addr))(oc:Option Str)(B:Env→Value→Sem Fin→Sem Fin)(use:Option (Value→Sem Unit))(x:AV)(st:AS)(Q:AV→AS→Prop):Prop
 | mk (vars:dL) (m1 m2:Mem) (tg:Expr→Prop) (cy:Mem→Prop) (l:List AV) (qF:dw g x st ⟨vars,m1++m2⟩ tg cy l) (ht:tg aF) (j7:∀C D a,cy (nM oc.isSome (b_ sn) m1 m2 C D a).mem) (Acc:Nat→List AV) (h0:Acc 0=[])
  (step:∀i y,l[i]? =some y→oQ g aF ifs sn cs oc B m1 m2 y (Acc i) (Acc (i+1))) (Gw:w_ g (Acc l.length) vars m1 m2 (Gs g use Q))
def kS(oc:Option Str)(sn:List (Str×NameKind)):Prop:=oc.elim True fun x=> (∀n acc,cellsFrom n sn acc=(x,n)::acc)∧∀h,pushCells h sn=h.push {cls:= .type "cell",data:= .cell none }
theorem K1{scope:Scope}{cl:List (Str×Addr)}(h:kS (some x) scope.names):yL true g env scope cl fun C=>M3 (some x) C cl:=fun {E s Q} hQ=>by
 unfold newFunctionEnv
 refine E5 (wpAny_alloc ?_)
 refine E5 (wpAny_layCells _ (fun name kind cells=>by cases kind <;> rfl) _ _ _ _ ?_)
 rw[h.1,h.2]
 refine E5 (N7 (N7 ?_))
 have hz:(s.heap.push {cls:= .type "dict",data:= .dict #[] }).objs.size=s.heap.objs.size+1:=Heap.size_push ..
 have e:=Heap.get?_push_size (s.heap.push {cls:= .type "dict",data:= .dict #[] }) (o:= {cls:= .type "cell",data:= .cell none }) rfl
 show Q (newEnv scope s.heap.objs.size env.globals ((x,(s.heap.push {cls:= .type "dict",data:= .dict #[] }).objs.size)::cl) env.qual none .none (some env) builtinsNs) _
 rw[hz] at e ⊢
 exact hQ _ ((Heap.Ns.new s.heap (.type "dict")).keeps fun b o e=>Heap.get?_push_of_some _ e) (fun b o e=>Heap.get?_push_of_some _ (Heap.get?_push_of_some _ e)) fun O=>e
theorem dN.no{sn:List (Str×NameKind)}{cs:List (Str×Addr)}(h:dN none sn cs=true):∀y∈sn,y.2≠.cell:=fun(y,k) hy e=>by cases(e:k=_);cases E9.mp (E3.mp h).1 _ hy
theorem Cu{scope:Scope}{cl cs:List (Str×Addr)}{oc:Option Str}(hk:scope.kind= .function)(h:kS oc scope.names)(Jj:dN oc scope.names cs=true):yL oc.isSome g env scope cl fun C=>M3 oc C cl:=by
 cases oc with
 | some x=>exact K1 h
 | none=>exact NT (dN.no Jj) hk
theorem xb{elt aF iter:Expr}{ifs:List Expr}{rest:List Comprehension}{names sn:List (Str×NameKind)}{cs:List (Str×Addr)}{more:List (Str×Const)}{oc:Option Str}{B:Env→Value→Sem Fin→Sem Fin}{use:Option (Value→Sem Unit)}(e:bI g env)(N:Kn env names cs)(w8:scope=⟨.function,sn,false,false,more⟩)(hf:kR sn names cs=true)(yH:c9 sn=true)(Jj:dN oc sn cs=true)(h1:kS oc sn)(hT:∀fq,oO (.ListComp elt (⟨aF,iter,ifs,0⟩::rest) scope pos) 0 fq p2 aF ifs (B fq))(hs:∀x,foldedSetIterable iter env x=pure x)(h:W0 g VR (eval iter env) st fun x aN=>K0 g aF ifs sn cs oc B use x aN Q):W0 g VR (comprehension (.ListComp elt (⟨aF,iter,ifs,0⟩::rest) scope pos) scope env ps (newList []) false (eval iter env) use) st Q:=by
 subst w8
 refine xa (h.mono fun x aN h=>?_) (j9 fun x hx=>tB N hf hx) rfl (fun y hy hl=> (lM.at (c9.kn yH) hy).1.trans (E8 some hl)) hs
 obtain⟨vars,m1,m2,tg,cy,l,qF,ht,j7,Acc,h0,step,Gw⟩:=h
 exact Gv oc.isSome e qF ht j7 (Cu rfl h1 Jj) rfl (u5 yH) (fun C=>hT _) Acc h0 (fun C D i y hy ek=>step i y hy _ _ C D (.at g C) ek (Gz N rfl hf yH Jj)) Gw
theorem Cv{gens:List Comprehension}{scope:Scope}{gz py:Pos}{line:Nat}(e:bI g env)(hy:env.kindOf y=some .local)(hc:(py.line==gz.line&&!(scope.names.any fun x=>x.1==y&& (x.2== .local||x.2== .cell)))=true):
  swapsWith (.ListComp elt gens scope gz) (some (.Name y py)) line env=pure true:=by
 have h1:(env.blockKind==ScopeKind.function)=true:=by
  unfold Env.blockKind
  rw[e.kind];rfl
 have h:=E3.mp hc
 show pure (env.blockKind==ScopeKind.function&& (env.kindOf y==some NameKind.local)&&py.line==gz.line&&_)=pure true
 rw[h1,hy,h.1]
 exact E8 pure h.2
theorem u6{y py elt aF iter ifs rest sn more gz pos names cs}(e:bI g env)(N:Kn env names cs)(hy:(y,NameKind.local)∈names)(hc:(py.line==gz.line&&!(sn.any fun x=>x.1==y&& (x.2== .local||x.2== .cell)))=true)(h:W0 g VR (comprehension (.ListComp elt (⟨aF,iter,ifs,0⟩::rest) ⟨.function,sn,false,false,more⟩ gz) ⟨.function,sn,false,false,more⟩ env iter.pos (newList []) false (eval iter env) (some (assign (.Name y py) env))) st fun O a8=>Q .next a8):
  W0 g FR (exec (.Assign [.Name y py] (.ListComp elt (⟨aF,iter,ifs,0⟩::rest) ⟨.function,sn,false,false,more⟩ gz) pos) env) st Q:=fun F s r K E k=>by
 rw[exec_Assign_Name_used _ _ _ _ (Cv e (N.ne hy (by decide)) hc)]
 refine E5 (Zx (E5 ?_))
 show wpAny _ _ (do let _ ← comprehension (.ListComp elt (⟨aF,iter,ifs,0⟩::rest) ⟨.function,sn,false,false,more⟩ gz) ⟨.function,sn,false,false,more⟩ env iter.pos (newList []) false (eval iter env) (some (assign (.Name y py) env))) _ _ s
 exact E5 (h F s r _ _ fun F1 b a aN s1 l1 r1 O h1=>N7 (N7 (k F1 .next .next aN s1 l1 r1 rfl h1)))
end
end
end
section
section
variable {g:Gd}{env:Env}{st:AS}
theorem u7(h:Q true st):W0 g RQ (j8 [] env) st Q:=fun F s r K E k=>wpAny_tests_nil (k F true true st s (FM.le.refl _) r rfl h)
theorem mJ(h:W0 g RQ (isTrue c env (eval c env)) st Q):W0 g RQ (j8 [c] env) st Q:=fun F s r K E k=>wpAny_tests_one (h F s r K E k)
theorem u8{R:Result→Shared→Prop}{nr iQ:List Expr}(h0:codeAny (model g.prog g.w) A (.compLoop (.ListComp elt [⟨t1,i1,nr,0⟩,⟨t2,i2,iQ,0⟩] scope pos) 1 it acc env) R s)(h:wpAny (model g.prog g.w) A (pyIter it) (fun Ul s'=>codeAny (model g.prog g.w) A (.compLoop (.ListComp elt [⟨t1,i1,nr,0⟩,⟨t2,i2,iQ,0⟩] scope pos) 1 Ul acc env) R s')
   (notedBy (model g.prog g.w) A env fun x s'=>R (.error x) s') s):
  codeAny (model g.prog g.w) A (.compStart (.ListComp elt [⟨t1,i1,nr,0⟩,⟨t2,i2,iQ,0⟩] scope pos) 1 it acc env) R s:=by
 refine codeAny_of_tree (wpAny_notedAt ?_)
 unfold compStart
 refine E5 (wpAny_askSetting (wpAny_ite ?_))
 split
 ·exact E5 (N7 (N7 ⟨rfl,h0⟩))
 ·exact E5 (aaS (E5 (Zx (E5 (aaw h (fun Ul s' hh=>N7 ⟨rfl,hh⟩) fun O O h'=>h')))))
theorem NZ{nr iQ:List Expr}{D:Addr}{P:AS→Prop}(hs:∀x,foldedSetIterable i2 env x=pure x)(h:W0 g VR (eval i2 env) st fun x aN=> ∃tg cy l a8,dw g x aN a8 tg cy l∧tg t2∧∃S:Nat→AS,S 0=a8∧(∀i,cy (S i).mem)∧P (S l.length)∧
   ∀i y,l[i]? =some y→W1 g UR (assign t2 env) y (S i) fun O aN=>W0 g RQ (j8 iQ env) aN fun ok a8=>cond ok (WB g (Ap elt env (.ref D)) a8 fun gw=>Wk g gw (S (i+1))) (Wk g a8 (S (i+1)))):
  WB g (Ra (.ListComp elt [⟨t1,i1,nr,0⟩,⟨t2,i2,iQ,0⟩] scope pos) i2 env (.ref D)) st P:=fun F s r k Q E kk=>by
 refine E5 (h F s r _ E fun F1 x v aN s1 l1 r1 hv h1=>E5 (Zx (E5 ?_)))
 rw[hs]
 obtain⟨tg,cy,l,a8,qF,ht,S,h0,hn,hP,step⟩:=h1
 refine N7 (E5 (Yz (qF F1 s1 v r1 hv _ E fun F2 it fp St s2 l2 sr r2 w2 S2=>E5 (wpAny_runOwn (abP (R:=fun r s'=>r= .ok .next∧wpAny (model g.prog g.w) g.A k Q E s') ?_ fun r s' hr=>by obtain⟨rfl,hr⟩:=hr;exact hr) fun h=>nomatch h))))
 have loop:=mE (g:=g) (L:=g.L) (D:=D) (it:=it) (R:=fun r s'=>r= .ok .next∧wpAny (model g.prog g.w) g.A k Q E s') (KV elt t1 i1 t2 i2 nr iQ scope pos env) sr ht S hn step (h0▸r2) (h0▸w2) S2 fun F3 s3 l3 r3=> ⟨rfl,kk F3 _ s3 (l1.trans (l2.trans l3)) r3 hP⟩
 exact u8 loop (sr.self 0 F2 s2 r2.hF S2 _ _ loop)
def M4(g:Gd)(env:Env)(df:List Expr)(xs:List AV)(st:AS)(Q:Unit→AS→Prop):Prop:=
 ∀F s vs,Rep g F st s→be F xs vs→∀(K:Unit→Shared→Prop) (E:Value→Shared→Prop),
  (∀F' b a cg s',FM.le F F'→Rep g F' cg s'→UR F' b a→Q b cg→K a s')→wpAny (model g.prog g.w) g.A (assignInOrder ((assignEach df env).map (·.2)) vs) K E s
theorem Rep.ext(r:Rep g F st s)(hx:Heap.ExtBut s.heap.objs.size s.heap h'):Rep g F st {s with heap:=h' }:=
 r.keeps (h':=h') (fun b o e=>hx b o (Yp (Heap.lt_size e)) e) s.toks id
theorem fG{df x1 pos}(h:M4 g env df xs st Q)(hn:(assignEach df env).length=xs.length)(Cw:(assignEach df env).findIdx? (·.1)=none):
  W1 g UR (assign (.Tuple df x1 pos) env) (.tup xs) st Q:=fun F s v r hv K E k=>by
 obtain⟨a,items,n,rfl,e,hi⟩:=hv
 exact wpAny_assign_Tuple g.hh ⟨_,r.hF _ _ e,rfl,n,rfl⟩ (hn.trans hi.size.symm) Cw fun h' hx=>h F _ items.toList (r.ext hx) hi K E k
theorem yM(h:Q () st):M4 g env [] [] st Q:=fun F s vs r hv K E k=>by
 cases(hv:_=_)
 exact N7 (k F () () st s (FM.le.refl _) r trivial h)
theorem oS{e rest x xs}(h:W1 g UR (assign e env) x st fun O aN=>M4 g env rest xs aN Q)(he:assignEach (e::rest) env=(false,assign e env)::assignEach rest env):
  M4 g env (e::rest) (x::xs) st Q:=fun F s vs r hv K E k=>by
 obtain⟨v,vr,rfl,h1,h2⟩:=hv
 rw[he]
 exact E5 (Yz (h F s v r h1 _ E fun F1 O O aN s1 l1 r1 O h3=>h3 F1 s1 vr r1 (h2.mono l1) K E fun F' b a cg s' l r2 hb hq=>k F' b a cg s' (l1.trans l) r2 hb hq))
noncomputable def xc(names:List (Str×NameKind)):Env:= {scope:=⟨.function,names,false,false,[]⟩,locals:=0,globals:=0,cells:=[] }
theorem Cy{names:List (Str×NameKind)}{ts:List Expr}(kd:∀x,env.kindOf x=names.lookup x)(e:bI g env):swappedStores ts v env=swappedStores ts v (xc names):=by
 have h1:env.blockKind= .function:=by
  unfold Env.blockKind
  rw[e.kind];rfl
 unfold swappedStores
 rw[h1,funext kd]
 rfl
theorem i_{df k fH ay pos names}(kd:∀x,env.kindOf x=names.lookup x)(e:bI g env)(h:W0 g VR (eval ay env) st fun v aN=>W1 g UR (assign (.Tuple df k fH) env) v aN fun O a8=>Q .next a8)(hs:swapsWithSole [.Tuple df k fH] ay pos.line env=pure false)(hw:swappedStores [.Tuple df k fH] ay (xc names)=pure none):W0 g FR (exec (.Assign [.Tuple df k fH] ay pos) env) st Q:=fun F s r K E kk=>
 Assign_Tuple (h F s r _ E fun F1 x v aN s1 l1 r1 v1 h1=>h1 F1 s1 v r1 v1 _ E fun F2 O O a8 s2 l2 r2 O h2=>kk F2 .next .next a8 s2 (l1.trans l2) r2 rfl h2) hs ((Cy kd e).trans hw)
def Bn(g:Gd)(env:Env)(Q:AS→Prop):List Str→List AV→AS→Prop
 | [],[],st=>Q st
 | n::ns,x::xs,st=>W1 g UR (storeName env n) x st fun O=>Bn g env Q ns xs
 | _,_,_=>False
theorem Jk{Q:AS→Prop}:∀ {ns:List Str} {xs:List AV} {st:AS},Bn g env Q ns xs st→∀F s vs,Rep g F st s→be F xs vs→∀(K:Shared→Prop) (E:Value→Shared→Prop),(∀F' cg s',FM.le F F'→Rep g F' cg s'→Q cg→K s')→
  wpAny (model g.prog g.w) g.A (assignInOrder (ns.map fun n=>bindName env n) vs) (fun O=>K) E s
 | [],[],st,h,F,s,vs,r,hv,K,E,k=>by cases(hv:_=_);exact N7 (k F st s (.refl _) r h)
 | n::ns,x::xs,st,h,F,s,vs,r,hv,K,E,k=>by
  obtain⟨v,vr,rfl,h1,h2⟩:=hv
  exact E5 (Yz (bindName_ (h F s v r h1 _ E fun F1 O O aN s1 l1 r1 O h3=>Jk h3 F1 s1 vr r1 (h2.mono l1) K E fun F' cg s' l r2 hq=>k F' cg s' (l1.trans l) r2 hq)))
theorem be.rev{F:FM}:∀ {xs:List AV} {vs:List Value},be F xs vs→be F xs.reverse vs.reverse
 | [],_,e=>by cases(e:_=_);exact iX
 | x::xs,_,e=>by
  obtain⟨v,r,rfl,h1,h2⟩:=e
  rw[List.reverse_cons,List.reverse_cons]
  exact(be.rev h2).append (f6 h1 iX)
theorem kT{df k fH ay pos names}{ns:List Str}(kd:∀x,env.kindOf x=names.lookup x)(e:bI g env)(h:W0 g VR (eval ay env) st fun v aN=> ∃xs,v= .tup xs∧ns.length=xs.length∧Bn g env (Q .next) ns.reverse xs.reverse aN)(hs:swapsWithSole [.Tuple df k fH] ay pos.line env=pure false)(hw:swappedStores [.Tuple df k fH] ay (xc names)=pure (some ns)):W0 g FR (exec (.Assign [.Tuple df k fH] ay pos) env) st Q:=fun F s r K E kk=>by
 refine Assign_Tuple_swapped (h F s r _ E fun F1 v u aN s1 l1 r1 v1 h1=>?_) hs ((Cy kd e).trans hw)
 obtain⟨xs,rfl,hl,h1⟩:=h1
 obtain⟨a,items,n,rfl,e,hi⟩:=v1
 rw[hl.trans hi.size.symm]
 exact wpAny_unpackItems_tuple g.hh ⟨_,r1.hF _ _ e,rfl,n,rfl⟩ fun h' hx=>Jk h1 F1 _ _ (r1.ext hx) hi.rev _ E fun F2 a8 s2 l2 r2 hq=>kk F2 .next .next a8 s2 (l1.trans l2) r2 rfl hq
inductive V1(g:Gd)(F:FM)(Inv:Nat→AS→Prop)(n:Nat)(s:Shared):Prop
 | mk (F':FM) (st:AS) (le:FM.le F F') (h:Inv n st) (r:Rep g F' st s)
theorem GA{K2 body pos}(Inv:Nat→AS→Prop)(n:Nat)(h0:Inv n st)(step:∀n st,Inv n st→W0 g RQ (isTrue K2 env (eval K2 env)) st fun b aN=>if b=true then W0 g FR (execs body env) aN (TurnEnd (fun a8=> ∃m,m<n∧Inv m a8) Q) else Q .next aN):
  W0 g FR (exec (.While K2 body [] pos) env) st Q:=fun F s r K E k=>by
 refine wpAny_While (codeAny_whileLoop (V1 g F Inv) (fun n s1 ⟨F1,aN,l1,hI,r1⟩=>step n aN hI F1 s1 r1 _ _ fun F2 b a a8 s2 l2 r2 hb h2=>?_) n ⟨F,st,.refl _,h0,r⟩)
 cases(hb:_=_)
 cases b with
 | true=>exact h2 F2 s2 r2 _ _ fun F3 f fl gw s3 l3 r3 hf h3=>FR.turn hf h3 (fun⟨m,hm,h3⟩=> ⟨m,hm,F3,gw,l1.trans (l2.trans l3),h3,r3⟩) fun x f hf hq=>k F3 x f gw s3 (l1.trans (l2.trans l3)) r3 hf hq
 | false=>exact abY (k F2 .next .next a8 s2 (l1.trans l2) r2 rfl h2)
end
end
section
set_option tactic.hygienic true
section
open AutoSeq1 (wpAny_loadPart')
variable {prog:Program}{w:World}{A:Around}{E:Value→Shared→Prop}{s:Shared}
theorem nu{it t:Addr}{i:Nat}{items}{Q:Value→Shared→Prop}(i7:s.heap.IsTupleIter it t i)(ht:s.heap.IsTuple t items)(hx:items[i]? =some x)(hQ:∀h',h'.IsTupleIter it t (i+1)→Heap.SameBut it s.heap h'→Q x {s with heap:=h' }):
  wpAny (model prog w) A (nextOf (.ref it)) Q E s:=by
 obtain⟨o,ho,hc,hd⟩:=id i7
 obtain⟨ol,Sj,_,nl,Sk⟩:=ht
 unfold nextOf
 refine E5 (aah (name:=Str.ofString "__next__") i7.typeIs Zy
  (ZP Zy i7.typeIs aa8 ?_ (aa3 _)))
 show wpAny _ _ (field (.ref it) 0 >>= _) _ _ s
 refine E5 (ZT ho hd (x:= .ref t) rfl ?_)
 show wpAny _ _ (if(Value.ref t==Value.none)=true then _ else _) _ _ s
 rw[X5 (show ¬ ((Value.ref t==Value.none)=true) from Yt)]
 show wpAny _ _ (field (.ref it) 1 >>= _) _ _ s
 refine E5 (ZT ho hd (x:= .int i 0) rfl ?_)
 show wpAny _ _ (seqItems? (.ref t) >>= _) _ _ s
 refine E5 (aaT Sj Sk ?_)
 simp only[Zg,hx]
 refine E5 (wpAny_setField ho hd (by simp) (N7 ⟨x,rfl,N7 (hQ _ ?_ (Heap.SameBut.update ..))⟩))
 exact⟨_,Heap.get?_update_self _ ho (Obj.isFreed_of_fields (Obj.data_mapFields hd _)),(Obj.cls_mapFields ..).trans hc,by
  rw[Obj.data_mapFields hd];simp[rawInt]⟩
theorem oU{it t:Addr}{i:Nat}{items}{Q:Value→Shared→Prop}(hh:A.handled=none)
  (i7:s.heap.IsTupleIter it t i) (ht:s.heap.IsTuple t items) (hx:items[i]? =none)
  (hE:∀h' e,Heap.ExtBut it s.heap h'→(∃o,h'.get? e=some o∧o.cls= .type "StopIteration")→E (.ref e) {s with heap:=h' }):
  wpAny (model prog w) A (nextOf (.ref it)) Q E s:=by
 obtain⟨o,ho,hc,hd⟩:=id i7
 obtain⟨ol,Sj,_,nl,Sk⟩:=ht
 unfold nextOf
 refine E5 (aah (name:=Str.ofString "__next__") i7.typeIs Zy
  (ZP Zy i7.typeIs aa8 ?_ (aa3 _)))
 show wpAny _ _ (field (.ref it) 0 >>= _) _ _ s
 refine E5 (ZT ho hd (x:= .ref t) rfl ?_)
 show wpAny _ _ (if(Value.ref t==Value.none)=true then _ else _) _ _ s
 rw[X5 (show ¬ ((Value.ref t==Value.none)=true) from Yt)]
 show wpAny _ _ (field (.ref it) 1 >>= _) _ _ s
 refine E5 (ZT ho hd (x:= .int i 0) rfl ?_)
 show wpAny _ _ (seqItems? (.ref t) >>= _) _ _ s
 refine E5 (aaT Sj Sk ?_)
 simp only[Zg,hx]
 refine E5 (aaS (E5 (wpAny_setField ho hd (by simp) ?_)))
 show wpAny _ _ (newExc (.type "StopIteration") [] >>= _) _ _ _
 refine E5 ?_
 simp only[newExc,newTuple]
 refine E5 (abJ ?_ (by size_fits))
 refine E5 (m:=firstArgMember _ _) (ab6 (a:=Value.none) (by first | rfl |(simp only[firstArgMember];rfl)) ?_)
 refine abJ ?_ (by size_fits)
 simp only[raiseNew]
 refine E5 (wpAny_handled ?_)
 first | rw[show A.in1.handled=none from hh] | rw[hh]
 refine E5 (N7 (wpAny_throw ?_))
 exact hE _ _ (((Heap.SameBut.update ..).extBut.push _).push _) ⟨_,Heap.get?_push_size _ rfl,rfl⟩
theorem Draws.tup(hh:A.handled=none)(it l:Addr)(fY:l≠it)(items:Array Value):
  Draws prog w A it [it,l] items.size (fun i v=>items[i]? =some v) (fun i h=>h.IsTupleIter it l i∧h.IsTuple l items) where
 live:=fun O O st=>let⟨o,ho,_⟩:=st.1;⟨o,ho⟩
 frame:=fun O O O st hk=> ⟨let⟨o,ho,r⟩:=st.1;⟨o,hk it (by simp) o ho,r⟩,let⟨o,ho,r⟩:=st.2;⟨o,hk l (by simp) o ho,r⟩⟩
 item:=fun i s Q E hi st hQ=>by
  refine nu st.1 st.2 (x:=items[i]) (by simp[hi]) fun h' Sl Gh=>?_
  exact hQ _ h' s.toks (by simp[hi]) ⟨Sl,st.2.extBut Gh.extBut fY⟩ Gh
 done:=fun s Q E st hE=>oU hh st.1 st.2 (by simp) hE
theorem ny(l:Addr)(items:Array Value)(n:Nat)(Sm:Option Addr)(sl:Array (Option Value)):
  Meets (Builtin.«enumerate.__new__» ⟨[.type "enumerate",.ref l],[]⟩) (fun O R s=>s.heap.get? l=some {cls:= .type "tuple",dict:=Sm,data:= .seq items n,slots:=sl }∧
   R (.ok (.ret (.ref (s.heap.push {cls:= .type "tuple_iterator",data:= .fields #[.ref l,.int 0 0] }).objs.size)))
    {s with heap:=(s.heap.push {cls:= .type "tuple_iterator",data:= .fields #[.ref l,.int 0 0] }).push {cls:= .type "enumerate",data:= .fields #[.none,.bool false,.ref s.heap.objs.size,rawInt 0,.none,.none] } }):=
 .of_wp fun prog w A R s h=>by
  obtain⟨hp,g,d,tk,os⟩:=s;obtain⟨hl,h⟩:=h
  have oV:=sub_enumerate
  have hL:Heap.IsTuple (Shared.heap ⟨hp,g,d,tk,os⟩) l items:=⟨_,hl,rfl,n,rfl⟩
  wp_walk using aaC hl
  refine wpAny_stack_any fun st=>N7 ?_
  split
  ·rename_i c _ _ _ _ _
   cases(c==Value.type "enumerate")
   ·wp_walk using aaC hl,aak hL
    exact⟨_,rfl,h⟩
   ·wp_walk using aaC hl,aak hL
    exact⟨_,rfl,h⟩
  ·wp_walk using aaC hl,aak hL
   exact⟨_,rfl,h⟩
theorem qR{l:Addr}{items:Array Value}{Q:Value→Shared→Prop}(hL:s.heap.IsTuple l items)
  (h:∀h',IsEnum h' (s.heap.objs.size+1) s.heap.objs.size 0 .none→h'.IsTupleIter s.heap.objs.size l 0→h'.objs.size=s.heap.objs.size+2→
   (∀b o,s.heap.get? b=some o→h'.get? b=some o)→Q (.ref (s.heap.objs.size+1)) {s with heap:=h' }):
  wpAny (model prog w) A (call (.type "enumerate") [.ref l]) Q E s:=by
 obtain⟨⟨c,Sm,dt,sl⟩,hl,hc,n,hd⟩:=hL
 replace hc:c= .type "tuple":=hc
 replace hd:dt= .seq items n:=hd
 subst hc hd
 refine callType_new PySem.F.called_enumerate (by decide) (PySem.F.typeCall_enumerate_1 _) (PySem.F.newCall_enumerate_1 _) (fun obj=>PySem.F.args_object_init_2 obj _) PySem.F.entry_enumerate_new
  (ny l items n Sm sl) ⟨hl,?_⟩
 have hz:(s.heap.push {cls:= .type "tuple_iterator",data:= .fields #[.ref l,.int 0 0] }).objs.size=s.heap.objs.size+1:=Heap.size_push ..
 show _∧_
 rw[hz]
 have he:IsEnum ((s.heap.push {cls:= .type "tuple_iterator",data:= .fields #[.ref l,.int 0 0] }).push
   {cls:= .type "enumerate",data:= .fields #[.none,.bool false,.ref s.heap.objs.size,rawInt 0,.none,.none] }) (s.heap.objs.size+1) s.heap.objs.size 0 .none:=by
  have:=Heap.get?_push_size (s.heap.push {cls:= .type "tuple_iterator",data:= .fields #[.ref l,.int 0 0] })
   (o:= {cls:= .type "enumerate",data:= .fields #[.none,.bool false,.ref s.heap.objs.size,rawInt 0,.none,.none] }) rfl
  rw[hz] at this;exact this
 refine⟨⟨_,he,rfl⟩,h _ he ⟨_,Heap.get?_push_of_some _ (Heap.get?_push_size _ rfl),rfl,rfl⟩ (by rw[Heap.size_push,hz]) fun b o x=>Heap.get?_push_of_some _ (Heap.get?_push_of_some _ x)⟩
end
section
variable {g:Gd}{env:Env}{st:AS}
theorem ni{a b:Addr}{l:List Addr}(h:b∉l)(ha:a∈l):b≠a:=fun e=>h (e▸ha)
theorem Rep.yN{F:FM}{vars:dL}{m1 mem:Mem}(r:Rep g F ⟨vars,m1++mem⟩ s):eO g F ⟨vars,mem⟩ (m1.map (·.1)):=
 have nd:=aa1.mp (N9 (f:=(·.1)) (l₁:=m1) (l₂:=mem)▸r.nd)
 have at':∀ {P:Addr→Prop},(∀p∈m1++mem,P p.1)→∀a∈m1.map (·.1),P a:=fun h a ha=> (N5.mp ha).elim fun q hq=>hq.2▸h q (Yn _ hq.1)
 ⟨at' (P:=fun a=>F.P a=none) fun p hp=> (r.ap p hp).1,at' (P:=fun a=>F.f a=none) fun p hp=> (r.ap p hp).2,at' (P:=(·≠g.L)) r.fX,fun a ha p hp e=>nd.2.2 a ha p.1 (aab hp) e.symm,
  fun a ha t ht=>Ne.symm (at' (P:=(·≠t.1)) (r.cM t ht).2.2 a ha)⟩
structure Um(g:Gd)(F:FM)(m:Mem)(N:Nat):Prop where
 P:∀a,N≤a→F.P a=none
 f:∀a,N≤a→F.f a=none
 L:g.L<N
 m:∀p∈m,p.1<N
 t:∀t∈g.tabs,t.1<N
theorem Rep.Sn{F:FM}(r:Rep g F st s):Um g F st.mem s.heap.objs.size:=⟨fun O=>aO r.hP,fun O=>aO r.hF,r.KC,fun O=>r.j3,fun O=>r.j4⟩
abbrev RB(g:Gd)(F:FM)(vars:dL)(m:Mem)(s:Shared)(N:Nat):Prop:=Rep g F ⟨vars,m⟩ s∧Um g F m N
theorem RB.add{F:FM}{vars:dL}{N:Nat}(x:RB g F vars m s N)(h:oy F s.heap N ao):RB g F vars ((N,ao)::m) s (N+1):=
 ⟨x.1.oz (x.2.f N (N1 N)) (x.2.P N (N1 N)) (Zn x.2.L) (fun p hp=>Yp (x.2.m p hp)) (fun t ht=>Yp (x.2.t t ht)) h,
  fun a ha=>x.2.P a (Yg ha),fun a ha=>x.2.f a (Yg ha),Zf x.2.L,X_.mpr ⟨Y4 N,fun p hp=>Zf (x.2.m p hp)⟩,fun t ht=>Zf (x.2.t t ht)⟩
theorem Rep.got{F:FM}{fp:List Addr}(r:Rep g F st s)(w:eO g F st fp)(ex:∀a∈fp,∃o,s.heap.get? a=some o){h2:Heap}(hk:∀b o,b∉fp→s.heap.get? b=some o→h2.get? b=some o)(ho:h2.get? s.heap.objs.size=some o)(t:Nat)(ht:0<s.toks→0<t):
  FM.le F (F.put s.heap.objs.size o)∧Rep g (F.put s.heap.objs.size o) st {s with heap:=h2,toks:=t }∧eO g (F.put s.heap.objs.size o) st fp:=
 have b:=r.Sn
 have fT:=b.f _ (N1 _)
 ⟨FM.eW fT,(r.keepsBut w hk t ht).yF ho fT (b.P _ (N1 _)) (Zn b.L) (fun p hp=>Yp (b.m p hp)) (fun t ht=>Yp (b.t t ht)),
  w.P,fun a ha=> (FM.cw F o ((ex a ha).elim fun O e=>Yp (Heap.lt_size e))).trans (w.f a ha),w.L,w.m,w.t⟩
def lS(t:Expr):Prop:= ∃df k pos,t= .Tuple df k pos
noncomputable abbrev mK(it:Addr):Obj:= {cls:= .type "enumerate",dict:=none,data:= .fields #[.none,.bool false,.ref it,rawInt 0,.none,.none],slots:= #[] }
noncomputable def aV(l:List AV):List AV:=l.zipIdx.map fun p=> .tup [.int (p.2:Nat),p.1]
theorem em(l:List AV):(aV l).length=l.length:=(E7 _).trans List.length_zipIdx
theorem As{i:Nat}(h:(aV l)[i]? =some x):∃y,l[i]? =some y∧.tup [.int (i:Nat),y]=x:=by
 rw[aV,Yi,List.getElem?_zipIdx,YQ] at h
 cases hy:l[i]? with
 | none=>rw[hy] at h;cases h
 | some y=>rw[hy] at h;exact⟨y,rfl,YB h⟩
theorem u9{tu:Bool}{l:List AV}{vars:dL}{mem:Mem}{Q:AV→AS→Prop}(h:∀e it,Q (.val (.ref e)) ⟨vars,(e,.obj (mK it))::(it,.fz tu l 0)::mem⟩){F:FM}{s:Shared}(r:Rep g F ⟨vars,mem⟩ s){a:Addr}{items:Array Value}{n:Nat}(ha:F.f a=some (RP tu items n))(hi:be F l items.toList)
  {K:Value→Shared→Prop} (k:∀F' b a cg s',FM.le F F'→Rep g F' cg s'→VR F' b a→Q b cg→K a s') {h':Heap} (he:IsEnum h' (s.heap.objs.size+1) s.heap.objs.size 0 .none) {o:Obj} (i7:h'.get? s.heap.objs.size=some o) (d:Nv tu a 0 o) (hk:∀b o,s.heap.get? b=some o→h'.get? b=some o):K (.ref (s.heap.objs.size+1)) {s with heap:=h' }:=
 have x:RB g F vars mem {s with heap:=h' } _:=⟨r.keeps hk s.toks id,r.Sn⟩
 k F _ _ _ _ (.refl _) ((x.add (ao:= .fz tu l 0) ⟨a,items,n,o,i7,d,ha,hi⟩).add (ao:= .obj (mK s.heap.objs.size)) he).1 (nH ..) (h _ _)
theorem K3{l:List AV}{vars mem}{Q:AV→AS→Prop}(h:∀e it,Q (.val (.ref e)) ⟨vars,(e,.obj (mK it))::(it,.fz false l 0)::mem⟩):Wl g VR (fun vs=>call (.type "enumerate") vs) [.lst l] ⟨vars,mem⟩ Q:=uV fun F s v r hv K E k=>by
 obtain⟨a,items,n,rfl,ha,hi⟩:=hv
 exact call_enumerate_list ⟨_,r.hF _ _ ha,rfl,n,rfl⟩ fun h' he i7 O hk=>i7.elim fun o ho=>u9 (tu:=false) h r ha hi k he ho.1 ho.2 hk
theorem GB{l:List AV}{vars mem}{Q:AV→AS→Prop}(h:∀e it,Q (.val (.ref e)) ⟨vars,(e,.obj (mK it))::(it,.fz true l 0)::mem⟩):Wl g VR (fun vs=>call (.type "enumerate") vs) [.tup l] ⟨vars,mem⟩ Q:=uV fun F s v r hv K E k=>by
 obtain⟨a,items,n,rfl,ha,hi⟩:=hv
 exact qR ⟨_,r.hF _ _ ha,rfl,n,rfl⟩ fun h' he i7 O hk=>i7.elim fun o ho=>u9 (tu:=true) h r ha hi k he ho.1 ho.2 hk
def GC(tu:Bool)(it ax:Addr)(items:Array Value)(i:Nat)(h:Heap):Prop:=cond tu (h.IsTupleIter it ax i∧h.IsTuple ax items) (h.IsListIter it ax i∧h.IsList ax items)
theorem yO{prog:Program}{w:World}{A:Around}(tu:Bool)(hh:A.handled=none){it ax:Addr}(fY:ax≠it)(items:Array Value):Draws prog w A it [it,ax] items.size (fun i v=>items[i]? =some v) (GC tu it ax items):=by
 cases tu
 ·exact Draws.list hh it ax fY items
 ·exact Draws.tup hh it ax fY items
theorem N0{tu:Bool}{it ax:Addr}{items:Array Value}{n i:Nat}{h:Heap}(e:h.get? it=some o)(d:Nv tu ax i o)(ha:h.get? ax=some (RP tu items n)):GC tu it ax items i h:=by
 cases tu
 ·exact⟨⟨o,e,d⟩,_,ha,rfl,n,rfl⟩
 ·exact⟨⟨o,e,d⟩,_,ha,rfl,n,rfl⟩
theorem GC.it{tu:Bool}{it ax:Addr}{items:Array Value}{i:Nat}(x:GC tu it ax items i h):∃o,h.get? it=some o∧Nv tu ax i o:=by
 cases tu
 ·exact x.1
 ·exact x.1
inductive tC(tu:Bool)(l:List AV)(e it:Addr)(i:Nat)(F:FM)(h:Heap):Prop
 | mk (old:Value) (x:IsEnum h e it (i:Int) old) (y:np tu l it i F h)
theorem tC.ex{tu:Bool}{e it:Addr}{i:Nat}{F:FM}(x:tC tu l e it i F h):∀a∈[e,it],∃o,h.get? a=some o:=
 x.rec fun O x y=>X_.mpr ⟨⟨_,x⟩,bV (y.rec fun O O O O e O O O=> ⟨_,e⟩)⟩
theorem Cz(tu:Bool)(l:List AV)(e it:Addr)(fY:e≠it):BM g (.ref e) [e,it] lS (fun O=>True) (aV l) (tC tu l e it) where
 mono:=fun i F F' h h' hl he x=>x.rec fun old x y=> ⟨old,(he e (.head _)).trans x,y.mono hl (he it (.tail _ (.head _)))⟩
 ex:=fun i F h x=>x.ex
 self:=fun i F s O x K E k=>x.rec fun O x O=>wpAny_pyIter_enum x k
 next:=fun L aF i x F st s N_ O r w S hx K E E' k=>by
  obtain⟨df,kk,pos,rfl⟩:=N_
  obtain⟨y,hy,rfl⟩:=As hx
  have ex:=S.ex
  obtain⟨old,e1,ax,items,n,o,e2,d,e3,e4⟩:=S
  obtain⟨v,hv,hr⟩:=e4.at hy
  have na:∀a∈[e,it],ax≠a:=fun a ha q=>qM (w.f a ha) (q▸e3)
  refine wpAny_pyNext_enum_itemD (yO tu (by exact g.hh) (na it (.tail _ (.head _))) items) e1 (N0 e2 d (r.hF _ _ e3)) (Array.getElem?_eq_some_iff.mp hv).1 fY
   (fun hm=> (J0.mp hm).elim fY fun hm=>na e (.head _) (X8.mp hm).symm) fun x h1 tk hx V2 i7 ht hz hk=> ⟨_,rfl,wpAny_letOwnedTupleGo_enum V2 fun h2 V3 GD=>?_⟩
  cases hv.symm.trans hx
  have V4:∀b o,b∉[e,it]→s.heap.get? b=some o→h2.get? b=some o:=fun b o hb q=>GD.extBut b o (ni hb (.head _)) (hk b o (ni hb (.head _)) (ni hb (.tail _ (.head _))) q)
  have G:=r.got w ex V4 (o:=gv #[.int i tk,v] 0) ((GD.2 _ (Zn (Heap.lt_size e1))).trans ht) (tk+1) tp
  obtain⟨o',ho,d'⟩:=i7.it
  exact k _ _ _ G.1 G.2.1 G.2.2 ⟨_,V3,ax,items,n,o',(GD.2 _ fY.symm).trans ho,d',G.1.f _ _ e3,e4.mono G.1⟩ (Q5 (FM.cR ..) (f6 (rj ..) (f6 (hr.mono G.1) iX)))
 stop:=fun L i F st s O r w S hx K E k=>by
  obtain⟨old,e1,ax,items,n,o,e2,d,e3,e4⟩:=S
  cases hx.trans ((em l).trans e4.size.symm)
  have fin:∀h':Heap,Heap.ExtBut it s.heap h'→K none {s with heap:=h' }:=fun h' hs=>have hk:=fun b o (hb:b∉[e,it]) q=>hs b o (ni hb (.tail _ (.head _))) q;k h' hk (r.keepsBut w hk s.toks id)
  exact wpAny_pyNext_enum_endD (yO tu (by exact g.hh) (fun q=>qM (w.f it (.tail _ (.head _))) (q▸e3)) items) e1 (N0 e2 d (r.hF _ _ e3)) fin
theorem rz{tu:Bool}{l:List AV}{e it:Addr}{vars mem}:dw g (.val (.ref e)) ⟨vars,(e,.obj (mK it))::(it,.fz tu l 0)::mem⟩ ⟨vars,mem⟩ lS (fun O=>True) (aV l):=fun F s v r hv K E k=>by
 cases(hv:_=_)
 have he:s.heap.get? e=some (mK it):=r.hm _ (.head _)
 exact wpAny_pyIter_enum (i:=0) (old:= .none) he (k F _ [e,it] (tC tu l e it) s (.refl _) (Cz tu l e it fun q=> (YG.mp r.nd).1 (q▸ .head _)) (r.sub (Z6 [(e,AO.obj (mK it)),(it,AO.fz tu l 0)] mem))
  (Rep.yN (m1:=[(e,.obj (mK it)),(it,.fz tu l 0)]) r) ⟨.none,he,r.hm (it,.fz tu l 0) (.tail _ (.head _))⟩)
end
end
section
section
variable {g:Gd}{env:Env}{st:AS}
theorem So{x i t}{GL names cs}(e:bI g env)(G:Gg g GL)(hv:(x,Value.int i t)∈GL)(h:Q (.int i) st):Ld g env names cs x .globalImplicit st Q:=fun N hn=>I6 (fun O=>rj ..) e G N hn hv h
end
end
section
section
variable {g:Gd}{env:Env}{st:AS}
theorem rA{n:Int}(h:Q (.bool true) st):Wl g VR (fun vs=>call (.builtin "isinstance") vs) [.int n,.val (.type "int")] st Q:=Gm fun F s v u r hv hu K E k=>by
 obtain⟨t,rfl⟩:=hv;cases(hu:_=_)
 exact PySem.IsiPair.int_int (k F _ _ st _ (FM.le.refl _) r (ot ..) h)
theorem rB(h:Q (.bool false) st):Wl g VR (fun vs=>call (.builtin "isinstance") vs) [.tup l,.val (.type "int")] st Q:=Gm fun F s v u r hv hu K E k=>by
 obtain⟨a,items,n,rfl,e,hi⟩:=hv
 cases(hu:_=_)
 exact PySem.IsiPair.tuple_int (r.hF _ _ e) rfl (k F _ _ st _ (FM.le.refl _) (r.tok _ tp) (ot ..) h)
noncomputable def tD(x:Str)(i:Int):Option Nat:=(seqIndex? i x.length).bind (x.cps[·]?)
theorem xd{x:Str}{i:Int}{c:Nat}(hsz:x.length≤sizeLine)(hc:tD x i=some c)(h:Q (.str ⟨#[c]⟩) st):W2 g VR getItem (.str x) (.int i) st Q:=fun F s v u r hv hu K E k=>by
 obtain⟨t,rfl⟩:=hv;obtain⟨t',rfl⟩:=hu
 refine PyProof.Rows.getItem_str ?_ hc (k F _ _ st _ (FM.le.refl _) (r.tok _ tp) (BH ..) h)
 cases hj:seqIndex? i x.length with
 | none=>rw[tD,hj] at hc;cases hc
 | some j=>
  have q:=wW hj hsz
  exact Bool.or_eq_false_iff.mpr ⟨Yk (YI.mpr q.1),Yk (abO.mpr q.2)⟩
end
end
section
section
variable {g:Gd}{env:Env}{st:AS}
theorem yP{id:String}(slot:Slot "str" name id)(Sc:typeOf (.builtin id)=pure (.type "method_descriptor")):gd g (.str x) name (.val (.builtin id)) [.str x] st:=fun F s v pl r hv K E k=>by
 obtain⟨t,rfl⟩:=hv
 exact aa2 (abm s x t) PySem.F.plainAttrs_str slot Sc (fun a e=>nomatch e) (k F _ _ s (FM.le.refl _) r (nH ..) (f6 (BH ..) iX))
theorem tE{x:Str}(hsz:x.length≤sizeLine)(h:Q ((x.length:Int) !=0) st):W1 g RQ truthy (.str x) st Q:=fun F s v r hv K E k=>by
 obtain⟨t,rfl⟩:=hv
 exact PySem.P.truthy_str (abO.mpr (Yd.mpr (Yv hsz (E1 rfl)))) (k F _ _ st _ (FM.le.refl _) (r.tok _ tp) rfl h)
theorem tF{x:Str}(hsz:x.length≤5592405)(h:Q (.str (PySem.Txt.lower x)) st):Wl g VR (fun vs=>call (.builtin "str.lower") vs) [.str x] st Q:=uV fun F s v r hv K E k=>by
 obtain⟨t,rfl⟩:=hv
 exact SCL.lower hsz fun O=>k F _ _ st _ (FM.le.refl _) (r.tok _ tp) (BH ..) h
theorem GE{x:Str}(hsz:x.length≤5592405)(h:Q (.str (PySem.Txt.upper x)) st):Wl g VR (fun vs=>call (.builtin "str.upper") vs) [.str x] st Q:=uV fun F s v r hv K E k=>by
 obtain⟨t,rfl⟩:=hv
 exact SCL.upper hsz fun O=>k F _ _ st _ (FM.le.refl _) (r.tok _ tp) (BH ..) h
theorem xe{x:Str}(hsz:x.length≤5592405)(h:Q (.str (PySem.Txt.swapcase x)) st):Wl g VR (fun vs=>call (.builtin "str.swapcase") vs) [.str x] st Q:=uV fun F s v r hv K E k=>by
 obtain⟨t,rfl⟩:=hv
 exact SCL.swapcase hsz fun O=>k F _ _ st _ (FM.le.refl _) (r.tok _ tp) (BH ..) h
end
end
section
theorem u_{M:Model}{E:Value→Shared→Prop}{s:Shared}{a:Addr}{Q:Option Obj→Shared→Prop}(ho:s.heap.get? a=some o)(h:Q (some o) s):wpAny M A (loadIfAlive a) Q E s:=fun Γ p O=>by
 show Sem.wp M Γ (.loadIfAlive a .pure) _ _ p s
 rw[Sem.wp_loadIfAlive,ho]
 simpa using h
abbrev tG(h:Heap)(z TI TO:Addr)(f0:Value)(b:Bool):Prop:=
 h.get? z=some {cls:= .type "zip",dict:=none,data:= .fields #[f0,.bool b,.bool false,.ref TI,.ref TO],slots:= #[] }
section
variable {prog:Program}{w:World}{A:Around}{E:Value→Shared→Prop}{s:Shared}
theorem mM{z TI TO T:Addr}{b:Bool}{Q:Bool→Shared→Prop}(hz:tG s.heap z TI TO (rawInt T) b)(hT:s.heap.get? T=some oT)(hQ:∀h',tG h' z TI TO (rawInt T) true→Heap.SameBut z s.heap h'→Q false {s with heap:=h' }):wpAny (model prog w) A (ownedTupleIsFree (.ref z)) Q E s:=by
 unfold ownedTupleIsFree
 refine E5 (ZT hz rfl (x:=rawInt T) rfl ?_)
 show wpAny _ _ (loadIfAlive (T:Int).toNat >>= _) _ _ _
 rw[Zg]
 refine E5 (u_ hT ?_)
 show wpAny _ _ (field (.ref z) 1 >>= _) _ _ _
 refine E5 (ZT hz rfl (x:= .bool b) rfl ?_)
 cases b with
 | true=>exact N7 (hQ s.heap hz (Heap.SameBut.refl ..))
 | false=>
  show wpAny _ _ (setField (.ref z) 1 (.bool true) >>= _) _ _ _
  refine E5 (wpAny_setField_rec hz (by simp) fun h' V5 hs=>?_)
  exact N7 (hQ h' V5 hs)
theorem qS{z TI TO i1 i2 l1 l2 T:Addr}{b:Bool}{k1 k2:Nat}{xs ys:Array Value}{Q:Value→Shared→Prop}(D:ZipApart z TI TO i1 i2 l1 l2)(hz:tG s.heap z TI TO (rawInt T) b)(hT:s.heap.get? T=some oT)(GF:IsPair s.heap TI (.ref i1) (.ref i2))(h1:s.heap.IsListIter i1 l1 k1)(h2:s.heap.IsListIter i2 l2 k2)(Jl:s.heap.IsList l1 xs)(wY:s.heap.IsList l2 ys)(hx:xs[k1]? =some x)(hy:ys[k2]? =some y)(hQ:∀h',tG h' z TI TO (rawInt T) true→h'.IsListIter i1 l1 (k1+1)→h'.IsListIter i2 l2 (k2+1)→h'.objs.size=s.heap.objs.size→
   (∀c o,c≠z→c≠i1→c≠i2→s.heap.get? c=some o→h'.get? c=some o)→Q (.ref s.heap.objs.size) {s with heap:=h'.push {cls:= .type "tuple",data:= .seq #[x,y] } }):
  wpAny (model prog w) A (Builtin.«zip.__next__» ⟨[.ref z],[]⟩) (fun fin s'=> ∃v,fin= .done (.ret v)∧Q v s') E s:=by
 show wpAny _ _ (field (.ref z) 2 >>= _) _ _ _
 refine E5 (ZT hz rfl (x:= .bool false) rfl ?_)
 show wpAny _ _ (field (.ref z) 3 >>= _) _ _ _
 refine E5 (ZT hz rfl (x:= .ref TI) rfl ?_)
 refine E5 (aaT GF rfl ?_)
 show wpAny _ _ (ownedTupleIsFree (.ref z) >>= _) _ _ _
 refine E5 (mM hz hT fun h₁ Jm di=>?_)
 simp only[YD,Y_]
 refine E5 ?_
 rw[← Array.forIn_toList]
 simp only[abo,List.forIn_nil]
 refine E5 (E5 (Yz ?_))
 show wpAny _ _ (nextOf (.ref i1) >>= _) _ _ _
 refine E5 (aa9 (h1.extBut di.extBut D.i1z) (Jl.extBut di.extBut D.l1z) hx fun h₂ Jn gP=>N7 (N7 ?_))
 dsimp only
 refine E5 (E5 (Yz ?_))
 show wpAny _ _ (nextOf (.ref i2) >>= _) _ _ _
 refine E5 (aa9 ((h2.extBut di.extBut D.i2z).extBut gP.extBut D.i12.symm) ((wY.extBut di.extBut D.l2z).extBut gP.extBut D.l2i1) hy fun h₃ Oa rC=>N7 (N7 ?_))
 dsimp only
 refine N7 ?_
 dsimp only
 refine E5 (wpAny_newTuple (hsz:=by show 2≤sizeLine;decide) ?_)
 have hsz:h₃.objs.size=s.heap.objs.size:=by rw[rC.1,gP.1,di.1]
 refine N7 ⟨_,rfl,?_⟩
 show Q (.ref h₃.objs.size) _
 rw[hsz]
 exact hQ h₃ (rC.extBut _ _ D.i2z.symm (gP.extBut _ _ D.i1z.symm Jm)) (Jn.extBut rC.extBut D.i12) Oa hsz fun c o c1 c3 c4 e=>rC.extBut _ _ c4 (gP.extBut _ _ c3 (di.extBut _ _ c1 e))
theorem tH{z TI TO i1 i2 l1 l2 T:Addr}{b:Bool}{k1 k2:Nat}{xs ys:Array Value}{Q:Fin→Shared→Prop}(hh:A.handled=none)(D:ZipApart z TI TO i1 i2 l1 l2)(hz:tG s.heap z TI TO (rawInt T) b)(hT:s.heap.get? T=some oT)(GF:IsPair s.heap TI (.ref i1) (.ref i2))(h1:s.heap.IsListIter i1 l1 k1)(h2:s.heap.IsListIter i2 l2 k2)(Jl:s.heap.IsList l1 xs)(wY:s.heap.IsList l2 ys)(kv:xs[k1]? =none∨ys[k2]? =none)(hE:∀h' e,(∀c o,c≠z→c≠i1→c≠i2→s.heap.get? c=some o→h'.get? c=some o)→(∃o,h'.get? e=some o∧o.cls= .type "StopIteration")→E (.ref e) {s with heap:=h' }):
  wpAny (model prog w) A (Builtin.«zip.__next__» ⟨[.ref z],[]⟩) Q E s:=by
 show wpAny _ _ (field (.ref z) 2 >>= _) _ _ _
 refine E5 (ZT hz rfl (x:= .bool false) rfl ?_)
 show wpAny _ _ (field (.ref z) 3 >>= _) _ _ _
 refine E5 (ZT hz rfl (x:= .ref TI) rfl ?_)
 refine E5 (aaT GF rfl ?_)
 show wpAny _ _ (ownedTupleIsFree (.ref z) >>= _) _ _ _
 refine E5 (mM hz hT fun h₁ Jm di=>?_)
 simp only[YD,Y_]
 refine E5 ?_
 rw[← Array.forIn_toList]
 simp only[abo,List.forIn_nil]
 refine E5 (E5 (Yz ?_))
 show wpAny _ _ (nextOf (.ref i1) >>= _) _ _ _
 cases hx:xs[k1]? with
 | none=>
  refine E5 (wpAny_nextOf_list_end hh (h1.extBut di.extBut D.i1z) (Jl.extBut di.extBut D.l1z) hx fun h₂ e gP he=>?_)
  exact hE h₂ e (fun c o c1 c3 O x=>gP _ _ c3 (di.extBut _ _ c1 x)) he
 | some x=>
  have hy:ys[k2]? =none:=by rcases kv with h | h;rw[hx] at h;cases h;exact h
  refine E5 (aa9 (h1.extBut di.extBut D.i1z) (Jl.extBut di.extBut D.l1z) hx fun h₂ Jn gP=>N7 (N7 ?_))
  dsimp only
  refine E5 (E5 (Yz ?_))
  show wpAny _ _ (nextOf (.ref i2) >>= _) _ _ _
  refine E5 (wpAny_nextOf_list_end hh ((h2.extBut di.extBut D.i2z).extBut gP.extBut D.i12.symm) ((wY.extBut di.extBut D.l2z).extBut gP.extBut D.l2i1) hy fun h₃ e rC he=>?_)
  exact hE h₃ e (fun c o c1 c3 c4 x=>rC _ _ c4 (gP.extBut _ _ c3 (di.extBut _ _ c1 x))) he
theorem iR{z TI TO i1 i2 l1 l2 T:Addr}{b:Bool}{k1 k2:Nat}{xs ys:Array Value}{Q:Option Value→Shared→Prop}(D:ZipApart z TI TO i1 i2 l1 l2)(hz:tG s.heap z TI TO (rawInt T) b)(hT:s.heap.get? T=some oT)(GF:IsPair s.heap TI (.ref i1) (.ref i2))(h1:s.heap.IsListIter i1 l1 k1)(h2:s.heap.IsListIter i2 l2 k2)(Jl:s.heap.IsList l1 xs)(wY:s.heap.IsList l2 ys)(hx:xs[k1]? =some x)(hy:ys[k2]? =some y)(hQ:∀h',tG h' z TI TO (rawInt T) true→h'.IsListIter i1 l1 (k1+1)→h'.IsListIter i2 l2 (k2+1)→h'.objs.size=s.heap.objs.size→
   (∀c o,c≠z→c≠i1→c≠i2→s.heap.get? c=some o→h'.get? c=some o)→Q (some (.ref s.heap.objs.size)) {s with heap:=h'.push {cls:= .type "tuple",data:= .seq #[x,y] } }):
  wpAny (model prog w) A (pyNext (.ref z)) Q E s:=by
 have Oc:s.TypeIs (.ref z) "zip":=⟨_,hz,rfl⟩
 unfold pyNext
 exact E5 (wpAny_attempt (aah (name:=Str.ofString "__next__") Oc abp
  (ZP abp Oc F.entry_zip_next
   (qS D hz hT GF h1 h2 Jl wY hx hy fun h' a1 a2 a3 a4 a5=>N7 (hQ h' a1 a2 a3 a4 a5)) (F.args_zip_next_1 _))))
theorem f8{z TI TO i1 i2 l1 l2 T:Addr}{b:Bool}{k1 k2:Nat}{xs ys:Array Value}{Q:Option Value→Shared→Prop}(hh:A.handled=none)(D:ZipApart z TI TO i1 i2 l1 l2)(hz:tG s.heap z TI TO (rawInt T) b)(hT:s.heap.get? T=some oT)(GF:IsPair s.heap TI (.ref i1) (.ref i2))(h1:s.heap.IsListIter i1 l1 k1)(h2:s.heap.IsListIter i2 l2 k2)(Jl:s.heap.IsList l1 xs)(wY:s.heap.IsList l2 ys)(kv:xs[k1]? =none∨ys[k2]? =none)(hQ:∀h',(∀c o,c≠z→c≠i1→c≠i2→s.heap.get? c=some o→h'.get? c=some o)→Q none {s with heap:=h' }):wpAny (model prog w) A (pyNext (.ref z)) Q E s:=by
 have Oc:s.TypeIs (.ref z) "zip":=⟨_,hz,rfl⟩
 unfold pyNext
 refine E5 (wpAny_attempt (aah (name:=Str.ofString "__next__") Oc abp
  (ZP abp Oc F.entry_zip_next (tH hh D hz hT GF h1 h2 Jl wY kv fun h' e hk he=>?_) (F.args_zip_next_1 _))))
 obtain⟨o,ho,hc⟩:=he
 refine E5 (wpAny_isInstance (T:= "StopIteration") (b:=true) ⟨o,ho,hc⟩ isSubtype_stop ?_)
 exact N7 (hQ _ hk)
end
section
variable {g:Gd}{env:Env}{st:AS}
noncomputable abbrev K4(TI TO:Addr):Obj:= {cls:= .type "zip",dict:=none,data:= .fields #[.none,.bool false,.bool false,.ref TI,.ref TO],slots:= #[] }
noncomputable abbrev yQ(a b:Value):Obj:= {cls:= .type "tuple",data:= .seq #[a,b] }
noncomputable def gQ(l m:List AV):List AV:=(l.zip m).map fun p=> .tup [p.1,p.2]
noncomputable abbrev oX(z TI TO i1 i2:Addr)(l m:List AV):Mem:=[(z,.obj (K4 TI TO)),(TO,.obj (yQ .none .none)),(TI,.obj (yQ (.ref i1) (.ref i2))),(i2,.fz false m 0),(i1,.fz false l 0)]
theorem Od{vars mem}(h:∀z TI TO i1 i2,Q (.val (.ref z)) ⟨vars,oX z TI TO i1 i2 l m++mem⟩):Wl g VR (fun vs=>call (.type "zip") vs) [.lst l,.lst m] ⟨vars,mem⟩ Q:=Gm fun F s v u r hv hu K E k=>by
 obtain⟨a,items,n,rfl,ha,hi⟩:=hv
 obtain⟨b,cT,n2,rfl,hb,wK⟩:=hu
 exact call_zip_2 ⟨_,r.hF _ _ ha,rfl,n,rfl⟩ ⟨_,r.hF _ _ hb,rfl,n2,rfl⟩ fun h' hz GF Sq ⟨o1,e1,d1⟩ ⟨o2,e2,d2⟩ hsz hk=>
  have x:RB g F vars mem {s with heap:=h' } _:=⟨r.keeps hk s.toks id,r.Sn⟩
  k F _ _ _ _ (.refl _) (((((x.add (ao:= .fz false l 0) ⟨a,items,n,o1,e1,d1,ha,hi⟩).add (ao:= .fz false m 0) ⟨b,cT,n2,o2,e2,d2,hb,wK⟩).add (ao:= .obj (yQ (.ref s.heap.objs.size) (.ref (s.heap.objs.size+1)))) GF).add (ao:= .obj (yQ .none .none)) Sq).add (ao:= .obj (K4 (s.heap.objs.size+2) (s.heap.objs.size+3))) hz).1 (nH ..) (h _ _ _ _ _)
theorem CA{i:Nat}(h:(gQ l m)[i]? =some x):∃y z,l[i]? =some y∧m[i]? =some z∧.tup [y,z]=x:=by
 rw[gQ,Yi] at h
 cases hz:(l.zip m)[i]? with
 | none=>rw[hz] at h;cases h
 | some p=>
  rw[hz] at h
  have q:=List.getElem?_zip_eq_some.mp hz
  exact⟨p.1,p.2,q.1,q.2,YB h⟩
theorem CB{i:Nat}(h:i=(gQ l m).length):i=l.length∨i=m.length:=by
 cases h.trans ((E7 _).trans List.length_zip)
 exact(abQ l.length m.length).imp ZG aax
def tI(t:Expr):Prop:= ∃x pos,t= .Name x pos
inductive Un(kept:Bool)(z TI TO:Addr)(F:FM)(h:Heap):Prop
 | fresh (e:IsZip h z TI TO .none)
 | kept (hk:kept=true) (T:Addr) (b:Bool) (oT:Obj) (e:tG h z TI TO (rawInt T) b) (hT:F.f T=some oT)
inductive yR(kept:Bool)(l m:List AV)(z TI TO i1 i2:Addr)(i:Nat)(F:FM)(h:Heap):Prop
 | mk (a b:Value) (e1:Un kept z TI TO F h) (e2:IsPair h TI (.ref i1) (.ref i2)) (e3:IsPair h TO a b) (x:np false l i1 i F h) (y:np false m i2 i F h)
theorem GG{P:Addr→Prop}{a b c d e:Addr}(h1:P a)(h2:P b)(h3:P c)(h4:P d)(h5:P e):∀x∈[a,b,c,d,e],P x:=
 X_.mpr ⟨h1,X_.mpr ⟨h2,X_.mpr ⟨h3,X_.mpr ⟨h4,bV h5⟩⟩⟩⟩
section
variable {a b c d e:Addr}
theorem m0:a∈[a,b,c,d,e]:= .head _
theorem m1:b∈[a,b,c,d,e]:= .tail _ (.head _)
theorem m2:c∈[a,b,c,d,e]:= .tail _ (.tail _ (.head _))
theorem m3:d∈[a,b,c,d,e]:= .tail _ (.tail _ (.tail _ (.head _)))
theorem m4:e∈[a,b,c,d,e]:= .tail _ (.tail _ (.tail _ (.tail _ (.head _))))
theorem u'{x y:Addr}(nd: [a,b,c,d,e].Nodup)(hx:x∉[a,b,c,d,e])(hy:y∉[a,b,c,d,e]):ZipApart a c b e d x y:=
 have n1:=YG.mp nd
 have n2:=YG.mp n1.2
 have n3:=YG.mp n2.2
 have n4:=YG.mp n3.2
 ⟨(ni n1.1 (.tail _ (.head _))).symm,(ni n1.1 (.head _)).symm,(ni n1.1 (.tail _ (.tail _ (.tail _ (.head _))))).symm,(ni n1.1 (.tail _ (.tail _ (.head _)))).symm,(ni n2.1 (.head _)).symm,ni n3.1 (.tail _ (.head _)),ni n3.1 (.head _),ni n2.1 (.tail _ (.tail _ (.head _))),ni n2.1 (.tail _ (.head _)),(ni n4.1 (.head _)).symm,
  ni hx m0,ni hx m1,ni hx m4,ni hx m3,ni hy m0,ni hy m1,ni hy m4,ni hy m3⟩
end
variable {kept:Bool}{l m:List AV}{z TI TO i1 i2:Addr}
theorem yR.ex{i:Nat}{F:FM}(x:yR kept l m z TI TO i1 i2 i F h):∀a∈[z,TO,TI,i2,i1],∃o,h.get? a=some o:=
 x.rec fun a b e1 e2 e3 x y=>GG (e1.rec (fun e=> ⟨_,e⟩) fun O O O O e O=> ⟨_,e⟩) ⟨_,e3⟩ ⟨_,e2⟩ (y.rec fun O O O O e O O O=> ⟨_,e⟩) (x.rec fun O O O O e O O O=> ⟨_,e⟩)
theorem GH(nd: [z,TO,TI,i2,i1].Nodup):BM g (.ref z) [z,TO,TI,i2,i1] (cond kept tI lS) (fun O=>True) (gQ l m) (yR kept l m z TI TO i1 i2) where
 mono:=fun i F F' h h' hl he x=>x.rec fun a b e1 e2 e3 x y=> ⟨a,b,e1.rec (fun e=> .fresh ((he z m0).trans e)) fun hk T b o e hT=> .kept hk T b o ((he z m0).trans e) (hl _ _ hT),(he TI m2).trans e2,(he TO m1).trans e3,x.mono hl (he i1 m4),y.mono hl (he i2 m3)⟩
 ex:=fun i F h x=>x.ex
 self:=fun i F s O x K E k=>x.rec fun a b e1 O O O O=>e1.rec (fun e=>wpAny_pyIter_zip e k) fun O T b oT h1 O=>by
  have hT:s.TypeIs (.ref z) "zip":=⟨_,h1,rfl⟩
  exact wpAny_pyIter_slot hT PySem.F.slot_zip_iter (ZP PySem.F.slot_zip_iter hT PySem.F.entry_zip_iter (N7 ⟨_,rfl,"zip",_,hT,PySem.F.slot_zip_next.lookup,k⟩) (PySem.F.args_zip_iter_1 _))
 next:=fun L aF i x F st s N_ O r w S hx K E E' k=>by
  obtain⟨y1,y2,g1,g2,rfl⟩:=CA hx
  have ex:=S.ex
  obtain⟨a,b,e1,e2,e3,⟨ax,items,n,o1,e4,d1,e5,e6⟩,⟨bx,cT,n2,o2,e7,d2,e8,e9⟩⟩:=S
  obtain⟨v1,Rb,K5⟩:=e6.at g1
  obtain⟨v2,Uo,Rc⟩:=e9.at g2
  have na:∀ {c o},F.f c=some o→c∉[z,TO,TI,i2,i1]:=fun e hm=>qM (w.f _ hm) e
  have D:=u' nd (na e5) (na e8)
  have fin:∀(h2:Heap) a b,(∀F',F'.f s.heap.objs.size=some (gv #[v1,v2] 0)→FM.le F F'→Un kept z TI TO F' h2)→IsPair h2 TO a b→h2.IsListIter i1 ax (i+1)→h2.IsListIter i2 bx (i+1)→IsPair h2 s.heap.objs.size v1 v2→
    (∀c o,c≠z→c≠TO→c≠i1→c≠i2→s.heap.get? c=some o→h2.get? c=some o)→K (.ref s.heap.objs.size) {s with heap:=h2 }:=fun h2 a b hz Sq ⟨o3,Sr,d3⟩ ⟨o4,V6,d4⟩ hT hk=>
   have G:=r.got w ex (fun c o hc e=>hk c o (ni hc m0) (ni hc m1) (ni hc m4) (ni hc m3) e) (o:=gv #[v1,v2] 0) hT s.toks id
   k _ _ _ G.1 G.2.1 G.2.2 ⟨a,b,hz _ (FM.cR ..) G.1,hk _ _ D.TIz D.TITO D.TIi1 D.TIi2 e2,Sq,⟨ax,items,n,o3,Sr,d3,G.1.f _ _ e5,e6.mono G.1⟩,⟨bx,cT,n2,o4,V6,d4,G.1.f _ _ e8,e9.mono G.1⟩⟩ (Q5 (FM.cR ..) (f6 (K5.mono G.1) (f6 (Rc.mono G.1) iX)))
  cases e1 with
  | fresh ez=>
   refine wpAny_pyNext_zip_item D ez e2 e3 ⟨o1,e4,d1⟩ ⟨o2,e7,d2⟩ ⟨_,r.hF _ _ e5,rfl,n,rfl⟩ ⟨_,r.hF _ _ e8,rfl,n2,rfl⟩ Rb Uo fun h1 Rd Oe yS wK Up hsz hk=> ⟨_,rfl,?_⟩
   cases kept with
   | true=>
    obtain⟨xn,pos,rfl⟩:=N_
    exact N7 (fin h1 _ _ (fun F' hf O=> .kept rfl _ false _ Rd hf) Oe yS wK Up hk)
   | false=>
    obtain⟨df,kk,pos,rfl⟩:=N_
    have V7:s.heap.objs.size≠z:=Zn (Heap.lt_size ez)
    exact wpAny_letOwnedTupleGo_zip Rd fun h2 V8 GD=>fin h2 _ _ (fun F' O O=> .fresh V8) (GD.extBut _ _ D.TOz Oe) (Heap.IsListIter.at' yS (GD.2 _ D.i1z)) (Heap.IsListIter.at' wK (GD.2 _ D.i2z)) ((GD.2 _ V7).trans Up) fun c o c1 c2 c3 c4 e=>GD.extBut c o c1 (hk c o c1 c2 c3 c4 e)
  | kept K6 T bb oT hz hT=>
   cases K6
   obtain⟨xn,pos,rfl⟩:=N_
   refine iR D hz (r.hF _ _ hT) e2 ⟨o1,e4,d1⟩ ⟨o2,e7,d2⟩ ⟨_,r.hF _ _ e5,rfl,n,rfl⟩ ⟨_,r.hF _ _ e8,rfl,n2,rfl⟩ Rb Uo fun h1 Rd yS wK hsz hk=> ⟨_,rfl,N7 ?_⟩
   have GI:∀c o,h1.get? c=some o→(h1.push (gv #[v1,v2] 0)).get? c=some o:=fun c o e=>Heap.get?_push_of_some _ e
   exact fin _ a b (fun F' O l=> .kept rfl T true oT (GI _ _ Rd) (l.f _ _ hT)) (GI _ _ (hk _ _ D.TOz D.TOi1 D.TOi2 e3)) (yS.imp fun O e=> ⟨GI _ _ e.1,e.2⟩) (wK.imp fun O e=> ⟨GI _ _ e.1,e.2⟩) (hsz▸Heap.get?_push_size _ rfl) fun c o c1 O c3 c4 e=>GI _ _ (hk c o c1 c3 c4 e)
 stop:=fun L i F st s O r w S hx K E k=>by
  obtain⟨a,b,e1,e2,e3,⟨ax,items,n,o1,e4,d1,e5,e6⟩,⟨bx,cT,n2,o2,e7,d2,e8,e9⟩⟩:=S
  have na:∀ {c o},F.f c=some o→c∉[z,TO,TI,i2,i1]:=fun e hm=>qM (w.f _ hm) e
  have D:=u' nd (na e5) (na e8)
  have hn:items[i]? =none∨cT[i]? =none:=(CB hx).imp (nL e6) (nL e9)
  have fin:∀h':Heap,(∀c o,c≠z→c≠TO→c≠i1→c≠i2→s.heap.get? c=some o→h'.get? c=some o)→K none {s with heap:=h' }:=fun h' hs=>
   have hk:=fun c o (hc:c∉[z,TO,TI,i2,i1]) e=>hs c o (ni hc m0) (ni hc m1) (ni hc m4) (ni hc m3) e;k h' hk (r.keepsBut w hk s.toks id)
  cases e1 with
  | fresh ez=>exact wpAny_pyNext_zip_end g.hh D ez e2 e3 ⟨o1,e4,d1⟩ ⟨o2,e7,d2⟩ ⟨_,r.hF _ _ e5,rfl,n,rfl⟩ ⟨_,r.hF _ _ e8,rfl,n2,rfl⟩ hn fin
  | kept K6 T bb oT hz hT=>exact f8 g.hh D hz (r.hF _ _ hT) e2 ⟨o1,e4,d1⟩ ⟨o2,e7,d2⟩ ⟨_,r.hF _ _ e5,rfl,n,rfl⟩ ⟨_,r.hF _ _ e8,rfl,n2,rfl⟩ hn fun h' hs=>fin h' fun c o a1 O a3 a4=>hs c o a1 a3 a4
theorem CC(kept:Bool){vars mem}:dw g (.val (.ref z)) ⟨vars,oX z TI TO i1 i2 l m++mem⟩ ⟨vars,mem⟩ (cond kept tI lS) (fun O=>True) (gQ l m):=fun F s v r hv K E k=>by
 cases(hv:_=_)
 have at':∀p∈oX z TI TO i1 i2 l m,oy F s.heap p.1 p.2:=fun p hp=>r.hm p (Yn _ hp)
 have hz:s.heap.get? z=some (K4 TI TO):=at' _ (.head _)
 exact wpAny_pyIter_zip hz (k F _ [z,TO,TI,i2,i1] (yR kept l m z TI TO i1 i2) s (.refl _) (GH (((List.sublist_append_left (oX z TI TO i1 i2 l m) mem).map fst).nodup r.nd)) (r.sub (Z6 _ mem)) (Rep.yN (m1:=oX z TI TO i1 i2 l m) r)
  ⟨_,_,.fresh hz,at' _ (.tail _ (.tail _ (.head _))),at' _ (.tail _ (.head _)),at' _ (.tail _ (.tail _ (.tail _ (.tail _ (.head _))))),at' _ (.tail _ (.tail _ (.tail _ (.head _))))⟩)
end
end
section
mutual
noncomputable def qT:PyData→AV
 | .none=> .none
 | .bool b=> .bool b
 | .int i=> .int i
 | .str s=> .str s
 | .list xs=> .lst (kU xs)
 | .tuple xs=> .tup (kU xs)
 | .dict _=> .none
noncomputable def kU:List PyData→List AV
 | []=>[]
 | x::xs=>qT x::kU xs
end
mutual
noncomputable def noDict:PyData→Bool
 | .list xs=>noDicts xs
 | .tuple xs=>noDicts xs
 | .dict _=>false
 | .none=>true
 | .bool _=>true
 | .int _=>true
 | .str _=>true
noncomputable def noDicts:List PyData→Bool
 | []=>true
 | x::xs=>noDict x&&noDicts xs
end
mutual
theorem cU{F:FM}{h:Heap}(hF:∀a o,F.f a=some o→h.get? a=some o):∀(d:PyData) (v:Value),noDict d=true→VR F (qT d) v→∃as,Reads h v d as
 | .none,_,_,e=>by cases(e:_=_);exact⟨_,.none⟩
 | .bool b,_,_,e=>by cases(e:_=_);exact⟨_,.bool b⟩
 | .int i,_,_,e=>ZS e fun t e=>e▸⟨_,.int i t⟩
 | .str i,_,_,e=>ZS e fun t e=>e▸⟨_,.str i t⟩
 | .list xs,_,hn,e=>yE.rec (motive:=fun O=> ∃as,Reads h _ (.list xs) as) (fun a items n e e1 e2=>e▸(eP hF xs items.toList hn e2).elim fun as ha=> ⟨_,.list (hF _ _ e1) rfl rfl ha⟩) e
 | .tuple xs,_,hn,e=>yE.rec (motive:=fun O=> ∃as,Reads h _ (.tuple xs) as) (fun a items n e e1 e2=>e▸(eP hF xs items.toList hn e2).elim fun as ha=> ⟨_,.tuple (hF _ _ e1) rfl rfl ha⟩) e
theorem eP{F:FM}{h:Heap}(hF:∀a o,F.f a=some o→h.get? a=some o):∀(ds:List PyData) (vs:List Value),noDicts ds=true→be F (kU ds) vs→∃as,ReadsAll h vs ds as
 | [],_,_,e=>by cases(e:_=_);exact⟨_,.nil⟩
 | d::ds,_,hn,e=>iW.rec (motive:=fun O=> ∃as,ReadsAll h _ (d::ds) as) (fun v r e e1 e2=>e▸(cU hF d v (E3.mp hn).1 e1).elim fun as ha=> (eP hF ds r (E3.mp hn).2 e2).elim fun bs hb=> ⟨_,.cons ha hb⟩) e
end
section
variable {g:Gd}{env:Env}{st:AS}
theorem oY(g:Gd)(h8:8≤g.n){n:Nat}(hn:n≤64):g.A.units+n<cLine:=Yv (Yo (E2 hn (Zv 8 h8)) _) g.hu
theorem Of{d e:PyData}(hd:noDict d=true)(he:noDict e=true)(sd:shaped d=true)(se:shaped e=true)(h8:8≤g.n)(h:Q (.bool (eqv d e)) st):W2 g VR (compareOp .Eq) (qT d) (qT e) st Q:=fun F s v u r hv hu K E k=>by
 obtain⟨as,ha⟩:=cU r.hF d v hd hv
 obtain⟨bs,hb⟩:=cU r.hF e u he hu
 exact PyProof.Rows.eq_dataH ha hb sd se (oY g h8 (N1 64)) (k F _ _ st s (FM.le.refl _) r (ot ..) h)
theorem Og{d e:PyData}(hd:noDict d=true)(he:noDict e=true)(sd:shaped d=true)(se:shaped e=true)(h8:8≤g.n)(h:Q (.bool (!eqv d e)) st):W2 g VR (compareOp .NotEq) (qT d) (qT e) st Q:=fun F s v u r hv hu K E k=>by
 obtain⟨as,ha⟩:=cU r.hF d v hd hv
 obtain⟨bs,hb⟩:=cU r.hF e u he hu
 exact PyProof.Rows.ne_dataH ha hb sd se (oY g h8 (N1 64)) (k F _ _ st s (FM.le.refl _) r (ot ..) h)
end
end
section
section
variable {g:Gd}{env:Env}{st:AS}
theorem Oh{d:PyData}{xs:List PyData}(hd:noDict d=true)(he:noDicts xs=true)(sd:d.canLay0=true)(se:canLayAll0 xs=true)(K7:d.depth≤60)(h8:8≤g.n)(h:Q (.bool (xs.any fun y=>eqv y d)) st):
  W2 g VR (compareOp .In) (qT d) (qT (.list xs)) st Q:=fun F s v u r hv hu K E k=>by
 obtain⟨as,ha⟩:=cU r.hF d v hd hv
 obtain⟨bs,hb⟩:=cU r.hF (.list xs) u he hu
 exact PySem.SeqAt.in_list_reads hb ha se sd (YW ..▸oY g h8 (Yo (E2 (abg ..) (E2 K7 (by decide:60≤63))) 1)) (k F _ _ st s (FM.le.refl _) r (ot ..) h)
theorem K8{d:PyData}{xs:List PyData}(hd:noDict d=true)(he:noDicts xs=true)(sd:d.canLay0=true)(se:canLayAll0 xs=true)(K7:d.depth≤60)(h8:8≤g.n)(h:Q (.bool (!xs.any fun y=>eqv y d)) st):
  W2 g VR (compareOp .NotIn) (qT d) (qT (.list xs)) st Q:=fun F s v u r hv hu K E k=>by
 obtain⟨as,ha⟩:=cU r.hF d v hd hv
 obtain⟨bs,hb⟩:=cU r.hF (.list xs) u he hu
 exact aby hb ha se sd (YW ..▸oY g h8 (Yo (E2 (abg ..) (E2 K7 (by decide:60≤63))) 1)) (k F _ _ st s (FM.le.refl _) r (ot ..) h)
end
end
section
section
variable {g:Gd}{env:Env}{st:AS}
theorem Rep.vb{F:FM}(r:Rep g F st s){h':Heap}(hk:∀b o,s.heap.get? b=some o→h'.get? b=some o){a:Addr}(ha:s.heap.objs.size≤a)(e:h'.get? a=some o)(t:Nat)(KU:0<s.toks→0<t):
  Rep g (F.put a o) st {s with heap:=h',toks:=t }∧FM.le F (F.put a o)∧(F.put a o).f a=some o:=
 have h1:=aO r.hF ha
 ⟨(r.keeps hk t KU).yF e h1 (aO r.hP ha) (Zn (J3 r.KC ha)) (fun p hp=>Yp (J3 (r.j3 hp) ha)) (fun p hp=>Yp (J3 (r.j4 hp) ha)),FM.eW h1,FM.cR ..⟩
theorem intsAre_of{F:FM}:∀ {ns:List Int} {vs:List Value},be F (ns.map .int) vs→IntsAre vs ns
 | [],_,e=>by cases(e:_=_);exact .nil
 | n::ns,_,e=>iW.rec (motive:=fun O=>IntsAre _ (n::ns)) (fun v r e e1 e2=>ZS e1 fun t h=>e▸h▸ .cons n t (intsAre_of e2)) e
theorem vc{F:FM}{vs:List Value}{ns:List Int}(h:IntsAre vs ns):be F (ns.map .int) vs:=by
 induction h with
 | nil=>exact iX
 | cons n t h ih=>exact f6 (rj ..) ih
theorem K9{F:FM}(r:RepM g F mem s){ns:List Int}(hv:VR F (.lst (ns.map .int)) v):∃a vs,v= .ref a∧s.heap.IsList a vs.toArray∧IntsAre vs ns:=
 yE.rec (fun a items n e h i=> ⟨a,items.toList,e,⟨_,r.hF _ _ h,rfl,n,rfl⟩,intsAre_of i⟩) hv
theorem Oi{ns:List Int}(h:Q (.int ns.sum) st):Wl g VR (fun vs=>call (.builtin "sum") vs) [.lst (ns.map .int)] st Q:=uV fun F s v r hv K E k=>by
 obtain⟨a,vs,rfl,hl,hi⟩:=K9 r.toRepM hv
 obtain⟨xs,hx⟩:=hi.allInts.items
 have Ss:s.heap.IsList a (intItems xs):=hx▸hl
 refine cQ (sum_intListG g.hh Ss fun h' tk t' hk jW=>?_)
 have e1:ns=xs.toList.map (·.1):=by
  rw[← nums_intItems,← hx]
  exact(show numsOf vs.toArray.toList=ns from hi.numsOf).symm
 have e2:preSum (numAt xs) xs.size=ns.sum:=by
  rw[preSum_eq,YN (X7 ((E7 _).trans aaA)),e1]
 rw[e2]
 exact k F _ _ st _ (FM.le.refl _) (r.keeps hk tk fun O=>J3 r.tk jW) (rj ..) h
theorem Oj{ns:List Int}(fY:0<ns.length)(h:∀M,M∈ns→(∀a,a∈ns→a≤M)→Q (.int M) st):Wl g VR (fun vs=>call (.builtin "max") vs) [.lst (ns.map .int)] st Q:=uV fun F s v r hv K E k=>by
 obtain⟨a,vs,rfl,hl,hi⟩:=K9 r.toRepM hv
 obtain⟨xs,e⟩:=hi.allInts.items
 have FW:ns=xs.toList.map (·.1):=by rw[← hi.numsOf,← nums_intItems,← e]
 have hsz:0<xs.size:=by have h3:=fY;rw[FW,E7,aaA] at h3;exact h3
 rw[e] at hl
 refine cQ (max_intList g.hh hl hsz fun v h' tk hv hk jW=>?_)
 obtain⟨t,rfl⟩:=intItems_at hv
 obtain⟨h1,h2⟩:=argBest_gt (numAt xs) (xs.size - 1)
 refine k F _ _ st _ (FM.le.refl _) (r.keeps hk tk fun O=>J3 r.tk jW) (rj ..) (h _ ?_ fun a ha=>?_)
 ·rw[FW,numAt_eq];exact getD_mem (by rw[E7,aaA];exact Nat.lt_of_le_pred hsz h1)
 ·rw[FW] at ha
  obtain⟨j,hj,rfl⟩:=mem_getD ha
  rw[E7,aaA] at hj
  rw[← numAt_eq];exact h2 j (Nat.le_pred_of_lt hj)
theorem CD{ns:List Int}(hsz:ns.length<64)(h:∀GJ:List Int,GJ.Perm ns→GJ.Pairwise (·≤·)→Q (.lst (GJ.map .int)) st):Wl g VR (fun vs=>call (.builtin "sorted") vs) [.lst (ns.map .int)] st Q:=uV fun F s v r hv K E k=>by
 obtain⟨a,vs,rfl,hl,hi⟩:=K9 r.toRepM hv
 refine sorted_ints hl hi (by rw[hi.length];exact hsz) fun Uq GJ h1 h2 h3=>?_
 obtain⟨e,he⟩:=sortedAll_at s.heap vs Uq
 obtain⟨r2,l2,e2⟩:=r.vb (h':=sortedAll s.heap vs Uq) (fun b o hb=>sortedAll_old hb) (ZD _) he s.toks id
 exact k _ _ _ st _ l2 r2 (Ky e2 (vc h1)) (h GJ h2 h3)
theorem K_{a b:Int}(h:Q (.int (if b > a then b else a)) st):Wl g VR (fun vs=>call (.builtin "max") vs) [.int a,.int b] st Q:=Gm fun F s v u r hv hu K E k=>by
 obtain⟨t,rfl⟩:=hv;obtain⟨t',rfl⟩:=hu
 refine cQ (max_two_ints g.hh fun h' tk hk jW=>k F _ _ st _ (FM.le.refl _) (r.keeps hk tk fun O=>J3 r.tk jW) ?_ h)
 by_cases c:b > a
 ·rw[X6 c,X6 c];exact rj ..
 ·rw[X5 c,X5 c];exact rj ..
theorem yT{a:Addr}{f:Obj→Obj}:Heap.SameBut a h (h.update a f):=⟨Array.size_modify,fun b hb=>Heap.get?_update_ne _ _ _ _ hb⟩
theorem GK{a:Addr}{vars}(u:Upd mem a (.list l) (.list (l++m)) mem')(hsz:l.length+m.length≤1000000)(h:Q (.val (.ref a)) ⟨vars,mem'⟩):
  W2 g VR (inplaceOp .Add) (.val (.ref a)) (.lst m) ⟨vars,mem⟩ Q:=fun F s v w r hv hw K E k=>by
 cases(hv:_=_)
 obtain⟨b,cT,n2,rfl,e2,wK⟩:=hw
 obtain⟨items,n,e,hi⟩:=r.hm _ u.mem
 have hz:items.size+cT.size≤1000000:=by rw[hi.size,wK.size];exact hsz
 have hs:items.size+cT.size≤sizeLine:=E2 hz (E1 rfl)
 have ta:s.TypeIs (.ref a) "list":=⟨_,e,rfl⟩
 unfold inplaceOp
 refine Yz ?_
 have V9:fillsInplaceSlot (.type "list") "add" (Operator.Add== .Add)=pure false:=by
  show(typeLookup (.type "list") (dunderI "add") >>= fun fi=>pure (fi.isSome&&!isSeqSlot fi))=pure false
  rw[aba.lookup];rfl
 refine E5 (wpAny_typeOf ta (E5 (ab6 V9 ?_)))
 refine E5 (wpAny_binaryOp1_none (nm:= "add") ta ⟨_,r.hF _ _ e2,rfl⟩ noFill_list_add ?_)
 refine E5 (ab6 (PySem.seqSlot_of aba.lookup (by rfl)) ?_)
 refine E5 (aaS ?_)
 exact abq aba ta PySem.F.entry_list_iadd (PySem.F.args_list_iadd_2 _ _) (AutoSeq1.list___iadd___list_list_0 a items n b cT n2 (fun h=>ZE.mpr hs (Yr (E3.mp h).2)) (E2 (Yl ..) hs) (Y6 hs))
  ⟨e,r.hF _ _ e2,k F (.val (.ref a)) _ _ _ (FM.le.refl _) (r.turn u (h':=s.heap.update a (Obj.mapSeq fun x=>x++cT)) yT ⟨_,_,get?_update_seq e (fun x=>x++cT),ZN (xs:=items) (ys:=cT)▸hi.append wK⟩ s.toks id) (nH ..) h⟩
end
end
section
section
variable {g:Gd}{env:Env}{st:AS}
theorem CE(items:Array Value){i:Int}(h0:0≤i)(h1:i.toNat≤items.size)(v:Value):
  (have k:=if i<0 then(i+((items.size:Nat):Int)).toNat else min i.toNat items.size;(items.extract 0 k).push v++items.extract k).toList=items.toList.take i.toNat++v::items.toList.drop i.toNat:=by
 rw[(X5 (YI.mpr h0)).trans (ZG h1),ZN,Array.toList_push,Array.toList_extract,Array.toList_extract,List.extract_eq_take_drop,List.extract_eq_take_drop,YN (show(items.toList.drop i.toNat).length≤items.size - i.toNat from X7 YJ),Yc]
 rfl
theorem fitsIdx{i:Int}{n:Nat}(h0:0≤i)(h1:i≤n)(hn:n≤1000000):Builtin.List.listFitsIndex i=true:=
 E3.mpr ⟨Yw (Y' (by decide) h0),Yw (Int.lt_of_le_of_lt h1 (Yd.mpr (Yv hn (E1 rfl))))⟩
theorem CG{a:Addr}{l:List AV}{i:Int}{vars}(Jo:0≤i)(yS:i≤l.length)(u:Upd mem a (.list l) (.list (l.take i.toNat++x::l.drop i.toNat)) mem')(hsz:l.length≤1000000)(h:Q .none ⟨vars,mem'⟩):
  Wl g VR (fun vs=>call (.builtin "list.insert") vs) [.val (.ref a),.int i,x] ⟨vars,mem⟩ Q:=fun F s vs r hv K E k=>by
 obtain⟨v1,_,rfl,h1,v2,_,rfl,h2,v3,_,rfl,h3,h4⟩:=hv
 cases(h1:_=_);obtain⟨t,rfl⟩:=h2;cases(h4:_=_)
 obtain⟨items,n,e,hi⟩:=r.hm _ u.mem
 exact abq PySem.F.slot_list_insert ⟨_,e,rfl⟩ PySem.F.entry_list_insert (PySem.F.args_list_insert_3 _ _ _) (AutoListH.list_insert_list_int_val_1 a items n i t v3 (by rw[fitsIdx Jo yS hsz];exact Yt) (hi.size▸E2 hsz (E1 rfl)))
  ⟨e,k F .none _ _ _ (FM.le.refl _) (r.turn u yT ⟨_,_,get?_update_seq e _,(CE items Jo (hi.size▸Int.toNat_le.mpr yS) v3).symm▸(hi.take _).append (f6 h3 (hi.drop _))⟩ s.toks id) (BJ _) h⟩
inductive yU:AO→List AV→Prop
 | list (l:List AV):yU (.list l) l
 | bq (l:List AV):yU (.bq l) l
theorem GM{F:FM}(r:RepM g F mem s){a:Addr}(hm:(a,o)∈mem)(ho:yU o l):∃items,s.heap.IsList a items∧be F l items.toList:=by
 cases ho with
 | list=>exact rt r hm
 | bq=>exact r.hm _ hm
theorem be.set{F:FM}(hv:VR F x v):∀ {l:List AV} {vs:List Value},be F l vs→∀j,be F (l.set j x) (vs.set j v)
 | [],_,e,_=>by cases(e:_=_);exact iX
 | _::_,_,e,0=>iW.rec (motive:=fun O=>be F _ (List.set _ 0 v)) (fun w r e h1 h2=>e▸f6 hv h2) e
 | _::_,_,e,j+1=>iW.rec (motive:=fun O=>be F _ (List.set _ (j+1) v)) (fun w r e h1 h2=>e▸f6 h1 (be.set hv h2 j)) e
def W3(g:Gd)(f:Value→Value→Value→Sem Unit)(x y z:AV)(st:AS)(Q:Unit→AS→Prop):Prop:=
 ∀F s v u w,Rep g F st s→VR F x v→VR F y u→VR F z w→∀(K:Unit→Shared→Prop) (E:Value→Shared→Prop),
  (∀F' b a cg s',FM.le F F'→Rep g F' cg s'→UR F' b a→Q b cg→K a s')→wpAny (model g.prog g.w) g.A (f v u w) K E s
theorem rD{a:Addr}{i:Int}{vars}(ho:yU o l)(Jo:0≤i)(yS:i<l.length)(hsz:l.length≤1000000)(u:Upd mem a o (.bq (l.set i.toNat x)) mem')(h:Q () ⟨vars,mem'⟩):
  W3 g setItem (.val (.ref a)) (.int i) x ⟨vars,mem⟩ Q:=fun F s v w z r hv hw hz K E k=>by
 cases(hv:_=_);obtain⟨t,rfl⟩:=hw
 obtain⟨items,hl,hi⟩:=GM r.toRepM u.mem ho
 exact wpAny_setItem_list hl Jo (YT yS (Yd.mpr (Yv hsz (E1 rfl)))) (hi.size.symm▸yS) fun h' Ss hs=>k F () () _ _ (FM.le.refl _) (r.turn u hs ⟨_,Ss,by rw[Array.toList_setIfInBounds];exact hi.set hz _⟩ s.toks id) trivial h
theorem vd{a:Addr}{k:Int}(hm:(a,AO.bq l)∈st.mem)(hsz:l.length≤sizeLine)(hx:d5 l k=some x)(h:Q x st):
  W2 g VR getItem (.val (.ref a)) (.int k) st Q:=fun F s v u r hv hu K E kk=>by
 cases(hv:_=_);obtain⟨t,rfl⟩:=hu
 obtain⟨items,hl,hi⟩:=r.hm _ hm
 obtain⟨j,hj,hx⟩:=Cd hx
 obtain⟨v,hv,hr⟩:=hi.at hx
 exact uR hl (hi.size▸hj) (hi.size▸hsz) hv (kk F _ _ st _ (FM.le.refl _) r hr h)
theorem ve{a:Addr}(hm:(a,AO.bq l)∈st.mem)(h:W2 g VR getItem (.val (.ref a)) y st Q)(hs:∀o i,∃Ce,subscripted slice false o i=operate Ce (getItem o i)):
  W2 g VR (subscriptTail ay slice) (.val (.ref a)) y st Q:=ty (fun F s v r hv=>by cases(hv:_=_);exact(r.hm _ hm).elim fun O hl=>hl.1.typeIs) slot_list_getitem.lookup h hs
theorem tJ{o i pos v}(h:W0 g VR (eval o env) st fun ov aN=>W0 g VR (eval i env) aN fun iv a8=>W3 g setItem ov iv v a8 Q):
  W1 g UR (assign (.Subscript o i pos) env) v st Q:=fun F s u r hv K E k=>by
 rw[assign_Subscript]
 refine E5 (Yz (h F s r _ E fun F1 ov o' aN s1 l1 r1 v1 h1=>E5 (Yz (h1 F1 s1 r1 _ E fun F2 iv i' a8 s2 l2 r2 v2 h2=>?_))))
 refine E5 (Zx (E5 (Yz (h2 F2 s2 o' i' u r2 (v1.mono l2) v2 (hv.mono (l1.trans l2)) _ E fun F3 O O gw s3 l3 r3 O h3=>wpAny_release (k F3 () () gw s3 (l1.trans (l2.trans l3)) r3 trivial h3)))))
noncomputable def bB(x:Str)(n:Nat):Str:=⟨(x.cps.toList.take n).toArray⟩
noncomputable def gR(x:Str)(n:Nat):Str:=⟨(x.cps.toList.drop n).toArray⟩
theorem rE(x:Str)(lo hi:Option Int)(a b:Nat)(hb:b≤x.length)(e:Builtin.Str.strSliceIndices lo hi 1 x.length=sliceRange a b 1):
  Txt.slice x lo hi=⟨((x.cps.toList.drop a).take (b - a)).toArray⟩:=by
 unfold Txt.slice
 rw[e,sliceRange_one,pick_run]
 split
 ·next hc=>
  have hc:b - a=x.cps.toList.length:=(((E7 _).trans Zh).symm.trans (eq_of_beq (E3.mp hc).2))
  cases a with
  | zero=>rw[drop_zero,YN (X7 hc.symm)]
  | succ a=>
   have h0:x.cps.toList=[]:=List.eq_nil_of_length_eq_zero (Nat.eq_zero_of_not_pos fun h=>aai b (Yv (E2 hb (X7 hc.symm)) (Nat.sub_lt (aaG fun q=>by rw[q,Nat.zero_sub] at hc;exact Yp h hc) (ZF a))))
   rw[h0,List.drop_nil,List.take_nil,← h0]
 ·rfl
theorem CH(x:Str){j:Int}(hj:0≤j):Txt.slice x none (some j)=bB x j.toNat:=by
 rw[rE x none (some j) 0 (min j.toNat x.length) (abg _ _) (E8 (sliceRange 0 · 1) (jA hj)),drop_zero,Nat.sub_zero,bB]
 exact E8 (fun l:List Nat=> (⟨l.toArray⟩:Str)) abj.symm
theorem xf(x:Str){j:Int}(hj:0≤j):Txt.slice x (some j) none=gR x j.toNat:=by
 rw[rE x (some j) none (min j.toNat x.length) x.length (N1 _) (E8 (sliceRange · x.length 1) (jA hj)),YN (show(x.cps.toList.drop (min j.toNat x.length)).length≤x.length - min j.toNat x.length from X7 YJ),gR]
 rcases abQ j.toNat x.length with h1 | h1
 ·rw[ZG h1]
 ·rw[aax h1,aan (show x.cps.toList.length≤x.length from N1 _),aan h1]
noncomputable def Su(i:Option Int):AV:=i.elim .none .int
theorem part_of{F:FM}{i:Option Int}(h:VR F (Su i) p):∃l:Option (Int×Tok),p=partValue l∧l.map (·.1)=i:=by
 cases i with
 | none=>exact⟨none,h,rfl⟩
 | some i=>exact h.elim fun t e=> ⟨some (i,t),e,rfl⟩
theorem CI{x:Str}{lo hi:Option Int}(hsz:x.length≤sizeLine)(h:Q (.str (Txt.slice x lo hi)) st):W2 g VR getItem (.str x) (.fx (Su lo) (Su hi) .none) st Q:=fun F s v u r hv hu K E k=>by
 obtain⟨b,p,q,t,rfl,e,h1,h2,h3⟩:=hu
 obtain⟨tv,rfl⟩:=hv
 obtain⟨l,rfl,rfl⟩:=part_of h1
 obtain⟨u,rfl,rfl⟩:=part_of h2
 cases(h3:_=_)
 exact cQ (wpAny_getItem_str_slice (l:=l) (u:=u) (st:=none) ⟨_,r.hF _ _ e,rfl,rfl⟩ rfl (post_val_or_str ⟨E2 (PySem.Txt.slice_le x _ _) hsz,fun t' tk jW=>k F (.str (PySem.Txt.slice x _ _)) _ st _ (FM.le.refl _) (r.tok _ fun O=>J3 r.tk jW) (BH ..) h⟩))
theorem Ok{x:Str}{j:Int}(hj:0≤j)(hsz:x.length≤sizeLine)(h:Q (.str (bB x j.toNat)) st):W2 g VR getItem (.str x) (.fx .none (.int j) .none) st Q:=CI (lo:=none) (hi:=some j) hsz (CH x hj▸h)
theorem GN{x:Str}{j:Int}(hj:0≤j)(hsz:x.length≤sizeLine)(h:Q (.str (gR x j.toNat)) st):W2 g VR getItem (.str x) (.fx (.int j) .none .none) st Q:=CI (lo:=some j) (hi:=none) hsz (xf x hj▸h)
noncomputable def aB(n:Int):Str:=Str.ofString (toString n)
theorem At{n:Int}(h1:n.natAbs<1000000)(h:Q (.str (aB n)) st):Wl g VR (fun vs=>call (.type "str") vs) [.int n] st Q:=uV fun F s v r hv K E k=>by
 obtain⟨t,rfl⟩:=hv
 refine PySem.P.str_of_int ?_ (k F _ _ st _ (FM.le.refl _) (r.tok _ tp) (BH ..) h)
 cases e:n.natAbs with
 | zero=>decide
 | succ m=>exact(Nat.log2_lt (Nat.succ_ne_zero m)).mpr (J3 (show m+1<1000000 from e▸h1) (E2 (E1 rfl:1000000≤2 ^ 20) (abr (ZF 1) (E1 rfl))))
theorem Au{n:Int}(h0:0≤n)(h1:n<10 ^ 10)(h:Q (.int n) st):Wl g VR (fun vs=>call (.type "int") vs) [.str (aB n)] st Q:=uV fun F s v r hv K E k=>by
 obtain⟨t,rfl⟩:=hv
 exact KIN.call_num h0 h1 (k F _ _ st _ (FM.le.refl _) (r.tok _ tp) (rj ..) h)
theorem Ol{b c:Bool}(h:Q (.bool (b==c)) st):W2 g VR (compareOp .Is) (.bool b) (.bool c) st Q:=fun F s v u r hv hu K E k=>by
 cases(hv:_=_);cases(hu:_=_)
 exact PyProof.Rows.is_bool (k F _ _ st _ (FM.le.refl _) r (ot ..) h)
end
end
section
section
variable {g:Gd}{env:Env}{st:AS}
theorem xg{pos p:Pos}{l:List Value}(h:TriplesOk l)(e:codeAmong p (l++ [rawInt pos.line,rawInt pos.col,c])=some d):codeAmong p l=some d∨d=c:=by
 fun_induction TriplesOk l with
 | case1=>
  replace e:(if((pos.line:Int)==p.line&& (pos.col:Int)==p.col)=true then some c else none)=some d:=e
  split at e
  ·exact .inr (YB e).symm
  ·cases e
 | case2 a' t b' u x rest ih=>
  replace e:(if(a'==p.line&&b'==p.col)=true then some x else codeAmong p (rest++ [rawInt pos.line,rawInt pos.col,c]))=some d:=e
  show(if(a'==p.line&&b'==p.col)=true then some x else codeAmong p rest)=some d∨_
  split at e
  ·next hc=>exact .inl ((X6 hc).trans e)
  ·next hc=>exact(ih h e).imp_left (X5 hc).trans
 | case3 l h1 h2=>exact h.elim
theorem Rep.GO{F:FM}(r:Rep g F st s){P:Addr}{q:Str}(i8:(P,q)∈g.tabs)(hq:∀t∈g.tabs,t.1=P→t.2=q)(hx:Heap.ExtBut P s.heap h'){c':Addr}(hc:s.heap.objs.size≤c')(ec:h'.get? c'=some oc){lR:Array Value}(hP:h'.get? P=some (tableObj lR))(ht:TriplesOk lR.toList)(BK:∀pos c,codeAmong pos lR.toList=some c→eN (F.put c' oc) c q)(t:Nat)(KU:0<s.toks→0<t):Rep g (F.put c' oc) st {s with heap:=h',toks:=t }:=by
 have fP:F.P P=none:=(r.cM _ i8).1
 have fF:F.f P=none:=(r.cM _ i8).2.1
 have fc:F.f c'=none:=aO r.hF hc
 have pc:F.P c'=none:=aO r.hP hc
 have le:=FM.eW (o:=oc) fc
 have old:∀ {a},a<s.heap.objs.size→(F.put c' oc).f a=F.f a:=fun h=>FM.cw _ _ (Yp (J3 h hc))
 exact
 {hP:=fun a o e=>hx a o (fun x=>qM fP (x▸e)) (r.hP a o e)
  hF:=fun a o e=> (PM.uM e).elim (fun x=>x.1▸x.2▸ec) fun x=>hx a o (fun q=>qM fF (q▸x.2)) (r.hF a o x.2)
  hK:=fun a o e=>le.f _ _ (r.hK _ _ e)
  pf:=fun a o e=> (old (Heap.lt_size (r.hP a o e))).trans (r.pf a o e)
  hm:=fun p hp=>
   have x:=r.hm p hp
   let⟨_,e⟩:=x.there
   x.mono le ((hx _ _ ((r.cM _ i8).2.2 p hp) e).trans e.symm)
  ap:=fun p hp=> ⟨(r.ap p hp).1,(old (r.j3 hp)).trans (r.ap p hp).2⟩
  nd:=r.nd,tk:=KU r.tk,gens:=r.gens,os:=r.os
  tab:=fun u hu=>by
   by_cases KI:u.1=P
   ·rw[hq u hu KI,KI]
    exact⟨lR,hP,ht,BK⟩
   ·have x:=r.tab u hu
    exact x.rec fun O e O O=>x.mono le ((hx _ _ KI e).trans e.symm)
  cM:=fun u hu=> ⟨(r.cM u hu).1,(old (r.j4 hu)).trans (r.cM u hu).2.1,(r.cM u hu).2.2⟩
  ns:=let⟨m,x,y⟩:=r.ns;⟨m,x.extBut hx (Ne.symm (r.gI _ i8)),fun z hz=> (y z hz).mono le⟩
  nv:=r.nv
  gH:=r.gH,gL:=(old r.KC).trans r.gL
  fX:=r.fX,gI:=r.gI }
structure yV(g:Gd)(env:Env)(P:Addr)(q:Str):Prop where
 code:∃c,env.code= .ref c∧∀h:Heap,(∀a o,g.K.f a=some o→h.get? a=some o)→CodeHd h c P
 qual:env.qual++ "<lambda>" =q
 tab:(P,q)∈g.tabs
 uniq:∀t∈g.tabs,t.1=P→t.2=q
 main:mainGlobals≠P
 bi:∀h:Heap,(∀a o,g.K.f a=some o→h.get? a=some o)→h.BuiltinsAt g.gl P
theorem CJ{params body scope pos P q names sn cs more}(X:yV g env P q)(e:bI g env)(N:Kn env names cs)(w8:scope=⟨.function,sn,false,false,more⟩)(hf:kR sn names cs=true)(Sv:defaultsOf params env=([],[]))(h:Q (.fn ⟨"<lambda>",params,.expr body,scope⟩ q (ic cs sn [])) st):W0 g VR (eval (.Lambda params body scope pos) env) st Q:=fun F s r K E k=>by
 subst w8
 have Ct:closureFor ⟨.function,sn,false,false,more⟩ env=pure (ic cs sn []):=j9 fun x hx=>tB N hf hx
 obtain⟨c,Jp,hC⟩:=X.code
 have bO:=r.bO
 have C:=hC _ bO
 obtain⟨vs,hP,Rf,BK⟩:=r.tab _ X.tab
 refine kla_eval Sv ?_
 rw[X.qual]
 cases ha:codeAmong pos vs.toList with
 | some cv=>
  refine cQ (kla_makeFunctionHit (mg:=g.gl) Ct e.globals (g.KA _ bO) Jp C hP Rf ha (X.bi _ bO) fun Om h' tk hk hsz jW=>?_)
  have x:=r.vb (fun b o e=>Heap.get?_push_of_some _ (hk b o e)) hsz (o:= {cls:= .type "function",data:= .func (kla_fn "<lambda>" q params body ⟨.function,sn,false,false,more⟩ (ic cs sn []) ((g.gl "__name__").getD .none) cv Om) }) (Heap.get?_push_size _ rfl) tk fun O=>J3 r.tk jW
  exact k _ (.fn ⟨"<lambda>",params,.expr body,_⟩ q (ic cs sn [])) _ st _ x.2.1 x.1 (Nu.mk _ _ .none ((g.gl "__name__").getD .none) none cv Om rfl x.2.2 rfl ((BK _ _ ha).mono x.2.1)) h
 | none=>
  refine cQ (kla_makeFunction (mg:=g.gl) Ct e.globals (g.KA _ bO) Jp C hP Rf ha X.main (X.bi _ bO) fun c' Om h' tk hx La dK Sw V_ jW=>?_)
  obtain⟨c2,oc,fs,tq,V',Jj,hd,hv⟩:=Sw
  cases V'
  have fc:F.f c'=none:=aO r.hF La
  have cd:eN (F.put c' oc) (.ref c') q:=⟨c',oc,fs,tq,rfl,FM.cR ..,hd,hv⟩
  have r1:=r.GO X.tab X.uniq hx La Jj V_ (by rw[ZN];exact TriplesOk_snoc _ _ _ _ Rf) (fun p d ed=> (xg Rf (ZN▸ed)).elim (fun h1=> (BK _ _ h1).mono (FM.eW fc)) fun e=>e▸cd) tk fun O=>J3 r.tk jW
  have x:=r1.alloc (o:=kla_obj "<lambda>" q params body ⟨.function,sn,false,false,more⟩ (ic cs sn []) ((g.gl "__name__").getD .none) c' Om) rfl tk id
  exact k _ (.fn ⟨"<lambda>",params,.expr body,_⟩ q (ic cs sn [])) _ st _ ((FM.eW fc).trans x.2.1) x.1 (Nu.mk _ _ .none ((g.gl "__name__").getD .none) none (.ref c') Om rfl x.2.2 rfl (cd.mono x.2.1)) h
end
end
section
section
variable {g:Gd}{env:Env}{st:AS}
noncomputable def ie(x:Str):List AV:=x.cps.toList.map fun c=> .str ⟨#[c]⟩
theorem GP(x:Str)(t:Tok)(I:Addr):BM g (.ref I) [I] (fun O=>True) (fun O=>True) (ie x) (fun i O h=>h.IsStrIter I "str_ascii_iterator" x t i) where
 mono:=fun i F F' h h' hl he e=>e.imp fun O e=> ⟨(he I (.head _)).trans e.1,e.2⟩
 ex:=fun i F h e=>bV (e.imp fun O e=>e.1)
 self:=fun i F s O e1 K E k=>wpAny_pyIter_striter_ascii e1 k
 next:=fun L aF i y F st s O O r w e1 hx K E E' k=>by
  rw[ie,Yi,Array.getElem?_toList] at hx
  cases hc:x.cps[i]? with
  | none=>rw[hc] at hx;cases hx
  | some c=>
   rw[hc] at hx
   cases hx
   exact wpAny_pyNext_ascii_item e1 hc fun h' i7 hs=> ⟨_,rfl,i7.elim fun o ho=>gg ho.1 ho.2.1 (by decide) (k F _ _ (FM.le.refl _) (r.keepsBut w (fun b o hb e=>hs.extBut b o (FV hb) e) (s.toks+1) tp) w i7 (BH ..))⟩
 stop:=fun L i F st s O r w e1 hx K E k=>wpAny_pyNext_ascii_end g.hh e1 (aao (X7 ((E7 _).symm.trans hx.symm))) fun h' hs=>have hk:=fun b o hb e=>hs b o (FV hb) e;k h' hk (r.keepsBut w hk s.toks id)
theorem CK{x:Str}(ha:x.cps.all (· <128)=true):dw g (.str x) st st (fun O=>True) (fun O=>True) (ie x):=fun F s v r hv K E k=>by
 obtain⟨t,rfl⟩:=hv
 exact wpAny_pyIter_ascii ha (k F _ [s.heap.objs.size] _ _ (FM.le.refl _) (GP x t _) (r.keeps (fun b o' e=>Heap.get?_push_of_some _ e) s.toks id) (r.away (bV (N1 _))) ⟨_,Heap.get?_push_size _ rfl,rfl,rfl⟩)
theorem GQ{g:Gd}(hn:1≤g.n){f:FI}{q:Str}{fZ:List (Str×Addr)}{Q:AV→Mem→Prop}{sn:List (Str×NameKind)}{more:List (Str×Const)}(fC:f.body= .expr body)(w8:f.scope=⟨.function,sn,false,false,more⟩)(Sx:dN none sn fZ=true)(yH:c9 sn=true)(CL:sn.lookup x=some .local)(Sy:(fZ.map (·.1)).Nodup)(i4:∀v doc pm an d9 ct,bindArgs (Kx f q fZ doc pm an d9 ct) ⟨[v],[]⟩=pure [(x,v)])(h:∀(g':Gd) (L:Addr) (env:Env),fB g g'→bI g' env→Kn env sn fZ→W0 g' VR (eval body env) ⟨[(x,some y)],mem⟩ fun v st=> ∃mem',mem'.Sublist st.mem∧Q v mem'):
  WC g (.fn f q fZ) [y] [] [] mem Q:=by
 intro F s fv vs kvs r KO hv hG R k
 obtain⟨nm,ps,bd,sc⟩:=f
 cases(fC:bd=_);cases(w8:sc=_)
 obtain⟨a,o,doc,pm,an,d9,ct,rfl,ho,hd,BK⟩:=KO
 obtain⟨v,_,rfl,hv,h0⟩:=hv
 cases(h0:_=_)
 refine⟨kj (r.hF _ _ ho) hd,kla_callFunE (body:=body) (Yv (Yl _ _) g.hd) (r.hF _ _ ho) hd rfl rfl rfl (BK.at r) (ab6 (i4 ..) ?_)⟩
 refine wpAny_newFunctionEnv (dN.no Sx) (fun z hz=>X8.mp hz▸CL) (fun h₁ FW NY=>?_) rfl
 have Jq:∀b o,s.heap.get? b=some o→h₁.get? b=some o:=fun b o e=>NY.extBut b o (Yp (Heap.lt_size e)) (Heap.get?_push_of_some _ e)
 have r1:=r.keeps Jq (s.toks+1) tp
 refine⟨(g.KB _ r.bO).keeps Jq,kla_codeExpr ?_⟩
 exact h (g.callee hn s.heap.objs.size _) s.heap.objs.size _ ⟨rfl,rfl,rfl,rfl,rfl,rfl,rfl,rfl⟩ ⟨rfl,rfl,rfl,rfl⟩ (B' (c9.kn yH) rfl Sy) F _
  {hP:=r1.hP,hF:=r1.hF,hK:=r1.hK,pf:=r1.pf,hm:=r1.hm,ap:=r1.ap,nd:=r1.nd,tk:=r1.tk,gens:=r1.gens,os:=r1.os,tab:=r1.tab,cM:=r1.cM
   ns:=⟨_,FW,fun p hp=>X8.mp hp▸⟨v,abl,hv⟩⟩
   nv:=YG.mpr ⟨Y5,aaU⟩
   gH:=aO r.hP (N1 _),gL:=aO r.hF (N1 _)
   fX:=fun p hp=>Yp (r.j3 hp),gI:=fun t ht=>Yp (r.j4 ht) } _ _ fun F' b w cg s' l r' hb ⟨mem',hs,hq⟩=>k F' b w mem' s' l {r'.toRepM.sub hs with hm:=(r'.toRepM.sub hs).hm } hb hq
structure lT(g:Gd)(a:Addr)(es:Array DictEntry)(n:Nat):Prop where
 at':g.K.f a=some ⟨.type "dict",none,.dict es n,#[]⟩
 keys:KeysLit g.w.params es.toList
 lo:(a==sysModules)=false
theorem CM{F:FM}(r:RepM g F mem s){a:Addr}{es:Array DictEntry}{n:Nat}(T:lT g a es n):s.heap.MapOf (strKind g.prog g.w) a (fun k=>bo es k):=
 mapOf_K (n:=n) (K:=[(a,⟨.type "dict",none,.dict es n,#[]⟩)]) (fun b o e=>by
  rw[YX] at e
  cases hb:b==a with
  | true=>rw[hb] at e;cases e;rw[eq_of_beq hb];exact r.bO _ _ T.at'
  | false=>rw[hb] at e;cases e) (by simp) T.keys
theorem GR{a:Addr}{es:Array DictEntry}{n:Nat}(T:lT g a es n)(h:Q (.bool (bo es x).isSome) st):W2 g VR (compareOp .In) (.str x) (.val (.ref a)) st Q:=fun F s v u r hv hu K E k=>by
 obtain⟨t,rfl⟩:=hv;cases(hu:_=_)
 exact wpAny_in_of (strKind_is g.prog g.w x t) T.lo (CM r.toRepM T) (k F _ _ st _ (FM.le.refl _) (r.tok _ tp) (ot ..) h)
theorem xh{a:Addr}{es:Array DictEntry}{n:Nat}{i:Int}{t:Tok}(T:lT g a es n)(hx:bo es x=some (.int i t))(h:Q (.int i) st)(hs:∀o i,∃Ce,subscripted slice false o i=operate Ce (getItem o i)):
  W2 g VR (subscriptTail ay slice) (.val (.ref a)) (.str x) st Q:=fun F s v u r hv hu K E k=>by
 obtain⟨t',rfl⟩:=hu;cases(hv:_=_)
 have hm:=CM r.toRepM T
 obtain⟨Ce,e⟩:=hs (.ref a) (.str x t')
 exact tail_any hm.typeIs slot_dict_getitem.lookup (wpAny_getItem_of (strKind_is g.prog g.w x t') hm hx (k F _ _ st _ (FM.le.refl _) (r.tok _ tp) (rj ..) h)) e
end
end
section
section
variable {g:Gd}{env:Env}{st:AS}
theorem Av{n:Int}(h:Q (.bool false) st):W2 g VR (compareOp .Is) (.int n) .none st Q:=lO (b:=false) (fun F v hv=>by obtain⟨t,rfl⟩:=hv;rfl) h
theorem xi(h:Q (.bool true) st):W2 g VR (compareOp .Is) .none .none st Q:=lO (b:=true) (fun F v hv=>by cases(hv:_=_);rfl) h
theorem CN{f q fZ}(h:Q (.bool false) st):W2 g VR (compareOp .Is) (.fn f q fZ) .none st Q:=lO (b:=false) (fun F v hv=>by obtain⟨a,o,doc,pm,an,d9,ct,rfl⟩:=hv;rfl) h
theorem vf(h:Q (.bool false) st):W2 g VR (compareOp .IsNot) .none .none st Q:=hY (b:=true) (fun F v hv=>by cases(hv:_=_);rfl) h
theorem xj{l}(h:Q (.bool true) st):W2 g VR (compareOp .IsNot) (.lst l) .none st Q:=hY (b:=false) (fun F v hv=>by obtain⟨a,i,n,rfl⟩:=hv;rfl) h
theorem xk{x}(h:Q (.bool true) st):W2 g VR (compareOp .IsNot) (.str x) .none st Q:=hY (b:=false) (fun F v hv=>by obtain⟨t,rfl⟩:=hv;rfl) h
theorem Jr{x y:Str}(h:Q (.bool (decide (x.cps.toList<y.cps.toList))) st):W2 g VR (compareOp .Lt) (.str x) (.str y) st Q:=fun F s v u r hv hu K E k=>by
 obtain⟨t,rfl⟩:=hv;obtain⟨t',rfl⟩:=hu
 exact PyProof.Rows.lt_str (k F _ _ st _ (FM.le.refl _) r (ot ..) h)
theorem gA(h:Q false st):W1 g RQ truthy .none st Q:=fun F s v r hv K E k=>by
 cases(hv:_=_)
 exact PyProof.Rows.truthy_none (k F false false st s (FM.le.refl _) r rfl h)
end
end
section
structure vg(K:FM)(C N:Addr)(mN:Str→Option Value):Prop where
 at':∀h:Heap,(∀a o,K.f a=some o→h.get? a=some o)→ClsAt h C N mN
 ga:mN "__getattribute__" =none
 gh:mN "__getattr__" =none
 sa:mN "__setattr__" =none
 hC:∃o,K.f C=some o
theorem Js{P:PM}{h:Heap}(hP:∀a o,P a=some o→h.get? a=some o){a:Addr}(e:h.get? a=none):P a=none:=by
 cases q:P a with
 | none=>rfl
 | some o=>exact(qM e (hP a o q)).elim
theorem RepM.oz{F:FM}(r:RepM g F mem s){a:Addr}(h1:F.f a=none)(h0:F.P a=none)(h3:∀p∈mem,p.1≠a)(h4:∀t∈g.tabs,t.1≠a)(Gf:oy F s.heap a ao):
  RepM g F ((a,ao)::mem) s:=
 {hP:=r.hP,hF:=r.hF,hK:=r.hK,pf:=r.pf,hm:=X_.mpr ⟨Gf,r.hm⟩,ap:=X_.mpr ⟨⟨h0,h1⟩,r.ap⟩
  nd:=YG.mpr ⟨fun hm=> (N5.mp hm).elim fun p hp=>h3 p hp.1 hp.2,r.nd⟩
  tk:=r.tk,gens:=r.gens,os:=r.os,tab:=r.tab,cM:=fun p hp=> ⟨(r.cM p hp).1,(r.cM p hp).2.1,X_.mpr ⟨(h4 p hp).symm,(r.cM p hp).2.2⟩⟩ }
theorem RepM.xm{g:Gd}{F:FM}{mem:Mem}{s s':Shared}(r0:RepM g F mem s){m2:Mem}(r:RepM g F (m2++mem) s'){a:Addr}{ao:AO}(e:s.heap.get? a=none)(h2:∀p∈m2,p.1≠a)(Gf:oy F s'.heap a ao):RepM g F ((a,ao)::(m2++mem)) s':=
 r.oz (Js r0.hF e) (Js r0.hP e) (fun p hp=> (Yf.mp hp).elim (h2 p) fun hp q=> (r0.hm p hp).there.elim fun O x=>qM e (q▸x)) (fun t ht q=> (r0.tab t ht).rec fun O x O O=>qM e (q▸x)) Gf
noncomputable def Gd.under(g:Gd)(hn:1≤g.n)(C:Addr)(vs:List Value):Gd:=
 {g with A:=g.A.under (.builtin "type.__call__" ⟨.ref C::vs,[]⟩),n:=g.n - 1,hh:=g.hh,hd:=Yv (Z7 (Yo (E1 (by kernel_rfl!):Code.weight (.builtin "type.__call__" ⟨.ref C::vs,[]⟩)≤1) _) _) (I_ (b:=0) hn g.hd),hu:=Ja (k:=Code.cUnits (.builtin "type.__call__" ⟨.ref C::vs,[]⟩)) hn (E1 (by kernel_rfl!)) g.hu }
theorem CO{h:Heap}{x C dx:Addr}{m:Str→Option Value}(I:h.Inst x C m)(e:h.get? x=some o)(hd:o.dict=some dx):o.cls= .ref C∧(∀c,o.data≠.cls c)∧dx≠x∧h.Ns1 dx m:=by
 obtain⟨o',e',hc,hn,hx⟩:=I
 cases e.symm.trans e'
 refine⟨hc,hn,?_⟩
 rcases hx with⟨h0,_⟩ |⟨d,h1,h2,h3⟩
 ·exact(qM h0 hd).elim
 ·cases hd.symm.trans h1;exact⟨h2,h3⟩
inductive On(h:Heap)(C N:Addr)(mN:Str→Option Value):Prop
 | mk (nm q bs sn sub col dd k0 k1 k2 k3 k5) (hC:h.get? C=some (excClassObj nm q C N bs [.type "object"] true sn sub false col dd k0 k1 k2 k3 k5 "object.__new__")) (ns:h.Ns N mN)
theorem RepM.cls{F:FM}(r:RepM g F mem s){C N:Addr}{mN:Str→Option Value}(X:vg g.K C N mN):On s.heap C N mN:=
 have X:=X.at' _ r.bO
 X.obj.elim fun nm h=>h.elim fun q h=>h.elim fun bs h=>h.elim fun sn h=>h.elim fun sub h=>h.elim fun col h=>h.elim fun dd h=>h.elim fun k0 h=>h.elim fun k1 h=>h.elim fun k2 h=>h.elim fun k3 h=>h.elim fun k5 h=> ⟨nm,q,bs,sn,sub,col,dd,k0,k1,k2,k3,k5,h,X.ns⟩
inductive Oo(K:Value→Shared→Prop)(x:Value)(r:Result)(s:Shared):Prop
 | mk (e:r= .ok (.ret .none)) (k:K x s)
section
variable {g:Gd}{env:Env}{st:AS}
theorem rF(hn:1≤g.n){C N fI:Addr}{mN:Str→Option Value}{vars:dL}(X:vg g.K C N mN)(hi:mN "__init__" =some (.ref fI))(hf:∃o,g.K.f fI=some o∧o.cls= .type "function")(h:∀x dx vs,WC (g.under hn C vs) (.val (.ref fI)) (.val (.ref x)::xs) [] [] ((x,.shell C dx)::(dx,.inst .none [])::mem) fun v m=>v= .none∧Q (.val (.ref x)) ⟨vars,m⟩):
  b8 g (.val (.ref C)) xs [] [] ⟨vars,mem⟩ Q:=by
 intro F s f vs kvs r KO hv hG K E k
 cases(KO:_=_);cases(hG:_=_)
 obtain⟨P',_,r',qP⟩:=r.wR
 obtain⟨nm,q,bs,sn,sub,col,dd,k0,k1,k2,k3,k5,hC,ns⟩:=r.toRepM.cls X
 obtain⟨oI,Wa,Wb⟩:=hf
 refine⟨⟨true,fun A Q E hq=>?_⟩,?_⟩
 ·unfold keeperOf
  exact E5 (wpAny_load hC (E5 (wpAny_specialOf (T:= "type") ⟨_,hC,rfl⟩ PySem.tc_lookup (N7 hq))))
 ·obtain⟨hh,gs,d,t,os⟩:=s
  refine wpAny_call_obj_init PySem.F.objNew hC ns hi (r.bO _ _ Wa) Wb fun h' x dx Mk=>?_
  obtain⟨ox,hx,_⟩:=id Mk.inst
  have Ur:=Mk.dict ox hx
  have I:=CO Mk.inst hx Ur
  have r3:=r'.xm (m2:=[]) (r'.keeps (h':=h') Mk.keeps t id) (ao:= .inst .none []) Mk.newD (fun O hp=>nomatch hp) ⟨_,I.2.2.2,fun y=>rfl⟩
  have r4:=r'.xm (m2:=[(dx,.inst .none [])]) r3 (ao:= .shell C dx) Mk.newX (X_.mpr ⟨I.2.2.1,fun O hp=>nomatch hp⟩) (lI.mk ox hx I.1 I.2.1 Ur I.2.2.1)
  have key:=h x dx vs ⟨P',F.f⟩ _ (.ref fI) (.ref x::vs) [] {hP:=r4.hP,hF:=r4.hF,hK:=r4.hK,pf:=r4.pf,hm:=r4.hm,ap:=r4.ap,nd:=r4.nd,tk:=r4.tk,gens:=r4.gens,os:=r4.os,tab:=r4.tab,cM:=r4.cM } (nH ..) (f6 (nH ..) (hv.wO (F:=F) (G:=⟨P',F.f⟩) rfl)) iX (Oo K (.ref x)) fun F' y v mem' s' l r6 hy hq=>by
   obtain⟨rfl,hq⟩:=hq
   cases(hy:_=_)
   exact⟨rfl,k ⟨F.P,F'.f⟩ _ _ _ s' ⟨rfl,l.f⟩ (qP F' mem' s' l {hP:=r6.hP,hF:=r6.hF,hK:=r6.hK,pf:=r6.pf,hm:=r6.hm,ap:=r6.ap,nd:=r6.nd,tk:=r6.tk,gens:=r6.gens,os:=r6.os,tab:=r6.tab,cM:=r6.cM }) (nH ..) hq⟩
  exact wpAny_call (abP key.2 fun r s' hr=>by obtain⟨rfl,k⟩:=hr;exact⟨rfl,k⟩)
theorem xo{F:FM}(r:RepM g F mem s){x dx C:Addr}{vs:List (Str×AV)}(h1:(x,AO.shell C dx)∈mem)(h2:(dx,AO.inst .none vs)∈mem):∃m,s.heap.Inst x C m∧(∀y,wN F (vs.lookup y) (m y)):=
 aav (fun m hm=> ⟨lI.rec (motive:=fun O=>s.heap.Inst x C m) (fun o e hc Sx hd fY=> ⟨o,e,hc,Sx,.inr ⟨dx,hd,fY,hm.1⟩⟩) (r.hm _ h1),hm.2⟩) (r.hm _ h2)
theorem rG{C N x dx:Addr}{mN:Str→Option Value}{vs:List (Str×AV)}(X:vg g.K C N mN)(h1:(x,AO.shell C dx)∈st.mem)(h2:(dx,AO.inst .none vs)∈st.mem)(hv:vs.lookup name=some v)(Sz:mN name=none)(hB:typeLookup (.type "object") name=pure none)(hh:∀F w,VR F v w→handedOut w=pure w)(h:Q v st):W1 g VR (fun o=>getAttr o name true) (.val (.ref x)) st Q:=fun F s u r hu K E k=>by
 cases(hu:_=_)
 obtain⟨m,I,hy⟩:=xo r.toRepM h1 h2
 obtain⟨w,hw,hr⟩:wN F (some v) (m name):=hv▸hy name
 obtain⟨nm,q,bs,sn,sub,col,dd,k0,k1,k2,k3,k5,hC,ns⟩:=r.toRepM.cls X
 obtain⟨Rg,gs,d,t,os⟩:=s
 exact load_attr hC ns X.ga Sz hB I hw (hh F w hr) (k F _ _ st _ (FM.le.refl _) (r.tok _ tp) hr h)
theorem CP{ay vh pos}(h:W0 g VR (eval ay env) st fun o aN=>W1 g VR (fun o=>getAttr o vh true) o aN Q)(he:eval (.Attribute ay vh pos) env=(do
   let o ← eval ay env
   standAt pos.atName
   let r ← holding [o] (getAttr o vh true)
   letTemporaryGo ay o r
   pure r)):W0 g VR (eval (.Attribute ay vh pos) env) st Q:=fun F s r K E k=>
 Attribute_any_ (h F s r _ E fun F1 o ov aN s1 l1 r1 v1 h1=>h1 F1 s1 ov r1 v1 K E fun F2 a b a8 s2 l2 r2 v2 h2=>k F2 a b a8 s2 (l1.trans l2) r2 v2 h2) he
theorem j_{o vh wQ ay pos}(h:W0 g VR (eval ay env) st fun v aN=>W0 g VR (eval o env) aN fun ov a8=>W2 g UR (fun o w=>setAttr o vh w) ov v a8 fun O gw=>Q .next gw)(hs:swapsWith ay (some (.Attribute o vh wQ)) pos.line env=pure false):W0 g FR (exec (.Assign [.Attribute o vh wQ] ay pos) env) st Q:=fun F s r K E k=>
 plainObj_wpAny_Assign_Attribute (h F s r _ E fun F1 v w aN s1 l1 r1 v1 h1=>h1 F1 s1 r1 _ E fun F2 ov u a8 s2 l2 r2 v2 h2=>h2 F2 s2 u w r2 v2 (v1.mono l2) _ E fun F3 O O gw s3 l3 r3 O h3=>
  k F3 .next .next gw s3 (l1.trans (l2.trans l3)) r3 rfl h3) hs
theorem mO{C N x dx f:Addr}{mN:Str→Option Value}{y:Option Value}{vs:List (Str×AV)}(X:vg g.K C N mN)(h1:(x,AO.shell C dx)∈st.mem)(h2:(dx,AO.inst .none vs)∈st.mem)(hf:mN name=some (.ref f))(Wc:∃o,g.K.f f=some o∧o.cls= .type "function")(Wd:vs.lookup name=none)(hB:typeLookup (.type "object") name=pure y):gd g (.val (.ref x)) name (.val (.ref f)) [.val (.ref x)] st:=fun F s u pl r hu K E k=>by
 cases(hu:_=_)
 obtain⟨m,I,hy⟩:=xo r.toRepM h1 h2
 have hm:wN F none (m name):=Wd▸hy name
 obtain⟨nm,q,bs,sn,sub,col,dd,k0,k1,k2,k3,k5,hC,ns⟩:=r.toRepM.cls X
 obtain⟨of,We,Wf⟩:=Wc
 have SC:=r.bO _ _ We
 obtain⟨Rg,gs,d,t,os⟩:=s
 exact method_of hC ns X.ga X.gh hf SC Wf hB I hm (k F _ _ _ (FM.le.refl _) r (nH ..) (f6 (nH ..) iX))
end
end
section
open Builtin.Re
theorem oZ:PlainAttrs "re.Pattern":=
 ⟨⟨"object.__getattribute__",by rw[ZV,Zl];kernel_rfl,by decide+kernel⟩,by rw[ZV,Zl];kernel_rfl⟩
theorem iL:Slot "re.Pattern" "search" "re.Pattern.search":=
 .of (owner:= "re.Pattern") (n:= "search") (by rw[ZV,Zl];kernel_rfl) (by decide+kernel) (by decide+kernel) (by decide+kernel)
  (by first | exact .inl (by decide+kernel) | exact .inr (by decide+kernel)) (by rw[isSubtype_type];kernel_rfl)
theorem nA:typeOf (.builtin "re.Pattern.search")=pure (.type "method_descriptor"):=by show builtinType _=_;rw[builtinType_eq_fast];kernel_rfl
theorem lU:entryFor table "re.Pattern.search" =some Builtin.«re.Pattern.search»:=entryFor_of_tree (by kernel_rfl)
theorem nB(a b:Value):argsOk "re.Pattern.search" ⟨[a,b],[]⟩:=by unfold argsOk;kernel_rfl
noncomputable def eX:Nat→Sre.M→Sre.M
 | 0,m=>m
 | k+1,m=>if(m.runFor reTurnSteps).outcome.isSome then m.runFor reTurnSteps else eX k (m.runFor reTurnSteps)
section
variable {M:Model}{A:Around}{E:Value→Shared→Prop}{s:Shared}
theorem tK:∀(k t:Nat) (m:Sre.M) (Q:Sre.M→Shared→Prop),(eX (k+1) m).outcome.isSome=true→Q (eX (k+1) m) s→wpAny M A (reDrive (t+k+1) m) Q E s:=fun k=>by
 induction k with
 | zero=>
  intro t m Q h q
  unfold reDrive
  by_cases hc:(m.runFor reTurnSteps).outcome.isSome=true
  ·have e:eX 1 m=m.runFor reTurnSteps:=X6 hc
   rw[X6 hc]
   exact N7 (e▸q)
  ·have e:eX 1 m=m.runFor reTurnSteps:=X5 hc
   exact absurd (e▸h) hc
 | succ k ih=>
  intro t m Q h q
  show wpAny M A (reDrive ((t+k+1)+1) m) Q E s
  unfold reDrive
  by_cases hc:(m.runFor reTurnSteps).outcome.isSome=true
  ·have e:eX (k+2) m=m.runFor reTurnSteps:=X6 hc
   rw[X6 hc]
   exact N7 (e▸q)
  ·have e:eX (k+2) m=eX (k+1) (m.runFor reTurnSteps):=X5 hc
   rw[X5 hc]
   exact E5 (aaS (ih t _ Q (e▸h) (e▸q)))
theorem ja(f:Nat→Bool)(SD:Nat→String){Q:Unit→Shared→Prop}:∀l:List Nat,Q () s→wpAny M A (forIn l PUnit.unit fun i O=>if f i=true then(rule (SD i) >>= fun O=>pure (ForInStep.yield PUnit.unit)) else pure (ForInStep.yield PUnit.unit)) Q E s
 | [],q=>N7 q
 | i::l,q=>by
  rw[abo]
  refine E5 ?_
  by_cases hc:f i=true
  ·rw[X6 hc];exact E5 (aaS (N7 (ja f SD l q)))
  ·rw[X5 hc];exact N7 (ja f SD l q)
noncomputable def CQ(code:List Nat)(x:Str):Sre.M:=Sre.forSearch code.toArray x.cps 0 0 x.length false
noncomputable def nN(code:List Nat)(x:Str):Bool:=match(eX 40 (CQ code x)).outcome with
 | some .failed=>true
 | _=>false
inductive xp(K:FM)(p:Addr)(code:List Nat):Prop
 | mk (fs:Array Value) (T:Addr) (ws:Array Value) (n:Nat) (h1:K.f p=some {cls:= .type "re.Pattern",data:= .fields fs }) (h2:fs.getD 5 .none= .ref T) (h3:reRawNat (fs.getD 2 .none)=0) (h4:reRawNat (fs.getD 6 .none)=0)
  (h5:K.f T=some (gv ws n)) (h6:(ws.map reRawOf).map (·.toNat)=code.toArray)
theorem Aw:∀ {o:Option Sre.Outcome},(match o with | some .failed=>true | _=>false)=true→o=some .failed
 | some .failed,_=>rfl
theorem xq{K:FM}{code:List Nat}{p:Addr}{x:Str}{t:Tok}{Q:Fin→Shared→Prop}(hK:∀a o,K.f a=some o→s.heap.get? a=some o)(hp:xp K p code)(hsz:x.length<1000000)(hf:nN code x=true)(h:Q (.done (.ret .none)) s):
  wpAny M A (Builtin.«re.Pattern.search» ⟨[.ref p,.str x t],[]⟩) Q E s:=by
 obtain⟨fs,T,ws,n,h1,h2,h3,h4,h5,h6⟩:=hp
 unfold Builtin.«re.Pattern.search» reTarget
 refine E5 ?_
 show wpAny _ _ (reNamed "re.Pattern.search" "search" ["string","pos","endpos"] 1 [.str x t] [] >>= _) _ _ s
 have e1:reNamed "re.Pattern.search" "search" ["string","pos","endpos"] 1 [.str x t] []=pure [some (.str x t),none,none]:=by kernel_rfl!
 rw[e1]
 refine E5 (N7 ?_)
 refine E5 (N7 (E5 (N7 ?_)))
 refine E5 (wpAny_fieldsOf (hK _ _ h1) rfl ?_)
 refine E5 (m:=reTextOf (.str x t)) (E5 (N7 (N7 ?_)))
 simp only[h4,h2,h3]
 rw[X5 (by decide),X5 (by decide)]
 refine E5 (N7 ?_)
 refine E5 (E5 (aaT (hK _ _ h5) rfl (N7 ?_)))
 refine N7 ?_
 show wpAny M A (reAnswer _ (Sre.forSearch ((ws.map reRawOf).map fun x=>x.toNat) x.cps 0 (min (toNat 0) x.cps.size) (min (2 ^ 63 - 1:Int).toNat x.cps.size) false)) Q E s
 have e2:min (toNat 0) x.cps.size=0:=Nat.zero_min _
 have e3:min (2 ^ 63 - 1:Int).toNat x.cps.size=x.length:=aax (E2 (YA hsz) (E1 rfl))
 rw[h6,e2,e3]
 unfold reAnswer reRunToEnd
 have ho:=Aw hf
 unfold CQ at ho
 generalize Sre.forSearch code.toArray x.cps 0 0 x.length false=mm at ho ⊢
 have e4:(2 ^ 64:Nat)=(2 ^ 64 - 40)+39+1:=by decide
 refine E5 (E5 ?_)
 rw[e4]
 refine tK 39 _ mm _ (by rw[ho];rfl) ?_
 refine E5 (aaw (ja (fun i=> (eX 40 mm).seen.has i) (fun i=>Sre.names.getD i "") _ ?_) (fun O O q=>q) fun O O e=>e)
 show wpAny M A (match(eX 40 mm).outcome with
  | some .matched=>pure (some (eX 40 mm))
  | some .failed=>pure none
  | some (.stuck why)=>unsupported s!"_sre:{why}"
  | none=>unsupported "internal:sre:no-outcome") _ E s
 rw[ho]
 exact N7 (N7 h)
end
section
variable {g:Gd}{env:Env}{st:AS}
theorem Jt{p:Addr}{code:List Nat}(hp:xp g.K p code):gd g (.val (.ref p)) "search" (.val (.builtin "re.Pattern.search")) [.val (.ref p)] st:=fun F s v pl r hv K E k=>by
 cases(hv:_=_)
 obtain⟨fs,T,ws,n,h1⟩:=hp
 have e:=r.bO _ _ h1
 exact aa2 ⟨_,e,rfl⟩ oZ iL nA (fun b eb=>by cases eb;exact⟨_,e,rfl⟩) (k F _ _ s (FM.le.refl _) r (nH ..) (f6 (nH ..) iX))
theorem vk{p:Addr}{code:List Nat}{x:Str}(hp:xp g.K p code)(hsz:x.length<1000000)(hf:nN code x=true)(h:Q .none st):Wl g VR (fun vs=>call (.builtin "re.Pattern.search") vs) [.val (.ref p),.str x] st Q:=Gm fun F s v u r hv hu K E k=>by
 cases(hv:_=_);obtain⟨t,rfl⟩:=hu
 obtain⟨fs,T,ws,n,h1⟩:=id hp
 refine ZP iL ⟨_,r.bO _ _ h1,rfl⟩ lU ?_ (nB _ _)
 exact xq r.bO hp hsz hf ⟨_,rfl,k F _ _ st _ (FM.le.refl _) r (BJ _) h⟩
theorem lV{n:String}(hT:∀F s v,Rep g F st s→VR F x v→s.TypeIs v n)(hn:(Value.type n==Value.type "builtin_function_or_method")=false)(h:Q (.val (.type n)) st):Wl g VR (fun vs=>call (.type "type") vs) [x] st Q:=uV fun F s v r hv K E k=>
 PySem.call_type_of (hT F s v r hv) hn (k F _ _ st _ (FM.le.refl _) r (nH ..) h)
theorem Ju{a b:String}(h:Q (.bool (Value.type a==Value.type b)) st):W2 g VR (compareOp .Is) (.val (.type a)) (.val (.type b)) st Q:=fun F s v u r hv hu K E k=>by
 cases(hv:_=_);cases(hu:_=_)
 exact N7 (k F (.bool _) _ st _ (FM.le.refl _) r (ot ..) h)
theorem CR{a b:String}(h:Q (.bool (!(Value.type a==Value.type b))) st):W2 g VR (compareOp .IsNot) (.val (.type a)) (.val (.type b)) st Q:=fun F s v u r hv hu K E k=>by
 cases(hv:_=_);cases(hu:_=_)
 exact N7 (k F (.bool _) _ st _ (FM.le.refl _) r (ot ..) h)
theorem yW(prog:Program)(w:World){h:Heap}{d:Addr}(e:h.get? d=some emptyDict):h.DictAt (strKind prog w) d [] 0:=
 ⟨_,#[],e,⟨rfl,rfl,rfl⟩,rfl,(fun e he=>nomatch he),.nil,aaU⟩
theorem Lb{d:Addr}(hm:(d,AO.obj emptyDict)∈st.mem):gd g (.val (.ref d)) "items" (.val (.builtin "dict.items")) [.val (.ref d)] st:=fun F s v pl r hv K E k=>by
 cases(hv:_=_)
 have e:s.heap.get? d=some emptyDict:=r.hm _ hm
 exact aa2 ⟨_,e,rfl⟩ PySem.F.plainAttrs_dict PySem.F.slot_dict_items PySem.F.type_dict_items (fun b eb=>by cases eb;exact⟨_,e,rfl⟩) (k F _ _ s (FM.le.refl _) r (nH ..) (f6 (nH ..) iX))
noncomputable abbrev lX(d:Addr):Obj:= {cls:= .type "dict_items",data:= .fields #[.ref d] }
theorem GS{d:Addr}{vars:dL}(GT:∃o,g.K.f sysModules=some o)(hm:(d,AO.obj emptyDict)∈mem)(h:∀v,Q (.val (.ref v)) ⟨vars,(v,.obj (lX d))::mem⟩):Wl g VR (fun vs=>call (.builtin "dict.items") vs) [.val (.ref d)] ⟨vars,mem⟩ Q:=uV fun F s v r hv K E k=>by
 cases(hv:_=_)
 have e:s.heap.get? d=some emptyDict:=r.hm _ hm
 have hd:(d==sysModules)=false:=by
  obtain⟨o,ho⟩:=GT
  exact ZO.mpr fun q=>qM (r.ap _ hm).2 (show F.f d=_ from q▸r.hK _ _ ho)
 have hD:s.heap.DictOf (strKind g.prog g.w) d []:=⟨_,#[],0,e,⟨rfl,rfl,rfl⟩,rfl,(fun e he=>nomatch he),.nil,aaU⟩
 refine call_meetsIn PySem.F.slot_dict_items ⟨_,e,rfl⟩ PySem.F.entry_dict_items (PySem.F.args_dict_items_1 _) (meets_dict_items (strKind g.prog g.w) d hd) ⟨⟨[],hD⟩,?_⟩
 exact k F _ _ _ _ (FM.le.refl _) (r.oA (o:=lX d) (ao:= .obj (lX d)) rfl s.toks (fun h e=>e) id) (nH ..) (h _)
theorem jY:entryFor table "dict_itemiterator.__iter__" =some Builtin.«dict_keyiterator.__iter__»:=entryFor_alias (id':= "dict_keyiterator.__iter__") (by kernel_rfl) rfl (by decide+kernel) (by kernel_rfl)
theorem xr(d it:Addr):BM g (.ref it) [it] (fun O=>True) (fun mem=> (d,AO.obj emptyDict)∈mem) [] (fun i O h=>IsItemIter h it d i 0 0 .none .none) where
 mono:=fun i F F' h h' hl he e1=> (he it (.head _)).trans e1
 ex:=fun i F h e=>bV ⟨_,e⟩
 self:=fun i F s O e1 K E k=>by
  refine wpAny_pyIter_slot (T:= "dict_itemiterator") ⟨_,e1,rfl⟩ aaV (ZP aaV ⟨_,e1,rfl⟩ jY ?_ (PySem.F.args_dict_itemiterator_iter_1 _))
  exact N7 ⟨_,rfl,"dict_itemiterator",_,⟨_,e1,rfl⟩,PySem.F.slot_dict_itemiterator_next.lookup,k⟩
 next:=fun L aF i x F st s O hm r w e1 hx K E E' k=>nomatch hx
 stop:=fun L i F st s hm r w e1 hx K E k=>by
  have e:s.heap.get? d=some emptyDict:=r.hm _ hm
  exact wpAny_pyNext_items_end (knd:=strKind g.prog g.w) (kvs:=[]) g.hh e1 (yW g.prog g.w e) rfl fun h' hs=>have hk:=fun b o hb e=>hs b o (FV hb) e;k h' hk (r.keepsBut w hk s.toks id)
theorem vl{v d:Addr}(h1:(v,AO.obj (lX d))∈st.mem)(h2:(d,AO.obj emptyDict)∈st.mem):dw g (.val (.ref v)) st st (fun O=>True) (fun mem=> (d,AO.obj emptyDict)∈mem) []:=fun F s u r hv K E k=>by
 cases(hv:_=_)
 have e1:s.heap.get? v=some (lX d):=r.hm _ h1
 have e2:s.heap.get? d=some emptyDict:=r.hm _ h2
 refine wpAny_pyIter_items (knd:=strKind g.prog g.w) (kvs:=[]) ⟨_,e1,rfl,rfl⟩ (yW g.prog g.w e2) ?_
 have r2:=r.keeps (h':=s.heap.push {cls:= .type "dict_itemiterator",data:= .fields #[.none,.bool false,.ref d,.int 0 0,.int 0 0,.int 0 0,.none,.none] }) (fun b o' e=>Heap.get?_push_of_some _ e) s.toks id
 exact k F _ [s.heap.objs.size] _ _ (FM.le.refl _) (xr d _) r2 (r.away (bV (N1 _))) (Heap.get?_push_size _ rfl)
theorem GU{Oq x:Str}{a:Addr}(hm:(a,AO.list [.str x])∈st.mem)(h1:x.length<1000000)(h2:Oq.length<1000000)(h:Q (.str x) st):Wl g VR (fun vs=>call (.builtin "str.join") vs) [.str Oq,.val (.ref a)] st Q:=Gm fun F s v u r hv hu K E k=>by
 obtain⟨t,rfl⟩:=hv;cases(hu:_=_)
 obtain⟨⟨items⟩,hl,hi⟩:=rt r.toRepM hm
 obtain⟨w,_,e1,⟨tx,rfl⟩,e2⟩:=hi
 cases(e2:_=_);cases(e1:items=_)
 exact abq PySem.F.slot_str_join (abm s Oq t) PySem.F.entry_str_join (PySem.F.args_str_join_2 _ _) (meets_str_join_list Oq t a [(x,tx)] (show decide (0+x.length+Oq.length > sizeLine)=false from Yk (ZE.mpr (E2 (ZQ (show 0+x.length≤1000000 from(YQ x.length).symm▸YA h1) (YA h2)) (E1 rfl:1000000+1000000≤sizeLine))))) ⟨hl,k F (.str x) _ st _ (FM.le.refl _) r (BH ..) h⟩
end
end
section
theorem yX{F:FM}(hv:VR F y v):∀ {as:List (Str×AV)} {bs:List (Str×Value)},BR F as bs→BR F (as++ [(x,y)]) (bs++ [(x,v)])
 | [],_,e=>by cases(e:_=_);exact⟨v,_,rfl,hv,rfl⟩
 |(n,z)::r,_,e=>by
  obtain⟨u,t,rfl,h1,h2⟩:=e
  exact⟨u,_,rfl,h1,yX hv h2⟩
theorem Lc{g:Gd}(hn:1≤g.n){a:Addr}{f:FI}{qual:Str}{dV kV:Value}{xs:List AV}{kn:List Str}{f_:List AV}{mem:Mem}{Q:AV→Mem→Prop}(hf:FnAt g.K a f qual dV kV)
  (kw:Str) (as:List (Str×AV)) (ls:Addr→dL) (body:List Stmt) (fC:f.body= .stmts body)
  (i4:∀(F:FM) (s:Shared) vs kvs doc pm an d9 ct,be F xs vs→be F f_ kvs→∃bs,bindArgs (fnX f.name qual f.params body f.scope [] dV kV doc pm an d9 ct) ⟨vs,kn.zip kvs⟩=(alloc emptyDict >>= fun d=>pure (bs++ [(kw,.ref d)]))∧BR F as bs)
  (qG:List (Str×NameKind)) (yH:lM f.scope.names qG=true)
  (i3:∀d:Addr,((as++ [(kw,AV.val (.ref d))]).all fun x=>decide (f.scope.names.lookup x.1=some .local)||decide (f.scope.names.lookup x.1=some .cell))=true)
  (M1:∀d,((ls d).map fun p=> (p.1,lK (f.scope.names.lookup ·) (as++ [(kw,AV.val (.ref d))]) (fun O=>none) p.1))=ls d) (Ca:∀d,decide (((ls d).map (·.1)).Nodup)=true) (Cb:decide (((cellsFrom 0 f.scope.names []).map (·.1)).Nodup)=true)
  (h:∀(g':Gd) L d env,fB g g'→bI g' env→Kn env qG (cellsFrom (L+1) f.scope.names [])→(∀x,env.kindOf x=f.scope.names.lookup x)→to g a env→
   W0 g' FR (execs body env) ⟨ls d,cS (cellsFrom (L+1) f.scope.names []) (lL (f.scope.names.lookup ·) (as++ [(kw,AV.val (.ref d))]) fun O=>none)++((d,.obj emptyDict)::mem)⟩ (Ends mem Q))
  (M2:f.scope.isCoroutine=false) (KN:f.scope.isGenerator=false) (hk:f.scope.kind= .function):WC g (.val (.ref a)) xs kn f_ mem Q:=by
 intro F s fv vs kvs r KO hv hG R k
 cases(KO:_=_)
 obtain⟨o,NC,doc,pm,an,d9,ct,Jb,ho,hd,BK⟩:=hf
 cases fC.symm.trans Jb
 obtain⟨bs,R6,KL⟩:=i4 F s vs kvs doc pm an d9 ct hv hG
 refine⟨kj (r.bO _ _ ho) hd,codeAny_call_function (Yv (Yl _ _) g.hd) (r.bO _ _ ho) hd M2 KN rfl ((BK.Ue r).at r) ?_⟩
 rw[R6]
 refine E5 (wpAny_alloc (N7 ?_))
 have r1:=r.xm (m2:=[]) (r.keeps (h':=s.heap.push emptyDict) (fun b o' e=>Heap.get?_push_of_some _ e) s.toks id) (a:=s.heap.objs.size) (ao:= .obj emptyDict) (Option.eq_none_iff_forall_ne_some.mpr fun O e=>aai _ (Heap.lt_size e)) (fun O hp=>nomatch hp) (Heap.get?_push_size _ rfl)
 exact uP hn r1 (yX (nH ..) KL) hk yH (i3 _) (M1 _) (Ca _) Cb (fun g' env b e N kd h1 h2=>h g' _ _ env b e N kd ⟨o,_,ho,hd,h1,h2⟩) k
end
section
inductive jb:AV→Prop
 | none:jb .none
 | bool (b:Bool):jb (.bool b)
 | int (i:Int):jb (.int i)
 | str (x:Str):jb (.str x)
section
variable {g:Gd}{env:Env}{st:AS}
theorem kW{e pos}(h:W0 g VR (eval e env) st fun v aN=>jb v∧Q .next aN)(hi:interactive env=false)(hs:swapsWith e none pos.line env=pure false):
  W0 g FR (exec (.Expr e pos) env) st Q:=fun F s rr K E k=>wpAny_Expr (h F s rr _ E fun F1 a u aN s1 l1 r1 v1 h1=>by
   obtain⟨hn,h1⟩:=h1
   have key:=k F1 .next .next aN s1 l1 r1 rfl h1
   cases hn with
   | none=>cases(v1:_=_);exact key
   | bool b=>cases(v1:_=_);exact key
   | int i=>obtain⟨t,rfl⟩:=v1;exact key
   | str x=>obtain⟨t,rfl⟩:=v1;exact key) hi hs
theorem GW{p q:Addr×AO}{l:Mem}(nd:(l.map (·.1)).Nodup)(hp:p∈l)(hq:q∈l)(e:p.1=q.1):p=q:=by
 induction l with
 | nil=>cases hp
 | cons y ys ih=>
  have nd:=YG.mp nd
  rcases J0.mp hp with h1 | h1
  ·exact(J0.mp hq).elim (fun h2=>h1.trans h2.symm) fun h2=> (nd.1 (N5.mpr ⟨q,h2,e.symm.trans (E8 (·.1) h1)⟩)).elim
  ·exact(J0.mp hq).elim (fun h2=> (nd.1 (N5.mpr ⟨p,h1,e.trans (E8 (·.1) h2)⟩)).elim) (ih nd.2 h1)
theorem o0{C N x dx:Addr}{mN:Str→Option Value}{vars:dL}(X:vg g.K C N mN)(Sz:mN name=none)(hB:typeLookup (.type "object") name=pure none)(h1:(x,AO.shell C dx)∈mem)(u:Upd mem dx (.inst .none []) (.inst .none [(name,v)]) mem')(h:Q () ⟨vars,mem'⟩):
  W2 g UR (fun o w=>setAttr o name w) (.val (.ref x)) v ⟨vars,mem⟩ Q:=fun F s w0 w r hu hw K E k=>by
 cases(hu:_=_)
 obtain⟨m,I,hy⟩:=xo r.toRepM h1 u.mem
 cases(funext hy:m=fun O=>none)
 obtain⟨nm,q,bs,sn,sub,col,dd,k0,k1,k2,k3,k5,hC,ns⟩:=r.toRepM.cls X
 obtain⟨oC,Wg⟩:=X.hC
 obtain⟨ox,hx,SF,Wh,SG,fY⟩:=r.hm _ h1
 have px:=r.ap _ h1
 have pd:=r.ap _ u.mem
 obtain⟨Rg,gs,d,t,os⟩:=s
 refine cQ (store_attr PySem.F.store_object hC ns X.sa Sz hB (fun e=>qM px.2 (show F.f x=_ from e▸r.hK _ _ Wg)) I (fun h' XN I' hk Ot jW=>k F () () _ _ (FM.le.refl _) ?_ trivial h) Within.nil (YK _))
 have kk:∀b o,b≠x→b≠dx→Rg.get? b=some o→h'.get? b=some o:=fun b o h1 h2 e=>
  hk b o h1 (fun o₀ d' e₀ ed=>by cases hx.symm.trans e₀;cases SG.symm.trans ed;exact h2) e
 obtain⟨o₁,e₁,c₁,Us,_,Jv⟩:=Ot ox hx
 have J:=CO I' e₁ (Jv dx SG)
 have off:∀ {f:PM},f x=none→f dx=none→(∀a o,f a=some o→Rg.get? a=some o)→∀b o,f b=some o→h'.get? b=some o:=fun h1 h2 hf b o e=>kk b o (fun q=>qM h1 (q▸e)) (fun q=>qM h2 (q▸e)) (hf b o e)
 have all:∀ {P:Addr→Prop},(∀p∈mem,P p.1)→∀p∈mem',P p.1:=fun h p hp=>let⟨q,hq,e⟩:=u.nI hp;e▸h q hq
 exact
  {hP:=off px.1 pd.1 r.hP,hF:=off px.2 pd.2 r.hF,hK:=r.hK,pf:=r.pf
   hm:=fun p hp=>by
    rcases u.apart r.nd p hp with rfl |⟨hq,SH⟩
    ·refine⟨_,J.2.2.2,fun y=>?_⟩
     rw[YX]
     cases hb:y==name with
     | true=>rw[X6 (eq_of_beq hb)];exact⟨w,rfl,hw⟩
     | false=>rw[X5 (ZO.mp hb)];rfl
    ·by_cases Ut:p.1=x
     ·cases GW r.nd hq h1 Ut
      exact⟨o₁,e₁,J.1,J.2.1,Jv dx SG,fY⟩
     ·have y:=r.hm p hq
      exact y.there.elim fun ob e=>y.mono (FM.le.refl _) ((kk _ _ Ut SH e).trans e.symm)
   ap:=all (P:=fun a=>F.P a=none∧F.f a=none) r.ap
   nd:=u.keys▸r.nd
   tk:=J3 r.tk jW,gens:=r.gens,os:=r.os
   tab:=fun t ht=>have y:=r.tab t ht;y.rec fun O e O O=>y.mono (FM.le.refl _) ((kk _ _ (fun q=> (r.cM t ht).2.2 _ h1 q.symm) (fun q=> (r.cM t ht).2.2 _ u.mem q.symm) e).trans e.symm)
   cM:=fun t ht=> ⟨(r.cM t ht).1,(r.cM t ht).2.1,all (P:=(·≠t.1)) (r.cM t ht).2.2⟩
   ns:=let⟨m,x',y⟩:=r.ns;⟨m,x'.at' fun o e=>kk _ o (fun q=>r.fX _ h1 q.symm) (fun q=>r.fX _ u.mem q.symm) e,y⟩
   nv:=r.nv,gH:=r.gH,gL:=r.gL
   fX:=all (P:=(·≠g.L)) r.fX
   gI:=r.gI }
end
end
section
theorem o8{a:Addr}:∀(F:FM) (w:Value),VR F (.val (.ref a)) w→handedOut w=pure w:=fun F w h=>by cases(h:_=_);rfl
theorem xt:∀(F:FM) (w:Value),VR F (.lst l) w→handedOut w=pure w:=fun F w h=>by obtain⟨a,i,n,rfl⟩:=h;rfl
end
section
section
variable {g:Gd}{env:Env}{st:AS}{α β:Type}
theorem Le{a:Addr}{xs:List PyData}{e:PyData}(hm:(a,AO.list (kU xs))∈st.mem)(hd:noDicts xs=true)(he:noDict e=true)(sd:shaped (.list xs)=true)(se:shaped e=true)(h8:8≤g.n)(h:Q (.bool (eqv (.list xs) e)) st):
  W2 g VR (compareOp .Eq) (.val (.ref a)) (qT e) st Q:=fun F s v u r hv hu K E k=>by
 cases(hv:_=_)
 obtain⟨items,n,eh,hi⟩:=r.hm _ hm
 obtain⟨as,ha⟩:=eP r.hF xs items.toList hd hi
 obtain⟨bs,hb⟩:=cU r.hF e u he hu
 exact PyProof.Rows.eq_dataH (.list eh rfl rfl ha) hb sd se (oY g h8 (N1 64)) (k F _ _ st s (FM.le.refl _) r (ot ..) h)
end
end
section
section
variable {prog:Program}{w:World}{A:Around}{E:Value→Shared→Prop}
theorem rH{it t:Addr}{items:Array Value}(fY:t≠it):∀(l:List Value) (i:Nat) (s:Shared) (Q:List Value→Shared→Prop),items.toList.drop i=l→s.heap.IsListIter it t i→s.heap.IsList t items→
  (∀h',h'.IsListIter it t (i+l.length)→Heap.SameBut it s.heap h'→Q l {s with heap:=h' })→wpAny (model prog w) A (draw (.ref it) l.length) Q E s
 | [],i,s,Q,_,i7,_,hQ=>N7 (hQ s.heap i7 (Heap.SameBut.refl ..))
 | x::l,i,s,Q,e,i7,ht,hQ=>by
  have hx:items[i]? =some x:=Array.getElem?_toList.symm.trans ((E8 (· +0) rfl▸abC (xs:=items.toList) (i:=i) (j:=0)).symm.trans (E8 (·[0]?) e))
  exact E5 (aa7 i7 ht hx fun h₁ xu di=>E5 (Yz (rH fY l (i+1) _ _ (List.tail_drop.symm.trans (E8 List.tail e)) xu (ht.extBut di.extBut fY) fun h₂ Lf gP=>N7 (hQ h₂ (aaH i l.length▸Lf) (di.trans gP)))))
theorem vm{s:Shared}{t:Addr}{items:Array Value}{Q:List Value→Shared→Prop}(hh:A.handled=none)(ht:s.heap.IsList t items)
  (hQ:∀h',Heap.ExtBut s.heap.objs.size s.heap h'→Q items.toList {s with heap:=h' }):wpAny (model prog w) A (unpackItems (.ref t) items.size none) Q E s:=by
 have dK:t≠s.heap.objs.size:=ht.elim fun o ho=>Yp (Heap.lt_size ho.1)
 unfold unpackItems notIterableAtAll
 refine E5 (E5 (wpAny_specialOf ht.typeIs F.slot_list_iter.lookup (N7 ?_)))
 refine E5 (Yz (abI ht ?_))
 refine E5 (Yz (rH dK items.toList 0 _ _ rfl ⟨_,Heap.get?_push_size _ rfl,rfl,rfl⟩ (ht.push _) fun h₁ xu di=>?_))
 rw[X5 (show ¬ items.toList.length<items.size from aai _)]
 exact E5 (Yz (abk hh xu ((ht.push _).extBut di.extBut dK) (aao (X7 (YQ _).symm)) fun h₂ Ou=>N7 (hQ h₂ fun b o hb e=>Ou b o hb (di.extBut b o hb (Heap.get?_push_of_some _ e)))))
end
section
variable {g:Gd}{env:Env}{st:AS}{α β:Type}
theorem nC{df x1 pos}(h:M4 g env df xs st Q)(hn:(assignEach df env).length=xs.length)(Cw:(assignEach df env).findIdx? (·.1)=none):
  W1 g UR (assign (.Tuple df x1 pos) env) (.lst xs) st Q:=fun F s v r hv K E k=>by
 obtain⟨a,items,n,rfl,e,hi⟩:=hv
 rw[arm_assign_Tuple]
 refine E5 (Zx ?_)
 unfold unpack
 rw[hn.trans hi.size.symm,Cw]
 exact E5 (Yz (vm g.hh ⟨_,r.hF _ _ e,rfl,n,rfl⟩ fun h' hx=>h F _ items.toList (r.ext hx) hi K E k))
theorem GY{l:List AV}{k:Int}(h0:1≤k)(h1:k≤l.length)(hsz:l.length≤sizeLine)(h:Q (.tup (l.drop k.toNat)) st):W2 g VR getItem (.tup l) (.fx (.int k) .none .none) st Q:=fun F s v u r hv hu K E kk=>by
 obtain⟨a,items,n,rfl,e,hi⟩:=hv
 obtain⟨b,p,q,t,rfl,e2,Ov,h2,h3⟩:=hu
 obtain⟨tk,rfl⟩:=Ov
 cases(h2:_=_);cases(h3:_=_)
 obtain⟨m,rfl⟩:=Zc (Y' (by decide) h0)
 have r4:=r.alloc (o:=gv (items.toList.drop m).toArray 0) rfl s.toks id
 exact getItem_tuple_from (uQ ⟨_,r.hF _ _ e,rfl,n,rfl⟩) ⟨_,r.hF _ _ e2,rfl,rfl⟩ (YH.mp h0) (hi.size▸YH.mp h1) (kk _ _ _ st _ r4.2.1 r4.1 (Q5 r4.2.2 ((hi.drop m).mono r4.2.1)) h) (hi.size▸hsz)
theorem CT{F:FM}:∀(ns:List Int) (vs:List Value),be F (ns.map .int) vs→∃as,ReadsAll h vs (ns.map PyData.int) as
 | [],_,hv=>by cases(hv:_=_);exact⟨_,.nil⟩
 | n::ns,_,hv=>iW.rec (motive:=fun O=> ∃as,ReadsAll h _ (.int n::ns.map PyData.int) as) (fun v r e h1 h2=>ZS h1 fun t e1=>e▸e1▸(CT (h:=h) ns r h2).imp fun as ha=> .cons (.int _ _) ha) hv
theorem Ow:∀l:List Int,canLayAll0 (l.map .int)=true
 | []=>rfl
 | _::r=>Ow r
theorem Ox:∀l:List Int,depthAll (l.map .int)=0
 | []=>rfl
 | _::r=> (Nat.zero_max _).trans (Ox r)
theorem Oy(k:Int):∀l:List Int,((l.map PyData.int).any fun y=>eqv y (.int k))=l.contains k
 | []=>rfl
 | x::r=>by
  rw[Ye,abG,Oy k r,List.contains_cons]
  exact E8 (· ||_) (show(x==k)=(k==x) from Zs.mpr ⟨fun h=>Y1.mpr (eq_of_beq h).symm,fun h=>Y1.mpr (eq_of_beq h).symm⟩)
theorem Lg{a:Addr}{l:List Int}{k:Int}(hm:(a,AO.list (l.map .int))∈st.mem)(h8:8≤g.n)(h:Q (.bool (!l.contains k)) st):W2 g VR (compareOp .NotIn) (.int k) (.val (.ref a)) st Q:=fun F s v u r hv hu K E kk=>by
 cases(hu:_=_)
 obtain⟨t,rfl⟩:=hv
 obtain⟨items,n,eh,hi⟩:=r.hm _ hm
 obtain⟨as,ha⟩:=CT (h:=s.heap) l items.toList hi
 refine aby (.list eh rfl rfl ha) (.int _ _) (Ow l) rfl ?_ (kk F _ _ st s (FM.le.refl _) r (ot ..) (Oy k l▸h))
 rw[Ox,Nat.zero_min]
 exact oY g h8 (E1 rfl)
theorem Rep.weak{F:FM}{vars:dL}{a:Addr}(r:Rep g F ⟨vars,mem⟩ s)(u:Upd mem a (.list l) (.bq l) mem'):Rep g F ⟨vars,mem'⟩ s:=
 have all:∀ {P:Addr→Prop},(∀p∈mem,P p.1)→∀p∈mem',P p.1:=fun h p hp=>let⟨q,hq,e⟩:=u.nI hp;e▸h q hq
 {hP:=r.hP,hF:=r.hF,hK:=r.hK,pf:=r.pf,tk:=r.tk,gens:=r.gens,os:=r.os,tab:=r.tab
  hm:=fun p hp=>by
   rcases u.apart r.nd p hp with rfl |⟨hp,_⟩
   ·exact rt r.toRepM u.mem
   ·exact r.hm _ hp
  ap:=all (P:=fun a=>F.P a=none∧F.f a=none) r.ap
  nd:=u.keys▸r.nd
  cM:=fun t ht=> ⟨(r.cM t ht).1,(r.cM t ht).2.1,all (P:=(·≠t.1)) (r.cM t ht).2.2⟩
  ns:=r.ns,nv:=r.nv,gH:=r.gH,gL:=r.gL,fX:=all (P:=(·≠g.L)) r.fX,gI:=r.gI }
end
end
section
section
variable {prog:Program}{w:World}{A:Around}{E:Value→Shared→Prop}{s:Shared}
noncomputable def nD(a b c:UInt64):Nat→UInt64
 | 0=>a
 | 1=>b
 | _=>c
noncomputable def mP(bt:UInt64→UInt64→Bool)(a b c:UInt64):UInt64:=if bt b a then(if bt c b then c else b) else(if bt c a then c else a)
noncomputable def GZ(a b c:UInt64)(t u x:Tok):Array Value:= #[.float a t,.float b u,.float c x]
noncomputable def Lh(t u x:Tok):Nat→Tok
 | 0=>t
 | 1=>u
 | _=>x
theorem kX{a b c:UInt64}{t u x:Tok}{i:Nat}(h:(GZ a b c t u x)[i]? =some v):v= .float (nD a b c i) (Lh t u x i):=by
 cases i with
 | zero=>exact(YB h).symm
 | succ i=>cases i with
  | zero=>exact(YB h).symm
  | succ i=>cases i with
   | zero=>exact(YB h).symm
   | succ i=>exact nomatch (aao (YR 3 i)).symm.trans h
theorem Oz(bt:UInt64→UInt64→Bool)(a b c:UInt64):nD a b c (argBest (fun i j=>bt (nD a b c i) (nD a b c j)) 2)=mP bt a b c:=by
 show nD a b c (if bt c (nD a b c (if bt b a=true then 1 else 0))=true then 2 else if bt b a=true then 1 else 0)=if bt b a=true then(if bt c b=true then c else b) else(if bt c a=true then c else a)
 cases bt b a with
 | true=>
  show nD a b c (if bt c b=true then 2 else 1)=if bt c b=true then c else b
  cases bt c b <;> rfl
 | false=>
  show nD a b c (if bt c a=true then 2 else 0)=if bt c a=true then c else a
  cases bt c a <;> rfl
theorem vn{t u x:Tok}(h1:t≠0)(h2:u≠0)(h3:x≠0):∀i,0<Lh t u x i
 | 0=>aaG h1
 | 1=>aaG h2
 | _+2=>aaG h3
theorem Jw(bt:UInt64→UInt64→Bool)(op:CmpOp){a b c:UInt64}{t u x:Tok}{Q:Value→Shared→Prop}(hh:A.handled=none)(hc:CmpOf prog w A.in1 op (fun i v=> (GZ a b c t u x)[i]? =some v) (fun i j=>bt (nD a b c i) (nD a b c j)))
  (h:∀h' tk i,(∀d o,s.heap.get? d=some o→h'.get? d=some o)→Q (.float (mP bt a b c) (Lh t u x i)) {s with heap:=h',toks:=tk }):
  wpAny (model prog w) A.in1 (pyIter (.ref s.heap.objs.size)) (fun it s₂=> ∃I fp wr n P St bt,it= .ref I∧Walks prog w A.in1 I fp wr n P St∧St 0 s₂.heap∧(∀b∈fp,b<s₂.heap.objs.size)∧0<n∧CmpOf prog w A.in1 op P bt∧
   ∀v h' tk,P (argBest bt (n - 1)) v→(∀b o,b∉wr→s₂.heap.get? b=some o→h'.get? b=some o)→Q v {s₂ with heap:=h',toks:=tk }) E
   {s with heap:=s.heap.push {cls:= .type "tuple",data:= .seq #[.float a t,.float b u,.float c x] } }:=by
 have hT:(s.heap.push {cls:= .type "tuple",data:= .seq #[.float a t,.float b u,.float c x] }).IsTuple s.heap.objs.size (GZ a b c t u x):=⟨_,Heap.get?_push_size _ rfl,rfl,0,rfl⟩
 have hsz:(s.heap.push {cls:= .type "tuple",data:= .seq #[.float a t,.float b u,.float c x] }).objs.size=s.heap.objs.size+1:=Heap.size_push ..
 refine aak hT ⟨_,[_,s.heap.objs.size],[_],_,_,_,_,rfl,Walks.tuple (A:=A.in1) hh _ s.heap.objs.size (hsz▸Yp (Y4 _)) (GZ a b c t u x),⟨⟨_,Heap.get?_push_size _ rfl,rfl,rfl⟩,hT.push _⟩,?_,ZF _,hc,fun v h' tk hP hk=>?_⟩
 ·rw[show((s.heap.push {cls:= .type "tuple",data:= .seq #[.float a t,.float b u,.float c x] }).push _).objs.size=s.heap.objs.size+1+1 from Heap.size_push .. |>.trans (E8 (· +1) hsz),hsz]
  exact X_.mpr ⟨Y4 _,bV (Zf (Y4 _))⟩
 ·rw[kX hP]
  have e:=h h' tk (argBest (fun i j=>bt (nD a b c i) (nD a b c j)) 2) fun d o e=>hk d o (fun hm=>Yp (Zf (Heap.lt_size e)) ((X8.mp hm).trans hsz)) (Heap.get?_push_of_some _ (Heap.get?_push_of_some _ e))
  rw[← Oz] at e
  exact e
end
section
variable {g:Gd}{env:Env}{st:AS}
theorem Li{a b:UInt64}(h:Q (.aT (add a b)) st):W2 g VR (binaryOp .Add) (.aT a) (.aT b) st Q:=fun F s v u r hv hu K E k=>by
 obtain⟨t,rfl,_⟩:=hv;obtain⟨t',rfl,_⟩:=hu
 exact add_float (k F _ _ st _ (FM.le.refl _) (r.tok _ tp) (BG _ _ _ r.tk) h)
theorem Lj{a b:UInt64}(h:Q (.aT (Float64.sub a b)) st):W2 g VR (binaryOp .Sub) (.aT a) (.aT b) st Q:=fun F s v u r hv hu K E k=>by
 obtain⟨t,rfl,_⟩:=hv;obtain⟨t',rfl,_⟩:=hu
 exact sub_float (k F _ _ st _ (FM.le.refl _) (r.tok _ tp) (BG _ _ _ r.tk) h)
theorem Ll{a b:UInt64}(h:Q (.aT (mul a b)) st):W2 g VR (binaryOp .Mult) (.aT a) (.aT b) st Q:=fun F s v u r hv hu K E k=>by
 obtain⟨t,rfl,_⟩:=hv;obtain⟨t',rfl,_⟩:=hu
 exact mul_float (k F _ _ st _ (FM.le.refl _) (r.tok _ tp) (BG _ _ _ r.tk) h)
theorem Lm{a b:UInt64}(hz:isZero b=false)(h:Q (.aT (div a b)) st):W2 g VR (binaryOp .Div) (.aT a) (.aT b) st Q:=fun F s v u r hv hu K E k=>by
 obtain⟨t,rfl,_⟩:=hv;obtain⟨t',rfl,_⟩:=hu
 exact truediv_float_or g.hh (fun e=>absurd (hz.symm.trans e) Yt) fun O=>k F _ _ st _ (FM.le.refl _) (r.tok _ tp) (BG _ _ _ r.tk) h
theorem Ln{a b:UInt64}(hz:isZero b=false)(h:Q (.aT (divmod a b).2) st):W2 g VR (binaryOp .Mod) (.aT a) (.aT b) st Q:=fun F s v u r hv hu K E k=>by
 obtain⟨t,rfl,_⟩:=hv;obtain⟨t',rfl,_⟩:=hu
 exact PySem.Flt.mod_ff g.hh (fun e=>absurd (hz.symm.trans e) Yt) fun O=>k F _ _ st _ (FM.le.refl _) (r.tok _ tp) (BG _ _ _ r.tk) h
theorem OA{a b:UInt64}(h:Q (.bool (Float64.cmp a b==some .eq)) st):W2 g VR (compareOp .Eq) (.aT a) (.aT b) st Q:=fun F s v u r hv hu K E k=>by
 obtain⟨t,rfl,_⟩:=hv;obtain⟨t',rfl,_⟩:=hu
 exact AutoFloatOps.eq_0 (k F _ _ st _ (FM.le.refl _) r (ot ..) h)
theorem OB{a b:UInt64}(h:Q (.bool (Float64.cmp a b==some .lt||Float64.cmp a b==some .eq)) st):W2 g VR (compareOp .LtE) (.aT a) (.aT b) st Q:=fun F s v u r hv hu K E k=>by
 obtain⟨t,rfl,_⟩:=hv;obtain⟨t',rfl,_⟩:=hu
 exact AutoFloatOps.le_0 (k F _ _ st _ (FM.le.refl _) r (ot ..) h)
theorem G0{a:UInt64}{n:Int}(hn:isInf (ofInt n)=false)(h:Q (.aT (Float64.sub a (ofInt n))) st):W2 g VR (binaryOp .Sub) (.aT a) (.int n) st Q:=fun F s v u r hv hu K E k=>by
 obtain⟨t,rfl,_⟩:=hv;obtain⟨t',rfl⟩:=hu
 exact sub_fi_or g.hh (fun e=>absurd (hn.symm.trans e) Yt) fun O=>k F _ _ st _ (FM.le.refl _) (r.tok _ tp) (BG _ _ _ r.tk) h
theorem G1{a:UInt64}{n:Int}(hn:isInf (ofInt n)=false)(h:Q (.aT (add a (ofInt n))) st):W2 g VR (binaryOp .Add) (.aT a) (.int n) st Q:=fun F s v u r hv hu K E k=>by
 obtain⟨t,rfl,_⟩:=hv;obtain⟨t',rfl⟩:=hu
 exact add_fi_or g.hh (fun e=>absurd (hn.symm.trans e) Yt) fun O=>k F _ _ st _ (FM.le.refl _) (r.tok _ tp) (BG _ _ _ r.tk) h
theorem G2{a:UInt64}{n:Int}(hn:isInf (ofInt n)=false)(h:Q (.aT (mul a (ofInt n))) st):W2 g VR (binaryOp .Mult) (.aT a) (.int n) st Q:=fun F s v u r hv hu K E k=>by
 obtain⟨t,rfl,_⟩:=hv;obtain⟨t',rfl⟩:=hu
 exact mul_fi_or g.hh (fun e=>absurd (hn.symm.trans e) Yt) fun O=>k F _ _ st _ (FM.le.refl _) (r.tok _ tp) (BG _ _ _ r.tk) h
noncomputable def bU(a b:Nat):UInt64:=ofFrac false a b
theorem OD{a b:Int}(h0:0≤a)(h1:a<1000000)(hb:0<b)(h:Q (.aT (bU a.toNat b.toNat)) st):W2 g VR (binaryOp .Div) (.int a) (.int b) st Q:=fun F s v u r hv hu K E k=>by
 obtain⟨t,rfl⟩:=hv;obtain⟨t',rfl⟩:=hu
 obtain⟨a,rfl⟩:=Zc h0
 obtain⟨b,rfl⟩:=Zc (Z9 hb)
 refine PySem.Flt.div_ii_fits g.hh (J3 (J3 (Yd.mp h1) (E1 rfl:1000000≤2 ^ 20)) (abr (ZF 1) (E1 rfl))) (fun e=>absurd e (Int.ne_of_gt hb)) fun O O=>k F _ _ st _ (FM.le.refl _) (r.tok _ tp) (BG _ _ _ r.tk) ?_
 rw[Yk (YI.mpr h0),Yk (YI.mpr (Z9 hb))]
 exact h
noncomputable def bZ(x:UInt64):Int:=match decode x with
 | .fin sg m e=>Float64.truncOf sg m e
 | _=>0
theorem Ax{x:UInt64}(hf:isFinite x=true)(h:Q (.int (bZ x)) st):Wl g VR (fun vs=>call (.type "int") vs) [.aT x] st Q:=uV fun F s v r hv K E k=>by
 obtain⟨t,rfl,_⟩:=hv
 unfold bZ at h
 unfold isFinite at hf
 cases hd:decode x with
 | fin sg m e=>
  rw[hd] at h
  exact call_int_float hd (k F _ _ st _ (FM.le.refl _) (r.tok _ fun O=>ZF _) (rj ..) h)
 | _=>rw[hd] at hf;cases hf
theorem Lo{a b c:UInt64}(h:Q (.aT (mP Float64.gt a b c)) st):Wl g VR (fun vs=>call (.builtin "max") vs) [.aT a,.aT b,.aT c] st Q:=fun F s vs r hv K E k=>by
 obtain⟨_,_,rfl,⟨t,rfl,h1⟩,_,_,rfl,⟨u,rfl,h2⟩,_,_,rfl,⟨x,rfl,h3⟩,h4⟩:=hv
 cases(h4:_=_)
 exact cQ (call_max_three (Jw (prog:=g.prog) (w:=g.w) (a:=a) (b:=b) (c:=c) (t:=t) (u:=u) (x:=x) (Q:=fun v s'=>s.toks≤s'.toks→K v s') Float64.gt .Gt g.hh (fun i j vi vj s Q E hi hj h=>by rw[kX hi,kX hj];exact AutoFloatOps.gt_0 h) fun h' tk i Lp jW=>k F _ _ st _ (FM.le.refl _) (r.keeps Lp tk fun O=>J3 r.tk jW) (BG _ _ _ (vn h1 h2 h3 i)) h))
theorem Lq{a b c:UInt64}(h:Q (.aT (mP Float64.lt a b c)) st):Wl g VR (fun vs=>call (.builtin "min") vs) [.aT a,.aT b,.aT c] st Q:=fun F s vs r hv K E k=>by
 obtain⟨_,_,rfl,⟨t,rfl,h1⟩,_,_,rfl,⟨u,rfl,h2⟩,_,_,rfl,⟨x,rfl,h3⟩,h4⟩:=hv
 cases(h4:_=_)
 exact cQ (call_min_three (Jw (prog:=g.prog) (w:=g.w) (a:=a) (b:=b) (c:=c) (t:=t) (u:=u) (x:=x) (Q:=fun v s'=>s.toks≤s'.toks→K v s') Float64.lt .Lt g.hh (fun i j vi vj s Q E hi hj h=>by rw[kX hi,kX hj];exact AutoFloatOps.lt_0 h) fun h' tk i Lp jW=>k F _ _ st _ (FM.le.refl _) (r.keeps Lp tk fun O=>J3 r.tk jW) (BG _ _ _ (vn h1 h2 h3 i)) h))
end
end
section
section
variable {prog:Program}{w:World}{A:Around}{E:Value→Shared→Prop}{s:Shared}
theorem G3{M:Model}{x:UInt64}{t u:Tok}{Q:Bool→Shared→Prop}(ht:t≠0)(hu:u≠0)(hb:NoneBooked s.heap)(hq:∀b,Q b s):wpAny M A (isSame (.float x t) (.float x u)) Q E s:=by
 show wpAny M A (isSame.created (x==x&&!Float64.isNaN x) t u) Q E s
 unfold isSame.created
 refine wpAny_ite ?_
 split
 ·next h=>exact(aaz.mp h).elim (fun h=>absurd (eq_of_beq h) ht) fun h=>absurd (eq_of_beq h) hu
 refine wpAny_ite ?_
 split
 ·exact N7 (hq _)
 refine wpAny_ite ?_
 split
 ·exact N7 (hq _)
 refine E5 (wpAny_sharingNotTold_none hb (E5 (wpAny_sharingNotTold_none hb ?_)))
 exact E5 (aaS (E5 (wpAny_askSetting (N7 (hq _)))))
theorem CU{x:UInt64}(h:Float64.isNaN x=false):(Float64.cmp x x==some .eq)=true:=by
 unfold Float64.isNaN at h
 unfold Float64.cmp
 cases hd:decode x with
 | nan=>rw[hd] at h;cases h
 | inf a=>cases a <;> decide
 | fin a m e=>
  exact E8 (some · ==some Ordering.eq) (Std.ReflCmp.compare_self (cmp:=(compare:Int→Int→Ordering)))
theorem CV{x:UInt64}{t u:Tok}(ht:t≠0)(hu:u≠0)(hb:NoneBooked s.heap)(hx:Float64.isNaN x=false):EqAt A s (.float x t) (.float x u) true:=fun prog w E Q hq=>by
 unfold eqBool
 refine Yz ?_
 refine wpAny_ite_split (fun SI=>?_) (fun SI=>?_)
 ·exact E5 (aaS (N7 hq))
 ·refine E5 (G3 ht hu hb fun b=>?_)
  cases b
  ·refine E5 (AutoFloatOps.eq_0 ?_)
   rw[CU hx]
   exact wpAny_truthy_bool hq
  ·exact N7 hq
end
section
variable {g:Gd}{env:Env}{st:AS}
def NB(g:Gd):Prop:= ∀h:Heap,(∀a o,g.K.f a=some o→h.get? a=some o)→NoneBooked h
inductive SJ(a b c:UInt64)(l:List Value):Prop
 | mk (t u x:Tok) (h1:t≠0) (h2:u≠0) (h3:x≠0) (e:l=[.float a t,.float b u,.float c x])
theorem OE{F:FM}{a b c:UInt64}{l:List Value}(h:be F [.aT a,.aT b,.aT c] l):SJ a b c l:=by
 obtain⟨_,_,rfl,⟨t,rfl,h1⟩,_,_,rfl,⟨u,rfl,h2⟩,_,_,rfl,⟨x,rfl,h3⟩,h4⟩:=h
 cases(h4:_=_)
 exact⟨t,u,x,h1,h2,h3,rfl⟩
theorem Lr{a b c:UInt64}(Wi:NB g)(ha:Float64.isNaN a=false)(hb:Float64.isNaN b=false)(hc:Float64.isNaN c=false)(h:Q (.bool true) st):W2 g VR (compareOp .Eq) (.tup [.aT a,.aT b,.aT c]) (.tup [.aT a,.aT b,.aT c]) st Q:=fun F s v u r hv hu K E k=>by
 have nb:=Wi _ r.bO
 obtain⟨l,⟨items⟩,n,rfl,h1,i1⟩:=hv
 obtain⟨l',⟨Ls⟩,n',rfl,Ov,i2⟩:=hu
 obtain⟨t1,t2,t3,z1,z2,z3,e1⟩:=OE i1
 obtain⟨u1,u2,u3,y1,y2,y3,e2⟩:=OE i2
 cases(e1:items=_);cases(e2:Ls=_)
 refine PySem.SeqAt.eq_tupleAt (e:=fun O=>true) ⟨_,r.hF _ _ h1,rfl,n,rfl⟩ ⟨_,r.hF _ _ Ov,rfl,n',rfl⟩ (Yv (Yl ..) g.hu) (fun j j1 j2=>?_) (k F _ _ st s (FM.le.refl _) r (ot ..) h)
 cases j with
 | zero=>exact CV z1 y1 nb ha
 | succ j=>cases j with
  | zero=>exact CV z2 y2 nb hb
  | succ j=>cases j with
   | zero=>exact CV z3 y3 nb hc
   | succ j=>exact absurd j1 (ZE.mpr (YR 3 j))
end
end
section
section
variable {g:Gd}{env:Env}{st:AS}
theorem G4{i:Nat}{rest:List Nat}(ho:Builtin.Str.occurrences x y 0 x.length 1=i::rest)(h:Q (.int i) st):Wl g VR (fun vs=>call (.builtin "str.index") vs) [.str x,.str y] st Q:=Gm fun F s v u r hv hu K E k=>by
 obtain⟨t,rfl⟩:=hv;obtain⟨t',rfl⟩:=hu
 exact call_gives PySem.F.slot_str_index (abm s x t) PySem.F.entry_str_index (PySem.F.args_str_index_2 _ _) (gives_str_index x y t t' i rest ho) (k F _ _ st _ (FM.le.refl _) (r.tok _ tp) (rj ..) h)
theorem yY{a b:Int}(h0:0≤a)(h1:a<1000000):IntMulOk a b:=IntMulOk.of_left (by
 obtain⟨a,rfl⟩:=Zc h0
 unfold Builtin.Int.intBits
 split
 ·exact YK _
 ·next hz=>exact(Nat.log2_lt fun e=>hz (Y1.mpr (E8 Int.ofNat e))).mpr (J3 (Yd.mp h1) (E1 rfl)))
end
end
section
section
variable {g:Gd}{env:Env}{st:AS}
theorem vo{F:FM}:∀(ws:List Str) (t:Nat),be F (ws.map .str) (strsFrom t ws)
 | [],_=>iX
 | _::r,t=>f6 (BH ..) (vo r (t+1))
theorem G5{ws:List Str}(hw:PySem.wordsOf x=ws)(h1:(Builtin.Str.spaceWords x (x.length+1)==[(0,x.length)])=false)(hx:x.length≤100000)(hn:ws.length≤100000)(h:Q (.lst (ws.map .str)) st):Wl g VR (fun vs=>call (.builtin "str.split") vs) [.str x] st Q:=uV fun F s v r hv K E k=>by
 obtain⟨t,rfl⟩:=hv
 subst hw
 have hl:(100000:Nat)≤sizeLine:=E1 rfl
 refine abq PySem.F.slot_str_split (abm s x t) PySem.F.entry_str_split (PySem.F.args_str_split_1 _) (meets_str_split_space x t (E2 hx hl) (E2 (X7 (E7 (as:=Builtin.Str.spaceWords x (x.length+1)) _).symm) (E2 hn hl))) ?_
 show(if(Builtin.Str.spaceWords x (x.length+1)==[(0,x.length)])=true then _ else _)
 rw[h1]
 have y:=r.alloc (o:= {cls:= .type "list",data:= .seq (strsFrom s.toks (PySem.wordsOf x)).toArray }) rfl (s.toks+(Builtin.Str.spaceWords x (x.length+1)).length) fun h=>J3 h (Yl _ _)
 exact k _ _ _ st _ y.2.1 y.1 (Ky y.2.2 (vo _ s.toks)) h
theorem be.flat{F:FM}{vs:List Value}(h:be F l vs):∀n,be F (replicate n l).flatten (replicate n vs).flatten
 | 0=>iX
 | n+1=>h.append (be.flat h n)
theorem Lu{l:List AV}{x:Int}(h0:0≤x)(h1:x<1000)(hsz:l.length≤1000)(h:Q (.lst (replicate x.toNat l).flatten) st):W2 g VR (binaryOp .Mult) (.lst l) (.int x) st Q:=fun F s v u r hv hu K E k=>by
 obtain⟨a,items,n,rfl,ha,hi⟩:=hv
 obtain⟨t,rfl⟩:=hu
 have hl:=r.hF _ _ ha
 have hb:items.size*x.toNat≤1000*1000:=abz (hi.size▸hsz) (Int.toNat_le.mpr (Z9 h1))
 refine wpAny_binaryOp_repeat_ref (T:= "list") (U:= "int") (by decide) ⟨_,hl,rfl⟩ (fun s'=>typeIs_int s' x t) noFill_list_mul PySem.F.fills_int_mul PySem.F.slot_int_rmul repeat_list PySem.F.slot_int_index.lookup
  (abq PySem.F.slot_int_rmul (typeIs_int s x t) PySem.F.entry_int_rmul (PySem.F.args_int_rmul_2 _ _) (int___rmul___int_list x t a items n)
   ⟨hl,rfl,⟨_,hl,rfl⟩,abq PySem.F.slot_list_mul ⟨_,hl,rfl⟩ PySem.F.entry_list_mul (PySem.F.args_list_mul_2 _ _)
    (AutoListH.list___mul___list_int_3 a items n x t (by rw[fitsIdx (n:=1000) h0 (Z9 h1) (E1 rfl)];exact Yt) (ZE.mpr (E2 hb (E1 rfl))) fun h=>ZE.mpr (E2 hb (E1 rfl:1000*1000≤sizeLine)) (Yr h))
    ⟨hl,?_⟩⟩)
 rw[listMul_foldl_if]
 have y:=r.alloc (o:= {cls:= .type "list",data:= .seq (replicate x.toNat items.toList).flatten.toArray }) rfl s.toks id
 exact k _ _ _ st _ y.2.1 y.1 (Ky y.2.2 ((hi.flat x.toNat).mono y.2.1)) h
theorem Lv{a:Addr}{xs:List PyData}{e:PyData}(hm:(a,AO.list (kU xs))∈st.mem)(hd:noDicts xs=true)(he:noDict e=true)(sd:shaped (.list xs)=true)(se:shaped e=true)(h8:8≤g.n)(h:Q (.bool (!eqv (.list xs) e)) st):
  W2 g VR (compareOp .NotEq) (.val (.ref a)) (qT e) st Q:=fun F s v u r hv hu K E k=>by
 cases(hv:_=_)
 obtain⟨items,n,eh,hi⟩:=r.hm _ hm
 obtain⟨as,ha⟩:=eP r.hF xs items.toList hd hi
 obtain⟨bs,hb⟩:=cU r.hF e u he hu
 exact PyProof.Rows.ne_dataH (.list eh rfl rfl ha) hb sd se (oY g h8 (N1 64)) (k F _ _ st s (FM.le.refl _) r (ot ..) h)
end
end
section
section
noncomputable abbrev eJ:=Nat→Addr
inductive RV where
 | v (x:AV)
 | r (k:Nat)
 | b (x:BI)
 | f (fi:FI) (q:Str) (fZ:List (Str×Nat))
 deriving Inhabited
noncomputable def ah(ρ:eJ):RV→AV
 | .v x=>x
 | .r k=> .val (.ref (ρ k))
 | .b x=> .val x.val
 | .f fi q fZ=> .fn fi q (fZ.map fun p=> (p.1,ρ p.2))
inductive EO where
 | list (l:List AV)
 | bq (l:List AV)
 | cell (v:Option RV)
 | any (n:Nat) (m:List Addr→Mem)
noncomputable def lY(ρ:eJ)(n:Nat):Nat→List Addr:=n.rec (fun O=>[]) fun O ih k=>ρ k::ih (k+1)
noncomputable def EO.mem(ρ:eJ)(k:Nat):EO→Mem
 | .list l=>[(ρ k,.list l)]
 | .bq l=>[(ρ k,.bq l)]
 | .cell v=>[(ρ k,.cell (v.map (ah ρ)))]
 | .any n m=>m (lY ρ n k)
noncomputable abbrev Os:=List (Nat×EO)
noncomputable abbrev Vs:=List (Option RV)
inductive Hint where
 | nil
 | v (x:AV) (k:Hint)
 | b (c:Bool) (k:Hint)
 | a (k:Hint)
 | sp (t e:Hint)
 | mv (z:RV) (t e k:Hint)
 | call (x:RV) (outs:Os) (k:Hint)
 | loop (I:Nat→Prop) (vs:Nat→Vs) (os:Nat→Os) (h:Nat→AV→Hint) (k:Hint)
 | wh (n:Nat) (vs:Nat→Vs) (os:Nat→Os) (h:Nat→Hint) (k:Hint)
 | f (f:AV→Option AV) (h:AV→Hint) (k:Hint)
structure S where
 vs:Vs
 os:Os
 h:Hint
noncomputable def mQ{α:Type}(l:List α):Nat→Option α:=l.rec (fun O=>none) fun x O ih i=>i.casesOn (some x) ih
theorem c_{α:Type}{x:α}{l:List α}:∀ {i:Nat},mQ l i=some x→x∈l:=by
 induction l with
 | nil=>intro i h;cases h
 | cons y t ih=>
  intro i h
  cases i with
  | zero=>cases h;exact E6
  | succ n=>exact E4 _ (ih h)
noncomputable def hd(l:Vs):Option RV:=l.casesOn none fun x O=>x
noncomputable def tl(l:Vs):Vs:=l.casesOn [] fun O t=>t
noncomputable def tL(n:Nat)(v:RV):Vs→Vs:=n.rec (fun l=>some v::tl l) fun O ih l=>hd l::ih (tl l)
noncomputable def CW(n:Nat):Vs→Option RV:=n.rec hd fun O ih l=>ih (tl l)
noncomputable def cB(ρ:eJ)(xs:List Str):Vs→dL:=xs.rec (fun O=>[]) fun x O ih l=> (x,(hd l).map (ah ρ))::ih (tl l)
theorem o9{xs:List Str}:∀ {vs:Vs} {i:Nat},mQ xs i=some x→CW i vs=some v→(x,some (ah ρ v))∈cB ρ xs vs:=by
 induction xs with
 | nil=>intro vs i h;cases h
 | cons y t ih=>
  intro vs i h h'
  cases i with
  | zero=>
   cases h
   have:hd vs=some v:=h'
   show _∈(x,(hd vs).map (ah ρ))::cB ρ t (tl vs)
   rw[this];exact E6
  | succ n=>exact E4 _ (ih (vs:=tl vs) h h')
theorem vp{xs:List Str}:∀ {vs:Vs} {i:Nat},mQ xs i=some x→∃o,Upd (cB ρ xs vs) x o (some (ah ρ v)) (cB ρ xs (tL i v vs)):=by
 induction xs with
 | nil=>intro vs i h;cases h
 | cons y t ih=>
  intro vs i h
  cases i with
  | zero=>cases h;exact⟨_,.here⟩
  | succ n=>exact(ih (vs:=tl vs) h).imp fun O u=> .there u
noncomputable def aI(ρ:eJ)(os:Os):Mem:=os.rec [] fun p O ih=>p.2.mem ρ p.1++ih
noncomputable def dO(k:Nat)(os:Os):Option EO:=os.rec none fun p O ih=>cond (beq p.1 k) (some p.2) ih
noncomputable def gS(k:Nat)(o:EO)(os:Os):Os:=os.rec [] fun p t ih=>cond (beq p.1 k) ((p.1,o)::t) (p::ih)
noncomputable def GV.rv:GV→RV
 | .b x=> .b x
 | .v x=> .v (.val x)
 | .i n _=> .v (.int n)
structure Cx where
 names:List (Str×NameKind)
 loc:List Str
 d7:List (Str×NameKind×Nat)
 qU:List Nat
 gx:List (Str×GV)
 pin:Nat
 full:Bool
 lam:List (Addr×Str)
structure Ctx extends Cx where
 g:Gd
structure cz(C:Ctx)(ρ:eJ)(env:Env):Prop where
 e:bI C.g env
 N:∃cs,Kn env C.names cs∧∀p∈C.d7,(p.1,ρ p.2.2)∈cs
 hl:∀x∈C.loc,(x,NameKind.local)∈C.names
 hc:∀p∈C.d7,(p.1,p.2.1)∈C.names∧p.2.2<C.pin
 hg:∀i∈C.qU,∀p,mQ C.gx i=some p→(p.1,globalImplicit)∈C.names
 hx:∀p∈C.gx,j5 C.g p.1 p.2.val
 h8:8≤C.g.n
 nb:NB C.g
 kd:C.full=true→∀x,env.kindOf x=C.names.lookup x
 lm:∀p∈C.lam,yV C.g env p.1 p.2
noncomputable def tr(C:Ctx)(ρ:eJ)(M:Mem)(s:S):AS:=⟨cB ρ C.loc s.vs,aI ρ s.os++M⟩
theorem Wk.refl{g:Gd}{st:AS}:Wk g st st:=fun F s r=> ⟨F,FM.le.refl F,r⟩
theorem Wk.trans(x:Wk g a b)(y:Wk g b c):Wk g a c:=fun F s r=>
 let⟨F1,l1,r1⟩:=x F s r
 let⟨F2,l2,r2⟩:=y F1 s r1
 ⟨F2,l1.trans l2,r2⟩
section
variable {g:Gd}{st cg:AS}{α β:Type}{R:FM→β→α→Prop}
theorem W0.weak{t:Sem α}{Q:β→AS→Prop}(w:Wk g st cg)(h:W0 g R t cg Q):W0 g R t st Q:=fun F s r K E k=>
 let⟨F1,l1,r1⟩:=w F s r
 h F1 s r1 K E fun F' b a a8 s2 l2=>k F' b a a8 s2 (l1.trans l2)
end
inductive PV(C:Ctx)(ρ:eJ)(M:Mem)(K:RV→S→Prop):AV→AS→Prop
 | mk {rv s st} (w:Wk C.g st (tr C ρ M s)) (k:K rv s):PV C ρ M K (ah ρ rv) st
inductive PB(C:Ctx)(ρ:eJ)(M:Mem)(K:Bool→S→Prop):Bool→AS→Prop
 | mk {b s st} (w:Wk C.g st (tr C ρ M s)) (k:K b s):PB C ρ M K b st
inductive PU(C:Ctx)(ρ:eJ)(M:Mem)(K:S→Prop):Unit→AS→Prop
 | mk {s st} (w:Wk C.g st (tr C ρ M s)) (k:K s):PU C ρ M K () st
inductive PL(C:Ctx)(ρ:eJ)(M:Mem)(K:List RV→S→Prop):List AV→AS→Prop
 | mk {rs s st} (w:Wk C.g st (tr C ρ M s)) (k:K rs s):PL C ρ M K (rs.map (ah ρ)) st
section
variable {C:Ctx}{ρ:eJ}{M:Mem}{st:AS}{α β:Type}
theorem cA{t:Sem Value}{K:RV→S→Prop}{G:AV→AS→Prop}(h:W0 C.g VR t st (PV C ρ M K))(f:∀rv s,K rv s→G (ah ρ rv) (tr C ρ M s)):W0 C.g VR t st G:=fun F s r K' E k=>h F s r K' E fun F' b a cg s' l r hb q=>by
 obtain⟨w,q⟩:=q
 obtain⟨F2,l2,r2⟩:=w F' s' r
 exact k F2 _ a _ s' (l.trans l2) r2 (hb.mono l2) (f _ _ q)
theorem vq{t:Sem Bool}{K:Bool→S→Prop}(h:W0 C.g RQ t st (PB C ρ M K))(f:∀b s,K b s→G b (tr C ρ M s)):W0 C.g RQ t st G:=fun F s r K' E k=>h F s r K' E fun F' b a cg s' l r hb q=>by
 obtain⟨w,q⟩:=q
 obtain⟨F2,l2,r2⟩:=w F' s' r
 exact k F2 _ a _ s' (l.trans l2) r2 hb (f _ _ q)
theorem qV{t:Sem (List Value)}{K:List RV→S→Prop}{G:List AV→AS→Prop}(h:W0 C.g be t st (PL C ρ M K))(f:∀rs s,K rs s→G (rs.map (ah ρ)) (tr C ρ M s)):W0 C.g be t st G:=fun F s r K' E k=>h F s r K' E fun F' b a cg s' l r hb q=>by
 obtain⟨w,q⟩:=q
 obtain⟨F2,l2,r2⟩:=w F' s' r
 exact k F2 _ a _ s' (l.trans l2) r2 (hb.mono l2) (f _ _ q)
theorem pv{K:RV→S→Prop}{rv:RV}{s:S}(k:K rv s):PV C ρ M K (ah ρ rv) (tr C ρ M s):= .mk Wk.refl k
theorem dY{K:RV→S→Prop}{x:AV}{s:S}(k:K (.v x) s):PV C ρ M K x (tr C ρ M s):=pv k
theorem pb{K:Bool→S→Prop}{b:Bool}(k:K b s):PB C ρ M K b (tr C ρ M s):= .mk Wk.refl k
end
abbrev gT(b:Bool)(K:Prop):Prop:=cond b K False
theorem aC{b:Bool}{K:Prop}(h:gT b K):b=true∧K:=by cases b;exact h.elim;exact⟨rfl,h⟩
def mI(a:RV)(f:Int→Prop)(d:Prop):Prop:=a.casesOn (fun x=>x.casesOn d (fun O=>d) (fun i=>f i) (fun O=>d) (fun O=>d) (fun O=>d) (fun O=>d) (fun O=>d) (fun O O O=>d) (fun O O O=>d) (fun O O O=>d)) (fun O=>d) (fun O=>d) fun O O O=>d
def mS(a:RV)(f:Str→Prop)(d:Prop):Prop:=a.casesOn (fun x=>x.casesOn d (fun O=>d) (fun O=>d) (fun O=>d) (fun i=>f i) (fun O=>d) (fun O=>d) (fun O=>d) (fun O O O=>d) (fun O O O=>d) (fun O O O=>d)) (fun O=>d) (fun O=>d) fun O O O=>d
def mL(a:RV)(f:List AV→Prop)(d:Prop):Prop:=a.casesOn (fun x=>x.casesOn d (fun O=>d) (fun O=>d) (fun O=>d) (fun O=>d) (fun O=>d) (fun O=>d) (fun i=>f i) (fun O O O=>d) (fun O O O=>d) (fun O O O=>d)) (fun O=>d) (fun O=>d) fun O O O=>d
def mT(a:RV)(f:List AV→Prop)(d:Prop):Prop:=a.casesOn (fun x=>x.casesOn d (fun O=>d) (fun O=>d) (fun O=>d) (fun O=>d) (fun O=>d) (fun i=>f i) (fun O=>d) (fun O O O=>d) (fun O O O=>d) (fun O O O=>d)) (fun O=>d) (fun O=>d) fun O O O=>d
def mB(a:RV)(f:Bool→Prop)(d:Prop):Prop:=a.casesOn (fun x=>x.casesOn d (fun i=>f i) (fun O=>d) (fun O=>d) (fun O=>d) (fun O=>d) (fun O=>d) (fun O=>d) (fun O O O=>d) (fun O O O=>d) (fun O O O=>d)) (fun O=>d) (fun O=>d) fun O O O=>d
def mF(a:RV)(f:UInt64→Prop)(d:Prop):Prop:=a.casesOn (fun x=>x.casesOn d (fun O=>d) (fun O=>d) (fun i=>f i) (fun O=>d) (fun O=>d) (fun O=>d) (fun O=>d) (fun O O O=>d) (fun O O O=>d) (fun O O O=>d)) (fun O=>d) (fun O=>d) fun O O O=>d
def mN(a:RV)(f:Prop)(d:Prop):Prop:=a.casesOn (fun x=>x.casesOn f (fun O=>d) (fun O=>d) (fun O=>d) (fun O=>d) (fun O=>d) (fun O=>d) (fun O=>d) (fun O O O=>d) (fun O O O=>d) (fun O O O=>d)) (fun O=>d) (fun O=>d) fun O O O=>d
def mV(a:RV)(f:AV→Prop)(d:Prop):Prop:=a.casesOn f (fun O=>d) (fun O=>d) fun O O O=>d
def mR(a:RV)(f:Nat→Prop)(d:Prop):Prop:=a.casesOn (fun O=>d) f (fun O=>d) fun O O O=>d
def mG(a:RV)(f:BI→Prop)(d:Prop):Prop:=a.casesOn (fun O=>d) (fun O=>d) f fun O O O=>d
section
variable {a:RV}{d:Prop}{P:RV→Prop}
theorem fh{f:Int→Prop}(h:mI a f d)(h1:∀i,f i→P (.v (.int i)))(h2:d→P a):P a:=by cases a with | v x=> (cases x with | int i=>exact h1 _ h | _=>exact h2 h) | _=>exact h2 h
theorem gi{f:Str→Prop}(h:mS a f d)(h1:∀i,f i→P (.v (.str i)))(h2:d→P a):P a:=by cases a with | v x=> (cases x with | str i=>exact h1 _ h | _=>exact h2 h) | _=>exact h2 h
theorem gU{f:List AV→Prop}(h:mL a f d)(h1:∀i,f i→P (.v (.lst i)))(h2:d→P a):P a:=by cases a with | v x=> (cases x with | lst i=>exact h1 _ h | _=>exact h2 h) | _=>exact h2 h
theorem rI{f:List AV→Prop}(h:mT a f d)(h1:∀i,f i→P (.v (.tup i)))(h2:d→P a):P a:=by cases a with | v x=> (cases x with | tup i=>exact h1 _ h | _=>exact h2 h) | _=>exact h2 h
theorem CX{f:Bool→Prop}(h:mB a f d)(h1:∀i,f i→P (.v (.bool i)))(h2:d→P a):P a:=by cases a with | v x=> (cases x with | bool i=>exact h1 _ h | _=>exact h2 h) | _=>exact h2 h
theorem rJ{f:UInt64→Prop}(h:mF a f d)(h1:∀i,f i→P (.v (.aT i)))(h2:d→P a):P a:=by cases a with | v x=> (cases x with | aT i=>exact h1 _ h | _=>exact h2 h) | _=>exact h2 h
theorem yZ{f:Prop}(h:mN a f d)(h1:f→P (.v .none))(h2:d→P a):P a:=by cases a with | v x=> (cases x with | none=>exact h1 h | _=>exact h2 h) | _=>exact h2 h
theorem dQ{f:AV→Prop}(h:mV a f d)(h1:∀i,f i→P (.v i))(h2:d→P a):P a:=by cases a with | v x=>exact h1 _ h | _=>exact h2 h
theorem jc{f:Nat→Prop}(h:mR a f d)(h1:∀i,f i→P (.r i))(h2:d→P a):P a:=by cases a with | r x=>exact h1 _ h | _=>exact h2 h
theorem y0{f:BI→Prop}(h:mG a f d)(h1:∀i,f i→P (.b i))(h2:d→P a):P a:=by cases a with | b x=>exact h1 _ h | _=>exact h2 h
end
end
end
section
section
def hV(s:S)(f:AV→S→Prop):Prop:=s.h.casesOn False (fun x k=>f x ⟨s.vs,s.os,k⟩) (fun O O=>False) (fun O=>False) (fun O O=>False) (fun O O O O=>False) (fun O O O=>False) (fun O O O O O=>False) (fun O O O O O=>False) (fun O O O=>False)
def hB(s:S)(f:Bool→S→Prop):Prop:=s.h.casesOn False (fun O O=>False) (fun x k=>f x ⟨s.vs,s.os,k⟩) (fun O=>False) (fun O O=>False) (fun O O O O=>False) (fun O O O=>False) (fun O O O O O=>False) (fun O O O O O=>False) (fun O O O=>False)
def hA(s:S)(f:S→Prop)(d:Prop):Prop:=s.h.casesOn False (fun O O=>d) (fun O O=>d) (fun k=>f ⟨s.vs,s.os,k⟩) (fun O O=>d) (fun O O O O=>d) (fun O O O=>d) (fun O O O O O=>d) (fun O O O O O=>d) (fun O O O=>d)
def SK(s:S)(f:Bool→S→Prop)(d:Prop):Prop:=s.h.casesOn d (fun O O=>d) (fun x k=>f x ⟨s.vs,s.os,k⟩) (fun O=>d) (fun O O=>d) (fun O O O O=>d) (fun O O O=>d) (fun O O O O O=>d) (fun O O O O O=>d) (fun O O O=>d)
section
variable {s:S}{R:Prop}
theorem CY{f:Bool→S→Prop}{d:Prop}(h:SK s f d)(k:∀x k,f x ⟨s.vs,s.os,k⟩→R)(k2:d→R):R:=by
 obtain⟨vs,os,k'⟩:=s
 cases k' with | b x k'=>exact k x k' h | _=>exact k2 h
theorem gj{f:AV→S→Prop}(h:hV s f)(k:∀x k,f x ⟨s.vs,s.os,k⟩→R):R:=by
 obtain⟨vs,os,k'⟩:=s
 cases k' with | v x k'=>exact k x k' h | _=>exact h.elim
theorem y4{f:Bool→S→Prop}(h:hB s f)(k:∀x k,f x ⟨s.vs,s.os,k⟩→R):R:=by
 obtain⟨vs,os,k'⟩:=s
 cases k' with | b x k'=>exact k x k' h | _=>exact h.elim
theorem y5{f:S→Prop}{d:Prop}(h:hA s f d)(k:∀k,f ⟨s.vs,s.os,k⟩→R)(k2:d→R):R:=by
 obtain⟨vs,os,k'⟩:=s
 cases k' with | a k'=>exact k k' h | nil=>exact h.elim | _=>exact k2 h
end
def br(b:Bool)(s:S)(T F:S→Prop):Prop:=s.h.casesOn False (fun O O=>False) (fun c k=>b=c∧cond c (T ⟨s.vs,s.os,k⟩) (F ⟨s.vs,s.os,k⟩)) (fun k=>cond b (T ⟨s.vs,s.os,k⟩) (F ⟨s.vs,s.os,k⟩))
 (fun t e=> (b=true→T ⟨s.vs,s.os,t⟩)∧(b=false→F ⟨s.vs,s.os,e⟩)) (fun O O O O=>False) (fun O O O=>False) (fun O O O O O=>False) (fun O O O O O=>False) (fun O O O=>False)
theorem rK{b:Bool}{T F:S→Prop}{P:Bool→Prop}(h:br b s T F)(h1:∀k,T ⟨s.vs,s.os,k⟩→P true)(h2:∀k,F ⟨s.vs,s.os,k⟩→P false):P b:=by
 obtain⟨vs,os,k⟩:=s
 cases k with
 | b c k=> (obtain⟨rfl,h⟩:=h;cases b with | true=>exact h1 k h | false=>exact h2 k h)
 | a k=>cases b with | true=>exact h1 k h | false=>exact h2 k h
 | sp t e=>cases b with | true=>exact h1 t (h.1 rfl) | false=>exact h2 e (h.2 rfl)
 | _=>exact h.elim
structure Lw(e:Expr)(ai sw:Bool):Prop where
 st:∀rest env,starEach (e::rest) env=(false,eval e env)::starEach rest env
 bm:∀op,behindInMarks op e=false
 fs:∀env x,foldedSetIterable e env x=pure x
 ab:ai=true→∀nm env whole,attributeBase e nm env whole=whole
 sp:sw=true→∀t l env,swapsWith e t l env=pure false
structure SE(C:Ctx) where
 e:Expr
 ev:S→(RV→S→Prop)→Prop
 tv:S→(Bool→S→Prop)→Prop
 ai:Bool
 sw:Bool
 ok:∀ {ρ env M s K},cz C ρ env→ev s K→W0 C.g VR (eval e env) (tr C ρ M s) (PV C ρ M K)
 tok:∀ {ρ env M s K},cz C ρ env→tv s K→W0 C.g RQ (isTrue e env (eval e env)) (tr C ρ M s) (PB C ρ M K)
 fm:Lw e ai sw
section
variable {C:Ctx}{ρ:eJ}{env:Env}{M:Mem}{s:S}
def vt(a:RV)(s:S)(K:Bool→S→Prop):Prop:=mB a (fun b=>K b s)<|mI a (fun i=>K (i !=0) s)<|mS a (fun x=>x.length≤sizeLine∧K ((x.length:Int) !=0) s)<|mN a (K false s) False
theorem kY{K:Bool→S→Prop}(h:vt a s K):W1 C.g RQ truthy (ah ρ a) (tr C ρ M s) (PB C ρ M K):=
 CX (P:=fun a=>W1 C.g RQ truthy (ah ρ a) (tr C ρ M s) (PB C ρ M K)) h (fun b h=>aX (pb h)) fun h=>fh (P:=fun a=>W1 C.g RQ truthy (ah ρ a) (tr C ρ M s) (PB C ρ M K)) h (fun b h=>tt (pb h)) fun h=>gi (P:=fun a=>W1 C.g RQ truthy (ah ρ a) (tr C ρ M s) (PB C ρ M K)) h (fun b h=>tE h.1 (pb h.2)) fun h=>yZ (P:=fun a=>W1 C.g RQ truthy (ah ρ a) (tr C ρ M s) (PB C ρ M K)) h (fun h=>gA (pb h)) False.elim
noncomputable def SE.vu(e:Expr)(ev:S→(RV→S→Prop)→Prop)(ok:∀ {ρ env M s K},cz C ρ env→ev s K→W0 C.g VR (eval e env) (tr C ρ M s) (PV C ρ M K))
  (he:∀env,isTrue e env (eval e env)=(do let v ← eval e env;standAt e.pos;holding [v] (truthy v)):=by exact fun O=>rfl) (fm:Lw e true true:=by exact⟨fun O O=>rfl,fun O=>rfl,fun O O=>rfl,fun O O O O=>rfl,fun O O O O=>rfl⟩):SE C:=
 ⟨e,ev,fun s K=>ev s fun a s1=>vt a s1 K,true,true,ok,fun fr h=>bE (cA (ok fr h) fun O O h=>kY h) (he _),fm⟩
noncomputable def nP(x:Str)(l a:Nat):Pos:=⟨l,a,l,a+x.length⟩
noncomputable def ig(a b:Pos)(i j:Nat):Pos:=⟨a.line,a.col - i,b.endLine,b.endCol+j⟩
noncomputable def SE.p(x:SE C):Pos:=x.e.pos
noncomputable def fP(l:List (SE C)):Pos:=l.casesOn default fun x O=>x.p
noncomputable def lP(l:List (SE C)):Pos:=l.foldl (fun O x=>x.p) default
noncomputable def cP(f:Pos)(l:List (SE C)):Pos:=l.casesOn (ig f f 0 2) fun O O=>ig f (lP l) 0 1
noncomputable def dP(n l a:Nat):Pos:=⟨l,a,l,a+cond (blt n 10) 1 2⟩
def oR{α:Type}(o:Option α)(f:α→Prop):Prop:=o.casesOn False f
theorem dj{α:Type}{o:Option α}{f:α→Prop}(h:oR o f):∃x,o=some x∧f x:=by cases o with | none=>exact h.elim | some x=>exact⟨x,rfl,h⟩
noncomputable def lD{α:Type}[Inhabited α](l:List α)(i:Nat):α:=(mQ l i).getD default
theorem ij{α:Type}[Inhabited α]{l:List α}{i:Nat}{x:α}(h:mQ l i=some x):lD l i=x:=by unfold lD;rw[h];rfl
noncomputable def SE.loc(i:Nat)(pos:Pos):SE C:=SE.vu (.Name (lD C.loc i) pos) (fun s K=>oR (mQ C.loc i) fun O=>oR (CW i s.vs) fun v=>K v s)
 fun {ρ env M s K} fr h=>by
  obtain⟨x,hx,h⟩:=dj h
  obtain⟨v,hv,h⟩:=dj h
  obtain⟨cs,N,_⟩:=fr.N
  rw[ij hx]
  exact aD N (fr.hl _ (c_ hx)) (gO fr.e (o9 hx hv) (pv h))
noncomputable def SE.lo(i l a:Nat):SE C:=SE.loc i (nP (lD C.loc i) l a)
def oC(o:Option EO)(f:Option RV→Prop):Prop:=o.casesOn False fun e=>e.casesOn (fun O=>False) (fun O=>False) f (fun O O=>False)
theorem CZ{o:Option EO}{f:Option RV→Prop}(h:oC o f):∃v,o=some (.cell v)∧f v:=by
 cases o with | none=>exact h.elim | some e=>cases e with | cell v=>exact⟨v,rfl,h⟩ | _=>exact h.elim
theorem dR{k:Nat}{o:EO}{os:Os}(h:dO k os=some o):∀p∈o.mem ρ k,p∈aI ρ os:=by
 induction os with
 | nil=>cases h
 | cons q t ih=>
  intro p hp
  have h':cond (beq q.1 k) (some q.2) (dO k t)=some o:=h
  show p∈q.2.mem ρ q.1++aI ρ t
  cases hb:beq q.1 k with
  | true=>rw[hb] at h';cases h';rw[YE hb];exact Yn _ hp
  | false=>rw[hb] at h';exact YL _ (ih h' p hp)
theorem C0(k:NameKind)(h:(k== .cell||k== .free)=true):k= .cell∨k= .free:=by cases k <;> first | exact .inl rfl | exact .inr rfl | cases h
noncomputable def SE.d7(i:Nat)(pos:Pos):SE C:=SE.vu (.Name (lD C.d7 i).1 pos) (fun s K=>oR (mQ C.d7 i) fun p=>gT (p.2.1== .cell||p.2.1== .free) (oC (dO p.2.2 s.os) fun o=>oR o fun v=>K v s))
 fun {ρ env M s K} fr h=>by
  obtain⟨x,hx,h⟩:=dj h
  obtain⟨hk,h⟩:=aC h
  obtain⟨o,ho,h⟩:=CZ h
  obtain⟨v,rfl,h⟩:=dj h
  obtain⟨cs,N,tn⟩:=fr.N
  rw[ij hx]
  have hm:=(fr.hc _ (c_ hx)).1
  have hc:=tn _ (c_ hx)
  have C1:(ρ x.2.2,AO.cell (some (ah ρ v)))∈(tr C ρ M s).mem:=Yn _ (dR ho _ E6)
  have hl:Ld C.g env C.names cs x.1 x.2.1 (tr C ρ M s) (PV C ρ M K):=by
   rcases C0 _ hk with e | e
   ·rw[e];exact ldc fr.e hc C1 (pv h)
   ·rw[e];exact Sd fr.e hc C1 (pv h)
  exact aD N hm hl
noncomputable def SE.ce(i l a:Nat):SE C:=SE.d7 i (nP (lD C.d7 i).1 l a)
noncomputable def SE.qU(i:Nat)(pos:Pos):SE C:=SE.vu (.Name (lD C.gx i).1 pos) (fun s K=>gT (C.qU.any (beq i)) (oR (mQ C.gx i) fun p=>K p.2.rv s))
 fun {ρ env M s K} fr h=>by
  obtain⟨hi,h⟩:=aC h
  obtain⟨x,hx,h⟩:=dj h
  obtain⟨cs,N,_⟩:=fr.N
  obtain⟨j,hj,Wj⟩:=YY.mp hi
  cases YE Wj
  rw[ij hx]
  have hm:=fr.hg _ hj _ hx
  have hg:=fr.hx _ (c_ hx)
  have G:Gg C.g [(x.1,x.2.val)]:=fun p hp=>by cases X8.mp hp;exact hg
  have hl:∀cs,Ld C.g env C.names cs x.1 .globalImplicit (tr C ρ M s) (PV C ρ M K):=fun cs=>by
   obtain⟨y,v⟩:=x
   cases v with
   | i n t=>exact So fr.e G E6 (pv h)
   | _=>exact Cj fr.e G E6 (pv h)
  exact aD N hm (hl _)
noncomputable def SE.gl(i l a:Nat):SE C:=SE.qU i (nP (lD C.gx i).1 l a)
noncomputable def SE.int(i:Int)(k:Nat)(pos:Pos):SE C:=SE.vu (.Constant (.int i) k pos) (fun s K=>K (.v (.int i)) s) fun fr h=>uN (pv h)
noncomputable def SE.str(i:Str)(k:Nat)(pos:Pos):SE C:=SE.vu (.Constant (.str i) k pos) (fun s K=>K (.v (.str i)) s) fun fr h=>I7 (pv h)
noncomputable def SE.nt(i l a:Nat):SE C:=SE.int i 0 (dP i l a)
noncomputable def SE.st(x:Str)(l a:Nat):SE C:=SE.str x 0 ⟨l,a,l,a+x.length+2⟩
noncomputable def SE.aT(i:UInt64)(k:Nat)(pos:Pos):SE C:=SE.vu (.Constant (.float i) k pos) (fun s K=>K (.v (.aT i)) s) fun fr h=>Nw (pv h)
noncomputable def SE.none(k:Nat)(pos:Pos):SE C:=SE.vu (.Constant .none k pos) (fun s K=>K (.v .none) s) fun fr h=>tb (pv h)
noncomputable def SE.bool(b:Bool)(k:Nat)(pos:Pos):SE C:=SE.vu (.Constant (.bool b) k pos) (fun s K=>K (.v (.bool b)) s) fun fr h=>iZ (pv h)
def oL(o:Option EO)(f:List AV→Prop)(d:Prop):Prop:=o.casesOn d fun e=>e.casesOn f (fun O=>d) (fun O=>d) (fun O O=>d)
def oW(o:Option EO)(f:List AV→Prop)(d:Prop):Prop:=o.casesOn d fun e=>e.casesOn (fun O=>d) f (fun O=>d) (fun O O=>d)
theorem j'{o:Option EO}{f:List AV→Prop}{d R:Prop}(h:oL o f d)(h1:∀l,o=some (.list l)→f l→R)(h2:d→R):R:=by
 cases o with | none=>exact h2 h | some e=>cases e with | list v=>exact h1 _ rfl h | _=>exact h2 h
theorem OF{o:Option EO}{f:List AV→Prop}{d R:Prop}(h:oW o f d)(h1:∀l,o=some (.bq l)→f l→R)(h2:d→R):R:=by
 cases o with | none=>exact h2 h | some e=>cases e with | bq v=>exact h1 _ rfl h | _=>exact h2 h
def la(a:RV)(s:S)(f:List AV→Prop)(d:Prop):Prop:=mL a f (mR a (fun k=>oL (dO k s.os) f d) d)
theorem o_{f:List AV→Prop}{d:Prop}{P:AV→Prop}(h:la a s f d)(ρ:eJ)(M:Mem)(h1:∀x l,cJ x l (tr C ρ M s).mem→f l→P x)(h2:d→P (ah ρ a)):P (ah ρ a):=
 gU (P:=fun a=> (d→P (ah ρ a))→P (ah ρ a)) h (fun l h O=>h1 (.lst l) l (.lst ..) h) (fun h=>jc (P:=fun a=> (d→P (ah ρ a))→P (ah ρ a)) h (fun k h h2=>j' h (fun l e' h=>h1 _ l (.mem (Yn _ (dR e' _ E6))) h) h2) fun h h2=>h2 h) h2
def lw(a:RV)(s:S)(f:List AV→Prop)(d:Prop):Prop:=mR a (fun k=>oW (dO k s.os) f d) d
theorem OG{f:List AV→Prop}{d:Prop}{P:RV→Prop}(h:lw a s f d)(ρ:eJ)(M:Mem)(h1:∀k l,(ρ k,AO.bq l)∈(tr C ρ M s).mem→f l→P (.r k))(h2:d→P a):P a:=
 jc (P:=fun a=> (d→P a)→P a) h (fun k h h2=>OF h (fun l e' h=>h1 k l (Yn _ (dR e' _ E6)) h) h2) (fun h h2=>h2 h) h2
end
end
end
section
section
section
variable {C:Ctx}{ρ:eJ}{env:Env}{M:Mem}{s:S}{α β:Type}
theorem Jx{f:Value→Value→Sem Value}{x y:AV}{st:AS}{K:RV→S→Prop}{G:AV→AS→Prop}(h:W2 C.g VR f x y st (PV C ρ M K))(k:∀rv s,K rv s→G (ah ρ rv) (tr C ρ M s)):W2 C.g VR f x y st G:=fun F s v u r hv hu K' E kk=>h F s v u r hv hu K' E fun F' b a cg s' l r hb q=>by
 obtain⟨w,q⟩:=q
 obtain⟨F2,l2,r2⟩:=w F' s' r
 exact kk F2 _ a _ s' (l.trans l2) r2 (hb.mono l2) (k _ _ q)
noncomputable abbrev Op:=RV→RV→S→(RV→S→Prop)→Prop
def ik(f:Value→Value→Sem Value)(o:Op):Prop:= ∀ {C ρ env M a b s K},cz C ρ env→o a b s K→W2 C.g VR f (ah ρ a) (ah ρ b) (tr C ρ M s) (PV C ρ M K)
def ii(a b:RV)(f:Int→Int→Prop)(d:Prop):Prop:=mI a (fun i=>mI b (f i) False) d
theorem eQ{f:Int→Int→Prop}{d:Prop}{P:RV→RV→Prop}(h:ii a b f d)(h1:∀i j,f i j→P (.v (.int i)) (.v (.int j)))(h2:d→P a b):P a b:=fh (P:=fun a=> (d→P a b)→P a b) h (fun i h h2=>fh h (fun j h=>h1 i j h) False.elim) (fun h h2=>h2 h) h2
def ff(a b:RV)(f:UInt64→UInt64→Prop)(d:Prop):Prop:=mF a (fun i=>mF b (f i) d) d
theorem kZ{f:UInt64→UInt64→Prop}{d:Prop}{P:RV→RV→Prop}(h:ff a b f d)(h1:∀i j,f i j→P (.v (.aT i)) (.v (.aT j)))(h2:d→P a b):P a b:=rJ (P:=fun a=> (d→P a b)→P a b) h (fun i h h2=>rJ h (fun j h=>h1 i j h) h2) (fun h h2=>h2 h) h2
def fi(a b:RV)(f:UInt64→Int→Prop)(d:Prop):Prop:=mF a (fun i=>mI b (f i) d) d
theorem C2{f:UInt64→Int→Prop}{d:Prop}{P:RV→RV→Prop}(h:fi a b f d)(h1:∀i j,f i j→P (.v (.aT i)) (.v (.int j)))(h2:d→P a b):P a b:=rJ (P:=fun a=> (d→P a b)→P a b) h (fun i h h2=>fh h (fun j h=>h1 i j h) h2) (fun h h2=>h2 h) h2
def ss(a b:RV)(f:Str→Str→Prop)(d:Prop):Prop:=mS a (fun i=>mS b (f i) d) d
theorem vv{f:Str→Str→Prop}{d:Prop}{P:RV→RV→Prop}(h:ss a b f d)(h1:∀i j,f i j→P (.v (.str i)) (.v (.str j)))(h2:d→P a b):P a b:=gi (P:=fun a=> (d→P a b)→P a b) h (fun i h h2=>gi h (fun j h=>h1 i j h) h2) (fun h h2=>h2 h) h2
noncomputable def Jy:Op:=fun a b s K=>ii a b (fun i j=>K (.v (.int (i+j))) s)<|ss a b (fun x y=>x.length+y.length≤sizeLine∧K (.v (.str (x++y))) s)<|
 ff a b (fun x y=>K (.v (.aT (add x y))) s)<|fi a b (fun x n=>isInf (ofInt n)=false∧K (.v (.aT (add x (ofInt n)))) s)<|
 la a s (fun l=>la b s (fun m=>l.length+m.length≤sizeLine∧K (.v (.lst (l++m))) s) False) False
theorem C3:ik (binaryOp .Add) Jy:=fun {C ρ env M a b s K} fr h=>
 eQ (P:=fun a b=>W2 C.g VR _ (ah ρ a) (ah ρ b) (tr C ρ M s) (PV C ρ M K)) h (fun O O h=>ND (dY h)) fun h=>vv (P:=fun a b=>W2 C.g VR _ (ah ρ a) (ah ρ b) (tr C ρ M s) (PV C ρ M K)) h (fun O O h=>KQ h.1 (dY h.2)) fun h=>
 kZ (P:=fun a b=>W2 C.g VR _ (ah ρ a) (ah ρ b) (tr C ρ M s) (PV C ρ M K)) h (fun O O h=>Li (dY h)) fun h=>C2 (P:=fun a b=>W2 C.g VR _ (ah ρ a) (ah ρ b) (tr C ρ M s) (PV C ρ M K)) h (fun O O h=>G1 h.1 (dY h.2)) fun h=>
 o_ (P:=fun x=>W2 C.g VR _ x (ah ρ b) (tr C ρ M s) (PV C ρ M K)) h ρ M (fun y l hl h=>o_ (P:=fun x=>W2 C.g VR _ y x (tr C ρ M s) (PV C ρ M K)) h ρ M (fun O m hm h=>Al hl hm h.1 (dY h.2)) False.elim) False.elim
noncomputable def Jz:Op:=fun a b s K=>ii a b (fun i j=>K (.v (.int (i - j))) s)<|ff a b (fun x y=>K (.v (.aT (Float64.sub x y))) s)<|fi a b (fun x n=>isInf (ofInt n)=false∧K (.v (.aT (Float64.sub x (ofInt n)))) s) False
theorem C4:ik (binaryOp .Sub) Jz:=fun {C ρ env M a b s K} fr h=>
 eQ (P:=fun a b=>W2 C.g VR _ (ah ρ a) (ah ρ b) (tr C ρ M s) (PV C ρ M K)) h (fun O O h=>NE (dY h)) fun h=>kZ (P:=fun a b=>W2 C.g VR _ (ah ρ a) (ah ρ b) (tr C ρ M s) (PV C ρ M K)) h (fun O O h=>Lj (dY h)) fun h=>C2 (P:=fun a b=>W2 C.g VR _ (ah ρ a) (ah ρ b) (tr C ρ M s) (PV C ρ M K)) h (fun O O h=>G0 h.1 (dY h.2)) False.elim
noncomputable def JA:Op:=fun a b s K=>ii a b (fun i j=>IntMulOk i j∧K (.v (.int (i*j))) s)<|ff a b (fun x y=>K (.v (.aT (mul x y))) s)<|fi a b (fun x n=>isInf (ofInt n)=false∧K (.v (.aT (mul x (ofInt n)))) s)<|
 mL a (fun l=>mI b (fun x=>0≤x∧x<1000∧l.length≤1000∧K (.v (.lst (replicate x.toNat l).flatten)) s) False) False
theorem C5:ik (binaryOp .Mult) JA:=fun {C ρ env M a b s K} fr h=>
 eQ (P:=fun a b=>W2 C.g VR _ (ah ρ a) (ah ρ b) (tr C ρ M s) (PV C ρ M K)) h (fun O O h=>NF h.1 (dY h.2)) fun h=>kZ (P:=fun a b=>W2 C.g VR _ (ah ρ a) (ah ρ b) (tr C ρ M s) (PV C ρ M K)) h (fun O O h=>Ll (dY h)) fun h=>C2 (P:=fun a b=>W2 C.g VR _ (ah ρ a) (ah ρ b) (tr C ρ M s) (PV C ρ M K)) h (fun O O h=>G2 h.1 (dY h.2)) fun h=>
 gU (P:=fun a=>W2 C.g VR _ (ah ρ a) (ah ρ b) (tr C ρ M s) (PV C ρ M K)) h (fun l h=>fh (P:=fun b=>W2 C.g VR _ (.lst l) (ah ρ b) (tr C ρ M s) (PV C ρ M K)) h (fun x h=>Lu h.1 h.2.1 h.2.2.1 (dY h.2.2.2)) False.elim) False.elim
noncomputable def JB:Op:=fun a b s K=>ii a b (fun i j=>j≠0∧K (.v (.int (i.fmod j))) s)<|ff a b (fun i j=>isZero j=false∧K (.v (.aT (divmod i j).2)) s) False
theorem C6:ik (binaryOp .Mod) JB:=fun {C ρ env M a b s K} fr h=>eQ (P:=fun a b=>W2 C.g VR _ (ah ρ a) (ah ρ b) (tr C ρ M s) (PV C ρ M K)) h (fun O O h=>Jc h.1 (dY h.2)) fun h=>kZ (P:=fun a b=>W2 C.g VR _ (ah ρ a) (ah ρ b) (tr C ρ M s) (PV C ρ M K)) h (fun O O h=>Ln h.1 (dY h.2)) False.elim
noncomputable def JC:Op:=fun a b s K=>ii a b (fun i j=>0≤i∧i<1000000∧0<j∧K (.v (.aT (bU i.toNat j.toNat))) s)<|ff a b (fun i j=>isZero j=false∧K (.v (.aT (div i j))) s) False
theorem C7:ik (binaryOp .Div) JC:=fun {C ρ env M a b s K} fr h=>eQ (P:=fun a b=>W2 C.g VR _ (ah ρ a) (ah ρ b) (tr C ρ M s) (PV C ρ M K)) h (fun O O h=>OD h.1 h.2.1 h.2.2.1 (dY h.2.2.2)) fun h=>kZ (P:=fun a b=>W2 C.g VR _ (ah ρ a) (ah ρ b) (tr C ρ M s) (PV C ρ M K)) h (fun O O h=>Lm h.1 (dY h.2)) False.elim
noncomputable def JD:Op:=fun a b s K=>ii a b (fun i j=>0≤j∧(Builtin.Int.intBits i:Int)*j≤2 ^ 27∧K (.v (.int (i ^ j.toNat))) s) False
theorem C8:ik (binaryOp .Pow) JD:=fun {C ρ env M a b s K} fr h=>eQ (P:=fun a b=>W2 C.g VR _ (ah ρ a) (ah ρ b) (tr C ρ M s) (PV C ρ M K)) h (fun O O h=>NH h.1 h.2.1 (dY h.2.2)) False.elim
noncomputable def JE:Op:=fun a b s K=>ii a b (fun i j=>0≤j∧K (.v (.int (i.fdiv (2 ^ j.toNat)))) s) False
theorem C9:ik (binaryOp .RShift) JE:=fun {C ρ env M a b s K} fr h=>eQ (P:=fun a b=>W2 C.g VR _ (ah ρ a) (ah ρ b) (tr C ρ M s) (PV C ρ M K)) h (fun O O h=>NI h.1 (dY h.2)) False.elim
noncomputable def JF:Op:=fun a b s K=>ii a b (fun i j=>K (.v (.int (Builtin.bitAnd i j))) s) False
theorem C_:ik (binaryOp .BitAnd) JF:=fun {C ρ env M a b s K} fr h=>eQ (P:=fun a b=>W2 C.g VR _ (ah ρ a) (ah ρ b) (tr C ρ M s) (PV C ρ M K)) h (fun O O h=>NJ (dY h)) False.elim
noncomputable def SE.JG(l r:SE C)(op:Operator)(o:Op)(ho:ik (binaryOp op) o)(pos:Pos):SE C:=SE.vu (.BinOp l.e op r.e pos) (fun s K=>l.ev s fun a s1=>r.ev s1 fun b s2=>o a b s2 K)
 fun fr h=>nJ (cA (l.ok fr h) fun O O h=>cA (r.ok fr h) fun O O h=>ho fr h)
noncomputable def SE.add(l r:SE C)(p:Pos:=ig l.p r.p 0 0):SE C:=SE.JG l r .Add Jy C3 p
noncomputable def SE.sub(l r:SE C)(p:Pos:=ig l.p r.p 0 0):SE C:=SE.JG l r .Sub Jz C4 p
noncomputable def SE.mul(l r:SE C)(p:Pos:=ig l.p r.p 0 0):SE C:=SE.JG l r .Mult JA C5 p
noncomputable def SE.mod(l r:SE C)(p:Pos:=ig l.p r.p 0 0):SE C:=SE.JG l r .Mod JB C6 p
noncomputable def SE.bU(l r:SE C)(p:Pos:=ig l.p r.p 0 0):SE C:=SE.JG l r .Div JC C7 p
noncomputable def SE.pow(l r:SE C)(p:Pos:=ig l.p r.p 0 0):SE C:=SE.JG l r .Pow JD C8 p
noncomputable def SE.shr(l r:SE C)(p:Pos:=ig l.p r.p 0 0):SE C:=SE.JG l r .RShift JE C9 p
noncomputable def SE.band(l r:SE C)(p:Pos:=ig l.p r.p 0 0):SE C:=SE.JG l r .BitAnd JF C_ p
noncomputable def SE.neg(x:SE C)(pos:Pos:=ig x.p x.p 1 0):SE C:=SE.vu (.UnaryOp .USub x.e pos) (fun s K=>x.ev s fun a s1=>mI a (fun i=>K (.v (.int (-i))) s1) False)
 (fun {ρ env M s K} fr h=>KD (cA (x.ok fr h) fun O s1 h=>fh (P:=fun a=>W1 C.g VR _ (ah ρ a) (tr C ρ M s1) (PV C ρ M K)) h (fun i h=>NK (dY h)) False.elim))
def dS(a b:AV)(c:Bool):Prop:= ∃d e,a=qT d∧b=qT e∧noDict d=true∧noDict e=true∧shaped d=true∧shaped e=true∧eqv d e=c
def vw(l:List AV)(b:AV)(c:Bool):Prop:= ∃d e,l=kU d∧b=qT e∧noDicts d=true∧noDict e=true∧shaped (.list d)=true∧shaped e=true∧eqv (.list d) e=c
def Rh(n:Bool)(a b:RV)(s:S)(K:RV→S→Prop):Prop:=
 hA s (fun s=>ii a b (fun i j=>K (.v (.bool (cond n (!(i==j)) (i==j)))) s)<|ss a b (fun i j=>K (.v (.bool (cond n (!(i==j)) (i==j)))) s) False)<|
 hB s fun c s=>mV b (fun y=>mV a (fun x=>dS x y c∧K (.v (.bool (cond n (!c) c))) s)<|mR a (fun k=>oL (dO k s.os) (fun l=>vw l y c∧K (.v (.bool (cond n (!c) c))) s) False) False) False
theorem pe{K:RV→S→Prop}{x:AV}{k:Hint}(h:K (.v x) ⟨s.vs,s.os,k⟩):PV C ρ M K x (tr C ρ M s):=dY (s:=⟨s.vs,s.os,k⟩) h
theorem jd{K:RV→S→Prop}{b c:Bool}{k:Hint}(e:b=c)(h:K (.v (.bool c)) ⟨s.vs,s.os,k⟩):PV C ρ M K (.bool b) (tr C ρ M s):=by subst e;exact pe h
theorem OH{g:Gd}{st:AS}{x y:AV}{c:Bool}{Q:AV→AS→Prop}(h:dS x y c)(h8:8≤g.n)(q:Q (.bool c) st):W2 g VR (compareOp .Eq) x y st Q:=by
 obtain⟨d,e,rfl,rfl,h1,h2,h3,h4,rfl⟩:=h
 exact Of h1 h2 h3 h4 h8 q
theorem OI{g:Gd}{st:AS}{x y:AV}{c:Bool}{Q:AV→AS→Prop}(h:dS x y c)(h8:8≤g.n)(q:Q (.bool (!c)) st):W2 g VR (compareOp .NotEq) x y st Q:=by
 obtain⟨d,e,rfl,rfl,h1,h2,h3,h4,rfl⟩:=h
 exact Og h1 h2 h3 h4 h8 q
theorem Lx{g:Gd}{st:AS}{a:Addr}{c:Bool}(hm:(a,AO.list l)∈st.mem)(h:vw l y c)(h8:8≤g.n)(q:Q (.bool c) st):W2 g VR (compareOp .Eq) (.val (.ref a)) y st Q:=by
 obtain⟨d,e,rfl,rfl,h1,h2,h3,h4,rfl⟩:=h
 exact Le hm h1 h2 h3 h4 h8 q
theorem Ly{g:Gd}{st:AS}{a:Addr}{c:Bool}(hm:(a,AO.list l)∈st.mem)(h:vw l y c)(h8:8≤g.n)(q:Q (.bool (!c)) st):W2 g VR (compareOp .NotEq) (.val (.ref a)) y st Q:=by
 obtain⟨d,e,rfl,rfl,h1,h2,h3,h4,rfl⟩:=h
 exact Lv hm h1 h2 h3 h4 h8 q
theorem G6:ik (compareOp .Eq) (Rh false):=fun {C ρ env M a b s K} fr h=>
 y5 h (fun k h=>eQ (P:=fun a b=>W2 C.g VR _ (ah ρ a) (ah ρ b) (tr C ρ M s) (PV C ρ M K)) h (fun O O h=>R_ (jd rfl h)) fun h=>vv (P:=fun a b=>W2 C.g VR _ (ah ρ a) (ah ρ b) (tr C ρ M s) (PV C ρ M K)) h (fun O O h=>Jd (jd rfl h)) False.elim) fun h=>y4 h fun c k h=>
  dQ (P:=fun b=>W2 C.g VR _ (ah ρ a) (ah ρ b) (tr C ρ M s) (PV C ρ M K)) h (fun y h=>dQ (P:=fun a=>W2 C.g VR _ (ah ρ a) y (tr C ρ M s) (PV C ρ M K)) h (fun x h=>OH h.1 fr.h8 (jd rfl h.2)) fun h=>jc (P:=fun a=>W2 C.g VR _ (ah ρ a) y (tr C ρ M s) (PV C ρ M K)) h (fun i h=>j' h (fun l e' h=>Lx (Yn _ (dR e' _ E6)) h.1 fr.h8 (jd rfl h.2)) False.elim) False.elim) False.elim
theorem G7:ik (compareOp .NotEq) (Rh true):=fun {C ρ env M a b s K} fr h=>
 y5 h (fun k h=>eQ (P:=fun a b=>W2 C.g VR _ (ah ρ a) (ah ρ b) (tr C ρ M s) (PV C ρ M K)) h (fun O O h=>Sa (jd rfl h)) fun h=>vv (P:=fun a b=>W2 C.g VR _ (ah ρ a) (ah ρ b) (tr C ρ M s) (PV C ρ M K)) h (fun O O h=>NM (jd rfl h)) False.elim) fun h=>y4 h fun c k h=>
  dQ (P:=fun b=>W2 C.g VR _ (ah ρ a) (ah ρ b) (tr C ρ M s) (PV C ρ M K)) h (fun y h=>dQ (P:=fun a=>W2 C.g VR _ (ah ρ a) y (tr C ρ M s) (PV C ρ M K)) h (fun x h=>OI h.1 fr.h8 (jd rfl h.2)) fun h=>jc (P:=fun a=>W2 C.g VR _ (ah ρ a) y (tr C ρ M s) (PV C ρ M K)) h (fun i h=>j' h (fun l e' h=>Ly (Yn _ (dR e' _ E6)) h.1 fr.h8 (jd rfl h.2)) False.elim) False.elim) False.elim
def gB(a b:RV)(c:Bool):Prop:=(∃i j,a= .v (.int i)∧b= .v (.int j)∧decide (i<j)=c)∨∃x y,a= .v (.str x)∧b= .v (.str y)∧decide (x.cps.toList<y.cps.toList)=c
noncomputable def OJ:Op:=fun a b s K=>SK s (fun c s=>gB a b c∧K (.v (.bool c)) s)<|ii a b (fun i j=>K (.v (.bool (decide (i<j)))) s)<|ss a b (fun x y=>K (.v (.bool (decide (x.cps.toList<y.cps.toList)))) s) False
theorem G8:ik (compareOp .Lt) OJ:=fun {C ρ env M a b s K} fr h=>CY h (fun c k h=>by
  obtain⟨⟨i,j,rfl,rfl,rfl⟩ |⟨x,y,rfl,rfl,rfl⟩,h⟩:=h
  ·exact NL (pe h)
  ·exact Jr (pe h)) fun h=>
 eQ (P:=fun a b=>W2 C.g VR _ (ah ρ a) (ah ρ b) (tr C ρ M s) (PV C ρ M K)) h (fun O O h=>NL (dY h)) fun h=>vv (P:=fun a b=>W2 C.g VR _ (ah ρ a) (ah ρ b) (tr C ρ M s) (PV C ρ M K)) h (fun O O h=>Jr (dY h)) False.elim
noncomputable def OK:Op:=fun a b s K=>ii a b (fun i j=>K (.v (.bool (decide (j<i)))) s) False
theorem G9:ik (compareOp .Gt) OK:=fun {C ρ env M a b s K} fr h=>eQ (P:=fun a b=>W2 C.g VR _ (ah ρ a) (ah ρ b) (tr C ρ M s) (PV C ρ M K)) h (fun O O h=>R7 (dY h)) False.elim
noncomputable def OL:Op:=fun a b s K=>ii a b (fun i j=>K (.v (.bool (decide (i≤j)))) s)<|ff a b (fun x y=>K (.v (.bool (Float64.cmp x y==some .lt||Float64.cmp x y==some .eq))) s) False
theorem G_:ik (compareOp .LtE) OL:=fun {C ρ env M a b s K} fr h=>eQ (P:=fun a b=>W2 C.g VR _ (ah ρ a) (ah ρ b) (tr C ρ M s) (PV C ρ M K)) h (fun O O h=>R8 (dY h)) fun h=>kZ (P:=fun a b=>W2 C.g VR _ (ah ρ a) (ah ρ b) (tr C ρ M s) (PV C ρ M K)) h (fun O O h=>OB (dY h)) False.elim
noncomputable def OM:Op:=fun a b s K=>ii a b (fun i j=>K (.v (.bool (decide (j≤i)))) s) False
theorem G':ik (compareOp .GtE) OM:=fun {C ρ env M a b s K} fr h=>eQ (P:=fun a b=>W2 C.g VR _ (ah ρ a) (ah ρ b) (tr C ρ M s) (PV C ρ M K)) h (fun O O h=>R9 (dY h)) False.elim
def tM(x:AV)(l:List AV)(c:Bool):Prop:= ∃d e,x=qT d∧l=kU e∧noDict d=true∧noDicts e=true∧d.canLay0=true∧canLayAll0 e=true∧d.depth≤60∧(e.any fun y=>eqv y d)=c
def rL(C:Ctx)(x:Str)(v:AV)(c:Bool):Prop:= ∃a es n,v= .val (.ref a)∧lT C.g a es n∧(bo es x).isSome=c
def SM(l:List AV)(k:Int)(c:Bool):Prop:= ∃ns:List Int,l=ns.map .int∧ns.contains k=c
noncomputable def ON(C:Ctx):Op:=fun a b s K=>hB s fun c s=>mL b (fun l=>mV a (fun x=>tM x l c∧K (.v (.bool c)) s) False)<|mV b (fun v=>mS a (fun x=>rL C x v c∧K (.v (.bool c)) s) False) False
noncomputable def JH:Op:=fun a b s K=>hB s fun c s=>mL b (fun l=>mV a (fun x=>tM x l c∧K (.v (.bool (!c))) s) False)<|mR b (fun k=>oL (dO k s.os) (fun l=>mI a (fun i=>SM l i c∧K (.v (.bool (!c))) s) False) False) False
theorem OO{g:Gd}{st:AS}{x:AV}{l:List AV}{c:Bool}{Q:AV→AS→Prop}(h:tM x l c)(h8:8≤g.n)(q:Q (.bool c) st):W2 g VR (compareOp .In) x (.lst l) st Q:=by
 obtain⟨d,e,rfl,rfl,h1,h2,h3,h4,h5,rfl⟩:=h
 exact Oh h1 h2 h3 h4 h5 h8 q
theorem Lz{g:Gd}{st:AS}{x:AV}{l:List AV}{c:Bool}{Q:AV→AS→Prop}(h:tM x l c)(h8:8≤g.n)(q:Q (.bool (!c)) st):W2 g VR (compareOp .NotIn) x (.lst l) st Q:=by
 obtain⟨d,e,rfl,rfl,h1,h2,h3,h4,h5,rfl⟩:=h
 exact K8 h1 h2 h3 h4 h5 h8 q
theorem Ha{st:AS}{x:Str}{v:AV}{c:Bool}{Q:AV→AS→Prop}(h:rL C x v c)(q:Q (.bool c) st):W2 C.g VR (compareOp .In) (.str x) v st Q:=by
 obtain⟨a,es,n,rfl,T,rfl⟩:=h
 exact GR T q
theorem Hb{g:Gd}{st:AS}{a:Addr}{k:Int}{c:Bool}(hm:(a,AO.list l)∈st.mem)(h:SM l k c)(h8:8≤g.n)(q:Q (.bool (!c)) st):W2 g VR (compareOp .NotIn) (.int k) (.val (.ref a)) st Q:=by
 obtain⟨ns,rfl,rfl⟩:=h
 exact Lg hm h8 q
theorem C':ik (compareOp .NotIn) JH:=fun {C ρ env M a b s K} fr h=>y4 h fun c k h=>
 gU (P:=fun b=>W2 C.g VR _ (ah ρ a) (ah ρ b) (tr C ρ M s) (PV C ρ M K)) h (fun l h=>dQ (P:=fun a=>W2 C.g VR _ (ah ρ a) (.lst l) (tr C ρ M s) (PV C ρ M K)) h (fun x h=>Lz h.1 fr.h8 (pe h.2)) False.elim) fun h=>jc (P:=fun b=>W2 C.g VR _ (ah ρ a) (ah ρ b) (tr C ρ M s) (PV C ρ M K)) h (fun k h=>j' h (fun l e1 h=>fh (P:=fun a=>W2 C.g VR _ (ah ρ a) (.val (.ref (ρ k))) (tr C ρ M s) (PV C ρ M K)) h (fun i h=>Hb (Yn _ (dR e1 _ E6)) h.1 fr.h8 (pe h.2)) False.elim) False.elim) False.elim
theorem Hc:∀ {ρ env M a b s K},cz C ρ env→ON C a b s K→W2 C.g VR (compareOp .In) (ah ρ a) (ah ρ b) (tr C ρ M s) (PV C ρ M K):=fun {ρ env M a b s K} fr h=>y4 h fun c k h=>
 gU (P:=fun b=>W2 C.g VR _ (ah ρ a) (ah ρ b) (tr C ρ M s) (PV C ρ M K)) h (fun l h=>dQ (P:=fun a=>W2 C.g VR _ (ah ρ a) (.lst l) (tr C ρ M s) (PV C ρ M K)) h (fun x h=>OO h.1 fr.h8 (pe h.2)) False.elim) fun h=>dQ (P:=fun b=>W2 C.g VR _ (ah ρ a) (ah ρ b) (tr C ρ M s) (PV C ρ M K)) h (fun v h=>gi (P:=fun a=>W2 C.g VR _ (ah ρ a) v (tr C ρ M s) (PV C ρ M K)) h (fun x h=>Ha h.1 (pe h.2)) False.elim) False.elim
def Uu(a:RV)(f d:Prop):Prop:=a.casesOn (fun O=>d) (fun O=>d) (fun O=>d) fun O O O=>f
theorem LA{f d:Prop}{P:RV→Prop}(h:Uu a f d)(h1:∀x q c,f→P (.f x q c))(h2:d→P a):P a:=by cases a with | f x q c=>exact h1 _ _ _ h | _=>exact h2 h
noncomputable def OP:Op:=fun a b s K=>mB b (fun c=>mB a (fun d=>K (.v (.bool (d==c))) s) False)<|mN b (mN a (K (.v (.bool true)) s)<|mI a (fun O=>K (.v (.bool false)) s)<|Uu a (K (.v (.bool false)) s)<|mV a (fun x=> (∃f q c,x= .fn f q c)∧K (.v (.bool false)) s) False) False
theorem Da{g:Gd}{st:AS}{x:AV}{Q:AV→AS→Prop}(h:∃f q c,x= .fn f q c)(q:Q (.bool false) st):W2 g VR (compareOp .Is) x .none st Q:=by
 obtain⟨f,q,c,rfl⟩:=h
 exact CN ‹_›
theorem Hd:ik (compareOp .Is) OP:=fun {C ρ env M a b s K} fr h=>
 CX (P:=fun b=>W2 C.g VR _ (ah ρ a) (ah ρ b) (tr C ρ M s) (PV C ρ M K)) h (fun c h=>CX (P:=fun a=>W2 C.g VR _ (ah ρ a) (.bool c) (tr C ρ M s) (PV C ρ M K)) h (fun d h=>Ol (dY h)) False.elim) fun h=>yZ (P:=fun b=>W2 C.g VR _ (ah ρ a) (ah ρ b) (tr C ρ M s) (PV C ρ M K)) h (fun h=>yZ (P:=fun a=>W2 C.g VR _ (ah ρ a) .none (tr C ρ M s) (PV C ρ M K)) h (fun h=>xi (dY h)) fun h=>fh (P:=fun a=>W2 C.g VR _ (ah ρ a) .none (tr C ρ M s) (PV C ρ M K)) h (fun i h=>Av (dY h)) fun h=>LA (P:=fun a=>W2 C.g VR _ (ah ρ a) .none (tr C ρ M s) (PV C ρ M K)) h (fun x q c h=>Da ⟨_,_,_,rfl⟩ (dY h)) fun h=>dQ (P:=fun a=>W2 C.g VR _ (ah ρ a) .none (tr C ρ M s) (PV C ρ M K)) h (fun x h=>Da h.1 (dY h.2)) False.elim) False.elim
noncomputable def SE.Db(l r:SE C)(op:CmpOp)(o:Op)(ho:∀ {ρ env M a b s K},cz C ρ env→o a b s K→W2 C.g VR (compareOp op) (ah ρ a) (ah ρ b) (tr C ρ M s) (PV C ρ M K))(pos:Pos):SE C where
 e:= .Compare l.e [op] [r.e] pos
 ev s K:=l.ev s fun a s1=>r.ev s1 fun b s2=>o a b s2 K
 tv s K:=l.ev s fun a s1=>r.ev s1 fun b s2=>o a b s2 fun c s3=>vt c s3 K
 ai:=true
 sw:=true
 ok fr h:=wP (cA (l.ok fr h) fun O O h=>cA (r.ok fr h) fun O O h=>ho fr h) (r.fm.bm _)
 tok fr h:=aZ (cA (l.ok fr h) fun O O h=>cA (r.ok fr h) fun O O h=>Jx (ho fr h) fun O O h=>kY h) (r.fm.bm _)
 fm:=⟨fun O O=>rfl,fun O=>rfl,fun O O=>rfl,fun O O O O=>rfl,fun O O O O=>rfl⟩
noncomputable def SE.eq(l r:SE C)(p:Pos:=ig l.p r.p 0 0):SE C:=SE.Db l r .Eq (Rh false) G6 p
noncomputable def SE.ne(l r:SE C)(p:Pos:=ig l.p r.p 0 0):SE C:=SE.Db l r .NotEq (Rh true) G7 p
noncomputable def SE.lt(l r:SE C)(p:Pos:=ig l.p r.p 0 0):SE C:=SE.Db l r .Lt OJ G8 p
noncomputable def SE.gt(l r:SE C)(p:Pos:=ig l.p r.p 0 0):SE C:=SE.Db l r .Gt OK G9 p
noncomputable def SE.le(l r:SE C)(p:Pos:=ig l.p r.p 0 0):SE C:=SE.Db l r .LtE OL G_ p
noncomputable def SE.ge(l r:SE C)(p:Pos:=ig l.p r.p 0 0):SE C:=SE.Db l r .GtE OM G' p
noncomputable def SE.isin(l r:SE C)(p:Pos:=ig l.p r.p 0 0):SE C:=SE.Db l r .In (ON C) Hc p
noncomputable def SE.SN(l r:SE C)(p:Pos:=ig l.p r.p 0 0):SE C:=SE.Db l r .NotIn JH C' p
noncomputable def SE.is(l r:SE C)(p:Pos:=ig l.p r.p 0 0):SE C:=SE.Db l r .Is OP Hd p
end
end
end
section
section
section
variable {C:Ctx}{ρ:eJ}{env:Env}{M:Mem}{s:S}{α β:Type}
noncomputable def SE.not(x:SE C)(pos:Pos:=ig x.p x.p 4 0):SE C where
 e:= .UnaryOp .Not x.e pos
 ev _ _:=False
 tv s K:=x.tv s fun b s1=>K (!b) s1
 ai:=true
 sw:=true
 ok _ h:=h.elim
 tok fr h:=tc (vq (x.tok fr h) fun O O h=>pb h)
 fm:=⟨fun O O=>rfl,fun O=>rfl,fun O O=>rfl,fun O O O O=>rfl,fun O O O O=>rfl⟩
def SO(w:Bool)(es:List (SE C)):S→(Bool→S→Prop)→Prop:=es.rec (fun s K=>K w s) fun x O ih s K=>x.tv s fun b s1=>br b s1 (fun s=>cond w (ih s K) (K true s)) (fun s=>cond w (K false s) (ih s K))
def Uv(x:SE C)(es:List (SE C)):S→(RV→S→Prop)→Prop:=es.rec (motive:=fun O=>SE C→S→(RV→S→Prop)→Prop) (fun x s K=>x.ev s K) (fun y O ih x s K=>x.ev s fun a s1=>vt a s1 fun b s2=>br b s2 (fun s=>ih y s K) (fun s=>K a s)) x
theorem Dc(w:Bool)(fr:cz C ρ env):∀ {es:List (SE C)} {s:S} {K:Bool→S→Prop},SO w es s K→W0 C.g RQ (allTrue (cond w .And .Or) (es.map SE.e) env) (tr C ρ M s) (PB C ρ M K):=by
 intro es
 induction es with
 | nil=>intro s K h;cases w;exact td (pb h);exact qN (pb h)
 | cons x t ih=>
  intro s K h
  cases w with
  | true=>exact Ai (vq (G:=fun b aN=>if b=true then W0 C.g RQ (allTrue .And (t.map SE.e) env) aN (PB C ρ M K) else PB C ρ M K false aN) (x.tok fr h) fun b s1 h=>rK (P:=fun b=>if b=true then W0 C.g RQ (allTrue .And (t.map SE.e) env) (tr C ρ M s1) (PB C ρ M K) else PB C ρ M K false (tr C ρ M s1)) h (fun k h=>ih (s:=⟨s1.vs,s1.os,k⟩) h) fun k h=> .mk (s:=⟨s1.vs,s1.os,k⟩) Wk.refl h)
  | false=>exact B6 (vq (G:=fun b aN=>if b=true then PB C ρ M K true aN else W0 C.g RQ (allTrue .Or (t.map SE.e) env) aN (PB C ρ M K)) (x.tok fr h) fun b s1 h=>rK (P:=fun b=>if b=true then PB C ρ M K true (tr C ρ M s1) else W0 C.g RQ (allTrue .Or (t.map SE.e) env) (tr C ρ M s1) (PB C ρ M K)) h (fun k h=> .mk (s:=⟨s1.vs,s1.os,k⟩) Wk.refl h) fun k h=>ih (s:=⟨s1.vs,s1.os,k⟩) h)
theorem LB(fr:cz C ρ env)(pos:Pos):∀ {es:List (SE C)} {x:SE C} {s:S} {K:RV→S→Prop},Uv x es s K→W0 C.g VR (boolOp pos .And (evalEach (x.e::es.map SE.e) env)) (tr C ρ M s) (PV C ρ M K):=by
 intro es
 induction es with
 | nil=>intro x s K h;exact te (x.ok fr h)
 | cons y t ih=>
  intro x s K h
  refine tf (cA (x.ok fr h) fun a s1 h=>?_)
  have hb:=kY (C:=C) (ρ:=ρ) (M:=M) h
  refine fun F s v r hv K' E k=>hb F s v r hv K' E fun F' b c a8 s2 l2 r2 hr hq=>k F' b c a8 s2 l2 r2 hr ?_
  obtain⟨w,h⟩:=hq
  exact rK (P:=fun b=>if b=true then W0 C.g VR (boolOp pos .And (evalEach (y.e::t.map SE.e) env)) a8 (PV C ρ M K) else PV C ρ M K (ah ρ a) a8) h (fun k h=>W0.weak w (ih (s:=⟨_,_,k⟩) h)) fun k h=> .mk (s:=⟨_,_,k⟩) w h
noncomputable def SE.and(x:SE C)(es:List (SE C))(pos:Pos:=ig x.p (lP es) 0 0):SE C where
 e:= .BoolOp .And (x.e::es.map SE.e) pos
 ev:=Uv x es
 tv:=SO true (x::es)
 ai:=true
 sw:=true
 ok fr h:=B7 (LB fr pos h)
 tok fr h:=iK (Dc true fr h)
 fm:=⟨fun O O=>rfl,fun O=>rfl,fun O O=>rfl,fun O O O O=>rfl,fun O O O O=>rfl⟩
noncomputable def SE.or(es:List (SE C))(pos:Pos:=ig (fP es) (lP es) 0 0):SE C where
 e:= .BoolOp .Or (es.map SE.e) pos
 ev _ _:=False
 tv:=SO false es
 ai:=true
 sw:=true
 ok _ h:=h.elim
 tok fr h:=iK (Dc false fr h)
 fm:=⟨fun O O=>rfl,fun O=>rfl,fun O O=>rfl,fun O O O O=>rfl,fun O O O O=>rfl⟩
def Uw(b:Bool)(s:S)(T F:S→(RV→S→Prop)→Prop)(K:RV→S→Prop):Prop:=s.h.casesOn (br b s (T · K) (F · K)) (fun O O=>br b s (T · K) (F · K)) (fun O O=>br b s (T · K) (F · K)) (fun O=>br b s (T · K) (F · K)) (fun O O=>br b s (T · K) (F · K))
 (fun z t e k=> (b=true→T ⟨s.vs,s.os,t⟩ fun v s'=>v=z∧s'=⟨s.vs,s.os,.nil⟩)∧(b=false→F ⟨s.vs,s.os,e⟩ fun v s'=>v=z∧s'=⟨s.vs,s.os,.nil⟩)∧K z ⟨s.vs,s.os,k⟩) (fun O O O=>False) (fun O O O O O=>False) (fun O O O O O=>False) (fun O O O=>False)
theorem LF{b:Bool}{s:S}{T F:S→(RV→S→Prop)→Prop}{K:RV→S→Prop}{P:Bool→Prop}(h:Uw b s T F K)(h1:∀K' s',T s' K'→s'.vs=s.vs→s'.os=s.os→(∀v s',K' v s'→∃k,K v ⟨s'.vs,s'.os,k⟩)→P true)(h2:∀K' s',F s' K'→s'.vs=s.vs→s'.os=s.os→(∀v s',K' v s'→∃k,K v ⟨s'.vs,s'.os,k⟩)→P false):P b:=by
 have key:br b s (T · K) (F · K)→P b:=fun h=>rK h (fun k h=>h1 _ ⟨s.vs,s.os,k⟩ h rfl rfl fun v s' q=> ⟨s'.h,q⟩) fun k h=>h2 _ ⟨s.vs,s.os,k⟩ h rfl rfl fun v s' q=> ⟨s'.h,q⟩
 obtain⟨vs,os,k⟩:=s
 cases k with
 | mv z t e k=>
  obtain⟨ht,he,hk⟩:=h
  cases b with
  | true=>exact h1 _ ⟨vs,os,t⟩ (ht rfl) rfl rfl fun v s' q=>by obtain⟨rfl,rfl⟩:=q;exact⟨k,hk⟩
  | false=>exact h2 _ ⟨vs,os,e⟩ (he rfl) rfl rfl fun v s' q=>by obtain⟨rfl,rfl⟩:=q;exact⟨k,hk⟩
 | nil | v | b | a | sp=>exact key h
 | _=>exact h.elim
theorem PV.map{K K':RV→S→Prop}{v:AV}{st:AS}(h:PV C ρ M K v st)(f:∀v s',K v s'→∃k,K' v ⟨s'.vs,s'.os,k⟩):PV C ρ M K' v st:=by
 obtain⟨w,k⟩:=h
 obtain⟨k',q⟩:=f _ _ k
 exact .mk (s:=⟨_,_,k'⟩) w q
noncomputable def SE.y6(t b o:SE C)(pos:Pos:=ig b.p o.p 0 0):SE C where
 e:= .IfExp t.e b.e o.e pos
 ev s K:=t.tv s fun c s1=>Uw c s1 b.ev o.ev K
 tv _ _:=False
 ai:=true
 sw:=true
 ok {ρ env M s K} fr h:=kI (vq (G:=fun c aN=>if c=true then W0 C.g VR (eval b.e env) aN (PV C ρ M K) else W0 C.g VR (eval o.e env) aN (PV C ρ M K)) (t.tok fr h) fun c s1 h=>
  LF (P:=fun c=>if c=true then W0 C.g VR (eval b.e env) (tr C ρ M s1) (PV C ρ M K) else W0 C.g VR (eval o.e env) (tr C ρ M s1) (PV C ρ M K)) h
   (fun K' s' h e1 e2 f=>by have:=(b.ok (M:=M) fr h).mono fun v st q=>q.map f;rw[tr,e1,e2] at this;exact this)
   (fun K' s' h e1 e2 f=>by have:=(o.ok (M:=M) fr h).mono fun v st q=>q.map f;rw[tr,e1,e2] at this;exact this))
 tok _ h:=h.elim
 fm:=⟨fun O O=>rfl,fun O=>rfl,fun O O=>rfl,fun O O O O=>rfl,fun O O O O=>rfl⟩
def Ay(es:List (SE C)):S→(List RV→S→Prop)→Prop:=es.rec (fun s K=>K [] s) fun x O ih s K=>x.ev s fun a s1=>ih s1 fun as s2=>K (a::as) s2
noncomputable abbrev iV(es:List (SE C)):List Expr:=es.map SE.e
theorem gC(fr:cz C ρ env)(pos:Pos):∀ {es:List (SE C)} {s:S} {K:List RV→S→Prop},Ay es s K→W0 C.g be (spliced (backTo pos (starEach (iV es) env))) (tr C ρ M s) (PL C ρ M K):=by
 intro es
 induction es with
 | nil=>intro s K h;exact aH (PL.mk (rs:=[]) Wk.refl h)
 | cons x t ih=>
  intro s K h
  exact aM (cA (x.ok fr h) fun a s1 h=> (ih h).mono fun as st q=>by obtain⟨w,k⟩:=q;exact .mk (rs:=a::_) w k) (x.fm.st _ _)
def y7(rs:List RV):(List AV→Prop)→Prop:=rs.rec (fun f=>f []) fun r O ih f=>mV r (fun x=>ih fun xs=>f (x::xs)) False
theorem pg:∀ {f:List AV→Prop} {P:List AV→Prop},y7 rs f→(∀xs,f xs→P xs)→P (rs.map (ah ρ)):=by
 induction rs with
 | nil=>exact fun h k=>k _ h
 | cons r t ih=>exact fun {f P} h k=>dQ (P:=fun r=>P (ah ρ r::t.map (ah ρ))) h (fun x h=>ih (P:=fun xs=>P (x::xs)) h fun xs h=>k _ h) False.elim
noncomputable def Az(n:Nat):Bool:=ble n 16777216
theorem il{n:Nat}(h:Az n=true):n≤sizeLine:=E1 h
noncomputable def SE.tup(es:List (SE C))(k:Nat:=0)(pos:Pos:=ig (fP es) (lP es) 1 1):SE C:=SE.vu (.Tuple (iV es) k pos) (fun s K=>Ay es s fun rs s1=>y7 rs fun xs=>gT (Az xs.length) (K (.v (.tup xs)) s1))
 fun {ρ env M s K} fr h=>kJ (qV (G:=fun xs st=>xs.length≤sizeLine∧PV C ρ M K (.tup xs) st) (gC fr pos h) fun rs s1 h=>pg (P:=fun xs=>xs.length≤sizeLine∧PV C ρ M K (.tup xs) (tr C ρ M s1)) h fun xs h=> ⟨il (aC h).1,dY (aC h).2⟩)
noncomputable def SE.lst(es:List (SE C))(pos:Pos:=ig (fP es) (lP es) 1 1):SE C:=SE.vu (.List (iV es) pos) (fun s K=>Ay es s fun rs s1=>y7 rs fun xs=>gT (Az xs.length) (K (.v (.lst xs)) s1))
 fun {ρ env M s K} fr h=>KF (qV (G:=fun xs st=>xs.length≤sizeLine∧PV C ρ M K (.lst xs) st) (gC fr pos h) fun rs s1 h=>pg (P:=fun xs=>xs.length≤sizeLine∧PV C ρ M K (.lst xs) (tr C ρ M s1)) h fun xs h=> ⟨il (aC h).1,dY (aC h).2⟩)
def Ux(a:RV)(f:AV→AV→AV→Prop)(d:Prop):Prop:=a.casesOn (fun x=>x.casesOn d (fun O=>d) (fun O=>d) (fun O=>d) (fun O=>d) (fun O=>d) (fun O=>d) (fun O=>d) (fun x y z=>f x y z) (fun O O O=>d) (fun O O O=>d)) (fun O=>d) (fun O=>d) fun O O O=>d
theorem LG{f:AV→AV→AV→Prop}{d:Prop}{P:RV→Prop}(h:Ux a f d)(h1:∀x y z,f x y z→P (.v (.fx x y z)))(h2:d→P a):P a:=by cases a with | v x=> (cases x with | fx x y z=>exact h1 _ _ _ h | _=>exact h2 h) | _=>exact h2 h
def part(x:AV)(f:Option Int→Prop):Prop:=x.casesOn (f .none) (fun O=>False) (fun i=>f (some i)) (fun O=>False) (fun O=>False) (fun O=>False) (fun O=>False) (fun O=>False) (fun O O O=>False) (fun O O O=>False) (fun O O O=>False)
theorem tN{f:Option Int→Prop}(h:part x f):∃o,gf x o∧f o:=by cases x with | none=>exact⟨_,.none,h⟩ | int i=>exact⟨_,.int i,h⟩ | _=>exact h.elim
def SE.part(o:Option (SE C)):S→(RV→S→Prop)→Prop:=o.rec (fun s K=>K (.v .none) s) fun x=>x.ev
theorem tO(fr:cz C ρ env){o:Option (SE C)}{s:S}{K:RV→S→Prop}(h:SE.part o s K):W0 C.g VR (evalPart (o.map SE.e) env) (tr C ρ M s) (PV C ρ M K):=by
 cases o with | none=>exact uS (dY h) | some x=>exact uT (x.ok fr h)
noncomputable def Wm(l u:Option (SE C)):Pos:=l.casesOn (u.casesOn default fun u=>ig u.p u.p 1 0) fun l=>u.casesOn (ig l.p l.p 0 1) fun u=>ig l.p u.p 0 0
noncomputable def SE.fx(l u p:Option (SE C))(pos:Pos:=Wm l u):SE C:=SE.vu (.Slice (l.map SE.e) (u.map SE.e) (p.map SE.e) pos) (fun s K=>SE.part l s fun a s1=>SE.part u s1 fun b s2=>SE.part p s2 fun c s3=>mV a (fun x=>mV b (fun y=>mV c (fun z=>K (.v (.fx x y z)) s3) False) False) False)
 fun {ρ env M s K} fr h=>Gl (cA (tO fr h) fun a O h=>cA (tO fr h) fun b O h=>cA (tO fr h) fun c s3 h=>
  dQ (P:=fun a=>PV C ρ M K (.fx (ah ρ a) (ah ρ b) (ah ρ c)) (tr C ρ M s3)) h (fun x h=>dQ (P:=fun b=>PV C ρ M K (.fx x (ah ρ b) (ah ρ c)) (tr C ρ M s3)) h (fun y h=>dQ (P:=fun c=>PV C ρ M K (.fx x y (ah ρ c)) (tr C ρ M s3)) h (fun z h=>dY h) False.elim) False.elim) False.elim)
theorem tQ(slice:Expr):∀o i,∃Ce,subscripted slice false o i=operate Ce (getItem o i):=fun o i=>by
 cases slice with
 | Slice l u st p=>cases st <;> exact⟨_,rfl⟩
 | _=>exact⟨_,rfl⟩
def item(l:List AV)(k:Int)(s:S)(K:RV→S→Prop):Prop:=hA s (fun s=>gT (Az l.length) (oR (d5 l k) fun x=>K (.v x) s)) (hV s fun x s=>l.length≤sizeLine∧d5 l k=some x∧K (.v x) s)
theorem tR{l:List AV}{k:Int}{K:RV→S→Prop}{P:Prop}(h:item l k s K)(f:∀x k',l.length≤sizeLine→d5 l k=some x→K (.v x) ⟨s.vs,s.os,k'⟩→P):P:=
 y5 h (fun k' h=>let⟨x,hx,h'⟩:=dj (aC h).2;f x k' (il (aC h).1) hx h') fun h=>gj h fun x k' h=>f x k' h.1 h.2.1 h.2.2
end
end
end
section
section
section
variable {C:Ctx}{ρ:eJ}{env:Env}{M:Mem}{s:S}{α β:Type}
def Dd(C:Ctx)(v:AV)(x:Str)(y:AV):Prop:= ∃a es n i t,v= .val (.ref a)∧y= .int i∧lT C.g a es n∧bo es x=some (.int i t)
def OQ(a:RV)(k:Int)(s:S)(K:RV→S→Prop):Prop:=mT a (fun l=>item l k s K)<|la a s (fun l=>item l k s K)<|lw a s (fun l=>item l k s K)<|mS a (fun x=>hV s fun y s=>x.length≤sizeLine∧(∃c,tD x k=some c∧y= .str ⟨#[c]⟩)∧K (.v y) s) False
noncomputable def stepOk(o:Option Int):Bool:=o.casesOn true fun i=>!(i==0)
theorem AA{o:Option Int}(h:stepOk o=true):o≠some 0:=fun e=>by subst e;cases h
def Uy(l:List AV)(lo hi st:Option Int)(s:S)(K:RV→S→Prop):Prop:=gT (stepOk st) (l.length≤sizeLine∧hA s (fun s=>K (.v (.lst (aS l lo hi st))) s) (hV s fun r s=> .lst (aS l lo hi st)=r∧K (.v r) s))
theorem LH{a:AV}{l:List AV}{x y z:AV}{lo hi st:Option Int}{K:RV→S→Prop}(h:Uy l lo hi st s K)(hL:cJ a l (tr C ρ M s).mem)(hx:gf x lo)(hy:gf y hi)(hz:gf z st):W2 C.g VR getItem a (.fx x y z) (tr C ρ M s) (PV C ρ M K):=
 let⟨h0,hsz,h⟩:=aC h
 wX hL hx hy hz (AA h0) hsz (y5 h (fun k h=>pe h) fun h=>gj h fun r k h=>by obtain⟨rfl,h⟩:=h;exact pe h)
def oI(o:Option Int)(f:Prop)(g:Int→Prop):Prop:=o.casesOn f g
def OR(a:RV)(lo hi st:Option Int)(s:S)(K:RV→S→Prop):Prop:=la a s (fun l=>Uy l lo hi st s K)<|oI st (mS a (fun x=>oI lo (oI hi False fun j=>0≤j∧x.length≤sizeLine∧K (.v (.str (bB x j.toNat))) s) fun j=>oI hi (0≤j∧x.length≤sizeLine∧K (.v (.str (gR x j.toNat))) s) fun O=>False)<|
 mT a (fun l=>oI lo False fun k=>oI hi (1≤k∧k≤l.length∧l.length≤sizeLine∧K (.v (.tup (l.drop k.toNat))) s) fun O=>False) False) fun O=>False
def OS(C:Ctx)(a b:RV)(s:S)(K:RV→S→Prop):Prop:=mI b (fun k=>OQ a k s K)<|Ux b (fun x y z=>part x fun lo=>part y fun hi=>part z fun st=>OR a lo hi st s K)<|
 mS b (fun x=>mV a (fun v=>hV s fun y s=>Dd C v x y∧K (.v y) s) False) False
theorem vx{g:Gd}{st:AS}{x:Str}{i:Int}{y:AV}{Q:AV→AS→Prop}(hsz:x.length≤sizeLine)(hc:∃c,tD x i=some c∧y= .str ⟨#[c]⟩)(h:Q y st):W2 g VR getItem (.str x) (.int i) st Q:=by
 obtain⟨c,hc,rfl⟩:=hc
 exact xd hsz hc h
theorem vy{ay slice:Expr}{st:AS}{v y:AV}{x:Str}{Q:AV→AS→Prop}(T:Dd C v x y)(h:Q y st):W2 C.g VR (subscriptTail ay slice) v (.str x) st Q:=by
 obtain⟨a,es,n,i,t,rfl,rfl,T,hx⟩:=T
 exact xh T hx h (tQ slice)
theorem He{ay slice:Expr}{a:RV}{k:Int}{K:RV→S→Prop}(h:OQ a k s K):W2 C.g VR (subscriptTail ay slice) (ah ρ a) (.int k) (tr C ρ M s) (PV C ρ M K):=
 rI (P:=fun a=>W2 C.g VR (subscriptTail ay slice) (ah ρ a) (.int k) (tr C ρ M s) (PV C ρ M K)) h (fun l h=>tR h fun x k' h1 h2 h=>hZ (kt h1 h2 (pe h)) (tQ _)) fun h=>
 o_ (P:=fun a=>W2 C.g VR (subscriptTail ay slice) a (.int k) (tr C ρ M s) (PV C ρ M K)) h ρ M (fun x l hL h=>tR h fun x k' h1 h2 h=>ru hL (Aj hL h1 h2 (pe h)) (tQ _)) fun h=>
 OG (P:=fun a=>W2 C.g VR (subscriptTail ay slice) (ah ρ a) (.int k) (tr C ρ M s) (PV C ρ M K)) h ρ M (fun i l hm h=>tR h fun x k' h1 h2 h=>ve hm (vd hm h1 h2 (pe h)) (tQ _)) fun h=>
 gi (P:=fun a=>W2 C.g VR (subscriptTail ay slice) (ah ρ a) (.int k) (tr C ρ M s) (PV C ρ M K)) h (fun x h=>gj h fun y k' h=>ku (vx h.1 h.2.1 (pe h.2.2)) (tQ _)) False.elim
theorem Hf{ay slice:Expr}{a:RV}{x y z:AV}{lo hi st:Option Int}{K:RV→S→Prop}(h:OR a lo hi st s K)(hx:gf x lo)(hy:gf y hi)(hz:gf z st):W2 C.g VR (subscriptTail ay slice) (ah ρ a) (.fx x y z) (tr C ρ M s) (PV C ρ M K):=
 o_ (P:=fun a=>W2 C.g VR (subscriptTail ay slice) a (.fx x y z) (tr C ρ M s) (PV C ρ M K)) h ρ M (fun O l hL h=>ru hL (LH h hL hx hy hz) (tQ _)) fun h=>by
  cases hz with
  | int=>exact h.elim
  | none=>
   refine gi (P:=fun a=>W2 C.g VR (subscriptTail ay slice) (ah ρ a) (.fx x y .none) (tr C ρ M s) (PV C ρ M K)) h (fun x h=>?_) fun h=>rI (P:=fun a=>W2 C.g VR (subscriptTail ay slice) (ah ρ a) (.fx x y .none) (tr C ρ M s) (PV C ρ M K)) h (fun x h=>?_) False.elim
   ·cases hx with
    | none=>cases hy with | none=>exact h.elim | int j=>exact ku (Ok h.1 h.2.1 (dY h.2.2)) (tQ _)
    | int i=>cases hy with | none=>exact ku (GN h.1 h.2.1 (dY h.2.2)) (tQ _) | int j=>exact h.elim
   ·cases hx with
    | none=>exact h.elim
    | int i=>cases hy with | none=>exact hZ (GY h.1 h.2.1 h.2.2.1 (dY h.2.2.2)) (tQ _) | int j=>exact h.elim
theorem Hg{ay slice:Expr}{a b:RV}{K:RV→S→Prop}(h:OS C a b s K):W2 C.g VR (subscriptTail ay slice) (ah ρ a) (ah ρ b) (tr C ρ M s) (PV C ρ M K):=
 fh (P:=fun b=>W2 C.g VR (subscriptTail ay slice) (ah ρ a) (ah ρ b) (tr C ρ M s) (PV C ρ M K)) h (fun k h=>He h) fun h=>
 LG (P:=fun b=>W2 C.g VR (subscriptTail ay slice) (ah ρ a) (ah ρ b) (tr C ρ M s) (PV C ρ M K)) h (fun x y z h=>let⟨_,hx,h⟩:=tN h;let⟨_,hy,h⟩:=tN h;let⟨_,hz,h⟩:=tN h;Hf h hx hy hz) fun h=>
 gi (P:=fun b=>W2 C.g VR (subscriptTail ay slice) (ah ρ a) (ah ρ b) (tr C ρ M s) (PV C ρ M K)) h (fun x h=>dQ (P:=fun a=>W2 C.g VR (subscriptTail ay slice) (ah ρ a) (.str x) (tr C ρ M s) (PV C ρ M K)) h (fun v h=>gj h fun y k h=>vy h.1 (pe h.2)) False.elim) False.elim
noncomputable def SE.get(l r:SE C)(pos:Pos:=ig l.p r.p 0 1):SE C:=SE.vu (.Subscript l.e r.e pos) (fun s K=>l.ev s fun a s1=>r.ev s1 fun b s2=>OS C a b s2 K)
 fun fr h=>w_sub (cA (l.ok fr h) fun O O h=>cA (r.ok fr h) fun O O h=>Hg h)
end
end
end
section
section
section
variable {g:Gd}{F:FM}{C:Ctx}{ρ:eJ}{env:Env}{M:Mem}{s:S}{α β:Type}
theorem RepM.perm{mem mem':Mem}{s:Shared}(r:RepM g F mem s)(p:mem.Perm mem'):RepM g F mem' s:=
 {hP:=r.hP,hF:=r.hF,hK:=r.hK,pf:=r.pf
  hm:=fun q hq=>r.hm q (p.mem_iff.mpr hq)
  ap:=fun q hq=>r.ap q (p.mem_iff.mpr hq)
  nd:=(p.map _).nodup_iff.mp r.nd
  tk:=r.tk,gens:=r.gens,os:=r.os,tab:=r.tab
  cM:=fun t ht=> ⟨(r.cM t ht).1,(r.cM t ht).2.1,fun q hq=> (r.cM t ht).2.2 q (p.mem_iff.mpr hq)⟩ }
theorem Wk.perm{vars:dL}{mem mem':Mem}(p:mem.Perm mem'):Wk g ⟨vars,mem⟩ ⟨vars,mem'⟩:=fun F s r=>
 ⟨F,FM.le.refl F, {r.toRepM.perm p with ns:=r.ns,nv:=r.nv,gH:=r.gH,gL:=r.gL,fX:=fun q hq=>r.fX q (p.mem_iff.mpr hq),gI:=r.gI }⟩
def Fn(g:Gd)(fv:RV)(xs:List RV)(kn:List Str)(f_:List RV)(os:Os)(x:RV)(os':Os):Prop:=
 ∀ρ M,WC g (ah ρ fv) (xs.map (ah ρ)) kn (f_.map (ah ρ)) (aI ρ os++M) fun v m=>v=ah ρ x∧m=aI ρ os'++M
noncomputable def rN(k:Nat)(os:Os):Os:=os.rec [] fun p t ih=>cond (beq p.1 k) t (p::ih)
theorem jB{k:Nat}{o o':EO}(ρ:eJ){os:Os}(h:dO k os=some o):(aI ρ os).Perm (aI ρ [(k,o)]++aI ρ (rN k os))∧(aI ρ (gS k o' os)).Perm (aI ρ [(k,o')]++aI ρ (rN k os)):=by
 show _∧_
 rw[show aI ρ [(k,o)]=o.mem ρ k++ [] from rfl,show aI ρ [(k,o')]=o'.mem ρ k++ [] from rfl,YC,YC]
 induction os with
 | nil=>cases h
 | cons p t ih=>
  have h':cond (beq p.1 k) (some p.2) (dO k t)=some o:=h
  have e1:gS k o' (p::t)=cond (beq p.1 k) ((p.1,o')::t) (p::gS k o' t):=rfl
  have e2:rN k (p::t)=cond (beq p.1 k) t (p::rN k t):=rfl
  rw[e1,e2]
  cases hb:beq p.1 k with
  | true=>
   rw[hb] at h';cases h';rw[← YE hb]
   exact⟨.refl _,.refl _⟩
  | false=>
   rw[hb] at h'
   obtain⟨i1,i2⟩:=ih h'
   have sw:∀(a b c:Mem),(a++(b++c)).Perm (b++(a++c)):=fun a b c=>by rw[← Yc,← Yc];exact List.perm_append_comm.append_right c
   exact⟨(i1.append_left (p.2.mem ρ p.1)).trans (sw ..),(i2.append_left (p.2.mem ρ p.1)).trans (sw ..)⟩
theorem De{fv:RV}{xs:List RV}{kn:List Str}{f_:List RV}{x:RV}{ins outs os':Os}{R:Mem}{k:Hint}{K:RV→S→Prop}(h:Fn C.g fv xs kn f_ ins x outs)(p1:(aI ρ s.os).Perm (aI ρ ins++R))(p2:(aI ρ os').Perm (aI ρ outs++R))(q:K x ⟨s.vs,os',k⟩):
  b8 C.g (ah ρ fv) (xs.map (ah ρ)) kn (f_.map (ah ρ)) (tr C ρ M s) (PV C ρ M K):=
 dD fun F sh f vs kvs r hf hv hk Rr kk=>h ρ (R++M) F sh f vs kvs (r.perm (by rw[← Yc];exact p1.append_right M)) hf hv hk Rr fun F' y v m s' l r' hy hq=>by
  obtain⟨rfl,rfl⟩:=hq
  exact kk F' _ v _ s' l r' hy (.mk (s:=⟨s.vs,os',k⟩) (Wk.perm (by rw[← Yc];exact p2.symm.append_right M)) q)
def y8(C:Ctx)(fv:RV)(xs:List RV)(kn:List Str)(f_:List RV)(s:S)(K:RV→S→Prop):Prop:=
 s.h.casesOn False (fun O O=>False) (fun O O=>False) (fun O=>False) (fun O O=>False) (fun O O O O=>False)
  (fun x outs k=>outs.casesOn (Fn C.g fv xs kn f_ [] x []∧K x ⟨s.vs,s.os,k⟩) fun p r=>oR (dO p.1 s.os) fun o=>r.casesOn (Fn C.g fv xs kn f_ [(p.1,o)] x [(p.1,p.2)]∧K x ⟨s.vs,gS p.1 p.2 s.os,k⟩)
   fun q O=>oR (dO q.1 (rN p.1 s.os)) fun o2=>Fn C.g fv xs kn f_ [(p.1,o),(q.1,o2)] x [(p.1,p.2),(q.1,o2)]∧K x ⟨s.vs,gS p.1 p.2 s.os,k⟩)
  (fun O O O O O=>False) (fun O O O O O=>False) (fun O O O=>False)
theorem ph{fv:RV}{xs:List RV}{kn:List Str}{f_:List RV}{K:RV→S→Prop}(h:y8 C fv xs kn f_ s K):b8 C.g (ah ρ fv) (xs.map (ah ρ)) kn (f_.map (ah ρ)) (tr C ρ M s) (PV C ρ M K):=by
 obtain⟨vs,os,k⟩:=s
 cases k with
 | call x outs k=>
  cases outs with
  | nil=>exact De (s:=⟨vs,os,_⟩) (ins:=[]) (outs:=[]) (R:=aI ρ os) h.1 (.refl _) (.refl _) h.2
  | cons p r=>
   obtain⟨o,ho,h⟩:=dj h
   obtain⟨p1,p2⟩:=jB ρ (o':=p.2) ho
   cases r with
   | nil=>exact De (s:=⟨vs,os,_⟩) h.1 p1 p2 h.2
   | cons q r=>
    obtain⟨o2,Wn,h⟩:=dj h
    obtain⟨p3,_⟩:=jB ρ (o':=o2) Wn
    have e:∀o:EO,aI ρ [(p.1,o),(q.1,o2)]=aI ρ [(p.1,o)]++aI ρ [(q.1,o2)]:=fun o=>by show _++(_++ [])=(_++ [])++(_++ []);simp
    exact De (s:=⟨vs,os,_⟩) (R:=aI ρ (rN q.1 (rN p.1 os))) h.1 (by rw[e,Yc];exact p1.trans (p3.append_left _)) (by rw[e,Yc];exact p2.trans (p3.append_left _)) h.2
 | _=>exact h.elim
def a1(l:List RV)(f:RV→Prop)(d:Prop):Prop:=l.casesOn d fun a r=>r.casesOn (f a) fun O O=>d
def a2(l:List RV)(f:RV→RV→Prop)(d:Prop):Prop:=l.casesOn d fun a r=>r.casesOn d fun b r=>r.casesOn (f a b) fun O O=>d
def a3(l:List RV)(f:RV→RV→RV→Prop)(d:Prop):Prop:=l.casesOn d fun a r=>r.casesOn d fun b r=>r.casesOn d fun c r=>r.casesOn (f a b c) fun O O=>d
section
variable {l:List RV}{d:Prop}{P:List RV→Prop}
theorem ka{f:RV→Prop}(h:a1 l f d)(h1:∀a,f a→P [a])(h2:d→P l):P l:=by
 cases l with | nil=>exact h2 h | cons a r=>cases r with | nil=>exact h1 a h | cons=>exact h2 h
theorem rO{f:RV→RV→Prop}(h:a2 l f d)(h1:∀a b,f a b→P [a,b])(h2:d→P l):P l:=by
 cases l with | nil=>exact h2 h | cons a r=>cases r with | nil=>exact h2 h | cons b r=>cases r with | nil=>exact h1 a b h | cons=>exact h2 h
theorem Df{f:RV→RV→RV→Prop}(h:a3 l f d)(h1:∀a b c,f a b c→P [a,b,c])(h2:d→P l):P l:=by
 cases l with | nil=>exact h2 h | cons a r=>cases r with | nil=>exact h2 h | cons b r=>cases r with | nil=>exact h2 h | cons c r=>cases r with | nil=>exact h1 a b c h | cons=>exact h2 h
end
abbrev dZ(C:Ctx)(ρ:eJ)(M:Mem)(s:S)(K:RV→S→Prop)(f:List Value→Sem Value)(xs:List AV):Prop:=Wl C.g VR f xs (tr C ρ M s) (PV C ρ M K)
def SumTo(l:List AV)(y:AV):Prop:= ∃ns:List Int,l=ns.map .int∧y= .int ns.sum
def Dg(l:List AV)(y:AV):Prop:= ∃ns:List Int,l=ns.map .int∧0<ns.length∧∀m,m∈ns→(∀a,a∈ns→a≤m)→y= .int m
def lZ(l:List AV)(y:AV):Prop:= ∃ns:List Int,l=ns.map .int∧ns.length<64∧∀GJ:List Int,GJ.Perm ns→GJ.Pairwise (·≤·)→y= .lst (GJ.map .int)
def Dh(x:Str)(y:AV):Prop:= ∃n:Int,x=aB n∧0≤n∧n<10 ^ 10∧y= .int n
def OT(xs:List RV)(s:S)(K:RV→S→Prop):Prop:=a1 xs (fun a=>la a s (fun l=>l.length≤sizeLine∧K (.v (.int l.length)) s)<|mS a (fun x=>x.length≤sizeLine∧K (.v (.int x.length)) s) False) False
def Di(xs:List RV)(s:S)(K:RV→S→Prop):Prop:=a1 xs (fun a=>mI a (fun n=>K (.v (.B2 0 n 1)) s) False)<|a2 xs (fun a b=>ii a b (fun i j=>K (.v (.B2 i j 1)) s) False) False
def OU(xs:List RV)(s:S)(K:RV→S→Prop):Prop:=a1 xs (fun a=>mL a (fun l=>hV s fun y s=>SumTo l y∧K (.v y) s) False) False
def OV(xs:List RV)(s:S)(K:RV→S→Prop):Prop:=a1 xs (fun a=>mL a (fun l=>hV s fun y s=>Dg l y∧K (.v y) s) False)<|a2 xs (fun a b=>ii a b (fun i j=>K (.v (.int (if j > i then j else i))) s) False)<|
 a3 xs (fun a b c=>ff a b (fun x y=>mF c (fun z=>K (.v (.aT (mP Float64.gt x y z))) s) False) False) False
def OW(xs:List RV)(s:S)(K:RV→S→Prop):Prop:=a3 xs (fun a b c=>ff a b (fun x y=>mF c (fun z=>K (.v (.aT (mP Float64.lt x y z))) s) False) False) False
def y9(xs:List RV)(s:S)(K:RV→S→Prop):Prop:=a1 xs (fun a=>mL a (fun l=>hV s fun y s=>lZ l y∧K (.v y) s) False) False
def OX(xs:List RV)(s:S)(K:RV→S→Prop):Prop:=a1 xs (fun a=>mI a (fun n=>n.natAbs<1000000∧K (.v (.str (aB n))) s) False) False
def OY(xs:List RV)(s:S)(K:RV→S→Prop):Prop:=a1 xs (fun a=>mF a (fun x=>isFinite x=true∧K (.v (.int (bZ x))) s)<|mS a (fun x=>hV s fun y s=>Dh x y∧K (.v y) s) False) False
noncomputable def isInt(b:BI):Bool:=b.casesOn false false false false false false false true false false false false false
def Uz(x:AV)(c:Bool):Prop:=(∃i,x= .int i∧c=true)∨∃l,x= .tup l∧c=false
def OZ(xs:List RV)(s:S)(K:RV→S→Prop):Prop:=a2 xs (fun a b=>mG b (fun t=>gT (isInt t) (SK s (fun c s=>mV a (fun x=>Uz x c∧K (.v (.bool c)) s) False) (mI a (fun O=>K (.v (.bool true)) s)<|mT a (fun O=>K (.v (.bool false)) s) False))) False) False
theorem Dj{b:BI}(h:isInt b=true):b= .int:=by cases b <;> first | rfl | cases h
theorem Hh{xs:List RV}{K:RV→S→Prop}(h:OT xs s K):dZ C ρ M s K (fun vs=>call (.builtin "len") vs) (xs.map (ah ρ)):=
 ka (P:=fun xs=>dZ C ρ M s K _ (xs.map (ah ρ))) h (fun a h=>o_ (P:=fun x=>dZ C ρ M s K _ [x]) h ρ M (fun x l hL h=>Cg hL h.1 (dY h.2)) fun h=>gi (P:=fun a=>dZ C ρ M s K _ [ah ρ a]) h (fun x h=>Am h.1 (dY h.2)) False.elim) False.elim
theorem AB{xs:List RV}{K:RV→S→Prop}(h:Di xs s K):dZ C ρ M s K (fun vs=>call (.type "range") vs) (xs.map (ah ρ)):=
 ka (P:=fun xs=>dZ C ρ M s K _ (xs.map (ah ρ))) h (fun a h=>fh (P:=fun a=>dZ C ρ M s K _ [ah ρ a]) h (fun x h=>Cp (dY h)) False.elim) fun h=>
 rO (P:=fun xs=>dZ C ρ M s K _ (xs.map (ah ρ))) h (fun a b h=>eQ (P:=fun a b=>dZ C ρ M s K _ [ah ρ a,ah ρ b]) h (fun i j h=>Cq (dY h)) False.elim) False.elim
theorem LI{l:List AV}{y:AV}{st:AS}{Q:AV→AS→Prop}(h:SumTo l y)(q:Q y st):Wl g VR (fun vs=>call (.builtin "sum") vs) [.lst l] st Q:=by obtain⟨ns,rfl,rfl⟩:=h;exact Oi q
theorem LJ{l:List AV}{y:AV}{st:AS}{Q:AV→AS→Prop}(h:Dg l y)(q:Q y st):Wl g VR (fun vs=>call (.builtin "max") vs) [.lst l] st Q:=by obtain⟨ns,rfl,h0,h⟩:=h;exact Oj h0 fun m h1 h2=>by rw[← h m h1 h2];exact q
theorem Hi{l:List AV}{y:AV}{st:AS}{Q:AV→AS→Prop}(h:lZ l y)(q:Q y st):Wl g VR (fun vs=>call (.builtin "sorted") vs) [.lst l] st Q:=by obtain⟨ns,rfl,h0,h⟩:=h;exact CD h0 fun m h1 h2=>by rw[← h m h1 h2];exact q
theorem LK{x:Str}{y:AV}{st:AS}{Q:AV→AS→Prop}(h:Dh x y)(q:Q y st):Wl g VR (fun vs=>call (.type "int") vs) [.str x] st Q:=by obtain⟨n,rfl,h0,h1,rfl⟩:=h;exact Au h0 h1 q
theorem Hj{xs:List RV}{K:RV→S→Prop}(h:OU xs s K):dZ C ρ M s K (fun vs=>call (.builtin "sum") vs) (xs.map (ah ρ)):=
 ka (P:=fun xs=>dZ C ρ M s K _ (xs.map (ah ρ))) h (fun a h=>gU (P:=fun a=>dZ C ρ M s K _ [ah ρ a]) h (fun l h=>gj h fun y k h=>LI h.1 (pe h.2)) False.elim) False.elim
theorem xv{xs:List RV}{K:RV→S→Prop}(h:y9 xs s K):dZ C ρ M s K (fun vs=>call (.builtin "sorted") vs) (xs.map (ah ρ)):=
 ka (P:=fun xs=>dZ C ρ M s K _ (xs.map (ah ρ))) h (fun a h=>gU (P:=fun a=>dZ C ρ M s K _ [ah ρ a]) h (fun l h=>gj h fun y k h=>Hi h.1 (pe h.2)) False.elim) False.elim
theorem Hk{xs:List RV}{K:RV→S→Prop}(h:OV xs s K):dZ C ρ M s K (fun vs=>call (.builtin "max") vs) (xs.map (ah ρ)):=
 ka (P:=fun xs=>dZ C ρ M s K _ (xs.map (ah ρ))) h (fun a h=>gU (P:=fun a=>dZ C ρ M s K _ [ah ρ a]) h (fun l h=>gj h fun y k h=>LJ h.1 (pe h.2)) False.elim) fun h=>
 rO (P:=fun xs=>dZ C ρ M s K _ (xs.map (ah ρ))) h (fun a b h=>eQ (P:=fun a b=>dZ C ρ M s K _ [ah ρ a,ah ρ b]) h (fun i j h=>K_ (dY h)) False.elim) fun h=>
 Df (P:=fun xs=>dZ C ρ M s K _ (xs.map (ah ρ))) h (fun a b c h=>kZ (P:=fun a b=>dZ C ρ M s K _ [ah ρ a,ah ρ b,ah ρ c]) h (fun i j h=>rJ (P:=fun c=>dZ C ρ M s K _ [.aT i,.aT j,ah ρ c]) h (fun z h=>Lo (dY h)) False.elim) False.elim) False.elim
theorem Hl{xs:List RV}{K:RV→S→Prop}(h:OW xs s K):dZ C ρ M s K (fun vs=>call (.builtin "min") vs) (xs.map (ah ρ)):=
 Df (P:=fun xs=>dZ C ρ M s K _ (xs.map (ah ρ))) h (fun a b c h=>kZ (P:=fun a b=>dZ C ρ M s K _ [ah ρ a,ah ρ b,ah ρ c]) h (fun i j h=>rJ (P:=fun c=>dZ C ρ M s K _ [.aT i,.aT j,ah ρ c]) h (fun z h=>Lq (dY h)) False.elim) False.elim) False.elim
theorem Hm{xs:List RV}{K:RV→S→Prop}(h:OX xs s K):dZ C ρ M s K (fun vs=>call (.type "str") vs) (xs.map (ah ρ)):=
 ka (P:=fun xs=>dZ C ρ M s K _ (xs.map (ah ρ))) h (fun a h=>fh (P:=fun a=>dZ C ρ M s K _ [ah ρ a]) h (fun x h=>At h.1 (dY h.2)) False.elim) False.elim
theorem Hn{xs:List RV}{K:RV→S→Prop}(h:OY xs s K):dZ C ρ M s K (fun vs=>call (.type "int") vs) (xs.map (ah ρ)):=
 ka (P:=fun xs=>dZ C ρ M s K _ (xs.map (ah ρ))) h (fun a h=>rJ (P:=fun a=>dZ C ρ M s K _ [ah ρ a]) h (fun x h=>Ax h.1 (dY h.2)) fun h=>gi (P:=fun a=>dZ C ρ M s K _ [ah ρ a]) h (fun x h=>gj h fun y k h=>LK h.1 (pe h.2)) False.elim) False.elim
theorem Ho{xs:List RV}{K:RV→S→Prop}(h:OZ xs s K):dZ C ρ M s K (fun vs=>call (.builtin "isinstance") vs) (xs.map (ah ρ)):=
 rO (P:=fun xs=>dZ C ρ M s K _ (xs.map (ah ρ))) h (fun a b h=>y0 (P:=fun b=>dZ C ρ M s K _ [ah ρ a,ah ρ b]) h (fun t h=>by
  obtain⟨ht,h2⟩:=aC h
  cases Dj ht
  refine CY h2 (fun c k h=>dQ (P:=fun a=>dZ C ρ M s K _ [ah ρ a,.val (.type "int")]) h (fun x h=>?_) False.elim) fun h=>?_
  ·obtain⟨⟨i,rfl,rfl⟩ |⟨l,rfl,rfl⟩,h⟩:=h
   ·exact rA (pe h)
   ·exact rB (pe h)
  exact fh (P:=fun a=>dZ C ρ M s K _ [ah ρ a,.val (.type "int")]) h (fun x h=>rA (dY h)) fun h=>rI (P:=fun a=>dZ C ρ M s K _ [ah ρ a,.val (.type "int")]) h (fun x h=>rB (dY h)) False.elim) False.elim) False.elim
def UA(b:BI)(xs:List RV)(s:S)(K:RV→S→Prop):Prop:=b.casesOn (OT xs s K) (Di xs s K) (OU xs s K) (OV xs s K) (OW xs s K) (y9 xs s K) (OX xs s K) (OY xs s K) (OZ xs s K) False False False False
theorem LL{b:BI}{xs:List RV}{K:RV→S→Prop}(h:UA b xs s K):b8 C.g (.val b.val) (xs.map (ah ρ)) [] [] (tr C ρ M s) (PV C ρ M K):=by
 cases b with
 | len=>exact bD (Hh h)
 | range=>exact eI (AB h)
 | sum=>exact bD (Hj h)
 | max=>exact bD (Hk h)
 | min=>exact bD (Hl h)
 | sorted=>exact bD (xv h)
 | str=>exact eI (Hm h)
 | int=>exact eI (Hn h)
 | isinstance=>exact bD (Ho h)
 | _=>exact h.elim
theorem dE(fr:cz C ρ env)(pos:Pos)(es:List (SE C)):((backTo pos (starEach (iV es) env)).any (·.1))=false:=by
 induction es with
 | nil=>rfl
 | cons x t ih=>show((backTo pos (starEach (x.e::iV t) env)).any (·.1))=false;rw[x.fm.st];exact ih
theorem eo(env:Env)(es:List (SE C)):iV es=[]∨∃e rest,iV es=e::rest∧starEach (e::rest) env=(false,eval e env)::starEach rest env:=by
 cases es with | nil=>exact .inl rfl | cons x t=>exact .inr ⟨x.e,iV t,rfl,x.fm.st _ _⟩
def Dk(C:Ctx)(f:RV)(xs:List RV)(s:S)(K:RV→S→Prop):Prop:=mG f (fun b=>UA b xs s K)<|y8 C f xs [] [] s K
theorem Dl{f:RV}{xs:List RV}{K:RV→S→Prop}(h:Dk C f xs s K):b8 C.g (ah ρ f) (xs.map (ah ρ)) [] [] (tr C ρ M s) (PV C ρ M K):=
 y0 (P:=fun f=>b8 C.g (ah ρ f) (xs.map (ah ρ)) [] [] (tr C ρ M s) (PV C ρ M K)) h (fun b h=>LL h) fun h=>ph (f_:=[]) h
theorem Dm{f:SE C}{x:Str}{p:Pos}(hf:f.e= .Name x p){es:List (SE C)}{pos:Pos}{K:RV→S→Prop}(fr:cz C ρ env)(h:f.ev s fun fv s1=>Ay es s1 fun xs s2=>Dk C fv xs s2 K):
  W0 C.g VR (eval (.Call (.Name x p) (iV es) [] pos) env) (tr C ρ M s) (PV C ρ M K):=
 gb (by rw[← hf];exact cA (f.ok fr h) fun fv s1 h=>qV (gC fr pos h) fun xs s2 h=>Dl h) rfl (by rw[dE fr];rfl) (eo _ _)
noncomputable def SE.M5(e:Expr)(ev:S→(RV→S→Prop)→Prop)(ai sw:Bool)(ok:∀ {ρ env M s K},cz C ρ env→ev s K→W0 C.g VR (eval e env) (tr C ρ M s) (PV C ρ M K))
  (he:∀env,isTrue e env (eval e env)=(do let v ← eval e env;standAt e.pos;holding [v] (truthy v))) (fm:Lw e ai sw):SE C:=
 ⟨e,ev,fun s K=>ev s fun a s1=>vt a s1 K,ai,sw,ok,fun fr h=>bE (cA (ok fr h) fun O O h=>kY h) (he _),fm⟩
noncomputable def SE.JI(f:SE C)(x:Str)(p:Pos)(hf:f.e= .Name x p)(es:List (SE C))(pos:Pos):SE C:=
 SE.M5 (.Call (.Name x p) (iV es) [] pos) (fun s K=>f.ev s fun fv s1=>Ay es s1 fun xs s2=>Dk C fv xs s2 K) false true (fun fr h=>Dm hf fr h) (fun O=>rfl) ⟨fun O O=>rfl,fun O=>rfl,fun O O=>rfl,fun h=> (nomatch h),fun O O O O=>rfl⟩
noncomputable def SE.call(i:Nat)(fp:Pos)(es:List (SE C))(pos:Pos):SE C:=SE.JI (SE.qU i fp) _ fp rfl es pos
noncomputable def SE.cl(i l a:Nat)(es:List (SE C))(pos:Pos:=cP (nP (lD C.gx i).1 l a) es):SE C:=SE.call i (nP (lD C.gx i).1 l a) es pos
noncomputable def SE.O0(i:Nat)(fp:Pos)(es:List (SE C))(pos:Pos):SE C:=SE.JI (SE.loc i fp) _ fp rfl es pos
noncomputable def SE.SP(i l a:Nat)(es:List (SE C))(pos:Pos:=cP (nP (lD C.loc i) l a) es):SE C:=SE.O0 i (nP (lD C.loc i) l a) es pos
end
end
end
section
set_option tactic.hygienic true
section
section
variable {g:Gd}{F:FM}{C:Ctx}{ρ ρ':eJ}{env:Env}{M:Mem}{s:S}{α β:Type}
inductive RF | next | brk | cont | ret (v:RV)
noncomputable def UB(ρ:eJ):RF→f9
 | .next=> .next
 | .brk=> .brk
 | .cont=> .cont
 | .ret v=> .ret (ah ρ v)
def Pin(C:Ctx)(ρ ρ':eJ):Prop:= ∀k,k<C.pin→ρ' k=ρ k
theorem Pin.refl:Pin C ρ ρ:=fun O O=>rfl
theorem Pin.trans(a:Pin C ρ ρ')(b:Pin C ρ' pi):Pin C ρ pi:=fun k h=> (b k h).trans (a k h)
theorem cz.pin(fr:cz C ρ env)(p:Pin C ρ ρ'):cz C ρ' env:=
 ⟨fr.e,let⟨cs,N,h⟩:=fr.N;⟨cs,N,fun q hq=>by rw[p _ (fr.hc q hq).2];exact h q hq⟩,fr.hl,fr.hc,fr.hg,fr.hx,fr.h8,fr.nb,fr.kd,fr.lm⟩
inductive PF(C:Ctx)(ρ:eJ)(M:Mem)(K:RF→S→Prop):f9→AS→Prop
 | mk {ρ' f s st} (p:Pin C ρ ρ') (w:Wk C.g st (tr C ρ' M s)) (k:K f s):PF C ρ M K (UB ρ' f) st
theorem PF.pin{K:RF→S→Prop}{a:f9}{st:AS}(p:Pin C ρ ρ')(h:PF C ρ' M K a st):PF C ρ M K a st:=by obtain⟨p',w',k⟩:=h;exact .mk (p.trans p') w' k
theorem pf{K:RF→S→Prop}{f:RF}(k:K f s):PF C ρ M K (UB ρ f) (tr C ρ M s):= .mk Pin.refl Wk.refl k
theorem je{f:Value→Sem Unit}{x:AV}{st:AS}{K:S→Prop}{G:Unit→AS→Prop}(h:W1 C.g UR f x st (PU C ρ M K))(k:∀s,K s→G () (tr C ρ M s)):W1 C.g UR f x st G:=fun F s v r hv K' E kk=>h F s v r hv K' E fun F' b a cg s' l r hb q=>by
 obtain⟨w,q⟩:=q
 obtain⟨F2,l2,r2⟩:=w F' s' r
 exact kk F2 _ a _ s' (l.trans l2) r2 trivial (k _ q)
structure SS(C:Ctx) where
 st:Stmt
 ex:S→(RF→S→Prop)→Prop
 ok:∀ {ρ env M s K},cz C ρ env→ex s K→W0 C.g FR (exec st env) (tr C ρ M s) (PF C ρ M K)
structure SB(C:Ctx) where
 ss:List Stmt
 ex:S→(RF→S→Prop)→Prop
 ok:∀ {ρ env M s K},cz C ρ env→ex s K→W0 C.g FR (execs ss env) (tr C ρ M s) (PF C ρ M K)
def fN(f:RF)(a b:Prop):Prop:=f.casesOn a b b fun O=>b
noncomputable def SB.nil:SB C:=⟨[],fun s K=>K .next s,fun fr h=>bu (pf (f:= .next) h)⟩
noncomputable def SB.cons(a:SS C)(r:SB C):SB C:=⟨a.st::r.ss,fun s K=>a.ex s fun f s1=>fN f (r.ex s1 K) (K f s1),fun {ρ env M s K} fr h=>ak ((a.ok fr h).mono fun f st q=>by
 obtain⟨p,w,k⟩:=q
 rename_i ρ' f s'
 cases f with
 | next=>exact W0.weak w ((r.ok (fr.pin p) k).mono fun O O q=>q.pin p)
 | brk=>exact .mk (f:= .brk) p w k
 | cont=>exact .mk (f:= .cont) p w k
 | ret v=>exact .mk (f:= .ret v) p w k)⟩
noncomputable def SS.ret(e:SE C)(pos:Pos:=ig e.p e.p 7 0):SS C:=⟨.Return (some e.e) pos,fun s K=>e.ev s fun v s1=>K (.ret v) s1,fun {ρ env M s K} fr h=>kK (cA (G:=fun v st=>PF C ρ M K (.ret v) st) (e.ok fr h) fun v s1 h=>pf (f:= .ret v) h)⟩
noncomputable def SS.exp(e:SE C)(pos:Pos:=e.p):SS C:=⟨.Expr e.e pos,fun s K=>gT e.sw (e.ev s fun v s1=>mN v (K .next s1)<|mS v (fun O=>K .next s1) False),
 fun {ρ env M s K} fr h=>kW (cA (G:=fun v st=>jb v∧PF C ρ M K .next st) (e.ok fr (aC h).2) fun v s1 h=>yZ (P:=fun v=>jb (ah ρ v)∧PF C ρ M K .next (tr C ρ M s1)) h (fun h=> ⟨.none,pf (f:= .next) h⟩) fun h=>
  gi (P:=fun v=>jb (ah ρ v)∧PF C ρ M K .next (tr C ρ M s1)) h (fun x h=> ⟨.str x,pf (f:= .next) h⟩) False.elim) (cH fr.e) (e.fm.sp (aC h).1 _ _ _)⟩
noncomputable def SS.ite(t:SE C)(b o:SB C)(pos:Pos):SS C:=⟨.If t.e b.ss o.ss pos,fun s K=>t.tv s fun c s1=>br c s1 (b.ex · K) (o.ex · K),
 fun {ρ env M s K} fr h=>qO (vq (G:=fun c aN=>if c=true then W0 C.g FR (execs b.ss env) aN (PF C ρ M K) else W0 C.g FR (execs o.ss env) aN (PF C ρ M K)) (t.tok fr h) fun c s1 h=>
  rK (P:=fun c=>if c=true then W0 C.g FR (execs b.ss env) (tr C ρ M s1) (PF C ρ M K) else W0 C.g FR (execs o.ss env) (tr C ρ M s1) (PF C ρ M K)) h (fun k h=>b.ok (s:=⟨s1.vs,s1.os,k⟩) fr h) fun k h=>o.ok (s:=⟨s1.vs,s1.os,k⟩) fr h)⟩
inductive TN | loc (i:Nat) | d7 (i:Nat)
noncomputable def TN.name(C:Ctx)(t:TN):Str:=t.casesOn (fun i=>lD C.loc i) fun i=> (lD C.d7 i).1
def TN.set(C:Ctx)(t:TN)(v:RV)(s:S)(f:S→Prop):Prop:=t.casesOn (fun i=>oR (mQ C.loc i) fun O=>f ⟨tL i v s.vs,s.os,s.h⟩)
 fun i=>oR (mQ C.d7 i) fun p=>gT (p.2.1== .cell) (oC (dO p.2.2 s.os) fun O=>f ⟨s.vs,gS p.2.2 (.cell (some v)) s.os,s.h⟩)
theorem Upd.pre{a:Addr}(u:Upd m a o o' m'):∀m1:Mem,Upd (m1++m) a o o' (m1++m'):=fun m1=>by induction m1 with | nil=>exact u | cons p t ih=>exact .there ih
theorem gV{k:Nat}{o o':EO}{a a':AO}(ρ:eJ)(M:Mem)(h1:o.mem ρ k=[(ρ k,a)])(h2:o'.mem ρ k=[(ρ k,a')]){os:Os}(h:dO k os=some o):Upd (aI ρ os++M) (ρ k) a a' (aI ρ (gS k o' os)++M):=by
 induction os with
 | nil=>cases h
 | cons p t ih=>
  have h':cond (beq p.1 k) (some p.2) (dO k t)=some o:=h
  have e1:gS k o' (p::t)=cond (beq p.1 k) ((p.1,o')::t) (p::gS k o' t):=rfl
  rw[e1]
  cases hb:beq p.1 k with
  | true=>
   rw[hb] at h';cases h'
   have e:=YE hb
   show Upd ((p.2.mem ρ p.1++aI ρ t)++M) _ _ _ ((o'.mem ρ p.1++aI ρ t)++M)
   rw[e,h1,h2];exact .here
  | false=>
   rw[hb] at h'
   show Upd ((p.2.mem ρ p.1++aI ρ t)++M) _ _ _ ((p.2.mem ρ p.1++aI ρ (gS k o' t))++M)
   rw[Yc,Yc]
   exact(ih h').pre _
theorem TN.ok{t:TN}{f:S→Prop}(fr:cz C ρ env)(h:t.set C v s f):W1 C.g UR (storeName env (t.name C)) (ah ρ v) (tr C ρ M s) (PU C ρ M f):=by
 obtain⟨cs,N,tn⟩:=fr.N
 cases t with
 | loc i=>
  obtain⟨x,hx,h⟩:=dj h
  obtain⟨o,u⟩:=vp (ρ:=ρ) (v:=v) (vs:=s.vs) hx
  show W1 C.g UR (storeName env (lD C.loc i)) _ _ _
  rw[ij hx]
  exact dp N (fr.hl _ (c_ hx)) (j6 fr.e u (PU.mk (s:=⟨tL i v s.vs,s.os,s.h⟩) Wk.refl h))
 | d7 i=>
  obtain⟨p,hx,h⟩:=dj h
  obtain⟨hk,h⟩:=aC h
  obtain⟨o,ho,h⟩:=CZ h
  show W1 C.g UR (storeName env (lD C.d7 i).1) _ _ _
  rw[ij hx]
  have Dn:p.2.1= .cell:=by cases e:p.2.1 <;> first | rfl |(rw[e] at hk;cases hk)
  have hm:=(fr.hc _ (c_ hx)).1
  rw[Dn] at hm
  exact dp N hm (I8 fr.e (tn _ (c_ hx)) (gV ρ M (o':= .cell (some v)) rfl rfl ho) (PU.mk (s:=⟨s.vs,gS p.2.2 (.cell (some v)) s.os,s.h⟩) Wk.refl h))
noncomputable def SS.asg(t:TN)(px:Pos)(e:SE C)(pos:Pos):SS C:=⟨.Assign [.Name (t.name C) px] e.e pos,fun s K=>gT e.sw (e.ev s fun v s1=>t.set C v s1 fun s2=>K .next s2),
 fun {ρ env M s K} fr h=>bC (cA (e.ok fr (aC h).2) fun v s1 h=>je (G:=fun O st=>PF C ρ M K .next st) (TN.ok fr h) fun s h=>pf (f:= .next) h) (e.fm.sp (aC h).1 _ _ _)⟩
end
end
end
section
section
section
variable {g:Gd}{F:FM}{C:Ctx}{ρ ρ':eJ}{env:Env}{M:Mem}{s:S}{α β:Type}
inductive MT | append | insert | lower | upper | swapcase | index | split
noncomputable def MT.name(m:MT):Str:=m.casesOn "append" "insert" "lower" "upper" "swapcase" "index" "split"
noncomputable def MT.id(m:MT):String:=m.casesOn "list.append" "list.insert" "str.lower" "str.upper" "str.swapcase" "str.index" "str.split"
noncomputable def MT.Ri(m:MT):Bool:=m.casesOn true true false false false false false
theorem MT.JJ(m:MT)(h:m.Ri=false):Slot "str" m.name m.id∧typeOf (.builtin m.id)=pure (.type "method_descriptor"):=by
 cases m with
 | append=>cases h
 | insert=>cases h
 | lower=>exact⟨abb,abc⟩
 | upper=>exact⟨PySem.F.slot_str_upper,PySem.F.type_str_upper⟩
 | swapcase=>exact⟨PySem.F.slot_str_swapcase,PySem.F.type_str_swapcase⟩
 | index=>exact⟨PySem.F.slot_str_index,PySem.F.type_str_index⟩
 | split=>exact⟨PySem.F.slot_str_split,PySem.F.type_str_split⟩
theorem MT.JK(m:MT)(h:m.Ri=true):Slot "list" m.name m.id∧typeOf (.builtin m.id)=pure (.type "method_descriptor"):=by
 cases m with
 | append=>exact⟨aaI,aaJ⟩
 | insert=>exact⟨PySem.F.slot_list_insert,PySem.F.type_list_insert⟩
 | _=>cases h
def SQ(m:MT)(a:RV)(s:S)(f:Prop):Prop:=cond m.Ri (mR a (fun k=>oL (dO k s.os) (fun O=>f) False) False) (mS a (fun O=>f) False)
theorem LM{m:MT}{f:Prop}{P:Prop}(h:SQ m a s f)(h1:gd g (ah ρ a) m.name (.val (.builtin m.id)) [ah ρ a] (tr C ρ M s)→f→P):P:=by
 unfold SQ at h
 cases e:m.Ri with
 | true=>
  rw[e] at h
  exact jc (P:=fun a=> (gd g (ah ρ a) m.name (.val (.builtin m.id)) [ah ρ a] (tr C ρ M s)→f→P)→P) h (fun k h h1=>j' h (fun l e' h=>h1 (wZ (Yn _ (dR e' _ E6)) (m.JK e).1 (m.JK e).2) h) False.elim) (fun h O=>h.elim) h1
 | false=>
  rw[e] at h
  exact gi (P:=fun a=> (gd g (ah ρ a) m.name (.val (.builtin m.id)) [ah ρ a] (tr C ρ M s)→f→P)→P) h (fun k h h1=>h1 (yP (m.JJ e).1 (m.JJ e).2) h) (fun h O=>h.elim) h1
def rP(x:Str)(y:AV):Prop:= ∃ws,PySem.wordsOf x=ws∧(Builtin.Str.spaceWords x (x.length+1)==[(0,x.length)])=false∧x.length≤100000∧ws.length≤100000∧y= .lst (ws.map .str)
def Do(x y:Str)(v:AV):Prop:= ∃i rest,Builtin.Str.occurrences x y 0 x.length 1=i::rest∧v= .int (i:Nat)
def a0(l:List RV)(f:Prop):Prop:=l.casesOn f fun O O=>False
def z1(l:List RV)(f:RV→Prop):Prop:=a1 l f False
def y_(a:RV)(xs:List RV)(s:S)(K:RV→S→Prop):Prop:=z1 xs fun x=>mV x (fun v=>mR a (fun k=>oL (dO k s.os) (fun l=>l.length≤sizeLine∧K (.v .none) ⟨s.vs,gS k (.list (l++ [v])) s.os,s.h⟩) False) False) False
def za(a:RV)(xs:List RV)(s:S)(K:RV→S→Prop):Prop:=a2 xs (fun i x=>mI i (fun i=>mV x (fun v=>mR a (fun k=>oL (dO k s.os) (fun l=>0≤i∧i≤l.length∧l.length≤1000000∧K (.v .none) ⟨s.vs,gS k (.list (l.take i.toNat++v::l.drop i.toNat)) s.os,s.h⟩) False) False) False) False) False
def zb(f:Str→Str)(a:RV)(xs:List RV)(s:S)(K:RV→S→Prop):Prop:=a0 xs (mS a (fun x=>x.length≤5592405∧K (.v (.str (f x))) s) False)
def Dp(a:RV)(xs:List RV)(s:S)(K:RV→S→Prop):Prop:=z1 xs fun b=>ss a b (fun x y=>hV s fun v s=>Do x y v∧K (.v v) s) False
def Dq(a:RV)(xs:List RV)(s:S)(K:RV→S→Prop):Prop:=a0 xs (mS a (fun x=>hV s fun v s=>rP x v∧K (.v v) s) False)
def UC(m:MT)(a:RV)(xs:List RV)(s:S)(K:RV→S→Prop):Prop:=m.casesOn (y_ a xs s K) (za a xs s K) (zb PySem.Txt.lower a xs s K) (zb PySem.Txt.upper a xs s K) (zb PySem.Txt.swapcase a xs s K) (Dp a xs s K) (Dq a xs s K)
theorem JL{f:Prop}{P:List RV→Prop}(h:a0 l f)(h1:f→P []):P l:=by cases l with | nil=>exact h1 h | cons=>exact h.elim
theorem Dr{x:Str}{y:AV}{st:AS}{Q:AV→AS→Prop}(h:rP x y)(q:Q y st):Wl g VR (fun vs=>call (.builtin "str.split") vs) [.str x] st Q:=by obtain⟨ws,h1,h2,h3,h4,rfl⟩:=h;exact G5 h1 h2 h3 h4 q
theorem Ds{x y:Str}{v:AV}{st:AS}{Q:AV→AS→Prop}(h:Do x y v)(q:Q v st):Wl g VR (fun vs=>call (.builtin "str.index") vs) [.str x,.str y] st Q:=by obtain⟨i,r,h1,rfl⟩:=h;exact G4 h1 q
theorem xw{a:RV}{xs:List RV}{K:RV→S→Prop}(h:y_ a xs s K):dZ C ρ M s K (fun vs=>call (.builtin "list.append") vs) (ah ρ a::xs.map (ah ρ)):=
 ka (P:=fun xs=>dZ C ρ M s K _ (ah ρ a::xs.map (ah ρ))) h (fun x h=>dQ (P:=fun x=>dZ C ρ M s K _ [ah ρ a,ah ρ x]) h (fun v h=>jc (P:=fun a=>dZ C ρ M s K _ [ah ρ a,v]) h (fun k h=>j' h (fun l e h=>
  kP (gV ρ M (o:= .list l) (o':= .list (l++ [v])) rfl rfl e) h.1 (.mk (rv:= .v .none) (s:=⟨s.vs,gS k (.list (l++ [v])) s.os,s.h⟩) Wk.refl h.2)) False.elim) False.elim) False.elim) False.elim
theorem AC{a:Addr}{i:Int}{vars}(u:Upd mem a (.list l) (.list (l.take i.toNat++x::l.drop i.toNat)) mem')(h:0≤i∧i≤l.length∧l.length≤1000000)(q:Q .none ⟨vars,mem'⟩):
  Wl g VR (fun vs=>call (.builtin "list.insert") vs) [.val (.ref a),.int i,x] ⟨vars,mem⟩ Q:=CG h.1 h.2.1 u h.2.2 q
theorem xx{a:RV}{xs:List RV}{K:RV→S→Prop}(h:za a xs s K):dZ C ρ M s K (fun vs=>call (.builtin "list.insert") vs) (ah ρ a::xs.map (ah ρ)):=
 rO (P:=fun xs=>dZ C ρ M s K _ (ah ρ a::xs.map (ah ρ))) h (fun i x h=>fh (P:=fun i=>dZ C ρ M s K _ [ah ρ a,ah ρ i,ah ρ x]) h (fun i h=>dQ (P:=fun x=>dZ C ρ M s K _ [ah ρ a,.int i,ah ρ x]) h (fun v h=>jc (P:=fun a=>dZ C ρ M s K _ [ah ρ a,.int i,v]) h (fun k h=>j' h (fun l e h=>
  AC (gV ρ M (o:= .list l) (o':= .list (l.take i.toNat++v::l.drop i.toNat)) rfl rfl e) ⟨h.1,h.2.1,h.2.2.1⟩ (PV.mk (C:=C) (rv:= .v .none) (s:=⟨s.vs,gS k (.list (l.take i.toNat++v::l.drop i.toNat)) s.os,s.h⟩) Wk.refl h.2.2.2)) False.elim) False.elim) False.elim) False.elim) False.elim
theorem pj{f:Str→Str}{id:String}(hp:∀ {x:Str} {st:AS} {Q:AV→AS→Prop},x.length≤5592405→Q (.str (f x)) st→Wl C.g VR (fun vs=>call (.builtin id) vs) [.str x] st Q){a:RV}{xs:List RV}{K:RV→S→Prop}(h:zb f a xs s K):dZ C ρ M s K (fun vs=>call (.builtin id) vs) (ah ρ a::xs.map (ah ρ)):=
 JL (P:=fun xs=>dZ C ρ M s K _ (ah ρ a::xs.map (ah ρ))) h fun h=>gi (P:=fun a=>dZ C ρ M s K _ [ah ρ a]) h (fun x h=>hp h.1 (dY h.2)) False.elim
theorem AD{a:RV}{xs:List RV}{K:RV→S→Prop}(h:Dp a xs s K):dZ C ρ M s K (fun vs=>call (.builtin "str.index") vs) (ah ρ a::xs.map (ah ρ)):=
 ka (P:=fun xs=>dZ C ρ M s K _ (ah ρ a::xs.map (ah ρ))) h (fun b h=>vv (P:=fun a b=>dZ C ρ M s K _ [ah ρ a,ah ρ b]) h (fun x y h=>gj h fun v k h=>Ds h.1 (pe h.2)) False.elim) False.elim
theorem AE{a:RV}{xs:List RV}{K:RV→S→Prop}(h:Dq a xs s K):dZ C ρ M s K (fun vs=>call (.builtin "str.split") vs) (ah ρ a::xs.map (ah ρ)):=
 JL (P:=fun xs=>dZ C ρ M s K _ (ah ρ a::xs.map (ah ρ))) h fun h=>gi (P:=fun a=>dZ C ρ M s K _ [ah ρ a]) h (fun x h=>gj h fun v k h=>Dr h.1 (pe h.2)) False.elim
theorem LN{m:MT}{a:RV}{xs:List RV}{K:RV→S→Prop}(h:UC m a xs s K):b8 C.g (.val (.builtin m.id)) (ah ρ a::xs.map (ah ρ)) [] [] (tr C ρ M s) (PV C ρ M K):=by
 cases m with
 | append=>exact bD (xw h)
 | insert=>exact bD (xx h)
 | lower=>exact bD (pj tF h)
 | upper=>exact bD (pj GE h)
 | swapcase=>exact bD (pj xe h)
 | index=>exact bD (AD h)
 | split=>exact bD (AE h)
theorem vz{fr:cz C ρ env}{es:List (SE C)}(h:ble es.length 20=true):methodCallForm ((iV es).length+([]:List Keyword).length) (backTo pos (starEach (iV es) env)) (backToKw pos (keywordEach [] env))=true:=by
 have h1:(backTo pos (starEach (iV es) env)).all (!·.1)=true:=by
  have:=dE fr pos es
  rw[E9]
  rw[aa4] at this
  exact fun x hx=>by simpa using this x hx
 have h2:=E1 h
 unfold methodCallForm
 rw[h1,E7]
 show(true&&true&&decide (es.length+0+0<30))=true
 simp;omega
noncomputable def SE.O1(o:SE C)(m:MT)(ap:Pos)(es:List (SE C))(pos:Pos):SE C:=
 SE.M5 (.Call (.Attribute o.e m.name ap) (iV es) [] pos) (fun s K=>gT (o.ai&& (ap.endLine==pos.line)&&ble es.length 20) (o.ev s fun a s1=>SQ m a s1 (Ay es s1 fun xs s2=>UC m a xs s2 K))) true true
  (fun {ρ env M s K} fr h=>by
   obtain⟨hc,h⟩:=aC h
   rw[Yb,Yb] at hc
   exact eH (cA (G:=fun a st=>MC C.g env a m.name pos (iV es) st (PV C ρ M K)) (o.ok fr h) fun a s1 h=>LM h fun hm h=>gy hm (qV (gC fr pos h) fun xs s2 h=>LN h)) (o.fm.ab hc.1.1 _ _) (vz (fr:=fr) hc.2) hc.1.2 (by rw[dE fr];rfl) (eo _ _))
  (fun O=>rfl) ⟨fun O O=>rfl,fun O=>rfl,fun O O=>rfl,fun O O O O=>rfl,fun O O O O=>rfl⟩
noncomputable def aP(o:Pos)(m:MT):Pos:=ig o o 0 (1+m.name.length)
noncomputable def SE.mt(o:SE C)(m:MT)(es:List (SE C)):SE C:=SE.O1 o m (aP o.p m) es (cP (aP o.p m) es)
end
end
end
section
set_option tactic.hygienic true
section
section
variable {g:Gd}{F:FM}{C:Ctx}{ρ ρ':eJ}{env:Env}{M:Mem}{s:S}{α β:Type}
structure TG(C:Ctx) where
 e:Expr
 set:RV→S→(S→Prop)→Prop
 tup:Bool
 ok:∀ {ρ env M v s f},cz C ρ env→set v s f→W1 C.g UR (assign e env) (ah ρ v) (tr C ρ M s) (PU C ρ M f)
 ae:∀rest env,assignEach (e::rest) env=(false,assign e env)::assignEach rest env
 it:tup=true→lS e
noncomputable def TG.nm(t:TN)(pos:Pos):TG C:=⟨.Name (t.name C) pos,t.set C,false,fun fr h=>dh (TN.ok fr h),fun O O=>rfl,fun h=>nomatch h⟩
noncomputable def TG.n(t:TN)(l a:Nat):TG C:=TG.nm t (nP (t.name C) l a)
def Hp(ts:List (TG C)):List RV→S→(S→Prop)→Prop:=ts.rec (fun vs s f=>vs.casesOn (f s) fun O O=>False) fun t O ih vs s f=>vs.casesOn False fun v vs=>t.set v s fun s1=>ih vs s1 f
noncomputable abbrev BN(ts:List (TG C)):List Expr:=ts.map TG.e
theorem tS(fr:cz C ρ env):∀ {ts:List (TG C)} {vs:List RV} {s:S} {f:S→Prop},Hp ts vs s f→M4 C.g env (BN ts) (vs.map (ah ρ)) (tr C ρ M s) (PU C ρ M f):=by
 intro ts
 induction ts with
 | nil=>intro vs s f h;cases vs with | nil=>exact yM (.mk Wk.refl h) | cons=>exact h.elim
 | cons t ts ih=>intro vs s f h;cases vs with | nil=>exact h.elim | cons v vs=>exact oS (je (t.ok fr h) fun s1 h=>ih h) (t.ae _ _)
theorem jC(env:Env)(ts:List (TG C)):(assignEach (BN ts) env).length=ts.length∧(assignEach (BN ts) env).findIdx? (·.1)=none:=by
 induction ts with
 | nil=>exact⟨rfl,rfl⟩
 | cons t ts ih=>show(assignEach (t.e::BN ts) env).length=_∧_;rw[show BN (t::ts)=t.e::BN ts from rfl,t.ae];exact⟨E8 (· +1) ih.1,by rw[List.findIdx?_cons];simp[ih.2]⟩
noncomputable def Dt(l:List AV):List RV:=l.map .v
theorem vA(l:List AV):(Dt l).map (ah ρ)=l:=by unfold Dt;rw[YU];exact List.map_id l
noncomputable def tP(ts:List (TG C)):Pos:=ig (ts.casesOn default fun x O=>x.e.pos) (ts.foldl (fun O x=>x.e.pos) default) 0 0
noncomputable def TG.xy(ts:List (TG C))(k:Nat:=0)(pos:Pos:=tP ts):TG C where
 e:= .Tuple (BN ts) k pos
 set v s f:=mT v (fun l=>gT (beq ts.length l.length) (Hp ts (Dt l) s f))<|mL v (fun l=>gT (beq ts.length l.length) (Hp ts (Dt l) s f)) False
 tup:=true
 ok {ρ env M v s f} fr h:=rI (P:=fun v=>W1 C.g UR _ (ah ρ v) (tr C ρ M s) (PU C ρ M f)) h (fun l h=>fG (by have:=tS (M:=M) fr (aC h).2;rw[vA] at this;exact this) ((jC env ts).1.trans (YE (aC h).1)) (jC env ts).2) fun h=>
  gU (P:=fun v=>W1 C.g UR _ (ah ρ v) (tr C ρ M s) (PU C ρ M f)) h (fun l h=>nC (by have:=tS (M:=M) fr (aC h).2;rw[vA] at this;exact this) ((jC env ts).1.trans (YE (aC h).1)) (jC env ts).2) False.elim
 ae _ _:=rfl
 it _:=⟨_,_,_,rfl⟩
def Wo(o:Option EO)(f:List AV→Prop):Prop:=o.casesOn False fun e=>e.casesOn f f (fun O=>False) (fun O O=>False)
def O2(a b v:RV)(s:S)(f:S→Prop):Prop:=mR a (fun k=>mI b (fun i=>mV v (fun x=>Wo (dO k s.os) fun l=>0≤i∧i<l.length∧l.length≤1000000∧f ⟨s.vs,gS k (.bq (l.set i.toNat x)) s.os,s.h⟩) False) False) False
theorem Hq{f:S→Prop}(h:O2 a b v s f):W3 C.g setItem (ah ρ a) (ah ρ b) (ah ρ v) (tr C ρ M s) (PU C ρ M f):=
 jc (P:=fun a=>W3 C.g setItem (ah ρ a) (ah ρ b) (ah ρ v) (tr C ρ M s) (PU C ρ M f)) h (fun k h=>fh (P:=fun b=>W3 C.g setItem _ (ah ρ b) (ah ρ v) (tr C ρ M s) (PU C ρ M f)) h (fun i h=>dQ (P:=fun v=>W3 C.g setItem _ _ (ah ρ v) (tr C ρ M s) (PU C ρ M f)) h (fun x h=>by
  cases e:dO k s.os with
  | none=>rw[e] at h;exact h.elim
  | some o=>
   rw[e] at h
   cases o with
   | list l=>exact rD (.list _) h.1 h.2.1 h.2.2.1 (gV ρ M (o:= .list l) (o':= .bq (l.set i.toNat x)) rfl rfl e) (PU.mk (s:=⟨s.vs,gS k (.bq (l.set i.toNat x)) s.os,s.h⟩) Wk.refl h.2.2.2)
   | bq l=>exact rD (.bq _) h.1 h.2.1 h.2.2.1 (gV ρ M (o:= .bq l) (o':= .bq (l.set i.toNat x)) rfl rfl e) (PU.mk (s:=⟨s.vs,gS k (.bq (l.set i.toNat x)) s.os,s.h⟩) Wk.refl h.2.2.2)
   | _=>exact h.elim) False.elim) False.elim) False.elim
noncomputable def TG.sub(o i:SE C)(pos:Pos):TG C:=⟨.Subscript o.e i.e pos,fun v s f=>o.ev s fun a s1=>i.ev s1 fun b s2=>O2 a b v s2 f,false,
 fun fr h=>tJ (cA (o.ok fr h) fun a s1 h=>cA (i.ok fr h) fun b s2 h=>Hq h),fun O O=>rfl,fun h=>nomatch h⟩
inductive PA(C:Ctx)(ρ:eJ)(M:Mem)(ids:List Nat)(K:RV→S→Prop):AV→AS→Prop
 | mk {ρ' rv s st} (p:∀j,j∉ids→ρ' j=ρ j) (w:Wk C.g st (tr C ρ' M s)) (k:K rv s):PA C ρ M ids K (ah ρ' rv) st
inductive O3(C:Ctx)(ρ:eJ)(M:Mem)(ids:List Nat)(K:List RV→S→Prop):List AV→AS→Prop
 | mk {ρ' rs s st} (p:∀j,j∉ids→ρ' j=ρ j) (w:Wk C.g st (tr C ρ' M s)) (k:K rs s):O3 C ρ M ids K (rs.map (ah ρ')) st
structure SA(C:Ctx) where
 e:Expr
 ids:List Nat
 sw:Bool
 ev:S→(RV→S→Prop)→Prop
 ok:∀ {ρ env M s K},cz C ρ env→ev s K→W0 C.g VR (eval e env) (tr C ρ M s) (PA C ρ M ids K)
 st:∀rest env,starEach (e::rest) env=(false,eval e env)::starEach rest env
 sp:sw=true→∀t l env,swapsWith e t l env=pure false
noncomputable def SA.of(x:SE C):SA C:=⟨x.e,[],x.sw,x.ev,fun fr h=> (x.ok fr h).mono fun O O q=>by obtain⟨w,k⟩:=q;exact .mk (fun O O=>rfl) w k,x.fm.st,x.fm.sp⟩
noncomputable def RV.off(k:Nat)(v:RV):Bool:=v.casesOn (fun O=>true) (fun j=>!(beq j k)) (fun O=>true) fun O O fZ=>fZ.all fun p=>!(beq p.2 k)
noncomputable def xz(k:Nat)(o:Option RV):Bool:=o.casesOn true (RV.off k)
noncomputable def EO.off(k:Nat)(j:Nat)(o:EO):Bool:=o.casesOn (fun O=>!(beq j k)) (fun O=>!(beq j k)) (fun v=>!(beq j k)&&xz k v) fun n O=>blt k j||ble (j+n) k
noncomputable def S.off(k:Nat)(s:S):Bool:=s.vs.all (xz k)&&s.os.all fun p=>p.2.off k p.1
theorem da{j k:Nat}(h:(!(beq j k))=true):j≠k:=fun e=>by subst e;simp at h
theorem RV.xA{k:Nat}{v:RV}(h:v.off k=true)(p:∀j,j≠k→ρ' j=ρ j):ah ρ' v=ah ρ v:=by
 cases v with
 | r j=>show AV.val (.ref (ρ' j))=_;rw[p j (da h)];rfl
 | f fi q fZ=>exact E8 (AV.fn fi q) (aad fun z hz=>by rw[p z.2 (da (E9.mp h z hz))])
 | _=>rfl
theorem tT{k:Nat}{o:Option RV}(h:xz k o=true)(p:∀j,j≠k→ρ' j=ρ j):o.map (ah ρ')=o.map (ah ρ):=by
 cases o with
 | none=>rfl
 | some v=>exact E8 some (RV.xA h p)
theorem zc{k:Nat}(p:∀j,j≠k→ρ' j=ρ j):∀(n j:Nat),(k<j∨j+n≤k)→lY ρ' n j=lY ρ n j
 | 0,_,_=>rfl
 | n+1,j,h=>by
  show ρ' j::lY ρ' n (j+1)=ρ j::lY ρ n (j+1)
  rw[p j (by omega),zc p n (j+1) (by omega)]
theorem EO.xA{k j:Nat}{o:EO}(h:o.off k j=true)(p:∀j,j≠k→ρ' j=ρ j):o.mem ρ' j=o.mem ρ j:=by
 cases o with
 | list l=>show [(ρ' j,_)]=_;rw[p j (da h)];rfl
 | bq l=>show [(ρ' j,_)]=_;rw[p j (da h)];rfl
 | cell v=>have:=E3.mp h;show [(ρ' j,AO.cell (v.map (ah ρ')))]=_;rw[p j (da this.1),tT this.2 p];rfl
 | any n m=>
  show m (lY ρ' n j)=m (lY ρ n j)
  rw[zc p n j]
  rcases aaz.mp h with h | h
  ·exact .inl (E1 h)
  ·exact .inr (E1 h)
theorem po{k:Nat}(p:∀j,j≠k→ρ' j=ρ j){os:Os}(h:(os.all fun q=>q.2.off k q.1)=true):aI ρ' os=aI ρ os:=by
 induction os with
 | nil=>rfl
 | cons q t ih=>
  rw[all_cons,Yb] at h
  show q.2.mem ρ' q.1++aI ρ' t=q.2.mem ρ q.1++aI ρ t
  rw[EO.xA h.1 p,ih h.2]
theorem Du{k:Nat}(p:∀j,j≠k→ρ' j=ρ j){xs:List Str}:∀ {vs:Vs},vs.all (xz k)=true→cB ρ' xs vs=cB ρ xs vs:=by
 induction xs with
 | nil=>intro vs _;rfl
 | cons x t ih=>
  intro vs h
  show(x,(hd vs).map (ah ρ'))::cB ρ' t (tl vs)=(x,(hd vs).map (ah ρ))::cB ρ t (tl vs)
  cases vs with
  | nil=>rw[ih (vs:=tl []) rfl];rfl
  | cons v vs=>
   rw[all_cons,Yb] at h
   rw[ih (vs:=tl (v::vs)) h.2,show(hd (v::vs)).map (ah ρ')=(hd (v::vs)).map (ah ρ) from tT h.1 p]
theorem pq{k:Nat}(p:∀j,j≠k→ρ' j=ρ j)(h:s.off k=true):tr C ρ' M s=tr C ρ M s:=by
 have:=E3.mp h
 unfold tr;rw[Du p this.1,po p this.2]
noncomputable def iS(ρ:eJ)(k:Nat)(a:Addr):eJ:=fun j=>if j=k then a else ρ j
theorem cK{k:Nat}{a:Addr}:∀j,j≠k→iS ρ k a j=ρ j:=fun j h=>X5 h
theorem Dv{k:Nat}{xs:List AV}{K:RV→S→Prop}(h:s.off k=true)(hl:xs.length≤sizeLine)(q:K (.r k) ⟨s.vs,(k,.list xs)::s.os,s.h⟩):jx xs (tr C ρ M s) (PA C ρ M [k] K):=
 ⟨hl,fun a=>by
  have e:=pq (C:=C) (M:=M) (cK (ρ:=ρ) (a:=a)) h
  have e2:iS ρ k a k=a:=X6 rfl
  have:=PA.mk (C:=C) (ρ:=ρ) (M:=M) (ids:=[k]) (ρ':=iS ρ k a) (rv:= .r k) (s:=⟨s.vs,(k,.list xs)::s.os,s.h⟩) (st:= {tr C ρ M s with mem:=(a,.list xs)::(tr C ρ M s).mem }) (fun j hj=>cK j fun e=>hj (by rw[e];exact X8.mpr rfl)) (by
   rw[← e]
   show Wk _ ⟨cB _ _ _,(a,AO.list xs)::(aI _ _++M)⟩ ⟨cB _ _ _,((iS ρ k a k,AO.list xs)::aI _ _)++M⟩
   rw[e2];exact Wk.refl) q
  have e3:ah (iS ρ k a) (.r k)= .val (.ref a):=by show AV.val (.ref (iS ρ k a k))=_;rw[e2]
  rw[e3] at this
  exact this⟩
noncomputable def SA.new(k:Nat)(es:List (SE C))(pos:Pos):SA C where
 e:= .List (iV es) pos
 ids:=[k]
 sw:=true
 ev s K:=Ay es s fun rs s1=>y7 rs fun xs=>gT (Az xs.length&&s1.off k) (K (.r k) ⟨s1.vs,(k,.list xs)::s1.os,s1.h⟩)
 ok {ρ env M s K} fr h:=ki (qV (G:=fun xs st=>jx xs st (PA C ρ M [k] K)) (gC fr pos h) fun rs s1 h=>pg (P:=fun xs=>jx xs (tr C ρ M s1) (PA C ρ M [k] K)) h fun xs h=>by
  have:=aC h
  have h1:=E3.mp this.1
  exact Dv h1.2 (il h1.1) this.2)
 st _ _:=rfl
 sp _ _ _ _:=rfl
theorem xB{st:AS}(h1:cJ a l st.mem)(h2:cJ b m st.mem)(hsz:l.length+m.length≤sizeLine)(h:jx (l++m) st Q):W2 g VR (binaryOp .Add) a b st Q:=fun F s v u r hv hu K E k=>by
 obtain⟨a,items,n,rfl,hl,hi⟩:=h1.at r.toRepM hv
 obtain⟨b,cT,n2,rfl,wY,wK⟩:=h2.at r.toRepM hu
 refine PySem.P.add_list hl wY ?_ (by rw[hi.size,wK.size];exact hsz)
 have r2:=r.oA (o:=cE (items++cT) 0) (ao:= .list (l++m)) rfl s.toks (fun h e=> ⟨_,_,e,ZN (xs:=items) (ys:=cT)▸hi.append wK⟩) id
 exact k F (.val _) _ _ _ (FM.le.refl _) r2 (nH ..) (h.2 _)
noncomputable def SA.add(k:Nat)(l r:SE C)(pos:Pos):SA C where
 e:= .BinOp l.e .Add r.e pos
 ids:=[k]
 sw:=true
 ev s K:=l.ev s fun a s1=>r.ev s1 fun b s2=>la a s2 (fun l=>la b s2 (fun m=>gT (s2.off k) (l.length+m.length≤sizeLine∧K (.r k) ⟨s2.vs,(k,.list (l++m))::s2.os,s2.h⟩)) False) False
 ok {ρ env M s K} fr h:=nJ (cA (l.ok fr h) fun a s1 h=>cA (r.ok fr h) fun b s2 h=>o_ (P:=fun x=>W2 C.g VR _ x (ah ρ b) (tr C ρ M s2) (PA C ρ M [k] K)) h ρ M (fun y l hl h=>o_ (P:=fun x=>W2 C.g VR _ y x (tr C ρ M s2) (PA C ρ M [k] K)) h ρ M (fun O m hm h=>xB hl hm (aC h).2.1 (Dv (aC h).1 (by rw[N8];exact(aC h).2.1) (aC h).2.2)) False.elim) False.elim)
 st _ _:=rfl
 sp _ _ _ _:=rfl
noncomputable abbrev LO(xs:List (SA C)):List Expr:=xs.map SA.e
noncomputable def xC(xs:List (SA C)):List Nat:=xs.rec [] fun x O ih=>x.ids++ih
def Rj(xs:List (SA C)):S→(List RV→S→Prop)→Prop:=xs.rec (fun s K=>K [] s) fun x t ih s K=>x.ev s fun a s1=>gT ((xC t).all fun k=>a.off k) (ih s1 fun as s2=>K (a::as) s2)
theorem RV.Hr{ids:List Nat}{v:RV}(h:(ids.all fun k=>v.off k)=true)(p:∀j,j∉ids→ρ' j=ρ j):ah ρ' v=ah ρ v:=by
 cases v with
 | r j=>
  have hj:j∉ids:=fun hm=>da (E9.mp h j hm) rfl
  show AV.val (.ref (ρ' j))=_;rw[p j hj];rfl
 | f fi q fZ=>exact E8 (AV.fn fi q) (aad fun z hz=>by rw[p z.2 fun hm=>da (E9.mp (E9.mp h z.2 hm) z hz) rfl])
 | _=>rfl
theorem xD(pos:Pos):∀ {xs:List (SA C)} {ρ:eJ} {s:S} {K:List RV→S→Prop},(xC xs).all (ble C.pin)=true→cz C ρ env→Rj xs s K→W0 C.g be (spliced (backTo pos (starEach (LO xs) env))) (tr C ρ M s) (O3 C ρ M (xC xs) K):=by
 intro xs
 induction xs with
 | nil=>intro ρ s K _ fr h;exact aH (O3.mk (ρ':=ρ) (rs:=[]) (fun O O=>rfl) Wk.refl h)
 | cons x t ih=>
  intro ρ s K hp fr h
  have LP:(x.ids.all (ble C.pin)&& (xC t).all (ble C.pin))=true:=by rw[← List.all_append];exact hp
  rw[Yb] at LP
  refine aM (fun F s0 r K' E k=>x.ok fr h F s0 r K' E fun F' b a cg s' l r' hb q=>?_) (x.st _ _)
  obtain⟨p,w,q⟩:=q
  rename_i ρ1 rv s1
  obtain⟨F2,l2,r2⟩:=w F' s' r'
  obtain⟨hc,q⟩:=aC q
  have pin:Pin C ρ ρ1:=fun j hj=>p j fun hm=>ZE.mpr (E1 (E9.mp LP.1 j hm)) hj
  refine k F2 _ a _ s' (l.trans l2) r2 (hb.mono l2) ((ih LP.2 (fr.pin pin) q).mono fun as st q=>?_)
  obtain⟨p2,w2,q2⟩:=q
  rename_i ρ2 rs s2
  rw[← RV.Hr hc p2]
  exact O3.mk (rs:=rv::rs) (fun j hj=> (p2 j fun hm=>hj (YL _ hm)).trans (p j fun hm=>hj (Yn _ hm))) w2 q2
end
end
end
section
section
section
variable {g:Gd}{F:FM}{C:Ctx}{ρ ρ':eJ}{env:Env}{M:Mem}{s:S}{α β:Type}
noncomputable def vB(C:Ctx)(ids:List Nat):Bool:=ids.all (ble C.pin)
theorem jf{ids:List Nat}(h:vB C ids=true)(p:∀j,j∉ids→ρ' j=ρ j):Pin C ρ ρ':=fun j hj=>p j fun hm=>ZE.mpr (E1 (E9.mp h j hm)) hj
theorem SR{t:Sem Value}{st:AS}{ids:List Nat}{K:RV→S→Prop}{G:AV→AS→Prop}(h:W0 C.g VR t st (PA C ρ M ids K))(f:∀ρ' rv s,(∀j,j∉ids→ρ' j=ρ j)→K rv s→G (ah ρ' rv) (tr C ρ' M s)):W0 C.g VR t st G:=fun F s r K' E k=>h F s r K' E fun F' b a cg s' l r hb q=>by
 obtain⟨p,w,q⟩:=q
 obtain⟨F2,l2,r2⟩:=w F' s' r
 exact k F2 _ a _ s' (l.trans l2) r2 (hb.mono l2) (f _ _ _ p q)
theorem Dw{t:Sem (List Value)}{st:AS}{ids:List Nat}{K:List RV→S→Prop}{G:List AV→AS→Prop}(h:W0 C.g be t st (O3 C ρ M ids K))(f:∀ρ' rs s,(∀j,j∉ids→ρ' j=ρ j)→K rs s→G (rs.map (ah ρ')) (tr C ρ' M s)):W0 C.g be t st G:=fun F s r K' E k=>h F s r K' E fun F' b a cg s' l r hb q=>by
 obtain⟨p,w,q⟩:=q
 obtain⟨F2,l2,r2⟩:=w F' s' r
 exact k F2 _ a _ s' (l.trans l2) r2 (hb.mono l2) (f _ _ _ p q)
theorem LQ{K:RF→S→Prop}(p:Pin C ρ ρ')(k:K .next s):PF C ρ M K .next (tr C ρ' M s):= .mk (f:= .next) p Wk.refl k
noncomputable def SS.Hs(t:TN)(px:Pos)(x:SA C)(pos:Pos):SS C:=⟨.Assign [.Name (t.name C) px] x.e pos,fun s K=>gT (x.sw&&vB C x.ids) (x.ev s fun v s1=>t.set C v s1 fun s2=>K .next s2),
 fun {ρ env M s K} fr h=>have hc:=E3.mp (aC h).1
  bC (SR (G:=fun v st=>W1 C.g UR (storeName env (t.name C)) v st fun O a8=>PF C ρ M K .next a8) (x.ok fr (aC h).2) fun ρ' v s1 p h=>je (TN.ok (fr.pin (jf hc.2 p)) h) fun s h=>LQ (jf hc.2 p) h) (x.sp hc.1 _ _ _)⟩
noncomputable def SS.Rk(ts:List (TG C))(k:Nat)(fH:Pos)(e:SE C)(pos:Pos)(hw:swappedStores [.Tuple (BN ts) k fH] e.e (xc C.names)=pure none):SS C:=⟨.Assign [.Tuple (BN ts) k fH] e.e pos,
 fun s K=>gT (e.sw&&C.full) (e.ev s fun v s1=> (TG.xy ts k fH).set v s1 fun s2=>K .next s2),
 fun {ρ env M s K} fr h=>have hc:=E3.mp (aC h).1
  i_ (fr.kd hc.2) fr.e (cA (e.ok fr (aC h).2) fun v s1 h=>je ((TG.xy ts k fH).ok fr h) fun s h=>LQ Pin.refl h) (by unfold swapsWithSole;exact e.fm.sp hc.1 _ _ _) hw⟩
noncomputable def SS.mul(ts:List (TG C))(k:Nat)(fH:Pos)(xs:List (SA C))(k2:Nat)(pz pos:Pos)(hw:swappedStores [.Tuple (BN ts) k fH] (.Tuple (LO xs) k2 pz) (xc C.names)=pure none):SS C:=⟨.Assign [.Tuple (BN ts) k fH] (.Tuple (LO xs) k2 pz) pos,
 fun s K=>gT (C.full&&vB C (xC xs)) (Rj xs s fun vs s1=>gT (Az vs.length&&beq ts.length vs.length) (Hp ts vs s1 fun s2=>K .next s2)),
 fun {ρ env M s K} fr h=>have hc:=E3.mp (aC h).1
  i_ (fr.kd hc.1) fr.e (kJ (Dw (G:=fun vs st=>vs.length≤sizeLine∧W1 C.g UR (assign (.Tuple (BN ts) k fH) env) (.tup vs) st fun O a8=>PF C ρ M K .next a8) (xD pz hc.2 fr (aC h).2) fun ρ' vs s1 p h=>by
   have h1:=E3.mp (aC h).1
   have pp:=jf hc.2 p
   exact⟨by rw[E7];exact il h1.1,je (fG (tS (M:=M) (fr.pin pp) (aC h).2) ((jC env ts).1.trans ((YE h1.2).trans (E7 ..).symm)) (jC env ts).2) fun s h=>LQ pp h⟩)) rfl hw⟩
noncomputable def SS.qW(t u:TN)(pt pu:Pos)(k:Nat)(fH:Pos)(xs:List (SA C))(k2:Nat)(pz pos:Pos)(hw:swappedStores [.Tuple [.Name (t.name C) pt,.Name (u.name C) pu] k fH] (.Tuple (LO xs) k2 pz) (xc C.names)=pure (some [t.name C,u.name C])):SS C:=⟨.Assign [.Tuple [.Name (t.name C) pt,.Name (u.name C) pu] k fH] (.Tuple (LO xs) k2 pz) pos,
 fun s K=>gT (C.full&&vB C (xC xs)) (Rj xs s fun vs s1=>a2 vs (fun a b=>u.set C b s1 fun s2=>t.set C a s2 fun s3=>K .next s3) False),
 fun {ρ env M s K} fr h=>have hc:=E3.mp (aC h).1
  kT (fr.kd hc.1) fr.e (kJ (Dw (G:=fun vs st=>vs.length≤sizeLine∧∃xs,AV.tup vs= .tup xs∧[t.name C,u.name C].length=xs.length∧Bn C.g env (PF C ρ M K .next) [u.name C,t.name C] xs.reverse st) (xD pz hc.2 fr (aC h).2) fun ρ' vs s1 p h=>
   have pp:=jf hc.2 p
   rO (P:=fun vs=> (vs.map (ah ρ')).length≤sizeLine∧∃xs,AV.tup (vs.map (ah ρ'))= .tup xs∧[t.name C,u.name C].length=xs.length∧Bn C.g env (PF C ρ M K .next) [u.name C,t.name C] xs.reverse (tr C ρ' M s1)) h
    (fun a b h=> ⟨il (n:=2) rfl,_,rfl,rfl,(je (TN.ok (fr.pin pp) h) fun s h=>je (TN.ok (fr.pin pp) h) fun s h=>LQ pp h:W1 C.g UR (storeName env (u.name C)) (ah ρ' b) (tr C ρ' M s1) fun O a8=>W1 C.g UR (storeName env (t.name C)) (ah ρ' a) a8 fun O=>PF C ρ M K .next)⟩) False.elim)) rfl hw⟩
noncomputable def SS.SU(t u w:TN)(pt pu pw:Pos)(k:Nat)(fH:Pos)(xs:List (SA C))(k2:Nat)(pz pos:Pos)(hw:swappedStores [.Tuple [.Name (t.name C) pt,.Name (u.name C) pu,.Name (w.name C) pw] k fH] (.Tuple (LO xs) k2 pz) (xc C.names)=pure (some [t.name C,u.name C,w.name C])):SS C:=⟨.Assign [.Tuple [.Name (t.name C) pt,.Name (u.name C) pu,.Name (w.name C) pw] k fH] (.Tuple (LO xs) k2 pz) pos,
 fun s K=>gT (C.full&&vB C (xC xs)) (Rj xs s fun vs s1=>a3 vs (fun a b c=>w.set C c s1 fun s2=>u.set C b s2 fun s2=>t.set C a s2 fun s3=>K .next s3) False),
 fun {ρ env M s K} fr h=>have hc:=E3.mp (aC h).1
  kT (fr.kd hc.1) fr.e (kJ (Dw (G:=fun vs st=>vs.length≤sizeLine∧∃xs,AV.tup vs= .tup xs∧[t.name C,u.name C,w.name C].length=xs.length∧Bn C.g env (PF C ρ M K .next) [w.name C,u.name C,t.name C] xs.reverse st) (xD pz hc.2 fr (aC h).2) fun ρ' vs s1 p h=>
   have pp:=jf hc.2 p
   Df (P:=fun vs=> (vs.map (ah ρ')).length≤sizeLine∧∃xs,AV.tup (vs.map (ah ρ'))= .tup xs∧[t.name C,u.name C,w.name C].length=xs.length∧Bn C.g env (PF C ρ M K .next) [w.name C,u.name C,t.name C] xs.reverse (tr C ρ' M s1)) h
    (fun a b c h=> ⟨il (n:=3) rfl,_,rfl,rfl,(je (TN.ok (fr.pin pp) h) fun s h=>je (TN.ok (fr.pin pp) h) fun s h=>je (TN.ok (fr.pin pp) h) fun s h=>LQ pp h:W1 C.g UR (storeName env (w.name C)) (ah ρ' c) (tr C ρ' M s1) fun O a8=>W1 C.g UR (storeName env (u.name C)) (ah ρ' b) a8 fun O a8=>W1 C.g UR (storeName env (t.name C)) (ah ρ' a) a8 fun O=>PF C ρ M K .next)⟩) False.elim)) rfl hw⟩
def O4(a b:RV)(s:S)(K:RV→S→Prop):Prop:=ii a b (fun i j=>K (.v (.int (i+j))) s)<|mR a (fun k=>oL (dO k s.os) (fun l=>mL b (fun m=>l.length+m.length≤1000000∧K (.r k) ⟨s.vs,gS k (.list (l++m)) s.os,s.h⟩) False) False) False
theorem Ht{a b:RV}{K:RV→S→Prop}(h:O4 a b s K):W2 C.g VR (inplaceOp .Add) (ah ρ a) (ah ρ b) (tr C ρ M s) (PV C ρ M K):=
 eQ (P:=fun a b=>W2 C.g VR _ (ah ρ a) (ah ρ b) (tr C ρ M s) (PV C ρ M K)) h (fun O O h=>KP (dY h)) fun h=>jc (P:=fun a=>W2 C.g VR _ (ah ρ a) (ah ρ b) (tr C ρ M s) (PV C ρ M K)) h (fun k h=>j' h (fun l e h=>gU (P:=fun b=>W2 C.g VR _ (.val (.ref (ρ k))) (ah ρ b) (tr C ρ M s) (PV C ρ M K)) h (fun m h=>
  GK (gV ρ M (o:= .list l) (o':= .list (l++m)) rfl rfl e) h.1 (PV.mk (C:=C) (rv:= .r k) (s:=⟨s.vs,gS k (.list (l++m)) s.os,s.h⟩) Wk.refl h.2)) False.elim) False.elim) False.elim
def TN.get(C:Ctx)(t:TN)(s:S)(K:RV→S→Prop):Prop:=t.casesOn (fun i=>oR (mQ C.loc i) fun O=>oR (CW i s.vs) fun v=>K v s) fun i=>oR (mQ C.d7 i) fun p=>gT (p.2.1== .cell||p.2.1== .free) (oC (dO p.2.2 s.os) fun o=>oR o fun v=>K v s)
theorem TN.LR{t:TN}{K:RV→S→Prop}(fr:cz C ρ env)(h:t.get C s K):W0 C.g VR (loadName env (t.name C)) (tr C ρ M s) (PV C ρ M K):=by
 obtain⟨cs,N,tn⟩:=fr.N
 cases t with
 | loc i=>
  obtain⟨x,hx,h⟩:=dj h
  obtain⟨v,hv,h⟩:=dj h
  show W0 C.g VR (loadName env (lD C.loc i)) _ _
  rw[ij hx]
  exact B5 N (fr.hl _ (c_ hx)) (gO fr.e (o9 hx hv) (pv h))
 | d7 i=>
  obtain⟨x,hx,h⟩:=dj h
  obtain⟨hk,h⟩:=aC h
  obtain⟨o,ho,h⟩:=CZ h
  obtain⟨v,rfl,h⟩:=dj h
  show W0 C.g VR (loadName env (lD C.d7 i).1) _ _
  rw[ij hx]
  have hm:=(fr.hc _ (c_ hx)).1
  have hc:=tn _ (c_ hx)
  have C1:(ρ x.2.2,AO.cell (some (ah ρ v)))∈(tr C ρ M s).mem:=Yn _ (dR ho _ E6)
  have hl:Ld C.g env C.names cs x.1 x.2.1 (tr C ρ M s) (PV C ρ M K):=by
   rcases C0 _ hk with e | e
   ·rw[e];exact ldc fr.e hc C1 (pv h)
   ·rw[e];exact Sd fr.e hc C1 (pv h)
  exact B5 N hm hl
noncomputable def SS.aug(t:TN)(px:Pos)(e:SE C)(pos:Pos):SS C:=⟨.AugAssign (.Name (t.name C) px) .Add e.e pos,fun s K=>t.get C s fun a s1=>e.ev s1 fun b s2=>O4 a b s2 fun c s3=>t.set C c s3 fun s4=>K .next s4,
 fun {ρ env M s K} fr h=>lJ (cA (TN.LR fr h) fun a s1 h=>cA (e.ok fr h) fun b s2 h=>Jx (Ht h) fun c s3 h=>je (TN.ok fr h) fun s4 h=>LQ Pin.refl h)⟩
noncomputable def SS.ag(t:TN)(l a:Nat)(e:SE C):SS C:=SS.asg t (nP (t.name C) l a) e (ig (nP (t.name C) l a) e.p 0 0)
noncomputable def SS.au(t:TN)(l a:Nat)(e:SE C):SS C:=SS.aug t (nP (t.name C) l a) e (ig (nP (t.name C) l a) e.p 0 0)
theorem Rep.O5{F:FM}{vars gM:dL}{mem:Mem}{s:Shared}{x:Str}{v v':AV}{o:Option AV}(r:Rep g F ⟨vars,mem⟩ s)(hm:(x,some v)∈vars)(u:Upd vars x o (some v') gM)(h:∀w,VR F v w→VR F v' w):Rep g F ⟨gM,mem⟩ s:=
 {r.toRepM with
  ns:=let⟨m,hn,hv⟩:=r.ns;⟨m,hn,fun p hp=>by
   rcases u.apart r.nv p hp with rfl |⟨hp,_⟩
   ·obtain⟨w,hw,hr⟩:=(hv _ hm).Kz
    exact⟨w,hw,h w hr⟩
   ·exact hv p hp⟩
  nv:=by rw[show(⟨gM,mem⟩:AS).vars.map (·.1)=vars.map (·.1) from u.keys];exact r.nv
  gH:=r.gH,gL:=r.gL,fX:=r.fX,gI:=r.gI }
theorem Wk.LS{i k:Nat}(hx:mQ C.loc i=some x)(hv:CW i s.vs=some (.r k))(ho:dO k s.os=some (.list l)):Wk C.g (tr C ρ M s) (tr C ρ M ⟨tL i (.v (.lst l)) s.vs,rN k s.os,h⟩):=fun F sh r=>by
 obtain⟨F0,l0,r0⟩:=Wk.perm (g:=C.g) (((jB ρ (o':= .list l) ho).1.append_right M)) F sh r
 have Wp:Rep C.g F0 ⟨cB ρ C.loc s.vs,(ρ k,.list l)::(aI ρ (rN k s.os)++M)⟩ sh:=r0
 obtain⟨G,l1,r1,Rb⟩:=Wp.freeze
 obtain⟨o,u⟩:=vp (ρ:=ρ) (v:= .v (.lst l)) (vs:=s.vs) hx
 exact⟨G,l0.trans l1,r1.O5 (o9 hx hv) u fun w hw=>by simp only[ah,VR] at hw;subst hw;exact Rb⟩
noncomputable def SB.LS(i:Nat)(r:SB C):SB C:=⟨r.ss,fun s K=>oR (mQ C.loc i) fun O=>oR (CW i s.vs) fun a=>mR a (fun k=>oL (dO k s.os) (fun l=>r.ex ⟨tL i (.v (.lst l)) s.vs,rN k s.os,s.h⟩ K) False) False,
 fun {ρ env M s K} fr h=>by
  obtain⟨x,hx,h⟩:=dj h
  obtain⟨a,ha,h⟩:=dj h
  cases a with
  | r k=>exact j' h (fun l e h=>W0.weak (Wk.LS hx ha e) (r.ok fr h)) False.elim
  | _=>exact h.elim⟩
noncomputable def O6(vs lR:Vs):Vs:=lR.rec (motive:=fun O=>Vs→Vs) (fun O=>[]) (fun o O ih vs=>o.casesOn none (fun O=>hd vs)::ih (tl vs)) vs
noncomputable def SV(os:Os)(k:Nat):Bool:=os.any fun p=>beq p.1 k
noncomputable def FX(os os':Os):Os:=os.filter fun p=>SV os' p.1
noncomputable def mU(os':Os)(p:Nat×EO):Nat×EO:=(dO p.1 os').casesOn p fun e=>e.casesOn (fun O=>p) (fun O=>p.2.casesOn (fun l=> (p.1,.bq l)) (fun O=>p) (fun O=>p) (fun O O=>p)) (fun v=>v.casesOn (p.2.casesOn (fun O=>p) (fun O=>p) (fun O=> (p.1,.cell .none)) (fun O O=>p)) fun O=>p) (fun O O=>p)
noncomputable def Hu(os' os:Os):Os:=os.map (mU os')
theorem Hv{vars:dL}:∀ {os:Os} {pre:Mem},Wk g ⟨vars,pre++(aI ρ os++M)⟩ ⟨vars,pre++(aI ρ (Hu os' os)++M)⟩:=by
 intro os
 induction os with
 | nil=>exact Wk.refl
 | cons p t ih=>
  intro pre
  have a1:∀(p:Nat×EO) (t:Os),pre++(aI ρ (p::t)++M)=(pre++p.2.mem ρ p.1)++(aI ρ t++M):=fun p t=>by show pre++((p.2.mem ρ p.1++aI ρ t)++M)=_;rw[Yc,Yc]
  have key:Wk g ⟨vars,pre++(aI ρ (p::t)++M)⟩ ⟨vars,pre++(aI ρ (mU os' p::t)++M)⟩:=by
   have step:∀v,Wk g ⟨vars,pre++(aI ρ ((p.1,.cell v)::t)++M)⟩ ⟨vars,pre++(aI ρ ((p.1,.cell .none)::t)++M)⟩:=fun v=>
    (Wk.perm Z_).trans (Wk.trans (u4 (mem:=(ρ p.1,.cell (v.map (ah ρ)))::(pre++(aI ρ t++M))) (mem':=(ρ p.1,.cell none)::(pre++(aI ρ t++M))) rfl (fun p hp=> .inr hp) id (X_.mpr ⟨⟨_,.head _,.inr ⟨_,rfl,rfl⟩⟩,fun p hp=> ⟨_,.tail _ hp,.inl rfl⟩⟩)) (Wk.perm Z_.symm))
   obtain⟨k,o⟩:=p
   cases o with
   | cell v=>
    show Wk g _ ⟨vars,pre++(aI ρ (mU os' (k,.cell v)::t)++M)⟩
    unfold mU
    cases dO k os' with
    | none=>exact Wk.refl
    | some e=>cases e with
     | cell w=>cases w with
      | none=>exact step v
      | some w=>exact Wk.refl
     | _=>exact Wk.refl
   | list l=>
    show Wk g _ ⟨vars,pre++(aI ρ (mU os' (k,.list l)::t)++M)⟩
    unfold mU
    cases dO k os' with
    | none=>exact Wk.refl
    | some e=>cases e with
     | cell w=>cases w <;> exact Wk.refl
     | bq l'=>exact(Wk.perm Z_).trans (Wk.trans (fun F s r=> ⟨F,FM.le.refl F,r.weak Upd.here⟩) (Wk.perm Z_.symm))
     | _=>exact Wk.refl
   | _=>
    unfold mU
    cases dO k os' with
    | none=>exact Wk.refl
    | some e=>cases e with
     | cell w=>cases w <;> exact Wk.refl
     | _=>exact Wk.refl
  refine key.trans ?_
  show Wk g _ ⟨vars,pre++(aI ρ (mU os' p::Hu os' t)++M)⟩
  rw[a1,a1];exact ih
def aA(s:S)(vs:Vs)(os:Os):Prop:=(O6 s.vs vs,Hu os (FX s.os os))=(vs,os)
theorem AF:∀ {xs:List Str} {vs lR:Vs},O6 vs lR=lR→(cB ρ xs lR).map (·.1)=(cB ρ xs vs).map (·.1)∧∀p∈cB ρ xs lR,p.2=none∨p∈cB ρ xs vs:=by
 intro xs
 induction xs with
 | nil=>intro vs lR _;exact⟨rfl,fun p hp=>by cases hp⟩
 | cons x t ih=>
  intro vs lR h
  have key:O6 (tl vs) (tl lR)=tl lR∧(hd lR=none∨hd lR=hd vs):=by
   cases lR with
   | nil=>exact⟨rfl,.inl rfl⟩
   | cons o r=>
    have h':(o.casesOn none (fun O=>hd vs):Option RV)::O6 (tl vs) r=o::r:=h
    obtain⟨h1,h2⟩:=List.cons.inj h'
    refine⟨h2,?_⟩
    cases o with
    | none=>exact .inl rfl
    | some v=>exact .inr h1.symm
  obtain⟨i1,i2⟩:=ih key.1
  refine⟨E8 (x:: ·) i1,fun p hp=>?_⟩
  rcases J0.mp hp with rfl | hp
  ·rcases key.2 with e | e
   ·left;show(hd lR).map _=none;rw[e];rfl
   ·right;show(x,(hd lR).map (ah ρ))∈(x,(hd vs).map (ah ρ))::_;rw[e];exact E6
  ·rcases i2 p hp with e | e
   ·exact .inl e
   ·exact .inr (E4 _ e)
theorem mW{f:Nat×EO→Bool}:∀ {os:Os},(aI ρ (os.filter f)).Sublist (aI ρ os):=by
 intro os
 induction os with
 | nil=>exact .slnil
 | cons p t ih=>
  rw[Zz]
  split
  ·exact(ZK _).append ih
  ·exact ih.trans (Z6 _ _)
theorem Wk.sub{vars gM:dL}{mem mem':Mem}(h1:gM.map (·.1)=vars.map (·.1))(h2:∀p∈gM,p.2=none∨p∈vars)(h3:mem'.Sublist mem):Wk g ⟨vars,mem⟩ ⟨gM,mem'⟩:=fun F s r=>
 ⟨F,FM.le.refl F, {(r.sub h3).toRepM with
  ns:=let⟨m,hn,hv⟩:=r.ns;⟨m,hn,fun p hp=>by
   rcases h2 p hp with e | e
   ·rw[e];trivial
   ·exact hv p e⟩
  nv:=by rw[show(⟨gM,mem'⟩:AS).vars.map (·.1)=vars.map (·.1) from h1];exact r.nv
  gH:=r.gH,gL:=r.gL,fX:=fun p hp=>r.fX p (h3.subset hp),gI:=r.gI }⟩
theorem aA.wk{vs:Vs}{os:Os}{h:Hint}(e:aA s vs os):Wk C.g (tr C ρ M s) (tr C ρ M ⟨vs,os,h⟩):=by
 have e1:O6 s.vs vs=vs:=E8 fst e
 have e2:Hu os (FX s.os os)=os:=E8 snd e
 have:=AF (ρ:=ρ) (xs:=C.loc) e1
 refine(Wk.sub this.1 this.2 (mem':=aI ρ (FX s.os os)++M) (mW.append (.refl M))).trans ?_
 have:=Hv (g:=C.g) (ρ:=ρ) (M:=M) (os':=os) (vars:=cB ρ C.loc vs) (os:=FX s.os os) (pre:=[])
 rw[e2] at this;exact this
noncomputable def JM(a b:Nat)(o:Option RV):Option RV:=o.casesOn none fun v=>some (v.casesOn .v (fun k=> .r (cond (beq k a) b k)) .b .f)
theorem LU{a b:Nat}{o:Option RV}(h:xz b o=true)(p:∀j,j≠b→ρ' j=ρ j)(e:ρ' b=ρ a):(JM a b o).map (ah ρ')=o.map (ah ρ):=by
 cases o with
 | none=>rfl
 | some v=>cases v with
  | r k=>
   show some (AV.val (.ref (ρ' (cond (beq k a) b k))))=some (AV.val (.ref (ρ k)))
   cases hk:beq k a with
   | true=>rw[YE hk];exact E8 (fun z=>some (AV.val (.ref z))) e
   | false=>exact E8 (fun z=>some (AV.val (.ref z))) (p k (da h))
  | f fi q fZ=>exact tT (o:=some (.f fi q fZ)) h p
  | _=>rfl
theorem Hw{a b:Nat}(p:∀j,j≠b→ρ' j=ρ j)(e:ρ' b=ρ a){xs:List Str}:∀ {vs:Vs},vs.all (xz b)=true→cB ρ' xs (vs.map (JM a b))=cB ρ xs vs:=by
 induction xs with
 | nil=>intro vs _;rfl
 | cons x t ih=>
  intro vs h
  cases vs with
  | nil=>
   show(x,none)::cB ρ' t ([].map (JM a b))=(x,none)::cB ρ t []
   rw[ih (vs:=[]) rfl]
  | cons v vs=>
   rw[all_cons,Yb] at h
   show(x,(JM a b v).map (ah ρ'))::cB ρ' t (vs.map (JM a b))=(x,v.map (ah ρ))::cB ρ t vs
   rw[ih (vs:=vs) h.2,LU h.1 p e]
theorem Hx{k:Nat}{os:Os}:(aI ρ (rN k os)).Sublist (aI ρ os):=by
 induction os with
 | nil=>exact .refl _
 | cons p t ih=>
  show(aI ρ (cond (beq p.1 k) t (p::rN k t))).Sublist (p.2.mem ρ p.1++aI ρ t)
  cases beq p.1 k
  ·exact(ZK _).append ih
  ·exact Z6 ..
noncomputable def SB.rn(a b:Nat)(r:SB C):SB C:=⟨r.ss,fun s K=>oL (dO a s.os) (fun l=>gT (ble C.pin b&& (s.vs.all (xz b)&& (rN b (rN a s.os)).all fun p=>p.2.off b p.1)) (r.ex ⟨s.vs.map (JM a b),(b,.list l)::rN b (rN a s.os),s.h⟩ K)) False,
 fun {ρ env M s K} fr h=>j' h (fun l e h=>by
  obtain⟨hc,h⟩:=aC h
  obtain⟨h1,hc⟩:=E3.mp hc
  obtain⟨h2,h3⟩:=E3.mp hc
  have eb:iS ρ b (ρ a) b=ρ a:=X6 rfl
  have pin:Pin C ρ (iS ρ b (ρ a)):=fun j hj=>cK j fun q=>ZE.mpr (E1 h1) (q▸hj)
  have w:Wk C.g (tr C ρ M s) (tr C (iS ρ b (ρ a)) M ⟨s.vs.map (JM a b),(b,.list l)::rN b (rN a s.os),s.h⟩):=by
   show Wk _ _ ⟨cB (iS ρ b (ρ a)) C.loc (s.vs.map (JM a b)),((iS ρ b (ρ a) b,AO.list l)::aI (iS ρ b (ρ a)) (rN b (rN a s.os)))++M⟩
   rw[Hw cK eb h2,eb,po cK h3]
   refine(Wk.perm ((jB ρ (o':= .list l) e).1.append_right M)).trans (Wk.sub rfl (fun p hp=> .inr hp) ?_)
   exact((ZK [(ρ a,AO.list l)]).append Hx).append (.refl M)
  exact W0.weak w ((r.ok (fr.pin pin) h).mono fun O O q=>q.pin pin)) False.elim⟩
end
end
end
section
set_option tactic.hygienic true
section
section
variable {g:Gd}{F:FM}{C:Ctx}{ρ ρ':eJ}{env:Env}{M:Mem}{s:S}{α β:Type}
inductive PI(C:Ctx)(ρ:eJ)(M:Mem)(tp:Bool)(nd:Option Nat)(K:List AV→S→Prop):AV→AS→Prop
 | mk {l s v st tg cy} (qF:dw C.g v st (tr C ρ M s) tg cy l) (ht:∀t,(tp=true→lS t)→tg t) (hn:∀mem,(∀k,nd=some k→(ρ k,AO.list l)∈mem)→cy mem) (hm:∀k,nd=some k→(ρ k,AO.list l)∈(tr C ρ M s).mem) (k:K l s):PI C ρ M tp nd K v st
structure IT(C:Ctx) where
 e:Expr
 it:S→(List AV→S→Prop)→Prop
 tp:Bool
 nd:Option Nat
 ok:∀ {ρ env M s K},cz C ρ env→it s K→W0 C.g VR (eval e env) (tr C ρ M s) (PI C ρ M tp nd K)
 fs:∀env x,foldedSetIterable e env x=pure x
def UD(a:RV)(f:Int→Int→Int→Prop)(d:Prop):Prop:=a.casesOn (fun x=>x.casesOn d (fun O=>d) (fun O=>d) (fun O=>d) (fun O=>d) (fun O=>d) (fun O=>d) (fun O=>d) (fun O O O=>d) (fun O O O=>d) f) (fun O=>d) (fun O=>d) fun O O O=>d
theorem LV{f:Int→Int→Int→Prop}{d:Prop}{P:RV→Prop}(h:UD a f d)(h1:∀x y z,f x y z→P (.v (.B2 x y z)))(h2:d→P a):P a:=by cases a with | v x=> (cases x with | B2 x y z=>exact h1 _ _ _ h | _=>exact h2 h) | _=>exact h2 h
theorem Rl{tg:Expr→Prop}{tp:Bool}{K:List AV→S→Prop}(qF:dw C.g v (tr C ρ M s) (tr C ρ M s) (fun O=>True) (fun O=>True) l)(k:K l s):PI C ρ M tp none K v (tr C ρ M s):= .mk qF (fun O O=>trivial) (fun O O=>trivial) (fun O e=>nomatch e) k
def UE(a:RV)(s:S)(K:List AV→S→Prop):Prop:=mL a (fun l=>K l s)<|mT a (fun l=>K l s)<|UD a (fun x y z=>Builtin.Range.small x y z=true∧K (eg x y z) s)<|mS a (fun x=>x.cps.all (· <128)=true∧K (ie x) s) False
theorem LW{tp:Bool}{K:List AV→S→Prop}(h:UE a s K):PI C ρ M tp none K (ah ρ a) (tr C ρ M s):=
 gU (P:=fun a=>PI C ρ M tp none K (ah ρ a) (tr C ρ M s)) h (fun l h=>Rl (tg:=fun O=>True) (oM l) h) fun h=>rI (P:=fun a=>PI C ρ M tp none K (ah ρ a) (tr C ρ M s)) h (fun l h=>Rl (tg:=fun O=>True) (Cn l) h) fun h=>
 LV (P:=fun a=>PI C ρ M tp none K (ah ρ a) (tr C ρ M s)) h (fun x y z h=>Rl (tg:=fun O=>True) (Co h.1) h.2) fun h=>gi (P:=fun a=>PI C ρ M tp none K (ah ρ a) (tr C ρ M s)) h (fun x h=>Rl (tg:=fun O=>True) (CK h.1) h.2) False.elim
noncomputable def IT.of(x:SE C):IT C:=⟨x.e,fun s K=>x.ev s fun a s1=>UE a s1 K,false,none,fun fr h=>cA (x.ok fr h) fun O O h=>LW h,x.fm.fs⟩
noncomputable def Dx(b:BI):Bool:=b.casesOn false false false false false false false false false true false false false
noncomputable def JN(b:BI):Bool:=b.casesOn false false false false false false false false false false true false false
theorem AH{b:BI}(h:Dx b=true):b= .enumerate:=by cases b <;> first | rfl | cases h
theorem Dy{b:BI}(h:JN b=true):b= .zip:=by cases b <;> first | rfl | cases h
theorem LX{i:Nat}{es:List (SE C)}{tp:Bool}{K:List AV→S→Prop}{P:RV→List RV→S→Prop}(fr:cz C ρ env)(h:(SE.qU i fp:SE C).ev s fun f s1=>Ay es s1 fun xs s2=>P f xs s2)(hp:∀f xs s2,P f xs s2→b8 C.g (ah ρ f) (xs.map (ah ρ)) [] [] (tr C ρ M s2) (PI C ρ M tp none K)):W0 C.g VR (eval (.Call (.Name (lD C.gx i).1 fp) (iV es) [] pos) env) (tr C ρ M s) (PI C ρ M tp none K):=
 gb (cA ((SE.qU i fp:SE C).ok fr h) fun f s1 h=>qV (gC fr pos h) fun xs s2 h=>hp f xs s2 h) rfl (by rw[dE fr];rfl) (eo _ _)
noncomputable def IT.enum(i:Nat)(fp:Pos)(x:SE C)(pos:Pos):IT C:=⟨.Call (.Name (lD C.gx i).1 fp) (iV [x]) [] pos,
 fun s K=> (SE.qU i fp:SE C).ev s fun f s1=>Ay [x] s1 fun xs s2=>mG f (fun b=>gT (Dx b) (a1 xs (fun a=>mL a (fun l=>K (aV l) s2)<|mT a (fun l=>K (aV l) s2) False) False)) False,true,none,
 fun {ρ env M s K} fr h=>LX fr h fun f xs s2 h=>y0 (P:=fun f=>b8 C.g (ah ρ f) (xs.map (ah ρ)) [] [] (tr C ρ M s2) (PI C ρ M true none K)) h (fun b h=>by
  obtain⟨hb,h⟩:=aC h
  cases AH hb
  exact ka (P:=fun xs=>b8 C.g _ (xs.map (ah ρ)) [] [] (tr C ρ M s2) (PI C ρ M true none K)) h (fun a h=>gU (P:=fun a=>b8 C.g _ [ah ρ a] [] [] (tr C ρ M s2) (PI C ρ M true none K)) h (fun l h=>eI (K3 fun e it=> .mk rz (fun t h=>h rfl) (fun O O=>trivial) (fun O e=>nomatch e) h)) fun h=>
   rI (P:=fun a=>b8 C.g _ [ah ρ a] [] [] (tr C ρ M s2) (PI C ρ M true none K)) h (fun l h=>eI (GB fun e it=> .mk rz (fun t h=>h rfl) (fun O O=>trivial) (fun O e=>nomatch e) h)) False.elim) False.elim) False.elim,
 fun O O=>rfl⟩
theorem W1.weak{R:FM→β→α→Prop}{st cg:AS}{f:Value→Sem α}{x:AV}{Q:β→AS→Prop}(w:Wk g st cg)(h:W1 g R f x cg Q):W1 g R f x st Q:=fun F s v r hv K E k=>
 let⟨F1,l1,r1⟩:=w F s r
 h F1 s v r1 (hv.mono l1) K E fun F' b a a8 s2 l2=>k F' b a a8 s2 (l1.trans l2)
def ca(f:RF)(E A:Prop)(R:RV→Prop):Prop:=f.casesOn E A E R
def Dz(s:S)(f:(Nat→Prop)→(Nat→Vs)→(Nat→Os)→(Nat→AV→Hint)→Hint→Prop):Prop:=s.h.casesOn False (fun O O=>False) (fun O O=>False) (fun O=>False) (fun O O=>False) (fun O O O O=>False) (fun O O O=>False) f (fun O O O O O=>False) (fun O O O=>False)
def UF(s:S)(f:Nat→(Nat→Vs)→(Nat→Os)→(Nat→Hint)→Hint→Prop):Prop:=s.h.casesOn False (fun O O=>False) (fun O O=>False) (fun O=>False) (fun O O=>False) (fun O O O O=>False) (fun O O O=>False) (fun O O O O O=>False) f (fun O O O=>False)
theorem vC{f:(Nat→Prop)→(Nat→Vs)→(Nat→Os)→(Nat→AV→Hint)→Hint→Prop}{P:Prop}(h:Dz s f)(k:∀i a b c d,f i a b c d→P):P:=by obtain⟨vs,os,h'⟩:=s;cases h' with | loop i a b c d=>exact k _ _ _ _ _ h | _=>exact h.elim
theorem LY{f:Nat→(Nat→Vs)→(Nat→Os)→(Nat→Hint)→Hint→Prop}{P:Prop}(h:UF s f)(k:∀n a b c d,f n a b c d→P):P:=by obtain⟨vs,os,h'⟩:=s;cases h' with | wh n a b c d=>exact k _ _ _ _ _ h | _=>exact h.elim
theorem tU{K:RF→S→Prop}{vs:Vs}{os:Os}{f:f9}{st:AS}{Inv:AS→Prop}{J:Prop}(p:Pin C ρ ρ')(h:PF C ρ' M (fun f s=>ca f (J∧aA s vs os) False fun v=>K (.ret v) s) f st)(hI:J→∀pi,Pin C ρ pi→∀st,Wk C.g st (tr C pi M ⟨vs,os,.nil⟩)→Inv st):TurnEnd Inv (PF C ρ M K) f st:=by
 obtain⟨p',w,k⟩:=h
 rename_i pi f s
 cases f with
 | next=>exact hI k.1 _ (p.trans p') _ (w.trans (aA.wk k.2))
 | cont=>exact hI k.1 _ (p.trans p') _ (w.trans (aA.wk k.2))
 | brk=>exact k.elim
 | ret v=>exact .mk (f:= .ret v) (p.trans p') w k
def aW(t:TG C)(b:SB C)(l:List AV)(I:Nat→Prop)(vs:Nat→Vs)(os:Nat→Os)(h:Nat→AV→Hint)(R:RV→S→Prop):Prop:=
 ∀i y,l[i]? =some y→I i→t.set (.v y) ⟨vs i,os i,h i y⟩ fun s2=>b.ex s2 fun f s3=>ca f (I (i+1)∧aA s3 (vs (i+1)) (os (i+1))) False fun v=>R v s3
def xE(t:SE C)(b:SB C)(n:Nat)(vs:Nat→Vs)(os:Nat→Os)(h:Nat→Hint)(R:RV→S→Prop):Prop:=
 ∀i,i<n→t.tv ⟨vs i,os i,h i⟩ fun c s1=>c=true∧b.ex s1 fun f s3=>ca f (True∧aA s3 (vs (i+1)) (os (i+1))) False fun v=>R v s3
noncomputable def SS.for(t:TG C)(x:IT C)(b:SB C)(pos:Pos):SS C:=⟨.For t.e x.e b.ss [] pos,fun s K=>gT ((!x.tp||t.tup)&&x.nd.isNone) (x.it s fun l s1=>Dz s1 fun I vs os h k=> (I 0∧aA s1 (vs 0) (os 0))∧
  aW t b l I vs os h (fun v s3=>K (.ret v) s3)∧(I l.length→K .next ⟨vs l.length,os l.length,k⟩)),
 fun {ρ env M s K} fr h=>by
  obtain⟨hc,h⟩:=aC h
  obtain⟨LZ,UG⟩:=E3.mp hc
  refine uX ((x.ok fr h).mono fun v st q=>?_) (x.fs env)
  obtain⟨qF,ht,hn,hm,k⟩:=q
  rename_i l s1 tg cy
  refine vC k fun I vs os hh k ⟨⟨hI,h0⟩,oK,kv⟩=>?_
  have O7:x.nd=none:=by cases e:x.nd with | none=>rfl | some k=>rw[e] at UG;cases UG
  refine uY qF (ht _ fun e=>t.it (by rw[e] at LZ;exact LZ)) (fun i st=>I i∧∃ρ',Pin C ρ ρ'∧Wk C.g st (tr C ρ' M ⟨vs i,os i,.nil⟩)) ⟨hI,ρ,Pin.refl,aA.wk h0⟩ (fun O O O=>hn _ fun k e=>by rw[O7] at e;cases e) (fun i y st hy ⟨hi,ρ',p,w⟩=>?_) fun st ⟨hi,ρ',p,w⟩=> .mk (f:= .next) (s:=⟨vs l.length,os l.length,k⟩) p w (kv hi)
  exact W1.weak w (je (t.ok (v:= .v y) (s:=⟨vs i,os i,hh i y⟩) (fr.pin p) (oK i y hy hi)) fun s2 h=> (b.ok (fr.pin p) h).mono fun f st q=>tU p q fun j pi p' st w=> ⟨j,pi,p',w⟩)⟩
noncomputable def SS.M6(t:SE C)(b:SB C)(pos:Pos):SS C:=⟨.While t.e b.ss [] pos,fun s K=>UF s fun n vs os h k=>aA s (vs 0) (os 0)∧xE t b n vs os h (fun v s3=>K (.ret v) s3)∧
  t.tv ⟨vs n,os n,h n⟩ fun c s1=>c=false∧K .next ⟨s1.vs,s1.os,k⟩,
 fun {ρ env M s K} fr h=>by
  refine LY h fun n vs os hh k ⟨h0,oK,kv⟩=>?_
  refine GA (fun m st=> ∃i ρ',m=n - i∧i≤n∧Pin C ρ ρ'∧Wk C.g st (tr C ρ' M ⟨vs i,os i,.nil⟩)) n ⟨0,ρ,rfl,YK _,Pin.refl,aA.wk h0⟩ fun m st ⟨i,ρ',hm,hi,p,w⟩=>W0.weak w ?_
  rcases Nat.lt_or_ge i n with dK | La
  ·exact vq (G:=fun c aN=>if c=true then W0 C.g FR (execs b.ss env) aN (TurnEnd (fun a8=> ∃m',m'<m∧∃i ρ',m'=n - i∧i≤n∧Pin C ρ ρ'∧Wk C.g a8 (tr C ρ' M ⟨vs i,os i,.nil⟩)) (PF C ρ M K)) else PF C ρ M K .next aN) (t.tok (s:=⟨vs i,os i,hh i⟩) (fr.pin p) (oK i dK)) fun c s1 h=>by
    obtain⟨rfl,h⟩:=h
    rw[X6 rfl]
    exact(b.ok (fr.pin p) h).mono fun f st q=>tU p q fun O pi p' st w=> ⟨n - (i+1),by omega,i+1,pi,rfl,dK,p',w⟩
  ·have:i=n:=Zr hi La
   subst this
   exact vq (G:=fun c aN=>if c=true then W0 C.g FR (execs b.ss env) aN (TurnEnd (fun a8=> ∃m',m'<m∧∃j ρ',m'=i - j∧j≤i∧Pin C ρ ρ'∧Wk C.g a8 (tr C ρ' M ⟨vs j,os j,.nil⟩)) (PF C ρ M K)) else PF C ρ M K .next aN) (t.tok (s:=⟨vs i,os i,hh i⟩) (fr.pin p) kv) fun c s1 h=>by
    obtain⟨rfl,h⟩:=h
    rw[X5 (by simp)]
    exact .mk (f:= .next) (s:=⟨s1.vs,s1.os,k⟩) p Wk.refl h⟩
end
end
end
section
set_option tactic.hygienic true
section
section
variable {g:Gd}{F:FM}{C:Ctx}{ρ ρ':eJ}{env:Env}{M:Mem}{s:S}
noncomputable def isIn(l:List (Str×NameKind))(x:Str)(k:NameKind):Bool:=l.any fun p=>p.1==x&&decide (p.2=k)
theorem tV{l:List (Str×NameKind)}{k:NameKind}(h:isIn l x k=true):(x,k)∈l:=by
 obtain⟨p,hp,h⟩:=YY.mp h
 have h:=E3.mp h
 exact(Prod.ext (eq_of_beq h.1) (Yr h.2):p=(x,k))▸hp
noncomputable def L0(X:Cx):Bool:=X.loc.all (fun x=>isIn X.names x .local)&& (X.d7.all fun p=>isIn X.names p.1 p.2.1&&blt p.2.2 X.pin)&&X.qU.all fun i=> (mQ X.gx i).rec true fun p=>isIn X.names p.1 .globalImplicit
structure Wq(X:Cx):Prop where
 hl:∀x∈X.loc,(x,NameKind.local)∈X.names
 hc:∀p∈X.d7,(p.1,p.2.1)∈X.names∧p.2.2<X.pin
 hg:∀i∈X.qU,∀p,mQ X.gx i=some p→(p.1,globalImplicit)∈X.names
theorem DA{X:Cx}(h:L0 X=true):Wq X:=
 have h1:=E3.mp h
 have h2:=E3.mp h1.1
 ⟨fun x hx=>tV (E9.mp h2.1 x hx),fun p hp=>have h:=E3.mp (E9.mp h2.2 p hp);⟨tV h.1,E1 h.2⟩,fun i hi p hp=>tV (by have:=E9.mp h1.2 i hi;rw[hp] at this;exact this)⟩
theorem Hy{X:Cx}{cs:List (Str×Addr)}(fr:cz C ρ env)(hX:L0 X=true)(SW:X.gx=C.gx)(hl:(!X.full&&X.lam.isEmpty)=true)(hc:∀p∈X.d7,(p.1,ρ' p.2.2)∈cs)(b:h_ C.g g')(e:bI g' fq)(N:Kn fq X.names cs):cz ⟨X,g'⟩ ρ' fq:=by
 have x:=DA hX
 obtain⟨h6,h8⟩:=E3.mp hl
 refine⟨e,⟨cs,N,hc⟩,x.hl,x.hc,x.hg,fun p hp=>?_,b.n▸fr.h8,fun h hk=>fr.nb h fun a o ho=>hk a o (b.K▸ho),fun hf=>absurd ((nt h6).symm.trans hf) Yt,fun p hp=>?_⟩
 ·have:j5 C.g p.1 p.2.val:=fr.hx p (SW▸hp)
  show(g'.gl _=_)∨(g'.gl _=_∧g'.bl _=_)
  rw[b.gl,b.bl];exact this
 ·rw[show X.lam=[] from List.isEmpty_iff.mp h8] at hp;cases hp
structure LC(C:Ctx) where
 X:Cx
 t:∀g,TG ⟨X,g⟩
 ifs:∀g,List (SE ⟨X,g⟩)
 elt:∀g,SE ⟨X,g⟩
 more:List (Str×Const)
 gx:X.gx=C.gx
 loc:b_ X.names=X.loc
 et:∀g,(t g).e=(t C.g).e
 ei:∀g,iV (ifs g)=iV (ifs C.g)
 ee:∀g,(elt g).e=(elt C.g).e
noncomputable def LC.expr(m:LC C)(it:IT C)(pos:Pos):Expr:= .ListComp (m.elt C.g).e [⟨(m.t C.g).e,it.e,iV (m.ifs C.g),0⟩] ⟨.function,m.X.names,false,false,m.more⟩ pos
noncomputable abbrev OC:=Option (Str×Nat)
noncomputable def OC.lE(oc:OC)(ρ:eJ)(L:Addr):eJ:=oc.elim ρ fun q=>iS ρ q.2 (L+1)
noncomputable def OC.os(oc:OC)(os:Os):Os:=oc.elim os fun q=> (q.2,.cell none)::os
noncomputable def OC.off(oc:OC)(os:Os):Bool:=oc.elim true fun q=>os.all fun p=>p.2.off q.2 p.1
def OC.fin(oc:OC)(os:Os)(os':Os):Prop:=oc.elim (os'=os) fun q=> ∃o,os'=(q.2,.cell o)::os
noncomputable def OC.d7(oc:OC)(C:Ctx)(p:Str×NameKind×Nat):Bool:=oc.elim (C.d7.any fun q=>q.1==p.1&&beq q.2.2 p.2.2) fun z=> (p.1==z.1&&beq p.2.2 z.2)||((C.d7.any fun q=>q.1==p.1&&beq q.2.2 p.2.2)&&!(beq p.2.2 z.2))
noncomputable def zd(C:Ctx)(ρ:eJ):List (Str×Addr):=C.d7.map fun p=> (p.1,ρ p.2.2)
noncomputable def pA(C:Ctx)(X:Cx)(oc:OC)(tp tup:Bool):Bool:=(X.names.all fun p=>cond (tA p.2) (C.d7.any fun q=>q.1==p.1&&Ar q.2.1) true)&& (c9 X.names&& (dN (oc.map fst) X.names (zd C fun O=>0)&& (L0 X&& ((X.d7.all (oc.d7 C))&& ((!X.full&&X.lam.isEmpty)&& (!tp||tup))))))
structure fJ(C:Ctx)(X:Cx)(oc:OC)(tp tup:Bool):Prop where
 fr:(X.names.all fun p=>cond (tA p.2) (C.d7.any fun q=>q.1==p.1&&Ar q.2.1) true)=true
 kn:c9 X.names=true
 own:dN (oc.map fst) X.names (zd C fun O=>0)=true
 Wr:L0 X=true
 d7:(X.d7.all (OC.d7 oc C))=true
 pl:(!X.full&&X.lam.isEmpty)=true
 tp:(!tp||tup)=true
theorem mX{X:Cx}{tp tup:Bool}(h:pA C X oc tp tup=true):fJ C X oc tp tup:=
 have a:=E3.mp h
 have b:=E3.mp a.2
 have c:=E3.mp b.2
 have d:=E3.mp c.2
 have e:=E3.mp d.2
 have f:=E3.mp e.2
 ⟨a.1,b.1,c.1,d.1,e.1,f.1,f.2⟩
theorem xF{cs:List (Str×Addr)}(N:Kn env C.names cs)(tn:∀p∈C.d7,(p.1,ρ p.2.2)∈cs):Kn env C.names (zd C ρ):=
 ⟨N.kind,N.Q6,fun x k hm hk c hc=>N.cell x k hm hk c ((N5.mp hc).elim fun p hp=>hp.2▸tn p hp.1)⟩
theorem rQ{β:Type}{q:Str×β}:∀ {l:List (Str×β)},q∈l→(l.lookup q.1).isSome=true
 | p::r,h=>by
  rw[YX]
  cases hb:q.1==p.1 with
  | true=>rfl
  | false=>exact rQ ((J0.mp h).elim (fun e=>by rw[e,beq_self_eq_true] at hb;cases hb) id)
noncomputable def UH(C:Ctx)(sn:List (Str×NameKind)):Bool:=sn.all fun p=>cond (tA p.2) (C.d7.any fun q=>q.1==p.1&&Ar q.2.1) true
theorem pB{sn:List (Str×NameKind)}(h:UH C sn=true)(hc:∀p∈C.d7,(p.1,p.2.1)∈C.names∧p.2.2<C.pin):kR sn C.names (zd C ρ)=true:=
 E9.mpr fun p hp=>by
  have x:=E9.mp h p hp
  cases e:tA p.2 with
  | false=>rfl
  | true=>
   rw[e] at x
   obtain⟨q,hq,x⟩:=YY.mp x
   have x:=E3.mp x
   have l:((zd C ρ).lookup q.1).isSome=true:=rQ (q:=(q.1,ρ q.2.2)) (N5.mpr ⟨q,hq,rfl⟩)
   exact E3.mpr ⟨YY.mpr ⟨(q.1,q.2.1),(hc q hq).1,E3.mpr x⟩,(eq_of_beq x.1)▸l⟩
theorem fJ.UI{X:Cx}{tp tup:Bool}(h:fJ C X oc tp tup):dN (oc.map fst) X.names (zd C ρ)=true:=by
 have x:=h.own
 unfold dN zd at x ⊢
 rw[List.all_map] at x ⊢
 exact x
theorem OC.JO(z:Str×Nat)(L:Addr):OC.lE (some z) ρ L z.2=L+1:=X6 rfl
theorem OC.L1{oc:OC}{os:Os}{L:Addr}(h:oc.off os=true):aI (oc.lE ρ L) (oc.os os)=mc (oc.map fst).isSome L (aI ρ os):=by
 cases oc with
 | none=>rfl
 | some z=>exact congr (E8 (fun a l=> (a,AO.cell none)::l) (OC.JO z L)) (po cK h)
theorem fJ.DB{X:Cx}{tp tup:Bool}(h:fJ C X oc tp tup)(fr:cz C ρ env)(SW:X.gx=C.gx){L:Addr}(b:h_ C.g g')(e:bI g' fq)(N:Kn fq X.names (M3 (oc.map fst) L (zd C ρ))):cz ⟨X,g'⟩ (oc.lE ρ L) fq:=by
 refine Hy fr h.Wr SW h.pl (fun p hp=>?_) b e N
 have old:(C.d7.any fun q=>q.1==p.1&&beq q.2.2 p.2.2)=true→(p.1,ρ p.2.2)∈zd C ρ:=fun e=>by
  obtain⟨q,hq,e⟩:=YY.mp e
  have e:=E3.mp e
  exact N5.mpr ⟨q,hq,by rw[eq_of_beq e.1,YE e.2]⟩
 have x:=E9.mp h.d7 p hp
 cases oc with
 | none=>exact old x
 | some z=>
  rcases aaz.mp x with x | x
  ·have x:=E3.mp x
   rw[eq_of_beq x.1,YE x.2,OC.JO]
   exact .head _
  ·have x:=E3.mp x
   rw[show OC.lE (some z) ρ L p.2.2=ρ p.2.2 from cK _ (da x.2)]
   exact .tail _ (old x.1)
theorem rR{xs:List Str}:∀ {vs:Vs},(cB ρ xs vs).map (·.1)=xs:=by
 induction xs with
 | nil=>exact rfl
 | cons x t ih=>exact E8 (x:: ·) ih
theorem pC{xs:List Str}:cB ρ xs []=xs.map fun x=> (x,none):=by induction xs with | nil=>rfl | cons x t ih=>exact E8 ((x,none):: ·) ih
theorem OC.wk{oc:OC}{os os':Os}(h:oc.fin os os'){xs:List Str}{vs:Vs}{m:Mem}:Wk g ⟨cB ρ xs vs,aI ρ os'++m⟩ ⟨cB ρ xs [],aI ρ (oc.os os)++m⟩:=by
 have hk:(cB ρ xs []).map (·.1)=(cB ρ xs vs).map (·.1):=rR.trans rR.symm
 have hv:∀p∈cB ρ xs [],p.2=none∨p∈cB ρ xs vs:=fun p hp=>by rw[pC] at hp;obtain⟨_,_,rfl⟩:=N5.mp hp;exact .inl rfl
 cases oc with
 | none=>cases(h:_=_);exact u4 hk hv id fun p hp=> ⟨_,hp,.inl rfl⟩
 | some z=>
  obtain⟨o,rfl⟩:=h
  exact u4 hk hv id (X_.mpr ⟨⟨_,.head _,.inr ⟨_,rfl,rfl⟩⟩,fun p hp=> ⟨_,.tail _ hp,.inl rfl⟩⟩)
def ze(ifs:List (SE C))(s:S)(T F:S→Prop):Prop:=ifs.casesOn (T s) fun c r=>r.casesOn (c.tv s fun b s1=>br b s1 T F) fun O O=>False
theorem pD{ifs:List (SE C)}(fr:cz C ρ env){T F:S→Prop}(h:ze ifs s T F)(hT:∀s,T s→G true (tr C ρ M s))(hF:∀s,F s→G false (tr C ρ M s)):W0 C.g RQ (j8 (iV ifs) env) (tr C ρ M s) G:=by
 cases ifs with
 | nil=>exact u7 (hT s h)
 | cons c r=>cases r with
  | nil=>exact mJ (vq (c.tok fr h) fun b s3 h=>rK (P:=fun b=>G b (tr C ρ M s3)) h (fun k=>hT ⟨s3.vs,s3.os,k⟩) fun k=>hF ⟨s3.vs,s3.os,k⟩)
  | cons=>exact h.elim
def LC.zf(m:LC C)(oc:OC)(os:Os)(f:AV→Option AV)(h:AV→Hint)(l:List AV):Prop:= ∀g',h_ C.g g'→∀y,y∈l→(m.t g').set (.v y) ⟨[],oc.os os,h y⟩ fun s2=>ze (m.ifs g') s2 (fun s3=> (m.elt g').ev s3 fun v s4=>mV v (fun x=>f y=some x∧oc.fin os s4.os) False) fun s3=>f y=none∧oc.fin os s3.os
def LC.turn(m:LC C)(os:Os)(f:AV→Option AV)(h:AV→Hint)(l:List AV):Prop:=m.zf none os f h l
def LC.JP(m:LC C)(x0:Str)(c0:Nat)(os:Os)(f:AV→Option AV)(h:AV→Hint)(l:List AV):Prop:=m.zf (some (x0,c0)) os f h l
theorem LC.step(m:LC C){tp tup:Bool}(fr:cz C ρ env)(hg:fJ C m.X oc tp tup){f:AV→Option AV}{hh:AV→Hint}(ho:oc.off s.os=true)(h:m.zf oc s.os f hh l)(hy:y∈l){a:List AV}(ha:a.length≤sizeLine):
  oQ C.g (m.t C.g).e (iV (m.ifs C.g)) m.X.names (zd C ρ) (oc.map fst) (Ap (m.elt C.g).e) (aI ρ s.os) M y a (a++(f y).toList):=fun g' fq L D b e N=>by
 have FY:=hg.DB fr m.gx b e N
 have eC:∀(a:List AV) (k:Hint),nM (oc.map fst).isSome (b_ m.X.names) (aI ρ s.os) M L D a=tr ⟨m.X,g'⟩ (oc.lE ρ L) ((D,.list a)::M) ⟨[],oc.os s.os,k⟩:=fun a k=>by
  unfold nM tr
  rw[m.loc,pC,OC.L1 ho]
  cases oc <;> rfl
 rw[eC a (hh y),← m.et g',← m.ei g',← m.ee g']
 refine je (C:=⟨m.X,g'⟩) ((m.t g').ok (v:= .v y) FY (h g' b y hy)) fun s2 h2=>pD (C:=⟨m.X,g'⟩) FY h2 (fun s3 h3=>?_) fun s3 h3=>?_
 ·refine w9 (cA (C:=⟨m.X,g'⟩) ((m.elt g').ok FY h3) fun v s4 h4=>dQ (P:=fun v=> ∃a' mem',Upd (aI (oc.lE ρ L) s4.os++(D,.list a)::M) D (.list a') (.list (a'++ [ah (oc.lE ρ L) v])) mem'∧a'.length≤sizeLine∧Wk g' ⟨cB (oc.lE ρ L) m.X.loc s4.vs,mem'⟩ (nM (oc.map fst).isSome (b_ m.X.names) (aI ρ s.os) M L D (a++(f y).toList))) h4 (fun x h4=>?_) False.elim)
  refine⟨a,_,Upd.pre .here _,ha,?_⟩
  rw[h4.1,eC _ .nil]
  exact OC.wk h4.2
 ·show Wk g' _ (nM _ _ _ _ _ _ _)
  rw[h3.1,eC _ .nil,toList,YC]
  exact OC.wk h3.2
def hF(s:S)(f:(AV→Option AV)→(AV→Hint)→Hint→Prop):Prop:=s.h.casesOn False (fun O O=>False) (fun O O=>False) (fun O=>False) (fun O O=>False) (fun O O O O=>False) (fun O O O=>False) (fun O O O O O=>False) (fun O O O O O=>False) f
theorem DC{f:(AV→Option AV)→(AV→Hint)→Hint→Prop}{P:Prop}(h:hF s f)(k:∀a b c,f a b c→P):P:=by obtain⟨vs,os,h'⟩:=s;cases h' with | f a b c=>exact k _ _ _ h | _=>exact h.elim
def LC.run(m:LC C)(oc:OC)(it:IT C)(s:S)(K:List AV→S→Prop):Prop:=gT (pA C m.X oc it.tp (m.t C.g).tup) (it.it s fun l s1=>hF s1 fun f h k=>gT (oc.off s1.os) (l.length≤sizeLine∧m.zf oc s1.os f h l∧hV ⟨s1.vs,s1.os,k⟩ fun r s2=>mL (.v r) (fun r=>l.filterMap f=r∧K r s2) False))
theorem l8{l:List AV}{f:AV→Option AV}{i:Nat}{y:AV}(h:l[i]? =some y):(l.take (i+1)).filterMap f=(l.take i).filterMap f++(f y).toList:=by
 rw[Zi,h,List.filterMap_append]
 show _++ [y].filterMap f=_
 rw[Ys]
 cases f y <;> rfl
theorem nM.has{co:Bool}{ck:List Str}{m1 m2:Mem}{L D:Addr}{a:List AV}{p:Addr×AO}(h:p∈m1++m2):p∈(nM co ck m1 m2 L D a).mem:=
 (Cs co).subset ((Yf.mp h).elim (Yn _) fun h=>YL _ (.tail _ h))
theorem LC.go(m:LC C){oc:OC}{it:IT C}{pos ps:Pos}{use:Option (Value→Sem Unit)}{Q:AV→AS→Prop}{K:List AV→S→Prop}(fr:cz C ρ env)(h1:kS (oc.map fst) m.X.names)(h:m.run oc it s K)
  (hQ:∀l s1,K l s1→w_ C.g l (cB ρ C.loc s1.vs) (aI ρ s1.os) M (Gs C.g use Q)):W0 C.g VR (comprehension (m.expr it pos) ⟨.function,m.X.names,false,false,m.more⟩ env ps (newList []) false (eval it.e env) use) (tr C ρ M s) Q:=by
 obtain⟨hg,h⟩:=aC h
 have hg:=mX hg
 obtain⟨cs,N,tn⟩:=fr.N
 refine xb (p2:=it.e.pos) (cs:=zd C ρ) (B:=Ap (m.elt C.g).e) fr.e (xF N tn) rfl (pB hg.fr fr.hc) hg.kn hg.UI h1 (fun fq=>Jh _ _ _ _ _ _ fq) (it.fs env) ((it.ok fr h).mono fun v st q=>?_)
 obtain⟨qF,ht,hn,hm,k⟩:=q
 rename_i l s1 tg cy
 refine DC k fun f hh k h=>?_
 obtain⟨ho,hsz,JQ,hr⟩:=aC h
 refine gj hr fun r k' hr=>?_
 cases r with
 | lst r=>
  refine⟨cB ρ C.loc s1.vs,aI ρ s1.os,M,tg,cy,l,qF,ht _ fun e=> (m.t C.g).it ?_,fun L D a=>hn _ fun k e=>nM.has (hm k e),fun i=> (l.take i).filterMap f,rfl,fun i y hy=>?_,?_⟩
  ·have:=hg.tp
   rw[e] at this;exact this
  ·rw[l8 hy]
   exact m.step fr hg ho JQ (Yh hy) (E2 (ZH ..) (E2 (abn ..) hsz))
  ·rw[ZR,hr.1]
   exact hQ r ⟨s1.vs,s1.os,k'⟩ hr.2
 | _=>exact hr.elim
noncomputable def SE.lc(m:LC C)(it:IT C)(pos:Pos):SE C:=SE.M5 (m.expr it pos) (fun s K=>m.run Option.none it s fun l s1=>K (.v (.lst l)) s1) true false (fun fr h=>m.go (oc:=Option.none) (use:=Option.none) fr trivial h fun l s k=>oP (dY k)) (fun O=>rfl) ⟨fun O O=>rfl,fun O=>rfl,fun O O=>rfl,fun O O O O=>rfl,fun h=>nomatch h⟩
noncomputable def Hz(X:Cx)(x:Str)(py gz:Pos):Bool:=py.line==gz.line&&!(X.names.any fun q=>q.1==x&& (q.2== .local||q.2== .cell))
theorem LC.asg(m:LC C){oc:OC}{it:IT C}{i:Nat}{K:RF→S→Prop}{K':List AV→S→Prop}(fr:cz C ρ env)(hx:mQ C.loc i=some x)(hc:Hz m.X x py gz=true)(h1:kS (oc.map fst) m.X.names)(h:m.run oc it s K')(hQ:∀l s1,K' l s1→w_ C.g l (cB ρ C.loc s1.vs) (aI ρ s1.os) M fun v st=>W1 C.g UR (storeName env x) v st fun O=>PF C ρ M K .next):
  W0 C.g FR (exec (.Assign [.Name (lD C.loc i) py] (m.expr it gz) pos) env) (tr C ρ M s) (PF C ρ M K):=by
 obtain⟨cs,N,tn⟩:=fr.N
 rw[ij hx]
 exact u6 fr.e N (fr.hl _ (c_ hx)) hc (m.go (use:=some (assign (.Name x py) env)) fr h1 h fun l s1 k D F sh r=> (hQ l s1 k D F sh r).rec fun F' y cg le r v h=> ⟨F',y,cg,le,r,v,dh h⟩)
theorem LC.SX{i:Nat}{K:RF→S→Prop}(fr:cz C ρ' env)(hx:mQ C.loc i=some x)(p:Pin C ρ ρ')(h:K .next ⟨tL i v s.vs,s.os,s.h⟩):W1 C.g UR (storeName env x) (ah ρ' v) (tr C ρ' M s) fun O=>PF C ρ M K .next:=by
 have t:=TN.ok (t:= .loc i) (v:=v) (f:=fun s=>K .next s) (s:=s) (M:=M) fr (by show oR (mQ C.loc i) _;rw[hx];exact h)
 rw[show TN.name C (.loc i)=x from ij hx] at t
 exact je t fun s h=>LQ p h
noncomputable def SS.O8(i:Nat)(py:Pos)(m:LC C)(it:IT C)(gz pos:Pos):SS C:=⟨.Assign [.Name (lD C.loc i) py] (m.expr it gz) pos,
 fun s K=>oR (mQ C.loc i) fun x=>gT (Hz m.X x py gz) (m.run Option.none it s fun l s1=>K .next ⟨tL i (.v (.lst l)) s1.vs,s1.os,s1.h⟩),
 fun fr h=>by
  obtain⟨x,hx,h⟩:=dj h
  obtain⟨hc,h⟩:=aC h
  exact m.asg (oc:=Option.none) fr hx hc trivial h fun l s1 k=>oP (LC.SX (v:= .v (.lst l)) fr hx Pin.refl k)⟩
noncomputable def SS.SY(i:Nat)(py:Pos)(m:LC C)(x0:Str)(c0:Nat)(it:IT C)(gz pos:Pos)(LZ:∀n acc,cellsFrom n m.X.names acc=(x0,n)::acc)(JR:∀h,pushCells h m.X.names=h.push {cls:= .type "cell",data:= .cell none }):SS C:=⟨.Assign [.Name (lD C.loc i) py] (m.expr it gz) pos,
 fun s K=>oR (mQ C.loc i) fun x=>gT (Hz m.X x py gz) (m.run (some (x0,c0)) it s fun l s1=>K .next ⟨tL i (.v (.lst l)) s1.vs,s1.os,s1.h⟩),
 fun fr h=>by
  obtain⟨x,hx,h⟩:=dj h
  obtain⟨hc,h⟩:=aC h
  exact m.asg (oc:=some (x0,c0)) fr hx hc ⟨LZ,JR⟩ h fun l s1 k=>oP (LC.SX (v:= .v (.lst l)) fr hx Pin.refl k)⟩
noncomputable def SS.lcm(i id:Nat)(py:Pos)(m:LC C)(it:IT C)(gz pos:Pos):SS C:=⟨.Assign [.Name (lD C.loc i) py] (m.expr it gz) pos,
 fun s K=>oR (mQ C.loc i) fun x=>gT (Hz m.X x py gz&&ble C.pin id) (m.run Option.none it s fun l s1=>gT (s1.off id) (K .next ⟨tL i (.r id) s1.vs,(id,.list l)::s1.os,s1.h⟩)),
 fun {ρ env M s K} fr h=>by
  obtain⟨x,hx,h⟩:=dj h
  obtain⟨hc,h⟩:=aC h
  obtain⟨hc,hp⟩:=E3.mp hc
  refine m.asg (oc:=Option.none) fr hx hc trivial h fun l s1 k=>KY fun D=>?_
  obtain⟨ho,k⟩:=aC k
  have e:=pq (C:=C) (M:=M) (s:=s1) (cK (ρ:=ρ) (a:=D)) ho
  have e2:iS ρ id D id=D:=X6 rfl
  have pin:Pin C ρ (iS ρ id D):=fun j hj=>cK j fun q=>ZE.mpr (E1 hp) (q▸hj)
  have t:=LC.SX (v:= .r id) (s:=⟨s1.vs,(id,.list l)::s1.os,s1.h⟩) (M:=M) (fr.pin pin) hx pin k
  have e3:tr C (iS ρ id D) M ⟨s1.vs,(id,.list l)::s1.os,s1.h⟩=⟨cB ρ C.loc s1.vs,(D,.list l)::(aI ρ s1.os++M)⟩:=
   (congr (E8 AS.mk (E8 AS.vars e)) (congr (E8 (fun a m=> (a,AO.list l)::m) e2) (E8 AS.mem e)):(⟨_,(iS ρ id D id,AO.list l)::(aI (iS ρ id D) s1.os++M)⟩:AS)=_)
  have e4:ah (iS ρ id D) (.r id)= .val (.ref D):=E8 (fun a=>AV.val (.ref a)) e2
  rw[e3,e4] at t
  exact t⟩
end
end
end
section
set_option tactic.hygienic true
section
section
variable {g:Gd}{F:FM}{C:Ctx}{ρ ρ':eJ}{env:Env}{M:Mem}{s:S}{α β:Type}
noncomputable def zg(names:List (Str×NameKind)):List RV→Vs:=names.rec (fun O=>[]) fun p O ih vs=>kd p.2 (vs.head?::ih vs.tail) (ih vs.tail) (ih vs)
noncomputable def zh(n:Nat)(names:List (Str×NameKind)):List RV→Os→Os:=names.rec (motive:=fun O=>Nat→List RV→Os→Os) (fun O O m=>m) (fun p O ih n vs m=>kd p.2 (ih n vs.tail m) (ih (n+1) vs.tail ((n,.cell vs.head?)::m)) (ih n vs m)) n
theorem DD(ρ:eJ){names:List (Str×NameKind)}:∀(vs:List RV),oG names (vs.map (ah ρ))=cB ρ (b_ names) (zg names vs):=by
 induction names with
 | nil=>exact fun O=>rfl
 | cons p r ih=>
  intro vs
  obtain⟨x,k⟩:=p
  have h1:=map_tail (f:=ah ρ) (l:=vs)▸ih vs.tail
  cases k with
  | «local» =>exact congr (E8 (fun o l=> (x,o)::l) List.head?_map) h1
  | cell=>exact h1
  | _=>exact ih vs
theorem DE(ρ:eJ)(c0 L:Nat)(hρ:∀i,ρ (c0+i)=L+i){names:List (Str×NameKind)}:∀(i:Nat) (vs:List RV) (m:Os),rx (L+i) names (vs.map (ah ρ)) (aI ρ m)=aI ρ (zh (c0+i) names vs m):=by
 induction names with
 | nil=>exact fun O O O=>rfl
 | cons p r ih=>
  intro i vs m
  obtain⟨x,k⟩:=p
  have h1:=map_tail (f:=ah ρ) (l:=vs)▸ih i vs.tail m
  cases k with
  | «local» =>exact h1
  | cell=>
   have h2:=map_tail (f:=ah ρ) (l:=vs)▸ih (i+1) vs.tail ((c0+i,.cell vs.head?)::m)
   refine Eq.trans ?_ h2
   show rx (L+i+1) r _ ((L+i,AO.cell _)::aI ρ m)=rx (L+i+1) r _ ((ρ (c0+i),AO.cell _)::aI ρ m)
   rw[hρ,List.head?_map]
  | _=>exact ih i vs m
theorem AI(ρ:eJ)(c0 L:Nat)(hρ:∀i,ρ (c0+i)=L+i){names:List (Str×NameKind)}:∀(i:Nat) (acc:List (Str×Nat)),cellsFrom (L+i) names (acc.map fun p=> (p.1,ρ p.2))=(cellsFrom (c0+i) names acc).map fun p=> (p.1,ρ p.2):=by
 induction names with
 | nil=>exact fun O O=>rfl
 | cons p r ih=>
  intro i acc
  obtain⟨x,k⟩:=p
  cases k with
  | cell=>exact(E8 (fun a=>cellsFrom (L+i+1) r ((x,a)::acc.map fun p=> (p.1,ρ p.2))) (hρ i).symm).trans (ih (i+1) ((x,c0+i)::acc))
  | _=>exact ih i acc
noncomputable def rS(n:Nat)(v:RV):Bool:=v.casesOn (fun O=>true) (fun k=>blt k n) (fun O=>true) fun O O fZ=>fZ.all fun p=>blt p.2 n
noncomputable def EO.below(n k:Nat)(o:EO):Bool:=o.casesOn (fun O=>blt k n) (fun O=>blt k n) (fun v=>blt k n&&v.casesOn true (rS n)) fun m O=>ble (k+m) n
theorem vD{n:Nat}(h:rS n v=true)(p:∀j,j<n→ρ' j=ρ j):ah ρ' v=ah ρ v:=by
 cases v with
 | r j=>show AV.val (.ref (ρ' j))=_;rw[p j (E1 h)];rfl
 | f fi q fZ=>exact E8 (AV.fn fi q) (aad fun z hz=>by rw[p z.2 (E1 (E9.mp h z hz))])
 | _=>rfl
theorem zi{n:Nat}(p:∀j,j<n→ρ' j=ρ j):∀(m j:Nat),j+m≤n→lY ρ' m j=lY ρ m j
 | 0,_,_=>rfl
 | m+1,j,h=>by
  show ρ' j::lY ρ' m (j+1)=ρ j::lY ρ m (j+1)
  rw[p j (J3 (ZM (ZF m)) h),zi p m (j+1) (aaH j m▸h)]
theorem DF{n k:Nat}{o:EO}(h:o.below n k=true)(p:∀j,j<n→ρ' j=ρ j):o.mem ρ' k=o.mem ρ k:=by
 cases o with
 | list l=>show [(ρ' k,_)]=_;rw[p k (E1 h)];rfl
 | bq l=>show [(ρ' k,_)]=_;rw[p k (E1 h)];rfl
 | cell v=>
  have h':=E3.mp h
  show [(ρ' k,AO.cell (v.map (ah ρ')))]=_
  rw[p k (E1 h'.1)]
  cases v with
  | none=>rfl
  | some v=>show [(ρ k,AO.cell (some (ah ρ' v)))]=_;rw[vD h'.2 p];rfl
 | any m f=>exact E8 f (zi p m k (E1 h))
noncomputable def HA(n:Nat)(os:Os):Bool:=os.all fun p=>p.2.below n p.1
theorem zj{n:Nat}{os:Os}(h:HA n os=true)(p:∀j,j<n→ρ' j=ρ j):aI ρ' os=aI ρ os:=by
 induction os with
 | nil=>rfl
 | cons q t ih=>
  obtain⟨h1,h2⟩:=E3.mp (show(q.2.below n q.1&&HA n t)=true from h)
  show q.2.mem ρ' q.1++aI ρ' t=q.2.mem ρ q.1++aI ρ t
  rw[DF h1 p,ih h2]
theorem HB{n:Nat}{vs:List RV}(h:vs.all (rS n)=true)(p:∀j,j<n→ρ' j=ρ j):vs.map (ah ρ')=vs.map (ah ρ):=by
 induction vs with
 | nil=>rfl
 | cons v t ih=>
  obtain⟨h1,h2⟩:=E3.mp (show(rS n v&&t.all (rS n))=true from h)
  show ah ρ' v::_=_::_
  rw[vD h1 p];exact E8 _ (ih h2)
structure uI(g g':Gd):Prop where
 prog:g'.prog=g.prog
 w:g'.w=g.w
 K:g'.K=g.K
 os:g'.os=g.os
 gl:g'.gl=g.gl
 bl:g'.bl=g.bl
 tabs:g'.tabs=g.tabs
theorem fB.bO(b:fB g g'):uI g g':=⟨b.prog,b.w,b.K,b.os,b.gl,b.bl,b.tabs⟩
theorem h_.bO(b:h_ g g'):uI g g':=⟨b.prog,b.w,b.K,b.os,b.gl,b.bl,b.tabs⟩
theorem uI.trans(b:uI g g')(c:uI g' SZ):uI g SZ:=⟨c.prog.trans b.prog,c.w.trans b.w,c.K.trans b.K,c.os.trans b.os,c.gl.trans b.gl,c.bl.trans b.bl,c.tabs.trans b.tabs⟩
theorem uI.refl(g:Gd):uI g g:=⟨rfl,rfl,rfl,rfl,rfl,rfl,rfl⟩
structure qX(g:Gd)(a P:Addr)(q:Str):Prop where
 code:∀o fd,g.K.f a=some o→o.data= .func fd→(∃c,fd.code= .ref c∧∀h:Heap,(∀a o,g.K.f a=some o→h.get? a=some o)→CodeHd h c P)∧fd.qualname++ ".<locals>." ++ "<lambda>" =q
 tab:(P,q)∈g.tabs
 uniq:∀t∈g.tabs,t.1=P→t.2=q
 main:mainGlobals≠P
 bi:∀h:Heap,(∀a o,g.K.f a=some o→h.get? a=some o)→h.BuiltinsAt g.gl P
theorem qX.at{a P:Addr}{q:Str}(X:qX g a P q)(b:uI g g')(hc:to g a env):yV g' env P q:=by
 obtain⟨o,fd,h1,h2,h3,h4⟩:=hc
 obtain⟨⟨c,h5,h6⟩,h7⟩:=X.code o fd h1 h2
 exact⟨⟨c,by rw[h3,h5],by rw[b.K];exact h6⟩,by rw[h4];exact h7,by rw[b.tabs];exact X.tab,by rw[b.tabs];exact X.uniq,X.main,by rw[b.K,b.gl];exact X.bi⟩
theorem qX.bO{a P:Addr}{q:Str}(X:qX g a P q)(b:uI g g'):qX g' a P q:=⟨by rw[b.K];exact X.code,by rw[b.tabs];exact X.tab,by rw[b.tabs];exact X.uniq,X.main,by rw[b.K,b.gl];exact X.bi⟩
def cO(f:RF)(s:S)(x:AV)(os:Os):Prop:=f.casesOn (x= .none∧FX s.os os=os) False False fun v=>v= .v x∧FX s.os os=os
noncomputable def DB(X:Cx)(c0:Nat)(jX:List RV)(os:Os)(os':Os):Bool:=L0 X&& ((X.d7.all fun p=> (cellsFrom c0 X.names []).any fun q=>q.1==p.1&&beq q.2 p.2.2)&& (ble c0 X.pin&& (jX.all (rS c0)&& (HA c0 os&&HA c0 os'))))
theorem DG:aI ρ (a++b)=aI ρ a++aI ρ b:=by
 induction a with
 | nil=>rfl
 | cons p t ih=>exact(E8 (p.2.mem ρ p.1++ ·) ih).trans (Yc ..).symm
noncomputable def AJ(ρ:eJ)(c0 L:Nat):eJ:=fun j=>if c0≤j then L+1+(j - c0) else ρ j
theorem tW{c0 L:Nat}:∀j,j<c0→AJ ρ c0 L j=ρ j:=fun j hj=>X5 (not_le.mpr hj)
theorem zk{c0 L:Nat}:∀i,AJ ρ c0 L (c0+i)=L+1+i:=fun i=> (X6 (Yl _ _)).trans (by rw[aag])
theorem vE{X:Cx}{cs:List (Str×Addr)}(hn:9≤g.n)(nb:NB g)(hx:∀p∈X.gx,j5 g p.1 p.2.val)(hX:L0 X=true)(b:fB g g')(e:bI g' env)(N:Kn env X.names cs)(hc:∀p∈X.d7,(p.1,ρ p.2.2)∈cs)(kd:X.full=true→∀x,env.kindOf x=X.names.lookup x)(lm:∀p∈X.lam,yV g' env p.1 p.2):cz ⟨X,g'⟩ ρ env:=
 have x:=DA hX
 ⟨e,⟨cs,N,hc⟩,x.hl,x.hc,x.hg,fun p hp=>by
  have:=hx p hp
  show(g'.gl _=_)∨(g'.gl _=_∧g'.bl _=_)
  rw[b.gl,b.bl];exact this,b.n▸Yj hn,fun h hk=>nb h fun a o ho=>hk a o (b.K▸ho),kd,lm⟩
theorem DH{os os':Os}(h:FX os os'=os'):(aI ρ os'++M).Sublist (aI ρ os++M):=by
 have q:(aI ρ (FX os os')).Sublist (aI ρ os):=mW
 rw[h] at q
 exact q.append (.refl M)
theorem jg(hn:9≤g.n)(nb:NB g){a:Addr}{xs:List RV}{kn:List Str}{f_:List RV}{os os':Os}(hf:FnAt g.K a f qual dV kV)(X:Cx)(hx:∀p∈X.gx,j5 g p.1 p.2.val)(B:∀g,SB ⟨X,g⟩)(jX:List RV)(c0:Nat)(h:Hint){more:List (Str×Const)}(fC:∀g,f.body= .stmts (B g).ss)(w8:f.scope=⟨.function,X.names,false,false,more⟩)(CL:b_ X.names=X.loc)(i4:∀ρ,kO g f qual dV kV (xs.map (ah ρ)) kn (f_.map (ah ρ)) (dM X.names (jX.map (ah ρ))))(DI:DB X c0 jX os os'=true)(hc:∀ρ,Se X.names X.names (jX.map (ah ρ))=Sf X.names (jX.map (ah ρ)))(S1:∀p∈X.lam,qX g a p.1 p.2)(hex:∀g',fB g g'→(B g').ex ⟨zg X.names jX,zh c0 X.names jX []++os,h⟩ fun f s=>cO f s x os'):
  Fn g (.v (.val (.ref a))) xs kn f_ os (.v x) os':=fun ρ M=>by
 have o1:=E3.mp DI
 have o2:=E3.mp o1.2
 have o3:=E3.mp o2.2
 have o4:=E3.mp o3.2
 have o5:=E3.mp o4.2
 refine oH (E2 (E1 rfl) hn) hf X.names (jX.map (ah ρ)) (fC g) w8 (i4 ρ) (hc ρ) fun g' L env b e N kd cq=>?_
 have fr:cz ⟨X,g'⟩ (AJ ρ c0 L) env:=vE hn nb hx o1.1 b e N (fun p hp=>by
  obtain⟨q,hq,e⟩:=YY.mp (E9.mp o2.1 p hp)
  have e:=E3.mp e
  rw[← eq_of_beq e.1,← YE e.2]
  exact AI (AJ ρ c0 L) c0 (L+1) zk 0 []▸N5.mpr ⟨q,hq,rfl⟩) (fun O=>kd) fun p hp=> (S1 p hp).at b.bO cq
 have e4:(⟨oG X.names (jX.map (ah ρ)),rx (L+1) X.names (jX.map (ah ρ)) []++(aI ρ os++M)⟩:AS)=tr ⟨X,g'⟩ (AJ ρ c0 L) M ⟨zg X.names jX,zh c0 X.names jX []++os,h⟩:=by
  unfold tr
  rw[DG,zj o5.1 tW,Yc,← HB o4.1 (tW (ρ:=ρ) (L:=L)),DD,CL]
  exact E8 (fun m=> (⟨_,m++_⟩:AS)) (DE (AJ ρ c0 L) c0 (L+1) zk 0 jX [])
 rw[e4,show(B g).ss=(B g').ss from FuncBody.stmts.inj ((fC g).symm.trans (fC g'))]
 refine fun F s r K E k=> (B g').ok fr (hex g' b) F s r K E fun F' fl a st s' l r' hr q=>?_
 obtain⟨p,w,q⟩:=q
 rename_i ρ2 f2 s2
 obtain⟨F2,l2,r2⟩:=w F' s' r'
 have sub:FX s2.os os'=os'→(aI ρ os'++M).Sublist (tr ⟨X,g'⟩ ρ2 M s2).mem:=fun e=>
  zj o5.2 (fun j hj=> (p j (J3 hj (E1 o3.1))).trans (tW j hj))▸DH e
 cases f2 with
 | next=>exact k F2 .next a _ s' (l.trans l2) r2 hr ⟨_,sub q.2,q.1▸⟨rfl,rfl⟩⟩
 | ret v=>
  obtain⟨rfl,q⟩:=q
  exact k F2 (.ret x) a _ s' (l.trans l2) r2 (hr.mono l2) ⟨_,sub q,rfl,rfl⟩
 | _=>exact q.elim
noncomputable def RV.shift(d:Nat)(v:RV):RV:=v.casesOn .v (fun k=> .r (k+d)) .b fun fi q fZ=> .f fi q (fZ.map fun p=> (p.1,p.2+d))
noncomputable def EO.shift(d:Nat)(o:EO):EO:=o.casesOn .list .bq (fun v=> .cell (v.map (RV.shift d))) .any
noncomputable def Os.shift(d:Nat)(os:Os):Os:=os.map fun p=> (p.1+d,p.2.shift d)
theorem jD(d:Nat)(v:RV):ah ρ (v.shift d)=ah (fun k=>ρ (k+d)) v:=by cases v with
 | f fi q fZ=>exact E8 (AV.fn fi q) (YU ..)
 | _=>rfl
theorem pE(d:Nat):∀n k,lY ρ n (k+d)=lY (fun k=>ρ (k+d)) n k
 | 0,_=>rfl
 | n+1,k=>E8 (ρ (k+d):: ·) (by have:=pE d n (k+1);rw[Zo] at this;exact this)
theorem pF(d:Nat)(os:Os):aI ρ (Os.shift d os)=aI (fun k=>ρ (k+d)) os:=by
 induction os with
 | nil=>rfl
 | cons p t ih=>
  show(p.2.shift d).mem ρ (p.1+d)++aI ρ (Os.shift d t)=_++_
  rw[ih]
  congr 1
  cases h:p.2 with
  | list l=>rfl
  | bq l=>rfl
  | cell v=>show [(ρ (p.1+d),AO.cell ((v.map (RV.shift d)).map (ah ρ)))]=[(ρ (p.1+d),AO.cell (v.map _))];rw[aaW];congr 4;funext v;exact jD d v
  | any n f=>exact E8 f (pE d n p.1)
theorem Fn.shift{kn:List Str}{os os':Os}(h:Fn g fv xs kn f_ os x os')(d:Nat):Fn g (fv.shift d) (xs.map (RV.shift d)) kn (f_.map (RV.shift d)) (Os.shift d os) (x.shift d) (Os.shift d os'):=fun ρ M=>by
 have:=h (fun k=>ρ (k+d)) M
 rw[← pF,← pF,← jD,← jD] at this
 have e:∀l:List RV,(l.map (RV.shift d)).map (ah ρ)=l.map (ah fun k=>ρ (k+d)):=fun l=>by rw[YU];exact aad fun v O=>jD d v
 rw[e,e];exact this
end
end
end
section
section
section
variable {C:Ctx}
noncomputable def xG(n:Nat):Bool:=blt 0 n&&blt n 1073741824
theorem l9{n:Nat}(h:xG n=true):(n:Int)≠0∧(n:Int).natAbs<1073741824:=by
 obtain⟨h1,h2⟩:=E3.mp h
 have h1:=E1 h1
 have h2:=E1 h2
 exact⟨fun e=>aai 0 (by cases abe e;exact h1),h2⟩
noncomputable def SE.vF(l:SE C)(n k:Nat)(rp pos:Pos):SE C:=SE.vu (.BinOp l.e .FloorDiv (.Constant (.int n) k rp) pos) (fun s K=>l.ev s fun a s1=>mI a (fun i=>gT (xG n) (K (.v (.int (i.fdiv (n:Nat)))) s1)) False)
 fun {ρ env M s K} fr h=>nJ (cA (l.ok fr h) fun a s1 h=>uN (fh (P:=fun a=>W2 C.g VR _ (ah ρ a) (.int n) (tr C ρ M s1) (PV C ρ M K)) h (fun i h=> (aC h).elim fun e h=>NG (l9 e).1 (l9 e).2 (dY h)) False.elim))
noncomputable def SE.HC(l:SE C)(n k:Nat)(rp pos:Pos):SE C:=SE.vu (.BinOp l.e .Mod (.Constant (.int n) k rp) pos) (fun s K=>l.ev s fun a s1=>mI a (fun i=>gT (xG n) (K (.v (.int (i.fmod (n:Nat)))) s1)) False)
 fun {ρ env M s K} fr h=>nJ (cA (l.ok fr h) fun a s1 h=>uN (fh (P:=fun a=>W2 C.g VR _ (ah ρ a) (.int n) (tr C ρ M s1) (PV C ρ M K)) h (fun i h=> (aC h).elim fun e h=>Jc (l9 e).1 (dY h)) False.elim))
noncomputable def SE.dv(x:SE C)(n a:Nat):SE C:=SE.vF x n 0 (dP n x.p.endLine a) (ig x.p (dP n x.p.endLine a) 0 0)
noncomputable def SE.md(x:SE C)(n a:Nat):SE C:=SE.HC x n 0 (dP n x.p.endLine a) (ig x.p (dP n x.p.endLine a) 0 0)
noncomputable def SS.dead(st:Stmt):SS C:=⟨st,fun O O=>False,fun O h=>h.elim⟩
def L2(C:Ctx)(f:RV)(xs:List RV)(n:Str)(y:RV)(s:S)(K:RV→S→Prop):Prop:=y8 C f xs [n] [y] s K
noncomputable def SE.L3(f:SE C)(x:Str)(p:Pos)(hf:f.e= .Name x p)(es:List (SE C))(n:Str)(v:SE C)(kp pos:Pos):SE C:=
 SE.M5 (.Call (.Name x p) (iV es) [⟨some n,v.e,kp⟩] pos) (fun s K=>f.ev s fun fv s1=>Ay es s1 fun xs s2=>v.ev s2 fun y s3=>L2 C fv xs n y s3 K) false true
  (fun {ρ env M s K} fr h=>Gj (by rw[← hf];exact cA (f.ok fr h) fun fv s1 h=>qV (gC fr pos h) fun xs s2 h=>cA (v.ok fr h) fun y s3 h=>ph (f_:=[y]) h) rfl (by rw[dE fr];rfl) (eo _ _))
  (fun O=>rfl) ⟨fun O O=>rfl,fun O=>rfl,fun O O=>rfl,fun h=> (nomatch h),fun O O O O=>rfl⟩
noncomputable def SE.pG(i:Nat)(fp:Pos)(es:List (SE C))(n:Str)(v:SE C)(kp pos:Pos):SE C:=SE.L3 (SE.qU i fp) _ fp rfl es n v kp pos
theorem pH:∀ {l:List (Str×Nat)},(l.map fun p=> (p.1,ρ p.2)).lookup x=(l.lookup x).map ρ
 | []=>rfl
 | p::r=>by
  rw[Ye,YX,YX]
  cases x==p.1 with
  | true=>rfl
  | false=>exact pH
theorem DJ{ρ:eJ}{l:List (Str×Nat)}{sn:List (Str×NameKind)}:∀ {acc:List (Str×Nat)},ic (l.map fun p=> (p.1,ρ p.2)) sn (acc.map fun p=> (p.1,ρ p.2))=(ic l sn acc).map fun p=> (p.1,ρ p.2):=by
 induction sn with
 | nil=>exact rfl
 | cons p r ih=>
  intro acc
  unfold ic
  rw[← ih,pH]
  cases tA p.2 with
  | false=>rfl
  | true=>cases l.lookup p.1 <;> rfl
noncomputable def S3(C:Ctx):List (Str×Nat):=C.d7.map fun p=> (p.1,p.2.2)
noncomputable def SE.lam(params:Arguments)(body:Expr)(sn:List (Str×NameKind))(more:List (Str×Const))(pos:Pos)(hd:∀env,defaultsOf params env=([],[])):SE C:=
 SE.vu (.Lambda params body ⟨.function,sn,false,false,more⟩ pos) (fun s K=>gT (UH C sn) (oR (mQ C.lam 0) fun P=>K (.f ⟨"<lambda>",params,.expr body,⟨.function,sn,false,false,more⟩⟩ P.2 (ic (S3 C) sn [])) s))
 fun {ρ env M s K} fr h=>by
  obtain⟨hf,h⟩:=aC h
  obtain⟨P,hP,h⟩:=dj h
  obtain⟨cs,N,tn⟩:=fr.N
  refine CJ (fr.lm P (c_ hP)) fr.e (xF N tn) rfl (pB hf fr.hc) (hd env) ?_
  rw[show ic (zd C ρ) sn []=_ from(E8 (ic · sn []) (YU (g:=fun p:Str×Nat=> (p.1,ρ p.2)) (f:=fun p:Str×NameKind×Nat=> (p.1,p.2.2)) (l:=C.d7)).symm).trans (DJ (acc:=[]))]
  exact pv (rv:= .f _ P.2 _) h
noncomputable def O9(X:Cx)(x:Str)(fZ:List (Str×Nat))(os:Os):Bool:=L0 X&& (dN none X.names []&& (c9 X.names&& ((X.names.lookup x==some .local)&& (decide ((fZ.map (·.1)).Nodup)&& ((X.d7.all fun p=>fZ.any fun q=>q.1==p.1&&beq q.2 p.2.2)&& (X.lam.isEmpty&&!X.full))))))
theorem DK{g:Gd}(hn:9≤g.n)(nb:NB g){f:FI}{q:Str}{fZ:List (Str×Nat)}{os:Os}(X:Cx)(hx:∀p∈X.gx,j5 g p.1 p.2.val)(E:∀g,SE ⟨X,g⟩){a0:Str}(h:Hint){more:List (Str×Const)}(fC:∀g,f.body= .expr (E g).e)(w8:f.scope=⟨.function,X.names,false,false,more⟩)(i4:∀v fZ doc pm an d9 ct,bindArgs (Kx f q fZ doc pm an d9 ct) ⟨[v],[]⟩=pure [(a0,v)])(DI:O9 X a0 fZ os=true)(CL:X.loc=[a0])(hex:∀g',fB g g'→(E g').ev ⟨[some (.v y)],os,h⟩ fun v s=>v= .v x∧FX s.os os=os):Fn g (.f f q fZ) [.v y] [] [] os (.v x) os:=fun ρ M=>by
 have o1:=E3.mp DI
 have o2:=E3.mp o1.2
 have o3:=E3.mp o2.2
 have o4:=E3.mp o3.2
 have o5:=E3.mp o4.2
 have o6:=E3.mp o5.2
 have o7:=E3.mp o6.2
 have oc:∀cs,dN none X.names cs=true:=fun cs=>E3.mpr ⟨(E3.mp o2.1).1,E9.mpr fun O O=>rfl⟩
 refine GQ (x:=a0) (E2 (E1 rfl) hn) (fC g) w8 (oc _) o3.1 (eq_of_beq o4.1) ((YU (l:=fZ) (g:=fst) (f:=fun p:Str×Nat=> (p.1,ρ p.2))).symm▸Yr o5.1) (fun v doc pm an d9 ct=>i4 v _ doc pm an d9 ct) fun g' L env b e N=>?_
 have fr:cz ⟨X,g'⟩ ρ env:=vE hn nb hx o1.1 b e N (fun p hp=>by
  obtain⟨z,hz,e⟩:=YY.mp (E9.mp o6.1 p hp)
  have e:=E3.mp e
  exact N5.mpr ⟨z,hz,by rw[eq_of_beq e.1,YE e.2]⟩) (fun hf=>absurd ((nt o7.2).symm.trans hf) Yt) fun p hp=>by rw[List.isEmpty_iff.mp o7.1] at hp;cases hp
 rw[show(E g).e=(E g').e from FuncBody.expr.inj ((fC g).symm.trans (fC g'))]
 have e4:(⟨[(a0,some y)],aI ρ os++M⟩:AS)=tr ⟨X,g'⟩ ρ M ⟨[some (.v y)],os,h⟩:=by
  unfold tr
  rw[CL];rfl
 show W0 g' VR _ ⟨[(a0,some y)],aI ρ os++M⟩ _
 rw[e4]
 exact cA ((E g').ok fr (hex g' b)) fun v s hk=>by
  obtain⟨rfl,hk⟩:=hk
  exact⟨aI ρ os++M,DH hk,rfl,rfl⟩
end
end
end
section
section
noncomputable def cx(y:Lay)(loc:List Str)(d7:List (Str×NameKind×Nat))(qU:List Nat)(full:Bool)(lam:List (Addr×Str):=[]):Cx:=
 ⟨loc.map (·,.local)++(d7.map (fun p=> (p.1,p.2.1))++qU.map fun i=> ((lD (GX y) i).1,.globalImplicit)),loc,d7,qU,GX y,30,full,lam⟩
noncomputable def JS(y:Lay)(ns:List (Str×NameKind))(d7:List (Str×NameKind×Nat))(qU:List Nat)(full:Bool)(lam:List (Addr×Str):=[]):Cx:=
 ⟨ns++qU.map fun i=> ((lD (GX y) i).1,.globalImplicit),b_ ns,d7,qU,GX y,30,full,lam⟩
theorem rT{g:Gd}{hn:1≤g.n}{C:Addr}{vs:List Value}:uI g (g.under hn C vs):=⟨rfl,rfl,rfl,rfl,rfl,rfl,rfl⟩
structure O_(K:FM)(d k:Addr):Prop where
 d:∃o n t,K.f d=some o∧o.data= .seq #[.int 0 t,.none] n
 k:∃m,(∀h:Heap,(∀a o,K.f a=some o→h.get? a=some o)→h.Ns k m)∧m (Str.ofString "key")=some .none
structure O'(y:Lay)(K:FM):Prop where
 cls:vg K (y.ad 100) y.N y.mN
 m0:y.mN (Str.ofString "__init__")=some (.ref (y.am 0))
 m1:y.mN (Str.ofString "_convert_string_type")=some (.ref (y.am 1))
 m7:y.mN (Str.ofString "get_all")=some (.ref (y.am 7))
 Pa:y.mN (Str.ofString "add_header")=some (.ref (y.am 16))
 mh:y.mN (Str.ofString "_headers")=none
 f0:FnAt K (y.am 0) (fm 0) (Str.ofString "Headers.__init__") (.ref y.d0) .none
 f1:FnAt K (y.am 1) (fm 1) (Str.ofString "Headers._convert_string_type") .none .none
 f7:FnAt K (y.am 7) (fm 7) (Str.ofString "Headers.get_all") .none .none
 Pb:FnAt K (y.am 16) (fm 16) (Str.ofString "Headers.add_header") .none .none
 fn:∀j,(j=0∨j=1∨j=7∨j=16)→∃o,K.f (y.am j)=some o∧o.cls= .type "function"
 d0:∃o n,K.f y.d0=some o∧o.data= .seq #[.none] n
 pn:xp K (y.ad 102) yy
 pv:xp K (y.ad 103) yz
 sm:∃o,K.f sysModules=some o
structure dy(y:Lay)(g:Gd):Prop where
 gx:∀p∈GX y,j5 g p.1 p.2.val
 nb:NB g
 fn:∀i q,(i,q)∈[(72,"_law_either"),(73,"_law_claim"),(74,"_law_written"),(75,"_law_proved"),(76,"_law_net"),(77,"_law_paired"),(78,"_law_hangs"),(79,"_law_hues"),(80,"_law_crossed"),(13,"rgb_to_hls"),(14,"rgb_to_hsv"),(15,"hsv_to_rgb"),(68,"ISTERMINAL"),(69,"ISNONTERMINAL"),(70,"ISEOF")]→FnAt g.K (y.ad i) (s8 i) (Str.ofString q) .none .none
 DL:∀i q,(i,q)∈[(9,"bisect_right"),(10,"insort_left"),(11,"bisect_left")]→FnAt g.K (y.ad i) (s8 i) (Str.ofString q) (.ref (y.dd i)) (.ref (y.dk i))∧O_ g.K (y.dd i) (y.dk i)
 l_:O' y g.K
 tab:lT g (y.ad 101) y.es y.en
 Rm:qX g (y.ad 77) (y.lp 77) (Str.ofString "_law_paired.<locals>.<lambda>")
 Rn:qX g (y.ad 80) (y.lp 80) (Str.ofString "_law_crossed.<locals>.<lambda>")
theorem dy.bO(X:dy y g)(b:uI g g'):dy y g' where
 gx p hp:=by unfold j5;rw[b.gl,b.bl];exact X.gx p hp
 nb h:=by rw[b.K];exact X.nb h
 fn:=by rw[b.K];exact X.fn
 DL:=by rw[b.K];exact X.DL
 l_:=by rw[b.K];exact X.l_
 tab:=⟨by rw[b.K];exact X.tab.at',by rw[b.w];exact X.tab.keys,X.tab.lo⟩
 Rm:=X.Rm.bO b
 Rn:=X.Rn.bO b
theorem qY{l:List Value}(h:l.length=1):∃a,l=[a]:=by cases l with | nil=>cases h | cons a l=>cases l with | nil=>exact⟨a,rfl⟩ | cons=>cases h
theorem L4{l:List Value}(h:l.length=2):∃a b,l=[a,b]:=by cases l with | nil=>cases h | cons a l=>obtain⟨b,rfl⟩:=qY (abR h);exact⟨a,b,rfl⟩
theorem HD{l:List Value}(h:l.length=3):∃a b c,l=[a,b,c]:=by cases l with | nil=>cases h | cons a l=>obtain⟨b,c,rfl⟩:=L4 (abR h);exact⟨a,b,c,rfl⟩
theorem HE{l:List Value}(h:l.length=4):∃a b c d,l=[a,b,c,d]:=by cases l with | nil=>cases h | cons a l=>obtain⟨b,c,d,rfl⟩:=HD (abR h);exact⟨a,b,c,d,rfl⟩
noncomputable abbrev q(l a b:Nat):Pos:=⟨l,a,l,b⟩
abbrev SL(l:List AV):Prop:=l.length≤sizeLine
abbrev AG(l:List AV)(k:Int)(v:AV):Prop:=d5 l k=some v
abbrev VI(a b:AV):Prop:=RV.v a=RV.v b
abbrev VV(a:AV):Prop:=RV.v a=RV.v a
abbrev rf{α:Type}(a:α):Prop:=a=a
abbrev EE(V:Vs)(O:Os):Prop:=aA ⟨V,O,.nil⟩ V O
theorem ai{a b:Prop}(h:a)(k:b):a∧b:=⟨h,k⟩
theorem a6{Q P:Prop}(p:P)(e:Q=P):Q:=e▸p
end
end
section
section
noncomputable def ma(x:AV):List AV:=x.casesOn [] (fun O=>[]) (fun O=>[]) (fun O=>[]) (fun O=>[]) (fun O=>[]) (fun l=>l) (fun O=>[]) (fun O O O=>[]) (fun O O O=>[]) (fun O O O=>[])
noncomputable def qH(x:AV):List AV:=x.casesOn [] (fun O=>[]) (fun O=>[]) (fun O=>[]) (fun O=>[]) (fun O=>[]) (fun O=>[]) (fun l=>l) (fun O O O=>[]) (fun O O O=>[]) (fun O O O=>[])
noncomputable def gk(x:AV):Int:=x.casesOn 0 (fun O=>0) (fun i=>i) (fun O=>0) (fun O=>0) (fun O=>0) (fun O=>0) (fun O=>0) (fun O O O=>0) (fun O O O=>0) (fun O O O=>0)
noncomputable def vG(x:AV):Str:=x.casesOn ⟨#[]⟩ (fun O=> ⟨#[]⟩) (fun O=> ⟨#[]⟩) (fun O=> ⟨#[]⟩) (fun s=>s) (fun O=> ⟨#[]⟩) (fun O=> ⟨#[]⟩) (fun O=> ⟨#[]⟩) (fun O O O=> ⟨#[]⟩) (fun O O O=> ⟨#[]⟩) (fun O O O=> ⟨#[]⟩)
noncomputable def Pc(x:AV):Bool:=x.casesOn false (fun O=>false) (fun O=>false) (fun O=>false) (fun O=>false) (fun O=>false) (fun O=>true) (fun O=>false) (fun O O O=>false) (fun O O O=>false) (fun O O O=>false)
noncomputable def iT(l:List AV)(n:Nat):AV:=(mQ l n).casesOn .none fun x=>x
end
section
variable {α β:Type}{a b:List α}{m n i:Nat}
theorem gD(h:a.length≤m)(k:b.length≤n):(a++b).length≤m+n:=by rw[N8];exact ZQ h k
theorem cp(h:a.length≤m):(a.take i).length≤m:=E2 (by rw[YS];exact abg ..) h
theorem gm(h:a.length≤m):(a.drop i).length≤m:=by rw[YJ];exact E2 (sub_le ..) h
theorem az{f:α→β}(h:a.length≤m):(a.map f).length≤m:=by rw[E7];exact h
theorem zm{x:α}(h:a.length≤m):(x::a).length≤m+1:=Zp h
theorem DM:([]:List α).length≤0:=N1 0
theorem HF{n:Nat}(h:n≤1000000):n≤sizeLine:=E2 h (by decide)
theorem sz(h:n≤m)(k:ble m 1000000=true):n≤sizeLine:=HF (E2 h (E1 k))
theorem bd{p:Nat}(h:n≤m)(k:ble m p=true):n≤p:=E2 h (E1 k)
theorem sa{p q:Nat}(h:m≤p)(k:n≤q):m+n≤p+q:=ZQ h k
theorem S4{x:Int}{n:Nat}(h:0<n):0≤x.fmod n:=YF _ (Yd.mpr h)
theorem UJ{x:Int}{n:Nat}(h:0<n):x.fmod n<n:=YV _ (Yd.mpr h)
theorem nz{n:Nat}(h:0<n):(n:Int)≠0:=fun e=>aai 0 (by cases abe e;exact h)
theorem toNat_lt{x:Int}(h0:0≤x)(h:x<n):x.toNat<n:=(Ze h0).mpr h
theorem xH{x:Int}(h:0≤x):(x+1).toNat=x.toNat+1:=Int.toNat_add h (by decide)
theorem fy{l:List AV}{i:Int}(h0:0≤i)(h1:i<l.length):d5 l i=some (l.getD i.toNat .none):=by
 have e:((i.toNat:Nat):Int)=i:=Yx h0
 have hl:i.toNat<l.length:=toNat_lt h0 h1
 have:=fD (l:=l) (k:=i.toNat) (x:=l.getD i.toNat .none) (by rw[N6 hl,N4,N6 hl];rfl)
 rw[e] at this;exact this
theorem cf{a b:List AV}(h:a=b):AV.lst a=AV.lst b:=E8 _ h
theorem vH{f:α→AV}(l:List α)(i:Nat):AV.lst (aS (l.map f) none (some (i:Int)) none)=AV.lst ((l.take i).map f):=cf ((oF _ (N3 i)).trans Y8.symm)
theorem tX{f:α→AV}(l:List α)(i:Nat):AV.lst (aS (l.map f) (some ((i:Int)+1)) none none)=AV.lst ((l.drop (i+1)).map f):=cf ((fE _ (Int.le_add_one (N3 i))).trans Y9.symm)
theorem fK{l:List α}{f:α→AV}{k:Nat}(d:α)(h:k<l.length):d5 (l.map f) (k:Int)=some (f (l.getD k d)):=
 fD (by rw[Yi,N6 h,N4,N6 h];rfl)
theorem S5{f:α→AV}(a b:List α)(x y:α):(a++x::y::b).map f=a.map f++ [f x,f y]++b.map f:=by rw[N9,Yc];rfl
theorem L5{f:α→AV}(a b:List α):a.map f++b.map f=(a++b).map f:=N9.symm
theorem L6{l:List α}{i:Nat}{c:α}(h:l[i]? =some c):l=l.take i++c::l.drop (i+1):=by
 rw[← (Ym.mp h).2,List.getElem_cons_drop,ZW]
theorem jh(l:List α)(x:α):(l++ [x]).length=l.length+1:=N8
theorem rU(l:List α)(x:α):((l++ [x]).length:Int) - 1=l.length:=by rw[jh];exact Int.add_sub_cancel (l.length:Int) 1
theorem pI{l m:List α}{i:Nat}(hi:i<l.length)(hm:m.length=2):(l.take i++m++l.drop (i+1)).length=l.length+1:=by
 rw[N8,N8,YS,YJ,hm,ZG (YA hi)]
 exact(Zo (i+1) 1 _).trans (E8 (· +1) (abw hi))
end
theorem eR{F:FM}{vs kvs ds:List Value}{fd:FuncData}{names:List (Str×NameKind)}{kn:List Str}(hv:be F xs vs)(hd:be F HG ds)(hk:be F f_ kvs)(hb:vs.length=xs.length→kvs.length=f_.length→BindsTo s fd ⟨vs,kn.zip kvs⟩ ((names.map (·.1)).zip (vs++(ds++kvs)))):∃bs,BindsTo s fd ⟨vs,kn.zip kvs⟩ bs∧BR F (dM names (xs++(HG++f_))) bs:=
 ⟨_,hb hv.length hk.length,Ck (hv.append (hd.append hk))⟩
theorem Pd{l:List Value}(h:l.length≤4):∃a b c d,l=[a,b,c,d].take l.length:=by
 cases l with
 | nil=>exact⟨.none,.none,.none,.none,rfl⟩
 | cons a l=>cases l with
  | nil=>exact⟨a,.none,.none,.none,rfl⟩
  | cons b l=>cases l with
   | nil=>exact⟨a,b,.none,.none,rfl⟩
   | cons c l=>cases l with
    | nil=>exact⟨a,b,c,.none,rfl⟩
    | cons d l=>cases l with
     | nil=>exact⟨a,b,c,d,rfl⟩
     | cons _ l=>exact absurd h (Nat.not_le_of_lt (YR 5 l.length))
theorem jZ(X:dy y g)(hn:9≤g.n){i:Nat}(hf:FnAt g.K (y.ad i) (s8 i) qual .none .none)(Z:Cx)(B:∀g,SB ⟨Z,g⟩){xs:List RV}{os os':Os}(h:Hint)(hd:∀(ρ:eJ) g' bd doc pm an d9 ct a b c d,(Z.gx,Z.lam,ble xs.length 4,(s8 i).body,(s8 i).scope,b_ Z.names,DB Z 10 xs os os',Se Z.names Z.names (xs.map (ah ρ)),bindArgs (fnX (s8 i).name qual (s8 i).params bd (s8 i).scope [] .none .none doc pm an d9 ct) ⟨[a,b,c,d].take xs.length,[]⟩)=
   (GX y,[],true,.stmts (B g').ss,⟨.function,Z.names,false,false,(s8 i).scope.more⟩,Z.loc,true,Sf Z.names (xs.map (ah ρ)),pure ((Z.names.map (·.1)).zip ([a,b,c,d].take xs.length)))) (hex:∀g',fB g g'→(B g').ex ⟨zg Z.names xs,zh 10 Z.names xs []++os,h⟩ fun f s=>cO f s x os'):
  Fn g (.v (.val (.ref (y.ad i)))) xs [] [] os (.v x) os':=by
 have h0:=fun ρ g'=>hd ρ g' [] .none .none .none .none .none .none .none .none .none
 have a:=fun ρ g'=>E8 snd (E8 snd (E8 snd (h0 ρ g')))
 have b:=fun ρ g'=>E8 snd (a ρ g')
 have c:=fun ρ g'=>E8 snd (E8 snd (b ρ g'))
 refine jg hn X.nb hf Z ((show Z.gx=GX y from E8 fst (h0 id g)).symm▸X.gx) B xs 10 h (fun g'=>E8 fst (a id g')) (E8 fst (b id g)) (E8 (fun p=>p.2.1) (b id g)) (fun ρ bd F s vs kvs doc pm an d9 ct O hv hG=>oJ hv hG fun vs hl=>?_)
  (E8 fst (c id g)) (fun ρ=>E8 (fun p=>p.2.1) (c ρ g)) (fun p hp=>?_) hex
 ·have hl:=hl.trans (E7 ..)
  obtain⟨a,b,c,d,e⟩:=Pd (l:=vs) (hl▸E1 (E8 (fun p=>p.2.2.1) (h0 id g)))
  rw[e,hl]
  exact abf (E8 (fun p=>p.2.2.2.2.2.2.2.2) (hd ρ g bd doc pm an d9 ct a b c d))
 ·rw[show Z.lam=[] from E8 (fun p=>p.2.1) (h0 id g)] at hp
  exact nomatch hp
section
variable {ρ:eJ}(σ:Nat→Nat)
noncomputable def RV.lE(v:RV):RV:=v.casesOn .v (fun k=> .r (σ k)) .b fun fi q fZ=> .f fi q (fZ.map fun p=> (p.1,σ p.2))
noncomputable def EO.lE(o:EO):EO:=o.casesOn .list .bq (fun v=> .cell (v.map (RV.lE σ))) .any
noncomputable def Os.lE(os:Os):Os:=os.map fun p=> (σ p.1,p.2.lE σ)
noncomputable def DN(os:Os):Bool:=os.all fun p=>p.2.casesOn (fun O=>true) (fun O=>true) (fun O=>true) fun O O=>false
theorem nO(v:RV):ah ρ (v.lE σ)=ah (fun k=>ρ (σ k)) v:=by cases v with
 | f fi q fZ=>exact E8 (AV.fn fi q) (YU ..)
 | _=>rfl
theorem vI{os:Os}(h:DN os=true):aI ρ (Os.lE σ os)=aI (fun k=>ρ (σ k)) os:=by
 induction os with
 | nil=>rfl
 | cons p t ih=>
  obtain⟨h1,h2⟩:=E3.mp h
  obtain⟨k,o⟩:=p
  show(o.lE σ).mem ρ (σ k)++aI ρ (Os.lE σ t)=o.mem (fun k=>ρ (σ k)) k++_
  rw[ih h2]
  refine E8 (· ++aI (fun k=>ρ (σ k)) t) ?_
  cases o with
  | cell v=>cases v with
   | none=>rfl
   | some v=>exact E8 (fun x=>[(ρ (σ k),AO.cell (some x))]) (nO σ v)
  | any=>cases h1
  | _=>rfl
theorem Fn.lE{kn:List Str}{os os':Os}(h:Fn g fv xs kn f_ os x os')(ha:DN os=true)(hb:DN os'=true):
  Fn g (fv.lE σ) (xs.map (RV.lE σ)) kn (f_.map (RV.lE σ)) (Os.lE σ os) (x.lE σ) (Os.lE σ os'):=fun ρ M=>by
 have:=h (fun k=>ρ (σ k)) M
 rw[← vI σ ha,← vI σ hb,← nO σ fv,← nO σ x] at this
 have e:∀l:List RV,(l.map (RV.lE σ)).map (ah ρ)=l.map (ah fun k=>ρ (σ k)):=fun l=>by rw[YU];exact aad fun v O=>nO σ v
 rw[e,e];exact this
end
end
section
section
noncomputable def UK(y:Lay):Cx:=cx y ["row","kinds","turn"] [] [0] true
noncomputable def Ws(y:Lay)(g:Gd):SB ⟨UK y,g⟩:= .cons (.exp (.mt (.lo 1 271 4) .append [(.nt 1 271 17)]))<| .cons (.ag (.loc 0) 272 4 (.add (.get (.lo 0 272 10) (.fx (some (.mod (.lo 2 272 14) (.cl 0 272 21 [(.lo 0 272 25)]))) .none .none)) (.get (.lo 0 272 34) (.fx .none (some (.mod (.lo 2 272 39) (.cl 0 272 46 [(.lo 0 272 50)]))) .none))))<| .cons (.ret (.add (.lst [(.tup [(.sub (.cl 0 273 13 [(.lo 1 273 17)]) (.nt 1 273 26)),(.get (.lo 0 273 29) (.nt 0 273 33)),(.get (.lo 0 273 37) (.nt 1 273 41))])]) (.get (.lo 0 273 48) (.fx (some (.nt 2 273 52)) .none .none))))<| .nil
noncomputable def lF(l:List AV)(t:Int):List AV:=l.drop (t.fmod l.length).toNat++l.take (t.fmod l.length).toNat
noncomputable def cb(row:List AV)(n:Nat)(turn:Int):List AV:= .tup (.int n::(lF row turn).take 2)::(lF row turn).drop 2
theorem tY(l:List AV)(t:Int):(lF l t).length=l.length:=by
 unfold lF
 rw[N8,ZU,← N8,ZW]
theorem HH{l:List AV}{t:Int}(h:2≤l.length):∃x y r,lF l t=x::y::r:=by
 rw[← tY l t] at h
 generalize lF l t=m at h
 cases m with
 | nil=>cases h
 | cons x m=>cases m with
  | nil=>cases h;contradiction
  | cons y r=>exact⟨x,y,r,rfl⟩
theorem pJ(l:List AV)(n:Nat)(t:Int){k:Nat}(h:l.length=k+2):(cb l n t).length=k+1:=by
 show((lF l t).drop 2).length+1=k+1
 rw[YJ,tY,h];rfl
noncomputable abbrev jE(turn:Int)(row:List AV):=drop (toNat (fmod turn (↑(length row):Int))) row++take (toNat (fmod turn (↑(length row):Int))) row
noncomputable abbrev jF(turn:Int)(row:List AV):=fmod turn (↑(length row):Int)
noncomputable abbrev zn(ks:List AV)(row:List AV)(turn:Int):=[AV.tup [.int ((↑(length (ks++ [AV.int 1])):Int) - (1:Int)),getD (lF row turn) 0 AV.none,getD (lF row turn) 1 AV.none]]
theorem rV(X:dy y g)(hn:9≤g.n)(row ks:List AV)(turn:Int)(h2:2≤row.length)(hl:row.length≤100)(hk:ks.length≤100):
  Fn g (.v (.val (.ref (y.ad 72)))) [.v (.lst row),.r 0,.v (.int turn)] [] [] [(0,.list ks)] (.v (.lst (cb row ks.length turn))) [(0,.list (ks++ [.int 1]))]:=
 jZ X hn (X.fn 72 "_law_either" (by decide)) (UK y) (Ws y) (.v (.lst (row.drop (turn.fmod row.length).toNat))<| .v (.lst (row.take (turn.fmod row.length).toNat))<| .v ((lF row turn).getD 0 .none)<| .v ((lF row turn).getD 1 .none)<| .v (.lst ((lF row turn).drop 2)) .nil) (by intros;kernel_rfl!) fun g' b=>by
  have hp:0<row.length:=J3 (by decide) h2
  have s1:row.length≤sizeLine:=sz hl rfl
  have h0:=S4 (x:=turn) hp
  have K5:(lF row turn).length≤100:=E2 (X7 (tY ..)) hl
  have s2:=sz K5 rfl
  obtain⟨p,q,r,hr⟩:=HH (t:=turn) h2
  have i0:d5 (lF row turn) 0=some ((lF row turn).getD 0 .none):=by rw[hr];exact fD rfl
  have i1:d5 (lF row turn) 1=some ((lF row turn).getD 1 .none):=by rw[hr];exact fD rfl
  have ef:AV.lst ([.tup [.int ((ks++ [AV.int 1]).length - 1:Int),(lF row turn).getD 0 .none,(lF row turn).getD 1 .none]]++(lF row turn).drop 2)=AV.lst (cb row ks.length turn):=by
   unfold cb;rw[rU,hr];rfl
  have k2:(ks++ [AV.int 1]).length≤sizeLine:=sz (gD hk (zm DM)) rfl
  have k4: [AV.none].length+((lF row turn).drop 2).length≤sizeLine:=sz (sa (N1 1) (gm K5)) rfl
  refine a6 (P:=SL ks∧SL row∧(↑(length row):Int)≠0∧SL row∧AV.lst (aS row (some (jF turn row)) none none)= .lst (drop (toNat (jF turn row)) row)∧SL row∧(↑(length row):Int)≠0∧SL row∧AV.lst (aS row none (some (jF turn row)) none)= .lst (take (toNat (jF turn row)) row)∧length (drop (toNat (jF turn row)) row)+length (take (toNat (jF turn row)) row)≤sizeLine∧SL (ks++ [AV.int 1])∧SL (jE turn row)∧AG (jE turn row) 0 (getD (lF row turn) 0 .none)∧SL (jE turn row)∧AG (jE turn row) 1 (getD (lF row turn) 1 .none)∧SL (jE turn row)∧AV.lst (aS (jE turn row) (some 2) none none)= .lst (drop 2 (lF row turn))∧length (zn ks row turn)+length (drop 2 (lF row turn))≤sizeLine∧VI (.lst ((zn ks row turn)++drop 2 (lF row turn))) (.lst (cb row (length ks) turn))∧[(0,EO.list (ks++ [AV.int 1]))]=[(0,.list (ks++ [.int 1]))]) ?_ (by kernel_rfl!)
  exact(ai (sz hk rfl)<|ai s1<|ai (nz hp)<|ai s1<|ai (cf (fE row h0))<|ai s1<|ai (nz hp)<|ai s1<|ai (cf (oF row h0))<|ai (sz (sa (gm hl) (cp hl)) rfl)<|ai k2<|ai s2<|ai i0<|ai s2<|ai i1<|ai s2<|ai (cf (fE (lF row turn) (k:=2) (by decide)))<|ai k4<|ai (E8 RV.v ef) (Eq.refl ([(0,.list (ks++ [.int 1]))]:Os)))
end
end
section
section
noncomputable def M7(y:Lay):Cx:=cx y ["first","second","third","row","kinds","new","x","at","back","link"] [] [0,22] true
noncomputable def vJ(y:Lay)(g:Gd):TG ⟨M7 y,g⟩:= .xy [(.n (.loc 5) 276 8),(.n (.loc 6) 276 13)]
noncomputable def vK(y:Lay)(g:Gd):SB ⟨M7 y,g⟩:= .cons (.qW (.loc 7) (.loc 8) (q 277 8 10) (q 277 12 16) 0 (q 277 8 16) [(.of (.mod (.lo 6 277 20) (.cl 0 277 24 [(.lo 3 277 28)]))),(.of (.md (.dv (.lo 6 277 34) 4 39) 2 43))] 0 (q 277 19 45) (q 277 8 45) (by kernel_rfl!))<| .cons (.exp (.mt (.lo 4 278 8) .append [(.nt 0 278 21)]))<| .cons (.ag (.loc 9) 279 8 (.y6 (.lo 8 279 49) (.tup [(.sub (.cl 0 279 16 [(.lo 4 279 20)]) (.nt 1 279 29)),(.get (.lo 3 279 32) (.lo 7 279 36)),(.lo 5 279 41)]) (.tup [(.sub (.cl 0 279 60 [(.lo 4 279 64)]) (.nt 1 279 73)),(.lo 5 279 76),(.get (.lo 3 279 81) (.lo 7 279 85))])))<| .cons (.ag (.loc 3) 280 8 (.add (.add (.get (.lo 3 280 14) (.fx .none (some (.lo 7 280 19)) .none)) (.y6 (.lo 8 280 45) (.lst [(.lo 9 280 27),(.add (.lo 5 280 33) (.nt 1 280 39))]) (.lst [(.add (.lo 5 280 56) (.nt 1 280 62)),(.lo 9 280 65)])) (q 280 14 71)) (.get (.lo 3 280 74) (.fx (some (.add (.lo 7 280 78) (.nt 1 280 83))) .none .none))))<| .cons (.ag (.loc 3) 281 8 (.y6 (.md (.dv (.lo 6 281 50) 8 55) 2 59) (.cl 22 281 14 [(.lo 3 281 26),(.lo 4 281 31),(.dv (.lo 6 281 38) 16 43)]) (.lo 3 281 66)))<| .nil
noncomputable def DO(y:Lay)(g:Gd):SE ⟨M7 y,g⟩:= .gt (.cl 0 282 10 [(.lo 3 282 14)]) (.nt 1 282 21)
noncomputable def DP(y:Lay)(g:Gd):SB ⟨M7 y,g⟩:= .cons (.qW (.loc 3) (.loc 2) (q 283 8 11) (q 283 13 18) 0 (q 283 8 18) [(.of (.cl 22 283 22 [(.lo 3 283 34),(.lo 4 283 39),(.lo 2 283 46)])),(.of (.dv (.lo 2 283 54) 4 63))] 0 (q 283 21 65) (q 283 8 65) (by kernel_rfl!))<| .nil
noncomputable def Wt(y:Lay)(g:Gd):SB ⟨M7 y,g⟩:= .cons (.qW (.loc 3) (.loc 4) (q 275 4 7) (q 275 9 14) 0 (q 275 4 14) [(.of (.lst [(.nt 0 275 19),(.nt 1 275 22)])),(.new 30 [] (q 275 26 28))] 0 (q 275 17 29) (q 275 4 29) (by kernel_rfl!))<| .cons (.for (vJ y g) (.of (.tup [(.tup [(.nt 2 276 20),(.lo 0 276 23)]),(.tup [(.nt 4 276 32),(.lo 1 276 35)])])) (vK y g) ⟨276,4,281,69⟩)<| .cons (.M6 (DO y g) (DP y g) ⟨282,4,283,65⟩)<| .LS 4<| .cons (.ret (.tup [(.get (.lo 3 284 12) (.nt 0 284 16)),(.lo 4 284 20)]))<| .nil
noncomputable def bJ(new x:Int)(row:List AV)(n:Nat):List AV:=
 let at':=(x.fmod row.length).toNat
 let old:=row.getD at' .none
 let Pe:AV:=if(x.fdiv 4).fmod 2≠0 then .tup [.int n,old,.int new] else .tup [.int n,.int new,old]
 let HI:=row.take at'++(if(x.fdiv 4).fmod 2≠0 then [Pe,.int (new+1)] else [.int (new+1),Pe])++row.drop (at'+1)
 if(x.fdiv 8).fmod 2≠0 then cb HI (n+1) (x.fdiv 16) else HI
noncomputable def aR(x:Int)(ks:List AV):List AV:=if(x.fdiv 8).fmod 2≠0 then ks++ [.int 0]++ [.int 1] else ks++ [.int 0]
noncomputable def BO(a b c:Int)(row:List AV):Vs:=[some (.v (.int a)),some (.v (.int b)),some (.v (.int c)),some (.v (.lst row)),some (.r 30),none,none,none,none,none]
noncomputable def uJ(ks:List AV):Os:=[(30,.list ks)]
noncomputable def DQ(new x:Int)(row ks:List AV):Hint:=
 let at':=(x.fmod row.length).toNat
 let old:=row.getD at' .none
 let n:Int:=((ks++ [AV.int 0]).length:Int) - 1
 let HI (m:List AV):=row.take at'++m++row.drop (at'+1)
 let rest (m:List AV):Hint:= .sp (.call (.v (.lst (cb (HI m) (ks++ [AV.int 0]).length (x.fdiv 16)))) [(30,.list (ks++ [.int 0]++ [.int 1]))] .nil) .nil
 .sp (.v old<| .v (.lst (row.take at'))<| .b true<| .v (.lst (row.drop (at'+1)))<|rest [.tup [.int n,old,.int new],.int (new+1)])
  (.v old<| .v (.lst (row.take at'))<| .b false<| .v (.lst (row.drop (at'+1)))<|rest [.int (new+1),.tup [.int n,.int new,old]])
noncomputable abbrev dq(x:Int)(row:List AV):=fmod x (↑(length row):Int)
noncomputable abbrev eK(ks:List AV):=(↑(length (ks++ [AV.int 0])):Int) - (1:Int)
noncomputable abbrev bK(x:Int)(row:List AV):=toNat (dq x row)
noncomputable abbrev nQ(x:Int)(row:List AV)(ks:List AV)(new:Int):=take (bK x row) row++ [AV.tup [.int (eK ks),getD row (bK x row) AV.none,AV.int new],.int (new+(1:Int))]++drop (toNat (dq x row)+1) row
noncomputable abbrev nR(x:Int)(row:List AV)(new:Int)(ks:List AV):=take (bK x row) row++ [AV.int (new+(1:Int)),.tup [.int (eK ks),AV.int new,getD row (bK x row) AV.none]]++drop (toNat (dq x row)+1) row
noncomputable abbrev nS(x:Int):=fmod (fdiv x ((4:Nat):Int)) ((2:Nat):Int) !=(0:Int)
noncomputable abbrev nT(x:Int):=fmod (fdiv x ((8:Nat):Int)) ((2:Nat):Int) !=(0:Int)
noncomputable abbrev nU(x:Int):=fmod (fdiv x ((4:Nat):Int)) ((2:Nat):Int)
noncomputable abbrev nV(ks:List AV):=[(30,EO.list (ks++ [AV.int 0]++ [AV.int 1]))]
noncomputable abbrev nW(x:Int)(row:List AV):=drop (toNat (dq x row)+1) row
noncomputable abbrev k7(ks:List AV):=[(30,EO.list (ks++ [AV.int 0]))]
noncomputable abbrev k8(ks:List AV):=length (ks++ [AV.int 0])
noncomputable abbrev vL(row:List AV)(x:Int):=aS row (some (fmod x (↑(length row):Int)+(1:Int))) none none
theorem pK(X:dy y g)(hn:9≤g.n)(a b c new x:Int)(row ks:List AV)(R:RV→S→Prop)(h2:2≤row.length)(hl:row.length≤50)(hk:ks.length≤50):
  (vJ y g).set (.v (.tup [.int new,.int x])) ⟨BO a b c row,uJ ks,DQ new x row ks⟩ fun s2=> (vK y g).ex s2 fun f s3=>ca f (True∧aA s3 (BO a b c (bJ new x row ks.length)) (uJ (aR x ks))) False fun v=>R v s3:=by
 have hp:0<row.length:=J3 (by decide) h2
 have s1:row.length≤sizeLine:=sz hl rfl
 have z1:=nz hp
 have k1:ks.length≤sizeLine:=sz hk rfl
 have kl:(ks++ [AV.int 0]).length≤51:=gD hk (zm DM)
 have k2:(ks++ [AV.int 0]).length≤sizeLine:=sz kl rfl
 have f0:=S4 (x:=x) hp
 have f1:=UJ (x:=x) hp
 have i1:=fy f0 f1
 have t1:=cf (oF row f0)
 have t2:AV.lst (aS row (some (x.fmod row.length+1)) none none)=AV.lst (row.drop ((x.fmod row.length).toNat+1)):=
  cf ((fE row (Int.le_add_one f0)).trans (E8 row.drop (xH f0)))
 have n1:=rU ks (AV.int 0)
 have r1:∀m:List AV,m.length=2→(row.take (x.fmod row.length).toNat).length+m.length≤sizeLine:=fun m hm=>sz (sa (cp hl) (X7 hm)) rfl
 have r2:∀m:List AV,m.length=2→(row.take (x.fmod row.length).toNat++m).length+(row.drop ((x.fmod row.length).toNat+1)).length≤sizeLine:=fun m hm=>sz (sa (gD (cp hl) (X7 hm)) (gm hl)) rfl
 have r3:∀m:List AV,m.length=2→(row.take (x.fmod row.length).toNat++m++row.drop ((x.fmod row.length).toNat+1)).length=row.length+1:=fun m hm=>pI (toNat_lt f0 f1) hm
 have fe:∀m:List AV,m.length=2→Fn g (.v (.val (.ref (y.ad 72)))) [.v (.lst (row.take (x.fmod row.length).toNat++m++row.drop ((x.fmod row.length).toNat+1))),.r 30,.v (.int (x.fdiv 16))] [] [] [(30,.list (ks++ [.int 0]))] (.v (.lst (cb (row.take (x.fmod row.length).toNat++m++row.drop ((x.fmod row.length).toNat+1)) (ks++ [AV.int 0]).length (x.fdiv 16)))) [(30,.list (ks++ [.int 0]++ [.int 1]))]:=
  fun m hm=> (rV X hn _ (ks++ [AV.int 0]) (x.fdiv 16) (by rw[r3 m hm];exact Y6 h2) (by rw[r3 m hm];exact bd (Zp hl) rfl) (bd kl rfl)).shift 30
 have rr:∀b d:Bool,((x.fdiv (4:Nat)).fmod (2:Nat) !=0)=b→((x.fdiv (8:Nat)).fmod (2:Nat) !=0)=d→bJ new x row ks.length=cond d (cb (row.take (x.fmod row.length).toNat++cond b [.tup [.int (((ks++ [AV.int 0]).length:Int) - 1),row.getD (x.fmod row.length).toNat .none,.int new],.int (new+1)] [.int (new+1),.tup [.int (((ks++ [AV.int 0]).length:Int) - 1),.int new,row.getD (x.fmod row.length).toNat .none]]++row.drop ((x.fmod row.length).toNat+1)) (ks++ [AV.int 0]).length (x.fdiv 16))
   (row.take (x.fmod row.length).toNat++cond b [.tup [.int (((ks++ [AV.int 0]).length:Int) - 1),row.getD (x.fmod row.length).toNat .none,.int new],.int (new+1)] [.int (new+1),.tup [.int (((ks++ [AV.int 0]).length:Int) - 1),.int new,row.getD (x.fmod row.length).toNat .none]]++row.drop ((x.fmod row.length).toNat+1))∧aR x ks=cond d (ks++ [.int 0]++ [.int 1]) (ks++ [.int 0]):=fun b d hb hd=>by
  have Jb:((x.fdiv 4).fmod 2 !=0)=b:=hb
  have Q7:((x.fdiv 8).fmod 2 !=0)=d:=hd
  rw[n1,jh]
  unfold bJ aR
  cases b <;> cases d <;> simp only[bne_iff_ne,ne_eq,bne_eq_false_iff_eq] at Jb Q7 <;> simp[Jb,Q7]
 refine a6 (P:=SL row∧(↑(length row):Int)≠0∧SL ks∧((nS x)=true→SL (ks++ [AV.int 0])∧SL row∧AG row (dq x row) (getD row (bK x row) .none)∧SL row∧AV.lst (aS row none (some (dq x row)) none)= .lst (take (bK x row) row)∧(nS x)=true∧length (take (bK x row) row)+length [AV.tup [.int (eK ks),getD row (bK x row) AV.none,AV.int new],.int (new+1)]≤sizeLine∧SL row∧AV.lst (vL row x)= .lst (nW x row)∧length (take (bK x row) row++ [AV.tup [.int (eK ks),getD row (bK x row) AV.none,AV.int new],.int (new+1)])+length (nW x row)≤sizeLine∧((nT x)=true→Fn g (.v (.val (.ref (y.1 72)))) [.v (.lst (nQ x row ks new)),.r 30,.v (.int (fdiv x ((16:Nat):Int)))] [] [] (k7 ks) (.v (.lst (cb (nQ x row ks new) (k8 ks) (fdiv x 16)))) (nV ks)∧True∧aA (.mk ([some (.v (.int a)),some (.v (.int b)),some (.v (.int c)),some (.v (.lst (cb (nQ x row ks new) (k8 ks) (fdiv x 16)))),some (.r 30),some (.v (.int new)),some (.v (.int x)),some (.v (.int (dq x row))),some (.v (.int (nU x))),some (.v (.tup [.int (eK ks),getD row (bK x row) AV.none,AV.int new]))]) ((nV ks)) .nil) (BO a b c (bJ new x row (length ks))) (uJ (aR x ks)))∧((nT x)=false→True∧aA (.mk ([some (.v (.int a)),some (.v (.int b)),some (.v (.int c)),some (.v (.lst (nQ x row ks new))),some (.r 30),some (.v (.int new)),some (.v (.int x)),some (.v (.int (dq x row))),some (.v (.int (nU x))),some (.v (.tup [.int (eK ks),getD row (bK x row) AV.none,AV.int new]))]) ((k7 ks)) .nil) (BO a b c (bJ new x row (length ks))) (uJ (aR x ks))))∧((nS x)=false→SL (ks++ [AV.int 0])∧SL row∧AG row (dq x row) (getD row (bK x row) .none)∧SL row∧AV.lst (aS row none (some (dq x row)) none)= .lst (take (bK x row) row)∧(nS x)=false∧length (take (bK x row) row)+length [AV.int (new+1),.tup [.int (eK ks),AV.int new,getD row (bK x row) AV.none]]≤sizeLine∧SL row∧AV.lst (vL row x)= .lst (nW x row)∧length (take (bK x row) row++ [AV.int (new+1),.tup [.int (eK ks),AV.int new,getD row (bK x row) AV.none]])+length (nW x row)≤sizeLine∧((nT x)=true→Fn g (.v (.val (.ref (y.1 72)))) [.v (.lst (nR x row new ks)),.r 30,.v (.int (fdiv x ((16:Nat):Int)))] [] [] (k7 ks) (.v (.lst (cb (nR x row new ks) (k8 ks) (fdiv x 16)))) (nV ks)∧True∧aA (.mk ([some (.v (.int a)),some (.v (.int b)),some (.v (.int c)),some (.v (.lst (cb (nR x row new ks) (k8 ks) (fdiv x 16)))),some (.r 30),some (.v (.int new)),some (.v (.int x)),some (.v (.int (dq x row))),some (.v (.int (nU x))),some (.v (.tup [.int (eK ks),AV.int new,getD row (bK x row) AV.none]))]) ((nV ks)) .nil) (BO a b c (bJ new x row (length ks))) (uJ (aR x ks)))∧((nT x)=false→True∧aA (.mk ([some (.v (.int a)),some (.v (.int b)),some (.v (.int c)),some (.v (.lst (nR x row new ks))),some (.r 30),some (.v (.int new)),some (.v (.int x)),some (.v (.int (dq x row))),some (.v (.int (nU x))),some (.v (.tup [.int (eK ks),AV.int new,getD row (bK x row) AV.none]))]) ((k7 ks)) .nil) (BO a b c (bJ new x row (length ks))) (uJ (aR x ks))))) ?_ (by kernel_rfl!)
 repeat' (with_reducible first | apply And.intro | refine fun(_:(_:Bool)=true)=>?_ | refine fun(_:(_:Bool)=false)=>?_)
 all_goals first
  | assumption
  | exact r1 _ rfl
  | exact r2 _ rfl
  | exact fe _ rfl
  | exact trivial
  | skip
 all_goals (rw[(rr _ _ ‹_› ‹_›).1,(rr _ _ ‹_› ‹_›).2];rfl)
noncomputable def iU(a b:Int)(i:Nat):List AV:=i.casesOn [.int 0,.int 1] fun i=>i.casesOn (bJ 2 a [.int 0,.int 1] 0) fun O=>bJ 4 b (bJ 2 a [.int 0,.int 1] 0) (aR a []).length
noncomputable def BP(a b:Int)(i:Nat):List AV:=i.casesOn [] fun i=>i.casesOn (aR a []) fun O=>aR b (aR a [])
theorem kb(x:Int)(ks:List AV):ks.length+1≤(aR x ks).length∧(aR x ks).length≤ks.length+2:=by
 unfold aR;split <;> simp
theorem mY(new x:Int)(row:List AV)(n:Nat)(h:2≤row.length):2≤(bJ new x row n).length∧(bJ new x row n).length≤row.length+1:=by
 have hp:0<row.length:=J3 (by decide) h
 have key:∀p q:AV,(row.take (x.fmod row.length).toNat++ [p,q]++row.drop ((x.fmod row.length).toNat+1)).length=row.length+1:=fun p q=>pI (toNat_lt (S4 hp) (UJ hp)) rfl
 obtain⟨k,hk⟩:∃k,row.length=k+1:=⟨row.length - 1,(ZC hp).symm⟩
 unfold bJ
 split <;> split <;> first
  |(rw[pJ _ _ _ ((key ..).trans (E8 (· +1) hk)),← hk];exact⟨h,ZD _⟩)
  |(rw[key];exact⟨Y6 h,N1 _⟩)
noncomputable def ji:Nat→List AV→List AV→Int→List AV×List AV
 | 0,row,ks,_=> (row,ks)
 | n+1,row,ks,t=>if 1<row.length then ji n (cb row ks.length t) (ks++ [.int 1]) (t.fdiv 4) else(row,ks)
noncomputable def dz(a b c:Int):List AV×List AV:=ji (iU a b 2).length (iU a b 2) (BP a b 2) c
structure CS where
 row:List AV
 ks:List AV
 t:Int
noncomputable def CS.next(s:CS):CS:=⟨cb s.row s.ks.length s.t,s.ks++ [.int 1],s.t.fdiv 4⟩
noncomputable def CS.it(s:CS)(n:Nat):CS:=n.rec s fun O x=>x.next
theorem CS.zo(s:CS):∀n,s.next.it n=(s.it n).next
 | 0=>rfl
 | n+1=>E8 CS.next (CS.zo s n)
theorem CS.xI(s:CS):∀n m,s.row.length=n+m+1→(s.it n).row.length=m+1∧(s.it n).ks.length=s.ks.length+n
 | 0,m,h=> ⟨h.trans (E8 (· +1) (YQ m)),rfl⟩
 | n+1,m,h=>by
  obtain⟨h1,h2⟩:=CS.xI s n (m+1) (h.trans (by rw[Zo n 1 m];rfl))
  exact⟨pJ _ _ _ h1,(jh ..).trans (E8 (· +1) h2)⟩
theorem rW:∀(m:Nat) (s:CS),s.row.length=m+1→ji (m+1) s.row s.ks s.t=((s.it m).row,(s.it m).ks)
 | 0,s,h=>by unfold ji;rw[X5 (by rw[h];decide)];rfl
 | m+1,s,h=>by
  unfold ji
  rw[X6 (by rw[h];exact abS (abT m))]
  have:=rW m s.next (s.xI 1 m (h.trans (by rw[ZU 1]))).1
  rw[CS.zo] at this
  exact this
noncomputable def uK(a b c:Int):CS:=⟨iU a b 2,BP a b 2,c⟩
noncomputable def AK(a b:Int)(s:CS):Vs:=[some (.v (.int a)),some (.v (.int b)),some (.v (.int s.t)),some (.v (.lst s.row)),some (.r 30),none,none,none,none,none]
theorem k9(a b:Int)(i:Nat):2≤(iU a b i).length∧(iU a b i).length≤4∧(BP a b i).length≤4:=by
 have h1:=mY 2 a [.int 0,.int 1] 0 (N1 2)
 have h2:=mY 4 b (bJ 2 a [.int 0,.int 1] 0) (aR a []).length h1.1
 have k1:(aR a []).length≤2:=(kb a []).2
 have k2:=(kb b (aR a [])).2
 match i with
 | 0=>exact⟨N1 2,(by decide:2≤4),YK 4⟩
 | 1=>exact⟨h1.1,Y6 h1.2,E2 k1 (by decide:2≤4)⟩
 | i+2=>exact⟨h2.1,E2 h2.2 (Zp h1.2),E2 k2 (Zp (Zp k1))⟩
theorem S7{P:Nat→AV→Prop}(h0:P 0 a)(h1:P 1 b):∀i y,[a,b][i]? =some y→P i y
 | 0,y,h=>by cases h;exact h0
 | 1,y,h=>by cases h;exact h1
 | i+2,y,h=>nomatch h
noncomputable def Ro(a b:Int)(i:Nat):Hint:=i.casesOn (DQ 2 a [.int 0,.int 1] []) fun O=>DQ 4 b (iU a b 1) (BP a b 1)
theorem AL(X:dy y g)(hn:9≤g.n)(a b c:Int)(R:RV→S→Prop):
  aW (vJ y g) (vK y g) [.tup [.int 2,.int a],.tup [.int 4,.int b]] (fun O=>True) (fun i=>BO a b c (iU a b i)) (fun i=>uJ (BP a b i)) (fun i O=>Ro a b i) R:=
 S7 (P:=fun i y'=>True→(vJ y g).set (.v y') ⟨BO a b c (iU a b i),uJ (BP a b i),Ro a b i⟩ fun s2=> (vK y g).ex s2 fun f s3=>ca f (True∧aA s3 (BO a b c (iU a b (i+1))) (uJ (BP a b (i+1)))) False fun v=>R v s3)
  (fun O=>pK X hn a b c 2 a [.int 0,.int 1] [] R (by decide) (by decide) (by decide)) (fun O=>pK X hn a b c 4 b (iU a b 1) (BP a b 1) R (k9 a b 1).1 (E2 (k9 a b 1).2.1 (by decide)) (E2 (k9 a b 1).2.2 (by decide)))
theorem xJ(X:dy y g)(hn:9≤g.n)(a b:Int)(s:CS)(R:RV→S→Prop)(h2:2≤s.row.length)(hl:s.row.length≤50)(hk:s.ks.length≤50):
  (DO y g).tv ⟨AK a b s,uJ s.ks,.call (.v (.lst s.next.row)) [(30,.list s.next.ks)] .nil⟩ fun c s1=>c=true∧(DP y g).ex s1 fun f s3=>ca f (True∧aA s3 (AK a b s.next) (uJ s.next.ks)) False fun v=>R v s3:=by
 have fe:Fn g (.v (.val (.ref (y.ad 72)))) [.v (.lst s.row),.r 30,.v (.int s.t)] [] [] [(30,.list s.ks)] (.v (.lst s.next.row)) [(30,.list s.next.ks)]:=(rV X hn s.row s.ks s.t h2 (bd hl rfl) (bd hk rfl)).shift 30
 have d1:decide ((1:Int)<s.row.length)=true:=Yw (Yd.mpr h2)
 refine a6 (P:=_∧_∧_∧True∧EE (AK a b (CS.next s)) (uJ (CS.ks (CS.next s))))
  ⟨sz hl rfl,d1,fe,trivial,rfl⟩ (by kernel_rfl!)
noncomputable abbrev tZ(a:Int)(b:Int)(c:Int):=[getD (fst (dz a b c)) 0 AV.none,AV.lst (snd (dz a b c))]
theorem DR(X:dy y g)(hn:10≤g.n)(a b c:Int):
  Fn g (.v (.val (.ref (y.ad 73)))) [.v (.int a),.v (.int b),.v (.int c)] [] [] [] (.v (.tup [(dz a b c).1.getD 0 .none,.lst (dz a b c).2])) []:=
 jZ X (Yg hn) (X.fn 73 "_law_claim" (by decide)) (M7 y) (Wt y) (.loop (fun O=>True) (fun i=>BO a b c (iU a b i)) (fun i=>uJ (BP a b i)) (fun i O=>Ro a b i)<|
   .wh ((iU a b 2).length - 1) (fun i=>AK a b ((uK a b c).it i)) (fun i=>uJ ((uK a b c).it i).ks) (fun i=> .call (.v (.lst ((uK a b c).it i).next.row)) [(30,.list ((uK a b c).it i).next.ks)] .nil)<|
   .v ((dz a b c).1.getD 0 .none) .nil) (by intros;kernel_rfl!) fun g' bl=>by
  obtain⟨h2,h4,hk⟩:=k9 a b 2
  have hm:(iU a b 2).length=(iU a b 2).length - 1+1:=(ZC (Yg h2)).symm
  generalize hN:(iU a b 2).length - 1=N at hm ⊢
  have UL:N+1≤4:=by rw[← hm];exact h4
  have hl:=CS.xI (uK a b c)
  have L7:=(hl N 0 hm).1
  have he:dz a b c=_:=Eq.trans (by unfold dz;rw[hm];rfl) (rW N (uK a b c) hm)
  have e1:((uK a b c).it N).row=(dz a b c).1:=(E8 fst he).symm
  have e2:((uK a b c).it N).ks=(dz a b c).2:=(E8 snd he).symm
  refine a6 (P:=(True∧EE ((fun(i:Nat)=>BO a b c (iU a b i)) 0) ((fun(i:Nat)=>uJ (BP a b i)) 0))∧(aW (vJ y g') (vK y g') [AV.tup [.int 2,AV.int a],.tup [.int 4,AV.int b]] (fun(x:Nat)=>True) (fun(i:Nat)=>BO a b c (iU a b i)) (fun(i:Nat)=>uJ (BP a b i)) (fun(i:Nat) (x:AV)=>Ro a b i) fun(v:RV) (s3:S)=>cO (RF.ret v) s3 (AV.tup (tZ a b c)) [])∧(True→EE ((fun(i:Nat)=>AK a b (CS.it (uK a b c) i)) 0) ((fun(i:Nat)=>uJ (CS.ks (CS.it (uK a b c) i))) 0)∧(xE (DO y g') (DP y g') N (fun(i:Nat)=>AK a b (CS.it (uK a b c) i)) (fun(i:Nat)=>uJ (CS.ks (CS.it (uK a b c) i))) (fun(i:Nat)=>Hint.call (RV.v (.lst (CS.row (CS.next (CS.it (uK a b c) i))))) [(30,EO.list (CS.ks (CS.next (CS.it (uK a b c) i))))] .nil) fun(v:RV) (s3:S)=>cO (RF.ret v) s3 (AV.tup (tZ a b c)) [])∧_∧decide (1<(↑(length (CS.row (CS.it (uK a b c) N))):Int))=false∧_∧AG (CS.row (CS.it (uK a b c) N)) 0 (getD (fst (dz a b c)) 0 .none)∧VI (.tup [getD (fst (dz a b c)) 0 .none,.lst (CS.ks (CS.it (uK a b c) N))]) (.tup (tZ a b c))∧rf ([]:Os)))
   ⟨⟨trivial,rfl⟩,AL (X.bO bl.bO) (by rw[bl.n];exact Yj hn) a b c _,fun O=> ⟨rfl,fun i hi=>?_,sz (X7 L7) rfl,Yk (by rw[L7];decide),sz (X7 L7) rfl,?_,by rw[e2],rfl⟩⟩ (by kernel_rfl!)
  ·obtain⟨d,rfl⟩:∃d,N=i+1+d:=Nat.exists_eq_add_of_le hi
   obtain⟨h5,h6⟩:=hl i (d+1) (hm.trans (by rw[YW i 1 d,ZU 1 d]))
   have h7:d+2≤4:=E2 (Zp (by rw[Zo];exact Zp (YR ..))) UL
   have h8:i≤4:=E2 (E2 (ZD i) (Yl (i+1) d)) (Yg UL)
   exact xJ (X.bO bl.bO) (by rw[bl.n];exact Yj hn) a b ((uK a b c).it i) _ (by rw[h5];exact YR 2 d) (by rw[h5];exact bd h7 rfl) (by rw[h6];exact bd (sa hk h8) rfl)
  ·rw[← e1]
   exact fy (abd 0) (by rw[L7];decide)
end
end
section
section
noncomputable def UM(y:Lay):Cx:=cx y ["x"] [] [35] true
noncomputable def Wu(y:Lay)(g:Gd):SB ⟨UM y,g⟩:= .cons (.ret (.lt (.lo 0 264 11) (.gl 35 264 15)))<| .nil
theorem jj(X:dy y g)(hn:9≤g.n)(x:Int):Fn g (.v (.val (.ref (y.ad 68)))) [.v (.int x)] [] [] [] (.v (.bool (decide (x<256)))) []:=
 jZ X hn (X.fn 68 "ISTERMINAL" (by decide)) (UM y) (Wu y) .nil (by intros;kernel_rfl!) fun g' b=>by
  refine a6 (P:=VV (.bool (decide (x<256)))∧rf ([]:Os))
   ⟨rfl,rfl⟩ (by kernel_rfl!)
noncomputable def UN(y:Lay):Cx:=cx y ["x"] [] [35] true
noncomputable def Wv(y:Lay)(g:Gd):SB ⟨UN y,g⟩:= .cons (.ret (.ge (.lo 0 266 11) (.gl 35 266 16)))<| .nil
theorem fL(X:dy y g)(hn:9≤g.n)(x:Int):Fn g (.v (.val (.ref (y.ad 69)))) [.v (.int x)] [] [] [] (.v (.bool (decide (256≤x)))) []:=
 jZ X hn (X.fn 69 "ISNONTERMINAL" (by decide)) (UN y) (Wv y) .nil (by intros;kernel_rfl!) fun g' b=>by
  refine a6 (P:=VV (.bool (decide (256≤x)))∧rf ([]:Os))
   ⟨rfl,rfl⟩ (by kernel_rfl!)
noncomputable def UO(y:Lay):Cx:=cx y ["x"] [] [36] true
noncomputable def Ww(y:Lay)(g:Gd):SB ⟨UO y,g⟩:= .cons (.ret (.eq (.lo 0 268 11) (.gl 36 268 16)))<| .nil
theorem xK(X:dy y g)(hn:9≤g.n)(x:Int):Fn g (.v (.val (.ref (y.ad 70)))) [.v (.int x)] [] [] [] (.v (.bool (x==0))) []:=
 jZ X hn (X.fn 70 "ISEOF" (by decide)) (UO y) (Ww y) (.a .nil) (by intros;kernel_rfl!) fun g' b=>by
  refine a6 (P:=VV (.bool (x==0))∧rf ([]:Os))
   ⟨rfl,rfl⟩ (by kernel_rfl!)
set_option genInjectivity true in
inductive Cl where
 | leaf (n:Nat)
 | node (k:Nat) (l r:Cl)
 deriving DecidableEq,Inhabited
noncomputable def Cl.av:Cl→AV
 | .leaf n=> .int n
 | .node k l r=> .tup [.int k,l.av,r.av]
noncomputable def Cl.depth:Cl→Nat
 | .leaf _=>0
 | .node _ l r=>max l.depth r.depth+1
noncomputable def written(names:Str)(signs:List Str):Cl→Str
 | .leaf n=> ⟨#[names.cps.getD n 0]⟩
 | .node k l r=>Str.ofString "(" ++written names signs l++signs.getD k ⟨#[]⟩++written names signs r++Str.ofString ")"
def Pf(names:Str)(signs:List Str):Cl→Prop
 | .leaf n=>n<names.length
 | .node k l r=>k<signs.length∧Pf names signs l∧Pf names signs r∧(written names signs (.node k l r)).length≤1000
theorem qZ(a b:Str):(a++b).length=a.length+b.length:=by show(a.cps++b.cps).size=_;simp[Str.length]
theorem pM{x:Str}{n:Nat}(h:n<x.length):tD x (n:Int)=some (x.cps.getD n 0):=by
 unfold tD seqIndex?
 rw[X5 (YI.mpr (N3 n)),X6 (by rw[Yb,Yq,Yq];exact⟨N3 n,Yd.mpr h⟩)]
 have hs:n<x.cps.size:=h
 show x.cps[n]? =_
 rw[Array.getElem?_eq_getElem hs,Array.getD,dif_pos hs];rfl
noncomputable def S8(y:Lay):Cx:=cx y ["claim","names","signs"] [] [8,7,24] true
noncomputable def UP(y:Lay)(g:Gd):SB ⟨S8 y,g⟩:= .cons (.ret (.y6 (.cl 8 286 27 [(.lo 0 286 38),(.gl 7 286 45)]) (.get (.lo 1 286 11) (.lo 0 286 17)) (.add (.add (.add (.add (.st "(" 286 55) (.cl 24 286 61 [(.get (.lo 0 286 74) (.nt 1 286 80)),(.lo 1 286 84),(.lo 2 286 91)])) (.get (.lo 2 286 100) (.get (.lo 0 286 106) (.nt 0 286 112)))) (.cl 24 286 118 [(.get (.lo 0 286 131) (.nt 2 286 137)),(.lo 1 286 141),(.lo 2 286 148)])) (.st ")" 286 157))))<| .nil
theorem kx{names:Str}{signs:List Str}(t0:names.length≤1000)(S9:signs.length≤1000):∀(c:Cl) {g:Gd} (X:dy y g) (hn:c.depth+9≤g.n) (hw:Pf names signs c),
  Fn g (.v (.val (.ref (y.ad 74)))) [.v c.av,.v (.str names),.v (.lst (signs.map .str))] [] [] [] (.v (.str (written names signs c))) []
 | .leaf n,g,X,hn,hw=>
  jZ X (aaq hn) (X.fn 74 "_law_written" (by decide)) (S8 y) (UP y) (.a<| .v (.str ⟨#[names.cps.getD n 0]⟩) .nil) (by intros;kernel_rfl!) fun g' b=>by
   refine a6 (P:=Str.length names≤sizeLine∧(∃(c:Nat),tD names ↑n=some c∧AV.str (Str.mk #[Array.getD (Str.cps names) n 0])=AV.str (Str.mk #[c]))∧VV (.str (written names signs (Cl.leaf n)))∧rf ([]:Os))
    ⟨sz t0 rfl,⟨_,pM hw,rfl⟩,rfl,rfl⟩ (by kernel_rfl!)
 | .node k l r,g,X,hn,hw=>
  jZ X (aaq hn) (X.fn 74 "_law_written" (by decide)) (S8 y) (UP y) (.a<| .a<| .call (.v (.str (written names signs l))) []<| .a<| .v (.str (signs.getD k ⟨#[]⟩))<| .a<| .call (.v (.str (written names signs r))) [] .nil) (by intros;kernel_rfl!) fun g' b=>by
   obtain⟨h1,h2,h3,h4⟩:=hw
   have hd:max l.depth r.depth+9≤g'.n:=by rw[b.n];exact Yj (by rw[Nat.lt_iff_add_one_le,Zo];exact hn)
   have fl:=kx t0 S9 l (X.bO b.bO) (E2 (Z7 (Nat.le_max_left ..) 9) hd) h2
   have fr:=kx t0 S9 r (X.bO b.bO) (E2 (Z7 (Nat.le_max_right ..) 9) hd) h3
   have hs:d5 (signs.map .str) (k:Int)=some (.str (signs.getD k ⟨#[]⟩)):=fD (by simp[h1])
   have s4:(Str.ofString "(" ++written names signs l++signs.getD k ⟨#[]⟩++written names signs r).length+(Str.ofString ")").length≤1000:=by rw[← qZ];exact h4
   have s3:=YP s4
   rw[qZ] at s3
   have s2:=YP s3
   rw[qZ] at s2
   have s1:=YP s2
   rw[qZ] at s1
   refine a6 (P:=_∧Str.length (Str.ofString "(")+Str.length (written names signs l)≤sizeLine∧SL (map AV.str signs)∧AG (map .str signs) ↑k (.str (getD signs k (Str.mk #[])))∧Str.length (Str.ofString "(" ++written names signs l)+Str.length (getD signs k (Str.mk #[]))≤sizeLine∧_∧Str.length (Str.ofString "(" ++written names signs l++getD signs k (Str.mk #[]))+Str.length (written names signs r)≤sizeLine∧Str.length (Str.ofString "(" ++written names signs l++getD signs k (Str.mk #[])++written names signs r)+Str.length (Str.ofString ")")≤sizeLine∧VV (.str (written names signs (Cl.node k l r)))∧rf ([]:Os))
    ⟨fl,sz s1 rfl,sz (az S9) rfl,hs,sz s2 rfl,fr,sz s3 rfl,sz s4 rfl,rfl,rfl⟩ (by kernel_rfl!)
end
end
section
section
noncomputable def DS(y:Lay):Cx:=JS y [("row",.local),("kinds",.local),("names",.local),("ring",.local),("at",.local),("one",.local),("rest",.local),("pick",.cell),("near",.local),("far",.local)] [("pick",.cell,10)] [9,8,7,25,0,1] true
noncomputable def rX(y:Lay)(g:Gd):TG ⟨DS y,g⟩:= .xy [(.n (.loc 4) 288 8),(.n (.loc 5) 288 12)]
noncomputable def rY(y:Lay)(g:Gd):SB ⟨DS y,g⟩:= .cons (.ite (.and (.not (.cl 8 289 15 [(.lo 5 289 26),(.gl 7 289 31)])) [(.eq (.get (.lo 1 289 40) (.get (.lo 5 289 46) (.nt 0 289 50))) (.nt 1 289 57))]) (.cons (.ret (.cl 25 290 19 [(.add (.add (.get (.lo 0 290 31) (.fx .none (some (.lo 4 290 36)) .none)) (.lst [(.get (.lo 5 290 43) (.nt 1 290 47)),(.get (.lo 5 290 51) (.nt 2 290 55))])) (.get (.lo 0 290 61) (.fx (some (.add (.lo 4 290 65) (.nt 1 290 70))) .none .none))),(.lo 1 290 75),(.lo 2 290 82),(.lo 3 290 89)]))<| .nil) .nil ⟨289,8,290,94⟩)<| .nil
noncomputable def Pg(y:Lay):Cx:=cx y [".0","k","claim"] [("pick",.free,10)] [] false
noncomputable def DT(y:Lay)(g:Gd):LC ⟨DS y,g⟩:=⟨Pg y,fun g=> (.xy [(.n (.loc 1) 296 30),(.n (.loc 2) 296 33)]),fun g=>[(.eq (.band (.shr (.ce 0 296 61) (.lo 1 296 69)) (.nt 1 296 73)) (.nt 0 296 78))],fun g=> (.lo 2 296 20),[],rfl,rfl,fun O=>rfl,fun O=>rfl,fun O=>rfl⟩
noncomputable def Ph(y:Lay):Cx:=cx y [".0","k","claim"] [("pick",.free,10)] [] false
noncomputable def DU(y:Lay)(g:Gd):LC ⟨DS y,g⟩:=⟨Ph y,fun g=> (.xy [(.n (.loc 1) 297 29),(.n (.loc 2) 297 32)]),fun g=>[(.eq (.band (.shr (.ce 0 297 60) (.lo 1 297 68)) (.nt 1 297 72)) (.nt 1 297 77))],fun g=> (.lo 2 297 19),[],rfl,rfl,fun O=>rfl,fun O=>rfl,fun O=>rfl⟩
noncomputable def zq(y:Lay)(g:Gd):TG ⟨DS y,g⟩:= .n (.d7 0) 295 12
noncomputable def zr(y:Lay)(g:Gd):SB ⟨DS y,g⟩:= .cons (.O8 7 (q 296 12 16) (DT y g) (.enum 9 (q 296 42 51) (.lo 6 296 52) (q 296 42 57)) (q 296 19 80) (q 296 12 80))<| .cons (.O8 8 (q 297 12 15) (DU y g) (.enum 9 (q 297 41 50) (.lo 6 297 51) (q 297 41 56)) (q 297 18 79) (q 297 12 79))<| .cons (.ite (.or [(.eq (.add (.lo 7 298 15) (.lo 8 298 22)) (.lo 6 298 29)),(.not (.lo 3 298 41))]) (.cons (.ite (.and (.cl 25 299 19 [(.add (.lst [(.get (.lo 5 299 32) (.nt 2 299 36))]) (.lo 7 299 42)),(.lo 1 299 48),(.lo 2 299 55),(.lo 3 299 62)]) [(.cl 25 299 72 [(.add (.lo 8 299 84) (.lst [(.get (.lo 5 299 91) (.nt 1 299 95))])),(.lo 1 299 100),(.lo 2 299 107),(.lo 3 299 114)])]) (.cons (.ret (.bool true 0 (q 300 27 31)))<| .nil) .nil ⟨299,16,300,31⟩)<| .nil) .nil ⟨298,12,300,31⟩)<| .nil
noncomputable def mZ(y:Lay)(g:Gd):TG ⟨DS y,g⟩:= .xy [(.n (.loc 4) 293 8),(.n (.loc 5) 293 12)]
noncomputable def pO(y:Lay)(g:Gd):SB ⟨DS y,g⟩:= .cons (.ag (.loc 6) 294 8 (.add (.get (.lo 0 294 15) (.fx (some (.add (.lo 4 294 19) (.nt 1 294 24))) .none .none)) (.get (.lo 0 294 30) (.fx .none (some (.lo 4 294 35)) .none))))<| .cons (.for (zq y g) (.of (.cl 1 295 20 [(.y6 (.cl 8 295 31 [(.lo 5 295 42),(.gl 7 295 47)]) (.nt 0 295 26) (.pow (.nt 2 295 57) (.cl 0 295 62 [(.lo 6 295 66)])))])) (zr y g) ⟨295,8,300,31⟩)<| .nil
noncomputable def UQ(y:Lay)(g:Gd):SB ⟨DS y,g⟩:= .cons (.for (rX y g) (.enum 9 (q 288 19 28) (.lo 0 288 29) (q 288 19 33)) (rY y g) ⟨288,4,290,94⟩)<| .cons (.ite (.and (.eq (.cl 0 291 7 [(.lo 0 291 11)]) (.nt 2 291 19)) [(.cl 8 291 25 [(.get (.lo 0 291 36) (.nt 0 291 40)),(.gl 7 291 44)]),(.cl 8 291 53 [(.get (.lo 0 291 64) (.nt 1 291 68)),(.gl 7 291 72)])]) (.cons (.ret (.eq (.get (.lo 2 292 15) (.get (.lo 0 292 21) (.nt 0 292 25))) (.mt (.get (.lo 2 292 32) (.get (.lo 0 292 38) (.nt 1 292 42))) .swapcase [])))<| .nil) .nil ⟨291,4,292,56⟩)<| .cons (.for (mZ y g) (.enum 9 (q 293 19 28) (.lo 0 293 29) (q 293 19 33)) (pO y g) ⟨293,4,300,31⟩)<| .cons (.ret (.bool false 0 (q 301 11 16)))<| .nil
noncomputable def Cl.nodes:Cl→Nat
 | .leaf _=>0
 | .node _ l r=>l.nodes+r.nodes+1
noncomputable def Cl.af:Cl→Nat
 | .leaf _=>1
 | .node _ l r=>l.af+r.af
def Cl.ok(N K:Nat):Cl→Prop
 | .leaf n=>n<N
 | .node k l r=>k<K∧l.ok N K∧r.ok N K
noncomputable def er(row:List Cl):Nat:=(row.map Cl.nodes).sum
noncomputable def bL(row:List Cl):Nat:=(row.map Cl.af).sum
noncomputable def pP(ks:List Int):Cl→Bool
 | .node k _ _=>ks.getD k 0==1
 | .leaf _=>false
noncomputable def dm(ks:List Int):List Cl→Option (List Cl)
 | []=>none
 | .leaf n::r=> (dm ks r).map (Cl.leaf n:: ·)
 | .node k a b::r=>if(ks.getD k 0==1)=true then some (a::b::r) else(dm ks r).map (Cl.node k a b:: ·)
noncomputable def kc(pick k:Nat)(b:Int):Bool:=Builtin.bitAnd ((pick:Int).fdiv (2 ^ (k:Int).toNat)) 1==b
noncomputable def bv(rest:List Cl)(pick:Nat)(b:Int):List Cl:=rest.zipIdx.filterMap fun p=>if kc pick p.2 b=true then some p.1 else none
noncomputable def eY(pick:Nat)(b:Int)(y:AV):Option AV:=cond (Builtin.bitAnd ((pick:Int).fdiv (2 ^ (gk (iT (ma y) 0)).toNat)) 1==b) (some (iT (ma y) 1)) none
noncomputable def restOf(row:List Cl)(at':Nat):List Cl:=row.drop (at'+1)++row.take at'
noncomputable def db(pr:List Cl→Bool)(ring:Bool)(rest:List Cl)(l r:Cl)(pick:Nat):Bool:=
 (decide (bv rest pick 0++bv rest pick 1=rest)||!ring)&& (pr (r::bv rest pick 0)&&pr (bv rest pick 1++ [l]))
noncomputable def cI(pr:List Cl→Bool)(ring:Bool)(row:List Cl)(at':Nat):Cl→Bool
 | .leaf _=>false
 | .node _ l r=> (List.range (2 ^ (restOf row at').length)).any fun pick=>db pr ring (restOf row at') l r pick
noncomputable def eu(row:List Cl):Option (Nat×Nat):=row.casesOn none fun c l=>l.casesOn none fun d r=>r.casesOn (c.casesOn (fun a=>d.casesOn (fun b=>some (a,b)) fun O O O=>none) fun O O O=>none) fun O O=>none
noncomputable def fj(ks:List Int)(ax:Nat→Nat→Bool)(ring:Bool):Nat→List Cl→Bool
 | 0,_=>false
 | n+1,row=>match dm ks row with
  | some dg=>fj ks ax ring n dg
  | none=>match eu row with
   | some (a,b)=>ax a b
   | none=>row.zipIdx.any fun p=>cI (fj ks ax ring n) ring row p.2 p.1
noncomputable def gJ(names:Str)(a b:Nat):Bool:=(⟨#[names.cps.getD a 0]⟩:Str)==PySem.Txt.swapcase ⟨#[names.cps.getD b 0]⟩
theorem vM(l:List AV)(i:Nat):(aV l)[i]? =(l[i]?).map fun x=> .tup [.int (i:Nat),x]:=by
 rw[aV,Yi,List.getElem?_zipIdx,YQ]
 cases l[i]? <;> rfl
theorem gW{α:Type}{f:α→AV}{l:List α}{i:Nat}(h:(aV (l.map f))[i]? =some y):∃c,l[i]? =some c∧y= .tup [.int (i:Nat),f c]:=by
 rw[vM,Yi] at h
 cases hc:l[i]? with
 | none=>rw[hc] at h;cases h
 | some c=>rw[hc] at h;cases h;exact⟨c,rfl,rfl⟩
theorem jk(h:y∈aV l):∃(k:Nat) (c:AV),y= .tup [.int k,c]∧l[k]? =some c:=by
 obtain⟨i,hi⟩:=Zm.mp h
 rw[vM] at hi
 cases hc:l[i]? with
 | none=>rw[hc] at hi;cases hi
 | some c=>rw[hc] at hi;cases hi;exact⟨i,c,rfl,hc⟩
theorem ft{α:Type}{l:List α}{i:Nat}{c d:α}(h:l[i]? =some c):l.getD i d=c:=by rw[N4,h];rfl
theorem DV(n:Nat):(rangeSize 0 n 1).toNat=n:=by
 unfold rangeSize
 simp
 split <;> omega
theorem jG{n:Nat}:(eg 0 n 1).length=n:=(oN ..).trans (DV n)
theorem jH{n i:Nat}(h:(eg 0 n 1)[i]? =some y):i<n∧y= .int i:=by
 have hi:=(Ym.mp h).1
 rw[jG] at hi
 unfold eg at h
 rw[Yi,DV,aac hi] at h
 cases h
 exact⟨hi,E8 AV.int ((Int.zero_add _).trans (Int.mul_one _))⟩
theorem gX{n:Nat}(h:n≤1048576):Builtin.Range.small 0 n 1=true:=by
 unfold Builtin.Range.small Builtin.Range.rangeFitsLong rangeSize
 have h1:(if(0:Int)<(n:Int) then((n:Int) - 0 - 1) / 1+1 else 0)=n:=by split <;> omega
 simp only[show(1:Int) > 0 by decide,ZB,h1,Yb,abZ,Yq]
 refine⟨⟨⟨⟨⟨?_,?_⟩,⟨?_,?_⟩⟩,⟨?_,?_⟩⟩,⟨?_,?_⟩⟩,.inr ⟨?_,?_⟩⟩ <;> omega
theorem pQ{P:Nat→Prop}{i:Nat}(h:∀j,j<i→P j)(hi:P i):∀j,j<i+1→P j:=fun j hj=> (Nat.lt_succ_iff_lt_or_eq.mp hj).elim (h j) fun e=>e▸hi
theorem HJ{α:Type}{f:Nat→α→Bool}{l:List α}{i:Nat}{c:α}(h:l[i]? =some c)(hf:f i c=true):(l.zipIdx.any fun p=>f p.2 p.1)=true:=YY.mpr ⟨(c,i),abA.mpr h,hf⟩
theorem DW{α:Type}{f:Nat→α→Bool}{l:List α}(h:∀i c,l[i]? =some c→f i c=false):(l.zipIdx.any fun p=>f p.2 p.1)=false:=aa4.mpr fun p hp=>by rw[h p.2 p.1 (abA.mp hp)];exact Yt
theorem im(a b:List Cl):er (a++b)=er a+er b:=by simp[er]
theorem dF(a b:List Cl):bL (a++b)=bL a+bL b:=by simp[bL]
theorem cV(a:Cl)(b:List Cl):er (a::b)=a.nodes+er b:=sum_cons
theorem bW(a:Cl)(b:List Cl):bL (a::b)=a.af+bL b:=sum_cons
theorem Cl.cF:∀c:Cl,1≤c.af
 | .leaf _=>N1 1
 | .node _ l r=>E2 l.cF (Yl ..)
theorem xL(row:List Cl):row.length≤bL row:=by
 induction row with
 | nil=>exact YK 0
 | cons c r ih=>rw[bW,ZU];exact ZQ ih c.cF
theorem xM{a b:List Cl}(h:a.Sublist b):er a≤er b:=by
 induction h with
 | slnil=>exact N1 _
 | cons x _ ih=>rw[cV];exact E2 ih (YR ..)
 | cons_cons x _ ih=>rw[cV,cV];exact Yo ih _
theorem jm{a b:List Cl}(h:a.Sublist b):bL a≤bL b:=by
 induction h with
 | slnil=>exact N1 _
 | cons x _ ih=>rw[bW];exact E2 ih (YR ..)
 | cons_cons x _ ih=>rw[bW,bW];exact Yo ih _
structure de(n N K:Nat)(row:List Cl):Prop where
 nd:er row<n
 lv:bL row≤20
 ok:∀c∈row,c.ok N K
section
variable {n N K i k p:Nat}{row:List Cl}{l r:Cl}
theorem de.len(h:de n N K row):row.length≤20:=E2 (xL row) h.lv
theorem de.parts(h:de (n+1) N K row)(hc:row[i]? =some (.node k l r)):er (row.take i)+(l.nodes+r.nodes+1+er (row.drop (i+1)))≤n∧bL (row.take i)+(l.af+r.af+bL (row.drop (i+1)))≤20∧k<K∧l.ok N K∧r.ok N K:=by
 have e:=L6 hc
 have h1:=Y7 h.nd
 have h2:=h.lv
 rw[e,im,cV] at h1
 rw[e,dF,bW] at h2
 exact⟨h1,h2,h.ok _ (Yh hc)⟩
theorem de.step(h:de (n+1) N K row)(hc:row[i]? =some (.node k l r)):de n N K (row.take i++l::r::row.drop (i+1)):=by
 obtain⟨h1,h2,h3,h4,h5⟩:=h.parts hc
 refine⟨?_,?_,fun c hc=>?_⟩
 ·rw[im,cV,cV];omega
 ·rw[dF,bW,bW];omega
 ·rcases Yf.mp hc with hc | hc
  ·exact h.ok c (ZI hc)
  ·rcases J0.mp hc with rfl | hc
   ·exact h4
   ·rcases J0.mp hc with rfl | hc
    ·exact h5
    ·exact h.ok c (Zq hc)
theorem de.side(h:de (n+1) N K row)(hc:row[i]? =some (.node k l r)){s:List Cl}(hs:s.Sublist (restOf row i)):de n N K (r::s)∧de n N K (s++ [l]):=by
 obtain⟨h1,h2,h3,h4,h5⟩:=h.parts hc
 have n1:=xM hs
 have v1:=jm hs
 have pl:=l.cF
 have pr:=r.cF
 unfold restOf at n1 v1
 rw[im] at n1
 rw[dF] at v1
 have hm:∀c∈s,c.ok N K:=fun c hc=>h.ok c<|(Yf.mp (hs.subset hc)).elim Zq ZI
 have e1:er [l]=l.nodes:=rfl
 have e2:bL [l]=l.af:=rfl
 refine⟨⟨?_,?_,X_.mpr ⟨h5,hm⟩⟩,⟨?_,?_,fun c hc=> (Yf.mp hc).elim (hm c) fun hc=>X8.mp hc▸h4⟩⟩
 ·rw[cV];omega
 ·rw[bW];omega
 ·rw[im,e1];omega
 ·rw[dF,e2];omega
end
theorem xN(rest:List Cl)(pick:Nat)(b:Int):(aV (rest.map Cl.av)).filterMap (eY pick b)=(bv rest pick b).map Cl.av:=by
 unfold aV bv
 rw[List.zipIdx_map,YU,aaK,List.map_filterMap]
 refine E8 (fun f=>filterMap f rest.zipIdx) (funext fun p=>?_)
 show cond (kc pick p.2 b) (some p.1.av) none=Option.map Cl.av (if kc pick p.2 b=true then some p.1 else none)
 cases kc pick p.2 b <;> rfl
theorem nX(rest:List Cl)(pick:Nat)(b:Int):(bv rest pick b).Sublist rest:=by
 unfold bv
 have key:∀(l:List Cl) (n:Nat),((l.zipIdx n).filterMap fun p=>if kc pick p.2 b=true then some p.1 else none).Sublist l:=by
  intro l
  induction l with
  | nil=>exact fun n=> .slnil
  | cons c r ih=>
   intro n
   rw[abh,Ys]
   cases kc pick n b
   ·exact(ih _).cons _
   ·exact(ih _).cons_cons _
 exact key rest 0
theorem ky{ks:List Int}:∀ {row:List Cl},(∀c∈row,pP ks c=false)→dm ks row=none
 | [],_=>rfl
 | .leaf n::r,h=>by rw[dm,ky fun c hc=>h c (E4 _ hc)];rfl
 | .node k a b::r,h=>by
  have h1:(ks.getD k 0==1)=false:=h _ E6
  rw[dm,X5 (by rw[h1];exact Yt),ky fun c hc=>h c (E4 _ hc)];rfl
theorem pR{ks:List Int}{k:Nat}(hk:(ks.getD k 0==1)=true):∀ {row:List Cl} {i:Nat},(∀j,j<i→∀c,row[j]? =some c→pP ks c=false)→row[i]? =some (.node k a b)→dm ks row=some (row.take i++a::b::row.drop (i+1))
 | [],_,_,h=>by cases h
 | c::r,0,_,h=>by cases h;rw[dm,X6 hk];rfl
 | .leaf n::r,i+1,hi,h=>by rw[dm,pR hk (fun j hj=>hi (j+1) (abS hj)) h];rfl
 | .node k' a' b'::r,i+1,hi,h=>by
  have h1:(ks.getD k' 0==1)=false:=hi 0 (abT i) _ rfl
  rw[dm,X5 (by rw[h1];exact Yt),pR hk (fun j hj=>hi (j+1) (abS hj)) h];rfl
noncomputable def Cl.pd:Cl→PyData
 | .leaf n=> .int n
 | .node k l r=> .tuple [.int k,l.pd,r.pd]
theorem pS:∀c:Cl,qT c.pd=c.av
 | .leaf n=>rfl
 | .node k l r=>by show AV.tup [.int k,qT l.pd,qT r.pd]=_;rw[pS l,pS r];rfl
theorem zs(row:List Cl):kU (row.map Cl.pd)=row.map Cl.av:=by
 induction row with
 | nil=>rfl
 | cons c r ih=>show qT c.pd::kU (r.map Cl.pd)=_;rw[pS,ih];rfl
theorem t4:∀c:Cl,noDict c.pd=true∧c.pd.canLay0=true∧c.pd.depth≤c.af
 | .leaf n=> ⟨rfl,rfl,YK _⟩
 | .node k l r=>by
  obtain⟨a1,a2,a3⟩:=t4 l
  obtain⟨b1,b2,b3⟩:=t4 r
  have h3:=l.cF
  have h4:=r.cF
  refine⟨?_,?_,?_⟩
  ·simp only[Cl.pd,noDict,noDicts,a1,b1];rfl
  ·simp only[Cl.pd,canLay0,canLayAll0,a2,b2];rfl
  ·have e1:l.pd.depth<l.af+r.af:=Yv a3 (ZM h4)
   have e2:r.pd.depth<l.af+r.af:=Yv b3 (Nat.lt_add_of_pos_left h3)
   have e0:=Yv (YK _) e1
   exact max_lt.mpr ⟨e0,max_lt.mpr ⟨e1,max_lt.mpr ⟨e2,e0⟩⟩⟩
theorem pT(row:List Cl):noDicts (row.map Cl.pd)=true∧canLayAll0 (row.map Cl.pd)=true∧depthAll (row.map Cl.pd)≤bL row:=by
 induction row with
 | nil=>exact⟨rfl,rfl,YK _⟩
 | cons c r ih=>
  obtain⟨a1,a2,a3⟩:=t4 c
  obtain⟨b1,b2,b3⟩:=ih
  refine⟨?_,?_,?_⟩
  ·simp only[Ye,noDicts,a1,b1];rfl
  ·simp only[Ye,canLayAll0,a2,b2];rfl
  ·simp only[Ye,depthAll,bW];omega
theorem xO:∀a b:Cl,eqv a.pd b.pd=decide (a=b)
 | .leaf n,.leaf m=>by
  simp only[Cl.pd,eqv,Cl.leaf.injEq]
  rw[Zs,Yq,Y1,aay]
 | .leaf n,.node k l r=>by simp[Cl.pd,eqv]
 | .node k l r,.leaf n=>by simp[Cl.pd,eqv]
 | .node k l r,.node k' l' r'=>by
  simp only[Cl.pd,eqv,eqvAll,xO l l',xO r r',Cl.node.injEq,Bool.and_true]
  rw[Zs,Yb,Yb,Yq,Yq,Yq,Y1,aay]
theorem rZ:∀a b:List Cl,eqvAll (a.map Cl.pd) (b.map Cl.pd)=decide (a=b)
 | [],[]=>rfl
 | [],_::_=>by simp[eqvAll]
 | _::_,[]=>by simp[eqvAll]
 | x::xs,y::ys=>by
  simp only[Ye,eqvAll,xO,rZ xs ys,ab0]
  rw[Zs,Yb,Yq,Yq,Yq]
theorem pU{row:List Cl}(h:bL row≤40):shaped (.list (row.map Cl.pd))=true:=by
 obtain⟨h1,h2,h3⟩:=pT row
 unfold shaped
 rw[Yb,Yq]
 refine⟨h2,?_⟩
 simp only[depth]
 omega
theorem HK{a b:List Cl}(ex:x=a.map Cl.av)(ey:y=b.map Cl.av)(ha:bL a≤40)(hb:bL b≤40):dS (.lst x) (.lst y) (decide (a=b)):=
 ⟨.list (a.map Cl.pd),.list (b.map Cl.pd),(cf (ex.trans (zs a).symm)),(cf (ey.trans (zs b).symm)),(pT a).1,(pT b).1,pU ha,pU hb,rZ a b⟩
noncomputable def kH(row:List Cl)(ks:List Int)(names:Str)(ring:Bool):Vs:=[some (.v (.lst (row.map Cl.av))),some (.v (.lst (ks.map .int))),some (.v (.str names)),some (.v (.bool ring)),none,none,none,none,none]
noncomputable def hJ:Os:=[(10,.cell none)]
section
variable {y:Lay}{g:Gd}{row:List Cl}{ks:List Int}{names:Str}{ring:Bool}{n:Nat}
noncomputable def xP(ks:List Int)(row:List Cl)(res:Bool)(i:Nat)(y:AV):Hint:=
 cond (Pc (iT (ma y) 1)) (.a<| .a<| .v (.int (ks.getD (gk (iT (ma (iT (ma y) 1)) 0)).toNat 0))<| .a<| .sp (.a<| .v (.lst ((row.take i).map Cl.av))<| .a<| .a<| .v (.lst ((row.drop (i+1)).map Cl.av))<| .call (.v (.bool res)) [] .nil) (.a .nil)) (.a (.a .nil))
theorem jn(i m:Nat)(I:Nat→Prop)(hI:I (i+1))(R:RV→S→Prop):
  (rX y g).set (.v (.tup [.int i,.int m])) ⟨kH row ks names ring,hJ,xP ks row true i (.tup [.int i,.int m])⟩ fun s2=> (rY y g).ex s2 fun f s3=>ca f (I (i+1)∧aA s3 (kH row ks names ring) hJ) False fun v=>R v s3:=by
 refine a6 (P:=I (i+1)∧EE (kH row ks names ring) (hJ)) ?_ (by kernel_rfl!)
 exact⟨hI,rfl⟩
def vN(y:Lay)(g:Gd)(ks:List Int)(names:Str)(ring:Bool)(row:List Cl)(res:Bool):Prop:=Fn g (.v (.val (.ref (y.ad 75)))) [.v (.lst (row.map Cl.av)),.v (.lst (ks.map .int)),.v (.str names),.v (.bool ring)] [] [] [] (.v (.bool res)) []
theorem pW(hk:ks.length≤100)(hr:row.length≤20)(i k:Nat)(K6:k<ks.length)(l r:Cl)(res:Bool)(I:Nat→Prop)(hn:(ks.getD k 0==1)=false→I (i+1))
  (hF:(ks.getD k 0==1)=true→vN y g ks names ring (row.take i++l::r::row.drop (i+1)) res):
  (rX y g).set (.v (.tup [.int i,.tup [.int k,l.av,r.av]])) ⟨kH row ks names ring,hJ,xP ks row res i (.tup [.int i,.tup [.int k,l.av,r.av]])⟩ fun s2=> (rY y g).ex s2 fun f s3=>ca f (I (i+1)∧aA s3 (kH row ks names ring) hJ) False fun v=>cO (.ret v) s3 (.bool res) []:=by
 refine a6 (P:=SL (map AV.int ks)∧AG (map .int ks) ↑k (.int (getD ks k 0))∧((getD ks k (0:Int)==(1:Int))=true→SL (map Cl.av row)∧AV.lst (aS (map Cl.av row) none (some ↑i) none)= .lst (map Cl.av (take i row))∧length (map Cl.av (take i row))+length [Cl.av l,Cl.av r]≤sizeLine∧SL (map Cl.av row)∧AV.lst (aS (map Cl.av row) (some (↑i+1)) none none)= .lst (map Cl.av (drop (i+1) row))∧length (map Cl.av (take i row)++ [Cl.av l,Cl.av r])+length (map Cl.av (drop (i+1) row))≤sizeLine∧Fn g (.v (.val (.ref (y.1 75)))) [.v (.lst (map Cl.av (take i row)++ [Cl.av l,Cl.av r]++map Cl.av (drop (i+1) row))),.v (.lst (map .int ks)),.v (.str names),.v (.bool ring)] [] [] [] (.v (.bool res)) []∧VI (.bool res) (.bool res)∧([]:Os)=[])∧((getD ks k (0:Int)==(1:Int))=false→I (i+1)∧EE (kH row ks names ring) (hJ))) ?_ (by kernel_rfl!)
 exact⟨sz (az hk) rfl,fK 0 K6,fun hb=> ⟨sz (az hr) rfl,vH row i,sz (sa (az (cp hr)) (N1 2)) rfl,sz (az hr) rfl,tX row i,sz (sa (gD (az (cp hr)) (N1 2)) (az (gm hr))) rfl,
  S5 (row.take i) (row.drop (i+1)) l r▸hF hb,rfl,rfl⟩,fun hb=> ⟨hn hb,rfl⟩⟩
noncomputable abbrev zt(pick:Nat):=[(10,EO.cell (some (.v (.int ↑pick))))]
theorem xQ(pick:Nat)(l:List AV):(DT y g).turn [(10,.cell (some (.v (.int pick))))] (eY pick 0) (fun O=> .a (.sp .nil .nil)) (aV l):=fun g' O y' hy=>by
 obtain⟨k,c,rfl,_⟩:=jk hy
 refine a6 (P:=_∧((Builtin.bitAnd (fdiv ↑pick ((2:Int) ^ k)) (1:Int)==(0:Int))=true→eY pick 0 (AV.tup [.int ↑k,c])=some c∧rf (zt pick))∧((Builtin.bitAnd (fdiv ↑pick ((2:Int) ^ k)) (1:Int)==(0:Int))=false→eY pick 0 (AV.tup [.int ↑k,c])=none∧rf (zt pick)))
  ⟨N3 k,fun h=> ⟨(E8 (fun b=>cond b (some c) none) h:_=cond true _ _),rfl⟩,fun h=> ⟨(E8 (fun b=>cond b (some c) none) h:_=cond false _ _),rfl⟩⟩ (by kernel_rfl!)
noncomputable abbrev zu(pick:Nat):=[(10,EO.cell (some (.v (.int ↑pick))))]
theorem xR(pick:Nat)(l:List AV):(DU y g).turn [(10,.cell (some (.v (.int pick))))] (eY pick 1) (fun O=> .a (.sp .nil .nil)) (aV l):=fun g' O y' hy=>by
 obtain⟨k,c,rfl,_⟩:=jk hy
 refine a6 (P:=_∧((Builtin.bitAnd (fdiv ↑pick ((2:Int) ^ k)) (1:Int)==(1:Int))=true→eY pick 1 (AV.tup [.int ↑k,c])=some c∧rf (zu pick))∧((Builtin.bitAnd (fdiv ↑pick ((2:Int) ^ k)) (1:Int)==(1:Int))=false→eY pick 1 (AV.tup [.int ↑k,c])=none∧rf (zu pick)))
  ⟨N3 k,fun h=> ⟨(E8 (fun b=>cond b (some c) none) h:_=cond true _ _),rfl⟩,fun h=> ⟨(E8 (fun b=>cond b (some c) none) h:_=cond false _ _),rfl⟩⟩ (by kernel_rfl!)
noncomputable def L8(pr:List Cl→Bool)(row:List Cl)(i:Nat)(l r:Cl)(_:Nat)(y:AV):Hint:=
 let p:=(gk y).toNat
 let rest:=restOf row i
 let body:Hint:= .a<| .call (.v (.bool (pr (r::bv rest p 0)))) []<| .sp (.a<| .call (.v (.bool (pr (bv rest p 1++ [l])))) []<| .sp (.a .nil) (.a .nil)) (.a .nil)
 .f (eY p 0) (fun O=> .a (.sp .nil .nil))<| .v (.lst ((bv rest p 0).map Cl.av))<| .f (eY p 1) (fun O=> .a (.sp .nil .nil))<| .v (.lst ((bv rest p 1).map Cl.av))<|
 .b (decide (bv rest p 0++bv rest p 1=rest))<| .sp (.a body) (.sp (.a body) (.a .nil))
noncomputable def q4(row:List Cl)(ks:List Int)(names:Str)(ring:Bool)(i k:Nat)(l r:Cl):Vs:=[some (.v (.lst (row.map Cl.av))),some (.v (.lst (ks.map .int))),some (.v (.str names)),some (.v (.bool ring)),some (.v (.int i)),some (.v (.tup [.int k,l.av,r.av])),some (.v (.lst ((row.drop (i+1)).map Cl.av++(row.take i).map Cl.av))),none,none]
noncomputable abbrev t5(i:Nat)(row:List Cl):=map Cl.av (drop (i+1) row)++map Cl.av (take i row)
noncomputable abbrev k_(row:List Cl)(i:Nat)(p:Nat):=bv (restOf row i) p (0:Int)
noncomputable abbrev lb(row:List Cl)(i:Nat)(p:Nat):=bv (restOf row i) p (1:Int)
noncomputable abbrev jI(row:List Cl)(i:Nat)(p:Nat)(l:Cl):=bv (restOf row i) p (1:Int)++ [l]
noncomputable abbrev jJ(r:Cl)(row:List Cl)(i:Nat)(p:Nat):=r::bv (restOf row i) p (0:Int)
noncomputable abbrev nY(y:Lay):=RV.v (.val (Value.ref (y.1 75)))
theorem DX{N K:Nat}(pr:List Cl→Bool)(i k p:Nat)(l r:Cl)(res:Bool)(I:Nat→Prop)(hr:de (n+1) N K row)(hc:row[i]? =some (.node k l r))(hF:∀dg,de n N K dg→vN y g ks names ring dg (pr dg))
  (q5:db pr ring (restOf row i) l r p=true→res=true) (hI:db pr ring (restOf row i) l r p=false→I (p+1)):
  (zq y g).set (.v (.int p)) ⟨q4 row ks names ring i k l r,hJ,L8 pr row i l r p (.int p)⟩ fun s2=> (zr y g).ex s2 fun f s3=>ca f (I (p+1)∧aA s3 (q4 row ks names ring i k l r) hJ) False fun v=>cO (.ret v) s3 (.bool res) []:=by
 have hl:=hr.len
 have hR:=L5 (f:=Cl.av) (row.drop (i+1)) (row.take i)
 have s0:(aV ((row.drop (i+1)).map Cl.av++(row.take i).map Cl.av)).length≤sizeLine:=by rw[em];exact sz (gD (az (gm hl)) (az (cp hl))) rfl
 have e0:=fun b=> (E8 (fun x=> (aV x).filterMap (eY p b)) hR).trans (xN (restOf row i) p b)
 have q0:=hr.side hc (nX (restOf row i) p 0)
 have q1:=hr.side hc (nX (restOf row i) p 1)
 have lr:bL (restOf row i)≤20:=E2 (by unfold restOf;rw[dF,ZU];exact Yo (YR ..) _) (hr.parts hc).2.1
 have ll:bL (bv (restOf row i) p 0++bv (restOf row i) p 1)≤40:=by rw[dF];exact ZQ (E2 (jm (nX ..)) lr) (E2 (jm (nX ..)) lr)
 have sn:=az (f:=Cl.av) (Yg q0.1.len)
 have sf:=az (f:=Cl.av) (Yg q1.1.len)
 have s2:=sz (sa sn sf) rfl
 have s3: [r.av].length+((bv (restOf row i) p 0).map Cl.av).length≤sizeLine:=sz (sa (N1 1) sn) rfl
 have s4:((bv (restOf row i) p 1).map Cl.av).length+ [l.av].length≤sizeLine:=sz (sa sf (N1 1)) rfl
 have f0:=hF _ q0.1
 have f1:=hF _ q1.2
 unfold vN at f1
 rw[N9] at f1
 have at':db pr ring (restOf row i) l r p=((decide (bv (restOf row i) p 0++bv (restOf row i) p 1=restOf row i)||!ring)&& (pr (r::bv (restOf row i) p 0)&&pr (bv (restOf row i) p 1++ [l]))):=rfl
 have body:∀ {c:Bool},c=(decide (bv (restOf row i) p 0++bv (restOf row i) p 1=restOf row i)||!ring)→db pr ring (restOf row i) l r p=(c&& (pr (r::bv (restOf row i) p 0)&&pr (bv (restOf row i) p 1++ [l]))):=fun h=>h▸at'
 refine a6 (P:=_∧LC.turn (DT y g) [(10,EO.cell (some (.v (.int ↑p))))] (eY p 0) (fun(x:AV)=>Hint.a (Hint.sp .nil .nil)) (aV (t5 i row))∧_∧_∧LC.turn (DU y g) [(10,EO.cell (some (.v (.int ↑p))))] (eY p 1) (fun(x:AV)=>Hint.a (Hint.sp .nil .nil)) (aV (t5 i row))∧_∧_∧dS (AV.lst (map Cl.av (k_ row i p)++map Cl.av (lb row i p))) (AV.lst (t5 i row)) (decide (bv (restOf row i) p 0++bv (restOf row i) p 1=restOf row i))∧(decide (bv (restOf row i) p (0:Int)++bv (restOf row i) p (1:Int)=restOf row i)=true→length [Cl.av r]+length (map Cl.av (k_ row i p))≤sizeLine∧Fn g (nY y) [RV.v (.lst ([Cl.av r]++map Cl.av (k_ row i p))),RV.v (.lst (map AV.int ks)),RV.v (.str names),RV.v (.bool ring)] [] [] [] (RV.v (.bool (pr (jJ r row i p)))) []∧(pr (jJ r row i p)=true→length (map Cl.av (lb row i p))+length [Cl.av l]≤sizeLine∧Fn g (nY y) [RV.v (.lst (map Cl.av (lb row i p)++ [Cl.av l])),RV.v (.lst (map AV.int ks)),RV.v (.str names),RV.v (.bool ring)] [] [] [] (RV.v (.bool (pr (jI row i p l)))) []∧(pr (jI row i p l)=true→VI (.bool true) (.bool res)∧([]:Os)=[])∧(pr (jI row i p l)=false→I (p+1)∧EE (q4 row ks names ring i k l r) (hJ)))∧(pr (jJ r row i p)=false→I (p+1)∧EE (q4 row ks names ring i k l r) (hJ)))∧(decide (bv (restOf row i) p (0:Int)++bv (restOf row i) p (1:Int)=restOf row i)=false→((!ring)=true→length [Cl.av r]+length (map Cl.av (k_ row i p))≤sizeLine∧Fn g (nY y) [RV.v (.lst ([Cl.av r]++map Cl.av (k_ row i p))),RV.v (.lst (map AV.int ks)),RV.v (.str names),RV.v (.bool ring)] [] [] [] (RV.v (.bool (pr (jJ r row i p)))) []∧(pr (jJ r row i p)=true→length (map Cl.av (lb row i p))+length [Cl.av l]≤sizeLine∧Fn g (nY y) [RV.v (.lst (map Cl.av (lb row i p)++ [Cl.av l])),RV.v (.lst (map AV.int ks)),RV.v (.str names),RV.v (.bool ring)] [] [] [] (RV.v (.bool (pr (jI row i p l)))) []∧(pr (jI row i p l)=true→VI (.bool true) (.bool res)∧([]:Os)=[])∧(pr (jI row i p l)=false→I (p+1)∧EE (q4 row ks names ring i k l r) (hJ)))∧(pr (jJ r row i p)=false→I (p+1)∧EE (q4 row ks names ring i k l r) (hJ)))∧((!ring)=false→I (p+1)∧EE (q4 row ks names ring i k l r) (hJ))))
  ⟨s0,xQ p _,e0 0,s0,xR p _,e0 1,s2,HK (L5 ..) hR ll (E2 lr (by decide)),fun h=>?_,fun h=> ⟨fun h2=>?_,fun h2=> ⟨hI (at'.trans (by rw[h,h2];rfl)),rfl⟩⟩⟩ (by kernel_rfl!)
 ·have a:=body (c:=true) (by rw[h];rfl)
  exact⟨s3,f0,fun h3=> ⟨s4,f1,fun h4=> ⟨by rw[q5 (a.trans (by rw[h3,h4];rfl))],rfl⟩,fun h4=> ⟨hI (a.trans (by rw[h3,h4];rfl)),rfl⟩⟩,fun h3=> ⟨hI (a.trans (by rw[h3];rfl)),rfl⟩⟩
 ·have a:=body (c:=true) (by rw[h,h2];rfl)
  exact⟨s3,f0,fun h3=> ⟨s4,f1,fun h4=> ⟨by rw[q5 (a.trans (by rw[h3,h4];rfl))],rfl⟩,fun h4=> ⟨hI (a.trans (by rw[h3,h4];rfl)),rfl⟩⟩,fun h3=> ⟨hI (a.trans (by rw[h3];rfl)),rfl⟩⟩
noncomputable def vO(pr:List Cl→Bool)(ring:Bool)(row:List Cl)(ks:List Int)(names:Str)(i:Nat)(c:Cl):Hint:=
 .v (.lst ((row.drop (i+1)).map Cl.av))<| .v (.lst ((row.take i).map Cl.av))<| .a<|c.casesOn (fun m=> .loop (fun O=>True) (fun O=>kH row ks names ring) (fun O=>hJ) (fun O O=> .nil) .nil)
  fun k l r=> .loop (fun q=> ∀p,p<q→db pr ring (restOf row i) l r p=false) (fun O=>q4 row ks names ring i k l r) (fun O=>hJ) (fun p y=>L8 pr row i l r p y) .nil
theorem pX(hl:row.length≤20)(pr:List Cl→Bool)(i m:Nat)(I:Nat→Prop)(hI:I (i+1))(R:RV→S→Prop):
  (mZ y g).set (.v (.tup [.int i,.int m])) ⟨kH row ks names ring,hJ,vO pr ring row ks names i (.leaf m)⟩ fun s2=> (pO y g).ex s2 fun f s3=>ca f (I (i+1)∧aA s3 (kH row ks names ring) hJ) False fun v=>R v s3:=by
 have s1:(row.map Cl.av).length≤sizeLine:=sz (az hl) rfl
 refine a6 (P:=SL (map Cl.av row)∧AV.lst (aS (map Cl.av row) (some (↑i+1)) none none)= .lst (map Cl.av (drop (i+1) row))∧SL (map Cl.av row)∧AV.lst (aS (map Cl.av row) none (some ↑i) none)= .lst (map Cl.av (take i row))∧length (map Cl.av (drop (i+1) row))+length (map Cl.av (take i row))≤sizeLine∧Builtin.Range.small 0 0 1=true∧(True∧EE ((fun(x:Nat)=>kH row ks names ring) 0) ((fun(x:Nat)=>hJ) 0))∧(aW (zq y g) (zr y g) (eg 0 0 1) (fun(x:Nat)=>True) (fun(x:Nat)=>kH row ks names ring) (fun(x:Nat)=>hJ) (fun(x:Nat) (FZ:AV)=> .nil) fun(v:RV) (s3:S)=>R v s3)∧(True→I (i+1)∧EE (kH row ks names ring) (hJ)))
  ⟨s1,tX row i,s1,vH row i,sz (sa (az (gm hl)) (az (cp hl))) rfl,gX (n:=0) (by decide),⟨trivial,rfl⟩,fun j y hy=>absurd (jH (n:=0) hy).1 (Zt j),fun O=> ⟨hI,rfl⟩⟩ (by kernel_rfl!)
noncomputable abbrev jK(i:Nat)(row:List Cl):=map Cl.av (drop (i+1) row)++map Cl.av (take i row)
theorem pY{N K:Nat}(pr:List Cl→Bool)(i k:Nat)(l r:Cl)(res:Bool)(I:Nat→Prop)(hr:de (n+1) N K row)(hc:row[i]? =some (.node k l r))(hF:∀dg,de n N K dg→vN y g ks names ring dg (pr dg))
  (q5:cI pr ring row i (.node k l r)=true→res=true) (hI:cI pr ring row i (.node k l r)=false→I (i+1)):
  (mZ y g).set (.v (.tup [.int i,.tup [.int k,l.av,r.av]])) ⟨kH row ks names ring,hJ,vO pr ring row ks names i (.node k l r)⟩ fun s2=> (pO y g).ex s2 fun f s3=>ca f (I (i+1)∧aA s3 (kH row ks names ring) hJ) False fun v=>cO (.ret v) s3 (.bool res) []:=by
 have hl:=hr.len
 have s1:(row.map Cl.av).length≤sizeLine:=sz (az hl) rfl
 have hR:=E8 length (L5 (f:=Cl.av) (row.drop (i+1)) (row.take i))
 have US:(restOf row i).length≤19:=by
  have:=(Ym.mp hc).1
  unfold restOf
  rw[N8,YJ,YS];omega
 have UT:((row.drop (i+1)).map Cl.av++(row.take i).map Cl.av).length=(restOf row i).length:=hR.trans (E7 ..)
 have hN:(2:Int) ^ ((row.drop (i+1)).map Cl.av++(row.take i).map Cl.av).length=((2 ^ (restOf row i).length:Nat):Int):=by rw[UT,Int.natCast_pow];rfl
 have hp:2 ^ (restOf row i).length≤1048576:=E2 (abr (by decide:2 > 0) US) (by decide)
 refine a6 (P:=SL (map Cl.av row)∧AV.lst (aS (map Cl.av row) (some (↑i+1)) none none)= .lst (map Cl.av (drop (i+1) row))∧SL (map Cl.av row)∧AV.lst (aS (map Cl.av row) none (some ↑i) none)= .lst (map Cl.av (take i row))∧length (map Cl.av (drop (i+1) row))+length (map Cl.av (take i row))≤sizeLine∧SL (jK i row)∧0≤(↑(length (jK i row)):Int)∧(↑(Builtin.Int.intBits 2):Int)*(↑(length (jK i row)):Int)≤2 ^ 27∧Builtin.Range.small 0 (2 ^ length (jK i row)) 1=true∧((∀p:Nat,((p<0)→(((db pr ring (restOf row i) l r p)=false))))∧EE ((fun(x:Nat)=>q4 row ks names ring i k l r) 0) ((fun(x:Nat)=>hJ) 0))∧(aW (zq y g) (zr y g) (eg 0 (2 ^ length (jK i row)) 1) (fun(q:Nat)=> ∀(p:Nat),p<q→db pr ring (restOf row i) l r p=false) (fun(x:Nat)=>q4 row ks names ring i k l r) (fun(x:Nat)=>hJ) (fun(p:Nat) (y:AV)=>L8 pr row i l r p y) fun(v:RV) (s3:S)=>cO (RF.ret v) s3 (AV.bool res) [])∧((∀(p:Nat),p<length (eg (0:Int) ((2:Int) ^ length (jK i row)) (1:Int))→db pr ring (restOf row i) l r p=false)→I (i+1)∧EE (kH row ks names ring) (hJ)))
  ⟨s1,tX row i,s1,vH row i,sz (sa (az (gm hl)) (az (cp hl))) rfl,sz (gD (az (gm hl)) (az (cp hl))) rfl,N3 _,?_,?_,⟨fun p hp=>absurd hp (Zt p),rfl⟩,fun p y hy Wx=>?_,fun h=> ⟨hI (aa4.mpr fun p hp=>?_),rfl⟩⟩ (by kernel_rfl!)
 ·rw[UT]
  show((2:Nat):Int)*_≤_
  have:((restOf row i).length:Int)≤19:=YH.mpr US
  omega
 ·rw[hN];exact gX hp
 ·rw[hN] at hy
  obtain⟨h1,rfl⟩:=jH hy
  exact DX pr i k p l r res (fun q=> ∀p,p<q→db pr ring (restOf row i) l r p=false) hr hc hF (fun h=>q5 (YY.mpr ⟨p,Ya.mpr h1,h⟩)) (fun h=>pQ Wx h)
 ·rw[hN,jG] at h
  rw[h p (Ya.mp hp)];exact Yt
theorem AM{N:Nat}(hk:ks.length≤100)(hr:de (n+1) N ks.length row)(hF:∀dg,de n N ks.length dg→vN y g ks names ring dg (fj ks (gJ names) ring n dg)):
  aW (rX y g) (rY y g) (aV (row.map Cl.av)) (fun i=> ∀j,j<i→∀c,row[j]? =some c→pP ks c=false) (fun O=>kH row ks names ring) (fun O=>hJ) (fun i y=>xP ks row (fj ks (gJ names) ring (n+1) row) i y) fun v s3=>cO (.ret v) s3 (.bool (fj ks (gJ names) ring (n+1) row)) []:=fun i y hy hi=>by
 obtain⟨c,hc,rfl⟩:=gW hy
 have nx:pP ks c=false→∀j,j<i+1→∀c,row[j]? =some c→pP ks c=false:=fun h=>pQ hi fun c' KG=>by rw[hc] at KG;cases KG;exact h
 cases c with
 | leaf m=>exact jn i m (fun i=> ∀j,j<i→∀c,row[j]? =some c→pP ks c=false) (nx rfl) _
 | node k l r=>
  refine pW hk hr.len i k (hr.parts hc).2.2.1 l r _ (fun i=> ∀j,j<i→∀c,row[j]? =some c→pP ks c=false) nx fun h=>?_
  rw[fj,pR h hi hc]
  exact hF _ (hr.step hc)
theorem AN{N K:Nat}{res:Bool}(hr:de (n+1) N K row)(pr:List Cl→Bool)(hF:∀dg,de n N K dg→vN y g ks names ring dg (pr dg))(q5:∀i c,row[i]? =some c→cI pr ring row i c=true→res=true):
  aW (mZ y g) (pO y g) (aV (row.map Cl.av)) (fun i=> ∀j,j<i→∀c,row[j]? =some c→cI pr ring row j c=false) (fun O=>kH row ks names ring) (fun O=>hJ) (fun i O=>vO pr ring row ks names i (row.getD i default)) fun v s3=>cO (.ret v) s3 (.bool res) []:=fun i y hy hi=>by
 obtain⟨c,hc,rfl⟩:=gW hy
 have nx:cI pr ring row i c=false→∀j,j<i+1→∀c,row[j]? =some c→cI pr ring row j c=false:=fun h=>pQ hi fun c' KG=>by rw[hc] at KG;cases KG;exact h
 show(mZ y g).set _ ⟨_,_,vO pr ring row ks names i (row.getD i default)⟩ _
 rw[ft hc]
 cases c with
 | leaf m=>exact pX hr.len pr i m (fun i=> ∀j,j<i→∀c,row[j]? =some c→cI pr ring row j c=false) (nx rfl) _
 | node k l r=>exact pY pr i k l r res (fun i=> ∀j,j<i→∀c,row[j]? =some c→cI pr ring row j c=false) hr hc hF (q5 i _ hc) nx
theorem DY(row:List Cl):(∃a b,row=[.leaf a,.leaf b])∨eu row=none:=by
 cases row with
 | nil=>exact .inr rfl
 | cons c l=>cases l with
  | nil=>exact .inr rfl
  | cons d r=>cases r with
   | cons=>exact .inr rfl
   | nil=>cases c with
    | node=>exact .inr rfl
    | leaf a=>cases d with
     | node=>exact .inr rfl
     | leaf b=>exact .inl ⟨a,b,rfl⟩
noncomputable def me(c:Cl):Bool:=c.casesOn (fun O=>true) fun O O O=>false
theorem DZ(c:Cl):Uz c.av (me c):=by cases c with | leaf n=>exact .inl ⟨_,rfl,rfl⟩ | node k l r=>exact .inr ⟨_,rfl,rfl⟩
theorem L9{row:List Cl}(h2:row.length=2)(h:me (row.getD 0 default)=true)(h':me (row.getD 1 default)=true):∃a b,row=[.leaf a,.leaf b]:=by
 cases row with
 | nil=>cases h2
 | cons c l=>cases l with
  | nil=>cases h2
  | cons d l=>cases l with
   | nil=>cases c with
    | leaf a=>cases d with
     | leaf b=>exact⟨a,b,rfl⟩
     | node=>cases h'
    | node=>cases h
   | cons=>cases h2
noncomputable abbrev gn(row:List Cl):=aV (map Cl.av row)
theorem r7{ks:List Int}{names:Str}{ring:Bool}(JT:ks.length≤100)(t0:names.length≤100):∀(n:Nat) {g:Gd} (X:dy y g) (hn:n+9≤g.n) (row:List Cl) (hr:de n names.length ks.length row),vN y g ks names ring row (fj ks (gJ names) ring n row)
 | 0,g,X,hn,row,hr=>absurd hr.nd (Zt _)
 | n+1,g,X,hn,row,hr=>by
  have hl:=hr.len
  have s1:(row.map Cl.av).length≤sizeLine:=sz (az hl) rfl
  by_cases h2:∃a b,row=[.leaf a,.leaf b]
  ·obtain⟨a,b,rfl⟩:=h2
   have ha:a<names.length:=hr.ok (.leaf a) E6
   have hb:b<names.length:=hr.ok (.leaf b) (E4 _ E6)
   refine jZ X (aaq hn) (X.fn 75 "_law_proved" (by decide)) (DS y) (UQ y) (.loop (fun O=>True) (fun O=>kH [.leaf a,.leaf b] ks names ring) (fun O=>hJ) (fun i y=>xP ks [.leaf a,.leaf b] true i y)<|
     .a<| .a<| .a<| .a<| .a<| .a<| .a<| .a<| .v (.str ⟨#[names.cps.getD a 0]⟩)<| .a<| .v (.str ⟨#[names.cps.getD b 0]⟩)<| .a .nil) (by intros;kernel_rfl!) fun g' b'=>?_
   refine a6 (P:=(True∧EE ((fun(x:Nat)=>kH [Cl.leaf a,Cl.leaf b] ks names ring) 0) ((fun(x:Nat)=>hJ) 0))∧(aW (rX y g') (rY y g') (aV (map Cl.av [Cl.leaf a,Cl.leaf b])) (fun(x:Nat)=>True) (fun(x:Nat)=>kH [Cl.leaf a,Cl.leaf b] ks names ring) (fun(x:Nat)=>hJ) (fun(i:Nat) (y:AV)=>xP ks [Cl.leaf a,Cl.leaf b] true i y) fun(v:RV) (s3:S)=>cO (RF.ret v) s3 (AV.bool (fj ks (gJ names) ring (n+1) [Cl.leaf a,Cl.leaf b])) [])∧(True→SL (map Cl.av [Cl.leaf a,Cl.leaf b])∧_∧(∃(c:Nat),tD names ↑a=some c∧AV.str (Str.mk #[Array.getD (Str.cps names) a 0])=AV.str (Str.mk #[c]))∧_∧(∃(c:Nat),tD names ↑b=some c∧AV.str (Str.mk #[Array.getD (Str.cps names) b 0])=AV.str (Str.mk #[c]))∧Str.length (Str.mk #[Array.getD (Str.cps names) b 0])≤5592405∧VV (.bool (fj ks (gJ names) ring (n+1) [Cl.leaf a,Cl.leaf b]))∧rf ([]:Os)))
    ⟨⟨trivial,rfl⟩,fun i y hy O=>?_,fun O=> ⟨sz (N1 2) rfl,sz t0 rfl,⟨_,pM ha,rfl⟩,sz t0 rfl,⟨_,pM hb,rfl⟩,(by decide:1≤5592405),rfl,rfl⟩⟩ (by kernel_rfl!)
   ·obtain⟨c,hc,rfl⟩:=gW hy
    have:∃m,c= .leaf m:=by
     rcases J0.mp (Yh hc) with rfl | h
     ·exact⟨_,rfl⟩
     ·exact⟨_,X8.mp h⟩
    obtain⟨m,rfl⟩:=this
    exact jn i m (fun O=>True) trivial _
  ·have Pi:=(DY row).resolve_left h2
   refine jZ X (aaq hn) (X.fn 75 "_law_proved" (by decide)) (DS y) (UQ y) (.loop (fun i=> ∀j,j<i→∀c,row[j]? =some c→pP ks c=false) (fun O=>kH row ks names ring) (fun O=>hJ) (fun i y=>xP ks row (fj ks (gJ names) ring (n+1) row) i y)<|
     let rest:Hint:= .a<| .loop (fun i=> ∀j,j<i→∀c,row[j]? =some c→cI (fj ks (gJ names) ring n) ring row j c=false) (fun O=>kH row ks names ring) (fun O=>hJ) (fun i O=>vO (fj ks (gJ names) ring n) ring row ks names i (row.getD i default)) .nil
     .a<| .sp (.v (row.getD 0 default).av<| .b (me (row.getD 0 default))<| .sp (.v (row.getD 1 default).av<| .b (me (row.getD 1 default))<| .sp .nil rest) rest) rest) (by intros;kernel_rfl!) fun g' b'=>?_
   have hF:∀dg,de n names.length ks.length dg→vN y g' ks names ring dg (fj ks (gJ names) ring n dg):=fun dg S_=>r7 JT t0 n (X.bO b'.bO) (by rw[b'.n];exact Yj (by rw[Nat.lt_iff_add_one_le,Zo];exact hn)) dg S_
   have lt:(aV (row.map Cl.av)).length=row.length:=(em _).trans (E7 ..)
   refine a6 (P:=((∀j:Nat,((j<0)→((∀c:Cl,(((row[j]?)=(some c))→(((pP ks c)=false)))))))∧EE ((fun(x:Nat)=>kH row ks names ring) 0) ((fun(x:Nat)=>hJ) 0))∧(aW (rX y g') (rY y g') (gn row) (fun(i:Nat)=> ∀(j:Nat),j<i→∀(c:Cl),row[j]? =some c→pP ks c=false) (fun(x:Nat)=>kH row ks names ring) (fun(x:Nat)=>hJ) (fun(i:Nat) (y:AV)=>xP ks row (fj ks (gJ names) ring (n+1) row) i y) fun(v:RV) (s3:S)=>cO (RF.ret v) s3 (AV.bool (fj ks (gJ names) ring (n+1) row)) [])∧((∀(j:Nat),j<length (gn row)→∀(c:Cl),row[j]? =some c→pP ks c=false)→SL (map Cl.av row)∧(((↑(length (map Cl.av row)):Int)==(2:Int))=true→SL (map Cl.av row)∧AG (map Cl.av row) 0 (Cl.av (getD row 0 default))∧((∃(i:Int),Cl.av (getD row 0 default)=AV.int i∧me (getD row 0 default)=true)∨∃(l:List AV),Cl.av (getD row 0 default)=AV.tup l∧me (getD row 0 default)=false)∧(me (getD row 0 default)=true→SL (map Cl.av row)∧AG (map Cl.av row) 1 (Cl.av (getD row 1 default))∧((∃(i:Int),Cl.av (getD row 1 default)=AV.int i∧me (getD row 1 default)=true)∨∃(l:List AV),Cl.av (getD row 1 default)=AV.tup l∧me (getD row 1 default)=false)∧(me (getD row 1 default)=true→False)∧(me (getD row 1 default)=false→((∀j:Nat,((j<0)→((∀c:Cl,(((row[j]?)=(some c))→(((cI (fj ks (gJ names) ring n) ring row j c)=false)))))))∧EE ((fun(x:Nat)=>kH row ks names ring) 0) ((fun(x:Nat)=>hJ) 0))∧(aW (mZ y g') (pO y g') (gn row) (fun(i:Nat)=> ∀(j:Nat),j<i→∀(c:Cl),row[j]? =some c→cI (fj ks (gJ names) ring n) ring row j c=false) (fun(x:Nat)=>kH row ks names ring) (fun(x:Nat)=>hJ) (fun(i:Nat) (x:AV)=>vO (fj ks (gJ names) ring n) ring row ks names i (getD row i default)) fun(v:RV) (s3:S)=>cO (RF.ret v) s3 (AV.bool (fj ks (gJ names) ring (n+1) row)) [])∧((∀(j:Nat),j<length (gn row)→∀(c:Cl),row[j]? =some c→cI (fj ks (gJ names) ring n) ring row j c=false)→VI (.bool false) (.bool (fj ks (gJ names) ring (n+1) row))∧([]:Os)=[])))∧(me (getD row 0 default)=false→((∀j:Nat,((j<0)→((∀c:Cl,(((row[j]?)=(some c))→(((cI (fj ks (gJ names) ring n) ring row j c)=false)))))))∧EE ((fun(x:Nat)=>kH row ks names ring) 0) ((fun(x:Nat)=>hJ) 0))∧(aW (mZ y g') (pO y g') (gn row) (fun(i:Nat)=> ∀(j:Nat),j<i→∀(c:Cl),row[j]? =some c→cI (fj ks (gJ names) ring n) ring row j c=false) (fun(x:Nat)=>kH row ks names ring) (fun(x:Nat)=>hJ) (fun(i:Nat) (x:AV)=>vO (fj ks (gJ names) ring n) ring row ks names i (getD row i default)) fun(v:RV) (s3:S)=>cO (RF.ret v) s3 (AV.bool (fj ks (gJ names) ring (n+1) row)) [])∧((∀(j:Nat),j<length (gn row)→∀(c:Cl),row[j]? =some c→cI (fj ks (gJ names) ring n) ring row j c=false)→VI (.bool false) (.bool (fj ks (gJ names) ring (n+1) row))∧([]:Os)=[])))∧(((↑(length (map Cl.av row)):Int)==(2:Int))=false→((∀j:Nat,((j<0)→((∀c:Cl,(((row[j]?)=(some c))→(((cI (fj ks (gJ names) ring n) ring row j c)=false)))))))∧EE ((fun(x:Nat)=>kH row ks names ring) 0) ((fun(x:Nat)=>hJ) 0))∧(aW (mZ y g') (pO y g') (gn row) (fun(i:Nat)=> ∀(j:Nat),j<i→∀(c:Cl),row[j]? =some c→cI (fj ks (gJ names) ring n) ring row j c=false) (fun(x:Nat)=>kH row ks names ring) (fun(x:Nat)=>hJ) (fun(i:Nat) (x:AV)=>vO (fj ks (gJ names) ring n) ring row ks names i (getD row i default)) fun(v:RV) (s3:S)=>cO (RF.ret v) s3 (AV.bool (fj ks (gJ names) ring (n+1) row)) [])∧((∀(j:Nat),j<length (gn row)→∀(c:Cl),row[j]? =some c→cI (fj ks (gJ names) ring n) ring row j c=false)→VI (.bool false) (.bool (fj ks (gJ names) ring (n+1) row))∧([]:Os)=[])))) ?_ (by kernel_rfl!)
   have aN:=AM JT hr hF
   refine⟨⟨fun j hj=>absurd hj (Zt j),rfl⟩,aN,fun hE=>?_⟩
   have hp:fj ks (gJ names) ring (n+1) row=row.zipIdx.any fun p=>cI (fj ks (gJ names) ring n) ring row p.2 p.1:=by
    rw[fj,ky fun c hc=>?_,Pi]
    obtain⟨j,hj⟩:=Zm.mp hc
    exact hE j (by rw[lt];exact(Ym.mp hj).1) c hj
   have a8:=AN (res:=fj ks (gJ names) ring (n+1) row) hr (fj ks (gJ names) ring n) hF fun i c hc h=>hp.trans (HJ hc h)
   have fin:(∀j,j<(aV (row.map Cl.av)).length→∀c,row[j]? =some c→cI (fj ks (gJ names) ring n) ring row j c=false)→RV.v (.bool false)=RV.v (.bool (fj ks (gJ names) ring (n+1) row)):=fun h=>by
    rw[hp,DW fun i c hc=>h i (by rw[lt];exact(Ym.mp hc).1) c hc]
   have nl:∀j,j<0→∀c,row[j]? =some c→cI (fj ks (gJ names) ring n) ring row j c=false:=fun j hj=>absurd hj (Zt j)
   refine⟨s1,fun h=>?_,fun h=> ⟨⟨nl,rfl⟩,a8,fun h=> ⟨fin h,rfl⟩⟩⟩
   have wY:row.length=2:=by
    have:=Yr h
    rw[E7] at this
    exact abe this
   refine⟨s1,fK default (by rw[wY];decide),DZ _,fun h3=> ⟨s1,fK default (by rw[wY];decide),DZ _,fun h4=>?_,fun O=> ⟨⟨nl,rfl⟩,a8,fun h=> ⟨fin h,rfl⟩⟩⟩,fun O=> ⟨⟨nl,rfl⟩,a8,fun h=> ⟨fin h,rfl⟩⟩⟩
   exact h2 (L9 wY h3 h4)
end
end
end
section
section
noncomputable def HL(y:Lay):Cx:=JS y [("a",.local),("x",.local),("lo",.local),("hi",.local),("key",.local),("mid",.local),("ValueError",.globalImplicit)] [] [0] true
noncomputable def Pj(y:Lay)(g:Gd):SE ⟨HL y,g⟩:= .lt (.lo 2 133 14) (.lo 3 133 19)
noncomputable def Pk(y:Lay)(g:Gd):SB ⟨HL y,g⟩:= .cons (.ag (.loc 5) 134 12 (.vF (.add (.lo 2 134 19) (.lo 3 134 24)) 2 0 (q 134 31 32) (q 134 18 32)))<| .cons (.ite (.lt (.get (.lo 0 135 15) (.lo 5 135 17)) (.lo 1 135 24)) (.cons (.ag (.loc 2) 136 16 (.add (.lo 5 136 21) (.nt 1 136 27)))<| .nil) (.cons (.ag (.loc 3) 138 16 (.lo 5 138 21))<| .nil) ⟨135,12,138,24⟩)<| .nil
noncomputable def zw(y:Lay)(g:Gd):SE ⟨HL y,g⟩:= .lt (.lo 2 140 14) (.lo 3 140 19)
noncomputable def zx(y:Lay)(g:Gd):SB ⟨HL y,g⟩:= .cons (.ag (.loc 5) 141 12 (.vF (.add (.lo 2 141 19) (.lo 3 141 24)) 2 0 (q 141 31 32) (q 141 18 32)))<| .cons (.ite (.lt (.SP 4 142 15 [(.get (.lo 0 142 19) (.lo 5 142 21))]) (.lo 1 142 29)) (.cons (.ag (.loc 2) 143 16 (.add (.lo 5 143 21) (.nt 1 143 27)))<| .nil) (.cons (.ag (.loc 3) 145 16 (.lo 5 145 21))<| .nil) ⟨142,12,145,24⟩)<| .nil
noncomputable def Rp(y:Lay)(g:Gd):SB ⟨HL y,g⟩:= .cons (.ite (.lt (.lo 2 128 7) (.nt 0 128 12)) (.cons (.dead (.Raise (some (.Call (.Name "ValueError" (q 129 14 24)) [(.Constant (.str "lo must be non-negative") 0 (q 129 25 50))] [] (q 129 14 51))) .none (q 129 8 51)))<| .nil) .nil ⟨128,4,129,51⟩)<| .cons (.ite (.is (.lo 3 130 7) (.none 0 (q 130 13 17))) (.cons (.ag (.loc 3) 131 8 (.cl 0 131 13 [(.lo 0 131 17)]))<| .nil) .nil ⟨130,4,131,19⟩)<| .cons (.ite (.is (.lo 4 132 7) (.none 0 (q 132 14 18))) (.cons (.M6 (Pj y g) (Pk y g) ⟨133,8,138,24⟩)<| .nil) (.cons (.M6 (zw y g) (zx y g) ⟨140,8,145,24⟩)<| .nil) ⟨132,4,145,24⟩)<| .cons (.ret (.lo 2 146 11))<| .nil
noncomputable def X9(y:Lay):Cx:=JS y [("a",.local),("x",.local),("lo",.local),("hi",.local),("key",.local),("mid",.local),("ValueError",.globalImplicit)] [] [0] true
noncomputable def Ta(y:Lay)(g:Gd):SE ⟨X9 y,g⟩:= .lt (.lo 2 107 14) (.lo 3 107 19)
noncomputable def Tb(y:Lay)(g:Gd):SB ⟨X9 y,g⟩:= .cons (.ag (.loc 5) 108 12 (.vF (.add (.lo 2 108 19) (.lo 3 108 24)) 2 0 (q 108 31 32) (q 108 18 32)))<| .cons (.ite (.lt (.lo 1 109 15) (.get (.lo 0 109 19) (.lo 5 109 21))) (.cons (.ag (.loc 3) 110 16 (.lo 5 110 21))<| .nil) (.cons (.ag (.loc 2) 112 16 (.add (.lo 5 112 21) (.nt 1 112 27)))<| .nil) ⟨109,12,112,28⟩)<| .nil
noncomputable def Pl(y:Lay)(g:Gd):SE ⟨X9 y,g⟩:= .lt (.lo 2 114 14) (.lo 3 114 19)
noncomputable def Pm(y:Lay)(g:Gd):SB ⟨X9 y,g⟩:= .cons (.ag (.loc 5) 115 12 (.vF (.add (.lo 2 115 19) (.lo 3 115 24)) 2 0 (q 115 31 32) (q 115 18 32)))<| .cons (.ite (.lt (.lo 1 116 15) (.SP 4 116 19 [(.get (.lo 0 116 23) (.lo 5 116 25))])) (.cons (.ag (.loc 3) 117 16 (.lo 5 117 21))<| .nil) (.cons (.ag (.loc 2) 119 16 (.add (.lo 5 119 21) (.nt 1 119 27)))<| .nil) ⟨116,12,119,28⟩)<| .nil
noncomputable def B9(y:Lay)(g:Gd):SB ⟨X9 y,g⟩:= .cons (.ite (.lt (.lo 2 102 7) (.nt 0 102 12)) (.cons (.dead (.Raise (some (.Call (.Name "ValueError" (q 103 14 24)) [(.Constant (.str "lo must be non-negative") 0 (q 103 25 50))] [] (q 103 14 51))) .none (q 103 8 51)))<| .nil) .nil ⟨102,4,103,51⟩)<| .cons (.ite (.is (.lo 3 104 7) (.none 0 (q 104 13 17))) (.cons (.ag (.loc 3) 105 8 (.cl 0 105 13 [(.lo 0 105 17)]))<| .nil) .nil ⟨104,4,105,19⟩)<| .cons (.ite (.is (.lo 4 106 7) (.none 0 (q 106 14 18))) (.cons (.M6 (Ta y g) (Tb y g) ⟨107,8,112,28⟩)<| .nil) (.cons (.M6 (Pl y g) (Pm y g) ⟨114,8,119,28⟩)<| .nil) ⟨106,4,119,28⟩)<| .cons (.ret (.lo 2 120 11))<| .nil
noncomputable def Tc(y:Lay):Cx:=cx y ["a","x","lo","hi","key"] [] [15] true
noncomputable def UU(y:Lay)(g:Gd):SB ⟨Tc y,g⟩:= .cons (.ite (.is (.lo 4 122 7) (.none 0 (q 122 14 18))) (.cons (.ag (.loc 2) 123 8 (.cl 15 123 13 [(.lo 0 123 25),(.lo 1 123 28),(.lo 2 123 31),(.lo 3 123 35)]))<| .nil) (.cons (.ag (.loc 2) 125 8 (.pG 15 (q 125 13 24) [(.lo 0 125 25),(.SP 4 125 28 [(.lo 1 125 32)]),(.lo 2 125 36),(.lo 3 125 40)] "key" (.lo 4 125 48) (q 125 44 51) (q 125 13 52)))<| .nil) ⟨122,4,125,52⟩)<| .cons (.exp (.mt (.lo 0 126 4) .insert [(.lo 2 126 13),(.lo 1 126 17)]))<| .nil
noncomputable def qI(lt:Nat→Bool)(s:Nat×Nat):Nat×Nat:=cond (lt ((s.1+s.2) / 2)) ((s.1+s.2) / 2+1,s.2) (s.1,(s.1+s.2) / 2)
noncomputable def d8(lt:Nat→Bool)(s:Nat×Nat)(n:Nat):Nat×Nat:=n.rec s fun O x=>qI lt x
theorem pZ(lt:Nat→Bool)(s:Nat×Nat):∀n,d8 lt (qI lt s) n=qI lt (d8 lt s n)
 | 0=>rfl
 | n+1=>E8 (qI lt) (pZ lt s n)
theorem p0{lo hi:Nat}(h:lo<hi):lo≤(lo+hi) / 2∧(lo+hi) / 2<hi:=by omega
theorem mf{lt:Nat→Bool}{p H:Nat}:∀(m lo hi:Nat),hi≤lo+m→hi≤H→lo≤p→p≤hi→(∀j,lo≤j→j<hi→lt j=decide (j<p))→
  ∃n,(∀i,i<n→(d8 lt (lo,hi) i).1<(d8 lt (lo,hi) i).2∧(d8 lt (lo,hi) i).2≤H)∧d8 lt (lo,hi) n=(p,p):=by
 intro m
 induction m with
 | zero=>
  intro lo hi h _ h1 h2 _
  have e1:lo=p:=Zr h1 (E2 h2 h)
  have e2:hi=p:=Zr (E2 h h1) h2
  exact⟨0,fun i hi=>absurd hi (Zt i),by rw[e1,e2];rfl⟩
 | succ m ih=>
  intro lo hi h hH h1 h2 hl
  rcases Nat.lt_or_ge lo hi with dK | La
  ·obtain⟨a,b⟩:=p0 dK
   have hb:=hl _ a b
   have key:∃n,(∀i,i<n→(d8 lt (qI lt (lo,hi)) i).1<(d8 lt (qI lt (lo,hi)) i).2∧(d8 lt (qI lt (lo,hi)) i).2≤H)∧d8 lt (qI lt (lo,hi)) n=(p,p):=by
    show ∃n,(∀i,i<n→(d8 lt (cond (lt ((lo+hi) / 2)) ((lo+hi) / 2+1,hi) (lo,(lo+hi) / 2)) i).1<(d8 lt (cond (lt ((lo+hi) / 2)) ((lo+hi) / 2+1,hi) (lo,(lo+hi) / 2)) i).2∧(d8 lt (cond (lt ((lo+hi) / 2)) ((lo+hi) / 2+1,hi) (lo,(lo+hi) / 2)) i).2≤H)∧d8 lt (cond (lt ((lo+hi) / 2)) ((lo+hi) / 2+1,hi) (lo,(lo+hi) / 2)) n=(p,p)
    generalize(lo+hi) / 2=c at a b hb
    cases hc:lt c with
    | true=>
     rw[hc] at hb
     have Td:=Yr hb.symm
     exact ih (c+1) hi (by omega) hH Td h2 fun j h3 h4=>hl j (E2 a (Yg h3)) h4
    | false=>
     rw[hc] at hb
     have Td:=ZE.mp (of_decide_eq_false hb.symm)
     exact ih lo c (by omega) (E2 (YA b) hH) h1 Td fun j h3 h4=>hl j h3 (aar h4 b)
   obtain⟨n,k1,k2⟩:=key
   refine⟨n+1,fun i Q_=>?_,(pZ ..).symm.trans k2⟩
   cases i with
   | zero=>exact⟨dK,hH⟩
   | succ i=>have:=k1 i (Nat.lt_of_succ_lt_succ Q_);rw[pZ] at this;exact this
  ·exact⟨0,fun i hi=>absurd hi (Zt i),by rw[Zr h1 (E2 h2 La),Zr (E2 La h1) h2];rfl⟩
structure kz(g:Gd)(l:List AV)(key:RV)(ko:Os)(kf:AV→AV)(lt:Nat→Bool)(lo hi p:Nat):Prop where
 h0:lo≤p
 h1:p≤hi
 hh:hi≤l.length
 sz:l.length≤1000
 mono:∀j,lo≤j→j<hi→lt j=decide (j<p)
 key:∀g',uI g g'→9≤g'.n→∀(j:Nat) (y:AV),l[j]? =some y→Fn g' key [.v y] [] [] ko (.v (kf y)) ko
theorem kz.bO{l key ko kf lt lo hi p}(X:kz g l key ko kf lt lo hi p)(b:uI g g'):kz g' l key ko kf lt lo hi p:=⟨X.h0,X.h1,X.hh,X.sz,X.mono,fun SZ k=>X.key SZ (b.trans k)⟩
noncomputable def lG(a x key:RV)(s:Nat×Nat):Vs:=[some a,some x,some (.v (.int s.1)),some (.v (.int s.2)),some key,none]
noncomputable def F7(n:Bool)(l:List AV)(ko:Os)(kf:AV→AV)(lt:Nat→Bool)(s:Nat×Nat):Hint:= .v (l.getD ((s.1+s.2) / 2) .none)<| .call (.v (kf (l.getD ((s.1+s.2) / 2) .none))) ko<| .b (cond n (!(lt ((s.1+s.2) / 2))) (lt ((s.1+s.2) / 2)))<| .sp .nil .nil
theorem iM(a b:Nat):fdiv ((a:Int)+(b:Int)) ((2:Nat):Int)=(((a+b) / 2:Nat):Int):=by rw[← ab1,Z0 _ (by decide)];rfl
theorem zy{lt:Nat→Bool}{s:Nat×Nat}(h:lt ((s.1+s.2) / 2)=true):qI lt s=((s.1+s.2) / 2+1,s.2):=E8 (fun b=>cond b _ _) h
theorem zz{lt:Nat→Bool}{s:Nat×Nat}(h:lt ((s.1+s.2) / 2)=false):qI lt s=(s.1,(s.1+s.2) / 2):=E8 (fun b=>cond b _ _) h
section
variable {y:Lay}{g:Gd}{l:List AV}{kf:AV→AV}{lt:Nat→Bool}{x:AV}{fi:FI}{q:Str}{nm:Str}{w:AV}
theorem vP(s:Nat×Nat)(hl:l.length≤1000)(h0:s.1<s.2)(h1:s.2≤l.length)(R:RV→S→Prop)
  (hk:∀z,l[(s.1+s.2) / 2]? =some z→Fn g (.f fi q []) [.v z] [] [] [] (.v (kf z)) []∧gB (.v (kf z)) (.v x) (lt ((s.1+s.2) / 2))):
  (zw y g).tv ⟨lG (.v (.lst l)) (.v x) (.f fi q []) s,[],F7 false l [] kf lt s⟩ fun c s1=>c=true∧(zx y g).ex s1 fun f s3=>ca f (True∧aA s3 (lG (.v (.lst l)) (.v x) (.f fi q []) (qI lt s)) []) False fun v=>R v s3:=by
 have hm:=J3 (p0 h0).2 h1
 obtain⟨hk,hc⟩:=hk (l.getD ((s.1+s.2) / 2) .none) (by rw[N6 hm,N4,N6 hm];rfl)
 have hi:d5 l (fdiv ((s.1:Int)+(s.2:Int)) ((2:Nat):Int))=some (l.getD ((s.1+s.2) / 2) .none):=by rw[iM];exact fy (N3 _) (Yd.mpr hm)
 refine a6 (P:=_∧_∧_∧_∧_∧(lt ((fst s+snd s) / 2)=true→True∧aA (.mk ([some (.v (.lst l)),some (.v x),some (.v (.int (fdiv ((↑s.1:Int)+(↑s.2:Int)) ((2:Nat):Int)+(1:Int)))),some (.v (.int ↑s.2)),some (RV.f fi q []),some (.v (.int (fdiv ((↑s.1:Int)+(↑s.2:Int)) ((2:Nat):Int))))]) ([]) .nil) (lG (RV.v (.lst l)) (RV.v x) (RV.f fi q []) (qI lt s)) ([]))∧(lt ((fst s+snd s) / 2)=false→True∧aA (.mk ([some (.v (.lst l)),some (.v x),some (.v (.int ↑s.1)),some (.v (.int (fdiv ((↑s.1:Int)+(↑s.2:Int)) ((2:Nat):Int)))),some (RV.f fi q []),some (.v (.int (fdiv ((↑s.1:Int)+(↑s.2:Int)) ((2:Nat):Int))))]) ([]) .nil) (lG (RV.v (.lst l)) (RV.v x) (RV.f fi q []) (qI lt s)) ([])))
  ⟨Yw (Yd.mpr h0),sz hl rfl,hi,hk,hc,fun h=> ⟨trivial,by rw[iM,zy h];rfl⟩,fun h=> ⟨trivial,by rw[iM,zz h];rfl⟩⟩ (by kernel_rfl!)
theorem D0(s:Nat×Nat)(hl:l.length≤1000)(h0:s.1<s.2)(h1:s.2≤l.length)(R:RV→S→Prop)
  (hk:∀z,l[(s.1+s.2) / 2]? =some z→Fn g (.f fi q []) [.v z] [] [] [] (.v (kf z)) []∧gB (.v (kf z)) (.v x) (lt ((s.1+s.2) / 2))):
  (zw y g).tv ⟨lG (.r 0) (.v x) (.f fi q []) s,[(0,.list l)],F7 false l [] kf lt s⟩ fun c s1=>c=true∧(zx y g).ex s1 fun f s3=>ca f (True∧aA s3 (lG (.r 0) (.v x) (.f fi q []) (qI lt s)) [(0,.list l)]) False fun v=>R v s3:=by
 have hm:=J3 (p0 h0).2 h1
 obtain⟨hk,hc⟩:=hk (l.getD ((s.1+s.2) / 2) .none) (by rw[N6 hm,N4,N6 hm];rfl)
 have hi:d5 l (fdiv ((s.1:Int)+(s.2:Int)) ((2:Nat):Int))=some (l.getD ((s.1+s.2) / 2) .none):=by rw[iM];exact fy (N3 _) (Yd.mpr hm)
 refine a6 (P:=_∧_∧_∧_∧_∧(lt ((fst s+snd s) / 2)=true→True∧aA (.mk ([some (.r 0),some (.v x),some (.v (.int (fdiv ((↑s.1:Int)+(↑s.2:Int)) ((2:Nat):Int)+(1:Int)))),some (.v (.int ↑s.2)),some (RV.f fi q []),some (.v (.int (fdiv ((↑s.1:Int)+(↑s.2:Int)) ((2:Nat):Int))))]) ([(0,EO.list l)]) .nil) (lG (RV.r 0) (RV.v x) (RV.f fi q []) (qI lt s)) ([(0,EO.list l)]))∧(lt ((fst s+snd s) / 2)=false→True∧aA (.mk ([some (.r 0),some (.v x),some (.v (.int ↑s.1)),some (.v (.int (fdiv ((↑s.1:Int)+(↑s.2:Int)) ((2:Nat):Int)))),some (RV.f fi q []),some (.v (.int (fdiv ((↑s.1:Int)+(↑s.2:Int)) ((2:Nat):Int))))]) ([(0,EO.list l)]) .nil) (lG (RV.r 0) (RV.v x) (RV.f fi q []) (qI lt s)) ([(0,EO.list l)])))
  ⟨Yw (Yd.mpr h0),sz hl rfl,hi,hk,hc,fun h=> ⟨trivial,by rw[iM,zy h];rfl⟩,fun h=> ⟨trivial,by rw[iM,zz h];rfl⟩⟩ (by kernel_rfl!)
theorem D1(s:Nat×Nat)(hl:l.length≤1000)(h0:s.1<s.2)(h1:s.2≤l.length)(R:RV→S→Prop)
  (hk:∀z,l[(s.1+s.2) / 2]? =some z→Fn g (.f fi q [(nm,1)]) [.v z] [] [] [(1,.cell (some (.v w)))] (.v (kf z)) [(1,.cell (some (.v w)))]∧gB (.v (kf z)) (.v x) (lt ((s.1+s.2) / 2))):
  (zw y g).tv ⟨lG (.r 0) (.v x) (.f fi q [(nm,1)]) s,[(0,.list l),(1,.cell (some (.v w)))],F7 false l [(1,.cell (some (.v w)))] kf lt s⟩ fun c s1=>c=true∧(zx y g).ex s1 fun f s3=>ca f (True∧aA s3 (lG (.r 0) (.v x) (.f fi q [(nm,1)]) (qI lt s)) [(0,.list l),(1,.cell (some (.v w)))]) False fun v=>R v s3:=by
 have hm:=J3 (p0 h0).2 h1
 obtain⟨hk,hc⟩:=hk (l.getD ((s.1+s.2) / 2) .none) (by rw[N6 hm,N4,N6 hm];rfl)
 have hi:d5 l (fdiv ((s.1:Int)+(s.2:Int)) ((2:Nat):Int))=some (l.getD ((s.1+s.2) / 2) .none):=by rw[iM];exact fy (N3 _) (Yd.mpr hm)
 refine a6 (P:=_∧_∧_∧_∧_∧(lt ((fst s+snd s) / 2)=true→True∧aA (.mk ([some (.r 0),some (.v x),some (.v (.int (fdiv ((↑s.1:Int)+(↑s.2:Int)) ((2:Nat):Int)+(1:Int)))),some (.v (.int ↑s.2)),some (RV.f fi q [(nm,1)]),some (.v (.int (fdiv ((↑s.1:Int)+(↑s.2:Int)) ((2:Nat):Int))))]) ([(0,EO.list l),(1,EO.cell (some (.v w)))]) .nil) (lG (RV.r 0) (RV.v x) (RV.f fi q [(nm,1)]) (qI lt s)) ([(0,EO.list l),(1,EO.cell (some (.v w)))]))∧(lt ((fst s+snd s) / 2)=false→True∧aA (.mk ([some (.r 0),some (.v x),some (.v (.int ↑s.1)),some (.v (.int (fdiv ((↑s.1:Int)+(↑s.2:Int)) ((2:Nat):Int)))),some (RV.f fi q [(nm,1)]),some (.v (.int (fdiv ((↑s.1:Int)+(↑s.2:Int)) ((2:Nat):Int))))]) ([(0,EO.list l),(1,EO.cell (some (.v w)))]) .nil) (lG (RV.r 0) (RV.v x) (RV.f fi q [(nm,1)]) (qI lt s)) ([(0,EO.list l),(1,EO.cell (some (.v w)))])))
  ⟨Yw (Yd.mpr h0),sz hl rfl,hi,hk,hc,fun h=> ⟨trivial,by rw[iM,zy h];rfl⟩,fun h=> ⟨trivial,by rw[iM,zz h];rfl⟩⟩ (by kernel_rfl!)
theorem vQ(s:Nat×Nat)(hl:l.length≤1000)(h0:s.1<s.2)(h1:s.2≤l.length)(R:RV→S→Prop)
  (hk:∀z,l[(s.1+s.2) / 2]? =some z→Fn g (.f fi q []) [.v z] [] [] [] (.v (kf z)) []∧gB (.v x) (.v (kf z)) (!(lt ((s.1+s.2) / 2)))):
  (Pl y g).tv ⟨lG (.v (.lst l)) (.v x) (.f fi q []) s,[],F7 true l [] kf lt s⟩ fun c s1=>c=true∧(Pm y g).ex s1 fun f s3=>ca f (True∧aA s3 (lG (.v (.lst l)) (.v x) (.f fi q []) (qI lt s)) []) False fun v=>R v s3:=by
 have hm:=J3 (p0 h0).2 h1
 obtain⟨hk,hc⟩:=hk (l.getD ((s.1+s.2) / 2) .none) (by rw[N6 hm,N4,N6 hm];rfl)
 have hi:d5 l (fdiv ((s.1:Int)+(s.2:Int)) ((2:Nat):Int))=some (l.getD ((s.1+s.2) / 2) .none):=by rw[iM];exact fy (N3 _) (Yd.mpr hm)
 refine a6 (P:=_∧_∧_∧_∧_∧((!lt ((fst s+snd s) / 2))=true→True∧aA (.mk ([some (.v (.lst l)),some (.v x),some (.v (.int ↑s.1)),some (.v (.int (fdiv ((↑s.1:Int)+(↑s.2:Int)) ((2:Nat):Int)))),some (RV.f fi q []),some (.v (.int (fdiv ((↑s.1:Int)+(↑s.2:Int)) ((2:Nat):Int))))]) ([]) .nil) (lG (RV.v (.lst l)) (RV.v x) (RV.f fi q []) (qI lt s)) ([]))∧((!lt ((fst s+snd s) / 2))=false→True∧aA (.mk ([some (.v (.lst l)),some (.v x),some (.v (.int (fdiv ((↑s.1:Int)+(↑s.2:Int)) ((2:Nat):Int)+(1:Int)))),some (.v (.int ↑s.2)),some (RV.f fi q []),some (.v (.int (fdiv ((↑s.1:Int)+(↑s.2:Int)) ((2:Nat):Int))))]) ([]) .nil) (lG (RV.v (.lst l)) (RV.v x) (RV.f fi q []) (qI lt s)) ([])))
  ⟨Yw (Yd.mpr h0),sz hl rfl,hi,hk,hc,fun h=> ⟨trivial,by rw[iM,zz ((YM _).mp h)];rfl⟩,fun h=> ⟨trivial,by rw[iM,zy ((Bool.not_eq_false' _).mp h)];rfl⟩⟩ (by kernel_rfl!)
theorem L_(X:dy y g)(hn:10≤g.n){lo p:Nat}(Z:kz g l (.f fi q []) [] kf lt lo l.length p)(hc:∀(j:Nat) z,l[j]? =some z→gB (.v (kf z)) (.v x) (lt j)):
  Fn g (.v (.val (.ref (y.ad 11)))) [(.v (.lst l)),.v x,.v (.int lo)] ["key"] [.f fi q []] [] (.v (.int p)) []:=by
 obtain⟨n,hs,he⟩:=mf l.length lo l.length (YR ..) (N1 _) Z.h0 Z.h1 Z.mono
 have D:=X.DL 11 "bisect_left" (by decide)
 refine jg (Yg hn) X.nb D.1 (HL y) X.gx (Rp y) [(.v (.lst l)),.v x,.v (.int lo),.v .none,.f fi q []] 10
  (.b false<| .a<| .a<| .a<| .wh n (fun i=>lG (.v (.lst l)) (.v x) (.f fi q []) (d8 lt (lo,l.length) i)) (fun O=>[]) (fun i=>F7 false l [] kf lt (d8 lt (lo,l.length) i)) .nil)
  (more:=[]) (fun O=>by kernel_rfl!) (by kernel_rfl!) rfl
  (fun ρ bd F s vs kvs doc pm an d9 ct hk hv hG=>by
   obtain⟨o,n,t,ho,hd⟩:=D.2.d
   exact eR (ds:=[.none]) (HG:=[.none]) hv ⟨_,_,rfl,BJ _,rfl⟩ hG fun h1 h2=>by
    obtain⟨_,_,_,rfl⟩:=HD h1
    obtain⟨_,rfl⟩:=qY h2
    exact Y2 rfl (hk _ _ ho) hd rfl rfl) (by kernel_rfl!) (fun O=>by kernel_rfl!) (fun O h=>nomatch h) fun g' b=>?_
 have Z':=Z.bO b.bO
 have ws:=fun i h=>vP (y:=y) (g:=g') (R:=fun v s3=>cO (.ret v) s3 (.int p) []) (d8 lt (lo,l.length) i) Z.sz (hs i h).1 (E2 (hs i h).2 Z.hh) fun z hz=> ⟨Z'.key g' (.refl g') (by rw[b.n];exact Yj hn) _ z hz,hc _ z hz⟩
 refine a6 (P:=gB (RV.v (.int ↑lo)) (RV.v (.int 0)) false∧_∧EE ((fun(i:Nat)=>lG (RV.v (.lst l)) (RV.v x) (RV.f fi q []) (d8 lt (lo,length l) i)) 0) ((fun(x:Nat)=>[]) 0)∧_∧decide ((↑(fst (d8 lt (lo,length l) n)):Int)<(↑(snd (d8 lt (lo,length l) n)):Int))=false∧VI (.int (↑(fst (d8 lt (lo,length l) n)):Int)) (.int ↑p)∧rf ([]:Os))
  ⟨.inl ⟨_,_,rfl,rfl,Yk (YI.mpr (N3 lo))⟩,sz Z.sz rfl,rfl,ws,by rw[he];exact Yk (aaj _),by rw[he],rfl⟩ (by kernel_rfl!)
theorem HM(X:dy y g)(hn:10≤g.n){lo hi p:Nat}(Z:kz g l (.f fi q []) [] kf lt lo hi p)(hc:∀(j:Nat) z,l[j]? =some z→gB (.v (kf z)) (.v x) (lt j)):
  Fn g (.v (.val (.ref (y.ad 11)))) [(.v (.lst l)),.v x,.v (.int lo),.v (.int hi)] ["key"] [.f fi q []] [] (.v (.int p)) []:=by
 obtain⟨n,hs,he⟩:=mf hi lo hi (YR ..) (N1 _) Z.h0 Z.h1 Z.mono
 have D:=X.DL 11 "bisect_left" (by decide)
 refine jg (Yg hn) X.nb D.1 (HL y) X.gx (Rp y) [(.v (.lst l)),.v x,.v (.int lo),.v (.int hi),.f fi q []] 10
  (.b false<| .a<| .a<| .a<| .wh n (fun i=>lG (.v (.lst l)) (.v x) (.f fi q []) (d8 lt (lo,hi) i)) (fun O=>[]) (fun i=>F7 false l [] kf lt (d8 lt (lo,hi) i)) .nil)
  (more:=[]) (fun O=>by kernel_rfl!) (by kernel_rfl!) rfl
  (fun ρ bd F s vs kvs doc pm an d9 ct hk hv hG=>by
   obtain⟨o,n,t,ho,hd⟩:=D.2.d
   exact eR (ds:=[]) (HG:=[]) hv rfl hG fun h1 h2=>by
    obtain⟨_,_,_,_,rfl⟩:=HE h1
    obtain⟨_,rfl⟩:=qY h2
    exact Y2 rfl (hk _ _ ho) hd rfl rfl) (by kernel_rfl!) (fun O=>by kernel_rfl!) (fun O h=>nomatch h) fun g' b=>?_
 have Z':=Z.bO b.bO
 have ws:=fun i h=>vP (y:=y) (g:=g') (R:=fun v s3=>cO (.ret v) s3 (.int p) []) (d8 lt (lo,hi) i) Z.sz (hs i h).1 (E2 (hs i h).2 Z.hh) fun z hz=> ⟨Z'.key g' (.refl g') (by rw[b.n];exact Yj hn) _ z hz,hc _ z hz⟩
 refine a6 (P:=gB (RV.v (.int ↑lo)) (RV.v (.int 0)) false∧EE ((fun(i:Nat)=>lG (RV.v (.lst l)) (RV.v x) (RV.f fi q []) (d8 lt (lo,hi) i)) 0) ((fun(x:Nat)=>[]) 0)∧_∧decide ((↑(fst (d8 lt (lo,hi) n)):Int)<(↑(snd (d8 lt (lo,hi) n)):Int))=false∧VI (.int (↑(fst (d8 lt (lo,hi) n)):Int)) (.int ↑p)∧rf ([]:Os))
  ⟨.inl ⟨_,_,rfl,rfl,Yk (YI.mpr (N3 lo))⟩,rfl,ws,by rw[he];exact Yk (aaj _),by rw[he],rfl⟩ (by kernel_rfl!)
theorem HN(X:dy y g)(hn:10≤g.n){lo p:Nat}(Z:kz g l (.f fi q []) [] kf lt lo l.length p)(hc:∀(j:Nat) z,l[j]? =some z→gB (.v (kf z)) (.v x) (lt j)):
  Fn g (.v (.val (.ref (y.ad 11)))) [(.r 0),.v x,.v (.int lo),.v .none] ["key"] [.f fi q []] [(0,.list l)] (.v (.int p)) [(0,.list l)]:=by
 obtain⟨n,hs,he⟩:=mf l.length lo l.length (YR ..) (N1 _) Z.h0 Z.h1 Z.mono
 have D:=X.DL 11 "bisect_left" (by decide)
 refine jg (Yg hn) X.nb D.1 (HL y) X.gx (Rp y) [(.r 0),.v x,.v (.int lo),.v .none,.f fi q []] 10
  (.b false<| .a<| .a<| .a<| .wh n (fun i=>lG (.r 0) (.v x) (.f fi q []) (d8 lt (lo,l.length) i)) (fun O=>[(0,.list l)]) (fun i=>F7 false l [] kf lt (d8 lt (lo,l.length) i)) .nil)
  (more:=[]) (fun O=>by kernel_rfl!) (by kernel_rfl!) rfl
  (fun ρ bd F s vs kvs doc pm an d9 ct hk hv hG=>by
   obtain⟨o,n,t,ho,hd⟩:=D.2.d
   exact eR (ds:=[]) (HG:=[]) hv rfl hG fun h1 h2=>by
    obtain⟨_,_,_,_,rfl⟩:=HE h1
    obtain⟨_,rfl⟩:=qY h2
    exact Y2 rfl (hk _ _ ho) hd rfl rfl) (by kernel_rfl!) (fun O=>by kernel_rfl!) (fun O h=>nomatch h) fun g' b=>?_
 have Z':=Z.bO b.bO
 have ws:=fun i h=>D0 (y:=y) (g:=g') (R:=fun v s3=>cO (.ret v) s3 (.int p) [(0,.list l)]) (d8 lt (lo,l.length) i) Z.sz (hs i h).1 (E2 (hs i h).2 Z.hh) fun z hz=> ⟨Z'.key g' (.refl g') (by rw[b.n];exact Yj hn) _ z hz,hc _ z hz⟩
 refine a6 (P:=gB (RV.v (.int ↑lo)) (RV.v (.int 0)) false∧_∧EE ((fun(i:Nat)=>lG (RV.r 0) (RV.v x) (RV.f fi q []) (d8 lt (lo,length l) i)) 0) ((fun(x:Nat)=>[(0,EO.list l)]) 0)∧_∧decide ((↑(fst (d8 lt (lo,length l) n)):Int)<(↑(snd (d8 lt (lo,length l) n)):Int))=false∧VI (.int (↑(fst (d8 lt (lo,length l) n)):Int)) (.int ↑p)∧[(0,EO.list l)]=[(0,.list l)])
  ⟨.inl ⟨_,_,rfl,rfl,Yk (YI.mpr (N3 lo))⟩,sz Z.sz rfl,rfl,ws,by rw[he];exact Yk (aaj _),by rw[he],rfl⟩ (by kernel_rfl!)
noncomputable abbrev zA(l:List AV)(w:AV):=[(0,EO.list l),(1,EO.cell (some (.v w)))]
theorem HO(X:dy y g)(hn:10≤g.n){lo p:Nat}(Z:kz g l (.f fi q [(nm,1)]) [(1,.cell (some (.v w)))] kf lt lo l.length p)(hc:∀(j:Nat) z,l[j]? =some z→gB (.v (kf z)) (.v x) (lt j)):
  Fn g (.v (.val (.ref (y.ad 11)))) [(.r 0),.v x,.v (.int lo),.v .none] ["key"] [.f fi q [(nm,1)]] [(0,.list l),(1,.cell (some (.v w)))] (.v (.int p)) [(0,.list l),(1,.cell (some (.v w)))]:=by
 obtain⟨n,hs,he⟩:=mf l.length lo l.length (YR ..) (N1 _) Z.h0 Z.h1 Z.mono
 have D:=X.DL 11 "bisect_left" (by decide)
 refine jg (Yg hn) X.nb D.1 (HL y) X.gx (Rp y) [(.r 0),.v x,.v (.int lo),.v .none,.f fi q [(nm,1)]] 10
  (.b false<| .a<| .a<| .a<| .wh n (fun i=>lG (.r 0) (.v x) (.f fi q [(nm,1)]) (d8 lt (lo,l.length) i)) (fun O=>[(0,.list l),(1,.cell (some (.v w)))]) (fun i=>F7 false l [(1,.cell (some (.v w)))] kf lt (d8 lt (lo,l.length) i)) .nil)
  (more:=[]) (fun O=>by kernel_rfl!) (by kernel_rfl!) rfl
  (fun ρ bd F s vs kvs doc pm an d9 ct hk hv hG=>by
   obtain⟨o,n,t,ho,hd⟩:=D.2.d
   exact eR (ds:=[]) (HG:=[]) hv rfl hG fun h1 h2=>by
    obtain⟨_,_,_,_,rfl⟩:=HE h1
    obtain⟨_,rfl⟩:=qY h2
    exact Y2 rfl (hk _ _ ho) hd rfl rfl) (by kernel_rfl!) (fun O=>by kernel_rfl!) (fun O h=>nomatch h) fun g' b=>?_
 have Z':=Z.bO b.bO
 have ws:=fun i h=>D1 (y:=y) (g:=g') (R:=fun v s3=>cO (.ret v) s3 (.int p) [(0,.list l),(1,.cell (some (.v w)))]) (d8 lt (lo,l.length) i) Z.sz (hs i h).1 (E2 (hs i h).2 Z.hh) fun z hz=> ⟨Z'.key g' (.refl g') (by rw[b.n];exact Yj hn) _ z hz,hc _ z hz⟩
 refine a6 (P:=gB (RV.v (.int ↑lo)) (RV.v (.int 0)) false∧_∧EE ((fun(i:Nat)=>lG (RV.r 0) (RV.v x) (RV.f fi q [(nm,1)]) (d8 lt (lo,length l) i)) 0) ((fun(x:Nat)=> (zA l w)) 0)∧_∧decide ((↑(fst (d8 lt (lo,length l) n)):Int)<(↑(snd (d8 lt (lo,length l) n)):Int))=false∧VI (.int (↑(fst (d8 lt (lo,length l) n)):Int)) (.int ↑p)∧rf (zA l w))
  ⟨.inl ⟨_,_,rfl,rfl,Yk (YI.mpr (N3 lo))⟩,sz Z.sz rfl,rfl,ws,by rw[he];exact Yk (aaj _),by rw[he],rfl⟩ (by kernel_rfl!)
theorem L'(X:dy y g)(hn:10≤g.n){lo p:Nat}(Z:kz g l (.f fi q []) [] kf lt lo l.length p)(hc:∀(j:Nat) z,l[j]? =some z→gB (.v x) (.v (kf z)) (!(lt j))):
  Fn g (.v (.val (.ref (y.ad 9)))) [(.v (.lst l)),.v x,.v (.int lo)] ["key"] [.f fi q []] [] (.v (.int p)) []:=by
 obtain⟨n,hs,he⟩:=mf l.length lo l.length (YR ..) (N1 _) Z.h0 Z.h1 Z.mono
 have D:=X.DL 9 "bisect_right" (by decide)
 refine jg (Yg hn) X.nb D.1 (X9 y) X.gx (B9 y) [(.v (.lst l)),.v x,.v (.int lo),.v .none,.f fi q []] 10
  (.b false<| .a<| .a<| .a<| .wh n (fun i=>lG (.v (.lst l)) (.v x) (.f fi q []) (d8 lt (lo,l.length) i)) (fun O=>[]) (fun i=>F7 true l [] kf lt (d8 lt (lo,l.length) i)) .nil)
  (more:=[]) (fun O=>by kernel_rfl!) (by kernel_rfl!) rfl
  (fun ρ bd F s vs kvs doc pm an d9 ct hk hv hG=>by
   obtain⟨o,n,t,ho,hd⟩:=D.2.d
   exact eR (ds:=[.none]) (HG:=[.none]) hv ⟨_,_,rfl,BJ _,rfl⟩ hG fun h1 h2=>by
    obtain⟨_,_,_,rfl⟩:=HD h1
    obtain⟨_,rfl⟩:=qY h2
    exact Y2 rfl (hk _ _ ho) hd rfl rfl) (by kernel_rfl!) (fun O=>by kernel_rfl!) (fun O h=>nomatch h) fun g' b=>?_
 have Z':=Z.bO b.bO
 have ws:=fun i h=>vQ (y:=y) (g:=g') (R:=fun v s3=>cO (.ret v) s3 (.int p) []) (d8 lt (lo,l.length) i) Z.sz (hs i h).1 (E2 (hs i h).2 Z.hh) fun z hz=> ⟨Z'.key g' (.refl g') (by rw[b.n];exact Yj hn) _ z hz,hc _ z hz⟩
 refine a6 (P:=gB (RV.v (.int ↑lo)) (RV.v (.int 0)) false∧_∧EE ((fun(i:Nat)=>lG (RV.v (.lst l)) (RV.v x) (RV.f fi q []) (d8 lt (lo,length l) i)) 0) ((fun(x:Nat)=>[]) 0)∧_∧decide ((↑(fst (d8 lt (lo,length l) n)):Int)<(↑(snd (d8 lt (lo,length l) n)):Int))=false∧VI (.int (↑(fst (d8 lt (lo,length l) n)):Int)) (.int ↑p)∧rf ([]:Os))
  ⟨.inl ⟨_,_,rfl,rfl,Yk (YI.mpr (N3 lo))⟩,sz Z.sz rfl,rfl,ws,by rw[he];exact Yk (aaj _),by rw[he],rfl⟩ (by kernel_rfl!)
theorem HP(X:dy y g)(hn:10≤g.n){lo hi p:Nat}(Z:kz g l (.f fi q []) [] kf lt lo hi p)(hc:∀(j:Nat) z,l[j]? =some z→gB (.v x) (.v (kf z)) (!(lt j))):
  Fn g (.v (.val (.ref (y.ad 9)))) [(.v (.lst l)),.v x,.v (.int lo),.v (.int hi)] ["key"] [.f fi q []] [] (.v (.int p)) []:=by
 obtain⟨n,hs,he⟩:=mf hi lo hi (YR ..) (N1 _) Z.h0 Z.h1 Z.mono
 have D:=X.DL 9 "bisect_right" (by decide)
 refine jg (Yg hn) X.nb D.1 (X9 y) X.gx (B9 y) [(.v (.lst l)),.v x,.v (.int lo),.v (.int hi),.f fi q []] 10
  (.b false<| .a<| .a<| .a<| .wh n (fun i=>lG (.v (.lst l)) (.v x) (.f fi q []) (d8 lt (lo,hi) i)) (fun O=>[]) (fun i=>F7 true l [] kf lt (d8 lt (lo,hi) i)) .nil)
  (more:=[]) (fun O=>by kernel_rfl!) (by kernel_rfl!) rfl
  (fun ρ bd F s vs kvs doc pm an d9 ct hk hv hG=>by
   obtain⟨o,n,t,ho,hd⟩:=D.2.d
   exact eR (ds:=[]) (HG:=[]) hv rfl hG fun h1 h2=>by
    obtain⟨_,_,_,_,rfl⟩:=HE h1
    obtain⟨_,rfl⟩:=qY h2
    exact Y2 rfl (hk _ _ ho) hd rfl rfl) (by kernel_rfl!) (fun O=>by kernel_rfl!) (fun O h=>nomatch h) fun g' b=>?_
 have Z':=Z.bO b.bO
 have ws:=fun i h=>vQ (y:=y) (g:=g') (R:=fun v s3=>cO (.ret v) s3 (.int p) []) (d8 lt (lo,hi) i) Z.sz (hs i h).1 (E2 (hs i h).2 Z.hh) fun z hz=> ⟨Z'.key g' (.refl g') (by rw[b.n];exact Yj hn) _ z hz,hc _ z hz⟩
 refine a6 (P:=gB (RV.v (.int ↑lo)) (RV.v (.int 0)) false∧EE ((fun(i:Nat)=>lG (RV.v (.lst l)) (RV.v x) (RV.f fi q []) (d8 lt (lo,hi) i)) 0) ((fun(x:Nat)=>[]) 0)∧_∧decide ((↑(fst (d8 lt (lo,hi) n)):Int)<(↑(snd (d8 lt (lo,hi) n)):Int))=false∧VI (.int (↑(fst (d8 lt (lo,hi) n)):Int)) (.int ↑p)∧rf ([]:Os))
  ⟨.inl ⟨_,_,rfl,rfl,Yk (YI.mpr (N3 lo))⟩,rfl,ws,by rw[he];exact Yk (aaj _),by rw[he],rfl⟩ (by kernel_rfl!)
theorem HQ(X:dy y g)(hn:11≤g.n){p:Nat}(Z:kz g l (.f fi q []) [] kf lt 0 l.length p)(hx:∀g',uI g g'→9≤g'.n→Fn g' (.f fi q []) [.v x] [] [] [] (.v (kf x)) [])(hc:∀(j:Nat) z,l[j]? =some z→gB (.v (kf z)) (.v (kf x)) (lt j)):
  Fn g (.v (.val (.ref (y.ad 10)))) [.r 0,.v x] ["key"] [.f fi q []] [(0,.list l)] (.v .none) [(0,.list (l.take p++x::l.drop p))]:=by
 have D:=X.DL 10 "insort_left" (by decide)
 refine jg (YP (k:=2) hn) X.nb D.1 (Tc y) X.gx (UU y) [.r 0,.v x,.v (.int 0),.v .none,.f fi q []] 10
  (.a<| .call (.v (kf x)) []<| .call (.v (.int p)) [(0,.list l)] .nil)
  (more:=[]) (fun O=>by kernel_rfl!) (by kernel_rfl!) rfl
  (fun ρ bd F s vs kvs doc pm an d9 ct hk hv hG=>by
   obtain⟨o,n,t,ho,hd⟩:=D.2.d
   exact eR (ds:=[.int 0 t,.none]) (HG:=[.int 0,.none]) hv ⟨_,_,rfl,rj ..,_,_,rfl,BJ _,rfl⟩ hG fun h1 h2=>by
    obtain⟨_,_,rfl⟩:=L4 h1
    obtain⟨_,rfl⟩:=qY h2
    exact Y2 rfl (hk _ _ ho) hd rfl rfl) (by kernel_rfl!) (fun O=>by kernel_rfl!) (fun O h=>nomatch h) fun g' b=>?_
 have Ma:10≤g'.n:=by rw[b.n];exact Yj hn
 have f1:=hx g' b.bO (Yg Ma)
 have f2:=HN (X.bO b.bO) Ma (Z.bO b.bO) hc
 refine a6 (P:=_∧_∧_∧_∧length l≤1000000∧rf AV.none∧[(0,EO.list (take p l++x::drop p l))]=[(0,.list (take p l++x::drop p l))])
  ⟨f1,f2,N3 p,YH.mpr Z.h1,E2 Z.sz (by decide),rfl,rfl⟩ (by kernel_rfl!)
theorem HR(X:dy y g)(hn:11≤g.n){p:Nat}(Z:kz g l (.f fi q [(nm,1)]) [(1,.cell (some (.v w)))] kf lt 0 l.length p)(hx:∀g',uI g g'→9≤g'.n→Fn g' (.f fi q [(nm,1)]) [.v x] [] [] [(1,.cell (some (.v w)))] (.v (kf x)) [(1,.cell (some (.v w)))])(hc:∀(j:Nat) z,l[j]? =some z→gB (.v (kf z)) (.v (kf x)) (lt j)):
  Fn g (.v (.val (.ref (y.ad 10)))) [.r 0,.v x] ["key"] [.f fi q [(nm,1)]] [(0,.list l),(1,.cell (some (.v w)))] (.v .none) [(0,.list (l.take p++x::l.drop p)),(1,.cell (some (.v w)))]:=by
 have D:=X.DL 10 "insort_left" (by decide)
 refine jg (YP (k:=2) hn) X.nb D.1 (Tc y) X.gx (UU y) [.r 0,.v x,.v (.int 0),.v .none,.f fi q [(nm,1)]] 10
  (.a<| .call (.v (kf x)) [(1,.cell (some (.v w)))]<| .call (.v (.int p)) [(0,.list l),(1,.cell (some (.v w)))] .nil)
  (more:=[]) (fun O=>by kernel_rfl!) (by kernel_rfl!) rfl
  (fun ρ bd F s vs kvs doc pm an d9 ct hk hv hG=>by
   obtain⟨o,n,t,ho,hd⟩:=D.2.d
   exact eR (ds:=[.int 0 t,.none]) (HG:=[.int 0,.none]) hv ⟨_,_,rfl,rj ..,_,_,rfl,BJ _,rfl⟩ hG fun h1 h2=>by
    obtain⟨_,_,rfl⟩:=L4 h1
    obtain⟨_,rfl⟩:=qY h2
    exact Y2 rfl (hk _ _ ho) hd rfl rfl) (by kernel_rfl!) (fun O=>by kernel_rfl!) (fun O h=>nomatch h) fun g' b=>?_
 have Ma:10≤g'.n:=by rw[b.n];exact Yj hn
 have f1:=hx g' b.bO (Yg Ma)
 have f2:=HO (X.bO b.bO) Ma (Z.bO b.bO) hc
 refine a6 (P:=_∧_∧_∧_∧length l≤1000000∧rf AV.none∧[(0,EO.list (take p l++x::drop p l)),(1,EO.cell (some (.v w)))]=[(0,.list (take p l++x::drop p l)),(1,.cell (some (.v w)))])
  ⟨f1,f2,N3 p,YH.mpr Z.h1,E2 Z.sz (by decide),rfl,rfl⟩ (by kernel_rfl!)
end
end
end
section
section
section
variable {g:Gd}{F:FM}{C:Ctx}{ρ ρ':eJ}{env:Env}{M:Mem}{s:S}
def Pn(g:Gd)(fv:RV)(xs:List RV)(m:List Addr→Mem):Prop:= ∀(ρ:eJ) (vars:dL) (mem:Mem) (Q:AV→AS→Prop),(∀x d a:Addr,Q (.val (.ref x)) ⟨vars,m [x,d,a]++mem⟩)→b8 g (ah ρ fv) (xs.map (ah ρ)) [] [] ⟨vars,mem⟩ Q
def Po(s:S)(f:RV→(List Addr→Mem)→S→Prop):Prop:=s.h.casesOn False (fun O O=>False) (fun O O=>False) (fun O=>False) (fun O O=>False) (fun O O O O=>False)
 (fun x outs k=>outs.casesOn False fun p O=>p.2.casesOn (fun O=>False) (fun O=>False) (fun O=>False) fun O m=>f x m ⟨s.vs,s.os,k⟩) (fun O O O O O=>False) (fun O O O O O=>False) (fun O O O=>False)
theorem HS{f:RV→(List Addr→Mem)→S→Prop}{P:Prop}(h:Po s f)(k:∀x m k,f x m ⟨s.vs,s.os,k⟩→P):P:=by
 obtain⟨vs,os,h'⟩:=s
 cases h' with
 | call x outs k'=>cases outs with
  | nil=>exact h.elim
  | cons p r=>obtain⟨i,o⟩:=p;cases o with | any n m=>exact k x m k' h | _=>exact h.elim
 | _=>exact h.elim
theorem HT{k:Nat}{m:List Addr→Mem}{K:RV→S→Prop}(h:(s.off k&& (s.off (k+1)&&s.off (k+2)))=true)(q:K (.r k) ⟨s.vs,(k,.any 3 m)::s.os,s.h⟩)(x d a:Addr):
  PA C ρ M [k,k+1,k+2] K (.val (.ref x)) ⟨(tr C ρ M s).vars,m [x,d,a]++(tr C ρ M s).mem⟩:=by
 obtain⟨h0,h⟩:=E3.mp h
 obtain⟨h1,h2⟩:=E3.mp h
 have e:tr C (iS (iS (iS ρ k x) (k+1) d) (k+2) a) M s=tr C ρ M s:=(pq cK h2).trans ((pq cK h1).trans (pq cK h0))
 have n1:k+1≠k+2:=Yp (Y4 _)
 have n0:k≠k+1:=Yp (Y4 _)
 have n2:k≠k+2:=Yp (ZM (by decide))
 have r0:iS (iS (iS ρ k x) (k+1) d) (k+2) a k=x:=(cK _ n2).trans ((cK _ n0).trans (X6 rfl))
 have r1:iS (iS (iS ρ k x) (k+1) d) (k+2) a (k+1)=d:=(cK _ n1).trans (X6 rfl)
 have r2:iS (iS (iS ρ k x) (k+1) d) (k+2) a (k+2)=a:=X6 rfl
 have:=PA.mk (C:=C) (ρ:=ρ) (M:=M) (ids:=[k,k+1,k+2]) (ρ':=iS (iS (iS ρ k x) (k+1) d) (k+2) a) (rv:= .r k) (s:=⟨s.vs,(k,.any 3 m)::s.os,s.h⟩) (st:=⟨(tr C ρ M s).vars,m [x,d,a]++(tr C ρ M s).mem⟩)
  (fun j hj=>by
   simp only[J0,Y5,aaL,not_or] at hj
   rw[cK _ hj.2.2,cK _ hj.2.1,cK _ hj.1]) (by
   rw[← e]
   show Wk _ ⟨_,m [x,d,a]++_⟩ ⟨_,(m [_,_,_]++aI _ _)++M⟩
   rw[r0,r1,r2,Yc];exact Wk.refl) q
 have e3:ah (iS (iS (iS ρ k x) (k+1) d) (k+2) a) (.r k)= .val (.ref x):=E8 (fun z=>AV.val (.ref z)) r0
 rw[e3] at this
 exact this
noncomputable def SA.cls(k:Nat)(i:Nat)(fp:Pos)(es:List (SE C))(pos:Pos):SA C where
 e:= .Call (.Name (lD C.gx i).1 fp) (iV es) [] pos
 ids:=[k,k+1,k+2]
 sw:=true
 ev s K:=(SE.qU i fp:SE C).ev s fun f s1=>Ay es s1 fun xs s2=>Po s2 fun O m s3=>gT (s3.off k&& (s3.off (k+1)&&s3.off (k+2))) (Pn C.g f xs m∧K (.r k) ⟨s3.vs,(k,.any 3 m)::s3.os,s3.h⟩)
 ok {ρ env M s K} fr h:=gb (cA ((SE.qU i fp:SE C).ok fr h) fun f s1 h=>qV (gC fr pos h) fun xs s2 h=>HS h fun x m kk h=>by
  obtain⟨hc,hN,hK⟩:=aC h
  exact hN ρ (tr C ρ M s2).vars (tr C ρ M s2).mem _ (HT (s:=⟨s2.vs,s2.os,kk⟩) hc hK)) rfl (by rw[dE fr];rfl) (eo _ _)
 st _ _:=rfl
 sp _ _ _ _:=rfl
def Mt(g:Gd)(o:EO)(name:Str)(f:AV):Prop:= ∀(ρ:eJ) (k:Nat) (st:AS),(∀p∈o.mem ρ k,p∈st.mem)→gd g (.val (.ref (ρ k))) name f [.val (.ref (ρ k))] st
noncomputable def SE.vR(o:SE C)(name:Str)(ap:Pos)(es:List (SE C))(pos:Pos):SE C:=
 SE.M5 (.Call (.Attribute o.e name ap) (iV es) [] pos) (fun s K=>gT (o.ai&& (ap.endLine==pos.line)&&ble es.length 20) (o.ev s fun a s1=>mR a (fun k=>oR (dO k s1.os) fun ob=>hV s1 fun f s2=>Mt C.g ob name f∧Ay es s2 fun xs s3=>y8 C (.v f) (.r k::xs) [] [] s3 K) False)) true true
  (fun {ρ env M s K} fr h=>by
   obtain⟨hc,h⟩:=aC h
   rw[Yb,Yb] at hc
   refine eH (cA (G:=fun a st=>MC C.g env a name pos (iV es) st (PV C ρ M K)) (o.ok fr h) fun a s1 h=>jc (P:=fun a=>MC C.g env (ah ρ a) name pos (iV es) (tr C ρ M s1) (PV C ρ M K)) h (fun k h=>?_) False.elim) (o.fm.ab hc.1.1 _ _) (vz (fr:=fr) hc.2) hc.1.2 (by rw[dE fr];rfl) (eo _ _)
   obtain⟨ob,ho,h⟩:=dj h
   refine gj h fun f kk h=>gy (h.1 ρ k _ fun p hp=>Yn _ (dR ho p hp)) (qV (gC (s:=⟨s1.vs,s1.os,kk⟩) fr pos h.2) fun xs s3 h=>ph (fv:= .v f) (xs:= .r k::xs) (f_:=[]) h))
  (fun O=>rfl) ⟨fun O O=>rfl,fun O=>rfl,fun O O=>rfl,fun O O O O=>rfl,fun O O O O=>rfl⟩
end
end
end
section
theorem mg{α:Type}{x:α}{l:List α}(i:Nat)(h:mQ l i=some x):x∈l:=c_ h
theorem JU{b:Bool}{A B:Prop}(h:b=true)(hA:A):(if b=true then A else B):=(X6 h).symm▸hA
theorem JV{b:Bool}{A B:Prop}(h:b=false)(hB:B):(if b=true then A else B):=(X5 (h▸Yt)).symm▸hB
section
variable {g:Gd}{st:AS}
theorem p4(h:Q (.val (.type "str")) st):Wl g VR (fun vs=>call (.type "type") vs) [.str x] st Q:=lV (fun F s v r hv=>by obtain⟨t,rfl⟩:=hv;exact abm s x t) rfl h
theorem xS(h:Q (.val (.type "list")) st):Wl g VR (fun vs=>call (.type "type") vs) [.lst l] st Q:=lV (fun F s v r hv=>by obtain⟨a,i,n,rfl,e,_⟩:=hv;exact⟨_,r.hF _ _ e,rfl⟩) rfl h
theorem xT{a:Addr}(hm:(a,AO.list l)∈st.mem)(h:Q (.val (.type "list")) st):Wl g VR (fun vs=>call (.type "type") vs) [.val (.ref a)] st Q:=lV (fun F s v r hv=>by cases(hv:_=_);obtain⟨items,n,e,_⟩:=r.hm _ hm;exact⟨_,e,rfl⟩) rfl h
end
theorem p5(i:Nat){p:Str×GV}(h:(GX y)[i]? =some p):p∈GX y:=Yh h
noncomputable abbrev Wy(pN pV:Addr):List (Str×Value):=[("type",.type "type"),("str",.type "str"),("list",.type "list"),("_name_disallowed_re",.ref pN),("_value_disallowed_re",.ref pV)]
noncomputable def bw(x:Str):Bool:=nN yy x&&nN yz x&&decide (x.length<1000)
structure p7(g:Gd)(C N:Addr)(mN:Str→Option Value)(am:Nat→Addr)(pN pV d0:Addr):Prop where
 cls:vg g.K C N mN
 m0:mN (Str.ofString "__init__")=some (.ref (am 0))
 m1:mN (Str.ofString "_convert_string_type")=some (.ref (am 1))
 m7:mN (Str.ofString "get_all")=some (.ref (am 7))
 Pa:mN (Str.ofString "add_header")=some (.ref (am 16))
 mh:mN (Str.ofString "_headers")=none
 f0:FnAt g.K (am 0) (fm 0) (Str.ofString "Headers.__init__") (.ref d0) .none
 f1:FnAt g.K (am 1) (fm 1) (Str.ofString "Headers._convert_string_type") .none .none
 f7:FnAt g.K (am 7) (fm 7) (Str.ofString "Headers.get_all") .none .none
 Pb:FnAt g.K (am 16) (fm 16) (Str.ofString "Headers.add_header") .none .none
 fn:∀j,(j=0∨j=1∨j=7∨j=16)→∃o,g.K.f (am j)=some o∧o.cls= .type "function"
 d0:∃o n,g.K.f d0=some o∧o.data= .seq #[.none] n
 pn:xp g.K pN yy
 pv:xp g.K pV yz
 G:Gg g (Wy pN pV)
 sm:∃o,g.K.f sysModules=some o
theorem p7.bO{C N:Addr}{mN}{am:Nat→Addr}{pN pV d0:Addr}(H:p7 g C N mN am pN pV d0)(k:uI g g'):p7 g' C N mN am pN pV d0:=
 ⟨by rw[k.K];exact H.cls,H.m0,H.m1,H.m7,H.Pa,H.mh,by rw[k.K];exact H.f0,by rw[k.K];exact H.f1,by rw[k.K];exact H.f7,by rw[k.K];exact H.Pb,by rw[k.K];exact H.fn,by rw[k.K];exact H.d0,by rw[k.K];exact H.pn,by rw[k.K];exact H.pv,H.G.of k.gl k.bl,by rw[k.K];exact H.sm⟩
theorem io:typeLookup (.type "object") (Str.ofString "_headers")=pure none:=by rw[ZV,Zl];kernel_rfl
theorem t6:typeLookup (.type "object") (Str.ofString "_convert_string_type")=pure none:=by rw[ZV,Zl];kernel_rfl
theorem r8:typeLookup (.type "object") (Str.ofString "get_all")=pure none:=by rw[ZV,Zl];kernel_rfl
theorem HU:typeLookup (.type "object") (Str.ofString "add_header")=pure none:=by rw[ZV,Zl];kernel_rfl
theorem fM{C N:Addr}{mN}{am:Nat→Addr}{pN pV d0:Addr}(H:p7 g C N mN am pN pV d0)(hn:1≤g.n)(hx:bw x=true)(b:Bool)(self:AV)(mem:Mem)(Q:AV→Mem→Prop)(h:Q (.str x) mem):WC g (.val (.ref (am 1))) [self,.str x] [Str.ofString "name"] [.bool b] mem Q:=by
 refine oH hn H.f1 (fm 1).scope.names [self,.str x,.bool b] rfl rfl ?_ (by kernel_rfl!) ?_
 ·intro bd F s vs kvs doc pm an d9 ct _ hv hG
  obtain⟨v1,_,rfl,h1,v2,_,rfl,h2,h0⟩:=hv
  obtain⟨v3,_,rfl,h3,h4⟩:=hG
  cases(h0:_=_);cases(h4:_=_)
  exact⟨_,abf (by kernel_rfl!),⟨v1,_,rfl,h1,v2,_,rfl,h2,v3,_,rfl,h3,rfl⟩⟩
 ·intro g' L env bl e N' kd _
  have H':=H.bO bl.bO
  have G:=H'.G
  show W0 g' FR _ ⟨[(Str.ofString "self",some self),(Str.ofString "value",some (.str x)),(Str.ofString "name",some (.bool b)),(Str.ofString "regex",none)],mem⟩ _
  have ht:(Value.type "str" ==Value.type "str")=true:=rfl
  have XO:=H'.pn
  have XQ:=H'.pv
  unfold bw at hx
  rw[Yb,Yb,Yq] at hx
  obtain⟨⟨UV,XR⟩,XS⟩:=hx
  cases b
  ·refine ak (qO (aZ (gb (aD N' (mg 4 rfl) (Cj e G (mg 0 rfl) (aM (aD N' (mg 1 rfl) (gO e (mg 1 rfl) (aH (eI (p4 (aD N' (mg 5 rfl) (Cj e G (mg 1 rfl) (Ju (aX (JU ‹_› (ak (bC (kI (bE (aD N' (mg 2 rfl) (gO e (mg 2 rfl) (aX (Gn (aD N' (mg 7 rfl) (Cj e G (mg 4 rfl) (dp N' (mg 3 rfl) (j6 e (.there (.there (.there .here))) (bp (ak (qO (bE (eH (aD N' (mg 3 rfl) (gO e (mg 3 rfl) (gy (Jt ‹_›) (aM (aD N' (mg 1 rfl) (gO e (mg 1 rfl) (aH (bD (vk ‹_› (by omega) ‹_› (gA (Gn (bu (bp (ak ?_)))))))))) (by kernel_rfl!))))) (fun O=>by kernel_rfl!) (by kernel_rfl!) (by kernel_rfl!) (by kernel_rfl!) (.inr ⟨_,_,rfl,by kernel_rfl!⟩)) (by kernel_rfl!))))))))))))) (by kernel_rfl!))) (by kernel_rfl!))))))))))))) (by kernel_rfl!)))) (by kernel_rfl!) (by kernel_rfl!) (.inr ⟨_,_,rfl,by kernel_rfl!⟩)) (by kernel_rfl!)))
   refine kK (aD N' (mg 1 rfl) (gO e (mg 1 rfl) (oD (oD ?_))))
   exact⟨_,ZK _,h⟩
  ·refine ak (qO (aZ (gb (aD N' (mg 4 rfl) (Cj e G (mg 0 rfl) (aM (aD N' (mg 1 rfl) (gO e (mg 1 rfl) (aH (eI (p4 (aD N' (mg 5 rfl) (Cj e G (mg 1 rfl) (Ju (aX (JU ‹_› (ak (bC (kI (bE (aD N' (mg 2 rfl) (gO e (mg 2 rfl) (aX (Ci (aD N' (mg 6 rfl) (Cj e G (mg 3 rfl) (dp N' (mg 3 rfl) (j6 e (.there (.there (.there .here))) (bp (ak (qO (bE (eH (aD N' (mg 3 rfl) (gO e (mg 3 rfl) (gy (Jt ‹_›) (aM (aD N' (mg 1 rfl) (gO e (mg 1 rfl) (aH (bD (vk ‹_› (by omega) ‹_› (gA (Gn (bu (bp (ak ?_)))))))))) (by kernel_rfl!))))) (fun O=>by kernel_rfl!) (by kernel_rfl!) (by kernel_rfl!) (by kernel_rfl!) (.inr ⟨_,_,rfl,by kernel_rfl!⟩)) (by kernel_rfl!))))))))))))) (by kernel_rfl!))) (by kernel_rfl!))))))))))))) (by kernel_rfl!)))) (by kernel_rfl!) (by kernel_rfl!) (.inr ⟨_,_,rfl,by kernel_rfl!⟩)) (by kernel_rfl!)))
   refine kK (aD N' (mg 1 rfl) (gO e (mg 1 rfl) (oD (oD ?_))))
   exact⟨_,ZK _,h⟩
theorem HV{g:Gd}{d0:Addr}(D:∃o n,g.K.f d0=some o∧o.data= .seq #[.none] n){q:Str}:kO g (fm 0) q (.ref d0) .none [x] [] [] (dM (fm 0).scope.names [x,.none]):=by
 intro body F s vs kvs doc pm an d9 ct hk hv hG
 obtain⟨o,n,ho,hd⟩:=D
 obtain⟨v1,_,rfl,h1,h0⟩:=hv
 cases(h0:_=_);cases(hG:_=_)
 exact⟨[(Str.ofString "self",v1),(Str.ofString "headers",.none)],Y2 rfl (hk _ _ ho) hd rfl rfl,⟨v1,_,rfl,h1,.none,_,rfl,BJ _,rfl⟩⟩
theorem HW{g:Gd}{d0:Addr}(D:∃o n,g.K.f d0=some o∧o.data= .seq #[.none] n){q:Str}:kO g (fm 0) q (.ref d0) .none [x,y] [] [] (dM (fm 0).scope.names [x,y]):=by
 intro body F s vs kvs doc pm an d9 ct hk hv hG
 obtain⟨o,n,ho,hd⟩:=D
 obtain⟨v1,_,rfl,h1,v2,_,rfl,h2,h0⟩:=hv
 cases(h0:_=_);cases(hG:_=_)
 exact⟨[(Str.ofString "self",v1),(Str.ofString "headers",v2)],Y2 rfl (hk _ _ ho) hd rfl rfl,⟨v1,_,rfl,h1,v2,_,rfl,h2,rfl⟩⟩
theorem D2{C N:Addr}{mN}{am:Nat→Addr}{pN pV d0:Addr}(H:p7 g C N mN am pN pV d0)(hn:1≤g.n)(x dx:Addr)(mem:Mem)(Q:AV→Mem→Prop)(h:∀a,Q .none ((a,.list [])::(x,.shell C dx)::(dx,.inst .none [(Str.ofString "_headers",.val (.ref a))])::mem)):WC g (.val (.ref (am 0))) [.val (.ref x)] [] [] ((x,.shell C dx)::(dx,.inst .none [])::mem) Q:=by
 refine oH hn H.f0 [(Str.ofString "self",NameKind.local),(Str.ofString "headers",NameKind.local),(Str.ofString "k",NameKind.local),(Str.ofString "v",NameKind.local),(Str.ofString "type",globalImplicit),(Str.ofString "list",globalImplicit)] [.val (.ref x),.none] rfl rfl (HV H.d0) (by kernel_rfl!) fun g' L env bl e N' kd O=>?_
 have H':=H.bO bl.bO
 have G:=H'.G
 have ht:(!(Value.type "list" ==Value.type "list"))=false:=rfl
 have hX:=H'.cls
 refine ak (bC (kI (aZ (aD N' (mg 1 rfl) (gO e (mg 1 rfl) (tb (vf (aX (Gn (ki (aH (oB (E1 rfl) fun a=> (dp N' (mg 1 rfl) (j6 e (.there .here) (bp (ak (qO (aZ (gb (aD N' (mg 4 rfl) (Cj e G (mg 0 rfl) (aM (aD N' (mg 1 rfl) (gO e (mg 1 rfl) (aH (eI (xT (mg 0 rfl) (aD N' (mg 5 rfl) (Cj e G (mg 2 rfl) (CR (aX (JV ‹_› (bu (bp (ak (j_ (aD N' (mg 1 rfl) (gO e (mg 1 rfl) (aD N' (mg 0 rfl) (gO e (mg 0 rfl) ?_)))) (by kernel_rfl!))))))))))))))) (by kernel_rfl!)))) (by kernel_rfl!) (by kernel_rfl!) (.inr ⟨_,_,rfl,by kernel_rfl!⟩)) (by kernel_rfl!)))))))))))))))) (by kernel_rfl!))) (by kernel_rfl!))
 refine o0 hX H'.mh io (mg 1 rfl) (Upd.there (Upd.there Upd.here)) ?_
 refine bp (ak (qO (bE (iZ (aX (Ci (ak (uX (aD N' (mg 1 rfl) (gO e (mg 1 rfl) ?_)) (fun O=>by kernel_rfl!)))))) (by kernel_rfl!))))
 refine uY (u0 (mg 0 rfl)) trivial (fun i st=>st=⟨[(Str.ofString "self",some (AV.val (Value.ref x))),(Str.ofString "headers",some (AV.val (Value.ref a))),(Str.ofString "k",none),(Str.ofString "v",none)],(a,.list [])::(x,AO.shell C dx)::(dx,AO.inst Value.none [(Str.ofString "_headers",.val (.ref a))])::mem⟩) rfl ?_ ?_ ?_
 ·rintro i st rfl
  exact mg 0 rfl
 ·intro i y st hy
  simp at hy
 ·rintro st rfl
  refine bp (bu (bp (bu ?_)))
  exact⟨_,ZK _,h a⟩
noncomputable def dA(l:List (Str×Str)):List AV:=l.map fun p=> .tup [.str p.1,.str p.2]
theorem D3{C N:Addr}{mN}{am:Nat→Addr}{pN pV d0:Addr}(H:p7 g C N mN am pN pV d0)(hn:2≤g.n)(x dx:Addr)(l:List (Str×Str))(hl:∀p∈l,bw p.1=true∧bw p.2=true)(mem:Mem)(Q:AV→Mem→Prop)(h:Q .none ((x,.shell C dx)::(dx,.inst .none [(Str.ofString "_headers",.lst (dA l))])::mem)):WC g (.val (.ref (am 0))) [.val (.ref x),.lst (dA l)] [] [] ((x,.shell C dx)::(dx,.inst .none [])::mem) Q:=by
 refine oH (Yg hn) H.f0 [(Str.ofString "self",NameKind.local),(Str.ofString "headers",NameKind.local),(Str.ofString "k",NameKind.local),(Str.ofString "v",NameKind.local),(Str.ofString "type",globalImplicit),(Str.ofString "list",globalImplicit)] [.val (.ref x),.lst (dA l)] rfl rfl (HW H.d0) (by kernel_rfl!) fun g' L env bl e N' kd O=>?_
 have H':=H.bO bl.bO
 have G:=H'.G
 have ht:(!(Value.type "list" ==Value.type "list"))=false:=rfl
 have hX:=H'.cls
 have Pp:=H'.m1
 have BQ:=H'.fn 1 (.inr (.inl rfl))
 have Pq:=t6
 refine ak (bC (kI (aZ (aD N' (mg 1 rfl) (gO e (mg 1 rfl) (tb (xj (aX (Ci (aD N' (mg 1 rfl) (gO e (mg 1 rfl) (dp N' (mg 1 rfl) (j6 e (.there .here) (bp (ak (qO (aZ (gb (aD N' (mg 4 rfl) (Cj e G (mg 0 rfl) (aM (aD N' (mg 1 rfl) (gO e (mg 1 rfl) (aH (eI (xS (aD N' (mg 5 rfl) (Cj e G (mg 2 rfl) (CR (aX (JV ‹_› (bu (bp (ak (j_ (aD N' (mg 1 rfl) (gO e (mg 1 rfl) (aD N' (mg 0 rfl) (gO e (mg 0 rfl) ?_)))) (by kernel_rfl!))))))))))))))) (by kernel_rfl!)))) (by kernel_rfl!) (by kernel_rfl!) (.inr ⟨_,_,rfl,by kernel_rfl!⟩)) (by kernel_rfl!))))))))))))))) (by kernel_rfl!))) (by kernel_rfl!))
 refine o0 hX H'.mh io (mg 0 rfl) (Upd.there Upd.here) ?_
 refine bp (ak (qO (bE (iZ (aX (Ci (ak (uX (aD N' (mg 1 rfl) (gO e (mg 1 rfl) ?_)) (fun O=>by kernel_rfl!)))))) (by kernel_rfl!))))
 refine uY (oM _) trivial (fun i st=> ∃o1 o2,st=⟨[(Str.ofString "self",some (AV.val (Value.ref x))),(Str.ofString "headers",some (.lst (dA l))),(Str.ofString "k",o1),(Str.ofString "v",o2)],(x,AO.shell C dx)::(dx,AO.inst Value.none [(Str.ofString "_headers",.lst (dA l))])::mem⟩) ⟨_,_,rfl⟩ (fun O O O=>trivial) ?_ ?_
 ·rintro i y st hy ⟨o1,o2,rfl⟩
  obtain⟨p,hp,rfl⟩:∃p∈l,y= .tup [.str p.1,.str p.2]:=by
   have:=Yh hy
   unfold dA at this
   obtain⟨p,hp,e⟩:=N5.mp this
   exact⟨p,hp,e.symm⟩
  obtain⟨k1,k2⟩:=hl p hp
  refine fG (oS (dh (dp N' (mg 2 rfl) (j6 e (.there (.there .here)) (oS (dh (dp N' (mg 3 rfl) (j6 e (.there (.there (.there .here))) (yM (ak (kW (kM (aD N' (mg 0 rfl) (gO e (mg 0 rfl) (kN (mO hX (mg 0 rfl) (mg 1 rfl) Pp BQ (by kernel_rfl!) Pq) (aM (aD N' (mg 2 rfl) (gO e (mg 2 rfl) (aH (iZ ?_)))) (by kernel_rfl!))))) (fun O=>by kernel_rfl!) (by kernel_rfl!) (by kernel_rfl!) (by kernel_rfl!) (.inr ⟨_,_,rfl,by kernel_rfl!⟩)) (cH ‹_›) (by kernel_rfl!))))))) rfl)))) rfl) rfl rfl
  refine dD (fM H' (by rw[bl.n];omega) k1 true _ _ _ ?_)
  refine And.intro (.str _) (bp (ak (kW (kM (aD N' (mg 0 rfl) (gO e (mg 0 rfl) (kN (mO hX (mg 0 rfl) (mg 1 rfl) Pp BQ (by kernel_rfl!) Pq) (aM (aD N' (mg 3 rfl) (gO e (mg 3 rfl) (aH (iZ ?_)))) (by kernel_rfl!))))) (fun O=>by kernel_rfl!) (by kernel_rfl!) (by kernel_rfl!) (by kernel_rfl!) (.inr ⟨_,_,rfl,by kernel_rfl!⟩)) (cH ‹_›) (by kernel_rfl!))))
  refine dD (fM H' (by rw[bl.n];omega) k2 false _ _ _ ?_)
  refine And.intro (.str _) (bp (bu ?_))
  exact⟨_,_,rfl⟩
 ·rintro st ⟨o1,o2,rfl⟩
  refine bp (bu (bp (bu ?_)))
  exact⟨_,ZK _,h⟩
theorem D4{C N:Addr}{mN}{am:Nat→Addr}{pN pV d0:Addr}(H:p7 g C N mN am pN pV d0)(hn:2≤g.n){vars:dL}(h:∀a x dx,Q (.val (.ref x)) ⟨vars,(a,.list [])::(x,.shell C dx)::(dx,.inst .none [(Str.ofString "_headers",.val (.ref a))])::mem⟩):b8 g (.val (.ref C)) [] [] [] ⟨vars,mem⟩ Q:=
 rF (by omega) H.cls H.m0 (H.fn 0 (.inl rfl)) fun x dx vs=>D2 (H.bO rT) (by show 1≤g.n - 1;omega) x dx mem _ fun a=> ⟨rfl,h a x dx⟩
theorem D5{C N:Addr}{mN}{am:Nat→Addr}{pN pV d0:Addr}(H:p7 g C N mN am pN pV d0)(hn:3≤g.n){l:List (Str×Str)}(hl:∀p∈l,bw p.1=true∧bw p.2=true){vars:dL}(h:∀x dx,Q (.val (.ref x)) ⟨vars,(x,.shell C dx)::(dx,.inst .none [(Str.ofString "_headers",.lst (dA l))])::mem⟩):b8 g (.val (.ref C)) [.lst (dA l)] [] [] ⟨vars,mem⟩ Q:=
 rF (by omega) H.cls H.m0 (H.fn 0 (.inl rfl)) fun x dx vs=>D3 (H.bO rT) (by show 2≤g.n - 1;omega) x dx l hl mem _ ⟨rfl,h x dx⟩
noncomputable def bP(l:List (Str×Str))(nm:Str):List AV:=(l.filter fun p=>PySem.Txt.lower p.1==PySem.Txt.lower nm).map fun p=> .str p.2
noncomputable def vS(nm:Str):AV→Option AV
 | .tup [.str k,.str v]=>cond (PySem.Txt.lower k==nm) (some (.str v)) none
 | _=>none
theorem AP(l:List (Str×Str))(nm:Str):(dA l).filterMap (vS (PySem.Txt.lower nm))=bP l nm:=by
 unfold dA bP
 rw[aaK]
 induction l with
 | nil=>rfl
 | cons p l ih=>
  rw[Ys,Zz]
  simp only[Function.comp,vS]
  cases PySem.Txt.lower p.1==PySem.Txt.lower nm <;> simp[ih,Function.comp]
theorem kA(h:bw x=true):x.length<1000:=by
 unfold bw at h
 rw[Yb,Yq] at h
 exact h.2
theorem Mb{st:AS}{elt aF iter:Expr}{ifs:List Expr}{rest:List Comprehension}(h:W0 g VR (comprehension (.ListComp elt (⟨aF,iter,ifs,0⟩::rest) scope pos) scope env iter.pos (newList []) false (eval iter env) none) st Q):W0 g VR (eval (.ListComp elt (⟨aF,iter,ifs,0⟩::rest) scope pos) env) st Q:=h
theorem AQ(h:cJ a l mem):∀F w,VR F a w→handedOut w=pure w:=by
 cases h with
 | lst=>exact xt
 | mem=>exact o8
theorem HX(h:cJ a l mem){P:Prop}(k:∀cy,(∀st:AS,(∀p∈mem,p∈st.mem)→dw g a st st (fun O=>True) cy l)→(∀m,(∀p∈mem,p∈m)→cy m)→P):P:=by
 cases h with
 | lst=>exact k _ (fun st O=>oM _) fun O O=>trivial
 | mem hm=>exact k _ (fun st h=>u0 (h _ hm)) fun m h=>h _ hm
theorem p8{C N:Addr}{mN}{am:Nat→Addr}{pN pV d0:Addr}(H:p7 g C N mN am pN pV d0)(hn:2≤g.n){x dx:Addr}{l:List (Str×Str)}{Q:AV→Mem→Prop}(h1:(x,AO.shell C dx)∈mem)(h2:(dx,AO.inst .none [(Str.ofString "_headers",hv)])∈mem)(hL:cJ hv (dA l) mem)(t0:bw (PySem.Txt.lower nm)=true)(Mc:nm.length<1000)(hl:∀p∈l,p.1.length<1000)(hsz:l.length≤1000)(h:Q (.lst (bP l nm)) mem):WC g (.val (.ref (am 7))) [.val (.ref x),.str nm] [] [] mem Q:=by
 refine oH (Yg hn) H.f7 (fm 7).scope.names [.val (.ref x),.str nm] rfl rfl (fun bd F s vs kvs doc pm an d9 ct hk hv hG=>?_) (by kernel_rfl!) fun g' L env bl e N' kd O=>?_
 ·obtain⟨v1,_,rfl,h1,v2,_,rfl,h2,h0⟩:=hv
  cases(h0:_=_);cases(hG:_=_)
  exact⟨_,abf (by kernel_rfl!),⟨v1,_,rfl,h1,v2,_,rfl,h2,rfl⟩⟩
 have H':=H.bO bl.bO
 have hX:=H'.cls
 have small:∀ {n:Nat},n<1000→n≤5592405:=fun h=>E2 (YA h) (E1 rfl)
 have Ov:=E4 (L+1,AO.cell (some (.str nm))) h1
 have Wz:=E4 (L+1,AO.cell (some (.str nm))) h2
 show W0 g' FR _ ⟨[(Str.ofString "self",some (.val (.ref x)))],(L+1,.cell (some (.str nm)))::mem⟩ _
 refine ak (bC (kM (aD N' (mg 0 rfl) (gO e (mg 0 rfl) (kN (mO hX Ov Wz H'.m1 (H'.fn 1 (.inr (.inl rfl))) (by kernel_rfl!) t6) (aM (eH (aD N' (mg 1 rfl) (ldc e (mg 0 rfl) (mg 0 rfl) (gy (yP abb abc) (aH (bD (tF (small Mc) (aH (iZ ?_)))))))) (fun O=>by kernel_rfl!) (by kernel_rfl!) (by kernel_rfl!) (by kernel_rfl!) (.inl rfl)) (by kernel_rfl!))))) (fun O=>by kernel_rfl!) (by kernel_rfl!) (by kernel_rfl!) (by kernel_rfl!) (.inr ⟨_,_,rfl,by kernel_rfl!⟩)) (by kernel_rfl!))
 refine dD (fM H' (bl.n▸Nat.le_sub_of_add_le hn) t0 true _ _ _ ?_)
 refine dp N' (mg 1 rfl) (I8 e (mg 0 rfl) .here (bp (ak (kK (Mb (xb (oc:=none) e N' rfl (by kernel_rfl!) (by kernel_rfl!) (by kernel_rfl!) trivial (fun fq=>Jh _ _ _ _ _ _ fq) (fun O=>rfl) (CP (aD N' (mg 0 rfl) (gO e (mg 0 rfl) (rG hX (.tail _ h1) (.tail _ h2) rfl H'.mh io (AQ hL) ?_))) (by kernel_rfl!))))))))
 refine HX (g:=g') hL fun cy it j7=>?_
 refine⟨_,[],(L+1,AO.cell (some (.str (PySem.Txt.lower nm))))::mem,_,cy,dA l,it _ fun p hp=> .tail _ hp,trivial,fun C D a=>j7 _ fun p hp=> .tail _ (.tail _ hp),fun i=> ((dA l).take i).filterMap (vS (PySem.Txt.lower nm)),rfl,fun i y hy g2 WA C D bs e2 N2=>?_,?_⟩
 ·obtain⟨p,hp,rfl⟩:=N5.mp (Yh hy)
  have b6:(((dA l).take i).filterMap (vS (PySem.Txt.lower nm))).length≤sizeLine:=E2 (ZH ..) (E2 (abn ..) (by unfold dA;rw[E7];exact E2 hsz (E1 rfl)))
  rw[l8 hy]
  have ep:vS (PySem.Txt.lower nm) (.tup [.str p.1,.str p.2])=cond (PySem.Txt.lower p.1==PySem.Txt.lower nm) (some (.str p.2)) none:=rfl
  rw[ep]
  refine dh (dp N2 (mg 1 rfl) (j6 e2 (.there .here) (mJ (aZ (eH (w_sub (aD N2 (mg 1 rfl) (gO e2 (mg 1 rfl) (uN (hZ (kt (E1 rfl) rfl (gy (yP abb abc) (aH (bD (tF (small (hl p hp)) (aD N2 (mg 2 rfl) (Sd e2 (mg 0 rfl) (mg 1 rfl) (Jd (aX ?_))))))))) (fun O O=> ⟨_,rfl⟩)))))) (fun O=>by kernel_rfl!) (by kernel_rfl!) (by kernel_rfl!) (by kernel_rfl!) (.inl rfl)) (by kernel_rfl!)))))
  cases PySem.Txt.lower p.1==PySem.Txt.lower nm with
  | true=>
   refine w9 (w_sub (aD N2 (mg 1 rfl) (gO e2 (mg 1 rfl) (uN (hZ (kt (E1 rfl) rfl ?_) (fun O O=> ⟨_,rfl⟩))))))
   exact⟨_,_,.here,b6,u4 rfl (X_.mpr ⟨.inl rfl,X_.mpr ⟨.inl rfl,fun O h=>nomatch h⟩⟩) id fun p hp=> ⟨_,hp,.inl rfl⟩⟩
  | false=>
   show Wk _ _ (nM _ _ _ _ _ _ (_++ []))
   rw[YC]
   exact u4 rfl (X_.mpr ⟨.inl rfl,X_.mpr ⟨.inl rfl,fun O h=>nomatch h⟩⟩) id fun p hp=> ⟨_,hp,.inl rfl⟩
 ·rw[ZR,AP]
  refine oP ?_
  show Nx g' env [] (Ends mem Q) (.ret _) _
  exact oD ⟨_,Zw _ _,h⟩
theorem UW:bw (Str.ofString "")=true:=by decide+kernel
theorem Md{C N:Addr}{mN}{am:Nat→Addr}{pN pV d0:Addr}(H:p7 g C N mN am pN pV d0)(hn:2≤g.n){x dx a:Addr}{Q:AV→Mem→Prop}(h1:(x,AO.shell C dx)∈mem)(h2:(dx,AO.inst .none [(Str.ofString "_headers",.val (.ref a))])∈mem)(u:Upd mem a (.list l) (.list (l++ [.tup [.str nm,.str v]])) mem')(t0:bw nm=true)(hv:bw v=true)(hsz:l.length≤100000)(h:Q .none mem'):WC g (.val (.ref (am 16))) [.val (.ref x),.str nm,.str v] [] [] mem Q:=by
 refine Lc (Yg hn) H.Pb (Str.ofString "_params") [(Str.ofString "self",.val (.ref x)),(Str.ofString "_name",.str nm),(Str.ofString "_value",.str v)]
  (fun d=>[(Str.ofString "self",some (.val (.ref x))),(Str.ofString "_name",some (.str nm)),(Str.ofString "_value",some (.str v)),(Str.ofString "_params",some (.val (.ref d))),(Str.ofString "parts",none),(Str.ofString "k",none),(Str.ofString "v",none)])
  _ rfl (fun F s vs kvs doc pm an d9 ct hv hG=>?_) (fm 16).scope.names (by kernel_rfl!) (fun d=>by kernel_rfl!) (fun d=>by kernel_rfl!) (fun d=>by kernel_rfl!) (by kernel_rfl!) (fun g' L d env bl e N' kd O=>?_) rfl rfl rfl
 ·obtain⟨v1,_,rfl,h1,v2,_,rfl,h2,v3,_,rfl,h3,h0⟩:=hv
  cases(h0:_=_);cases(hG:_=_)
  exact⟨[(Str.ofString "self",v1),(Str.ofString "_name",v2),(Str.ofString "_value",v3)],by rfl,⟨v1,_,rfl,h1,v2,_,rfl,h2,v3,_,rfl,h3,rfl⟩⟩
 have H':=H.bO bl.bO
 show W0 g' FR _ ⟨[(Str.ofString "self",some (.val (.ref x))),(Str.ofString "_name",some (.str nm)),(Str.ofString "_value",some (.str v)),(Str.ofString "_params",some (.val (.ref d))),(Str.ofString "parts",none),(Str.ofString "k",none),(Str.ofString "v",none)],(d,.obj emptyDict)::mem⟩ _
 have hX:=H'.cls
 have Pp:=H'.m1
 have XT:=H'.mh
 have BQ:=H'.fn 1 (.inr (.inl rfl))
 have Pq:=t6
 have Te:=io
 have GT:=H'.sm
 have XU:=kA hv
 have XW:=u.mem
 refine ak (bC (ki (aH (oB (E1 rfl) fun pa=> (dp N' (mg 4 rfl) (j6 e (.there (.there (.there (.there .here)))) (bp (ak (qO (aZ (aD N' (mg 2 rfl) (gO e (mg 2 rfl) (tb (xk (aX (Ci (ak (bC (kM (aD N' (mg 0 rfl) (gO e (mg 0 rfl) (kN (mO hX (E4 _ (E4 _ ‹_›)) (E4 _ (E4 _ ‹_›)) Pp BQ (by kernel_rfl!) Pq) (aM (aD N' (mg 2 rfl) (gO e (mg 2 rfl) (aH (iZ ?_)))) (by kernel_rfl!))))) (fun O=>by kernel_rfl!) (by kernel_rfl!) (by kernel_rfl!) (by kernel_rfl!) (.inr ⟨_,_,rfl,by kernel_rfl!⟩)) (by kernel_rfl!))))))))) (by kernel_rfl!)))))))))) (by kernel_rfl!))
 refine dD (fM H' (by rw[bl.n];omega) hv false _ _ _ ?_)
 refine dp N' (mg 2 rfl) (j6 e (.there (.there .here)) (bp (ak (kW (eH (aD N' (mg 4 rfl) (gO e (mg 4 rfl) (gy (wZ (name:= "append") (mg 0 rfl) aaI aaJ) (aM (aD N' (mg 2 rfl) (gO e (mg 2 rfl) (aH (bD (kP .here (E1 rfl) (And.intro .none (bp (bu (bp (ak (uX (eH (aD N' (mg 3 rfl) (gO e (mg 3 rfl) (gy (Lb (mg 1 rfl)) (aH (bD (GS GT (mg 1 rfl) fun iv=>?_)))))) (fun O=>by kernel_rfl!) (by kernel_rfl!) (by kernel_rfl!) (by kernel_rfl!) (.inl rfl)) (fun O=>by kernel_rfl!)))))))))))) (by kernel_rfl!))))) (fun O=>by kernel_rfl!) (by kernel_rfl!) (by kernel_rfl!) (by kernel_rfl!) (.inr ⟨_,_,rfl,by kernel_rfl!⟩)) (cH ‹_›) (by kernel_rfl!)))))
 refine uY (vl (mg 0 rfl) (mg 2 rfl)) trivial (fun i st=>st=⟨[(Str.ofString "self",some (.val (.ref x))),(Str.ofString "_name",some (.str nm)),(Str.ofString "_value",some (.str v)),(Str.ofString "_params",some (.val (.ref d))),(Str.ofString "parts",some (.val (.ref pa))),(Str.ofString "k",none),(Str.ofString "v",none)],
  (iv,AO.obj (lX d))::(pa,AO.list [AV.str v])::(d,AO.obj emptyDict)::mem⟩) rfl ?_ ?_ ?_
 ·rintro i st rfl
  exact mg 2 rfl
 ·intro i y st hy
  simp at hy
 ·rintro st rfl
  refine bp (ak (kW (eH (CP (aD N' (mg 0 rfl) (gO e (mg 0 rfl) (rG hX (E4 _ (E4 _ (E4 _ ‹_›))) (E4 _ (E4 _ (E4 _ ‹_›))) rfl ‹_› ‹_› o8 (gy (wZ (name:= "append") (E4 _ (E4 _ (E4 _ ‹_›))) aaI aaJ) (aM (kJ (aM (kM (aD N' (mg 0 rfl) (gO e (mg 0 rfl) (kN (mO hX (E4 _ (E4 _ (E4 _ ‹_›))) (E4 _ (E4 _ (E4 _ ‹_›))) Pp BQ (by kernel_rfl!) Pq) (aM (aD N' (mg 1 rfl) (gO e (mg 1 rfl) (aH (iZ ?_)))) (by kernel_rfl!))))) (fun O=>by kernel_rfl!) (by kernel_rfl!) (by kernel_rfl!) (by kernel_rfl!) (.inr ⟨_,_,rfl,by kernel_rfl!⟩)) (by kernel_rfl!))) (by kernel_rfl!)))))) (by kernel_rfl!)) (fun O=>by kernel_rfl!) (by kernel_rfl!) (by kernel_rfl!) (by kernel_rfl!) (.inr ⟨_,_,rfl,by kernel_rfl!⟩)) (cH ‹_›) (by kernel_rfl!)))
  refine dD (fM H' (by rw[bl.n];omega) t0 true _ _ _ ?_)
  refine aM (eH (I7 (gy (yP PySem.F.slot_str_join PySem.F.type_str_join) (aM (aD N' (mg 4 rfl) (gO e (mg 4 rfl) (aH (bD (GU (mg 1 rfl) (by omega) (by decide+kernel) (aH (And.intro (E1 rfl) (aH (bD (kP (.there (.there (.there ‹_›))) (E2 hsz (E1 rfl)) (And.intro .none (bp (bu ?_))))))))))))) (by kernel_rfl!)))) (fun O=>by kernel_rfl!) (by kernel_rfl!) (by kernel_rfl!) (by kernel_rfl!) (.inr ⟨_,_,rfl,by kernel_rfl!⟩)) (by kernel_rfl!)
  refine⟨mem',?_,h⟩
  exact(Zw _ _).trans ((Zw _ _).trans (Zw _ _))
noncomputable def t7(l:List (Str×Str))(C:Addr)(as:List Addr):Mem:=match as with
 | [x,d,a]=>[(a,.list (dA l)),(x,.shell C d),(d,.inst .none [(Str.ofString "_headers",.val (.ref a))])]
 | _=>[]
noncomputable def fO(l:List (Str×Str))(C:Addr)(as:List Addr):Mem:=match as with
 | [x,d,_]=>[(x,.shell C d),(d,.inst .none [(Str.ofString "_headers",.lst (dA l))])]
 | _=>[]
theorem dy.hk(X:dy y g):p7 g (y.ad 100) y.N y.mN y.am (y.ad 102) (y.ad 103) y.d0:=
 ⟨X.l_.cls,X.l_.m0,X.l_.m1,X.l_.m7,X.l_.Pa,X.l_.mh,X.l_.f0,X.l_.f1,X.l_.f7,X.l_.Pb,X.l_.fn,X.l_.d0,X.l_.pn,X.l_.pv,(fun p hp=>by
  rcases J0.mp hp with rfl | hp
  ·exact X.gx ("type",.b .type) (p5 11 rfl)
  rcases J0.mp hp with rfl | hp
  ·exact X.gx ("str",.b .str) (p5 6 rfl)
  rcases J0.mp hp with rfl | hp
  ·exact X.gx ("list",.b .list) (p5 12 rfl)
  rcases J0.mp hp with rfl | hp
  ·exact X.gx ("_name_disallowed_re",.v (.ref (y.ad 102))) (p5 33 rfl)
  rcases J0.mp hp with rfl | hp
  ·exact X.gx ("_value_disallowed_re",.v (.ref (y.ad 103))) (p5 34 rfl)
  cases hp),X.l_.sm⟩
theorem Tf(X:dy y g)(hn:2≤g.n):Pn g (.v (.val (.ref (y.ad 100)))) [] (t7 [] (y.ad 100)):=fun ρ vars mem Q h=>D4 X.hk hn fun a x d=>h x d a
theorem Pr(X:dy y g)(hn:3≤g.n){l:List (Str×Str)}(hl:∀p∈l,bw p.1=true∧bw p.2=true):Pn g (.v (.val (.ref (y.ad 100)))) [.v (.lst (dA l))] (fO l (y.ad 100)):=fun ρ vars mem Q h=>D5 X.hk hn hl fun x d=>h x d 0
theorem WD(X:dy y g)(l:List (Str×Str)):Mt g (.any 3 (t7 l (y.ad 100))) "get_all" (.val (.ref (y.am 7))):=fun ρ k st h=>mO X.l_.cls (h _ (E4 _ E6)) (h _ (E4 _ (E4 _ E6))) X.l_.m7 (X.l_.fn 7 (.inr (.inr (.inl rfl)))) (by kernel_rfl!) r8
theorem Ps(X:dy y g)(l:List (Str×Str)):Mt g (.any 3 (t7 l (y.ad 100))) "add_header" (.val (.ref (y.am 16))):=fun ρ k st h=>mO X.l_.cls (h _ (E4 _ E6)) (h _ (E4 _ (E4 _ E6))) X.l_.Pa (X.l_.fn 16 (.inr (.inr (.inr rfl)))) (by kernel_rfl!) HU
theorem Pt(X:dy y g)(l:List (Str×Str)):Mt g (.any 3 (fO l (y.ad 100))) "get_all" (.val (.ref (y.am 7))):=fun ρ k st h=>mO X.l_.cls (h _ E6) (h _ (E4 _ E6)) X.l_.m7 (X.l_.fn 7 (.inr (.inr (.inl rfl)))) (by kernel_rfl!) r8
theorem Me(X:dy y g)(hn:2≤g.n){l:List (Str×Str)}(t0:bw (PySem.Txt.lower nm)=true)(Mc:nm.length<1000)(hl:∀p∈l,p.1.length<1000)(hsz:l.length≤1000):
  Fn g (.v (.val (.ref (y.am 7)))) [.r 0,.v (.str nm)] [] [] [(0,.any 3 (t7 l (y.ad 100)))] (.v (.lst (bP l nm))) [(0,.any 3 (t7 l (y.ad 100)))]:=fun ρ M=>
 p8 X.hk hn (x:=ρ 0) (dx:=ρ 1) (hv:= .val (.ref (ρ 2))) (l:=l) (E4 _ E6) (E4 _ (E4 _ E6)) (.mem E6) t0 Mc hl hsz ⟨rfl,rfl⟩
theorem zB(X:dy y g)(hn:2≤g.n){l:List (Str×Str)}(t0:bw (PySem.Txt.lower nm)=true)(Mc:nm.length<1000)(hl:∀p∈l,p.1.length<1000)(hsz:l.length≤1000):
  Fn g (.v (.val (.ref (y.am 7)))) [.r 0,.v (.str nm)] [] [] [(0,.any 3 (fO l (y.ad 100)))] (.v (.lst (bP l nm))) [(0,.any 3 (fO l (y.ad 100)))]:=fun ρ M=>
 p8 X.hk hn (x:=ρ 0) (dx:=ρ 1) (hv:= .lst (dA l)) (l:=l) E6 (E4 _ E6) (.lst _ _) t0 Mc hl hsz ⟨rfl,rfl⟩
theorem D6(X:dy y g)(hn:2≤g.n){l:List (Str×Str)}(t0:bw nm=true)(hv:bw v=true)(hsz:l.length≤1000):
  Fn g (.v (.val (.ref (y.am 16)))) [.r 0,.v (.str nm),.v (.str v)] [] [] [(0,.any 3 (t7 l (y.ad 100)))] (.v .none) [(0,.any 3 (t7 (l++ [(nm,v)]) (y.ad 100)))]:=fun ρ M=>
 Md X.hk hn (x:=ρ 0) (dx:=ρ 1) (a:=ρ 2) (l:=dA l) (E4 _ E6) (E4 _ (E4 _ E6)) Upd.here t0 hv (by unfold dA;rw[E7];exact E2 hsz (by decide)) ⟨rfl,by
  show _=(ρ 2,AO.list (dA (l++ [(nm,v)])))::_
  unfold dA;rw[N9];rfl⟩
end
section
section
noncomputable def BS(y:Lay):Cx:=JS y [("text",.cell),("pile",.local),("leaves",.local),("links",.local),("cut",.local),("size",.local),("sign",.local),("symbol",.local),("marks",.local)] [("text",.cell,10)] [3,32,0,21,20,19] true
noncomputable def JW(y:Lay):Cx:=⟨[(".0",.local),("n",.local),("EXACT_TOKEN_TYPES",.globalImplicit),("text",.free)],[".0","n"],[("text",.free,10)],[32],GX y,30,false,[]⟩
noncomputable def JX(y:Lay)(g:Gd):LC ⟨BS y,g⟩:=⟨JW y,fun g=> (.n (.loc 1) 305 32),fun g=>[(.isin (.get (.ce 0 305 47) (.fx .none (some (.lo 1 305 53)) .none)) (.gl 32 305 59))],fun g=> (.lo 1 305 26),[],rfl,rfl,fun O=>rfl,fun O=>rfl,fun O=>rfl⟩
noncomputable def D7(y:Lay)(g:Gd):SE ⟨BS y,g⟩:= .ne (.ce 0 304 10) (.st "" 304 18)
noncomputable def D8(y:Lay)(g:Gd):SB ⟨BS y,g⟩:= .cons (.ag (.loc 4) 305 8 (.cl 3 305 15 [(.add (.lst [(.nt 1 305 20)]) (.lc (JX y g) (.of (.tup [(.nt 2 305 38),(.nt 3 305 41)])) (q 305 25 77)))]))<| .cons (.mul [(.n (.loc 3) 306 8),(.n (.d7 0) 306 13)] 0 (q 306 8 17) [(.of (.add (.lo 3 306 21) (.lst [(.get (.ce 0 306 28) (.fx .none (some (.lo 4 306 34)) .none))]))),(.of (.get (.ce 0 306 42) (.fx (some (.lo 4 306 47)) .none .none)))] 0 (q 306 20 54) (q 306 8 54) (by kernel_rfl!))<| .nil
noncomputable def Pu(y:Lay):Cx:=cx y [".0","told"] [] [] false
noncomputable def vT(y:Lay)(g:Gd):LC ⟨BS y,g⟩:=⟨Pu y,fun g=> (.n (.loc 1) 309 70),fun g=>[],fun g=> (.y6 (.is (.lo 1 309 22) (.bool true 0 (q 309 30 34))) (.nt 1 309 17) (.y6 (.is (.lo 1 309 45) (.bool false 0 (q 309 53 58))) (.nt 0 309 40) (.nt 2 309 64))),[],rfl,rfl,fun O=>rfl,fun O=>rfl,fun O=>rfl⟩
noncomputable def p9(y:Lay)(g:Gd):TG ⟨BS y,g⟩:= .n (.loc 5) 307 8
noncomputable def p_(y:Lay)(g:Gd):SB ⟨BS y,g⟩:= .cons (.ag (.loc 6) 308 8 (.y6 (.isin (.lo 5 308 50) (.gl 32 308 58)) (.add (.get (.gl 32 308 17) (.lo 5 308 35)) (.int 201 0 (q 308 43 46))) (.y6 (.lo 5 308 102) (.add (.int 256 0 (q 308 81 84)) (.cl 0 308 87 [(.lo 1 308 91)])) (.nt 0 308 112))))<| .cons (.O8 7 (q 309 8 13) (vT y g) (.of (.tup [(.cl 21 309 79 [(.lo 6 309 85)]),(.cl 20 309 94 [(.lo 6 309 108)]),(.cl 19 309 117 [(.lo 6 309 128)])])) (q 309 16 137) (q 309 8 137))<| .cons (.ite (.eq (.lo 7 310 11) (.lst [(.nt 0 310 21),(.nt 1 310 24),(.nt 0 310 27)])) (.cons (.qW (.loc 0) (.loc 1) (q 311 12 16) (q 311 18 24) 0 (q 311 12 24) [(.add 31 (.lo 0 311 28) (.lst [(.cl 0 311 36 [(.lo 1 311 40)])]) (q 311 28 48)),(.of (.add (.lo 1 311 50) (.lst [(.lo 5 311 60)])))] 0 (q 311 27 66) (q 311 12 66) (by kernel_rfl!))<| .rn 31 30<| .nil) (.cons (.ite (.and (.eq (.lo 7 312 13) (.lst [(.nt 0 312 23),(.nt 0 312 26),(.nt 1 312 29)])) [(.eq (.lo 6 312 36) (.int 209 0 (q 312 46 49))),(.eq (.get (.lo 0 312 55) (.fx (some (.neg (.nt 4 312 61))) (some (.neg (.nt 3 312 64))) .none)) (.lst [(.int 208 0 (q 312 71 74))]))] (q 312 13 76)) (.cons (.qW (.loc 0) (.loc 2) (q 313 12 16) (q 313 18 23) 0 (q 313 12 23) [(.add 31 (.get (.lo 0 313 27) (.fx .none (some (.neg (.nt 4 313 34))) .none)) (.lst [(.add (.nt 6 313 40) (.cl 0 313 44 [(.lo 2 313 48)]))]) (q 313 27 55)),(.of (.add (.lo 2 313 57) (.lst [(.tup [(.get (.lo 0 313 67) (.neg (.nt 2 313 73))),(.get (.lo 0 313 77) (.neg (.nt 3 313 83))),(.get (.lo 0 313 87) (.neg (.nt 1 313 93)))])])))] 0 (q 313 26 98) (q 313 12 98) (by kernel_rfl!))<| .rn 31 30<| .nil) (.cons (.ite (.eq (.get (.lo 7 314 13) (.fx (some (.nt 1 314 19)) .none .none)) (.lst [(.nt 0 314 27),(.nt 1 314 30)])) (.cons (.exp (.mt (.lo 0 315 12) .append [(.get (.lst [(.lo 6 315 25),(.st "end" 315 33),(.st "none" 315 40)]) (.get (.lo 7 315 48) (.nt 0 315 54)))]))<| .nil) .nil ⟨314,8,315,58⟩)<| .nil) ⟨312,8,315,58⟩)<| .nil) ⟨310,8,315,58⟩)<| .nil
noncomputable def WE(y:Lay)(g:Gd):SB ⟨BS y,g⟩:= .cons (.mul [(.n (.loc 0) 303 4),(.n (.loc 1) 303 10),(.n (.loc 2) 303 18),(.n (.loc 3) 303 25)] 0 (q 303 4 28) [(.new 30 [] (q 303 32 34)),(.of (.lst [] (q 303 36 38))),(.of (.lst [] (q 303 40 42))),(.of (.lst [] (q 303 44 46)))] 0 (q 303 31 47) (q 303 4 47) (by kernel_rfl!))<| .cons (.M6 (D7 y g) (D8 y g) ⟨304,4,306,54⟩)<| .cons (.for (p9 y g) (.of (.add (.lo 3 307 16) (.lst [(.st "" 307 23)]))) (p_ y g) ⟨307,4,315,58⟩)<| .LS 0<| .cons (.ret (.tup [(.lo 0 316 12),(.lo 1 316 18),(.lo 2 316 26)]))<| .nil
noncomputable def ci(es:Array DictEntry)(x:Str):Bool:=(bo es x).isSome
structure Mf(es:Array DictEntry):Prop where
 codes:∀x v,bo es x=some v→∃c t,v= .int c t∧7≤c∧c≤54
 UX:bo es ⟨#[]⟩=none
noncomputable def zC(es:Array DictEntry)(S:Str):List Int:=1::([2,3].filter fun n:Int=>ci es (bB S n.toNat))
noncomputable def cutSize(es:Array DictEntry)(S:Str):Nat:=if ci es (bB S 3) then 3 else if ci es (bB S 2) then 2 else 1
theorem HY(es:Array DictEntry)(S:Str){M:Int}(h1:M∈zC es S)(h2:∀a∈zC es S,a≤M):M=cutSize es S:=by
 unfold zC cutSize at*
 cases h3:ci es (bB S 3) <;> cases h4:ci es (bB S 2) <;> simp[filter,h3,h4] at h1 h2 ⊢ <;> omega
noncomputable def bf:List Str→Str
 | []=> ⟨#[]⟩
 | x::r=>x++bf r
theorem D9(S:Str):(S !=Str.ofString "")=decide (S.length≠0):=by
 have e:Str.ofString "" =⟨#[]⟩:=rfl
 rw[e]
 by_cases h:S.length=0
 ·have:S=⟨#[]⟩:=by
   obtain⟨c⟩:=S
   have h':c.size=0:=h
   rw[Array.size_eq_zero_iff.mp h']
  subst this
  rfl
 ·have:S≠⟨#[]⟩:=fun e=>h (by rw[e];rfl)
  simp[h,this]
noncomputable def AR(es:Array DictEntry)(S:Str)(y:AV):Option AV:=cond (ci es (bB S (gk y).toNat)) (some (.int (gk y))) none
theorem D_(es:Array DictEntry)(S:Str): [AV.int 2,AV.int 3].filterMap (AR es S)=([2,3].filter fun n:Int=>ci es (bB S n.toNat)).map AV.int:=by
 simp only[Ys,abD,AR,gk,Zz,List.filter_nil]
 cases ci es (bB S (toNat 2)) <;> cases ci es (bB S (toNat 3)) <;> rfl
set_option genInjectivity true in
inductive PE where
 | num (i:Int)
 | fin
 deriving DecidableEq,Inhabited
noncomputable def PE.pd:PE→PyData
 | .num i=> .int i
 | .fin=> .str (Str.ofString "end")
noncomputable def PE.av:PE→AV
 | .num i=> .int i
 | .fin=> .str (Str.ofString "end")
theorem PE.pS:∀x:PE,qT x.pd=x.av
 | .num i=>rfl
 | .fin=>rfl
noncomputable def cL(t:PE×PE×PE):AV:= .tup [t.1.av,t.2.1.av,t.2.2.av]
structure bR where
 aE:List PE
 af:List Str
 links:List (PE×PE×PE)
noncomputable def dB(aE:List PE):Bool:=decide (4≤aE.length)&&decide (aE.getD (aE.length - 4) .fin= .num 208)
noncomputable def aK(es:Array DictEntry)(s:bR)(t:Str):bR:=
 match bo es t with
 | some (.int c _)=>if(c+201==209)&&dB s.aE then
   ⟨s.aE.take (s.aE.length - 4)++ [.num (6+s.links.length)],s.af,s.links++ [(s.aE.getD (s.aE.length - 2) .fin,s.aE.getD (s.aE.length - 3) .fin,s.aE.getD (s.aE.length - 1) .fin)]⟩
  else⟨s.aE++ [.num (c+201)],s.af,s.links⟩
 | _=>if t.length=0 then⟨s.aE++ [.fin],s.af,s.links⟩ else⟨s.aE++ [.num s.af.length],s.af++ [t],s.links⟩
noncomputable def aQ(es:Array DictEntry)(toks:List Str)(n:Nat):bR:=((toks++ [(⟨#[]⟩:Str)]).take n).foldl (aK es) ⟨[],[],[]⟩
theorem dc(l:List Int):kU (l.map .int)=l.map .int∧noDicts (l.map PyData.int)=true∧canLayAll0 (l.map .int)=true∧depthAll (l.map .int)=0:=by
 induction l with
 | nil=>exact⟨rfl,rfl,rfl,rfl⟩
 | cons x r ih=>
  obtain⟨h1,h2,h3,h4⟩:=ih
  refine⟨E8 (AV.int x:: ·) h1,?_,?_,?_⟩
  ·simp only[Ye,noDicts,noDict,h2];rfl
  ·simp only[Ye,canLayAll0,canLay0,h3];rfl
  ·simp only[Ye,depthAll,depth,h4];rfl
theorem nZ(l:List Int):shaped (.list (l.map .int))=true:=by
 unfold shaped
 simp only[canLay0,(dc l).2.2.1,depth,(dc l).2.2.2];rfl
theorem qa:∀a b:List Int,eqvAll (a.map .int) (b.map .int)=decide (a=b)
 | [],[]=>rfl
 | [],_::_=>rfl
 | _::_,[]=>rfl
 | x::r,y::s=>by
  simp only[Ye,eqvAll,eqv,qa r s,ab0]
  rw[Zs,Yb,Y1,Yq,Yq]
theorem r9{xs ys:List Int}:dS (.lst (xs.map .int)) (.lst (ys.map .int)) (decide (xs=ys)):=
 ⟨.list (xs.map .int),.list (ys.map .int),cf (dc xs).1.symm,cf (dc ys).1.symm,(dc xs).2.1,(dc ys).2.1,nZ xs,nZ ys,qa xs ys⟩
theorem xU{xs ys:List Int}:vw (xs.map .int) (.lst (ys.map .int)) (decide (xs=ys)):=
 ⟨xs.map .int,.list (ys.map .int),(dc xs).1.symm,cf (dc ys).1.symm,(dc xs).2.1,(dc ys).2.1,nZ xs,nZ ys,qa xs ys⟩
theorem D'{l:List AV}{k:Nat}(h1:1≤k)(h2:k≤l.length)(hx:l[l.length - k]? =some x):d5 l (-(k:Int))=some x:=by
 have:seqIndex? (-(k:Int)) l.length=some (l.length - k):=by
  unfold seqIndex?
  simp only[show(-(k:Int))<0 by omega,ZB]
  rw[X6 (by simp only[Yb,Yq];omega)]
  congr 1
  omega
 unfold d5
 rw[this];exact hx
noncomputable def fQ(x:AV):Option AV:=x.casesOn none (fun b=>some (.int (cond b 1 0))) (fun O=>none) (fun O=>none) (fun O=>none) (fun O=>none) (fun O=>none) (fun O=>none) (fun O O O=>none) (fun O O O=>none) (fun O O O=>none)
theorem m5{es:Array DictEntry}{toks:List Str}{i:Nat}(h:(toks++ [(⟨#[]⟩:Str)])[i]? =some t):aQ es toks (i+1)=aK es (aQ es toks i) t:=by
 unfold aQ
 rw[Zi,h,ZL]
 rfl
theorem vU(es:Array DictEntry)(s:bR)(t:Str)(n:Nat)(h:s.aE.length≤n∧s.af.length≤n∧s.links.length≤n):(aK es s t).aE.length≤n+1∧(aK es s t).af.length≤n+1∧(aK es s t).links.length≤n+1:=by
 unfold aK
 repeat' split
 all_goals (simp only[N8,YS,Yy,aaD];omega)
theorem qb(es:Array DictEntry)(toks:List Str):∀i,(aQ es toks i).aE.length≤i∧(aQ es toks i).af.length≤i∧(aQ es toks i).links.length≤i
 | 0=>by simp[aQ]
 | i+1=>by
  have ih:=qb es toks i
  cases h:(toks++ [(⟨#[]⟩:Str)])[i]? with
  | none=>
   have:aQ es toks (i+1)=aQ es toks i:=by
    unfold aQ
    rw[Zi,h];simp
   rw[this];omega
  | some t=>rw[m5 h];exact vU es _ t i ih
theorem Tg:(Str.ofString "")=(⟨#[]⟩:Str):=rfl
theorem WF:∀n:Nat,n<4→sliceBounds (some (-4)) (some (-3)) none n=(0,0,1):=by decide
theorem HZ(p:List PE):dS (.lst (aS (p.map PE.av) (some (-4)) (some (-3)) none)) (.lst [.int 208]) (dB p):=by
 by_cases h4:4≤p.length
 ·obtain⟨x,hx⟩:∃x,p[p.length - 4]? =some x:=⟨_,N6 (by omega)⟩
  have WG:p.getD (p.length - 4) .fin=x:=by rw[N4,hx];rfl
  have GI:aS (p.map PE.av) (some (-4)) (some (-3)) none=kU [x.pd]:=by
   rw[Ao _ (by decide) (by decide) (by rw[E7];omega) (by decide)]
   have e1:(((p.map PE.av).length:Int)+ -4).toNat=p.length - 4:=by rw[E7];omega
   have e2:((-3:Int) - -4).toNat=1:=rfl
   rw[e1,e2]
   apply List.ext_getElem?
   intro k
   rw[List.getElem?_take,abC,Yi]
   cases k with
   | zero=>simp[hx,kU,PE.pS]
   | succ k=>simp[kU]
  refine⟨.list [x.pd],.list [.int 208],by rw[GI];rfl,rfl,by cases x <;> rfl,rfl,?_,by decide+kernel,?_⟩
  ·cases x with
   | num z=>rfl
   | fin=>decide+kernel
  ·unfold dB
   rw[WG,Yw h4,Bool.true_and]
   cases x with
   | num z=>
    simp only[PE.pd,eqv,eqvAll,Bool.and_true,PE.num.injEq]
    rw[Zs,Y1,Yq]
   | fin=>rfl
 ·have GI:aS (p.map PE.av) (some (-4)) (some (-3)) none=[]:=by
   rw[ea _ (some (-4)) (some (-3)) 0 0 (by rw[E7];exact WF _ (not_le.mp h4))]
   rfl
  rw[GI]
  have:dB p=false:=by unfold dB;rw[Yk h4];rfl
  rw[this]
  exact⟨.list [],.list [.int 208],rfl,rfl,rfl,rfl,by decide+kernel,by decide+kernel,rfl⟩
section
variable {y:Lay}{g:Gd}
noncomputable def M8(toks:List Str)(i:Nat):Vs:=[some (.r 30),some (.v (.lst [])),some (.v (.lst [])),some (.v (.lst ((toks.take i).map .str))),none,none,none,none]
noncomputable def H0(tx:Str):Os:=[(30,.list []),(10,.cell (some (.v (.str tx))))]
noncomputable def UY(es:Array DictEntry)(tx:Str)(z:AV):Hint:= .b (ci es (bB tx (gk z).toNat)) (.sp .nil .nil)
noncomputable def Th(es:Array DictEntry)(tx:Str):Hint:= .a<| .f (AR es tx) (UY es tx)<| .v (.lst (([2,3].filter fun n:Int=>ci es (bB tx n.toNat)).map .int))<| .v (.int (cutSize es tx)) .nil
theorem Mg(X:dy y g)(tx:Str)(hS:tx.length≤1000):(JX y g).turn (H0 tx) (AR y.es tx) (UY y.es tx) [.int 2,.int 3]:=fun g' b z hz=>by
 obtain⟨k,WH,rfl⟩:∃k:Int,0≤k∧z= .int k:=by
  rcases J0.mp hz with rfl | hz
  ·exact⟨2,by decide,rfl⟩
  ·exact⟨3,by decide,X8.mp hz⟩
 refine a6 (P:=_∧_∧rL (Ctx.mk (JW y) g') (bB tx (toNat k)) (AV.val (Value.ref (y.ad 101))) (ci (y.es) (bB tx (toNat k)))∧(ci (y.es) (bB tx (toNat k))=true→AR (y.es) tx (AV.int k)=some (.int k)∧rf (H0 tx))∧(ci (y.es) (bB tx (toNat k))=false→AR (y.es) tx (AV.int k)=none∧rf (H0 tx)))
  ⟨WH,sz hS rfl,⟨_,_,_,rfl,(X.bO b.bO).tab,rfl⟩,fun h=> ⟨(E8 (fun c=>cond c (some (AV.int k)) none) h:_=cond true _ _),rfl⟩,fun h=> ⟨(E8 (fun c=>cond c (some (AV.int k)) none) h:_=cond false _ _),rfl⟩⟩ (by kernel_rfl!)
theorem H1(X:dy y g)(toks:List Str)(i:Nat)(t:Str)(ht:toks[i]? =some t)(b6:toks.length≤100)(fY:(bf (toks.drop i)).length≠0)(hsz:(bf (toks.drop i)).length≤1000)
  (c1:bB (bf (toks.drop i)) (cutSize y.es (bf (toks.drop i)))=t) (c2:gR (bf (toks.drop i)) (cutSize y.es (bf (toks.drop i)))=bf (toks.drop (i+1))) (R:RV→S→Prop):
  (D7 y g).tv ⟨M8 toks i,H0 (bf (toks.drop i)),Th y.es (bf (toks.drop i))⟩ fun c s1=>c=true∧(D8 y g).ex s1 fun f s3=>ca f (True∧aA s3 (M8 toks (i+1)) (H0 (bf (toks.drop (i+1))))) False fun v=>R v s3:=by
 rw[← c2]
 generalize bf (toks.drop i)=tx at fY hsz c1
 have e:(toks.take i).map AV.str++ [.str (bB tx (cutSize y.es tx))]=(toks.take (i+1)).map AV.str:=by rw[c1,Zi,ht,N9];rfl
 have WI:(([2,3].filter fun n:Int=>ci y.es (bB tx n.toNat)).map AV.int).length≤2:=az (aas _ _)
 refine a6 (P:=_∧SL [AV.int 2,.int 3]∧_∧_∧length [AV.int 1]+length (map AV.int (filter (fun(n:Int)=>ci (y.es) (bB tx (toNat n))) [2,3]))≤sizeLine∧Dg ([AV.int 1]++map AV.int (filter (fun(n:Int)=>ci (y.es) (bB tx (toNat n))) [2,3])) (AV.int (↑(cutSize (y.es) tx):Int))∧0≤(↑(cutSize (y.es) tx):Int)∧_∧length (map AV.str (take i toks))+length [AV.str (bB tx (cutSize (y.es) tx))]≤sizeLine∧0≤(↑(cutSize (y.es) tx):Int)∧_∧True∧aA (.mk ([some (.r 30),some (.v (.lst [])),some (.v (.lst [])),some (.v (.lst (map AV.str (take i toks)++ [AV.str (bB tx (cutSize (y.es) tx))]))),some (.v (.int (↑(cutSize (y.es) tx):Int))),none,none,none]) ([(30,EO.list []),(10,EO.cell (some (.v (.str (gR tx (cutSize (y.es) tx))))))]) .nil) (M8 toks (i+1)) (H0 (gR tx (cutSize (y.es) tx))))
  ⟨(D9 tx).trans (Yw fY),by decide,Mg X tx hsz,D_ y.es tx,sz (sa (N1 1) WI) rfl,⟨zC y.es tx,rfl,abT _,fun m h1 h2=>E8 AV.int (HY y.es tx h1 h2).symm⟩,N3 _,sz hsz rfl,
  sz (sa (az (cp b6)) (N1 1)) rfl,N3 _,sz hsz rfl,trivial,by rw[e];rfl⟩ (by kernel_rfl!)
noncomputable def q6(s:bR):Vs:=[some (.r 30),some (.v (.lst (s.af.map .str))),some (.v (.lst (s.links.map cL))),none,none,none,none,none]
noncomputable def n5(s:bR):Os:=[(30,.list (s.aE.map PE.av))]
noncomputable def Ea(sy:Int)(m:List Int)(k:Hint):Hint:= .call (.v (.bool (sy==0))) []<| .call (.v (.bool (decide (256≤sy)))) []<| .call (.v (.bool (decide (sy<256)))) []<| .f fQ (fun O=> .sp .nil (.sp .nil .nil))<| .v (.lst (m.map .int)) k
theorem Ti(hl:∀z∈l,∃b,z= .bool b)(os:Os):(vT y g).turn os fQ (fun O=> .sp .nil (.sp .nil .nil)) l:=fun g' b z hz=>by
 obtain⟨b,rfl⟩:=hl z hz
 refine a6 (P:=((b==true)=true→fQ (AV.bool b)=some (.int 1)∧os=os)∧((b==true)=false→((b==false)=true→fQ (AV.bool b)=some (.int 0)∧os=os)∧((b==false)=false→fQ (AV.bool b)=some (.int 2)∧os=os))) ?_ (by kernel_rfl!)
 cases b
 ·exact⟨(fun h=>nomatch h),fun O=> ⟨fun O=> ⟨rfl,rfl⟩,(fun h=>nomatch h)⟩⟩
 ·exact⟨fun O=> ⟨rfl,rfl⟩,(fun h=>nomatch h)⟩
theorem xV(a b c:Bool):∀z∈[AV.bool a,.bool b,.bool c],∃d,z= .bool d:=fun z hz=>by
 rcases J0.mp hz with rfl | hz
 ·exact⟨_,rfl⟩
 ·rcases J0.mp hz with rfl | hz
  ·exact⟨_,rfl⟩
  ·exact⟨_,X8.mp hz⟩
theorem JY{a b c:Bool}{a' b' c':Bool}(h1:a=a')(h2:b=b')(h3:c=c'): [AV.bool a,.bool b,.bool c].filterMap fQ=[cond a' 1 0,cond b' 1 0,cond c' 1 0].map AV.int:=by rw[h1,h2,h3];rfl
theorem JZ{xs ys:List Int}{b:Bool}(h:decide (xs=ys)=b):dS (.lst (xs.map .int)) (.lst (ys.map .int)) b:=h▸r9
structure Rq(s:bR):Prop where
 p:s.aE.length≤101
 l:s.af.length≤101
 k:s.links.length≤101
noncomputable def Mh(s:bR)(c:Int):Hint:=
 let Pv:Hint:= .v (.lst [.int 0,.int 1])<| .b true<| .a<| .a<| .a .nil
 .b true<| .a<| .v (.int c)<|Ea (c+201) [0,0,1]<| .b false<| .a<| .b true<| .a<| .a<| .sp (.a<| .b (dB s.aE)<| .sp (.a<| .v (.lst ((s.aE.take (s.aE.length - 4)).map PE.av))<| .v (s.aE.getD (s.aE.length - 2) .fin).av<| .v (s.aE.getD (s.aE.length - 3) .fin).av<| .v (s.aE.getD (s.aE.length - 1) .fin).av .nil) (.a Pv)) (.a Pv)
theorem H2{l:List AV}(h:4≤l.length):aS l none (some (-4)) none=l.take (l.length - 4):=by
 rw[uW _ (by decide) (by omega)]
 exact E8 (fun n=>l.take n) (by omega)
theorem Pw(X:dy y g)(hn:9≤g.n)(s:bR)(ho:Rq s)(t:Str)(c:Int)(tk:Tok)(hf:bo y.es t=some (.int c tk))(h7:7≤c)(UZ:c≤54)(R:RV→S→Prop):
  (p9 y g).set (.v (.str t)) ⟨q6 s,n5 s,Mh s c⟩ fun s2=> (p_ y g).ex s2 fun f s3=>ca f (True∧aA s3 (q6 (aK y.es s t)) (n5 (aK y.es s t))) False fun v=>R v s3:=by
 have m1:(c+201==0)=false:=ZO.mpr (by omega)
 have m2:decide (256≤c+201)=false:=Yk (by omega)
 have m3:decide (c+201<256)=true:=Yw (by omega)
 have hp:(s.aE.map PE.av).length≤101:=az ho.p
 have hs:aK y.es s t=cond ((c+201==209)&&dB s.aE) ⟨s.aE.take (s.aE.length - 4)++ [.num (6+s.links.length)],s.af,s.links++ [(s.aE.getD (s.aE.length - 2) .fin,s.aE.getD (s.aE.length - 3) .fin,s.aE.getD (s.aE.length - 1) .fin)]⟩ ⟨s.aE++ [.num (c+201)],s.af,s.links⟩:=by
  unfold aK
  rw[hf]
  show(if(c+201==209&&dB s.aE)=true then _ else _)=_
  cases(c+201==209&&dB s.aE) <;> rfl
 have Pv:((c+201==209)&&dB s.aE)=false→aA (S.mk [some (.r 30),some (.v (.lst (s.af.map .str))),some (.v (.lst (s.links.map cL))),none,none,some (.v (.str t)),some (.v (.int (c+201))),some (.v (.lst ([0,0,1].map .int)))] [(30,.list (s.aE.map PE.av++ [.int (c+201)]))] .nil) (q6 (aK y.es s t)) (n5 (aK y.es s t)):=fun h=>by
  rw[hs,h]
  unfold q6 n5
  show _=(_,[(30,EO.list ((s.aE++ [PE.num (c+201)]).map PE.av))])
  rw[N9];rfl
 refine a6 (P:=rL (Ctx.mk (BS y) g) t (AV.val (Value.ref (y.ad 101))) true∧Dd (Ctx.mk (BS y) g) (AV.val (Value.ref (y.ad 101))) t (AV.int c)∧Fn g (RV.v (.val (Value.ref (y.ad 70)))) [RV.v (.int (c+201))] [] [] [] (RV.v (.bool (c+201==0))) []∧Fn g (RV.v (.val (Value.ref (y.ad 69)))) [RV.v (.int (c+201))] [] [] [] (RV.v (.bool (decide (256≤c+201)))) []∧Fn g (RV.v (.val (Value.ref (y.ad 68)))) [RV.v (.int (c+201))] [] [] [] (RV.v (.bool (decide (c+201<256)))) []∧SL [AV.bool (c+201==0),.bool (decide (256≤c+201)),.bool (decide (c+201<256))]∧LC.turn (vT y g) (n5 s) fQ (fun(x:AV)=>Hint.sp .nil (Hint.sp .nil .nil)) [AV.bool (c+201==0),.bool (decide (256≤c+201)),.bool (decide (c+201<256))]∧filterMap fQ [AV.bool (c+201==0),.bool (decide (256≤c+201)),.bool (decide (c+201<256))]=map AV.int [0,0,1]∧dS (AV.lst (map AV.int [0,0,1])) (AV.lst [.int 0,AV.int 1,AV.int 0]) false∧dS (AV.lst (map AV.int [0,0,1])) (AV.lst [.int 0,AV.int 0,AV.int 1]) true∧((c+(201:Int)==(209:Int))=true→SL (map PE.av (bR.aE s))∧dS (AV.lst (aS (map PE.av (bR.aE s)) (some (-4:Int)) (some (-3:Int)) none)) (AV.lst [.int 208]) (dB (bR.aE s))∧(dB (bR.aE s)=true→SL (map PE.av (bR.aE s))∧AV.lst (aS (map PE.av (bR.aE s)) none (some (-4:Int)) none)=AV.lst (map PE.av (take (length (bR.aE s) - 4) (bR.aE s)))∧SL (map cL (bR.links s))∧length (map PE.av (take (length (bR.aE s) - 4) (bR.aE s)))+length [AV.int (6+(↑(length (map cL (bR.links s))):Int))]≤sizeLine∧SL (map PE.av (bR.aE s))∧AG (map PE.av (bR.aE s)) (-2:Int) (PE.av (getD (bR.aE s) (length (bR.aE s) - 2) PE.fin))∧SL (map PE.av (bR.aE s))∧AG (map PE.av (bR.aE s)) (-3:Int) (PE.av (getD (bR.aE s) (length (bR.aE s) - 3) PE.fin))∧SL (map PE.av (bR.aE s))∧AG (map PE.av (bR.aE s)) (-1:Int) (PE.av (getD (bR.aE s) (length (bR.aE s) - 1) PE.fin))∧length (map cL (bR.links s))+length [AV.tup [PE.av (getD (bR.aE s) (length (bR.aE s) - 2) PE.fin),PE.av (getD (bR.aE s) (length (bR.aE s) - 3) PE.fin),PE.av (getD (bR.aE s) (length (bR.aE s) - 1) PE.fin)]]≤sizeLine∧True∧aA (.mk ([some (.r 30),some (.v (.lst (map AV.str (bR.af s)))),some (.v (.lst (map cL (bR.links s)++ [AV.tup [PE.av (getD (bR.aE s) (length (bR.aE s) - 2) PE.fin),PE.av (getD (bR.aE s) (length (bR.aE s) - 3) PE.fin),PE.av (getD (bR.aE s) (length (bR.aE s) - 1) PE.fin)]]))),none,none,some (.v (.str t)),some (.v (.int (c+201))),some (.v (.lst (map AV.int [0,0,1])))]) ([(30,EO.list (map PE.av (take (length (bR.aE s) - 4) (bR.aE s))++ [AV.int (6+(↑(length (map cL (bR.links s))):Int))]))]) .nil) (q6 (aK (y.es) s t)) (n5 (aK (y.es) s t)))∧(dB (bR.aE s)=false→SL (map AV.int [0,0,1])∧AV.lst (aS (map AV.int [0,0,1]) (some 1) none none)=AV.lst [.int 0,AV.int 1]∧dS (AV.lst [.int 0,AV.int 1]) (AV.lst [.int 0,AV.int 1]) true∧SL (map PE.av (bR.aE s))∧True∧aA (.mk ([some (.r 30),some (.v (.lst (map AV.str (bR.af s)))),some (.v (.lst (map cL (bR.links s)))),none,none,some (.v (.str t)),some (.v (.int (c+201))),some (.v (.lst (map AV.int [0,0,1])))]) ([(30,EO.list (map PE.av (bR.aE s)++ [AV.int (c+201)]))]) .nil) (q6 (aK (y.es) s t)) (n5 (aK (y.es) s t))))∧((c+(201:Int)==(209:Int))=false→SL (map AV.int [0,0,1])∧AV.lst (aS (map AV.int [0,0,1]) (some 1) none none)=AV.lst [.int 0,AV.int 1]∧dS (AV.lst [.int 0,AV.int 1]) (AV.lst [.int 0,AV.int 1]) true∧SL (map PE.av (bR.aE s))∧True∧aA (.mk ([some (.r 30),some (.v (.lst (map AV.str (bR.af s)))),some (.v (.lst (map cL (bR.links s)))),none,none,some (.v (.str t)),some (.v (.int (c+201))),some (.v (.lst (map AV.int [0,0,1])))]) ([(30,EO.list (map PE.av (bR.aE s)++ [AV.int (c+201)]))]) .nil) (q6 (aK (y.es) s t)) (n5 (aK (y.es) s t))))
  ⟨⟨_,_,_,rfl,X.tab,by rw[hf];rfl⟩,⟨_,_,_,c,tk,rfl,rfl,X.tab,hf⟩,xK X hn _,fL X hn _,jj X hn _,E1 rfl,Ti (xV _ _ _) _,JY m1 m2 m3,JZ (ys:=[0,1,0]) rfl,JZ (ys:=[0,0,1]) rfl,fun h9=> ⟨sz hp rfl,HZ _,fun h4=>?_,fun h4=> ⟨by decide,rfl,JZ (xs:=[0,1]) (ys:=[0,1]) rfl,sz hp rfl,trivial,Pv (by rw[h9,h4];rfl)⟩⟩,fun h9=> ⟨by decide,rfl,JZ (xs:=[0,1]) (ys:=[0,1]) rfl,sz hp rfl,trivial,Pv (by rw[h9];rfl)⟩⟩ (by kernel_rfl!)
 have Tj:4≤s.aE.length:=Yr (E3.mp h4).1
 have gN:∀k:Nat,1≤k→k≤4→d5 (s.aE.map PE.av) (-(k:Int))=some (s.aE.getD (s.aE.length - k) .fin).av:=fun k k1 k2=>by
  refine D' k1 (by rw[E7];exact E2 k2 Tj) ?_
  have hk:s.aE.length - k<s.aE.length:=Nat.sub_lt (J3 (by decide) Tj) k1
  rw[E7,Yi,N6 hk,N4,N6 hk];rfl
 refine⟨sz hp rfl,cf ?_,sz (az ho.k) rfl,sz (sa (az (cp ho.p)) (N1 1)) rfl,sz hp rfl,gN 2 (by decide) (by decide),sz hp rfl,gN 3 (by decide) (by decide),sz hp rfl,gN 1 (by decide) (by decide),sz (sa (az ho.k) (N1 1)) rfl,trivial,?_⟩
 ·rw[H2 (by rw[E7];exact Tj),Y8,E7]
 ·rw[hs,h9,h4]
  unfold q6 n5
  show _=([_,_,some (RV.v (.lst ((s.links++ [_]).map cL))),_,_,_,_,_],[(30,EO.list ((s.aE.take (s.aE.length - 4)++ [PE.num (6+s.links.length)]).map PE.av))])
  rw[N9,N9,E7];rfl
noncomputable def Mi(s:bR):Hint:= .b false<| .a<| .b false<|Ea 0 [1,0,1]<| .b false<| .a<| .b false<| .a<| .a<| .v (.lst [.int 0,.int 1])<| .b true<| .a<| .a<| .a .nil
noncomputable abbrev n6:=map AV.int [(1:Int),(0:Int),(1:Int)]
noncomputable abbrev t8:=(0:Int)<(256:Int)
noncomputable abbrev t9:=(0:Int)==(0:Int)
theorem Px(X:dy y g)(hn:9≤g.n)(s:bR)(ho:Rq s)(t:Str)(hf:bo y.es t=none)(h0:t.length=0)(R:RV→S→Prop):
  (p9 y g).set (.v (.str t)) ⟨q6 s,n5 s,Mi s⟩ fun s2=> (p_ y g).ex s2 fun f s3=>ca f (True∧aA s3 (q6 (aK y.es s t)) (n5 (aK y.es s t))) False fun v=>R v s3:=by
 have hs:aK y.es s t=⟨s.aE++ [.fin],s.af,s.links⟩:=by
  unfold aK
  rw[hf]
  exact X6 h0
 refine a6 (P:=rL (Ctx.mk (BS y) g) t (AV.val (Value.ref (y.ad 101))) false∧Str.length t≤sizeLine∧((↑(Str.length t):Int) !=(0:Int))=false∧Fn g (.v (.val (.ref (y.ad 70)))) [.v (.int 0)] [] [] [] (.v (.bool t9)) []∧Fn g (.v (.val (.ref (y.ad 69)))) [.v (.int 0)] [] [] [] (.v (.bool (decide ((256:Int)≤(0:Int))))) []∧Fn g (.v (.val (.ref (y.ad 68)))) [.v (.int 0)] [] [] [] (.v (.bool (decide t8))) []∧SL [AV.bool t9,.bool (decide ((256:Int)≤(0:Int))),.bool (decide t8)]∧LC.turn (vT y g) (n5 s) fQ (fun(x:AV)=>Hint.sp .nil (Hint.sp .nil .nil)) [AV.bool t9,.bool (decide ((256:Int)≤(0:Int))),.bool (decide t8)]∧rf (map AV.int [(1:Int),(0:Int),(1:Int)])∧dS (AV.lst n6) (AV.lst [.int 0,AV.int 1,AV.int 0]) false∧dS (AV.lst n6) (AV.lst [.int 0,AV.int 0,AV.int 1]) false∧SL n6∧rf (AV.lst [.int 0,AV.int 1])∧dS (AV.lst [.int 0,AV.int 1]) (AV.lst [.int 0,AV.int 1]) true∧SL (map PE.av (bR.aE s))∧True∧aA (.mk ([some (.r 30),some (.v (.lst (map AV.str (bR.af s)))),some (.v (.lst (map cL (bR.links s)))),none,none,some (.v (.str t)),some (.v (.int 0)),some (.v (.lst n6))]) ([(30,EO.list (map PE.av (bR.aE s)++ [AV.str (Str.ofString "end")]))]) .nil) (q6 (aK (y.es) s t)) (n5 (aK (y.es) s t)))
  ⟨⟨_,_,_,rfl,X.tab,by rw[hf];rfl⟩,sz (X7 h0) rfl,by rw[h0];rfl,xK X hn _,fL X hn _,jj X hn _,E1 rfl,Ti (xV _ _ _) _,rfl,JZ (ys:=[0,1,0]) rfl,JZ (ys:=[0,0,1]) rfl,by decide,rfl,JZ (xs:=[0,1]) (ys:=[0,1]) rfl,sz (az ho.p) rfl,trivial,?_⟩ (by kernel_rfl!)
 rw[hs]
 unfold q6 n5
 show _=(_,[(30,EO.list ((s.aE++ [PE.fin]).map PE.av))])
 rw[N9];rfl
noncomputable def Mj(s:bR):Hint:= .b false<| .a<| .b true<|Ea (256+(s.af.map AV.str).length) [0,1,0]<| .b true<| .a .nil
theorem Py(X:dy y g)(hn:9≤g.n)(s:bR)(ho:Rq s)(t:Str)(hf:bo y.es t=none)(h0:t.length≠0)(ht:t.length≤1000)(R:RV→S→Prop):
  (p9 y g).set (.v (.str t)) ⟨q6 s,n5 s,Mj s⟩ fun s2=> (p_ y g).ex s2 fun f s3=>ca f (True∧aA s3 (q6 (aK y.es s t)) (n5 (aK y.es s t))) False fun v=>R v s3:=by
 have hs:aK y.es s t=⟨s.aE++ [.num s.af.length],s.af++ [t],s.links⟩:=by
  unfold aK
  rw[hf]
  exact X5 h0
 have hx:(0:Int)≤((s.af.map AV.str).length:Int):=N3 _
 have m1:(256+((s.af.map AV.str).length:Int)==0)=false:=ZO.mpr (by omega)
 have m2:decide (256≤256+((s.af.map AV.str).length:Int))=true:=Yw (by omega)
 have m3:decide (256+((s.af.map AV.str).length:Int)<256)=false:=Yk (by omega)
 refine a6 (P:=rL (Ctx.mk (BS y) g) t (AV.val (Value.ref (y.ad 101))) false∧Str.length t≤sizeLine∧((↑(Str.length t):Int) !=0)=true∧SL (map AV.str (bR.af s))∧Fn g (RV.v (.val (Value.ref (y.ad 70)))) [RV.v (.int (256+(↑(length (map AV.str (bR.af s))):Int)))] [] [] [] (RV.v (.bool (256+(↑(length (map AV.str (bR.af s))):Int)==0))) []∧Fn g (RV.v (.val (Value.ref (y.ad 69)))) [RV.v (.int (256+(↑(length (map AV.str (bR.af s))):Int)))] [] [] [] (RV.v (.bool (decide (256≤256+(↑(length (map AV.str (bR.af s))):Int))))) []∧Fn g (RV.v (.val (Value.ref (y.ad 68)))) [RV.v (.int (256+(↑(length (map AV.str (bR.af s))):Int)))] [] [] [] (RV.v (.bool (decide (256+(↑(length (map AV.str (bR.af s))):Int)<256)))) []∧SL [AV.bool (256+(↑(length (map AV.str (bR.af s))):Int)==0),.bool (decide (256≤256+(↑(length (map AV.str (bR.af s))):Int))),.bool (decide (256+(↑(length (map AV.str (bR.af s))):Int)<256))]∧LC.turn (vT y g) (n5 s) fQ (fun(x:AV)=>Hint.sp .nil (Hint.sp .nil .nil)) [AV.bool (256+(↑(length (map AV.str (bR.af s))):Int)==0),.bool (decide (256≤256+(↑(length (map AV.str (bR.af s))):Int))),.bool (decide (256+(↑(length (map AV.str (bR.af s))):Int)<256))]∧filterMap fQ [AV.bool (256+(↑(length (map AV.str (bR.af s))):Int)==0),.bool (decide (256≤256+(↑(length (map AV.str (bR.af s))):Int))),.bool (decide (256+(↑(length (map AV.str (bR.af s))):Int)<256))]=map AV.int [0,1,0]∧dS (AV.lst (map AV.int [0,1,0])) (AV.lst [.int 0,AV.int 1,AV.int 0]) true∧SL (map AV.str (bR.af s))∧length (map PE.av (bR.aE s))+length [AV.int (↑(length (map AV.str (bR.af s))):Int)]≤sizeLine∧length (map AV.str (bR.af s))+length [AV.str t]≤sizeLine∧True∧aA (.mk ([some (.r 30),some (.v (.lst (map AV.str (bR.af s)++ [AV.str t]))),some (.v (.lst (map cL (bR.links s)))),none,none,some (.v (.str t)),some (.v (.int (256+(↑(length (map AV.str (bR.af s))):Int)))),some (.v (.lst (map AV.int [0,1,0])))]) ([(30,EO.list (map PE.av (bR.aE s)++ [AV.int (↑(length (map AV.str (bR.af s))):Int)]))]) .nil) (q6 (aK (y.es) s t)) (n5 (aK (y.es) s t)))
  ⟨⟨_,_,_,rfl,X.tab,by rw[hf];rfl⟩,sz ht rfl,bne_iff_ne.mpr fun e=>h0 (abe e),sz (az ho.l) rfl,xK X hn _,fL X hn _,jj X hn _,E1 rfl,Ti (xV _ _ _) _,JY m1 m2 m3,JZ (ys:=[0,1,0]) rfl,sz (az ho.l) rfl,sz (sa (az ho.p) (N1 1)) rfl,sz (sa (az ho.l) (N1 1)) rfl,trivial,?_⟩ (by kernel_rfl!)
 rw[hs]
 unfold q6 n5
 show _=([_,some (RV.v (.lst ((s.af++ [t]).map .str))),_,_,_,_,_,_],[(30,EO.list ((s.aE++ [PE.num s.af.length]).map PE.av))])
 rw[N9,N9,E7];rfl
noncomputable def codeOf(es:Array DictEntry)(t:Str):Int:=match bo es t with
 | some (.int c _)=>c
 | _=>0
noncomputable def Ml(es:Array DictEntry)(toks:List Str)(i:Nat)(y:AV):Hint:=cond (ci es (vG y)) (Mh (aQ es toks i) (codeOf es (vG y))) (cond ((vG y).length==0) (Mi (aQ es toks i)) (Mj (aQ es toks i)))
theorem H3(X:dy y g)(hn:9≤g.n)(T:Mf y.es)(toks:List Str)(b6:toks.length≤100)(jW:∀(i:Nat) (t:Str),(toks++ [(⟨#[]⟩:Str)])[i]? =some t→t.length≤1000)(R:RV→S→Prop):
  aW (p9 y g) (p_ y g) ((toks++ [(⟨#[]⟩:Str)]).map .str) (fun O=>True) (fun i=>q6 (aQ y.es toks i)) (fun i=>n5 (aQ y.es toks i)) (Ml y.es toks) R:=fun i z hz O=>by
 rw[Yi] at hz
 cases ht:(toks++ [(⟨#[]⟩:Str)])[i]? with
 | none=>rw[ht] at hz;cases hz
 | some t=>
  rw[ht] at hz
  cases hz
  have hi:i≤100:=by
   have:=(Ym.mp ht).1
   rw[jh] at this
   exact E2 (Y7 this) b6
  obtain⟨h1,h2,h3⟩:=qb y.es toks i
  have ho:Rq (aQ y.es toks i):=⟨E2 h1 (Y6 hi),E2 h2 (Y6 hi),E2 h3 (Y6 hi)⟩
  show(p9 y g).set _ ⟨_,_,cond (ci y.es t) (Mh (aQ y.es toks i) (codeOf y.es t)) (cond (t.length==0) (Mi (aQ y.es toks i)) (Mj (aQ y.es toks i)))⟩ fun s2=> (p_ y g).ex s2 fun f s3=>ca f (True∧aA s3 (q6 (aQ y.es toks (i+1))) (n5 (aQ y.es toks (i+1)))) False fun v=>R v s3
  rw[m5 ht]
  unfold ci codeOf
  cases hf:bo y.es t with
  | some v=>
   obtain⟨c,tk,rfl,h7,UZ⟩:=T.codes t v hf
   exact Pw X hn _ ho t c tk hf h7 UZ R
  | none=>
   cases h0:(t.length==0) with
   | true=>exact Px X hn _ ho t hf (eq_of_beq h0) R
   | false=>exact Py X hn _ ho t hf (ZJ h0) (jW i t ht) R
theorem Mm(X:dy y g)(hn:10≤g.n)(T:Mf y.es)(toks:List Str)(b6:toks.length≤100)(jW:∀(i:Nat) (t:Str),(toks++ [(⟨#[]⟩:Str)])[i]? =some t→t.length≤1000)
  (fY:∀i,i<toks.length→(bf (toks.drop i)).length≠0) (hsz:∀i,(bf (toks.drop i)).length≤1000)
  (Pz:∀i t,toks[i]? =some t→bB (bf (toks.drop i)) (cutSize y.es (bf (toks.drop i)))=t∧gR (bf (toks.drop i)) (cutSize y.es (bf (toks.drop i)))=bf (toks.drop (i+1))):
  Fn g (.v (.val (.ref (y.ad 76)))) [.v (.str (bf toks))] [] [] [] (.v (.tup [.lst ((aQ y.es toks (toks.length+1)).aE.map PE.av),.lst ((aQ y.es toks (toks.length+1)).af.map .str),.lst ((aQ y.es toks (toks.length+1)).links.map cL)])) []:=by
 refine jZ X (Yg hn) (X.fn 76 "_law_net" (by decide)) (BS y) (WE y) (.wh toks.length (fun i=>M8 toks i) (fun i=>H0 (bf (toks.drop i))) (fun i=>Th y.es (bf (toks.drop i)))<|
   .loop (fun O=>True) (fun i=>q6 (aQ y.es toks i)) (fun i=>n5 (aQ y.es toks i)) (Ml y.es toks) .nil) (by intros;kernel_rfl!) fun g' b=>?_
 have X':=X.bO b.bO
 have ws:xE (D7 y g') (D8 y g') toks.length (fun i=>M8 toks i) (fun i=>H0 (bf (toks.drop i))) (fun i=>Th y.es (bf (toks.drop i))) _:=fun i hi=>by
  have ht:toks[i]? =some toks[i]:=N6 hi
  exact H1 X' toks i _ ht b6 (fY i hi) (hsz i) (Pz i _ ht).1 (Pz i _ ht).2 (fun v s3=>cO (.ret v) s3 (.tup [.lst ((aQ y.es toks (toks.length+1)).aE.map PE.av),.lst ((aQ y.es toks (toks.length+1)).af.map .str),.lst ((aQ y.es toks (toks.length+1)).links.map cL)]) [])
 have e1:bf (toks.drop toks.length)=Str.ofString "":=by rw[List.drop_length];rfl
 have e2:(toks.take toks.length).map AV.str++ [AV.str (Str.ofString "")]=(toks++ [(⟨#[]⟩:Str)]).map .str:=by rw[ZR,N9];rfl
 have e3:((toks.take toks.length).map AV.str++ [AV.str (Str.ofString "")]).length=toks.length+1:=by rw[e2,E7,jh]
 refine a6 (P:=EE ((fun(i:Nat)=>M8 toks i) 0) ((fun(i:Nat)=>H0 (bf (drop i toks))) 0)∧_∧(!bf (drop (length toks) toks)==Str.ofString "")=false∧length (map AV.str (take (length toks) toks))+length [AV.str (Str.ofString "")]≤sizeLine∧(True∧EE ((fun(i:Nat)=>q6 (aQ (y.es) toks i)) 0) ((fun(i:Nat)=>n5 (aQ (y.es) toks i)) 0))∧(aW (p9 y g') (p_ y g') (map AV.str (take (length toks) toks)++ [AV.str (Str.ofString "")]) (fun(x:Nat)=>True) (fun(i:Nat)=>q6 (aQ (y.es) toks i)) (fun(i:Nat)=>n5 (aQ (y.es) toks i)) (Ml (y.es) toks) fun(v:RV) (s3:S)=>cO (RF.ret v) s3 (AV.tup [.lst (map PE.av (bR.aE (aQ (y.es) toks (length toks+1)))),AV.lst (map AV.str (bR.af (aQ (y.es) toks (length toks+1)))),AV.lst (map cL (bR.links (aQ (y.es) toks (length toks+1))))]) [])∧(True→VI (.tup [.lst (map PE.av (bR.aE (aQ (y.es) toks (length (map AV.str (take (length toks) toks)++ [AV.str (Str.ofString "")]))))),AV.lst (map AV.str (bR.af (aQ (y.es) toks (length (map AV.str (take (length toks) toks)++ [AV.str (Str.ofString "")]))))),AV.lst (map cL (bR.links (aQ (y.es) toks (length (map AV.str (take (length toks) toks)++ [AV.str (Str.ofString "")])))))]) (.tup [.lst (map PE.av (bR.aE (aQ (y.es) toks (length toks+1)))),AV.lst (map AV.str (bR.af (aQ (y.es) toks (length toks+1)))),AV.lst (map cL (bR.links (aQ (y.es) toks (length toks+1))))])∧rf ([]:Os)))
  ⟨rfl,ws,by rw[e1];rfl,sz (sa (az (cp b6)) (N1 1)) rfl,⟨trivial,rfl⟩,?_,fun O=> ⟨by rw[e3],rfl⟩⟩ (by kernel_rfl!)
 rw[e2]
 exact H3 X' (by rw[b.n];exact Yj hn) T toks b6 jW _
end
end
end
section
set_option tactic.hygienic true
section
section
variable {g:Gd}{F:FM}{C:Ctx}{ρ ρ':eJ}{env:Env}{M:Mem}{s:S}
structure LD(C:Ctx) where
 X:Cx
 t:∀g,TG ⟨X,g⟩
 ifs:∀g,List (SE ⟨X,g⟩)
 t2:∀g,TG ⟨X,g⟩
 i2:∀g,IT ⟨X,g⟩
 iQ:∀g,List (SE ⟨X,g⟩)
 elt:∀g,SE ⟨X,g⟩
 more:List (Str×Const)
 gx:X.gx=C.gx
 loc:b_ X.names=X.loc
 et:∀g,(t g).e=(t C.g).e
 ei:∀g,iV (ifs g)=iV (ifs C.g)
 U0:∀g,(t2 g).e=(t2 C.g).e
 e2:∀g,(i2 g).e=(i2 C.g).e
 WJ:∀g,iV (iQ g)=iV (iQ C.g)
 ee:∀g,(elt g).e=(elt C.g).e
noncomputable def LD.expr(m:LD C)(it:IT C)(pos:Pos):Expr:= .ListComp (m.elt C.g).e [⟨(m.t C.g).e,it.e,iV (m.ifs C.g),0⟩,⟨(m.t2 C.g).e,(m.i2 C.g).e,iV (m.iQ C.g),0⟩] ⟨.function,m.X.names,false,false,m.more⟩ pos
noncomputable def dG(f:AV→Option AV)(y:AV):List AV:=qH ((f y).getD .none)
def J1(k:Hint)(l:List AV)(P:AV→Prop):Prop:=k.casesOn (∀z,z∈l→P z) (fun O O=> ∀z,z∈l→P z) (fun O O=> ∀z,z∈l→P z) (fun O=>l.rec True fun z O ih=>P z∧ih) (fun O O=> ∀z,z∈l→P z) (fun O O O O=> ∀z,z∈l→P z) (fun O O O=> ∀z,z∈l→P z) (fun O O O O O=> ∀z,z∈l→P z) (fun O O O O O=> ∀z,z∈l→P z) (fun O O O=> ∀z,z∈l→P z)
theorem Eb{P:AV→Prop}(h:J1 k l P):∀z,z∈l→P z:=by
 cases k with
 | a k=>
  replace h:l.rec (motive:=fun O=>Prop) True fun z O ih=>P z∧ih:=h
  induction l with
  | nil=>exact fun z hz=> (Y5 hz).elim
  | cons x t ih=>exact X_.mpr ⟨h.1,ih h.2⟩
 | _=>exact h
def LD.turn(m:LD C)(os:Os)(f:AV→Option AV)(h:AV→Hint)(l:List AV):Prop:= ∀g',h_ C.g g'→∀y,y∈l→(m.t g').set (.v y) ⟨[],os,h y⟩ fun s2=>ze (m.ifs g') s2 (fun s3=>gT ((!(m.i2 g').tp||(m.t2 g').tup)&& (m.i2 g').nd.isNone) ((m.i2 g').it s3 fun l2 s4=>hF s4 fun f2 h2 kk=>s4.os=os∧dG f y=l2.filterMap f2∧
 J1 kk l2 fun z=> (m.t2 g').set (.v z) ⟨s4.vs,os,h2 z⟩ fun s5=>ze (m.iQ g') s5 (fun s6=> (m.elt g').ev s6 fun v s7=>mV v (fun x=>f2 z=some x∧aA s7 s4.vs os) False) fun s6=>f2 z=none∧aA s6 s4.vs os)) fun s3=>dG f y=[]∧s3.os=os
def LD.run(m:LD C)(it:IT C)(s:S)(K:List AV→S→Prop):Prop:=gT (pA C m.X Option.none it.tp (m.t C.g).tup) (it.it s fun l s1=>hF s1 fun f h k=>m.turn s1.os f h l∧hV ⟨s1.vs,s1.os,k⟩ fun r s2=>mL (.v r) (fun r=> (l.flatMap (dG f)=r∧r.length≤sizeLine)∧K r s2) False)
theorem LD.step(m:LD C){it:IT C}{tp tup:Bool}(fr:cz C ρ env)(hg:fJ C m.X Option.none tp tup){f:AV→Option AV}{hh:AV→Hint}(h:m.turn s.os f hh l)(hy:y∈l)(ha:(a++dG f y).length≤sizeLine):
  oQ C.g (m.t C.g).e (iV (m.ifs C.g)) m.X.names (zd C ρ) Option.none (Ra (m.expr it pos) (m.i2 C.g).e) (aI ρ s.os) M y a (a++dG f y):=fun g' fq L D b e N=>by
 have FY:cz ⟨m.X,g'⟩ ρ fq:=hg.DB (oc:=Option.none) (L:=L) fr m.gx b e N
 have eC:∀(a:List AV) (k:Hint),nM false (b_ m.X.names) (aI ρ s.os) M L D a=tr ⟨m.X,g'⟩ ρ ((D,.list a)::M) ⟨[],s.os,k⟩:=fun a k=>by
  unfold nM tr
  rw[m.loc,pC];rfl
 show W1 g' UR _ y (nM false _ _ _ _ _ _) _
 rw[eC a (hh y),← m.et g',← m.ei g']
 refine je (C:=⟨m.X,g'⟩) ((m.t g').ok (v:= .v y) FY (h g' b y hy)) fun s2 h2=>pD (C:=⟨m.X,g'⟩) FY h2 (fun s3 h3=>?_) fun s3 h3=>?_
 ·obtain⟨hc,h3⟩:=aC h3
  have hc:=E3.mp hc
  refine NZ (fun x=> (m.i2 C.g).fs fq x) (m.e2 g'▸((m.i2 g').ok FY h3).mono fun v st q=>?_)
  obtain⟨qF,ht,hn,hm,k⟩:=q
  rename_i l2 s4 tg cy
  refine DC k fun f2 h2 k' ⟨e4,ef,i8⟩=>?_
  have O7:(m.i2 g').nd=Option.none:=Option.isNone_iff_eq_none.mp hc.2
  refine⟨tg,cy,l2,_,qF,ht _ fun e=>m.U0 g'▸(m.t2 g').it (by have:=hc.1;rw[e] at this;exact this),fun j=>tr ⟨m.X,g'⟩ ρ ((D,.list (a++(l2.take j).filterMap f2))::M) ⟨s4.vs,s.os,.nil⟩,?_,fun j=>hn _ fun k e=> (qM O7 e).elim,?_,fun j z hz=>?_⟩
  ·show tr ⟨m.X,g'⟩ ρ ((D,.list (a++(l2.take 0).filterMap f2))::M) ⟨s4.vs,s.os,.nil⟩=_
   rw[List.take_zero,abD,YC,← e4];rfl
  ·show Wk g' (tr ⟨m.X,g'⟩ ρ ((D,.list (a++(l2.take l2.length).filterMap f2))::M) ⟨s4.vs,s.os,.nil⟩) (nM false _ _ _ _ _ _)
   rw[ZR,← ef,eC _ .nil]
   exact OC.wk (oc:=Option.none) rfl
  ·have b6:(a++(l2.take j).filterMap f2).length≤sizeLine:=E2 (by
    rw[ef,N8,N8]
    exact Yo ((List.take_sublist j l2).filterMap f2).length_le _) ha
   have eq:∀r,f2 z=r→a++(l2.take (j+1)).filterMap f2=(a++(l2.take j).filterMap f2)++r.toList:=fun r e=>by rw[l8 hz,e,Yc]
   rw[← m.U0 g',← m.WJ g',← m.ee g']
   refine je (C:=⟨m.X,g'⟩) ((m.t2 g').ok (v:= .v z) (s:=⟨s4.vs,s.os,h2 z⟩) FY (Eb i8 z (Yh hz))) fun s5 h5=>pD (C:=⟨m.X,g'⟩) FY h5 (fun s6 h6=>?_) fun s6 h6=>?_
   ·refine w9 (cA (C:=⟨m.X,g'⟩) ((m.elt g').ok FY h6) fun v s7 h7=>dQ (P:=fun v=> ∃a' mem',Upd (aI ρ s7.os++(D,.list (a++(l2.take j).filterMap f2))::M) D (.list a') (.list (a'++ [ah ρ v])) mem'∧a'.length≤sizeLine∧Wk g' ⟨cB ρ m.X.loc s7.vs,mem'⟩ (tr ⟨m.X,g'⟩ ρ ((D,.list (a++(l2.take (j+1)).filterMap f2))::M) ⟨s4.vs,s.os,.nil⟩)) h7 (fun x h7=> ⟨_,_,Upd.pre .here _,b6,?_⟩) False.elim)
    rw[eq _ h7.1]
    exact aA.wk (C:=⟨m.X,g'⟩) h7.2
   ·show Wk g' _ (tr ⟨m.X,g'⟩ ρ ((D,.list (a++(l2.take (j+1)).filterMap f2))::M) ⟨s4.vs,s.os,.nil⟩)
    rw[eq _ h6.1,toList,YC]
    exact aA.wk (C:=⟨m.X,g'⟩) h6.2
 ·show Wk g' _ (nM false _ _ _ _ _ _)
  rw[h3.1,YC,eC _ .nil]
  exact OC.wk (oc:=Option.none) h3.2
noncomputable def SE.Tk(m:LD C)(it:IT C)(pos:Pos):SE C:=SE.M5 (m.expr it pos) (fun s K=>m.run it s fun l s1=>K (.v (.lst l)) s1) true false (fun {ρ env M s K} fr h=>by
  obtain⟨hg,h⟩:=aC h
  have hg:=mX hg
  obtain⟨cs,N,tn⟩:=fr.N
  refine xb (p2:=it.e.pos) (cs:=zd C ρ) (oc:=Option.none) (use:=Option.none) (B:=Ra (m.expr it pos) (m.i2 C.g).e) fr.e (xF N tn) rfl (pB hg.fr fr.hc) hg.kn hg.UI trivial (fun fq=>KW _ _ _ _ _ _ _ _ _ fq) (it.fs env) ((it.ok fr h).mono fun v st q=>?_)
  obtain⟨qF,ht,hn,hm,k⟩:=q
  rename_i l s1 tg cy
  refine DC k fun f hh k ⟨JQ,hr⟩=>gj hr fun r k' hr=>?_
  cases r with
  | lst r=>
   obtain⟨⟨K5,Rc⟩,WK⟩:=hr
   have tk:∀i y,l[i]? =some y→(l.take (i+1)).flatMap (dG f)=(l.take i).flatMap (dG f)++dG f y:=fun i y hy=>by
    rw[Zi,hy,aae]
    exact E8 (_++ ·) (YC _)
   refine⟨cB ρ C.loc s1.vs,aI ρ s1.os,M,tg,cy,l,qF,ht _ fun e=> (m.t C.g).it (by have:=hg.tp;rw[e] at this;exact this),fun L D a=>hn _ fun k e=>nM.has (hm k e),fun i=> (l.take i).flatMap (dG f),rfl,fun i y hy=>tk i y hy▸m.step fr hg JQ (Yh hy) (tk i y hy▸?_),?_⟩
   ·have e:=aae (xs:=l.take (i+1)) (ys:=l.drop (i+1)) (f:=dG f)
    rw[ZW,K5] at e
    rw[e,N8] at Rc
    exact E2 (Yl ..) Rc
   ·rw[ZR,K5]
    exact oP (dY (s:=⟨s1.vs,s1.os,k'⟩) WK)
  | _=>exact hr.elim) (fun O=>rfl) ⟨fun O O=>rfl,fun O=>rfl,fun O O=>rfl,fun O O O O=>rfl,fun h=>nomatch h⟩
end
end
end
section
section
noncomputable def J2(y:Lay):Cx:=JS y [("leaves",.cell),("table",.cell),("order",.local),("place",.local),("name",.local),("due",.local)] [("leaves",.cell,10),("table",.cell,11)] [31,9,6,14] true [(y.lp 77,"_law_paired.<locals>.<lambda>")]
noncomputable def J4(y:Lay):Cx:=cx y ["spot"] [("leaves",.free,10)] [] false
noncomputable def Ec(y:Lay)(g:Gd):SE ⟨J4 y,g⟩:=(.O1 (.get (.d7 0 (q 322 51 57)) (.loc 0 (q 322 58 62)) (q 322 51 63)) .lower (q 322 51 69) [] (q 322 51 71))
noncomputable def Ed(y:Lay)(g:Gd):TG ⟨J2 y,g⟩:= .xy [(.n (.loc 1) 319 8),(.n (.loc 2) 319 15)]
noncomputable def Ee(y:Lay)(g:Gd):SB ⟨J2 y,g⟩:= .cons (.exp (.vR (.ce 1 320 8) "add_header" (q 320 8 24) [(.lo 2 320 25),(.cl 6 320 31 [(.lo 1 320 35)])] (q 320 8 42)))<| .cons (.exp (.vR (.ce 1 321 8) "add_header" (q 321 8 24) [(.add (.lo 2 321 25) (.lo 2 321 32)),(.st "" 321 38)] (q 321 8 41)))<| .cons (.exp (.pG 14 (q 322 8 19) [(.lo 0 322 20),(.lo 1 322 27)] "key" (.lam ⟨[],[⟨"spot",.none,(q 322 45 49)⟩],.none,[],[],.none,[]⟩ (Ec y g).e [("spot",.local),("leaves",.free)] [] (q 322 38 71) fun O=>rfl) (q 322 34 71) (q 322 8 72)))<| .nil
noncomputable def J5(y:Lay):Cx:=⟨[(".0",.local),("letter",.cell),("enumerate",.globalImplicit),("leaves",.free)],[".0"],[("letter",.cell,29),("leaves",.free,10)],[9],GX y,30,false,[]⟩
noncomputable def PC(y:Lay):Cx:=cx y [".0","spot","name"] [("letter",.free,29)] [] false
noncomputable def Ef(y:Lay)(g:Gd):LC ⟨J5 y,g⟩:=⟨PC y,fun g=> (.xy [(.n (.loc 1) 323 21),(.n (.loc 2) 323 27)]),fun g=>[(.eq (.mt (.lo 2 323 56) .lower []) (.ce 0 323 72))],fun g=> (.lo 1 323 12),[],rfl,rfl,fun O=>rfl,fun O=>rfl,fun O=>rfl⟩
noncomputable def Eg(y:Lay)(g:Gd):LC ⟨J2 y,g⟩:=⟨J5 y,fun g=> (.n (.d7 0) 323 84),fun g=>[],fun g=> (.lc (Ef y g) (.enum 9 (q 323 35 44) (.ce 1 323 45) (q 323 35 52)) (q 323 11 79)),[],rfl,rfl,fun O=>rfl,fun O=>rfl,fun O=>rfl⟩
noncomputable def PD(y:Lay):Cx:=cx y [".0","pair","spot"] [] [] false
noncomputable def Eh(y:Lay)(g:Gd):LD ⟨J2 y,g⟩:=⟨PD y,fun g=> (.n (.loc 1) 324 37),fun g=>[],fun g=> (.n (.loc 2) 324 53),fun g=> (.of (.get (.lo 1 324 61) (.fx .none .none (some (.neg (.nt 1 324 69))) (q 324 66 70)))),fun g=>[],fun g=> (.lo 2 324 28),[],rfl,rfl,fun O=>rfl,fun O=>rfl,fun O=>rfl,fun O=>rfl,fun O=>rfl,fun O=>rfl⟩
noncomputable def PG(y:Lay):Cx:=cx y [".0","letter"] [("table",.free,11)] [] false
noncomputable def Ei(y:Lay)(g:Gd):LC ⟨J2 y,g⟩:=⟨PG y,fun g=> (.n (.loc 1) 324 104),fun g=>[],fun g=> (.vR (.ce 0 324 78) "get_all" (q 324 78 91) [(.lo 1 324 92)] (q 324 78 99)),[],rfl,rfl,fun O=>rfl,fun O=>rfl,fun O=>rfl⟩
noncomputable def J6(y:Lay):Cx:=cx y [".0","pair"] [] [] false
noncomputable def PH(y:Lay):Cx:=cx y [".0","spot"] [] [6] false
noncomputable def Ej(y:Lay)(g:Gd):LC ⟨J6 y,g⟩:=⟨PH y,fun g=> (.n (.loc 1) 324 140),fun g=>[],fun g=> (.cl 6 324 126 [(.lo 1 324 130)]),[],rfl,rfl,fun O=>rfl,fun O=>rfl,fun O=>rfl⟩
noncomputable def Ek(y:Lay)(g:Gd):LC ⟨J2 y,g⟩:=⟨J6 y,fun g=> (.n (.loc 1) 324 158),fun g=>[],fun g=> (.lc (Ej y g) (.of (.lo 1 324 148)) (q 324 125 153)),[],rfl,rfl,fun O=>rfl,fun O=>rfl,fun O=>rfl⟩
noncomputable def WL(y:Lay)(g:Gd):SB ⟨J2 y,g⟩:= .cons (.mul [(.n (.d7 1) 318 4),(.n (.loc 0) 318 11)] 0 (q 318 4 16) [(.cls 40 31 (q 318 20 27) [] (q 318 20 29)),(.new 30 [] (q 318 31 33))] 0 (q 318 19 34) (q 318 4 34) (by kernel_rfl!))<| .cons (.for (Ed y g) (.enum 9 (q 319 23 32) (.ce 0 319 33) (q 319 23 40)) (Ee y g) ⟨319,4,322,72⟩)<| .cons (.SY 3 (q 323 4 7) (Eg y g) "letter" 29 (.of (.st "abc" 323 94)) (q 323 10 100) (q 323 4 100) (fun O O=>rfl) (fun O=>rfl))<| .cons (.ret (.y6 (.and (.eq (.lo 0 324 18) (.Tk (Eh y g) (.of (.lo 3 324 45)) (q 324 27 72))) [(.eq (.lc (Ei y g) (.of (.st "AbC" 324 114)) (q 324 77 120)) (.lc (Ek y g) (.of (.lo 3 324 166)) (q 324 124 170)))]) (.lo 3 324 11) (.lst [] (q 324 176 178))))<| .nil
section
variable {α:Type}
theorem ew{key:α→Int}:∀ {l:List α},l.Pairwise (fun a b=>key a≤key b)→∀(t:Int) (j:Nat) (y:α),l[j]? =some y→decide (key y<t)=decide (j<l.countP (fun z=>decide (key z<t)))
 | [],_,_,j,y,h=>by simp at h
 | a::l,hs,t,j,y,h=>by
  rw[abE] at hs
  by_cases ha:key a<t
  ·rw[aaX (by simpa using ha)]
   cases j with
   | zero=>simp at h;subst h;simp[ha]
   | succ j=>rw[ew hs.2 t j y (by simpa using h)];simp
  ·rw[aaY (by simpa using ha)]
   have h0:l.countP (fun z=>decide (key z<t))=0:=by
    rw[List.countP_eq_zero]
    intro z hz
    have:=hs.1 z hz
    simp;omega
   rw[h0]
   cases j with
   | zero=>simp at h;subst h;simp;omega
   | succ j=>
    have:=hs.1 y (Yh (by simpa using h))
    simp;omega
theorem r_{key:α→Int}:∀ {l:List α},l.Pairwise (fun a b=>key a≤key b)→∀(t:Int) (j:Nat) (y:α),l[j]? =some y→decide (t<key y)=decide (l.countP (fun z=>decide (key z≤t))≤j)
 | [],_,_,j,y,h=>by simp at h
 | a::l,hs,t,j,y,h=>by
  rw[abE] at hs
  by_cases ha:key a≤t
  ·rw[aaX (by simpa using ha)]
   cases j with
   | zero=>simp at h;subst h;simp;omega
   | succ j=>rw[r_ hs.2 t j y (by simpa using h)];simp
  ·rw[aaY (by simpa using ha)]
   have h0:l.countP (fun z=>decide (key z≤t))=0:=by
    rw[List.countP_eq_zero]
    intro z hz
    have:=hs.1 z hz
    simp;omega
   rw[h0]
   cases j with
   | zero=>simp at h;subst h;simp;omega
   | succ j=>
    have:=hs.1 y (Yh (by simpa using h))
    simp;omega
noncomputable def eA(key:α→Int)(l:List α)(x:α):List α:=l.take (l.countP fun y=>decide (key y<key x))++x::l.drop (l.countP fun y=>decide (key y<key x))
theorem m6{key:α→Int}{l:List α}(hs:l.Pairwise (fun a b=>key a≤key b))(x:α):(eA key l x).Pairwise (fun a b=>key a≤key b):=by
 have h1:∀y∈l.take (l.countP fun y=>decide (key y<key x)),key y<key x:=by
  intro y hy
  obtain⟨j,hj⟩:=Zm.mp hy
  rw[List.getElem?_take] at hj
  split at hj
  ·have:=ew hs (key x) j y hj
   rename_i h
   simpa [h] using this
  ·cases hj
 have h2:∀y∈l.drop (l.countP fun y=>decide (key y<key x)),key x≤key y:=by
  intro y hy
  obtain⟨j,hj⟩:=Zm.mp hy
  rw[abC] at hj
  have:=ew hs (key x) _ y hj
  rw[aaa] at this
  omega
 unfold eA
 rw[List.pairwise_append]
 refine⟨hs.sublist (List.take_sublist ..),?_,?_⟩
 ·rw[abE]
  exact⟨h2,hs.sublist (aa5 ..)⟩
 ·intro a ha b hb
  have h3:=h1 a ha
  rcases J0.mp hb with rfl | hb
  ·omega
  ·have:=h2 b hb;omega
theorem jo(key:α→Int)(l:List α)(x:α):(eA key l x).length=l.length+1:=by
 unfold eA
 have:(l.countP fun y=>decide (key y<key x))≤l.length:=ZX
 simp;omega
theorem vV{key:α→Int}{l:List α}{x y:α}(h:y∈eA key l x):y=x∨y∈l:=by
 unfold eA at h
 rw[Yf,J0] at h
 rcases h with h | h | h
 ·exact .inr (ZI h)
 ·exact .inl h
 ·exact .inr (Zq h)
end
noncomputable def ch(c:Nat):Str:=⟨#[c]⟩
noncomputable def al(c:Nat):Nat:=if c<97 then c+32 else c
noncomputable def six:List Nat:=[97,65,98,66,99,67]
theorem cW{c:Nat}(h:c∈six):PySem.Txt.lower (ch c)=ch (al c):=by
 have:(six.all fun c=>PySem.Txt.lower (ch c)==ch (al c))=true:=by decide+kernel
 simpa using E9.mp this c h
theorem AT{c:Nat}(h:c∈six)(d:Nat):(PySem.Txt.lower (ch c++ch c)==ch d)=false:=by
 have h2:(six.all fun c=> (PySem.Txt.lower (ch c++ch c)).length==2)=true:=by decide+kernel
 have h3:=E9.mp h2 c h
 refine abK.mpr fun e=>?_
 have e2:PySem.Txt.lower (ch c++ch c)=ch d:=by simpa using e
 rw[e2] at h3
 cases h3
theorem zD{c:Nat}(h:c∈six):bw (ch c)=true:=by
 have:(six.all fun c=>bw (ch c))=true:=by decide+kernel
 exact E9.mp this c h
theorem Mn{c:Nat}(h:c∈six):bw (ch c++ch c)=true:=by
 have:(six.all fun c=>bw (ch c++ch c))=true:=by decide+kernel
 exact E9.mp this c h
theorem El{k:Nat}(h:k<16):bw (aB k)=true:=by
 have:((List.range 16).all fun k:Nat=>bw (aB k))=true:=by decide+kernel
 exact E9.mp this k (Ya.mpr h)
theorem xW(a b:Nat):(ch a==ch b)=decide (a=b):=by
 by_cases h:a=b
 ·subst h;simp
 ·have:ch a≠ch b:=by
   intro e
   have:=E8 Str.cps e
   simp[ch] at this
   exact h this
  simp[h,this]
noncomputable def aJ:Nat→List Nat→List (Str×Str)
 | _,[]=>[]
 | k,c::r=> (ch c,aB k)::(ch c++ch c,Str.ofString "")::aJ (k+1) r
noncomputable def aa:Nat→List Nat→Nat→List Nat
 | _,[],_=>[]
 | k,c::r,d=>if al c=d then k::aa (k+1) r d else aa (k+1) r d
theorem lg:∀(l:List Nat) (k c:Nat),aJ k (l++ [c])=aJ k l++ [(ch c,aB ((k+l.length:Nat):Int)),(ch c++ch c,Str.ofString "")]
 | [],k,c=>rfl
 | a::l,k,c=>by
  simp only[Zd,aJ,lg l (k+1) c,Yy]
  rw[show k+1+l.length=k+(l.length+1) by omega]
theorem jp:∀(l:List Nat) (k:Nat),(aJ k l).length=2*l.length
 | [],_=>rfl
 | a::l,k=>by simp[aJ,jp l];omega
theorem qc{d:Nat}(hd:PySem.Txt.lower nm=ch d):∀(l:List Nat) (k:Nat),(∀c∈l,c∈six)→bP (aJ k l) nm=(aa k l d).map fun s:Nat=> .str (aB s)
 | [],_,_=>rfl
 | c::l,k,h=>by
  have hc:=h c E6
  have ih:=qc hd l (k+1) fun c hc=>h c (E4 _ hc)
  have e1:(PySem.Txt.lower (ch c)==PySem.Txt.lower nm)=decide (al c=d):=by rw[cW hc,hd,xW]
  have e2:(PySem.Txt.lower (ch c++ch c)==PySem.Txt.lower nm)=false:=by rw[hd];exact AT hc d
  unfold bP at ih ⊢
  unfold aJ aa
  rw[Zz,Zz]
  simp only[e1,e2]
  by_cases hx:al c=d
  ·simp[hx,ih]
  ·simp[hx,ih]
theorem ip:∀(l:List Nat) (k d:Nat),∀s∈aa k l d,s<k+l.length
 | [],_,_,s,h=>by simp[aa] at h
 | c::l,k,d,s,h=>by
  unfold aa at h
  split at h
  ·rcases J0.mp h with rfl | h
   ·simp
   ·have:=ip l (k+1) d s h;simp;omega
  ·have:=ip l (k+1) d s h;simp;omega
noncomputable def mi(lv:List Nat)(s:Nat):Int:=al (lv.getD s 0)
noncomputable def cX(lv:List Nat)(i:Nat):List Nat:=(List.range i).foldl (eA (mi lv)) []
theorem jL(lv:List Nat)(i:Nat):cX lv (i+1)=eA (mi lv) (cX lv i) i:=by
 unfold cX
 rw[ab2,ZL]
 rfl
theorem m8(lv:List Nat):∀i,(cX lv i).Pairwise fun a b=>mi lv a≤mi lv b
 | 0=>List.Pairwise.nil
 | i+1=>by rw[jL];exact m6 (m8 lv i) i
theorem gp(lv:List Nat):∀i,(cX lv i).length=i
 | 0=>rfl
 | i+1=>by rw[jL,jo,gp lv i]
theorem zE(lv:List Nat):∀i,∀y∈cX lv i,y<i
 | 0,y,h=>by simp[cX] at h
 | i+1,y,h=>by
  rw[jL] at h
  rcases vV h with rfl | h
  ·omega
  ·have:=zE lv i y h;omega
theorem PJ(a b:Nat):decide ((ch a).cps.toList<(ch b).cps.toList)=decide ((a:Int)<(b:Int)):=by
 have:((ch a).cps.toList<(ch b).cps.toList)↔a<b:=by
  show([a]< [b])↔_
  rw[List.cons_lt_cons_iff];simp
 by_cases h:a<b
 ·rw[Yw (this.mpr h),Yw (by omega)]
 ·rw[Yk (fun x=>h (this.mp x)),Yk (by omega)]
noncomputable def ar(l:List Nat):List AV:=l.map fun s:Nat=> .int s
theorem xX(key:Nat→Int)(l:List Nat)(x:Nat):ar (eA key l x)=(ar l).take (l.countP fun y=>decide (key y<key x))++ .int x::(ar l).drop (l.countP fun y=>decide (key y<key x)):=by
 unfold ar eA
 simp[Y8,Y9]
theorem qd(x y:AV):aS [x,y] none none (some (-1))=[y,x]:=by
 unfold aS
 show((sliceRange 1 (-1) (-1)).filterMap ([x,y][·]?))=_
 have:sliceRange 1 (-1) (-1)=[1,0]:=by decide+kernel
 rw[this];rfl
theorem zF{c:Nat}(h:c∈six):al c∈six:=by
 have:(six.all fun c=>decide (al c∈six))=true:=by decide
 exact Yr (E9.mp this c h)
theorem AU{k:Nat}(h:k<16):PyData.strOk (aB k)=true:=by
 have:((List.range 16).all fun k:Nat=>PyData.strOk (aB k))=true:=by decide+kernel
 exact E9.mp this k (Ya.mpr h)
theorem sb:∀(l:List Nat) (k:Nat),∀p∈aJ k l,p.1.length<1000
 | [],_,p,h=>by simp[aJ] at h
 | c::l,k,p,h=>by
  unfold aJ at h
  rcases J0.mp h with rfl | h
  ·show 1<1000;decide
  rcases J0.mp h with rfl | h
  ·show 2<1000;decide
  ·exact sb l (k+1) p h
noncomputable def m9(L:Str)(y:AV):Option AV:=cond (PySem.Txt.lower (vG (iT (ma y) 1))==L) (some (iT (ma y) 0)) none
theorem si(d:Nat):∀(l:List Nat) (k:Nat),(∀c∈l,c∈six)→(((l.map fun c=>AV.str (ch c)).zipIdx k).map fun p=>AV.tup [.int (p.2:Nat),p.1]).filterMap (m9 (ch d))=ar (aa k l d)
 | [],_,_=>rfl
 | c::l,k,h=>by
  have hc:=h c E6
  have ih:=si d l (k+1) fun c hc=>h c (E4 _ hc)
  rw[Ye,abh,Ye,Ys,ih]
  have e:m9 (ch d) (.tup [.int (k:Nat),.str (ch c)])=cond (PySem.Txt.lower (ch c)==ch d) (some (.int (k:Nat))) none:=rfl
  rw[e,cW hc,xW,aa]
  by_cases hx:al c=d
  ·rw[X6 hx,Yw hx];rfl
  ·rw[X5 hx,Yk hx];rfl
noncomputable def Em(lv:List Nat)(y:AV):Option AV:=some (.lst (ar (aa 0 lv ((vG y).cps.getD 0 0))))
theorem vW:ie (Str.ofString "abc")=[.str (ch 97),.str (ch 98),.str (ch 99)]:=by kernel_rfl!
theorem vX:ie (Str.ofString "AbC")=[.str (ch 65),.str (ch 98),.str (ch 67)]:=by kernel_rfl!
noncomputable def En(T:List (Str×Str))(y:AV):Option AV:=some (.lst (bP T (vG y)))
noncomputable def U1(lv:List Nat)(z:AV):AV:= .str (ch (al (lv.getD (gk z).toNat 0)))
noncomputable def dJ(y:AV):Option AV:=some (.str (aB (gk y)))
noncomputable def vY(y:AV):Option AV:=some (.lst ((qH y).filterMap dJ))
noncomputable def AW(y:AV):Option AV:=some (.lst (qH y).reverse)
section
variable {y:Lay}{g:Gd}{lv:List Nat}
noncomputable def fu(lv:List Nat):List AV:=lv.map fun c=> .str (ch c)
noncomputable def H4(y:Lay)(g:Gd):FI:=⟨"<lambda>",⟨[],[⟨"spot",.none,(q 322 45 49)⟩],.none,[],[],.none,[]⟩,.expr (Ec y g).e,⟨.function,[("spot",.local),("leaves",.free)],false,false,[]⟩⟩
noncomputable def Rs:Str:=Str.ofString "_law_paired.<locals>.<lambda>"
noncomputable abbrev H5(lv:List Nat):=[(10,EO.cell (some (.v (.lst (fu lv)))))]
theorem PK(X:dy y g)(hn:9≤g.n)(b6:lv.length=6)(eZ:∀c∈lv,c∈six)(g0:Gd)(s:Nat)(hs:s<lv.length):Fn g (.f (H4 y g0) Rs [("leaves",10)]) [.v (.int s)] [] [] [(10,.cell (some (.v (.lst (fu lv)))))] (.v (.str (ch (al (lv.getD s 0))))) [(10,.cell (some (.v (.lst (fu lv)))))]:=by
 refine DK hn X.nb (J4 y) X.gx (Ec y) (.v (.str (ch (lv.getD s 0))) .nil) (more:=[]) (fun O=>rfl) rfl (fun v fZ doc pm an d9 ct=>by kernel_rfl!) (by kernel_rfl!) rfl fun g' b=>?_
 have hm:lv.getD s 0∈six:=by rw[N4,N6 hs];exact eZ _ (ZA hs)
 refine a6 (P:=SL (fu lv)∧AG (fu lv) ↑s (.str (ch (getD lv s 0)))∧Str.length (ch (getD lv s 0))≤5592405∧VI (.str (Txt.lower (ch (getD lv s 0)))) (.str (ch (al (getD lv s 0))))∧rf (H5 lv))
  ⟨sz (az (X7 b6)) rfl,fK 0 hs,E1 rfl,E8 (fun x=>RV.v (.str x)) (cW hm),rfl⟩ (by kernel_rfl!)
noncomputable def M9:Vs:=[some (.r 30),none,none,none]
noncomputable def q7(y:Lay)(lv:List Nat)(i:Nat):Os:=[(30,.list (ar (cX lv i))),(40,.any 3 (t7 (aJ 0 (lv.take i)) (y.ad 100))),(11,.cell (some (.r 40))),(10,.cell (some (.v (.lst (fu lv)))))]
noncomputable def Rt(y:Lay)(lv:List Nat)(i:Nat):Hint:=
 let c:=lv.getD i 0
 .v (.val (.ref (y.am 16)))<| .call (.v .none) [(40,.any 3 (t7 (aJ 0 (lv.take i)++ [(ch c,aB i)]) (y.ad 100)))]<| .v (.val (.ref (y.am 16)))<| .call (.v .none) [(40,.any 3 (t7 (aJ 0 (lv.take i)++ [(ch c,aB i)]++ [(ch c++ch c,Str.ofString "")]) (y.ad 100)))]<|
 .call (.v .none) [(30,.list (ar (cX lv (i+1)))),(10,.cell .none)] .nil
theorem PN(X:dy y g)(hn:11≤g.n)(b6:lv.length=6)(eZ:∀c∈lv,c∈six)(i:Nat)(hi:i<6)(g0:Gd):
  Fn g (.v (.val (.ref (y.ad 10)))) [.r 30,.v (.int i)] ["key"] [.f (H4 y g0) Rs [("leaves",10)]] [(30,.list (ar (cX lv i))),(10,.cell (some (.v (.lst (fu lv)))))] (.v .none) [(30,.list (ar (cX lv (i+1)))),(10,.cell (some (.v (.lst (fu lv)))))]:=by
 have ol:(ar (cX lv i)).length=i:=(E7 ..).trans (gp lv i)
 have cl:=ZX (p:=fun z=>decide (mi lv z<mi lv i)) (l:=cX lv i)
 rw[gp] at cl
 have key:∀g',uI g g'→9≤g'.n→∀s:Nat,s<6→Fn g' (.f (H4 y g0) Rs [("leaves",1)]) [.v (.int s)] [] [] [(1,.cell (some (.v (.lst (fu lv)))))] (.v (U1 lv (.int s))) [(1,.cell (some (.v (.lst (fu lv)))))]:=fun g' k hn s hs=>
  (PK (X.bO k) hn b6 eZ g0 s (by rw[b6];exact hs)).lE (fun O=>1) rfl rfl
 have mem:∀(j:Nat) (z:AV),(ar (cX lv i))[j]? =some z→∃s:Nat,(cX lv i)[j]? =some s∧s<i∧z= .int s:=fun j z hz=>by
  rw[ar,Yi] at hz
  cases hs:(cX lv i)[j]? with
  | none=>rw[hs] at hz;cases hz
  | some s=>rw[hs] at hz;cases hz;exact⟨s,rfl,zE lv i s (Yh hs),rfl⟩
 have Z:kz g (ar (cX lv i)) (.f (H4 y g0) Rs [("leaves",1)]) [(1,.cell (some (.v (.lst (fu lv)))))] (U1 lv) (fun j=>decide (j<(cX lv i).countP fun z=>decide (mi lv z<mi lv i))) 0 (ar (cX lv i)).length ((cX lv i).countP fun z=>decide (mi lv z<mi lv i)):=
  ⟨YK _,by rw[ol];exact cl,N1 _,by rw[ol];exact E2 (YA hi) (by decide),fun O O O=>rfl,fun g' k hn j z hz=>by
   obtain⟨s,_,hs,rfl⟩:=mem j z hz
   exact key g' k hn s (aar hs hi)⟩
 have:=(HR X hn Z (x:= .int i) (fun g' k hn=>key g' k hn i hi) (fun j z hz=>by
  obtain⟨s,hj,hs,rfl⟩:=mem j z hz
  exact .inr ⟨_,_,rfl,rfl,(PJ _ _).trans (ew (m8 lv i) (mi lv i) j s hj)⟩)).lE (fun k=>cond (beq k 0) 30 10) rfl rfl
 rw[← xX,← jL] at this
 exact this
theorem AX(X:dy y g)(hn:11≤g.n)(b6:lv.length=6)(eZ:∀c∈lv,c∈six)(i:Nat)(c:Nat)(hc:lv[i]? =some c)(R:RV→S→Prop):
  (Ed y g).set (.v (.tup [.int i,.str (ch c)])) ⟨M9,q7 y lv i,Rt y lv i⟩ fun s2=> (Ee y g).ex s2 fun f s3=>ca f (True∧aA s3 M9 (q7 y lv (i+1))) False fun v=>R v s3:=by
 have WM:lv.getD i 0=c:=ft hc
 unfold Rt
 rw[WM]
 have hi:i<6:=by rw[← b6];exact(Ym.mp hc).1
 have tn:=eZ c (Yh hc)
 have tl:(aJ 0 (lv.take i)).length≤12:=by
  rw[jp,YS]
  exact Zv 2 (E2 (Nat.min_le_left ..) (YA hi))
 have PO:2≤g.n:=E2 (by decide) hn
 have e2:aJ 0 (lv.take (i+1))=aJ 0 (lv.take i)++ [(ch c,aB i)]++ [(ch c++ch c,Str.ofString "")]:=by
  have:lv.take (i+1)=lv.take i++ [c]:=by rw[Zi,hc];rfl
  rw[this,lg,YS,b6,ZG (YA hi),YQ,Yc];rfl
 have a1:=(D6 X PO (l:=aJ 0 (lv.take i)) (zD tn) (El (aar hi (by decide))) (bd tl rfl)).shift 40
 have a2:=(D6 X PO (l:=aJ 0 (lv.take i)++ [(ch c,aB i)]) (Mn tn) UW (bd (gD tl (N1 1)) rfl)).shift 40
 refine a6 (P:=Mt g (EO.any 3 (t7 (aJ 0 (take i lv)) (y.ad 100))) (Str.ofString "add_header") (AV.val (Value.ref (y.am 16)))∧natAbs ↑i<1000000∧_∧Mt g (EO.any 3 (t7 (aJ 0 (take i lv)++ [(ch c,aB ↑i)]) (y.ad 100))) (Str.ofString "add_header") (AV.val (Value.ref (y.am 16)))∧Str.length (ch c)+Str.length (ch c)≤sizeLine∧_∧_∧True∧aA (.mk ([some (.r 30),some (.v (.int ↑i)),some (.v (.str (ch c))),none]) ([(30,EO.list (ar (cX lv (i+1)))),(40,EO.any 3 (t7 (aJ 0 (take i lv)++ [(ch c,aB ↑i)]++ [(ch c++ch c,Str.ofString "")]) (y.ad 100))),(11,EO.cell (some (.r 40))),(10,EO.cell (some (.v (.lst (fu lv)))))]) .nil) (M9) (q7 y lv (i+1)))
  ⟨Ps X _,aar hi (by decide),a1,Ps X _,E1 rfl,a2,PN X hn b6 eZ i hi g,trivial,by unfold q7;rw[e2];rfl⟩ (by kernel_rfl!)
noncomputable abbrev zG(d:Nat)(os:Os):=(29,EO.cell (some (.v (.str (ch d)))))::os
theorem Mo(os:Os)(d:Nat)(eZ:∀c∈lv,c∈six):(Ef y g).turn ((29,.cell (some (.v (.str (ch d)))))::os) (m9 (ch d)) (fun O=> .a (.sp .nil .nil)) (aV (fu lv)):=fun g' b z hz=>by
 obtain⟨k,c,rfl,hc⟩:=jk hz
 obtain⟨c,hc,rfl⟩:∃c',c'∈lv∧.str (ch c')=c:=N5.mp (Yh hc)
 refine a6 (P:=Str.length (ch c)≤5592405∧((Txt.lower (ch c)==ch d)=true→m9 (ch d) (AV.tup [.int ↑k,AV.str (ch c)])=some (.int ↑k)∧rf (zG d os))∧((Txt.lower (ch c)==ch d)=false→m9 (ch d) (AV.tup [.int ↑k,AV.str (ch c)])=none∧rf (zG d os)))
  ⟨E1 rfl,fun h=> ⟨(E8 (fun b=>cond b (some (AV.int k)) none) h:_=cond true _ _),rfl⟩,fun h=> ⟨(E8 (fun b=>cond b (some (AV.int k)) none) h:_=cond false _ _),rfl⟩⟩ (by kernel_rfl!)
noncomputable def Mp(lv:List Nat)(y:AV):Hint:= .f (m9 (vG y)) (fun O=> .a (.sp .nil .nil))<| .v (.lst (ar (aa 0 lv ((vG y).cps.getD 0 0)))) .nil
theorem Eo(b6:lv.length=6)(i:Nat)(eZ:∀c∈lv,c∈six):(Eg y g).JP (Str.ofString "letter") 29 (q7 y lv i) (Em lv) (Mp lv) (ie (Str.ofString "abc")):=fun g' b z hz=>by
 obtain⟨d,rfl⟩:∃d,z= .str (ch d):=by
  rw[vW] at hz
  rcases J0.mp hz with rfl | hz
  ·exact⟨_,rfl⟩
  ·rcases J0.mp hz with rfl | hz
   ·exact⟨_,rfl⟩
   ·exact⟨_,X8.mp hz⟩
 refine a6 (P:=SL (aV (fu lv))∧LC.turn (Ef y g') ((29,EO.cell (some (.v (.str (ch d)))))::q7 y lv i) (m9 (Str.mk #[d])) (fun(x:AV)=>Hint.a (Hint.sp .nil .nil)) (aV (fu lv))∧filterMap (m9 (Str.mk #[d])) (aV (fu lv))=ar (aa 0 lv (Array.getD (Str.cps (Str.mk #[d])) 0 0))∧Em lv (AV.str (ch d))=some (.lst (ar (aa 0 lv (Array.getD (Str.cps (Str.mk #[d])) 0 0))))∧(∃(o:Option RV),(29,EO.cell (some (.v (.str (ch d)))))::q7 y lv i=(29,EO.cell o)::q7 y lv i))
  ⟨sz (X7 ((em _).trans ((E7 ..).trans b6))) rfl,Mo _ d eZ,si d lv 0 eZ,rfl,_,rfl⟩ (by kernel_rfl!)
theorem Ep(i:Nat)(l:List AV)(hl:∀z∈l,∃p q:Nat,z= .lst [.int p,.int q]):(Eh y g).turn (q7 y lv i) AW (fun z=> .v (.lst (qH z).reverse)<| .f some (fun O=> .nil) .nil) l:=fun g' b z hz=>by
 obtain⟨p,q,rfl⟩:=hl z hz
 refine a6 (P:=SL [AV.int ↑p,.int ↑q]∧AV.lst (aS [AV.int ↑p,.int ↑q] none none (some (-1:Int)))= .lst (reverse [.int ↑p,.int ↑q])∧rf (q7 y lv i)∧rf (dG AW (AV.lst [.int ↑p,AV.int ↑q]))∧(∀z:AV,(z∈reverse [AV.int ↑p,.int ↑q])→((some z)=(some z))∧aA (.mk ([none,some (.v (.lst [.int ↑p,AV.int ↑q])),some (.v z)]) (q7 y lv i) .nil) ([none,some (.v (.lst [.int ↑p,AV.int ↑q]))]) (q7 y lv i)))
  ⟨E1 rfl,cf (qd _ _),rfl,rfl,fun O O=> ⟨rfl,rfl⟩⟩ (by kernel_rfl!)
theorem Er(X:dy y g)(hn:9≤g.n)(b6:lv.length=6)(i:Nat):(Ei y g).turn (q7 y lv i) (En (aJ 0 (lv.take i))) (fun z=> .v (.val (.ref (y.am 7)))<| .call (.v (.lst (bP (aJ 0 (lv.take i)) (vG z)))) [(40,.any 3 (t7 (aJ 0 (lv.take i)) (y.ad 100)))] .nil) (ie (Str.ofString "AbC")):=fun g' b z hz=>by
 obtain⟨d,hd,rfl⟩:∃d,d∈six∧z= .str (ch d):=by
  rw[vX] at hz
  rcases J0.mp hz with rfl | hz
  ·exact⟨_,by decide,rfl⟩
  ·rcases J0.mp hz with rfl | hz
   ·exact⟨_,by decide,rfl⟩
   ·exact⟨_,by decide,X8.mp hz⟩
 have tl:(aJ 0 (lv.take i)).length≤12:=by rw[jp];exact Zv 2 (cp (X7 b6))
 have X':=X.bO b.bO
 have f:=(Me X' (by rw[b.n];exact E2 (by decide) hn) (l:=aJ 0 (lv.take i)) (nm:=ch d) (by rw[cW hd];exact zD (zF hd)) (E1 rfl) (sb (lv.take i) 0) (bd tl rfl)).shift 40
 refine a6 (P:=Mt g' (EO.any 3 (t7 (aJ 0 (take i lv)) (y.ad 100))) (Str.ofString "get_all") (AV.val (Value.ref (y.am 7)))∧_∧rf (En (aJ 0 (take i lv)) (AV.str (ch d)))∧rf (q7 y lv i))
  ⟨WD X' _,f,rfl,rfl⟩ (by kernel_rfl!)
theorem Mq(os:Os)(l:List AV)(hl:∀z∈l,∃p:Nat,p<1000∧z= .int p):(Ej y g).turn os dJ (fun O=> .nil) l:=fun g' b z hz=>by
 obtain⟨p,hp,rfl⟩:=hl z hz
 refine a6 (P:=natAbs ↑p<1000000∧rf (dJ (AV.int ↑p))∧rf os)
  ⟨aar hp (by decide),rfl,rfl⟩ (by kernel_rfl!)
theorem AY(os:Os)(l:List AV)(hl:∀z∈l,∃p q:Nat,p<1000∧q<1000∧z= .lst [.int p,.int q]):(Ek y g).turn os vY (fun z=> .f dJ (fun O=> .nil)<| .v (.lst ((qH z).filterMap dJ)) .nil) l:=fun g' b z hz=>by
 obtain⟨p,q,hp,hq,rfl⟩:=hl z hz
 refine a6 (P:=SL [AV.int ↑p,.int ↑q]∧LC.turn (Ej y g') os dJ (fun O=> .nil) [AV.int ↑p,.int ↑q]∧rf (filterMap dJ [AV.int ↑p,.int ↑q])∧rf (vY (AV.lst [.int ↑p,AV.int ↑q]))∧rf os)
  ⟨E1 rfl,Mq os _ (fun z hz=> (J0.mp hz).elim (fun e=> ⟨p,hp,e⟩) fun hz=> ⟨q,hq,X8.mp hz⟩),rfl,rfl,rfl⟩ (by kernel_rfl!)
theorem AZ(X:dy y g)(hn:12≤g.n)(b6:lv.length=6)(eZ:∀c∈lv,c∈six)
  (hd:∀d∈[97,98,99],∃a b,aa 0 lv d=[a,b]) (H6:cX lv 6=(aa 0 lv 97).reverse++((aa 0 lv 98).reverse++(aa 0 lv 99).reverse)):
  Fn g (.v (.val (.ref (y.ad 77)))) [.v (.lst (fu lv))] [] [] [] (.v (.lst [.lst (ar (aa 0 lv 97)),.lst (ar (aa 0 lv 98)),.lst (ar (aa 0 lv 99))])) []:=by
 refine jg (YP (k:=3) hn) X.nb (X.fn 77 "_law_paired" (by decide)) (J2 y) X.gx (WL y) [.v (.lst (fu lv))] 10
  (.call (.r 0) [(0,.any 3 (t7 [] (y.ad 100)))]<| .loop (fun O=>True) (fun O=>M9) (q7 y lv) (fun i O=>Rt y lv i)<|
   .f (Em lv) (Mp lv)<| .v (.lst [.lst (ar (aa 0 lv 97)),.lst (ar (aa 0 lv 98)),.lst (ar (aa 0 lv 99))])<|
   .f AW (fun z=> .v (.lst (qH z).reverse)<| .f some (fun O=> .nil) .nil)<| .v (.lst (ar (cX lv 6)))<| .b true<| .a<|
   .f (En (aJ 0 lv)) (fun z=> .v (.val (.ref (y.am 7)))<| .call (.v (.lst (bP (aJ 0 lv) (vG z)))) [(40,.any 3 (t7 (aJ 0 lv) (y.ad 100)))] .nil)<|
   .v (.lst [.lst ((ar (aa 0 lv 97)).filterMap dJ),.lst ((ar (aa 0 lv 98)).filterMap dJ),.lst ((ar (aa 0 lv 99)).filterMap dJ)])<|
   .f vY (fun z=> .f dJ (fun O=> .nil)<| .v (.lst ((qH z).filterMap dJ)) .nil)<|
   .v (.lst [.lst ((ar (aa 0 lv 97)).filterMap dJ),.lst ((ar (aa 0 lv 98)).filterMap dJ),.lst ((ar (aa 0 lv 99)).filterMap dJ)])<| .b true<| .a<| .a .nil)
  (more:=(s8 77).scope.more) (fun O=>by kernel_rfl!) (by kernel_rfl!) rfl
  (fun ρ bd F s vs kvs doc pm an d9 ct O hv hG=>oJ hv hG fun vs hl=>by
   obtain⟨_,rfl⟩:=qY hl
   exact abf (by kernel_rfl!)) (by kernel_rfl!) (fun O=>by kernel_rfl!) (fun p hp=>by cases X8.mp hp;exact X.Rm) (fun g' b=>?_)
 ·have X':=X.bO b.bO
  have el:(aV (fu lv)).length=6:=(em _).trans ((E7 ..).trans b6)
  have fs:aW (Ed y g') (Ee y g') (aV (fu lv)) (fun O=>True) (fun O=>M9) (q7 y lv) (fun i O=>Rt y lv i) fun v s3=>cO (.ret v) s3 (.lst [.lst (ar (aa 0 lv 97)),.lst (ar (aa 0 lv 98)),.lst (ar (aa 0 lv 99))]) []:=fun i z hz O=>by
   obtain⟨c,hc,rfl⟩:=gW hz
   exact AX X' (by rw[b.n];exact Yj hn) b6 eZ i c hc _
  obtain⟨p1,q1,h1⟩:=hd 97 (by decide)
  obtain⟨p2,q2,h2⟩:=hd 98 (by decide)
  obtain⟨p3,q3,h3⟩:=hd 99 (by decide)
  have lt:∀d,∀s∈aa 0 lv d,s<1000:=fun d s hs=>J3 (ip lv 0 d s hs) (by rw[b6];decide)
  have pr:∀z∈[AV.lst (ar (aa 0 lv 97)),.lst (ar (aa 0 lv 98)),.lst (ar (aa 0 lv 99))],∃p q:Nat,p<1000∧q<1000∧z= .lst [.int p,.int q]:=fun z hz=>by
   rcases J0.mp hz with rfl | hz
   ·exact⟨p1,q1,lt 97 _ (by rw[h1];exact E6),lt 97 _ (by rw[h1];exact E4 _ E6),by rw[h1];rfl⟩
   rcases J0.mp hz with rfl | hz
   ·exact⟨p2,q2,lt 98 _ (by rw[h2];exact E6),lt 98 _ (by rw[h2];exact E4 _ E6),by rw[h2];rfl⟩
   ·rw[X8.mp hz]
    exact⟨p3,q3,lt 99 _ (by rw[h3];exact E6),lt 99 _ (by rw[h3];exact E4 _ E6),by rw[h3];rfl⟩
  have fl: [AV.lst (ar (aa 0 lv 97)),.lst (ar (aa 0 lv 98)),.lst (ar (aa 0 lv 99))].flatMap (dG AW)=ar (cX lv 6):=by rw[H6,h1,h2,h3];rfl
  have gt:=Er X' (by rw[b.n];exact E2 (by decide) (Yj hn)) b6 6
  have tk:lv.take 6=lv:=YN (X7 b6)
  rw[tk] at gt
  have ga:∀c d,PySem.Txt.lower (ch c)=ch d→bP (aJ 0 lv) (ch c)=(ar (aa 0 lv d)).filterMap dJ:=fun c d h=>by
   rw[qc h lv 0 eZ]
   unfold ar
   rw[aaK]
   exact(List.filterMap_eq_map (f:=fun s:Nat=>AV.str (aB s))▸rfl)
  refine a6 (P:=Pn g' (RV.v (.val (Value.ref (y.ad 100)))) [] (t7 [] (y.ad 100))∧(True∧EE ((fun(x:Nat)=>M9) 0) (q7 y lv 0))∧_∧(True→(Array.all (Str.cps (Str.ofString "abc")) fun(x:Nat)=>decide (x<128))=true∧SL (ie (Str.ofString "abc"))∧LC.JP (Eg y g') (Str.ofString "letter") 29 (q7 y lv (length (aV (fu lv)))) (Em lv) (Mp lv) (ie (Str.ofString "abc"))∧filterMap (Em lv) (ie (Str.ofString "abc"))=[.lst (ar (aa 0 lv 97)),.lst (ar (aa 0 lv 98)),.lst (ar (aa 0 lv 99))]∧LD.turn (Eh y g') (q7 y lv (length (aV (fu lv)))) AW (fun(z:AV)=>Hint.v (AV.lst (reverse (qH z))) (Hint.f some (fun O=> .nil) .nil)) [AV.lst (ar (aa 0 lv 97)),.lst (ar (aa 0 lv 98)),.lst (ar (aa 0 lv 99))]∧(flatMap (dG AW) [AV.lst (ar (aa 0 lv 97)),.lst (ar (aa 0 lv 98)),.lst (ar (aa 0 lv 99))]=ar (cX lv 6)∧SL (ar (cX lv 6)))∧vw (ar (cX lv (length (aV (fu lv))))) (AV.lst (ar (cX lv 6))) true∧(Array.all (Str.cps (Str.ofString "AbC")) fun(x:Nat)=>decide (x<128))=true∧SL (ie (Str.ofString "AbC"))∧LC.turn (Ei y g') (q7 y lv (length (aV (fu lv)))) (En (aJ 0 lv)) (fun(z:AV)=>Hint.v (AV.val (Value.ref (y.am 7))) (Hint.call (RV.v (.lst (bP (aJ 0 lv) (vG z)))) [(40,EO.any 3 (t7 (aJ 0 lv) (y.ad 100)))] .nil)) (ie (Str.ofString "AbC"))∧filterMap (En (aJ 0 lv)) (ie (Str.ofString "AbC"))=[.lst (filterMap dJ (ar (aa 0 lv 97))),.lst (filterMap dJ (ar (aa 0 lv 98))),.lst (filterMap dJ (ar (aa 0 lv 99)))]∧SL [AV.lst (ar (aa 0 lv 97)),.lst (ar (aa 0 lv 98)),.lst (ar (aa 0 lv 99))]∧LC.turn (Ek y g') (q7 y lv (length (aV (fu lv)))) vY (fun(z:AV)=>Hint.f dJ (fun O=> .nil) (Hint.v (AV.lst (filterMap dJ (qH z))) .nil)) [AV.lst (ar (aa 0 lv 97)),.lst (ar (aa 0 lv 98)),.lst (ar (aa 0 lv 99))]∧filterMap vY [AV.lst (ar (aa 0 lv 97)),.lst (ar (aa 0 lv 98)),.lst (ar (aa 0 lv 99))]=[.lst (filterMap dJ (ar (aa 0 lv 97))),.lst (filterMap dJ (ar (aa 0 lv 98))),.lst (filterMap dJ (ar (aa 0 lv 99)))]∧dS (AV.lst [.lst (filterMap dJ (ar (aa 0 lv 97))),AV.lst (filterMap dJ (ar (aa 0 lv 98))),AV.lst (filterMap dJ (ar (aa 0 lv 99)))]) (AV.lst [.lst (filterMap dJ (ar (aa 0 lv 97))),AV.lst (filterMap dJ (ar (aa 0 lv 98))),AV.lst (filterMap dJ (ar (aa 0 lv 99)))]) true∧VI (.lst [.lst (ar (aa 0 lv 97)),.lst (ar (aa 0 lv 98)),.lst (ar (aa 0 lv 99))]) (.lst [.lst (ar (aa 0 lv 97)),.lst (ar (aa 0 lv 98)),.lst (ar (aa 0 lv 99))])∧([]:Os)=[]))
   ⟨Tf X' (by rw[b.n];exact E2 (by decide) (Yj hn)),⟨trivial,rfl⟩,fs,fun O=>?_⟩ (by kernel_rfl!)
  rw[el]
  refine⟨by decide+kernel,by decide+kernel,Eo b6 6 eZ,by rw[vW];rfl,Ep 6 _ (fun z hz=>?_),⟨fl,?_⟩,?_,by decide+kernel,by decide+kernel,gt,?_,E1 rfl,AY _ _ pr,rfl,?_,rfl,rfl⟩
  ·obtain⟨p,q,_,_,e⟩:=pr z hz
   exact⟨p,q,e⟩
  ·exact sz (X7 ((E7 ..).trans (gp lv 6))) rfl
  ·have:=xU (xs:=(cX lv 6).map fun s:Nat=> (s:Int)) (ys:=(cX lv 6).map fun s:Nat=> (s:Int))
   rw[Yw rfl,YU] at this
   exact this
  ·rw[vX]
   show [AV.lst (bP (aJ 0 lv) (ch 65)),.lst (bP (aJ 0 lv) (ch 98)),.lst (bP (aJ 0 lv) (ch 67))]=_
   rw[ga 65 97 (cW (by decide)),ga 98 98 (cW (by decide)),ga 67 99 (cW (by decide))]
  ·rw[h1,h2,h3]
   have sk:∀d s,s∈aa 0 lv d→PyData.strOk (aB s)=true:=fun d s hs=>AU (J3 (ip lv 0 d s hs) (by rw[b6];decide))
   have sh:shaped (.list [.list [.str (aB p1),.str (aB q1)],.list [.str (aB p2),.str (aB q2)],.list [.str (aB p3),.str (aB q3)]])=true:=by
    unfold shaped
    simp only[canLay0,canLayAll0,depth,depthAll,sk 97 p1 (by rw[h1];exact E6),sk 97 q1 (by rw[h1];exact E4 _ E6),sk 98 p2 (by rw[h2];exact E6),sk 98 q2 (by rw[h2];exact E4 _ E6),sk 99 p3 (by rw[h3];exact E6),sk 99 q3 (by rw[h3];exact E4 _ E6)];rfl
   exact⟨_,_,rfl,rfl,rfl,rfl,sh,sh,by simp[eqv,eqvAll]⟩
end
end
end
section
section
section
variable {g:Gd}{F:FM}{C:Ctx}{ρ ρ':eJ}{env:Env}{M:Mem}{s:S}
noncomputable def SS.Tl(t:TG C)(i:Nat)(fp:Pos)(x z:SE C)(zp:Pos)(b:SB C)(pos:Pos)(hn:tI t.e):SS C:=⟨.For t.e (.Call (.Name (lD C.gx i).1 fp) (iV [x,z]) [] zp) b.ss [] pos,
 fun s K=> (SE.qU i fp:SE C).ev s fun f s1=>Ay [x,z] s1 fun xs s2=>mG f (fun bb=>gT (JN bb) (a2 xs (fun a c=>mL a (fun l=>mL c (fun m=>Dz s2 fun I vs os h k=> (I 0∧aA s2 (vs 0) (os 0))∧
  aW t b (gQ l m) I vs os h (fun v s3=>K (.ret v) s3)∧(I (gQ l m).length→K .next ⟨vs (gQ l m).length,os (gQ l m).length,k⟩)) False) False) False)) False,
 fun {ρ env M s K} fr h=>by
  refine uX (gb (cA ((SE.qU i fp:SE C).ok fr h) fun f s1 h=>qV (gC fr zp h) fun xs s2 h=>?_) rfl (by rw[dE fr];rfl) (eo _ _)) (fun O=>rfl)
  refine y0 (P:=fun f=>b8 C.g (ah ρ f) (xs.map (ah ρ)) [] [] (tr C ρ M s2) fun v st=>ry C.g env t.e b.ss v st (PF C ρ M K)) h (fun bb h=>?_) False.elim
  obtain⟨hb,h⟩:=aC h
  cases Dy hb
  refine rO (P:=fun xs=>b8 C.g _ (xs.map (ah ρ)) [] [] (tr C ρ M s2) fun v st=>ry C.g env t.e b.ss v st (PF C ρ M K)) h (fun a c h=>?_) False.elim
  refine gU (P:=fun a=>b8 C.g _ [ah ρ a,ah ρ c] [] [] (tr C ρ M s2) fun v st=>ry C.g env t.e b.ss v st (PF C ρ M K)) h (fun l h=>?_) False.elim
  refine gU (P:=fun c=>b8 C.g _ [.lst l,ah ρ c] [] [] (tr C ρ M s2) fun v st=>ry C.g env t.e b.ss v st (PF C ρ M K)) h (fun m h=>?_) False.elim
  refine vC h fun I vs os hh k ⟨⟨hI,h0⟩,oK,kv⟩=>eI (Od fun z TI TO i1 i2=>?_)
  refine uY (CC true) hn (fun i st=>I i∧∃ρ',Pin C ρ ρ'∧Wk C.g st (tr C ρ' M ⟨vs i,os i,.nil⟩)) ⟨hI,ρ,Pin.refl,aA.wk h0⟩ (fun O O O=>trivial) (fun i y st hy ⟨hi,ρ',p,w⟩=>?_) fun st ⟨hi,ρ',p,w⟩=> .mk (f:= .next) (s:=⟨vs (gQ l m).length,os (gQ l m).length,k⟩) p w (kv hi)
  exact W1.weak w (je (t.ok (v:= .v y) (s:=⟨vs i,os i,hh i y⟩) (fr.pin p) (oK i y hy hi)) fun s2 h=> (b.ok (fr.pin p) h).mono fun f st q=>tU p q fun j pi p' st w=> ⟨j,pi,p',w⟩)⟩
noncomputable def SE.told(x:SE C):SE C:=⟨x.e,fun s K=>x.ev s fun a s1=>hV s1 fun v s2=>a= .v v∧K (.v v) s2,fun O O=>False,x.ai,x.sw,fun fr h=>cA (x.ok fr h) fun a s1 h=>gj h fun v k h'=>by
 obtain⟨rfl,h'⟩:=h'
 exact pe h',fun O h=>h.elim,x.fm⟩
noncomputable def J7:Op:=fun a b s K=>ff a b (fun x y=>K (.v (.bool (Float64.cmp x y==some .eq))) s) False
theorem Es:ik (compareOp .Eq) J7:=fun {C ρ env M a b s K} fr h=>kZ (P:=fun a b=>W2 C.g VR _ (ah ρ a) (ah ρ b) (tr C ρ M s) (PV C ρ M K)) h (fun O O h=>OA (dY h)) False.elim
noncomputable def SE.q8(l r:SE C)(p:Pos:=ig l.p r.p 0 0):SE C:=SE.Db l r .Eq J7 Es p
def Tm(a b:RV):Prop:= ∃x y z,a= .v (.tup [.aT x,.aT y,.aT z])∧b= .v (.tup [.aT x,.aT y,.aT z])∧Float64.isNaN x=false∧Float64.isNaN y=false∧Float64.isNaN z=false
noncomputable def PP:Op:=fun a b s K=>Tm a b∧K (.v (.bool true)) s
theorem H7:ik (compareOp .Eq) PP:=fun {C ρ env M a b s K} fr h=>by
 obtain⟨⟨x,y,z,rfl,rfl,h1,h2,h3⟩,h⟩:=h
 exact Lr fr.nb h1 h2 h3 (dY h)
noncomputable def SE.PQ(l r:SE C)(p:Pos:=ig l.p r.p 0 0):SE C:=SE.Db l r .Eq PP H7 p
end
end
end
section
section
noncomputable def U2(y:Lay):Cx:=cx y ["r","g","b","maxc","minc","sumc","rangec","l","s","rc","gc","bc","h"] [] [3,4] true
noncomputable def WN(y:Lay)(g:Gd):SB ⟨U2 y,g⟩:= .cons (.ag (.loc 3) 149 4 (.cl 3 149 11 [(.lo 0 149 15),(.lo 1 149 18),(.lo 2 149 21)]))<| .cons (.ag (.loc 4) 150 4 (.cl 4 150 11 [(.lo 0 150 15),(.lo 1 150 18),(.lo 2 150 21)]))<| .cons (.ag (.loc 5) 151 4 (.add (.lo 3 151 11) (.lo 4 151 18)))<| .cons (.ag (.loc 6) 152 4 (.sub (.lo 3 152 13) (.lo 4 152 20)))<| .cons (.ag (.loc 7) 153 4 (.bU (.lo 5 153 8) (.aT 4611686018427387904 0 (q 153 15 18))))<| .cons (.ite (.q8 (.lo 4 154 7) (.lo 3 154 15)) (.cons (.ret (.tup [(.aT 0 0 (q 155 16 19)),(.lo 7 155 21),(.aT 0 0 (q 155 24 27))]))<| .nil) .nil ⟨154,4,155,28⟩)<| .cons (.ite (.le (.lo 7 156 7) (.aT 4602678819172646912 0 (q 156 12 15))) (.cons (.ag (.loc 8) 157 8 (.bU (.lo 6 157 12) (.lo 5 157 21)))<| .nil) (.cons (.ag (.loc 8) 159 8 (.bU (.lo 6 159 12) (.sub (.sub (.aT 4611686018427387904 0 (q 159 22 25)) (.lo 3 159 28)) (.lo 4 159 35)) (q 159 12 40)))<| .nil) ⟨156,4,159,40⟩)<| .cons (.ag (.loc 9) 160 4 (.bU (.sub (.lo 3 160 10) (.lo 0 160 17)) (.lo 6 160 22) (q 160 9 28)))<| .cons (.ag (.loc 10) 161 4 (.bU (.sub (.lo 3 161 10) (.lo 1 161 17)) (.lo 6 161 22) (q 161 9 28)))<| .cons (.ag (.loc 11) 162 4 (.bU (.sub (.lo 3 162 10) (.lo 2 162 17)) (.lo 6 162 22) (q 162 9 28)))<| .cons (.ite (.q8 (.lo 0 163 7) (.lo 3 163 12)) (.cons (.ag (.loc 12) 164 8 (.sub (.lo 11 164 12) (.lo 10 164 17)))<| .nil) (.cons (.ite (.q8 (.lo 1 165 9) (.lo 3 165 14)) (.cons (.ag (.loc 12) 166 8 (.sub (.add (.aT 4611686018427387904 0 (q 166 12 15)) (.lo 9 166 18)) (.lo 11 166 23)))<| .nil) (.cons (.ag (.loc 12) 168 8 (.sub (.add (.aT 4616189618054758400 0 (q 168 12 15)) (.lo 10 168 18)) (.lo 9 168 23)))<| .nil) ⟨165,4,168,25⟩)<| .nil) ⟨163,4,168,25⟩)<| .cons (.ag (.loc 12) 169 4 (.mod (.bU (.lo 12 169 8) (.aT 4618441417868443648 0 (q 169 12 15))) (.aT 4607182418800017408 0 (q 169 18 21))))<| .cons (.ret (.tup [(.lo 12 170 12),(.lo 7 170 15),(.lo 8 170 18)]))<| .nil
noncomputable def U3(y:Lay):Cx:=cx y ["r","g","b","maxc","minc","rangec","v","s","rc","gc","bc","h"] [] [3,4] true
noncomputable def WO(y:Lay)(g:Gd):SB ⟨U3 y,g⟩:= .cons (.ag (.loc 3) 172 4 (.cl 3 172 11 [(.lo 0 172 15),(.lo 1 172 18),(.lo 2 172 21)]))<| .cons (.ag (.loc 4) 173 4 (.cl 4 173 11 [(.lo 0 173 15),(.lo 1 173 18),(.lo 2 173 21)]))<| .cons (.ag (.loc 5) 174 4 (.sub (.lo 3 174 13) (.lo 4 174 20)))<| .cons (.ag (.loc 6) 175 4 (.lo 3 175 8))<| .cons (.ite (.q8 (.lo 4 176 7) (.lo 3 176 15)) (.cons (.ret (.tup [(.aT 0 0 (q 177 16 19)),(.aT 0 0 (q 177 21 24)),(.lo 6 177 26)]))<| .nil) .nil ⟨176,4,177,28⟩)<| .cons (.ag (.loc 7) 178 4 (.bU (.lo 5 178 8) (.lo 3 178 17)))<| .cons (.ag (.loc 8) 179 4 (.bU (.sub (.lo 3 179 10) (.lo 0 179 17)) (.lo 5 179 22) (q 179 9 28)))<| .cons (.ag (.loc 9) 180 4 (.bU (.sub (.lo 3 180 10) (.lo 1 180 17)) (.lo 5 180 22) (q 180 9 28)))<| .cons (.ag (.loc 10) 181 4 (.bU (.sub (.lo 3 181 10) (.lo 2 181 17)) (.lo 5 181 22) (q 181 9 28)))<| .cons (.ite (.q8 (.lo 0 182 7) (.lo 3 182 12)) (.cons (.ag (.loc 11) 183 8 (.sub (.lo 10 183 12) (.lo 9 183 17)))<| .nil) (.cons (.ite (.q8 (.lo 1 184 9) (.lo 3 184 14)) (.cons (.ag (.loc 11) 185 8 (.sub (.add (.aT 4611686018427387904 0 (q 185 12 15)) (.lo 8 185 18)) (.lo 10 185 23)))<| .nil) (.cons (.ag (.loc 11) 187 8 (.sub (.add (.aT 4616189618054758400 0 (q 187 12 15)) (.lo 9 187 18)) (.lo 8 187 23)))<| .nil) ⟨184,4,187,25⟩)<| .nil) ⟨182,4,187,25⟩)<| .cons (.ag (.loc 11) 188 4 (.mod (.bU (.lo 11 188 8) (.aT 4618441417868443648 0 (q 188 12 15))) (.aT 4607182418800017408 0 (q 188 18 21))))<| .cons (.ret (.tup [(.lo 11 189 12),(.lo 7 189 15),(.lo 6 189 18)]))<| .nil
noncomputable def U4(y:Lay):Cx:=cx y ["h","s","v","i","f","p","q","t"] [] [7] true
noncomputable def WP(y:Lay)(g:Gd):SB ⟨U4 y,g⟩:= .cons (.ite (.q8 (.lo 1 191 7) (.aT 0 0 (q 191 12 15))) (.cons (.ret (.tup [(.lo 2 192 16),(.lo 2 192 19),(.lo 2 192 22)]))<| .nil) .nil ⟨191,4,192,24⟩)<| .cons (.ag (.loc 3) 193 4 (.cl 7 193 8 [(.mul (.lo 0 193 12) (.aT 4618441417868443648 0 (q 193 16 19)))]))<| .cons (.ag (.loc 4) 194 4 (.sub (.mul (.lo 0 194 8) (.aT 4618441417868443648 0 (q 194 12 15))) (.lo 3 194 18)))<| .cons (.ag (.loc 5) 195 4 (.mul (.lo 2 195 8) (.sub (.aT 4607182418800017408 0 (q 195 13 16)) (.lo 1 195 19)) (q 195 8 21)))<| .cons (.ag (.loc 6) 196 4 (.mul (.lo 2 196 8) (.sub (.aT 4607182418800017408 0 (q 196 13 16)) (.mul (.lo 1 196 19) (.lo 4 196 23))) (q 196 8 25)))<| .cons (.ag (.loc 7) 197 4 (.mul (.lo 2 197 8) (.sub (.aT 4607182418800017408 0 (q 197 13 16)) (.mul (.lo 1 197 19) (.sub (.aT 4607182418800017408 0 (q 197 24 27)) (.lo 4 197 30)) (q 197 19 32))) (q 197 8 33)))<| .cons (.ag (.loc 3) 198 4 (.md (.lo 3 198 8) 6 12))<| .cons (.ite (.eq (.lo 3 199 7) (.nt 0 199 12)) (.cons (.ret (.tup [(.lo 2 200 16),(.lo 7 200 19),(.lo 5 200 22)]))<| .nil) .nil ⟨199,4,200,24⟩)<| .cons (.ite (.eq (.lo 3 201 7) (.nt 1 201 12)) (.cons (.ret (.tup [(.lo 6 202 16),(.lo 2 202 19),(.lo 5 202 22)]))<| .nil) .nil ⟨201,4,202,24⟩)<| .cons (.ite (.eq (.lo 3 203 7) (.nt 2 203 12)) (.cons (.ret (.tup [(.lo 5 204 16),(.lo 2 204 19),(.lo 7 204 22)]))<| .nil) .nil ⟨203,4,204,24⟩)<| .cons (.ite (.eq (.lo 3 205 7) (.nt 3 205 12)) (.cons (.ret (.tup [(.lo 5 206 16),(.lo 6 206 19),(.lo 2 206 22)]))<| .nil) .nil ⟨205,4,206,24⟩)<| .cons (.ite (.eq (.lo 3 207 7) (.nt 4 207 12)) (.cons (.ret (.tup [(.lo 7 208 16),(.lo 5 208 19),(.lo 2 208 22)]))<| .nil) .nil ⟨207,4,208,24⟩)<| .cons (.ite (.eq (.lo 3 209 7) (.nt 5 209 12)) (.cons (.ret (.tup [(.lo 2 210 16),(.lo 5 210 19),(.lo 6 210 22)]))<| .nil) .nil ⟨209,4,210,24⟩)<| .nil
noncomputable abbrev F0:UInt64:=0x0000000000000000
noncomputable abbrev Fh:UInt64:=0x3fe0000000000000
noncomputable abbrev F1:UInt64:=0x3ff0000000000000
noncomputable abbrev F2:UInt64:=0x4000000000000000
noncomputable abbrev F4:UInt64:=0x4010000000000000
noncomputable abbrev F6:UInt64:=0x4018000000000000
noncomputable def q8(a b:UInt64):Bool:=Float64.cmp a b==some .eq
noncomputable def Ru(a b:UInt64):Bool:=Float64.cmp a b==some .lt||Float64.cmp a b==some .eq
noncomputable abbrev T3:=UInt64×UInt64×UInt64
noncomputable def q9(x:T3):AV:= .tup [.aT x.1,.aT x.2.1,.aT x.2.2]
noncomputable def bn(k:Int)(f s v:UInt64):T3:=
 let p:=mul v (Float64.sub F1 s)
 let q:=mul v (Float64.sub F1 (mul s f))
 let t:=mul v (Float64.sub F1 (mul s (Float64.sub F1 f)))
 cond (k==0) (v,t,p)<|cond (k==1) (q,v,p)<|cond (k==2) (p,v,t)<|cond (k==3) (p,q,v)<|cond (k==4) (t,p,v) (v,p,q)
noncomputable def nE(h:UInt64):Int:=bZ (mul h F6)
noncomputable def t_(h:UInt64):UInt64:=Float64.sub (mul h F6) (ofInt (nE h))
noncomputable def iq(h s v:UInt64):T3:=bn ((nE h).fmod 6) (t_ h) s v
noncomputable def iN(r g b Et range:UInt64):UInt64:=
 let rc:=div (Float64.sub Et r) range
 let gc:=div (Float64.sub Et g) range
 let bc:=div (Float64.sub Et b) range
 let h:=cond (q8 r Et) (Float64.sub bc gc)<|cond (q8 g Et) (Float64.sub (add F2 rc) bc) (Float64.sub (add F4 gc) rc)
 (divmod (div h F6) F1).2
noncomputable def mx(x:T3):UInt64:=mP Float64.gt x.1 x.2.1 x.2.2
noncomputable def mn(x:T3):UInt64:=mP Float64.lt x.1 x.2.1 x.2.2
noncomputable def qe(x:T3):T3:=(iN x.1 x.2.1 x.2.2 (mx x) (Float64.sub (mx x) (mn x)),div (Float64.sub (mx x) (mn x)) (mx x),mx x)
noncomputable def xY(x:T3):UInt64:=cond (Ru (div (add (mx x) (mn x)) F2) Fh) (div (Float64.sub (mx x) (mn x)) (add (mx x) (mn x))) (div (Float64.sub (mx x) (mn x)) (Float64.sub (Float64.sub F2 (mx x)) (mn x)))
noncomputable def qf(x:T3):T3:=(iN x.1 x.2.1 x.2.2 (mx x) (Float64.sub (mx x) (mn x)),div (add (mx x) (mn x)) F2,xY x)
theorem H8:isZero F6=false:=by decide+kernel
theorem H9:isZero F1=false:=by decide+kernel
theorem WQ:isZero F2=false:=by decide+kernel
theorem xZ{r g b m d:UInt64}(h:q8 r m=true):iN r g b m d=(divmod (div (Float64.sub (div (Float64.sub m b) d) (div (Float64.sub m g) d)) F6) F1).2:=by unfold iN;rw[h];rfl
theorem x4{r g b m d:UInt64}(h:q8 r m=false)(h2:q8 g m=true):iN r g b m d=(divmod (div (Float64.sub (add F2 (div (Float64.sub m r) d)) (div (Float64.sub m b) d)) F6) F1).2:=by unfold iN;rw[h,h2];rfl
theorem x5{r g b m d:UInt64}(h:q8 r m=false)(h2:q8 g m=false):iN r g b m d=(divmod (div (Float64.sub (add F4 (div (Float64.sub m g) d)) (div (Float64.sub m r) d)) F6) F1).2:=by unfold iN;rw[h,h2];rfl
theorem Eu{x:T3}(h:Ru (div (add (mx x) (mn x)) F2) Fh=true):xY x=div (Float64.sub (mx x) (mn x)) (add (mx x) (mn x)):=by unfold xY;rw[h];rfl
theorem Ev{x:T3}(h:Ru (div (add (mx x) (mn x)) F2) Fh=false):xY x=div (Float64.sub (mx x) (mn x)) (Float64.sub (Float64.sub F2 (mx x)) (mn x)):=by unfold xY;rw[h];rfl
theorem Mr{x:T3}{z:UInt64}(h:iN x.1 x.2.1 x.2.2 (mx x) (Float64.sub (mx x) (mn x))=z):RV.v (q9 (z,div (Float64.sub (mx x) (mn x)) (mx x),mx x))= .v (q9 (qe x)):=by subst h;rfl
theorem A1{x:T3}{z w:UInt64}(h:iN x.1 x.2.1 x.2.2 (mx x) (Float64.sub (mx x) (mn x))=z)(h2:xY x=w):RV.v (q9 (z,div (add (mx x) (mn x)) F2,w))= .v (q9 (qf x)):=by subst h;subst h2;rfl
theorem WR(i:Int)(h0:(i.fmod 6==0)=false)(h1:(i.fmod 6==1)=false)(h2:(i.fmod 6==2)=false)(h3:(i.fmod 6==3)=false)(h4:(i.fmod 6==4)=false):(i.fmod 6==5)=true:=by
 have a:=YF i (b:=6) (by decide)
 have b:=YV i (b:=6) (by decide)
 have e0:=ZJ h0
 have e1:=ZJ h1
 have e2:=ZJ h2
 have e3:=ZJ h3
 have e4:=ZJ h4
 exact Y1.mpr (by omega)
section
variable {k:Int}{f s v:UInt64}
theorem H_(e0:(k==0)=true):bn k f s v=(v,mul v (Float64.sub F1 (mul s (Float64.sub F1 f))),mul v (Float64.sub F1 s)):=by unfold bn;rw[e0];rfl
theorem Ia(e0:(k==0)=false)(e1:(k==1)=true):bn k f s v=(mul v (Float64.sub F1 (mul s f)),v,mul v (Float64.sub F1 s)):=by unfold bn;rw[e0,e1];rfl
theorem Ib(e0:(k==0)=false)(e1:(k==1)=false)(e2:(k==2)=true):bn k f s v=(mul v (Float64.sub F1 s),v,mul v (Float64.sub F1 (mul s (Float64.sub F1 f)))):=by unfold bn;rw[e0,e1,e2];rfl
theorem Ic(e0:(k==0)=false)(e1:(k==1)=false)(e2:(k==2)=false)(e3:(k==3)=true):bn k f s v=(mul v (Float64.sub F1 s),mul v (Float64.sub F1 (mul s f)),v):=by unfold bn;rw[e0,e1,e2,e3];rfl
theorem Ie(e0:(k==0)=false)(e1:(k==1)=false)(e2:(k==2)=false)(e3:(k==3)=false)(e4:(k==4)=true):bn k f s v=(mul v (Float64.sub F1 (mul s (Float64.sub F1 f))),mul v (Float64.sub F1 s),v):=by unfold bn;rw[e0,e1,e2,e3,e4];rfl
theorem Ig(e0:(k==0)=false)(e1:(k==1)=false)(e2:(k==2)=false)(e3:(k==3)=false)(e4:(k==4)=false):bn k f s v=(v,mul v (Float64.sub F1 s),mul v (Float64.sub F1 (mul s f))):=by unfold bn;rw[e0,e1,e2,e3,e4];rfl
theorem sj{z:T3}(h:bn k f s v=z):RV.v (q9 z)= .v (q9 (bn k f s v)):=by rw[h]
end
section
variable {y:Lay}{g:Gd}
noncomputable abbrev cG(h:UInt64):=mul h 4618441417868443648
noncomputable abbrev zH(h:UInt64):=Float64.sub (cG h) (ofInt (bZ (cG h)))
noncomputable abbrev jM(v:UInt64)(s:UInt64):=mul v (Float64.sub 4607182418800017408 s)
noncomputable abbrev ua(v:UInt64)(s:UInt64)(h:UInt64):=mul v (Float64.sub 4607182418800017408 (mul s (Float64.sub 4607182418800017408 (zH h))))
noncomputable abbrev ub(v:UInt64)(s:UInt64)(h:UInt64):=mul v (Float64.sub 4607182418800017408 (mul s (zH h)))
theorem q_(X:dy y g)(hn:9≤g.n){h s v:UInt64}(h1:(Float64.cmp s F0==some .eq)=false)
  (h2:isFinite (mul h F6)=true) (h3:isInf (ofInt (nE h))=false):Fn g (.v (.val (.ref (y.ad 15)))) [.v (.aT h),.v (.aT s),.v (.aT v)] [] [] [] (.v (q9 (iq h s v))) []:=by
 refine jZ X hn (X.fn 15 "hsv_to_rgb" (by decide)) (U4 y) (WP y) (.b false<| .a<| .sp .nil<| .a<| .sp .nil<| .a<| .sp .nil<| .a<| .sp .nil<| .a<| .sp .nil<| .a<| .b true .nil) (by intros;kernel_rfl!) (fun g' b=>?_)
 refine a6 (P:=(Float64.cmp s 0==some Ordering.eq)=false∧isFinite (cG h)=true∧isInf (ofInt (bZ (cG h)))=false∧((fmod (bZ (cG h)) ((6:Nat):Int)==(0:Int))=true→VI (.tup [.aT v,.aT (ua v s h),.aT (jM v s)]) (q9 (iq h s v))∧rf ([]:Os))∧((fmod (bZ (cG h)) ((6:Nat):Int)==(0:Int))=false→((fmod (bZ (cG h)) ((6:Nat):Int)==(1:Int))=true→VI (.tup [.aT (ub v s h),.aT v,.aT (jM v s)]) (q9 (iq h s v))∧rf ([]:Os))∧((fmod (bZ (cG h)) ((6:Nat):Int)==(1:Int))=false→((fmod (bZ (cG h)) ((6:Nat):Int)==(2:Int))=true→VI (.tup [.aT (jM v s),.aT v,.aT (ua v s h)]) (q9 (iq h s v))∧rf ([]:Os))∧((fmod (bZ (cG h)) ((6:Nat):Int)==(2:Int))=false→((fmod (bZ (cG h)) ((6:Nat):Int)==(3:Int))=true→VI (.tup [.aT (jM v s),.aT (ub v s h),.aT v]) (q9 (iq h s v))∧rf ([]:Os))∧((fmod (bZ (cG h)) ((6:Nat):Int)==(3:Int))=false→((fmod (bZ (cG h)) ((6:Nat):Int)==(4:Int))=true→VI (.tup [.aT (ua v s h),.aT (jM v s),.aT v]) (q9 (iq h s v))∧rf ([]:Os))∧((fmod (bZ (cG h)) ((6:Nat):Int)==(4:Int))=false→(fmod (bZ (cG h)) ((6:Nat):Int)==5)=true∧VI (.tup [.aT v,.aT (jM v s),.aT (ub v s h)]) (q9 (iq h s v))∧rf ([]:Os)))))))
  ⟨h1,h2,h3,fun e0=> ⟨sj (H_ e0),rfl⟩,fun e0=> ⟨fun e1=> ⟨sj (Ia e0 e1),rfl⟩,fun e1=> ⟨fun e2=> ⟨sj (Ib e0 e1 e2),rfl⟩,fun e2=> ⟨fun e3=> ⟨sj (Ic e0 e1 e2 e3),rfl⟩,fun e3=> ⟨fun e4=> ⟨sj (Ie e0 e1 e2 e3 e4),rfl⟩,fun e4=> ⟨WR _ e0 e1 e2 e3 e4,sj (Ig e0 e1 e2 e3 e4),rfl⟩⟩⟩⟩⟩⟩ (by kernel_rfl!)
theorem rb(X:dy y g)(hn:9≤g.n){x:T3}(h1:q8 (mn x) (mx x)=false)
  (h2:isZero (mx x)=false) (h3:isZero (Float64.sub (mx x) (mn x))=false):Fn g (.v (.val (.ref (y.ad 14)))) [.v (.aT x.1),.v (.aT x.2.1),.v (.aT x.2.2)] [] [] [] (.v (q9 (qe x))) []:=by
 refine jZ X hn (X.fn 14 "rgb_to_hsv" (by decide)) (U3 y) (WO y) (.b false<| .sp .nil<| .sp .nil .nil) (by intros;kernel_rfl!) (fun g' b=>?_)
 refine a6 (P:=_∧_∧_∧_∧_∧((Float64.cmp x.1 (mx x)==some Ordering.eq)=true→_∧_∧_∧rf ([]:Os))∧((Float64.cmp x.1 (mx x)==some Ordering.eq)=false→((Float64.cmp x.2.1 (mx x)==some Ordering.eq)=true→_∧_∧_∧rf ([]:Os))∧((Float64.cmp x.2.1 (mx x)==some Ordering.eq)=false→_∧_∧_∧rf ([]:Os))))
  ⟨h1,h2,h3,h3,h3,fun e=> ⟨H8,H9,Mr (xZ e),rfl⟩,fun e=> ⟨fun e2=> ⟨H8,H9,Mr (x4 e e2),rfl⟩,fun e2=> ⟨H8,H9,Mr (x5 e e2),rfl⟩⟩⟩ (by kernel_rfl!)
noncomputable abbrev zI(x:T3):=div (add (mx x) (mn x)) 4611686018427387904
noncomputable abbrev zJ(x:T3):=match Float64.cmp (zI x) 4602678819172646912==some Ordering.lt with | true=>true | false=>Float64.cmp (zI x) 4602678819172646912==some Ordering.eq
noncomputable abbrev n7(x:T3):=Float64.cmp x.2.1 (mx x)==some Ordering.eq
noncomputable abbrev n8(x:T3):=Float64.cmp x.1 (mx x)==some Ordering.eq
theorem rd(X:dy y g)(hn:9≤g.n){x:T3}(h1:q8 (mn x) (mx x)=false)
  (h2:isZero (add (mx x) (mn x))=false) (h4:isZero (Float64.sub (Float64.sub F2 (mx x)) (mn x))=false) (h3:isZero (Float64.sub (mx x) (mn x))=false):Fn g (.v (.val (.ref (y.ad 13)))) [.v (.aT x.1),.v (.aT x.2.1),.v (.aT x.2.2)] [] [] [] (.v (q9 (qf x))) []:=by
 refine jZ X hn (X.fn 13 "rgb_to_hls" (by decide)) (U2 y) (WN y) (.b false<| .sp (.sp .nil<| .sp .nil .nil) (.sp .nil<| .sp .nil .nil)) (by intros;kernel_rfl!) (fun g' b=>?_)
 refine a6 (P:=_∧_∧((zJ x)=true→_∧_∧_∧_∧((n8 x)=true→_∧_∧_∧rf ([]:Os))∧((n8 x)=false→((n7 x)=true→_∧_∧_∧rf ([]:Os))∧((n7 x)=false→_∧_∧_∧rf ([]:Os))))∧((zJ x)=false→_∧_∧_∧_∧((n8 x)=true→_∧_∧_∧rf ([]:Os))∧((n8 x)=false→((n7 x)=true→_∧_∧_∧rf ([]:Os))∧((n7 x)=false→_∧_∧_∧rf ([]:Os)))))
  ⟨WQ,h1,fun l=> ⟨h2,h3,h3,h3,fun e=> ⟨H8,H9,A1 (xZ e) (Eu l),rfl⟩,fun e=> ⟨fun e2=> ⟨H8,H9,A1 (x4 e e2) (Eu l),rfl⟩,fun e2=> ⟨H8,H9,A1 (x5 e e2) (Eu l),rfl⟩⟩⟩,
  fun l=> ⟨h4,h3,h3,h3,fun e=> ⟨H8,H9,A1 (xZ e) (Ev l),rfl⟩,fun e=> ⟨fun e2=> ⟨H8,H9,A1 (x4 e e2) (Ev l),rfl⟩,fun e2=> ⟨H8,H9,A1 (x5 e e2) (Ev l),rfl⟩⟩⟩⟩ (by kernel_rfl!)
end
end
end
section
section
noncomputable def Rv(y:Lay):Cx:=cx y ["leaves","x","hues","place","name","hue","letter","share","value","red","green","blue","told","light","full","fine"] [] [9,18,17,16,7] true
noncomputable def vZ(y:Lay)(g:Gd):TG ⟨Rv y,g⟩:= .xy [(.n (.loc 3) 343 8),(.n (.loc 4) 343 15)]
noncomputable def zK(y:Lay)(g:Gd):SB ⟨Rv y,g⟩:= .cons (.qW (.loc 5) (.loc 6) (q 344 8 11) (q 344 13 19) 0 (q 344 8 19) [(.of (.told (.add (.md (.lo 1 344 23) 64 27) (.mul (.lo 3 344 32) (.add (.nt 1 344 41) (.md (.dv (.lo 1 344 45) 64 50) 10 55)) (q 344 32 58))))),(.of (.mt (.st "abc" 344 60) .index [(.mt (.lo 4 344 72) .lower [])]))] 0 (q 344 22 86) (q 344 8 86) (by kernel_rfl!))<| .cons (.qW (.loc 7) (.loc 8) (q 345 8 13) (q 345 15 20) 0 (q 345 8 20) [(.of (.told (.add (.nt 1 345 24) (.HC (.add (.vF (.lo 1 345 29) 640 0 (q 345 34 37) (q 345 29 37)) (.lo 6 345 40)) 4 0 (q 345 50 51) (q 345 28 51))))),(.of (.told (.add (.nt 1 345 53) (.HC (.add (.vF (.lo 1 345 58) 2560 0 (q 345 63 67) (q 345 58 67)) (.mul (.nt 3 345 70) (.lo 6 345 74))) 4 0 (q 345 84 85) (q 345 57 85)))))] 0 (q 345 23 86) (q 345 8 86) (by kernel_rfl!))<| .cons (.Rk [(.n (.loc 9) 346 8),(.n (.loc 10) 346 13),(.n (.loc 11) 346 20)] 0 (q 346 8 24) (.cl 18 346 27 [(.add (.bU (.lo 5 346 38) (.nt 64 346 44)) (.told (.md (.vF (.lo 1 346 49) 10240 0 (q 346 54 59) (q 346 49 59)) 3 62))),(.bU (.lo 7 346 65) (.nt 4 346 73)),(.bU (.lo 8 346 76) (.nt 4 346 84))]) (q 346 8 86) (by kernel_rfl!))<| .cons (.qW (.loc 12) (.loc 13) (q 347 8 12) (q 347 14 19) 0 (q 347 8 19) [(.of (.cl 17 347 23 [(.lo 9 347 34),(.lo 10 347 39),(.lo 11 347 46)])),(.of (.told (.mul (.lo 8 347 53) (.sub (.nt 8 347 62) (.lo 7 347 66)) (q 347 53 72))))] 0 (q 347 22 73) (q 347 8 73) (by kernel_rfl!))<| .cons (.ag (.loc 14) 348 8 (.y6 (.le (.lo 13 348 38) (.nt 16 348 47)) (.bU (.lo 7 348 15) (.sub (.nt 8 348 24) (.lo 7 348 28)) (q 348 15 34)) (.bU (.mul (.lo 8 348 55) (.lo 7 348 63)) (.sub (.nt 32 348 72) (.lo 13 348 77)) (q 348 55 83))))<| .cons (.ag (.loc 15) 349 8 (.and (.PQ (.lo 12 349 15) (.tup [(.bU (.told (.md (.lo 5 349 24) 64 30)) (.nt 64 349 35)),(.bU (.lo 7 349 39) (.nt 4 349 47)),(.bU (.lo 8 349 50) (.nt 4 349 58))])) [(.PQ (.cl 16 349 65 [(.lo 9 349 76),(.lo 10 349 81),(.lo 11 349 88)]) (.tup [(.bU (.told (.md (.lo 5 349 98) 64 104)) (.nt 64 349 109)),(.bU (.lo 13 349 113) (.nt 32 349 121)),(.lo 14 349 125)]))]))<| .cons (.exp (.mt (.lo 2 350 8) .append [(.y6 (.lo 15 350 41) (.told (.cl 7 350 20 [(.mul (.get (.lo 12 350 24) (.nt 0 350 29)) (.nt 64 350 34))])) (.neg (.nt 1 350 52)))]))<| .nil
noncomputable def WS(y:Lay)(g:Gd):SB ⟨Rv y,g⟩:= .cons (.Hs (.loc 2) (q 342 4 8) (.new 30 [] (q 342 11 13)) (q 342 4 13))<| .cons (.for (vZ y g) (.enum 9 (q 343 23 32) (.lo 0 343 33) (q 343 23 40)) (zK y g) ⟨343,4,350,54⟩)<| .LS 2<| .cons (.ret (.lo 2 351 11))<| .nil
noncomputable def iO(cc ay:Nat):UInt64:=cond (ble (ay*(8 - cc)) 16) (bU cc (8 - cc)) (bU (ay*cc) (32 - ay*(8 - cc)))
structure Ew(k:Int)(f:UInt64)(cj cc ay:Nat):Prop where
 ne:q8 (mn (bn k f (bU cc 4) (bU ay 4))) (mx (bn k f (bU cc 4) (bU ay 4)))=false
 z1:isZero (mx (bn k f (bU cc 4) (bU ay 4)))=false
 z2:isZero (Float64.sub (mx (bn k f (bU cc 4) (bU ay 4))) (mn (bn k f (bU cc 4) (bU ay 4))))=false
 z3:isZero (add (mx (bn k f (bU cc 4) (bU ay 4))) (mn (bn k f (bU cc 4) (bU ay 4))))=false
 z4:isZero (Float64.sub (Float64.sub F2 (mx (bn k f (bU cc 4) (bU ay 4)))) (mn (bn k f (bU cc 4) (bU ay 4))))=false
 XX:qe (bn k f (bU cc 4) (bU ay 4))=(bU cj 64,bU cc 4,bU ay 4)
 M1:qf (bn k f (bU cc 4) (bU ay 4))=(bU cj 64,bU (ay*(8 - cc)) 32,iO cc ay)
noncomputable def qJ(cj turn:Nat):UInt64:=add (bU cj 64) (ofInt (turn:Nat))
structure jN(cj turn:Nat):Prop where
 fin:isFinite (mul (qJ cj turn) F6)=true
 inf:isInf (ofInt (nE (qJ cj turn)))=false
 k:(nE (qJ cj turn)).fmod 6=(nE (qJ (cj % 64) 0)).fmod 6
 f:t_ (qJ cj turn)=t_ (qJ (cj % 64) 0)
structure lh:Prop where
 PR:∀cj turn,cj<128→turn<3→jN cj turn
 col:∀cj cc ay,cj<64→(1≤cc∧cc≤4)→(1≤ay∧ay≤4)→Ew ((nE (qJ cj 0)).fmod 6) (t_ (qJ cj 0)) cj cc ay
 PS:∀cj,cj<64→isFinite (mul (bU cj 64) (ofInt 64))=true
 PT:∀cj,cj<64→bZ (mul (bU cj 64) (ofInt 64))=cj
theorem PW:isInf (ofInt 64)=false:=by decide+kernel
theorem Ex{t:Nat}(h:t<3):isInf (ofInt (t:Nat))=false:=by
 have:((List.range 3).all fun t:Nat=>!isInf (ofInt (t:Nat)))=true:=by decide+kernel
 exact(YM _).mp (E9.mp this t (Ya.mpr h))
theorem Ey{t:Nat}(h:1≤t∧t≤4):(Float64.cmp (bU t 4) F0==some .eq)=false:=by
 have:((List.range 4).all fun t:Nat=>!(Float64.cmp (bU (t+1) 4) F0==some .eq))=true:=by decide+kernel
 obtain⟨s,rfl⟩:=Nat.exists_eq_add_of_le' h.1
 exact(YM _).mp (E9.mp this s (Ya.mpr h.2))
theorem jO(n d:Nat):Float64.isNaN (bU n d)=false:=by unfold bU ofFrac;exact PySem.W.isNaN_pack _ (PySem.W.roundMag_le _ _)
theorem Ez(cc ay:Nat):Float64.isNaN (iO cc ay)=false:=by unfold iO;cases ble (ay*(8 - cc)) 16 <;> exact jO _ _
noncomputable def bF(X place:Nat):Nat:=X % 64+place*(1+X / 64 % 10)
noncomputable def cC(X n:Nat):List Int:=(List.range n).map fun place=> ((bF X place % 64:Nat):Int)
theorem sq(a b:Nat):(a:Int).fmod (b:Nat)=((a % b:Nat):Int):=by rw[Z1 _ (N3 b)];rfl
theorem zL(a b:Nat):(a:Int).fdiv (b:Nat)=((a / b:Nat):Int):=by rw[Z0 _ (N3 b)];rfl
theorem A2{c:Nat}(h:c∈six):Builtin.Str.occurrences (Str.ofString "abc") (ch (al c)) 0 (Str.ofString "abc").length 1=[al c - 97]:=by
 have:(six.all fun c=>Builtin.Str.occurrences (Str.ofString "abc") (ch (al c)) 0 (Str.ofString "abc").length 1==[al c - 97])=true:=by decide+kernel
 exact eq_of_beq (E9.mp this c h)
noncomputable def fR(X l:Nat):Nat:=1+(X / 640+l) % 4
noncomputable def gq(X l:Nat):Nat:=1+(X / 2560+3*l) % 4
theorem jq{a:Int}{b:Nat}(h:a=b):RV.v (.int a)= .v (.int b):=by rw[h]
theorem Ms(x i:Nat):fmod x (64:Nat)+(i:Int)*(1+fmod (fdiv x (64:Nat)) (10:Nat))=(bF x i:Nat):=by
 rw[sq,zL,sq];exact(ab1 ..).symm▸E8 (_+ ·) (Int.natCast_mul ..).symm
theorem PX(x l:Nat):(1:Int)+fmod (fdiv x (640:Nat)+(l:Int)) (4:Nat)=(fR x l:Nat):=by rw[zL,← ab1,sq];rfl
theorem PY(x l:Nat):(1:Int)+fmod (fdiv x (2560:Nat)+3*(l:Int)) (4:Nat)=(gq x l:Nat):=by rw[zL];exact(E8 (1+ ·) (sq (x / 2560+3*l) 4))
theorem J8(x l:Nat):1≤fR x l∧fR x l≤4:=⟨Yl ..,Yo (Y7 (aal _ (by decide))) 1⟩
theorem J9(x l:Nat):1≤gq x l∧gq x l≤4:=⟨Yl ..,Yo (Y7 (aal _ (by decide))) 1⟩
theorem Mu(x:Nat){i:Nat}(hi:i<6):bF x i<128:=by
 have h1:x % 64<64:=aal _ (by decide)
 have h2:i*(1+x / 64 % 10)≤5*10:=abz (Y7 hi) (Yo (Y7 (aal _ (by decide))) 1)
 exact J3 (Nat.add_lt_add_of_lt_of_le h1 h2) (by decide)
theorem PZ{U V:Nat}(hU:U≤4):(V:Int)*(8 - (U:Int))=(V*(8 - U):Nat):=by rw[Int.natCast_mul,Int.ofNat_sub (E2 hU (by decide))];rfl
theorem WT{U:Nat}(hU:U≤4):toNat (8 - (U:Int))=8 - U:=by rw[show(8:Int) - (U:Int)=((8 - U:Nat):Int) from(Int.ofNat_sub (E2 hU (by decide))).symm];rfl
theorem P0{U V:Nat}(hU:U≤4)(h:decide (((V*(8 - U):Nat):Int)≤16)=true):RV.v (.aT (bU U (toNat (8 - (U:Int)))))= .v (.aT (iO U V)):=by
 rw[WT hU,iO,Nat.ble_eq_true_of_le (YH.mp (Yr h))];rfl
theorem P1{U V:Nat}(hV:V*(8 - U)≤32)(h:decide (((V*(8 - U):Nat):Int)≤16)=false):RV.v (.aT (bU (toNat ((V:Int)*(U:Int))) (toNat (32 - ((V*(8 - U):Nat):Int)))))= .v (.aT (iO U V)):=by
 have e:toNat (32 - ((V*(8 - U):Nat):Int))=32 - V*(8 - U):=by rw[show(32:Int) - ((V*(8 - U):Nat):Int)=((32 - V*(8 - U):Nat):Int) from(Int.ofNat_sub hV).symm];rfl
 have b:ble (V*(8 - U)) 16=false:=abK.mpr fun hb=>of_decide_eq_false h (YH.mpr (E1 hb))
 rw[e,iO,b];rfl
theorem Tn{U:Nat}(hU:U≤4):(0:Int)<8 - (U:Int):=by omega
theorem P2{n:Nat}(h:n≤28):(0:Int)<32 - (n:Int):=by omega
theorem x6(x i:Nat):cC x (i+1)=cC x i++ [((bF x i % 64:Nat):Int)]:=by unfold cC;rw[ab2,N9];rfl
section
variable {y:Lay}{g:Gd}
noncomputable def Mv(X:Nat):Vs:=[none,some (.v (.int X)),some (.r 30),none,none,none,none,none,none,none,none,none,none,none,none,none]
noncomputable def F8(X i:Nat):Os:=[(30,.list ((cC X i).map .int))]
noncomputable def ke(H U V:Nat):T3:=bn ((nE (qJ H 0)).fmod 6) (t_ (qJ H 0)) (bU U 4) (bU V 4)
noncomputable def P3(X i l:Nat):Hint:=
 .v (.int (bF X i:Nat))<| .v (.int (l:Nat))<| .v (.int (fR X l:Nat))<| .v (.int (gq X l:Nat))<| .v (.int (X / 10240 % 3:Nat))<|
 .call (.v (q9 (ke (bF X i % 64) (fR X l) (gq X l)))) []<| .call (.v (q9 (bU (bF X i % 64) 64,bU (fR X l) 4,bU (gq X l) 4))) []<| .v (.int (gq X l*(8 - fR X l):Nat))<|
 .mv (.v (.aT (iO (fR X l) (gq X l)))) .nil .nil<| .v (.int (bF X i % 64:Nat))<| .a<| .call (.v (q9 (bU (bF X i % 64) 64,bU (gq X l*(8 - fR X l)) 32,iO (fR X l) (gq X l)))) []<| .v (.int (bF X i % 64:Nat))<| .a<| .a<| .v (.int (bF X i % 64:Nat)) .nil
noncomputable abbrev zM(x:Nat)(i:Nat)(c:Nat):Vs:=[none,some (.v (.int ↑x)),some (.r 30),some (.v (.int ↑i)),some (.v (.str (ch c))),some (.v (.int ↑(bF x i))),some (.v (.int ↑(al c - 97))),some (.v (.int (↑(fR x (al c - 97)):Int))),some (.v (.int (↑(gq x (al c - 97)):Int))),some (.v (.aT (fst (ke (bF x i % 64) (fR x (al c - 97)) (gq x (al c - 97)))))),some (.v (.aT (fst (snd (ke (bF x i % 64) (fR x (al c - 97)) (gq x (al c - 97))))))),some (.v (.aT (snd (snd (ke (bF x i % 64) (fR x (al c - 97)) (gq x (al c - 97))))))),some (.v (q9 (bU (bF x i % 64) 64,bU (fR x (al c - 97)) 4,bU (gq x (al c - 97)) 4))),some (.v (.int (↑(gq x (al c - 97)*(8 - fR x (al c - 97))):Int))),none,none]
noncomputable abbrev eL(x:Nat)(c:Nat):=gq x (al c - 97)*(8 - fR x (al c - 97))
noncomputable abbrev n9(x:Nat)(c:Nat):=iO (fR x (al c - 97)) (gq x (al c - 97))
noncomputable abbrev uc(x:Nat)(i:Nat)(c:Nat):=ke (bF x i % 64) (fR x (al c - 97)) (gq x (al c - 97))
noncomputable abbrev ud(x:Nat)(c:Nat):=(8:Int) - (↑(fR x (al c - 97)):Int)
noncomputable abbrev zN(x:Nat):=(1:Int)+fmod (fdiv ↑x ((64:Nat):Int)) ((10:Nat):Int)
noncomputable abbrev zO(x:Nat)(i:Nat)(c:Nat):=q9 (bU (bF x i % 64) 64,bU (fR x (al c - 97)) 4,bU (gq x (al c - 97)) 4)
noncomputable abbrev ue:=ofInt (64:Int)
theorem EA(X:dy y g)(hn:10≤g.n)(CF:lh)(x i:Nat)(hi:i<6)(c:Nat)(hc:c∈six)(R:RV→S→Prop):
  (vZ y g).set (.v (.tup [.int i,.str (ch c)])) ⟨Mv x,F8 x i,P3 x i (al c - 97)⟩ fun s2=> (zK y g).ex s2 fun f s3=>ca f (True∧aA s3 (Mv x) (F8 x (i+1))) False fun v=>R v s3:=by
 have nc:∀n:Nat,(0:Int)≤(n:Int):=N3
 have hH:=Mu x hi
 obtain⟨U5,M_⟩:=J8 x (al c - 97)
 obtain⟨XY,To⟩:=J9 x (al c - 97)
 have hT:x / 10240 % 3<3:=aal _ (by decide)
 have hK:bF x i % 64<64:=aal _ (by decide)
 have W:=CF.PR (bF x i) _ hH hT
 obtain⟨c1,c2,c3,c4,c5,c6,c7⟩:=CF.col (bF x i % 64) _ _ hK (J8 x (al c - 97)) (J9 x (al c - 97))
 have b1:=CF.PS (bF x i % 64) hK
 have b2:=CF.PT (bF x i % 64) hK
 have U6:=q_ X (Yg hn) (h:=qJ (bF x i) (x / 10240 % 3)) (s:=bU (fR x (al c - 97)) 4) (v:=bU (gq x (al c - 97)) 4) (Ey ⟨U5,M_⟩) W.fin W.inf
 have U7:=rb X (Yg hn) (x:=ke (bF x i % 64) (fR x (al c - 97)) (gq x (al c - 97))) c1 c2 c3
 have U8:=rd X (Yg hn) (x:=ke (bF x i % 64) (fR x (al c - 97)) (gq x (al c - 97))) c1 c4 c5 c3
 rw[show qe (ke (bF x i % 64) (fR x (al c - 97)) (gq x (al c - 97)))=_ from c6] at U7
 rw[show qf (ke (bF x i % 64) (fR x (al c - 97)) (gq x (al c - 97)))=_ from c7] at U8
 rw[show iq (qJ (bF x i) (x / 10240 % 3)) (bU (fR x (al c - 97)) 4) (bU (gq x (al c - 97)) 4)=ke (bF x i % 64) (fR x (al c - 97)) (gq x (al c - 97)) by unfold iq;rw[W.k,W.f];rfl] at U6
 have l6:∀ {n m:Nat},n≤m→ble m 999999=true→(n:Int)<1000000:=fun h hm=>Yd.mpr (aa6 (E2 h (E1 hm)))
 have Mw:gq x (al c - 97)*(8 - fR x (al c - 97))≤28:=abz To (Nat.sub_le_sub_left U5 8)
 have U9:((bF x i % 64:Nat):Int)<1000000:=l6 (YA hK) rfl
 have Tp:(fR x (al c - 97):Int)<1000000:=l6 M_ rfl
 have Rw:(gq x (al c - 97):Int)<1000000:=l6 To rfl
 have WU:gq x (al c - 97)*fR x (al c - 97)≤16:=abz To M_
 have km:fmod (bF x i:Nat) (64:Nat)=(bF x i % 64:Nat):=sq _ 64
 have b6:((cC x i).map AV.int).length≤sizeLine:=sz (az (m:=6) (by unfold cC;rw[E7,Zh];exact YA hi)) rfl
 have WV:Do (Str.ofString "abc") (PySem.Txt.lower (ch c)) (.int (al c - 97:Nat)):=⟨_,[],by rw[cW hc];exact A2 hc,rfl⟩
 refine a6 (P:=IntMulOk (↑i:Int) (zN x)∧VI (.int (fmod ↑x ((64:Nat):Int)+(↑i:Int)*(zN x))) (.int ↑(bF x i))∧Str.length (ch c)≤5592405∧_∧VI (.int ((1:Int)+fmod (fdiv ↑x ((640:Nat):Int)+(↑(al c - 97):Int)) ((4:Nat):Int))) (.int (↑(fR x (al c - 97)):Int))∧IntMulOk (3:Int) (↑(al c - 97):Int)∧VI (.int ((1:Int)+fmod (fdiv ↑x ((2560:Nat):Int)+(3:Int)*(↑(al c - 97):Int)) ((4:Nat):Int))) (.int (↑(gq x (al c - 97)):Int))∧(0:Int)≤(↑(bF x i):Int)∧(↑(bF x i):Int)<(1000000:Int)∧(0:Int)<(64:Int)∧VI (.int (fmod (fdiv ↑x ((10240:Nat):Int)) ((3:Nat):Int))) (.int ↑(x / 10240 % 3))∧isInf (ofInt (↑(x / 10240 % 3):Int))=false∧(0:Int)≤(↑(fR x (al c - 97)):Int)∧(↑(fR x (al c - 97)):Int)<(1000000:Int)∧(0:Int)<(4:Int)∧(0:Int)≤(↑(gq x (al c - 97)):Int)∧(↑(gq x (al c - 97)):Int)<(1000000:Int)∧(0:Int)<(4:Int)∧_∧_∧IntMulOk (↑(gq x (al c - 97)):Int) (ud x c)∧VI (.int ((↑(gq x (al c - 97)):Int)*(ud x c))) (.int (↑(eL x c):Int))∧(decide ((↑(eL x c):Int)≤(16:Int))=true→(0:Int)≤(↑(fR x (al c - 97)):Int)∧(↑(fR x (al c - 97)):Int)<(1000000:Int)∧(0:Int)<(8:Int) - (↑(fR x (al c - 97)):Int)∧VI (.aT (bU (fR x (al c - 97)) (toNat (ud x c)))) (.aT (n9 x c))∧rf (S.mk (zM x i c) (F8 x i) .nil))∧(decide ((↑(eL x c):Int)≤(16:Int))=false→IntMulOk (↑(gq x (al c - 97)):Int) (↑(fR x (al c - 97)):Int)∧(0:Int)≤(↑(gq x (al c - 97)):Int)*(↑(fR x (al c - 97)):Int)∧(↑(gq x (al c - 97)):Int)*(↑(fR x (al c - 97)):Int)<(1000000:Int)∧(0:Int)<(32:Int) - (↑(eL x c):Int)∧VI (.aT (bU (toNat ((↑(gq x (al c - 97)):Int)*(↑(fR x (al c - 97)):Int))) (toNat ((32:Int) - (↑(eL x c):Int))))) (.aT (n9 x c))∧rf (S.mk (zM x i c) (F8 x i) .nil))∧VI (.int (fmod ↑(bF x i) ((64:Nat):Int))) (.int ↑(bF x i % 64))∧(0:Int)≤(↑(bF x i % 64):Int)∧(↑(bF x i % 64):Int)<(1000000:Int)∧(0:Int)<(64:Int)∧(0:Int)≤(↑(fR x (al c - 97)):Int)∧(↑(fR x (al c - 97)):Int)<(1000000:Int)∧(0:Int)<(4:Int)∧(0:Int)≤(↑(gq x (al c - 97)):Int)∧(↑(gq x (al c - 97)):Int)<(1000000:Int)∧(0:Int)<(4:Int)∧(∃(FZ:UInt64),∃(y:UInt64),∃(z:UInt64),RV.v (zO x i c)=RV.v (.tup [.aT FZ,AV.aT y,AV.aT z])∧RV.v (.tup [.aT (bU (bF x i % 64) (toNat 64)),AV.aT (bU (fR x (al c - 97)) (toNat 4)),AV.aT (bU (gq x (al c - 97)) (toNat 4))])=RV.v (.tup [.aT FZ,AV.aT y,AV.aT z])∧Float64.isNaN FZ=false∧Float64.isNaN y=false∧Float64.isNaN z=false)∧_∧VI (.int (fmod ↑(bF x i) ((64:Nat):Int))) (.int ↑(bF x i % 64))∧(0:Int)≤(↑(bF x i % 64):Int)∧(↑(bF x i % 64):Int)<(1000000:Int)∧(0:Int)<(64:Int)∧(0:Int)≤(↑(eL x c):Int)∧(↑(eL x c):Int)<(1000000:Int)∧(0:Int)<(32:Int)∧(∃(FZ:UInt64),∃(y:UInt64),∃(z:UInt64),RV.v (q9 (bU (bF x i % 64) 64,bU (eL x c) 32,iO (fR x (al c - 97)) (gq x (al c - 97))))=RV.v (.tup [.aT FZ,AV.aT y,AV.aT z])∧RV.v (.tup [.aT (bU (bF x i % 64) (toNat 64)),AV.aT (bU (eL x c) (toNat 32)),AV.aT (n9 x c)])=RV.v (.tup [.aT FZ,AV.aT y,AV.aT z])∧Float64.isNaN FZ=false∧Float64.isNaN y=false∧Float64.isNaN z=false)∧isInf ue=false∧isFinite (mul (bU (bF x i % 64) 64) ue)=true∧VI (.int (bZ (mul (bU (bF x i % 64) 64) ue))) (.int ↑(bF x i % 64))∧SL (map AV.int (cC x i))∧True∧aA (.mk ([none,some (.v (.int ↑x)),some (.r 30),some (.v (.int ↑i)),some (.v (.str (ch c))),some (.v (.int ↑(bF x i))),some (.v (.int ↑(al c - 97))),some (.v (.int (↑(fR x (al c - 97)):Int))),some (.v (.int (↑(gq x (al c - 97)):Int))),some (.v (.aT (fst (uc x i c)))),some (.v (.aT (fst (snd (uc x i c))))),some (.v (.aT (snd (snd (uc x i c))))),some (.v (zO x i c)),some (.v (.int (↑(eL x c):Int))),some (.v (.aT (n9 x c))),some (.v (.bool true))]) ([(30,EO.list (map AV.int (cC x i)++ [AV.int ↑(bF x i % 64)]))]) .nil) (Mv x) (F8 x (i+1)))
  ⟨yY (nc i) (l6 (YA hi) rfl),jq (Ms x i),E1 rfl,WV,jq (PX x _),yY (by decide) (by decide),jq (PY x _),nc _,l6 (YA hH) rfl,by decide,jq (by rw[zL,sq]),Ex hT,nc _,Tp,by decide,nc _,Rw,by decide,U6,U7,
  yY (nc _) Rw,jq (PZ M_),fun h=> ⟨nc _,Tp,Tn M_,P0 M_ h,rfl⟩,fun h=> ⟨yY (nc _) Rw,nc (_*_),l6 (n:=_*_) WU rfl,P2 Mw,P1 (E2 Mw (by decide)) h,rfl⟩,
  jq km,nc _,U9,by decide,nc _,Tp,by decide,nc _,Rw,by decide,⟨_,_,_,rfl,rfl,jO _ _,jO _ _,jO _ _⟩,U8,jq km,nc _,U9,by decide,nc _,l6 Mw rfl,by decide,⟨_,_,_,rfl,rfl,jO _ _,jO _ _,Ez _ _⟩,PW,b1,jq b2,b6,trivial,by unfold F8;rw[x6,N9];rfl⟩ (by kernel_rfl!)
theorem Ih(X:dy y g)(hn:11≤g.n)(CF:lh){lv:List Nat}(b6:lv.length=6)(eZ:∀c∈lv,c∈six)(x:Nat):
  Fn g (.v (.val (.ref (y.ad 79)))) [.v (.lst (fu lv)),.v (.int x)] [] [] [] (.v (.lst ((cC x 6).map .int))) []:=by
 refine jZ X (YP (k:=2) hn) (X.fn 79 "_law_hues" (by decide)) (Rv y) (WS y) (.loop (fun O=>True) (fun O=>Mv x) (fun i=>F8 x i) (fun i z=>P3 x i (al (lv.getD i 0) - 97)) .nil) (by intros;kernel_rfl!) (fun g' b=>?_)
 have el:(aV (fu lv)).length=6:=(em _).trans ((E7 ..).trans b6)
 have fs:∀R:RV→S→Prop,aW (vZ y g') (zK y g') (aV (fu lv)) (fun O=>True) (fun O=>Mv x) (fun i=>F8 x i) (fun i z=>P3 x i (al (lv.getD i 0) - 97)) R:=fun R i z hz O=>by
  obtain⟨c,hc,rfl⟩:=gW hz
  have:=EA (X.bO b.bO) (by rw[b.n];exact Yj hn) CF x i (by rw[← b6];exact(Ym.mp hc).1) c (eZ c (Yh hc)) R
  rw[← ft (d:=0) hc] at this
  show(vZ y g').set _ ⟨_,_,P3 x i (al (lv.getD i 0) - 97)⟩ _
  rw[← ft (d:=0) hc]
  exact this
 refine a6 (P:=(True∧EE ((fun(FZ:Nat)=>Mv x) 0) ((fun(i:Nat)=>F8 x i) 0))∧(aW (vZ y g') (zK y g') (aV (fu lv)) (fun(x:Nat)=>True) (fun(FZ:Nat)=>Mv x) (fun(i:Nat)=>F8 x i) (fun(i:Nat) (z:AV)=>P3 x i (al (getD lv i 0) - 97)) fun(v:RV) (s3:S)=>cO (RF.ret v) s3 (AV.lst (map AV.int (cC x 6))) [])∧(True→VI (.lst (map .int (cC x (length (aV (fu lv)))))) (.lst (map .int (cC x 6)))∧rf ([]:Os)))
  ⟨⟨trivial,rfl⟩,fs _,fun O=> ⟨by rw[el],rfl⟩⟩ (by kernel_rfl!)
end
end
end
section
section
noncomputable def A4(y:Lay):Cx:=JS y [("links",.local),("pairs",.local),("either",.cell),("k",.local),("link",.local),("part",.local),("firm",.local),("table",.cell),("near",.local),("pick",.local),("ties",.local),("reached",.cell),("turn",.local)] [("either",.cell,10),("table",.cell,11),("reached",.cell,12)] [9,31,1,0] true
noncomputable def P4(y:Lay):Cx:=cx y [".0","k","link","part"] [("either",.free,10)] [] false
noncomputable def EB(y:Lay)(g:Gd):LD ⟨A4 y,g⟩:=⟨P4 y,fun g=> (.xy [(.n (.loc 1) 326 38),(.n (.loc 2) 326 41)]),fun g=>[(.ne (.get (.lo 2 326 69) (.nt 0 326 74)) (.ce 0 326 80))],fun g=> (.n (.loc 3) 326 91),fun g=> (.of (.get (.lo 2 326 99) (.fx (some (.nt 1 326 104)) .none .none))),fun g=>[],fun g=> (.lst [(.add (.nt 6 326 21) (.lo 1 326 25)),(.lo 3 326 28)]),[],rfl,rfl,fun O=>rfl,fun O=>rfl,fun O=>rfl,fun O=>rfl,fun O=>rfl,fun O=>rfl⟩
noncomputable def P5(y:Lay):Cx:=cx y [".0","tie","one","other"] [] [6] false
noncomputable def EC(y:Lay)(g:Gd):LD ⟨A4 y,g⟩:=⟨P5 y,fun g=> (.n (.loc 1) 327 48),fun g=>[],fun g=> (.xy [(.n (.loc 2) 327 64),(.n (.loc 3) 327 69)]),fun g=> (.of (.tup [(.lo 1 327 79),(.get (.lo 1 327 84) (.fx .none .none (some (.neg (.nt 1 327 91))) (q 327 88 92)))])),fun g=>[],fun g=> (.tup [(.cl 6 327 22 [(.lo 2 327 26)]),(.cl 6 327 32 [(.lo 3 327 36)])]),[],rfl,rfl,fun O=>rfl,fun O=>rfl,fun O=>rfl,fun O=>rfl,fun O=>rfl,fun O=>rfl⟩
noncomputable def J_(y:Lay):Cx:=⟨[(".0",.local),("node",.local),("str",.globalImplicit),("table",.free)],[".0","node"],[("table",.free,11)],[6],GX y,30,false,[]⟩
noncomputable def P6(y:Lay):Cx:=cx y [".0","other"] [] [7] false
noncomputable def ED(y:Lay)(g:Gd):LC ⟨J_ y,g⟩:=⟨P6 y,fun g=> (.n (.loc 1) 328 28),fun g=>[],fun g=> (.cl 7 328 13 [(.lo 1 328 17)]),[],rfl,rfl,fun O=>rfl,fun O=>rfl,fun O=>rfl⟩
noncomputable def EF(y:Lay)(g:Gd):LC ⟨A4 y,g⟩:=⟨J_ y,fun g=> (.n (.loc 1) 328 67),fun g=>[],fun g=> (.lc (ED y g) (.of (.vR (.ce 0 328 37) "get_all" (q 328 37 50) [(.cl 6 328 51 [(.lo 1 328 55)])] (q 328 37 61))) (q 328 12 62)),[],rfl,rfl,fun O=>rfl,fun O=>rfl,fun O=>rfl⟩
noncomputable def P7(y:Lay):Cx:=cx y [".0","row"] [] [] false
noncomputable def EG(y:Lay)(g:Gd):LC ⟨A4 y,g⟩:=⟨P7 y,fun g=> (.n (.loc 1) 330 27),fun g=>[],fun g=> (.get (.lo 1 330 16) (.fx .none .none .none (q 330 20 21))),[],rfl,rfl,fun O=>rfl,fun O=>rfl,fun O=>rfl⟩
noncomputable def v0(y:Lay)(g:Gd):TG ⟨A4 y,g⟩:= .xy [(.n (.loc 2) 331 12),(.n (.loc 3) 331 15)]
noncomputable def v5(y:Lay)(g:Gd):SB ⟨A4 y,g⟩:= .cons (.ite (.eq (.get (.lo 3 332 15) (.nt 0 332 20)) (.ce 0 332 26)) (.cons (.qW (.loc 4) (.loc 7) (q 333 16 20) (q 333 22 26) 0 (q 333 16 26) [(.of (.get (.lo 3 333 30) (.add (.nt 1 333 35) (.md (.lo 7 333 39) 2 46)))),(.of (.dv (.lo 7 333 50) 2 58))] 0 (q 333 29 60) (q 333 16 60) (by kernel_rfl!))<| .cons (.mul [(.sub (.lo 8 334 16) (.lo 4 334 21) (q 334 16 26)),(.sub (.lo 8 334 28) (.add (.nt 6 334 33) (.lo 2 334 37)) (q 334 28 39))] 0 (q 334 16 39) [(.of (.add (.get (.lo 8 334 43) (.lo 4 334 48)) (.lst [(.add (.nt 6 334 57) (.lo 2 334 61))]))),(.of (.add (.get (.lo 8 334 65) (.add (.nt 6 334 70) (.lo 2 334 74))) (.lst [(.lo 4 334 80)])))] 0 (q 334 42 86) (q 334 16 86) (by kernel_rfl!))<| .nil) .nil ⟨332,12,334,86⟩)<| .nil
noncomputable def P8(y:Lay):Cx:=cx y [".0","node"] [("reached",.free,12)] [] false
noncomputable def EH(y:Lay)(g:Gd):LC ⟨A4 y,g⟩:=⟨P8 y,fun g=> (.n (.loc 1) 339 33),fun g=>[(.SN (.lo 1 339 64) (.ce 0 339 76))],fun g=> (.lo 1 339 24),[],rfl,rfl,fun O=>rfl,fun O=>rfl,fun O=>rfl⟩
noncomputable def zP(y:Lay)(g:Gd):TG ⟨A4 y,g⟩:= .n (.loc 9) 336 12
noncomputable def zQ(y:Lay)(g:Gd):SB ⟨A4 y,g⟩:= .cons (.ite (.eq (.lo 9 337 15) (.cl 0 337 23 [(.ce 2 337 27)])) (.cons (.ret (.bool false 0 (q 338 23 28)))<| .nil) .nil ⟨337,12,338,28⟩)<| .cons (.au (.d7 2) 339 12 (.lc (EH y g) (.of (.get (.lo 8 339 41) (.get (.ce 2 339 46) (.lo 9 339 54)))) (q 339 23 84)))<| .nil
noncomputable def zR(y:Lay)(g:Gd):TG ⟨A4 y,g⟩:= .n (.loc 7) 329 8
noncomputable def zS(y:Lay)(g:Gd):SB ⟨A4 y,g⟩:= .cons (.lcm 8 31 (q 330 8 12) (EG y g) (.of (.lo 6 330 34)) (q 330 15 39) (q 330 8 39))<| .cons (.for (v0 y g) (.enum 9 (q 331 23 32) (.lo 0 331 33) (q 331 23 39)) (v5 y g) ⟨331,8,334,86⟩)<| .cons (.Hs (.d7 2) (q 335 8 15) (.new 32 [(.nt 1 335 19)] (q 335 18 21)) (q 335 8 21))<| .cons (.for (zP y g) (.of (.cl 1 336 20 [(.nt 11 336 26)])) (zQ y g) ⟨336,8,339,84⟩)<| .nil
noncomputable def WW(y:Lay)(g:Gd):SB ⟨A4 y,g⟩:= .cons (.ag (.loc 5) 326 4 (.add (.lo 1 326 11) (.Tk (EB y g) (.enum 9 (q 326 49 58) (.lo 0 326 59) (q 326 49 65)) (q 326 19 108))))<| .cons (.Hs (.d7 1) (q 327 4 9) (.cls 40 31 (q 327 12 19) [(.Tk (EC y g) (.of (.lo 5 327 55)) (q 327 20 95))] (q 327 12 96)) (q 327 4 96))<| .cons (.O8 6 (q 328 4 8) (EF y g) (.of (.cl 1 328 75 [(.nt 11 328 81)])) (q 328 11 85) (q 328 4 85))<| .cons (.for (zR y g) (.of (.cl 1 329 16 [(.nt 8 329 22)])) (zS y g) ⟨329,4,339,84⟩)<| .cons (.ret (.bool true 0 (q 340 11 15)))<| .nil
noncomputable abbrev Lk:=Int×Int×Int
noncomputable def bG(t:Lk):AV:= .tup [.int t.1,.int t.2.1,.int t.2.2]
noncomputable def b7(p:Int×Int):AV:= .lst [.int p.1,.int p.2]
noncomputable def aU(either:Int):List Lk→Nat→List (Int×Int)
 | [],_=>[]
 | t::r,k=> (if t.1≠either then [(6+(k:Int),t.2.1),(6+(k:Int),t.2.2)] else [])++aU either r (k+1)
noncomputable def bH(Tq:List (Int×Int)):List (Int×Int):=Tq.flatMap fun p=>[(p.1,p.2),(p.2,p.1)]
noncomputable def b9(A5:List (Int×Int))(n:Int):List Int:=A5.filterMap fun p=>if p.1=n then some p.2 else none
noncomputable def cn(l:List Int):AV:= .lst (l.map .int)
structure eS where
 pick:Int
 aj:List (List Int)
noncomputable def cu(either:Int)(s:eS)(k:Nat)(t:Lk):eS:=
 if t.1=either then
  ⟨s.pick.fdiv 2,(s.aj.set (if s.pick.fmod 2=0 then t.2.1 else t.2.2).toNat (s.aj.getD (if s.pick.fmod 2=0 then t.2.1 else t.2.2).toNat []++ [6+(k:Int)])).set (6+k) (s.aj.getD (6+k) []++ [if s.pick.fmod 2=0 then t.2.1 else t.2.2])⟩
 else s
noncomputable def e_(either:Int)(links:List Lk)(s:eS):Nat→eS
 | 0=>s
 | k+1=>match links[k]? with
  | some t=>cu either (e_ either links s k) k t
  | none=>e_ either links s k
noncomputable def ba(aj:List (List Int))(r:List Int)(t:Nat):List Int:=r++(aj.getD (r.getD t 0).toNat []).filter fun n=>!r.contains n
noncomputable def dn(aj:List (List Int)):Nat→Nat→List Int→Bool
 | 0,_,_=>true
 | f+1,t,r=>if t=r.length then false else dn aj f (t+1) (ba aj r t)
noncomputable def bg(links:List Lk)(pairs:List (Int×Int))(either:Int):List (List Int):=(List.range 11).map fun n:Nat=>b9 (bH (pairs++aU either links 0)) n
noncomputable def dr(links:List Lk)(aL:List (List Int))(either:Int)(pick:Nat):Bool:=dn (e_ either links ⟨pick,aL⟩ links.length).aj 11 0 [1]
noncomputable def gE(links:List Lk)(pairs:List (Int×Int))(either:Int):Bool:=(List.range 8).all fun pick=>dr links (bg links pairs either) either pick
noncomputable def numOf(x:Str):Int:=((List.range 11).find? fun k:Nat=>aB k==x).getD 0
theorem su{k:Int}(h0:0≤k)(h:k<11):numOf (aB k)=k:=by
 have:((List.range 11).all fun k:Nat=>numOf (aB k)==k)=true:=by decide+kernel
 obtain⟨n,rfl⟩:∃n:Nat,k=n:=⟨k.toNat,by omega⟩
 simpa using E9.mp this n (Ya.mpr (by omega))
theorem Ii{a b:Int}(a0:0≤a)(a1:a<11)(b0:0≤b)(b1:b<11):(PySem.Txt.lower (aB a)==PySem.Txt.lower (aB b))=decide (a=b):=by
 have:((List.range 11).all fun a:Nat=> (List.range 11).all fun b:Nat=> (PySem.Txt.lower (aB a)==PySem.Txt.lower (aB b))==decide ((a:Int)=b))=true:=by decide+kernel
 obtain⟨n,rfl⟩:∃n:Nat,a=n:=⟨a.toNat,by omega⟩
 obtain⟨m,rfl⟩:∃n:Nat,b=n:=⟨b.toNat,by omega⟩
 simpa using E9.mp (E9.mp this n (Ya.mpr (by omega))) m (Ya.mpr (by omega))
theorem n_{k:Int}(h0:0≤k)(h:k<16):bw (aB k)=true:=by
 obtain⟨n,rfl⟩:∃n:Nat,k=n:=⟨k.toNat,by omega⟩
 exact El (by omega)
theorem Ij{k:Int}(h0:0≤k)(h:k<11):bw (PySem.Txt.lower (aB k))=true:=by
 have:((List.range 11).all fun k:Nat=>bw (PySem.Txt.lower (aB k)))=true:=by decide+kernel
 obtain⟨n,rfl⟩:∃n:Nat,k=n:=⟨k.toNat,by omega⟩
 exact E9.mp this n (Ya.mpr (by omega))
def gF(p:Int×Int):Prop:=0≤p.1∧p.1<11∧0≤p.2∧p.2<11
theorem m_{n:Int}(h0:0≤n)(h1:n<11):∀(l:List (Int×Int)),(∀p∈l,gF p)→bP (l.map fun p=> (aB p.1,aB p.2)) (aB n)=(b9 l n).map fun k=> .str (aB k)
 | [],_=>rfl
 | p::l,h=>by
  obtain⟨a0,a1,b0,b1⟩:=h p E6
  have ih:=m_ h0 h1 l fun p hp=>h p (E4 _ hp)
  unfold bP b9 at*
  rw[Ye,Zz,Ys,Ii a0 a1 h0 h1]
  by_cases e:p.1=n
  ·rw[Yw e,X6 e,X6 rfl,Ye,ih];rfl
  ·rw[Yk e,X5 e,X5 (by simp),ih]
theorem EI{l:List (Int×Int)}(h:∀p∈l,gF p):∀p∈bH l,gF p:=by
 intro p hp
 unfold bH at hp
 obtain⟨q,hq,h2⟩:=Yu.mp hp
 obtain⟨a,b,c,d⟩:=h q hq
 simp only[J0,Y5,aaL] at h2
 rcases h2 with rfl | rfl
 ·exact⟨a,b,c,d⟩
 ·exact⟨c,d,a,b⟩
theorem qg(either:Int):∀(l:List Lk) (k:Nat),k+l.length≤5→(∀t∈l,gF t.2)→∀p∈aU either l k,gF p
 | [],_,_,_,p,hp=>by simp[aU] at hp
 | t::l,k,hk,h,p,hp=>by
  rw[Yy] at hk
  obtain⟨a,b,c,d⟩:=h t E6
  rw[aU,Yf] at hp
  rcases hp with hp | hp
  ·split at hp
   ·simp only[J0,Y5,aaL] at hp
    rcases hp with rfl | rfl
    ·exact⟨by show(0:Int)≤6+k;omega,by show 6+(k:Int)<11;omega,a,b⟩
    ·exact⟨by show(0:Int)≤6+k;omega,by show 6+(k:Int)<11;omega,c,d⟩
   ·simp at hp
  ·exact qg either l (k+1) (by omega) (fun t ht=>h t (E4 _ ht)) p hp
theorem qh{l:List (Int×Int)}(h:∀p∈l,gF p)(n:Int):∀k∈b9 l n,0≤k∧k<11:=by
 intro k hk
 unfold b9 at hk
 obtain⟨p,hp,e⟩:=List.mem_filterMap.mp hk
 obtain⟨_,_,c,d⟩:=h p hp
 split at e
 ·cases e;exact⟨c,d⟩
 ·cases e
def P9(T:eS)(m:Nat):Prop:=T.aj.length=11∧∀r∈T.aj,r.length≤m∧∀n∈r,0≤n∧n<11
theorem kB{l:List (List Int)}{m:Nat}(h:∀r∈l,r.length≤m∧∀n∈r,0≤n∧n<11)(i:Nat):(l.getD i []).length≤m∧∀n∈l.getD i [],0≤n∧n<11:=by
 rw[N4]
 cases e:l[i]? with
 | none=>exact⟨YK _,fun n hn=>by simp at hn⟩
 | some r=>exact h r (Yh e)
theorem x7{either:Int}{T:eS}{m k:Nat}{t:Lk}(h:P9 T m)(ht:gF t.2)(hk:k<5):P9 (cu either T k t) (m+1):=by
 unfold cu
 split
 ·refine⟨by rw[ZY,ZY];exact h.1,fun r hr=>?_⟩
  have hp:0≤(if T.pick.fmod 2=0 then t.2.1 else t.2.2)∧(if T.pick.fmod 2=0 then t.2.1 else t.2.2)<11:=by
   obtain⟨a,b,c,d⟩:=ht
   split
   ·exact⟨a,b⟩
   ·exact⟨c,d⟩
  generalize(if T.pick.fmod 2=0 then t.2.1 else t.2.2)=p at hp hr
  have key:∀(j:Nat) (z:Int),0≤z→z<11→(T.aj.getD j []++ [z]).length≤m+1∧∀n∈T.aj.getD j []++ [z],0≤n∧n<11:=by
   intro j z z0 z1
   obtain⟨h1,h2⟩:=kB h.2 j
   refine⟨by rw[N8,List.length_singleton];omega,fun n hn=>?_⟩
   rcases Yf.mp hn with hn | hn
   ·exact h2 n hn
   ·rw[X8] at hn;subst hn;exact⟨z0,z1⟩
  rcases List.mem_or_eq_of_mem_set hr with hr | rfl
  ·rcases List.mem_or_eq_of_mem_set hr with hr | rfl
   ·exact⟨by have:=(h.2 r hr).1;omega,(h.2 r hr).2⟩
   ·exact key _ _ (by omega) (by omega)
  ·exact key _ _ hp.1 hp.2
 ·exact⟨h.1,fun r hr=> ⟨by have:=(h.2 r hr).1;omega,(h.2 r hr).2⟩⟩
theorem sv{either:Int}{links:List Lk}{T:eS}{m:Nat}(hl:∀t∈links,gF t.2)(hn:links.length=5)(h:P9 T m):∀k,k≤5→P9 (e_ either links T k) (m+k)
 | 0,_=>h
 | k+1,hk=>by
  have ih:=sv (either:=either) hl hn h k (by omega)
  have e:links[k]? =some links[k]:=N6 (by omega)
  unfold e_
  rw[e]
  exact x7 ih (hl _ (ZA _)) (by omega)
theorem qi{l:List (List Int)}{p:Int}(h0:0≤p)(h:p<l.length):d5 (l.map cn) p=some (.lst ((l.getD p.toNat []).map .int)):=by
 obtain⟨n,rfl⟩:∃n:Nat,p=n:=⟨p.toNat,by omega⟩
 refine fD ?_
 have hn:n<l.length:=by omega
 rw[Zg,Yi,N6 hn,N4,N6 hn]
 rfl
theorem sx(either:Int):∀(l:List Lk) (k:Nat),(aU either l k).length≤2*l.length
 | [],_=>N1 _
 | t::l,k=>by
  rw[aU,N8,Yy]
  have:=sx either l (k+1)
  split <;> simp <;> omega
theorem A6(l:List (Int×Int)):(bH l).length=2*l.length:=by
 unfold bH
 induction l with
 | nil=>rfl
 | cons p l ih=>rw[Z4,N8,ih,Yy];simp;omega
noncomputable def qj(either:Int)(y:AV):Option AV:=
 some (.lst (cond (gk (iT (ma (iT (ma y) 1)) 0) !=either) [.lst [.int (6+gk (iT (ma y) 0)),iT (ma (iT (ma y) 1)) 1],.lst [.int (6+gk (iT (ma y) 0)),iT (ma (iT (ma y) 1)) 2]] []))
theorem sA(either:Int):∀(l:List Lk) (k:Nat),(((l.map bG).zipIdx k).map fun p=>AV.tup [.int (p.2:Nat),p.1]).flatMap (dG (qj either))=(aU either l k).map b7
 | [],_=>rfl
 | t::l,k=>by
  rw[Ye,abh,Ye,Z4,sA either l (k+1),aU,N9]
  refine E8 (· ++(aU either l (k+1)).map b7) ?_
  show cond (t.1 !=either) _ _=_
  by_cases h:t.1=either
  ·rw[X5 (fun h'=>h' h),bne_eq_false_iff_eq.mpr h];rfl
  ·rw[X6 h,bne_iff_ne.mpr h];rfl
noncomputable def A7(y:AV):Option AV:=some (.lst [.tup [.str (aB (gk (iT (qH y) 0))),.str (aB (gk (iT (qH y) 1)))],.tup [.str (aB (gk (iT (qH y) 1))),.str (aB (gk (iT (qH y) 0)))]])
theorem v6:∀l:List (Int×Int),(l.map b7).flatMap (dG A7)=dA ((bH l).map fun p=> (aB p.1,aB p.2))
 | []=>rfl
 | p::l=>by
  rw[Ye,Z4,v6 l];rfl
noncomputable def A8(y:AV):Option AV:=some (.int (numOf (vG y)))
theorem v7:∀ {l:List Int},(∀k∈l,0≤k∧k<11)→(l.map fun k=>AV.str (aB k)).filterMap A8=l.map .int
 | [],_=>rfl
 | k::l,h=>by
  have hk:=h k E6
  rw[Ye,Ys,v7 fun k hk=>h k (E4 _ hk)]
  show AV.int (numOf (aB k))::_=_
  rw[su hk.1 hk.2];rfl
noncomputable def nearF(A5:List (Int×Int))(y:AV):Option AV:=some (cn (b9 A5 (gk y)))
theorem P_:eg 0 11 1=(List.range 11).map fun n:Nat=>AV.int n:=by
 refine List.ext_getElem? fun i=>?_
 cases h:(eg 0 11 1)[i]? with
 | some z=>
  obtain⟨h1,rfl⟩:=jH (n:=11) h
  rw[Yi,aac h1];rfl
 | none=>
  have:=aaB.mp h
  rw[show(eg 0 11 1).length=11 from jG (n:=11)] at this
  exact(Zk (by rw[E7,Zh];exact this)).symm
theorem A9(A5:List (Int×Int)):(eg 0 11 1).filterMap (nearF A5)=((List.range 11).map fun n:Nat=>b9 A5 n).map cn:=by
 rw[P_,aaK,YU]
 exact List.filterMap_eq_map▸rfl
noncomputable def v8(r:List Int)(y:AV):Option AV:=cond (r.contains (gk y)) none (some y)
theorem v9(r:List Int):∀l:List Int,(l.map AV.int).filterMap (v8 r)=(l.filter fun n=>!r.contains n).map .int
 | []=>rfl
 | n::l=>by
  rw[Ye,Ys,Zz,v9 r l]
  have e:v8 r (.int n)=cond (r.contains n) none (some (.int n)):=rfl
  rw[e]
  cases r.contains n <;> rfl
noncomputable def rr(aj:List (List Int))(t:Nat):List Int:=t.rec [1] fun k r=>ba aj r k
theorem sC(aj:List (List Int)):∀f t,dn aj f t (rr aj t)=true↔∀s,t≤s→s<t+f→s≠(rr aj s).length
 | 0,t=> ⟨fun O s h1 h2=>absurd h2 (ZE.mpr h1),fun O=>rfl⟩
 | f+1,t=>by
  unfold dn
  by_cases h:t=(rr aj t).length
  ·rw[X6 h]
   exact⟨(fun h'=>nomatch h'),fun h'=>absurd h (h' t (N1 t) (ZM (ZF f)))⟩
  ·rw[X5 h]
   refine(sC aj f (t+1)).trans ⟨fun h' s h1 h2=>?_,fun h' s h1 h2=>h' s (Yg h1) (by rw[Zo] at h2;exact h2)⟩
   rcases Nat.eq_or_lt_of_le h1 with rfl | h1
   ·exact h
   ·exact h' s h1 (by rw[Zo];exact h2)
section
variable {y:Lay}{g:Gd}{links:List Lk}{pairs:List (Int×Int)}{either:Int}
noncomputable def EJ(y:Lay)(T:List (Str×Str))(either:Int):Os:=[(40,.any 3 (fO T (y.ad 100))),(12,.cell .none),(11,.cell (some (.r 40))),(10,.cell (some (.v (.int either))))]
noncomputable abbrev oa(either:Int):=[(12,EO.cell none),(11,EO.cell none),(10,EO.cell (some (.v (.int either))))]
noncomputable abbrev od(s:Int)(l:Int)(r:Int):=[AV.int s,.int (fst (l,r)),.int (snd (l,r))]
theorem A_(either:Int)(links:List Lk):(EB y g).turn [(12,.cell .none),(11,.cell .none),(10,.cell (some (.v (.int either))))] (qj either) (fun z=> .a<| .a<| .sp (.f (fun x=>some (.lst [.int (6+gk (iT (ma z) 0)),x])) (fun O=> .nil) .nil) .nil) (aV (links.map bG)):=fun g' b z hz=>by
 obtain⟨k,c,rfl,hc⟩:=jk hz
 obtain⟨t,ht,rfl⟩:=N5.mp (Yh hc)
 obtain⟨s,l,r⟩:=t
 refine a6 (P:=((!s==either)=true→_∧1≤(↑(length (od s l r)):Int)∧SL (od s l r)∧rf (oa either)∧dG (qj either) (AV.tup [.int ↑k,bG (s,l,r)])=filterMap (fun(x:AV)=>some (.lst [.int (6+ ↑k),x])) (drop (toNat 1) (od s l r))∧(∀z:AV,((z∈drop (toNat 1) (od s l r))→((((some (AV.lst [.int (6+ ↑k),z]))=(some (AV.lst [.int (6+ ↑k),z])))∧aA (.mk ([none,some (.v (.int ↑k)),some (.v (bG (s,l,r))),some (.v z)]) ((oa either)) .nil) ([none,some (.v (.int ↑k)),some (.v (bG (s,l,r)))]) ((oa either)))))))∧((!s==either)=false→dG (qj either) (AV.tup [.int ↑k,bG (s,l,r)])=[]∧rf (oa either)))
  ⟨fun h=> ⟨abd 1,(by decide:(1:Int)≤3),E1 rfl,rfl,?_,fun z O=> ⟨rfl,rfl⟩⟩,fun h=> ⟨?_,rfl⟩⟩ (by kernel_rfl!)
 ·show cond (s !=either) _ _=_
  rw[show(s !=either)=true from h];rfl
 ·show cond (s !=either) _ _=_
  rw[show(s !=either)=false from h];rfl
noncomputable abbrev uf(either:Int):=[(12,EO.cell none),(11,EO.cell none),(10,EO.cell (some (.v (.int either))))]
theorem A'(l:List (Int×Int))(hl:∀p∈l,gF p):(EC y g).turn [(12,.cell .none),(11,.cell .none),(10,.cell (some (.v (.int either))))] A7 (fun z=> .v (.lst (qH z).reverse)<| .f (fun x=>some (.tup [.str (aB (gk (iT (qH x) 0))),.str (aB (gk (iT (qH x) 1)))])) (fun O=> .nil) (.a .nil)) (l.map b7):=fun g' b z hz=>by
 obtain⟨p,hp,rfl⟩:=N5.mp hz
 obtain⟨h1,h2,h3,h4⟩:=hl p hp
 have k1:p.1.natAbs<1000000:=by omega
 have k2:p.2.natAbs<1000000:=by omega
 refine a6 (P:=SL [AV.int p.1,.int p.2]∧AV.lst (aS [AV.int p.1,.int p.2] none none (some (-1:Int)))= .lst (reverse [.int p.1,.int p.2])∧rf (uf either)∧rf (dG A7 (b7 p))∧(_∧_∧rf (some (AV.tup [.str (aB p.1),AV.str (aB p.2)]))∧EE ([none,some (.v (b7 p))]) ((uf either)))∧(_∧_∧rf (some (AV.tup [.str (aB p.2),AV.str (aB p.1)]))∧EE ([none,some (.v (b7 p))]) ((uf either)))∧True)
  ⟨E1 rfl,cf (qd _ _),rfl,rfl,⟨k1,k2,rfl,rfl⟩,⟨k2,k1,rfl,rfl⟩,trivial⟩ (by kernel_rfl!)
theorem EK(os:Os)(l:List Int)(hl:∀k∈l,0≤k∧k<11):(ED y g).turn os A8 (fun z=> .v (.int (numOf (vG z))) .nil) (l.map fun k=> .str (aB k)):=fun g' b z hz=>by
 obtain⟨k,hk,rfl⟩:=N5.mp hz
 obtain⟨h1,h2⟩:=hl k hk
 refine a6 (P:=Dh (aB k) (AV.int (numOf (aB k)))∧A8 (AV.str (aB k))=some (AV.int (numOf (aB k)))∧os=os)
  ⟨⟨k,rfl,h1,Zb h2 (by decide),E8 AV.int (su h1 h2)⟩,rfl,rfl⟩ (by kernel_rfl!)
noncomputable def Tr(y:Lay)(T:List (Str×Str))(e:List (Int×Int))(z:AV):Hint:=
 .v (.val (.ref (y.am 7)))<| .call (.v (.lst ((b9 e (gk z)).map fun k=> .str (aB k)))) [(40,.any 3 (fO T (y.ad 100)))]<| .f A8 (fun z=> .v (.int (numOf (vG z))) .nil)<| .v (cn (b9 e (gk z))) .nil
theorem Ba(X:dy y g)(hn:9≤g.n)(e:List (Int×Int))(he:∀p∈e,gF p)(U_:e.length≤100):(EF y g).turn (EJ y (e.map fun p=> (aB p.1,aB p.2)) either) (nearF e) (Tr y (e.map fun p=> (aB p.1,aB p.2)) e) (eg 0 11 1):=fun g' b z hz=>by
 obtain⟨i,hi⟩:=Zm.mp hz
 obtain⟨h1,rfl⟩:=jH (n:=11) hi
 have Jo:(0:Int)≤(i:Int):=N3 i
 have yS:(i:Int)<11:=Yd.mpr h1
 have X':=X.bO b.bO
 have f:=(zB X' (by rw[b.n];exact E2 (by decide) hn) (l:=e.map fun p=> (aB p.1,aB p.2)) (nm:=aB i) (Ij Jo yS) (kA (n_ Jo (YT yS (by decide)))) (fun p hp=>by
  obtain⟨q,hq,rfl⟩:=N5.mp hp
  exact kA (n_ (he q hq).1 (YT (he q hq).2.1 (by decide)))) (by rw[E7];exact bd U_ rfl)).shift 40
 rw[m_ Jo yS e he] at f
 have nl:(b9 e (i:Int)).length≤100:=E2 (ZH ..) U_
 refine a6 (P:=Mt g' (EO.any 3 (fO (map (fun(p:Int×Int)=> (aB p.1,aB p.2)) e) (y.ad 100))) (Str.ofString "get_all") (AV.val (Value.ref (y.am 7)))∧natAbs ↑i<1000000∧_∧SL (map (fun(k:Int)=>AV.str (aB k)) (b9 e ↑i))∧LC.turn (ED y g') [(40,EO.any 3 (fO (map (fun(p:Int×Int)=> (aB p.1,aB p.2)) e) (y.ad 100))),(12,EO.cell none),(11,EO.cell (some (.r 40))),(10,EO.cell (some (.v (.int either))))] A8 (fun(z:AV)=>Hint.v (AV.int (numOf (vG z))) .nil) (map (fun(k:Int)=>AV.str (aB k)) (b9 e ↑i))∧filterMap A8 (map (fun(k:Int)=>AV.str (aB k)) (b9 e ↑i))=map .int (b9 e ↑i)∧rf (nearF e (AV.int ↑i))∧rf (EJ y (map (fun(p:Int×Int)=> (aB p.1,aB p.2)) e) either))
  ⟨Pt X' _,aar h1 (by decide),f,sz (az nl) rfl,EK _ _ (qh he i),v7 (qh he i),rfl,rfl⟩ (by kernel_rfl!)
theorem Bb(os:Os)(l:List (List Int))(hl:∀r∈l,r.length≤1000):(EG y g).turn os some (fun z=> .v z .nil) (l.map cn):=fun g' b z hz=>by
 obtain⟨r,hr,rfl⟩:=N5.mp hz
 refine a6 (P:=SL (map AV.int r)∧AV.lst (aS (map AV.int r) none none none)=cn r∧rf (some (cn r))∧rf os)
  ⟨sz (az (hl r hr)) rfl,cf (An _),rfl,rfl⟩ (by kernel_rfl!)
noncomputable def v_(links:List Lk)(pairs:List (Int×Int))(aL:List (List Int))(pick:Int):Vs:=[some (.v (.lst (links.map bG))),some (.v (.lst (pairs.map b7))),none,none,none,none,some (.v (.lst (aL.map cn))),some (.v (.int pick)),some (.r 31),none]
noncomputable def F9(y:Lay)(T:List (Str×Str))(either:Int)(aj:List (List Int)):Os:=(31,.bq (aj.map cn))::EJ y T either
noncomputable def eB(pick:Int)(t:Lk):Int:=if pick.fmod 2=0 then t.2.1 else t.2.2
noncomputable def Qa(either:Int)(s:eS)(k:Nat)(t:Lk):Hint:=
 .a<| .a<| .sp (.v (.int (eB s.pick t))<| .v (cn (s.aj.getD (eB s.pick t).toNat []))<| .v (cn (s.aj.getD (6+k) [])) .nil) .nil
noncomputable abbrev ug(s:eS)(ts:Int)(tl:Int)(tr:Int)(k:Nat):=List.set (map cn (eS.aj s)) (toNat (eB (eS.pick s) (ts,tl,tr))) (AV.lst (map AV.int (getD (eS.aj s) (toNat (eB (eS.pick s) (ts,tl,tr))) [])++ [AV.int ((6:Int)+(↑k:Int))]))
noncomputable abbrev uh(s:eS):=map cn (eS.aj s)
noncomputable abbrev oe(s:eS)(ts:Int)(tl:Int)(tr:Int):=eB (eS.pick s) (ts,tl,tr)
theorem EL(T:List (Str×Str))(aL:List (List Int))(s:eS)(k:Nat)(t:Lk)(m:Nat)(hm:m≤100)(hT:P9 s m)(ht:gF t.2)(hk:k<5)(R:RV→S→Prop):
  (v0 y g).set (.v (.tup [.int k,bG t])) ⟨v_ links pairs aL s.pick,F9 y T either s.aj,Qa either s k t⟩ fun s2=> (v5 y g).ex s2 fun f s3=>ca f (True∧aA s3 (v_ links pairs aL (cu either s k t).pick) (F9 y T either (cu either s k t).aj)) False fun v=>R v s3:=by
 obtain⟨ts,tl,tr⟩:=t
 obtain⟨EM,ui⟩:=hT
 have hf:s.pick.fmod 2=0∨s.pick.fmod 2=1:=by
  have:=YF s.pick (b:=2) (by decide)
  have:=YV s.pick (b:=2) (by decide)
  omega
 obtain⟨hp,h0,h1⟩:d5 [AV.int ts,.int tl,.int tr] (1+s.pick.fmod 2)=some (.int (eB s.pick (ts,tl,tr)))∧0≤eB s.pick (ts,tl,tr)∧eB s.pick (ts,tl,tr)<11:=by
  obtain⟨a,b,c,d⟩:=ht
  unfold eB
  rcases hf with e | e
  ·rw[e,X6 rfl];exact⟨rfl,a,b⟩
  ·rw[e,X5 (by decide)];exact⟨rfl,c,d⟩
 have JQ:ts=either→cu either s k (ts,tl,tr)=⟨s.pick.fdiv 2,(s.aj.set (eB s.pick (ts,tl,tr)).toNat (s.aj.getD (eB s.pick (ts,tl,tr)).toNat []++ [6+(k:Int)])).set (6+k) (s.aj.getD (6+k) []++ [eB s.pick (ts,tl,tr)])⟩:=fun e=>X6 e
 have Ts:ts≠either→cu either s k (ts,tl,tr)=s:=fun e=>X5 e
 have wa:(s.aj.map cn).length=11:=(E7 ..).trans EM
 have k6:(6:Int)+(k:Int)=((6+k:Nat):Int):=rfl
 have g1:=qi (l:=s.aj) h0 (by rw[EM];exact h1)
 have g2:d5 (s.aj.map cn) ((6:Int)+(k:Int))=some (cn (s.aj.getD (6+k) [])):=qi (l:=s.aj) (p:=((6+k:Nat):Int)) (N3 _) (by rw[EM];exact Yd.mpr (abx hk 6))
 have ln:∀i:Nat,((s.aj.getD i []).map AV.int).length≤100:=fun i=>az (E2 (kB ui i).1 hm)
 refine a6 (P:=((ts==either)=true→SL [AV.int ts,.int (fst (tl,tr)),.int (snd (tl,tr))]∧_∧_∧_∧length (map AV.int (getD (eS.aj s) (toNat (oe s ts tl tr)) []))+length [AV.int ((6:Int)+(↑k:Int))]≤sizeLine∧_∧_∧length (map AV.int (getD (eS.aj s) (6+k) []))+length [AV.int (oe s ts tl tr)]≤sizeLine∧_∧eB (eS.pick s) (ts,tl,tr)<(↑(length (uh s)):Int)∧length (uh s)≤1000000∧(0:Int)≤(6:Int)+(↑k:Int)∧(6:Int)+(↑k:Int)<(↑(length (ug s ts tl tr k)):Int)∧length (ug s ts tl tr k)≤1000000∧True∧aA (.mk ([some (.v (.lst (map bG links))),some (.v (.lst (map b7 pairs))),some (.v (.int ↑k)),some (.v (bG (ts,tl,tr))),some (.v (.int (oe s ts tl tr))),none,some (.v (.lst (map cn aL))),some (.v (.int (fdiv (eS.pick s) ((2:Nat):Int)))),some (.r 31),none]) ([(31,EO.bq (List.set (ug s ts tl tr k) (toNat ((6:Int)+(↑k:Int))) (AV.lst (map AV.int (getD (eS.aj s) (6+k) [])++ [AV.int (oe s ts tl tr)])))),(40,EO.any 3 (fO T (y.ad 100))),(12,EO.cell none),(11,EO.cell (some (.r 40))),(10,EO.cell (some (.v (.int either))))]) .nil) (v_ links pairs aL (eS.pick (cu either s k (ts,tl,tr)))) (F9 y T either (eS.aj (cu either s k (ts,tl,tr)))))∧((ts==either)=false→True∧aA (.mk ([some (.v (.lst (map bG links))),some (.v (.lst (map b7 pairs))),some (.v (.int ↑k)),some (.v (bG (ts,tl,tr))),none,none,some (.v (.lst (map cn aL))),some (.v (.int (eS.pick s))),some (.r 31),none]) ([(31,EO.bq (uh s)),(40,EO.any 3 (fO T (y.ad 100))),(12,EO.cell none),(11,EO.cell (some (.r 40))),(10,EO.cell (some (.v (.int either))))]) .nil) (v_ links pairs aL (eS.pick (cu either s k (ts,tl,tr)))) (F9 y T either (eS.aj (cu either s k (ts,tl,tr))))))
  ⟨fun h=> ⟨E1 rfl,hp,sz (X7 wa) rfl,g1,sz (sa (ln _) (N1 1)) rfl,sz (X7 wa) rfl,g2,sz (sa (ln _) (N1 1)) rfl,h0,by rw[wa];exact h1,bd (X7 wa) rfl,N3 _,by rw[ZY,wa];exact Yd.mpr (abx hk 6),by rw[ZY];exact bd (X7 wa) rfl,trivial,?_⟩,fun h=> ⟨trivial,?_⟩⟩ (by kernel_rfl!)
 ·rw[JQ (eq_of_beq h)]
  unfold F9 v_
  rw[List.map_set,List.map_set,cn,cn,N9,N9];rfl
 ·rw[Ts (ZJ h)];rfl
noncomputable def zT(y:Lay)(T:List (Str×Str))(either:Int)(aj:List (List Int))(r:List Int):Os:=[(32,.list (r.map .int)),(31,.bq (aj.map cn)),(40,.any 3 (fO T (y.ad 100))),(12,.cell (some (.r 32))),(11,.cell (some (.r 40))),(10,.cell (some (.v (.int either))))]
theorem EN(T:List (Str×Str))(aj:List (List Int))(r l:List Int):(EH y g).turn (zT y T either aj r) (v8 r) (fun z=> .b (r.contains (gk z)) (.sp .nil .nil)) (l.map .int):=fun g' b z hz=>by
 obtain⟨k,hk,rfl⟩:=N5.mp hz
 refine a6 (P:=SM (map AV.int r) k (List.contains r k)∧((!List.contains r k)=true→v8 r (AV.int k)=some (AV.int k)∧zT y T either aj r=zT y T either aj r)∧((!List.contains r k)=false→v8 r (AV.int k)=none∧zT y T either aj r=zT y T either aj r))
  ⟨⟨r,rfl,rfl⟩,fun h=> ⟨by show cond (r.contains k) _ _=_;rw[(YM _).mp h];rfl,rfl⟩,fun h=> ⟨by show cond (r.contains k) _ _=_;rw[(Bool.not_eq_false' _).mp h];rfl,rfl⟩⟩ (by kernel_rfl!)
noncomputable def Rx(aj:List (List Int))(r:List Int)(t:Nat):Hint:=
 .a<| .sp (.nil) (.v (.int (r.getD t 0))<| .v (cn (aj.getD (r.getD t 0).toNat []))<| .f (v8 r) (fun z=> .b (r.contains (gk z)) (.sp .nil .nil))<| .v (.lst (((aj.getD (r.getD t 0).toNat []).filter fun n=>!r.contains n).map .int)) .nil)
noncomputable abbrev ir(aj:List (List Int))(r:List Int)(t:Nat):=getD aj (toNat (getD r t (0:Int))) []
theorem x8(T:List (Str×Str))(aL aj:List (List Int))(pick:Int)(r:List Int)(t:Nat)(hr:r.length≤1000)(ht:t<r.length∨t=r.length)(i8:∀n∈r,0≤n∧n<11)(EM:aj.length=11)(ui:∀z∈aj,z.length≤100)(res:Bool)(I:Nat→Prop)(hI:t≠r.length→I (t+1))(q5:t=r.length→res=false):
  (zP y g).set (.v (.int t)) ⟨v_ links pairs aL pick,zT y T either aj r,Rx aj r t⟩ fun s2=> (zQ y g).ex s2 fun f s3=>ca f (I (t+1)∧aA s3 (v_ links pairs aL pick) (zT y T either aj (ba aj r t))) False fun v=>cO (.ret v) s3 (.bool res) []:=by
 have wa:(aj.map cn).length=11:=(E7 ..).trans EM
 have hz:(aj.getD (r.getD t 0).toNat []).length≤100:=by
  rw[N4]
  cases e:aj[(r.getD t 0).toNat]? with
  | none=>exact YK _
  | some z=>exact ui z (Yh e)
 refine a6 (P:=SL (map AV.int r)∧(((↑t:Int)==(↑(length (map AV.int r)):Int))=true→VI (.bool false) (.bool res)∧rf ([]:Os))∧(((↑t:Int)==(↑(length (map AV.int r)):Int))=false→SL (map AV.int r)∧AG (map .int r) ↑t (.int (getD r t 0))∧SL (map cn aj)∧AG (map cn aj) (getD r t 0) (cn (ir aj r t))∧SL (map AV.int (ir aj r t))∧LC.turn (EH y g) (zT y T either aj r) (v8 r) (fun(z:AV)=>Hint.b (List.contains r (gk z)) (Hint.sp .nil .nil)) (map AV.int (ir aj r t))∧filterMap (v8 r) (map AV.int (ir aj r t))=map .int (filter (fun(n:Int)=>!List.contains r n) (ir aj r t))∧length (map AV.int r)+length (map AV.int (filter (fun(n:Int)=>!List.contains r n) (ir aj r t)))≤1000000∧I (t+1)∧aA (.mk ([some (.v (.lst (map bG links))),some (.v (.lst (map b7 pairs))),none,none,none,none,some (.v (.lst (map cn aL))),some (.v (.int pick)),some (.r 31),some (.v (.int ↑t))]) ([(32,EO.list (map AV.int r++map AV.int (filter (fun(n:Int)=>!List.contains r n) (ir aj r t)))),(31,EO.bq (map cn aj)),(40,EO.any 3 (fO T (y.ad 100))),(12,EO.cell (some (.r 32))),(11,EO.cell (some (.r 40))),(10,EO.cell (some (.v (.int either))))]) .nil) (v_ links pairs aL pick) (zT y T either aj (ba aj r t))))
  ⟨sz (az hr) rfl,fun h=> ⟨by rw[q5 (by have:=eq_of_beq h;rw[E7] at this;exact abe this)],rfl⟩,fun h=>?_⟩ (by kernel_rfl!)
 have fY:t≠r.length:=fun e=>by rw[E7,e] at h;exact ZJ h rfl
 have dK:=ht.resolve_right fY
 obtain⟨i0,i1⟩:=i8 (r.getD t 0) (by rw[N4,N6 dK];exact ZA dK)
 refine⟨sz (az hr) rfl,fK 0 dK,sz (X7 wa) rfl,qi i0 (by rw[EM];exact i1),sz (az hz) rfl,EN T aj r _,v9 r _,bd (sa (az hr) (az (E2 (aas ..) hz))) rfl,hI fY,?_⟩
 unfold zT ba
 rw[N9];rfl
theorem J'{aj:List (List Int)}(EM:aj.length=11)(hT:∀z∈aj,z.length≤50∧∀n∈z,0≤n∧n<11):∀t,(rr aj t).length≤1+50*t∧∀n∈rr aj t,0≤n∧n<11
 | 0=> ⟨N1 1,fun n hn=>by rw[X8.mp hn];exact⟨by decide,by decide⟩⟩
 | t+1=>by
  obtain⟨h1,h2⟩:=J' EM hT t
  obtain⟨h3,h4⟩:=kB hT ((rr aj t).getD t 0).toNat
  show(ba aj (rr aj t) t).length≤_∧∀n∈ba aj (rr aj t) t,_
  unfold ba
  refine⟨?_,fun n hn=> (Yf.mp hn).elim (h2 n) fun hn=>h4 n (ab3.mp hn).1⟩
  rw[N8,Nat.mul_succ,← YW]
  exact ZQ h1 (E2 (aas ..) h3)
theorem Ka(aj:List (List Int)):∀t,(∀s,s<t→s≠(rr aj s).length)→t≤(rr aj t).length
 | 0,_=>YK _
 | t+1,h=>by
  have h1:=Ka aj t fun s hs=>h s (Zf hs)
  have h2:=aam h1 (h t (Y4 t))
  refine E2 h2 ?_
  show _≤(ba aj (rr aj t) t).length
  unfold ba
  rw[N8];exact Yl ..
noncomputable def Mx(links:List Lk)(pairs:List (Int×Int))(aL:List (List Int)):Vs:=[some (.v (.lst (links.map bG))),some (.v (.lst (pairs.map b7))),none,none,none,none,some (.v (.lst (aL.map cn))),none,none,none]
noncomputable def a_(links:List Lk)(aL:List (List Int))(either:Int)(p k:Nat):eS:=e_ either links ⟨p,aL⟩ k
noncomputable def Ry(y:Lay)(T:List (Str×Str))(links:List Lk)(pairs:List (Int×Int))(aL:List (List Int))(either:Int)(p:Nat):Hint:=
 .f some (fun z=> .v z .nil)<| .v (.lst (aL.map cn))<|
 .loop (fun O=>True) (fun k=>v_ links pairs aL (a_ links aL either p k).pick) (fun k=>F9 y T either (a_ links aL either p k).aj) (fun k O=>Qa either (a_ links aL either p k) k (links.getD k (0,0,0)))<|
 .loop (fun t=> ∀s,s<t→s≠(rr (a_ links aL either p links.length).aj s).length) (fun O=>v_ links pairs aL (a_ links aL either p links.length).pick) (fun t=>zT y T either (a_ links aL either p links.length).aj (rr (a_ links aL either p links.length).aj t))
  (fun t O=>Rx (a_ links aL either p links.length).aj (rr (a_ links aL either p links.length).aj t) t) .nil
theorem Bc(T:List (Str×Str))(aL:List (List Int))(p:Nat)(BU:links.length=5)(hl:∀t∈links,gF t.2)(EM:aL.length=11)(U':∀z∈aL,z.length≤40∧∀n∈z,0≤n∧n<11)(res:Bool)(I:Nat→Prop)(hI:dr links aL either p=true→I (p+1))(q5:dr links aL either p=false→res=false):
  (zR y g).set (.v (.int p)) ⟨Mx links pairs aL,EJ y T either,Ry y T links pairs aL either p⟩ fun s2=> (zS y g).ex s2 fun f s3=>ca f (I (p+1)∧aA s3 (Mx links pairs aL) (EJ y T either)) False fun v=>cO (.ret v) s3 (.bool res) []:=by
 have hT:=fun k hk=>sv (either:=either) (links:=links) (T:=⟨p,aL⟩) (m:=40) hl BU ⟨EM,U'⟩ k hk
 have el:(aV (links.map bG)).length=links.length:=(em _).trans (E7 ..)
 have EP:=hT links.length (X7 BU)
 have f1:aW (v0 y g) (v5 y g) (aV (links.map bG)) (fun O=>True) (fun k=>v_ links pairs aL (a_ links aL either p k).pick) (fun k=>F9 y T either (a_ links aL either p k).aj) (fun k O=>Qa either (a_ links aL either p k) k (links.getD k (0,0,0))) fun v s3=>cO (.ret v) s3 (.bool res) []:=fun k z hz O=>by
  obtain⟨t,ht,rfl⟩:=gW hz
  have hk:k<5:=by rw[← BU];exact(Ym.mp ht).1
  have e:a_ links aL either p (k+1)=cu either (a_ links aL either p k) k t:=by
   show e_ either links ⟨p,aL⟩ (k+1)=_
   unfold e_
   rw[ht];rfl
  show(v0 y g).set _ ⟨_,_,Qa either (a_ links aL either p k) k (links.getD k (0,0,0))⟩ fun s2=> (v5 y g).ex s2 fun f s3=>ca f (True∧aA s3 (v_ links pairs aL (a_ links aL either p (k+1)).pick) (F9 y T either (a_ links aL either p (k+1)).aj)) False fun v=>cO (.ret v) s3 (.bool res) []
  rw[ft ht,e]
  exact EL T aL _ k t (40+k) (bd (Yo (YA hk) 40) rfl) (hT k (YA hk)) (hl t (Yh ht)) hk _
 have ha:=sC (a_ links aL either p links.length).aj 11 0
 have f2:aW (zP y g) (zQ y g) (eg 0 11 1) (fun t=> ∀s,s<t→s≠(rr (a_ links aL either p links.length).aj s).length) (fun O=>v_ links pairs aL (a_ links aL either p links.length).pick) (fun t=>zT y T either (a_ links aL either p links.length).aj (rr (a_ links aL either p links.length).aj t))
   (fun t O=>Rx (a_ links aL either p links.length).aj (rr (a_ links aL either p links.length).aj t) t) fun v s3=>cO (.ret v) s3 (.bool res) []:=fun t z hz hi=>by
  obtain⟨h1,rfl⟩:=jH (n:=11) hz
  obtain⟨r1,r2⟩:=J' EP.1 (fun z hz=> ⟨bd (EP.2 z hz).1 (by rw[BU];rfl),(EP.2 z hz).2⟩) t
  exact x8 T aL _ _ _ t (E2 r1 (E2 (Yo (Zv 50 (YA h1)) 1) (by decide))) (Nat.lt_or_eq_of_le (Ka _ t hi)) r2 EP.1 (fun z hz=>bd (EP.2 z hz).1 (by rw[BU];rfl)) res (fun t=> ∀s,s<t→s≠(rr (a_ links aL either p links.length).aj s).length) (fun h=>pQ hi h) fun h=>q5 (abK.mpr fun e=>ha.mp e t (YK t) (by rw[YQ];exact h1) h)
 have f0:∀l:List AV,l.filterMap some=l:=fun l=>List.filterMap_some
 refine a6 (P:=SL (map cn aL)∧LC.turn (EG y g) (EJ y T either) some (fun(z:AV)=>Hint.v z .nil) (map cn aL)∧filterMap some (map cn aL)=map cn aL∧(True∧aA (.mk ([some (.v (.lst (map bG links))),some (.v (.lst (map b7 pairs))),none,none,none,none,some (.v (.lst (map cn aL))),some (.v (.int ↑p)),some (.r 31),none]) ([(31,EO.list (map cn aL)),(40,EO.any 3 (fO T (y.ad 100))),(12,EO.cell none),(11,EO.cell (some (.r 40))),(10,EO.cell (some (.v (.int either))))]) .nil) ((fun(k:Nat)=>v_ links pairs aL (eS.pick (a_ links aL either p k))) 0) ((fun(k:Nat)=>F9 y T either (eS.aj (a_ links aL either p k))) 0))∧(aW (v0 y g) (v5 y g) (aV (map bG links)) (fun(x:Nat)=>True) (fun(k:Nat)=>v_ links pairs aL (eS.pick (a_ links aL either p k))) (fun(k:Nat)=>F9 y T either (eS.aj (a_ links aL either p k))) (fun(k:Nat) (x:AV)=>Qa either (a_ links aL either p k) k (getD links k (0,0,0))) fun(v:RV) (s3:S)=>cO (RF.ret v) s3 (AV.bool res) [])∧(True→Builtin.Range.small 0 11 1=true∧((∀s:Nat,((s<0)→(s≠length (rr (eS.aj (a_ links aL either p (length links))) s))))∧aA (.mk ([some (.v (.lst (map bG links))),some (.v (.lst (map b7 pairs))),none,none,none,none,some (.v (.lst (map cn aL))),some (.v (.int (eS.pick (a_ links aL either p (length (aV (map bG links))))))),some (.r 31),none]) ([(32,EO.list [AV.int 1]),(31,EO.bq (map cn (eS.aj (a_ links aL either p (length (aV (map bG links))))))),(40,EO.any 3 (fO T (y.ad 100))),(12,EO.cell (some (.r 32))),(11,EO.cell (some (.r 40))),(10,EO.cell (some (.v (.int either))))]) .nil) ((fun(x:Nat)=>v_ links pairs aL (eS.pick (a_ links aL either p (length links)))) 0) ((fun(t:Nat)=>zT y T either (eS.aj (a_ links aL either p (length links))) (rr (eS.aj (a_ links aL either p (length links))) t)) 0))∧(aW (zP y g) (zQ y g) (eg 0 11 1) (fun(t:Nat)=> ∀(s:Nat),s<t→s≠length (rr (eS.aj (a_ links aL either p (length links))) s)) (fun(x:Nat)=>v_ links pairs aL (eS.pick (a_ links aL either p (length links)))) (fun(t:Nat)=>zT y T either (eS.aj (a_ links aL either p (length links))) (rr (eS.aj (a_ links aL either p (length links))) t)) (fun(t:Nat) (x:AV)=>Rx (eS.aj (a_ links aL either p (length links))) (rr (eS.aj (a_ links aL either p (length links))) t) t) fun(v:RV) (s3:S)=>cO (RF.ret v) s3 (AV.bool res) [])∧((∀(s:Nat),s<length (eg (0:Int) (11:Int) (1:Int))→s≠length (rr (eS.aj (a_ links aL either p (length links))) s))→I (p+1)∧aA (.mk ([some (.v (.lst (map bG links))),some (.v (.lst (map b7 pairs))),none,none,none,none,some (.v (.lst (map cn aL))),some (.v (.int (eS.pick (a_ links aL either p (length links))))),some (.r 31),none]) ([(32,EO.list (map AV.int (rr (eS.aj (a_ links aL either p (length links))) (length (eg 0 11 1))))),(31,EO.bq (map cn (eS.aj (a_ links aL either p (length links))))),(40,EO.any 3 (fO T (y.ad 100))),(12,EO.cell (some (.r 32))),(11,EO.cell (some (.r 40))),(10,EO.cell (some (.v (.int either))))]) .nil) (Mx links pairs aL) (EJ y T either)))) ?_ (by kernel_rfl!)
 refine⟨sz (az (X7 EM)) rfl,Bb _ _ (fun r hr=>bd (U' r hr).1 rfl),f0 _,⟨trivial,rfl⟩,f1,fun O=>?_⟩
 rw[el]
 exact⟨gX (n:=11) (by decide),⟨fun s hs=>absurd hs (Zt s),rfl⟩,f2,fun h=> ⟨hI (ha.mpr fun s O h2=>h s (by rw[show(eg 0 11 1).length=11 from jG (n:=11)];rw[YQ] at h2;exact h2)),rfl⟩⟩
noncomputable abbrev du(pairs:List (Int×Int))(either:Int)(links:List Lk):=bH (pairs++aU either links 0)
noncomputable abbrev uj:=eg (0:Int) (11:Int) (1:Int)
noncomputable abbrev zU(either:Int):=[(10+1+1,EO.cell none),(10+1,EO.cell none),(10,EO.cell (some (.v (.int either))))]++ []
theorem EQ(X:dy y g)(hn:12≤g.n)(BU:links.length=5)(Qb:pairs.length=3)(hl:∀t∈links,gF t.2)(hp:∀p∈pairs,gF p):
  Fn g (.v (.val (.ref (y.ad 78)))) [.v (.lst (links.map bG)),.v (.lst (pairs.map b7)),.v (.int either)] [] [] [] (.v (.bool (gE links pairs either))) []:=by
 refine jZ X (YP (k:=3) hn) (X.fn 78 "_law_hangs" (by decide)) (A4 y) (WW y) (.f (qj either) (fun z=> .a<| .a<| .sp (.f (fun x=>some (.lst [.int (6+gk (iT (ma z) 0)),x])) (fun O=> .nil) .nil) .nil)<| .v (.lst ((aU either links 0).map b7))<|
   .f A7 (fun z=> .v (.lst (qH z).reverse)<| .f (fun x=>some (.tup [.str (aB (gk (iT (qH x) 0))),.str (aB (gk (iT (qH x) 1)))])) (fun O=> .nil) (.a .nil))<| .v (.lst (dA ((bH (pairs++aU either links 0)).map fun p=> (aB p.1,aB p.2))))<|
   .call (.r 40) [(40,.any 3 (fO ((bH (pairs++aU either links 0)).map fun p=> (aB p.1,aB p.2)) (y.ad 100)))]<|
   .f (nearF (bH (pairs++aU either links 0))) (Tr y ((bH (pairs++aU either links 0)).map fun p=> (aB p.1,aB p.2)) (bH (pairs++aU either links 0)))<| .v (.lst ((bg links pairs either).map cn))<|
   .loop (fun i=> ∀p,p<i→dr links (bg links pairs either) either p=true) (fun O=>Mx links pairs (bg links pairs either)) (fun O=>EJ y ((bH (pairs++aU either links 0)).map fun p=> (aB p.1,aB p.2)) either)
   (fun p O=>Ry y ((bH (pairs++aU either links 0)).map fun p=> (aB p.1,aB p.2)) links pairs (bg links pairs either) either p) .nil) (by intros;kernel_rfl!) (fun g' b=>?_)
 have X':=X.bO b.bO
 have PO:9≤g'.n:=by rw[b.n];exact E2 (by decide) (Yj hn)
 have Tt:(aU either links 0).length≤10:=by have:=sx either links 0;rw[BU] at this;exact this
 have hF:∀p∈pairs++aU either links 0,gF p:=fun p h=> (Yf.mp h).elim (hp p) (qg either links 0 (by rw[BU];decide) hl p)
 have hE:=EI hF
 have Tu:(bH (pairs++aU either links 0)).length≤26:=by
  rw[A6]
  exact Zv 2 (gD (m:=3) (X7 Qb) Tt)
 have hN:∀z∈bg links pairs either,z.length≤40∧∀n∈z,0≤n∧n<11:=fun z hz=>by
  obtain⟨n,_,rfl⟩:=N5.mp hz
  exact⟨E2 (ZH ..) (bd Tu rfl),qh hE n⟩
 have N11:(bg links pairs either).length=11:=(E7 ..).trans Zh
 have nw:=Pr X' (E2 (by decide) PO) (l:=(bH (pairs++aU either links 0)).map fun p=> (aB p.1,aB p.2)) fun p hp=>by
  obtain⟨q,hq,rfl⟩:=N5.mp hp
  obtain⟨a,b,c,d⟩:=hE q hq
  exact⟨n_ a (YT b (by decide)),n_ c (YT d (by decide))⟩
 have et:=A' (y:=y) (g:=g') (either:=either) (pairs++aU either links 0) hF
 have ee:=v6 (pairs++aU either links 0)
 rw[N9] at et ee
 have fs:aW (zR y g') (zS y g') (eg 0 8 1) (fun i=> ∀p,p<i→dr links (bg links pairs either) either p=true) (fun O=>Mx links pairs (bg links pairs either)) (fun O=>EJ y ((bH (pairs++aU either links 0)).map fun p=> (aB p.1,aB p.2)) either)
   (fun p O=>Ry y ((bH (pairs++aU either links 0)).map fun p=> (aB p.1,aB p.2)) links pairs (bg links pairs either) either p) fun v s3=>cO (.ret v) s3 (.bool (gE links pairs either)) []:=fun p z hz hi=>by
  obtain⟨h1,rfl⟩:=jH (n:=8) hz
  exact Bc _ _ p BU hl N11 hN _ (fun i=> ∀p,p<i→dr links (bg links pairs either) either p=true) (fun h=>pQ hi h) fun h=>List.all_eq_false.mpr ⟨p,Ya.mpr h1,by rw[h];exact Yt⟩
 refine a6 (P:=LD.turn (EB y g') (zU either) (qj either) (fun(z:AV)=>Hint.a (Hint.a (Hint.sp (Hint.f (fun(x:AV)=>some (AV.lst [.int (6+gk (iT (ma z) 0)),x])) (fun O=> .nil) .nil) .nil))) (aV (map bG links))∧(flatMap (dG (qj either)) (aV (map bG links))=map b7 (aU either links 0)∧SL (map b7 (aU either links 0)))∧length (map b7 pairs)+length (map b7 (aU either links 0))≤sizeLine∧LD.turn (EC y g') (zU either) A7 (fun(z:AV)=>Hint.v (AV.lst (reverse (qH z))) (Hint.f (fun(x:AV)=>some (AV.tup [.str (aB (gk (iT (qH x) 0))),AV.str (aB (gk (iT (qH x) 1)))])) (fun O=> .nil) (Hint.a .nil))) (map b7 pairs++map b7 (aU either links 0))∧(flatMap (dG A7) (map b7 pairs++map b7 (aU either links 0))=dA (map (fun(p:Int×Int)=> (aB p.1,aB p.2)) (du pairs either links))∧SL (dA (map (fun(p:Int×Int)=> (aB p.1,aB p.2)) (du pairs either links))))∧Pn g' (RV.v (.val (Value.ref (y.ad 100)))) [RV.v (.lst (dA (map (fun(p:Int×Int)=> (aB p.1,aB p.2)) (du pairs either links))))] (fO (map (fun(p:Int×Int)=> (aB p.1,aB p.2)) (du pairs either links)) (y.ad 100))∧Builtin.Range.small 0 11 1=true∧SL uj∧LC.turn (EF y g') ((40,EO.any 3 (fO (map (fun(p:Int×Int)=> (aB p.1,aB p.2)) (du pairs either links)) (y.ad 100)))::(10+1+1,EO.cell none)::(10+1,EO.cell (some (.r 40)))::List.append [(10,EO.cell (some (.v (.int either))))] []) (nearF (du pairs either links)) (Tr y (map (fun(p:Int×Int)=> (aB p.1,aB p.2)) (du pairs either links)) (du pairs either links)) uj∧filterMap (nearF (du pairs either links)) uj=map cn (bg links pairs either)∧Builtin.Range.small 0 8 1=true∧((∀p:Nat,((p<0)→(((dr links (bg links pairs either) either p)=true))))∧EE ((fun(x:Nat)=>Mx links pairs (bg links pairs either)) 0) ((fun(x:Nat)=>EJ y (map (fun(p:Int×Int)=> (aB p.1,aB p.2)) (du pairs either links)) either) 0))∧(aW (zR y g') (zS y g') (eg 0 8 1) (fun(i:Nat)=> ∀(p:Nat),p<i→dr links (bg links pairs either) either p=true) (fun(x:Nat)=>Mx links pairs (bg links pairs either)) (fun(x:Nat)=>EJ y (map (fun(p:Int×Int)=> (aB p.1,aB p.2)) (du pairs either links)) either) (fun(p:Nat) (x:AV)=>Ry y (map (fun(p:Int×Int)=> (aB p.1,aB p.2)) (du pairs either links)) links pairs (bg links pairs either) either p) fun(v:RV) (s3:S)=>cO (RF.ret v) s3 (AV.bool (gE links pairs either)) [])∧((∀(p:Nat),p<length (eg (0:Int) (8:Int) (1:Int))→dr links (bg links pairs either) either p=true)→VI (.bool true) (.bool (gE links pairs either))∧([]:Os)=[])) ?_ (by kernel_rfl!)
 exact⟨A_ either links,⟨sA either links 0,sz (az Tt) rfl⟩,sz (sa (az (X7 Qb)) (az Tt)) rfl,et,⟨ee,sz (az (az Tu)) rfl⟩,nw,gX (n:=11) (by decide),sz (X7 (jG (n:=11))) rfl,Ba X' PO _ hE (bd Tu rfl),A9 _,gX (n:=8) (by decide),⟨fun p hp=>absurd hp (Zt p),rfl⟩,fs,
  fun h=> ⟨E8 (fun c=>RV.v (.bool c)) (Eq.symm (E9.mpr fun p hp=>h p (by rw[show(eg 0 8 1).length=8 from jG (n:=8)];exact Ya.mp hp))),rfl⟩⟩
end
end
end
section
section
noncomputable def ER(y:Lay):Cx:=JS y [("leaves",.local),("hues",.cell),("pairs",.local),("row",.local),("crossed",.local),("hue_of",.local),("spot",.local),("ring",.local),("pair",.local),("low",.local),("high",.local),("within",.local),("beyond",.local),("some",.local),("table",.cell)] [("hues",.cell,10),("table",.cell,11)] [10,14,5,13,15,31] true [(y.lp 80,"_law_crossed.<locals>.<lambda>")]
noncomputable def Kb(y:Lay):Cx:=cx y ["spot"] [] [] false
noncomputable def zV(y:Lay)(g:Gd):SE ⟨Kb y,g⟩:=(.get (.loc 0 (q 353 49 53)) (.int 0 0 (q 353 54 55)) (q 353 49 56))
noncomputable def zW(y:Lay)(g:Gd):TG ⟨ER y,g⟩:= .n (.loc 5) 354 8
noncomputable def zX(y:Lay)(g:Gd):SB ⟨ER y,g⟩:= .cons (.exp (.pG 14 (q 355 8 19) [(.lo 2 355 20),(.lo 5 355 25)] "key" (.lo 4 355 35) (q 355 31 41) (q 355 8 42)))<| .nil
noncomputable def Qc(y:Lay):Cx:=cx y [".0","place"] [("hues",.free,10)] [] false
noncomputable def ES(y:Lay)(g:Gd):LC ⟨ER y,g⟩:=⟨Qc y,fun g=> (.n (.loc 1) 358 44),fun g=>[],fun g=> (.get (.ce 0 358 28) (.lo 1 358 33)),[],rfl,rfl,fun O=>rfl,fun O=>rfl,fun O=>rfl⟩
noncomputable def Qd(y:Lay):Cx:=cx y [".0","hue","name"] [] [] false
noncomputable def ET(y:Lay)(g:Gd):LC ⟨ER y,g⟩:=⟨Qd y,fun g=> (.xy [(.n (.loc 1) 362 44),(.n (.loc 2) 362 49)]),fun g=>[],fun g=> (.tup [(.lo 2 362 30),(.st "" 362 36)]),[],rfl,rfl,fun O=>rfl,fun O=>rfl,fun O=>rfl⟩
noncomputable def Qe(y:Lay):Cx:=⟨[(".0",.local),("letter",.local),("len",.globalImplicit),("table",.free)],[".0","letter"],[("table",.free,11)],[0],GX y,30,false,[]⟩
noncomputable def Kc(y:Lay)(g:Gd):LC ⟨ER y,g⟩:=⟨Qe y,fun g=> (.n (.loc 1) 363 64),fun g=>[],fun g=> (.cl 0 363 33 [(.vR (.ce 0 363 37) "get_all" (q 363 37 50) [(.lo 1 363 51)] (q 363 37 58))]),[],rfl,rfl,fun O=>rfl,fun O=>rfl,fun O=>rfl⟩
noncomputable def zY(y:Lay)(g:Gd):TG ⟨ER y,g⟩:= .n (.loc 12) 361 12
noncomputable def zZ(y:Lay)(g:Gd):SB ⟨ER y,g⟩:= .cons (.Hs (.d7 1) (q 362 12 17) (.cls 40 31 (q 362 20 27) [(.lc (ET y g) (.of (.lo 12 362 57)) (q 362 28 62))] (q 362 20 63)) (q 362 12 63))<| .cons (.exp (.mt (.lo 3 363 12) .append [(.isin (.nt 1 363 27) (.lc (Kc y g) (.of (.st "Abc" 363 74)) (q 363 32 80)))]))<| .nil
noncomputable def wb(y:Lay)(g:Gd):TG ⟨ER y,g⟩:= .n (.loc 7) 357 8
noncomputable def z5(y:Lay)(g:Gd):SB ⟨ER y,g⟩:= .cons (.Rk [(.n (.loc 8) 358 8),(.n (.loc 9) 358 13)] 0 (q 358 8 17) (.cl 5 358 20 [(.lc (ES y g) (.of (.lo 7 358 53)) (q 358 27 58))]) (q 358 8 59) (by kernel_rfl!))<| .cons (.ag (.loc 10) 359 8 (.get (.lo 6 359 17) (.fx (some (.sub (.pG 13 (q 359 22 34) [(.lo 6 359 35),(.lo 8 359 41),(.nt 6 359 46)] "key" (.lo 4 359 53) (q 359 49 59) (q 359 22 60)) (.nt 6 359 63))) (some (.pG 15 (q 359 65 76) [(.lo 6 359 77),(.lo 9 359 83),(.nt 0 359 89),(.nt 6 359 92)] "key" (.lo 4 359 99) (q 359 95 105) (q 359 65 106))) .none)))<| .cons (.ag (.loc 11) 360 8 (.get (.lo 6 360 17) (.fx (some (.pG 13 (q 360 22 34) [(.lo 6 360 35),(.lo 9 360 41),(.nt 0 360 47),(.nt 6 360 50)] "key" (.lo 4 360 57) (q 360 53 63) (q 360 22 64))) (some (.pG 15 (q 360 65 76) [(.lo 6 360 77),(.lo 8 360 83),(.nt 6 360 88)] "key" (.lo 4 360 95) (q 360 91 101) (q 360 65 102))) .none)))<| .cons (.for (zY y g) (.of (.tup [(.lo 10 361 21),(.lo 11 361 29)])) (zZ y g) ⟨361,8,363,81⟩)<| .nil
noncomputable def WX(y:Lay)(g:Gd):SB ⟨ER y,g⟩:= .cons (.SU (.loc 2) (.loc 3) (.loc 4) (q 353 4 7) (q 353 9 16) (q 353 18 24) 0 (q 353 4 24) [(.new 30 [] (q 353 28 30)),(.new 31 [] (q 353 32 34)),(.of (.lam ⟨[],[⟨"spot",.none,(q 353 43 47)⟩],.none,[],[],.none,[]⟩ (zV y g).e [("spot",.local)] [] (q 353 36 56) fun O=>rfl))] 0 (q 353 27 57) (q 353 4 57) (by kernel_rfl!))<| .cons (.Tl (zW y g) 10 (q 354 16 19) (.ce 0 354 20) (.lo 0 354 26) (q 354 16 33) (zX y g) ⟨354,4,355,42⟩ ⟨_,_,rfl⟩)<| .LS 2<| .cons (.ag (.loc 6) 356 4 (.add (.lo 2 356 11) (.lo 2 356 17)))<| .cons (.for (wb y g) (.of (.lo 1 357 16)) (z5 y g) ⟨357,4,363,81⟩)<| .LS 3<| .cons (.ret (.lo 3 364 11))<| .nil
noncomputable abbrev Sp:=Int×Nat
noncomputable def aY(p:Sp):AV:= .tup [.int p.1,.str (ch p.2)]
noncomputable def d6(p:Sp):Int:=p.1
noncomputable def Qf(z:AV):AV:= .int (gk (iT (ma z) 0))
noncomputable def bX(hs:List Int)(lv:List Nat)(i:Nat):List Sp:=((hs.zip lv).take i).foldl (eA d6) []
theorem jP{hs:List Int}{lv:List Nat}{i:Nat}{p:Sp}(h:(hs.zip lv)[i]? =some p):bX hs lv (i+1)=eA d6 (bX hs lv i) p:=by
 unfold bX
 rw[Zi,h,ZL]
 rfl
theorem uk(hs:List Int)(lv:List Nat):∀i,(bX hs lv i).Pairwise (fun a b=>d6 a≤d6 b)∧(bX hs lv i).length≤i∧∀p∈bX hs lv i,p∈hs.zip lv
 | 0=> ⟨List.Pairwise.nil,N1 _,fun p h=>by simp[bX] at h⟩
 | i+1=>by
  obtain⟨h1,h2,h3⟩:=uk hs lv i
  cases h:(hs.zip lv)[i]? with
  | none=>
   have:bX hs lv (i+1)=bX hs lv i:=by unfold bX;rw[Zi,h];exact E8 (List.foldl _ _) (YC _)
   rw[this];exact⟨h1,Y6 h2,h3⟩
  | some p=>
   rw[jP h]
   exact⟨m6 h1 p,by rw[jo];exact Zp h2,fun q hq=> (vV hq).elim (fun e=>e▸Yh h) (h3 q)⟩
theorem wc{hs:List Int}{lv:List Nat}(hn:(hs.zip lv).length=6):∀i,i≤6→(bX hs lv i).length=i
 | 0,_=>rfl
 | i+1,hi=>by
  rw[jP (N6 (by rw[hn];exact hi)),jo,wc hn i (Yg hi)]
noncomputable def F_(row:List Sp)(t:Int):Nat:=row.countP fun p=>decide (d6 p≤t)
noncomputable def re(row:List Sp)(t:Int):Nat:=row.countP fun p=>decide (d6 p<t)
noncomputable def dT(row:List Sp)(low high:Int):List Sp:=((row++row).take (re row high)).drop (F_ row low)
noncomputable def dU(row:List Sp)(low high:Int):List Sp:=((row++row).take (6+re row low)).drop (F_ row high)
noncomputable def fb(some:List Sp):Bool:=[97,98,99].any fun d=>some.countP (fun p=>decide (al p.2=d))==1
noncomputable def a9(hs:List Int)(p:Int×Int):Int×Int:=if hs.getD p.1.toNat 0≤hs.getD p.2.toNat 0 then(hs.getD p.1.toNat 0,hs.getD p.2.toNat 0) else(hs.getD p.2.toNat 0,hs.getD p.1.toNat 0)
noncomputable def bM(row:List Sp)(hs:List Int)(p:Int×Int):List Bool:=[fb (dT row (a9 hs p).1 (a9 hs p).2),fb (dU row (a9 hs p).1 (a9 hs p).2)]
noncomputable def gY(hs:List Int)(lv:List Nat)(pairs:List (Int×Int)):List Bool:=pairs.flatMap (bM (bX hs lv 6) hs)
theorem Ik{x y:Int}{ns:List Int}(hp:ns.Perm [x,y])(hs:ns.Pairwise (·≤·)):ns=if x≤y then [x,y] else [y,x]:=by
 split
 ·exact hp.eq_of_pairwise (le:=(·≤·)) (fun a b O O h1 h2=>ab4 h1 h2) hs (List.pairwise_pair.mpr ‹_›)
 ·exact(hp.trans (List.Perm.swap ..)).eq_of_pairwise (le:=(·≤·)) (fun a b O O h1 h2=>ab4 h1 h2) hs (List.pairwise_pair.mpr (Z9 (abO.mp ‹_›)))
theorem qk{d:Nat}(hd:PySem.Txt.lower nm=ch d):∀l:List Sp,(∀p∈l,p.2∈six)→(bP (l.map fun p=> (ch p.2,Str.ofString "")) nm).length=l.countP fun p=>decide (al p.2=d)
 | [],_=>rfl
 | p::l,h=>by
  have ih:=qk hd l fun q hq=>h q (E4 _ hq)
  have hp:=h p E6
  unfold bP at ih ⊢
  rw[E7] at ih ⊢
  rw[Ye,Zz,List.countP_cons,cW hp,hd,xW,← ih,hd]
  cases decide (al p.2=d) <;> rfl
theorem My(l:List Nat):((l.map fun n:Nat=>PyData.int n).any fun y=>eqv y (.int 1))=l.any (· ==1):=by
 rw[abU]
 refine E8 (fun f=>l.any f) (funext fun n=>?_)
 exact aaa.mpr (aay (m:=n) (n:=1))
theorem mj:∀(hs:List Int) (lv:List Nat),gQ (hs.map AV.int) (fu lv)=(hs.zip lv).map aY
 | [],_=>rfl
 | _::_,[]=>rfl
 | h::hs,c::lv=>E8 (aY (h,c):: ·) (mj hs lv)
theorem EU(l:List Sp)(p:Sp):(eA d6 l p).map aY=(l.map aY).take (l.countP fun y=>decide (d6 y<d6 p))++aY p::(l.map aY).drop (l.countP fun y=>decide (d6 y<d6 p)):=by
 rw[eA,N9,Ye,Y8,Y9]
noncomputable def ql(hs:List Int)(z:AV):Option AV:=some (.int (hs.getD (gk z).toNat 0))
noncomputable def M'(z:AV):Option AV:=some (.tup [iT (ma z) 1,.str (Str.ofString "")])
noncomputable def qK(U:List Sp):List (Str×Str):=U.map fun p=> (ch p.2,Str.ofString "")
theorem z6:∀U:List Sp,(U.map aY).filterMap M'=dA (qK U)
 | []=>rfl
 | p::U=>E8 (AV.tup [.str (ch p.2),.str (Str.ofString "")]:: ·) (z6 U)
noncomputable def Bd(l:List (Str×Str))(z:AV):Option AV:=some (.int ((bP l (vG z)).length:Nat))
theorem wd:ie (Str.ofString "Abc")=[.str (ch 65),.str (ch 98),.str (ch 99)]:=by kernel_rfl!
theorem EV{hs:List Int}{p:Int}(h0:0≤p)(h:p<hs.length):d5 (hs.map AV.int) p=some (.int (hs.getD p.toNat 0)):=by
 obtain⟨n,rfl⟩:∃n:Nat,p=n:=⟨p.toNat,(Yx h0).symm⟩
 exact fK 0 (Yd.mp h)
theorem sD(row:List Sp)(hs:List Int):∀l:List (Int×Int),(l.flatMap (bM row hs)).length=2*l.length
 | []=>rfl
 | p::l=>by
  rw[Z4,N8,sD row hs l,Yy,Nat.mul_succ]
  exact ZU ..
theorem sE{row:List Sp}{a b:Nat}:∀p∈((row++row).take b).drop a,p∈row:=fun p hp=>
 (Yf.mp (ZI (Zq hp))).elim id id
noncomputable def Be(U:List Sp):List Nat:=[97,98,99].map fun d=>U.countP fun p=>decide (al p.2=d)
theorem Il{U:List Sp}(hS:∀p∈U,p.2∈six):(ie (Str.ofString "Abc")).filterMap (Bd (qK U))=ar (Be U):=by
 have e:∀c d,c∈six→al c=d→Bd (qK U) (.str (ch c))=some (.int ((U.countP fun p=>decide (al p.2=d):Nat):Int)):=fun c d hc hd=>by
  show some (AV.int ((bP (qK U) (ch c)).length:Nat))=_
  rw[qK,qk (d:=d) (by rw[cW hc,hd]) U hS]
 rw[wd,Ys,e 65 97 (by decide) rfl,Ys,e 98 98 (by decide) rfl,Ys,e 99 99 (by decide) rfl]
 rfl
theorem Im(U:List Sp):tM (.int 1) (ar (Be U)) (fb U):=by
 refine⟨.int 1,(Be U).map fun n:Nat=> .int n,rfl,rfl,rfl,rfl,rfl,rfl,by decide,?_⟩
 rw[My]
 unfold Be fb
 rw[abU];rfl
section
variable {y:Lay}{g:Gd}
noncomputable def EW(y:Lay)(g:Gd):FI:=⟨"<lambda>",⟨[],[⟨"spot",.none,(q 353 43 47)⟩],.none,[],[],.none,[]⟩,.expr (zV y g).e,⟨.function,[("spot",.local)],false,false,[]⟩⟩
noncomputable def FN(y:Lay)(g:Gd):RV:= .f (EW y g) (Str.ofString "_law_crossed.<locals>.<lambda>") []
theorem z7(X:dy y g)(hn:9≤g.n)(g0:Gd)(p:Sp):Fn g (FN y g0) [.v (aY p)] [] [] [] (.v (.int p.1)) []:=by
 refine DK hn X.nb (Kb y) X.gx (zV y) (.v (.int p.1) .nil) (more:=[]) (fun O=>rfl) rfl (fun v fZ doc pm an d9 ct=>by kernel_rfl!) (by kernel_rfl!) rfl fun g' b=>?_
 refine a6 (P:=SL [AV.int p.1,.str (ch p.2)]∧AG [.int p.1,.str (ch p.2)] 0 (.int p.1)∧VV (.int p.1)∧rf ([]:Os))
  ⟨E1 rfl,rfl,rfl,rfl⟩ (by kernel_rfl!)
noncomputable def cY(row:List Sp):List AV:=(row++row).map aY
noncomputable def nf(row:List Sp)(f:Int→Bool)(j:Nat):Bool:=f ((row++row).getD j (0,0)).1
theorem li{row:List Sp}{j:Nat}(h:(cY row)[j]? =some z):∃p,(row++row).getD j (0,0)=p∧z=aY p:=by
 rw[cY,Yi] at h
 cases hp:(row++row)[j]? with
 | none=>rw[hp] at h;cases h
 | some p=>rw[hp] at h;cases h;exact⟨p,ft hp,rfl⟩
theorem gZ{row:List Sp}(hl:row.length=6):(cY row).length=12:=by rw[cY,E7,N8,hl]
section
variable {row:List Sp}{f:Int→Bool}(X:dy y g)(g0:Gd)(hl:row.length=6)(hf:∀j p,row[j]? =some p→f p.1=decide (j<row.countP fun p=>f p.1))
include X hl hf
theorem EX:kz g (cY row) (FN y g0) [] Qf (nf row f) 0 6 (row.countP fun p=>f p.1):=
 ⟨YK _,hl▸ZX,by rw[gZ hl];decide,by rw[gZ hl];decide,fun j O h=>by
  have e:=N6 (Y3 h hl.symm)
  rw[nf,ft ((List.getElem?_append_left (Y3 h hl.symm)).trans e)]
  exact hf j _ e,fun g' k hn j z hz=>by
  obtain⟨p,_,rfl⟩:=li hz
  exact z7 (X.bO k) hn g0 p⟩
theorem EY:kz g (cY row) (FN y g0) [] Qf (nf row f) 6 (cY row).length (6+row.countP fun p=>f p.1):=
 ⟨Yl ..,by rw[gZ hl];exact Yo (hl▸ZX) 6,N1 _,by rw[gZ hl];decide,fun j h0 h=>by
  obtain⟨k,rfl⟩:=Nat.exists_eq_add_of_le h0
  rw[gZ hl] at h
  have hk:k<row.length:=by rw[hl];exact Nat.lt_of_add_lt_add_left h
  have e:=N6 hk
  have e2:(row++row)[6+k]? =row[k]?:=by rw[List.getElem?_append_right (by rw[hl];exact h0),hl,aag]
  rw[nf,ft (e2.trans e)]
  exact(hf k _ e).trans (aaa.mpr (Nat.add_lt_add_iff_left).symm),fun g' k hn j z hz=>by
  obtain⟨p,_,rfl⟩:=li hz
  exact z7 (X.bO k) hn g0 p⟩
end
section
variable {row:List Sp}(X:dy y g)(hn:10≤g.n)(g0:Gd)(hr:row.Pairwise fun a b=>d6 a≤d6 b)(hl:row.length=6)(t:Int)
include hr in
theorem Va(j:Nat)(p:Sp)(h:row[j]? =some p):decide (p.1≤t)=decide (j<row.countP fun p=>decide (p.1≤t)):=
 aaa.mpr (YI.symm.trans ((not_congr (aaa.mp (r_ hr t j p h))).trans not_le))
theorem Vb:∀(j:Nat) z,(cY row)[j]? =some z→gB (.v (Qf z)) (.v (.int t)) (nf row (fun x=>decide (x<t)) j):=fun j z h=>by
 obtain⟨p,e,rfl⟩:=li h
 exact .inl ⟨_,_,rfl,rfl,by rw[nf,e];rfl⟩
theorem Vc:∀(j:Nat) z,(cY row)[j]? =some z→gB (.v (.int t)) (.v (Qf z)) (!nf row (fun x=>decide (x≤t)) j):=fun j z h=>by
 obtain⟨p,e,rfl⟩:=li h
 exact .inl ⟨_,_,rfl,rfl,by rw[nf,e,← decide_not];exact aaa.mpr abO.symm⟩
include hr hl hn X
theorem x9:Fn g (.v (.val (.ref (y.ad 11)))) [.v (.lst (cY row)),.v (.int t),.v (.int 0),.v (.int 6)] ["key"] [FN y g0] [] (.v (.int (re row t:Nat))) []:=HM X hn (EX X g0 hl (f:=fun x=>decide (x<t)) (ew hr t)) (Vb t)
theorem x_:Fn g (.v (.val (.ref (y.ad 11)))) [.v (.lst (cY row)),.v (.int t),.v (.int 6)] ["key"] [FN y g0] [] (.v (.int (6+re row t:Nat))) []:=L_ X hn (EY X g0 hl (f:=fun x=>decide (x<t)) (ew hr t)) (Vb t)
theorem we:Fn g (.v (.val (.ref (y.ad 9)))) [.v (.lst (cY row)),.v (.int t),.v (.int 0),.v (.int 6)] ["key"] [FN y g0] [] (.v (.int (F_ row t:Nat))) []:=HP X hn (EX X g0 hl (f:=fun x=>decide (x≤t)) (Va hr t)) (Vc t)
theorem wf:Fn g (.v (.val (.ref (y.ad 9)))) [.v (.lst (cY row)),.v (.int t),.v (.int 6)] ["key"] [FN y g0] [] (.v (.int (6+F_ row t:Nat))) []:=L' X hn (EY X g0 hl (f:=fun x=>decide (x≤t)) (Va hr t)) (Vc t)
end
noncomputable def FH(hs:List Int):RV:= .v (.lst (hs.map .int))
noncomputable def Mz(y:Lay)(g:Gd)(pairs:List (Int×Int)):Vs:=[none,some (.v (.lst (pairs.map b7))),some (.r 30),some (.r 31),some (FN y g),none,none,none,none,none,none,none,none]
noncomputable def MA(hs:List Int)(row:List Sp):Os:=[(31,.list []),(30,.list (row.map aY)),(11,.cell none),(10,.cell (some (FH hs)))]
theorem Qg(X:dy y g)(hn:11≤g.n)(g0:Gd)(row:List Sp)(hr:row.Pairwise fun a b=>d6 a≤d6 b)(hl:row.length≤6)(p:Sp):
  Fn g (.v (.val (.ref (y.ad 10)))) [.r 30,.v (aY p)] ["key"] [FN y g0] [(30,.list (row.map aY))] (.v .none) [(30,.list ((eA d6 row p).map aY))]:=by
 have get:∀(j:Nat) z,(row.map aY)[j]? =some z→∃q,row[j]? =some q∧z=aY q:=fun j z h=>by
  rw[Yi] at h
  cases hq:row[j]? with
  | none=>rw[hq] at h;cases h
  | some q=>rw[hq] at h;cases h;exact⟨q,rfl,rfl⟩
 have Z:kz g (row.map aY) (FN y g0) [] Qf (fun j=>decide (j<row.countP fun z=>decide (d6 z<d6 p))) 0 (row.map aY).length (row.countP fun z=>decide (d6 z<d6 p)):=
  ⟨YK _,by rw[E7];exact ZX,N1 _,az (E2 hl (by decide)),fun O O O=>rfl,fun g' k hn j z hz=>by
   obtain⟨q,_,rfl⟩:=get j z hz
   exact z7 (X.bO k) hn g0 q⟩
 have:=(HQ X hn Z (x:=aY p) (fun g' k hn=>z7 (X.bO k) hn g0 p) (fun j z hz=>by
  obtain⟨q,hq,rfl⟩:=get j z hz
  exact .inl ⟨_,_,rfl,rfl,ew hr p.1 j q hq⟩)).lE (fun O=>30) rfl rfl
 rw[EU]
 exact this
theorem Bf(X:dy y g)(hn:11≤g.n)(g0:Gd)(pairs:List (Int×Int))(hs:List Int)(row:List Sp)(hr:row.Pairwise fun a b=>d6 a≤d6 b)(hl:row.length≤6)(p:Sp)(R:RV→S→Prop):
  (zW y g).set (.v (aY p)) ⟨Mz y g0 pairs,MA hs row,.call (.v .none) [(30,.list ((eA d6 row p).map aY))] .nil⟩ fun s2=> (zX y g).ex s2 fun f s3=>ca f (True∧aA s3 (Mz y g0 pairs) (MA hs (eA d6 row p))) False fun v=>R v s3:=by
 refine a6 (P:=_∧True∧EE (Mz y g0 pairs) (MA hs (eA d6 row p)))
  ⟨Qg X hn g0 row hr hl p,trivial,rfl⟩ (by kernel_rfl!)
noncomputable def fS(y:Lay)(g:Gd)(row:List Sp):Vs:=[none,none,none,some (.r 31),some (FN y g),none,some (.v (.lst (cY row))),none,none,none,none,none,none]
noncomputable def dH(hs:List Int)(bs:List Bool):Os:=[(31,.list (bs.map .bool)),(11,.cell none),(10,.cell (some (FH hs)))]
theorem ya(hs:List Int)(hh:hs.length=6)(bs:List Bool)(p q:Int)(hp:(0≤p∧p<6)∧0≤q∧q<6):(ES y g).turn (dH hs bs) (ql hs) (fun z=> .v (.int (hs.getD (gk z).toNat 0)) .nil) [.int p,.int q]:=fun g' b z hz=>by
 obtain⟨r,r0,r1,rfl⟩:∃r:Int,0≤r∧r<6∧z= .int r:=(J0.mp hz).elim (fun e=> ⟨p,hp.1.1,hp.1.2,e⟩) fun h=> ⟨q,hp.2.1,hp.2.2,X8.mp h⟩
 refine a6 (P:=SL (map AV.int hs)∧AG (map .int hs) r (.int (getD hs (toNat r) 0))∧rf (ql hs (AV.int r))∧rf (dH hs bs))
  ⟨sz (az (X7 hh)) rfl,EV r0 (by rw[hh];exact r1),rfl,rfl⟩ (by kernel_rfl!)
theorem Bg(os:Os)(U:List Sp):(ET y g).turn os M' (fun O=> .nil) (U.map aY):=fun g' b z hz=>by
 obtain⟨p,hp,rfl⟩:=N5.mp hz
 refine a6 (P:=rf (M' (aY p))∧rf os)
  ⟨rfl,rfl⟩ (by kernel_rfl!)
noncomputable def Qh(y:Lay)(T:List (Str×Str))(hs:List Int)(bs:List Bool):Os:=[(40,.any 3 (fO T (y.ad 100))),(31,.list (bs.map .bool)),(11,.cell (some (.r 40))),(10,.cell (some (FH hs)))]
noncomputable def Vd(y:Lay)(T:List (Str×Str))(z:AV):Hint:= .v (.val (.ref (y.am 7)))<| .call (.v (.lst (bP T (vG z)))) [(40,.any 3 (fO T (y.ad 100)))] .nil
theorem EZ(X:dy y g)(hn:9≤g.n)(U:List Sp)(hS:∀p∈U,p.2∈six)(Qi:U.length≤12)(hs:List Int)(bs:List Bool):(Kc y g).turn (Qh y (qK U) hs bs) (Bd (qK U)) (Vd y (qK U)) (ie (Str.ofString "Abc")):=fun g' b z hz=>by
 obtain⟨d,hd,rfl⟩:∃d,d∈six∧z= .str (ch d):=by
  rw[wd] at hz
  rcases J0.mp hz with rfl | hz
  ·exact⟨_,by decide,rfl⟩
  ·rcases J0.mp hz with rfl | hz
   ·exact⟨_,by decide,rfl⟩
   ·exact⟨_,by decide,X8.mp hz⟩
 have X':=X.bO b.bO
 have f:=(zB X' (by rw[b.n];exact E2 (by decide) hn) (l:=qK U) (nm:=ch d) (by rw[cW hd];exact zD (zF hd)) (E1 rfl) (fun p hp=>by
  obtain⟨q,hq,rfl⟩:=N5.mp hp
  exact E1 rfl) (bd (az Qi) rfl)).shift 40
 have gl:(bP (qK U) (ch d)).length≤12:=by
  unfold bP
  rw[E7]
  exact E2 (aas ..) (az Qi)
 refine a6 (P:=Mt g' (EO.any 3 (fO (qK U) (y.ad 100))) (Str.ofString "get_all") (AV.val (Value.ref (y.am 7)))∧_∧SL (bP (qK U) (ch d))∧rf (Bd (qK U) (AV.str (ch d)))∧rf (Qh y (qK U) hs bs))
  ⟨Pt X' _,f,sz gl rfl,rfl,rfl⟩ (by kernel_rfl!)
noncomputable def Rz(y:Lay)(U:List Sp):Hint:= .f M' (fun O=> .nil)<| .v (.lst (dA (qK U)))<| .call (.r 40) [(40,.any 3 (fO (qK U) (y.ad 100)))]<| .f (Bd (qK U)) (Vd y (qK U))<| .v (.lst (ar (Be U)))<| .b (fb U) .nil
theorem sF(X:dy y g)(hn:11≤g.n)(g0:Gd)(row U:List Sp)(hS:∀p∈U,p.2∈six)(Qi:U.length≤12)(hs:List Int)(bs:List Bool)(hb:bs.length≤100)(R:RV→S→Prop):
  (zY y g).set (.v (.lst (U.map aY))) ⟨fS y g0 row,dH hs bs,Rz y U⟩ fun s2=> (zZ y g).ex s2 fun f s3=>ca f (True∧aA s3 (fS y g0 row) (dH hs (bs++ [fb U]))) False fun v=>R v s3:=by
 have WY:9≤g.n:=E2 (by decide) hn
 have nw:=Pr X (E2 (by decide) hn) (l:=qK U) fun p hp=>by
  obtain⟨q,hq,rfl⟩:=N5.mp hp
  exact⟨zD (hS q hq),UW⟩
 refine a6 (P:=SL (map aY U)∧LC.turn (ET y g) (dH hs bs) M' (fun O=> .nil) (map aY U)∧filterMap M' (map aY U)=dA (qK U)∧_∧(Array.all (Str.cps (Str.ofString "Abc")) fun(x:Nat)=>decide (x<128))=true∧SL (ie (Str.ofString "Abc"))∧_∧filterMap (Bd (qK U)) (ie (Str.ofString "Abc"))=ar (Be U)∧_∧SL (map AV.bool bs)∧True∧aA (.mk ([none,none,none,some (.r 31),some (RV.f (EW y g0) (Str.ofString "_law_crossed.<locals>.<lambda>") []),none,some (.v (.lst (cY row))),none,none,none,none,none,some (.v (.lst (map aY U)))]) ([(40,EO.any 3 (fO (qK U) (y.ad 100))),(31,EO.list (map AV.bool bs++ [AV.bool (fb U)])),(11,EO.cell (some (.r 40))),(10,EO.cell (some (FH hs)))]) .nil) (fS y g0 row) (dH hs (bs++ [fb U])))
  ⟨sz (az Qi) rfl,Bg _ U,z6 U,nw,by decide+kernel,by decide+kernel,EZ X WY U hS Qi hs bs,Il hS,Im U,sz (az hb) rfl,trivial,by unfold dH;rw[N9];rfl⟩ (by kernel_rfl!)
theorem E0(X:dy y g)(hn:11≤g.n)(g0:Gd)(row W B:List Sp)(hW:∀p∈W,p.2∈six)(hB:∀p∈B,p.2∈six)(lW:W.length≤12)(lB:B.length≤12)(hs:List Int)(bs:List Bool)(hb:bs.length≤50)(R:RV→S→Prop):
  aW (zY y g) (zZ y g) [.lst (W.map aY),.lst (B.map aY)] (fun O=>True) (fun O=>fS y g0 row) (fun j=>dH hs (bs++ [fb W,fb B].take j)) (fun j O=>Rz y ([W,B].getD j [])) R:=fun j z hz O=>by
 match j,hz with
 | 0,hz=>
  cases hz
  have:=sF X hn g0 row W hW lW hs (bs++ []) (by rw[YC];exact bd hb rfl) R
  rw[Yc] at this
  exact this
 | 1,hz=>
  cases hz
  have:=sF X hn g0 row B hB lB hs (bs++ [fb W]) (bd (gD hb (N1 1)) rfl) R
  rw[Yc] at this
  exact this
noncomputable def Qj(y:Lay)(g:Gd)(hs:List Int)(row:List Sp)(bs:List Bool)(p:Int×Int):Hint:=
 let lo:=(a9 hs p).1
 let hi:=(a9 hs p).2
 .f (ql hs) (fun z=> .v (.int (hs.getD (gk z).toNat 0)) .nil)<| .v (.lst [.int (hs.getD p.1.toNat 0),.int (hs.getD p.2.toNat 0)])<| .v (.lst [.int lo,.int hi])<|
 .call (.v (.int ((6+F_ row lo:Nat):Int))) []<| .call (.v (.int (re row hi:Nat))) []<| .v (.lst ((dT row lo hi).map aY))<|
 .call (.v (.int (F_ row hi:Nat))) []<| .call (.v (.int ((6+re row lo:Nat):Int))) []<| .v (.lst ((dU row lo hi).map aY))<|
 .loop (fun O=>True) (fun O=>fS y g row) (fun j=>dH hs (bs++ [fb (dT row lo hi),fb (dU row lo hi)].take j)) (fun j O=>Rz y ([dT row lo hi,dU row lo hi].getD j [])) .nil
noncomputable abbrev iu(hs:List Int)(p:Int×Int):=fst (a9 hs p)
noncomputable abbrev iw(hs:List Int)(p:Int×Int):=snd (a9 hs p)
noncomputable abbrev ix(row:List Sp)(hs:List Int)(p:Int×Int):=dT row (iu hs p) (iw hs p)
noncomputable abbrev iy(row:List Sp)(hs:List Int)(p:Int×Int):=dU row (iu hs p) (iw hs p)
noncomputable abbrev z8:=Str.ofString "_law_crossed.<locals>.<lambda>"
theorem MB(X:dy y g)(hn:11≤g.n)(g0:Gd)(row:List Sp)(hr:row.Pairwise fun a b=>d6 a≤d6 b)(hl:row.length=6)(eZ:∀p∈row,p.2∈six)(hs:List Int)(hh:hs.length=6)(bs:List Bool)(hb:bs.length≤50)(p:Int×Int)(hp:(0≤p.1∧p.1<6)∧0≤p.2∧p.2<6)(R:RV→S→Prop):
  (wb y g).set (.v (b7 p)) ⟨fS y g0 row,dH hs bs,Qj y g0 hs row bs p⟩ fun s2=> (z5 y g).ex s2 fun f s3=>ca f (True∧aA s3 (fS y g0 row) (dH hs (bs++bM row hs p))) False fun v=>R v s3:=by
 have Io:10≤g.n:=Yg hn
 have rl:(cY row).length≤12:=X7 (gZ hl)
 have so:lZ [.int (hs.getD p.1.toNat 0),.int (hs.getD p.2.toNat 0)] (.lst [.int (a9 hs p).1,.int (a9 hs p).2]):=⟨[hs.getD p.1.toNat 0,hs.getD p.2.toNat 0],rfl,E1 rfl,fun ns h1 h2=>by
  rw[Ik h1 h2]
  unfold a9
  by_cases h:hs.getD p.1.toNat 0≤hs.getD p.2.toNat 0
  ·rw[X6 h,X6 h];rfl
  ·rw[X5 h,X5 h];rfl⟩
 have pk:∀a b:Nat,AV.lst (aS (cY row) (some (a:Int)) (some (b:Int)) none)= .lst ((((row++row).take b).drop a).map aY):=fun a b=>cf ((w7 _ (N3 a) (N3 b)).trans (by rw[Y9,Y8];rfl))
 have WZ:∀a b:Nat,AV.lst (aS (cY row) (some (((6+a:Nat):Int) - 6)) (some (b:Int)) none)= .lst ((((row++row).take b).drop a).map aY):=fun a b=>by
  rw[show((6+a:Nat):Int) - 6=(a:Int) by omega];exact pk a b
 have f1:=wf X Io g0 hr hl (a9 hs p).1
 have f2:=x9 X Io g0 hr hl (a9 hs p).2
 have f3:=we X Io g0 hr hl (a9 hs p).2
 have f4:=x_ X Io g0 hr hl (a9 hs p).1
 have hW:∀q∈dT row (a9 hs p).1 (a9 hs p).2,q.2∈six:=fun q hq=>eZ q (sE q hq)
 have hB:∀q∈dU row (a9 hs p).1 (a9 hs p).2,q.2∈six:=fun q hq=>eZ q (sE q hq)
 have Ve:(row++row).length≤12:=by rw[N8,hl];decide
 have W4:(dT row (a9 hs p).1 (a9 hs p).2).length≤12:=E2 ((aa5 ..).length_le) (cp Ve)
 have Tv:(dU row (a9 hs p).1 (a9 hs p).2).length≤12:=E2 ((aa5 ..).length_le) (cp Ve)
 have cr:bM row hs p=[fb (dT row (a9 hs p).1 (a9 hs p).2),fb (dU row (a9 hs p).1 (a9 hs p).2)]:=rfl
 have fs:=fun R=>E0 X hn g0 row _ _ hW hB W4 Tv hs bs (bd hb rfl) R
 refine a6 (P:=SL [AV.int p.1,.int p.2]∧LC.turn (ES y g) (dH hs bs) (ql hs) (fun(z:AV)=>Hint.v (AV.int (getD hs (toNat (gk z)) 0)) .nil) [AV.int p.1,.int p.2]∧rf (filterMap (ql hs) [AV.int p.1,.int p.2])∧_∧_∧_∧_∧AV.lst (aS (cY row) (some ((↑(6+F_ row (iu hs p)):Int) - 6)) (some (↑(re row (iw hs p)):Int)) none)= .lst (map aY (ix row hs p))∧_∧_∧_∧AV.lst (aS (cY row) (some (↑(F_ row (iw hs p)):Int)) (some (↑(6+re row (iu hs p)):Int)) none)= .lst (map aY (iy row hs p))∧(True∧aA (.mk ([none,none,none,some (.r 31),some (RV.f (EW y g0) z8 []),none,some (.v (.lst (cY row))),some (.v (b7 p)),some (.v (.int (iu hs p))),some (.v (.int (iw hs p))),some (.v (.lst (map aY (ix row hs p)))),some (.v (.lst (map aY (iy row hs p)))),none]) ([(31,EO.list (map AV.bool bs)),(11,EO.cell none),(10,EO.cell (some (FH hs)))]) .nil) ((fun(x:Nat)=>fS y g0 row) 0) ((fun(j:Nat)=>dH hs (bs++take j [fb (ix row hs p),fb (iy row hs p)])) 0))∧(aW (zY y g) (zZ y g) [AV.lst (map aY (ix row hs p)),.lst (map aY (iy row hs p))] (fun(x:Nat)=>True) (fun(x:Nat)=>fS y g0 row) (fun(j:Nat)=>dH hs (bs++take j [fb (ix row hs p),fb (iy row hs p)])) (fun(j:Nat) (x:AV)=>Rz y (getD [dT row (iu hs p) (iw hs p),dU row (iu hs p) (iw hs p)] j [])) fun(v:RV) (s3:S)=>R v s3)∧(True→True∧aA (.mk ([none,none,none,some (.r 31),some (RV.f (EW y g0) z8 []),none,some (.v (.lst (cY row))),none,none,none,none,none,none]) ([(31,EO.list (map AV.bool (bs++take (length [AV.lst (map aY (ix row hs p)),.lst (map aY (iy row hs p))]) [fb (ix row hs p),fb (iy row hs p)]))),(11,EO.cell none),(10,EO.cell (some (FH hs)))]) .nil) (fS y g0 row) (dH hs (bs++bM row hs p))))
  ⟨E1 rfl,ya hs hh bs _ _ hp,rfl,so,f1,f2,sz rl rfl,WZ _ _,f3,f4,sz rl rfl,pk _ _,⟨trivial,by show aA _ _ (dH hs (bs++ []));rw[YC];rfl⟩,fs _,fun O=> ⟨trivial,rfl⟩⟩ (by kernel_rfl!)
theorem yb(X:dy y g)(hn:12≤g.n){lv:List Nat}{hs:List Int}{pairs:List (Int×Int)}(b6:lv.length=6)(Te:hs.length=6)(W5:pairs.length=3)(eZ:∀c∈lv,c∈six)(W6:∀p∈pairs,(0≤p.1∧p.1<6)∧0≤p.2∧p.2<6):
  Fn g (.v (.val (.ref (y.ad 80)))) [.v (.lst (fu lv)),FH hs,.v (.lst (pairs.map b7))] [] [] [] (.v (.lst ((gY hs lv pairs).map .bool))) []:=by
 refine jg (YP (k:=3) hn) X.nb (X.fn 80 "_law_crossed" (by decide)) (ER y) X.gx (WX y) [.v (.lst (fu lv)),FH hs,.v (.lst (pairs.map b7))] 10
  (.loop (fun O=>True) (fun O=>Mz y g pairs) (fun i=>MA hs (bX hs lv i)) (fun i O=> .call (.v .none) [(30,.list ((bX hs lv (i+1)).map aY))] .nil)<|
   .loop (fun O=>True) (fun O=>fS y g (bX hs lv 6)) (fun i=>dH hs ((pairs.take i).flatMap (bM (bX hs lv 6) hs))) (fun i O=>Qj y g hs (bX hs lv 6) ((pairs.take i).flatMap (bM (bX hs lv 6) hs)) (pairs.getD i (0,0))) .nil)
  (more:=(s8 80).scope.more) (fun O=>by kernel_rfl!) (by kernel_rfl!) rfl
  (fun ρ bd F s vs kvs doc pm an d9 ct O hv hG=>oJ hv hG fun vs hl=>by
   obtain⟨_,_,_,rfl⟩:=HD hl
   exact abf (by kernel_rfl!)) (by kernel_rfl!) (fun O=>by kernel_rfl!) (fun p hp=>by cases X8.mp hp;exact X.Rn) (fun g' b=>?_)
 ·have X':=X.bO b.bO
  have zl:(hs.zip lv).length=6:=by rw[List.length_zip,Te,b6];rfl
  have el:(gQ (hs.map AV.int) (fu lv)).length=6:=by rw[mj,E7,zl]
  have pl:(pairs.map b7).length=pairs.length:=E7 ..
  obtain⟨s1,s2,s3⟩:=uk hs lv 6
  have Na:=wc zl 6 (N1 6)
  have f1:∀R:RV→S→Prop,aW (zW y g') (zX y g') (gQ (hs.map AV.int) (fu lv)) (fun O=>True) (fun O=>Mz y g pairs) (fun i=>MA hs (bX hs lv i)) (fun i O=> .call (.v .none) [(30,.list ((bX hs lv (i+1)).map aY))] .nil) R:=fun R i z hz O=>by
   rw[mj,Yi] at hz
   cases hp:(hs.zip lv)[i]? with
   | none=>rw[hp] at hz;cases hz
   | some p=>
    rw[hp] at hz
    cases hz
    have hi:i<6:=by rw[← zl];exact(Ym.mp hp).1
    obtain⟨t1,t2,_⟩:=uk hs lv i
    have:=Bf X' (by rw[b.n];exact Yj hn) g pairs hs (bX hs lv i) t1 (E2 t2 (YA hi)) p R
    rw[← jP hp] at this
    exact this
  have f2:∀R:RV→S→Prop,aW (wb y g') (z5 y g') (pairs.map b7) (fun O=>True) (fun O=>fS y g (bX hs lv 6)) (fun i=>dH hs ((pairs.take i).flatMap (bM (bX hs lv 6) hs))) (fun i O=>Qj y g hs (bX hs lv 6) ((pairs.take i).flatMap (bM (bX hs lv 6) hs)) (pairs.getD i (0,0))) R:=fun R i z hz O=>by
   rw[Yi] at hz
   cases hp:pairs[i]? with
   | none=>rw[hp] at hz;cases hz
   | some p=>
    rw[hp] at hz
    cases hz
    have Ct:((pairs.take i).flatMap (bM (bX hs lv 6) hs)).length≤50:=by
     rw[sD]
     exact E2 (Zv 2 (cp (X7 W5))) (by decide)
    have e:(pairs.take (i+1)).flatMap (bM (bX hs lv 6) hs)=(pairs.take i).flatMap (bM (bX hs lv 6) hs)++bM (bX hs lv 6) hs p:=by
     rw[Zi,hp,aae]
     exact E8 _ (List.flatMap_singleton ..)
    have:=MB X' (by rw[b.n];exact Yj hn) g (bX hs lv 6) s1 Na (fun q hq=>eZ q.2 (List.of_mem_zip (s3 q hq)).2) hs Te _ Ct p (W6 p (Yh hp)) R
    rw[← e] at this
    show(wb y g').set (.v (b7 p)) ⟨_,_,Qj y g hs (bX hs lv 6) _ (pairs.getD i (0,0))⟩ _
    rw[ft hp]
    exact this
  refine a6 (P:=(True∧aA (.mk ([some (.v (.lst (fu lv))),some (.v (.lst (map b7 pairs))),some (.r 30),some (.r 31),some (RV.f (FI.mk (Str.ofString "<lambda>") (Arguments.mk [] [Arg.mk (Str.ofString "spot") none (Pos.mk 353 43 353 47)] none [] [] none []) (FuncBody.expr (SE.e (zV y g'))) (Scope.mk ScopeKind.function [(Str.ofString "spot",NameKind.local)] false false [])) (Str.ofString "_law_crossed.<locals>.<lambda>") []),none,none,none,none,none,none,none,none]) ([(31,EO.list []),(30,EO.list []),(10+1,EO.cell none),(10,EO.cell (some (FH hs)))]) .nil) ((fun(x:Nat)=>Mz y g pairs) 0) ((fun(i:Nat)=>MA hs (bX hs lv i)) 0))∧(aW (zW y g') (zX y g') (gQ (map AV.int hs) (fu lv)) (fun(x:Nat)=>True) (fun(x:Nat)=>Mz y g pairs) (fun(i:Nat)=>MA hs (bX hs lv i)) (fun(i:Nat) (x:AV)=>Hint.call (RV.v AV.none) [(30,EO.list (map aY (bX hs lv (i+1))))] .nil) fun(v:RV) (s3:S)=>cO (RF.ret v) s3 (AV.lst (map AV.bool (gY hs lv pairs))) [])∧(True→length (map aY (bX hs lv (length (gQ (map AV.int hs) (fu lv)))))+length (map aY (bX hs lv (length (gQ (map AV.int hs) (fu lv)))))≤sizeLine∧(True∧aA (.mk ([none,some (.v (.lst (map b7 pairs))),some (.v (.lst (map aY (bX hs lv (length (gQ (map AV.int hs) (fu lv))))))),some (.r 31),some (RV.f (EW y g) (Str.ofString "_law_crossed.<locals>.<lambda>") []),none,some (.v (.lst (map aY (bX hs lv (length (gQ (map AV.int hs) (fu lv))))++map aY (bX hs lv (length (gQ (map AV.int hs) (fu lv))))))),none,none,none,none,none,none]) ([(31,EO.list []),(11,EO.cell none),(10,EO.cell (some (FH hs)))]) .nil) ((fun(x:Nat)=>fS y g (bX hs lv 6)) 0) ((fun(i:Nat)=>dH hs (flatMap (bM (bX hs lv 6) hs) (take i pairs))) 0))∧(aW (wb y g') (z5 y g') (map b7 pairs) (fun(x:Nat)=>True) (fun(x:Nat)=>fS y g (bX hs lv 6)) (fun(i:Nat)=>dH hs (flatMap (bM (bX hs lv 6) hs) (take i pairs))) (fun(i:Nat) (x:AV)=>Qj y g hs (bX hs lv 6) (flatMap (bM (bX hs lv 6) hs) (take i pairs)) (getD pairs i (0,0))) fun(v:RV) (s3:S)=>cO (RF.ret v) s3 (AV.lst (map AV.bool (gY hs lv pairs))) [])∧(True→VI (.lst (map .bool (flatMap (bM (bX hs lv 6) hs) (take (length (map b7 pairs)) pairs)))) (.lst (map .bool (gY hs lv pairs)))∧([]:Os)=[])))
   ⟨⟨trivial,rfl⟩,f1 _,fun O=>?_⟩ (by kernel_rfl!)
  rw[el]
  exact⟨sz (sa (az (X7 Na)) (az (X7 Na))) rfl,⟨trivial,by unfold fS cY;rw[N9];rfl⟩,f2 _,fun O=> ⟨by rw[pl,ZR];rfl,rfl⟩⟩
end
end
end
section
section
def Ip(aj:List (List Int))(x:Int→Bool):Prop:= ∀n:Int,0≤n→n<11→x n=true→∀m∈aj.getD n.toNat [],x m=true
theorem getD_at{α:Type}{l:List α}{i:Nat}{d:α}(h:i<l.length):l.getD i d=l[i]:=by rw[N4,N6 h,abV]
theorem rg(aj:List (List Int))(r:List Int)(t:Nat)(m:Int):m∈ba aj r t↔m∈r∨m∈aj.getD (r.getD t 0).toNat []:=by
 unfold ba
 rw[Yf,ab3]
 constructor
 ·rintro(h |⟨h,_⟩)
  ·exact .inl h
  ·exact .inr h
 ·rintro(h | h)
  ·exact .inl h
  ·by_cases hm:m∈r
   ·exact .inl hm
   ·exact .inr ⟨h,by simpa using hm⟩
theorem nF{aj:List (List Int)}{r:List Int}{t:Nat}(hr:r.Nodup)(ht:(aj.getD (r.getD t 0).toNat []).Nodup):(ba aj r t).Nodup:=by
 unfold ba
 rw[aa1]
 refine⟨hr,ht.filter _,fun a ha b hb=>?_⟩
 rintro rfl
 have:=(ab3.mp hb).2
 simp[ha] at this
theorem Qk{r:List Int}(hn:r.Nodup)(hb:∀x∈r,0≤x∧x<11)(hl:11≤r.length):∀n:Int,0≤n→n<11→n∈r:=by
 intro n h0 h1
 by_cases hm:n∈r
 ·exact hm
 ·exfalso
  have oV:(n::r).length≤((List.range 11).map fun k:Nat=> (k:Int)).length:=by
   refine abs (YG.mpr ⟨hm,hn⟩) fun x hx=>?_
   have k:0≤x∧x<11:=(J0.mp hx).elim (fun e=>e▸⟨h0,h1⟩) (hb x)
   exact N5.mpr ⟨x.toNat,Ya.mpr ((Ze k.1).mpr k.2),Yx k.1⟩
  rw[E7,Zh] at oV
  exact Nat.not_succ_le_self _ (E2 oV hl)
theorem qm{aj:List (List Int)}(hn:∀n,(aj.getD n []).Nodup)(hb:∀n,∀m∈aj.getD n [],0≤m∧m<11):∀(f t:Nat) (r:List Int),f+t=11→r.Nodup→(∀x∈r,0≤x∧x<11)→t≤r.length→(∀i,i<t→∀m∈aj.getD (r.getD i 0).toNat [],m∈r)→(1:Int)∈r→
  (dn aj f t r=true→∀x:Int→Bool,Ip aj x→(∀y∈r,x y=true)→∀n:Int,0≤n→n<11→x n=true)∧
  (dn aj f t r=false→∃x:Int→Bool,Ip aj x∧x 1=true∧∃n:Int,(0≤n∧n<11)∧x n=false)
 | 0,t,r,hf,hr,RA,ht,_,_=>by
  refine⟨fun O x O hx n h0 h1=>hx n (Qk hr RA (by rw[← hf,YQ];exact ht) n h0 h1),fun h=>by simp[dn] at h⟩
 | f+1,t,r,hf,hr,RA,ht,Kd,h1=>by
  unfold dn
  by_cases hc:t=r.length
  ·rw[X6 hc]
   refine⟨fun h=>by simp at h,fun O=> ⟨fun n=>r.contains n,?_,by simpa using h1,?_⟩⟩
   ·intro n _ _ hx m hm
    have W7:n∈r:=by simpa using hx
    obtain⟨i,hi,he⟩:=List.mem_iff_getElem.mp W7
    have:m∈r:=Kd i (Y3 hi hc.symm) m (by rw[getD_at hi,he];exact hm)
    simpa using this
   ·have fY:∃n:Int,(0≤n∧n<11)∧¬ n∈r:=by
     by_cases h:∃n:Int,(0≤n∧n<11)∧¬ n∈r
     ·exact h
     ·exfalso
      have nq:∀n:Int,0≤n→n<11→n∈r:=fun n h0 h1=>by
       by_cases hm:n∈r
       ·exact hm
       ·exact absurd ⟨n,⟨h0,h1⟩,hm⟩ h
      have oV:((List.range 11).map fun k:Nat=> (k:Int)).length≤r.length:=by
       refine abs (by decide) fun x hx=>?_
       obtain⟨k,hk,rfl⟩:=N5.mp hx
       have:=Ya.mp hk
       exact nq _ (N3 k) (Yd.mpr this)
      rw[E7,Zh,← hc,← hf] at oV
      exact Nat.not_le_of_lt (Nat.lt_add_of_pos_left (ZF f)) oV
    obtain⟨n,h,hm⟩:=fY
    exact⟨n,h,by simpa using hm⟩
  ·rw[X5 hc]
   have dK:t<r.length:=aam ht hc
   have hl:r.length≤(ba aj r t).length:=by unfold ba;rw[N8];exact Yl ..
   have GT:=rg aj r t
   have W8:∀i,i<r.length→(ba aj r t).getD i 0=r.getD i 0:=fun i hi=>by
    unfold ba
    rw[getD_at (by rw[N8];exact J3 hi (Yl ..)),getD_at hi,List.getElem_append_left hi]
   obtain⟨p1,p2⟩:=qm hn hb f (t+1) (ba aj r t) ((aaH f t).symm.trans hf) (nF hr (hn _)) (fun x hx=>by
    rcases(GT x).mp hx with h | h
    ·exact RA x h
    ·exact hb _ x h) (E2 dK hl) (fun i hi m hm=>by
     rw[W8 i (J3 hi dK)] at hm
     by_cases i7:i<t
     ·exact(GT m).mpr (.inl (Kd i i7 m hm))
     ·have:i=t:=Zr (Y7 hi) (YZ i7)
      subst this
      exact(GT m).mpr (.inr hm)) ((GT 1).mpr (.inl h1))
   refine⟨fun h x hx hy=>p1 h x hx fun y W9=>?_,p2⟩
   rcases(GT y).mp W9 with h | h
   ·exact hy y h
   ·have hg:r.getD t 0∈r:=by rw[getD_at dK];exact ZA _
    have Vf:=RA _ hg
    exact hx _ Vf.1 Vf.2 (hy _ hg) y h
theorem Bh{aj:List (List Int)}(hn:∀n,(aj.getD n []).Nodup)(hb:∀n,∀m∈aj.getD n [],0≤m∧m<11):
  dn aj 11 0 [1]=true↔∀x:Int→Bool,Ip aj x→x 1=true→∀n:Int,0≤n→n<11→x n=true:=by
 obtain⟨p1,p2⟩:=qm hn hb 11 0 [1] rfl (by simp) (by simp) (by simp) (by simp) (by simp)
 constructor
 ·intro h x hx h1
  exact p1 h x hx (by simpa using h1)
 ·intro h
  cases hr:dn aj 11 0 [1] with
  | true=>rfl
  | false=>
   obtain⟨x,hx,h1,n,Nz,hf⟩:=p2 hr
   have:=h x hx h1 n Nz.1 Nz.2
   rw[this] at hf;cases hf
theorem ul(a b:List (Int×Int)):bH (a++b)=bH a++bH b:=by unfold bH;rw[aae]
theorem um(a b:List (Int×Int))(n:Int):b9 (a++b) n=b9 a n++b9 b n:=by unfold b9;rw[List.filterMap_append]
theorem g5{U:List (Int×Int)}{n m:Int}:m∈b9 (bH U) n↔(n,m)∈U∨(m,n)∈U:=by
 unfold b9 bH
 rw[List.mem_filterMap]
 constructor
 ·rintro⟨p,hp,h⟩
  obtain⟨q,hq,Vg⟩:=Yu.mp hp
  split at h
  ·rename_i h1
   simp only[abL] at h
   simp only[J0,Y5,aaL] at Vg
   obtain⟨a,b⟩:=q
   rcases Vg with rfl | rfl
   ·simp only at h1 h;subst h1;subst h;exact .inl hq
   ·simp only at h1 h;subst h1;subst h;exact .inr hq
  ·cases h
 ·rintro(h | h)
  ·exact⟨(n,m),Yu.mpr ⟨_,h,by simp⟩,by simp⟩
  ·exact⟨(n,m),Yu.mpr ⟨_,h,by simp⟩,by simp⟩
def qn:List (Int×Int)→Prop
 | []=>True
 | e::U=>e.1≠e.2∧e∉U∧(e.2,e.1)∉U∧qn U
theorem qo{n:Int}:∀ {U:List (Int×Int)},qn U→(b9 (bH U) n).Nodup
 | [],_=>by simp[b9,bH]
 |(a,b)::U,⟨h1,h2,h3,h4⟩=>by
  have ih:=qo (n:=n) h4
  have e:b9 (bH ((a,b)::U)) n=(if a=n then [b] else [])++((if b=n then [a] else [])++b9 (bH U) n):=by
   rw[show bH ((a,b)::U)=(a,b)::(b,a)::bH U from rfl]
   unfold b9
   rw[Ys,Ys]
   by_cases ha:a=n <;> by_cases hb:b=n <;> simp[ha,hb]
  rw[e]
  simp only at h1
  by_cases ha:a=n
  ·have hb:b≠n:=fun h=>h1 (by rw[ha,h])
   subst ha
   simp only[ZB,hb,Y_,Zu,List.singleton_append]
   rw[YG]
   refine⟨fun hm=>?_,ih⟩
   rcases g5.mp hm with h | h
   ·exact h2 h
   ·exact h3 h
  ·by_cases hb:b=n
   ·subst hb
    simp only[ha,Y_,ZB,Zu,List.singleton_append]
    rw[YG]
    refine⟨fun hm=>?_,ih⟩
    rcases g5.mp hm with h | h
    ·exact h3 h
    ·exact h2 h
   ·simp only[ha,hb,Y_,Zu]
    exact ih
end
end
section
section
noncomputable def bz(E:Int):List Lk→Nat→Nat→List (Int×Int)
 | [],_,_=>[]
 | t::r,k,p=>if t.1=E then(6+(k:Int),if p % 2=0 then t.2.1 else t.2.2)::bz E r (k+1) (p / 2) else bz E r (k+1) p
noncomputable def rh(E:Int):List Lk→Nat→eS→eS
 | [],_,s=>s
 | t::r,k,s=>rh E r (k+1) (cu E s k t)
theorem sG(E:Int):∀(l:List Lk) (k:Nat) (s:eS) (t:Lk),rh E (l++ [t]) k s=cu E (rh E l k s) (k+l.length) t
 | [],k,s,t=>rfl
 | a::l,k,s,t=>by
  rw[Zd,rh,sG E l (k+1),rh,Yy,show k+1+l.length=k+(l.length+1) by omega]
theorem ng(E:Int)(links:List Lk)(s:eS):∀n,n≤links.length→e_ E links s n=rh E (links.take n) 0 s
 | 0,_=>rfl
 | n+1,h=>by
  have hn:n<links.length:=by omega
  rw[e_,N6 hn]
  show cu E (e_ E links s n) n links[n]=_
  rw[ng E links s n (by omega),List.take_succ_eq_append_getElem hn,sG,YS,ZG (by omega),YQ]
def qp(k:Nat)(links:List Lk):Prop:=k+links.length≤5∧∀i t,links[i]? =some t→(0≤t.2.1∧t.2.1<6+((k+i:Nat):Int))∧0≤t.2.2∧t.2.2<6+((k+i:Nat):Int)
theorem qp.tail{k:Nat}{r:List Lk}(h:qp k (t::r)):qp (k+1) r:=by
 refine⟨by rw[abW];exact h.1,fun i t' ht=>?_⟩
 have:=h.2 (i+1) t' (by simpa using ht)
 rw[abW]
 exact this
theorem Ke{k m:Nat}(h:k+(m+1)≤5):6+(k:Int)<11:=aaf (Yd.mpr (J3 (ZM (ZF m)) h)) 6
def Rows(aj:List (List Int))(U:List (Int×Int)):Prop:=aj.length=11∧∀x:Nat,x<11→aj.getD x []=b9 (bH U) x
theorem Bi(U:List (Int×Int))(a b n:Int):b9 (bH (U++ [(a,b)])) n=b9 (bH U) n++((if a=n then [b] else [])++if b=n then [a] else []):=by
 rw[ul,um]
 congr 1
 rw[show bH [(a,b)]=[(a,b),(b,a)] from rfl]
 unfold b9
 rw[Ys,Ys,abD]
 by_cases ha:a=n <;> by_cases hb:b=n <;> simp[ha,hb]
theorem Rows.step{aj:List (List Int)}{U:List (Int×Int)}(R:Rows aj U){j a:Int}(hj:0≤j∧j<11)(ha:0≤a∧a<j):
  Rows ((aj.set a.toNat (aj.getD a.toNat []++ [j])).set j.toNat (aj.getD j.toNat []++ [a])) (U++ [(j,a)]):=by
 obtain⟨j,rfl⟩:=Zc hj.1
 obtain⟨a,rfl⟩:=Zc ha.1
 rw[Zg,Zg]
 have Vh:=Yd.mp ha.2
 have Ql:j<aj.length:=by rw[R.1];exact Yd.mp hj.2
 refine⟨by rw[ZY,ZY];exact R.1,fun x hx=>?_⟩
 rw[Bi,← R.2 x hx,N4,List.getElem?_set,ZY]
 by_cases h1:j=x
 ·subst h1
  rw[X6 rfl,X6 Ql,X6 rfl,X5 fun e=>Yp Vh (aay.mp e),abV,YC]
 ·rw[X5 h1,List.getElem?_set,X5 (c:=(j:Int)=x) fun e=>h1 (aay.mp e)]
  by_cases h2:a=x
  ·subst h2
   rw[X6 rfl,X6 (aar Vh Ql),X6 rfl,abV,Zu]
  ·rw[X5 h2,X5 (c:=(a:Int)=x) fun e=>h2 (aay.mp e),YC,YC,← N4]
theorem Qm(p:Nat):((p:Int).fmod 2=0)=(p % 2=0):=by
 rw[Z1 _ (by decide)]
 refine propext ⟨fun h=>?_,fun h=>?_⟩ <;> omega
theorem Qn(p:Nat):(p:Int).fdiv 2=((p / 2:Nat):Int):=by rw[Z0 _ (by decide)];rfl
theorem ml{E:Int}:∀(links:List Lk) (k p:Nat) (aj:List (List Int)) (U:List (Int×Int)),qp k links→Rows aj U→Rows (rh E links k ⟨p,aj⟩).aj (U++bz E links k p)
 | [],k,p,aj,U,_,R=>by rw[bz,YC];exact R
 | t::r,k,p,aj,U,h,R=>by
  have hk:=h.1
  rw[Yy] at hk
  have h0:=h.2 0 t rfl
  rw[aat] at h0
  rw[rh,cu,bz]
  by_cases he:t.1=E
  ·rw[X6 he,X6 he]
   simp only[Qm,Qn]
   have hp:0≤(if p % 2=0 then t.2.1 else t.2.2)∧(if p % 2=0 then t.2.1 else t.2.2)<6+(k:Int):=by
    split;exact h0.1;exact h0.2
   have R2:=R.step (j:=6+(k:Int)) (a:=if p % 2=0 then t.2.1 else t.2.2) ⟨aau (by decide) (N3 _),Ke hk⟩ hp
   have ej:(6+(k:Int)).toNat=6+k:=rfl
   rw[ej] at R2
   have:=ml (E:=E) r (k+1) (p / 2) _ _ h.tail R2
   rw[Yc] at this
   exact this
  ·rw[X5 he,X5 he]
   exact ml r (k+1) p aj U h.tail R
noncomputable def un(e:Int×Int):Int×Int:=if e.1<e.2 then(e.2,e.1) else e
theorem sH:∀ {U:List (Int×Int)},(U.map un).Nodup→(∀e∈U,e.1≠e.2)→qn U
 | [],_,_=>trivial
 | e::U,h,fY=>by
  rw[Ye,YG] at h
  refine⟨fY e E6,fun hm=>h.1 (aab hm),fun hm=>h.1 (N5.mpr ⟨_,hm,?_⟩),sH h.2 fun e he=>fY e (E4 _ he)⟩
  have:=fY e E6
  unfold un
  simp only
  split <;> split <;> first | rfl | omega
theorem wg{E:Int}{links:List Lk}{gK:List (Int×Int)}{p:Nat}(hl:links.length=5)(ho:qp 0 links)(hp:∀e∈gK,gF e)(hs:qn (gK++aU E links 0++bz E links 0 p)):
  dr links (bg links gK E) E p=true↔∀x:Int→Bool,(∀e∈gK++aU E links 0++bz E links 0 p,x e.1=x e.2)→x 1=true→∀n:Int,0≤n→n<11→x n=true:=by
 have Tw:∀t∈links,gF t.2:=by
  intro t ht
  obtain⟨i,hi⟩:=Zm.mp ht
  have Iq:=(Ym.mp hi).1
  have:=ho.2 i t hi
  rw[YQ] at this
  have e:6+(i:Int)<11:=aaf (Yd.mpr (Y3 Iq hl)) 6
  exact⟨this.1.1,YT this.1.2 e,this.2.1,YT this.2.2 e⟩
 have R0:Rows (bg links gK E) (gK++aU E links 0):=by
  refine⟨by unfold bg;rw[E7,Zh],fun x hx=>?_⟩
  unfold bg
  rw[N4,Yi,aac hx]
  rfl
 have R:=ml (E:=E) links 0 p _ _ ho R0
 have Tx:e_ E links ⟨(p:Nat),bg links gK E⟩ links.length=rh E links 0 ⟨p,bg links gK E⟩:=by
  rw[ng E links _ links.length (N1 _),ZR]
 have E_:∀e∈gK++aU E links 0++bz E links 0 p,gF e:=by
  have W_:∀(l:List Lk) (k p:Nat),qp k l→∀e∈bz E l k p,gF e:=by
   intro l
   induction l with
   | nil=>intro k p _ e he;simp[bz] at he
   | cons t r ih=>
    intro k p ho e he
    have h1:=ho.1
    rw[Yy] at h1
    have h0:=ho.2 0 t rfl
    rw[aat] at h0
    rw[bz] at he
    split at he
    ·rcases J0.mp he with rfl | he
     ·have e:=Ke h1
      refine⟨aau (by decide) (N3 _),e,?_⟩
      show 0≤(if p % 2=0 then t.2.1 else t.2.2)∧(if p % 2=0 then t.2.1 else t.2.2)<11
      split;exact⟨h0.1.1,YT h0.1.2 e⟩;exact⟨h0.2.1,YT h0.2.2 e⟩
     ·exact ih _ _ ho.tail e he
    ·exact ih _ _ ho.tail e he
  intro e he
  rcases Yf.mp he with he | he
  ·rcases Yf.mp he with he | he
   ·exact hp e he
   ·exact qg E links 0 ho.1 Tw e he
  ·exact W_ links 0 p ho e he
 unfold dr
 rw[Tx]
 generalize gK++aU E links 0++bz E links 0 p=U at R hs E_ ⊢
 generalize(rh E links 0 ⟨p,bg links gK E⟩).aj=aj at R ⊢
 have ui:∀n:Nat,aj.getD n []=if n<11 then b9 (bH U) n else []:=by
  intro n
  by_cases h:n<11
  ·rw[X6 h,R.2 n h]
  ·rw[X5 h,N4,Zk (by rw[R.1];exact YZ h)];rfl
 rw[Bh (fun n=>by
  rw[ui]
  split
  ·exact qo hs
  ·simp) (fun n m hm=>by
  rw[ui] at hm
  split at hm
  ·rcases g5.mp hm with h | h
   ·exact(E_ _ h).2.2
   ·exact⟨(E_ _ h).1,(E_ _ h).2.1⟩
  ·cases hm)]
 have Kf:∀x:Int→Bool,Ip aj x↔∀e∈U,x e.1=x e.2:=by
  intro x
  constructor
  ·intro h e he
   have i8:=E_ e he
   have h1:x e.1=true→x e.2=true:=fun hx=>h e.1 i8.1 i8.2.1 hx e.2 (by
    rw[ui,X6 ((Ze i8.1).mpr i8.2.1),Yx i8.1]
    exact g5.mpr (.inl he))
   have h2:x e.2=true→x e.1=true:=fun hx=>h e.2 i8.2.2.1 i8.2.2.2 hx e.1 (by
    rw[ui,X6 ((Ze i8.2.2.1).mpr i8.2.2.2),Yx i8.2.2.1]
    exact g5.mpr (.inr he))
   cases h3:x e.1 <;> cases h4:x e.2 <;> simp_all
  ·intro h n h0 h1 hx m hm
   rw[ui,X6 ((Ze h0).mpr h1),Yx h0] at hm
   rcases g5.mp hm with he | he
   ·have:=h _ he;simp only at this;rw[← this];exact hx
   ·have:=h _ he;simp only at this;rw[this];exact hx
 constructor
 ·intro h x hx
  exact h x ((Kf x).mpr hx)
 ·intro h x hx
  exact h x ((Kf x).mp hx)
end
end
section
set_option tactic.hygienic true
section
noncomputable def gr(new a:Nat)(bk:Bool)(row:List Cl)(n:Nat):List Cl:=
 row.take a++(if bk=true then [.node n (row.getD a default) (.leaf new),.leaf (new+1)] else [.leaf (new+1),.node n (.leaf new) (row.getD a default)])++row.drop (a+1)
noncomputable def fw(row:List Cl)(n t:Nat):List Cl:= .node n ((row.drop t++row.take t).getD 0 default) ((row.drop t++row.take t).getD 1 default)::(row.drop t++row.take t).drop 2
theorem Qo{α:Type}[Inhabited α]:∀ {l:List α},2≤l.length→l.take 2=[l.getD 0 default,l.getD 1 default]
 | [],h=>by simp at h
 | [_],h=>by simp at h
 | a::b::l,_=>by simp
theorem qq{row:List Cl}(h:2≤row.length)(n:Nat)(turn:Int):cb (row.map Cl.av) n turn=(fw row n (turn.fmod row.length).toNat).map Cl.av:=by
 unfold cb fw lF
 rw[E7,← Y9,← Y8,← N9]
 generalize(turn.fmod row.length).toNat=t
 have hl:2≤(row.drop t++row.take t).length:=by
  rw[N8,YJ,YS];omega
 generalize row.drop t++row.take t=l at hl
 rw[← Y8,Qo hl,← Y9]
 rfl
theorem g6{new a:Nat}{bk:Bool}{row:List Cl}{n:Nat}(ha:a<row.length):(gr new a bk row n).length=row.length+1:=by
 unfold gr
 cases bk <;> simp only[YD,ZB,Y_,N8,YS,YJ,Yy,aaD] <;> omega
theorem MD{row:List Cl}(h:2≤row.length)(new:Nat)(x:Int)(n:Nat):bJ new x (row.map Cl.av) n=
  (if(x.fdiv 8).fmod 2≠0 then fw (gr new (x.fmod row.length).toNat (decide ((x.fdiv 4).fmod 2≠0)) row n) (n+1) ((x.fdiv 16).fmod ((row.length+1:Nat):Int)).toNat else gr new (x.fmod row.length).toNat (decide ((x.fdiv 4).fmod 2≠0)) row n).map Cl.av:=by
 have BQ:0≤x.fmod row.length:=YF _ (by omega)
 have ME:x.fmod row.length<row.length:=YV _ (by omega)
 have ha:(x.fmod row.length).toNat<row.length:=by omega
 have hr:∀bk:Bool,(row.map Cl.av).take (x.fmod row.length).toNat++(if bk=true then [AV.tup [.int n,(row.map Cl.av).getD (x.fmod row.length).toNat .none,.int new],.int ((new:Int)+1)] else [.int ((new:Int)+1),.tup [.int n,.int new,(row.map Cl.av).getD (x.fmod row.length).toNat .none]])++(row.map Cl.av).drop ((x.fmod row.length).toNat+1)=(gr new (x.fmod row.length).toNat bk row n).map Cl.av:=by
  intro bk
  have hg:(row.map Cl.av).getD (x.fmod row.length).toNat .none=(row.getD (x.fmod row.length).toNat default).av:=by
   rw[N4,N4,Yi,N6 ha];rfl
  rw[hg]
  unfold gr
  rw[N9,N9,Y8,Y9]
  cases bk <;> rfl
 unfold bJ
 simp only[E7]
 by_cases hb:(x.fdiv 4).fmod 2≠0
 ·have:=hr true
  simp only[ZB] at this
  simp only[hb,ne_eq,abM,ZB,decide_true]
  rw[this]
  by_cases hc:(x.fdiv 8).fmod 2≠0
  ·simp only[hc,ne_eq,abM,ZB]
   have:=qq (row:=gr new (x.fmod row.length).toNat true row n) (by rw[g6 ha];omega) (n+1) (x.fdiv 16)
   rw[g6 ha] at this
   exact this
  ·simp only[hc,Y_]
 ·have:=hr false
  simp only[YD,Y_] at this
  simp only[hb,Y_,decide_false]
  rw[this]
  by_cases hc:(x.fdiv 8).fmod 2≠0
  ·simp only[hc,ne_eq,abM,ZB]
   have:=qq (row:=gr new (x.fmod row.length).toNat false row n) (by rw[g6 ha];omega) (n+1) (x.fdiv 16)
   rw[g6 ha] at this
   exact this
  ·simp only[hc,Y_]
noncomputable abbrev Ir:=List Cl×List Int
noncomputable def qr(new:Nat)(s:Ir):List Ir:=
 (List.range s.1.length).flatMap fun a=>[false,true].flatMap fun bk=>
  (gr new a bk s.1 s.2.length,s.2++ [0])::(List.range (s.1.length+1)).map fun t=> (fw (gr new a bk s.1 s.2.length) (s.2.length+1) t,s.2++ [0]++ [1])
theorem sI(new:Nat)(x:Int)(s:Ir)(h:2≤s.1.length):∃s'∈qr new s,bJ new x (s.1.map Cl.av) s.2.length=s'.1.map Cl.av∧aR x (s.2.map .int)=s'.2.map .int:=by
 have BQ:0≤x.fmod s.1.length:=YF _ (by omega)
 have ME:x.fmod s.1.length<s.1.length:=YV _ (by omega)
 have XZ:0≤(x.fdiv 16).fmod ((s.1.length+1:Nat):Int):=YF _ (by omega)
 have X0:(x.fdiv 16).fmod ((s.1.length+1:Nat):Int)<((s.1.length+1:Nat):Int):=YV _ (by omega)
 have i8:∀s',s'∈((gr new (x.fmod s.1.length).toNat (decide ((x.fdiv 4).fmod 2≠0)) s.1 s.2.length,s.2++ [0])::(List.range (s.1.length+1)).map fun t=> (fw (gr new (x.fmod s.1.length).toNat (decide ((x.fdiv 4).fmod 2≠0)) s.1 s.2.length) (s.2.length+1) t,s.2++ [0]++ [1]))→s'∈qr new s:=by
  intro s' Gh
  unfold qr
  refine Yu.mpr ⟨(x.fmod s.1.length).toNat,Ya.mpr (by omega),Yu.mpr ⟨decide ((x.fdiv 4).fmod 2≠0),?_,Gh⟩⟩
  cases decide ((x.fdiv 4).fmod 2≠0) <;> simp
 have JQ:=MD h new x s.2.length
 by_cases hc:(x.fdiv 8).fmod 2≠0
 ·refine⟨_,i8 _ (E4 _ (N5.mpr ⟨((x.fdiv 16).fmod ((s.1.length+1:Nat):Int)).toNat,Ya.mpr (by omega),rfl⟩)),?_,?_⟩
  ·rw[JQ,X6 hc]
  ·unfold aR
   rw[X6 hc]
   simp
 ·refine⟨_,i8 _ E6,?_,?_⟩
  ·rw[JQ,X5 hc]
  ·unfold aR
   rw[X5 hc]
   simp
noncomputable def mo:Nat→Ir→List Ir
 | 0,s=>[s]
 | f+1,s=>if 1<s.1.length then(List.range s.1.length).flatMap fun t=>mo f (fw s.1 s.2.length t,s.2++ [1]) else [s]
theorem qs:∀(f:Nat) (s:Ir) (t:Int),∃s'∈mo f s,ji f (s.1.map Cl.av) (s.2.map .int) t=(s'.1.map Cl.av,s'.2.map .int)
 | 0,s,t=> ⟨s,by simp[mo],rfl⟩
 | f+1,s,t=>by
  by_cases hc:1<s.1.length
  ·have BQ:0≤t.fmod s.1.length:=YF _ (by omega)
   have ME:t.fmod s.1.length<s.1.length:=YV _ (by omega)
   obtain⟨s',h1,h2⟩:=qs f (fw s.1 s.2.length (t.fmod s.1.length).toNat,s.2++ [1]) (t.fdiv 4)
   refine⟨s',?_,?_⟩
   ·unfold mo
    rw[X6 hc]
    exact Yu.mpr ⟨(t.fmod s.1.length).toNat,Ya.mpr (by omega),h1⟩
   ·unfold ji
    rw[E7,X6 hc,E7,qq (by omega),← h2]
    simp
  ·refine⟨s,by unfold mo;rw[X5 hc];simp,?_⟩
   unfold ji
   rw[E7,X5 hc]
noncomputable def sJ:List Ir:=((qr 2 ([.leaf 0,.leaf 1],[])).flatMap (qr 4)).flatMap fun s=>mo s.1.length s
theorem Bj{new:Nat}{s s':Ir}(h2:2≤s.1.length)(h:s'∈qr new s):2≤s'.1.length:=by
 unfold qr at h
 obtain⟨a,ha,h⟩:=Yu.mp h
 obtain⟨bk,_,h⟩:=Yu.mp h
 have hl:=g6 (new:=new) (bk:=bk) (n:=s.2.length) (Ya.mp ha)
 rcases J0.mp h with rfl | h
 ·show 2≤(gr new a bk s.1 s.2.length).length
  omega
 ·obtain⟨t,_,rfl⟩:=N5.mp h
  show 2≤(fw (gr new a bk s.1 s.2.length) (s.2.length+1) t).length
  unfold fw
  rw[Yy,YJ,N8,YJ,YS]
  omega
theorem Bk(a b c:Int):∃s∈sJ,dz a b c=(s.1.map Cl.av,s.2.map .int):=by
 obtain⟨s1,m1,r1,k1⟩:=sI 2 a ([.leaf 0,.leaf 1],[]) (by decide)
 have l1:=Bj (by decide) m1
 obtain⟨s2,m2,r2,k2⟩:=sI 4 b s1 l1
 obtain⟨s3,m3,r3⟩:=qs s2.1.length s2 c
 refine⟨s3,Yu.mpr ⟨s2,Yu.mpr ⟨s1,m1,m2⟩,m3⟩,?_⟩
 have e1:bJ 2 a [.int 0,.int 1] 0=s1.1.map Cl.av:=r1
 have e2:aR a []=s1.2.map .int:=k1
 have hr:iU a b 2=s2.1.map Cl.av:=by
  show bJ 4 b (bJ 2 a [.int 0,.int 1] 0) (aR a []).length=_
  rw[e1,e2,E7]
  exact r2
 have hk:BP a b 2=s2.2.map .int:=by
  show aR b (aR a [])=_
  rw[e2]
  exact k2
 unfold dz
 rw[hr,hk,E7]
 exact r3
noncomputable def Cl.aq:Cl→List Nat
 | .leaf n=>[n]
 | .node _ l r=>l.aq++r.aq
noncomputable def Cl.aw:Cl→List Nat
 | .leaf _=>[]
 | .node k l r=>l.aw++r.aw++ [k]
noncomputable def sK(s:Ir):Bool:=match s.1 with
 | [cl]=>cl.aq.isPerm [0,1,2,3,4,5]&&cl.aw.isPerm [0,1,2,3,4]&&s.2.isPerm [0,0,1,1,1]
 | _=>false
theorem Fa:sJ.all sK=true:=by decide+kernel
theorem yc(a b c:Int):∃(cl:Cl) (js:List Int),dz a b c=([cl.av],js.map .int)∧cl.aq.Perm [0,1,2,3,4,5]∧cl.aw.Perm [0,1,2,3,4]∧js.Perm [0,0,1,1,1]:=by
 obtain⟨s,hs,he⟩:=Bk a b c
 have hg:=E9.mp Fa s hs
 obtain⟨row,js⟩:=s
 unfold sK at hg
 split at hg
 ·rename_i cl hr
  have S_:row=[cl]:=hr
  subst S_
  simp only[Yb,List.isPerm_iff] at hg
  exact⟨cl,js,he,hg.1.1,hg.1.2,hg.2⟩
 ·cases hg
end
end
section
section
theorem bN:∀c:Cl,c.aq.length=c.af
 | .leaf n=>rfl
 | .node k l r=>by simp only[Cl.aq,N8,bN l,bN r,Cl.af]
theorem fU:∀c:Cl,c.aw.length=c.nodes
 | .leaf n=>rfl
 | .node k l r=>by simp only[Cl.aw,N8,fU l,fU r,Cl.nodes,Yy,aaD]
theorem jr:∀c:Cl,c.depth≤c.nodes
 | .leaf n=>N1 _
 | .node k l r=>by
  have h1:=jr l
  have h2:=jr r
  simp only[Cl.depth,Cl.nodes];omega
theorem z9{N K:Nat}:∀ {c:Cl},(∀n∈c.aq,n<N)→(∀k∈c.aw,k<K)→c.ok N K
 | .leaf n,h,_=>h n (by simp[Cl.aq])
 | .node k l r,h,h'=>by
  refine⟨h' k (by simp[Cl.aw]),z9 (fun n hn=>h n ?_) (fun n hn=>h' n ?_),z9 (fun n hn=>h n ?_) (fun n hn=>h' n ?_)⟩ <;> simp[Cl.aq,Cl.aw,hn]
noncomputable def Cl.eD(fl fk:Nat→Nat):Cl→Cl
 | .leaf n=> .leaf (fl n)
 | .node k l r=> .node (fk k) (l.eD fl fk) (r.eD fl fk)
noncomputable def iz{α:Type}:List α→List (List α×List α)
 | []=>[([],[])]
 | x::l=> (iz l).flatMap fun p=>[(x::p.1,p.2),(p.1,x::p.2)]
noncomputable def iA{α:Type}(ring:Bool)(l:List α):List (List α×List α):=if ring=true then(List.range (l.length+1)).map fun j=> (l.take j,l.drop j) else iz l
noncomputable def pk{α:Type}:List α→Nat→List α×List α
 | [],_=> ([],[])
 | x::l,p=>if p % 2=0 then(x::(pk l (p / 2)).1,(pk l (p / 2)).2) else((pk l (p / 2)).1,x::(pk l (p / 2)).2)
theorem Fb(pick k:Nat)(b:Int):kc pick k b=(((pick / 2 ^ k % 2:Nat):Int)==b):=by
 unfold kc
 have h1:((pick:Int).fdiv (2 ^ ((k:Nat):Int).toNat))=((pick / 2 ^ k:Nat):Int):=by
  rw[Zg,Z0 _ (by exact Z9 (Int.pow_pos (by decide)))]
  push_cast
  rfl
 rw[h1,PyProof.Rows.bitAnd_m1]
 rfl
theorem wi(pick:Nat):∀(l:List Cl) (n:Nat),((l.zipIdx n).filterMap fun p=>if kc pick p.2 0=true then some p.1 else none)=(pk l (pick / 2 ^ n)).1∧((l.zipIdx n).filterMap fun p=>if kc pick p.2 1=true then some p.1 else none)=(pk l (pick / 2 ^ n)).2
 | [],n=> ⟨rfl,rfl⟩
 | x::l,n=>by
  obtain⟨h1,h2⟩:=wi pick l (n+1)
  have hd:pick / 2 ^ n / 2=pick / 2 ^ (n+1):=by rw[Nat.div_div_eq_div_mul,abX]
  rw[abh,Ys,Ys,h1,h2]
  simp only[Fb,pk,hd]
  rcases Nat.mod_two_eq_zero_or_one (pick / 2 ^ n) with h | h <;> rw[h] <;> simp
theorem lj(l:List Cl)(pick:Nat):bv l pick 0=(pk l pick).1∧bv l pick 1=(pk l pick).2:=by
 have:=wi pick l 0
 rw[Nat.pow_zero,Nat.div_one] at this
 exact this
theorem Fc{α:Type}:∀(l:List α) (p:Nat),pk l p∈iz l
 | [],_=>by simp[pk,iz]
 | x::l,p=>by
  unfold pk iz
  refine Yu.mpr ⟨pk l (p / 2),Fc l _,?_⟩
  split <;> simp
theorem Fd{α:Type}:∀ {l:List α} {s:List α×List α},s∈iz l→∃p,p<2 ^ l.length∧pk l p=s
 | [],s,h=> ⟨0,by simp,by simp[iz] at h;rw[h];rfl⟩
 | x::l,s,h=>by
  unfold iz at h
  obtain⟨t,ht,hs⟩:=Yu.mp h
  obtain⟨p,hp,rfl⟩:=Fd ht
  have h2:2 ^ (x::l).length=2*2 ^ l.length:=by rw[Yy,abX,Nat.mul_comm]
  simp only[J0,Y5,aaL] at hs
  rcases hs with rfl | rfl
  ·refine⟨2*p,by omega,?_⟩
   show(if 2*p % 2=0 then(x::(pk l (2*p / 2)).1,(pk l (2*p / 2)).2) else((pk l (2*p / 2)).1,x::(pk l (2*p / 2)).2))=_
   rw[X6 (Nat.mul_mod_right 2 p),Nat.mul_div_cancel_left p (by decide)]
  ·refine⟨2*p+1,by omega,?_⟩
   show(if(2*p+1) % 2=0 then(x::(pk l ((2*p+1) / 2)).1,(pk l ((2*p+1) / 2)).2) else((pk l ((2*p+1) / 2)).1,x::(pk l ((2*p+1) / 2)).2))=_
   rw[X5 (by rw[Nat.mul_add_mod];decide),show(2*p+1) / 2=p from Nat.mul_add_div (by decide) p 1]
theorem og{α:Type}:∀(l:List α) (j:Nat),(l.take j,l.drop j)∈iz l
 | [],j=>by simp[iz]
 | x::l,0=>by
  have:=og l 0
  unfold iz
  refine Yu.mpr ⟨_,this,?_⟩
  simp
 | x::l,j+1=>by
  have:=og l j
  unfold iz
  refine Yu.mpr ⟨_,this,?_⟩
  simp
theorem attempt_all(pr:List Cl→Bool)(ring:Bool)(rest:List Cl)(l r:Cl):((List.range (2 ^ rest.length)).any fun pick=>db pr ring rest l r pick)=(iA ring rest).any fun s=>pr (r::s.1)&&pr (s.2++ [l]):=by
 rw[Zs,YY,YY]
 constructor
 ·rintro⟨pick,hp,h⟩
  unfold db at h
  rw[(lj rest pick).1,(lj rest pick).2] at h
  simp only[Yb,abZ,Yq,YM] at h
  obtain⟨h1,h2,h3⟩:=h
  refine⟨pk rest pick,?_,by rw[h2,h3];rfl⟩
  unfold iA
  cases ring with
  | false=>exact Fc rest pick
  | true=>
   rcases h1 with h1 | h1
   ·refine N5.mpr ⟨(pk rest pick).1.length,Ya.mpr ?_,?_⟩
    ·have:=E8 length h1
     rw[N8] at this
     omega
    ·have e1:∀a b:List Cl,a++b=rest→rest.take a.length=a∧rest.drop a.length=b:=by rintro a b rfl;simp
     obtain⟨e1,e2⟩:=e1 _ _ h1
     rw[e1,e2]
   ·cases h1
 ·rintro⟨s,hs,h⟩
  have i8:s∈iz rest∧(ring=true→s.1++s.2=rest):=by
   unfold iA at hs
   cases ring with
   | false=>exact⟨hs,fun h=>by cases h⟩
   | true=>
    obtain⟨j,_,rfl⟩:=N5.mp hs
    exact⟨og rest j,fun O=>ZW j rest⟩
  obtain⟨p,hp,rfl⟩:=Fd i8.1
  refine⟨p,Ya.mpr hp,?_⟩
  unfold db
  rw[(lj rest p).1,(lj rest p).2]
  cases ring with
  | false=>simpa using h
  | true=>simpa [i8.2 rfl] using h
theorem wj{α β:Type}(f:α→β):∀l:List α,iz (l.map f)=(iz l).map fun s=> (s.1.map f,s.2.map f)
 | []=>rfl
 | x::l=>by
  simp only[Ye,iz,wj f l,List.flatMap_map,List.map_flatMap,Ye,aaM]
theorem yd{α β:Type}(f:α→β)(ring:Bool)(l:List α):iA ring (l.map f)=(iA ring l).map fun s=> (s.1.map f,s.2.map f):=by
 unfold iA
 cases ring with
 | false=>exact wj f l
 | true=>
  simp only[ZB,E7,YU]
  congr 1
  funext j
  simp[Y8,Y9]
theorem ye{α:Type}{ring:Bool}{l:List α}{s:List α×List α}(h:s∈iA ring l):(∀x∈s.1,x∈l)∧∀x∈s.2,x∈l:=by
 have key:∀ {l:List α} {s:List α×List α},s∈iz l→(∀x∈s.1,x∈l)∧∀x∈s.2,x∈l:=by
  intro l
  induction l with
  | nil=>intro s h;simp[iz] at h;subst h;exact⟨fun x h=>h,fun x h=>h⟩
  | cons y l ih=>
   intro s h
   unfold iz at h
   obtain⟨t,ht,hs⟩:=Yu.mp h
   obtain⟨i1,i2⟩:=ih ht
   simp only[J0,Y5,aaL] at hs
   rcases hs with rfl | rfl
   ·refine⟨fun x hx=>?_,fun x hx=>E4 _ (i2 x hx)⟩
    rcases J0.mp hx with rfl | hx
    ·exact E6
    ·exact E4 _ (i1 x hx)
   ·refine⟨fun x hx=>E4 _ (i1 x hx),fun x hx=>?_⟩
    rcases J0.mp hx with rfl | hx
    ·exact E6
    ·exact E4 _ (i2 x hx)
 unfold iA at h
 cases ring with
 | false=>exact key h
 | true=>
  obtain⟨j,_,rfl⟩:=N5.mp h
  exact key (og l j)
end
end
section
section
noncomputable def Fe:List (List Nat):=[[1,0,3,2,5,4],[1,0,4,5,2,3],[1,0,5,4,3,2],[2,3,0,1,5,4],[2,4,0,5,1,3],[2,5,0,4,3,1],[3,2,1,0,5,4],[3,4,5,0,1,2],[3,5,4,0,2,1],[4,2,1,5,0,3],[4,3,5,1,0,2],[4,5,3,2,0,1],[5,2,1,4,3,0],[5,3,4,1,2,0],[5,4,3,2,1,0]]
noncomputable def Xa:List (List Nat):=[[0,7,56,448,3584,28672],[7,0,4672,9224,16528,2336],[56,4672,0,18433,8450,1156],[448,9224,18433,0,4132,530],[3584,16528,8450,4132,0,73],[28672,2336,1156,530,73,0]]
noncomputable def oh:Nat:=20549
noncomputable def wl:List Nat:=[5026338869833,10052677739593,19967647453842,19003638957346,11279864572180,5038576584868]
noncomputable def Qp(a b:Nat):Nat:=(Xa.getD a []).getD b 0
theorem It:∀m,m<15→∀a,a<6→∀b,b<6→(Qp a b).testBit m=((Fe.getD m []).getD a 9==b):=by decide+kernel
noncomputable def wm(l:List Nat):Nat:=l.foldr (fun a b=>a|||b) 0
theorem mq(m:Nat):∀l:List Nat,(wm l).testBit m=l.any fun x=>x.testBit m
 | []=>by simp[wm]
 | x::l=>by
  have ih:=mq m l
  unfold wm at ih ⊢
  rw[List.foldr_cons,Nat.testBit_or,ih,abG]
noncomputable def Iu(x y:Nat):Nat:=match x with
 | 0=>0
 | n+1=> (n+1)&&&y
theorem Ff(x y m:Nat):(Iu x y).testBit m=(x.testBit m&&y.testBit m):=by
 unfold Iu
 split
 ·simp
 ·rw[abt]
noncomputable def Iv(pr:List Cl→Nat)(ring:Bool)(row:List Cl)(at':Nat):Cl→Nat
 | .leaf _=>0
 | .node _ l r=>wm ((iA ring (restOf row at')).map fun s=>Iu (pr (r::s.1)) (pr (s.2++ [l])))
noncomputable def pm(ring:Bool):Nat→List Cl→Nat
 | 0,_=>0
 | n+1,row=>match dm [0,1] row with
  | some dg=>pm ring n dg
  | none=>match eu row with
   | some (a,b)=>Qp a b
   | none=>wm (row.zipIdx.map fun p=>Iv (pm ring n) ring row p.2 p.1)
theorem mr{ks:List Int}{fl fk:Nat→Nat}(hk:∀k,k<5→(([0,1]:List Int).getD (fk k) 0==1)=(ks.getD k 0==1)):∀row:List Cl,(∀c∈row,c.ok 6 5)→dm [0,1] (row.map (Cl.eD fl fk))=(dm ks row).map (map (Cl.eD fl fk))
 | [],_=>rfl
 | .leaf n::r,h=>by
  rw[Ye,Cl.eD,dm,mr hk r fun c hc=>h c (E4 _ hc),dm,aaW,aaW]
  rfl
 | .node k a b::r,h=>by
  have ho:=h _ E6
  have ih:=mr (fl:=fl) (fk:=fk) hk r fun c hc=>h c (E4 _ hc)
  rw[Ye,Cl.eD,dm,dm,hk k ho.1,ih]
  split
  ·rfl
  ·rw[aaW,aaW]
   rfl
theorem qt{ks:List Int}:∀ {row dg:List Cl},dm ks row=some dg→(∀c∈row,c.ok 6 5)→∀c∈dg,c.ok 6 5
 | [],dg,h,_=>by cases h
 | .leaf n::r,dg,h,ho=>by
  rw[dm] at h
  obtain⟨r',h1,rfl⟩:=aap.mp h
  intro c hc
  rcases J0.mp hc with rfl | hc
  ·exact ho _ E6
  ·exact qt h1 (fun c hc=>ho c (E4 _ hc)) c hc
 | .node k a b::r,dg,h,ho=>by
  rw[dm] at h
  have h0:=ho _ E6
  split at h
  ·simp only[abL] at h
   subst h
   intro c hc
   simp only[J0] at hc
   rcases hc with rfl | rfl | hc
   ·exact h0.2.1
   ·exact h0.2.2
   ·exact ho c (E4 _ hc)
  ·obtain⟨r',h1,rfl⟩:=aap.mp h
   intro c hc
   rcases J0.mp hc with rfl | hc
   ·exact h0
   ·exact qt h1 (fun c hc=>ho c (E4 _ hc)) c hc
theorem ri{fl fk:Nat→Nat}(row:List Cl):eu (row.map (Cl.eD fl fk))=(eu row).map fun p=> (fl p.1,fl p.2):=by
 cases row with
 | nil=>rfl
 | cons c l=>cases l with
  | nil=>rfl
  | cons d r=>cases r with
   | cons=>rfl
   | nil=>cases c with
    | node=>rfl
    | leaf a=>cases d <;> rfl
theorem qu{row:List Cl}{a b:Nat}(h:eu row=some (a,b)):row=[.leaf a,.leaf b]:=(DY row).elim (fun⟨x,y,e⟩=>by subst e;cases h;rfl) fun e=>by rw[e] at h;cases h
theorem Iw{row:List Cl}(h:∀c∈row,c.ok 6 5)(at':Nat):∀c∈restOf row at',c.ok 6 5:=by
 intro c hc
 unfold restOf at hc
 rcases Yf.mp hc with h1 | h1
 ·exact h c (Zq h1)
 ·exact h c (ZI h1)
theorem ms{α:Type}{f g:α→Bool}:∀ {l:List α},(∀x∈l,f x=g x)→l.any f=l.any g
 | [],_=>rfl
 | x::l,h=>by rw[abG,abG,h x E6,ms fun y hy=>h y (E4 _ hy)]
theorem wn{ks:List Int}{ax:Nat→Nat→Bool}{fl fk:Nat→Nat}{m:Nat}(hk:∀k,k<5→(([0,1]:List Int).getD (fk k) 0==1)=(ks.getD k 0==1))(Ix:∀a,a<6→∀b,b<6→(Qp (fl a) (fl b)).testBit m=ax a b)(ring:Bool):∀(n:Nat) (row:List Cl),(∀c∈row,c.ok 6 5)→(pm ring n (row.map (Cl.eD fl fk))).testBit m=fj ks ax ring n row
 | 0,row,_=>by simp[pm,fj]
 | n+1,row,ho=>by
  unfold pm fj
  rw[mr hk row ho]
  cases hs:dm ks row with
  | some dg=>exact wn hk Ix ring n dg (qt hs ho)
  | none=>
   simp only[Option.map_none]
   rw[ri]
   cases ht:eu row with
   | some p=>
    obtain⟨a,b⟩:=p
    have:=qu ht
    subst this
    exact Ix a (ho _ E6) b (ho (.leaf b) (by simp))
   | none=>
    simp only[Option.map_none]
    rw[mq,List.zipIdx_map,YU,abU]
    have hz:∀p∈row.zipIdx,(Iv (pm ring n) ring (row.map (Cl.eD fl fk)) p.2 (p.1.eD fl fk)).testBit m=cI (fj ks ax ring n) ring row p.2 p.1:=by
     rintro⟨c,i⟩ hp
     have hc:c∈row:=by
      have:=List.mem_zipIdx hp
      obtain⟨_,_,h⟩:=this
      rw[h];exact ZA _
     have M2:=ho c hc
     cases c with
     | leaf a=>simp[Cl.eD,Iv,cI]
     | node k l r=>
      have hr:restOf (row.map (Cl.eD fl fk)) i=(restOf row i).map (Cl.eD fl fk):=by
       unfold restOf
       rw[N9,Y9,Y8]
      simp only[Cl.eD,Iv,cI]
      rw[attempt_all,mq,hr,yd,YU,abU]
      refine ms fun s hs=>?_
      have oV:=ye hs
      have Kg:=Iw ho i
      show(Iu (pm ring n (r.eD fl fk::s.1.map (Cl.eD fl fk))) (pm ring n (s.2.map (Cl.eD fl fk)++ [l.eD fl fk]))).testBit m=_
      rw[Ff]
      have h1:=wn hk Ix ring n (r::s.1) (by
       intro c hc
       rcases J0.mp hc with rfl | hc
       ·exact M2.2.2
       ·exact Kg c (oV.1 c hc))
      have h2:=wn hk Ix ring n (s.2++ [l]) (by
       intro c hc
       rcases Yf.mp hc with hc | hc
       ·exact Kg c (oV.2 c hc)
       ·rw[X8.mp hc];exact M2.2.1)
      rw[Ye] at h1
      rw[N9] at h2
      rw[h1,← h2]
      rfl
    exact ms fun p hp=>hz p hp
end
end
section
set_option tactic.hygienic true
section
noncomputable def Fg:Nat:=35184372088831
noncomputable def sM:Cl→Nat×Nat
 | .leaf i=> (Fg ^^^ wl.getD i 0,wl.getD i 0)
 | .node k l r=>match sM l,sM r with
  |(a0,a1),(b0,b1)=>if k=1 then((a0|||b0)&&& ((a0|||a1)&&& (b0|||b1)),(a1|||b1)&&& ((a0|||a1)&&& (b0|||b1))) else(a0&&&b0,a1&&&b1)
noncomputable def qv(x:Nat):Nat→Nat
 | 0=>0
 | m+1=> (if x / 8 ^ m % 8=0 then 2 ^ m else 0)+qv x m
noncomputable def hM(T:Cl):Nat:=qv ((sM T).1|||(sM T).2) 15
noncomputable def Fi(T:Cl):Bool:=match hM T with
 | 0=>pm false 6 [T]==0&&pm true 6 [T]==0
 | h+1=>pm false 6 [T]==h+1&&pm true 6 [T]==(h+1)&&&oh
noncomputable def gen:Nat→Nat→Nat→Nat→List Cl
 | 0,_,_,_=>[]
 | f+1,st,L,b=>if L=1 then(if b=0 then [.leaf st] else []) else
  (List.range L).flatMap fun l=>if l=0 then [] else
   ((match b with | 0=>[] | b'+1=> (List.range (b'+1)).flatMap fun b1=> (gen f st l b1).flatMap fun x=> (gen f (st+l) (L - l) (b' - b1)).map fun y=> .node 0 x y)++
    (List.range (b+1)).flatMap fun b1=> (gen f st l b1).flatMap fun x=> (gen f (st+l) (L - l) (b - b1)).map fun y=> .node 1 x y)
theorem Bl:(gen 6 0 6 2).all Fi=true:=by decide+kernel
theorem uo:∀(T:Cl) (f st:Nat),T.af≤f→(∀k∈T.aw,k=0∨k=1)→T.aq=range' st T.af→T∈gen f st T.af (T.aw.count 0)
 | .leaf n,0,st,hf,_,_=>by simp[Cl.af] at hf
 | .leaf n,f+1,st,hf,_,hl=>by
  have:n=st:=by simpa [Cl.aq,Cl.af,range'] using hl
  subst this
  simp[gen,Cl.af,Cl.aw]
 | .node k l r,0,st,hf,_,_=>by
  have:=l.cF
  simp only[Cl.af] at hf;omega
 | .node k l r,f+1,st,hf,hk,hl=>by
  have p1:=l.cF
  have p2:=r.cF
  simp only[Cl.af] at hf
  simp only[Cl.aq,Cl.af] at hl
  have MF:range' st (l.af+r.af)=range' st l.af++range' (st+l.af) r.af:=by
   rw[List.range'_append_1]
  rw[MF] at hl
  obtain⟨h1,h2⟩:=List.append_inj hl (by rw[bN,List.length_range'])
  have i1:=uo l f st (by omega) (fun k Dn=>hk k (by simp[Cl.aw,Dn])) h1
  have i2:=uo r f (st+l.af) (by omega) (fun k Dn=>hk k (by simp[Cl.aw,Dn])) h2
  have Q9:(Cl.node k l r).aw.count 0=l.aw.count 0+r.aw.count 0+if k=0 then 1 else 0:=by
   simp only[Cl.aw,Zj,Za,abB,YQ]
   rcases hk k (by simp[Cl.aw]) with rfl | rfl <;> rfl
  rw[Q9]
  unfold gen
  rw[X5 (by simp only[Cl.af];omega)]
  refine Yu.mpr ⟨l.af,Ya.mpr (by simp only[Cl.af];omega),?_⟩
  rw[X5 (by omega)]
  have oV:(Cl.node k l r).af - l.af=r.af:=by simp only[Cl.af];omega
  rw[oV]
  rcases hk k (by simp[Cl.aw]) with rfl | rfl
  ·refine Yn _ ?_
   simp only[ZB]
   refine Yu.mpr ⟨l.aw.count 0,Ya.mpr (by omega),Yu.mpr ⟨l,i1,N5.mpr ⟨r,?_,rfl⟩⟩⟩
   rw[show l.aw.count 0+r.aw.count 0 - l.aw.count 0=r.aw.count 0 by omega]
   exact i2
  ·refine YL _ ?_
   simp only[Nat.one_ne_zero,Y_,aat]
   refine Yu.mpr ⟨l.aw.count 0,Ya.mpr (by omega),Yu.mpr ⟨l,i1,N5.mpr ⟨r,?_,rfl⟩⟩⟩
   rw[show l.aw.count 0+r.aw.count 0 - l.aw.count 0=r.aw.count 0 by omega]
   exact i2
theorem Bm(h:Fi T=true):pm false 6 [T]=hM T∧pm true 6 [T]=hM T&&&oh:=by
 unfold Fi at h
 split at h
 ·rename_i h0
  simp only[Yb,Y1] at h
  rw[h0,h.1,h.2];simp
 ·rename_i n h0
  simp only[Yb,Y1] at h
  rw[h0,h.1,h.2];simp
theorem fV(fl fk:Nat→Nat):∀c:Cl,(c.eD fl fk).aq=c.aq.map fl
 | .leaf n=>rfl
 | .node k l r=>by simp only[Cl.eD,Cl.aq,N9,fV fl fk l,fV fl fk r]
theorem eT(fl fk:Nat→Nat):∀c:Cl,(c.eD fl fk).aw=c.aw.map fk
 | .leaf n=>rfl
 | .node k l r=>by simp only[Cl.eD,Cl.aw,N9,Ye,aaM,eT fl fk l,eT fl fk r]
theorem wo(fl fk:Nat→Nat)(c:Cl):(c.eD fl fk).af=c.af:=by rw[← bN,fV,E7,bN]
noncomputable def place(cl:Cl)(n:Nat):Nat:=cl.aq.idxOf n
noncomputable def kindOf(ks:List Int)(k:Nat):Nat:=if ks.getD k 0=1 then 1 else 0
noncomputable def eU(cl:Cl)(ks:List Int):Cl:=cl.eD (place cl) (kindOf ks)
theorem sL{cl:Cl}(hp:cl.aq.Nodup):cl.aq.map (place cl)=List.range cl.aq.length:=by
 refine List.ext_getElem (by simp) fun i h1 h2=>?_
 rw[abi,List.getElem_range]
 unfold place
 exact hp.idxOf_getElem i (by simpa using h1)
theorem lq{cl:Cl}{ks:List Int}(h2:cl.aw.Perm [0,1,2,3,4])(h3:ks.Perm [0,0,1,1,1]):(eU cl ks).aw.Perm [0,0,1,1,1]:=by
 unfold eU
 rw[eT]
 have e: [0,1,2,3,4].map (kindOf ks)=ks.map fun x=>if x=1 then 1 else 0:=by
  match ks,h3.length_eq with
  | [a,b,c,d,e],_=>rfl
 exact(h2.map (kindOf ks)).trans (by rw[e];exact h3.map _)
theorem Bo{cl:Cl}{ks:List Int}(h1:cl.aq.Perm [0,1,2,3,4,5])(h2:cl.aw.Perm [0,1,2,3,4])(h3:ks.Perm [0,0,1,1,1]):eU cl ks∈gen 6 0 6 2:=by
 have hl:cl.af=6:=by rw[← bN,h1.length_eq];rfl
 have dK:(eU cl ks).af=6:=by unfold eU;rw[wo,hl]
 have KJ:cl.aq.Nodup:=h1.symm.nodup (by decide)
 have hc:(eU cl ks).aw.count 0=2:=(lq h2 h3).count_eq 0
 have:=uo (eU cl ks) 6 0 (by omega) (fun k hk=>by
  unfold eU at hk
  rw[eT] at hk
  obtain⟨j,_,rfl⟩:=N5.mp hk
  unfold kindOf
  split <;> simp) (by
  rw[dK]
  unfold eU
  rw[fV,sL KJ,bN,hl]
  rfl)
 rw[dK,hc] at this
 exact this
theorem Bp{cl:Cl}{ks:List Int}{ax:Nat→Nat→Bool}{m:Nat}(h1:cl.aq.Perm [0,1,2,3,4,5])(h2:cl.aw.Perm [0,1,2,3,4])(h3:ks.Perm [0,0,1,1,1])
  (Ix:∀a,a<6→∀b,b<6→(Qp (place cl a) (place cl b)).testBit m=ax a b):
  fj ks ax false 6 [cl]=(hM (eU cl ks)).testBit m∧fj ks ax true 6 [cl]=((hM (eU cl ks)).testBit m&&oh.testBit m):=by
 have hh:=Bm (E9.mp Bl _ (Bo h1 h2 h3))
 have hk:∀k,k<5→(([0,1]:List Int).getD (kindOf ks k) 0==1)=(ks.getD k 0==1):=by
  intro k _
  unfold kindOf
  by_cases h:ks.getD k 0=1
  ·rw[X6 h,h];rfl
  ·rw[X5 h]
   have:(ks.getD k 0==1)=false:=by simpa using h
   rw[this];rfl
 have ho:∀c∈[cl],c.ok 6 5:=by
  intro c hc
  rw[X8.mp hc]
  refine z9 (fun n hn=>?_) (fun n hn=>?_)
  ·have:=h1.mem_iff.mp hn
   simp at this;omega
  ·have:=h2.mem_iff.mp hn
   simp at this;omega
 have p1:=wn hk Ix false 6 [cl] ho
 have p2:=wn hk Ix true 6 [cl] ho
 simp only[Ye,aaM] at p1 p2
 refine⟨?_,?_⟩
 ·rw[← p1]
  show(pm false 6 [eU cl ks]).testBit m=_
  rw[hh.1]
 ·rw[← p2]
  show(pm true 6 [eU cl ks]).testBit m=_
  rw[hh.2,abt]
end
end
section
section
noncomputable def bh:Cl→Nat→Int
 | .leaf i,_=>i
 | .node _ l r,j=>6+((j+l.nodes+r.nodes:Nat):Int)
noncomputable def aG(sg:Nat→Int):Cl→Nat→List Lk
 | .leaf _,_=>[]
 | .node k l r,j=>aG sg l j++aG sg r (j+l.nodes)++ [(sg k,bh l j,bh r (j+l.nodes))]
theorem bQ(sg:Nat→Int):∀(T:Cl) (j:Nat),(aG sg T j).length=T.nodes
 | .leaf _,_=>rfl
 | .node k l r,j=>by simp only[aG,N8,bQ sg l,bQ sg r,Yy,aaD,Cl.nodes]
def iP(E:Int)(x:Int→Bool):List Lk→Nat→Nat→Prop
 | [],_,_=>True
 | t::r,k,p=>if t.1=E then x (6+(k:Int))=x (if p % 2=0 then t.2.1 else t.2.2)∧iP E x r (k+1) (p / 2) else(x (6+(k:Int))=x t.2.1∧x (6+(k:Int))=x t.2.2)∧iP E x r (k+1) p
def cZ(E:Int)(x:Int→Bool):List Lk→Nat→Prop
 | [],_=>True
 | t::r,k=> (if t.1=E then x (6+(k:Int))=x t.2.1∨x (6+(k:Int))=x t.2.2 else x (6+(k:Int))=x t.2.1∧x (6+(k:Int))=x t.2.2)∧cZ E x r (k+1)
theorem jQ{E:Int}{x:Int→Bool}:∀(l:List Lk) (k p:Nat),(∀e∈aU E l k++bz E l k p,x e.1=x e.2)↔iP E x l k p
 | [],k,p=>by simp[aU,bz,iP]
 | t::r,k,p=>by
  rw[iP,aU,bz]
  by_cases h:t.1=E
  ·rw[X6 h,X6 h,X5 (by simpa using h),← jQ r (k+1) (p / 2),Zu]
   constructor
   ·intro hh
    exact⟨hh (6+(k:Int),if p % 2=0 then t.2.1 else t.2.2) (by simp),fun e he=>hh e (by simp only[Yf,J0] at he ⊢;rcases he with he | he <;> simp[he])⟩
   ·rintro⟨h1,h2⟩ e he
    simp only[Yf,J0] at he
    rcases he with he | rfl | he
    ·exact h2 e (by simp[he])
    ·exact h1
    ·exact h2 e (by simp[he])
  ·rw[X5 h,X5 h,X6 h,← jQ r (k+1) p]
   constructor
   ·intro hh
    exact⟨⟨hh (6+(k:Int),t.2.1) (by simp),hh (6+(k:Int),t.2.2) (by simp)⟩,fun e he=>hh e (by simp only[Yf,J0] at he ⊢;rcases he with he | he <;> simp[he])⟩
   ·rintro⟨⟨h1,h2⟩,h3⟩ e he
    simp only[Zd,Zu,Yf,J0] at he
    rcases he with rfl | rfl | he | he
    ·exact h1
    ·exact h2
    ·exact h3 e (by simp[he])
    ·exact h3 e (by simp[he])
theorem up{E:Int}{x:Int→Bool}:∀(l:List Lk) (k p:Nat),iP E x l k p→cZ E x l k
 | [],_,_,_=>trivial
 | t::r,k,p,h=>by
  rw[iP] at h
  rw[cZ]
  by_cases hc:t.1=E
  ·rw[X6 hc] at h ⊢
   refine⟨?_,up r _ _ h.2⟩
   have:=h.1
   split at this
   ·exact .inl this
   ·exact .inr this
  ·rw[X5 hc] at h ⊢
   exact⟨h.1,up r _ _ h.2⟩
theorem z_{E:Int}{x:Int→Bool}:∀(l:List Lk) (k:Nat),cZ E x l k→∃p,p<2 ^ (l.countP fun t=>decide (t.1=E))∧iP E x l k p
 | [],_,_=> ⟨0,by simp,trivial⟩
 | t::r,k,h=>by
  rw[cZ] at h
  obtain⟨p,hp,hh⟩:=z_ r (k+1) h.2
  have h1:=h.1
  by_cases hc:t.1=E
  ·rw[X6 hc] at h1
   rw[aaX (by simpa using hc),abX]
   rcases h1 with h1 | h1
   ·refine⟨2*p,by omega,?_⟩
    rw[iP,X6 hc,X6 (Nat.mul_mod_right 2 p),Nat.mul_div_cancel_left p (by decide)]
    exact⟨h1,hh⟩
   ·refine⟨2*p+1,by omega,?_⟩
    rw[iP,X6 hc,X5 (by rw[Nat.mul_add_mod];decide),show(2*p+1) / 2=p from Nat.mul_add_div (by decide) p 1]
    exact⟨h1,hh⟩
  ·rw[X5 hc] at h1
   rw[aaY (by simpa using hc)]
   refine⟨p,hp,?_⟩
   rw[iP,X5 hc]
   exact⟨h1,hh⟩
theorem iC{E:Int}{x:Int→Bool}:∀(a b:List Lk) (k:Nat),cZ E x (a++b) k↔cZ E x a k∧cZ E x b (k+a.length)
 | [],b,k=>by simp[cZ]
 | t::a,b,k=>by
  rw[Zd,cZ,cZ,iC a b,Yy,show k+1+a.length=k+(a.length+1) from abW k _,and_assoc]
noncomputable def sB(c:Nat→Bool):Cl→Bool×Bool
 | .leaf i=> (!c i,c i)
 | .node k l r=>if k=1 then(((sB c l).1||(sB c r).1)&& (((sB c l).1||(sB c l).2)&& ((sB c r).1||(sB c r).2)),((sB c l).2||(sB c r).2)&& (((sB c l).1||(sB c l).2)&& ((sB c r).1||(sB c r).2))) else((sB c l).1&& (sB c r).1,(sB c l).2&& (sB c r).2)
noncomputable def has(s:Bool×Bool)(b:Bool):Bool:=if b=true then s.2 else s.1
section
variable {E:Int}{sg:Nat→Int}
theorem g7{x:Int→Bool}{k:Nat}{j:Nat}:cZ E x (aG sg (.node k l r) j) j↔(cZ E x (aG sg l j) j∧cZ E x (aG sg r (j+l.nodes)) (j+l.nodes))∧
  (if sg k=E then x (bh (.node k l r) j)=x (bh l j)∨x (bh (.node k l r) j)=x (bh r (j+l.nodes)) else x (bh (.node k l r) j)=x (bh l j)∧x (bh (.node k l r) j)=x (bh r (j+l.nodes))):=by
 rw[aG,iC,iC,N8,bQ,bQ,cZ]
 simp only[cZ,and_true,bh,← YW]
theorem Qq:∀a b c d v:Bool,has (a,b) v=true→has (c,d) v=true→has (a&&c,b&&d) v=true:=by decide
theorem Qr:∀a b c d v x y:Bool,has (a,b) x=true→has (c,d) y=true→(v=x∨v=y)→has ((a||c)&& ((a||b)&& (c||d)),(b||d)&& ((a||b)&& (c||d))) v=true:=by decide
theorem qw{x:Int→Bool}(h0:sg 0≠E)(h1:sg 1=E):∀(T:Cl) (j:Nat),(∀k∈T.aw,k=0∨k=1)→cZ E x (aG sg T j) j→has (sB (fun i=>x (i:Int)) T) (x (bh T j))=true
 | .leaf i,j,_,_=>by
  unfold has sB bh
  cases h:x (i:Int) <;> simp
 | .node k l r,j,hk,h=>by
  obtain⟨⟨hl,hr⟩,hn⟩:=g7.mp h
  have i1:=qw h0 h1 l j (fun k Dn=>hk k (by simp[Cl.aw,Dn])) hl
  have i2:=qw h0 h1 r (j+l.nodes) (fun k Dn=>hk k (by simp[Cl.aw,Dn])) hr
  rcases hk k (by simp[Cl.aw]) with rfl | rfl
  ·rw[X5 h0] at hn
   rw[hn.1]
   rw[← hn.2,hn.1] at i2
   exact Qq _ _ _ _ _ i1 i2
  ·rw[X6 h1] at hn
   exact Qr _ _ _ _ _ _ _ i1 i2 hn
theorem Qs{a b:Nat}(h:a≤b):6+(a:Int)≤6+(b:Int):=Y0 (YH.mpr h) 6
theorem iD{x y:Int→Bool}:∀(T:Cl) (j:Nat),(∀i∈T.aq,x (i:Int)=y (i:Int))→(∀n:Int,6+(j:Int)≤n→n<6+((j+T.nodes:Nat):Int)→x n=y n)→(cZ E x (aG sg T j) j↔cZ E y (aG sg T j) j)∧x (bh T j)=y (bh T j)
 | .leaf i,j,h,_=> ⟨Iff.rfl,h i (by simp[Cl.aq])⟩
 | .node k l r,j,h,hj=>by
  simp only[Cl.nodes] at hj
  obtain⟨a1,a2⟩:=iD l j (fun i hi=>h i (by simp[Cl.aq,hi])) fun n h1 h2=>hj n h1 (Zb h2 (Qs (Yo (E2 (Yl ..) (ZD _)) j)))
  obtain⟨b1,b2⟩:=iD r (j+l.nodes) (fun i hi=>h i (by simp[Cl.aq,hi])) fun n h1 h2=>hj n (Y' (Qs (Yl ..)) h1) (Zb h2 (Qs (E2 (X7 (YW ..)) (Yo (ZD _) j))))
  have c:x (bh (.node k l r) j)=y (bh (.node k l r) j):=hj _ (Qs (E2 (Yl ..) (X7 (YW j l.nodes r.nodes).symm))) (aaf (Yd.mpr (Yv (X7 (YW ..)) (Y4 _))) 6)
  refine⟨?_,c⟩
  rw[g7,g7,a1,b1,a2,b2,c]
theorem Tz:∀a b c d v:Bool,has (a&&c,b&&d) v=true→has (a,b) v=true∧has (c,d) v=true:=by decide
theorem TA:∀a b c d v:Bool,has ((a||c)&& ((a||b)&& (c||d)),(b||d)&& ((a||b)&& (c||d))) v=true→∃x y,has (a,b) x=true∧has (c,d) y=true∧(v=x∨v=y):=by decide
theorem qx(h0:sg 0≠E)(h1:sg 1=E)(c:Nat→Bool):∀(T:Cl) (j:Nat) (v:Bool),(∀i∈T.aq,i<6)→(∀k∈T.aw,k=0∨k=1)→has (sB c T) v=true→∃x:Int→Bool,(∀n:Nat,n<6→x (n:Int)=c n)∧cZ E x (aG sg T j) j∧x (bh T j)=v
 | .leaf i,j,v,hi,_,h=>by
  refine⟨fun n=>c n.toNat,fun n O=>by simp,trivial,?_⟩
  unfold has sB at h
  show c (toNat (i:Int))=v
  rw[Zg]
  cases v <;> simp_all
 | .node k l r,j,v,hi,hk,h=>by
  have Iq:∀i∈l.aq,i<6:=fun i h=>hi i (by simp[Cl.aq,h])
  have TB:∀i∈r.aq,i<6:=fun i h=>hi i (by simp[Cl.aq,h])
  have Nb:∀k∈l.aw,k=0∨k=1:=fun k h=>hk k (by simp[Cl.aw,h])
  have Xb:∀k∈r.aw,k=0∨k=1:=fun k h=>hk k (by simp[Cl.aw,h])
  have main:∀a b:Bool,has (sB c l) a=true→has (sB c r) b=true→(if sg k=E then v=a∨v=b else v=a∧v=b)→∃x:Int→Bool,(∀n:Nat,n<6→x (n:Int)=c n)∧cZ E x (aG sg (.node k l r) j) j∧x (bh (.node k l r) j)=v:=by
   intro a b ha hb hv
   obtain⟨x1,p1,q1,r1⟩:=qx h0 h1 c l j a Iq Nb ha
   obtain⟨x2,p2,q2,r2⟩:=qx h0 h1 c r (j+l.nodes) b TB Xb hb
   let x:Int→Bool:=fun n=>if n<6 then c n.toNat else if n<6+((j+l.nodes:Nat):Int) then x1 n else if n<6+((j+l.nodes+r.nodes:Nat):Int) then x2 n else v
   have xl:∀n:Nat,n<6→x (n:Int)=c n:=fun n hn=>by
    show(if(n:Int)<6 then c (toNat (n:Int)) else _)=_
    rw[X6 (c:=(n:Int)<6) (Yd.mpr hn),Zg]
   have e1:=iD (E:=E) (sg:=sg) (x:=x) (y:=x1) l j (fun i hi=>by rw[xl i (Iq i hi),p1 i (Iq i hi)]) fun n g1 g2=>by
    show(if n<6 then _ else if n<6+((j+l.nodes:Nat):Int) then x1 n else _)=_
    rw[X5 (YI.mpr (Y' (Z2 (N3 _)) g1)),X6 g2]
   have e2:=iD (E:=E) (sg:=sg) (x:=x) (y:=x2) r (j+l.nodes) (fun i hi=>by rw[xl i (TB i hi),p2 i (TB i hi)]) fun n g1 g2=>by
    show(if n<6 then _ else if n<6+((j+l.nodes:Nat):Int) then x1 n else if n<6+((j+l.nodes+r.nodes:Nat):Int) then x2 n else v)=_
    rw[X5 (YI.mpr (Y' (Z2 (N3 _)) g1)),X5 (YI.mpr g1),X6 g2]
   have e3:x (bh (.node k l r) j)=v:=by
    rw[show bh (.node k l r) j=6+((j+l.nodes+r.nodes:Nat):Int) from rfl]
    show(if 6+((j+l.nodes+r.nodes:Nat):Int)<6 then _ else if 6+((j+l.nodes+r.nodes:Nat):Int)<6+((j+l.nodes:Nat):Int) then _ else if 6+((j+l.nodes+r.nodes:Nat):Int)<6+((j+l.nodes+r.nodes:Nat):Int) then _ else v)=v
    rw[X5 (YI.mpr (Z2 (N3 _))),X5 (YI.mpr (Qs (Yl ..))),X5 (aaj _)]
   refine⟨x,xl,g7.mpr ⟨⟨e1.1.mpr q1,e2.1.mpr q2⟩,?_⟩,e3⟩
   rw[e3,e1.2,e2.2,r1,r2]
   exact hv
  rcases hk k (by simp[Cl.aw]) with rfl | rfl
  ·simp only[X5 h0] at main
   have k:=Tz _ _ _ _ v h
   exact main v v k.1 k.2 ⟨rfl,rfl⟩
  ·simp only[X6 h1] at main
   obtain⟨a,b,ha,hb,hv⟩:=TA _ _ _ _ v h
   exact main a b ha hb hv
theorem mu{x:Int→Bool}:∀(T:Cl) (j:Nat),(∀i∈T.aq,x (i:Int)=true)→cZ E x (aG sg T j) j→(∀n:Int,6+(j:Int)≤n→n<6+((j+T.nodes:Nat):Int)→x n=true)∧x (bh T j)=true
 | .leaf i,j,h,_=> ⟨fun n h1 h2=>absurd h2 (YI.mpr h1),h i (by simp[Cl.aq])⟩
 | .node k l r,j,h,hh=>by
  obtain⟨⟨hl,hr⟩,hn⟩:=g7.mp hh
  obtain⟨a1,a2⟩:=mu l j (fun i hi=>h i (by simp[Cl.aq,hi])) hl
  obtain⟨b1,b2⟩:=mu r (j+l.nodes) (fun i hi=>h i (by simp[Cl.aq,hi])) hr
  have z':x (bh (.node k l r) j)=true:=by
   split at hn
   ·rcases hn with hn | hn
    ·rw[hn,a2]
    ·rw[hn,b2]
   ·rw[hn.1,a2]
  refine⟨fun n h1 h2=>?_,z'⟩
  simp only[Cl.nodes] at h2
  by_cases c1:n<6+((j+l.nodes:Nat):Int)
  ·exact a1 n h1 c1
  ·by_cases c2:n<6+((j+l.nodes+r.nodes:Nat):Int)
   ·exact b1 n (YI.mp c1) c2
   ·have:n=bh (.node k l r) j:=by simp only[bh];omega
    rw[this];exact z'
end
end
end
section
section
theorem Bq:∀q,q<45→Fg.testBit q=true:=by decide+kernel
theorem yf{q:Nat}(hq:q<45):∀T:Cl,((sM T).1.testBit q,(sM T).2.testBit q)=sB (fun i=> (wl.getD i 0).testBit q) T
 | .leaf i=>by
  show((Fg ^^^ wl.getD i 0).testBit q,(wl.getD i 0).testBit q)=(!(wl.getD i 0).testBit q,(wl.getD i 0).testBit q)
  rw[Nat.testBit_xor,Bq q hq]
  simp
 | .node k l r=>by
  have h1:=yf hq l
  have h2:=yf hq r
  rw[sB,← h1,← h2,sM]
  by_cases hk:k=1
  ·simp only[X6 hk,abt,Nat.testBit_or]
  ·simp only[X5 hk,abt]
theorem wq(x:Nat):∀m,qv x m<2 ^ m
 | 0=>by simp[qv]
 | m+1=>by
  have:=wq x m
  rw[qv,abX]
  split <;> omega
theorem sN(x:Nat):∀n m,m<n→(qv x n).testBit m=decide (x / 8 ^ m % 8=0)
 | 0,m,h=>by omega
 | n+1,m,h=>by
  rw[qv]
  have dK:=wq x n
  by_cases hm:m=n
  ·subst hm
   by_cases hc:x / 8 ^ m % 8=0
   ·rw[X6 hc,Nat.testBit_two_pow_add_eq,Nat.testBit_lt_two_pow dK,Yw hc];rfl
   ·rw[X5 hc,YQ,Nat.testBit_lt_two_pow dK,Yk hc]
  ·have ih:=sN x n m (by omega)
   by_cases hc:x / 8 ^ n % 8=0
   ·rw[X6 hc,Nat.testBit_two_pow_add_gt (by omega),ih]
   ·rw[X5 hc,YQ,ih]
theorem TC(x m:Nat):x / 8 ^ m % 8=0↔∀j,j<3→x.testBit (3*m+j)=false:=by
 have e:(8:Nat) ^ m=2 ^ (3*m):=by rw[Nat.pow_mul]
 have hb:∀j,x.testBit (3*m+j)=(x / 8 ^ m).testBit j:=fun j=>by rw[e,Nat.testBit_div_two_pow,ZU]
 have hd:∀y:Nat,y % 8=0↔y.testBit 0=false∧y.testBit 1=false∧y.testBit 2=false:=by
  intro y
  have b:∀j,j<3→(y % 8).testBit j=y.testBit j:=fun j hj=>by rw[show 8=2 ^ 3 from rfl,Nat.testBit_mod_two_pow,Yw hj,Bool.true_and]
  rw[← b 0 (by decide),← b 1 (by decide),← b 2 (by decide)]
  exact(by decide:∀r:Nat,r<8→(r=0↔r.testBit 0=false∧r.testBit 1=false∧r.testBit 2=false)) _ (aal _ (by decide))
 rw[hd]
 constructor
 ·rintro⟨h0,h1,h2⟩ j hj
  rw[hb]
  match j,hj with
  | 0,_=>exact h0
  | 1,_=>exact h1
  | 2,_=>exact h2
 ·intro h
  exact⟨by rw[← hb];exact h 0 (by omega),by rw[← hb];exact h 1 (by omega),by rw[← hb];exact h 2 (by omega)⟩
noncomputable def g8(q i:Nat):Bool:=(wl.getD i 0).testBit q
theorem MG{m:Nat}(hm:m<15):(hM T).testBit m=true↔∀j,j<3→sB (g8 (3*m+j)) T=(false,false):=by
 unfold hM
 rw[sN _ 15 m hm,Yq,TC]
 have:∀j,j<3→((((sM T).1|||(sM T).2).testBit (3*m+j)=false)↔sB (g8 (3*m+j)) T=(false,false)):=by
  intro j hj
  have h:=yf (q:=3*m+j) (by omega) T
  have h':sB (g8 (3*m+j)) T=((sM T).1.testBit (3*m+j),(sM T).2.testBit (3*m+j)):=h.symm
  rw[h',Nat.testBit_or]
  simp
 exact⟨fun h j hj=> (this j hj).mp (h j hj),fun h j hj=> (this j hj).mpr (h j hj)⟩
theorem lu{c d:Nat→Bool}:∀T:Cl,(∀i∈T.aq,c i=d i)→sB c T=sB d T
 | .leaf i,h=>by rw[sB,sB,h i (by simp[Cl.aq])]
 | .node k l r,h=>by rw[sB,sB,lu l fun i hi=>h i (by simp[Cl.aq,hi]),lu r fun i hi=>h i (by simp[Cl.aq,hi])]
theorem uq(c:Nat→Bool):∀T:Cl,sB (fun i=>!c i) T=((sB c T).2,(sB c T).1)
 | .leaf i=>by rw[sB,sB];simp
 | .node k l r=>by
  rw[sB,uq c l,uq c r,sB]
  by_cases hk:k=1
  ·simp only[X6 hk]
   rw[Bool.or_comm (sB c l).2 (sB c l).1,Bool.or_comm (sB c r).2 (sB c r).1]
  ·simp only[X5 hk]
noncomputable def j0(m i:Nat):Nat:=(Fe.getD m []).getD i 9
theorem Iy:∀m,m<15→∀i,i<6→j0 m i<6∧j0 m i≠i:=by decide+kernel
theorem TD:∀m,m<15→∀j,j<3→(∀i,i<6→g8 (3*m+j) i=g8 (3*m+j) (j0 m i))∧∃i,i<6∧g8 (3*m+j) i≠g8 (3*m+j) 1:=by decide+kernel
theorem TE:∀m,m<15→∀b0 b1 b2 b3 b4 b5:Bool,(∀i,i<6→[b0,b1,b2,b3,b4,b5].getD i false=[b0,b1,b2,b3,b4,b5].getD (j0 m i) false)→(∃i,i<6∧[b0,b1,b2,b3,b4,b5].getD i false≠[b0,b1,b2,b3,b4,b5].getD 1 false)→
  ∃j,j<3∧((∀i,i<6→[b0,b1,b2,b3,b4,b5].getD i false=g8 (3*m+j) i)∨∀i,i<6→[b0,b1,b2,b3,b4,b5].getD i false=!g8 (3*m+j) i):=by decide+kernel
theorem MH{m:Nat}(hm:m<15){c:Nat→Bool}(h1:∀i,i<6→c i=c (j0 m i))(h2:∃i,i<6∧c i≠c 1):∃j,j<3∧((∀i,i<6→c i=g8 (3*m+j) i)∨∀i,i<6→c i=!g8 (3*m+j) i):=by
 have e:∀i,i<6→[c 0,c 1,c 2,c 3,c 4,c 5].getD i false=c i:=by
  intro i hi
  match i,hi with
  | 0,_=>rfl
  | 1,_=>rfl
  | 2,_=>rfl
  | 3,_=>rfl
  | 4,_=>rfl
  | 5,_=>rfl
 obtain⟨j,hj,h⟩:=TE m hm (c 0) (c 1) (c 2) (c 3) (c 4) (c 5) (fun i hi=>by rw[e i hi,e _ (Iy m hm i hi).1];exact h1 i hi) (by
  obtain⟨i,hi,fY⟩:=h2
  exact⟨i,hi,by rw[e i hi,e 1 (by omega)];exact fY⟩)
 refine⟨j,hj,?_⟩
 rcases h with h | h
 ·exact .inl fun i hi=>by rw[← e i hi];exact h i hi
 ·exact .inr fun i hi=>by rw[← e i hi];exact h i hi
end
end
section
section
noncomputable def dW(l:List Lk):List Int:=l.flatMap fun t=>[t.2.1,t.2.2]
theorem lx(a b:List Lk):dW (a++b)=dW a++dW b:=by unfold dW;rw[aae]
theorem TF{P Q x y z L R I i i':Nat}(h1:P+x≤L+i)(h2:Q+y≤R+i')(hi:i+i'+z≤I):P+Q+(x+y)+z≤L+R+I:=by
 have e:=ZQ h1 h2
 rw[Nat.add_add_add_comm P x Q y,Nat.add_add_add_comm L i R i'] at e
 exact E2 (Z7 e z) (YW (L+R) (i+i') z▸Yo hi (L+R))
theorem Xc{a b c v:Int}(h1:a≤b)(h2:b≤c):(if a≤v∧v<b then 1 else 0)+(if b≤v∧v<c then 1 else 0)+(if v=c then 1 else 0)≤(if a≤v∧v<c+1 then 1 else 0:Nat):=by
 by_cases k:a≤v∧v<c+1
 ·rw[X6 k]
  by_cases c1:v<b
  ·rw[X5 (c:=b≤v∧v<c) fun h=>YI.mpr h.1 c1,X5 (c:=v=c) fun h=>YI.mpr h2 (h▸c1)]
   split <;> decide
  ·rw[X5 fun h=>c1 h.2]
   by_cases c2:v=c
   ·rw[X6 c2,X5 fun h=>Int.ne_of_lt h.2 c2];decide
   ·rw[X5 c2];split <;> decide
 ·rw[X5 (c:=a≤v∧v<b) fun h=>k ⟨h.1,YT (Zb h.2 h2) (lt_succ c)⟩,X5 fun h=>k ⟨Y' h1 h.1,YT h.2 (lt_succ c)⟩,X5 (c:=v=c) fun h=>k ⟨h.symm▸Y' h1 h2,h.symm▸lt_succ c⟩]
  exact YK _
theorem jt(sg:Nat→Int)(v:Int):∀(T:Cl) (j:Nat),(dW (aG sg T j)).count v+(if v=bh T j then 1 else 0)≤(T.aq.map fun n:Nat=> (n:Int)).count v+(if 6+(j:Int)≤v∧v<6+((j+T.nodes:Nat):Int) then 1 else 0)
 | .leaf i,j=>by
  have hr:bh (.leaf i) j=(i:Int):=rfl
  rw[hr]
  simp only[aG,dW,List.flatMap_nil,abB,Cl.aq,Ye,aaM,Za,YQ]
  by_cases h:v=(i:Int)
  ·rw[X6 h,X6 (by simpa using h.symm)];omega
  ·rw[X5 h];omega
 | .node k l r,j=>by
  have h1:=jt sg v l j
  have h2:=jt sg v r (j+l.nodes)
  have e:(dW (aG sg (.node k l r) j)).count v=(dW (aG sg l j)).count v+(dW (aG sg r (j+l.nodes))).count v+((if v=bh l j then 1 else 0)+if v=bh r (j+l.nodes) then 1 else 0):=by
   rw[aG,lx,lx,Zj,Zj]
   congr 1
   show [bh l j,bh r (j+l.nodes)].count v=_
   rw[Za,Za,abB,YQ,ZU]
   congr 1
   ·by_cases h:v=bh l j
    ·rw[X6 h,X6 (by simpa using h.symm)]
    ·rw[X5 h,X5 (by simpa using fun e=>h e.symm)]
   ·by_cases h:v=bh r (j+l.nodes)
    ·rw[X6 h,X6 (by simpa using h.symm)]
    ·rw[X5 h,X5 (by simpa using fun e=>h e.symm)]
  rw[e]
  have O7:(Cl.node k l r).nodes=l.nodes+r.nodes+1:=rfl
  have Xd:(Cl.node k l r).aq=l.aq++r.aq:=rfl
  rw[O7,Xd,N9,Zj]
  have hr:bh (.node k l r) j=6+((j+l.nodes+r.nodes:Nat):Int):=rfl
  rw[hr]
  have e:6+((j+(l.nodes+r.nodes+1):Nat):Int)=6+((j+l.nodes+r.nodes:Nat):Int)+1:=by
   rw[show j+(l.nodes+r.nodes+1)=j+l.nodes+r.nodes+1 from E8 (· +1) (YW ..).symm]
   exact(Int.add_assoc 6 (j+l.nodes+r.nodes:Nat) 1).symm
  rw[e]
  exact TF h1 h2 (Xc (Y0 (YH.mpr (Yl ..)) 6) (Y0 (YH.mpr (Yl ..)) 6))
theorem kC(E v:Int):∀(l:List Lk) (k p:Nat),((aU E l k++bz E l k p).map fun e=>e.2).count v≤(dW l).count v
 | [],k,p=>by simp[aU,bz]
 | t::r,k,p=>by
  have e:(dW (t::r)).count v=[t.2.1,t.2.2].count v+(dW r).count v:=by
   rw[show dW (t::r)=[t.2.1,t.2.2]++dW r from rfl,Zj]
  rw[e,aU,bz,N9,Zj]
  by_cases h:t.1=E
  ·have ih:=kC E v r (k+1) (p / 2)
   rw[N9,Zj] at ih
   rw[X6 h,X5 (by simpa using h),Zu,Ye,Za]
   have hc:(if(if p % 2=0 then t.2.1 else t.2.2)==v then 1 else 0)≤[t.2.1,t.2.2].count v:=by
    rw[Za,Za,abB]
    by_cases hp:p % 2=0
    ·rw[X6 hp];split <;> omega
    ·rw[X5 hp];split <;> omega
   simp only
   omega
  ·have ih:=kC E v r (k+1) p
   rw[N9,Zj] at ih
   rw[X5 h,X6 h,N9,Zj]
   have hc:((([(6+(k:Int),t.2.1),(6+(k:Int),t.2.2)]:List (Int×Int)).map fun e=>e.2).count v)=[t.2.1,t.2.2].count v:=rfl
   rw[hc]
   omega
theorem g9{sg:Nat→Int}:∀(T:Cl) (j i:Nat) (t:Lk),(∀i∈T.aq,i<6)→(aG sg T j)[i]? =some t→(0≤t.2.1∧t.2.1<6+((j+i:Nat):Int))∧0≤t.2.2∧t.2.2<6+((j+i:Nat):Int)
 | .leaf _,j,i,t,_,h=>by simp[aG] at h
 | .node k l r,j,i,t,hl,h=>by
  have Qt:∀(c:Cl) (j:Nat),(∀i∈c.aq,i<6)→0≤bh c j∧bh c j<6+((j+c.nodes:Nat):Int):=by
   intro c j hc
   cases c with
   | leaf i=>exact⟨N3 i,Zb (Yd.mpr (hc i E6)) (Z2 (N3 _))⟩
   | node k a b=>exact⟨aau (by decide) (N3 _),aaf (Yd.mpr (Y3 (Y4 (j+a.nodes+b.nodes)) (E8 (· +1) (YW j _ _)))) 6⟩
  have BU:∀i∈l.aq,i<6:=fun i h=>hl i (by simp[Cl.aq,h])
  have Na:∀i∈r.aq,i<6:=fun i h=>hl i (by simp[Cl.aq,h])
  rw[aG,List.getElem?_append,N8,bQ,bQ] at h
  split at h
  ·rename_i hi
   rw[List.getElem?_append,bQ] at h
   split at h
   ·exact g9 l j i t BU h
   ·have:=g9 r (j+l.nodes) (i - l.nodes) t Na h
    rw[YW,abw (YZ ‹_›)] at this
    exact this
  ·rename_i hi
   have hx:i - (l.nodes+r.nodes)=0:=by
    cases hz:i - (l.nodes+r.nodes) with
    | zero=>rfl
    | succ z=>rw[hz] at h;simp at h
   rw[hx] at h
   simp only[List.getElem?_cons_zero,abL] at h
   subst h
   have h1:=Qt l j BU
   have h2:=Qt r (j+l.nodes) Na
   have I9:=YZ hi
   exact⟨⟨h1.1,Zb h1.2 (Y0 (YH.mpr (Yo (E2 (Yl ..) I9) j)) 6)⟩,h2.1,Zb h2.2 (Y0 (YH.mpr (YW j _ _▸Yo I9 j)) 6)⟩
theorem gu(sg:Nat→Int):∀(T:Cl) (j:Nat),(aG sg T j).map (fun t=>t.1)=T.aw.map sg
 | .leaf _,_=>rfl
 | .node k l r,j=>by simp only[aG,N9,gu sg l,gu sg r,Cl.aw,Ye,aaM]
theorem Aa(E:Int):∀(l:List Lk) (k:Nat),∀e∈aU E l k,6+(k:Int)≤e.1
 | [],k,e,h=>by simp[aU] at h
 | t::r,k,e,h=>by
  rw[aU] at h
  rcases Yf.mp h with h | h
  ·split at h
   ·simp only[J0,Y5,aaL] at h
    rcases h with rfl | rfl <;> exact abd _
   ·simp at h
  ·exact Y' (Y0 (YH.mpr (ZD k)) 6) (Aa E r (k+1) e h)
theorem mw(E:Int):∀(l:List Lk) (k p:Nat),∀e∈bz E l k p,6+(k:Int)≤e.1
 | [],k,p,e,h=>by simp[bz] at h
 | t::r,k,p,e,h=>by
  rw[bz] at h
  split at h
  ·rcases J0.mp h with rfl | h
   ·exact abd _
   ·exact Y' (Y0 (YH.mpr (ZD k)) 6) (mw E r (k+1) (p / 2) e h)
  ·exact Y' (Y0 (YH.mpr (ZD k)) 6) (mw E r (k+1) p e h)
theorem ur(E:Int):∀(l:List Lk) (k p:Nat),(∀i t,l[i]? =some t→(0≤t.2.1∧t.2.1<6+((k+i:Nat):Int))∧0≤t.2.2∧t.2.2<6+((k+i:Nat):Int))→∀e∈aU E l k++bz E l k p,e.2<e.1
 | [],k,p,_,e,h=>by simp[aU,bz] at h
 | t::r,k,p,ho,e,h=>by
  have h0:=ho 0 t rfl
  rw[aat] at h0
  have ht:∀i t,r[i]? =some t→(0≤t.2.1∧t.2.1<6+((k+1+i:Nat):Int))∧0≤t.2.2∧t.2.2<6+((k+1+i:Nat):Int):=fun i t' h'=>by
   have:=ho (i+1) t' (by simpa using h')
   rw[abW k i];exact this
  rw[aU,bz] at h
  by_cases hc:t.1=E
  ·rw[X6 hc,X5 (by simpa using hc),Zu] at h
   have ih:=ur E r (k+1) (p / 2) ht e
   rcases Yf.mp h with h | h
   ·exact ih (Yn _ h)
   ·rcases J0.mp h with rfl | h
    ·show(if _ then _ else _)<_;split;exact h0.1.2;exact h0.2.2
    ·exact ih (YL _ h)
  ·rw[X5 hc,X6 hc] at h
   have ih:=ur E r (k+1) p ht e
   rcases Yf.mp h with h | h
   ·rcases Yf.mp h with h | h
    ·simp only[J0,Y5,aaL] at h
     rcases h with rfl | rfl;exact h0.1.2;exact h0.2.2
    ·exact ih (Yn _ h)
   ·exact ih (YL _ h)
theorem ut{l:List (Int×Int)}(h:(l.map fun e=>e.2).Nodup):l.Nodup:=by
 rw[ZZ] at h ⊢
 rw[abH] at h
 exact h.imp fun fY e=>fY (by rw[e])
structure Fj(m:Nat)(gK:List (Int×Int)):Prop where
 lt:∀e∈gK,(0≤e.1∧e.1<6)∧0≤e.2∧e.2<6
 mt:∀e∈gK,j0 m e.1.toNat=e.2.toNat
 all:∀i:Nat,i<6→((i:Int),(j0 m i:Int))∈gK∨((j0 m i:Int),(i:Int))∈gK
 nd:(gK.map un).Nodup
 ne:∀e∈gK,e.1≠e.2
theorem yg{E:Int}{sg:Nat→Int}{T:Cl}{m p:Nat}{gK:List (Int×Int)}(M:Fj m gK)(hn:T.aq.Nodup)(hl:∀i∈T.aq,i<6):qn (gK++aU E (aG sg T 0) 0++bz E (aG sg T 0) 0 p):=by
 have dK:=ur E (aG sg T 0) 0 p (fun i t h=>by have:=g9 T 0 i t hl h;exact this)
 rw[Yc]
 refine sH ?_ ?_
 ·rw[N9,aa1]
  have Xe:(aU E (aG sg T 0) 0++bz E (aG sg T 0) 0 p).map un=aU E (aG sg T 0) 0++bz E (aG sg T 0) 0 p:=by
   have:∀l:List (Int×Int),(∀e∈l,e.2<e.1)→l.map un=l:=by
    intro l
    induction l with
    | nil=>intro _;rfl
    | cons e l ih=>
     intro h
     have h1:=h e E6
     rw[Ye,ih fun e he=>h e (E4 _ he)]
     unfold un
     rw[X5 (by omega)]
   exact this _ dK
  rw[Xe]
  refine⟨M.nd,ut ?_,?_⟩
  ·rw[List.nodup_iff_count]
   intro v
   have h1:=kC E v (aG sg T 0) 0 p
   have h2:=jt sg v T 0
   have h3:(T.aq.map fun n:Nat=> (n:Int)).count v+(if 6+((0:Nat):Int)≤v∧v<6+((0+T.nodes:Nat):Int) then 1 else 0)≤1:=by
    by_cases hv:v<6
    ·rw[X5 (by omega)]
     have:(T.aq.map fun n:Nat=> (n:Int)).Nodup:=by
      rw[ZZ,abH]
      rw[ZZ] at hn
      exact hn.imp fun fY e=>fY (by omega)
     have:=List.nodup_iff_count.mp this v
     omega
    ·have:(T.aq.map fun n:Nat=> (n:Int)).count v=0:=by
      rw[List.count_eq_zero]
      intro hm
      obtain⟨n,hn,rfl⟩:=N5.mp hm
      have:=hl n hn
      omega
     rw[this]
     split <;> omega
   omega
  ·intro a ha b hb
   rintro rfl
   obtain⟨e,he,rfl⟩:=N5.mp ha
   have MI:=M.lt e he
   have h6:6≤(un e).1:=by
    rcases Yf.mp hb with h | h
    ·have:=Aa E _ 0 _ h;omega
    ·have:=mw E _ 0 p _ h;omega
   unfold un at h6
   split at h6 <;> (try simp only at h6) <;> omega
 ·intro e he
  rcases Yf.mp he with h | h
  ·exact M.ne e h
  ·have:=dK e h;omega
end
end
section
section
theorem sO{sg:Nat→Int}{E:Int}(h0:sg 0≠E)(h1:sg 1=E):∀l:List Nat,(∀k∈l,k=0∨k=1)→(l.map sg).countP (fun x=>decide (x=E))=l.count 1
 | [],_=>rfl
 | k::l,h=>by
  have ih:=sO h0 h1 l fun k hk=>h k (E4 _ hk)
  rw[Ye,List.countP_cons,Za,ih]
  rcases h k E6 with rfl | rfl
  ·rw[X5 (by simpa using h0),X5 (by decide)]
  ·rw[X6 (by simpa using h1),X6 (by decide)]
theorem Fk{E:Int}{sg:Nat→Int}{T:Cl}{m:Nat}{gK:List (Int×Int)}(hm:m<15)(h0:sg 0≠E)(h1:sg 1=E)(M:Fj m gK)(hT:T.aq=List.range 6)(hk:∀k∈T.aw,k=0∨k=1)(hn:T.nodes=5)(h3:T.aw.count 1=3):
  gE (aG sg T 0) gK E=(hM T).testBit m:=by
 have Nc:∀i∈T.aq,i<6:=by rw[hT];intro i hi;exact Ya.mp hi
 have KJ:T.aq.Nodup:=by rw[hT];decide
 have b6:(aG sg T 0).length=5:=by rw[bQ,hn]
 have DI:qp 0 (aG sg T 0):=⟨by rw[b6];decide,fun i t h=>g9 T 0 i t Nc h⟩
 have Tw:∀e∈gK,gF e:=fun e he=> ⟨(M.lt e he).1.1,YT (M.lt e he).1.2 (by decide),(M.lt e he).2.1,YT (M.lt e he).2.2 (by decide)⟩
 have TH:((aG sg T 0).countP fun t=>decide (t.1=E))=3:=by
  have e1:((aG sg T 0).countP fun t=>decide (t.1=E))=((aG sg T 0).map fun t=>t.1).countP fun x=>decide (x=E):=by rw[aaE];rfl
  rw[e1,gu,sO h0 h1 _ hk,h3]
 have Qu:gE (aG sg T 0) gK E=true↔∀x:Int→Bool,(∀e∈gK,x e.1=x e.2)→cZ E x (aG sg T 0) 0→x 1=true→∀n:Int,0≤n→n<11→x n=true:=by
  unfold gE
  rw[E9]
  have key:∀p,dr (aG sg T 0) (bg (aG sg T 0) gK E) E p=true↔∀x:Int→Bool,(∀e∈gK,x e.1=x e.2)→iP E x (aG sg T 0) 0 p→x 1=true→∀n:Int,0≤n→n<11→x n=true:=by
   intro p
   rw[wg b6 DI Tw (yg M KJ Nc)]
   constructor
   ·intro h x hx hh
    refine h x fun e he=>?_
    rw[Yc] at he
    rcases Yf.mp he with he | he
    ·exact hx e he
    ·exact(jQ _ 0 p).mpr hh e he
   ·intro h x hx
    refine h x (fun e he=>hx e (by rw[Yc];exact Yn _ he)) ((jQ _ 0 p).mp fun e he=>hx e (by rw[Yc];exact YL _ he))
  constructor
  ·intro h x hx hh
   obtain⟨p,hp,Xf⟩:=z_ _ 0 hh
   rw[TH] at hp
   exact(key p).mp (h p (Ya.mpr hp)) x hx Xf
  ·intro h p _
   exact(key p).mpr fun x hx hh=>h x hx (up _ 0 p hh)
 have Br:∀x:Int→Bool,(∀e∈gK,x e.1=x e.2)→∀i:Nat,i<6→x (i:Int)=x (j0 m i:Int):=by
  intro x hx i hi
  rcases M.all i hi with h | h
  ·exact hx _ h
  ·exact(hx _ h).symm
 have none_has:∀(s:Bool×Bool) (v:Bool),s=(false,false)→has s v=true→False:=by
  intro s v hs h
  rw[hs] at h
  cases v <;> cases h
 rw[Zs,Qu,MG hm]
 constructor
 ·intro h j hj
  cases hs:sB (g8 (3*m+j)) T with
  | mk a b=>
  obtain⟨e1,e2⟩:=TD m hm j hj
  have main:∀c:Nat→Bool,(∀i,i<6→c i=c (j0 m i))→(∃i,i<6∧c i≠c 1)→c 1=true→∀v,has (sB c T) v=true→False:=by
   intro c hc fY Vi v hv
   obtain⟨x,x1,x2,x3⟩:=qx h0 h1 c T 0 v Nc hk hv
   obtain⟨i,hi,Xg⟩:=fY
   have ht:=h x (fun e he=>by
    have dK:=M.lt e he
    have Xh:=M.mt e he
    have k:=(Ze dK.1.1).mpr dK.1.2
    have q1:=x1 e.1.toNat k
    have q2:=x1 e.2.toNat ((Ze dK.2.1).mpr dK.2.2)
    rw[Yx dK.1.1] at q1
    rw[Yx dK.2.1] at q2
    rw[q1,q2,hc _ k,Xh]) x2 (by have:=x1 1 (by decide);rw[show((1:Nat):Int)=1 from rfl] at this;rw[this];exact Vi) i (N3 i) (YT (Yd.mpr hi) (by decide))
   rw[x1 i hi] at ht
   exact Xg (by rw[ht,Vi])
  have no:∀v,has (sB (g8 (3*m+j)) T) v=true→False:=by
   intro v hv
   by_cases LZ:g8 (3*m+j) 1=true
   ·exact main _ e1 e2 LZ v hv
   ·have TJ:g8 (3*m+j) 1=false:=by simpa using LZ
    refine main (fun i=>!g8 (3*m+j) i) (fun i hi=>by show(!_)=!_;rw[e1 i hi]) ?_ (by show(!_)=true;rw[TJ];rfl) (!v) ?_
    ·obtain⟨i,hi,fY⟩:=e2
     refine⟨i,hi,fun he=>fY ?_⟩
     have:(!g8 (3*m+j) i)=!g8 (3*m+j) 1:=he
     simpa using this
    ·rw[uq]
     cases v <;> exact hv
  rw[hs] at no
  cases a with
  | true=>exact(no false rfl).elim
  | false=>cases b with
   | true=>exact(no true rfl).elim
   | false=>rfl
 ·intro h x hx hh UV n L7 TK
  have hc:=Br x hx
  by_cases nq:∀i:Nat,i<6→x (i:Int)=true
  ·obtain⟨t1,t2⟩:=mu T 0 (fun i hi=>nq i (Nc i hi)) hh
   by_cases h6:n<6
   ·have:=nq n.toNat ((Ze L7).mpr h6)
    rw[Yx L7] at this
    exact this
   ·exact t1 n (YI.mp h6) (by rw[hn];exact TK)
  ·exfalso
   have fY:∃i,i<6∧x ((i:Nat):Int)≠x ((1:Nat):Int):=by
    by_cases hq:∃i,i<6∧x ((i:Nat):Int)≠x ((1:Nat):Int)
    ·exact hq
    ·exfalso
     refine nq fun i hi=>?_
     by_cases he:x ((i:Nat):Int)=x ((1:Nat):Int)
     ·rw[he];exact UV
     ·exact absurd ⟨i,hi,he⟩ hq
   obtain⟨j,hj,Fl⟩:=MH hm (c:=fun i=>x (i:Int)) hc fY
   have hv:=qw h0 h1 T 0 hk hh
   have Kh:=h j hj
   rcases Fl with Fl | Fl
   ·rw[lu T (d:=g8 (3*m+j)) fun i hi=>Fl i (Nc i hi)] at hv
    exact none_has _ _ Kh hv
   ·rw[lu T (d:=fun i=>!g8 (3*m+j) i) fun i hi=>Fl i (Nc i hi),uq,Kh] at hv
    exact none_has _ _ rfl hv
end
end
section
section
noncomputable def kg:Nat→Nat→Nat→Nat→List (List Nat)
 | 0,_,_,_=>[[]]
 | f+1,a,b,c=> (match a with | 0=>[] | a'+1=> (kg f a' b c).map (97:: ·))++((match b with | 0=>[] | b'+1=> (kg f a b' c).map (98:: ·))++(match c with | 0=>[] | c'+1=> (kg f a b c').map (99:: ·)))
theorem yi(f a b c:Nat):kg (f+1) a b c=(match a with | 0=>[] | a'+1=> (kg f a' b c).map (97:: ·))++((match b with | 0=>[] | b'+1=> (kg f a b' c).map (98:: ·))++(match c with | 0=>[] | c'+1=> (kg f a b c').map (99:: ·))):=rfl
theorem wt:∀(l:List Nat),(∀x∈l,x=97∨x=98∨x=99)→l∈kg l.length (l.count 97) (l.count 98) (l.count 99)
 | [],_=>by simp[kg]
 | x::l,h=>by
  have ih:=wt l fun y hy=>h y (E4 _ hy)
  rw[Yy,yi]
  rcases h x E6 with rfl | rfl | rfl
  ·refine Yn _ ?_
   rw[abu]
   simp only[Za,show((97:Nat)==98)=false from rfl,show((97:Nat)==99)=false from rfl,YD,Y_,aat]
   exact N5.mpr ⟨l,ih,rfl⟩
  ·refine YL _ (Yn _ ?_)
   rw[abu]
   simp only[Za,show((98:Nat)==97)=false from rfl,show((98:Nat)==99)=false from rfl,YD,Y_,aat]
   exact N5.mpr ⟨l,ih,rfl⟩
  ·refine YL _ (YL _ ?_)
   rw[abu]
   simp only[Za,show((99:Nat)==97)=false from rfl,show((99:Nat)==98)=false from rfl,YD,Y_,aat]
   exact N5.mpr ⟨l,ih,rfl⟩
noncomputable def lows:List (List Nat):=kg 6 2 2 2
theorem Fm{l:List Nat}(h:l.Perm [97,97,98,98,99,99]):l∈lows:=by
 have:=wt l fun x hx=>by
  have:=h.mem_iff.mp hx
  simp at this;omega
 rw[h.length_eq,h.count_eq,h.count_eq,h.count_eq] at this
 exact this
section
variable {α β:Type}
theorem Fo(f:α→β)(key:β→Int)(l:List α)(x:α):eA key (l.map f) (f x)=(eA (fun y=>key (f y)) l x).map f:=by
 unfold eA
 rw[aaE,N9,Ye,Y8,Y9]
 rfl
theorem yj{k1 k2:α→Int}{l:List α}{x:α}(h:∀y∈l,(k1 y<k1 x↔k2 y<k2 x)):eA k1 l x=eA k2 l x:=by
 unfold eA
 have:l.countP (fun y=>decide (k1 y<k1 x))=l.countP fun y=>decide (k2 y<k2 x):=abN fun y hy=>by simpa using h y hy
 rw[this]
end
noncomputable def g_(key:Nat→Int)(n:Nat):List Nat:=(List.range n).foldl (eA key) []
theorem jR(key:Nat→Int)(n:Nat):g_ key (n+1)=eA key (g_ key n) n:=by
 unfold g_
 rw[ab2,ZL]
 rfl
theorem oi(key:Nat→Int):∀n,∀i∈g_ key n,i<n
 | 0,i,h=>by simp[g_] at h
 | n+1,i,h=>by
  rw[jR] at h
  unfold eA at h
  rcases Yf.mp h with h | h
  ·have:=oi key n i (ZI h);omega
  ·rcases J0.mp h with rfl | h
   ·omega
   ·have:=oi key n i (Zq h);omega
theorem kD{k1 k2:Nat→Int}(h:∀i,i<6→∀j,j<6→(k1 i<k1 j↔k2 i<k2 j)):∀n,n≤6→g_ k1 n=g_ k2 n
 | 0,_=>rfl
 | n+1,hn=>by
  rw[jR,jR,kD h n (by omega)]
  exact yj fun y hy=>h y (by have:=oi k2 n y hy;omega) n (by omega)
theorem sP{hs:List Int}{lv:List Nat}(h1:hs.length=6)(h2:lv.length=6):∀n,n≤6→bX hs lv n=(g_ (fun i=>hs.getD i 0) n).map fun i=> (hs.getD i 0,lv.getD i 0)
 | 0,_=>rfl
 | n+1,hn=>by
  have hz:(hs.zip lv)[n]? =some (hs.getD n 0,lv.getD n 0):=by
   rw[List.getElem?_zip_eq_some]
   rw[getD_at (by omega),getD_at (by omega)]
   exact⟨N6 _,N6 _⟩
  rw[jP hz,jR,sP h1 h2 n (by omega)]
  exact Fo (fun i=> (hs.getD i 0,lv.getD i 0)) d6 _ n
noncomputable def yk(lv:List Nat)(l:List Nat):Bool:=[97,98,99].any fun d=>l.countP (fun i=>decide (al (lv.getD i 0)=d))==1
noncomputable def kE(key:Nat→Int)(lv:List Nat)(R:List Nat)(a b:Nat):List Bool:=
 [yk lv (((R++R).take (R.countP fun i=>decide (key i<key b))).drop (R.countP fun i=>decide (key i≤key a))),yk lv (((R++R).take (6+R.countP fun i=>decide (key i<key a))).drop (R.countP fun i=>decide (key i≤key b)))]
noncomputable def kF(key:Nat→Int)(lv:List Nat)(p:Int×Int):List Bool:=
 if key p.1.toNat≤key p.2.toNat then kE key lv (g_ key 6) p.1.toNat p.2.toNat else kE key lv (g_ key 6) p.2.toNat p.1.toNat
theorem wu(hs:List Int)(lv:List Nat)(l:List Nat):fb (l.map fun i=> (hs.getD i 0,lv.getD i 0))=yk lv l:=by
 unfold fb yk
 congr 1
 funext d
 rw[aaE]
 rfl
theorem Bs{hs:List Int}{lv:List Nat}(h1:hs.length=6)(h2:lv.length=6)(p:Int×Int):bM (bX hs lv 6) hs p=kF (fun i=>hs.getD i 0) lv p:=by
 unfold bM kF a9
 rw[sP h1 h2 6 (N1 _)]
 generalize g_ (fun i=>hs.getD i 0) 6=R
 have I9:∀t:Int,F_ (R.map fun i=> (hs.getD i 0,lv.getD i 0)) t=R.countP fun i=>decide (hs.getD i 0≤t):=fun t=>by unfold F_;rw[aaE];rfl
 have dK:∀t:Int,re (R.map fun i=> (hs.getD i 0,lv.getD i 0)) t=R.countP fun i=>decide (hs.getD i 0<t):=fun t=>by unfold re;rw[aaE];rfl
 have hw:∀a b:Nat,[fb (dT (R.map fun i=> (hs.getD i 0,lv.getD i 0)) (hs.getD a 0) (hs.getD b 0)),fb (dU (R.map fun i=> (hs.getD i 0,lv.getD i 0)) (hs.getD a 0) (hs.getD b 0))]=kE (fun i=>hs.getD i 0) lv R a b:=by
  intro a b
  unfold dT dU kE
  rw[I9,I9,dK,dK,← N9,← Y8,← Y9,← Y8,← Y9,wu,wu]
 by_cases hc:hs.getD p.1.toNat 0≤hs.getD p.2.toNat 0
 ·rw[X6 hc,X6 hc]
  exact hw _ _
 ·rw[X5 hc,X5 hc]
  exact hw _ _
theorem uu{k1 k2:Nat→Int}{l1 l2:List Nat}(h:∀i,i<6→∀j,j<6→(k1 i<k1 j↔k2 i<k2 j))(hl:∀i,al (l1.getD i 0)=al (l2.getD i 0)){p:Int×Int}(hp:(0≤p.1∧p.1<6)∧0≤p.2∧p.2<6):kF k1 l1 p=kF k2 l2 p:=by
 have hR:g_ k1 6=g_ k2 6:=kD h 6 (N1 _)
 have MI:=oi k2 6
 have h':∀i,i<6→∀j,j<6→(k1 i≤k1 j↔k2 i≤k2 j):=fun i hi j hj=>by
  have:=h j hj i hi;omega
 have ho:yk l1=yk l2:=by
  funext l
  unfold yk
  congr 1
  funext d
  congr 2
  funext i
  rw[hl i]
 have hX:∀a,a<6→∀b,b<6→kE k1 l1 (g_ k1 6) a b=kE k2 l2 (g_ k2 6) a b:=by
  intro a ha b hb
  rw[hR]
  unfold kE
  have c1:∀j,j<6→(g_ k2 6).countP (fun i=>decide (k1 i<k1 j))=(g_ k2 6).countP fun i=>decide (k2 i<k2 j):=fun j hj=>abN fun i hi=>by simpa using h i (MI i hi) j hj
  have c2:∀j,j<6→(g_ k2 6).countP (fun i=>decide (k1 i≤k1 j))=(g_ k2 6).countP fun i=>decide (k2 i≤k2 j):=fun j hj=>abN fun i hi=>by simpa using h' i (MI i hi) j hj
  rw[c1 b hb,c2 a ha,c1 a ha,c2 b hb,ho]
 unfold kF
 have hc:=h' p.1.toNat (by omega) p.2.toNat (by omega)
 by_cases h1:k1 p.1.toNat≤k1 p.2.toNat
 ·rw[X6 h1,X6 (hc.mp h1)]
  exact hX _ (by omega) _ (by omega)
 ·rw[X5 h1,X5 (fun h2=>h1 (hc.mpr h2))]
  exact hX _ (by omega) _ (by omega)
noncomputable def Ab(q i:Nat):Int:=((i+(6 - q)) % 6:Nat)
theorem ym(X:Nat):∃q,q<6∧∀i,i<6→∀j,j<6→((cC X 6).getD i 0<(cC X 6).getD j 0↔Ab q i<Ab q j):=by
 have hg:∀i,i<6→(cC X 6).getD i 0=(((X % 64+i*(1+X / 64 % 10)) % 64:Nat):Int):=fun i hi=>by
  unfold cC bF
  rw[N4,Yi,aac hi]
  rfl
 have key:∀h,h<64→∀d,d<10→∃q,q<6∧∀i,i<6→∀j,j<6→((h+i*(1+d)) % 64<(h+j*(1+d)) % 64↔(i+(6 - q)) % 6<(j+(6 - q)) % 6):=by decide+kernel
 obtain⟨q,hq,h⟩:=key (X % 64) (aal _ (by decide)) (X / 64 % 10) (aal _ (by decide))
 refine⟨q,hq,fun i hi j hj=>?_⟩
 rw[hg i hi,hg j hj]
 exact Yd.trans ((h i hi j hj).trans Yd.symm)
end
end
section
section
noncomputable def Qv(y:Lay):Cx:=JS y [("script",.cell),("cells",.local),("claim",.local),("joints",.local),("names",.local),("kinds",.local),("told",.cell),("both",.cell),("either",.cell),("pile",.local),("leaves",.local),("links",.local),("pairs",.local),("hues",.local),("crossed",.local),("right",.local)] [("script",.cell,10),("told",.cell,11),("both",.cell,12),("either",.cell,13)] [9,23,3,26,24,5,27,29,30,28,25] true
noncomputable def Ki(y:Lay):Cx:=⟨[(".0",.local),("k",.local),("base",.local),("sum",.globalImplicit),("script",.free)],[".0","k","base"],[("script",.free,10)],[2],GX y,30,false,[]⟩
noncomputable def Qw(y:Lay):Cx:=cx y [".0","x"] [] [] false
noncomputable def Fp(y:Lay)(g:Gd):LC ⟨Ki y,g⟩:=⟨Qw y,fun g=> (.n (.loc 1) 366 41),fun g=>[],fun g=> (.mod (.lo 1 366 25) (.pow (.nt 10 366 29) (.nt 6 366 35))),[],rfl,rfl,fun O=>rfl,fun O=>rfl,fun O=>rfl⟩
noncomputable def Fq(y:Lay)(g:Gd):LC ⟨Qv y,g⟩:=⟨Ki y,fun g=> (.xy [(.n (.loc 1) 366 70),(.n (.loc 2) 366 73)]),fun g=>[],fun g=> (.add (.lo 2 366 13) (.cl 2 366 20 [(.lc (Fp y g) (.of (.get (.get (.ce 0 366 46) (.fx .none (some (.nt 60 366 54)) .none)) (.fx (some (.lo 1 366 58)) .none (some (.nt 7 366 61)) (q 366 58 62)))) (q 366 24 64))])),[],rfl,rfl,fun O=>rfl,fun O=>rfl,fun O=>by kernel_rfl!⟩
noncomputable def Qx(y:Lay):Cx:=cx y [".0","kind"] [("both",.free,12),("either",.free,13),("told",.free,11)] [] false
noncomputable def Fs(y:Lay)(g:Gd):LC ⟨Qv y,g⟩:=⟨Qx y,fun g=> (.n (.loc 1) 372 98),fun g=>[],fun g=> (.get (.ce 2 372 63) (.y6 (.lo 1 372 78) (.ce 1 372 68) (.ce 0 372 88))),[],rfl,rfl,fun O=>rfl,fun O=>rfl,fun O=>rfl⟩
noncomputable def Qy(y:Lay):Cx:=cx y [".0","link"] [] [] false
noncomputable def Ft(y:Lay)(g:Gd):LC ⟨Qv y,g⟩:=⟨Qy y,fun g=> (.n (.loc 1) 373 50),fun g=>[],fun g=> (.get (.lo 1 373 38) (.nt 0 373 43)),[],rfl,rfl,fun O=>rfl,fun O=>rfl,fun O=>rfl⟩
noncomputable def Xi(y:Lay)(g:Gd):SB ⟨Qv y,g⟩:= .cons (.O8 0 (q 366 4 9) (Fq y g) (.enum 9 (q 366 81 90) (.tup [(.nt 13 366 92),(.nt 20 366 96),(.nt 1 366 100),(.nt 6 366 103),(.nt 4 366 106),(.int 486 0 (q 366 109 112)),(.int 1234 0 (q 366 114 118))]) (q 366 81 120)) (q 366 12 121) (q 366 4 121))<| .cons (.Rk [(.n (.loc 1) 367 4),(.n (.loc 2) 367 11)] 0 (q 367 4 17) (.cl 23 367 20 [(.get (.lo 0 367 31) (.nt 0 367 37)),(.get (.lo 0 367 41) (.nt 1 367 47)),(.get (.lo 0 367 51) (.nt 2 367 57))]) (q 367 4 60) (by kernel_rfl!))<| .cons (.ag (.loc 3) 368 4 (.get (.mt (.st "aAbBcC aAbcBC aAbcCB abABcC abAcBC abAcCB abBAcC abcABC abcACB abBcAC abcBAC abcCAB abBcCA abcBCA abcCBA" 368 12) .split []) (.told (.cl 3 368 127 [(.nt 0 368 131),(.sub (.md (.get (.lo 0 368 134) (.nt 3 368 140)) 30 145) (.nt 15 368 150))]))))<| .cons (.ag (.loc 4) 369 4 (.get (.get (.add (.lo 2 369 13) (.lo 2 369 22)) (.fx (some (.told (.cl 3 369 30 [(.nt 0 369 34),(.sub (.md (.get (.lo 0 369 37) (.nt 4 369 43)) 10 48) (.nt 5 369 53))]))) .none .none) (q 369 12 57)) (.fx .none (some (.nt 5 369 59)) .none)))<| .cons (.ag (.d7 1) 370 4 (.mt (.st "( ) [ ] : , ; + - * / | & < > = . % { } == != <= >= ~ ^ << >> ** += -= *= /= %= &= |= ^= <<= >>= **= // //= @ @= -> ... := !" 370 11) .split []))<| .cons (.mul [(.n (.d7 2) 371 4),(.n (.d7 3) 371 10)] 0 (q 371 4 16) [(.of (.told (.add (.nt 2 371 20) (.md (.get (.lo 0 371 24) (.nt 5 371 30)) 46 35)))),(.of (.told (.add (.nt 2 371 39) (.HC (.add (.add (.get (.lo 0 371 44) (.nt 5 371 50)) (.nt 1 371 55)) (.md (.dv (.get (.lo 0 371 59) (.nt 5 371 65)) 46 71) 45 76)) 46 0 (q 371 82 84) (q 371 43 84)))))] 0 (q 371 19 85) (q 371 4 85) (by kernel_rfl!))<| .cons (.Rk [(.n (.loc 5) 372 4),(.n (.loc 6) 372 10),(.n (.loc 7) 372 18)] 0 (q 372 4 23) (.cl 26 372 26 [(.cl 24 372 35 [(.lo 1 372 48),(.lo 3 372 55),(.lc (Fs y g) (.of (.lo 4 372 106)) (q 372 62 112))])]) (q 372 4 114) (by kernel_rfl!))<| .cons (.ite (.or [(.ne (.lo 5 373 7) (.lst [(.nt 10 373 16),(.st "end" 373 20)])),(.ne (.cl 5 373 30 [(.lc (Ft y g) (.of (.lo 7 373 58)) (q 373 37 64))]) (.cl 5 373 69 [(.add (.mul (.lst [(.add (.int 208 0 (q 373 77 80)) (.ce 2 373 83))]) (.nt 2 373 91)) (.mul (.lst [(.add (.int 208 0 (q 373 96 99)) (.ce 3 373 102))]) (.nt 3 373 112)))]))]) (.cons (.ret (.bool false 0 (q 374 15 20)))<| .nil) .nil ⟨373,4,374,20⟩)<| .cons (.qW (.loc 8) (.loc 9) (q 375 4 9) (q 375 11 15) 0 (q 375 4 15) [(.of (.cl 27 375 19 [(.lo 6 375 31)])),(.of (.cl 29 375 40 [(.lo 6 375 50),(.get (.lo 0 375 58) (.nt 6 375 64))]))] 0 (q 375 18 68) (q 375 4 68) (by kernel_rfl!))<| .cons (.ag (.loc 10) 376 4 (.y6 (.and (.ne (.lo 8 376 51) (.lst [] (q 376 60 62))) [(.SN (.neg (.nt 1 376 68)) (.lo 9 376 77))]) (.cl 30 376 14 [(.lo 6 376 27),(.lo 9 376 35),(.lo 8 376 41)]) (.lst [(.bool true 0 (q 376 88 92)),(.bool false 0 (q 376 94 99))])))<| .cons (.ite (.ne (.get (.lo 10 377 7) (.fx .none .none (some (.nt 2 377 17)) (q 377 15 18))) (.get (.lo 10 377 23) (.fx (some (.nt 1 377 31)) .none (some (.nt 2 377 34)) (q 377 31 35)))) (.cons (.ret (.bool false 0 (q 378 15 20)))<| .nil) .nil ⟨377,4,378,20⟩)<| .cons (.ag (.loc 11) 379 4 (.cl 28 379 12 [(.lo 7 379 23),(.lo 8 379 30),(.add (.int 208 0 (q 379 37 40)) (.ce 3 379 43))]))<| .cons (.ret (.and (.eq (.lo 11 380 11) (.cl 25 380 20 [(.lst [(.lo 1 380 33)]),(.lo 4 380 41),(.lo 3 380 48),(.bool false 0 (q 380 55 60))])) [(.eq (.and (.lo 11 380 67) [(.SN (.bool true 0 (q 380 77 81)) (.lo 10 380 89))]) (.cl 25 380 101 [(.lst [(.lo 1 380 114)]),(.lo 4 380 122),(.lo 3 380 129),(.bool true 0 (q 380 136 140))]) (q 380 66 141))]))<| .nil
noncomputable def nh(l:List Int)(lo hi step:Option Int):List Int:=
 (sliceRange (sliceBounds lo hi step l.length).1 (sliceBounds lo hi step l.length).2.1 (sliceBounds lo hi step l.length).2.2).filterMap (l[·]?)
theorem Bt(l:List Int)(lo hi step:Option Int):aS (l.map .int) lo hi step=(nh l lo hi step).map .int:=by
 unfold aS nh
 rw[E7,List.map_filterMap]
 exact E8 (fun f=>filterMap f _) (funext fun i=>Yi)
theorem yn:∀k:Nat,k<7→∀n:Nat,n<61→(sliceRange (sliceBounds (some (k:Int)) none (some 7) n).1 (sliceBounds (some (k:Int)) none (some 7) n).2.1 (sliceBounds (some (k:Int)) none (some 7) n).2.2).length≤1000:=by decide+kernel
theorem Bu{l:List Int}{k:Nat}(hk:k<7)(hl:l.length<61):(nh l (some (k:Int)) none (some 7)).length≤1000:=
 E2 (ZH ..) (yn k hk l.length hl)
noncomputable def Ac:List Int:=[13,20,1,6,4,486,1234]
noncomputable def Ga(x:Int):Int:=x.fmod (10 ^ toNat 6)
noncomputable def fW(xs:List Int)(k:Int)(base:Int):Int:=base+((nh (xs.take 60) (some k) none (some 7)).map Ga).sum
noncomputable def sQ(xs:List Int)(z:AV):Option AV:=some (.int (fW xs (gk (iT (ma z) 0)) (gk (iT (ma z) 1))))
noncomputable def Bv(z:AV):Option AV:=some (.int (Ga (gk z)))
theorem wv:∀l:List Int,(l.map AV.int).filterMap Bv=(l.map Ga).map .int
 | []=>rfl
 | x::l=>E8 (AV.int (Ga x):: ·) (wv l)
theorem qy:∀l:List Int,(∀x∈l,0≤x)→0≤l.sum
 | [],_=>abd 0
 | x::l,h=>by rw[sum_cons];exact aau (h x E6) (qy l fun y hy=>h y (E4 _ hy))
theorem iF(xs:List Int)(k:Int){base:Int}(hb:0≤base):0≤fW xs k base:=aau hb (qy _ fun x hx=>by
  obtain⟨y,_,rfl⟩:=N5.mp hx
  exact YF _ (by decide))
noncomputable abbrev Bw:Str:=Str.ofString "aAbBcC aAbcBC aAbcCB abABcC abAcBC abAcCB abBAcC abcABC abcACB abBcAC abcBAC abcCAB abBcCA abcBCA abcCBA"
noncomputable abbrev Fu:Str:=Str.ofString "( ) [ ] : , ; + - * / | & < > = . % { } == != <= >= ~ ^ << >> ** += -= *= /= %= &= |= ^= <<= >>= **= // //= @ @= -> ... := !"
noncomputable def fg:List Str:=["aAbBcC","aAbcBC","aAbcCB","abABcC","abAcBC","abAcCB","abBAcC","abcABC","abcACB","abBcAC","abcBAC","abcCAB","abBcCA","abcBCA","abcCBA"].map Str.ofString
theorem Bx:rP Bw (.lst (fg.map .str)):=⟨fg,by decide+kernel,by decide+kernel,by decide+kernel,by decide+kernel,rfl⟩
theorem Fv:rP Fu (.lst (bS.map .str)):=⟨bS,by decide+kernel,by decide+kernel,by decide+kernel,by decide+kernel,rfl⟩
noncomputable def ju(c:Int)(a b:Int):Int:=if c.fmod a - b > 0 then c.fmod a - b else 0
noncomputable def eV(c3:Int):Str:=fg.getD (ju c3 30 15).toNat ⟨#[]⟩
noncomputable def dX(js:List Int)(c4:Int):List Int:=((js++js).drop (ju c4 10 5).toNat).take 5
noncomputable def dI(c5:Int):Int:=2+c5.fmod 46
noncomputable def bj(c5:Int):Int:=2+(c5+1+(c5.fdiv 46).fmod 45).fmod 46
noncomputable def nj(c5:Int)(k:Int):Int:=cond (k !=0) (bj c5) (dI c5)
noncomputable def my(c5:Int)(k:Int):Str:=bS.getD (nj c5 k).toNat ⟨#[]⟩
noncomputable def eE(js:List Int)(c4 c5:Int):List Str:=(dX js c4).map (my c5)
noncomputable def yo(t:Lk):PE×PE×PE:=(.num t.1,.num t.2.1,.num t.2.2)
noncomputable def dC(lv:List Nat):List (Int×Int):=[97,98,99].map fun d=> (((aa 0 lv d).getD 0 0:Nat),((aa 0 lv d).getD 1 0:Nat))
structure MJ(es:Array DictEntry)(c0 c1 c2 c3 c4 c5:Int)(X:Nat)(cl:Cl)(js:List Int)(toks:List Str)(lv:List Nat)(qL:List Lk):Prop where
 claim:dz c0 c1 c2=([cl.av],js.map AV.int)
 jl:js.length=5
 dep:cl.depth≤10
 Vj:er [cl]<6
 Vk:bL [cl]≤20
 ok:cl.ok 6 5
 Vl:Pf (eV c3) (eE js c4 c5) cl
 wr:written (eV c3) (eE js c4 c5) cl=bf toks
 tl:toks.length≤100
 Vm:∀(i:Nat) (t:Str),(toks++ [(⟨#[]⟩:Str)])[i]? =some t→t.length≤1000
 Vn:∀i,i<toks.length→(bf (toks.drop i)).length≠0
 Vo:∀i,(bf (toks.drop i)).length≤1000
 cut:∀i t,toks[i]? =some t→bB (bf (toks.drop i)) (cutSize es (bf (toks.drop i)))=t∧gR (bf (toks.drop i)) (cutSize es (bf (toks.drop i)))=bf (toks.drop (i+1))
 Vp:aQ es toks (toks.length+1)=⟨[.num 10,.fin],lv.map ch,qL.map yo⟩
 RC:lv.length=6
 six:∀c∈lv,c∈six
 Nd:∀d∈[97,98,99],∃a b,aa 0 lv d=[a,b]∧a<6∧b<6
 ord:cX lv 6=(aa 0 lv 97).reverse++((aa 0 lv 98).reverse++(aa 0 lv 99).reverse)
 ll:qL.length=5
 Vq:∀t∈qL,gF t.2
 sgn:(qL.map fun t=>t.1).Perm [208+dI c5,208+dI c5,208+bj c5,208+bj c5,208+bj c5]
 free:gE qL (dC lv) (208+bj c5)=fj (dX js c4) (gJ (eV c3)) false 6 [cl]
 ring:∃x y z,gY (cC X 6) lv (dC lv)=[x,x,y,y,z,z]∧(gE qL (dC lv) (208+bj c5)&&!(x||y||z))=fj (dX js c4) (gJ (eV c3)) true 6 [cl]
def ww(es:Array DictEntry):Prop:= ∀(c0 c1 c2 c3 c4 c5:Int) (X:Nat),0≤c0→0≤c1→0≤c2→0≤c3→0≤c4→0≤c5→∃cl js toks lv qL,MJ es c0 c1 c2 c3 c4 c5 X cl js toks lv qL
theorem jS{c a b:Int}(h1:0<a)(h2:0<b)(h3:b<a):0≤ju c a b∧ju c a b<a - b:=by
 have hf:=YV c h1
 unfold ju
 split
 ·exact⟨Z9 ‹_›,Int.sub_lt_sub_right hf b⟩
 ·exact⟨abd 0,Int.sub_pos_of_lt h3⟩
theorem sR{l:List Str}{k:Int}(h0:0≤k)(h:k<l.length):d5 (l.map AV.str) k=some (.str (l.getD k.toNat ⟨#[]⟩)):=by
 obtain⟨n,rfl⟩:∃n:Nat,k=n:=⟨k.toNat,(Yx h0).symm⟩
 exact fK _ (Yd.mp h)
theorem jT(c3:Int):(eV c3).length=6:=by
 have h:∀n:Nat,n<15→(fg.getD n ⟨#[]⟩).length=6:=by decide+kernel
 obtain⟨h1,h2⟩:=jS (c:=c3) (a:=30) (b:=15) (by decide) (by decide) (by decide)
 exact h _ ((Ze h1).mpr h2)
noncomputable def sS(c5:Int)(z:AV):Option AV:=some (.str (my c5 (gk z)))
theorem sT(c5:Int):∀l:List Int,(l.map AV.int).filterMap (sS c5)=(l.map (my c5)).map .str
 | []=>rfl
 | x::l=>E8 (AV.str (my c5 x):: ·) (sT c5 l)
theorem Qz(x:Int):0≤2+x.fmod 46∧2+x.fmod 46<(48:Int):=⟨aau (by decide) (YF _ (by decide)),aaf (YV _ (by decide)) 2⟩
theorem Iz(c5 k:Int):d5 (bS.map AV.str) (nj c5 k)=some (.str (my c5 k)):=by
 have h:0≤nj c5 k∧nj c5 k<(48:Int):=by
  unfold nj
  cases k !=0
  ·exact Qz c5
  ·exact Qz _
 exact sR h.1 h.2
noncomputable def wx(z:AV):Option AV:=some (iT (ma z) 0)
theorem sU:∀l:List Lk,(l.map bG).filterMap wx=(l.map fun t=>t.1).map .int
 | []=>rfl
 | x::l=>E8 (AV.int x.1:: ·) (sU l)
noncomputable def IA(c5:Int):List Int:=[208+dI c5,208+dI c5,208+bj c5,208+bj c5,208+bj c5]
noncomputable def yp(c5:Int):List Int:=(IA c5).mergeSort
theorem sV{c5:Int}{l:List Int}(h:l.Perm (IA c5))(hl:l.length<64):lZ (l.map .int) (.lst ((yp c5).map .int)):=⟨l,rfl,hl,fun ns h1 h2=>by
 have s:(yp c5).Pairwise (·≤·):=(List.pairwise_mergeSort (le:=fun a b:Int=>decide (a≤b)) (fun a b c h1 h2=>Yw (Y' (Yr h1) (Yr h2))) (fun a b=>by
  rcases Int.le_total a b with h | h
  ·rw[Yw h];rfl
  ·rw[Yw h,Bool.or_true]) (IA c5)).imp fun h=>Yr h
 rw[((h1.trans h).trans (List.mergeSort_perm (IA c5) _).symm).eq_of_pairwise (le:=(·≤·)) (fun a b O O h1 h2=>ab4 h1 h2) h2 s]⟩
theorem IB:dS (.lst [.int 10,.str (Str.ofString "end")]) (.lst [.int 10,.str (Str.ofString "end")]) true:=⟨.list [.int 10,.str (Str.ofString "end")],.list [.int 10,.str (Str.ofString "end")],rfl,rfl,rfl,rfl,by decide+kernel,by decide+kernel,by decide+kernel⟩
theorem Fw{p q r:Int×Int}:dS (.lst [b7 p,b7 q,b7 r]) (.lst []) false:=
 ⟨.list [.list [.int p.1,.int p.2],.list [.int q.1,.int q.2],.list [.int r.1,.int r.2]],.list [],rfl,rfl,rfl,rfl,by unfold shaped;simp only[canLay0,canLayAll0,depth,depthAll];rfl,rfl,rfl⟩
theorem Fx{x y z:Bool}:dS (.lst [.bool x,.bool y,.bool z]) (.lst [.bool x,.bool y,.bool z]) true:=by
 have hs:shaped (.list [.bool x,.bool y,.bool z])=true:=by unfold shaped;simp only[canLay0,canLayAll0,depth,depthAll];rfl
 exact⟨.list [.bool x,.bool y,.bool z],.list [.bool x,.bool y,.bool z],rfl,rfl,rfl,rfl,hs,hs,by cases x <;> cases y <;> cases z <;> rfl⟩
noncomputable def RD(x y z:Bool):Bool:=x||y||z
theorem MK{x y z:Bool}:tM (.bool true) [.bool x,.bool x,.bool y,.bool y,.bool z,.bool z] (RD x y z):=
 ⟨.bool true,[.bool x,.bool x,.bool y,.bool y,.bool z,.bool z],rfl,rfl,rfl,rfl,rfl,rfl,E1 rfl,by cases x <;> cases y <;> cases z <;> rfl⟩
theorem eq_bool(x:Bool):dS (.bool x) (.bool x) true:=⟨.bool x,.bool x,rfl,rfl,rfl,rfl,rfl,rfl,by cases x <;> rfl⟩
theorem MM{l:List Nat}{f:Nat→Nat}:tM (.int (-1)) ((l.map fun p=> ((f p:Nat):Int)).map .int) false:=by
 refine⟨.int (-1),(l.map fun p=> ((f p:Nat):Int)).map .int,rfl,(dc _).1.symm,rfl,(dc _).2.1,rfl,(dc _).2.2.1,E1 rfl,?_⟩
 rw[aa4]
 intro y hy
 obtain⟨z,hz,rfl⟩:=N5.mp hy
 obtain⟨p,_,rfl⟩:=N5.mp hz
 exact fun h=>nomatch h
section
variable {y:Lay}{g:Gd}{xs:List Int}
noncomputable def RE(xs:List Int):Os:=[(13,.cell none),(12,.cell none),(11,.cell none),(10,.cell (some (.v (.lst (xs.map .int)))))]
theorem Fy(os:Os)(l:List Int):(Fp y g).turn os Bv (fun O=> .nil) (l.map .int):=fun g' b z hz=>by
 obtain⟨x,hx,rfl⟩:=N5.mp hz
 refine a6 (P:=(0:Int)≤(6:Int)∧(↑(Builtin.Int.intBits (10:Int)):Int)*(6:Int)≤(2:Int) ^ 27∧(10:Int) ^ toNat 6≠(0:Int)∧rf (Bv (AV.int x))∧rf os)
  ⟨by decide,by decide+kernel,by decide,rfl,rfl⟩ (by kernel_rfl!)
noncomputable def Fz(xs:List Int)(z:AV):Hint:=
 let k:=gk (iT (ma z) 0)
 .v (.lst ((xs.take 60).map .int))<| .v (.lst ((nh (xs.take 60) (some k) none (some 7)).map .int))<| .f Bv (fun O=> .nil)<| .v (.lst (((nh (xs.take 60) (some k) none (some 7)).map Ga).map .int))<| .v (.int ((nh (xs.take 60) (some k) none (some 7)).map Ga).sum) .nil
noncomputable abbrev ly(xs:List Int)(k:Nat):=nh (take 60 xs) (some (↑k:Int)) none (some (7:Int))
noncomputable abbrev oj(xs:List Int)(k:Nat):=map AV.int (ly xs k)
theorem By(hx:xs.length≤63):(Fq y g).turn (RE xs) (sQ xs) (Fz xs) (aV (Ac.map .int)):=fun g' b z hz=>by
 obtain⟨k,c,rfl,hc⟩:=jk hz
 obtain⟨e,he,rfl⟩:=N5.mp (Yh hc)
 have hk:k<7:=(Ym.mp hc).1
 refine a6 (P:=SL (map AV.int xs)∧AV.lst (aS (map AV.int xs) none (some 60) none)= .lst (map .int (take 60 xs))∧SL (map AV.int (take 60 xs))∧AV.lst (aS (map AV.int (take 60 xs)) (some ↑k) none (some 7))= .lst (oj xs k)∧SL (oj xs k)∧LC.turn (Fp y g') (RE xs) Bv (fun O=> .nil) (oj xs k)∧filterMap Bv (oj xs k)=map .int (map Ga (ly xs k))∧SumTo (map AV.int (map Ga (ly xs k))) (AV.int (List.sum (map Ga (ly xs k))))∧sQ xs (AV.tup [.int ↑k,AV.int e])=some (.int (e+List.sum (map Ga (ly xs k))))∧RE xs=RE xs) ?_ (by kernel_rfl!)
 have tk:(xs.take 60).length<61:=by rw[YS];exact aa6 (Nat.min_le_left ..)
 exact⟨sz (az hx) rfl,vH xs 60,sz (az (YA tk)) rfl,cf (Bt ..),sz (az (Bu hk tk)) rfl,Fy _ _,wv _,⟨_,rfl,rfl⟩,rfl,rfl⟩
noncomputable def IC(xs:List Int)(c5:Int):Os:=[(13,.cell (some (.v (.int (bj c5))))),(12,.cell (some (.v (.int (dI c5))))),(11,.cell (some (.v (.lst (bS.map .str))))),(10,.cell (some (.v (.lst (xs.map .int)))))]
noncomputable def FA(c5:Int)(z:AV):Hint:= .mv (.v (.int (nj c5 (gk z)))) .nil .nil<| .v (.str (my c5 (gk z))) .nil
theorem Bz(c5:Int)(l:List Int):(Fs y g).turn (IC xs c5) (sS c5) (FA c5) (l.map .int):=fun g' b z hz=>by
 obtain⟨x,hx,rfl⟩:=N5.mp hz
 refine a6 (P:=((x !=(0:Int))=true→VI (.int (bj c5)) (.int (nj c5 x))∧rf (S.mk [none,some (.v (.int x))] (IC xs c5) .nil))∧((x !=(0:Int))=false→VI (.int (dI c5)) (.int (nj c5 x))∧rf (S.mk [none,some (.v (.int x))] (IC xs c5) .nil))∧SL (map AV.str bS)∧_∧rf (sS c5 (AV.int x))∧rf (IC xs c5))
  ⟨fun h=> ⟨E8 (fun b=>RV.v (.int (cond b (bj c5) (dI c5)))) h.symm,rfl⟩,fun h=> ⟨E8 (fun b=>RV.v (.int (cond b (bj c5) (dI c5)))) h.symm,rfl⟩,E1 rfl,Iz c5 x,rfl,rfl⟩ (by kernel_rfl!)
theorem BA(os:Os)(l:List Lk):(Ft y g).turn os wx (fun z=> .v (iT (ma z) 0) .nil) (l.map bG):=fun g' b z hz=>by
 obtain⟨⟨p,q,r⟩,hx,rfl⟩:=N5.mp hz
 refine a6 (P:=SL [AV.int p,.int (fst (q,r)),.int (snd (q,r))]∧AG [.int p,.int (fst (q,r)),.int (snd (q,r))] 0 (.int p)∧rf (some (AV.int p))∧rf os)
  ⟨E1 rfl,rfl,rfl,rfl⟩ (by kernel_rfl!)
noncomputable abbrev bY(c0:Int)(c1:Int)(c2:Int)(c3:Int)(c4:Int)(c5:Int)(x:Nat):=[AV.int c0,.int c1,.int c2,.int c3,.int c4,.int c5,.int ↑x]
noncomputable abbrev Ad(c5:Int)(xs:List Int):=(10+1+1+1,EO.cell (some (.v (.int (bj c5)))))::(10+1+1,EO.cell (some (.v (.int (dI c5)))))::(10+1,EO.cell (some (.v (.lst (map AV.str bS)))))::List.append [(10,EO.cell (some (.v (.lst (map AV.int xs)))))] []
noncomputable abbrev lz(p:Bool)(q:Bool)(r:Bool):=[AV.bool p,.bool p,.bool q,.bool q,.bool r,.bool r]
noncomputable abbrev uv:=aV [AV.int 13,.int 20,.int 1,.int 6,.int 4,.int 486,.int 1234]
noncomputable abbrev uw(c4:Int)(js:List Int):=map AV.int (drop (toNat (ju c4 (10:Int) (5:Int))) (js++js))
noncomputable abbrev iG(js:List Int)(c4:Int):=map AV.int (dX js c4)
noncomputable abbrev om(c5:Int):=AV.lst (map AV.int (yp c5))
noncomputable abbrev ux(y:Lay):=RV.v (.val (Value.ref (y.ad 75)))
noncomputable abbrev on(c5:Int):=(208:Int)+bj c5
noncomputable abbrev uy:=map AV.str fg
noncomputable abbrev wy:=AV.lst [.int 10,AV.str (Str.ofString "end")]
noncomputable abbrev wz(c5:Int):=replicate (toNat 2) [AV.int ((208:Int)+dI c5)]
noncomputable abbrev lA(lv:List Nat):=map b7 (dC lv)
theorem MN(X:dy y g)(CF:lh)(PL:ww y.es)(T:Mf y.es)(hf:FnAt g.K (y.ad 81) (s8 81) (Str.ofString "law") .none .none)(hn:60≤g.n)(hx:xs.length≤63):
  Fn g (.v (.val (.ref (y.ad 81)))) [.v (.lst (xs.map .int))] [] [] [] (.v (.bool true)) []:=by
 obtain⟨x,hX⟩:∃x:Nat,fW xs 6 1234=x:=⟨_,(Yx (iF xs 6 (by decide))).symm⟩
 obtain⟨cl,js,toks,lv,qL,FO⟩:=PL (fW xs 0 13) (fW xs 1 20) (fW xs 2 1) (fW xs 3 6) (fW xs 4 4) (fW xs 5 486) x (iF xs 0 (by decide)) (iF xs 1 (by decide)) (iF xs 2 (by decide)) (iF xs 3 (by decide)) (iF xs 4 (by decide)) (iF xs 5 (by decide))
 obtain⟨p,q,r,Kj,Gb⟩:=FO.ring
 have nk:=FO.free
 generalize e0:fW xs 0 13=c0 at FO Kj Gb nk
 generalize e1:fW xs 1 20=c1 at FO Kj Gb nk
 generalize e2:fW xs 2 1=c2 at FO Kj Gb nk
 generalize e3:fW xs 3 6=c3 at FO Kj Gb nk
 generalize e4:fW xs 4 4=c4 at FO Kj Gb nk
 generalize e5:fW xs 5 486=c5 at FO Kj Gb nk
 generalize hR:gE qL (dC lv) (208+bj c5)=R at Kj Gb nk
 generalize hP:fj (dX js c4) (gJ (eV c3)) true 6 [cl]=P at Gb
 refine jZ X (YP (k:=51) hn) hf (Qv y) (Xi y) (.f (sQ xs) (Fz xs)<| .v (.lst [.int c0,.int c1,.int c2,.int c3,.int c4,.int c5,.int x])<|
   .v (.int c0)<| .v (.int c1)<| .v (.int c2)<| .call (.v (.tup [cl.av,.lst (js.map .int)])) []<|
   .v (.lst (fg.map .str))<| .v (.int c3)<| .v (.int (ju c3 30 15))<| .v (.str (eV c3))<|
   .v (.int c4)<| .v (.int (ju c4 10 5))<| .v (.lst (((js++js).drop (ju c4 10 5).toNat).map .int))<| .v (.lst ((dX js c4).map .int))<|
   .v (.lst (bS.map .str))<| .v (.int c5)<| .v (.int (dI c5))<| .v (.int c5)<| .v (.int c5)<| .v (.int (bj c5))<|
   .f (sS c5) (FA c5)<| .v (.lst ((eE js c4 c5).map .str))<| .call (.v (.str (bf toks))) []<| .call (.v (.tup [.lst [.int 10,.str "end"],.lst (fu lv),.lst (qL.map bG)])) []<|
   .b true<| .a<| .f wx (fun z=> .v (iT (ma z) 0) .nil)<| .v (.lst ((qL.map fun t=>t.1).map .int))<| .v (.lst ((yp c5).map .int))<| .v (.lst ((yp c5).map .int))<| .b true<| .a<| .a<|
   .call (.v (.lst ((dC lv).map b7))) []<| .v (.int x)<| .call (.v (.lst ((cC x 6).map .int))) []<|
   .b false<| .a<| .b false<| .a<| .a<| .call (.v (.lst [.bool p,.bool p,.bool q,.bool q,.bool r,.bool r])) []<|
   .v (.lst [.bool p,.bool q,.bool r])<| .v (.lst [.bool p,.bool q,.bool r])<| .b true<| .a<|
   .call (.v (.bool R)) []<| .call (.v (.bool R)) []<| .b true<| .a<| .sp (.b (RD p q r)<| .call (.v (.bool P)) []<| .b true .nil) (.call (.v (.bool P)) []<| .b true .nil)) (by intros;kernel_rfl!) (fun g' b=>?_)
 have X':=X.bO b.bO
 have Kk:∀ {k:Nat},ble k 50=true→k≤g'.n:=fun h=>E2 (E1 h) (by rw[b.n];exact E2 (by decide) (Nat.sub_le_sub_right hn 1))
 have Vr:=DR X' (Kk rfl) c0 c1 c2
 rw[FO.claim] at Vr
 have RG:(js.map AV.int).length≤5:=az (X7 FO.jl)
 have kl:(dX js c4).length=5:=by
  obtain⟨h1,h2⟩:=jS (c:=c4) (a:=10) (b:=5) (by decide) (by decide) (by decide)
  unfold dX
  rw[YS,YJ,N8,FO.jl]
  omega
 have h3:=jS (c:=c3) (a:=30) (b:=15) (by decide) (by decide) (by decide)
 have h4:=(jS (c:=c4) (a:=10) (b:=5) (by decide) (by decide) (by decide)).1
 have Vt:=kx (names:=eV c3) (signs:=eE js c4 c5) (by rw[jT];decide) (by unfold eE;rw[E7,kl];decide) cl X' (E2 (Z7 FO.dep 9) (Kk rfl)) FO.Vl
 rw[FO.wr] at Vt
 have Vu:=Mm X' (Kk rfl) T toks FO.tl FO.Vm FO.Vn FO.Vo FO.cut
 rw[FO.Vp] at Vu
 have lk:(qL.map yo).map cL=qL.map bG:=YU
 have Xj:(lv.map ch).map AV.str=fu lv:=YU
 have TL:Fn g' (.v (.val (.ref (y.ad 76)))) [.v (.str (bf toks))] [] [] [] (.v (.tup [.lst [.int 10,.str "end"],.lst (fu lv),.lst (qL.map bG)])) []:=by rw[← lk,← Xj];exact Vu
 have Vv:=AZ X' (Kk rfl) FO.RC FO.six (fun d hd=>by obtain⟨a,c,h1,_⟩:=FO.Nd d hd;exact⟨a,c,h1⟩) FO.ord
 have gK: [AV.lst (ar (aa 0 lv 97)),.lst (ar (aa 0 lv 98)),.lst (ar (aa 0 lv 99))]=(dC lv).map b7:=by
  obtain⟨a1,d1,h1,_⟩:=FO.Nd 97 (by decide)
  obtain⟨a2,d2,h2,_⟩:=FO.Nd 98 (by decide)
  obtain⟨a3,d3,h3,_⟩:=FO.Nd 99 (by decide)
  show _=[b7 (((aa 0 lv 97).getD 0 0:Nat),((aa 0 lv 97).getD 1 0:Nat)),b7 (((aa 0 lv 98).getD 0 0:Nat),((aa 0 lv 98).getD 1 0:Nat)),b7 (((aa 0 lv 99).getD 0 0:Nat),((aa 0 lv 99).getD 1 0:Nat))]
  rw[h1,h2,h3];rfl
 rw[gK] at Vv
 have p6:∀p∈dC lv,(0≤p.1∧p.1<6)∧0≤p.2∧p.2<6:=fun p hp=>by
  obtain⟨d,hd,rfl⟩:=N5.mp hp
  obtain⟨a,d',h1,h2,h3⟩:=FO.Nd d hd
  rw[h1]
  exact⟨⟨N3 a,Yd.mpr h2⟩,N3 d',Yd.mpr h3⟩
 have Xk:=Ih X' (Kk rfl) CF FO.RC FO.six x
 have Vw:=yb X' (Kk rfl) (hs:=cC x 6) FO.RC (by unfold cC;rw[E7,Zh]) (show(dC lv).length=3 from rfl) FO.six p6
 rw[Kj] at Vw
 have Vx:=EQ X' (Kk rfl) (pairs:=dC lv) (either:=208+bj c5) FO.ll rfl FO.Vq fun p hp=>by
  obtain⟨⟨h1,h2⟩,h3,h4⟩:=p6 p hp
  exact⟨h1,YT h2 (by decide),h3,YT h4 (by decide)⟩
 rw[hR] at Vx
 have ro:de 6 (eV c3).length (dX js c4).length [cl]:=⟨FO.Vj,FO.Vk,fun c hc=>by rw[X8.mp hc,jT,kl];exact FO.ok⟩
 have Vy:=fun ring=>r7 (ring:=ring) (ks:=dX js c4) (names:=eV c3) (by rw[kl];decide) (by rw[jT];decide) 6 X' (Kk rfl) [cl] ro
 have Vz:=Vy false
 have TM:=Vy true
 rw[← nk] at Vz
 rw[hP] at TM
 have a7:∀(n:Nat) (h:n<7),d5 [AV.int c0,.int c1,.int c2,.int c3,.int c4,.int c5,.int x] n=some ([AV.int c0,.int c1,.int c2,.int c3,.int c4,.int c5,.int x][n]):=fun n h=>fD (N6 h)
 have l7: [AV.int c0,.int c1,.int c2,.int c3,.int c4,.int c5,.int x].length≤sizeLine:=E1 rfl
 have l6: [AV.bool p,.bool p,.bool q,.bool q,.bool r,.bool r].length≤sizeLine:=E1 rfl
 have Xl:(aV (Ac.map .int)).filterMap (sQ xs)=[.int c0,.int c1,.int c2,.int c3,.int c4,.int c5,.int x]:=by
  rw[← e0,← e1,← e2,← e3,← e4,← e5,← hX];rfl
 have Xm:AV.lst (aS (js.map .int++js.map .int) (some (ju c4 10 5)) none none)= .lst (((js++js).drop (ju c4 10 5).toNat).map .int):=cf (by rw[fE _ h4,Y9,N9])
 refine a6 (P:=SL uv∧LC.turn (Fq y g') ([(10+1+1+1,EO.cell none),(10+1+1,EO.cell none),(10+1,EO.cell none),(10,EO.cell (some (.v (.lst (map AV.int xs)))))]++ []) (sQ xs) (Fz xs) uv∧filterMap (sQ xs) uv=(bY c0 c1 c2 c3 c4 c5 x)∧SL (bY c0 c1 c2 c3 c4 c5 x)∧AG (bY c0 c1 c2 c3 c4 c5 x) (0:Int) (.int c0)∧SL (bY c0 c1 c2 c3 c4 c5 x)∧AG (bY c0 c1 c2 c3 c4 c5 x) (1:Int) (.int c1)∧SL (bY c0 c1 c2 c3 c4 c5 x)∧AG (bY c0 c1 c2 c3 c4 c5 x) (2:Int) (.int c2)∧Fn g' (.v (.val (.ref (y.ad 73)))) [.v (.int c0),.v (.int c1),.v (.int c2)] [] [] [] (.v (.tup [Cl.av cl,.lst (map .int js)])) []∧rP (Str.ofString "aAbBcC aAbcBC aAbcCB abABcC abAcBC abAcCB abBAcC abcABC abcACB abBcAC abcBAC abcCAB abBcCA abcBCA abcCBA") (AV.lst uy)∧SL (bY c0 c1 c2 c3 c4 c5 x)∧AG (bY c0 c1 c2 c3 c4 c5 x) (3:Int) (.int c3)∧VI (.int (if fmod c3 ((30:Nat):Int) - (15:Int) > (0:Int) then fmod c3 ((30:Nat):Int) - (15:Int) else(0:Int))) (.int (ju c3 (30:Int) (15:Int)))∧SL uy∧AG uy (ju c3 (30:Int) (15:Int)) (.str (eV c3))∧length (map AV.int js)+length (map AV.int js)≤sizeLine∧SL (bY c0 c1 c2 c3 c4 c5 x)∧AG (bY c0 c1 c2 c3 c4 c5 x) (4:Int) (.int c4)∧VI (.int (if fmod c4 ((10:Nat):Int) - (5:Int) > (0:Int) then fmod c4 ((10:Nat):Int) - (5:Int) else(0:Int))) (.int (ju c4 (10:Int) (5:Int)))∧SL (map AV.int js++map AV.int js)∧AV.lst (aS (map AV.int js++map AV.int js) (some (ju c4 (10:Int) (5:Int))) none none)= .lst (uw c4 js)∧SL (uw c4 js)∧AV.lst (aS (uw c4 js) none (some (5:Int)) none)= .lst (iG js c4)∧rP (Str.ofString "( ) [ ] : , ; + - * / | & < > = . % { } == != <= >= ~ ^ << >> ** += -= *= /= %= &= |= ^= <<= >>= **= // //= @ @= -> ... := !") (AV.lst (map AV.str bS))∧SL (bY c0 c1 c2 c3 c4 c5 x)∧AG (bY c0 c1 c2 c3 c4 c5 x) (5:Int) (.int c5)∧VI (.int ((2:Int)+fmod c5 ((46:Nat):Int))) (.int (dI c5))∧SL (bY c0 c1 c2 c3 c4 c5 x)∧AG (bY c0 c1 c2 c3 c4 c5 x) (5:Int) (.int c5)∧SL (bY c0 c1 c2 c3 c4 c5 x)∧AG (bY c0 c1 c2 c3 c4 c5 x) (5:Int) (.int c5)∧VI (.int ((2:Int)+fmod (c5+(1:Int)+fmod (fdiv c5 ((46:Nat):Int)) ((45:Nat):Int)) ((46:Nat):Int))) (.int (bj c5))∧SL (iG js c4)∧LC.turn (Fs y g') (Ad c5 xs) (sS c5) (FA c5) (iG js c4)∧filterMap (sS c5) (iG js c4)=map .str (eE js c4 c5)∧Fn g' (.v (.val (.ref (y.ad 74)))) [.v (Cl.av cl),.v (.str (eV c3)),.v (.lst (map .str (eE js c4 c5)))] [] [] [] (.v (.str (bf toks))) []∧Fn g' (.v (.val (.ref (y.ad 76)))) [.v (.str (bf toks))] [] [] [] (.v (.tup [.lst [.int 10,.str (Str.ofString "end")],.lst (fu lv),.lst (map bG qL)])) []∧dS wy wy true∧SL (map bG qL)∧LC.turn (Ft y g') (Ad c5 xs) wx (fun(z:AV)=>Hint.v (iT (ma z) 0) .nil) (map bG qL)∧filterMap wx (map bG qL)=map .int (map (fun(t:Lk)=>fst t) qL)∧lZ (map AV.int (map (fun(t:Lk)=>fst t) qL)) (om c5)∧(0:Int)≤(2:Int)∧(2:Int)<(1000:Int)∧length [AV.int ((208:Int)+dI c5)]≤1000∧(0:Int)≤(3:Int)∧(3:Int)<(1000:Int)∧length [AV.int (on c5)]≤1000∧length (flatten (wz c5))+length (flatten (replicate (toNat 3) [AV.int (on c5)]))≤sizeLine∧lZ (flatten (wz c5)++flatten (replicate (toNat 3) [AV.int (on c5)])) (om c5)∧dS (om c5) (om c5) true∧Fn g' (.v (.val (.ref (y.ad 77)))) [.v (.lst (fu lv))] [] [] [] (.v (.lst (lA lv))) []∧SL (bY c0 c1 c2 c3 c4 c5 x)∧AG (bY c0 c1 c2 c3 c4 c5 x) (6:Int) (.int ↑x)∧Fn g' (.v (.val (.ref (y.ad 79)))) [.v (.lst (fu lv)),.v (.int ↑x)] [] [] [] (.v (.lst (map .int (cC x 6)))) []∧dS (AV.lst (lA lv)) (AV.lst []) false∧tM (AV.int (-1)) (map AV.int (cC x 6)) false∧Fn g' (.v (.val (.ref (y.ad 80)))) [.v (.lst (fu lv)),.v (.lst (map .int (cC x 6))),.v (.lst (lA lv))] [] [] [] (.v (.lst [.bool p,.bool p,.bool q,.bool q,.bool r,.bool r])) []∧SL (lz p q r)∧AV.lst (aS (lz p q r) none none (some (2:Int)))= .lst [.bool p,.bool q,.bool r]∧SL (lz p q r)∧AV.lst (aS (lz p q r) (some (1:Int)) none (some (2:Int)))= .lst [.bool p,.bool q,.bool r]∧dS (AV.lst [.bool p,AV.bool q,AV.bool r]) (AV.lst [.bool p,AV.bool q,AV.bool r]) true∧Fn g' (.v (.val (.ref (y.ad 78)))) [.v (.lst (map bG qL)),.v (.lst (lA lv)),.v (.int (on c5))] [] [] [] (.v (.bool R)) []∧Fn g' (ux y) [.v (.lst [Cl.av cl]),.v (.lst (iG js c4)),.v (.str (eV c3)),.v (.bool false)] [] [] [] (.v (.bool R)) []∧dS (AV.bool R) (AV.bool R) true∧(R=true→tM (AV.bool true) (lz p q r) (RD p q r)∧Fn g' (ux y) [.v (.lst [Cl.av cl]),.v (.lst (iG js c4)),.v (.str (eV c3)),.v (.bool true)] [] [] [] (.v (.bool P)) []∧dS (AV.bool !RD p q r) (AV.bool P) true∧VI (.bool true) (.bool true)∧([]:Os)=[])∧(R=false→Fn g' (ux y) [.v (.lst [Cl.av cl]),.v (.lst (iG js c4)),.v (.str (eV c3)),.v (.bool true)] [] [] [] (.v (.bool P)) []∧dS (AV.bool R) (AV.bool P) true∧VI (.bool true) (.bool true)∧([]:Os)=[])) ?_ (by kernel_rfl!)
 refine⟨E1 rfl,By hx,Xl,l7,a7 0 (by decide),l7,a7 1 (by decide),l7,a7 2 (by decide),Vr,Bx,l7,a7 3 (by decide),rfl,E1 rfl,sR h3.1 h3.2,
  sz (sa RG RG) rfl,l7,a7 4 (by decide),rfl,sz (gD RG RG) rfl,Xm,?_,vH _ 5,Fv,l7,a7 5 (by decide),rfl,l7,a7 5 (by decide),l7,a7 5 (by decide),rfl,
  sz (az (X7 kl)) rfl,Bz c5 _,sT c5 _,Vt,TL,IB,sz (az (X7 FO.ll)) rfl,BA _ _,sU _,sV FO.sgn (by rw[E7,FO.ll];decide),
  by decide,by decide,E1 rfl,by decide,by decide,E1 rfl,E1 rfl,sV (.refl _) (E1 rfl),by have:=r9 (xs:=yp c5) (ys:=yp c5);rw[Yw rfl] at this;exact this,
  Vv,l7,a7 6 (by decide),Xk,Fw,MM,Vw,l6,cf (by kernel_rfl!),l6,cf (by kernel_rfl!),Fx,Vx,Vz,eq_bool R,fun h=> ⟨MK,TM,?_,rfl,rfl⟩,fun h=> ⟨TM,?_,rfl,rfl⟩⟩
 ·exact sz (az (m:=10) (E2 (aa5 ..).length_le (by rw[N8,FO.jl];decide))) rfl
 ·rw[← Gb,h];exact eq_bool _
 ·rw[← Gb,h];exact eq_bool _
end
end
end
section
section
noncomputable def FB(low:List Nat):Nat:=((List.range 15).find? fun m=> (List.range 6).all fun i=>low.getD (j0 m i) 0==low.getD i 0).getD 15
noncomputable def QA(low:List Nat):Bool:=[97,98,99].all fun d=>match aa 0 low d with
 | [a,b]=>decide (a<6)&&decide (b<6)
 | _=>false
noncomputable def Kl(low:List Nat):Bool:=cX low 6==(aa 0 low 97).reverse++((aa 0 low 98).reverse++(aa 0 low 99).reverse)
noncomputable def uz(m:Nat)(gK:List (Int×Int)):Bool:=
 (gK.all fun e=>decide ((0≤e.1∧e.1<6)∧0≤e.2∧e.2<6))&& ((gK.all fun e=>j0 m e.1.toNat==e.2.toNat)&& (((List.range 6).all fun i=>gK.contains ((i:Int),(j0 m i:Int))||gK.contains ((j0 m i:Int),(i:Int)))&& (decide (gK.map un).Nodup&&gK.all fun e=>decide (e.1≠e.2))))
theorem FC{m:Nat}{gK:List (Int×Int)}(h:uz m gK=true):Fj m gK:=by
 unfold uz at h
 simp only[Yb,E9,Yq,Y1,Ya,abZ,List.contains_iff_mem] at h
 exact⟨h.1,h.2.1,h.2.2.1,h.2.2.2.1,h.2.2.2.2⟩
noncomputable def Km(low:List Nat):Bool:=decide (FB low<15)&& (QA low&& (Kl low&& (uz (FB low) (dC low)&& (List.range 6).all fun i=> (List.range 6).all fun j=> (j0 (FB low) i==j)==(low.getD i 0==low.getD j 0&&!(i==j)))))
theorem ID:lows.all Km=true:=by decide+kernel
noncomputable def QB(p:Bool)(l:List Bool):Bool:=l==[l.getD 0 p,l.getD 0 p,l.getD 2 p,l.getD 2 p,l.getD 4 p,l.getD 4 p]&& (l.getD 0 p||l.getD 2 p||l.getD 4 p)==!p
theorem yq:(lows.all fun low=> (List.range 6).all fun q=>QB (oh.testBit (FB low)) ((dC low).flatMap (kF (Ab q) low)))=true:=by decide+kernel
theorem IE{p:Bool}{l:List Bool}(h:QB p l=true):∃x y z,l=[x,x,y,y,z,z]∧(x||y||z)=!p:=by
 have h:=E3.mp h
 exact⟨_,_,_,eq_of_beq h.1,eq_of_beq h.2⟩
end
end
section
section
structure cN(es:Array DictEntry):Prop where
 at':∀k:Nat,k<48→∃t,bo es (bS.getD k ⟨#[]⟩)=some (.int (7+(k:Int)) t)
 only:∀x,ci es x=true→x∈bS
noncomputable def eF(c:Nat):Bool:=c==97||c==98||c==99||c==65||c==66||c==67
theorem qz:∀x∈bS,(∀c∈x.cps.toList,eF c=false)∧(2≤x.cps.toList.length→∀c∈x.cps.toList,c≠40∧c≠41):=by decide+kernel
theorem wA:∀k,k<48→1≤(bS.getD k ⟨#[]⟩).cps.toList.length∧(bS.getD k ⟨#[]⟩).cps.toList.length≤3:=by decide+kernel
theorem c8(a b:Str):(a++b).cps.toList=a.cps.toList++b.cps.toList:=by show(a.cps++b.cps).toList=_;simp
theorem eM{a b:Str}(h:a.cps.toList=b.cps.toList):a=b:=by
 obtain⟨a⟩:=a
 obtain⟨b⟩:=b
 simp only[Str.mk.injEq]
 exact Array.toList_inj.mp h
theorem jU(x:Str)(n:Nat):(bB x n).cps.toList=x.cps.toList.take n:=by unfold bB;simp
theorem sW(x:Str)(n:Nat):(gR x n).cps.toList=x.cps.toList.drop n:=by unfold gR;simp
def iH(es:Array DictEntry)(t R:Str):Prop:=bB (t++R) (cutSize es (t++R))=t∧gR (t++R) (cutSize es (t++R))=R
theorem uA{es:Array DictEntry}{t R:Str}(h:cutSize es (t++R)=t.cps.toList.length):iH es t R:=by
 unfold iH
 rw[h]
 exact⟨eM (by rw[jU,c8,ab5];rfl),eM (by rw[sW,c8,List.drop_left'];rfl)⟩
theorem lC{es:Array DictEntry}(T:cN es){S:Str}{n:Nat}{c:Nat}(hc:c∈S.cps.toList.take n)(h:eF c=true∨((c=40∨c=41)∧2≤(S.cps.toList.take n).length)):ci es (bB S n)=false:=by
 cases hi:ci es (bB S n) with
 | false=>rfl
 | true=>
  exfalso
  obtain⟨p1,p2⟩:=qz _ (T.only _ hi)
  rw[jU] at p1 p2
  rcases h with h |⟨h,hl⟩
  ·have:=p1 c hc
   rw[h] at this;cases this
  ·have:=p2 hl c hc
   exact h.elim this.1 this.2
theorem yr{es:Array DictEntry}(T:cN es){c:Nat}(hc:eF c=true)(R:Str):iH es (ch c) R:=by
 have hl:(ch c++R).cps.toList=c::R.cps.toList:=by rw[c8];rfl
 refine uA ?_
 unfold cutSize
 rw[lC T (c:=c) (by rw[hl];simp) (.inl hc),lC T (c:=c) (by rw[hl];simp) (.inl hc)]
 rfl
theorem nn{es:Array DictEntry}(T:cN es){c:Nat}(hc:c=40∨c=41)(R:Str):iH es (ch c) R:=by
 have hl:(ch c++R).cps.toList=c::R.cps.toList:=by rw[c8];rfl
 cases hR:R.cps.toList with
 | nil=>
  have Xn:R=⟨#[]⟩:=eM (by rw[hR])
  subst Xn
  have h1:1≤cutSize es (ch c++⟨#[]⟩):=by
   unfold cutSize
   repeat' split
   all_goals omega
  unfold iH
  refine⟨eM ?_,eM ?_⟩
  ·rw[jU,hl,hR,YN (by simpa using h1)];rfl
  ·rw[sW,hl,hR,List.drop_of_length_le (by simpa using h1)]
 | cons d R'=>
  refine uA ?_
  unfold cutSize
  rw[lC T (c:=c) (by rw[hl];simp) (.inr ⟨hc,by rw[hl,hR];simp⟩),lC T (c:=c) (by rw[hl];simp) (.inr ⟨hc,by rw[hl,hR];simp⟩)]
  rfl
theorem MO{es:Array DictEntry}(T:cN es){k:Nat}(hk:k<48){R:Str}{d:Nat}{R':List Nat}(hR:R.cps.toList=d::R')(hd:eF d=true∨d=40):iH es (bS.getD k ⟨#[]⟩) R:=by
 obtain⟨l1,l3⟩:=wA k hk
 have i8:ci es (bS.getD k ⟨#[]⟩)=true:=by
  obtain⟨t,ht⟩:=T.at' k hk
  unfold ci
  rw[ht];rfl
 generalize bS.getD k ⟨#[]⟩=x at l1 l3 i8
 have hl:(x++R).cps.toList=x.cps.toList++d::R':=by rw[c8,hR]
 have MP:∀n,x.cps.toList.length<n→ci es (bB (x++R) n)=false:=by
  intro n hn
  refine lC T (c:=d) ?_ ?_
  ·rw[hl,List.take_append]
   refine YL _ ?_
   rw[← ZC (Nat.sub_pos_of_lt hn),List.take_succ_cons]
   exact E6
  ·rcases hd with h | h
   ·exact .inl h
   ·refine .inr ⟨.inl h,?_⟩
    rw[hl,YS,N8,Yy]
    exact Nat.le_min.mpr ⟨Yv l1 hn,ZQ l1 (Zp (YK _))⟩
 have Ko:bB (x++R) x.cps.toList.length=x:=eM (by rw[jU,hl,ab5];rfl)
 refine uA ?_
 unfold cutSize
 by_cases h3:x.cps.toList.length=3
 ·rw[← h3,Ko,i8];rfl
 ·have l2:=Y7 (aam l3 h3)
  rw[MP 3 (aam l3 h3)]
  by_cases h2:x.cps.toList.length=2
  ·rw[← h2,Ko,i8];rfl
  ·have TP:=aam l2 h2
   rw[MP 2 TP]
   simp only[YD,Y_]
   first | exact Zr l1 (Y7 TP) | exact(Zr l1 (Y7 TP)).symm
noncomputable def bT(lt:Nat→Nat)(op:Nat→Str):Cl→List Str
 | .leaf n=>[ch (lt n)]
 | .node k l r=>ch 40::(bT lt op l++(op k::(bT lt op r++ [ch 41])))
theorem jv:∀a b:List Str,bf (a++b)=bf a++bf b
 | [],b=>eM (by rw[c8];simp[bf])
 | x::a,b=>by
  rw[Zd,bf,jv a b,bf]
  exact eM (by simp only[c8,Yc])
def mz(es:Array DictEntry):List Str→Prop
 | []=>True
 | t::r=>iH es t (bf r)∧mz es r
theorem yt{lt:Nat→Nat}{op:Nat→Str}(dK:∀n,eF (lt n)=true)(T:Cl)(tail:List Str):∃d R',(bf (bT lt op T++tail)).cps.toList=d::R'∧(eF d=true∨d=40):=by
 cases T with
 | leaf n=>
  refine⟨lt n,(bf tail).cps.toList,?_,.inl (dK n)⟩
  rw[bT,Zd,Zu,bf,c8]
  rfl
 | node k l r=>
  refine⟨40,(bf (bT lt op l++(op k::(bT lt op r++ [ch 41]))++tail)).cps.toList,?_,.inr rfl⟩
  rw[bT,Zd,bf,c8]
  rfl
theorem uB{es:Array DictEntry}(TS:cN es){lt:Nat→Nat}{op:Nat→Str}(dK:∀n,eF (lt n)=true)(wB:∀k,∃i,i<48∧op k=bS.getD i ⟨#[]⟩):∀(T:Cl) (tail:List Str),mz es tail→mz es (bT lt op T++tail)
 | .leaf n,tail,h=> ⟨yr TS (dK n) _,h⟩
 | .node k l r,tail,h=>by
  have h1:mz es (ch 41::tail):=⟨nn TS (.inr rfl) _,h⟩
  have h2:=uB TS dK wB r _ h1
  have h3:mz es (op k::(bT lt op r++(ch 41::tail))):=by
   obtain⟨i,hi,he⟩:=wB k
   obtain⟨d,R',hd,hc⟩:=yt (op:=op) dK r (ch 41::tail)
   refine⟨?_,h2⟩
   rw[he]
   exact MO TS hi hd hc
  have h4:=uB TS dK wB l _ h3
  rw[bT,Zd,Yc,Zd,Yc]
  exact⟨nn TS (.inl rfl) _,h4⟩
theorem Ae{es:Array DictEntry}:∀ {toks:List Str},mz es toks→∀i t,toks[i]? =some t→bB (bf (toks.drop i)) (cutSize es (bf (toks.drop i)))=t∧gR (bf (toks.drop i)) (cutSize es (bf (toks.drop i)))=bf (toks.drop (i+1))
 | [],_,i,t,h=>by simp at h
 | x::r,hc,0,t,h=>by
  have:x=t:=by simpa using h
  subst this
  exact hc.1
 | x::r,hc,i+1,t,h=>by
  have:=Ae hc.2 i t (by simpa using h)
  simpa using this
theorem iI{names:Str}{signs:List Str}:∀c:Cl,written names signs c=bf (bT (fun n=>names.cps.getD n 0) (fun k=>signs.getD k ⟨#[]⟩) c)
 | .leaf n=>by
  rw[written,bT,bf,bf]
  exact eM (by rw[c8];simp[ch])
 | .node k l r=>by
  rw[written,bT,bf,jv,bf,jv,bf,bf,iI l,iI r]
  refine eM ?_
  simp only[c8,Yc]
  rfl
theorem qA{lt lt':Nat→Nat}{op VA:Nat→Str}{fl fk:Nat→Nat}:∀c:Cl,(∀n∈c.aq,lt n=lt' (fl n))→(∀k∈c.aw,op k=VA (fk k))→bT lt op c=bT lt' VA (c.eD fl fk)
 | .leaf n,h,_=>by rw[bT,Cl.eD,bT,h n (by simp[Cl.aq])]
 | .node k l r,h,h'=>by
  rw[bT,Cl.eD,bT,h' k (by simp[Cl.aw]),qA l (fun n hn=>h n (by simp[Cl.aq,hn])) fun k hk=>h' k (by simp[Cl.aw,hk]),qA r (fun n hn=>h n (by simp[Cl.aq,hn])) fun k hk=>h' k (by simp[Cl.aw,hk])]
end
end
section
section
section
variable {es:Array DictEntry}
theorem wC(T:cN es)(h:x∉bS):bo es x=none:=by
 cases hx:bo es x with
 | none=>rfl
 | some v=>exact absurd (T.only x (by unfold ci;rw[hx];rfl)) h
theorem mA:bS.getD 0 ⟨#[]⟩=ch 40∧bS.getD 1 ⟨#[]⟩=ch 41∧(⟨#[]⟩:Str)∉bS:=by decide+kernel
theorem wD(T:cN es){c:Nat}(hc:eF c=true)(P:List PE)(L:List Str)(K:List (PE×PE×PE)):aK es ⟨P,L,K⟩ (ch c)=⟨P++ [.num L.length],L++ [ch c],K⟩:=by
 have:bo es (ch c)=none:=wC T fun hm=>by
  have:=(qz _ hm).1 c (by simp[ch])
  rw[hc] at this;cases this
 unfold aK
 rw[this]
 rfl
theorem sX(T:cN es){i:Nat}(hi:i<48)(h1:i≠1)(P:List PE)(L:List Str)(K:List (PE×PE×PE)):aK es ⟨P,L,K⟩ (bS.getD i ⟨#[]⟩)=⟨P++ [.num (208+(i:Int))],L,K⟩:=by
 obtain⟨t,ht⟩:=T.at' i hi
 unfold aK
 rw[ht]
 have e:(7+(i:Int)+201==209)=false:=by
  rw[ZO];omega
 simp only[e,Bool.false_and,YD,Y_]
 rw[show 7+(i:Int)+201=208+(i:Int) by omega]
theorem BB(T:cN es)(P:List PE)(L:List Str)(K:List (PE×PE×PE)):aK es ⟨P,L,K⟩ (ch 40)=⟨P++ [.num 208],L,K⟩:=by
 have:=sX T (i:=0) (by decide) (by decide) P L K
 rw[mA.1] at this
 exact this
theorem FD(P:List PE)(a b c d:PE):(P++ [a,b,c,d]).getD ((P++ [a,b,c,d]).length - 4) .fin=a∧(P++ [a,b,c,d]).getD ((P++ [a,b,c,d]).length - 3) .fin=b∧(P++ [a,b,c,d]).getD ((P++ [a,b,c,d]).length - 2) .fin=c∧(P++ [a,b,c,d]).getD ((P++ [a,b,c,d]).length - 1) .fin=d∧(P++ [a,b,c,d]).take ((P++ [a,b,c,d]).length - 4)=P:=by
 have hl:(P++ [a,b,c,d]).length=P.length+4:=by rw[N8];rfl
 rw[hl]
 have hg:∀i:Nat,i<4→(P++ [a,b,c,d]).getD (P.length+i) .fin=[a,b,c,d].getD i .fin:=by
  intro i hi
  rw[N4,List.getElem?_append_right (Yl ..),aag,N4]
 refine⟨?_,?_,?_,?_,?_⟩
 ·rw[show P.length+4 - 4=P.length+0 from rfl,hg 0 (by decide)];rfl
 ·rw[show P.length+4 - 3=P.length+1 from rfl,hg 1 (by decide)];rfl
 ·rw[show P.length+4 - 2=P.length+2 from rfl,hg 2 (by decide)];rfl
 ·rw[show P.length+4 - 1=P.length+3 from rfl,hg 3 (by decide)];rfl
 ·rw[show P.length+4 - 4=P.length from rfl,ab5];rfl
theorem yu(T:cN es)(P:List PE)(l s r:PE)(L:List Str)(K:List (PE×PE×PE)):aK es ⟨P++ [.num 208,l,s,r],L,K⟩ (ch 41)=⟨P++ [.num (6+K.length)],L,K++ [(s,l,r)]⟩:=by
 obtain⟨t,ht⟩:=T.at' 1 (by decide)
 rw[mA.2.1] at ht
 obtain⟨g4,g3,g2,g1,gt⟩:=FD P (.num 208) l s r
 have hf:dB (P++ [.num 208,l,s,r])=true:=by
  unfold dB
  rw[g4]
  simp
 unfold aK
 rw[ht]
 have e:(7+((1:Nat):Int)+201==209)=true:=rfl
 simp only[e,hf,Bool.and_self,ZB]
 rw[g3,g2,g1,gt]
theorem qB(TS:cN es){lt:Nat→Nat}{op:Nat→Str}{sg:Nat→Int}(dK:∀n,eF (lt n)=true)(wB:∀k,∃i:Nat,2≤i∧i<48∧op k=bS.getD i ⟨#[]⟩∧sg k=208+(i:Int)):∀(T:Cl) (P:List PE) (L:List Str) (K:List (PE×PE×PE)),T.aq=range' L.length T.af→
  (bT lt op T).foldl (aK es) ⟨P,L,K⟩=⟨P++ [.num (bh T K.length)],L++T.aq.map (fun n=>ch (lt n)),K++(aG sg T K.length).map yo⟩
 | .leaf n,P,L,K,h=>by
  have hn:n=L.length:=by simpa [Cl.aq,Cl.af,range'] using h
  rw[bT,aaF,foldl_nil,wD TS (dK n),bh,Cl.aq,aG,aaM,YC,hn]
  rfl
 | .node k l r,P,L,K,h=>by
  simp only[Cl.aq,Cl.af] at h
  rw[← List.range'_append_1] at h
  obtain⟨h1,h2⟩:=List.append_inj h (by rw[bN,List.length_range'])
  obtain⟨i,wK,hi,he,hs⟩:=wB k
  rw[bT,aaF,BB TS,ZL,qB TS dK wB l _ _ _ h1,aaF,he,sX TS hi (by omega),ZL]
  have hL:(L++l.aq.map fun n=>ch (lt n)).length=L.length+l.af:=by rw[N8,E7,bN]
  have hK:(K++(aG sg l K.length).map yo).length=K.length+l.nodes:=by rw[N8,E7,bQ]
  rw[qB TS dK wB r _ _ _ (by rw[hL];exact h2),aaF,foldl_nil,hK]
  have hp:P++ [PE.num 208]++ [.num (bh l K.length)]++ [.num (208+(i:Int))]++ [.num (bh r (K.length+l.nodes))]=P++ [.num 208,.num (bh l K.length),.num (208+(i:Int)),.num (bh r (K.length+l.nodes))]:=by simp
  rw[hp,yu TS]
  have Xo:(K++(aG sg l K.length).map yo++(aG sg r (K.length+l.nodes)).map yo).length=K.length+l.nodes+r.nodes:=by
   rw[N8,hK,E7,bQ]
  rw[Xo,Cl.aq,aG,N9,N9,N9,← hs]
  simp only[Yc]
  rfl
theorem IF(TS:cN es){lt:Nat→Nat}{op:Nat→Str}{sg:Nat→Int}(dK:∀n,eF (lt n)=true)(wB:∀k,∃i:Nat,2≤i∧i<48∧op k=bS.getD i ⟨#[]⟩∧sg k=208+(i:Int)){T:Cl}(h:T.aq=List.range 6)(hl:T.af=6):
  aQ es (bT lt op T) ((bT lt op T).length+1)=⟨[.num (bh T 0),.fin],T.aq.map (fun n=>ch (lt n)),(aG sg T 0).map yo⟩:=by
 unfold aQ
 rw[YN (by simp),ZL,qB TS dK wB T [] [] [] (by rw[h,hl];rfl),aaF,foldl_nil]
 unfold aK
 rw[wC TS mA.2.2]
 rfl
end
end
end
section
section
theorem IG(c3:Int):∃r,r<15∧eV c3=fg.getD r ⟨#[]⟩:=by
 obtain⟨h1,h2⟩:=jS (c:=c3) (a:=30) (b:=15) (by decide) (by decide) (by decide)
 exact⟨_,(Ze h1).mpr h2,rfl⟩
noncomputable def Kp(nm:Str)(n:Nat):Nat:=nm.cps.getD n 0
theorem FE:∀r,r<15→(((List.range 6).all fun a=>decide (Kp (fg.getD r ⟨#[]⟩) a∈six)&& (List.range 6).all fun b=>gJ (fg.getD r ⟨#[]⟩) a b==(al (Kp (fg.getD r ⟨#[]⟩) a)==al (Kp (fg.getD r ⟨#[]⟩) b)&&!(a==b)))&& (([0,1,2,3,4,5]:List Nat).map fun n=>al (Kp (fg.getD r ⟨#[]⟩) n)).isPerm [97,97,98,98,99,99])=true:=by decide+kernel
theorem yv{js:List Int}(c4:Int)(h:js.length=5):(dX js c4).Perm js:=by
 obtain⟨h1,h2⟩:=jS (c:=c4) (a:=10) (b:=5) (by decide) (by decide) (by decide)
 have h3:(ju c4 10 5).toNat≤5:=YA ((Ze h1).mpr h2)
 unfold dX
 generalize(ju c4 10 5).toNat=r at h3
 have e:((js++js).drop r).take 5=js.drop r++js.take r:=by
  rw[List.drop_append_of_le_length (by rw[h];exact h3),List.take_append,YN (by rw[YJ,h];exact sub_le ..),YJ,h,Nat.sub_sub_self h3]
 rw[e]
 exact List.perm_append_comm.trans (by rw[ZW])
theorem jw{names:Str}{signs:List Str}(hs:∀k,(signs.getD k ⟨#[]⟩).length≤3):∀c:Cl,(written names signs c).length≤c.af+5*c.nodes
 | .leaf n=>by simp[written,Str.length,Cl.af]
 | .node k l r=>by
  have h1:=jw hs l (names:=names)
  have h2:=jw hs r (names:=names)
  have h3:=hs k
  rw[written,qZ,qZ,qZ,qZ]
  have e1:(Str.ofString "(").length=1:=rfl
  have e2:(Str.ofString ")").length=1:=rfl
  simp only[Cl.af,Cl.nodes]
  omega
theorem yw{names:Str}{signs:List Str}(hs:∀k,(signs.getD k ⟨#[]⟩).length≤3)(hn:names.length=6)(hl:signs.length=5):∀c:Cl,(∀n∈c.aq,n<6)→(∀k∈c.aw,k<5)→c.af+5*c.nodes≤1000→Pf names signs c
 | .leaf n,h,_,_=>by
  show n<names.length
  rw[hn];exact h n (by simp[Cl.aq])
 | .node k l r,h,h',hb=>by
  have:=jw hs (.node k l r) (names:=names)
  have Jb:=hb
  simp only[Cl.af,Cl.nodes] at Jb
  exact⟨by rw[hl];exact h' k (by simp[Cl.aw]),yw hs hn hl l (fun n hn=>h n (by simp[Cl.aq,hn])) (fun n hn=>h' n (by simp[Cl.aw,hn])) (by omega),yw hs hn hl r (fun n hn=>h n (by simp[Cl.aq,hn])) (fun n hn=>h' n (by simp[Cl.aw,hn])) (by omega),by omega⟩
theorem qC(lt:Nat→Nat)(op:Nat→Str):∀c:Cl,(bT lt op c).length=c.af+3*c.nodes
 | .leaf n=>rfl
 | .node k l r=>by
  simp only[bT,Yy,N8,qC lt op l,qC lt op r,Cl.af,Cl.nodes,aaD]
  omega
theorem mC{lt:Nat→Nat}{op:Nat→Str}(wB:∀k,1≤(op k).length∧(op k).length≤3):∀c:Cl,∀t∈bT lt op c,1≤t.length∧t.length≤3
 | .leaf n,t,h=>by
  rw[bT,X8] at h
  subst h
  exact⟨N1 1,E1 rfl⟩
 | .node k l r,t,h=>by
  rw[bT] at h
  simp only[J0,Yf,Y5,aaL] at h
  rcases h with rfl | h | rfl | h | rfl
  ·exact⟨N1 1,E1 rfl⟩
  ·exact mC wB l t h
  ·exact wB k
  ·exact mC wB r t h
  ·exact⟨N1 1,E1 rfl⟩
theorem wE:∀l:List Str,(∀t∈l,t.length≤3)→(bf l).length≤3*l.length
 | [],_=>by simp[bf,Str.length]
 | x::l,h=>by
  have h1:=h x E6
  have h2:=wE l fun t ht=>h t (E4 _ ht)
  rw[bf,qZ,Yy]
  omega
theorem wF:∀ {l:List Str} {i:Nat},(∀t∈l,1≤t.length)→i<l.length→(bf (l.drop i)).length≠0
 | [],i,_,h=>by simp at h
 | x::l,0,h,_=>by
  have:=h x E6
  rw[drop_zero,bf,qZ]
  omega
 | x::l,i+1,h,hi=>by
  rw[List.drop_succ_cons]
  exact wF (fun t ht=>h t (E4 _ ht)) (by simpa using hi)
theorem jV(d:Nat):∀(l:List Nat) (k:Nat),(∀c∈l,al (al c)=al c)→aa k l d=aa k (l.map al) d
 | [],_,_=>rfl
 | c::l,k,h=>by
  rw[Ye,aa,aa,jV d l (k+1) fun c hc=>h c (E4 _ hc),h c E6]
theorem BC{l:List Nat}(h:∀c∈l,al (al c)=al c):dC l=dC (l.map al):=by
 unfold dC
 simp only[jV _ l 0 h]
theorem uC{l:List Nat}(h:∀c∈l,al (al c)=al c)(i:Nat)(hi:i<l.length):al (l.getD i 0)=al ((l.map al).getD i 0):=by
 have e:(l.map al).getD i 0=al (l.getD i 0):=by
  rw[N4,N4,Yi,N6 hi];rfl
 rw[e,getD_at hi,h _ (ZA _)]
theorem IH{l:List Nat}(h:∀c∈l,al (al c)=al c)(h6:l.length=6):cX l 6=cX (l.map al) 6:=by
 have e1:∀l:List Nat,cX l 6=g_ (mi l) 6:=fun l=>rfl
 rw[e1,e1]
 refine kD (fun i hi j hj=>?_) 6 (N1 _)
 unfold mi
 rw[uC h i (by omega),uC h j (by omega)]
end
end
section
set_option tactic.hygienic true
section
theorem VB(x:Int):∃i:Nat,2≤i∧i<48∧2+x.fmod 46=(i:Int):=by
 have BQ:0≤x.fmod 46:=YF _ (by decide)
 have ME:x.fmod 46<46:=YV _ (by decide)
 obtain⟨n,h⟩:=Zc BQ
 rw[h] at ME ⊢
 exact⟨2+n,Yl ..,abx (Yd.mp ME) 2,rfl⟩
theorem II(c5:Int):dI c5≠bj c5:=by
 unfold dI bj
 have BQ:0≤(c5.fdiv 46).fmod 45:=YF _ (by decide)
 have ME:(c5.fdiv 46).fmod 45<45:=YV _ (by decide)
 generalize(c5.fdiv 46).fmod 45=d at BQ ME
 rw[Z1 _ (by decide),Z1 _ (by decide)]
 omega
theorem QC{T:Cl}(h:T.nodes=5):bh T 0=10:=by
 cases T with
 | leaf n=>cases h
 | node k l r=>
  have e:0+l.nodes+r.nodes=4:=by rw[YQ];exact abR (Eq.trans (by simp only[Cl.nodes]) h)
  show 6+((0+l.nodes+r.nodes:Nat):Int)=10
  rw[e];rfl
theorem BD{es:Array DictEntry}(TS:cN es):ww es:=by
 intro c0 c1 c2 c3 c4 c5 X _ _ _ _ _ h5
 obtain⟨cl,js,Ct,JR,RH,VC⟩:=yc c0 c1 c2
 obtain⟨r,hr,t0⟩:=IG c3
 have MP:=FE r hr
 rw[← t0] at MP
 have Ql:js.length=5:=VC.length_eq
 have JT:=(yv c4 Ql).trans VC
 have Nb:(dX js c4).length=5:=JT.length_eq
 generalize hk:dX js c4=ks at JT Nb
 generalize FF:eV c3=nm at MP
 have Mc:nm.length=6:=by rw[← FF];exact jT c3
 have uD:∀n∈cl.aq,n<6:=fun n hn=>Ya.mp (JR.mem_iff.mp hn)
 have uE:∀k∈cl.aw,k<5:=fun k hk=>Ya.mp (RH.mem_iff.mp hk)
 have FG:cl.af=6:=by rw[← bN,JR.length_eq];rfl
 have IJ:cl.nodes=5:=by rw[← fU,RH.length_eq];rfl
 have KJ:cl.aq.Nodup:=JR.symm.nodup (by decide)
 have FJ:∀n,n<6→n∈cl.aq:=fun n hn=>JR.mem_iff.mpr (Ya.mpr hn)
 generalize hT:eU cl ks=T
 have QD:T.aq=List.range 6:=by rw[← hT];unfold eU;rw[fV,sL KJ,bN,FG]
 have QE:T.af=6:=by rw[← bN,QD];rfl
 have VD:T.aw=cl.aw.map (kindOf ks):=by rw[← hT];unfold eU;rw[eT]
 have TQ:∀k∈T.aw,k=0∨k=1:=fun k hk=>by
  rw[VD] at hk
  obtain⟨j,_,rfl⟩:=N5.mp hk
  unfold kindOf
  split <;> simp
 have QF:T.nodes=5:=by rw[← fU,VD,E7,fU,IJ]
 have QG:∀x∈ks,x=0∨x=1:=fun x hx=>by have:=JT.mem_iff.mp hx;simp at this;omega
 have VE:T.aw.Perm [0,0,1,1,1]:=hT▸lq RH JT
 generalize MQ:(fun n=>Kp nm n)=lt
 have QH:∀n,lt n=Kp nm n:=fun n=>by rw[← MQ]
 generalize RI:cl.aq.map lt=lv
 have wG:lv.length=6:=by rw[← RI,E7,bN,FG]
 simp only[Yb,E9,Ya,Yq,Y1,List.isPerm_iff] at MP
 obtain⟨QI,TR⟩:=MP
 have eZ:∀c∈lv,c∈six:=fun c hc=>by
  rw[← RI] at hc
  obtain⟨n,hn,rfl⟩:=N5.mp hc
  rw[QH]
  exact(QI n (uD n hn)).1
 have qD:∀c∈lv,al (al c)=al c:=fun c hc=>by
  have:six.all (fun c=>al (al c)==al c)=true:=by decide
  simpa using E9.mp this c (eZ c hc)
 have IK:∀c∈six,eF c=true:=by decide
 have mD:∀n,n<6→place cl n<6∧lv.getD (place cl n) 0=lt n∧lv.getD (place cl n) 97=lt n:=by
  intro n hn
  have hm:=FJ n hn
  have hi:cl.aq.idxOf n<cl.aq.length:=aaN.mpr hm
  have TT:cl.aq.idxOf n<6:=by rw[bN,FG] at hi;exact hi
  have e:∀d,lv.getD (cl.aq.idxOf n) d=lt n:=by
   intro d
   rw[getD_at (Y3 TT wG.symm)]
   have:lv[cl.aq.idxOf n]'(Y3 TT wG.symm)=(cl.aq.map lt)[cl.aq.idxOf n]'(by rw[E7];exact hi):=by simp only[RI]
   rw[this,abi,abF]
  exact⟨TT,e 0,e 97⟩
 have QJ:∀a,a<6→∀b,b<6→(place cl a=place cl b↔a=b):=by
  intro a ha b hb
  refine⟨fun h=>?_,fun h=>by rw[h]⟩
  have ia:cl.aq.idxOf a<cl.aq.length:=aaN.mpr (FJ a ha)
  have ib:cl.aq.idxOf b<cl.aq.length:=aaN.mpr (FJ b hb)
  have e1:cl.aq[cl.aq.idxOf a]=a:=abF ia
  have e2:cl.aq[cl.aq.idxOf b]=b:=abF ib
  unfold place at h
  simp only[h] at e1
  rw[← e1,e2]
 have QK:(lv.map al).Perm [97,97,98,98,99,99]:=by
  rw[← RI,YU]
  refine(JR.map _).trans ?_
  have e:([0,1,2,3,4,5]:List Nat).map (al∘lt)=[0,1,2,3,4,5].map fun n=>al (Kp nm n):=by rw[← MQ];rfl
  rw[e]
  exact TR
 have VF:=Fm QK
 have DI:=E9.mp ID _ VF
 have SF:=E9.mp yq _ VF
 have Qb:=BC qD
 generalize Xp:FB (lv.map al)=m at DI SF
 unfold Km at DI
 rw[Xp,← Qb] at DI
 simp only[Yb,Yq] at DI
 obtain⟨QL,TU,H6,MR,QM⟩:=DI
 have M:=FC MR
 obtain⟨iB,Tv,TV,hB⟩:∃i:Nat,2≤i∧i<48∧dI c5=(i:Int):=VB c5
 obtain⟨iE,Xq,TW,hE⟩:∃i:Nat,2≤i∧i<48∧bj c5=(i:Int):=VB _
 have Xr:=II c5
 let sg:Nat→Int:=fun t=>208+(if t=1 then bj c5 else dI c5)
 let op:Nat→Str:=fun t=>bS.getD (if t=1 then iE else iB) ⟨#[]⟩
 let lt':Nat→Nat:=fun i=>lv.getD i 97
 have QN:∀n,eF (lt' n)=true:=fun n=>by
  show eF (lv.getD n 97)=true
  by_cases h:n<lv.length
  ·rw[getD_at h];exact IK _ (eZ _ (ZA _))
  ·rw[N4,Zk (YZ h)];rfl
 have wB:∀k,∃i:Nat,2≤i∧i<48∧op k=bS.getD i ⟨#[]⟩∧sg k=208+(i:Int):=fun k=>by
  by_cases h:k=1
  ·exact⟨iE,Xq,TW,by show bS.getD (if k=1 then iE else iB) _=_;rw[X6 h],by show 208+(if k=1 then _ else _)=_;rw[X6 h,hE]⟩
  ·exact⟨iB,Tv,TV,by show bS.getD (if k=1 then iE else iB) _=_;rw[X5 h],by show 208+(if k=1 then _ else _)=_;rw[X5 h,hB]⟩
 have QO:∀k,1≤(op k).length∧(op k).length≤3:=fun k=>by
  obtain⟨i,_,hi,he,_⟩:=wB k
  rw[he]
  have:=wA i hi
  have e:∀x:Str,x.length=x.cps.toList.length:=fun x=>by simp[Str.length]
  rw[e];exact this
 have QP:∀k,(eE js c4 c5).getD k ⟨#[]⟩=if k<5 then op (kindOf ks k) else⟨#[]⟩:=fun k=>by
  unfold eE
  rw[hk,N4,Yi]
  by_cases h:k<5
  ·have K6:k<ks.length:=Y3 h Nb.symm
   rw[X6 h,N6 K6]
   show bS.getD (cond (ks[k] !=0) (bj c5) (dI c5)).toNat ⟨#[]⟩=bS.getD (if kindOf ks k=1 then iE else iB) ⟨#[]⟩
   have hv:=QG ks[k] (ZA _)
   unfold kindOf
   rw[getD_at K6]
   rcases hv with hv | hv
   ·rw[hv,hB];rfl
   ·rw[hv,hE];rfl
  ·rw[X5 h,Zk (E2 (X7 Nb) (YZ h))];rfl
 have Xs:∀k,((eE js c4 c5).getD k ⟨#[]⟩).length≤3:=fun k=>by
  rw[QP]
  split
  ·exact(QO _).2
  ·exact YK 3
 have Xt:(eE js c4 c5).length=5:=by unfold eE;rw[E7,hk,Nb]
 have QQ:bT lt (fun k=> (eE js c4 c5).getD k ⟨#[]⟩) cl=bT lt' op T:=by
  rw[← hT]
  unfold eU
  refine qA cl (fun n hn=>?_) fun k Dn=>?_
  ·exact((mD n (uD n hn)).2.2).symm
  ·rw[QP,X6 (uE k Dn)]
 have Pi:=qC lt' op T
 rw[QE,QF] at Pi
 have TX:=mC (lt:=lt') QO T
 have TY:T.aq.map (fun n=>ch (lt' n))=lv.map ch:=by
  rw[QD]
  refine List.ext_getElem (by simp[wG]) fun i h1 h2=>?_
  rw[abi,abi,List.getElem_range]
  show ch (lv.getD i 97)=_
  rw[getD_at (by simpa using h2)]
 have z':=QC QF
 have TZ:sg 0≠208+bj c5:=fun h=>Xr (Int.add_left_cancel (h:208+dI c5=208+bj c5))
 have Kq:=Fk QL TZ rfl M QD TQ QF (by rw[VE.count_eq];rfl)
 have Ix:∀a,a<6→∀b,b<6→(Qp (place cl a) (place cl b)).testBit m=gJ nm a b:=by
  intro a ha b hb
  rw[It m QL _ (mD a ha).1 _ (mD b hb).1,(QI a ha).2 b hb]
  have h1:=E9.mp QM (place cl a) (Ya.mpr (mD a ha).1)
  have h2:=E9.mp h1 (place cl b) (Ya.mpr (mD b hb).1)
  rw[Y1] at h2
  have h3:((Fe.getD m []).getD (place cl a) 9==place cl b)=(j0 m (place cl a)==place cl b):=rfl
  rw[h3,h2]
  have Kr:∀n,n<6→(lv.map al).getD (place cl n) 0=al (Kp nm n):=by
   intro n hn
   obtain⟨q1,q2,_⟩:=mD n hn
   rw[N4,Yi,N6 (Y3 q1 wG.symm)]
   rw[getD_at (Y3 q1 wG.symm)] at q2
   rw[q2]
   show al (lt n)=_
   rw[QH]
  have Xu:(place cl a==place cl b)=(a==b):=by
   rw[Zs,Y1,Y1]
   exact QJ a ha b hb
  rw[Kr a ha,Kr b hb,Xu]
 have pv:=Bp JR RH JT Ix
 rw[hT] at pv
 refine⟨cl,js,bT lt' op T,lv,aG sg T 0,?_⟩
 exact
  {claim:=Ct
   jl:=Ql
   dep:=E2 (jr cl) (IJ.symm▸by decide)
   Vj:=by show cl.nodes+0<6;rw[IJ];decide
   Vk:=by show cl.af+0≤20;rw[FG];decide
   ok:=z9 uD uE
   Vl:=by rw[FF];exact yw Xs Mc Xt cl uD uE (by rw[FG,IJ];decide)
   wr:=by rw[FF,iI,← QQ,← MQ];rfl
   tl:=by rw[Pi];decide
   Vm:=fun i t h=>by
    rcases Yf.mp (Yh h) with h | h
    ·exact E2 (TX t h).2 (by decide)
    ·rw[X8.mp h];exact YK _
   Vn:=fun i hi=>wF (fun t ht=> (TX t ht).1) hi
   Vo:=fun i=>by
    have:=wE ((bT lt' op T).drop i) fun t ht=> (TX t (Zq ht)).2
    rw[YJ,Pi] at this
    exact E2 this (E2 (Zv 3 (sub_le ..)) (by decide))
   cut:=Ae (by
    have:=uB TS QN (fun k=>by obtain⟨i,_,hi,he,_⟩:=wB k;exact⟨i,hi,he⟩) T [] trivial
    rwa [YC] at this)
   Vp:=by rw[IF TS QN wB QD QE,z',TY]
   RC:=wG
   six:=eZ
   Nd:=fun d hd=>by
    have:=E9.mp TU d hd
    rw[jV d lv 0 qD]
    split at this
    ·rename_i a b SI
     simp only[Yb,Yq] at this
     exact⟨a,b,SI,this.1,this.2⟩
    ·cases this
   ord:=by
    rw[IH qD wG,jV 97 lv 0 qD,jV 98 lv 0 qD,jV 99 lv 0 qD]
    unfold Kl at H6
    exact eq_of_beq H6
   ll:=by rw[bQ,QF]
   Vq:=fun t ht=>by
    obtain⟨i,hi⟩:=Zm.mp ht
    have Iq:=(Ym.mp hi).1
    rw[bQ,QF] at Iq
    have k:∀i:Nat,i<5→6+((0+i:Nat):Int)≤11:=fun i h=>by rw[YQ];exact Y0 (YH.mpr (YA h)) 6
    have:=g9 T 0 i t (by rw[QD];intro i hi;exact Ya.mp hi) hi
    exact⟨this.1.1,Zb this.1.2 (k i Iq),this.2.1,Zb this.2.2 (k i Iq)⟩
   sgn:=by rw[gu];exact VE.map sg
   free:=by rw[Kq,FF,hk];exact pv.1.symm
   ring:=by
    obtain⟨q,hq,hw⟩:=ym X
    have Xv:=E9.mp SF q (Ya.mpr hq)
    obtain⟨x,y,z,h1,h2⟩:=IE Xv
    refine⟨x,y,z,?_,?_⟩
    ·rw[← h1]
     unfold gY
     rw[← Qb]
     have QR:∀(l:List (Int×Int)),(∀p∈l,(0≤p.1∧p.1<6)∧0≤p.2∧p.2<6)→l.flatMap (bM (bX (cC X 6) lv 6) (cC X 6))=l.flatMap (kF (Ab q) (lv.map al)):=by
      intro l
      induction l with
      | nil=>intro _;rfl
      | cons p l ih=>
       intro h
       rw[Z4,Z4,ih fun p hp=>h p (E4 _ hp),Bs (by unfold cC;rw[E7,Zh]) wG]
       rw[uu hw (fun i=>?_) (h p E6)]
       by_cases hi:i<lv.length
       ·exact uC qD i hi
       ·rw[N4,N4,Zk (YZ hi),Zk (by rw[E7];exact YZ hi)]
     exact QR _ M.lt
    ·rw[h2,Kq,FF,hk,Bool.not_not]
     exact pv.2.symm }
end
end
section
set_option tactic.hygienic true
section
noncomputable def fo(x:UInt64)(g:UInt64→Bool):Bool:=match x.toNat with
 | 0=>g 0
 | n+1=>g (UInt64.ofNat (n+1))
theorem Af(x:UInt64)(g:UInt64→Bool):fo x g=g x:=by
 unfold fo
 split
 ·rename_i h
  have:x=0:=UInt64.toNat_inj.mp h
  rw[this]
 ·rename_i n h
  rw[show n+1=x.toNat from h.symm,UInt64.ofNat_toNat]
noncomputable def QS(x:Int)(g:Int→Bool):Bool:=match x with
 | .ofNat 0=>g 0
 | .ofNat (n+1)=>g (Int.ofNat (n+1))
 | .negSucc n=>g (.negSucc n)
theorem FK(x:Int)(g:Int→Bool):QS x g=g x:=by
 unfold QS
 split <;> rfl
noncomputable def MS(r g b M D:UInt64)(K:UInt64→Bool):Bool:=
 fo (div (Float64.sub M r) D) fun rc=>fo (div (Float64.sub M g) D) fun gc=>fo (div (Float64.sub M b) D) fun bc=>
  fo (cond (q8 r M) (Float64.sub bc gc) (cond (q8 g M) (Float64.sub (add F2 rc) bc) (Float64.sub (add F4 gc) rc))) fun h=>fo (div h F6) fun h6=>fo (divmod h6 F1).2 K
theorem IL(r g b M D:UInt64)(K:UInt64→Bool):MS r g b M D K=K (iN r g b M D):=by
 unfold MS iN
 simp only[Af]
noncomputable def MU(k:Int)(f H S V:UInt64)(sh va:Nat):Bool:=
 fo (bn k f S V).1 fun r=>fo (bn k f S V).2.1 fun g=>fo (bn k f S V).2.2 fun b=>
 fo (mx (r,g,b)) fun M=>fo (mn (r,g,b)) fun m=>fo (Float64.sub M m) fun D=>fo (add M m) fun A=>fo (Float64.sub (Float64.sub F2 M) m) fun B=>
 !q8 m M&& (!isZero M&& (!isZero D&& (!isZero A&& (!isZero B&& (MS r g b M D (fun h=>h==H)&& (div D M==S&& (M==V&&
  (fo (div A F2) fun L=>L==bU (va*(8 - sh)) 32&& (cond (Ru L Fh) (div D A) (div D B)==iO sh va)))))))))
theorem IM{k:Int}{f:UInt64}{cj sh va:Nat}(h:MU k f (bU cj 64) (bU sh 4) (bU va 4) sh va=true):Ew k f cj sh va:=by
 unfold MU at h
 simp only[Af,IL,Yb,YM,Y1] at h
 obtain⟨h1,h2,h3,h4,h5,h6,h7,h8,h9,Ma⟩:=h
 refine⟨h1,h2,h3,h4,h5,?_,?_⟩
 ·unfold qe
  rw[h6]
  exact E8 (Prod.mk _) (by rw[h7,h8])
 ·unfold qf
  rw[h6]
  refine E8 (Prod.mk _) ?_
  unfold xY
  rw[h9,← Ma,h9]
noncomputable def gG(k0:Int)(f0:UInt64)(cj turn:Nat):Bool:=
 fo (qJ cj turn) fun h=>fo (mul h F6) fun y=>isFinite y&& (QS (bZ y) fun i=>fo (ofInt i) fun o=>!isInf o&& (i.fmod 6==k0&&Float64.sub y o==f0))
theorem sY{cj turn:Nat}(h:gG ((nE (qJ (cj % 64) 0)).fmod 6) (t_ (qJ (cj % 64) 0)) cj turn=true):jN cj turn:=by
 unfold gG at h
 simp only[Af,FK,Yb,YM,Y1] at h
 exact⟨h.1,h.2.1,h.2.2.1,h.2.2.2⟩
noncomputable def IN(cj:Nat):Bool:=
 fo (qJ cj 0) fun h=>fo (mul h F6) fun y=>QS (bZ y) fun i=>QS (i.fmod 6) fun k=>fo (Float64.sub y (ofInt i)) fun f=>
  (gG k f cj 0&& (gG k f cj 1&& (gG k f cj 2&& (gG k f (cj+64) 0&& (gG k f (cj+64) 1&&gG k f (cj+64) 2)))))&&
  (fo (bU cj 64) fun H=> (fo (mul H (ofInt 64)) fun z=>isFinite z&&bZ z==cj)&& (List.range 4).all fun a=>fo (bU (a+1) 4) fun S=> (List.range 4).all fun b=>fo (bU (b+1) 4) fun V=>MU k f H S V (a+1) (b+1))
theorem IP:((List.range 32).all IN)=true:=by decide+kernel
theorem IQ:((List.range 32).all fun n=>IN (n+32))=true:=by decide+kernel
theorem IR{cj:Nat}(h:cj<64):IN cj=true:=by
 by_cases hc:cj<32
 ·exact E9.mp IP cj (Ya.mpr hc)
 ·have:=E9.mp IQ (cj - 32) (Ya.mpr (Z3 (YZ hc) h))
  rw[ZC (YZ hc)] at this
  exact this
theorem BE:lh:=by
 have wH:∀cj,cj<64→(∀t,t<3→jN cj t∧jN (cj+64) t)∧(isFinite (mul (bU cj 64) (ofInt 64))=true∧bZ (mul (bU cj 64) (ofInt 64))=cj)∧∀a,a<4→∀b,b<4→Ew ((nE (qJ cj 0)).fmod 6) (t_ (qJ cj 0)) cj (a+1) (b+1):=by
  intro cj hh
  have h:=IR hh
  unfold IN at h
  simp only[Af,FK,Yb,Y1,E9,Ya] at h
  obtain⟨⟨w1,w2,w3,w4,w5,w6⟩,⟨b1,b2⟩,hc⟩:=h
  have hm:cj % 64=cj:=Nat.mod_eq_of_lt hh
  have Xw:(cj+64) % 64=cj:=(Nat.add_mod_right cj 64).trans hm
  have W:∀t,gG ((nE (qJ cj 0)).fmod 6) (t_ (qJ cj 0)) cj t=true→jN cj t:=fun t h=>sY (by rw[hm];exact h)
  have W':∀t,gG ((nE (qJ cj 0)).fmod 6) (t_ (qJ cj 0)) (cj+64) t=true→jN (cj+64) t:=fun t h=>sY (by rw[Xw];exact h)
  refine⟨fun t ht=>?_,⟨b1,b2⟩,fun a ha b hb=>IM (hc a ha b hb)⟩
  match t,ht with
  | 0,_=>exact⟨W 0 w1,W' 0 w4⟩
  | 1,_=>exact⟨W 1 w2,W' 1 w5⟩
  | 2,_=>exact⟨W 2 w3,W' 2 w6⟩
 refine⟨fun cj turn h1 h2=>?_,fun cj cc ay h hs hv=>?_,fun cj h=> (wH cj h).2.1.1,fun cj h=> (wH cj h).2.1.2⟩
 ·by_cases hc:cj<64
  ·exact((wH cj hc).1 turn h2).1
  ·have:=((wH (cj - 64) (Z3 (YZ hc) h1)).1 turn h2).2
   rw[ZC (YZ hc)] at this
   exact this
 ·have:=(wH cj h).2.2 (cc - 1) (Z3 hs.1 (aa6 hs.2)) (ay - 1) (Z3 hv.1 (aa6 hv.2))
  rw[ZC hs.1,ZC hv.1] at this
  exact this
end
end
section
set_option tactic.hygienic true
section
theorem QT{h:Heap}{a:Addr}(e:h.get? a=some o){es:Array DictEntry}{ep:Nat}(hd:o.data= .dict es ep)(hk:StrKeys es):h.Ns a (nsFind es):=⟨o,es,ep,e,hd,hk,fun O=>rfl⟩
theorem yx{es:Array DictEntry}(h:s9 es=true):StrKeys es:=fun e he=>by
 have:=E9.mp h e (abv.mpr he)
 split at this
 ·rename_i n t hk;exact⟨n,t,hk⟩
 ·cases this
theorem IS{es:Array DictEntry}(h:valsOk es.toList=true)(x:Str)(v:Value)(hv:bo es x=some v):∃c t,v= .int c t∧7≤c∧c≤54:=by
 unfold bo findBy at hv
 obtain⟨e,he,rfl⟩:=aap.mp hv
 have hm:=Array.mem_of_find?_eq_some he
 have:=E9.mp h e (abv.mpr hm)
 split at this
 ·rename_i c t hc
  exact⟨c,t,hc,Yr this⟩
 ·cases this
noncomputable def sZ(h:Heap):FM:=⟨fun O=>none,fun a=>if iJ a=true then none else h.get? a⟩
theorem IU{a:Addr}(ha:iJ a=false):(sZ h).f a=h.get? a:=X5 (by rw[ha];exact Yt)
theorem FP{a:Addr}(e:(sZ h).f a=some o):h.get? a=some o:=by
 have e':(if iJ a=true then none else h.get? a)=some o:=e
 split at e'
 ·cases e'
 ·exact e'
def DictAt(h:Heap)(a:Addr):Prop:= ∃o n,(sZ h).f a=some o∧o.data= .dict (yA h a) n∧s9 (yA h a)=true
theorem DictAt.ns{a:Addr}(x:DictAt h a){h':Heap}(hk:∀a o,(sZ h).f a=some o→h'.get? a=some o):h'.Ns a (oo h a):=
 let⟨_,_,e,hd,hs⟩:=x;QT (hk _ _ e) hd (yx hs)
theorem eG{a:Addr}(e:hO h a=true):DictAt h a:=by
 unfold hO at e
 simp only[Yb,YM] at e
 obtain⟨⟨h1,h2⟩,h3⟩:=e
 split at h2
 ·rename_i o ho
  split at h2
  ·rename_i es n hd
   exact⟨o,n,(IU h1).trans ho,by unfold yA;rw[ho];simp only[hd],h3⟩
  ·cases h2
 ·cases h2
theorem FQ{q:Str}(e:yB h v=some q):eN (sZ h) v q:=by
 unfold yB at e
 split at e
 ·rename_i c
  split at e
  ·cases e
  ·rename_i hc
   split at e
   ·rename_i o ho
    split at e
    ·rename_i vs hd
     split at e
     ·rename_i q' t hv
      cases e
      exact⟨c,o,vs,t,rfl,(IU (by simpa using hc)).trans ho,hd,hv⟩
     ·cases e
    ·cases e
   ·cases e
 ·cases e
noncomputable def VG:FuncBody→List Stmt
 | .stmts b=>b
 | _=>[]
inductive QU(h:Heap)(a:Addr)(f:FI)(q:Str)(d k:Value):Prop
 | mk (o:Obj) (doc pm:Value) (an:Option Addr) (d9 ct:Value) (ho:h.get? a=some o) (hd:o.data= .func (fnX f.name q f.params (VG f.body) f.scope [] d k doc pm an d9 ct)) (hc:o.cls= .type "function") (cq:yB h d9=some q)
noncomputable def kG(b:FuncBody):Bool:=match b with | .stmts _=>true | _=>false
theorem wI{b:FuncBody}(h:kG b=true):b= .stmts (VG b):=by
 cases b with
 | stmts b=>rfl
 | _=>cases h
theorem uF{a:Addr}{f:FI}{q:Str}(hb:kG f.body=true)(e:uL h a=some (oq f q d k)):QU h a f q d k:=by
 unfold uL at e
 split at e
 ·rename_i o ho
  split at e
  ·rename_i fd hd
   obtain⟨n',q',p',b',s',X1,Ji,d',k',T0,Xx,Xy,Xz,XA,X2⟩:=fd
   injection YB e with e1 e2 e3 e4 e5 e6 e7 e8 e9 Sr XB T1
   refine⟨o,T0,Xx,Xy,Xz,XA,ho,?_,?_,XB⟩
   ·cases e1;cases e2;cases e3;cases e5;cases e6;cases e7;cases e8;cases e9;cases Sr
    cases(e4:b'=f.body)
    exact hd.trans (E8 (fun b=>Data.func ⟨_,_,_,b,_,_,_,_,_,_,_,_,_,_,_⟩) (wI hb))
   ·split at T1
    ·rename_i t ht
     rw[ht,eq_of_beq T1]
    ·cases T1
  ·cases e
 ·cases e
theorem uG{a:Addr}(ha:iJ a=false){f:FI}{q:Str}(hb:kG f.body=true)(e:uL h a=some (oq f q d k)):FnAt (sZ h) a f q d k:=
 let⟨o,doc,pm,an,d9,ct,ho,hd,_,hc⟩:=uF hb e
 ⟨o,_,doc,pm,an,d9,ct,wI hb,(IU ha).trans ho,hd,FQ hc⟩
theorem qE{P:Params}:∀ {l:List DictEntry} {ks:List Str},l.map yC=ks.map (fun x=> (some x,keyHash P x))→KeysLit P l
 | [],_,_=>trivial
 | e::r,[],h=>by simp at h
 | e::r,x::ks,h=>by
  simp only[Ye,ab0,Prod.mk.injEq,yC] at h
  refine⟨?_,qE (ks:=ks) h.2⟩
  obtain⟨⟨h1,h2⟩,_⟩:=h
  split at h1
  ·rename_i y t hy
   cases h1
   exact⟨_,t,hy,h2⟩
  ·cases h1
theorem IV(e:s_ h=true):(sZ h).f 235=some ⟨.type "dict",none,.dict (yA h 235) (Ku h 235),#[]⟩:=by
 rw[IU (by decide)]
 unfold s_ at e
 split at e
 ·rename_i t es n sl ho
  simp only[Yb,Y1] at e
  have h2:sl=#[]:=Array.eq_empty_of_size_eq_zero e.2
  unfold yA Ku
  rw[ho,e.1,h2]
 ·cases e
theorem cD{α:Type}{l m:List α}(h:l=m)(i:Nat){a b:α}(ha:l[i]? =some a)(hb:m[i]? =some b):a=b:=by subst h;exact YB (ha.symm.trans hb)
theorem IW{es:Array DictEntry}(h1:BW es=true)(h2:BX es=true):cN es where
 at' k hk:=by
  have:=E9.mp h1 k (Ya.mpr hk)
  split at this
  ·rename_i c t hc
   exact⟨t,by rw[hc,eq_of_beq this]⟩
  ·cases this
 only x hx:=by
  unfold ci bo findBy at hx
  obtain⟨v,hv⟩:=Z8.mp hx
  obtain⟨e,he,rfl⟩:=aap.mp hv
  have hm:=Array.mem_of_find?_eq_some he
  have hp:=Array.find?_some he
  have:=E9.mp h2 e (abv.mpr hm)
  split at this
  ·rename_i y t hy
   rw[hy] at hp
   have XC:y=x:=by
    have LP:Value.isStrOf x (.str y t)=true:=hp
    unfold Value.isStrOf at LP
    first | exact eq_of_beq LP | exact(eq_of_beq LP).symm
   rw[← XC]
   exact List.contains_iff_mem.mp this
  ·cases this
noncomputable abbrev yh(h:Heap):Lay:=yl (oo h 181) (yA h 235) (Ku h 235)
structure FS(P:Params)(h:Heap):Prop where
 b:Ng h=replicate 13 true
 g:Nh h=I1
 v:Ni h=I2
 f:Nj h=BY
 m:Nk h=I3
 d:Nl h=I4
 o:Kv h=BZ
 k:(yA h 235).toList.map yC=yD.map (fun x=> (some x,keyHash P x))
structure TopE(P:Params)(s:Shared):Prop where
 x:FS P s.heap
 n:s.heap.objs.size=317
 t:s.toks=962
theorem IX{w:World}(e:Kw s=B0 w):TopE w.params s:=
 have e0:=YO e
 have e1:=YO e0.2
 have e2:=YO e1.2
 have e3:=YO e2.2
 have e4:=YO e3.2
 have e5:=YO e4.2
 have e6:=YO e5.2
 have e7:=YO e6.2
 have e8:=YO e7.2
 ⟨⟨e0.1,e1.1,e2.1,e3.1,e4.1,e5.1,e6.1,e7.1⟩,e8.1,e8.2⟩
section
variable {P:Params}{h:Heap}(X:FS P h)
include X
theorem FT{p:Nat×String}(hp:p∈FL):uL h (lk IZ p.1)=some (oq (s8 p.1) (Str.ofString p.2) .none .none):=Z5.mp X.f p hp
omit X in
theorem QV:(FL.all fun p=>!iJ (lk IZ p.1)&&kG (s8 p.1).body)=true:=by kernel_rfl
theorem Ks{p:Nat×String}(hp:p∈FL):FnAt (sZ h) (lk IZ p.1) (s8 p.1) (Str.ofString p.2) .none .none:=
 have k:=E3.mp (E9.mp QV p hp)
 uG ((YM _).mp k.1) k.2 (FT X hp)
omit X in
theorem QW:(BL.all fun p=>!iJ (lk IZ p.1)&&kG (s8 p.1).body&&!iJ (lk MX p.1))=true:=by kernel_rfl
theorem QX{p:Nat×String}(hp:p∈BL):DictAt h (lk MY p.1):=by
 rcases J0.mp hp with rfl | hp
 ·exact eG (cD X.b 4 rfl rfl)
 rcases J0.mp hp with rfl | hp
 ·exact eG (cD X.b 5 rfl rfl)
 cases X8.mp hp
 exact eG (cD X.b 6 rfl rfl)
theorem QY{p:Nat×String}(hp:p∈BL):FnAt (sZ h) (lk IZ p.1) (s8 p.1) (Str.ofString p.2) (.ref (lk MX p.1)) (.ref (lk MY p.1))∧O_ (sZ h) (lk MX p.1) (lk MY p.1):=
 have k:=E3.mp (E9.mp QW p hp)
 have k1:=E3.mp k.1
 have e:=YO (Z5.mp X.d p hp)
 have e2:=YO e.2
 ⟨uG ((YM _).mp k1.1) k1.2 e.1,⟨_,_,_,(IU ((YM _).mp k.2)).trans e2.1,rfl⟩,_,fun O hk=> (QX X hp).ns hk,e2.2⟩
omit X in
theorem FU:(ML.all fun p=>!iJ (lk I0 p.1)&&kG (fm p.1).body)=true:=by kernel_rfl
theorem QZ{p:Nat×String}(hp:p∈ML):QU h (lk I0 p.1) (fm p.1) (Str.ofString ("Headers." ++p.2)) (RL p.1) .none:=
 uF (E3.mp (E9.mp FU p hp)).2 (YO (Z5.mp X.m p hp)).1
theorem Ag{p:Nat×String}(hp:p∈ML):FnAt (sZ h) (lk I0 p.1) (fm p.1) (Str.ofString ("Headers." ++p.2)) (RL p.1) .none:=
 have k:=E3.mp (E9.mp FU p hp)
 uG ((YM _).mp k.1) k.2 (YO (Z5.mp X.m p hp)).1
theorem Ah{p:Nat×String}(hp:p∈ML):oo h 181 (Str.ofString p.2)=some (.ref (lk I0 p.1)):=(YO (Z5.mp X.m p hp)).2
theorem uH{p:Nat×String}(hp:p∈ML):∃o,(sZ h).f (lk I0 p.1)=some o∧o.cls= .type "function":=
 have k:=E3.mp (E9.mp FU p hp)
 let⟨o,_,_,_,_,_,ho,_,hc,_⟩:=QZ X hp
 ⟨o,(IU ((YM _).mp k.1)).trans ho,hc⟩
theorem nG(i a:Nat)(ha:iJ a=false)(h1:(Kv h)[i]? =some (h.get? a))(h2:BZ[i]? =some (some o)):(sZ h).f a=some o:=(IU ha).trans (cD X.o i h1 h2)
theorem Q0(h':Heap)(hk:∀a o,(sZ h).f a=some o→h'.get? a=some o):h'.Ns mainGlobals (oo h 3)∧h'.Ns builtinsNs (oo h 0)∧h'.Ns cStatics (oo h 2):=⟨(eG (cD X.b 2 rfl rfl)).ns hk,(eG (cD X.b 0 rfl rfl)).ns hk,(eG (cD X.b 1 rfl rfl)).ns hk⟩
theorem MV:oo h 3 (Str.ofString "law")=some (.ref 316):=cD X.v 1 rfl rfl
theorem wJ{a c P':Addr}{f:FI}{q q':Str}(hb:kG f.body=true)(ha:iJ a=false)(e:uL h a=some (oq f q .none .none))(hc:codeAt h a= .ref c)(ho:(sZ h).f c=some o')(hd:∀h':Heap,h'.get? c=some o'→CodeHd h' c P')(hq:q++ ".<locals>." ++ "<lambda>" =q'):
  ∀o fd,(sZ h).f a=some o→o.data= .func fd→(∃c,fd.code= .ref c∧∀h':Heap,(∀a o,(sZ h).f a=some o→h'.get? a=some o)→CodeHd h' c P')∧fd.qualname++ ".<locals>." ++ "<lambda>" =q':=fun o fd h1 h2=>by
 obtain⟨o1,doc,pm,an,d9,ct,VH,VJ,_⟩:=uF hb e
 have h1:=(IU ha).symm.trans h1
 cases VH.symm.trans h1
 have XD:codeAt h a=d9:=by
  unfold codeAt
  rw[VH]
  simp only[VJ]
 rw[VJ] at h2
 cases h2
 exact⟨⟨c,XD.symm.trans hc,fun h' hk=>hd h' (hk _ _ ho)⟩,hq⟩
end
noncomputable def Kt{h:Heap}(w:World)(X:FS w.params h)(os:OsState):Gd where
 prog:=Challenge.rw_ta0125_01.row.prog
 w:=w
 K:=sZ h
 os:=os
 tabs:=[(291,Str.ofString "_law_paired.<locals>.<lambda>"),(308,Str.ofString "_law_crossed.<locals>.<lambda>")]
 L:=0
 A:=callerA
 n:=100
 gl:=oo h 3
 bl:=oo h 0
 KA h' hk:=(Q0 X h' hk).1
 T' h' hk:=(Q0 X h' hk).2.1
 KB h' hk:=⟨_,(Q0 X h' hk).2.2,cD X.v 2 rfl rfl⟩
 hh:=rfl
 hd:=by decide
 hu:=by decide
variable {h:Heap}(w:World)(Y:FS w.params h)(os:OsState)
theorem XE:∀p∈GX (yh h),j5 (Kt w Y os) p.1 p.2.val:=fun p hp=>by
 have e:=YO (Z5.mp Y.g p hp)
 obtain⟨x,v⟩:=p
 cases v with
 | b b=>exact .inr e
 | v v=>exact .inl e.1
 | i n t=>exact .inl e.1
section
include Y
theorem T2:vg (sZ h) 182 181 (oo h 181) where
 at' h' hk:=⟨⟨_,_,_,_,_,_,_,_,_,_,_,_,hk 182 _ (nG Y 0 182 rfl rfl rfl)⟩,(eG (cD Y.b 3 rfl rfl)).ns hk⟩
 ga:=cD Y.v 4 rfl rfl
 gh:=cD Y.v 5 rfl rfl
 sa:=cD Y.v 6 rfl rfl
 hC:=⟨_,nG Y 0 182 rfl rfl rfl⟩
end
theorem T4:O' (yh h) (Kt w Y os).K where
 cls:=T2 w Y
 m0:=Ah Y (.head _)
 m1:=Ah Y (.tail _ (.head _))
 m7:=Ah Y (.tail _ (.tail _ (.head _)))
 Pa:=Ah Y (.tail _ (.tail _ (.tail _ (.head _))))
 mh:=cD Y.v 7 rfl rfl
 f0:=Ag Y (p:=(0,"__init__")) (.head _)
 f1:=Ag Y (p:=(1,"_convert_string_type")) (.tail _ (.head _))
 f7:=Ag Y (p:=(7,"get_all")) (.tail _ (.tail _ (.head _)))
 Pb:=Ag Y (p:=(16,"add_header")) (.tail _ (.tail _ (.tail _ (.head _))))
 fn j hj:=by
  rcases hj with rfl | rfl | rfl | rfl
  ·exact uH Y (.head _)
  ·exact uH Y (.tail _ (.head _))
  ·exact uH Y (.tail _ (.tail _ (.head _)))
  ·exact uH Y (.tail _ (.tail _ (.tail _ (.head _))))
 d0:=⟨_,_,nG Y 6 69 rfl rfl rfl,rfl⟩
 pn:=⟨_,47,_,_,nG Y 1 48 rfl rfl rfl,rfl,by kernel_rfl,by kernel_rfl,nG Y 2 47 rfl rfl rfl,by kernel_rfl⟩
 pv:=⟨_,52,_,_,nG Y 3 53 rfl rfl rfl,rfl,by kernel_rfl,by kernel_rfl,nG Y 4 52 rfl rfl rfl,by kernel_rfl⟩
 sm:=let⟨o,e⟩:=Z8.mp (cD Y.b 12 rfl rfl:(h.get? sysModules).isSome=true);⟨o,(IU (by decide)).trans e⟩
theorem VK{h':Heap}(hk:∀a o,(Kt w Y os).K.f a=some o→h'.get? a=some o){Q:Addr}(h1:4≠Q):h'.BuiltinsAt (oo h 3) Q:=
 ⟨4,_,cD Y.v 0 rfl rfl,by decide,by decide,h1,hk _ _ (nG Y 5 4 rfl rfl rfl),rfl,rfl,rfl⟩
theorem Q1:qX (Kt w Y os) 294 291 (Str.ofString "_law_paired.<locals>.<lambda>") where
 code:=wJ Y (c:=293) (by kernel_rfl) rfl (FT Y (p:=(77,"_law_paired")) (by decide)) (YB (cD Y.v 8 rfl rfl)) (nG Y 9 293 rfl rfl rfl) (fun h' e=> ⟨_,_,_,_,_,_,_,_,_,e,rfl,rfl,rfl,rfl,rfl,rfl,rfl,rfl,by decide⟩) (by kernel_rfl)
 tab:= .head _
 uniq t ht e:=by
  rcases J0.mp ht with rfl | ht
  ·rfl
  ·cases X8.mp ht;cases e
 main:=by decide
 bi h' hk:=VK w Y os hk (by decide)
theorem Q2:qX (Kt w Y os) 311 308 (Str.ofString "_law_crossed.<locals>.<lambda>") where
 code:=wJ Y (c:=310) (by kernel_rfl) rfl (FT Y (p:=(80,"_law_crossed")) (by decide)) (YB (cD Y.v 9 rfl rfl)) (nG Y 10 310 rfl rfl rfl) (fun h' e=> ⟨_,_,_,_,_,_,_,_,_,e,rfl,rfl,rfl,rfl,rfl,rfl,rfl,rfl,by decide⟩) (by kernel_rfl)
 tab:= .tail _ (.head _)
 uniq t ht e:=by
  rcases J0.mp ht with rfl | ht
  ·cases e
  ·cases X8.mp ht;rfl
 main:=by decide
 bi h' hk:=VK w Y os hk (by decide)
theorem T5:dy (yh h) (Kt w Y os) where
 gx:=XE w Y os
 nb h' hk:=⟨_,(Q0 Y h' hk).2.2,cD Y.v 3 rfl rfl⟩
 fn i q hm:=Ks Y (p:=(i,q)) (.tail _ hm)
 DL i q hm:=QY Y (p:=(i,q)) hm
 l_:=T4 w Y os
 tab:=⟨IV (cD Y.b 7 rfl rfl),qE Y.k,rfl⟩
 Rm:=Q1 w Y os
 Rn:=Q2 w Y os
theorem XF{xs:List Int}(b6:xs.length≤63):WC (Kt w Y os) (.val (.ref 316)) [.lst (xs.map .int)] [] [] [] fun x m=>x= .bool true∧m=[]:=
 MN (T5 w Y os) BE (BD (IW (cD Y.b 9 rfl rfl) (cD Y.b 10 rfl rfl))) ⟨IS (cD Y.b 8 rfl rfl),Option.isNone_iff_eq_none.mp (cD Y.b 11 rfl rfl)⟩ (Ks Y (p:=(81,"law")) (.head _)) (show 60≤100 by decide) b6 (fun O=>0) []
theorem script_obj{P:Params}{a:Addr}{xs:List WData}{items:Array Value}(w:Well P h (.ref a) (.list xs))(hL:h.IsList a items):∃n,h.get? a=some (cE items n):=by
 obtain⟨o,ho,hc,n,hd⟩:=hL
 cases w with
 | list e _=>
  have:=YB (ho.symm.trans e)
  subst this
  cases hd
  exact⟨_,e⟩
theorem MW{g:Gd}(hA:g.A=callerA){s:Shared}(jW:0<s.toks)(hg:s.gens=#[])(VL:s.os=g.os)
  (hK:∀a o,g.K.f a=some o→s.heap.get? a=some o) (XG:∀t∈g.tabs,g.K.f t.1=none)
  (ht:∀t∈g.tabs,s.heap.get? t.1=some (tableObj #[])∧isCodeTable s.heap t.1)
  {lw sc:Addr} {ws:List Int} {vs:List Value} (hL:∃n,s.heap.get? sc=some (cE vs.toArray n)) (hi:IntsAre vs ws) (w8:∀t∈g.tabs,t.1≠sc)
  (W:WC g (.val (.ref lw)) [.lst (ws.map .int)] [] [] [] fun x m=>x= .bool true∧m=[])
  {Q:Value→Shared→Prop} {E:Value→Shared→Prop} (hQ:∀s',OldK s.heap s'.heap→s'.os=s.os→s'.gens=#[]→Q (.bool true) s'):
  wpAny (model g.prog g.w) callerA (call (.ref lw) [.ref sc]) Q E s:=by
 obtain⟨n,ho⟩:=hL
 let F:FM:=⟨fun O=>none,fun a=>if a∈g.tabs.map (·.1) then none else s.heap.get? a⟩
 have RJ:∀a,a∉g.tabs.map (·.1)→F.f a=s.heap.get? a:=fun a ha=>X5 ha
 have r:RepM g F [] s:= {
  tk:=jW
  hP:=fun a o e=>by cases e
  hF:=fun a o e=>by
   have e':(if a∈g.tabs.map (·.1) then none else s.heap.get? a)=some o:=e
   split at e'
   ·cases e'
   ·exact e'
  hK:=fun a o e=>by
   refine(RJ a fun hm=>?_).trans (hK a o e)
   obtain⟨t,BF,rfl⟩:=N5.mp hm
   rw[XG t BF] at e;cases e
  pf:=fun a o e=>by cases e
  hm:=fun p hp=>by cases hp
  ap:=fun p hp=>by cases hp
  nd:=aaU
  gens:=hg
  os:=VL
  tab:=fun t BF=> ⟨#[],(ht t BF).1,by simp[TriplesOk],fun pos c e=>by cases e⟩
  cM:=fun t BF=> ⟨rfl,X6 (aab BF),fun p hp=>by cases hp⟩ }
 have XH:F.f sc=some (cE vs.toArray n):=(RJ sc fun hm=>by
  obtain⟨t,BF,e⟩:=N5.mp hm
  exact w8 t BF e).trans ho
 have hv:be F [AV.lst (ws.map .int)] [Value.ref sc]:=by
  simp only[be]
  refine⟨_,_,rfl,?_,rfl⟩
  simp only[VR]
  exact⟨sc,vs.toArray,n,rfl,XH,vc hi⟩
 have key:=W F s (.ref lw) [.ref sc] [] r (nH F _) hv (by simp only[be]) (fun r s'=>match r with | .ok (.ret v)=>Q v s' | _=>False) fun F' x v mem' s' l r2 hx hq=>by
  obtain⟨rfl,_⟩:=hq
  simp only[VR] at hx
  subst hx
  refine hQ s' ⟨fun b o e=>?_,fun b o e=>?_⟩ (r2.os.trans VL.symm) r2.gens
  ·by_cases hb:b∈g.tabs.map (·.1)
   ·obtain⟨t,BF,rfl⟩:=N5.mp hb
    obtain⟨lR,h1,-,-⟩:=r2.tab t BF
    have e0:o=tableObj #[]:=YB (e.symm.trans (ht t BF).1)
    subst e0
    exact .inr (.inl ⟨(ht t BF).2,rfl,#[],lR,rfl,by rw[h1];simp[tableObj]⟩)
   ·exact .inl (r2.hF b o (l.f b o ((RJ b hb).trans e)))
  ·by_cases hb:b∈g.tabs.map (·.1)
   ·obtain⟨t,BF,rfl⟩:=N5.mp hb
    obtain⟨lR,h1,-,-⟩:=r2.tab t BF
    exact⟨_,h1⟩
   ·exact⟨_,r2.hF b o (l.f b o ((RJ b hb).trans e))⟩
 rw[hA] at key
 refine wpAny_call (abP key.2 fun r s' hr=>?_)
 split at hr
 ·exact hr
 ·exact hr.elim
end
end
section
set_option tactic.hygienic true
theorem IY{h:Heap}{a:Addr}{m m':Str→Option Value}(x:h.Ns a m)(y:h.Ns a m'):m=m':=by
 obtain⟨o,es,ep,e,d,_,f⟩:=x
 obtain⟨o',X3,X4,e',d',_,f'⟩:=y
 rw[e] at e'
 cases e'
 rw[d] at d'
 cases d'
 funext k
 rw[← f,← f']
theorem T6{w:World}{s₀ s:Shared}(X:FS w.params s₀.heap)(hk:∀b o,s₀.heap.get? b=some o→s.heap.get? b=some o)(hg:s.gens=#[])(jW:962≤s.toks){xs:List Int}(b6:¬ ((63:Nat):Int)<(xs.length:Int)){vs:List Value}(hL:s.heap.IsList 317 vs.toArray){ds:List WData}(w1:Well w.params s.heap (.ref 317) (.list ds))(hi:IntsAre vs xs)
  {fa:Addr} {mg:Str→Option Value} (RK:s.heap.Ns mainGlobals mg) (VM:mg (Str.ofString "law")=some (.ref fa))
  {Q:Value→Shared→Prop} {E:Value→Shared→Prop} (hQ:∀s',OldK s.heap s'.heap→s'.os=s.os→s'.gens=#[]→Q (.bool true) s'):
  wpAny (model R1.prog w) callerA (call (.ref fa) [.ref 317]) Q E s:=by
 have hK:∀a o,(sZ s₀.heap).f a=some o→s.heap.get? a=some o:=fun a o e=>hk _ _ (FP e)
 have e:=IY RK (Q0 X s.heap hK).1
 rw[e,MV X] at VM
 cases VM
 have t1:=cD X.o 7 rfl rfl
 have t2:=cD X.o 8 rfl rfl
 refine MW (g:=Kt w X s.os) rfl (J3 (by decide) jW) hg rfl hK ?_ ?_ (script_obj w1 hL) hi ?_ (XF w X s.os (YH.mp (YI.mp b6))) hQ
 ·exact X_.mpr ⟨rfl,X_.mpr ⟨rfl,fun _ h=>nomatch h⟩⟩
 ·exact X_.mpr ⟨⟨hk _ _ t1,293,_,_,hK _ _ (nG X 9 293 rfl rfl rfl),rfl,rfl,rfl⟩,X_.mpr ⟨⟨hk _ _ t2,310,_,_,hK _ _ (nG X 10 310 rfl rfl rfl),rfl,rfl,rfl⟩,fun _ h=>nomatch h⟩⟩
 ·exact X_.mpr ⟨by decide,X_.mpr ⟨by decide,fun _ h=>nomatch h⟩⟩
end
end
end Mine
set_option tactic.hygienic true
theorem PySem.Challenge.cw_ta0125_01_holds : PySem.Challenge.rw_ta0125_01.Holds := by
 w_on
 refine holds_law Mine.Np fun T7=>?_
 obtain⟨d,Nq,h1,h2,h3⟩:=Mine.RM
 refine holds_openX (XP:=fun _ _=>True) Mine.Nr (fun _ _=>trivial) (fun _ _ _ _ _=>trivial) h1 h2 h3 (fun s e=>recFacts_of e) rfl T7 Mine.VP ⟨rfl,rfl,rfl,rfl,rfl,by decide+kernel⟩ ?hw ?hc
 case hw=>w_witness2
 intro w s₀ s₁ mg mb G y fa o pm cd doc dV kV ho hd BK hD RK hg args Dt as L T8 T9 XI XJ XK
 obtain⟨X,XM,KU⟩:=Mine.IX y
 have T:=G.T
 have hn:d.name=Str.ofString "law":=defOf_name h1
 rw[hn] at RK
 have KA:=T.g
 clear G y ho hd BK hD T h1 h2 h3 hn
 wrow_args T8 T9 XI XJ XK
 obtain⟨VN,hsz⟩:=script_at L
 have jW:=script_toks L KU
 rw[XM] at VN
 subst VN
 all_lens
 rename_i xs _ _ _ _ _ _ _ vs _ _ _ Q3 _ hL w1 _ hi _
 refine Mine.T6 X L.keeps hg jW Q3 hL w1 hi KA RK fun s' h1 h2 h3=>?_
 refine⟨.inl ⟨_,.bool true,[],rfl,fun _=>rfl,.bool true,?_,fun _=> ⟨List.nodup_nil,fun a ha=>by cases ha⟩⟩,h1,h2,?_⟩
 ·kernel_rfl!
 ·rw[h3]
  intro y hy
  simp at hy
