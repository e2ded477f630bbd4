import PyProof.Rows.All
import PyProof.RulesTry
import PyProof.AttrMissHeap
import PyProof.Straight
import PyProof.Cells
import PyProof.DefCall
import PyProof.DictCompW
import PyProof.DictItemsLoops
import PyProof.EnumFor
import PyProof.EnumMake
import PyProof.RangeFor
import PyProof.GenQ
import PyProof.InstLoad
import PyProof.InstStoreFacts
import PyProof.ObjNew
import PyProof.ZipIter
import PyProof.Rows.FStr
import PyProof.Rows.StrSplitMax
import PyProof.SetRoads
import PyProof.SetNew
import PyProof.Rows.SetFrom
import OpenK.KDescr
import OpenK.KWalk
import KE.KLam
import KE.KItemsList
import Wide.FinOn
import OpenK.AllK
import Wide.All
import Lean
import PySem.Challenge.RW_if0002_01
set_option Elab.async false
set_option maxRecDepth 100000
set_option genSizeOf false
set_option genInjectivity false
set_option compiler.extract_closed false
set_option bootstrap.genMatcherCode false
set_option linter.all false
set_option tactic.hygienic false
set_option backward.match.sparseCases false
namespace Mine.Lake
open PySem renaming wpAny_bind→il,wpAny_pure→nb,builtinLookup_eq_fast→sl,wpAny_execs_nil→C7,Program→C9,strKind→Db,typeLookup_type→Dg,sizeLine_eq→Di,wpAny_Constant_int→Dj,wpAny_Call_method_lateS→Dk,wpAny_mono→Dn,Around→Dq,typeLookup→Dw,wpAny_holding→Dx,rawInt→DE,Builtin→DH,wpAny_isTrue_Compare1→DI,wpAny_truthy_bool→DJ,wpAny_execs_cons→DL,wpAny_isTrue_value→DP,interactive→DS,wpAny_of_eq→DU,NameKind→D4,wpAny_Constant_none→D5,starEach→D6,wpAny_assign_Name→Ea,wpAny_storeName_local→Ec,recursionLimit→Ed,wpAny_allTrue_And_cons→Ef,wpAny_standAt→Ek,wpAny_call_entry→Et,sizeLine→Eu,wpAny_loadName_local→Ex,wpAny_isTrue_BoolOp→ED,sysModules→EE,wpAny_newObj_type→EF,callEnvC→EJ,wpAny_newList→EK,backTo→EN,wpAny_BinOp→EO,seg_bind_wrap→EQ,codeAny_builtin→EU,typeIs_str→EX,wpAny_callSpecial?_slot→EZ,wpAny_askSetting→E0,slicePicked→E1,cellsFrom→E2,wpAny_seqItems→E5,Str→E8,wpAny_field→E9,codeAny→Fb,wpAny_rule→Fj,wpAny_letTemporaryGo→Fm,mainGlobals→Fp,callWith→Fu,FuncData→Fx,wpAny_setState_of→Fz,clipAt→FA,wpAny_typeOf→FH,wpAny_isInstance→FJ,storeName→FL,isSubtype_type→FN,builtinsNs→FO,wpAny_updateSeq→FU,wpAny_typeLookup_exc→FV,wpAny_Name→FZ,call_meets→F0,wpAny_newTuple→Ga,entryFor_of_tree→Gf,wpAny_call→Gm,strKind_is→Gn,assign→Go,letOwnedTupleGo→Gq,wpAny_attempt→Gr,swapsWith→Gs,strLen_append→Gv,pushCells→Gw,seg_bind→GG,Result→GH,behindInMarks→GY,list_append→GZ,wpAny_specialOf→G4,pushCells_keeps→G5,wpAny_assign_Tuple→G7,wpAny_nsGet→G8,wpAny_truthy_list→Ha,wpAny_loadPart_at→Hb,foldedSetIterable→Hc,firstArgMember→Hd,entryFor→He,evalArgs_none→Hm,pyNext→Hp,attributeBase→Ht,unsupported→Hv,theTreesLotGoes→HA,argsOk→HB,IsPair→HE,wpAny_loadName_cell→HH,slicePick→HL,seqIndex?→HM,compareOp→HN,Arguments→HS,wpAny_setField→HT,wpAny_load→HU,slot_listiter_next→HV,isNot_none→HW,checkBoundCall→HX,binaryOp→HY,wpAny_pyIter_list→Ia,wpAny_Assign_Name→Ib,IsRangeIter→Ie,wpAny_comprehension_free→Ih,signature?_of→Ii,comprehension→Ij,wpAny_pyNext_range_item→Is,wpAny_isTrue_Not→It,Operator→Iv,wpAny_pyNext_range_end→IA,wpAny_pyNext_list_item→IB,wpAny_nextOf_list_item→IC,standAt→IE,post_val_or_str→IF,wpAny_pyNext_list_end→II,wpAny_allTrue_And_nil→IJ,codeAny_call_function→IK,wpAny_newFunctionEnv→IQ,wpAny_fieldsOf→IR,seg_execs_cons→IT,newFunctionEnv→IU,isSubtype_stop→IV,excClassObj→IW,ZipApart→IX,wpAny_For→I0,updateSeq→I1,sliceMade→I2,handedOut→I3,Keyword→I9,wpAny_setEntries_of→Ja,wpAny_Constant_bool→Jb,builtinType_eq_fast→Jc,Fin→Je,plainId_quiet→Jm,wpAny_pyIter_range→Jo,wpAny_getItem_list→Jp,closureFor→Jq,assignEach→Jr,valueAt→JA,bindArgs→JF,InCallC→JJ,BindsTo→JL,wpAny_Dict_empty→JP,typeOf→JQ,strValues→JR,noteFrame→JS,codeAny_call_def→JT,MethodOnS→JX,wpAny_letGo→J1,wpAny_IfExp→J2,subscripted→J3,wpAny_with_toks→J9,spliced→Ke,setAttr→Kf,holding→Kg,getItem→Kh,wpAny_runValue→Kl,wpAny_newFunctionEnv_cells→Km,wpAny_listPart→Kn,Protocol→Kr,wpAny_Subscript_str_slice→Kv,wpAny_mkBytes→KG,wpAny_handled→KH,assignInOrder→KJ,Comprehension→KS,wpAny_getItem_str_slice→KU,seg_again→KV,load_attr→KW,getMethod→KX,pyIter→Lh,name_of_addr→Li,codeAny_func→Lj,call_range_1→Lk,call_meetsIn→Ll
open Eq renaming symm→ir
open PySem.Heap renaming get?_push_of_some→mc,get?_push_size→rh,lt_size→rl,get?_update_self→Dy,get?_update_other→DC,size_push→Eh,SameBut→E3,get?_none_of_le→GB,dictOf_iff→Jx
open Nat renaming eq_of_beq_eq_true→nd,lt_of_lt_of_le→De,le_trans→Df,ne_of_lt→Dh,ne_of_gt→Dl,beq→Do,lt_irrefl→DF,le_of_ble_eq_true→DG,le_refl→DK,le_add_right→DN,succ_pos→DT,lt_succ_self→DV,lt_trans→DW,le_of_lt→D9,le_of_eq→Ei,zero_le→Ej,blt_eq→Er,lt_of_le_of_lt→Ew,blt→EP,add_right_comm→ER,succ_le_succ→EV,ble→E7,mul_le_mul_left→Fy,succ_ne_zero→FF,le_of_succ_le→FQ,not_lt→FS,ne_of_beq_eq_false→Gh,add_le_add_right→GC,add_le_add_left→GI,lt_of_le_of_ne→GU,exists_eq_add_of_le→GW,succ_ne_self→Hf,add_assoc→Hh,beq_refl→Hx,add_comm→Hy,add_le_add→HD,lt_trichotomy→HP,lt_succ_of_lt→HQ,le_of_lt_succ→HR,mod_lt→Il,sub_lt_sub_left→IL,zero_add→Jg,lt_or_ge→Jh,not_lt_zero→JH,mod_two_eq_zero_or_one→JW,le_of_add_le_add_left→J5,lt_of_succ_lt_succ→Ks,le_of_sub_eq_zero→Kx,mul_le_mul_right→KN,eq_sub_of_add_eq→KO,lt_or_eq_of_le→Lo
open PySem.Str renaming ofString→t5,empty→DA,join→Gj,isSurrogate→Hq,cps_append→HC,utf8Of→JV
open List renaming mem_of_getElem?→C6,mem_cons→Da,not_mem_nil→Dr,getElem?_eq_some_iff→Dz,mem_cons_of_mem→DB,mem_singleton→DD,range→DQ,mem_cons_self→DY,getElem?_append_left→D1,length_append→D2,length_eq_zero_iff→D8,mem_append→Eo,length_cons→Ep,size_toArray→Es,getElem?_eq_getElem→EA,pairwise_cons→EH,append_nil→EI,lookup_cons→ET,toArray→Fg,map_cons→FD,lookup_cons_self→FI,all_eq_true→FY,length_map→Gi,replicate→Gx,range'→Gy,getElem?_append_right→Gz,getD_eq_getElem?_getD→GA,nodup_cons→GK,forIn_cons→GL,lookup→GV,foldl_cons→Hn,mem_map→Hu,pairwise_iff_getElem→HJ,getElem_mem→H0,getElem?_cons_succ→H4,toList_toArray→IH,zip_cons_cons→IN,map_map→I5,map→I6,getElem?_map→I7,flatMap_cons→I8,of_mem_zip→Jv,dropLast_concat_getLast→Jw,mem_range→JM,forIn_nil→JN,take_of_length_le→Kj,drop_eq_nil_of_le→Kk,contains_iff_mem→Kt,length→Ky,replicate_succ→KP,flatten_append→KQ,flatMap_append→KR,getElem_range→K1,foldl→K2,filterMap_map→K9,length_range→Lq
open PySem.Calls renaming spliced_cons→C8,spliced_nil→Dp,Constant_str→Ds,evalArgs_plain→DR,callWith_builtin→Ev,Name_function_global→FG,loadGlobal_builtin→FR,loadGlobal_global→FW,callWith_function→GP
open Option.some renaming inj→Dd
open PySem.Value renaming int→Dm,str→Du,bytes→D3,ref→D7,none→EG,type→FE,builtin→JU,noConfusion→KY
open Option renaming isSome_iff_exists→Dv,some_ne_none→Ez,map_eq_some_iff→EY,getD_none→K0
open Bool renaming and_eq_true→DM,false_ne_true→En,false_eq_true→GQ,or_eq_true→Ip,eq_iff_iff→Iq,or_eq_false_iff→KC,and_eq_true_iff→KD,not_eq_true'→Ly
open Exists renaming imp→DO,elim→Gp
open PySem.Obj renaming mapSeq→DX,data_mapFields→Gg,cls→Ik,isFreed_of_fields→Iw,cls_mapFields→Jf,mapFields→Kb
open PySem.Builtin.Str renaming strSliceIndices→DZ,tooLong→JO
open Array renaming length_toList→Eb,toList_inj→ES,getElem?_toList→E6,size_push→GJ,toList_push→G3,getD_eq_getD_getElem?→Hs,getElem?_eq_getElem→HG,eq_empty_of_size_eq_zero→Jl,eraseIdxIfInBounds→J0,foldl_toList→KT,size_append→Lg
open PySem.Builtin.Range renaming rangeSize→Ee,small→Jz
open Int renaming ofNat→Eg,toNat_natCast→EC,natCast_nonneg→Fa,fmod_eq_emod_of_nonneg→GE,negSucc→Hj,fdiv_eq_ediv_of_nonneg→HF,ofNat_lt→Jj,emod_nonneg→JI,le_of_lt→Ku,negSucc_lt_zero→Lb,emod_lt_of_pos→Lr
open PySem.Sre.M renaming runFor→El
open PySem.NameKind renaming free→Em,cell→F7
open PyProof.Rows renaming assignInOrder_cons→Ey,callWith_type→EB,Subscript_→FC,subscriptTail→Gu,assignInOrder_nil→GF,seqObj→GR,listUpdate_at→GX,get?_update_seq→G6,tail_any→HI,truthy_none→IS,AllBare→Ju,mod_int'→JB,floordiv_int→JD,joinParts_cons→Ko
open Ne renaming symm→EL
open PySem.Txt renaming replace→EM,split→IG,join→KL
open PySem.F renaming slot_list_append→EW,type_list_append→Gk,entry_list_append→GN,type_str_replace→G0,slot_str_replace→G1,plainAttrs_str→Hk,args_list_append_2→Hr,entry_extend_loop→Hz,slot_str_getitem→HK,slot_list_getattribute→H9,slot_str_split→Im,slot_zip_next→Ix,slot_list_pop→Iy,slot_dict_get→Iz,slot_dict_getitem→IZ,args_str_split_2→Jk,plainAttrs_list→Js,entry_str_split→Jt,slot_str_find→JZ,slot_str_partition→Lv
open PySem.SetTable renaming orStandIn→E4,fresh→GO,below→Hl,insertAt→Hw,fits→Lm
open ForInStep renaming yield→Fh
open PySem.Sre renaming accepts→Fk,Seen→F2,itemWidth→Gl,forSearch→Hg,Frame→Ki
open PySem.BindsTo renaming of_defaults→Fl,of_eq→FP
open PySem.W.KFB renaming if_not→Fv,if_so→F6
open Lean.Meta.tactic renaming hygienic→FK
open PySem.Builtin.Int renaming intBits→FM
open Std.Legacy.Range renaming forIn_eq_forIn_range'→FX
open PySem.StrLaws renaming At→F1,subAt_one→GS,occ_head→IY,strSub_toList→J4,found_one→Kw,occBody→KZ
open PySem.Builtin.SmallTypes renaming nextOf→F3,ownedTupleIsFree→F9
open PySem.Builtin.List renaming listExtendWith→F5,listSameRef→Ho,listFitsIndex→IP,listItems→Jn
open PySem.Code renaming quiet_builtin→F8
open PySem.W renaming methodObj→Gc,Constant_bytes→HZ,typeIs_bytes→ID,kla_obj→JC
open List.cons renaming inj→GD,injEq→Kz
open PyProof renaming noPylong_small→GT
open PySem.Builtin.Re renaming reRawNat→G9,reDrive→J8
open List.Pairwise renaming nil→Hi
open Nat.succ renaming inj→HO
open PySem.SetTable.below renaming go→Ic
open PySem.FuncBody renaming stmts→Ig
open PySem.Env renaming kindOf→Io
open PySem.Around renaming under_plainId→Ir
open LawfulBEq renaming eq_of_beq→Iu
open PySem.Heap.DictOf renaming new→IM,typeIs→JY
open PySem.SC renaming replace→I4
open PySem.Sem renaming bind_eq_wrap'→Jd,wrap_wrap→Ka,wrap→KM
open PySem.W.KBy renaming isInstance_eq→Ji
open PySem.Heap.IsSliceOf renaming new→Jy
open Inhabited renaming default→JE
open PUnit renaming unit→JG
open PySem.Heap.SameBut renaming update→JK
open Nat.le renaming intro→J6
open PySem.Builtin.Generator renaming sleptOver→J7
open PySem.Builtin.Bytes renaming takeBufferQuiet?→Kd
open UInt8 renaming ofNat→Kq
open Lean renaming maxHeartbeats→KI
open Int.ofNat renaming inj→La
open PySem.Heap.Ns renaming of_isNs→Ld
open PySem.GenState renaming fresh→Le
open PySem.P renaming eq_str→Ln
open PySem.W.FB renaming plainAttrs_bytes→Lu
open PySem.Builtin renaming bitAnd→Lw
section
open PySem
noncomputable section
inductive At where
 |c (n:Nat)
 |t (k s:Nat)
inductive V2 where
 |none|bool (b:Bool)|int (c:Int)(x:Nat)|str (s:List At)|bytes (b:List At)|ref (i:Nat)
inductive O2 where
 |list (xs:List V2)|tup (xs:List V2)|dict (es:List (List At×V2))|tab (fresh:Bool)
inductive T2 where
 |nil
 |node (o:Option O2)(l r:T2)
noncomputable def T2.val (t:T2):Option O2:=match t with
 |.nil=>none
 |.node o _ _=>o
noncomputable def T2.lft (t:T2):T2:=match t with
 |.nil=>.nil
 |.node _ l _=>l
noncomputable def T2.rgt (t:T2):T2:=match t with
 |.nil=>.nil
 |.node _ _ r=>r
noncomputable def T2.getK (t:T2):Nat→Option O2:=T2.rec (motive:=fun _=>Nat→Option O2) (fun _=>none) (fun o _ _ B G k=>Bool.rec (Bool.rec (G (k/2)) (B (k/2)) (Do (k%2) 0)) o (Do k 1)) t
noncomputable def T2.get (t:T2) (i:Nat):Option O2:=t.getK (i+1)
noncomputable def T2.setK (n:Nat):T2→Nat→O2→T2:=Nat.rec (motive:=fun _=>T2→Nat→O2→T2) (fun t _ _=>t) (fun _ B t k o=>T2.rec (motive:=fun _=>T2)
 (Bool.rec (Bool.rec (.node none .nil (B .nil (k/2) o)) (.node none (B .nil (k/2) o) .nil) (Do (k%2) 0)) (.node (some o) .nil .nil) (Do k 1))
 (fun v l r _ _=>Bool.rec (Bool.rec (.node v l (B r (k/2) o)) (.node v (B l (k/2) o) r) (Do (k%2) 0)) (.node (some o) l r) (Do k 1)) t) n
noncomputable def T2.set (n:Nat) (t:T2) (i:Nat) (o:O2):T2:=t.setK n (i+1) o
structure St where
 loc:List (Str×V2)
 n:Nat
 hp:T2
inductive Rv where
 |no|ok (v:V2)(st:St)
inductive Rb where
 |no|ok (b:Bool)(st:St)
inductive Rs where
 |no|ok (vs:List V2)(st:St)
noncomputable def av {α:Type} (o:Option α) (f:α→Rv):Rv:=Option.rec .no f o
noncomputable def onT (b:Bool) (r:Rv):Rv:=Bool.rec .no r b
noncomputable def oW (x:Rv) (f:V2→St→Rv):Rv:=Rv.rec .no f x
noncomputable def um (x:Rs) (f:List V2→St→Rv):Rv:=Rs.rec .no f x
noncomputable def rvs (x:Rv) (f:V2→St→Rs):Rs:=Rv.rec .no f x
noncomputable def rss (x:Rs) (f:List V2→St→Rs):Rs:=Rs.rec .no f x
noncomputable def oS {α β:Type} (o:Option α) (f:α→Option β):Option β:=Option.rec none f o
noncomputable def oT {β:Type} (b:Bool) (r:Option β):Option β:=Bool.rec none r b
noncomputable def O2.lst:O2→Option (List V2)
 |.list xs=>some xs
 |_=>none
noncomputable def O2.tpl:O2→Option (List V2)
 |.tup xs=>some xs
 |_=>none
noncomputable def O2.dic:O2→Option (List (List At×V2))
 |.dict es=>some es
 |_=>none
noncomputable def T2.lst (t:T2) (i:Nat):Option (List V2):=oS (t.get i) O2.lst
noncomputable def T2.tpl (t:T2) (i:Nat):Option (List V2):=oS (t.get i) O2.tpl
noncomputable def T2.dic (t:T2) (i:Nat):Option (List (List At×V2)):=oS (t.get i) O2.dic
noncomputable def Rv.of (st:St) (o:Option V2):Rv:=Option.rec .no (fun v=>.ok v st) o
noncomputable def Rb.of (st:St) (o:Option Bool):Rb:=Option.rec .no (fun b=>.ok b st) o
noncomputable def O2.small:O2→Bool
 |.list xs=>E7 xs.length 1000
 |.tup xs=>E7 xs.length 1000
 |.dict es=>E7 es.length 1000
 |.tab _=>false
noncomputable def St.alloc (st:St) (o:O2):Rv:=onT (EP st.n 4000&&o.small) <| .ok (.ref st.n) ⟨st.loc,st.n+1,st.hp.set 12 st.n o⟩
noncomputable def St.put (st:St) (i:Nat) (o:O2):St:=⟨st.loc,st.n,st.hp.set 12 i o⟩
noncomputable def St.with (st:St) (l:List (Str×V2)):St:=⟨l,st.n,st.hp⟩
noncomputable def bB {β:Type} (b:Bool) (x y:β):β:=Bool.rec y x b
noncomputable def bS {α:Type} (o:Option α) (f:α→Bool):Bool:=Option.rec false f o
noncomputable def lE (a:List Nat):List Nat→Bool:=List.rec (motive:=fun _=>List Nat→Bool) (fun l=>List.rec (motive:=fun _=>Bool) true (fun _ _ _=>false) l) (fun a _ B l=>List.rec (motive:=fun _=>Bool) false (fun b y _=>and (Do a b) (B y)) l) a
noncomputable def aA (a b:Str):Bool:=lE a.cps.toList b.cps.toList
noncomputable def lk (x:Str) (l:List (Str×V2)):Option V2:=List.rec (motive:=fun _=>Option V2) none (fun p _ B=>Prod.rec (motive:=fun _=>Option V2) (fun y v=>Bool.rec B (some v) (aA x y)) p) l
noncomputable def del (x:Str) (l:List (Str×V2)):List (Str×V2):=List.rec (motive:=fun _=>List (Str×V2)) [] (fun p r B=>Prod.rec (motive:=fun _=>List (Str×V2)) (fun y u=>Bool.rec ((y,u)::B) r (aA x y)) p) l
noncomputable def up (x:Str) (v:V2) (l:List (Str×V2)):List (Str×V2):=(x,v)::del x l
noncomputable def au (x:Str):List (Str×D4)→Option D4
 |[]=>none
 |(y,k)::r=>bB (aA x y) (some k) (au x r)
noncomputable def nth {α:Type} (l:List α):Nat→Option α:=List.rec (motive:=fun _=>Nat→Option α) (fun _=>none) (fun a _ B n=>Nat.rec (motive:=fun _=>Option α) (some a) (fun m _=>B m) n) l
theorem fq {α:Type}{a:Option α}{l:List α}{n:Nat}:nth l n=a→l[n]?=a:=by
 induction l generalizing n with
 |nil=>exact id
 |cons x r B=>cases n with
  |zero=>exact id
  |succ n=>exact B
noncomputable def ro:Str:=t5 ".0"
noncomputable def dE:Str:=t5 "__debug__"
noncomputable def gD:Str:=t5 "__classdict__"
noncomputable def iA (sc:Scope) (x:Str):Bool:=match aA x dE with
 |true=>false
 |false=>match aA x gD with
  |true=>false
  |false=>match au x sc.names with
   |some .local=>true
   |some .cell=>true
   |some .free=>true
   |_=>false
noncomputable def bQ (sc:Scope) (x:Str):Bool:=match au x sc.names with
 |some .local=>true
 |some .cell=>true
 |_=>false
noncomputable def bR (sc:Scope) (x:Str):Bool:=match aA x dE with
 |true=>false
 |false=>match au x sc.names with
  |some .globalImplicit=>true
  |_=>false
noncomputable def uq (k:ScopeKind):Bool:=match k with
 |.function=>true
 |_=>false
noncomputable def BR (o:Option D4):Bool:=bS o fun k=>match k with
 |.cell=>true
 |.free=>true
 |_=>false
noncomputable def BS (o:Option D4):Bool:=match o with
 |none=>true
 |some k=>match k with
  |.globalImplicit=>true
  |_=>false
noncomputable def BT (sc:Scope) (x y:Str) (k:D4):Bool:=match k with
 |.free=>and (!aA y x) <| BR (au y sc.names)
 |.local=>aA y x||aA y ro
 |.cell=>aA y x
 |.globalImplicit=>BS (au y sc.names)
 |_=>false
noncomputable def rq (sc:Scope) (x:Str) (l:List (Str×D4)):Bool:=l.all fun p=>BT sc x p.1 p.2
noncomputable def bT:List (Str×D4)→Bool
 |[]=>true
 |(y,_)::r=>and (au y r).isNone <| bT r
noncomputable def atE:At→At→Bool
 |.c a,.c b=>Do a b
 |.t a r,.t b s=>and (Do a b) <| Do r s
 |_,_=>false
noncomputable def sE:List At→List At→Bool
 |[],[]=>true
 |a::x,b::y=>and (atE a b) <| sE x y
 |_,_=>false
noncomputable def aP:List At→Bool
 |[]=>true
 |.c _::r=>aP r
 |.t _ _::_=>false
noncomputable def ur (a b:List At):Option Bool:=bB (sE a b) (some true) <| oT (aP a) <| oT (aP b) <| some false
noncomputable def cu {α:Type} (a:List α):Nat→List α
 |0=>[]
 |n+1=>a++cu a n
noncomputable def xq (c:Nat):List At→Option Bool
 |[]=>some false
 |.c n::r=>bB (Do n c) (some true) (xq c r)
 |.t _ s::r=>oT (Do s 1) <| oT (Do c 62||Do c 13||Do c 60) <| xq c r
noncomputable abbrev fu:=Nat→Int→Option Int
noncomputable def dF (a b:Int):Bool:=match a,b with
 |.ofNat m,.ofNat n=>Do m n
 |.negSucc m,.negSucc n=>Do m n
 |_,_=>false
noncomputable def rr (a:Int) (x:Nat) (b:Int) (y:Nat):Option V2:=match Do x 0 with
 |true=>some (.int (a+b) y)
 |false=>oT (Do y 0) <| some (.int (a+b) x)
noncomputable def sq (x y:Nat) (r:Option V2):Option V2:=oT (Do x 0) <| oT (Do y 0) <| r
noncomputable def yS (a:Int) (x:Nat) (b:Int) (y:Nat):Option V2:=oT (Do y 0) <| some (.int (a-b) x)
noncomputable def ut (a:Int) (x:Nat) (b:Int) (y:Nat):Option V2:=sq x y (some (.int (a*b) 0))
noncomputable def yT (a:Int) (x:Nat) (b:Int) (y:Nat):Option V2:=sq x y (match dF b 0 with
 |true=>none
 |false=>some (.int (a.fdiv b) 0))
noncomputable def yU (R:fu) (a:Int) (x:Nat) (b:Int) (y:Nat):Option V2:=oT (Do y 0) <| match dF b 0 with
 |true=>none
 |false=>match x with
  |0=>some (.int (a.fmod b) 0)
  |k+1=>oS (R k b) fun r=>some (.int ((a+r).fmod b) 0)
noncomputable def yV (a:Int) (x:Nat) (b:Int) (y:Nat):Option V2:=sq x y (match b with
 |.ofNat n=>oT (EP n 64) <| some (.int (a ^ n) 0)
 |_=>none)
noncomputable def yW (a:Int) (x:Nat) (b:Int) (y:Nat):Option V2:=sq x y (match a with
 |.ofNat m=>match b with
  |.ofNat n=>oT (EP n 64) <| some (.int (.ofNat (m/2 ^ n)) 0)
  |_=>none
 |_=>none)
noncomputable def yX (a:Int) (x:Nat) (b:Int) (y:Nat):Option V2:=sq x y (match a with
 |.ofNat m=>oT (dF b 1) <| some (.int (.ofNat (m%2)) 0)
 |_=>none)
structure Ac where
 run:Int→Nat→Int→Nat→Option V2
noncomputable def AX (R:fu) (op:Iv):Ac:=match op with
 |.Add=>⟨rr⟩
 |.Sub=>⟨yS⟩
 |.Mult=>⟨ut⟩
 |.FloorDiv=>⟨yT⟩
 |.Mod=>⟨yU R⟩
 |.Pow=>⟨yV⟩
 |.RShift=>⟨yW⟩
 |.BitAnd=>⟨yX⟩
 |_=>⟨fun J J J J=>none⟩
noncomputable def bZ (a:Int):Bool:=match a with
 |.ofNat m=>EP m 1000001
 |.negSucc m=>EP m 1000000
structure Bo where
 run:V2→V2→St→Rv
noncomputable def kY (A:Ac) (a:Int) (x:Nat) (b:V2) (st:St):Rv:=V2.rec .no (fun _=>.no) (fun b y=>onT (bZ a) <| onT (bZ b) <| Rv.of st (A.run a x b y)) (fun _=>.no) (fun _=>.no) (fun _=>.no) b
noncomputable def fv (s:List At) (st:St):Rv:=onT (E7 s.length 2000) <| .ok (.str s) st
noncomputable def mF (s:List At) (st:St):Rv:=onT (E7 s.length 2000) <| .ok (.bytes s) st
noncomputable def zA (a:List At) (b:V2) (st:St):Rv:=V2.rec .no (fun _=>.no) (fun _ _=>.no) (fun b=>fv (a++b) st) (fun _=>.no) (fun _=>.no) b
noncomputable def uv (a:List At) (b:V2) (st:St):Rv:=V2.rec .no (fun _=>.no) (fun _ _=>.no) (fun _=>.no) (fun b=>mF (a++b) st) (fun _=>.no) b
noncomputable def zB (i:Nat) (b:V2) (st:St):Rv:=V2.rec .no (fun _=>.no) (fun _ _=>.no) (fun _=>.no) (fun _=>.no) (fun j=>av (st.hp.lst i) fun xs=>av (st.hp.lst j) fun ys=>st.alloc (.list (xs++ys))) b
noncomputable def uw (a b:V2) (st:St):Rv:=V2.rec .no (fun _=>.no) (fun a x=>kY ⟨rr⟩ a x b st) (fun a=>zA a b st) (fun a=>uv a b st) (fun i=>zB i b st) a
noncomputable def cnt (b:V2):Option Nat:=match b with
 |.int k x=>oT (Do x 0) <| match k with
  |.ofNat k=>oT (EP k 100) <| some k
  |_=>none
 |_=>none
noncomputable def zC (a:List At) (b:V2) (st:St):Rv:=av (cnt b) fun k=>match a with
 |[.c n]=>fv (cu [.c n] k) st
 |_=>.no
noncomputable def uy (a:List At) (b:V2) (st:St):Rv:=av (cnt b) fun k=>match a with
 |[.c n]=>mF (cu [.c n] k) st
 |_=>.no
noncomputable def zD (i:Nat) (b:V2) (st:St):Rv:=av (cnt b) fun k=>av (st.hp.lst i) fun xs=>st.alloc (.list (cu xs k))
noncomputable def uA (a b:V2) (st:St):Rv:=match a with
 |.int a x=>kY ⟨ut⟩ a x b st
 |.str a=>zC a b st
 |.bytes a=>uy a b st
 |.ref i=>zD i b st
 |_=>.no
noncomputable def mG (A:Ac) (a b:V2) (st:St):Rv:=match a with
 |.int a x=>kY A a x b st
 |_=>.no
noncomputable def uB (R:fu) (op:Iv):Bo:=match op with
 |.Add=>⟨uw⟩
 |.Mult=>⟨uA⟩
 |op=>⟨mG (AX R op)⟩
noncomputable def eqL (f:V2→V2→Option Bool):List V2→List V2→Option Bool
 |[],[]=>some true
 |a::x,b::y=>oS (f a b) fun r=>match r with
  |true=>eqL f x y
  |false=>some false
 |_,_=>some false
noncomputable def eqV (hp:T2):Nat→V2→V2→Option Bool
 |0,_,_=>none
 |n+1,a,b=>match a with
  |.int a x=>match b with
   |.int b y=>oT (Do x y) <| some (dF a b)
   |_=>none
  |.str a=>match b with
   |.str b=>ur a b
   |_=>none
  |.ref i=>match b with
   |.ref j=>oS (hp.tpl i) fun xs=>oS (hp.tpl j) fun ys=>oS (eqL (eqV hp n) xs ys) fun r=>oT r <| some true
   |_=>none
  |_=>none
noncomputable def rt (hp:T2) (a b:V2):Bool:=match a with
 |.ref i=>match b with
  |.ref j=>bS (hp.lst i) fun xs=>bS (hp.lst j) fun ys=>bS (eqL (eqV hp 3) xs ys) id
  |_=>false
 |_=>false
noncomputable def iB (a b:V2):Option Bool:=match a with
 |.int a x=>match b with
  |.int b y=>oT (Do x y) <| some (dF a b)
  |_=>none
 |.str a=>match b with
  |.str b=>ur a b
  |_=>none
 |_=>none
noncomputable def yY (a b:V2) (st:St):Rv:=av (iB a b) fun r=>.ok (.bool r) st
noncomputable def uC (a b:V2) (st:St):Rv:=match iB a b with
 |some r=>.ok (.bool (!r)) st
 |none=>onT (rt st.hp a b) <| .ok (.bool false) st
noncomputable def mH (a b:Int):Bool:=match a,b with
 |.ofNat m,.ofNat n=>EP m n
 |.ofNat _,.negSucc _=>false
 |.negSucc _,.ofNat _=>true
 |.negSucc m,.negSucc n=>EP n m
noncomputable def yZ (a b:V2) (st:St):Rv:=match a,b with
 |.int a 0,.int b 0=>.ok (.bool (mH b a)) st
 |_,_=>.no
noncomputable def y0 (a b:V2) (st:St):Rv:=match a,b with
 |.str [.c n],.str s=>av (xq n s) fun r=>.ok (.bool r) st
 |_,_=>.no
noncomputable def xr (op:CmpOp):Bo:=match op with
 |.Eq=>⟨yY⟩
 |.NotEq=>⟨uC⟩
 |.Gt=>⟨yZ⟩
 |.In=>⟨y0⟩
 |_=>⟨fun J J J=>.no⟩
noncomputable def rz (v:V2):Option Bool:=match v with
 |.bool b=>some b
 |.int a x=>oT (Do x 0) <| some (!dF a 0)
 |_=>none
noncomputable def oX (k:Int) (n:Nat):Option Nat:=match k with
 |.ofNat m=>oT (EP m n) <| some m
 |.negSucc m=>oT (EP m n) <| some (n-(m+1))
noncomputable def oY (o:V2) (k:Int) (st:St):Option V2:=oT (bZ k) <| V2.rec none (fun _=>none) (fun _ _=>none) (fun s=>oT (aP s) <| oS (oX k s.length) fun m=>oS (nth s m) fun a=>some (.str [a])) (fun _=>none)
 (fun j=>oS (st.hp.get j) fun o=>O2.rec (fun xs=>oS (oX k xs.length) (nth xs)) (fun xs=>oS (oX k xs.length) (nth xs)) (fun _=>none) (fun _=>none) o) o
noncomputable def uD (o i:V2) (st:St):Option V2:=V2.rec none (fun _=>none) (fun k x=>oT (Do x 0) <| oY o k st) (fun _=>none) (fun _=>none) (fun _=>none) i
noncomputable def oZ (v:Option V2) (n dflt:Nat):Option Nat:=match v with
 |none=>some dflt
 |some (.int (.ofNat m) 0)=>oT (E7 m n) <| some m
 |some (.int (.negSucc m) 0)=>oT (EP m n) <| some (n-(m+1))
 |_=>none
noncomputable def cut {α:Type} (xs:List α) (a b:Nat):List α:=(xs.drop a).take (b-a)
noncomputable def fw (lo hi:Option V2) (n:Nat):Option (Nat×Nat):=oS (oZ lo n 0) fun a=>oS (oZ hi n n) fun b=>oT (E7 a b) <| some (a,b)
noncomputable def slice (o:V2) (lo hi:Option V2) (st:St):Rv:=match o with
 |.ref j=>av (st.hp.lst j) fun xs=>match fw lo hi xs.length with
  |some (a,b)=>onT (E7 xs.length 1000) <| st.alloc (.list (cut xs a b))
  |none=>.no
 |.str s=>onT (aP s) <| match fw lo hi s.length with
  |some (a,b)=>fv (cut s a b) st
  |none=>.no
 |_=>.no
noncomputable def iC (c:Nat):List At→Option (List (List At))
 |[]=>some [[]]
 |.c n::r=>oS (iC c r) fun q=>match q with
  |p::ps=>match Do n c with
   |true=>some ([]::p::ps)
   |false=>some ((.c n::p)::ps)
  |[]=>none
 |.t k s::r=>oS (iC c r) fun q=>match q with
  |p::ps=>oT (Do s 1) <| oT (Do c 60) <| some ((.t k s::p)::ps)
  |[]=>none
noncomputable def rA (c:Nat):List At→Option (List At×Option (List At))
 |[]=>some ([],none)
 |.c n::r=>bB (Do n c) (some ([],some r)) <| oS (rA c r) fun z=>some (.c n::z.1,z.2)
 |.t _ _::_=>none
noncomputable def eU (c:Nat):List At→List At
 |[]=>[]
 |.c n::r=>bB (Do n c) (eU c r) (.c n::eU c r)
 |a::r=>a::eU c r
noncomputable def o0:List (List Nat×List Nat):=[([38,108,116,59],[60]),([38,103,116,59],[62]),([38,35,120,68,59],[13]),([38,97,109,112,59],[38])]
noncomputable def gE (n:Nat) (a b:List At):Bool:=bS (o0[n]?) fun p=>and (sE a (p.1.map .c)) <| sE b (p.2.map .c)
noncomputable def uE (a b:List At):Bool:=gE 0 a b||gE 1 a b||gE 2 a b||gE 3 a b
noncomputable def AY (k i:Nat) (a b:List At):Option (List At):=match i with
 |0=>none
 |j+1=>oT (gE j a b) <| some [.t k ((j+2)%5)]
noncomputable def replace (s a b:List At):Option (List At):=match s with
 |[]=>oT (uE a b) <| some []
 |u::r=>match u with
  |.t k i=>match r with
   |[]=>AY k i a b
   |_=>none
  |_=>none
noncomputable def cX (s:Str):List At:=s.cps.toList.map .c
noncomputable def uF:List V2→Option (List At)
 |[]=>some []
 |.bytes b::r=>oS (uF r) fun c=>some (b++c)
 |_=>none
noncomputable def uG:List V2→Option (List At)
 |[]=>some []
 |.str b::r=>oS (uG r) fun c=>some (b++c)
 |_=>none
noncomputable def kZ (k:List At):List (List At×V2)→Option (Option V2)
 |[]=>some none
 |(a,v)::r=>oS (ur k a) fun t=>match t with
  |true=>some (some v)
  |false=>kZ k r
noncomputable def k9 (k:List At) (v:V2):List (List At×V2)→Option (List (List At×V2))
 |[]=>some [(k,v)]
 |(a,u)::r=>oS (ur k a) fun t=>match t with
  |true=>some ((a,v)::r)
  |false=>oS (k9 k v r) fun r'=>some ((a,u)::r')
noncomputable def dn:List At→List At→Option (List At)
 |_,[]=>none
 |acc,.c n::r=>bB (Do n 58) (some acc) <| bB (Do n 10) (some acc) <| bB (Do n 46) (dn [] r) (dn (acc++[.c n]) r)
 |_,.t _ _::_=>none
noncomputable def j8:List At→Bool
 |[]=>false
 |.c n::r=>bB (Do n 58) (tailOk r) <| bB (Do n 10) (tailOk r) <| j8 r
 |.t _ _::_=>false
where tailOk:List At→Bool
 |[]=>true
 |[.t _ 0]=>true
 |_=>false
noncomputable def strip (s:List At):Option (List At):=oT (j8 s) <| dn [] s
noncomputable def eI:List At→Option Int
 |[]=>some 0
 |.c n::r=>oS (eI r) fun b=>bB (Do n 40) (some (b+1)) <| oT (Do n 41) <| some (b-1)
 |.t _ s::r=>oT (Do s 0) <| eI r
noncomputable def ck (a:Int):Nat→List V2
 |0=>[]
 |n+1=>.int a 0::ck (a+1) n
noncomputable def zE:Int→List V2→Option Int
 |a,[]=>some a
 |a,.int b 0::r=>oT (bZ b) <| zE (a+b) r
 |_,_=>none
noncomputable def xt (st:St):List V2→List V2→Rs
 |a::x,b::y=>rvs (st.alloc (.tup [a,b])) fun t st=>rss (xt st x y) fun B st=>.ok (t::B) st
 |_,_=>.ok [] st
inductive Src where
 |range (a:Int)(n:Nat)
 |list (i:Nat)
noncomputable def Src.at (hp:T2) (k:Nat) (s:Src):Option (Option V2):=Src.rec (fun a n=>bB (EP k n) (some (some (.int (a+k) 0))) (some none)) (fun i=>oS (hp.lst i) fun xs=>some (nth xs k)) s
inductive Rf where
 |no|next (st:St)|brk (st:St)|ret (v:V2)(st:St)
inductive Ro where
 |no|ok (v:Option V2)(st:St)
inductive Rg where
 |no|ok (s:Src)(st:St)
noncomputable def rvg (x:Rv) (f:V2→St→Rg):Rg:=Rv.rec .no f x
noncomputable def rsg (x:Rs) (f:List V2→St→Rg):Rg:=Rs.rec .no f x
noncomputable def osg {α:Type} (o:Option α) (f:α→Rg):Rg:=Option.rec .no f o
noncomputable def rgf (x:Rg) (f:Src→St→Rf):Rf:=Rg.rec .no f x
noncomputable def rvf (x:Rv) (f:V2→St→Rf):Rf:=Rv.rec .no f x
noncomputable def rvo (x:Rv) (f:V2→St→Ro):Ro:=Rv.rec .no f x
structure fx where
 params:List Str
 body:List Stmt
 scope:Scope
structure Pm where
 R:fu
 FT:List (Str×fx)
noncomputable def mI (x:Str):List (Str×fx)→Option fx
 |[]=>none
 |(y,r)::t=>match aA x y with
  |true=>some r
  |false=>mI x t
structure Cl where
 run:St→Rv
structure Tc where
 run:St→Rb
structure Xc where
 run:St→Rf
structure Ls where
 run:St→Rs
structure Oc where
 run:St→Ro
structure Sc where
 run:St→Rg
noncomputable def Cl.fail:Cl:=⟨fun J=>.no⟩
noncomputable def cT (b:Bool) (c:Cl):Cl:=Bool.rec .fail c b
noncomputable def cS {α:Type} (o:Option α) (f:α→Cl):Cl:=Option.rec .fail f o
noncomputable def zF (x:Ro) (f:Option V2→St→Rv):Rv:=Ro.rec .no f x
noncomputable def Tc.fail:Tc:=⟨fun J=>.no⟩
noncomputable def Xc.fail:Xc:=⟨fun J=>.no⟩
structure Fn where
 ev:Scope→Expr→Cl
 tr:Scope→Expr→Tc
 ex:Scope→List Stmt→Xc
noncomputable def evs (ev:Expr→Cl):List Expr→Ls
 |[]=>⟨fun st=>.ok [] st⟩
 |e::r=>⟨fun st=>rvs ((ev e).run st) fun v st=>rss ((evs ev r).run st) fun B st=>.ok (v::B) st⟩
noncomputable def uH (ev:Expr→Cl):Option Expr→Oc
 |none=>⟨fun st=>.ok none st⟩
 |some e=>⟨fun st=>rvo ((ev e).run st) fun v st=>.ok (some v) st⟩
noncomputable def rbb (x:Rb) (f:Bool→St→Rb):Rb:=Rb.rec .no f x
noncomputable def rvb (x:Rv) (f:V2→St→Rb):Rb:=Rv.rec .no f x
noncomputable def rbv (x:Rb) (f:Bool→St→Rv):Rv:=Rb.rec .no f x
noncomputable def rbf (x:Rb) (f:Bool→St→Rf):Rf:=Rb.rec .no f x
noncomputable def osf {α:Type} (o:Option α) (f:α→Rf):Rf:=Option.rec .no f o
noncomputable def bG (tr:Expr→Tc):List Expr→Tc
 |[]=>⟨fun st=>.ok true st⟩
 |e::r=>⟨fun st=>rbb ((tr e).run st) fun b st=>match b with
  |true=>(bG tr r).run st
  |false=>.ok false st⟩
noncomputable def o8 (tr:Expr→Tc):List Expr→Tc
 |[]=>⟨fun st=>.ok false st⟩
 |e::r=>⟨fun st=>rbb ((tr e).run st) fun b st=>match b with
  |true=>.ok true st
  |false=>(o8 tr r).run st⟩
noncomputable def hU:Str:=t5 "range"
noncomputable def mJ:Str:=t5 "len"
noncomputable def uI:Str:=t5 "sum"
noncomputable def pd:Str:=t5 "list"
noncomputable def uJ:Str:=t5 "zip"
noncomputable def fY:Str:=t5 "_law_written"
noncomputable def iD:Str:=t5 "_law_quoted"
noncomputable def lb:Str:=t5 "_strip_exception_details"
noncomputable def lf:Str:=t5 "_paren_depth"
noncomputable def j9:Str:=t5 "replace"
noncomputable def rB:Str:=t5 "split"
noncomputable def gF:Str:=t5 "partition"
noncomputable def mK:Str:=t5 "append"
noncomputable def y1:Str:=t5 "pop"
noncomputable def uK:Str:=t5 "join"
noncomputable def y2:Str:=t5 "get"
noncomputable def uL (a:Int):Option Src:=match a with
 |.ofNat n=>oT (EP n 1000) <| some (.range 0 n)
 |_=>none
noncomputable def uM (a b:Int):Option Src:=oT (bZ a) <| oT (bZ b) <| some (.range a (b-a).toNat)
noncomputable def vI (v:V2):Option Int:=match v with
 |.int a x=>oT (Do x 0) <| some a
 |_=>none
noncomputable def ia (B:List V2):Option Src:=match B with
 |[u]=>oS (vI u) uL
 |[u,v]=>oS (vI u) fun a=>oS (vI v) fun b=>uM a b
 |_=>none
noncomputable def zG (v:V2) (st:St):Rg:=match v with
 |.ref i=>.ok (.list i) st
 |_=>.no
noncomputable def fy (c:Cl):Sc:=⟨fun st=>rvg (c.run st) zG⟩
noncomputable def mL (l:Ls):Sc:=⟨fun st=>rsg (l.run st) fun B st=>osg (ia B) fun s=>.ok s st⟩
noncomputable def lg (sc:Scope) (e:Expr):Option (List Expr):=match e with
 |.Call f args B _=>match B with
  |[]=>match f with
   |.Name f _=>oT (aA f hU) <| oT (bR sc f) <| some args
   |_=>none
  |_=>none
 |_=>none
noncomputable def ke (ev:Expr→Cl) (sc:Scope) (e:Expr):Sc:=match lg sc e with
 |some args=>mL (evs ev args)
 |none=>fy (ev e)
noncomputable def AZ (s:List At):Option Nat:=match s with
 |[a]=>match a with
  |.t k z=>oT (Do z 0) <| some k
  |_=>none
 |_=>none
noncomputable def zH (v:V2):Option Nat:=match v with
 |.str s=>AZ s
 |_=>none
noncomputable def pe (G B:List V2):Option (List At):=match G with
 |[]=>none
 |v::r=>match v with
  |.str tag=>match B with
   |[]=>match r with
    |[]=>some (.c 60::tag++[.c 62])
    |_=>none
   |x::u=>oS (zH x) fun k=>oS (pe r u) fun p=>some (.c 60::tag++ .c 62:: .t k 1::p)
  |_=>none
noncomputable def zI (r:List At):Bool:=match r with
 |[]=>false
 |a::_=>match a with
  |.c n=>and (!(Do n 123)) <| and (!(Do n 47)) <| and (aP r) <| E7 r.length 100
  |_=>false
noncomputable def A0 (d:Nat) (r:List At):Option Nat:=match d with
 |d'+1=>oT (zI r) <| some d'
 |0=>none
noncomputable def A1 (d:Nat) (t:List At):Option Nat:=match t with
 |[]=>none
 |a::r=>match a with
  |.c n=>bB (Do n 47) (A0 d r) <| oT (zI t) <| some (d+1)
  |_=>none
noncomputable def pf (d:Nat) (B:List V2):Bool:=match B with
 |[]=>true
 |v::B=>match v with
  |.str t=>bS (A1 d t) fun G=>pf G B
  |_=>false
noncomputable def zJ (B:List V2):Bool:=and (Do B.length 10) <| pf 0 B
noncomputable def rC (body:Xc) (ps:List Str) (B:List V2) (st:St):Rv:=onT (Do ps.length B.length) <| match body.run (st.with (ps.zip B))with
 |.ret v st'=>.ok v (st'.with st.loc)
 |_=>.no
noncomputable def ss (B:List V2):Option V2:=match B with
 |[v]=>some v
 |_=>none
noncomputable def vRR (B:List V2):Option (Nat×Nat):=match B with
 |[u,v]=>match u with
  |.ref i=>match v with
   |.ref j=>some (i,j)
   |_=>none
  |_=>none
 |_=>none
noncomputable def lh (B:List V2) (st:St):Rv:=av (ss B) fun v=>av (zH v) fun k=>.ok (.bytes [.t k 0]) st
noncomputable def xu (v:V2) (st:St):Rv:=match v with
 |.str s=>onT (E7 s.length 2000) <| av (strip s) fun r=>fv r st
 |_=>.no
noncomputable def pi (B:List V2) (st:St):Rv:=av (ss B) fun v=>xu v st
noncomputable def ib (b:List At) (d:Int) (x:Nat) (st:St):Rv:=onT (E7 b.length 2000) <| av (eI b) fun r=>.ok (.int (d+r) x) st
noncomputable def li (B:List V2) (st:St):Rv:=match B with
 |[u]=>match u with
  |.bytes b=>ib b 0 0 st
  |_=>.no
 |[u,v]=>match u with
  |.bytes b=>match v with
   |.int c x=>ib b c x st
   |_=>.no
  |_=>.no
 |_=>.no
noncomputable def su (i j:Nat) (st:St):Rv:=av (st.hp.lst i) fun B=>av (st.hp.lst j) fun G=>onT (zJ B) <| av (pe B G) fun p=>av (st.hp.get 2) fun o=>match o with
 |.tab b=>onT b <| fv p (st.put 2 (.tab false))
 |_=>.no
noncomputable def iE (B:List V2) (st:St):Rv:=av (vRR B) fun p=>su p.1 p.2 st
noncomputable def A2 (v:V2) (st:St):Rv:=match v with
 |.str s=>onT (aP s&&E7 s.length 2000) <| .ok (.int s.length 0) st
 |.ref i=>av (st.hp.lst i) fun xs=>onT (E7 xs.length 1000) <| .ok (.int xs.length 0) st
 |_=>.no
noncomputable def A3 (B:List V2) (st:St):Rv:=av (ss B) fun v=>A2 v st
noncomputable def y3 (v:V2):Option Nat:=match v with
 |.ref i=>some i
 |_=>none
noncomputable def A4 (i:Nat) (st:St):Rv:=av (st.hp.lst i) fun xs=>av (zE 0 xs) fun r=>.ok (.int r 0) st
noncomputable def A5 (B:List V2) (st:St):Rv:=av (ss B) fun v=>av (y3 v) fun i=>A4 i st
inductive y4 where
 |quoted|strip|paren|written|len|sum|bad
noncomputable def iF (f:Str):y4:=match aA f iD with
 |true=>.quoted
 |false=>match aA f lb with
  |true=>.strip
  |false=>match aA f lf with
   |true=>.paren
   |false=>match aA f fY with
    |true=>.written
    |false=>match aA f mJ with
     |true=>.len
     |false=>match aA f uI with
      |true=>.sum
      |false=>.bad
structure Kc where
 run:List V2→St→Rv
noncomputable def kh (w:y4):Kc:=match w with
 |.quoted=>⟨lh⟩
 |.strip=>⟨pi⟩
 |.paren=>⟨li⟩
 |.written=>⟨iE⟩
 |.len=>⟨A3⟩
 |.sum=>⟨A5⟩
 |.bad=>⟨fun J J=>.no⟩
noncomputable def rD (P:Pm) (ex:Scope→List Stmt→Xc) (f:Str):Kc:=match mI f P.FT with
 |some fr=>⟨rC (ex fr.scope fr.body) fr.params⟩
 |none=>kh (iF f)
noncomputable def lj (l:List (List At)):List V2:=l.map .str
structure Mc where
 run:V2→List V2→St→Rv
 pre:V2→St→Bool
noncomputable def lr (o:V2) (_:St):Bool:=match o with
 |.str _=>true
 |_=>false
noncomputable def rE (o:V2) (_:St):Bool:=match o with
 |.str _=>true
 |.bytes _=>true
 |_=>false
noncomputable def ic (o:V2) (st:St):Bool:=match o with
 |.ref i=>bS (st.hp.lst i) fun J=>true
 |_=>false
noncomputable def rF (o:V2) (st:St):Bool:=match o with
 |.ref i=>bS (st.hp.dic i) fun J=>true
 |_=>false
noncomputable def zK (B:List V2):Option Nat:=match B with
 |[v]=>match v with
  |.str s=>match s with
   |[.c c]=>some c
   |_=>none
  |_=>none
 |_=>none
noncomputable def zL (B:List V2):Option Nat:=match B with
 |[v]=>match v with
  |.ref i=>some i
  |_=>none
 |_=>none
noncomputable def A6 (B:List V2):Option Int:=match B with
 |[v]=>match v with
  |.int k x=>oT (Do x 0) <| some k
  |_=>none
 |_=>none
noncomputable def vSV (B:List V2):Option (List At×V2):=match B with
 |[u,v]=>match u with
  |.str k=>some (k,v)
  |_=>none
 |_=>none
noncomputable def xv (s:List At) (c:Nat) (st:St):Rv:=onT (E7 s.length 2000) <| av (iC c s) fun ps=>st.alloc (.list (lj ps))
noncomputable def uN (o:V2) (B:List V2) (st:St):Rv:=match o with
 |.str s=>av (zK B) fun c=>xv s c st
 |_=>.no
noncomputable def y5 (c:Nat) (p:List At) (q:Option (List At)):List V2:=match q with
 |some r=>[.str p,.str [.c c],.str r]
 |none=>[.str p,.str [],.str []]
noncomputable def zM (s:List At) (c:Nat) (st:St):Rv:=onT (E7 s.length 2000) <| av (rA c s) fun z=>st.alloc (.tup (y5 c z.1 z.2))
noncomputable def iG (o:V2) (B:List V2) (st:St):Rv:=match o with
 |.str s=>av (zK B) fun c=>zM s c st
 |_=>.no
noncomputable def zN (i:Nat) (st:St):Rv:=av (st.hp.lst i) fun xs=>av (uG xs) fun r=>fv r st
noncomputable def zO (i:Nat) (st:St):Rv:=av (st.hp.lst i) fun xs=>av (uF xs) fun r=>mF r st
noncomputable def y6 (o:V2) (B:List V2) (st:St):Rv:=match o with
 |.str s=>match s with
  |[]=>av (zL B) fun i=>zN i st
  |_=>.no
 |.bytes s=>match s with
  |[]=>av (zL B) fun i=>zO i st
  |_=>.no
 |_=>.no
noncomputable def uO (i:Nat) (v:V2) (st:St):Rv:=av (st.hp.lst i) fun xs=>onT (EP xs.length 1000&&EP st.n 4000) <| .ok .none (st.put i (.list (xs++[v])))
noncomputable def rG (o:V2) (B:List V2) (st:St):Rv:=match o with
 |.ref i=>av (ss B) fun v=>uO i v st
 |_=>.no
noncomputable def A7 (i:Nat) (k:Int) (st:St):Rv:=av (st.hp.lst i) fun xs=>onT (EP xs.length 1000&&EP st.n 4000&&bZ k) <| av (oX k xs.length) fun j=>av (xs[j]?) fun v=>.ok v (st.put i (.list (xs.eraseIdx j)))
noncomputable def A8 (o:V2) (B:List V2) (st:St):Rv:=match o with
 |.ref i=>av (A6 B) fun k=>A7 i k st
 |_=>.no
noncomputable def A9 (i:Nat) (k:List At) (v:V2) (st:St):Rv:=av (st.hp.dic i) fun es=>av (kZ k es) fun o=>match o with
 |some u=>.ok u st
 |none=>.ok v st
noncomputable def Ba (o:V2) (B:List V2) (st:St):Rv:=match o with
 |.ref i=>av (vSV B) fun p=>A9 i p.1 p.2 st
 |_=>.no
noncomputable def rH (m:Str):Mc:=match aA m rB with
 |true=>⟨uN,lr⟩
 |false=>match aA m gF with
  |true=>⟨iG,lr⟩
  |false=>match aA m uK with
   |true=>⟨y6,rE⟩
   |false=>match aA m mK with
    |true=>⟨rG,ic⟩
    |false=>match aA m y1 with
     |true=>⟨A8,ic⟩
     |false=>match aA m y2 with
      |true=>⟨Ba,rF⟩
      |false=>⟨fun J J J=>.no,fun J J=>false⟩
noncomputable def eJ:Expr→Bool
 |.Name _ _=>true
 |.Subscript _ _ _=>true
 |.Constant _ _ _=>true
 |_=>false
noncomputable def xw (s:Src) (st:St):Rv:=match s with
 |.range a n=>onT (EP n 1000) <| st.alloc (.list (ck a n))
 |_=>.no
noncomputable def uP (l:Ls):Cl:=⟨fun st=>um (l.run st) fun B st=>av (ia B) fun s=>xw s st⟩
noncomputable def Bb (i j:Nat) (st:St):Rv:=av (st.hp.lst i) fun xs=>av (st.hp.lst j) fun ys=>um (xt st xs ys) fun B st=>st.alloc (.list B)
noncomputable def Bc (B:List V2) (st:St):Rv:=av (vRR B) fun p=>Bb p.1 p.2 st
noncomputable def cZ (l:Ls) (k:Kc):Cl:=⟨fun st=>um (l.run st) fun B st=>k.run B st⟩
noncomputable def pj (ev:Expr→Cl) (sc:Scope) (e:Expr):Cl:=match e with
 |.Call f args B _=>match B with
  |[]=>match f with
   |.Name g _=>cT (bR sc g) <| match aA g hU with
    |true=>uP (evs ev args)
    |false=>cT (aA g uJ) <| cZ (evs ev args) ⟨Bc⟩
   |_=>.fail
  |_=>.fail
 |_=>.fail
noncomputable def zP (c:Const):Option V2:=match c with
 |.none=>some .none
 |.bool b=>some (.bool b)
 |.int i=>some (.int i 0)
 |.str s=>some (.str (s.cps.toList.map .c))
 |.bytes b=>some (.bytes (b.map fun x=>.c x.toNat))
 |_=>none
noncomputable def lw (c:Const):Cl:=cS (zP c) fun v=>⟨fun st=>.ok v st⟩
noncomputable def iH (sc:Scope) (x:Str):Cl:=cT (iA sc x) <| ⟨fun st=>Rv.of st (lk x st.loc)⟩
noncomputable def d0 (a b:Cl) (k:Bo):Cl:=⟨fun st=>oW (a.run st) fun u st=>oW (b.run st) fun v st=>k.run u v st⟩
noncomputable def BU:V2→Option V2
 |.int c 0=>oT (bZ c) <| some (.int (-c) 0)
 |_=>none
noncomputable def y7 (a:Cl):Cl:=⟨fun st=>oW (a.run st) fun v st=>Rv.of st (BU v)⟩
noncomputable def rI (ops:List CmpOp) (bs:List Expr):Option (CmpOp×Expr):=match ops with
 |[op]=>match bs with
  |[b]=>some (op,b)
  |_=>none
 |_=>none
noncomputable def Be (ev:Expr→Cl) (a:Expr) (ops:List CmpOp) (bs:List Expr):Cl:=cS (rI ops bs) fun p=>d0 (ev a) (ev p.2) (xr p.1)
noncomputable def y8 (t:Tc) (a b:Cl):Cl:=⟨fun st=>rbv (t.run st) fun c st=>match c with
 |true=>a.run st
 |false=>b.run st⟩
noncomputable def uQ (B:List V2) (st:St):Rv:=st.alloc (.list B)
noncomputable def y9 (B:List V2) (st:St):Rv:=st.alloc (.tup B)
noncomputable def uR (B:List (Option Expr)) (G:List Expr):Cl:=match B with
 |[]=>match G with
  |[]=>⟨fun st=>st.alloc (.dict [])⟩
  |_=>.fail
 |_=>.fail
noncomputable def rJ (o:Cl) (lo hi:Oc):Cl:=⟨fun st=>oW (o.run st) fun ov st=>zF (lo.run st) fun l st=>zF (hi.run st) fun h st=>slice ov l h st⟩
noncomputable def uS (o i:V2) (st:St):Rv:=Rv.of st (uD o i st)
noncomputable def za (ev:Expr→Cl) (o i:Expr):Cl:=match i with
 |.Slice lo hi stp _=>match stp with
  |none=>rJ (ev o) (uH ev lo) (uH ev hi)
  |some _=>.fail
 |i=>d0 (ev o) (ev i) ⟨uS⟩
noncomputable def uT (o:Cl) (m:Mc) (args:Ls):Cl:=⟨fun st=>oW (o.run st) fun ov st=>onT (m.pre ov st) <| um (args.run st) fun B st=>m.run ov B st⟩
noncomputable def zQ (v:V2) (c:Nat) (st:St):Rv:=match v with
 |.str s=>onT (aP s&&E7 s.length 2000) <| fv (eU c s) st
 |_=>.no
noncomputable def zb (o:Cl) (c:Nat):Cl:=⟨fun st=>oW (o.run st) fun v st=>zQ v c st⟩
noncomputable def sv (e:Expr):Option Str:=match e with
 |.Constant c _ _=>match c with
  |.str a=>some a
  |_=>none
 |_=>none
noncomputable def iI (e:Expr):Option Str:=match e with
 |.Name x _=>some x
 |_=>none
noncomputable def uU (e:Expr):Option (List Expr):=match e with
 |.Tuple es _ _=>some es
 |_=>none
noncomputable def zR (e:Expr):Option (List Nat):=oS (sv e) fun a=>some a.cps.toList
noncomputable def zc (l:List Nat):Option Nat:=match l with
 |[c]=>some c
 |_=>none
noncomputable def zd (l:List Nat):Bool:=match l with
 |[]=>true
 |_=>false
noncomputable def fz (m:Str) (args:List Expr):Option Nat:=oT (aA m j9) <| match args with
 |[x,y]=>oS (zR x) fun a=>oS (zR y) fun b=>oS (zc a) fun c=>oT (zd b) <| some c
 |_=>none
noncomputable def uV (ev:Expr→Cl) (o:Expr) (m:Str) (B:Nat) (args:List Expr) (l:Nat):Cl:=cT (eJ o&&EP args.length 30) <| cT (Do B l) <| match fz m args with
 |some c=>zb (ev o) c
 |none=>uT (ev o) (rH m) (evs ev args)
noncomputable def uW (ev:Expr→Cl) (sc:Scope) (args:List Expr):Cl:=match args with
 |[a]=>pj ev sc a
 |_=>.fail
noncomputable def rK (P:Pm) (F:Fn) (sc:Scope) (f:Str) (args:List Expr):Cl:=cT (bR sc f) <| match aA f pd with
 |true=>uW (F.ev sc) sc args
 |false=>cZ (evs (F.ev sc) args) (rD P F.ex f)
noncomputable def pn (P:Pm) (F:Fn) (sc:Scope) (f:Expr) (args:List Expr) (B:List I9) (pos:Pos):Cl:=match B with
 |[]=>match f with
  |.Attribute o m ap=>uV (F.ev sc) o m ap.endLine args pos.line
  |.Name f _=>rK P F sc f args
  |_=>.fail
 |_=>.fail
inductive Rc where
 |no|ok (vs:List V2)(n:Nat)(h:T2)
noncomputable def rco {α:Type} (o:Option α) (f:α→Rc):Rc:=Option.rec .no f o
noncomputable def rvc (x:Rv) (f:V2→St→Rc):Rc:=Rv.rec .no f x
noncomputable def rcc (x:Rc) (f:List V2→Nat→T2→Rc):Rc:=Rc.rec .no f x
noncomputable def rcv (x:Rc) (f:List V2→Nat→T2→Rv):Rv:=Rc.rec .no f x
noncomputable def rgv (x:Rg) (f:Src→St→Rv):Rv:=Rg.rec .no f x
noncomputable def rbc (x:Rb) (f:Bool→St→Rc):Rc:=Rb.rec .no f x
noncomputable def uX {α:Type} (o:Option α) (r:Rv):Rv:=Option.rec r (fun J=>.no) o
noncomputable def uY (x:Str) (s:Src) (H:Tc) (elt:Cl) (l:List (Str×V2)):Nat→Nat→Nat→T2→Rc
 |0,_,_,_=>.no
 |n+1,k,m,h=>rco (s.at h k) fun o=>match o with
  |some v=>rbc (H.run ⟨(x,v)::l,m,h⟩) fun b B=>match b with
   |true=>rvc (elt.run B) fun u G=>rcc (uY x s H elt l n (k+1) G.n G.hp) fun us m h=>.ok (u::us) m h
   |false=>uY x s H elt l n (k+1) B.n B.hp
  |none=>.ok [] m h
noncomputable def eK (x:Str) (B:Sc) (G:Tc) (elt:Cl):Cl:=⟨fun st=>uX (lk ro st.loc) <| rgv (B.run st) fun s st=>rcv (uY x s G elt st.loc 64 0 st.n st.hp) fun H n h=>(St.mk st.loc n h).alloc (.list H)⟩
noncomputable def xx (F:Fn) (sc:Scope) (elt:Expr) (csc:Scope) (t iter:Expr) (B:List Expr):Cl:=match t with
 |.Name x _=>cT (bQ csc x&&uq csc.kind&&rq sc x csc.names&&bT csc.names) <| eK x (ke (F.ev sc) sc iter) (bG (F.tr csc) B) (F.ev csc elt)
 |_=>.fail
noncomputable def lA (F:Fn) (sc:Scope) (elt:Expr) (gens:List KS) (csc:Scope):Cl:=match gens with
 |[g]=>match g with
  |⟨t,iter,B,as⟩=>cT (dF as 0) <| xx F sc elt csc t iter B
 |_=>.fail
noncomputable def BV (ev:Expr→Cl) (op:UnaryOp) (a:Expr):Cl:=match op with
 |.USub=>y7 (ev a)
 |_=>.fail
noncomputable def br (P:Pm) (F:Fn) (sc:Scope) (e:Expr):Cl:=match e with
 |.Constant c _ _=>lw c
 |.Name x _=>iH sc x
 |.BinOp a op b _=>d0 (F.ev sc a) (F.ev sc b) (uB P.R op)
 |.UnaryOp op a _=>BV (F.ev sc) op a
 |.Compare a ops bs _=>Be (F.ev sc) a ops bs
 |.IfExp t a b _=>y8 (F.tr sc t) (F.ev sc a) (F.ev sc b)
 |.List es _=>cZ (evs (F.ev sc) es) ⟨uQ⟩
 |.Tuple es _ _=>cZ (evs (F.ev sc) es) ⟨y9⟩
 |.Dict G H _=>uR G H
 |.Subscript o i _=>za (F.ev sc) o i
 |.Call f args B pos=>pn P F sc f args B pos
 |.ListComp elt gens csc _=>lA F sc elt gens csc
 |_=>.fail
noncomputable def lB (c:Cl):Tc:=⟨fun st=>rvb (c.run st) fun v st=>Rb.of st (rz v)⟩
noncomputable def zS (tr:Expr→Tc) (op:PySem.BoolOp) (es:List Expr):Tc:=match op with
 |.And=>bG tr es
 |.Or=>o8 tr es
noncomputable def ze (t:Tc):Tc:=⟨fun st=>rbb (t.run st) fun b st=>.ok (!b) st⟩
noncomputable def uZ (F:Fn) (sc:Scope) (e:Expr):Tc:=match e with
 |.BoolOp op es _=>zS (F.tr sc) op es
 |.UnaryOp op a p=>match op with
  |.Not=>ze (F.tr sc a)
  |op=>lB (F.ev sc (.UnaryOp op a p))
 |.IfExp _ _ _ _=>.fail
 |e=>lB (F.ev sc e)
noncomputable def ki (sc:Scope) (t:Expr) (v:V2) (l:List (Str×V2)):Option (List (Str×V2)):=oS (iI t) fun x=>oT (bQ sc x) <| some (up x v l)
noncomputable def e8 (sc:Scope):List Expr→List V2→List (Str×V2)→Option (List (Str×V2))
 |[],B,l=>match B with
  |[]=>some l
  |_=>none
 |t::G,B,l=>match B with
  |v::B=>oS (ki sc t v l) fun l=>e8 sc G B l
  |_=>none
noncomputable def zf (st:St) (v:V2):Option (List V2):=match v with
 |.ref i=>st.hp.tpl i
 |_=>none
noncomputable def mM (sc:Scope) (st:St) (t:Expr) (v:V2):Option St:=match uU t with
 |some B=>oS (zf st v) fun G=>oS (e8 sc B G st.loc) fun l=>some (st.with l)
 |none=>oS (ki sc t v st.loc) fun l=>some (st.with l)
noncomputable def xy (st:St) (j:Nat) (xs:List V2) (k:Int) (v:V2):Option St:=match k with
 |.ofNat m=>oT (EP m xs.length&&E7 xs.length 1000&&EP st.n 4000) <| some (st.put j (.list (xs.set m v)))
 |_=>none
noncomputable def xz (st:St) (j:Nat) (es:List (List At×V2)) (k:List At) (v:V2):Option St:=oT (aP k&&E7 es.length 1000&&EP st.n 4000) <| oS (k9 k v es) fun B=>some (st.put j (.dict B))
noncomputable def setItem (st:St) (j:Nat) (iv v:V2):Option St:=oS (st.hp.get j) fun o=>match o with
 |.list xs=>match iv with
  |.int k x=>oT (Do x 0) <| xy st j xs k v
  |_=>none
 |.dict es=>match iv with
  |.str key=>xz st j es key v
  |_=>none
 |_=>none
noncomputable def Rf.of (o:Option St):Rf:=Option.rec .no .next o
noncomputable def zT (i:Cl) (v ov:V2) (st:St):Rf:=match ov with
 |.ref j=>rvf (i.run st) fun iv st=>Rf.of (setItem st j iv v)
 |_=>.no
noncomputable def rL (c o i:Cl):Xc:=⟨fun st=>rvf (c.run st) fun v st=>rvf (o.run st) fun ov st=>zT i v ov st⟩
noncomputable def b0 (sc:Scope) (c:Cl) (t:Expr):Xc:=⟨fun st=>rvf (c.run st) fun v st=>Rf.of (mM sc st t v)⟩
noncomputable def iJ (e:Expr):Bool:=match e with
 |.Tuple _ _ _=>false
 |.ListComp _ _ _ _=>false
 |_=>true
noncomputable def mO (ev:Expr→Cl) (sc:Scope) (B:List Expr) (e:Expr):Xc:=match B with
 |[t]=>match t with
  |.Subscript o i _=>rL (ev e) (ev o) (ev i)
  |.Name _ _=>b0 sc (ev e) t
  |t=>match iJ e with
   |true=>b0 sc (ev e) t
   |false=>.fail
 |_=>.fail
noncomputable def po (c:Cl):Xc:=⟨fun st=>rvf (c.run st) fun J st=>.next st⟩
noncomputable def pr (c:Cl):Xc:=⟨fun st=>rvf (c.run st) fun v st=>.ret v st⟩
noncomputable def Bf (ev:Expr→Cl) (e:Option Expr):Xc:=match e with
 |some e=>pr (ev e)
 |none=>.fail
noncomputable def Bg (t:Tc) (a b:Xc):Xc:=⟨fun st=>rbf (t.run st) fun c st=>bB c (a.run st) (b.run st)⟩
noncomputable def dp (r:Rf):Rf:=match r with
 |.brk st=>.next st
 |r=>r
noncomputable def bo (r:Rf) (f:St→Rf):Rf:=Rf.rec .no f .brk .ret r
noncomputable def zU (s:Src) (x:Str) (b:Xc) (n:Nat):Nat→St→Rf:=Nat.rec (motive:=fun _=>Nat→St→Rf) (fun _ _=>.no)
 (fun _ B k st=>osf (s.at st.hp k) fun o=>Option.rec (.next st) (fun v=>bo (b.run (st.with (up x v st.loc))) (B (k+1))) o) n
noncomputable def sw (t:Tc) (b:Xc) (n:Nat):St→Rf:=Nat.rec (motive:=fun _=>St→Rf) (fun _=>.no) (fun _ B st=>rbf (t.run st) fun c st=>bB c (bo (b.run st) B) (.next st)) n
noncomputable def zg (B:Sc) (x:Str) (b:Xc):Xc:=⟨fun st=>rgf (B.run st) fun s st=>dp (zU s x b 64 0 st)⟩
noncomputable def rM (t:Tc) (b:Xc):Xc:=⟨fun st=>dp (sw t b 64 st)⟩
noncomputable def zh (e:Expr):Option (Str×Str):=oS (uU e) fun es=>match es with
 |[x,y]=>oS (sv x) fun a=>oS (sv y) fun b=>some (a,b)
 |_=>none
noncomputable def ie:List Expr→Option (List (Str×Str))
 |[]=>some []
 |e::r=>oS (zh e) fun p=>oS (ie r) fun l=>some (p::l)
noncomputable def d8 (sc:Scope) (x:Str):Bool:=match aA x dE with
 |true=>false
 |false=>match au x sc.names with
  |some .local=>true
  |_=>false
structure zV where
 x:Str
 y:Str
 z:Str
 ps:List (Str×Str)
structure u0 where
 o:Expr
 m:Str
 ap:Pos
 args:List Expr
 pos:Pos
noncomputable def zi (e:Expr):Option u0:=match e with
 |.Call f args B pos=>match B with
  |[]=>match f with
   |.Attribute o m ap=>some ⟨o,m,ap,args,pos⟩
   |_=>none
  |_=>none
 |_=>none
structure Bh where
 t:Expr
 e:Expr
noncomputable def Bi (s:Stmt):Option Bh:=match s with
 |.Assign B e _=>match B with
  |[t]=>some ⟨t,e⟩
  |_=>none
 |_=>none
noncomputable def xB (e:Expr) (x:Str):Bool:=bS (iI e) fun y=>aA x y
noncomputable def zj (sc:Scope) (x y z:Str) (c:u0):Bool:=xB c.o z&&(match c.args with
 |[a,b]=>xB a y&&xB b x
 |_=>false)&&aA c.m j9&&Do c.ap.endLine c.pos.line&&
 d8 sc x&&d8 sc y&&d8 sc z&& !(aA x y)&& !(aA x z)&& !(aA y z)
noncomputable def ig (sc:Scope) (x y:Str) (b:List Stmt):Option Str:=match b with
 |[s]=>oS (Bi s) fun a=>oS (iI a.t) fun z=>oS (zi a.e) fun c=>oT (zj sc x y z c) <| some z
 |_=>none
noncomputable def zk (e:Expr):Option (List Expr):=match e with
 |.List es _=>some es
 |_=>none
noncomputable def rN (sc:Scope) (t it:Expr) (b:List Stmt):Option zV:=oS (uU t) fun B=>match B with
 |[G,H]=>oS (iI G) fun x=>oS (iI H) fun y=>oS (zk it) fun es=>oS (ie es) fun ps=>oS (ig sc x y b) fun z=>oT (E7 ps.length 1000) <| some ⟨x,y,z,ps⟩
 |_=>none
noncomputable def zl (v:V2):Option (List At):=match v with
 |.str s=>some s
 |_=>none
noncomputable def rO (x y z:Str):List (Str×Str)→St→Rf
 |[],st=>.next st
 |(a,b)::r,st=>osf (lk z st.loc) fun v=>osf (zl v) fun s=>osf (replace s (cX b) (cX a)) fun u=>rO x y z r (st.with (up z (.str u) (up y (.str (cX b)) (up x (.str (cX a)) st.loc))))
noncomputable def iK (F:Fn) (sc:Scope) (t it:Expr) (b:List Stmt):Xc:=match rN sc t it b with
 |some l=>⟨rO l.x l.y l.z l.ps⟩
 |none=>match t with
  |.Name x _=>match bQ sc x with
   |true=>zg (ke (F.ev sc) sc it) x (F.ex sc b)
   |false=>.fail
  |_=>.fail
noncomputable def iL (F:Fn) (sc:Scope) (s:Stmt):Xc:=match s with
 |.Assign G e _=>mO (F.ev sc) sc G e
 |.Expr e _=>match e with
  |.Call _ _ _ _=>po (F.ev sc e)
  |_=>.fail
 |.Return e _=>Bf (F.ev sc) e
 |.If t a b _=>Bg (F.tr sc t) (F.ex sc a) (F.ex sc b)
 |.For t it b B _=>match B with
  |[]=>iK F sc t it b
  |_=>.fail
 |.While t b B _=>match B with
  |[]=>rM (F.tr sc t) (F.ex sc b)
  |_=>.fail
 |.Break _=>⟨fun st=>.brk st⟩
 |_=>.fail
noncomputable def bJ (F:Fn) (sc:Scope):List Stmt→Xc
 |[]=>⟨fun st=>.next st⟩
 |s::r=>⟨fun st=>bo ((iL F sc s).run st) (bJ F sc r).run⟩
noncomputable def fns (P:Pm):Nat→Fn
 |0=>⟨fun J J=>.fail,fun J J=>.fail,fun J J=>.fail⟩
 |n+1=>⟨br P (fns P n),uZ (fns P n),bJ (fns P n)⟩
noncomputable def ac (i:Nat):Stmt:=PySem.Challenge.pw_if0002_01.main.body.getD i (.Pass JE)
noncomputable def aa:Stmt→fx
 |.FunctionDef _ args body _ _ _ scope _ _ _=>⟨args.args.map (·.arg),body,scope⟩
 |_=>⟨[],[],JE⟩
noncomputable def rP:List (Str×fx):=[("_law_ends",aa (ac 18)),("_law_tags",aa (ac 19)),("_law_read",aa (ac 21)),("_law_crossings",aa (ac 22)),("_law_line",aa (ac 24)),
 ("_law_others",aa (ac 25)),("_law_line_of_sets",aa (ac 26)),("_law_determinant",aa (ac 27))]
noncomputable def aB:fx:=aa (ac 28)
theorem ax {α:Type}{C:Prop}{o:Option α}{f:α→Rv}{r:V2}{st:St}(e:av o f=.ok r st)(k:∀a,o=some a→f a=.ok r st→C):C:=by
 cases o with
 |none=>contradiction
 |some a=>exact k a rfl e
theorem bN {C:Prop}{b:Bool}{x:Rv}{r:V2}{st:St}(e:onT b x=.ok r st)(k:b=true→x=.ok r st→C):C:=by
 cases b with
 |false=>contradiction
 |true=>exact k rfl e
theorem zm {C:Prop}{o:Option V2}{s:St}{r:V2}{st:St}(e:Rv.of s o=.ok r st)(k:∀u,o=some u→Rv.ok u s=.ok r st→C):C:=by
 cases o with
 |none=>contradiction
 |some a=>exact k a rfl e
theorem eV {C:Prop}{x:Rv}{f:V2→St→Rv}{r:V2}{st:St}(e:oW x f=.ok r st)(k:∀u s,x=.ok u s→f u s=.ok r st→C):C:=by
 cases x with
 |no=>contradiction
 |ok u s=>exact k u s rfl e
theorem gG {C:Prop}{x:Rs}{f:List V2→St→Rv}{r:V2}{st:St}(e:um x f=.ok r st)(k:∀u s,x=.ok u s→f u s=.ok r st→C):C:=by
 cases x with
 |no=>contradiction
 |ok u s=>exact k u s rfl e
theorem zn {C:Prop}{x:Ro}{f:Option V2→St→Rv}{r:V2}{st:St}(e:zF x f=.ok r st)(k:∀u s,x=.ok u s→f u s=.ok r st→C):C:=by
 cases x with
 |no=>contradiction
 |ok u s=>exact k u s rfl e
theorem lC {C:Prop}{x:Rv}{f:V2→St→Rs}{r:List V2}{st:St}(e:rvs x f=.ok r st)(k:∀u s,x=.ok u s→f u s=.ok r st→C):C:=by
 cases x with
 |no=>contradiction
 |ok u s=>exact k u s rfl e
theorem pu {C:Prop}{x:Rs}{f:List V2→St→Rs}{r:List V2}{st:St}(e:rss x f=.ok r st)(k:∀u s,x=.ok u s→f u s=.ok r st→C):C:=by
 cases x with
 |no=>contradiction
 |ok u s=>exact k u s rfl e
theorem zW {C:Prop}{x:Rv}{f:V2→St→Ro}{r:Option V2}{st:St}(e:rvo x f=.ok r st)(k:∀u s,x=.ok u s→f u s=.ok r st→C):C:=by
 cases x with
 |no=>contradiction
 |ok u s=>exact k u s rfl e
theorem zX {C:Prop}{x:Rv}{f:V2→St→Rg}{r:Src}{st:St}(e:rvg x f=.ok r st)(k:∀u s,x=.ok u s→f u s=.ok r st→C):C:=by
 cases x with
 |no=>contradiction
 |ok u s=>exact k u s rfl e
theorem zY {C:Prop}{x:Rs}{f:List V2→St→Rg}{r:Src}{st:St}(e:rsg x f=.ok r st)(k:∀u s,x=.ok u s→f u s=.ok r st→C):C:=by
 cases x with
 |no=>contradiction
 |ok u s=>exact k u s rfl e
theorem zZ {α:Type}{C:Prop}{o:Option α}{f:α→Rg}{r:Src}{st:St}(e:osg o f=.ok r st)(k:∀a,o=some a→f a=.ok r st→C):C:=by
 cases o with
 |none=>contradiction
 |some a=>exact k a rfl e
theorem dk {C:Prop}{x:Rv}{f:V2→St→Rf}{r:Rf}(e:rvf x f=r)(n:r≠.no)(k:∀u s,x=.ok u s→f u s=r→C):C:=by
 cases x with
 |no=>exact absurd e.symm n
 |ok u s=>exact k u s rfl e
theorem u1 {α:Type}{C:Prop}{o:Option α}{f:α→Rc}{r:List V2}{m:Nat}{h:T2}(e:rco o f=.ok r m h)(k:∀a,o=some a→f a=.ok r m h→C):C:=by
 cases o with
 |none=>contradiction
 |some a=>exact k a rfl e
theorem z0 {C:Prop}{x:Rv}{f:V2→St→Rc}{r:List V2}{m:Nat}{h:T2}(e:rvc x f=.ok r m h)(k:∀u s,x=.ok u s→f u s=.ok r m h→C):C:=by
 cases x with
 |no=>contradiction
 |ok u s=>exact k u s rfl e
theorem z8 {C:Prop}{x:Rc}{f:List V2→Nat→T2→Rc}{r:List V2}{m:Nat}{h:T2}(e:rcc x f=.ok r m h)(k:∀u n g,x=.ok u n g→f u n g=.ok r m h→C):C:=by
 cases x with
 |no=>contradiction
 |ok u n g=>exact k u n g rfl e
theorem z9 {C:Prop}{x:Rc}{f:List V2→Nat→T2→Rv}{r:V2}{st:St}(e:rcv x f=.ok r st)(k:∀u n g,x=.ok u n g→f u n g=.ok r st→C):C:=by
 cases x with
 |no=>contradiction
 |ok u n g=>exact k u n g rfl e
theorem pv {C:Prop}{x:Rg}{f:Src→St→Rv}{r:V2}{st:St}(e:rgv x f=.ok r st)(k:∀u s,x=.ok u s→f u s=.ok r st→C):C:=by
 cases x with
 |no=>contradiction
 |ok u s=>exact k u s rfl e
theorem Aa {C:Prop}{x:Rb}{f:Bool→St→Rc}{r:List V2}{m:Nat}{h:T2}(e:rbc x f=.ok r m h)(k:∀b s,x=.ok b s→f b s=.ok r m h→C):C:=by
 cases x with
 |no=>contradiction
 |ok b s=>exact k b s rfl e
theorem lD {C:Prop}{x:Rb}{f:Bool→St→Rb}{c:Bool}{st:St}(e:rbb x f=.ok c st)(k:∀b s,x=.ok b s→f b s=.ok c st→C):C:=by
 cases x with
 |no=>contradiction
 |ok b s=>exact k b s rfl e
theorem pw {C:Prop}{x:Rv}{f:V2→St→Rb}{c:Bool}{st:St}(e:rvb x f=.ok c st)(k:∀v s,x=.ok v s→f v s=.ok c st→C):C:=by
 cases x with
 |no=>contradiction
 |ok v s=>exact k v s rfl e
theorem Ab {C:Prop}{x:Rb}{f:Bool→St→Rv}{r:V2}{st:St}(e:rbv x f=.ok r st)(k:∀b s,x=.ok b s→f b s=.ok r st→C):C:=by
 cases x with
 |no=>contradiction
 |ok b s=>exact k b s rfl e
theorem Ad {C:Prop}{x:Rb}{f:Bool→St→Rf}{r:Rf}(e:rbf x f=r)(n:r≠.no)(k:∀b s,x=.ok b s→f b s=r→C):C:=by
 cases x with
 |no=>exact absurd e.symm n
 |ok b s=>exact k b s rfl e
theorem xF {C:Prop}{x:Rb}{f:Bool→St→Rf}{r:Rf}(e:dp (rbf x f)=r)(n:r≠.no)(k:∀b s,x=.ok b s→dp (f b s)=r→C):C:=by
 cases x with
 |no=>exact absurd e.symm n
 |ok b s=>exact k b s rfl e
theorem pz {α:Type}{C:Prop}{o:Option α}{f:α→Rf}{r:Rf}(e:osf o f=r)(n:r≠.no)(k:∀a,o=some a→f a=r→C):C:=by
 cases o with
 |none=>exact absurd e.symm n
 |some a=>exact k a rfl e
theorem u2 {C:Prop}{o:Option Bool}{s:St}{c:Bool}{st:St}(e:Rb.of s o=.ok c st)(k:o=some c→s=st→C):C:=by
 cases o with
 |none=>contradiction
 |some b=>injection e with e1 e2;subst e1;exact k rfl e2
theorem sy {v:V2}{s:List At}(h:zl v=some s):v=.str s:=by
 cases v with
 |str t=>injection h with h;subst h;rfl
 |_=>contradiction
theorem u3 {α:Type}{C:Prop}{o:Option α}{x:Rv}{r:V2}{st:St}(e:uX o x=.ok r st)(k:o=none→x=.ok r st→C):C:=by
 cases o with
 |some _=>contradiction
 |none=>exact k rfl e
theorem u4 {C:Prop}{x:Rg}{f:Src→St→Rf}{r:Rf}(e:rgf x f=r)(n:r≠.no)(k:∀u s,x=.ok u s→f u s=r→C):C:=by
 cases x with
 |no=>exact absurd e.symm n
 |ok u s=>exact k u s rfl e
theorem u5 {C:Prop}{o:Option St}{r:Rf}(e:Rf.of o=r)(n:r≠.no)(k:∀s,o=some s→r=.next s→C):C:=by
 cases o with
 |none=>exact absurd e.symm n
 |some s=>exact k s rfl e.symm
theorem aS {α β:Type}{C:Prop}{o:Option α}{f:α→Option β}{r:β}(e:oS o f=some r)(k:∀a,o=some a→f a=some r→C):C:=by
 cases o with
 |none=>contradiction
 |some a=>exact k a rfl e
theorem az {β:Type}{C:Prop}{b:Bool}{x:Option β}{r:β}(e:oT b x=some r)(k:b=true→x=some r→C):C:=by
 cases b with
 |false=>contradiction
 |true=>exact k rfl e
theorem aT {C:Prop}{a b:Bool}(e:and a b=true)(k:a=true→b=true→C):C:=by
 cases a with
 |false=>contradiction
 |true=>exact k rfl e
theorem u6 {C:Prop}{b:Bool}{c:Cl}{s:St}{r:V2}{st:St}(e:(cT b c).run s=.ok r st)(k:b=true→c.run s=.ok r st→C):C:=by
 cases b with
 |false=>contradiction
 |true=>exact k rfl e
theorem zo {C:Prop}{b:Bool}{c d:Cl}(e:cT b c=d)(k0:d=.fail→C)(k1:b=true→c=d→C):C:=by
 cases b with
 |false=>exact k0 e.symm
 |true=>exact k1 rfl e
theorem Bj {α:Type}{C:Prop}{o:Option α}{f:α→Cl}{s:St}{r:V2}{st:St}(e:(cS o f).run s=.ok r st)(k:∀a,o=some a→(f a).run s=.ok r st→C):C:=by
 cases o with
 |none=>contradiction
 |some a=>exact k a rfl e
theorem c8 {β:Type}{C:Prop}{b:Bool}{x y r:β}(e:bB b x y=r)(k1:b=true→x=r→C)(k2:b=false→y=r→C):C:=by
 cases b with
 |false=>exact k2 rfl e
 |true=>exact k1 rfl e
theorem iM {α:Type}{C:Prop}{o:Option α}{f:α→Bool}(e:bS o f=true)(k:∀a,o=some a→f a=true→C):C:=by
 cases o with
 |none=>contradiction
 |some a=>exact k a rfl e
theorem ii {t:T2}{i:Nat}{xs:List V2}(e:t.lst i=some xs):t.get i=some (.list xs):=aS e fun o h e=>by
 cases o with
 |list ys=>injection e with e;subst e;exact h
 |_=>contradiction
theorem rQ {t:T2}{i:Nat}{xs:List V2}(e:t.tpl i=some xs):t.get i=some (.tup xs):=aS e fun o h e=>by
 cases o with
 |tup ys=>injection e with e;subst e;exact h
 |_=>contradiction
theorem rR {t:T2}{i:Nat}{xs:List (List At×V2)}(e:t.dic i=some xs):t.get i=some (.dict xs):=aS e fun o h e=>by
 cases o with
 |dict ys=>injection e with e;subst e;exact h
 |_=>contradiction
theorem bU {C:Prop}{t:T2}{i:Nat}{f:List V2→Rv}{r:V2}{st:St}(e:av (t.lst i) f=.ok r st)(k:∀xs,t.get i=some (.list xs)→f xs=.ok r st→C):C:=
 ax e fun a h e=>k a (ii h) e
theorem ij {C:Prop}{t:T2}{i:Nat}{f:List V2→Bool}(e:bS (t.lst i) f=true)(k:∀xs,t.get i=some (.list xs)→f xs=true→C):C:=
 iM e fun a h e=>k a (ii h) e
theorem xG {C:Prop}{t:T2}{i:Nat}{f:List (List At×V2)→Bool}(e:bS (t.dic i) f=true)(k:∀xs,t.get i=some (.dict xs)→f xs=true→C):C:=
 iM e fun a h e=>k a (rR h) e
theorem rS {C:Prop}{β:Type}{t:T2}{i:Nat}{f:List V2→Option β}{r:β}(e:oS (t.lst i) f=some r)(k:∀xs,t.get i=some (.list xs)→f xs=some r→C):C:=
 aS e fun a h e=>k a (ii h) e
theorem u7 {C:Prop}{β:Type}{t:T2}{i:Nat}{f:List V2→Option β}{r:β}(e:oS (t.tpl i) f=some r)(k:∀xs,t.get i=some (.tup xs)→f xs=some r→C):C:=
 aS e fun a h e=>k a (rQ h) e
theorem Ae {C:Prop}{t:T2}{i:Nat}{f:List (List At×V2)→Rv}{r:V2}{st:St}(e:av (t.dic i) f=.ok r st)(k:∀xs,t.get i=some (.dict xs)→f xs=.ok r st→C):C:=
 ax e fun a h e=>k a (rR h) e
end
noncomputable section
noncomputable def md (c:Nat):Int:=match c with
 |0=>7
 |1=>5
 |2=>3
 |_=>1
noncomputable def sz (p:Option Int):fu:=fun k m=>bB (dF m (md (k/8))) (some (.ofNat (k%8))) <| oT (dF m 2&&Do k 24) p
noncomputable def d9 (i j k:Nat):List V2:=[.int 0 (i+1),.int 0 (8+j+1),.int 0 (16+k+1),.int 0 25]
noncomputable def stL (i j k:Nat):St:=⟨[("cells",.ref 0),("texts",.ref 1)],3,((T2.nil.set 12 0 (.list (d9 i j k))).set 12 1 (.list ((DQ 9).map fun k=>.str [.t k 0]))).set 12 2 (.tab true)⟩
structure VK where
 t:Nat
 c:Int
 x:Nat
 s:List At
noncomputable def V2.key (v:V2):VK:=V2.rec ⟨0,0,0,[]⟩ (fun b=>⟨1,0,bB b 1 0,[]⟩) (fun c x=>⟨2,c,x,[]⟩) (fun s=>⟨3,0,0,s⟩) (fun s=>⟨4,0,0,s⟩) (fun i=>⟨5,0,i,[]⟩) v
noncomputable def lsE {α:Type} (f:α→α→Bool) (a:List α):List α→Bool:=List.rec (motive:=fun _=>List α→Bool) (fun b=>List.rec (motive:=fun _=>Bool) true (fun _ _ _=>false) b) (fun x _ B b=>List.rec (motive:=fun _=>Bool) false (fun y r _=>and (f x y) (B r)) b) a
noncomputable def prE {α β:Type} (f:α→α→Bool) (g:β→β→Bool) (a b:α×β):Bool:=and (f a.1 b.1) (g a.2 b.2)
noncomputable def v2E (a b:V2):Bool:=and (Do a.key.t b.key.t) <| and (dF a.key.c b.key.c) <| and (Do a.key.x b.key.x) <| lsE atE a.key.s b.key.s
structure OK2 where
 t:Nat
 l:List V2
 d:List (List At×V2)
noncomputable def O2.key (o:O2):OK2:=O2.rec (fun l=>⟨0,l,[]⟩) (fun l=>⟨1,l,[]⟩) (fun d=>⟨2,[],d⟩) (fun b=>⟨bB b 3 4,[],[]⟩) o
noncomputable def o2E (a b:O2):Bool:=and (Do a.key.t b.key.t) <| and (lsE v2E a.key.l b.key.l) <| lsE (prE (lsE atE) v2E) a.key.d b.key.d
noncomputable def ooE (a b:Option O2):Bool:=Option.rec (motive:=fun _=>Bool) (Option.rec (motive:=fun _=>Bool) true (fun _=>false) b) (fun x=>Option.rec (motive:=fun _=>Bool) false (o2E x) b) a
noncomputable def t2E (a:T2):T2→Bool:=T2.rec (motive:=fun _=>T2→Bool) (fun b=>T2.rec (motive:=fun _=>Bool) true (fun _ _ _ _ _=>false) b) (fun o _ _ B G b=>T2.rec (motive:=fun _=>Bool) false (fun p l r _ _=>and (ooE o p) <| and (B l) (G r)) b) a
noncomputable def stE (a b:St):Bool:=and (lsE (prE aA v2E) a.loc b.loc) <| and (Do a.n b.n) <| t2E a.hp b.hp
noncomputable def onN (r:Rf) (f:St→Bool):Bool:=Rf.rec false f (fun _=>false) (fun _ _=>false) r
noncomputable def zq (r:Rf):Bool:=match r with
 |.ret (.bool b) st=>(match st.hp.get 2 with
  |some (.tab _)=>b
  |_=>false)
 |_=>false
noncomputable def fnP (p:Option Int):Fn:=fns ⟨sz p,rP⟩ 199
noncomputable def u8:List Stmt:=(aB.body.drop 2).take 3
noncomputable def pA:List Stmt:=(aB.body.drop 5).take 1
noncomputable def xH:List Stmt:=aB.body.drop 6
noncomputable def ed (i j k:Nat):Bool:=onN ((bJ (fnP none) aB.scope u8).run (stL i j k)) fun a=>onN ((bJ (fnP (some 0)) aB.scope pA).run a) fun b=>onN ((bJ (fnP (some 1)) aB.scope pA).run a) fun c=>
 and (stE b c) <| zq ((bJ (fnP none) aB.scope xH).run b)
end
end
section
open PySem PySem.W PyProof.Rows
section
set_option maxHeartbeats 0
noncomputable def lawP (p:C9):OpenLaw:={ prog:=p,name:=(t5 "law"),about:=[(t5 "_paren_depth")],foot:=13,most:=some 63,bound:=none,writes:=false }
noncomputable def wsP (p:C9):Bool:=(lawP p).wellSaid
lay_quick Mine.Lake.wsP
theorem ws:PySem.Challenge.rw_if0002_01.wellSaid=true:=by
 show wsP PySem.Challenge.pw_if0002_01=true;refine(congrFun PySem.W.Fast.te13415998507981640784 _).trans ?_
 kernel_rfl
end
end
section
open PySem
theorem ca0:((DQ 5).all fun j=>(DQ 3).all fun k=>ed 0 j k)=true:=by decide+kernel
theorem ca1:((DQ 5).all fun j=>(DQ 3).all fun k=>ed 1 j k)=true:=by decide+kernel
theorem ca2:((DQ 5).all fun j=>(DQ 3).all fun k=>ed 2 j k)=true:=by decide+kernel
theorem ca3:((DQ 5).all fun j=>(DQ 3).all fun k=>ed 3 j k)=true:=by decide+kernel
theorem ca4:((DQ 5).all fun j=>(DQ 3).all fun k=>ed 4 j k)=true:=by decide+kernel
theorem ca5:((DQ 5).all fun j=>(DQ 3).all fun k=>ed 5 j k)=true:=by decide+kernel
theorem ca6:((DQ 5).all fun j=>(DQ 3).all fun k=>ed 6 j k)=true:=by decide+kernel
end
section
theorem yAA {B G R:Prop}(H:B)(h1:G)(h2:R):B∧G∧R:=⟨H,h1,h2⟩
theorem lF {B G H R:Prop}(J:B)(h1:G)(h2:H)(h3:R):B∧G∧H∧R:=⟨J,h1,h2,h3⟩
theorem sC {B:Type}{G H J O V Z:Prop}{P6 R:B→Prop}(h0:G)(h1:H)(h2:J)(h3:O)(h4:V)(h5:Z)(x0:B)(h6:P6 x0)(h7:R x0):G∧H∧J∧O∧V∧Z∧∃x0,P6 x0∧R x0:=⟨h0,h1,h2,h3,h4,h5,x0,h6,h7⟩
theorem u9 {B:Type}{G H J:Prop}{O R:B→Prop}(V:G)(h1:H)(h2:J)(x0:B)(h3:O x0)(h4:R x0):G∧H∧J∧∃x0,O x0∧R x0:=⟨V,h1,h2,x0,h3,h4⟩
theorem yEA {B:Type}{G R:B→Prop}(x0:B)(H:G x0)(h1:R x0):∃x0,G x0∧R x0:=⟨x0,H,h1⟩
theorem dY {B:Type}{G H R:B→Prop}(x0:B)(J:G x0)(h1:H x0)(h2:R x0):∃x0,G x0∧H x0∧R x0:=⟨x0,J,h1,h2⟩
theorem gH {B:Type}{G H J R:B→Prop}(x0:B)(O:G x0)(h1:H x0)(h2:J x0)(h3:R x0):∃x0,G x0∧H x0∧J x0∧R x0:=⟨x0,O,h1,h2,h3⟩
theorem Bk {B G:Type}{H J:B→Prop}{R:B→G→Prop}(x0:B)(O:H x0)(h1:J x0)(x1:G)(h2:R x0 x1):∃x0,H x0∧J x0∧∃x1,R x0 x1:=⟨x0,O,h1,x1,h2⟩
theorem Af {B G:Type}{H J:B→Prop}{O R:B→G→Prop}(x0:B)(V:H x0)(h1:J x0)(x1:G)(h2:O x0 x1)(h3:R x0 x1):∃x0,H x0∧J x0∧∃x1,O x0 x1∧R x0 x1:=⟨x0,V,h1,x1,h2,h3⟩
theorem gI {B G H J O:Type}{V Z:B→Prop}{P2 P3 P4 R:B→G→H→J→O→Prop}(x0:B)(h0:V x0)(h1:Z x0)(x1:G)(x2:H)(x3:J)(x4:O)(h2:P2 x0 x1 x2 x3 x4)(h3:P3 x0 x1 x2 x3 x4)(h4:P4 x0 x1 x2 x3 x4)(h5:R x0 x1 x2 x3 x4):∃x0,V x0∧Z x0∧∃x1,∃x2,∃x3,∃x4,P2 x0 x1 x2 x3 x4∧P3 x0 x1 x2 x3 x4∧P4 x0 x1 x2 x3 x4∧R x0 x1 x2 x3 x4:=⟨x0,h0,h1,x1,x2,x3,x4,h2,h3,h4,h5⟩
theorem va {B G:Type}{H:B→Prop}{J R:B→G→Prop}(x0:B)(O:H x0)(x1:G)(h1:J x0 x1)(h2:R x0 x1):∃x0,H x0∧∃x1,J x0 x1∧R x0 x1:=⟨x0,O,x1,h1,h2⟩
theorem Ag {B G H J:Type}{O:B→Prop}{R:B→G→H→J→Prop}(x0:B)(V:O x0)(x1:G)(x2:H)(x3:J)(h1:R x0 x1 x2 x3):∃x0,O x0∧∃x1,∃x2,∃x3,R x0 x1 x2 x3:=⟨x0,V,x1,x2,x3,h1⟩
theorem yEE {B G:Type}{R:B→G→Prop}(x0:B)(x1:G)(H:R x0 x1):∃x0,∃x1,R x0 x1:=⟨x0,x1,H⟩
theorem dG {B G:Type}{H R:B→G→Prop}(x0:B)(x1:G)(J:H x0 x1)(h1:R x0 x1):∃x0,∃x1,H x0 x1∧R x0 x1:=⟨x0,x1,J,h1⟩
theorem bp {B G:Type}{H J R:B→G→Prop}(x0:B)(x1:G)(O:H x0 x1)(h1:J x0 x1)(h2:R x0 x1):∃x0,∃x1,H x0 x1∧J x0 x1∧R x0 x1:=⟨x0,x1,O,h1,h2⟩
theorem bi {B G:Type}{H J O V R:B→G→Prop}(x0:B)(x1:G)(Z:H x0 x1)(h1:J x0 x1)(h2:O x0 x1)(h3:V x0 x1)(h4:R x0 x1):∃x0,∃x1,H x0 x1∧J x0 x1∧O x0 x1∧V x0 x1∧R x0 x1:=⟨x0,x1,Z,h1,h2,h3,h4⟩
theorem bt {B G:Type}{H J O V Z R:B→G→Prop}(x0:B)(x1:G)(h0:H x0 x1)(h1:J x0 x1)(h2:O x0 x1)(h3:V x0 x1)(h4:Z x0 x1)(h5:R x0 x1):∃x0,∃x1,H x0 x1∧J x0 x1∧O x0 x1∧V x0 x1∧Z x0 x1∧R x0 x1:=⟨x0,x1,h0,h1,h2,h3,h4,h5⟩
theorem pB {B G:Type}{H J O V Z P5 P6 R:B→G→Prop}(x0:B)(x1:G)(h0:H x0 x1)(h1:J x0 x1)(h2:O x0 x1)(h3:V x0 x1)(h4:Z x0 x1)(h5:P5 x0 x1)(h6:P6 x0 x1)(h7:R x0 x1):∃x0,∃x1,H x0 x1∧J x0 x1∧O x0 x1∧V x0 x1∧Z x0 x1∧P5 x0 x1∧P6 x0 x1∧R x0 x1:=⟨x0,x1,h0,h1,h2,h3,h4,h5,h6,h7⟩
theorem rT {B G H:Type}{J O:B→G→Prop}{V R:B→G→H→Prop}(x0:B)(x1:G)(Z:J x0 x1)(h1:O x0 x1)(x2:H)(h2:V x0 x1 x2)(h3:R x0 x1 x2):∃x0,∃x1,J x0 x1∧O x0 x1∧∃x2,V x0 x1 x2∧R x0 x1 x2:=⟨x0,x1,Z,h1,x2,h2,h3⟩
theorem fA {B G H:Type}{J R:B→G→H→Prop}(x0:B)(x1:G)(x2:H)(O:J x0 x1 x2)(h1:R x0 x1 x2):∃x0,∃x1,∃x2,J x0 x1 x2∧R x0 x1 x2:=⟨x0,x1,x2,O,h1⟩
theorem vb {B G H:Type}{J O R:B→G→H→Prop}(x0:B)(x1:G)(x2:H)(V:J x0 x1 x2)(h1:O x0 x1 x2)(h2:R x0 x1 x2):∃x0,∃x1,∃x2,J x0 x1 x2∧O x0 x1 x2∧R x0 x1 x2:=⟨x0,x1,x2,V,h1,h2⟩
theorem xI {B G H:Type}{J O V R:B→G→H→Prop}(x0:B)(x1:G)(x2:H)(Z:J x0 x1 x2)(h1:O x0 x1 x2)(h2:V x0 x1 x2)(h3:R x0 x1 x2):∃x0,∃x1,∃x2,J x0 x1 x2∧O x0 x1 x2∧V x0 x1 x2∧R x0 x1 x2:=⟨x0,x1,x2,Z,h1,h2,h3⟩
theorem mP {B G H:Type}{J O V Z R:B→G→H→Prop}(x0:B)(x1:G)(x2:H)(h0:J x0 x1 x2)(h1:O x0 x1 x2)(h2:V x0 x1 x2)(h3:Z x0 x1 x2)(h4:R x0 x1 x2):∃x0,∃x1,∃x2,J x0 x1 x2∧O x0 x1 x2∧V x0 x1 x2∧Z x0 x1 x2∧R x0 x1 x2:=⟨x0,x1,x2,h0,h1,h2,h3,h4⟩
theorem vc {B G H J:Type}{O R:B→G→H→J→Prop}(x0:B)(x1:G)(x2:H)(x3:J)(V:O x0 x1 x2 x3)(h1:R x0 x1 x2 x3):∃x0,∃x1,∃x2,∃x3,O x0 x1 x2 x3∧R x0 x1 x2 x3:=⟨x0,x1,x2,x3,V,h1⟩
theorem lG {B G H J:Type}{O V R:B→G→H→J→Prop}(x0:B)(x1:G)(x2:H)(x3:J)(Z:O x0 x1 x2 x3)(h1:V x0 x1 x2 x3)(h2:R x0 x1 x2 x3):∃x0,∃x1,∃x2,∃x3,O x0 x1 x2 x3∧V x0 x1 x2 x3∧R x0 x1 x2 x3:=⟨x0,x1,x2,x3,Z,h1,h2⟩
theorem pC {B G H J:Type}{O V Z P3 P4 R:B→G→H→J→Prop}(x0:B)(x1:G)(x2:H)(x3:J)(h0:O x0 x1 x2 x3)(h1:V x0 x1 x2 x3)(h2:Z x0 x1 x2 x3)(h3:P3 x0 x1 x2 x3)(h4:P4 x0 x1 x2 x3)(h5:R x0 x1 x2 x3):∃x0,∃x1,∃x2,∃x3,O x0 x1 x2 x3∧V x0 x1 x2 x3∧Z x0 x1 x2 x3∧P3 x0 x1 x2 x3∧P4 x0 x1 x2 x3∧R x0 x1 x2 x3:=⟨x0,x1,x2,x3,h0,h1,h2,h3,h4,h5⟩
theorem c9 {B G H J:Type}{O V Z P3 P4 P5 R:B→G→H→J→Prop}(x0:B)(x1:G)(x2:H)(x3:J)(h0:O x0 x1 x2 x3)(h1:V x0 x1 x2 x3)(h2:Z x0 x1 x2 x3)(h3:P3 x0 x1 x2 x3)(h4:P4 x0 x1 x2 x3)(h5:P5 x0 x1 x2 x3)(h6:R x0 x1 x2 x3):∃x0,∃x1,∃x2,∃x3,O x0 x1 x2 x3∧V x0 x1 x2 x3∧Z x0 x1 x2 x3∧P3 x0 x1 x2 x3∧P4 x0 x1 x2 x3∧P5 x0 x1 x2 x3∧R x0 x1 x2 x3:=⟨x0,x1,x2,x3,h0,h1,h2,h3,h4,h5,h6⟩
theorem xJ {B G H J O V:Type}{R:B→G→H→J→O→V→Prop}(x0:B)(x1:G)(x2:H)(x3:J)(x4:O)(x5:V)(Z:R x0 x1 x2 x3 x4 x5):∃x0,∃x1,∃x2,∃x3,∃x4,∃x5,R x0 x1 x2 x3 x4 x5:=⟨x0,x1,x2,x3,x4,x5,Z⟩
theorem eW {B G H J O V:Type}{Z P1 P2 P3 P4 P5 R:B→G→H→J→O→V→Prop}(x0:B)(x1:G)(x2:H)(x3:J)(x4:O)(x5:V)(h0:Z x0 x1 x2 x3 x4 x5)(h1:P1 x0 x1 x2 x3 x4 x5)(h2:P2 x0 x1 x2 x3 x4 x5)(h3:P3 x0 x1 x2 x3 x4 x5)(h4:P4 x0 x1 x2 x3 x4 x5)(h5:P5 x0 x1 x2 x3 x4 x5)(h6:R x0 x1 x2 x3 x4 x5):∃x0,∃x1,∃x2,∃x3,∃x4,∃x5,Z x0 x1 x2 x3 x4 x5∧P1 x0 x1 x2 x3 x4 x5∧P2 x0 x1 x2 x3 x4 x5∧P3 x0 x1 x2 x3 x4 x5∧P4 x0 x1 x2 x3 x4 x5∧P5 x0 x1 x2 x3 x4 x5∧R x0 x1 x2 x3 x4 x5:=⟨x0,x1,x2,x3,x4,x5,h0,h1,h2,h3,h4,h5,h6⟩
theorem jO {J O V Z a0 a8 a9 ag al b1 G H:Type}{R:J→O→V→Z→a0→a8→a9→ag→al→b1→G→H→Prop}(x0:J)(x1:O)(x2:V)(x3:Z)(x4:a0)(x5:a8)(x6:a9)(x7:ag)(x8:al)(x9:b1)(B:G)(x11:H)(h0:R x0 x1 x2 x3 x4 x5 x6 x7 x8 x9 B x11):∃x0,∃x1,∃x2,∃x3,∃x4,∃x5,∃x6,∃x7,∃x8,∃x9,∃B,∃x11,R x0 x1 x2 x3 x4 x5 x6 x7 x8 x9 B x11:=⟨x0,x1,x2,x3,x4,x5,x6,x7,x8,x9,B,x11,h0⟩
end
section
theorem fC {C:Prop}(o:Bool)(k0:o=.false→C)(k1:o=.true→C):C:=match o,k0,k1 with
 |.false,B,_=>B rfl
 |.true,_,B=>B rfl
theorem aJ {C:Prop}(o:Bool)(k1:o=.true→C)(k0:o=.false→C):C:=match o,k1,k0 with
 |.false,_,B=>B rfl
 |.true,B,_=>B rfl
theorem zr {α:Type}{C:Prop}(o:List α)(k0:o=.nil→C)(k1:∀(a:α) (l:List α),o=.cons a l→C):C:=match o,k0,k1 with
 |.nil,B,_=>B rfl
 |.cons a l,_,B=>B a l rfl
theorem cRf {C:Prop}(o:Mine.Lake.Rf)(k0:o=.no→C)(k1:∀(st:St),o=.next st→C)(k2:∀(st:St),o=.brk st→C)(k3:∀(v:V2) (st:St),o=.ret v st→C):C:=match o,k0,k1,k2,k3 with
 |.no,B,_,_,_=>B rfl
 |.next st,_,B,_,_=>B st rfl
 |.brk st,_,_,B,_=>B st rfl
 |.ret v st,_,_,_,B=>B v st rfl
theorem cRs {C:Prop}(o:Mine.Lake.Rs)(k0:o=.no→C)(k1:∀(B:List V2) (st:St),o=.ok B st→C):C:=match o,k0,k1 with
 |.no,G,_=>G rfl
 |.ok B st,_,G=>G B st rfl
theorem cRv {C:Prop}(o:Mine.Lake.Rv)(k0:o=.no→C)(k1:∀(v:V2) (st:St),o=.ok v st→C):C:=match o,k0,k1 with
 |.no,B,_=>B rfl
 |.ok v st,_,B=>B v st rfl
theorem cz {α:Type}{C:Prop}(o:Option α)(k0:o=.none→C)(k1:∀(a:α),o=.some a→C):C:=match o,k0,k1 with
 |.none,B,_=>B rfl
 |.some a,_,B=>B a rfl
theorem cK {α:Type}{C:Prop}(o:Option α)(k1:∀(a:α),o=.some a→C)(k0:o=.none→C):C:=match o,k1,k0 with
 |.none,_,B=>B rfl
 |.some a,B,_=>B a rfl
end
section
def aR:Lean.Syntax:=.node .none `Lean.Parser.Tactic.tacticSeq #[.node .none `Lean.Parser.Tactic.tacticSeq1Indented #[.node .none `null #[.node .none `Lean.Parser.Tactic.tacticRfl #[.atom .none "rfl"]]]]
theorem xA {B R C:Prop}(h:B∧R)(k:B→R→C):C:=k h.1 h.2
theorem xAA {B G R C:Prop}(h:B∧G∧R)(k:B→G→R→C):C:=k h.1 h.2.1 h.2.2
theorem cL {B G H R C:Prop}(h:B∧G∧H∧R)(k:B→G→H→R→C):C:=k h.1 h.2.1 h.2.2.1 h.2.2.2
theorem vd {B G H J O R C:Prop}(h:B∧G∧H∧J∧O∧R)(k:B→G→H→J→O→R→C):C:=k h.1 h.2.1 h.2.2.1 h.2.2.2.1 h.2.2.2.2.1 h.2.2.2.2.2
theorem ve {B G H J O V Z R C:Prop}(h:B∧G∧H∧J∧O∧V∧Z∧R)(k:B→G→H→J→O→V→Z→R→C):C:=k h.1 h.2.1 h.2.2.1 h.2.2.2.1 h.2.2.2.2.1 h.2.2.2.2.2.1 h.2.2.2.2.2.2.1 h.2.2.2.2.2.2.2
theorem sD {B:Type}{G H J O V Z C:Prop}{P6 R:B→Prop}(h:G∧H∧J∧O∧V∧Z∧∃x0,P6 x0∧R x0)(k:G→H→J→O→V→Z→∀x0,P6 x0→R x0→C):C:=h.2.2.2.2.2.2.elim fun x0 h1=>k h.1 h.2.1 h.2.2.1 h.2.2.2.1 h.2.2.2.2.1 h.2.2.2.2.2.1 x0 h1.1 h1.2
theorem xAE {B:Type}{G C:Prop}{R:B→Prop}(h:G∧∃x0,R x0)(k:G→∀x0,R x0→C):C:=h.2.elim fun x0 h1=>k h.1 x0 h1
theorem Bl {B G:Type}{H C:Prop}{J R:B→G→Prop}(h:H∧∃x0,∃x1,J x0 x1∧R x0 x1)(k:H→∀x0,∀x1,J x0 x1→R x0 x1→C):C:=h.2.elim fun x0 h1=>h1.elim fun x1 h2=>k h.1 x0 x1 h2.1 h2.2
theorem xE {B:Type}{R:B→Prop}{C:Prop}(h:∃x0,R x0)(k:∀x0,R x0→C):C:=h.elim fun x0 h1=>k x0 h1
theorem xEA {B:Type}{G R:B→Prop}{C:Prop}(h:∃x0,G x0∧R x0)(k:∀x0,G x0→R x0→C):C:=h.elim fun x0 h1=>k x0 h1.1 h1.2
theorem aQ {B:Type}{G H R:B→Prop}{C:Prop}(h:∃x0,G x0∧H x0∧R x0)(k:∀x0,G x0→H x0→R x0→C):C:=h.elim fun x0 h1=>k x0 h1.1 h1.2.1 h1.2.2
theorem da {B:Type}{G H J R:B→Prop}{C:Prop}(h:∃x0,G x0∧H x0∧J x0∧R x0)(k:∀x0,G x0→H x0→J x0→R x0→C):C:=h.elim fun x0 h1=>k x0 h1.1 h1.2.1 h1.2.2.1 h1.2.2.2
theorem vf {B:Type}{G H J O R:B→Prop}{C:Prop}(h:∃x0,G x0∧H x0∧J x0∧O x0∧R x0)(k:∀x0,G x0→H x0→J x0→O x0→R x0→C):C:=h.elim fun x0 h1=>k x0 h1.1 h1.2.1 h1.2.2.1 h1.2.2.2.1 h1.2.2.2.2
theorem gJ {B G:Type}{H J:B→Prop}{R:B→G→Prop}{C:Prop}(h:∃x0,H x0∧J x0∧∃x1,R x0 x1)(k:∀x0,H x0→J x0→∀x1,R x0 x1→C):C:=h.elim fun x0 h1=>h1.2.2.elim fun x1 h2=>k x0 h1.1 h1.2.1 x1 h2
theorem vg {B G:Type}{H J:B→Prop}{O R:B→G→Prop}{C:Prop}(h:∃x0,H x0∧J x0∧∃x1,O x0 x1∧R x0 x1)(k:∀x0,H x0→J x0→∀x1,O x0 x1→R x0 x1→C):C:=h.elim fun x0 h1=>h1.2.2.elim fun x1 h2=>k x0 h1.1 h1.2.1 x1 h2.1 h2.2
theorem xK {B G:Type}{H J:B→Prop}{O V R:B→G→Prop}{C:Prop}(h:∃x0,H x0∧J x0∧∃x1,O x0 x1∧V x0 x1∧R x0 x1)(k:∀x0,H x0→J x0→∀x1,O x0 x1→V x0 x1→R x0 x1→C):C:=h.elim fun x0 h1=>h1.2.2.elim fun x1 h2=>k x0 h1.1 h1.2.1 x1 h2.1 h2.2.1 h2.2.2
theorem gK {B H J O V:Type}{Z P1:B→Prop}{P2 P3 P4 R:B→H→J→O→V→Prop}{C:Prop}(h:∃x0,Z x0∧P1 x0∧∃x1,∃x2,∃x3,∃x4,P2 x0 x1 x2 x3 x4∧P3 x0 x1 x2 x3 x4∧P4 x0 x1 x2 x3 x4∧R x0 x1 x2 x3 x4)(k:∀x0,Z x0→P1 x0→∀x1,∀x2,∀x3,∀x4,P2 x0 x1 x2 x3 x4→P3 x0 x1 x2 x3 x4→P4 x0 x1 x2 x3 x4→R x0 x1 x2 x3 x4→C):C:=h.elim fun x0 h1=>h1.2.2.elim fun x1 h2=>h2.elim fun x2 h3=>h3.elim fun x3 h4=>h4.elim fun x4 G=>k x0 h1.1 h1.2.1 x1 x2 x3 x4 G.1 G.2.1 G.2.2.1 G.2.2.2
theorem gX {B G:Type}{H:B→Prop}{R:B→G→Prop}{C:Prop}(h:∃x0,H x0∧∃x1,R x0 x1)(k:∀x0,H x0→∀x1,R x0 x1→C):C:=h.elim fun x0 h1=>h1.2.elim fun x1 h2=>k x0 h1.1 x1 h2
theorem vh {B G:Type}{H:B→Prop}{J R:B→G→Prop}{C:Prop}(h:∃x0,H x0∧∃x1,J x0 x1∧R x0 x1)(k:∀x0,H x0→∀x1,J x0 x1→R x0 x1→C):C:=h.elim fun x0 h1=>h1.2.elim fun x1 h2=>k x0 h1.1 x1 h2.1 h2.2
theorem Ah {B G H J:Type}{O:B→Prop}{R:B→G→H→J→Prop}{C:Prop}(h:∃x0,O x0∧∃x1,∃x2,∃x3,R x0 x1 x2 x3)(k:∀x0,O x0→∀x1,∀x2,∀x3,R x0 x1 x2 x3→C):C:=h.elim fun x0 h1=>h1.2.elim fun x1 h2=>h2.elim fun x2 h3=>h3.elim fun x3 h4=>k x0 h1.1 x1 x2 x3 h4
theorem jP {G H J O V:Type}{Z:G→Prop}{P1 P2 P3 P4 P5 P6 R:G→H→J→O→V→Prop}{C:Prop}(h:∃x0,Z x0∧∃x1,∃x2,∃x3,∃x4,P1 x0 x1 x2 x3 x4∧P2 x0 x1 x2 x3 x4∧P3 x0 x1 x2 x3 x4∧P4 x0 x1 x2 x3 x4∧P5 x0 x1 x2 x3 x4∧P6 x0 x1 x2 x3 x4∧R x0 x1 x2 x3 x4)(k:∀x0,Z x0→∀x1,∀x2,∀x3,∀x4,P1 x0 x1 x2 x3 x4→P2 x0 x1 x2 x3 x4→P3 x0 x1 x2 x3 x4→P4 x0 x1 x2 x3 x4→P5 x0 x1 x2 x3 x4→P6 x0 x1 x2 x3 x4→R x0 x1 x2 x3 x4→C):C:=h.elim fun x0 h1=>h1.2.elim fun x1 h2=>h2.elim fun x2 h3=>h3.elim fun x3 h4=>h4.elim fun x4 B=>k x0 h1.1 x1 x2 x3 x4 B.1 B.2.1 B.2.2.1 B.2.2.2.1 B.2.2.2.2.1 B.2.2.2.2.2.1 B.2.2.2.2.2.2
theorem xEE {B G:Type}{R:B→G→Prop}{C:Prop}(h:∃x0,∃x1,R x0 x1)(k:∀x0,∀x1,R x0 x1→C):C:=h.elim fun x0 h1=>h1.elim fun x1 h2=>k x0 x1 h2
theorem aL {B G:Type}{H R:B→G→Prop}{C:Prop}(h:∃x0,∃x1,H x0 x1∧R x0 x1)(k:∀x0,∀x1,H x0 x1→R x0 x1→C):C:=h.elim fun x0 h1=>h1.elim fun x1 h2=>k x0 x1 h2.1 h2.2
theorem aE {B G:Type}{H J R:B→G→Prop}{C:Prop}(h:∃x0,∃x1,H x0 x1∧J x0 x1∧R x0 x1)(k:∀x0,∀x1,H x0 x1→J x0 x1→R x0 x1→C):C:=h.elim fun x0 h1=>h1.elim fun x1 h2=>k x0 x1 h2.1 h2.2.1 h2.2.2
theorem Ai {B G:Type}{H J O R:B→G→Prop}{C:Prop}(h:∃x0,∃x1,H x0 x1∧J x0 x1∧O x0 x1∧R x0 x1)(k:∀x0,∀x1,H x0 x1→J x0 x1→O x0 x1→R x0 x1→C):C:=h.elim fun x0 h1=>h1.elim fun x1 h2=>k x0 x1 h2.1 h2.2.1 h2.2.2.1 h2.2.2.2
theorem aZ {B G:Type}{H J O V R:B→G→Prop}{C:Prop}(h:∃x0,∃x1,H x0 x1∧J x0 x1∧O x0 x1∧V x0 x1∧R x0 x1)(k:∀x0,∀x1,H x0 x1→J x0 x1→O x0 x1→V x0 x1→R x0 x1→C):C:=h.elim fun x0 h1=>h1.elim fun x1 h2=>k x0 x1 h2.1 h2.2.1 h2.2.2.1 h2.2.2.2.1 h2.2.2.2.2
theorem ek {B G:Type}{H J O V Z R:B→G→Prop}{C:Prop}(h:∃x0,∃x1,H x0 x1∧J x0 x1∧O x0 x1∧V x0 x1∧Z x0 x1∧R x0 x1)(k:∀x0,∀x1,H x0 x1→J x0 x1→O x0 x1→V x0 x1→Z x0 x1→R x0 x1→C):C:=h.elim fun x0 h1=>h1.elim fun x1 h2=>k x0 x1 h2.1 h2.2.1 h2.2.2.1 h2.2.2.2.1 h2.2.2.2.2.1 h2.2.2.2.2.2
theorem fb {B G:Type}{H J O V Z P5 P6 R:B→G→Prop}{C:Prop}(h:∃x0,∃x1,H x0 x1∧J x0 x1∧O x0 x1∧V x0 x1∧Z x0 x1∧P5 x0 x1∧P6 x0 x1∧R x0 x1)(k:∀x0,∀x1,H x0 x1→J x0 x1→O x0 x1→V x0 x1→Z x0 x1→P5 x0 x1→P6 x0 x1→R x0 x1→C):C:=h.elim fun x0 h1=>h1.elim fun x1 h2=>k x0 x1 h2.1 h2.2.1 h2.2.2.1 h2.2.2.2.1 h2.2.2.2.2.1 h2.2.2.2.2.2.1 h2.2.2.2.2.2.2.1 h2.2.2.2.2.2.2.2
theorem gL {B G:Type}{H J O V Z P5 P6 P7 R:B→G→Prop}{C:Prop}(h:∃x0,∃x1,H x0 x1∧J x0 x1∧O x0 x1∧V x0 x1∧Z x0 x1∧P5 x0 x1∧P6 x0 x1∧P7 x0 x1∧R x0 x1)(k:∀x0,∀x1,H x0 x1→J x0 x1→O x0 x1→V x0 x1→Z x0 x1→P5 x0 x1→P6 x0 x1→P7 x0 x1→R x0 x1→C):C:=h.elim fun x0 h1=>h1.elim fun x1 h2=>k x0 x1 h2.1 h2.2.1 h2.2.2.1 h2.2.2.2.1 h2.2.2.2.2.1 h2.2.2.2.2.2.1 h2.2.2.2.2.2.2.1 h2.2.2.2.2.2.2.2.1 h2.2.2.2.2.2.2.2.2
theorem cg {B G:Type}{H J O V Z P5 P6 P7 P8 P9 R:B→G→Prop}{C:Prop}(h:∃x0,∃x1,H x0 x1∧J x0 x1∧O x0 x1∧V x0 x1∧Z x0 x1∧P5 x0 x1∧P6 x0 x1∧P7 x0 x1∧P8 x0 x1∧P9 x0 x1∧R x0 x1)(k:∀x0,∀x1,H x0 x1→J x0 x1→O x0 x1→V x0 x1→Z x0 x1→P5 x0 x1→P6 x0 x1→P7 x0 x1→P8 x0 x1→P9 x0 x1→R x0 x1→C):C:=h.elim fun x0 h1=>h1.elim fun x1 h2=>k x0 x1 h2.1 h2.2.1 h2.2.2.1 h2.2.2.2.1 h2.2.2.2.2.1 h2.2.2.2.2.2.1 h2.2.2.2.2.2.2.1 h2.2.2.2.2.2.2.2.1 h2.2.2.2.2.2.2.2.2.1 h2.2.2.2.2.2.2.2.2.2.1 h2.2.2.2.2.2.2.2.2.2.2
theorem iN {G H:Type}{J O V Z P4 P5 P6 P7 P8 P9 B R:G→H→Prop}{C:Prop}(h:∃x0,∃x1,J x0 x1∧O x0 x1∧V x0 x1∧Z x0 x1∧P4 x0 x1∧P5 x0 x1∧P6 x0 x1∧P7 x0 x1∧P8 x0 x1∧P9 x0 x1∧B x0 x1∧R x0 x1)(k:∀x0,∀x1,J x0 x1→O x0 x1→V x0 x1→Z x0 x1→P4 x0 x1→P5 x0 x1→P6 x0 x1→P7 x0 x1→P8 x0 x1→P9 x0 x1→B x0 x1→R x0 x1→C):C:=h.elim fun x0 h1=>h1.elim fun x1 h2=>k x0 x1 h2.1 h2.2.1 h2.2.2.1 h2.2.2.2.1 h2.2.2.2.2.1 h2.2.2.2.2.2.1 h2.2.2.2.2.2.2.1 h2.2.2.2.2.2.2.2.1 h2.2.2.2.2.2.2.2.2.1 h2.2.2.2.2.2.2.2.2.2.1 h2.2.2.2.2.2.2.2.2.2.2.1 h2.2.2.2.2.2.2.2.2.2.2.2
theorem lH {B G H:Type}{J O:B→G→Prop}{V R:B→G→H→Prop}{C:Prop}(h:∃x0,∃x1,J x0 x1∧O x0 x1∧∃x2,V x0 x1 x2∧R x0 x1 x2)(k:∀x0,∀x1,J x0 x1→O x0 x1→∀x2,V x0 x1 x2→R x0 x1 x2→C):C:=h.elim fun x0 h1=>h1.elim fun x1 h2=>h2.2.2.elim fun x2 h3=>k x0 x1 h2.1 h2.2.1 x2 h3.1 h3.2
theorem mQ {B G H J:Type}{O V:B→G→Prop}{Z R:B→G→H→J→Prop}{C:Prop}(h:∃x0,∃x1,O x0 x1∧V x0 x1∧∃x2,∃x3,Z x0 x1 x2 x3∧R x0 x1 x2 x3)(k:∀x0,∀x1,O x0 x1→V x0 x1→∀x2,∀x3,Z x0 x1 x2 x3→R x0 x1 x2 x3→C):C:=h.elim fun x0 h1=>h1.elim fun x1 h2=>h2.2.2.elim fun x2 h3=>h3.elim fun x3 h4=>k x0 x1 h2.1 h2.2.1 x2 x3 h4.1 h4.2
theorem BW {B G H:Type}{R:B→G→H→Prop}{C:Prop}(h:∃x0,∃x1,∃x2,R x0 x1 x2)(k:∀x0,∀x1,∀x2,R x0 x1 x2→C):C:=h.elim fun x0 h1=>h1.elim fun x1 h2=>h2.elim fun x2 h3=>k x0 x1 x2 h3
theorem bq {B G H:Type}{J R:B→G→H→Prop}{C:Prop}(h:∃x0,∃x1,∃x2,J x0 x1 x2∧R x0 x1 x2)(k:∀x0,∀x1,∀x2,J x0 x1 x2→R x0 x1 x2→C):C:=h.elim fun x0 h1=>h1.elim fun x1 h2=>h2.elim fun x2 h3=>k x0 x1 x2 h3.1 h3.2
theorem bg {B G H:Type}{J O R:B→G→H→Prop}{C:Prop}(h:∃x0,∃x1,∃x2,J x0 x1 x2∧O x0 x1 x2∧R x0 x1 x2)(k:∀x0,∀x1,∀x2,J x0 x1 x2→O x0 x1 x2→R x0 x1 x2→C):C:=h.elim fun x0 h1=>h1.elim fun x1 h2=>h2.elim fun x2 h3=>k x0 x1 x2 h3.1 h3.2.1 h3.2.2
theorem ik {B G H:Type}{J O V R:B→G→H→Prop}{C:Prop}(h:∃x0,∃x1,∃x2,J x0 x1 x2∧O x0 x1 x2∧V x0 x1 x2∧R x0 x1 x2)(k:∀x0,∀x1,∀x2,J x0 x1 x2→O x0 x1 x2→V x0 x1 x2→R x0 x1 x2→C):C:=h.elim fun x0 h1=>h1.elim fun x1 h2=>h2.elim fun x2 h3=>k x0 x1 x2 h3.1 h3.2.1 h3.2.2.1 h3.2.2.2
theorem fD {B G H:Type}{J O V Z R:B→G→H→Prop}{C:Prop}(h:∃x0,∃x1,∃x2,J x0 x1 x2∧O x0 x1 x2∧V x0 x1 x2∧Z x0 x1 x2∧R x0 x1 x2)(k:∀x0,∀x1,∀x2,J x0 x1 x2→O x0 x1 x2→V x0 x1 x2→Z x0 x1 x2→R x0 x1 x2→C):C:=h.elim fun x0 h1=>h1.elim fun x1 h2=>h2.elim fun x2 h3=>k x0 x1 x2 h3.1 h3.2.1 h3.2.2.1 h3.2.2.2.1 h3.2.2.2.2
theorem kj {B G H:Type}{J O V Z P4 R:B→G→H→Prop}{C:Prop}(h:∃x0,∃x1,∃x2,J x0 x1 x2∧O x0 x1 x2∧V x0 x1 x2∧Z x0 x1 x2∧P4 x0 x1 x2∧R x0 x1 x2)(k:∀x0,∀x1,∀x2,J x0 x1 x2→O x0 x1 x2→V x0 x1 x2→Z x0 x1 x2→P4 x0 x1 x2→R x0 x1 x2→C):C:=h.elim fun x0 h1=>h1.elim fun x1 h2=>h2.elim fun x2 h3=>k x0 x1 x2 h3.1 h3.2.1 h3.2.2.1 h3.2.2.2.1 h3.2.2.2.2.1 h3.2.2.2.2.2
theorem vi {B G H J:Type}{O R:B→G→H→J→Prop}{C:Prop}(h:∃x0,∃x1,∃x2,∃x3,O x0 x1 x2 x3∧R x0 x1 x2 x3)(k:∀x0,∀x1,∀x2,∀x3,O x0 x1 x2 x3→R x0 x1 x2 x3→C):C:=h.elim fun x0 h1=>h1.elim fun x1 h2=>h2.elim fun x2 h3=>h3.elim fun x3 h4=>k x0 x1 x2 x3 h4.1 h4.2
theorem lI {B G H J:Type}{O V R:B→G→H→J→Prop}{C:Prop}(h:∃x0,∃x1,∃x2,∃x3,O x0 x1 x2 x3∧V x0 x1 x2 x3∧R x0 x1 x2 x3)(k:∀x0,∀x1,∀x2,∀x3,O x0 x1 x2 x3→V x0 x1 x2 x3→R x0 x1 x2 x3→C):C:=h.elim fun x0 h1=>h1.elim fun x1 h2=>h2.elim fun x2 h3=>h3.elim fun x3 h4=>k x0 x1 x2 x3 h4.1 h4.2.1 h4.2.2
theorem iO {B G H J:Type}{O V Z R:B→G→H→J→Prop}{C:Prop}(h:∃x0,∃x1,∃x2,∃x3,O x0 x1 x2 x3∧V x0 x1 x2 x3∧Z x0 x1 x2 x3∧R x0 x1 x2 x3)(k:∀x0,∀x1,∀x2,∀x3,O x0 x1 x2 x3→V x0 x1 x2 x3→Z x0 x1 x2 x3→R x0 x1 x2 x3→C):C:=h.elim fun x0 h1=>h1.elim fun x1 h2=>h2.elim fun x2 h3=>h3.elim fun x3 h4=>k x0 x1 x2 x3 h4.1 h4.2.1 h4.2.2.1 h4.2.2.2
theorem em {B G H J:Type}{O V Z P3 P4 P5 R:B→G→H→J→Prop}{C:Prop}(h:∃x0,∃x1,∃x2,∃x3,O x0 x1 x2 x3∧V x0 x1 x2 x3∧Z x0 x1 x2 x3∧P3 x0 x1 x2 x3∧P4 x0 x1 x2 x3∧P5 x0 x1 x2 x3∧R x0 x1 x2 x3)(k:∀x0,∀x1,∀x2,∀x3,O x0 x1 x2 x3→V x0 x1 x2 x3→Z x0 x1 x2 x3→P3 x0 x1 x2 x3→P4 x0 x1 x2 x3→P5 x0 x1 x2 x3→R x0 x1 x2 x3→C):C:=h.elim fun x0 h1=>h1.elim fun x1 h2=>h2.elim fun x2 h3=>h3.elim fun x3 h4=>k x0 x1 x2 x3 h4.1 h4.2.1 h4.2.2.1 h4.2.2.2.1 h4.2.2.2.2.1 h4.2.2.2.2.2.1 h4.2.2.2.2.2.2
theorem sF {G H J O V:Type}{Z P1 P2 R:G→H→J→O→V→Prop}{C:Prop}(h:∃x0,∃x1,∃x2,∃x3,∃x4,Z x0 x1 x2 x3 x4∧P1 x0 x1 x2 x3 x4∧P2 x0 x1 x2 x3 x4∧R x0 x1 x2 x3 x4)(k:∀x0,∀x1,∀x2,∀x3,∀x4,Z x0 x1 x2 x3 x4→P1 x0 x1 x2 x3 x4→P2 x0 x1 x2 x3 x4→R x0 x1 x2 x3 x4→C):C:=h.elim fun x0 h1=>h1.elim fun x1 h2=>h2.elim fun x2 h3=>h3.elim fun x3 h4=>h4.elim fun x4 B=>k x0 x1 x2 x3 x4 B.1 B.2.1 B.2.2.1 B.2.2.2
theorem pD {G H J O V:Type}{Z P1 P2 P3 R:G→H→J→O→V→Prop}{C:Prop}(h:∃x0,∃x1,∃x2,∃x3,∃x4,Z x0 x1 x2 x3 x4∧P1 x0 x1 x2 x3 x4∧P2 x0 x1 x2 x3 x4∧P3 x0 x1 x2 x3 x4∧R x0 x1 x2 x3 x4)(k:∀x0,∀x1,∀x2,∀x3,∀x4,Z x0 x1 x2 x3 x4→P1 x0 x1 x2 x3 x4→P2 x0 x1 x2 x3 x4→P3 x0 x1 x2 x3 x4→R x0 x1 x2 x3 x4→C):C:=h.elim fun x0 h1=>h1.elim fun x1 h2=>h2.elim fun x2 h3=>h3.elim fun x3 h4=>h4.elim fun x4 B=>k x0 x1 x2 x3 x4 B.1 B.2.1 B.2.2.1 B.2.2.2.1 B.2.2.2.2
theorem iP {G H J O V:Type}{Z P1 P2 P3 P4 P5 P6 P7 R:G→H→J→O→V→Prop}{C:Prop}(h:∃x0,∃x1,∃x2,∃x3,∃x4,Z x0 x1 x2 x3 x4∧P1 x0 x1 x2 x3 x4∧P2 x0 x1 x2 x3 x4∧P3 x0 x1 x2 x3 x4∧P4 x0 x1 x2 x3 x4∧P5 x0 x1 x2 x3 x4∧P6 x0 x1 x2 x3 x4∧P7 x0 x1 x2 x3 x4∧R x0 x1 x2 x3 x4)(k:∀x0,∀x1,∀x2,∀x3,∀x4,Z x0 x1 x2 x3 x4→P1 x0 x1 x2 x3 x4→P2 x0 x1 x2 x3 x4→P3 x0 x1 x2 x3 x4→P4 x0 x1 x2 x3 x4→P5 x0 x1 x2 x3 x4→P6 x0 x1 x2 x3 x4→P7 x0 x1 x2 x3 x4→R x0 x1 x2 x3 x4→C):C:=h.elim fun x0 h1=>h1.elim fun x1 h2=>h2.elim fun x2 h3=>h3.elim fun x3 h4=>h4.elim fun x4 B=>k x0 x1 x2 x3 x4 B.1 B.2.1 B.2.2.1 B.2.2.2.1 B.2.2.2.2.1 B.2.2.2.2.2.1 B.2.2.2.2.2.2.1 B.2.2.2.2.2.2.2.1 B.2.2.2.2.2.2.2.2
theorem vj {B G H J O V:Type}{Z R:B→G→H→J→O→V→Prop}{C:Prop}(h:∃x0,∃x1,∃x2,∃x3,∃x4,∃x5,Z x0 x1 x2 x3 x4 x5∧R x0 x1 x2 x3 x4 x5)(k:∀x0,∀x1,∀x2,∀x3,∀x4,∀x5,Z x0 x1 x2 x3 x4 x5→R x0 x1 x2 x3 x4 x5→C):C:=h.elim fun x0 h1=>h1.elim fun x1 h2=>h2.elim fun x2 h3=>h3.elim fun x3 h4=>h4.elim fun x4 h5=>h5.elim fun x5 h6=>k x0 x1 x2 x3 x4 x5 h6.1 h6.2
theorem bE {G H J O V Z:Type}{P0 P1 P2 P3 P4 P5 R:G→H→J→O→V→Z→Prop}{C:Prop}(h:∃x0,∃x1,∃x2,∃x3,∃x4,∃x5,P0 x0 x1 x2 x3 x4 x5∧P1 x0 x1 x2 x3 x4 x5∧P2 x0 x1 x2 x3 x4 x5∧P3 x0 x1 x2 x3 x4 x5∧P4 x0 x1 x2 x3 x4 x5∧P5 x0 x1 x2 x3 x4 x5∧R x0 x1 x2 x3 x4 x5)(k:∀x0,∀x1,∀x2,∀x3,∀x4,∀x5,P0 x0 x1 x2 x3 x4 x5→P1 x0 x1 x2 x3 x4 x5→P2 x0 x1 x2 x3 x4 x5→P3 x0 x1 x2 x3 x4 x5→P4 x0 x1 x2 x3 x4 x5→P5 x0 x1 x2 x3 x4 x5→R x0 x1 x2 x3 x4 x5→C):C:=h.elim fun x0 h1=>h1.elim fun x1 h2=>h2.elim fun x2 h3=>h3.elim fun x3 h4=>h4.elim fun x4 h5=>h5.elim fun x5 B=>k x0 x1 x2 x3 x4 x5 B.1 B.2.1 B.2.2.1 B.2.2.2.1 B.2.2.2.2.1 B.2.2.2.2.2.1 B.2.2.2.2.2.2
theorem fZ {J O V Z a0 a8 a9 ag al:Type}{P0 P1 P2 P3 P4 P5 R:J→O→V→Z→a0→a8→a9→ag→al→Prop}{C:Prop}(h:∃x0,∃x1,∃x2,∃x3,∃x4,∃x5,∃x6,∃B,∃G,P0 x0 x1 x2 x3 x4 x5 x6 B G∧P1 x0 x1 x2 x3 x4 x5 x6 B G∧P2 x0 x1 x2 x3 x4 x5 x6 B G∧P3 x0 x1 x2 x3 x4 x5 x6 B G∧P4 x0 x1 x2 x3 x4 x5 x6 B G∧P5 x0 x1 x2 x3 x4 x5 x6 B G∧R x0 x1 x2 x3 x4 x5 x6 B G)(k:∀x0,∀x1,∀x2,∀x3,∀x4,∀x5,∀x6,∀B,∀G,P0 x0 x1 x2 x3 x4 x5 x6 B G→P1 x0 x1 x2 x3 x4 x5 x6 B G→P2 x0 x1 x2 x3 x4 x5 x6 B G→P3 x0 x1 x2 x3 x4 x5 x6 B G→P4 x0 x1 x2 x3 x4 x5 x6 B G→P5 x0 x1 x2 x3 x4 x5 x6 B G→R x0 x1 x2 x3 x4 x5 x6 B G→C):C:=h.elim fun x0 h1=>h1.elim fun x1 h2=>h2.elim fun x2 h3=>h3.elim fun x3 h4=>h4.elim fun x4 h5=>h5.elim fun x5 h6=>h6.elim fun x6 h7=>h7.elim fun B h8=>h8.elim fun G H=>k x0 x1 x2 x3 x4 x5 x6 B G H.1 H.2.1 H.2.2.1 H.2.2.2.1 H.2.2.2.2.1 H.2.2.2.2.2.1 H.2.2.2.2.2.2
theorem mR {J O V Z a0 a8 a9 ag al b1:Type}{R:J→O→V→Z→a0→a8→a9→ag→al→b1→Prop}{C:Prop}(h:∃x0,∃x1,∃x2,∃x3,∃x4,∃x5,∃x6,∃B,∃G,∃H,R x0 x1 x2 x3 x4 x5 x6 B G H)(k:∀x0,∀x1,∀x2,∀x3,∀x4,∀x5,∀x6,∀B,∀G,∀H,R x0 x1 x2 x3 x4 x5 x6 B G H→C):C:=h.elim fun x0 h1=>h1.elim fun x1 h2=>h2.elim fun x2 h3=>h3.elim fun x3 h4=>h4.elim fun x4 h5=>h5.elim fun x5 h6=>h6.elim fun x6 h7=>h7.elim fun B h8=>h8.elim fun G h9=>h9.elim fun H b2=>k x0 x1 x2 x3 x4 x5 x6 B G H b2
theorem jQ {Z a0 a8 a9 ag al b1 b2 b3 b4 G H:Type}{R:Z→a0→a8→a9→ag→al→b1→b2→b3→b4→G→H→Prop}{C:Prop}(h:∃x0,∃x1,∃x2,∃x3,∃x4,∃x5,∃x6,∃J,∃O,∃V,∃B,∃x11,R x0 x1 x2 x3 x4 x5 x6 J O V B x11)(k:∀x0,∀x1,∀x2,∀x3,∀x4,∀x5,∀x6,∀J,∀O,∀V,∀B,∀x11,R x0 x1 x2 x3 x4 x5 x6 J O V B x11→C):C:=h.elim fun x0 h1=>h1.elim fun x1 h2=>h2.elim fun x2 h3=>h3.elim fun x3 h4=>h4.elim fun x4 h5=>h5.elim fun x5 h6=>h6.elim fun x6 h7=>h7.elim fun J h8=>h8.elim fun O h9=>h9.elim fun V b5=>b5.elim fun B b6=>b6.elim fun x11 b7=>k x0 x1 x2 x3 x4 x5 x6 J O V B x11 b7
theorem aC {a9 ag al b1 b2 b3 b4 b5 b6 b7 V Z a0:Type}{P0 R:a9→ag→al→b1→b2→b3→b4→b5→b6→b7→V→Z→a0→Prop}{C:Prop}(h:∃x0,∃x1,∃x2,∃x3,∃x4,∃x5,∃x6,∃H,∃J,∃O,∃B,∃x11,∃G,P0 x0 x1 x2 x3 x4 x5 x6 H J O B x11 G∧R x0 x1 x2 x3 x4 x5 x6 H J O B x11 G)(k:∀x0,∀x1,∀x2,∀x3,∀x4,∀x5,∀x6,∀H,∀J,∀O,∀B,∀x11,∀G,P0 x0 x1 x2 x3 x4 x5 x6 H J O B x11 G→R x0 x1 x2 x3 x4 x5 x6 H J O B x11 G→C):C:=h.elim fun x0 h1=>h1.elim fun x1 h2=>h2.elim fun x2 h3=>h3.elim fun x3 h4=>h4.elim fun x4 h5=>h5.elim fun x5 h6=>h6.elim fun x6 h7=>h7.elim fun H h8=>h8.elim fun J h9=>h9.elim fun O be=>be.elim fun B bk=>bk.elim fun x11 bx=>bx.elim fun G a8=>k x0 x1 x2 x3 x4 x5 x6 H J O B x11 G a8.1 a8.2
end
section
theorem o1 {x0 x1 x2:Nat}(B:(((x0+(x2+1))+20)<x1)):(x0<x1):=by lia -abstractProof
theorem o3 {x0 x1 x2 x3:Nat}{x4:Int}(B:(x1<x0))(h1:(x2≠x3))(h2:(x4=(((x1%4):Nat):Int))):((x0-(x1+1))<(x0-x1)):=by grind -abstractProof
theorem o5 {x0:Nat}(B:(x0<4000)):(x0<4095):=DW B (by decide)
theorem o6 {x0:Nat}{x1:Int}(B:(x1=(((x0%4):Nat):Int))):((0:Int)≤(((x0%4):Nat):Int)):=Fa _
theorem o7 {x0 x1 x2:Nat}(B:(x1≤9))(h1:(x1<9))(h2:(((x0+1)=(10-x1))∧((x2+1)=(9-x1)))):((x0=(9-x1))∧(x2=(8-x1))):=⟨HO (h2.1.trans (Nat.succ_sub B)),HO (h2.2.trans (Nat.succ_sub (HR h1)))⟩
theorem o9 {x0 x1 x2:Nat}(B:(((x0+(x2+2))+20)<x1)):(x0<x1):=Ew (Df (DN x0 _) (DN _ 20)) B
theorem o11 {x0:Nat}:(1≤(x0+1)):=by lia -abstractProof
theorem o15 {x0 x1 x2 x3 x4 x5 x6 G H J B:Nat}(O:(x4≤(2*x1)))(h1:(x5=x6))(h2:(x6=((x1+(x2+(x3+2)))+G)))(h3:(H=(x1+x2)))(h4:(J=(((x1+x2)+x3)+2)))(V:(x0≤(x4+1)))(Z:(B=(((x1+x2)+x3)+2))):((x0+1)≤(2*(((x1+x2)+x3)+2))):=Df (EV (Df V (EV O))) (Fy 2 (HD (Df (DN x1 x2) (DN _ x3)) (by decide:1≤2)))
theorem o17 {x0 x1:Nat}(B:(x0<x1)):(¬(x0≥x1)):=by lia -abstractProof
theorem o18 {x0 x1:Nat}(B:(x1<4095))(h1:(x0<x1)):(x0<4095):=DW h1 B
theorem o20 {x0 x1 x2 x3 x4 x5 x6 B G H:Nat}(J:(x1≤1000000))(h1:(x2≤(2*x3)))(h2:(x4=x1))(h3:(x1=((x3+(x5+(x6+2)))+B)))(h4:(G=(x3+x5)))(V:(H=(((x3+x5)+x6)+2)))(O:(x0≤(x2+1))):((x0+1)≤(16777216+1)):=EV (Df O (Df (EV (Df h1 (Fy 2 (Df (J6 ((Hh _ _ _).symm.trans h3.symm)) J)))) (by decide)))
theorem o21 {x0 x1:Nat}(B:(x1<x0)):((x0-x1)=((x0-(x1+1))+1)):=(Nat.succ_pred_eq_of_pos (Nat.sub_pos_of_lt B)).symm
theorem o23 {x0 x1 x2 x3 x4 x5 x6 B G H:Nat}(J:(x1≤1000000))(h1:(x2≤(2*x3)))(h2:(x4=x1))(h3:(x1=((x3+(x5+(x6+2)))+B)))(h4:(G=(x3+x5)))(O:(H=(((x3+x5)+x6)+2)))(V:(x0≤(x2+1))):(x0≤16777216):=by lia -abstractProof
theorem o24 {x0:Nat}{x1 x2:Int}(B:(x0<9))(h1:(x1=(((x0%4):Nat):Int)))(h2:(x2=(((x0/4):Nat):Int)))(h3:((x0/4)≤2)):(((x0/4)=0)∨(((x0/4)=1)∨((x0/4)=2))):=(Lo h3).elim (fun h=>(Lo (HR h)).elim (fun h=>.inl (Nat.lt_one_iff.mp h)) fun h=>.inr (.inl h)) fun h=>.inr (.inr h)
theorem o25 {x0 x1 x2:Nat}(B:(((x0+(8*(x1+1)))+60)<x2)):((((x0+3)+(8*x1))+60)<x2):=Ew (GC (Df (Ei (ER x0 3 (8*x1))) (GI (by decide:3≤8) (x0+8*x1))) 60) B
theorem o26 {x0 x1 x2 x3 x4 x5 x6 B G:Nat}(H:(x1≤1000000))(h1:(x0≤(2*x2)))(h2:(x3=x1))(h3:(x1=((x2+(x4+(x5+2)))+x6)))(h4:(B=(x2+x4)))(J:(G=(((x2+x4)+x5)+2)))(O:(x2<(x2+x4))):((x0+1)≤(16777216+1)):=EV (Df h1 (Df (Fy 2 (Df (J6 ((Hh _ _ _).symm.trans h3.symm)) H)) (by decide)))
theorem o27 {x0 x1:Nat}(B:(x1=x0))(h1:(x0≤9))(h2:(¬(x0=9))):((9-(x0+1))<(9-x0)):=IL (GU h1 h2) (DV x0)
theorem o30 {x0 x1 x2 x3 x4 x5 x6:Nat}(H:(x2≤x0))(h1:(x0≤x1))(h2:(x3=x2))(h3:(x4=x0))(h4:(x5=x1))(J:(x6=x1))(B:((x0-x2)=x1))(G:(x2=0)):(x0=x1):=(congrArg (x0-·) G).symm.trans B
theorem o31 {x0:Nat}(B:(x0≤1000)):(x0≤16777216):=by lia -abstractProof
theorem o32 {x0 x1:Nat}:((x0+(x1+1))=((x0+1)+x1)):=by lia -abstractProof
theorem o33 {x0 x1 x2 x3 x4 x5 x6 B G:Nat}(H:(x1≤1000000))(h1:(x0≤(2*x2)))(h2:(x3=x1))(h3:(x1=((x2+(x4+(x5+2)))+x6)))(h4:(B=(x2+x4)))(J:(G=(((x2+x4)+x5)+2)))(O:(x2<(x2+x4))):(x0≤16777216):=by lia -abstractProof
theorem o37 {x0:Nat}(B:(x0≤10))(h1:(¬(x0=10))):((10-(x0+1))<(10-x0)):=IL (GU B h1) (DV x0)
theorem o39 {x0 x1 x2 x3 x4 x5 x6 B G H:Nat}(J:(x0≤x2))(h1:(x4=x5))(h2:(x5=((x2+(x1+(x3+2)))+x6)))(h3:(B=(x2+x1)))(h4:(G=(((x2+x1)+x3)+2)))(O:(H=(((x2+x1)+x3)+2))):((x0+x1)≤(((x2+x1)+x3)+2)):=Df (GC J x1) (Df (DN _ x3) (DN _ 2))
theorem o43 {x0 x1:Nat}:(x0≤(x0+x1)):=by exact DN _ _
theorem o46 {x0 x1 x2:Nat}(B:(((x0+x2)+20)<x1)):(x0<x1):=by lia -abstractProof
theorem o50 {x0:Nat}(B:(x0≤100)):(x0≤1000):=by lia -abstractProof
theorem o53 {x0 x1 x2 x3 x4 x5:Nat}(G:(x2=x0))(h1:(x0≤x1))(h2:(x3=x1))(h3:(x4=x3))(h4:((x0-x5)=x1))(B:(x5=0)):(x0=x1):=(congrArg (x0-·) B).symm.trans h4
theorem o54 {x0 x1 x2 x3 x4 x5 x6:Nat}(B:(x0≤x1))(h1:(x1≤x2))(h2:(x3=x0))(h3:(x4=x1))(h4:(x5=x2))(H:(x6=x2))(G:((x1-x0)=x2)):(x0=0):=Nat.le_zero.mp (J5 (Df (GC h1 x0) (Ei ((congrArg (·+x0) G).symm.trans (Nat.sub_add_cancel B)))))
theorem o56 {x0 x1 x2:Nat}(B:((x1+(x2+1))≤64))(h1:(x1=x0)):(x0≤16777216):=Df (Ei h1.symm) (Df (Df (DN x1 _) B) (by decide))
theorem o61 {x0 x1:Nat}(B:((x0+(x1+1))≤64)):(((x0+1)+x1)≤64):=Df (Ei (ER x0 1 x1)) B
theorem o62 {x0 x1 x2:Nat}(B:(((x0+(x1+1))+20)<x2)):((((x0+1)+x1)+20)<x2):=Ew (Ei (congrArg (·+20) (ER x0 1 x1))) B
theorem o65 {x0 x1:Nat}(B:((x0+(x1+1))≤64)):((x0+x1)≤64):=by exact D9 ‹_›
theorem o66 {x0 x1 x2 x3 x4 x5 x6 B:Nat}(G:(x0≤1000000))(h1:(x1=x0))(h2:(x0=((x2+(x3+(x4+2)))+x5)))(h3:(x6=(x2+x3)))(h4:(B=(((x2+x3)+x4)+2))):(x0≤16777216):=by lia -abstractProof
theorem o68 {x0 x1 x2:Nat}(B:(((x0+(x2+4))+20)<x1)):(x0<x1):=Ew (Df (DN x0 _) (DN _ 20)) B
theorem o69 {x0 x1 x2:Int}:(((x0+x1)+x2)=((x0+x2)+x1)):=by lia -abstractProof
theorem o70 {x0 x1 x2:Nat}(B:(((x0+(x1+1))+20)<x2)):(((x0+x1)+20)<x2):=by exact D9 ‹_›
theorem o71 {x0 x1 x2:Nat}(B:(x2=x0))(h1:(x1<x0)):((x0-(x1+1))<(x0-x1)):=IL h1 (DV x1)
theorem o72 {x0 x1 x2 x3 x4 x5:Nat}(B:(x1=x0))(h1:(x0≤x2))(h2:(x2≤x3))(h3:(x4=x3))(h4:(x5=x4))(G:((x2-x0)=x3)):(x0=0):=by grind -abstractProof
theorem o73 {x0 x1 x2 x3 x4 x5 x6 B:Nat}(G:(x3=x4))(h1:(x4=((x0+(x1+(x2+2)))+x5)))(h2:(x6=(x0+x1)))(h3:(B=(((x0+x1)+x2)+2))):(¬((((x0+x1)+x2)+2)=(x0+x1))):=by lia -abstractProof
theorem o75 {x0 x1 x2:Nat}(B:((x0+(x1+1))<x2)):(((x0+1)+x1)<x2):=Ew (Ei (ER x0 1 x1)) B
theorem o77 {x0:Nat}{x1:Int}(B:(x1=(((x0%4):Nat):Int))):((((x0%4):Nat):Int)<((4:Nat):Int)):=Jj.mpr (Il x0 (DT 3))
theorem o78 {x0:Nat}(B:(x0≤9)):((0:Int)≤((x0:Nat):Int)):=by lia -abstractProof
theorem o79 {x0 x1:Nat}(B:(x1≤2000))(h1:(x0≤(200*x1))):(x0≤16777216):=Df h1 (Df (Fy 200 B) (by decide))
theorem o80 {x0 x1 x2 x3 x4 x5:Nat}(B:(x5=x0))(h1:(x0=(x1+(x2+((x3+(x4+1))+1))))):(x0=((x1+(x2+(x3+2)))+x4)):=by grind -abstractProof
theorem o81 {x0 x1:Nat}{x2:Int}(B:(x0<x1))(h1:(x2=(((x0%4):Nat):Int))):((x0+1)≤x1):=by trivial
theorem o83 {x0:Nat}:((((x0:Nat):Int)+(1:Int))=(((x0+1):Nat):Int)):=by rfl
theorem o85 {x0 x1 x2:Nat}(B:((x0+(x2+1))<x1)):(x0<x1):=Ew (DN x0 _) B
theorem o86 {x0:Nat}(B:(x0≤100)):((((0+2)+x0)+1)≤16777216):=by lia -abstractProof
theorem o89 {x0 x1:Nat}(B:(x1<1000))(h1:(x1=x0)):(x0≤16777216):=Df (Ei h1.symm) (Df (D9 B) (by decide))
theorem o91 {x0 x1:Nat}(B:(x0≤1000000))(h1:(x1=x0)):(x0≤16777216):=by lia -abstractProof
theorem o92 {x0 x1 x2:Nat}(B:(x1=(x0+(x2+1)))):(x0<x1):=by lia -abstractProof
theorem o93 {x0 x1:Nat}(B:(x0≤x1))(h1:((x1-x0)=0)):(x0=x1):=Nat.le_antisymm B (Kx h1)
theorem o96 {x0:Nat}(B:(¬((x0%16)=15))):((x0%16)<15):=GU (HR (Il x0 (DT 15))) B
theorem o98 {x0 x1 x2 x3 x4 x5:Nat}(B:(x4=x3))(h1:(x3=((x0+(x1+(x2+2)))+x5))):((((x0+x1)+x2)+2)≤x3):=Df (Ei (Hh x0 x1 (x2+2))) (J6 h1.symm)
theorem o99 {x0 x1:Int}(B:(x0<x1))(h1:((-x1)≤x0))(h2:(¬((0:Int)≤x0))):(x0<(0:Int)):=by lia -abstractProof
theorem Bm {x0 x1 x2:Nat}(B:((x0+x2)≤x1)):(x0<(x1+1)):=Nat.lt_succ_of_le (Df (DN x0 x2) B)
theorem BX {x0 x1 x2 x3 x4:Nat}(B:(x4=(x1+x2)))(h1:(x0=((((x1+x2)+1)+x3)+1))):(x0=(((x1+x2)+x3)+2)):=h1.trans (congrArg (·+1) (ER (x1+x2) 1 x3))
theorem BY {x0 x1:Nat}(B:(x0≤x1)):(x0≤(x1+1)):=by lia -abstractProof
theorem BZ {x0 x1 x2:Nat}(B:(x0≤x1))(h1:((x1-x0)=(x2+1))):(x0<x1):=Nat.lt_of_sub_eq_succ h1
theorem B0 {x0 x1 x2:Nat}(B:(x1≤900))(h1:(x0≤(4*x2)))(h2:(x2=x1)):(((1+x0)+1)≤16777216):=Df (EV (GI (Df h1 (Fy 4 (Df (Ei h2) B))) 1)) (by decide)
theorem B1 {x0 x1 x2:Nat}(B:(x0=(((x1+2)+x2)+1))):(x0=((x1+((x2+1)+1))+1)):=B.trans (congrArg (·+1) (ER x1 2 x2))
theorem B2 {x0 x1:Nat}(B:(x0≥x1))(h1:((x0-x1)=0)):(x0=x1):=Nat.le_antisymm (Kx h1) B
theorem Bn {x0 x1:Nat}(B:(x1≤900))(h1:(x1=x0)):(x0≤1000):=by lia -abstractProof
theorem B3 {x0 x1:Nat}(B:(x0≤((9*x1)+10))):((9+x0)≤((9*((x1+1)+1))+10)):=Df (Ei (Hy 9 x0)) (Df (GC B 9) (GI (by decide:19≤28) (9*x1)))
theorem B4 {x0 x1 x2:Nat}(B:(x1≤900))(h1:(x0≤(4*x2)))(h2:(x2=x1)):((1+x0)≤16777216):=Df (GI (Df h1 (Fy 4 (Df (Ei h2) B))) 1) (by decide)
theorem B5 {x0:Nat}:((0:Int)≤(((x0%16):Nat):Int)):=Fa _
theorem B6 {x0 x1:Nat}(B:(x1≤1))(h1:(x0≤(100*x1))):((x0+((x0+1)*1))≤16777216):=have h:=Df h1 (Fy 100 B);Df (HD h (KN 1 (EV h))) (by decide)
theorem B7 {x0 x1 x2:Nat}(B:(((x0+(8*x2))+60)<x1)):(((x0+1)+3)<x1):=Ew (show x0+4≤x0+8*x2+60 from HD (DN x0 _) (by decide)) B
theorem Bp {x0 x1:Nat}(B:((x0+1)<x1)):(x0<x1):=by exact D9 ‹_›
theorem B8 {x0 x1 x2:Nat}(B:(x0=(((x1+1)+x2)+1))):(x0=((x1+(x2+1))+1)):=B.trans (congrArg (·+1) (ER x1 1 x2))
theorem B9 {x0 x1 x2:Nat}:((x0+(x1+((x2+1)+1)))=(((x0+x1)+x2)+2)):=by lia -abstractProof
theorem Ca {x0 x1:Nat}{x2 x3:Int}(B:((((x0:Nat):Int)-((x1:Nat):Int))=x3))(h1:((x3+(1:Int))=x2)):(((((x0:Nat):Int)+(1:Int))-((x1:Nat):Int))=x2):=by grind -abstractProof
theorem Cb {x0:Nat}(B:(¬((x0%16)=15))):((((x0%16):Nat):Int)≠(15:Int)):=fun e=>B (La e)
theorem Bq {x0 x1:Nat}(B:((x0+1)≤x1)):(x0≤x1):=by exact D9 ‹_›
theorem Cc {x0 x1:Nat}{x2 x3:Int}(B:((((x0:Nat):Int)-((x1:Nat):Int))=x3))(h1:((x3-(1:Int))=x2)):((((x0:Nat):Int)-(((x1:Nat):Int)+(1:Int)))=x2):=by grind -abstractProof
theorem Cd {x0 x1:Nat}(B:(x0≤((9*x1)+10))):((6+x0)≤((9*(x1+1))+10)):=Df (Ei (Hy 6 x0)) (Df (GC B 6) (GI (by decide:16≤19) (9*x1)))
theorem Ce {x0 x3:Int}{x1 x2:Nat}(B:((((x1:Nat):Int)-((x2:Nat):Int))=x3)):(((x0+((x1:Nat):Int))-((x2:Nat):Int))=(x0+x3)):=(Int.add_sub_assoc _ _ _).trans (congrArg (x0+·) B)
theorem Cf {x0 x1 x2 x3 x4:Nat}(B:((x1≤800)∧((x2≤800)∧(x3≤800))))(h1:(x0=x4))(h2:(x0=x3)):(x0≤1000):=Df (Ei h2) (Df B.2.2 (by decide))
theorem Cg {x0 x1 x2 x3:Nat}(B:(x1=x2))(h1:(x2=(x3+x0)))(h2:(¬(x3<x2))):(x0=0):=Nat.le_zero.mp (J5 (Df (Ei h1.symm) (FS.mp h2)))
theorem Ch {x0 x1 x2 x3 x4:Nat}(B:((x1≤800)∧((x2≤800)∧(x3≤800))))(h1:(x4=x1))(h2:(x0=(x1+1))):(x0≤1000):=Df (Ei h2) (Df (EV B.1) (by decide))
theorem Ci {x0 x1 x2:Nat}(B:((x0+(x1+1))=x2)):(((x0+1)+x1)=x2):=by lia -abstractProof
theorem Br {x0:Int}(B:((0:Int)≤x0)):((0:Int)≤(x0+(1:Int))):=by lia -abstractProof
theorem Cj {x0 x1:Nat}(B:(x1=x0))(h1:(x0≤9))(h2:(¬(x0=9))):((x0+1)≤9):=by lia -abstractProof
theorem Ck {x0 x1:Nat}(B:(x1=x0))(h1:(x0≤9))(h2:(¬(x0=9))):((0:Int)<((9:Int)-((x0:Nat):Int))):=by lia -abstractProof
theorem Cm {x0 x1 x2:Nat}(B:(x2≤1000000))(h1:(x1≤30))(h2:(x0=x2)):((x0+x1)≤1048576):=Df (HD (Df (Ei h2) B) h1) (by decide)
theorem Cn {x0:Int}(B:((0:Int)≤x0))(h1:(x0<(9524:Int))):(((0:Int)≤((32:Int)+x0))∧(((32:Int)+x0)≤(1114111:Int))):=⟨Int.add_nonneg (by decide) B,Int.le_trans (Int.add_le_add_left (Ku h1) 32) (by decide)⟩
theorem Bs {x0:Nat}(B:(x0≤100)):(x0≤16777216):=by lia -abstractProof
theorem Co {x0 x1:Nat}(B:(x1=10))(h1:(x0≤10))(h2:(¬(x0=10))):(x0<x1):=by lia -abstractProof
theorem Cp {x0 x1:Nat}(B:(x1=x0))(h1:(x0≤9))(h2:(¬(x0=9))):(x0<9):=by lia -abstractProof
theorem Cq {x0 x1:Nat}{x2 x3:Int}(B:(x3=x2))(h1:((((x0:Nat):Int)-((x1:Nat):Int))=x3)):((((x0:Nat):Int)-((x1:Nat):Int))=x2):=h1.trans B
theorem Cr {x0:Nat}(B:(x0≤10))(h1:(¬(x0=10))):((x0+1)≤10):=by lia -abstractProof
theorem Cs {x0:Nat}(B:(x0≤10))(h1:(¬(x0=10))):((0:Int)<((10:Int)-((x0:Nat):Int))):=Int.sub_pos_of_lt (Jj.mpr (GU B h1))
theorem Ct {x0 x1 x2 x3:Nat}(B:(x3=x2))(h1:(x2=(x0+x1))):((x0+x1)=x2):=by lia -abstractProof
theorem Cu {x0:Nat}(B:(x0≤400)):((x0+((x0+1)*2))≤16777216):=Df (HD B (KN 2 (EV B))) (by decide)
theorem Cv {x0:Nat}:(x0<(x0+5)):=by lia -abstractProof
theorem Cw {x0:Nat}(B:(x0≤10))(h1:(¬(x0=10))):(x0≤9):=by lia -abstractProof
theorem Cx {x0:Nat}:((((10:Int)-((x0:Nat):Int))-(1:Int))=((10:Int)-(((x0+1):Nat):Int))):=by lia -abstractProof
theorem Bt {x0:Nat}:(¬(((x0:Nat):Int)<(0:Int))):=by lia -abstractProof
theorem Cy {x0 x1:Int}(B:((x0<x1)∧((-x1)≤x0))):((¬(x0<(-x1)))∧(¬(x0≥x1))):=⟨Int.not_lt.mpr B.2,Int.not_le.mpr B.1⟩
theorem Cz {x0:Nat}:((((9:Int)-((x0:Nat):Int))-(1:Int))=((9:Int)-(((x0+1):Nat):Int))):=by lia -abstractProof
theorem CB {x0 x1:Nat}(B:(¬(x1<(x1+x0)))):(x0=0):=by lia -abstractProof
theorem CC {x0:Nat}(B:(x0≤16777216)):((0+x0)≤16777216):=by lia -abstractProof
theorem CD {x0 x1 x2:Nat}(B:(x2=x1))(h1:(x0<x1)):((x0+1)≤x1):=by trivial
theorem CE {x0:Nat}{x1:Int}(B:(x1=((x0:Nat):Int)))(h1:(((x0:Nat):Int)=(1:Int))):(x0=1):=by lia -abstractProof
theorem CF {x0 x1:Nat}(B:(x0=x1))(h1:(x1≤9)):(x0≤9):=by lia -abstractProof
theorem CG {x0 x1:Nat}(B:(x1=(x0+1))):(((x0:Nat):Int)≥(0:Int)):=by lia -abstractProof
theorem CH {x0:Nat}(B:(x0≤256)):(x0<1073741824):=Ew B (by decide)
theorem CJ {x0:Nat}(B:(x0≤9)):(x0≤1000):=by lia -abstractProof
theorem CL {x0 x1:Int}(B:(x0<x1))(h1:((-x1)≤x0))(h2:((0:Int)≤x0)):(¬(x0<(0:Int))):=by lia -abstractProof
theorem CM {x0:Nat}{x1:Int}(B:(x1=((x0:Nat):Int))):((0:Int)≤((x0:Nat):Int)):=by lia -abstractProof
theorem CN {x0:Nat}(B:(x0=10)):(x0≤10):=by lia -abstractProof
theorem Bu:(0<4095):=by exact DT _
theorem CO:(((10:Int)-((10:Nat):Int))≤(0:Int)):=by decide
theorem CP:(((9:Int)-((9:Nat):Int))≤(0:Int)):=by decide
end
section
open PySem PyProof.V PyProof.Rows
theorem pE:∀a b:List Nat,lE a b=true↔a=b
 |[],[]=>⟨fun J=>rfl,fun J=>rfl⟩
 |[],_::_=>⟨fun h=>(by contradiction),fun h=>(by contradiction)⟩
 |_::_,[]=>⟨fun h=>(by contradiction),fun h=>(by contradiction)⟩
 |a::x,b::y=>⟨fun h=>aT h fun h1 h2=>by rw[nd h1,(pE x y).mp h2],fun h=>by
  injection h with h1 h2;subst h1;show and (Do a a) (lE x y)=true;rw[Hx,(pE x y).mpr h2];rfl⟩
theorem ao (a b:Str):aA a b=true↔a=b:=by
 unfold aA;rw[pE];constructor
 ·intro h;cases a;cases b;congr;exact ES.mp h
 ·rintro rfl;rfl
theorem aW {a b:Str}(h:aA a b=false):a≠b:=fun e=>by rw[(ao a b).mpr e]at h;contradiction
theorem km (a:Str):aA a a=true:=(ao a a).mpr rfl
theorem aG (x:Str):∀l:List (Str×D4),au x l=l.lookup x
 |[]=>rfl
 |(y,k)::r=>by
  rw[ET];show bB (aA x y) (some k) (au x r)=_
  cases h:aA x y with
  |true=>have:=(ao x y).mp h;subst this;show some k=_;simp
  |false=>
   have:=aW h;obtain h2:(x==y)=false:=beq_eq_false_iff_ne.mpr this;simp only[h2];exact aG x r
theorem cA (x y:Str)(v:V2)(l):lk y ((x,v)::l)=if y=x then some v else lk y l:=by
 show bB (aA y x) (some v) (lk y l)=_
 cases h:aA y x with
 |true=>rw[if_pos ((ao y x).mp h)];rfl
 |false=>rw[if_neg (aW h)];rfl
theorem vk {x y:Str}(h:y≠x):∀l,lk y (del x l)=lk y l
 |[]=>rfl
 |(z,u)::r=>by
  show lk y (bB (aA x z) r ((z,u)::del x r))=_;rw[cA]
  cases hs:aA x z with
  |true=>have:=(ao x z).mp hs;clear hs;subst this;rw[if_neg h];rfl
  |false=>show lk y ((z,u)::del x r)=_;rw[cA,vk h r]
theorem eX (x y:Str)(v:V2)(l):lk y (up x v l)=if y=x then some v else lk y l:=by
 show lk y ((x,v)::del x l)=_;rw[cA];by_cases e:y=x
 ·rw[if_pos e,if_pos e]
 ·rw[if_neg e,if_neg e,vk e]
theorem b8 {a b:Nat}(h:Do a b=false):a≠b:=fun e=>by subst e;rw[Hx]at h;contradiction
theorem T2.getK_eq (t:T2)(j:Nat):t.getK j=bB (Do j 1) t.val (bB (Do (j%2) 0) (t.lft.getK (j/2)) (t.rgt.getK (j/2))):=by
 cases t with
 |node _ _ _=>rfl
 |nil=>
  show none=_
  cases Do j 1 with
  |true=>rfl
  |false=>cases Do (j%2) 0<;>rfl
theorem T2.setK_succ (f:Nat)(t:T2)(k:Nat)(o:O2):T2.setK (f+1) t k o=bB (Do k 1) (.node (some o) t.lft t.rgt) (bB (Do (k%2) 0) (.node t.val (T2.setK f t.lft (k/2) o) t.rgt) (.node t.val t.lft (T2.setK f t.rgt (k/2) o))):=by cases t<;>rfl
theorem mT {k:Nat}(h:0<k)(n:Do k 1=false):0<k/2:=Nat.div_pos (GU h (EL (b8 n))) (by exact DT _)
theorem rU {k f:Nat}(h:k<2 ^ (f+1)):k/2<2 ^ f:=Nat.div_lt_of_lt_mul (by rw[Nat.pow_succ,Nat.mul_comm]at h;exact h)
theorem rV {j k:Nat}(h:j≠k)(e:j%2=k%2):j/2≠k/2:=fun q=>h (by rw[←Nat.div_add_mod j 2,←Nat.div_add_mod k 2,q,e])
theorem Bv {j k:Nat}{b:Bool}(h1:Do (j%2) 0=b)(h2:Do (k%2) 0=b):j%2=k%2:=by
 cases b with
 |true=>rw[nd h1,nd h2]
 |false=>rw[(JW j).resolve_left (b8 h1),(JW k).resolve_left (b8 h2)]
theorem T2.same (f:Nat):∀(t:T2) (k:Nat) (o:O2),0<k→k<2 ^ f→(T2.setK f t k o).getK k=some o:=by
 induction f with
 |zero=>intro _ _ _ h h';exact absurd h (FS.mpr (HR h'))
 |succ f G=>
  intro t k o h h';rw[T2.setK_succ,T2.getK_eq];refine fC (Do k 1) (fun B=>?_) fun B=>?_
  ·refine fC (Do (k%2) 0) (fun h2=>?_) fun h2=>?_
   ·rw[B,h2];exact G t.rgt (k/2) o (mT h B) (rU h')
   ·rw[B,h2];exact G t.lft (k/2) o (mT h B) (rU h')
  ·rw[B];rfl
theorem T2.other (f:Nat):∀(t:T2) (k:Nat) (o:O2) (j:Nat),j≠k→(T2.setK f t k o).getK j=t.getK j:=by
 induction f with
 |zero=>intro _ _ _ _ _;rfl
 |succ f G=>
  intro t k o j n;rw[T2.setK_succ,T2.getK_eq t,T2.getK_eq];refine fC (Do k 1) (fun B=>?_) fun B=>?_
  ·refine fC (Do (k%2) 0) (fun h2=>?_) fun h2=>?_
   ·rw[B,h2];refine fC (Do j 1) (fun h1=>?_) fun h1=>by rw[h1];rfl
    refine fC (Do (j%2) 0) (fun h3=>?_) fun h3=>by rw[h1,h3];rfl
    rw[h1,h3];exact G t.rgt (k/2) o (j/2) (rV n (Bv h3 h2))
   ·rw[B,h2];refine fC (Do j 1) (fun h1=>?_) fun h1=>by rw[h1];rfl
    refine fC (Do (j%2) 0) (fun h3=>by rw[h1,h3];rfl) fun h3=>?_;rw[h1,h3];exact G t.lft (k/2) o (j/2) (rV n (Bv h3 h2))
  ·have:Do j 1=false:=Bool.eq_false_iff.mpr fun q=>n ((nd q).trans (nd B).symm);rw[B,this];rfl
theorem T2.get_set12 (t:T2)(i:Nat)(o:O2)(j:Nat)(h:i<4095):(t.set 12 i o).get j=if j=i then some o else t.get j:=by
 by_cases e:j=i
 ·refine(ir (if_pos e))▸(ir e)▸?_;exact T2.same 12 t (i+1) o (DT _) (Nat.succ_lt_succ h)
 ·refine(ir (if_neg e))▸?_;exact T2.other 12 t (i+1) o (j+1) fun q=>e (HO q)
structure Th where
 tx:Nat→Nat→List Nat
 qb:Nat→List UInt8
 X:Nat→Int
 P:C9
 W:World
namespace Th
noncomputable def at1 (θ:Th):At→List Nat
 |.c n=>[n]
 |.t k s=>θ.tx k s
noncomputable def atB (θ:Th):At→List UInt8
 |.c n=>[Kq n]
 |.t k _=>θ.qb k
noncomputable def flat (θ:Th) (s:List At):List Nat:=s.flatMap θ.at1
noncomputable def flatB (θ:Th) (s:List At):List UInt8:=s.flatMap θ.atB
noncomputable def str (θ:Th) (s:List At):Str:=⟨(θ.flat s).toArray⟩
noncomputable def byt (θ:Th) (s:List At):Array UInt8:=(θ.flatB s).toArray
noncomputable def iv (θ:Th) (c:Int):Nat→Int
 |0=>c
 |k+1=>c+θ.X k
@[simp] theorem flat_append (θ:Th) (a b:List At):θ.flat (a++b)=θ.flat a++θ.flat b:=by simp[flat]
@[simp] theorem flatB_append (θ:Th) (a b:List At):θ.flatB (a++b)=θ.flatB a++θ.flatB b:=by simp[flatB]
@[simp] theorem flat_nil (θ:Th):θ.flat []=[]:=rfl
@[simp] theorem flat_cons (θ:Th) (a:At) (b:List At):θ.flat (a::b)=θ.at1 a++θ.flat b:=by simp[flat]
@[simp] theorem flatB_nil (θ:Th):θ.flatB []=[]:=rfl
@[simp] theorem flatB_cons (θ:Th) (a:At) (b:List At):θ.flatB (a::b)=θ.atB a++θ.flatB b:=by simp[flatB]
end Th
noncomputable abbrev Rho:=List Addr
noncomputable def Ext (ρ ρ':Rho):Prop:=∀(i:Nat) (a:Addr),ρ[i]?=some a→ρ'[i]?=some a
theorem Ext.refl (ρ:Rho):Ext ρ ρ:=fun J J h=>h
theorem Ext.trans {a b c:Rho}(x:Ext a b)(y:Ext b c):Ext a c:=fun i v h=>y i v (x i v h)
theorem Ext.push (ρ:Rho)(a:Addr):Ext ρ (ρ++[a]):=fun i v h=>by
 refine(ir (D1 (Dz.mp h).1))▸?_;exact h
noncomputable def VRel (θ:Th) (ρ:Rho):V2→Value→Prop
 |.none,v=>v=.none
 |.bool b,v=>v=.bool b
 |.int c x,v=>∃t,v=.int (θ.iv c x) t
 |.str s,v=>∃t,v=.str (θ.str s) t
 |.bytes b,v=>∃t,v=.bytes (θ.byt b) t
 |.ref i,v=>∃a,ρ[i]?=some a∧v=.ref a
theorem VRel.ext {θ:Th}{ρ ρ':Rho}(x:Ext ρ ρ'){v:V2}{u:Value}(h:VRel θ ρ v u):VRel θ ρ' v u:=by
 cases v with
 |ref i=>refine xEA h fun a h e=>?_;exact yEA a (x i a h) e
 |_=>exact h
inductive All2 {α β:Type}(R:α→β→Prop):List α→List β→Prop where
 |nil:All2 R [] []
 |cons {a b x y}:R a b→All2 R x y→All2 R (a::x) (b::y)
namespace All2
variable {α β:Type}{R S:α→β→Prop}
theorem imp (h:∀a b,R a b→S a b){x y}(r:All2 R x y):All2 S x y:=by
 induction r with
 |nil=>exact .nil
 |cons p _ B=>exact .cons (h _ _ p) B
theorem length {x y}(r:All2 R x y):x.length=y.length:=by
 induction r with
 |nil=>rfl
 |cons _ _ B=>simp[B]
theorem append {x y B G}(r:All2 R x y)(r':All2 R B G):All2 R (x++B) (y++G):=by
 induction r with
 |nil=>exact r'
 |cons p _ H=>exact .cons p H
theorem get {x y}(r:All2 R x y){i:Nat}{a:α}(h:x[i]?=some a):∃b,y[i]?=some b∧R a b:=by
 induction r generalizing i with
 |nil=>simp at h
 |cons p _ B=>
  cases i with
  |zero=>simp at h;subst h;exact yEA _ (by simp) p
  |succ i=>simp at h;simpa using B h
theorem get_none {x y}(r:All2 R x y){i:Nat}(h:x[i]?=none):y[i]?=none:=by
 rw[List.getElem?_eq_none_iff]at h⊢;refine r.length▸?_;exact h
theorem drop {x y}(r:All2 R x y)(n:Nat):All2 R (x.drop n) (y.drop n):=by
 induction r generalizing n with
 |nil=>simp;exact .nil
 |cons p q B=>cases n with
  |zero=>exact .cons p q
  |succ n=>simpa using B n
theorem take {x y}(r:All2 R x y)(n:Nat):All2 R (x.take n) (y.take n):=by
 induction r generalizing n with
 |nil=>simp;exact .nil
 |cons p q B=>cases n with
  |zero=>exact .nil
  |succ n=>simpa using .cons p (B n)
theorem set {x y}(r:All2 R x y)(n:Nat){a b}(h:R a b):All2 R (x.set n a) (y.set n b):=by
 induction r generalizing n with
 |nil=>exact .nil
 |cons p q B=>cases n with
  |zero=>exact .cons h q
  |succ n=>exact .cons p (B n)
theorem eraseIdx {x y}(r:All2 R x y)(n:Nat):All2 R (x.eraseIdx n) (y.eraseIdx n):=by
 induction r generalizing n with
 |nil=>exact .nil
 |cons p q B=>cases n with
  |zero=>exact q
  |succ n=>exact .cons p (B n)
end All2
noncomputable def ORel (θ:Th) (ρ:Rho):O2→Obj→Prop
 |.list xs,o=>∃items n,o={ cls:=.type "list",dict:=none,data:=.seq items n,slots:= #[] }∧All2 (VRel θ ρ) xs items.toList
 |.tup xs,o=>∃items n,o={ cls:=.type "tuple",dict:=none,data:=.seq items n,slots:= #[] }∧All2 (VRel θ ρ) xs items.toList
 |.dict es,o=>∃kvs,o.IsDictOf (strKind θ.P θ.W) kvs∧(∀e∈es,aP e.1=true)∧All2 (fun e B=>B.1=θ.str e.1∧VRel θ ρ e.2 B.2) es kvs
 |.tab b,o=>∃ps:Array Value,o={ cls:=.none,data:=.fields ps }∧(b=true→ps= #[])
theorem ORel.ext {θ:Th}{ρ ρ':Rho}(x:Ext ρ ρ'){o:O2}{u:Obj}(h:ORel θ ρ o u):ORel θ ρ' o u:=by
 cases o with
 |list xs=>refine aL h fun i n e h=>?_;exact dG i n e (h.imp fun J J=>VRel.ext x)
 |tup xs=>refine aL h fun i n e h=>?_;exact dG i n e (h.imp fun J J=>VRel.ext x)
 |dict es=>refine aQ h fun i n hl h=>?_;exact dY i n hl (h.imp fun _ _ ⟨B,G⟩=>⟨B,VRel.ext x G⟩)
 |tab b=>exact h
theorem ORel.notFreed {θ:Th}{ρ:Rho}{o:O2}{u:Obj}(h:ORel θ ρ o u):u.isFreed=false:=by
 cases o with
 |list xs=>refine aL h fun i n G h=>?_;subst G;rfl
 |tup xs=>refine aL h fun i n H h=>?_;subst H;rfl
 |dict es=>
  refine xEA h fun i B J=>?_;refine aE B fun es ep J hd J=>?_;cases u;dsimp only at hd;clear B h;subst hd;rfl
 |tab b=>refine xEA h fun ps O J=>?_;clear h;subst O;rfl
noncomputable def am:Addr:=143
structure HRel (θ:Th)(ρ:Rho)(n:Nat)(T:T2)(h:Heap):Prop where
 len:ρ.length=n
 nodup:ρ.Nodup
 live:∀a∈ρ,(h.get? a).isSome=true
 obj:∀i o2,T.get i=some o2→∃a o,ρ[i]?=some a∧h.get? a=some o∧ORel θ ρ o2 o
 tab:∀i b,T.get i=some (.tab b)→ρ[i]?=some am
theorem HRel.lt {θ:Th}{ρ:Rho}{n:Nat}{T:T2}{h:Heap}(x:HRel θ ρ n T h):∀a∈ρ,a<h.objs.size:=fun a B=>by
 refine xE (Dv.mp (x.live a B)) fun o G=>?_;exact rl G
theorem bb (h:Heap):h.get? h.objs.size=none:=by
 cases e:h.get? h.objs.size with
 |none=>rfl
 |some o=>exact absurd (rl e) (DF _)
noncomputable def Same (s s':Shared):Prop:=s'.os=s.os∧s'.drawn=s.drawn∧(Ju s.gens→Ju s'.gens)
theorem Same.trans {s s₁ s₂:Shared}(x:Same s s₁)(y:Same s₁ s₂):Same s s₂:=⟨y.1.trans x.1,y.2.1.trans x.2.1,fun h=>y.2.2 (x.2.2 h)⟩
noncomputable abbrev cM (ps:Array Value):Obj:={ cls:=.none,data:=.fields ps }
noncomputable def Kept (_:Addr) (o:Obj) (r:Option Obj):Prop:=r=some o∨False
theorem Kept.get {a:Addr}{o:Obj}{r:Option Obj}(x:Kept a o r)(_:∀ps,o≠cM ps):r=some o:=x.resolve_right id
theorem Kept.eq {a:Addr}{o:Obj}{r:Option Obj}(x:Kept a o r):r=some o:=x.resolve_right id
theorem Kept.trans {a:Addr}{o:Obj}{r r':Option Obj}(x:Kept a o r)(y:∀B,r=some B→Kept a B r'):Kept a o r':=y o x.eq
structure Kp (W:Addr→Prop)(ρ:Rho)(s:Shared)(ρ':Rho)(s':Shared):Prop where
 ext:Ext ρ ρ'
 same:Same s s'
 alive:∀a,(s.heap.get? a).isSome=true→(s'.heap.get? a).isSome=true
 keep:∀a o,a∉ρ→¬W a→s.heap.get? a=some o→Kept a o (s'.heap.get? a)
 fresh:∀a∈ρ',a∉ρ→s.heap.get? a=none
noncomputable def NoW:Addr→Prop:=fun J=>False
theorem Kp.refl (W:Addr→Prop)(ρ:Rho)(s:Shared):Kp W ρ s ρ s:=⟨.refl _,⟨rfl,rfl,id⟩,fun J h=>h,fun J J J J h=>.inl h,fun J h h'=>absurd h h'⟩
theorem Kp.trans {W:Addr→Prop}{ρ B G:Rho}{s s₁ s₂:Shared}(x:Kp W ρ s B s₁)(y:Kp W B s₁ G s₂):Kp W ρ s G s₂ where
 ext:=x.ext.trans y.ext
 same:=x.same.trans y.same
 alive:=fun a h=>y.alive a (x.alive a h)
 keep:=fun a o H V h=>by
  refine(x.keep a o H V h).trans fun Z e'=>y.keep a Z (fun J=>?_) V e';have:=x.fresh a J H;rw[h]at this;contradiction
 fresh:=fun a H O=>by
  by_cases J:a∈B
  ·exact x.fresh a J O
  ·obtain h1:=y.fresh a H J
   cases h0:s.heap.get? a with
   |none=>rfl
   |some o=>
    have:=x.alive a (by rw[h0];rfl);rw[h1]at this;contradiction
theorem Kp.weaken {W B:Addr→Prop}{ρ ρ':Rho}{s s':Shared}(x:Kp W ρ s ρ' s')(h:∀a,(s.heap.get? a).isSome=true→W a→B a):Kp B ρ s ρ' s':=
 ⟨x.ext,x.same,x.alive,fun a o G H e=>x.keep a o G (fun w=>H (h a (by refine(ir e)▸?_;rfl) w)) e,x.fresh⟩
theorem Kp.kept (W:Addr→Prop)(ρ:Rho)(s:Shared){h':Heap}(t:Nat)(B:∀b o,s.heap.get? b=some o→h'.get? b=some o):Kp W ρ s ρ { s with heap:=h',toks:=t }:=
 ⟨.refl _,⟨rfl,rfl,id⟩,fun a h=>by refine xE (Dv.mp h) fun o G=>?_;show(h'.get? a).isSome=true;refine(ir (B a o G))▸?_;rfl,fun a o J J h=>.inl (B a o h),fun a H hn=>absurd H hn⟩
theorem HRel.kept {θ:Th}{ρ:Rho}{n:Nat}{T:T2}{h h':Heap}(x:HRel θ ρ n T h)(H:∀b o,h.get? b=some o→h'.get? b=some o):HRel θ ρ n T h' where
 len:=x.len
 nodup:=x.nodup
 live:=fun a B=>by refine xE (Dv.mp (x.live a B)) fun o J=>?_;refine(ir (H a o J))▸?_;rfl
 obj:=fun i v O=>by
  refine aE (x.obj i v O) fun a V B G Z=>?_;exact bp a V B (H _ _ G) Z
 tab:=x.tab
noncomputable def jR (o:O2):Bool:=match o with
 |.tab _=>true
 |_=>false
theorem ntB {o:O2}(h:jR o=false)(b:Bool):o≠.tab b:=fun q=>Bool.noConfusion ((congrArg jR q).symm.trans h)
theorem HRel.add {θ:Th}{ρ:Rho}{n:Nat}{T:T2}{h:Heap}(x:HRel θ ρ n T h){a:Addr}{o2:O2}{o:Obj}(hn:n<4095)(G:a∉ρ)(H:h.get? a=some o)(V:ORel θ ρ o2 o)(J:autoParam (jR o2=false) aR):
  HRel θ (ρ++[a]) (n+1) (T.set 12 n o2) h where
 len:=by simp[x.len]
 nodup:=by
  rw[List.nodup_append];refine yAA x.nodup (by simp) (fun b hb c hc=>?_);simp at hc;clear H;subst hc;rintro rfl;exact G hb
 live:=fun b hb=>by
  rcases Eo.mp hb with h1|h1
  ·exact x.live b h1
  ·simp at h1;clear hb G;subst h1;refine(ir H)▸?_;rfl
 obj:=fun i v B=>by
  rw[T2.get_set12 _ _ _ _ hn]at B;by_cases hi:i=n
  ·clear hn;subst hi;rw[if_pos rfl]at B;injection B with B;subst B;refine bp a o ?_ H (V.ext (Ext.push _ _));refine x.len▸?_;grind
  ·rw[if_neg hi]at B;refine aE (x.obj i v B) fun b Z hb O hr=>?_;exact bp b Z (Ext.push _ _ i b hb) O (hr.ext (Ext.push _ _))
 tab:=fun i b B=>by
  rw[T2.get_set12 _ _ _ _ hn]at B;by_cases hi:i=n
  ·clear hn;subst hi;rw[if_pos rfl]at B;exact absurd (Dd B) (ntB J b)
  ·rw[if_neg hi]at B;exact Ext.push _ _ i _ (x.tab i b B)
end
section
open PySem
theorem xL {B G H J O V:Type}{R:B→G→H→J→O→V→Prop}{C:Prop}(h:∃x0,∃x1,∃x2,∃x3,∃x4,∃x5,R x0 x1 x2 x3 x4 x5)(k:∀x0,∀x1,∀x2,∀x3,∀x4,∀x5,R x0 x1 x2 x3 x4 x5→C):C:=h.elim fun x0 h1=>h1.elim fun x1 h2=>h2.elim fun x2 h3=>h3.elim fun x3 h4=>h4.elim fun x4 Z=>Z.elim fun x5 h6=>k x0 x1 x2 x3 x4 x5 h6
theorem cG {e:Expr}{x:Str}(h:iI e=some x):∃p,e=.Name x p:=by
 cases e with
 |Name y p=>injection h with h;subst h;exact⟨p,rfl⟩
 |_=>contradiction
theorem iQ {e:Expr}{es:List Expr}(h:uU e=some es):∃k p,e=.Tuple es k p:=by
 cases e with
 |Tuple y k p=>injection h with h;subst h;exact yEE k p rfl
 |_=>contradiction
theorem sG {e:Expr}{es:List Expr}(h:zk e=some es):∃p,e=.List es p:=by
 cases e with
 |List y p=>injection h with h;subst h;exact⟨p,rfl⟩
 |_=>contradiction
theorem fE {e:Expr}{a:Str}(h:sv e=some a):∃k p,e=.Constant (.str a) k p:=by
 cases e with
 |Constant c k p=>
  cases c with
  |str b=>injection h with h;subst h;exact yEE k p rfl
  |_=>contradiction
 |_=>contradiction
theorem mU {e:Expr}{l:List Nat}(h:zR e=some l):∃k p,e=.Constant (.str ⟨⟨l⟩⟩) k p:=by
 apply aS h;clear h;intro a h1 h;injection h with h;subst h;exact fE h1
theorem sH {e:Expr}{p:Str×Str}(h:zh e=some p):∃B G H J k q,e=.Tuple [.Constant (.str p.1) B G,.Constant (.str p.2) H J] k q:=by
 apply aS h;clear h;intro es h1 h;refine xEE (iQ h1) fun k q e1=>?_;clear h1;subst e1
 cases es with
 |nil=>contradiction
 |cons x r=>
 cases r with
 |nil=>contradiction
 |cons y r=>
 cases r with
 |cons _ _=>contradiction
 |nil=>
  dsimp only at h;apply aS h;clear h;intro a h2 h;apply aS h;clear h;intro b h3 h;injection h with h;subst h;refine xEE (fE h2) fun B G e2=>?_;refine xEE (fE h3) fun H J e3=>?_;subst e2;subst e3;exact xJ B G H J k q rfl
theorem sJ {e:Expr}{c:u0}(h:zi e=some c):e=.Call (.Attribute c.o c.m c.ap) c.args [] c.pos:=by
 cases e with
 |Call f a B pos=>
  cases B with
  |nil=>
   cases f with
   |Attribute o m ap=>injection h with h;subst h;rfl
   |_=>contradiction
  |cons _ _=>contradiction
 |_=>contradiction
theorem vl {s:Stmt}{c:Bh}(h:Bi s=some c):∃p,s=.Assign [c.t] c.e p:=by
 cases s with
 |Assign B e p=>
  cases B with
  |nil=>contradiction
  |cons t r=>
  cases r with
  |nil=>injection h with h;subst h;exact⟨p,rfl⟩
  |cons _ _=>contradiction
 |_=>contradiction
theorem iR {e:Expr}{x:Str}(h:xB e x=true):∃p,e=.Name x p:=by
 apply iM h;clear h;intro y h1 h;have e1:=(ao x y).mp h;clear h;subst e1;exact cG h1
theorem mV {B:List V2}{c:Nat}(h:zK B=some c):B=[.str [.c c]]:=by
 cases B with
 |nil=>contradiction
 |cons v r=>
 cases r with
 |cons _ _=>contradiction
 |nil=>
 cases v with
 |str s=>
  cases s with
  |nil=>contradiction
  |cons a r=>
  cases r with
  |cons _ _=>cases a<;>contradiction
  |nil=>
  cases a with
  |c n=>injection h with h;subst h;rfl
  |t _ _=>contradiction
 |_=>contradiction
theorem mW {B:List V2}{i:Nat}(h:zL B=some i):B=[.ref i]:=by
 cases B with
 |nil=>contradiction
 |cons v r=>
 cases r with
 |cons _ _=>contradiction
 |nil=>
 cases v with
 |ref s=>injection h with h;subst h;rfl
 |_=>contradiction
theorem vm {B:List V2}{k:Int}(h:A6 B=some k):B=[.int k 0]:=by
 cases B with
 |nil=>contradiction
 |cons v r=>
 cases r with
 |cons _ _=>contradiction
 |nil=>
 cases v with
 |int z x=>
  apply az h;clear h;intro q h;injection h with h;rw[nd q,h]
 |_=>contradiction
theorem xM {B:List V2}{p:List At×V2}(h:vSV B=some p):B=[.str p.1,p.2]:=by
 cases B with
 |nil=>contradiction
 |cons u r=>
 cases r with
 |nil=>contradiction
 |cons v r=>
 cases r with
 |cons _ _=>contradiction
 |nil=>
 cases u with
 |str s=>injection h with h;subst h;rfl
 |_=>contradiction
theorem en {B:List V2}{v:V2}(h:ss B=some v):B=[v]:=by
 cases B with
 |nil=>contradiction
 |cons u r=>
 cases r with
 |cons _ _=>contradiction
 |nil=>injection h with h;subst h;rfl
theorem rW {B:List V2}{p:Nat×Nat}(h:vRR B=some p):B=[.ref p.1,.ref p.2]:=by
 cases B with
 |nil=>contradiction
 |cons u r=>
 cases r with
 |nil=>contradiction
 |cons v r=>
 cases r with
 |cons _ _=>contradiction
 |nil=>
 cases u with
 |ref i=>
  cases v with
  |ref j=>injection h with h;subst h;rfl
  |_=>contradiction
 |_=>contradiction
theorem mX {v:V2}{k:Nat}(h:zH v=some k):v=.str [.t k 0]:=by
 cases v with
 |str s=>
  cases s with
  |nil=>contradiction
  |cons a r=>
  cases r with
  |cons _ _=>contradiction
  |nil=>
  cases a with
  |c _=>contradiction
  |t j z=>apply az h;clear h;intro q h;injection h with h;rw[nd q,h]
 |_=>contradiction
theorem sK {v:V2}{i:Nat}(h:y3 v=some i):v=.ref i:=by
 cases v with
 |ref j=>injection h with h;subst h;rfl
 |_=>contradiction
theorem pF {v:V2}{a:Int}(h:vI v=some a):v=.int a 0:=by
 cases v with
 |int z x=>apply az h;clear h;intro q h;injection h with h;rw[nd q,h]
 |_=>contradiction
theorem gM {B:List V2}{r:Src}{C:Prop}(h:ia B=some r)(k1:∀a,B=[.int a 0]→uL a=some r→C)(k2:∀a b,B=[.int a 0,.int b 0]→uM a b=some r→C):C:=by
 cases B with
 |nil=>contradiction
 |cons u l=>
 cases l with
 |nil=>exact aS h fun a h1 h=>k1 a (congrArg (fun x=>[x]) (pF h1)) h
 |cons v l=>
 cases l with
 |cons _ _=>contradiction
 |nil=>
  apply aS h;clear h;intro a h1 h;apply aS h;clear h;intro b h2 h;exact k2 a b (by rw[pF h1,pF h2]) h
theorem vn {l:List Nat}{c:Nat}(h:zc l=some c):l=[c]:=by
 cases l with
 |nil=>contradiction
 |cons a r=>
 cases r with
 |nil=>injection h with h;subst h;rfl
 |cons _ _=>contradiction
theorem sL {l:List Nat}(h:zd l=true):l=[]:=by
 cases l with
 |nil=>rfl
 |cons _ _=>contradiction
theorem kn {ops:List CmpOp}{bs:List Expr}{p:CmpOp×Expr}(h:rI ops bs=some p):ops=[p.1]∧bs=[p.2]:=by
 cases ops with
 |nil=>contradiction
 |cons o r=>
 cases r with
 |cons _ _=>contradiction
 |nil=>
 cases bs with
 |nil=>contradiction
 |cons b r=>
 cases r with
 |cons _ _=>contradiction
 |nil=>injection h with h;subst h;exact⟨rfl,rfl⟩
theorem pG {B:List V2}{st st':St}{r:V2}{C:Prop}(e:li B st=.ok r st')(k1:∀b,B=[.bytes b]→ib b 0 0 st=.ok r st'→C)(k2:∀b c x,B=[.bytes b,.int c x]→ib b c x st=.ok r st'→C):C:=by
 cases B with
 |nil=>contradiction
 |cons u l=>
 cases l with
 |nil=>cases u with
  |bytes b=>exact k1 b rfl e
  |_=>contradiction
 |cons v l=>
 cases l with
 |cons _ _=>contradiction
 |nil=>cases u with
  |bytes b=>cases v with
   |int c x=>exact k2 b c x rfl e
   |_=>contradiction
  |_=>contradiction
theorem Aj {prog:C9}{w:World}{A:Dq}{s:Shared}{R:GH→Shared→Prop}{B:Expr}{it:Value}{body:List Stmt}{env:Env}(I:Nat→Shared→Prop)(Fin:Shared→Prop)(hf:∀s,Fin s→R (.ok .next) s)
  (n:Nat)(O:I n s)(h:∀(n:Nat) (s:Shared) (Q:Flow→Shared→Prop) (E:Value→Shared→Prop),I n s→(∀m s',m<n→I m s'→Q .next s')→wpAny (model prog w) A (Hp it) (fun r s₁=>match r with
   |none=>Fin s₁
   |some v=>wpAny (model prog w) A (Gq B it v) (fun _ G=>wpAny (model prog w) A (Go B env v) (fun _ s₂=>wpAny (model prog w) A (execs body env) Q E s₂) E G) E s₁) E s):Fb (model prog w) A (.forLoop B it body [] env) R s:=by
 refine codeAny_forLoop_any I (fun n s hi=>?_) n O
 refine Dn (h n s (fun f s₃=>match f with
  |.next=>∃m,m<n∧I m s₃
  |.cont=>∃m,m<n∧I m s₃
  |.brk=>R (.ok .next) s₃
  |.ret v=>R (.ok (.ret v)) s₃) _ hi fun m s' V H=>⟨m,V,H⟩) (fun r s₁ J=>?_) fun _ _ e=>e
 cases r with
 |none=>exact C7 (hf _ J)
 |some v=>exact J
theorem zt {prog:C9}{w:World}{A:Dq}{s:Shared}{R:GH→Shared→Prop}{B:Expr}{it:Value}{body:List Stmt}{env:Env}(I:Nat→Shared→Prop)(Fin:Shared→Prop)(hf:∀s,Fin s→R (.ok .next) s)
  (n:Nat)(H:I n s)(hl:∀v,Gq B it v=pure ())(h:∀(n:Nat) (s:Shared) (Q:Flow→Shared→Prop) (E:Value→Shared→Prop),I n s→(∀m s',m<n→I m s'→Q .next s')→wpAny (model prog w) A (Hp it) (fun r s₁=>match r with
   |none=>Fin s₁
   |some v=>wpAny (model prog w) A (Go B env v) (fun _ s₂=>wpAny (model prog w) A (execs body env) Q E s₂) E s₁) E s):Fb (model prog w) A (.forLoop B it body [] env) R s:=
 Aj I Fin hf n H fun n s Q E hi hq=>Dn (h n s Q E hi hq) (fun r s₁ G=>by
  cases r with
  |none=>exact G
  |some v=>show wpAny _ _ (Gq B it v) _ _ _;refine(ir (hl v))▸?_;exact nb G) fun _ _ e=>e
section
variable {prog:C9}{w:World}{A:Dq}{E:Value→Shared→Prop}{s:Shared}{env:Env}{pos:Pos}{rest:List Stmt}{Q:Flow→Shared→Prop}
theorem csE {e:Expr}(h:wpAny (model prog w) A (eval e env) (fun _ s'=>wpAny (model prog w) A (execs rest env) Q E s') E s)(B:DS env=false)(hs:Gs e none pos.line env=pure false:=by rfl):wpAny (model prog w) A (execs (.Expr e pos::rest) env) Q E s:=DL (wpAny_Expr_any h B hs)
theorem csA {x:Str}{B:Pos}{e:Expr}(h:wpAny (model prog w) A (eval e env) (fun v s₁=>wpAny (model prog w) A (FL env x v) (fun _ s'=>wpAny (model prog w) A (execs rest env) Q E s') E s₁) E s)(hs:Gs e (some (.Name x B)) pos.line env=pure false):wpAny (model prog w) A (execs (.Assign [.Name x B] e pos::rest) env) Q E s:=DL (Ib h hs)
theorem csT {o:Expr}{a:Str}{B:Pos}{e:Expr}(h:wpAny (model prog w) A (eval e env) (fun v s₁=>wpAny (model prog w) A (eval o env) (fun ov s₂=>wpAny (model prog w) A (Kf ov a v) (fun _ s'=>wpAny (model prog w) A (execs rest env) Q E s') E s₂) E s₁) E s)(hs:Gs e (some (.Attribute o a B)) pos.line env=pure false):wpAny (model prog w) A (execs (.Assign [.Attribute o a B] e pos::rest) env) Q E s:=DL (plainObj_wpAny_Assign_Attribute h hs)
theorem csR {e:Expr}(h:wpAny (model prog w) A (eval e env) (fun v=>Q (.ret v)) E s):wpAny (model prog w) A (execs (.Return (some e) pos::rest) env) Q E s:=DL (wpAny_Return_some h)
noncomputable def Nx (prog:C9) (w:World) (A:Dq) (rest:List Stmt) (env:Env) (Q:Flow→Shared→Prop) (E:Value→Shared→Prop):Flow→Shared→Prop:=fun f s'=>match f with
 |.next=>wpAny (model prog w) A (execs rest env) Q E s'
 |f=>Q f s'
theorem csI {G:Expr}{body B:List Stmt}(h:wpAny (model prog w) A (PySem.isTrue G env (eval G env)) (fun b s₂=>if b=true then wpAny (model prog w) A (execs body env) (Nx prog w A rest env Q E) E s₂ else wpAny (model prog w) A (execs B env) (Nx prog w A rest env Q E) E s₂) E s):wpAny (model prog w) A (execs (.If G body B pos::rest) env) Q E s:=DL (Dn (wpAny_If h) (fun f _ z=>by cases f<;>exact z) fun _ _ e=>e)
end
theorem wb3 {α β:Type}{M:Model}{A:Dq}{E:Value→Shared→Prop}{s:Shared}{pos:Pos}{m:Sem α}{f:α→Sem β}{Q:β→Shared→Prop}(h:wpAny M A m (fun a s'=>wpAny M A (f a) Q E s') E s):wpAny M A (IE pos >>= fun _=>m >>= f) Q E s:=il (Ek (il h))
theorem wbp {α β:Type}{M:Model}{A:Dq}{E:Value→Shared→Prop}{s:Shared}{a:α}{f:α→Sem β}{Q:β→Shared→Prop}(h:wpAny M A (f a) Q E s):wpAny M A (pure a >>= f) Q E s:=il (nb h)
theorem mOn {prog:C9}{w:World}{A:Dq}{E:Value→Shared→Prop}{name:Str}{ov:Value}{pos:Pos}{args:List (Bool×Sem Value)}{Q:Value→Shared→Prop}{s:Shared}{T id:String}(h1:PlainAttrs T)(h2:Slot T name id)(h3:JQ (.builtin id)=pure (.type "method_descriptor"))(h4:s.TypeIs ov T)
  (G:∀a,ov=.ref a→∃B,s.heap.get? a=some B∧B.dict=none)(h:wpAny (model prog w) A (Fu pos (.builtin id) [ov] args []) Q E s):JX prog w A E name ov pos args Q s:=⟨T,id,h1,h2,h3,h4,G,h⟩
theorem lJ {prog:C9}{w:World}{A:Dq}{E:Value→Shared→Prop}{name:Str}{x:Str}{t:Tok}{pos:Pos}{args:List (Bool×Sem Value)}{Q:Value→Shared→Prop}{s:Shared}{id:String}(h2:Slot "str" name id)(h3:JQ (.builtin id)=pure (.type "method_descriptor"))
  (h:wpAny (model prog w) A (Fu pos (.builtin id) [.str x t] args []) Q E s):JX prog w A E name (.str x t) pos args Q s:=mOn Hk h2 h3 (EX _ _ _) (fun _ e=>KY e) h
theorem xN {prog:C9}{w:World}{A:Dq}{E:Value→Shared→Prop}{name:Str}{l:Addr}{o:Obj}{pos:Pos}{args:List (Bool×Sem Value)}{Q:Value→Shared→Prop}{s:Shared}{id:String}(B:s.heap.get? l=some o)(h2:Slot "list" name id)(h3:JQ (.builtin id)=pure (.type "method_descriptor"))
  (h:wpAny (model prog w) A (Fu pos (.builtin id) [.ref l] args []) Q E s)(hc:o.cls=.type "list":=by rfl)(hd:o.dict=none:=by rfl):JX prog w A E name (.ref l) pos args Q s:=mOn Js h2 h3 ⟨o,B,hc⟩ (fun a e=>⟨o,Value.ref.inj e▸B,hd⟩) h
section
variable {α β:Type}{M:Model}{A:Dq}{E:Value→Shared→Prop}{s:Shared}{c:Prop}[Decidable c]{a b:Sem α}
theorem jS {Q:α→Shared→Prop}(h:c)(k:wpAny M A a Q E s):wpAny M A (if c then a else b) Q E s:=if_pos h▸k
theorem fF {Q:α→Shared→Prop}(h:¬c)(k:wpAny M A b Q E s):wpAny M A (if c then a else b) Q E s:=if_neg h▸k
theorem Bw {f:α→Sem β}{Q:β→Shared→Prop}(h:c)(k:wpAny M A (a >>= f) Q E s):wpAny M A ((if c then a else b) >>= f) Q E s:=if_pos h▸k
theorem vo {f:α→Sem β}{Q:β→Shared→Prop}(h:¬c)(k:wpAny M A (b >>= f) Q E s):wpAny M A ((if c then a else b) >>= f) Q E s:=if_neg h▸k
end
end
section
section
variable {α:Type}{C:Prop}{l:List α}
theorem lz (h:l.length=0)(k:l=[]→C):C:=k (List.eq_nil_of_length_eq_zero h)
theorem ls {n:Nat}(h:l.length=n+1)(k:∀a r,l=a::r→r.length=n→C):C:=match l,h,k with
 |a::r,h,k=>k a r rfl (HO h)
theorem l1 (h:l.length=1)(k:∀a,l=[a]→C):C:=ls h fun a J e h=>lz h fun q=>k a (q▸e)
theorem l2 (h:l.length=2)(k:∀a b,l=[a,b]→C):C:=ls h fun a J e h=>l1 h fun b q=>k a b (q▸e)
theorem l3 (h:l.length=3)(k:∀a b c,l=[a,b,c]→C):C:=ls h fun a J e h=>l2 h fun b c q=>k a b c (q▸e)
theorem l4 (h:l.length=4)(k:∀a b c d,l=[a,b,c,d]→C):C:=ls h fun a J e h=>l3 h fun b c d q=>k a b c d (q▸e)
theorem l6 (h:l.length=6)(k:∀a b c d e f,l=[a,b,c,d,e,f]→C):C:=ls h fun a J e h=>ls h fun b J B h=>l4 h fun c d u v q=>k a b c d u v (q▸B▸e)
end
end
section
open PySem
section
theorem dq {α:Type}{l:List α}(h:l.Nodup){i j:Nat}{a:α}(hi:l[i]?=some a)(hj:l[j]?=some a):i=j:=by
 obtain⟨h1,e1⟩:=Dz.mp hi;obtain⟨h2,e2⟩:=Dz.mp hj;rcases HP i j with h'|h'|h'
 ·exact absurd (e1.trans e2.symm) (HJ.mp h i j h1 h2 h')
 ·exact h'
 ·exact absurd (e2.trans e1.symm) (HJ.mp h j i h2 h1 h')
structure ERel (θ:Th)(ρ:Rho)(sc:Scope)(env:Env)(loc:List (Str×V2))(h:Heap):Prop where
 fn:env.scope.kind=.function
 kl:∀x,au x sc.names=some .local→env.kindOf x=some .local
 kc:∀x,au x sc.names=some .cell→env.kindOf x=some .cell
 kf:∀x,au x sc.names=some .free→env.kindOf x=some .free∨env.kindOf x=some .cell
 kg:∀x,au x sc.names=some .globalImplicit→env.kindOf x=some .globalImplicit
 ns:∃m,h.Ns env.locals m∧∀x v,au x sc.names=some .local→lk x loc=some v→∃u,m x=some u∧VRel θ ρ v u
 cell:∀x,au x sc.names=some .cell∨au x sc.names=some .free→
  ∃c v',env.cells.lookup x=some c∧c≠env.locals∧c∉ρ∧h.IsCell c v'∧∀v,lk x loc=some v→∃u,v'=some u∧VRel θ ρ v u
 apart:env.cells.Pairwise fun x y=>x.2≠y.2
 out:env.locals∉ρ
 clive:∀y c,env.cells.lookup y=some c→(h.get? c).isSome=true
noncomputable def Wf (env:Env) (a:Addr):Prop:=a=env.locals∨∃x,env.cells.lookup x=some a
noncomputable def Wo (env:Env) (x:Str) (a:Addr):Prop:=a=env.locals∨env.cells.lookup x=some a
theorem Wo.wf {env:Env}{x:Str}{a:Addr}(h:Wo env x a):Wf env a:=h.imp id fun e=>⟨x,e⟩
theorem ERel.kp {θ:Th}{ρ ρ':Rho}{sc:Scope}{env:Env}{loc}{s s':Shared}(x:ERel θ ρ sc env loc s.heap)(k:Kp NoW ρ s ρ' s'):ERel θ ρ' sc env loc s'.heap where
 fn:=x.fn
 kl:=x.kl
 kc:=x.kc
 kf:=x.kf
 kg:=x.kg
 ns:=by
  refine xEA x.ns fun m J h=>?_;refine bg J fun o es ep B G r=>?_;exact⟨m,⟨o,es,ep,(k.keep _ _ x.out (fun f=>f) B).get (fun ps q=>by rw[q]at G;contradiction),G,r⟩,fun y v O hl=>by refine xEA (h y v O hl) fun u e r=>?_;exact⟨u,e,r.ext k.ext⟩⟩
 cell:=fun y O=>by
  refine aZ (x.cell y O) fun c v' hc V H hv h=>?_;refine xEA hv fun o B hd=>?_;refine⟨c,v',hc,V,fun Z=>?_,⟨o,(k.keep _ _ H (fun f=>f) B).get (fun ps q=>by rw[q]at hd;contradiction),hd⟩,fun v hl=>by refine xEA (h v hl) fun u e r=>?_;exact⟨u,e,r.ext k.ext⟩⟩;have:=k.fresh c Z H;rw[B]at this;contradiction
 apart:=x.apart
 out:=fun Z=>by
  refine xEA x.ns fun m a0 h=>?_;refine bq a0 fun o es ep B r=>?_;have:=k.fresh _ Z x.out;rw[B]at this;contradiction
 clive:=fun y c hc=>k.alive c (x.clive y c hc)
structure Fix where
 base:Addr→Option Obj
 nt:∀a o,base a=some o→∀ps,o≠cM ps
 g:Addr
 b:Addr
structure SRel (θ:Th)(B:Fix)(sc:Scope)(env:Env)(ρ:Rho)(st:St)(s:Shared):Prop where
 h:HRel θ ρ st.n st.hp s.heap
 e:ERel θ ρ sc env st.loc s.heap
 gl:env.globals=B.g
 bu:env.builtins=B.b
 fix:∀a o,B.base a=some o→s.heap.get? a=some o∧a∉ρ∧¬Wf env a
variable {θ:Th}{B:Fix}{sc:Scope}{env:Env}{ρ ρ':Rho}{st st':St}{s s':Shared}
theorem SRel.after (x:SRel θ B sc env ρ st s)(k:Kp NoW ρ s ρ' s')(h:HRel θ ρ' st'.n st'.hp s'.heap)(l:st'.loc=st.loc):SRel θ B sc env ρ' st' s' where
 h:=h
 e:=by refine(ir l)▸?_;exact x.e.kp k
 gl:=x.gl
 bu:=x.bu
 fix:=fun a o e=>by
  refine xAA (x.fix a o e) fun h1 h2 h3=>?_;refine⟨(k.keep a o h2 (fun f=>f) h1).get (B.nt a o e),fun G=>?_,h3⟩;have:=k.fresh a G h2;rw[h1]at this;contradiction
theorem Kp.toks (W:Addr→Prop)(ρ:Rho)(s:Shared)(t:Nat):Kp W ρ s ρ { s with toks:=t }:=Kp.kept W ρ s t fun J J h=>h
theorem SRel.tok (x:SRel θ B sc env ρ st s)(t:Nat):SRel θ B sc env ρ st { s with toks:=t }:=x.after (Kp.toks NoW ρ s t) x.h rfl
theorem HRel.push {n:Nat}{T:T2}{h:Heap}(x:HRel θ ρ n T h){o2:O2}{o:Obj}(hn:n<4095)(H:ORel θ ρ o2 o)(G:autoParam (jR o2=false) aR):HRel θ (ρ++[h.objs.size]) (n+1) (T.set 12 n o2) (h.push o):=
 (x.kept fun J J e=>mc _ e).add hn (fun O=>DF _ (x.lt _ O)) (rh _ H.notFreed) H G
theorem Kp.add {W:Addr→Prop}{s s':Shared}{a:Addr}(k:Kp W ρ s ρ' s')(G:s.heap.get? a=none):Kp W ρ s (ρ'++[a]) s' where
 ext:=k.ext.trans (Ext.push _ _)
 same:=k.same
 alive:=k.alive
 keep:=k.keep
 fresh:=fun b hb hn=>by
  rcases Eo.mp hb with h1|h1
  ·exact k.fresh b h1 hn
  ·simp at h1;clear hb;subst h1;exact G
theorem Kp.push (ρ:Rho)(s:Shared)(o:Obj)(t:Nat):Kp NoW ρ s (ρ++[s.heap.objs.size]) { s with heap:=s.heap.push o,toks:=t }:=
 (Kp.kept NoW ρ s t fun J J e=>mc _ e).add (bb _)
theorem bF {o2:O2}{v:V2}(h:st.alloc o2=.ok v st'):st.n<4000∧o2.small=true∧v=.ref st.n∧st'=⟨st.loc,st.n+1,st.hp.set 12 st.n o2⟩:=by
 unfold St.alloc at h;refine aJ (EP st.n 4000&&o2.small) (fun hb=>?_) fun hb=>?_
 ·rw[hb]at h;injection h with G H;subst G;subst H;rw[DM]at hb;exact lF (Er.mp hb.1) hb.2 rfl rfl
 ·rw[hb]at h;contradiction
theorem O2.nt {o:O2}(h:o.small=true):jR o=false:=by
 cases o with
 |tab b=>contradiction
 |_=>rfl
theorem SRel.alloc (x:SRel θ B sc env ρ st s){o2:O2}{o:Obj}{v:V2}(h:st.alloc o2=.ok v st')(O:ORel θ ρ o2 o)(t:Nat):
  SRel θ B sc env (ρ++[s.heap.objs.size]) st' { s with heap:=s.heap.push o,toks:=t }∧Kp NoW ρ s (ρ++[s.heap.objs.size]) { s with heap:=s.heap.push o,toks:=t }∧st'.loc=st.loc∧
   VRel θ (ρ++[s.heap.objs.size]) v (.ref s.heap.objs.size):=by
 refine cL (bF h) fun hn G H J=>?_;subst H;subst J;have k:=Kp.push ρ s o t;refine u9 (x.after k (x.h.push (by exact o5 hn) O (O2.nt G)) rfl) k rfl s.heap.objs.size ?_ rfl;refine x.h.len▸?_;grind
theorem HRel.put {n:Nat}{T:T2}{h:Heap}(x:HRel θ ρ n T h){i:Nat}{a:Addr}(hi:ρ[i]?=some a){o2:O2}{f:Obj→Obj}{o:Obj}(ho:h.get? a=some o)(hn:n<4095)
  (J:ORel θ ρ o2 (f o))(O:autoParam (jR o2=false) aR):HRel θ ρ n (T.set 12 i o2) (h.update a f) where
 len:=x.len
 nodup:=x.nodup
 live:=fun b hb=>by
  by_cases e:b=a
  ·clear hi;subst e;refine(ir (Dy _ ho J.notFreed))▸?_;rfl
  ·rw[DC]
   ·exact x.live b hb
   ·exact EL e
 obj:=fun j v G=>by
  have H:i<n:=by refine x.len▸?_;exact(Dz.mp hi).1
  rw[T2.get_set12 _ _ _ _ (by exact o18 hn H)]at G;by_cases hj:j=i
  ·clear H;subst hj;rw[if_pos rfl]at G;injection G with G;subst G;exact bp a (f o) hi (Dy _ ho J.notFreed) J
  ·rw[if_neg hj]at G;refine aE (x.obj j v G) fun b o' hb V Z=>?_;refine bp b o' hb ?_ Z;rw[DC]
   ·exact V
   ·rintro rfl;exact hj (dq x.nodup hb hi)
 tab:=fun j b G=>by
  have H:i<n:=by refine x.len▸?_;exact(Dz.mp hi).1
  rw[T2.get_set12 _ _ _ _ (by exact o18 hn H)]at G;by_cases hj:j=i
  ·clear H hi;subst hj;rw[if_pos rfl]at G;exact absurd (Dd G) (ntB O b)
  ·rw[if_neg hj]at G;exact x.tab j b G
theorem Kp.put {a:Addr}(ρ:Rho)(s:Shared)(G:a∈ρ)(f:Obj→Obj)(t:Nat)(hl:((s.heap.update a f).get? a).isSome=true):Kp NoW ρ s ρ { s with heap:=s.heap.update a f,toks:=t } where
 ext:=.refl _
 same:=⟨rfl,rfl,id⟩
 alive:=fun b hb=>by
  show((s.heap.update a f).get? b).isSome=true;by_cases e:b=a
  ·clear G;subst e;exact hl
  ·rw[DC]
   ·exact hb
   ·exact EL e
 keep:=fun b H hb J h=>.inl <| by
  show(s.heap.update a f).get? b=_;rw[DC]
  ·exact h
  ·rintro rfl;exact hb G
 fresh:=fun a G hn=>absurd G hn
theorem SRel.put (x:SRel θ B sc env ρ st s){i:Nat}{a:Addr}(hi:ρ[i]?=some a){o2:O2}{f:Obj→Obj}{o:Obj}(H:s.heap.get? a=some o)(hn:st.n<4095)(J:ORel θ ρ o2 (f o))(t:Nat)(G:autoParam (jR o2=false) aR):
  SRel θ B sc env ρ (st.put i o2) { s with heap:=s.heap.update a f,toks:=t }∧Kp NoW ρ s ρ { s with heap:=s.heap.update a f,toks:=t }:=by
 have k:=Kp.put ρ s (C6 hi) f t (by refine(ir (Dy _ H J.notFreed))▸?_;rfl);exact⟨x.after (st':=st.put i o2) k (x.h.put hi H hn J G) rfl,k⟩
section
variable {M:Model}{A:Dq}{E:Value→Shared→Prop}
theorem iS {x:Str}(h:iA sc x=true):(x==("__debug__":Str))=false∧(x==("__classdict__":Str))=false∧
  (au x sc.names=some .local∨au x sc.names=some .cell∨au x sc.names=some .free):=by
 unfold iA at h;refine aJ (aA x dE) (fun h1=>?_) fun h1=>?_
 ·rw[h1]at h;contradiction
 ·rw[h1]at h;dsimp only at h;refine aJ (aA x gD) (fun h2=>?_) fun h2=>?_
  ·rw[h2]at h;contradiction
  ·rw[h2]at h;dsimp only at h;refine⟨beq_eq_false_iff_ne.mpr (aW h1),beq_eq_false_iff_ne.mpr (aW h2),?_⟩
   cases G:au x sc.names with
   |none=>rw[G]at h;contradiction
   |some k=>rw[G]at h;cases k<;>simp at h⊢
theorem vp {x:Str}{v:V2}{Q:Value→Shared→Prop}(S:SRel θ B sc env ρ st s)(hv:iA sc x=true)(hl:lk x st.loc=some v)
  (h:∀u,VRel θ ρ v u→Q u s):wpAny M A (loadName env x) Q E s:=by
 refine xAA (iS hv) fun hd V hk=>?_;rcases hk with hk|hk|hk
 ·refine xEA S.e.ns fun m hn hm=>?_;refine xEA (hm x v hk hl) fun u H O=>?_;exact Ex S.e.fn (S.e.kl x hk) hn H (h u O)
 ·refine aZ (S.e.cell x (.inl hk)) fun c v' hc J J G H=>?_;refine xEA (H v hl) fun u Z O=>?_;clear H;subst Z;exact HH S.e.fn (S.e.kc x hk) hc G (h u O)
 ·refine aZ (S.e.cell x (.inr hk)) fun c v' hc J J G H=>?_;refine xEA (H v hl) fun u a0 O=>?_;clear H;subst a0;rcases S.e.kf x hk with h1|h1
  ·exact wpAny_loadName_free S.e.fn h1 hc G (h u O) V
  ·exact HH S.e.fn h1 hc G (h u O)
theorem vq {x:Str}{pos:Pos}{v:V2}{Q:Value→Shared→Prop}(S:SRel θ B sc env ρ st s)(G:iA sc x=true)(hl:lk x st.loc=some v)
  (h:∀u,VRel θ ρ v u→Q u s):wpAny M A (eval (.Name x pos) env) Q E s:=
 FZ (vp S G hl h) (iS G).1
theorem iT {x:Str}(h:bQ sc x=true):au x sc.names=some .local∨au x sc.names=some .cell:=by
 unfold bQ at h
 cases G:au x sc.names with
 |none=>rw[G]at h;contradiction
 |some k=>rw[G]at h;cases k<;>simp at h⊢
theorem ko {l:List (Str×Addr)}{x:Str}{c:Addr}(h:l.lookup x=some c):(x,c)∈l:=mem_of_lookup h
theorem eL {x:Str}{v:V2}{u:Value}{Q:Unit→Shared→Prop}(S:SRel θ B sc env ρ st s)(hv:bQ sc x=true)(hu:VRel θ ρ v u)
  (h:∀s',SRel θ B sc env ρ (st.with (up x v st.loc)) s'→Kp (Wo env x) ρ s ρ s'→Q () s'):wpAny M A (FL env x u) Q E s:=by
 rcases iT hv with hk|hk
 ·refine xEA S.e.ns fun m hn hm=>?_;refine Ec (S.e.kl x hk) hn (fun h' a8 V=>?_) (by refine(ir S.e.fn)▸?_;rfl);have G:∀a o,a≠env.locals→s.heap.get? a=some o→h'.get? a=some o:=fun a o O e=>(V.2 a O).trans e
  have H:∀a,(s.heap.get? a).isSome=true→(h'.get? a).isSome=true:=fun a O=>by
   by_cases e:a=env.locals
   ·refine bq a8 fun o J J ho J=>?_;refine(ir e)▸(ir ho)▸?_;rfl
   ·refine(ir (V.2 a e))▸?_;exact O
  refine h _ ⟨⟨S.h.len,S.h.nodup,fun a O=>H a (S.h.live a O),fun i o2 e=>?_,S.h.tab⟩,⟨S.e.fn,S.e.kl,S.e.kc,S.e.kf,S.e.kg,⟨_,a8,?_⟩,?_,S.e.apart,S.e.out,fun y c hc=>H c (S.e.clive y c hc)⟩,S.gl,S.bu,?_⟩ ?_
  ·refine aE (S.h.obj i o2 e) fun a o O ho r=>?_;exact bp a o O (G a o (fun e=>S.e.out (e▸C6 O)) ho) r
  ·intro y w hy hl;rw[show(st.with (up x v st.loc)).loc=up x v st.loc from rfl,eX]at hl;by_cases e:y=x
   ·clear a8 hk h hv;subst e;rw[if_pos rfl]at hl;injection hl with hl;subst hl;exact yEA u (by simp) hu
   ·rw[if_neg e]at hl;refine(ir (if_neg e))▸?_;exact hm y w hy hl
  ·intro y hy;refine aZ (S.e.cell y hy) fun c v' hc Z a0 hv hh=>?_;refine bi c v' hc Z a0 (hv.sameBut V Z) (fun w hl=>hh w ?_);rw[show(st.with (up x v st.loc)).loc=up x v st.loc from rfl,eX]at hl;have:y≠x:=by rintro rfl;rcases hy with hy|hy<;>(rw[hk]at hy;injection hy with hy;contradiction)
   rwa [if_neg this]at hl
  ·intro a o e;refine xAA (S.fix a o e) fun h1 h2 h3=>?_;exact yAA (G a o (fun e=>h3 (.inl e)) h1) h2 h3
  ·exact⟨.refl _,⟨rfl,rfl,id⟩,H,fun a o O hw e=>.inl (G a o (fun e=>hw (.inl e)) e),fun a h1 h2=>absurd h1 h2⟩
 ·refine aZ (S.e.cell x (.inl hk)) fun c v' hc Z a0 a9 hh=>?_;refine wpAny_storeName_cell S.e.fn (S.e.kc x hk) hc a9 fun h' ag V=>?_;have G:∀a o,a≠c→s.heap.get? a=some o→h'.get? a=some o:=fun a o O e=>(V.2 a O).trans e
  have H:∀a,(s.heap.get? a).isSome=true→(h'.get? a).isSome=true:=fun a O=>by
   by_cases e:a=c
   ·refine xEA ag fun o ho J=>?_;refine(ir e)▸(ir ho)▸?_;rfl
   ·refine(ir (V.2 a e))▸?_;exact O
  refine h _ ⟨⟨S.h.len,S.h.nodup,fun a O=>H a (S.h.live a O),fun i o2 e=>?_,S.h.tab⟩,⟨S.e.fn,S.e.kl,S.e.kc,S.e.kf,S.e.kg,?_,?_,S.e.apart,S.e.out,fun y c hc=>H c (S.e.clive y c hc)⟩,S.gl,S.bu,?_⟩ ?_
  ·refine aE (S.h.obj i o2 e) fun a o O ho r=>?_;exact bp a o O (G a o (fun e=>a0 (e▸C6 O)) ho) r
  ·refine xEA S.e.ns fun m hn hm=>?_;refine yEA m (hn.sameBut V (EL Z)) (fun y w hy hl=>hm y w hy ?_);rw[show(st.with (up x v st.loc)).loc=up x v st.loc from rfl,eX]at hl;have:y≠x:=by rintro rfl;rw[hk]at hy;injection hy with hy;contradiction
   rwa [if_neg this]at hl
  ·intro y hy;by_cases e:y=x
   ·clear hh hk h hv;subst e;refine bi c (some u) hc Z a0 ag (fun w hl=>?_);rw[show(st.with (up y v st.loc)).loc=up y v st.loc from rfl,eX,if_pos rfl]at hl;injection hl with hl;subst hl;exact yEA u rfl hu
   ·refine aZ (S.e.cell y hy) fun c' w' al b1 b2 b3 b4=>?_;obtain b5:c'≠c:=fun q=>e (Li S.e.apart (ko al) (q▸ko hc));refine bi c' w' al b1 b2 (b3.sameBut V b5) (fun w hl=>b4 w ?_);rwa [show(st.with (up x v st.loc)).loc=up x v st.loc from rfl,eX,if_neg e]at hl
  ·intro a o e;refine xAA (S.fix a o e) fun h1 h2 h3=>?_;exact yAA (G a o (fun e=>h3 (.inr ⟨x,e▸hc⟩)) h1) h2 h3
  ·exact⟨.refl _,⟨rfl,rfl,id⟩,H,fun a o O hw e=>.inl (G a o (fun e=>hw (.inr (e▸hc))) e),fun a h1 h2=>absurd h1 h2⟩
end
end
noncomputable def Room (n:Nat) (A:Dq):Prop:=A.handled=none∧A.depth+n+20<Ed∧A.units+8*n+60<cLine
theorem Room.le {n A}(h:Room (n+1) A):Room n A:=⟨h.1,by have:=h.2.1;exact o70 this,by have:=h.2.2;lia -abstractProof⟩
noncomputable def Rm (n:Nat) (A:Dq) (s:Shared):Prop:=Room n A∧0<s.toks
theorem Rm.at {n A s s'}(h:Rm n A s)(p:0<s'.toks):Rm n A s':=⟨h.1,p⟩
theorem ay {α:Type}{M:Model}{A:Dq}{s:Shared}{n:Nat}{t:Sem α}{Q:α→Shared→Prop}{E:Value→Shared→Prop}(R:Rm n A s)
  (h:wpAny M A t (fun a s'=>Rm n A s'→Q a s') (fun e s'=>0<s'.toks→E e s') s):wpAny M A t Q E s:=
 J9 (n:=1) R.2 (Dn h (fun J J q p=>q ⟨R.1,p⟩) fun J J q p=>q p)
section
variable (θ:Th)(B:Fix)(sc:Scope)(env:Env)(ρ:Rho)(st:St)(s:Shared)
noncomputable def PostV (v:V2) (st':St) (Q:Value→Shared→Prop):Prop:=
 ∀u ρ' s',SRel θ B sc env ρ' st' s'→Kp NoW ρ s ρ' s'→st'.loc=st.loc→VRel θ ρ' v u→Q u s'
theorem PostV.ok {θ B sc env ρ st s}{v:V2}{G:St}{r:V2}{st':St}{Q:Value→Shared→Prop}(k:PostV θ B sc env ρ st s r st' Q)(e:Rv.ok v G=.ok r st'):PostV θ B sc env ρ st s v G Q:=by
 injection e with e1 e2;subst e1;subst e2;exact k
noncomputable def PostL (G:List V2) (st':St) (Q:List Value→Shared→Prop):Prop:=
 ∀us ρ' s',SRel θ B sc env ρ' st' s'→Kp NoW ρ s ρ' s'→st'.loc=st.loc→All2 (VRel θ ρ') G us→Q us s'
theorem PostL.ok {θ B sc env ρ st s}{v:List V2}{G:St}{r:List V2}{st':St}{Q:List Value→Shared→Prop}(k:PostL θ B sc env ρ st s r st' Q)(e:Rs.ok v G=.ok r st'):PostL θ B sc env ρ st s v G Q:=by
 injection e with e1 e2;subst e1;subst e2;exact k
noncomputable def PostB (b:Bool) (st':St) (Q:Bool→Shared→Prop):Prop:=
 ∀ρ' s',SRel θ B sc env ρ' st' s'→Kp NoW ρ s ρ' s'→st'.loc=st.loc→Q b s'
end
section
variable (prog:C9)(w:World)(θ:Th)(B:Fix)(n:Nat)
noncomputable def EvOk (sc:Scope) (e:Expr) (c:Cl):Prop:=
 ∀A E Q env ρ st s v st',Rm n A s→SRel θ B sc env ρ st s→c.run st=.ok v st'→PostV θ B sc env ρ st s v st' Q→wpAny (model prog w) A (eval e env) Q E s
noncomputable def TrOk (sc:Scope) (e:Expr) (c:Tc):Prop:=
 ∀A E Q env ρ st s b st',Rm n A s→SRel θ B sc env ρ st s→c.run st=.ok b st'→PostB θ B sc env ρ st s b st' Q→wpAny (model prog w) A (isTrue e env (eval e env)) Q E s
noncomputable def fG (op:Value→Value→Sem Value) (k:Bo):Prop:=
 ∀A E Q sc env ρ st s a b u v r st',Room n A→SRel θ B sc env ρ st s→VRel θ ρ a u→VRel θ ρ b v→k.run a b st=.ok r st'→PostV θ B sc env ρ st s r st' Q→wpAny (model prog w) A (op u v) Q E s
end
section
variable {prog:C9}{w:World}{θ:Th}{B:Fix}{n:Nat}{sc:Scope}
theorem PostV.after {env ρ st s G H s₁ v st' Q}(h:PostV θ B sc env ρ st s v st' Q)(k:Kp NoW ρ s G s₁)(l:H.loc=st.loc):PostV θ B sc env G H s₁ v st' Q:=
 fun u ρ' s' S K L r=>h u ρ' s' S (k.trans K) (L.trans l) r
theorem PostB.after {env ρ st s G H s₁ v st' Q}(h:PostB θ B sc env ρ st s v st' Q)(k:Kp NoW ρ s G s₁)(l:H.loc=st.loc):PostB θ B sc env G H s₁ v st' Q:=
 fun ρ' s' S K L=>h ρ' s' S (k.trans K) (L.trans l)
theorem PostV.now {env ρ st s v Q}(h:PostV θ B sc env ρ st s v st Q)(S:SRel θ B sc env ρ st s){u:Value}(t:Nat)(r:VRel θ ρ v u):Q u { s with toks:=t }:=
 h u ρ _ (S.tok t) (Kp.toks NoW ρ s t) rfl r
theorem PostV.now' {env ρ st s v Q}(h:PostV θ B sc env ρ st s v st Q)(S:SRel θ B sc env ρ st s){u:Value}(r:VRel θ ρ v u):Q u s:=
 h u ρ _ S (Kp.refl NoW ρ s) rfl r
theorem PostV.new {env ρ st s v st' Q}(h:PostV θ B sc env ρ st s v st' Q)(S:SRel θ B sc env ρ st s){o2:O2}{o:Obj}(e:st.alloc o2=.ok v st')(G:ORel θ ρ o2 o):
  Q (.ref s.heap.objs.size) { s with heap:=s.heap.push o }:=by
 refine cL (S.alloc e G s.toks) fun a b c d=>?_;exact h _ _ _ a b c d
theorem fH {ea eb:Expr}{a b:Cl}{k:Bo}{op:Value→Value→Sem Value}(ha:EvOk prog w θ B n sc ea a)(hb:EvOk prog w θ B n sc eb b)(hk:fG prog w θ B n op k)
  {A E Q env ρ st s v st'}(R:Rm n A s)(S:SRel θ B sc env ρ st s)(e:(d0 a b k).run st=.ok v st')(h:PostV θ B sc env ρ st s v st' Q):
  wpAny (model prog w) A (eval ea env) (fun x s₁=>wpAny (model prog w) A (eval eb env) (fun y s₂=>wpAny (model prog w) A (op x y) Q E s₂) E s₁) E s:=by
 apply eV e;clear e;intro u a8 h1 e;apply eV e;clear e;intro v a9 h2 e;refine ay R (ha _ _ _ _ _ _ _ _ _ R S h1 fun x ag s₁ G K₁ H J O=>?_);refine hb _ _ _ _ _ _ _ _ _ O G h2 fun y al s₂ V K₂ Z a0=>?_;exact hk _ _ _ _ _ _ _ _ _ _ _ _ _ _ R.1 V (J.ext K₂.ext) a0 e (h.after (K₁.trans K₂) (Z.trans H))
theorem iU {c:Const}{kd:Nat}{pos:Pos}:EvOk prog w θ B n sc (.Constant c kd pos) (lw c):=by
 intro A E Q env ρ st s v st' R S e h
 cases c with
 |none=>obtain h:=h.ok e;clear e;exact nb (h.now' S rfl)
 |bool b=>obtain h:=h.ok e;clear e;exact nb (h.now' S rfl)
 |int i=>obtain h:=h.ok e;clear e;exact Dj (h.now S _ ⟨_,rfl⟩)
 |str x=>
  obtain h:=h.ok e;clear e;refine Ds (h.now S _ ⟨s.toks,?_⟩)
  have:θ.str (I6 At.c x.cps.toList)=x:=by
   have e:θ.flat (I6 At.c x.cps.toList)=x.cps.toList:=by
    induction x.cps.toList with
    |nil=>rfl
    |cons a l G=>simpa [Th.at1] using G
   unfold Th.str;rw[e]
  rw[this]
 |bytes x=>
  obtain h:=h.ok e;clear e
  have:θ.byt (I6 (fun b:UInt8=>At.c b.toNat) x)=x.toArray:=by
   obtain e:θ.flatB (I6 (fun b:UInt8=>At.c b.toNat) x)=x:=by
    clear h
    induction x with
    |nil=>rfl
    |cons a l G=>simpa [Th.atB] using G
   unfold Th.byt;rw[e]
  obtain hq:Q (.bytes x.toArray s.toks) { s with toks:=s.toks+1 }:=h.now S _ ⟨_,by rw[this]⟩;exact fun J J J=>hq
 |_=>contradiction
theorem ga {x:Str}{pos:Pos}:EvOk prog w θ B n sc (.Name x pos) (iH sc x):=by
 intro A E Q env ρ st s v st' R S e h;apply u6 e;clear e;intro G e;apply zm e;clear e;intro u hl e;obtain h:=h.ok e;clear e;exact vq S G hl fun u r=>h.now' S r
theorem mY {G H:Expr}{op:Iv}{pos:Pos}{a b:Cl}{k:Bo}(O:EvOk prog w θ B n sc G a)(hb:EvOk prog w θ B n sc H b)(V:fG prog w θ B n (HY op) k):
  EvOk prog w θ B n sc (.BinOp G op H pos) (d0 a b k):=
 fun J J J J J J J J J R S e h=>EO (fH O hb V R S e h)
theorem Ak {H G:Expr}{op:CmpOp}{pos:Pos}{a b:Cl}{k:Bo}(O:EvOk prog w θ B n sc H a)(hb:EvOk prog w θ B n sc G b)(V:fG prog w θ B n (HN op) k)
  (Z:GY op G=false):EvOk prog w θ B n sc (.Compare H [op] [G] pos) (d0 a b k):=
 fun J J J J J J J J J R S e h=>wpAny_Compare1 (fH O hb V R S e h) Z
theorem vr {ea:Expr}{pos:Pos}{a:Cl}(ha:EvOk prog w θ B n sc ea a):EvOk prog w θ B n sc (.UnaryOp .USub ea pos) (y7 a):=by
 intro A E Q env ρ st s v st' R S e h;apply eV e;clear e;intro u Z h1 e;refine wpAny_UnaryOp (ha _ _ _ _ _ _ _ _ _ R S h1 fun x a0 s₁ J O V G=>?_)
 cases u with
 |int c x=>
  cases x with
  |succ x=>contradiction
  |zero=>
   apply zm e;clear e;intro u H e;apply az H;clear H;intro hs H;injection H with H;subst H;obtain h:=h.ok e;clear e;refine xE G fun t a8=>?_;clear G;subst a8;exact P.neg_int ((h.after O V).now J _ ⟨_,rfl⟩)
 |_=>contradiction
theorem vt {et ea eb:Expr}{pos:Pos}{t:Tc}{a b:Cl}(ht:TrOk prog w θ B n sc et t)(ha:EvOk prog w θ B n sc ea a)(hb:EvOk prog w θ B n sc eb b):
  EvOk prog w θ B n sc (.IfExp et ea eb pos) (y8 t a b):=by
 intro A E Q env ρ st s v st' R S e h;apply Ab e;clear e;intro c V h1 e;refine il (ay R (ht A _ _ env ρ st s c V R S h1 fun Z s₁ G H J O=>?_))
 cases c with
 |true=>exact ha _ _ _ _ _ _ _ _ _ O G e (h.after H J)
 |false=>exact hb _ _ _ _ _ _ _ _ _ O G e (h.after H J)
noncomputable def bl (e:Expr):Prop:=∀x p,e≠.Starred x p
noncomputable def aU (e:Expr):Bool:=match e with
 |.Starred _ _=>true
 |_=>false
theorem nsB {e:Expr}(h:aU e=false):bl e:=fun _ _ q=>Bool.noConfusion ((congrArg aU q).symm.trans h)
theorem jT {e:Expr}{r:List Expr}{env:Env}(h:bl e):D6 (e::r) env=(false,eval e env)::D6 r env:=by
 cases e with
 |Starred x p=>exact absurd rfl (h x p)
 |_=>rfl
theorem aF {pos:Pos}{e:Expr}{r:List Expr}{env:Env}(h:bl e):EN pos (D6 (e::r) env)=(false,eval e env)::EN pos (D6 r env):=by
 rw[jT h];rfl
theorem lK {ev:Expr→Cl}(h:∀e,EvOk prog w θ B n sc e (ev e))(hs:∀e st v st',(ev e).run st=.ok v st'→bl e){pos:Pos}:
  ∀(es:List Expr) {A E Q env ρ st s vs st'},Rm n A s→SRel θ B sc env ρ st s→(evs ev es).run st=.ok vs st'→PostL θ B sc env ρ st s vs st' Q→
   wpAny (model prog w) A (Ke (EN pos (D6 es env))) Q E s
 |[],A,E,Q,env,ρ,st,s,vs,st',R,S,e,k=>by
  obtain k:=k.ok e;clear e;exact Dp (k _ _ _ S (Kp.refl _ _ _) rfl .nil)
 |x::r,A,E,Q,env,ρ,st,s,vs,st',R,S,e,k=>by
  apply lC e;clear e;intro u a8 h1 e;apply pu e;clear e;intro us a9 h2 e;obtain k:=k.ok e;clear e;refine(ir (aF (hs _ _ _ _ h1)))▸?_;refine C8 (ay R (h x _ _ _ _ _ _ _ _ _ R S h1 fun a ag s₁ G K₁ H J O=>?_));refine lK h hs r O G h2 fun as al s₂ V K₂ Z a0=>?_;exact k _ _ _ V (K₁.trans K₂) (Z.trans H) (.cons (J.ext K₂.ext) a0)
theorem bK {ev:Expr→Cl}(hs:∀e st v st',(ev e).run st=.ok v st'→bl e):∀{es:List Expr} {st J st'},(evs ev es).run st=.ok J st'→∀e∈es,bl e
 |[],_,_,_,_,_,he=>by cases he
 |x::r,st,J,st',e,y,hy=>by
  apply lC e;clear e;intro u G h1 e;refine cRs ((evs ev r).run G) (fun h2=>?_) fun us H h2=>?_
  ·rw[h2]at e;contradiction
  ·rcases Da.mp hy with rfl|hy
   ·exact hs _ _ _ _ h1
   ·exact bK hs h2 y hy
theorem eu {xs:List V2}(h:E7 xs.length 1000=true):xs.length≤Eu:=by
 have:=DG h;refine(ir Di)▸?_;lia -abstractProof
theorem sM {ev:Expr→Cl}(h:∀e,EvOk prog w θ B n sc e (ev e))(hs:∀e st v st',(ev e).run st=.ok v st'→bl e){es:List Expr}{pos:Pos}:
  EvOk prog w θ B n sc (.List es pos) (cZ (evs ev es) ⟨uQ⟩):=by
 intro A E Q env ρ st s v st' R S e k;apply gG e;clear e;intro vs V h1 e;refine il (Ek (il (lK h hs es R S h1 fun us Z s₁ H J O G=>?_)));obtain hl:=(bF e).2.1;exact EK ((k.after J O).new H e ⟨us.toArray,0,rfl,by simpa using G⟩) (by refine G.length▸?_;exact eu hl)
theorem vu {ev:Expr→Cl}(h:∀e,EvOk prog w θ B n sc e (ev e))(hs:∀e st v st',(ev e).run st=.ok v st'→bl e){es:List Expr}{kd}{pos:Pos}:
  EvOk prog w θ B n sc (.Tuple es kd pos) (cZ (evs ev es) ⟨y9⟩):=by
 intro A E Q env ρ st s v st' R S e k;apply gG e;clear e;intro vs V h1 e;refine il (Ek (il (lK h hs es R S h1 fun us Z s₁ H J O G=>?_)));obtain hl:=(bF e).2.1;exact Ga ((k.after J O).new H e ⟨us.toArray,0,rfl,by simpa using G⟩) (by refine G.length▸?_;exact eu hl)
theorem sN {G H}{pos:Pos}:EvOk prog w θ B n sc (.Dict G H pos) (uR G H):=by
 intro A E Q env ρ st s v st' R S e k
 cases G with
 |cons _ _=>contradiction
 |nil=>cases H with
  |cons _ _=>contradiction
  |nil=>
   rw[eval_Dict_empty]
   exact il (Ek (EF (k.new S e ⟨[],by
    refine xEA (Jx.mp (IM (knd:=strKind θ.P θ.W) s.heap)) fun o J hd=>?_;rw[rh _ rfl]at J;exact(Dd J)▸hd,by decide,All2.nil⟩)))
theorem sO (z:Int):dF z 0=(z==0):=by
 cases z with
 |ofNat m=>cases m<;>rfl<;>rfl
 |negSucc m=>rfl
theorem kq {A:Dq}{E:Value→Shared→Prop}{ρ:Rho}{s:Shared}{v:V2}{u:Value}{b:Bool}(G:rz v=some b)(r:VRel θ ρ v u){Q:Bool→Shared→Prop}(q:Q b s):wpAny (model prog w) A (truthy u) Q E s:=by
 cases v with
 |bool J=>injection G with G;subst G;subst r;exact DJ q
 |int c x=>
  apply az G;clear G;intro H G;injection G with G;have H:=nd H;subst H;refine xE r fun t e=>?_;clear r;subst e;have e:(c != 0)=b:=by rw[←G,sO];rfl
  exact P.truthy_int (e▸q)
 |_=>contradiction
theorem xO {e:Expr}{c:Cl}(hc:EvOk prog w θ B n sc e c)(he:∀env whole,isTrue e env whole=(do let v ←whole;IE e.pos;Kg [v] (truthy v))):TrOk prog w θ B n sc e (lB c):=by
 intro A E Q env ρ st s b st' R S e h;rw[he];apply pw e;clear e;intro v V h1 e;refine u2 e fun hv hs=>?_;clear e;subst hs;exact il (hc _ _ _ _ _ _ _ _ _ R S h1 fun u Z s₁ G H J O=>il (Ek (Dx (kq hv O (h _ _ G H J)))))
end
end
section
open PySem PyProof.Rows
noncomputable def Th.Bd (θ:Th):Prop:=(∀k s,(θ.tx k s).length≤100)∧∀k,(θ.qb k).length≤200
theorem cn {θ:Th}(hb:θ.Bd):∀s:List At,(θ.flat s).length≤100*s.length
 |[]=>by simp
 |.c n::r=>by have:=cn hb r;simp[Th.at1];lia -abstractProof
 |.t k i::r=>by have:=cn hb r;have:=hb.1 k i;simp[Th.at1];lia -abstractProof
theorem dr {θ:Th}(hb:θ.Bd):∀s:List At,(θ.flatB s).length≤200*s.length
 |[]=>by simp
 |.c n::r=>by have:=dr hb r;simp[Th.atB];lia -abstractProof
 |.t k i::r=>by have:=dr hb r;have:=hb.2 k;simp[Th.atB];lia -abstractProof
theorem ew {θ:Th}(hb:θ.Bd){s:List At}(h:s.length≤2000):(θ.str s).length≤Eu:=by
 have:=cn hb s;rw[Di];show(θ.flat s).toArray.size≤_;simp;lia -abstractProof
theorem vw {θ:Th}(hb:θ.Bd){s:List At}(h:s.length≤2000):(θ.byt s).size≤16777216:=by
 have:=dr hb s;show(θ.flatB s).toArray.size≤_;simp;exact o79 h this
theorem cN {s:List At}{st st':St}{v:V2}(h:fv s st=.ok v st'):s.length≤2000∧v=.str s∧st'=st:=by
 unfold fv at h;refine aJ (E7 s.length 2000) (fun hb=>?_) fun hb=>?_
 ·rw[hb]at h;injection h with B G;subst B;subst G;exact⟨DG hb,rfl,rfl⟩
 ·rw[hb]at h;contradiction
theorem iV {s:List At}{st st':St}{v:V2}(h:mF s st=.ok v st'):s.length≤2000∧v=.bytes s∧st'=st:=by
 unfold mF at h;refine aJ (E7 s.length 2000) (fun hb=>?_) fun hb=>?_
 ·rw[hb]at h;injection h with B G;subst B;subst G;exact⟨DG hb,rfl,rfl⟩
 ·rw[hb]at h;contradiction
theorem Rv.of_ok {st st':St}{o:Option V2}{v:V2}(h:Rv.of st o=.ok v st'):o=some v∧st'=st:=by
 cases o with
 |none=>contradiction
 |some u=>injection h with B G;subst B;subst G;exact⟨rfl,rfl⟩
theorem dt (a b:Int):dF a b=true↔a=b:=by
 have B:∀m k:Nat,Do m k=true↔m=k:=fun m k=>⟨nd,fun e=>e▸Hx m⟩
 cases a<;>cases b
 ·rw[show dF (Eg _) (Eg _)=Do _ _ from rfl,B];exact⟨fun e=>e▸rfl,fun e=>La e⟩
 ·exact⟨fun e=>(by contradiction),fun e=>(by contradiction)⟩
 ·exact⟨fun e=>(by contradiction),fun e=>(by contradiction)⟩
 ·rw[show dF (Hj _) (Hj _)=Do _ _ from rfl,B];exact⟨fun e=>e▸rfl,fun e=>Int.negSucc.inj e⟩
theorem fe {a b:Int}(h:dF a b=false):a≠b:=fun e=>by rw[(dt a b).mpr e]at h;contradiction
noncomputable def gc (θ:Th) (R:fu):Prop:=∀k b r,R k b=some r→∃q,θ.X k=r+b*q
section
variable {prog:C9}{w:World}{θ:Th}{B:Fix}{n:Nat}
theorem cP {a:Int}(h:bZ a=true):a.natAbs<1000001:=by
 cases a with
 |ofNat m=>have:=Er.mp (show EP m 1000001=true from h);simp;lia -abstractProof
 |negSucc m=>have:=Er.mp (show EP m 1000000=true from h);simp[Int.natAbs];lia -abstractProof
theorem gN {a:Int}(h:bZ a=true):FM a≤64:=by
 obtain h1:=cP h;unfold FM
 split
 ·lia -abstractProof
 ·rename_i G;have:a.natAbs.log2<20:=(Nat.log2_lt (by simpa using G)).mpr (by lia -abstractProof);lia -abstractProof
theorem du {x y:Nat}{r:Option V2}{v:V2}(h:sq x y r=some v):x=0∧y=0∧r=some v:=by
 apply az h;clear h;intro G h;apply az h;clear h;intro H h;exact⟨nd G,nd H,h⟩
noncomputable def iW (prog:C9) (w:World) (θ:Th) (op:Iv) (f:Int→Nat→Int→Nat→Option V2):Prop:=
 ∀{A:Dq} {E Q:Value→Shared→Prop} {s:Shared} {a:Int} {x:Nat} {b:Int} {y:Nat} {t u:Tok} {v:V2},bZ a=true→bZ b=true→f a x b y=some v→
  ∃c z,v=.int c z∧(Q (.int (θ.iv c z) s.toks) { s with toks:=s.toks+1 }→wpAny (model prog w) A (HY op (.int (θ.iv a x) t) (.int (θ.iv b y) u)) Q E s)
theorem ge {op:Iv}{f:Int→Nat→Int→Nat→Option V2}(hf:iW prog w θ op f){A E Q sc env ρ st s a x b v r st'}{t:Tok}(S:SRel θ B sc env ρ st s)
  (O:VRel θ ρ b v)(e:kY ⟨f⟩ a x b st=.ok r st')(h:PostV θ B sc env ρ st s r st' Q):wpAny (model prog w) A (HY op (.int (θ.iv a x) t) v) Q E s:=by
 cases b with
 |int b y=>
  refine xE O fun u G=>?_;clear O;subst G;apply bN e;clear e;intro h1 e;apply bN e;clear e;intro h2 e;refine xA (Rv.of_ok e) fun e1 H=>?_;clear e;subst H;refine aL (hf (A:=A) (E:=E) (Q:=Q) (s:=s) (t:=t) (u:=u) h1 h2 e1) fun c z J k=>?_;subst J;exact k (h.now S _ ⟨_,rfl⟩)
 |_=>contradiction
theorem vy:iW prog w θ .Add rr:=by
 intro A E Q s a x b y t u v _ _ e;unfold rr at e;refine aJ (Do x 0) (fun G=>?_) fun G=>?_
 ·rw[G]at e;injection e with e;subst e;have:=nd G;clear G;subst this;refine dG _ _ rfl (fun k=>P.add_int ?_)
  cases y with
  |zero=>exact k
  |succ y=>
   have e:θ.iv a 0+θ.iv b (y+1)=θ.iv (a+b) (y+1):=by dsimp only[Th.iv];lia -abstractProof
   rw[e];exact k
 ·rw[G]at e;dsimp only at e;apply az e;clear e;intro H e;injection e with e;subst e;have:=nd H;clear H;subst this;refine dG _ _ rfl (fun k=>P.add_int ?_)
  cases x with
  |zero=>exact k
  |succ x=>
   obtain e:θ.iv a (x+1)+θ.iv b 0=θ.iv (a+b) (x+1):=by dsimp only[Th.iv];exact o69
   rw[e];exact k
theorem vz:iW prog w θ .Sub yS:=by
 intro A E Q s a x b y t u v _ _ e;apply az e;clear e;intro G e;injection e with e;subst e;have:=nd G;clear G;subst this;refine dG _ _ rfl (fun k=>P.sub_int ?_)
 cases x with
 |zero=>exact k
 |succ x=>
  obtain e:θ.iv a (x+1)-θ.iv b 0=θ.iv (a-b) (x+1):=by dsimp only[Th.iv];lia -abstractProof
  rw[e];exact k
theorem vA:iW prog w θ .Mult ut:=by
 intro A E Q s a x b y t u v J _ e;refine xAA (du e) fun G H O=>?_;subst G;subst H;clear e;rename _=>e;injection e with e;subst e;exact dG _ _ rfl (fun k=>P.mul_int k (IntMulOk.of_left (gN J)))
theorem vB:iW prog w θ .FloorDiv yT:=by
 intro A E Q s a x b y t u v _ hb e;refine xAA (du e) fun H J O=>?_;subst H;subst J;clear e;rename _=>e;refine aJ (dF b 0) (fun G=>?_) fun G=>?_
 ·rw[G]at e;contradiction
 ·rw[G]at e;injection e with e;subst e;exact dG _ _ rfl (fun k=>JD (fe G) k (.inl (GT (by have:=cP hb;show b.natAbs<_;lia -abstractProof))))
theorem vC {R:fu}(J:gc θ R):iW prog w θ .Mod (yU R):=by
 intro A E Q s a x b y t u v _ hb e;apply az e;clear e;intro H e;have:=nd H;clear H;subst this;refine aJ (dF b 0) (fun G=>?_) fun G=>?_
 ·rw[G]at e;contradiction
 ·rw[G]at e;dsimp only at e
  cases x with
  |zero=>injection e with e;subst e;exact dG _ _ rfl (fun k=>JB (fe G) k)
  |succ x=>
   dsimp only at e;apply aS e;clear e;intro r O e;injection e with e;subst e;refine xE (J x b r O) fun q hq=>?_;refine dG _ _ rfl (fun k=>JB (fe G) ?_)
   obtain e:(θ.iv a (x+1)).fmod (θ.iv b 0)=θ.iv ((a+r).fmod b) 0:=by
    show(a+θ.X x).fmod b=(a+r).fmod b;rw[hq,←Int.add_assoc,Int.add_mul_fmod_self_left]
   rw[e];exact k
theorem vD:iW prog w θ .Pow yV:=by
 intro A E Q s a x b y t u v O hb e;refine xAA (du e) fun G H Z=>?_;subst G;subst H;clear e;rename _=>e
 cases b with
 |negSucc m=>contradiction
 |ofNat m=>
  dsimp only at e;apply az e;clear e;intro J e;injection e with e;subst e;have V:=Er.mp J;refine dG _ _ rfl (fun k=>pow_int (Fa m) ?_ k);have h1:(FM a:Int)≤64:=by exact_mod_cast gN O
  have h2:(m:Int)<64:=by exact_mod_cast V
  have h3:(0:Int)≤(m:Int):=Fa m;show(FM a:Int)*(m:Int)≤_
  calc (FM a:Int)*(m:Int)≤64*m:=Int.mul_le_mul_of_nonneg_right h1 h3
   _≤2 ^ 27:=by lia -abstractProof
theorem vE:iW prog w θ .RShift yW:=by
 intro A E Q s a x b y t u v V hb e;refine xAA (du e) fun G H Z=>?_;subst G;subst H;clear e;rename _=>e
 cases a with
 |negSucc m=>contradiction
 |ofNat m=>
  cases b with
  |negSucc k=>contradiction
  |ofNat k=>
   dsimp only at e;apply az e;clear e;intro J e;injection e with e;subst e;refine dG _ _ rfl (fun O=>rshift_int (Fa k) ?_)
   obtain e:(θ.iv (Eg m) 0).fdiv (2 ^ (θ.iv (Eg k) 0).toNat)=θ.iv (Eg (m/2 ^ k)) 0:=by
    show(Eg m).fdiv (2 ^ (Eg k).toNat)=Eg (m/2 ^ k);have:(2:Int) ^ (Eg k).toNat=Eg (2 ^ k):=by simp
    refine(ir this)▸?_;exact(Int.ofNat_fdiv m (2 ^ k)).symm
   refine(ir e)▸?_;exact O
theorem vF:iW prog w θ .BitAnd yX:=by
 intro A E Q s a x b y t u v O hb e;refine xAA (du e) fun G H V=>?_;subst G;subst H;clear e;rename _=>e
 cases a with
 |negSucc m=>contradiction
 |ofNat m=>
  dsimp only at e;apply az e;clear e;intro h1 e;injection e with e;subst e;have:=(dt b 1).mp h1;clear h1 hb;subst this;refine dG _ _ rfl (fun J=>and_int ?_)
  have e:Lw (θ.iv (Eg m) 0) (θ.iv 1 0)=θ.iv (Eg (m%2)) 0:=by
   show Lw (Eg m) (Eg 1)=Eg (m%2);have:m&&& 1=m%2:=Nat.and_one_is_mod m;refine this▸?_;rfl
  refine(ir e)▸?_;exact J
end
section
variable {prog:C9}{w:World}{θ:Th}{B:Fix}{n:Nat}
variable {A:Dq}{E Q:Value→Shared→Prop}{s:Shared}
theorem vG {x y:Str}{t u:Tok}(G:(x++y).length≤Eu)(h:∀H k,Q (.str (x++y) H) { s with toks:=k }):
  wpAny (model prog w) A (HY .Add (.str x t) (.str y u)) Q E s:=by
 refine P.add_str ?_;obtain⟨⟨x⟩⟩:=x;obtain⟨⟨y⟩⟩:=y;by_cases h1:x=[]
 ·subst h1;have:=h u s.toks;rwa [show(⟨⟨[]⟩⟩:Str)++(⟨⟨y⟩⟩:Str)=⟨⟨y⟩⟩ from by show(⟨_++_⟩:Str)=_;simp]at this
 ·refine(ir (if_neg (by show¬((x.length==0)=true);simpa using h1)))▸?_;by_cases h2:y=[]
  ·subst h2;rw[if_pos (by rfl)];have:=h t s.toks;rwa [show(⟨⟨x⟩⟩:Str)++(⟨⟨[]⟩⟩:Str)=⟨⟨x⟩⟩ from by show(⟨_++_⟩:Str)=_;rfl]at this
  ·refine(ir (if_neg (by show¬((y.length==0)=true);simpa using h2)))▸?_;exact⟨G,h _ _⟩
theorem dH (θ:Th)(a b:List At):θ.str (a++b)=θ.str a++θ.str b:=by
 show(⟨_⟩:Str)=⟨_++_⟩
 congr 1
 simp[Th.flat_append,Th.str]
theorem iX (θ:Th)(a b:List At):θ.byt (a++b)=θ.byt a++θ.byt b:=by simp[Th.byt]
theorem SRel.list {sc env ρ st}(S:SRel θ B sc env ρ st s){i:Nat}{a:Addr}{xs:List V2}(hi:ρ[i]?=some a)(h:st.hp.get i=some (.list xs)):
  ∃items k,IsL s.heap a items k∧All2 (VRel θ ρ) xs items.toList:=by
 refine mQ (S.h.obj i _ h) fun O o G J items k H r=>?_;subst H;rw[hi]at G;injection G with G;subst G;exact dG items k J r
theorem SRel.tup {sc env ρ st}(S:SRel θ B sc env ρ st s){i:Nat}{a:Addr}{xs:List V2}(hi:ρ[i]?=some a)(h:st.hp.get i=some (.tup xs)):
  ∃items k,s.heap.get? a=some { cls:=.type "tuple",dict:=none,data:=.seq items k,slots:= #[] }∧All2 (VRel θ ρ) xs items.toList:=by
 refine mQ (S.h.obj i _ h) fun O o G J items k H r=>?_;subst H;rw[hi]at G;injection G with G;subst G;exact dG items k J r
theorem sQ (hb:θ.Bd):fG prog w θ B n (HY .Add) ⟨uw⟩:=by
 intro A E Q sc env ρ st s a b u v r st' R S G H e h
 cases a with
 |int a x=>refine xE G fun t a9=>?_;subst a9;exact ge vy S H e h
 |str a=>
  refine xE G fun t ag=>?_;clear G;subst ag
  cases b with
  |str b=>
   refine xE H fun t' al=>?_;clear H;subst al;refine xAA (cN e) fun hl b1 b2=>?_;subst b1;subst b2;have hf:=ew hb hl;rw[dH]at hf;exact vG hf fun t k=>h.now S k ⟨t,by rw[dH]⟩
  |_=>contradiction
 |bytes a=>
  refine xE G fun t J=>?_;clear G;subst J
  cases b with
  |bytes b=>
   refine xE H fun t' O=>?_;clear H;subst O;refine xAA (iV e) fun hl V Z=>?_;subst V;subst Z;have hf:=vw hb hl;rw[iX,Lg]at hf;exact W.KBy.add_bytes hf fun t k=>h.now S k ⟨t,by rw[iX]⟩
  |_=>contradiction
 |ref i=>
  refine xEA G fun a hi a0=>?_;clear G;subst a0
  cases b with
  |ref j=>
   refine xEA H fun b hj a8=>?_;clear H;subst a8;apply bU e;clear e;intro xs h1 e;apply bU e;clear e;intro ys h2 e;refine aL (S.list hi h1) fun ix kx hx rx=>?_;refine aL (S.list hj h2) fun iy ky hy ry=>?_;obtain hs:=eu (bF e).2.1;refine P.add_list hx hy (h.new S e ⟨ix++iy,0,rfl,by simpa using rx.append ry⟩) ?_;obtain h3:=rx.length;obtain h4:=ry.length;simp only[D2]at hs;dsimp only[Eb]at h3 h4;lia -abstractProof
  |_=>contradiction
 |_=>contradiction
theorem iY {α:Type}(b:Array α):∀(k:Nat) (acc:Array α),(Gx k b).foldl (·++·) acc=acc++(cu b.toList k).toArray
 |0,acc=>by simp[cu]
 |k+1,acc=>by
  rw[KP,Hn,iY b k];apply ES.mp;simp[cu]
theorem iZ {α β:Type}(f:α→List β)(a:List α):∀k,(cu a k).flatMap f=cu (a.flatMap f) k
 |0=>rfl
 |k+1=>by simp[cu,iZ f a k]
theorem ez {α:Type}(a:List α):∀k,cu a k=(Gx k a).flatten
 |0=>rfl
 |k+1=>by rw[cu,ez a k,KP,List.flatten_cons]
theorem i0 {α:Type}(a:List α):∀k,(cu a k).length=k*a.length
 |0=>by simp[cu]
 |k+1=>by rw[cu,D2,i0 a k,Nat.succ_mul,Hy]
theorem All2.rep {α β:Type}{R:α→β→Prop}{x:List α}{y:List β}(h:All2 R x y):∀k,All2 R (cu x k) (cu y k)
 |0=>All2.nil
 |k+1=>h.append (All2.rep h k)
theorem pH {b:V2}{k:Nat}(h:cnt b=some k):b=.int (.ofNat k) 0∧k<100:=by
 cases b with
 |int c x=>
  unfold cnt at h;dsimp only at h;apply az h;clear h;intro G h;have:=nd G;clear G;subst this
  cases c with
  |negSucc m=>contradiction
  |ofNat m=>
   dsimp only at h;apply az h;clear h;intro H h;injection h with h;subst h;exact⟨rfl,Er.mp H⟩
 |_=>contradiction
theorem sR {l:Addr}{items:Array Value}{k:Nat}{x:Int}{u:Tok}
  (hl:s.heap.get? l=some { cls:=.type "list",dict:=none,data:=.seq items k,slots:= #[] })
  (G: -(2 ^ 63:Int)≤x)(H:x<2 ^ 63)(J:items.size*x.toNat≤2 ^ 24)
  (h:Q (.ref s.heap.objs.size) { s with heap:=s.heap.push { cls:=.type "list",data:=.seq (K2 (fun x1 x2=>x1++x2) #[] (Gx (if items.isEmpty=true then 0 else x.toNat) items)) } }):
  wpAny (model prog w) A (HY .Mult (.ref l) (.int x u)) Q E s:=
 wpAny_binaryOp_repeat_ref (T:="list") (U:="int") (by decide) ⟨_,hl,rfl⟩ (fun s'=>typeIs_int s' x u) noFill_list_mul F.fills_int_mul F.slot_int_rmul repeat_list F.slot_int_index.lookup
  (F0 F.slot_int_rmul (typeIs_int s x u) F.entry_int_rmul (F.args_int_rmul_2 _ _) (int___rmul___int_list x u l items k)
   ⟨hl,rfl,⟨_,hl,rfl⟩,F0 F.slot_list_mul ⟨_,hl,rfl⟩ F.entry_list_mul (F.args_list_mul_2 _ _)
    (AutoListH.list___mul___list_int_3 l items k x u (by simp[IP];lia -abstractProof) (by lia -abstractProof) (by simp[Builtin.List.listTooLong,Eu];trivial))
    ⟨hl,h⟩⟩)
theorem sS:fG prog w θ B n (HY .Mult) ⟨uA⟩:=by
 intro A E Q sc env ρ st s a b u v r st' R S O V e h
 cases a with
 |int a x=>refine xE O fun t be=>?_;subst be;exact ge vA S V e h
 |str a=>
  refine xE O fun t Z=>?_;clear O;subst Z;apply ax e;clear e;intro k hc e;refine xA (pH hc) fun a0 hk=>?_;clear hc;subst a0;refine xE V fun u a8=>?_;clear V;subst a8
  cases a with
  |nil=>contradiction
  |cons a r'=>cases r' with
   |cons _ _=>cases a<;>contradiction
   |nil=>cases a with
    |t _ _=>contradiction
    |c c=>
     dsimp only at e;refine xAA (cN e) fun hl a9 ag=>?_;subst a9;subst ag;have hz:θ.iv (Eg k) 0=(k:Int):=rfl;refine(ir hz)▸?_;have G:θ.str [At.c c]=⟨#[c]⟩:=rfl;refine(ir G)▸?_;refine P.mul_str ?_ ?_ ?_ ?_
     ·simp only[KC,decide_eq_false_iff_not];lia -abstractProof
     ·intro h1 _ h2;have:((⟨#[c]⟩:Str).length:Int)=1:=rfl;rw[this]at h2
      have h3:(1:Int)≤(2 ^ 63-1)/(k:Int):=by
       rw[Int.le_ediv_iff_mul_le (by lia -abstractProof)];lia -abstractProof
      lia -abstractProof
     ·intro _ _;show decide ((⟨#[c]⟩:Str).length*(k:Int).toNat>Eu)=false;have:(⟨#[c]⟩:Str).length=1:=rfl;refine(ir this)▸(ir Di)▸?_;simp;lia -abstractProof
     ·have e0:θ.str (cu [At.c c] k)=⟨(cu [c] k).toArray⟩:=by
       unfold Th.str Th.flat
       rw[iZ];rfl
      by_cases h1:(k:Int)<1
      ·refine(ir (if_pos h1))▸?_;have:k=0:=by lia -abstractProof
       subst this;exact⟨by decide,h.now S _ ⟨_,rfl⟩⟩
      ·refine(ir (if_neg h1))▸?_;by_cases h2:((k:Int)==1||(⟨#[c]⟩:Str).length==0)=true
       ·refine(ir (if_pos h2))▸?_
        have:k=1:=by
         obtain h3:((⟨#[c]⟩:Str).length==0)=false:=rfl;rw[h3,Bool.or_false]at h2;have:=beq_iff_eq.mp h2;exact CE hz this
        subst this;exact h.now' S ⟨t,by refine(ir e0)▸?_;rfl⟩
       ·refine(ir (if_neg h2))▸?_
        obtain e1:(⟨(Gx (k:Int).toNat (#[c]:Array Nat)).foldl (·++·) #[]⟩:Str)=θ.str (cu [At.c c] k):=by
         rw[e0,EC,iY];simp
        show(Made.str (⟨(Gx (k:Int).toNat (#[c]:Array Nat)).foldl (·++·) #[]⟩:Str)).post Q s;refine(ir e1)▸?_;refine⟨?_,h.now S _ ⟨_,rfl⟩⟩;refine(ir e0)▸(ir Di)▸?_;show(cu [c] k).toArray.size≤_;simp[i0];lia -abstractProof
 |bytes a=>
  refine xE O fun t al=>?_;clear O;subst al;apply ax e;clear e;intro k hc e;refine xA (pH hc) fun b1 hk=>?_;clear hc;subst b1;refine xE V fun u b2=>?_;clear V;subst b2
  cases a with
  |nil=>contradiction
  |cons a r'=>cases r' with
   |cons _ _=>cases a<;>contradiction
   |nil=>cases a with
    |t _ _=>contradiction
    |c c=>
     dsimp only at e;refine xAA (iV e) fun hl b3 b4=>?_;subst b3;subst b4;have hz:θ.iv (Eg k) 0=(k:Int):=rfl;refine(ir hz)▸?_;obtain G:θ.byt [At.c c]=[Kq c].toArray:=rfl;refine(ir G)▸?_;refine W.bytes_mul_any (by simp) (by lia -abstractProof) (by lia -abstractProof) (by exact DT _) fun t' q=>h.now S q ⟨t',?_⟩
     obtain e0:θ.byt (cu [At.c c] k)=(cu [Kq c] k).toArray:=by
      unfold Th.byt Th.flatB;rw[iZ];rfl
     rw[e0,ez,EC]
 |ref i=>
  refine xEA O fun a hi b5=>?_;clear O;subst b5;apply ax e;clear e;intro k hc e;refine xA (pH hc) fun b6 hk=>?_;clear hc;subst b6;refine xE V fun u b7=>?_;clear V;subst b7;apply bU e;clear e;intro xs h1 e;refine aL (S.list hi h1) fun items q hx rx=>?_;obtain hs:=DG (bF e).2.1;have H:=rx.length;dsimp only[Eb]at H;obtain hz:θ.iv (Eg k) 0=(k:Int):=rfl;refine(ir hz)▸?_;rw[i0,H]at hs
  obtain J:K2 (fun x1 x2=>x1++x2) #[] (Gx (if items.isEmpty=true then 0 else (k:Int).toNat) items)=(cu items.toList k).toArray:=by
   by_cases he:items.isEmpty=true
   ·refine(ir (if_pos he))▸?_;have:items= #[]:=Array.isEmpty_iff.mp he;clear he H hs rx hx;subst this
    have:∀k,cu ([]:List Value) k=[]:=fun k=>by induction k with
     |zero=>rfl
     |succ k ih=>trivial
    simp[this]
   ·rw[if_neg he,EC];have:=iY items k #[];simpa using this
  refine sR hx (by lia -abstractProof) (by lia -abstractProof) (by rw[EC,Nat.mul_comm];lia -abstractProof) ?_
  have:=h.new S e (o:={ cls:=.type "list",data:=.seq (K2 (fun x1 x2=>x1++x2) #[] (Gx (if items.isEmpty=true then 0 else (k:Int).toNat) items)) }) ⟨_,0,rfl,by
   refine(ir J)▸?_;simpa using rx.rep k⟩
  exact this
 |_=>contradiction
theorem bv {op:Iv}{f}(hf:iW prog w θ op f):fG prog w θ B n (HY op) ⟨mG ⟨f⟩⟩:=by
 intro A E Q sc env ρ st s a b u v r st' R S H J e h
 cases a with
 |int a x=>refine xE H fun t G=>?_;clear H;subst G;exact ge hf S J e h
 |_=>contradiction
theorem sT {op:Iv}:iW prog w θ op (fun J J J J=>none):=fun J J e=>by contradiction
theorem mZ (hb:θ.Bd){R:fu}(G:gc θ R)(op:Iv):fG prog w θ B n (HY op) (uB R op):=by
 cases op with
 |Add=>exact sQ hb
 |Mult=>exact sS
 |Sub=>exact bv vz
 |FloorDiv=>exact bv vB
 |Mod=>exact bv (vC G)
 |Pow=>exact bv vD
 |RShift=>exact bv vE
 |BitAnd=>exact bv vF
 |_=>exact bv sT
end
end
section
open PySem PyProof.Rows PySem.SeqAt
structure Th.Ok (θ:Th):Prop where
 bd:θ.Bd
 no62:∀k,62∉θ.tx k 1
 no13:∀k,13∉θ.tx k 1
 no60:∀k,60∉θ.tx k 1
 rp:∀k i p,o0[i]?=some p→EM ⟨(θ.tx k (i+1)).toArray⟩ ⟨p.1.toArray⟩ ⟨p.2.toArray⟩=⟨(θ.tx k ((i+2)%5)).toArray⟩
theorem gO {θ:Th}:∀{a b:List At},aP a=true→aP b=true→θ.flat a=θ.flat b→a=b
 |[],[],_,_,_=>rfl
 |[],.c _::_,_,_,h=>by simp[Th.at1]at h
 |.c _::_,[],_,_,h=>by simp[Th.at1]at h
 |.c x::a,.c y::b,B,hb,h=>by
  simp[Th.at1]at h;rw[h.1,gO (show aP a=true from B) (show aP b=true from hb) h.2]
 |.t _ _::_,_,B,_,_=>by contradiction
 |_,.t _ _::_,_,hb,_=>by contradiction
theorem vH {a b:At}(h:atE a b=true):a=b:=by
 cases a with
 |c x=>cases b with
  |c y=>exact congrArg At.c (nd h)
  |t _ _=>contradiction
 |t k r=>cases b with
  |c y=>contradiction
  |t G r'=>
   apply aT h;clear h;intro B h;rw[nd B,nd h]
theorem rX:∀{a b:List At},sE a b=true→a=b
 |[],[],_=>rfl
 |[],_::_,h=>by contradiction
 |_::_,[],h=>by contradiction
 |x::a,y::b,h=>by
  apply aT h;clear h;intro B h;rw[vH B,rX h]
theorem rY:∀a:List At,sE a a=true
 |[]=>rfl
 |x::a=>by
  have e:atE x x=true:=by
   cases x with
   |c n=>exact Hx n
   |t k r=>show and (Do k k) (Do r r)=true;rw[Hx,Hx];rfl
  show and (atE x x) (sE a a)=true;refine(ir e)▸?_;exact rY a
theorem im {θ:Th}{a b:List At}{r:Bool}(h:ur a b=some r):(θ.str a==θ.str b)=r:=by
 refine c8 h (fun hs h=>?_) fun hs h=>?_
 ·injection h with h;subst h;rw[rX hs];simp
 ·refine az h fun B h=>az h fun hb h=>?_;injection h with h;subst h;refine beq_eq_false_iff_ne.mpr fun e=>?_
  have:θ.flat a=θ.flat b:=by
   have:=congrArg (fun s:Str=>s.cps.toList) e;simpa [Th.str] using this
  have:=gO B hb this;subst this;rw[rY]at hs;contradiction
theorem sU (a b:Int):mH a b=decide (a<b):=by
 cases a with
 |ofNat m=>cases b with
  |ofNat k=>
   show EP m k=_;rw[Iq,Er,decide_eq_true_iff];exact Jj.symm
  |negSucc k=>symm;rw[show mH (Eg m) (Hj k)=false from rfl,decide_eq_false_iff_not];have:=Lb k;have:(0:Int)≤Eg m:=Fa m;lia -abstractProof
 |negSucc m=>cases b with
  |ofNat k=>symm;rw[show mH (Hj m) (Eg k)=true from rfl,decide_eq_true_iff];have:=Lb m;have:(0:Int)≤Eg k:=Fa k;lia -abstractProof
  |negSucc k=>
   show EP k m=_;rw[Iq,Er,decide_eq_true_iff];lia -abstractProof
theorem lL {θ:Th}(ok:θ.Ok)(c:Nat):∀{s:List At} {r:Bool},xq c s=some r→decide (c∈θ.flat s)=r
 |[],r,h=>by cases h;simp
 |.c n::s,r,h=>by
  refine c8 h (fun hn h=>?_) fun hn h=>?_
  ·injection h with h;subst h;simp[Th.at1,nd hn]
  ·obtain B:=b8 hn;have:=lL ok c (s:=s) h;refine this▸?_;simp[Th.at1,EL B]
 |.t k i::s,r,h=>by
  refine az h fun hi h=>az h fun hc hs=>?_;have:=nd hi;clear hi;subst this
  have hc:c∉θ.tx k 1:=by
   rcases (Ip _ _).mp hc with hc|h3
   ·rcases (Ip _ _).mp hc with h1|h2
    ·refine(ir (nd h1))▸?_;exact ok.no62 k
    ·refine(ir (nd h2))▸?_;exact ok.no13 k
   ·refine(ir (nd h3))▸?_;exact ok.no60 k
  refine(lL ok c hs)▸?_;simp[Th.at1,hc]
section
variable {prog:C9}{w:World}{θ:Th}{B:Fix}{n:Nat}
theorem vJ (a b:Int)(x:Nat):(θ.iv a x==θ.iv b x)=dF a b:=by
 have:(θ.iv a x=θ.iv b x)↔a=b:=by
  cases x with
  |zero=>exact Iff.rfl
  |succ x=>dsimp only[Th.iv];lia -abstractProof
 rw[Iq,beq_iff_eq,this,dt]
theorem vK {ρ:Rho}{A:Dq}{s:Shared}{f:V2→V2→Option Bool}(H:∀x y u v,f x y=some true→VRel θ ρ x u→VRel θ ρ y v→EqAt A s u v true):
  ∀(xs ys:List V2) (us G:List Value),eqL f xs ys=some true→All2 (VRel θ ρ) xs us→All2 (VRel θ ρ) ys G→us.length=G.length∧∀j (h1:j<us.length) (h2:j<G.length),EqAt A s us[j] G[j] true:=by
 intro xs
 induction xs with
 |nil=>
  intro ys us G e J O;cases J
  cases ys with
  |nil=>cases O;exact⟨rfl,fun j h1=>absurd h1 (JH _)⟩
  |cons _ _=>injection e with e;contradiction
 |cons x xs Z=>
  intro ys us G e J O
  cases ys with
  |nil=>injection e with e;contradiction
  |cons y ys=>
   cases J with
   |cons p1 q1=>
    cases O with
    |cons p2 q2=>
     apply aS e;clear e;intro b' V e
     cases b' with
     |false=>injection e with e;contradiction
     |true=>
      refine xA (Z ys _ _ e q1 q2) fun hl hh=>?_;refine⟨congrArg (·+1) hl,fun j h1 h2=>?_⟩
      cases j with
      |zero=>exact H x y _ _ V p1 p2
      |succ j=>exact hh j (Ks h1) (Ks h2)
theorem vL {sc env ρ st}{s:Shared}(S:SRel θ B sc env ρ st s):∀(k:Nat) (a b:V2) (r:Bool) (u v:Value) (A:Dq),A.units+k<cLine→eqV st.hp k a b=some r→VRel θ ρ a u→VRel θ ρ b v→EqAt A s u v r
 |0,_,_,_,_,_,_,_,h,_,_=>by contradiction
 |k+1,a,b,r,u,v,A,hu,h,G,hb=>by
  unfold eqV at h
  cases a with
  |int a x=>
   cases b with
   |int b y=>
    dsimp only at h;refine xE G fun t a9=>?_;clear G;subst a9;refine xE hb fun t' H=>?_;clear hb;subst H;apply az h;clear h;intro hx h;injection h with h;subst h;have:=nd hx;subst this;refine(vJ (θ:=θ) a b x)▸?_;exact EqAt.int_int _ _ _ _
   |_=>contradiction
  |str a=>
   cases b with
   |str b=>
    refine xE G fun t O=>?_;clear G;subst O;refine xE hb fun t' V=>?_;clear hb;subst V;refine(im (θ:=θ) h)▸?_;exact EqAt.str_str _ _ _ _
   |_=>contradiction
  |ref i=>
   cases b with
   |ref j=>
    refine xEA G fun p hi Z=>?_;clear G;subst Z;refine xEA hb fun q hj a0=>?_;clear hb;subst a0;dsimp only at h;apply u7 h;clear h;intro xs h1 h;apply u7 h;clear h;intro ys h2 h;refine aL (S.tup hi h1) fun ix kx hx rx=>?_;refine aL (S.tup hj h2) fun iy ky hy ry=>?_;apply aS h;clear h;intro r' he h
    cases r' with
    |false=>contradiction
    |true=>
     injection h with h;subst h;refine xA (vK (fun x y u v e1 e2 e3=>vL S k x y true u v A.in1 (by show A.units+1+k<_;exact o75 hu) e1 e2 e3) xs ys _ _ he rx ry) fun hl hh=>?_;by_cases a8:p=q
     ·subst a8;exact EqAt.same _
     ·obtain ag:ix.size=iy.size:=by simpa using hl
      have:=RcAt.tuples (A:=A) (e:=fun J=>true) ⟨_,hx,rfl,_,rfl⟩ ⟨_,hy,rfl,_,rfl⟩ (by exact o85 hu) (fun j h1 h2=>by
       have:=hh j (by simpa using h1) (by simpa using h2);simpa using this)
      obtain e0:((DQ (min ix.size iy.size)).all (fun J=>true)&&ix.size==iy.size)=true:=by grind -abstractProof
      rw[e0]at this;exact EqAt.of_refs a8 this
   |_=>contradiction
  |_=>contradiction
theorem kr {ρ:Rho}{a b:V2}{r:Bool}{u v:Value}(h:iB a b=some r)(H:VRel θ ρ a u)(hb:VRel θ ρ b v):
  (∃x y t G,u=.int x t∧v=.int y G∧(x==y)=r)∨(∃x y t G,u=.str x t∧v=.str y G∧(x==y)=r):=by
 unfold iB at h
 cases a with
 |int a x=>
  cases b with
  |int b y=>
   dsimp only at h;refine xE H fun t J=>?_;clear H;subst J;refine xE hb fun G O=>?_;clear hb;subst O;apply az h;clear h;intro hx h;injection h with h;subst h;have:=nd hx;subst this;exact .inl ⟨_,_,_,_,rfl,rfl,vJ a b x⟩
  |_=>contradiction
 |str a=>
  cases b with
  |str b=>
   refine xE H fun t V=>?_;clear H;subst V;refine xE hb fun G Z=>?_;clear hb;subst Z;exact .inr ⟨_,_,_,_,rfl,rfl,im h⟩
  |_=>contradiction
 |_=>contradiction
theorem na (a b:Str):(a.cps.toList==b.cps.toList)=(a==b):=by
 rw[Iq,beq_iff_eq,beq_iff_eq];constructor
 ·intro h;cases a;cases b;congr;exact ES.mp h
 ·rintro rfl;rfl
theorem vM:fG prog w θ B n (HN .Eq) ⟨yY⟩:=by
 intro A E Q sc env ρ st s a b u v r st' R S H hb e h;apply ax e;clear e;intro q hq e;obtain h:=h.ok e;clear e;rcases kr hq H hb with⟨x,y,t,J,rfl,rfl,G⟩|⟨x,y,t,J,rfl,rfl,G⟩
 ·exact P.eq_int (by rw[G];exact h.now' S rfl)
 ·exact P.eq_str (by rw[na,G];exact h.now' S rfl)
theorem vN:fG prog w θ B n (HN .NotEq) ⟨uC⟩:=by
 intro A E Q sc env ρ st s a b u v r st' R S V hb e h;dsimp only[uC]at e;refine cK (iB a b) (fun q hq=>?_) fun hq=>?_
 ·rw[hq]at e;obtain h:=h.ok e;clear e;rcases kr hq V hb with⟨x,y,t,t',rfl,rfl,Z⟩|⟨x,y,t,t',rfl,rfl,Z⟩
  ·exact P.ne_int (by rw[show(x != y)= !(x==y) from rfl,Z];exact h.now' S rfl)
  ·exact P.ne_str (by rw[show(x.cps.toList != y.cps.toList)= !(x.cps.toList==y.cps.toList) from rfl,na,Z];exact h.now' S rfl)
 ·rw[hq]at e;dsimp only at e;apply bN e;clear e;intro hl e;obtain h:=h.ok e;clear e
  cases a with
  |ref i=>
   cases b with
   |ref j=>
    refine xEA V fun p hi G=>?_;clear V;subst G;refine xEA hb fun q hj H=>?_;clear hb;subst H;unfold rt at hl;dsimp only at hl;apply ij hl;clear hl;intro xs h1 hl;apply ij hl;clear hl;intro ys h2 hl;refine aL (S.list hi h1) fun ix kx hx rx=>?_;refine aL (S.list hj h2) fun iy ky hy ry=>?_;apply iM hl;clear hl;intro r' he hl;subst hl;refine xA (vK (fun x y u v e1 e2 e3=>vL S 3 x y true u v A.in1 (by have:=R.2.2;show A.units+1+3<_;exact B7 this) e1 e2 e3) xs ys _ _ he rx ry) fun a0 hh=>?_;obtain O:ix.size=iy.size:=by simpa using a0
    have:=RcNeAt.lists (A:=A) (e:=fun J=>true) hx.isList hy.isList O (by have:=R.2.2;lia -abstractProof) (fun j h1 h2=>by
     have:=hh j (by simpa using h1) (by simpa using h2);simpa using this)
    refine this prog w E Q ?_;obtain e0:(DQ ix.size).all (fun J=>true)=true:=by simp
    rw[e0];exact h.now' S rfl
   |_=>contradiction
  |_=>contradiction
theorem vO:fG prog w θ B n (HN .Gt) ⟨yZ⟩:=by
 intro A E Q sc env ρ st s a b u v r st' R S J hb e h
 cases a with
 |int a x=>cases x with
  |succ x=>contradiction
  |zero=>cases b with
   |int b y=>cases y with
    |succ y=>contradiction
    |zero=>
     obtain h:=h.ok e;clear e;refine xE J fun t G=>?_;clear J;subst G;refine xE hb fun O H=>?_;clear hb;subst H;refine P.gt_int ?_;refine(ir (show decide (θ.iv a 0>θ.iv b 0)=mH b a from(sU b a).symm))▸?_;exact h.now' S rfl
   |_=>contradiction
 |_=>contradiction
theorem vP (ok:θ.Ok):fG prog w θ B n (HN .In) ⟨y0⟩:=by
 intro A E Q sc env ρ st s a b u v r st' R S J hb e h
 cases a with
 |str a=>cases a with
  |nil=>contradiction
  |cons a r'=>cases a with
   |t _ _=>cases r'<;>contradiction
   |c c=>cases r' with
    |cons _ _=>contradiction
    |nil=>cases b with
     |str b=>
      dsimp only at e;apply ax e;clear e;intro q hc e;obtain h:=h.ok e;clear e;refine xE J fun t G=>?_;clear J;subst G;refine xE hb fun O H=>?_;clear hb;subst H;refine P.in_str ?_;rw[show θ.str [At.c c]=⟨#[c]⟩ from rfl,Kw];rw[show(θ.str b).cps.toList=θ.flat b from by simp[Th.str],lL ok c hc];exact h.now' S rfl
     |_=>contradiction
 |_=>contradiction
theorem kt (ok:θ.Ok)(op:CmpOp):fG prog w θ B n (HN op) (xr op):=by
 cases op with
 |Eq=>exact vM
 |NotEq=>exact vN
 |Gt=>exact vO
 |In=>exact vP ok
 |_=>exact fun J J J J J J J J J J J J J J J J J J e=>by contradiction
end
theorem HRel.junk {θ:Th}{ρ:Rho}{n:Nat}{T:T2}{h:Heap}(x:HRel θ ρ n T h)(o:Obj):HRel θ ρ n T (h.push o):=x.kept fun J J e=>mc _ e
theorem Kp.junk (W:Addr→Prop)(ρ:Rho)(s:Shared)(o:Obj)(t:Nat):Kp W ρ s ρ { s with heap:=s.heap.push o,toks:=t }:=Kp.kept W ρ s t fun J J e=>mc _ e
section
variable {θ:Th}{B:Fix}{sc:Scope}{env:Env}{ρ:Rho}{st:St}{s:Shared}
theorem SRel.junk (x:SRel θ B sc env ρ st s)(o:Obj)(t:Nat):SRel θ B sc env ρ st { s with heap:=s.heap.push o,toks:=t }:=
 x.after (Kp.junk NoW ρ s o t) (x.h.junk o) rfl
end
section
variable (prog:C9)(w:World)(θ:Th)(B:Fix)(n:Nat)
noncomputable def gf (ρ:Rho):Option V2→Value→Prop
 |none,u=>u=.none
 |some v,u=>VRel θ ρ v u
noncomputable def vQ (sc:Scope) (e:Option Expr) (c:Oc):Prop:=
 ∀A E Q env ρ st s v st',Rm n A s→SRel θ B sc env ρ st s→c.run st=.ok v st'→
  (∀u ρ' s',SRel θ B sc env ρ' st' s'→Kp NoW ρ s ρ' s'→st'.loc=st.loc→gf θ ρ' v u→Q u s')→wpAny (model prog w) A (evalPart e env) Q E s
end
section
variable {prog:C9}{w:World}{θ:Th}{B:Fix}{n:Nat}{sc:Scope}
theorem nf {ev:Expr→Cl}(h:∀e,EvOk prog w θ B n sc e (ev e))(e:Option Expr):vQ prog w θ B n sc e (uH ev e):=by
 intro A E Q env ρ st s v st' R S r k
 cases e with
 |none=>injection r with G H;subst G;subst H;exact nb (k _ _ _ S (Kp.refl _ _ _) rfl rfl)
 |some e=>
  apply zW r;clear r;intro u J h1 r;injection r with O V;subst O;subst V;exact h e _ _ _ _ _ _ _ _ _ R S h1 fun u ρ' s' Z K' l' r'=>k u ρ' s' Z K' l' r'
theorem lM {k:Int}{m j:Nat}(h:oX k m=some j):HM k m=some j∧j<m∧ -(m:Int)≤k∧k<m:=by
 have key:∀j:Nat,j<m→(k=j∨k+m=j∧k<0)→HM k m=some j∧j<m∧ -(m:Int)≤k∧k<m:=by
  intro j hj G;refine⟨?_,hj,by lia -abstractProof,by lia -abstractProof⟩;unfold HM;rcases G with G|⟨G,h0⟩
  ·rw[if_neg (by lia -abstractProof:¬k<0)];rw[if_pos (by simp only[DM,decide_eq_true_iff];lia -abstractProof)]
   congr 1;lia -abstractProof
  ·rw[if_pos h0];rw[if_pos (by simp only[DM,decide_eq_true_iff];lia -abstractProof)]
   congr 1;lia -abstractProof
 cases k with
 |ofNat i=>
  unfold oX at h;dsimp only at h;apply az h;clear h;intro hb h;have:=Dd h;clear h;subst this;exact key i (Er.mp hb) (.inl rfl)
 |negSucc i=>
  unfold oX at h;dsimp only at h;apply az h;clear h;intro hb h;have:=Dd h;clear h;subst this;obtain H:=Er.mp hb;obtain e:Hj i= -((i:Int)+1):=rfl;exact key _ (by grind -abstractProof) (.inr ⟨by grind -abstractProof,by lia -abstractProof⟩)
theorem dI {G slice:Expr}{o i:Value}{A:Dq}{E Q:Value→Shared→Prop}{s:Shared}{T id:String}(H:∀a b c p,slice≠.Slice a b c p)(J:s.TypeIs o T)
  (hl:Dw (.type T) "__getitem__"=pure (some (.builtin id)))(hg:wpAny (model prog w) A (Kh o i) Q E s):wpAny (model prog w) A (Gu G slice o i) Q E s:=by
 refine HI (ops:=[o,i]) J hl hg ?_
 cases slice with
 |Slice a b c p=>exact absurd rfl (H a b c p)
 |_=>rfl
theorem gP {l:Addr}{items:Array Value}{k:Int}{t:Tok}{j:Nat}{x:Value}{A:Dq}{E Q:Value→Shared→Prop}{s:Shared}(hl:s.heap.IsList l items)
  (hj:HM k items.size=some j)(V: -(items.size:Int)≤k)(G:k<2 ^ 63)(H: -(2 ^ 63)≤k)(O:items[j]?=some x)(h:Q x s):wpAny (model prog w) A (Kh (.ref l) (.int k t)) Q E s:=by
 unfold HM at hj;by_cases J:0≤k
 ·refine Jp hl J G (x:=x) ?_ h;have h1:¬k<0:=by exact CL G H J
  simp only[h1,if_false]at hj
  split at hj
  ·injection hj with hj;subst hj;exact O
  ·contradiction
 ·refine wpAny_getItem_list_neg hl (by exact o99 G H J) V H (x:=x) ?_ h;have h1:k<0:=by exact o99 G H J
  simp only[h1,if_true]at hj
  split at hj
  ·injection hj with hj;subst hj;exact O
  ·contradiction
theorem i7 {k:Int}(h:bZ k=true):k<2 ^ 63∧ -(2 ^ 63)≤k:=by
 have:=cP h;lia -abstractProof
theorem rZ {θ:Th}:∀{s:List At} {m:Nat} {a:At},aP s=true→s[m]?=some a→∃c,a=.c c∧(θ.flat s)[m]?=some c∧(θ.flat s).length=s.length
 |[],m,a,_,h=>by simp at h
 |.t _ _::_,_,_,h,_=>by contradiction
 |.c c::s,m,a,hl,h=>by
  have G:∀s:List At,aP s=true→(θ.flat s).length=s.length:=by
   intro s
   induction s with
   |nil=>intro _;rfl
   |cons a r J=>intro h;cases a with
    |c n=>simp[Th.at1,J (show aP r=true from h)]
    |t _ _=>contradiction
  have H:aP s=true:=hl
  cases m with
  |zero=>simp at h;subst h;exact⟨c,rfl,by simp[Th.at1],by simp[Th.at1,G s H]⟩
  |succ m=>
   simp at h;refine aQ (rZ (θ:=θ) H h) fun d e1 e2 e3=>?_;exact⟨d,e1,by trivial,by simp[Th.at1,e3]⟩
theorem xP {J slice:Expr}(O:∀a b c p,slice≠.Slice a b c p):fG prog w θ B n (Gu J slice) ⟨uS⟩:=by
 intro A E Q sc env ρ st s a b u v r st' R S ha hb e h;refine xA (Rv.of_ok e) fun e a0=>?_;subst a0
 cases b with
 |int k x=>cases x with
  |succ x=>have e:oT (Do (x+1) 0) (oY a k st')=some r:=e;exact az e fun h _=>by contradiction
  |zero=>
   have e:oY a k st'=some r:=e;refine xE hb fun t a8=>?_;clear hb;subst a8;obtain hz:θ.iv k 0=k:=rfl;refine(ir hz)▸?_;apply az e;clear e;intro hk e;have G:=i7 hk
   cases a with
   |ref j=>
    refine xEA ha fun p hp a9=>?_;clear ha;subst a9;apply aS e;clear e;intro o ho e
    cases o with
    |list xs=>
     refine aL (S.list hp ho) fun items m V Z=>?_;apply aS e;clear e;intro q hi e;refine xEA (Z.get (fq e)) fun y hy ry=>?_;have H:=Z.length;refine cL (lM hi) fun i1 i2 i3 i4=>?_;rw[H]at i1 i2 i3 i4;exact dI O V.isList.typeIs slot_list_getitem.lookup (gP V.isList i1 i3 G.1 G.2 (by simpa using hy) (h.now' S ry))
    |tup xs=>
     refine aL (S.tup hp ho) fun items m V Z=>?_;apply aS e;clear e;intro q hi e;refine xEA (Z.get (fq e)) fun y hy ry=>?_;have H:=Z.length;refine cL (lM hi) fun i1 i2 i3 i4=>?_;rw[H]at i1 i2 i3 i4;exact dI O ⟨_,V,rfl⟩ slot_tuple_getitem.lookup (P.getItem_tuple V G.2 G.1 i1 (by simpa using hy) (h.now' S ry))
    |_=>contradiction
   |str a=>
    refine xE ha fun t' ag=>?_;clear ha;subst ag;apply az e;clear e;intro hl e;apply aS e;clear e;intro q hi e;apply aS e;clear e;intro b2 hq e;injection e with e;subst e;refine aQ (rZ (θ:=θ) hl (fq hq)) fun c al e2 e3=>?_;clear e hq;subst al;refine cL (lM hi) fun i1 i2 i3 i4=>?_;obtain b1:(θ.str a).length=a.length:=by show(θ.flat a).toArray.size=_;trivial
    refine dI O (EX _ _ _) HK.lookup (P.getItem_str (c:=c) ?_ ?_ (h.now S _ ⟨_,rfl⟩))
    ·simp only[KC,decide_eq_false_iff_not];exact Cy G
    ·refine(ir b1)▸(ir i1)▸?_;show(θ.flat a).toArray[q]?=_;simpa using e2
   |_=>contradiction
 |_=>contradiction
theorem lN {O G:Expr}{pos:Pos}{a b:Cl}(H:∀a b c p,G≠.Slice a b c p)(V:EvOk prog w θ B n sc O a)(hb:EvOk prog w θ B n sc G b):
  EvOk prog w θ B n sc (.Subscript O G pos) (d0 a b ⟨uS⟩):=
 fun J J J J J J J J J R S e h=>FC (fH V hb (xP H) R S e h)
theorem ng {θ:Th}{ρ:Rho}{v:Option V2}{u:Value}{m d a:Nat}(hd:d≤m)(h:oZ v m d=some a)(r:gf θ ρ v u):
  ∃i,IsPart u i∧(∃l,u=partValue l∧l.map (·.1)=i)∧i.elim d (FA m)=a∧a≤m:=by
 cases v with
 |none=>injection h with h;subst h;subst r;exact gH none .none ⟨none,rfl,rfl⟩ rfl hd
 |some v=>
  cases v with
  |int c x=>
   cases x with
   |succ x=>cases c<;>contradiction
   |zero=>
    refine xE r fun t G=>?_;clear r;subst G;obtain hz:θ.iv c 0=c:=rfl;rw[hz];refine dY (some c) (.int c t) ⟨some (c,t),rfl,rfl⟩ ?_
    cases c with
    |ofNat i=>
     apply az h;clear h;intro hb h;cases h;have:=DG hb;refine⟨?_,this⟩;show FA m ((a:Nat):Int)=a;rw[clipAt_nat,Nat.min_eq_left this]
    |negSucc i=>
     apply az h;clear h;intro hb h;have e:=Dd h;clear h;subst e;have:=Er.mp hb;refine⟨?_,by lia -abstractProof⟩;show FA m (Hj i)=_;obtain e:Hj i= -((i+1:Nat):Int):=rfl;rw[e,clipAt_neg _ _ (by exact o11)]
  |_=>contradiction
theorem i8 {θ:Th}{ρ:Rho}{lo hi:Option V2}{u v:Value}{m a b:Nat}(h:fw lo hi m=some (a,b))(J:gf θ ρ lo u)(O:gf θ ρ hi v):
  ∃i j,IsPart u i∧IsPart v j∧(∃l,u=partValue l∧l.map (·.1)=i)∧(∃l,v=partValue l∧l.map (·.1)=j)∧i.elim 0 (FA m)=a∧j.elim m (FA m)=b∧a≤b∧b≤m:=by
 apply aS h;clear h;intro a' h1 h;apply aS h;clear h;intro b' h2 h;apply az h;clear h;intro h3 h;injection h with h;injection h with G H;subst G;subst H;refine da (ng (Ej _) h1 J) fun i V Z p3 p4=>?_;refine da (ng (DK _) h2 O) fun j q1 q2 q3 q4=>?_;exact pB i j V q1 Z q2 p3 q3 (DG h3) q4
theorem bO (i j:Option Int)(m:Nat):DZ i j 1 m=(DQ (j.elim m (FA m)-i.elim 0 (FA m))).map (i.elim 0 (FA m)+·):=by
 obtain e:DZ i j 1 m=sliceRange (sliceBounds i j none m).1 (sliceBounds i j none m).2.1 (sliceBounds i j none m).2.2:=by
  cases i<;>cases j<;>rfl
 rw[e,sliceBounds_plain,sliceRange_one]
theorem vR {θ:Th}{s:List At}(hl:aP s=true)(a b:Nat):θ.flat (cut s a b)=cut (θ.flat s) a b:=by
 have e:∃l:List Nat,s=l.map At.c:=by
  induction s with
  |nil=>exact⟨[],rfl⟩
  |cons x r G=>cases x with
   |c n=>refine xE (G hl) fun l hl=>?_;exact⟨n::l,by refine(ir hl)▸?_;rfl⟩
   |t _ _=>contradiction
 have f:∀l:List Nat,θ.flat (l.map At.c)=l:=fun l=>by
  induction l with
  |nil=>rfl
  |cons x r G=>rw[FD,Th.flat_cons,G];rfl
 refine xE e fun l H=>?_;clear e hl;subst H;have:cut (l.map At.c) a b=(cut l a b).map At.c:=by simp[cut]
 rw[this,f,f]
theorem io {θ:Th}{s:List At}(hl:aP s=true):(θ.flat s).length=s.length:=by
 induction s with
 |nil=>rfl
 |cons a r G=>cases a with
  |c n=>simp[Th.at1,G (show aP r=true from hl)]
  |t _ _=>contradiction
theorem sV {a8:Expr}{lo hi:Option Expr}{p:Pos}{A:Dq}{E Q:Value→Shared→Prop}{env:Env}{ρ:Rho}{st st':St}{s:Shared}{o r:V2}{l h:Option V2}{ou lu hu:Value}
  (hb:θ.Bd)(S:SRel θ B sc env ρ st s)(ho:VRel θ ρ o ou)(hl:gf θ ρ l lu)(hh:gf θ ρ h hu)(e:slice o l h st=.ok r st')(k:PostV θ B sc env ρ st s r st' Q):
  wpAny (model prog w) A (Gu a8 (.Slice lo hi none p) ou (.ref s.heap.objs.size)) Q E { s with heap:=s.heap.push { cls:=.type "slice",data:=.fields #[lu,hu,.none] } }:=by
 have H:=S.junk { cls:=.type "slice",data:=.fields #[lu,hu,.none] } s.toks;have O:=Kp.junk NoW ρ s { cls:=.type "slice",data:=.fields #[lu,hu,.none] } s.toks
 cases o with
 |ref j=>
  refine xEA ho fun q hq b7=>?_;subst b7;unfold slice at e;dsimp only at e;apply bU e;clear e;intro xs ho e;refine cz (fw l h xs.length) (fun hs=>?_) fun ab hs=>?_
  ·rw[hs]at e;contradiction
  ·obtain⟨a,b⟩:=ab;rw[hs]at e;dsimp only at e;apply bN e;clear e;intro a9 e;refine aL (S.list hq ho) fun items m hx rx=>?_;have G:=rx.length;dsimp only[Eb]at G;refine fb (i8 hs hl hh) fun i j' p1 q1 J J e1 e2 b2 ag=>?_;have b3:IsL (s.heap.push { cls:=.type "slice",data:=.fields #[lu,hu,.none] }) q items m:=mc _ hx;refine HI (ops:=[.ref s.heap.objs.size,.ref q]) b3.isList.typeIs list_getitem_lookup (wpAny_getItem_list_slice b3.isList (Jy ..) p1 q1 .none (by simp) ?_ ?_) rfl
   ·refine(k.after O rfl).new H e ⟨_,0,rfl,?_⟩;rw[slicePick_plain,←G,e1,e2];show All2 _ _ ((items.toList.drop a).take (b-a));exact(rx.drop a).take (b-a)
   ·have:=eu a9;lia -abstractProof
 |str s₀=>
  refine xE ho fun t be=>?_;clear ho;subst be;unfold slice at e;dsimp only at e;apply bN e;clear e;intro b4 e;refine cz (fw l h s₀.length) (fun hs=>?_) fun ab hs=>?_
  ·rw[hs]at e;contradiction
  ·obtain⟨a,b⟩:=ab;rw[hs]at e;dsimp only at e;refine xAA (cN e) fun G b5 b6=>?_;subst b5;subst b6;refine fb (i8 hs hl hh) fun i j' J J Z a0 e1 e2 b2 ag=>?_;refine xEA Z fun pl bk p2=>?_;clear Z hl;subst bk;refine xEA a0 fun ph bx q2=>?_;clear a0 hh;subst bx;have V:(θ.str s₀).length=s₀.length:=by show(θ.flat s₀).toArray.size=_;simpa using io b4
   refine HI (ops:=[.ref s.heap.objs.size,.str (θ.str s₀) t]) (EX _ _ _) HK.lookup
    (KU (l:=pl) (u:=ph) (st:=none) ⟨_,rh _ rfl,rfl,rfl⟩ rfl ?_) rfl
   have al:((E1 (θ.str s₀) pl ph none).filterMap ((θ.str s₀).cps[·]?))=θ.flat (cut s₀ a b):=by
    unfold E1;show(DZ (pl.map (·.1)) (ph.map (·.1)) 1 (θ.str s₀).length).filterMap _=_;rw[p2,q2,bO,V,e1,e2,pick_run,vR b4];rfl
   unfold I2;refine IF ?_
   have b1:((none:Option (Int×Tok)).map (·.1)).getD 1==1&&(E1 (θ.str s₀) pl ph none).length==(θ.str s₀).length→θ.str s₀=θ.str (cut s₀ a b):=by
    intro hc
    have h2:(E1 (θ.str s₀) pl ph none).length=(θ.str s₀).length:=by
     have:=(DM _ _).mp hc |>.2;simpa using this
    have h3:(DZ (pl.map (·.1)) (ph.map (·.1)) 1 (θ.str s₀).length).length=(θ.str s₀).length:=h2;rw[p2,q2,bO,V,e1,e2]at h3;simp at h3;have ha:a=0:=by exact o72 e1 b2 ag V h2 h3
    have hb:b=s₀.length:=by exact o53 e2 ag V h2 h3 ha
    subst ha;subst hb;simp[cut]
   split
   ·rename_i hc;rw[b1 hc];exact⟨ew hb G,fun t' kk=>(k.after O rfl).now H kk ⟨t',rfl⟩⟩
   ·rw[al];exact⟨ew hb G,fun t' kk=>(k.after O rfl).now H kk ⟨t',rfl⟩⟩
 |_=>contradiction
theorem pI (hb:θ.Bd){eo:Expr}{lo hi:Option Expr}{p pos:Pos}{a:Cl}{cl ch:Oc}(ha:EvOk prog w θ B n sc eo a)(hl:vQ prog w θ B n sc lo cl)(hh:vQ prog w θ B n sc hi ch):
  EvOk prog w θ B n sc (.Subscript eo (.Slice lo hi none p) pos) (rJ a cl ch):=by
 intro A E Q env ρ st s v st' R S e h;apply eV e;clear e;intro ov b1 h1 e;apply zn e;clear e;intro l b2 h2 e;apply zn e;clear e;intro hv b3 h3 e;refine FC (ay R (ha _ _ _ _ _ _ _ _ _ R S h1 fun ou b4 s₁ J K₁ O V G=>wpAny_Slice (ay G (hl _ _ _ _ _ _ _ _ _ G J h2 fun lu b5 s₂ Z K₂ a0 H a8=>hh _ _ _ _ _ _ _ _ _ a8 Z h3 fun hu b6 s₃ a9 K₃ ag al=>?_))));refine nb (sV hb a9 ((V.ext K₂.ext).ext K₃.ext) ?_ al e (h.after ((K₁.trans K₂).trans K₃) (ag.trans (a0.trans O))))
 cases l with
 |none=>exact H
 |some v=>exact VRel.ext K₃.ext H
theorem vS (hb:θ.Bd){ev:Expr→Cl}(h:∀e,EvOk prog w θ B n sc e (ev e)){G H:Expr}{pos:Pos}:EvOk prog w θ B n sc (.Subscript G H pos) (za ev G H):=by
 cases H with
 |Slice lo hi stp p=>
  cases stp with
  |some _=>intro A E Q env ρ st s v st' R S e;contradiction
  |none=>exact pI hb (h G) (nf h lo) (nf h hi)
 |_=>exact lN (fun J J J J=>by simp) (h G) (h _)
end
end
section
open PySem PyProof.Rows PySem.Builtin PySem.Builtin.Str
theorem vT (c:Nat):∀(p q:List Str),p≠[]→q≠[]→(∀x∈p,c∉x.cps.toList)→(∀x∈q,c∉x.cps.toList)→Gj ⟨#[c]⟩ p=Gj ⟨#[c]⟩ q→p=q:=by
 have key:∀(a b u v:List Nat),c∉a→c∉b→a++c::u=b++c::v→a=b∧u=v:=by
  intro a
  induction a with
  |nil=>
   intro b u v _ hb h
   cases b with
   |nil=>simp at h;exact⟨rfl,h⟩
   |cons x b=>simp at h;exact absurd h.1 (fun e=>hb (e▸DY ..))
  |cons y a J=>
   intro b u v B hb h
   cases b with
   |nil=>simp at h;exact absurd h.1 (fun e=>B (e▸DY ..))
   |cons x b=>
    simp at h;obtain⟨rfl,h⟩:=h;obtain⟨e1,e2⟩:=J b u v (fun m=>B (DB _ m)) (fun m=>hb (DB _ m)) h;exact⟨by rw[e1],e2⟩
 have G:∀a b:Str,a.cps.toList=b.cps.toList→a=b:=fun a b h=>by cases a;cases b;congr;exact ES.mp h
 intro p
 induction p with
 |nil=>intro q h;exact absurd rfl h
 |cons x p J=>
  intro q _ hq hp H h
  cases q with
  |nil=>exact absurd rfl hq
  |cons y q=>
   have O:=hp x (DY ..);have V:=H y (DY ..)
   cases p with
   |nil=>
    cases q with
    |nil=>rw[show x=y from h]
    |cons z q=>
     exfalso;have e:x=y++⟨#[c]⟩++Gj ⟨#[c]⟩ (z::q):=h;apply O;rw[e];simp[HC]
   |cons Z p=>
    cases q with
    |nil=>
     exfalso;have e:x++⟨#[c]⟩++Gj ⟨#[c]⟩ (Z::p)=y:=h;apply V;rw[←e];simp[HC]
    |cons y' q=>
     have e:x++⟨#[c]⟩++Gj ⟨#[c]⟩ (Z::p)=y++⟨#[c]⟩++Gj ⟨#[c]⟩ (y'::q):=h;have e':=congrArg (fun s:Str=>s.cps.toList) e;simp[HC]at e';refine xA (key _ _ _ _ O V e') fun e1 e2=>?_;rw[G _ _ e1,J (y'::q) (by simp) (by simp) (fun a B=>hp a (DB _ B)) (fun a B=>H a (DB _ B)) (G _ _ e2)]
theorem vU (x:Str)(c:Nat):IG x ⟨#[c]⟩≠[]:=by
 unfold IG
 split
 ·simp
 ·split
  ·simp
  ·rw[StrLaws.partsBetween_eq];refine xEE (StrLaws.partsFrom_ne x (⟨#[c]⟩:Str).length 0 (occurrences x ⟨#[c]⟩ 0 x.length (x.length+1))) fun p r e=>?_;rw[e];simp
theorem nh (θ:Th)(c:Nat):∀(p:List At) (ps:List (List At)),Gj ⟨#[c]⟩ ((p::ps).map θ.str)=θ.str (p++ps.flatMap (fun q=>.c c::q))
 |p,[]=>by simp[Gj]
 |p,q::ps=>by
  obtain B:=nh θ c q ps;show θ.str p++⟨#[c]⟩++Gj ⟨#[c]⟩ ((q::ps).map θ.str)=_;rw[B,show(⟨#[c]⟩:Str)=θ.str [.c c] from rfl,←dH,←dH];simp
noncomputable def NoC (θ:Th) (c:Nat) (p:List At):Prop:=c∉θ.flat p
theorem gh {θ:Th}(ok:θ.Ok)(c:Nat):∀{s:List At} {ps:List (List At)},iC c s=some ps→
  ∃p r,ps=p::r∧s=p++r.flatMap (fun q=>.c c::q)∧∀q∈ps,NoC θ c q
 |[],ps,h=>by injection h with h;subst h;exact bp ([]) ([]) rfl rfl (by simp[NoC])
 |.c n::s,ps,h=>by
  apply aS h;clear h;intro J hs h;refine aE (gh ok c hs) fun p r B e hn=>?_;clear hs;subst B;dsimp only at h;refine aJ (Do n c) (fun hb=>?_) fun hb=>?_
  ·rw[hb]at h;injection h with h;subst h;have:=nd hb;subst this;refine bp ([]) (p::r) rfl (by refine(ir e)▸?_;simp) (fun q hq=>?_);rcases Da.mp hq with rfl|hq
   ·simp[NoC]
   ·exact hn q hq
  ·rw[hb]at h;injection h with h;subst h;have G:=b8 hb;refine bp (.c n::p) r rfl (by refine(ir e)▸?_;simp) (fun q hq=>?_);rcases Da.mp hq with rfl|hq
   ·have:=hn p (DY ..);simp only[NoC,Th.flat_cons,Th.at1,Eo,DD]at this⊢;rintro(h|h)
    ·exact G h.symm
    ·exact this h
   ·exact hn q (DB _ hq)
 |.t k i::s,ps,h=>by
  apply aS h;clear h;intro J hs h;refine aE (gh ok c hs) fun p r H e hn=>?_;clear hs;subst H;dsimp only at h;apply az h;clear h;intro hi h;apply az h;clear h;intro hc h;injection h with h;subst h;have:=nd hi;clear hi;subst this;have:=nd hc;subst this;refine bp (.t k 1::p) r rfl (by refine(ir e)▸?_;simp) (fun q hq=>?_);rcases Da.mp hq with rfl|hq
  ·have:=hn p (DY ..);simp only[NoC,Th.flat_cons,Th.at1,Eo]at this⊢;rintro(h|h)
   ·exact ok.no60 k h
   ·exact this h
  ·exact hn q (DB _ hq)
theorem pJ {θ:Th}(ok:θ.Ok){c:Nat}{s:List At}{ps:List (List At)}(h:iC c s=some ps):IG (θ.str s) ⟨#[c]⟩=ps.map θ.str:=by
 refine aE (gh ok c h) fun p r B e hn=>?_;clear h;subst B;refine vT c _ _ (vU _ _) (by simp) (StrLaws.split_free _ c) (fun x H=>?_) ?_
 ·refine xEA (Hu.mp H) fun q hq G=>?_;clear H;subst G;have:c∉θ.flat q:=hn q hq;simpa [Th.str] using this
 ·rw[StrLaws.join_split,nh,←e]
theorem ni {θ:Th}(c:Nat):∀{s p:List At} {q:Option (List At)},rA c s=some (p,q)→c∉θ.flat p∧aP p=true∧s=p++(match q with|none=>[]|some r=>.c c::r)
 |[],p,q,h=>by injection h with h;injection h with G H;subst G;subst H;exact yAA (by simp) rfl rfl
 |.t _ _::_,p,q,h=>by contradiction
 |.c n::s,p,q,h=>by
  apply c8 h<;>clear h
  ·intro hb h;injection h with h;injection h with J O;subst J;subst O;have:=nd hb;clear hb;subst this;exact yAA (by simp) rfl rfl
  ·intro hb h;apply aS h;clear h;intro pq hs h;obtain⟨p',q'⟩:=pq;injection h with h;injection h with V B;subst V;subst B;refine xAA (ni (θ:=θ) c hs) fun h1 h2 h3=>?_;refine yAA ?_ h2 (by rw[h3];rfl);obtain Z:=b8 hb;simp only[Th.flat_cons,Th.at1,Eo,DD];rintro(h|h)
   ·exact Z h.symm
   ·exact h1 h
theorem xQ (x:Str)(c:Nat)(a b:List Nat)(B:x.cps.toList=a++c::b)(G:c∉a):∃r,occurrences x ⟨#[c]⟩ 0 x.length 1=a.length::r:=by
 rcases IY x ⟨#[c]⟩ 1 (DK 1)with⟨_,hn⟩|⟨i,r,h0,hi,hn⟩
 ·exfalso;exact hn a.length ((GS x c a.length).mpr (by rw[B];simp))
 ·have h1:=(GS x c i).mp hi
  have:i=a.length:=by
   rcases HP i a.length with h|h|h
   ·exfalso;rw[B,D1 h]at h1;exact G (C6 h1)
   ·exact h
   ·exfalso;exact hn a.length h ((GS x c a.length).mpr (by rw[B];simp))
  exact⟨r,by rw[h0,this]⟩
theorem Al (x:Str)(c:Nat)(B:c∉x.cps.toList):occurrences x ⟨#[c]⟩ 0 x.length 1=[]:=by
 rcases IY x ⟨#[c]⟩ 1 (DK 1)with⟨h,_⟩|⟨i,r,h0,hi,hn⟩
 ·exact h
 ·exact absurd (C6 ((GS x c i).mp hi)) B
theorem eM {a b:Str}(h:a.cps.toList=b.cps.toList):a=b:=by cases a;cases b;congr;exact ES.mp h
theorem bV (θ:Th)(s:List At):(θ.str s).cps.toList=θ.flat s:=by simp[Th.str]
theorem vV (x:Str)(c:Nat)(a b:List Nat)(B:x.cps.toList=a++c::b):(strSub x 0 a.length).cps.toList=a∧(strSub x (a.length+(⟨#[c]⟩:Str).length) x.length).cps.toList=b:=by
 obtain hl:x.length=a.length+1+b.length:=by
  show x.cps.size=_;refine Eb▸(ir B)▸?_;simp;exact o32
 obtain h1:(⟨#[c]⟩:Str).length=1:=rfl;rw[J4,J4,B,h1,hl];refine⟨by simp,?_⟩
 obtain e1:(a++c::b).drop (a.length+1)=b:=by
  refine List.drop_drop▸?_;simp
 refine(ir e1)▸?_;exact Kj (by lia -abstractProof)
theorem nj {θ:Th}{c:Nat}:∀{s:List At},aP s=true→θ.flat (eU c s)=(θ.flat s).filter (· != c)
 |[],_=>rfl
 |.t _ _::_,h=>by contradiction
 |.c n::s,h=>by
  have G:=nj (θ:=θ) (c:=c) (s:=s) h;show θ.flat (bB (Do n c) (eU c s) (.c n::eU c s))=_
  cases hb:Do n c with
  |true=>
   have:=nd hb;clear hb;subst this;show θ.flat (eU n s)=_;simp[Th.at1,G]
  |false=>
   have B:=b8 hb;show θ.flat (.c n::eU c s)=_;simp[Th.at1,G,B]
end
section
open PySem PySem.W PyProof.Rows PySem.Builtin
theorem dX:Slot "bytes" "join" "bytes.join":=
 .of (owner:="bytes") (n:="join") (by rw[Dg,sl];kernel_rfl) (by rfl) (by rfl) (by rfl)
  (by first|exact .inl (by decide+kernel)|exact .inr (by rfl)) (by rw[FN];kernel_rfl)
theorem gY:JQ (.builtin "bytes.join")=pure (.type "method_descriptor"):=by show builtinType _=_;rw[Jc];kernel_rfl
theorem gi:He table "bytes.join"=some DH.«bytes.join»:=Gf (by kernel_rfl)
theorem fJ (a b:Value):HB "bytes.join" ⟨[a,b],[]⟩:=by unfold HB;kernel_rfl
section
variable {prog:C9}{w:World}{A:Dq}{E:Value→Shared→Prop}{s:Shared}
theorem nk {keep:List Value}{Q:Unit→Shared→Prop}:∀(B:List (Value×Option Value)) {s:Shared},(∀x∈B,x.2=none)→Q () s→wpAny (model prog w) A (Bytes.joinLetGo B keep) Q E s
 |[],_,_,h=>by unfold Bytes.joinLetGo;exact nb h
 |(x,u)::r,_,hn,h=>by
  have:=hn (x,u) (DY ..);dsimp only at this;subst this;exact il (J1 (nk r (fun y G=>hn y (DB _ G)) h))
theorem i9 (bs:List (List UInt8)):Bytes.joined #[] (bs.map Fg)=bs.flatten.toArray:=by
 unfold Bytes.joined
 obtain key:∀(bs:List (List UInt8)) (k:Nat) (acc:List UInt8),
   (((bs.map Fg).zipIdx k).foldl (fun(out:Array UInt8) (x:Array UInt8×Nat)=>(if x.2>0 then out++ #[] else out)++x.1) acc.toArray)=(acc++bs.flatten).toArray:=by
  intro bs
  induction bs with
  |nil=>intro k acc;simp
  |cons b r B=>
   intro k acc;simp only[FD,List.zipIdx_cons,Hn];obtain e:(if k>0 then acc.toArray++ #[] else acc.toArray)++b.toArray=(acc++b).toArray:=by split<;>simp
   rw[e,B];simp
 have:=key bs 0 [];simpa using this
theorem sW {α:Type}(its:Array Value)(a:Value→α)(b:Array Value→α)(h:its.size≠1):(match (generalizing:=false) its with| #[x]=>a x|x=>b x)=b its:=by
 obtain⟨l⟩:=its
 match l,h with
 |[],_=>rfl
 |[x],h=>exact absurd rfl h
 |x::y::r,_=>rfl
theorem pK {id:String}{b:Array UInt8}{t:Tok}:Kd id (.bytes b t) 0=pure (some (b,none)):=by
 unfold Kd Bytes.takeBuffer?;refine(ir (KBy.special_eq KBy.look_buffer))▸(ir KBy.own_buffer)▸(ir (show((0:Int)==Bytes.fullReadOnly)=false from by rfl))▸(ir KBy.buffer_eq)▸?_
 kernel_rfl
theorem sX (bs:List (List UInt8)):∀k,((bs.map Fg).toArray).foldl (fun(x:Nat) (y:Array UInt8)=>x+y.size) k=k+bs.flatten.length:=by
 intro k;rw[←KT]
 induction bs generalizing k with
 |nil=>rfl
 |cons b r B=>simp only[FD,Hn,B];simp;lia -abstractProof
theorem pL {M:Model}{β:Type}(f:Nat→β→Sem (ForInStep β))(I:Nat→β→Shared→Prop)(n:Nat)(Q:β→Shared→Prop)
  (step:∀i r s,i<n→I i r s→wpAny M A (f i r) (fun x s'=>match x with|.yield G=>I (i+1) G s'|.done G=>Q G s') E s)(fin:∀r s,I n r s→Q r s){r:β}{s:Shared}(h:I 0 r s):wpAny M A (forIn (Gy 0 n) r f) Q E s:=by
 refine wpAny_forIn_list f (fun rest r s=>∃i,rest=Gy i (n-i)∧i≤n∧I i r s) Q (fun k rest r s z=>?_) (fun r s z=>?_) _ _ ⟨0,rfl,Ej _,h⟩
 ·refine aQ z fun i e B H=>?_
  have hi:i<n:=by
   cases h:n-i with
   |zero=>rw[h]at e;contradiction
   |succ m=>exact BZ B h
  rw[o21 hi,List.range'_succ]at e;refine xA (GD e) fun e1 e2=>?_;clear B e;subst e1;refine Dn (step k r s hi H) (fun x s' O=>?_) fun J J h=>h
  cases x with
  |yield G=>exact⟨k+1,e2,hi,O⟩
  |done G=>exact O
 ·refine aQ z fun i e B H=>?_
  have:i=n:=by
   cases h:n-i with
   |zero=>exact o93 B h
   |succ m=>rw[h]at e;contradiction
  clear B e z step;subst this;exact fin r s H
theorem vW {bs:List (List UInt8)}{items:Array Value}(hi:All2 (fun(b:List UInt8) v=>∃t,v=D3 b.toArray t) bs items.toList)(h:items.size=1):∃t,items= #[.bytes bs.flatten.toArray t]:=by
 obtain⟨its⟩:=items
 cases its with
 |nil=>contradiction
 |cons x r=>
  cases r with
  |cons y r=>exact absurd (HO h) (FF _)
  |nil=>
   cases hi with
   |cons p q=>
    cases q;refine xE p fun t e=>?_;exact⟨t,by rw[e];simp⟩
theorem xR {bs:List (List UInt8)}{items:Array Value}(hi:All2 (fun(b:List UInt8) v=>∃t,v=D3 b.toArray t) bs items.toList){k:Nat}(h:k<items.size):∃t,items.getD k .none=.bytes (bs.getD k []).toArray t:=by
 have hb:k<bs.length:=by refine(ir hi.length)▸?_;exact h
 refine gX (hi.get (EA hb)) fun v B G e=>?_;refine⟨G,?_⟩;have:items[k]?=some v:=by simpa using B
 refine(ir (Hs))▸(ir this)▸(ir (GA))▸(ir (EA hb))▸?_;exact e
theorem sY (bs:List (List UInt8)){k:Nat}(h:k<bs.length):(((bs.take k).map Fg).toArray).push (bs.getD k []).toArray=((bs.take (k+1)).map Fg).toArray:=by
 rw[List.take_add_one,GA,EA h,List.map_append,List.push_toArray];rfl
theorem sZ {l:List (Value×Option Value)}(B:∀x∈l,x.2=none∧x.1.onHeap=false):¬((Bytes.Kind.bytes==Bytes.Kind.bytearray)||l.any (·.1.onHeap))=true:=fun h=>by
 refine xEA (List.any_eq_true.mp h) fun x G h2=>?_;rw[(B x G).2]at h2;contradiction
theorem pM {bs:List (List UInt8)}(hs:bs.flatten.length≤16777216):¬Bytes.tooLong (((bs.map Fg).toArray).foldl (fun(x:Nat) (y:Array UInt8)=>x+y.size) ((#[]:Array UInt8).size*(((bs.map Fg).toArray).size-1)))=true:=by
 rw[show(#[]:Array UInt8).size*(((I6 Fg bs).toArray).size-1)=0 from Nat.zero_mul _,sX,KBy.tooLong_not (by exact CC hs)];exact En
theorem jU {l:Addr}{items:Array Value}{n:Nat}{t:Tok}{bs:List (List UInt8)}(hl:s.heap.get? l=some { cls:=.type "list",dict:=none,data:=.seq items n,slots:= #[] })
  (hi:All2 (fun(b:List UInt8) v=>∃t,v=D3 b.toArray t) bs items.toList)(hs:bs.flatten.length≤16777216){Q:Je→Shared→Prop}
  (hq:∀G k,Q (.done (.ret (.bytes bs.flatten.toArray G))) { s with toks:=k }):wpAny (model prog w) A («bytes.join» ⟨[.bytes #[] t,.ref l],[]⟩) Q E s:=by
 have Z:s.TypeIs (.ref l) "list":=⟨_,hl,rfl⟩
 have B:bs.length=items.size:=hi.length;show wpAny _ _ (Bytes.joinM .bytes _) _ _ _;refine il (DU (a:=(D3 #[] t,D7 l)) rfl ?_);refine il ?_;refine il (FH Z ?_);refine nb ?_;refine il (E5 hl rfl ?_);by_cases h1:items.size=1
 ·refine xE (vW hi h1) fun G e=>?_;clear h1 B hi hl;subst e;refine il (FH (ID _ _ _) ?_);exact il (Fj (nb (hq G s.toks)))
 ·refine Eq.mpr (congrArg (fun tr=>wpAny (model prog w) A tr Q E s) (sW items _ _ h1)) ?_;refine il ?_;rw[FX,show[:items.size].size=items.size by simp];refine pL _ (fun i r s'=>s'=s∧r.1=((bs.take i).map Fg).toArray∧∀x∈r.2,x.2=none∧x.1.onHeap=false) _ _ (fun k r s' V z=>?_) (fun r s' z=>?_) ⟨rfl,rfl,fun J h=>(Dr h).elim⟩
  ·have H:s'.heap.get? l=_:=z.1▸hl;refine xE (xR hi V) fun G O=>?_;refine il (E5 H rfl ?_);dsimp only;refine(ir (if_neg (sZ z.2.2)))▸(ir O)▸?_;refine il (Dx (DU pK ?_));refine il (E5 H rfl ?_);dsimp only;rw[if_neg (by simp)];refine nb ⟨z.1,?_,fun x O=>?_⟩
   ·show r.1.push _=_;refine(ir z.2.1)▸?_;exact sY bs (B▸V)
   ·rcases Eo.mp O with h|h
    ·exact z.2.2 x h
    ·refine(ir (DD.mp h))▸?_;exact⟨rfl,rfl⟩
  ·have hr:r.1=(bs.map Fg).toArray:=by refine(ir z.2.1)▸B▸?_;exact congrArg (fun l=>(I6 Fg l).toArray) (List.take_length ..)
   have hq:∀G k,Q (.done (.ret (.bytes bs.flatten.toArray G))) { s' with toks:=k }:=z.1▸hq;refine il (DU (a:=(#[]:Array UInt8)) rfl ?_);refine(ir hr)▸?_;refine(ir (if_neg (pM hs)))▸?_;refine il (KG (il (Dx (wpAny_point (il (nk _ (fun x O=>(z.2.2 x O).1) (nb ?_)))))) ?_)
   ·rw[i9];exact hq _ _
   ·rw[i9,Di];exact hs
theorem ja {l:Addr}{items:Array Value}{n:Nat}{t:Tok}{bs:List (List UInt8)}(hl:s.heap.get? l=some { cls:=.type "list",dict:=none,data:=.seq items n,slots:= #[] })
  (hi:All2 (fun(b:List UInt8) v=>∃t,v=D3 b.toArray t) bs items.toList)(hs:bs.flatten.length≤16777216){Q:Value→Shared→Prop}
  (hq:∀B k,Q (.bytes bs.flatten.toArray B) { s with toks:=k }):wpAny (model prog w) A (call (.builtin "bytes.join") [.bytes #[] t,.ref l]) Q E s:=
 Et dX (ID _ _ _) gi (jU hl hi hs fun B k=>⟨_,rfl,hq B k⟩) (fJ _ _)
end
end
section
open PySem PyProof.Rows PySem.Builtin PySem.Builtin.Str
section
variable (prog:C9)(w:World)(θ:Th)(B:Fix)
noncomputable def pN (name:Str) (m:Mc):Prop:=
 ∀sc env ρ st s o J,SRel θ B sc env ρ st s→VRel θ ρ o J→m.pre o st=true→
  ∃T id,PlainAttrs T∧Slot T name id∧JQ (.builtin id)=pure (.type "method_descriptor")∧s.TypeIs J T∧(∀a,J=.ref a→∃O,s.heap.get? a=some O∧O.dict=none)∧
   ∀A E Q G H s₂ V us r st',Rm 0 A s₂→SRel θ B sc env G H s₂→VRel θ G o J→All2 (VRel θ G) V us→m.run o V H=.ok r st'→PostV θ B sc env G H s₂ r st' Q→wpAny (model prog w) A (call (.builtin id) (J::us)) Q E s₂
end
section
variable {prog:C9}{w:World}{θ:Th}{B:Fix}
theorem bH {ρ:Rho}{v:V2}{us:List Value}(h:All2 (VRel θ ρ) [v] us):∃u,us=[u]∧VRel θ ρ v u:=by
 cases h with
 |cons p q=>cases q;exact yEA _ rfl p
theorem two_args {ρ:Rho}{v G:V2}{us:List Value}(h:All2 (VRel θ ρ) [v,G] us):∃u u',us=[u,u']∧VRel θ ρ v u∧VRel θ ρ G u':=by
 cases h with
 |cons p q=>cases q with
  |cons H q'=>cases q';exact bp _ _ rfl p H
theorem ku {ρ:Rho}:∀(ps:List (List At)) (l:List (Str×Tok)),l.map (·.1)=ps.map θ.str→All2 (VRel θ ρ) (lj ps) (JR l)
 |[],[],_=>All2.nil
 |[],_::_,h=>by contradiction
 |_::_,[],h=>by contradiction
 |p::ps,(x,t)::l,h=>by
  simp only[FD,Kz]at h;exact All2.cons ⟨t,by rw[←h.1]⟩ (ku ps l h.2)
theorem ta (ok:θ.Ok):pN prog w θ B "split" ⟨uN,lr⟩:=by
 intro sc env ρ st s o ou S ho hp
 cases o with
 |str x=>
  refine xE ho fun t a0=>?_;clear ho;subst a0;refine bt ("str") ("str.split") Hk Im F.type_str_split (EX _ _ _) (fun J e=>(by contradiction)) ?_;intro A E Q a8 a9 s₂ vs us r st' R S₂ _ ha e k;apply ax e;clear e;intro c hv e;have hv:=mV hv;subst hv;refine gX (bH ha) fun u ag tu al=>?_;subst ag;subst al;apply bN e;clear e;intro H e;apply ax e;clear e;intro ps hs e;obtain b1:=eu (bF e).2.1;have O:=pJ (θ:=θ) ok hs;obtain V:(IG (θ.str x) ⟨#[c]⟩).length=(lj ps).length:=by refine(ir O)▸?_;simp[lj]
  obtain hx:(θ.str x).length≤Eu:=ew ok.bd (DG H)
  have done:∀(l:List (Str×Tok)) (tk:Nat),l.map (·.1)=IG (θ.str x) ⟨#[c]⟩→
    Q (.ref s₂.heap.objs.size) { s₂ with heap:=s₂.heap.push { cls:=.type "list",data:=.seq (JR l).toArray },toks:=tk }:=by
   intro l tk hl;refine cL (S₂.alloc e (o:={ cls:=.type "list",data:=.seq (JR l).toArray }) ⟨_,0,rfl,ku ps l (by rw[hl,O])⟩ tk) fun a b c' d=>?_;exact k _ _ _ a b c' d
  obtain Z:θ.str [At.c c]=⟨#[c]⟩:=rfl;refine(ir Z)▸?_;cases h1:(decide ((θ.str x).length<(⟨#[c]⟩:Str).length)||decide (strKind (θ.str x)<strKind ⟨#[c]⟩))
  ·cases hf:(occurrences (θ.str x) ⟨#[c]⟩ 0 (θ.str x).length ((θ.str x).length+1)).isEmpty
   ·have G:IG (θ.str x) ⟨#[c]⟩=partsBetween (θ.str x) (occurrences (θ.str x) ⟨#[c]⟩ 0 (θ.str x).length ((θ.str x).length+1)) (⟨#[c]⟩:Str).length:=
     (if_neg (ne_true_of_eq_false h1)).trans (if_neg (ne_true_of_eq_false hf))
    refine F0 Im (EX _ _ _) Jt (Jk _ _) (meets_str_split_sep (θ.str x) ⟨#[c]⟩ t tu h1 rfl hf hx (by refine G▸(ir V)▸?_;exact b1)) ?_;show wants Q E _ { s₂ with toks:=_,heap:=s₂.heap.push { cls:=.type "list",data:=.seq (strsFrom s₂.toks _).toArray } };rw[strsFrom_eq];exact done _ _ ((numbered_texts _ _).trans G.symm)
   ·exact F0 Im (EX _ _ _) Jt (Jk _ _) (meets_str_split_not_found (θ.str x) ⟨#[c]⟩ t tu h1 rfl hf)
     (done [(θ.str x,t)] s₂.toks ((if_neg (ne_true_of_eq_false h1)).trans (if_pos hf)).symm)
  ·exact F0 Im (EX _ _ _) Jt (Jk _ _) (meets_str_split_cannot_occur (θ.str x) ⟨#[c]⟩ t tu h1)
    (done [(θ.str x,t)] s₂.toks (if_pos h1).symm)
 |_=>contradiction
theorem jV (ok:θ.Ok):pN prog w θ B "partition" ⟨iG,lr⟩:=by
 intro sc env ρ st s o ou S O hp
 cases o with
 |str x=>
  refine xE O fun t a9=>?_;subst a9;refine bt ("str") ("str.partition") Hk Lv F.type_str_partition (EX _ _ _) (fun J e=>(by contradiction)) ?_;intro A E Q G ag s₂ vs us r st' R S₂ _ ha e k;apply ax e;clear e;intro c hv e;have hv:=mV hv;subst hv;refine gX (bH ha) fun u al tu V=>?_;subst al;subst V;apply bN e;clear e;intro H e;refine cz (rA c x) (fun hs=>?_) fun pq hs=>?_
  ·rw[hs]at e;contradiction
  ·obtain⟨p,q⟩:=pq;rw[hs]at e;obtain hx:(θ.str x).length≤Eu:=ew ok.bd (DG H);refine xAA (ni (θ:=θ) c hs) fun h1 h2 h3=>?_
   have done:∀(us:List Value) (tk:Nat),All2 (VRel θ G) (y5 c p q) us→Q (.ref s₂.heap.objs.size) { s₂ with heap:=s₂.heap.push { cls:=.type "tuple",data:=.seq us.toArray },toks:=tk }:=by
    intro us tk hu;refine cL (S₂.alloc e (o:={ cls:=.type "tuple",data:=.seq us.toArray }) ⟨_,0,rfl,by simpa using hu⟩ tk) fun a b c' d=>?_;exact k _ _ _ a b c' d
   obtain Z:θ.str [At.c c]=⟨#[c]⟩:=rfl;refine(ir Z)▸?_;refine F0 Lv (EX _ _ _) F.entry_str_partition (F.args_str_partition_2 _ _) (meets_str_partition (θ.str x) ⟨#[c]⟩ t tu rfl hx) ?_
   cases q with
   |some q=>
    have a0:(θ.str x).cps.toList=θ.flat p++c::θ.flat q:=by rw[bV,h3];simp[Th.at1]
    refine xE (xQ (θ.str x) c _ _ a0 h1) fun r' O=>?_;refine xA (vV (θ.str x) c _ _ a0) fun e1 e2=>?_;refine(ir O)▸?_;obtain f1:strSub (θ.str x) 0 (θ.flat p).length=θ.str p:=eM (by rw[e1,bV]);obtain f2:strSub (θ.str x) ((θ.flat p).length+(⟨#[c]⟩:Str).length) (θ.str x).length=θ.str q:=eM (by rw[e2,bV]);refine done _ _ (All2.cons ⟨s₂.toks,by rw[f1]⟩ (All2.cons ⟨tu,rfl⟩ (All2.cons ⟨s₂.toks+1,by rw[f2]⟩ All2.nil)))
   |none=>
    have a8:x=p:=by refine(ir h3)▸?_;simp
    obtain O:=Al (θ.str x) c (by rw[bV,a8];exact h1);refine(ir O)▸?_;exact done _ _ (All2.cons ⟨t,by rw[a8]⟩ (All2.cons ⟨s₂.toks,rfl⟩ (All2.cons ⟨s₂.toks,rfl⟩ All2.nil)))
 |_=>contradiction
theorem nq {ρ:Rho}:∀{xs:List V2} {r:List At} {J:List Value},uG xs=some r→All2 (VRel θ ρ) xs J→
  ∃l:List (Str×Tok),J=JR l∧(l.map fun p=>p.1.cps.toList).flatten=θ.flat r
 |[],r,J,h,O=>by injection h with h;subst h;cases O;exact yEA ([]) rfl rfl
 |v::xs,r,J,h,O=>by
  cases O with
  |cons p q=>
   cases v with
   |str b=>
    apply aS h;clear h;intro c hj h;injection h with h;subst h;refine xE p fun t G=>?_;clear p;subst G;refine xEA (nq hj q) fun l H e=>?_;clear q;subst H;exact⟨(θ.str b,t)::l,rfl,by simp[e,bV]⟩
   |_=>contradiction
theorem jb:∀xs:List Str,(Gj ⟨#[]⟩ xs).cps.toList=(xs.map fun x=>x.cps.toList).flatten
 |[]=>rfl
 |[x]=>by simp[Gj]
 |x::y::r=>by
  have:=jb (y::r);show(x++⟨#[]⟩++Gj ⟨#[]⟩ (y::r)).cps.toList=_;rw[HC,HC];simp only[Array.toList_append,this];simp
theorem nu {ρ:Rho}:∀{xs:List V2} {r:List At} {G:List Value},uF xs=some r→All2 (VRel θ ρ) xs G→
  ∃bs:List (List UInt8),All2 (fun(b:List UInt8) v=>∃t,v=D3 b.toArray t) bs G∧bs.flatten=θ.flatB r
 |[],r,G,h,H=>by injection h with h;subst h;cases H;exact yEA ([]) All2.nil rfl
 |v::xs,r,G,h,H=>by
  cases H with
  |cons p q=>
   cases v with
   |bytes b=>
    apply aS h;clear h;intro c hj h;injection h with h;subst h;refine xE p fun t J=>?_;clear p;subst J;refine xEA (nu hj q) fun l hl e=>?_;exact yEA (θ.flatB b::l) (All2.cons ⟨t,rfl⟩ hl) (by simp[e])
   |_=>contradiction
theorem vX (ok:θ.Ok):pN prog w θ B "join" ⟨y6,rE⟩:=by
 intro sc env ρ st s o ou S ho hp
 cases o with
 |str x=>
  refine xE ho fun t b7=>?_;clear ho;subst b7;refine bt ("str") ("str.join") Hk F.slot_str_join F.type_str_join (EX _ _ _) (fun J e=>(by contradiction)) ?_;intro A E Q O V s₂ vs us r st' R S₂ _ ha e k
  cases x with
  |cons _ _=>contradiction
  |nil=>
  apply ax e;clear e;intro i Z e;have Z:=mW Z;subst Z;refine vh (bH ha) fun u a0 a hi a8=>?_;subst a0;subst a8;apply bU e;clear e;intro xs h1 e;apply ax e;clear e;intro z hj e;refine xAA (cN e) fun H a9 ag=>?_;subst a9;subst ag;refine aL (S₂.list hi h1) fun items m hx rx=>?_;refine xEA (nq hj rx) fun l hl G=>?_;obtain be:s₂.heap.IsList a (JR l).toArray:=by refine hl▸?_;exact hx.isList
  obtain al:(l.map (·.1)).map (·.length)=l.map fun p=>p.1.cps.toList.length:=by simp[Str.length]
  obtain b1:((l.map (·.1)).map (·.length)).sum=(θ.flat z).length:=by
   refine(ir al)▸G▸(ir List.length_flatten)▸(ir I5)▸?_;rfl
  have hz:=cn ok.bd z;refine SC.join be rfl ?_ fun t' kk=>?_
  ·unfold JoinOk;rw[StrLaws.joinTotal,b1];have:(θ.str []).length=0:=rfl;refine(ir this)▸?_;dsimp only[Nat.mul_zero,Nat.add_zero,Ly,tooLong,decide_eq_false_iff_not];refine(ir Di)▸?_;lia -abstractProof
  ·obtain ej:KL (θ.str []) (l.map (·.1))=θ.str z:=by
    apply eM;show(glued _ _).cps.toList=_;rw[StrLaws.glued_eq_join];have:θ.str []=⟨#[]⟩:=rfl;rw[this,jb,bV,←G,I5];rfl
   refine(ir ej)▸?_;exact k.now S₂ kk ⟨t',rfl⟩
 |bytes x=>
  refine xE ho fun t b2=>?_;clear ho;subst b2;refine bt ("bytes") ("bytes.join") W.FB.plainAttrs_bytes dX gY rfl (fun J e=>(by contradiction)) ?_;intro A E Q O V s₂ vs us r st' R S₂ _ ha e k
  cases x with
  |cons _ _=>contradiction
  |nil=>
  apply ax e;clear e;intro i Z e;have Z:=mW Z;subst Z;refine vh (bH ha) fun u b3 a hi b4=>?_;subst b3;subst b4;apply bU e;clear e;intro xs h1 e;apply ax e;clear e;intro z hj e;refine xAA (iV e) fun H b5 b6=>?_;subst b5;subst b6;refine aL (S₂.list hi h1) fun items m hx rx=>?_;refine xEA (nu hj rx) fun bs hb G=>?_;obtain hz:=dr ok.bd z;refine ja hx hb (by refine(ir G)▸?_;exact o79 H hz) fun t' kk=>?_;refine(ir G)▸?_;exact k.now S₂ kk ⟨t',rfl⟩
 |_=>contradiction
theorem pO:pN prog w θ B "append" ⟨rG,ic⟩:=by
 intro sc env ρ st s o ou S ho hp
 cases o with
 |ref i=>
  refine xEA ho fun a hi a8=>?_;clear ho;subst a8;apply ij hp;clear hp;intro al h0 hp;refine aL (S.list hi h0) fun a0 m0 O J=>?_;refine bt ("list") ("list.append") Js EW Gk ⟨_,O,rfl⟩ (fun b hb=>⟨_,by injection hb with hb;subst hb;exact O,rfl⟩) ?_;intro A E Q a9 ag s₂ vs us r st' R S₂ H ha e k;refine xEA H fun a' G ea=>?_;injection ea with ea;subst ea;apply ax e;clear e;intro v hv e;have hv:=en hv;subst hv;refine xEA (bH ha) fun u V ru=>?_;clear ha;subst V;apply bU e;clear e;intro xs h1 e;apply bN e;clear e;intro hg e;obtain k:=k.ok e;clear e;refine xA ((DM _ _).mp hg) fun g1 g2=>?_;have g1:=Er.mp g1;have g2:=Er.mp g2;refine aL (S₂.list G h1) fun items m hx rx=>?_;have Z:=rx.length;refine F0 EW ⟨_,hx,rfl⟩ GN (Hr _ _) (GZ a items m u (by rw[Di];exact o89 g1 Z)) ⟨hx,?_⟩;refine xA (S₂.put G (o2:=.list (xs++[v])) (f:=DX fun x=>x.push u) hx (by exact o5 g2) ⟨_,_,rfl,by simpa using rx.append (All2.cons ru All2.nil)⟩ s₂.toks) fun S' K'=>?_;exact k _ _ _ S' K' rfl rfl
 |_=>contradiction
theorem xS:pN prog w θ B "pop" ⟨A8,ic⟩:=by
 intro sc env ρ st s o ou S ho hp
 cases o with
 |ref i=>
  refine xEA ho fun a hi ag=>?_;clear ho;subst ag;apply ij hp;clear hp;intro b4 h0 hp;refine aL (S.list hi h0) fun a9 m0 V J=>?_;refine bt ("list") ("list.pop") Js Iy F.type_list_pop ⟨_,V,rfl⟩ (fun b hb=>⟨_,by injection hb with hb;subst hb;exact V,rfl⟩) ?_;intro A E Q al b1 s₂ vs us r st' R S₂ O ha e k;refine xEA O fun a' G ea=>?_;injection ea with ea;subst ea;apply ax e;clear e;intro z Z e;have Z:=vm Z;subst Z;refine gX (bH ha) fun u a0 tu a8=>?_;subst a0;subst a8;obtain hz:θ.iv z 0=z:=rfl;refine(ir hz)▸?_;apply bU e;clear e;intro xs h1 e;apply bN e;clear e;intro hg e;refine xA ((DM _ _).mp hg) fun b2 g3=>?_;refine xA ((DM _ _).mp b2) fun g1 g2=>?_;have g1:=Er.mp g1;have g2:=Er.mp g2;apply ax e;clear e;intro j hj e;apply ax e;clear e;intro v Z e;obtain k:=k.ok e;clear e;refine aL (S₂.list G h1) fun items m hx rx=>?_;have H:=rx.length;dsimp only[Eb]at H;refine xEA (rx.get Z) fun y hy ry=>?_;refine cL (lM hj) fun i1 i2 J J=>?_;rw[H]at i1 i2;obtain b3:=i7 g3;refine F0 Iy ⟨_,hx,rfl⟩ F.entry_list_pop (F.args_list_pop_2 _ _) (PySem.MeetsSeq.list_pop_at a items m z tu j y ?_ i1 (by simpa using hy) (by refine(ir Di)▸?_;exact o89 g1 H)) ⟨hx,?_⟩
  ·simp[IP];lia -abstractProof
  ·refine xA (S₂.put G (o2:=.list (xs.eraseIdx j)) (f:=DX fun x=>x.eraseIdxIfInBounds j) hx (by exact o5 g2) ⟨_,_,rfl,by
    have:=rx.eraseIdx j;simpa [J0,i2] using this⟩ s₂.toks) fun S' K'=>?_
   exact k _ _ _ S' K' rfl ry
 |_=>contradiction
end
end
section
open PySem PyProof.Rows PyProof.V PySem.Builtin PySem.Builtin.Str
section
variable {prog:C9}{w:World}{θ:Th}{B:Fix}{n:Nat}
theorem jc {ρ:Rho}{k:List At}:∀{es:List (List At×V2)} {kvs:List (Str×Value)} {r:Option V2},kZ k es=some r→All2 (fun e H=>H.1=θ.str e.1∧VRel θ ρ e.2 H.2) es kvs→
  match r with
  |some u=>∃v,JA kvs (θ.str k)=some v∧VRel θ ρ u v
  |none=>JA kvs (θ.str k)=none
 |[],kvs,r,h,J=>by injection h with h;subst h;cases J;rfl
 |(a,v)::es,kvs,r,h,J=>by
  cases J with
  | @cons _ H _ kvs p q=>
   apply aS h;clear h;intro b hc h;have G:=im (θ:=θ) hc
   cases b with
   |true=>
    injection h with h;subst h;refine yEA H.2 ?_ p.2;have:H.1=θ.str k:=by refine(ir p.1)▸?_;exact(Iu G).symm
    simp[JA,this]
   |false=>
    obtain O:¬H.1=θ.str k:=by refine(ir p.1)▸?_;exact fun e=>by rw[e]at G;simp at G
    obtain e:JA (H::kvs) (θ.str k)=JA kvs (θ.str k):=by simp[JA,O]
    have:=jc h q;refine(ir e)▸?_;exact this
theorem SRel.dict {sc env ρ st}{s:Shared}(S:SRel θ B sc env ρ st s){i:Nat}{a:Addr}{es:List (List At×V2)}(hi:ρ[i]?=some a)(h:st.hp.get i=some (.dict es)):
  ∃kvs,s.heap.DictOf (strKind θ.P θ.W) a kvs∧(∀e∈es,aP e.1=true)∧All2 (fun e H=>H.1=θ.str e.1∧VRel θ ρ e.2 H.2) es kvs:=by
 refine lH (S.h.obj i _ h) fun O o G J kvs hd r=>?_;rw[hi]at G;injection G with G;subst G;exact yEA kvs (Jx.mpr ⟨o,J,hd⟩) r
theorem SRel.noSys {sc env ρ st}{s:Shared}(S:SRel θ B sc env ρ st s)(hsys:(B.base EE).isSome){a:Addr}(h:a∈ρ):(a==EE)=false:=by
 refine xE (Dv.mp hsys) fun o G=>?_;refine beq_eq_false_iff_ne.mpr ?_;rintro rfl;exact(S.fix _ _ G).2.1 h
theorem xT (hP:θ.P=prog)(hW:θ.W=w)(hsys:(B.base EE).isSome):pN prog w θ B "get" ⟨Ba,rF⟩:=by
 subst hP;subst hW;intro sc env ρ st s o ou S ho hp
 cases o with
 |ref i=>
  refine xEA ho fun a hi O=>?_;clear ho;subst O;apply xG hp;clear hp;intro b2 h0 hp;refine xEA (S.dict hi h0) fun b1 Z J=>?_;refine bt ("dict") ("dict.get") F.plainAttrs_dict Iz F.type_dict_get Z.typeIs Z.mapOf.noDict ?_;intro A E Q a0 a8 s₂ vs us r st' R S₂ V ha e k;refine xEA V fun a' G ea=>?_;injection ea with ea;subst ea;apply ax e;clear e;intro p hv e;have hv:=xM hv;subst hv;obtain⟨key,v⟩:=p;refine aE (two_args ha) fun u u' a9 ag rv=>?_;subst a9;refine xE ag fun tu O=>?_;subst O;apply Ae e;clear e;intro es h1 e;refine aQ (S₂.dict G h1) fun kvs hd J al=>?_;apply ax e;clear e;intro ov hg e;have H:=jc (θ:=θ) hg al
  refine Ll Iz hd.typeIs F.entry_dict_get (F.args_dict_get_3 _ _ _)
   (meets_dict_get_default (strKind θ.P θ.W) a (Gn θ.P θ.W (θ.str key) tu) (S₂.noSys hsys (C6 G)) u') ⟨_,hd.mapOf,?_⟩
  cases ov with
  |some x=>
   obtain k:=k.ok e;clear e;refine xEA H fun y hy ry=>?_;refine(ir hy)▸?_;exact k.now S₂ (s₂.toks+1) ry
  |none=>
   obtain k:=k.ok e;clear e;refine(ir H)▸?_;exact k.now S₂ (s₂.toks+1) rv
 |_=>contradiction
structure Ctx (prog:C9)(w:World)(θ:Th)(B:Fix):Prop where
 ok:θ.Ok
 P:θ.P=prog
 W:θ.W=w
 sys:(B.base EE).isSome
theorem vY (c:Ctx prog w θ B)(m:Str):pN prog w θ B m (rH m):=by
 unfold rH
 cases h1:aA m rB with
 |true=>rw[(ao _ _).mp h1];exact ta c.ok
 |false=>
 cases h2:aA m gF with
 |true=>rw[(ao _ _).mp h2];exact jV c.ok
 |false=>
 cases h3:aA m uK with
 |true=>rw[(ao _ _).mp h3];exact vX c.ok
 |false=>
 cases h4:aA m mK with
 |true=>rw[(ao _ _).mp h4];exact pO
 |false=>
 cases G:aA m y1 with
 |true=>rw[(ao _ _).mp G];exact xS
 |false=>
 cases H:aA m y2 with
 |true=>rw[(ao _ _).mp H];exact xT c.P c.W c.sys
 |false=>intro sc env ρ st s o J S O hp;contradiction
theorem bL {pos:Pos}{env:Env}:∀{es:List Expr},(∀e∈es,bl e)→(EN pos (D6 es env)).any (·.1)=false∧(EN pos (D6 es env)).all (fun x=> !x.1)=true
 |[],_=>⟨rfl,rfl⟩
 |e::r,h=>by
  refine xA (bL (pos:=pos) (env:=env) (es:=r) fun x G=>h x (DB _ G)) fun h1 h2=>?_;rw[aF (h e (DY ..))];exact⟨by trivial,by trivial⟩
theorem dw {sc:Scope}{ev:Expr→Cl}(h:∀e,EvOk prog w θ B n sc e (ev e))(hs:∀e st v st',(ev e).run st=.ok v st'→bl e){pos:Pos}{f:Value}{es:List Expr}{A E Q env ρ st s G st'}
  (R:Rm n A s)(S:SRel θ B sc env ρ st s)(e:(evs ev es).run st=.ok G st')(k:PostL θ B sc env ρ st s G st' (fun us s'=>Q ⟨us,[]⟩ s')):
  wpAny (model prog w) A (evalArgs f true (EN pos (D6 es env)) []) Q E s:=by
 cases es with
 |nil=>obtain k:=k.ok e;clear e;exact Hm (k _ _ _ S (Kp.refl _ _ _) rfl .nil)
 |cons x r=>
  have:=lK (pos:=pos) h hs (x::r) R S e (E:=E) k;rw[aF (bK hs e x (DY ..))]at this⊢;exact DR this
theorem jd {o:Expr}(h:eJ o=true)(m:Str)(env:Env):Ht o m env (eval o env)=eval o env:=by
 cases o<;>first|rfl|contradiction
theorem Rm.le0 {A:Dq}{s:Shared}(R:Rm n A s):Rm 0 A s:=⟨⟨R.1.1,by have:=R.1.2.1;lia -abstractProof,by have:=R.1.2.2;lia -abstractProof⟩,R.2⟩
theorem Am {pos:Pos}{env:Env}{es:List Expr}(h:∀e∈es,bl e)(hl:es.length<30):
  ((EN pos (D6 es env)).all (fun x=> !x.1)&&(backToKw pos (keywordEach [] env)).all (fun x=>x.1.isSome)
   &&decide (es.length+([]:List I9).length+(if ([]:List I9).isEmpty then 0 else 1)<30))=true:=by
 refine(ir ((bL h).2))▸?_;exact decide_eq_true (p:=es.length+0+0<30) hl
theorem te (c:Ctx prog w θ B){sc:Scope}{ev:Expr→Cl}(h:∀e,EvOk prog w θ B n sc e (ev e))(hs:∀e st v st',(ev e).run st=.ok v st'→bl e){o:Expr}{m:Str}{ap pos:Pos}{es:List Expr}
  (hp:eJ o=true)(hl:(ap.endLine==pos.line)=true)(Z:es.length<30):EvOk prog w θ B n sc (.Call (.Attribute o m ap) es [] pos) (uT (ev o) (rH m) (evs ev es)):=by
 intro A E Q env ρ st s v st' R S e k;apply eV e;clear e;intro ov O h1 e;apply bN e;clear e;intro h2 e;apply gG e;clear e;intro vs b1 h3 e;have hns:=bK hs h3;refine Dk (jd hp m env) (Am hns Z) hl (ay R (h o _ _ _ _ _ _ _ _ _ R S h1 fun ou V s₁ G K₁ a0 H J=>?_));refine ek (vY c m sc env V O s₁ ov ou G H h2) fun T id pa a8 ty hT hd hc=>?_;refine bt T id pa a8 ty hT hd ?_;refine Ev (bL hns).1 (ay J (dw h hs J G h3 fun us b2 s₂ a9 K₂ ag al R₂=>?_));exact hc _ _ _ _ _ _ _ _ _ _ R₂.le0 a9 (H.ext K₂.ext) al e (k.after (K₁.trans K₂) (ag.trans a0))
theorem lO {m:Str}{es:List Expr}{Z:Nat}(h:fz m es=some Z):∃G H J O,m="replace"∧es=[.Constant (.str ⟨⟨[Z]⟩⟩) G H,.Constant (.str ⟨⟨[]⟩⟩) J O]:=by
 apply az h;clear h;intro V h;have V:=(ao _ _).mp V
 cases es with
 |nil=>contradiction
 |cons x r=>
 cases r with
 |nil=>contradiction
 |cons y r=>
 cases r with
 |cons _ _=>contradiction
 |nil=>
  dsimp only at h;apply aS h;clear h;intro a h1 h;apply aS h;clear h;intro b h2 h;apply aS h;clear h;intro c h3 h;apply az h;clear h;intro h4 h;injection h with h;subst h;have h3:=vn h3;subst h3;have h4:=sL h4;subst h4;refine xEE (mU h1) fun G H e1=>?_;refine xEE (mU h2) fun J O e2=>?_;clear h1;subst e1;clear h2;subst e2;exact vc G H J O V rfl
theorem vZ (c:Ctx prog w θ B){sc:Scope}{ev:Expr→Cl}(h:∀e,EvOk prog w θ B n sc e (ev e)){o:Expr}{m:Str}{ap pos:Pos}{es:List Expr}{O:Nat}
  (hr:fz m es=some O)(hp:eJ o=true)(hl:(ap.endLine==pos.line)=true):EvOk prog w θ B n sc (.Call (.Attribute o m ap) es [] pos) (zb (ev o) O):=by
 intro A E Q env ρ st s v st' R S e k;apply eV e;clear e;intro ov ag h1 e;refine vi (lO hr) fun ka pa kb pb e1 e2=>?_;subst e1;subst e2;refine Dk (jd hp _ env) rfl hl (ay R (h o _ _ _ _ _ _ _ _ _ R S h1 fun ou al s₁ V Z a0 G a8=>?_))
 cases ov with
 |str y=>
  refine xE G fun t b1=>?_;clear G;subst b1;apply bN e;clear e;intro hg e;refine xA ((DM _ _).mp hg) fun H a9=>?_;obtain a9:=DG a9;refine xAA (cN e) fun b4 b2 b3=>?_;subst b2;clear h1;subst b3;refine bt ("str") ("str.replace") Hk G1 G0 (EX _ _ _) (fun J e=>(by contradiction)) ?_;refine(ir (show EN pos (D6 [.Constant (.str ⟨⟨[O]⟩⟩) ka pa,.Constant (.str ⟨⟨[]⟩⟩) kb pb] env)=[(false,eval (.Constant (.str ⟨⟨[O]⟩⟩) ka pa) env),(false,eval (.Constant (.str ⟨⟨[]⟩⟩) kb pb) env)] from rfl))▸?_;refine Ev rfl (DR (C8 (Ds (C8 (Ds (Dp ?_))))));obtain h0:=a8.2;obtain hy:(θ.str y).length=y.length:=by show(θ.flat y).toArray.size=_;simpa using io H
  refine I4 (by show s₁.toks≠0;exact Dl ‹_›) (by show s₁.toks+1≠0;exact FF _) (by show s₁.toks≠s₁.toks+1;lia -abstractProof) (by rfl) ?_ fun t' kk=>?_
  ·have:(⟨⟨[]⟩⟩:Str).length=0:=rfl;refine(ir this)▸(ir hy)▸?_;lia -abstractProof
  ·obtain er:EM (θ.str y) ⟨⟨[O]⟩⟩ ⟨⟨[]⟩⟩=θ.str (eU O y):=by
    apply eM;have:=replace_strikes (θ.str y) O;rw[bV,nj H,←bV];exact this
   refine(ir er)▸?_;exact(k.after Z a0).now V kk ⟨t',rfl⟩
 |_=>contradiction
theorem tm (c:Ctx prog w θ B){sc:Scope}{ev:Expr→Cl}(h:∀e,EvOk prog w θ B n sc e (ev e))(hs:∀e st v st',(ev e).run st=.ok v st'→bl e){o:Expr}{m:Str}{ap pos:Pos}{es:List Expr}:
  EvOk prog w θ B n sc (.Call (.Attribute o m ap) es [] pos) (uV ev o m ap.endLine es pos.line):=by
 intro A E Q env ρ st s v st' R S e;apply u6 e;clear e;intro J e;refine xA ((DM _ _).mp J) fun hp G=>?_;have G:=Er.mp G;apply u6 e;clear e;intro hl e;have H:(ap.endLine==pos.line)=true:=beq_iff_eq.mpr (nd hl);revert e
 cases O:fz m es with
 |some V=>exact vZ c h O hp H _ _ _ _ _ _ _ _ _ R S
 |none=>exact te c h hs hp H G _ _ _ _ _ _ _ _ _ R S
end
end
section
open PySem PyProof.Rows PyProof.V PySem.Builtin
noncomputable def Keeps (B:Fix) (h:Heap):Prop:=∀a o,B.base a=some o→h.get? a=some o
theorem SRel.keeps {θ:Th}{B:Fix}{sc env ρ st}{s:Shared}(S:SRel θ B sc env ρ st s):Mine.Lake.Keeps B s.heap:=fun a o e=>(S.fix a o e).1
structure Glob (B:Fix) where
 gm:Str→Option Value
 bm:Str→Option Value
 look:∀h,Mine.Lake.Keeps B h→h.Ns B.g gm∧h.Ns B.b bm∧h.NoLimit
noncomputable def Glob.val {B:Fix} (G:Glob B) (x:Str):Option Value:=match G.gm x with
 |some v=>some v
 |none=>G.bm x
section
variable {prog:C9}{w:World}{θ:Th}{B:Fix}{n:Nat}
theorem nv {sc:Scope}{x:Str}(h:bR sc x=true):(x==("__debug__":Str))=false∧au x sc.names=some .globalImplicit:=by
 unfold bR at h;refine aJ (aA x dE) (fun h1=>?_) fun h1=>?_
 ·rw[h1]at h;contradiction
 ·rw[h1]at h;dsimp only at h;refine⟨beq_eq_false_iff_ne.mpr (aW h1),?_⟩
  cases G:au x sc.names with
  |none=>rw[G]at h;contradiction
  |some k=>rw[G]at h;cases k<;>simp at h⊢
theorem cH (G:Glob B){sc env ρ st}{s:Shared}{A:Dq}{E Q:Value→Shared→Prop}{x:Str}{pos:Pos}{v:Value}(S:SRel θ B sc env ρ st s)(V:bR sc x=true)(H:G.val x=some v)(h:Q v s):
  wpAny (model prog w) A (eval (.Name x pos) env) Q E s:=by
 refine xA (nv V) fun hd Z=>?_;refine xAA (G.look s.heap S.keeps) fun hg hb J=>?_;refine FG S.e.fn (S.e.kg x Z) ?_ hd;unfold Glob.val at H;refine cK (G.gm x) (fun u O=>?_) fun O=>?_
 ·rw[O]at H;injection H with H;subst H;exact FW (by refine(ir S.gl)▸?_;exact hg) O h
 ·rw[O]at H;exact FR (by refine(ir S.gl)▸?_;exact hg) O (by refine(ir S.bu)▸?_;exact hb) H h
noncomputable def dJ (B:Fix) (v:Value):Prop:=(∃a o fd,v=.ref a∧B.base a=some o∧o.data=.func fd)∨(∃id,v=.builtin id)∨∃T,v=.type T
theorem fK {v:Value}(H:dJ B v){A:Dq}{E Q:Value→Shared→Prop}{s:Shared}{pos:Pos}{args:List (Bool×Sem Value)}(hp:args.any (·.1)=false)
  (h:wpAny (model prog w) A (evalArgs v true args []) (fun x s₁=>Mine.Lake.Keeps B s₁.heap∧wpAny (model prog w) A (call v x.pos x.kw) Q E s₁) E s):wpAny (model prog w) A (Fu pos v [] args []) Q E s:=by
 rcases H with⟨a,o,fd,rfl,O,hd⟩|⟨id,rfl⟩|⟨T,rfl⟩
 ·exact callWith_function_kw (Dn h (fun x s₁ G=>⟨⟨G.1 a o O,hd⟩,G.2⟩) fun J J e=>e)
 ·exact Ev hp (Dn h (fun x s₁ G=>G.2) fun J J e=>e)
 ·exact EB hp (Dn h (fun x s₁ G=>G.2) fun J J e=>e)
variable (prog w θ B n) in
noncomputable def KcOk (v:Value) (k:Kc):Prop:=
 ∀A E Q sc env ρ st s G us r st',Rm n A s→SRel θ B sc env ρ st s→All2 (VRel θ ρ) G us→k.run G st=.ok r st'→PostV θ B sc env ρ st s r st' Q→wpAny (model prog w) A (call v us) Q E s
theorem dK (id:Str)(p:Pos)(args:List Expr)(pos:Pos)(env:Env):eval (.Call (.Name id p) args [] pos) env=(do
  Fu pos (←eval (.Name id p) env) [] (EN pos (D6 args env)) []):=rfl
theorem nw (G:Glob B){sc:Scope}{ev:Expr→Cl}(h:∀e,EvOk prog w θ B n sc e (ev e))(hs:∀e st v st',(ev e).run st=.ok v st'→bl e){f:Str}{np pos:Pos}{es:List Expr}{k:Kc}{v:Value}
  (hf:bR sc f=true)(hv:G.val f=some v)(hc:dJ B v)(hk:KcOk prog w θ B n v k):EvOk prog w θ B n sc (.Call (.Name f np) es [] pos) (cZ (evs ev es) k):=by
 intro A E Q env ρ st s r st' R S e kk;apply gG e;clear e;intro vs Z h1 e;obtain hns:=bK hs h1;refine il (cH G S hf hv ?_);refine fK hc (bL hns).1 (ay R (dw h hs R S h1 fun us a0 s₁ S₁ H J O V=>⟨S₁.keeps,?_⟩));exact hk _ _ _ _ _ _ _ _ _ _ _ _ V S₁ O e (kk.after H J)
theorem xU:KcOk prog w θ B n (.builtin "len") ⟨A3⟩:=by
 intro A E Q sc env ρ st s vs us r st' R S ha e k;apply ax e;clear e;intro v O e;have O:=en O;subst O;refine xEA (bH ha) fun u V ru=>?_;clear ha;subst V
 cases v with
 |str x=>
  refine xE ru fun t Z=>?_;subst Z;apply bN e;clear e;intro hg e;obtain k:=k.ok e;clear e;refine xA ((DM _ _).mp hg) fun H J=>?_;have J:=DG J;have hy:(θ.str x).length=x.length:=by show(θ.flat x).toArray.size=_;simpa using io H
  refine P.len_str (by refine(ir hy)▸?_;lia -abstractProof) ?_;refine(ir hy)▸?_;exact k.now S _ ⟨_,rfl⟩
 |ref i=>
  refine xEA ru fun a hi a0=>?_;subst a0;apply bU e;clear e;intro xs h1 e;apply bN e;clear e;intro hg e;obtain k:=k.ok e;clear e;have hg:=DG hg;refine aL (S.list hi h1) fun items m hx rx=>?_;have G:=rx.length;dsimp only[Eb]at G;refine len_list hx.isList (by lia -abstractProof) ?_;refine G▸?_;exact k.now S _ ⟨_,rfl⟩
 |_=>contradiction
theorem r6 {ρ:Rho}:∀{xs:List V2} {a r:Int} {us:List Value},zE a xs=some r→All2 (VRel θ ρ) xs us→∃ps:List (Int×Tok),us=ps.map (fun p=>.int p.1 p.2)∧r=a+(ps.map (·.1)).sum
 |[],a,r,us,h,G=>by injection h with h;subst h;cases G;exact⟨[],rfl,by simp⟩
 |v::xs,a,r,us,h,G=>by
  cases G with
  |cons p q=>
   cases v with
   |int b x=>cases x with
    |succ x=>contradiction
    |zero=>
     apply az h;clear h;intro hb h;refine xE p fun t H=>?_;clear p;subst H;refine xEA (r6 h q) fun ps J O=>?_;clear q;subst J;clear h;subst O;exact⟨(b,t)::ps,rfl,by simp[Int.add_assoc]⟩
   |_=>contradiction
end
section
variable {prog:C9}{w:World}{θ:Th}{B:Fix}{n:Nat}
theorem SRel.kept {sc env ρ st}{s:Shared}(x:SRel θ B sc env ρ st s){h':Heap}(G:∀b o,s.heap.get? b=some o→h'.get? b=some o)(t:Nat):SRel θ B sc env ρ st { s with heap:=h',toks:=t }:=
 x.after (Kp.kept NoW ρ s t G) (x.h.kept G) rfl
theorem SRel.added {sc env ρ st st'}{s:Shared}{h':Heap}{t:Nat}{a:Addr}{o2:O2}{o:Obj}{v:V2}(x:SRel θ B sc env ρ st s)(hk:∀b o,s.heap.get? b=some o→h'.get? b=some o)(e:st.alloc o2=.ok v st')
  (G:s.heap.get? a=none)(ha:h'.get? a=some o)(H:ORel θ ρ o2 o):
  SRel θ B sc env (ρ++[a]) st' { s with heap:=h',toks:=t }∧Kp NoW ρ s (ρ++[a]) { s with heap:=h',toks:=t }∧st'.loc=st.loc∧VRel θ (ρ++[a]) v (.ref a):=by
 refine cL (bF e) fun hn J O V=>?_;subst O;subst V;have k:=(Kp.kept NoW ρ s t hk).add G;obtain Z:a∉ρ:=fun hm=>by refine xE (Dv.mp (x.h.live a hm)) fun o H=>?_;rw[G]at H;contradiction
 refine u9 (x.after k ((x.h.kept hk).add (by exact o5 hn) Z ha H (O2.nt J)) rfl) k rfl a ?_ rfl;refine x.h.len▸?_;grind
theorem xV:KcOk prog w θ B n (.builtin "sum") ⟨A5⟩:=by
 intro A E Q sc env ρ st s vs us r st' R S ha e k;apply ax e;clear e;intro v G e;have G:=en G;subst G;apply ax e;clear e;intro i G e;have G:=sK G;subst G;refine vh (bH ha) fun u H a hi J=>?_;subst H;subst J;apply bU e;clear e;intro xs h1 e;apply ax e;clear e;intro z hs e;obtain k:=k.ok e;clear e;refine aL (S.list hi h1) fun items m hx rx=>?_;refine xEA (r6 hs rx) fun ps O hz=>?_
 have V:items=intItems ps.toArray:=by
  apply ES.mp;rw[O];simp[intItems]
 refine sum_intListG R.1.1 (xs:=ps.toArray) (by rw[←V];exact hx.isList) fun h' tk Z hk=>?_;rw[preSum_eq];refine k _ _ _ (S.kept hk tk) (Kp.kept _ _ _ _ hk) rfl ⟨Z,?_⟩;rw[hz];show Dm (List.take ps.toArray.size (ps.toArray.toList.map (·.1))).sum Z=Dm (0+(ps.map (·.1)).sum) Z;rw[Kj (by simp),Int.zero_add]
theorem fL (a:Int):∀(k i:Nat),i<k→(ck a k)[i]?=some (.int (a+i) 0)
 |0,_,h=>absurd h (JH _)
 |k+1,0,_=>by simp[ck]
 |k+1,i+1,h=>by
  have:=fL (a+1) k i (by lia);dsimp only[ck,H4,this]
  congr 2;push_cast;lia
theorem dL (a:Int):∀k:Nat,(ck a k).length=k
 |0=>rfl
 |k+1=>by simp[ck,dL (a+1) k]
theorem iu {α β:Type}{P:α→β→Prop}:∀{x:List α} {y:List β},x.length=y.length→(∀(i:Nat) a b,x[i]?=some a→y[i]?=some b→P a b)→All2 P x y
 |[],[],_,_=>.nil
 |[],_::_,h,_=>by simp at h
 |_::_,[],h,_=>by simp at h
 |a::x,b::y,h,k=>.cons (k 0 a b (by simp) (by simp)) (iu (by simpa using h) fun i a b h1 h2=>k (i+1) a b (by simpa using h1) (by simpa using h2))
theorem v0 {ρ:Rho}{a:Int}{k:Nat}{acc:Array Value}(h:ItemsOf (fun i v=>∃t,v=.int (a+i*1) t) acc k):All2 (VRel θ ρ) (ck a k) acc.toList:=by
 refine iu (by rw[dL];simp[h.1]) fun i x v h1 h2=>?_;obtain hi:i<k:=by refine(dL a k)▸?_;exact(Dz.mp h1).1
 rw[fL a k i hi]at h1;injection h1 with h1;subst h1;refine xE (h.2 i v (by simpa using h2)) fun t G=>?_;clear h2;subst G;exact⟨t,by simp[Th.iv]⟩
theorem je {A:Dq}{E Q:Value→Shared→Prop}{sc env ρ st}{s:Shared}{vs:List V2}{us:List Value}{a:Int}{m:Nat}(S:SRel θ B sc env ρ st s)(ha:All2 (VRel θ ρ) vs us)(e:ia vs=some (.range a m))
  (h:∀r b t u v s',IsRange s'.heap r a b 1 t u v→Jz a b 1=true→Ee a b 1=(m:Int)→m≤2000001→SRel θ B sc env ρ st s'→Kp NoW ρ s ρ s'→Q (.ref r) s'):
  wpAny (model prog w) A (call (.type "range") us) Q E s:=by
 refine gM e (fun k hv e=>?_) fun x y hv e=>?_<;>subst hv
 ·refine gX (bH ha) fun u H t J=>?_;subst H;subst J
  cases k with
  |negSucc k=>contradiction
  |ofNat k=>
  apply az e;clear e;intro hk e;cases e;obtain hk:=Er.mp hk;have hz:θ.iv (Eg m) 0=(m:Int):=rfl;refine(ir hz)▸?_;refine Lk (h _ (m:Int) s.toks t (s.toks+1) _ (rh _ rfl) (small_one (by lia) (by decide) (by lia) (by lia)) ?_ (by lia) (S.junk _ _) (Kp.junk _ _ _ _ _));rw[rangeSize_one];split<;>lia
 ·refine aE (two_args ha) fun u u' O V G=>?_;subst O;refine xE V fun t Z=>?_;subst Z;refine xE G fun t' a0=>?_;subst a0;apply az e;clear e;intro h1 e;apply az e;clear e;intro h2 e;cases e;obtain b1:=cP h1;obtain b2:=cP h2;obtain hz:θ.iv a 0=a:=rfl;obtain a8:θ.iv y 0=y:=rfl;refine(ir hz)▸(ir a8)▸?_;refine call_range_2 (h _ y t t' s.toks _ (rh _ rfl) (small_one (by lia) (by lia) (by lia) (by lia)) ?_ (by lia) (S.junk _ _) (Kp.junk _ _ _ _ _));rw[rangeSize_one];split<;>grind
theorem lP (G:Glob B){sc:Scope}{ev:Expr→Cl}(h:∀e,EvOk prog w θ B n sc e (ev e))(hs:∀e st v st',(ev e).run st=.ok v st'→bl e){f g:Str}{np gp pos V:Pos}{es:List Expr}
  (hf:bR sc f=true)(b1:G.val f=some (.type "list"))(hg:bR sc g=true)(b2:G.val g=some (.type "range")):
  EvOk prog w θ B n sc (.Call (.Name f np) [.Call (.Name g gp) es [] V] [] pos) (uP (evs ev es)):=by
 intro A E Q env ρ st s r st' R S e k;apply gG e;clear e;intro vs b3 h1 e;apply ax e;clear e;intro b4 h2 e
 cases b4 with
 |list _=>contradiction
 |range a m=>
  apply bN e;clear e;intro h3 e;obtain hm:=Er.mp h3;obtain hns:=bK hs h1;refine il (cH G S hf b1 ?_);refine EB rfl (DR (C8 ?_));refine il (cH G S hg b2 ?_);refine EB (bL hns).1 (ay R (dw h hs R S h1 fun us b5 s₁ Z K₁ a0 a8 b7=>?_));refine je Z a8 h2 fun ra b t u v s₂ hr H O J S₂ a9=>Dp ?_;refine call_list_range R.1.1 hr H O (by lia) fun h' tk ag c' hk b6 al=>?_;refine cL (S₂.added (t:=tk) hk e (bb _) b6 ⟨ag,c',rfl,v0 al⟩) fun a1 a2 a3 a4=>?_;exact k _ _ _ a1 ((K₁.trans a9).trans a2) (a3.trans a0) a4
end
theorem Rm.le {n:Nat}{A:Dq}{s:Shared}(R:Rm (n+1) A s):Rm n A s:=⟨R.1.le,R.2⟩
section
variable (prog:C9)(w:World)(θ:Th)(B:Fix)(n:Nat)
noncomputable def PostX (sc:Scope) (env:Env) (ρ:Rho) (s:Shared) (r:Rf) (Q:Flow→Shared→Prop):Prop:=match r with
 |.no=>True
 |.next st'=>∀ρ' s',SRel θ B sc env ρ' st' s'→Kp (Wf env) ρ s ρ' s'→Q .next s'
 |.brk st'=>∀ρ' s',SRel θ B sc env ρ' st' s'→Kp (Wf env) ρ s ρ' s'→Q .brk s'
 |.ret v st'=>∀u ρ' s',SRel θ B sc env ρ' st' s'→Kp (Wf env) ρ s ρ' s'→VRel θ ρ' v u→Q (.ret u) s'
noncomputable def StOk (sc:Scope) (t:Stmt) (c:Xc):Prop:=
 ∀A E Q env ρ st s r,Rm n A s→SRel θ B sc env ρ st s→c.run st=r→r≠.no→PostX θ B sc env ρ s r Q→wpAny (model prog w) A (exec t env) Q E s
noncomputable def ExOk (sc:Scope) (b:List Stmt) (c:Xc):Prop:=
 ∀A E Q env ρ st s r,Rm n A s→SRel θ B sc env ρ st s→c.run st=r→r≠.no→PostX θ B sc env ρ s r Q→wpAny (model prog w) A (execs b env) Q E s
structure CQ (F:Fn):Prop where
 ev:∀sc e,EvOk prog w θ B n sc e (F.ev sc e)
 star:∀sc e st v st',(F.ev sc e).run st=.ok v st'→bl e
 mark:∀sc e st v st',(F.ev sc e).run st=.ok v st'→∀op,GY op e=false
 tr:∀sc e,TrOk prog w θ B n sc e (F.tr sc e)
 ex:∀sc b,ExOk prog w θ B n sc b (F.ex sc b)
end
section
variable {prog:C9}{w:World}{θ:Th}{B:Fix}{n:Nat}{sc:Scope}
theorem Kp.wf {env:Env}{ρ ρ':Rho}{s s':Shared}(k:Kp NoW ρ s ρ' s'):Kp (Wf env) ρ s ρ' s':=k.weaken fun J J f=>f.elim
theorem Kp.wo {env:Env}{x:Str}{ρ ρ':Rho}{s s':Shared}(k:Kp (Wo env x) ρ s ρ' s'):Kp (Wf env) ρ s ρ' s':=k.weaken fun J J f=>f.wf
theorem PostX.after {env ρ s G s₁ r Q}(h:PostX θ B sc env ρ s r Q)(k:Kp (Wf env) ρ s G s₁):PostX θ B sc env G s₁ r Q:=by
 cases r with
 |no=>trivial
 |next st'=>exact fun ρ' s' S K=>h ρ' s' S (k.trans K)
 |brk st'=>exact fun ρ' s' S K=>h ρ' s' S (k.trans K)
 |ret v st'=>exact fun u ρ' s' S K r=>h u ρ' s' S (k.trans K) r
theorem dM {x:Str}{p:Pos}{A:Dq}{E:Value→Shared→Prop}{Q:Unit→Shared→Prop}{env ρ st}{s:Shared}{v:V2}{u:Value}(S:SRel θ B sc env ρ st s)(G:bQ sc x=true)(H:VRel θ ρ v u)
  (h:∀s',SRel θ B sc env ρ (st.with (up x v st.loc)) s'→Kp (Wo env x) ρ s ρ s'→Q () s'):wpAny (model prog w) A (Go (.Name x p) env u) Q E s:=
 Ea (eL S G H h)
theorem gZ {e:Expr}(h1:∀op v p,e≠.BoolOp op v p)(h2:∀x p,e≠.UnaryOp .Not x p)(h3:∀a b c p,e≠.IfExp a b c p)(h4:∀a b c p,e≠.Compare a b c p)(env:Env)(whole:Sem Value):
  isTrue e env whole=(do let v ←whole;IE e.pos;Kg [v] (truthy v)):=by
 cases e with
 |BoolOp op v p=>exact absurd rfl (h1 op v p)
 |UnaryOp op x p=>cases op with
  |Not=>exact absurd rfl (h2 x p)
  |_=>rfl
 |IfExp a b c p=>exact absurd rfl (h3 a b c p)
 |Compare a b c p=>exact absurd rfl (h4 a b c p)
 |_=>rfl
theorem wa {a b:Expr}{op:CmpOp}{p:Pos}{ca cb:Cl}{k:Bo}(ha:EvOk prog w θ B n sc a ca)(hb:EvOk prog w θ B n sc b cb)(hk:fG prog w θ B n (HN op) k)(hm:GY op b=false):
  TrOk prog w θ B n sc (.Compare a [op] [b] p) (lB (d0 ca cb k)):=by
 intro A E Q env ρ st s b st' R S e h;apply pw e;clear e;intro v Z h1 e;refine u2 e fun hv hs=>?_;subst hs;exact DI (Dn (fH (op:=HN op) (Q:=fun c s₃=>wpAny (model prog w) A (truthy c) Q E s₃) (E:=E) ha hb hk R S h1 fun u a0 s₁ G H O V=>kq hv V (h _ _ G H O)) (fun J J h=>h) fun J J e=>e) hm
theorem wb {a:Expr}{p:Pos}{t:Tc}(h:TrOk prog w θ B n sc a t):TrOk prog w θ B n sc (.UnaryOp .Not a p) (ze t):=by
 intro A E Q env ρ st s b st' R S e k;apply lD e;clear e;intro c G h1 e;injection e with e1 e2;subst e1;subst e2;exact It (h A E (fun b s₁=>Q (!b) s₁) env ρ st s c _ R S h1 fun ρ' s' H J l'=>k ρ' s' H J l')
theorem pP {tr:Expr→Tc}(h:∀e,TrOk prog w θ B n sc e (tr e)):∀(es:List Expr) {A E Q env ρ st s b st'},Rm n A s→SRel θ B sc env ρ st s→(bG tr es).run st=.ok b st'→PostB θ B sc env ρ st s b st' Q→wpAny (model prog w) A (allTrue .And es env) Q E s:=by
 intro es
 induction es with
 |nil=>intro A E Q env ρ st s b st' R S e k;injection e with e1 e2;subst e1;subst e2;exact IJ (k _ _ S (Kp.refl _ _ _) rfl)
 |cons x r ih=>
  intro A E Q env ρ st s b st' R S e k;apply lD e;clear e;intro c O h1 e;refine Ef (ay R (h x A _ _ env ρ st s c O R S h1 fun Z s₁ G H J V=>?_))
  cases c with
  |true=>exact ih V G e (k.after H J)
  |false=>injection e with e1 e2;subst e1;subst e2;exact k _ _ G H J
theorem tn {tr:Expr→Tc}(h:∀e,TrOk prog w θ B n sc e (tr e)):∀(es:List Expr) {A E Q env ρ st s b st'},Rm n A s→SRel θ B sc env ρ st s→(o8 tr es).run st=.ok b st'→PostB θ B sc env ρ st s b st' Q→wpAny (model prog w) A (allTrue .Or es env) Q E s:=by
 intro es
 induction es with
 |nil=>intro A E Q env ρ st s b st' R S e k;injection e with e1 e2;subst e1;subst e2;exact wpAny_allTrue_Or_nil (k _ _ S (Kp.refl _ _ _) rfl)
 |cons x r ih=>
  intro A E Q env ρ st s b st' R S e k;apply lD e;clear e;intro c O h1 e;refine wpAny_allTrue_Or_cons (ay R (h x A _ _ env ρ st s c O R S h1 fun Z s₁ G H J V=>?_))
  cases c with
  |true=>injection e with e1 e2;subst e1;subst e2;exact k _ _ G H J
  |false=>exact ih V G e (k.after H J)
theorem jf {t:Stmt}{r:List Stmt}{c d:Xc}(Z:StOk prog w θ B n sc t c)(hr:ExOk prog w θ B n sc r d):
  ExOk prog w θ B n sc (t::r) ⟨fun st=>bo (c.run st) d.run⟩:=by
 intro A E Q env ρ st s o R S e H k;dsimp only at e;refine DL ?_;refine cRf (c.run st) (fun h1=>?_) (fun G h1=>?_) (fun G h1=>?_) fun v G h1=>?_
 ·rw[h1]at e;exact absurd e.symm H
 ·rw[h1]at e;refine ay R (Z _ _ _ env ρ st s _ R S h1 (by simp) ?_);exact fun a0 s₁ J O V=>hr _ _ _ _ _ _ _ _ V J e H (k.after O)
 ·rw[h1]at e;clear H;subst e;exact Z _ _ _ env ρ st s _ R S h1 (by simp) k
 ·rw[h1]at e;clear H;subst e;exact Z _ _ _ env ρ st s _ R S h1 (by simp) k
theorem fN:ExOk prog w θ B n sc [] ⟨fun st=>.next st⟩:=by
 intro A E Q env ρ st s o R S e G k;clear G;subst e;exact C7 (k _ _ S (Kp.refl _ _ _))
theorem Bx {t:Expr}{a b:List Stmt}{p:Pos}{ct:Tc}{Z cb:Xc}(ht:TrOk prog w θ B n sc t ct)(ha:ExOk prog w θ B n sc a Z)(hb:ExOk prog w θ B n sc b cb):StOk prog w θ B n sc (.If t a b p) (Bg ct Z cb):=by
 intro A E Q env ρ st s o R S e J k;apply Ad e J;clear e;intro c O h1 e;refine wpAny_If (ay R (ht _ _ _ env ρ st s c O R S h1 fun V s₁ G K₁ a0 H=>?_))
 cases c with
 |true=>exact ha _ _ _ _ _ _ _ _ H G e J (k.after K₁.wf)
 |false=>exact hb _ _ _ _ _ _ _ _ H G e J (k.after K₁.wf)
theorem An {e:Expr}{p:Pos}{c:Cl}(h:EvOk prog w θ B n sc e c):StOk prog w θ B n sc (.Return (some e) p) (pr c):=by
 intro A E Q env ρ st s o R S G H k;dsimp only[pr]at G;apply dk G H;clear G;intro v V h1 G;clear H;subst G;exact wpAny_Return_some (h _ _ _ _ _ _ _ _ _ R S h1 fun u Z s₁ J K₁ a0 O=>k _ _ _ J K₁.wf O)
theorem Ao {p:Pos}:StOk prog w θ B n sc (.Break p) ⟨fun st=>.brk st⟩:=by
 intro A E Q env ρ st s o R S e G k;clear G;subst e;exact wpAny_Break (k _ _ S (Kp.refl _ _ _))
theorem xW {f:Expr}{a:List Expr}{kw:List I9}{p q:Pos}{c:Cl}(h:EvOk prog w θ B n sc (.Call f a kw p) c):StOk prog w θ B n sc (.Expr (.Call f a kw p) q) (po c):=by
 intro A E Q env ρ st s o R S e G k;dsimp only[po]at e;apply dk e G;clear e;intro v J h1 e;clear G;subst e;refine wpAny_Expr_any (h _ _ _ _ _ _ _ _ _ R S h1 fun u O s₁ H K₁ V Z=>k _ _ H K₁.wf) ?_ rfl;unfold DS;refine(ir S.e.fn)▸?_;rfl
noncomputable def WhI (θ:Th) (B:Fix) (sc:Scope) (env:Env) (A:Dq) (n:Nat) (ρ:Rho) (s:Shared) (ct:Tc) (G:Xc) (o:Rf) (m:Nat) (s':Shared):Prop:=∃ρ' st',SRel θ B sc env ρ' st' s'∧Kp (Wf env) ρ s ρ' s'∧Rm n A s'∧dp (sw ct G m st')=o
theorem wd {t:Expr}{b:List Stmt}{p:Pos}{ct:Tc}{cb:Xc}(ht:TrOk prog w θ B n sc t ct)(hb:ExOk prog w θ B n sc b cb):StOk prog w θ B n sc (.While t b [] p) (rM ct cb):=by
 intro A E Q env ρ st s o R S e a9 k;refine wpAny_While (codeAny_whileLoop (WhI θ B sc env A n ρ s ct cb o) ?_ 64 ⟨ρ,st,S,Kp.refl _ _ _,R,e⟩);intro m s' ag;refine Ai (id ag) fun ρ' st' S' K' R' H=>?_
 cases m with
 |zero=>exact absurd H.symm a9
 |succ m=>
  apply xF H a9;clear H;intro c G h1 H;refine ay R' (ht _ _ _ env ρ' st' s' c G R' S' h1 fun b2 s₁ a0 K₁ b3 a8=>?_)
  cases c with
  |false=>clear ag e;subst H;exact C7 (k _ _ a0 (K'.trans K₁.wf))
  |true=>
   refine cRf (cb.run G) (fun h2=>?_) (fun V h2=>?_) (fun V h2=>?_) fun v V h2=>?_
   ·replace H:dp (bo (cb.run G) (sw ct cb m))=o:=H;rw[h2]at H;exact absurd H.symm a9
   ·replace H:dp (bo (cb.run G) (sw ct cb m))=o:=H;rw[h2]at H
    refine ay a8 (hb _ _ _ _ _ _ _ _ a8 a0 h2 (by simp) fun Z s₂ J O al=>?_);exact⟨m,DV _,Z,V,J,(K'.trans K₁.wf).trans O,al,H⟩
   ·replace H:dp (bo (cb.run G) (sw ct cb m))=o:=H;rw[h2]at H;clear ag a9 e;subst H
    exact hb _ _ _ _ _ _ _ _ a8 a0 h2 (by simp) fun Z s₂ J O=>k _ _ J ((K'.trans K₁.wf).trans O)
   ·replace H:dp (bo (cb.run G) (sw ct cb m))=o:=H;rw[h2]at H;subst H
    exact hb _ _ _ _ _ _ _ _ a8 a0 h2 (by trivial) fun u Z s₂ J O b1=>k _ _ _ J ((K'.trans K₁.wf).trans O) b1
end
section
variable {prog:C9}{w:World}{θ:Th}{B:Fix}{n:Nat}{sc:Scope}
theorem HRel.of {ρ:Rho}{n:Nat}{T:T2}{h h':Heap}(x:HRel θ ρ n T h)(J:∀b∈ρ,∀o,h.get? b=some o→h'.get? b=some o):HRel θ ρ n T h' where
 len:=x.len
 nodup:=x.nodup
 live:=fun a G=>by refine xE (Dv.mp (x.live a G)) fun o O=>?_;refine(ir (J a G o O))▸?_;rfl
 obj:=fun i v V=>by
  refine aE (x.obj i v V) fun a Z G H hr=>?_;exact bp a Z G (J _ (C6 G) _ H) hr
 tab:=x.tab
theorem ERel.of {ρ:Rho}{env:Env}{loc}{h h':Heap}(x:ERel θ ρ sc env loc h)(H:∀b o,Wf env b→h.get? b=some o→h'.get? b=some o):ERel θ ρ sc env loc h' where
 fn:=x.fn
 kl:=x.kl
 kc:=x.kc
 kf:=x.kf
 kg:=x.kg
 ns:=by
  refine xEA x.ns fun m J h=>?_;refine bq J fun o es ep G r=>?_;exact yEA m ⟨o,es,ep,H _ _ (.inl rfl) G,r⟩ h
 cell:=fun y hy=>by
  refine aZ (x.cell y hy) fun c v' hc O V Z h=>?_;refine xEA Z fun o G hd=>?_;exact bi c v' hc O V ⟨o,H _ _ (.inr ⟨y,hc⟩) G,hd⟩ h
 apart:=x.apart
 out:=x.out
 clive:=fun y c hc=>by refine xE (Dv.mp (x.clive y c hc)) fun o G=>?_;refine(ir (H c o (.inr ⟨y,hc⟩) G))▸?_;rfl
theorem SRel.but {env ρ st}{s:Shared}(S:SRel θ B sc env ρ st s){it:Addr}(h1:it∉ρ)(h2:¬Wf env it)(h3:B.base it=none){h':Heap}(G:∀b o,b≠it→s.heap.get? b=some o→h'.get? b=some o)(t:Nat):
  SRel θ B sc env ρ st { s with heap:=h',toks:=t } where
 h:=S.h.of fun b hb o e=>G b o (fun q=>h1 (q▸hb)) e
 e:=S.e.of fun b o hb e=>G b o (fun q=>h2 (q▸hb)) e
 gl:=S.gl
 bu:=S.bu
 fix:=fun a o e=>by
  refine xAA (S.fix a o e) fun H J O=>?_;exact⟨G a o (by rintro rfl;rw[h3]at e;contradiction) H,J,O⟩
theorem Kp.but {W:Addr→Prop}{ρ ρ':Rho}{s s':Shared}(k:Kp W ρ s ρ' s'){it:Addr}(H:s.heap.get? it=none){h':Heap}(J:∀b o,b≠it→s'.heap.get? b=some o→h'.get? b=some o)(t:Nat):
  Kp W ρ s ρ' { s' with heap:=h',toks:=t } where
 ext:=k.ext
 same:=k.same.trans ⟨rfl,rfl,id⟩
 alive:=fun a G=>by
  refine xE (Dv.mp (k.alive a G)) fun o O=>?_;show(h'.get? a).isSome=true;refine(ir (J a o (by rintro rfl;rw[H]at G;contradiction) O))▸?_;rfl
 keep:=fun a o G V e=>(k.keep a o G V e).trans fun Z e'=>.inl (J a Z (by rintro rfl;rw[H]at e;contradiction) e')
 fresh:=k.fresh
noncomputable def ItRel (G:Src) (ρ:Rho) (it:Addr) (k:Nat) (h:Heap):Prop:=match G with
 |.list i=>∃a,ρ[i]?=some a∧a≠it∧h.IsListIter it a k
 |.range a n=>Ie h it (a+k) ((n:Int)-k) 1
theorem ItRel.of {G:Src}{ρ ρ':Rho}{it:Addr}{k:Nat}{h h':Heap}(x:ItRel G ρ it k h)(e:Ext ρ ρ')(J:∀o,h.get? it=some o→h'.get? it=some o):ItRel G ρ' it k h':=by
 cases G with
 |list i=>refine vg x fun a O H o V r=>?_;exact Af a (e i a O) H o (J o V) r
 |range a n=>exact J _ x
theorem ItRel.nt {G:Src}{ρ:Rho}{it:Addr}{k:Nat}{h:Heap}(x:ItRel G ρ it k h){o:Obj}(H:h.get? it=some o):∀ps,o≠cM ps:=by
 intro ps q
 cases G with
 |list i=>refine xK x fun a J J V O hc J=>?_;rw[O]at H;injection H with H;subst H;rw[q]at hc;contradiction
 |range a n=>
  have:=congrArg Ik (Dd (x.symm.trans H));rw[q]at this;contradiction
theorem ItRel.live {G:Src}{ρ:Rho}{it:Addr}{k:Nat}{h:Heap}(x:ItRel G ρ it k h):(h.get? it).isSome=true:=by
 cases G with
 |list i=>refine vg x fun a O H o J r=>?_;refine(ir J)▸?_;rfl
 |range a n=>have x:h.get? it=_:=x;refine(ir x)▸?_;rfl
theorem kA {H:Src}{env ρ st}{s:Shared}{A:Dq}{E:Value→Shared→Prop}{Q:Option Value→Shared→Prop}{it:Addr}{k:Nat}{v:V2}(hA:A.handled=none)(S:SRel θ B sc env ρ st s)(x:ItRel H ρ it k s.heap)
  (e:H.at st.hp k=some (some v))
  (h:∀u h' t,VRel θ ρ v u→ItRel H ρ it (k+1) h'→(∀b o,b≠it→s.heap.get? b=some o→h'.get? b=some o)→Q (some u) { s with heap:=h',toks:=t }):
  wpAny (model prog w) A (Hp (.ref it)) Q E s:=by
 cases H with
 |list i=>
  refine aQ x fun a Z O V=>?_;apply rS e;clear e;intro xs h1 e;have e:xs[k]?=some v:=fq (Dd e);refine aL (S.list Z h1) fun items m hx rx=>?_;refine xEA (rx.get e) fun u hu ru=>?_;refine IB V hx.isList (x:=u) (by simpa using hu) fun h' G J=>?_;exact h u h' s.toks ru ⟨a,Z,O,G⟩ fun b o hb e=>J.extBut b o hb e
 |range a m=>
  refine c8 e (fun h1 e=>?_) fun h1 e=>?_
  ·injection e with e;injection e with e;subst e;obtain h1:=Er.mp h1;refine Is x (by lia -abstractProof) fun h' G J=>?_;refine h _ h' _ ⟨s.toks,rfl⟩ ?_ fun b o hb e=>J.extBut b o hb e;show Ie h' it (a+((k+1:Nat):Int)) ((m:Int)-((k+1:Nat):Int)) 1;obtain e1:a+((k+1:Nat):Int)=a+(k:Int)+1:=by push_cast;lia -abstractProof
   obtain e2:(m:Int)-((k+1:Nat):Int)=(m:Int)-(k:Int)-1:=by push_cast;lia -abstractProof
   refine(ir e1)▸(ir e2)▸?_;exact G
  ·injection e with e;contradiction
theorem nx {G:Src}{env ρ st}{s:Shared}{A:Dq}{E:Value→Shared→Prop}{Q:Option Value→Shared→Prop}{it:Addr}{k:Nat}(J:A.handled=none)(S:SRel θ B sc env ρ st s)(x:ItRel G ρ it k s.heap)
  (e:G.at st.hp k=some none)(h:∀h' t,(∀b o,b≠it→s.heap.get? b=some o→h'.get? b=some o)→Q none { s with heap:=h',toks:=t }):
  wpAny (model prog w) A (Hp (.ref it)) Q E s:=by
 cases G with
 |list i=>
  refine aQ x fun a O V H=>?_;apply rS e;clear e;intro xs h1 e;have e:xs[k]?=none:=fq (Dd e);refine aL (S.list O h1) fun items m Z rx=>?_;obtain hu:=rx.get_none e;exact II J H Z.isList (by simpa using hu) fun h' he=>h h' s.toks fun b o hb e=>he b o hb e
 |range a m=>
  refine c8 e (fun h1 e=>?_) fun h1 e=>?_
  ·injection e with e;contradiction
  ·obtain h1:¬k<m:=fun h=>by rw[Er.mpr h]at h1;contradiction
   exact IA J x (by lia -abstractProof) fun h' he=>h h' s.toks fun b o hb e=>he b o hb e
noncomputable def By (G:Src) (ρ:Rho) (u:Value) (h:Heap):Prop:=match G with
 |.list i=>∃a,ρ[i]?=some a∧u=.ref a
 |.range a n=>∃r b t u' v,u=.ref r∧IsRange h r a b 1 t u' v∧Jz a b 1=true∧Ee a b 1=(n:Int)
variable (prog w θ B n) in
noncomputable def jg (sc:Scope) (e:Expr) (c:Sc):Prop:=
 ∀A E Q env ρ st s G st',Rm n A s→SRel θ B sc env ρ st s→c.run st=.ok G st'→
  (∀u ρ' s',SRel θ B sc env ρ' st' s'→Kp NoW ρ s ρ' s'→st'.loc=st.loc→By G ρ' u s'.heap→Q u s')→wpAny (model prog w) A (eval e env) Q E s
theorem jh {G:Src}{env ρ st}{s:Shared}{A:Dq}{E Q:Value→Shared→Prop}{u:Value}(S:SRel θ B sc env ρ st s)(x:By G ρ u s.heap)(e:G.at st.hp 0≠none)
  (h:∀it h' t,s.heap.get? it=none→ItRel G ρ it 0 h'→(h'.get? it).isSome=true→(∀b o,s.heap.get? b=some o→h'.get? b=some o)→Q (.ref it) { s with heap:=h',toks:=t }):
  wpAny (model prog w) A (Lh u) Q E s:=by
 cases G with
 |list i=>
  refine xEA x fun a Z H=>?_;clear x;subst H
  cases hl:st.hp.lst i with
  |none=>exact absurd (by show oS (st.hp.lst i) _=none;refine(ir hl)▸?_;rfl) e
  |some xs=>
   have h1:=ii hl;refine aL (S.list Z h1) fun items m hx rx=>?_;refine Ia hx.isList (h _ _ s.toks (bb _) ⟨a,Z,Dh (rl hx),_,rh _ rfl,rfl,rfl⟩ ?_ fun b o e=>mc _ e);rw[rh _ rfl];rfl
 |range a m=>
  refine sF x fun r b t u' v J hr O V=>?_;clear x;subst J;refine Jo hr O (h _ _ s.toks (bb _) ?_ ?_ fun b o e=>mc _ e)
  ·show Ie _ _ (a+((0:Nat):Int)) ((m:Int)-((0:Nat):Int)) 1;refine(ir V)▸?_;obtain e1:a+((0:Nat):Int)=a:=by simp
   obtain e2:(m:Int)-((0:Nat):Int)=m:=by rfl
   refine(ir e1)▸(ir e2)▸?_;exact rh _ rfl
  ·rw[rh _ rfl];rfl
theorem gQ {e:Expr}{c:Cl}(h:EvOk prog w θ B n sc e c):jg prog w θ B n sc e (fy c):=by
 intro A E Q env ρ st s V st' R S e k;apply zX e;clear e;intro v G h1 e
 cases v with
 |ref i=>
  injection e with H J;subst H;subst J;refine h _ _ _ _ _ _ _ _ _ R S h1 fun u ρ' s' Z K' l' r'=>k u ρ' s' Z K' l' ?_;refine xEA r' fun a ha O=>?_;clear r';subst O;exact yEA a ha rfl
 |_=>contradiction
theorem ny (G:Glob B){ev:Expr→Cl}(h:∀e,EvOk prog w θ B n sc e (ev e))(hs:∀e st v st',(ev e).run st=.ok v st'→bl e){g:Str}{gp pos:Pos}{es:List Expr}(hg:bR sc g=true)(al:G.val g=some (.type "range")):
  jg prog w θ B n sc (.Call (.Name g gp) es [] pos) (mL (evs ev es)):=by
 intro A E Q env ρ st s b1 st' R S e k;apply zY e;clear e;intro vs b2 h1 e;apply zZ e;clear e;intro b5 h2 e;cases e;have hns:=bK hs h1
 have O:∃a m,b1=.range a m:=by
  refine gM h2 (fun z J h2=>?_) fun x y J h2=>?_
  ·cases z with
   |negSucc z=>contradiction
   |ofNat z=>
    apply az h2;clear h2;intro hz h2;injection h2 with h2;clear k;subst h2;exact yEE _ _ rfl
  ·apply az h2;clear h2;intro hz h2;apply az h2;clear h2;intro b7 h2;injection h2 with h2;clear k;subst h2;exact yEE _ _ rfl
 refine xEE O fun a m b3=>?_;clear O;subst b3;refine il (cH G S hg al ?_);refine EB (bL hns).1 (ay R (dw h hs R S h1 fun us b4 s₁ Z K₁ a0 a8 b6=>?_));exact je Z a8 h2 fun ra b t u v s₂ hr H V J a9 ag=>k _ _ _ a9 (K₁.trans ag) a0 ⟨ra,b,t,u,v,rfl,hr,H,V⟩
theorem r7 {α:Type}{C:Prop}{o:Option α}{f:α→Rf}{r:Rf}(e:dp (osf o f)=r)(n:r≠.no)(k:∀a,o=some a→dp (f a)=r→C):C:=by
 cases o with
 |none=>exact absurd e.symm n
 |some a=>exact k a rfl e
noncomputable def FoI (θ:Th) (B:Fix) (sc:Scope) (env:Env) (A:Dq) (n:Nat) (ρ₀:Rho) (s₀:Shared) (G:Src) (x:Str) (H:Xc) (I:Addr) (o:Rf) (m:Nat) (s':Shared):Prop:=∃ρ' st' j,SRel θ B sc env ρ' st' s'∧Kp (Wf env) ρ₀ s₀ ρ' s'∧Rm n A s'∧ItRel G ρ' I j s'.heap∧I∉ρ'∧dp (zU G x H m j st')=o
theorem Ap {x:Str}{xp p:Pos}{it:Expr}{b:List Stmt}{b6:Sc}{cb:Xc}(hx:bQ sc x=true)(b7:jg prog w θ B n sc it b6)(hns:∀env u,Hc it env u=pure u)
  (hb:ExOk prog w θ B n sc b cb):StOk prog w θ B n sc (.For (.Name x xp) it b [] p) (zg b6 x cb):=by
 intro A E Q env ρ st s o R S e O k;apply u4 e O;clear e;intro sr ag h1 e;refine I0 (ay R (b7 _ _ _ _ _ _ _ _ _ R S h1 fun u ρ₀ s₀ S₀ K₀ d1 be bk=>?_)) (hns env);obtain ca:sr.at ag.hp 0≠none:=fun hn=>r7 e O fun J h J=>by rw[hn]at h;contradiction
 refine ay bk (jh S₀ be ca fun I d2 bx hI cc ch al c0=>?_);obtain c1:I∉ρ₀:=fun hm=>by have:=S₀.h.live I hm;rw[hI]at this;contradiction
 have b2:¬Wf env I:=by
  rintro(rfl|⟨y,hy⟩)
  ·refine xEA S₀.e.ns fun m ci h=>?_;refine bq ci fun o es ep ho r=>?_;rw[hI]at ho;contradiction
  ·have:=S₀.e.clive y I hy;rw[hI]at this;contradiction
 have c2:B.base I=none:=by
  cases hb:B.base I with
  |none=>rfl
  |some o=>have:=(S₀.fix I o hb).1;rw[hI]at this;contradiction
 refine codeAny_forLoop (FoI θ B sc env A n ρ₀ s₀ sr x cb I o) ?_ 64
  ⟨ρ₀,ag,0,S₀.kept al bx,(Kp.kept _ _ _ _ al),c0,cc,c1,e⟩
 intro m s' b5;refine kj (id b5) fun ρ' st' j S' K' R' c3 G V=>?_
 cases m with
 |zero=>exact absurd V.symm O
 |succ m=>
  apply r7 V O;clear V;intro ov h2 V
  cases ov with
  |none=>
   clear b5 e O;subst V;refine nx R.1.1 S' c3 h2 fun h' t hk=>C7 ?_;exact k _ _ (S'.but G b2 c2 hk t) (K₀.wf.trans (K'.but hI hk t))
  |some v=>
   replace V:dp (bo (cb.run (st'.with (up x v st'.loc))) (zU sr x cb m (j+1)))=o:=V
   refine ay R' (kA R.1.1 S' c3 h2 fun u h' t hu b3 hk c4=>?_);obtain c5:=S'.but G b2 c2 hk t;have K₂:=K'.but hI hk t;refine ay c4 (dM c5 hx hu fun s₃ b1 K₃ a9=>?_);have Z:ItRel sr ρ' I (j+1) s₃.heap:=b3.of (Ext.refl _) fun o ho=>(K₃.keep I o G (fun hw=>b2 hw.wf) ho).get (b3.nt ho);refine cRf (cb.run (st'.with (up x v st'.loc))) (fun h3=>?_) (fun a0 h3=>?_) (fun a0 h3=>?_) fun v a0 h3=>?_
   ·rw[h3]at V;exact absurd V.symm O
   ·rw[h3]at V;refine ay a9 (hb _ _ _ _ _ _ _ _ a9 b1 h3 (by simp) fun a8 b4 H K₄ c6=>?_);refine⟨m,DV _,a8,a0,j+1,H,(K₂.trans K₃.wo).trans K₄,c6,Z.of K₄.ext fun o ho=>(K₄.keep I o G b2 ho).get (Z.nt ho),fun hm=>?_,V⟩;obtain h0:=K₄.fresh I hm G;have:=Z.live;rw[h0]at this;contradiction
   ·rw[h3]at V;clear b5 e O;subst V;exact hb _ _ _ _ _ _ _ _ a9 b1 h3 (by simp) fun a8 b4 H K₄=>k _ _ H (K₀.wf.trans ((K₂.trans K₃.wo).trans K₄))
   ·rw[h3]at V;subst V;exact hb _ _ _ _ _ _ _ _ a9 b1 h3 (by trivial) fun u a8 b4 H K₄ c7=>k _ _ _ H (K₀.wf.trans ((K₂.trans K₃.wo).trans K₄)) c7
end
section
variable {prog:C9}{w:World}{θ:Th}{B:Fix}{n:Nat}{sc:Scope}
theorem Rf.of_next {o:Option St}{r:Rf}(h:Rf.of o=r)(G:r≠.no):∃st,o=some st∧r=.next st:=by
 cases o with
 |none=>exact absurd h.symm G
 |some st=>exact yEA st rfl h.symm
theorem nz {t:Expr}{A:Dq}{E:Value→Shared→Prop}{Q:Unit→Shared→Prop}{env ρ st l}{s:Shared}{v:V2}{u:Value}(S:SRel θ B sc env ρ st s)(G:VRel θ ρ v u)(e:ki sc t v st.loc=some l)
  (h:∀s',SRel θ B sc env ρ (st.with l) s'→Kp (Wf env) ρ s ρ s'→Q () s'):wpAny (model prog w) A (Go t env u) Q E s:=by
 apply aS e;clear e;intro x h1 e;refine xE (cG h1) fun p hp=>?_;clear h1;subst hp;apply az e;clear e;intro H e;injection e with e;subst e;exact dM S H G fun s' J K'=>h s' J K'.wo
theorem ji {t:Expr}{v:V2}{l l':List (Str×V2)}(e:ki sc t v l=some l')(env:Env)(G:List Expr):Jr (t::G) env=(false,Go t env)::Jr G env:=by
 unfold ki at e;refine cz (iI t) (fun h1=>?_) fun x h1=>?_
 ·rw[h1]at e;contradiction
 ·refine xE (cG h1) fun p hp=>?_;clear h1 e;subst hp;rfl
theorem gR {t:Expr}{J:List Expr}{G:List V2}{l l':List (Str×V2)}(e:e8 sc (t::J) G l=some l'):∃v H l1,G=v::H∧ki sc t v l=some l1∧e8 sc J H l1=some l':=by
 cases G with
 |nil=>contradiction
 |cons v G=>
  unfold e8 at e;dsimp only at e;apply aS e;clear e;intro l1 h1 e;exact vb v G l1 rfl h1 e
theorem jj (env:Env):∀(G:List Expr) (H:List V2) (l l':List (Str×V2)),e8 sc G H l=some l'→(Jr G env).length=H.length∧(Jr G env).findIdx? (·.1)=none
 |[],H,l,l',e=>by
  cases H with
  |nil=>exact⟨rfl,rfl⟩
  |cons _ _=>contradiction
 |t::G,H,l,l',e=>by
  refine bg (gR e) fun v J l1 e1 e2 e3=>?_;clear e;subst e1;rw[ji e2];refine xA (jj env G J l1 l' e3) fun h1 h2=>?_;exact⟨congrArg (·+1) h1,by rw[List.findIdx?_cons,h2];rfl⟩
theorem kB {A:Dq}{E:Value→Shared→Prop}{env ρ}:∀(V:List Expr) {G:List V2} {us:List Value} {st:St} {s:Shared} {l:List (Str×V2)} {Q:Unit→Shared→Prop},SRel θ B sc env ρ st s→All2 (VRel θ ρ) G us→e8 sc V G st.loc=some l→
  (∀s',SRel θ B sc env ρ (st.with l) s'→Kp (Wf env) ρ s ρ s'→Q () s')→wpAny (model prog w) A (KJ ((Jr V env).map (·.2)) us) Q E s
 |[],G,us,st,s,l,Q,S,Z,e,h=>by
  cases G with
  |nil=>injection e with e;subst e;exact GF (h s S (Kp.refl _ _ _))
  |cons _ _=>contradiction
 |t::V,G,us,st,s,l,Q,S,Z,e,h=>by
  refine bg (gR e) fun v a0 l1 e1 e2 e3=>?_;clear e;subst e1;rw[ji e2]
  cases Z with
  |cons r rs=>
   exact Ey (nz S r e2 fun s₁ H K₁=>kB V H rs e3 fun s₂ J O=>h s₂ J (K₁.trans O))
theorem tq {st:St}{v:V2}{G:List V2}(h:zf st v=some G):∃i,v=.ref i∧st.hp.get i=some (.tup G):=by
 cases v with
 |ref i=>
  exact yEA i rfl (rQ h)
 |_=>contradiction
theorem dN {x:Str}{p:Pos}{v:V2}{st:St}:mM sc st (.Name x p) v=match bQ sc x with
  |true=>some (st.with (up x v st.loc))
  |false=>none:=by
 show oS (oT (bQ sc x) (some (up x v st.loc))) (fun l=>some (st.with l))=_;cases bQ sc x<;>rfl
theorem we {t:Expr}{A:Dq}{E:Value→Shared→Prop}{Q:Unit→Shared→Prop}{env ρ st st'}{s:Shared}{v:V2}{u:Value}(R:Rm n A s)(S:SRel θ B sc env ρ st s)(G:VRel θ ρ v u)(e:mM sc st t v=some st')
  (h:∀s',SRel θ B sc env ρ st' s'→Kp (Wf env) ρ s ρ s'→Q () s'):wpAny (model prog w) A (Go t env u) Q E s:=by
 unfold mM at e;refine cz (uU t) (fun h1=>?_) fun J h1=>?_
 ·rw[h1]at e;dsimp only at e;apply aS e;clear e;intro l h2 e;injection e with e;subst e;exact nz S G h2 h
 ·rw[h1]at e;dsimp only at e;refine xEE (iQ h1) fun k p Z=>?_;clear h1;subst Z;apply aS e;clear e;intro vs h2 e;apply aS e;clear e;intro l h3 e;injection e with e;subst e;refine xEA (tq h2) fun i hv ho=>?_;clear h2;subst hv;refine xEA G fun a hi G=>?_;subst G;refine aL (S.tup hi ho) fun items m H O=>?_;refine xA (jj env J vs _ _ h3) fun z1 z2=>?_;refine G7 R.1.1 (t:=a) (items:=items) ⟨_,H,rfl,_,rfl⟩ (z1.trans (O.length.trans Eb)) z2 fun h' he=>?_;have V:∀b o,s.heap.get? b=some o→h'.get? b=some o:=fun b o e=>he b o (Dh (rl e)) e;exact kB J (S.kept V s.toks) O h3 fun s' S' K'=>h s' S' ((Kp.kept _ ρ s s.toks V).trans K')
noncomputable def lQ (e:Expr):Prop:=∀tg G env,Gs e tg G env=pure false
theorem tv {t e:Expr}{p:Pos}{c:Cl}(h:EvOk prog w θ B n sc e c)(hc:lQ e)(ht:(∃x q,t=.Name x q)∨(∃ts k q,t=.Tuple ts k q)∧∀a b q,e≠.Tuple a b q):StOk prog w θ B n sc (.Assign [t] e p) (b0 sc c t):=by
 intro A E Q env ρ st s o R S er Z k;apply dk er Z;clear er;intro v G h1 er;refine xEA (Rf.of_next er Z) fun a0 hb ag=>?_;clear er Z;subst ag
 have body:wpAny (model prog w) A (eval e env) (fun v s₁=>wpAny (model prog w) A (Go t env v) (fun J=>Q .next) E s₁) E s:=
  ay R (h _ _ _ _ _ _ _ _ _ R S h1 fun u a8 s₁ H K₁ a9 O V=>we V H O hb fun s' S' K'=>k _ _ S' (K₁.wf.trans K'))
 rcases ht with⟨x,q,rfl⟩|⟨⟨ts,kk,q,rfl⟩,hnt⟩
 ·refine Ib ?_ (hc _ _ _)
  exact ay R (h _ _ _ _ _ _ _ _ _ R S h1 fun u a8 s₁ H K₁ a9 O V=>by
   have hx:bQ sc x=true:=by
    rw[dN]at hb
    cases hx:bQ sc x with
    |true=>rfl
    |false=>rw[hx]at hb;contradiction
   have al:a0=G.with (up x v G.loc):=by
    rw[dN,hx]at hb;injection hb with hb;subst hb;rfl
   subst al;exact eL H hx O fun s' S' K'=>k _ _ S' (K₁.wf.trans K'.wo))
 ·refine Assign_Tuple body (hc (some (.Tuple ts kk q)) p.line env) ?_
  cases e with
  |Tuple a b q=>exact absurd rfl (hnt a b q)
  |_=>rfl
theorem HRel.putSB {ρ:Rho}{n:Nat}{T:T2}{h h':Heap}(x:HRel θ ρ n T h){i:Nat}{a:Addr}(hi:ρ[i]?=some a){o2:O2}{o:Obj}(hs:E3 a h h')(Z:h'.get? a=some o)(hn:n<4095)(hr:ORel θ ρ o2 o)(J:autoParam (jR o2=false) aR):
  HRel θ ρ n (T.set 12 i o2) h' where
 len:=x.len
 nodup:=x.nodup
 live:=fun b hb=>by
  by_cases e:b=a
  ·clear hi;subst e;refine(ir Z)▸?_;rfl
  ·refine(ir (hs.2 b e))▸?_;exact x.live b hb
 obj:=fun j v G=>by
  have H:i<n:=by refine x.len▸?_;exact(Dz.mp hi).1
  rw[T2.get_set12 _ _ _ _ (by exact o18 hn H)]at G;by_cases hj:j=i
  ·clear H;subst hj;rw[if_pos rfl]at G;injection G with G;subst G;exact bp a o hi Z hr
  ·rw[if_neg hj]at G;refine aE (x.obj j v G) fun b o' hb O V=>?_;refine bp b o' hb ?_ V;refine(ir (hs.2 b (by rintro rfl;exact hj (dq x.nodup hb hi))))▸?_;exact O
 tab:=fun j b G=>by
  have H:i<n:=by refine x.len▸?_;exact(Dz.mp hi).1
  rw[T2.get_set12 _ _ _ _ (by exact o18 hn H)]at G;by_cases hj:j=i
  ·clear H hi;subst hj;rw[if_pos rfl]at G;exact absurd (Dd G) (ntB J b)
  ·rw[if_neg hj]at G;exact x.tab j b G
theorem SRel.putSB {env ρ st}{s:Shared}(x:SRel θ B sc env ρ st s){i:Nat}{a:Addr}(hi:ρ[i]?=some a){o2:O2}{o:Obj}{h':Heap}(hs:E3 a s.heap h')(O:h'.get? a=some o)(hn:st.n<4095)(V:ORel θ ρ o2 o)(t:Nat)(H:autoParam (jR o2=false) aR):
  SRel θ B sc env ρ (st.put i o2) { s with heap:=h',toks:=t }∧Kp NoW ρ s ρ { s with heap:=h',toks:=t }:=by
 have G:=C6 hi
 have k:Kp NoW ρ s ρ { s with heap:=h',toks:=t }:={
  ext:=.refl _
  same:=⟨rfl,rfl,id⟩
  alive:=fun b hb=>by
   by_cases e:b=a
   ·clear G hi;subst e;show(h'.get? b).isSome=true;refine(ir O)▸?_;rfl
   ·show(h'.get? b).isSome=true;refine(ir (hs.2 b e))▸?_;exact hb
  keep:=fun b Z hb J h=>.inl <| by
   show h'.get? b=_;refine(ir (hs.2 b (by rintro rfl;exact hb G)))▸?_;exact h
  fresh:=fun a G hn=>absurd G hn }
 exact⟨x.after (st':=st.put i o2) k (x.h.putSB hi hs O hn V H) rfl,k⟩
theorem jk {ρ:Rho}{k:List At}{v:V2}{u:Value}(hk:aP k=true)(V:VRel θ ρ v u):∀{es G:List (List At×V2)} {kvs:List (Str×Value)},k9 k v es=some G→(kvs.map (·.1)).Nodup→(∀e∈es,aP e.1=true)→
  All2 (fun e J=>J.1=θ.str e.1∧VRel θ ρ e.2 J.2) es kvs→(∀e∈G,aP e.1=true)∧All2 (fun e J=>J.1=θ.str e.1∧VRel θ ρ e.2 J.2) G (stored kvs (θ.str k) u)
 |[],G,kvs,h,_,_,Z=>by
  injection h with h;subst h;cases Z;refine⟨fun e he=>by refine(ir (DD.mp he))▸?_;exact hk,?_⟩;show All2 _ _ (if ([]:List (Str×Value)).any _ then _ else []++[_]);simp;exact .cons ⟨rfl,V⟩ .nil
 |(a,x)::es,G,kvs,h,hnd,hl,Z=>by
  cases Z with
  | @cons _ J _ kvs p q=>
   have O:=GK.mp hnd;apply aS h;clear h;intro b hc h;have H:=im (θ:=θ) hc
   cases b with
   |true=>
    injection h with h;subst h;have e:J.1=θ.str k:=by refine(ir p.1)▸?_;exact(Iu H).symm
    refine⟨fun e he=>?_,?_⟩
    ·rcases Da.mp he with rfl|he
     ·exact hl (a,x) (DY ..)
     ·exact hl e (DB _ he)
    ·unfold stored;rw[if_pos (by simp[e]),FD,if_pos e];refine(ir (map_store_of_not_mem kvs (θ.str k) u (by rw[←e];exact O.1)))▸?_;exact .cons ⟨p.1,V⟩ q
   |false=>
    have a0:¬J.1=θ.str k:=by refine(ir p.1)▸?_;exact fun e=>by rw[e]at H;simp at H
    dsimp only at h;apply aS h;clear h;intro r hd h;injection h with h;subst h;refine xA (jk hk V hd O.2 (fun e he=>hl e (DB _ he)) q) fun h1 h2=>?_;refine⟨fun e he=>?_,?_⟩
    ·rcases Da.mp he with rfl|he
     ·exact hl (a,x) (DY ..)
     ·exact h1 e he
    ·have e:stored (J::kvs) (θ.str k) u=J::stored kvs (θ.str k) u:=by
      unfold stored;simp only[List.any_cons,a0,decide_false,Bool.false_or,FD,if_false]
      split<;>rfl
     refine(ir e)▸?_;exact .cons p h2
theorem pQ (c:Ctx prog w θ B){A:Dq}{E:Value→Shared→Prop}{Q:Unit→Shared→Prop}{env ρ st st'}{s:Shared}{j:Nat}{iv v:V2}{a:Addr}{ui u:Value}(S:SRel θ B sc env ρ st s)(hj:ρ[j]?=some a)(hi:VRel θ ρ iv ui)(hv:VRel θ ρ v u)
  (e:setItem st j iv v=some st')(h:∀s',SRel θ B sc env ρ st' s'→Kp NoW ρ s ρ s'→Q () s'):wpAny (model prog w) A (PySem.setItem (.ref a) ui u) Q E s:=by
 obtain⟨ok,hP,hW,hsys⟩:=c;subst hP;subst hW;apply aS e;clear e;intro o ho e
 cases o with
 |list xs=>
  cases iv with
  |int k x=>
    apply az e;clear e;intro q e;have q:=nd q;subst q;refine xE hi fun t a9=>?_;clear hi;subst a9
    cases k with
    |negSucc k=>contradiction
    |ofNat m=>
     apply az e;clear e;intro hg e;injection e with e;subst e;refine xA ((DM _ _).mp hg) fun H O=>?_;refine xA ((DM _ _).mp H) fun g1 V=>?_;have g1:=Er.mp g1;have V:=DG V;have O:=Er.mp O;refine aL (S.list hj ho) fun items q hx rx=>?_;have G:=rx.length;dsimp only[Eb]at G;have hz:θ.iv (Eg m) 0=(m:Int):=rfl;refine(ir hz)▸?_;refine W.ki_setAt hx (by exact CM hz) (by lia -abstractProof) (by lia -abstractProof) ?_
     refine xA (S.put hj (o2:=.list (xs.set m v)) (f:=DX (·.setIfInBounds (m:Int).toNat u)) hx (by exact o5 O) ⟨_,_,rfl,by
      have:=rx.set m hv;simpa using this⟩ s.toks) fun S' K'=>?_
     exact h _ S' K'
  |_=>contradiction
 |dict es=>
  cases iv with
  |str key=>
   refine xE hi fun t ag=>?_;clear hi;subst ag;apply az e;clear e;intro hg e;refine xA ((DM _ _).mp hg) fun H O=>?_;refine xA ((DM _ _).mp H) fun g1 V=>?_;have V:=DG V;have O:=Er.mp O;apply aS e;clear e;intro al hd e;injection e with e;subst e;refine aQ (S.dict hj ho) fun kvs Z hl a0=>?_;have G:=a0.length;refine kj (id Z) fun J J J J J J J J hnd=>?_;refine xA (jk g1 hv hd hnd hl a0) fun h1 h2=>?_;refine wpAny_setItem_pairs (Gn θ.P θ.W (θ.str key) t) Z (fun h' b1 b2=>?_) (by refine(ir Di)▸?_;lia -abstractProof);refine xEA (Jx.mp b1) fun o' b3 a8=>?_;refine xA (S.putSB hj (o2:=.dict al) b2 b3 (by exact o5 O) ⟨_,a8,h1,h2⟩ (s.toks+1)) fun S' K'=>?_;exact h _ S' K'
  |_=>contradiction
 |_=>contradiction
theorem wg (c:Ctx prog w θ B){ev eo ei:Expr}{q p:Pos}{cv co ci:Cl}(hv:EvOk prog w θ B n sc ev cv)(ho:EvOk prog w θ B n sc eo co)(hi:EvOk prog w θ B n sc ei ci)(hc:∀ln env,Gs ev (some (.Subscript eo ei q)) ln env=pure false):
  StOk prog w θ B n sc (.Assign [.Subscript eo ei q] ev p) (rL cv co ci):=by
 intro A E Q env ρ st s o R S H G k;apply dk H G;clear H;intro v al h1 H;apply dk H G;clear H;intro ov b1 h2 H
 cases ov with
 |ref j=>
  apply dk H G;clear H;intro iv b2 h3 H;refine xEA (Rf.of_next H G) fun b3 hb b4=>?_;clear H G;subst b4
  refine wpAny_Assign_Subscript (ay R (hv _ _ _ _ _ _ _ _ _ R S h1 fun u b5 s₁ V K₁ bk Z J=>ay J (ho _ _ _ _ _ _ _ _ _ J V h2 fun uo b6 s₂ a0 K₂ bx O a8=>
   hi _ _ _ _ _ _ _ _ _ a8 a0 h3 fun ui b7 s₃ a9 K₃ c0 ag=>?_))) (hc _ _)
  refine xEA O fun a ha be=>?_;clear O;subst be;exact pQ c a9 (K₃.ext j a ha) ag ((Z.ext K₂.ext).ext K₃.ext) hb fun s' S' K'=>k _ _ S' (((K₁.trans K₂).trans K₃).trans K').wf
 |_=>exact absurd H.symm G
end
noncomputable def bw (cells:List (Str×Addr)):List (Str×D4)→List (Str×Addr)→List (Str×Addr)
 |[],acc=>acc
 |(y,k)::r,acc=>if k== .free then bw cells r ((y,(cells.lookup y).getD 0)::acc) else bw cells r acc
theorem jW {scope:Scope}{env:Env}(h:∀y,(y,Em)∈scope.names→(env.cells.lookup y).isSome=true):Jq scope env=pure (bw env.cells scope.names []):=by
 unfold Jq
 have key:∀(l:List (Str×D4)) (acc:List (Str×Addr)),(∀y,(y,Em)∈l→(env.cells.lookup y).isSome=true)→
   (forIn l acc (fun(x:Str×D4) (cs:List (Str×Addr))=>(match x with
    |(name,kind)=>if (kind==Em)=true then (do let __do_lift ←cellOf env name;pure (Fh ((name,__do_lift)::cs))) else pure (Fh cs):Sem (ForInStep (List (Str×Addr))))))=pure (bw env.cells l acc):=by
  intro l
  induction l with
  |nil=>intro acc _;rfl
  |cons x r B=>
   intro acc hl;obtain⟨y,k⟩:=x;have G:=fun z hz=>hl z (DB _ hz);rw[GL];by_cases H:k=.free
   ·subst H;refine xE (Dv.mp (hl y (DY ..))) fun c hc=>?_;unfold bw;dsimp only[beq_self_eq_true,if_true];rw[show cellOf env y=pure c from by unfold cellOf;rw[hc]];simp only[pure_bind,hc,Option.getD_some];exact B _ G
   ·have hb:(k==Em)=false:=by simpa using H
    unfold bw;simp only[hb,GQ,if_false,pure_bind];exact B _ G
 have:=key scope.names [] h;dsimp only[pure_bind]at this⊢;rw[show(forIn scope.names ([]:List (Str×Addr)) _:Sem _)=_ from this];rfl
theorem eA (x y:Str)(k:D4)(r):au x ((y,k)::r)=bB (aA x y) (some k) (au x r):=rfl
theorem xX {β:Type}{x y:β}:bB true x y=x:=rfl
theorem Bz {β:Type}{x y:β}:bB false x y=y:=rfl
theorem cw {y:Str}:∀{l:List (Str×D4)},au y l=none→∀k,(y,k)∉l
 |[],_,_=>by simp
 |(z,q)::r,h,k=>by
  refine c8 h (fun hz h=>?_) fun hz h=>?_
  ·contradiction
  ·intro hm;rcases Da.mp hm with e|hm
   ·exact aW hz (Prod.mk.inj e).1
   ·exact cw h k hm
theorem cB {z:Str}{q:D4}{r:List (Str×D4)}{C:Prop}(h:bT ((z,q)::r)=true)(k:au z r=none→bT r=true→C):C:=aT h fun a b=>k (Option.isNone_iff_eq_none.mp a) b
theorem gS {y:Str}{k:D4}:∀{l:List (Str×D4)},bT l=true→(y,k)∈l→au y l=some k
 |[],_,h=>by cases h
 |(z,q)::r,B,J=>by
  apply cB B;clear B;intro O B;rw[eA];rcases Da.mp J with e|hm2
  ·injection e with G H;subst G;subst H;rw[km,xX]
  ·cases hz:aA y z with
   |false=>exact gS B hm2
   |true=>exact absurd ((ao y z).mp hz▸hm2) (cw O k)
theorem b9 {y:Str}{k:D4}:∀{l:List (Str×D4)},au y l=some k→(y,k)∈l
 |[],h=>by contradiction
 |(z,q)::r,h=>by
  refine c8 h (fun hz h=>?_) fun hz h=>?_
  ·injection h with h;subst h;refine(ir ((ao y z).mp hz))▸?_;exact DY ..
  ·exact DB _ (b9 h)
theorem bz {α:Type}{y z:Str}{v:α}{r:List (Str×α)}(h:y≠z):GV y ((z,v)::r)=GV y r:=by
 rw[ET,beq_eq_false_iff_ne.mpr h]
theorem cD {cells:List (Str×Addr)}{y:Str}:∀(l:List (Str×D4)) (acc:List (Str×Addr)),bT l=true→
  (bw cells l acc).lookup y=if au y l=some .free then some ((cells.lookup y).getD 0) else acc.lookup y
 |[],acc,_=>by simp[bw,au]
 |(z,q)::r,acc,B=>by
  apply cB B;clear B;intro H B;rw[eA];unfold bw;by_cases hq:(q==Em)=true
  ·rw[if_pos hq];have:=Iu hq;clear hq;subst this;rw[cD r _ B]
   cases hz:aA y z with
   |true=>
    have:=(ao y z).mp hz;clear hz;subst this;rw[H,xX];simp
   |false=>
    rw[Bz,bz (aW hz)]
  ·rw[if_neg hq,cD r _ B]
   cases hz:aA y z with
   |true=>
    have:=(ao y z).mp hz;clear hz;subst this;have G:q≠.free:=by simpa using hq
    rw[H,xX];simp[G]
   |false=>rfl
theorem aH {y:Str}:∀(l:List (Str×D4)) (m:Nat) (acc:List (Str×Addr)),bT l=true→
  (au y l=some .cell→∃c,(E2 m l acc).lookup y=some c∧m≤c)∧(au y l≠some .cell→(E2 m l acc).lookup y=acc.lookup y)
 |[],m,acc,_=>⟨fun h=>by trivial,fun J=>rfl⟩
 |(z,q)::r,m,acc,B=>by
  apply cB B;clear B;intro H B;rw[eA];unfold E2;by_cases hq:(q==F7)=true
  ·refine(ir (if_pos hq))▸?_;have:=Iu hq;clear hq;subst this;refine xA (aH (y:=y) r (m+1) ((z,m)::acc) B) fun h1 h2=>?_
   cases hz:aA y z with
   |true=>
    have:=(ao y z).mp hz;clear hz h1;subst this;refine⟨fun J=>⟨m,?_,DK _⟩,fun h=>absurd rfl h⟩;rw[h2 (by rw[H];decide),FI]
   |false=>
    refine⟨fun h=>?_,fun h=>?_⟩
    ·refine xEA (h1 h) fun c e hc=>?_;exact yEA c e (FQ hc)
    ·rw[h2 h,bz (aW hz)]
  ·refine(ir (if_neg hq))▸?_;refine xA (aH (y:=y) r m acc B) fun h1 h2=>?_
   cases hz:aA y z with
   |true=>
    have:=(ao y z).mp hz;clear hz;subst this;have G:q≠.cell:=by simpa using hq
    refine⟨fun h=>absurd (Dd h) G,fun J=>h2 (by refine(ir H)▸?_;decide)⟩
   |false=>exact⟨h1,h2⟩
theorem bA {env:Env}{x:Str}:∀{names:List (Str×D4)} {k:D4},names.lookup x=some k→
  (names.map fun(n,k)=>if (k==Em&&env.scope.kind== .function&&env.kindOf n==some .cell) then (n,F7) else (n,k)).lookup x=
   some (if (k==Em&&env.scope.kind== .function&&env.kindOf x==some .cell) then F7 else k)
 |[],_,h=>by simp at h
 |(n,q)::r,k,h=>by
  show GV x ((if (q==Em&&env.scope.kind== .function&&env.kindOf n==some .cell)=true then (n,F7) else (n,q))::_)=_;refine aJ (x==n) (fun B=>?_) fun B=>?_
  ·have:=Iu B;subst this;simp only[FI]at h;injection h with h;subst h
   split<;>simp[FI]
  ·rw[ET,B]at h;have G:= @bA env x r k h;by_cases hc:(q==Em&&env.scope.kind== .function&&env.kindOf n==some .cell)=true
   ·rw[if_pos hc];simp only[ET,B];exact G
   ·rw[if_neg hc];simp only[ET,B];exact G
theorem nA {M:Model}{A:Dq}{E:Value→Shared→Prop}{s:Shared}{scope:Scope}{globals:Addr}{cl:List (Str×Addr)}{qual:Str}{env:Env}{Q:Env→Shared→Prop}
  (h:Q { scope:=scope,locals:=s.heap.objs.size,globals:=globals,cells:=E2 (s.heap.objs.size+1) scope.names cl,qual:=qual,func:=none,code:=env.code,frame:=env.frame,builtins:=env.builtins }
   { s with heap:=Gw (s.heap.push { cls:=.type "dict",data:=.dict #[] }) scope.names }):
  wpAny M A (IU scope globals cl [] qual none .none (some env)) Q E s:=by
 refine il (wpAny_alloc ?_);refine il (wpAny_layCells _ (fun name kind cells=>by cases B:kind==F7<;>simp[B]) _ _ _ _ ?_);refine(ir (show({ s with heap:=s.heap.push { cls:=.type "dict",data:=.dict #[] } }:Shared).heap.objs.size=s.heap.objs.size+1 from Eh ..))▸?_;exact wbp (nb h)
noncomputable def rmL (x:Str):List (Str×V2)→List (Str×V2)
 |[]=>[]
 |(y,v)::r=>bB (aA x y) (rmL x r) ((y,v)::rmL x r)
theorem jl (x y:Str):∀l,lk y (rmL x l)=if y=x then none else lk y l
 |[]=>by by_cases e:y=x;(rw[if_pos e];rfl);(rw[if_neg e];rfl)
 |(z,v)::r=>by
  have G:=jl x y r;show lk y (bB (aA x z) (rmL x r) ((z,v)::rmL x r))=_;rw[cA]
  cases h:aA x z with
  |true=>
   have:=(ao x z).mp h;clear h;subst this;rw[xX,G];by_cases e:y=x
   ·rw[if_pos e,if_pos e]
   ·rw[if_neg e,if_neg e,if_neg e]
  |false=>
   have B:=aW h;rw[Bz,cA,G];by_cases e:y=z
   ·rw[if_pos e,if_pos e,if_neg fun e2=>B (e2.symm.trans e)]
   ·rw[if_neg e,if_neg e]
section
variable {prog:C9}{w:World}{θ:Th}{B:Fix}{n:Nat}{sc csc:Scope}
theorem ERel.locs {ρ:Rho}{env:Env}{l l'}{h:Heap}(x:ERel θ ρ sc env l h)(e:∀y v,lk y l'=some v→lk y l=some v):ERel θ ρ sc env l' h where
 fn:=x.fn
 kl:=x.kl
 kc:=x.kc
 kf:=x.kf
 kg:=x.kg
 ns:=by refine xEA x.ns fun m hn J=>?_;exact yEA m hn (fun y v O hl=>J y v O (e y v hl))
 cell:=fun y V=>by
  refine aZ (x.cell y V) fun c Z hc G H hd h=>?_;exact bi c Z hc G H hd (fun v hl=>h v (e y v hl))
 apart:=x.apart
 out:=x.out
 clive:=x.clive
structure CapOk (sc csc:Scope)(x:Str):Prop where
 own:bQ csc x=true
 fn:csc.kind=.function
 cap:rq sc x csc.names=true
 two:bT csc.names=true
theorem dO {x y:Str}{l:List (Str×D4)}(h:rq sc x l=true)(G:(y,Em)∈l):y≠x∧(au y sc.names=some .cell∨au y sc.names=some .free):=by
 refine aT (FY.mp h _ G) fun a b=>⟨fun e=>?_,?_⟩
 ·clear h;subst e;rw[km]at a;contradiction
 ·refine iM b fun k H b=>?_;refine(ir H)▸?_
  cases k with
  |cell=>exact .inl rfl
  |free=>exact .inr rfl
  |_=>contradiction
theorem kC {x y:Str}{k:D4}{l:List (Str×D4)}(h:rq sc x l=true)(G:(y,k)∈l):(k=.cell→y=x)∧(k=.local→y=x∨y=ro):=by
 have h1:=FY.mp h _ G;refine⟨fun e=>?_,fun e=>?_⟩
 ·clear G;subst e;exact(ao _ _).mp h1
 ·clear G;subst e;rcases (Ip _ _).mp h1 with h1|h1
  ·exact .inl ((ao _ _).mp h1)
  ·exact .inr ((ao _ _).mp h1)
noncomputable def dP (csc:Scope) (env:Env) (C:Addr):Env:=
 { scope:=relabel csc env,locals:=C,globals:=env.globals,cells:=E2 (C+1) csc.names (bw env.cells csc.names []),qual:=env.qual,func:=none,code:=env.code,frame:=env.frame,builtins:=env.builtins }
theorem db {cells:List (Str×Addr)}:∀(l:List (Str×D4)) (acc:List (Str×Addr)),(∀y c,(y,c)∈acc→cells.lookup y=some c)→(∀y,(y,Em)∈l→(cells.lookup y).isSome=true)→
  ∀y c,(y,c)∈bw cells l acc→cells.lookup y=some c
 |[],acc,h,_=>h
 |(z,q)::r,acc,h,hl=>by
  unfold bw;have G:=fun y H=>hl y (DB _ H)
  split
  ·rename_i hq;have:=Iu hq;clear hq;subst this;refine db r _ (fun y c hm=>?_) G;rcases Da.mp hm with e|hm
   ·cases e;refine xE (Dv.mp (hl z (DY ..))) fun d hd=>?_;refine(ir hd)▸?_;rfl
   ·exact h y c hm
  ·exact db r acc h G
theorem eB {cells:List (Str×Addr)}:∀(l:List (Str×D4)) (acc:List (Str×Addr)),bT l=true→(∀y c,(y,c)∈acc→∀k,(y,k)∉l)→(acc.map (·.1)).Nodup→((bw cells l acc).map (·.1)).Nodup
 |[],acc,_,_,h=>h
 |(z,q)::r,acc,H,hd,h=>by
  apply cB H;clear H;intro hk H;unfold bw
  split
  ·refine eB r _ H (fun y c hm k G=>?_) ?_
   ·rcases Da.mp hm with e|hm
    ·injection e with J O;subst J;subst O;exact cw hk k G
    ·exact hd y c hm k (DB _ G)
   ·rw[FD,GK];refine⟨fun hm=>?_,h⟩;refine xEA (Hu.mp hm) fun V hy Z=>?_;obtain⟨y,c⟩:=V;subst Z;exact hd y c hy q (DY ..)
  ·exact eB r acc H (fun y c hm k G=>hd y c hm k (DB _ G)) h
theorem gT {cells:List (Str×Addr)}(G:cells.Pairwise fun x y=>x.2≠y.2):∀(l:List (Str×Addr)),(l.map (·.1)).Nodup→(∀y c,(y,c)∈l→cells.lookup y=some c)→l.Pairwise fun x y=>x.2≠y.2
 |[],_,_=>.nil
 |(y,c)::r,hn,hl=>by
  rw[FD,GK]at hn;refine EH.mpr ⟨fun z hz e=>?_,gT G r hn.2 fun y c H=>hl y c (DB _ H)⟩;obtain⟨J,O⟩:=z;subst e;obtain h1:=hl y c (DY ..);obtain h2:=hl J c (DB _ hz);have:=Li G (mem_of_lookup h1) (mem_of_lookup h2);clear h2;subst this;exact hn.1 (Hu.mpr ⟨(y,c),hz,rfl⟩)
theorem cx:∀(l:List (Str×D4)) (m:Nat) (acc:List (Str×Addr)),(∀x∈acc,x.2<m)→(acc.Pairwise fun x y=>x.2≠y.2)→(E2 m l acc).Pairwise fun x y=>x.2≠y.2
 |[],_,_,_,h=>h
 |(z,q)::r,m,acc,G,h=>by
  unfold E2
  split
  ·refine cx r (m+1) _ (fun x hx=>?_) (EH.mpr ⟨fun y H e=>?_,h⟩)
   ·rcases Da.mp hx with rfl|hx
    ·exact DV _
    ·exact HQ (G x hx)
   ·have h1:y.2<m:=G y H;rw[←e]at h1;exact DF _ h1
  ·exact cx r m acc G h
theorem dl:∀(l:List (Str×D4)) (h:Heap) (acc:List (Str×Addr)) (y:Str) (c:Addr),(y,c)∈E2 h.objs.size l acc→(y,c)∈acc∨(h.objs.size≤c∧(Gw h l).IsCell c none)
 |[],h,acc,y,c,G=>.inl G
 |(z,q)::r,h,acc,y,c,G=>by
  unfold E2 at G;unfold Gw
  split at G
  ·rename_i hq;refine(ir (if_pos hq))▸?_;have e:(h.push { cls:=.type "cell",data:=.cell none }).objs.size=h.objs.size+1:=Eh ..;rw[←e]at G;rcases dl r _ _ y c G with h1|⟨h1,h2⟩
   ·rcases Da.mp h1 with O|h1
    ·injection O with H J;subst H;subst J;refine .inr ⟨DK _,_,G5 r _ _ _ (rh _ rfl),rfl⟩
    ·exact .inl h1
   ·exact .inr ⟨by rw[e]at h1;exact Bq h1,h2⟩
  ·rename_i hq;refine(ir (if_neg hq))▸?_;exact dl r h acc y c G
theorem wh {x:Str}{env:Env}{ρ:Rho}{st:St}{s:Shared}(c:CapOk sc csc x)(S:SRel θ B sc env ρ st s)(a0:lk ro st.loc=none):
  SRel θ B csc (dP csc env s.heap.objs.size) ρ (st.with (rmL x st.loc)) { s with heap:=Gw (s.heap.push { cls:=.type "dict",data:=.dict #[] }) csc.names }:=by
 have hk:∀b o,s.heap.get? b=some o→(Gw (s.heap.push { cls:=.type "dict",data:=.dict #[] }) csc.names).get? b=some o:=fun b o e=>G5 _ _ b o (mc _ e);obtain S':=S.kept hk s.toks
 obtain V:∀y,(y,Em)∈csc.names→∃d,env.cells.lookup y=some d:=fun y hy=>by
  refine aL (S.e.cell y (dO c.cap hy).2) fun d v' hd J=>?_;exact⟨d,hd⟩
 obtain O:∀y,(y,Em)∈csc.names→(env.cells.lookup y).isSome=true:=fun y hy=>by refine xE (V y hy) fun d hd=>?_;refine(ir hd)▸?_;rfl
 have Z:=db (cells:=env.cells) csc.names [] (fun J J h=>by cases h) O;have a8:(s.heap.push { cls:=.type "dict",data:=.dict #[] }).objs.size=s.heap.objs.size+1:=Eh ..
 have G:∀y d,env.cells.lookup y=some d→d<s.heap.objs.size:=fun y d hd=>by
  refine xE (Dv.mp (S.e.clive y d hd)) fun o ho=>?_;exact rl ho
 have H:∀y d,(dP csc env s.heap.objs.size).cells.lookup y=some d→env.cells.lookup y=some d∨(s.heap.objs.size+1≤d∧(Gw (s.heap.push { cls:=.type "dict",data:=.dict #[] }) csc.names).IsCell d none):=fun y d hd=>by
  have hm:(y,d)∈E2 (s.heap.objs.size+1) csc.names (bw env.cells csc.names []):=mem_of_lookup hd;rw[←a8]at hm;rcases dl _ _ _ y d hm with h1|⟨h1,h2⟩
  ·exact .inl (Z y d h1)
  ·exact .inr ⟨by rw[a8]at h1;exact h1,h2⟩
 refine⟨S'.h,⟨c.fn,fun y hy=>?_,fun y hy=>?_,fun y hy=>?_,fun y hy=>?_,⟨fun J=>none,?_,fun y v hy hl=>?_⟩,fun y hy=>?_,?_,?_,?_⟩,S.gl,S.bu,fun a o e=>?_⟩
 ·rw[aG]at hy;exact(bA hy).trans (by rfl)
 ·rw[aG]at hy;exact(bA hy).trans (by simp)
 ·rw[aG]at hy;have:=bA (env:=env) hy
  split at this
  ·exact .inr this
  ·exact .inl this
 ·rw[aG]at hy;exact(bA hy).trans (by simp)
 ·exact(Heap.Ns.new s.heap (.type "dict")).keeps (G5 _ _)
 ·exfalso;have hl:lk y (rmL x st.loc)=some v:=hl;rw[jl]at hl;by_cases e:y=x
  ·rw[if_pos e]at hl;contradiction
  ·rw[if_neg e]at hl;rcases (kC c.cap (b9 hy)).2 rfl with h|h
   ·exact e h
   ·rw[h,a0]at hl;contradiction
 ·rcases hy with hy|hy
  ·refine xEA ((aH csc.names (s.heap.objs.size+1) (bw env.cells csc.names []) c.two).1 hy) fun d hd ag=>?_;have e:y=x:=(kC c.cap (b9 hy)).1 rfl;have al:(dP csc env s.heap.objs.size).cells.lookup y=some d:=hd;rcases H y d al with h1|⟨h1,h2⟩
   ·exact absurd (De (G y d h1) (FQ ag)) (DF _)
   ·refine bi d none hd (Dl (Nat.lt_of_succ_le h1)) (fun hm=>?_) h2 (fun v hl=>?_)
    ·exact absurd (De (S.h.lt d hm) (FQ h1)) (DF _)
    ·have hl:lk y (rmL x st.loc)=some v:=hl;rw[jl,if_pos e]at hl;contradiction
  ·obtain b1:au y csc.names≠some .cell:=by refine(ir hy)▸?_;simp
   refine xA (dO c.cap (b9 hy)) fun b2 b3=>?_;refine aZ (S.e.cell y b3) fun d v' hd b6 a9 b4 hh=>?_;have h1:=(aH csc.names (s.heap.objs.size+1) (bw env.cells csc.names []) c.two).2 b1;rw[cD csc.names [] c.two,if_pos hy,hd]at h1;obtain b5:=G y d hd;refine bi d v' h1 (Dh b5) a9 (b4.keeps hk) (fun v hl=>hh v ?_);have hl:lk y (rmL x st.loc)=some v:=hl;rwa [jl,if_neg b2]at hl
 ·refine cx _ _ _ (fun z hz=>?_) (gT S.e.apart _ (eB _ _ c.two (fun J J h=>by cases h) .nil) Z);exact HQ (G z.1 z.2 (Z z.1 z.2 hz))
 ·intro hm;exact DF _ (S.h.lt _ hm)
 ·intro y d hd;rcases H y d hd with h1|⟨_,o,h2,_⟩
  ·refine xE (Dv.mp (S.e.clive y d h1)) fun o ho=>?_;show((Gw _ csc.names).get? d).isSome=true;refine(ir (hk d o ho))▸?_;rfl
  ·show((Gw _ csc.names).get? d).isSome=true;refine(ir h2)▸?_;rfl
 ·refine xAA (S.fix a o e) fun p1 p2 p3=>?_;refine yAA (hk a o p1) p2 ?_;rintro(h|⟨y,hy⟩)
  ·exact absurd (rl p1) (by refine(ir h)▸?_;exact DF _)
  ·rcases H y a hy with h1|⟨h1,_⟩
   ·exact p3 (.inr ⟨y,h1⟩)
   ·exact absurd (De (rl p1) (FQ h1)) (DF _)
end
section
variable {prog:C9}{w:World}{θ:Th}{B:Fix}{n:Nat}{sc csc:Scope}
theorem SRel.locs {env ρ st l'}{s:Shared}(x:SRel θ B sc env ρ st s)(e:∀y v,lk y l'=some v→lk y st.loc=some v):SRel θ B sc env ρ (st.with l') s:=⟨x.h,x.e.locs e,x.gl,x.bu,x.fix⟩
theorem Kp.wstep {W W':Addr→Prop}{ρ G H:Rho}{s s₁ s₂:Shared}(x:Kp W ρ s G s₁)(V:∀a,W' a→s.heap.get? a=none)(y:Kp W' G s₁ H s₂):Kp W ρ s H s₂ where
 ext:=x.ext.trans y.ext
 same:=x.same.trans y.same
 alive:=fun a h=>y.alive a (x.alive a h)
 keep:=fun a o J hw h=>by
  refine(x.keep a o J hw h).trans fun o' e'=>y.keep a o' (fun O=>?_) (fun Z=>?_) e'
  ·have:=x.fresh a O J;rw[h]at this;contradiction
  ·have:=V a Z;rw[h]at this;contradiction
 fresh:=fun a J a0=>by
  by_cases O:a∈G
  ·exact x.fresh a O a0
  ·obtain h1:=y.fresh a J O
   cases V:s.heap.get? a with
   |none=>rfl
   |some o=>
    have:=x.alive a (by refine(ir V)▸?_;rfl);rw[h1]at this;contradiction
noncomputable abbrev eN (env:Env) (es:List Expr) (b:Bool):Sem Bool:=forIn es b fun c r=>if r=true then do let ok ←isTrue c env (eval c env);pure (Fh ok) else pure (Fh r)
theorem nB {env:Env}{M:Model}{A:Dq}{E:Value→Shared→Prop}:∀(es:List Expr) {s:Shared} {Q:Bool→Shared→Prop},Q false s→wpAny M A (eN env es false) Q E s:=by
 intro es
 induction es with
 |nil=>intro s Q h;exact nb h
 |cons c r G=>
  intro s Q h;unfold eN;rw[GL,if_neg (by decide)];exact wbp (G h)
theorem pR {env:Env}{M:Model}{A:Dq}{E:Value→Shared→Prop}{c:Expr}{r:List Expr}{s:Shared}{Q:Bool→Shared→Prop}
  (h:wpAny M A (isTrue c env (eval c env)) (fun b s₁=>if b then wpAny M A (eN env r true) Q E s₁ else Q false s₁) E s):wpAny M A (eN env (c::r) true) Q E s:=by
 unfold eN;rw[GL,if_pos rfl];refine il (il (Dn h (fun b s₁ G=>nb ?_) fun J J e=>e))
 cases b with
 |true=>exact G
 |false=>exact nB r G
theorem wj {tr:Expr→Tc}(h:∀e,TrOk prog w θ B n sc e (tr e)):∀(es:List Expr) {A E Q env ρ st s b st'},Rm n A s→SRel θ B sc env ρ st s→(bG tr es).run st=.ok b st'→PostB θ B sc env ρ st s b st' Q→wpAny (model prog w) A (eN env es true) Q E s:=by
 intro es
 induction es with
 |nil=>intro A E Q env ρ st s b st' R S e k;injection e with e1 e2;subst e1;subst e2;exact nb (k _ _ S (Kp.refl _ _ _) rfl)
 |cons x r ih=>
  intro A E Q env ρ st s b st' R S e k;apply lD e;clear e;intro c O h1 e;refine pR (ay R (h x A _ _ env ρ st s c O R S h1 fun Z s₁ G H J V=>?_))
  cases c with
  |true=>exact ih V G e (k.after H J)
  |false=>injection e with e1 e2;subst e1;subst e2;exact k _ _ G H J
theorem tw {G:Src}{ρ:Rho}{A:Dq}{E Q:Value→Shared→Prop}{it:Addr}{k:Nat}{s:Shared}(x:ItRel G ρ it k s.heap)(h:Q (.ref it) s):wpAny (model prog w) A (Lh (.ref it)) Q E s:=by
 cases G with
 |list i=>refine aQ x fun a O J H=>?_;exact wpAny_pyIter_listiter H h
 |range a m=>exact wpAny_pyIter_rangeiter x h
structure Aq (θ:Th)(B:Fix)(csc:Scope)(cenv:Env)(x:Str)(l:List (Str×V2))(sr:Src)(I D:Addr)(ρ₀:Rho)(s₀:Shared)(A:Dq)(n:Nat)(ρ:Rho)(st:St)(j:Nat)(vs:List V2)(s:Shared):Prop where
 S:SRel θ B csc cenv ρ st s
 lc:∀y,y≠x→lk y st.loc=lk y l
 K:Kp NoW ρ₀ s₀ ρ s
 R:Rm n A s
 it:ItRel sr ρ I j s.heap
 iρ:I∉ρ
 acc:∃items q,IsL s.heap D items q∧All2 (VRel θ ρ) vs items.toList
 dρ:D∉ρ
inductive CoI (θ:Th)(B:Fix)(csc:Scope)(cenv:Env)(x:Str)(l:List (Str×V2))(sr:Src)(I D:Addr)(ρ₀:Rho)(s₀:Shared)(A:Dq)(n:Nat)(tb:Tc)(celt:Cl)(vs:List V2)(N:Nat)(H:T2)(m:Nat)(s:Shared):Prop
 |mk (ρ:Rho) (st:St) (j:Nat) (ws us:List V2) (c:Aq θ B csc cenv x l sr I D ρ₀ s₀ A n ρ st j ws s) (hl:ws.length+m≤64) (e:uY x sr tb celt l m j st.n st.hp=.ok us N H) (hv:ws++us=vs)
theorem BB {R:GH→Shared→Prop}{s:Shared}{A:Dq}{elt G iter:Expr}{H:List Expr}{scope:Scope}{pos:Pos}{it acc:Value}{env:Env}(I:Nat→Shared→Prop)(n:Nat)(Z:I n s)(hl:∀v,Gq G it v=pure ())
  (h:∀(n:Nat) (s:Shared) (N:Shared→Prop) (E:Value→Shared→Prop),I n s→(∀m s',m<n→I m s'→N s')→wpAny (model prog w) A (Hp it) (fun r s₁=>match r with
   |none=>R (.ok .next) s₁
   |some v=>wpAny (model prog w) A (Go G env v) (fun _ s₂=>wpAny (model prog w) A (forIn H true fun c r=>if r=true then do
      let ok ←PySem.isTrue c env (eval c env)
      pure (Fh ok)
     else pure (Fh r)) (fun ok s₃=>if ok=true then wpAny (model prog w) A (eval elt env) (fun x J=>wpAny (model prog w) A (call (.builtin "list.append") [acc,x]) (fun _ O=>N O) E J) E s₃ else N s₃) E s₂) E s₁) E s):
  Fb (model prog w) A (.compLoop (.ListComp elt [⟨G,iter,H,0⟩] scope pos) 0 it acc env) R s:=
 codeAny_compLoop_tests I (fun n s hi=>h n s (fun s'=>∃m,m<n∧I m s') _ hi fun m _ hm V=>⟨m,hm,V⟩) n Z hl
theorem tA {x:Str}{xp:Pos}{elt iter:Expr}{b3:List Expr}{pos:Pos}{sr:Src}{l:List (Str×V2)}{tr:Expr→Tc}{ag:Cl}{cenv:Env}{I D:Addr}{ρ₀:Rho}{s₀:Shared}{A:Dq}{R:GH→Shared→Prop}
  (hx:bQ csc x=true)(ht:∀e,TrOk prog w θ B n csc e (tr e))(he:EvOk prog w θ B n csc elt ag)
  (fresh:∀a,Wo cenv x a→s₀.heap.get? a=none)(hI:s₀.heap.get? I=none)(hD:s₀.heap.get? D=none)(c0:I≠D)(c1:¬Wf cenv I)(c7:¬Wf cenv D)(ca:B.base I=none)(d4:B.base D=none)
  {ρ:Rho}{st:St}{vs:List V2}{s:Shared}(d5:Aq θ B csc cenv x l sr I D ρ₀ s₀ A n ρ st 0 [] s){N:Nat}{H:T2}(e:uY x sr (bG tr b3) ag l 64 0 st.n st.hp=.ok vs N H)
  (fin:∀ρ' st' s' items q,SRel θ B csc cenv ρ' st' s'→Kp NoW ρ₀ s₀ ρ' s'→st'.n=N→st'.hp=H→IsL s'.heap D items q→All2 (VRel θ ρ') vs items.toList→D∉ρ'→R (.ok .next) s'):
  Fb (model prog w) A (.compLoop (.ListComp elt [⟨.Name x xp,iter,b3,0⟩] csc pos) 0 (.ref I) (.ref D) cenv) R s:=by
 refine BB (CoI θ B csc cenv x l sr I D ρ₀ s₀ A n (bG tr b3) ag vs N H) 64 (.mk ρ st 0 [] vs d5 (DV _) e rfl) (fun _=>rfl) ?_;intro m s' N' E' c hq
 cases c with
 |mk ρ' st' j ws us c al Z b4=>
 cases m with
 |zero=>contradiction
 |succ m=>
  apply u1 Z;clear Z;intro ov h2 Z;refine aL c.acc fun items q b5 a8=>?_
  cases ov with
  |none=>
   injection Z with d6 d7 dv;subst d6;subst d7;subst dv;rw[EI]at b4;clear e;subst b4;refine nx c.R.1.1 c.S c.it h2 fun h' t hk=>?_;exact fin ρ' st' _ items q (c.S.but c.iρ c1 ca hk t) (c.K.but hI hk t) rfl rfl (hk D _ (EL c0) b5) a8 c.dρ
  |some v=>
   refine ay c.R (kA c.R.1.1 c.S c.it h2 fun u h' t hu b6 hk cb=>?_);refine ay cb (dM (c.S.but c.iρ c1 ca hk t) hx hu fun s₃ S₃ K₃ b7=>?_)
   have c2:SRel θ B csc cenv ρ' ⟨(x,v)::l,st'.n,st'.hp⟩ s₃:=S₃.locs (l':=(x,v)::l) fun y z hl=>by
    show lk y (up x v st'.loc)=some z;rw[eX];rw[cA]at hl;by_cases e:y=x
    ·rw[if_pos e]at hl⊢;exact hl
    ·rw[if_neg e]at hl⊢;refine(ir (c.lc y e))▸?_;exact hl
   have a0:ItRel sr ρ' I (j+1) s₃.heap:=b6.of (Ext.refl _) fun o ho=>(K₃.keep I o c.iρ (fun hw=>c1 hw.wf) ho).get (b6.nt ho);have O:IsL s₃.heap D items q:=(K₃.keep D _ c.dρ (fun hw=>c7 hw.wf) (hk D _ (EL c0) b5)).get (fun ps q=>by cases q);have K₃':Kp NoW ρ₀ s₀ ρ' s₃:=(c.K.but hI hk t).wstep fresh K₃
   have be:∀{G:Rho} {V:Shared},Kp NoW ρ' s₃ G V→I∉G∧D∉G∧IsL V.heap D items q∧ItRel sr G I (j+1) V.heap:=fun{G V} K=>by
    refine lF (fun hm=>?_) (fun hm=>?_) ((K.keep D _ c.dρ (fun f=>f) O).get (fun ps q=>by cases q)) (a0.of K.ext fun o ho=>(K.keep I o c.iρ (fun f=>f) ho).get (a0.nt ho))
    ·have h0:=K.fresh I hm c.iρ;have:=a0.live;rw[h0]at this;contradiction
    ·obtain h0:=K.fresh D hm c.dρ;have h1:s₃.heap.get? D=_:=O;rw[h0]at h1;contradiction
   have cc:∀y,y≠x→lk y ((x,v)::l)=lk y l:=fun y hy=>by rw[cA,if_neg hy]
   apply Aa Z;clear Z;intro ch c3 h3 Z;refine ay b7 (wj ht b3 b7 c2 h3 fun G V bk K₄ bx b1=>?_)
   cases ch with
   |true=>
    refine(ir (if_pos rfl))▸?_;apply z0 Z;clear Z;intro z c4 h4 Z;apply z8 Z;clear Z;intro e0 N' H' h5 Z;injection Z with e4 e5 e6;subst e4;subst e5;subst e6;refine ay b1 (he _ _ _ _ _ _ _ _ _ b1 bk h4 fun uz c5 a9 S₅ b2 ci d1 d2=>?_);refine cL (be (K₄.trans b2)) fun o1 o2 o3 o4=>?_
    obtain e7:items.size≤Eu:=by
     have:=a8.length;refine(ir Di)▸?_;exact o56 al this
    refine ay d2 (F0 EW ⟨_,o3,rfl⟩ GN (Hr _ _) (GZ D items q uz e7) ⟨o3,?_⟩);show Rm n A _→_;intro d3
    have c6:∀b o,b≠D→a9.heap.get? b=some o→(a9.heap.update D (DX fun x=>x.push uz)).get? b=some o:=fun b o hb e=>by
     rw[DC]
     ·exact e
     ·exact EL hb
    refine hq m _ (DV _) (.mk c5 c4 (j+1) (ws++[z]) e0 ⟨S₅.but o2 c7 d4 c6 a9.toks,fun y hy=>by refine(ir ci)▸(ir bx)▸?_;exact cc y hy,((K₃'.trans K₄).trans b2).but hD c6 a9.toks,d3,?_,o1,⟨_,_,Dy _ o3 rfl,?_⟩,o2⟩ (by simp;exact o61 al) h5 (by simpa using b4))
    ·exact o4.of (Ext.refl _) fun o ho=>c6 I o c0 ho
    ·simpa using (a8.imp fun a b (h:VRel θ ρ' a b)=>(VRel.ext (K₄.trans b2).ext h)).append (All2.cons d1 All2.nil)
   |false=>
    rw[if_neg (by decide)];refine cL (be K₄) fun o1 o2 o3 o4=>?_;exact hq m _ (DV _) (.mk G c3 (j+1) ws us ⟨bk,fun y hy=>by refine(ir bx)▸?_;exact cc y hy,K₃'.trans K₄,b1,o4,o1,⟨items,q,o3,a8.imp fun J J=>VRel.ext K₄.ext⟩,o2⟩ (by exact o65 al) Z b4)
end
section
variable {prog:C9}{w:World}{θ:Th}{B:Fix}{n:Nat}{sc csc:Scope}
theorem dQ:∀(l:List (Str×D4)) (m:Nat) (acc:List (Str×Addr)) (y:Str) (c:Addr),(y,c)∈E2 m l acc→(y,c)∈acc∨m≤c
 |[],_,_,_,_,h=>.inl h
 |(z,q)::r,m,acc,y,c,h=>by
  unfold E2 at h
  split at h
  ·rcases dQ r (m+1) _ y c h with h1|h1
   ·rcases Da.mp h1 with e|h1
    ·injection e with G H;subst G;subst H;exact .inr (DK _)
    ·exact .inl h1
   ·exact .inr (FQ h1)
  ·exact dQ r m acc y c h
theorem dR {h h':Heap}{a:Addr}(G:∀b o,h.get? b=some o→h'.get? b=some o)(H:h'.objs.size≤a):h.get? a=none:=by
 cases e:h.get? a with
 |none=>rfl
 |some o=>exact absurd (De (rl (G a o e)) H) (DF _)
theorem SRel.base_none {env ρ st}{s:Shared}(S:SRel θ B sc env ρ st s){a:Addr}(h:s.heap.get? a=none):B.base a=none:=by
 cases hb:B.base a with
 |none=>rfl
 |some o=>have:=(S.fix a o hb).1;rw[h]at this;contradiction
theorem SRel.notW {env ρ st}{s:Shared}(S:SRel θ B sc env ρ st s){a:Addr}(h:s.heap.get? a=none):¬Wf env a:=by
 rintro(rfl|⟨y,H⟩)
 ·refine xEA S.e.ns fun m G J=>?_;refine bq G fun o es ep O r=>?_;rw[h]at O;contradiction
 ·have:=S.e.clive y a H;rw[h]at this;contradiction
theorem SRel.notρ {env ρ st}{s:Shared}(S:SRel θ B sc env ρ st s){a:Addr}(h:s.heap.get? a=none):a∉ρ:=fun G=>by
 have:=S.h.live a G;rw[h]at this;contradiction
theorem pS {x:Str}{env:Env}{ρ:Rho}{st:St}{s:Shared}(c:CapOk sc csc x)(S:SRel θ B sc env ρ st s)(C:Addr){y:Str}{d:Addr}(h:(dP csc env C).cells.lookup y=some d):
  env.cells.lookup y=some d∨C+1≤d:=by
 obtain G:∀y,(y,Em)∈csc.names→(env.cells.lookup y).isSome=true:=fun y H=>by
  refine aL (S.e.cell y (dO c.cap H).2) fun d O hd J=>?_;refine(ir hd)▸?_;rfl
 rcases dQ _ _ _ y d (mem_of_lookup h)with h1|h1
 ·exact .inl (db (cells:=env.cells) csc.names [] (fun J J h=>by cases h) G y d h1)
 ·exact .inr h1
theorem wk {x:Str}{env:Env}(c:CapOk sc csc x)(C:Addr){d:Addr}(h:(dP csc env C).cells.lookup x=some d):C+1≤d:=by
 rcases iT c.own with hk|hk
 ·have h1:=(aH (y:=x) csc.names (C+1) (bw env.cells csc.names []) c.two).2 (by rw[hk];decide);rw[cD csc.names [] c.two,hk]at h1;have h:(E2 (C+1) csc.names (bw env.cells csc.names [])).lookup x=some d:=h;rw[h]at h1;trivial
 ·refine xEA ((aH (y:=x) csc.names (C+1) (bw env.cells csc.names []) c.two).1 hk) fun G h1 h2=>?_;have h:(E2 (C+1) csc.names (bw env.cells csc.names [])).lookup x=some d:=h;rw[h1]at h;injection h with h;subst h;exact h2
theorem kD {x:Str}{xp:Pos}{elt iter:Expr}{bk:List Expr}{pos:Pos}{c1:Sc}{tr:Expr→Tc}{b5:Cl}{A:Dq}{E:Value→Shared→Prop}{env:Env}{ρ:Rho}{st st':St}{s:Shared}{v:V2}{RR:Value→Addr→GH→Shared→Prop}
  (c:CapOk sc csc x)(c2:jg prog w θ B n sc iter c1)(ht:∀e,TrOk prog w θ B n csc e (tr e))(he:EvOk prog w θ B n csc elt b5)(R:Rm n A s)(S:SRel θ B sc env ρ st s)
  (e:(eK x c1 (bG tr bk) b5).run st=.ok v st')
  (d3:∀ρ' s' D C m,SRel θ B sc env ρ' st' s'→Kp NoW ρ s ρ' s'→st'.loc=st.loc→VRel θ ρ' v (.ref D)→s'.heap.Ns C m→C∉ρ'→¬Wf env C→B.base C=none→s.heap.get? C=none→RR (.ref D) C (.ok .next) s'):
  wpAny (model prog w) A (eval iter env) (fun u s₁=>wpAny (model prog w) A (Lh u) (fun it s₂=>wpAny (model prog w) A (newList []) (fun acc s₃=>
   wpAny (model prog w) A (IU csc env.globals (bw env.cells csc.names []) [] env.qual none .none (some env)) (fun cenv c3=>
    Fb (model prog w) A (.compStart (.ListComp elt [⟨.Name x xp,iter,bk,0⟩] csc pos) 0 it acc { cenv with scope:=relabel csc env }) (RR acc cenv.locals) c3) E s₃) E s₂) E s₁) E s:=by
 apply u3 e;clear e;intro c4 e;apply pv e;clear e;intro sr V h1 e;apply z9 e;clear e;intro vs N H h2 e;refine ay R (c2 _ _ _ _ _ _ _ _ _ R S h1 fun u ρ₀ s₀ S₀ K₀ b6 c5 c6=>?_);obtain d4:sr.at V.hp 0≠none:=fun hn=>u1 h2 fun J h J=>by rw[hn]at h;contradiction
 refine ay c6 (jh S₀ c5 d4 fun I O Z hI c7 bx a8 b7=>?_);obtain S₁:=S₀.kept a8 Z;obtain K₁:=Kp.kept NoW ρ₀ s₀ Z a8;refine EF ?_ (by size_fits);have b2:=S₁.junk { cls:=.type "list",data:=.seq #[] } Z;obtain e4:=K₁.trans (Kp.junk NoW ρ₀ { s₀ with heap:=O,toks:=Z } { cls:=.type "list",data:=.seq #[] } Z);obtain⟨G,eh⟩:∃G,G=O.push { cls:=.type "list",data:=.seq #[] }:=⟨_,rfl⟩
 have hL:G.get? O.objs.size=some { cls:=.type "list",data:=.seq #[] }:=by refine(ir eh)▸?_;exact rh _ rfl
 obtain a9:∀b o,O.get? b=some o→G.get? b=some o:=fun b o e=>by refine(ir eh)▸?_;exact mc _ e
 obtain b3:G.objs.size=O.objs.size+1:=by refine(ir eh)▸?_;exact Eh ..
 rw[←eh]at b2⊢;clear eh;refine nA ?_;obtain ca:=wh c b2 (by refine(ir b6)▸?_;exact c4);have ag:∀b o,s₀.heap.get? b=some o→G.get? b=some o:=fun b o e=>a9 b o (a8 b o e)
 have a0:∀b o,G.get? b=some o→
   (Gw (G.push { cls:=.type "dict",data:=.dict #[] }) csc.names).get? b=some o:=fun b o e=>G5 _ _ b o (mc _ e)
 have b1:s₀.heap.get? O.objs.size=none:=dR a8 (DK _);have b4:s₀.heap.get? G.objs.size=none:=dR ag (DK _);have be:I<O.objs.size:=by refine xE (Dv.mp bx) fun o ho=>?_;exact rl ho
 have al:O.objs.size<G.objs.size:=by refine(ir b3)▸?_;exact DV _
 obtain d5:I<G.objs.size:=DW be al
 have notW:∀a,s₀.heap.get? a=none→a<G.objs.size→¬Wf (dP csc env G.objs.size) a:=by
  rintro a ha c0 (h|⟨y,hy⟩)
  ·rw[h]at c0;exact DF _ c0
  ·rcases pS c b2 _ hy with h|h
   ·exact S₀.notW ha (.inr ⟨y,h⟩)
   ·exact DF _ (De c0 (FQ h))
 obtain fresh:∀a,Wo (dP csc env G.objs.size) x a→s₀.heap.get? a=none:=by
  rintro a (h|h)
  ·refine(ir h)▸?_;exact b4
  ·exact dR ag (FQ (wk c _ h))
 obtain cb:Rm n A { s₀ with heap:=Gw (G.push { cls:=.type "dict",data:=.dict #[] }) csc.names,toks:=Z }:=⟨b7.1,b7.2⟩
 obtain d6:Aq θ B csc (dP csc env G.objs.size) x V.loc sr I O.objs.size ρ₀ s₀ A n ρ₀ (V.with (rmL x V.loc)) 0 []
   { s₀ with heap:=Gw (G.push { cls:=.type "dict",data:=.dict #[] }) csc.names,toks:=Z }:=
  ⟨ca,fun y hy=>by show lk y (rmL x V.loc)=_;rw[jl,if_neg hy],Kp.kept NoW ρ₀ s₀ Z fun b o e=>a0 b o (ag b o e),cb,
   c7.of (Ext.refl _) fun o ho=>a0 I o (a9 I o ho),S₀.notρ hI,⟨#[],0,a0 _ _ hL,All2.nil⟩,S₀.notρ b1⟩
 have loop:Fb (model prog w) A (.compLoop (.ListComp elt [⟨.Name x xp,iter,bk,0⟩] csc pos) 0 (.ref I) (.ref O.objs.size) (dP csc env G.objs.size))
   (RR (.ref O.objs.size) G.objs.size)
   { s₀ with heap:=Gw (G.push { cls:=.type "dict",data:=.dict #[] }) csc.names,toks:=Z }:=by
  refine tA c.own ht he fresh hI b1 (Dh be) (notW _ hI d5) (notW _ b1 al) (S₀.base_none hI) (S₀.base_none b1) d6 h2 fun ρ' e5 s' items q S' K' hn hH cc ch ci=>?_;refine cL (bF e) fun d7 J dv e0=>?_;subst dv;subst e0;refine xEA S'.e.ns fun m hm J=>?_;have SO:SRel θ B sc env ρ' ⟨V.loc,N,H⟩ s':=S₀.after (st':=⟨V.loc,N,H⟩) K' (by refine hn▸hH▸?_;exact S'.h) rfl;obtain d1:G.objs.size∉ρ':=S'.e.out
  obtain KA:=(K₀.trans K').add (a:=O.objs.size) (by
   cases h0:s.heap.get? O.objs.size with
   |none=>rfl
   |some o=>have:=K₀.alive _ (by rw[h0];rfl);rw[b1]at this;contradiction)
  obtain KB:=(Kp.refl NoW ρ₀ s₀).trans K';obtain SA:SRel θ B sc env (ρ'++[O.objs.size]) ⟨V.loc,N+1,H.set 12 N (.list vs)⟩ s':=S₀.after (st':=⟨V.loc,N+1,H.set 12 N (.list vs)⟩) (K'.add b1) (SO.h.add (by exact o5 d7) ci cc ⟨items,q,rfl,ch⟩) rfl;refine d3 _ s' _ _ m SA KA b6 ⟨O.objs.size,?_,rfl⟩ hm ?_ (S₀.notW b4) (S₀.base_none b4) ?_
  ·have:ρ'.length=N:=SO.h.len;refine this▸?_;grind -abstractProof
  ·intro d2;rcases Eo.mp d2 with h|h
   ·exact d1 h
   ·have h:=DD.mp h;rw[h]at al;exact DF _ al
  ·cases h0:s.heap.get? G.objs.size with
   |none=>rfl
   |some o=>have:=K₀.alive _ (by rw[h0];rfl);rw[b4]at this;contradiction
 exact codeAny_compStart_list loop (tw (c7.of (ρ':=ρ₀) (Ext.refl _) fun o ho=>a0 I o (a9 I o ho)) loop)
end
section
variable {prog:C9}{w:World}{θ:Th}{B:Fix}{n:Nat}{sc csc:Scope}
theorem SRel.closure {x:Str}{env:Env}{ρ:Rho}{st:St}{s:Shared}(S:SRel θ B sc env ρ st s)(c:CapOk sc csc x):Jq csc env=pure (bw env.cells csc.names []):=
 jW fun y G=>by
  refine aL (S.e.cell y (dO c.cap G).2) fun d H hd J=>?_;refine(ir hd)▸?_;rfl
theorem CapOk.names {x:Str}(c:CapOk sc csc x):∀y∈csc.names,y.2=.local→csc.names.lookup y.1=some .local:=fun y G hl=>by
 obtain⟨z,k⟩:=y;subst hl;rw[←aG];exact gS c.two G
theorem lR {x:Str}{xp:Pos}{elt iter:Expr}{H:List Expr}{pos:Pos}{J:Sc}{tr:Expr→Tc}{G:Cl}
  (c:CapOk sc csc x)(O:jg prog w θ B n sc iter J)(hns:∀env u,Hc iter env u=pure u)(ht:∀e,TrOk prog w θ B n csc e (tr e))(he:EvOk prog w θ B n csc elt G):
  EvOk prog w θ B n sc (.ListComp elt [⟨.Name x xp,iter,H,0⟩] csc pos) (eK x J (bG tr H) G):=by
 intro A E Q env ρ st s v st' R S e k;rw[eval_ListComp];refine Ih (use:=none) (g:=⟨.Name x xp,iter,H,0⟩) (gs:=[]) rfl (hns env) (S.closure c) c.fn c.names ?_;refine kD (RR:=fun acc C=>compPost (model prog w) A E none Q acc C) c O ht he R S e fun ρ' s' D C m S' K' l' r' hC V Z a0 a8=>⟨m,hC,fun h' a9=>?_⟩
 have hk:∀b o,b≠C→s'.heap.get? b=some o→h'.get? b=some o:=fun b o hb e=>a9.extBut b o hb e;exact k _ _ _ (S'.but V Z a0 hk s'.toks) (K'.but a8 hk s'.toks) l' r'
theorem jX {x y:Str}{xp yp:Pos}{elt iter:Expr}{G:List Expr}{pos p:Pos}{al:Sc}{tr:Expr→Tc}{V:Cl}
  (c:CapOk sc csc x)(Z:jg prog w θ B n sc iter al)(hns:∀env u,Hc iter env u=pure u)(ht:∀e,TrOk prog w θ B n csc e (tr e))(he:EvOk prog w θ B n csc elt V)(hy:bQ sc y=true):
  StOk prog w θ B n sc (.Assign [.Name y yp] (.ListComp elt [⟨.Name x xp,iter,G,0⟩] csc pos) p) (b0 sc (eK x al (bG tr G) V) (.Name y yp)):=by
 intro A E Q env ρ st s o R S er a8 k;apply dk er a8;clear er;intro v H h1 er;refine xEA (Rf.of_next er a8) fun a9 hb b4=>?_;clear er a8;subst b4
 obtain b5:a9=H.with (up y v H.loc):=by
  rw[dN,hy]at hb;injection hb with hb;subst hb;rfl
 subst b5;have O:∃b,Gs (.ListComp elt [⟨.Name x xp,iter,G,0⟩] csc pos) (some (.Name y yp)) p.line env=pure b:=⟨_,rfl⟩
 refine xE O fun b O=>?_
 cases b with
 |false=>
  refine Ib ?_ O;exact ay R (lR c Z hns ht he _ _ _ _ _ _ _ _ _ R S h1 fun u b6 s₁ b1 K₁ c0 b2 c1=>eL b1 hy b2 fun s' S' K'=>k _ _ S' (K₁.wf.trans K'.wo))
 |true=>
  rw[exec_Assign_Name_used _ _ _ _ O];refine wb3 ?_;show wpAny _ A (do let _ ←Ij (.ListComp elt [⟨.Name x xp,iter,G,0⟩] csc pos) csc env _ (newList []) false (eval iter env) (some (Go (.Name y yp) env))) _ _ s;refine il (Dn (Ih (Q:=fun J s'=>Q .next s') (g:=⟨.Name x xp,iter,G,0⟩) (gs:=[]) rfl (hns env) (S.closure c) c.fn c.names ?_) (fun J s' hq=>nb (nb hq)) fun J J e=>e);refine kD (RR:=fun acc C=>compPost (model prog w) A E (some (Go (.Name y yp) env)) (fun J s'=>Q .next s') acc C) c Z ht he R S h1 fun ρ' s' D C m S' K' l' r' hC a0 b3 b7 be=>?_;show wpAny _ A (Go (.Name y yp) env (.ref D)) _ E s';refine dM S' hy r' fun ag S'' K''=>?_;refine bq hC fun oc ec pc bk rc=>?_;refine yEA m ⟨oc,ec,pc,(K''.keep C oc a0 (fun hw=>b3 hw.wf) bk).get (fun ps q=>by have:=rc.1;rw[q]at this;contradiction),rc⟩ (fun h' bx=>?_);have hk:∀b o,b≠C→ag.heap.get? b=some o→h'.get? b=some o:=fun b o hb e=>bx.extBut b o hb e;exact k _ _ (S''.but a0 b3 b7 hk ag.toks) ((K'.wf.trans K''.wo).but be hk ag.toks)
end
end
section
open PySem PyProof.Rows PyProof.V PySem.Builtin PySem.Builtin.Str
section
variable {prog:C9}{w:World}{θ:Th}{B:Fix}{n:Nat}{sc:Scope}
theorem kE (θ:Th)(x:Str):θ.str (cX x)=x:=by
 apply eM;rw[bV];unfold cX
 induction x.cps.toList with
 |nil=>rfl
 |cons a l G=>simpa [Th.at1] using G
theorem nF {x:Str}{l:List Nat}(h:cX x=l.map At.c):x=⟨l.toArray⟩:=by
 apply eM
 obtain e:(cX x).map (fun a=>match a with|.c n=>n|.t _ _=>0)=x.cps.toList:=by
  refine(ir I5)▸?_;exact List.map_id _
 refine e▸(ir h)▸(ir I5)▸?_;exact List.map_id _
theorem nG {i:Nat}{x y:Str}(h:gE i (cX x) (cX y)=true):∃p,o0[i]?=some p∧x=⟨p.1.toArray⟩∧y=⟨p.2.toArray⟩:=by
 refine iM h fun p G h=>?_;refine aT h fun h1 h=>?_;exact⟨p,G,nF (rX h1),nF (rX h)⟩
theorem xY {i:Nat}{p:List Nat×List Nat}(h:o0[i]?=some p):p.1≠p.2∧p.2.length=1∧p.1.length≠0:=by
 have a:∀q∈o0,q.1≠q.2∧q.2.length=1∧q.1.length≠0:=by decide
 exact a p (C6 h)
theorem pT (ok:θ.Ok){s r:List At}{x y:Str}(h:replace s (cX x) (cX y)=some r):
  (x==y)=false∧y.length=1∧s.length≤1∧EM (θ.str s) x y=θ.str r:=by
 have key:∀i,gE i (cX x) (cX y)=true→(x==y)=false∧y.length=1∧x.length≠0:=fun i hi=>by
  refine aQ (nG hi) fun p hp G H=>?_;subst G;subst H;refine xAA (xY hp) fun h1 h2 h3=>?_;refine yAA (beq_eq_false_iff_ne.mpr fun e=>h1 ?_) (by show p.2.toArray.size=1;trivial) (by show p.1.toArray.size≠0;trivial);have:=congrArg (fun s:Str=>s.cps.toList) e;simpa using this
 have one:∀(k i:Nat) (r:List At),AY k (i+1) (cX x) (cX y)=some r→(x==y)=false∧y.length=1∧EM (θ.str [.t k (i+1)]) x y=θ.str r:=fun k i r h=>by
  apply az h;clear h;intro hi h;injection h with h;subst h;refine xAA (key i hi) fun h1 h2 h3=>?_;refine aQ (nG hi) fun p hp J O=>?_;subst J;subst O;refine yAA h1 h2 ?_;have e:∀j,θ.str [.t k j]=⟨(θ.tx k j).toArray⟩:=fun j=>by simp[Th.str,Th.at1]
  rw[e,e];exact ok.rp k i p hp
 cases s with
 |nil=>
  apply az h;clear h;intro V h;injection h with h;subst h
  have:∃i,gE i (cX x) (cX y)=true:=by
   unfold uE at V;simp only[Ip]at V;rcases V with((h|h)|h)|h
   ·exact⟨_,h⟩
   ·exact⟨_,h⟩
   ·exact⟨_,h⟩
   ·exact⟨_,h⟩
  refine xE this fun i hi=>?_;refine xAA (key i hi) fun h1 h2 h3=>?_;refine lF h1 h2 (by simp) ?_;unfold EM;rw[if_pos];rcases IY (θ.str []) x ((θ.str []).length+1) (by exact o11)with⟨Z,_⟩|⟨i,_,_,hA,_⟩
  ·rw[Z];rfl
  ·exfalso;have:=hA.1;obtain e:(θ.str []).length=0:=rfl;rw[e]at this;lia -abstractProof
 |cons u r'=>cases u with
  |c _=>contradiction
  |t k i=>cases r' with
   |cons _ _=>contradiction
   |nil=>cases i with
    |zero=>contradiction
    |succ i=>refine xAA (one k i r h) fun h1 h2 h3=>?_;exact lF h1 h2 (DK 1) h3
theorem kF {A:Dq}{E:Value→Shared→Prop}{Q:Unit→Shared→Prop}{env ρ st}{s:Shared}{x:Str}{v:V2}{u:Value}{m:Str→Option Value}(S:SRel θ B sc env ρ st s)(hk:au x sc.names=some .local)(hu:VRel θ ρ v u)(hn:s.heap.Ns env.locals m)
  (h:∀s',SRel θ B sc env ρ (st.with (up x v st.loc)) s'→Kp (Wo env x) ρ s ρ s'→s'.heap.Ns env.locals (fun y=>if y=x then some u else m y)→Q () s'):wpAny (model prog w) A (FL env x u) Q E s:=by
 refine xEA S.e.ns fun a9 Z a0=>?_
 have b1:∀y,a9 y=m y:=fun y=>by
  refine ik hn fun o es ep ho hd J hf=>?_;refine ik Z fun o' b6 b7 O ag J b2=>?_;rw[ho]at O;injection O with O;subst O;rw[hd]at ag;injection ag with b3 b4;subst b3;subst b4;rw[←hf y,←b2 y]
 refine Ec (S.e.kl x hk) hn (fun h' V a8=>?_) (by rw[S.e.fn];rfl);have G:∀a o,a≠env.locals→s.heap.get? a=some o→h'.get? a=some o:=fun a o ha e=>(a8.2 a ha).trans e
 have H:∀a,(s.heap.get? a).isSome=true→(h'.get? a).isSome=true:=fun a ha=>by
  by_cases e:a=env.locals
  ·refine bq V fun o J J ho J=>?_;rw[e,ho];rfl
  ·rw[a8.2 a e];exact ha
 refine h _ ⟨S.h.of fun b hb o e=>G b o (fun q=>S.e.out (q▸hb)) e,⟨S.e.fn,S.e.kl,S.e.kc,S.e.kf,S.e.kg,⟨_,V,?_⟩,?_,S.e.apart,S.e.out,fun y c hc=>H c (S.e.clive y c hc)⟩,S.gl,S.bu,?_⟩ ?_ V
 ·intro y z hy hl;rw[show(st.with (up x v st.loc)).loc=up x v st.loc from rfl,eX]at hl;by_cases e:y=x
  ·clear V h hk;subst e;rw[if_pos rfl]at hl;injection hl with hl;subst hl;exact yEA u (by simp) hu
  ·rw[if_neg e]at hl;rw[if_neg e,←b1];exact a0 y z hy hl
 ·intro y hy;refine aZ (S.e.cell y hy) fun c v' hc al b5 hv hh=>?_;refine bi c v' hc al b5 (hv.sameBut a8 al) (fun z hl=>hh z ?_);rw[show(st.with (up x v st.loc)).loc=up x v st.loc from rfl,eX]at hl;have:y≠x:=by rintro rfl;rcases hy with hy|hy<;>(rw[hk]at hy;injection hy with hy;contradiction)
  rwa [if_neg this]at hl
 ·intro a o e;refine xAA (S.fix a o e) fun h1 h2 h3=>?_;exact yAA (G a o (fun e=>h3 (.inl e)) h1) h2 h3
 ·exact⟨.refl _,⟨rfl,rfl,id⟩,H,fun a o ha hw e=>.inl (G a o (fun e=>hw (.inl e)) e),fun a h1 h2=>absurd h1 h2⟩
noncomputable def BC (env:Env) (ρ:Rho) (h:Heap) (p:Str×Str) (u:Value):Prop:=∃T t G q,u=D7 T∧T∉ρ∧¬Wf env T∧h.get? T=some { cls:=.type "tuple",dict:=none,data:=.seq #[.str p.1 t,.str p.2 G] q,slots:= #[] }∧t≠0∧G≠0∧t≠G
noncomputable def PairsAt (env:Env) (ρ:Rho) (h:Heap) (ps:List (Str×Str)) (us:List Value):Prop:=All2 (BC env ρ h) ps us
theorem PairsAt.to {env:Env}{ρ:Rho}{h h':Heap}{ps us}(x:PairsAt env ρ h ps us)(G:∀b o,b∉ρ→¬Wf env b→o.cls=.type "tuple"→h.get? b=some o→h'.get? b=some o):PairsAt env ρ h' ps us:=
 x.imp fun _ _=>DO fun T=>DO fun _=>DO fun _=>DO fun _ z=>⟨z.1,z.2.1,z.2.2.1,G T _ z.2.1 z.2.2.1 rfl z.2.2.2.1,z.2.2.2.2⟩
theorem PairsAt.of {env:Env}{ρ:Rho}{h h':Heap}{ps us}(x:PairsAt env ρ h ps us)(G:∀b o,b∉ρ→¬Wf env b→(∀ps,o≠cM ps)→h.get? b=some o→h'.get? b=some o):PairsAt env ρ h' ps us:=
 x.to fun b o h1 h2 c=>G b o h1 h2 fun _ q=>KY ((congrArg Ik q).symm.trans c)
theorem SRel.newOut {env:Env}{ρ:Rho}{st:St}{s:Shared}(S:SRel θ B sc env ρ st s):s.heap.objs.size∉ρ∧¬Wf env s.heap.objs.size∧B.base s.heap.objs.size=none:=by
 have G:s.heap.get? s.heap.objs.size=none:=bb _;refine⟨fun J=>?_,?_,?_⟩
 ·have:=S.h.live _ J;rw[G]at this;contradiction
 ·rintro(e|⟨y,O⟩)
  ·refine xEA S.e.ns fun m H h=>?_;refine bq H fun o es ep V r=>?_;rw[←e,G]at V;contradiction
  ·have:=S.e.clive y _ O;rw[G]at this;contradiction
 ·cases hb:B.base s.heap.objs.size with
  |none=>rfl
  |some o=>have:=(S.fix _ o hb).1;rw[G]at this;contradiction
theorem kG {A:Dq}{E:Value→Shared→Prop}{env:Env}{ρ:Rho}{st:St}{pos:Pos}:∀(es:List Expr) {ps:List (Str×Str)} {s:Shared} {Q:List Value→Shared→Prop},ie es=some ps→Rm n A s→SRel θ B sc env ρ st s→
  (∀us h' t,SRel θ B sc env ρ st { s with heap:=h',toks:=t }→(∀b o,s.heap.get? b=some o→h'.get? b=some o)→PairsAt env ρ h' ps us→us.length=ps.length→Rm n A { s with heap:=h',toks:=t }→Q us { s with heap:=h',toks:=t })→
  wpAny (model prog w) A (Ke (EN pos (D6 es env))) Q E s
 |[],ps,s,Q,e,R,S,k=>by
  injection e with e;subst e;exact Dp (k [] s.heap s.toks S (fun J J h=>h) All2.nil rfl R)
 |x::r,ps,s,Q,e,R,S,k=>by
  apply aS e;clear e;intro ab hp e;refine xL (sH hp) fun O V Z pb kk pp hx=>?_;subst hx;obtain⟨a,b⟩:=ab;apply aS e;clear e;intro l hr e;injection e with e;subst e;rw[aF (fun J J h=>by contradiction)];refine C8 ?_;rw[arm_eval_Tuple];refine wb3 ?_;refine(ir (show EN pp (D6 [.Constant (.str a) O V,.Constant (.str b) Z pb] env)=[(false,eval (.Constant (.str a) O V) env),(false,eval (.Constant (.str b) Z pb) env)] from rfl))▸?_;refine C8 (Ds (C8 (Ds (Dp ?_))));refine Ga ?_ (by show 2≤Eu;refine(ir Di)▸?_;decide);obtain h0:=R.2;refine xAA S.newOut fun o1 o2 o3=>?_;have hk:∀G o,s.heap.get? G=some o→(s.heap.push { cls:=.type "tuple",data:=.seq [Du a s.toks,Du b (s.toks+1)].toArray }).get? G=some o:=fun G o e=>mc _ e;refine kG r hr ⟨R.1,DT _⟩ (S.kept hk (s.toks+1+1)) fun us h' t S' H hp hl R'=>?_;refine k _ h' t S' (fun G o e=>H G o (hk G o e)) (All2.cons ⟨_,_,_,_,rfl,o1,o2,H _ _ (rh _ rfl),Nat.pos_iff_ne_zero.mp h0,FF _,(Hf _).symm⟩ hp) (by simp[hl]) R'
end
section
variable {prog:C9}{w:World}{θ:Th}{B:Fix}{n:Nat}{sc:Scope}
theorem dS {x:Str}(h:d8 sc x=true):au x sc.names=some .local:=by
 unfold d8 at h
 split at h
 ·contradiction
 ·split at h
  ·assumption
  ·contradiction
theorem nH {x:Str}(h:d8 sc x=true):(x==("__debug__":Str))=false:=by
 unfold d8 at h;refine aJ (aA x dE) (fun hd=>?_) fun hd=>?_
 ·rw[hd]at h;contradiction
 ·refine beq_eq_false_iff_ne.mpr fun e=>?_;have e:x=dE:=e;rw[(ao _ _).mpr e]at hd;contradiction
theorem jm {A:Dq}{E:Value→Shared→Prop}{env:Env}{ρ st}{s:Shared}{x:Str}{pos:Pos}{m:Str→Option Value}{v:Value}{Q:Value→Shared→Prop}(S:SRel θ B sc env ρ st s)(G:d8 sc x=true)
  (hn:s.heap.Ns env.locals m)(H:m x=some v)(h:Q v s):wpAny (model prog w) A (eval (.Name x pos) env) Q E s:=
 FZ (Ex S.e.fn (S.e.kl x (dS G)) hn H h) (nH G)
theorem nJ {C:Prop}{x y z:Str}{b:List Stmt}(h:ig sc x y b=some z)(k:∀O G ap V Z pos p,b=[.Assign [.Name z O] (.Call (.Attribute (.Name z G) "replace" ap) [.Name y V,.Name x Z] [] pos) p]→
  (ap.endLine==pos.line)=true→d8 sc x=true→d8 sc y=true→d8 sc z=true→x≠y→x≠z→y≠z→C):C:=by
 unfold ig at h
 cases b with
 |nil=>contradiction
 |cons s r=>
 cases r with
 |cons _ _=>contradiction
 |nil=>
  dsimp only at h;apply aS h;clear h;intro a h1 h;apply aS h;clear h;intro z' h2 h;apply aS h;clear h;intro c h3 h;apply az h;clear h;intro h4 h;injection h with h;subst h;simp only[zj,DM]at h4;refine xA h4 fun h4 g3=>?_;refine xA h4 fun h4 g2=>?_;refine xA h4 fun h4 g1=>?_;refine xA h4 fun h4 lz=>?_;refine xA h4 fun h4 ly=>?_;refine xA h4 fun h4 lx=>?_;refine xA h4 fun h4 hl=>?_;refine xA h4 fun h4 hm=>?_;refine xA h4 fun ho H=>?_;obtain e1:=sJ h3;have hm:=(ao _ _).mp hm;refine xE (vl h1) fun p e2=>?_;refine xE (cG h2) fun O e3=>?_;refine xE (iR ho) fun G e4=>?_;refine zr c.args (fun J=>?_) fun u r J=>?_
  ·rw[J]at H;contradiction
  rw[J]at H
  cases r with
  |nil=>contradiction
  |cons v r=>
  cases r with
  |cons _ _=>contradiction
  |nil=>
   refine xA ((DM _ _).mp H) fun H hb=>?_;refine xE (iR H) fun V e5=>?_;refine xE (iR hb) fun Z e6=>?_;refine k O G c.ap V Z c.pos p ?_ (beq_iff_eq.mpr (nd hl)) lx ly lz ?_ ?_ ?_
   ·refine(ir e2)▸(ir e3)▸(ir e1)▸(ir e4)▸(ir hm)▸(ir J)▸(ir e5)▸(ir e6)▸?_;rfl
   ·intro q;rw[(ao _ _).mpr q]at g1;contradiction
   ·intro q;rw[(ao _ _).mpr q]at g2;contradiction
   ·intro q;rw[(ao _ _).mpr q]at g3;contradiction
theorem tB {C:Prop}{t it:Expr}{b:List Stmt}{l:zV}(h:rN sc t it b=some l)
  (k:∀x y z ps G H J O es lp,l=⟨x,y,z,ps⟩→t=.Tuple [.Name x G,.Name y H] J O→it=.List es lp→ie es=some ps→ig sc x y b=some z→ps.length≤1000→C):C:=by
 apply aS h;clear h;intro V h1 h
 cases V with
 |nil=>contradiction
 |cons xe r=>
 cases r with
 |nil=>contradiction
 |cons ye r=>
 cases r with
 |cons _ _=>contradiction
 |nil=>
 dsimp only at h;apply aS h;clear h;intro x h2 h;apply aS h;clear h;intro y h3 h;apply aS h;clear h;intro es h4 h;apply aS h;clear h;intro ps Z h;apply aS h;clear h;intro z h6 h;apply az h;clear h;intro h7 h;injection h with h;refine xEE (iQ h1) fun J O e1=>?_;refine xE (cG h2) fun G e2=>?_;refine xE (cG h3) fun H e3=>?_;refine xE (sG h4) fun lp e4=>?_;subst e2;subst e3;exact k x y z ps G H J O es lp h.symm e1 e4 Z h6 (DG h7)
noncomputable def CR (θ:Th) (B:Fix) (sc:Scope) (env:Env) (A:Dq) (n:Nat) (ρ:Rho) (s:Shared) (x y z:Str) (ps:List (Str×Str)) (us:List Value) (L I:Addr) (o:Rf) (m:Nat) (s':Shared):Prop:=
 ∃st' j,m=ps.length-j∧j≤ps.length∧SRel θ B sc env ρ st' s'∧Kp (Wf env) ρ s ρ s'∧Rm n A s'∧s'.heap.IsListIter I L j∧s'.heap.IsList L us.toArray∧
  PairsAt env ρ s'.heap ps us∧rO x y z (ps.drop j) st'=o
theorem tC (c:Ctx prog w θ B){t it:Expr}{b:List Stmt}{p:Pos}{l:zV}(h:rN sc t it b=some l):StOk prog w θ B n sc (.For t it b [] p) ⟨rO l.x l.y l.z l.ps⟩:=by
 intro A E Q env ρ st s o R S e b7 k;refine tB h fun x y z ps xp yp x1 tp es lp e0 e1 e2 hp hb f4=>?_;subst e0;subst e1;subst e2;refine nJ hb fun zp f5 ap f6 f7 pos pp dv hl hx hy hz e4 e5 e6=>?_;subst dv;obtain kx:=dS hx;obtain ky:=dS hy;have kz:=dS hz;refine I0 ?_ (fun J=>rfl);refine wb3 (kG es hp R S fun us h1 t1 S1 c7 hP a0 R1=>?_);refine EK ?_ (by refine(ir a0)▸(ir Di)▸?_;lia -abstractProof);refine xAA S1.newOut fun e7 e9 f8=>?_;have al:∀b o,h1.get? b=some o→(h1.push { cls:=.type "list",data:=.seq us.toArray }).get? b=some o:=fun b o e=>mc _ e;have S2:=S1.kept al t1;have be:(h1.push { cls:=.type "list",data:=.seq us.toArray }).get? h1.objs.size=some _:=rh _ rfl;generalize f9:h1.push { cls:=.type "list",data:=.seq us.toArray }=h2 at *;obtain hL:h2.IsList h1.objs.size us.toArray:=⟨_,be,rfl,_,rfl⟩
 refine Ia hL ?_;refine xAA S2.newOut fun bk bx ca=>?_;have cb:h2.get? h2.objs.size=none:=bb _;have b1:∀b o,h2.get? b=some o→(h2.push { cls:=.type "list_iterator",data:=.fields #[.ref h1.objs.size,.int 0 0] }).get? b=some o:=fun b o e=>mc _ e;obtain S3:=S2.kept b1 t1;obtain ea:(h2.push { cls:=.type "list_iterator",data:=.fields #[.ref h1.objs.size,.int 0 0] }).get? h2.objs.size=some _:=rh _ rfl;obtain eb:h1.objs.size≠h2.objs.size:=fun e=>by rw[←e,be]at cb;contradiction
 obtain ec:PairsAt env ρ h2 ps us:=hP.of fun b o J J J e=>al b o e
 have b4:s.heap.get? h2.objs.size=none:=by
  cases hc:s.heap.get? h2.objs.size with
  |none=>rfl
  |some o=>have:=al _ _ (c7 _ _ hc);rw[cb]at this;contradiction
 obtain K3:Kp (Wf env) ρ s ρ { s with heap:=h2.push { cls:=.type "list_iterator",data:=.fields #[.ref h1.objs.size,.int 0 0] },toks:=t1 }:=
  Kp.kept _ ρ s t1 fun b o e=>b1 b o (al b o (c7 b o e))
 refine Aj (CR θ B sc env A n ρ s x y z ps us h1.objs.size h2.objs.size o) _ (fun _ z=>z) ps.length
  ⟨st,0,rfl,Ej _,S3,K3,R1,⟨_,ea,rfl,rfl⟩,⟨_,b1 _ _ be,rfl,_,rfl⟩,ec.of fun b o J J J e=>b1 b o e,e⟩ ?_
 intro m s' Q' E' cc hq;refine gL cc fun st' j ee hj S' K' R' b2 hlist V e'=>?_;clear cc;subst ee;refine zr (ps.drop j) (fun hd=>?_) fun ab rest hd=>?_
 ·have c0:ps.length≤j:=List.drop_eq_nil_iff.mp hd;rw[hd]at e';subst e';refine II R'.1.1 b2 hlist (by simp only[List.getElem?_toArray];exact List.getElem?_eq_none (by lia -abstractProof)) fun h' he=>?_;exact k _ _ (S'.but bk bx ca he s'.toks) (K'.but b4 he s'.toks)
 ·obtain⟨a,b⟩:=ab
  have c0:j<ps.length:=by
   cases Jh j ps.length with
   |inl h=>exact h
   |inr h=>rw[Kk h]at hd;contradiction
  obtain ef:ps[j]?=some (a,b):=by
   have:=List.getElem?_drop (xs:=ps) (i:=j) (j:=0);rw[hd]at this;simpa using this.symm
  obtain c1:ps.drop (j+1)=rest:=by
   have:=List.drop_drop (l:=ps) (i:=1) (j:=j);rw[hd]at this;simpa using this.symm
  rw[hd]at e';refine jP (V.get ef) fun u ch T tk c2 q eg eh ei ci ht ej eo=>?_;subst eg;refine IB b2 hlist (x:=.ref T) (by simpa using ch) fun O Z G=>?_;obtain S₁:=S'.but bk bx ca G.extBut s'.toks;obtain K₁:=K'.but b4 G.extBut s'.toks;obtain fa:∀b o,b∉ρ→¬Wf env b→b≠h2.objs.size→s'.heap.get? b=some o→O.get? b=some o:=fun b o J J hb e=>G.extBut b o hb e;obtain er:T≠h2.objs.size:=fun e=>by clear ch ei eh;subst e;refine aQ b2 fun J ho hc J=>?_;rw[ci]at ho;injection ho with ho;subst ho;injection hc with hc;exact absurd hc (by decide)
  have c3:PairsAt env ρ O ps us:=V.to fun b o _ _ c e=>G.extBut b o (fun q=>aQ b2 fun _ ho hc _=>absurd (c.symm.trans ((congrArg Ik (Dd (e.symm.trans ((congrArg s'.heap.get? q).trans ho)))).trans hc)) (by decide)) e;obtain b3:=G.extBut _ _ er ci;obtain a8:O.IsList h1.objs.size us.toArray:=by refine xEA hlist fun o ho r=>?_;exact yEA o (G.extBut _ _ eb ho) r
  refine wpAny_letOwnedTupleGo_listiter Z ?_;refine G7 R'.1.1 (items:= #[.str a tk,.str b c2]) ⟨_,b3,rfl,_,rfl⟩ rfl rfl fun b5 c4=>?_;have H:∀b o,O.get? b=some o→b5.get? b=some o:=fun b o e=>c4 b o (fun q=>by rw[q,show({ s' with heap:=O }:Shared).heap.get? ({ s' with heap:=O }:Shared).heap.objs.size=none from bb _]at e;contradiction) e;have S₂:=S₁.kept H s'.toks;obtain K₂:=K₁.trans (Kp.kept (Wf env) ρ _ s'.toks H);obtain h0:=R'.2;refine xEA S₂.e.ns fun f3 c5 et=>?_;apply pz e' b7;clear e';intro v ey e';apply pz e' b7;clear e';intro sx hv e';have hv:=sy hv;subst hv;apply pz e' b7;clear e';intro r hr e';refine cL (pT c.ok hr) fun g1 g2 g3 g4=>?_;show wpAny _ _ (KJ [Go (.Name x xp) env,Go (.Name y yp) env] [.str a tk,.str b c2]) _ _ _;refine Ey (Ea (ay (R'.at h0) (kF S₂ kx (v:=.str (cX a)) ⟨tk,by rw[kE]⟩ c5 fun s₃ d1 K₃ c6 d2=>?_)));refine Ey (Ea (ay d2 (kF d1 ky (v:=.str (cX b)) ⟨c2,by rw[kE]⟩ c6 fun b6 S₄ K₄ a9 d3=>?_)));refine GF ?_;obtain K5:=(K₂.trans K₃.wo).trans K₄.wo;refine csA (ay d3 ?_) (by rfl)
  obtain f0:lk z (up y (.str (cX b)) (up x (.str (cX a)) st'.loc))=some (.str sx):=by
   rw[eX,if_neg e6.symm,eX,if_neg e5.symm,ey]
  refine Dk rfl rfl hl ?_;refine gX (S₄.e.ns.choose_spec.2 z _ kz f0) fun uz f1 tz f2=>?_;refine jm S₄ hz S₄.e.ns.choose_spec.1 (f1.trans (congrArg some f2)) ?_;refine lJ G1 G0 ?_;refine Ev rfl (DR (C8 (jm S₄ hy a9 (by rw[if_pos rfl]) (C8 (jm S₄ hx a9 (by rw[if_neg e4,if_pos rfl]) (Dp ?_))))));obtain fc:=cn c.ok.bd sx;refine I4 ej ht eo.symm g1 ?_ fun t' kk=>?_
  ·obtain e1:(θ.str sx).length≤100*sx.length:=by show(θ.flat sx).toArray.size≤_;trivial
   refine(ir g2)▸?_;exact B6 g3 e1
  ·refine(ir g4)▸?_;intro R5;obtain d4:=S₄.tok kk;obtain K6:=K5.trans (Kp.toks (Wf env) ρ b6 kk);refine ay R5 (eL d4 (by unfold bQ;rw[kz]) (v:=.str r) ⟨t',rfl⟩ fun d5 d6 K₆ d7=>?_);refine C7 ?_
   have keep:∀b o,b∉ρ→¬Wf env b→(∀ps,o≠cM ps)→b5.get? b=some o→d5.heap.get? b=some o:=fun b o h1 h2 h3 e=>
    ((((K₃.wo.trans K₄.wo).trans (Kp.toks (Wf env) ρ b6 kk)).trans K₆.wo).keep b o h1 h2 e).get h3
   refine hq (ps.length-(j+1)) _ (by exact o71 a0 c0) ⟨_,j+1,rfl,by exact CD a0 c0,d6,K6.trans K₆.wo,d7,?_,?_,?_,?_⟩
   ·refine aQ Z fun o ho ag r=>?_;exact dY o (keep _ _ bk bx (fun ps q=>by rw[q]at ag;contradiction) (H _ _ ho)) ag r
   ·refine aQ a8 fun o ho ag r=>?_;exact dY o (keep _ _ e7 e9 (fun ps q=>by rw[q]at ag;contradiction) (H _ _ ho)) ag r
   ·exact(c3.of fun b o J J J e=>H b o e).of keep
   ·refine(ir c1)▸?_;exact e'
end
noncomputable abbrev jY (h:Heap) (z TI TO:Addr) (B:Value) (f:Bool):Prop:=
 h.get? z=some { cls:=.type "zip",dict:=none,data:=.fields #[B,.bool f,.bool false,.ref TI,.ref TO],slots:= #[] }
section
variable {prog:C9}{w:World}{A:Dq}{E:Value→Shared→Prop}{s:Shared}
theorem nK {z TI TO T:Addr}{f:Bool}{oT:Obj}{Q:Bool→Shared→Prop}(hz:jY s.heap z TI TO (DE T) f)(J:s.heap.get? T=some oT)
  (h:∀h',jY h' z TI TO (DE T) true→E3 z s.heap h'→Q false { s with heap:=h' }):
  wpAny (model prog w) A (F9 (.ref z)) Q E s:=by
 refine il (E9 hz rfl (x:=DE T) rfl ?_);show wpAny _ _ (loadIfAlive (Int.toNat (T:Int)) >>= _) _ _ _;refine il (PySem.W.kdx_alive (by trivial) ?_);refine il (E9 hz rfl (x:=.bool f) rfl ?_)
 cases f with
 |true=>
  exact nb (h _ hz (Heap.SameBut.refl _ _))
 |false=>
  refine il (wpAny_setField_rec hz (by simp) fun H B G=>?_);exact nb (h H B G)
theorem lS {z TI TO T i1 i2 l1 l2:Addr}{f:Bool}{oT:Obj}{k1 k2:Nat}{xs ys:Array Value}{x y:Value}{Q:Value→Shared→Prop}(D:IX z TI TO i1 i2 l1 l2)
  (hz:jY s.heap z TI TO (DE T) f)(hT:s.heap.get? T=some oT)(a8:HE s.heap TI (.ref i1) (.ref i2))
  (h1:s.heap.IsListIter i1 l1 k1)(h2:s.heap.IsListIter i2 l2 k2)(a9:s.heap.IsList l1 xs)(ag:s.heap.IsList l2 ys)(hx:xs[k1]?=some x)(hy:ys[k2]?=some y)
  (hQ:∀h',jY h' z TI TO (DE T) true→h'.IsListIter i1 l1 (k1+1)→h'.IsListIter i2 l2 (k2+1)→HE h' s.heap.objs.size x y→h'.objs.size=s.heap.objs.size+1→
   (∀c o,c≠z→c≠i1→c≠i2→s.heap.get? c=some o→h'.get? c=some o)→Q (.ref s.heap.objs.size) { s with heap:=h' }):
  wpAny (model prog w) A (DH.«zip.__next__» ⟨[.ref z],[]⟩) (fun fin s'=>∃v,fin=.done (.ret v)∧Q v s') E s:=by
 show wpAny _ _ (field (.ref z) 2 >>= _) _ _ _;refine il (E9 hz rfl (x:=.bool false) rfl ?_);show wpAny _ _ (field (.ref z) 3 >>= _) _ _ _;refine il (E9 hz rfl (x:=.ref TI) rfl ?_);refine il (E5 a8 rfl ?_);show wpAny _ _ (F9 (.ref z) >>= _) _ _ _;refine il (nK hz hT fun al O B=>?_);refine il ?_;refine il (il (Dx ?_));show wpAny _ _ (F3 (.ref i1) >>= _) _ _ _;refine il (IC (h1.extBut B.extBut D.i1z) (a9.extBut B.extBut D.l1z) hx fun b1 V G=>nb ?_);refine nb ?_;refine il (il (Dx ?_));show wpAny _ _ (F3 (.ref i2) >>= _) _ _ _
 refine il (IC ((h2.extBut B.extBut D.i2z).extBut G.extBut D.i12.symm)
  ((ag.extBut B.extBut D.l2z).extBut G.extBut D.l2i1) hy fun H Z J=>nb ?_)
 refine nb (nb ?_);refine il (Ga ?_ (by show 2≤Eu;rw[Di];decide));refine nb ⟨_,rfl,?_⟩;have a0:H.objs.size=s.heap.objs.size:=by rw[J.1,G.1,B.1]
 show Q (.ref H.objs.size) _;have up:∀c o,H.get? c=some o→(H.push { cls:=.type "tuple",data:=.seq #[x,y] }).get? c=some o:=fun c o e=>mc _ e;have hg:HE (H.push { cls:=.type "tuple",data:=.seq #[x,y] }) H.objs.size x y:=rh _ rfl;rw[a0]at hg⊢
 refine hQ _ (up _ _ (J.extBut _ _ D.i2z.symm (G.extBut _ _ D.i1z.symm O))) ((V.extBut J.extBut D.i12).at fun o e=>up _ o e) (Z.at fun o e=>up _ o e) hg
  (by rw[Eh,a0]) fun c o c1 c2 c3 e=>up _ _ (J.extBut _ _ c3 (G.extBut _ _ c2 (B.extBut _ _ c1 e)))
theorem nL {z TI TO T i1 i2 l1 l2:Addr}{f:Bool}{oT:Obj}{k1 k2:Nat}{xs ys:Array Value}{Q:Fin→Shared→Prop}(hh:A.handled=none)(D:IX z TI TO i1 i2 l1 l2)
  (hz:jY s.heap z TI TO (DE T) f)(hT:s.heap.get? T=some oT)(a8:HE s.heap TI (.ref i1) (.ref i2))
  (h1:s.heap.IsListIter i1 l1 k1)(h2:s.heap.IsListIter i2 l2 k2)(V:s.heap.IsList l1 xs)(a9:s.heap.IsList l2 ys)(Z:xs[k1]?=none∨ys[k2]?=none)
  (hE:∀h' e,(∀c o,c≠z→c≠i1→c≠i2→s.heap.get? c=some o→h'.get? c=some o)→(∃o,h'.get? e=some o∧o.cls=.type "StopIteration")→E (.ref e) { s with heap:=h' }):
  wpAny (model prog w) A (DH.«zip.__next__» ⟨[.ref z],[]⟩) Q E s:=by
 show wpAny _ _ (field (.ref z) 2 >>= _) _ _ _;refine il (E9 hz rfl (x:=.bool false) rfl ?_);show wpAny _ _ (field (.ref z) 3 >>= _) _ _ _;refine il (E9 hz rfl (x:=.ref TI) rfl ?_);refine il (E5 a8 rfl ?_);show wpAny _ _ (F9 (.ref z) >>= _) _ _ _;refine il (nK hz hT fun b1 ag B=>?_);refine il ?_;refine il (il (Dx ?_));show wpAny _ _ (F3 (.ref i1) >>= _) _ _ _;refine cz (xs[k1]?) (fun hx=>?_) fun x hx=>?_
 ·refine il (wpAny_nextOf_list_end hh (h1.extBut B.extBut D.i1z) (V.extBut B.extBut D.l1z) hx fun H e G he=>?_);exact hE H e (fun c o c1 c3 J x=>G _ _ c3 (B.extBut _ _ c1 x)) he
 ·have hy:ys[k2]?=none:=by rcases Z with h|h;rw[hx]at h;contradiction;exact h
  refine il (IC (h1.extBut B.extBut D.i1z) (V.extBut B.extBut D.l1z) hx fun H al G=>nb ?_);refine nb ?_;refine il (il (Dx ?_));show wpAny _ _ (F3 (.ref i2) >>= _) _ _ _
  refine il (wpAny_nextOf_list_end hh ((h2.extBut B.extBut D.i2z).extBut G.extBut D.i12.symm)
   ((a9.extBut B.extBut D.l2z).extBut G.extBut D.l2i1) hy fun a0 e O he=>?_)
  exact hE a0 e (fun c o c1 c2 c4 x=>O _ _ c4 (G.extBut _ _ c2 (B.extBut _ _ c1 x))) he
theorem jn {z TI TO T i1 i2 l1 l2:Addr}{f:Bool}{oT:Obj}{k1 k2:Nat}{xs ys:Array Value}{x y:Value}{Q:Option Value→Shared→Prop}(D:IX z TI TO i1 i2 l1 l2)
  (hz:jY s.heap z TI TO (DE T) f)(O:s.heap.get? T=some oT)(B:HE s.heap TI (.ref i1) (.ref i2))
  (h1:s.heap.IsListIter i1 l1 k1)(h2:s.heap.IsListIter i2 l2 k2)(G:s.heap.IsList l1 xs)(H:s.heap.IsList l2 ys)(V:xs[k1]?=some x)(Z:ys[k2]?=some y)
  (hQ:∀h',jY h' z TI TO (DE T) true→h'.IsListIter i1 l1 (k1+1)→h'.IsListIter i2 l2 (k2+1)→HE h' s.heap.objs.size x y→h'.objs.size=s.heap.objs.size+1→
   (∀c o,c≠z→c≠i1→c≠i2→s.heap.get? c=some o→h'.get? c=some o)→Q (some (.ref s.heap.objs.size)) { s with heap:=h' }):
  wpAny (model prog w) A (Hp (.ref z)) Q E s:=by
 have J:s.TypeIs (.ref z) "zip":=⟨_,hz,rfl⟩
 exact il (Gr (EZ (name:=t5 "__next__") J Ix
  (Et Ix J F.entry_zip_next
   (lS D hz O B h1 h2 G H V Z fun h' a1 a3 a4 a5 a6 a7=>nb (hQ h' a1 a3 a4 a5 a6 a7)) (F.args_zip_next_1 _))))
theorem g9 {z TI TO T i1 i2 l1 l2:Addr}{f:Bool}{oT:Obj}{k1 k2:Nat}{xs ys:Array Value}{Q:Option Value→Shared→Prop}(V:A.handled=none)(D:IX z TI TO i1 i2 l1 l2)
  (hz:jY s.heap z TI TO (DE T) f)(Z:s.heap.get? T=some oT)(G:HE s.heap TI (.ref i1) (.ref i2))
  (h1:s.heap.IsListIter i1 l1 k1)(h2:s.heap.IsListIter i2 l2 k2)(H:s.heap.IsList l1 xs)(J:s.heap.IsList l2 ys)(B:xs[k1]?=none∨ys[k2]?=none)
  (hQ:∀h',(∀c o,c≠z→c≠i1→c≠i2→s.heap.get? c=some o→h'.get? c=some o)→Q none { s with heap:=h' }):wpAny (model prog w) A (Hp (.ref z)) Q E s:=by
 have O:s.TypeIs (.ref z) "zip":=⟨_,hz,rfl⟩
 refine il (Gr (EZ (name:=t5 "__next__") O Ix
  (Et Ix O F.entry_zip_next (nL V D hz Z G h1 h2 H J B fun h' e hk he=>?_) (F.args_zip_next_1 _))))
 refine xEA he fun o ho hc=>?_;refine il (FJ (T:="StopIteration") (b:=true) ⟨o,ho,hc⟩ IV ?_);exact nb (hQ _ hk)
theorem pU:Dw (.type "zip") "__len__"=pure none:=by rw[Dg,sl];kernel_rfl
theorem nM:Dw (.type "zip") "__length_hint__"=pure none:=by rw[Dg,sl];kernel_rfl
structure ZAcc (h:Heap)(lo:Nat)(xs ys:Array Value)(Ts:List Addr):Prop where
 rise:Ts.Pairwise (·<·)
 lo:∀a∈Ts,lo<a
 pair:∀(j:Nat) (T:Addr),Ts[j]?=some T→∃x y,xs[j]?=some x∧ys[j]?=some y∧HE h T x y
theorem ZAcc.of {h h':Heap}{lo:Nat}{xs ys:Array Value}{Ts:List Addr}(a:ZAcc h lo xs ys Ts)(B:∀b o,b∈Ts→h.get? b=some o→h'.get? b=some o):ZAcc h' lo xs ys Ts:=
 ⟨a.rise,a.lo,fun j T e=>by refine aE (a.pair j T e) fun x y h1 h2 h3=>?_;exact bp x y h1 h2 (B _ _ (C6 e) h3)⟩
theorem ZAcc.lt {h:Heap}{lo:Nat}{xs ys:Array Value}{Ts:List Addr}(a:ZAcc h lo xs ys Ts){b:Addr}(hb:b∈Ts):b<h.objs.size:=by
 refine xE (List.getElem?_of_mem hb) fun j hj=>?_;refine aE (a.pair j b hj) fun x y h1 h2 h3=>?_;exact rl h3
structure ZSt (h:Heap)(S z TI TO i1 i2 l1 l2:Addr)(xs ys:Array Value)(Ts:List Addr):Prop where
 st:(IsZip h z TI TO .none∧∃a b,HE h TO a b)∨∃(T:Addr) (oT:Obj) (f:Bool),jY h z TI TO (DE T) f∧h.get? T=some oT
 ti:HE h TI (.ref i1) (.ref i2)
 h1:h.IsListIter i1 l1 Ts.length
 h2:h.IsListIter i2 l2 Ts.length
 l1:h.IsList l1 xs
 l2:h.IsList l2 ys
 acc:ZAcc h S xs ys Ts
theorem wm {R:GH→Shared→Prop}(hh:A.handled=none){S z TI TO i1 i2 l1 l2:Addr}{xs ys:Array Value}{O:Value}(D:IX z TI TO i1 i2 l1 l2)(B:∀b∈[z,TI,TO,i1,i2,l1,l2],b<S)(hn:min xs.size ys.size≤1000):
  ∀(m:Nat) (s:Shared) (Ts:List Addr) (c:Nat),Ts.length+m=min xs.size ys.size→ZSt s.heap S z TI TO i1 i2 l1 l2 xs ys Ts→s.heap.get? S=some { cls:=.type "list",dict:=none,data:=.seq (Ts.map .ref).toArray c,slots:= #[] }→
  (∀h' tk Ts' c',(∀b o,b∉[S,z,TO,i1,i2]→s.heap.get? b=some o→h'.get? b=some o)→Ts'.length=min xs.size ys.size→ZAcc h' S xs ys Ts'→
   h'.get? S=some { cls:=.type "list",dict:=none,data:=.seq (Ts'.map .ref).toArray c',slots:= #[] }→R (.ok (.ret O)) { s with heap:=h',toks:=tk })→
  Fb (model prog w) A (.builtin "list.extend.loop" ⟨[.ref S,.ref z,O],[]⟩) R s:=by
 have lz:S≠z:=Dl (B z (by exact .head _));obtain b6:S≠TI:=Dl (B TI (by simp));have al:S≠TO:=Dl (B TO (by simp));have a8:S≠i1:=Dl (B i1 (by simp));have a9:S≠i2:=Dl (B i2 (by simp));obtain b7:S≠l1:=Dl (B l1 (by simp));obtain be:S≠l2:=Dl (B l2 (by simp));have gz:∀a,S<a→a≠z:=fun a h=>Dl (DW (B z (by exact .head _)) h);obtain ca:∀a,S<a→a≠TI:=fun a h=>Dl (DW (B TI (by grind)) h);have b1:∀a,S<a→a≠TO:=fun a h=>Dl (DW (B TO (by grind)) h);have b2:∀a,S<a→a≠i1:=fun a h=>Dl (DW (B i1 (by grind)) h);have b3:∀a,S<a→a≠i2:=fun a h=>Dl (DW (B i2 (by simp)) h);obtain cb:∀a,S<a→a≠l1:=fun a h=>Dl (DW (B l1 (by simp)) h);obtain cc:∀a,S<a→a≠l2:=fun a h=>Dl (DW (B l2 (by simp)) h);intro m
 induction m with
 |zero=>
  intro s Ts c hm Z hS hR;refine EU Hz ?_;show wpAny _ A.in1 (Hp (.ref z) >>= _) _ _ s
  have V:xs[Ts.length]?=none∨ys[Ts.length]?=none:=by
   rcases Nat.le_total xs.size ys.size with h|h
   ·left;simp;lia
   ·right;simp;grind
  have fin:∀h',(∀c o,c≠z→c≠TO→c≠i1→c≠i2→s.heap.get? c=some o→h'.get? c=some o)→R (.ok (.ret O)) { s with heap:=h' }:=fun h' H=>by
   refine hR h' s.toks Ts c (fun b o hb e=>?_) (by trivial) (Z.acc.of fun b o hb e=>?_) (H _ _ lz al a8 a9 hS)
   ·simp only[Da,Dr,or_false,not_or]at hb;exact H b o hb.2.1 hb.2.2.1 hb.2.2.2.1 hb.2.2.2.2 e
   ·have:=Z.acc.lo b hb;exact H b o (gz b this) (b1 b this) (b2 b this) (b3 b this) e
  rcases Z.st with⟨hz,a,b,ag⟩|⟨T,oT,f,hz,hT⟩
  ·exact il (wpAny_pyNext_zip_end hh D hz Z.ti ag Z.h1 Z.h2 Z.l1 Z.l2 V fun h' H=>nb (fin h' H))
  ·exact il (g9 hh D hz hT Z.ti Z.h1 Z.h2 Z.l1 Z.l2 V fun h' H=>nb (fin h' fun c o c1 J c3 c4 e=>H c o c1 c3 c4 e))
 |succ m ih=>
  intro s Ts c hm Z hS hR;refine EU Hz ?_;show wpAny _ A.in1 (Hp (.ref z) >>= _) _ _ s;have hx:∃x,xs[Ts.length]?=some x:=⟨xs[Ts.length]'(by lia),by grind⟩
  have hy:∃x,ys[Ts.length]?=some x:=⟨ys[Ts.length]'(by lia),by grind⟩
  refine xE hx fun x hx=>?_;refine xE hy fun y hy=>?_
  have go:∀h',(∃(T:Addr) (oT:Obj) (f:Bool),jY h' z TI TO (DE T) f∧h'.get? T=some oT)→h'.IsListIter i1 l1 (Ts.length+1)→h'.IsListIter i2 l2 (Ts.length+1)→HE h' s.heap.objs.size x y→h'.objs.size=s.heap.objs.size+1→
    (∀c o,c≠z→c≠TO→c≠i1→c≠i2→s.heap.get? c=some o→h'.get? c=some o)→
    wpAny (model prog w) A.in1 (do
     match some (D7 s.heap.objs.size)with
     |some v=>I1 S (·.push v);again (.builtin "list.extend.loop" ⟨[.ref S,.ref z,O],[]⟩)
     |none=>ret O) (fun fin s'=>match fin with|.done f=>R (.ok f) s'|.again c'=>c'.quiet=true∧Fb (model prog w) A c' R s') (fun e s'=>R (.error e) s') { s with heap:=h' }:=fun h' bk bx c0 c2 ch H=>by
   have b4:=H S _ lz al a8 a9 hS;have a0:S<s.heap.objs.size:=rl hS;refine il (FU b4 rfl ?_ (by rw[Es,Gi,Di];lia) (by rw[GJ,Es,Gi,Di];lia));have G:∀b o,b≠S→h'.get? b=some o→(h'.update S (DX (·.push (.ref s.heap.objs.size)))).get? b=some o:=fun b o hb e=>(DC _ _ (EL hb)).trans e
   have b5:(h'.update S (DX (·.push (.ref s.heap.objs.size)))).get? S=some { cls:=.type "list",dict:=none,data:=.seq ((Ts++[s.heap.objs.size]).map .ref).toArray (c+1),slots:= #[] }:=by
    rw[Dy _ b4 rfl];simp[DX]
   refine nb ⟨Jm F.plain_extend_loop _,ih _ (Ts++[s.heap.objs.size]) _ (by simp;exact Ci hm) ?_ b5 ?_⟩
   ·refine⟨.inr ?_,G _ _ b6.symm (H _ _ D.TIz D.TITO D.TIi1 D.TIi2 Z.ti),?_,?_,?_,?_,?_⟩
    ·refine bq bk fun T oT f hz hT=>?_;by_cases e:T=S
     ·exact fA T _ f (G _ _ lz.symm hz) (by rw[e];exact b5)
     ·exact fA T oT f (G _ _ lz.symm hz) (G _ _ e hT)
    ·refine(ir D2)▸?_;exact bx.at fun o e=>G _ o a8.symm e
    ·refine(ir D2)▸?_;exact c0.at fun o e=>G _ o a9.symm e
    ·exact Z.l1.at fun o e=>G _ o b7.symm (H _ _ D.l1z D.l1TO D.l1i1 D.l1i2 e)
    ·exact Z.l2.at fun o e=>G _ o be.symm (H _ _ D.l2z D.l2TO D.l2i1 D.l2i2 e)
    ·refine⟨?_,?_,?_⟩
     ·rw[List.pairwise_append];refine yAA Z.acc.rise (by grind) (fun a ha b hb=>?_);simp at hb;subst hb;exact Z.acc.lt ha
     ·intro a ha;rcases Eo.mp ha with h|h
      ·exact Z.acc.lo a h
      ·simp at h;clear ha;subst h;exact a0
     ·intro j T e;rcases Jh j Ts.length with h|h
      ·rw[D1 h]at e;refine aE (Z.acc.pair j T e) fun x' y' e1 e2 e3=>?_;have:=Z.acc.lo T (C6 e);exact bp x' y' e1 e2 (G _ _ (Dl this) (H _ _ (gz T this) (b1 T this) (b2 T this) (b3 T this) e3))
      ·rw[Gz h]at e
       have:j=Ts.length:=by
        have:=Dz.mp e;obtain⟨h',_⟩:=this;simp at h';exact B2 h h'
       clear h;subst this;simp at e;subst e;exact bp x y hx hy (G _ _ (Dl a0) c2)
   ·intro c5 tk Ts' c' c6 hl ha c7;refine hR c5 tk Ts' c' (fun b o hb e=>c6 b o hb ?_) hl ha c7;simp only[Da,Dr,or_false,not_or]at hb;exact G _ _ hb.1 (H b o hb.2.1 hb.2.2.1 hb.2.2.2.1 hb.2.2.2.2 e)
  rcases Z.st with⟨hz,a,b,ag⟩|⟨T,oT,f,hz,hT⟩
  ·exact il (wpAny_pyNext_zip_item D hz Z.ti ag Z.h1 Z.h2 Z.l1 Z.l2 hx hy fun h' a1 a2 a3 a4 a5 a6 a7=>go h' ⟨_,_,false,a1,a5⟩ a3 a4 a5 a6 a7)
  ·obtain ci:T≠s.heap.objs.size:=Dh (rl hT)
   exact il (jn D hz hT Z.ti Z.h1 Z.h2 Z.l1 Z.l2 hx hy fun h' a1 a3 a4 a5 a6 a7=>go h' (by
    by_cases e1:T=z
    ·exact fA T _ true a1 (by rw[e1];exact a1)
    ·by_cases e2:T=i1
     ·refine xEA a3 fun o ho J=>?_;exact fA T o true a1 (by refine(ir e2)▸?_;exact ho)
     ·by_cases e3:T=i2
      ·refine xEA a4 fun o ho J=>?_;exact fA T o true a1 (by refine(ir e3)▸?_;exact ho)
      ·exact fA T _ true a1 (a7 _ _ e1 e2 e3 hT)) a3 a4 a5 a6 fun c o c1 J c3 c4 e=>a7 c o c1 c3 c4 e)
theorem pV {R:GH→Shared→Prop}(hh:A.handled=none){S z TI TO i1 i2 l1 l2:Addr}{xs ys:Array Value}{O:Value}{a8:Nat}(D:IX z TI TO i1 i2 l1 l2)(G:∀b∈[z,TI,TO,i1,i2,l1,l2],b<S)(hn:min xs.size ys.size≤1000)
  (hz:IsZip s.heap z TI TO .none)(V:∃a b,HE s.heap TO a b)(Z:ZSt s.heap S z TI TO i1 i2 l1 l2 xs ys [])(hS:s.heap.get? S=some { cls:=.type "list",data:=.seq #[] a8 })
  (hR:∀h' tk Ts' c',(∀b o,b∉[S,z,TO,i1,i2]→s.heap.get? b=some o→h'.get? b=some o)→Ts'.length=min xs.size ys.size→ZAcc h' S xs ys Ts'→
   h'.get? S=some { cls:=.type "list",dict:=none,data:=.seq (Ts'.map .ref).toArray c',slots:= #[] }→R (.ok (.ret O)) { s with heap:=h',toks:=tk }):
  wpAny (model prog w) A.in1 (F5 (.ref S) (.ref z) O)
   (fun fin s'=>match fin with|.done f=>R (.ok f) s'|.again c'=>c'.quiet=true∧Fb (model prog w) A c' R s') (fun e s'=>R (.error e) s') s:=by
 have hZ:s.TypeIs (.ref z) "zip":=⟨_,hz,rfl⟩
 have a9:S≠z:=Dl (G z (by simp));refine il (FH hZ ?_);obtain h1:Ho (.ref S) (.ref z)=false:=by simp[Ho,a9]
 obtain h2:(FE "zip"==FE "list")=false:=by decide
 obtain h3:(FE "zip"==FE "tuple")=false:=by decide
 simp only[h1,h2,h3,Bool.or_false,GQ,if_false];refine il (wpAny_pyIter_zip hz ?_);refine il (Dx ?_);refine il (G4 hZ pU ?_);show wpAny _ A.in1 (specialOf (D7 z) (t5 "__length_hint__") >>= _) _ _ _;refine il (G4 hZ nM ?_);refine nb ?_
 show wpAny _ A.in1 (rule "list.extend.makes-room" >>= fun J=>Builtin.List.listTouch (.ref S) >>= fun J=>
  again (.builtin "list.extend.loop" ⟨[.ref S,.ref z,O],[]⟩)) _ _ _
 refine il (Fj ?_);refine il ?_;show wpAny _ A.in1 (I1 S (·.push .none) >>= fun J=>I1 S (·.pop)) _ _ _;refine il (FU hS rfl ?_);have H:=Dy (DX (·.push EG)) hS rfl;refine FU (hz:=by seq_fits) H rfl ?_;obtain a0:=Dy (DX (·.pop)) H rfl
 have B:∀b o,b≠S→s.heap.get? b=some o→((s.heap.update S (DX (·.push EG))).update S (DX (·.pop))).get? b=some o:=
  fun b o hb e=>(DC _ _ (EL hb)).trans ((DC _ _ (EL hb)).trans e)
 have ne:∀b∈[z,TI,TO,i1,i2,l1,l2],b≠S:=fun b hb=>Dh (G b hb);refine nb ⟨Jm F.plain_extend_loop _,wm (ys:=ys) hh D G hn (min xs.size ys.size) _ [] _ (by rw[List.length_nil,Jg]) ?_ a0 fun h' tk Ts' c' hk hl ha ag=>?_⟩
 ·refine xEE V fun a b V=>?_
  refine⟨.inl ⟨B _ _ a9.symm hz,a,b,B _ _ (ne TO (by simp)) V⟩,B _ _ (ne TI (by simp)) Z.ti,Z.h1.at fun o e=>B _ o (ne i1 (by simp)) e,Z.h2.at fun o e=>B _ o (ne i2 (by simp)) e,
   Z.l1.at fun o e=>B _ o (ne l1 (by simp)) e,Z.l2.at fun o e=>B _ o (ne l2 (by simp)) e,⟨Hi,fun J h=>(Dr h).elim,fun j T e=>by simp at e⟩⟩
 ·refine hR h' tk Ts' c' (fun b o hb e=>hk b o hb (B b o ?_ e)) hl ha ag;simp only[Da,not_or]at hb;exact hb.1
theorem tD (N l1 l2:Nat)(h1:l1<N)(h2:l2<N):IX (N+4) (N+2) (N+3) N (N+1) l1 l2:=by
 constructor<;>(show @Ne Nat _ _;lia)
theorem xZ (N l1 l2:Nat)(h1:l1<N)(h2:l2<N):∀b∈[N+4,N+2,N+3,N,N+1,l1,l2],b<N+5:=by
 intro b hb;simp only[Da,Dr,or_false]at hb;rcases hb with rfl|rfl|rfl|rfl|rfl|rfl|rfl<;>lia
theorem r8 (N b:Nat)(h:b<N):b∉[N+5,N+4,N+3,N,N+1]∧b<N+5:=by
 simp only[Da,Dr,or_false,not_or];lia
theorem jZ {Q:Value→Shared→Prop}(hh:A.handled=none){l1 l2:Addr}{xs ys:Array Value}(H:s.heap.IsList l1 xs)(O:s.heap.IsList l2 ys)(hn:min xs.size ys.size≤1000)
  (hQ:∀h' tk S Ts c',(∀b o,s.heap.get? b=some o→h'.get? b=some o)→s.heap.objs.size≤S→Ts.length=min xs.size ys.size→ZAcc h' S xs ys Ts→
   h'.get? S=some { cls:=.type "list",dict:=none,data:=.seq (Ts.map .ref).toArray c',slots:= #[] }→Q (.ref S) { s with heap:=h',toks:=tk }):
  wpAny (model prog w) A (call (.type "zip") [.ref l1,.ref l2]) (fun z s₁=>wpAny (model prog w) A (call (.type "list") [z]) Q E s₁) E s:=by
 have e1:l1<s.heap.objs.size:=by refine xEA H fun o ho J=>?_;exact rl ho
 have e2:l2<s.heap.objs.size:=by refine xEA O fun o ho J=>?_;exact rl ho
 obtain a8:∀b o,s.heap.get? b=some o→b<s.heap.objs.size:=fun b o e=>rl e;refine call_zip_2 H O fun B z1 z2 z3 z4 z5 z6 z7=>?_;generalize s.heap.objs.size=N at *;obtain D:=tD N l1 l2 e1 e2
 refine callType_codes (Q₁:=fun obj s₁=>obj=.ref B.objs.size∧s₁={ s with heap:=B.push { cls:=.type "list",data:=.seq #[] } }) F.called_list (F.typeCall_list_1 _) F.entry_list_init
  (code_list_new _ ⟨rfl,rfl⟩) fun obj s₁ Z=>?_
 refine xA Z fun a9 ag=>?_;subst a9;subst ag;have hS:(B.push { cls:=.type "list",data:=.seq #[] }).get? B.objs.size=some { cls:=.type "list",data:=.seq #[] }:=rh _ rfl;obtain up:∀b o,B.get? b=some o→(B.push { cls:=.type "list",data:=.seq #[] }).get? b=some o:=fun b o e=>mc _ e;rw[z6]at hS;refine(ir z6)▸?_;generalize B.push { cls:=.type "list",data:=.seq #[] }=h₂ at *;obtain V:=Dy (DX (fun J=>(#[]:Array Value))) hS rfl
 obtain al:∀b o,b≠N+5→h₂.get? b=some o→(h₂.update (N+5) (DX (fun J=>(#[]:Array Value)))).get? b=some o:=
  fun b o hb e=>(DC _ _ (EL hb)).trans e
 have G:∀b o,b<N+5→B.get? b=some o→(h₂.update (N+5) (DX (fun J=>(#[]:Array Value)))).get? b=some o:=fun b o hb e=>al b o (Dh hb) (up b o e);obtain k1:l1<N+5:=De e1 (DN _ _);obtain k2:l2<N+5:=De e2 (DN _ _);have zz:IsZip (h₂.update (N+5) (DX (fun J=>(#[]:Array Value)))) (N+4) (N+2) (N+3) .none:=G _ _ (by exact DV _) z1;have a0:HE (h₂.update (N+5) (DX (fun J=>(#[]:Array Value)))) (N+3) .none .none:=G _ _ (by lia) z3;refine⟨⟨_,hS,rfl⟩,F.args_list_init_2 _ _,?_⟩;show wpAny _ _ (do let old ←Jn (.ref (N+5));Builtin.List.listUpdate (.ref (N+5)) (fun J=> #[]);letGo old.toList.reverse;F5 (.ref (N+5)) (.ref (N+4)) .none) _ _ _;refine il ?_;refine il (E5 hS rfl (nb ?_));show wpAny _ _ (I1 (N+5) (fun J=> #[]) >>= fun J=>letGo (#[]:Array Value).toList.reverse >>= fun J=>F5 (.ref (N+5)) (.ref (N+4)) .none) _ _ _;refine il (FU hS rfl ?_);refine il (J1 ?_);refine pV (xs:=xs) (ys:=ys) (A:=A.in1) hh D ?_ hn zz ⟨_,_,a0⟩ ?_ V fun h' tk Ts c' hk hl ha b1=>⟨rfl,?_⟩
 ·exact xZ N l1 l2 e1 e2
 ·exact⟨.inl ⟨zz,_,_,a0⟩,G _ _ (by lia) z2,z4.at fun o e=>G _ o (by exact Cv) e,z5.at fun o e=>G _ o (by lia) e,H.at fun o e=>G _ o k1 (z7 _ o e),O.at fun o e=>G _ o k2 (z7 _ o e),
   ⟨Hi,fun J h=>(Dr h).elim,fun j T e=>by trivial⟩⟩
 ·refine hQ h' tk (N+5) Ts c' (fun b o e=>?_) (DN _ _) hl ha b1;have hb:b<N:=a8 b o e;exact hk b o (r8 N b hb).1 (G b o (r8 N b hb).2 (z7 b o e))
end
end
section
open PySem PyProof.Rows PyProof.V PySem.Builtin
section
variable {prog:C9}{w:World}{θ:Th}{B:Fix}{n:Nat}
theorem SRel.adopt {sc env ρ st st'}{s:Shared}{a:Addr}{o2:O2}{o:Obj}{v:V2}(x:SRel θ B sc env ρ st s)(e:st.alloc o2=.ok v st')(h1:a∉ρ)(h2:¬Wf env a)(h3:B.base a=none)
  (ha:s.heap.get? a=some o)(ho:ORel θ ρ o2 o):SRel θ B sc env (ρ++[a]) st' s∧st'.loc=st.loc∧VRel θ (ρ++[a]) v (.ref a):=by
 refine cL (bF e) fun hn H J O=>?_;subst J;subst O;have V:Ext ρ (ρ++[a]):=Ext.push _ _
 have G:∀b,b∈ρ++[a]→b∉ρ→b=a:=fun b hb hn=>by
  rcases Eo.mp hb with h|h
  ·exact absurd h hn
  ·simpa using h
 refine⟨⟨x.h.add (by exact o5 hn) h1 ha ho (O2.nt H),?_,x.gl,x.bu,?_⟩,rfl,a,?_,rfl⟩
 ·refine⟨x.e.fn,x.e.kl,x.e.kc,x.e.kf,x.e.kg,?_,?_,x.e.apart,?_,x.e.clive⟩
  ·refine xEA x.e.ns fun m hn h=>?_;exact⟨m,hn,fun y v hk hl=>by refine xEA (h y v hk hl) fun u e r=>?_;exact⟨u,e,r.ext V⟩⟩
  ·intro y hy;refine aZ (x.e.cell y hy) fun c v' hc Z a0 hv h=>?_;exact⟨c,v',hc,Z,fun hb=>h2 (.inr ⟨y,by rw[hc,G c hb a0]⟩),hv,fun v hl=>by refine xEA (h v hl) fun u e r=>?_;exact⟨u,e,r.ext V⟩⟩
  ·exact fun hb=>h2 (.inl (G _ hb x.e.out).symm)
 ·intro b o e;refine xAA (x.fix b o e) fun g1 g2 g3=>?_;refine⟨g1,fun hb=>?_,g3⟩;have:=G b hb g2;clear hb G V ha h2 h1;subst this;rw[h3]at e;contradiction
 ·rw[←x.h.len];simp
set_option tactic.hygienic true in
theorem r9 {sc:Scope}{env:Env}{s s₀:Shared}{ρ₀:Rho}:∀(xs ys:List V2) {ρ:Rho} {st st':St} {us V:List Value} {Ts:List Addr} {Z:List V2},xt st xs ys=.ok Z st'→All2 (VRel θ ρ) xs us→All2 (VRel θ ρ) ys V→
  SRel θ B sc env ρ st s→Kp NoW ρ₀ s₀ ρ s→Ts.length=min us.length V.length→(∀(j:Nat) (T:Addr),Ts[j]?=some T→∃x y,us[j]?=some x∧V[j]?=some y∧HE s.heap T x y)→Ts.Pairwise (·<·)→
  (∀T∈Ts,T∉ρ∧¬Wf env T∧B.base T=none∧s₀.heap.get? T=none)→
  SRel θ B sc env (ρ++Ts) st' s∧Kp NoW ρ₀ s₀ (ρ++Ts) s∧st'.loc=st.loc∧All2 (VRel θ (ρ++Ts)) Z (Ts.map .ref)
 |[],ys,ρ,st,st',us,V,Ts,Z,e,hx,hy,S,K,hl,hp,hr,hf=>by
  cases hx;have:Ts=[]:=D8.mp (by simpa using hl);clear hp hl hf hr;subst this;injection (show Rs.ok [] st=Rs.ok Z st' from e)with b4 b5;subst b4;subst b5;rw[EI];exact lF S K rfl .nil
 |x::xs,[],ρ,st,st',us,V,Ts,Z,e,hx,hy,S,K,hl,hp,hr,hf=>by
  cases hy;have:Ts=[]:=D8.mp (by simpa using hl);clear hp hl hf hr;subst this;injection (show Rs.ok [] st=Rs.ok Z st' from e)with b6 a0;subst b6;subst a0;rw[EI];exact lF S K rfl .nil
 |x::xs,y::ys,ρ,st,st',us,V,Ts,Z,e,hx,hy,S,K,hl,hp,hr,hf=>by
  cases hx with
  |cons hx b7=>
  cases hy with
  |cons hy be=>
  rename_i u us v V;apply lC e;clear e;intro t bk h1 e;apply pu e;clear e;intro tl bx h2 e;injection e with a8 a9;subst a8;subst a9
  cases Ts with
  |nil=>simp at hl
  |cons T Ts=>
   refine cL (hf T (by exact .head _)) fun g1 g2 g3 g4=>?_;refine aE (hp 0 T rfl) fun a b ea eb hT=>?_;injection ea with ea;subst ea;injection eb with eb;subst eb;refine xAA (S.adopt h1 g1 g2 g3 hT ⟨#[u,v],0,rfl,.cons hx (.cons hy .nil)⟩) fun ag al b1=>?_;have c0:∀T'∈Ts,T<T':=(EH.mp hr).1
   refine cL (r9 xs ys h2 (b7.imp fun J J h=>h.ext (Ext.push _ _)) (be.imp fun J J h=>h.ext (Ext.push _ _)) ag (K.add g4) (by dsimp only[Ep]at hl;lia -abstractProof) (fun j T' e=>by
    refine aE (hp (j+1) T' e) fun a b ea eb h=>?_;exact bp a b (by simpa using ea) (by simpa using eb) h) (EH.mp hr).2 (fun T' b2=>by
    refine cL (hf T' (DB _ b2)) fun k1 k2 k3 k4=>?_;refine lF (fun hm=>?_) k2 k3 k4;rcases Eo.mp hm with h|h
    ·exact k1 h
    ·simp at h;exact Dl (c0 T' b2) h)) fun G H b3 O=>?_
   rw[List.append_assoc,List.singleton_append]at G H O;refine lF G H (b3.trans al) (.cons (b1.ext ?_) O);intro i b hb;have:(ρ++[T])++Ts=ρ++T::Ts:=by simp
   refine this▸?_;rw[D1]
   ·exact hb
   ·exact(Dz.mp hb).1
theorem nN:∀(xs ys:List V2) {st st':St} {G:List V2},xt st xs ys=.ok G st'→G.length=min xs.length ys.length
 |[],ys,st,st',G,e=>by
  injection (show Rs.ok [] st=Rs.ok G st' from e)with H J;subst H;subst J;simp
 |x::xs,[],st,st',G,e=>by
  injection (show Rs.ok [] st=Rs.ok G st' from e)with O V;subst O;subst V;simp
 |x::xs,y::ys,st,st',G,e=>by
  apply lC e;clear e;intro t Z h1 e;apply pu e;clear e;intro tl a0 h2 e;injection e with a8 a9;subst a8;subst a9;have:=nN xs ys h2;dsimp only[Ep,this];lia -abstractProof
theorem SRel.outside {sc env ρ st}{s:Shared}(S:SRel θ B sc env ρ st s){a:Addr}(G:s.heap.get? a=none):a∉ρ∧¬Wf env a∧B.base a=none:=by
 refine⟨fun J=>?_,?_,?_⟩
 ·have:=S.h.live _ J;rw[G]at this;contradiction
 ·rintro(e|⟨y,O⟩)
  ·refine xEA S.e.ns fun m H h=>?_;refine bq H fun o es ep V r=>?_;rw[←e,G]at V;contradiction
  ·have:=S.e.clive y _ O;rw[G]at this;contradiction
 ·cases hb:B.base a with
  |none=>rfl
  |some o=>have:=(S.fix _ o hb).1;rw[G]at this;contradiction
theorem dy {h:Heap}{a:Addr}(G:h.objs.size≤a):h.get? a=none:=by
 cases e:h.get? a with
 |none=>rfl
 |some o=>exact absurd (rl e) (FS.mpr G)
theorem pW (G:Glob B){sc:Scope}{ev:Expr→Cl}(h:∀e,EvOk prog w θ B n sc e (ev e))(hs:∀e st v st',(ev e).run st=.ok v st'→bl e){f g:Str}{np gp pos H:Pos}{es:List Expr}
  (hf:bR sc f=true)(b6:G.val f=some (.type "list"))(hg:bR sc g=true)(b7:G.val g=some (.type "zip")):
  EvOk prog w θ B n sc (.Call (.Name f np) [.Call (.Name g gp) es [] H] [] pos) (cZ (evs ev es) ⟨Bc⟩):=by
 intro A E Q env ρ st s r st' R S e k;apply gG e;clear e;intro vs be h1 e;obtain hns:=bK hs h1;apply ax e;clear e;intro p hv e;have hv:=rW hv;subst hv;apply bU e;clear e;intro xs hi e;apply bU e;clear e;intro ys hj e;apply gG e;clear e;intro ts bk hz e;rw[dK];refine il (cH G S hf b6 ?_);refine(ir (show EN pos (D6 [.Call (.Name g gp) es [] H] env)=[(false,eval (.Call (.Name g gp) es [] H) env)] from rfl))▸?_;refine EB rfl (DR (C8 ?_));rw[dK];refine il (cH G S hg b7 ?_);refine EB (bL hns).1 (ay R (dw h hs R S h1 fun us O s₁ S₁ K₁ Z a0 a8=>?_));refine aE (two_args a0) fun u u' bx c0 c1=>?_;subst bx;refine xEA c0 fun a V c2=>?_;subst c2;refine xEA c1 fun b hb c3=>?_;subst c3;refine aL (S₁.list V hi) fun ix m hx rx=>?_;refine aL (S₁.list hb hj) fun iy m' hy ry=>?_;refine Dn (jZ a8.1.1 hx.isList hy.isList ?_ fun h' tk S Ts c' hk hS hl V c4=>?_) (fun z s₂ a9=>Dp a9) fun J J e=>e
 ·refine xAA (bF e) fun J c5 J=>?_;obtain h1:=DG (show E7 ts.length 1000=true from c5);obtain h2:=nN xs ys hz;have h3:=rx.length;have h4:=ry.length;dsimp only[Eb]at h3 h4;refine h3▸h4▸h2▸?_;exact h1
 ·obtain ag:=S₁.kept hk tk;obtain al:=Kp.kept NoW O s₁ tk hk;have b1:∀T∈Ts,s₁.heap.get? T=none:=fun T hT=>dy (D9 (Ew hS (V.lo T hT)))
  refine cL (r9 xs ys hz rx ry ag al (by simpa using hl) (fun j T hj=>by
   refine aE (V.pair j T hj) fun x y e1 e2 e3=>?_;exact bp x y (by simpa using e1) (by simpa using e2) e3) V.rise (fun T hT=>by
   refine xAA (S₁.outside (b1 T hT)) fun g1 g2 g3=>?_;exact lF g1 g2 g3 (b1 T hT))) fun S₃ K₃ b2 c6=>?_
  refine xAA (S₁.outside (dy hS)) fun g1 g2 g3=>?_
  refine xAA (S₃.adopt (a:=S) e (fun hm=>by
   rcases Eo.mp hm with h|h
   ·exact g1 h
   ·exact DF _ (V.lo S h)) g2 g3 c4 ⟨_,c',rfl,by trivial⟩) fun b3 b4 b5=>?_
  exact k _ _ _ b3 (K₁.trans (K₃.add (dy hS))) ((b4.trans b2).trans Z) b5
end
noncomputable def lT:List (Str×D4)→Bool
 |[]=>true
 |(_,k)::r=>match k with
  |.free=>false
  |_=>lT r
noncomputable def kH (x:Str):List Str→Bool
 |[]=>true
 |y::r=>match aA x y with
  |true=>false
  |false=>kH x r
noncomputable def gj (names:List (Str×D4)):List Str→Bool
 |[]=>true
 |x::r=>match au x names with
  |some .local=>kH x r&&gj names r
  |some .cell=>kH x r&&gj names r
  |_=>false
noncomputable def lU (f:fx):Bool:=uq f.scope.kind&& !f.scope.isCoroutine&& !f.scope.isGenerator&&bT f.scope.names&&lT f.scope.names&&gj f.scope.names f.params
theorem dc {x:Str}:∀{l:List (Str×D4)},lT l=true→au x l≠some .free
 |[],_=>by simp[au]
 |(y,k)::r,h=>by
  unfold au
  cases hs:aA x y with
  |true=>intro e;injection e with e;subst e;contradiction
  |false=>exact dc (by cases k<;>first|exact h|contradiction)
theorem kI {x:Str}:∀{l:List Str},kH x l=true→x∉l
 |[],_=>by simp
 |y::r,h=>by
  unfold kH at h;refine aJ (aA x y) (fun hs=>?_) fun hs=>?_
  ·rw[hs]at h;contradiction
  ·rw[hs]at h;intro B;rcases Da.mp B with e|e
   ·exact aW hs e
   ·exact kI h e
theorem jo {names:List (Str×D4)}:∀{ps:List Str},gj names ps=true→ps.Nodup∧∀x∈ps,au x names=some .local∨au x names=some .cell
 |[],_=>⟨List.nodup_nil,by simp⟩
 |x::r,h=>by
  unfold gj at h
  have:(au x names=some .local∨au x names=some .cell)∧(kH x r&&gj names r)=true:=by
   split at h
   ·exact⟨.inl ‹_›,h⟩
   ·exact⟨.inr ‹_›,h⟩
   ·contradiction
  refine xA this fun B h=>?_;refine xA ((DM _ _).mp h) fun h1 h2=>?_;refine xA (jo h2) fun G H=>?_;refine⟨GK.mpr ⟨kI h1,G⟩,fun y J=>?_⟩;rcases Da.mp J with e|e
  ·rw[e];exact B
  ·exact H y e
theorem kJ {kd:Str→Option D4}{x:Str}(B:kd x=some .local):∀(ps:List Str) (us:List Value) (m:Str→Option Value),ps.Nodup→bindL kd (ps.zip us) m x=match (ps.zip us).lookup x with|some v=>some v|none=>m x
 |[],us,m,_=>by simp[bindL]
 |p::ps,[],m,_=>by simp[bindL]
 |p::ps,u::us,m,h=>by
  refine xA (GK.mp h) fun h1 h2=>?_;refine(ir IN)▸?_;refine(ir (kJ B ps us _ h2))▸?_;by_cases e:x=p
  ·clear h;subst e;rw[FI]
   have:(ps.zip us).lookup x=none:=by
    cases hl:(ps.zip us).lookup x with
    |none=>rfl
    |some v=>exact absurd (Jv (mem_of_lookup hl)).1 h1
   refine(ir this)▸(ir (if_pos B))▸?_;simp
  ·refine(ir (bz e))▸?_
   cases (ps.zip us).lookup x with
   |some v=>rfl
   |none=>
    dsimp only
    split
    ·simp[e]
    ·rfl
theorem kK {kd:Str→Option D4}{x:Str}(B:kd x≠some .local):∀(ps:List Str) (us:List Value) (m:Str→Option Value),ps.Nodup→bindC kd (ps.zip us) m x=match (ps.zip us).lookup x with|some v=>some v|none=>m x
 |[],us,m,_=>by simp[bindC]
 |p::ps,[],m,_=>by rfl
 |p::ps,u::us,m,h=>by
  refine xA (GK.mp h) fun h1 h2=>?_;refine(ir IN)▸?_;refine(ir (kK B ps us _ h2))▸?_;by_cases e:x=p
  ·clear h;subst e;rw[FI]
   have:(ps.zip us).lookup x=none:=by
    cases hl:(ps.zip us).lookup x with
    |none=>rfl
    |some v=>exact absurd (Jv (mem_of_lookup hl)).1 h1
   refine(ir this)▸(ir (if_neg B))▸?_;simp
  ·refine(ir (bz e))▸?_
   cases (ps.zip us).lookup x with
   |some v=>rfl
   |none=>
    dsimp only
    split
    ·rfl
    ·simp[e]
set_option tactic.hygienic true in
theorem pX {R:V2→Value→Prop}{x:Str}{v:V2}:∀{ps:List Str} {B:List V2} {us:List Value},lk x (ps.zip B)=some v→All2 R B us→∃u,(ps.zip us).lookup x=some u∧R v u
 |[],B,us,h,_=>nomatch (show(none:Option V2)=some v from h)
 |p::ps,[],us,h,_=>nomatch (show(none:Option V2)=some v from h)
 |p::ps,w::B,us,h,G=>by
  cases G with
  |cons H G=>
   rename_i u us;rw[IN]at h⊢;have k:bB (aA x p) (some w) (lk x (ps.zip B))=some v:=h;clear h;refine aJ (aA x p) (fun hs=>?_) fun hs=>?_
   ·rw[hs]at k;have:=(ao _ _).mp hs;clear hs;subst this;have k:w=v:=Dd k;subst k;exact yEA u FI H
   ·rw[hs]at k;refine(ir (bz (aW hs)))▸?_;exact pX k G
structure jp (B:Fix)(f:fx)(a:Addr):Prop where
 obj:∃o fd,B.base a=some o∧o.data=.func fd∧fd.body=.stmts f.body∧fd.scope=f.scope∧fd.closure=[]∧fd.globals=B.g∧fd.builtins=B.b∧(∀h,Mine.Lake.Keeps B h→h.CodeRec fd.code fd.qualname)∧
  ∀vals:List Value,vals.length=f.params.length→JF fd ⟨vals,[]⟩=pure (f.params.zip vals)
 plain:lU f=true
section
variable {prog:C9}{w:World}{θ:Th}{B:Fix}{n:Nat}
set_option backward.match.sparseCases true in
theorem hG {A:Dq}{s:Shared}{R:GH→Shared→Prop}{a:Addr}{o:Obj}{fd:Fx}{body:List Stmt}{G:List Value}{binds:List (Str×Value)}(a9:0<s.toks)
  (H:A.depth<Ed)(ho:s.heap.get? a=some o)(O:o.data=.func fd)(ag:s.heap.NoLimit)(b2:s.heap.CodeRec fd.code fd.qualname)
  (V:fd.body=.stmts body)(Z:JF fd ⟨G,[]⟩=pure binds)(al:fd.closure=[])
  (a0:∀x∈binds,fd.scope.names.lookup x.1=some .local∨(fd.scope.names.lookup x.1=some .cell∧((E2 (s.heap.objs.size+1) fd.scope.names []).lookup x.1).isSome=true))
  (h:∀s₁,0<s₁.toks→JJ s (EJ fd s.heap.objs.size a).locals (bindL (EJ fd s.heap.objs.size a).kindOf binds fun J=>none) (EJ fd s.heap.objs.size a).cells
    (bindC (EJ fd s.heap.objs.size a).kindOf binds fun J=>none) s₁→
   wpAny (model prog w) (A.deeper (EJ fd s.heap.objs.size a)) (execs body (EJ fd s.heap.objs.size a)) (fun f s'=>R (.ok (.ret (match f with|.ret v=>v|_=>.none))) s')
    (fun e s'=>wpAny (model prog w) (A.deeper (EJ fd s.heap.objs.size a)) (leaving (EJ fd s.heap.objs.size a) e) (fun J a8=>R (.error e) a8) (fun e' a8=>R (.error e') a8) s') s₁)
  (b3:fd.scope.isCoroutine=false)(b1:fd.scope.isGenerator=false)(hk:fd.scope.kind=.function):
  Fb (model prog w) A (.call (.ref a) ⟨G,[]⟩) R s:=by
 refine IK H ho O b3 b1 V b2 ?_;refine(ir Z)▸(ir al)▸?_;refine nb (J9 (n:=1) a9 (Km hk a0 fun env he s' x hp=>?_));subst he;exact⟨ag.keeps x.toInCall.keep,Lj (h s' hp x)⟩
theorem ya (G:Glob B){f:fx}{a:Addr}{cb:Xc}(F:jp B f a)(hb:ExOk prog w θ B n f.scope f.body cb):KcOk prog w θ B (n+1) (.ref a) ⟨rC cb f.params⟩:=by
 intro A E Q sc env ρ st s vs us r st' R S ha e k;apply bN e;clear e;intro hl e;have hl:=nd hl;refine cRf (cb.run (st.with (f.params.zip vs))) (fun Z=>?_) (fun J Z=>?_) (fun J Z=>?_) fun v c4 Z=>?_
 ·rw[Z]at e;contradiction
 ·rw[Z]at e;contradiction
 ·rw[Z]at e;contradiction
 ·rw[Z]at e;dsimp only at e;obtain k:=k.ok e;clear e;refine gL F.obj fun o fd ho hd a9 V c5 hg c6 c7 ag=>?_;have al:=F.plain;unfold lU at al;simp only[DM]at al;refine xA al fun b1 h6=>?_;refine xA b1 fun b1 h5=>?_;obtain⟨⟨⟨h1,h2⟩,h3⟩,h4⟩:=b1
  have b2:fd.scope.kind=.function:=by
   rw[V];cases hk:f.scope.kind<;>rw[hk]at h1<;>first|rfl|contradiction
  obtain ca:fd.scope.isCoroutine=false:=by rw[V];simpa using h2
  obtain b3:fd.scope.isGenerator=false:=by rw[V];simpa using h3
  refine xA (jo h6) fun hnd cc=>?_;obtain ch:us.length=f.params.length:=by rw[←ha.length];exact hl.symm
  refine xAA (G.look s.heap S.keeps) fun gk bk b4=>?_;obtain hN:s.heap.get? s.heap.objs.size=none:=bb _;refine Gm (hG R.2 (by have:=R.1.2.1;exact o1 this) (S.keeps a o ho) hd b4 (c7 _ S.keeps) a9 (ag us ch) c5 ?_ ?_ ca b3 b2)
  ·intro x hx;have hm:x.1∈f.params:=(Jv (show(x.1,x.2)∈_ from hx)).1;rw[V,←aG];rcases cc _ hm with hk|hk
   ·exact .inl hk
   ·refine xEA ((aH (y:=x.1) f.scope.names (s.heap.objs.size+1) [] h4).1 hk) fun c hc J=>?_;exact .inr ⟨hk,by rw[hc];rfl⟩
  ·intro s₁ b5 O;generalize b6:s.heap.objs.size=N at *;have hkd:∀x,(EJ fd N a).kindOf x=au x f.scope.names:=fun x=>by rw[aG,←V];rfl
   obtain a8:(EJ fd N a).cells=E2 (N+1) f.scope.names []:=by rw[←V];rfl
   obtain ci:(EJ fd N a).locals=N:=rfl
   have b7:∀b,N≤b→b∉ρ:=fun b hb hm=>by
    have:=S.h.live b hm;rw[dy (by rw[b6];exact hb)]at this;contradiction
   have be:∀b,Wf (EJ fd N a) b→N≤b:=by
    rintro b (e|⟨y,hy⟩)
    ·rw[e];exact DK _
    ·exact D9 (O.above y b (mem_of_lookup hy))
   have bx:∀b o,s.heap.get? b=some o→b<N:=fun b o e=>by rw[←b6];exact rl e
   refine xEE O.toInCall.same fun hh tk a0=>?_;have H:=O.toInCall.keep
   have K₁:Kp NoW ρ s ρ s₁:=by
    rw[a0];rw[a0]at H;exact Kp.kept NoW ρ s tk H
   obtain c0:SRel θ B f.scope (EJ fd N a) ρ (st.with (f.params.zip vs)) s₁:=by
    refine⟨S.h.kept H,⟨b2,fun x h=>by rw[hkd];exact h,fun x h=>by rw[hkd];exact h,fun x h=>absurd h (dc h5),fun x h=>by rw[hkd];exact h,⟨_,O.toInCall.ns,?_⟩,?_,O.apart,b7 _ (DK _),?_⟩,hg,c6,?_⟩
    ·intro x v hk hv;refine xEA (pX (ps:=f.params) hv ha) fun u hu Z=>?_;refine yEA u ?_ Z;rw[kJ (by rw[hkd];exact hk) _ _ _ hnd,hu]
    ·intro x hx;have hx:au x f.scope.names=some .cell:=hx.resolve_right (dc h5);refine xEA ((aH (y:=x) f.scope.names (N+1) [] h4).1 hx) fun c hc c1=>?_;have c2:(EJ fd N a).cells.lookup x=some c:=by rw[a8];exact hc
     refine bi c _ c2 (Dl c1) (b7 c (D9 c1)) (O.cell x c c2) (fun v hv=>?_);refine xEA (pX (ps:=f.params) hv ha) fun u hu Z=>?_;refine yEA u ?_ Z;rw[kK (by rw[hkd,hx];decide) _ _ _ hnd,hu]
    ·intro y c hc;refine xEA (O.cell y c hc) fun o ho J=>?_;rw[ho];rfl
    ·intro b o e;refine xAA (S.fix b o e) fun g1 g2 J=>?_;exact yAA (H b o g1) g2 (fun hw=>DF _ (De (bx b o g1) (be b hw)))
   obtain c3:Rm n (A.deeper (EJ fd N a)) s₁:=⟨⟨R.1.1,by have:=R.1.2.1;show A.depth+1+n+20<_;exact o62 this,by have:=R.1.2.2;show A.units+3+8*n+60<_;exact o25 this⟩,b5⟩
   refine hb _ _ _ _ ρ _ s₁ _ c3 c0 Z (by simp) fun u ρ' s' S' K' r'=>?_
   have K:Kp NoW ρ s ρ' s':=by
    refine⟨K'.ext,?_,fun b hb=>K'.alive b (K₁.alive b hb),fun b o h1 J e=>K'.keep b o h1 (fun hw=>DF _ (De (bx b o e) (be b hw))) (H b o e),fun b h1 h2=>?_⟩
    ·exact K₁.same.trans K'.same
    ·cases hb:s.heap.get? b with
     |none=>rfl
     |some o=>have:=K'.fresh b h1 h2;rw[H b o hb]at this;contradiction
   exact k u ρ' s' (S.after K S'.h rfl) K rfl r'
end
noncomputable def aD:Stmt→HS
 |.FunctionDef _ args _ _ _ _ _ _ _ _=>args
 |_=>JE
structure Fw (sc:Scope)(B:Fix)(env:Env)(s₀:Shared)(m:Str→Option Value)(s:Shared):Prop where
 call:InCall s₀ env.locals m s
 scp:env.scope=sc
 gl:env.globals=B.g
 bu:env.builtins=B.b
 base:Mine.Lake.Keeps B s₀.heap
 fn:sc.kind=.function
 nc:env.cells=[]
theorem kM {e:Expr}{pos:Pos}{env:Env}(h:aU e=false):EN pos (D6 [e] env)=[(false,eval e env)]:=by
 rw[aF (nsB h)];rfl
theorem wn {e B:Expr}{pos:Pos}{env:Env}(h:aU e=false)(h':aU B=false):EN pos (D6 [e,B] env)=[(false,eval e env),(false,eval B env)]:=by
 rw[aF (nsB h),aF (nsB h')];rfl
theorem wp {e G B:Expr}{pos:Pos}{env:Env}(h:aU e=false)(h':aU G=false)(H:aU B=false):EN pos (D6 [e,G,B] env)=[(false,eval e env),(false,eval G env),(false,eval B env)]:=by
 rw[aF (nsB h),aF (nsB h'),aF (nsB H)];rfl
section
variable {prog:C9}{w:World}{A:Dq}{E:Value→Shared→Prop}{s₀ s:Shared}{sc:Scope}{B:Fix}{env:Env}{m:Str→Option Value}
theorem Fw.keeps (f:Fw sc B env s₀ m s):Mine.Lake.Keeps B s.heap:=fun a o e=>f.call.keep a o (f.base a o e)
theorem Fw.kind (f:Fw sc B env s₀ m s):env.scope.kind=.function:=by rw[f.scp,f.fn]
theorem Fw.kindOf (f:Fw sc B env s₀ m s)(x:Str):env.kindOf x=sc.names.lookup x:=by unfold Io;rw[f.scp]
theorem Fw.name {x:Str}{p:Pos}{v:Value}{Q:Value→Shared→Prop}(f:Fw sc B env s₀ m s)(hl:sc.names.lookup x=some .local)(G:m x=some v)(q:Q v s)(hd:(x==("__debug__":Str))=false:=by decide):
  wpAny (model prog w) A (eval (.Name x p) env) Q E s:=FZ (Ex f.kind (by rw[f.kindOf,hl]) f.call.ns G q) hd
theorem Fw.glob (G:Glob B){x:Str}{p:Pos}{v:Value}{Q:Value→Shared→Prop}(f:Fw sc B env s₀ m s)(hl:sc.names.lookup x=some .globalImplicit)(H:G.val x=some v)(q:Q v s)(hd:(x==("__debug__":Str))=false:=by decide):
  wpAny (model prog w) A (eval (.Name x p) env) Q E s:=by
 refine xAA (G.look s.heap f.keeps) fun hg hb J=>?_;refine FG f.kind (by rw[f.kindOf,hl]) ?_ hd;unfold Glob.val at H;refine cK (G.gm x) (fun u O=>?_) fun O=>?_
 ·rw[O]at H;injection H with H;subst H;exact FW (by refine(ir f.gl)▸?_;exact hg) O q
 ·rw[O]at H;exact FR (by refine(ir f.gl)▸?_;exact hg) O (by refine(ir f.bu)▸?_;exact hb) H q
theorem Fw.store {x:Str}{v:Value}{Q:Unit→Shared→Prop}(f:Fw sc B env s₀ m s)(hl:sc.names.lookup x=some .local)(q:∀s',Fw sc B env s₀ (fun y=>if y=x then some v else m y) s'→Q () s'):
  wpAny (model prog w) A (FL env x v) Q E s:=by
 refine Ec (by rw[f.kindOf,hl]) f.call.ns (fun h' G H=>q _ ⟨⟨?_,G,fun b o e=>?_,f.call.fresh⟩,f.scp,f.gl,f.bu,f.base,f.fn,f.nc⟩) (by rw[f.kind];rfl)
 ·refine xEE f.call.same fun J O e=>?_;refine(ir e)▸?_;exact yEE h' _ rfl
 ·exact H.extBut b o (Dh (De (rl e) f.call.fresh)) (f.call.keep b o e)
noncomputable def upd (m:Str→Option Value) (x:Str) (v:Value):Str→Option Value:=fun y=>if y=x then some v else m y
theorem ar {x:Str}{v:Value}{m:Str→Option Value}:upd m x v x=some v:=if_pos rfl
theorem ah {x y:Str}{v:Value}{m:Str→Option Value}{r:Option Value}(h:y≠x)(e:m y=r):upd m x v y=r:=(if_neg h).trans e
theorem Fw.put {x:Str}{v:Value}{Q:Unit→Shared→Prop}(f:Fw sc B env s₀ m s)(hl:sc.names.lookup x=some .local)(q:∀s',Fw sc B env s₀ (upd m x v) s'→Q () s'):wpAny (model prog w) A (FL env x v) Q E s:=f.store hl q
theorem Fw.putS {x:Str}{v:Value}{Q:Unit→Shared→Prop}(f:Fw sc B env s₀ m s)(hl:sc.names.lookup x=some .local)(q:∀s',Fw sc B env s₀ (upd m x v) s'→E3 env.locals s.heap s'.heap→Q () s'):
  wpAny (model prog w) A (FL env x v) Q E s:=by
 refine Ec (by rw[f.kindOf,hl]) f.call.ns (fun h' H G=>q _ ⟨⟨?_,H,fun b o e=>?_,f.call.fresh⟩,f.scp,f.gl,f.bu,f.base,f.fn,f.nc⟩ G) (by rw[f.kind];rfl)
 ·refine xEE f.call.same fun J O e=>?_;refine(ir e)▸?_;exact yEE h' _ rfl
 ·exact G.extBut b o (Dh (De (rl e) f.call.fresh)) (f.call.keep b o e)
theorem Fw.go (f:Fw sc B env s₀ m s){h':Heap}{t:Nat}(G:∀b o,s.heap.get? b=some o→h'.get? b=some o):Fw sc B env s₀ m { s with heap:=h',toks:=t }:=by
 refine⟨⟨?_,f.call.ns.keeps G,fun b o e=>G b o (f.call.keep b o e),f.call.fresh⟩,f.scp,f.gl,f.bu,f.base,f.fn,f.nc⟩;refine xEE f.call.same fun H J e=>?_;refine(ir e)▸?_;exact yEE h' t rfl
theorem Fw.tok (f:Fw sc B env s₀ m s){t:Nat}:Fw sc B env s₀ m { s with toks:=t }:=f.go (h':=s.heap) fun J J e=>e
theorem Fw.own (f:Fw sc B env s₀ m s){a:Addr}(J:s₀.heap.get? a=none)(hl:a≠env.locals){h':Heap}{t:Nat}(G:∀b o,b≠a→s.heap.get? b=some o→h'.get? b=some o):Fw sc B env s₀ m { s with heap:=h',toks:=t }:=by
 refine⟨⟨?_,f.call.ns.at' fun o e=>G _ o hl.symm e,fun b o e=>G b o (fun q=>by rw[q,J]at e;contradiction) (f.call.keep b o e),f.call.fresh⟩,f.scp,f.gl,f.bu,f.base,f.fn,f.nc⟩;refine xEE f.call.same fun H O e=>?_;refine(ir e)▸?_;exact yEE h' t rfl
theorem sp2 {e H:Expr}{G:Pos}{Q:List Value→Shared→Prop}(h:wpAny (model prog w) A (eval e env) (fun v s₁=>wpAny (model prog w) A (eval H env) (fun O s₂=>Q [v,O] s₂) E s₁) E s)
  (h1:autoParam (aU e=false) aR)(h2:autoParam (aU H=false) aR):wpAny (model prog w) A (Ke (EN G (D6 [e,H] env))) Q E s:=by
 rw[wn h1 h2];exact C8 (Dn h (fun v s₁ h=>C8 (Dn h (fun O s₂ h=>Dp h) fun J J e=>e)) fun J J e=>e)
theorem cw1 {e:Expr}{id:String}{pre:List Value}{pos G:Pos}{Q:Value→Shared→Prop}(h:wpAny (model prog w) A (eval e env) (fun v s₁=>wpAny (model prog w) A (call (.builtin id) (pre++[v])) Q E s₁) E s)
  (h1:autoParam (aU e=false) aR):wpAny (model prog w) A (Fu pos (.builtin id) pre (EN G (D6 [e] env)) []) Q E s:=by
 refine(ir (kM h1))▸?_;exact Ev rfl (DR (C8 (Dn h (fun v s₁ h=>Dp h) fun J J e=>e)))
theorem cw2 {e H:Expr}{id:String}{pre:List Value}{pos G:Pos}{Q:Value→Shared→Prop}
  (h:wpAny (model prog w) A (eval e env) (fun v s₁=>wpAny (model prog w) A (eval H env) (fun O s₂=>wpAny (model prog w) A (call (.builtin id) (pre++[v,O])) Q E s₂) E s₁) E s)
  (h1:autoParam (aU e=false) aR)(h2:autoParam (aU H=false) aR):wpAny (model prog w) A (Fu pos (.builtin id) pre (EN G (D6 [e,H] env)) []) Q E s:=by
 rw[wn h1 h2];exact Ev rfl (DR (C8 (Dn h (fun v s₁ h=>C8 (Dn h (fun O s₂ h=>Dp h) fun J J e=>e)) fun J J e=>e)))
theorem cw3 {e V G:Expr}{id:String}{pre:List Value}{pos H:Pos}{Q:Value→Shared→Prop}
  (h:wpAny (model prog w) A (eval e env) (fun v s₁=>wpAny (model prog w) A (eval V env) (fun Z s₂=>wpAny (model prog w) A (eval G env) (fun O s₃=>wpAny (model prog w) A (call (.builtin id) (pre++[v,Z,O])) Q E s₃) E s₂) E s₁) E s)
  (h1:autoParam (aU e=false) aR)(h2:autoParam (aU V=false) aR)(h3:autoParam (aU G=false) aR):wpAny (model prog w) A (Fu pos (.builtin id) pre (EN H (D6 [e,V,G] env)) []) Q E s:=by
 rw[wp h1 h2 h3];exact Ev rfl (DR (C8 (Dn h (fun v s₁ h=>C8 (Dn h (fun Z s₂ h=>C8 (Dn h (fun O s₃ h=>Dp h) fun J J e=>e)) fun J J e=>e)) fun J J e=>e)))
structure aY (B:Fix)(a:Addr)(ps:HS)(body:List Stmt)(scope:Scope)(dflt:Value):Prop where
 obj:∃o fd,B.base a=some o∧o.data=.func fd∧fd.params=ps∧fd.body=.stmts body∧fd.scope=scope∧fd.closure=[]∧fd.globals=B.g∧fd.builtins=B.b∧fd.defaults=dflt∧fd.kwdefaults=.none∧∀h,Mine.Lake.Keeps B h→h.CodeRec fd.code fd.qualname
set_option backward.match.sparseCases true in
theorem bW (G:Glob B){a:Addr}{ps:HS}{body:List Stmt}{dflt:Value}{us:List Value}{binds:List (Str×Value)}{Q:Value→Shared→Prop}(F:aY B a ps body sc dflt)(hb:Mine.Lake.Keeps B s.heap)(O:A.depth<Ed)
  (V:∀fd:Fx,fd.params=ps→fd.defaults=dflt→fd.kwdefaults=.none→JL s fd ⟨us,[]⟩ binds)(Z:∀x∈sc.names,x.2≠.cell)(a9:∀x∈binds,sc.names.lookup x.1=some .local)
  (h:∀env s₁ E',Fw sc B env s (fun x=>binds.reverse.lookup x) s₁→s₁.toks=s.toks+binds.length→wpAny (model prog w) (A.deeper env) (execs body env) (fun r s'=>Q (match r with|.ret v=>v|_=>.none) s') E' s₁)
  (b1:autoParam (sc.isCoroutine=false) aR)(ag:autoParam (sc.isGenerator=false) aR)(hk:autoParam (sc.kind=.function) aR):wpAny (model prog w) A (call (.ref a) us) Q E s:=by
 refine cg F.obj fun o fd ho hd b2 a0 H b3 hg b4 b5 hkd b6=>?_;refine xAA (G.look s.heap hb) fun J J al=>?_;refine Gm (JT O (hb a o ho) hd al (b6 _ hb) a0 (V fd b2 b5 hkd) (by rw[H];exact Z) (by rw[H];exact a9) (fun h₀ hns a8=>?_) (by rw[H,b1]) (by rw[H,ag]) (by rw[H,hk]));exact h (callEnv fd s.heap.objs.size a) _ _ ⟨⟨⟨_,_,rfl⟩,hns,a8,DK _⟩,H,hg,b4,hb,hk,b3⟩ rfl
theorem Fw.fin {v:Value}{Q:Value→Shared→Prop}(f:Fw sc B env s₀ m s)(h:∀h' k,(∀b o,s₀.heap.get? b=some o→h'.get? b=some o)→Q v { s₀ with heap:=h',toks:=k }):Q v s:=by
 refine xEE f.call.same fun h' G e=>?_;have:=f.call.keep;rw[e]at this⊢;exact h h' G this
end
end
section
open PySem PySem.W PyProof.Rows PySem.Builtin
noncomputable def wq (n:Nat) (l:List Value):Prop:=l.length=n∧∀v∈l,∃c t,v=Dm c t
section
variable {prog:C9}{w:World}{A:Dq}{E:Value→Shared→Prop}{s:Shared}{B:Fix}{θ:Th}{n:Nat}{sc:Scope}
noncomputable def LcI (sc:Scope) (B:Fix) (env:Env) (s₀:Shared) (e it l Lc:Addr) (items:Array Value) (k:Nat) (s':Shared):Prop:=
 ∃m' i old cs' q',Fw sc B env s₀ m' s'∧m' "cells"=some (.ref Lc)∧s'.heap.get? Lc=some { cls:=.type "list",dict:=none,data:=.seq cs' q',slots:= #[] }∧wq 4 cs'.toList∧IsEnum s'.heap e it ((i:Nat):Int) old∧s'.heap.IsListIter it l i∧s'.heap.IsList l items∧i≤items.size∧k=items.size-i
theorem pY {env:Env}{s₀:Shared}{m:Str→Option Value}{R:GH→Shared→Prop}{e it l Lc:Addr}{items:Array Value}{x1:Nat}{pk px pt p1 p2 p3 p4 p5 p6 p7:Pos}{k4:Nat}(hA:A.handled=none)(f:Fw sc B env s₀ m s)
  (hk:sc.names.lookup ("k":Str)=some .local)(hx:sc.names.lookup ("x":Str)=some .local)(hc:sc.names.lookup ("cells":Str)=some .local)(hm:m "cells"=some (.ref Lc))
  (e7:s₀.heap.get? e=none)(hfi:s₀.heap.get? it=none)(e9:s₀.heap.get? Lc=none)(ea:e≠env.locals∧it≠env.locals∧l≠env.locals∧Lc≠env.locals)(eb:Lc≠e∧Lc≠it∧Lc≠l)(cc:e≠it)(ec:l≠e)(ef:l≠it)
  (ch:∀v∈items.toList,∃c t,v=Dm c t)(he:IsEnum s.heap e it 0 .none)(eg:s.heap.IsListIter it l 0)(hl:s.heap.IsList l items){cs:Array Value}{q:Nat}(eh:s.heap.get? Lc=some { cls:=.type "list",dict:=none,data:=.seq cs q,slots:= #[] })(h4:wq 4 cs.toList)
  (hR:∀s' m' cs' q',Fw sc B env s₀ m' s'→m' "cells"=some (.ref Lc)→s'.heap.get? Lc=some { cls:=.type "list",dict:=none,data:=.seq cs' q',slots:= #[] }→wq 4 cs'.toList→R (.ok .next) s'):
  Fb (model prog w) A (.forLoop (.Tuple [.Name "k" pk,.Name "x" px] x1 pt) (.ref e) [.AugAssign (.Subscript (.Name "cells" p1) (.BinOp (.Name "k" p2) .Mod (.Constant (.int 4) k4 p3) p4) p5) .Add (.Name "x" p6) p7] [] env) R s:=by
 refine cL ea fun b4 a8 ci b5=>?_;refine xAA eb fun b6 a9 d1=>?_
 refine Aj (LcI sc B env s₀ e it l Lc items) (fun s'=>R (.ok .next) s') (fun _ z=>z) items.size
  ⟨m,0,.none,cs,q,f,hm,eh,h4,he,eg,hl,Ej _,rfl⟩ ?_
 intro k s' Q' E' d2 hq;refine iP d2 fun m' i old cs' q' f' d3 b7 ag bx be c1 hi ei=>?_;clear d2;subst ei;refine cz (items[i]?) (fun hv=>?_) fun v hv=>?_
 ·exact wpAny_pyNext_enum_end hA bx be c1 hv fun d4 al=>hR _ m' cs' q' (f'.own (t:=s'.toks) hfi a8 fun b o hb e=>al b o hb e) d3 (al _ _ a9 b7) ag
 ·have d5:i<items.size:=(Array.getElem?_eq_some_iff.mp hv).1
  obtain⟨c,tc,rfl⟩:=ch v (by
   have:items.toList[i]?=some v:=by simpa using hv
   exact C6 this)
  refine wpAny_pyNext_enum_item bx be c1 hv cc fun d4 ej b1 c2 eo c4=>?_;obtain hTs:∀b o,s'.heap.get? b=some o→b≠s'.heap.objs.size:=fun b o e=>Dh (rl e);refine wpAny_letOwnedTupleGo_enum ej fun J c6 a0=>?_;have d6:s'.heap.objs.size≠e:=fun q=>hTs _ _ bx q.symm;obtain c7:J.IsTuple s'.heap.objs.size #[.int i s'.toks,.int c tc]:=⟨_,(a0.2 _ d6).trans c2,rfl,_,rfl⟩
  have V:∀b o,b≠e→b≠it→s'.heap.get? b=some o→J.get? b=some o:=fun b o h1 h2 G=>(a0.2 b h1).trans (c4 b o h1 h2 G)
  obtain f2:Fw sc B env s₀ m' { s' with heap:=J,toks:=s'.toks+1 }:=by
   refine⟨⟨?_,?_,fun b o G=>?_,f'.call.fresh⟩,f'.scp,f'.gl,f'.bu,f'.base,f'.fn,f'.nc⟩
   ·refine xEE f'.call.same fun hh tk G=>?_;refine(ir G)▸?_;exact yEE _ _ rfl
   ·exact f'.call.ns.at' fun o G=>V _ o b4.symm a8.symm G
   ·exact V b o (fun q=>by rw[q,e7]at G;contradiction) (fun q=>by rw[q,hfi]at G;contradiction) (f'.call.keep b o G)
  refine G7 hA c7 rfl rfl fun Z ca=>?_;have H:∀b o,J.get? b=some o→Z.get? b=some o:=fun b o G=>ca b o (fun q=>by rw[q,show({ s' with heap:=J,toks:=s'.toks+1 }:Shared).heap.get? ({ s' with heap:=J,toks:=s'.toks+1 }:Shared).heap.objs.size=none from bb _]at G;contradiction) G;obtain f3:=f2.go (h':=Z) (t:=s'.toks+1) H;obtain e3:IsEnum Z e it ((i:Int)+1) (.int c tc):=H _ _ c6;obtain er:Z.IsListIter it l (i+1):=b1.at fun o G=>H _ o ((a0.2 it cc.symm).trans G);obtain l3:Z.IsList l items:=c1.at fun o G=>H _ o (V l o ec ef G);obtain c3:=H _ _ (V Lc _ b6 a9 b7);show wpAny _ _ (KJ [Go (.Name "k" pk) env,Go (.Name "x" px) env] [.int i s'.toks,.int c tc]) _ _ _
  have st:∀(s6:Shared) (h5:Heap),E3 env.locals h5 s6.heap→IsEnum h5 e it ((i:Int)+1) (.int c tc)∧h5.IsListIter it l (i+1)∧h5.IsList l items∧h5.get? Lc=some { cls:=.type "list",dict:=none,data:=.seq cs' q',slots:= #[] }→
    IsEnum s6.heap e it ((i:Int)+1) (.int c tc)∧s6.heap.IsListIter it l (i+1)∧s6.heap.IsList l items∧s6.heap.get? Lc=some { cls:=.type "list",dict:=none,data:=.seq cs' q',slots:= #[] }:=
   fun s6 h5 hs ⟨a,b,c,d⟩=>⟨(hs.2 e b4).trans a,b.at fun o G=>(hs.2 it a8).trans G,c.at fun o G=>(hs.2 l ci).trans G,(hs.2 Lc b5).trans d⟩
  refine Ey (Ea (f3.putS hk fun s4 f4 et=>?_));refine Ey (Ea (f4.putS hx fun s5 f5 ey=>?_));refine GF ?_;refine cL (st s5 _ ey (st s4 _ et ⟨e3,er,l3,c3⟩)) fun e5 f0 l5 c5=>?_;have d7:upd (upd m' "k" (.int i s'.toks)) "x" (.int c tc) "cells"=some (.ref Lc):=ah (by decide) (ah (by decide) d3);refine DL ?_;refine wpAny_AugAssign_SubscriptAny ?_;refine f5.name hc d7 ?_;refine EO ?_;refine f5.name hk (ah (by decide) ar) (Dj (JB (by decide) ?_))
  have O:(i:Int).fmod 4=((i%4:Nat):Int):=by
   rw[GE _ (by decide)];rfl
  refine(ir O)▸?_;have f6:=f5.tok (t:=s5.toks+1+1)
  obtain⟨c0,t0,f1⟩:∃c0 t0,cs'[i%4]?=some (Dm c0 t0):=by
   obtain dv:=ag.1;have e4:i%4<cs'.toList.length:=by refine(ir dv)▸?_;exact Il _ (by exact DT _)
   refine xEE (ag.2 _ (H0 e4)) fun c0 t0 e0=>?_;exact⟨c0,t0,by rw[←E6,EA e4,e0]⟩
  obtain f8:({ s5 with toks:=s5.toks+1+1 }:Shared).heap.IsList Lc cs':=⟨_,c5,rfl,_,rfl⟩
  have bk:((i%4:Nat):Int)<2 ^ 63:=by have:=Il i (show 4>0 by exact DT _);grind -abstractProof
  refine Jp f8 (by exact o6 O) bk (by rw[EC];exact f1) ?_;refine f6.name hx ar ?_;refine P.iadd_int ?_;have e6:cs'.size=4:=by have:=ag.1;simpa using this
  obtain f7:=f6.tok (t:=s5.toks+1+1+1);refine ki_setAt (n:=q') (items:=cs') c5 (by exact o6 O) bk (by refine(ir e6)▸?_;have:=Il i (show 4>0 by decide);exact o77 O) ?_;obtain cb:=Dy (DX (·.setIfInBounds ((i%4:Nat):Int).toNat (Dm (c0+c) (s5.toks+1+1)))) c5 rfl
  obtain b2:(s5.heap.update Lc (DX (·.setIfInBounds ((i%4:Nat):Int).toNat (Dm (c0+c) (s5.toks+1+1))))).get? Lc=some { cls:=.type "list",dict:=none,data:=.seq (cs'.setIfInBounds (i%4) (Dm (c0+c) (s5.toks+1+1))) (if ((cs'.setIfInBounds (i%4) (Dm (c0+c) (s5.toks+1+1))).size==cs'.size)=true then q' else q'+1),slots:= #[] }:=by
   rw[cb,EC];rfl
  have b3:∀b o,b≠Lc→s5.heap.get? b=some o→(s5.heap.update Lc (DX (·.setIfInBounds ((i%4:Nat):Int).toNat (Dm (c0+c) (s5.toks+1+1))))).get? b=some o:=fun b o hb G=>(DC _ _ (EL hb)).trans G;refine C7 ?_;refine hq (items.size-(i+1)) _ (by exact o3 d5 d6 O) ⟨_,i+1,.int c tc,cs'.setIfInBounds (i%4) (Dm (c0+c) (s5.toks+1+1)),_,f7.own (t:=s5.toks+1+1+1) e9 b5 b3,d7,b2,?_,?_,f0.at fun o G=>b3 _ o a9.symm G,l5.at fun o G=>b3 _ o d1.symm G,by exact o81 d5 O,rfl⟩
  ·refine⟨by simp[e6],fun v hv=>?_⟩;rw[Array.toList_setIfInBounds]at hv;rcases List.mem_or_eq_of_mem_set hv with h|h
   ·exact ag.2 v h
   ·exact yEE _ _ h
  ·exact b3 _ _ b6.symm e5
end
end
section
open PySem PyProof.Rows PyProof.V PySem.Builtin
section
variable (prog:C9)(w:World)(θ:Th)(B:Fix)(n:Nat)
structure Known (G:Glob B)(P:Pm):Prop where
 len:G.val mJ=some (.builtin "len")
 sum:G.val uI=some (.builtin "sum")
 list:G.val pd=some (.type "list")
 range:G.val hU=some (.type "range")
 zip:G.val uJ=some (.type "zip")
 ft:∀f fr,mI f P.FT=some fr→∃a,G.val f=some (.ref a)∧jp B fr a
 quoted:∃v,G.val iD=some v∧dJ B v∧KcOk prog w θ B n v ⟨lh⟩
 strip:∃v,G.val lb=some v∧dJ B v∧KcOk prog w θ B n v ⟨pi⟩
 paren:∃v,G.val lf=some v∧dJ B v∧KcOk prog w θ B n v ⟨li⟩
 written:∃v,G.val fY=some v∧dJ B v∧KcOk prog w θ B n v ⟨iE⟩
structure FnOk2 (F:Fn):Prop extends CQ prog w θ B n F where
 tev:∀sc e,(∀op v p,e≠.BoolOp op v p)→(∀x p,e≠.UnaryOp .Not x p)→(∀a b c p,e≠.IfExp a b c p)→TrOk prog w θ B n sc e (lB (F.ev sc e))
 asg:∀sc x xp e p,StOk prog w θ B n sc (.Assign [.Name x xp] e p) (b0 sc (F.ev sc e) (.Name x xp))
 noc:∀sc e st v st',(F.ev sc e).run st=.ok v st'→(∀a b c p,e≠.ListComp a b c p)→lQ e
end
section
variable {prog:C9}{w:World}{θ:Th}{B:Fix}{n:Nat}{sc:Scope}
theorem EvOk.up {e:Expr}{c:Cl}(h:EvOk prog w θ B n sc e c):EvOk prog w θ B (n+1) sc e c:=fun J J J J J J J J J R S e k=>h _ _ _ _ _ _ _ _ _ R.le S e k
theorem TrOk.up {e:Expr}{c:Tc}(h:TrOk prog w θ B n sc e c):TrOk prog w θ B (n+1) sc e c:=fun J J J J J J J J J R S=>h _ _ _ _ _ _ _ _ _ R.le S
theorem ExOk.up {b:List Stmt}{c:Xc}(h:ExOk prog w θ B n sc b c):ExOk prog w θ B (n+1) sc b c:=fun J J J J J J J J R S e G k=>h _ _ _ _ _ _ _ _ R.le S e G k
theorem StOk.up {b:Stmt}{c:Xc}(h:StOk prog w θ B n sc b c):StOk prog w θ B (n+1) sc b c:=fun J J J J J J J J R S e G k=>h _ _ _ _ _ _ _ _ R.le S e G k
theorem KcOk.up {v:Value}{c:Kc}(h:KcOk prog w θ B n v c):KcOk prog w θ B (n+1) v c:=fun J J J J J J J J J J J J R S a e k=>h _ _ _ _ _ _ _ _ _ _ _ _ R.le S a e k
theorem FnOk2.up {F:Fn}(h:FnOk2 prog w θ B n F):FnOk2 prog w θ B (n+1) F:=⟨⟨fun J J=>(h.ev _ _).up,h.star,h.mark,fun J J=>(h.tr _ _).up,fun J J=>(h.ex _ _).up⟩,fun J J a b c=>(h.tev _ _ a b c).up,fun J J J J J=>(h.asg _ _ _ _ _).up,h.noc⟩
theorem Known.up {G:Glob B}{P:Pm}(K:Known prog w θ B n G P):Known prog w θ B (n+1) G P:=
 ⟨K.len,K.sum,K.list,K.range,K.zip,K.ft,by refine aQ K.quoted fun v a b c=>?_;exact dY v a b c.up,by refine aQ K.strip fun v a b c=>?_;exact dY v a b c.up,by refine aQ K.paren fun v a b c=>?_;exact dY v a b c.up,by refine aQ K.written fun v a b c=>?_;exact dY v a b c.up⟩
theorem bX {e:Expr}:EvOk prog w θ B n sc e .fail:=fun J J J J J J J J J J J e J=>by contradiction
theorem jq {e:Expr}:TrOk prog w θ B n sc e .fail:=fun J J J J J J J J J J J e J=>(by contradiction)
theorem cQ {e:Stmt}:StOk prog w θ B n sc e .fail:=fun J J J J J J J J J J e G=>absurd e.symm G
theorem Ar {e:List Stmt}:ExOk prog w θ B n sc e .fail:=fun J J J J J J J J J J e G=>absurd e.symm G
theorem yb {G:Glob B}{P:Pm}(K:Known prog w θ B n G P)(f:Str):∀k,iF f=k→k≠.bad→∃v,G.val f=some v∧dJ B v∧KcOk prog w θ B n v (kh k):=by
 intro k H hb;unfold iF at H;refine aJ (aA f iD) (fun h1=>?_) fun h1=>?_
 ·rw[h1]at H;subst H;refine(ir ((ao _ _).mp h1))▸?_;exact K.quoted
 rw[h1]at H;dsimp only at H;refine aJ (aA f lb) (fun h2=>?_) fun h2=>?_
 ·rw[h2]at H;subst H;refine(ir ((ao _ _).mp h2))▸?_;exact K.strip
 rw[h2]at H;dsimp only at H;refine aJ (aA f lf) (fun h3=>?_) fun h3=>?_
 ·rw[h3]at H;subst H;refine(ir ((ao _ _).mp h3))▸?_;exact K.paren
 rw[h3]at H;dsimp only at H;refine aJ (aA f fY) (fun h4=>?_) fun h4=>?_
 ·rw[h4]at H;subst H;refine(ir ((ao _ _).mp h4))▸?_;exact K.written
 rw[h4]at H;dsimp only at H;refine aJ (aA f mJ) (fun J=>?_) fun J=>?_
 ·rw[J]at H;subst H;refine(ir ((ao _ _).mp J))▸?_;exact dY _ K.len (.inr (.inl ⟨_,rfl⟩)) xU
 rw[J]at H;dsimp only at H;refine aJ (aA f uI) (fun O=>?_) fun O=>?_
 ·rw[O]at H;subst H;refine(ir ((ao _ _).mp O))▸?_;exact dY _ K.sum (.inr (.inl ⟨_,rfl⟩)) xV
 ·rw[O]at H;subst H;exact absurd rfl hb
theorem wu {G:Glob B}{P:Pm}{F:Fn}(K:Known prog w θ B (n+1) G P)(h:FnOk2 prog w θ B n F)(f:Str):(∀H st,(rD P F.ex f).run H st=.no)∨∃v,G.val f=some v∧dJ B v∧KcOk prog w θ B (n+1) v (rD P F.ex f):=by
 unfold rD
 cases hf:mI f P.FT with
 |some fr=>
  refine xEA (K.ft f fr hf) fun a O hd=>?_;refine aE hd.obj fun o fd V hfd J=>?_;exact .inr ⟨_,O,.inl ⟨a,o,fd,rfl,V,hfd⟩,ya G hd (h.ex _ _)⟩
 |none=>
  dsimp only
  cases Z:iF f with
  |bad=>exact .inl fun J J=>rfl
  |_=>exact .inr (yb K f _ Z (by simp))
theorem tE (c:Ctx prog w θ B){G:Glob B}{P:Pm}{F:Fn}(K:Known prog w θ B (n+1) G P)(h:FnOk2 prog w θ B n F){f:Expr}{args:List Expr}{J:List I9}{pos:Pos}:
  EvOk prog w θ B (n+1) sc (.Call f args J pos) (pn P F sc f args J pos):=by
 have H:=h.up;unfold pn
 cases J with
 |cons _ _=>exact bX
 |nil=>
  cases f with
  |Attribute o m ap=>exact tm c (H.ev sc) (H.star sc)
  |Name f np=>
   dsimp only;unfold rK
   cases hg:bR sc f with
   |false=>exact bX
   |true=>
    cases hl:aA f pd with
    |true=>
     have:=(ao _ _).mp hl;clear hl;subst this;dsimp only
     match args with
     |[]=>exact bX
     |[a]=>
      show EvOk _ _ _ _ _ _ _ (pj (F.ev sc) sc a);unfold pj
      cases a with
      |Call g es J a8=>
       dsimp only
       cases J with
       |cons _ _=>exact bX
       |nil=>
        cases g with
        |Name g gp=>
         dsimp only
         cases O:bR sc g with
         |false=>exact bX
         |true=>
          cases V:aA g hU with
          |true=>
           have:=(ao _ _).mp V;clear V;subst this;exact lP G (H.ev sc) (H.star sc) hg K.list O K.range
          |false=>
           dsimp only
           cases hz:aA g uJ with
           |true=>
            have:=(ao _ _).mp hz;clear hz V;subst this;exact pW G (H.ev sc) (H.star sc) hg K.list O K.zip
           |false=>exact bX
        |_=>exact bX
      |_=>exact bX
     |_::_::_=>exact bX
    |false=>
     dsimp only;rcases wu K h f with Z|⟨v,hv,hc,hk⟩
     ·intro A E Q env ρ st s v st' R S e;apply gG e;clear e;intro vs a0 h1 e;rw[Z]at e;contradiction
     ·exact nw G (H.ev sc) (H.star sc) hg hv hc hk
  |_=>exact bX
theorem jr {G:Glob B}{P:Pm}{F:Fn}(K:Known prog w θ B n G P)(h:FnOk2 prog w θ B n F){e:Expr}:jg prog w θ B n sc e (ke (F.ev sc) sc e):=by
 unfold ke
 cases H:lg sc e with
 |none=>exact gQ (h.ev sc e)
 |some args=>
  dsimp only;unfold lg at H
  cases e with
  |Call f as J p=>
   dsimp only at H
   cases J with
   |cons _ _=>contradiction
   |nil=>
    cases f with
    |Name f np=>
     dsimp only at H;apply az H;clear H;intro h1 H;apply az H;clear H;intro h2 H;injection H with H;subst H;have:=(ao _ _).mp h1;clear h1;subst this;exact ny G (h.ev sc) (h.star sc) h2 K.range
    |_=>contradiction
  |_=>contradiction
end
end
section
open PySem PySem.W PyProof.Rows PySem.Builtin
noncomputable def stC:St:=⟨[("cells",.ref 0)],1,T2.set 12 .nil 0 (.list [.int 0 1,.int 0 2,.int 0 3,.int 0 4])⟩
noncomputable def thC (prog:C9) (w:World) (X:Nat→Int):Th:=⟨fun J J=>[],fun J=>[],X,prog,w⟩
theorem As (prog:C9)(w:World)(X:Nat→Int):(thC prog w X).Bd:=⟨fun J J=>Ej _,fun J=>Ej _⟩
theorem wv (S:Nat→Int→Int)(csc:Scope)(h1:iA (aa (ac 16)).scope "cells"=true)(h2:iA csc "cell"=true)(tr:Expr→Tc):
  (eK "cell" (fy (iH (aa (ac 16)).scope "cells")) (bG tr []) (d0 (iH csc "cell") (lw (.int 1000000)) (uB (fun x m=>some (S x m)) .Mod))).run stC=
   .ok (.ref 1) ⟨[("cells",.ref 0)],2,T2.set 12 (T2.set 12 .nil 0 (.list [.int 0 1,.int 0 2,.int 0 3,.int 0 4])) 1 (.list [.int ((0+S 0 1000000).fmod 1000000) 0,.int ((0+S 1 1000000).fmod 1000000) 0,.int ((0+S 2 1000000).fmod 1000000) 0,.int ((0+S 3 1000000).fmod 1000000) 0])⟩:=by
 unfold iH;refine(ir h1)▸(ir h2)▸?_;rfl
section
variable {prog:C9}{w:World}{A:Dq}{E:Value→Shared→Prop}{s:Shared}{B:Fix}{θ:Th}{n:Nat}{sc:Scope}
theorem lV:∀y,au y (aa (ac 16)).scope.names≠some .cell∧au y (aa (ac 16)).scope.names≠some .free:=by
 have h:∀p∈(aa (ac 16)).scope.names,p.2≠.cell∧p.2≠.free:=by decide
 exact fun y=>⟨fun e=>(h _ (b9 e)).1 rfl,fun e=>(h _ (b9 e)).2 rfl⟩
theorem fO (a:Int):0≤a.fmod 1000000∧a.fmod 1000000<1000000:=by
 rw[GE _ (by decide)];exact⟨JI _ (by decide),Lr _ (by decide)⟩
theorem pZ {env:Env}{s₀:Shared}{m:Str→Option Value}{x:Str}{Lc:Addr}{o2:O2}{o:Obj}(f:Fw sc B env s₀ m s)(G:s₀.heap.get? Lc=none)(a0:Lc≠env.locals)(ho:s.heap.get? Lc=some o)(hm:m x=some (.ref Lc))(hr:ORel θ [] o2 o)
  (H:∀y,au y sc.names≠some .cell∧au y sc.names≠some .free)(a8:autoParam (jR o2=false) aR):SRel θ B sc env [Lc] ⟨[(x,.ref 0)],1,T2.set 12 .nil 0 o2⟩ s:=by
 obtain h0:HRel θ [] 0 .nil s.heap:=⟨rfl,List.nodup_nil,fun J h=>(Dr h).elim,fun i v e=>(by contradiction),fun i b e=>by contradiction⟩
 obtain V:=h0.add (a:=Lc) (by exact Bu) (Dr) ho hr a8
 obtain Z:∀b o,B.base b=some o→b≠Lc∧b≠env.locals:=fun b o e=>by
  have h1:=f.base b o e;exact⟨fun q=>(by rw[q,G]at h1;contradiction),fun q=>by rw[q,dy f.call.fresh]at h1;contradiction⟩
 refine⟨V,⟨f.kind,fun y h=>by rw[f.kindOf,←aG];exact h,fun y h=>absurd h (H y).1,fun y h=>absurd h (H y).2,fun y h=>by rw[f.kindOf,←aG];exact h,⟨m,f.call.ns,fun y v hk hl=>?_⟩,fun y O=>?_,by rw[f.nc];exact Hi,?_,fun y c hc=>by rw[f.nc]at hc;contradiction⟩,f.gl,f.bu,fun b o e=>?_⟩
 ·refine c8 hl (fun O hl=>?_) fun O hl=>?_
  ·injection hl with hl;subst hl;have:=(ao _ _).mp O;subst this;exact va _ hm Lc rfl rfl
  ·contradiction
 ·rcases O with h|h
  ·exact absurd h (H y).1
  ·exact absurd h (H y).2
 ·simpa using a0.symm
 ·refine xA (Z b o e) fun h1 h2=>?_;refine yAA (f.keeps b o e) (by simpa using h1) ?_;rintro(q|⟨y,O⟩)
  ·exact h2 q
  ·rw[f.nc]at O;contradiction
theorem tF {e:Expr}{env:Env}:evalPart (some e) env=eval e env:=rfl
theorem sp4 {env:Env}{e1 e2 e3 O:Expr}{G:Pos}{Q:List Value→Shared→Prop}(h:wpAny (model prog w) A (eval e1 env) (fun V s₁=>wpAny (model prog w) A (eval e2 env) (fun Z s₂=>wpAny (model prog w) A (eval e3 env) (fun v3 s₃=>wpAny (model prog w) A (eval O env) (fun v4 H=>Q [V,Z,v3,v4] H) E s₃) E s₂) E s₁) E s)
  (h1:autoParam (aU e1=false) aR)(h2:autoParam (aU e2=false) aR)(h3:autoParam (aU e3=false) aR)(h4:autoParam (aU O=false) aR):wpAny (model prog w) A (Ke (EN G (D6 [e1,e2,e3,O] env))) Q E s:=by
 refine(ir (aF (nsB h1)))▸(ir (aF (nsB h2)))▸(ir (aF (nsB h3)))▸(ir (aF (nsB h4)))▸?_;exact C8 (Dn h (fun J J h=>C8 (Dn h (fun J J h=>C8 (Dn h (fun J J h=>C8 (Dn h (fun J J h=>Dp h) fun J J e=>e)) fun J J e=>e)) fun J J e=>e)) fun J J e=>e)
theorem ct1 {env:Env}{e:Expr}{T:String}{pos G:Pos}{Q:Value→Shared→Prop}(h:wpAny (model prog w) A (eval e env) (fun v s₁=>wpAny (model prog w) A (call (.type T) [v]) Q E s₁) E s)
  (h1:autoParam (aU e=false) aR):wpAny (model prog w) A (Fu pos (.type T) [] (EN G (D6 [e] env)) []) Q E s:=by
 refine(ir (kM h1))▸?_;exact EB rfl (DR (C8 (Dn h (fun J J h=>Dp h) fun J J e=>e)))
noncomputable def iOf (o:Option Value):Int:=match o with
 |some v=>match v with
  |.int c _=>c
  |_=>0
 |none=>0
theorem nO {θ:Th}{ρ:Rho}{l:List Value}(h4:l.length=4)(h:∀v∈l,∃c t,v=Dm c t)(H:θ.X=fun j=>iOf l[j]?):All2 (VRel θ ρ) [.int 0 1,.int 0 2,.int 0 3,.int 0 4] l:=by
 refine iu (x:=(DQ 4).map fun k=>V2.int 0 (k+1)) (by rw[Gi,Lq];exact h4.symm) fun i a b G hb=>?_;refine xEA (I7 .. ▸G |> EY.mp) fun k e1 e2=>?_;clear G;subst e2;have e1:k=i:=(Dz.mp e1).elim fun J q=>(q.symm.trans (K1 _))
 subst e1;refine xEE (h b (C6 hb)) fun c t e2=>?_;refine⟨t,e2.trans ?_⟩;show Dm c t=Dm (0+θ.X k) t;rw[H,Int.zero_add];show _=Dm (iOf l[k]?) t;refine(ir hb)▸(ir e2)▸?_;rfl
theorem CS {α:Type}{P:α→Prop}{a b c d:α}(G:P a)(h1:P b)(h2:P c)(h3:P d):∀x∈[a,b,c,d],P x:=
 have f:∀{b:α} {l:List α},P b→(∀a∈l,P a)→∀a∈b::l,P a:=fun hb hl a H=>(Da.mp H).elim (fun e=>e▸hb) (hl a)
 f G (f h1 (f h2 (f h3 fun J h=>(Dr h).elim)))
theorem tG {θ:Th}{ρ:Rho}{m:Int}:∀{G:List V2} {l:List Value},All2 (VRel θ ρ) G l→(∀x∈G,∃c,x=V2.int c 0∧0≤c∧c<m)→l.length=G.length∧∀v∈l,∃c t,v=Dm c t∧0≤c∧c<m:=by
 intro G l h k;refine⟨h.length.symm,fun v H=>?_⟩;refine xE (List.mem_iff_getElem?.mp H) fun i hi=>?_;have hl:i<G.length:=h.length▸(Dz.mp hi).1;refine xEA (h.get (EA hl)) fun u J r=>?_;have e:u=v:=Dd (J.symm.trans hi);refine xEA (k _ (H0 hl)) fun c e1 hc=>?_;rw[e1]at r;exact xE r fun t e2=>⟨c,t,e.symm.trans e2,hc⟩
theorem qa (G:Glob B)(a8:G.val "enumerate"=some (.type "enumerate"))(hA:A.handled=none)(a9:Room n A){env:Env}{s₀:Shared}{m:Str→Option Value}{V:Addr}{items:Array Value}{Q:Flow→Shared→Prop}(f:Fw (aa (ac 16)).scope B env s₀ m s)(b7:0<s.toks)
  (hm:m "script"=some (.ref V))(hl:s.heap.IsList V items)(be:∀v∈items.toList,∃c t,v=Dm c t)(cc:items.size≤1000)
  (hQ:∀s' D cs q,Same s₀ s'→(∀b o,s₀.heap.get? b=some o→Kept b o (s'.heap.get? b))→s₀.heap.get? D=none→s'.heap.get? D=some { cls:=.type "list",dict:=none,data:=.seq cs q,slots:= #[] }→cs.size=4→(∀v∈cs.toList,∃c t,v=Dm c t∧0≤c∧c<1000000)→Q (.ret (.ref D)) s'):
  wpAny (model prog w) A (execs (aa (ac 16)).body env) Q E s:=by
 refine DL (ay ⟨a9,b7⟩ ?_);refine Ib ?_ (by rfl);rw[arm_eval_List];refine wb3 ?_;refine sp4 (Dj (Dj (Dj (Dj ?_))));refine EK ?_ (by show 4≤Eu;refine(ir Di)▸?_;decide)
 have hN:s₀.heap.get? s.heap.objs.size=none:=by
  cases h:s₀.heap.get? s.heap.objs.size with
  |none=>rfl
  |some o=>have:=f.call.keep _ _ h;rw[bb]at this;contradiction
 obtain f1:=f.go (t:=s.toks+1+1+1+1) (h':=s.heap.push { cls:=.type "list",data:=.seq [Dm 235307 s.toks,Dm 7036 (s.toks+1),Dm 4306 (s.toks+1+1),Dm 22890 (s.toks+1+1+1)].toArray }) fun b o e=>mc _ e;obtain ch:(s.heap.push { cls:=.type "list",data:=.seq [Dm 235307 s.toks,Dm 7036 (s.toks+1),Dm 4306 (s.toks+1+1),Dm 22890 (s.toks+1+1+1)].toArray }).get? s.heap.objs.size=some _:=rh _ rfl;have H:s.heap.objs.size≠env.locals:=fun q=>by have:=f.call.ns.lt;rw[←q]at this;exact DF _ this
 obtain bk:(s.heap.push { cls:=.type "list",data:=.seq [Dm 235307 s.toks,Dm 7036 (s.toks+1),Dm 4306 (s.toks+1+1),Dm 22890 (s.toks+1+1+1)].toArray }).IsList V items:=hl.push _;refine f1.putS rfl fun s2 f2 bx R2=>?_;obtain ci:upd m "cells" (.ref s.heap.objs.size) "script"=some (.ref V):=ah (by decide) hm
 obtain c0:V≠env.locals:=fun q=>by
  refine gJ hl fun o ho hc nn hd=>?_;refine bg f.call.ns fun o' es ep ag d1 J=>?_;rw[q,ag]at ho;have:=Dd ho;clear ho hc;subst this;rw[d1]at hd;contradiction
 obtain c4:s2.heap.IsList V items:=bk.at fun o e=>(bx.2 V c0).trans e;have Z:s2.heap.get? s.heap.objs.size=some { cls:=.type "list",data:=.seq [Dm 235307 s.toks,Dm 7036 (s.toks+1),Dm 4306 (s.toks+1+1),Dm 22890 (s.toks+1+1+1)].toArray }:=(bx.2 _ H).trans ch;refine DL (ay R2 ?_);refine I0 ?_ (fun J=>rfl);rw[dK];refine il (f2.glob G rfl a8 ?_);refine ct1 ?_;refine wpAny_Subscript_list_slice ?_;refine f2.name rfl ci ?_;rw[evalPart_none];refine nb ?_;refine(ir tF)▸?_;refine Dj ?_;refine pC V items none (some 60) rfl c4 (by refine(ir Di)▸?_;exact o31 cc) .none (.int _ _) ?_
 have al:(((s2.heap.push { cls:=.type "slice",data:=.fields #[EG,Dm 60 s2.toks,.none] }).push { cls:=.type "list",data:=.seq (HL items none (some 60) none) })).get? (s2.heap.objs.size+1)=some { cls:=.type "list",data:=.seq (HL items none (some 60) none) }:=by
  have:=rh (s2.heap.push { cls:=.type "slice",data:=.fields #[EG,Dm 60 s2.toks,.none] }) (o:={ cls:=.type "list",data:=.seq (HL items none (some 60) none) }) rfl;rw[Eh]at this;exact this
 have b4:∀b o,s2.heap.get? b=some o→((s2.heap.push { cls:=.type "slice",data:=.fields #[EG,Dm 60 s2.toks,.none] }).push { cls:=.type "list",data:=.seq (HL items none (some 60) none) }).get? b=some o:=fun b o e=>mc _ (mc _ e);have a0:((s2.heap.push { cls:=.type "slice",data:=.fields #[EG,Dm 60 s2.toks,.none] }).push { cls:=.type "list",data:=.seq (HL items none (some 60) none) }).objs.size=s2.heap.objs.size+2:=by rw[Eh,Eh]
 generalize (s2.heap.push { cls:=.type "slice",data:=.fields #[EG,Dm 60 s2.toks,.none] }).push { cls:=.type "list",data:=.seq (HL items none (some 60) none) }=h3 at al b4 a0⊢;obtain f3:=f2.go (t:=s2.toks+1) b4;refine call_enumerate_list (items:=HL items none (some 60) none) ⟨_,al,rfl,_,rfl⟩ fun h4 e4 i4 z4 k4=>?_;obtain f4:=f3.go (t:=s2.toks+1) k4;refine wpAny_pyIter_enum e4 ?_
 obtain b5:∀v∈(HL items none (some 60) none).toList,∃c t,v=Dm c t:=fun v hv=>by
  rw[slicePick_plain]at hv;exact be v (List.mem_of_mem_drop (List.mem_of_mem_take hv))
 have above:∀x,s2.heap.objs.size≤x→s₀.heap.get? x=none∧x≠env.locals∧s.heap.objs.size≠x:=fun x hx=>by
  have c5:s.heap.objs.size<s2.heap.objs.size:=rl Z;refine yAA ?_ (fun q=>?_) (fun q=>?_)
  ·cases h:s₀.heap.get? x with
   |none=>rfl
   |some o=>exact absurd (rl (f2.call.keep _ _ h)) (FS.mpr hx)
  ·have:=f2.call.ns.lt;rw[←q]at this;exact absurd this (FS.mpr hx)
  ·rw[q]at c5;exact absurd c5 (FS.mpr hx)
 rw[show({ s2 with heap:=h3,toks:=s2.toks+1 }:Shared).heap.objs.size=s2.heap.objs.size+2 from a0]at e4 i4 z4⊢;refine xAA (above (s2.heap.objs.size+2+1) (Df (DN _ 2) (DN _ 1))) fun a1 a2 a3=>?_;refine xAA (above (s2.heap.objs.size+2) (DN _ _)) fun b1 b2 b3=>?_;refine xAA (above (s2.heap.objs.size+1) (DN _ _)) fun c1 c2 c3=>?_;refine pY hA f4 rfl rfl rfl ar a1 b1 hN ⟨a2,b2,c2,H⟩ ⟨a3,b3,c3⟩ (Hf _) (by intro q;have:s2.heap.objs.size+1=s2.heap.objs.size+2+1:=q;lia -abstractProof) (by intro q;have:s2.heap.objs.size+1=s2.heap.objs.size+2:=q;lia -abstractProof) b5 e4 i4 ⟨_,k4 _ _ al,rfl,_,rfl⟩ (k4 _ _ (b4 _ _ Z)) ⟨rfl,fun v hv=>?_⟩ fun s5 m5 cs q f5 d2 d3 d4=>?_
 ·simp only[Da,Dr,or_false]at hv;rcases hv with rfl|rfl|rfl|rfl<;>exact yEE _ _ rfl
 ·intro R5;refine xA d4 fun d5 c6=>?_
  let X:Nat→Int:=fun j=>iOf cs.toList[j]?
  obtain S5:=pZ (θ:=thC prog w X) (x:="cells") (o2:=.list [.int 0 1,.int 0 2,.int 0 3,.int 0 4]) f5 hN H d3 d2 ⟨_,q,rfl,nO d5 c6 rfl⟩ lV
  obtain hR:gc (thC prog w X) (fun x m=>some ((fun x m=>X x%m) x m)):=fun k b r e=>by
   injection e with e;subst e;exact⟨X k/b,by show X k=X k%b+b*(X k/b);rw[Int.emod_add_mul_ediv]⟩
  refine csR ?_;refine lR (θ:=thC prog w X) (n:=n) (tr:=fun J=>.fail) ⟨rfl,rfl,rfl,rfl⟩ (gQ ga) (fun J J=>rfl) (fun e=>jq) (mY ga iU (mZ (As prog w X) hR .Mod)) _ _ _ _ _ _ _ _ _ R5 S5 (wv (fun x m=>X x%m) _ rfl rfl _) fun u ρ' s' S' K' l' r'=>?_;refine xEA r' fun D hD d6=>?_;clear r';subst d6;refine aE (S'.h.obj 1 (.list [.int ((0+X 0%1000000).fmod 1000000) 0,.int ((0+X 1%1000000).fmod 1000000) 0,.int ((0+X 2%1000000).fmod 1000000) 0,.int ((0+X 3%1000000).fmod 1000000) 0]) rfl) fun D' o' O ag c7=>?_;rw[hD]at O;injection O with O;subst O;refine aL c7 fun its q' d7 ca=>?_;clear c7;subst d7
  obtain dv:D≠s.heap.objs.size:=by
   intro e;obtain h0:=K'.ext 0 s.heap.objs.size rfl;have:=dq S'.h.nodup hD (e▸h0);contradiction
  obtain e0:s5.heap.get? D=none:=K'.fresh D (C6 hD) (by simpa using dv)
  obtain cb:∀b o,s₀.heap.get? b=some o→Kept b o (s'.heap.get? b):=fun b o e=>by
   refine K'.keep b o ?_ (fun h=>h) (f5.call.keep b o e);have:b≠s.heap.objs.size:=fun q=>by rw[q,hN]at e;contradiction
   simpa using this
  obtain e5:s₀.heap.get? D=none:=by
   cases h:s₀.heap.get? D with
   |none=>rfl
   |some o=>rw[f5.call.keep _ _ h]at e0;contradiction
  obtain b6:Same s₀ s5:=by
   refine xEE f5.call.same fun hh tk e=>?_;refine(ir e)▸?_;exact yAA rfl rfl id
  refine xA (tG ca (CS ⟨_,rfl,fO _⟩ ⟨_,rfl,fO _⟩ ⟨_,rfl,fO _⟩ ⟨_,rfl,fO _⟩)) fun h4 hv=>?_;exact hQ s' D _ q' (b6.trans K'.same) cb e5 ag h4 hv
end
noncomputable def pieces:List Str:=match (aa (ac 17)).body with
 |.Assign _ (.List es _) _::_=>es.filterMap fun e=>match e with
  |.Constant (.str x) _ _=>some x
  |_=>none
 |_=>[]
noncomputable def bC (x:Str):Prop:=x∈pieces∨∃n,n%16=15∧47≤n∧n≤9600∧x=⟨#[n]⟩
section
variable {prog:C9}{w:World}{A:Dq}{E:Value→Shared→Prop}{s:Shared}{B:Fix}{θ:Th}{n:Nat}{sc:Scope}
theorem eO {G slice:Expr}{l:Addr}{items:Array Value}{k:Int}{t:Tok}{x:Value}{Q:Value→Shared→Prop}(hl:s.heap.IsList l items)(J:0≤k)(H:k<2 ^ 63)(O:items[k.toNat]?=some x)(h:Q x s)
  (hs:J3 slice false (.ref l) (.int k t)=operate [.ref l,.int k t] (Kh (.ref l) (.int k t)):=by with_unfolding_all rfl):wpAny (model prog w) A (Gu G slice (.ref l) (.int k t)) Q E s:=
 HI (ops:=[.ref l,.int k t]) hl.typeIs list_getitem_lookup (Jp hl J H O h) hs
theorem qd {l:Addr}{items:Array Value}{q:Nat}{u:Value}{Q:Value→Shared→Prop}(hl:s.heap.get? l=some { cls:=.type "list",dict:=none,data:=.seq items q,slots:= #[] })(H:items.size≤1000)
  (hq:∀h' q',h'.get? l=some { cls:=.type "list",dict:=none,data:=.seq (items.push u) q',slots:= #[] }→(∀b o,b≠l→s.heap.get? b=some o→h'.get? b=some o)→Q .none { s with heap:=h' }):
  wpAny (model prog w) A (call (.builtin "list.append") [.ref l,u]) Q E s:=by
 refine F0 EW ⟨_,hl,rfl⟩ GN (Hr _ _) (GZ l items q u (by refine(ir Di)▸?_;exact o31 H)) ⟨hl,?_⟩;obtain G:=Dy (DX fun x=>x.push u) hl rfl;exact hq _ _ G fun b o hb e=>(DC _ _ (EL hb)).trans e
noncomputable def qe:List Stmt:=match (aa (ac 17)).body with
 |[_,_,.For _ _ b _ _,_]=>b
 |_=>[]
noncomputable def scT:Scope:=(aa (ac 17)).scope
theorem qf {c:Int}(G:0≤c)(h1:c<1000000)(i:Nat):0≤(c.fdiv 105).fdiv (16 ^ (i/4))∧(c.fdiv 105).fdiv (16 ^ (i/4))<9524:=by
 obtain e1:c.fdiv 105=c/105:=HF _ (by decide);have hp:(0:Int)<16 ^ (i/4):=Int.pow_pos (by decide);refine(ir e1)▸(ir (HF _ (Ku hp)))▸?_;have h2:0≤c/105:=Int.ediv_nonneg G (by decide);obtain h3:c/105<9524:=by lia -abstractProof
 refine⟨Int.ediv_nonneg h2 (Ku hp),?_⟩;exact Int.lt_of_le_of_lt (Int.ediv_le_self _ h2) h3
theorem qg (G:Glob B)(b2:G.val "chr"=some (.builtin "chr")){env:Env}{s₀:Shared}{m:Str→Option Value}{Q:Flow→Shared→Prop}{Lc Lp Lt:Addr}{i:Nat}{tk:Tok}{cs ps:Array Value}{items:Array Value}{q:Nat}(f:Fw scT B env s₀ m s)(hi:i<9)
  (b3:m "cells"=some (.ref Lc))(b4:m "pieces"=some (.ref Lp))(ag:m "texts"=some (.ref Lt))(b5:m "k"=some (.int i tk))
  (c4:s₀.heap.IsList Lc cs)(c5:cs.size=4)(c6:∀v∈cs.toList,∃c t,v=Dm c t∧0≤c∧c<1000000)
  (c7:s.heap.IsList Lp ps)(ca:All2 (fun x v=>∃t,v=Du x t) pieces ps.toList)(cb:s.heap.get? Lt=some { cls:=.type "list",dict:=none,data:=.seq items q,slots:= #[] })(cc:items.size≤9)
  (ch:Lt≠env.locals∧Lp≠env.locals∧Lp≠Lt)(hf:s₀.heap.get? Lt=none)
  (hQ:∀s' m' x t q',Fw scT B env s₀ m' s'→m' "cells"=some (.ref Lc)→m' "pieces"=some (.ref Lp)→m' "texts"=some (.ref Lt)→bC x→s'.heap.get? Lt=some { cls:=.type "list",dict:=none,data:=.seq (items.push (.str x t)) q',slots:= #[] }→
   (∀b o,b≠Lt→b≠env.locals→s.heap.get? b=some o→s'.heap.get? b=some o)→Q .next s'):
  wpAny (model prog w) A (execs qe env) Q E s:=by
 refine xAA ch fun b6 ci dv=>?_
 obtain⟨c,tc,hc,d1,d2⟩:∃c t,cs[i%4]?=some (Dm c t)∧0≤c∧c<1000000:=by
  have Z:i%4<cs.toList.length:=by refine(ir Eb)▸(ir c5)▸?_;exact Il _ (by decide)
  refine aL (c6 _ (H0 Z)) fun c0 t0 e0 h=>?_;exact⟨c0,t0,by rw[←E6,EA Z,e0],h⟩
 have O:(i:Int).fmod 4=((i%4:Nat):Int):=by
  rw[GE _ (by decide)];rfl
 have a9:(i:Int).fdiv 4=((i/4:Nat):Int):=by
  rw[HF _ (by decide)];rfl
 obtain d3:∀(s':Shared) m',Fw scT B env s₀ m' s'→s'.heap.IsList Lc cs:=fun s' m' f'=>c4.at fun o e=>f'.call.keep _ o e;refine csA ?_ (by rfl);refine EO ?_;refine EO ?_;refine FC ?_;refine f.name rfl b3 ?_;refine EO ?_;refine f.name rfl b5 (Dj (JB (by decide) ?_));refine(ir O)▸?_;have f1:=f.tok (t:=s.toks+1+1);refine eO (d3 _ _ f1) (by exact o6 O) (by lia -abstractProof) (by rw[EC];exact hc) ?_ rfl;refine Dj (JD (by decide) ?_ (.inl (GT (by decide))));refine EO (Dj ?_);have f2:=(f1.tok (t:=s.toks+1+1+1+1+1))
 refine EO ?_;refine f2.name rfl b5 (Dj (JD (by decide) ?_ (.inl (GT (by decide)))));refine(ir a9)▸?_;obtain Z:i/4≤2:=by lia -abstractProof
 obtain d4:(16:Int) ^ ((i/4:Nat):Int).toNat=16 ^ (i/4):=by rw[EC]
 obtain a0:((16:Int) ^ (i/4)).natAbs≤256:=by
  have:i/4=0∨i/4=1∨i/4=2:=by exact o24 hi O a9 Z
  rcases this with h|h|h<;>rw[h]<;>decide
 obtain a8:(0:Int)<16 ^ (i/4):=Int.pow_pos (by decide);refine pow_int (Fa _) ?_ ?_
 ·have:(FM 16:Int)=5:=by decide
  refine(ir this)▸?_;lia -abstractProof
 refine(ir d4)▸?_;refine JD (Int.ne_of_gt a8) ?_ (.inl (GT (by exact CH a0)));refine xA (qf d1 d2 i) fun b7 be=>?_;generalize (c.fdiv 105).fdiv (16 ^ (i/4))=r at b7 be⊢;obtain f3:=(f2.tok (t:=s.toks+1+1+1+1+1+1+1+1+1))
 refine f3.putS rfl fun s4 f4 al=>?_;have mr:∀y v,y≠("rest":Str)→m y=v→upd m "rest" (.int r (s.toks+1+1+1+1+1+1+1+1)) y=v:=fun y v h e=>ah h e;have V:s4.heap.get? Lt=some { cls:=.type "list",dict:=none,data:=.seq items q,slots:= #[] }:=(al.2 Lt b6).trans cb;obtain bk:s4.heap.IsList Lp ps:=c7.at fun o e=>(al.2 Lp ci).trans e
 have bx:r.fmod 16=((r.toNat%16:Nat):Int):=by
  rw[GE _ (by decide)];lia -abstractProof
 have fin:∀(x:Str) (t:Tok) (s5:Shared) (H:Fw scT B env s₀ (upd m "rest" (.int r (s.toks+1+1+1+1+1+1+1+1))) s5),s5.heap=s4.heap→bC x→wpAny (model prog w) A (call (.builtin "list.append") [.ref Lt,.str x t]) (fun v s'=>Q .next s') E s5:=by
  intro x t s5 H h5 hx;refine qd (by rw[h5];exact V) (by exact CJ cc) fun h' q' d5 c1=>?_;refine hQ _ _ x t q' (H.own (t:=s5.toks) hf b6 c1) (mr _ _ (by decide) b3) (mr _ _ (by decide) b4) (mr _ _ (by decide) ag) hx d5 fun b o hb d6 e=>c1 b o hb ?_;refine(ir h5)▸?_;exact(al.2 b d6).trans e
 refine csI (DI ?_ rfl);refine EO ?_;refine f4.name rfl ar (Dj (JB (by decide) ?_));refine(ir bx)▸?_;refine Dj (P.eq_int ?_);refine DJ ?_;have H:=f4.tok (t:=s4.toks+1+1+1);by_cases b1:r.toNat%16=15
 ·refine(ir (show((((r.toNat%16:Nat):Int))==15)=true from by rw[b1];rfl))▸?_;refine csE ?_ (by unfold DS;refine(ir H.kind)▸?_;rfl) rfl;refine Dk rfl rfl rfl ?_;refine H.name rfl (mr _ _ (by decide) ag) ?_;refine xN V EW Gk ?_;refine cw1 ?_;refine il (H.glob G rfl b2 ?_);refine cw1 ?_;refine EO (Dj ?_);refine(H.tok (t:=s4.toks+1+1+1+1)).name rfl ar (P.add_int ?_);refine P.chr_of_int (by simp;exact Cn b7 be) ?_;refine Dn (fin _ _ _ (H.tok (t:=s4.toks+1+1+1+1+1+1)) rfl (.inr ⟨(32+r).toNat,by lia -abstractProof,by lia -abstractProof,by lia -abstractProof,rfl⟩)) (fun v s' hq=>?_) fun J J e=>e;exact C7 (C7 hq)
 ·refine(ir (show((((r.toNat%16:Nat):Int))==15)=false from by rw[beq_eq_false_iff_ne];exact Cb b1))▸?_;obtain c2:pieces.length=15:=rfl;obtain c3:r.toNat%16<pieces.length:=by refine(ir c2)▸?_;exact o96 b1
  obtain⟨x,hx⟩:∃x,pieces[r.toNat%16]?=some x:=⟨_,EA c3⟩
  refine gX (ca.get hx) fun v hv tx d7=>?_;subst d7;refine csE ?_ (by unfold DS;refine(ir H.kind)▸?_;rfl) rfl;refine Dk rfl rfl rfl ?_;refine H.name rfl (mr _ _ (by decide) ag) ?_;refine xN V EW Gk ?_;refine cw1 ?_;refine FC ?_;refine H.name rfl (mr _ _ (by decide) b4) ?_;refine EO ?_;refine H.name rfl ar (Dj (JB (by decide) ?_));refine(ir bx)▸?_;refine eO bk (by exact B5) (by lia -abstractProof) (by rw[EC,←E6];exact hv) ?_ rfl;refine Dn (fin _ _ _ (H.tok (t:=s4.toks+1+1+1+1+1)) rfl (.inl (C6 hx))) (fun v s' hq=>?_) fun J J e=>e;exact C7 (C7 hq)
end
section
variable {prog:C9}{w:World}{A:Dq}{E:Value→Shared→Prop}{s:Shared}{B:Fix}{θ:Th}{n:Nat}{sc:Scope}
structure TxL (B:Fix)(env:Env)(s₀:Shared)(Lc Lp Lt I:Addr)(ps:Array Value)(i:Nat)(s:Shared):Prop where
 ex:∃m items q,Fw scT B env s₀ m s∧m "cells"=some (.ref Lc)∧m "pieces"=some (.ref Lp)∧m "texts"=some (.ref Lt)∧Ie s.heap I (i:Int) ((9:Int)-i) 1∧
  s.heap.get? Lt=some { cls:=.type "list",dict:=none,data:=.seq items q,slots:= #[] }∧(∀v∈items.toList,∃x t,v=Du x t∧bC x)∧items.size=i∧s.heap.IsList Lp ps∧i≤9
theorem qh (G:Glob B)(a9:G.val "chr"=some (.builtin "chr"))(hA:A.handled=none){env:Env}{s₀:Shared}{R:GH→Shared→Prop}{Lc Lp Lt I:Addr}{cs ps:Array Value}{pk:Pos}(h0:TxL B env s₀ Lc Lp Lt I ps 0 s)
  (b7:s₀.heap.IsList Lc cs)(be:cs.size=4)(bk:∀v∈cs.toList,∃c t,v=Dm c t∧0≤c∧c<1000000)
  (bx:All2 (fun x v=>∃t,v=Du x t) pieces ps.toList)
  (J:Lt≠env.locals∧Lp≠env.locals∧Lp≠Lt)(hf:s₀.heap.get? Lt=none)(hI:s₀.heap.get? I=none)(O:I≠env.locals)(a8:I≠Lt)(ag:I≠Lp)
  (hR:∀s' m items q,Fw scT B env s₀ m s'→m "texts"=some (.ref Lt)→s'.heap.get? Lt=some { cls:=.type "list",dict:=none,data:=.seq items q,slots:= #[] }→(∀v∈items.toList,∃x t,v=Du x t∧bC x)→items.size=9→R (.ok .next) s'):
  Fb (model prog w) A (.forLoop (.Name "k" pk) (.ref I) qe [] env) R s:=by
 refine zt (fun k s'=>∃i,TxL B env s₀ Lc Lp Lt I ps i s'∧k=9-i) (fun s'=>R (.ok .next) s') (fun _ z=>z) 9 ⟨0,h0,rfl⟩ (fun _=>rfl) ?_;intro k s' Q' E' al hq;refine xEA al fun i c0 c1=>?_;refine fD c0.ex fun m items q f hc hp ht c2=>?_;refine vd c2 fun b1 b2 a0 H b3 hi=>?_;clear al;by_cases h9:i=9
 ·subst h9;exact IA hA b1 (by exact CP) fun h' hx=>hR _ m items q (f.own (t:=s'.toks) hI O hx) ht (hx _ _ a8.symm b2) a0 H
 ·refine Is b1 (by exact Ck H hi h9) fun h' b4 V=>?_;obtain f1:Fw scT B env s₀ m { s' with heap:=h',toks:=s'.toks+1 }:=f.own hI O fun b o hb e=>(V.2 b hb).trans e;refine Ea ?_;refine f1.putS rfl fun s2 f2 Z=>?_
  refine qg (Lp:=Lp) (Lt:=Lt) (Lc:=Lc) (ps:=ps) (items:=items) (q:=q) G a9 f2 (by exact Cp H hi h9) (ah (by decide) hc) (ah (by decide) hp) (ah (by decide) ht) ar b7 be bk (b3.at fun o e=>(Z.2 Lp J.2.1).trans ((V.2 Lp ag.symm).trans e)) bx
   ((Z.2 Lt J.1).trans ((V.2 Lt a8.symm).trans b2)) (by exact CF H hi) J hf fun s3 m3 x t q' f3 c3 c4 c5 hx b5 b6=>?_
  refine hq (9-(i+1)) _ (by rw[c1];exact o27 H hi h9) ⟨i+1,⟨m3,_,q',f3,c3,c4,c5,?_,b5,?_,by simp[H],?_,by exact Cj H hi h9⟩,rfl⟩
  ·have:=b6 I _ a8 O ((Z.2 I O).trans b4);rw[show((i:Int)+1)=((i+1:Nat):Int) by exact o83,show((9:Int)-i-1)=9-((i+1:Nat):Int) by exact Cz]at this;exact this
  ·intro v hv;rw[G3]at hv;rcases Eo.mp hv with h|h
   ·exact a0 v h
   ·exact dG x t (by simpa using h) hx
  ·exact b3.at fun o e=>b6 Lp o J.2.2 J.2.1 ((Z.2 Lp J.2.1).trans ((V.2 Lp ag.symm).trans e))
noncomputable def kN:List Expr→Option (List Str)
 |[]=>some []
 |e::r=>match sv e with
  |some x=>match kN r with
   |some l=>some (x::l)
   |none=>none
  |none=>none
theorem kO {env:Env}{pos:Pos}{Q:List Value→Shared→Prop}:(es:List Expr)→(xs:List Str)→kN es=some xs→(s:Shared)→(∀us t,All2 (fun x v=>∃t,v=Du x t) xs us→Q us { s with toks:=t })→
  wpAny (model prog w) A (Ke (EN pos (D6 es env))) Q E s
 |[],_,e,s,h=>by injection e with e;subst e;exact Dp (h [] s.toks .nil)
 |x::r,xs,e,s,h=>by
  unfold kN at e;refine cz (sv x) (fun h1=>?_) fun a h1=>?_
  ·rw[h1]at e;contradiction
  rw[h1]at e;refine cz (kN r) (fun h2=>?_) fun l h2=>?_
  ·rw[h2]at e;contradiction
  rw[h2]at e;injection e with e;subst e;refine xEE (fE h1) fun k p e1=>?_;clear h1;subst e1;rw[aF (by intro _ _ h;contradiction)];refine C8 (wpAny_Constant_str ?_);exact kO r l h2 _ fun us H G=>h _ H (.cons ⟨_,rfl⟩ G)
noncomputable def BD:List Expr:=match (aa (ac 17)).body with
 |.Assign _ (.List es _) _::_=>es
 |_=>[]
theorem tH:kN BD=some pieces:=rfl
theorem ww:∃es V Z p3 p4 p5 p6 p7 p8 p9 G H J O x1,kN es=some pieces∧(aa (ac 17)).body=[.Assign [.Name "pieces" V] (.List es Z) p3,.Assign [.Name "texts" p4] (.List [] p5) p6,.For (.Name "k" p7) (.Call (.Name "range" p8) [.Constant (.int 9) x1 p9] [] G) qe [] H,.Return (some (.Name "texts" J)) O]:=⟨BD,_,_,_,_,_,_,_,_,_,_,_,_,_,_,tH,rfl⟩
theorem qi (G:Glob B)(a8:G.val "chr"=some (.builtin "chr"))(a9:G.val "range"=some (.type "range"))(hA:A.handled=none){env:Env}{s₀:Shared}{m:Str→Option Value}{Lc:Addr}{cs:Array Value}{Q:Flow→Shared→Prop}(f:Fw scT B env s₀ m s)
  (hm:m "cells"=some (.ref Lc))(bx:s₀.heap.IsList Lc cs)(c0:cs.size=4)(c3:∀v∈cs.toList,∃c t,v=Dm c t∧0≤c∧c<1000000)
  (hQ:∀s' D items q m',Fw scT B env s₀ m' s'→s₀.heap.get? D=none→s'.heap.get? D=some { cls:=.type "list",dict:=none,data:=.seq items q,slots:= #[] }→(∀v∈items.toList,∃x t,v=Du x t∧bC x)→items.size=9→Q (.ret (.ref D)) s'):
  wpAny (model prog w) A (execs (aa (ac 17)).body env) Q E s:=by
 obtain⟨es,p1,p2,p3,p4,p5,p6,p7,p8,p9,d1,d2,d3,d4,x1,c4,eq⟩:=ww;rw[eq];refine csA ?_ (by rfl);refine wb3 ?_;refine kO _ pieces c4 _ fun us t ag=>?_;obtain al:us.length=15:=ag.length.symm.trans rfl;refine EK ?_ (by rw[al,Di];decide)
 have H:∀{x:Addr},s.heap.objs.size≤x→s₀.heap.get? x=none∧x≠env.locals:=fun{x} hx=>by
  refine⟨?_,fun q=>?_⟩
  ·cases h:s₀.heap.get? x with
   |none=>rfl
   |some o=>exact absurd (rl (f.call.keep _ _ h)) (FS.mpr hx)
  ·have:=f.call.ns.lt;rw[←q]at this;exact absurd this (FS.mpr hx)
 obtain f1:=f.go (t:=t) (h':=s.heap.push { cls:=.type "list",data:=.seq us.toArray }) fun b o e=>mc _ e;obtain c5:(s.heap.push { cls:=.type "list",data:=.seq us.toArray }).get? s.heap.objs.size=some { cls:=.type "list",data:=.seq us.toArray }:=rh _ rfl;refine f1.putS rfl fun s2 f2 c6=>?_;refine xA (H (DK s.heap.objs.size)) fun a1 a2=>?_;have b3:=(c6.2 _ a2).trans c5;refine csA ?_ (by rfl);refine wb3 ?_;refine Dp ?_;refine EK ?_ (by rw[Di];decide);have V:s.heap.objs.size<s2.heap.objs.size:=rl b3;refine xA (H (D9 V)) fun b1 b2=>?_;obtain f3:=f2.go (t:=s2.toks) (h':=s2.heap.push { cls:=.type "list",data:=.seq #[] }) fun b o e=>mc _ e;obtain c7:(s2.heap.push { cls:=.type "list",data:=.seq #[] }).get? s2.heap.objs.size=some { cls:=.type "list",data:=.seq #[] }:=rh _ rfl;obtain ca:(s2.heap.push { cls:=.type "list",data:=.seq #[] }).get? s.heap.objs.size=some { cls:=.type "list",data:=.seq us.toArray }:=mc _ b3;refine f3.putS rfl fun s4 f4 b4=>?_;have b5:=(b4.2 _ b2).trans c7;obtain cb:=(b4.2 _ a2).trans ca;refine DL ?_;refine I0 ?_ (fun J=>rfl);refine il (f4.glob G rfl a9 ?_);refine ct1 (Dj ?_);refine Lk ?_;have a0:s2.heap.objs.size<s4.heap.objs.size:=rl b5;refine Jo (IsRange.new ..) (by rfl) ?_;dsimp only;have b6:∀b o,s4.heap.get? b=some o→(s4.heap.push { cls:=.type "range",data:=.fields #[Dm 0 (s4.toks+1),.int 9 s4.toks,.int 1 (s4.toks+1+1)] }).get? b=some o:=fun b o e=>mc _ e;have b7:(s4.heap.push { cls:=.type "range",data:=.fields #[Dm 0 (s4.toks+1),.int 9 s4.toks,.int 1 (s4.toks+1+1)] }).objs.size=s4.heap.objs.size+1:=Eh ..;generalize s4.heap.push { cls:=.type "range",data:=.fields #[Dm 0 (s4.toks+1),.int 9 s4.toks,.int 1 (s4.toks+1+1)] }=h5 at b6 b7⊢;have be:(h5.push { cls:=.type "range_iterator",data:=.fields #[DE 0,DE (Ee 0 9 1),DE 1] }).get? h5.objs.size=some { cls:=.type "range_iterator",data:=.fields #[DE 0,DE (Ee 0 9 1),DE 1] }:=rh _ rfl;have Z:∀b o,s4.heap.get? b=some o→(h5.push { cls:=.type "range_iterator",data:=.fields #[DE 0,DE (Ee 0 9 1),DE 1] }).get? b=some o:=fun b o e=>mc _ (b6 b o e);generalize h5.push { cls:=.type "range_iterator",data:=.fields #[DE 0,DE (Ee 0 9 1),DE 1] }=h6 at be Z⊢;have O:s4.heap.objs.size<h5.objs.size:=by rw[b7];exact DV _
 refine xA (H (D9 (DW V (DW a0 O)))) fun c1 c2=>?_;obtain f6:=f4.go (t:=s4.toks+1+1+1) Z
 refine qh (Lp:=s.heap.objs.size) (Lt:=s2.heap.objs.size) (Lc:=Lc) (ps:=us.toArray) (s₀:=s₀) G a8 hA ⟨⟨_,_,_,f6,ah (by decide) (ah (by decide) hm),ah (by decide) ar,ar,be,Z _ _ b5,(fun v hv=>by cases hv),rfl,⟨_,Z _ _ cb,rfl,_,rfl⟩,by decide⟩⟩ bx c0 c3 ag
  ⟨b2,a2,Dh V⟩ b1 c1 c2 (Dl (DW a0 O)) (Dl (DW V (DW a0 O))) fun s7 m7 items q f7 cc ch bk ci=>?_
 refine csR ?_;refine f7.name rfl cc ?_;exact hQ _ _ _ _ m7 f7 b1 ch bk ci
end
section
variable {prog:C9}{w:World}{A:Dq}{E:Value→Shared→Prop}{s:Shared}{B:Fix}{n:Nat}
theorem Room.deeper (h:Room (n+1) A)(env:Env):Room n (A.deeper env):=⟨h.1,by have:=h.2.1;show A.depth+1+n+20<_;exact o62 this,by have:=h.2.2;show A.units+3+8*n+60<_;exact o25 this⟩
set_option backward.match.sparseCases true in
noncomputable def qj (Q:Value→Shared→Prop):Flow→Shared→Prop:=fun r s'=>Q (match r with|.ret v=>v|_=>.none) s'
theorem qk (G:Glob B)(O:G.val "enumerate"=some (.type "enumerate")){a:Addr}(F:aY B a (aD (ac 16)) (aa (ac 16)).body (aa (ac 16)).scope .none)(H:Room (n+1) A)(hb:Mine.Lake.Keeps B s.heap)(a8:0<s.toks)
  {Z:Addr}{items:Array Value}{Q:Value→Shared→Prop}(hl:s.heap.IsList Z items)(V:∀v∈items.toList,∃c t,v=Dm c t)(a0:items.size≤1000)
  (hQ:∀s' D cs q,Same s s'→(∀b o,s.heap.get? b=some o→Kept b o (s'.heap.get? b))→s.heap.get? D=none→s'.heap.get? D=some { cls:=.type "list",dict:=none,data:=.seq cs q,slots:= #[] }→cs.size=4→(∀v∈cs.toList,∃c t,v=Dm c t∧0≤c∧c<1000000)→Q (.ref D) s'):
  wpAny (model prog w) A (call (.ref a) [.ref Z]) Q E s:=by
 refine bW G F hb (by have:=H.2.1;exact o1 this) (binds:=[("script",.ref Z)]) (fun fd hp hd hkd=>?_) (by decide) (by intro x hx;refine(ir (DD.mp hx))▸?_;rfl) fun J s₁ E' f ht=>?_
 ·cases fd;dsimp only at hp hd hkd;subst hp hd hkd;exact FP (by rfl)
 ·refine qa (A:=A.deeper J) (Q:=qj Q) (n:=n) G O H.1 (Room.deeper H J) f (by refine(ir ht)▸?_;exact DT _) rfl (hl.at fun o e=>f.call.keep _ o e) V a0 fun s' D cs q h1 h2 h3 h4 h5 h6=>hQ s' D cs q h1 h2 h3 h4 h5 h6
theorem ql (G:Glob B)(O:G.val "chr"=some (.builtin "chr"))(V:G.val "range"=some (.type "range")){a:Addr}(F:aY B a (aD (ac 17)) (aa (ac 17)).body (aa (ac 17)).scope .none)(J:Room (n+1) A)(hb:Mine.Lake.Keeps B s.heap)
  {Lc:Addr}{cs:Array Value}{Q:Value→Shared→Prop}(a0:s.heap.IsList Lc cs)(a8:cs.size=4)(a9:∀v∈cs.toList,∃c t,v=Dm c t∧0≤c∧c<1000000)
  (hQ:∀h' t D items q,(∀b o,s.heap.get? b=some o→h'.get? b=some o)→s.heap.get? D=none→h'.get? D=some { cls:=.type "list",dict:=none,data:=.seq items q,slots:= #[] }→(∀v∈items.toList,∃x t,v=Du x t∧bC x)→items.size=9→Q (.ref D) { s with heap:=h',toks:=t }):
  wpAny (model prog w) A (call (.ref a) [.ref Lc]) Q E s:=by
 obtain⟨bd,Z⟩:∃bd,bd=(aa (ac 17)).body:=⟨_,rfl⟩
 rw[←Z]at F;refine bW G F hb (by have:=J.2.1;exact o1 this) (binds:=[("cells",.ref Lc)]) (fun fd hp hd hkd=>?_) (by decide) (by intro x hx;refine(ir (DD.mp hx))▸?_;rfl) fun H s₁ E' f ht=>?_
 ·cases fd;dsimp only at hp hd hkd;subst hp hd hkd;exact FP (by rfl)
 ·have hf:Fw scT B H s (fun x=>GV x [(("cells":Str),D7 Lc)].reverse) s₁:=f;clear f;have ag:(A.deeper H).handled=none:=J.1
  have key:= @qi prog w (A.deeper H) E' s₁ B G O V ag H s _ Lc cs (qj Q) hf rfl a0 a8 a9 (fun s' D items q m' f' h1 h2 h3 h4=>by
   refine xEE f'.call.same fun h' t e=>?_;have hk:=f'.call.keep;rw[e]at h2 hk⊢;exact hQ h' t D items q hk h1 h2 h3 h4)
  rw[←Z]at key;exact key
end
structure Fo (sc:Scope)(B:Fix)(env:Env)(own:List Addr)(s₀:Shared)(m:Str→Option Value)(s:Shared):Prop where
 ns:s.heap.Ns env.locals m
 same:Same s₀ s
 keep:∀b o,b∉own→s₀.heap.get? b=some o→s.heap.get? b=some o
 fresh:s₀.heap.objs.size≤env.locals
 scp:env.scope=sc
 gl:env.globals=B.g
 bu:env.builtins=B.b
 base:Mine.Lake.Keeps B s₀.heap
 fn:sc.kind=.function
 nc:env.cells=[]
 bown:∀a∈own,B.base a=none
section
variable {prog:C9}{w:World}{A:Dq}{E:Value→Shared→Prop}{s₀ s:Shared}{sc:Scope}{B:Fix}{env:Env}{m:Str→Option Value}{own:List Addr}
theorem Fw.toFo (f:Fw sc B env s₀ m s)(hb:∀a∈own,B.base a=none):Fo sc B env own s₀ m s:=by
 refine⟨f.call.ns,?_,fun b o J e=>f.call.keep b o e,f.call.fresh,f.scp,f.gl,f.bu,f.base,f.fn,f.nc,hb⟩;refine xEE f.call.same fun h' G e=>?_;refine(ir e)▸?_;exact yAA rfl rfl id
namespace Fo
theorem keeps (f:Fo sc B env own s₀ m s):Mine.Lake.Keeps B s.heap:=fun a o e=>f.keep a o (fun q=>by rw[f.bown a q]at e;contradiction) (f.base a o e)
theorem kind (f:Fo sc B env own s₀ m s):env.scope.kind=.function:=by rw[f.scp,f.fn]
theorem kindOf (f:Fo sc B env own s₀ m s)(x:Str):env.kindOf x=sc.names.lookup x:=by unfold Io;rw[f.scp]
theorem name {x:Str}{p:Pos}{v:Value}{Q:Value→Shared→Prop}(f:Fo sc B env own s₀ m s)(hl:sc.names.lookup x=some .local)(G:m x=some v)(q:Q v s)(hd:(x==("__debug__":Str))=false:=by decide):
  wpAny (model prog w) A (eval (.Name x p) env) Q E s:=FZ (Ex f.kind (by rw[f.kindOf,hl]) f.ns G q) hd
theorem glob (G:Glob B){x:Str}{p:Pos}{v:Value}{Q:Value→Shared→Prop}(f:Fo sc B env own s₀ m s)(hl:sc.names.lookup x=some .globalImplicit)(H:G.val x=some v)(q:Q v s)(hd:(x==("__debug__":Str))=false:=by decide):
  wpAny (model prog w) A (eval (.Name x p) env) Q E s:=by
 refine xAA (G.look s.heap f.keeps) fun hg hb J=>?_;refine FG f.kind (by rw[f.kindOf,hl]) ?_ hd;unfold Glob.val at H;refine cK (G.gm x) (fun u O=>?_) fun O=>?_
 ·rw[O]at H;injection H with H;subst H;exact FW (by refine(ir f.gl)▸?_;exact hg) O q
 ·rw[O]at H;exact FR (by refine(ir f.gl)▸?_;exact hg) O (by refine(ir f.bu)▸?_;exact hb) H q
theorem notOwn (f:Fo sc B env own s₀ m s)(G:∀a∈own,∃o,s₀.heap.get? a=some o):env.locals∉own:=fun h=>by
 refine xE (G _ h) fun o e=>?_;exact absurd (rl e) (FS.mpr f.fresh)
theorem putS {x:Str}{v:Value}{Q:Unit→Shared→Prop}(f:Fo sc B env own s₀ m s)(hl:sc.names.lookup x=some .local)(q:∀s',Fo sc B env own s₀ (upd m x v) s'→E3 env.locals s.heap s'.heap→Q () s'):
  wpAny (model prog w) A (FL env x v) Q E s:=by
 refine Ec (by rw[f.kindOf,hl]) f.ns (fun h' H G=>q _ ⟨H,?_,fun b o hb e=>?_,f.fresh,f.scp,f.gl,f.bu,f.base,f.fn,f.nc,f.bown⟩ G) (by rw[f.kind];rfl)
 ·exact f.same.trans ⟨rfl,rfl,id⟩
 ·exact G.extBut b o (Dh (De (rl e) f.fresh)) (f.keep b o hb e)
theorem move (f:Fo sc B env own s₀ m s){s':Shared}(hs:Same s s')(H:env.locals∉own)(G:∀b o,b∉own→s.heap.get? b=some o→s'.heap.get? b=some o):Fo sc B env own s₀ m s':=
 ⟨f.ns.at' fun o e=>G _ o H e,f.same.trans hs,fun b o hb e=>G b o hb (f.keep b o hb e),f.fresh,f.scp,f.gl,f.bu,f.base,f.fn,f.nc,f.bown⟩
theorem tok (f:Fo sc B env own s₀ m s){t:Nat}:Fo sc B env own s₀ m { s with toks:=t }:=
 ⟨f.ns,f.same.trans ⟨rfl,rfl,id⟩,f.keep,f.fresh,f.scp,f.gl,f.bu,f.base,f.fn,f.nc,f.bown⟩
theorem go (f:Fo sc B env own s₀ m s){h':Heap}{t:Nat}(G:∀b o,s.heap.get? b=some o→h'.get? b=some o):Fo sc B env own s₀ m { s with heap:=h',toks:=t }:=
 ⟨f.ns.keeps G,f.same.trans ⟨rfl,rfl,id⟩,fun b o hb e=>G b o (f.keep b o hb e),f.fresh,f.scp,f.gl,f.bu,f.base,f.fn,f.nc,f.bown⟩
end Fo
end
noncomputable def aI:List Str:=["_write","_data","_with_comments","_strip_text","_exclude_attrs","_exclude_tags","_rewrite_prefixes","_qname_aware_tags","_find_qname_aware_attrs","_declared_ns_stack","_ns_stack","_prefix_map","_preserve_space","_pending_start","_root_seen","_root_done","_ignored_depth"]
structure aV (B:Fix)(C:Addr)(mN:Str→Option Value):Prop where
 obj:∃nm q N bs sn sub col dd k0 k1 k2 k3 k5,B.base C=some (IW nm q C N bs [.type "object"] true sn sub false col dd k0 k1 k2 k3 k5 "object.__new__")∧∀h,Mine.Lake.Keeps B h→h.Ns N mN
 hng:mN "__getattribute__"=none
 hnh:mN "__getattr__"=none
 hns:mN "__setattr__"=none
 hna:∀x∈aI,mN x=none
structure WK where
 x:Addr
 dx:Addr
 ld:Addr
 lds:Addr
 lns:Addr
 lps:Addr
 lp:Addr
 wr:Value
 pos:Pos
 qual:Str
noncomputable def WK.own (K:WK):List Addr:=[K.x,K.dx,K.ld,K.lds,K.lns,K.lps,K.lp,am]
structure Wst where
 parts:List Str
 data:List Str
 ds:List Addr
 root:Bool
 np:Nat
 nn:Nat
structure bI (K:WK)(root:Bool)(mA:Str→Option Value):Prop where
 write:mA "_write"=some K.wr
 data:mA "_data"=some (.ref K.ld)
 strip:mA "_strip_text"=some (.bool false)
 exa:mA "_exclude_attrs"=some .none
 ext:mA "_exclude_tags"=some .none
 rew:mA "_rewrite_prefixes"=some (.bool false)
 qat:mA "_qname_aware_tags"=some .none
 fqa:mA "_find_qname_aware_attrs"=some .none
 decl:mA "_declared_ns_stack"=some (.ref K.lds)
 nss:mA "_ns_stack"=some (.ref K.lns)
 psp:mA "_preserve_space"=some (.ref K.lps)
 pend:mA "_pending_start"=some .none
 root:mA "_root_seen"=some (.bool root)
 ign:∃t,mA "_ignored_depth"=some (.int 0 t)
noncomputable def IsL (h:Heap) (a:Addr) (items:Array Value):Prop:=∃q,h.get? a=some { cls:=.type "list",dict:=none,data:=.seq items q,slots:= #[] }
noncomputable def StrsAt (h:Heap) (a:Addr) (xs:List Str):Prop:=∃us:List Value,IsL h a us.toArray∧All2 (fun x v=>∃t,v=Du x t) xs us
structure WI (C:Addr)(K:WK)(σ:Wst)(h:Heap):Prop where
 inst:∃mA,h.Inst K.x C mA∧Within mA aI∧bI K σ.root mA
 objx:∃o,h.get? K.x=some o∧o.dict=some K.dx
 data:StrsAt h K.ld σ.data
 parts:StrsAt h K.lp σ.parts
 decl:∃l0 t0 u tu y ty,IsL h K.lds (.ref l0::σ.ds.map .ref).toArray∧IsL h l0 #[.ref t0]∧h.IsTuple t0 #[.str u tu,.str y ty]∧u≠DA∧y≠DA∧l0∉K.own∧t0∉K.own
 ds:∀d∈σ.ds,IsL h d #[]∧d∉K.own
 ns:∃items,IsL h K.lns items∧items.size=σ.nn
 ps:∃items:Array Value,IsL h K.lps items∧items.size=σ.np∧∀v∈items.toList,v=.bool false
 nodup:K.own.Nodup
 tab:∃ps,h.get? am=some (cM ps)∧(ps= #[]∨∃c',ps= #[DE K.pos.line,DE K.pos.col,.ref c']∧c'∉K.own∧h.CodeRec (.ref c') K.qual)
 wr:∃aw,K.wr=.ref aw∧aw∉K.own
theorem WK.at_ne {K:WK}(B:K.own.Nodup){i j:Nat}{a b:Addr}(hi:K.own[i]?=some a)(hj:K.own[j]?=some b)(h:i≠j):a≠b:=fun e=>h (dq B hi (e▸hj))
section
variable {K:WK}
theorem WK.mx:K.x∈K.own:=.head _
theorem WK.mdx:K.dx∈K.own:=.tail _ (.head _)
theorem WK.mld:K.ld∈K.own:=.tail _ (.tail _ (.head _))
theorem WK.mlds:K.lds∈K.own:=.tail _ (.tail _ (.tail _ (.head _)))
theorem WK.mlns:K.lns∈K.own:=.tail _ (.tail _ (.tail _ (.tail _ (.head _))))
theorem WK.mlps:K.lps∈K.own:=.tail _ (.tail _ (.tail _ (.tail _ (.tail _ (.head _)))))
theorem WK.mlp:K.lp∈K.own:=.tail _ (.tail _ (.tail _ (.tail _ (.tail _ (.tail _ (.head _))))))
theorem WK.mt:am∈K.own:=.tail _ (.tail _ (.tail _ (.tail _ (.tail _ (.tail _ (.tail _ (.head _)))))))
theorem WK.each {P:Addr→Prop}{a:Addr}(B:a∈K.own)(G:P K.x)(h1:P K.dx)(h2:P K.ld)(h3:P K.lds)(h4:P K.lns)(H:P K.lps)(O:P K.lp)(V:P am):P a:=
 have c:∀{b:Addr} {l:List Addr},P b→(∀a∈l,P a)→∀a∈b::l,P a:=fun hb hl a B=>(Da.mp B).elim (fun e=>e▸hb) (hl a)
 c G (c h1 (c h2 (c h3 (c h4 (c H (c O (c V fun J h=>(Dr h).elim))))))) a B
theorem WK.out {a:Addr}(B:a≠K.x)(h1:a≠K.dx)(h2:a≠K.ld)(h3:a≠K.lds)(h4:a≠K.lns)(G:a≠K.lps)(H:a≠K.lp)(J:a≠am):a∉K.own:=fun O=>WK.each (P:=fun b=>a≠b) O B h1 h2 h3 h4 G H J rfl
variable {C:Addr}{σ:Wst}{h h':Heap}
theorem WI.instTo (W:WI C K σ h)(O:∀b o,b=K.x∨b=K.dx→h.get? b=some o→h'.get? b=some o):(∃B,h'.Inst K.x C B∧Within B aI∧bI K σ.root B)∧∃o,h'.get? K.x=some o∧o.dict=some K.dx:=by
 refine aQ W.inst fun B H hw ha=>?_;refine da H fun o V hc hn hd=>?_;refine xEA W.objx fun Z J G=>?_;obtain rfl:=Dd (J.symm.trans V);have hx:=O _ _ (.inl rfl) V;refine⟨⟨B,⟨Z,hx,hc,hn,hd.imp id fun z=>?_⟩,hw,ha⟩,Z,hx,G⟩;refine aQ z fun d h1 h2 h3=>?_;refine bq h3 fun oD es ep e1 e2=>?_;have e:d=K.dx:=Dd (h1.symm.trans G);exact⟨d,h1,h2,oD,es,ep,O _ _ (.inr e) e1,e2⟩
theorem qm {c:Addr}{q:Str}(H:∀o B,o.data=.fields B→h.get? c=some o→h'.get? c=some o)(x:h.CodeRec (.ref c) q):h'.CodeRec (.ref c) q:=by
 refine iO x fun V o B t e3 J G O=>?_;injection e3 with e3;subst e3;exact⟨c,o,B,t,rfl,H o B G J,G,O⟩
theorem WI.tabTo (W:WI C K σ h)(h1:∀o,h.get? am=some o→h'.get? am=some o)(h2:∀c,c∉K.own→h.CodeRec (.ref c) K.qual→h'.CodeRec (.ref c) K.qual):
  ∃ps,h'.get? am=some (cM ps)∧(ps= #[]∨∃B,ps= #[DE K.pos.line,DE K.pos.col,.ref B]∧B∉K.own∧h'.CodeRec (.ref B) K.qual):=
 W.tab.imp fun J z=>⟨h1 _ z.1,z.2.imp id fun z=>z.imp fun c z=>⟨z.1,z.2.1,h2 c z.2.1 z.2.2⟩⟩
theorem WI.declTo (W:WI C K σ h)(h1:∀a items,a=K.lds∨a∉K.own→IsL h a items→IsL h' a items)(h2:∀b o xs n,b∉K.own→o.data=.seq xs n→h.get? b=some o→h'.get? b=some o):
  ∃l0 B u G y ty,IsL h' K.lds (.ref l0::σ.ds.map .ref).toArray∧IsL h' l0 #[.ref B]∧h'.IsTuple B #[.str u G,.str y ty]∧u≠DA∧y≠DA∧l0∉K.own∧B∉K.own:=by
 refine bE W.decl fun l0 B u G y ty e1 e2 e3 O V H J=>?_;refine gJ e3 fun o g c n d=>?_;exact eW l0 B u G y ty (h1 _ _ (.inl rfl) e1) (h1 _ _ (.inr H) e2) ⟨o,h2 _ _ _ _ J d g,c,n,d⟩ O V H J
theorem WI.to (W:WI C K σ h)(B:∀b o,(b∈K.own∨(∃xs n,o.data=.seq xs n)∨∃xs,o.data=.fields xs)→h.get? b=some o→h'.get? b=some o):WI C K σ h':=
 have hl:∀{a items},IsL h a items→IsL h' a items:=fun z=>z.imp fun J e=>B _ _ (.inr (.inl ⟨_,_,rfl⟩)) e;have hs:∀{a xs},StrsAt h a xs→StrsAt h' a xs:=fun z=>z.imp fun J z=>⟨hl z.1,z.2⟩
 have i:=W.instTo fun b o hb=>B b o (.inl (hb.elim (fun e=>e▸WK.mx) fun e=>e▸WK.mdx))
 ⟨i.1,i.2,hs W.data,hs W.parts,W.declTo (fun J J J=>hl) (fun b o J J J d=>B b o (.inr (.inl ⟨_,_,d⟩))),fun d hd=>⟨hl (W.ds d hd).1,(W.ds d hd).2⟩,W.ns.imp fun J z=>⟨hl z.1,z.2⟩,W.ps.imp fun J z=>⟨hl z.1,z.2⟩,W.nodup,
  W.tabTo (fun o=>B _ o (.inl WK.mt)) (fun c J=>qm fun o J e=>B c o (.inr (.inr ⟨_,e⟩))),W.wr⟩
end
section
variable {prog:C9}{w:World}{A:Dq}{E:Value→Shared→Prop}{s:Shared}{B:Fix}{C:Addr}{mN:Str→Option Value}{K:WK}{σ:Wst}
theorem WI.attr (CA:aV B C mN)(hb:Mine.Lake.Keeps B s.heap)(W:WI C K σ s.heap){name:Str}{v:Value}{G:Bool}{Q:Value→Shared→Prop}(O:name∈aI)(V:Dw (.type "object") name=pure none)
  (Z:∀H,bI K σ.root H→H name=some v)(hh:I3 v=pure v)(q:Q v { s with toks:=s.toks+1 }):wpAny (model prog w) A (getAttr (.ref K.x) name G) Q E s:=by
 refine aC CA.obj fun nm qq N bs sn sub col dd k0 k1 k2 k3 k5 hC hn=>?_;refine aQ W.inst fun H I J ha=>?_;exact KW (h:=s.heap) (g:=s.gens) (d:=s.drawn) (t:=s.toks) (os:=s.os) (hb _ _ hC) (hn _ hb) CA.hng (CA.hna _ O) V I (Z H ha) hh q
theorem aM {env:Env}{o:Expr}{name:Str}{G pos:Pos}{args:List Expr}{Q:Value→Shared→Prop}
  (H:Ht o name env (eval o env)=eval o env)
  (Z:((EN pos (D6 args env)).all (fun x=> !x.1)&&(backToKw pos (keywordEach [] env)).all (fun x=>x.1.isSome)
   &&decide (args.length+([]:List I9).length+(if ([]:List I9).isEmpty then 0 else 1)<30))=true)
  (O:(G.endLine==pos.line)=true)
  (h:wpAny (model prog w) A (eval o env) (fun ov s₁=>∀pl,wpAny (model prog w) A (KX ov name pl) (fun r s₂=>wpAny (model prog w) A (Fu pos r.1 r.2 (EN pos (D6 args env)) []) Q E s₂) E s₁) E s):
  wpAny (model prog w) A (eval (.Call (.Attribute o name G) args [] pos) env) Q E s:=by
 rw[arm_eval_Call,H];refine il (Dn h (fun ov s₁ a0=>?_) fun J J e=>e);refine il (Ek ?_);have V:methodCallForm (args.length+([]:List I9).length) (EN pos (D6 args env)) (backToKw pos (keywordEach [] env))=true:=Z;have a8:methodCallPos true o env G pos=pure pos:=by unfold methodCallPos;simp[O]
 unfold methodCall;refine(ir V)▸?_;refine il (Dx (Dn (a0 _) (fun r s₂ a9=>?_) fun J J e=>e));exact il (DU a8 a9)
theorem WI.meth (CA:aV B C mN)(hb:Mine.Lake.Keeps B s.heap)(W:WI C K σ s.heap){name:Str}{f:Addr}{of:Obj}{y:Option Value}{pl:Sem Bool}{Q:Value×List Value→Shared→Prop}(hf:mN name=some (.ref f))(G:B.base f=some of)(H:of.cls=.type "function")
  (O:Dw (.type "object") name=pure y)(J:name∉aI)(q:Q (.ref f,[.ref K.x]) s):wpAny (model prog w) A (KX (.ref K.x) name pl) Q E s:=by
 refine aC CA.obj fun nm qq N bs sn sub col dd k0 k1 k2 k3 k5 hC hn=>?_;refine aQ W.inst fun V I Z ha=>?_;refine method_of (h:=s.heap) (g:=s.gens) (d:=s.drawn) (t:=s.toks) (os:=s.os) (hb _ _ hC) (hn _ hb) CA.hng CA.hnh hf (hb _ _ G) H O I ?_ q
 cases h:V name with
 |none=>rfl
 |some v=>exact absurd (Z name (by refine(ir h)▸?_;exact fun h=>by contradiction)) J
end
section
variable {prog:C9}{w:World}{A:Dq}{E:Value→Shared→Prop}{s:Shared}{B:Fix}{C:Addr}{mN:Str→Option Value}{K:WK}{σ:Wst}
theorem WI.store (CA:aV B C mN)(hb:Mine.Lake.Keeps B s.heap)(W:WI C K σ s.heap){name:Str}{v:Value}{r':Bool}{Q:Unit→Shared→Prop}(O:name∈aI)(hB:Dw (.type "object") name=pure none)(a8:K.x≠C)
  (a9:∀mA,bI K σ.root mA→bI K r' (fun y=>if y=name then some v else mA y))
  (q:∀s',Same s s'→(∀b o,b∉K.own→s.heap.get? b=some o→s'.heap.get? b=some o)→WI C K { σ with root:=r' } s'.heap→Q () s'):wpAny (model prog w) A (Kf (.ref K.x) name v) Q E s:=by
 refine aC CA.obj fun nm qq N bs sn sub col dd k0 k1 k2 k3 k5 hC hn=>?_;refine aQ W.inst fun mA I hw H=>?_;refine xEA W.objx fun ox V Z=>?_;refine store_attr (h:=s.heap) (g:=s.gens) (d:=s.drawn) (t:=s.toks) (os:=s.os) F.store_object (hb _ _ hC) (hn _ hb) CA.hns (CA.hna _ O) hB a8 I (fun h' ag I' hk al=>?_) hw (by decide)
 have keep:∀b o,b≠K.x→b≠K.dx→s.heap.get? b=some o→h'.get? b=some o:=fun b o h1 h2 e=>hk b o h1 (fun b2 dx e0 e1=>by
  obtain rfl:=Dd (V.symm.trans e0);rw[Z]at e1;injection e1 with e1;subst e1;exact h2) e
 have own:∀{a},a∉K.own→a≠K.x∧a≠K.dx:=fun H=>⟨fun q=>H (q▸WK.mx),fun q=>H (q▸WK.mdx)⟩
 have G:∀{i a},K.own[i]?=some a→1<i→a≠K.x∧a≠K.dx:=fun H h=>⟨WK.at_ne W.nodup (j:=0) H rfl (Dl (Nat.lt_of_succ_lt h)),WK.at_ne W.nodup (j:=1) H rfl (Dl h)⟩
 have hl:∀{a items},a≠K.x∧a≠K.dx→IsL s.heap a items→IsL h' a items:=fun z x=>x.imp fun J e=>keep _ _ z.1 z.2 e;have b1:K.lds≠K.x∧K.lds≠K.dx:=G (i:=3) rfl (by decide);refine vf (al ox V) fun o1 e1 J J J e5=>?_
 refine q ⟨h',s.gens,s.drawn,ag,s.os⟩ ⟨rfl,rfl,id⟩ (fun b o a0 e=>keep b o (own a0).1 (own a0).2 e) ⟨⟨_,I',fun y hy=>?_,a9 mA H⟩,⟨o1,e1,e5 _ Z⟩,W.data.imp fun J z=>⟨hl (G (i:=2) rfl (by decide)) z.1,z.2⟩,W.parts.imp fun J z=>⟨hl (G (i:=6) rfl (by decide)) z.1,z.2⟩,
  W.declTo (fun a J hb=>hl (hb.elim (fun e=>e▸b1) own)) (fun b o J J hb J=>keep b o (own hb).1 (own hb).2),fun d hd=>⟨hl (own (W.ds d hd).2) (W.ds d hd).1,(W.ds d hd).2⟩,W.ns.imp fun J z=>⟨hl (G (i:=4) rfl (by decide)) z.1,z.2⟩,W.ps.imp fun J z=>⟨hl (G (i:=5) rfl (by decide)) z.1,z.2⟩,W.nodup,
  W.tabTo (fun o=>keep _ o (G (i:=7) rfl (by decide)).1 (G (i:=7) rfl (by decide)).2) (fun c hc=>qm fun o J J=>keep c o (own hc).1 (own hc).2),W.wr⟩
 by_cases e:y=name
 ·refine(ir e)▸?_;exact O
 ·exact hw y (by simpa [e] using hy)
end
section
variable {C:Addr}{K:WK}{σ:Wst}{h h':Heap}
theorem IsL.stay {a b:Addr}{items:Array Value}(B:∀b o,b≠a→h.get? b=some o→h'.get? b=some o)(hb:b≠a)(x:IsL h b items):IsL h' b items:=x.imp fun J e=>B _ _ hb e
theorem StrsAt.stay {a b:Addr}{xs:List Str}(B:∀b o,b≠a→h.get? b=some o→h'.get? b=some o)(hb:b≠a)(x:StrsAt h b xs):StrsAt h' b xs:=x.imp fun J z=>⟨z.1.stay B hb,z.2⟩
theorem WI.rest (W:WI C K σ h){i:Nat}{a:Addr}(G:K.own[i]?=some a)(hi:1<i)(H:i≠7)(O:∀b o,b≠a→h.get? b=some o→h'.get? b=some o){B:Wst}(Z:B.root=σ.root)
  (h1:StrsAt h' K.ld B.data)(h2:StrsAt h' K.lp B.parts)
  (h3:∃l0 V u tu y ty,IsL h' K.lds (.ref l0::B.ds.map .ref).toArray∧IsL h' l0 #[.ref V]∧h'.IsTuple V #[.str u tu,.str y ty]∧u≠DA∧y≠DA∧l0∉K.own∧V∉K.own)
  (h4:∀d∈B.ds,IsL h' d #[]∧d∉K.own)(h5:∃items,IsL h' K.lns items∧items.size=B.nn)
  (h6:∃items:Array Value,IsL h' K.lps items∧items.size=B.np∧∀v∈items.toList,v=.bool false):WI C K B h':=by
 have i:=W.instTo (h':=h') fun b o hb=>O b o (hb.elim (fun e=>e▸WK.at_ne W.nodup (i:=0) rfl G (Dh (Nat.lt_of_succ_lt hi))) fun e=>e▸WK.at_ne W.nodup (i:=1) rfl G (Dh hi));exact⟨Z▸i.1,i.2,h1,h2,h3,h4,h5,h6,W.nodup,W.tabTo (fun o=>O _ o (WK.at_ne W.nodup (i:=7) rfl G H.symm)) (fun c hc=>qm fun o J J=>O c o fun e=>hc (e▸C6 G)),W.wr⟩
theorem WI.declStay (W:WI C K σ h){a:Addr}(H:a∈K.own)(B:K.lds≠a)(O:∀b o,b≠a→h.get? b=some o→h'.get? b=some o):
  ∃l0 G u V y ty,IsL h' K.lds (.ref l0::σ.ds.map .ref).toArray∧IsL h' l0 #[.ref G]∧h'.IsTuple G #[.str u V,.str y ty]∧u≠DA∧y≠DA∧l0∉K.own∧G∉K.own:=
 W.declTo (fun b J hb x=>x.stay O (hb.elim (fun e=>e▸B) fun e q=>e (q▸H))) fun b o J J hb J=>O b o fun q=>hb (q▸H)
theorem WI.dsStay (W:WI C K σ h){a:Addr}(B:a∈K.own)(G:∀b o,b≠a→h.get? b=some o→h'.get? b=some o):∀d∈σ.ds,IsL h' d #[]∧d∉K.own:=
 fun d hd=>⟨(W.ds d hd).1.stay G (fun q=>(W.ds d hd).2 (q▸B)),(W.ds d hd).2⟩
theorem WI.at_ne (W:WI C K σ h){i j:Nat}{a b:Addr}(hi:K.own[i]?=some a)(hj:K.own[j]?=some b)(e:i≠j):a≠b:=WK.at_ne W.nodup hi hj e
theorem WI.nsStay (W:WI C K σ h){j:Nat}{a:Addr}(hj:K.own[j]?=some a)(e:4≠j)(B:∀b o,b≠a→h.get? b=some o→h'.get? b=some o):∃items,IsL h' K.lns items∧items.size=σ.nn:=
 W.ns.imp fun J z=>⟨z.1.stay B (W.at_ne (i:=4) rfl hj e),z.2⟩
theorem WI.psStay (W:WI C K σ h){j:Nat}{a:Addr}(hj:K.own[j]?=some a)(e:5≠j)(B:∀b o,b≠a→h.get? b=some o→h'.get? b=some o):∃items:Array Value,IsL h' K.lps items∧items.size=σ.np∧∀v∈items.toList,v=.bool false:=
 W.ps.imp fun J z=>⟨z.1.stay B (W.at_ne (i:=5) rfl hj e),z.2⟩
theorem WI.dataStay (W:WI C K σ h){j:Nat}{a:Addr}(hj:K.own[j]?=some a)(e:2≠j)(B:∀b o,b≠a→h.get? b=some o→h'.get? b=some o):StrsAt h' K.ld σ.data:=W.data.stay B (W.at_ne (i:=2) rfl hj e)
theorem WI.partsStay (W:WI C K σ h){j:Nat}{a:Addr}(hj:K.own[j]?=some a)(e:6≠j)(B:∀b o,b≠a→h.get? b=some o→h'.get? b=some o):StrsAt h' K.lp σ.parts:=W.parts.stay B (W.at_ne (i:=6) rfl hj e)
theorem WI.setData (W:WI C K σ h){xs:List Str}(B:∀b o,b≠K.ld→h.get? b=some o→h'.get? b=some o)(hs:StrsAt h' K.ld xs):WI C K { σ with data:=xs } h':=
 W.rest (i:=2) rfl (by decide) (by decide) B rfl hs (W.partsStay (j:=2) rfl (by decide) B) (W.declStay WK.mld (W.at_ne (i:=3) (j:=2) rfl rfl (by decide)) B) (W.dsStay WK.mld B) (W.nsStay (j:=2) rfl (by decide) B) (W.psStay (j:=2) rfl (by decide) B)
theorem WI.setParts (W:WI C K σ h){xs:List Str}(B:∀b o,b≠K.lp→h.get? b=some o→h'.get? b=some o)(hs:StrsAt h' K.lp xs):WI C K { σ with parts:=xs } h':=
 W.rest (i:=6) rfl (by decide) (by decide) B rfl (W.dataStay (j:=6) rfl (by decide) B) hs (W.declStay WK.mlp (W.at_ne (i:=3) (j:=6) rfl rfl (by decide)) B) (W.dsStay WK.mlp B) (W.nsStay (j:=6) rfl (by decide) B) (W.psStay (j:=6) rfl (by decide) B)
end
structure Stp (K:WK)(s s':Shared):Prop where
 same:Same s s'
 keep:∀b o,b∉K.own→s.heap.get? b=some o→s'.heap.get? b=some o
 live:∀a∈K.own,(s.heap.get? a).isSome→(s'.heap.get? a).isSome
theorem Stp.trans {K:WK}{s s₁ s₂:Shared}(x:Stp K s s₁)(y:Stp K s₁ s₂):Stp K s s₂:=⟨x.same.trans y.same,fun b o hb e=>y.keep b o hb (x.keep b o hb e),fun a B h=>y.live a B (x.live a B h)⟩
structure Grw (s s':Shared):Prop where
 same:Same s s'
 keep:∀b o,s.heap.get? b=some o→s'.heap.get? b=some o
theorem Grw.stp {K:WK}{s s':Shared}(x:Grw s s'):Stp K s s':=⟨x.same,fun b o J e=>x.keep b o e,fun a J h=>by refine xE (Dv.mp h) fun o B=>?_;refine(ir (x.keep a o B))▸?_;rfl⟩
theorem Grw.trans {s s₁ s₂:Shared}(x:Grw s s₁)(y:Grw s₁ s₂):Grw s s₂:=⟨x.same.trans y.same,fun b o e=>y.keep b o (x.keep b o e)⟩
theorem Grw.of {s:Shared}{h':Heap}{t:Nat}(B:∀b o,s.heap.get? b=some o→h'.get? b=some o):Grw s { s with heap:=h',toks:=t }:=⟨⟨rfl,rfl,id⟩,B⟩
theorem yc:¬(FE "list"=FE "tuple"):=by decide
theorem WI.look {C:Addr}{K:WK}{σ:Wst}{h:Heap}(W:WI C K σ h){a:Addr}(V:a∈K.own):∃o,h.get? a=some o∧¬(o.cls=.type "tuple"∧∃xs n,o.data=.seq xs n):=by
 have lst:∀{b items},IsL h b items→∃o,h.get? b=some o∧¬(o.cls=.type "tuple"∧∃xs n,o.data=.seq xs n):=fun z=>z.elim fun J e=>⟨_,e,fun z=>yc z.1⟩
 refine aQ W.inst fun mA G J J=>?_;refine da G fun o O hc J hd=>?_;refine xEA W.objx fun Z H B=>?_;obtain rfl:=Dd (H.symm.trans O);refine WK.each (P:=fun a=>∃o,h.get? a=some o∧¬(o.cls=.type "tuple"∧∃xs n,o.data=.seq xs n)) V ⟨Z,O,fun z=>?_⟩ ?_ (W.data.elim fun J z=>lst z.1) (vj W.decl fun J J J J J J e J=>lst e) (W.ns.elim fun J z=>lst z.1) (W.ps.elim fun J z=>lst z.1) (W.parts.elim fun J z=>lst z.1) (W.tab.elim fun J z=>⟨_,z.1,fun z=>z.2.elim fun J z=>z.elim fun J z=>by contradiction⟩)
 ·have:=hc.symm.trans z.1;contradiction
 ·rcases hd with⟨h1,_⟩|⟨d,h1,_,h3⟩
  ·have:=B.symm.trans h1;contradiction
  ·refine bg h3 fun oD es ep e1 e2 J=>?_;refine⟨oD,Dd (h1.symm.trans B)▸e1,fun z=>z.2.elim fun J z=>z.elim fun J z=>?_⟩;have:=e2.symm.trans z;contradiction
theorem WI.live {C:Addr}{K:WK}{σ:Wst}{h:Heap}(W:WI C K σ h):∀a∈K.own,∃o,h.get? a=some o:=fun J B=>(W.look B).imp fun J z=>z.1
structure Mw (sc:Scope)(B:Fix)(C:Addr)(env:Env)(K:WK)(σ:Wst)(s₀:Shared)(m:Str→Option Value)(s:Shared):Prop where
 fo:Fo sc B env K.own s₀ m s
 wi:WI C K σ s.heap
 lo:env.locals∉K.own
 self:m "self"=some (.ref K.x)
 base:∃σ₀,WI C K σ₀ s₀.heap
section
variable {prog:C9}{w:World}{A:Dq}{E:Value→Shared→Prop}{s₀ s:Shared}{sc:Scope}{B:Fix}{C:Addr}{mN:Str→Option Value}{env:Env}{m:Str→Option Value}{K:WK}{σ τ:Wst}
namespace Mw
theorem keeps (f:Mw sc B C env K σ s₀ m s):Mine.Lake.Keeps B s.heap:=f.fo.keeps
theorem stp (f:Mw sc B C env K σ s₀ m s):Stp K s₀ s:=⟨f.fo.same,f.fo.keep,fun a G J=>by refine xE (f.wi.live a G) fun o H=>?_;refine(ir H)▸?_;rfl⟩
theorem name {x:Str}{p:Pos}{v:Value}{Q:Value→Shared→Prop}(f:Mw sc B C env K σ s₀ m s)(hl:sc.names.lookup x=some .local)(G:m x=some v)(q:Q v s)(hd:(x==("__debug__":Str))=false:=by decide):
  wpAny (model prog w) A (eval (.Name x p) env) Q E s:=f.fo.name hl G q hd
theorem glob (G:Glob B){x:Str}{p:Pos}{v:Value}{Q:Value→Shared→Prop}(f:Mw sc B C env K σ s₀ m s)(hl:sc.names.lookup x=some .globalImplicit)(H:G.val x=some v)(q:Q v s)(hd:(x==("__debug__":Str))=false:=by decide):
  wpAny (model prog w) A (eval (.Name x p) env) Q E s:=f.fo.glob G hl H q hd
theorem tok (f:Mw sc B C env K σ s₀ m s){t:Nat}:Mw sc B C env K σ s₀ m { s with toks:=t }:=⟨f.fo.tok,f.wi,f.lo,f.self,f.base⟩
theorem go (f:Mw sc B C env K σ s₀ m s){h':Heap}{t:Nat}(G:∀b o,s.heap.get? b=some o→h'.get? b=some o):Mw sc B C env K σ s₀ m { s with heap:=h',toks:=t }:=
 ⟨f.fo.go G,f.wi.to fun b o J e=>G b o e,f.lo,f.self,f.base⟩
theorem push (f:Mw sc B C env K σ s₀ m s)(o:Obj){t:Nat}:Mw sc B C env K σ s₀ m { s with heap:=s.heap.push o,toks:=t }:=f.go fun J J e=>mc _ e
theorem grw (f:Mw sc B C env K σ s₀ m s){s':Shared}(g:Grw s s'):Mw sc B C env K σ s₀ m s':=
 ⟨f.fo.move g.same f.lo fun b o J e=>g.keep b o e,f.wi.to fun b o J e=>g.keep b o e,f.lo,f.self,f.base⟩
theorem step (f:Mw sc B C env K σ s₀ m s){s':Shared}(g:Stp K s s')(W:WI C K τ s'.heap):Mw sc B C env K τ s₀ m s':=
 ⟨f.fo.move g.same f.lo g.keep,W,f.lo,f.self,f.base⟩
theorem put {x:Str}{v:Value}{Q:Unit→Shared→Prop}(f:Mw sc B C env K σ s₀ m s)(hl:sc.names.lookup x=some .local)(q:∀s',Mw sc B C env K σ s₀ (upd m x v) s'→E3 env.locals s.heap s'.heap→Q () s')(G:("self":Str)≠x:=by decide):
  wpAny (model prog w) A (FL env x v) Q E s:=by
 refine f.fo.putS hl fun s' H hs=>q s' ⟨H,f.wi.to fun b o hb e=>hs.extBut b o ?_ e,f.lo,ah G f.self,f.base⟩ hs;rintro rfl;rcases hb with hb|⟨xs,n,hb⟩|⟨xs,hb⟩
 ·exact f.lo hb
 ·refine bg f.fo.ns fun oD es ep e1 e2 J=>?_;rw[e]at e1;injection e1 with e1;subst e1;rw[hb]at e2;contradiction
 ·refine bg f.fo.ns fun oD es ep e1 e2 J=>?_;rw[e]at e1;injection e1 with e1;subst e1;rw[hb]at e2;contradiction
theorem me {p:Pos}{Q:Value→Shared→Prop}(f:Mw sc B C env K σ s₀ m s)(q:Q (.ref K.x) s)(hl:autoParam (sc.names.lookup ("self":Str)=some .local) aR):wpAny (model prog w) A (eval (.Name "self" p) env) Q E s:=
 f.name hl f.self q
end Mw
theorem Mw.attr (f:Mw sc B C env K σ s₀ m s)(CA:aV B C mN){name:Str}{v:Value}{p J:Pos}{Q:Value→Shared→Prop}(G:name∈aI)(O:Dw (.type "object") name=pure none)
  (V:∀H,bI K σ.root H→H name=some v)(Z:I3 v=pure v)(q:Mw sc B C env K σ s₀ m { s with toks:=s.toks+1 }→Q v { s with toks:=s.toks+1 })(hl:autoParam (sc.names.lookup ("self":Str)=some .local) aR):
  wpAny (model prog w) A (eval (.Attribute (.Name "self" p) name J) env) Q E s:=by
 refine il (f.me (hl:=hl) ?_);refine wb3 (Dx ?_);refine f.wi.attr CA f.keeps G O V Z ?_;exact il (Fm (nb (q f.tok)))
theorem Mw.attrM (f:Mw sc B C env K σ s₀ m s)(CA:aV B C mN){name:Str}{v:Value}{pl:Sem Bool}{Q:Value×List Value→Shared→Prop}(O:name∈aI)(hB:Dw (.type "object") name=pure none)
  (hv:∀Z,bI K σ.root Z→Z name=some v)(hh:I3 v=pure v)(q:Q (v,[]) { s with toks:=s.toks+1 }):
  wpAny (model prog w) A (KX (.ref K.x) name pl) Q E s:=by
 refine aC CA.obj fun nm qq N bs sn sub col dd k0 k1 k2 k3 k5 hC hn=>?_;refine aQ f.wi.inst fun Z I hw ha=>?_;have G:=f.keeps _ _ hC;have H:=hn _ f.keeps;refine aQ (id I) fun o hx hc J=>?_;obtain⟨h,g,d,t,os⟩:=s;obtain V:=F.canon_object_ga;unfold KX specialOf
 repeat (first|(with_reducible refine Hb hx ?_;refine(ir hc)▸?_)|(with_reducible refine FV G H F.mro_object F.lk_object_ga ?_;refine(ir CA.hng)▸?_)|(with_reducible refine FV G H F.mro_object F.lk_object_getattr ?_;refine(ir CA.hnh)▸?_)|(with_reducible refine FV G H F.mro_object hB ?_;refine(ir (CA.hna _ O))▸?_)|(with_reducible refine KW G H CA.hng (CA.hna _ O) hB I (hv Z ha) hh ?_)|simp only[V,GQ,if_false]|wp_step)
 exact q
end
section
variable {prog:C9}{w:World}{A:Dq}{E:Value→Shared→Prop}{s:Shared}{B:Fix}{C:Addr}{K:WK}{σ:Wst}{env:Env}
theorem IsL.isList {h:Heap}{l:Addr}{items:Array Value}(x:IsL h l items):h.IsList l items:=let ⟨q,e⟩:=x;⟨_,e,rfl,q,rfl⟩
theorem IsL.mv {h h':Heap}{l:Addr}{items:Array Value}(x:IsL h l items)(k:∀o,h.get? l=some o→h'.get? l=some o):IsL h' l items:=DO (fun _ e=>k _ e) x
theorem IsL.typeIs {l:Addr}{items:Array Value}(x:IsL s.heap l items):s.TypeIs (.ref l) "list":=let ⟨_,e⟩:=x;⟨_,e,rfl⟩
theorem aK {h:Heap}{l:Addr}{f:Obj→Obj}:∀b o,b≠l→h.get? b=some o→(h.update l f).get? b=some o:=fun b o hb e=>by
 rw[DC]
 ·exact e
 ·exact EL hb
theorem tI {l:Addr}{items:Array Value}{e:Expr}{pos G:Pos}{Q:Value→Shared→Prop}(hl:IsL s.heap l items)(h:wpAny (model prog w) A (eval e env) (fun v s₁=>wpAny (model prog w) A (call (.builtin "list.append") [.ref l,v]) Q E s₁) E s)(hn:autoParam (aU e=false) aR):
  JX prog w A E "append" (.ref l) pos (EN G (D6 [e] env)) Q s:=xN hl.choose_spec EW Gk (cw1 h hn)
theorem CT {l:Addr}{items:Array Value}{pos G:Pos}{Q:Value→Shared→Prop}(hl:IsL s.heap l items)(h:wpAny (model prog w) A (call (.builtin "list.pop") [.ref l]) Q E s):
  JX prog w A E "pop" (.ref l) pos (EN G (D6 [] env)) Q s:=xN hl.choose_spec Iy F.type_list_pop (show wpAny _ A (Fu pos (.builtin "list.pop") [.ref l] [] []) Q E s from Ev rfl (Hm (by simpa using h)))
theorem cq {l:Addr}{items:Array Value}{v:Value}{Q:Value→Shared→Prop}(hl:IsL s.heap l items)(G:items.size≤1000)
  (q:∀h',IsL h' l (items.push v)→(∀b o,b≠l→s.heap.get? b=some o→h'.get? b=some o)→Q .none { s with heap:=h' }):wpAny (model prog w) A (call (.builtin "list.append") [.ref l,v]) Q E s:=by
 refine xE (id hl) fun n e=>?_;refine F0 EW ⟨_,e,rfl⟩ GN (Hr _ _) (GZ l items n v (by rw[Di];exact o31 G)) ⟨e,?_⟩;exact q _ ⟨_,Dy _ e rfl⟩ aK
theorem tJ {l:Addr}{items:Array Value}{y:Value}{Q:Value→Shared→Prop}(hl:IsL s.heap l items)(H:items[items.size-1]?=some y)(G:items.size≤1000)
  (q:∀h',IsL h' l (items.eraseIdxIfInBounds (items.size-1))→(∀b o,b≠l→s.heap.get? b=some o→h'.get? b=some o)→Q y { s with heap:=h' }):wpAny (model prog w) A (call (.builtin "list.pop") [.ref l]) Q E s:=by
 refine xE (id hl) fun n e=>?_;refine F0 Iy ⟨_,e,rfl⟩ F.entry_list_pop (F.args_list_pop_1 _) (PySem.MeetsSeq.list_pop_last l items n y H (by rw[Di];exact o31 G)) ⟨e,?_⟩;exact q _ ⟨_,Dy _ e rfl⟩ aK
theorem cf0 {a:Addr}{o:Obj}{fd:Fx}{pre:List Value}{pos G:Pos}{Q:Value→Shared→Prop}(H:B.base a=some o)(hd:o.data=.func fd)(hb:Mine.Lake.Keeps B s.heap)
  (h:wpAny (model prog w) A (call (.ref a) pre) Q E s):wpAny (model prog w) A (Fu pos (.ref a) pre (EN G (D6 [] env)) []) Q E s:=by
 show wpAny _ A (Fu pos (.ref a) pre [] []) Q E s;exact GP (o:=o) (fd:=fd) (Hm ⟨⟨hb _ _ H,hd⟩,by simpa using h⟩)
theorem cf1 {a:Addr}{o:Obj}{fd:Fx}{e:Expr}{pre:List Value}{pos G:Pos}{Q:Value→Shared→Prop}(H:B.base a=some o)(hd:o.data=.func fd)
  (h:wpAny (model prog w) A (eval e env) (fun v s₁=>Mine.Lake.Keeps B s₁.heap∧wpAny (model prog w) A (call (.ref a) (pre++[v])) Q E s₁) E s)
  (h1:autoParam (aU e=false) aR):wpAny (model prog w) A (Fu pos (.ref a) pre (EN G (D6 [e] env)) []) Q E s:=by
 refine(ir (kM h1))▸?_;exact GP (o:=o) (fd:=fd) (DR (C8 (Dn h (fun v s₁ h=>Dp ⟨⟨h.1 _ _ H,hd⟩,h.2⟩) fun J J e=>e)))
theorem cf2 {a:Addr}{o:Obj}{fd:Fx}{e H:Expr}{pre:List Value}{pos G:Pos}{Q:Value→Shared→Prop}(V:B.base a=some o)(hd:o.data=.func fd)
  (h:wpAny (model prog w) A (eval e env) (fun v s₁=>wpAny (model prog w) A (eval H env) (fun O s₂=>Mine.Lake.Keeps B s₂.heap∧wpAny (model prog w) A (call (.ref a) (pre++[v,O])) Q E s₂) E s₁) E s)
  (h1:autoParam (aU e=false) aR)(h2:autoParam (aU H=false) aR):wpAny (model prog w) A (Fu pos (.ref a) pre (EN G (D6 [e,H] env)) []) Q E s:=by
 rw[wn h1 h2];exact GP (o:=o) (fd:=fd) (DR (C8 (Dn h (fun v s₁ h=>C8 (Dn h (fun O s₂ h=>Dp ⟨⟨h.1 _ _ V,hd⟩,h.2⟩) fun J J e=>e)) fun J J e=>e)))
theorem cf3 {a:Addr}{o:Obj}{fd:Fx}{e V G:Expr}{pre:List Value}{pos H:Pos}{Q:Value→Shared→Prop}(ho:B.base a=some o)(hd:o.data=.func fd)
  (h:wpAny (model prog w) A (eval e env) (fun v s₁=>wpAny (model prog w) A (eval V env) (fun Z s₂=>wpAny (model prog w) A (eval G env) (fun O s₃=>Mine.Lake.Keeps B s₃.heap∧wpAny (model prog w) A (call (.ref a) (pre++[v,Z,O])) Q E s₃) E s₂) E s₁) E s)
  (h1:autoParam (aU e=false) aR)(h2:autoParam (aU V=false) aR)(h3:autoParam (aU G=false) aR):wpAny (model prog w) A (Fu pos (.ref a) pre (EN H (D6 [e,V,G] env)) []) Q E s:=by
 rw[wp h1 h2 h3];exact GP (o:=o) (fd:=fd) (DR (C8 (Dn h (fun v s₁ h=>C8 (Dn h (fun Z s₂ h=>C8 (Dn h (fun O s₃ h=>Dp ⟨⟨h.1 _ _ ho,hd⟩,h.2⟩) fun J J e=>e)) fun J J e=>e)) fun J J e=>e)))
noncomputable def aN (id:String) (v:Value):Obj:={ cls:=.type "builtin_function_or_method",data:=.fields #[.builtin id,v] }
theorem wx {u:Addr}{id:String}{x:Value}{e:Expr}{pos H:Pos}{Q:Value→Shared→Prop}
  (h:wpAny (model prog w) A (eval e env) (fun v s₁=>s₁.heap.get? u=some (aN id x)∧wpAny (model prog w) A (call (.ref u) [v]) Q E s₁) E s)
  (h1:autoParam (aU e=false) aR):wpAny (model prog w) A (Fu pos (.ref u) [] (EN H (D6 [e] env)) []) Q E s:=by
 rw[kM h1];refine il (Dx (DR (C8 (Dn h (fun v s₁ h=>Dp (il (Ek ?_))) fun J J e=>e))));refine xA h fun O G=>?_;show wpAny _ _ (keeperOf (.ref u) >>= _) _ _ _;refine il (m:=keeperOf (.ref u)) ?_;refine il (HU O ?_);refine nb ?_;exact il (Dn G (fun r s₂ V=>il (Dx (wpAny_point (nb V)))) fun J J x=>x)
theorem js {u:Addr}{id:String}{x:Value}{as:List Value}{Q:Value→Shared→Prop}{b:DH}(H:s.heap.get? u=some (aN id x))
  (G:∀{A:Dq} {E:Value→Shared→Prop} {Q:Unit→Shared→Prop},Q () s→wpAny (model prog w) A (HX id ⟨x::as,[]⟩) Q E s)(hq:∀as,(Code.builtin id as).quiet=true)(he:He table id=some b)
  {S:PySem.Spec}(hp:plainId id=true)(g:Meets (b ⟨x::as,[]⟩) S)(hc:S A (wants Q E) s):
  wpAny (model prog w) A (call (.ref u) as) Q E s:=by
 refine Gm (codeAny_of_tree ?_);show wpAny _ A.in1 (callAny (.ref u) ⟨as,[]⟩) _ _ s;refine il (HU H ?_);show wpAny _ _ (if (FE "builtin_function_or_method" != FE "method")=true then _ else _) _ _ _;refine il (G ?_);refine nb ⟨hq _,EU he ?_⟩;refine(ir (Ir hp _))▸?_;exact g prog w A (wants Q E) s hc
theorem jt {id:String}{self:Value}{rest:List Value}{T o:String}{G:Manifest.Signature}{Q:Unit→Shared→Prop}(J:s.TypeIs self T)(hs:Manifest.signature? id=some G)(O:builtinKind id=some .method)
  (V:isSubtype (.type T) (.type "module")=pure false)(Z:Manifest.varargsMethods.contains id=false)(H:∀{Q:Bool→Shared→Prop},Q false s→wpAny (model prog w) A (isType self) Q E s)(ho:toString (Bind.lastOf T)++toString "."++toString (Bind.lastOf id)=o)(hc:Bind.checkArgs id { G with full:=o } ⟨self::rest,[]⟩=pure ())(q:Q () s):
  wpAny (model prog w) A (HX id ⟨self::rest,[]⟩) Q E s:=by
 unfold HX;refine(ir hs)▸(ir O)▸?_;refine il (FJ J V ?_);refine(ir Z)▸?_;show wpAny _ _ (if false=true then _ else _) _ _ _;refine il (H ?_);refine il (FH J ?_);dsimp only;refine(ir ho)▸(ir hc)▸?_;exact nb q
theorem qo {G:Str}{t:Tok}{v:Value}{Q:Unit→Shared→Prop}(q:Q () s):wpAny (model prog w) A (HX "str.join" ⟨[.str G t,v],[]⟩) Q E s:=by
 obtain hs:=Ii (id:="str.join") (n:=['n','i','o','j']) (o:=['r','t','s']) (by kernel_rfl) F.owner_str;refine jt (EX _ _ _) hs (by rfl) (by rw[FN];kernel_rfl) (by decide+kernel) (fun h=>?_) rfl ?_ q
 ·exact DU (a:=false) (by first|rfl|kernel_rfl) h
 ·kernel_rfl
theorem lW {l:Addr}{items:Array Value}{v:Value}{Q:Unit→Shared→Prop}(hl:IsL s.heap l items)(q:Q () s):wpAny (model prog w) A (HX "list.append" ⟨[.ref l,v],[]⟩) Q E s:=by
 obtain hs:=Ii (id:="list.append") (n:=['d','n','e','p','p','a']) (o:=['t','s','i','l']) (by kernel_rfl) F.owner_list;refine jt hl.typeIs hs (by decide+kernel) (by rw[FN];kernel_rfl) (by decide+kernel) (fun h=>?_) rfl ?_ q
 ·refine xE hl fun n e=>?_;refine il (wpAny_loadPart' e ?_);exact nb h
 ·kernel_rfl
theorem cE {u l:Addr}{items:Array Value}{v:Value}{Q:Value→Shared→Prop}(H:s.heap.get? u=some (aN "list.append" (.ref l)))(hl:IsL s.heap l items)(G:items.size≤1000)
  (q:∀h',IsL h' l (items.push v)→(∀b o,b≠l→s.heap.get? b=some o→h'.get? b=some o)→Q .none { s with heap:=h' }):wpAny (model prog w) A (call (.ref u) [v]) Q E s:=by
 refine xE (id hl) fun n e=>?_;refine js H (fun q=>lW hl q) (fun J=>F8 _ (by decide+kernel)) GN (by decide+kernel) (GZ l items n v (by rw[Di];exact o31 G)) ⟨e,?_⟩;exact q _ ⟨_,Dy _ e rfl⟩ aK
theorem nP {u l:Addr}{t G:Tok}{x:Str}{Q:Value→Shared→Prop}(H:s.heap.get? u=some (aN "str.join" (.str DA t)))(hl:IsL s.heap l #[.str x G])(O:x.length≤1000)
  (q:Q (.str x G) s):wpAny (model prog w) A (call (.ref u) [.ref l]) Q E s:=by
 refine js H (fun q=>qo q) (fun J=>F8 _ (by rfl)) F.entry_str_join (by rfl) (PySem.meets_str_join_list DA t l [(x,G)] ?_) ⟨hl.isList,?_⟩
 ·show JO (0+(x.length+0))=false;dsimp only[JO,decide_eq_false_iff_not];refine(ir Di)▸?_;lia -abstractProof
 ·exact q
end
section
variable {prog:C9}{w:World}{A:Dq}{E:Value→Shared→Prop}{s:Shared}{B:Fix}{C:Addr}{K:WK}{σ:Wst}{env:Env}{mN:Str→Option Value}{sc:Scope}
theorem lX {l J:Addr}{v:Value}{Q:Unit→Shared→Prop}(hl:IsL s.heap l #[v])(hs:s.heap.IsSliceOf J .none .none .none)
  (q:∀h',IsL h' l #[]→(∀b o,b≠l→s.heap.get? b=some o→h'.get? b=some o)→Q () { s with heap:=h' }):wpAny (model prog w) A (delItem (.ref l) (.ref J)) Q E s:=by
 refine xE (id hl) fun n e=>?_;refine aQ (id hs) fun os G O H=>?_;have hTs:s.TypeIs (.ref J) "slice":=⟨os,G,O⟩
 refine wpAny_delItem_slot hl.typeIs (by rfl) F.slot_list_delitem (Et F.slot_list_delitem hl.typeIs F.entry_list_delitem ?_ (F.args_list_delitem_2 _ _));show wpAny _ _ (Builtin.List.listSubscript? (.ref J) >>= _) _ _ s;refine il ?_;refine il (G4 hTs slice_no_index ?_);refine nb ?_;show wpAny _ _ (JQ (.ref J) >>= _) _ _ s;refine il (FH hTs ?_);rw[listSliceParts_eq];refine il (il (E9 G H (x:=.none) rfl (il (Kn .none ?_))));refine il (E9 G H (x:=.none) rfl (il (Kn .none ?_)));refine il (E9 G H (x:=.none) rfl (il (Kn .none (nb ?_))));show wpAny _ _ (Jn (.ref l) >>= _) _ _ s;refine il ?_;refine il (E5 e rfl (nb ?_));refine il (DU (sliceIndices_raw none none none 1 (by decide)) ?_);show wpAny _ _ (rule _ >>= _) _ _ _;refine il (Fj ?_);refine il (m:=I1 l _) (FU e rfl ?_ (hz:=by size_fits) (_hz':=by show 0≤_;exact Ej _));refine il (J1 ?_);exact nb ⟨_,rfl,q _ ⟨_,Dy _ e rfl⟩ aK⟩
theorem eP (G:Glob B){a:Addr}{ps:HS}{body:List Stmt}{dflt:Value}{us:List Value}{binds:List (Str×Value)}{Q:Value→Shared→Prop}(F:aY B a ps body sc dflt)(hb:Mine.Lake.Keeps B s.heap)(W:WI C K σ s.heap)(hO:∀a∈K.own,B.base a=none)(H:A.depth<Ed)
  (O:∀fd:Fx,fd.params=ps→fd.defaults=dflt→fd.kwdefaults=.none→JL s fd ⟨us,[]⟩ binds)(V:∀x∈sc.names,x.2≠.cell)(a0:∀x∈binds,sc.names.lookup x.1=some .local)(Z:binds.reverse.lookup ("self":Str)=some (.ref K.x))
  (h:∀env s₁ E',Mw sc B C env K σ s (fun x=>binds.reverse.lookup x) s₁→s₁.toks=s.toks+binds.length→wpAny (model prog w) (A.deeper env) (execs body env) (qj Q) E' s₁)
  (a9:autoParam (sc.isCoroutine=false) aR)(a8:autoParam (sc.isGenerator=false) aR)(hk:autoParam (sc.kind=.function) aR):wpAny (model prog w) A (call (.ref a) us) Q E s:=by
 refine bW G F hb H O V a0 (fun env s₁ E' f ht=>?_) a9 a8 hk;have f':=f.toFo hO;exact h env s₁ E' ⟨f',W.to fun b o J e=>f.call.keep b o e,f'.notOwn fun a ha=>W.live a ha,Z,σ,W⟩ ht
end
set_option backward.match.sparseCases true in
noncomputable def yd:List Stmt:=match ac 12 with
 |.ClassDef _ _ _ body _ _ _ _ _ _ _=>body
 |_=>[]
noncomputable def ak (i:Nat):Stmt:=yd.getD i (.Pass JE)
namespace Nb
theorem write:Dw (.type "object") "_write"=pure none:=by rw[Dg,sl];kernel_rfl
theorem data:Dw (.type "object") "_data"=pure none:=by rw[Dg,sl];kernel_rfl
theorem comm:Dw (.type "object") "_with_comments"=pure none:=by rw[Dg,sl];kernel_rfl
theorem strip:Dw (.type "object") "_strip_text"=pure none:=by rw[Dg,sl];kernel_rfl
theorem exa:Dw (.type "object") "_exclude_attrs"=pure none:=by rw[Dg,sl];kernel_rfl
theorem ext:Dw (.type "object") "_exclude_tags"=pure none:=by rw[Dg,sl];kernel_rfl
theorem rew:Dw (.type "object") "_rewrite_prefixes"=pure none:=by rw[Dg,sl];kernel_rfl
theorem qat:Dw (.type "object") "_qname_aware_tags"=pure none:=by rw[Dg,sl];kernel_rfl
theorem fqa:Dw (.type "object") "_find_qname_aware_attrs"=pure none:=by rw[Dg,sl];kernel_rfl
theorem decl:Dw (.type "object") "_declared_ns_stack"=pure none:=by rw[Dg,sl];kernel_rfl
theorem nss:Dw (.type "object") "_ns_stack"=pure none:=by rw[Dg,sl];kernel_rfl
theorem pmap:Dw (.type "object") "_prefix_map"=pure none:=by rw[Dg,sl];kernel_rfl
theorem psp:Dw (.type "object") "_preserve_space"=pure none:=by rw[Dg,sl];kernel_rfl
theorem pend:Dw (.type "object") "_pending_start"=pure none:=by rw[Dg,sl];kernel_rfl
theorem root:Dw (.type "object") "_root_seen"=pure none:=by rw[Dg,sl];kernel_rfl
theorem done:Dw (.type "object") "_root_done"=pure none:=by rw[Dg,sl];kernel_rfl
theorem ign:Dw (.type "object") "_ignored_depth"=pure none:=by rw[Dg,sl];kernel_rfl
theorem qname:Dw (.type "object") "_qname"=pure none:=by rw[Dg,sl];kernel_rfl
theorem iter:Dw (.type "object") "_iter_namespaces"=pure none:=by rw[Dg,sl];kernel_rfl
theorem flush:Dw (.type "object") "_flush"=pure none:=by rw[Dg,sl];kernel_rfl
theorem start1:Dw (.type "object") "_start"=pure none:=by rw[Dg,sl];kernel_rfl
theorem start:Dw (.type "object") "start"=pure none:=by rw[Dg,sl];kernel_rfl
theorem mdata:Dw (.type "object") "data"=pure none:=by rw[Dg,sl];kernel_rfl
theorem mend:Dw (.type "object") "end"=pure none:=by rw[Dg,sl];kernel_rfl
end Nb
section
variable {prog:C9}{w:World}{A:Dq}{E:Value→Shared→Prop}{s s₀:Shared}{B:Fix}{C:Addr}{K:WK}{σ:Wst}{env:Env}{mN:Str→Option Value}{sc:Scope}{m:Str→Option Value}{n:Nat}
theorem StrsAt.push {h':Heap}{l:Addr}{xs:List Str}{x:Str}{t:Tok}{us:List Value}(h1:All2 (fun x v=>∃t,v=Du x t) xs us)(h2:IsL h' l (us.toArray.push (.str x t))):StrsAt h' l (xs++[x]):=
 ⟨us++[.str x t],by simpa using h2,h1.append (.cons ⟨t,rfl⟩ .nil)⟩
theorem Mw.setData (f:Mw sc B C env K σ s₀ m s){xs:List Str}{h':Heap}{t:Nat}(G:∀b o,b≠K.ld→s.heap.get? b=some o→h'.get? b=some o)(hs:StrsAt h' K.ld xs):Mw sc B C env K { σ with data:=xs } s₀ m { s with heap:=h',toks:=t }:=
 f.step ⟨⟨rfl,rfl,id⟩,fun b o hb e=>G b o (fun q=>hb (q▸WK.mld)) e,fun a J h=>by
  by_cases e:a=K.ld
  ·refine(ir e)▸?_;refine xEA hs fun us H J=>?_;refine xE H fun q e=>?_;show(h'.get? K.ld).isSome=true;refine(ir e)▸?_;rfl
  ·refine xE (Dv.mp h) fun o O=>?_;show(h'.get? a).isSome=true;refine(ir (G a o e O))▸?_;rfl⟩ (f.wi.setData G hs)
theorem Mw.setParts (f:Mw sc B C env K σ s₀ m s){xs:List Str}{h':Heap}{t:Nat}(G:∀b o,b≠K.lp→s.heap.get? b=some o→h'.get? b=some o)(hs:StrsAt h' K.lp xs):Mw sc B C env K { σ with parts:=xs } s₀ m { s with heap:=h',toks:=t }:=
 f.step ⟨⟨rfl,rfl,id⟩,fun b o hb e=>G b o (fun q=>hb (q▸WK.mlp)) e,fun a J h=>by
  by_cases e:a=K.lp
  ·refine(ir e)▸?_;refine xEA hs fun us H J=>?_;refine xE H fun q e=>?_;show(h'.get? K.lp).isSome=true;refine(ir e)▸?_;rfl
  ·refine xE (Dv.mp h) fun o O=>?_;show(h'.get? a).isSome=true;refine(ir (G a o e O))▸?_;rfl⟩ (f.wi.setParts G hs)
theorem Mw.ign (f:Mw sc B C env K σ s₀ m s)(CA:aV B C mN){p G:Pos}{Q:Value→Shared→Prop}(q:∀t,Mw sc B C env K σ s₀ m { s with toks:=s.toks+1 }→Q (.int 0 t) { s with toks:=s.toks+1 })(hl:autoParam (sc.names.lookup ("self":Str)=some .local) aR):
  wpAny (model prog w) A (eval (.Attribute (.Name "self" p) "_ignored_depth" G) env) Q E s:=by
 refine aC CA.obj fun nm V N bs sn sub col dd k0 k1 k2 k3 k5 hC hn=>?_;refine aQ f.wi.inst fun Z I J H=>?_;refine xE H.ign fun t O=>?_;refine il (f.me (hl:=hl) ?_);refine wb3 (Dx ?_);refine KW (h:=s.heap) (g:=s.gens) (d:=s.drawn) (t:=s.toks) (os:=s.os) (f.keeps _ _ hC) (hn _ f.keeps) CA.hng (CA.hna _ (by decide)) Nb.ign I O rfl ?_;exact il (Fm (nb (q t f.tok)))
theorem tK (CA:aV B C mN){x:Str}{t:Tok}{Q:Flow→Shared→Prop}(f:Mw (aa (ak 4)).scope B C env K σ s₀ m s)(hm:m "data"=some (.str x t))(H:σ.data.length≤900)
  (q:∀s',Stp K s₀ s'→WI C K { σ with data:=σ.data++[x] } s'.heap→Q .next s'):wpAny (model prog w) A (execs (aa (ak 4)).body env) Q E s:=by
 have hI:DS env=false:=by unfold DS;refine(ir f.fo.scp)▸?_;rfl
 refine csI (It (DP ?_));refine f.ign CA fun ti f1=>?_;refine truthy_int ?_;refine csE ?_ hI;refine Dk rfl rfl rfl ?_;refine f1.attr CA (v:=.ref K.ld) (by decide) Nb.data (fun mA h=>h.data) rfl (fun J=>?_);refine xEA J.wi.data fun us hl Z=>?_;refine tI hl (J.name rfl hm ?_);obtain G:=Z.length;refine cq hl (by simp;exact Bn H G) fun h' O V=>?_;have f3:=J.setData (t:=s.toks+1+1) V (StrsAt.push Z O);refine C7 ?_;exact C7 (q _ f3.stp f3.wi)
theorem tL (G:Glob B)(CA:aV B C mN)(V:∀a∈K.own,B.base a=none){a:Addr}(F:aY B a (aD (ak 4)) (aa (ak 4)).body (aa (ak 4)).scope .none)(H:Room (n+1) A)(hb:Mine.Lake.Keeps B s.heap)(W:WI C K σ s.heap)
  {x:Str}{t:Tok}{Q:Value→Shared→Prop}(O:σ.data.length≤900)(q:∀s',Stp K s s'→WI C K { σ with data:=σ.data++[x] } s'.heap→Q .none s'):wpAny (model prog w) A (call (.ref a) [.ref K.x,.str x t]) Q E s:=by
 refine eP G F hb W V (by have:=H.2.1;exact o1 this) (binds:=[("self",.ref K.x),("data",.str x t)]) (fun fd hp hd hkd=>?_) (by decide) (by intro x Z;rcases Da.mp Z with e|e;(rw[e];rfl);(rw[DD.mp e];rfl)) rfl fun J s₁ E' f ht=>?_
 ·cases fd;dsimp only at hp hd hkd;subst hp hd hkd;exact FP (by rfl)
 ·exact tK (A:=A.deeper J) CA f rfl O fun s' h1 h2=>q s' h1 h2
end
end
section
open PySem PySem.W PyProof.Rows PySem.Builtin PySem.Builtin.Str
noncomputable def lY (c:Nat) (r:E8) (x:E8):E8:=bif x.cps.toList.contains c then EM x ⟨#[c]⟩ r else x
noncomputable def yf (x:E8):=lY 38 "&amp;" x
noncomputable def yg (x:E8):=lY 60 "&lt;" (yf x)
noncomputable def yh (x:E8):=lY 62 "&gt;" (yg x)
noncomputable def esc (x:E8):=lY 13 "&#xD;" (yh x)
structure cr (x:E8):Prop where
 l0:x.length≤1000
 l1:(yf x).length≤1000
 l2:(yg x).length≤1000
 l3:(yh x).length≤1000
 l4:(esc x).length≤1000
section
variable {prog:C9}{w:World}{A:Dq}{E:Value→Shared→Prop}{s s₀:Shared}{B:Fix}{env:Env}{sc:Scope}{m:E8→Option Value}{n:Nat}
theorem lZ {x c r:E8}{G:Nat}{t:Tok}{p1 p2 p3 p4 p5 p6 p7 p8 p9 ap pos:Pos}{k1 k2 k3:Nat}{Q:Flow→Shared→Prop}(f:Fw sc B env s₀ m s)(hl:sc.names.lookup ("text":E8)=some .local)(Z:m "text"=some (.str x t))(hx:x.length≤1000)
  (hc:c=⟨#[G]⟩)(hr:r.length≤10)(a0:(c==r)=false)(H:(ap.endLine==pos.line)=true)
  (q:∀s' m' t',Fw sc B env s₀ m' s'→m' "text"=some (.str (lY G r x) t')→Q .next s'):
  wpAny (model prog w) A (exec (.If (.Compare (.Constant (.str c) k1 p1) [.In] [.Name "text" p2] p3) [.Assign [.Name "text" p4] (.Call (.Attribute (.Name "text" p5) "replace" ap) [.Constant (.str c) k2 p6,.Constant (.str r) k3 p7] [] pos) p8] [] p9) env) Q E s:=by
 subst hc;refine wpAny_If (DI (Ds ?_) rfl);have O:=f.tok (t:=s.toks+1);refine O.name hl Z ?_;refine P.in_str ?_;refine DJ ?_;rw[Kw];by_cases V:G∈x.cps.toList
 ·refine(ir (show decide (G∈x.cps.toList)=true from decide_eq_true V))▸?_;obtain he:lY G r x=EM x ⟨#[G]⟩ r:=by unfold lY;refine(ir (Kt.mpr V))▸?_;rfl
  refine csA ?_ (by rfl);refine Dk rfl rfl H ?_;refine O.name hl Z ?_;refine lJ G1 G0 ?_;refine cw2 (Ds (Ds ?_));refine I4 (FF _) (FF _) (Hf _).symm a0 ?_ fun t1 k1=>?_
  ·have:(x.length+1)*r.length≤1001*10:=Nat.mul_le_mul (by lia -abstractProof) hr;lia -abstractProof
  refine(O.tok (t:=k1)).putS hl fun s2 f2 J=>?_;refine C7 (q s2 _ t1 f2 ?_);refine(ir he)▸?_;exact ar
 ·refine(ir (show decide (G∈x.cps.toList)=false from decide_eq_false V))▸?_;refine C7 (q _ _ t O ?_)
  have:lY G r x=x:=by
   unfold lY
   have:x.cps.toList.contains G=false:=by
    cases e:x.cps.toList.contains G with
    |false=>rfl
    |true=>exact absurd (Kt.mp e) V
   refine(ir this)▸?_;rfl
  refine(ir this)▸?_;exact Z
theorem wy {x:E8}{t:Tok}{Q:Flow→Shared→Prop}(f:Fw (aa (ac 13)).scope B env s₀ m s)(J:m "text"=some (.str x t))(G:cr x)
  (O:∀h' k tr,(∀b o,s₀.heap.get? b=some o→h'.get? b=some o)→Q (.ret (.str (esc x) tr)) { s₀ with heap:=h',toks:=k }):
  wpAny (model prog w) A (execs (aa (ac 13)).body env) Q E s:=by
 refine DL ?_;refine wpAny_Try_except ?_;refine DL ?_;refine lZ f rfl J G.l0 rfl (by decide) (by decide) rfl fun s1 m1 t1 V h1=>?_;refine DL ?_;refine lZ V rfl h1 G.l1 rfl (by decide) (by rfl) rfl fun s2 m2 t2 Z h2=>?_;refine DL ?_;refine lZ Z rfl h2 G.l2 rfl (by decide) (by rfl) rfl fun s3 m3 t3 f3 h3=>?_;refine DL ?_;refine lZ f3 rfl h3 G.l3 rfl (by decide) (by rfl) rfl fun s4 m4 t4 H h4=>?_;refine csR ?_;refine H.name rfl h4 ?_;exact H.fin (Q:=fun v s=>Q (.ret v) s) fun h' k hk=>O h' k _ hk
theorem wz (G:Glob B){a:Addr}(F:aY B a (aD (ac 13)) (aa (ac 13)).body (aa (ac 13)).scope .none)(H:Room (n+1) A)(hb:Mine.Lake.Keeps B s.heap){x:E8}{t:Tok}{Q:Value→Shared→Prop}(O:cr x)
  (q:∀s' tr,Grw s s'→Q (.str (esc x) tr) s'):wpAny (model prog w) A (call (.ref a) [.str x t]) Q E s:=by
 refine bW G F hb (by have:=H.2.1;exact o1 this) (binds:=[("text",.str x t)]) (fun fd hp hd hkd=>?_) (by decide) (by intro x O;refine(ir (DD.mp O))▸?_;rfl) fun V s₁ E' f J=>?_
 ·cases fd;dsimp only at hp hd hkd;subst hp hd hkd;exact FP (by rfl)
 ·exact wy (Q:=qj Q) f rfl O fun h' k tr Z=>q _ tr (Grw.of Z)
end
end
section
open PySem PySem.W PyProof.Rows PySem.Builtin
noncomputable def WrAt (K:WK) (h:Heap):Prop:=∃aw,K.wr=.ref aw∧aw∉K.own∧h.get? aw=some (aN "list.append" (.ref K.lp))
theorem WrAt.stp {K:WK}{s s':Shared}(x:WrAt K s.heap)(g:Stp K s s'):WrAt K s'.heap:=let ⟨aw,e,h,o⟩:=x;⟨aw,e,h,g.keep _ _ h o⟩
section
variable {prog:C9}{w:World}{A:Dq}{E:Value→Shared→Prop}{s s₀:Shared}{B:Fix}{C:Addr}{K:WK}{σ:Wst}{env:Env}{mN:E8→Option Value}{sc:Scope}{m:E8→Option Value}{n:Nat}
noncomputable def bP (x:Str):List Str:=bif x.length==0 then [] else [esc x]
theorem qp (G:Glob B)(CA:aV B C mN){ae:Addr}(he:G.val "_escape_cdata_c14n"=some (.ref ae))(Fe:aY B ae (aD (ac 13)) (aa (ac 13)).body (aa (ac 13)).scope .none)(a0:Room (n+1) A)
  {x:Str}{aj:Addr}{tj:Tok}{Q:Flow→Shared→Prop}(b5:WrAt K s₀.heap)(hx:cr x)(hj:B.base aj=some (aN "str.join" (.str DA tj)))
  (f:Mw (aa (ak 5)).scope B C env K σ s₀ m s)(hm:m "_join_text"=some (.ref aj))(hd:σ.data=[x])(hr:σ.root=true)(b6:σ.parts.length≤900)
  (q:∀s',Stp K s₀ s'→WI C K { σ with data:=[],parts:=σ.parts++bP x } s'.heap→Q .next s'):wpAny (model prog w) A (execs (aa (ak 5)).body env) Q E s:=by
 have hI:DS env=false:=by unfold DS;refine(ir f.fo.scp)▸?_;rfl
 refine csA ?_ (by rfl);refine il (f.name rfl hm ?_);refine wx (id:="str.join") (x:=.str DA tj) ?_;refine f.attr CA (v:=.ref K.ld) (by decide) Nb.data (fun mA h=>h.data) rfl (fun f1=>?_);refine⟨f1.keeps _ _ hj,?_⟩;refine xEA f1.wi.data fun us hl V=>?_;rw[hd]at V
 obtain⟨t0,rfl⟩:∃t0,us=[.str x t0]:=by
  cases V with
  |cons h1 h2=>cases h2;refine xE h1 fun t b7=>?_;clear hl h1;subst b7;exact⟨t,rfl⟩
 refine nP (f1.keeps _ _ hj) hl hx.l0 ?_;refine f1.put rfl fun s2 f2 J=>?_;have g2:upd m "data" (.str x t0) "data"=some (.str x t0):=ar;refine DL ?_;refine il (Ek ?_);refine il ?_;refine il (wpAny_delete_Subscript ?_);refine f2.attr CA (v:=.ref K.ld) (by decide) Nb.data (fun mA h=>h.data) rfl (fun f3=>?_);refine wpAny_Slice ?_;refine nb ?_;refine nb (nb ?_);have f4:=f3.push { cls:=.type "slice",data:=.fields #[.none,.none,.none] } (t:=s2.toks+1);refine xEA f4.wi.data fun us a9 H=>?_;rw[hd]at H
 obtain⟨t4,rfl⟩:∃t0,us=[.str x t0]:=by
  cases H with
  |cons h1 h2=>cases h2;refine xE h1 fun t be=>?_;clear a9 h1;subst be;exact⟨t,rfl⟩
 refine lX a9 (Jy ..) fun h5 bk bx=>?_;obtain f5:=f4.setData (t:=s2.toks+1) bx (xs:=[]) ⟨[],bk,.nil⟩;refine nb (nb ?_);refine csI (ED (Ef (DP ?_)));refine f5.attr CA (v:=.bool false) (by decide) Nb.strip (fun mA h=>h.strip) rfl (fun f6=>?_);refine DJ ?_;refine C7 ?_;refine csI (DI ?_ rfl);refine f6.attr CA (v:=.none) (by decide) Nb.pend (fun mA h=>h.pend) rfl (fun f7=>?_);refine D5 ?_;refine HW ?_;refine DJ ?_;refine C7 ?_;refine csI (ED (Ef (DP ?_)));refine f7.name rfl g2 ?_;obtain c4:=hx.l0;refine P.truthy_str (by lia -abstractProof) ?_;have f8:=f7.tok (t:=s2.toks+1+1+1+1+1);by_cases hz:x.length=0
 ·refine(ir (show((x.length:Int) != 0)=false from by rw[hz];rfl))▸?_;refine C7 ?_;refine C7 ?_;refine q _ f8.stp ?_;have:bP x=[]:=by unfold bP;refine(ir hz)▸?_;rfl
  rw[this,EI];exact f8.wi
 ·refine(ir (show((x.length:Int) != 0)=true from bne_iff_ne.mpr (by lia -abstractProof)))▸?_;obtain ho:bP x=[esc x]:=by unfold bP;refine(ir (show(x.length==0)=false from beq_eq_false_iff_ne.mpr hz))▸?_;rfl
  refine Ef (DP ?_);refine f8.attr CA (v:=.bool true) (by decide) Nb.root (fun mA h=>by have:=h.root;rw[hr]at this;exact this) rfl (fun f9=>?_);refine DJ ?_;refine IJ ?_;refine csE ?_ hI;refine aM rfl rfl rfl ?_;refine f9.me fun pl=>?_;refine aQ (b5.stp f9.stp) fun aw c0 c5 ag=>?_;refine f9.attrM CA (v:=.ref aw) (by decide) Nb.write (fun mA h=>by refine c0▸?_;exact h.write) rfl ?_;have O:=f9.tok (t:=s2.toks+1+1+1+1+1+1+1);refine wx (id:="list.append") (x:=.ref K.lp) ?_;refine il (O.glob G rfl he ?_);refine aE Fe.obj fun oe c6 c1 c2 J=>?_;refine cf1 c1 c2 ?_;refine O.name rfl g2 ⟨O.keeps,?_⟩;refine wz G Fe a0 O.keeps hx fun s11 tr a8=>?_;have al:=O.grw a8;refine⟨a8.keep _ _ ag,?_⟩;refine xEA al.wi.parts fun up c3 b1=>?_;have Z:=b1.length;refine cE (a8.keep _ _ ag) c3 (by simp at Z⊢;exact Bn b6 Z) fun c7 b2 b3=>?_;have b4:=al.setParts (t:=s11.toks) b3 (StrsAt.push b1 b2);refine C7 ?_;refine C7 ?_;refine q _ b4.stp ?_;refine(ir ho)▸?_;exact b4.wi
theorem ju (G:Glob B)(CA:aV B C mN)(hO:∀a∈K.own,B.base a=none){a ae:Addr}(he:G.val "_escape_cdata_c14n"=some (.ref ae))(Fe:aY B ae (aD (ac 13)) (aa (ac 13)).body (aa (ac 13)).scope .none){T aj:Addr}{tj:Tok}(hj:B.base aj=some (aN "str.join" (.str DA tj)))
  (F:aY B a (aD (ak 5)) (aa (ak 5)).body (aa (ak 5)).scope (.ref T))(hT:∃o q,B.base T=some o∧o.data=.seq #[.ref aj] q)(H:Room (n+2) A)(hb:Mine.Lake.Keeps B s.heap)(W:WI C K σ s.heap)(O:WrAt K s.heap)
  {x:Str}{Q:Value→Shared→Prop}(V:cr x)(hd:σ.data=[x])(hr:σ.root=true)(Z:σ.parts.length≤900)
  (q:∀s',Stp K s s'→WI C K { σ with data:=[],parts:=σ.parts++bP x } s'.heap→Q .none s'):wpAny (model prog w) A (call (.ref a) [.ref K.x]) Q E s:=by
 refine aL hT fun oT qT a0 a8=>?_;refine eP G F hb W hO (by have:=H.2.1;exact o9 this) (binds:=[("self",.ref K.x),("_join_text",.ref aj)]) (fun fd hp hd hkd=>?_) (by decide) (by intro x V;rcases Da.mp V with e|e;(rw[e];rfl);(rw[DD.mp e];rfl)) rfl fun J s₁ E' f ht=>?_
 ·cases fd;dsimp only at hp hd hkd;subst hp hd hkd;exact Fl rfl (hb _ _ a0) a8 (by rfl) (by rfl)
 ·exact qp (A:=A.deeper J) (n:=n) G CA he Fe (Room.deeper H J) O V hj f rfl hd hr Z fun s' h1 h2=>q s' h1 h2
end
theorem nQ:He table "proto.yield_from"=some DH.«proto.yield_from»:=Gf (by kernel_rfl)
theorem qr:Dw (.type "list_iterator") "close"=pure none:=by rw[Dg,sl];kernel_rfl
noncomputable abbrev dm (it:Addr):Code:=.builtin "proto.yield_from" ⟨[.ref it,.bool false,.none],[]⟩
section
variable {prog:C9}{w:World}{A:Dq}{R:GenEnd}{Y:Kr}{n:Nat}{s₀:Shared}{fs:List Frame}{s:Shared}
theorem gU {id:String}{args:Args}{b:DH}(hb:He table id=some b)(h:Seg (model prog w) A R Y n s₀ (.builtin id args) (b args) fs s):
  Seg (model prog w) A R Y n s₀ (.builtin id args) ((model prog w).den (.builtin id args)) fs s:=by
 show Seg _ A R Y _ s₀ _ (match He table id with|some b=>b args|none=>Hv ((withoutEnding? id "#data").getD id)) fs s;refine(ir hb)▸?_;exact h
theorem zu {M:Model}{E:Value→Shared→Prop}{it l:Addr}{i:Nat}{b:Bool}{Q:Unit→Shared→Prop}(B:s.heap.IsListIter it l i)(q:Q () s):wpAny M A (J7 (.ref it) b) Q E s:=by
 refine aQ B fun o G hc hd=>?_;refine il (HU G ?_);rw[hc,if_pos (by rfl)];exact nb q
theorem nR {it l:Addr}{v:Value}(H:s.heap.IsListIter it l 0)(hl:s.heap.IsList l #[v])(hfs:splitAtGen fs=none)(a0:fs.any Frame.guarded=false)
  (h:∀h',h'.IsListIter it l 1→E3 it s.heap h'→∀V:Resume→Shared→Prop,(∀B,B.heap.IsListIter it l 1→Seg (model prog w) A R Y n B (dm it) ((model prog w).den (dm it)) fs B→V (.send .none) B)→Y n s₀ v { s with heap:=h' } V):
  Seg (model prog w) A R Y (n+1) s₀ (dm it) ((model prog w).den (dm it)) fs s:=by
 refine gU nQ ?_;refine aQ (id H) fun o ho hc hd=>?_;refine gJ (id hl) fun ol a8 J nl a9=>?_;refine GG (nb ?_);refine GG (Gr (Dx ?_));refine il (Fj ?_)
 refine il (EZ (name:=t5 "__next__") H.typeIs HV
  (Et HV H.typeIs entry_listiter_next ?_ (args_listiter_next _)))
 show wpAny _ _ (field (.ref it) 0 >>= _) _ _ s;refine il (E9 ho hd (x:=.ref l) rfl ?_);show wpAny _ _ (if (D7 l==EG)=true then _ else _) _ _ s;show wpAny _ _ (field (.ref it) 1 >>= _) _ _ s;refine il (E9 ho hd (x:=.int ((0:Nat):Int) 0) rfl ?_);show wpAny _ _ (seqItems? (.ref l) >>= _) _ _ s;refine il (E5 a8 a9 ?_);obtain hx:(#[v]:Array Value)[(0:Nat)]?=some v:=rfl;refine il (HT ho hd (by exact DV _) (nb ⟨v,rfl,nb ?_⟩))
 have G:(s.heap.update it (Kb fun xs=>xs.setIfInBounds 1 (DE (((0:Nat):Int)+1)))).IsListIter it l 1:=⟨_,Dy _ ho (Iw (Gg hd _)),(Jf ..).trans hc,by
  rw[Gg hd];rfl⟩
 refine GG (FH (Heap.IsListIter.typeIs (s:={ s with heap:=s.heap.update it (Kb fun xs=>xs.setIfInBounds 1 (DE (((0:Nat):Int)+1))) }) G) ?_);refine GG (DU qr ?_);refine GG (nb ?_);refine GG (zu G ?_);show Seg _ A R Y (n+1) s₀ _ (Sem.yield v (!true) [] fun r=>_) fs _;refine seg_yield hfs rfl a0 ?_;refine h _ G (JK ..) _ fun B O Z=>?_;show Seg _ A R Y n B _ (J7 (D7 it) false >>= fun J=>_) fs B;refine GG (zu O ?_);refine GG (DU (a:=EG) rfl ?_);exact KV (F8 _ (by decide+kernel)) Z
theorem qu {it l:Addr}{v:Value}(Z:(A.over (dm it) fs).handled=none)(G:s.heap.IsListIter it l 1)(hl:s.heap.IsList l #[v])
  (h:∀h',Heap.ExtBut it s.heap h'→Seg (model prog w) A R Y n s₀ (dm it) (leafOf (.ok (.ret .none))) fs { s with heap:=h' }):
  Seg (model prog w) A R Y n s₀ (dm it) ((model prog w).den (dm it)) fs s:=by
 refine gU nQ ?_;refine aQ (id G) fun o H hc hd=>?_;refine gJ (id hl) fun ol O J nl V=>?_;refine GG (nb ?_);refine GG (Gr (Dx ?_));refine il (Fj ?_)
 refine il (EZ (name:=t5 "__next__") G.typeIs HV
  (Et HV G.typeIs entry_listiter_next ?_ (args_listiter_next _)))
 show wpAny _ _ (field (.ref it) 0 >>= _) _ _ s;refine il (E9 H hd (x:=.ref l) rfl ?_);show wpAny _ _ (if (D7 l==EG)=true then _ else _) _ _ s;show wpAny _ _ (field (.ref it) 1 >>= _) _ _ s;refine il (E9 H hd (x:=.int ((1:Nat):Int) 0) rfl ?_);show wpAny _ _ (seqItems? (.ref l) >>= _) _ _ s;refine il (E5 O V ?_);obtain hx:(#[v]:Array Value)[(1:Nat)]?=none:=rfl;refine il (Fj (il (HT H hd (by simp) ?_)));show wpAny _ _ (newExc (.type "StopIteration") [] >>= _) _ _ _;refine il ?_;refine il (EF ?_ (by size_fits));refine il (m:=Hd _ _) (DU (a:=EG) (by first|rfl|(dsimp only[Hd];rfl)) ?_);refine EF ?_ (by size_fits);refine il (KH ?_);refine(ir (show(A.over (Code.builtin "proto.yield_from" { pos:=[D7 it,Value.bool false,EG] }) fs).in1.handled=none from Z))▸?_;refine wbp (wpAny_throw ?_);have B:∀{h:Heap} {o:Obj},o.isFreed=false→(h.push o).get? h.objs.size=some o:=fun e=>rh _ e;refine GG ?_;refine il (il (FH (T:="StopIteration") ⟨_,B rfl,rfl⟩ ?_));refine il (DU IV ?_);refine il (DU (a:=.type "type") rfl ?_);refine nb ?_;refine nb ?_;refine GG (Fj ?_);refine GG (E9 (B rfl) rfl (x:=.none) rfl ?_);exact h _ (((JK ..).extBut.push _).push _)
end
section
variable {prog:C9}{w:World}{A:Dq}{R:GenEnd}{Y:Kr}{n:Nat}{s₀:Shared}{fs:List Frame}{s:Shared}{env:Env}{c:Code}
 {K:Flow→Sem Fin}{H:Value→Sem Fin}{gd:Bool→Bool}{lv:List Value→List Value}
theorem wA {G:Expr}{body B:List Stmt}{pos:Pos}
  (h:wpAny (model prog w) (A.over c fs) (isTrue G env (eval G env)) (fun b s'=>Seg (model prog w) A R Y n s₀ c ((bif b then execs body env else execs B env).wrap K H gd lv) fs s') (fun x s'=>Seg (model prog w) A R Y n s₀ c (H x) fs s') s):
  Seg (model prog w) A R Y n s₀ c ((exec (.If G body B pos) env).wrap K H gd lv) fs s:=by
 show Seg _ A R Y n s₀ c ((do IE pos;if ←isTrue G env (eval G env) then execs body env else execs B env).wrap K H gd lv) fs s;refine EQ (Ek ?_);refine EQ (Dn h (fun b s' hb=>?_) fun J J e=>e);cases b<;>exact hb
theorem yi {B iter:Expr}{body G:List Stmt}{pos:Pos}(hs:∀x,Hc iter env x=pure x)
  (h:wpAny (model prog w) (A.over c fs) (eval iter env) (fun x s₁=>wpAny (model prog w) (A.over c fs) (Lh x) (fun it s₂=>∀p,Seg (model prog w) A R Y n s₀ (.forLoop B it body G env) ((model prog w).den (.forLoop B it body G env))
   (.ret (fun r=>((match r with|.ok f=>(.pure f:Sem Flow)|.error e=>.raise e).onRaise fun(x:Value)=>do
    if (←field x 1)==EG then Hv "frame.own-activation:exception-without-traceback"
    setFlight x env.frame).wrap K H gd lv) none (gd false) (lv []) c p []::fs) s₂) (fun x s'=>Seg (model prog w) A R Y n s₀ c (H x) fs s') s₁) (fun x s'=>Seg (model prog w) A R Y n s₀ c (H x) fs s') s):
  Seg (model prog w) A R Y n s₀ c ((exec (.For B iter body G pos) env).wrap K H gd lv) fs s:=by
 rw[exec_For];refine EQ (Ek ?_);refine EQ (Dn h (fun x s₁ O=>?_) fun J J e=>e);refine EQ (DU (hs x) ?_);refine EQ (Ek ?_);refine EQ (Dx (Dn O (fun it s₂ V=>?_) fun J J e=>e));exact seg_call V
theorem eC {B:Expr}{it:Value}{body:List Stmt}
  (h:wpAny (model prog w) (A.over (.forLoop B it body [] env) fs) (Hp it) (fun r s₁=>match r with
   |none=>Seg (model prog w) A R Y n s₀ (.block [] env) (leafOf (.ok .next)) fs s₁
   |some v=>wpAny (model prog w) (A.over (.forLoop B it body [] env) fs) (Gq B it v) (fun J G=>wpAny (model prog w) (A.over (.forLoop B it body [] env) fs) (Go B env v) (fun J s₂=>
     Seg (model prog w) A R Y n s₀ (.forLoop B it body [] env) ((execs body env).wrap (fun f=>match f with
      |.next|.cont=>.pure (.again (.forLoop B it body [] env))
      |.brk=>.pure (.done .next)
      |.ret v=>.pure (.done (.ret v))) (fun e=>(do JS e env;HA e:Sem Unit).bind (fun J=>.raise e)) id id) fs s₂)
     (fun x s'=>Seg (model prog w) A R Y n s₀ (.forLoop B it body [] env) ((do JS x env;HA x:Sem Unit).bind (fun J=>.raise x)) fs s') G)
     (fun x s'=>Seg (model prog w) A R Y n s₀ (.forLoop B it body [] env) ((do JS x env;HA x:Sem Unit).bind (fun J=>.raise x)) fs s') s₁)
   (fun x s'=>Seg (model prog w) A R Y n s₀ (.forLoop B it body [] env) ((do JS x env;HA x:Sem Unit).bind (fun J=>.raise x)) fs s') s):
  Seg (model prog w) A R Y n s₀ (.forLoop B it body [] env) ((model prog w).den (.forLoop B it body [] env)) fs s:=by
 show Seg _ A R Y n s₀ _ ((forTurn B it body [] env).onRaise (fun x=>do JS x env;HA x)) fs s;rw[Sem.onRaise_eq_wrap];refine EQ (Ek ?_);refine EQ (wpAny_onRaise (Dn h (fun r s₁ O=>?_) fun J J h'=>Ek h'))
 cases r with
 |none=>exact KV rfl O
 |some v=>
  refine EQ (Dn O (fun J G V=>?_) fun J J e=>e);refine EQ (Dn V (fun J s₂ Z=>?_) fun J J e=>e);rw[Jd,Ka];refine(Sem.wrap_congr (execs body env) id id (fun f=>?_) fun e=>?_)▸Z
  ·cases f<;>rfl
  ·rfl
set_option backward.match.sparseCases true in
noncomputable def yfK (e:Expr) (B pos:Pos) (K:Flow→Sem Fin) (H:Value→Sem Fin) (gd:Bool→Bool) (lv:List Value→List Value):GH→Sem Fin:=fun x=>
 KM (fun a=>KM K H gd lv (dropValue (.YieldFrom e B) pos a)) (fun e=>KM K H gd lv (Sem.raise e)) gd lv
  ((match x with|.ok f=>Sem.pure f|.error e=>Sem.raise e).bind fun f=>match f with|.ret v=>pure v|_=>Hv "internal:call-without-return-value")
theorem wB (e:Expr)(B pos:Pos):yfK e B pos K H gd lv (.ok (.ret .none))=K .next:=rfl
set_option backward.match.sparseCases true in
theorem ff {e:Expr}{B pos:Pos}{l:Addr}{items:Array Value}
  (h:wpAny (model prog w) (A.over c fs) (eval e env) (fun v s'=>v=.ref l∧s'.heap.IsList l items∧∀p,
   Seg (model prog w) A R Y n s₀ (dm s'.heap.objs.size) ((model prog w).den (dm s'.heap.objs.size)) (.ret (yfK e B pos K H gd lv) none (gd false) (lv []) c p []::fs)
    { s' with heap:=s'.heap.push { cls:=.type "list_iterator",data:=.fields #[.ref l,.int 0 0] } })
   (fun x s'=>Seg (model prog w) A R Y n s₀ c (H x) fs s') s)(hi:DS env=false):
  Seg (model prog w) A R Y n s₀ c ((exec (.Expr (.YieldFrom e B) pos) env).wrap K H gd lv) fs s:=by
 rw[exec_Expr env _ pos hi rfl]
 show Seg (model prog w) A R Y n s₀ c (.at pos fun J=>((eval e env >>= fun v=>(IE B >>= fun J=>yieldFrom env v)) >>= fun x=>
  dropValue (.YieldFrom e B) pos x).wrap K H gd lv) fs s
 refine seg_at ?_;rw[Jd,Jd,Ka,Ka];refine seg_wrap (Dn h (fun v s' h'=>?_) fun J J x=>x);refine seg_at ?_;refine xAA h' fun G hl hq=>?_;clear h';subst G;show Seg _ A R Y n s₀ c (KM _ _ gd lv (yieldFrom env (.ref l))) fs s';refine EQ (FH hl.typeIs ?_);refine EQ (Dx (Ia hl ?_));exact seg_call hq
end
noncomputable def Sinc (lim L:Addr) (s₀ s:Shared):Prop:=∃h B,s={ s₀ with heap:=h,toks:=B }∧∀b o,b<lim→b≠L→s₀.heap.get? b=some o→h.get? b=some o
theorem Sinc.step {lim L:Addr}{s₀ s:Shared}(x:Sinc lim L s₀ s){h':Heap}{t:Nat}(G:∀b o,b<lim→b≠L→s.heap.get? b=some o→h'.get? b=some o):Sinc lim L s₀ { s with heap:=h',toks:=t }:=by
 refine aL x fun h H B k=>?_;clear x;subst B;exact dG h' t rfl (fun b o h1 h2 e=>G b o h1 h2 (k b o h1 h2 e))
structure Gb (h:Heap)(lds l0:Addr)(t0:Value)(ds:List Addr):Prop where
 decl:IsL h lds (.ref l0::ds.map .ref).toArray
 one:IsL h l0 #[t0]
 emp:∀d∈ds,IsL h d #[]
theorem Gb.to {h h':Heap}{lds l0:Addr}{B:Value}{ds:List Addr}(x:Gb h lds l0 B ds){P:Addr→Prop}(hp:P lds∧P l0∧∀d∈ds,P d)(G:∀b o,P b→h.get? b=some o→h'.get? b=some o):Gb h' lds l0 B ds:=by
 have hl:∀{a items},P a→IsL h a items→IsL h' a items:=fun hp ⟨q,e⟩=>⟨q,G _ _ hp e⟩
 exact⟨hl hp.1 x.decl,hl hp.2.1 x.one,fun d hd=>hl (hp.2.2 d hd) (x.emp d hd)⟩
noncomputable abbrev bM:List Stmt:=(aa (ak 1)).body
noncomputable abbrev cF:Scope:=(aa (ak 1)).scope
noncomputable abbrev fP (lim L lds l0:Addr) (H:Value):Kr:=fun J s₀ v s G=>v=H∧Sinc lim L s₀ s∧∀B,(∀b,(b=L∨lim≤b∨b=lds∨b=l0)→∀o,s.heap.get? b=some o→B.heap.get? b=some o)→G (.send .none) B
noncomputable abbrev wC (lim L:Addr):GenEnd:=fun n s₀ r s₁=>r=.ok (.ret .none)∧(n=0∧Sinc lim L s₀ s₁)
section
variable {prog:C9}{w:World}{A:Dq}{s:Shared}{env:Env}{lim lds l0:Addr}{t0:Value}{ds:List Addr}{E:Value→Shared→Prop}
theorem loc {x:Str}{p:Pos}{v:Value}{m:Str→Option Value}{Q:Value→Shared→Prop}(hs:env.scope.kind=.function)(hl:env.scope.names.lookup x=some .local)(hn:s.heap.Ns env.locals m)(B:m x=some v)(q:Q v s)(hd:(x==("__debug__":Str))=false:=by decide):
  wpAny (model prog w) A (eval (.Name x p) env) Q E s:=FZ (Ex hs (by unfold Io;exact hl) hn B q) hd
noncomputable def sa:Stmt:=bM.getD 0 (.Pass JE)
set_option backward.match.sparseCases true in
noncomputable def wD:Expr:=match sa with|.For t _ _ _ _=>t|_=>JE
set_option backward.match.sparseCases true in
noncomputable def wE:List Stmt:=match sa with|.For _ _ b _ _=>b|_=>[]
theorem Au {n:Nat}{Y:Kr}{B:List Frame}{I:Addr}{s₀:Shared}(H:(A.over (.forLoop wD (.ref I) wE [] env) B).handled=none)(G:s.heap.IsRevIter I lds (-1)){R:GenEnd}
  (h:∀h',Heap.ExtBut I s.heap h'→Seg (model prog w) A R Y n s₀ (.block [] env) (leafOf (.ok .next)) B { s with heap:=h' }):
  Seg (model prog w) A R Y n s₀ (.forLoop wD (.ref I) wE [] env) ((model prog w).den (.forLoop wD (.ref I) wE [] env)) B s:=by
 refine eC ?_;exact wpAny_pyNext_rev_end H G fun h' he=>h h' he
theorem yj {I:Addr}{s₀:Shared}{c:Code}{K:Flow→Sem Fin}{H:Value→Sem Fin}(hh:A.handled=none)(b3:env.scope=cF)(hI:lim≤I)(hL:env.locals<lim)(hd:(lds<lim∧lds≠env.locals)∧(l0<lim∧l0≠env.locals)∧∀d∈ds,d<lim∧d≠env.locals)
  (hK:K .next=.pure (.done (.ret .none))){p:Pos}:∀(j:Nat) (s:Shared) (m:Str→Option Value),j≤ds.length→Gb s.heap lds l0 t0 ds→s.heap.IsRevIter I lds (j:Int)→s.heap.Ns env.locals m→Sinc lim env.locals s₀ s→lim≤s.heap.objs.size→
  Seg (model prog w) A (wC lim env.locals) (fP lim env.locals lds l0 t0) 1 s₀ (.forLoop wD (.ref I) wE [] env) ((model prog w).den (.forLoop wD (.ref I) wE [] env))
   [.ret (fun r=>((match r with|.ok f=>(.pure f:Sem Flow)|.error e=>.raise e).onRaise fun(x:Value)=>do
    if (←field x 1)==EG then Hv "frame.own-activation:exception-without-traceback"
    setFlight x env.frame).wrap K H id id) none false [] c p []] s:=by
 intro j;obtain⟨es,el,eg,ec,eq,ef,c4,c5,eb⟩:=env;dsimp only at b3;subst b3
 induction j with
 |zero=>
  intro s m hj G al hn b1 V;refine eC ?_;refine wpAny_pyNext_rev_item al G.decl.isList (x:=.ref l0) rfl fun h1 Z hs1=>?_;have k1:∀b o,b<lim→s.heap.get? b=some o→h1.get? b=some o:=fun b o hb e=>hs1.extBut b o (Dh (De hb hI)) e;refine DU (a:=()) rfl ?_;refine Ea (Ec (m:=m) rfl (hn.at' fun o e=>k1 _ o hL e) fun h2 a0 B=>?_);have k2:∀b o,b<lim→b≠el→s.heap.get? b=some o→h2.get? b=some o:=fun b o hb b2 e=>B.extBut b o b2 (k1 b o hb e);have G2:Gb h2 lds l0 t0 ds:=Gb.to (P:=fun b=>b<lim∧b≠el) G hd fun b o hb e=>k2 b o hb.1 hb.2 e;have f2:Sinc lim el s₀ { s with heap:=h2,toks:=s.toks+1 }:=b1.step fun b o h1 h2 e=>k2 b o h1 h2 e;have O:h2.IsRevIter I lds (-1):=Z.at fun o e=>B.extBut _ o (Dl (De hL hI)) e;refine IT ?_;refine wA (DP ?_);refine loc rfl rfl a0 (if_pos rfl) ?_;refine Ha G2.one.isList (by show((1:Nat):Int)<2 ^ 63;decide) ?_;show Seg _ _ _ _ _ _ _ ((execs _ _).wrap _ _ _ _) _ _;refine IT ?_;refine ff (l:=l0) (items:= #[t0]) ?_ rfl;refine loc rfl rfl a0 (if_pos rfl) ⟨rfl,G2.one.isList,fun p2=>?_⟩;have hJ:lim≤h2.objs.size:=Df V (Df (Ei hs1.1.symm) (Ei B.1.symm));have kp:∀{o':Obj} b o,h2.get? b=some o→(h2.push o').get? b=some o:=fun b o e=>mc _ e;refine nR (l:=l0) (v:=t0) ⟨_,rh _ rfl,rfl,rfl⟩ (G2.one.isList.at fun o e=>kp _ o e) rfl rfl fun h3 ag be c6 b4=>?_;have k3:∀b o,b≠h2.objs.size→h2.get? b=some o→h3.get? b=some o:=fun b o hb e=>be.extBut b o hb (kp b o e);have lo:∀b,b<lim→b≠h2.objs.size:=fun b hb=>Dh (De hb hJ);obtain f3:Sinc lim el s₀ { s with heap:=h3,toks:=s.toks+1+1+1 }:=Sinc.step (s:={ s with heap:=h2,toks:=s.toks+1 }) f2 fun b o h1 J e=>k3 b o (lo b h1) e;refine yAA rfl f3 (fun a8 a9=>b4 a8 ?_ ?_)
  ·exact ag.at fun o e=>a9 _ (.inr (.inl hJ)) o e
  ·obtain b5:a8.heap.IsListIter h2.objs.size l0 1:=ag.at fun o e=>a9 _ (.inr (.inl hJ)) o e;obtain bk:a8.heap.IsList l0 #[t0]:=G2.one.isList.at fun o e=>a9 _ (.inr (.inr (.inr rfl))) o (k3 _ o (lo _ hd.2.1.1) e)
   have b6:I≠h2.objs.size:=by
    refine xEA O fun o ho J=>?_;exact Dh (rl ho)
   obtain bx:a8.heap.IsRevIter I lds (-1):=O.at fun o e=>a9 _ (.inr (.inl hI)) o (k3 _ o b6 e);refine qu hh b5 bk fun h5 b7=>?_;refine seg_leaf _ ?_;rw[wB];refine KV rfl ?_;obtain c0:h5.IsRevIter I lds (-1):=bx.at fun o e=>b7 _ o b6 e;refine Au (by exact hh) c0 fun h6 c1=>?_;refine seg_leaf _ ?_;show Seg _ _ _ _ _ _ _ (K .next) _ _;refine(ir hK)▸?_;refine seg_end (.ok (.ret .none)) ⟨rfl,rfl,?_⟩;exact dG h6 a8.toks rfl (fun b o h1 J e=>c1 b o (Dh (De h1 hI)) (b7 b o (lo b h1) e))
 |succ j ih=>
  intro s m hj G al hn b1 V
  obtain⟨d,c2,c3⟩:∃d∈ds,(.ref l0::ds.map .ref).toArray[j+1]?=some (D7 d):=by
   have:j<ds.length:=by trivial
   exact yEA (ds[j]) (H0 _) (by simp[EA this])
  refine eC ?_;refine wpAny_pyNext_rev_item al G.decl.isList c3 fun h1 Z hs1=>?_;have k1:∀b o,b<lim→s.heap.get? b=some o→h1.get? b=some o:=fun b o hb e=>hs1.extBut b o (Dh (De hb hI)) e;refine DU (a:=()) rfl ?_;refine Ea (Ec (m:=m) rfl (hn.at' fun o e=>k1 _ o hL e) fun h2 a0 B=>?_);have k2:∀b o,b<lim→b≠el→s.heap.get? b=some o→h2.get? b=some o:=fun b o hb b2 e=>B.extBut b o b2 (k1 b o hb e);have G2:Gb h2 lds l0 t0 ds:=Gb.to (P:=fun b=>b<lim∧b≠el) G hd fun b o hb e=>k2 b o hb.1 hb.2 e;obtain f2:Sinc lim el s₀ { s with heap:=h2,toks:=s.toks+1 }:=b1.step fun b o h1 h2 e=>k2 b o h1 h2 e
  obtain O:h2.IsRevIter I lds (j:Int):=by
   have:=Z.at (h':=h2) fun o e=>B.extBut _ o (Dl (De hL hI)) e;rwa [show(((j+1:Nat):Int)-1)=(j:Int) from by lia -abstractProof]at this
  refine IT ?_;refine wA (DP ?_);refine loc rfl rfl a0 (if_pos rfl) ?_;refine Ha (G2.emp d c2).isList (by show((0:Nat):Int)<2 ^ 63;decide) ?_;refine KV rfl ?_;refine ih _ _ (by exact Bq hj) G2 O a0 (Sinc.step (s:={ s with heap:=h2,toks:=s.toks+1 }) f2 fun b o J J e=>e) ?_;exact Df V (Df (Ei hs1.1.symm) (Ei B.1.symm))
end
section
variable {prog:C9}{w:World}{A:Dq}{s:Shared}{env:Env}{lds l0:Addr}{t0:Value}{ds:List Addr}{E:Value→Shared→Prop}
theorem yk {m:Str→Option Value}(Z:A.handled=none)(B:env.scope=cF)(hn:s.heap.Ns env.locals m)(O:m "ns_stack"=some (.ref lds))(V:m "_reversed"=some (.type "reversed"))(G:Gb s.heap lds l0 t0 ds)
  (hd:lds≠env.locals∧l0≠env.locals∧∀d∈ds,d≠env.locals):
  (Le (.func bM env)).Goes (model prog w) A (wC s.heap.objs.size env.locals) (fP s.heap.objs.size env.locals lds l0 t0) 1 (.send .none) s:=by
 refine⟨rfl,seg_func ?_⟩;obtain hi:DS env=false:=by unfold DS;refine(ir B)▸?_;rfl
 have lt:∀{a items},IsL s.heap a items→a<s.heap.objs.size:=fun⟨_,e⟩=>rl e;refine IT ?_;refine yi (fun J=>rfl) ?_;refine il (loc (by refine(ir B)▸?_;rfl) (by refine(ir B)▸?_;rfl) hn V ?_);refine ct1 ?_;refine loc (by refine(ir B)▸?_;rfl) (by refine(ir B)▸?_;rfl) hn O ?_;refine call_reversed_list G.decl.isList ?_;have e:(((D7 l0::ds.map D7).toArray.size:Nat):Int)-1=((ds.length:Nat):Int):=by simp
 have H:(s.heap.push (revObj lds ((((D7 l0::ds.map .ref).toArray.size:Nat):Int)-1))).IsRevIter s.heap.objs.size lds (ds.length:Int):=by refine(ir e)▸?_;exact dY _ (rh _ rfl) rfl rfl
 refine wpAny_pyIter_revIter H fun p=>?_;refine yj (lim:=s.heap.objs.size) Z B (DK _) hn.lt ⟨⟨lt G.decl,hd.1⟩,⟨lt G.one,hd.2.1⟩,fun d h=>⟨lt (G.emp d h),hd.2.2 d h⟩⟩ rfl ds.length _ m (DK _) ?_ H (hn.push _) ?_ ?_
 ·exact Gb.to (P:=fun J=>True) G ⟨trivial,trivial,fun J J=>trivial⟩ fun b o J e=>mc _ e
 ·exact dG _ s.toks rfl (fun b o J J e=>mc _ e)
 ·show _≤(s.heap.push _).objs.size;rw[Eh];exact DN _ _
end
section
variable {prog:C9}{w:World}{A:Dq}{E:Value→Shared→Prop}{s:Shared}{B:Fix}
theorem jv {s:Shared}{g:Nat}{a b:GenState}(h:s.gens[g]?=some a):(s.setGen g b).gens[g]?=some b:=PySem.setGen_self h
theorem fQ {s:Shared}{g:Nat}{x:GenState}(J:x.bare=true)(h:AllBare s.gens):AllBare (s.setGen g x).gens:=by
 intro y H;obtain⟨i,hi,rfl⟩:=Array.mem_iff_getElem.mp H;by_cases e:i=g
 ·clear H;subst e;simp[Shared.setGen];exact J
 ·have G:i<s.gens.size:=by simpa [Shared.setGen] using hi
  have h2:(s.setGen g x).gens[i]?=s.gens[i]?:=by
   show(s.gens.setIfInBounds g x)[i]?=_;rw[Array.getElem?_setIfInBounds_ne (EL e)]
  rw[HG hi,HG G]at h2;rw[Dd h2];exact h _ (Array.getElem_mem G)
theorem nS {a:Addr}{g n:Nat}{gs:GenState}{P:Nat→Shared→Shared→Prop}{Y:Kr}{Q:Option Value→Shared→Prop}(hh:A.handled=none)(hl:s.heap.NoLimit)(G:A.depth<Ed)(hg:s.heap.IsGen a g)(O:s.gens[g]?=some gs)
  (H:gs.Goes (model prog w) A.in1 (fun n s₀ r s₁=>r=.ok (.ret .none)∧P n s₀ s₁) Y n (.send .none) (s.setGen g .running))
  (hY:∀v s₁ gs',gs'.bare=true→Y (n-1) (s.setGen g .running) v s₁ (fun r' V=>match n with
    |0=>False
    |m+1=>gs'.Goes (model prog w) A.in1 (fun n s₀ r s₁=>r=.ok (.ret .none)∧P n s₀ s₁) Y m r' V)→Q (some v) (s₁.setGen g gs'))
  (hP:∀s₁,P n (s.setGen g .running) s₁→∀h',(∀b o,s₁.heap.get? b=some o→h'.get? b=some o)→Q none { s₁.setGen g .finished with heap:=h' }):
  wpAny (model prog w) A (Hp (.ref a)) Q E s:=by
 obtain key:wpAny (model prog w) A.in1 (Builtin.Generator.genWake (.ref a) (.send .none)) (fun fin s'=>∃v,fin=.done (.ret v)∧Q (some v) s') (fun e s'=>s'.TypeIs e "StopIteration"∧Q none s') s:=by
  refine il (Dx (wpAny_genNumber hg (il (wpAny_genState O ?_))))
  obtain rest:wpAny (model prog w) A.in1 (.resume g (.send .none) [] fun r=>Sem.pure r) (fun r s'=>match r with
    |.yielded v=>Q (some v) s'
    |.returned v=>v=.none∧∀h',(∀b o,s'.heap.get? b=some o→h'.get? b=some o)→Q none { s' with heap:=h' }
    |_=>False) (fun e s'=>s'.TypeIs e "StopIteration"∧Q none s') s:=by
   refine wpAny_resumeQ O H (fun x s₁ hx=>?_) (fun v s₁ gs' hb hv=>?_)
   ·refine xA hx fun Z hp=>?_;clear hx;subst Z;exact nb ⟨rfl,fun h' hk=>hP s₁ hp h' hk⟩
   ·exact nb (hY v s₁ gs' hb hv)
  have fin:wpAny (model prog w) A.in1 (roomToWake >>= fun J=>(do
    match ←resume g (.send .none)with
    |.yielded v=>ret v
    |.returned v=>
     if v== .none then raiseNew (←newExc (.type "StopIteration") [])
     rule "generator.return-value";throw (←newExc (.type "StopIteration") [v])
    |.raised e=>Generator.genLeft (.ref a) e
    |.running=>rule "generator.already-executing";raiseError "ValueError" "generator already executing"
    |.justStarted=>rule "generator.send-to-fresh";raiseError "TypeError" "can't send non-None value to a just-started generator"
    |.finished=>raiseNew (←newExc (.type "StopIteration") []):Sem Je)) (fun fin s'=>∃v,fin=.done (.ret v)∧Q (some v) s') (fun e s'=>s'.TypeIs e "StopIteration"∧Q none s') s:=by
   refine il (wpAny_roomToWake hl G ?_);refine il (Dn rest (fun r s' h=>?_) fun J J h=>h)
   cases r with
   |yielded v=>exact nb ⟨v,rfl,h⟩
   |returned v=>
    refine xA h fun a0 hq=>?_;clear h;subst a0;refine il ?_;refine il (EF ?_ (by size_fits));refine il (m:=Hd _ _) (DU (a:=EG) (by first|rfl|(dsimp only[Hd];rfl)) ?_);refine EF ?_ (by size_fits);refine il (il (KH ?_));refine(ir (show A.in1.handled=none from hh))▸?_;refine wpAny_throw ⟨⟨_,rh _ rfl,rfl⟩,?_⟩;exact hq _ fun b o hb=>mc _ (mc _ hb)
   |_=>exact h.elim
  cases gs with
  |running=>exact H.elim
  |finished=>exact H.elim
  |_=>exact fin
 refine il (Gr (EZ (name:=t5 "__next__") hg.typeIs slot_gen_next
  (Et slot_gen_next hg.typeIs entry_gen_next ?_ (args_gen_next _))))
 refine Dn key (fun fin s' h=>?_) fun e s' h=>?_
 ·refine xEA h fun v a8 hq=>?_;subst a8;exact yEA v rfl (nb hq)
 ·exact il (FJ (T:="StopIteration") (b:=true) h.1 IV (nb h.2))
end
section
variable {prog:C9}{w:World}{A:Dq}{E:Value→Shared→Prop}{s:Shared}{B:Fix}
theorem tM (G:Glob B){a T:Addr}(F:aY B a (aD (ak 1)) bM cF (.ref T))(hT:∃o q,B.base T=some o∧o.data=.seq #[.type "reversed"] q)(hb:Mine.Lake.Keeps B s.heap)(a0:A.depth<Ed){x lds:Addr}{Q:Value→Shared→Prop}
  (q:∀h' ag O tk m,O.scope=cF→O.locals=s.heap.objs.size→(∀b o,s.heap.get? b=some o→h'.get? b=some o)→h'.Ns s.heap.objs.size m→m "ns_stack"=some (.ref lds)→m "_reversed"=some (.type "reversed")→h'.IsGen ag s.gens.size→s.heap.objs.size<ag→
   Q (.ref ag) { s with heap:=h',gens:=s.gens.push (.fresh (.func bM O)),toks:=tk }):
  wpAny (model prog w) A (call (.ref a) [.ref x,.ref lds]) Q E s:=by
 refine cg F.obj fun o fd ho hd al V H b3 hg b4 b1 hkd b2=>?_;refine xAA (G.look s.heap hb) fun J J Z=>?_;refine aL hT fun oT qT b5 b6=>?_
 have a8:JL s fd ⟨[.ref x,.ref lds],[]⟩ [("self",.ref x),("ns_stack",.ref lds),("_reversed",.type "reversed")]:=by
  clear b2 ho hd V H b3 hg b4 Z;cases fd;dsimp only at al b1 hkd;subst al b1 hkd;exact Fl rfl (hb _ _ b5) b6 (by rfl) (by rfl)
 refine Gm (codeAny_call_generator a0 (hb a o ho) hd (by refine(ir H)▸?_;rfl) (by refine(ir H)▸?_;rfl) V (b2 _ hb) (a8 _ _ _ _ ?_));refine IQ (by refine(ir H)▸?_;decide) ?_ (fun h₀ hns a9=>⟨Z.fresh _ a9,?_⟩) (by refine(ir H)▸?_;rfl)
 ·intro y hy;refine(ir H)▸?_;simp only[Da,Dr,or_false]at hy;rcases hy with rfl|rfl|rfl<;>rfl
 ·have b7:h₀.objs.size=s.heap.objs.size+1:=by rw[a9.1,Eh]
  refine q _ _ _ _ _ (by exact H) rfl (fun b o e=>mc _ (a9.extBut b o (Dh (rl e)) (mc _ e))) (hns.push _) rfl rfl ?_ ?_
  ·exact xI _ _ _ (rh _ rfl) rfl rfl rfl
  ·show s.heap.objs.size<h₀.objs.size;lia -abstractProof
end
section
variable {prog:C9}{w:World}{A:Dq}{E:Value→Shared→Prop}{s s₀:Shared}{B:Fix}{C:Addr}{K:WK}{σ:Wst}{env:Env}{mN:Str→Option Value}{sc:Scope}{m:Str→Option Value}{n:Nat}
theorem wF {x:Str}{t u:Tok}{c:Nat}{r:List Nat}{Q:Value→Shared→Prop}(J:x.cps.toList=c::r)(hl:x.length≤1000000)(hq:∀O k,Q (.str ⟨#[c]⟩ O) { s with toks:=k }):
  (I2 x t none (some ((1:Int),u)) none).post Q s:=by
 have V:x.length=r.length+1:=by
  have:x.length=x.cps.toList.length:=rfl;refine(ir this)▸(ir J)▸?_;rfl
 have Z:FA x.length (1:Int)=1:=by unfold FA;split<;>lia -abstractProof
 have G:((E1 x none (some ((1:Int),u)) none).filterMap (x.cps[·]?))=[c]:=by
  unfold E1;show(DZ none (some (1:Int)) 1 x.length).filterMap _=_;rw[bO];show((DQ (FA x.length (1:Int)-0)).map (0+·)).filterMap _=_;refine(ir Z)▸?_;have:x.cps[0]?=some c:=by refine(E6)▸(ir J)▸?_;rfl
  simp[List.range_succ,this]
 have H:(E1 x none (some ((1:Int),u)) none).length=1:=by
  unfold E1;show(DZ none (some (1:Int)) 1 x.length).length=_;rw[bO];show((DQ (FA x.length (1:Int)-0)).map (0+·)).length=_;refine(ir Z)▸?_;rfl
 unfold I2;refine IF ?_;refine(ir H)▸?_
 split
 ·rename_i hc;have h1:(1:Nat)=x.length:=by simpa using ((DM _ _).mp hc).2
  have hr:r=[]:=D8.mp (by grind -abstractProof);have ex:x=⟨#[c]⟩:=by cases x;congr;apply ES.mp;rw[J,hr]
  refine⟨by refine(ir Di)▸?_;lia -abstractProof,fun O k=>?_⟩;have:=hq O k;rw[←ex]at this;exact this
 ·refine(ir G)▸?_;exact⟨by refine(ir Di)▸?_;show 1≤_;exact DT _,hq⟩
theorem sp3 {e V G:Expr}{H:Pos}{Q:List Value→Shared→Prop}(h:wpAny (model prog w) A (eval e env) (fun v s₁=>wpAny (model prog w) A (eval V env) (fun Z s₂=>wpAny (model prog w) A (eval G env) (fun O s₃=>Q [v,Z,O] s₃) E s₂) E s₁) E s)
  (h1:autoParam (aU e=false) aR)(h2:autoParam (aU V=false) aR)(h3:autoParam (aU G=false) aR):wpAny (model prog w) A (Ke (EN H (D6 [e,V,G] env))) Q E s:=by
 rw[wp h1 h2 h3];exact C8 (Dn h (fun v s₁ h=>C8 (Dn h (fun Z s₂ h=>C8 (Dn h (fun O s₃ h=>Dp h) fun J J e=>e)) fun J J e=>e)) fun J J e=>e)
theorem Fo.later (f:Fo sc B env [] s₀ m s){P:Addr}(G:s₀.heap.objs.size≤P){s':Shared}{m':Str→Option Value}(hs:Same s s')(H:∀b o,b≠env.locals→b≠P→s.heap.get? b=some o→s'.heap.get? b=some o)(hn:s'.heap.Ns env.locals m'):Fo sc B env [] s₀ m' s':=
 ⟨hn,f.same.trans hs,fun b o hb e=>H b o (Dh (De (rl e) f.fresh)) (Dh (De (rl e) G)) (f.keep b o hb e),f.fresh,f.scp,f.gl,f.bu,f.base,f.fn,f.nc,f.bown⟩
theorem Fo.putE {own:List Addr}{x:Str}{v:Value}{Q:Unit→Shared→Prop}(f:Fo sc B env own s₀ m s)(hl:sc.names.lookup x=some .local)(q:∀h' J,Fo sc B env own s₀ (Mine.Lake.upd m x v) { s with heap:=h',toks:=J }→E3 env.locals s.heap h'→Q () { s with heap:=h',toks:=J }):
  wpAny (model prog w) A (FL env x v) Q E s:=by
 refine Ec (by rw[f.kindOf,hl]) f.ns (fun h' H G=>q _ _ ⟨H,?_,fun b o hb e=>?_,f.fresh,f.scp,f.gl,f.bu,f.base,f.fn,f.nc,f.bown⟩ G) (by rw[f.kind];rfl)
 ·exact f.same.trans ⟨rfl,rfl,id⟩
 ·exact G.extBut b o (Dh (De (rl e) f.fresh)) (f.keep b o hb e)
theorem Fo.size {own:List Addr}(f:Fo sc B env own s₀ m s):s₀.heap.objs.size≤s.heap.objs.size:=D9 (Ew f.fresh f.ns.lt)
theorem Fo.wi (f:Fo sc B env [] s₀ m s)(W:WI C K σ s₀.heap):WI C K σ s.heap:=W.to fun b o J e=>f.keep b o (by simp) e
theorem Fo.grw (f:Fo sc B env [] s₀ m s):Grw s₀ s:=⟨f.same,fun b o e=>f.keep b o (by simp) e⟩
theorem nT (CA:aV B C mN)(hb:Mine.Lake.Keeps B s.heap)(W:WI C K σ s.heap){name:Str}{v:Value}{p O:Pos}{Q:Value→Shared→Prop}(G:name∈aI)(V:Dw (.type "object") name=pure none)
  (Z:∀J,bI K σ.root J→J name=some v)(hh:I3 v=pure v)(H:∀{E:Value→Shared→Prop} {Q:Value→Shared→Prop},Q (.ref K.x) s→wpAny (model prog w) A (eval (.Name "self" p) env) Q E s)(q:Q v { s with toks:=s.toks+1 }):
  wpAny (model prog w) A (eval (.Attribute (.Name "self" p) name O) env) Q E s:=by
 refine il (H ?_);refine wb3 (Dx ?_);refine W.attr CA hb G V Z hh ?_;exact il (Fm (nb q))
theorem yl {P:Addr}{led:Bool}{h:Heap}(e:h.get? P=some { cls:=.type "set",dict:=none,data:=.set #[] 0 (.fresh 0 0 led) }):h.SetOf (Db prog w) P (fun J=>false) 0:=
 ⟨_, #[],0,_,e,⟨rfl,rfl,rfl⟩,rfl,fun J h=>(by simp at h),fun k=>by simp,by decide,rfl,rfl⟩
theorem SetOf.at {h h':Heap}{P:Addr}{S:Str→Bool}{k:Nat}(x:h.SetOf (Db prog w) P S k)(G:∀o,h.get? P=some o→h'.get? P=some o):h'.SetOf (Db prog w) P S k:=by
 refine vi x fun o es ep t H r=>?_;exact vc o es ep t (G _ H) r
theorem IsGen.keeps' {h h':Heap}{a g:Addr}(x:h.IsGen a g)(G:∀o,h.get? a=some o→h'.get? a=some o):h'.IsGen a g:=DO (fun _=>DO fun _=>DO fun _ z=>⟨G _ z.1,z.2⟩) x
theorem l7 {G:List Expr}{x1}{pos:Pos}{a g:Addr}{v:Value}{Q:Unit→Shared→Prop}(hg:s.heap.IsGen a g)(q:Q () s):wpAny (model prog w) A (Gq (.Tuple G x1 pos) (.ref a) v) Q E s:=by
 refine ik hg fun o nm qn H hc hd J=>?_
 cases v with
 |ref b=>
  refine il (HU H ?_);refine(ir hc)▸(ir hd)▸?_;exact nb q
 |_=>exact nb q
structure Qv (K:WK)(x:Str)(P:Addr)(m:Str→Option Value):Prop where
 self:m "self"=some (.ref K.x)
 uri:∃t,m "uri"=some (.str DA t)
 tag:∃t,m "tag"=some (.str x t)
 seen:m "prefixes_seen"=some (.ref P)
theorem Qv.upd {x:Str}{P:Addr}{v:Value}{y:Str}(q:Qv K x P m)(h1:("self":Str)≠y:=by decide)(h2:("uri":Str)≠y:=by decide)(h3:("tag":Str)≠y:=by decide)(h4:("prefixes_seen":Str)≠y:=by decide):Qv K x P (upd m y v):=
 ⟨ah h1 q.self,DO (fun _ e=>ah h2 e) q.uri,DO (fun _ e=>ah h3 e) q.tag,ah h4 q.seen⟩
theorem qw (CA:aV B C mN){x:Str}{P:Addr}{S:Str→Bool}{k:Nat}{Q:Flow→Shared→Prop}(W:WI C K σ s₀.heap)(f:Fo (aa (ak 3)).scope B env [] s₀ m s)(G:Qv K x P m)(hS:s.heap.SetOf (Db prog w) P S k)(J:S DA=false)
  (q:∀s' T t1 t2 t3,Grw s₀ s'→s'.heap.IsTuple T #[.str x t1,.str x t2,.str DA t3]→Q (.ret (.ref T)) s'):wpAny (model prog w) A (execs ((aa (ak 3)).body.drop 3) env) Q E s:=by
 refine xE G.uri fun tu O=>?_;refine xE G.tag fun V Z=>?_;refine csI (DP ?_);refine nT CA f.keeps (f.wi W) (v:=.bool false) (by decide) Nb.rew (fun mA h=>h.rew) rfl (fun q=>f.name rfl G.self q) ?_;have f1:=f.tok (t:=s.toks+1);refine DJ ?_;refine C7 ?_;refine csI (ED (Ef (It (DP ?_))));refine f1.name rfl O ?_;refine PySem.P.truthy_str (by show¬((0:Nat):Int)≥2 ^ 63;decide) ?_;obtain f2:=f1.tok (t:=s.toks+1+1+1);refine Ef (DI (Ds ?_) rfl);have f3:=f2.tok (t:=s.toks+1+1+1+1);refine f3.name rfl G.seen ?_;refine wpAny_notInSet_of (k:=DA) (Gn prog w _ _) rfl hS ?_;refine(ir J)▸?_;refine DJ ?_;refine IJ ?_;have H:=f3.tok (t:=s.toks+1+1+1+1+1);refine csR ?_;refine wb3 ?_;refine sp3 ?_;refine H.name rfl Z ?_;refine H.name rfl Z ?_;refine H.name rfl O ?_;refine Ga ?_ (by show 3≤Eu;refine(ir Di)▸?_;decide);refine q _ _ V V tu (H.grw.trans (Grw.of fun b o e=>mc _ e)) ?_;exact Bk _ (rh _ rfl) rfl _ rfl
set_option backward.match.sparseCases true in
theorem qx (CA:aV B C mN)(G:Glob B){ai T:Addr}(hi:mN "_iter_namespaces"=some (.ref ai))(Fi:aY B ai (aD (ak 1)) bM cF (.ref T))(e7:∃o,B.base ai=some o∧o.cls=.type "function")(hT:∃o q,B.base T=some o∧o.data=.seq #[.type "reversed"] q)(hA:A.handled=none)(a0:A.depth<Ed)
  {x:Str}{P:Addr}{Q:Flow→Shared→Prop}(W:WI C K σ s₀.heap)(f:Fo (aa (ak 3)).scope B env [] s₀ m s)(hv:Qv K x P m)(hP:s₀.heap.objs.size≤P)(c3:P≠env.locals)(hS:s.heap.SetOf (Db prog w) P (fun J=>false) 0)
  (q:∀s' T t1 t2 t3,Grw s₀ s'→s'.heap.IsTuple T #[.str x t1,.str x t2,.str DA t3]→Q (.ret (.ref T)) s'):wpAny (model prog w) A (execs ((aa (ak 3)).body.drop 2) env) Q E s:=by
 refine xEA e7 fun oi e9 ea=>?_;refine xAA (G.look s.heap f.keeps) fun J J c4=>?_;refine DL ?_;refine I0 ?_ (fun J=>rfl);refine aM rfl rfl rfl ?_;refine f.name rfl hv.self fun pl=>?_;refine(f.wi W).meth CA f.keeps hi e9 ea Nb.iter (by decide) ?_;refine aE (id Fi.obj) fun of g8 eb ec J=>?_;refine cf1 eb ec ?_;refine nT CA f.keeps (f.wi W) (v:=.ref K.lds) (by decide) Nb.decl (fun mA h=>h.decl) rfl (fun q=>f.name rfl hv.self q) ?_;refine⟨f.keeps,?_⟩;refine tM (s:={ s with toks:=s.toks+1 }) G Fi hT f.keeps a0 fun h3 ag H b5 mg ee V b2 c5 ef eg O b6=>?_;obtain W3:WI C K σ h3:=(f.wi W).to fun b o J e=>b2 b o e;refine bE ((f.wi W).decl) fun l0 t0 uu tu yy ty d1 d2 d3 d4 d5 d6 d7=>?_;have c6:(s.gens.push (Le (.func bM H)))[s.gens.size]?=some (.fresh (.func bM H)):=by simp
 obtain Ge:Gb h3 K.lds l0 (.ref t0) σ.ds:=⟨IsL.mv d1 fun _ e=>b2 _ _ e,IsL.mv d2 fun _ e=>b2 _ _ e,fun d hd=>IsL.mv ((((f.wi W).ds d hd).1)) fun _ e=>b2 _ _ e⟩
 have a8:∀{a:Addr} {items:Array Value},IsL s.heap a items→a≠H.locals:=fun⟨_,e⟩=>by refine(ir V)▸?_;exact Dh (rl e)
 have al:s.heap.objs.size≤h3.objs.size:=by
  have:=c5.lt;exact D9 this
 have Z:∀b o,s.heap.get? b=some o→b<h3.objs.size∧b≠H.locals:=fun b o e=>by
  have:=rl e;exact⟨De this al,by refine(ir V)▸?_;exact Dh this⟩
 obtain eh:DS env=false:=by unfold DS;refine(ir f.scp)▸?_;rfl
 obtain c7:∃o,s.heap.get? P=some o∧∃es ep t,o.data=.set es ep t:=by refine iO hS fun o es ep t ho J hd J=>?_;exact Ag o ho es ep t hd
 refine Ah c7 fun oP b4 gb gd gg gk=>?_;have ca:∀{a:Addr} {items:Array Value},IsL s.heap a items→a≠P:=fun⟨q,e⟩ h=>by rw[h,b4]at e;injection e with e;subst e;contradiction
 have cb:∀{a:Addr} {items:Array Value},IsL s.heap a items→a≠env.locals:=fun⟨q,e⟩ h=>by
  refine bg f.ns fun oD es ep e1 e2 J=>?_;rw[h,e1]at e;injection e with e;subst e;contradiction
 obtain gp:∀o,s.heap.get? t0=some o→t0≠env.locals:=fun o e h=>by
  refine gJ d3 fun ot g1 J J g2=>?_;refine bg f.ns fun oD es ep e1 e2 J=>?_;rw[h,e1]at g1;injection g1 with g1;subst g1;rw[e2]at g2;contradiction
 let ei:Shared→Prop:=fun s'=>Same s s'∧(∀b o,b≠env.locals→b≠P→s.heap.get? b=some o→s'.heap.get? b=some o)∧(∃m',s'.heap.Ns env.locals m'∧Qv K x P m')∧(∃S k,s'.heap.SetOf (Db prog w) P S k∧S DA=false)∧s'.heap.IsGen ag s.gens.size∧s'.heap.NoLimit∧
  ∃gs',s'.gens[s.gens.size]?=some gs'∧gs'.Goes (model prog w) A.in1 (wC h3.objs.size H.locals) (fP h3.objs.size H.locals K.lds l0 (.ref t0)) 0 (.send .none) (s'.setGen s.gens.size .running)
 refine wpAny_pyIter_gen O ?_;refine codeAny_forLoop_any (I:=fun n s'=>match n with|1=>s'=({ s with heap:=h3,gens:=s.gens.push (.fresh (.func bM H)),toks:=b5 }:Shared)|0=>ei s'|_=>False) ?_ 1 rfl;intro n s' hI
 match n,hI with
 |1,hI=>
  subst hI;refine nS (n:=1) (P:=fun n s₀ s₁=>n=0∧Sinc h3.objs.size H.locals s₀ s₁) (Y:=fP h3.objs.size H.locals K.lds l0 (.ref t0)) hA (c4.keeps b2) a0 O c6 ?_ (fun v s₁ gs' hb b3=>?_) fun s₁ hp h' b7=>absurd hp.1 (by decide)
  ·exact yk (s:=({ s with heap:=h3,gens:=s.gens.push (.fresh (.func bM H)),toks:=b5 }:Shared).setGen s.gens.size .running) hA ee (by refine(ir V)▸?_;exact c5) ef eg Ge ⟨a8 d1,a8 d2,fun d hd=>a8 ((f.wi W).ds d hd).1⟩
  ·refine xAA b3 fun ej eo b1=>?_;clear b3;subst ej;refine aL eo fun h4 cc hs1 a9=>?_;have k4:∀b o,s.heap.get? b=some o→h4.get? b=some o:=fun b o e=>a9 b o (Z b o e).1 (Z b o e).2 (b2 b o e);obtain er:∃x,s₁.gens[s.gens.size]?=some x:=⟨.running,by refine(ir hs1)▸?_;exact jv (s:=({ s with heap:=h3,gens:=s.gens.push (.fresh (.func bM H)),toks:=b5 }:Shared)) c6⟩
   refine xE er fun xg ch=>?_;have ci:(s₁.setGen s.gens.size gs').gens[s.gens.size]?=some gs':=jv ch
   have bx:Same s (s₁.setGen s.gens.size gs'):=by
    refine yAA (by refine(ir hs1)▸?_;rfl) (by refine(ir hs1)▸?_;rfl) (fun c0=>fQ hb ?_);refine(ir hs1)▸?_;exact fQ (s:=({ s with heap:=h3,gens:=s.gens.push (.fresh (.func bM H)),toks:=b5 }:Shared)) rfl (c0.push rfl)
   have dv:(s₁.setGen s.gens.size gs').heap=h4:=by refine(ir hs1)▸?_;rfl
   generalize s₁.setGen s.gens.size gs'=S4 at ci bx dv⊢;subst dv;have k1:s₁.heap=S4.heap:=by rw[hs1]
   rw[k1]at b1;clear hs1 ch k1;obtain f4:Fo (aa (ak 3)).scope B env [] s₀ m S4:=f.later hP bx (fun b o J J e=>k4 b o e) (f.ns.keeps k4);refine l7 (g:=s.gens.size) (IsGen.keeps' O fun o e=>a9 _ o (rl e) (by refine(ir V)▸?_;exact Dl b6) e) ?_;obtain et:S4.heap.IsTuple t0 #[.str uu tu,.str yy ty]:=by refine xEA d3 fun ot g1 g2=>?_;exact yEA ot (k4 _ _ g1) g2
   refine G7 hA et rfl rfl fun h5 ey=>?_;have k5:∀b o,S4.heap.get? b=some o→h5.get? b=some o:=fun b o e=>ey b o (fun q=>by rw[q]at e;exact absurd (rl e) (DF _)) e;obtain f5:Fo (aa (ak 3)).scope B env [] s₀ m { S4 with heap:=h5 }:=f4.go (t:=S4.toks) k5;refine Ey (Ea (f5.putE rfl fun h6 gz f6 f0=>?_));refine Ey (Ea (f6.putE rfl fun h7 h0 f7 f1=>?_));refine GF ?_;have v7:Qv K x P (upd (upd m "u" (.str uu tu)) "prefix" (.str yy ty)):=hv.upd.upd;have g1:upd (upd m "u" (.str uu tu)) "prefix" (.str yy ty) "u"=some (.str uu tu):=ah (by decide) ar;have g2:upd (upd m "u" (.str uu tu)) "prefix" (.str yy ty) "prefix"=some (.str yy ty):=ar;refine xE v7.uri fun tr e0=>?_;generalize upd (upd m "u" (.str uu tu)) "prefix" (.str yy ty)=m7 at f7 v7 g1 g2 e0;refine csI (ED (Ef (DI ?_ rfl)));refine f7.name rfl g1 ?_;refine f7.name rfl e0 ?_;refine Ln ?_;refine(ir (show(uu.cps.toList==DA.cps.toList)=false from beq_eq_false_iff_ne.mpr (fun h=>d4 (by cases uu;congr;exact ES.mp h))))▸?_;refine DJ ?_;refine C7 ?_;refine csE ?_ eh;refine Dk rfl rfl rfl ?_;refine f7.name rfl v7.seen ?_;have k7:∀b o,b≠env.locals→S4.heap.get? b=some o→h7.get? b=some o:=fun b o hb e=>f1.extBut b o hb (f0.extBut b o hb (k5 b o e));have c1:h7.SetOf (Db prog w) P (fun J=>false) 0:=SetOf.at hS fun o e=>k7 _ _ c3 (k4 _ _ e);refine mOn F.plainAttrs_set F.slot_set_add F.type_set_add (Heap.SetOf.typeIs (s:={ S4 with heap:=h7 }) c1) (Heap.SetOf.noDict (s:={ S4 with heap:=h7 }) c1) ?_;refine cw1 (f7.name rfl g2 ?_);refine call_set_add (k:=yy) (Gn prog w _ _) rfl c1 (by decide) fun h8 c2 f2=>?_;refine C7 ?_;refine yEA 0 (by exact DT _) ?_;have k8:∀b o,b≠env.locals→b≠P→S4.heap.get? b=some o→h8.get? b=some o:=fun b o h1 h2 e=>c2.extBut b o h2 (k7 b o h1 e);obtain f3:H.locals≠env.locals:=by refine(ir V)▸?_;exact Dl f.ns.lt
   obtain f8:H.locals≠P:=by refine(ir V)▸?_;exact Dl (rl b4)
   obtain e4:∀b,h3.objs.size≤b→b≠env.locals∧b≠P:=fun b hb=>⟨Dl (De f.ns.lt (Df al hb)),Dl (De (rl b4) (Df al hb))⟩
   refine sC (bx.trans ⟨rfl,rfl,id⟩) (fun b o h1 h2 e=>k8 b o h1 h2 (k4 b o e)) ⟨m7,f7.ns.at' fun o e=>c2.extBut _ o (EL c3) e,v7⟩ ⟨_,_,f2,?_⟩ ?_ ?_ gs' ci ?_
   ·show(false||decide (DA=yy))=false;refine(ir (decide_eq_false (EL d5)))▸?_;rfl
   ·refine IsGen.keeps' O fun o e=>?_;obtain e5:ag<h3.objs.size:=rl e;refine k8 _ o ?_ ?_ (a9 _ o e5 (by refine(ir V)▸?_;exact Dl b6) e)
    ·exact Dl (DW f.ns.lt b6)
    ·exact Dl (DW (rl b4) b6)
   ·obtain fa:Mine.Lake.Keeps B h8:=fun a o e=>by
     refine c2.extBut _ o (fun q=>?_) (f7.keeps _ _ e);have:=f.base _ _ e;rw[q]at this;exact FS.mpr hP (rl this)
    exact(G.look h8 fa).2.2
   ·refine b1 _ fun b hb o e=>?_
    have he:b≠env.locals∧b≠P:=by
     rcases hb with rfl|hb|rfl|rfl
     ·exact⟨f3,f8⟩
     ·exact e4 b hb
     ·exact⟨cb d1,ca d1⟩
     ·exact⟨cb d2,ca d2⟩
    exact k8 b o he.1 he.2 e
 |0,hI=>
  refine sD hI fun hs hk fc fl fp fs gs' e6 g0=>?_;refine xEA fc fun m' g3 b3=>?_;refine aL fl fun S k g4 g5=>?_;refine nS (n:=0) (P:=fun n s₀ s₁=>n=0∧Sinc h3.objs.size H.locals s₀ s₁) (Y:=fP h3.objs.size H.locals K.lds l0 (.ref t0)) hA fs a0 fp e6 g0 (fun v s₁ gs' hb b3=>?_) fun s₁ hp h' b7=>?_
  ·refine xAA b3 fun J J b1=>?_;exact(b1 s₁ fun J J J e=>e).elim
  ·refine Bl hp fun J h4 cc g6 a9=>?_;clear hp;subst g6;refine C7 ?_;have be:env.locals<h3.objs.size∧env.locals≠H.locals:=by refine(ir V)▸?_;exact⟨De f.ns.lt al,Dh f.ns.lt⟩
   have bk:P<h3.objs.size∧P≠H.locals:=Z _ _ b4;obtain f9:Fo (aa (ak 3)).scope B env [] s₀ m' { (({ (s'.setGen s.gens.size .running)with heap:=h4,toks:=cc }:Shared).setGen s.gens.size .finished)with heap:=h' }:=f.later hP ⟨hs.1,hs.2.1,fun c0=>fQ rfl (fQ (s:=s') rfl (hs.2.2 c0))⟩ (fun b o h1 h2 e=>b7 b o (a9 b o (Z b o e).1 (Z b o e).2 (hk b o h1 h2 e))) (g3.at' fun o e=>b7 _ o (a9 _ o be.1 be.2 e));obtain g7:h'.SetOf (Db prog w) P S k:=SetOf.at g4 fun o e=>b7 _ o (a9 _ o bk.1 bk.2 e);exact qw CA W f9 b3 g7 g5 q
 |n+2,hI=>exact hI.elim
theorem jw (G:Glob B)(CA:aV B C mN){ai T:Addr}(hi:mN "_iter_namespaces"=some (.ref ai))(Fi:aY B ai (aD (ak 1)) bM cF (.ref T))(ag:∃o,B.base ai=some o∧o.cls=.type "function")(hT:∃o q,B.base T=some o∧o.data=.seq #[.type "reversed"] q)(hset:G.val "set"=some (.type "set"))(hA:A.handled=none)(O:A.depth<Ed)
  {x:Str}{t:Tok}{c:Nat}{r:List Nat}{Q:Flow→Shared→Prop}(hx:x.cps.toList=c::r)(hc:c≠123)(hl:x.length≤1000)
  (W:WI C K σ s₀.heap)(f:Fo (aa (ak 3)).scope B env [] s₀ m s)(al:m "self"=some (.ref K.x))(V:m "qname"=some (.str x t))(b1:m "uri"=some .none)
  (q:∀s' T t1 t2 t3,Grw s₀ s'→s'.heap.IsTuple T #[.str x t1,.str x t2,.str DA t3]→Q (.ret (.ref T)) s'):wpAny (model prog w) A (execs (aa (ak 3)).body env) Q E s:=by
 have hI:DS env=false:=by unfold DS;refine(ir f.scp)▸?_;rfl
 refine csI (DI (f.name rfl b1 (D5 (PySem.is_none ?_))) rfl);refine DJ ?_;refine DL ?_;refine Assign_Tuple ?_ (by rfl) (by rfl);refine J2 (DI ?_ rfl);refine Kv ?_;refine f.name rfl V ?_;refine nb ?_;rw[evalPart_some];refine Dj ?_;refine⟨x,t,none,some ((1:Int),s.toks),rfl,rfl,rfl,?_⟩;refine wF hx (by lia -abstractProof) fun t1 k1=>?_;refine Ds ?_;refine P.eq_str ?_;refine(ir (show((⟨#[c]⟩:Str).cps.toList==("{":Str).cps.toList)=false from beq_eq_false_iff_ne.mpr (fun h=>hc (GD (show[c]=[123] from h)).1)))▸?_;refine DJ ?_;have f1:Fo _ B _ [] s₀ m { s with heap:=s.heap.push { cls:=.type "slice",data:=.fields #[.none,.int 1 s.toks,.none] },toks:=k1+1 }:=f.go (t:=k1+1) fun b o e=>mc _ e;refine(ir (if_neg En))▸?_;rw[arm_eval_Tuple];refine wb3 ?_;refine sp2 (Ds ?_);have f2:=f1.tok (t:=k1+1+1);refine f2.name rfl V ?_;refine Ga ?_ (by show 2≤Eu;refine(ir Di)▸?_;decide);generalize b5:(s.heap.push { cls:=.type "slice",data:=.fields #[.none,.int 1 s.toks,.none] })=h1 at f2⊢;have f3:=f2.go (t:=k1+1+1) (h':=h1.push { cls:=.type "tuple",data:=.seq [Du (t5 "") (k1+1),Du x t].toArray }) fun b o e=>mc _ e;have Z:(h1.push { cls:=.type "tuple",data:=.seq [Du (t5 "") (k1+1),Du x t].toArray }).IsTuple h1.objs.size #[Du (t5 "") (k1+1),Du x t]:=⟨_,rh _ rfl,rfl,_,rfl⟩
 refine G7 hA Z rfl rfl fun h' he=>?_;have f4:=f3.go (h':=h') (t:=k1+1+1) fun b o e=>he b o (fun q=>by rw[q]at e;exact absurd (rl e) (DF _)) e;refine Ey (Ea (f4.putS rfl fun s5 f5 J=>?_));refine Ey (Ea (f5.putS rfl fun s6 f6 J=>?_));refine GF ?_;refine C7 ?_;generalize H:upd (upd m "uri" (Du (t5 "") (k1+1))) "tag" (Du x t)=m6 at f6;obtain a0:m6 "self"=some (.ref K.x):=by refine H▸?_;exact ah (by decide) (ah (by decide) al)
 obtain a1:m6 "uri"=some (.str (t5 "") (k1+1)):=by refine H▸?_;exact ah (by decide) ar
 obtain a2:m6 "tag"=some (.str x t):=by refine H▸?_;exact ar
 clear f5 f4 f3 f2 f1 Z he H;refine csA ?_ (by rfl);refine il (f6.glob G rfl hset ?_);refine PyProof.Rows.callWith_type0 ?_;refine call_set_0 fun led=>?_;obtain f7:=f6.go (t:=s6.toks) (h':=s6.heap.push { cls:=.type "set",dict:=none,data:=.set #[] 0 (.fresh 0 0 led) }) fun b o e=>mc _ e;have a8:(s6.heap.push { cls:=.type "set",dict:=none,data:=.set #[] 0 (.fresh 0 0 led) }).SetOf (Db prog w) s6.heap.objs.size (fun J=>false) 0:=yl (led:=led) (rh _ rfl);generalize hP:s6.heap.objs.size=P at a8⊢
 obtain b2:s₀.heap.objs.size≤P:=by
  refine hP▸?_;exact f6.size
 have a9:P≠env.locals:=by refine hP▸?_;exact Dl f6.ns.lt
 refine f7.putS rfl fun s8 f8 b3=>?_;obtain b4:s8.heap.SetOf (Db prog w) P (fun J=>false) 0:=SetOf.at a8 fun o e=>b3.extBut _ o a9 e;exact qx CA G hi Fi ag hT hA O W f8 ⟨ah (by decide) a0,⟨_,ah (by decide) a1⟩,⟨_,ah (by decide) a2⟩,ar⟩ b2 a9 b4 q
theorem qy (G:Glob B)(CA:aV B C mN){a ai T T3:Addr}(F:aY B a (aD (ak 3)) (aa (ak 3)).body (aa (ak 3)).scope (.ref T3))(Z:∃o q,B.base T3=some o∧o.data=.seq #[.none] q)(hi:mN "_iter_namespaces"=some (.ref ai))(Fi:aY B ai (aD (ak 1)) bM cF (.ref T))(a0:∃o,B.base ai=some o∧o.cls=.type "function")(hT:∃o q,B.base T=some o∧o.data=.seq #[.type "reversed"] q)(hset:G.val "set"=some (.type "set"))(H:Room (n+2) A)(hb:Mine.Lake.Keeps B s.heap)
  (W:WI C K σ s.heap){x:Str}{t:Tok}{c:Nat}{r:List Nat}{Q:Value→Shared→Prop}(V:x.cps.toList=c::r)(hc:c≠123)(hl:x.length≤1000)
  (q:∀s' T t1 t2 t3,Grw s s'→s'.heap.IsTuple T #[.str x t1,.str x t2,.str DA t3]→Q (.ref T) s'):wpAny (model prog w) A (call (.ref a) [.ref K.x,.str x t]) Q E s:=by
 refine aL Z fun oT qT a8 a9=>?_;refine bW G F hb (by have:=H.2.1;exact o9 this) (binds:=[("self",.ref K.x),("qname",.str x t),("uri",.none)]) (fun fd hp hd hkd=>?_) (by decide) (by intro x V;simp only[Da,Dr,or_false]at V;rcases V with rfl|rfl|rfl<;>rfl) fun O s₁ E' f ht=>?_
 ·cases fd;dsimp only at hp hd hkd;subst hp hd hkd;exact Fl rfl (hb _ _ a8) a9 (by rfl) (by rfl)
 ·have hr:=Room.deeper H O;exact jw (A:=A.deeper O) (Q:=qj Q) G CA hi Fi a0 hT hset hr.1 (by have:=hr.2.1;exact o1 this) V hc hl W (f.toFo fun J h=>(by simp at h)) rfl rfl rfl fun s' T t1 t2 t3 g h=>q s' T t1 t2 t3 g h
end
section
variable {prog:C9}{w:World}{A:Dq}{E:Value→Shared→Prop}{s s₀:Shared}{B:Fix}{C:Addr}{K:WK}{σ:Wst}{env:Env}{mN:Str→Option Value}{sc:Scope}{m:Str→Option Value}{n:Nat}
noncomputable def qz (B:Fix) (a:Addr):Prop:=∃o,B.base a=some o∧o.cls=.type "function"
noncomputable def ym (B:Fix) (a:Addr) (xs:Array Value):Prop:=∃o q,B.base a=some o∧o.data=.seq xs q
structure CK (B:Fix)(G:Glob B)(C:Addr)(mN:Str→Option Value) where
 CA:aV B C mN
 ae:Addr
 he:G.val "_escape_cdata_c14n"=some (.ref ae)
 Fe:aY B ae (aD (ac 13)) (aa (ac 13)).body (aa (ac 13)).scope .none
 hset:G.val "set"=some (.type "set")
 ai:Addr
 Ti:Addr
 hi:mN "_iter_namespaces"=some (.ref ai)
 Fi:aY B ai (aD (ak 1)) bM cF (.ref Ti)
 hfi:qz B ai
 hTi:ym B Ti #[.type "reversed"]
 aq:Addr
 Tq:Addr
 hq:mN "_qname"=some (.ref aq)
 Fq:aY B aq (aD (ak 3)) (aa (ak 3)).body (aa (ak 3)).scope (.ref Tq)
 hfq:qz B aq
 hTq:ym B Tq #[.none]
 ad:Addr
 hd:mN "data"=some (.ref ad)
 Fd:aY B ad (aD (ak 4)) (aa (ak 4)).body (aa (ak 4)).scope .none
 hfd:qz B ad
 af:Addr
 Tf:Addr
 aj:Addr
 tj:Tok
 hf:mN "_flush"=some (.ref af)
 Ff:aY B af (aD (ak 5)) (aa (ak 5)).body (aa (ak 5)).scope (.ref Tf)
 hff:qz B af
 hTf:ym B Tf #[.ref aj]
 hj:B.base aj=some (aN "str.join" (.str DA tj))
 as:Addr
 hs:mN "start"=some (.ref as)
 Fs:aY B as (aD (ak 7)) (aa (ak 7)).body (aa (ak 7)).scope .none
 hfs:qz B as
 as1:Addr
 Ts:Addr
 hs1:mN "_start"=some (.ref as1)
 Fs1:aY B as1 (aD (ak 8)) (aa (ak 8)).body (aa (ak 8)).scope (.ref Ts)
 hfs1:qz B as1
 hTs:ym B Ts #[.none]
 an:Addr
 hn:mN "end"=some (.ref an)
 Fn:aY B an (aD (ak 9)) (aa (ak 9)).body (aa (ak 9)).scope .none
 hfn:qz B an
structure Nm (x:Str):Prop where
 ex:∃c r,x.cps.toList=c::r∧c≠123
 len:x.length≤100
theorem Stp.of {s':Shared}(hs:Same s s')(G:∀b o,b∉K.own→s.heap.get? b=some o→s'.heap.get? b=some o)(W:WI C K σ s'.heap):Stp K s s':=
 ⟨hs,G,fun a H J=>by refine xE (W.live a H) fun o O=>?_;refine(ir O)▸?_;rfl⟩
theorem CK.xC {G:Glob B}(k:CK B G C mN)(H:∀a∈K.own,B.base a=none):K.x≠C:=fun h=>by
 refine aC k.CA.obj fun nm q N bs sn sub col dd k0 k1 k2 k3 k5 hC J=>?_;have:=H K.x (by exact .head _);rw[h,hC]at this;contradiction
theorem gn {α:Type}(xs:List α)(v:α):(xs++[v]).toArray[(xs++[v]).toArray.size-1]?=some v:=by simp
theorem gq {α:Type}(xs:List α)(v:α):(xs++[v]).toArray.eraseIdxIfInBounds ((xs++[v]).toArray.size-1)=xs.toArray:=by
 apply ES.mp;simp[J0,List.eraseIdx_append_of_length_le]
theorem sb {items:Array Value}(h:0<items.size):∃xs v,items=(xs++[v]).toArray∧xs.length+1=items.size:=by
 refine dG items.toList.dropLast (items.toList.getLast (by intro e;have:=congrArg Ky e;rw[Eb]at this;simp at this;rw[this]at h;exact absurd h (by decide))) ?_ ?_
 ·rw[Jw]
 ·simp;lia -abstractProof
section
variable {h h':Heap}
theorem WI.setPs (W:WI C K σ h){k:Nat}(G:∀b o,b≠K.lps→h.get? b=some o→h'.get? b=some o)(hs:∃items:Array Value,IsL h' K.lps items∧items.size=k∧∀v∈items.toList,v=.bool false):WI C K { σ with np:=k } h':=
 W.rest (i:=5) rfl (by decide) (by decide) G rfl (W.dataStay (j:=5) rfl (by decide) G) (W.partsStay (j:=5) rfl (by decide) G) (W.declStay WK.mlps (W.at_ne (i:=3) (j:=5) rfl rfl (by decide)) G) (W.dsStay WK.mlps G) (W.nsStay (j:=5) rfl (by decide) G) hs
theorem WI.setNs (W:WI C K σ h){k:Nat}(G:∀b o,b≠K.lns→h.get? b=some o→h'.get? b=some o)(hs:∃items,IsL h' K.lns items∧items.size=k):WI C K { σ with nn:=k } h':=
 W.rest (i:=4) rfl (by decide) (by decide) G rfl (W.dataStay (j:=4) rfl (by decide) G) (W.partsStay (j:=4) rfl (by decide) G) (W.declStay WK.mlns (W.at_ne (i:=3) (j:=4) rfl rfl (by decide)) G) (W.dsStay WK.mlns G) hs (W.psStay (j:=4) rfl (by decide) G)
theorem WI.setDs (W:WI C K σ h){ds':List Addr}{items:Array Value}(hi:∀l0,IsL h K.lds (.ref l0::σ.ds.map .ref).toArray→items=(.ref l0::ds'.map .ref).toArray)(G:∀b o,b≠K.lds→h.get? b=some o→h'.get? b=some o)(hs:IsL h' K.lds items)(hd:∀d∈ds',IsL h d #[]∧d∉K.own):WI C K { σ with ds:=ds' } h':=by
 refine bE W.decl fun l0 t0 u tu y ty e1 e2 e3 e4 O J Z=>?_;refine gJ e3 fun ot g c n V=>?_;refine W.rest (i:=3) rfl (by decide) (by decide) G rfl (W.dataStay (j:=3) rfl (by decide) G) (W.partsStay (j:=3) rfl (by decide) G) ⟨l0,t0,u,tu,y,ty,?_,e2.stay G (fun q=>J (q▸WK.mlds)),⟨ot,G _ _ (fun q=>Z (q▸WK.mlds)) g,c,n,V⟩,e4,O,J,Z⟩ (fun d H=>⟨(hd d H).1.stay G (fun q=>(hd d H).2 (q▸WK.mlds)),(hd d H).2⟩) (W.nsStay (j:=3) rfl (by decide) G) (W.psStay (j:=3) rfl (by decide) G);refine(hi l0 e1)▸?_;exact hs
end
theorem Mw.to (f:Mw sc B C env K σ s₀ m s){G:Wst}{h':Heap}{t:Nat}{a:Addr}(H:a∈K.own)(J:∀b o,b≠a→s.heap.get? b=some o→h'.get? b=some o)(W:WI C K G h'):Mw sc B C env K G s₀ m { s with heap:=h',toks:=t }:=
 f.step (Stp.of ⟨rfl,rfl,id⟩ (fun b o hb e=>J b o (fun q=>hb (q▸H)) e) W) W
theorem BE {G slice:Expr}{t:Addr}{items:Array Value}{u:Tok}{x:Value}{Q:Value→Shared→Prop}(V:s.heap.IsTuple t items)(O:items[0]?=some x)(h:Q x s)
  (hs:J3 slice false (.ref t) (.int 0 u)=operate [.ref t,.int 0 u] (Kh (.ref t) (.int 0 u)):=by with_unfolding_all rfl):
  wpAny (model prog w) A (Gu G slice (.ref t) (.int 0 u)) Q E s:=by
 refine gJ V fun o Z hc n hd=>?_;have H:IsTup s.heap t items:=⟨o,Z,hc,n,hd⟩
 have J:0<items.size:=by
  rcases Nat.eq_zero_or_pos items.size with e|e
  ·rw[Array.getElem?_eq_none (by lia -abstractProof)]at O;contradiction
  ·exact e
 exact HI H.typeIs slot_tuple_getitem.lookup (getItem_tuple (j:=0) H (by decide) (by decide) (by unfold HM;simp[J]) O h) hs
theorem Mw.hasData (f:Mw sc B C env K σ s₀ m s)(CA:aV B C mN){p H:Pos}{Q:Bool→Shared→Prop}(V:σ.data.length≤1000)(hl:sc.names.lookup ("self":Str)=some .local)(q:Mw sc B C env K σ s₀ m { s with toks:=s.toks+1+1+1 }→Q (!σ.data.isEmpty) { s with toks:=s.toks+1+1+1 }):
  wpAny (model prog w) A (isTrue (.Attribute (.Name "self" p) "_data" H) env (eval (.Attribute (.Name "self" p) "_data" H) env)) Q E s:=by
 refine DP ?_;refine f.attr CA (v:=.ref K.ld) (by decide) Nb.data (fun mA h=>h.data) rfl (fun J=>?_) hl;refine xEA J.wi.data fun us Z hr=>?_;have G:=hr.length;refine Ha Z.isList (by simp;lia -abstractProof) ?_
 have:(!us.toArray.isEmpty)= !σ.data.isEmpty:=by
  cases O:σ.data with
  |nil=>rw[O]at G;cases us with
   |nil=>rfl
   |cons _ _=>contradiction
  |cons _ _=>rw[O]at G;cases us with
   |nil=>contradiction
   |cons _ _=>rfl
 refine(ir this)▸?_;exact q (J.tok (t:=s.toks+1+1+1))
noncomputable def eQ (x:Str):Str:=DA++"</"++x++">"
theorem Mw.setDone {v:Value}{p:Pos}{R:Unit→Shared→Prop}(f:Mw sc B C env K σ s₀ m s)(CA:aV B C mN)(hx:K.x≠C)(hs:sc.names.lookup ("self":Str)=some .local)(k:∀s',Mw sc B C env K σ s₀ m s'→R () s'):
  wpAny (model prog w) A (eval (.Name "self" p) env) (fun ov s₂=>wpAny (model prog w) A (Kf ov "_root_done" v) R E s₂) E s:=by
 refine f.me (hl:=hs) ?_;refine f.wi.store CA f.keeps (by decide) Nb.done hx (r':=σ.root) (fun mA h=>?_) fun s' h1 h2 W=>k s' (f.step (Stp.of h1 h2 W) W);have G:∀{z:Str} {v:Value} {r:Option Value},z≠("_root_done":Str)→mA z=r→(fun(y:Str)=>if y=("_root_done":Str) then some v else mA y) z=r:=fun h e=>(if_neg h).trans e;obtain⟨a1,a2,a3,a4,a5,a6,a7,a8,a9,H,J,O,V,⟨t,Z⟩⟩:=h;exact⟨G (by decide) a1,G (by decide) a2,G (by decide) a3,G (by decide) a4,G (by decide) a5,G (by decide) a6,G (by decide) a7,G (by decide) a8,G (by decide) a9,G (by decide) H,G (by decide) J,G (by decide) O,G (by decide) V,⟨t,G (by decide) Z⟩⟩
section
variable {nm:Str}{p1 p2 p3 p4 p5:Pos}{rest:List Stmt}{Q:Flow→Shared→Prop}
theorem Mw.popS {a:Addr}{items:Array Value}{y:Value}(f:Mw sc B C env K σ s₀ m s)(CA:aV B C mN)(O:DS env=false)(hn:nm∈aI)(hb:Dw (.type "object") nm=pure none)(V:∀J,bI K σ.root J→J nm=some (.ref a))(hs:sc.names.lookup ("self":Str)=some .local)
  (Z:Gs (.Call (.Attribute (.Attribute (.Name "self" p1) nm p2) "pop" p3) [] [] p4) none p5.line env=pure false)(hba:Ht (.Attribute (.Name "self" p1) nm p2) "pop" env (eval (.Attribute (.Name "self" p1) nm p2) env)=eval (.Attribute (.Name "self" p1) nm p2) env)(G:(p3.endLine==p4.line)=true)
  (hl:IsL s.heap a items)(hy:items[items.size-1]?=some y)(H:items.size≤1000)(k:∀h' t,IsL h' a (items.eraseIdxIfInBounds (items.size-1))→(∀b o,b≠a→s.heap.get? b=some o→h'.get? b=some o)→wpAny (model prog w) A (execs rest env) Q E { s with heap:=h',toks:=t }):
  wpAny (model prog w) A (execs (.Expr (.Call (.Attribute (.Attribute (.Name "self" p1) nm p2) "pop" p3) [] [] p4) p5::rest) env) Q E s:=by
 refine csE ?_ O Z;refine Dk hba rfl G ?_;refine f.attr CA hn hb V rfl (fun _=>?_) hs;refine CT (s:={ s with toks:=s.toks+1 }) hl ?_;exact tJ (s:={ s with toks:=s.toks+1 }) hl hy H fun h' h1 h2=>k h' _ h1 h2
theorem Mw.popPs (f:Mw sc B C env K σ s₀ m s)(CA:aV B C mN)(Z:DS env=false)(hs:sc.names.lookup ("self":Str)=some .local)(hw:Gs (.Call (.Attribute (.Attribute (.Name "self" p1) "_preserve_space" p2) "pop" p3) [] [] p4) none p5.line env=pure false)
  (hba:Ht (.Attribute (.Name "self" p1) "_preserve_space" p2) "pop" env (eval (.Attribute (.Name "self" p1) "_preserve_space" p2) env)=eval (.Attribute (.Name "self" p1) "_preserve_space" p2) env)(H:(p3.endLine==p4.line)=true)(J:0<σ.np)(O:σ.np≤800)
  (k:∀s',Mw sc B C env K { σ with np:=σ.np-1 } s₀ m s'→wpAny (model prog w) A (execs rest env) Q E s'):wpAny (model prog w) A (execs (.Expr (.Call (.Attribute (.Attribute (.Name "self" p1) "_preserve_space" p2) "pop" p3) [] [] p4) p5::rest) env) Q E s:=by
 refine aQ f.wi.ps fun ip G hn hb=>?_;refine aL (sb (items:=ip) (hn▸J)) fun xs v e hx=>?_;rw[e]at G hb hn;refine f.popS CA Z (by decide) Nb.psp (fun mA h=>h.psp) hs hw hba H G (gn xs v) (by refine(ir hn)▸?_;exact Df O (by decide)) fun h' t h1 h2=>?_;rw[gq]at h1;exact k _ (f.to WK.mlps h2 (f.wi.setPs (k:=σ.np-1) h2 ⟨_,h1,KO (hx.trans ((congrArg Array.size e).trans hn)),fun u V=>hb u (by simp at V⊢;exact .inl V)⟩))
theorem Mw.popNs (f:Mw sc B C env K σ s₀ m s)(CA:aV B C mN)(V:DS env=false)(hs:sc.names.lookup ("self":Str)=some .local)(Z:Gs (.Call (.Attribute (.Attribute (.Name "self" p1) "_ns_stack" p2) "pop" p3) [] [] p4) none p5.line env=pure false)
  (hba:Ht (.Attribute (.Name "self" p1) "_ns_stack" p2) "pop" env (eval (.Attribute (.Name "self" p1) "_ns_stack" p2) env)=eval (.Attribute (.Name "self" p1) "_ns_stack" p2) env)(H:(p3.endLine==p4.line)=true)(J:0<σ.nn)(O:σ.nn≤800)
  (k:∀s',Mw sc B C env K { σ with nn:=σ.nn-1 } s₀ m s'→wpAny (model prog w) A (execs rest env) Q E s'):wpAny (model prog w) A (execs (.Expr (.Call (.Attribute (.Attribute (.Name "self" p1) "_ns_stack" p2) "pop" p3) [] [] p4) p5::rest) env) Q E s:=by
 refine xEA f.wi.ns fun ip G hn=>?_;refine aL (sb (items:=ip) (hn▸J)) fun xs v e hx=>?_;rw[e]at G hn;refine f.popS CA V (by decide) Nb.nss (fun mA h=>h.nss) hs Z hba H G (gn xs v) (by refine(ir hn)▸?_;exact Df O (by decide)) fun h' t h1 h2=>?_;rw[gq]at h1;exact k _ (f.to WK.mlns h2 (f.wi.setNs (k:=σ.nn-1) h2 ⟨_,h1,KO (hx.trans ((congrArg Array.size e).trans hn))⟩))
theorem Mw.popDs {ds:List Addr}{d:Addr}(f:Mw sc B C env K σ s₀ m s)(CA:aV B C mN)(hI:DS env=false)(hs:sc.names.lookup ("self":Str)=some .local)(hw:Gs (.Call (.Attribute (.Attribute (.Name "self" p1) "_declared_ns_stack" p2) "pop" p3) [] [] p4) none p5.line env=pure false)
  (hba:Ht (.Attribute (.Name "self" p1) "_declared_ns_stack" p2) "pop" env (eval (.Attribute (.Name "self" p1) "_declared_ns_stack" p2) env)=eval (.Attribute (.Name "self" p1) "_declared_ns_stack" p2) env)(J:(p3.endLine==p4.line)=true)(H:σ.ds=ds++[d])(O:σ.ds.length≤800)
  (k:∀s',Mw sc B C env K { σ with ds:=ds } s₀ m s'→wpAny (model prog w) A (execs rest env) Q E s'):wpAny (model prog w) A (execs (.Expr (.Call (.Attribute (.Attribute (.Name "self" p1) "_declared_ns_stack" p2) "pop" p3) [] [] p4) p5::rest) env) Q E s:=by
 refine bE f.wi.decl fun l0 t0 uu tu yy ty e1 e2 e3 e4 e5 e6 e7=>?_;have G:∀l0,(D7 l0::σ.ds.map D7)=(D7 l0::ds.map D7)++[.ref d]:=fun l0=>by refine(ir H)▸?_;simp
 have g:=e1;rw[G]at e1;refine f.popS CA hI (by decide) Nb.decl (fun mA h=>h.decl) hs hw hba J e1 (gn _ _) (by rw[←G,Es,Ep,Gi];exact Df (EV O) (by decide)) fun h' t h1 h2=>?_;rw[gq]at h1;refine k _ (f.to WK.mlds h2 (f.wi.setDs (ds':=ds) (items:=(.ref l0::ds.map .ref).toArray) (fun l1 V=>?_) h2 h1 fun d' Z=>f.wi.ds d' (by show d'∈σ.ds;refine(ir H)▸?_;exact List.mem_append_left _ Z)));refine xE g fun q1 g1=>?_;refine xE V fun q2 V=>?_;injection Dd (g1.symm.trans V)with _ _ h3 _;injection h3 with h4;have h5:=congrArg Array.toList h4;simp only[G l1,G l0]at h5;exact congrArg Fg (List.append_cancel_right h5)
end
theorem wG {G:Glob B}(k:CK B G C mN)(ag:G.val "len"=some (.builtin "len"))(hO:∀a∈K.own,B.base a=none)(H:Room (n+3) A){x y:Str}{t:Tok}{Q:Flow→Shared→Prop}(al:WrAt K s₀.heap)(hx:cr x)(hy:Nm y){ds:List Addr}{d:Addr}
  (f:Mw (aa (ak 9)).scope B C env K σ s₀ m s)(hm:m "tag"=some (.str y t))(hd:σ.data=[x])(hr:σ.root=true)(b7:σ.ds=ds++[d])(be:0<σ.np)(bk:0<σ.nn)(bx:σ.parts.length≤800∧σ.ds.length≤800∧σ.np≤800∧σ.nn≤800)
  (q:∀s',Stp K s₀ s'→WI C K { σ with data:=[],parts:=σ.parts++bP x++[eQ y],ds:=ds,np:=σ.np-1,nn:=σ.nn-1 } s'.heap→Q .next s'):wpAny (model prog w) A (execs (aa (ak 9)).body env) Q E s:=by
 refine cL bx fun z1 z2 z3 z4=>?_;have hI:DS env=false:=by unfold DS;refine(ir f.fo.scp)▸?_;rfl
 refine csI (DP ?_);refine f.ign k.CA fun ti f1=>?_;refine truthy_int ?_;refine C7 ?_;refine csI (f1.hasData k.CA (by refine(ir hd)▸?_;exact DT _) rfl fun O=>?_);refine(ir hd)▸?_;refine csE ?_ hI;refine aM rfl rfl rfl ?_;refine O.me fun pl=>?_;refine xEA k.hff fun oF c0 c1=>?_;refine O.wi.meth k.CA O.keeps k.hf c0 c1 Nb.flush (by decide) ?_;refine aE (id k.Ff.obj) fun d5 d6 b1 c2 J=>?_;refine cf0 b1 c2 O.keeps ?_;refine ju (n:=n+1) G k.CA hO k.he k.Fe k.hj k.Ff k.hTf H O.keeps O.wi (al.stp O.stp) hx hd hr (by lia -abstractProof) fun s3 g3 W3=>?_;have f3:=O.step g3 W3;clear O f1 f;refine C7 ?_;refine csE ?_ hI;refine aM rfl rfl rfl ?_;refine f3.me fun pl=>?_;refine aQ (al.stp f3.stp) fun aw c3 d7 c4=>?_;refine f3.attrM k.CA (v:=.ref aw) (by decide) Nb.write (fun mA h=>by refine c3▸?_;exact h.write) rfl ?_;have f4:=f3.tok (t:=s3.toks+1);refine wx (id:="list.append") (x:=.ref K.lp) ?_;refine JoinedStr_many ?_;refine Ko (Ds ⟨by size_fits,?_⟩);have V:=f4.tok (t:=s3.toks+1+1);refine Ko (FormattedValue_plain ?_);refine FC ?_;refine aM rfl rfl rfl ?_;refine V.me fun pl=>?_;refine xEA k.hfq fun oQ c5 c6=>?_;refine V.wi.meth k.CA V.keeps k.hq c5 c6 Nb.qname (by decide) ?_;refine aE (id k.Fq.obj) fun dv e0 b2 c7 J=>?_;refine cf1 b2 c7 ?_;refine V.name rfl hm ⟨V.keeps,?_⟩;refine aL hy.ex fun c r ca hc=>?_;have Z:=hy.len;refine qy (n:=n+1) G k.CA k.Fq k.hTq k.hi k.Fi k.hfi k.hTi k.hset H V.keeps V.wi ca hc (by exact o50 Z) fun s6 Tq t1 t2 t3 g6 cb=>?_;have f6:=V.grw g6;refine Dj ?_;refine BE cb rfl ?_;refine formatField_str (fun t' tk=>?_) (by refine(ir Di)▸?_;exact Bs Z);have f7:=f6.tok (t:=tk);refine⟨by rw[Gv,Gv,Di];show 0+2+y.length≤_;lia -abstractProof,?_⟩;refine Ko (Ds ⟨by rw[Gv,Gv,Gv,Di];show 0+2+y.length+1≤_;exact o86 Z,?_⟩);refine joinParts_nil ?_ (by rw[Gv,Gv,Gv,Di];show 0+2+y.length+1≤_;exact o86 Z);have f8:=f7.tok (t:=tk+1+1);have b3:=g6.keep _ _ c4;refine⟨b3,?_⟩;refine xEA f8.wi.parts fun up cc b4=>?_;obtain a0:=b4.length;obtain d4:(bP x).length≤1:=by unfold bP;cases (x.length==0)<;>simp
 refine cE b3 cc (by simp at a0⊢;lia -abstractProof) fun h9 ch ci=>?_;have f9:=f8.setParts (t:=tk+1+1) ci (StrsAt.push b4 ch);clear f8 f7 f6 V f4 f3;refine f9.popPs k.CA hI rfl rfl rfl rfl be z3 fun s11 a8=>?_;clear f9;refine csT ?_ (by rfl);refine wpAny_Compare1 ?_ rfl;refine il (a8.glob G rfl ag ?_);refine cw1 ?_;refine a8.attr k.CA (v:=.ref K.lps) (by decide) Nb.psp (fun mA h=>h.psp) rfl (fun a9=>?_);refine aQ a9.wi.ps fun e4 b5 d1 J=>?_;refine Calls.call_len_list b5.isList (by lia -abstractProof) ?_;refine Dj ?_;refine PySem.P.eq_int ?_;refine Mw.setDone (a9.tok (t:=_)) k.CA (k.xC hO) rfl fun e5 d2=>?_;clear a9 a8;refine d2.popDs k.CA hI rfl rfl rfl rfl b7 z2 fun e6 d3=>?_;refine d3.popNs k.CA hI rfl rfl rfl rfl bk z4 fun e7 b6=>?_;exact C7 (q _ b6.stp b6.wi)
theorem wH {G:Glob B}(k:CK B G C mN)(O:G.val "len"=some (.builtin "len"))(hO:∀a∈K.own,B.base a=none)(H:Room (n+4) A)(hb:Mine.Lake.Keeps B s.heap)(W:WI C K σ s.heap)(V:WrAt K s.heap){x y:Str}{t:Tok}{Q:Value→Shared→Prop}(Z:cr x)(hy:Nm y){ds:List Addr}{d:Addr}
  (hd:σ.data=[x])(hr:σ.root=true)(a0:σ.ds=ds++[d])(a8:0<σ.np)(a9:0<σ.nn)(ag:σ.parts.length≤800∧σ.ds.length≤800∧σ.np≤800∧σ.nn≤800)
  (q:∀s',Stp K s s'→WI C K { σ with data:=[],parts:=σ.parts++bP x++[eQ y],ds:=ds,np:=σ.np-1,nn:=σ.nn-1 } s'.heap→Q .none s'):wpAny (model prog w) A (call (.ref k.an) [.ref K.x,.str y t]) Q E s:=by
 refine eP G k.Fn hb W hO (by have:=H.2.1;exact o68 this) (binds:=[("self",.ref K.x),("tag",.str y t)]) (fun fd hp hd hkd=>?_) (by decide) (by intro x Z;rcases Da.mp Z with e|e;(rw[e];rfl);(rw[DD.mp e];rfl)) rfl fun J s₁ E' f ht=>?_
 ·cases fd;dsimp only at hp hd hkd;subst hp hd hkd;exact FP (by rfl)
 ·exact wG (A:=A.deeper J) (n:=n) (Q:=qj Q) k O hO (Room.deeper H J) V Z hy f rfl hd hr a0 a8 a9 ag fun s' h1 h2=>q s' h1 h2
end
theorem tN (led:Bool)(h:Int)(x:Value):∃t d g,layNew (GO 0 0 led) #[] h x=(#[(h,x)],t,d,g)∧t.fits 1=true∧t.fill=1∧5<t.mask*3∧t.led=led:=by
 unfold layNew
 cases hs:(GO 0 0 led).freeSlot h with
 |none=>
  refine mP _ _ _ rfl ?_ ?_ ?_ rfl
  ·rfl
  ·rfl
  ·show 5<8*3;decide
 |some p=>
  obtain⟨B,d⟩:=p;dsimp only
  obtain he:Hw (#[]:Array (Int×Value)) ((GO 0 0 led).put B).2 (h,x)= #[(h,x)]:=by
   unfold Hw;rfl
  have hp:((GO 0 0 led).put B).1.place.size=1∧((GO 0 0 led).put B).1.dummies= #[]∧((GO 0 0 led).put B).1.mask=7:=by
   refine yAA ?_ ?_ rfl
   ·show(Hw (#[]:Array Nat) _ B).size=1;unfold Hw;rfl
   ·have:SetTable.has (#[]:Array Nat) B=false:=by unfold SetTable.has;rfl
    unfold SetTable.put;rfl
  refine(ir he)▸?_;refine mP _ _ _ rfl ?_ ?_ ?_ ?_
  ·show(E4 _ 1).fits 1=true;unfold E4
   split
   ·assumption
   ·rfl
  ·show(E4 _ 1).fill=1;unfold E4
   split
   ·unfold SetTable.fill;refine(ir hp.1)▸(ir hp.2.1)▸?_;rfl
   ·rfl
  ·show 5<(E4 _ 1).mask*3;unfold E4
   split
   ·refine(ir hp.2.2)▸?_;decide
   ·show 5<8*3;decide
  ·show(E4 _ 1).led=led;unfold E4
   split<;>rfl
section
variable {prog:C9}{w:World}{A:Dq}{E:Value→Shared→Prop}{s:Shared}
noncomputable def One (w:World) (h:Heap) (P:Addr) (y:Str) (ty:Tok):Prop:=∃B ep t,h.get? P=some { cls:=.type "set",dict:=none,data:=.set #[(B,.str y ty)] ep t,slots:= #[] }∧t.fits 1=true∧t.fill=1∧5<t.mask*3∧t.led= !w.params.followText "set-order"
theorem One.mv {w:World}{h h':Heap}{P:Addr}{y:Str}{ty:Tok}(x:One w h P y ty)(k:∀o,h.get? P=some o→h'.get? P=some o):One w h' P y ty:=DO (fun _=>DO fun _=>DO fun _ z=>⟨k _ z.1,z.2⟩) x
theorem tO {P:Addr}{y:Str}{ty:Tok}{led:Bool}(O:led= !w.params.followText "set-order"){Q:Bool→Shared→Prop}(ho:s.heap.get? P=some { cls:=.type "set",dict:=none,data:=.set #[] 0 (.fresh 0 0 led),slots:= #[] })
  (q:∀h' tk,One w h' P y ty→(∀b o,b≠P→s.heap.get? b=some o→h'.get? b=some o)→Q true { s with heap:=h',toks:=tk }):wpAny (model prog w) A (setAdd P (.str y ty)) Q E s:=by
 refine Dx (il ((Db prog w).pyHash (k:=y) (Gn prog w _ _) ?_));have V:ElemsOf (Db prog w) (#[]:Array (Int×Value)).toList:=fun J h=>(by simp at h)
 refine Dx (il (Fz (s:={ s with toks:=s.toks+1 }) ho rfl rfl ?_));refine(ir (byScan_of (knd:=Db prog w) (x:=.str y ty) rfl (by exact DT _) V))▸?_;simp only[↓reduceIte];unfold setAddByScan;refine il ?_;refine il (Fj ?_);refine il (wpAny_setScan_of (knd:=Db prog w) (s:={ s with toks:=s.toks+1 }) (k:=y) (Gn prog w _ _) ho rfl rfl V ?_);obtain h0:List.findIdx? (fun e:Int×Value=>(Db prog w).is y e.snd) (#[]:Array (Int×Value)).toList=none:=rfl;refine(ir h0)▸?_;refine fD (tN led ((Db prog w).hash y) (.str y ty)) fun t1 d g hL hf G H Z=>?_;refine(ir hL)▸?_
 obtain a8:∀(b:Bool) {s₁:Shared} {E':Value→Shared→Prop} {Q':Unit→Shared→Prop},Q' () s₁→wpAny (model prog w) A (match b with|true=>rule "set.scan.the-table-gave-way"|false=>pure ()) Q' E' s₁:=
  fun b s₁ E' Q' hq=>by cases b<;>first|exact nb hq|exact Fj hq
 refine il (a8 _ ?_)
 have fin:∀B:SetTable,B.fits 1=true→B.fill=1→5<B.mask*3→B.led=led→wpAny (model prog w) A (do
    storeSet P #[((Db prog w).hash y,Du y ty)] B
    if (!d&&B.tooFull)=true then (do
      let r ←(match relayAll B #[((Db prog w).hash y,Du y ty)] (SetTable.grown (#[((Db prog w).hash y,Du y ty)]:Array (Int×Value)).size)with
       |(es,t,a0)=>(do
        (match a0 with|true=>rule "set.scan.the-table-gave-way"|false=>pure ())
        storeSet P es t
        pure (some true):Sem (Option Bool)))
      pure r:Sem (Option Bool))
     else pure (some true)) (fun a s'=>wpAny (model prog w) A (match a with|some added=>pure added|none=>setAddHashedIn P (.str y ty) ((Db prog w).hash y) 99999) Q E s') E { s with toks:=s.toks+1 }:=by
  intro B f1 f2 f3 f4;refine il (wpAny_storeSet_of (s:={ s with toks:=s.toks+1 }) ho rfl ?_ (by size_fits))
  obtain a9:B.tooFull=false:=by
   unfold SetTable.tooFull;refine(ir f2)▸?_;exact decide_eq_false (by lia)
  rw[a9,Bool.and_false,if_neg En];refine nb (nb ?_)
  obtain this:(s.heap.update P (Obj.putSet #[((Db prog w).hash y,Du y ty)] B)).get? P=some { cls:=.type "set",dict:=none,data:=.set #[((Db prog w).hash y,Du y ty)] 1 B,slots:= #[] }:=
   Dy (Obj.putSet #[((Db prog w).hash y,Du y ty)] B) ho rfl
  exact q _ _ ⟨_,_,_,this,f1,f2,f3,f4.trans O⟩ aK
 cases hp:t1.plain with
 |false=>
  refine wbp ?_;exact fin t1 hf G H Z
 |true=>
  refine wbp ?_;exact fin { t1 with plain:=false } hf G H Z
set_option tactic.hygienic true in
theorem qA {P a:Addr}{y:Str}{ty:Tok}{Q:Unit→Shared→Prop}(hh:A.handled=none)(hP:One w s.heap P y ty)(hd:s.heap.DictOf (Db prog w) a [])(hsys:(a==EE)=false)
  (q:∀h',(∀b o,s.heap.get? b=some o→h'.get? b=some o)→Q () { s with heap:=h' }):wpAny (model prog w) A (setDisplayStar P (.ref a)) Q E s:=by
 refine xE hd.dictAt fun ep O=>?_;refine ek (id O) fun o es ho hex B hk hp hn=>?_;have hT:s.TypeIs (.ref a) "dict":=O.dictOf.typeIs;have V:es.size=0:=by refine Eb▸(ir hp.length)▸?_;rfl
 unfold setDisplayStar;dsimp only;refine il (FJ hT F.sub_dict_set ?_);refine il (FJ hT F.sub_dict_frozenset ?_);refine il (E0 ?_)
 have loop:wpAny (model prog w) A (do let __x ←Lh (.ref a);let _ ←runValue (.builtin "set.update.loop" ⟨[.ref P,__x],[]⟩);pure ()) Q E s:=by
  refine il (wpAny_pyIter_dict hsys O ?_);refine il (Kl (EU PyProof.Rows.F.entry_set_update_loop ?_));unfold DH.«set.update.loop»;dsimp only;have a0:(s.heap.push { cls:=.type "dict_keyiterator",data:=.fields #[.ref a,.int 0 0,.int (([]:List (Str×Value)).length:Nat) 0,.int ep 0] }).IsKeyIter s.heap.objs.size a 0 ([]:List (Str×Value)).length ep:=⟨_,rh _ rfl,rfl,rfl⟩
  refine il (wpAny_pyNext_dict_end (knd:=Db prog w) (kvs:=[]) (by exact hh) a0 (O.push _) rfl fun h' he=>?_);refine nb ?_;exact nb (q _ fun b o e=>he b o (Dh (rl e)) (mc _ e))
 split
 ·rename_i a' Z
  have:a'=a:=by
   split at Z
   ·contradiction
   ·injection Z with Z;subst Z;rfl
  clear Z loop O hd;subst this;refine il (FH hT ?_);refine il (Fj ?_);refine fF (by rw[hsys];exact En) ?_;refine il (wpAny_dictEpoch ho B ?_);refine il (wpAny_dictEntries ho B ?_);refine fD hP fun ag al t a8 hf G a9 J=>?_;refine il ?_;refine il (Fz a8 rfl hf ?_)
  have H:t.roomFor es.size=none:=by
   unfold SetTable.roomFor;rw[V,G,if_neg (by lia)]
  refine(ir H)▸?_;refine nb ?_;refine(ir V)▸?_;refine il ?_;have:∀f:Nat→PUnit→Sem (ForInStep PUnit),(forIn [:0] JG f:Sem PUnit)=pure JG:=fun f=>by simp[FX]
  rw[this];refine nb ?_;exact nb (q s.heap fun J J e=>e)
 ·exact loop
end
namespace Fs
theorem owner_si:Manifest.owners.lookup (String.ofList ['r','o','t','a','r','e','t','i','_','t','e','s'].reverse)=some Manifest.sig_set_iterator:=by kernel_rfl
theorem slot_si_next:Slot "set_iterator" "__next__" "set_iterator.__next__":=
 .of (owner:="set_iterator") (n:="__next__") (by rw[Dg,sl];kernel_rfl) (by rfl) (by rfl) (by rfl)
  (by first|exact .inl (by rfl)|exact .inr (by decide+kernel)) (by rw[FN];kernel_rfl)
theorem entry_si_next:He table "set_iterator.__next__"=some DH.«set_iterator.__next__»:=Gf (by kernel_rfl)
theorem args_si_next (a:Value):HB "set_iterator.__next__" ⟨[a],[]⟩:=by
 unfold HB;refine(ir (Ii (id:="set_iterator.__next__") (n:=['_','_','t','x','e','n','_','_']) (o:=['r','o','t','a','r','e','t','i','_','t','e','s']) (by kernel_rfl) owner_si))▸?_;kernel_rfl
theorem entry_set_iter:He table "set.__iter__"=some DH.«frozenset.__iter__»:=
 entryFor_alias (id':="frozenset.__iter__") (by kernel_rfl) (by first|rfl|decide+kernel) (by decide+kernel) (by kernel_rfl)
end Fs
section
variable {prog:C9}{w:World}{A:Dq}{E:Value→Shared→Prop}{s:Shared}
noncomputable def IsSetIter (h:Heap) (it P:Addr) (B i n ep:Nat):Prop:=∃o,h.get? it=some o∧o.cls=.type "set_iterator"∧o.data=.fields #[.int B 0,.int i 0,.ref P,.int n 0,.int ep 0]
theorem IsSetIter.typeIs {it P:Addr}{a b c d:Nat}(x:IsSetIter s.heap it P a b c d):s.TypeIs (.ref it) "set_iterator":=DO (fun _ z=>⟨z.1,z.2.1⟩) x
noncomputable def OneE (w:World) (h:Heap) (P:Addr) (y:Str) (ty:Tok) (ep:Nat):Prop:=∃B t,h.get? P=some { cls:=.type "set",dict:=none,data:=.set #[(B,.str y ty)] ep t,slots:= #[] }∧t.fits 1=true∧t.led= !w.params.followText "set-order"
theorem One.toE {h:Heap}{P:Addr}{y:Str}{ty:Tok}(x:One w h P y ty):∃ep,OneE w h P y ty ep:=x.elim fun B z=>z.elim fun ep z=>z.elim fun t z=>⟨ep,B,t,z.1,z.2.1,z.2.2.2.2⟩
theorem OneE.at {h h':Heap}{P:Addr}{y:Str}{ty:Tok}{ep:Nat}(x:OneE w h P y ty ep)(B:∀o,h.get? P=some o→h'.get? P=some o):OneE w h' P y ty ep:=DO (fun _=>DO fun _ z=>⟨B _ z.1,z.2⟩) x
theorem OneE.typeIs {P:Addr}{y:Str}{ty:Tok}{ep:Nat}(x:OneE w s.heap P y ty ep):s.TypeIs (.ref P) "set":=x.elim fun _ z=>z.elim fun _ z=>⟨_,z.1,rfl⟩
theorem wI (j k:Nat):Hl #[j] k=if j<k then 1 else 0:=by
 show Ic #[j] k 1 0 1=_;show(if (#[j]:Array Nat).getD 0 0<k then _ else _)=_;show(if j<k then Ic #[j] k 0 1 1 else Ic #[j] k 0 0 0)=_
 split<;>rfl
theorem zv {α:Type}(f:Nat→Nat)(x:α):pickOrder f #[x]= #[x]:=by
 show(match [x][f 0%1]? with|some y=>pickOrder.go f 0 1 ([x].eraseIdx (f 0%1)) ((#[]:Array α).push y)|none=> #[])= #[x];rw[Nat.mod_one];rfl
theorem wJ {P:Addr}{y:Str}{ty:Tok}{ep:Nat}{Q:Value→Shared→Prop}(B:OneE w s.heap P y ty ep)
  (q:∀h' it,IsSetIter h' it P 0 0 1 ep→s.heap.get? it=none→(∀b o,s.heap.get? b=some o→h'.get? b=some o)→Q (.ref it) { s with heap:=h' }):wpAny (model prog w) A (Lh (.ref P)) Q E s:=by
 refine aE (id B) fun H t G hf hl=>?_;refine wpAny_pyIter_slot B.typeIs F.slot_set_iter (Et F.slot_set_iter B.typeIs Fs.entry_set_iter ?_ (F.args_set_iter_1 _));show wpAny _ _ (Frozenset.sizeOf P >>= _) _ _ s;refine il (il (Ja G rfl hf (nb ?_)));show wpAny _ _ (setDrawn P >>= _) _ _ s;refine il (il (Fz G rfl hf ?_));refine il (il (E0 (nb (nb ?_))));refine Fv (show(!w.params.followText "set-order"&&(!t.plain&&decide (1>1)))=false from by simp) ?_;refine wbp ?_;refine il (il (Fz G rfl hf (nb ?_)));refine il (EF (nb ⟨_,rfl,"set_iterator",_,⟨_,rh _ rfl,rfl⟩,Fs.slot_si_next.lookup,?_⟩));exact q _ _ ⟨_,rh _ rfl,rfl,rfl⟩ (bb _) fun b o e=>mc _ e
noncomputable def Av (w:World) (h:Heap) (it P:Addr) (ep:Nat):Prop:=∃B,IsSetIter h it P B 1 1 ep∧(w.params.followText "set-order"=false→∀es t,h.get? P=some { cls:=.type "set",dict:=none,data:=.set es ep t,slots:= #[] }→∀j,t.place[0]?=some j→B=j+1)
set_option backward.match.sparseCases true in
theorem tP {P it:Addr}{y:Str}{ty:Tok}{ep:Nat}{E':Value→Shared→Prop}{Q:Option Value→Shared→Prop}(hP:OneE w s.heap P y ty ep)(O:IsSetIter s.heap it P 0 0 1 ep)
  (q:∀h',Av w h' it P ep→(∀b o,b≠it→s.heap.get? b=some o→h'.get? b=some o)→Q (some (.str y ty)) { s with heap:=h' }):wpAny (model prog w) A (Hp (.ref it)) Q E' s:=by
 refine aE (id hP) fun hh t H hf hl=>?_;refine aQ (id O) fun oi B a0 G=>?_;have V:P≠it:=fun h=>by rw[h,B]at H;injection H with H;subst H;contradiction
 refine il (Gr (EZ (name:=t5 "__next__") O.typeIs Fs.slot_si_next
  (Et Fs.slot_si_next O.typeIs Fs.entry_si_next ?_ (Fs.args_si_next _))))
 refine il (DU (a:=(D7 it,[])) rfl ?_);refine il (IR B G ?_);refine il (Ja H rfl hf ?_)
 have fin:∀(next:Nat) (E:Value→Shared→Prop),(w.params.followText "set-order"=false→∀j,t.place[0]?=some j→next=j+1)→
   wpAny (model prog w) A.in1 (do setField (.ref it) 0 (DE next);setField (.ref it) 1 (DE (((0:Nat):Int)+1));ret (.str y ty)) (fun fin s'=>∃v,fin=.done (.ret v)∧wpAny (model prog w) A (pure (some v)) Q E' s') E s:=by
  intro next E hn;refine il (HT B G (by simp) ?_);have h1:(s.heap.update it (Kb fun xs=>xs.setIfInBounds 0 (DE next))).get? it=some (oi.mapFields fun xs=>xs.setIfInBounds 0 (DE next)):=Dy _ B (Iw (Gg G _));have d1:(oi.mapFields fun xs=>xs.setIfInBounds 0 (DE next)).data=.fields #[.int next 0,.int ((0:Nat):Int) 0,.ref P,.int ((1:Nat):Int) 0,.int ep 0]:=by rw[Gg G];simp[DE]
  refine il (HT h1 d1 (by simp) ?_);refine nb ⟨_,rfl,nb (q _ ⟨next,⟨_,Dy _ h1 (Iw (Gg d1 _)),?_,?_⟩,fun hb es t' a8 j hj=>?_⟩ ?_)⟩
  ·rw[Jf,Jf];exact a0
  ·rw[Gg d1];simp[DE]
  ·have e2:s.heap.get? P=some { cls:=.type "set",dict:=none,data:=.set es ep t',slots:= #[] }:=by
    have:=a8;rwa [DC _ _ V.symm,DC _ _ V.symm]at this
   rw[H]at e2;injection e2 with e2;injection e2 with _ _ a9 _;injection a9 with ag _ al;subst ag;subst al;exact hn hb j hj
  ·exact fun b o hb e=>aK b o hb (aK b o hb e)
 refine il ?_;refine il (Fz H rfl hf ?_);refine il (il (E0 (nb ?_)))
 cases hb:w.params.followText "set-order" with
 |true=>
  refine F6 (show w.params.followText "set-order"=true from hb) ?_;refine fF (by simp) ?_;refine il (il (Fz H rfl hf ?_));refine il (il (E0 (nb ?_)));refine F6 (show w.params.followText "set-order"=true from hb) ?_;refine il (E0 (nb ?_));rw[zv];refine nb ?_;exact fin 0 _ fun h=>by rw[hb]at h;contradiction
 |false=>
  refine Fv (show w.params.followText "set-order"=false from hb) ?_;refine Fv (show(!t.plain&&decide (1>1))=false from by simp) ?_;refine il (m:=if (!t.led&& !(#[(hh,Du y ty)]:Array (Int×Value)).isEmpty)=true then Hv "set:maker-not-led" else pure ()) (Fv (by refine(ir hl)▸(ir hb)▸?_;rfl) (nb ?_))
  have Z:t.place.size=1:=by
   unfold Lm at hf;simp at hf;exact hf.1
  obtain⟨j,hj⟩:∃j,t.place= #[j]:=by
   rcases hT:t.place with⟨l⟩
   rw[hT]at Z
   match l,Z with
   |[a],_=>exact⟨a,rfl⟩
  show wpAny _ _ (pure (match (#[(hh,Du y ty)]:Array (Int×Value))[Hl t.place 0]?,t.place[Hl t.place 0]? with|some (_,x),some j=>some (x,j+1)|_,_=>none)) _ _ _;rw[hj,wI,if_neg (by lia -abstractProof)];refine nb ?_;exact fin (j+1) _ fun J j' h'=>by rw[hj]at h';simp at h';rw[h']
set_option backward.match.sparseCases true in
theorem tQ {P it:Addr}{y:Str}{ty:Tok}{ep:Nat}{Q:Option Value→Shared→Prop}(a0:A.handled=none)(hP:OneE w s.heap P y ty ep)(B:Av w s.heap it P ep)
  (q:∀h',(∀b o,b≠it→s.heap.get? b=some o→h'.get? b=some o)→Q none { s with heap:=h' }):wpAny (model prog w) A (Hp (.ref it)) Q E s:=by
 refine aE (id hP) fun hh t ho hf hl=>?_;refine xEA B fun G B H=>?_;refine aQ (id B) fun oi O a8 V=>?_
 refine il (Gr (EZ (name:=t5 "__next__") B.typeIs Fs.slot_si_next
  (Et Fs.slot_si_next B.typeIs Fs.entry_si_next ?_ (Fs.args_si_next _))))
 refine il (DU (a:=(D7 it,[])) rfl ?_);refine il (IR O V ?_);refine il (Ja ho rfl hf ?_)
 have fin:wpAny (model prog w) A.in1 (do setField (.ref it) 2 .none;let e ←newExc (.type "StopIteration") [];raiseNew e) (fun fin s'=>∃v,fin=PySem.Fin.done (.ret v)∧wpAny (model prog w) A (pure (some v)) Q E s')
   (fun e s'=>wpAny (model prog w) A (do let b ←isInstance e (.type "StopIteration");if b=true then pure none else throw e) Q E s') s:=by
  refine il (HT O V (by simp) ?_);refine il ?_;refine il (EF ?_ (by size_fits));refine il (m:=Hd _ _) (DU (a:=EG) (by first|rfl|(dsimp only[Hd];rfl)) ?_);refine EF ?_ (by size_fits);refine il (KH ?_);refine(ir (show A.in1.handled=none from a0))▸?_;refine wbp (wpAny_throw ?_);refine il (FJ (T:="StopIteration") (b:=true) ⟨_,rh _ rfl,rfl⟩ IV ?_);exact nb (q _ fun b o hb e=>mc _ (mc _ (aK b o hb e)))
 refine il ?_;refine il (Fz ho rfl hf ?_);refine il (il (E0 (nb ?_)))
 cases hb:w.params.followText "set-order" with
 |true=>
  refine F6 (show w.params.followText "set-order"=true from hb) ?_;refine fF (by simp) ?_;refine il (il (Fz ho rfl hf ?_));refine il (il (E0 (nb ?_)));refine F6 (show w.params.followText "set-order"=true from hb) ?_;refine il (E0 (nb ?_));rw[zv];refine nb ?_;exact fin
 |false=>
  refine Fv (show w.params.followText "set-order"=false from hb) ?_;refine Fv (show(!t.plain&&decide (1>1))=false from by simp) ?_;refine il (m:=if (!t.led&& !(#[(hh,Du y ty)]:Array (Int×Value)).isEmpty)=true then Hv "set:maker-not-led" else pure ()) (Fv (by refine(ir hl)▸(ir hb)▸?_;rfl) (nb ?_))
  have Z:t.place.size=1:=by
   unfold Lm at hf;simp at hf;exact hf.1
  obtain⟨j,hj⟩:∃j,t.place= #[j]:=by
   rcases hT:t.place with⟨l⟩
   rw[hT]at Z
   match l,Z with
   |[a],_=>exact⟨a,rfl⟩
  obtain J:G=j+1:=H hb _ t ho j (by refine(ir hj)▸?_;rfl);show wpAny _ _ (pure (match (#[(hh,Du y ty)]:Array (Int×Value))[Hl t.place G]?,t.place[Hl t.place G]? with|some (_,x),some j=>some (x,j+1)|_,_=>none)) _ _ _;rw[hj,wI,J,if_pos (DV j)];refine nb ?_;exact fin
theorem qB:Dw (.type "set") "__len__"=pure (some (.builtin "set.__len__")):=F.slot_set_len.lookup
set_option backward.match.sparseCases true in
theorem nU {P:Addr}{y:Str}{ty:Tok}{Q:List Value→Shared→Prop}(hh:A.handled=none)(hP:One w s.heap P y ty)
  (q:∀h',(∀b o,s.heap.get? b=some o→h'.get? b=some o)→Q [.str y ty] { s with heap:=h' }):wpAny (model prog w) A (collect (.ref P)) Q E s:=by
 refine xE hP.toE fun ep hE=>?_;refine il (Kl (EU entry_proto_collect' ?_));show wpAny _ _ (do again (.builtin "list.__iadd__" ⟨[←newList [],.ref P],[]⟩)) _ _ s;refine il (EK (nb ⟨F8 _ (by decide+kernel),EU entry_list_iadd' ?_⟩));show wpAny _ _ (F5 (.ref s.heap.objs.size) (.ref P) (.ref s.heap.objs.size)) _ _ { s with heap:=s.heap.push (GR "list" #[] 0) };have a0:OneE w (s.heap.push (GR "list" #[] 0)) P y ty ep:=hE.at fun o e=>mc _ e;refine il (FH (OneE.typeIs (s:={ s with heap:=s.heap.push (GR "list" #[] 0) }) a0) ?_);have H:s.heap.objs.size≠P:=by refine aL hE fun J J h J=>?_;exact Dl (rl h)
 refine fF (by simp[Ho,H]) ?_;refine il (wJ (s:={ s with heap:=s.heap.push (GR "list" #[] 0) }) a0 fun h2 it c1 Z a8=>?_);refine il (Dx ?_);have b2:=a0.at fun o e=>a8 _ o e;have a9:Shared.TypeIs { s with heap:=h2 } (.ref P) "set":=b2.typeIs (s:={ s with heap:=h2 });refine il (G4 a9 qB ?_);generalize c2:("set.__len__":String)=id0;wp_delta;subst c2;refine il (FJ (b:=true) a9 (by rw[FN];kernel_rfl) ?_);refine fF (by decide) ?_;refine F6 (by rfl) ?_;refine il (FH a9 ?_);refine nb ?_;refine F6 (by rfl) ?_;refine il (Fj ?_);have b3:h2.get? s.heap.objs.size=some (GR "list" #[] 0):=a8 _ _ (rh _ rfl)
 have G:it≠s.heap.objs.size:=fun h=>by
  rw[h,show({ s with heap:=s.heap.push (GR "list" #[] 0) }:Shared).heap.get? s.heap.objs.size=some (GR "list" #[] 0) from rh _ rfl]at Z;contradiction
 refine il (il (GX b3 rfl ?_ (Ej _) (by show 1≤Eu+1;exact o11)));have b4:=G6 b3 fun x=>x.push .none;refine GX b4 rfl ?_ (by show 1≤Eu;refine(ir Di)▸?_;exact DT _) (by show 0≤_;exact Ej _);have O:=G6 b4 fun x=>x.pop;generalize c3:(h2.update s.heap.objs.size (DX fun x=>x.push EG)).update s.heap.objs.size (DX fun x=>x.pop)=h4 at O⊢;have ag:∀b o,b≠s.heap.objs.size→h2.get? b=some o→h4.get? b=some o:=fun b o hb e=>by refine c3▸?_;exact aK b o hb (aK b o hb e)
 obtain⟨n4,O⟩:∃n4,h4.get? s.heap.objs.size=some (GR "list" #[] n4):=⟨_,O⟩
 have b5:OneE w h4 P y ty ep:=b2.at fun o e=>ag _ o H.symm e;obtain b6:IsSetIter h4 it P 0 0 1 ep:=let ⟨o,ho,r⟩:=c1;⟨o,ag _ _ G ho,r⟩;obtain b7:∀b o,s.heap.get? b=some o→h4.get? b=some o:=fun b o e=>ag b o (Dh (rl e)) (a8 b o (mc _ e))
 have B:∀b o,s.heap.get? b=some o→b≠it:=fun b o e h=>by
  rw[←h,show({ s with heap:=s.heap.push (GR "list" #[] 0) }:Shared).heap.get? b=some o from mc _ e]at Z;contradiction
 refine nb ⟨F8 _ (by decide+kernel),EU Hz ?_⟩;refine il (tP (s:={ s with heap:=h4 }) b5 b6 fun h5 c4 al=>?_);have be:h5.get? s.heap.objs.size=some (GR "list" #[] n4):=al _ _ G.symm O;refine il (GX be rfl ?_ (Ej _) (by show 1≤Eu+1;exact o11));have V:=G6 be fun x=>x.push (.str y ty);generalize bk:h5.update s.heap.objs.size (DX fun x=>x.push (Du y ty))=h6 at V⊢;have b1:∀b o,b≠s.heap.objs.size→h5.get? b=some o→h6.get? b=some o:=fun b o hb e=>by refine bk▸?_;exact aK b o hb e
 obtain⟨n6,V⟩:∃n6,h6.get? s.heap.objs.size=some (GR "list" #[.str y ty] n6):=⟨_,V⟩
 obtain c5:OneE w h6 P y ty ep:=b5.at fun o e=>b1 _ o H.symm (al _ o (by refine aL hE fun J J h J=>?_;exact B _ _ h) e)
 obtain c6:Av w h6 it P ep:=by
  refine xEA c4 fun bx c7 ca=>?_;refine xEA c7 fun o ho r=>?_;refine yEA bx ⟨o,b1 _ _ G ho,r⟩ (fun hb es t ht j hj=>ca hb es t ?_ j hj);rw[←bk,DC _ _ H]at ht;exact ht
 refine nb ⟨F8 _ (by decide+kernel),EU Hz ?_⟩;refine il (tQ (s:={ s with heap:=h6 }) hh c5 c6 fun h7 c0=>?_);refine nb ?_
 show wpAny (model prog w) A (do
   let o ←load s.heap.objs.size
   match o.data with
   |.seq xs _=>pure xs.toList
   |_=>Hv "internal:collect") Q E { s with heap:=h7 }
 refine il (HU (c0 _ _ G.symm V) ?_);refine nb (q _ fun b o e=>c0 b o (B b o e) (b1 b o (Dh (rl e)) (al b o (B b o e) (b7 b o e))))
end
section
variable {prog:C9}{w:World}{A:Dq}{E:Value→Shared→Prop}{s:Shared}
theorem wK {a:Addr}{f v:Value}{n:Nat}{P:Je→Shared→Prop}(ho:s.heap.get? a=some (GR "list" #[v] n))
  (G:∀s',Same s s'→(∀b o,b≠a→s.heap.get? b=some o→s'.heap.get? b=some o)→wpAny (model prog w) A (call f [v]) (fun J al=>Grw s' al) (fun J J=>False) s')
  (h:∀s' c,Same s s'→(∀b o,b≠a→s.heap.get? b=some o→s'.heap.get? b=some o)→s'.heap.get? a=some (GR "list" #[v] c)→P (.done (.ret .none)) s'):wpAny (model prog w) A (ksk_tree a f false) P E s:=by
 unfold ksk_tree;refine il (listItems_at ho rfl ?_);refine il (GX ho rfl ?_ (by show 1≤Eu;refine(ir Di)▸?_;exact DT _) (Ej _));have h1:=G6 ho fun J=>(#[]:Array Value)
 generalize b1:s.heap.update a (DX fun J=>(#[]:Array Value))=H1 at h1⊢;have k1:∀b o,b≠a→s.heap.get? b=some o→H1.get? b=some o:=fun b o hb e=>by refine b1▸?_;exact aK b o hb e
 obtain⟨e1,h1⟩:∃e1,H1.get? a=some (GR "list" #[] e1):=⟨_,h1⟩
 refine il (seqEpoch_at h1 rfl ?_);refine il (Ga ?_ (by show 1≤_;refine(ir Di)▸?_;decide));refine il (EK ?_ (Ej _));refine Dx ?_;generalize b2:(H1.push { cls:=.type "tuple",data:=.seq (#[v]:Array Value).toList.toArray })=H2;have k2:∀b o,H1.get? b=some o→H2.get? b=some o:=fun b o e=>by refine b2▸?_;exact mc _ e
 unfold ksk_rest;refine il (Fj ?_);rw[←Array.forIn_toList];show wpAny _ _ (forIn [v] JG _ >>= _) _ _ _;rw[GL]
 have a0:H2.objs.size≠a:=by
  have:=rl (k2 _ _ h1);exact Dl this
 have k3:∀b o,H2.get? b=some o→(H2.push { cls:=.type "list",data:=.seq ([]:List Value).toArray }).get? b=some o:=fun b o e=>mc _ e;refine il (il (il (Gr (Dn (G { s with heap:=H2.push { cls:=.type "list",data:=.seq ([]:List Value).toArray } } ⟨rfl,rfl,id⟩ fun b o hb e=>k3 b o (k2 b o (k1 b o hb e))) (fun Z s4 g4=>?_) fun J J hF=>hF.elim))));dsimp only;have a8:s4.heap.get? H2.objs.size=some (GR "list" #[] 0):=g4.keep _ _ (rh _ rfl);obtain b3:s4.heap.get? a=some (GR "list" #[] e1):=g4.keep _ _ (k3 _ _ (k2 _ _ h1));obtain a9:∀b o,b≠a→s.heap.get? b=some o→s4.heap.get? b=some o:=fun b o hb e=>g4.keep _ _ (k3 b o (k2 b o (k1 b o hb e)));have ag:∀b o,b≠a→s.heap.get? b=some o→b≠H2.objs.size:=fun b o hb e=>Dh (rl (k2 b o (k1 b o hb e)));obtain H:Same s s4:=g4.same;refine il (GX a8 rfl ?_ (Ej _) (by show 1≤Eu+1;exact o11));have B:=G6 a8 fun x=>x.push Z;generalize b4:s4.heap.update H2.objs.size (DX fun x=>x.push Z)=H5 at B⊢;have k5:∀b o,b≠H2.objs.size→s4.heap.get? b=some o→H5.get? b=some o:=fun b o hb e=>by refine b4▸?_;exact aK b o hb e
 obtain⟨e5,B⟩:∃e5,H5.get? H2.objs.size=some (GR "list" #[Z] e5):=⟨_,B⟩
 obtain b5:=k5 _ _ a0.symm b3;refine nb ?_;dsimp only;rw[JN];refine nb ?_;refine il (listItems_at B rfl ?_);unfold ksk_end;dsimp only;refine(ir (if_neg En))▸(ir (if_pos (show(#[v]:Array Value).size<2 from DV 1)))▸(ir (if_pos (show(#[v]:Array Value).size<2 from DV 1)))▸?_;refine wbp ?_;rw[StateT.run_pure];refine wbp ?_;dsimp only;unfold ksk_tail;dsimp only
 obtain O:(arrOf (SortSt.mk' general' (if false=true then ((#[Z]:Array Value).zip #[v]).reverse else (#[Z]:Array Value).zip #[v]) #[] 7 none)).map (·.2)= #[v]:=by
  refine(ir (if_neg En))▸?_;show Array.map (fun x:Value×Value=>x.2) ((#[Z]:Array Value).zip #[v])= #[v];simp
 refine(ir O)▸?_;refine il (GX B rfl ?_ (by show 1≤Eu;refine(ir Di)▸?_;exact DT _) (Ej _));generalize b6:H5.update H2.objs.size (DX fun J=>(#[]:Array Value))=H6;have k6:∀b o,b≠H2.objs.size→H5.get? b=some o→H6.get? b=some o:=fun b o hb e=>by refine b6▸?_;exact aK b o hb e
 refine il (J1 ?_);have V:=k6 _ _ a0.symm b5;refine il (seqEpoch_at V rfl ?_);refine(ir (if_neg En))▸?_;refine il (GX V rfl ?_ (Ej _) (by show 1≤Eu+1;exact o11));obtain b7:=G6 V fun J=>(#[v]:Array Value)
 simp only[bne_self_eq_false,GQ,if_false];refine nb (h _ _ (H.trans ⟨rfl,rfl,id⟩) (fun b o hb e=>?_) b7);exact aK b o hb (k6 b o (ag b o hb e) (k5 b o (ag b o hb e) (a9 b o hb e)))
theorem qC {Pa q:Addr}{y:Str}{ty:Tok}{Q:Value→Shared→Prop}(hh:A.handled=none)(hP:One w s.heap Pa y ty)
  (B:∀s',Grw s s'→wpAny (model prog w) A.in1.in1 (call (.ref q) [.str y ty]) (fun J V=>Grw s' V) (fun J J=>False) s')
  (h:∀s' D,Grw s s'→s.heap.get? D=none→IsL s'.heap D #[.str y ty]→Q (.ref D) s'):
  wpAny (model prog w) A (call (.builtin "sorted") [.ref Pa] [(t5 "key",.ref q)]) Q E s:=by
 refine call_function_entry_kw kind_sorted plain_sorted entry_sorted (ksk_s1 _ _) ?_;unfold DH.«sorted»;refine il (m:=checkCount "sorted" 1 1 _) (nb ?_);refine il (nU (A:=A.in1) hh hP fun h1 G=>?_);refine il (EK ?_ (by show 1≤_;rw[Di];exact DT _));have ho:(h1.push { cls:=.type "list",data:=.seq ([.str y ty]:List Value).toArray }).get? h1.objs.size=some (GR "list" #[.str y ty] 0):=rh _ rfl;have k2:∀b o,h1.get? b=some o→(h1.push { cls:=.type "list",data:=.seq ([.str y ty]:List Value).toArray }).get? b=some o:=fun b o e=>mc _ e;have H:∀b o,s.heap.get? b=some o→b≠h1.objs.size:=fun b o e=>Dh (rl (G b o e))
 obtain O:s.heap.get? h1.objs.size=none:=by
  cases e:s.heap.get? h1.objs.size with
  |none=>rfl
  |some o=>exact absurd rfl (H _ _ e)
 refine il (Dx (wpAny_call_entry_kw slot_list_sort ⟨_,ho,rfl⟩ entry_list_sort ?body (ksk_l1 _ _)))
 case body=>
  rw[ksk_t1];refine wK (A:=A.in1.in1) ho (fun s' hs Z=>B s' ⟨hs,fun b o e=>Z b o (H b o e) (k2 b o (G b o e))⟩) fun s' c hs Z hl=>⟨_,rfl,?_⟩
  refine nb ⟨_,rfl,h s' h1.objs.size ⟨hs,fun b o e=>Z b o (H b o e) (k2 b o (G b o e))⟩ O ⟨c,hl⟩⟩
end
section
variable {prog:C9}{w:World}{A:Dq}{E:Value→Shared→Prop}{s:Shared}{B:Fix}{C:Addr}{K:WK}{σ:Wst}{env:Env}{n:Nat}
noncomputable def yn (B:Fix) (G:Glob B):Prop:=∃bm o,G.gm "__builtins__"=some (.ref bm)∧bm≠FO∧bm≠Fp∧bm≠am∧B.base bm=some o∧o.cls=.type "module"∧o.dict=some FO∧o.data=.plain
structure LK (B:Fix)(G:Glob B) where
 hg:B.g=Fp
 hb:B.b=FO
 hba:yn B G
 c:Addr
 hc:∀h,Mine.Lake.Keeps B h→CodeHd h c am
theorem LK.gt:Fp≠am:=by decide
theorem WI.setTab {h h':Heap}(W:WI C K σ h)(G:∀b o,b≠am→h.get? b=some o→h'.get? b=some o)(J:∃ps,h'.get? am=some (cM ps)∧(ps= #[]∨∃H,ps= #[DE K.pos.line,DE K.pos.col,.ref H]∧H∉K.own∧h'.CodeRec (.ref H) K.qual)):WI C K σ h':=by
 have i:=W.instTo (h':=h') fun b o hb=>G b o (hb.elim (fun e=>e▸W.at_ne (i:=0) (j:=7) rfl rfl (by decide)) fun e=>e▸W.at_ne (i:=1) (j:=7) rfl rfl (by decide));exact⟨i.1,i.2,W.dataStay (j:=7) rfl (by decide) G,W.partsStay (j:=7) rfl (by decide) G,W.declStay WK.mt (W.at_ne (i:=3) (j:=7) rfl rfl (by decide)) G,W.dsStay WK.mt G,W.nsStay (j:=7) rfl (by decide) G,W.psStay (j:=7) rfl (by decide) G,W.nodup,J,W.wr⟩
theorem qD {G:Glob B}(L:LK B G){params:HS}{body:Expr}{scope:Scope}{pos:Pos}{Q:Value→Shared→Prop}(a8:env.globals=B.g)(Z:env.code=.ref L.c)(hq:env.qual++"<lambda>"=K.qual)(a9:pos=K.pos)
  (hb:Mine.Lake.Keeps B s.heap)(W:WI C K σ s.heap)(ag:defaultsOf params env=([],[]))(al:Jq scope env=pure [])
  (q:∀f V pm H s',Stp K s s'→WI C K σ s'.heap→(∀b o,b≠am→s.heap.get? b=some o→s'.heap.get? b=some o)→s.heap.get? f=none→s'.heap.get? f=some (JC "<lambda>" K.qual params body scope [] pm V H)→s'.heap.CodeRec (.ref V) K.qual→Q (.ref f) s'):
  wpAny (model prog w) A (eval (.Lambda params body scope pos) env) Q E s:=by
 refine xAA (G.look s.heap hb) fun gg gb J=>?_;refine fb L.hba fun bm ob q1 q2 q3 q4 q5 q6 q7 q8=>?_;have BA:s.heap.BuiltinsAt G.gm am:=⟨bm,ob,q1,q2,q3,q4,hb _ _ q5,q6,q7,q8⟩
 refine xEA W.tab fun ps hP b4=>?_;subst a9
 obtain b1:∀h':Heap,(∀b o,b≠am→s.heap.get? b=some o→h'.get? b=some o)→h'.get? am≠none→s.heap.get? h'.objs.size=none:=by
  intro h' hk hl
  cases e:s.heap.get? h'.objs.size with
  |none=>rfl
  |some o=>
   by_cases hh:h'.objs.size=am
   ·exfalso;rw[←hh]at hl;exact hl (GB (DK _))
   ·exact absurd (rl (hk _ _ hh e)) (DF _)
 refine kla_eval ag ?_;refine(ir hq)▸?_;rcases b4 with rfl|⟨V,rfl,hc1,hc2⟩
 ·refine kla_makeFunction (mg:=G.gm) al (a8.trans L.hg) (L.hg▸gg) Z (L.hc _ hb) hP trivial rfl LK.gt BA fun V H h' tk hx b5 b7 b2 b3=>?_;have O:∀b o,b≠am→s.heap.get? b=some o→(h'.push (JC "<lambda>" K.qual params body scope [] ((G.gm "__name__").getD .none) V H)).get? b=some o:=fun b o hb e=>mc _ (hx b o hb e)
  have a0:(h'.push (JC "<lambda>" K.qual params body scope [] ((G.gm "__name__").getD .none) V H)).CodeRec (.ref V) K.qual:=by
   refine lI b2 fun c o vs t e3 e4 e5=>?_;exact lG c o vs t e3 (mc _ e4) e5
  have W':WI C K σ (h'.push (JC "<lambda>" K.qual params body scope [] ((G.gm "__name__").getD .none) V H)):=by
   refine W.setTab O ⟨_,mc _ (b3.trans (by rfl)),.inr ⟨V,rfl,fun hm=>?_,a0⟩⟩;refine xE (W.live V hm) fun o ho=>?_;exact absurd (rl ho) (FS.mpr b5)
  refine q _ V ((G.gm "__name__").getD .none) H _ (Stp.of ⟨rfl,rfl,id⟩ (fun b o hb e=>O b o (fun q=>hb (q▸WK.mt)) e) W') W' O (b1 h' hx (by refine(ir b3)▸?_;simp)) ?_ a0;exact rh _ rfl
 ·refine kla_makeFunctionHit (mg:=G.gm) al (a8.trans L.hg) (L.hg▸gg) Z (L.hc _ hb) hP trivial (cv:=.ref V) ?_ BA fun H h' tk hk b6=>?_
  ·simp[codeAmong,DE]
  have O:∀b o,s.heap.get? b=some o→(h'.push (JC "<lambda>" K.qual params body scope [] ((G.gm "__name__").getD .none) V H)).get? b=some o:=fun b o e=>mc _ (hk b o e);have W':=W.to (h':=h'.push (JC "<lambda>" K.qual params body scope [] ((G.gm "__name__").getD .none) V H)) fun b o J e=>O b o e;refine q _ V ((G.gm "__name__").getD .none) H _ (Stp.of ⟨rfl,rfl,id⟩ (fun b o J e=>O b o e) W') W' (fun b o J e=>O b o e) (GB b6) (rh _ rfl) ?_;refine lI hc2 fun c o vs t e3 e4 e5=>?_;exact lG c o vs t e3 (O _ _ e4) e5
end
section
variable {prog:C9}{w:World}{A:Dq}{E:Value→Shared→Prop}{s:Shared}{n:Nat}
noncomputable abbrev wL (B:Pos):HS:={ posonlyargs:=[],args:=[{ arg:="n",annotation:=none,pos:=B }],vararg:=none,kwonlyargs:=[],kw_defaults:=[],kwarg:=none,defaults:=[] }
noncomputable abbrev l8 (B G H J O:Pos):Expr:=.Call (.Attribute (.Name "n" B) "split" G) [.Constant (.str "}") 0 H,.Constant (.int 1) 0 J] [] O
noncomputable abbrev jx:Scope:={ kind:=.function,names:=[("n",.local)],isGenerator:=false,isCoroutine:=false }
theorem nV {f c':Addr}{qual:Str}{p1 p2 p3 p4 p5 p6:Pos}{pm H:Value}{y:Str}{ty:Tok}(B:A.depth<Ed)(hh:A.handled=none)(O:s.heap.NoLimit)
  (ho:s.heap.get? f=some (JC "<lambda>" qual (wL p1) (l8 p2 p3 p4 p5 p6) jx [] pm c' H))(a0:s.heap.CodeRec (.ref c') qual)(hy:y.length≤100)(hp:(p3.endLine==p6.line)=true):
  wpAny (model prog w) A (call (.ref f) [.str y ty]) (fun J s'=>Grw s s') (fun J J=>False) s:=by
 refine Gm (kla_callFunE B ho rfl rfl rfl rfl a0 ?_);refine(ir (show JF (kla_fn "<lambda>" qual (wL p1) (l8 p2 p3 p4 p5 p6) jx [] pm (.ref c') H) ⟨[.str y ty],[]⟩=(pure [(t5 "n",Du y ty)]:Sem (List (Str×Value))) from rfl))▸?_;refine nb (IQ (fun x hx=>by refine(ir (DD.mp hx))▸?_;decide) (by intro x hx;refine(ir (DD.mp hx))▸?_;rfl) (fun V hns Z=>⟨O.fresh _ Z,kla_codeExpr ?_⟩));obtain G:∀b o,s.heap.get? b=some o→V.get? b=some o:=fun b o e=>Z.extBut b o (Dh (rl e)) (mc _ e);refine aM rfl rfl hp ?_;refine FZ (Ex rfl rfl hns rfl ?_) (by rfl);intro pl;refine GM.split ?_;refine cw2 ?_;refine Ds ?_;refine Dj ?_;refine splitN2A (h₀:=s.heap) (L:=s.heap.objs.size) (m:=fun x=>[(t5 "n",Du y ty)].reverse.lookup x) (news:=[]) ⟨hns,G,DK _⟩ News.nil (by rfl) (by rfl) (fun l h' tk J J J J F J=>?_) (by refine(ir Di)▸?_;lia -abstractProof);exact Grw.of F.keep
end
section
variable {prog:C9}{w:World}{A:Dq}{E:Value→Shared→Prop}{s:Shared}{B:Fix}{C:Addr}{K:WK}{σ:Wst}{env:Env}{mN:Str→Option Value}{n:Nat}
set_option backward.match.sparseCases true in
theorem wM (G:Glob B){a:Addr}{ps:HS}{body:List Stmt}{sc:Scope}{dflt:Value}{us:List Value}{binds:List (Str×Value)}{R:GH→Shared→Prop}(F:aY B a ps body sc dflt)(hb:Mine.Lake.Keeps B s.heap)(O:A.depth<Ed)
  (V:∀fd:Fx,fd.params=ps→fd.defaults=dflt→fd.kwdefaults=.none→JL s fd ⟨us,[]⟩ binds)(Z:∀x∈sc.names,x.2≠.cell)(a9:∀x∈binds,sc.names.lookup x.1=some .local)
  (h:∀env s₁ E',Fw sc B env s (fun x=>binds.reverse.lookup x) s₁→s₁.toks=s.toks+binds.length→wpAny (model prog w) (A.deeper env) (execs body env) (fun r s'=>R (.ok (.ret (match r with|.ret v=>v|_=>.none))) s') E' s₁)
  (b1:autoParam (sc.isCoroutine=false) aR)(ag:autoParam (sc.isGenerator=false) aR)(hk:autoParam (sc.kind=.function) aR):Fb (model prog w) A (.call (.ref a) ⟨us,[]⟩) R s:=by
 refine cg F.obj fun o fd ho hd b2 a0 H b3 hg b4 b5 hkd b6=>?_;refine xAA (G.look s.heap hb) fun J J al=>?_;refine JT O (hb a o ho) hd al (b6 _ hb) a0 (V fd b2 b5 hkd) (by rw[H];exact Z) (by rw[H];exact a9) (fun h₀ hns a8=>?_) (by rw[H,b1]) (by rw[H,ag]) (by rw[H,hk]);exact h (callEnv fd s.heap.objs.size a) _ _ ⟨⟨⟨_,_,rfl⟩,hns,a8,DK _⟩,H,hg,b4,hb,hk,b3⟩ rfl
set_option backward.match.sparseCases true in
theorem qE (G:Glob B)(CA:aV B C mN){a ai T T3:Addr}(F:aY B a (aD (ak 3)) (aa (ak 3)).body (aa (ak 3)).scope (.ref T3))(Z:∃o q,B.base T3=some o∧o.data=.seq #[.none] q)(hi:mN "_iter_namespaces"=some (.ref ai))(Fi:aY B ai (aD (ak 1)) bM cF (.ref T))(a0:∃o,B.base ai=some o∧o.cls=.type "function")(hT:∃o q,B.base T=some o∧o.data=.seq #[.type "reversed"] q)(hset:G.val "set"=some (.type "set"))(H:Room (n+2) A)(hb:Mine.Lake.Keeps B s.heap)
  (W:WI C K σ s.heap){x:Str}{t:Tok}{c:Nat}{r:List Nat}{R:GH→Shared→Prop}(V:x.cps.toList=c::r)(hc:c≠123)(hl:x.length≤1000)
  (q:∀s' T t1 t2 t3,Grw s s'→s'.heap.IsTuple T #[.str x t1,.str x t2,.str DA t3]→R (.ok (.ret (.ref T))) s'):Fb (model prog w) A (.call (.ref a) ⟨[.ref K.x,.str x t],[]⟩) R s:=by
 refine aL Z fun oT qT a8 a9=>?_;refine wM G F hb (by have:=H.2.1;exact o9 this) (binds:=[("self",.ref K.x),("qname",.str x t),("uri",.none)]) (fun fd hp hd hkd=>?_) (by decide) (by intro x V;simp only[Da,Dr,or_false]at V;rcases V with rfl|rfl|rfl<;>rfl) fun O s₁ E' f ht=>?_
 ·cases fd;dsimp only at hp hd hkd;subst hp hd hkd;exact Fl rfl (hb _ _ a8) a9 (by rfl) (by rfl)
 ·have hr:=Room.deeper H O;exact jw (A:=A.deeper O) (Q:=fun fl s'=>R (.ok (.ret (match fl with|.ret v=>v|_=>.none))) s') G CA hi Fi a0 hT hset hr.1 (by have:=hr.2.1;exact o1 this) V hc hl W (f.toFo fun J h=>(by simp at h)) rfl rfl rfl fun s' T t1 t2 t3 g h=>q s' T t1 t2 t3 g h
set_option backward.match.sparseCases true in
theorem CU {u f:Addr}{o:Obj}{fd:Fx}{x:Value}{e:Expr}{pos G:Pos}{Q:Value→Shared→Prop}(hd:o.data=.func fd)
  (h:wpAny (model prog w) A (eval e env) (fun v s₁=>s₁.heap.get? u=some (Gc (.ref f) x)∧s₁.heap.get? f=some o∧Fb (model prog w) A (.call (.ref f) ⟨[x,v],[]⟩) (fun r s'=>match r with|.ok (.ret v)=>Q v s'|.ok _=>False|.error e=>E e s') s₁) E s)
  (h1:autoParam (aU e=false) aR):wpAny (model prog w) A (Fu pos (.ref u) [] (EN G (D6 [e] env)) []) Q E s:=by
 refine(ir (kM h1))▸?_;refine callWith_of (P:=fun h=>h.get? u=some (Gc (.ref f) x)∧h.get? f=some o) rfl (fun h ⟨H,O⟩=>⟨.boundFrame,.inr (.inr rfl),fun A Q E s k q=>?_⟩) (DR (C8 (Dn h (fun v s₁ h=>Dp ⟨⟨h.1,h.2.1⟩,Gm (method_call h.1 h.2.2)⟩) fun J J e=>e)));refine il (HU (k _ _ H) ?_);show wpAny _ _ (load f >>= fun o=>pure (match o.data with|.func _=>Keeper.boundFrame|_=>Keeper.caller)) _ _ _;refine il (HU (k _ _ O) (nb ?_));refine(ir hd)▸?_;exact q
end
section
open Builtin.ObjectAttr
variable {prog:C9}{w:World}{A:Dq}{E:Value→Shared→Prop}{h:Heap}{g:Array GenState}{d:Drawn}{t:Nat}{os:OsState}
variable {nm q:Str}{C N x:Addr}{bs:List Value}{sn:List Str}{sub:List Value}{ab:Bool}{col:Option Bool}{dd:Option Addr}{k0 k1 k2 k3 k5:Option Value}{newId:String}
 {mN mA:Str→Option Value}{name:Str}
theorem CV {f:Addr}{of:Obj}{J:Value}{R:GH→Shared→Prop}{s:Shared}(B:s.heap.get? f=some of)(G:of.cls=.type "function")
  (hq:R (.ok (.ret (.ref s.heap.objs.size))) { s with heap:=s.heap.push (Gc (.ref f) (.ref x)) }):Fb (model prog w) A (.call (.builtin "function.__get__") ⟨[.ref f,.ref x,J],[]⟩) R s:=by
 refine fn_get (K:=[(f,of)]) (fun a o e=>?_) ?_ hq
 ·by_cases H:a=f
  ·clear hq;subst H;simp[GV]at e;refine e▸?_;exact B
  ·have:(a==f)=false:=beq_eq_false_iff_ne.mpr H;simp[GV,this]at e
 ·unfold typeIn;simp[GV,G]
theorem nW:Dw (.type "function") "__set__"=pure none:=by rw[Dg,sl];kernel_rfl
theorem nX:Dw (.type "function") "__delete__"=pure none:=by rw[Dg,sl];kernel_rfl
set_option tactic.hygienic true in
theorem qF {J:Tok}{f:Addr}{of:Obj}{Q:Fin→Shared→Prop}
  (hC:h.get? C=some (IW nm q C N bs [.type "object"] true sn sub ab col dd k0 k1 k2 k3 k5 newId))(hn:h.Ns N mN)(hnh:mN "__getattr__"=none)(hna:mN name=some (.ref f))(H:h.get? f=some of)(B:of.cls=.type "function")
  (hB:Dw (.type "object") name=pure none)(G:(["__module__","__name__","__qualname__","__doc__","__annotations__"]:List Str).contains name=false)(I:h.Inst x C mA)(hv:mA name=none)(hq:Q (.done (.ret (.ref h.objs.size))) ⟨h.push (Gc (.ref f) (.ref x)),g,d,t,os⟩):
  wpAny (model prog w) A (DH.«proto.getattr_hooked» ⟨[.ref x,.str name J],[]⟩) Q E ⟨h,g,d,t,os⟩:=by
 refine da I fun o hx hc O hd=>?_
 repeat (first|(with_reducible refine Hb hx ?_;refine(ir hc)▸?_)|(with_reducible refine FV hC hn F.mro_object hB ?_;refine(ir hna)▸?_)|wp_step)
 refine(ir B)▸(ir KF.slot_fn.lookup)▸?_
 repeat (first|(with_reducible refine G4 (T:="function") ⟨_,H,B⟩ nW ?_)|(with_reducible refine G4 (T:="function") ⟨_,H,B⟩ nX ?_)|wp_step)
 refine(ir B)▸(ir nW)▸?_
 repeat wp_step
 refine(ir B)▸(ir nX)▸?_
 repeat wp_step
 split
 ·rename_i c V;exact absurd V (O c)
 repeat (first|(with_reducible refine Hb hx ?_;refine(ir hc)▸?_)|with_reducible refine Hb hC ?_|wp_step)
 have tail:wpAny (model prog w) A (byTheClass (some (D7 f)) (some (JU "function.__get__")))
   (fun a s'=>wpAny (model prog w) A (match a with
        |Found.value v=>ret v
        |Found.missing=>do
         let __do_lift ←Dw (D7 C) (t5 "__getattr__")
         missingOrHook (D7 x) (Du name J) name __do_lift
        |Found.bind g a=>do
         let __do_lift ←Dw (D7 C) (t5 "__getattr__")
         bindWithHook g a (D7 x) (D7 C) (Du name J) __do_lift)
        Q E s') E ⟨h,g,d,t,os⟩:=by
  refine il (Fj (nb ?_));refine il (FV hC hn F.mro_object F.lk_object_getattr ?_);refine(ir hnh)▸?_;show wpAny _ _ (Kg [.ref f] (call (.builtin "function.__get__") [.ref f,.ref x,.ref C]) >>= ret) _ _ _;refine il (Dx (Gm (CV H B ?_)));exact nb hq
 rcases hd with⟨Z,_⟩|⟨dx,hdx,_,hns⟩
 ·refine(ir Z)▸?_
  repeat wp_step
  refine fF (by rw[G];exact En) ?_;exact nb tail
 ·refine(ir hdx)▸?_
  repeat (first|(with_reducible refine G8 hns.ns ?_;refine(ir hv)▸?_)|wp_step)
  refine fF (by rw[G];exact En) ?_;exact nb tail
theorem tR {f:Addr}{of:Obj}{B:Bool}{Q:Value→Shared→Prop}
  (hC:h.get? C=some (IW nm q C N bs [.type "object"] true sn sub ab col dd k0 k1 k2 k3 k5 newId))(hn:h.Ns N mN)(hng:mN "__getattribute__"=none)(hnh:mN "__getattr__"=none)(hna:mN name=some (.ref f))(H:h.get? f=some of)(O:of.cls=.type "function")
  (V:Dw (.type "object") name=pure none)(G:(["__module__","__name__","__qualname__","__doc__","__annotations__"]:List Str).contains name=false)(I:h.Inst x C mA)(Z:mA name=none)
  (hq:Q (.ref h.objs.size) ⟨h.push (Gc (.ref f) (.ref x)),g,d,t+1,os⟩):
  wpAny (model prog w) A (getAttr (.ref x) name B) Q E ⟨h,g,d,t,os⟩:=by
 refine aQ (id I) fun o hx hc J=>?_
 repeat (first|(with_reducible refine Hb hx ?_;refine(ir hc)▸?_)|(with_reducible refine FV hC hn F.mro_object F.lk_object_ga ?_;refine(ir hng)▸?_)|wp_step)
 show wpAny _ _ ((runValue (.builtin "proto.getattr_hooked" ⟨[.ref x,.str name t],[]⟩)).onRaise (noteIf true (.ref x) (.str name t))) _ _ _;refine wpAny_onRaise (Kl (EU F.plainObj_entry_getattr_hooked (qF hC hn hnh hna H O V G I Z ?_)));show wpAny _ _ (pure _) _ _ _;exact nb hq
end
section
variable {prog:C9}{w:World}{A:Dq}{E:Value→Shared→Prop}{s:Shared}{B:Fix}{C:Addr}{K:WK}{σ:Wst}{mN:Str→Option Value}
theorem WI.bound (CA:aV B C mN)(hb:Mine.Lake.Keeps B s.heap)(W:WI C K σ s.heap){name:Str}{f:Addr}{of:Obj}{G:Bool}{Q:Value→Shared→Prop}(hf:mN name=some (.ref f))(J:B.base f=some of)(O:of.cls=.type "function")
  (Z:Dw (.type "object") name=pure none)(V:name∉aI)(H:(["__module__","__name__","__qualname__","__doc__","__annotations__"]:List Str).contains name=false)
  (q:Q (.ref s.heap.objs.size) { s with heap:=s.heap.push (Gc (.ref f) (.ref K.x)),toks:=s.toks+1 }):wpAny (model prog w) A (getAttr (.ref K.x) name G) Q E s:=by
 refine aC CA.obj fun nm qq N bs sn sub col dd k0 k1 k2 k3 k5 hC hn=>?_;refine aQ W.inst fun mA I hw ha=>?_;refine tR (h:=s.heap) (g:=s.gens) (d:=s.drawn) (t:=s.toks) (os:=s.os) (hb _ _ hC) (hn _ hb) CA.hng CA.hnh hf (hb _ _ J) O Z H I ?_ q
 cases h:mA name with
 |none=>rfl
 |some v=>exact absurd (hw name (by refine(ir h)▸?_;exact fun h=>by contradiction)) V
end
structure Mcl (sc:Scope)(B:Fix)(C:Addr)(env:Env)(K:WK)(σ:Wst)(s₀:Shared)(m cm:Str→Option Value)(s:Shared):Prop where
 ns:s.heap.Ns env.locals m
 cell:∀n c,env.cells.lookup n=some c→s.heap.IsCell c (cm n)
 apart:env.cells.Pairwise fun x y=>x.2≠y.2
 above:∀n c,(n,c)∈env.cells→env.locals<c
 same:Same s₀ s
 keep:∀b o,b∉K.own→s₀.heap.get? b=some o→s.heap.get? b=some o
 fresh:s₀.heap.objs.size≤env.locals
 scp:env.scope=sc
 gl:env.globals=B.g
 bu:env.builtins=B.b
 base:Mine.Lake.Keeps B s₀.heap
 fn:sc.kind=.function
 bown:∀a∈K.own,B.base a=none
 wi:WI C K σ s.heap
 wi0:∃σ₀,WI C K σ₀ s₀.heap
 self:cm "self"=some (.ref K.x)
 hasSelf:(env.cells.lookup ("self":Str)).isSome
 lself:sc.names.lookup ("self":Str)=some .cell
section
variable {prog:C9}{w:World}{A:Dq}{E:Value→Shared→Prop}{s₀ s:Shared}{sc:Scope}{B:Fix}{C:Addr}{mN:Str→Option Value}{env:Env}{m cm:Str→Option Value}{K:WK}{σ τ:Wst}
namespace Mcl
theorem keeps (f:Mcl sc B C env K σ s₀ m cm s):Mine.Lake.Keeps B s.heap:=fun a o e=>f.keep a o (fun q=>by rw[f.bown a q]at e;contradiction) (f.base a o e)
theorem low (f:Mcl sc B C env K σ s₀ m cm s){a:Addr}(H:a∈K.own):a<s₀.heap.objs.size:=by
 refine xE f.wi0 fun G W=>?_;refine xE (W.live a H) fun o J=>?_;exact rl J
theorem lo (f:Mcl sc B C env K σ s₀ m cm s):env.locals∉K.own:=fun h=>DF _ (De (f.low h) f.fresh)
theorem co (f:Mcl sc B C env K σ s₀ m cm s){n:Str}{c:Addr}(h:(n,c)∈env.cells):c∉K.own:=fun q=>DF _ (DW (De (f.low q) f.fresh) (f.above n c h))
theorem kind (f:Mcl sc B C env K σ s₀ m cm s):env.scope.kind=.function:=by rw[f.scp,f.fn]
theorem kindOf (f:Mcl sc B C env K σ s₀ m cm s)(x:Str):env.kindOf x=sc.names.lookup x:=by unfold Io;rw[f.scp]
theorem stp (f:Mcl sc B C env K σ s₀ m cm s):Stp K s₀ s:=⟨f.same,f.keep,fun a G J=>by refine xE (f.wi.live a G) fun o H=>?_;refine(ir H)▸?_;rfl⟩
theorem name {x:Str}{p:Pos}{v:Value}{Q:Value→Shared→Prop}(f:Mcl sc B C env K σ s₀ m cm s)(hl:sc.names.lookup x=some .local)(G:m x=some v)(q:Q v s)(hd:(x==("__debug__":Str))=false:=by decide):
  wpAny (model prog w) A (eval (.Name x p) env) Q E s:=FZ (Ex f.kind (by rw[f.kindOf,hl]) f.ns G q) hd
theorem glob (G:Glob B){x:Str}{p:Pos}{v:Value}{Q:Value→Shared→Prop}(f:Mcl sc B C env K σ s₀ m cm s)(hl:sc.names.lookup x=some .globalImplicit)(H:G.val x=some v)(q:Q v s)(hd:(x==("__debug__":Str))=false:=by decide):
  wpAny (model prog w) A (eval (.Name x p) env) Q E s:=by
 refine xAA (G.look s.heap f.keeps) fun hg hb J=>?_;refine FG f.kind (by rw[f.kindOf,hl]) ?_ hd;unfold Glob.val at H;refine cK (G.gm x) (fun u O=>?_) fun O=>?_
 ·rw[O]at H;injection H with H;subst H;exact FW (by refine(ir f.gl)▸?_;exact hg) O q
 ·rw[O]at H;exact FR (by refine(ir f.gl)▸?_;exact hg) O (by refine(ir f.bu)▸?_;exact hb) H q
theorem me {p:Pos}{Q:Value→Shared→Prop}(f:Mcl sc B C env K σ s₀ m cm s)(q:Q (.ref K.x) s):wpAny (model prog w) A (eval (.Name "self" p) env) Q E s:=by
 refine xE (Dv.mp f.hasSelf) fun c hc=>?_;exact FZ (HH f.kind (by rw[f.kindOf,f.lself]) hc (f.self▸f.cell _ c hc) q) (by rfl)
theorem tok (f:Mcl sc B C env K σ s₀ m cm s){t:Nat}:Mcl sc B C env K σ s₀ m cm { s with toks:=t }:=
 ⟨f.ns,f.cell,f.apart,f.above,f.same.trans ⟨rfl,rfl,id⟩,f.keep,f.fresh,f.scp,f.gl,f.bu,f.base,f.fn,f.bown,f.wi,f.wi0,f.self,f.hasSelf,f.lself⟩
theorem move (f:Mcl sc B C env K σ s₀ m cm s){s':Shared}(hs:Same s s')(G:∀b o,b∉K.own→s.heap.get? b=some o→s'.heap.get? b=some o)(W:WI C K τ s'.heap):Mcl sc B C env K τ s₀ m cm s':=
 ⟨f.ns.at' fun o e=>G _ o f.lo e,fun n c hc=>let ⟨o,H,hd⟩:=f.cell n c hc;⟨o,G _ _ (f.co (mem_of_lookup hc)) H,hd⟩,f.apart,f.above,f.same.trans hs,fun b o hb e=>G b o hb (f.keep b o hb e),f.fresh,f.scp,f.gl,f.bu,f.base,f.fn,f.bown,W,f.wi0,f.self,f.hasSelf,f.lself⟩
theorem grw (f:Mcl sc B C env K σ s₀ m cm s){s':Shared}(g:Grw s s'):Mcl sc B C env K σ s₀ m cm s':=f.move g.same (fun b o J e=>g.keep b o e) (f.wi.to fun b o J e=>g.keep b o e)
theorem go (f:Mcl sc B C env K σ s₀ m cm s){h':Heap}{t:Nat}(G:∀b o,s.heap.get? b=some o→h'.get? b=some o):Mcl sc B C env K σ s₀ m cm { s with heap:=h',toks:=t }:=f.grw (Grw.of G)
theorem push (f:Mcl sc B C env K σ s₀ m cm s)(o:Obj){t:Nat}:Mcl sc B C env K σ s₀ m cm { s with heap:=s.heap.push o,toks:=t }:=f.go fun J J e=>mc _ e
theorem step (f:Mcl sc B C env K σ s₀ m cm s){s':Shared}(g:Stp K s s')(W:WI C K τ s'.heap):Mcl sc B C env K τ s₀ m cm s':=f.move g.same g.keep W
theorem put {x:Str}{v:Value}{Q:Unit→Shared→Prop}(f:Mcl sc B C env K σ s₀ m cm s)(hl:sc.names.lookup x=some .local)(q:∀s',Mcl sc B C env K σ s₀ (upd m x v) cm s'→E3 env.locals s.heap s'.heap→Same s s'→Q () s'):
  wpAny (model prog w) A (FL env x v) Q E s:=by
 refine Ec (by rw[f.kindOf,hl]) f.ns (fun h' H G=>q _ ⟨H,fun n c hc=>(f.cell n c hc).sameBut G (Dl (f.above n c (mem_of_lookup hc))),f.apart,f.above,f.same.trans ⟨rfl,rfl,id⟩,fun b o hb e=>?_,f.fresh,f.scp,f.gl,f.bu,f.base,f.fn,f.bown,f.wi.to fun b o hb e=>G.extBut b o ?_ e,f.wi0,f.self,f.hasSelf,f.lself⟩ G ⟨rfl,rfl,id⟩) (by rw[f.kind];rfl)
 ·exact G.extBut b o (Dh (De (rl e) f.fresh)) (f.keep b o hb e)
 ·rintro rfl;refine bg f.ns fun oD es ep e1 e2 J=>?_;rcases hb with hb|⟨xs,n,hb⟩|⟨xs,hb⟩
  ·exact f.lo hb
  ·rw[e]at e1;injection e1 with e1;subst e1;rw[hb]at e2;contradiction
  ·rw[e]at e1;injection e1 with e1;subst e1;rw[hb]at e2;contradiction
theorem putC {x:Str}{v:Value}{c:Addr}{Q:Unit→Shared→Prop}(f:Mcl sc B C env K σ s₀ m cm s)(hl:sc.names.lookup x=some .cell)(hc:env.cells.lookup x=some c)(Z:("self":Str)≠x)(q:∀s',Mcl sc B C env K σ s₀ m (upd cm x v) s'→E3 c s.heap s'.heap→Same s s'→Q () s'):
  wpAny (model prog w) A (FL env x v) Q E s:=by
 have O:=f.above x c (mem_of_lookup hc);refine wpAny_storeName_cell f.kind (by rw[f.kindOf,hl]) hc (f.cell x c hc) (fun h' V H=>q _ ⟨f.ns.sameBut H (Dh O),fun n c' G=>?_,f.apart,f.above,f.same.trans ⟨rfl,rfl,id⟩,fun b o hb e=>?_,f.fresh,f.scp,f.gl,f.bu,f.base,f.fn,f.bown,f.wi.to fun b o hb e=>H.extBut b o ?_ e,f.wi0,ah Z f.self,f.hasSelf,f.lself⟩ H ⟨rfl,rfl,id⟩)
 ·by_cases J:n=x
  ·clear q Z hl;subst J;rw[hc]at G;injection G with G;subst G;rw[ar];exact V
  ·have:upd cm x v n=cm n:=by unfold upd;rw[if_neg J]
   rw[this];exact(f.cell n c' G).sameBut H fun e=>J (Li f.apart (mem_of_lookup G) (e▸mem_of_lookup hc))
 ·exact H.extBut b o (Dh (DW (De (rl e) f.fresh) O)) (f.keep b o hb e)
 ·rintro rfl;refine xEA (f.cell x _ hc) fun oD e1 e2=>?_;rcases hb with hb|⟨xs,n,hb⟩|⟨xs,hb⟩
  ·exact f.co (mem_of_lookup hc) hb
  ·rw[e]at e1;injection e1 with e1;subst e1;rw[hb]at e2;contradiction
  ·rw[e]at e1;injection e1 with e1;subst e1;rw[hb]at e2;contradiction
theorem attr (f:Mcl sc B C env K σ s₀ m cm s)(CA:aV B C mN){name:Str}{v:Value}{p J:Pos}{Q:Value→Shared→Prop}(G:name∈aI)(O:Dw (.type "object") name=pure none)
  (V:∀H,bI K σ.root H→H name=some v)(Z:I3 v=pure v)(q:Mcl sc B C env K σ s₀ m cm { s with toks:=s.toks+1 }→Q v { s with toks:=s.toks+1 }):
  wpAny (model prog w) A (eval (.Attribute (.Name "self" p) name J) env) Q E s:=by
 refine il (f.me ?_);refine wb3 (Dx ?_);refine f.wi.attr CA f.keeps G O V Z ?_;exact il (Fm (nb (q f.tok)))
theorem setParts (f:Mcl sc B C env K σ s₀ m cm s){xs:List Str}{h':Heap}{t:Nat}(G:∀b o,b≠K.lp→s.heap.get? b=some o→h'.get? b=some o)(hs:StrsAt h' K.lp xs):Mcl sc B C env K { σ with parts:=xs } s₀ m cm { s with heap:=h',toks:=t }:=
 f.move ⟨rfl,rfl,id⟩ (fun b o hb e=>G b o (fun q=>hb (q▸WK.mlp)) e) (f.wi.setParts G hs)
theorem to (f:Mcl sc B C env K σ s₀ m cm s){τ:Wst}{h':Heap}{t:Nat}{a:Addr}(G:a∈K.own)(H:∀b o,b≠a→s.heap.get? b=some o→h'.get? b=some o)(W:WI C K τ h'):Mcl sc B C env K τ s₀ m cm { s with heap:=h',toks:=t }:=
 f.move ⟨rfl,rfl,id⟩ (fun b o hb e=>H b o (fun q=>hb (q▸G)) e) W
end Mcl
end
section
variable {prog:C9}{w:World}{A:Dq}{E:Value→Shared→Prop}{s₀ s:Shared}{sc:Scope}{B:Fix}{C:Addr}{mN:Str→Option Value}{env:Env}{m cm:Str→Option Value}{K:WK}{σ τ:Wst}
theorem yo {G:Glob B}(L:LK B G)(hb:Mine.Lake.Keeps B s.heap)(H:env.code=.ref L.c){Q:Bool→Shared→Prop}(h:∀b,Q b s):wpAny (model prog w) A (inMainModule env) Q E s:=by
 refine fZ (L.hc _ hb) fun o vs V tf O tg Z text tt h1 J h2 J J h5 J=>?_;unfold inMainModule;refine(ir H)▸?_
 split
 ·exact nb (h _)
 ·refine il (IR h1 h2 ?_)
  split
  ·exact il (E0 (nb (h _)))
  ·exact nb (h _)
theorem nY {G:Glob B}(L:LK B G)(hA:A.handled=none)(f:Mcl sc B C env K σ s₀ m cm s)(H:env.code=.ref L.c){y:Str}{ty:Tok}{J:Addr}{p1 p2 p3 O:Pos}{Q:Value→Shared→Prop}
  (a8:sc.names.lookup ("tag":Str)=some .local)(a9:sc.names.lookup ("attrs":Str)=some .local)(ag:m "tag"=some (.str y ty))(al:m "attrs"=some (.ref J))(hd:s.heap.DictOf (Db prog w) J [])(hsys:(J==EE)=false)
  (q:∀P s',Grw s s'→s.heap.get? P=none→One w s'.heap P y ty→Q (.ref P) s'):wpAny (model prog w) A (eval (.Set [.Name "tag" p1,.Starred (.Name "attrs" p2) p3] 0 O) env) Q E s:=by
 refine il (Ek ?_);refine il (yo L f.keeps H fun b=>?_);show wpAny _ _ (setDisplay .oneByOne b [(false,do let v ←eval (.Name "tag" p1) env;IE O;pure v),(true,do let v ←eval (.Name "attrs" p2) env;IE O;pure v)]) _ _ _;refine il (il (il (E0 (nb ?_))));refine il (wpAny_alloc (nb ?_));obtain f1:=f.push (t:=s.toks) { cls:=.type "set",dict:=none,data:=.set #[] 0 (.fresh 0 0 !w.params.followText "set-order") };obtain hP:(s.heap.push { cls:=.type "set",dict:=none,data:=.set #[] 0 (.fresh 0 0 !w.params.followText "set-order") }).get? s.heap.objs.size=some { cls:=.type "set",dict:=none,data:=.set #[] 0 (.fresh 0 0 !w.params.followText "set-order"),slots:= #[] }:=rh _ rfl;show wpAny _ _ (Kg _ (do let first ←evalAll [do let v ←eval (.Name "tag" p1) env;IE O;pure v];_) >>= _) _ _ _;refine il (Dx ?_);refine il (il (il (f1.name a8 ag ?_)));refine il (Ek (nb ?_));refine il (Dx (nb (nb ?_)));refine il (Dx ?_);refine il (il (il (tO (led:= !w.params.followText "set-order") rfl hP fun h2 V Z b1=>?_)));refine nb ?_;refine nb ?_;refine nb ?_;refine il ?_;show wpAny _ _ (forIn [(true,(do let v ←eval (.Name "attrs" p2) env;IE O;pure v:Sem Value))] JG _) _ _ _;have k2:∀b o,s.heap.get? b=some o→h2.get? b=some o:=fun b o e=>b1 b o (Dh (rl e)) (mc _ e);obtain f2:Mcl sc B C env K σ s₀ m cm { s with heap:=h2,toks:=V }:=f.go k2;refine il (il (il (f2.name a9 al ?_)));refine il (Ek (nb ?_));refine il (Dx (qA hA Z (Heap.DictOf.at hd fun o e=>k2 _ o e) hsys fun h3 a0=>?_));refine nb ?_;refine nb ?_;refine nb ?_;refine nb (q _ { s with heap:=h3,toks:=V } ⟨⟨rfl,rfl,id⟩,fun b o e=>a0 b o (k2 b o e)⟩ (GB (DK _)) ?_);refine bq Z fun hh ep t e1 e2=>?_;exact fA hh ep t (a0 _ _ e1) e2
end
section
variable {prog:C9}{w:World}{A:Dq}{E:Value→Shared→Prop}{s₀ s:Shared}{sc:Scope}{B:Fix}{C:Addr}{mN:Str→Option Value}{env:Env}{m cm:Str→Option Value}{K:WK}{σ τ:Wst}
noncomputable abbrev CW (G H J O V Z p7:Pos):Expr:=.Lambda (wL G) (l8 H J O V Z) jx p7
noncomputable abbrev kP (J O V Z p5 p6 p7 p8 p9 G H:Pos):Expr:=.Call (.Name "sorted" p8) [.Name "qnames" p9] [⟨some "key",CW J O V Z p5 p6 p7,G⟩] H
theorem nZ {G:Glob B}(L:LK B G)(H:G.val "sorted"=some (.builtin "sorted"))(hA:A.handled=none)(O:A.depth<Ed)(f:Mcl sc B C env K σ s₀ m cm s)(V:env.code=.ref L.c)(hq:env.qual++"<lambda>"=K.qual){p1 p2 p3 p4 p5 p6 p7 p8 p9 a8 Z:Pos}(a0:p7=K.pos)(hp:(p3.endLine==p6.line)=true)
  {P:Addr}{y:Str}{ty:Tok}(hy:y.length≤100)(a9:sc.names.lookup ("sorted":Str)=some .globalImplicit)(ag:sc.names.lookup ("qnames":Str)=some .local)(hm:m "qnames"=some (.ref P))(hP:One w s.heap P y ty){Q:Value→Shared→Prop}
  (al:P∉K.own)(q:∀D s',Stp K s s'→WI C K σ s'.heap→(∀b o,b≠am→s.heap.get? b=some o→s'.heap.get? b=some o)→s.heap.get? D=none→IsL s'.heap D #[.str y ty]→Q (.ref D) s'):wpAny (model prog w) A (eval (kP p1 p2 p3 p4 p5 p6 p7 p8 p9 a8 Z) env) Q E s:=by
 show wpAny _ _ (eval (.Call (.Name "sorted" p8) _ _ Z) env) _ _ _;refine il (f.glob G a9 H ?_);refine callWith_kw ?_;refine C8 (f.name ag hm ?_);refine Dp ?_;refine kws_cons ?_;refine qD L f.gl V hq a0 f.keeps f.wi rfl rfl fun fl c' pm b5 s1 g1 W1 k1 b6 b1 b2=>?_;refine kws_nil ?_;have f1:=f.step g1 W1
 have b3:One w s1.heap P y ty:=by
  refine bq hP fun hh ep t e1 e2=>?_;exact fA hh ep t (g1.keep _ _ al e1) e2
 show wpAny _ _ (call (.builtin "sorted") [.ref P] [(t5 "key",.ref fl)]) _ _ _;refine qC hA b3 (fun s' g'=>?_) fun s' D g2 hD hL=>?_
 ·exact nV (A:=A.in1.in1) O hA (G.look s'.heap (f1.grw g').keeps).2.2 (g'.keep _ _ b1) (by
   refine lI b2 fun c o vs t e3 e4 e5=>?_;exact lG c o vs t e3 (g'.keep _ _ e4) e5) hy hp
 ·refine q D s' (g1.trans g2.stp) (f1.grw g2).wi (fun b o hb e=>g2.keep _ _ (k1 b o hb e)) ?_ hL
  cases e:s.heap.get? D with
  |none=>rfl
  |some o=>
   refine xEA f1.wi.tab fun ps b4 J=>?_;by_cases hb:D=am
   ·rw[hb,b4]at hD;contradiction
   ·rw[k1 _ _ hb e]at hD;contradiction
end
section
variable {prog:C9}{w:World}{A:Dq}{E:Value→Shared→Prop}{s₀ s sB:Shared}{sc:Scope}{B:Fix}{C:Addr}{mN:Str→Option Value}{env:Env}{m cm:Str→Option Value}{K:WK}{σ τ:Wst}{n:Nat}
noncomputable abbrev eR:Scope:={ kind:=.function,names:=[(".0",.local),("n",.local),("parse_qname",.free)],isGenerator:=false,isCoroutine:=false }
noncomputable abbrev dcE (it:Expr) (q1 q2 q3 q4 q5 G:Pos):Expr:=.DictComp (.Name "n" q1) (.Call (.Name "parse_qname" q2) [.Name "n" q3] [] q4) [⟨.Name "n" q5,it,[],0⟩] eR G
theorem Aw {R:GH→Shared→Prop}{kx vx G iter:Expr}{scope:Scope}{pos:Pos}{it:Value}{D:Addr}{b:Shared→Prop}(hl:∀v,Gq G it v=pure ())
  (h1:∀V:Value→Shared→Prop,wpAny (model prog w) A (Hp it) (fun r s₁=>match r with
   |none=>R (.ok .next) s₁
   |some v=>wpAny (model prog w) A (Go G env v) (fun _ s₂=>wpAny (model prog w) A (eval kx env) (fun kv H=>wpAny (model prog w) A (eval vx env) (fun vv J=>wpAny (model prog w) A (dictSet D kv vv) (fun _ O=>b O) V J) V H) V s₂) V s₁) V s)
  (h0:∀(s':Shared) (V:Value→Shared→Prop),b s'→wpAny (model prog w) A (Hp it) (fun r s₁=>match r with
   |none=>R (.ok .next) s₁
   |some _=>False) V s'):Fb (model prog w) A (.compLoop (.DictComp kx vx [⟨G,iter,[],0⟩] scope pos) 0 it (.ref D) env) R s:=by
 refine codeAny_compLoop_testsD (I:=fun j s'=>(j=1∧s'=s)∨(j=0∧b s')) (fun j s' hI=>?_) 1 (.inl ⟨rfl,rfl⟩) hl;rcases hI with⟨rfl,rfl⟩|⟨rfl,hb⟩
 ·refine Dn (h1 _) (fun r s₁ Z=>?_) fun _ _ e=>e
  cases r with
  |none=>exact Z
  |some v=>exact Dn Z (fun _ s₂ h=>nb (Dn h (fun kv H h=>Dn h (fun vv J h=>Dn h (fun _ O h=>⟨0,Nat.one_pos,.inr ⟨rfl,h⟩⟩) fun _ _ e=>e) fun _ _ e=>e) fun _ _ e=>e)) fun _ _ e=>e
 ·refine Dn (h0 s' _ hb) (fun r s₁ Z=>?_) fun _ _ e=>e
  cases r with
  |none=>exact Z
  |some v=>exact Z.elim
noncomputable def DcB (prog:C9) (w:World) (sB:Shared) (D I l0 loc:Addr) (y:Str) (s':Shared):Prop:=∃T G H J m',Grw sB s'∧s'.heap.DictOf (Db prog w) D [(y,.ref T)]∧s'.heap.IsTuple T #[.str y G,.str y H,.str DA J]∧s'.heap.Ns loc m'∧s'.heap.IsListIter I l0 1
theorem yq {G:Glob B}(k:CK B G C mN)(H:Room (n+2) A){cp I D l0 mq:Addr}{it:Expr}{q1 q2 q3 q4 q5 q6:Pos}{cenv:Env}{mm:Str→Option Value}{R:GH→Shared→Prop}{y:Str}{ty:Tok}(hy:Nm y)
  (hb:Mine.Lake.Keeps B sB.heap)(W:WI C K σ sB.heap)(gB:Grw sB s)(O:cenv.scope.kind=.function)(a9:cenv.kindOf ("n":Str)=some .local)(b3:cenv.kindOf ("parse_qname":Str)=some .cell)(b4:cenv.cells.lookup ("parse_qname":Str)=some cp)(b5:sB.heap.IsCell cp (some (.ref mq)))(b6:sB.heap.get? mq=some (Gc (.ref k.aq) (.ref K.x)))
  (b7:s.heap.IsListIter I l0 0)(hl:sB.heap.IsList l0 #[.str y ty])(hD:s.heap.DictOf (Db prog w) D [])(hns:s.heap.Ns cenv.locals mm)
  (be:I≠cenv.locals∧I≠D∧D≠cenv.locals)(bk:sB.heap.get? I=none∧sB.heap.get? D=none∧sB.heap.get? cenv.locals=none)
  (q:∀s' T t1 t2 t3 m',Grw sB s'→s'.heap.DictOf (Db prog w) D [(y,.ref T)]→s'.heap.IsTuple T #[.str y t1,.str y t2,.str DA t3]→s'.heap.Ns cenv.locals m'→R (.ok .next) s'):
  Fb (model prog w) A (.compLoop (dcE it q1 q2 q3 q4 q5 q6) 0 (.ref I) (.ref D) cenv) R s:=by
 refine xAA be fun n1 n2 n3=>?_;refine xAA bk fun o1 o2 o3=>?_;refine aL hy.ex fun c r bx hc=>?_;obtain c0:=hy.len;have nI:∀{b o},sB.heap.get? b=some o→b≠I:=fun e q=>by rw[q,o1]at e;contradiction
 obtain nD:∀{b o},sB.heap.get? b=some o→b≠D:=fun e q=>by rw[q,o2]at e;contradiction
 obtain nC:∀{b o},sB.heap.get? b=some o→b≠cenv.locals:=fun e q=>by rw[q,o3]at e;contradiction
 obtain hp:(cenv.scope.kind== .class||(cenv.scope.kind== .module&&cenv.locals != cenv.globals))=false:=by refine(ir O)▸?_;rfl
 refine Aw (b:=DcB prog w sB D I l0 cenv.locals y) (fun _=>rfl) (fun E'=>?_) fun s' E' hI=>?_
 ·obtain c1:s.heap.IsList l0 #[.str y ty]:=hl.at fun o e=>gB.keep _ _ e;refine IB b7 c1 (x:=.str y ty) rfl fun h1 b1 hs1=>?_;refine Ea (Ec a9 (hns.sameBut hs1 n1.symm) (fun h2 ag al=>?_) hp);have k2:∀b o,sB.heap.get? b=some o→h2.get? b=some o:=fun b o e=>al.extBut _ _ (nC e) (hs1.extBut _ _ (nI e) (gB.keep _ _ e));refine FZ (Ex O a9 ag (by simp;rfl) ?_) (by rfl);refine il (FZ (HH O b3 b4 (b5.keeps k2) ?_) (by rfl));refine aE (id k.Fq.obj) fun oQ ca c2 c3 J=>?_;refine CU (f:=k.aq) (x:=.ref K.x) c3 ?_;refine FZ (Ex O a9 ag (by simp;rfl) ?_) (by rfl);refine yAA (k2 _ _ b6) (k2 _ _ (hb _ _ c2)) ?_;obtain c4:Mine.Lake.Keeps B h2:=fun a o e=>k2 _ _ (hb _ _ e);refine qE (n:=n) (s:={ s with heap:=h2,toks:=_ }) G k.CA k.Fq k.hTq k.hi k.Fi k.hfi k.hTi k.hset H c4 (W.to fun b o J e=>k2 b o e) bx hc (by exact o50 c0) fun s3 T t1 t2 t3 g3 hT=>?_;have b2:h2.DictOf (Db prog w) D []:=(hD.sameBut hs1 n2.symm).sameBut al n3;refine wpAny_dictSet_pairs (knd:=Db prog w) (k:=y) (Gn prog w _ _) (Heap.DictOf.at b2 fun o e=>g3.keep _ _ e) fun h4 c5 V=>?_;obtain c6:=(ag.keeps g3.keep).sameBut V n3.symm;refine⟨T,t1,t2,t3,_,⟨?_,?_⟩,c5,?_,c6,?_⟩
  ·exact gB.same.trans (Same.trans ⟨rfl,rfl,id⟩ (g3.same.trans ⟨rfl,rfl,id⟩))
  ·exact fun b o e=>V.extBut _ _ (nD e) (g3.keep _ _ (k2 _ _ e))
  ·refine xEA hT fun oT e1 e2=>?_;refine yEA oT (V.extBut _ _ ?_ e1) e2;rintro rfl;refine ik (Heap.DictOf.at b2 (h':=s3.heap) fun o e=>g3.keep _ _ e) fun oD es ep Z J d2 J=>?_;rw[e1]at Z;injection Z with Z;subst Z;refine xAE (id e2) fun J J e5=>?_;rw[d2]at e5;contradiction
  ·refine xEA b1 fun oI e1 e2=>?_;exact yEA oI (V.extBut _ _ n2 (g3.keep _ _ (al.extBut _ _ n1 e1))) e2
 ·refine pD (id hI) fun T t1 t2 t3 m' g hd hT c7 a8=>?_;refine II H.1 a8 (hl.at fun o e=>g.keep _ _ e) (by rfl) fun h' a0=>?_;refine q _ T t1 t2 t3 m' ⟨g.same.trans ⟨rfl,rfl,id⟩,fun b o e=>a0 b o (nI e) (g.keep _ _ e)⟩ ?_ ?_ ?_
  ·exact Heap.DictOf.at hd fun o e=>a0 _ o n2.symm e
  ·refine xEA hT fun oT e1 e2=>?_;refine yEA oT (a0 _ _ ?_ e1) e2;rintro rfl;refine aQ a8 fun oI Z d2 J=>?_;rw[e1]at Z;injection Z with Z;subst Z;rw[e2.1]at d2;exact absurd d2 (by decide)
  ·exact c7.at' fun o e=>a0 _ o n1.symm e
end
section
variable {prog:C9}{w:World}{A:Dq}{E:Value→Shared→Prop}{s₀ s sB:Shared}{sc:Scope}{B:Fix}{C:Addr}{mN:Str→Option Value}{env:Env}{m cm:Str→Option Value}{K:WK}{σ τ:Wst}{n:Nat}
theorem fR {scope:Scope}{x:Str}(J:env.scope.kind=.function)(hc:env.kindOf x=some .cell):∀{names:List (Str×D4)},names.lookup x=some .free→
  (names.map fun(n,k)=>if (k==Em&&env.scope.kind== .function&&env.kindOf n==some .cell) then (n,F7) else (n,k)).lookup x=some .cell
 |[],h=>by trivial
 |(n,k)::r,h=>by
  have H:= @fR scope x J hc r;show GV x ((if (k==Em&&env.scope.kind== .function&&env.kindOf n==some .cell)=true then (n,F7) else (n,k))::_)=_;refine aJ (x==n) (fun G=>?_) fun G=>?_
  ·simp only[ET,G]at h;injection h with h;subst h;have:n=x:=(beq_iff_eq.mp G).symm;clear G H;subst this;refine(ir J)▸(ir hc)▸?_;simp[ET]
  ·simp only[ET,G]at h;by_cases hc:(k==Em&&env.scope.kind== .function&&env.kindOf n==some .cell)=true
   ·refine(ir (if_pos hc))▸?_;simp only[ET,G];exact H h
   ·refine(ir (if_neg hc))▸?_;simp only[ET,G];exact H h
theorem Mcl.but (f:Mcl sc B C env K σ s₀ m cm s){a:Addr}{h':Heap}(hs:E3 a s.heap h')(hf:s₀.heap.get? a=none)(hl:env.locals≠a)(hc:∀n c,(n,c)∈env.cells→c≠a)(W:WI C K σ h'):Mcl sc B C env K σ s₀ m cm { s with heap:=h' }:=
 ⟨f.ns.sameBut hs hl,fun n c h=>(f.cell n c h).sameBut hs (hc n c (mem_of_lookup h)),f.apart,f.above,f.same.trans ⟨rfl,rfl,id⟩,fun b o hb e=>hs.extBut b o (fun q=>by rw[q,hf]at e;contradiction) (f.keep b o hb e),f.fresh,f.scp,f.gl,f.bu,f.base,f.fn,f.bown,W,f.wi0,f.self,f.hasSelf,f.lself⟩
theorem WI.notTuple {h:Heap}(W:WI C K σ h){a:Addr}{items:Array Value}(G:h.IsTuple a items):a∉K.own:=fun H=>
 gJ G fun o J hc n hd=>(W.look H).elim fun O z=>z.2 (Dd (z.1.symm.trans J)▸⟨hc,_,_,hd⟩)
theorem n0 {G:Glob B}(k:CK B G C mN)(L:LK B G)(a0:G.val "sorted"=some (.builtin "sorted"))(Z:Room (n+2) A)(f:Mcl sc B C env K σ s₀ m cm s)(be:env.code=.ref L.c)(hq:env.qual++"<lambda>"=K.qual)
  {p1 p2 p3 p4 p5 p6 p7 p8 p9 a8 a9 q1 q2 q3 q4 q5 q6 py b5:Pos}(c3:p7=K.pos)(hp:(p3.endLine==p6.line)=true){P cp mq:Addr}{y:Str}{ty:Tok}(hy:Nm y)
  (ci:sc.names.lookup ("sorted":Str)=some .globalImplicit)(d1:sc.names.lookup ("qnames":Str)=some .local)(d2:sc.names.lookup ("parsed_qnames":Str)=some .local)(d3:sc.names.lookup ("parse_qname":Str)=some .cell)(hm:m "qnames"=some (.ref P))(hP:One w s.heap P y ty)(d4:P∉K.own)
  (d5:Gs (dcE (kP p1 p2 p3 p4 p5 p6 p7 p8 p9 a8 a9) q1 q2 q3 q4 q5 q6) (some (.Name "parsed_qnames" py)) b5.line env=pure true)(b3:∀n c,(n,c)∈env.cells→∃o,s.heap.get? c=some o)(bk:Jq eR env=pure [(t5 "parse_qname",cp)])
  (d6:env.cells.lookup ("parse_qname":Str)=some cp)(d7:cm "parse_qname"=some (.ref mq))(dv:s.heap.get? mq=some (Gc (.ref k.aq) (.ref K.x)))(c4:mq∉K.own){Q:Flow→Shared→Prop}
  (q:∀s' D T t1 t2 t3,(D∉K.own∧D≠env.locals)→(T∉K.own∧T≠env.locals)→Mcl sc B C env K σ s₀ (upd m "parsed_qnames" (.ref D)) cm s'→(∀b o,b≠am→b≠env.locals→s.heap.get? b=some o→s'.heap.get? b=some o)→s'.heap.DictOf (Db prog w) D [(y,.ref T)]→s'.heap.IsTuple T #[.str y t1,.str y t2,.str DA t3]→Q .next s'):
  wpAny (model prog w) A (exec (.Assign [.Name "parsed_qnames" py] (dcE (kP p1 p2 p3 p4 p5 p6 p7 p8 p9 a8 a9) q1 q2 q3 q4 q5 q6) b5) env) Q E s:=by
 rw[exec_Assign_Name_used _ _ _ _ d5];refine wb3 ?_;show wpAny _ A (do let _ ←Ij (dcE (kP p1 p2 p3 p4 p5 p6 p7 p8 p9 a8 a9) q1 q2 q3 q4 q5 q6) eR env _ newDict false (eval (kP p1 p2 p3 p4 p5 p6 p7 p8 p9 a8 a9) env) (some (Go (.Name "parsed_qnames" py) env))) _ _ s;refine il (Dn (Ih (use:=some (Go (.Name "parsed_qnames" py) env)) (Q:=fun J s'=>Q .next s') rfl (fun J=>rfl) bk rfl (by decide) ?_) (fun J s' hq=>nb (nb hq)) fun J J e=>e);refine nZ L a0 Z.1 (by have:=Z.2.1;exact o9 this) f be hq c3 hp hy.len ci d1 hm hP d4 fun D0 V g1 W1 k1 ec c5=>?_;have f1:=f.step g1 W1;refine Ia c5.isList ?_;refine EF ?_;refine IQ (by decide) (by intro y hy;simp at hy) (fun ag H O=>?_) rfl;dsimp only at H O⊢;have al:(V.heap.push { cls:=.type "list_iterator",data:=.fields #[.ref D0,.int 0 0] }).IsListIter V.heap.objs.size D0 0:=⟨_,rh _ rfl,rfl,rfl⟩
 have c6:∀b o,V.heap.get? b=some o→(V.heap.push { cls:=.type "list_iterator",data:=.fields #[.ref D0,.int 0 0] }).get? b=some o:=fun b o e=>mc _ e;have c7:(V.heap.push { cls:=.type "list_iterator",data:=.fields #[.ref D0,.int 0 0] }).objs.size=V.heap.objs.size+1:=by rw[Eh]
 generalize ee:V.heap.push { cls:=.type "list_iterator",data:=.fields #[.ref D0,.int 0 0] }=H1 at H O al c6 c7⊢;have b6:(H1.push { cls:=.type "dict",dict:=none,data:=.dict #[] }).DictOf (Db prog w) H1.objs.size []:=IM H1;have hkd:∀b o,H1.get? b=some o→(H1.push { cls:=.type "dict",dict:=none,data:=.dict #[] }).get? b=some o:=fun b o e=>mc _ e;have ca:(H1.push { cls:=.type "dict",dict:=none,data:=.dict #[] }).objs.size=H1.objs.size+1:=by rw[Eh]
 generalize ef:H1.push { cls:=.type "dict",dict:=none,data:=.dict #[] }=H2 at H O b6 hkd ca⊢;have b4:∀b o,H2.get? b=some o→ag.get? b=some o:=fun b o e=>O.extBut b o (Dh (rl e)) (mc _ e);obtain gB:Grw V { V with heap:=ag,toks:=V.toks+([]:List (Str×Value)).length }:=⟨⟨rfl,rfl,id⟩,fun b o e=>b4 _ _ (hkd _ _ (c6 _ _ e))⟩
 have fr:∀a,V.heap.objs.size≤a→V.heap.get? a=none:=fun a ha=>GB ha
 obtain bx:∀n c,(n,c)∈env.cells→c<V.heap.objs.size:=fun n c hm=>by
  refine xE (b3 n c hm) fun o ho=>?_;exact rl (g1.keep _ _ (f.co hm) ho)
 refine xEA (f1.cell _ cp d6) fun cO e0 e4=>?_;have z1:V.heap.objs.size<H1.objs.size:=by rw[c7];exact DV _
 have z2:H1.objs.size<H2.objs.size:=by rw[ca];exact DV _
 have c0:env.locals≠H2.objs.size:=Dh (DW f1.ns.lt (DW z1 z2))
 have loop:Fb (model prog w) A (.compLoop (dcE (kP p1 p2 p3 p4 p5 p6 p7 p8 p9 a8 a9) q1 q2 q3 q4 q5 q6) 0 (.ref V.heap.objs.size) (.ref H1.objs.size) (compEnvC eR [(t5 "parse_qname",cp)] H2.objs.size env))
   (compPost (model prog w) A E (some (Go (.Name "parsed_qnames" py) env)) (fun J s'=>Q .next s') (.ref H1.objs.size) H2.objs.size) { V with heap:=ag,toks:=V.toks+([]:List (Str×Value)).length }:=by
  refine yq (n:=n) (sB:=V) (mq:=mq) (cenv:=compEnvC eR [(t5 "parse_qname",cp)] H2.objs.size env) k Z hy f1.keeps W1 gB (by rfl) (lookup_relabel_local rfl) (fR (scope:=eR) f.kind (by rw[f.kindOf,d3]) rfl) rfl ⟨cO,e0,by rw[e4,d7]⟩ (g1.keep _ _ c4 dv)
   (al.at fun o e=>b4 _ o (hkd _ o e)) c5.isList (Heap.DictOf.at b6 fun o e=>b4 _ o e) H ⟨Dh (DW z1 z2),Dh z1,Dh z2⟩ ⟨fr _ (DK _),fr _ (D9 z1),fr _ (D9 (DW z1 z2))⟩ fun s2 T t1 t2 t3 m' g2 hd hT c1=>?_
  have f2:=f1.grw g2;show wpAny _ A (Go (.Name "parsed_qnames" py) env (.ref H1.objs.size)) _ _ _;refine Ea (f2.put d2 fun s3 f3 b1 J=>?_);refine yEA m' (c1.sameBut b1 c0.symm) (fun h4 b2=>?_);have c2:V.heap.get? H2.objs.size=none:=fr _ (D9 (DW z1 z2))
  have cb:H1.objs.size≠env.locals:=fun e=>by
   have:=fr _ (D9 z1);refine bq f1.ns fun o J J ho J=>?_;rw[e,ho]at this;contradiction
  refine xEA hT fun oT e1 e2=>?_
  have cc:T≠env.locals:=fun e=>by
   refine bg f2.ns fun o es ep ho hd J=>?_;rw[e,ho]at e1;injection e1 with e1;subst e1;refine xAE e2 fun J J e3=>?_;rw[hd]at e3;contradiction
  obtain e5:T≠H2.objs.size:=fun e=>by
   refine bg c1 fun o es ep ho hd J=>?_;have ho:s2.heap.get? H2.objs.size=some o:=ho;rw[e,ho]at e1;injection e1 with e1;subst e1;refine xAE e2 fun J J e3=>?_;rw[hd]at e3;contradiction
  have b7:H2.objs.size∉K.own:=fun hm=>by refine xE (f1.wi.live _ hm) fun o ho=>?_;rw[c2]at ho;contradiction
  obtain e6:s₀.heap.get? H2.objs.size=none:=by
   cases e:s₀.heap.get? H2.objs.size with
   |none=>rfl
   |some o=>rw[f1.keep _ _ b7 e]at c2;contradiction
  obtain e7:∀n c,(n,c)∈env.cells→c≠H2.objs.size:=fun n c hm=>Dh (DW (bx n c hm) (DW z1 z2));obtain e9:=c1.sameBut b1 c0.symm
  obtain W4:WI C K σ h4:=f3.wi.to fun b o hb e=>b2.extBut b o (fun q=>by
   refine bg e9 fun oD es ep e1 e2 J=>?_;have e1:s3.heap.get? H2.objs.size=some oD:=e1;rw[q,e1]at e;injection e with e;subst e;rcases hb with hb|⟨xs,n,hb⟩|⟨xs,hb⟩
   ·exact b7 (q▸hb)
   ·rw[hb]at e2;contradiction
   ·rw[hb]at e2;contradiction) e
  obtain ea:H1.objs.size∉K.own:=fun hm=>by refine xE (f1.wi.live _ hm) fun o ho=>?_;rw[fr _ (D9 z1)]at ho;contradiction
  refine q { s3 with heap:=h4 } H1.objs.size T t1 t2 t3 ⟨ea,cb⟩ ⟨f2.wi.notTuple ⟨oT,e1,e2⟩,cc⟩ (f3.but b2 e6 c0 e7 W4) (fun b o ch eb e=>b2.extBut b o (fun q=>?_) (b1.extBut b o eb (g2.keep _ _ (k1 b o ch e)))) ?_ ⟨oT,b2.extBut _ _ e5 (b1.extBut _ _ cc e1),e2⟩
  ·have:=k1 b o ch e;rw[q,c2]at this;contradiction
  ·exact Heap.DictOf.at hd fun o e=>b2.extBut _ _ (Dh z2) (b1.extBut _ _ cb e)
 exact codeAny_compStart_dict loop (wpAny_pyIter_listiter (al.at fun o e=>b4 _ o (hkd _ o e)) loop)
end
structure Pb (prog:C9)(w:World)(K:WK)(L:Addr)(y:Str)(at' ln D T:Addr)(h:Heap):Prop where
 l:IsL h ln #[]
 d:h.DictOf (Db prog w) at' []
 p:h.DictOf (Db prog w) D [(y,.ref T)]
 t:∃t1 t2 t3,h.IsTuple T #[.str y t1,.str y t2,.str DA t3]
 wr:WrAt K h
 o1:ln∉K.own∧ln≠L
 o2:at'∉K.own∧at'≠L
 o3:D∉K.own∧D≠L
 o4:T∉K.own∧T≠L
 o5:∀aw,K.wr=.ref aw→aw≠L
theorem Pb.to {prog:C9}{w:World}{K:WK}{L:Addr}{y:Str}{B H D T:Addr}{h h':Heap}(x:Pb prog w K L y B H D T h)(G:∀b o,b∉K.own→b≠L→h.get? b=some o→h'.get? b=some o):Pb prog w K L y B H D T h':=
 ⟨IsL.mv x.l (fun _ e=>G _ _ x.o1.1 x.o1.2 e),Heap.DictOf.at x.d fun o e=>G _ o x.o2.1 x.o2.2 e,Heap.DictOf.at x.p fun o e=>G _ o x.o3.1 x.o3.2 e,
  DO (fun _=>DO fun _=>DO fun _=>DO fun _ z=>⟨G _ _ x.o4.1 x.o4.2 z.1,z.2⟩) x.t,DO (fun aw z=>⟨z.1,z.2.1,G _ _ z.2.1 (x.o5 aw z.1) z.2.2⟩) x.wr,x.o1,x.o2,x.o3,x.o4,x.o5⟩
noncomputable def bn (x:Str):Str:=("<":Str)++x
section
variable {prog:C9}{w:World}{A:Dq}{E:Value→Shared→Prop}{s₀ s sB:Shared}{sc:Scope}{B:Fix}{C:Addr}{mN:Str→Option Value}{env:Env}{m cm:Str→Option Value}{K:WK}{σ τ:Wst}{n:Nat}
theorem tS {G slice:Expr}{D T:Addr}{y:Str}{t:Tok}{Q:Value→Shared→Prop}(hd:s.heap.DictOf (Db prog w) D [(y,.ref T)])(q:∀H,Q (.ref T) { s with toks:=H })(hs:J3 slice false (.ref D) (.str y t)=operate [.ref D,.str y t] (Kh (.ref D) (.str y t)):=by with_unfolding_all rfl):
  wpAny (model prog w) A (Gu G slice (.ref D) (.str y t)) Q E s:=by
 refine HI hd.typeIs IZ.lookup ?_ hs;refine wpAny_getItem_slot hd.typeIs (by decide) IZ ?_;refine Ll IZ hd.typeIs F.entry_dict_getitem (F.args_dict_getitem_2 _ _) (meets_dict_getitem (Db prog w) D (Gn prog w y t)) ⟨_,.ref T,hd.mapOf,?_,q _⟩;simp[JA]
theorem j0 {n:Nat}(h:0<n):HM (-1) n=some (n-1):=by
 show(if (decide (0≤(-1+(n:Int)))&&decide ((-1+(n:Int))<n))=true then some (-1+(n:Int)).toNat else none)=_;rw[if_pos (by simp;lia)]
 congr 1;lia
theorem Mcl.setRoot {p:Pos}{R:Unit→Shared→Prop}(f:Mcl sc B C env K σ s₀ m cm s)(CA:aV B C mN)(hx:K.x≠C)(k:∀s',Mcl sc B C env K { σ with root:=true } s₀ m cm s'→R () s'):
  wpAny (model prog w) A (eval (.Name "self" p) env) (fun ov s₂=>wpAny (model prog w) A (Kf ov "_root_seen" (.bool true)) R E s₂) E s:=by
 refine f.me ?_;refine f.wi.store CA f.keeps (by decide) Nb.root hx (r':=true) (fun Z h=>?_) fun s' h1 h2 W=>k s' (f.step (Stp.of h1 h2 W) W);have G:∀{z:Str} {v:Value} {r:Option Value},z≠("_root_seen":Str)→Z z=r→(fun(y:Str)=>if y=("_root_seen":Str) then some v else Z y) z=r:=fun h e=>(if_neg h).trans e;obtain⟨a1,a2,a3,a4,a5,a6,a7,a8,a9,H,J,O,a0,⟨t,V⟩⟩:=h;exact⟨G (by decide) a1,G (by decide) a2,G (by decide) a3,G (by decide) a4,G (by decide) a5,G (by decide) a6,G (by decide) a7,G (by decide) a8,G (by decide) a9,G (by decide) H,G (by decide) J,G (by decide) O,if_pos rfl,⟨t,G (by decide) V⟩⟩
theorem n5 {G:Glob B}(k:CK B G C mN)(hO:∀a∈K.own,B.base a=none)(g3:Room (n+2) A)(f:Mcl (aa (ak 8)).scope B C env K σ s₀ m cm s){y:Str}{ty:Tok}{ag ln D T:Addr}(hy:Nm y)(P:Pb prog w K env.locals y ag ln D T s.heap)
  (g4:m "tag"=some (.str y ty))(g5:m "attrs"=some (.ref ag))(g6:m "new_namespaces"=some (.ref ln))(g7:m "qname_text"=some .none)(g8:m "parsed_qnames"=some (.ref D))(hsys:(ag==EE)=false)(ej:σ.parts.length≤800∧σ.np≤800∧σ.nn≤800)(h0:0<σ.np){Q:Flow→Shared→Prop}
  (q:∀s',Stp K s₀ s'→WI C K { σ with parts:=σ.parts++[bn y]++[(">":Str)],root:=true,np:=σ.np+1,nn:=σ.nn+1 } s'.heap→Q .next s'):wpAny (model prog w) A (execs ((aa (ak 8)).body.drop 7) env) Q E s:=by
 have hI:DS env=false:=by unfold DS;refine(ir f.scp)▸?_;rfl
 refine csI (DP ?_);refine f.name rfl g6 ?_;refine Ha P.l.isList (by show((0:Nat):Int)<2 ^ 63;decide) ?_;have f1:=f.tok (t:=s.toks+1+1);refine csA ?_ (by rfl);refine wb3 ?_;refine Dp ?_;refine EK ?_ (Ej _);have f2:=f1.push (t:=s.toks+1+1) { cls:=.type "list",data:=.seq ([]:List Value).toArray };have cb:IsL (s.heap.push { cls:=.type "list",data:=.seq ([]:List Value).toArray }) s.heap.objs.size #[]:=⟨0,rh _ rfl⟩
 have P2:=P.to fun b o J J e=>mc { cls:=.type "list",data:=.seq ([]:List Value).toArray } e;have al:s.heap.objs.size∉K.own:=fun hm=>by refine xE (f.wi.live _ hm) fun o ho=>?_;exact absurd (rl ho) (DF _)
 have a0:s.heap.objs.size≠env.locals:=Dl f.ns.lt;generalize s.heap.objs.size=AL at cb al a0⊢;generalize (s.heap.push { cls:=.type "list",data:=.seq ([]:List Value).toArray })=H2 at f2 cb P2⊢;refine f2.put rfl fun s3 f3 e5 J=>?_;have P3:=P2.to fun b o J hb e=>e5.extBut b o hb e;have ci:IsL s3.heap AL #[]:=IsL.mv cb fun _ e=>e5.extBut _ _ a0 e;have a1:upd m "attr_list" (.ref AL) "tag"=some (.str y ty):=ah (by decide) g4;have a2:upd m "attr_list" (.ref AL) "attrs"=some (.ref ag):=ah (by decide) g5;have a4:upd m "attr_list" (.ref AL) "qname_text"=some .none:=ah (by decide) g7;have a5:upd m "attr_list" (.ref AL) "parsed_qnames"=some (.ref D):=ah (by decide) g8;have a6:upd m "attr_list" (.ref AL) "attr_list"=some (.ref AL):=ar;generalize upd m "attr_list" (.ref AL)=m3 at f3 a1 a2 a4 a5 a6;clear f2 f1 f P P2 cb e5;refine C7 ?_;refine csI (DP ?_);refine f3.name rfl a2 ?_;refine wpAny_truthy_dict hsys P3.d (by show((0:Nat):Int)<2 ^ 63;decide) ?_;have f4:=f3.tok (t:=s3.toks+1+1);refine C7 ?_;refine csA ?_ (by rfl);refine Dk rfl rfl rfl ?_;refine f4.name rfl a2 ?_;refine mOn F.plainAttrs_dict Iz F.type_dict_get (JY (s:={ s3 with toks:=s3.toks+1+1 }) P3.d) P3.d.mapOf.noDict ?_;refine cw1 (Ds ?_);refine Ll Iz (JY (s:={ s3 with toks:=s3.toks+1+1+1 }) P3.d) F.entry_dict_get (F.args_dict_get_2 _ _) (meets_dict_get (Db prog w) ag (Gn prog w _ _) hsys) ⟨_,P3.d.mapOf,?_⟩;have f5:=f4.tok (t:=s3.toks+1+1+1+1);refine f5.put rfl fun s6 f6 e6 J=>?_;have P6:=P3.to fun b o J hb e=>e6.extBut b o hb e;have d1:IsL s6.heap AL #[]:=IsL.mv ci fun _ e=>e6.extBut _ _ a0 e;have b1:upd m3 "space_behaviour" .none "tag"=some (.str y ty):=ah (by decide) a1;have b4:upd m3 "space_behaviour" .none "qname_text"=some .none:=ah (by decide) a4;have b5:upd m3 "space_behaviour" .none "parsed_qnames"=some (.ref D):=ah (by decide) a5;have b6:upd m3 "space_behaviour" .none "attr_list"=some (.ref AL):=ah (by decide) a6;have b7:upd m3 "space_behaviour" .none "space_behaviour"=some .none:=ar;change Mcl _ B C _ K σ s₀ (upd m3 "space_behaviour" .none) cm s6 at f6;generalize upd m3 "space_behaviour" .none=m6 at f6 b1 b4 b5 b6 b7;clear f5 f4 f3 P3 ci e6 a1 a2 a4 a5 a6;have kL:K.lps∈K.own∧K.lns∈K.own∧K.lp∈K.own:=⟨WK.mlps,WK.mlns,WK.mlp⟩
 refine csE ?_ hI;refine Dk rfl rfl rfl ?_;refine f6.attr k.CA (v:=.ref K.lps) (by decide) Nb.psp (fun mA h=>h.psp) rfl (fun f7=>?_);refine aQ f7.wi.ps fun ip cc d2 eo=>?_;obtain d2:ip.size=σ.np:=d2;refine tI cc ?_;refine J2 (DP ?_);refine f7.name rfl b7 ?_;refine IS ?_;refine FC ?_;refine f7.attr k.CA (v:=.ref K.lps) (by decide) Nb.psp (fun mA h=>h.psp) rfl (fun f8=>?_);refine wpAny_UnaryOp (Dj (neg_int ?_));refine dI (fun J J J J h=>by contradiction) cc.typeIs slot_list_getitem.lookup ?_
 obtain e7:ip[ip.size-1]?=some (.bool false):=by
  obtain gb:ip.size-1<ip.size:=by lia
  refine(ir (HG gb))▸?_;exact congrArg some (eo _ (by simp))
 refine gP cc.isList (j:=ip.size-1) (j0 (by lia)) (by show -((ip.size:Nat):Int)≤ -1;lia) (by decide) (by decide) e7 ?_;refine aQ f8.wi.ps fun gd d3 V e9=>?_;have V:gd.size=σ.np:=V;have f9:=f8.tok (t:=s6.toks+1+1+1+1);refine cq (s:={ s6 with toks:=s6.toks+1+1+1+1 }) d3 (by lia) fun er d4 a8=>?_
 have et:=f9.wi.setPs (k:=σ.np+1) a8 ⟨_,d4,by simp[V],fun v hv=>by
  simp only[G3,Eo,DD]at hv;rcases hv with hv|rfl
  ·exact e9 v hv
  ·rfl⟩
 have ey:=f9.to (t:=s6.toks+1+1+1+1) kL.1 a8 et;have P10:=P6.to (h':=er) fun b o hb J e=>a8 b o (fun q=>hb (q▸kL.1)) e;have b2:IsL er AL #[]:=IsL.mv d1 fun _ e=>a8 _ _ (fun q=>al (q▸kL.1)) e;clear f9 f8 f7 f6 P6 d1 et d3 cc d4;refine csA ?_ (by rfl);refine aQ P10.wr fun aw ea h5 h6=>?_;refine ey.attr k.CA (v:=.ref aw) (by decide) Nb.write (fun mA h=>by refine ea▸?_;exact h.write) rfl (fun f0=>?_);refine f0.put rfl fun b3 be bk J=>?_;have P12:=P10.to fun b o J hb e=>bk.extBut b o hb e;have bx:IsL b3.heap AL #[]:=IsL.mv b2 fun _ e=>bk.extBut _ _ a0 e;have c1:upd m6 "write" (.ref aw) "tag"=some (.str y ty):=ah (by decide) b1;have c4:upd m6 "write" (.ref aw) "qname_text"=some .none:=ah (by decide) b4;have c5:upd m6 "write" (.ref aw) "parsed_qnames"=some (.ref D):=ah (by decide) b5;have c6:upd m6 "write" (.ref aw) "attr_list"=some (.ref AL):=ah (by decide) b6;have c7:upd m6 "write" (.ref aw) "write"=some (.ref aw):=ar;generalize upd m6 "write" (.ref aw)=m12 at be c1 c4 c5 c6 c7;clear f0 ey P10 b2 bk b1 b4 b5 b6 b7;refine csE ?_ hI;refine il (be.name rfl c7 ?_);refine wx (id:="list.append") (x:=.ref K.lp) ?_;refine EO (Ds ?_);have eb:=be.tok (t:=b3.toks+1);refine FC (FC ?_);refine eb.name rfl c5 ?_;refine eb.name rfl c1 ?_;refine tS P12.p fun tk=>?_;refine BW P12.t fun t1 t2 t3 hT=>?_;refine Dj ?_;refine BE hT rfl ?_;obtain h7:=hy.len;refine add_str (fun t' Z=>?_) (by show 1+y.length≤Eu;refine(ir Di)▸?_;lia);have ec:=be.tok (t:=Z)
 have d5:b3.heap.get? aw=some (aN "list.append" (.ref K.lp)):=by
  refine aQ P12.wr fun gg e1 e2 e3=>?_;rw[ea]at e1;injection e1 with e1;clear e2;subst e1;exact e3
 refine⟨d5,?_⟩;refine xEA ec.wi.parts fun up fa ee=>?_;have c0:=ee.length;obtain c0:up.length=σ.parts.length:=ee.length.symm;refine cE (s:={ b3 with toks:=Z }) d5 fa (by simp;lia) fun ch d6 c2=>?_;have ef:=ec.setParts (t:=Z) c2 (StrsAt.push ee d6);have P15:=P12.to (h':=ch) fun b o hb J e=>c2 b o (fun q=>hb (q▸kL.2.2)) e;have c3:IsL ch AL #[]:=IsL.mv bx fun _ e=>c2 _ _ (fun q=>al (q▸kL.2.2)) e;clear ec eb be P12 bx fa d6;refine csI (DP ?_);refine ef.name rfl c6 ?_;refine Ha c3.isList (by show((0:Nat):Int)<2 ^ 63;decide) ?_;have eg:=ef.tok (t:=Z+1+1);refine C7 ?_;refine csE ?_ hI;refine il (eg.name rfl c7 ?_);refine wx (id:="list.append") (x:=.ref K.lp) ?_;refine Ds ?_;have eh:=eg.tok (t:=Z+1+1+1)
 have d7:ch.get? aw=some (aN "list.append" (.ref K.lp)):=by
  refine aQ P15.wr fun gg e1 e2 e3=>?_;rw[ea]at e1;injection e1 with e1;clear e2;subst e1;exact e3
 refine⟨d7,?_⟩;refine xEA eh.wi.parts fun gk dv ca=>?_;have H:=ca.length;have H:gk.length=(σ.parts++[bn y]).length:=ca.length.symm;refine cE (s:={ b3 with heap:=ch,toks:=Z+1+1+1 }) d7 dv (by simp at H⊢;exact Ch ej c0 H) fun h9 e0 fc=>?_;have ei:=eh.setParts (t:=Z+1+1+1) fc (StrsAt.push ca e0);clear eh eg ef P15 c3 dv e0;refine csI (DI ?_ rfl);refine ei.name rfl c4 ?_;refine D5 ?_;refine HW ?_;refine DJ ?_;refine C7 ?_;refine csT ?_ (by rfl);refine Jb ?_;refine Mcl.setRoot ei k.CA (k.xC hO) fun a9 gp=>?_;clear ei;refine csE ?_ hI;refine Dk rfl rfl rfl ?_;refine gp.attr k.CA (v:=.ref K.lns) (by decide) Nb.nss (fun mA h=>h.nss) rfl (fun fl=>?_);refine xEA fl.wi.ns fun iq fp O=>?_;have O:iq.size=σ.nn:=O;refine tI fp ?_;refine wb3 ?_;refine Dp ?_;refine EK ?_ (Ej _);have fs:=fl.push (t:=a9.toks+1) { cls:=.type "list",data:=.seq ([]:List Value).toArray };obtain g0:IsL (a9.heap.push { cls:=.type "list",data:=.seq ([]:List Value).toArray }) K.lns iq:=IsL.mv fp fun _ e=>mc _ e;refine cq (s:={ a9 with heap:=a9.heap.push { cls:=.type "list",data:=.seq ([]:List Value).toArray },toks:=a9.toks+1 }) g0 (by exact Cf ej O O) fun ha g1 e4=>?_;obtain gz:=fs.wi.setNs (k:=σ.nn+1) e4 ⟨_,g1,by simp[O]⟩;have g2:=fs.to (t:=a9.toks+1) kL.2.1 e4 gz;refine C7 ?_;exact q _ g2.stp g2.wi
end
section
variable {prog:C9}{w:World}{A:Dq}{E:Value→Shared→Prop}{s₀ s sB:Shared}{sc:Scope}{B:Fix}{C:Addr}{mN:Str→Option Value}{env:Env}{m cm:Str→Option Value}{K:WK}{σ τ:Wst}{n:Nat}
noncomputable def fg:Pos:={ line:=153,col:=71,endLine:=153,endCol:=96 }
theorem n7 {G:Glob B}(k:CK B G C mN)(L:LK B G)(a0:G.val "sorted"=some (.builtin "sorted"))(hO:∀a∈K.own,B.base a=none)(O:Room (n+2) A)(f:Mcl (aa (ak 8)).scope B C env K σ s₀ m cm s){y:Str}{ty:Tok}{H ln cp cs:Addr}(hy:Nm y)
  (a8:env.code=.ref L.c)(hq:env.qual++"<lambda>"=K.qual)(ci:K.pos=fg)(Z:env.cells=[(t5 "parse_qname",cp),(t5 "self",cs)])
  (e6:IsL s.heap ln #[])(d2:s.heap.DictOf (Db prog w) H [])(e7:WrAt K s.heap)(b6:ln∉K.own∧ln≠env.locals)(b7:H∉K.own∧H≠env.locals)(be:∀aw,K.wr=.ref aw→aw≠env.locals)(bk:ln≠cp∧H≠cp∧∀aw,K.wr=.ref aw→aw≠cp)
  (d3:m "tag"=some (.str y ty))(d4:m "attrs"=some (.ref H))(e9:m "new_namespaces"=some (.ref ln))(ea:m "qname_text"=some .none)(hsys:(H==EE)=false)(ee:σ.parts.length≤800∧σ.np≤800∧σ.nn≤800)(eh:0<σ.np){Q:Flow→Shared→Prop}
  (q:∀s',Stp K s₀ s'→WI C K { σ with parts:=σ.parts++[bn y]++[(">":Str)],root:=true,np:=σ.np+1,nn:=σ.nn+1 } s'.heap→Q .next s'):wpAny (model prog w) A (execs (aa (ak 8)).body env) Q E s:=by
 obtain⟨es,el,eg,ec,eq,ef,fl,fp,eb⟩:=env;obtain hs:es=(aa (ak 8)).scope:=f.scp;subst hs;change ec=_ at Z;subst Z;refine csI (ED (Ef (DI ?_ rfl)));refine f.attr k.CA (v:=.none) (by decide) Nb.exa (fun mA h=>h.exa) rfl (fun f1=>?_);refine D5 ?_;refine HW ?_;refine DJ ?_;refine C7 ?_;refine csA ?_ (by rfl);refine nY L O.1 f1 a8 rfl rfl d3 d4 d2 hsys fun P s2 g2 bx a9=>?_;have f2:=f1.grw g2;obtain ei:P∉K.own:=fun hm=>by refine xE (f1.wi.live _ hm) fun o ho=>?_;rw[bx]at ho;contradiction
 have c0:P≠el:=fun e=>by
  refine bq f1.ns fun o J J ho J=>?_;rw[e]at bx;rw[bx]at ho;contradiction
 refine f2.put rfl fun s3 f3 c6 J=>?_;have K3:∀b o,b≠el→s.heap.get? b=some o→s3.heap.get? b=some o:=fun b o hb e=>c6.extBut b o hb (g2.keep _ _ e);have ag:One w s3.heap P y ty:=One.mv a9 fun _ e=>c6.extBut _ _ c0 e;have a1:upd m "qnames" (.ref P) "tag"=some (.str y ty):=ah (by decide) d3;have a2:upd m "qnames" (.ref P) "attrs"=some (.ref H):=ah (by decide) d4;have a3:upd m "qnames" (.ref P) "new_namespaces"=some (.ref ln):=ah (by decide) e9;have a4:upd m "qnames" (.ref P) "qname_text"=some .none:=ah (by decide) ea;have a5:upd m "qnames" (.ref P) "qnames"=some (.ref P):=ar;generalize upd m "qnames" (.ref P)=m3 at f3 a1 a2 a3 a4 a5;clear f2 f1 f a9;refine csA ?_ (by rfl);refine JP ?_;have f4:=f3.push (t:=s3.toks) { cls:=.type "dict",data:=.dict #[] };have K4:∀b o,s3.heap.get? b=some o→(s3.heap.push { cls:=.type "dict",data:=.dict #[] }).get? b=some o:=fun b o e=>mc _ e;refine f4.put rfl fun s5 f5 d5 J=>?_;have K5:∀b o,b≠el→s3.heap.get? b=some o→s5.heap.get? b=some o:=fun b o hb e=>d5.extBut b o hb (K4 _ _ e);generalize s3.heap.objs.size=rn at f5;have b1:upd m3 "resolved_names" (.ref rn) "tag"=some (.str y ty):=ah (by decide) a1;have b2:upd m3 "resolved_names" (.ref rn) "attrs"=some (.ref H):=ah (by decide) a2;have b3:upd m3 "resolved_names" (.ref rn) "new_namespaces"=some (.ref ln):=ah (by decide) a3;have b4:upd m3 "resolved_names" (.ref rn) "qname_text"=some .none:=ah (by decide) a4;have b5:upd m3 "resolved_names" (.ref rn) "qnames"=some (.ref P):=ah (by decide) a5;generalize upd m3 "resolved_names" (.ref rn)=m5 at f5 b1 b2 b3 b4 b5;clear f4 f3 a1 a2 a3 a4 a5;refine csI (DI ?_ rfl);refine f5.name rfl b4 ?_;refine D5 ?_;refine HW ?_;refine DJ ?_;refine C7 ?_;refine csI (ED (Ef (DI ?_ rfl)));refine f5.attr k.CA (v:=.none) (by decide) Nb.fqa (fun mA h=>h.fqa) rfl (fun f6=>?_);refine D5 ?_;refine HW ?_;refine DJ ?_;refine csA ?_ (by rfl);refine D5 ?_;refine f6.put rfl fun s7 f7 d6 J=>?_;have K7:∀b o,b≠el→s5.heap.get? b=some o→s7.heap.get? b=some o:=fun b o hb e=>d6.extBut b o hb e;refine C7 ?_;have c1:upd m5 "qattrs" .none "tag"=some (.str y ty):=ah (by decide) b1;have c2:upd m5 "qattrs" .none "attrs"=some (.ref H):=ah (by decide) b2;have c3:upd m5 "qattrs" .none "new_namespaces"=some (.ref ln):=ah (by decide) b3;have c4:upd m5 "qattrs" .none "qname_text"=some .none:=ah (by decide) b4;have c5:upd m5 "qattrs" .none "qnames"=some (.ref P):=ah (by decide) b5;generalize upd m5 "qattrs" .none=m7 at f7 c1 c2 c3 c4 c5;clear f6 f5 b1 b2 b3 b4 b5;obtain d7:∀b o,b≠el→s.heap.get? b=some o→s7.heap.get? b=some o:=fun b o hb e=>K7 _ _ hb (K5 _ _ hb (K3 _ _ hb e));have al:One w s7.heap P y ty:=One.mv ag fun _ e=>K7 _ _ c0 (K5 _ _ c0 e);clear K3 K4 K5 K7 ag c6 d5 d6;refine csA ?_ (by rfl);refine il (f7.me ?_);refine wb3 (Dx ?_);refine xEA k.hfq fun oQ ej eo=>?_;refine f7.wi.bound k.CA f7.keeps k.hq ej eo Nb.qname (by decide) (by rfl) ?_;refine il (Fm (nb ?_));have f8:=f7.push (t:=s7.toks+1) (Gc (.ref k.aq) (.ref K.x));have c7:(s7.heap.push (Gc (.ref k.aq) (.ref K.x))).get? s7.heap.objs.size=some (Gc (.ref k.aq) (.ref K.x)):=rh _ rfl;have K8:∀b o,s7.heap.get? b=some o→(s7.heap.push (Gc (.ref k.aq) (.ref K.x))).get? b=some o:=fun b o e=>mc _ e;have dv:s7.heap.objs.size∉K.own:=fun hm=>by refine xE (f7.wi.live _ hm) fun o ho=>?_;exact absurd (rl ho) (DF _)
 have e0:s7.heap.objs.size≠cp:=Dl (f7.cell (t5 "parse_qname") cp rfl).lt;generalize s7.heap.objs.size=mq at c7 dv e0⊢;generalize s7.heap.push (Gc (.ref k.aq) (.ref K.x))=H8 at f8 c7 K8⊢;refine f8.putC (c:=cp) rfl rfl (by decide) fun s9 f9 ca J=>?_
 obtain er:P≠cp:=fun e=>by
  refine bq al fun a b c e1 J=>?_;refine xEA (f7.cell (t5 "parse_qname") cp rfl) fun o ho hd=>?_;rw[e,ho]at e1;injection e1 with e1;subst e1;contradiction
 obtain cb:One w s9.heap P y ty:=One.mv al fun _ e=>ca.extBut _ _ er (K8 _ _ e);have V:∀b o,b≠el→b≠cp→s.heap.get? b=some o→s9.heap.get? b=some o:=fun b o hb hc e=>ca.extBut _ _ hc (K8 _ _ (d7 _ _ hb e));obtain d1:upd cm "parse_qname" (.ref mq) "parse_qname"=some (.ref mq):=ar
 obtain cc:∀n c,(n,c)∈[(t5 "parse_qname",cp),(t5 "self",cs)]→∃o,s9.heap.get? c=some o:=fun n c hm=>by
  rcases Da.mp hm with e|e
  ·cases e;refine xEA (f9.cell (t5 "parse_qname") cp rfl) fun o ho J=>?_;exact⟨o,ho⟩
  ·cases DD.mp e;refine xEA (f9.cell (t5 "self") cs rfl) fun o ho J=>?_;exact⟨o,ho⟩
 refine DL ?_;refine n0 (n:=n) k L a0 O f9 a8 hq ci.symm rfl hy rfl rfl rfl rfl c5 cb ei rfl cc rfl rfl d1 (ca.extBut _ _ e0 c7) dv fun et D T t1 t2 t3 ey f0 fa ch e4 e5=>?_;have nt:∀{a:Addr},a∉K.own→a≠am:=fun h q=>h (q▸WK.mt);refine aQ e7 fun aw w1 w2 w3=>?_
 obtain fc:Pb prog w K el y H ln D T et.heap:=⟨IsL.mv e6 fun _ e=>ch _ _ (nt b6.1) b6.2 (V _ _ b6.2 bk.1 e),Heap.DictOf.at d2 fun o e=>ch _ _ (nt b7.1) b7.2 (V _ _ b7.2 bk.2.1 e),e4,⟨t1,t2,t3,e5⟩,
  ⟨aw,w1,w2,ch _ _ (nt w2) (be _ w1) (V _ _ (be _ w1) (bk.2.2 _ w1) w3)⟩,b6,b7,ey,f0,be⟩
 exact n5 (n:=n) k hO O fa hy fc (ah (by decide) c1) (ah (by decide) c2) (ah (by decide) c3) (ah (by decide) c4) ar hsys ee eh q
end
section
variable {prog:C9}{w:World}{A:Dq}{E:Value→Shared→Prop}{s₀ s sB:Shared}{sc:Scope}{B:Fix}{C:Addr}{mN:Str→Option Value}{env:Env}{m cm:Str→Option Value}{K:WK}{σ τ:Wst}{n:Nat}
set_option backward.match.sparseCases true in
theorem n8 {G:Glob B}(k:CK B G C mN)(L:LK B G)(a0:G.val "sorted"=some (.builtin "sorted"))(hO:∀a∈K.own,B.base a=none)(a8:Room (n+3) A)(hb:Mine.Lake.Keeps B s.heap)(W:WI C K σ s.heap)(c3:WrAt K s.heap){y:Str}{ty:Tok}{H ln:Addr}(hy:Nm y)
  (hS:∀o fd,B.base k.as1=some o→o.data=.func fd→fd.code=.ref L.c∧(fd.qualname++".<locals>.")++"<lambda>"=K.qual)(b6:K.pos=fg)
  (b7:IsL s.heap ln #[])(be:s.heap.DictOf (Db prog w) H [])(c4:ln∉K.own)(c5:H∉K.own)(hsys:(H==EE)=false)(c6:σ.parts.length≤800∧σ.np≤800∧σ.nn≤800)(c7:0<σ.np){Q:Value→Shared→Prop}
  (q:∀s',Stp K s s'→WI C K { σ with parts:=σ.parts++[bn y]++[(">":Str)],root:=true,np:=σ.np+1,nn:=σ.nn+1 } s'.heap→Q .none s'):wpAny (model prog w) A (call (.ref k.as1) [.ref K.x,.str y ty,.ref H,.ref ln]) Q E s:=by
 refine cg k.Fs1.obj fun o fd ho hd bk a9 O bx hg c0 c1 hkd b1=>?_;refine xAA (G.look s.heap hb) fun J J c2=>?_;refine xA (hS o fd ho hd) fun ag al=>?_;refine aL k.hTs fun oT qT ca cb=>?_;have b1:=b1 _ hb
 obtain b3:JL s fd ⟨[.ref K.x,.str y ty,.ref H,.ref ln],[]⟩ [("self",.ref K.x),("tag",.str y ty),("attrs",.ref H),("new_namespaces",.ref ln),("qname_text",.none)]:=by
  clear ag al b1 hd hg c0 bx a9 O;cases fd;dsimp only at bk c1 hkd;subst bk c1 hkd;exact Fl rfl (hb _ _ ca) cb (by rfl) (by rfl)
 refine Gm (IK (by have:=a8.2.1;lia -abstractProof) (hb _ _ ho) hd (by refine(ir O)▸?_;rfl) (by refine(ir O)▸?_;rfl) a9 b1 (b3 _ _ _ _ ?_));refine(ir bx)▸?_;refine Km (by refine(ir O)▸?_;rfl) ?_ fun env he s' x=>⟨c2.keeps x.toInCall.keep,Lj ?_⟩
 ·refine(ir O)▸?_;intro z hz;simp only[Da,Dr,or_false]at hz;rcases hz with rfl|rfl|rfl|rfl|rfl
  ·exact .inr ⟨rfl,rfl⟩
  ·exact .inl rfl
  ·exact .inl rfl
  ·exact .inl rfl
  ·exact .inl rfl
 have b2:env.scope=(aa (ak 8)).scope:=by refine(ir he)▸?_;exact O
 have Z:env.cells=[(t5 "parse_qname",s.heap.objs.size+1+1),(t5 "self",s.heap.objs.size+1)]:=by refine(ir he)▸(ir O)▸?_;rfl
 obtain b4:env.locals=s.heap.objs.size:=by refine(ir he)▸?_;rfl
 obtain e1:env.globals=B.g:=by refine(ir he)▸?_;exact hg
 obtain e2:env.builtins=B.b:=by refine(ir he)▸?_;exact c0
 obtain e3:env.code=.ref L.c:=by refine(ir he)▸?_;exact ag
 obtain e4:env.qual++"<lambda>"=K.qual:=by refine(ir he)▸?_;exact al
 obtain b5:env.kindOf=fun z=>(aa (ak 8)).scope.names.lookup z:=by funext z;unfold Io;rw[b2]
 clear he;rw[b5]at x;refine xEE x.toInCall.same fun h' tk cc=>?_
 have low:∀{a o},s.heap.get? a=some o→a≠env.locals∧a≠s.heap.objs.size+1+1:=fun e=>by
  have:=rl e;refine(ir b4)▸?_;exact⟨Dh this,Dh (HQ (HQ this))⟩
 obtain f:Mcl (aa (ak 8)).scope B C env K σ s (bindL (fun z=>(aa (ak 8)).scope.names.lookup z) [("self",.ref K.x),("tag",.str y ty),("attrs",.ref H),("new_namespaces",.ref ln),("qname_text",.none)] fun J=>none) (bindC (fun z=>(aa (ak 8)).scope.names.lookup z) [("self",.ref K.x),("tag",.str y ty),("attrs",.ref H),("new_namespaces",.ref ln),("qname_text",.none)] fun J=>none) s':=
  ⟨x.toInCall.ns,x.cell,x.apart,x.above,by refine(ir cc)▸?_;exact⟨rfl,rfl,id⟩,fun b o J e=>x.toInCall.keep b o e,x.toInCall.fresh,b2,e1,e2,hb,rfl,hO,W.to fun b o J e=>x.toInCall.keep b o e,⟨σ,W⟩,rfl,by refine(ir Z)▸?_;rfl,rfl⟩
 refine xE (id b7) fun q1 g1=>?_;refine bq (id be) fun o2 J J g2 J=>?_;refine aQ (id c3) fun aw w1 w2 w3=>?_;have hw:∀V,K.wr=.ref V→V=aw:=fun V e=>by rw[w1]at e;injection e with e;subst e;rfl
 refine n7 (A:=A.deeper env) (n:=n) (Q:=fun fl s'=>Q (match fl with|.ret v=>v|_=>.none) s') k L a0 hO (Room.deeper a8 env) f hy e3 e4 b6 Z (IsL.mv b7 fun _ e=>x.toInCall.keep _ _ e) (Heap.DictOf.at be fun o e=>x.toInCall.keep _ o e) ⟨aw,w1,w2,x.toInCall.keep _ _ w3⟩ ⟨c4,(low g1).1⟩ ⟨c5,(low g2).1⟩ (fun V e=>hw V e▸(low w3).1) ⟨(low g1).2,(low g2).2,fun V e=>hw V e▸(low w3).2⟩ rfl rfl rfl rfl hsys c6 c7 fun ch g W'=>q ch g W'
end
noncomputable def hM:List Str→List Str
 |[x]=>bP x
 |_=>[]
section
variable {prog:C9}{w:World}{A:Dq}{E:Value→Shared→Prop}{s₀ s sB:Shared}{sc:Scope}{B:Fix}{C:Addr}{mN:Str→Option Value}{env:Env}{m cm:Str→Option Value}{K:WK}{σ τ:Wst}{n:Nat}
set_option tactic.hygienic true in
theorem qG {G:Glob B}(k:CK B G C mN)(L:LK B G)(V:G.val "sorted"=some (.builtin "sorted"))(hO:∀a∈K.own,B.base a=none)(Z:Room (n+3) A)(b4:WrAt K s₀.heap){y:Str}{ty:Tok}{H:Addr}(hy:Nm y)
  (hS:∀o fd,B.base k.as1=some o→o.data=.func fd→fd.code=.ref L.c∧(fd.qualname++".<locals>.")++"<lambda>"=K.qual)(b5:K.pos=fg)
  (f:Mw (aa (ak 7)).scope B C env K σ s₀ m s)(c0:m "tag"=some (.str y ty))(c1:m "attrs"=some (.ref H))(b6:s.heap.DictOf (Db prog w) H [])(al:H∉K.own)(c2:H≠env.locals)(hsys:(H==EE)=false)
  (ag:σ.data=[]∨∃x,σ.data=[x]∧cr x∧σ.root=true)(c3:σ.parts.length≤700∧σ.ds.length≤700∧σ.np≤700∧σ.nn≤700)(c4:0<σ.np){Q:Flow→Shared→Prop}
  (q:∀s' d,Stp K s₀ s'→WI C K { σ with data:=[],parts:=σ.parts++hM σ.data++[bn y]++[(">":Str)],ds:=σ.ds++[d],root:=true,np:=σ.np+1,nn:=σ.nn+1 } s'.heap→Q .next s'):wpAny (model prog w) A (execs (aa (ak 7)).body env) Q E s:=by
 refine cL c3 fun z1 z2 z3 z4=>?_;have hI:DS env=false:=by unfold DS;rw[f.fo.scp];rfl
 refine csI (ED (Ef (DI ?_ rfl)));refine f.attr k.CA (v:=.none) (by decide) Nb.ext (fun mA h=>h.ext) rfl (fun f1=>?_);refine D5 ?_;refine HW ?_;refine DJ ?_;refine C7 ?_
 have rest:∀s2,Mw (aa (ak 7)).scope B C env K { σ with data:=[],parts:=σ.parts++hM σ.data } s₀ m s2→s2.heap.DictOf (Db prog w) H []→wpAny (model prog w) A (execs ((aa (ak 7)).body.drop 2) env) Q E s2:=by
  intro s2 O c5;refine csA ?_ (by rfl);refine wb3 ?_;refine Dp ?_;refine EK ?_ (Ej _);have f3:=O.push (t:=s2.toks) { cls:=.type "list",data:=.seq ([]:List Value).toArray };have hL:IsL (s2.heap.push { cls:=.type "list",data:=.seq ([]:List Value).toArray }) s2.heap.objs.size #[]:=⟨0,rh _ rfl⟩
  have a8:s2.heap.objs.size∉K.own:=fun hm=>by refine xE (O.wi.live _ hm) fun o ho=>?_;exact absurd (rl ho) (DF _)
  have b7:s2.heap.objs.size≠env.locals:=Dl O.fo.ns.lt;have be:(s2.heap.push { cls:=.type "list",data:=.seq ([]:List Value).toArray }).DictOf (Db prog w) H []:=Heap.DictOf.at c5 fun o e=>mc _ e;generalize s2.heap.objs.size=d at hL a8 b7⊢;generalize s2.heap.push { cls:=.type "list",data:=.seq ([]:List Value).toArray }=H3 at f3 hL be⊢;refine f3.put rfl fun s4 f4 bk=>?_;have bx:IsL s4.heap d #[]:=IsL.mv hL fun _ e=>bk.extBut _ _ b7 e;obtain c6:s4.heap.DictOf (Db prog w) H []:=Heap.DictOf.at be fun o e=>bk.extBut _ _ c2 e;have a1:upd m "new_namespaces" (.ref d) "tag"=some (.str y ty):=ah (by decide) c0;have a2:upd m "new_namespaces" (.ref d) "attrs"=some (.ref H):=ah (by decide) c1;have a3:upd m "new_namespaces" (.ref d) "new_namespaces"=some (.ref d):=ar;generalize upd m "new_namespaces" (.ref d)=m4 at f4 a1 a2 a3;refine csE ?_ hI;refine Dk rfl rfl rfl ?_;refine f4.attr k.CA (v:=.ref K.lds) (by decide) Nb.decl (fun mA h=>h.decl) rfl (fun f5=>?_);refine bE f5.wi.decl fun l0 t0 uu tu yy d2 e1 e2 e3 e4 e5 e6 e7=>?_;refine tI e1 (f5.name rfl a3 ?_);refine cq (s:={ s4 with toks:=s4.toks+1 }) e1 (by simp;lia -abstractProof) fun h6 c7 a9=>?_;have kL:K.lds∈K.own:=by simp[WK.own]
  have W6:=f5.wi.setDs (ds':=σ.ds++[d]) (items:=(.ref l0::(σ.ds++[d]).map .ref).toArray) (fun l1 h1=>?_) a9 (by simpa using c7) fun d' ca=>?_;rotate_left
  ·refine xE e1 fun q1 g1=>?_;refine xE h1 fun q2 g2=>?_;injection Dd (g1.symm.trans g2)with _ _ h3 _;injection h3 with h4;obtain h5:=congrArg Array.toList h4;have h6:D7 l0=D7 l1:=(GD h5).1;rw[h6]
  ·rcases Eo.mp ca with h|h
   ·exact f5.wi.ds d' h
   ·rw[DD.mp h];exact⟨bx,a8⟩
  obtain f6:=f5.to (t:=s4.toks+1) kL a9 W6;obtain cb:IsL h6 d #[]:=IsL.mv bx fun _ e=>a9 _ _ (fun q=>a8 (q▸kL)) e;obtain cc:h6.DictOf (Db prog w) H []:=Heap.DictOf.at c6 fun o e=>a9 _ _ (fun q=>al (q▸kL)) e;clear f5 f4 f3 O;refine csI (ED (Ef (DI ?_ rfl)));refine f6.attr k.CA (v:=.none) (by decide) Nb.qat (fun mA h=>h.qat) rfl (fun f7=>?_);refine D5 ?_;refine HW ?_;refine DJ ?_;refine C7 ?_;refine csE ?_ hI;refine aM rfl rfl rfl ?_;refine f7.me fun pl=>?_;refine xEA k.hfs1 fun oF b1 b2=>?_;refine f7.wi.meth k.CA f7.keeps k.hs1 b1 b2 Nb.start1 (by decide) ?_;refine aE (id k.Fs1.obj) fun ch ci a0 b3 J=>?_;refine cf3 a0 b3 ?_;refine f7.name rfl a1 ?_;refine f7.name rfl a2 ?_;refine f7.name rfl a3 ⟨f7.keeps,?_⟩
  obtain d1:(hM σ.data).length≤1:=by
   unfold hM
   split
   ·rename_i x _;unfold bP;cases (x.length==0)<;>simp
   ·simp
  refine n8 (n:=n) k L V hO Z f7.keeps f7.wi (b4.stp f7.stp) hy hS b5 cb cc a8 al hsys ⟨by show(σ.parts++hM σ.data).length≤800;rw[D2];lia -abstractProof,by show σ.np≤800;lia -abstractProof,by show σ.nn≤800;lia -abstractProof⟩ c4 fun s8 g8 W8=>?_;refine C7 ?_;exact q s8 d (f7.stp.trans g8) W8
 refine csI (f1.hasData k.CA (by rcases ag with h|⟨x,h,_⟩<;>rw[h]<;>simp) rfl fun O=>?_);rcases ag with hD|⟨x,hD,hx,hr⟩
 ·rw[hD];refine C7 ?_;refine rest _ ?_ b6
  have:({ σ with data:=[],parts:=σ.parts++hM σ.data }:Wst)=σ:=by
   rw[hD];show({ σ with data:=[],parts:=σ.parts++[] }:Wst)=σ;rw[EI,←hD]
  rw[this];exact O
 ·rw[hD];refine csE ?_ hI;refine aM rfl rfl rfl ?_;refine O.me fun pl=>?_;refine xEA k.hff fun oF b1 b2=>?_;refine O.wi.meth k.CA O.keeps k.hf b1 b2 Nb.flush (by decide) ?_;refine aE (id k.Ff.obj) fun ch ci a0 b3 J=>?_;refine cf0 a0 b3 O.keeps ?_;refine ju (n:=n+1) G k.CA hO k.he k.Fe k.hj k.Ff k.hTf Z O.keeps O.wi (b4.stp O.stp) hx hD hr (by lia -abstractProof) fun s3 g3 W3=>?_;refine C7 ?_;refine rest s3 ?_ (Heap.DictOf.at b6 fun o e=>g3.keep _ _ al e);rw[hD];exact O.step g3 W3
theorem qH {G:Glob B}(k:CK B G C mN)(L:LK B G)(H:G.val "sorted"=some (.builtin "sorted"))(hO:∀a∈K.own,B.base a=none)(O:Room (n+4) A)(hb:Mine.Lake.Keeps B s.heap)(W:WI C K σ s.heap)(al:WrAt K s.heap){y:Str}{ty:Tok}{V:Addr}(hy:Nm y)
  (hS:∀o fd,B.base k.as1=some o→o.data=.func fd→fd.code=.ref L.c∧(fd.qualname++".<locals>.")++"<lambda>"=K.qual)(a0:K.pos=fg)
  (a8:s.heap.DictOf (Db prog w) V [])(a9:V∉K.own)(hsys:(V==EE)=false)
  (ag:σ.data=[]∨∃x,σ.data=[x]∧cr x∧σ.root=true)(b1:σ.parts.length≤700∧σ.ds.length≤700∧σ.np≤700∧σ.nn≤700)(b2:0<σ.np){Q:Value→Shared→Prop}
  (q:∀s' d,Stp K s s'→WI C K { σ with data:=[],parts:=σ.parts++hM σ.data++[bn y]++[(">":Str)],ds:=σ.ds++[d],root:=true,np:=σ.np+1,nn:=σ.nn+1 } s'.heap→Q .none s'):wpAny (model prog w) A (call (.ref k.as) [.ref K.x,.str y ty,.ref V]) Q E s:=by
 refine eP G k.Fs hb W hO (by have:=O.2.1;exact o68 this) (binds:=[("self",.ref K.x),("tag",.str y ty),("attrs",.ref V)]) (fun fd hp hd hkd=>?_) (by decide) (by intro x hx;simp only[Da,Dr,or_false]at hx;rcases hx with rfl|rfl|rfl<;>rfl) rfl fun Z s₁ E' f ht=>?_
 ·cases fd;dsimp only at hp hd hkd;subst hp hd hkd;exact FP (by rfl)
 ·refine bq (id a8) fun oA J J gA J=>?_;refine qG (A:=A.deeper Z) (n:=n) (Q:=qj Q) k L H hO (Room.deeper O Z) al hy hS a0 f rfl rfl (Heap.DictOf.at a8 fun o e=>f.fo.keep _ _ a9 e) a9 ?_ hsys ag b1 b2 fun s' d h1 h2=>q s' d h1 h2;exact Dh (De (rl gA) f.fo.fresh)
end
section
open Builtin.ObjectAttr
theorem eD:Slot "method_descriptor" "__get__" "method_descriptor.__get__":=
 .of (owner:="method_descriptor") (n:="__get__") (by rw[Dg,sl];kernel_rfl) (by rfl) (by rfl) (by rfl)
  (by first|exact .inl (by rfl)|exact .inr (by decide+kernel)) (by rw[FN];kernel_rfl)
theorem l9:He table "method_descriptor.__get__"=some DH.«method_descriptor.__get__»:=Gf (by kernel_rfl)
theorem n9 (a b c:Value):HB "method_descriptor.__get__" ⟨[a,b,c],[]⟩:=by unfold HB;kernel_rfl
theorem wN:Dw (.type "method_descriptor") "__set__"=pure none:=by rw[Dg,sl];kernel_rfl
theorem wO:Dw (.type "method_descriptor") "__delete__"=pure none:=by rw[Dg,sl];kernel_rfl
theorem j1:isSubtype (.type "list") (.type "list")=pure true:=by rw[FN];kernel_rfl
section
variable {prog:C9}{w:World}{A:Dq}{E:Value→Shared→Prop}{s:Shared}
theorem Ax {l:Addr}{items:Array Value}{P:Je→Shared→Prop}(hl:IsL s.heap l items)(h:P (.done (.ret (.ref s.heap.objs.size))) { s with heap:=s.heap.push (aN "list.append" (.ref l)) }):
  wpAny (model prog w) A (DH.«method_descriptor.__get__» ⟨[.builtin "list.append",.ref l,.type "list"],[]⟩) P E s:=by
 obtain B:s.TypeIs (.ref l) "list":=hl.typeIs;refine il (DU (a:=(.builtin "list.append",some (.ref l),some (.type "list"))) (by first|rfl|kernel_rfl) ?_);refine Fv (by rfl) ?_;show wpAny _ _ (_ >>= fun J=>newFields "builtin_function_or_method" [.builtin "list.append",.ref l] >>= fun v=>ret v) _ _ _;refine il ?_;show wpAny _ _ (_ >>= _) _ _ _;refine il (DU (a:=(t5 "append",FE "list")) (by first|rfl|kernel_rfl) ?_);refine il (FJ B j1 ?_);refine Fv rfl ?_;refine nb ?_;exact il (EF (nb h))
theorem ma {l:Addr}{items:Array Value}{B:Tok}{P:Je→Shared→Prop}(hl:IsL s.heap l items)(h:P (.done (.ret (.ref s.heap.objs.size))) { s with heap:=s.heap.push (aN "list.append" (.ref l)) }):
  wpAny (model prog w) A (DH.«object.__getattribute__» ⟨[.ref l,.str "append" B],[]⟩) P E s:=by
 obtain⟨hp,g,d,t,os⟩:=s;obtain G:(⟨hp,g,d,t,os⟩:Shared).TypeIs (.ref l) "list":=hl.typeIs;obtain H:=EW.lookup;obtain J:=Gk;obtain O:=eD.lookup;obtain V:=wN;obtain Z:=wO;obtain hx:hp.get? l=_:=hl.choose_spec
 repeat (any_goals (first|assumption|wp_step))
 refine codeAny_call_builtin eD.plain l9 (eD.check _ _ _ _ _ _ _ _ (show(⟨hp,g,d,t,os⟩:Shared).TypeIs (.builtin "list.append") "method_descriptor" from Gk) (n9 _ _ _) (Ax (s:=⟨hp,g,d,t,os⟩) hl ?_));exact nb h
theorem jy {l:Addr}{items:Array Value}{B:Bool}{Q:Value→Shared→Prop}(hl:IsL s.heap l items)(h:Q (.ref s.heap.objs.size) { s with heap:=s.heap.push (aN "list.append" (.ref l)),toks:=s.toks+1 }):
  wpAny (model prog w) A (getAttr (.ref l) "append" B) Q E s:=by
 obtain⟨hp,g,d,O,os⟩:=s;have H:∀G,(⟨hp,g,d,G,os⟩:Shared).TypeIs (.ref l) "list":=fun J=>hl.typeIs;obtain V:hp.get? l=_:=hl.choose_spec;obtain Z:=H9.lookup;obtain f4:=H9.bind (.ref l);obtain f5:=am_list_getattr_none
 repeat (any_goals (first|assumption|exact H _|(refine Fv (c:=B&&onTheHeap _) (by cases B<;>rfl) ?_)|((with_reducible show wpAny _ _ (call (JU "list.__getattribute__") _ _) _ _ _);refine Et H9 (H _) am_entry_list_getattribute (ma (s:=⟨hp,g,d,O+1,os⟩) hl ⟨_,rfl,?_⟩) (F.args_list_getattribute_2 _ _))|wp_step))
end
end
section
variable {prog:C9}{w:World}{A:Dq}{E:Value→Shared→Prop}{s:Shared}
structure KwD (kwm:Str→Option Value):Prop where
 a1:kwm "with_comments"=some (.bool false)
 a2:kwm "strip_text"=some (.bool false)
 a3:kwm "rewrite_prefixes"=some (.bool false)
 a4:kwm "qname_aware_tags"=some .none
 a5:kwm "qname_aware_attrs"=some .none
 a6:kwm "exclude_attrs"=some .none
 a7:kwm "exclude_tags"=some .none
noncomputable def dz (x wr:Value):List (Str×Value):=[("self",x),("write",wr),("with_comments",.bool false),("strip_text",.bool false),("rewrite_prefixes",.bool false),("qname_aware_tags",.none),("qname_aware_attrs",.none),("exclude_attrs",.none),("exclude_tags",.none)]
theorem qI {fd:Fx}{x wr:Value}{kd:Addr}{kwm:Str→Option Value}(hp:fd.params=aD (ak 0))(hd:fd.defaults=.none)(J:fd.kwdefaults=.ref kd)(hn:s.heap.Ns kd kwm)(K:KwD kwm):JL s fd ⟨[x,wr],[]⟩ (dz x wr):=by
 intro M A E Q hq;cases fd;dsimp only at hp hd J;subst hp hd J;obtain⟨k1,k2,k3,k4,k5,k6,k7⟩:=K;obtain⟨O,V,Z,p4,p5,p6,p7,p8,p9,G,B⟩:∃O V Z p4 p5 p6 p7 p8 p9 G,aD (ak 0)={ posonlyargs:=[],args:=[⟨"self",none,O⟩,⟨"write",none,V⟩],vararg:=none,kwonlyargs:=[⟨"with_comments",none,Z⟩,⟨"strip_text",none,p4⟩,⟨"rewrite_prefixes",none,p5⟩,⟨"qname_aware_tags",none,p6⟩,⟨"qname_aware_attrs",none,p7⟩,⟨"exclude_attrs",none,p8⟩,⟨"exclude_tags",none,p9⟩],kw_defaults:=G,kwarg:=none,defaults:=[] }:=⟨_,_,_,_,_,_,_,_,_,_,rfl⟩
 refine(ir B)▸?_
 obtain key:∀f:(List (Str×Value)×List Str)→Sem (List (Str×Value)),(∀z,z.2=[]→z.1=dz x wr→wpAny M A (f z) Q E s)→wpAny M A (forIn ([t5 "with_comments",t5 "strip_text",t5 "rewrite_prefixes",t5 "qname_aware_tags",t5 "qname_aware_attrs",t5 "exclude_attrs",t5 "exclude_tags"]:List Str) (([(t5 "self",x),(t5 "write",wr)]:List (Str×Value)),([]:List Str)) (fun name z=>if (z.1.lookup name).isNone=true then (do let dflt ←nsGet kd name;match dflt with|some v=>pure (Fh (z.1++[(name,v)],z.2))|none=>pure (Fh (z.1,z.2++[name]))) else pure (Fh (z.1,z.2))) >>= f) Q E s:=by
  intro f hf;refine il ?_;refine il (il (G8 hn ?_));refine(ir k1)▸?_;refine nb ?_;refine il (il (G8 hn ?_));refine(ir k2)▸?_;refine nb ?_;refine il (il (G8 hn ?_));refine(ir k3)▸?_;refine nb ?_;refine il (il (G8 hn ?_));refine(ir k4)▸?_;refine nb ?_;refine il (il (G8 hn ?_));refine(ir k5)▸?_;refine nb ?_;refine il (il (G8 hn ?_));refine(ir k6)▸?_;refine nb ?_;refine il (il (G8 hn ?_));refine(ir k7)▸?_;refine nb ?_;exact nb (hf _ rfl rfl)
 refine key _ ?_;intro H h1 h2;obtain⟨z1,z2⟩:=H;dsimp only at h1 h2;subst h1 h2;exact nb hq
end
noncomputable def upA (B:Str→Option Value) (n:Str) (v:Value):Str→Option Value:=fun y=>if y=n then some v else B y
structure Ini (B:Fix)(C:Addr)(env:Env)(x dx:Addr)(s₀:Shared)(m:Str→Option Value)(mA:Str→Option Value)(s:Shared):Prop where
 fo:Fo (aa (ak 0)).scope B env [x,dx] s₀ m s
 inst:s.heap.Inst x C mA
 within:Within mA aI
 objx:∃o,s.heap.get? x=some o∧o.dict=some dx
 nxC:x≠C
 lo:env.locals∉[x,dx]
 self:m "self"=some (.ref x)
section
variable {prog:C9}{w:World}{A:Dq}{E:Value→Shared→Prop}{s₀ s:Shared}{B:Fix}{C:Addr}{mN:Str→Option Value}{env:Env}{m mA:Str→Option Value}{x dx:Addr}{n:Nat}
namespace Ini
theorem keeps (f:Ini B C env x dx s₀ m mA s):Mine.Lake.Keeps B s.heap:=f.fo.keeps
theorem tok (f:Ini B C env x dx s₀ m mA s){t:Nat}:Ini B C env x dx s₀ m mA { s with toks:=t }:=⟨f.fo.tok,f.inst,f.within,f.objx,f.nxC,f.lo,f.self⟩
theorem liveX (f:Ini B C env x dx s₀ m mA s):∃o,s.heap.get? x=some o:=DO (fun _ z=>z.1) f.objx
theorem liveD (f:Ini B C env x dx s₀ m mA s):∃o,s.heap.get? dx=some o:=by
 refine xEA f.objx fun o h hd=>?_;refine da f.inst fun G h' J J r=>?_;rw[h]at h';injection h' with h';subst h';rcases r with⟨r,_⟩|⟨d,r,_,oD,es,ep,e1,_⟩
 ·rw[hd]at r;contradiction
 ·rw[hd]at r;injection r with r;subst r;exact⟨oD,e1⟩
theorem move (f:Ini B C env x dx s₀ m mA s){s':Shared}(hs:Same s s')(G:∀b o,s₀.heap.objs.size≤b∨b∈[x,dx]∨True→s.heap.get? b=some o→s'.heap.get? b=some o):Ini B C env x dx s₀ m mA s':=by
 have G:∀b o,s.heap.get? b=some o→s'.heap.get? b=some o:=fun b o e=>G b o (.inr (.inr trivial)) e;refine⟨f.fo.move hs f.lo fun b o J e=>G b o e,?_,f.within,DO (fun _ z=>⟨G _ _ z.1,z.2⟩) f.objx,f.nxC,f.lo,f.self⟩;refine da f.inst fun o h O V H=>?_;refine gH o (G _ _ h) O V ?_;rcases H with H|⟨d,q1,q2,oD,es,ep,e1,e2⟩
 ·exact .inl H
 ·exact .inr ⟨d,q1,q2,oD,es,ep,G _ _ e1,e2⟩
theorem go (f:Ini B C env x dx s₀ m mA s){h':Heap}{t:Nat}(G:∀b o,s.heap.get? b=some o→h'.get? b=some o):Ini B C env x dx s₀ m mA { s with heap:=h',toks:=t }:=f.move ⟨rfl,rfl,id⟩ fun b o J e=>G b o e
theorem push (f:Ini B C env x dx s₀ m mA s)(o:Obj){t:Nat}:Ini B C env x dx s₀ m mA { s with heap:=s.heap.push o,toks:=t }:=f.go fun J J e=>mc _ e
theorem me {p:Pos}{Q:Value→Shared→Prop}(f:Ini B C env x dx s₀ m mA s)(q:Q (.ref x) s):wpAny (model prog w) A (eval (.Name "self" p) env) Q E s:=f.fo.name rfl f.self q
theorem name {y:Str}{p:Pos}{v:Value}{Q:Value→Shared→Prop}(f:Ini B C env x dx s₀ m mA s)(hl:(aa (ak 0)).scope.names.lookup y=some .local)(G:m y=some v)(q:Q v s)(hd:(y==("__debug__":Str))=false:=by decide):
  wpAny (model prog w) A (eval (.Name y p) env) Q E s:=f.fo.name hl G q hd
theorem but (f:Ini B C env x dx s₀ m mA s){l:Addr}{h':Heap}{t:Nat}(G:∀b o,b≠l→s.heap.get? b=some o→h'.get? b=some o)(h0:s₀.heap.get? l=none)(h1:l≠x)(h2:l≠dx)(h3:l≠env.locals):Ini B C env x dx s₀ m mA { s with heap:=h',toks:=t }:=by
 obtain⟨a1,a2,a3,a4,a5,a6,a7,a8,a9,J,O⟩:=f.fo;refine⟨⟨a1.at' fun o e=>G _ o (EL h3) e,a2.trans ⟨rfl,rfl,id⟩,fun b o hb e=>G b o (fun q=>by rw[q,h0]at e;contradiction) (a3 b o hb e),a4,a5,a6,a7,a8,a9,J,O⟩,?_,f.within,DO (fun _ z=>⟨G _ _ (EL h1) z.1,z.2⟩) f.objx,f.nxC,f.lo,f.self⟩;refine xEA f.objx fun ox Z H=>?_;refine da f.inst fun o h r1 r2 V=>?_;rw[Z]at h;injection h with h;subst h;refine gH ox (G _ _ (EL h1) Z) r1 r2 ?_;rcases V with V|⟨d,q1,q2,oD,es,ep,e1,e2⟩
 ·exact .inl V
 ·rw[H]at q1;injection q1 with q1;subst q1;exact .inr ⟨dx,H,q2,oD,es,ep,G _ _ (EL h2) e1,e2⟩
theorem set (f:Ini B C env x dx s₀ m mA s)(CA:aV B C mN){name:Str}{v:Value}(G:name∈aI)(hB:Dw (.type "object") name=pure none){Q:Unit→Shared→Prop}
  (q:∀s',Ini B C env x dx s₀ m (upA mA name v) s'→(∀b o,b≠x→b≠dx→s.heap.get? b=some o→s'.heap.get? b=some o)→Q () s'):wpAny (model prog w) A (Kf (.ref x) name v) Q E s:=by
 refine aC CA.obj fun nm qq N bs sn sub col dd k0 k1 k2 k3 k5 hC hn=>?_;refine xEA f.objx fun ox H O=>?_;refine store_attr (h:=s.heap) (g:=s.gens) (d:=s.drawn) (t:=s.toks) (os:=s.os) F.store_object (f.keeps _ _ hC) (hn _ f.keeps) CA.hns (CA.hna _ G) hB f.nxC f.inst (fun h' V I' hk Z=>?_) f.within (by decide)
 have keep:∀b o,b≠x→b≠dx→s.heap.get? b=some o→h'.get? b=some o:=fun b o h1 h2 e=>hk b o h1 (fun a0 d e0 e1=>by
  obtain rfl:=Dd (H.symm.trans e0);rw[O]at e1;injection e1 with e1;subst e1;exact h2) e
 refine vf (Z ox H) fun o1 e1 J J J e5=>?_;refine q ⟨h',s.gens,s.drawn,V,s.os⟩ ⟨f.fo.move ⟨rfl,rfl,id⟩ f.lo fun b o hb e=>keep b o (fun q=>hb (by grind -abstractProof)) (fun q=>hb (by simp[q])) e,I',?_,⟨o1,e1,e5 _ O⟩,f.nxC,f.lo,f.self⟩ keep;intro y hy;by_cases e:y=name
 ·rw[e];exact G
 ·exact f.within y (by simpa [upA,e] using hy)
theorem attr (f:Ini B C env x dx s₀ m mA s)(CA:aV B C mN){name:Str}{v:Value}{p H:Pos}{Q:Value→Shared→Prop}(G:name∈aI)(J:Dw (.type "object") name=pure none)
  (O:mA name=some v)(V:I3 v=pure v)(q:Ini B C env x dx s₀ m mA { s with toks:=s.toks+1 }→Q v { s with toks:=s.toks+1 }):
  wpAny (model prog w) A (eval (.Attribute (.Name "self" p) name H) env) Q E s:=by
 refine aC CA.obj fun nm Z N bs sn sub col dd k0 k1 k2 k3 k5 hC hn=>?_;refine il (f.me ?_);refine wb3 (Dx ?_);refine KW (h:=s.heap) (g:=s.gens) (d:=s.drawn) (t:=s.toks) (os:=s.os) (f.keeps _ _ hC) (hn _ f.keeps) CA.hng (CA.hna _ G) J f.inst O V ?_;exact il (Fm (nb (q f.tok)))
end Ini
theorem qJ {d:Addr}{kvs:List (Str×Value)}{env:Env}{G pos O p pl:Pos}{Q:Value→Shared→Prop}(hA:A.handled=none)(hd:s.heap.DictOf (Db prog w) d kvs)(hsys:(d==EE)=false)(V:kvs.length≤100)
  (hlist:∀{E:Value→Shared→Prop} {Q:Value→Shared→Prop},Q (.type "list") s→wpAny (model prog w) A (eval (.Name "list" pl) env) Q E s)(Z:∀{E:Value→Shared→Prop} {Q:Value→Shared→Prop},Q (.ref d) s→wpAny (model prog w) A (eval (.Name "_namespace_map" p) env) Q E s)(H:(G.endLine==pos.line)=true)
  (q:∀l s',Grw s s'→Q (.ref l) s'):wpAny (model prog w) A (eval (.Call (.Name "list" pl) [.Call (.Attribute (.Name "_namespace_map" p) "items" G) [] [] pos] [] O) env) Q E s:=by
 refine il (hlist ?_);refine ct1 ?_;refine wpAny_Call_items hsys hd rfl H (fun Q' h=>Z h) ?_;refine xE ((Heap.DictOf.at hd fun o e=>mc { cls:=.type "dict_items",data:=.fields #[.ref d] } e).dictAt) fun ep a0=>?_;refine kdx_call (knd:=Db prog w) (kvs:=kvs) (ep:=ep) (s:={ s with heap:=s.heap.push { cls:=.type "dict_items",data:=.fields #[.ref d] } }) hA ⟨_,rh _ rfl,rfl,rfl⟩ a0 (by refine(ir Di)▸?_;exact Bs V) fun h' tk acc c as hk J J J J=>?_;exact q _ _ ⟨⟨rfl,rfl,id⟩,fun b o e=>hk b o (mc _ e)⟩
end
section
variable {prog:C9}{w:World}{A:Dq}{E:Value→Shared→Prop}{s₀ s:Shared}{B:Fix}{C:Addr}{mN:Str→Option Value}{env:Env}{m mA:Str→Option Value}{x dx:Addr}{n:Nat}
noncomputable def Led (s₀:Shared) (env:Env) (x dx:Addr) (L:List (Addr×(Obj→Prop))) (h:Heap):Prop:=
 L.Pairwise (fun p q=>q.1<p.1)∧∀p∈L,s₀.heap.get? p.1=none∧(p.1≠x∧p.1≠dx∧p.1≠env.locals)∧∃o,h.get? p.1=some o∧p.2 o
structure cy (B:Fix)(C:Addr)(env:Env)(x dx:Addr)(s₀:Shared)(m:Str→Option Value)(L:List (Addr×(Obj→Prop)))(mA:Str→Option Value)(s:Shared):Prop where
 f:Ini B C env x dx s₀ m mA s
 led:Led s₀ env x dx L s.heap
noncomputable def LsO (xs:Array Value) (o:Obj):Prop:=∃q,o={ cls:=.type "list",dict:=none,data:=.seq xs q,slots:= #[] }
noncomputable def BF (o:Obj):Prop:=∃t G,o={ cls:=.type "tuple",data:=.seq #[.str (t5 "http://www.w3.org/XML/1998/namespace") t,.str (t5 "xml") G] }
section
variable {L:List (Addr×(Obj→Prop))}
theorem Led.to {h h':Heap}(l:Led s₀ env x dx L h)(k:∀b o,b≠x→b≠dx→h.get? b=some o→h'.get? b=some o):Led s₀ env x dx L h':=⟨l.1,fun p hp=>have z:=l.2 p hp;⟨z.1,z.2.1,DO (fun _ y=>⟨k _ _ z.2.1.1 z.2.1.2.1 y.1,y.2⟩) z.2.2⟩⟩
theorem Led.at {h:Heap}(l:Led s₀ env x dx L h)(i:Nat){p:Addr×(Obj→Prop)}(e:L[i]?=some p):s₀.heap.get? p.1=none∧(p.1≠x∧p.1≠dx∧p.1≠env.locals)∧∃o,h.get? p.1=some o∧p.2 o:=l.2 p (C6 e)
theorem Led.lt {h:Heap}(l:Led s₀ env x dx L h)(i j:Nat){p q:Addr×(Obj→Prop)}(e:L[i]?=some p)(H:L[j]?=some q)(G:i<j):q.1≠p.1:=by
 obtain⟨hi,rfl⟩:=Dz.mp e;obtain⟨hj,rfl⟩:=Dz.mp H;exact Dh (HJ.mp l.1 i j hi hj G)
theorem Led.old {h:Heap}(l:Led s₀ env x dx L h)(i:Nat){p:Addr×(Obj→Prop)}(e:L[i]?=some p){a:Addr}{o:Obj}(G:s₀.heap.get? a=some o):a≠p.1:=fun q=>Ez o (G.symm.trans ((congrArg s₀.heap.get? q).trans (l.at i e).1))
theorem Led.isL {h:Heap}(l:Led s₀ env x dx L h)(i:Nat){a:Addr}{xs:Array Value}(e:L[i]?=some (a,LsO xs)):IsL h a xs:=xEA (l.at i e).2.2 fun _ g z=>z.elim fun q y=>⟨q,y▸g⟩
namespace cy
theorem start (f:Ini B C env x dx s₀ m mA s):cy B C env x dx s₀ m [] mA s:=⟨f,.nil,fun _ h=>absurd h Dr⟩
theorem drop {p:Addr×(Obj→Prop)}(f:cy B C env x dx s₀ m (p::L) mA s):cy B C env x dx s₀ m L mA s:=⟨f.f,(EH.mp f.led.1).2,fun q hq=>f.led.2 q (DB _ hq)⟩
theorem tok (f:cy B C env x dx s₀ m L mA s){t:Nat}:cy B C env x dx s₀ m L mA { s with toks:=t }:=⟨f.f.tok,f.led⟩
theorem grw {s':Shared}(f:cy B C env x dx s₀ m L mA s)(g:Grw s s'):cy B C env x dx s₀ m L mA s':=⟨f.f.move g.same fun b o _ e=>g.keep b o e,f.led.to fun b o _ _ e=>g.keep b o e⟩
theorem new (f:cy B C env x dx s₀ m L mA s)(o:Obj){P:Obj→Prop}(O:P o)(G:autoParam (o.isFreed=false) aR):cy B C env x dx s₀ m ((s.heap.objs.size,P)::L) mA { s with heap:=s.heap.push o }:=by
 refine xE f.f.liveX fun Z V=>?_;refine xE f.f.liveD fun od hd=>?_;refine⟨f.f.push o,EH.mpr ⟨fun p hp=>xEA (f.led.2 p hp).2.2 fun _ g _=>rl g,f.led.1⟩,fun p hp=>?_⟩;rcases Da.mp hp with rfl|hp
 ·have H:s.heap.objs.size≠x:=Dl (rl V);have J:s.heap.objs.size≠dx:=Dl (rl hd);refine⟨?_,⟨H,J,Dl f.f.fo.ns.lt⟩,o,rh _ G,O⟩
  cases e:s₀.heap.get? s.heap.objs.size with
  |none=>rfl
  |some o=>
   have:=f.f.fo.keep _ o (by simp[H,J]) e;exact absurd (rl this) (DF _)
 ·have z:=f.led.2 p hp;exact⟨z.1,z.2.1,DO (fun _ y=>⟨mc _ y.1,y.2⟩) z.2.2⟩
theorem nl {xs:List Value}{R:Value→Shared→Prop}(f:cy B C env x dx s₀ m L mA s)(hs:xs.length≤Eu)(k:∀a s',cy B C env x dx s₀ m ((a,LsO xs.toArray)::L) mA s'→R (.ref a) s'):wpAny (model prog w) A (newList xs) R E s:=EK (k _ _ (f.new _ ⟨0,rfl⟩)) hs
theorem nt {t G:Tok}{R:Value→Shared→Prop}(f:cy B C env x dx s₀ m L mA s)(k:∀a s',cy B C env x dx s₀ m ((a,BF)::L) mA s'→R (.ref a) s'):wpAny (model prog w) A (newTuple [.str (t5 "http://www.w3.org/XML/1998/namespace") t,.str (t5 "xml") G]) R E s:=Ga (k _ _ (f.new _ ⟨t,G,rfl⟩)) (by show 2≤Eu;rw[Di];decide)
theorem nl0 {pos:Pos}{R:Value→Shared→Prop}(f:cy B C env x dx s₀ m L mA s)(k:∀a s',cy B C env x dx s₀ m ((a,LsO #[])::L) mA s'→R (.ref a) s'):wpAny (model prog w) A (eval (.List [] pos) env) R E s:=il (Ek (il (Dp (f.nl (Ej _) k))))
theorem st {n:Str}{v:Value}{p:Pos}{Q:Unit→Shared→Prop}(f:cy B C env x dx s₀ m L mA s)(CA:aV B C mN)(hn:n∈aI)(hb:Dw (.type "object") n=pure none)(k:∀s',cy B C env x dx s₀ m L (upA mA n v) s'→Q () s'):
  wpAny (model prog w) A (eval (.Name "self" p) env) (fun ov s₂=>wpAny (model prog w) A (Kf ov n v) Q E s₂) E s:=f.f.me (f.f.set CA hn hb fun s' g G=>k s' ⟨g,f.led.to G⟩)
theorem asg {n:Str}{v:Value}{e:Expr}{p pos G:Pos}{rest:List Stmt}{Q:Flow→Shared→Prop}(f:cy B C env x dx s₀ m L mA s)(CA:aV B C mN)(he:∀{R:Value→Shared→Prop},R v s→wpAny (model prog w) A (eval e env) R E s)(hn:n∈aI)(hb:Dw (.type "object") n=pure none)
  (hs:Gs e (some (.Attribute (.Name "self" p) n G)) pos.line env=pure false)(k:∀s',cy B C env x dx s₀ m L (upA mA n v) s'→wpAny (model prog w) A (execs rest env) Q E s'):wpAny (model prog w) A (execs (.Assign [.Attribute (.Name "self" p) n G] e pos::rest) env) Q E s:=
 csT (he (f.st CA hn hb k)) hs
theorem app {l:Addr}{xs:Array Value}{v:Value}{R:Value→Shared→Prop}(f:cy B C env x dx s₀ m ((l,LsO xs)::L) mA s)(hs:xs.size≤1000)(k:∀s',cy B C env x dx s₀ m ((l,LsO (xs.push v))::L) mA s'→R .none s'):wpAny (model prog w) A (call (.builtin "list.append") [.ref l,v]) R E s:=by
 have z:=f.led.at 0 rfl;refine cq (f.led.isL 0 rfl) hs fun h' G H=>k _ ⟨f.f.but (t:=s.toks) H z.1 z.2.1.1 z.2.1.2.1 z.2.1.2.2,?_⟩;refine⟨EH.mpr ⟨(EH.mp f.led.1).1,(EH.mp f.led.1).2⟩,fun p hp=>?_⟩;rcases Da.mp hp with rfl|hp
 ·exact⟨z.1,z.2.1,G.elim fun q y=>⟨_,y,q,rfl⟩⟩
 ·have y:=f.led.2 p (DB _ hp);exact⟨y.1,y.2.1,DO (fun _ g=>⟨H _ _ (Dh ((EH.mp f.led.1).1 p hp)) g.1,g.2⟩) y.2.2⟩
end cy
end
noncomputable def σ0:Wst:={ parts:=[],data:=[],ds:=[],root:=false,np:=1,nn:=2 }
theorem tT {wr:Value}{ld lds lns lps G:Addr}{t:Tok}{lp:Addr}{pos:Pos}{qual:Str}{a1:Value}:bI ⟨x,dx,ld,lds,lns,lps,lp,wr,pos,qual⟩ false
  (upA (upA (upA (upA (upA (upA (upA (upA (upA (upA (upA (upA (upA (upA (upA (upA (upA (fun J=>none) "_write" wr) "_data" (.ref ld)) "_with_comments" a1) "_strip_text" (.bool false)) "_exclude_attrs" .none) "_exclude_tags" .none) "_rewrite_prefixes" (.bool false)) "_qname_aware_tags" .none) "_find_qname_aware_attrs" .none) "_declared_ns_stack" (.ref lds)) "_ns_stack" (.ref lns)) "_prefix_map" (.ref G)) "_preserve_space" (.ref lps)) "_pending_start" .none) "_root_seen" (.bool false)) "_root_done" (.bool false)) "_ignored_depth" (.int 0 t)):=
 ⟨by rfl,by rfl,by rfl,by rfl,by rfl,by rfl,by rfl,by rfl,by rfl,by rfl,by rfl,by rfl,by rfl,⟨t,by rfl⟩⟩
noncomputable def sd (b:Addr) (l:List Addr):Prop:=∀a∈l,b≠a
theorem neN {b:Addr}:sd b []:=fun J h=>(Dr h).elim
theorem neC {b a:Addr}{l:List Addr}(h:b≠a)(t:sd b l):sd b (a::l):=fun J hc=>(Da.mp hc).elim (fun e=>e▸h) (t _)
theorem ndC {b:Addr}{l:List Addr}(h:sd b l)(t:l.Nodup):(b::l).Nodup:=.cons h t
structure CX (m:Str→Option Value)(wr:Value):Prop where
 w:m "write"=some wr
 a1:m "with_comments"=some (.bool false)
 a2:m "strip_text"=some (.bool false)
 a3:m "rewrite_prefixes"=some (.bool false)
 a4:m "qname_aware_tags"=some .none
 a5:m "qname_aware_attrs"=some .none
 a6:m "exclude_attrs"=some .none
 a7:m "exclude_tags"=some .none
theorem wP {wr:Value}{aw lp ld t0 l0 lds lns lps:Addr}{pos:Pos}{qual:Str}{a0:Array Value}
  (f:cy B C env x dx s₀ m [(lps,LsO #[.bool false]),(lns,LsO a0),(lds,LsO #[.ref l0]),(l0,LsO #[.ref t0]),(t0,BF),(ld,LsO #[])] mA s)(a9:bI ⟨x,dx,ld,lds,lns,lps,lp,wr,pos,qual⟩ false mA)(ag:a0.size=2)
  (al:x≠dx)(b1:wr=.ref aw)(b2:IsL s₀.heap lp #[])(V:∃o,s₀.heap.get? aw=some o)(O:aw≠x∧aw≠dx∧aw≠lp∧aw≠am)(H:lp≠x∧lp≠dx∧lp≠am)(Z:am≠x∧am≠dx)
  (a8:∃ps,s₀.heap.get? am=some (cM ps)∧(ps= #[]∨∃c',ps= #[DE pos.line,DE pos.col,.ref c']∧(c'≠x∧c'≠dx∧c'≠lp∧c'≠am)∧s₀.heap.CodeRec (.ref c') qual)):WI C ⟨x,dx,ld,lds,lns,lps,lp,wr,pos,qual⟩ σ0 s.heap:=by
 have l:=f.led;have k0:∀b o,b≠x→b≠dx→s₀.heap.get? b=some o→s.heap.get? b=some o:=fun b o h1 h2 e=>f.f.fo.keep b o (by simp[h1,h2]) e;refine xE (id b2) fun b3 G=>?_;refine xEA a8 fun ps J b4=>?_;refine xE V fun b7 V=>?_;refine xEA (l.at 4 rfl).2.2 fun ot ht hx=>?_;refine xEE (id hx) fun t t' ex=>?_;have ht:=ht.trans (congrArg some ex);refine⟨⟨_,f.f.inst,f.f.within,a9⟩,f.f.objx,⟨[],l.isL 5 rfl,.nil⟩,⟨[],⟨b3,k0 _ _ H.1 H.2.1 G⟩,.nil⟩,?_,fun d hd=>absurd hd Dr,⟨_,l.isL 1 rfl,ag⟩,⟨_,l.isL 0 rfl,rfl,fun v hv=>by simpa using hv⟩,?_,?_,⟨aw,b1,?_⟩⟩
 ·refine eW l0 t0 (t5 "http://www.w3.org/XML/1998/namespace") t (t5 "xml") t' (l.isL 2 rfl) (l.isL 3 rfl) ⟨_,ht,rfl,0,rfl⟩ (by decide) (by decide) ?_ ?_
  ·exact WK.out (l.at 3 rfl).2.1.1 (l.at 3 rfl).2.1.2.1 (l.lt 3 5 rfl rfl (by decide)).symm (l.lt 2 3 rfl rfl (by decide)) (l.lt 1 3 rfl rfl (by decide)) (l.lt 0 3 rfl rfl (by decide)) (l.old 3 rfl G).symm (l.old 3 rfl J).symm
  ·exact WK.out (l.at 4 rfl).2.1.1 (l.at 4 rfl).2.1.2.1 (l.lt 4 5 rfl rfl (by decide)).symm (l.lt 2 4 rfl rfl (by decide)) (l.lt 1 4 rfl rfl (by decide)) (l.lt 0 4 rfl rfl (by decide)) (l.old 4 rfl G).symm (l.old 4 rfl J).symm
 ·exact ndC (neC al (neC (l.at 5 rfl).2.1.1.symm (neC (l.at 2 rfl).2.1.1.symm (neC (l.at 1 rfl).2.1.1.symm (neC (l.at 0 rfl).2.1.1.symm (neC H.1.symm (neC Z.1.symm neN)))))))
   (ndC (neC (l.at 5 rfl).2.1.2.1.symm (neC (l.at 2 rfl).2.1.2.1.symm (neC (l.at 1 rfl).2.1.2.1.symm (neC (l.at 0 rfl).2.1.2.1.symm (neC H.2.1.symm (neC Z.2.symm neN))))))
   (ndC (neC (l.lt 2 5 rfl rfl (by decide)) (neC (l.lt 1 5 rfl rfl (by decide)) (neC (l.lt 0 5 rfl rfl (by decide)) (neC (l.old 5 rfl G).symm (neC (l.old 5 rfl J).symm neN)))))
   (ndC (neC (l.lt 1 2 rfl rfl (by decide)) (neC (l.lt 0 2 rfl rfl (by decide)) (neC (l.old 2 rfl G).symm (neC (l.old 2 rfl J).symm neN))))
   (ndC (neC (l.lt 0 1 rfl rfl (by decide)) (neC (l.old 1 rfl G).symm (neC (l.old 1 rfl J).symm neN)))
   (ndC (neC (l.old 0 rfl G).symm (neC (l.old 0 rfl J).symm neN)) (ndC (neC H.2.2 neN) (ndC neN .nil)))))))
 ·refine yEA ps (k0 _ _ Z.1 Z.2 J) (b4.imp id ?_);intro b5;refine gK b5 fun c' r1 b6 c o vs t v1 v2 v3 v4=>?_;obtain⟨r2,r3,r4,r5⟩:=b6;injection v1 with v1;subst v1;exact gI c' r1 (WK.out r2 r3 (l.old 5 rfl v2) (l.old 2 rfl v2) (l.old 1 rfl v2) (l.old 0 rfl v2) r4 r5) c' o vs t rfl (k0 _ _ r2 r3 v2) v3 v4
 ·exact WK.out O.1 O.2.1 (l.old 5 rfl V) (l.old 2 rfl V) (l.old 1 rfl V) (l.old 0 rfl V) O.2.2.1 O.2.2.2
theorem tU {G:Glob B}(CA:aV B C mN)(hA:A.handled=none)(hlist:G.val "list"=some (.type "list")){nsA:Addr}{kvs:List (Str×Value)}(O:G.val "_namespace_map"=some (.ref nsA))(V:∀h,Mine.Lake.Keeps B h→h.DictOf (Db prog w) nsA kvs)(Z:kvs.length≤100)(hsys:(nsA==EE)=false)
  {wr:Value}{aw lp:Addr}(pos:Pos)(qual:Str)(f:Ini B C env x dx s₀ m (fun J=>none) s)(M:CX m wr)(ag:x≠dx)(al:wr=.ref aw)(b1:IsL s₀.heap lp #[])(b2:∃o,s₀.heap.get? aw=some o)(a0:aw≠x∧aw≠dx∧aw≠lp∧aw≠am)(a8:lp≠x∧lp≠dx∧lp≠am)(b3:am≠x∧am≠dx)
  (a9:∃ps,s₀.heap.get? am=some (cM ps)∧(ps= #[]∨∃H,ps= #[DE pos.line,DE pos.col,.ref H]∧(H≠x∧H≠dx∧H≠lp∧H≠am)∧s₀.heap.CodeRec (.ref H) qual)){Q:Flow→Shared→Prop}
  (q:∀s' ld lds lns lps,Same s₀ s'→(∀b o,b≠x→b≠dx→s₀.heap.get? b=some o→s'.heap.get? b=some o)→(∀a∈[ld,lds,lns,lps],s₀.heap.get? a=none)→WI C ⟨x,dx,ld,lds,lns,lps,lp,wr,pos,qual⟩ σ0 s'.heap→Q .next s'):wpAny (model prog w) A (execs (aa (ak 0)).body env) Q E s:=by
 have hI:DS env=false:=by unfold DS;refine(ir f.fo.scp)▸?_;rfl
 have f:=cy.start f;refine f.asg CA (fun q=>f.f.name rfl M.w q) (by decide) Nb.write (by rfl) fun s f=>?_;refine csT ?_ (by rfl);refine f.nl0 fun ld s f=>?_;refine f.st CA (by decide) Nb.data fun s f=>?_;refine f.asg CA (fun q=>f.f.name rfl M.a1 q) (by decide) Nb.comm (by rfl) fun s f=>?_;refine f.asg CA (fun q=>f.f.name rfl M.a2 q) (by decide) Nb.strip (by rfl) fun s f=>?_;refine f.asg CA (fun q=>J2 (DP (f.f.name rfl M.a6 (IS (D5 q))))) (by decide) Nb.exa (by rfl) fun s f=>?_;refine f.asg CA (fun q=>J2 (DP (f.f.name rfl M.a7 (IS (D5 q))))) (by decide) Nb.ext (by rfl) fun s f=>?_;refine f.asg CA (fun q=>f.f.name rfl M.a3 q) (by decide) Nb.rew (by rfl) fun s f=>?_;refine csI (DP (f.f.name rfl M.a4 (IS ?_)));refine f.asg CA (fun q=>D5 q) (by decide) Nb.qat (by rfl) fun s f=>?_;refine C7 ?_;refine csI (DP (f.f.name rfl M.a5 (IS ?_)));refine f.asg CA (fun q=>D5 q) (by decide) Nb.fqa (by rfl) fun s f=>?_;refine C7 ?_;refine csT ?_ (by rfl);refine wb3 (C8 ?_);refine wb3 (C8 ?_);refine wb3 (sp2 (Ds (Ds ?_)));refine f.tok.nt fun t0 s f=>?_;refine Dp ?_;refine f.nl (by show 1≤Eu;refine(ir Di)▸?_;exact DT _) fun l0 s f=>?_;refine Dp ?_;refine f.nl (by show 1≤Eu;refine(ir Di)▸?_;exact DT _) fun lds s f=>?_;refine f.st CA (by decide) Nb.decl fun s f=>?_;refine csT ?_ (by rfl);refine f.nl0 fun lns s f=>?_;refine f.st CA (by decide) Nb.nss fun s f=>?_;refine csI (It (DP (f.f.name rfl M.a3 (DJ ?_))));refine csE ?_ hI;refine Dk rfl rfl rfl ?_;refine f.f.attr CA (v:=.ref lns) (by decide) Nb.nss (if_pos rfl) rfl fun g=>?_;refine tI (s:={ s with toks:=s.toks+1 }) (f.led.isL 0 rfl) ?_;refine qJ hA (V _ g.keeps) hsys Z (fun q=>g.fo.glob G rfl hlist q) (fun q=>g.fo.glob G rfl O q) rfl fun ll s1 g1=>?_;refine(f.tok.grw g1).app (by decide) fun s f=>?_;refine C7 ?_;refine csE ?_ hI;refine Dk rfl rfl rfl ?_;refine f.f.attr CA (v:=.ref lns) (by decide) Nb.nss (if_pos rfl) rfl fun g=>?_;refine tI (s:={ s with toks:=s.toks+1 }) (f.led.isL 0 rfl) ?_;refine f.tok.nl0 fun lm s f=>?_;refine f.drop.app (by exact DT _) fun s f=>?_;refine csT (JP ?_) (by rfl);refine(f.new _ (P:=fun _=>True) trivial).drop.st CA (by decide) Nb.pmap fun s f=>?_;refine csT ?_ (by rfl);refine wb3 (C8 (nb (Dp ?_)));refine f.nl (by show 1≤Eu;refine(ir Di)▸?_;decide) fun lps s f=>?_;refine f.st CA (by decide) Nb.psp fun s f=>?_;refine f.asg CA (fun q=>D5 q) (by decide) Nb.pend (by rfl) fun s f=>?_;refine f.asg CA (fun q=>Jb q) (by decide) Nb.root (by rfl) fun s f=>?_;refine f.asg CA (fun q=>Jb q) (by decide) Nb.done (by rfl) fun s f=>?_;refine csT (Dj ?_) (by rfl);refine f.tok.st CA (by decide) Nb.ign fun s f=>?_
 exact C7 (q s ld lds lns lps f.f.fo.same (fun b o h1 h2 e=>f.f.fo.keep b o (by simp[h1,h2]) e) (fun a ha=>by
  simp only[Da,Dr,or_false]at ha;rcases ha with h|h|h|h<;>rw[h]
  ·exact(f.led.at 5 rfl).1
  ·exact(f.led.at 2 rfl).1
  ·exact(f.led.at 1 rfl).1
  ·exact(f.led.at 0 rfl).1) (wP f tT rfl ag al b1 b2 a0 a8 b3 a9))
end
noncomputable def BG (B:Fix) (fI kd:Addr):Prop:=∃o fd,B.base fI=some o∧o.cls=.type "function"∧o.data=.func fd∧fd.params=aD (ak 0)∧fd.body=.stmts (aa (ak 0)).body∧fd.scope=(aa (ak 0)).scope∧fd.closure=[]∧fd.globals=B.g∧fd.builtins=B.b∧fd.defaults=.none∧fd.kwdefaults=.ref kd∧∀h,Mine.Lake.Keeps B h→h.CodeRec fd.code fd.qualname
structure CI (prog:C9)(w:World)(B:Fix)(G:Glob B)(C:Addr)(mN:Str→Option Value) where
 hC:G.val "C14NWriterTarget"=some (.ref C)
 hlist:G.val "list"=some (.type "list")
 nsA:Addr
 kvs:List (Str×Value)
 hns:G.val "_namespace_map"=some (.ref nsA)
 hnd:∀h,Mine.Lake.Keeps B h→h.DictOf (Db prog w) nsA kvs
 hnz:kvs.length≤100
 hsys:(nsA==EE)=false
 fI:Addr
 hi:mN "__init__"=some (.ref fI)
 kd:Addr
 kwm:Str→Option Value
 hkd:∀h,Mine.Lake.Keeps B h→h.Ns kd kwm
 hkw:KwD kwm
 obj:BG B fI kd
section
variable {prog:C9}{w:World}{A:Dq}{E:Value→Shared→Prop}{s₀ s:Shared}{B:Fix}{C:Addr}{mN:Str→Option Value}{env:Env}{m mA:Str→Option Value}{x dx:Addr}{n:Nat}
theorem qK {G:Glob B}(CA:aV B C mN)(I:CI prog w B G C mN)(hA:A.handled=none)(b7:A.depth+2<Ed)(hb:Mine.Lake.Keeps B s.heap){aw lp:Addr}(pos:Pos)(qual:Str)(be:IsL s.heap lp #[])(bk:∃o,s.heap.get? aw=some o)(b1:aw≠lp∧aw≠am)(c0:lp≠am)
  (b3:∃ps,s.heap.get? am=some (cM ps)∧(ps= #[]∨∃c',ps= #[DE pos.line,DE pos.col,.ref c']∧(c'≠lp∧c'≠am)∧s.heap.CodeRec (.ref c') qual)){Q:Value→Shared→Prop}
  (q:∀K s',K.lp=lp→K.wr=.ref aw→K.pos=pos→K.qual=qual→Grw s s'→(∀a∈[K.x,K.dx,K.ld,K.lds,K.lns,K.lps],s.heap.get? a=none)→WI C K σ0 s'.heap→Q (.ref K.x) s'):wpAny (model prog w) A (call (.ref C) [.ref aw]) Q E s:=by
 refine aC CA.obj fun nm qq N bs sn sub col dd k0 k1 k2 k3 k5 hC hn=>?_;refine iN I.obj fun o fd ho c1 hd c2 b2 a0 c3 hg c4 c5 hkd c6=>?_;refine wpAny_call_obj_init (h:=s.heap) (g:=s.gens) (d:=s.drawn) (t:=s.toks) (os:=s.os) F.objNew (hb _ _ hC) (hn _ hb) I.hi (hb _ _ ho) c1 fun h' x dx M=>?_;have a8:Mine.Lake.Keeps B h':=fun a o e=>M.keeps _ _ (hb a o e);refine xAA (G.look h' a8) fun J J b4=>?_
 have bx:B.base x=none:=by
  cases e:B.base x with
  |none=>rfl
  |some o=>have:=hb _ _ e;rw[M.newX]at this;contradiction
 have bd:B.base dx=none:=by
  cases e:B.base dx with
  |none=>rfl
  |some o=>have:=hb _ _ e;rw[M.newD]at this;contradiction
 have H:∀{a o},s.heap.get? a=some o→a≠x∧a≠dx:=fun e=>⟨fun q=>(by rw[q,M.newX]at e;contradiction),fun q=>(by rw[q,M.newD]at e;contradiction)⟩
 refine Gm (JT (by show A.depth+1<Ed;exact D9 ‹_›) (a8 _ _ ho) hd b4 (c6 _ a8) b2 (qI (s:=⟨h',s.gens,s.drawn,s.toks,s.os⟩) c2 c5 hkd (I.hkd _ a8) I.hkw) (by refine(ir a0)▸?_;decide) (by refine(ir a0)▸?_;intro z hz;simp only[dz,Da,Dr,or_false]at hz;rcases hz with rfl|rfl|rfl|rfl|rfl|rfl|rfl|rfl|rfl<;>rfl) (fun h₀ hns O=>?_) (by refine(ir a0)▸?_;rfl) (by refine(ir a0)▸?_;rfl) (by refine(ir a0)▸?_;rfl))
 have Z:∃o,h'.get? x=some o∧o.dict=some dx:=by
  refine xEA M.inst fun o ho J=>?_;exact yEA o ho (M.dict o ho)
 have c7:x≠dx:=by
  refine xEA Z fun o ho a9=>?_;refine da M.inst fun o' V J J r=>?_;rw[ho]at V;injection V with V;subst V;rcases r with⟨r,_⟩|⟨d,r1,r2,_⟩
  ·rw[a9]at r;contradiction
  ·rw[a9]at r1;injection r1 with r1;subst r1;exact r2.symm
 have ca:∃o,h'.get? dx=some o:=by
  refine xEA Z fun o ho a9=>?_;refine da M.inst fun o' V J J r=>?_;rw[ho]at V;injection V with V;subst V;rcases r with⟨r,_⟩|⟨d,r1,r2,oD,es,ep,e1,_⟩
  ·rw[a9]at r;contradiction
  ·rw[a9]at r1;injection r1 with r1;clear r2;subst r1;exact⟨oD,e1⟩
 have b5:x≠C:=fun q=>by
  have:=hb _ _ hC;rw[←q,M.newX]at this;contradiction
 have f:Ini B C (callEnv fd h'.objs.size I.fI) x dx ⟨h',s.gens,s.drawn,s.toks,s.os⟩ (fun y=>(dz (.ref x) (.ref aw)).reverse.lookup y) (fun J=>none) ⟨h₀,s.gens,s.drawn,s.toks+(dz (.ref x) (.ref aw)).length,s.os⟩:=by
  refine⟨⟨hns,⟨rfl,rfl,id⟩,fun b o J e=>O b o e,DK _,a0,hg,c4,a8,rfl,c3,fun a ha=>?_⟩,?_,fun y hy=>absurd rfl hy,?_,b5,?_,rfl⟩
  ·simp only[Da,Dr,or_false]at ha;rcases ha with rfl|rfl<;>assumption
  ·refine da M.inst fun o ho r1 r2 r3=>?_;refine gH o (O _ _ ho) r1 r2 ?_;rcases r3 with r3|⟨d,q1,q2,oD,es,ep,e1,e2⟩
   ·exact .inl r3
   ·exact .inr ⟨d,q1,q2,oD,es,ep,O _ _ e1,e2⟩
  ·refine xEA Z fun o ho hd=>?_;exact yEA o (O _ _ ho) hd
  ·intro h;simp only[Da,Dr,or_false]at h;refine xEA Z fun o1 cb J=>?_;refine xE ca fun o2 cc=>?_;rcases h with h|h
   ·exact absurd (rl cb) (by refine h▸?_;exact DF _)
   ·exact absurd (rl cc) (by refine h▸?_;exact DF _)
 refine xE (id be) fun lq ag=>?_;refine xE (id bk) fun d2 al=>?_;refine xEA b3 fun ps b6 ch=>?_;refine tU (A:=(A.under (.builtin "type.__call__" ⟨[.ref C,.ref aw],[]⟩)).deeper (callEnv fd h'.objs.size I.fI)) CA hA I.hlist I.hns I.hnd I.hnz I.hsys pos qual f ⟨rfl,rfl,rfl,rfl,rfl,rfl,rfl,rfl⟩ c7 rfl ⟨lq,M.keeps _ _ ag⟩ ⟨_,M.keeps _ _ al⟩ ⟨(H al).1,(H al).2,b1.1,b1.2⟩ ⟨(H ag).1,(H ag).2,c0⟩ (H b6) ?_ fun s' ld lds lns lps hS hK hN W=>?_
 ·refine yEA ps (M.keeps _ _ b6) (ch.imp id ?_);intro ci;refine gK ci fun c' r1 d1 c o vs t v1 v2 v3 v4=>?_;obtain⟨r2,r3⟩:=d1;injection v1 with v1;subst v1;exact gI c' r1 ⟨(H v2).1,(H v2).2,r2,r3⟩ c' o vs t rfl (M.keeps _ _ v2) v3 v4
 ·refine⟨rfl,q ⟨x,dx,ld,lds,lns,lps,lp,.ref aw,pos,qual⟩ s' rfl rfl rfl rfl ⟨Same.trans ⟨rfl,rfl,id⟩ hS,fun b o e=>hK b o (H e).1 (H e).2 (M.keeps _ _ e)⟩ (fun a ha=>?_) W⟩;simp only[Da,Dr,or_false]at ha
  have up:h'.get? a=none→s.heap.get? a=none:=fun h=>by
   cases e:s.heap.get? a with
   |none=>rfl
   |some o=>rw[M.keeps _ _ e]at h;contradiction
  rcases ha with rfl|rfl|rfl|rfl|rfl|rfl
  ·exact M.newX
  ·exact M.newD
  ·exact up (hN _ (by exact .head _))
  ·exact up (hN _ (by grind -abstractProof))
  ·exact up (hN _ (by grind -abstractProof))
  ·exact up (hN _ (by simp))
end
theorem WI.butIter {C:Addr}{K:WK}{σ:Wst}{h h':Heap}(W:WI C K σ h){a:Addr}{x l st:Int}(V:Ie h a x l st)(ha:a∉K.own)(H:∀b o,b≠a→h.get? b=some o→h'.get? b=some o):WI C K σ h':=by
 have B:h.get? a=some { cls:=.type "range_iterator",data:=.fields #[DE x,DE l,DE st] }:=V;have own:∀{b o},b∈K.own→h.get? b=some o→h'.get? b=some o:=fun hb e=>H _ _ (fun q=>ha (q▸hb)) e
 have hl:∀{a items},IsL h a items→IsL h' a items:=fun⟨q,e⟩=>⟨q,H _ _ (fun q=>by
  rw[q,B]at e;exact absurd (congrArg Ik (Dd e)) (by show¬(FE "range_iterator"=FE "list");decide)) e⟩
 have hs:∀{a xs},StrsAt h a xs→StrsAt h' a xs:=fun z=>z.imp fun J z=>⟨hl z.1,z.2⟩
 have i:=W.instTo fun b o hb=>own (hb.elim (fun e=>e▸WK.mx) fun e=>e▸WK.mdx)
 refine⟨i.1,i.2,hs W.data,hs W.parts,W.declTo (fun J J J=>hl) (fun b o J J J d e=>H b o (fun q=>by rw[q,B]at e;injection e with e;subst e;contradiction) e),fun d hd=>⟨hl (W.ds d hd).1,(W.ds d hd).2⟩,W.ns.imp fun J z=>⟨hl z.1,z.2⟩,W.ps.imp fun J z=>⟨hl z.1,z.2⟩,W.nodup,
  W.tabTo (fun o=>own WK.mt) (fun c J x=>?_),W.wr⟩
 refine iO x fun c2 o vs t e3 G O Z=>?_;injection e3 with e3;subst e3;refine⟨c,o,vs,t,rfl,H _ _ (fun q=>?_) G,O,Z⟩;rw[q,B]at G;injection G with G;subst G;injection O with O;subst O;injection Z with Z;contradiction
section
variable {prog:C9}{w:World}{A:Dq}{E:Value→Shared→Prop}{s s₀:Shared}{env:Env}{n:Nat}
theorem wQ {x:Str}{t u:Tok}{c:Nat}{r:List Nat}{Q:Value→Shared→Prop}(J:x.cps.toList=c::r)(hl:x.length≤1000)(hq:∀V k,Q (.str ⟨r.toArray⟩ V) { s with toks:=k }):
  (I2 x t (some ((1:Int),u)) none none).post Q s:=by
 have B:x.length=r.length+1:=by
  have:x.length=x.cps.toList.length:=rfl;refine(ir this)▸(ir J)▸?_;rfl
 have O:FA x.length (1:Int)=1:=by unfold FA;split<;>lia -abstractProof
 obtain G:((E1 x (some ((1:Int),u)) none none).filterMap (x.cps[·]?))=r:=by
  unfold E1;show(DZ (some (1:Int)) none 1 x.length).filterMap _=_;rw[bO];show((DQ (x.length-FA x.length (1:Int))).map (FA x.length (1:Int)+·)).filterMap _=_;refine(ir O)▸(ir B)▸?_;refine(ir K9)▸?_
  have h1:∀j,(fun i:Nat=>x.cps[i]?) (1+j)=r[j]?:=fun j=>by
   show x.cps[1+j]?=_;rw[←E6,J,Hy,H4]
  have:((fun i:Nat=>x.cps[i]?) ∘ fun j=>1+j)=fun j=>r[j]?:=funext h1;rw[this,Nat.add_sub_cancel];apply List.ext_getElem?;intro i;clear this h1 O B hl J hq
  obtain key:∀(r:List Nat),(DQ r.length).filterMap (fun j=>r[j]?)=r:=by
   intro r
   induction r with
   |nil=>rfl
   |cons a r Z=>
    refine(ir Ep)▸(ir List.range_succ_eq_map)▸(ir List.filterMap_cons)▸?_;simp only[List.getElem?_cons_zero,K9]
    congr 1
  rw[key]
 obtain H:(E1 x (some ((1:Int),u)) none none).length=r.length:=by
  unfold E1;show(DZ (some (1:Int)) none 1 x.length).length=_;rw[bO];show((DQ (x.length-FA x.length (1:Int))).map _).length=_;refine(ir O)▸(ir B)▸?_;simp
 unfold I2;refine IF ?_;refine(ir H)▸?_
 split
 ·rename_i hc;obtain h1:r.length=x.length:=by simpa using ((DM _ _).mp hc).2
  lia -abstractProof
 ·refine(ir G)▸?_;exact⟨by refine(ir Di)▸?_;show r.length≤_;lia -abstractProof,hq⟩
theorem tV {B slice:Expr}{x:Str}{t u:Tok}{c:Nat}{r:List Nat}{Q:Value→Shared→Prop}(H:x.cps.toList=c::r)(hq:∀J k,Q (.str ⟨#[c]⟩ J) { s with toks:=k })
  (hs:J3 slice false (.str x t) (.int 0 u)=operate [.str x t,.int 0 u] (Kh (.str x t) (.int 0 u)):=by with_unfolding_all rfl):
  wpAny (model prog w) A (Gu B slice (.str x t) (.int 0 u)) Q E s:=by
 refine HI (EX _ _ _) HK.lookup (PySem.P.getItem_str (by rfl) (c:=c) ?_ (hq _ _)) hs
 obtain G:x.length=r.length+1:=by
  have:x.length=x.cps.toList.length:=rfl;refine(ir this)▸(ir H)▸?_;rfl
 obtain O:x.cps[0]?=some c:=by refine(E6)▸(ir H)▸?_;rfl
 unfold HM;refine(ir G)▸?_;simp[O]
end
noncomputable def cl (x:Str):List Nat:=x.cps.toList
theorem cI (a b:Str):cl (a++b)=cl a++cl b:=by
 show(Str.append a b).cps.toList=_;unfold Str.append cl;simp
theorem jz {a b:Str}(h:cl a=cl b):a=b:=by
 cases a;cases b;congr;exact ES.mp h
theorem qL (x:Str):x.length=(cl x).length:=rfl
noncomputable def gr:List Str→List Str→List Nat
 |[],_=>[]
 |z::r,xs=>60::(cl z++62::(match xs with|[]=>[]|x::u=>cl (esc x)++gr r u))
inductive OkT:Nat→List Str→Prop
 |nil {d}:OkT d []
 |op {d z r}:Nm z→(∀t,cl z≠47::t)→OkT (d+1) r→OkT d (z::r)
 |cls {d z y r}:cl z=47::cl y→Nm y→OkT d r→OkT (d+1) (z::r)
noncomputable def wR:List Str→List Nat
 |[x]=>cl (esc x)
 |_=>[]
theorem yr {x:Str}(h:x.length=0):cl (esc x)=[]:=by
 obtain B:x=DA:=jz (D8.mp h);subst B;rfl
theorem se:∀data:List Str,(hM data).flatMap cl=wR data
 |[]=>rfl
 |[x]=>by
  show(bP x).flatMap cl=cl (esc x);unfold bP
  cases h:x.length==0 with
  |true=>rw[yr (by simpa using h)];rfl
  |false=>simp
 |_::_::_=>rfl
theorem wS (x:Str):(bP x).flatMap cl=cl (esc x):=se [x]
theorem Ay (y:Str):cl (eQ y)=60::47::(cl y++[62]):=by
 unfold eQ;rw[cI,cI,cI];show[]++[60,47]++cl y++[62]=_;simp
theorem wT (y:Str):cl (bn y)=60::cl y:=by
 unfold bn;rw[cI];rfl
theorem oa:∀ys:List Str,cl (Gj DA ys)=ys.flatMap cl
 |[]=>rfl
 |[x]=>by show cl x=_;simp
 |x::y::r=>by
  obtain B:=oa (y::r);show cl (x++DA++Gj DA (y::r))=_;rw[cI,cI,B];show cl x++[]++_=_;simp
theorem yt (ys:List Str):cl (KL DA ys)=ys.flatMap cl:=by
 rw[Iu (join_plain_closes DA ys)];exact oa ys
section
variable {θ:Th}{ρ:Rho}
theorem mf {r:List At}(h:zI r=true):Nm (θ.str r)∧(∀t,cl (θ.str r)≠47::t):=by
 cases r with
 |nil=>contradiction
 |cons a r=>
  cases a with
  |t k s=>contradiction
  |c n=>
   refine aT h fun h1 h=>?_;refine aT h fun h2 h=>?_;refine aT h fun h3 h=>?_;have hl:=DG h;have hn:n≠123:=fun e=>by clear h h2 h1;subst e;contradiction
   have B:n≠47:=fun e=>by clear h h2 h1;subst e;contradiction
   have e:cl (θ.str (.c n::r))=n::θ.flat r:=by
    show(θ.flat (.c n::r)).toArray.toList=_;rfl
   refine⟨⟨⟨n,θ.flat r,e,hn⟩,?_⟩,fun t G=>?_⟩
   ·rw[qL];show(θ.flat (.c n::r)).toArray.toList.length≤100;rw[IH,io h3];exact hl
   ·rw[e]at G;exact B (GD G).1
noncomputable def CY (θ:Th) (us G:List Value) (p:List At) (d:Nat):Prop:=
 ∃B xs,All2 (fun z u=>∃t,u=Du z t) B us∧All2 (fun x v=>∃t,v=Du x t) xs G∧θ.flat p=gr B xs∧OkT d B∧B.length=xs.length+1∧∀x∈xs,cr x
theorem tW (J:∀k,cr (θ.str [.t k 0])∧cl (esc (θ.str [.t k 0]))=θ.tx k 1):∀(G B:List V2) (us vs:List Value) (p:List At) (d:Nat),pe G B=some p→pf d G=true→All2 (VRel θ ρ) G us→All2 (VRel θ ρ) B vs→CY θ us vs p d:=by
 intro G
 induction G with
 |nil=>intro B us vs p d h;contradiction
 |cons v r ih=>
  intro B us vs p d h hk hu hv
  cases hu with
  | @cons _ u _ us Z a0=>
  cases v with
  |str t=>
   refine xE Z fun tk a9=>?_;clear Z;subst a9;refine iM hk fun d' H hk=>?_
   have O:∀{V},OkT d' V→OkT d (θ.str t::V):=by
    intro V hz
    cases t with
    |nil=>contradiction
    |cons a t'=>
     cases a with
     |t k s=>contradiction
     |c n=>
      refine c8 H (fun h2 H=>?_) fun h2 H=>?_
      ·obtain hn:n=47:=nd h2;subst hn
       cases d with
       |zero=>contradiction
       |succ d=>
        refine az H fun h3 H=>?_;injection H with H;subst H;exact .cls (y:=θ.str t') rfl (mf h3).1 hz
      ·refine az H fun h3 H=>?_;injection H with H;subst H;exact .op (mf h3).1 (mf h3).2 hz
   cases B with
   |nil=>cases r with
    |cons _ _=>contradiction
    |nil=>
     injection h with h;subst h;cases hv;cases a0;refine bt ([θ.str t]) ([]) (.cons ⟨tk,rfl⟩ .nil) .nil ?_ (O .nil) rfl (fun x hx=>by cases hx);show θ.flat (.c 60::t++[.c 62])=60::((θ.flat t).toArray.toList++[62])
     simp[Th.at1]
   |cons x u'=>
    refine aS h fun k hx h=>?_;have hx:=mX hx;subst hx;refine aS h fun p' hp h=>?_;injection h with h;subst h
    cases hv with
    | @cons _ v1 _ ag a8 al=>
     refine ek (ih u' us ag p' d' hp hk a0 al) fun V xs i1 i2 i3 i4 i5 i6=>?_;refine xE a8 fun tx b1=>?_;clear a8;subst b1;refine bt (θ.str t::V) (θ.str [.t k 0]::xs) (.cons ⟨tk,rfl⟩ i1) (.cons ⟨tx,rfl⟩ i2) ?_ (O i4) (congrArg (·+1) i5) ?_
     ·show θ.flat (.c 60::t++ .c 62:: .t k 1::p')=60::(cl (θ.str t)++62::(cl (esc (θ.str [.t k 0]))++gr V xs))
      refine(ir ((J k).2))▸i3▸?_;show _=60::((θ.flat t).toArray.toList++_)
      simp[Th.at1]
     ·intro x hx;rcases Da.mp hx with rfl|hx
      ·exact(J k).1
      ·exact i6 x hx
  |_=>contradiction
end
noncomputable def yu:Stmt→List Stmt
 |.For _ _ b _ _=>b
 |_=>[]
noncomputable def qM:List Stmt:=yu ((aa (ac 20)).body.getD 2 (.Pass JE))
section
variable {prog:C9}{w:World}{A:Dq}{E:Value→Shared→Prop}{s s₀:Shared}{B:Fix}{C:Addr}{mN:Str→Option Value}{env:Env}{m:Str→Option Value}{K:WK}{σ:Wst}{n:Nat}
structure Wk (prog:C9)(w:World)(B:Fix)(G:Glob B)(C:Addr)(mN:Str→Option Value) where
 k:CK B G C mN
 L:LK B G
 I:CI prog w B G C mN
 sorted:G.val "sorted"=some (.builtin "sorted")
 len:G.val "len"=some (.builtin "len")
 range:G.val "range"=some (.type "range")
 qual:Str
 hS:∀o fd,B.base k.as1=some o→o.data=.func fd→fd.code=.ref L.c∧(fd.qualname++".<locals>.")++"<lambda>"=qual
 hsys:(B.base EE).isSome
structure Wz (i d:Nat)(zs xs:List Str)(total:List Nat)(σ:Wst):Prop where
 ok:OkT d zs
 ds:σ.ds.length=d
 np:σ.np=1+d
 nn:σ.nn=2+d
 dat:(i=0∧σ.data=[])∨((0<i∧i<10)∧σ.root=true∧∃x,σ.data=[x]∧cr x)∨(i=10∧σ.data=[])
 len:zs.length=10-i∧xs.length=9-i
 pl:σ.parts.length≤3*i
 di:d≤i
 pg:σ.parts.flatMap cl++(wR σ.data++gr zs xs)=total
theorem qN {α:Type}{xs:List α}(h:0<xs.length):∃ys v,xs=ys++[v]:=⟨xs.dropLast,xs.getLast (by intro e;rw[e]at h;cases h),(Jw _).symm⟩
theorem mh {G:Expr}{lo hi:Option Expr}{p:Pos}{z:Str}{J u:Tok}{c:Nat}{t:List Nat}{Q:Value→Shared→Prop}(H:z.cps.toList=c::t)(hl:z.length≤1000)(q:∀O k,Q (.str ⟨t.toArray⟩ O) { s with heap:=s.heap.push { cls:=.type "slice",data:=.fields #[.int 1 u,.none,.none] },toks:=k }):
  wpAny (model prog w) A (Gu G (.Slice lo hi none p) (.str z J) (.ref s.heap.objs.size)) Q E { s with heap:=s.heap.push { cls:=.type "slice",data:=.fields #[.int 1 u,.none,.none] } }:=by
 refine HI (ops:=[.ref s.heap.objs.size,.str z J]) (EX _ _ _) HK.lookup (KU (l:=some ((1:Int),u)) (u:=none) (st:=none) ⟨_,rh _ rfl,rfl,rfl⟩ rfl ?_) rfl;exact wQ H hl q
set_option tactic.hygienic true in
theorem yv {G:Glob B}(X:Wk prog w B G C mN)(hO:∀a∈K.own,B.base a=none)(a0:Room (n+4) A)(hq:K.qual=X.qual)(b5:K.pos=fg)(f:Fo (aa (ac 20)).scope B env K.own s₀ m s)(W:WI C K σ s.heap)(b6:WrAt K s.heap)(c1:env.locals∉K.own)
  {Lt Lx:Addr}{i d:Nat}{z:Str}{zs xs:List Str}{tz ti:Tok}{total:List Nat}{tg tx:Array Value}(b3:m "tags"=some (.ref Lt))(c2:m "texts"=some (.ref Lx))(b4:m "writer"=some (.ref K.x))(a8:m "place"=some (.int (i:Int) ti))(hi:i≤9)
  (hT:s.heap.IsList Lt tg)(hX:s.heap.IsList Lx tx)(c3:Lt∉K.own∧Lx∉K.own)(hz:tg[i]?=some (.str z tz))(hx:∀x u,xs=x::u→(∃t,tx[i]?=some (.str x t))∧cr x)(V:Wz i d (z::zs) xs total σ){Q:Flow→Shared→Prop}
  (q:∀s' b7 d',Stp K s s'→WI C K b7 s'.heap→Wz (i+1) d' zs xs.tail total b7→Q .next s'):wpAny (model prog w) A (execs qM env) Q E s:=by
 have hI:DS env=false:=by unfold DS;refine(ir f.scp)▸?_;rfl
 have fin:∀s2 H d2,Stp K s s2→WI C K H s2.heap→OkT d2 zs→H.ds.length=d2→H.np=1+d2→H.nn=2+d2→H.data=[]→H.root=true→H.parts.length≤3*i+3→d2≤i+1→H.parts.flatMap cl=σ.parts.flatMap cl++(wR σ.data++(60::(cl z++[62])))→
   wpAny (model prog w) A (execs (qM.drop 1) env) Q E s2:=by
  intro s2 H d2 g2 W2 v1 v2 v3 v4 v5 v6 v7 v8 v9;have f2:=f.move g2.same c1 g2.keep;refine csI (DI ?_ rfl);refine f2.name rfl a8 ?_;refine Dj ?_;refine PySem.P.lt_int ?_;refine DJ ?_;have f3:=f2.tok (t:=s2.toks+1);by_cases h9:i<9
  ·refine(ir (decide_eq_true (by lia:(i:Int)<9)))▸?_
   obtain⟨x,u,rfl⟩:∃x u,xs=x::u:=by
    have:=V.len.2
    cases xs with
    |nil=>simp at this;grind
    |cons x u=>exact yEE x u rfl
   refine xA (hx x u rfl) fun c4 hex=>?_;refine xE c4 fun tt cb=>?_;refine csE ?_ hI;refine aM rfl rfl rfl ?_;refine f3.name rfl b4 fun pl=>?_;refine xEA X.k.hfd fun oF a9 ag=>?_;refine W2.meth (s:={ s2 with toks:=s2.toks+1 }) X.k.CA f3.keeps X.k.hd a9 ag Nb.mdata (by decide) ?_;refine aE (id X.k.Fd.obj) fun be bk Z al J=>?_;refine cf1 Z al ?_;refine FC ?_;refine f3.name rfl c2 ?_;refine f3.name rfl a8 ?_;refine eO (s:={ s2 with toks:=s2.toks+1 }) (hX.at fun o e=>g2.keep _ o c3.2 e) (by lia) (by grind) (by trivial) ⟨f3.keeps,?_⟩;refine tL (n:=n) (s:={ s2 with toks:=s2.toks+1 }) G X.k.CA hO X.k.Fd (by exact a0.le.le.le) f3.keeps W2 (by refine(ir v5)▸?_;simp) fun s4 g4 W4=>?_;refine C7 ?_;refine C7 ?_;refine q s4 _ d2 (g2.trans ((Grw.of (s:=s2) (h':=s2.heap) (t:=s2.toks+1) fun J J e=>e).stp.trans g4)) W4 ⟨v1,v2,v3,v4,.inr (.inl ⟨⟨by exact DT _,by lia⟩,v6,x,?_,hex⟩),?_,by show H.parts.length≤_;trivial,v8,?_⟩
   ·show H.data++[x]=[x]
    refine(ir v5)▸?_;rfl
   ·have:=V.len;simp at this⊢;exact o7 hi h9 this
   ·show H.parts.flatMap cl++(wR (H.data++[x])++gr zs u)=total;refine(ir v5)▸(ir v9)▸V.pg▸?_;show _++(cl (esc x)++gr zs u)=_++(_++(60::(cl z++62::(cl (esc x)++gr zs u))))
    simp
  ·refine(ir (decide_eq_false (by lia:¬(i:Int)<9)))▸?_;obtain c5:i=9:=by lia
   subst c5;obtain rfl:xs=[]:=D8.mp (by have:=V.len.2;trivial);obtain rfl:zs=[]:=D8.mp (by have:=V.len.1;simp at this;simpa using this);refine C7 ?_;refine C7 ?_;refine q _ H d2 (g2.trans (Grw.of (s:=s2) (h':=s2.heap) (t:=s2.toks+1) fun J J e=>e).stp) W2 ⟨v1,v2,v3,v4,.inr (.inr ⟨rfl,v5⟩),by decide,by trivial,v8,?_⟩;refine(ir v5)▸(ir v9)▸V.pg▸?_;show _++([]++[])=_;rw[EI,EI];rfl
 obtain c6:∃c t,cl z=c::t:=by
  cases V.ok with
  |op h1 _ _=>refine aL h1.ex fun c t h J=>?_;exact yEE c t h
  |cls h1 _ _=>exact yEE _ _ h1
 refine xEE c6 fun c t b1=>?_
 obtain cc:z.length≤200:=by
  cases V.ok with
  |op h1 _ _=>have:=h1.len;lia
  |cls h1 h2 _=>have:=h2.len;rw[qL,h1,Ep,←qL];lia
 refine csI (DI ?_ rfl);refine FC (FC ?_);refine f.name rfl b3 ?_;refine f.name rfl a8 ?_;refine eO hT (by exact o78 hi) (by lia) (by trivial) ?_;refine Dj ?_;refine tV b1 fun t1 k1=>?_;refine Ds ?_;refine Ln ?_;refine DJ ?_;have f1:=f.tok (t:=k1+1);have g1:Grw s { s with toks:=k1+1 }:=Grw.of (h':=s.heap) fun J J e=>e;have W1:WI C K σ ({ s with toks:=k1+1 }:Shared).heap:=W;generalize ch:({ s with toks:=k1+1 }:Shared)=O at f1 g1 W1;have bx:O.heap.IsList Lt tg:=hT.at fun o e=>g1.keep _ o e
 cases hV:V.ok with
 | @op _ _ _ h1 h2 h3=>
  refine(ir (show((⟨#[c]⟩:Str).cps.toList==("/":Str).cps.toList)=false from beq_eq_false_iff_ne.mpr (fun e=>h2 t (by rw[b1,(GD (show[c]=[47] from e)).1]))))▸?_;refine csE ?_ hI;refine aM rfl rfl rfl ?_;refine f1.name rfl b4 fun pl=>?_;refine xEA X.k.hfs fun oF a9 ag=>?_;refine W1.meth X.k.CA f1.keeps X.k.hs a9 ag Nb.start (by decide) ?_;refine aE (id X.k.Fs.obj) fun be bk Z al J=>?_;refine cf2 Z al ?_;refine FC ?_;refine f1.name rfl b3 ?_;refine f1.name rfl a8 ?_;refine eO bx (by exact o78 hi) (by lia) (by trivial) ?_;refine JP ?_;have f2:=f1.go (t:=O.toks) (h':=O.heap.push { cls:=.type "dict",data:=.dict #[] }) fun J J e=>mc _ e;refine⟨f2.keeps,?_⟩;have g2:Grw O { O with heap:=O.heap.push { cls:=.type "dict",data:=.dict #[] } }:=Grw.of (t:=O.toks) fun J J e=>mc _ e;obtain c7:O.heap.objs.size∉K.own:=fun hm=>by refine xE (W1.live _ hm) fun o ho=>?_;exact absurd (rl ho) (DF _)
  have b2:(O.heap.objs.size==EE)=false:=by
   refine xE (Dv.mp X.hsys) fun o ho=>?_
   exact beq_eq_false_iff_ne.mpr fun e=>by
    have:=rl (f1.keeps _ _ ho);rw[←e]at this;exact DF _ this
  have W2:=W1.to (h':=O.heap.push { cls:=.type "dict",data:=.dict #[] }) fun b o J e=>mc _ e;refine qH (n:=n) X.k X.L X.sorted hO a0 f2.keeps W2 ((b6.stp g1.stp).stp g2.stp) h1 (hq▸X.hS) b5 (IM O.heap) c7 b2 ?_ ⟨by have:=V.pl;lia,by have:=V.ds;have:=V.di;lia,by have:=V.np;have:=V.di;lia,by have:=V.nn;have:=V.di;lia⟩ (by refine(ir V.np)▸?_;exact DN _ _) fun s3 dd g3 W3=>?_
  ·rcases V.dat with⟨_,h⟩|⟨_,hr,x,h,hx⟩|⟨h,_⟩
   ·exact .inl h
   ·exact .inr ⟨x,h,hx,hr⟩
   ·lia
  refine C7 ?_;refine fin s3 _ (d+1) (g1.stp.trans (g2.stp.trans g3)) W3 h3 (by simp[V.ds]) (by show σ.np+1=_;refine(ir V.np)▸?_;rfl) (by show σ.nn+1=_;refine(ir V.nn)▸?_;rfl) rfl rfl ?_ (by have:=V.di;lia) ?_
  ·show(σ.parts++hM σ.data++[bn z]++[(">":Str)]).length≤_
   have:(hM σ.data).length≤1:=by
    unfold hM
    split
    ·rename_i x _;unfold bP;cases (x.length==0)<;>simp
    ·simp
   have:=V.pl;simp;lia
  ·show(σ.parts++hM σ.data++[bn z]++[(">":Str)]).flatMap cl=_;simp only[KR,se,I8,List.flatMap_nil,EI,wT];show _++_++(60::cl z)++[62]=_;simp
 | @cls d' _ y _ h1 h2 h3=>
  obtain c0:c=47:=by rw[b1]at h1;exact(GD h1).1
  obtain ca:t=cl y:=by rw[b1]at h1;exact(GD h1).2
  refine(ir (show((⟨#[c]⟩:Str).cps.toList==("/":Str).cps.toList)=true from by rw[c0];rfl))▸?_;refine csE ?_ hI;refine aM rfl rfl rfl ?_;refine f1.name rfl b4 fun pl=>?_;refine xEA X.k.hfn fun oF a9 ag=>?_;refine W1.meth X.k.CA f1.keeps X.k.hn a9 ag Nb.mend (by decide) ?_;refine aE (id X.k.Fn.obj) fun be bk Z al J=>?_;refine cf1 Z al ?_;refine FC (FC ?_);refine f1.name rfl b3 ?_;refine f1.name rfl a8 ?_;refine eO bx (by exact o78 hi) (by lia) (by simpa using hz) ?_;refine wpAny_Slice ?_;rw[evalPart_some];refine Dj ?_;refine nb ?_;refine nb ?_;refine mh (s:={ O with toks:=O.toks+1 }) b1 (by lia) fun t2 k2=>?_;have f2:=f1.go (t:=k2) (h':=O.heap.push { cls:=.type "slice",data:=.fields #[.int 1 O.toks,.none,.none] }) fun J J e=>mc _ e;have g2:Grw O { O with heap:=O.heap.push { cls:=.type "slice",data:=.fields #[.int 1 O.toks,.none,.none] },toks:=k2 }:=Grw.of (t:=k2) fun J J e=>mc _ e;refine⟨f2.keeps,?_⟩;obtain W2:=W1.to (h':=O.heap.push { cls:=.type "slice",data:=.fields #[.int 1 O.toks,.none,.none] }) fun b o J e=>mc _ e;obtain ey:(⟨t.toArray⟩:Str)=y:=jz (by show t.toArray.toList=_;simp[ca]);refine xEE (qN (xs:=σ.ds) (by refine(ir V.ds)▸?_;lia)) fun ds' dv b2=>?_;rcases V.dat with⟨h0,_⟩|⟨_,hr,x,hD,hx⟩|⟨h10,_⟩
  ·exact absurd V.di (by lia)
  ·refine(ir ey)▸?_;refine wH (n:=n) X.k X.len hO a0 f2.keeps W2 ((b6.stp g1.stp).stp g2.stp) hx h2 hD hr b2 (by refine(ir V.np)▸?_;lia) (by refine(ir V.nn)▸?_;lia) ⟨by have:=V.pl;lia,by have:=V.ds;have:=V.di;lia,by have:=V.np;have:=V.di;lia,by have:=V.nn;have:=V.di;lia⟩ fun s3 g3 W3=>?_;refine C7 ?_;refine fin s3 _ d' (g1.stp.trans (g2.stp.trans g3)) W3 h3 ?_ (by show σ.np-1=_;refine(ir V.np)▸?_;lia) (by show σ.nn-1=_;refine(ir V.nn)▸?_;lia) rfl hr ?_ (by have:=V.di;lia) ?_
   ·show ds'.length=d';have:=V.ds;rw[b2,D2]at this;simp at this;lia
   ·show(σ.parts++bP x++[eQ y]).length≤_;have:(bP x).length≤1:=by unfold bP;cases (x.length==0)<;>simp
    have:=V.pl;simp;lia
   ·show(σ.parts++bP x++[eQ y]).flatMap cl=_;refine(ir hD)▸?_;simp only[KR,wS,I8,List.flatMap_nil,EI,Ay,h1];show _=_++(cl (esc x)++_)
    simp
  ·lia
end
section
variable {prog:C9}{w:World}{A:Dq}{E:Value→Shared→Prop}{s s₀:Shared}{B:Fix}{C:Addr}{mN:Str→Option Value}{env:Env}{m:Str→Option Value}{K:WK}{σ:Wst}{n:Nat}{sc:Scope}{own:List Addr}
theorem cwC {nm q:Str}{N:Addr}{bs bm:List Value}{hdct:Bool}{sn:List Str}{sub:List Value}{ab:Bool}{col:Option Bool}{dd:Option Addr}{k0 k1 k2 k3 k5:Option Value}{newId:String}{e:Expr}{pos H:Pos}{Q:Value→Shared→Prop}
  (h:wpAny (model prog w) A (eval e env) (fun v s₁=>s₁.heap.get? C=some (IW nm q C N bs bm hdct sn sub ab col dd k0 k1 k2 k3 k5 newId)∧wpAny (model prog w) A (call (.ref C) [v]) Q E s₁) E s)
  (h1:autoParam (aU e=false) aR):wpAny (model prog w) A (Fu pos (.ref C) [] (EN H (D6 [e] env)) []) Q E s:=by
 rw[kM h1];refine il (Dx (DR (C8 (Dn h (fun v s₁ h=>Dp (il (Ek ?_))) fun J J e=>e))));refine xA h fun hC G=>?_;show wpAny _ _ (keeperOf (.ref C) >>= _) _ _ _;refine il (wpAny_keeperOf_exc (h:=s₁.heap) (g:=s₁.gens) (d:=s₁.drawn) (t:=s₁.toks) (os:=s₁.os) hC ?_);exact il (Dn G (fun r s₂ O=>il (Dx (wpAny_point (nb O)))) fun J J x=>x)
theorem Fo.but (f:Fo sc B env own s₀ m s){a:Addr}{h':Heap}{t:Nat}(G:∀b o,b≠a→s.heap.get? b=some o→h'.get? b=some o)(hf:s₀.heap.get? a=none)(hl:a≠env.locals):Fo sc B env own s₀ m { s with heap:=h',toks:=t }:=
 ⟨f.ns.at' fun o e=>G _ o (EL hl) e,f.same.trans ⟨rfl,rfl,id⟩,fun b o hb e=>G b o (fun q=>by rw[q,hf]at e;contradiction) (f.keep b o hb e),f.fresh,f.scp,f.gl,f.bu,f.base,f.fn,f.nc,f.bown⟩
theorem WI.put {h h':Heap}{L:Addr}{G:Str→Option Value}(W:WI C K σ h)(hn:h.Ns L G)(H:L∉K.own)(hs:E3 L h h'):WI C K σ h':=by
 refine W.to fun b o hb e=>hs.extBut b o ?_ e;rintro rfl;refine bg hn fun oD es ep e1 e2 J=>?_;rcases hb with hb|⟨xs,n,hb⟩|⟨xs,hb⟩
 ·exact H hb
 ·rw[e]at e1;injection e1 with e1;subst e1;rw[hb]at e2;contradiction
 ·rw[e]at e1;injection e1 with e1;subst e1;rw[hb]at e2;contradiction
structure Wl (B:Fix)(C:Addr)(K:WK)(env:Env)(s₀:Shared)(Lt Lx I:Addr)(zs xs:List Str)(total:List Nat)(i:Nat)(s:Shared):Prop where
 ex:∃m σ d,Fo (aa (ac 20)).scope B env K.own s₀ m s∧WI C K σ s.heap∧WrAt K s.heap∧m "tags"=some (.ref Lt)∧m "texts"=some (.ref Lx)∧m "writer"=some (.ref K.x)∧m "parts"=some (.ref K.lp)∧Ie s.heap I (i:Int) ((10:Int)-i) 1∧Wz i d (zs.drop i) (xs.drop i) total σ∧i≤10
theorem yw {G:Glob B}(X:Wk prog w B G C mN)(hO:∀a∈K.own,B.base a=none)(O:Room (n+4) A)(hq:K.qual=X.qual)(b7:K.pos=fg)(a9:env.locals∉K.own){Lt Lx I:Addr}{zs xs:List Str}{tg tx:Array Value}{total:List Nat}{pk:Pos}{R:GH→Shared→Prop}
  (hT:s₀.heap.IsList Lt tg)(hX:s₀.heap.IsList Lx tx)(ag:Lt∉K.own∧Lx∉K.own)(c4:All2 (fun z u=>∃t,u=Du z t) zs tg.toList)(c5:All2 (fun x v=>∃t,v=Du x t) xs tx.toList)(be:∀x∈xs,cr x)(a0:zs.length=10)(d4:xs.length=9)
  (hI:s₀.heap.get? I=none)(al:I≠env.locals)(b1:I∉K.own)(h0:Wl B C K env s₀ Lt Lx I zs xs total 0 s)
  (hR:∀s' m σ,Fo (aa (ac 20)).scope B env K.own s₀ m s'→WI C K σ s'.heap→m "parts"=some (.ref K.lp)→σ.parts.flatMap cl=total→σ.parts.length≤30→R (.ok .next) s'):
  Fb (model prog w) A (.forLoop (.Name "place" pk) (.ref I) qM [] env) R s:=by
 refine zt (fun k s'=>∃i,Wl B C K env s₀ Lt Lx I zs xs total i s'∧k=10-i) (fun s'=>R (.ok .next) s') (fun _ z=>z) 10 ⟨0,h0,rfl⟩ (fun _=>rfl) ?_;intro k s' Q' E' bk c6;refine xEA bk fun i b2 b3=>?_;refine fD b2.ex fun m σ d f W c7 m1 ca=>?_;refine vd ca fun m2 m3 m4 Z V hi=>?_;clear bk;have bx:s'.heap.get? I=some { cls:=.type "range_iterator",data:=.fields #[DE i,DE ((10:Int)-i),DE 1] }:=Z
 have cb:∀{h':Heap},(∀b o,b≠I→s'.heap.get? b=some o→h'.get? b=some o)→WrAt K h':=fun hk=>by
  refine aQ c7 fun aw e ho r=>?_;refine dY aw e ho (hk _ _ (fun q=>?_) r);rw[q,bx]at r;exact absurd (congrArg Ik (Dd r)) (by show¬(FE "range_iterator"=FE "builtin_function_or_method");decide)
 by_cases H:i=10
 ·subst H;refine IA O.1 Z (by exact CO) fun h' hx=>?_;have hk:∀b o,b≠I→s'.heap.get? b=some o→h'.get? b=some o:=fun b o hb e=>hx b o hb e;refine hR _ m σ (f.but (t:=s'.toks) hk hI al) (W.butIter Z b1 hk) m4 ?_ (by have:=V.pl;trivial);have:=V.pg;rw[Kk (by exact CN a0)]at this;rcases V.dat with⟨h,_⟩|⟨_,_,x,hx,_⟩|⟨_,h⟩
  ·contradiction
  ·trivial
  ·rw[h]at this;simpa [wR,gr] using this
 ·obtain⟨z,zs',b4⟩:∃z zs',zs.drop i=z::zs':=⟨_,_,List.drop_eq_getElem_cons (i:=i) (by exact Co a0 hi H)⟩
  obtain cc:zs[i]?=some z:=by
   have:=congrArg List.head? b4;rw[List.head?_drop]at this;simpa using this
  obtain c0:zs.drop (i+1)=zs':=by
   have:=congrArg List.tail b4;simpa using this
  refine Is Z (by exact Cs hi H) fun h' c1 hs1=>?_;have hk:∀b o,b≠I→s'.heap.get? b=some o→h'.get? b=some o:=fun b o hb e=>hs1.extBut b o hb e;have f1:=f.but (t:=s'.toks+1) hk hI al;obtain W1:=W.butIter Z b1 hk;obtain c2:=cb hk;refine Ea ?_;refine f1.putS rfl fun s2 f2 b5=>?_;obtain W2:WI C K σ s2.heap:=W1.put f1.ns a9 b5
  have a8:WrAt K s2.heap:=by
   refine aQ c2 fun aw e ho r=>?_;refine dY aw e ho (b5.extBut _ _ (fun q=>?_) r);refine bg f1.ns fun oD es ep e1 e2 J=>?_;rw[q,e1]at r;injection r with r;subst r;contradiction
  refine gX (c4.get cc) fun uz b6 tz b2=>?_;subst b2;have b6:tg[i]?=some (.str z tz):=by simpa using b6
  rw[b4]at V;refine yv (n:=n) X hO O hq b7 f2 W2 a8 a9 (ah (by decide) m1) (ah (by decide) m2) (ah (by decide) m3) ar (by exact Cw hi H) (hT.at fun o e=>f2.keep _ o ag.1 e) (hX.at fun o e=>f2.keep _ o ag.2 e) ag b6 (fun x u ch=>?_) V fun s3 ci d3 g3 W3 V3=>?_
  ·have c3:xs[i]?=some x:=by
    have:=congrArg List.head? ch;rw[List.head?_drop]at this;simpa using this
   refine gX (c5.get c3) fun ux d1 d2 b3=>?_;subst b3;exact⟨⟨d2,by simpa using d1⟩,be x (C6 c3)⟩
  ·refine c6 (10-(i+1)) _ (by refine(ir b3)▸?_;exact o37 hi H) ⟨i+1,⟨_,ci,d3,f2.move g3.same a9 g3.keep,W3,a8.stp g3,ah (by decide) m1,ah (by decide) m2,ah (by decide) m3,ah (by decide) m4,?_,?_,by exact Cr hi H⟩,rfl⟩
   ·have:=g3.keep I _ b1 ((b5.2 I al).trans c1);rw[show((i:Int)+1)=((i+1:Nat):Int) by exact o83,show((10:Int)-i-1)=10-((i+1:Nat):Int) by exact Cx]at this;exact this
   ·refine(ir c0)▸?_;have:xs.drop (i+1)=(xs.drop i).tail:=by simp
    refine(ir this)▸?_;exact V3
theorem jA:∀{xs:List Str} {us:List Value},All2 (fun x v=>∃t,v=Du x t) xs us→StrsAre us xs
 |_,_,.nil=>.nil
 |_,_,.cons ⟨_,e⟩ r=>by refine(ir e)▸?_;exact .cons _ _ (jA r)
theorem Az (B:Fix){h:Heap}(hb:Mine.Lake.Keeps B h)(G:h.get? am=some (cM #[])):B.base am=none:=by
 cases e:B.base am with
 |none=>rfl
 |some o=>
  have h1:=hb _ _ e;rw[G]at h1;exact absurd (Dd h1).symm (B.nt _ _ e #[])
theorem mi {G:Glob B}(X:Wk prog w B G C mN)(V:Room (n+4) A){Lt Lx:Addr}{zs xs:List Str}{tg tx:Array Value}{total:List Nat}{Q:Flow→Shared→Prop}
  (f:Fw (aa (ac 20)).scope B env s₀ m s)(e7:m "tags"=some (.ref Lt))(ea:m "texts"=some (.ref Lx))(hT:s₀.heap.IsList Lt tg)(hX:s₀.heap.IsList Lx tx)(eb:All2 (fun z u=>∃t,u=Du z t) zs tg.toList)(ec:All2 (fun x v=>∃t,v=Du x t) xs tx.toList)
  (c7:∀x∈xs,cr x)(b5:zs.length=10)(ca:xs.length=9)(ee:OkT 0 zs)(ey:gr zs xs=total)(cb:total.length≤1000000)(H:s₀.heap.get? am=some (cM #[]))
  (q:∀s' t,Same s₀ s'→(∀b o,b≠am→s₀.heap.get? b=some o→s'.heap.get? b=some o)→(∃ps,s'.heap.get? am=some (cM ps))→Q (.ret (.str ⟨total.toArray⟩ t)) s'):wpAny (model prog w) A (execs (aa (ac 20)).body env) Q E s:=by
 have hI:DS env=false:=by unfold DS;refine(ir f.scp)▸?_;rfl
 have cc:B.base am=none:=Az B f.base H;obtain f0:=f.toFo (own:=[am]) (by intro a ha;refine(ir (DD.mp ha))▸?_;exact cc);refine csA ?_ (by rfl);refine wb3 ?_;refine Dp ?_;refine EK ?_ (Ej _);obtain bk:∀b o,s₀.heap.get? b=some o→s.heap.get? b=some o:=f.call.keep
 have new:∀{h:Heap} {a:Addr},(∀b o,s₀.heap.get? b=some o→h.get? b=some o)→h.get? a=none→s₀.heap.get? a=none:=fun{h a} hk e=>by
  cases c:s₀.heap.get? a with
  |none=>rfl
  |some o=>rw[hk _ _ c]at e;contradiction
 have a0:s₀.heap.get? s.heap.objs.size=none:=new bk (bb _);have b6:s.heap.objs.size≠env.locals:=Dl f.call.ns.lt;have f1:=f.go (t:=s.toks) (h':=s.heap.push { cls:=.type "list",data:=.seq ([]:List Value).toArray }) fun b o e=>mc _ e;have ch:IsL (s.heap.push { cls:=.type "list",data:=.seq ([]:List Value).toArray }) s.heap.objs.size #[]:=⟨0,rh _ rfl⟩
 generalize s.heap.objs.size=lp at *;generalize (s.heap.push { cls:=.type "list",data:=.seq ([]:List Value).toArray })=H1 at *;refine f1.putS rfl fun s2 f2 ci=>?_;have bx:IsL s2.heap lp #[]:=IsL.mv ch fun _ e=>ci.extBut _ _ b6 e;clear f1 ch ci f0;have a8:∀b o,s₀.heap.get? b=some o→s2.heap.get? b=some o:=f2.call.keep;obtain c0:s2.heap.get? am=some (cM #[]):=a8 _ _ H;obtain ag:lp≠am:=fun e=>by rw[e,H]at a0;contradiction
 refine csA ?_ (by rfl);refine il (f2.glob G rfl X.I.hC ?_);refine aC (id X.k.CA.obj) fun nm qq N bs sn sub col dd k0 k1 k2 k3 k5 hC hn=>?_;refine cwC (nm:=nm) (q:=qq) (N:=N) (bs:=bs) (bm:=[.type "object"]) (hdct:=true) (sn:=sn) (sub:=sub) (ab:=false) (col:=col) (dd:=dd) (k0:=k0) (k1:=k1) (k2:=k2) (k3:=k3) (k5:=k5) (newId:="object.__new__") ?_;refine il (f2.name rfl ar ?_);refine wb3 (Dx ?_);refine jy bx ?_;refine il (Fm (nb ?_));have f3:=f2.go (t:=s2.toks+1) (h':=s2.heap.push (aN "list.append" (.ref lp))) fun b o e=>mc _ e;have P2:∀b o,s2.heap.get? b=some o→(s2.heap.push (aN "list.append" (.ref lp))).get? b=some o:=fun b o e=>mc _ e;have c1:(s2.heap.push (aN "list.append" (.ref lp))).get? s2.heap.objs.size=some (aN "list.append" (.ref lp)):=rh _ rfl;have b7:s2.heap.get? s2.heap.objs.size=none:=bb _;generalize s2.heap.objs.size=aw at *;generalize (s2.heap.push (aN "list.append" (.ref lp)))=H3 at *;have O:∀b o,s₀.heap.get? b=some o→H3.get? b=some o:=fun b o e=>P2 _ _ (a8 _ _ e);have c2:Mine.Lake.Keeps B H3:=fun a o e=>O _ _ (f.base _ _ e);refine⟨c2 _ _ hC,?_⟩
 obtain c3:aw≠lp:=fun e=>by
  refine xE bx fun q e1=>?_;rw[e,e1]at b7;contradiction
 obtain al:aw≠am:=fun e=>by rw[e,c0]at b7;contradiction
 obtain b1:A.depth+2<Ed:=by have:=V.2.1;lia -abstractProof
 refine qK (s:={ s2 with heap:=H3,toks:=s2.toks+1 }) X.k.CA X.I V.1 b1 c2 fg X.qual (IsL.mv bx fun _ e=>P2 _ _ e) ⟨_,c1⟩ ⟨c3,al⟩ ag ⟨#[],O _ _ H,.inl rfl⟩ fun K s4 e1 e2 e3 e4 g4 Z W4=>?_;obtain c4:∀b o,s₀.heap.get? b=some o→s4.heap.get? b=some o:=fun b o e=>g4.keep _ _ (O _ _ e)
 have a9:∀a∈K.own,H3.get? a=none∨a=lp∨a=am:=fun a ha=>
  WK.each (P:=fun a=>H3.get? a=none∨a=lp∨a=am) ha (.inl (Z _ (.head _))) (.inl (Z _ (.tail _ (.head _)))) (.inl (Z _ (.tail _ (.tail _ (.head _))))) (.inl (Z _ (.tail _ (.tail _ (.tail _ (.head _)))))) (.inl (Z _ (.tail _ (.tail _ (.tail _ (.tail _ (.head _))))))) (.inl (Z _ (.tail _ (.tail _ (.tail _ (.tail _ (.tail _ (.head _)))))))) (.inr (.inl e1)) (.inr (.inr rfl))
 have hO:∀a∈K.own,B.base a=none:=fun a ha=>by
  cases c:B.base a with
  |none=>rfl
  |some o=>
   rcases a9 a ha with h|h|h
   ·rw[c2 _ _ c]at h;contradiction
   ·have:=f.base _ _ c;rw[h,a0]at this;contradiction
   ·rw[h,cc]at c;contradiction
 have d3:env.locals∉K.own:=fun ha=>by
  refine bq f3.call.ns fun oL J J hL J=>?_;rcases a9 env.locals ha with h|h|h
  ·rw[hL]at h;contradiction
  ·exact b6 h.symm
  ·have h1:=rl H;rw[←h]at h1;exact DF _ (De h1 f3.call.fresh)
 have hS:∀a,s₀.heap.get? a≠none→a≠am→a∉K.own:=fun a h1 h2 ha=>by
  rcases a9 a ha with h|h|h
  ·exact h1 (new O h)
  ·rw[h]at h1;exact h1 a0
  ·exact h2 h
 have F4:Fo (aa (ac 20)).scope B env K.own s₀ (upd m "parts" (.ref lp)) s4:=by
  refine⟨f3.call.ns.keeps g4.keep,?_,fun b o J e=>c4 _ _ e,f3.call.fresh,f3.scp,f3.gl,f3.bu,f.base,f3.fn,f3.nc,hO⟩;refine xEE f3.call.same fun h' tk e=>?_;have:Same s₀ ({ s2 with heap:=H3,toks:=s2.toks+1 }:Shared):=by refine(ir e)▸?_;exact yAA rfl rfl id
  exact this.trans g4.same
 clear f3 f2;refine F4.putS rfl fun s5 f5 d4=>?_;have W5:WI C K σ0 s5.heap:=W4.put F4.ns d3 d4
 obtain d5:WrAt K s5.heap:=by
  refine xEA W4.wr fun d6 r1 r2=>?_;rw[e2]at r1;injection r1 with r1;subst r1;refine dY aw e2 r2 (d4.extBut _ _ (fun q=>?_) (by refine(ir e1)▸?_;exact g4.keep _ _ c1));refine bg F4.ns fun oL J J hL hd J=>?_;have h1:=g4.keep _ _ c1;rw[q]at h1;rw[hL]at h1;injection h1 with h1;subst h1;contradiction
 refine DL ?_;refine I0 ?_ (fun J=>rfl);refine il (f5.glob G rfl X.range ?_);refine ct1 (Dj ?_);refine Lk ?_;refine Jo (IsRange.new ..) (by rfl) ?_;have d7:∀b o,s5.heap.get? b=some o→(s5.heap.push { cls:=.type "range",data:=.fields #[Dm 0 (s5.toks+1),.int 10 s5.toks,.int 1 (s5.toks+1+1)] }).get? b=some o:=fun b o e=>mc _ e;have dv:(s5.heap.push { cls:=.type "range",data:=.fields #[Dm 0 (s5.toks+1),.int 10 s5.toks,.int 1 (s5.toks+1+1)] }).objs.size=s5.heap.objs.size+1:=Eh ..;generalize s5.heap.push { cls:=.type "range",data:=.fields #[Dm 0 (s5.toks+1),.int 10 s5.toks,.int 1 (s5.toks+1+1)] }=h6 at d7 dv⊢;have e0:(h6.push { cls:=.type "range_iterator",data:=.fields #[DE 0,DE (Ee 0 10 1),DE 1] }).get? h6.objs.size=some { cls:=.type "range_iterator",data:=.fields #[DE 0,DE (Ee 0 10 1),DE 1] }:=rh _ rfl;have b2:∀b o,s5.heap.get? b=some o→(h6.push { cls:=.type "range_iterator",data:=.fields #[DE 0,DE (Ee 0 10 1),DE 1] }).get? b=some o:=fun b o e=>mc _ (d7 b o e);have b3:s5.heap.get? h6.objs.size=none:=GB (by refine(ir dv)▸?_;exact Nat.le_succ _);generalize h6.objs.size=I at *;generalize h6.push { cls:=.type "range_iterator",data:=.fields #[DE 0,DE (Ee 0 10 1),DE 1] }=H7 at e0 b2⊢;obtain c5:∀b o,b∉K.own→s₀.heap.get? b=some o→s5.heap.get? b=some o:=f5.keep;obtain f7:=f5.go (t:=s5.toks+1+1+1) b2
 obtain ef:s₀.heap.get? I=none:=by
  cases c:s₀.heap.get? I with
  |none=>rfl
  |some o=>
   by_cases hm:I∈K.own
   ·refine xE (W5.live I hm) fun o' c6=>?_;rw[b3]at c6;contradiction
   ·rw[c5 _ _ hm c]at b3;contradiction
 obtain eg:I≠env.locals:=fun e=>by
  refine bq f5.ns fun oL J J hL J=>?_;rw[←e,b3]at hL;contradiction
 obtain eh:I∉K.own:=fun hm=>by refine xE (W5.live I hm) fun o' c6=>?_;rw[b3]at c6;contradiction
 obtain ei:Lt∉K.own∧Lx∉K.own:=by
  refine aQ (id hT) fun o1 h1 d1 J=>?_;refine aQ (id hX) fun o2 h2 d2 J=>?_;have nl:∀{a:Addr} {o:Obj},s₀.heap.get? a=some o→o.cls=.type "list"→a≠am:=fun h d q=>by rw[q,H]at h;injection h with h;subst h;contradiction
  exact⟨hS _ (by refine(ir h1)▸?_;simp) (nl h1 d1),hS _ (by refine(ir h2)▸?_;simp) (nl h2 d2)⟩
 refine yw (n:=n) (K:=K) (Lt:=Lt) (Lx:=Lx) (total:=total) X hO V e4 e3 d3 hT hX ei eb ec c7 b5 ca ef eg eh ⟨_,σ0,0,f7,W5.to fun b o J e=>b2 b o e,?_,ah (by decide) (ah (by decide) e7),ah (by decide) (ah (by decide) ea),ar,?_,e0,⟨ee,rfl,rfl,rfl,.inl ⟨rfl,rfl⟩,⟨b5,ca⟩,by decide,by decide,?_⟩,by decide⟩ fun s8 m8 b4 f8 W8 ej be e5=>?_
 ·refine aQ d5 fun d6 r1 r2 r3=>?_;exact dY d6 r1 r2 (b2 _ _ r3)
 ·refine(ir e1)▸?_;exact ah (by decide) ar
 ·show[]++([]++gr zs xs)=total;trivial
 refine csR ?_;refine Dk rfl rfl rfl ?_;refine Ds ?_;refine lJ F.slot_str_join F.type_str_join ?_;obtain f9:=f8.tok (t:=s8.toks+1);refine cw1 (f9.name rfl ej ?_);refine xEA W8.parts fun us eo e6=>?_
 obtain er:StrsAre us.toArray.toList b4.parts:=by
  refine(ir IH)▸?_;exact jA e6
 refine join_listW (s:={ s8 with toks:=s8.toks+1 }) eo.isList er (by show 0≤16;lia -abstractProof) ?_ fun t' k'=>?_
 ·obtain h1:(b4.parts.map (·.length)).sum=total.length:=by
   refine be▸(ir List.length_flatMap)▸?_;rfl
  exact Cm cb e5 h1
 ·obtain e9:KL (t5 "") b4.parts=⟨total.toArray⟩:=jz (by
   show cl (KL DA b4.parts)=total.toArray.toList;rw[yt,be,IH])
  refine(ir e9)▸?_;refine q { s8 with toks:=k' } t' (f8.same.trans ⟨rfl,rfl,id⟩) (fun b o hb e=>f8.keep _ _ (hS b (by refine(ir e)▸?_;simp) hb) e) ?_;refine xEA W8.tab fun ps et J=>?_;exact⟨ps,et⟩
end
section
variable {prog:C9}{w:World}{A:Dq}{E:Value→Shared→Prop}{s s₀:Shared}{B:Fix}{C:Addr}{mN:Str→Option Value}{n:Nat}{θ:Th}
set_option backward.match.sparseCases true in
theorem mj {G:Glob B}(X:Wk prog w B G C mN){a:Addr}(F:aY B a (aD (ac 20)) (aa (ac 20)).body (aa (ac 20)).scope .none)(H:Room (n+5) A)(hb:Mine.Lake.Keeps B s.heap){Lt Lx:Addr}{zs xs:List Str}{tg tx:Array Value}{total:List Nat}{Q:Value→Shared→Prop}
  (hT:s.heap.IsList Lt tg)(hX:s.heap.IsList Lx tx)(a8:All2 (fun z u=>∃t,u=Du z t) zs tg.toList)(a9:All2 (fun x v=>∃t,v=Du x t) xs tx.toList)
  (O:∀x∈xs,cr x)(V:zs.length=10)(ag:xs.length=9)(al:OkT 0 zs)(b1:gr zs xs=total)(Z:total.length≤1000000)(a0:s.heap.get? am=some (cM #[]))
  (q:∀s' t,Same s s'→(∀b o,b≠am→s.heap.get? b=some o→s'.heap.get? b=some o)→(∃ps,s'.heap.get? am=some (cM ps))→Q (.str ⟨total.toArray⟩ t) s'):wpAny (model prog w) A (call (.ref a) [.ref Lt,.ref Lx]) Q E s:=by
 refine bW G F hb (by have:=H.2.1;lia -abstractProof) (binds:=[("tags",.ref Lt),("texts",.ref Lx)]) (fun fd hp hd hkd=>?_) (by decide) (by intro x hx;rcases Da.mp hx with e|e;(rw[e];rfl);(rw[DD.mp e];rfl)) fun J s₁ E' f ht=>?_
 ·cases fd;dsimp only at hp hd hkd;subst hp hd hkd;exact FP (by rfl)
 ·exact mi (A:=A.deeper J) (n:=n) (Q:=fun fl s'=>Q (match fl with|.ret v=>v|_=>.none) s') X (Room.deeper H J) f rfl rfl hT hX a8 a9 O V ag al b1 Z a0 fun s' t h1 h2 h3=>q s' t h1 h2 h3
theorem qO {G:Glob B}(X:Wk prog w B G C mN)(b4:θ.Bd)(a9:∀k,cr (θ.str [.t k 0])∧cl (esc (θ.str [.t k 0]))=θ.tx k 1){a:Addr}(F:aY B a (aD (ac 20)) (aa (ac 20)).body (aa (ac 20)).scope .none):KcOk prog w θ B (n+5) (.ref a) ⟨iE⟩:=by
 intro A E Q sc env ρ st s vs us r st' R S ha e k;apply ax e;clear e;intro q H e;have H:=rW H;subst H;obtain⟨i,j⟩:=q;refine aE (two_args ha) fun u u' Z a0 b5=>?_;subst Z;refine xEA a0 fun Lt hi a0=>?_;subst a0;refine xEA b5 fun Lx hj Z=>?_;subst Z;apply bU e;clear e;intro V h1 e;apply bU e;clear e;intro a8 h2 e;apply bN e;clear e;intro h3 e;apply ax e;clear e;intro p h4 e;apply ax e;clear e;intro o3 h5 e
 cases o3 with
 |tab b=>
 apply bN e;clear e;intro hb e;subst hb;refine aL (S.list hi h1) fun tg m1 b6 r1=>?_;refine aL (S.list hj h2) fun tx m2 b7 r2=>?_;refine lH (S.h.obj 2 _ h5) fun a2 o2 p1 p2 ps be bk=>?_;subst be;have p3:=S.h.tab 2 _ h5;rw[p1]at p3;injection p3 with p3;subst p3;rw[bk rfl]at p2;refine aT h3 fun h6 h7=>?_;refine ek (tW a9 V a8 _ _ p 0 h4 h7 r1 r2) fun zs xs i1 i2 i3 i4 i5 i6=>?_;obtain bx:V.length=10:=nd h6;obtain ag:zs.length=10:=by rw[i1.length,←r1.length,bx]
 refine xAA (cN e) fun c4 c0 c1=>?_;subst c0;subst c1;obtain al:(θ.flat p).length≤1000000:=by have:=cn b4 p;lia -abstractProof
 refine mj (n:=n) X F R.1 S.keeps b6.isList b7.isList i1 i2 i6 ag (by lia -abstractProof) i4 i3.symm al p2 fun s' t hS hK b1=>?_;refine xE b1 fun qs b2=>?_;obtain O:am∈ρ:=C6 p1
 have alive:∀b,(s.heap.get? b).isSome=true→(s'.heap.get? b).isSome=true:=fun b hb=>by
  by_cases b3:b=am
  ·refine(ir b3)▸(ir b2)▸?_;rfl
  ·refine xE (Dv.mp hb) fun o ho=>?_;refine(ir (hK b o b3 ho))▸?_;rfl
 have K':Kp NoW ρ s ρ s':=⟨.refl _,hS,alive,fun b o hb J h=>.inl (hK b o (fun q=>hb (q▸O)) h),fun b h hn=>absurd h hn⟩
 obtain H':HRel θ ρ (st.put 2 (.tab false)).n (st.put 2 (.tab false)).hp s'.heap:=by
  refine⟨S.h.len,S.h.nodup,fun b hb=>alive b (S.h.live b hb),fun y v H=>?_,fun y b H=>?_⟩
  ·have H:(st.hp.set 12 2 (.tab false)).get y=some v:=H;rw[T2.get_set12 _ _ _ _ (by decide)]at H;by_cases hy:y=2
   ·subst hy;rw[if_pos rfl]at H;injection H with H;subst H;exact rT am _ p1 b2 qs rfl (fun h=>by contradiction)
   ·rw[if_neg hy]at H;refine aE (S.h.obj y v H) fun b o' hb c2 c3=>?_;exact bp b o' hb (hK b o' (fun q=>hy (dq S.h.nodup hb (q▸p1))) c2) c3
  ·have H:(st.hp.set 12 2 (.tab false)).get y=some (.tab b):=H;rw[T2.get_set12 _ _ _ _ (by decide)]at H;by_cases hy:y=2
   ·subst hy;exact p1
   ·rw[if_neg hy]at H;exact S.h.tab y b H
 exact k _ _ _ (S.after K' H' rfl) K' rfl ⟨t,rfl⟩
 |_=>contradiction
end
end
section
open PySem PySem.W PyProof.Rows
section
set_option maxHeartbeats 0
noncomputable def qv:C9:={ PySem.Challenge.pw_if0002_01 with main:={ PySem.Challenge.pw_if0002_01.main with body:=PySem.Challenge.pw_if0002_01.main.body.drop 28 } }
noncomputable def eE:List E8:=(PySem.Challenge.pw_if0002_01.boundNames.filter fun n=>n != (t5 "law"))
structure dA where
 a:Addr
 st:Stmt
 dflt:Value
 kwd:Value
 code:Addr
 q:Str
noncomputable def bc:List dA:=[⟨51,ac 4,.ref 44,.none,50,"_paren_depth"⟩,⟨58,ac 6,.none,.none,57,"_strip_exception_details"⟩,⟨181,ac 13,.none,.none,180,"_escape_cdata_c14n"⟩,⟨193,ac 16,.none,.none,192,"_law_cells"⟩,⟨200,ac 17,.none,.none,199,"_law_texts"⟩,
 ⟨207,ac 18,.none,.none,206,"_law_ends"⟩,⟨214,ac 19,.none,.none,213,"_law_tags"⟩,⟨221,ac 20,.none,.none,220,"_law_written"⟩,⟨228,ac 21,.none,.none,227,"_law_read"⟩,⟨235,ac 22,.none,.none,234,"_law_crossings"⟩,⟨242,ac 23,.none,.none,241,"_law_quoted"⟩,
 ⟨249,ac 24,.none,.none,248,"_law_line"⟩,⟨254,ac 25,.none,.none,253,"_law_others"⟩,⟨259,ac 26,.none,.none,258,"_law_line_of_sets"⟩,⟨264,ac 27,.none,.none,263,"_law_determinant"⟩,
 ⟨87,ak 0,.none,.ref 80,86,"C14NWriterTarget.__init__"⟩,⟨95,ak 1,.ref 88,.none,94,"C14NWriterTarget._iter_namespaces"⟩,⟨110,ak 3,.ref 103,.none,109,"C14NWriterTarget._qname"⟩,⟨117,ak 4,.none,.none,116,"C14NWriterTarget.data"⟩,⟨126,ak 5,.ref 119,.none,125,"C14NWriterTarget._flush"⟩,
 ⟨140,ak 7,.none,.none,139,"C14NWriterTarget.start"⟩,⟨146,ak 8,.ref 141,.none,145,"C14NWriterTarget._start"⟩,⟨153,ak 9,.none,.none,152,"C14NWriterTarget.end"⟩]
noncomputable def sf:List (Addr×Addr):=[(51,50),(58,57),(181,180),(193,192),(200,199),(207,206),(214,213),(221,220),(228,227),(235,234),(242,241),(249,248),(254,253),(259,258),(264,263),(87,86),(95,94),(110,109),(117,116),(126,125),(140,139),(146,145),(153,152)]
set_option backward.match.sparseCases true in
noncomputable def ml (o:Obj):Option (HS×FuncBody×Scope×Addr×List (Str×Addr)×Value×Value×Addr×Value×Str):=match o.data with
 |.func fd=>some (fd.params,fd.body,fd.scope,fd.globals,fd.closure,fd.defaults,fd.kwdefaults,fd.builtins,fd.code,fd.qualname)
 |_=>none
set_option backward.match.sparseCases true in
noncomputable def jB (o:Obj):Option Str:=match o.data with
 |.fields B=>match (B[1]?:Option Value)with
  |some (Du q _)=>some q
  |_=>none
 |_=>none
set_option backward.match.sparseCases true in
noncomputable def mn (o:Obj):Option (Value×List Value):=match o.data with
 |.seq B _=>some (o.cls,B.toList)
 |_=>none
set_option backward.match.sparseCases true in
noncomputable def og (o:Obj):Option (Value×Option Addr×Nat×List (Value×Value×Int)):=match o.data with
 |.dict es _=>some (o.cls,o.dict,o.slots.size,es.toList.map fun e=>(e.key,e.val,e.hash))
 |_=>none
noncomputable def eS:List (Str×Value):=[("_quoted",.ref 43),("_paren_depth",.ref 51),("_strip_exception_details",.ref 58),("_namespace_map",.ref 64),("C14NWriterTarget",.ref 170),("_escape_cdata_c14n",.ref 181),("_law_cells",.ref 193),("_law_texts",.ref 200),("_law_ends",.ref 207),("_law_tags",.ref 214),("_law_written",.ref 221),
 ("_law_read",.ref 228),("_law_crossings",.ref 235),("_law_quoted",.ref 242),("_law_line",.ref 249),("_law_others",.ref 254),("_law_line_of_sets",.ref 259),("_law_determinant",.ref 264)]
set_option backward.match.sparseCases true in
noncomputable def sg (o:Obj):Option (Value×Option Addr×Nat×Value×Nat):=match o.data with
 |.fields B=>some (o.cls,o.dict,G9 (B.getD 2 .none),B.getD 5 .none,G9 (B.getD 6 .none))
 |_=>none
noncomputable def cC0:List Nat:=[14,8,1,2,4294967295,1,1,34,0,16,34,28,22,0,4294967295,7,11,13,7,21,16,34,16,92,0,15,8,6,16,92,2,15,2,0,1,16,34,1]
set_option backward.match.sparseCases true in
noncomputable def iw:List (Str×Str):=match ac 9 with
 |.Assign _ (.Dict B G _) _=>(B.zip G).filterMap fun p=>match p with
  |(some (.Constant (.str k) _ _),.Constant (.str v) _ _)=>some (k,v)
  |_=>none
 |_=>[]
set_option backward.match.sparseCases true in
noncomputable def sh (o:Obj):Option (String×List Value×Addr×Bool×Bool×Bool×Nat×Option (Option Value)):=match o.cls with
 |.type t=>match o.data with
  |.cls c=>some (t,c.mro,c.ns,c.hasDict,c.abstract,c.hasDel,o.slots.size,o.slots[4]?)
  |_=>none
 |_=>none
set_option backward.match.sparseCases true in
noncomputable def mo (o:Obj):Option (Value×Option Addr×List Value×Nat):=match o.data with
 |.fields B=>some (o.cls,o.dict,B.toList,o.slots.size)
 |_=>none
set_option backward.match.sparseCases true in
noncomputable def wU (o:Obj):Option (Value×Option Value×Bool×Bool×Bool×Bool):=match o.data with
 |.fields B=>some (o.cls,B[11]?,(match B.getD 18 .none with|.str _ _=>true|_=>false),(match B.getD 7 .none with|.int _ _=>true|_=>false),(match B.getD 9 .none with|.bool _=>true|_=>false),(match B.getD 10 .none with|.int _ _=>true|_=>false))
 |_=>none
noncomputable def yx:List (Str×Option Value):=([("__init__",some (.ref 87)),("_iter_namespaces",some (.ref 95)),("_qname",some (.ref 110)),("data",some (.ref 117)),("_flush",some (.ref 126)),("start",some (.ref 140)),("_start",some (.ref 146)),("end",some (.ref 153)),
 ("__getattribute__",none),("__getattr__",none),("__setattr__",none)]:List (Str×Option Value))++aI.map fun n=>(n,none)
noncomputable def AA:List (Str×Option Value):=[("with_comments",some (.bool false)),("strip_text",some (.bool false)),("rewrite_prefixes",some (.bool false)),("qname_aware_tags",some .none),("qname_aware_attrs",some .none),("exclude_attrs",some .none),("exclude_tags",some .none)]
noncomputable def Zf (s:Shared):=((s.heap.get? 170).map sh,yx.map fun r=>s.heap.nsMap 169 r.1,AA.map fun r=>s.heap.nsMap 80 r.1,(s.heap.isNs 169,s.heap.isNs 80),(s.heap.get? 118).map mo,(s.heap.get? 143).map mo,(s.heap.get? 145).map wU,
 sf.map fun r=>(s.heap.get? r.1).map fun o=>o.cls,s.heap.isNs EE,sf.map fun r=>(s.heap.get? r.2).map fun o=>o.cls)
noncomputable def Za:=((some (some ("type",[.ref 170,.type "object"],169,true,false,false,6,some (some (.builtin "object.__new__")))):Option (Option (String×List Value×Addr×Bool×Bool×Bool×Nat×Option (Option Value)))),yx.map fun r=>r.2,AA.map fun r=>r.2,(true,true),
 (some (some (.type "builtin_function_or_method",none,[.builtin "str.join",.str DA 504],0)):Option (Option (Value×Option Addr×List Value×Nat))),(some (some (.none,none,[],0)):Option (Option (Value×Option Addr×List Value×Nat))),
 (some (some (.type "code",some (.ref 143),true,true,true,true)):Option (Option (Value×Option Value×Bool×Bool×Bool×Bool))),bc.map fun J=>(some (.type "function"):Option Value),true,bc.map fun J=>(some (.type "code"):Option Value))
noncomputable def Yf (s:Shared):=(Zf s,sf.map fun r=>(s.heap.get? r.1).map ml,sf.map fun r=>(s.heap.get? r.2).map jB,eS.map fun r=>s.heap.nsMap Fp r.1,
 [44,88,103,119,141,42].map fun a=>(s.heap.get? a).map mn,(s.heap.get? 43).map sg,(s.heap.get? 64).map og)
noncomputable def Ya (w:World):=(Za,bc.map fun r=>some (some (aD r.st,Ig (aa r.st).body,(aa r.st).scope,Fp,([]:List (Str×Addr)),r.dflt,r.kwd,FO,D7 r.code,r.q)),bc.map fun r=>some (some r.q),eS.map fun r=>some r.2,
 ([some (some (.type "tuple",[.int 0 335])),some (some (.type "tuple",[.type "reversed"])),some (some (.type "tuple",[.none])),some (some (.type "tuple",[.ref 118])),some (some (.type "tuple",[.none])),some (some (.type "tuple",cC0.map fun(n:Nat)=>DE n))]:List (Option (Option (Value×List Value)))),
 (some (some (.type "re.Pattern",none,0,.ref 42,1)):Option (Option (Value×Option Addr×Nat×Value×Nat))),
 (some (some (.type "dict",none,0,iw.zipIdx.map fun p=>(Du p.1.1 (396+2*p.2),Du p.1.2 (397+2*p.2),hashStr w p.1.1))):Option (Option (Value×Option Addr×Nat×List (Value×Value×Int)))))
noncomputable def lhsP (p q:C9) (L:List E8) (R:WRecords) (w:World):=(openEnds treeTable p w 3300).map (fun s=>(openSeen q L (importedModules p.main.body) (fun s=>xlAt q [] s&&recOk R s) true s,Yf s))
lay_quick Mine.Lake.lhsP
noncomputable abbrev rcs:=RowW.records (PySem.Challenge.rw_if0002_01.row.toRowW)
noncomputable abbrev wV (w:World):=lhsP PySem.Challenge.pw_if0002_01 qv eE rcs w
theorem AB (w:World):wV (w.withFollow "special-get-raises" false)=some (openGood qv eE,Ya w):=by
 unfold wV;rw[PySem.W.Fast.te5291632494288719981]
 kernel_rfl
theorem AC (w:World):wV (w.withFollow "special-get-raises" true)=some (openGood qv eE,Ya w):=by
 unfold wV;rw[PySem.W.Fast.te5291632494288719981]
 kernel_rfl
theorem BH:LeftO PySem.Challenge.pw_if0002_01 qv eE (fun s=>xlAt qv [] s&&recOk rcs s) Yf Ya 3300:=
 byRow2 "special-get-raises" (P:=fun w=>wV w=some (openGood qv eE,Ya w)) AB AC
end
end
section
open PySem PySem.W PyProof.Rows PySem.Builtin
noncomputable def ObjAt (h:Heap) (a:Addr) (P:Obj→Prop):Prop:=∃o,h.get? a=some o∧P o
theorem ObjAt.keep {h h':Heap}(k:∀(b:Addr) (o:Obj),h.get? b=some o→h'.get? b=some o){a:Addr}{P:Obj→Prop}(e:ObjAt h a P):ObjAt h' a P:=DO (fun _ z=>⟨k _ _ z.1,z.2⟩) e
theorem ObjAt.of {α:Type}{h:Heap}{a:Addr}{f:Obj→Option α}{x:α}{P:Obj→Prop}(e:(h.get? a).map f=some (some x))(k:∀o,f o=some x→P o):ObjAt h a P:=DO (fun o z=>⟨z.1,k o z.2⟩) (EY.mp e)
noncomputable def FnV (r:dA) (fd:Fx):Prop:=(fd.params,fd.body,fd.scope,fd.globals,fd.closure,fd.defaults,fd.kwdefaults,fd.builtins,fd.code,fd.qualname)=(aD r.st,Ig (aa r.st).body,(aa r.st).scope,Fp,([]:List (Str×Addr)),r.dflt,r.kwd,FO,D7 r.code,r.q)
section
variable {r:dA}{fd:Fx}(v:FnV r fd)
include v
theorem FnV.ps:fd.params=aD r.st:=congrArg (·.1) v
theorem FnV.bd:fd.body=.stmts (aa r.st).body:=congrArg (·.2.1) v
theorem FnV.sc:fd.scope=(aa r.st).scope:=congrArg (·.2.2.1) v
theorem FnV.gl:fd.globals=Fp:=congrArg (·.2.2.2.1) v
theorem FnV.cl:fd.closure=[]:=congrArg (·.2.2.2.2.1) v
theorem FnV.df:fd.defaults=r.dflt:=congrArg (·.2.2.2.2.2.1) v
theorem FnV.kd:fd.kwdefaults=r.kwd:=congrArg (·.2.2.2.2.2.2.1) v
theorem FnV.bu:fd.builtins=FO:=congrArg (·.2.2.2.2.2.2.2.1) v
theorem FnV.co:fd.code=.ref r.code:=congrArg (·.2.2.2.2.2.2.2.2.1) v
theorem FnV.qn:fd.qualname=r.q:=congrArg (·.2.2.2.2.2.2.2.2.2) v
end
noncomputable def FnP (r:dA) (o:Obj):Prop:=o.cls=.type "function"∧∃fd,o.data=.func fd∧FnV r fd
noncomputable def CdP (q:Str) (o:Obj):Prop:=o.cls=.type "code"∧∃B t,o.data=.fields B∧B[1]?=some (.str q t)
noncomputable def BI (o:Obj):Prop:=o.cls=.type "re.Pattern"∧o.dict=none∧∃B,o.data=.fields B∧G9 (B.getD 2 .none)=0∧B.getD 5 .none=.ref 42∧G9 (B.getD 6 .none)=1
noncomputable def BJ (w:World) (o:Obj):Prop:=o.ExactDict∧∃es ep,o.data=.dict es ep∧es.toList.map (fun e=>(e.key,e.val,e.hash))=iw.zipIdx.map fun p=>(Du p.1.1 (396+2*p.2),Du p.1.2 (397+2*p.2),hashStr w p.1.1)
noncomputable def BK (o:Obj):Prop:=∃nm q bs sn sub col dd k0 k1 k2 k3 k5,o=IW nm q 170 169 bs [.type "object"] true sn sub false col dd k0 k1 k2 k3 k5 "object.__new__"
noncomputable def HdO (o:Obj):Prop:=o.cls=.type "code"∧∃B,o.data=.fields B∧B[11]?=some (.ref 143)∧(∃x t,B.getD 18 .none=.str x t)∧(∃x t,B.getD 7 .none=.int x t)∧(∃b,B.getD 9 .none=.bool b)∧∃x t,B.getD 10 .none=.int x t
structure YP (w:World)(h:Heap):Prop where
 fns:∀r∈bc,ObjAt h r.a (FnP r)∧ObjAt h r.code (CdP r.q)
 names:∀r∈eS,h.nsMap Fp r.1=some r.2
 t44:∃o q,h.get? 44=some o∧o.cls=.type "tuple"∧o.data=.seq #[.int 0 335] q
 t88:∃o q,h.get? 88=some o∧o.cls=.type "tuple"∧o.data=.seq #[.type "reversed"] q
 t103:∃o q,h.get? 103=some o∧o.cls=.type "tuple"∧o.data=.seq #[.none] q
 t119:∃o q,h.get? 119=some o∧o.cls=.type "tuple"∧o.data=.seq #[.ref 118] q
 t141:∃o q,h.get? 141=some o∧o.cls=.type "tuple"∧o.data=.seq #[.none] q
 t42:∃o q,h.get? 42=some o∧o.cls=.type "tuple"∧o.data=.seq (cC0.map fun(n:Nat)=>DE n).toArray q
 pat:ObjAt h 43 BI
 d64:ObjAt h 64 (BJ w)
 cls:ObjAt h 170 BK
 ns:h.isNs 169=true∧∀r∈yx,h.nsMap 169 r.1=r.2
 kw:h.isNs 80=true∧∀r∈AA,h.nsMap 80 r.1=r.2
 bj:h.get? 118=some (aN "str.join" (.str DA 504))
 tab:h.get? am=some (cM #[])
 cd:ObjAt h 145 HdO
 sys:h.isNs EE=true
theorem ce {α β:Type}{f g:α→β}{l:List α}(h:l.map f=l.map g):∀a∈l,f a=g a:=List.map_inj_left.mp h
section
variable {o:Obj}
theorem yz {r:dA}(e:ml o=some (aD r.st,Ig (aa r.st).body,(aa r.st).scope,Fp,([]:List (Str×Addr)),r.dflt,r.kwd,FO,D7 r.code,r.q)):∃fd,o.data=.func fd∧FnV r fd:=by
 cases o with|mk c d data B=>
 cases data with
 |func fd=>exact⟨fd,rfl,Dd e⟩
 |_=>exact(Ez _ e.symm).elim
theorem yA {c:Value}{xs:List Value}(e:mn o=some (c,xs)):∃q,o.cls=c∧o.data=.seq xs.toArray q:=by
 cases o with|mk B d data G=>
 cases data with
 |seq H q=>have e:=Dd e;exact⟨q,congrArg (·.1) e,congrArg (Data.seq · q) (congrArg (fun z=>z.2.toArray) e)⟩
 |_=>exact(Ez _ e.symm).elim
set_option backward.match.sparseCases true in
theorem wW {ov:Option Value}{q:Str}(e:(match ov with|some (Du q _)=>some q|_=>none)=some q):∃t,ov=some (.str q t):=by
 cases ov with
 |none=>contradiction
 |some v=>
  cases v with
  |str a t=>exact⟨t,congrArg (fun z=>some (Du z t)) (Dd e)⟩
  |_=>contradiction
set_option backward.match.sparseCases true in
theorem yB {v:Value}(e:(match v with|.str _ _=>true|_=>false)=true):∃x t,v=.str x t:=by
 cases v with
 |str a t=>exact⟨a,t,rfl⟩
 |_=>contradiction
set_option backward.match.sparseCases true in
theorem si {v:Value}(e:(match v with|.int _ _=>true|_=>false)=true):∃x t,v=.int x t:=by
 cases v with
 |int a t=>exact⟨a,t,rfl⟩
 |_=>contradiction
set_option backward.match.sparseCases true in
theorem yC {v:Value}(e:(match v with|.bool _=>true|_=>false)=true):∃b,v=.bool b:=by
 cases v with
 |bool b=>exact⟨b,rfl⟩
 |_=>contradiction
theorem wX {q:Str}(e:jB o=some q):∃B t,o.data=.fields B∧B[1]?=some (.str q t):=by
 cases o with|mk c d data G=>
 cases data with
 |fields B=>exact Gp (wW (ov:=B[1]?) e) fun t z=>⟨B,t,rfl,z⟩
 |_=>exact(Ez _ e.symm).elim
theorem yD (e:sg o=some (.type "re.Pattern",none,0,.ref 42,1)):BI o:=by
 cases o with|mk c d data G=>
 cases data with
 |fields B=>have e:=Dd e;exact⟨congrArg (·.1) e,congrArg (·.2.1) e,B,rfl,congrArg (·.2.2.1) e,congrArg (·.2.2.2.1) e,congrArg (·.2.2.2.2) e⟩
 |_=>exact(Ez _ e.symm).elim
theorem wY {w:World}(e:og o=some (.type "dict",none,0,iw.zipIdx.map fun p=>(Du p.1.1 (396+2*p.2),Du p.1.2 (397+2*p.2),hashStr w p.1.1))):BJ w o:=by
 cases o with|mk c d data B=>
 cases data with
 |dict es ep=>have e:=Dd e;exact⟨⟨congrArg (·.1) e,congrArg (·.2.1) e,Jl (congrArg (·.2.2.1) e)⟩,es,ep,rfl,congrArg (·.2.2.2) e⟩
 |_=>exact(Ez _ e.symm).elim
theorem AD (e:wU o=some (.type "code",some (.ref 143),true,true,true,true)):HdO o:=by
 cases o with|mk c d data G=>
 cases data with
 |fields B=>have e:=Dd e;exact⟨congrArg (·.1) e,B,rfl,congrArg (·.2.1) e,yB (congrArg (·.2.2.1) e),si (congrArg (·.2.2.2.1) e),yC (congrArg (·.2.2.2.2.1) e),si (congrArg (·.2.2.2.2.2) e)⟩
 |_=>exact(Ez _ e.symm).elim
theorem AE {c:Value}{d:Option Addr}{l:List Value}(e:mo o=some (c,d,l,0)):o=⟨c,d,.fields l.toArray, #[]⟩:=by
 cases o with|mk c d data B=>
 cases data with
 |fields G=>
  have e:=Dd e;have e1:c=_:=congrArg (·.1) e;have e2:d=_:=congrArg (·.2.1) e;have e3:G=_:=congrArg (fun z=>z.2.2.1.toArray) e;have H:B= #[]:=Jl (congrArg (·.2.2.2) e);rw[e1,e2,e3,H]
 |_=>exact(Ez _ e.symm).elim
theorem yE (e:sh o=some ("type",[.ref 170,.type "object"],169,true,false,false,6,some (some (.builtin "object.__new__")))):BK o:=by
 cases o with|mk oc od data B=>
 cases oc with
 |type t=>
  cases data with
  |cls c=>
   have e:=Dd e;simp only[Prod.mk.injEq]at e;refine ve e fun v1 H J O V Z v7 G=>?_;cases c;cases B;dsimp only at H J O V Z;subst v1 H J O V Z;refine l6 v7 fun s0 s1 s2 s3 s4 s5 el=>?_;clear e v7;subst el;have G:s4=some (.builtin "object.__new__"):=Dd G;subst G;exact jO _ _ _ _ _ _ _ _ _ _ _ _ rfl
  |_=>exact(Ez _ e.symm).elim
 |_=>exact(Ez _ e.symm).elim
end
theorem gu {h:Heap}{a:Addr}{c:Value}{xs:List Value}(e:(h.get? a).map mn=some (some (c,xs))):∃o q,h.get? a=some o∧o.cls=c∧o.data=.seq xs.toArray q:=
 xEA (EY.mp e) fun o B G=>Gp (yA G) fun q z=>⟨o,q,B,z⟩
theorem CZ {α β:Type}{f:α→β}{a b c d e g:α}{x1 x2 x3 x4 x5 x6:β}(h:[a,b,c,d,e,g].map f=[x1,x2,x3,x4,x5,x6]):f a=x1∧f b=x2∧f c=x3∧f d=x4∧f e=x5∧f g=x6:=by simpa using h
theorem AF {h:Heap}(e1:(bc.map fun r=>(h.get? r.a).map ml)=bc.map fun r=>some (some (aD r.st,Ig (aa r.st).body,(aa r.st).scope,Fp,([]:List (Str×Addr)),r.dflt,r.kwd,FO,D7 r.code,r.q)))(e2:(bc.map fun r=>(h.get? r.a).map Ik)=bc.map fun _=>some (.type "function"))(r:dA)(B:r∈bc):ObjAt h r.a (FnP r):=
 xEA (EY.mp (ce e1 r B)) fun o G H=>⟨o,G,Dd ((congrArg (Option.map Ik) G).symm.trans (ce e2 r B)),yz H⟩
theorem yF {h:Heap}(e1:(bc.map fun r=>(h.get? r.code).map jB)=bc.map fun r=>some (some r.q))(e2:(bc.map fun r=>(h.get? r.code).map Ik)=bc.map fun _=>some (.type "code"))(r:dA)(B:r∈bc):ObjAt h r.code (CdP r.q):=
 xEA (EY.mp (ce e1 r B)) fun o G H=>⟨o,G,Dd ((congrArg (Option.map Ik) G).symm.trans (ce e2 r B)),wX H⟩
theorem zw {h:Heap}{a:Addr}{c:Value}{d:Option Addr}{l:List Value}(e:(h.get? a).map mo=some (some (c,d,l,0))):h.get? a=some ⟨c,d,.fields l.toArray, #[]⟩:=
 xEA (EY.mp e) fun o B G=>B.trans (congrArg some (AE G))
theorem BL (w:World)(s:Shared)(e:Yf s=Ya w):YP w s.heap:=
 have hz:Zf s=Za:=congrArg (·.1) e;have q:=CZ (congrArg (·.2.2.2.2.1) e)
 ⟨fun r B=>⟨AF (congrArg (·.2.1) e) (congrArg (·.2.2.2.2.2.2.2.1) hz) r B,yF (congrArg (·.2.2.1) e) (congrArg (·.2.2.2.2.2.2.2.2.2) hz) r B⟩,
  ce (congrArg (·.2.2.2.1) e),gu q.1,gu q.2.1,gu q.2.2.1,gu q.2.2.2.1,gu q.2.2.2.2.1,gu q.2.2.2.2.2,
  .of (congrArg (·.2.2.2.2.2.1) e) fun _=>yD,.of (congrArg (·.2.2.2.2.2.2) e) fun _=>wY,.of (congrArg (·.1) hz) fun _=>yE,
  ⟨congrArg (·.2.2.2.1.1) hz,ce (congrArg (·.2.1) hz)⟩,⟨congrArg (·.2.2.2.1.2) hz,ce (congrArg (·.2.2.1) hz)⟩,
  zw (congrArg (·.2.2.2.2.1) hz),zw (congrArg (·.2.2.2.2.2.1) hz),.of (congrArg (·.2.2.2.2.2.2.1) hz) fun _=>AD,congrArg (·.2.2.2.2.2.2.2.2.1) hz⟩
set_option backward.match.sparseCases true in
noncomputable def de (o:Obj):Bool:=match o.data with
 |.fields _=>(match o.cls with|.none=>true|_=>false)
 |_=>false
structure Gd (h:Heap)(mg mb:Str→Option Value):Prop where
 g:h.Ns Fp mg
 b:h.Ns FO mb
 lim:h.NoLimit
 builtins:∀x:Str,x≠"__name__"→mb x=bootBuiltins x
 bmain:∃bm ob,mg "__builtins__"=some (.ref bm)∧bm≠FO∧h.get? bm=some ob∧ob.cls=.type "module"∧ob.dict=some FO∧ob.data=.plain
 free:∀x∈(["len","sum","list","range","zip","set","sorted","enumerate","chr"]:List Str),mg x=none
noncomputable def jC (h:Heap) (a:Addr):Option Obj:=match h.get? a with
 |some o=>match de o with
  |true=>none
  |false=>some o
 |none=>none
theorem iz {h:Heap}{a:Addr}{o:Obj}(e:jC h a=some o):h.get? a=some o∧de o=false:=by
 unfold jC at e
 cases h1:h.get? a with
 |none=>rw[h1]at e;contradiction
 |some B=>
  rw[h1]at e;dsimp only at e
  cases h2:de B with
  |true=>rw[h2]at e;contradiction
  |false=>rw[h2]at e;injection e with e;subst e;exact⟨rfl,h2⟩
theorem bD {h:Heap}{a:Addr}{o:Obj}(e:h.get? a=some o)(t:de o=false):jC h a=some o:=by
 unfold jC;rw[e];dsimp only;rw[t]
noncomputable def mkB (h:Heap):Fix:={ base:=jC h,nt:=fun a o e ps q=>(by have:=(iz e).2;rw[q]at this;contradiction),g:=Fp,b:=FO }
theorem jD {o:Obj}{es:Array DictEntry}{ep:Nat}(h:o.data=.dict es ep):de o=false:=by unfold de;rw[h]
theorem yG {o:Obj}{es:Array Value}{ep:Nat}(h:o.data=.seq es ep):de o=false:=by unfold de;rw[h]
theorem wZ {o:Obj}{fd:Fx}(h:o.data=.func fd):de o=false:=by unfold de;rw[h]
theorem tX {o:Obj}(h:o.data=.plain):de o=false:=by unfold de;rw[h]
theorem fT {o:Obj}{T:String}(h:o.cls=.type T):de o=false:=by unfold de;refine(ir h)▸?_;split<;>rfl
section
variable {h:Heap}{mg mb:Str→Option Value}
theorem fU {a:Addr}{m:Str→Option Value}(x:h.Ns a m){h':Heap}(k:Mine.Lake.Keeps (mkB h) h'):h'.Ns a m:=by
 refine bg x fun o es ep e d r=>?_;exact vb o es ep (k _ _ (bD e (jD d))) d r
noncomputable def mkG (D:Gd h mg mb):Glob (mkB h) where
 gm:=mg
 bm:=mb
 look:=fun h' k=>⟨fU D.g k,fU D.b k,let ⟨B,c,e⟩:=D.lim;⟨B,fU c k,e⟩⟩
theorem qP:Mine.Lake.Keeps (mkB h) h:=fun a o e=>(iz e).1
variable {w:World}(D:Gd h mg mb)(Y:YP w h)
include D Y
theorem ba {x:Str}{v:Value}(B:(x,v)∈eS):(mkG D).val x=some v:=by
 have h1:=Y.names _ B;rw[←D.g.eq_nsMap]at h1;show(match mg x with|some v=>some v|none=>mb x)=some v;rw[show mg x=some v from h1]
omit Y in
theorem bf {x:Str}{v:Value}(B:x∈(["len","sum","list","range","zip","set","sorted","enumerate","chr"]:List Str))(G:bootBuiltins x=some v)(hn:x≠"__name__"):(mkG D).val x=some v:=by
 show(match mg x with|some v=>some v|none=>mb x)=some v;rw[D.free x B,D.builtins x hn,G]
omit D Y in
noncomputable def FnB (h:Heap) (r:dA) (o:Obj) (fd:Fx):Prop:=(mkB h).base r.a=some o∧o.cls=.type "function"∧o.data=.func fd∧FnV r fd∧∀h',Mine.Lake.Keeps (mkB h) h'→h'.CodeRec fd.code fd.qualname
omit D in
theorem fnB {r:dA}(B:r∈bc):∃o fd,FnB h r o fd:=
 Gp (Y.fns r B).1 fun o z=>Gp z.2.2 fun fd y=>⟨o,fd,bD z.1 (wZ y.1),z.2.1,y.1,y.2,fun h' k=>Gp (Y.fns r B).2 fun G g=>aL g.2.2 fun H t J O=>⟨r.code,G,H,t,y.2.co,k _ _ (bD g.1 (fT g.2.1)),J,y.2.qn▸O⟩⟩
omit D in
theorem bY {r:dA}(B:r∈bc)(G:r.kwd=.none):aY (mkB h) r.a (aD r.st) (aa r.st).body (aa r.st).scope r.dflt:=
 ⟨DO (fun _=>DO fun _ b=>⟨b.1,b.2.2.1,b.2.2.2.1.ps,b.2.2.2.1.bd,b.2.2.2.1.sc,b.2.2.2.1.cl,b.2.2.2.1.gl,b.2.2.2.1.bu,b.2.2.2.1.df,b.2.2.2.1.kd.trans G,b.2.2.2.2⟩) (fnB Y B)⟩
omit D in
theorem dg {r:dA}(B:r∈bc):∃o,(mkB h).base r.a=some o∧o.cls=.type "function":=
 DO (fun _ z=>z.elim fun _ b=>⟨b.1,b.2.1⟩) (fnB Y B)
end
theorem fr (i:Nat){r:dA}(h:bc[i]?=some r):r∈bc:=C6 h
theorem nr (i:Nat){r:Str×Value}(h:eS[i]?=some r):r∈eS:=C6 h
theorem oh {prog:C9}{w:World}:∀{es:List DictEntry} {ps:List ((Str×Str)×Nat)},es.map (fun e=>(e.key,e.val,e.hash))=ps.map (fun p=>(Du p.1.1 (396+2*p.2),Du p.1.2 (397+2*p.2),hashStr w p.1.1))→
  Pairs (Db prog w) es (ps.map fun p=>(p.1.1,Du p.1.2 (397+2*p.2)))∧∀e∈es,∃k,(Db prog w).is k e.key=true∧e.hash=(Db prog w).hash k
 |[],[],_=>⟨.nil,fun J h=>by cases h⟩
 |e::es,p::ps,h=>by
  simp only[FD,Kz,Prod.mk.injEq]at h;refine xA h fun B h4=>?_;refine xAA B fun h1 h2 h3=>?_;refine xA (oh (prog:=prog) h4) fun G H=>?_;refine⟨?_,fun O he'=>?_⟩
  ·exact .cons (by refine(ir h1)▸?_;exact Gn prog w _ _) h2 G
  ·rcases Da.mp he' with rfl|he'
   ·exact yEA p.1.1 (by refine(ir h1)▸?_;exact Gn prog w _ _) h3
   ·exact H O he'
 |[],_::_,h=>by contradiction
 |_::_,[],h=>by contradiction
section
variable {h:Heap}{mg mb:Str→Option Value}{w:World}{prog:C9}(D:Gd h mg mb)(Y:YP w h)
include D Y
theorem AG:aV (mkB h) 170 (h.nsMap 169):=by
 refine xEA (id Y.cls) fun o B hC=>?_;refine jQ (id hC) fun nm q bs sn sub col dd k0 k1 k2 k3 k5 hC=>?_;have hC:=B.trans (congrArg some hC);obtain G:h.Ns 169 (h.nsMap 169):=.of_isNs Y.ns.1;refine⟨⟨nm,q,169,bs,sn,sub,col,dd,k0,k1,k2,k3,k5,bD hC rfl,fun h' k=>fU G k⟩,?_,?_,?_,fun x H=>?_⟩
 ·exact Y.ns.2 _ (C6 (i:=8) rfl)
 ·exact Y.ns.2 _ (C6 (i:=9) rfl)
 ·exact Y.ns.2 _ (C6 (i:=10) rfl)
 ·exact Y.ns.2 (x,none) (List.mem_append_right _ (List.mem_map_of_mem H))
omit D in
theorem dh (i:Nat){x:Str}{v:Value}(B:yx[i]?=some (x,some v)):h.nsMap 169 x=some v:=Y.ns.2 _ (C6 B)
omit D in
theorem ms {a:Addr}{xs:Array Value}(e:∃o q,h.get? a=some o∧o.cls=.type "tuple"∧o.data=.seq xs q):∃o q,(mkB h).base a=some o∧o.data=.seq xs q:=
 let ⟨o,q,h1,_,h3⟩:=e;⟨o,q,bD h1 (yG h3),h3⟩
noncomputable def C0:CK (mkB h) (mkG D) 170 (h.nsMap 169) where
 CA:=AG D Y
 ae:=181
 he:=ba D Y (nr 5 rfl)
 Fe:=bY Y (fr 2 rfl) rfl
 hset:=bf D (by decide) rfl (by decide)
 ai:=95
 Ti:=88
 hi:=dh Y 1 rfl
 Fi:=bY Y (fr 16 rfl) rfl
 hfi:=dg Y (fr 16 rfl)
 hTi:=ms Y Y.t88
 aq:=110
 Tq:=103
 hq:=dh Y 2 rfl
 Fq:=bY Y (fr 17 rfl) rfl
 hfq:=dg Y (fr 17 rfl)
 hTq:=ms Y Y.t103
 ad:=117
 hd:=dh Y 3 rfl
 Fd:=bY Y (fr 18 rfl) rfl
 hfd:=dg Y (fr 18 rfl)
 af:=126
 Tf:=119
 aj:=118
 tj:=504
 hf:=dh Y 4 rfl
 Ff:=bY Y (fr 19 rfl) rfl
 hff:=dg Y (fr 19 rfl)
 hTf:=ms Y Y.t119
 hj:=bD Y.bj rfl
 as:=140
 hs:=dh Y 5 rfl
 Fs:=bY Y (fr 20 rfl) rfl
 hfs:=dg Y (fr 20 rfl)
 as1:=146
 Ts:=141
 hs1:=dh Y 6 rfl
 Fs1:=bY Y (fr 21 rfl) rfl
 hfs1:=dg Y (fr 21 rfl)
 hTs:=ms Y Y.t141
 an:=153
 hn:=dh Y 7 rfl
 Fn:=bY Y (fr 22 rfl) rfl
 hfn:=dg Y (fr 22 rfl)
noncomputable def C1:LK (mkB h) (mkG D) where
 hg:=rfl
 hb:=rfl
 hba:=by
  refine ek D.bmain fun bm O V Z B b4 b5 G=>?_;refine⟨bm,O,V,Z,?_,?_,bD B (tX G),b4,b5,G⟩
  ·rintro rfl;refine bg D.g fun o es ep e d J=>?_;rw[B]at e;injection e with e;subst e;rw[G]at d;contradiction
  ·rintro rfl;rw[Y.tab]at B;injection B with B;subst B;contradiction
 c:=145
 hc:=by
  intro h' k
  exact Gp Y.cd fun o z=>Gp z.2.2 fun H y=>xEE y.2.2.1 fun x1 t1 v1=>xEE y.2.2.2.1 fun x2 t2 v2=>xE y.2.2.2.2.1 fun x3 v3=>xEE y.2.2.2.2.2 fun x4 t4 v4=>
   ⟨o,H,x1,t1,x2,t2,x3,x4,t4,k _ _ (bD z.1 (fT z.2.1)),z.2.1,y.1,y.2.1,by rw[Hs,show H[11]?=_ from y.2.1];rfl,v1,v2,v3,v4,by decide⟩
noncomputable def w0:List (Str×Value):=iw.zipIdx.map fun p=>(p.1.1,Du p.1.2 (397+2*p.2))
omit D Y in
theorem oj:(w0.map (·.1)).Nodup:=by decide+kernel
omit D Y in
theorem tY:w0.length≤100:=by decide+kernel
noncomputable def C2:CI prog w (mkB h) (mkG D) 170 (h.nsMap 169) where
 hC:=ba D Y (nr 4 rfl)
 hlist:=bf D (by decide) rfl (by decide)
 nsA:=64
 kvs:=w0
 hns:=ba D Y (nr 3 rfl)
 hnd:=by
  intro h' k;refine aQ (id Y.d64) fun o H J B=>?_;refine aL B fun es ep G O=>?_;refine xA (oh (prog:=prog) O) fun V Z=>?_;exact⟨o,es,ep,k _ _ (bD H (jD G)),J,G,fun e he=>Z e (by simpa using he),V,oj⟩
 hnz:=tY
 hsys:=by rfl
 fI:=87
 hi:=dh Y 0 rfl
 kd:=80
 kwm:=h.nsMap 80
 hkd:=fun h' k=>fU (.of_isNs Y.kw.1) k
 hkw:=⟨Y.kw.2 _ (C6 (i:=0) rfl),Y.kw.2 _ (C6 (i:=1) rfl),Y.kw.2 _ (C6 (i:=2) rfl),Y.kw.2 _ (C6 (i:=3) rfl),Y.kw.2 _ (C6 (i:=4) rfl),Y.kw.2 _ (C6 (i:=5) rfl),Y.kw.2 _ (C6 (i:=6) rfl)⟩
 obj:=by
  exact DO (fun _=>DO fun _ b=>⟨b.1,b.2.1,b.2.2.1,b.2.2.2.1.ps,b.2.2.2.1.bd,b.2.2.2.1.sc,b.2.2.2.1.cl,b.2.2.2.1.gl,b.2.2.2.1.bu,b.2.2.2.1.df,b.2.2.2.1.kd,b.2.2.2.2⟩) (fnB (r:=⟨87,ak 0,.none,.ref 80,86,"C14NWriterTarget.__init__"⟩) Y (fr 15 rfl))
theorem w4:((mkB h).base EE).isSome=true:=by
 refine bg (Ld Y.sys) fun o es ep e d J=>?_;have:(mkB h).base EE=some o:=bD e (jD d);refine(ir this)▸?_;rfl
omit D in
theorem s21 {o:Obj}{fd:Fx}(B:(mkB h).base 146=some o)(hd:o.data=.func fd){P:Prop}(k:fd.code=.ref 145→fd.qualname="C14NWriterTarget._start"→P):P:=
 xEE (fnB (r:=⟨146,ak 8,.ref 141,.none,145,"C14NWriterTarget._start"⟩) Y (fr 21 rfl)) fun _ _ b=>
  have e:=Data.func.inj (b.2.2.1.symm.trans ((congrArg Obj.data (Dd (b.1.symm.trans B))).trans hd))
  k (e▸b.2.2.2.1.co) (e▸b.2.2.2.1.qn)
noncomputable def C3:Wk prog w (mkB h) (mkG D) 170 (h.nsMap 169) where
 k:=C0 D Y
 L:=C1 D Y
 I:=C2 D Y
 sorted:=bf D (by decide) rfl (by decide)
 len:=bf D (by exact .head _) rfl (by decide)
 range:=bf D (by decide) rfl (by decide)
 qual:=(t5 "C14NWriterTarget._start"++".<locals>.")++"<lambda>"
 hS:=by
  intro o fd B hd;refine s21 Y B hd fun q1 q2=>?_;exact⟨q1,by rw[q2]⟩
 hsys:=w4 D Y
end
end
section
open PySem PySem.W PyProof.Rows PySem.Builtin PySem.Builtin._codecs
noncomputable def cY (l:List Nat):List UInt8:=l.flatMap JV
theorem fV:∀l:List Nat,(cY l).length≤4*l.length
 |[]=>DK _
 |c::l=>by
  obtain h1:(JV c).length≤4:=by unfold JV;(repeat' split)<;>simp
  obtain h2:=fV l;unfold cY at *;rw[I8,D2,Ep];lia -abstractProof
theorem kQ:∀(l:List Nat) (acc:List UInt8),l.foldl (fun acc y=>acc++(JV y).toArray) acc.toArray=(acc++cY l).toArray
 |[],acc=>by simp[cY]
 |c::l,acc=>by
  rw[Hn,List.append_toArray,kQ l];simp[cY]
section
variable {prog:C9}{w:World}{A:Dq}{E:Value→Shared→Prop}{s:Shared}{x:Str}{t:Tok}
theorem j2 {id:String}{self:Value}{Q:Array UInt8→Shared→Prop}(O:∀c∈x.cps.toList,Hq c=false)(hl:x.length≤1000)(hq:Q (cY x.cps.toList).toArray s):
  wpAny (model prog w) A (encodeNarrow id utf8Codec none self x) Q E s:=by
 unfold encodeNarrow;dsimp only;rw[FX]
 obtain B:Array.findIdx? utf8Codec.bad (x.cps.extract 0 x.cps.size)=none:=by
  rw[Array.findIdx?_eq_none_iff];intro c hc;refine O c ?_;have:c∈x.cps:=by simpa using hc
  exact this.val
 have hex:x.cps.extract 0 x.cps.size=x.cps:=by simp
 refine il (wpAny_forIn_list _ (fun rest r s'=>s'=s∧((r=(0, #[],{})∧rest.length=x.length)∨r=(x.length,(cY x.cps.toList).toArray,{}))) _ ?_ ?_ _ _ ⟨rfl,.inl ⟨rfl,by simp⟩⟩)
 ·intro i rest r s' G;obtain⟨hs,G⟩:=G;subst hs;rcases G with⟨hr0,H⟩|hr0<;>subst hr0
  ·show wpAny _ _ (if (#[]:Array UInt8).size>Eu then _ else _) _ _ _;refine fF (by decide) ?_;have J:0<x.cps.size:=by have:x.length=x.cps.size:=rfl;rw[←this,←H];exact DT _
   rw[show x.cps[0]?=some x.cps[0] from by simp[J]];dsimp only
   rw[if_pos (by
    show(!Str.isSurrogate x.cps[0])=true;rw[O _ (by simp)];rfl)]
   refine nb ⟨rfl,.inr ?_⟩;rw[B,hex]
   obtain h2:(x.cps.extract 0 x.cps.size).foldl (fun acc y=>acc++(utf8Codec.bytesOf y).toArray) (#[]:Array UInt8)=(cY x.cps.toList).toArray:=by
    rw[hex,←KT];have:=kQ x.cps.toList [];rw[List.nil_append]at this;exact this
   simp only[K0,Jg];rw[h2];rfl
  ·show wpAny _ _ (if (cY x.cps.toList).toArray.size>Eu then _ else _) _ _ _
   rw[if_neg (by
    have:=fV x.cps.toList;obtain e:x.cps.toList.length=x.length:=rfl;rw[Di,Es];lia -abstractProof)]
   rw[show x.cps[x.length]?=none from by simp[Str.length]];exact nb (nb hq)
 ·rintro r s' ⟨rfl,⟨rfl,H⟩|rfl⟩
  ·obtain J:x.cps.toList=[]:=D8.mp H.symm;rw[J]at hq;exact nb hq
  ·exact nb hq
theorem om {Q:Value→Shared→Prop}(B:∀c∈x.cps.toList,Hq c=false)(hl:x.length≤1000)(hq:∀G k,Q (.bytes (cY x.cps.toList).toArray G) { s with toks:=k }):
  wpAny (model prog w) A (call (.builtin "str.encode") [.str x t]) Q E s:=by
 refine Et F.slot_str_encode (EX _ _ _) F.entry_str_encode ?_ (F.args_str_encode_1 _);rw[encode_tree,encodeRoad_utf8];refine il (il (j2 B hl (KG (nb ⟨_,rfl,hq _ _⟩) ?_)));have:=fV x.cps.toList;obtain e:x.cps.toList.length=x.length:=rfl;rw[Di,Es];lia -abstractProof
end
end
section
open PySem PySem.W PyProof.Rows PySem.Builtin PySem.Builtin.Str
noncomputable def cR (x:Str):Str:=EM (EM x "\\" "\\\\") "\"" "\\\""
structure Th.Quoted (θ:Th):Prop where
 len:∀k,(EM (θ.str [.t k 0]) "\\" "\\\\").length≤400∧(cR (θ.str [.t k 0])).length≤900
 ok:∀k,∀c∈(cR (θ.str [.t k 0])).cps.toList,Hq c=false
 qb:∀k,θ.qb k=34::(cY (cR (θ.str [.t k 0])).cps.toList++[34])
section
variable {prog:C9}{w:World}{A:Dq}{E:Value→Shared→Prop}{s:Shared}{B:Fix}{θ:Th}{n:Nat}
theorem oo {x:Str}{t:Tok}{env:Env}{s₀:Shared}{m:Str→Option Value}{Q:Flow→Shared→Prop}(hx:x.length≤100)(h1:(EM x "\\" "\\\\").length≤400)(h2:(cR x).length≤900)(h3:∀c∈(cR x).cps.toList,Hq c=false)
  (f:Fw (aa (ac 23)).scope B env s₀ m s)(H:m "text"=some (.str x t))
  (J:∀h' k tr,(∀b o,s₀.heap.get? b=some o→h'.get? b=some o)→Q (.ret (.bytes (34::(cY (cR x).cps.toList++[34])).toArray tr)) { s₀ with heap:=h',toks:=k }):
  wpAny (model prog w) A (execs (aa (ac 23)).body env) Q E s:=by
 refine csR ?_;refine EO (EO (HZ ?_));refine Dk rfl rfl rfl ?_;refine Dk rfl rfl rfl ?_;refine Dk rfl rfl rfl ?_;refine(f.tok).name rfl H ?_;refine lJ G1 G0 ?_;refine cw2 (Ds (Ds ?_));refine J9 (n:=1) (DT _) (I4 (FF _) (FF _) (Hf _).symm (by decide) ?_ fun t1 k1 hp=>?_)
 ·have:("\\\\":Str).length=2:=rfl;refine(ir this)▸?_;lia -abstractProof
 refine lJ G1 G0 ?_;refine cw2 (Ds (Ds ?_));refine I4 (Dl hp) (FF _) (Hf _).symm (by decide) ?_ fun t2 k2=>?_
 ·have:("\\\"":Str).length=2:=rfl;refine(ir this)▸?_;exact Cu h1
 refine lJ F.slot_str_encode F.type_str_encode ?_;refine Ev rfl (Hm ?_);refine om h3 (Df h2 (by decide)) fun t3 k3=>?_;have G:=fV (cR x).cps.toList;have e:(cR x).cps.toList.length=(cR x).length:=rfl;refine KBy.add_bytes ?_ fun t4 k4=>?_
 ·refine(ir Es)▸(ir Es)▸?_;show 1+(cY (cR x).cps.toList).length≤16777216;exact B4 h2 G e
 refine HZ ?_;refine KBy.add_bytes ?_ fun O k5=>?_
 ·refine(ir Lg)▸(ir Es)▸(ir Es)▸?_;show 1+(cY (cR x).cps.toList).length+1≤16777216;exact B0 h2 G e
 have V:([34]:List UInt8).toArray++(cY (cR x).cps.toList).toArray++([34]:List UInt8).toArray=(34::(cY (cR x).cps.toList++[34])).toArray:=by simp
 refine Eq.mp (congrArg (fun v=>Q (.ret (D3 v O)) _) V.symm) ?_;exact(f.tok (t:=k5)).fin (Q:=fun v s=>Q (.ret v) s) fun h' k Z=>J h' k _ Z
theorem tZ (G:Glob B)(hb:θ.Bd)(hq:θ.Quoted){a:Addr}(F:aY B a (aD (ac 23)) (aa (ac 23)).body (aa (ac 23)).scope .none):KcOk prog w θ B n (.ref a) ⟨lh⟩:=by
 intro A E Q sc env ρ st s vs us r st' R S ha e k;have O:A.depth<Ed:=by have:=R.1.2.1;exact o46 this
 apply ax e;clear e;intro v H e;have H:=en H;subst H;apply ax e;clear e;intro i H e;have H:=mX H;subst H;refine gX (bH ha) fun u V t Z=>?_;subst V;subst Z;obtain k:=k.ok e;clear e;refine bW G F S.keeps O (binds:=[("text",.str (θ.str [.t i 0]) t)]) (fun fd hp hd hkd=>?_) (by decide) (by intro x hx;rw[DD.mp hx];rfl) fun a0 s₁ E' f J=>?_
 ·cases fd;dsimp only at hp hd hkd;subst hp hd hkd;exact FP (by rfl)
 ·refine xA (hq.len i) fun g1 g2=>?_
  have g0:(θ.str [.t i 0]).length≤100:=by
   have:=cn hb [At.t i 0];show(θ.flat [.t i 0]).toArray.size≤_;simpa using this
  refine oo g0 g1 g2 (hq.ok i) f rfl fun h' kk tr hk=>?_;refine k _ ρ _ (S.kept hk kk) (Kp.kept NoW ρ s kk hk) rfl ⟨tr,?_⟩;rw[←hq.qb i];show D3 (θ.qb i).toArray tr=.bytes (θ.flatB [.t i 0]).toArray tr;simp[Th.atB]
end
end
section
open PySem
noncomputable def cC:Array Nat:= #[14,8,1,2,4294967295,1,1,34,0,16,34,28,22,0,4294967295,7,11,13,7,21,16,34,16,92,0,15,8,6,16,92,2,15,2,0,1,16,34,1]
noncomputable def mS (t:Array Nat) (L s pc p h:Nat) (out:Bool) (loops:Array Sre.Loop) (inner:Option Nat) (fr:List Ki) (G:Nat) (B:Option Bool) (seen:F2):Sre.M:=
 { code:=cC,text:=t,lim:=L,start:=s,lastStart:=L,pc,pos:=p,handed:=h,outermost:=out,marks:= #[],loops,inner,frames:=fr,weight:=G,answer:=B,seen }
noncomputable def fS (s:Nat) (first:Bool):Ki:={ wait:=.nextStart,pc:=9,pos:=s,outermost:=first }
noncomputable def fM (p:Nat) (k:Int) (first:Bool):Ki:={ wait:=.possMore,pc:=11,pos:=p,outermost:=first,count:=k,kept:={ whole:=true },loop:=0 }
noncomputable def fB (pc p:Nat):Ki:={ wait:=.nextBranch,pc,pos:=p,outermost:=false,kept:={ whole:=true } }
noncomputable def lps:Array Sre.Loop:= #[{ pc:=0,outer:=none }]
section
variable {t:Array Nat}{L s p:Nat}{first:Bool}{k:Int}{seen:F2}{c:Nat}
noncomputable def Reach (n:Nat) (m m':Sre.M):Prop:=∀N,El (n+N) m=El N m'
theorem Reach.one {m m':Sre.M}(h:m.outcome=none)(e:m.step=m'):Reach 1 m m':=fun N=>by
 refine(ir (Hy 1 N))▸?_;show(if m.outcome.isSome then m else El N m.step)=_;refine(ir h)▸(ir e)▸?_;rfl
theorem Reach.trans {n k:Nat}{m m' m'':Sre.M}(a:Reach n m m')(b:Reach k m' m''):Reach (n+k) m m'':=fun N=>by rw[Hh,a,b]
theorem Reach.zero (m:Sre.M):Reach 0 m m:=fun N=>by rw[Jg]
noncomputable abbrev sA (t:Array Nat) (L s:Nat) (first:Bool) (B:Option Bool) (seen:F2):Sre.M:=mS t L s 9 s s first #[] none [fS s first] 1 B seen
noncomputable abbrev sP (t:Array Nat) (L s p:Nat) (k:Int) (first:Bool) (seen:F2):Sre.M:=mS t L s 15 p p false lps (some 0) [fM p k first,fS s first] 2 none seen
theorem t6 (hs:s<L)(hc:t.getD s 0≠34):∃seen',(sA t L s first none seen).step=sA t L s first (some false) seen':=by
 apply Exists.intro
 obtain e:(sA t L s first none seen).step=(if s≥L then (sA t L s first none (seen.add 16)).say false else
  match Fk cC 9 (t.getD s 0) (seen.add 16)with
  |.error B=>(sA t L s first none (seen.add 16)).stick B
  |.ok (false,seen)=>({ sA t L s first none seen with seen }).say false
  |.ok (true,seen)=>{ sA t L s first none seen with seen,pc:=9+Gl cC 9,pos:=s+1 }):=rfl
 obtain G:Fk cC 9 (t.getD s 0) (seen.add 16)=.ok (t.getD s 0==34,seen.add 16):=rfl;rw[e,if_neg (by exact o17 hs),G,beq_eq_false_iff_ne.mpr hc];rfl
theorem qQ (hs:s<L)(hc:t.getD s 0≠34):∃seen',Reach 2 (sA t L s first none seen) (sA t L (s+1) false none seen'):=by
 refine xE (t6 (first:=first) (seen:=seen) hs hc) fun seen' h=>?_;refine⟨seen',(Reach.one rfl h).trans (Reach.one rfl ?_)⟩;obtain e:(sA t L s first (some false) seen').step=(if s<L then sA t L (s+1) false none seen' else (mS t L s 9 s s first #[] none [] 0 (some false) seen')):=rfl;rw[e,if_pos hs]
theorem t7 (hs:¬s<L):∃m,Reach 3 (sA t L s first none seen) m∧m.outcome=some .failed:=by
 have e1:(sA t L s first none seen).step=(if s≥L then sA t L s first (some false) (seen.add 16) else
  match Fk cC 9 (t.getD s 0) (seen.add 16)with
  |.error B=>(sA t L s first none (seen.add 16)).stick B
  |.ok (false,seen)=>({ sA t L s first none seen with seen }).say false
  |.ok (true,seen)=>{ sA t L s first none seen with seen,pc:=9+Gl cC 9,pos:=s+1 }):=rfl
 rw[if_pos (by lia -abstractProof)]at e1;have e2:(sA t L s first (some false) (seen.add 16)).step=(if s<L then sA t L (s+1) false none (seen.add 16) else (mS t L s 9 s s first #[] none [] 0 (some false) (seen.add 16))):=rfl;rw[if_neg hs]at e2;exact yEA _ (((Reach.one rfl e1).trans (Reach.one rfl e2)).trans (Reach.one rfl rfl)) rfl
theorem qR (hs:s<L)(hc:t.getD s 0=34):∃seen',Reach 2 (sA t L s first none seen) (sP t L s (s+1) 0 first seen'):=by
 have e:(sA t L s first none seen).step=(if s≥L then (sA t L s first none (seen.add 16)).say false else
  match Fk cC 9 (t.getD s 0) (seen.add 16)with
  |.error B=>(sA t L s first none (seen.add 16)).stick B
  |.ok (false,seen)=>({ sA t L s first none seen with seen }).say false
  |.ok (true,seen)=>{ sA t L s first none seen with seen,pc:=9+Gl cC 9,pos:=s+1 }):=rfl
 obtain G:Fk cC 9 (t.getD s 0) (seen.add 16)=.ok (t.getD s 0==34,seen.add 16):=rfl;rw[if_neg (by exact o17 hs),G,hc]at e;exact⟨_,(Reach.one rfl e).trans (Reach.one rfl rfl)⟩
noncomputable abbrev sI (t:Array Nat) (L s p pc q:Nat) (k:Int) (first:Bool) (b:Nat) (B:Option Bool) (seen:F2):Sre.M:=mS t L s pc q p false lps (some 0) [fB b p,fM p k first,fS s first] 3 B seen
theorem jE (hp:p<L):(sI t L s p 17 p k first 16 none seen).step=match (if (t.getD p 0==34)=true then .ok (false,((seen.add 13).add 21).add 16) else if (t.getD p 0==92)=true then .ok (false,(((seen.add 13).add 21).add 16).add 16) else .ok (true,((((seen.add 13).add 21).add 16).add 16).add 0):Except String (Bool×F2))with
  |.error B=>(sI t L s p 17 p k first 16 none (seen.add 13)).stick B
  |.ok (false,seen)=>({ sI t L s p 17 p k first 16 none seen with seen }).say false
  |.ok (true,seen)=>{ sI t L s p 17 p k first 16 none seen with seen,pc:=17+Gl cC 17,pos:=p+1 }:=by
 have e:(sI t L s p 17 p k first 16 none seen).step=(if p≥L then (sI t L s p 17 p k first 16 none (seen.add 13)).say false else
  match Fk cC 17 (t.getD p 0) (seen.add 13)with
  |.error B=>(sI t L s p 17 p k first 16 none (seen.add 13)).stick B
  |.ok (false,seen)=>({ sI t L s p 17 p k first 16 none seen with seen }).say false
  |.ok (true,seen)=>{ sI t L s p 17 p k first 16 none seen with seen,pc:=17+Gl cC 17,pos:=p+1 }):=rfl
 obtain G:Fk cC 17 (t.getD p 0) (seen.add 13)=(if (t.getD p 0==34)=true then .ok (false,((seen.add 13).add 21).add 16) else if (t.getD p 0==92)=true then .ok (false,(((seen.add 13).add 21).add 16).add 16) else .ok (true,((((seen.add 13).add 21).add 16).add 16).add 0)):=rfl;rw[if_neg (by exact o17 hp),G]at e;exact e
theorem oq (hp:p<L)(h1:t.getD p 0≠34)(h2:t.getD p 0≠92):∃seen',(sI t L s p 17 p k first 16 none seen).step=sI t L s p 25 (p+1) k first 16 none seen':=by
 rw[jE hp,if_neg (by simpa using h1),if_neg (by simpa using h2)];exact⟨_,rfl⟩
theorem jF (hp:p<L)(h:t.getD p 0=34∨t.getD p 0=92):∃seen',(sI t L s p 17 p k first 16 none seen).step=sI t L s p 17 p k first 16 (some false) seen':=by
 rw[jE hp];rcases h with h|h
 ·rw[if_pos (by simpa using h)];exact⟨_,rfl⟩
 ·rw[if_neg (by rw[h];decide),if_pos (by simpa using h)];exact⟨_,rfl⟩
theorem kR (B:0≤k){q:Nat}(hq:p<q){out:Bool}{pc0 p0:Nat}:(mS t L s pc0 p0 q out lps (some 0) [fM p k first,fS s first] 2 (some true) seen).step=sP t L s q (k+1) first seen:=by
 obtain e:(mS t L s pc0 p0 q out lps (some 0) [fM p k first,fS s first] 2 (some true) seen).step=
  (if k+1<((0:Nat):Int) then (mS t L s 11 p q first lps (some 0) [fS s first] 1 none seen).attempt { (mS t L s 11 p q first lps (some 0) [fS s first] 1 none seen).frame .possBelow with loop:=0,count:=k+1 } 15 q false
  else if (decide (k+1<((4294967295:Nat):Int))||true)&&(some p != some q) then sP t L s q (k+1) first seen else (mS t L s 35 q q first #[] none [fS s first] 1 none seen)):=rfl
 rw[e,if_neg (by lia -abstractProof),if_pos];have:(some p != some q)=true:=by simp;exact Dh ‹_›
 rw[this,Bool.or_true];rfl
theorem t8 (B:0≤k){out:Bool}{pc0 p0 h:Nat}:(mS t L s pc0 p0 h out lps (some 0) [fM p k first,fS s first] 2 (some false) seen).step=mS t L s 35 p p first #[] none [fS s first] 1 none seen:=by
 obtain e:(mS t L s pc0 p0 h out lps (some 0) [fM p k first,fS s first] 2 (some false) seen).step=
  (if k<((0:Nat):Int) then (mS t L s 11 p p first lps (some 0) [fS s first] 1 none seen).attempt { (mS t L s 11 p p first lps (some 0) [fS s first] 1 none seen).frame .possBelow with loop:=0,count:=k } 15 p false
  else if (decide (k<((4294967295:Nat):Int))||true)&&(some p != some p) then sP t L s p k first seen else (mS t L s 35 p p first #[] none [fS s first] 1 none seen)):=rfl
 rw[e,if_neg (by lia -abstractProof),if_neg];simp
theorem ow (B:0≤k)(hp:p<L)(h1:t.getD p 0≠34)(h2:t.getD p 0≠92):∃seen',Reach 6 (sP t L s p k first seen) (sP t L s (p+1) (k+1) first seen'):=by
 obtain a1:(sP t L s p k first seen).step=sI t L s p 17 p k first 16 none (seen.add 7):=rfl;refine xE (oq (s:=s) (k:=k) (first:=first) (seen:=seen.add 7) hp h1 h2) fun seen1 a2=>?_;obtain a3:(sI t L s p 25 (p+1) k first 16 none seen1).step=sI t L s p 34 (p+1) k first 16 none (seen1.add 15):=rfl;obtain a4:(sI t L s p 34 (p+1) k first 16 none (seen1.add 15)).step=mS t L s 34 (p+1) (p+1) false lps (some 0) [fB 16 p,fM p k first,fS s first] 3 (some true) ((seen1.add 15).add 1):=rfl;obtain a5:(mS t L s 34 (p+1) (p+1) false lps (some 0) [fB 16 p,fM p k first,fS s first] 3 (some true) ((seen1.add 15).add 1)).step=mS t L s 16 p (p+1) false lps (some 0) [fM p k first,fS s first] 2 (some true) ((seen1.add 15).add 1):=rfl;exact⟨_,(((((Reach.one rfl a1).trans (Reach.one rfl a2)).trans (Reach.one rfl a3)).trans (Reach.one rfl a4)).trans (Reach.one rfl a5)).trans (Reach.one rfl (kR B (DV p)))⟩
theorem oy (hp:p<L):(sI t L s p 28 p k first 27 none seen).step=match (t.getD p 0==92)with
  |true=>sI t L s p 30 (p+1) k first 27 none (seen.add 16)
  |false=>sI t L s p 28 p k first 27 (some false) (seen.add 16):=by
 obtain e:(sI t L s p 28 p k first 27 none seen).step=(if p≥L then (sI t L s p 28 p k first 27 none (seen.add 16)).say false else
  match Fk cC 28 (t.getD p 0) (seen.add 16)with
  |.error B=>(sI t L s p 28 p k first 27 none (seen.add 16)).stick B
  |.ok (false,seen)=>({ sI t L s p 28 p k first 27 none seen with seen }).say false
  |.ok (true,seen)=>{ sI t L s p 28 p k first 27 none seen with seen,pc:=28+Gl cC 28,pos:=p+1 }):=rfl
 obtain G:Fk cC 28 (t.getD p 0) (seen.add 16)=.ok (t.getD p 0==92,seen.add 16):=rfl;refine(ir e)▸(ir (if_neg (by exact o17 hp)))▸(ir G)▸?_;cases (t.getD p 0==92)<;>rfl
theorem w5 {q:Nat}(hp:q<L)(h:t.getD q 0≠10):(sI t L s p 30 q k first 27 none seen).step=sI t L s p 31 (q+1) k first 27 none (seen.add 2):=by
 obtain e:(sI t L s p 30 q k first 27 none seen).step=(if q≥L then (sI t L s p 30 q k first 27 none (seen.add 2)).say false else
  match Fk cC 30 (t.getD q 0) (seen.add 2)with
  |.error B=>(sI t L s p 30 q k first 27 none (seen.add 2)).stick B
  |.ok (false,seen)=>({ sI t L s p 30 q k first 27 none seen with seen }).say false
  |.ok (true,seen)=>{ sI t L s p 30 q k first 27 none seen with seen,pc:=30+Gl cC 30,pos:=q+1 }):=rfl
 obtain G:Fk cC 30 (t.getD q 0) (seen.add 2)=.ok (t.getD q 0 != 10,seen.add 2):=rfl;rw[e,if_neg (by exact o17 hp),G,bne_iff_ne.mpr h];rfl
theorem t9 (B:0≤k)(hp:p+1<L)(h1:t.getD p 0=92)(h2:t.getD (p+1) 0≠10):∃seen',Reach 9 (sP t L s p k first seen) (sP t L s (p+2) (k+1) first seen'):=by
 obtain a1:(sP t L s p k first seen).step=sI t L s p 17 p k first 16 none (seen.add 7):=rfl;refine xE (jF (s:=s) (k:=k) (first:=first) (seen:=seen.add 7) (t:=t) (p:=p) (L:=L) (by exact Bp hp) (.inr h1)) fun seen1 a2=>?_;obtain a3:(sI t L s p 17 p k first 16 (some false) seen1).step=sI t L s p 28 p k first 27 none seen1:=rfl;have a4:=oy (s:=s) (k:=k) (first:=first) (seen:=seen1) (t:=t) (p:=p) (L:=L) (by exact Bp hp);rw[h1]at a4;obtain a5:=w5 (s:=s) (p:=p) (k:=k) (first:=first) (seen:=seen1.add 16) hp h2;obtain a6:(sI t L s p 31 (p+2) k first 27 none ((seen1.add 16).add 2)).step=sI t L s p 34 (p+2) k first 27 none (((seen1.add 16).add 2).add 15):=rfl;obtain a7:(sI t L s p 34 (p+2) k first 27 none (((seen1.add 16).add 2).add 15)).step=mS t L s 34 (p+2) (p+2) false lps (some 0) [fB 27 p,fM p k first,fS s first] 3 (some true) ((((seen1.add 16).add 2).add 15).add 1):=rfl;obtain G:(mS t L s 34 (p+2) (p+2) false lps (some 0) [fB 27 p,fM p k first,fS s first] 3 (some true) ((((seen1.add 16).add 2).add 15).add 1)).step=mS t L s 27 p (p+2) false lps (some 0) [fM p k first,fS s first] 2 (some true) ((((seen1.add 16).add 2).add 15).add 1):=rfl;exact⟨_,((((((((Reach.one rfl a1).trans (Reach.one rfl a2)).trans (Reach.one rfl a3)).trans (Reach.one rfl a4)).trans (Reach.one rfl a5)).trans (Reach.one rfl a6)).trans (Reach.one rfl a7)).trans (Reach.one rfl G)).trans (Reach.one rfl (kR B (by lia -abstractProof)))⟩
theorem oz (G:0≤k)(hp:p<L)(h1:t.getD p 0=34):∃m,Reach 10 (sP t L s p k first seen) m∧m.outcome=some .matched∧m.start=s∧m.handed=p+1:=by
 obtain a1:(sP t L s p k first seen).step=sI t L s p 17 p k first 16 none (seen.add 7):=rfl;refine xE (jF (s:=s) (k:=k) (first:=first) (seen:=seen.add 7) hp (.inl h1)) fun seen1 a2=>?_;obtain a3:(sI t L s p 17 p k first 16 (some false) seen1).step=sI t L s p 28 p k first 27 none seen1:=rfl;have a4:=oy (s:=s) (k:=k) (first:=first) (seen:=seen1) (t:=t) hp;rw[h1]at a4;obtain a5:(sI t L s p 28 p k first 27 (some false) (seen1.add 16)).step=mS t L s 27 p p false lps (some 0) [fM p k first,fS s first] 2 (some false) (seen1.add 16):=rfl;obtain a6:=t8 (t:=t) (L:=L) (s:=s) (p:=p) (first:=first) (seen:=seen1.add 16) G (out:=false) (pc0:=27) (p0:=p) (h:=p)
 have a7:(mS t L s 35 p p first #[] none [fS s first] 1 none (seen1.add 16)).step=(if p≥L then (mS t L s 35 p p first #[] none [fS s first] 1 none ((seen1.add 16).add 16)).say false else
  match Fk cC 35 (t.getD p 0) ((seen1.add 16).add 16)with
  |.error B=>(mS t L s 35 p p first #[] none [fS s first] 1 none ((seen1.add 16).add 16)).stick B
  |.ok (false,seen)=>({ mS t L s 35 p p first #[] none [fS s first] 1 none seen with seen }).say false
  |.ok (true,seen)=>{ mS t L s 35 p p first #[] none [fS s first] 1 none seen with seen,pc:=35+Gl cC 35,pos:=p+1 }):=rfl
 obtain H:Fk cC 35 (t.getD p 0) ((seen1.add 16).add 16)=.ok (t.getD p 0==34,(seen1.add 16).add 16):=rfl;rw[if_neg (by exact o17 hp),H,h1]at a7;obtain J:(mS t L s 37 (p+1) p first #[] none [fS s first] 1 none ((seen1.add 16).add 16)).step=mS t L s 37 (p+1) (p+1) first #[] none [fS s first] 1 (some true) (((seen1.add 16).add 16).add 1):=by cases first<;>rfl
 obtain O:(mS t L s 37 (p+1) (p+1) first #[] none [fS s first] 1 (some true) (((seen1.add 16).add 16).add 1)).step=mS t L s 9 s (p+1) first #[] none [] 0 (some true) (((seen1.add 16).add 16).add 1):=rfl;exact gH _ ((((((((((Reach.one rfl a1).trans (Reach.one rfl a2)).trans (Reach.one rfl a3)).trans (Reach.one rfl a4)).trans (Reach.one rfl a5)).trans (Reach.one rfl a6)).trans (Reach.one rfl a7)).trans (Reach.one rfl J)).trans (Reach.one rfl O)).trans (Reach.one rfl rfl)) rfl rfl rfl
inductive cU:List Nat→Prop where
 |nil:cU []
 |plain {c l}:c≠34→c≠92→cU l→cU (c::l)
 |esc {c l}:c≠10→cU l→cU (92::c::l)
noncomputable def LiesAt (t:Array Nat) (p:Nat) (l:List Nat):Prop:=∀i c,l[i]?=some c→t.getD (p+i) 0=c
theorem LiesAt.head {t:Array Nat}{p c:Nat}{l:List Nat}(h:LiesAt t p (c::l)):t.getD p 0=c:=h 0 c rfl
theorem LiesAt.tail {t:Array Nat}{p c:Nat}{l:List Nat}(h:LiesAt t p (c::l)):LiesAt t (p+1) l:=fun i d e=>by
 have:=h (i+1) d (by trivial);rwa [Hh,Hy 1 i]
theorem dT:∀{l:List Nat},cU l→∀{p:Nat} {k:Int} {seen:F2},0≤k→p+l.length<L→LiesAt t p (l++[34])→
  ∃m n,n≤9*l.length+10∧Reach n (sP t L s p k first seen) m∧m.outcome=some .matched∧m.start=s∧m.handed=p+l.length+1
 |_,.nil,p,k,seen,B,hp,h=>by
  refine da (oz (t:=t) (L:=L) (s:=s) (first:=first) (seen:=seen) B (by simpa using hp) h.head) fun m a b c d=>?_;exact bi m 10 (by simp) a b c (by simpa using d)
 |_,.plain (c:=c) (l:=l) h1 h2 hl,p,k,seen,B,hp,h=>by
  dsimp only[Ep]at hp⊢;have hc:t.getD p 0=c:=h.head;refine xE (ow (t:=t) (L:=L) (s:=s) (p:=p) (first:=first) (seen:=seen) B (by exact o85 hp) (by refine(ir hc)▸?_;exact h1) (by refine(ir hc)▸?_;exact h2)) fun seen' a=>?_;refine aZ (dT hl (seen:=seen') (k:=k+1) (p:=p+1) (by exact Br B) (by exact o75 hp) h.tail) fun m n hn b c d e=>?_;exact bi m (6+n) (by exact Cd hn) (a.trans b) c d (by exact B8 e)
 |_,.esc (c:=c) (l:=l) h1 hl,p,k,seen,B,hp,h=>by
  dsimp only[Ep]at hp⊢;have hc:t.getD p 0=92:=h.head;have G:t.getD (p+1) 0=c:=h.tail.head;refine xE (t9 (t:=t) (L:=L) (s:=s) (p:=p) (first:=first) (seen:=seen) B (by lia -abstractProof) hc (by refine(ir G)▸?_;exact h1)) fun seen' a=>?_;refine aZ (dT hl (seen:=seen') (k:=k+1) (p:=p+2) (by exact Br B) (by lia -abstractProof) h.tail.tail) fun m n hn b c d e=>?_;exact bi m (9+n) (by exact B3 hn) (a.trans b) c d (by exact B1 e)
theorem dU:∀(l:List Nat) {s:Nat} {first:Bool} {seen:F2},(∀c∈l,c≠34)→s+l.length≤L→LiesAt t s l→∃B seen',Reach (2*l.length) (sA t L s first none seen) (sA t L (s+l.length) B none seen')
 |[],s,first,seen,_,_,_=>⟨first,seen,Reach.zero _⟩
 |c::l,s,first,seen,h,hp,H=>by
  dsimp only[Ep]at hp⊢;refine xE (qQ (t:=t) (L:=L) (s:=s) (first:=first) (seen:=seen) (by lia -abstractProof) (by refine(ir H.head)▸?_;exact h c (by simp))) fun seen' a=>?_;refine xEE (dU l (first:=false) (seen:=seen') (fun d hd=>h d (by simp[hd])) (by lia -abstractProof) H.tail) fun J G b=>?_;refine yEE J G ?_;obtain e:s+(l.length+1)=s+1+l.length:=by exact o32
  obtain O:2*(l.length+1)=2+2*l.length:=by lia -abstractProof
  refine(ir e)▸(ir O)▸?_;exact a.trans b
theorem kS (h:s+2≤L):Hg cC t 0 s L false=sA t L s true none (({}:F2).add 14):=by
 obtain e:Hg cC t 0 s L false=(if decide (s>L)||decide (L-s<2) then ({ code:=cC,text:=t,lim:=L,start:=s,pc:=9,pos:=s,handed:=s,marks:= #[],seen:=({}:F2).add 14 }:Sre.M).say false else sA t L s true none (({}:F2).add 14)):=rfl;rw[e,if_neg];simp;lia -abstractProof
theorem mu (h:L<s+2):∃m,Reach 1 (Hg cC t 0 s L false) m∧m.outcome=some .failed:=by
 obtain e:Hg cC t 0 s L false=(if decide (s>L)||decide (L-s<2) then ({ code:=cC,text:=t,lim:=L,start:=s,pc:=9,pos:=s,handed:=s,marks:= #[],seen:=({}:F2).add 14 }:Sre.M).say false else sA t L s true none (({}:F2).add 14)):=rfl;rw[e,if_pos (by simp;lia -abstractProof)];exact yEA _ (Reach.one rfl rfl) rfl
theorem LiesAt.app {t:Array Nat}{p:Nat}{a b:List Nat}(h:LiesAt t p (a++b)):LiesAt t p a∧LiesAt t (p+a.length) b:=by
 refine⟨fun i c e=>h i c ?_,fun i c e=>?_⟩
 ·rw[D1 (Dz.mp e).1];exact e
 ·have:=h (a.length+i) c (by rw[Gz (by exact o43)];simpa using e);rwa [←Hh]at this
theorem qS {pre B:List Nat}(H:∀c∈pre,c≠34)(J:cU B)(O:s+pre.length+B.length+2≤L)(h:LiesAt t s (pre++34::(B++[34]))):
  ∃m n,n≤9*(L-s)+20∧Reach n (Hg cC t 0 s L false) m∧m.outcome=some .matched∧m.start=s+pre.length∧m.handed=s+pre.length+B.length+2:=by
 refine xA h.app fun Z hb=>?_;rw[kS (by lia -abstractProof)];refine xEE (dU (t:=t) (L:=L) pre (s:=s) (first:=true) (seen:=({}:F2).add 14) H (by lia -abstractProof) Z) fun V seen' a=>?_;refine xE (qR (t:=t) (L:=L) (s:=s+pre.length) (first:=V) (seen:=seen') (by lia -abstractProof) hb.head) fun G b=>?_;refine aZ (dT (t:=t) (L:=L) (s:=s+pre.length) (first:=V) J (p:=s+pre.length+1) (k:=0) (seen:=G) (by lia -abstractProof) (by lia -abstractProof) hb.tail) fun m n hn c d e f=>?_;exact bi m (2*pre.length+2+n) (by lia -abstractProof) ((a.trans b).trans c) d e (by exact BX e f)
theorem oB {l:List Nat}(hl:∀c∈l,c≠34)(B:s+l.length=L)(h:LiesAt t s l):∃m n,n≤9*(L-s)+20∧Reach n (Hg cC t 0 s L false) m∧m.outcome=some .failed:=by
 by_cases hs:s+2≤L
 ·rw[kS hs];refine xEE (dU (t:=t) (L:=L) l (s:=s) (first:=true) (seen:=({}:F2).add 14) hl (by lia -abstractProof) h) fun G seen' a=>?_;refine xEA (t7 (t:=t) (L:=L) (s:=s+l.length) (first:=G) (seen:=seen') (by lia -abstractProof)) fun m b c=>?_;exact bp m (2*l.length+3) (by lia -abstractProof) (a.trans b) c
 ·refine xEA (mu (t:=t) (L:=L) (s:=s) (by lia -abstractProof)) fun m a b=>?_;exact bp m 1 (by lia -abstractProof) a b
theorem dj {m:Sre.M}(h:m.outcome.isSome=true):∀n,El n m=m
 |0=>rfl
 |n+1=>by show(if m.outcome.isSome then m else _)=m;rw[if_pos h]
theorem cV:∀(a b:Nat) (m:Sre.M),El (a+b) m=El b (El a m)
 |0,b,m=>by rw[Jg];rfl
 |a+1,b,m=>by
  rw[ER];show(if m.outcome.isSome then m else El (a+b) m.step)=El b (if m.outcome.isSome then m else El a m.step);by_cases h:m.outcome.isSome=true
  ·rw[if_pos h,if_pos h,dj h]
  ·rw[if_neg h,if_neg h];exact cV a b _
theorem eY {M:Model}{A:Dq}{E:Value→Shared→Prop}{s:Shared}:∀(turns:Nat) (m:Sre.M) (n:Nat) {Q:Sre.M→Shared→Prop},n≤4*turns→0<turns→(El n m).outcome.isSome=true→Q (El n m) s→wpAny M A (J8 turns m) Q E s
 |0,m,n,Q,hn,J,h,q=>absurd J (DF 0)
 |turns+1,m,n,Q,hn,_,h,q=>by
  show wpAny M A (if (El 4 m).outcome.isSome=true then pure (El 4 m) else do rule "sre.turn";J8 turns (El 4 m)) Q E s;by_cases h4:(El 4 m).outcome.isSome=true
  ·refine jS h4 ?_;refine nb ?_
   have:El n m=El 4 m:=by
    rcases Nat.le_total n 4 with hle|hle
    ·refine xE (GW hle) fun d hd=>?_;rw[hd,cV,dj h]
    ·refine xE (GW hle) fun d B=>?_;clear hle q h hn;subst B;rw[cV,dj h4]
   refine this▸?_;exact q
  ·refine fF h4 ?_
   have G:4<n:=by
    cases Jh 4 n with
    |inl h=>exact h
    |inr hle=>
     exfalso;apply h4;refine xE (GW hle) fun d hd=>?_;rw[hd,cV,dj h];exact h
   refine xE (GW (D9 G)) fun d H=>?_;subst H;rw[cV]at h q;exact il (Fj (eY turns _ d (by lia -abstractProof) (by lia -abstractProof) h q))
theorem eF {M:Model}{A:Dq}{E:Value→Shared→Prop}{s:Shared}(c:Nat→Bool)(f:Nat→String){Q:PUnit→Shared→Prop}(g:Nat→PUnit→Sem (ForInStep PUnit))(hg:∀i u,g i u=(if c i=true then (do rule (f i);pure (.yield ⟨⟩)) else pure (.yield ⟨⟩))):∀l:List Nat,Q ⟨⟩ s→wpAny M A (forIn l ⟨⟩ g) Q E s
 |[],q=>by rw[JN];exact nb q
 |i::l,q=>by
  rw[GL,hg];by_cases h:c i=true
  ·refine Bw h ?_;exact il (il (Fj (nb (eF c f g hg l q))))
  ·refine vo h ?_;exact il (nb (eF c f g hg l q))
theorem dB {M:Model}{A:Dq}{E:Value→Shared→Prop}{s:Shared}{m m':Sre.M}{n:Nat}{Q:Option Sre.M→Shared→Prop}(G:Reach n m m')(hn:n≤2 ^ 60)
  (h:(m'.outcome=some .matched∧Q (some m') s)∨(m'.outcome=some .failed∧Q none s)):wpAny M A (Builtin.Re.reRunToEnd m) Q E s:=by
 have B:El n m=m':=G 0;obtain H:m'.outcome.isSome=true:=by rcases h with⟨h,_⟩|⟨h,_⟩<;>rw[h]<;>rfl
 refine il (eY (2 ^ 64) m n (by lia -abstractProof) (by exact DT _) (by refine(ir B)▸?_;exact H) ?_);refine(ir B)▸?_;refine il (eF (fun i=>m'.seen.has i) (fun i=>Sre.names.getD i "") _ (fun i u=>?_) _ ?_)
 ·split<;>rfl
 ·rcases h with⟨h,q⟩|⟨h,q⟩
  ·refine(ir h)▸?_;exact nb q
  ·refine(ir h)▸?_;exact nb q
end
end
section
open PySem PySem.W PyProof.Rows PySem.Builtin PySem.Builtin.Re
theorem mw:plainId "re.Pattern.sub"=true:=by decide+kernel
theorem cj:plainId "re.Pattern.sub.loop"=true:=by decide+kernel
theorem my:He table "re.Pattern.sub"=some DH.«re.Pattern.sub»:=Gf (by kernel_rfl)
theorem eZ:He table "re.Pattern.sub.loop"=some DH.«re.Pattern.sub.loop»:=Gf (by kernel_rfl)
theorem gV:Slot "re.Pattern" "sub" "re.Pattern.sub":=
 .of (owner:="re.Pattern") (n:="sub") (by rw[Dg,sl];kernel_rfl) (by rfl) (by rfl) (by rfl)
  (by first|exact .inl (by decide+kernel)|exact .inr (by rfl)) (by rw[FN];kernel_rfl)
theorem oC:JQ (.builtin "re.Pattern.sub")=pure (.type "method_descriptor"):=by show builtinType _=_;rw[Jc];kernel_rfl
theorem j3 (a b c:Value):HB "re.Pattern.sub" ⟨[a,b,c],[]⟩:=by unfold HB;kernel_rfl
theorem j4:PlainAttrs "re.Pattern":=by
 first
  |exact⟨⟨"object.__getattribute__",by rw[Dg,sl];kernel_rfl,by decide+kernel⟩,by rw[Dg,sl];kernel_rfl⟩
  |exact⟨⟨"re.Pattern.__getattribute__",by rw[Dg,sl];kernel_rfl,by decide+kernel⟩,by rw[Dg,sl];kernel_rfl⟩
theorem j5:Dw (.type "bytes") "__call__"=pure none:=by rw[Dg,sl];kernel_rfl
theorem cf:Slot "bytes" "count" "bytes.count":=
 .of (owner:="bytes") (n:="count") (by rw[Dg,sl];kernel_rfl) (by rfl) (by rfl) (by rfl)
  (by first|exact .inl (by decide+kernel)|exact .inr (by rfl)) (by rw[FN];kernel_rfl)
theorem dC:JQ (.builtin "bytes.count")=pure (.type "method_descriptor"):=by show builtinType _=_;rw[Jc];kernel_rfl
theorem fW:He table "bytes.count"=some DH.«bytes.count»:=Gf (by kernel_rfl)
theorem fh (a b:Value):HB "bytes.count" ⟨[a,b],[]⟩:=by unfold HB;kernel_rfl
structure PatAt (h:Heap)(pat ct:Addr):Prop where
 pat:∃o fs,h.get? pat=some o∧o.cls=.type "re.Pattern"∧o.dict=none∧o.data=.fields fs∧reRawNat (fs.getD 2 .none)=0∧fs.getD 5 .none=.ref ct∧reRawNat (fs.getD 6 .none)=1
 code:∃o q,h.get? ct=some o∧o.data=.seq (cC.map fun(w:Nat)=>DE w) q
theorem PatAt.keeps {h h':Heap}{pat ct:Addr}(x:PatAt h pat ct)(B:∀b o,b=pat∨b=ct→h.get? b=some o→h'.get? b=some o):PatAt h' pat ct:=by
 obtain⟨⟨o,G,h1,h2⟩,H,q,h4,J⟩:=x;exact⟨⟨o,G,B _ _ (.inl rfl) h1,h2⟩,H,q,B _ _ (.inr rfl) h4,J⟩
section
variable {prog:C9}{w:World}{A:Dq}{E:Value→Shared→Prop}{s:Shared}{pat ct:Addr}{b:Array UInt8}{t:Tok}
theorem dW {Q:ReTarget→Shared→Prop}(hp:PatAt s.heap pat ct)(hq:Q { pattern:=.ref pat,string:=.bytes b t,code:=cC,text:=b.map (·.toNat),kind:=1,groups:=0,pos:=0,lim:=(b.map (·.toNat)).size } s):
  wpAny (model prog w) A (reWholeTarget (.ref pat) (.bytes b t)) Q E s:=by
 obtain⟨⟨o,O,h1,h2,h3,h4,B,G,H⟩,V,q,h8,J⟩:=hp;refine il (IR h1 h4 ?_);refine il ?_;refine il (nb ?_);refine il (DU KBy.quiet_eq (nb ?_));refine(ir H)▸?_;refine il ?_;refine il (DU Ji (nb ?_));refine il ?_;refine(ir G)▸?_;refine il (E5 h8 J (nb ?_));refine(ir B)▸?_
 obtain e:(((some (cC.map fun(w:Nat)=>DE w)).getD #[]).map reRawOf).map Int.toNat=cC:=by
  show((cC.map fun(w:Nat)=>DE w).map reRawOf).map Int.toNat=cC;rw[Array.map_map,Array.map_map];exact Array.map_id'' (fun _=>rfl) cC
 refine nb ?_;refine(ir e)▸?_;exact hq
theorem eG {lo hi:Nat}{Q:Value→Shared→Prop}(hb:b.size≤16777216)(hq:∀B k,Q (.bytes (b.extract lo hi) B) { s with toks:=k }):wpAny (model prog w) A (reSlice (b.map (·.toNat)) 1 lo hi) Q E s:=by
 unfold reSlice
 obtain e:((b.map (·.toNat)).extract lo hi).map (·.toUInt8)=b.extract lo hi:=by
  apply Array.ext';simp[Function.comp_def]
 refine(ir e)▸?_;exact KG (hq _ _) (by refine(ir Di)▸?_;simp;lia)
noncomputable def jG:List (List UInt8×List UInt8)→List UInt8→List UInt8
 |[],tail=>tail
 |(p,i)::r,tail=>p++34::(i++34::jG r tail)
noncomputable def dZ:List (List UInt8×List UInt8)→List UInt8→List UInt8
 |[],tail=>tail
 |(p,_)::r,tail=>p++dZ r tail
noncomputable def sj (l:List (List UInt8×List UInt8)):Prop:=∀x∈l,(∀c∈x.1,c≠34)∧cU (x.2.map (·.toNat))
theorem kT {b:Array UInt8}{front l rest:List UInt8}(h:b.toList=front++(l++rest)):LiesAt (b.map (·.toNat)) front.length (l.map (·.toNat)):=by
 intro i c e
 obtain hl:(b.map (·.toNat)).toList=front.map (·.toNat)++(l.map (·.toNat)++rest.map (·.toNat)):=by
  rw[Array.toList_map,h];simp
 rw[Hs,←E6,hl,Gz (by simp)];obtain hi:i<(l.map (·.toNat)).length:=(Dz.mp e).1;simp only[Gi,Nat.add_sub_cancel_left];rw[D1 hi,e];rfl
theorem fi {b:Array UInt8}{front l rest:List UInt8}(h:b.toList=front++(l++rest)):b.extract front.length (front.length+l.length)=l.toArray:=by
 apply Array.ext';rw[Array.toList_extract,h];simp[List.extract]
theorem gv {R:GH→Shared→Prop}{L:Addr}{tr:Tok}{tail:List UInt8}(hp:pat≠L)(hc:ct≠L)(c1:∀c∈tail,c≠34)(hb:b.size≤1000000):
  ∀(O:List (List UInt8×List UInt8)) (s:Shared) (front:List UInt8) (n q:Nat) (items:Array Value) (bs:List (List UInt8)),sj O→b.toList=front++jG O tail→PatAt s.heap pat ct→
  s.heap.get? L=some { cls:=.type "list",dict:=none,data:=.seq items q,slots:= #[] }→All2 (fun(b:List UInt8) v=>∃t,v=D3 b.toArray t) bs items.toList→items.size≤2*front.length→bs.flatten.length≤front.length→
  (∀h' k t',(∀a o,a≠L→s.heap.get? a=some o→h'.get? a=some o)→R (.ok (.ret (.bytes (bs.flatten++dZ O tail).toArray t'))) { s with heap:=h',toks:=k })→
  Fb (model prog w) A (.builtin "re.Pattern.sub.loop" ⟨[.ref pat,.bytes b t,.bytes #[] tr,DE 0,DE 0,DE n,DE front.length,DE front.length,.bool false,.ref L,.bool false],[]⟩) R s:=by
 intro O
 induction O with
 |nil=>
  intro s front n q items bs hs c2 bx hL hi b5 c5 hR;refine EU eZ ?_;refine(ir (Ir cj _))▸?_;show wpAny _ _ (reWholeTarget (.ref pat) (.bytes b t) >>= _) _ _ _;refine il (dW bx ?_);refine jS (show(((0:Int)==0)=true) from rfl) ?_;refine il ?_;refine il (nb ?_);refine jS (show((none:Option Str).isNone=true) from rfl) ?_;refine il (DU Ji ?_);refine nb ?_;refine vo (show¬(((0:Int) != 0&&decide ((n:Int)≥0))=true) from by simp) ?_;rw[EC];have hN:(b.map (·.toNat)).size=b.size:=by simp
  have V:b.toList=front++(tail++[]):=by refine(ir c2)▸?_;simp[jG]
  have G:b.size=front.length+tail.length:=by
   have:=congrArg Ky V;simp at this;trivial
  have a9:=kT V
  refine aE (oB (L:=(b.map (·.toNat)).size) (s:=front.length) (fun c hc=>by
   refine xEA (Hu.mp hc) fun d hd ca=>?_;clear hc;subst ca;intro e;exact c1 d hd (UInt8.toNat_inj.mp e)) (by simp;exact Ct hN G) a9) fun m k hk hr ho=>?_
  refine il (dB hr (by rw[hN]at hk;lia) (.inr ⟨ho,?_⟩))
  have fin:∀(s':Shared) (q':Nat) (B:Array Value) (Z:List (List UInt8)),(∀a o,a≠L→s.heap.get? a=some o→s'.heap.get? a=some o)→(∃h tk,s'={ s with heap:=h,toks:=tk })→
    s'.heap.get? L=some { cls:=.type "list",dict:=none,data:=.seq B q',slots:= #[] }→All2 (fun(b:List UInt8) v=>∃t,v=D3 b.toArray t) Z B.toList→Z.flatten=bs.flatten++tail→
    wpAny (model prog w) A.in1 (do
     let b4 ←reSlice (b.map (·.toNat)) 1 0 0
     let x ←seqItems? (.ref L)
     if (x.getD #[]).isEmpty=true then do
      let text ←pure b4
      if false=true then do
       let y ←Kg [text] do
        let z ←mkInt (n:Int)
        newTuple [text,z]
       ret y
      else ret text
     else do
      let text ←call (.builtin (if (1==0)=true then "str.join" else "bytes.join")) [b4,.ref L]
      if false=true then do
       let y ←Kg [text] do
        let z ←mkInt (n:Int)
        newTuple [text,z]
       ret y
      else ret text)
     (fun fin s'=>match fin with|.done f=>R (.ok f) s'|.again c'=>c'.quiet=true∧Fb (model prog w) A c' R s') (fun e s'=>R (.error e) s') s':=by
   intro s' q' B Z ag cb b6 c0 b2;refine xEE cb fun h1 cc c3=>?_;refine il (eG (by exact o91 hb hN) fun t' k'=>?_);refine(ir (show b.extract 0 0= #[] from by simp))▸?_;refine il (E5 b6 rfl ?_)
   have done:∀b7 be,R (.ok (.ret (.bytes Z.flatten.toArray be))) { s' with toks:=b7 }:=fun b7 be=>by
    have:=hR s'.heap b7 be ag;rw[b2,c3]at *;trivial
   by_cases he:B.isEmpty=true
   ·refine jS (by trivial) ?_;refine il (nb ?_);refine fF En ?_
    obtain ch:Z=[]:=by
     have:=c0.length;obtain h0:B.size=0:=by simpa using he
     simp only[Eb,h0]at this;exact D8.mp this
    have:=done k' t';rw[ch]at this;exact nb this
   ·refine fF (by trivial) ?_;refine(ir (show(JU (if ((1:Nat)==0)=true then "str.join" else "bytes.join"))=.builtin "bytes.join" from rfl))▸?_;refine il (ja (s:={ s' with toks:=k' }) b6 c0 ?_ fun be b7=>?_)
    ·refine(ir b2)▸(ir D2)▸?_;lia
    ·refine fF En ?_;exact nb (done b7 be)
  refine(ir hN)▸?_;by_cases al:front.length<b.size
  ·refine jS al ?_;refine il (eG (by exact o91 hb hN) fun t' k'=>?_);refine(ir G)▸(ir (fi (l:=tail) (rest:=[]) V))▸?_;refine il (FU hL rfl ?_ (by rw[Di];lia) (by rw[GJ,Di];lia));have b1:=Dy (DX (·.push (D3 tail.toArray t'))) hL rfl;refine fin _ _ (items.push (.bytes tail.toArray t')) (bs++[tail]) (fun a o ha e=>(DC _ _ (EL ha)).trans e) ⟨_,_,rfl⟩ (by trivial) ?_ (by simp);refine(ir G3)▸?_;exact hi.append (.cons ⟨t',rfl⟩ .nil)
  ·refine fF al ?_;have c4:tail=[]:=D8.mp (by exact Cg hN G al);exact fin _ _ items bs (fun a o J e=>e) ⟨_,_,rfl⟩ hL hi (by rw[c4,EI])
 |cons x O ih=>
  obtain⟨pre,H⟩:=x;intro s front n q items bs hs c2 bx hL hi b5 c5 hR;refine EU eZ ?_;refine(ir (Ir cj _))▸?_;show wpAny _ _ (reWholeTarget (.ref pat) (.bytes b t) >>= _) _ _ _;refine il (dW bx ?_);refine jS (show(((0:Int)==0)=true) from rfl) ?_;refine il ?_;refine il (nb ?_);refine jS (show((none:Option Str).isNone=true) from rfl) ?_;refine il (DU Ji ?_);refine nb ?_;refine vo (show¬(((0:Int) != 0&&decide ((n:Int)≥0))=true) from by simp) ?_;rw[EC];have hN:(b.map (·.toNat)).size=b.size:=by simp
  have V:b.toList=front++((pre++34::(H++[34]))++jG O tail):=by refine(ir c2)▸?_;simp[jG]
  have G:b.size=front.length+(pre.length+(H.length+2))+(jG O tail).length:=by
   have:=congrArg Ky V;simp at this;exact o80 hN this
  refine xA (hs (pre,H) (by simp)) fun c6 ci=>?_;have a9:=kT V;rw[show(pre++(34:UInt8)::(H++[34])).map (fun x:UInt8=>x.toNat)=pre.map (fun x:UInt8=>x.toNat)++34::(H.map (fun x:UInt8=>x.toNat)++[34]) from by simp]at a9
  refine aZ (qS (L:=(b.map (·.toNat)).size) (fun c hc=>by
   refine xEA (Hu.mp hc) fun d hd d1=>?_;clear hc;subst d1;intro e;exact c6 d hd (UInt8.toNat_inj.mp e)) ci (by simp;exact o98 hN G) a9) fun m k hk hr ho a0 a8=>?_
  refine il (dB hr (by rw[hN]at hk;lia) (.inl ⟨ho,?_⟩));simp only[Gi]at a0 a8;dsimp only;refine(ir a0)▸(ir a8)▸?_
  have fin:∀(s':Shared) (q':Nat) (B:Array Value) (Z:List (List UInt8)),(∀a o,a≠L→s.heap.get? a=some o→s'.heap.get? a=some o)→(∃h tk,s'={ s with heap:=h,toks:=tk })→
    s'.heap.get? L=some { cls:=.type "list",dict:=none,data:=.seq B q',slots:= #[] }→All2 (fun(b:List UInt8) v=>∃t,v=D3 b.toArray t) Z B.toList→B.size≤items.size+1→Z.flatten=bs.flatten++pre→
    wpAny (model prog w) A.in1 (do
     let uD ←pure (D3 #[] tr)
     if (uD != EG)=true then do
      I1 L fun x=>x.push uD
      again (.builtin "re.Pattern.sub.loop" ⟨[.ref pat,.bytes b t,.bytes #[] tr,DE 0,DE 0,DE ((n:Int)+1),DE ((front.length+pre.length+H.length+2:Nat):Int),DE ((front.length+pre.length+H.length+2:Nat):Int),.bool (front.length+pre.length+H.length+2==front.length+pre.length),.ref L,.bool false],[]⟩)
     else again (.builtin "re.Pattern.sub.loop" ⟨[.ref pat,.bytes b t,.bytes #[] tr,DE 0,DE 0,DE ((n:Int)+1),DE ((front.length+pre.length+H.length+2:Nat):Int),DE ((front.length+pre.length+H.length+2:Nat):Int),.bool (front.length+pre.length+H.length+2==front.length+pre.length),.ref L,.bool false],[]⟩))
     (fun fin s'=>match fin with|.done f=>R (.ok f) s'|.again c'=>c'.quiet=true∧Fb (model prog w) A c' R s') (fun e s'=>R (.error e) s') s':=by
   intro s' q' B Z ag d2 b6 c0 bk b2;refine xEE d2 fun h1 cc c3=>?_;refine il (nb ?_);refine jS (show((D3 #[] tr != EG)=true) from rfl) ?_;refine il (FU b6 rfl ?_ (by rw[Di];exact o23 hb b5 hN G a0 a8 bk) (by rw[GJ,Di];exact o20 hb b5 hN G a0 a8 bk));have b1:=Dy (DX (·.push (D3 #[] tr))) b6 rfl;have c7:∀a o,a≠L→s'.heap.get? a=some o→(s'.heap.update L (DX (·.push (D3 #[] tr)))).get? a=some o:=fun a o ha e=>(DC _ _ (EL ha)).trans e;refine(ir (show(front.length+pre.length+H.length+2==front.length+pre.length)=false from by simp;exact o73 hN G a0 a8))▸?_;have b3:(front++(pre++34::(H++[34]))).length=front.length+pre.length+H.length+2:=by simp;exact B9
   refine b3▸?_;refine nb ⟨Jm cj _,ih _ (front++(pre++34::(H++[34]))) (n+1) _ (B.push (.bytes #[] tr)) (Z++[[]]) (fun x hx=>hs x (by simp[hx])) (by refine(ir V)▸?_;simp) ?_ (by simpa [DX] using b1) ?_ ?_ ?_ ?_⟩
   ·exact bx.keeps fun a o ha e=>c7 a o (ha.elim (fun e=>e▸hp) fun e=>e▸hc) (ag a o (ha.elim (fun e=>e▸hp) fun e=>e▸hc) e)
   ·refine(ir G3)▸?_;exact c0.append (.cons ⟨tr,rfl⟩ .nil)
   ·rw[GJ,b3];exact o15 b5 hN G a0 a8 bk b3
   ·rw[KQ,b2,b3,show([[]]:List (List UInt8)).flatten=[] from rfl,EI,D2];exact o39 c5 hN G a0 a8 b3
   ·intro h' k' t' d3;have:=hR h' k' t' fun a o ha e=>d3 a o ha (c7 a o ha (ag a o ha e));refine(ir KQ)▸(ir b2)▸(ir c3)▸?_;simpa [dZ] using this
  by_cases al:front.length<front.length+pre.length
  ·refine jS al ?_;refine il (eG (by exact o66 hb hN G a0 a8) fun t' k'=>?_);rw[fi (l:=pre) (rest:=34::(H++[34])++jG O tail) (by rw[V];simp)];refine il (FU hL rfl ?_ (by rw[Di];exact o33 hb b5 hN G a0 a8 al) (by rw[GJ,Di];exact o26 hb b5 hN G a0 a8 al));refine jS (show(((0:Int)==0)=true) from rfl) ?_;obtain b1:=Dy (DX (·.push (D3 pre.toArray t'))) hL rfl;refine fin _ _ (items.push (.bytes pre.toArray t')) (bs++[pre]) (fun a o ha e=>(DC _ _ (EL ha)).trans e) ⟨_,_,rfl⟩ (by simpa [DX] using b1) ?_ (by rw[GJ];exact DK _) (by simp);refine(ir G3)▸?_;exact hi.append (.cons ⟨t',rfl⟩ .nil)
  ·refine(ir (if_neg al))▸(ir (if_pos (show(((0:Int)==0)=true) from rfl)))▸?_;obtain c4:pre=[]:=D8.mp (by exact CB al);exact fin _ _ items bs (fun a o J e=>e) ⟨_,_,rfl⟩ hL hi (Nat.le_succ _) (by rw[c4,EI])
end
section
variable {prog:C9}{w:World}{A:Dq}{E:Value→Shared→Prop}{s:Shared}{pat ct:Addr}{b:Array UInt8}{t tr:Tok}
set_option backward.match.sparseCases true in
theorem oE {Q:Value→Shared→Prop}{B:List (List UInt8×List UInt8)}{tail:List UInt8}(G:PatAt s.heap pat ct)(H:∀c∈tail,c≠34)(hs:sj B)(Z:b.toList=jG B tail)(hb:b.size≤1000000)
  (hQ:∀h' k t',(∀a o,s.heap.get? a=some o→h'.get? a=some o)→Q (.bytes (dZ B tail).toArray t') { s with heap:=h',toks:=k }):
  wpAny (model prog w) A (call (.builtin "re.Pattern.sub") [.ref pat,.bytes #[] tr,.bytes b t]) Q E s:=by
 obtain hT:s.TypeIs (.ref pat) "re.Pattern":=by obtain⟨⟨o,fs,h1,h2,_⟩,_⟩:=G;exact yEA o h1 h2
 refine Gm (codeAny_call_builtin mw my (gV.check _ _ _ _ _ _ _ _ hT (j3 _ _ _) ?_));show wpAny _ _ (reSubstitute "re.Pattern.sub" "sub" false ⟨[.ref pat,.bytes #[] tr,.bytes b t],[]⟩) _ _ _;refine il (DU (a:=[some (D3 #[] tr),some (D3 b t),none]) (by rfl) ?_);refine il (nb ?_);refine il (DU (KBy.special_eq j5) ?_);refine il (nb ?_);refine il (DU KBy.quiet_eq ?_);dsimp only;refine il (nb ?_);refine(ir (if_neg (show¬((none:Option Value).isSome=true) from En)))▸(ir (if_pos (show((!(#[]:Array UInt8).contains 92)=true) from by grind -abstractProof)))▸?_;refine il (nb ?_);refine il (Dx (dW G ?_));refine il (EK ?_ (by refine(ir Di)▸?_;decide));have hk:∀a o,s.heap.get? a=some o→(s.heap.push { cls:=.type "list",data:=.seq ([]:List Value).toArray }).get? a=some o:=fun a o e=>mc _ e;have O:∀a o,s.heap.get? a=some o→a≠s.heap.objs.size:=fun a o e=>Dh (rl e);have V:=G;obtain⟨⟨o,fs,h1,h2,_⟩,o',q,h3,_⟩:=V;refine nb ⟨Jm cj _,?_⟩
 have:=gv (prog:=prog) (w:=w) (A:=A) (t:=t) (tr:=tr) (O _ _ h1) (O _ _ h3) H hb B { s with heap:=s.heap.push { cls:=.type "list",data:=.seq ([]:List Value).toArray } } [] 0 0 #[] []
  (R:=fun r s'=>match r with|.ok (.ret v)=>Q v s'|.ok _=>False|.error e=>E e s') hs (by refine(ir Z)▸?_;rfl) (G.keeps fun a o J e=>hk a o e) (rh _ rfl) .nil (by decide) (by decide) ?_
 ·exact this
 ·intro h' k t' a0;exact hQ h' k t' fun a o e=>a0 a o (O a o e) (hk a o e)
noncomputable def occ (b:Array UInt8) (c:UInt8):List Nat×Nat→Nat→List Nat×Nat:=fun acc i=>if i≥acc.2&&b.extract i (i+1)== #[c] then (i::acc.1,i+1) else acc
theorem w6 {b:Array UInt8}{c d:UInt8}{i m:Nat}{acc:List Nat}(h:b.extract i (i+1)= #[d])(B:m≤i):occ b c (acc,m) i=if d=c then (i::acc,i+1) else (acc,m):=by
 unfold occ;rw[h];by_cases hd:d=c<;>simp[hd,B]
theorem ua {c:UInt8}(l:List UInt8):∀(b:Array UInt8) (front:List UInt8) (k:Nat),front.length=k→b.toList=front++l→∀(acc:List Nat) (m:Nat),m≤k→
  (((Gy k l.length).foldl (occ b c) (acc,m)).1).length=acc.length+l.count c:=by
 induction l with
 |nil=>intro _ _ _ _ _ _ _ _;rfl
 |cons d l B=>
  intro b front k G h acc m H;obtain B:=B b (front++[d]) (k+1) (by refine G▸?_;exact D2) (by refine(ir h)▸?_;exact List.append_cons _ _ _);have hex:b.extract k (k+1)= #[d]:=G▸fi (b:=b) (front:=front) (l:=[d]) (rest:=l) h;refine(ir Ep)▸(ir List.range'_succ)▸(ir Hn)▸(ir (w6 hex H))▸?_;by_cases hd:d=c
  ·rw[if_pos hd,B _ _ (DK _),hd,List.count_cons_self];exact ER _ 1 _
  ·rw[if_neg hd,B _ _ (Nat.le_succ_of_le H),List.count_cons_of_ne hd]
theorem dD {Q:Value→Shared→Prop}{c:UInt8}(hb:b.size≤1000000)(hq:∀J k,Q (.int (b.toList.count c) J) { s with toks:=k }):wpAny (model prog w) A (call (.builtin "bytes.count") [.bytes b t,.bytes #[c] tr]) Q E s:=by
 refine Et cf (ID _ _ _) fW ?_ (fh _ _);show wpAny _ _ (Bytes.countM .bytes _) _ _ _;refine il ?_;refine il (DU (a:=(D3 b t,[D3 #[c] tr])) (by rfl) ?_);refine il (nb ?_);refine il (nb ?_);refine il (DU KBy.buffer_eq ?_);refine il (nb ?_);refine il (DU (a:=b) (by rfl) ?_)
 obtain O:Bytes.window b.size none none=((0:Int),((b.size:Nat):Int)):=by
  unfold Bytes.window;dsimp only[K0];rw[if_neg (by lia -abstractProof),if_neg (by lia -abstractProof),Int.min_self]
 refine(ir O)▸?_;refine nb ?_;by_cases H:b.size=0
 ·obtain G:b.toList.count c=0:=by
   have:b.toList=[]:=D8.mp (by simpa using H);refine(ir this)▸?_;rfl
  rw[if_pos (by rw[H];simp)];rw[G]at hq;exact il (wpAny_mkInt (nb ⟨_,rfl,hq _ _⟩))
 ·rw[if_neg (by simp;lia -abstractProof)];refine fF (by simp) ?_
  obtain B:(Bytes.occurrences b #[c] (0:Int).toNat ((b.size:Nat):Int).toNat).length=b.toList.count c:=by
   have:=ua (c:=c) b.toList b [] 0 rfl rfl [] 0 (DK _);unfold occ at this;refine(ir List.length_reverse)▸?_;simpa [List.range_eq_range'] using this
  refine(ir B)▸?_;exact il (wpAny_mkInt (nb ⟨_,rfl,hq _ _⟩))
end
end
section
open PySem PySem.W PyProof.Rows PySem.Builtin
noncomputable def QOk (q:List UInt8):Prop:=∃B:List UInt8,q=34::(B++[34])∧cU (B.map (·.toNat))
noncomputable def PTx (θ:Th) (b:List At) (r:Int):Prop:=∃B tail,sj B∧(∀c∈tail,c≠34)∧(θ.byt b).toList=jG B tail∧(((dZ B tail).count 40:Nat):Int)-(((dZ B tail).count 41:Nat):Int)=r∧(dZ B tail).length≤b.length
theorem fj {θ:Th}(hq:∀k,QOk (θ.qb k)):∀(b:List At) {r:Int},eI b=some r→PTx θ b r
 |[],r,h=>by injection h with h;subst h;exact bi ([]) ([]) (fun J h=>(Dr h).elim) (fun J h=>(Dr h).elim) rfl rfl (DK _)
 |.c n::l,r,h=>by
  apply aS h;clear h;intro b hb h;refine aZ (fj hq l hb) fun B tail h1 h2 h3 h4 h5=>?_
  have key:∀c:UInt8,c≠34→θ.atB (.c n)=[c]→(if c=40 then b+1 else if c=41 then b-1 else b)=r→PTx θ (.c n::l) r:=by
   intro c hc V Z
   have O:∀m:List UInt8,(((m.count 40:Nat):Int)-((m.count 41:Nat):Int)=b)→((((c::m).count 40:Nat):Int)-(((c::m).count 41:Nat):Int)=r):=by
    intro m hm;simp only[List.count_cons];by_cases e1:c=40
    ·clear V hc;subst e1;rw[if_pos rfl]at Z;simp;exact Ca hm Z
    ·by_cases e2:c=41
     ·clear V hc;subst e2;rw[if_neg (by assumption),if_pos rfl]at Z;simp;exact Cc hm Z
     ·rw[if_neg e1,if_neg e2]at Z;simp[e1,e2];exact Cq Z hm
   have G:(θ.byt (.c n::l)).toList=c::(θ.byt l).toList:=by
    show(θ.flatB (.c n::l))=c::θ.flatB l;rw[Th.flatB_cons,V];rfl
   cases B with
   |nil=>
    refine⟨[],c::tail,h1,fun d hd=>?_,by rw[G,h3];rfl,O _ h4,by simpa [dZ] using h5⟩;rcases Da.mp hd with e|e
    ·rw[e];exact hc
    ·exact h2 d e
   |cons x B=>
    obtain⟨p,i⟩:=x;refine⟨(c::p,i)::B,tail,fun y hy=>?_,h2,by rw[G,h3];rfl,O _ h4,by simpa [dZ] using h5⟩;rcases Da.mp hy with e|e
    ·clear hy;subst e;refine xA (h1 (p,i) (by exact .head _)) fun g1 g2=>?_;refine⟨fun d hd=>?_,g2⟩;rcases Da.mp hd with e|e
     ·rw[e];exact hc
     ·exact g1 d e
    ·exact h1 y (by simp[e])
  refine c8 h (fun H h=>?_) fun H h=>?_
  ·injection h with h;subst h;have:=nd H;clear h H;subst this;exact key 40 (by decide) rfl (by rw[if_pos rfl])
  ·refine az h fun a0 h=>?_;injection h with h;subst h;have:=nd a0;clear h a0 H;subst this;exact key 41 (by decide) rfl (by rw[if_neg (by decide),if_pos rfl])
 |.t k s::l,r,h=>by
  refine az h fun hs h=>?_;refine aZ (fj hq l h) fun B tail h1 h2 h3 h4 h5=>?_;refine xEA (hq k) fun a8 hi a9=>?_;refine⟨([],a8)::B,tail,fun y hy=>?_,h2,?_,by trivial,by simp[dZ];exact BY h5⟩
  ·rcases Da.mp hy with e|e
   ·clear hy;subst e;exact⟨fun J h=>(Dr h).elim,a9⟩
   ·exact h1 y e
  ·obtain G:(θ.byt (.t k s::l)).toList=θ.qb k++(θ.byt l).toList:=by
    show(θ.flatB (.t k s::l))=_;rfl
   rw[G,h3,hi];simp[jG]
section
variable {prog:C9}{w:World}{A:Dq}{E:Value→Shared→Prop}{s:Shared}{B:Fix}{θ:Th}{n:Nat}
theorem ub {h:Heap}{pat ct:Addr}(hp:PatAt h pat ct){s:Shared}(e:s.heap=h):s.TypeIs (.ref pat) "re.Pattern":=by
 obtain⟨⟨o,G,h1,h2,_⟩,_⟩:=hp;exact yEA o (by refine(ir e)▸?_;exact h1) h2
theorem qU (G:Glob B){pat ct:Addr}(hq:G.val "_quoted"=some (.ref pat))(J:∀h,Mine.Lake.Keeps B h→PatAt h pat ct){H:List (List UInt8×List UInt8)}{tail:List UInt8}(V:∀c∈tail,c≠34)(hs:sj H){b:Array UInt8}{t td:Tok}{d:Int}
  (a0:b.toList=jG H tail)(hb:b.size≤1000000)(ho:(dZ H tail).length≤1000000){env:Env}{s₀:Shared}{m:Str→Option Value}(f:Fw (aa (ac 4)).scope B env s₀ m s)(a8:m "data"=some (.bytes b t))(a9:m "depth"=some (.int d td)){Q:Flow→Shared→Prop}
  (hQ:∀h' k tr,(∀b o,s₀.heap.get? b=some o→h'.get? b=some o)→Q (.ret (.int (d+((((dZ H tail).count 40:Nat):Int))-(((dZ H tail).count 41:Nat):Int)) tr)) { s₀ with heap:=h',toks:=k }):
  wpAny (model prog w) A (execs (aa (ac 4)).body env) Q E s:=by
 refine csA ?_ (by rfl);refine Dk rfl rfl rfl ?_;refine f.glob G rfl hq ?_;have hp:=J _ f.keeps;refine mOn (T:="re.Pattern") (id:="re.Pattern.sub") j4 gV oC (ub hp rfl) (fun a e=>?_) ?_
 ·injection e with e;subst e;obtain⟨⟨o,fs,h1,h2,h3,_⟩,_⟩:=hp;exact yEA o h1 h3
 refine cw2 (HZ ?_);refine(f.tok).name rfl a8 ?_;refine oE (J _ f.keeps) V hs a0 hb fun h' k t' ag=>?_;obtain f1:=(f.tok (t:=s.toks+1)).go (h':=h') (t:=k) ag;refine f1.store rfl fun s2 f2=>?_;refine csR ?_
 obtain Z:(fun y=>if y=t5 "data" then some (D3 (dZ H tail).toArray t') else m y) "depth"=some (.int d td):=by
  refine a9▸?_;exact if_neg (by decide)
 have O:(fun y=>if y=t5 "data" then some (D3 (dZ H tail).toArray t') else m y) "data"=some (D3 (dZ H tail).toArray t'):=if_pos rfl;refine EO (EO ?_);refine f2.name rfl Z ?_;refine Dk rfl rfl rfl ?_;refine f2.name rfl O ?_;refine mOn (T:="bytes") (id:="bytes.count") Lu cf dC (ID _ _ _) (fun a e=>(by contradiction)) ?_;refine cw1 (HZ ?_);refine dD (by trivial) fun t3 k3=>?_;refine P.add_int ?_;have f3:=(f2.tok (t:=k3+1))
 refine Dk rfl rfl rfl ?_;refine f3.name rfl O ?_;refine mOn (T:="bytes") (id:="bytes.count") Lu cf dC (ID _ _ _) (fun a e=>(by contradiction)) ?_;refine cw1 (HZ ?_);refine dD (by trivial) fun t4 k4=>?_;refine P.sub_int ?_;exact(f3.tok (t:=k4+1)).fin (Q:=fun v s=>Q (.ret v) s) fun h' k hk=>hQ h' k _ hk
theorem w7 (G:Glob B)(hb:θ.Bd)(b3:∀k,QOk (θ.qb k)){pat ct a T:Addr}(hq:G.val "_quoted"=some (.ref pat))(ag:∀h,Mine.Lake.Keeps B h→PatAt h pat ct)
  (F:aY B a (aD (ac 4)) (aa (ac 4)).body (aa (ac 4)).scope (.ref T))(hT:∀h,Mine.Lake.Keeps B h→∃o q t,h.get? T=some o∧o.data=.seq #[.int 0 t] q):KcOk prog w θ B n (.ref a) ⟨li⟩:=by
 intro A E Q sc env ρ st s vs us r st' R S ha e k;obtain al:A.depth<Ed:=by have:=R.1.2.1;exact o46 this
 have main:∀(b:List At) (bal d:Int) (t td:Tok) (us:List Value) (binds:List (Str×Value)),eI b=some bal→E7 b.length 2000=true→us=us→(∀fd:Fx,fd.params=aD (ac 4)→fd.defaults=.ref T→fd.kwdefaults=.none→JL s fd ⟨us,[]⟩ binds)→
   (∀x∈binds,(aa (ac 4)).scope.names.lookup x.1=some .local)→binds.reverse.lookup ("data":Str)=some (D3 (θ.byt b) t)→binds.reverse.lookup ("depth":Str)=some (Dm d td)→
   (∀tr,PostV θ B sc env ρ st s (.none) st (fun J s'=>Q (.int (d+bal) tr) s'))→wpAny (model prog w) A (call (.ref a) us) Q E s:=by
  intro b bal d t td us binds H b1 _ V b2 b4 b5 hQ;refine aZ (fj b3 b H) fun O tail h1 h2 h3 h4 h5=>?_;have hl:=DG b1;refine bW G F S.keeps al V (by decide) b2 fun bx s₁ E' f J=>?_
  obtain b6:(θ.byt b).size≤1000000:=by
   have:=dr hb b;show(θ.flatB b).toArray.size≤_;simp;lia -abstractProof
  refine qU G hq ag h2 h1 h3 b6 (by lia -abstractProof) f b4 b5 fun h' kk tr hk=>?_;obtain e1:d+(((dZ O tail).count 40:Nat):Int)-(((dZ O tail).count 41:Nat):Int)=d+bal:=by exact Ce h4
  rw[e1];exact hQ tr .none ρ _ (S.kept hk kk) (Kp.kept NoW ρ s kk hk) rfl rfl
 refine pG e (fun b hv e=>?_) fun b c x hv e=>?_<;>subst hv
 ·refine gX (bH ha) fun u Z t a0=>?_;subst Z;subst a0;apply bN e;clear e;intro hl e;apply ax e;clear e;intro bal H e;obtain k:=k.ok e;clear e;refine bq (hT _ S.keeps) fun o q td a8 a9=>?_;refine main b bal 0 t td [.bytes (θ.byt b) t] [("data",.bytes (θ.byt b) t),("depth",.int 0 td)] H hl rfl (fun fd hp hd hkd=>?_) (by intro x hx;rcases Da.mp hx with e|e;(rw[e];rfl);(rw[DD.mp e];rfl)) rfl rfl fun tr u ρ' s' S' K' l' J=>?_
  ·cases fd;dsimp only at hp hd hkd;subst hp hd hkd;exact Fl rfl a8 a9 (by rfl) (by rfl)
  ·exact k _ _ _ S' K' l' ⟨tr,rfl⟩
 ·refine aE (two_args ha) fun u u' b7 be bk=>?_;subst b7;refine xE be fun t a0=>?_;subst a0;refine xE bk fun t' Z=>?_;subst Z;apply bN e;clear e;intro hl e;apply ax e;clear e;intro bal H e;obtain k:=k.ok e;clear e;refine bq (hT _ S.keeps) fun o q td a8 a9=>?_;refine main b bal (θ.iv c x) t t' [.bytes (θ.byt b) t,.int (θ.iv c x) t'] [("data",.bytes (θ.byt b) t),("depth",.int (θ.iv c x) t')] H hl rfl (fun fd hp hd hkd=>?_) (by intro x hx;rcases Da.mp hx with e|e;(rw[e];rfl);(rw[DD.mp e];rfl)) rfl rfl fun tr u ρ' s' S' K' l' J=>?_
  ·cases fd;dsimp only at hp hd hkd;subst hp hd hkd;exact Fl rfl a8 a9 (by rfl) (by rfl)
  ·have:θ.iv (c+bal) x=θ.iv c x+bal:=by
    cases x with
    |zero=>rfl
    |succ x=>show c+bal+θ.X x=c+θ.X x+bal;exact o69
   refine k _ _ _ S' K' l' ⟨tr,?_⟩;rw[this]
end
end
section
open PySem PySem.W PyProof.Rows PySem.Builtin PySem.Builtin.Str
noncomputable def AH (t r:List At):Prop:=∃pre q m tl,t=(pre++q).map At.c++ .c m::tl∧r=q.map .c∧(pre=[]∨∃B,pre=B++[46])∧46∉q∧58∉pre++q∧10∉pre++q∧(m=58∨m=10)
theorem eH:∀(s:List At) (acc:List Nat) {r:List At},dn (acc.map .c) s=some r→46∉acc→58∉acc→10∉acc→
  AH (acc.map .c++s) r
 |[],acc,r,h,_,_,_=>by contradiction
 |.t k j::s,acc,r,h,_,_,_=>by contradiction
 |.c n::s,acc,r,h,V,J,O=>by
  refine c8 h (fun B h=>?_) fun B h=>?_
  ·injection h with h;subst h;exact c9 ([]) acc n s rfl rfl (.inl rfl) V J O (.inl (nd B))
  ·refine c8 h (fun G h=>?_) fun G h=>?_
   ·injection h with h;subst h;exact c9 ([]) acc n s rfl rfl (.inl rfl) V J O (.inr (nd G))
   ·obtain a0:n≠58:=fun e=>by rw[e]at B;contradiction
    obtain a8:n≠10:=fun e=>by rw[e]at G;contradiction
    refine c8 h (fun H h=>?_) fun H h=>?_
    ·have Z:n=46:=nd H;clear H a8 a0 G B;subst Z;refine em (eH s [] h (by decide) (by decide) (by decide)) fun pre q m tl g1 g2 g3 g4 g5 g6 g7=>?_;refine c9 (acc++46::pre) q m tl ?_ g2 (.inr ?_) g4 ?_ ?_ g7
     ·have g1:s=(pre++q).map At.c++ .c m::tl:=g1;rw[g1];simp
     ·rcases g3 with rfl|⟨p',rfl⟩
      ·exact⟨acc,rfl⟩
      ·exact⟨acc++46::p',by simp⟩
     ·simp at g5⊢;exact⟨J,g5⟩
     ·simp at g6⊢;exact⟨O,g6⟩
    ·obtain Z:n≠46:=fun e=>by rw[e]at H;contradiction
     rw[show acc.map At.c++[.c n]=(acc++[n]).map At.c from by simp]at h;refine em (eH s (acc++[n]) h (by grind) (by grind) (by grind)) fun pre q m tl g1 g2 g3 g4 g5 g6 g7=>?_;exact c9 pre q m tl (by rw[←g1];simp) g2 g3 g4 g5 g6 g7
theorem fk (x:Str)(c hi i:Nat)(H:hi≤x.length):F1 x ⟨#[c]⟩ hi i↔i<hi∧x.cps.toList[i]?=some c:=by
 have h1:=GS x c i;obtain hl:(⟨#[c]⟩:Str).length=1:=rfl;unfold F1;rw[hl]at h1⊢;constructor
 ·intro B;refine xA B fun a b=>?_;exact⟨by trivial,h1.mp ⟨by lia,b⟩⟩
 ·intro G;refine xA G fun a b=>?_;exact⟨by trivial,(h1.mpr b).2⟩
theorem jH (x y:Str)(hi:Nat):(occurrences x y 0 hi 1=[]∧∀i,¬F1 x y hi i)∨∃i r,occurrences x y 0 hi 1=i::r∧F1 x y hi i∧∀k,k<i→¬F1 x y hi k:=by
 rw[StrLaws.occ_eq];rcases StrLaws.occ_first x y hi 1 (DK 1) (Gy 0 (hi+1-0)) 0 (fun J J=>Ej _)with⟨G,hn⟩|⟨pre,a,post,e,G,ha,hn⟩
 ·refine .inl ⟨by rw[G],fun i B=>?_⟩;exact hn i (by have:=B.1;simp[List.mem_range']<;>exact Bm this) B
 ·refine .inr ⟨a,((forIn (Gy 0 (hi+1-0)) ((#[]:Array Nat),0) (KZ x y hi 1)).run.fst.toList).tail,?_,ha,fun k O=>hn k (StrLaws.range'_split e k O)⟩;generalize (forIn (Gy 0 (hi+1-0)) ((#[]:Array Nat),0) (KZ x y hi 1)).run.fst=arr at G;have h1:arr.toList[0]?=some a:=by simpa using G
  cases H:arr.toList with
  |nil=>rw[H]at h1;contradiction
  |cons b t=>rw[H]at h1;simp at h1;refine(ir h1)▸?_;rfl
theorem kU (x y:Str)(hi:Nat):(lastOccurrence x y 0 hi=none∧∀i,¬F1 x y hi i)∨∃i,lastOccurrence x y 0 hi=some i∧F1 x y hi i∧∀k,i<k→¬F1 x y hi k:=by
 rw[StrLaws.last_eq];have key:=StrLaws.last_run x y hi (Gy 0 (hi+1-0)) [] none (fun J h=>(by contradiction)) (fun J h=>(by contradiction)) (by simpa using List.pairwise_lt_range' (s:=0) (n:=hi+1-0));have B:∀i,F1 x y hi i→i∈[]++Gy 0 (hi+1-0):=fun i G=>by have:=G.1;simp[List.mem_range']<;>exact Bm this
 cases H:(forIn (Gy 0 (hi+1-0)) none (StrLaws.lastBody x y hi)).run with
 |none=>rw[H]at key;exact .inl ⟨rfl,fun i hi=>key i (B i hi) hi⟩
 |some a=>rw[H]at key;exact .inr ⟨a,rfl,key.1,fun k V O=>key.2 k (B k O) V O⟩
noncomputable def aO (x y:Str) (hi:Nat):Int:=match occurrences x y 0 hi 1 with|i::_=>(i:Int)|[]=> -1
noncomputable def lastOf (x y:Str) (hi:Nat):Int:=match lastOccurrence x y 0 hi with|some i=>(i:Int)|none=> -1
section
variable {x:Str}{c:Nat}{a b:List Nat}
theorem jI (B:x.cps.toList=a++c::b)(J:c∉a){hi:Nat}(h1:a.length<hi)(h2:hi≤x.length):aO x ⟨#[c]⟩ hi=a.length:=by
 have G:F1 x ⟨#[c]⟩ hi a.length:=(fk x c hi _ h2).mpr ⟨h1,by rw[B];simp⟩;unfold aO;rcases jH x ⟨#[c]⟩ hi with⟨_,hn⟩|⟨i,r,h0,hi',hn⟩
 ·exact absurd G (hn _)
 ·rw[h0];refine xA ((fk x c hi i h2).mp hi') fun O H=>?_
  have:i=a.length:=by
   rcases HP i a.length with h|h|h
   ·exfalso;rw[B,D1 h]at H;exact J (C6 H)
   ·exact h
   ·exact absurd G (hn _ h)
  rw[this]
theorem qV (G:x.cps.toList=a++b)(O:c∉a){hi:Nat}(h1:hi≤a.length):aO x ⟨#[c]⟩ hi= -1:=by
 obtain B:hi≤x.length:=by
  have:x.length=x.cps.toList.length:=rfl;rw[this,G,D2];lia
 unfold aO;rcases jH x ⟨#[c]⟩ hi with⟨H,_⟩|⟨i,r,H,hi',_⟩
 ·rw[H]
 ·exfalso;refine xA ((fk x c hi i B).mp hi') fun V J=>?_;rw[G,D1 (by lia)]at J;exact O (C6 J)
theorem mz (H:x.cps.toList=a++b)(J:c∉a):aO x ⟨#[c]⟩ x.length= -1∨∃i:Nat,aO x ⟨#[c]⟩ x.length=i∧a.length≤i∧i<x.length:=by
 unfold aO;rcases jH x ⟨#[c]⟩ x.length with⟨B,_⟩|⟨i,r,B,hi',_⟩
 ·exact .inl (by rw[B])
 ·refine xA ((fk x c x.length i (DK _)).mp hi') fun O G=>?_;refine .inr ⟨i,by rw[B],?_,O⟩
  cases Jh i a.length with
  |inl h=>
   rw[H,D1 h]at G;exact absurd (C6 G) J
  |inr h=>exact h
theorem yH (G:x.cps.toList=(a++c::b)){q tl:List Nat}(hb:b=q++tl)(hq:c∉q):lastOf x ⟨#[c]⟩ (a.length+1+q.length)=a.length:=by
 have B:a.length+1+q.length≤x.length:=by
  have:x.length=x.cps.toList.length:=rfl;rw[this,G,hb];simp;lia
 have J:F1 x ⟨#[c]⟩ (a.length+1+q.length) a.length:=(fk x c _ _ B).mpr ⟨by lia,by rw[G];simp⟩;unfold lastOf;rcases kU x ⟨#[c]⟩ (a.length+1+q.length)with⟨_,hn⟩|⟨i,h0,hi',hn⟩
 ·exact absurd J (hn _)
 ·rw[h0];refine xA ((fk x c _ i B).mp hi') fun O H=>?_
  have:i=a.length:=by
   rcases HP i a.length with h|h|h
   ·exact absurd J (hn _ h)
   ·exact h
   ·exfalso;rw[G,hb,Gz (by lia)]at H;obtain e:i-a.length=(i-a.length-1)+1:=by lia
    rw[e,H4,D1 (by lia)]at H;exact hq (C6 H)
  rw[this]
theorem uc (G:x.cps.toList=a++b)(O:c∉a):lastOf x ⟨#[c]⟩ a.length= -1:=by
 obtain B:a.length≤x.length:=by
  have:x.length=x.cps.toList.length:=rfl;rw[this,G,D2];exact o43
 unfold lastOf;rcases kU x ⟨#[c]⟩ a.length with⟨H,_⟩|⟨i,H,hi',_⟩
 ·rw[H]
 ·exfalso;refine xA ((fk x c _ i B).mp hi') fun V J=>?_;rw[G,D1 (by lia)]at J;exact O (C6 J)
end
theorem oG (x y:Str)(hi:Nat)(t u v r:Tok)(B:hi≤x.length):Gives («str.find» ⟨[.str x t,.str y u,.int 0 v,.int hi r],[]⟩) (.int (aO x y hi)):=by
 obtain h1:(max (0:Int) (if (0:Int)<0 then 0+(x.length:Int) else 0)).toNat=0:=by rfl
 obtain h2:min (max (0:Int) (if ((hi:Nat):Int)<0 then ((hi:Nat):Int)+(x.length:Int) else hi)).toNat x.length=hi:=by
  rw[if_neg (by exact Bt)];grind -abstractProof
 show Gives (match occurrences x y (max (0:Int) (if (0:Int)<0 then 0+(x.length:Int) else 0)).toNat (min (max (0:Int) (if ((hi:Nat):Int)<0 then ((hi:Nat):Int)+(x.length:Int) else hi)).toNat x.length) 1 with|i::_=>retInt i|[]=>(do rule "str.find.not-found";retInt (-1))) _;refine(ir h1)▸(ir h2)▸?_;unfold aO
 cases occurrences x y 0 hi 1 with
 |nil=>exact .rule (.of_eq rfl)
 |cons i _=>exact .of_eq rfl
theorem mB (x y:Str)(hi:Nat)(t u v r:Tok)(B:hi≤x.length):Gives («str.rfind» ⟨[.str x t,.str y u,.int 0 v,.int hi r],[]⟩) (.int (lastOf x y hi)):=by
 obtain h1:(max (0:Int) (if (0:Int)<0 then 0+(x.length:Int) else 0)).toNat=0:=by rfl
 obtain h2:min (max (0:Int) (if ((hi:Nat):Int)<0 then ((hi:Nat):Int)+(x.length:Int) else hi)).toNat x.length=hi:=by
  rw[if_neg (by exact Bt)];grind -abstractProof
 show Gives (match lastOccurrence x y (max (0:Int) (if (0:Int)<0 then 0+(x.length:Int) else 0)).toNat (min (max (0:Int) (if ((hi:Nat):Int)<0 then ((hi:Nat):Int)+(x.length:Int) else hi)).toNat x.length)with|some i=>retInt i|none=>(do rule "str.rfind.not-found";retInt (-1))) _;refine(ir h1)▸(ir h2)▸?_;unfold lastOf
 cases lastOccurrence x y 0 hi with
 |none=>exact .rule (.of_eq rfl)
 |some i=>exact .of_eq rfl
theorem qW (a b c d:Value):HB "str.find" ⟨[a,b,c,d],[]⟩:=by
 unfold HB;refine(ir (Ii (id:="str.find") (n:=['d','n','i','f']) (o:=['r','t','s']) (by kernel_rfl) F.owner_str))▸?_;kernel_rfl
theorem oH (a b c d:Value):HB "str.rfind" ⟨[a,b,c,d],[]⟩:=by
 unfold HB;refine(ir (Ii (id:="str.rfind") (n:=['d','n','i','f','r']) (o:=['r','t','s']) (by kernel_rfl) F.owner_str))▸?_;kernel_rfl
section
variable {prog:C9}{w:World}{A:Dq}{E:Value→Shared→Prop}{s:Shared}
theorem qX {x y:Str}{hi:Nat}{t u v r:Tok}{Q:Value→Shared→Prop}(B:hi≤x.length)(hq:Q (.int (aO x y hi) s.toks) { s with toks:=s.toks+1 }):wpAny (model prog w) A (call (.builtin "str.find") [.str x t,.str y u,.int 0 v,.int hi r]) Q E s:=
 call_gives JZ (EX _ _ _) F.entry_str_find (qW _ _ _ _) (oG x y hi t u v r B) hq
theorem oJ {x y:Str}{hi:Nat}{t u v r:Tok}{Q:Value→Shared→Prop}(B:hi≤x.length)(hq:Q (.int (lastOf x y hi) s.toks) { s with toks:=s.toks+1 }):wpAny (model prog w) A (call (.builtin "str.rfind") [.str x t,.str y u,.int 0 v,.int hi r]) Q E s:=
 call_gives F.slot_str_rfind (EX _ _ _) F.entry_str_rfind (oH _ _ _ _) (mB x y hi t u v r B) hq
end
theorem qY {x:Str}{pre q T:List Nat}{m:Nat}(B:x.cps.toList=(pre++q)++m::T)(hp:pre=[]∨∃O,pre=O++[46])(V:46∉q)(H:58∉pre++q)(J:10∉pre++q)(Z:m=58∨m=10):
  ∃e1:Nat,e1≤x.length∧((aO x ⟨#[10]⟩ x.length= -1∧e1=x.length)∨aO x ⟨#[10]⟩ x.length=(e1:Int))∧((aO x ⟨#[58]⟩ e1= -1∧e1=(pre++q).length)∨aO x ⟨#[58]⟩ e1=((pre++q).length:Int))∧
   ((lastOf x ⟨#[46]⟩ (pre++q).length= -1∧pre.length=0)∨∃k:Nat,lastOf x ⟨#[46]⟩ (pre++q).length=(k:Int)∧pre.length=k+1):=by
 have G:x.length=(pre++q).length+(T.length+1):=by
  have:x.length=x.cps.toList.length:=rfl;refine(ir this)▸(ir B)▸?_;simp;lia -abstractProof
 have h3:(lastOf x ⟨#[46]⟩ (pre++q).length= -1∧pre.length=0)∨∃k:Nat,lastOf x ⟨#[46]⟩ (pre++q).length=(k:Int)∧pre.length=k+1:=by
  rcases hp with rfl|⟨O,rfl⟩
  ·left;exact⟨uc (a:=[]++q) (b:=m::T) B (by trivial),rfl⟩
  ·right;refine yEA O.length ?_ (by simp);have:=yH (x:=x) (c:=46) (a:=O) (b:=q++m::T) (by refine(ir B)▸?_;simp) (q:=q) (tl:=m::T) rfl V;refine(ir (show((O++[46]++q:List Nat)).length=O.length+1+q.length from by simp;exact o32))▸?_;exact this
 rcases Z with rfl|rfl
 ·rcases mz (x:=x) (c:=10) (a:=(pre++q)++[58]) (b:=T) (by refine(ir B)▸?_;simp) (by simp at J⊢;exact J)with h|⟨i,hi,h1,h2⟩
  ·refine gH x.length (DK _) (.inl ⟨h,rfl⟩) (.inr ?_) h3;exact jI B H (by exact o92 G) (DK _)
  ·refine gH i (D9 h2) (.inr hi) (.inr ?_) h3;exact jI B H (by simp at h1⊢;lia -abstractProof) (D9 h2)
 ·refine gH ((pre++q).length) (by lia -abstractProof) (.inr (jI B J (by exact o92 G) (DK _))) (.inl ⟨qV B H (DK _),rfl⟩) h3
section
variable {prog:C9}{w:World}{A:Dq}{E:Value→Shared→Prop}{s:Shared}{B:Fix}{θ:Th}{n:Nat}
theorem yI {x:Str}{t:Tok}{a b:Nat}{u v:Tok}{Q:Value→Shared→Prop}(hl:x.length≤1000000)(J:a≤b)(hb:b≤x.length)(hq:∀Z k,Q (.str ⟨((x.cps.toList.drop a).take (b-a)).toArray⟩ Z) { s with toks:=k }):
  (I2 x t (some ((a:Int),u)) (some ((b:Int),v)) none).post Q s:=by
 have O:FA x.length (a:Int)=a:=by unfold FA;split<;>lia -abstractProof
 have V:FA x.length (b:Int)=b:=by unfold FA;split<;>lia -abstractProof
 have G:((E1 x (some ((a:Int),u)) (some ((b:Int),v)) none).filterMap (x.cps[·]?))=(x.cps.toList.drop a).take (b-a):=by
  show(DZ (some (a:Int)) (some (b:Int)) 1 x.length).filterMap _=_;rw[bO];show((DQ (FA x.length (b:Int)-FA x.length (a:Int))).map (FA x.length (a:Int)+·)).filterMap _=_;rw[O,V,pick_run]
 have a0:((x.cps.toList.drop a).take (b-a)).length≤x.length:=by
  have:x.length=x.cps.toList.length:=rfl;refine(ir List.length_take)▸(ir List.length_drop)▸this▸?_;lia -abstractProof
 refine IF ?_
 have H:((none:Option (Int×Tok)).map (·.1)).getD 1==1&&(E1 x (some ((a:Int),u)) (some ((b:Int),v)) none).length==x.length→x=⟨((x.cps.toList.drop a).take (b-a)).toArray⟩:=by
  intro hc
  have h2:(E1 x (some ((a:Int),u)) (some ((b:Int),v)) none).length=x.length:=by
   have:=(DM _ _).mp hc |>.2;simpa using this
  have h3:(DZ (some (a:Int)) (some (b:Int)) 1 x.length).length=x.length:=h2;rw[bO]at h3;have h3:((DQ (FA x.length (b:Int)-FA x.length (a:Int))).map (FA x.length (a:Int)+·)).length=x.length:=h3;rw[O,V]at h3;simp at h3;have ha:a=0:=by exact o54 J hb O V h2 h3 h3
  have hb:b=x.length:=by exact o30 J hb O V h2 h3 h3 ha
  subst ha;subst hb;have:x.length=x.cps.toList.length:=rfl;rw[List.drop_zero,Nat.sub_zero,this,List.take_length]
 split
 ·rename_i hc;have e:=H hc;refine⟨by refine(ir Di)▸?_;lia -abstractProof,fun Z k=>?_⟩;have:=hq Z k;rw[←e]at this;exact this
 ·refine(ir G)▸?_;exact⟨by refine(ir Di)▸?_;show((x.cps.toList.drop a).take (b-a)).toArray.size≤_;refine(ir Es)▸?_;lia -abstractProof,hq⟩
theorem zx {sc:Scope}{env:Env}{s₀:Shared}{m:Str→Option Value}{x y:Str}{V Z p3 p4 p5 p6 p7:Pos}{k0:Nat}{i:Int}{ti:Tok}{Q:Flow→Shared→Prop}(f:Fw sc B env s₀ m s)(J:sc.names.lookup x=some .local)(hy:sc.names.lookup y=some .local)(O:m x=some (.int i ti))
  (G:(x==("__debug__":Str))=false)(h1:0≤i→∀s',Fw sc B env s₀ (upd m y (.int i ti)) s'→Q .next s')(h2:i<0→∀s',Fw sc B env s₀ m s'→Q .next s'):
  wpAny (model prog w) A (exec (.If (.Compare (.Name x V) [.GtE] [.Constant (.int 0) k0 Z] p3) [.Assign [.Name y p4] (.Name x p5) p6] [] p7) env) Q E s:=by
 refine wpAny_If (DI (f.name J O (Dj (P.ge_int ?_)) G) rfl);refine DJ ?_;have H:=f.tok (t:=s.toks+1);by_cases hi:0≤i
 ·refine(ir (show decide (i≥0)=true from decide_eq_true hi))▸?_;refine csA ?_ (by rfl);refine H.name J O ?_ G;exact H.put hy fun s' f'=>C7 (h1 hi s' f')
 ·refine(ir (show decide (i≥0)=false from decide_eq_false hi))▸?_;exact C7 (h2 (by lia -abstractProof) _ H)
theorem qZ {x:Str}{t:Tok}{pre q T:List Nat}{m:Nat}(hx:x.cps.toList=(pre++q)++m::T)(hp:pre=[]∨∃p',pre=p'++[46])(b5:46∉q)(b6:58∉pre++q)(b7:10∉pre++q)(hm:m=58∨m=10)(hl:x.length≤1000000)
  (G:Glob B)(b1:G.val mJ=some (.builtin "len")){env:Env}{s₀:Shared}{ag:Str→Option Value}{Q:Flow→Shared→Prop}(hA:A.handled=none)(f:Fw (aa (ac 6)).scope B env s₀ ag s)(O:ag "msg"=some (.str x t))
  (hQ:∀h' k tr,(∀b o,s₀.heap.get? b=some o→h'.get? b=some o)→Q (.ret (.str ⟨q.toArray⟩ tr)) { s₀ with heap:=h',toks:=k }):
  wpAny (model prog w) A (execs (aa (ac 6)).body env) Q E s:=by
 obtain⟨es,el,eg,ec,eq,ef,V,Z,eb⟩:=env;obtain hs:es=(aa (ac 6)).scope:=f.scp;subst hs;refine DL ?_;refine Assign_Tuple_swapped (names:=["start","end"]) ?_ (by rfl) (by rfl);refine wb3 ?_;refine sp2 (Dj ?_);have f1:=f.tok (t:=s.toks+1);refine il (f1.glob G rfl b1 ?_);refine cw1 (f1.name rfl O ?_);refine P.len_str (by lia -abstractProof) ?_;obtain f2:=f1.tok (t:=s.toks+1+1+1);refine Ga ?_ (by show 2≤Eu;rw[Di];decide);obtain f3:=f2.go (t:=s.toks+1+1+1) (h':=s.heap.push { cls:=.type "tuple",data:=.seq [Dm 0 s.toks,Dm x.length (s.toks+1+1)].toArray }) fun b o e=>mc _ e;obtain hT:(s.heap.push { cls:=.type "tuple",data:=.seq [Dm 0 s.toks,Dm x.length (s.toks+1+1)].toArray }).IsTuple s.heap.objs.size #[Dm 0 s.toks,Dm x.length (s.toks+1+1)]:=⟨_,rh _ rfl,rfl,_,rfl⟩
 refine wpAny_unpackItems_tuple (items:= #[Dm 0 s.toks,Dm x.length (s.toks+1+1)]) hA hT fun h' he=>?_;obtain f4:=f3.go (h':=h') (t:=s.toks+1+1+1) fun b o e=>he b o (fun q=>by rw[q]at e;rw[show({ s with heap:=s.heap.push { cls:=.type "tuple",data:=.seq [Dm 0 s.toks,Dm x.length (s.toks+1+1)].toArray } }:Shared).heap.get? _=none from bb _]at e;contradiction) e;refine da (qY hx hp b5 b6 b7 hm) fun e1 be c1 c2 c3=>?_
 have b2:(pre++q).length≤x.length:=by
  have:x.length=x.cps.toList.length:=rfl;rw[this,hx,D2 (as:=pre++q)];exact o43
 refine Ey (wpAny_bindName (f4.put rfl fun s5 f5=>?_));refine Ey (wpAny_bindName (f5.put rfl fun s6 f6=>?_));refine GF ?_;obtain m6:∀m':Str→Option Value,True:=fun J=>trivial;refine csA ?_ (by rfl);refine Dk rfl rfl rfl ?_;refine f6.name rfl (ah (by decide) (ah (by decide) O)) ?_;refine lJ JZ F.type_str_find ?_;refine cw1 (Ds ?_);refine SC.find ?_;obtain f7:=f6.tok (t:=s6.toks+1+1);refine f7.put rfl fun s8 f8=>?_
 have b3:∀s9 (m9:Str→Option Value),m9 "msg"=some (.str x t)→(∃t',m9 "start"=some (.int 0 t'))→(∃tk,m9 "end"=some (.int e1 tk))→Fw (aa (ac 6)).scope B ⟨(aa (ac 6)).scope,el,eg,ec,eq,ef,V,Z,eb⟩ s₀ m9 s9→
   wpAny (model prog w) A (execs ((aa (ac 6)).body.drop 3) ⟨(aa (ac 6)).scope,el,eg,ec,eq,ef,V,Z,eb⟩) Q E s9:=by
  intro s9 m9 g1 bk bx f9;refine xE bk fun t0 g2=>?_;refine xE bx fun tk g3=>?_
  have b4:∀s9 (m9:Str→Option Value),m9 "msg"=some (.str x t)→(∃t',m9 "start"=some (.int 0 t'))→(∃tk,m9 "end"=some (.int (pre++q).length tk))→Fw (aa (ac 6)).scope B ⟨(aa (ac 6)).scope,el,eg,ec,eq,ef,V,Z,eb⟩ s₀ m9 s9→
    wpAny (model prog w) A (execs ((aa (ac 6)).body.drop 5) ⟨(aa (ac 6)).scope,el,eg,ec,eq,ef,V,Z,eb⟩) Q E s9:=by
   intro s9 m9 g1 c0 c4 f9;refine xE c0 fun t0 g2=>?_;refine xE c4 fun tk g3=>?_;refine csA ?_ (by rfl);refine Dk rfl rfl rfl ?_;refine f9.name rfl g1 ?_;refine lJ F.slot_str_rfind F.type_str_rfind ?_;refine cw3 (Ds (Dj ?_));refine(f9.tok (t:=s9.toks+1+1)).name rfl g3 ?_;refine oJ b2 ?_;refine(f9.tok (t:=s9.toks+1+1+1)).put rfl fun a8 a9=>?_
   have al:∀s11 (a0:Str→Option Value),a0 "msg"=some (.str x t)→(∃t',a0 "start"=some (.int pre.length t'))→(∃tk,a0 "end"=some (.int (pre++q).length tk))→Fw (aa (ac 6)).scope B ⟨(aa (ac 6)).scope,el,eg,ec,eq,ef,V,Z,eb⟩ s₀ a0 s11→
     wpAny (model prog w) A (execs ((aa (ac 6)).body.drop 7) ⟨(aa (ac 6)).scope,el,eg,ec,eq,ef,V,Z,eb⟩) Q E s11:=by
    intro s11 a0 g1 c5 c6 H;refine xE c5 fun t1 g2=>?_;refine xE c6 fun t2 g3=>?_;refine csR ?_;refine Kv ?_;refine H.name rfl g1 ?_;refine H.name rfl g2 ?_;refine H.name rfl g3 ?_;refine⟨x,t,some ((pre.length:Int),t1),some (((pre++q).length:Int),t2),rfl,rfl,rfl,?_⟩;refine yI hl (by rw[D2];exact o43) b2 fun t' k'=>?_
    obtain c7:((x.cps.toList.drop pre.length).take ((pre++q).length-pre.length))=q:=by
     rw[hx];simp
    rw[c7];exact(H.go (t:=k') fun b o e=>mc _ e).fin (Q:=fun v s=>Q (.ret v) s) fun h' k hk=>hQ h' k _ hk
   refine csI (DI (a9.name rfl ar (Dj (P.ge_int ?_))) rfl);refine DJ ?_;have H:=a9.tok (t:=a8.toks+1);rcases c3 with⟨h1,h2⟩|⟨kk,h1,h2⟩
   ·rw[show decide (lastOf x (t5 ".") (pre++q).length≥0)=false from decide_eq_false (by show¬(lastOf x ⟨#[46]⟩ (pre++q).length≥0);rw[h1];decide)];refine C7 ?_;refine al _ _ (ah (by decide) g1) ⟨t0,?_⟩ ⟨tk,ah (by decide) g3⟩ H;rw[h2];exact ah (by decide) g2
   ·rw[show decide (lastOf x (t5 ".") (pre++q).length≥0)=true from decide_eq_true (by show lastOf x ⟨#[46]⟩ (pre++q).length≥0;rw[h1];exact CG h2)];refine csA ?_ (by rfl);refine EO ?_;refine H.name rfl ar (Dj (P.add_int ?_));refine(H.tok (t:=a8.toks+1+1+1)).put rfl fun cb ca=>?_;refine C7 ?_;refine al _ _ (ah (by decide) (ah (by decide) g1)) ⟨a8.toks+1+1,?_⟩ ⟨tk,ah (by decide) (ah (by decide) g3)⟩ ca;refine ar.trans ?_;show some (Dm (lastOf x ⟨#[46]⟩ (pre++q).length+1) _)=_;rw[h1,h2];rfl
  refine csA ?_ (by rfl);refine Dk rfl rfl rfl ?_;refine f9.name rfl g1 ?_;refine lJ JZ F.type_str_find ?_;refine cw3 (Ds (Dj ?_));refine(f9.tok (t:=s9.toks+1+1)).name rfl g3 ?_;refine qX be ?_;refine(f9.tok (t:=s9.toks+1+1+1)).put rfl fun a8 a9=>?_;refine DL ?_;refine zx a9 rfl rfl ar (by decide) (fun hi s11 H=>?_) fun hi s11 H=>?_
  ·have hi:0≤aO x ⟨#[58]⟩ e1:=hi
   have he:aO x ⟨#[58]⟩ e1=((pre++q).length:Int):=by
    rcases c2 with⟨h,_⟩|h
    ·rw[h]at hi;exact absurd hi (by decide)
    ·exact h
   refine b4 s11 _ (ah (by decide) (ah (by decide) g1)) ⟨t0,ah (by decide) (ah (by decide) g2)⟩ ⟨s9.toks+1+1,?_⟩ H;refine ar.trans ?_;show some (Dm (aO x ⟨#[58]⟩ e1) _)=_;rw[he]
  ·have hi:aO x ⟨#[58]⟩ e1<0:=hi
   have he:e1=(pre++q).length:=by
    rcases c2 with⟨_,h⟩|h
    ·exact h
    ·rw[h]at hi;lia -abstractProof
   refine b4 s11 _ (ah (by decide) g1) ⟨t0,ah (by decide) g2⟩ ⟨tk,?_⟩ H;rw[←he];exact ah (by decide) g3
 refine DL ?_;refine zx f8 rfl rfl ar (by decide) (fun hi s9 f9=>?_) fun hi s9 f9=>?_
 ·have hi:0≤aO x ⟨#[10]⟩ x.length:=hi
  have he:aO x ⟨#[10]⟩ x.length=(e1:Int):=by
   rcases c1 with⟨h,_⟩|h
   ·rw[h]at hi;exact absurd hi (by decide)
   ·exact h
  refine b3 s9 _ (ah (by decide) (ah (by decide) (ah (by decide) (ah (by decide) O)))) ⟨_,ah (by decide) (ah (by decide) ar)⟩ ⟨s6.toks+1,?_⟩ f9;refine ar.trans ?_;show some (Dm (aO x ⟨#[10]⟩ x.length) _)=_;rw[he]
 ·have hi:aO x ⟨#[10]⟩ x.length<0:=hi
  obtain he:e1=x.length:=by
   rcases c1 with⟨_,h⟩|h
   ·exact h
   ·rw[h]at hi;lia -abstractProof
  refine b3 s9 _ (ah (by decide) (ah (by decide) (ah (by decide) O))) ⟨_,ah (by decide) ar⟩ ⟨s.toks+1+1,?_⟩ f9;rw[he];exact ah (by decide) (ah (by decide) ar)
theorem w8 (G:Glob B)(hb:θ.Bd)(V:G.val mJ=some (.builtin "len")){a:Addr}(F:aY B a (aD (ac 6)) (aa (ac 6)).body (aa (ac 6)).scope .none):KcOk prog w θ B n (.ref a) ⟨pi⟩:=by
 intro A E Q sc env ρ st s vs us r st' R S ha e k;have Z:A.depth<Ed:=by have:=R.1.2.1;exact o46 this
 apply ax e;clear e;intro v hv e;have hv:=en hv;subst hv
 cases v with
 |str s₁=>
 refine gX (bH ha) fun u a8 t a9=>?_;subst a8;subst a9;apply bN e;clear e;intro hl e;apply ax e;clear e;intro q' a0 e;refine xAA (cN e) fun J ag al=>?_;subst ag;subst al
 have O:dn ([].map At.c) s₁=some q':=by
  exact az a0 fun J h=>h
 refine em (eH s₁ [] O (by decide) (by decide) (by decide)) fun pre q m tl g1 b1 g3 g4 g5 g6 g7=>?_;clear O e a0;subst b1;have g1:s₁=(pre++q).map At.c++ .c m::tl:=g1
 have H:∀l:List Nat,θ.flat (l.map At.c)=l:=fun l=>by
  induction l with
  |nil=>rfl
  |cons a l ih=>rw[FD,Th.flat_cons,ih];rfl
 have hx:(θ.str s₁).cps.toList=(pre++q)++m::θ.flat tl:=by
  show θ.flat s₁=_;rw[g1,Th.flat_append,H,Th.flat_cons];rfl
 have b2:(θ.str s₁).length≤1000000:=by
  have h1:=cn hb s₁;have h2:=DG hl;show(θ.flat s₁).toArray.size≤_;refine(ir Es)▸?_;lia -abstractProof
 refine bW G F S.keeps Z (binds:=[("msg",.str (θ.str s₁) t)]) (fun fd hp hd hkd=>?_) (by decide) (by intro x hx;refine(ir (DD.mp hx))▸?_;rfl) fun b3 s₂ E' f J=>?_
 ·cases fd;dsimp only at hp hd hkd;subst hp hd hkd;exact FP (by rfl)
 ·refine qZ hx g3 g4 g5 g6 g7 b2 G V R.1.1 f rfl fun h' kk tr hk=>?_;refine k _ ρ _ (S.kept hk kk) (Kp.kept NoW ρ s kk hk) rfl ⟨tr,?_⟩;show Du ⟨q.toArray⟩ tr=.str ⟨(θ.flat (q.map At.c)).toArray⟩ tr;rw[H]
 |_=>contradiction
end
end
section
open PySem PyProof.Rows PyProof.V PySem.Builtin
section
variable {prog:C9}{w:World}{θ:Th}{B:Fix}{n:Nat}{sc:Scope}
theorem w9 {k:ScopeKind}(h:uq k=true):k=.function:=by
 cases k<;>first|rfl|contradiction
theorem AI {a:Int}(h:dF a 0=true):a=0:=by
 cases a with
 |ofNat m=>
  refine(ir (nd h))▸?_;rfl
 |negSucc m=>contradiction
theorem kW {P:Pm}{F:Fn}{e:Expr}{st:St}{v:V2}{st':St}(h:(br P F sc e).run st=.ok v st'):bl e∧∀op,GY op e=false:=by
 cases e with
 |Starred x p=>contradiction
 |Set es k p=>contradiction
 |_=>exact⟨fun J J e=>(by contradiction),fun J=>rfl⟩
theorem oK {F:Fn}{elt:Expr}{gens:List KS}{csc:Scope}{c:Cl}(h:lA F sc elt gens csc=c):c=.fail∨
  ∃x J iter G,gens=[⟨.Name x J,iter,G,0⟩]∧CapOk sc csc x∧c=eK x (ke (F.ev sc) sc iter) (bG (F.tr csc) G) (F.ev csc elt):=by
 cases gens with
 |nil=>exact .inl h.symm
 |cons g r=>cases r with
  |cons _ _=>exact .inl h.symm
  |nil=>cases g with
   |mk t iter G as=>
    refine zo h .inl fun O h=>?_;have:=AI O;clear O;subst this
    cases t with
    |Name x J=>
     refine zo h .inl fun H h=>?_;refine aT H fun H h4=>?_;refine aT H fun H h3=>?_;refine aT H fun h1 h2=>?_;exact .inr ⟨x,J,iter,G,rfl,⟨h1,w9 h2,h3,h4⟩,h.symm⟩
    |_=>exact .inl h.symm
theorem jJ {P:Pm}{F F':Fn}(hF:F.ev=br P F'∨F.ev=fun J J=>.fail)(e:Expr):(∀env u,Hc e env u=pure u)∨∀st,(ke (F.ev sc) sc e).run st=.no:=by
 cases e with
 |Set es k p=>
  right;intro st;show(fy (F.ev sc (.Set es k p))).run st=.no;rcases hF with hF|hF<;>(rw[hF];rfl)
 |_=>exact .inl fun J J=>rfl
variable {P:Pm}{F:Fn}{G:Glob B}
theorem ud {F':Fn}(H:F.ev=br P F'∨F.ev=fun J J=>.fail)(K:Known prog w θ B n G P)(h:FnOk2 prog w θ B n F){elt:Expr}{gens:List KS}{csc:Scope}{pos:Pos}:
  EvOk prog w θ B n sc (.ListComp elt gens csc pos) (lA F sc elt gens csc):=by
 rcases oK (F:=F) (sc:=sc) (elt:=elt) (gens:=gens) (csc:=csc) rfl with e|⟨x,xp,iter,ifs,rfl,c,e⟩
 ·rw[e];exact bX
 ·rw[e];rcases jJ H iter with hns|hno
  ·exact lR c (jr K h) hns (h.tr csc) (h.ev csc elt)
  ·intro A E Q env ρ st s v st' R S e;refine u3 e fun J e=>?_;refine pv e fun J J h J=>?_;rw[hno]at h;contradiction
theorem gw (c:Ctx prog w θ B){F':Fn}(Z:F.ev=br P F'∨F.ev=fun J J=>.fail)(hR:gc θ P.R)(K:Known prog w θ B (n+1) G P)(h:FnOk2 prog w θ B n F)(e:Expr):EvOk prog w θ B (n+1) sc e (br P F sc e):=by
 have H:=h.up
 cases e with
 |Constant k kd p=>exact iU
 |Name x p=>exact ga
 |BinOp a op b p=>exact mY (H.ev sc a) (H.ev sc b) (mZ c.ok.bd hR op)
 |UnaryOp op a p=>cases op with
  |USub=>exact vr (H.ev sc a)
  |_=>exact bX
 |Compare a ops bs p=>
  intro A E Q env ρ st s v st' R S e k;apply Bj e;clear e;intro q hq e;refine xA (kn hq) fun e1 e2=>?_;subst e1;subst e2
  have hm:GY q.1 q.2=false:=by
   refine eV e fun u O h1 e=>?_;refine eV e fun u' V h2 e=>?_;exact H.mark sc q.2 _ _ _ h2 q.1
  exact Ak (H.ev sc a) (H.ev sc q.2) (kt c.ok q.1) hm _ _ _ _ _ _ _ _ _ R S e k
 |IfExp t a b p=>exact vt (H.tr sc t) (H.ev sc a) (H.ev sc b)
 |List es p=>exact sM (H.ev sc) (H.star sc)
 |Tuple es k p=>exact vu (H.ev sc) (H.star sc)
 |Dict ks vs p=>exact sN
 |Subscript o i p=>exact vS c.ok.bd (H.ev sc)
 |Call f as a0 p=>exact tE c K h
 |ListComp elt gens csc p=>
  have K':Known prog w θ B (n+1) G P:=K;exact ud Z K' H
 |_=>exact bX
theorem AJ (c:Ctx prog w θ B){F':Fn}(Z:F.ev=br P F'∨F.ev=fun J J=>.fail)(hR:gc θ P.R)(K:Known prog w θ B (n+1) G P)(h:FnOk2 prog w θ B n F)(e:Expr)
  (h1:∀op v p,e≠.BoolOp op v p)(h2:∀x p,e≠.UnaryOp .Not x p)(h3:∀a b c p,e≠.IfExp a b c p):TrOk prog w θ B (n+1) sc e (lB (br P F sc e)):=by
 have H:=h.up
 have plain:(∀a b c p,e≠.Compare a b c p)→TrOk prog w θ B (n+1) sc e (lB (br P F sc e)):=fun h4=>
  xO (gw c Z hR K h e) (gZ h1 h2 h3 h4)
 cases e with
 |Compare a ops bs p=>
  cases hc:rI ops bs with
  |none=>
   show TrOk _ _ _ _ _ _ _ (lB (cS (rI ops bs) _));refine(ir hc)▸?_;exact jq
  |some q=>
   refine xA (kn hc) fun e1 e2=>?_;subst e1;subst e2;obtain⟨op,b⟩:=q;show TrOk _ _ _ _ _ _ _ (lB (d0 (F.ev sc a) (F.ev sc b) (xr op)))
   have hm:GY op b=false∨∀st v st',(d0 (F.ev sc a) (F.ev sc b) (xr op)).run st≠.ok v st':=by
    cases hb:GY op b with
    |false=>exact .inl rfl
    |true=>
     right;intro st v st' e;refine eV e fun u O h1 e=>?_;refine eV e fun u' V h2 e=>?_;have:=H.mark sc b _ _ _ h2 op;rw[hb]at this;contradiction
   rcases hm with hm|hm
   ·exact wa (H.ev sc a) (H.ev sc b) (kt c.ok op) hm
   ·intro A E Q env ρ st s b' st' R S e _;refine pw e fun v s1 h1 J=>?_;exact absurd h1 (hm st v s1)
 |_=>exact plain (fun J J J J e=>by contradiction)
theorem ue (h:FnOk2 prog w θ B n F)(e:Expr):TrOk prog w θ B (n+1) sc e (uZ F sc e):=by
 have H:=h.up
 cases e with
 |BoolOp op es p=>
  intro A E Q env ρ st s O st' R S e k
  cases op with
  |And=>exact ED (pP (H.tr sc) es R S e k)
  |Or=>exact ED (tn (H.tr sc) es R S e k)
 |UnaryOp op a p=>cases op with
  |Not=>exact wb (H.tr sc a)
  |_=>exact H.tev sc _ (fun J J J e=>(by contradiction)) (fun J J e=>(by injection e with e;contradiction)) (fun J J J J e=>(by contradiction))
 |IfExp _ _ _ _=>exact jq
 |_=>exact H.tev sc _ (fun J J J e=>(by contradiction)) (fun J J e=>(by contradiction)) (fun J J J J e=>(by contradiction))
end
section
variable {prog:C9}{w:World}{θ:Th}{B:Fix}{n:Nat}{sc:Scope}{P:Pm}{F:Fn}{G:Glob B}
theorem sk {P:Pm}{F:Fn}{e:Expr}{st:St}{v:V2}{st':St}(h:(br P F sc e).run st=.ok v st')(hl:∀a b c p,e≠.ListComp a b c p):lQ e:=by
 cases e with
 |ListComp a b c p=>exact absurd rfl (hl a b c p)
 |SetComp a b c p=>contradiction
 |DictComp a b c d p=>contradiction
 |_=>exact fun J J J=>rfl
theorem fX {t e:Expr}{p:Pos}{c:Cl}(h:EvOk prog w θ B n sc e c)(O:∀st v st',c.run st=.ok v st'→lQ e)(Z:(∃x q,t=.Name x q)∨(∃ts k q,t=.Tuple ts k q)∧∀a b q,e≠.Tuple a b q):
  StOk prog w θ B n sc (.Assign [t] e p) (b0 sc c t):=by
 intro A E Q env ρ st s o R S J H k;refine cRv (c.run st) (fun h1=>?_) fun v V h1=>?_
 ·dsimp only[b0]at J;rw[h1]at J;exact absurd J.symm H
 ·exact tv h (O _ _ _ h1) Z _ _ _ _ _ _ _ _ R S J H k
theorem AK (c:Ctx prog w θ B){F':Fn}(hF:F.ev=br P F'∨F.ev=fun J J=>.fail)(hR:gc θ P.R)(K:Known prog w θ B (n+1) G P)(h:FnOk2 prog w θ B n F)(x:Str)(Z:Pos)(e:Expr)(p:Pos):
  StOk prog w θ B (n+1) sc (.Assign [.Name x Z] e p) (b0 sc (br P F sc e) (.Name x Z)):=by
 have H:=h.up
 have plain:(∀a b c p,e≠.ListComp a b c p)→StOk prog w θ B (n+1) sc (.Assign [.Name x Z] e p) (b0 sc (br P F sc e) (.Name x Z)):=fun hl=>
  fX (gw c hF hR K h e) (fun st v st' e=>sk e hl) (.inl ⟨x,Z,rfl⟩)
 cases e with
 |ListComp elt gens csc pos=>
  show StOk _ _ _ _ _ _ _ (b0 sc (lA F sc elt gens csc) (.Name x Z));rcases oK (F:=F) (sc:=sc) (elt:=elt) (gens:=gens) (csc:=csc) rfl with e|⟨y,yp,iter,ifs,rfl,cc,e⟩
  ·rw[e];intro A E Q env ρ st s o R S V O k;exact absurd V.symm O
  ·rw[e];refine fC (bQ sc x) (fun hx=>?_) fun hx=>?_
   ·intro A E Q env ρ st s o R S V O k;refine dk V O fun v s1 J V=>?_;refine u5 V O fun s2 hb J=>?_;rw[dN,hx]at hb;contradiction
   ·rcases jJ hF iter with hns|hno
    ·exact jX cc (jr K H) hns (H.tr csc) (H.ev csc elt) hx
    ·intro A E Q env ρ st s o R S V O k;refine dk V O fun v s1 h1 J=>?_;refine u3 h1 fun J h1=>?_;refine pv h1 fun J J h J=>?_;rw[hno]at h;contradiction
 |_=>exact plain (fun J J J J e=>(by contradiction))
theorem jK {e:Expr}(h:iJ e=true):(∀a b c p,e≠.ListComp a b c p)∧∀a b q,e≠.Tuple a b q:=
 ⟨fun a b c p q=>by subst q;contradiction,fun a b p q=>by subst q;contradiction⟩
theorem oM (c:Ctx prog w θ B)(h:FnOk2 prog w θ B n F)(ts:List Expr)(e:Expr)(p:Pos):StOk prog w θ B n sc (.Assign ts e p) (mO (F.ev sc) sc ts e):=by
 cases ts with
 |nil=>exact cQ
 |cons t r=>
 cases r with
 |cons _ _=>exact cQ
 |nil=>
  have O:∀t,(iJ e=true→StOk prog w θ B n sc (.Assign [t] e p) (b0 sc (F.ev sc e) t))→StOk prog w θ B n sc (.Assign [t] e p) (match iJ e with
    |true=>b0 sc (F.ev sc e) t
    |false=>.fail):=fun t H=>by
   cases hp:iJ e with
   |true=>exact H hp
   |false=>exact cQ
  have bad:∀t,(∀st v,mM sc st t v=none)→StOk prog w θ B n sc (.Assign [t] e p) (b0 sc (F.ev sc e) t):=fun t hb=>by
   intro A E Q env ρ st s o R S V Z k;refine dk V Z fun v s1 J V=>?_;refine u5 V Z fun s2 h2 J=>?_;rw[hb]at h2;contradiction
  cases t with
  |Name x xp=>exact h.asg sc x xp e p
  |Subscript o i q=>exact wg c (h.ev sc e) (h.ev sc o) (h.ev sc i) (fun ln env=>by cases e<;>rfl)
  |Tuple es k q=>exact O _ fun hp=>fX (h.ev sc e) (fun st v st' V=>h.noc sc e st v st' V (jK hp).1) (.inr ⟨⟨es,k,q,rfl⟩,(jK hp).2⟩)
  |_=>exact O _ fun J=>bad _ fun J J=>rfl
theorem gx (c:Ctx prog w θ B){F':Fn}(V:F.ev=br P F'∨F.ev=fun J J=>.fail)(K:Known prog w θ B n G P)(h:FnOk2 prog w θ B n F)(t:Stmt):StOk prog w θ B n sc t (iL F sc t):=by
 cases t with
 |Assign Z e p=>exact oM c h Z e p
 |Expr e p=>
  cases e with
  |Call f a kw q=>exact xW (h.ev sc _)
  |_=>exact cQ
 |Return e p=>
  cases e with
  |none=>exact cQ
  |some e=>exact An (h.ev sc e)
 |If t a b p=>exact Bx (h.tr sc t) (h.ex sc a) (h.ex sc b)
 |For t it b H p=>
  cases H with
  |cons _ _=>exact cQ
  |nil=>
   show StOk _ _ _ _ _ _ _ (iK F sc t it b);unfold iK
   cases hr:rN sc t it b with
   |some l=>exact tC c hr
   |none=>
    dsimp only
    cases t with
    |Name x xp=>
     dsimp only
     cases hx:bQ sc x with
     |false=>exact cQ
     |true=>
      dsimp only;rcases jJ V it with hns|hno
      ·exact Ap hx (jr K h) hns (h.ex sc b)
      ·intro A E Q env ρ st s o R S er O k;refine u4 er O fun J J h J=>?_;rw[hno]at h;contradiction
    |_=>exact cQ
 |While t b H p=>
  cases H with
  |cons _ _=>exact cQ
  |nil=>exact wd (h.tr sc t) (h.ex sc b)
 |Break p=>exact Ao
 |_=>exact cQ
theorem kX (c:Ctx prog w θ B){F':Fn}(H:F.ev=br P F'∨F.ev=fun J J=>.fail)(K:Known prog w θ B n G P)(h:FnOk2 prog w θ B n F):∀b:List Stmt,ExOk prog w θ B n sc b (bJ F sc b)
 |[]=>fN
 |t::r=>jf (gx c H K h t) (kX c H K h r)
theorem xa (c:Ctx prog w θ B)(O:gc θ P.R){m:Nat}(K:Known prog w θ B m G P):∀k,FnOk2 prog w θ B (m+k) (fns P k)∧((∃F',(fns P k).ev=br P F')∨(fns P k).ev=fun J J=>.fail)
 |0=>⟨⟨⟨fun J J=>bX,fun J J J J J e=>(by contradiction),fun J J J J J e=>(by contradiction),fun J J=>jq,fun J J=>Ar⟩,fun J J J J J=>jq,fun J J J J J=>cQ,fun J J J J J e=>(by contradiction)⟩,.inr rfl⟩
 |k+1=>by
  refine xA (xa c O K k) fun h H=>?_
  have KK:∀j,Known prog w θ B (m+j) G P:=fun j=>by
   induction j with
   |zero=>exact K
   |succ j V=>exact V.up
  obtain⟨F',H⟩:∃F',(fns P k).ev=br P F'∨(fns P k).ev=fun J J=>.fail:=by
   rcases H with⟨F',e⟩|e
   ·exact⟨F',.inl e⟩
   ·exact⟨fns P 0,.inr e⟩
  refine⟨⟨⟨fun sc e=>gw c H O (KK (k+1)) h e,fun sc e st v st' r=>(kW r).1,fun sc e st v st' r=>(kW r).2,fun sc e=>ue h e,fun sc b=>kX c H (KK (k+1)) h.up b⟩,
   fun sc e a b d=>AJ c H O (KK (k+1)) h e a b d,fun sc x Z e p=>AK c H O (KK (k+1)) h x Z e p,fun sc e st v st' r hl=>sk r hl⟩,.inl ⟨_,rfl⟩⟩
end
end
section
open PySem PySem.W PyProof.Rows PySem.Builtin
noncomputable def eT:List Nat→Bool
 |[]=>true
 |c::l=>match Do c 92 with
  |true=>(match l with
   |[]=>false
   |d::l=>match Do d 10 with
    |true=>false
    |false=>eT l)
  |false=>match Do c 34 with
   |true=>false
   |false=>eT l
theorem fm:∀l:List Nat,eT l=true→cU l
 |[],_=>.nil
 |[c],h=>by
  unfold eT at h
  cases h1:Do c 92 with
  |true=>rw[h1]at h;contradiction
  |false=>
   rw[h1]at h;dsimp only at h
   cases h2:Do c 34 with
   |true=>rw[h2]at h;contradiction
   |false=>exact .plain (Gh h2) (Gh h1) .nil
 |c::d::l,h=>by
  unfold eT at h
  cases h1:Do c 92 with
  |true=>
   rw[h1]at h;dsimp only at h;have:c=92:=nd h1;clear h1;subst this
   cases h2:Do d 10 with
   |true=>rw[h2]at h;contradiction
   |false=>rw[h2]at h;exact .esc (Gh h2) (fm l h)
  |false=>
   rw[h1]at h;dsimp only at h
   cases h2:Do c 34 with
   |true=>rw[h2]at h;contradiction
   |false=>rw[h2]at h;exact .plain (Gh h2) (Gh h1) (fm (d::l) h)
noncomputable def rf (i:Nat) (x:Str):Str:=match o0[i]? with
 |some p=>EM x ⟨p.1.toArray⟩ ⟨p.2.toArray⟩
 |none=>x
noncomputable def stg (x:Str):Nat→Str
 |0=>x
 |1=>esc x
 |2=>rf 0 (esc x)
 |3=>rf 1 (rf 0 (esc x))
 |4=>rf 2 (rf 1 (rf 0 (esc x)))
 |_=>DA
noncomputable def oN (x:Str):Bool:=
 (decide ((stg x 0).length≤100)&&decide ((stg x 1).length≤100)&&decide ((stg x 2).length≤100)&&decide ((stg x 3).length≤100)&&decide ((stg x 4).length≤100))&&
 ((cl (esc x)).all fun c=>c != 62&&c != 13&&c != 60)&&(cl (rf 3 (stg x 4))==cl x)&&(decide ((yf x).length≤1000)&&decide ((yg x).length≤1000)&&decide ((yh x).length≤1000))&&
 (decide ((EM x "\\" "\\\\").length≤400)&&decide ((cR x).length≤900)&&(cl (cR x)).all fun c=> !Str.isSurrogate c)&&(decide ((cY (cl (cR x))).length≤190)&&eT ((cY (cl (cR x))).map (·.toNat)))
structure AM (x:Str):Prop where
 len:∀s,(stg x s).length≤100
 no:∀c∈cl (esc x),c≠62∧c≠13∧c≠60
 back:rf 3 (stg x 4)=x
 e1:(yf x).length≤1000
 e2:(yg x).length≤1000
 e3:(yh x).length≤1000
 q1:(EM x "\\" "\\\\").length≤400
 q2:(cR x).length≤900
 q3:∀c∈cl (cR x),Hq c=false
 q4:(cY (cl (cR x))).length≤190
 q5:cU ((cY (cl (cR x))).map (·.toNat))
theorem mC {x:Str}(h:oN x=true):AM x:=by
 unfold oN at h;simp only[DM,decide_eq_true_eq,FY,bne_iff_ne,beq_iff_eq,Ly]at h;refine xAA h fun B H J=>?_;refine xAA B fun B G e3=>?_;obtain⟨⟨⟨⟨⟨⟨⟨a1,a2⟩,a3⟩,a4⟩,a5⟩,b⟩,c⟩,⟨O,V⟩,Z⟩:=B;obtain⟨e1,e2⟩:=G;refine⟨fun s=>?_,fun c hc=>⟨(b c hc).1.1,(b c hc).1.2,(b c hc).2⟩,jz c,O,V,Z,e1,e2,e3,H,fm _ J⟩
 match s with
 |0=>exact a1
 |1=>exact a2
 |2=>exact a3
 |3=>exact a4
 |4=>exact a5
 |s+5=>exact Ej _
theorem oO:pieces.all oN=true:=by decide+kernel
theorem q0:((DQ 598).all fun m=>oN ⟨#[47+16*m]⟩)=true:=by decide+kernel
theorem q9:oN DA=true:=by decide+kernel
theorem uf {x:Str}(h:bC x):AM x:=by
 rcases h with h|⟨n,h1,h2,h3,rfl⟩
 ·exact mC (FY.mp oO x h)
 ·have:=FY.mp q0 ((n-47)/16) (JM.mpr (by grind));rw[show 47+16*((n-47)/16)=n by grind]at this;exact mC this
noncomputable def mkθ (prog:C9) (w:World) (xs:List Str) (X:Nat→Int):Th where
 tx:=fun k s=>cl (stg (xs.getD k DA) s)
 qb:=fun k=>34::(cY (cl (cR (xs.getD k DA)))++[34])
 X:=X
 P:=prog
 W:=w
section
variable {prog:C9}{w:World}{xs:List Str}{X:Nat→Int}
theorem bh (B:∀x∈xs,bC x)(k:Nat):AM (xs.getD k DA):=by
 rw[GA]
 cases h:xs[k]? with
 |none=>exact mC q9
 |some x=>exact uf (B x (C6 h))
theorem rb (x:Str):(⟨(cl x).toArray⟩:Str)=x:=jz (by show((cl x).toArray).toList=_;simp)
theorem oR (k s:Nat):(mkθ prog w xs X).str [.t k s]=stg (xs.getD k DA) s:=by
 show(⟨(((mkθ prog w xs X).flat [.t k s])).toArray⟩:Str)=_;have:(mkθ prog w xs X).flat [.t k s]=cl (stg (xs.getD k DA) s):=by simp[Th.at1,mkθ]
 rw[this,rb]
theorem xb (B:∀x∈xs,bC x):(mkθ prog w xs X).Ok where
 bd:=by
  refine⟨fun k s=>(bh B k).len s,fun k=>?_⟩;have:=(bh B k).q4;show(34::(cY (cl (cR (xs.getD k DA)))++[34])).length≤200;rw[Ep,D2,List.length_singleton];lia
 no62:=fun k h=>((bh B k).no _ h).1 rfl
 no13:=fun k h=>((bh B k).no _ h).2.1 rfl
 no60:=fun k h=>((bh B k).no _ h).2.2 rfl
 rp:=by
  intro k i p hp;show EM ⟨(cl (stg (xs.getD k DA) (i+1))).toArray⟩ _ _=⟨(cl (stg (xs.getD k DA) ((i+2)%5))).toArray⟩
  rw[rb,rb];obtain G:∀x,rf i x=EM x ⟨p.1.toArray⟩ ⟨p.2.toArray⟩:=fun x=>by unfold rf;rw[hp]
  rw[←G]
  match i,hp with
  |0,_=>rfl
  |1,_=>rfl
  |2,_=>rfl
  |3,_=>exact(bh B k).back
  |i+4,hp=>exact absurd hp (by simp[o0])
theorem xc (B:∀x∈xs,bC x):(mkθ prog w xs X).Quoted where
 len:=fun k=>by rw[oR];exact⟨(bh B k).q1,(bh B k).q2⟩
 ok:=fun k=>by rw[oR];exact(bh B k).q3
 qb:=fun k=>by rw[oR];rfl
theorem BM (B:∀x∈xs,bC x)(k:Nat):QOk ((mkθ prog w xs X).qb k):=⟨_,rfl,(bh B k).q5⟩
theorem BN (B:∀x∈xs,bC x)(k:Nat):cr ((mkθ prog w xs X).str [.t k 0])∧cl (esc ((mkθ prog w xs X).str [.t k 0]))=(mkθ prog w xs X).tx k 1:=by
 rw[oR];have F:=bh B k;have G:=F.len 0;have h1:=F.len 1;exact⟨⟨by show(xs.getD k DA).length≤1000;exact o50 G,F.e1,F.e2,F.e3,by show(esc (xs.getD k DA)).length≤1000;exact o50 h1⟩,rfl⟩
end
section
variable {h h':Heap}(k:∀(b:Addr) (o:Obj),h.get? b=some o→h'.get? b=some o)
include k
theorem jL {a:Addr}(x:h.isNs a=true):h'.nsMap a=h.nsMap a:=by
 refine bg (Ld x) fun o es ep e d r=>?_;exact(Heap.Ns.eq_nsMap ⟨o,es,ep,k _ _ e,d,r⟩).symm
theorem gy {a:Addr}(x:h.isNs a=true):h'.isNs a=true:=by
 unfold Heap.isNs at x⊢
 cases e:h.get? a with
 |none=>rw[e]at x;contradiction
 |some o=>rw[e]at x;rw[k _ _ e];exact x
theorem rd {a:Addr}{x:Str}{v:Value}(e:h.nsMap a x=some v):h'.nsMap a x=some v:=by
 unfold Heap.nsMap at e⊢
 cases B:h.get? a with
 |none=>rw[B]at e;contradiction
 |some o=>rw[B]at e;rw[k _ _ B];exact e
theorem cJ {a:Addr}{c:Value}{d:Array Value}(e:∃o q,h.get? a=some o∧o.cls=c∧o.data=.seq d q):∃o q,h'.get? a=some o∧o.cls=c∧o.data=.seq d q:=
 aL e fun o q g r=>⟨o,q,k _ _ g,r⟩
theorem YP.keeps {w:World}(Y:YP w h):YP w h' where
 fns:=fun r B=>⟨(Y.fns r B).1.keep k,(Y.fns r B).2.keep k⟩
 names:=fun r B=>rd k (Y.names r B)
 t44:=cJ k Y.t44
 t88:=cJ k Y.t88
 t103:=cJ k Y.t103
 t119:=cJ k Y.t119
 t141:=cJ k Y.t141
 t42:=cJ k Y.t42
 pat:=Y.pat.keep k
 d64:=Y.d64.keep k
 cls:=Y.cls.keep k
 ns:=⟨gy k Y.ns.1,fun r B=>by rw[jL k Y.ns.1];exact Y.ns.2 r B⟩
 kw:=⟨gy k Y.kw.1,fun r B=>by rw[jL k Y.kw.1];exact Y.kw.2 r B⟩
 bj:=k _ _ Y.bj
 tab:=k _ _ Y.tab
 cd:=Y.cd.keep k
 sys:=gy k Y.sys
end
section
variable {h:Heap}{mg mb:Str→Option Value}{w:World}{prog:C9}(D:Gd h mg mb)(Y:YP w h)
include Y
theorem AN:∀h',Mine.Lake.Keeps (mkB h) h'→PatAt h' 43 42:=by
 intro h' k;refine da (id Y.pat) fun o H G J B=>?_;refine xEA B fun O V Z=>?_;refine aE Y.t42 fun o' q t1 t2 t3=>?_;refine⟨⟨o,O,k _ _ (bD H (fT G)),G,J,V,Z⟩,o',q,k _ _ (bD t1 (fT t2)),?_⟩;rw[t3,show(cC.map fun(w:Nat)=>DE w)=(cC0.map fun(n:Nat)=>DE n).toArray from by rw[show cC=cC0.toArray from rfl];simp]
theorem gW {r:dA}(G:r∈bc)(hb:∀(fd:Fx) (B:List Value),fd.params=aD r.st→fd.defaults=r.dflt→fd.kwdefaults=r.kwd→B.length=(aa r.st).params.length→JF fd ⟨B,[]⟩=pure ((aa r.st).params.zip B))(hp:lU (aa r.st)=true):jp (mkB h) (aa r.st) r.a:=by
 exact⟨DO (fun _=>DO fun fd b=>⟨b.1,b.2.2.1,b.2.2.2.1.bd,b.2.2.2.1.sc,b.2.2.2.1.cl,b.2.2.2.1.gl,b.2.2.2.1.bu,b.2.2.2.2,fun B hl=>hb fd B b.2.2.2.1.ps b.2.2.2.1.df b.2.2.2.1.kd hl⟩) (fnB Y G),hp⟩
end
section
variable {h:Heap}{mg mb:Str→Option Value}{w:World}{prog:C9}(D:Gd h mg mb)(Y:YP w h)
include Y
theorem yJ:jp (mkB h) (aa (ac 18)) ((bc[5]?.map (·.a)).getD 0):=by
 refine gW Y (fr 5 rfl) (fun fd B e e2 e3 hl=>?_) (by rfl);cases fd;dsimp only at e e2 e3;subst e e2 e3;exact l1 (l:=B) hl fun a e=>by clear hl;subst e;rfl
theorem yK:jp (mkB h) (aa (ac 19)) ((bc[6]?.map (·.a)).getD 0):=by
 refine gW Y (fr 6 rfl) (fun fd B e e2 e3 hl=>?_) (by rfl);cases fd;dsimp only at e e2 e3;subst e e2 e3;exact l1 (l:=B) hl fun a e=>by clear hl;subst e;rfl
theorem yL:jp (mkB h) (aa (ac 21)) ((bc[8]?.map (·.a)).getD 0):=by
 refine gW Y (fr 8 rfl) (fun fd B e e2 e3 hl=>?_) (by rfl);cases fd;dsimp only at e e2 e3;subst e e2 e3;exact l1 (l:=B) hl fun a e=>by clear hl;subst e;rfl
theorem mD:jp (mkB h) (aa (ac 22)) ((bc[9]?.map (·.a)).getD 0):=by
 refine gW Y (fr 9 rfl) (fun fd B e e2 e3 hl=>?_) (by rfl);cases fd;dsimp only at e e2 e3;subst e e2 e3;exact l3 (l:=B) hl fun a b c e=>by clear hl;subst e;rfl
theorem yM:jp (mkB h) (aa (ac 24)) ((bc[11]?.map (·.a)).getD 0):=by
 refine gW Y (fr 11 rfl) (fun fd B e e2 e3 hl=>?_) (by rfl);cases fd;dsimp only at e e2 e3;subst e e2 e3;exact l2 (l:=B) hl fun a b e=>by clear hl;subst e;rfl
theorem ug:jp (mkB h) (aa (ac 25)) ((bc[12]?.map (·.a)).getD 0):=by
 refine gW Y (fr 12 rfl) (fun fd B e e2 e3 hl=>?_) (by rfl);cases fd;dsimp only at e e2 e3;subst e e2 e3;exact l2 (l:=B) hl fun a b e=>by clear hl;subst e;rfl
theorem j6:jp (mkB h) (aa (ac 26)) ((bc[13]?.map (·.a)).getD 0):=by
 refine gW Y (fr 13 rfl) (fun fd B e e2 e3 hl=>?_) (by rfl);cases fd;dsimp only at e e2 e3;subst e e2 e3;exact l2 (l:=B) hl fun a b e=>by clear hl;subst e;rfl
theorem jM:jp (mkB h) (aa (ac 27)) ((bc[14]?.map (·.a)).getD 0):=by
 refine gW Y (fr 14 rfl) (fun fd B e e2 e3 hl=>?_) (by rfl);cases fd;dsimp only at e e2 e3;subst e e2 e3;exact l1 (l:=B) hl fun a e=>by clear hl;subst e;rfl
end
section
variable {h:Heap}{mg mb:Str→Option Value}{w:World}{prog:C9}(D:Gd h mg mb)(Y:YP w h){xs:List Str}{X:Nat→Int}
include D Y
theorem AO (B:∀x∈xs,bC x):Ctx prog w (mkθ prog w xs X) (mkB h):=⟨xb B,rfl,rfl,w4 D Y⟩
theorem xd (B:∀x∈xs,bC x)(R:fu):Known prog w (mkθ prog w xs X) (mkB h) 5 (mkG D) ⟨R,rP⟩ where
 len:=bf D (by exact .head _) rfl (by decide)
 sum:=bf D (by decide) rfl (by decide)
 list:=bf D (by decide) rfl (by decide)
 range:=bf D (by decide) rfl (by decide)
 zip:=bf D (by decide) rfl (by decide)
 ft:=by
  intro f V hf;dsimp only[rP,mI]at hf
  repeat' split at hf
  all_goals first
   |(cases hf;done)
   |(rename_i Z;rw[(ao _ _).mp Z];injection hf with hf;subst hf;first
     |exact yEA _ (ba D Y (nr 8 rfl)) (yJ Y)
     |exact yEA _ (ba D Y (nr 9 rfl)) (yK Y)
     |exact yEA _ (ba D Y (nr 11 rfl)) (yL Y)
     |exact yEA _ (ba D Y (nr 12 rfl)) (mD Y)
     |exact yEA _ (ba D Y (nr 14 rfl)) (yM Y)
     |exact yEA _ (ba D Y (nr 15 rfl)) (ug Y)
     |exact yEA _ (ba D Y (nr 16 rfl)) (j6 Y)
     |exact yEA _ (ba D Y (nr 17 rfl)) (jM Y))
 quoted:=by
  refine xEA (dg Y (fr 10 rfl)) fun o c1 c2=>?_;have F:=bY Y (fr 10 rfl) rfl;refine aE F.obj fun G fd H O J=>?_;exact dY (.ref 242) (ba D Y (nr 13 rfl)) (.inl ⟨_,G,fd,rfl,H,O⟩) (tZ (mkG D) (xb B).bd (xc B) F)
 strip:=by
  have F:=bY Y (fr 1 rfl) rfl;refine aE F.obj fun G fd H O J=>?_;exact dY (.ref 58) (ba D Y (nr 2 rfl)) (.inl ⟨_,G,fd,rfl,H,O⟩) (w8 (mkG D) (xb B).bd (bf D (by exact .head _) rfl (by decide)) F)
 paren:=by
  have F:=bY Y (fr 0 rfl) rfl;refine aE F.obj fun G fd H O J=>?_
  exact⟨.ref 51,ba D Y (nr 1 rfl),.inl ⟨_,G,fd,rfl,H,O⟩,w7 (mkG D) (xb B).bd (BM B) (ba D Y (nr 0 rfl)) (AN Y) F (fun h' k=>by
   refine aE Y.t44 fun o q t1 t2 t3=>?_;exact fA o q 335 (k _ _ (bD t1 (fT t2))) t3)⟩
 written:=by
  have F:=bY Y (fr 7 rfl) rfl;refine aE F.obj fun G fd H O J=>?_;exact dY (.ref 221) (ba D Y (nr 10 rfl)) (.inl ⟨_,G,fd,rfl,H,O⟩) (qO (n:=0) (C3 D Y) (xb B).bd (BN B) F)
end
noncomputable def aX (X:Nat→Int) (k:Nat):Int:=X (k/8)/md (k/8)*md (k/8)+Eg (k%8)
theorem sm {X:Nat→Int}{c r:Nat}(h:r<8)(B:Eg r=X c%md c):aX X (8*c+r)=X c:=by
 have h1:(8*c+r)/8=c:=by lia
 have h2:(8*c+r)%8=r:=by lia
 show X ((8*c+r)/8)/md ((8*c+r)/8)*md ((8*c+r)/8)+Eg ((8*c+r)%8)=X c;rw[h1,h2,B,Int.mul_comm];exact Int.mul_ediv_add_emod _ _
theorem oU {prog:C9}{w:World}{xs:List Str}{X:Nat→Int}{p:Option Int}(hp:∀r,p=some r→r=X 3%2):gc (mkθ prog w xs (aX X)) (sz p):=by
 intro k b r e;show∃q,aX X k=r+b*q;refine c8 e (fun h e1=>?_) fun J e1=>az e1 fun h e2=>?_
 ·clear e;have:=(dt _ _).mp h;clear h;subst this;injection e1 with e1;subst e1;exact⟨X (k/8)/md (k/8),by rw[Int.add_comm,Int.mul_comm];rfl⟩
 ·refine aT h fun h1 h2=>?_;have:=(dt _ _).mp h1;subst this;have:=nd h2;clear h h1 h2;subst this;have e:=hp r e2;exact⟨X 3/2,by show X 3/1*1+0=_;lia⟩
structure Lf (sc:Scope)(B:Fix)(env:Env)(s₀:Shared)(m:Str→Option Value)(s:Shared):Prop where
 ns:s.heap.Ns env.locals m
 cell:∀n c,env.cells.lookup n=some c→s.heap.IsCell c none
 cex:∀n,au n sc.names=some .cell→∃c,env.cells.lookup n=some c
 apart:env.cells.Pairwise fun x y=>x.2≠y.2
 above:∀n c,(n,c)∈env.cells→env.locals<c
 same:Same s₀ s
 keep:∀b o,s₀.heap.get? b=some o→s.heap.get? b=some o
 fresh:s₀.heap.objs.size≤env.locals
 scp:env.scope=sc
 gl:env.globals=B.g
 bu:env.builtins=B.b
 base:Mine.Lake.Keeps B s₀.heap
 fn:sc.kind=.function
 nofree:∀x,au x sc.names≠some .free
section
variable {prog:C9}{w:World}{A:Dq}{E:Value→Shared→Prop}{s₀ s:Shared}{sc:Scope}{B:Fix}{env:Env}{m:Str→Option Value}
namespace Lf
theorem keeps (f:Lf sc B env s₀ m s):Mine.Lake.Keeps B s.heap:=fun a o e=>f.keep a o (f.base a o e)
theorem kind (f:Lf sc B env s₀ m s):env.scope.kind=.function:=by rw[f.scp,f.fn]
theorem kindOf (f:Lf sc B env s₀ m s)(x:Str):env.kindOf x=sc.names.lookup x:=by unfold Io;rw[f.scp]
theorem name {x:Str}{p:Pos}{v:Value}{Q:Value→Shared→Prop}(f:Lf sc B env s₀ m s)(hl:sc.names.lookup x=some .local)(G:m x=some v)(q:Q v s)(hd:(x==("__debug__":Str))=false:=by decide):
  wpAny (model prog w) A (eval (.Name x p) env) Q E s:=FZ (Ex f.kind (by rw[f.kindOf,hl]) f.ns G q) hd
theorem glob (G:Glob B){x:Str}{p:Pos}{v:Value}{Q:Value→Shared→Prop}(f:Lf sc B env s₀ m s)(hl:sc.names.lookup x=some .globalImplicit)(H:G.val x=some v)(q:Q v s)(hd:(x==("__debug__":Str))=false:=by decide):
  wpAny (model prog w) A (eval (.Name x p) env) Q E s:=by
 refine xAA (G.look s.heap f.keeps) fun hg hb J=>?_;refine FG f.kind (by rw[f.kindOf,hl]) ?_ hd;unfold Glob.val at H
 cases O:G.gm x with
 |some u=>rw[O]at H;injection H with H;subst H;exact FW (by refine(ir f.gl)▸?_;exact hg) O q
 |none=>rw[O]at H;exact FR (by refine(ir f.gl)▸?_;exact hg) O (by refine(ir f.bu)▸?_;exact hb) H q
theorem move (f:Lf sc B env s₀ m s){s':Shared}(hs:Same s s')(G:∀b o,s.heap.get? b=some o→s'.heap.get? b=some o):Lf sc B env s₀ m s':=
 ⟨f.ns.at' fun o e=>G _ o e,fun n c hc=>let ⟨o,H,hd⟩:=f.cell n c hc;⟨o,G _ _ H,hd⟩,f.cex,f.apart,f.above,f.same.trans hs,fun b o e=>G b o (f.keep b o e),f.fresh,f.scp,f.gl,f.bu,f.base,f.fn,f.nofree⟩
theorem put {x:Str}{v:Value}{Q:Unit→Shared→Prop}(f:Lf sc B env s₀ m s)(hl:sc.names.lookup x=some .local)(q:∀s',Lf sc B env s₀ (upd m x v) s'→(∀b o,b≠env.locals→s.heap.get? b=some o→s'.heap.get? b=some o)→0<s'.toks∨s'.toks=s.toks→Q () s'):
  wpAny (model prog w) A (FL env x v) Q E s:=by
 refine Ec (by rw[f.kindOf,hl]) f.ns (fun h' H G=>q _ ⟨H,fun n c hc=>(f.cell n c hc).sameBut G (Dl (f.above n c (mem_of_lookup hc))),f.cex,f.apart,f.above,f.same.trans ⟨rfl,rfl,id⟩,fun b o e=>?_,f.fresh,f.scp,f.gl,f.bu,f.base,f.fn,f.nofree⟩ (fun b o hb e=>G.extBut b o hb e) (by first|exact .inl (DT _)|exact .inr rfl)) (by rw[f.kind];rfl);exact G.extBut b o (Dh (De (rl e) f.fresh)) (f.keep b o e)
end Lf
theorem oV (G:Glob B){n:Nat}(R:Rm n A s)(f:Lf sc B env s₀ m s){x y g:Str}{Z fp yp cp p:Pos}{a b:Addr}{T:List Stmt}{Q:Flow→Shared→Prop}
  (hx:sc.names.lookup x=some .local)(hy:sc.names.lookup y=some .local)(hg:sc.names.lookup g=some .globalImplicit)(hv:G.val g=some (.ref a))(hc:dJ B (.ref a))(hm:m y=some (.ref b))
  (O:(y==("__debug__":Str))=false)(V:(g==("__debug__":Str))=false)
  (h:wpAny (model prog w) A (call (.ref a) [.ref b]) (fun v s₁=>0<s₁.toks→wpAny (model prog w) A (FL env x v) (fun J s'=>0<s'.toks→wpAny (model prog w) A (execs T env) Q E s') E s₁) E s):
  wpAny (model prog w) A (execs (.Assign [.Name x Z] (.Call (.Name g fp) [.Name y yp] [] cp) p::T) env) Q E s:=by
 refine csA (ay R ?_) rfl;refine il (f.glob G hg hv ?_ V);refine fK hc rfl (DR (C8 (f.name hy hm (Dp ⟨f.keeps,?_⟩) O)));refine Dn h (fun v s₁ q H=>?_) (fun J J e J=>e);exact ay H (Dn (q H.2) (fun J s' q R'=>q R'.2) fun J J e J=>e)
end
end
section
open PySem
theorem jN {α:Type}{f:α→α→Bool}(hf:∀a b,f a b=true→a=b):∀{a b:List α},lsE f a b=true→a=b
 |[],[],_=>rfl
 |[],_::_,e=>by contradiction
 |_::_,[],e=>by contradiction
 |x::a,y::b,e=>by
  have e:(f x y&&lsE f a b)=true:=e;exact aT e fun h1 h2=>by rw[hf _ _ h1,jN hf h2]
theorem xf {α β:Type}{f:α→α→Bool}{g:β→β→Bool}(hf:∀a b,f a b=true→a=b)(hg:∀a b,g a b=true→a=b)(a b:α×β)(e:prE f g a b=true):a=b:=
 aT e fun h1 h2=>Prod.ext (hf _ _ h1) (hg _ _ h2)
theorem sp {a b:List At}(e:lsE atE a b=true):a=b:=jN (fun _ _=>vH) e
noncomputable def VK.un (k:VK):V2:=match k.t with
 |0=>.none
 |1=>.bool (Do k.x 1)
 |2=>.int k.c k.x
 |3=>.str k.s
 |4=>.bytes k.s
 |_=>.ref k.x
theorem VK.un_key (v:V2):v.key.un=v:=by
 cases v with
 |bool b=>cases b<;>rfl
 |_=>rfl
theorem rg (a b:V2)(e:v2E a b=true):a=b:=
 aT e fun h1 e=>aT e fun h2 e=>aT e fun h3 h4=>by
  rw[←VK.un_key a,←VK.un_key b];refine congrArg VK.un ?_;show VK.mk a.key.t a.key.c a.key.x a.key.s=VK.mk b.key.t b.key.c b.key.x b.key.s;rw[nd h1,(dt _ _).mp h2,nd h3,sp h4]
noncomputable def OK2.un (k:OK2):O2:=match k.t with
 |0=>.list k.l
 |1=>.tup k.l
 |2=>.dict k.d
 |3=>.tab true
 |_=>.tab false
theorem OK2.un_key (v:O2):v.key.un=v:=by
 cases v with
 |tab b=>cases b<;>rfl
 |_=>rfl
theorem AP (a b:O2)(e:o2E a b=true):a=b:=
 aT e fun h1 e=>aT e fun h2 h3=>by
  rw[←OK2.un_key a,←OK2.un_key b];refine congrArg OK2.un ?_;show OK2.mk a.key.t a.key.l a.key.d=OK2.mk b.key.t b.key.l b.key.d;rw[nd h1,jN rg h2,jN (xf (fun _ _=>sp) rg) h3]
theorem AQ {a b:Option O2}(e:ooE a b=true):a=b:=by
 cases a with
 |none=>cases b with
  |none=>rfl
  |some _=>contradiction
 |some x=>cases b with
  |none=>contradiction
  |some y=>rw[AP x y e]
theorem ri:∀{a b:T2},t2E a b=true→a=b
 |.nil,.nil,_=>rfl
 |.nil,.node _ _ _,e=>by contradiction
 |.node _ _ _,.nil,e=>by contradiction
 |.node o l r,.node p m s,e=>by
  have e:(ooE o p&&(t2E l m&&t2E r s))=true:=e;exact aT e fun h1 e=>aT e fun h2 h3=>by rw[AQ h1,ri h2,ri h3]
theorem AR {a b:St}(e:stE a b=true):a=b:=
 aT e fun h1 e=>aT e fun h2 h3=>by
  show St.mk a.loc a.n a.hp=St.mk b.loc b.n b.hp;rw[jN (xf (fun a b=>(ao a b).mp) rg) h1,nd h2,ri h3]
theorem rj {C:Prop}{r:Rf}{f:St→Bool}(e:onN r f=true)(k:∀st,r=.next st→f st=true→C):C:=by
 cases r with
 |next st=>exact k st rfl e
 |_=>contradiction
theorem j7 (x:Rf)(f g:St→Rf):bo (bo x f) g=bo x fun s=>bo (f s) g:=by cases x<;>rfl
section
variable {prog:C9}{w:World}{θ:Th}{B:Fix}{n:Nat}{sc:Scope}{G:Glob B}
theorem rk {F:Fn}(h:∀t,StOk prog w θ B n sc t (iL F sc t)){b:List Stmt}{d:Xc}(hd:ExOk prog w θ B n sc b d):∀a,ExOk prog w θ B n sc (a++b) ⟨fun st=>bo ((bJ F sc a).run st) d.run⟩
 |[]=>fun A E Q env ρ st s r R S e H k=>hd A E Q env ρ st s r R S e H k
 |t::a=>fun A E Q env ρ st s r R S e H k=>jf (h t) (rk h hd a) A E Q env ρ st s r R S ((j7 _ _ _).symm.trans e) H k
theorem rm {P:Pm}(c:Ctx prog w θ B)(J:gc θ P.R){m:Nat}(K:Known prog w θ B m G P)(k:Nat)(t:Stmt):StOk prog w θ B (m+k) sc t (iL (fns P k) sc t):=
 xA (xa c J K k) fun h H=>by
  have KK:Known prog w θ B (m+k) G P:=by
   clear h H
   induction k with
   |zero=>exact K
   |succ j O=>exact O.up
  rcases H with⟨F',e⟩|e
  ·exact gx c (F':=F') (.inl e) KK h t
  ·exact gx c (F':=fns P 0) (.inr e) KK h t
theorem BO {F:Fn}(h:∀t,StOk prog w θ B n sc t (iL F sc t)):∀a,ExOk prog w θ B n sc a (bJ F sc a)
 |[]=>fN
 |t::a=>jf (h t) (BO h a)
noncomputable def BP (p:Int):Xc:=⟨fun st=>bo ((bJ (fnP none) aB.scope u8).run st) fun st=>bo ((bJ (fnP (some p)) aB.scope pA).run st) (bJ (fnP none) aB.scope xH).run⟩
theorem uh:aB.body.drop 2=u8++(pA++xH):=by rfl
theorem AS (c:Ctx prog w θ B){m:Nat}{p:Int}(hn:gc θ (sz none))(hp:gc θ (sz (some p)))(K:∀R,Known prog w θ B m G ⟨R,rP⟩):ExOk prog w θ B (m+199) aB.scope (aB.body.drop 2) (BP p):=
 (ir uh)▸rk (rm c hn (K _) 199) (rk (rm c hp (K _) 199) (BO (rm c hn (K _) 199) xH) pA) u8
theorem uj {r:Rf}(h:zq r=true):∃st H,r=.ret (.bool true) st∧st.hp.get 2=some (.tab H):=by
 cases r with
 |ret v st=>cases v with
  |bool b=>
   have h:(match st.hp.get 2 with
    |some (.tab _)=>b
    |_=>false)=true:=h
   cases e:st.hp.get 2 with
   |none=>rw[e]at h;contradiction
   |some o=>
    rw[e]at h
    cases o with
    |tab H=>have h:b=true:=h;subst h;exact⟨st,H,rfl,e⟩
    |_=>contradiction
  |_=>contradiction
 |_=>contradiction
theorem yN {i j k:Nat}{p:Int}(hp:p=0∨p=1)(ok:ed i j k=true):∃st H,(BP p).run (stL i j k)=.ret (.bool true) st∧st.hp.get 2=some (.tab H):=
 rj ok fun a J ok=>rj ok fun b hb ok=>rj ok fun c hc ok=>aT ok fun hs he=>by
  have hs:=AR hs;have hq:(bJ (fnP (some p)) aB.scope pA).run a=.next b:=by rcases hp with rfl|rfl;exact hb;exact hs▸hc
  refine(uj he).imp fun st z=>z.imp fun H z=>⟨?_,z.2⟩
  show bo ((bJ (fnP none) aB.scope u8).run (stL i j k)) _=_;rw[J];show bo ((bJ (fnP (some p)) aB.scope pA).run a) _=_;rw[hq];exact z.1
end
end
section
open PySem PySem.W PyProof.Rows PySem.Builtin
theorem HRel.empty {θ:Th}{h:Heap}:HRel θ [] 0 .nil h where
 len:=rfl
 nodup:=.nil
 live:=fun a B=>by cases B
 obj:=fun i o e=>by contradiction
 tab:=fun i o e=>by contradiction
theorem BQ {θ:Th}{h:Heap}{Dc Dt:Addr}{cs H:Array Value}{qc qt:Nat}(B:h.get? Dc=some { cls:=.type "list",dict:=none,data:=.seq cs qc,slots:= #[] })(G:h.get? Dt=some { cls:=.type "list",dict:=none,data:=.seq H qt,slots:= #[] })
  (O:h.get? am=some (cM #[]))(V:Dt≠Dc)(n2:am≠Dc)(n3:am≠Dt){i1 i2 i3:Nat}(hc:All2 (VRel θ []) (d9 i1 i2 i3) cs.toList)(ht:All2 (VRel θ []) ((DQ 9).map fun k=>.str [.t k 0]) H.toList):
  HRel θ [Dc,Dt,am] 3 (stL i1 i2 i3).hp h:=by
 have x1:HRel θ ([]++[Dc]) 1 (T2.nil.set 12 0 (.list (d9 i1 i2 i3))) h:=HRel.empty.add (by exact Bu) (by simp) B ⟨_,_,rfl,hc⟩
 have x2:HRel θ ([Dc]++[Dt]) 2 ((T2.nil.set 12 0 (.list (d9 i1 i2 i3))).set 12 1 (.list ((DQ 9).map fun k=>.str [.t k 0]))) h:=
  HRel.add x1 (by decide) (by simpa using V) G ⟨_,_,rfl,ht.imp fun J J=>VRel.ext (fun i a e=>by trivial)⟩
 have key:∀i o2,(stL i1 i2 i3).hp.get i=some o2→(i=2∧o2=.tab true)∨((T2.nil.set 12 0 (.list (d9 i1 i2 i3))).set 12 1 (.list ((DQ 9).map fun k=>.str [.t k 0]))).get i=some o2:=by
  intro i o2 e;have e:(((T2.nil.set 12 0 (.list (d9 i1 i2 i3))).set 12 1 (.list ((DQ 9).map fun k=>.str [.t k 0]))).set 12 2 (.tab true)).get i=some o2:=e;rw[T2.get_set12 _ _ _ _ (by decide)]at e;by_cases hi:i=2
  ·rw[if_pos hi]at e;exact .inl ⟨hi,(Dd e).symm⟩
  ·rw[if_neg hi]at e;exact .inr e
 refine⟨rfl,by simp[EL V,EL n2,EL n3],fun a Z=>?_,fun i o2 e=>?_,fun i b e=>?_⟩
 ·simp only[Da,Dr,or_false]at Z;rcases Z with rfl|rfl|rfl
  ·refine(ir B)▸?_;rfl
  ·refine(ir G)▸?_;rfl
  ·refine(ir O)▸?_;rfl
 ·rcases key i o2 e with⟨rfl,rfl⟩|e
  ·exact rT am _ rfl O (#[]) rfl (fun J=>rfl)
  ·refine aE (x2.obj i o2 e) fun a o h1 h2 h3=>?_;exact bp a o (Ext.push _ _ i a h1) h2 (h3.ext (Ext.push _ _))
 ·rcases key i _ e with⟨rfl,_⟩|e
  ·rfl
  ·exact Ext.push _ _ i _ (x2.tab i b e)
theorem uk:au ("cells":Str) aB.scope.names=some .local:=by rfl
theorem ul:au ("texts":Str) aB.scope.names=some .local:=by rfl
section
variable {prog:C9}{w:World}{A:Dq}{E:Value→Shared→Prop}{s₀ s:Shared}{env:Env}{m:Str→Option Value}{mg mb:Str→Option Value}
theorem xh (D:Gd s₀.heap mg mb)(Y:YP w s₀.heap){xs:List Str}{X:Nat→Int}(hx:∀x∈xs,bC x)(R:Rm 205 A s)(f:Lf aB.scope (mkB s₀.heap) env s₀ m s){Dc Dt:Addr}{cs ts:Array Value}{qc qt:Nat}
  (a8:m "cells"=some (.ref Dc))(a9:m "texts"=some (.ref Dt))(ag:s.heap.get? Dc=some { cls:=.type "list",dict:=none,data:=.seq cs qc,slots:= #[] })(al:s.heap.get? Dt=some { cls:=.type "list",dict:=none,data:=.seq ts qt,slots:= #[] })
  (oc:s₀.heap.get? Dc=none)(ot:s₀.heap.get? Dt=none)(n1:Dt≠Dc)(wc:¬Wf env Dc)(wt:¬Wf env Dt)
  {i1 i2 i3:Nat}(hc:All2 (VRel (mkθ prog w xs X) []) (d9 i1 i2 i3) cs.toList)(ht:All2 (VRel (mkθ prog w xs X) []) ((DQ 9).map fun k=>.str [.t k 0]) ts.toList)
  (ok:ed i1 i2 i3=true)(hn:gc (mkθ prog w xs X) (sz none)){p:Int}(hp:p=0∨p=1)(hr:gc (mkθ prog w xs X) (sz (some p))){Q:Flow→Shared→Prop}
  (hQ:∀s',Same s₀ s'→(∀b o,b≠am→s₀.heap.get? b=some o→s'.heap.get? b=some o)→(∃ps,s'.heap.get? am=some (cM ps))→Q (.ret (.bool true)) s'):wpAny (model prog w) A (execs (aB.body.drop 2) env) Q E s:=by
 have G:s₀.heap.get? am=some (cM #[]):=Y.tab;have n2:am≠Dc:=by rintro rfl;rw[oc]at G;contradiction
 have n3:am≠Dt:=by rintro rfl;rw[ot]at G;contradiction
 have low:∀a,Wf env a→s₀.heap.get? a=none:=by
  intro a Z
  have b1:s₀.heap.objs.size≤a:=by
   rcases Z with e|⟨y,hy⟩
   ·rw[e];exact f.fresh
   ·exact D9 (Ew f.fresh (f.above y a (mem_of_lookup hy)))
  cases e:s₀.heap.get? a with
  |none=>rfl
  |some o=>exact absurd (rl e) (FS.mpr b1)
 have wl:¬Wf env am:=fun h=>by have:=low _ h;rw[G]at this;contradiction
 have H:=BQ (θ:=mkθ prog w xs X) ag al (f.keep _ _ G) n1 n2 n3 hc ht;have hkd:∀x,env.kindOf x=au x aB.scope.names:=fun x=>by rw[aG,f.kindOf]
 have nm:∀a,Wf env a→a∉[Dc,Dt,am]:=by
  intro a Z V;simp only[Da,Dr,or_false]at V;rcases V with rfl|rfl|rfl
  ·exact wc Z
  ·exact wt Z
  ·exact wl Z
 have a0:∀x v,lk x (stL i1 i2 i3).loc=some v→(x="cells"∧v=.ref 0)∨(x="texts"∧v=.ref 1):=by
  intro x v e;have e:lk x [("cells",.ref 0),("texts",.ref 1)]=some v:=e;rw[cA]at e;by_cases h1:x="cells"
  ·rw[if_pos h1]at e;exact .inl ⟨h1,(Dd e).symm⟩
  ·rw[if_neg h1,cA]at e;by_cases h2:x="texts"
   ·rw[if_pos h2]at e;exact .inr ⟨h2,(Dd e).symm⟩
   ·rw[if_neg h2]at e;contradiction
 have S:SRel (mkθ prog w xs X) (mkB s₀.heap) aB.scope env [Dc,Dt,am] (stL i1 i2 i3) s:=by
  refine⟨H,⟨f.kind,fun x h=>by rw[hkd];exact h,fun x h=>by rw[hkd];exact h,fun x h=>absurd h (f.nofree x),fun x h=>by rw[hkd];exact h,⟨m,f.ns,?_⟩,?_,f.apart,nm _ (.inl rfl),?_⟩,f.gl,f.bu,?_⟩
  ·intro x v _ hl;rcases a0 x v hl with⟨rfl,rfl⟩|⟨rfl,rfl⟩
   ·exact va _ a8 Dc rfl rfl
   ·exact va _ a9 Dt rfl rfl
  ·intro x O;have O:=O.resolve_right (f.nofree x);refine xE (f.cex x O) fun c hc=>?_;refine bi c none hc (Dl (f.above _ _ (mem_of_lookup hc))) (nm _ (.inr ⟨x,hc⟩)) (f.cell x c hc) (fun v hl=>?_);rcases a0 x v hl with⟨rfl,_⟩|⟨rfl,_⟩
   ·rw[uk]at O;injection O with O;contradiction
   ·rw[ul]at O;injection O with O;contradiction
  ·intro y c hc;refine xEA (f.cell y c hc) fun o ho J=>?_;rw[ho];rfl
  ·intro a o e;have B:=(iz e).1;refine yAA (f.keep a o B) (fun V=>?_) (fun hw=>by rw[low a hw]at B;contradiction);simp only[Da,Dr,or_false]at V;rcases V with rfl|rfl|rfl
   ·rw[oc]at B;contradiction
   ·rw[ot]at B;contradiction
   ·rw[G]at B;injection B with B;subst B;have:=(iz e).2;contradiction
 refine aL (yN hp ok) fun st tb e e2=>?_;refine AS (AO (prog:=prog) D Y hx) hn hr (fun R=>xd (prog:=prog) D Y hx R) _ _ _ env _ _ s _ R.le S e (by simp) fun u ρ' s' S' K' r=>?_;have hu:u=.bool true:=r;clear r;subst hu;refine hQ s' (f.same.trans K'.same) (fun b o hb B=>?_) ?_
 ·refine(K'.keep b o (fun V=>?_) (fun hw=>by rw[low b hw]at B;contradiction) (f.keep b o B)).eq;simp only[Da,Dr,or_false]at V;rcases V with rfl|rfl|rfl
  ·rw[oc]at B;contradiction
  ·rw[ot]at B;contradiction
  ·exact hb rfl
 ·refine lH (S'.h.obj 2 _ e2) fun a o h1 h2 ps h3 J=>?_;have h4:=S'.h.tab 2 _ e2;rw[h4]at h1;injection h1 with h1;subst h1;exact⟨ps,by rw[h2,h3]⟩
end
theorem xi:∃O V Z cp p B G H J p',aB.body=.Assign [.Name "cells" O] (.Call (.Name "_law_cells" V) [.Name "script" Z] [] cp) p:: .Assign [.Name "texts" B] (.Call (.Name "_law_texts" G) [.Name "cells" H] [] J) p'::aB.body.drop 2:=
 ⟨_,_,_,_,_,_,_,_,_,_,rfl⟩
theorem nm1:aB.scope.names.lookup ("script":Str)=some .local:=by rfl
theorem nm2:aB.scope.names.lookup ("cells":Str)=some .local:=by rfl
theorem nm3:aB.scope.names.lookup ("texts":Str)=some .local:=by rfl
theorem nm4:aB.scope.names.lookup ("_law_cells":Str)=some .globalImplicit:=by rfl
theorem nm5:aB.scope.names.lookup ("_law_texts":Str)=some .globalImplicit:=by decide+kernel
set_option backward.match.sparseCases true in
noncomputable def sOf (v:Value):Str:=match v with
 |.str x _=>x
 |_=>DA
theorem AT {cs:Array Value}(h4:cs.size=4)(h:∀v∈cs.toList,∃c t,v=Dm c t∧0≤c∧c<1000000):∃X:Nat→Int,(∀k,0≤X k)∧∀prog w xs,All2 (VRel (mkθ prog w xs X) []) [.int 0 1,.int 0 2,.int 0 3,.int 0 4] cs.toList:=by
 obtain⟨l⟩:=cs;refine yEA (fun k=>iOf l[k]?) (fun k=>?_) fun prog w xs=>?_
 ·show 0≤iOf l[k]?
  cases e:l[k]? with
  |none=>exact Int.le_refl 0
  |some v=>
   refine aE (h v (C6 e)) fun c t e1 B J=>?_;clear e;subst e1;exact B
 ·exact nO h4 (fun v G=>(h v G).imp fun c z=>z.imp fun t z=>z.1) rfl
theorem VRel.atom {θ B:Th}{v:Value}{a b:Nat}(e:B.X b=θ.X a)(h:VRel θ [] (.int 0 (a+1)) v):VRel B [] (.int 0 (b+1)) v:=DO (fun t q=>q.trans (by show Dm (0+θ.X a) t=Dm (0+B.X b) t;rw[e])) h
theorem yO {θ B:Th}{i j k:Nat}(G:B.X i=θ.X 0)(e1:B.X (8+j)=θ.X 1)(e2:B.X (16+k)=θ.X 2)(e3:B.X 24=θ.X 3){l:List Value}(h:All2 (VRel θ []) [.int 0 1,.int 0 2,.int 0 3,.int 0 4] l):All2 (VRel B []) (d9 i j k) l:=by
 cases h with
 |cons a h=>cases h with
  |cons b h=>cases h with
   |cons c h=>cases h with
    |cons d h=>cases h;exact .cons (a.atom G) (.cons (b.atom e1) (.cons (c.atom e2) (.cons (d.atom e3) .nil)))
theorem C4 {B:Array Value}(V:B.size=9)(h:∀v∈B.toList,∃x t,v=Du x t∧bC x):∃xs:List Str,(∀x∈xs,bC x)∧∀prog w X,All2 (VRel (mkθ prog w xs X) []) ((DQ 9).map fun k=>.str [.t k 0]) B.toList:=by
 obtain⟨l⟩:=B;refine yEA (l.map sOf) (fun x G=>?_) fun prog w X=>?_
 ·refine xEA (Hu.mp G) fun v H e=>?_;refine aL (h v H) fun y t e1 Z=>?_;clear H;subst e1;clear G;subst e;exact Z
 ·refine iu (by rw[Gi,Lq];exact V.symm) fun i a b O hb=>?_;refine xEA (I7 .. ▸O |> EY.mp) fun k e1 e2=>?_;clear O;subst e2;have e1:k=i:=(Dz.mp e1).elim fun J q=>(q.symm.trans (K1 _))
  subst e1;refine aL (h b (C6 hb)) fun y t e2 J=>?_;refine⟨t,e2.trans ?_⟩;rw[oR,GA,I7,hb,e2];rfl
noncomputable def zy:Prop:=∀i j k:Nat,i<7→j<5→k<3→ed i j k=true
theorem mE (a m:Int)(h:m≠0):Eg (a%m).toNat=a%m:=Int.toNat_of_nonneg (JI a h)
theorem gC (a:Int){n:Nat}(h:0<n):(a%Eg n).toNat<n:=(Int.toNat_lt (JI a (Int.ofNat_ne_zero.mpr (Dl h)))).mpr (Lr a (Jj.mpr h))
theorem yP (a:Int):a%2=0∨a%2=1:=Int.emod_two_eq a
section
variable {M:Model}{A:Dq}{E:Value→Shared→Prop}{s₀ s:Shared}{m cm:Str→Option Value}{env:Env}
theorem AU {n:Str}{v:Value}{Q:Unit→Shared→Prop}(x:JJ s₀ env.locals m env.cells cm s)(O:env.scope.kind=.function)(hl:env.kindOf n=some .local)
  (h:∀s',0<s'.toks→JJ s₀ env.locals (upd m n v) env.cells cm s'→Q () s'):wpAny M A (FL env n v) Q E s:=by
 refine Ec hl x.toInCall.ns (fun h' G B=>h _ (DT _) ⟨⟨?_,G,fun b o e=>?_,x.toInCall.fresh⟩,fun k c hc=>?_,x.apart,x.above⟩) (by refine(ir O)▸?_;rfl)
 ·refine xEE x.toInCall.same fun J V H=>?_;subst H;exact yEE h' _ rfl
 ·exact B.extBut b o (Dh (De (rl e) x.toInCall.fresh)) (x.toInCall.keep b o e)
 ·exact(x.cell k c hc).sameBut B (Dl (x.above k c (mem_of_lookup hc)))
theorem xj (f:Str×Value→PUnit→Sem (ForInStep PUnit))(hf:∀n v u,f (n,v) u=(do FL env n v;pure (.yield ⟨⟩)))(B:env.scope.kind=.function){n:Str}{v:Value}{Q:PUnit→Shared→Prop}(x:JJ s₀ env.locals m env.cells cm s)
  (hl:env.kindOf n=some .local)(h:∀s',0<s'.toks→JJ s₀ env.locals (upd m n v) env.cells cm s'→Q ⟨⟩ s'):wpAny M A (forIn [(n,v)] ⟨⟩ f) Q E s:=by
 rw[GL,hf];refine il (il (AU x B hl fun s' hp G=>nb ?_));show wpAny M A (forIn [] ⟨⟩ f) Q E s';rw[JN];exact nb (h s' hp G)
theorem yQ {scope:Scope}{globals:Addr}{n:Str}{v:Value}{qual:Str}{func:Option Addr}{code:Value}{builtins:Addr}{Q:Env→Shared→Prop}(G:scope.kind=.function)(hl:scope.names.lookup n=some .local)
  (H:∀env,env=newEnv scope s.heap.objs.size globals (E2 (s.heap.objs.size+1) scope.names []) qual func code none builtins→
   ∀s',0<s'.toks→JJ s env.locals (upd (fun J=>none) n v) env.cells (fun J=>none) s'→Q env s'):
  wpAny M A (IU scope globals [] [(n,v)] qual func code none builtins) Q E s:=by
 simp only[IU,Option.isSome_none,GQ,if_false];refine il (wpAny_alloc ?_);refine il (wpAny_layCells _ (fun name kind cells=>by cases O:kind==F7<;>rfl) _ _ _ _ ?_);have ok:=cellsFrom_ok scope.names (s.heap.push { cls:=.type "frame",data:=.dict #[] }) (s.heap.objs.size+1) [] ⟨fun J J B=>(by contradiction),Hi⟩ (by rw[Eh];exact DK _);rw[Eh]at ok;refine(ir (show({ s with heap:=s.heap.push { cls:=.type "frame",data:=.dict #[] } }:Shared).heap.objs.size=s.heap.objs.size+1 from Eh ..))▸?_
 refine il (xj (s₀:=s) (env:=newEnv scope s.heap.objs.size globals (E2 (s.heap.objs.size+1) scope.names []) qual func code none builtins)
  _ (fun J J J=>rfl) G (m:=fun J=>none) (cm:=fun J=>none)
  ⟨⟨⟨_,_,rfl⟩,(Heap.Ns.new s.heap (.type "frame")).keeps (G5 _ _),fun b o e=>G5 _ _ b o (mc _ e),DK _⟩,
   fun n c hc=>(ok.empty n c (mem_of_lookup hc)).1,ok.apart,fun n c B=>(ok.empty n c B).2⟩
  hl fun s' hp x=>nb (H _ rfl s' hp x))
end
section
variable {prog:C9}{w:World}{A:Dq}{s:Shared}
set_option backward.match.sparseCases true in
theorem xk {R:GH→Shared→Prop}{a:Addr}{o:Obj}{fd:Fx}{body:List Stmt}{n:Str}{v:Value}
  (B:A.depth<Ed)(ho:s.heap.get? a=some o)(G:o.data=.func fd)(Z:s.heap.NoLimit)(a9:s.heap.CodeRec fd.code fd.qualname)
  (H:fd.body=.stmts body)(O:JF fd ⟨[v],[]⟩=pure [(n,v)])(a0:fd.closure=[])(hl:fd.scope.names.lookup n=some .local)
  (h:∀s₁,0<s₁.toks→JJ s (EJ fd s.heap.objs.size a).locals (upd (fun J=>none) n v) (EJ fd s.heap.objs.size a).cells (fun J=>none) s₁→
   wpAny (model prog w) (A.deeper (EJ fd s.heap.objs.size a)) (execs body (EJ fd s.heap.objs.size a)) (fun f s'=>R (.ok (.ret (match f with|.ret v=>v|_=>.none))) s')
    (fun e s'=>wpAny (model prog w) (A.deeper (EJ fd s.heap.objs.size a)) (leaving (EJ fd s.heap.objs.size a) e) (fun J V=>R (.error e) V) (fun e' V=>R (.error e') V) s') s₁)
  (ag:fd.scope.isCoroutine=false)(a8:fd.scope.isGenerator=false)(hk:fd.scope.kind=.function):
  Fb (model prog w) A (.call (.ref a) ⟨[v],[]⟩) R s:=by
 refine IK B ho G ag a8 H a9 ?_;refine(ir O)▸(ir a0)▸?_;refine nb (yQ hk hl fun env he s' hp x=>?_);subst he;exact⟨Z.keeps x.toInCall.keep,Lj (h s' hp x)⟩
end
section
variable {prog:C9}{w:World}{A:Dq}{E:Value→Shared→Prop}{s:Shared}{mg mb:Str→Option Value}
theorem xl (D:Gd s.heap mg mb)(Y:YP w s.heap)(all:zy)(R:Room 206 A){fa la:Addr}{o:Obj}{fd:Fx}(ho:s.heap.get? fa=some o)(hd:o.data=.func fd)(ag:fd.body=.stmts aB.body)(O:fd.scope=aB.scope)(ch:fd.closure=[])
  (hg:fd.globals=Fp)(ci:fd.builtins=FO)(d1:s.heap.CodeRec fd.code fd.qualname)(al:JF fd ⟨[.ref la],[]⟩=pure [(("script":Str),.ref la)])
  {items:Array Value}(hl:s.heap.IsList la items)(b4:∀v∈items.toList,∃c t,v=Dm c t)(d2:items.size≤1000){Q:Value→Shared→Prop}
  (hQ:∀s',Same s s'→(∀b o,b≠am→s.heap.get? b=some o→s'.heap.get? b=some o)→(∃ps,s'.heap.get? am=some (cM ps))→Q (.bool true) s'):wpAny (model prog w) A (call (.ref fa) [.ref la]) Q E s:=by
 obtain h1:aB.scope.kind=.function:=rfl;obtain h4:bT aB.scope.names=true:=by decide+kernel
 obtain h5:lT aB.scope.names=true:=by rfl
 obtain d3:fd.scope.kind=.function:=by refine(ir O)▸?_;rfl
 obtain d4:fd.scope.isCoroutine=false:=by refine(ir O)▸?_;rfl
 obtain b5:fd.scope.isGenerator=false:=by refine(ir O)▸?_;rfl
 obtain d5:Mine.Lake.Keeps (mkB s.heap) s.heap:=qP;refine Gm (xk (by have:=R.2.1;lia) ho hd D.lim d1 ag al ch (by refine(ir O)▸?_;exact nm1) ?_ d4 b5 d3)
 ·intro s₁ b6 V;generalize d6:s.heap.objs.size=N at *;obtain hkd:∀x,(EJ fd N fa).kindOf x=au x aB.scope.names:=fun x=>by rw[aG,←O];rfl
  obtain a0:(EJ fd N fa).cells=E2 (N+1) aB.scope.names []:=by refine O▸?_;rfl
  obtain d7:upd (fun J=>none) ("script":Str) (.ref la) ("script":Str)=some (.ref la):=ar;generalize upd (fun J=>none) ("script":Str) (.ref la)=m at *
  have f:Lf aB.scope (mkB s.heap) (EJ fd N fa) s m s₁:=by
   refine⟨V.toInCall.ns,fun n c hc=>V.cell n c hc,fun n hn=>?_,V.apart,V.above,?_,V.toInCall.keep,by refine(ir d6)▸?_;exact DK _,O,hg,ci,d5,h1,fun x=>dc h5⟩
   ·refine xEA ((aH (y:=n) aB.scope.names (N+1) [] h4).1 hn) fun c hc J=>?_;exact⟨c,by refine(ir a0)▸?_;exact hc⟩
   ·refine xEE V.toInCall.same fun hh tk e=>?_;refine(ir e)▸?_;exact⟨rfl,rfl,id⟩
  generalize EJ fd N fa=env at *;have B:Rm 205 (A.deeper env) s₁:=⟨⟨R.1,by have:=R.2.1;show A.depth+1+205+20<_;trivial,by have:=R.2.2;show A.units+3+8*205+60<_;lia⟩,b6⟩
  refine mR xi fun xp fp yp cp p ee ef eg eh p' hb=>?_;refine(ir hb)▸?_;have Fc:=bY Y (fr 3 rfl) rfl;have Ft:=bY Y (fr 4 rfl) rfl;refine aE Fc.obj fun oc fc c1 c2 J=>?_;refine aE Ft.obj fun ot ft t1 t2 J=>?_;refine oV (mkG D) B f nm2 nm1 nm4 (ba D Y (nr 6 rfl)) (.inl ⟨_,oc,fc,rfl,c1,c2⟩) d7 (by rfl) (by rfl) ?_;refine qk (n:=204) (mkG D) (bf D (by decide) rfl (by decide)) Fc B.1 f.keeps B.2 (hl.at fun o e=>f.keep _ o e) b4 d2 fun s₂ Dc cs qc b1 b2 b3 dv b7 be ea=>?_;obtain bk:=f.move b1 fun b o e=>(b2 b o e).eq
  have nE:¬Wf env Dc:=by
   rintro(e|⟨y,hy⟩)
   ·refine bq f.ns fun o' J J e' J=>?_;rw[←e,b3]at e';contradiction
   ·refine xEA (f.cell y Dc hy) fun o' e' J=>?_;rw[b3]at e';contradiction
  have bx:Dc≠env.locals:=fun e=>nE (.inl e)
  obtain e0:s.heap.get? Dc=none:=by
   cases e:s.heap.get? Dc with
   |none=>rfl
   |some o=>have:=f.keep _ _ e;rw[b3]at this;contradiction
  refine bk.put nm2 fun s₃ G c0 J c3=>?_;have H:=c0 _ _ bx dv;refine oV (mkG D) ⟨B.1,c3⟩ G nm3 nm2 nm5 (ba D Y (nr 7 rfl)) (.inl ⟨_,ot,ft,rfl,t1,t2⟩) ar (by rfl) (by rfl) ?_;refine ql (n:=204) (mkG D) (bf D (by decide) rfl (by decide)) (bf D (by decide) rfl (by decide)) Ft B.1 G.keeps ⟨_,H,rfl,qc,rfl⟩ b7 be fun c4 c5 Dt ts qt Z a8 e4 e5 h9 eb=>?_;obtain c6:=G.move (s':={ s₃ with heap:=c4,toks:=c5 }) ⟨rfl,rfl,id⟩ Z
  have c7:¬Wf env Dt:=by
   rintro(e|⟨y,hy⟩)
   ·refine bq G.ns fun o' J J e' J=>?_;rw[←e,a8]at e';contradiction
   ·refine xEA (G.cell y Dt hy) fun o' e' J=>?_;rw[a8]at e';contradiction
  obtain ca:Dt≠env.locals:=fun e=>c7 (.inl e)
  obtain e6:s.heap.get? Dt=none:=by
   cases e:s.heap.get? Dt with
   |none=>rfl
   |some o=>have:=G.keep _ _ e;rw[a8]at this;contradiction
  obtain n1:Dt≠Dc:=by rintro rfl;rw[a8]at H;contradiction
  refine c6.put nm3 fun ec cb a9 J cc=>?_;refine xEA (AT b7 be) fun X ei hX=>?_;refine xEA (C4 h9 e5) fun xs e7 e9=>?_
  refine xh (X:=aX X) (i1:=(X 0%7).toNat) (i2:=(X 1%5).toNat) (i3:=(X 2%3).toNat) D Y e7 ⟨B.1,cc⟩ cb (ah (by decide) ar) ar (a9 _ _ bx (Z _ _ H)) (a9 _ _ ca e4) e0 e6 n1 nE c7 (yO ?_ ?_ ?_ ?_ (hX prog w xs)) (e9 prog w (aX X))
   (all _ _ _ (gC (X 0) (n:=7) (by decide)) (gC (X 1) (n:=5) (by decide)) (gC (X 2) (n:=3) (by decide))) (oU fun J h=>by contradiction) (yP (X 3)) (oU fun r h=>(Dd h).symm) hQ
  ·exact(congrArg (aX X) (by lia)).trans (sm (c:=0) (De (gC (X 0) (n:=7) (by decide)) (by decide)) (mE (X 0) 7 (by decide)))
  ·exact sm (c:=1) (De (gC (X 1) (n:=5) (by decide)) (by decide)) (mE (X 1) 5 (by decide))
  ·exact sm (c:=2) (De (gC (X 2) (n:=3) (by decide)) (by decide)) (mE (X 2) 3 (by decide))
  ·exact sm (X:=X) (c:=3) (r:=0) (by decide) (Int.emod_one (X 3)).symm
end
end
section
open PySem
noncomputable def CaP (i:Nat):Prop:=((DQ 5).all fun j=>(DQ 3).all fun k=>ed i j k)=true
theorem cW {P:Nat→Prop}{n:Nat}(h:∀i,i<n→P i)(hn:P n)(i:Nat)(hi:i<n+1):P i:=(Nat.lt_succ_iff_lt_or_eq.mp hi).elim (h i) fun e=>e▸hn
theorem xm {P:Nat→Prop}(i:Nat)(h:i<0):P i:=absurd h (JH i)
theorem C5:∀i,i<7→CaP i:=cW (cW (cW (cW (cW (cW (cW xm ca0) ca1) ca2) ca3) ca4) ca5) ca6
theorem AV:zy:=fun i j k hi hj B=>FY.mp (FY.mp (C5 i hi) j (JM.mpr hj)) k (JM.mpr B)
end
section
open PySem PySem.W PyProof.Rows
section
set_option maxHeartbeats 0
theorem AW:∀x∈(["len","sum","list","range","zip","set","sorted","enumerate","chr"]:List Str),x∉startupNames∧x∉looseW qv eE∧x∉(recsOf qv).map (·.name)∧x∉(litsOf qv).map (·.1)∧x∉(clssOf qv (looseW qv eE)).map (·.name):=by decide+kernel
theorem xn {us:List Value}{B:List Int}(h:IntsAre us B):∀v∈us.toArray.toList,∃c t,v=Dm c t:=by
 induction h with
 |nil=>intro v hv;cases hv
 |cons n t r G=>
  intro v hv;rcases Da.mp hv with rfl|hv
  ·exact⟨_,_,rfl⟩
  ·exact G v hv
theorem xo {us:List Value}{B:List Int}(h:IntsAre us B):B.length=us.length:=by
 induction h with
 |nil=>rfl
 |cons n t r G=>rw[Ep,Ep,G]
theorem yR {w:World}{h h':Heap}(Y:YP w h)(G:∀b o,b≠am→h.get? b=some o→h'.get? b=some o)(B:∃ps,h'.get? am=some (cM ps)):OldK h h':=by
 obtain⟨ps,B⟩:=B;have H:=Y.tab;refine⟨fun b o e=>?_,fun b o e=>?_⟩
 ·by_cases hb:b=am
  ·subst hb;rw[H]at e;cases e;exact Gp Y.cd fun o z=>Gp z.2.2 fun J y=>.inr (.inl ⟨⟨145,o,J,z.1,z.2.1,y.1,y.2.1⟩,rfl, #[],ps,rfl,by rw[B];simp⟩)
  ·exact .inl (G b o hb e)
 ·by_cases hb:b=am
  ·subst hb;exact⟨_,B⟩
  ·exact⟨_,G b o hb e⟩
set_option tactic.hygienic true in
theorem ent:PySem.Challenge.rw_if0002_01.Holds:=by
 w_on
 refine holds_law ws fun a9=>?_
 refine holds_open (q:=qv) (loose:=eE) (Xt:=fun s=>xlAt qv [] s&&recOk (RowW.records (PySem.Challenge.rw_if0002_01.row.toRowW)) s) (XP:=XL qv []) (Yf:=Yf) (Ya:=Ya) (YP:=fun w h=>YP w h) (N:=3300) BH BL (fun J J J Y k=>YP.keeps k Y)
  (fun s e=>xl_of s (KD.mp e).1) XL.keeps (by rfl) (by rfl) (by rfl) (fun s e=>recFacts_of (KD.mp e).2) (by rfl) (by first|assumption|decide+kernel) (by decide+kernel) ⟨rfl,rfl,rfl,rfl,rfl,by decide+kernel⟩ ?hw ?hc
 ·w_witness2
 ·intro w s₀ s₁ mg mb G Y fa o pm cd al dV kV ho hd V hD b1 hg args ag as B H Z a0 a8;have he:=Dflts.none hD rfl;subst he
  wrow_args B H Z a0 a8
  rename_i zs hs b2 b3 b4 b5 as1 b6 la us b7 hL ra w1 r0 hI hr be bk
  have D:Gd s₁.heap mg mb:=by
   refine⟨G.T.g,G.T.b,G.T.nolimit,G.T.builtins,G.T.bmain,fun x hx=>?_⟩;obtain⟨f1,f2,f3,f4,f5⟩:=AW x hx;exact G.T.free x f1 f2 f3 f4 f5
  refine xl D Y AV (by unfold Room;decide) ho hd rfl rfl rfl rfl rfl V rfl hL (xn hI) (by rw[Es,←xo hI];omega) fun s' O hk ht=>?_;refine⟨.inl ⟨_,.bool true,[],rfl,raisesW_false (by wrow_none_raised),.bool _,by wrow_post,fun J=>⟨.nil,fun a h=>by cases h⟩⟩,yR Y hk ht,O.1,O.2.2 (AllBare.of_eq hg)⟩
end
end
end Mine.Lake
theorem PySem.Challenge.cw_if0002_01_holds : PySem.Challenge.rw_if0002_01.Holds := by
 exact Mine.Lake.ent
