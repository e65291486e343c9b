import PyProof.Rows.All
import Wide.All
import OpenK.AllK
import Wide.FinOn
import PyProof.ExcFactsAll.ValueError
import PySem.Challenge.RW_tc0061_01
set_option bootstrap.genMatcherCode false
set_option linter.all false
set_option genSizeOf false
set_option genInjectivity false
set_option Elab.async false
set_option autoImplicit false
set_option tactic.hygienic false
open And renaming intro→Kc
open Array renaming length_toList→eL,ext'→AR,getElem?_toList→AS,getElem?_eq_getElem→Bi,toList_append→D7,toList_map→Kp,getElem?_eq_none→Ks,toList_inj→Kx,toList_push→KJ,perm_iff_toList_perm→UZ,toList_extract→ahK,mem_of_find?_eq_some→ahP,mem_iff_getElem?→ahZ,getElem?_eq_none_iff→ah0,mem_toList_iff→ah1,getElem_mem→ah2
open Bool renaming true→ae,false→ag,and_eq_true_iff→fM,false_ne_true→f9,and_eq_true→j0,false_eq_true→yy,and_true→EK,or_eq_true_iff→TU,true_and→Uu,or_eq_true→UD,not_eq_true'→UK,false_and→ahB,and_false→ahM,eq_iff_iff→aim,and_comm→aiz
open Eq renaming symm→jg
open ForInStep renaming yield→sO
open Function renaming comp_apply→Ue
open Iff renaming rfl→Ba
open Int renaming natCast_nonneg→jf,negSucc→qD,ofNat_le→uk,le_trans→AQ,negSucc_lt_zero→DZ,ofNat→Ec,fmod_eq_emod_of_nonneg→ES,not_lt→Kg,toNat_of_nonneg→Ki,le_of_lt→TN,lt_of_le_of_lt→TP,toNat_natCast→UH,ofNat_lt→U3,neg_le_neg→ag9,min_eq_left→aha,subNatNat_of_le→ahb,fdiv_eq_ediv_of_nonneg→aih,natCast_pow→aii,sub_eq_add_neg→aij
open LawfulBEq renaming eq_of_beq→pC
open List renaming length_map→aQ,casesOn→bj,length_append→bt,mem_cons→bE,mem_cons_self→bG,range→bM,length_cons→bT,mem_cons_of_mem→cf,map_append→dw,map_map→dJ,mem_singleton→dK,append_assoc→d5,append_nil→eg,all_eq_true→fk,mem_map→fq,mem_append→gq,map_cons→iT,mem_range→lr,getElem?_eq_getElem→ly,getElem?_map→l9,getD_eq_getElem?_getD→m8,length_nil→nc,flatMap_cons→nq,getElem?_eq_some_iff→pz,range'→pG,length_take→qH,length_range→qL,map_nil→qU,foldl_cons→sF,mem_of_getElem?→sJ,not_mem_nil→sN,lookup_cons→sP,isEmpty_iff→sR,length_singleton→sS,length_drop→uw,nodup_cons→uE,filter_cons→uI,eq_nil_of_length_eq_zero→wG,lookup→wN,length_filter_le→wW,map_take→wX,filter_append→wY,nodup_nil→yG,mem_append_right→yJ,getElem?_append_right→yK,mem_flatMap→yO,map_drop→yP,mem_filter→yR,drop_eq_nil_of_le→AU,filterMap_cons→AW,filterMap_map→AX,toList_toArray→AY,mem_append_left→A9,map_reverse→Bg,take_left'→Bo,flatten_append→Bp,filter_cons_of_neg→Br,filter_cons_of_pos→Bs,drop_drop→Ei,any_cons→EB,nil_append→EO,range_eq_range'→EP,getElem_mem→ER,length_zipIdx→ET,length_range'→EU,take_length→Kk,getElem?_cons_succ→Kl,getElem?_drop→Km,drop_zero→Ko,forIn_cons→KH,mem_reverse→KN,flatten_cons→K3,map_flatMap→K4,singleton_sublist→K5,mem_zipIdx_iff_getElem?→K6,length_reverse→K7,flatMap_append→K9,filter_filter→La,drop_nil→TS,length→Ua,size_toArray→Uk,getElem?_eq_none→Us,head?_drop→UC,getElem?_append_left→UI,Nodup→UW,getElem_inj→U1,drop_append_of_le_length→U2,any_eq_false→U4,ext_getElem→U5,getElem_map→U6,getElem_pmap→U7,filter_eq_self→U8,mem_of_mem_take→U9,mem_of_mem_drop→Va,flatMap_nil→Ve,any_eq_true→Vf,zipIdx_map_snd→Vg,getElem_cons_drop→Vh,mem_range'_1→Vl,zipWith→Vm,take_nil→ahc,replicate→ahe,drop_take→aho,sum_cons→aht,length_eq_one_iff→ahy,find?_cons_of_neg→ahz,Pairwise→ahF,findIdx?_cons→ahO,find?_cons→ahS,of_mem_zip→ahT,foldl_append→aie,flatMap_def→aik,filter_eq_nil_iff→aio,take_append_drop→aip,reverse_cons→aiq,range'_append→ais,append_inj→ait,mem_of_mem_tail→aiu,drop_left'→aiv,reverse_reverse→aiw,getElem_range→aix,filter_congr→aiy
open List.cons renaming inj→jh,injEq→EM
open Nat renaming beq→az,le_trans→aF,blt→aU,ble→aX,le_of_ble_eq_true→bc,ble_eq_true_of_le→bO,le_refl→bZ,le_of_lt→d4,zero_le→eo,lt_trans→ew,eq_of_beq_eq_true→fZ,lt_of_lt_of_le→ia,ne_of_lt→iU,lt_of_le_of_lt→jj,mod_lt→j3,zero_add→ll,casesAuxOn→lq,succ_le_succ→m7,beq_refl→nh,le_add_right→nj,ne_of_gt→oG,not_lt→pA,sub_le→qE,lt_irrefl→qF,add_le_add_left→qJ,le_of_eq→sG,add_le_add→um,min_le_right→uo,le_of_lt_succ→ur,mul_succ→uu,le_add_left→uH,le_succ→wO,mul_le_mul_left→yv,sub_lt→yw,lt_succ_of_lt→yx,pow_le_pow_right→yQ,succ_pos→AZ,succ_mul→A0,le_antisymm→A2,le_succ_of_le→Bc,sub_self→Bf,add_comm→Bl,add_assoc→Bm,min_eq_left→D6,le_of_succ_le→Eb,toDigits→Ef,lt_succ_self→Eg,le_of_sub_eq_zero→Eh,not_lt_zero→Ex,lt_succ_of_le→EN,rec→Ka,le_sub_one_of_lt→Kb,add_right_comm→Ke,mul_le_mul_right→Kr,sub_pos_of_lt→KV,pow_pos→K8,lt_of_not_le→TQ,casesOn→TR,add_zero→Ud,le_of_not_lt→Uj,lt_of_sub_eq_succ→Um,pow_add→Vb,mul_assoc→Vc,mul_le_mul→Vd,add_le_add_right→Vi,one_mul→Vj,succ_le_of_lt→Vk,ne_of_beq_eq_false→ahi,le_of_succ_le_succ→ahj,div_add_mod→ahp,mul_div_le→ahq,toDigits_of_lt_base→ahr,repr_eq_ofList_toDigits→ahs,lt_or_eq_of_le→ah9,lt_add_of_pos_right→aia,add_sub_of_le→aib,lt_of_le_of_ne→aic,lt_trichotomy→aid,succ_lt_succ→ail,add_sub_cancel_left→air
open Nat.succ renaming inj→yL
open Ne renaming symm→Eu
open Option renaming some→aa,none→af,map_eq_some_iff→sM,isSome_iff_exists→Ek,map_some→KL,getD_some→Ug,bind_eq_some_iff→ahd,map_eq_none_iff→ain
open Option.some renaming inj→ir
open PUnit renaming unit→UR
open Prod renaming fst→TM
open Prod.mk renaming injEq→yu,inj→ED
open PyProof.Rows renaming seqObj→kI,assign_Name→qP,AllBare→wC,Subscript_→Es,room_in_shaped→Kf,subscriptTail→Kh,assign_Tuple→KG,isTrue_plain→K0,Attribute_name→K1,listUpdate_at→Uo,seqEpoch_at→Uq,isTrue_and→Ux,isTrue_or→Uy,append_at→UX,ne_str→ahl,lt_int→ahm
open PySem renaming Str→ah,Value→ak,wpAny→ar,Expr→au,model→aw,Shared→ay,wpAny_bind→aB,Addr→aE,Pos→aO,Heap→aP,Stmt→a9,wpAny_pure→bz,Slot→bA,Env→bF,World→cM,Sem→cN,Around→dU,NameKind→eC,Obj→fJ,starEach→f7,mainGlobals→gp,wpAny_execs_cons→gw,backTo→gK,wpAny_mono→ib,Seg→iw,recursionLimit→iS,wpAny_holding→ji,Flow→jk,builtinsNs→jE,cellsFrom→jF,bindArgs→jG,callWith→j4,callEnvC→j6,CmpOp→kH,wpAny_standAt→kJ,wpAny_truthy_bool→lu,sizeLine_eq→lx,assignEach→l8,Tok→mZ,Scope→m4,wpAny_loadPart'→m9,wpAny_of_eq→ow,standAt→oy,execs→oA,wpAny_execs_nil→oB,wpAny_Assign_Name→oC,FuncData→px,Data→pB,seg_execs_nil→pE,sizeLine→qG,typeLookup→qI,IsPart→qK,Builtin→qM,storeName→qO,seg_execs_cons→qR,typeLookup_type→qS,builtinLookup_eq_fast→qT,Comprehension→sE,compareOp→sH,Model→sQ,GenState→uq,foldedSetIterable→uF,codeAny→uG,Operator→wD,Result→wH,wpAny_newList→wI,strKind→wJ,wpAny_loadName_local→wK,Callee→wL,wpAny_assignInOrder_more→wM,wpAny_If→wQ,seg_wrap→wR,Program→yt,wpAny_call_entry→yz,wpAny_Name→yB,getMethod→yC,call→yD,wpAny_isTrue_Compare1→yF,wpAny_newObj_type→yM,slicePick→AV,wpAny_loadName_cell→A3,wpAny_loadName_free→A4,methodCallPos→A5,callWith_type→A6,letOwnedTupleGo→A7,comprehension→Bb,swappedStores→Bd,assignStores→Be,firstArgMember→Bh,BindsTo→Bk,binaryOp→D8,call_meets→D9,sliceBounds→Ed,wpAny_newTuple→Ej,Keyword→El,truthy→Em,wpAny_Constant_none→Eo,wpAny_Constant_bool→Ep,evalEach→Er,wpAny_storeName_local→Ew,assignInOrder→Ey,wpAny_assignInOrder_none→Ez,wpAny_rule→EA,wpAny_Return_some→EC,wpAny_call→EE,wpAny_field→EF,importedModules→EL,slot_list_getitem→Kj,wpAny_pyIter_list→Kq,ExceptHandler→Ky,wpAny_Constant_str→KA,evalArgs_none→KC,getMethod_builtin→KD,wpAny_callSpecial?_slot→KP,intBits_le_64→TV,typeIs_str→Uc,wpAny_getItem_list_slice→Ui,attributeBase→Ut,arm_eval_Call→Uv,wpAny_Constant_int→Uw,Slot→UA,name_of_addr→UE,wpAny_Expr_any→UG,wpAny_point→UJ,wpAny_handled→UL,wpAny_throw→UM,wpAny_isInstance→UN,isSubtype_stop→UO,setGen_self→UQ,wpAny_Expr→UY,wpAny_storeName_cell→ahA,wpAny_pyIter_tuple→ahC,codeAny_forLoop_any→ahN
open PySem.Around renaming in1_units→Kv,frames_deeper→UT,under_plainId→ahu
open PySem.BindsTo renaming of_eq→KZ
open PySem.Builtin renaming bitAnd→DY
open PySem.Builtin.Generator renaming genWake→ahU
open PySem.Builtin.Int renaming intBits→TY
open PySem.Builtin.List renaming listFitsIndex→TZ,listTooLong→T9
open PySem.Builtin.Range renaming rangeSize→Uz,small→ahD,rangeFitsLong→ahE
open PySem.Builtin.Re renaming reRawNat→Bj,reTurnSteps→EH,reRunToEnd→KX,reDrive→KY,reRawOf→US,reTarget→ah3,reNamed→ah4,reRawItems→ah5,reAnswer→ah6
open PySem.Builtin.SmallTypes renaming nextOf→KU
open PySem.Calls renaming spliced_cons→iu,spliced_nil→j5,evalArgs_plain→qN,callWith_builtin→uC,callWith_function→Et,Name_function_global→Kz,loadGlobal_builtin→ahw
open PySem.Challenge renaming rw_tc0061_01→J9
open PySem.Code renaming weight→KQ,cUnits→KR
open PySem.Expr renaming Name→qQ,casesOn→uA
open PySem.F renaming slot_list_lt→Un,slot_list_add→ahf,entry_list_add→ahg,args_list_add_2→ahh,slot_str_getitem→ahn,plainAttrs_list→ahG,slot_list_append→ahH,type_list_append→ahI,slot_list_insert→ahJ,slot_list_extend→ahL,slot_str_ascii_iterator_next→ahV,slot_str_iterator_next→ahW,slot_enumerate_next→ahX
open PySem.Heap renaming get?_push_size→eT,lt_size→jD,get?_push_of_some→jZ,Ns→yA,SameBut→yI,size_push→A1,get?_none_of_le→EG,get?_push_ne→Kw,get?_update_self→KI,nsMap→K2,size_update→Ur,ExtBut→UP,get?_update_ne→ahv
open PySem.Heap.IsSliceOf renaming new→ahx
open PySem.Heap.SameBut renaming update→A8
open PySem.Heap.UpToSlots renaming of_keeps→ah7
open PySem.NameKind renaming free→fN,cell→oz
open PySem.Obj renaming mapSeq→uz,dropName_eq→ahQ,dropNameByArray→ahR
open PySem.PyData renaming list→dQ,eqv→dT,int→fY,str→uB,bool→yE,eqvAll→Bq,canLayAll0→aif
open PySem.Sem renaming bind_eq_wrap'→wU,wrap_wrap→wV
open PySem.SeqAt renaming shaped→c9,canLay_of_shaped→Ea
open PySem.Shared renaming setGen→ahY
open PySem.Sre renaming inSet→oF,M→yN,forSearch→EJ,Seen→KW
open PySem.Stmt renaming casesOn→KO
open PySem.Str renaming empty→ix,ofString→sI,ext'→wF,length→TX
open PySem.StrLaws renaming subAt_eq→ahk
open PySem.Txt renaming slice→Uh
open PySem.Value renaming none→uy,ref→yH,isStrOf→ah8
open PySem.W renaming KasT→ag7,kas_sort→ag8
open PySem.Walks renaming list→Ul
open String renaming ofList→Ee
open PySem PySem.Calls PyProof.Rows
namespace Ev
noncomputable abbrev D:=PyData
noncomputable def prog:yt:=J9.row.prog
set_option genCtorIdx false in
inductive bA where
 |val (d:D)
 |own (xs:List D)
 |cU (i:Nat)
 |fO (kvs:List (ah × Int))
noncomputable def bA.ctorIdx(x:bA):Nat:=bA.casesOn (motive:=λ_=>Nat) x (λ_=>0) (λ_=>1) (λ_=>2) λ_=>3
noncomputable abbrev aM:=List (Nat × bA)
noncomputable def get:aM→Nat→Option bA
 | [],_=>af
 | (j,s)::r,i=>cond (az j i) (aa s) (get r i)
theorem uJ(x:Nat):get [] x=af:=rfl
theorem pH(x j:Nat)(s:bA)(r:List (Nat × bA)):get ((j,s)::r) x=bif az j x then aa s else get r x:=rfl
noncomputable def put:aM→Nat→bA→aM
 | [],i,s=>[(i,s)]
 | (j,t)::r,i,s=>cond (az j i) ((j,s)::r) ((j,t)::put r i s)
theorem Lb(x:Nat)(gM:bA):put [] x gM=[(x,gM)]:=rfl
theorem Bt(x:Nat)(gM:bA)(j:Nat)(t:bA)(r:List (Nat × bA)):put ((j,t)::r) x gM=bif az j x then(j,gM)::r else(j,t)::put r x gM:=rfl
noncomputable abbrev Hs:=List (List (ah × ah))
noncomputable abbrev W(α:Type):=Option (α × Bool)
noncomputable abbrev aW:Type:=ak→ay→Prop
noncomputable abbrev cT:Type:=List (ah × eC)
noncomputable abbrev aY:Type:=aE→Prop
noncomputable abbrev ax:Type:=List Nat
noncomputable abbrev ma:Type:=Nat→List D→W D
noncomputable abbrev cP:Type:=List (List Nat)
noncomputable abbrev d6:Type:=List (ah × ah)
noncomputable abbrev gO:Type:=List (ah × Int)
noncomputable abbrev dW:Type:=Nat→aE × aE
noncomputable abbrev gy:Type:=ah→Option ak
noncomputable def W.ret{α:Type}(a:α):W α:=aa (a,ae)
noncomputable def W.need{α:Type}(a:α)(ok:Bool):W α:=aa (a,ok)
noncomputable def W.bind{α β:Type}(m:W α)(f:α→W β):W β:=match m with
 |none=>af
 |some (a,ok)=>match f a with
  |none=>af
  |some (b,oH)=>aa (b,ok&&oH)
inductive mc where
 |add|sub|mul|fdiv|mod|pow|shr|band
inductive uK where
 |eq|ne|lt|le|gt|ge|isin|iy
inductive Prim where
 |len|str|int|md|sum|sorted|join|lower
set_option genCtorIdx false in
inductive jl where
 |one (i:Nat)
 |two (i j:Nat)
set_option genCtorIdx false in
mutual
inductive RE where
 |lit (d:D)
 |var (i:Nat)
 |gl (x:ah) (i:Int)
 |bin (op:mc) (a b:RE)
 |and (a b:RE)
 |or (a b:RE)
 |ite (c a b:RE)
 |cmp (a:RE) (cs:mf)
 |uL (a:RE)
 |not (a:RE)
 |sub (a i:RE)
 |aG (v:Nat) (i:RE)
 |cw (v:Nat) (lo hi st:RO)
 |slice (a:RE) (lo hi st:RO)
 |bL (v:Nat)
 |list (es:bf)
 |tup (es:bf)
 |comp (loc:ax) (t:jl) (it:RI) (ifs:bf) (gs:kK) (elt:RE)
 |call (f:Nat) (es:bf)
 |prim (p:Prim) (es:bf)
 |wZ (v:Nat) (k d:RE)
 |uM (k:RE) (v:Nat)
 |tok (k d:RE)
 |jH (h:Nat) (k:RE)
 |oI (h:Nat)
 |mh (h:Nat)
inductive bf where
 |nil
 |cons (e:RE) (es:bf)
inductive mf where
 |nil
 |cons (op:uK) (e:RE) (cs:mf)
inductive kK where
 |nil
 |cons (t:jl) (it:RI) (ifs:bf) (gs:kK)
inductive RI where
 |data (e:RE)
 |dy (b:RE)
 |range (a b:RE)
 |gen (e:RE)
inductive RO where
 |none
 |some (e:RE)
end
noncomputable def bf.ctorIdx(x:bf):Nat:= @bf.casesOn (λZ=>Nat) x 0 λZ Z=>1
end Ev
namespace Ev
noncomputable def lEq:List Nat→List Nat→Bool
 | [],[]=>ae
 | [],_::_=>ag
 |_::_,[]=>ag
 |x::xs,y::ys=>cond (az x y) (lEq xs ys) ag
theorem Lc(Ld:Nat)(xs:ax)(y:Nat)(ys:ax):lEq (Ld::xs) (y::ys)=bif az Ld y then lEq xs ys else ag:=rfl
noncomputable def sL(x:ah):List Nat:=x.cps.toList
noncomputable def aj(l:ax):ah:=⟨⟨l⟩⟩
noncomputable def sEq(x y:ah):Bool:=lEq (sL x) (sL y)
noncomputable def Bu(x y:ah):ah:=aj (sL x++sL y)
noncomputable def qV:List Nat→List Nat→Bool
 | [],_=>ae
 |_::_,[]=>ag
 |x::xs,y::ys=>cond (az x y) (qV xs ys) ag
noncomputable def nt(x:ax):List Nat→Bool
 | []=>qV x []
 |y::ys=>cond (qV x (y::ys)) ae (nt x ys)
theorem Vn(x:ax)(y:Nat)(ys:ax):nt x (y::ys)=bif qV x (y::ys)then ae else nt x ys:=rfl
noncomputable def big:Nat:=16777216
noncomputable def small(i:Int):Bool:=aU i.natAbs 18446744073709551616
noncomputable def cY(d:D):Option Int:=match d with| .int i=>aa i|_=>af
noncomputable def dD(d:D):Option ah:=match d with| .str x=>aa x|_=>af
noncomputable def d7(d:D):Option (List D):=match d with| .list xs=>aa xs|_=>af
noncomputable def Vo(d:D):Option (List D):=match d with| .tuple xs=>aa xs|_=>af
noncomputable def Bv(d:D):Option Bool:=match d with| .bool b=>aa b|_=>af
noncomputable def Bw(d:D):Bool:=match d with| .none=>ae|_=>ag
noncomputable def ny(d:D):Option (List D):=match d7 d with|some xs=>aa xs|none=>Vo d
noncomputable def truthy(d:D):Option Bool:=match Bv d with|some b=>aa b|none=>(cY d).map λi=> !(i == 0)
noncomputable def sT(f:Int→Int→W D)(x y:D):W D:=(cY x).bind λa=>(cY y).bind λb=>f a b
noncomputable def uN(x y:D):W D:=match cY x with
 |some a=>(cY y).bind λb=>W.ret (.int (a+b))
 |none=>match dD x with
  |some s=>(dD y).bind λt=>W.need (.str (Bu s t)) (aX ((sL s).length+(sL t).length) big)
  |none=>(d7 x).bind λxs=>(d7 y).bind λys=>W.need (.list (xs++ys)) (aX (xs.length+ys.length) big)
noncomputable def rep{α:Type}(xs:List α):Nat→List α
 |0=>[]
 |n+1=>xs++rep xs n
theorem Le{α:Type}(xs:List α)(n:Nat):rep xs (n+1)=xs++rep xs n:=rfl
noncomputable def Lf(x y:D):W D:=(cY y).bind λn=>match cY x with
 |some a=>W.need (.int (a * n)) (small a||small n)
 |none=>match dD x with
  |some s=>W.need (.str (aj (rep (sL s) n.toNat))) (aX n.natAbs 1000000&&aX ((sL s).length * n.toNat) big)
  |none=>(d7 x).bind λxs=>W.need (.list (rep xs n.toNat)) (aX n.natAbs 1000000&&aX (xs.length * n.toNat) big)
noncomputable def j7:mc→D→D→W D
 | .add=>uN
 | .sub=>sT λa b=>W.ret (.int (a - b))
 | .mul=>Lf
 | .fdiv=>sT λa b=>W.need (.int (a.fdiv b)) (!(b == 0)&&aU b.natAbs 1073741824)
 | .mod=>sT λa b=>W.need (.int (a.fmod b)) (!(b == 0))
 | .pow=>sT λa n=>W.need (.int (a^n.toNat)) (small a&&decide (0≤n)&&aU n.natAbs 1000000)
 | .shr=>sT λa n=>W.need (.int (a.fdiv (2^n.toNat))) (decide (0≤n))
 | .band=>sT λa b=>W.ret (.int (DY a b))
noncomputable def Bx(a b:D):W Bool:=W.need (dT a b) (c9 a&&c9 b)
noncomputable def w0(a b:D):W Bool:=match cY a with
 |some i=>(match cY b with|some j=>W.ret (i == j)|none=>Bx a b)
 |none=>match dD a with
  |some x=>(match dD b with|some y=>W.ret (sEq x y)|none=>Bx a b)
  |none=>Bx a b
noncomputable def sU(x y:D):W Bool:=match dD y with
 |some y=>(dD x).bind λx=>W.ret (nt (sL x) (sL y))
 |none=>(ny y).bind λys=>W.need (ys.any λz=>dT z x) (c9 y&&c9 x)
noncomputable def w4(f:Int→Int→Bool)(a b:D):W Bool:=(cY a).bind λi=>(cY b).bind λj=>W.ret (f i j)
noncomputable def sV(m:W Bool):W Bool:=m.map λp=>(!p.1,p.2)
noncomputable def gQ:uK→D→D→W Bool
 | .eq=>w0
 | .ne=>λa b=>sV (w0 a b)
 | .lt=>w4 λa b=>decide (a<b)
 | .le=>w4 λa b=>decide (a≤b)
 | .gt=>w4 λa b=>decide (a>b)
 | .ge=>w4 λa b=>decide (a≥b)
 | .isin=>sU
 | .iy=>λa b=>sV (sU a b)
noncomputable def yS(i:Int):Option Nat:=cond (decide (0≤i)) (aa i.toNat) af
noncomputable def place(n:Nat)(i:Int):Option Nat:=match i with
 | .ofNat k=>aa k
 | .negSucc k=>cond (aX (k+1) n) (aa (n - (k+1))) af
noncomputable def Lg(xs:List D)(y:D):W D:=(cY y).bind λi=>(place xs.length i).bind λk=>(xs[k]?).bind λd=>W.need d (aU i.natAbs 1000000000)
noncomputable def kL(x y:D):W D:=match ny x with
 |some xs=>Lg xs y
 |none=>(dD x).bind λs=>(cY y).bind λi=>(place (sL s).length i).bind λk=>((sL s)[k]?).bind λc=>W.need (.str (aj [c])) (aU i.natAbs 1000000000)
noncomputable def lo(o:Option Int):Nat:=match o with|none=>0|some i=>i.toNat
noncomputable def jI{α:Type}(k:Nat):Nat→List α→List α
 |_,[]=>[]
 |0,x::xs=>x::jI k k xs
 |j+1,_::xs=>jI k j xs
theorem Lh{α:Type}(k j:Nat)(head:α)(xs:List α):jI k (j+1) (head::xs)=jI k j xs:=rfl
noncomputable def Li(n:Nat)(i:Int):Nat:=match i with
 | .ofNat k=>k
 | .negSucc k=>n - (k+1)
noncomputable def cut{α:Type}(xs:List α)(a b:Option Int):List α:=match b with
 |none=>xs.drop (lo a)
 |some i=>(xs.take (Li xs.length i)).drop (lo a)
noncomputable def uO(o:Option Int):Bool:=match o with
 |none=>ae
 |some i=>aU i.natAbs 1000000000
noncomputable def lz(o:Option Int):Bool:=match o with
 |none=>ae
 |some i=>decide (0≤i)&&aU i.natAbs 1000000000
noncomputable def EV(i:Int):Option Nat:=cond (decide (0<i)) (aa (i.toNat - 1)) af
noncomputable def Lj(xs:List D)(a b:Option Int)(st:Option Int):W D:=match st with
 |none=>W.need (.list (cut xs a b)) (lz a&&uO b&&aX xs.length big)
 |some k=>(EV k).bind λj=>W.need (.list (jI j 0 (cut xs a b))) (lz a&&uO b&&aX xs.length big)
noncomputable def Vp(x:ah)(a b:Option Int)(st:Option Int):W D:=match st with
 |none=>W.need (.str (aj (cut (sL x) a b))) (lz a&&uO b&&aX (sL x).length big)
 |some _=>af
noncomputable def nz(x:D)(a b st:Option Int):W D:=match d7 x with
 |some xs=>Lj xs a b st
 |none=>(dD x).bind λx=>Vp x a b st
noncomputable def By:List D→Option (List Int)
 | []=>aa []
 |d::r=>(cY d).bind λi=>(By r).bind λl=>aa (i::l)
noncomputable def Bz:List D→Option (List ah)
 | []=>aa []
 |d::r=>(dD d).bind λi=>(Bz r).bind λl=>aa (i::l)
noncomputable def uP:Nat→Nat→List Nat
 |0,_=>[]
 |f+1,n=>cond (aU n 10) [48+n] (uP f (n/10)++[48+n%10])
theorem Vq(x f:Nat):uP (f+1) x=bif aU x 10 then [48+x]else uP f (x/10)++[48+x%10]:=rfl
noncomputable def cQ(i:Int):List Nat:=match i with
 | .ofNat n=>uP 20 n
 | .negSucc n=>45::uP 20 (n+1)
noncomputable def uQ:Nat→List Nat→Option Nat
 |acc,[]=>aa acc
 |acc,c::cs=>cond (aX 48 c&&aX c 57) (uQ (acc * 10+(c - 48)) cs) af
theorem Ll(x c:Nat)(cs:ax):uQ x (c::cs)=bif aX 48 c&&aX c 57 then uQ (x * 10+(c - 48)) cs else af:=rfl
noncomputable def EW:List Nat→Option Int
 | []=>af
 |45::c::cs=>match uQ 0 (c::cs)with|some n=>aa (-(n:Int))|none=>af
 |c::cs=>match uQ 0 (c::cs)with|some n=>aa (n:Int)|none=>af
noncomputable def lA(sep:ax):List (List Nat)→List Nat
 | []=>[]
 | [x]=>x
 |x::y::r=>x++sep++lA sep (y::r)
theorem Vr(sep:ax):lA sep []=[]:=rfl
theorem Vt(sep gM:ax):lA sep [gM]=gM:=rfl
theorem Vu(sep gM y:ax)(r:cP):lA sep (gM::y::r)=gM++sep++lA sep (y::r):=rfl
noncomputable def mi(l:ax):Bool:=l.all λc=>aU c 128
noncomputable def uR:List Int→Int
 | []=>0
 |x::r=>x+uR r
noncomputable def Lm:ah:=aj [84,114,117,101]
noncomputable def Ln:ah:=aj [70,97,108,115,101]
end Ev
namespace Ev
set_option genCtorIdx false in
inductive RT where
 |val (e:RE)
 |nA
 |jm
 |fO (kvs:gO)
set_option genCtorIdx false in
mutual
inductive RS where
 |fz (is:ax) (s:RS)
 |asg (i:Nat) (e:RE)
 |own (i:Nat) (e:RE)
 |jm (i:Nat)
 |uS (is:ax) (e:RE)
 |mul (is:ax) (ts:List RT)
 |aug (i:Nat) (op:mc) (e:RE)
 |app (i:Nat) (e:RE)
 |ins (i:Nat) (a b:RE)
 |ext (i:Nat) (e:RE)
 |yT (i:Nat)
 |qW (i f h:Nat) (es:bf)
 |yU (h:Nat) (k v:RE) (i:Nat) (e:RE)
 |ite (c:RE) (a b:bP)
 |loop (t:jl) (it:RI) (body:bP)
 |ret (e:RE)
inductive bP where
 |nil
 |cons (s:RS) (ss:bP)
end
noncomputable def lB{α β:Type}(f:α→W (List β)):List α→W (List β)
 | []=>W.ret []
 |x::xs=>W.bind (f x) λys=>W.bind (lB f xs) λzs=>W.ret (ys++zs)
noncomputable def two?:List D→Option (D × D)
 | []=>af
 |a::r=>match r with
  | []=>af
  |b::q=>match q with
   | []=>aa (a,b)
   |_::_=>af
noncomputable def eU(t:jl)(x:D)(ρ:aM):Option aM:=match t with
 | .one i=>aa (put ρ i (.val x))
 | .two i j=>(ny x).bind λl=>(two? l).bind λp=>aa (put (put ρ i (.val p.1)) j (.val p.2))
noncomputable def rem(is:ax):aM→aM
 | []=>[]
 | (i,s)::r=>cond (is.any (az i)) (rem is r) ((i,s)::rem is r)
theorem Vv(is:ax):rem is []=[]:=rfl
theorem EX(is:ax)(i:Nat)(s:bA)(r:List (Nat × bA)):rem is ((i,s)::r)=bif List.any is (az i)then rem is r else(i,s)::rem is r:=rfl
noncomputable def kM:Nat→Nat→List D
 |_,0=>[]
 |i,n+1=>.int i::kM (i+1) n
theorem Vw(x n:Nat):kM x (n+1)=fY ↑x::kM (x+1) n:=rfl
noncomputable def bV:Nat→Bool→List Nat→List (Nat × List Nat)
 |_,ag,[]=>[]
 |i,ae,[]=>[(i - 1,[92])]
 |i,ae,c::cs=>(i,[92,c])::bV (i+1) ag cs
 |i,ag,c::cs=>cond (az c 92) (bV (i+1) ae cs) ((i,[c])::bV (i+1) ag cs)
theorem EY(x c:Nat)(cs:ax):bV x ag (c::cs)=bif az c 92 then bV (x+1) ae cs else(x,[c])::bV (x+1) ag cs:=rfl
noncomputable def pI(l:ax):List D:=(bV 0 ag l).map λp=>.tuple [.int p.1,.str (aj p.2)]
noncomputable def mj(EZ:gO)(x:ah)(d:D):D:=match EZ with
 | []=>d
 | (k,v)::r=>cond (sEq k x) (.int v) (mj r x d)
theorem Vx(x:ah)(d:D)(k:ah)(v:Int)(r:gO):mj ((k,v)::r) x d=bif sEq k x then fY v else mj r x d:=rfl
noncomputable def qX(EZ:gO)(x:ah):Bool:=match EZ with
 | []=>ag
 | (k,_)::r=>cond (sEq k x) ae (qX r x)
theorem Vy(x k:ah)(v:Int)(r:gO):qX ((k,v)::r) x=bif sEq k x then ae else qX r x:=rfl
noncomputable def da(l:ax):List Nat:=l.map λc=>cond (aX 65 c&&aX c 90) (c+32) c
noncomputable def iz(x:ah):Bool:=(sL x).all λc=>aX 32 c&&aU c 127
noncomputable def keyOk(x:ah):Bool:=iz x&&aX (sL x).length 1000000
noncomputable def qY(t:d6):Bool:=t.all (λp=>keyOk p.1)&&aX t.length 1000000
noncomputable def gc(t:d6)(x:ax):List D:=match t with
 | []=>[]
 | (k,v)::r=>cond (lEq (da (sL k)) (da x)) (.str v::gc r x) (gc r x)
noncomputable def Lo(xs:List D):W D:=W.need (.int xs.length) (aX xs.length 1000000)
noncomputable def sW(d:D):W D:=match d7 d with
 |some xs=>Lo xs
 |none=>(dD d).bind λx=>W.need (.int (sL x).length) (aX (sL x).length 1000000)
noncomputable def E0(d:D):W D:=match cY d with
 |some i=>W.need (.str (aj (cQ i))) (aU i.natAbs 1000000000)
 |none=>(Bv d).bind λb=>W.ret (.str (cond b Lm Ln))
noncomputable def Lp(d:D):W D:=(dD d).bind λx=>(EW (sL x)).bind λi=>W.need (.int i) (aX (sL x).length 18)
noncomputable def yV(d:D):W D:=match cY d with
 |some _=>W.ret (.bool ae)
 |none=>(d7 d).bind λZ=>W.ret (.bool ag)
noncomputable def Lq(d:D):W D:=(d7 d).bind λxs=>(By xs).bind λl=>W.need (.int (uR l)) (l.all (λi=>aU i.natAbs 1000000000)&&aU l.length 1000000)
noncomputable def E1(d:D):W D:=(dD d).bind λx=>W.need (.str (aj (da (sL x)))) (mi (sL x)&&aX (sL x).length 1000000)
noncomputable def E2(x y:D):W D:=(dD x).bind λx=>(d7 y).bind λys=>(Bz ys).bind λl=>
 W.need (.str (aj (lA (sL x) (l.map sL)))) (aX (l.foldl (λn y=>n+(sL y).length+(sL x).length) 0) 1000000)
noncomputable def nB(f:D→D→Option Bool):List D→List D→Option Bool
 | [],ys=>aa (!ys.isEmpty)
 |x::xs,ys=>match ys with
  | []=>aa ag
  |y::ys=>cond (c9 x&&c9 y) (cond (dT x y) (nB f xs ys) (f x y)) af
noncomputable def ltI(x y:D):Option Bool:=(cY x).bind λa=>(cY y).map λb=>decide (a<b)
noncomputable def ltN(n:Nat):D→D→Option Bool:=Ka ltI (λZ f x y=>match d7 x with
 |some xs=>(d7 y).bind λys=>nB f xs ys
 |none=>ltI x y) n
noncomputable def ml{α:Type}(f:Nat→Nat→Option Bool)(t:ag7 α):Option α:=ag7.rec (motive:=λZ=>Option α) aa (λi j Z ih=>(f i j).bind ih) t
noncomputable def uT(d:D):W D:=(d7 d).bind λxs=>cond (aX xs.length 1) (W.need (.list xs) (xs.all c9))
 ((ml (λi j=>(xs[i]?).bind λx=>(xs[j]?).bind λy=>ltN 2 x y) (ag8 xs.length)).bind λp=>
  W.need (.list (p.toList.map λi=>xs.getD i .none)) (aU xs.length 64&&xs.all c9&&(xs.all (λx=>(cY x).isSome)||xs.all (λx=>(d7 x).isSome))))
noncomputable def uU(f:D→W D):List D→W D
 | []=>af
 |a::r=>match r with| []=>f a|_::_=>af
noncomputable def Vz(f:D→D→W D):List D→W D
 | []=>af
 |a::r=>match r with| []=>af|b::q=>match q with| []=>f a b|_::_=>af
noncomputable def gT:Prim→List D→W D
 | .len=>uU sW
 | .str=>uU E0
 | .int=>uU Lp
 | .md=>uU yV
 | .sum=>uU Lq
 | .sorted=>uU uT
 | .join=>Vz E2
 | .lower=>uU E1
noncomputable def mf.isNil:mf→Bool
 | .nil=>ae
 | .cons .. =>ag
noncomputable def bA.v(s:bA):Option D:=match s with| .val d=>aa d|_=>af
noncomputable def bA.o(s:bA):Option (List D):=match s with| .own xs=>aa xs|_=>af
noncomputable def bA.c(s:bA):Option (List (ah × Int)):=match s with| .fO l=>aa l|_=>af
noncomputable def bA.h(s:bA):Option Nat:=match s with| .cU i=>aa i|_=>af
noncomputable def pJ(ρ:aM)(i:Nat):Option D:=(get ρ i).bind bA.v
noncomputable def nC(ρ:aM)(i:Nat):Option (List D):=(get ρ i).bind bA.o
noncomputable def jJ(ρ:aM)(i:Nat):Option D:=match nC ρ i with|some xs=>aa (.list xs)|none=>pJ ρ i
noncomputable def w5(ρ:aM)(i:Nat):Option Nat:=(get ρ i).bind bA.h
noncomputable def oJ(ρ:aM)(i:Nat):Option (List (ah × Int)):=(get ρ i).bind bA.c
noncomputable def mq(hs:Hs)(ρ:aM)(i:Nat):Option (List (ah × ah)):=(w5 ρ i).bind λj=>hs[j]?
section
variable(tk:gO)(C:ma)(hs:Hs)
mutual
noncomputable def ev:RE→aM→W D
 | .lit d,_=>W.ret d
 | .var i,ρ=>(pJ ρ i).bind W.ret
 | .gl _ i,_=>W.ret (.int i)
 | .bin op a b,ρ=>W.bind (ev a ρ) λx=>W.bind (ev b ρ) λy=>j7 op x y
 | .and a b,ρ=>W.bind (ev a ρ) λx=>(truthy x).bind λq=>cond q (ev b ρ) (W.ret x)
 | .or a b,ρ=>W.bind (ev a ρ) λx=>(truthy x).bind λq=>cond q (W.ret x) (ev b ρ)
 | .ite c a b,ρ=>W.bind (ev c ρ) λx=>(truthy x).bind λq=>cond q (ev a ρ) (ev b ρ)
 | .cmp a cs,ρ=>W.bind (ev a ρ) λx=>yW x cs ρ
 | .uL a,ρ=>W.bind (ev a ρ) λx=>W.ret (.bool (Bw x))
 | .not a,ρ=>W.bind (ev a ρ) λx=>(truthy x).bind λq=>W.ret (.bool (!q))
 | .sub a i,ρ=>W.bind (ev a ρ) λx=>W.bind (ev i ρ) λy=>kL x y
 | .aG v i,ρ=>(jJ ρ v).bind λx=>W.bind (ev i ρ) λy=>kL x y
 | .cw v l h s,ρ=>(jJ ρ v).bind λx=>W.bind (kN l ρ) λl=>W.bind (kN h ρ) λh=>W.bind (kN s ρ) λs=>nz x l h s
 | .slice a l h s,ρ=>W.bind (ev a ρ) λx=>W.bind (kN l ρ) λl=>W.bind (kN h ρ) λh=>W.bind (kN s ρ) λs=>nz x l h s
 | .bL v,ρ=>(jJ ρ v).bind sW
 | .list es,ρ=>W.bind (eD es ρ) λxs=>W.ret (.list xs)
 | .tup es,ρ=>W.bind (eD es ρ) λxs=>W.ret (.tuple xs)
 | .comp loc t it ifs gs elt,ρ=>W.bind (fP it ρ) λxs=>W.bind (lB (λx=>(eU t x (rem loc ρ)).bind λρ'=>
   W.bind (oK ifs ρ') λb=>cond b (w6 gs (λρ'=>ev elt ρ') ρ') (W.ret [])) xs) λxs=>W.need (.list xs) (aX xs.length 1000000)
 | .call f es,ρ=>W.bind (eD es ρ) λxs=>C f xs
 | .prim p es,ρ=>W.bind (eD es ρ) λxs=>gT p xs
 | .wZ v k d,ρ=>(oJ ρ v).bind λkvs=>W.bind (ev k ρ) λx=>W.bind (ev d ρ) λy=>(dD x).bind λx=>W.ret (mj kvs x y)
 | .uM k v,ρ=>(oJ ρ v).bind λkvs=>W.bind (ev k ρ) λx=>(dD x).bind λx=>W.ret (.bool (!qX kvs x))
 | .tok k d,ρ=>W.bind (ev k ρ) λx=>W.bind (ev d ρ) λy=>(dD x).bind λx=>W.ret (mj tk x y)
 | .jH v k,ρ=>(mq hs ρ v).bind λt=>W.bind (ev k ρ) λx=>(dD x).bind λx=>W.need (.list (gc t (sL x))) (keyOk x&&qY t)
 | .oI v,ρ=>(mq hs ρ v).bind λt=>W.need (.list (t.map λp=>.tuple [.str p.1,.str p.2])) (aX t.length 1000000)
 | .mh v,ρ=>(mq hs ρ v).bind λt=>W.need (.list (t.map λp=>.str p.1)) (aX t.length 1000000)
noncomputable def eD:bf→aM→W (List D)
 | .nil,_=>W.ret []
 | .cons e es,ρ=>W.bind (ev e ρ) λx=>W.bind (eD es ρ) λxs=>W.ret (x::xs)
noncomputable def yW:D→mf→aM→W D
 |_,.nil,_=>af
 |x,.cons op e cs,ρ=>W.bind (ev e ρ) λy=>W.bind (gQ op x y) λb=>cond cs.isNil (W.ret (.bool b)) (cond b (yW y cs ρ) (W.ret (.bool ag)))
noncomputable def w6:kK→(aM→W D)→aM→W (List D)
 | .nil,elt,ρ=>W.bind (elt ρ) λx=>W.ret [x]
 | .cons t it ifs gs,elt,ρ=>W.bind (fP it ρ) λxs=>lB (λx=>(eU t x ρ).bind λρ'=>W.bind (oK ifs ρ') λb=>cond b (w6 gs elt ρ') (W.ret [])) xs
noncomputable def oK:bf→aM→W Bool
 | .nil,_=>W.ret ae
 | .cons e es,ρ=>W.bind (ev e ρ) λx=>(truthy x).bind λq=>cond q (oK es ρ) (W.ret ag)
noncomputable def fP:RI→aM→W (List D)
 | .data e,ρ=>W.bind (ev e ρ) λx=>(ny x).bind W.ret
 | .dy b,ρ=>W.bind (ev b ρ) λy=>(cY y).bind λj=>W.need (kM 0 j.toNat) (aU j.natAbs 1000000)
 | .range a b,ρ=>W.bind (ev a ρ) λx=>W.bind (ev b ρ) λy=>(cY x).bind λi=>(cY y).bind λj=>
   W.need (kM i.toNat (j - i).toNat) (decide (0≤i)&&aU i.natAbs 1000000&&aU j.natAbs 1000000)
 | .gen e,ρ=>W.bind (ev e ρ) λx=>(dD x).bind λs=>W.need (pI (sL s)) (aX (sL s).length 1000000)
noncomputable def kN:RO→aM→W (Option Int)
 | .none,_=>W.ret af
 | .some e,ρ=>W.bind (ev e ρ) λx=>(cY x).bind λi=>W.ret (aa i)
end
end
noncomputable abbrev nE:=Nat→List D→List (ah × ah)→W (D × List (ah × ah))
set_option genCtorIdx false in
inductive Fl where
 |next (ρ:aM) (hs:Hs)
 |ret (d:D) (hs:Hs)
noncomputable def Fl.ctorIdx(x:Fl):Nat:=Fl.casesOn (motive:=λZ=>Nat) x (λZ Z=>0) λZ Z=>1
noncomputable def dX(is:ax):aM→aM
 | []=>[]
 | (i,s)::r=>match s with
  | .own xs=>(i,cond (is.any (az i)) (.val (.list xs)) (.own xs))::dX is r
  |s=>(i,s)::dX is r
noncomputable def jn{α:Type}(x:α):Nat→List α→List α
 |0,l=>x::l
 |n+1,l=>match l with
  | []=>[x]
  |y::r=>y::jn x n r
noncomputable def uV:List Nat→List D→aM→Option aM
 | [],xs,ρ=>match xs with| []=>aa ρ|_::_=>af
 |i::is,xs,ρ=>match xs with| []=>af|x::xs=>uV is xs (put ρ i (.val x))
noncomputable def dE(f:D→aM→Hs→W Fl):List D→aM→Hs→W Fl
 | [],ρ,hs=>W.ret (.next ρ hs)
 |x::xs,ρ,hs=>W.bind (f x ρ hs) λfl=>match fl with
  | .next ρ' hs'=>dE f xs ρ' hs'
  | .ret d hs'=>W.ret (.ret d hs')
noncomputable def setAt{α:Type}(x:α):Nat→List α→List α
 |_,[]=>[]
 |0,_::l=>x::l
 |n+1,y::r=>y::setAt x n r
theorem Lr{α:Type}(x:α)(gM:Nat):setAt x gM []=[]:=by cases gM<;>rfl
section
variable(tk:gO)(C:ma)(CH:Option nE)
noncomputable def lC:List RT→aM→Hs→W (List bA × Hs)
 | [],_,hs=>W.ret ([],hs)
 |t::ts,ρ,hs=>match t with
  | .val e=>W.bind (ev tk C hs e ρ) λx=>W.bind (lC ts ρ hs) λp=>W.ret (.val x::p.1,p.2)
  | .nA=>W.bind (lC ts ρ hs) λp=>W.ret (.own []::p.1,p.2)
  | .fO kvs=>W.bind (lC ts ρ hs) λp=>W.ret (.fO kvs::p.1,p.2)
  | .jm=>W.bind (lC ts ρ (hs++[[]])) λp=>W.ret (.cU hs.length::p.1,p.2)
noncomputable def yX:List Nat→List bA→aM→Option aM
 | [],xs,ρ=>match xs with| []=>aa ρ|_::_=>af
 |i::is,xs,ρ=>match xs with| []=>af|x::xs=>yX is xs (put ρ i x)
mutual
noncomputable def ex:RS→aM→Hs→W Fl
 | .fz is s,ρ,hs=>ex s (dX is ρ) hs
 | .asg i e,ρ,hs=>W.bind (ev tk C hs e ρ) λx=>W.ret (.next (put ρ i (.val x)) hs)
 | .own i e,ρ,hs=>W.bind (ev tk C hs e ρ) λx=>(d7 x).bind λxs=>W.ret (.next (put ρ i (.own xs)) hs)
 | .jm i,ρ,hs=>W.ret (.next (put ρ i (.cU hs.length)) (hs++[[]]))
 | .uS is e,ρ,hs=>W.bind (ev tk C hs e ρ) λx=>(ny x).bind λxs=>(uV is xs ρ).bind λρ'=>W.ret (.next ρ' hs)
 | .mul is ts,ρ,hs=>W.bind (lC tk C ts ρ hs) λp=>(yX is p.1 ρ).bind λρ'=>W.ret (.next ρ' p.2)
 | .aug i op e,ρ,hs=>(pJ ρ i).bind λx=>W.bind (ev tk C hs e ρ) λy=>match d7 x with
  |some _=>af
  |none=>W.bind (j7 op x y) λz=>W.ret (.next (put ρ i (.val z)) hs)
 | .app i e,ρ,hs=>(nC ρ i).bind λxs=>W.bind (ev tk C hs e ρ) λx=>W.bind (W.need () (aU xs.length 1000000)) λZ=>W.ret (.next (put ρ i (.own (xs++[x]))) hs)
 | .ins i a e,ρ,hs=>(nC ρ i).bind λxs=>W.bind (ev tk C hs a ρ) λx=>W.bind (ev tk C hs e ρ) λy=>(cY x).bind λk=>(yS k).bind λk=>
   W.bind (W.need () (aU xs.length 1000000&&aX k xs.length)) λZ=>W.ret (.next (put ρ i (.own (jn y k xs))) hs)
 | .ext i e,ρ,hs=>(nC ρ i).bind λxs=>W.bind (ev tk C hs e ρ) λy=>(d7 y).bind λys=>W.bind (W.need () (aX (xs.length+ys.length) 1000000)) λZ=>W.ret (.next (put ρ i (.own (xs++ys))) hs)
 | .yT v,ρ,hs=>(mq hs ρ v).bind λt=>W.need (.next ρ hs) (aU t.length 1000000)
 | .qW i f v es,ρ,hs=>(w5 ρ v).bind λj=>(hs[j]?).bind λt=>W.bind (eD tk C hs es ρ) λxs=>(CH.bind λg=>W.bind (g f xs t) λp=>W.ret (.next (put ρ i (.val p.1)) (setAt p.2 j hs)))
 | .yU v k e i a,ρ,hs=>CH.bind λZ=>(w5 ρ v).bind λj=>(hs[j]?).bind λt=>W.bind (ev tk C hs k ρ) λx=>W.bind (ev tk C hs e ρ) λy=>(dD x).bind λx=>(dD y).bind λy=>
   W.bind (W.need () (mi (sL x)&&keyOk y&&aU t.length 1000000)) λZ=>cond (iz x)
    ((nC ρ i).bind λxs=>W.bind (ev tk C (setAt (t++[(x,y)]) j hs) a ρ) λz=>W.bind (W.need () (aU xs.length 1000000)) λZ=>W.ret (.next (put ρ i (.own (xs++[z]))) (setAt (t++[(x,y)]) j hs)))
    (W.bind (W.need () (az (sL x).length 1)) λZ=>W.ret (.next ρ hs))
 | .ite c a b,ρ,hs=>W.bind (ev tk C hs c ρ) λx=>(truthy x).bind λq=>cond q (cb a ρ hs) (cb b ρ hs)
 | .loop t it body,ρ,hs=>W.bind (fP tk C hs it ρ) λxs=>dE (λx ρ hs=>(eU t x ρ).bind λρ'=>cb body ρ' hs) xs ρ hs
 | .ret e,ρ,hs=>W.bind (ev tk C hs e ρ) λx=>W.ret (.ret x hs)
noncomputable def cb:bP→aM→Hs→W Fl
 | .nil,ρ,hs=>W.ret (.next ρ hs)
 | .cons s ss,ρ,hs=>W.bind (ex s ρ hs) λfl=>match fl with
  | .next ρ' hs'=>cb ss ρ' hs'
  | .ret d hs'=>W.ret (.ret d hs')
end
end
structure Fn where
 params:List Nat
 body:bP
noncomputable def oM:List Nat→List D→aM→Option aM
 | [],xs,ρ=>match xs with| []=>aa ρ|_::_=>af
 |i::is,xs,ρ=>match xs with| []=>af|x::xs=>oM is xs (ρ++[(i,.val x)])
section
variable(tk:gO)(fns:Nat→Option Fn)
noncomputable def sX:List Nat→Option (List Nat × Nat)
 | []=>af
 |i::r=>match sX r with
  |none=>aa ([],i)
  |some (l,j)=>aa (i::l,j)
theorem Lu(y:Nat)(ys:ax):sX (y::ys)=match sX ys with|none=>aa ([],y)|some (l,j)=>aa (y::l,j):=rfl
noncomputable abbrev uW:=Nat→List D→W D
noncomputable def BA(C:uW)(CH:Option nE):uW:=λf args=>(fns f).bind λfn=>(oM fn.params args []).bind λρ=>W.bind (cb tk C CH fn.body ρ []) λfl=>match fl with
  | .ret d _=>W.ret d
  | .next _ _=>W.ret .none
noncomputable def qZ(C:uW):nE:=λf args t=>(fns f).bind λfn=>(sX fn.params).bind λq=>(oM q.1 args []).bind λρ=>
 W.bind (cb tk C (aa λZ Z Z=>af) fn.body (ρ++[(q.2,.cU 0)]) [t]) λfl=>match fl with
  | .ret d hs=>(hs[0]?).bind λt=>W.ret (d,t)
  | .next _ hs=>(hs[0]?).bind λt=>W.ret (.none,t)
noncomputable def run(n:Nat):uW:=Ka (λZ Z=>af) (λZ C=>BA tk fns C af) n
noncomputable def E3(n:Nat):uW:=BA tk fns (run tk fns n) (aa (qZ tk fns (run tk fns n)))
end
end Ev
namespace Ev
theorem iP{α β:Type _}{a b:α}{c d:β}{P:Prop}(h:(a,c)=(b,d))(k:a=b→c=d→P):P:=k (congrArg TM h) (congrArg Prod.snd h)
theorem iJ{α:Type _}{a b:α}(h:aa a=aa b):a=b:=ir h
theorem VA{α β:Type _}{a b:α}{c d:β}(h:aa (a,c)=aa (b,d)):a=b:=congrArg TM (ir h)
theorem zN{α:Type _}{a:α}{P:Prop}(h:af=aa a):P:=nomatch h
theorem zS{α:Type _}{a:α}{P:Prop}(h:aa a=af):P:=nomatch h
theorem zF{P:Prop}(h:ag):P:=nomatch h
theorem zT{P:Prop}(h:ae=ag):P:=nomatch h
theorem zC{α:Type _}{a:α}{l:List α}{P:Prop}(h:[]=a::l):P:=nomatch h
theorem zD{α:Type _}{a:α}{l:List α}{P:Prop}(h:a::l=[]):P:=nomatch h
@[elab_as_elim] theorem rE{α:Sort _}{motive:α→Prop}{a b:α}(h:a=b)(k:motive b):motive a:=h▸k
@[elab_as_elim] theorem rS{α:Sort _}{motive:α→Prop}{a b:α}(h:b=a)(k:motive b):motive a:=h▸k
variable {x:ah}{i n k j m:Nat}{ρ ρ':aM}{d y:D}{s s' aT sb ai:ay}{U Ku U' Ub B:aY}{p pos q ap p2:aO}{env:bF}{α β:Type}{a l f fC:aE}{hs:Hs}{fd uX:px}{E Q:aW}{G p1:Prop}{C:ma}{T1 T2 T3:Sort _}{vs:List ak}{args es ifs ts:List au}{row is:ax}{t:mZ}{r:RE}{rs:bf}{b:Bool}{sl:bA}{ks:cT}{scope:m4}{it elt:au}{ds:List D}{tg:jl}{body:List a9}{A:dU}{va vb:ak}{h':aP}{tk:gO}{st:a9}{p3:T1→Prop}{CH:Option nE}{pc:Nat→aO}{gs gens:List sE}
theorem E4{x:Int}(h:x.natAbs≤n): -(n:Int)≤x∧x≤n:=by
 cases x with
 |ofNat m=>exact⟨AQ (Int.neg_nonpos_of_nonneg (jf n)) (jf m),uk.mpr h⟩
 |negSucc m=>exact⟨ag9 (uk.mpr h),AQ (TN (DZ m)) (jf n)⟩
theorem rf{x a b:Int}(h:x.natAbs≤n)(ha:a≤ -(n:Int))(hb:(n:Int)<b):a≤x∧x<b:=⟨AQ ha (E4 h).1,TP (E4 h).2 hb⟩
theorem Lv(n k:Nat):(max 0 (min (k:Int) (n:Int))).toNat=min k n:=by
 rw[Int.max_eq_right (Int.le_min.mpr ⟨jf k,jf n⟩)];rcases Nat.le_total k n with h|h
 ·rw[D6 h,aha (uk.mpr h)];rfl
 ·rw[Nat.min_eq_right h,Int.min_eq_right (uk.mpr h)];rfl
theorem VB(n k:Nat):(max 0 (min (qD k+(n:Int)) (n:Int))).toNat=min (n - (k+1)) n:=by
 by_cases h:k+1≤n
 ·rw[show qD k+(n:Int)=((n - (k+1):Nat):Int)from ahb h];exact Lv n _
 ·have h':=TQ h;have hn:=TN (DZ (Nat.pred (k+1 - n)));rw[show qD k+(n:Int)=qD (Nat.pred (k+1 - n))from Int.subNatNat_of_lt h',Nat.sub_eq_zero_of_le (d4 h'),Nat.zero_min,aha (AQ hn (jf n)),Int.max_eq_left hn];rfl
theorem Lw(h:m+1≤n):qD m+(n:Int)=((n - (m+1):Nat):Int):=ahb h
theorem VC(h:i<j)(h':j<m):m - 1 - j<m - 1 - i:=Nat.sub_lt_sub_left (ia h (Kb h')) h
theorem Lx{a c:Nat}(h:a≤m)(hc:m+m≤c):a - k+min j a≤c:=aF (um (aF (qE ..) h) (aF (uo ..) h)) hc
theorem VD:∀n<4,n=0∨n=1∨n=2∨n=3:=by decide
theorem Ly{a b:Nat}(h:a+(k+1)≤b+k):a<b:=Nat.lt_of_add_lt_add_right (show a+k<b+k from h)
theorem wE{m:W α}{f:α→W β}{b:β}(h:W.bind m f=aa (b,ae))(k:∀a,m=aa (a,ae)→f a=aa (b,ae)→G):G:=by
 match m with
 |none=>exact nomatch h
 |some (a,ok)=>
  have h:(match f a with|none=>af|some (b,oH)=>aa (b,ok&&oH))=aa (b,ae):=h
  match q:f a with
  |none=>rw[q]at h;exact nomatch h
  |some (b',oH)=>
   rw[q]at h;have h2:=congrArg Prod.snd (ir h);have h1:=congrArg TM (ir h);have:ok∧oH:=by simpa using h2
   refine k a (by rw[this.1]) ?_;rw[q,this.2];exact congrArg (λx=>aa (x,ae)) h1
theorem oE{m:Option α}{f:α→Option β}{b:β}(h:m.bind f=aa b)(k:∀a,m=aa a→f a=aa b→G):G:=by
 match m with
 |none=>exact nomatch h
 |some a=>exact k a rfl h
theorem xA{p2:Prop}(h:p1∧p2)(k:p1→p2→G):G:=k h.1 h.2
theorem xE{p1:T1→Prop}(h:∃a1,p1 a1)(k:∀a1,p1 a1→G):G:=h.elim λa1 h1=>k a1 h1
theorem mr{p2 p3:Prop}(h:p1∧p2∧p3)(k:p1→p2→p3→G):G:=k h.1 h.2.1 h.2.2
theorem aD{p1 p2:T1→Prop}(h:∃a1,p1 a1∧p2 a1)(k:∀a1,p1 a1→p2 a1→G):G:=h.elim λa1 h1=>k a1 h1.1 h1.2
theorem lD{p1:T1→T2→Prop}(h:∃a1 a2,p1 a1 a2)(k:∀a1 a2,p1 a1 a2→G):G:=h.elim λa1 h1=>h1.elim λa2 h2=>k a1 a2 h2
theorem lE{p2:T1→Prop}(h:p1∧∃a1,p2 a1)(k:p1→∀a1,p2 a1→G):G:=h.2.elim λa1 h1=>k h.1 a1 h1
theorem yY{p2 p3 p4:Prop}(h:p1∧p2∧p3∧p4)(k:p1→p2→p3→p4→G):G:=k h.1 h.2.1 h.2.2.1 h.2.2.2
theorem j8{p1 p2:T1→Prop}(h:∃a1,p1 a1∧p2 a1∧p3 a1)(k:∀a1,p1 a1→p2 a1→p3 a1→G):G:=h.elim λa1 h1=>k a1 h1.1 h1.2.1 h1.2.2
theorem gz{p1 p2:T1→T2→Prop}(h:∃a1 a2,p1 a1 a2∧p2 a1 a2)(k:∀a1 a2,p1 a1 a2→p2 a1 a2→G):G:=h.elim λa1 h1=>h1.elim λa2 h2=>k a1 a2 h2.1 h2.2
theorem uY{p2:T1→Prop}(h:p1∧∃a1,p2 a1∧p3 a1)(k:p1→∀a1,p2 a1→p3 a1→G):G:=h.2.elim λa1 h1=>k h.1 a1 h1.1 h1.2
theorem E5{p2 p3 p4 p5:Prop}(h:p1∧p2∧p3∧p4∧p5)(k:p1→p2→p3→p4→p5→G):G:=k h.1 h.2.1 h.2.2.1 h.2.2.2.1 h.2.2.2.2
theorem gA{p1 p2 p4:T1→Prop}(h:∃a1,p1 a1∧p2 a1∧p3 a1∧p4 a1)(k:∀a1,p1 a1→p2 a1→p3 a1→p4 a1→G):G:=h.elim λa1 h1=>k a1 h1.1 h1.2.1 h1.2.2.1 h1.2.2.2
theorem cK{p1 p2 p3:T1→T2→Prop}(h:∃a1 a2,p1 a1 a2∧p2 a1 a2∧p3 a1 a2)(k:∀a1 a2,p1 a1 a2→p2 a1 a2→p3 a1 a2→G):G:=h.elim λa1 h1=>h1.elim λa2 h2=>k a1 a2 h2.1 h2.2.1 h2.2.2
theorem fy{p1 p2:T1→T2→T3→Prop}(h:∃a1 a2 a3,p1 a1 a2 a3∧p2 a1 a2 a3)(k:∀a1 a2 a3,p1 a1 a2 a3→p2 a1 a2 a3→G):G:=h.elim λa1 h1=>h1.elim λa2 h2=>h2.elim λa3 h3=>k a1 a2 a3 h3.1 h3.2
theorem mu{p2 p3:T1→T2→Prop}(h:p1∧∃a1 a2,p2 a1 a2∧p3 a1 a2)(k:p1→∀a1 a2,p2 a1 a2→p3 a1 a2→G):G:=h.2.elim λa1 h1=>h1.elim λa2 h2=>k h.1 a1 a2 h2.1 h2.2
theorem BB{p1 p2 p4 p5:T1→Prop}(h:∃a1,p1 a1∧p2 a1∧p3 a1∧p4 a1∧p5 a1)(k:∀a1,p1 a1→p2 a1→p3 a1→p4 a1→p5 a1→G):G:=h.elim λa1 h1=>k a1 h1.1 h1.2.1 h1.2.2.1 h1.2.2.2.1 h1.2.2.2.2
theorem E6{p1 p2 p3 p4:T1→T2→Prop}(h:∃a1 a2,p1 a1 a2∧p2 a1 a2∧p3 a1 a2∧p4 a1 a2)(k:∀a1 a2,p1 a1 a2→p2 a1 a2→p3 a1 a2→p4 a1 a2→G):G:=h.elim λa1 h1=>h1.elim λa2 h2=>k a1 a2 h2.1 h2.2.1 h2.2.2.1 h2.2.2.2
theorem ic{p1 p2 p3:T1→T2→T3→Prop}(h:∃a1 a2 a3,p1 a1 a2 a3∧p2 a1 a2 a3∧p3 a1 a2 a3)(k:∀a1 a2 a3,p1 a1 a2 a3→p2 a1 a2 a3→p3 a1 a2 a3→G):G:=h.elim λa1 h1=>h1.elim λa2 h2=>h2.elim λa3 h3=>k a1 a2 a3 h3.1 h3.2.1 h3.2.2
theorem BC{T4:Sort _}{p1 p2:T1→T2→T3→T4→Prop}(h:∃a1 a2 a3 a4,p1 a1 a2 a3 a4∧p2 a1 a2 a3 a4)(k:∀a1 a2 a3 a4,p1 a1 a2 a3 a4→p2 a1 a2 a3 a4→G):G:=h.elim λa1 h1=>h1.elim λa2 h2=>h2.elim λa3 h3=>h3.elim λa4 h4=>k a1 a2 a3 a4 h4.1 h4.2
theorem uZ{T4 T5:Sort _}{p1:T1→T2→T3→T4→T5→Prop}(h:∃a1 a2 a3 a4 a5,p1 a1 a2 a3 a4 a5)(k:∀a1 a2 a3 a4 a5,p1 a1 a2 a3 a4 a5→G):G:=h.elim λa1 h1=>h1.elim λa2 h2=>h2.elim λa3 h3=>h3.elim λa4 h4=>h4.elim λa5 h5=>k a1 a2 a3 a4 a5 h5
theorem Lz{p1:T1→Prop}{p2 p3:T1→T2→T3→Prop}(h:∃a1,p1 a1∧∃a2 a3,p2 a1 a2 a3∧p3 a1 a2 a3)(k:∀a1,p1 a1→∀a2 a3,p2 a1 a2 a3→p3 a1 a2 a3→G):G:=h.elim λa1 h1=>h1.2.elim λa2 h2=>h2.elim λa3 h3=>k a1 h1.1 a2 a3 h3.1 h3.2
theorem LA{p1 p2:T1→Prop}{p4:T1→T2→Prop}(h:∃a1,p1 a1∧p2 a1∧p3 a1∧∃a2,p4 a1 a2)(k:∀a1,p1 a1→p2 a1→p3 a1→∀a2,p4 a1 a2→G):G:=h.elim λa1 h1=>h1.2.2.2.elim λa2 h2=>k a1 h1.1 h1.2.1 h1.2.2.1 a2 h2
theorem E7{p2 p4 p5:T1→Prop}(h:p1∧∃a1,p2 a1∧p3 a1∧p4 a1∧p5 a1)(k:p1→∀a1,p2 a1→p3 a1→p4 a1→p5 a1→G):G:=h.2.elim λa1 h1=>k h.1 a1 h1.1 h1.2.1 h1.2.2.1 h1.2.2.2
theorem VE{p2:Prop}{p4 p5:T1→Prop}(h:p1∧p2∧∃a1,p3 a1∧p4 a1∧p5 a1)(k:p1→p2→∀a1,p3 a1→p4 a1→p5 a1→G):G:=h.2.2.elim λa1 h1=>k h.1 h.2.1 a1 h1.1 h1.2.1 h1.2.2
theorem LB{p1 p2 p4 p5 p6:T1→Prop}(h:∃a1,p1 a1∧p2 a1∧p3 a1∧p4 a1∧p5 a1∧p6 a1)(k:∀a1,p1 a1→p2 a1→p3 a1→p4 a1→p5 a1→p6 a1→G):G:=h.elim λa1 h1=>k a1 h1.1 h1.2.1 h1.2.2.1 h1.2.2.2.1 h1.2.2.2.2.1 h1.2.2.2.2.2
theorem fA{p1 p2 p3 p4:T1→T2→T3→Prop}(h:∃a1 a2 a3,p1 a1 a2 a3∧p2 a1 a2 a3∧p3 a1 a2 a3∧p4 a1 a2 a3)(k:∀a1 a2 a3,p1 a1 a2 a3→p2 a1 a2 a3→p3 a1 a2 a3→p4 a1 a2 a3→G):G:=h.elim λa1 h1=>h1.elim λa2 h2=>h2.elim λa3 h3=>k a1 a2 a3 h3.1 h3.2.1 h3.2.2.1 h3.2.2.2
theorem pK{T4:Sort _}{p1 p2 p3:T1→T2→T3→T4→Prop}(h:∃a1 a2 a3 a4,p1 a1 a2 a3 a4∧p2 a1 a2 a3 a4∧p3 a1 a2 a3 a4)(k:∀a1 a2 a3 a4,p1 a1 a2 a3 a4→p2 a1 a2 a3 a4→p3 a1 a2 a3 a4→G):G:=h.elim λa1 h1=>h1.elim λa2 h2=>h2.elim λa3 h3=>h3.elim λa4 h4=>k a1 a2 a3 a4 h4.1 h4.2.1 h4.2.2
theorem w7{T4:Sort _}{p1 p2 p3 p4:T1→T2→T3→T4→Prop}(h:∃a1 a2 a3 a4,p1 a1 a2 a3 a4∧p2 a1 a2 a3 a4∧p3 a1 a2 a3 a4∧p4 a1 a2 a3 a4)(k:∀a1 a2 a3 a4,p1 a1 a2 a3 a4→p2 a1 a2 a3 a4→p3 a1 a2 a3 a4→p4 a1 a2 a3 a4→G):G:=h.elim λa1 h1=>h1.elim λa2 h2=>h2.elim λa3 h3=>h3.elim λa4 h4=>k a1 a2 a3 a4 h4.1 h4.2.1 h4.2.2.1 h4.2.2.2
theorem yZ{T4:Sort _}{p1 p2 p3 p4 p5 p6:T1→T2→T3→T4→Prop}(h:∃a1 a2 a3 a4,p1 a1 a2 a3 a4∧p2 a1 a2 a3 a4∧p3 a1 a2 a3 a4∧p4 a1 a2 a3 a4∧p5 a1 a2 a3 a4∧p6 a1 a2 a3 a4)(k:∀a1 a2 a3 a4,p1 a1 a2 a3 a4→p2 a1 a2 a3 a4→p3 a1 a2 a3 a4→p4 a1 a2 a3 a4→p5 a1 a2 a3 a4→p6 a1 a2 a3 a4→G):G:=h.elim λa1 h1=>h1.elim λa2 h2=>h2.elim λa3 h3=>h3.elim λa4 h4=>k a1 a2 a3 a4 h4.1 h4.2.1 h4.2.2.1 h4.2.2.2.1 h4.2.2.2.2.1 h4.2.2.2.2.2
theorem VF{T4 T5 T6 T7 T8:Sort _}{p1 p2:T1→T2→T3→T4→T5→T6→T7→T8→Prop}(h:∃a1 a2 a3 a4 a5 a6 a7 a8,p1 a1 a2 a3 a4 a5 a6 a7 a8∧p2 a1 a2 a3 a4 a5 a6 a7 a8)(k:∀a1 a2 a3 a4 a5 a6 a7 a8,p1 a1 a2 a3 a4 a5 a6 a7 a8→p2 a1 a2 a3 a4 a5 a6 a7 a8→G):G:=h.elim λa1 h1=>h1.elim λa2 h2=>h2.elim λa3 h3=>h3.elim λa4 h4=>h4.elim λa5 h5=>h5.elim λa6 h6=>h6.elim λa7 h7=>h7.elim λa8 h8=>k a1 a2 a3 a4 a5 a6 a7 a8 h8.1 h8.2
section
noncomputable abbrev cy(vs:Array ak)(n:Nat):fJ:={cls:=.type "list",data:=.seq vs n}
noncomputable abbrev y6(vs:Array ak)(n:Nat):fJ:={cls:=.type "tuple",data:=.seq vs n}
mutual
inductive Rd(U:aY)(h:aP):ak→D→Prop
 |none:Rd U h .none .none
 |bool (b:_):Rd U h (.bool b) (.bool b)
 |int (i t:_):Rd U h (.int i t) (.int i)
 |str (x t:_):Rd U h (.str x t) (.str x)
 |list {a vs n xs:_}:h.get? a=aa (cy vs n)→¬U a→aI U h vs.toList xs→Rd U h (.ref a) (.list xs)
 |tup {a vs n xs:_}:h.get? a=aa (y6 vs n)→¬U a→aI U h vs.toList xs→Rd U h (.ref a) (.tuple xs)
inductive aI(U:aY)(h:aP):List ak→List D→Prop
 |nil:aI U h [] []
 |cons {v vs d ds:_}:Rd U h v d→aI U h vs ds→aI U h (v::vs) (d::ds)
end
section
variable{h:aP}
theorem Rd.mono(hk:∀a o,¬U a→h.get? a=aa o→h'.get? a=aa o)(hu:∀a o,h.get? a=aa o→¬U a→¬U' a){v:ak}(r:Rd U h v d):Rd U' h' v d:=
 Rd.rec (motive_1:=λv d Z=>Rd U' h' v d) (motive_2:=λvs ds Z=>aI U' h' vs ds) .none .bool .int .str (λe n Z r=>.list (hk _ _ n e) (hu _ _ e n) r) (λe n Z r=>.tup (hk _ _ n e) (hu _ _ e n) r) .nil (λZ Z=>.cons) r
theorem aI.mono(hk:∀a o,¬U a→h.get? a=aa o→h'.get? a=aa o)(hu:∀a o,h.get? a=aa o→¬U a→¬U' a)(r:aI U h vs ds):aI U' h' vs ds:=
 aI.rec (motive_1:=λv d Z=>Rd U' h' v d) (motive_2:=λvs ds Z=>aI U' h' vs ds) .none .bool .int .str (λe n Z r=>.list (hk _ _ n e) (hu _ _ e n) r) (λe n Z r=>.tup (hk _ _ n e) (hu _ _ e n) r) .nil (λZ Z=>.cons) r
theorem Rd.reads{v:ak}(r:Rd U h v d):∃as,Reads h v d as:=
 Rd.rec (motive_1:=λv d Z=>∃as,Reads h v d as) (motive_2:=λvs ds Z=>∃as,ReadsAll h vs ds as) ⟨_,.none⟩ (λb=>⟨_,.bool b⟩) (λi t=>⟨_,.int i t⟩) (λx t=>⟨_,.str x t⟩) (λe Z Z r=>r.elim λZ q=>⟨_,.list e rfl rfl q⟩) (λe Z Z r=>r.elim λZ q=>⟨_,.tuple e rfl rfl q⟩) ⟨_,.nil⟩ (λZ Z a b=>a.elim λZ q=>b.elim λZ r=>⟨_,.cons q r⟩) r
theorem Rd.cQ{v:ak}(r:Rd U h v (.str x)):∃t,v=.str x t:=by cases r;exact⟨_,rfl⟩
theorem Rd.iA{v:ak}{i:Int}(r:Rd U h v (.int i)):∃t,v=.int i t:=by cases r;exact⟨_,rfl⟩
theorem Rd.E8{v:ak}(r:Rd U h v (.bool b)):v=.bool b:=by cases r;rfl
theorem Rd.listI{v:ak}{xs:List D}(r:Rd U h v (.list xs)):∃a vs n,v=.ref a∧h.get? a=aa (cy vs n)∧¬U a∧aI U h vs.toList xs:=by cases r;exact⟨_,_,_,rfl,‹_›,‹_›,‹_›⟩
theorem Rd.tupI{v:ak}{xs:List D}(r:Rd U h v (.tuple xs)):∃a vs n,v=.ref a∧h.get? a=aa (y6 vs n)∧¬U a∧aI U h vs.toList xs:=by cases r;exact⟨_,_,_,rfl,‹_›,‹_›,‹_›⟩
theorem aI.u0(r:aI U h vs (d::ds)):∃v ws,vs=v::ws∧Rd U h v d∧aI U h ws ds:=by cases r;exact⟨_,_,rfl,‹_›,‹_›⟩
theorem aI.sY(r:aI U h vs []):vs=[]:=by cases r;rfl
theorem aI.ind{P:List ak→List D→Prop}(nil:P [] [])(cons:∀v vs d ds,Rd U h v d→aI U h vs ds→P vs ds→P (v::vs) (d::ds))(r:aI U h vs ds):P vs ds:=
 aI.rec (motive_1:=λZ Z Z=>True) (motive_2:=λvs ds Z=>P vs ds) trivial (λZ=>trivial) (λZ Z=>trivial) (λZ Z=>trivial) (λZ Z Z Z=>trivial) (λZ Z Z Z=>trivial) nil (λa b Z p=>cons _ _ _ _ a b p) r
theorem aI.length(r:aI U h vs ds):vs.length=ds.length:=r.ind (P:=λvs ds=>vs.length=ds.length) rfl λZ Z Z Z Z Z e=>congrArg (· +1) e
theorem aI.get(r:aI U h vs ds):∀ {i:Nat}{d:D},ds[i]? =aa d→∃v,vs[i]? =aa v∧Rd U h v d:=
 r.ind (P:=λvs ds=>∀ {i:Nat}{d:D},ds[i]? =aa d→∃v,vs[i]? =aa v∧Rd U h v d) (λe=>nomatch e) λv Z d Z a Z ih {i}{Z} e=>TR i (λe=>⟨v,rfl,ir e▸a⟩) (λZ e=>ih e) e
theorem aI.append{ws:List ak}{es:List D}(r:aI U h vs ds)(q:aI U h ws es):aI U h (vs++ws) (ds++es):=r.ind (P:=λvs ds=>aI U h (vs++ws) (ds++es)) q λZ Z Z Z a Z b=>.cons a b
theorem aI.one{v:ak}(a:Rd U h v d):aI U h [v] [d]:=.cons a .nil
theorem aI.take(n:Nat)(r:aI U h vs ds):aI U h (vs.take n) (ds.take n):=
 r.ind (P:=λvs ds=>∀n,aI U h (vs.take n) (ds.take n)) (λn=>by refine rE ahc ?_;refine rE ahc ?_;exact .nil) (λZ Z Z Z a Z ih n=>TR n .nil λn=>.cons a (ih n)) n
theorem aI.drop(n:Nat)(r:aI U h vs ds):aI U h (vs.drop n) (ds.drop n):=
 r.ind (P:=λvs ds=>∀n,aI U h (vs.drop n) (ds.drop n)) (λn=>by refine rE TS ?_;refine rE TS ?_;exact .nil) (λZ Z Z Z a b ih n=>TR n (.cons a b) λn=>ih n) n
end
noncomputable def Rp(U:aY)(h:aP)(v:ak)(d:D):Prop:=Rd U h v d∨∃xs a vs n,d=.list xs∧v=.ref a∧h.get? a=aa (cy vs n)∧aI U h vs.toList xs
section
variable{h:aP}{v:ak}
theorem Rp.listI{xs:List D}(r:Rp U h v (.list xs)):∃a vs n,v=.ref a∧h.get? a=aa (cy vs n)∧aI U h vs.toList xs:=by
 rcases r with r| ⟨ys,r⟩
 ·exact fA r.listI λa vs n e f Z g=>⟨a,vs,n,e,f,g⟩
 ·refine fy r ?_;clear r;intro a vs n e f;cases e;exact⟨a,vs,n,f⟩
theorem Rp.tupI{xs:List D}(r:Rp U h v (.tuple xs)):∃a vs n,v=.ref a∧h.get? a=aa (y6 vs n)∧¬U a∧aI U h vs.toList xs:=r.elim (·.tupI) λq=>BC q λZ Z Z Z e Z=>nomatch e
theorem Rp.cQ(r:Rp U h v (.str x)):∃t,v=.str x t:=r.elim (·.cQ) λq=>BC q λZ Z Z Z e Z=>nomatch e
end
structure Ext(s s':ay):Prop where
 keep:∀a o,s.heap.get? a=aa o→s'.heap.get? a=aa o
 gens:∀ (g:Nat) (x:uq),s.gens[g]? =aa x→s'.gens[g]? =aa x
 bare:wC s.gens→wC s'.gens
 os:s'.os=s.os
theorem Ext.refl(s:ay):Ext s s:=⟨λZ Z e=>e,λZ Z e=>e,λe=>e,rfl⟩
theorem Ext.trans{a b c:ay}(x:Ext a b)(y:Ext b c):Ext a c:=
 ⟨λZ Z e=>y.keep _ _ (x.keep _ _ e),λZ Z e=>y.gens _ _ (x.gens _ _ e),λe=>y.bare (x.bare e),y.os.trans x.os⟩
theorem Ext.tok:Ext s {s with toks:=k}:=⟨λZ Z e=>e,λZ Z e=>e,λe=>e,rfl⟩
theorem Ext.heap(hk:∀a o,s.heap.get? a=aa o→h'.get? a=aa o):Ext s {s with heap:=h',toks:=k}:=
 ⟨hk,λZ Z e=>e,λe=>e,rfl⟩
theorem Ext.push{o:fJ}:Ext s {s with heap:=s.heap.push o,toks:=k}:=
 .heap (λZ Z e=>jZ _ e)
theorem Rd.ext{v:ak}(x:Ext s s')(r:Rd U s.heap v d):Rd U s'.heap v d:=r.mono (λa o Z e=>x.keep a o e) λZ Z Z n=>n
theorem aI.ext(x:Ext s s')(r:aI U s.heap vs ds):aI U s'.heap vs ds:=r.mono (λa o Z e=>x.keep a o e) λZ Z Z n=>n
structure bW(A:dU)(n:Nat):Prop where
 handled:A.handled=af
 depth:A.depth+n+110<iS
 units:A.units+4 * n+200<cLine
theorem bW.deeper(r:bW A (n+1)):bW (A.deeper env) n:=
 ⟨r.handled,by have:=r.depth;refine rE (depth_deeper ..) ?_;lia,by have:=r.units;refine rE (units_deeper ..) ?_;lia⟩
variable{w:cM}
noncomputable def Gv(w:cM)(A:dU)(U:aY)(s:ay)(t:cN ak)(d:D):Prop:=
 ∀ (Q E:aW),(∀v s',Ext s s'→Rd U s'.heap v d→Q v s')→ar (aw prog w) A t Q E s
end
noncomputable def UB(U:aY)(s:ay):Prop:=∀a,U a→∃o,s.heap.get? a=aa o
theorem UB.ext(h:UB U s)(x:Ext s s'):UB U s':=λa ha=>let⟨o,e⟩:=h a ha;⟨o,x.keep _ _ e⟩
theorem eM(h:aP):h.get? h.objs.size=af:=by
 induction q:h.get? h.objs.size with
 |none=>rfl
 |some o=>exact absurd (jD q) (qF _)
theorem UB.new(h:UB U s):¬U s.heap.objs.size:=λha=>by refine xE (h _ ha) λo e=>?_;exact zN ((eM ..)▸e)
theorem W.bind_some{m:W α}{f:α→W β}{b:β}{ok:Bool}(h:W.bind m f=aa (b,ok)):∃ (a:α) (o1 o2:Bool),m=aa (a,o1)∧f a=aa (b,o2)∧ok=(o1&&o2):=by
 induction m with
 |none=>exact zN h
 |some p=>
  obtain⟨a,o1⟩:=p;have h:(match f a with|none=>af|some (b,oH)=>aa (b,o1&&oH))=aa (b,ok):=h;induction hf:f a with
  |none=>exact zN (hf▸h)
  |some q=>replace h:=iJ (hf▸h);refine iP h λe1 e2=>?_;clear h;subst e1;subst e2;exact⟨a,o1,q.2,rfl,hf,rfl⟩
theorem W.LC{m:W α}{f:α→W β}{b:β}(h:W.bind m f=aa (b,ae)):∃a:α,m=aa (a,ae)∧f a=aa (b,ae):=by refine ic (W.bind_some h) λa o1 o2 h1 h2 h3=>?_;have h3:=h3.symm;replace h3:=(j0 ..)▸h3;clear h;refine xA h3 ?_;clear h3;intro e9 bC;subst e9;subst bC;exact Exists.intro a (Kc h1 h2)
theorem W.bp{a b:α}(h:W.ret a=aa (b,ae)):a=b:=by replace h:=VA h;subst h;rfl
theorem W.de{a b:α}{ok:Bool}(h:W.need a ok=aa (b,ae)):a=b∧ok:=by replace h:=iJ h;refine iP h λe1 e2=>?_;clear h;subst e1;subst e2;exact⟨rfl,rfl⟩
theorem BD{m:Option α}{f:α→Option β}{b:β}(h:m.bind f=aa b):∃a,m=aa a∧f a=aa b:=ahd.mp h
theorem gh{i:Int}(h:cY d=aa i):d=.int i:=by cases d with|int j=>replace h:=iJ h;subst h;rfl|_=>exact zN h
theorem kO{i:ah}(h:dD d=aa i):d=.str i:=by cases d with|str j=>replace h:=iJ h;subst h;rfl|_=>exact zN h
theorem nF{i:List D}(h:d7 d=aa i):d=.list i:=by cases d with|list j=>replace h:=iJ h;subst h;rfl|_=>exact zN h
theorem LD{i:Bool}(h:Bv d=aa i):d=.bool i:=by cases d with|bool j=>replace h:=iJ h;subst h;rfl|_=>exact zN h
theorem w8{i:List D}(h:ny d=aa i):d=.list i∨d=.tuple i:=by
 cases d with|list j=>replace h:=iJ h;subst h;exact .inl rfl|tuple j=>replace h:=iJ h;subst h;exact .inr rfl|_=>exact zN h
theorem y7{f:Int→Option β}{b:β}(h:(cY d).bind f=aa b):∃x,d=.int x∧f x=aa b:=let⟨x,h1,h2⟩:=BD h;⟨x,gh h1,h2⟩
theorem nG{f:ah→Option β}{b:β}(h:(dD d).bind f=aa b):∃x,d=.str x∧f x=aa b:=let⟨x,h1,h2⟩:=BD h;⟨x,kO h1,h2⟩
theorem y8{f:List D→Option β}{b:β}(h:(d7 d).bind f=aa b):∃x,d=.list x∧f x=aa b:=let⟨x,h1,h2⟩:=BD h;⟨x,nF h1,h2⟩
theorem E9(h:pJ ρ i=aa d):get ρ i=aa (.val d):=by
 refine oE h λs h1 h2=>?_;induction s with|val x=>replace h2:=iJ h2;subst h2;exact h1|_=>exact zN h2
theorem BE{xs:List D}(h:nC ρ i=aa xs):get ρ i=aa (.own xs):=by
 refine oE h λs h1 h2=>?_;induction s with|own x=>replace h2:=iJ h2;subst h2;exact h1|_=>exact zN h2
theorem Fb(h:w5 ρ i=aa j):get ρ i=aa (.cU j):=by
 refine oE h λs h1 h2=>?_;induction s with|cU x=>replace h2:=iJ h2;subst h2;exact h1|_=>exact zN h2
theorem LF{l:gO}(h:oJ ρ i=aa l):get ρ i=aa (.fO l):=by
 refine oE h λs h1 h2=>?_;induction s with|fO x=>replace h2:=iJ h2;subst h2;exact h1|_=>exact zN h2
theorem Fc{t:d6}(h:mq hs ρ i=aa t):∃j,get ρ i=aa (.cU j)∧hs[j]? =aa t:=oE h λj h1 h2=>⟨j,Fb h1,h2⟩
theorem LG{f:Int→Int→W D}{x:D}{p:D × Bool}(h:sT f x y=aa p):∃a b,x=.int a∧y=.int b∧f a b=aa p:=oE h λa h1 h=>oE h λb h2 h=>⟨a,b,gh h1,gh h2,h⟩
noncomputable def LH:mc→wD
 | .add=>.Add| .sub=>.Sub| .mul=>.Mult| .fdiv=>.FloorDiv| .mod=>.Mod| .pow=>.Pow| .shr=>.RShift| .band=>.BitAnd
theorem w9{i:Int}(h:small i): -(2^64:Int)<i∧i<2^64:=by have h:=E4 (ur (bc h:i.natAbs<18446744073709551616));exact⟨Int.lt_of_lt_of_le (by decide) h.1,TP h.2 (by decide)⟩
theorem VG{a b:Int}(h:(small a||small b)):IntMulOk a b:=by
 unfold IntMulOk;intro hc;replace hc:=(j0 ..)▸(j0 ..)▸hc;obtain⟨⟨h1,h2⟩,_⟩:=hc;have h1:=of_decide_eq_true h1;have h2:=of_decide_eq_true h2;rcases TU.mp h with h|h
 ·have:=TV (w9 h).1 (w9 h).2;unfold shortFactorBits at h1;lia
 ·have:=TV (w9 h).1 (w9 h).2;unfold shortFactorBits at h2;lia
theorem LJ(x y:ah):x++y=Bu x y:=wF (by
 refine rE (ah.cps_append ..) ?_;simp[Bu,aj,sL])
theorem ie(x:ah):(sL x).length=x.length:=by simp[sL,TX]
theorem VH{x n:Int}(h1:small x)(h2:0≤n)(h3:n.natAbs<1000000):((TY x:Nat):Int) * n≤2^27:=by
 have xa:=TV (w9 h1).1 (w9 h1).2;have hn:n≤1000000:=by lia
 have hI:((TY x:Nat):Int)≤64:=by lia
 calc ((TY x:Nat):Int) * n≤64 * n:=Int.mul_le_mul_of_nonneg_right hI h2
  _≤2^27:=by lia
theorem LK(a:Array α)(k:Nat):∀acc:Array α,((ahe k a).foldl (· ++ ·) acc).toList=acc.toList++rep a.toList k:=by
 induction k with
 |zero=>intro acc;exact(eg _).symm
 |succ k ih=>intro acc;exact rE List.replicate_succ (rE sF (rE (ih ..) (rE D7 (rE (Le ..) (rE (d5 ..) rfl)))))
theorem Fd(k:Nat):rep ([]:List α) k=[]:=by
 induction k with
 |zero=>rfl
 |succ k ih=>refine rE (Le ..) (rE ih ?_);rfl
set_option tactic.hygienic true in
theorem VI(x:ah)(n:Int):Txt.mul x n=aj (rep (sL x) n.toNat):=by
 unfold Txt.mul;by_cases h:n<1
 ·refine rE (if_pos h) (rE (show n.toNat=0 by lia) ?_);rfl
 ·refine rE (if_neg h) ?_;split
  ·rename_i hc;apply wF;apply AR;rcases TU.mp hc with hc|hc
   ·obtain rfl:n=1:=beq_iff_eq.mp hc;exact(eg _).symm
   ·have:x.cps.toList=[]:=wG ((ie x).trans (beq_iff_eq.mp hc));exact this.trans (by rewrite[sL];refine rE this (rE (Fd ..) ?_);rfl)
  ·apply wF;apply AR;exact(LK x.cps n.toNat #[]).trans rfl
theorem aI.rep{h:aP}(r:aI U h vs ds)(k:Nat):aI U h (rep vs k) (rep ds k):=by
 induction k with
 |zero=>exact .nil
 |succ k ih=>exact r.append ih
section
variable{w:cM}
theorem Gv.int{t:cN ak}{i:Int}(h:∀ (Q E:aW),(∀tk,Q (.int i tk) {s with toks:=s.toks+1})→ar (aw prog w) A t Q E s):Gv w A U s t (.int i):=
 λQ E hQ=>h Q E λtk=>hQ _ _ .tok (.int _ _)
theorem LL{i:Int}(h:(!(i == 0))):i≠0:=λe=>by replace h:=e▸h;exact zF h
theorem VJ(_:UB U s){y:ah}(hk:aX ((sL x).length+(sL y).length) big)(ra:Rd U s.heap va (.str x))(rb:Rd U s.heap vb (.str y)):Gv w A U s (D8 .Add va vb) (.str (Bu x y)):=by
 refine xE ra.cQ λZ e9=>?_;subst e9;refine xE rb.cQ λZ e9=>?_;subst e9;intro Q E hQ;refine PyProof.Rows.add_str (λt' tk=>hQ _ _ .tok ?_) ?_
 ·exact rE (LJ ..) (.str _ _)
 ·exact rS (ie ..) (rS (ie ..) (bc hk))
theorem VK(hb:UB U s){xs ys:List D}(hk:aX (xs.length+ys.length) big)(ra:Rd U s.heap va (.list xs))(rb:Rd U s.heap vb (.list ys)):Gv w A U s (D8 .Add va vb) (.list (xs++ys)):=by
 refine fA ra.listI λZ Z Z e9 e1 n1 r1=>?_;subst e9
 ·
  refine fA rb.listI λZ Z Z e9 e2 n2 r2=>?_;subst e9
  ·
   intro Q E hQ;have hz:_≤qG:=bc hk;replace hz:=jg r2.length▸jg r1.length▸hz;refine concat_meets ⟨_,e1,rfl⟩ ⟨_,e2,rfl⟩ noFill_list_add seq_list_add ahf ahg (ahh _ _) (list_addW _ _ _ _ _ _ af af #[] #[] (by replace hz:=eL▸eL▸hz;exact hz)) ⟨e1,e2,?_⟩;refine hQ _ _ .push (.list (n:=0) (eT _ rfl) hb.new ?_);refine rE D7 ?_;exact(r1.ext .push (s':={s with heap:=s.heap.push _,toks:=s.toks})).append (r2.ext .push (s':={s with heap:=s.heap.push _,toks:=s.toks}))
theorem rj{i:Int}(r:Rd U s.heap va (.int i)):∃t,va=.int i t:=by refine xE r.iA λZ e9=>?_;subst e9;exact⟨_,rfl⟩
set_option tactic.hygienic true in
theorem VM(hb:UB U s){vs:Array ak}{xs:List D}{x:Int}{u:mZ}(hl:s.heap.get? l=aa (cy vs n))(r:aI U s.heap vs.toList xs)
  (h1:x.natAbs≤1000000) (h2:vs.size * x.toNat≤16777216):Gv w A U s (D8 .Mult (.ref l) (.int x u)) (.list (rep xs x.toNat)):=by
 intro Q E hQ;refine wpAny_binaryOp_repeat_ref (T:= "list") (U:= "int") (by decide) ⟨_,hl,rfl⟩ (λs'=>typeIs_int s' x u) noFill_list_mul F.fills_int_mul F.slot_int_rmul repeat_list F.slot_int_index.lookup
  (D9 F.slot_int_rmul (typeIs_int s x u) F.entry_int_rmul (F.args_int_rmul_2 _ _) (int___rmul___int_list x u l vs n)
   ⟨hl,rfl,⟨_,hl,rfl⟩,D9 F.slot_list_mul ⟨_,hl,rfl⟩ F.entry_list_mul (F.args_list_mul_2 _ _)
    (AutoListH.list___mul___list_int_3 l vs n x u (by have:=rf h1 (a:= -9223372036854775808) (b:=9223372036854775808) (by decide) (by decide);simpa[TZ]using this) (by omega) (by simp[T9,qG];omega))
    ⟨hl,hQ _ _ .push ?_⟩⟩)
 refine .list (n:=0) (eT _ rfl) hb.new ?_;have e:(List.foldl (λx1 x2=>x1++x2) #[] (ahe (if vs.isEmpty then 0 else x.toNat) vs)).toList=Ev.rep vs.toList x.toNat:=by
  refine(LK vs (if vs.isEmpty then 0 else x.toNat) #[]).trans ?_;split
  ·rename_i h0;have:vs.toList=[]:=by simpa using h0
   refine rE this (rE (Fd ..) (rE (Fd ..) ?_));rfl
  ·rfl
 exact rE e ((r.ext (.push (s:=s) (o:=cy _ 0) (k:=s.toks))).rep _)
theorem VN(hb:UB U s){a b:D}(h:Lf a b=aa (d,ae))(ra:Rd U s.heap va a)(rb:Rd U s.heap vb b):Gv w A U s (D8 .Mult va vb) d:=by
 refine oE h λn h1 g=>?_;obtain rfl:=gh h1;clear h h1;refine xE (rj rb) λu e9=>?_;subst e9;induction q:cY a with
 |some i=>replace g:=q▸g;clear rb;obtain rfl:=gh q;refine xE (rj ra) λt e9=>?_;subst e9;refine xA (W.de g) λe9 hk=>?_;subst e9;exact .int λQ E hQ=>PyProof.Rows.mul_int (hQ _) (VG hk)
 |none=>
  replace g:=q▸g;dsimp only at g;induction q:dD a with
  |some x=>replace g:=q▸g;clear rb;obtain rfl:=kO q;refine xE ra.cQ λt e9=>?_;subst e9;refine xA (W.de g) λe9 hk=>?_;subst e9;clear g q;refine xA (fM.mp hk) λh1 h2=>?_;have h1:=bc h1;have h2:=bc h2;replace h2:=(ie ..)▸h2;intro Q E hQ;exact SB.mul (PyProof.Rows.mulOk_of _ _ (bZ _) (Int.self_le_toNat _) (rf h1 (b:=9223372036854775808) (by decide) (by decide)).1 (aF (Int.toNat_le.mpr (AQ Int.le_natAbs (uk.mpr h1))) (by decide)) h2) λt' k=>hQ _ _ .tok (rE (VI ..) (.str _ _))
  |none=>replace g:=q▸g;refine oE g ?_;clear g;intro xs h1 g;clear rb;obtain rfl:=nF h1;refine xA (W.de g) λe9 hk=>?_;subst e9;clear g q h1;refine xA (fM.mp hk) λh1 h2=>?_;have h2:=bc h2;clear hk;refine fA ra.listI λZ Z Z e9 hl Z r=>?_;subst e9;replace h2:=eL▸jg r.length▸h2;exact VM hb hl r (bc h1) h2
theorem VO(hb:UB U s){op:mc}{a b:D}(h:j7 op a b=aa (d,ae))(ra:Rd U s.heap va a)(rb:Rd U s.heap vb b):
  Gv w A U s (D8 (LH op) va vb) d:=by
 have ii:∀ {f:Int→Int→W D},sT f a b=aa (d,ae)→∃i j t u,va=.int i t∧vb=.int j u∧f i j=aa (d,ae):=λh=>by refine cK (LG h) λi j e1 e2 h=>?_;subst e1 e2;exact xE (rj ra) λt ht=>xE (rj rb) λu hu=>⟨i,j,t,u,ht,hu,h⟩
 induction op with
 |add=>
  have h:uN a b=aa (d,ae):=h;unfold uN at h;induction q:cY a with
  |some i=>replace h:=q▸h;refine oE h ?_;clear h;intro j h1 h;obtain rfl:=gh q;obtain rfl:=gh h1;cases W.bp h;refine xE ra.iA λZ e9=>?_;subst e9;refine xE rb.iA λZ e9=>?_;subst e9;exact .int λQ E hQ=>add_int (hQ _)
  |none=>
   replace h:=q▸h;dsimp only at h;induction q:dD a with
   |some x=>replace h:=q▸h;refine oE h ?_;clear h;intro y h1 h;obtain rfl:=kO q;obtain rfl:=kO h1;refine xA (W.de h) λe9 hk=>?_;subst e9;exact VJ hb hk ra rb
   |none=>replace h:=q▸h;refine oE h λxs h1 h=>oE h λys h2 h=>?_;obtain rfl:=nF h1;obtain rfl:=nF h2;refine xA (W.de h) λe9 hk=>?_;subst e9;exact VK hb hk ra rb
 |sub=>refine pK (ii h) λi j t u e9 bC h=>?_;subst e9;subst bC;cases W.bp h;exact .int λQ E hQ=>sub_int (hQ _)
 |mul=>exact VN hb h ra rb
 |fdiv=>clear rb ra;refine pK (ii h) λi j t u e9 bC h=>?_;subst e9;subst bC;refine xA (W.de h) λe9 hk=>?_;subst e9;exact xA (fM.mp hk) λh1 h2=>.int λQ E hQ=>floordiv_int (LL h1) (hQ _) (Or.inl (PyProof.noPylong_small (bc h2)))
 |mod=>clear rb ra;refine pK (ii h) λi j t u e9 bC h=>?_;subst e9;subst bC;refine xA (W.de h) λe9 hk=>?_;subst e9;exact .int λQ E hQ=>mod_int' (LL hk) (hQ _)
 |pow=>clear rb ra;refine pK (ii h) λi j t u e9 bC h=>?_;subst e9;subst bC;refine xA (W.de h) λe9 hk=>?_;subst e9;exact xA (fM.mp hk) λhk h3=>xA (fM.mp hk) λh1 h2=>.int λQ E hQ=>pow_int (of_decide_eq_true h2) (VH h1 (of_decide_eq_true h2) (bc h3)) (hQ _)
 |shr=>clear rb ra;refine pK (ii h) λi j t u e9 bC h=>?_;subst e9;subst bC;refine xA (W.de h) λe9 hk=>?_;subst e9;exact .int λQ E hQ=>rshift_int (of_decide_eq_true hk) (hQ _)
 |band=>clear rb ra;refine pK (ii h) λi j t u e9 bC h=>?_;subst e9;subst bC;cases W.bp h;exact .int λQ E hQ=>and_int (hQ _)
end
theorem lEq_iff:∀ {a b:ax},lEq a b↔a=b:=by
 intro a;induction a with
 |nil=>intro b;induction b using bj with|nil=>exact⟨λZ=>rfl,λZ=>rfl⟩|cons=>exact⟨zF,zC⟩
 |cons x xs ih=>
  intro b;induction b using bj with
  |nil=>exact⟨zF,zD⟩
  |cons y ys=>
   refine rE (Lc ..) ?_;induction h:az x y with
   |true=>exact rE (fZ h) ⟨λq=>congrArg _ (ih.mp q),λq=>ih.mpr (jh q).2⟩
   |false=>exact⟨zF,λq=>absurd (jh q).1 (ahi h)⟩
theorem sEq_iff{y:ah}:sEq x y↔x=y:=by
 unfold sEq;rw[lEq_iff];constructor
 ·intro h;exact wF (AR h)
 ·rintro rfl;rfl
theorem LM{a:Bool}(h:a↔b):a=b:=by induction a<;>induction b<;>simp_all
theorem Fe(x y:ah):(x == y)=sEq x y:=LM (by rw[sEq_iff];simp)
theorem Ff:∀ {x y:ax},qV x y↔y.take x.length=x:=by
 intro x;induction x with
 |nil=>exact λ{y}=>⟨λZ=>rfl,λZ=>rfl⟩
 |cons a xs ih=>
  intro y;induction y using bj with
  |nil=>exact⟨zF,zC⟩
  |cons b ys=>
   show cond (az a b) (qV xs ys) ag=ae↔b::ys.take xs.length=a::xs;induction h:az a b with
   |true=>exact rE (fZ h) ⟨λq=>congrArg _ (ih.mp q),λq=>ih.mpr (jh q).2⟩
   |false=>exact⟨zF,λq=>absurd (jh q).1.symm (ahi h)⟩
theorem VP{x:ax}:∀ {y:ax},nt x y↔∃i,i+x.length≤y.length∧(y.drop i).take x.length=x:=by
 have h0:∀ {y:ax},qV x y→∃i,i+x.length≤y.length∧(y.drop i).take x.length=x:=λ{y} h=>by have e:=Ff.mp h;exact⟨0,aF (sG (ll _)) (rS (congrArg Ua e) (rE qH (uo ..))),e⟩
 intro y;induction y with
 |nil=>refine⟨h0,λh=>?_⟩;refine aD h λi h1 h2=>?_;replace h2:=TS▸h2;exact Ff.mpr h2
 |cons b ys ih=>
  refine rE (Vn ..) ?_;induction h:qV x (b::ys)with
  |true=>exact⟨λZ=>h0 h,λZ=>rfl⟩
  |false=>
   refine⟨λq=>aD (ih.mp q) λi h1 h2=>⟨i+1,aF (sG (Ke i 1 _)) (m7 h1),h2⟩,λq=>aD q λi h1 h2=>?_⟩;induction i using lq with
   |zero=>exact zT ((Ff.mpr h2).symm.trans h)
   |succ i=>exact ih.mpr ⟨i,ahj (aF (sG (Ke i 1 _).symm) h1),h2⟩
theorem LN(x y:ah):Txt.contains x y=nt (sL y) (sL x):=by
 apply LM;unfold Txt.contains;rewrite[StrLaws.found_iff];rewrite[VP];refine rE (ie ..) (rE (ie ..) ?_);constructor
 ·rintro ⟨i,h1,h2⟩
  refine⟨i,h1,?_⟩;replace h2:=(ahk ..)▸h2;simpa[sL,TX]using h2
 ·rintro ⟨i,h1,h2⟩
  refine⟨i,h1,?_⟩;refine rE (ahk ..) ?_;simpa[sL,TX]using h2
noncomputable def Fg:uK→kH
 | .eq=>.Eq| .ne=>.NotEq| .lt=>.Lt| .le=>.LtE| .gt=>.Gt| .ge=>.GtE| .isin=>.In| .iy=>.NotIn
section
variable{w:cM}
noncomputable def sZ(w:cM)(A:dU)(s:ay)(t:cN ak)(b:Bool):Prop:=
 ∀ (Q E:aW),(∀s',Ext s s'→Q (.bool b) s')→ar (aw prog w) A t Q E s
theorem LO{m:W Bool}(h:sV m=aa (b,ae)):∃a,m=aa (a,ae)∧(!a)=b:=by
 induction m with
 |none=>exact zN h
 |some p=>obtain⟨a,o⟩:=p;replace h:=iJ h;refine iP h λe1 e2=>?_;clear h;subst e1;subst e2;exact⟨a,rfl,rfl⟩
theorem VQ{f:Int→Int→Bool}{a b:D}{r:Bool}(h:w4 f a b=aa (r,ae)):∃i j,a=.int i∧b=.int j∧f i j=r:=oE h λi h1 h=>oE h λj h2 h=>⟨i,j,gh h1,gh h2,W.bp h⟩
theorem bW.LP(R:bW A n):A.units+64<cLine:=by have:=R.units;lia
theorem LQ(R:bW A n){a b:D}{r:Bool}(h:w0 a b=aa (r,ae))(ra:Rd U s.heap va a)(rb:Rd U s.heap vb b):
  sZ w A s (sH .Eq va vb) r∧sZ w A s (sH .NotEq va vb) (!r):=by
 have deep:Bx a b=aa (r,ae)→sZ w A s (sH .Eq va vb) r∧sZ w A s (sH .NotEq va vb) (!r):=λh=>by refine xA (W.de h) λe9 hk=>?_;subst e9;exact xA (fM.mp hk) λh1 h2=>xE ra.reads λas qa=>xE rb.reads λbs qb=>⟨λQ E hQ=>SeqAt.compareEq_shaped qa qb h1 h2 R.LP (hQ _ (.refl s)),λQ E hQ=>SeqAt.compareNe_shaped qa qb h1 h2 R.LP (hQ _ (.refl s))⟩
 unfold w0 at h;induction q:cY a with
 |some i=>
  replace h:=q▸h;dsimp only at h;induction q2:cY b with
  |none=>replace h:=q2▸h;exact deep h
  |some j=>replace h:=q2▸h;clear R;obtain rfl:=gh q;obtain rfl:=gh q2;cases W.bp h;refine xE ra.iA λZ e9=>?_;subst e9;refine xE rb.iA λZ e9=>?_;subst e9;exact⟨λQ E hQ=>PyProof.Rows.eq_int (hQ _ (.refl s)),λQ E hQ=>PyProof.Rows.ne_int (hQ _ (.refl s))⟩
 |none=>
  replace h:=q▸h;dsimp only at h;induction q1:dD a with
  |none=>replace h:=q1▸h;exact deep h
  |some x=>
   replace h:=q1▸h;dsimp only at h;induction q2:dD b with
   |none=>replace h:=q2▸h;exact deep h
   |some y=>
    replace h:=q2▸h;clear deep R;obtain rfl:=kO q1;obtain rfl:=kO q2;cases W.bp h;refine xE ra.cQ λZ e9=>?_;subst e9;refine xE rb.cQ λZ e9=>?_;subst e9;refine⟨λQ E hQ=>PyProof.Rows.eq_str ?_,λQ E hQ=>ahl ?_⟩
    ·exact rE (Fe ..) (hQ _ (.refl s))
    ·show Q (.bool (!(_ == _))) s;exact rE (Fe ..) (hQ _ (.refl s))
theorem bW.BF(R:bW A n):A.units+65<cLine:=by have:=R.units;lia
theorem LR(R:bW A n){a b:D}{r:Bool}(h:sU a b=aa (r,ae))(ra:Rd U s.heap va a)(rb:Rd U s.heap vb b):
  sZ w A s (sH .In va vb) r∧sZ w A s (sH .NotIn va vb) (!r):=by
 unfold sU at h;induction q:dD b with
 |some y=>
  replace h:=q▸h;refine oE h ?_;clear h;intro x h1 h;obtain rfl:=kO h1;obtain rfl:=kO q;cases W.bp h;refine xE ra.cQ λZ e9=>?_;subst e9;refine xE rb.cQ λZ e9=>?_;subst e9;refine⟨λQ E hQ=>SB.contains ?_,λQ E hQ=>SB.notContains ?_⟩
  ·exact rE (LN ..) (hQ _ (.refl s))
  ·exact rE (LN ..) (hQ _ (.refl s))
 |none=>
  replace h:=q▸h;refine oE h λys h1 h=>xA (W.de h) λe9 hk=>?_;subst e9;refine xA (fM.mp hk) λk1 k2=>xE ra.reads λas qa=>xE rb.reads λbs qb=>?_;have c1:=Ea k1;have c2:=Ea k2;rcases w8 h1 with rfl|rfl
  ·exact⟨λQ E hQ=>SeqAt.in_list_reads qb qa c1 c2 (Kf k2 R.BF) (hQ _ (.refl s)),λQ E hQ=>SeqAt.notIn_list_reads qb qa c1 c2 (Kf k2 R.BF) (hQ _ (.refl s))⟩
  ·exact⟨λQ E hQ=>SeqAt.in_tuple_reads qb qa c1 c2 (Kf k2 R.BF) (hQ _ (.refl s)),λQ E hQ=>SeqAt.notIn_tuple_reads qb qa c1 c2 (Kf k2 R.BF) (hQ _ (.refl s))⟩
theorem xb(R:bW A n){op:uK}{a b:D}{r:Bool}(h:gQ op a b=aa (r,ae))(ra:Rd U s.heap va a)(rb:Rd U s.heap vb b):
  sZ w A s (sH (Fg op) va vb) r:=by
 have ii:∀ {f:Int→Int→Bool},w4 f a b=aa (r,ae)→∃i j t u,va=.int i t∧vb=.int j u∧f i j=r:=λh=>by refine cK (VQ h) λi j e1 e2 h9=>?_;subst e1 e2;exact xE (rj ra) λt ht=>xE (rj rb) λu hu=>⟨i,j,t,u,ht,hu,h9⟩
 induction op with
 |eq=>exact(LQ R h ra rb).1
 |ne=>refine aD (LO h) λZ h2 e9=>?_;subst e9;exact(LQ R h2 ra rb).2
 |lt=>refine pK (ii h) λi j t u e9 bC u2=>?_;subst e9;subst bC;subst u2;exact λQ E hQ=>ahm (hQ _ (.refl s))
 |le=>refine pK (ii h) λi j t u e9 bC u2=>?_;subst e9;subst bC;subst u2;exact λQ E hQ=>PyProof.Rows.le_int (hQ _ (.refl s))
 |gt=>refine pK (ii h) λi j t u e9 bC u2=>?_;subst e9;subst bC;subst u2;exact λQ E hQ=>PyProof.Rows.gt_int (hQ _ (.refl s))
 |ge=>refine pK (ii h) λi j t u e9 bC u2=>?_;subst e9;subst bC;subst u2;exact λQ E hQ=>PyProof.Rows.ge_int (hQ _ (.refl s))
 |isin=>exact(LR R h ra rb).1
 |iy=>refine aD (LO h) λZ h2 e9=>?_;subst e9;exact(LR R h2 ra rb).2
end
theorem LS{xs:List α}{d:α}(h:xs[i]? =aa d):i<xs.length:=(pz.mp h).1
theorem VR(h:k<n):seqIndex? (k:Int) n=aa k:=by
 unfold seqIndex?;simp only[show ¬ ((k:Int)<0)from Kg.mpr (jf k),if_false];rw[if_pos]
 ·rfl
 ·simp;omega
theorem VS(slice:au)(o i:ak):∃ops,subscripted slice ag o i=operate ops (getItem o i):=by
 cases slice with
 |Slice l u st p=>induction st<;>exact⟨_,rfl⟩
 |_=>exact⟨_,rfl⟩
section
variable{w:cM}
theorem u3{value slice:au}{o i:ak}{T id:String}(hT:s.TypeIs o T)
  (hl:qI (.type T) "__getitem__" =pure (aa (.builtin id))) (hg:ar (aw prog w) A (getItem o i) Q E s):ar (aw prog w) A (Kh value slice o i) Q E s:=by
 exact xE (VS slice o i) λops h=>tail_any hT hl hg h
theorem VT{i:Int}(h:yS i=aa k):i=(k:Int):=by
 unfold yS at h;induction q:decide (0≤i)with
 |false=>exact zN (q▸h)
 |true=>replace h:=iJ (q▸h);subst h;exact(Ki (of_decide_eq_true q)).symm
theorem LU{i:Int}(h:place n i=aa k)(hk:k<n):seqIndex? i n=aa k:=by
 induction i with
 |ofNat m=>replace h:=iJ h;subst h;exact VR hk
 |negSucc m=>
  have h:cond (aX (m+1) n) (aa (n - (m+1))) af=aa k:=h;induction q:aX (m+1) n with
  |false=>exact zN (q▸h)
  |true=>
   replace h:=iJ (q▸h);subst h;have:=bc q;unfold seqIndex?;refine rE (if_pos (DZ m)) ?_;rw[if_pos]
   ·refine rE (Lw this) ?_;rfl
   ·simp;omega
theorem VU{xs:List D}(h:Lg xs y=aa (d,ae)):∃ (i:Int) (k:Nat),y=.int i∧place xs.length i=aa k∧xs[k]? =aa d∧i.natAbs<1000000000:=by refine oE h λi h1 h=>oE h λk h2 h=>oE h λe h3 h=>xA (W.de h) λe9 hk=>?_;subst e9;exact⟨i,k,gh h1,h2,h3,bc hk⟩
theorem LV{h:aP}{vs:Array ak}{xs:List D}(r:aI U h vs.toList xs)(e:xs[k]? =aa d):∃v,vs[k]? =aa v∧Rd U h v d:=aD (r.get e) λv hv rv=>⟨v,(AS).symm.trans hv,rv⟩
theorem VV{vs:Array ak}{i:Int}{v:ak}(L:s.heap.IsList a vs)(hp:place vs.size i=aa k)(hi:i.natAbs<1000000000)(hv:vs[k]? =aa v)(h:Q v s):
  ar (aw prog w) A (getItem (.ref a) (.int i t)) Q E s:=by
 induction i with
 |ofNat m=>replace hp:=iJ hp;subst hp;exact wpAny_getItem_list L (jf _) (TP (uk.mpr (d4 hi)) (by decide)) hv h
 |negSucc m=>
  have hp:cond (aX (m+1) vs.size) (aa (vs.size - (m+1))) af=aa k:=hp;induction q:aX (m+1) vs.size with
  |false=>exact zN (q▸hp)
  |true=>replace hp:=iJ (q▸hp);subst hp;have:=bc q;exact wpAny_getItem_list_neg L (DZ m) (ag9 (uk.mpr this)) (rf (d4 hi) (b:=9223372036854775808) (by decide) (by decide)).1 (rE (Lw this) hv) h
theorem LW{value slice:au}{a i:D}{vi:ak}(h:kL a i=aa (d,ae))(ra:Rp U s.heap va a)(ri:Rd U s.heap vi i):
  Gv w A U s (Kh value slice va vi) d:=by
 unfold kL at h;induction q:ny a with
 |some xs=>
  replace h:=q▸h;refine E6 (VU h) λi k e9 hp e hk=>?_;subst e9;refine xE (rj ri) λt e9=>?_;subst e9;intro Q E hQ;rcases w8 q with rfl|rfl
  ·refine ic ra.listI λZ Z Z e9 hl r=>?_;subst e9;refine aD (LV r e) λv hv rv=>?_;have L:s.heap.IsList _ _:=⟨_,hl,rfl,_,rfl⟩;replace hp:=eL▸jg r.length▸hp;exact u3 L.typeIs Kj.lookup (VV L hp hk hv (hQ _ _ (.refl s) rv))
  ·refine fA ra.tupI λZ Z Z e9 hl hn r=>?_;subst e9;refine aD (LV r e) λv hv rv=>?_;have L:IsTup s.heap _ _:=⟨_,hl,rfl,_,rfl⟩;replace hp:=eL▸jg r.length▸hp;have hx:=LU hp (Array.getElem?_eq_some_iff.mp hv).1;exact u3 L.typeIs slot_tuple_getitem.lookup (PyProof.Rows.getItem_tuple L (rf (d4 hk) (b:=9223372036854775808) (by decide) (by decide)).1 (rf (d4 hk) (a:= -9223372036854775808) (by decide) (by decide)).2 hx hv (hQ _ _ (.refl s) rv))
 |none=>
  replace h:=q▸h;refine oE h λx h1 h=>oE h λi h2 h=>oE h λk h3 h=>oE h λc h4 h=>xA (W.de h) λe9 hk=>?_;subst e9;clear h;obtain rfl:=kO h1;clear h h1;obtain rfl:=gh h2;clear h h2;refine xE ra.cQ λZ e9=>?_;subst e9;clear h;refine xE (rj ri) λt e9=>?_;subst e9;have hk:=bc hk;intro Q E hQ;refine u3 (Uc s _ _) ahn.lookup (PyProof.Rows.getItem_str (c:=c) ?_ ?_ (hQ _ _ .tok (.str _ _)))
  ·rw[Bool.or_eq_false_iff];have hk:=rf (Eb hk) (a:= -9223372036854775808) (b:=9223372036854775808) (by decide) (by decide);exact⟨decide_eq_false (Kg.mpr hk.1),decide_eq_false (Int.not_le.mpr hk.2)⟩
  ·have hx:=LU h3 (LS h4);replace hx:=(ie ..)▸hx;exact rE hx ((AS).symm.trans h4)
end
theorem LX(n k:Nat):clipAt n (k:Int)=min k n:=by unfold clipAt;exact rE (if_neg (Kg.mpr (jf k))) (Lv n k)
theorem VW{i:Int}(h:lz (aa i)):∃k:Nat,i=(k:Int):=by obtain⟨h,_⟩:=fM.mp (h:(decide (0≤i)&&_));exact⟨i.toNat,(Ki (of_decide_eq_true h)).symm⟩
theorem Fh{a:Option Int}(h:lz a):a.elim 0 (clipAt n)=min (lo a) n:=by
 induction a with
 |none=>exact(Nat.zero_min n).symm
 |some i=>obtain⟨k,rfl⟩:=VW h;exact LX n k
theorem Fi(xs:List α)(a b:Nat):(xs.drop (min a xs.length)).take (min b xs.length - min a xs.length)=(xs.take b).drop a:=by
 refine rS aho ?_;have e1:xs.take (min b xs.length)=xs.take b:=rS List.take_take (rE Kk rfl)
 have e2:∀l:List α,l.length≤xs.length→l.drop (min a xs.length)=l.drop a:=λl h=>by
  by_cases q:a≤xs.length
  ·exact rE (D6 q) rfl
  ·exact rE (AU (by lia)) (rE (AU (by lia)) rfl)
 exact rE e1 (rE (e2 _ (by refine rE qH ?_;lia)) rfl)
noncomputable def pL(n:Nat)(b:Option Int):Nat:=match b with|none=>n|some i=>Li n i
theorem Fj(b:Option Int):b.elim n (clipAt n)=min (pL n b) n:=by
 induction b with
 |none=>exact(Nat.min_self n).symm
 |some i=>induction i with
  |ofNat k=>exact LX n k
  |negSucc k=>show clipAt n (qD k)=min (n - (k+1)) n;unfold clipAt;exact rE (if_pos (DZ k)) (VB n k)
theorem y9(xs:List α)(a b:Option Int):cut xs a b=(xs.take (pL xs.length b)).drop (lo a):=by
 induction b with
 |none=>show xs.drop (lo a)=(xs.take xs.length).drop (lo a);exact rE Kk rfl
 |some i=>rfl
theorem LY(items:Array ak){a b:Option Int}(ha:lz a):(AV items a b af).toList=cut items.toList a b:=by refine rE (slicePick_plain ..) (rE (Fh ha) (rE (Fj b) (rE (y9 ..) (rE eL ?_))));have:=Fi items.toList (lo a) (pL items.size b);replace this:=eL▸this;simpa using this
theorem aI.cut{h:aP}(r:aI U h vs ds)(a b:Option Int):aI U h (cut vs a b) (cut ds a b):=rE (y9 ..) (rE (y9 ..) (rE r.length ((r.take _).drop _)))
theorem aI.jI{h:aP}(r:aI U h vs ds)(k:Nat):∀j,aI U h (jI k j vs) (jI k j ds):=by
 induction r using aI.rec (motive_1:=λZ Z Z=>True)with
 |nil=>intro j;induction j<;>exact .nil
 |cons a b _ ih=>intro j;induction j with
  |zero=>exact .cons a (ih k)
  |succ j=>exact ih j
 |_=>trivial
theorem Fm{f g:α→Option β}:∀ {l:List α},(∀x∈l,f x=g x)→l.filterMap f=l.filterMap g:=by
 intro L0;induction L0 with
 |nil=>intro _;exact rfl
 |cons x l ih=>intro h;exact rE AW (rE AW (rE (h x bG) (rE (ih λy hy=>h y (cf _ hy)) rfl)))
theorem VX(k:Nat):∀ (l:List α) (j m:Nat),l.length≤j+(k+1) * m→(∀i,i<m→j+(k+1) * i<l.length)→
  ((bM m).map λi=>j+(k+1) * i).filterMap (l[·]?)=jI k j l:=by
 intro l;induction l with
 |nil=>
  intro j m _ h2;induction m with
  |zero=>induction j<;>rfl
  |succ m=>have:=h2 0 (by lia);simp at this
 |cons x xs ih=>
  intro j m h1 h2;induction j using lq with
  |zero=>
   induction m using lq with
   |zero=>simp at h1
   |succ m=>
    refine rE List.range_succ_eq_map (rE iT (rE AW ?_));simp only[Nat.mul_zero,Ud,List.getElem?_cons_zero,Lh];congr 1;refine rS (ih k m (by simp only[bT]at h1;replace h1:=(uu ..)▸h1;lia) (λi hi=>by
     have:=h2 (i+1) (by lia);simp only[bT]at this;replace this:=(uu ..)▸this;lia)) ?_
    refine rE dJ (rE AX (rE AX ?_));apply Fm;intro i _;simp only[Ue,ll,Nat.succ_eq_add_one];have:(k+1) * (i+1)=(k+(k+1) * i)+1:=by refine rE (uu ..) ?_;lia
    exact rE this (rE (Kl) rfl)
  |succ j=>
   rw[Lh,← ih j m (by simp only[bT]at h1;lia) (λi hi=>by
    have:=h2 i hi;simp only[bT]at this;lia)]
   refine rE AX (rE AX ?_);apply Fm;intro i _;simp only[Ue];have:j+1+(k+1) * i=(j+(k+1) * i)+1:=by lia
   exact rE this (rE (Kl) rfl)
set_option tactic.hygienic true in
theorem VY(items:Array ak){a b:Option Int}(ha:lz a)(k:Nat):(AV items a b (aa (Ec (k+1)))).toList=jI k 0 (cut items.toList a b):=by
 have hs:Ed a b (aa (Ec (k+1))) items.size=(((min (lo a) items.size:Nat):Int),((min (pL items.size b) items.size:Nat):Int),((k+1:Nat):Int)):=by
  have h0:=sliceBounds_plain a b items.size;replace h0:=Fj b▸Fh ha▸h0;unfold Ed at h0 ⊢;have hp:Ec (k+1)>0:=by simp only[Int.ofNat_eq_natCast];lia
  simp only[Ug,Option.getD_none,hp,if_true,gt_iff_lt,Int.one_pos]at h0 ⊢;simp only[yu]at h0 ⊢;exact⟨h0.1,h0.2.1,rfl⟩
 unfold AV;refine rE hs ?_;simp only[AY];have hc:cut items.toList a b=(items.toList.take (min (pL items.size b) items.size)).drop (min (lo a) items.size):=by refine rE (y9 ..) (rE eL ?_);have:=Fi items.toList (lo a) (pL items.size b);replace this:=jg aho▸eL▸this;exact this.symm
 generalize hA:min (lo a) items.size=A at hc ⊢;generalize hB:min (pL items.size b) items.size=B at hc ⊢;have hBn:B≤items.size:=hB▸uo _ _;refine rE hc ?_;unfold sliceRange;have hp:((k+1:Nat):Int)>0:=by lia
 simp only[hp,if_true];generalize hm:((if(A:Int)<B then((B:Int) - A+((k+1:Nat):Int) - 1)/((k+1:Nat):Int)else 0)).toNat=m;have hd:(B - A+k)/(k+1)=m:=by
  refine rS hm ?_;split
  ·rename_i h;have e:(B:Int) - A+((k+1:Nat):Int) - 1=(((B - A+k:Nat)):Int):=by lia
   refine rE e (rS (Int.natCast_ediv ..) ?_);rfl
  ·rename_i h;have:B - A=0:=by lia
   refine rE this (rE (ll ..) ?_);exact Nat.div_eq_of_lt (by lia)
 have hl:((items.toList.take B).drop A).length=B - A:=by simp;lia
 have key:=VX k ((items.toList.take B).drop A) 0 m (by
   refine rE hl (rS hd (rE (ll ..) ?_));exact Nat.le_of_add_le_add_right (b:=k) (aF (sG (ahp (B - A+k) (k+1)).symm) (qJ (ur (j3 _ (AZ k))) _))) (λi hi=>by
   refine rE hl (rE (ll ..) ?_);have h1:(k+1) * (i+1)≤(k+1) * m:=yv _ hi;have h2:(k+1) * m≤B - A+k:=rS hd (ahq _ _)
   replace h1:=(uu ..)▸h1;exact Ly (aF h1 h2))
 refine rS key (rE AX (rE AX ?_));apply Fm;intro i hi;simp only[Ue,ll];have e:(((A:Int)+((k+1:Nat):Int) * (i:Int))).toNat=A+(k+1) * i:=by
  have:(A:Int)+((k+1:Nat):Int) * (i:Int)=((A+(k+1) * i:Nat):Int):=by simp
  refine rE this ?_;rfl
 refine rE e ?_;have hi:=lr.mp hi;have h1:(k+1) * (i+1)≤(k+1) * m:=yv _ hi;have h2:(k+1) * m≤B - A+k:=rS hd (ahq _ _)
 replace h1:=(uu ..)▸h1;refine rE (Km) ?_;refine rE (List.getElem?_take_of_lt (Nat.add_lt_of_lt_sub' (Ly (aF h1 h2)))) ?_;simp
section
open PySem.Builtin PySem.Builtin.Str
theorem LZ{v:ak}{k:Option Int}(h:qK v k):∃p:Option (Int × mZ),partValue p=v∧p.map (·.1)=k:=by
 induction h with
 |none=>exact⟨af,rfl,rfl⟩
 |int i t=>exact⟨aa (i,t),rfl,rfl⟩
set_option tactic.hygienic true in
theorem VZ(x:ah){l:Option Int}(hl:lz l)(u:Option Int):Uh x l u=aj (cut (sL x) l u):=by
 have hc:cut (sL x) l u=((sL x).drop (min (lo l) x.length)).take (min (pL x.length u) x.length - min (lo l) x.length):=by refine rE (y9 ..) ?_;have:=Fi (sL x) (lo l) (pL x.length u);rw[ie]at this ⊢;exact this.symm
 have hi:strSliceIndices l u 1 x.length=(bM (min (pL x.length u) x.length - min (lo l) x.length)).map (λk=>min (lo l) x.length+k):=by have h0:=sliceBounds_plain l u x.length;replace h0:=Fj u▸Fh hl▸h0;have e:strSliceIndices l u 1 x.length=sliceRange (Ed l u af x.length).1 (Ed l u af x.length).2.1 (Ed l u af x.length).2.2:=rfl;refine rE e (rE h0 ?_);exact sliceRange_one _ _
 have hp:(strSliceIndices l u 1 x.length).filterMap (x.cps[·]?)=cut (sL x) l u:=by refine rE hi (rE (pick_run ..) (rE hc ?_));rfl
 unfold Uh;refine rE hp ?_;split
 ·rename_i h;have h:(strSliceIndices l u 1 x.length).length=x.length:=beq_iff_eq.mp (fM.mp h).2;replace h:=qL▸(aQ ..)▸hi▸h;apply wF;apply AR;show sL x=cut (sL x) l u;refine rE hc (rE h ?_);have e1:min (lo l) x.length=0∨x.length=0:=(Nat.eq_zero_or_pos x.length).elim .inr λhn=>.inl (Nat.eq_zero_of_not_pos λhb=>absurd h (iU (ia (yw (ia hn (aF (sG h.symm) (qE ..))) hb) (uo ..))));rcases e1 with e1|e1
  ·exact rE e1 (rE Ko (rS (ie ..) (rE Kk rfl)))
  ·have:sL x=[]:=wG (rE (ie ..) e1);refine rE this ?_;simp
 ·rfl
section
variable{w:cM}
theorem Gv.newList(hb:UB U s){t:cN ak}{vs:Array ak}{xs:List D}(r:aI U s.heap vs.toList xs)
  (h:∀ (Q E:aW),Q (.ref s.heap.objs.size) {s with heap:=s.heap.push (cy vs 0)}→ar (aw prog w) A t Q E s):Gv w A U s t (.list xs):=
 λQ E hQ=>h Q E (hQ _ _ .push (.list (n:=0) (eT _ rfl) hb.new (r.ext (.push (s:=s) (k:=s.toks)))))
theorem Fo{a b:Option Int}{c:Bool}(h:(lz a&&uO b&&c)):lz a∧c:=xA (fM.mp h) λh1 h2=>xA (fM.mp h1) λh0 h1=>⟨h0,h2⟩
theorem V0{i:Int}(h:EV i=aa k):i=Ec (k+1):=by
 unfold EV at h;induction q:decide (0<i)with
 |false=>exact zN (q▸h)
 |true=>replace h:=iJ (q▸h);subst h;have q:=of_decide_eq_true q;show i=((i.toNat - 1+1:Nat):Int);rw[Nat.sub_add_cancel (Int.lt_toNat.mpr q)];exact(Ki (TN q)).symm
theorem V1(hb:UB U s){value slice:au}{vs:Array ak}{xs:List D}{l u st:Option Int}{sl:aE}{vl vu pM:ak}
  (h:Lj xs l u st=aa (d,ae)) (hl:s.heap.get? a=aa (cy vs n)) (r:aI U s.heap vs.toList xs)
  (hs:s.heap.IsSliceOf sl vl vu pM) (pl:qK vl l) (pu:qK vu u) (ps:qK pM st):Gv w A U s (Kh value slice (.ref a) (.ref sl)) d:=by
 have L:s.heap.IsList a vs:=⟨_,hl,rfl,_,rfl⟩;have hz:aX xs.length big→vs.size≤qG:=λh=>by have:=bc h;replace this:=eL▸jg r.length▸this;exact this
 induction st with
 |none=>
  refine xA (W.de h) λe9 hk=>?_;subst e9;refine xA (Fo hk) λh1 h3=>?_;exact .newList hb (vs:=AV vs _ _ af) (rE (LY vs h1) (r.cut _ _)) λQ E hQ=>u3 L.typeIs Kj.lookup
   (Ui L hs pl pu ps (by simp) hQ (hz h3))
 |some i=>
  refine oE h λk h1 h9=>?_;clear h;obtain rfl:=V0 h1;refine xA (W.de h9) λe9 hk=>?_;subst e9;refine xA (Fo hk) λh1 h3=>?_;exact .newList hb (vs:=AV vs _ _ (aa (Ec (k+1)))) (by rw[VY vs h1];exact(r.cut _ _).jI _ _) λQ E hQ=>u3 L.typeIs Kj.lookup
   (Ui L hs pl pu ps (by simp;lia) hQ (hz h3))
theorem L3(hb:UB U s){value slice:au}{a:D}{l u st:Option Int}{sl:aE}{vl vu pM:ak}
  (h:nz a l u st=aa (d,ae)) (ra:Rp U s.heap va a)
  (hs:s.heap.IsSliceOf sl vl vu pM) (pl:qK vl l) (pu:qK vu u) (ps:qK pM st):Gv w A U s (Kh value slice va (.ref sl)) d:=by
 unfold nz at h;induction q:d7 a with
 |some xs=>replace h:=q▸h;obtain rfl:=nF q;refine ic ra.listI λZ Z Z e9 hl r=>?_;subst e9;exact V1 hb h hl r hs pl pu ps
 |none=>
  replace h:=q▸h;refine oE h λx h1 h=>?_;obtain rfl:=kO h1;refine xE ra.cQ λt e9=>?_;subst e9;induction st with
  |some i=>exact zN h
  |none=>
  refine xA (W.de h) λe9 hk=>?_;subst e9;refine xA (Fo hk) λh1 hk=>?_;have hk:=bc hk;replace hk:=(ie ..)▸hk;intro Q E hQ;refine aD (LZ pl) λp e9 e1=>?_;subst e9;refine aD (LZ pu) λq e9 e2=>?_;subst e9;cases ps;refine u3 (Uc s _ _) ahn.lookup (wpAny_getItem_str_slice (l:=p) (u:=q) (st:=af) hs rfl ?_);refine post_val_or_str ⟨?_,λt' k=>?_⟩
  ·have:=aF (Txt.slice_le x (p.map (·.1)) (q.map (·.1))) hk;exact this
  ·refine hQ _ _ .tok ?_;have:=VZ x h1 u;refine rS this (rS e1 (rS e2 ?_));exact Rd.str (Uh x (p.map (·.1)) (q.map (·.1))) t'
end
end
theorem L4(cs:List Char):sI (Ee cs)=aj (cs.map Char.toNat):=by apply wF;show(cpsOfBytes 0 0 (Ee cs).toByteArray.data.toList).toArray=_;refine rE (cpsOfBytes_string ..) ?_;simp[aj]
theorem L5:∀d,d<10→(Nat.digitChar d).toNat=48+d:=by decide
theorem digits_eq:∀ (f n:Nat),n<10^f→0<f→(Ef 10 n).map Char.toNat=uP f n:=by
 intro L0;induction L0 with
 |zero=>intro _ _ h;exact absurd h (qF _)
 |succ f ih=>
  intro n hn _;refine rE (Vq ..) ?_;induction h:aU n 10 with
  |true=>have h:n<10:=bc h;refine rE (ahr h) ?_;simp[L5 n h]
  |false=>
   have h:10≤n:=by apply Uj;intro q;have:aU n 10:=bO q;exact zT (this▸h)
   have e:Ef 10 n=Ef 10 (n/10)++Ef 10 (n%10):=rE (Nat.toDigits_append_toDigits (by decide) (by lia) (by lia)) (rE (ahp ..) rfl)
   have hf:0<f:=by
    induction f using lq with
    |zero=>simp at hn;lia
    |succ f=>exact AZ _
   refine rE e (rE dw ?_);refine rE (ih (n/10) (by replace hn:=(Nat.pow_succ ..)▸hn;lia) hf) (rE (ahr (by lia)) ?_);simp[L5 (n%10) (by lia)]
theorem V2(n:Nat)(h:n<10^20):sI (toString n)=aj (uP 20 n):=by show sI (Nat.repr n)=_;exact rE ahs (rE (L4 ..) (rE (digits_eq 20 n h (by decide)) rfl))
theorem V3(i:Int)(h:i.natAbs<1000000000):sI (toString i)=aj (cQ i):=by
 induction i with
 |ofNat n=>exact V2 n (by simp at h;lia)
 |negSucc n=>
  have h:n+1<1000000000:=h;have e:toString (qD n)=Ee ('-'::Ef 10 (n+1)):=by
   show "-" ++Nat.repr (n+1)=_;refine rE ahs ?_;have:("-" :String)=Ee ['-']:=by decide
   refine rE this (rS String.ofList_append ?_);rfl
  refine rE e (rE (L4 ..) (rE iT (rE (digits_eq 20 (n+1) (by lia) (by decide)) ?_)));rfl
theorem L6:∀ (l:ax) (acc n:Nat),uQ acc l=aa n→l.foldl (λacc c=>acc * 10+(c - 48)) acc=n:=by
 intro l;induction l with
 |nil=>exact λZ Z h=>ir h
 |cons c cs ih=>
  intro acc n h;replace h:=(Ll ..)▸h;induction hc:(aX 48 c&&aX c 57)with
  |false=>exact zN (hc▸h)
  |true=>replace h:=hc▸h;exact ih _ _ h
theorem L7:∀ (l:ax) (acc n:Nat),uQ acc l=aa n→∀c∈l,48≤c∧c≤57:=by
 intro l;induction l with
 |nil=>exact λZ Z Z Z h=>nomatch h
 |cons c cs ih=>
  intro acc n h;replace h:=(Ll ..)▸h;induction hc:(aX 48 c&&aX c 57)with
  |false=>exact zN (hc▸h)
  |true=>replace h:=hc▸h;exact xA (fM.mp hc) λh1 h2 d hd=>(bE.mp hd).elim (λe=>by refine rE e ?_;exact⟨bc h1,bc h2⟩) (ih _ _ h d)
set_option tactic.hygienic true in
theorem V4{l:ax}{i:Int}(h:EW l=aa i)(hl:l.length≤18):PySem.intText? (aj l)=aa i:=by
 have hz:(aj l).length≤4300:=by show l.toArray.size≤4300;refine rE Uk ?_;lia
 unfold EW at h;split at h
 ·exact zN h
 ·rename_i c cs;split at h
  ·rename_i n hn;replace h:=iJ h;subst h;have ha:=L7 _ _ _ hn;have hv:=L6 _ _ _ hn;have:=PySem.intText_neg (x:=aj (45::c::cs)) rfl ha (by simp) hz;refine rE this ?_;congr 2;refine rS hv ?_;rfl
  ·exact zN h
 ·rename_i c cs bQ;split at h
  ·rename_i n hn;replace h:=iJ h;subst h;have ha:=L7 _ _ _ hn;have hv:=L6 _ _ _ hn;have:=PySem.intText_digits (x:=aj (c::cs)) ha (by simp[aj]) hz;refine rE this ?_;congr 1;refine rS hv ?_;rfl
  ·exact zN h
section
open PySem.Builtin PySem.Builtin.Str
theorem L8(sep x y:ax)(r:cP):lA sep (x::y::r)=x++sep++lA sep (y::r):=rfl
theorem V5(sep:ah):∀ (ps:List ah) (acc:Array Nat),(ps.foldl (λacc p=>acc++sep.cps++p.cps) acc).toList=lA (sL sep) (acc.toList::ps.map sL):=by
 intro L0;induction L0 with
 |nil=>intro acc;exact rfl
 |cons p ps ih=>
  intro acc;refine rE sF (rE (ih ..) (rE iT (rE (L8 ..) ?_)));induction ps using bj with
  |nil=>simp[Vr,Vt,Vu,sL]
  |cons q r=>simp[L8,sL]
theorem L9(sep:ah)(ps:List ah):glued sep ps=aj (lA (sL sep) (ps.map sL)):=by
 apply wF;apply AR;unfold glued;induction ps using bj with
 |nil=>rfl
 |cons p ps=>exact V5 sep ps p.cps
theorem V6(l:ax):sL (aj l)=l:=rfl
theorem V7(x:ah):aj (sL x)=x:=rfl
end
section
open PySem.Builtin PySem.Builtin.Str
section
variable{w:cM}
theorem V8{xs:List D}(h:Lo xs=aa (d,ae)):d=.int (xs.length:Int)∧xs.length≤1000000:=by refine xA (W.de h) λe9 hk=>?_;subst e9;exact⟨rfl,bc hk⟩
theorem Ma{a:D}{v:ak}(r:Rp U s.heap v a)(h:sW a=aa (d,ae)):Gv w A U s (call (.builtin "len") [v]) d:=by
 unfold sW at h;induction q:d7 a with
 |some xs=>replace h:=q▸h;obtain rfl:=nF q;refine ic r.listI λZ Z Z e9 hl ra=>?_;subst e9;refine xA (V8 h) λe9 hk=>?_;subst e9;have e:=ra.length;replace e:=eL▸e;rw[← e]at hk ⊢;exact λQ E hQ=>call_len_list ⟨_,hl,rfl,_,rfl⟩ (by lia) (hQ _ _ .tok (.int _ _))
 |none=>replace h:=q▸h;refine oE h ?_;clear h;intro x h1 h;obtain rfl:=kO h1;clear h1;refine xA (W.de h) λe9 hk=>?_;subst e9;have hk:=bc hk;clear h;refine xE r.cQ λZ e9=>?_;subst e9;rw[ie]at hk ⊢;exact λQ E hQ=>PyProof.Rows.len_str (by lia) (hQ _ _ .tok (.int _ _))
theorem V9{a:D}{v:ak}(r:Rd U s.heap v a)(h:E0 a=aa (d,ae)):Gv w A U s (call (.type "str") [v]) d:=by
 unfold E0 at h;induction q:cY a with
 |some i=>
  replace h:=q▸h;obtain rfl:=gh q;refine xA (W.de h) λe9 hk=>?_;subst e9;have hk:i.natAbs<1000000000:=bc hk;refine xE r.iA λZ e9=>?_;subst e9;refine λQ E hQ=>P.str_of_int ?_ (hQ _ _ .tok ?_)
  ·by_cases h0:i.natAbs=0
   ·refine rE h0 ?_;decide+kernel
   ·have:i.natAbs.log2<30:=(Nat.log2_lt h0).mpr (by lia);lia
  ·exact rE (V3 i hk) (.str _ _)
 |none=>
  replace h:=q▸h;refine oE h ?_;clear h;intro b h1 h;obtain rfl:=LD h1;clear h1;cases W.bp h;clear h;obtain rfl:=r.E8;refine λQ E hQ=>P.str_of_bool (hQ _ _ .tok ?_);have e1:sI "True" =Lm:=by decide+kernel
  have e2:sI "False" =Ln:=by decide+kernel
  refine rE e1 (rE e2 ?_);induction b<;>exact .str _ _
theorem Wa{a:D}{v:ak}(r:Rd U s.heap v a)(h:Lp a=aa (d,ae)):Gv w A U s (call (.type "int") [v]) d:=by refine aD (nG h) λx e9 e=>?_;subst e9;clear h;refine oE e λi hi e=>xA (W.de e) λe9 hk=>?_;subst e9;have hk:=bc hk;clear e;refine xE r.cQ λZ e9=>?_;subst e9;have:=V4 hi hk;replace this:=(V7 ..)▸this;exact .int λQ E hQ=>PySem.W.KIN.call_text this (by refine rS (ie ..) ?_;lia) (hQ _)
theorem Wb{a:D}{v:ak}(r:Rd U s.heap v a)(h:yV a=aa (d,ae)):Gv w A U s (call (.builtin "isinstance") [v,.type "int"]) d:=by
 unfold yV at h;induction q:cY a with
 |some x=>replace h:=q▸h;obtain rfl:=gh q;cases W.bp h;refine xE r.iA λZ e9=>?_;subst e9;exact λQ E hQ=>IsiPair.int_int (hQ _ _ (.refl s) (.bool _))
 |none=>replace h:=q▸h;refine oE h ?_;clear h;intro xs h1 h;obtain rfl:=nF h1;clear h1;cases W.bp h;clear h;refine fA r.listI λZ Z Z e9 hl Z Z=>?_;subst e9;exact λQ E hQ=>IsiPair.isList_int (h₀:=s.heap) ⟨_,hl,rfl,_,rfl⟩ (λZ Z e=>e) (hQ _ _ .tok (.bool _))
theorem Wc(a b c:Nat)(f:Nat→Nat):(if a≤c∧c≤b then f c else c)=cond (aX a c&&aX c b) (f c) c:=by
 by_cases h1:a≤c∧c≤b
 ·refine rE (if_pos h1) (rE (bO h1.1) (rE (bO h1.2) ?_));rfl
 ·refine rE (if_neg h1) ?_;induction q:(aX a c&&aX c b)with
  |false=>rfl
  |true=>exact xA (fM.mp q) λq1 q2=>absurd ⟨bc q1,bc q2⟩ h1
theorem Wd(hk:(mi (sL x)&&aX (sL x).length n)):(∀c∈x.cps.toList,c<128)∧x.length≤n:=xA (fM.mp hk) λh1 h2=>⟨λc hc=>bc (fk.mp h1 c hc),by refine rS (ie ..) ?_;exact bc h2⟩
theorem map_len(x:ah)(f:Nat→Nat)(h:x.length≤1000000):decide ((aj ((sL x).map f)).length>qG)=ag:=by
 have:(aj ((sL x).map f)).length=x.length:=rS (ie ..) (rE (V6 ..) (rE (aQ ..) (rE (ie ..) rfl)))
 exact rE this (decide_eq_false (by unfold qG;lia))
theorem Mb{a:D}{v:ak}(r:Rd U s.heap v a)(h:E1 a=aa (d,ae)):Gv w A U s (call (.builtin "str.lower") [v]) d:=by
 refine aD (nG h) λx e9 e=>?_;subst e9;clear h;refine xA (W.de e) λe9 hk=>?_;subst e9;refine xA (Wd hk) λha hz=>xE r.cQ λZ e9=>?_;subst e9;have e:Txt.lower x=aj (da (sL x)):=by refine rE (lower_ascii ha) (wF (AR ?_));show(x.cps.map lo1).toList=da (sL x);exact rE Kp (List.map_congr_left λc Z=>Wc 65 90 c (· +32))
 refine λQ E hQ=>SC.lower ?_ (hQ _ _ .tok ?_)
 ·exact rE e (map_len x _ hz)
 ·exact rE e (.str _ _)
theorem aI.strs{h:aP}:∀ (ds:List D) (vs:List ak) {l:List ah},aI U h vs ds→Bz ds=aa l→StrsAre vs l:=by
 intro ds;induction ds with
 |nil=>intro vs l r e;obtain rfl:=r.sY;replace e:=iJ e;subst e;exact .nil
 |cons d ds ih=>
  intro vs l r e;refine cK r.u0 λZ Z e9 a b=>?_;subst e9
  ·
   refine oE e λx h1 e=>oE e λl' h2 e=>?_;replace e:=iJ e;subst e;obtain rfl:=kO h1;refine xE a.cQ λZ e9=>?_;subst e9;exact .cons _ _ (ih _ b h2)
theorem We(n:Nat):∀ (l:List ah) (acc:Nat),l.foldl (λn' y=>n'+(sL y).length+n) acc=acc+(l.map (·.length)).sum+l.length * n:=by
 intro L0;induction L0 with
 |nil=>intro acc;simp
 |cons y l ih=>intro acc;refine rE sF (rE (ih ..) ?_);simp only[iT,aht,bT,ie,A0];lia
theorem Wf{a b:D}{v u:ak}(r:Rd U s.heap v a)(r':Rd U s.heap u b)(h:E2 a b=aa (d,ae)):Gv w A U s (call (.builtin "str.join") [v,u]) d:=by
 refine aD (nG h) λx e9 e1=>?_;subst e9;clear h;refine aD (y8 e1) λys e9 e2=>?_;subst e9;clear e1;refine oE e2 λl e e3=>xA (W.de e3) λe9 hk=>?_;subst e9;have hk:=bc hk;replace hk:=(ie ..)▸(We ..)▸hk;refine xE r.cQ λZ e9=>?_;subst e9;refine fA r'.listI λZ Z Z e9 hl hn ra=>?_;subst e9
 ·
  refine λQ E hQ=>join_list ⟨_,hl,rfl,_,rfl⟩ (aI.strs _ _ ra e) (by lia) λt' k=>hQ _ _ .tok ?_;show Rd U s.heap (.str (glued x l) t') _;exact rE (L9 ..) (.str _ _)
end
end
section
open PySem.Builtin PySem.Builtin.Str
theorem aI.ints{h:aP}:∀ (ds:List D) (vs:List ak) {l:List Int},aI U h vs ds→By ds=aa l→vs.length=l.length∧∀ (i:Nat) (v:ak),vs[i]? =aa v→∃t,v=Value.int (l.getD i 0) t:=by
 intro ds;induction ds with
 |nil=>intro vs l r e;obtain rfl:=r.sY;replace e:=iJ e;subst e;exact⟨rfl,λi v h=>by exact zN h⟩
 |cons d ds ih=>
  intro vs l r e;refine cK r.u0 λZ Z e9 a b=>?_;subst e9
  ·
   refine oE e λx h1 e=>oE e λl' h2 e=>?_;replace e:=iJ e;subst e;obtain rfl:=gh h1;refine xE a.iA λZ e9=>?_;subst e9;refine xA (ih _ b h2) λi1 i2=>⟨congrArg (· +1) i1,λi v h=>?_⟩;induction i using lq with
   |zero=>replace h:=iJ h;subst h;exact⟨_,rfl⟩
   |succ i=>exact i2 i v h
theorem Wg(f:Nat→Int):∀n,preSum f (n+1)=f 0+preSum (λi=>f (i+1)) n:=by
 intro L0;induction L0 with
 |zero=>simp[preSum]
 |succ n ih=>rewrite[preSum];refine rE ih ?_;rw[preSum];lia
theorem Wh:∀l:List Int,preSum (λi=>l.getD i 0) l.length=uR l:=by
 intro L0;induction L0 with
 |nil=>exact rfl
 |cons x l ih=>refine rE bT (rE (Wg ..) ?_);simp only[List.getD_cons_zero,List.getD_cons_succ];refine rE ih ?_;rfl
theorem Wi{f:Nat→Int}(hf:∀i,(f i).natAbs<1000000000):∀n,(preSum f n).natAbs≤n * 1000000000:=by
 intro L0;induction L0 with
 |zero=>simp[preSum]
 |succ n ih=>rw[preSum];exact aF (Int.natAbs_add_le _ _) (aF (um ih (d4 (hf n))) (sG (A0 n _).symm))
section
variable{w:cM}
set_option tactic.hygienic true in
theorem Wj(R:bW A n){a:D}{v:ak}(r:Rd U s.heap v a)(h:Lq a=aa (d,ae)):Gv w A U s (call (.builtin "sum") [v]) d:=by
 refine aD (y8 h) λxs e9 e1=>?_;subst e9;refine oE e1 λl e e2=>xA (W.de e2) λe9 hk=>?_;subst e9;refine xA (fM.mp hk) λhk rm=>?_;have hlen:l.length<1000000:=bc rm;have jH:∀i,(l.getD i 0).natAbs<1000000000:=λi=>by
  refine rE (m8) ?_;induction q:l[i]? with
  |none=>decide
  |some x=>exact bc (fk.mp hk x (sJ q))
 clear hk rm h e1 e2;refine fA r.listI λ_ _ _ e9 hl hn ra=>?_;subst e9
 ·
   refine xA (aI.ints _ _ ra e) λh1 h2=>?_;intro Q E hQ;rename_i a0 vs _;have L:s.heap.IsList a0 vs:=⟨_,hl,rfl,_,rfl⟩;have eV:=jD hl;refine call_sum_walk (Kq L ⟨_,_,_,_,_,_,λi=>l.getD i 0,rfl,Ul (by exact R.handled) s.heap.objs.size a0 (iU eV) vs,⟨⟨_,eT _ rfl,rfl,rfl⟩,L.at λo e=>jZ _ e⟩,?_,?_,?_,?_⟩)
   ·intro b hb;simp only[A1];simp at hb;rcases hb with rfl|rfl
    ·exact Eg _
    ·exact yx eV
   ·intro i v hv;exact h2 i v (by simpa using hv)
   ·intro j hj;have hj:j<l.length:=by refine rS h1 ?_;simpa using hj
    exact⟨rf (d4 (jH j)) (by decide) (by decide),rf (aF (Wi (f:=λi=>l.getD i 0) jH (j+1)) (Kr _ (aF hj (d4 hlen)))) (by decide) (by decide)⟩
   ·intro h' tk t' j9;have hs:vs.size=l.length:=by refine rS h1 ?_;simp
    refine rE hs (rE (Wh ..) ?_);refine hQ _ _ (.heap λb o e=>j9 b o ?_ (jZ _ e)) (.int _ _);have:=jD e;intro hc;replace this:=dK.mp hc▸this;exact qF _ this
end
end
section
open AutoSeq1 (wpAny_loadPart')
open MeetsSeq3 (plain_eq_loop entry_eq_loop)
noncomputable def za(A:dU)(s:ay)(v u:ak)(b:Bool):Prop:=∀ (prog:yt) (w:cM) (E Q:aW),Q (.bool b) s→ar (aw prog w) A (richCompare .Lt v u) Q E s
theorem Wl{ys:List D}(hi:i≤m)(s7:i≤k)(e1:m - i=0)(e2:k - i=ys.length):(!ys.isEmpty)=decide (m<k):=by
 have em:=A2 (Eh e1) hi;clear e1 s7 hi;subst em;induction ys using bj with
 |nil=>exact(decide_eq_false (pA.mpr (Eh e2))).symm
 |cons y ys=>exact(decide_eq_true (Um e2)).symm
theorem Mc{vs:Array ak}{v:ak}{l:List ak}(e:vs.toList.drop i=v::l):vs[((i:Nat):Int).toNat]? =aa v∧vs.toList.drop (i+1)=l:=by
 constructor
 ·have h:(vs.toList.drop i)[0]? =aa v:=by rw[e];rfl
  rw[Km]at h;exact(AS).symm.trans h
 ·rw[← Ei,e];rfl
theorem Wm{f:D→D→Option Bool}{x:D}{xs ys:List D}{r:Bool}(hr:nB f (x::xs) (y::ys)=aa r):c9 x∧c9 y∧cond (dT x y) (nB f xs ys) (f x y)=aa r:=by
 have hr:cond (c9 x&&c9 y) (cond (dT x y) (nB f xs ys) (f x y)) af=aa r:=hr;induction q1:c9 x with
 |false=>rw[q1]at hr;exact zN hr
 |true=>induction q2:c9 y with
  |false=>rw[q1,q2]at hr;exact zN hr
  |true=>rw[q1,q2]at hr;exact⟨rfl,rfl,hr⟩
inductive Wo(a b:aE)(items jK:Array ak)(n n2:Nat)(U:aY)(f:D→D→Option Bool)(xs ys:List D)(i:Nat)(r:Bool)(A:dU)(R:wH→ay→Prop)(s:ay):Prop
 |mk (hl:s.heap.get? a=aa (cy items n)) (hb:s.heap.get? b=aa (cy jK n2)) (hu:A.units+70<cLine) (hi:i≤items.size) (s7:i≤jK.size) (r1:aI U s.heap (items.toList.drop i) xs) (r2:aI U s.heap (jK.toList.drop i) ys) (hf:∀v u x y r,Rd U s.heap v x→Rd U s.heap u y→f x y=aa r→za A.in1 s v u r) (h:R (.ok (.ret (.bool r))) s)
theorem Wq(a b:aE)(items jK:Array ak)(n n2:Nat)(U:aY)(f:D→D→Option Bool)(xs:List D):∀ (ys:List D) (i:Nat) (r:Bool),nB f xs ys=aa r→
  Meets (qM.«list.__eq__.loop» ⟨[.ref a,.ref b,rawInt i,rawInt 0],[]⟩) (Wo a b items jK n n2 U f xs ys i r):=by
 induction xs with
 |nil=>intro ys i r hr prog w A R s ⟨hl,hb,hu,hi,s7,r1,r2,hf,h⟩;have e1:=r1.length;have e2:=r2.length;rw[uw,eL]at e1 e2;have hd:=Wl hi s7 e1 e2;replace h:=hd▸(iJ hr:(!ys.isEmpty)=r)▸h;have hk:items[((i:Nat):Int).toNat]? =af:=Ks (Eh e1);clear hr hd r1 r2 hf hi s7 hu e1 e2;obtain⟨hp,g,d,tk,os⟩:=s;wp_walk using m9 hl,m9 hb;refine rE hk ?_;cases jK[((i:Nat):Int).toNat]? <;>(wp_walk using m9 hl,m9 hb;exact h)
 |cons x xs ih=>
  intro ys i r hr prog w A R s ⟨hl,hb,hu,hi,s7,r1,r2,hf,h⟩;have e1:=r1.length;have e2:=r2.length;rw[uw,eL]at e1 e2;refine cK r1.u0 λv vs ev rv fB=>xA (Mc ev) λhk d1=>?_;clear r1 ev;have i1:i+1≤items.size:=Um e1;clear e1;induction ys using bj with
  |nil=>replace h:=(iJ hr:ag=r)▸h;have i2:=Eh e2;replace h:=(decide_eq_false (pA.mpr (aF i2 hi)):decide (items.size<jK.size)=ag).symm▸h;have rm:jK[((i:Nat):Int).toNat]? =af:=Ks i2;clear hr ih hf r2 hi s7 hu i1 i2 e2 d1 rv fB;obtain⟨hp,g,d,tk,os⟩:=s;wp_walk using m9 hl,m9 hb;refine rE hk (rE rm ?_);wp_walk using m9 hl,m9 hb;exact h
  |cons y ys=>
   refine cK r2.u0 λu us eu ru Ws=>xA (Mc eu) λrm d2=>?_;have i2:i+1≤jK.size:=Um e2;refine mr (Wm hr) λs1 s2 hr=>?_;clear r2 eu e2 hi s7;refine xE rv.reads λZ qx=>xE ru.reads λZ qy=>?_;have Eq:=λQ E=>SeqAt.eqAt_reads x y A.in1 _ v u _ _ qx qy (Ea s1) (Ea s2) (SeqAt.room_of_shaped s1 (by refine rE (Kv ..) ?_;omega)) prog w Q E;clear qx qy s1 s2;obtain⟨hp,g,d,tk,os⟩:=s;wp_walk using m9 hl,m9 hb;refine rE hk (rE rm ?_);refine aB (Eq _ _ ?_);clear Eq;induction q:dT x y with
   |true=>
    replace hr:=q▸hr;wp_walk;exact⟨plainId_quiet plain_eq_loop _,codeAny_builtin entry_eq_loop (by
     refine rE (ahu plain_eq_loop _) ?_;exact ih ys (i+1) r hr prog w A R _ ⟨hl,hb,hu,i1,i2,d1▸fB,d2▸Ws,hf,h⟩)⟩
   |false=>replace hr:=q▸hr;wp_walk using m9 hl,m9 hb;refine rE hk (rE rm ?_);refine aB (hf v u x y r rv ru hr prog w _ _ ?_);wp_walk;exact h
theorem Wu(a b:aE)(items jK:Array ak)(n n2:Nat)(U:aY)(f:D→D→Option Bool)(xs ys:List D)(r:Bool)(hr:nB f xs ys=aa r):
  Meets (qM.«list.__lt__» ⟨[.ref a,.ref b],[]⟩)
   (λA R s=>s.heap.get? a=aa (cy items n)∧s.heap.get? b=aa (cy jK n2)∧A.units+70<cLine∧aI U s.heap items.toList xs∧aI U s.heap jK.toList ys∧
    (∀v u x y r,Rd U s.heap v x→Rd U s.heap u y→f x y=aa r→za A.in1 s v u r)∧R (.ok (.ret (.bool r))) s):=by
 intro prog w A R s h;obtain⟨hp,g,d,tk,os⟩:=s;obtain⟨hl,hb,hu,r1,r2,hf,h⟩:=h;have f3:=AutoSeq1.sub_list_list;wp_walk using m9 hl,m9 hb;exact⟨plainId_quiet plain_eq_loop _,codeAny_builtin entry_eq_loop (by
  refine rE (ahu plain_eq_loop _) ?_;exact Wq a b items jK n n2 U f xs ys 0 r hr prog w A R _ ⟨hl,hb,hu,eo _,eo _,r1,r2,hf,h⟩)⟩
theorem Wv{f:D→D→Option Bool}{xs ys:List D}{v u:ak}{r:Bool}(hu:A.units+70<cLine)(h:nB f xs ys=aa r)(rv:Rd U s.heap v (.list xs))(ru:Rd U s.heap u (.list ys))
  (hf:∀v u x y r,Rd U s.heap v x→Rd U s.heap u y→f x y=aa r→za A.in1 s v u r):
  s.TypeIs v "list" ∧s.TypeIs u "list" ∧∀ (prog:yt) (w:cM) (E Q:aW),Q (.bool r) s→ar (aw prog w) A (call (.builtin "list.__lt__") [v,u]) Q E s:=by
 refine fA rv.listI λa vs m e9 ha Z ra=>?_;subst e9;refine fA ru.listI λb us k e9 hb Z rb=>?_;subst e9;have ta:s.TypeIs (.ref a) "list" :=⟨_,ha,rfl⟩;exact⟨ta,⟨_,hb,rfl⟩,λprog w E Q hQ=>D9 Un ta F.entry_list_lt (F.args_list_lt_2 _ _) (Wu a b vs us m k U f xs ys r h) ⟨ha,hb,hu,ra,rb,hf,by simpa[wants]using hQ⟩⟩
theorem Ww(n:Nat):∀ {A:dU}{U:aY}{s:ay}{x y:D}{v u:ak}{r:Bool},A.units+72+n<cLine→ltN n x y=aa r→Rd U s.heap v x→Rd U s.heap u y→
  za A s v u r∧∀ (prog:yt) (w:cM) (E:aW) (Q:Bool→ay→Prop),Q r s→ar (aw prog w) A (keyLt' oneType' v u) Q E s:=by
 have ii:∀ {A:dU}{U:aY}{s:ay}{x y:D}{v u:ak}{r:Bool},ltI x y=aa r→Rd U s.heap v x→Rd U s.heap u y→
   za A s v u r∧∀ (prog:yt) (w:cM) (E:aW) (Q:Bool→ay→Prop),Q r s→ar (aw prog w) A (keyLt' oneType' v u) Q E s:=by
  intro A U s x y v u r h rv ru;refine oE h λi h1 g=>aD (sM.mp g) λj h2 e9=>?_;subst e9;obtain rfl:=gh h1;obtain rfl:=gh h2;refine xE rv.iA λZ e9=>?_;subst e9;refine xE ru.iA λZ e9=>?_;subst e9;exact⟨λprog w E Q h=>ahm h,λprog w E Q h=>oneLt_int h⟩
 induction n with
 |zero=>exact λZ h rv ru=>ii h rv ru
 |succ n ih=>
  intro A U s x y v u r hu h rv ru;have h:(match d7 x with|some xs=>(d7 y).bind λys=>nB (ltN n) xs ys|none=>ltI x y)=aa r:=h;induction q:d7 x with
  |none=>replace h:=q▸h;exact ii h rv ru
  |some xs=>replace h:=q▸h;refine oE h λys h1 g=>?_;obtain rfl:=nF h1;obtain rfl:=nF q;clear h h1 q;obtain⟨ta,tb,c⟩:=Wv (A:=A) (by lia) g rv ru λv u x y r rv ru h=>(ih (by refine rE (Kv ..) ?_;lia) h rv ru).1;refine⟨λprog w E Q hQ=>wpAny_richCompare_same_room ta tb Un (c prog w _ _ ⟨(nomatch ·),hQ⟩) (by lia),λprog w E Q hQ=>?_⟩;refine rE (keyLt'_oneType ..) (rE (oneLt'_eq ..) (rE (if_pos rfl) ?_));exact aB (wpAny_cRoomFor (by lia) (aB (wpAny_callSpecialIfBound?_slot ta Un (c prog w _ _ (lu hQ)))))
end
section
open PySem.W
section
variable{w:cM}
theorem Wx{f:Nat→Nat→Option Bool}{cmp:Nat→Nat→(Bool→ay→Prop)→ay→Prop}(hf:∀i j b,f i j=aa b→∀C:Bool→ay→Prop,C b s→cmp i j C s){p:α}{Q:α→ay→Prop}(hQ:Q p s)(t:KasT α):ml f t=aa p→t.kasWp cmp Q s:=by
 induction t with
 |ret a=>intro h;replace h:=iJ h;subst h;exact hQ
 |ask i j k ih=>intro h;exact oE (h:(f i j).bind _=_) λb h1 h=>hf i j b h1 _ (ih b h)
theorem Wy{P:Fin→ay→Prop}(ho:s.heap.get? a=aa (kI "list" vs.toArray n))(xa:vs.length<64){out:List ak}(h1:vs.length<2→out=vs)
  (h2:2≤vs.length→∀s':ay,(∀b o,b≠a→s.heap.get? b=aa o→s'.heap.get? b=aa o)→(∀ (Q:SortKind→ay→Prop) (E:aW),Q oneType' s'→ar (aw prog w) A (keyKind' vs.toArray) Q E s')∧
   ∃p:Array Nat,out=(p.toList.map λi=>vs.getD i uy)∧∀G:Array Nat→ay→Prop,G p s'→(kas_sort vs.length).kasWp (kas_ask prog w A oneType' vs) G s')
  (h:P (.done (.ret .none)) {s with heap:=sortedHeap s.heap a vs out.toArray}):ar (aw prog w) A (qM.«list.sort» ⟨[.ref a],[]⟩) P E s:=by
 refine rE (list_sort_plain ..) ?_;have ha:a<s.heap.objs.size:=jD ho;refine aB (listItems_at ho rfl ?_);refine aB (Uo ho rfl ?_);obtain⟨e1,BG⟩:∃e1,(s.heap.update a (uz λZ=> #[])).get? a=aa (kI "list" #[] e1):=⟨_,get?_update_seq ho (λZ=> #[])⟩;refine aB (Uq BG rfl ?_);refine aB (Ej ?_);refine aB (wI ?_);refine ji ?_;have BH:(((s.heap.update a (uz λZ=> #[])).push (kI "tuple" vs.toArray 0)).push (kI "list" #[] 0)).get? a=aa (kI "list" #[] e1):=by refine rE (Kw _ _ _ (by rw[size_push',Ur];exact iU (yx ha))) ?_;refine rE (Kw _ _ _ (rE (Ur ..) (iU ha))) ?_;exact BG
 show ar (aw prog w) A _ P E {s with heap:=((s.heap.update a (uz λZ=> #[])).push (kI "tuple" vs.toArray 0)).push (kI "list" #[] 0)};dsimp only;have eY:vs.toArray.size=vs.length:=by simp
 by_cases hn:vs.toArray.size<2
 ·refine rE (if_pos hn) (rE (if_pos hn) ?_);refine aB (bz ?_);refine rE (StateT.run_pure ..) (aB (bz ?_));dsimp only;refine aB (Uq BH rfl ?_);refine aB (Uo BH rfl ?_ (hsz2:=by refine rE Array.size_map ?_;show(pairsOf vs).size≤_;refine rE (pairsOf_size ..) ?_;refine rE lx ?_;omega));simp only[bne_self_eq_false,yy,if_false];replace h:=(h1 (eY▸hn))▸h;refine bz ?_;have e:(arrOf (SortSt.mk' general' (vs.toArray.zip vs.toArray) #[] 7 af)).map (·.2)=vs.toArray:=by apply Kx.mp;show(((vs.toArray.zip vs.toArray)).map (·.2)).toList=vs.toArray.toList;refine rE Kp (rE Array.toList_zip ?_);exact List.map_snd_zip (bZ _)
  exact(λo (q:o=vs.toArray)=>by subst q;exact h:∀o,o=vs.toArray→P (.done (.ret .none)) {s with heap:=sortedHeap s.heap a vs o}) _ e
 ·refine rE (if_neg hn) (rE (if_neg hn) ?_);have Md:2≤vs.length:=by omega
  clear eY ha h1 ho;obtain⟨k1,p,rfl,k2⟩:=h2 Md {s with heap:=((s.heap.update a (uz λZ=> #[])).push (kI "tuple" vs.toArray 0)).push (kI "list" #[] 0)} λb o n e=>
   jZ _ (jZ _ ((ahv _ _ _ _ n).trans e))
  refine aB (k1 _ _ ?_);refine aB (ib (kat_run (Q:=λkc s'=>arrOf kc=p.map (kas_item (vs.toArray.zip vs.toArray))∧p.size=vs.length∧failedOf kc=af∧s'={s with heap:=((s.heap.update a (uz λZ=> #[])).push (kI "tuple" vs.toArray 0)).push (kI "list" #[] 0)}) (G:=λq s'=>q=p∧s'=_)
   rfl Md xa (λp' kc s' a1 a2 a3 a4=>by refine xA a4 λe9 bC=>?_;subst e9;subst bC;exact⟨a2,a1,a3,rfl⟩) (k2 _ ⟨rfl,rfl⟩)) ?_ λZ Z e=>e)
  rintro ⟨⟨⟩,kc⟩ s' ⟨Wz,hp,hf,rfl⟩
  have s8:=kat_snds rfl Wz;dsimp only at s8 ⊢;refine aB (Uq BH rfl ?_);refine rE s8 (aB (Uo BH rfl ?_ (hsz2:=by refine rE Uk ?_;refine rE (aQ ..) ?_;refine rE eL ?_;refine rE hp ?_;refine rE lx ?_;omega)));refine rE hf ?_;simp only[bne_self_eq_false,yy,if_false];exact bz h
theorem Me(hl:s.heap.IsList l vs.toArray)(xa:vs.length<64){out:List ak}(h1:vs.length<2→out=vs)
  (h2:2≤vs.length→∀s':ay,(∀b o,s.heap.get? b=aa o→s'.heap.get? b=aa o)→(∀ (Q:SortKind→ay→Prop) (E:aW),Q oneType' s'→ar (aw prog w) A.in1.in1 (keyKind' vs.toArray) Q E s')∧
   ∃p:Array Nat,out=(p.toList.map λi=>vs.getD i uy)∧∀G:Array Nat→ay→Prop,G p s'→(kas_sort vs.length).kasWp (kas_ask prog w A.in1.in1 oneType' vs) G s')
  (h:Q (.ref (s.heap.objs.size+1)) {s with heap:=sortedAll s.heap vs out.toArray}):ar (aw prog w) A (call (.builtin "sorted") [.ref l]) Q E s:=by
 refine Calls.call_function_entry kind_sorted plain_sorted entry_sorted (args_sorted1 _) ?_;unfold qM.«sorted»;refine aB (m:=checkCount "sorted" 1 1 _) (bz ?_);refine aB (collect_list hl ?_ (by refine rE lx ?_;omega));refine aB (wI ?_ (by refine rE lx ?_;omega));have eY:((s.heap.push (kI "list" #[] 0)).update s.heap.objs.size (uz (· ++vs.toArray))).objs.size=s.heap.objs.size+1:=rE (Ur ..) (rE (size_push' ..) rfl)
 have zb:(((s.heap.push (kI "list" #[] 0)).update s.heap.objs.size (uz (· ++vs.toArray))).push (kI "list" vs.toArray 0)).get? (s.heap.objs.size+1)=aa (kI "list" vs.toArray 0):=rS eY (eT _ rfl)
 show ar _ _ _ _ _ {s with heap:=((s.heap.push (kI "list" #[] 0)).update s.heap.objs.size (uz (· ++vs.toArray))).push (kI "list" vs.toArray 0)};refine rE eY (aB (ji (yz slot_list_sort ⟨_,zb,rfl⟩ entry_list_sort (Wy zb xa h1 (λn2 s' hk=>h2 n2 s' λb o e=>?_) ⟨_,rfl,?_⟩) (args_list_sort _))))
 ·have eV:b<s.heap.objs.size:=jD e;refine hk b o (iU (yx eV)) (rE (Kw _ _ _ (rE eY (iU (yx eV)))) ?_);refine rE (ahv _ _ _ _ (iU eV)) ?_;refine rE (Kw _ _ _ (iU eV)) ?_;exact e
 ·exact bz ⟨_,rfl,h⟩
end
section
variable{w:cM}
theorem WA{h:aP}:∀ {xs:List D}{vs:List ak},aI U h vs xs→xs.all (λx=>(cY x).isSome)→∀v∈vs,∃i t,v=.int i t:=by
 intro xs vs r;refine r.ind (P:=λvs xs=>xs.all (λx=>(cY x).isSome)→∀v∈vs,∃i t,v=.int i t) (λZ Z h=>nomatch h) λv vs d ds rv Z ih h u hu=>xA (fM.mp (show((cY d).isSome&&ds.all _) from h)) λh1 h2=>?_;rcases bE.mp hu with rfl|hu
 ·refine xE (Ek.mp h1) λi q=>?_;clear h1 h r;obtain rfl:=gh q;exact⟨i,rv.iA⟩
 ·exact ih h2 u hu
theorem WB{h:aP}:∀ {xs:List D}{vs:List ak},aI U h vs xs→xs.all (λx=>(d7 x).isSome)→∀v∈vs,∃a o,v=.ref a∧h.get? a=aa o∧o.cls=.type "list" :=by
 intro xs vs r;refine r.ind (P:=λvs xs=>xs.all (λx=>(d7 x).isSome)→∀v∈vs,∃a o,v=.ref a∧h.get? a=aa o∧o.cls=.type "list") (λZ Z h=>nomatch h) λv vs d ds rv Z ih h u hu=>xA (fM.mp (show((d7 d).isSome&&ds.all _) from h)) λh1 h2=>?_;rcases bE.mp hu with rfl|hu
 ·refine xE (Ek.mp h1) λi q=>?_;clear h1 h r;obtain rfl:=nF q;clear q xs;refine ic rv.listI λa Z Z e9 e Z=>?_;subst e9;exact⟨a,_,rfl,e,rfl⟩
 ·exact ih h2 u hu
theorem aI.getD{h:aP}{xs:List D}(r:aI U h vs xs)(i:Nat):Rd U h (vs.getD i .none) (xs.getD i .none):=by
 refine rE (m8) ?_;refine rE (m8) ?_;induction q:xs[i]? with
 |none=>refine rE (Us (r.length▸List.getElem?_eq_none_iff.mp q)) ?_;exact .none
 |some d=>exact aD (r.get q) λv e rv=>rE e rv
theorem aI.picked{h:aP}{xs:List D}(r:aI U h vs xs)(l:ax):aI U h (l.map λi=>vs.getD i .none) (l.map λi=>xs.getD i .none):=by
 induction l with
 |nil=>exact .nil
 |cons i l ih=>exact .cons (r.getD i) ih
theorem WC(R:bW A n)(hb:UB U s){a:D}{v:ak}(r:Rd U s.heap v a)(h:uT a=aa (d,ae)):Gv w A U s (call (.builtin "sorted") [v]) d:=by
 refine oE h λxs h1 g=>?_;obtain rfl:=nF h1;clear h1 h;refine fA r.listI λl vs m e9 hl Z ra=>?_;subst e9;have hlen:=ra.length;have L:s.heap.IsList l vs.toList.toArray:=⟨_,hl,rfl,_,rfl⟩;have fin:∀ {ys:List D}{out:List ak},aI U s.heap out ys→∀ {Q:aW},(∀v s',Ext s s'→Rd U s'.heap v (.list ys)→Q v s')→Q (.ref (s.heap.objs.size+1)) {s with heap:=sortedAll s.heap vs.toList out.toArray}:=λ{ys out} ro {Q} hQ=>by refine xE (sortedAll_at s.heap vs.toList out.toArray) λe he=>?_;have x:Ext s {s with heap:=sortedAll s.heap vs.toList out.toArray}:=.heap λb o q=>sortedAll_old q;exact hQ _ _ x (.list he (λhu=>by refine xE (hb _ hu) λo q=>?_;exact absurd (jD q) (by lia)) (ro.ext x))
 induction q:aX xs.length 1 with
 |true=>replace g:=q▸g;refine xA (W.de g) λe9 Z=>?_;subst e9;have:=bc q;exact λQ E hQ=>Me L (by lia) (λZ=>rfl) (λh2=>by lia) (fin ra hQ)
 |false=>
  replace g:=q▸g;refine oE (g:(ml _ _).bind _=_) λp hp h=>xA (W.de h) λe9 hk=>?_;subst e9;clear g h;have n1:¬vs.toList.length<2:=λh=>by exact zT (bO (by lia:xs.length≤1)▸q)
  refine xA (fM.mp hk) λhk k3=>xA (fM.mp hk) λk1 k2=>?_;have k1:xs.length<64:=bc k1;have hu:=R.units;refine λQ E hQ=>Me (out:=p.toList.map λi=>vs.toList.getD i .none) L (by lia) (λh=>absurd h n1) (λh2 s' hk=>⟨λQ' E' hq=>?_,p,rfl,λG hG=>?_⟩) (fin (ra.picked _) hQ)
  ·rcases TU.mp k3 with k3|k3
   ·refine kas_kind (T:=.type "int") h2 (λv hv=>?_) (by decide) (by decide) hq;refine lD (WA ra k3 v hv) λi t e9=>?_;subst e9;exact .of_pure rfl
   ·refine kas_kind (T:=.type "list") h2 (λv hv=>?_) (by decide) (by decide) hq;refine cK (WB ra k3 v hv) λa o e9 e ec=>?_;subst e9;exact rS ec ((Looks.ld (hk _ _ e)).andThen .now)
  ·have e:vs.toList.length=xs.length:=hlen;refine rE e (Wx (λi j b hb C hC=>?_) hG _ hp);refine oE hb λx hx hb=>oE hb λy hy hb=>?_;have gd:∀ {i x},xs[i]? =aa x→Rd U s'.heap (vs.toList.getD i .none) x:=λ{i x} hx=>by
    have e:xs.getD i .none=x:=by refine rE (m8) ?_;refine rE hx ?_;rfl
    exact e▸(ra.getD i).mono (λb o Z e=>hk b o e) λZ Z Z n=>n
   exact(Ww 2 (by refine rE (Kv ..) (rE (Kv ..) ?_);lia) hb (gd hx) (gd hy)).2 prog w _ _ hC
end
end
structure Cx where
 names:List ah
 fns:List ah
 mw:List Nat
 s9:List Nat
 bH:List (ah × Int)
 Fp:List Nat
noncomputable def aZ(x:ah):List ah→Option Nat
 | []=>af
 |y::r=>cond (sEq y x) (aa 0) ((aZ x r).map λi=>i+1)
theorem Mf(x y:ah)(r:List ah):aZ x (y::r)=bif sEq y x then aa 0 else Option.map (λi=>i+1) (aZ x r):=rfl
noncomputable def aV(x:ah):List (ah × eC)→Option eC
 | []=>af
 | (y,k)::r=>cond (sEq y x) (aa k) (aV x r)
theorem Mg(x y:ah)(k:eC)(r:cT):aV x ((y,k)::r)=bif sEq y x then aa k else aV x r:=rfl
noncomputable def d8:Option eC→Bool
 |some .local=>ae
 |some .cell=>ae
 |some .free=>ae
 |_=>ag
noncomputable def dz:Option eC→Bool
 |some .local=>ae
 |some .cell=>ae
 |_=>ag
noncomputable def eZ:Option eC→Bool
 |some .globalImplicit=>ae
 |_=>ag
noncomputable def rp(x:ah):List (ah × Int)→Option Int
 | []=>af
 | (y,k)::r=>cond (sEq y x) (aa k) (rp x r)
theorem WD(x y:ah)(k:Int)(r:gO):rp x ((y,k)::r)=bif sEq y x then aa k else rp x r:=rfl
noncomputable def xc(x:ah):List (ah × Int)→Bool
 | []=>ag
 | (y,_)::r=>cond (sEq y x) ae (xc x r)
theorem WE(x y:ah)(k:Int)(r:gO):xc x ((y,k)::r)=bif sEq y x then ae else xc x r:=rfl
noncomputable def Mh:wD→Option mc
 | .Add=>aa .add| .Sub=>aa .sub| .Mult=>aa .mul| .FloorDiv=>aa .fdiv| .Mod=>aa .mod| .Pow=>aa .pow| .RShift=>aa .shr| .BitAnd=>aa .band
 |_=>af
noncomputable def Mi:kH→Option uK
 | .Eq=>aa .eq| .NotEq=>aa .ne| .Lt=>aa .lt| .LtE=>aa .le| .Gt=>aa .gt| .GtE=>aa .ge| .In=>aa .isin| .NotIn=>aa .iy
 |_=>af
noncomputable def Mj(c:Const):Option D:=match c with
 | .none=>aa .none
 | .bool b=>aa (.bool b)
 | .int i=>aa (.int i)
 | .str s=>aa (.str s)
 |_=>af
noncomputable def has(i:Nat):List Nat→Bool
 | []=>ag
 |j::r=>cond (az j i) ae (has i r)
theorem WG(i:Nat):has i []=ag:=rfl
theorem Mk(i j:Nat)(r:ax):has i (j::r)=bif az j i then ae else has i r:=rfl
noncomputable def bf.len:bf→Nat
 | .nil=>0
 | .cons _ es=>es.len+1
noncomputable def bf.isNil:bf→Bool
 | .nil=>ae
 | .cons _ _=>ag
noncomputable def bf.c1(es:bf):Option RE:=match es with
 | .nil=>af
 | .cons a r=>cond r.isNil (aa a) af
noncomputable def bf.c2(es:bf):Option (RE × RE):=match es with
 | .nil=>af
 | .cons a r=>r.c1.bind λb=>aa (a,b)
noncomputable def kP{α:Type}(l:List α):Option α:=match l with
 | []=>af
 |a::r=>cond r.isEmpty (aa a) af
noncomputable def zc{α:Type}(l:List α):Option (α × α):=match l with
 | []=>af
 |a::r=>(kP r).bind λb=>aa (a,b)
noncomputable def Fq:RE→bf→RE
 |e,.nil=>e
 |e,.cons e' es=>.and e (Fq e' es)
noncomputable def Fs:RE→bf→RE
 |e,.nil=>e
 |e,.cons e' es=>.or e (Fs e' es)
noncomputable def cBool(op:BoolOp)(rs:bf):Option RE:=match rs with
 | .nil=>af
 | .cons e es=>match op with
  | .And=>aa (Fq e es)
  | .Or=>aa (Fs e es)
set_option genCtorIdx false in
inductive V where
 |const (c:Const) (k:Nat) (p:aO)
 |name (x:ah) (p:aO)
 |bin (l:au) (o:wD) (r:au) (p:aO)
 |bool (o:BoolOp) (es:List au) (p:aO)
 |BI (c a b:au) (p:aO)
 |cmp (l:au) (ops:List kH) (es:List au) (p:aO)
 |list (es:List au) (p:aO)
 |tup (es:List au) (k:Nat) (p:aO)
 |comp (e:au) (gs:List sE) (sc:m4) (p:aO)
 |call (f:au) (args:List au) (iB:List El) (p:aO)
 |attr (o:au) (m:ah) (p:aO)
 |sub (a i:au) (p:aO)
 |slice (l h s:Option au) (p:aO)
 |dict (ks:List (Option au)) (vs:List au) (p:aO)
 |BJ (o:UnaryOp) (a:au) (p:aO)
 |other
noncomputable def V.ctorIdx(x:V):Nat:=V.casesOn (motive:=λZ=>Nat) x (λZ Z Z=>0) (λZ Z=>1) (λZ Z Z Z=>2) (λZ Z Z=>3) (λZ Z Z Z=>4) (λZ Z Z Z=>5) (λZ Z=>6) (λZ Z Z=>7) (λZ Z Z Z=>8) (λZ Z Z Z=>9) (λZ Z Z=>10) (λZ Z Z=>11) (λZ Z Z Z=>12) (λZ Z Z=>13) (λZ Z Z=>14) 15
noncomputable def view(e:au):V:=match e with
 | .Constant c k p=>.const c k p
 | .Name x p=>.name x p
 | .BinOp l o r p=>.bin l o r p
 | .BoolOp o es p=>.bool o es p
 | .IfExp c a b p=>.BI c a b p
 | .Compare l ops es p=>.cmp l ops es p
 | .List es p=>.list es p
 | .Tuple es k p=>.tup es k p
 | .ListComp e gs sc p=>.comp e gs sc p
 | .Call f args iB p=>.call f args iB p
 | .Attribute o m p=>.attr o m p
 | .Subscript a i p=>.sub a i p
 | .Slice l h s p=>.slice l h s p
 | .Dict ks vs p=>.dict ks vs p
 | .UnaryOp o a p=>.BJ o a p
 |_=>.other
noncomputable def V.un(v:V):Option au:=match v with
 | .const c k p=>aa (.Constant c k p)
 | .name x p=>aa (.Name x p)
 | .bin l o r p=>aa (.BinOp l o r p)
 | .bool o es p=>aa (.BoolOp o es p)
 | .BI c a b p=>aa (.IfExp c a b p)
 | .cmp l ops es p=>aa (.Compare l ops es p)
 | .list es p=>aa (.List es p)
 | .tup es k p=>aa (.Tuple es k p)
 | .comp e gs sc p=>aa (.ListComp e gs sc p)
 | .call f args iB p=>aa (.Call f args iB p)
 | .attr o m p=>aa (.Attribute o m p)
 | .sub a i p=>aa (.Subscript a i p)
 | .slice l h s p=>aa (.Slice l h s p)
 | .dict ks vs p=>aa (.Dict ks vs p)
 | .BJ o a p=>aa (.UnaryOp o a p)
 | .other=>af
theorem WH(e:au):view e=.other∨(view e).un=aa e:=by
 induction e using uA<;>first|exact .inr rfl|exact .inl rfl
theorem dM{e e':au}{v:V}(h:view e=v)(h':v.un=aa e'):e=e':=by
 rcases WH e with q|q
 ·replace q:=h▸q;exact zN (q▸h')
 ·replace q:=h'▸h▸q;exact(ir q).symm
noncomputable def tc(v:V):Option ah:=match v with| .name x _=>aa x|_=>af
noncomputable def zd(v:V):Option (List au):=match v with| .tup es _ _=>aa es|_=>af
theorem xd{e:au}(h:tc (view e)=aa x):∃p,e=.Name x p:=by
 induction q:view e<;>replace h:=q▸h<;>first|exact zN h|skip
 replace h:=iJ h;subst h;exact⟨_,dM q rfl⟩
theorem BK{e:au}(h:zd (view e)=aa es):∃k p,e=.Tuple es k p:=by
 induction q:view e<;>replace h:=q▸h<;>first|exact zN h|skip
 replace h:=iJ h;subst h;exact⟨_,_,dM q rfl⟩
noncomputable def Ft:List (D × D)→Option (List (ah × Int))
 | []=>aa []
 |p::r=>(dD p.1).bind λx=>(cY p.2).bind λi=>(Ft r).bind λl=>cond (xc x l) af (aa ((x,i)::l))
noncomputable def BL(v:V):Option (List (ah × Int)):=match v with
 | .dict ks vs _=>(litPairs ks vs).bind λl=>(Ft l).bind λt=>cond (!t.isEmpty&&aX t.length 15) (aa t) af
 |_=>af
noncomputable def WI(c:Const):Bool:=match c with| .none=>ae|_=>ag
noncomputable def Fu(e:au):Bool:=match view e with| .const c _ _=>WI c|_=>ag
noncomputable def rq:ah:=aj [108,101,110]
noncomputable def lF:ah:=aj [115,116,114]
noncomputable def rr:ah:=aj [105,110,116]
noncomputable def xe:ah:=aj [115,117,109]
noncomputable def ze:ah:=aj [115,111,114,116,101,100]
noncomputable def oO:ah:=aj [105,115,105,110,115,116,97,110,99,101]
noncomputable def rt:ah:=aj [114,97,110,103,101]
noncomputable def Fv:ah:=aj [106,111,105,110]
noncomputable def zf:ah:=aj [103,101,116]
noncomputable def pN:ah:=aj [103,101,116,95,97,108,108]
noncomputable def nH:ah:=aj [105,116,101,109,115]
noncomputable def rz:ah:=aj [107,101,121,115]
noncomputable def zg:ah:=("EXACT_TOKEN_TYPES" :ah)
noncomputable def u4:ah:=("_iter_escaped_chars" :ah)
noncomputable def distinct:List (ah × eC)→Bool
 | []=>ae
 | (x,_)::r=>cond (match aV x r with|some _=>ae|none=>ag) ag (distinct r)
theorem WJ(y:ah)(k:eC)(r:cT):distinct ((y,k)::r)=bif match aV y r with|some val=>ae|none=>ag then ag else distinct r:=rfl
noncomputable def fD(names:List ah):List (ah × eC)→List Nat
 | []=>[]
 | (x,k)::r=>match dz (aa k),aZ x names with
  |true,aa i=>i::fD names r
  |_,_=>fD names r
theorem WK(names:List ah)(y:ah)(k:eC)(r:cT):fD names ((y,k)::r)=match dz (aa k),aZ y names with|true,aa i=>i::fD names r|x,gM=>fD names r:=rfl
noncomputable def freeOk(out:cT):List (ah × eC)→Bool
 | []=>ae
 | (x,k)::r=>match k with
  | .free=>cond (match aV x out with|some .cell=>ae|some .free=>ae|_=>ag) (freeOk out r) ag
  | .local=>freeOk out r
  | .cell=>freeOk out r
  | .globalImplicit=>freeOk out r
  |_=>ag
noncomputable def ke:jl→List Nat
 | .one i=>[i]
 | .two i j=>[i,j]
noncomputable def kQ:kK→List Nat
 | .nil=>[]
 | .cons t _ _ gs=>ke t++kQ gs
noncomputable def Fw(i:Int):Bool:=decide (i=0)
noncomputable def zh:List Nat→Bool
 | []=>ae
 |i::r=>cond (has i r) ag (zh r)
theorem WL(j:Nat)(r:ax):zh (j::r)=bif has j r then ag else zh r:=rfl
noncomputable def zi(l:ax):List Nat→Bool
 | []=>ae
 |i::r=>cond (has i l) (zi l r) ag
theorem WM(l:ax)(j:Nat)(r:ax):zi l (j::r)=bif has j l then zi l r else ag:=rfl
noncomputable def cH(a b:aO):Bool:=az a.endLine b.line
noncomputable def nI:au→Bool
 | .Starred _ _=>ae
 |_=>ag
noncomputable def Ml(v:V):Bool:=match v with
 | .name _ _=>ae
 | .const _ _ _=>ae
 | .call f _ _ _=>(match view f with| .attr _ _ _=>ae|_=>ag)
 | .sub _ _ _=>ae
 |_=>ag
noncomputable def recv(e:au):Bool:=Ml (view e)
noncomputable abbrev KS:=List (ah × eC)
noncomputable def kR(f:au→Option RE):List au→Option bf
 | []=>aa .nil
 |e::es=>(f e).bind λr=>(kR f es).bind λrs=>aa (.cons r rs)
noncomputable def cO(f:au→Option RE)(o:Option au):Option RO:=match o with
 |none=>aa .none
 |some e=>(f e).bind λr=>aa (.some r)
noncomputable def Fx(f:au→Option RE):List kH→List au→Option mf
 | [],es=>cond es.isEmpty (aa .nil) af
 |op::ops,es=>match es with
  | []=>af
  |e::es=>(Mi op).bind λo=>(f e).bind λr=>(Fx f ops es).bind λcs=>aa (.cons o r cs)
noncomputable def isNotIn(o:kH):Bool:=match o with| .NotIn=>ae|_=>ag
noncomputable def WN(o:UnaryOp)(a:V)(r:Option RE):Option RE:=match o with
 | .Not=>r.bind λr=>aa (.not r)
 | .USub=>(match a with| .const c _ _=>(match c with| .int i=>aa (.lit (.int (-i)))|_=>af)|_=>af)
 |_=>af
noncomputable def WO(o:kH):Bool:=match o with| .Is=>ae|_=>ag
noncomputable def Fy(ops:List kH)(es:List au):Bool:=(match kP ops with|some o=>WO o|none=>ag)&&(match kP es with|some e=>Fu e|none=>ag)
noncomputable def isFun(k:ScopeKind):Bool:=match k with| .function=>ae|_=>ag
noncomputable def BM(f:ah):Option (Prim × Nat):=
 cond (sEq f lF) (aa (.str,1)) (cond (sEq f rr) (aa (.int,1)) (cond (sEq f xe) (aa (.sum,1)) (cond (sEq f ze) (aa (.sorted,1)) af)))
noncomputable def Fz(m:ah):Option (Prim × Nat):=
 cond (sEq m Fv) (aa (.join,1)) af
noncomputable def FA(es:bf):Option RI:=match es.c1 with
 |some a=>aa (.dy a)
 |none=>es.c2.bind λp=>aa (.range p.1 p.2)
noncomputable def pO(ks:KS)(nm:ah)(e:au):Bool:=match tc (view e)with
 |some x=>sEq x nm&&eZ (aV x ks)
 |none=>ag
noncomputable def cI(f:au→Option RE)(ks:KS)(it:au):Option RI:=match view it with
 | .call g args iB _=>(tc (view g)).bind λx=>cond iB.isEmpty (cond (sEq x rt&&eZ (aV x ks)) ((kR f args).bind FA)
   (cond (sEq x u4&&eZ (aV x ks)) ((kR f args).bind λes=>es.c1.bind λa=>aa (.gen a)) af)) af
 |_=>af
noncomputable def zj(f:au→Option RE)(ks:KS)(it:au):Option RI:=match cI f ks it with
 |some r=>aa r
 |none=>(f it).bind λr=>aa (.data r)
noncomputable def FD(r:Option RE)(m:ah)(es:bf):Option RE:=r.bind λr=>(Fz m).bind λp=>cond (az es.len p.2) (aa (.prim p.1 (.cons r es))) af
noncomputable def FE(h:Nat)(m:ah)(es:bf):Option RE:=
 cond (sEq m pN) (es.c1.bind λk=>aa (.jH h k)) (cond es.isNil (cond (sEq m nH) (aa (.oI h)) (cond (sEq m rz) (aa (.mh h)) af)) af)
section
variable(X:Cx)
noncomputable def kT(ks:KS)(e:au):Option Nat:=(tc (view e)).bind λx=>cond (dz (aV x ks)) (aZ x X.names) af
noncomputable def jo(ks:KS)(e:au):Option jl:=match kT X ks e with
 |some i=>aa (.one i)
 |none=>(zd (view e)).bind λes=>(zc es).bind λp=>(kT X ks p.1).bind λi=>(kT X ks p.2).bind λj=>cond (az i j) af (aa (.two i j))
noncomputable def nameId(ks:KS)(e:au):Option Nat:=(tc (view e)).bind λx=>cond (d8 (aV x ks)) (aZ x X.names) af
noncomputable def td(ks:KS)(x:ah):Option RE:=
 cond (d8 (aV x ks)) ((aZ x X.names).bind λi=>aa (.var i)) (cond (eZ (aV x ks)) ((rp x X.bH).bind λi=>aa (.gl x i)) af)
noncomputable def Mm(ks:KS)(ops:List kH)(es:List au):Option Nat:=(kP ops).bind λo=>cond (isNotIn o) ((kP es).bind λe=>(nameId X ks e).bind λv=>cond (has v X.Fp) (aa v) af) af
noncomputable def Mn(ks:KS)(args:List au)(es:bf):Option RE:=(kP args).bind λa=>match nameId X ks a with
 |some v=>aa (.bL v)
 |none=>aa (.prim .len es)
noncomputable def Mo(ks:KS)(f:ah)(args:List au)(es:bf):Option RE:=
 cond (eZ (aV f ks)) (match aZ f X.fns with
  |some i=>aa (.call i es)
  |none=>cond (sEq f rq) (Mn X ks args es) ((BM f).bind λp=>cond (az es.len p.2) (aa (.prim p.1 es)) af)) af
noncomputable def FF(ks:KS)(o:au)(r:Option RE)(m:ah)(es:bf):Option RE:=match nameId X ks o with
 |some h=>cond (has h X.s9) (FE h m es) (cond (has h X.Fp&&sEq m zf) (es.c2.bind λp=>aa (.wZ h p.1 p.2)) (FD r m es))
 |none=>cond (pO ks zg o&&sEq m zf) (es.c2.bind λp=>aa (.tok p.1 p.2)) (FD r m es)
noncomputable def xf(ks:KS)(a:au)(ra:Option RE)(i:RE):Option RE:=match nameId X ks a with
 |some v=>aa (.aG v i)
 |none=>ra.bind λra=>aa (.sub ra i)
section
variable(F:KS→au→Option RE)
noncomputable def FG(ks:KS):List sE→Option kK
 | []=>aa .nil
 |g::gs=>(jo X ks g.target).bind λt=>(zj (F ks) ks g.iter).bind λit=>(kR (F ks) g.ifs).bind λifs=>(FG ks gs).bind λgs=>cond (Fw g.is_async) (aa (.cons t it ifs gs)) af
noncomputable def FH(out ks:KS)(gs:List sE)(elt:au):Option RE:=match gs with
 | []=>af
 |g::gs=>(F ks elt).bind λelt=>(jo X ks g.target).bind λt=>(zj (F out) out g.iter).bind λit=>(kR (F ks) g.ifs).bind λifs=>(FG X F ks gs).bind λgs=>
   cond (Fw g.is_async&&(zh (ke t++kQ gs)&&zi (fD X.names ks) (ke t++kQ gs))) (aa (.comp (fD X.names ks) t it ifs gs elt)) af
noncomputable def BN(ks:KS)(args:List au):Option RE:=(zc args).bind λp=>(F ks p.1).bind λa=>cond (pO ks rr p.2) (aa (.prim .md (.cons a .nil))) af
noncomputable def Mp(ks:KS)(args:List au)(p:aO)(v:V):Option RE:=match v with
 | .name x _=>cond (sEq x oO&&eZ (aV x ks)) (BN F ks args) ((kR (F ks) args).bind λes=>Mo X ks x args es)
 | .attr o m ap=>(kR (F ks) args).bind λes=>cond (recv o&&cH ap p&&aX es.len 20) (FF X ks o (F ks o) m es) af
 |_=>af
noncomputable def Mq(ks:KS)(a sl:au)(v:V):Option RE:=match v with
 | .slice l h s _=>(cO (F ks) l).bind λl=>(cO (F ks) h).bind λh=>(cO (F ks) s).bind λs=>match nameId X ks a with
  |some i=>aa (.cw i l h s)
  |none=>(F ks a).bind λa=>aa (.slice a l h s)
 |_=>(F ks sl).bind λi=>xf X ks a (F ks a) i
noncomputable def cV(ks:KS)(v:V):Option RE:=match v with
 | .const c _ _=>(Mj c).bind λd=>aa (.lit d)
 | .name x _=>td X ks x
 | .bin l op r _=>(F ks l).bind λa=>(Mh op).bind λo=>(F ks r).bind λb=>aa (.bin o a b)
 | .bool op es _=>(kR (F ks) es).bind λrs=>cBool op rs
 | .BI c a b _=>(F ks c).bind λc=>(F ks a).bind λa=>(F ks b).bind λb=>aa (.ite c a b)
 | .cmp l ops es _=>(F ks l).bind λa=>cond (Fy ops es) (aa (.uL a)) (match Mm X ks ops es with|some v=>aa (.uM a v)|none=>(Fx (F ks) ops es).bind λcs=>aa (.cmp a cs))
 | .list es _=>(kR (F ks) es).bind λrs=>cond (aX rs.len 1000) (aa (.list rs)) af
 | .tup es _ _=>(kR (F ks) es).bind λrs=>cond (aX rs.len 1000) (aa (.tup rs)) af
 | .comp elt gs sc _=>cond (distinct sc.names&&freeOk ks sc.names&&isFun sc.kind) (FH X F ks sc.names gs elt) af
 | .call f args iB p=>cond iB.isEmpty (Mp X F ks args p (view f)) af
 | .BJ o a _=>WN o (view a) (F ks a)
 | .sub a sl _=>Mq X F ks a sl (view sl)
 |_=>af
end
noncomputable def cE:Nat→KS→au→Option RE:=λn=>Ka (λZ Z=>af) (λZ F ks e=>cV X F ks (view e)) n
end
mutual
noncomputable def dA:RE→List Nat
 | .var i=>[i]
 | .bin _ a b=>dA a++dA b
 | .and a b=>dA a++dA b
 | .or a b=>dA a++dA b
 | .ite c a b=>dA c++(dA a++dA b)
 | .cmp a cs=>dA a++Mr cs
 | .uL a=>dA a
 | .not a=>dA a
 | .slice a l h s=>dA a++(xg l++(xg h++xg s))
 | .sub a i=>dA a++dA i
 | .aG _ i=>dA i
 | .cw _ l h s=>xg l++(xg h++xg s)
 | .list es=>pP es
 | .tup es=>pP es
 | .comp _ _ it ifs gs elt=>FJ it++(pP ifs++(Ms gs++dA elt))
 | .call _ es=>pP es
 | .prim _ es=>pP es
 | .tok k d=>dA k++dA d
 | .jH _ k=>dA k
 | .lit _=>[]
 | .gl _ _=>[]
 | .bL _=>[]
 | .wZ _ k d=>dA k++dA d
 | .uM k _=>dA k
 | .mh _=>[]
 | .oI _=>[]
noncomputable def pP:bf→List Nat
 | .nil=>[]
 | .cons e es=>dA e++pP es
noncomputable def Mr:mf→List Nat
 | .nil=>[]
 | .cons _ e cs=>dA e++Mr cs
noncomputable def Ms:kK→List Nat
 | .nil=>[]
 | .cons _ it ifs gs=>FJ it++(pP ifs++Ms gs)
noncomputable def FJ:RI→List Nat
 | .data e=>dA e
 | .dy b=>dA b
 | .range a b=>dA a++dA b
 | .gen e=>dA e
noncomputable def xg:RO→List Nat
 | .none=>[]
 | .some e=>dA e
end
noncomputable def only(ms:ax):List Nat→List Nat
 | []=>[]
 |i::r=>cond (has i ms) (i::only ms r) (only ms r)
noncomputable def FK(ms:ax)(s:RS):RS:=match ms with
 | []=>s
 |i::r=>.fz (i::r) s
noncomputable def wrap(ms:ax)(rd:ax)(s:RS):RS:=FK (only ms rd) s
noncomputable def isAdd(o:wD):Bool:=match o with| .Add=>ae|_=>ag
noncomputable def zk(e:au):Bool:=match view e with
 | .list _ _=>ae
 | .bin _ o _ _=>isAdd o
 |_=>ag
noncomputable def BO(e:au):Bool:=match view e with
 | .list es _=>es.isEmpty
 |_=>ag
noncomputable def mx:ah:=aj [72,101,97,100,101,114,115]
noncomputable def u7:ah:=aj [97,112,112,101,110,100]
noncomputable def FL:ah:=aj [105,110,115,101,114,116]
noncomputable def BP:ah:=aj [101,120,116,101,110,100]
noncomputable def my:ah:=("ValueError" :ah)
noncomputable def rA:ah:=aj [97,100,100,95,104,101,97,100,101,114]
noncomputable def FN(o:wD):Option mc:=match o with
 | .Add=>aa .add
 | .Sub=>aa .sub
 |_=>af
noncomputable def FP(s:a9):Option au:=match s with| .Expr v _=>aa v|_=>af
noncomputable def Mt(s:a9):Option au:=match s with| .If c _ o _=>cond o.isEmpty (aa c) af|_=>af
noncomputable def BQ(e:au):Option (au × List au × aO):=match view e with| .call f args iB p=>cond iB.isEmpty (aa (f,args,p)) af|_=>af
noncomputable def FQ(e:au):Option (au × ah × aO):=match view e with| .attr o m p=>aa (o,m,p)|_=>af
noncomputable def zl(e:au):Option (au × ah × List au):=(BQ e).bind λc=>(FQ c.1).bind λa=>cond (cH a.2.2 c.2.2) (aa (a.1,a.2.1,c.2.1)) af
noncomputable def isNe(o:kH):Bool:=match o with| .NotEq=>ae|_=>ag
noncomputable def FR(e:au):Option (au × au):=match view e with| .cmp l ops es _=>(kP ops).bind λo=>cond (isNe o) ((kP es).bind λr=>aa (l,r)) af|_=>af
noncomputable def te:ah:= "Control characters not allowed in headers"
noncomputable def FT(e:au):Bool:=match view e with| .const c _ _=>(match c with| .str m=>sEq m te|_=>ag)|_=>ag
noncomputable def FU(e:RE):bf:=match e with| .tup rs=>rs|_=>.nil
noncomputable def isLit(e:RE):Bool:=match e with| .lit _=>ae|_=>ag
noncomputable def FV(es:bf):Bool:=match es.c1 with|some e=>(match (FU e).c2 with|some q=>isLit q.1&&isLit q.2|none=>ag)|none=>ag
section
variable(X:Cx)(F:KS→au→Option RE)(ks:KS)
noncomputable def zm(e:au):Bool:=match view e with
 | .call f args iB _=>args.isEmpty&&(iB.isEmpty&&pO ks mx f)
 |_=>ag
noncomputable def rB:List au→Option (List Nat)
 | []=>aa []
 |e::r=>(kT X ks e).bind λi=>(rB r).bind λis=>cond (has i is) af (aa (i::is))
noncomputable def FW:List au→Option (List RT)
 | []=>aa []
 |e::r=>(FW r).bind λts=>cond (BO e) (aa (.nA::ts)) (cond (zm ks e) (aa (.jm::ts)) (match BL (view e)with|some kvs=>aa (.fO kvs::ts)|none=>(F ks e).bind λr=>aa (.val r::ts)))
noncomputable def zo:List RT→List Nat
 | []=>[]
 |t::r=>match t with
  | .val e=>dA e++zo r
  | .nA=>zo r
  | .fO _=>zo r
  | .jm=>zo r
noncomputable def BR(v:au):Option (Nat × Nat × bf):=match view v with
 | .call f args iB _=>(tc (view f)).bind λx=>cond (iB.isEmpty&&eZ (aV x ks)) ((aZ x X.fns).bind λi=>(zc args).bind λp=>(F ks p.1).bind λr=>(nameId X ks p.2).bind λh=>cond (has h X.s9) (aa (i,h,.cons r .nil)) af) af
 |_=>af
noncomputable def FX(t v:au):Option RS:=match kT X ks t with
 |some i=>cond (has i X.s9) (cond (zm ks v) (aa (.jm i)) af) (match BR X F ks v with
  |some q=>aa (wrap X.mw (pP q.2.2) (.qW i q.1 q.2.1 q.2.2))
  |none=>(F ks v).bind λe=>aa (wrap X.mw (dA e) (cond (has i X.mw&&zk v) (.own i e) (.asg i e))))
 |none=>(zd (view t)).bind λts=>(rB X ks ts).bind λis=>match zd (view v)with
  |some es=>(FW F ks es).bind λrs=>cond (az is.length rs.length&&(aX rs.length 100&& !(es.all (constantsAlone 8)&& !(es.all (foldedForSure 8))))) (aa (wrap X.mw (zo rs) (.mul is rs))) af
  |none=>(F ks v).bind λe=>aa (wrap X.mw (dA e) (.uS is e))
noncomputable def FY(v:Nat)(m:ah)(es:bf):Option RS:=cond (sEq m u7) (es.c1.bind λa=>aa (.app v a)) (cond (sEq m BP) (es.c1.bind λa=>aa (.ext v a))
 (cond (sEq m FL) (es.c2.bind λq=>aa (.ins v q.1 q.2)) af))
noncomputable def Mu(o:au)(m:ah)(es:bf):Option RS:=cond (sEq m u7&&FV es) ((zl o).bind λc=>cond (c.2.2.isEmpty&&sEq c.2.1 nH) ((nameId X ks c.1).bind λv=>aa (.yT v)) af) af
noncomputable def WQ(o:au)(m:ah)(args:List au):Option RS:=(kR (F ks) args).bind λes=>match nameId X ks o with
 |some v=>(FY v m es).bind λs=>aa (wrap X.mw (pP es) s)
 |none=>Mu X ks o m es
noncomputable def Mw(v:au):Option RS:=(zl v).bind λc=>WQ X F ks c.1 c.2.1 c.2.2
noncomputable def isLocal(x:ah):Bool:=match aV x ks with|some k=>(match k with| .local=>ae|_=>ag)|none=>ag
noncomputable def BS(b:List a9):Option ah:=(kP b).bind λs=>(Mt s).bind λc=>(FR c).bind λq=>cond (FT q.2) ((BQ q.1).bind λc=>cond (pO ks lF c.1) ((kP c.2.1).bind λa=>tc (view a)) af) af
noncomputable def Mx(eh:Ky):Bool:=match eh with
 | .ExceptHandler ty nm hb _=>(match ty with
  |some ty=>(match nm with
   |some nm=>pO ks my ty&&(isLocal ks nm&&((aZ nm X.names).isNone&&((!sEq nm ("__debug__" :ah))&&(match BS ks hb with|some y=>sEq y nm|none=>ag))))
   |none=>ag)
  |none=>ag)
noncomputable def WR(o:au)(args:List au)(o2:au)(WS:List au):Option RS:=(nameId X ks o).bind λh=>(kR (F ks) args).bind λes=>es.c2.bind λkv=>(nameId X ks o2).bind λi=>
 (kR (F ks) WS).bind λMy=>My.c1.bind λa=>aa (wrap X.mw (pP es++dA a) (.yU h kv.1 kv.2 i a))
noncomputable def WT(s1 s2:a9):Option RS:=(FP s1).bind λv=>(zl v).bind λc=>(FP s2).bind λv2=>(zl v2).bind λc2=>cond (sEq c.2.1 rA&&sEq c2.2.1 u7) (WR X F ks c.1 c.2.2 c2.1 c2.2.2) af
noncomputable def Mz(b:List a9)(hs:List Ky):Option RS:=(zc b).bind λq=>(kP hs).bind λeh=>cond (Mx X ks eh) (WT X F ks q.1 q.2) af
noncomputable def zp(f:a9→Option RS):List a9→Option bP
 | []=>aa .nil
 |s::ss=>(f s).bind λr=>(zp f ss).bind λrs=>aa (.cons r rs)
noncomputable def MA(G:List a9→Option bP)(s:a9):Option RS:=match s with
 | .Assign ts v _=>(kP ts).bind λt=>FX X F ks t v
 | .AugAssign t op v _=>(kT X ks t).bind λi=>(FN op).bind λo=>(F ks v).bind λe=>aa (wrap X.mw (dA e) (.aug i o e))
 | .Expr v _=>Mw X F ks v
 | .If c a b _=>(F ks c).bind λr=>(G a).bind λa=>(G b).bind λb=>aa (wrap X.mw (dA r) (.ite r a b))
 | .For t it body orelse _=>cond orelse.isEmpty ((jo X ks t).bind λt=>(zj (F ks) ks it).bind λit=>(G body).bind λb=>aa (wrap X.mw (FJ it) (.loop t it b))) af
 | .Try b hs e f _=>cond (e.isEmpty&&f.isEmpty) (Mz X F ks b hs) af
 | .Return v _=>v.bind λe=>(F ks e).bind λr=>aa (FK X.mw (.ret r))
 |_=>af
noncomputable def MB(n:Nat):a9→Option RS:=Ka (λZ=>af) (λZ f=>MA X F ks (zp f)) n
noncomputable def BU(ks:KS)(b:List a9):Option bP:=zp (MB X (cE X 30) ks 12) b
end
section
structure Kt where
 w:cM
 X:Cx
 tk:List (ah × Int)
 mg:ah→Option ak
 mb:ah→Option ak
 fo:Nat→Option (aE × px)
 hc:aE
 fr:aE→fJ→Prop
 me:Option (bF × List (bF × pB))
noncomputable def tf:List (ah × Int)→ah→Option Int
 | [],_=>af
 | (k,v)::r,x=>cond (sEq k x) (aa v) (tf r x)
theorem FZ(x k:ah)(v:Int)(r:gO):tf ((k,v)::r) x=bif sEq k x then aa v else tf r x:=rfl
noncomputable def xh(tk:gO):List (D × D):=tk.map λp=>(.str p.1,.int p.2)
structure bU(K:Kt):Prop where
 nm:∀x i,aZ x K.X.names=aa i→(x == ("__debug__" :ah))=ag∧(x == ("__classdict__" :ah))=ag
 nf:∀x i,aZ x K.X.fns=aa i→(x == ("__debug__" :ah))=ag
 nl:∀x i,rp x K.X.bH=aa i→(x == ("__debug__" :ah))=ag
 fm:∀x i,aZ x K.X.fns=aa i→∃a fd,K.fo i=aa (a,fd)∧K.mg x=aa (.ref a)
 gi:∀x i,rp x K.X.bH=aa i→∃t,K.mg x=aa (.int i t)
 len:K.mg rq=af∧K.mb rq=aa (.builtin "len")
 str:K.mg lF=af∧K.mb lF=aa (.type "str")
 int:K.mg rr=af∧K.mb rr=aa (.type "int")
 sum:K.mg xe=af∧K.mb xe=aa (.builtin "sum")
 sorted:K.mg ze=af∧K.mb ze=aa (.builtin "sorted")
 ve:K.mg my=af∧K.mb my=aa (.type "ValueError")
 u9:K.mg oO=af∧K.mb oO=aa (.builtin "isinstance")
 range:K.mg rt=af∧K.mb rt=aa (.type "range")
inductive BV(U:aY)(h:aP)(cd:ak)(q:ah):Prop
 |mk (c:aE) (o:fJ) (vs:Array ak) (t:mZ) (e1:cd=.ref c) (e2:¬U c) (e3:h.get? c=aa o) (e4:o.data=.fields vs) (e5:vs[1]? =aa (.str q t))
theorem BV.MD{h:aP}{cd:ak}{q:ah}(x:BV U h cd q):h.CodeRec cd q:=by obtain⟨c,o,vs,t,e,_,r,r1,r2⟩:=x;exact⟨c,o,vs,t,e,r,r1,r2⟩
noncomputable def nJ(w:cM)(U:aY)(h:aP)(v:ak)(kvs:gO):Prop:=∃a,v=.ref a∧¬U a∧TabAt (wJ prog w) uB h a (xh kvs)
theorem nJ.mono{w:cM}{h:aP}{v:ak}{kvs:gO}(x:nJ w U h v kvs)(hk:∀a o,¬U a→h.get? a=aa o→h'.get? a=aa o)(hu:∀a o,h.get? a=aa o→¬U a→¬U' a):nJ w U' h' v kvs:=by obtain⟨a,e1,e2,e3,l,⟨o,es,ep,ho,q⟩,e5⟩:=x;exact⟨a,e1,hu _ _ ho e2,e3,l,⟨o,es,ep,hk _ _ e2 ho,q⟩,e5⟩
section
variable(K:Kt)
structure br(U:aY)(h:aP):Prop where
 ng:h.Ns gp K.mg
 ug:¬U gp
 nb:h.Ns jE K.mb
 ub:¬U jE
 fo:∀i a fd,K.fo i=aa (a,fd)→∃o,h.get? a=aa o∧¬U a∧o.data=.func fd∧BV U h fd.code fd.qualname
 tok:∃v,K.mg zg=aa v∧nJ K.w U h v K.tk
 lim:h.NoLimit
 ul:¬U cStatics
 iV:∀a o,K.fr a o→h.get? a=aa o∧¬U a
end
theorem yA.stays{h:aP}{m:gy}(x:h.Ns a m)(u:¬U a)(hk:∀a o,¬U a→h.get? a=aa o→h'.get? a=aa o):h'.Ns a m:=
 fy x λo es ep ho r=>⟨o,es,ep,hk _ _ u ho,r⟩
variable{K:Kt}
theorem br.mono{h:aP}(g:br K U h)(hk:∀a o,¬U a→h.get? a=aa o→h'.get? a=aa o)(hu:∀a o,h.get? a=aa o→¬U a→¬U' a):br K U' h' where
 ng:=yA.stays g.ng g.ug hk
 ug:=fy g.ng λo Z Z e Z=>hu _ o e g.ug
 nb:=yA.stays g.nb g.ub hk
 ub:=fy g.nb λo Z Z e Z=>hu _ o e g.ub
 fo:=λi a fd e=>by obtain⟨o,ho,ua,hd,c,oc,vs,t,e1,e2,e3,e4,e5⟩:=g.fo i a fd e;exact⟨o,hk _ _ ua ho,hu _ _ ho ua,hd,c,oc,vs,t,e1,hu _ _ e3 e2,hk _ _ e2 e3,e4,e5⟩
 tok:=aD g.tok λv e q=>⟨v,e,q.mono hk hu⟩
 lim:=aD g.lim λm e1 e2=>⟨m,yA.stays e1 g.ul hk,e2⟩
 ul:=aD g.lim λZ n Z=>fy n λo Z Z e Z=>hu _ o e g.ul
 iV:=λa o e=>xA (g.iV a o e) λp q=>⟨hk a o q p,hu a o p q⟩
theorem br.ext(x:Ext s s')(g:br K U s.heap):br K U s'.heap:=g.mono (λa o Z e=>x.keep a o e) λZ Z Z n=>n
noncomputable def dg(ks:cT)(env:bF):Prop:=∀x k,aV x ks=aa k→env.kindOf x=aa k∨(k=.free∧env.kindOf x=aa .cell)
noncomputable def fQ(env:bF)(h:aP)(x:ah)(v:ak):Prop:=
 (env.kindOf x=aa .local∧∃m,h.Ns env.locals m∧m x=aa v)∨
 ((env.kindOf x=aa .cell∨env.kindOf x=aa .free)∧∃c,env.cells.lookup x=aa c∧h.IsCell c (aa v))
theorem fQ.ext{v:ak}(e:Ext s s')(r:fQ env s.heap x v):fQ env s'.heap x v:=by
 rcases r with⟨k,m,n,e1⟩| ⟨k,c,e1,e2⟩
 ·exact .inl ⟨k,m,n.keeps e.keep,e1⟩
 ·exact .inr ⟨k,c,e1,e2.keeps e.keep⟩
noncomputable def pairD(p:ah × ah):D:=.tuple [.str p.1,.str p.2]
structure WU(hc:aE)(U:aY)(h:aP)(a l:aE)(t:d6)(o:fJ)(d:aE)(m:gy)(vs:Array ak)(n:Nat):Prop where
 e2:h.get? a=aa o
 e3:o.cls=.ref hc
 e4:o.dict=aa d
 e5:∀c,o.data≠.cls c
 e6:¬U a
 e7:h.Ns1 d m
 e8:¬U d
 e9:d≠a
 mz:m ("_headers" :ah)=aa (.ref l)
 zq:∀x,x≠("_headers" :ah)→m x=af
 jL:h.get? l=aa (cy vs n)
 tj:aI U h vs.toList (t.map pairD)
noncomputable def dO(hc:aE)(U:aY)(h:aP)(a l:aE)(t:d6):Prop:=∃o d m vs n,WU hc U h a l t o d m vs n
theorem dO.mono{hc:aE}{h:aP}{t:d6}(x:dO hc U h a l t)(hk:∀a o,¬U a→h.get? a=aa o→h'.get? a=aa o)(hu:∀a o,h.get? a=aa o→¬U a→¬U' a)
  (hl:∀vs n,h.get? l=aa (cy vs n)→h'.get? l=aa (cy vs n)):dO hc U' h' a l t:=by
 exact uZ x λo d m vs n x=>fy x.e7 λoo es ep f1 f2=>⟨o,d,m,vs,n,hk _ _ x.e6 x.e2,x.e3,x.e4,x.e5,hu _ _ x.e2 x.e6,⟨oo,es,ep,hk _ _ x.e8 f1,f2⟩,hu _ _ f1 x.e8,x.e9,x.mz,x.zq,hl _ _ x.jL,x.tj.mono hk hu⟩
noncomputable def iW(hc:aE)(U:aY)(h:aP)(v:ak)(t:d6):Prop:=
 ∃a l,v=.ref a∧dO hc U h a l t
theorem iW.ext{hc:aE}{v:ak}{t:d6}(x:Ext s s')(r:iW hc U s.heap v t):iW hc U s'.heap v t:=gz r λa l e1 r=>⟨a,l,e1,r.mono (λa o Z e=>x.keep a o e) (λZ Z Z n=>n) λZ Z e=>x.keep _ _ e⟩
noncomputable def kg(K:Kt)(U:aY)(h:aP)(hs:Hs)(v:ak):bA→Prop
 | .val d=>Rd U h v d
 | .own xs=>∃a vs n,v=.ref a∧h.get? a=aa (cy vs n)∧aI U h vs.toList xs
 | .cU i=>∃t,hs[i]? =aa t∧iW K.hc U h v t
 | .fO kvs=>nJ K.w U h v kvs
theorem kg.ext{K:Kt}{v:ak}(x:Ext s s')(r:kg K U s.heap hs v sl):kg K U s'.heap hs v sl:=by
 induction sl with
 |val d=>exact Rd.ext x r
 |own xs=>exact ic r λa vs n e1 e3 e4=>⟨a,vs,n,e1,x.keep _ _ e3,e4.ext x⟩
 |cU i=>exact aD r λt e1 e2=>⟨t,e1,e2.ext x⟩
 |fO l=>exact r.mono (λa o Z e=>x.keep a o e) λZ Z Z n=>n
structure jq(U:aY)(env:bF)(h:aP):Prop where
 loc:U env.locals∧∃m,h.Ns env.locals m
 fR:∀x c,env.cells.lookup x=aa c→U c∧∃v,h.IsCell c v
 inj:∀x y c,env.cells.lookup x=aa c→env.cells.lookup y=aa c→x=y
 has:∀x,env.kindOf x=aa .cell∨env.kindOf x=aa .free→∃c,env.cells.lookup x=aa c
theorem jq.ext(x:Ext s s')(f:jq U env s.heap):jq U env s'.heap:=
 ⟨lE f.loc λa m n=>⟨a,m,n.keeps x.keep⟩,λy c e=>lE (f.fR y c e) λa v i=>⟨a,v,i.keeps x.keep⟩,f.inj,f.has⟩
variable(K)
structure bJ(U:aY)(env:bF)(hs:Hs)(ρ:aM)(s:ay):Prop where
 bH:br K U s.heap
 ub:UB U s
 kind:env.scope.kind=.function
 gl:env.globals=gp
 bi:env.builtins=jE
 bu:jq U env s.heap
 vars:∀x i sl,aZ x K.X.names=aa i→get ρ i=aa sl→d8 (env.kindOf x)→∃v,fQ env s.heap x v∧kg K U s.heap hs v sl
variable{K}
theorem bJ.ext(x:Ext s s')(e:bJ K U env hs ρ s):bJ K U env hs ρ s' where
 bH:=e.bH.ext x
 ub:=e.ub.ext x
 kind:=e.kind
 gl:=e.gl
 bi:=e.bi
 bu:=e.bu.ext x
 vars:=λy i sl a b c=>aD (e.vars y i sl a b c) λv p q=>⟨v,p.ext x,q.ext x⟩
theorem nK(k:dg ks env)(h:d8 (aV x ks)):d8 (env.kindOf x):=by
 induction q:aV x ks with
 |none=>replace h:=q▸h;exact zF h
 |some kd=>
  rcases k x kd q with e| ⟨_,e⟩
  ·exact rE e (rS q h)
  ·refine rE e ?_;rfl
theorem lG(k:dg ks env)(h:eZ (aV x ks)):env.kindOf x=aa .globalImplicit:=by
 induction q:aV x ks with
 |none=>replace h:=q▸h;exact zF h
 |some kd=>
  replace h:=q▸h;induction kd<;>first|cases h|skip
  rcases k x _ q with e| ⟨e,_⟩
  ·exact e
  ·cases e
theorem bJ.read(O:bU K)(I:bJ K U env hs ρ s)(hi:aZ x K.X.names=aa i)(hg:get ρ i=aa sl)(hk:d8 (env.kindOf x))(hQ:∀v,kg K U s.heap hs v sl→Q v s):ar (aw prog K.w) A (eval (.Name x pos) env) Q E s:=by
 refine aD (I.vars x i sl hi hg hk) λv hv hs'=>yB ?_ (O.nm x i hi).1;rcases hv with⟨k,m,n,e⟩| ⟨k|k,c,e1,e2⟩
 ·exact wK I.kind k n e (hQ v hs')
 ·exact A3 I.kind k e1 e2 (hQ v hs')
 ·exact A4 I.kind k e1 e2 (hQ v hs') (O.nm x i hi).2
theorem bJ.global(I:bJ K U env hs ρ s){v:ak}(hk:env.kindOf x=aa .globalImplicit)(hv:K.mg x=aa v)(hn:(x == ("__debug__" :ah))=ag)
  (hQ:Q v s):ar (aw prog K.w) A (eval (.Name x pos) env) Q E s:=by
 refine Kz I.kind hk (loadGlobal_global (mg:=K.mg) (rE I.gl I.bH.ng) hv hQ) hn
theorem bJ.builtin(I:bJ K U env hs ρ s){v:ak}(hk:env.kindOf x=aa .globalImplicit)(hv:K.mg x=af∧K.mb x=aa v)(hn:(x == ("__debug__" :ah))=ag)
  (hQ:Q v s):ar (aw prog K.w) A (eval (.Name x pos) env) Q E s:=by
 refine Kz I.kind hk (ahw (mg:=K.mg) (mb:=K.mb) (rE I.gl I.bH.ng) hv.1 (rE I.bi I.bH.nb) hv.2 hQ) hn
theorem F1(h:jJ ρ i=aa d):∃sl,get ρ i=aa sl∧∀ {K:Kt}{U:aY}{h:aP}{hs:Hs}{v:ak},kg K U h hs v sl→Rp U h v d:=by
 unfold jJ at h;induction q:nC ρ i with
 |some xs=>replace h:=iJ (q▸h);subst h;exact⟨_,BE q,λ⟨a,vs,n,r⟩=>.inr ⟨xs,a,vs,n,rfl,r⟩⟩
 |none=>replace h:=q▸h;exact⟨_,E9 h,.inl⟩
end
theorem xi{e:RE}{x:D}(hx:ev tk C hs e ρ=aa (x,ae)):eD tk C hs (.cons e .nil) ρ=aa ([x],ae):=by show W.bind (ev tk C hs e ρ) _=_;refine rE hx ?_;rfl
theorem BW{e f:RE}{x:D}(hx:ev tk C hs e ρ=aa (x,ae))(hy:ev tk C hs f ρ=aa (y,ae)):eD tk C hs (.cons e (.cons f .nil)) ρ=aa ([x,y],ae):=by show W.bind (ev tk C hs e ρ) (λx=>W.bind (eD tk C hs (.cons f .nil) ρ) λxs=>W.ret (x::xs))=_;refine rE hx (rE (xi hy) ?_);rfl
theorem eE{y:ah}(h:sEq x y):x=y:=sEq_iff.mp h
theorem cj{o:Option α}{x:α}(h:cond b o af=aa x):b=ae∧o=aa x:=by induction b with|true=>exact⟨rfl,h⟩|false=>exact zN h
theorem cg{a:Bool}(h:(a&&b)):a∧b:=by replace h:=(j0 ..)▸h;exact h
theorem WV:Fv=("join" :ah):=by decide
theorem nM:(rq == ("__debug__" :ah))=ag∧(lF == ("__debug__" :ah))=ag∧(rr == ("__debug__" :ah))=ag∧(xe == ("__debug__" :ah))=ag∧(ze == ("__debug__" :ah))=ag∧
 True∧(oO == ("__debug__" :ah))=ag∧(rt == ("__debug__" :ah))=ag∧(zg == ("__debug__" :ah))=ag∧(u4 == ("__debug__" :ah))=ag:=by decide
section
variable{w:cM}
theorem ME{o:au}{name:ah}(hr:recv o):Ut o name env (eval o env)=eval o env:=by
 have hr:Ml (view o):=hr;induction q:view o with
 |name x p=>obtain rfl:=dM q rfl;rfl
 |const c k p=>obtain rfl:=dM q rfl;rfl
 |sub a i p=>obtain rfl:=dM q rfl;rfl
 |call f as iB p=>
  replace hr:=q▸hr;obtain rfl:=dM q rfl;have hr:(match view f with| .attr _ _ _=>ae|_=>ag)=ae:=hr;induction q2:view f with
  |attr o' m p'=>obtain rfl:=dM q2 rfl;rfl
  |_=>replace hr:=q2▸hr;exact zF hr
 |_=>replace hr:=q▸hr;exact zF hr
theorem pQ{o:au}{name:ah}{apos:aO}(hr:recv o)(hl:cH apos pos)(hn:args.length≤20)
  (WW:(gK pos (f7 args env)).all (λx=> !x.1))
  (h:ar (aw prog w) A (eval o env) (λov ai=>∀pl,ar (aw prog w) A (yC ov name pl) (λfx av=>ar (aw prog w) A (j4 pos fx.1 fx.2 (gK pos (f7 args env)) []) Q E av) E ai) E s):
  ar (aw prog w) A (eval (.Call (.Attribute o name apos) args [] pos) env) Q E s:=by
 have vc:=ME (name:=name) (env:=env) hr;have zr:methodCallForm (args.length+([]:List El).length) (gK pos (f7 args env)) (backToKw pos (keywordEach [] env)):=by unfold methodCallForm;refine rE WW (rE (Uu ..) ?_);show(ae&&decide (args.length+0+0<30));exact rE (Uu ..) (decide_eq_true (by lia))
 have zt:(apos.endLine == pos.line):=rE (fZ hl) (beq_self_eq_true _)
 have zu:A5 ae o env apos pos=pure pos:=by unfold A5;simp[zt]
 refine rE (Uv ..) (rE vc ?_);refine aB (ib h (λov ai h₁=>aB (kJ ?_)) λZ Z e=>e);unfold methodCall;refine rE zr (aB (ji ?_));unfold calleeOf;exact rE (if_pos rfl) (ib (h₁ _) (λfx av ey=>aB (ow zu ey)) λZ Z e=>e)
end
section
variable(w:cM)(A:dU)
noncomputable def BX(s:ay)(t:cN Bool)(b:Bool):Prop:=∀ (Q:Bool→ay→Prop) (E:aW),(∀s',Ext s s'→Q b s')→ar (aw prog w) A t Q E s
noncomputable def WX(U:aY)(s:ay)(t:cN (List ak))(xs:List D):Prop:=
 ∀ (Q:List ak→ay→Prop) (E:aW),(∀vs s',Ext s s'→aI U s'.heap vs xs→Q vs s')→ar (aw prog w) A t Q E s
noncomputable def pR(U:aY)(s:ay)(t:cN ak)(xs:List D):Prop:=
 ∀ (Q E:aW),(∀a s',Ext s s'→s.heap.get? a=af→(∃vs n,s'.heap.get? a=aa (cy vs n)∧aI (λb=>U b∨b=a) s'.heap vs.toList xs)→Q (.ref a) s')→ar (aw prog w) A t Q E s
theorem pR.gv{t:cN ak}{xs:List D}(hb:UB U s)(h:pR w A U s t xs):Gv w A U s t (.list xs):=λQ E hQ=>h Q E λa s' x hn ⟨vs,n,e,r⟩=>
 hQ _ s' x (.list e (λu=>by refine xE (hb a u) λo e=>?_;replace e:=hn▸e;exact zN e) (r.mono (λZ Z Z e=>e) λb Z Z n k=>n (.inl k)))
noncomputable def zv(U:aY)(s:ay)(v:ak)(name:ah)(xs:List D)(P:ay→cN ak→Prop):Prop:=
 ∀ (pl:cN Bool) (Q:ak × List ak→ay→Prop) (E:aW),(∀ (f:ak) (first:List ak) (ai:ay),Ext s ai→
  (∃a o fd,f=.ref a∧ai.heap.get? a=aa o∧o.data=.func fd)→(∀vs av,Ext ai av→aI U av.heap vs xs→P av (call f (first++vs)))→Q (f,first) ai)→
  ar (aw prog w) A (yC v name pl) Q E s
noncomputable def tm(U:aY)(s:ay)(v:ak)(name:ah)(xs:List D)(d:D):Prop:=zv w A U s v name xs λs t=>Gv w A U s t d
end
section
variable(K:Kt)(C:ma)(A:dU)
structure kW:Prop where
 ok:bU K
 room:∃n,bW A n
 call:∀f args d U s a fd vs,C f args=aa (d,ae)→K.fo f=aa (a,fd)→br K U s.heap→UB U s→aI U s.heap vs args→Gv K.w A U s (yD (.ref a) vs) d
 jH:∀U s v t x,br K U s.heap→UB U s→iW K.hc U s.heap v t→keyOk x→qY t→tm K.w A U s v pN [.str x] (.list (gc t (sL x)))
 oI:∀U s v t,br K U s.heap→UB U s→iW K.hc U s.heap v t→t.length≤1000000→zv K.w A U s v nH [] λs r=>pR K.w A U s r (t.map λp=>.tuple [.str p.1,.str p.2])
 mh:∀U s v t,br K U s.heap→UB U s→iW K.hc U s.heap v t→t.length≤1000000→tm K.w A U s v rz [] (.list (t.map λp=>.str p.1))
noncomputable def iC(ks:cT)(e:au)(r:RE):Prop:=∀U env hs ρ s d,dg ks env→bJ K U env hs ρ s→ev K.tk C hs r ρ=aa (d,ae)→Gv K.w A U s (eval e env) d
noncomputable def bg(ks:cT)(e:au)(r:RE):Prop:=∀U env hs ρ s d,dg ks env→bJ K U env hs ρ s→ev K.tk C hs r ρ=aa (d,ae)→
 Gv K.w A U s (eval e env) d∧∀b,truthy d=aa b→BX K.w A s (isTrue e env (eval e env)) b
inductive cZ(ks:cT):List au→bf→Prop
 |nil:cZ ks [] .nil
 |cons {e es r rs:_}:nI e=ag→bg K C A ks e r→cZ ks es rs→cZ ks (e::es) (.cons r rs)
inductive mB(ks:cT):Option au→RO→Prop
 |none:mB ks af .none
 |some {e r:_}:bg K C A ks e r→mB ks (aa e) (.some r)
inductive vd(ks:cT):List kH→List au→mf→Prop
 |nil:vd ks [] [] .nil
 |cons {op e ops es r rs:_}:(∀o,behindInMarks o e=ag)→bg K C A ks e r→vd ks ops es rs→vd ks (Fg op::ops) (e::es) (.cons op r rs)
end
section
variable{K:Kt}
theorem xj{v:ak}(r:Rd U s.heap v d)(h:truthy d=aa b):BX K.w A s (Em v) b:=by
 unfold truthy at h;intro Q E hQ;induction q:Bv d with
 |some c=>replace h:=iJ (q▸h);subst h;obtain rfl:=LD q;obtain rfl:=r.E8;exact lu (hQ _ (.refl s))
 |none=>replace h:=q▸h;refine aD (sM.mp h) λi h1 h2=>?_;clear h;obtain rfl:=gh h1;clear h1;refine xE r.iA λZ e9=>?_;subst e9;subst h2;exact PyProof.Rows.truthy_int (hQ _ (.refl s))
theorem iC.plain{e:au}(he:∀env whole,isTrue e env whole=(do let v ← whole;oy e.pos;holding [v] (Em v)))(h:iC K C A ks e r):bg K C A ks e r:=
 λU env hs ρ s d hk I ao=>⟨h U env hs ρ s d hk I ao,λb hb Q E hQ=>isTrue_plain (h U env hs ρ s d hk I ao _ _ λZ ai aq WY=>
  xj WY hb _ _ λav aC=>hQ av (aq.trans aC)) (he _ _)⟩
theorem snd_const{c:Const}{kd:Nat}(h:Mj c=aa d):bg K C A ks (.Constant c kd p) (.lit d):=by
 refine iC.plain (λZ Z=>rfl) λU env hs ρ s d' hk I ao Q E hQ=>?_;obtain rfl:=W.bp (ao:W.ret d=_);induction c with
 |none=>replace h:=iJ h;subst h;exact Eo (hQ _ _ (.refl s) .none)
 |bool b=>replace h:=iJ h;subst h;exact Ep (hQ _ _ (.refl s) (.bool _))
 |int i=>replace h:=iJ h;subst h;exact Uw (hQ _ _ .tok (.int _ _))
 |str x=>replace h:=iJ h;subst h;exact KA (hQ _ _ .tok (.str _ _))
 |_=>exact zN h
theorem xk(O:bU K)(h:td K.X ks x=aa r):bg K C A ks (.Name x p) r:=by
 refine iC.plain (λZ Z=>rfl) λU env hs ρ s d hk I ao Q E hQ=>?_;unfold td at h;induction hv:d8 (aV x ks)with
 |true=>replace h:=hv▸h;refine oE h ?_;clear h;intro i hi h;replace h:=iJ h;subst h;refine oE (ao:(pJ ρ i).bind W.ret=_) λd' hg ao=>?_;obtain rfl:=W.bp ao;exact I.read O hi (E9 hg) (nK hk hv) λv hs'=>hQ v s (.refl s) hs'
 |false=>replace h:=hv▸h;refine xA (cj h) λhg h=>oE h λi hi h=>?_;replace h:=iJ h;subst h;clear h;obtain rfl:=W.bp (ao:W.ret (fY i)=_);exact xE (O.gi x i hi) λt ht=>I.global (lG hk hg) ht (O.nl x i hi) (hQ _ s (.refl s) (.int _ _))
theorem MF{l r:au}{o:wD}{op:mc}{a b:RE}(ho:Mh o=aa op)(ha:bg K C A ks l a)(hb:bg K C A ks r b):bg K C A ks (.BinOp l o r p) (.bin op a b):=by
 have:o=LH op:=by cases o<;>cases ho<;>rfl
 clear ho;subst this;refine iC.plain (λZ Z=>rfl) λU env hs ρ s d hk I ao Q E hQ=>wE (ao:W.bind _ _=_) λx hx ao=>wE ao λy hy ao=>wpAny_BinOp ((ha U env hs ρ s x hk I hx).1 _ _ λva ai aq ra=>(hb U env hs ρ ai y hk (I.ext aq) hy).1 _ _ λvb av aC rb=>?_);exact VO (I.ub.ext (aq.trans aC)) ao (ra.ext aC) rb Q E λv aR bx r=>hQ v aR (aq.trans (aC.trans bx)) r
theorem WZ{c a b:au}{rc ra rb:RE}(hc:bg K C A ks c rc)(ha:bg K C A ks a ra)(hb:bg K C A ks b rb):bg K C A ks (.IfExp c a b p) (.ite rc ra rb):=by
 intro U env hs ρ s d hk I ao;refine wE (ao:W.bind _ _=_) λx hx ao=>oE ao λq iD ao=>⟨λQ E hQ=>IfExp_ ((hc U env hs ρ s x hk I hx).2 _ iD _ _ λai aq=>?_),λt ht Q E hQ=>isTrue_IfExp ((hc U env hs ρ s x hk I hx).2 _ iD _ _ λai aq=>?_)⟩
 ·induction q with
  |true=>exact(ha U env hs ρ ai d hk (I.ext aq) ao).1 _ _ λv av aC r=>hQ v av (aq.trans aC) r
  |false=>exact(hb U env hs ρ ai d hk (I.ext aq) ao).1 _ _ λv av aC r=>hQ v av (aq.trans aC) r
 ·induction q with
  |true=>exact(ha U env hs ρ ai d hk (I.ext aq) ao).2 t ht _ _ λav aC=>hQ av (aq.trans aC)
  |false=>exact(hb U env hs ρ ai d hk (I.ext aq) ao).2 t ht _ _ λav aC=>hQ av (aq.trans aC)
end
section
variable{K:Kt}
theorem snd_and(hl:cZ K C A ks es rs):∀ {e:au}{r:RE},bg K C A ks e r→bg K C A ks (.BoolOp .And (e::es) p) (Fq r rs):=by
 induction hl with
 |nil=>
  intro e r he U env hs ρ s d hk I ao;refine⟨λQ E hQ=>BoolOp_one ((he U env hs ρ s d hk I ao).1 Q E hQ),λb hb Q E hQ=>Ux ((he U env hs ρ s d hk I ao).2 b hb _ _ λai aq=>?_)⟩;induction b with
  |true=>exact isTrue_and_nil (hQ ai aq)
  |false=>exact hQ ai aq
 |cons n2 F2 hr ih=>
  intro e r he U env hs ρ s d hk I ao;have ih:=ih F2;refine wE (ao:W.bind _ _=_) λx hx ao=>oE ao λq hb ao=>?_;induction q with
  |true=>
   refine⟨λQ E hQ=>BoolOp_and ((he U env hs ρ s x hk I hx).1 _ _ λva ai aq ra=>xj ra hb _ _ λav aC=>?_),λb iD Q E hQ=>Ux ((he U env hs ρ s x hk I hx).2 _ hb _ _ λai aq=>?_)⟩
   ·exact(ih U env hs ρ av d hk (I.ext (aq.trans aC)) ao).1 _ _ λv aR bx r=>hQ v aR ((aq.trans aC).trans bx) r
   ·exact(ih U env hs ρ ai d hk (I.ext aq) ao).2 b iD _ _ λaR bx=>hQ aR (aq.trans bx)
  |false=>obtain rfl:=W.bp ao;refine⟨λQ E hQ=>BoolOp_and ((he U env hs ρ s x hk I hx).1 _ _ λva ai aq ra=>xj ra hb _ _ λav aC=>hQ va av (aq.trans aC) (ra.ext aC)),λb iD Q E hQ=>Ux ((he U env hs ρ s x hk I hx).2 _ hb _ _ λai aq=>?_)⟩;replace iD:=iJ (hb▸iD);subst iD;exact hQ ai aq
theorem W2(hl:cZ K C A ks es rs):∀ {e:au}{r:RE},bg K C A ks e r→bg K C A ks (.BoolOp .Or (e::es) p) (Fs r rs):=by
 induction hl with
 |nil=>
  intro e r he U env hs ρ s d hk I ao;refine⟨λQ E hQ=>BoolOp_one ((he U env hs ρ s d hk I ao).1 Q E hQ),λb hb Q E hQ=>Uy ((he U env hs ρ s d hk I ao).2 b hb _ _ λai aq=>?_)⟩;induction b with
  |false=>exact isTrue_or_nil (hQ ai aq)
  |true=>exact hQ ai aq
 |cons n2 F2 hr ih=>
  intro e r he U env hs ρ s d hk I ao;have ih:=ih F2;refine wE (ao:W.bind _ _=_) λx hx ao=>oE ao λq hb ao=>?_;induction q with
  |true=>obtain rfl:=W.bp ao;refine⟨λQ E hQ=>BoolOp_or ((he U env hs ρ s x hk I hx).1 _ _ λva ai aq ra=>xj ra hb _ _ λav aC=>hQ va av (aq.trans aC) (ra.ext aC)),λb iD Q E hQ=>Uy ((he U env hs ρ s x hk I hx).2 _ hb _ _ λai aq=>?_)⟩;replace iD:=iJ (hb▸iD);subst iD;exact hQ ai aq
  |false=>
   refine⟨λQ E hQ=>BoolOp_or ((he U env hs ρ s x hk I hx).1 _ _ λva ai aq ra=>xj ra hb _ _ λav aC=>?_),λb iD Q E hQ=>Uy ((he U env hs ρ s x hk I hx).2 _ hb _ _ λai aq=>?_)⟩
   ·exact(ih U env hs ρ av d hk (I.ext (aq.trans aC)) ao).1 _ _ λv aR bx r=>hQ v aR ((aq.trans aC).trans bx) r
   ·exact(ih U env hs ρ ai d hk (I.ext aq) ao).2 b iD _ _ λaR bx=>hQ aR (aq.trans bx)
theorem W4{ops:List kH}{cs:mf}(h:vd K C A ks ops es cs):lastMarks ops es=ag:=by
 induction h with
 |nil=>rfl
 |cons hm _ hr ih=>induction hr with
  |nil=>exact hm _
  |cons _ _ _=>exact ih
theorem MG:∀ (cs:mf) (a:D),yW tk C hs a cs ρ=aa (d,ae)→∃b,d=.bool b
 | .nil,a,h=>by exact zN h
 | .cons op e .nil,a,h=>by exact wE (h:W.bind _ _=_) λy Z h=>wE h λb Z h=>⟨b,(W.bp (h:W.ret (yE b)=_)).symm⟩
 | .cons op e (.cons W5 e' MH),a,h=>by
  refine wE (h:W.bind _ _=_) λy Z h=>wE h λb Z h=>?_;induction b with
  |false=>exact⟨ag,(W.bp (h:W.ret (yE ag)=_)).symm⟩
  |true=>exact MG (.cons W5 e' MH) y h
theorem MI(R:∃n,bW A n)(hk:dg ks env):∀ {ops:List kH}{es:List au}{cs:mf},vd K C A ks ops es cs→
  ∀ {s:ay}{a d:D}{va:ak},bJ K U env hs ρ s→Rd U s.heap va a→yW K.tk C hs a cs ρ=aa (d,ae)→
   ∃b,d=.bool b∧Gv K.w A U s (compareChain p va ops (Er es env)) d∧BX K.w A s (testChain p va ops (Er es env)) b:=by
 intro ops es cs hc;induction hc with
 |nil=>exact λZ Z h=>nomatch h
 | @cons op e ops es r rs _ he hr ih=>
  intro s a d va I ra h;refine xE R λn R=>wE (h:W.bind _ _=_) λy hy h=>wE h λb hb h=>?_;clear cs;cases hr with
  |nil=>
   clear es ops;obtain rfl:=W.bp (h:W.ret (yE b)=_);refine⟨b,rfl,λQ E hQ=>chain_last ((he U env hs ρ s y hk I hy).1 _ _ λvb ai aq rb=>xb R hb (ra.ext aq) rb _ _ λav aC=>hQ _ av (aq.trans aC) (.bool b)),λQ E hQ=>?_⟩;show ar _ A (do
    let rv ← holding [va] (eval _ env)
    oy p
    let c ← operate [va,rv] (sH _ va rv)
    holding [c] (Em c)) Q E s
   refine aB (ji ((he U env hs ρ s y hk I hy).1 _ _ λvb ai aq rb=>aB (kJ (aB (wpAny_operate' (xb R hb (ra.ext aq) rb _ _ λav aC=>?_))))));exact ji (lu (hQ av (aq.trans aC)))
  |cons h1 h2 h3=>
   have h:cond b (yW K.tk C hs y (.cons _ _ _) ρ) (W.ret (.bool ag))=aa (d,ae):=h;induction b with
   |false=>
    clear es ops;obtain rfl:=W.bp (h:W.ret (yE ag)=_);refine⟨ag,rfl,λQ E hQ=>chain_link ((he U env hs ρ s y hk I hy).1 _ _ λvb ai aq rb=>xb R hb (ra.ext aq) rb _ _ λav aC=>lu (hQ _ av (aq.trans aC) (.bool ag))),
     λQ E hQ=>test_link ((he U env hs ρ s y hk I hy).1 _ _ λvb ai aq rb=>xb R hb (ra.ext aq) rb _ _ λav aC=>lu (hQ av (aq.trans aC)))⟩
   |true=>
    have ih:=fun(s:ay) (va:ak) (I:bJ K U env hs ρ s) (ra:Rd U s.heap va y)=>ih I ra h;have hd:∃b,d=.bool b:=MG _ _ h;clear h es ops;refine xE hd ?_;clear hd;intro b e9;subst e9;refine⟨b,rfl,λQ E hQ=>chain_link ((he U env hs ρ s y hk I hy).1 _ _ λvb ai aq rb=>xb R hb (ra.ext aq) rb _ _ λav aC=>lu ?_),
     λQ E hQ=>test_link ((he U env hs ρ s y hk I hy).1 _ _ λvb ai aq rb=>xb R hb (ra.ext aq) rb _ _ λav aC=>lu ?_)⟩
    ·exact j8 (ih av vb (I.ext (aq.trans aC)) (rb.ext aC)) λZ Z g Z=>g _ _ λv aR bx r=>hQ v aR ((aq.trans aC).trans bx) r
    ·refine j8 (ih av vb (I.ext (aq.trans aC)) (rb.ext aC)) λc e Z g=>?_;clear rb ih h;cases e;exact g _ _ λaR bx=>hQ aR ((aq.trans aC).trans bx)
end
section
variable{K:Kt}
theorem F3(R:∃n,bW A n){l:au}{ops:List kH}{a:RE}{cs:mf}(ha:bg K C A ks l a)(hc:vd K C A ks ops es cs):bg K C A ks (.Compare l ops es p) (.cmp a cs):=by
 intro U env hs ρ s d hk I ao;refine wE (ao:W.bind _ _=_) ?_;clear ao;intro x hx ao;have hm:=markedEach_of_false ops es (Er es env) (W4 hc);refine⟨λQ E hQ=>?_,λb hb Q E hQ=>?_⟩
 ·show ar _ A (do compareChain p (← eval l env) ops (markedEach ops es (Er es env))) Q E s;refine rE hm (aB ((ha U env hs ρ s x hk I hx).1 _ _ λva ai aq ra=>?_));obtain⟨_,_,g,_⟩:=MI R (p:=p) hk hc (I.ext aq) ra ao;exact g _ _ λv av aC r=>hQ v av (aq.trans aC) r
 ·show ar _ A (do testChain p (← eval l env) ops (markedEach ops es (Er es env))) Q E s;refine rE hm (aB ((ha U env hs ρ s x hk I hx).1 _ _ λva ai aq ra=>?_));obtain⟨c,e,_,g⟩:=MI R (p:=p) hk hc (I.ext aq) ra ao;clear ra hm ao hx x I;subst e;replace hb:=iJ hb;subst hb;exact g _ _ λav aC=>hQ av (aq.trans aC)
theorem MJ{v:ak}(r:Rd U s.heap v d):sZ K.w A s (sH .Is v .none) (Bw d):=by intro Q E hQ;cases r<;>exact wpAny_is_plain rfl (hQ _ (.refl s))
theorem nN{l:List α}{a:α}(h:kP l=aa a):l=[a]:=by
 induction l using bj with
 |nil=>exact zN h
 |cons b r=>induction r with
  |nil=>replace h:=iJ h;subst h;rfl
  |cons=>exact zN h
theorem zw{l:List α}{p:α × α}(h:zc l=aa p):l=[p.1,p.2]:=by
 induction l using bj with
 |nil=>exact zN h
 |cons b r=>refine oE h ?_;clear h;intro c h1 h;replace h:=iJ h;subst h;exact rE (nN h1) rfl
theorem W6{e:au}(h:Fu e):∃k p,e=.Constant .none k p:=by
 unfold Fu at h;induction q:view e with
 |const c k p=>
  replace h:=q▸h;obtain rfl:=dM q rfl;induction c with
  |none=>exact⟨k,p,rfl⟩
  |_=>exact zF h
 |_=>replace h:=q▸h;exact zF h
theorem W7{ops:List kH}(h:Fy ops es):∃k p,ops=[.Is]∧es=[.Constant .none k p]:=by
 refine xA (fM.mp h) λh1 h2=>?_;induction q1:kP ops with
 |none=>replace h1:=q1▸h1;exact zF h1
 |some o=>
 induction q2:kP es with
 |none=>replace h2:=q2▸h2;exact zF h2
 |some e=>
  replace h1:=q1▸h1;replace h2:=q2▸h2;refine lD (W6 h2) λk p e9=>?_;subst e9;have:o=.Is:=by induction o<;>first|rfl|exact zF h1
  exact⟨k,p,by refine rE (nN q1) ?_;exact rE this rfl,nN q2⟩
theorem W8{l:au}{p':aO}{a:RE}(ha:bg K C A ks l a):bg K C A ks (.Compare l [.Is] [.Constant .none k p'] p) (.uL a):=by
 intro U env hs ρ s d hk I ao;refine wE (ao:W.bind _ _=_) λx hx ao=>?_;obtain rfl:yE (Bw x)=d:=W.bp (ao:W.ret (yE _)=_);refine⟨λQ E hQ=>wpAny_Compare1 ((ha U env hs ρ s x hk I hx).1 _ _ λva ai aq ra=>Eo (MJ ra _ _ λav aC=>hQ _ av (aq.trans aC) (.bool _))) rfl,
  λb hb Q E hQ=>yF ((ha U env hs ρ s x hk I hx).1 _ _ λva ai aq ra=>Eo (MJ ra _ _ λav aC=>lu ?_)) rfl⟩
 replace hb:=iJ hb;subst hb;exact hQ av (aq.trans aC)
theorem oP{X:Cx}{e:au}(h:nameId X ks e=aa i):∃x p,e=.Name x p∧d8 (aV x ks)∧aZ x X.names=aa i:=oE h λx h1 h=>xE (xd h1) λp e=>xA (cj h) λh1 h2=>⟨x,p,e,h1,h2⟩
theorem zx{nm:ah}{e:au}(h:pO ks nm e):∃p,e=.Name nm p∧eZ (aV nm ks):=by
 unfold pO at h;induction q:tc (view e)with
 |none=>replace h:=q▸h;exact zF h
 |some x=>replace h:=q▸h;refine xE (xd q) λp e=>xA (cg h) λh1 h2=>?_;clear h;obtain rfl:=eE h1;exact⟨p,e,h2⟩
theorem MK{F:au→Option RE}{a i:au}{ri:RE}(O:bU K)(ha:∀ra,F a=aa ra→bg K C A ks a ra)(hi:bg K C A ks i ri)(h:xf K.X ks a (F a) ri=aa r):
  bg K C A ks (.Subscript a i p) r:=by
 unfold xf at h;induction hv:nameId K.X ks a with
 |some v=>replace h:=iJ (hv▸h);subst h;refine cK (oP hv) λx q e9 h1 h2=>?_;subst e9;exact iC.plain (λZ Z=>rfl) λU env hs ρ s d hk I ao Q E hQ=>oE (ao:(jJ ρ v).bind _=_) λd' zy ao=>wE ao λy hy ao=>aD (F1 zy) λsl hg hp=>Es (I.read O h2 hg (nK hk h1) λu hu=>(hi U env hs ρ s y hk I hy).1 _ _ λvi ai aq ry=>LW ao (hp (hu.ext aq)) ry _ _ λv av aC r=>hQ v av (aq.trans aC) r)
 |none=>replace h:=hv▸h;refine oE h ?_;clear h;intro ra tn h;clear O;replace h:=iJ h;subst h;exact iC.plain (λZ Z=>rfl) λU env hs ρ s d hk I ao Q E hQ=>wE (ao:W.bind _ _=_) λx hx ao=>wE ao λy hy ao=>Es ((ha _ tn U env hs ρ s x hk I hx).1 _ _ λva ai aq ra=>(hi U env hs ρ ai y hk (I.ext aq) hy).1 _ _ λvi av aC ry=>LW ao (.inl (ra.ext aC)) ry _ _ λv aR bx r=>hQ v aR (aq.trans (aC.trans bx)) r)
theorem F4{o:Option au}{r:RO}(h:mB K C A ks o r){k:Option Int}(hk:dg ks env)(I:bJ K U env hs ρ s)
  (ao:kN K.tk C hs r ρ=aa (k,ae)) {Q:aW}{E:aW} (hQ:∀v s',Ext s s'→qK v k→Q v s'):ar (aw prog K.w) A (evalPart o env) Q E s:=by
 induction h with
 |none=>obtain rfl:=W.bp (ao:W.ret (af:Option Int)=_);exact bz (hQ _ s (.refl s) .none)
 |some he=>refine wE (ao:W.bind _ _=_) λx hx ao=>rE (evalPart_some ..) ((he U env hs ρ s x hk I hx).1 _ _ λv ai aq r=>hQ v ai aq (aD (y7 ao) λi e9 ao=>?_));subst e9;obtain rfl:=W.bp ao;refine xE r.iA λZ e9=>?_;subst e9;exact .int _ _
theorem ML{l h st:Option au}{rl rh rs:RO}{x:D}(hl:mB K C A ks l rl)(hh:mB K C A ks h rh)(cz:mB K C A ks st rs)(hk:dg ks env)(I:bJ K U env hs ρ s)
  (ao:(W.bind (kN K.tk C hs rl ρ) λl=>W.bind (kN K.tk C hs rh ρ) λh=>W.bind (kN K.tk C hs rs ρ) λs=>nz x l h s)=aa (d,ae)) {Q E:aW}{tail:ak→cN ak}
  (ht:∀ (s':ay) (kl kh BY:Option Int) (sl:aE) (vl vu pM:ak),Ext s s'→nz x kl kh BY=aa (d,ae)→s'.heap.IsSliceOf sl vl vu pM→qK vl kl→qK vu kh→qK pM BY→ar (aw prog K.w) A (tail (.ref sl)) Q E s'):
  ar (aw prog K.w) A (eval (.Slice l h st q) env) (λv s'=>ar (aw prog K.w) A (tail v) Q E s') E s:=by
 refine wE ao λkl e1 ao=>wE ao λkh e2 ao=>wE ao λBY e3 ao=>?_;exact wpAny_Slice (F4 hl hk I e1 λvl ai aq W9=>F4 hh hk (I.ext aq) e2 λvu av aC xm=>F4 cz hk ((I.ext aq).ext aC) e3 λpM aR bx vf=>
   ht _ kl kh BY _ vl vu pM ((aq.trans (aC.trans bx)).trans .push) ao (ahx ..) W9 xm vf)
theorem Xa{a:au}{v:Nat}{l h st:Option au}{rl rh rs:RO}(O:bU K)(hv:nameId K.X ks a=aa v)(hl:mB K C A ks l rl)(hh:mB K C A ks h rh)
  (cz:mB K C A ks st rs):bg K C A ks (.Subscript a (.Slice l h st q) p) (.cw v rl rh rs):=by
 refine cK (oP hv) λx q' e9 h1 h2=>?_;subst e9;exact iC.plain (λZ Z=>rfl) λU env hs ρ s d hk I ao Q E hQ=>oE (ao:(jJ ρ v).bind _=_) λd' zy ao=>aD (F1 zy) λsl hg hp=>Es (I.read O h2 hg (nK hk h1) λu hu=>ML hl hh cz hk I ao λai Z Z Z Z Z Z Z aq e f1 f2 f3 f4=>L3 (I.ub.ext aq) e (hp (hu.ext aq)) f1 f2 f3 f4 _ _ λv av aC r=>hQ v av (aq.trans aC) r)
theorem Xb{a:au}{ra:RE}{l h st:Option au}{rl rh rs:RO}(ha:bg K C A ks a ra)(hl:mB K C A ks l rl)(hh:mB K C A ks h rh)
  (cz:mB K C A ks st rs):bg K C A ks (.Subscript a (.Slice l h st q) p) (.slice ra rl rh rs):=by
 exact iC.plain (λZ Z=>rfl) λU env hs ρ s d hk I ao Q E hQ=>wE (ao:W.bind _ _=_) λx hx ao=>Es ((ha U env hs ρ s x hk I hx).1 _ _ λu aT jr hu=>ML hl hh cz hk (I.ext jr) ao λai Z Z Z Z Z Z Z aq e f1 f2 f3 f4=>L3 (I.ub.ext (jr.trans aq)) e (.inl (hu.ext aq)) f1 f2 f3 f4 _ _ λv av aC r=>hQ v av (jr.trans (aq.trans aC)) r)
theorem Xc{a:au}{ra:RE}(ha:bg K C A ks a ra):bg K C A ks (.UnaryOp .Not a p) (.not ra):=by intro U env hs ρ s d hk I ao;refine wE (ao:W.bind _ _=_) λx hx ao=>oE ao λb hb ao=>?_;obtain rfl:=W.bp ao;refine⟨λQ E hQ=>UnaryOp_ ((ha U env hs ρ s x hk I hx).1 _ _ λv ai aq rv=>not_value (xj rv hb _ _ λav aC=>hQ _ av (aq.trans aC) (.bool _))),λb' iD Q E hQ=>wpAny_isTrue_Not ((ha U env hs ρ s x hk I hx).2 b hb _ _ λai aq=>?_)⟩;replace iD:=iJ iD;subst iD;exact hQ ai aq
theorem Xd{i:Int}:bg K C A ks (.UnaryOp .USub (.Constant (.int i) k p) q) (.lit (.int (-i))):=by refine iC.plain (λZ Z=>rfl) λU env hs ρ s d hk I ao Q E hQ=>?_;obtain rfl:=W.bp (ao:W.ret (fY (-i))=_);exact UnaryOp_ (Uw (PyProof.Rows.neg_int (hQ _ _ .tok (.int _ _))))
theorem mC{e:au}(h:nI e=ag):f7 (e::es) env=(ag,eval e env)::f7 es env:=by
 induction e using uA<;>first|rfl|exact zT h
theorem rC(h:cZ K C A ks es rs):(gK p (f7 es env)).any (·.1)=ag∧(gK p (f7 es env)).all (λx=> !x.1)∧es.length=rs.len:=by
 induction h with
 |nil=>exact⟨rfl,rfl,rfl⟩
 |cons n _ r ih=>exact mr ih λh1 h2 h3=>rE (mC n) ⟨h1,h2,congrArg (· +1) h3⟩
theorem BZ(hk:dg ks env)(hl:cZ K C A ks es rs):∀ {s:ay}{xs:List D},bJ K U env hs ρ s→
  eD K.tk C hs rs ρ=aa (xs,ae)→WX K.w A U s (spliced (gK p (f7 es env))) xs:=by
 induction hl with
 |nil=>intro s xs I h;obtain rfl:=W.bp (h:W.ret ([]:List D)=_);exact λQ E hQ=>j5 (hQ _ s (.refl s) .nil)
 |cons n he r ih=>intro s xs I h;refine wE (h:W.bind _ _=_) λx hx h=>wE h λys hy h=>?_;obtain rfl:=W.bp h;intro Q E hQ;exact rE (mC n) (iu ((he U env hs ρ s x hk I hx).1 _ _ λv ai aq rv=>ih (I.ext aq) hy _ _ λvs av aC fB=>hQ _ av (aq.trans aC) (.cons (rv.ext aC) fB)))
theorem vg:∀ {rs:bf}{xs:List D},eD K.tk C hs rs ρ=aa (xs,ae)→xs.length=rs.len
 | .nil,xs,h=>by obtain rfl:=W.bp (h:W.ret ([]:List D)=_);rfl
 | .cons _ _,xs,h=>by refine wE (h:W.bind _ _=_) λx hx h=>wE h λys hy h=>?_;obtain rfl:=W.bp h;exact congrArg (· +1) (vg hy)
theorem Xe(hl:cZ K C A ks es rs)(hn:aX rs.len 1000):bg K C A ks (.List es p) (.list rs):=by
 refine iC.plain (λZ Z=>rfl) λU env hs ρ s d hk I ao Q E hQ=>wE (ao:W.bind _ _=_) λxs hx ao=>?_;obtain rfl:=W.bp ao;refine List_ (BZ hk hl I hx _ _ λvs ai aq r=>wI ?_ ?_)
 ·exact hQ _ _ (aq.trans .push) (.list (n:=0) (eT _ rfl) (I.ub.ext aq).new (rE AY (r.ext (.push (s:=ai) (k:=ai.toks)))))
 ·exact rE r.length (rE (vg hx) (aF (bc hn) (by refine rE lx ?_;lia)))
theorem B1(hl:cZ K C A ks es rs)(hn:aX rs.len 1000):bg K C A ks (.Tuple es k p) (.tup rs):=by
 refine iC.plain (λZ Z=>rfl) λU env hs ρ s d hk I ao Q E hQ=>wE (ao:W.bind _ _=_) λxs hx ao=>?_;obtain rfl:=W.bp ao;refine Tuple_ (BZ hk hl I hx _ _ λvs ai aq r=>Ej ?_ ?_)
 ·exact hQ _ _ (aq.trans .push) (.tup (n:=0) (eT _ rfl) (I.ub.ext aq).new (rE AY (r.ext (.push (s:=ai) (k:=ai.toks)))))
 ·exact rE r.length (rE (vg hx) (aF (bc hn) (by refine rE lx ?_;lia)))
end
section
variable{K:Kt}
theorem xn(hk:dg ks env)(hl:cZ K C A ks es rs){xs:List D}(I:bJ K U env hs ρ s)
  (h:eD K.tk C hs rs ρ=aa (xs,ae)) {f:ak}{Q:Args→ay→Prop}{E:aW} (hQ:∀vs s',Ext s s'→aI U s'.heap vs xs→Q ⟨vs,[]⟩ s'):
  ar (aw prog K.w) A (evalArgs f ae (gK p (f7 es env)) []) Q E s:=by
 cases hl with
 |nil=>obtain rfl:=W.bp (h:W.ret ([]:List D)=_);exact KC (hQ [] s (.refl s) .nil)
 |cons n he r=>have g:=BZ (p:=p) hk (.cons n he r) I h (λvs s'=>Q ⟨vs,[]⟩ s') E λvs s' x r=>hQ vs s' x r;rw[mC n]at g ⊢;exact qN g
inductive wL(h:aP):ak→Prop
 |builtin (id:_):wL h (.builtin id)
 |type (T:_):wL h (.type T)
 |fn {a o fd:_}:h.get? a=aa o→o.data=.func fd→wL h (.ref a)
theorem B2{fv:ak}{first:List ak}{xs:List D}
  (hk:dg ks env) (I:bJ K U env hs ρ s) (hf:wL s.heap fv) (hl:cZ K C A ks args rs) (hx:eD K.tk C hs rs ρ=aa (xs,ae))
  (F7:∀vs ai,Ext s ai→aI U ai.heap vs xs→Gv K.w A U ai (call fv (first++vs)) d):Gv K.w A U s (j4 pos fv first (gK pos (f7 args env)) []) d:=by
 intro Q E hQ;have hp:=(rC (p:=pos) (env:=env) hl).1;have go:∀ (P:Args→ay→Prop),(∀vs ai,Ext s ai→ar (aw prog K.w) A (call fv (first++vs)) Q E ai→P ⟨vs,[]⟩ ai)→
   ar (aw prog K.w) A (evalArgs fv ae (gK pos (f7 args env)) []) P E s:=λP hP=>xn hk hl I hx λvs ai aq r=>hP vs ai aq (F7 vs ai aq r _ _ λv av aC r=>hQ v av (aq.trans aC) r)
 induction hf with
 |builtin id=>exact uC hp (go _ λvs ai Z h=>h)
 |type T=>exact A6 hp (go _ λvs ai Z h=>h)
 |fn e d=>exact Et (go _ λvs ai aq h=>⟨⟨aq.keep _ _ e,d⟩,h⟩)
theorem MN{fv:ak}{xs:List D}
  (hk:dg ks env) (I:bJ K U env hs ρ s) (Xf:∀ (Q E:aW),Q fv s→ar (aw prog K.w) A (eval (.Name x q) env) Q E s) (hf:wL s.heap fv)
  (hl:cZ K C A ks args rs) (hx:eD K.tk C hs rs ρ=aa (xs,ae)) (F7:∀vs ai,Ext s ai→aI U ai.heap vs xs→Gv K.w A U ai (call fv vs) d):
  Gv K.w A U s (eval (.Call (.Name x q) args [] pos) env) d:=by
 intro Q E hQ;show ar _ A (do j4 pos (← eval (.Name x q) env) [] (gK pos (f7 args env)) []) Q E s;exact aB (Xf _ _ (B2 (first:=[]) hk I hf hl hx F7 Q E hQ))
theorem MO{pr:Prim}{fv:ak}(hg:eZ (aV x ks))(hb:K.mg x=af∧K.mb x=aa fv)(hd:(x == ("__debug__" :ah))=ag)
  (hf:∀h,wL h fv) (hl:cZ K C A ks args rs) (h:∀U s xs vs d,UB U s→aI U s.heap vs xs→xs.length=rs.len→gT pr xs=aa (d,ae)→Gv K.w A U s (call fv vs) d):
  bg K C A ks (.Call (.Name x q) args [] pos) (.prim pr rs):=by
 exact iC.plain (λZ Z=>rfl) λU env hs ρ s d hk I ao=>wE (ao:W.bind _ _=_) λxs hx ao=>MN hk I (λQ E hQ=>I.builtin (lG hk hg) hb hd hQ) (hf _) hl hx λvs ai aq r=>h U ai xs vs d (I.ub.ext aq) r (vg hx) ao
theorem xo{xs:List D}(h:xs.length=1):∃x,xs=[x]:=ahy.mp h
theorem nO{h:aP}{x:D}(r:aI U h vs [x]):∃v,vs=[v]∧Rd U h v x:=by refine cK r.u0 λZ Z e9 a b=>?_;subst e9;obtain rfl:=b.sY;exact⟨_,rfl,a⟩
theorem xp{h:aP}{x:D}(r:aI U h vs [x,y]):∃u v,vs=[u,v]∧Rd U h u x∧Rd U h v y:=by
 refine cK r.u0 λZ Z e9 a b=>?_;subst e9;cases b with|cons b c=>obtain rfl:=c.sY;exact⟨_,_,rfl,a,b⟩
theorem bf.MP{es:bf}(h:es.isNil):es=.nil:=by cases es with|nil=>rfl|cons=>exact zF h
theorem bf.tp{es:bf}{a:RE}(h:es.c1=aa a):es=.cons a .nil:=by
 cases es with
 |nil=>exact zN h
 |cons b r=>refine xA (cj h) λh1 h2=>?_;replace h2:=iJ h2;subst h2;exact rE (bf.MP h1) rfl
theorem bf.xq{es:bf}{p:RE × RE}(h:es.c2=aa p):es=.cons p.1 (.cons p.2 .nil):=by
 cases es with
 |nil=>exact zN h
 |cons b r=>refine oE h λc h1 h=>?_;replace h:=iJ h;subst h;exact rE (bf.tp h1) rfl
theorem Xh(O:bU K)(hg:eZ (aV rq ks))(hl:cZ K C A ks args rs)(h:Mn K.X ks args rs=aa r):
  bg K C A ks (.Call (.Name rq q) args [] pos) r:=by
 refine oE h λa ha h9=>?_;clear h;obtain rfl:=nN ha;have h:=h9;clear h9;induction hv:nameId K.X ks a with
 |some v=>clear ha;replace h:=iJ (hv▸h);subst h;refine cK (oP hv) λx p e9 h1 h2=>?_;subst e9;refine iC.plain (λZ Z=>rfl) λU env hs ρ s d hk I ao=>oE (ao:(jJ ρ v).bind _=_) λd' zy ao=>aD (F1 zy) λsl lH hp=>?_;intro Q E hQ;show ar _ A (do j4 pos (← eval (.Name rq q) env) [] [(ag,eval (.Name x p) env)] []) Q E s;refine aB (I.builtin (lG hk hg) O.len nM.1 ?_);exact uC rfl (qN (iu (I.read O h2 lH (nK hk h1) λu hu=>j5 (Ma (hp hu) ao _ _ hQ))))
 |none=>replace h:=iJ (hv▸h);subst h;refine MO hg O.len nM.1 (λZ=>.builtin _) hl λU s xs vs d hu r hn ao=>?_;clear hu;obtain⟨x,rfl⟩:=xo (hn.trans (rC (p:=default) (env:=default) hl).2.2.symm);clear hn;refine aD (nO r) λv e9 r1=>?_;subst e9;exact Ma (.inl r1) ao
noncomputable def Xi(K:Kt)(A:dU)(f:ah)(pr:Prim)(n:Nat):Prop:=
 ∃fv,(K.mg f=af∧K.mb f=aa fv)∧(f == ("__debug__" :ah))=ag∧(∀h,wL h fv)∧∀U s xs vs d,UB U s→aI U s.heap vs xs→xs.length=n→gT pr xs=aa (d,ae)→Gv K.w A U s (call fv vs) d
theorem Xj(O:bU K)(R:∃n,bW A n){f:ah}{p:Prim × Nat}(h:BM f=aa p):Xi K A f p.1 p.2:=by
 unfold BM at h;induction h1:sEq f lF with
 |true=>replace h:=iJ (h1▸h);subst h;obtain rfl:=eE h1;refine⟨_,O.str,nM.2.1,λZ=>.type _,λU s xs vs d hu r hn ao=>?_⟩;refine xE (xo hn) λx e9=>?_;subst e9;refine aD (nO r) λv e9 r1=>?_;subst e9;exact V9 r1 ao
 |false=>
 replace h:=(cond_false ..)▸h1▸h;induction h1:sEq f rr with
 |true=>replace h:=iJ (h1▸h);subst h;obtain rfl:=eE h1;refine⟨_,O.int,nM.2.2.1,λZ=>.type _,λU s xs vs d hu r hn ao=>?_⟩;refine xE (xo hn) λx e9=>?_;subst e9;refine aD (nO r) λv e9 r1=>?_;subst e9;exact Wa r1 ao
 |false=>
 replace h:=(cond_false ..)▸h1▸h;refine xE R λn R=>?_;induction h1:sEq f xe with
 |true=>replace h:=iJ (h1▸h);subst h;obtain rfl:=eE h1;refine⟨_,O.sum,nM.2.2.2.1,λZ=>.builtin _,λU s xs vs d hu r hn ao=>?_⟩;refine xE (xo hn) λx e9=>?_;subst e9;refine aD (nO r) λv e9 r1=>?_;subst e9;exact Wj R r1 ao
 |false=>
 replace h:=(cond_false ..)▸h1▸h;refine xA (cj h) λh1 h=>?_;replace h:=iJ h;subst h;obtain rfl:=eE h1;refine⟨_,O.sorted,nM.2.2.2.2.1,λZ=>.builtin _,λU s xs vs d hu r hn ao=>?_⟩;refine xE (xo hn) λx e9=>?_;subst e9;refine aD (nO r) λv e9 r1=>?_;subst e9;exact WC R hu r1 ao
theorem Xk(O:kW K C A)(hl:cZ K C A ks args rs)(h:Mo K.X ks x args rs=aa r):
  bg K C A ks (.Call (.Name x q) args [] pos) r:=by
 refine xA (cj h) λhg h=>?_;induction hi:aZ x K.X.fns with
 |some i=>
  replace h:=iJ (hi▸h);subst h;refine gz (O.ok.fm x i hi) λa fd h1 h2=>iC.plain (λZ Z=>rfl) λU env hs ρ s d hk I ao=>wE (ao:W.bind _ _=_) λxs hx ao=>gA (I.bH.fo i a fd h1) λo ho Z hd Z=>?_;exact MN hk I (λQ E hQ=>I.global (lG hk hg) h2 (O.ok.nf x i hi) hQ) (.fn ho hd) hl hx λvs ai aq r=>
   O.call i xs d U ai a fd vs ao h1 (I.bH.ext aq) (I.ub.ext aq) r
 |none=>
  replace h:=hi▸h;dsimp only at h;induction h1:sEq x rq with
  |true=>replace h:=h1▸h;obtain rfl:=eE h1;exact Xh O.ok hg hl h
  |false=>replace h:=h1▸h;refine oE (h:(BM x).bind _=_) λp hp h=>xA (cj h) λhn h=>?_;replace h:=iJ h;subst h;exact gA (Xj O.ok O.room hp) λfv h1 h2 h3 h4=>MO hg h1 h2 h3 hl λU s xs vs d hu r pS ao=>h4 U s xs vs d hu r (pS.trans (fZ hn)) ao
theorem Xl(O:kW K C A){a t:au}{ra:RE}(hg:eZ (aV oO ks))(na:nI a=ag)(ha:bg K C A ks a ra)(ht:pO ks rr t):
  bg K C A ks (.Call (.Name oO q) [a,t] [] pos) (.prim .md (.cons ra .nil)):=by
 refine aD (zx ht) λp e9 zz=>?_;subst e9;refine iC.plain (λZ Z=>rfl) λU env hs ρ s d hk I ao Q E hQ=>wE (ao:W.bind _ _=_) λxs hx ao=>wE (hx:W.bind _ _=_) λy hy hx=>wE hx λys Xm hx=>?_;obtain rfl:=W.bp (Xm:W.ret ([]:List D)=_);obtain rfl:=W.bp hx;show ar _ A (do j4 pos (← eval (.Name oO q) env) [] (gK pos (f7 [a,.Name rr p] env)) []) Q E s;refine rE (mC na) (aB (I.builtin (lG hk hg) O.ok.u9 nM.2.2.2.2.2.2.1 ?_));refine uC rfl (qN (iu ((ha U env hs ρ s y hk I hy).1 _ _ λv ai aq r=>?_)));refine iu ((I.ext aq).builtin (lG hk zz) O.ok.int nM.2.2.1 (j5 ?_));exact Wb r ao _ _ λv av aC r=>hQ v av (aq.trans aC) r
end
section
open PyProof.V
theorem Xn(x:ah)(d:D):∀tk:gO,mj tk x d=match tf tk x with|some i=>.int i|none=>d:=by
 intro L0;induction L0 with
 |nil=>exact rfl
 |cons cx r ih=>
  obtain⟨k,v⟩:=cx;refine rE (Vx ..) (rE (FZ ..) ?_);induction sEq k x with
  |true=>rfl
  |false=>exact ih
theorem Xo(x:ah)(tk:gO):qX tk x=(tf tk x).isSome:=by
 induction tk with
 |nil=>rfl
 |cons p r ih=>
  obtain⟨k,v⟩:=p;refine rE (Vy ..) (rE (FZ ..) ?_);induction sEq k x with
  |true=>rfl
  |false=>exact ih
section
variable{K:Kt}
set_option tactic.hygienic true in
theorem MQ:∀ {tk:gO}{kvs:List (ah × ak)},FlatPairs uB kvs (xh tk)→∀x:ah,match tf tk x with|some i=>∃t,valueAt kvs x=aa (.int i t)|none=>valueAt kvs x=af:=by
 intro tk;induction tk with
 |nil=>intro kvs h x;cases h;rfl
 |cons ki r ih=>
  obtain⟨k,i⟩:=ki;intro kvs h x;cases h with
  |cons hf hr=>
   rename_i v kvs;have B3:=hf (default:aP);cases B3 with|int _ t=>?_
   have ih:=ih hr x;refine rE (FZ ..) ?_;induction h:sEq k x with
   |true=>obtain rfl:=eE h;exact⟨t,by simp[valueAt]⟩
   |false=>
    have bQ:k≠x:=λe=>by replace h:=sEq_iff.mpr e▸h;exact zT h
    have:valueAt ((k,Value.int i t)::kvs) x=valueAt kvs x:=by unfold valueAt;exact rE (ahz (by simpa using bQ)) rfl
    dsimp only[cond];exact rE this ih
theorem Xp{k v:ak}{x:D}(T:TabAt (wJ prog K.w) uB s.heap a (xh tk))(rk:Rd U s.heap k x)(rv:Rd U s.heap v y)
  (h:(dD x).bind (λx=>W.ret (mj tk x y))=aa (d,ae)):Gv K.w A U s (call (.builtin "dict.get") [.ref a,k,v]) d:=by
 intro Q E hQ;refine aD (nG h) λx e9 h=>?_;subst e9;obtain rfl:=W.bp h;cases rk;refine uY T λhs kvs hd hf=>call_meetsIn F.slot_dict_get hd.mapOf.typeIs F.entry_dict_get (F.args_dict_get_3 _ _ _) (meets_dict_get_default (wJ prog K.w) a (k:=x) (strKind_is prog K.w x _) hs v) ⟨_,hd.mapOf,hQ _ _ .tok ?_⟩;have ff:=MQ (tk:=tk) hf x;refine rE (Xn ..) ?_;induction q:tf tk x with
 |some i=>replace ff:=q▸ff;exact xE ff λt ht=>rE ht (.int _ _)
 |none=>replace ff:=q▸ff;have ff:valueAt kvs x=af:=ff;exact rE ff rv
theorem Xq:∀ {l:List (D × D)}{tk:gO},Ft l=aa tk→l=xh tk∧strKeyed l∧(∀x,xc x tk=ag→x∉strKeysOf l)∧(strKeysOf l).Nodup:=by
 intro l;induction l with
 |nil=>intro tk h;replace h:=iJ h;subst h;exact⟨rfl,rfl,λx Z h=>(by cases h),yG⟩
 |cons p r ih=>
  intro tk h;obtain⟨k,v⟩:=p;refine aD (nG h) λx e9 h1=>?_;subst e9;refine aD (y7 h1) λi e9 h2=>?_;subst e9;refine oE h2 λl hl h3=>?_;clear h h1 h2;refine yY (ih hl) λe1 e2 e3 e4=>?_;induction hg:xc x l with
  |true=>exact zN (hg▸h3)
  |false=>
   replace h3:=iJ (hg▸h3);subst h3;refine⟨by refine rE e1 ?_;rfl,e2,λy hy=>?_,uE.mpr ⟨e3 x hg,e4⟩⟩;replace hy:=(WE ..)▸hy;induction zA:sEq x y with
   |true=>replace hy:=zA▸hy;exact zT hy
   |false=>
    replace hy:=zA▸hy;have bQ:y≠x:=λe=>by subst e;replace zA:=sEq_iff.mpr rfl▸zA;exact zT zA
    exact λhm=>(bE.mp hm).elim bQ (e3 y hy)
theorem Xr:∀ {tq:List (Option au)}{vs:List au}{l:List (D × D)},litPairs tq vs=aa l→tq.all (·.isSome)∧tq.length=vs.length∧tq.length=l.length:=by
 intro tq;induction tq with
 |nil=>
  intro vs l h;induction vs using bj with
  |nil=>replace h:=iJ h;subst h;exact⟨rfl,rfl,rfl⟩
  |cons=>exact zN h
 |cons k tq ih=>
  intro vs l h;induction k with
  |none=>exact zN h
  |some k=>
  induction vs using bj with
  |nil=>exact zN h
  |cons v vs=>
  unfold litPairs at h;induction h1:tabLit k with
  |none=>exact zN (h1▸h)
  |some dk=>
  induction h2:tabLit v with
  |none=>replace h:=h1▸h;exact zN (h2▸h)
  |some dv=>
  induction h3:litPairs tq vs with
  |none=>replace h:=h2▸h1▸h;exact zN (h3▸h)
  |some r=>replace h:=h2▸h1▸h;replace h:=iJ (h3▸h);subst h;exact mr (ih h3) λe1 e2 e3=>⟨e1,congrArg (· +1) e2,congrArg (· +1) e3⟩
theorem Xs{o:au}(hb:UB U s)(hs:s.heap.NoLimit)(h:BL (view o)=aa tk)
  (hQ:∀v s',Ext s s'→nJ K.w U s'.heap v tk→Q v s'):ar (aw prog K.w) A (eval o env) Q E s:=by
 induction q:view o with
 |dict Xu vls p=>
  replace h:=q▸h;obtain rfl:=dM q rfl;refine oE h λl hl h=>oE h λXv hr h=>xA (cj h) λhn h=>?_;obtain rfl:=(ir h).symm;refine xA (cg hn) λh0 hn=>yY (Xq hr) λe1 e2 e3 e4=>mr (Xr hl) λf1 f2 f3=>?_;have hlen:l.length=tk.length:=by refine rE e1 ?_;rewrite[xh];exact rE (aQ ..) rfl
  have bQ:Xu≠[]:=λe=>by replace f3:=hlen▸e▸f3;replace h0:=wG f3.symm▸h0;exact zF h0
  refine Dict_lits_str (prog:=prog) (w:=K.w) hl e2 e4 f1 f2 bQ (rE f3 (rE hlen (bc hn))) λa o h₁ Xv ha ho ht hk=>?_;have Xw:¬U a:=λhu=>by exact xE (hb a hu) λo' gB=>absurd (jD gB) (pA.mpr ha)
  refine hQ _ _ (.heap hk) ⟨a,rfl,Xw,?_⟩;refine aD ht λkvs hd hf=>TabAt.ofObj ?_ ho hd (rS e1 hf);refine aD hs λm hm Z=>?_;have h1:cStatics<a:=ia hm.lt ha;have h2:sysModules<a:=ew (by decide) h1;exact beq_false_of_ne (Eu (iU h2))
 |_=>exact zN (q▸h)
theorem MR{o:au}{m:ah}{ra:RE}{pr:Prim}{id:String}(hr:recv o)(hl:cH ap p)(hn:aX rs.len 20)
  (ho:bg K C A ks o ra) (ha:cZ K C A ks args rs)
  (hm:∀U s v x xs d,Rd U s.heap v x→xs.length=rs.len→gT pr (x::xs)=aa (d,ae)→∀ (pl:cN Bool) (Q:ak × List ak→ay→Prop) (E:aW),Q (.builtin id,[v]) s→ar (aw prog K.w) A (yC v m pl) Q E s)
  (hc:∀U s v x vs xs d,UB U s→Rd U s.heap v x→aI U s.heap vs xs→xs.length=rs.len→gT pr (x::xs)=aa (d,ae)→Gv K.w A U s (call (.builtin id) (v::vs)) d):
  bg K C A ks (.Call (.Attribute o m ap) args [] p) (.prim pr (.cons ra rs)):=by
 refine iC.plain (λZ Z=>rfl) λU env hs ρ s d hk I ao Q E hQ=>wE (ao:W.bind _ _=_) λys hy ao=>wE (hy:W.bind _ _=_) λx hx hy=>wE hy λxs mD hy=>?_;obtain rfl:=W.bp hy;have hp:=rC (p:=p) (env:=env) ha;refine pQ hr hl (rE hp.2.2 (bc hn)) hp.2.1 ((ho U env hs ρ s x hk I hx).1 _ _ λv ai aq rv pl=>hm U ai v x xs d rv (vg mD) ao pl _ _ ?_);exact B2 (first:=[v]) hk (I.ext aq) (.builtin id) ha mD (λvs av aC fB=>hc U av v x vs xs d (I.ub.ext (aq.trans aC)) (rv.ext aC) fB (vg mD) ao) _ _ λu aR bx ru=>hQ u aR (aq.trans bx) ru
structure Xx(w:cM)(A:dU)(m:ah)(pr:Prim)(n:Nat):Prop where
 ex:∃id:String,∀U s v x xs d,Rd U s.heap v x→xs.length=n→gT pr (x::xs)=aa (d,ae)→
  (∀ (pl:cN Bool) (Q:ak × List ak→ay→Prop) (E:aW),Q (.builtin id,[v]) s→ar (aw prog w) A (yC v m pl) Q E s)∧
  ∀vs,UB U s→aI U s.heap vs xs→Gv w A U s (call (.builtin id) (v::vs)) d
theorem Xy{m:ah}{p:Prim × Nat}(h:Fz m=aa p):Xx K.w A m p.1 p.2:=by
 unfold Fz at h;induction h1:sEq m Fv with
 |true=>
  replace h:=iJ (h1▸h);subst h;obtain rfl:=eE h1;refine⟨"str.join",λU s v x xs d rv hlen ao=>?_⟩;refine xE (xo hlen) λy e9=>?_;subst e9;have ao:E2 x y=aa (d,ae):=ao;refine⟨λpl Q E hQ=>?_,λvs Z fB=>?_⟩
  ·refine aD (nG ao) λx' e9 Z=>?_;subst e9;refine xE rv.cQ λZ e9=>?_;subst e9;refine rE WV ?_;with_reducible exact GM.join hQ
  ·refine aD (nO fB) λu e9 r1=>?_;subst e9;exact Wf rv r1 ao
 |false=>exact zN (h1▸h)
theorem MS{o:au}{m:ah}{ro:Option RE}(hr:recv o)(hl:cH ap p)(hn:aX rs.len 20)
  (ho:∀ra,ro=aa ra→bg K C A ks o ra) (ha:cZ K C A ks args rs) (h:FD ro m rs=aa r):bg K C A ks (.Call (.Attribute o m ap) args [] p) r:=by
 refine oE h λra tn h=>oE h λq hq h=>xA (cj h) λhlen h=>?_;replace h:=iJ h;subst h;obtain⟨id,M⟩:=(Xy (A:=A) hq).ex;have hlen:=fZ hlen;exact MR (id:=id) hr hl hn (ho ra tn) ha (λU s v x xs d rv hx ao=>(M U s v x xs d rv (hx.trans hlen) ao).1) λU s v x vs xs d hu rv fB hx ao=>(M U s v x xs d rv (hx.trans hlen) ao).2 vs hu fB
theorem MT{o:au}{k d:RE}(hr:recv o)(hl:cH ap p)(ha:cZ K C A ks args (.cons k (.cons d .nil)))
  (ho:∀U env hs ρ s e,dg ks env→bJ K U env hs ρ s→ev K.tk C hs r ρ=aa (e,ae)→∃tk,(W.bind (ev K.tk C hs k ρ) λx=>W.bind (ev K.tk C hs d ρ) λy=>(dD x).bind λx=>W.ret (mj tk x y))=aa (e,ae)∧
   ∀ (Q E:aW),(∀v,nJ K.w U s.heap v tk→Q v s)→ar (aw prog K.w) A (eval o env) Q E s):
  bg K C A ks (.Call (.Attribute o zf ap) args [] p) r:=by
 refine iC.plain (λZ Z=>rfl) λU env hs ρ s e hk I ao Q E hQ=>aD (ho U env hs ρ s e hk I ao) λtk ao ho=>wE ao λx hx ao=>wE ao λy hy ao=>?_;have hp:=rC (p:=p) (env:=env) ha;refine pQ hr hl (rE hp.2.2 (by decide:2≤20)) hp.2.1 (ho _ _ λv hv pl=>?_);refine j8 hv λa e9 Z hT=>?_;subst e9;have F8:=hT;refine uY F8 λZ kvs hd Z=>KD hd.mapOf.typeIs F.plainAttrs_dict F.slot_dict_get F.type_dict_get hd.mapOf.noDict ?_;refine B2 (first:=[.ref a]) (xs:=[x,y]) hk I (.builtin _) ha (BW hx hy) (λvs av aC fB=>?_) _ _ λu aR bx ru=>hQ u aR bx ru;refine cK (xp fB) λu v e9 r1 r2=>?_;subst e9;exact Xp (hT.keep aC.keep) r1 r2 ao
theorem Xz(O:bU K){l e:au}{a:RE}{v:Nat}(ha:bg K C A ks l a)(hv:nameId K.X ks e=aa v):bg K C A ks (.Compare l [.NotIn] [e] p) (.uM a v):=by
 refine cK (oP hv) λy q e9 h1 h2=>?_;subst e9;intro U env hs ρ s d hk I ao;refine oE (ao:(oJ ρ v).bind _=_) λkvs hc ao=>wE ao λx hx ao=>aD (nG ao) λx e9 ao=>?_;subst e9;obtain rfl:=W.bp ao;have go:∀ (Q E:aW),(∀s',Ext s s'→Q (.bool (!qX kvs x)) s')→ar (aw prog K.w) A (eval l env) (λu ai=>ar (aw prog K.w) A (eval (.Name y q) env) (λt av=>ar (aw prog K.w) A (sH .NotIn u t) Q E av) E ai) E s:=λQ E hQ=>
  (ha U env hs ρ s _ hk I hx).1 _ _ λu ai aq ru=>(I.ext aq).read O h2 (LF hc) (nK hk h1) λt ht=>by
   obtain⟨b,rfl,_,lo,vs,hd,hf⟩:=(ht:nJ K.w U ai.heap t kvs);refine xE ru.cQ λt e9=>?_;subst e9;refine wpAny_notIn_of (strKind_is prog K.w x t) lo hd.mapOf ?_;have ff:=MQ (tk:=kvs) hf x;have e:(valueAt vs x).isSome=qX kvs x:=by
    refine rE (Xo ..) ?_;induction q:tf kvs x with
    |some i=>replace ff:=q▸ff;refine xE ff λt ht=>rE ht ?_;rfl
    |none=>replace ff:=q▸ff;have ff:valueAt vs x=af:=ff;refine rE ff ?_;rfl
   exact rE e (hQ _ (aq.trans .tok))
 refine⟨λQ E hQ=>wpAny_Compare1 (go _ _ λai aq=>hQ _ ai aq (.bool _)) rfl,λb hb Q E hQ=>yF (go _ _ λai aq=>lu ?_) rfl⟩;replace hb:=iJ hb;subst hb;exact hQ ai aq
theorem MU(O:bU K){o:au}{m:ah}(P:List (ah × ah)→List D→D→Prop)(hv:nameId K.X ks o=aa i)(hr:recv o)(hl:cH ap p)
  (hn:aX rs.len 20) (ha:cZ K C A ks args rs)
  (hm:∀U s v t xs d,br K U s.heap→UB U s→iW K.hc U s.heap v t→P t xs d→tm K.w A U s v m xs d)
  (XA:∀hs ρ d,ev K.tk C hs r ρ=aa (d,ae)→∃j t xs,get ρ i=aa (.cU j)∧hs[j]? =aa t∧eD K.tk C hs rs ρ=aa (xs,ae)∧P t xs d):
  bg K C A ks (.Call (.Attribute o m ap) args [] p) r:=by
 refine cK (oP hv) λx q e9 h1 h2=>?_;subst e9;refine iC.plain (λZ Z=>rfl) λU env hs ρ s d hk I ao Q E hQ=>fA (XA hs ρ d ao) λj t xs e1 e2 e3 e4=>?_;have hp:=rC (p:=p) (env:=env) ha;refine pQ hr hl (rE hp.2.2 (bc hn)) hp.2.1 (I.read O h2 e1 (nK hk h1) λv hv pl=>?_);refine aD hv ?_;clear hv;intro t' e5 e6;clear hv hp e1 ao h2 h1;replace e5:=iJ (e2▸e5);subst e5;refine hm U s v t xs d I.bH I.ub e6 e4 pl _ _ λf first ai aq hf hc=>?_
 clear e6 pl v e4 e2;refine ic hf ?_;clear hf;intro a o fd e9 ho hd;subst e9;exact B2 hk (I.ext aq) (.fn ho hd) ha e3 (λvs av aC fB=>hc vs av aC fB) _ _ λu aR bx ru=>hQ u aR (aq.trans bx) ru
theorem XB{e:RE}{x:D}(hx:ev K.tk C hs e ρ=aa (x,ae)):eD K.tk C hs (.cons e .nil) ρ=aa ([x],ae):=xi hx
theorem XC{v:Nat}{k:RE}{f:List (ah × ah)→List Nat→D}(ao:((mq hs ρ v).bind λt=>W.bind (ev K.tk C hs k ρ) λx=>(dD x).bind λx=>W.need (f t (sL x)) (keyOk x&&qY t))=aa (d,ae)):
  ∃j t x,get ρ v=aa (.cU j)∧hs[j]? =aa t∧eD K.tk C hs (.cons k .nil) ρ=aa ([.str x],ae)∧(keyOk x∧qY t)∧d=f t (sL x):=by
 refine oE ao λt ht h1=>aD (Fc ht) λj hj ht=>wE h1 λx hx h2=>aD (nG h2) λy e9 h3=>?_;subst e9;clear h2 h1 ao;refine xA (W.de h3) λe9 e1=>?_;subst e9;exact⟨j,t,y,hj,ht,XB hx,cg e1,rfl⟩
theorem XD(O:kW K C A){o:au}{m:ah}{v:Nat}(hv:nameId K.X ks o=aa v)(hr:recv o)(hl:cH ap p)(hn:aX rs.len 20)
  (ha:cZ K C A ks args rs) (h:FE v m rs=aa r):bg K C A ks (.Call (.Attribute o m ap) args [] p) r:=by
 unfold FE at h;induction h1:sEq m pN with
 |true=>
  replace h:=h1▸h;obtain rfl:=eE h1;refine oE (h:rs.c1.bind _=_) λk hk h=>?_;replace h:=iJ h;subst h;obtain rfl:=bf.tp hk;refine MU O.ok (λt xs d=>∃x,xs=[.str x]∧(keyOk x∧qY t)∧d=.list (gc t (sL x))) hv hr hl hn ha (λU s u t xs d g b T e=>?_) λhs ρ d ao=>?_
  ·refine j8 e λx e9 e1 bC=>?_;subst e9;subst bC;exact O.jH U s u t x g b T e1.1 e1.2
  ·obtain⟨j,t,x,e1,e2,e3,e4,e5⟩:=XC (f:=λt x=>.list (gc t x)) ao;exact⟨j,t,_,e1,e2,e3,x,rfl,e4,e5⟩
 |false=>
 replace h:=(cond_false ..)▸h1▸h;refine xA (cj h) λh2 g=>?_;obtain rfl:=bf.MP h2;clear h;have all:∀ {f:List (ah × ah)→D},(∀U s v t,br K U s.heap→UB U s→iW K.hc U s.heap v t→t.length≤1000000→tm K.w A U s v m [] (f t))→
   (∀hs ρ d,ev K.tk C hs r ρ=aa (d,ae)→((mq hs ρ v).bind λt=>W.need (f t) (aX t.length 1000000))=aa (d,ae))→bg K C A ks (.Call (.Attribute o m ap) args [] p) r:=λ{f} hm he=>
  MU O.ok (λt xs d=>xs=[]∧t.length≤1000000∧d=f t) hv hr hl hn ha (λU s u t xs d g b T e=>by refine mr e λe9 e1 bC=>?_;subst e9;subst bC;exact hm U s u t g b T e1) λhs ρ d ao=>by refine oE (he hs ρ d ao) λt ht h1=>aD (Fc ht) λj hj ht=>xA (W.de h1) λe9 e1=>?_;subst e9;exact⟨j,t,[],hj,ht,rfl,rfl,bc e1,rfl⟩
 induction h1:sEq m nH with
 |true=>replace g:=h1▸g;replace g:=iJ g;subst g;obtain rfl:=eE h1;exact all (λU s v t g b T ht pl Q E hQ=>O.oI U s v t g b T ht pl Q E λf first ai aq hf hc=>hQ f first ai aq hf λvs av aC r=>pR.gv _ _ (b.ext (aq.trans aC)) (hc vs av aC r)) λZ Z Z h=>h
 |false=>replace g:=(cond_false ..)▸h1▸g;refine xA (cj g) λh1 g=>?_;replace g:=iJ g;subst g;obtain rfl:=eE h1;exact all O.mh λZ Z Z h=>h
theorem XE(O:kW K C A){o:au}{m:ah}{ro:Option RE}(hr:recv o)(hl:cH ap p)(hn:aX rs.len 20)
  (ho:∀ra,ro=aa ra→bg K C A ks o ra) (ha:cZ K C A ks args rs) (h:FF K.X ks o ro m rs=aa r):bg K C A ks (.Call (.Attribute o m ap) args [] p) r:=by
 unfold FF at h;induction hv:nameId K.X ks o with
 |some v=>
  replace h:=hv▸h;dsimp only at h;induction hh:has v K.X.s9 with
  |true=>replace h:=hh▸h;exact XD O hv hr hl hn ha h
  |false=>
   replace h:=(cond_false ..)▸hh▸h;induction hT:(has v K.X.Fp&&sEq m zf)with
   |false=>replace h:=hT▸h;exact MS hr hl hn ho ha h
   |true=>replace h:=hT▸h;refine xA (cg hT) λZ h2=>?_;obtain rfl:=eE h2;refine oE (h:rs.c2.bind _=_) λq hq h=>?_;replace h:=iJ h;subst h;obtain rfl:=bf.xq hq;refine cK (oP hv) λy q' e9 h3 h4=>?_;subst e9;exact MT hr hl ha λU env hs ρ s e hk I ao=>oE (ao:(oJ ρ v).bind _=_) λkvs hc ao=>⟨kvs,ao,λQ E hQ=>I.read O.ok h4 (LF hc) (nK hk h3) hQ⟩
 |none=>
  replace h:=hv▸h;dsimp only at h;induction hT:(pO ks zg o&&sEq m zf)with
  |false=>replace h:=hT▸h;exact MS hr hl hn ho ha h
  |true=>replace h:=hT▸h;refine xA (cg hT) λh1 h2=>?_;clear hn O;obtain rfl:=eE h2;refine oE (h:rs.c2.bind _=_) ?_;clear h;intro q hq h;clear h2;replace h:=iJ h;subst h;obtain rfl:=bf.xq hq;clear hq;refine aD (zx h1) λq' e9 h4=>?_;subst e9;refine MT hr hl ha λU env hs ρ s e hk I ao=>⟨K.tk,ao,λQ E hQ=>?_⟩;exact aD I.bH.tok λv e1 e3=>I.global (lG hk h4) e1 nM.2.2.2.2.2.2.2.2.1 (hQ v e3)
end
end
theorem kX(i:Nat)(sl:bA):∀ρ:aM,get (put ρ i sl) i=aa sl:=by
 intro L0;induction L0 with
 |nil=>simp[Lb,Bt,uJ,pH]
 |cons cx r ih=>
  obtain⟨j,t⟩:=cx;refine rE (Bt ..) ?_;induction h:az j i with
  |true=>simp[uJ,pH,h]
  |false=>simp[uJ,pH,h,ih]
theorem fS(sl:bA)(h:j≠i):∀ρ:aM,get (put ρ i sl) j=get ρ j:=by
 intro L0;induction L0 with
 |nil=>
  have:az i j=ag:=by induction q:az i j with|false=>rfl|true=>exact absurd (fZ q).symm h
  simp[Lb,Bt,uJ,pH,this]
 |cons cx r ih=>
  obtain⟨k,t⟩:=cx;refine rE (Bt ..) ?_;induction hk:az k i with
  |true=>
   have e:=fZ hk;subst e;have:az k j=ag:=by induction q:az k j with|false=>rfl|true=>exact absurd (fZ q).symm h
   simp[uJ,pH,this]
  |false=>simp only[cond,uJ,pH];exact rE ih rfl
theorem F9:∀ {l:List ah}{i:Nat},aZ x l=aa i→l[i]? =aa x:=by
 intro l;induction l with
 |nil=>intro i h;exact zN h
 |cons y r ih=>
  intro i h;replace h:=(Mf ..)▸h;induction q:sEq y x with
  |true=>replace h:=iJ (q▸h);subst h;refine rE (eE q) ?_;rfl
  |false=>replace h:=q▸h;refine aD (sM.mp h) λj hj e9=>?_;subst e9;exact Kl.trans (ih hj)
theorem tu{y:ah}{l:List ah}(h:aZ x l=aa i)(h':aZ y l=aa i):x=y:=ir ((F9 h).symm.trans (F9 h'))
noncomputable def eG(ks:cT)(env:bF):aE→Prop:=λa=>a=env.locals∨∃x,dz (aV x ks)∧env.cells.lookup x=aa a
noncomputable def gC(ks:cT)(env:bF)(s s':ay):Prop:=(∀a o,s.heap.get? a=aa o→s'.heap.get? a=aa o∨eG ks env a)∧s'.gens=s.gens∧s'.os=s.os
section
variable{K:Kt}
theorem jq.eG{h:aP}(f:jq U env h)(k:eG ks env a):U a:=by
 rcases k with rfl| ⟨x,_,e⟩
 ·exact f.loc.1
 ·exact(f.fR x a e).1
theorem gC.keep(h:gC ks env s s')(f:jq U env s.heap){o:fJ}(u:¬U a)(e:s.heap.get? a=aa o):s'.heap.get? a=aa o:=
 (h.1 a o e).elim id λk=>absurd (f.eG k) u
theorem gC.seq(h:gC ks env s s')(f:jq U env s.heap){vs:Array ak}(e:s.heap.get? a=aa (cy vs n)):s'.heap.get? a=aa (cy vs n):=by
 rcases h.1 a _ e with h|rfl| ⟨x,_,h⟩
 ·exact h
 ·obtain⟨_,m,o,es,ep,ho,hd,_⟩:=f.loc;replace e:=iJ (ho▸e);subst e;cases hd
 ·refine mu (f.fR x a h) λZ v o ho hd=>?_;replace e:=iJ (ho▸e);subst e;cases hd
theorem gC.slot(h:gC ks env s s')(f:jq U env s.heap){v:ak}(r:kg K U s.heap hs v sl):kg K U s'.heap hs v sl:=by
 have rd:∀ {v d},Rd U s.heap v d→Rd U s'.heap v d:=λr=>r.mono (λa o u e=>h.keep f u e) λZ Z Z n=>n;have B4:∀ {v d},aI U s.heap v d→aI U s'.heap v d:=λr=>r.mono (λa o u e=>h.keep f u e) λZ Z Z n=>n;induction sl with
 |val d=>exact rd r
 |own xs=>exact ic r λa vs n e1 e3 e4=>⟨a,vs,n,e1,h.seq f e3,B4 e4⟩
 |cU i=>exact Lz r λt e0 a l e1 r=>⟨t,e0,a,l,e1,r.mono (λa o u e=>h.keep f u e) (λZ Z Z n=>n) λZ Z e=>h.seq f e⟩
 |fO l=>exact r.mono (λa o u e=>h.keep f u e) λZ Z Z n=>n
theorem bJ.moved(I:bJ K U env hs ρ s)(h:gC ks env s s')(f:jq U env s'.heap)
  (hv:∀x i sl,aZ x K.X.names=aa i→get ρ' i=aa sl→d8 (env.kindOf x)→∃v,fQ env s'.heap x v∧kg K U s.heap hs v sl):bJ K U env hs ρ' s' where
 bH:=I.bH.mono (λa o u e=>h.keep I.bu u e) λZ Z Z n=>n
 ub:=λa ha=>by
  refine xE (I.ub a ha) λo e=>?_;rcases h.1 a o e with h|rfl| ⟨x,_,h⟩
  ·exact⟨o,h⟩
  ·obtain⟨_,m,o,_,_,ho,_⟩:=f.loc;exact⟨o,ho⟩
  ·exact mu (f.fR x a h) λZ v o ho Z=>⟨o,ho⟩
 kind:=I.kind
 gl:=I.gl
 bi:=I.bi
 bu:=f
 vars:=λx i sl a b c=>aD (hv x i sl a b c) λv p q=>⟨v,p,h.slot I.bu q⟩
theorem bJ.store(I:bJ K U env hs ρ s){v:ak}(hi:aZ x K.X.names=aa i)(cm:dz (aV x ks))(hk:env.kindOf x=aa .local∨env.kindOf x=aa .cell)(r:kg K U s.heap hs v sl)
  {Q:Unit→ay→Prop}{E:aW} (hQ:∀s',bJ K U env hs (put ρ i sl) s'→gC ks env s s'→Q () s'):ar (aw prog K.w) A (qO env x v) Q E s:=by
 rcases hk with hk|hk
 ·refine lE I.bu.loc λhu m hm=>Ew (hp:=by refine rE I.kind ?_;rfl) hk hm λh' js cB=>?_;have mv:gC ks env s {s with heap:=h',toks:=s.toks+1}:=⟨λa o e=>by
   by_cases ha:a=env.locals
   ·exact .inr (.inl ha)
   ·exact .inl ((cB.2 a ha).trans e),rfl,rfl⟩
  have cell:∀ {c v},s.heap.IsCell c v→h'.IsCell c v:=λ{c v} hc=>hc.sameBut cB λe=>by subst e;refine aD hc λo ho hd=>ic hm λo' es ep gB dB Z=>?_;replace gB:=iJ (ho▸gB);subst gB;replace dB:=hd▸dB;cases dB
  refine hQ _ (I.moved mv ⟨⟨hu,_,js⟩,λy c e=>lE (I.bu.fR y c e) λa v q=>⟨a,v,cell q⟩,I.bu.inj,I.bu.has⟩ λy j tv hj hg jM=>?_) mv;by_cases lI:j=i
  ·subst lI;obtain rfl:=tu hi hj;replace hg:=iJ ((kX ..)▸hg);subst hg;exact⟨v,.inl ⟨hk,_,js,by simp⟩,r⟩
  ·rw[fS sl lI]at hg;refine aD (I.vars y j tv hj hg jM) λv' hv lH=>⟨v',?_,lH⟩;rcases hv with⟨k1,m',n',e'⟩| ⟨k1,c,e1,e2⟩
   ·refine .inl ⟨k1,_,js,?_⟩;clear js;have bQ:y≠x:=λe=>by subst e;replace hj:=hi▸hj;replace hj:=iJ hj;subst hj;exact lI rfl
    exact rE (if_neg bQ) ((hm.agree n' y).trans e')
   ·exact .inr ⟨k1,c,e1,cell e2⟩
 ·refine xE (I.bu.has x (.inl hk)) λc hc=>lE (I.bu.fR x c hc) λhu MV tw=>ahA I.kind hk hc tw λh' oQ cB=>?_;have mv:gC ks env s {s with heap:=h'}:=⟨λa o e=>by
   by_cases ha:a=c
   ·exact .inr (.inr ⟨x,cm,ha▸hc⟩)
   ·exact .inl ((cB.2 a ha).trans e),rfl,rfl⟩
  have ns:∀ {m},s.heap.Ns env.locals m→h'.Ns env.locals m:=λ{m} hn=>hn.sameBut cB λe=>by refine aD tw λo ho hd=>ic hn λo' es ep gB dB Z=>?_;clear tw hu cm;replace ho:=e.symm▸ho;replace ho:=iJ (gB▸ho);subst ho;replace hd:=dB▸hd;cases hd
  have cell:∀ {y c' v},env.cells.lookup y=aa c'→y≠x→s.heap.IsCell c' v→h'.IsCell c' v:=λ{y c' v} hy bQ q=>q.sameBut cB λe=>bQ (I.bu.inj y x c (e▸hy) hc);refine hQ _ (I.moved mv ⟨lE I.bu.loc λa m n=>⟨a,m,ns n⟩,λy c' e=>?_,I.bu.inj,I.bu.has⟩ λy j tv hj hg jM=>?_) mv
  ·refine lE (I.bu.fR y c' e) λa v' q=>?_;by_cases bQ:y=x
   ·clear mv cB tw MV hu;subst bQ;replace e:=iJ (hc▸e);subst e;exact⟨a,_,oQ⟩
   ·exact⟨a,v',cell e bQ q⟩
  ·by_cases lI:j=i
   ·clear mv cB tw;subst lI;obtain rfl:=tu hi hj;replace hg:=iJ ((kX ..)▸hg);subst hg;exact⟨v,.inr ⟨.inl hk,c,hc,oQ⟩,r⟩
   ·rw[fS sl lI]at hg;refine aD (I.vars y j tv hj hg jM) λv' hv lH=>⟨v',?_,lH⟩;clear lH jM hg tv;have bQ:y≠x:=λe=>by subst e;replace hj:=hi▸hj;replace hj:=iJ hj;subst hj;exact lI rfl
    rcases hv with⟨k1,m',n',e'⟩| ⟨k1,c',e1,e2⟩
    ·exact .inl ⟨k1,m',ns n',e'⟩
    ·exact .inr ⟨k1,c',e1,cell e1 bQ e2⟩
end
structure Mv(Ku:aY)(G:Nat→Prop)(s s':ay):Prop where
 keep:∀a o,¬Ku a→s.heap.get? a=aa o→s'.heap.get? a=aa o
 gens:∀ (g:Nat) (x:uq),¬G g→s.gens[g]? =aa x→s'.gens[g]? =aa x
 bare:wC s.gens→wC s'.gens
 os:s'.os=s.os
theorem Mv.refl(Ku:aY)(G:Nat→Prop)(s:ay):Mv Ku G s s:=⟨λZ Z Z e=>e,λZ Z Z e=>e,λe=>e,rfl⟩
theorem Mv.trans{G:Nat→Prop}{a b c:ay}(x:Mv Ku G a b)(y:Mv Ku G b c):Mv Ku G a c:=
 ⟨λZ Z n e=>y.keep _ _ n (x.keep _ _ n e),λZ Z n e=>y.gens _ _ n (x.gens _ _ n e),λe=>y.bare (x.bare e),y.os.trans x.os⟩
theorem Mv.mono{vh:aY}{G G':Nat→Prop}{a b:ay}(x:Mv Ku G a b)(h:∀a,Ku a→vh a)(g:∀a,G a→G' a):Mv vh G' a b:=
 ⟨λZ Z n e=>x.keep _ _ (λk=>n (h _ k)) e,λZ Z n e=>x.gens _ _ (λk=>n (g _ k)) e,x.bare,x.os⟩
theorem Ext.mv{G:Nat→Prop}{a b:ay}(x:Ext a b):Mv Ku G a b:=⟨λZ Z Z e=>x.keep _ _ e,λZ Z Z e=>x.gens _ _ e,x.bare,x.os⟩
theorem Mv.ext{G:Nat→Prop}{a b:ay}(x:Mv Ku G a b)(e:Ext aT a)(hK:∀c,Ku c→aT.heap.get? c=af)(hG:∀g,G g→aT.gens[g]? =af):Ext aT b:=
 ⟨λc o h=>x.keep c o (λk=>by replace h:=hK c k▸h;exact zN h) (e.keep c o h),λg o h=>x.gens g o (λk=>by replace h:=hG g k▸h;exact zN h) (e.gens g o h),λh=>x.bare (e.bare h),x.os.trans e.os⟩
theorem gC.mv{G:Nat→Prop}(h:gC ks env s s'):Mv (eG ks env) G s s':=
 ⟨λa o n e=>(h.1 a o e).elim id λk=>absurd k n,λg x Z e=>by refine rE h.2.1 ?_;exact e,λe=>by refine rE h.2.1 ?_;exact e,h.2.2⟩
theorem jN(x:Ext s s')(h:s'.heap.get? a=af):s.heap.get? a=af:=by
 induction q:s.heap.get? a with
 |none=>rfl
 |some o=>have:=x.keep a o q;exact zN (h▸this)
section
variable(w:cM)(A:dU)
structure Iter(V:aY)(I:ak)(G:Nat→Prop)(St:(aE→Prop)→List D→ay→Prop):Prop where
 next:∀ {Wr:aY} x xs s (Q:Option ak→ay→Prop) (E:aW),St Wr (x::xs) s→
  (∀v s' (W':aY),(∀a,Wr a→W' a)→(∀a,W' a→Wr a∨s.heap.get? a=af)→Mv Wr G s s'→
   (∀U:aY,(∀a,U a→V a∨W' a)→(∀a,U a→(∃o,s.heap.get? a=aa o)∨W' a)→Rd U s'.heap v x)→St W' xs s'→Q (aa v) s')→ar (aw prog w) A (pyNext I) Q E s
 done:∀ {Wr:aY} s (Q:Option ak→ay→Prop) (E:aW),St Wr [] s→(∀s',Mv Wr G s s'→Q af s')→ar (aw prog w) A (pyNext I) Q E s
 self:∀ {Wr:aY} xs s (Q:aW) (E:aW),St Wr xs s→Q I s→ar (aw prog w) A (pyIter I) Q E s
 own:∀ {Wr:aY} xs s (t:au) v (Q:Unit→ay→Prop) (E:aW),St Wr xs s→Q () s→ar (aw prog w) A (A7 t I v) Q E s
 B5:∀ {Wr:aY} xs s,St Wr xs s→∀g,G g→∃x,s.gens[g]? =aa x
 frame:∀ {Wr:aY} xs s s' Ku H,St Wr xs s→Mv Ku H s s'→(∀a,Ku a→V a∧¬Wr a)→(∀g,H g→¬G g)→St Wr xs s'
 alive:∀ {Wr:aY} xs s,St Wr xs s→∀a,Wr a→∃o,s.heap.get? a=aa o
noncomputable def zB(U:aY)(aT s:ay)(v:ak)(xs:List D):Prop:=
 ∀ (Q E:aW),(∀I Wr G St ai,Ext s ai→(∀a,Wr a→aT.heap.get? a=af)→(∀g,G g→aT.gens[g]? =af)→
  Iter w A (λa=>U a∨s.heap.get? a=af) I G St→St Wr xs ai→Q I ai)→ar (aw prog w) A (pyIter v) Q E s
noncomputable def zE(U:aY)(s:ay)(t:cN ak)(xs:List D):Prop:=
 ∀ (Q E:aW),(∀v ai,Ext s ai→(∀av,Ext ai av→zB w A U s av v xs)→Q v ai)→ar (aw prog w) A t Q E s
end
section
variable{w:cM}
theorem Iter.Ga{I:aE}{fp:List aE}{P:Nat→ak→Prop}{W0:Nat→aP→Prop}(Wk:Walks prog w A I fp [I] n P W0){V:aY}{xs₀:List D}(hn:xs₀.length=n)
  (XF:∀a∈fp,a≠I→¬V a) (XG:∀i h,W0 i h→∃o,h.get? I=aa o)
  (XH:∀i s (t:au) v (Q:Unit→ay→Prop) (E:aW),W0 i s.heap→Q () s→ar (aw prog w) A (A7 t (.ref I) v) Q E s)
  (Ok:aP→Prop) (c0:∀h h':aP,Ok h→(∀a o,¬V a→a≠I→h.get? a=aa o→h'.get? a=aa o)→Ok h')
  (XI:∀i v x h,P i v→xs₀[i]? =aa x→Ok h→∀U:aY,(∀a,U a→V a∨a=I)→Rd U h v x):
  Iter w A V (.ref I) (λZ=>False) (λWr xs s=>Wr=(λa=>a=I)∧∃i,W0 i s.heap∧xs=xs₀.drop i∧i+xs.length=n∧Ok s.heap) where
 next:=λ{Wr} x xs s Q E h hQ=>by
  clear hn;refine E7 h λe9 i h1 h2 h3 h4=>?_;subst e9;have hi:i<n:=by replace h3:=bT▸h3;lia
  refine Wk.item i s Q E hi h1 λv h' tk hp cz hk=>?_;have hx:xs₀[i]? =aa x:=by
   have:(xs₀.drop i)[0]? =aa x:=by refine rS h2 ?_;rfl
   replace this:=Km▸this;simpa using this
  have MW:Ok h':=c0 _ _ h4 λa o Z n e=>hk a o (by simpa using n) e;refine hQ v _ (λa=>a=I) (λZ h=>h) (λZ h=>.inl h) ⟨λa o n e=>hk a o (by simpa using n) e,λZ Z Z e=>e,λe=>e,rfl⟩ (λU hU Z=>XI i v x h' hp hx MW U hU) ⟨rfl,i+1,cz,?_,by replace h3:=bT▸h3;lia,MW⟩;refine rS Ei (rS h2 ?_);rfl
 done:=λ{Wr} s Q E h hQ=>by
  clear hn;refine E7 h λe9 i h1 h2 h3 Z=>?_;subst e9;have:i=n:=by simpa using h3
  subst this;exact Wk.done s Q E h1 λh' tk hk=>hQ _ ⟨λa o n e=>hk a o (by simpa using n) e,λZ Z Z e=>e,λe=>e,rfl⟩
 self:=λ{Wr} xs s Q E h hQ=>by refine uY h λZ i h1 Z=>?_;exact Wk.self i s Q E h1 hQ
 own:=λ{Wr} xs s t v Q E h hQ=>by refine uY h λZ i h1 Z=>?_;exact XH i s t v Q E h1 hQ
 frame:=λ{Wr} xs s s' Ku H h hm nP Z=>by
  clear hn;refine E7 h λe9 i h1 h2 h3 h4=>?_;subst e9;refine⟨rfl,i,Wk.frame i s.heap s'.heap h1 λb hb o e=>?_,h2,h3,c0 _ _ h4 λa o nv ni e=>hm.keep a o (λk=>nv (nP a k).1) e⟩;refine hm.keep b o (λk=>?_) e;by_cases lJ:b=I
  ·exact(nP b k).2 lJ
  ·exact XF b hb lJ (nP b k).1
 B5:=λ{Wr} Z Z Z Z h=>h.elim
 alive:=λ{Wr} xs s h a ha=>by refine uY h λe9 i h1 Z=>?_;subst e9;subst ha;exact XG i _ h1
theorem B6{I:aE}{t:au}{v:ak}{Q:Unit→ay→Prop}(cls:String)(hc:(["enumerate","zip","dict_itemiterator","dict_reverseitemiterator","odict_iterator","itertools.zip_longest","itertools.pairwise"].contains cls)=ag)
  {o:fJ} (ho:s.heap.get? I=aa o) (oR:o.cls=.type cls) (hQ:Q () s):ar (aw prog w) A (A7 t (.ref I) v) Q E s:=by
 have go:ar (aw prog w) A (do
   let(.ref r,.ref a):=(yH I,v)|return
   let o ← load r
   match o.cls,o.data with
   | .type n,.fields vs=>
    if ["enumerate","zip","dict_itemiterator","dict_reverseitemiterator","odict_iterator","itertools.zip_longest","itertools.pairwise"].contains n&&vs[0]? == aa (rawInt a)then
     rule "for.unpacks-the-owned-tuple"
     updateField r 0 .none
   |_,_=>pure ()) Q E s:=by
  induction v with
  |ref a=>
   refine aB (wpAny_load ho ?_);refine rE oR ?_;induction o.data with
   |fields vs=>dsimp only;refine rE hc (rE (ahB ..) (rE (if_neg f9) ?_));exact bz hQ
   |_=>exact bz hQ
  |_=>exact bz hQ
 cases t with
 |Tuple|List=>exact go
 |_=>exact bz hQ
end
section
variable{w:cM}
theorem B7{V:aY}{h:aP}(hV:∀a,V a→U a∨h.get? a=af){xs:List D}(r:aI U h vs xs):aI V h vs xs:=
 r.mono (λZ Z Z e=>e) λa o e n k=>(hV a k).elim n λq=>by replace q:=e▸q;exact zS q
theorem MX(hh:A.handled=af){vs:Array ak}{xs:List D}(jr:Ext aT s)(hl:s.heap.get? a=aa (cy vs n))(hu:¬U a)(r:aI U s.heap vs.toList xs):
  zB w A U aT s (.ref a) xs:=by
 intro Q E hQ;have L:s.heap.IsList a vs:=⟨_,hl,rfl,n,rfl⟩;have bQ:a≠s.heap.objs.size:=iU (jD hl);refine Kq L (hQ _ (λb=>b=s.heap.objs.size) (λZ=>False) _ _ (.push (s:=s) (k:=s.toks)) (λb hb=>?_) (λZ h=>h.elim)
  (Iter.Ga (Ul hh s.heap.objs.size a bQ vs) (xs₀:=xs) (V:=λb=>U b∨s.heap.get? b=af) ?_ ?_ ?_ ?_ (λh=>aI (λb=>U b∨s.heap.get? b=af) h vs.toList xs) ?_ ?_) ?_)
 ·induction q:aT.heap.get? b with
  |none=>rfl
  |some o=>have:=jr.keep b o q;replace this:=hb▸this;exact zN ((eM ..)▸this)
 ·exact rS r.length (rE eL rfl)
 ·intro b hb lJ;simp only[bE,sN,or_false]at hb;rcases hb with rfl|rfl
  ·exact absurd rfl lJ
  ·rintro (h|h)
   ·exact hu h
   ·exact zS (hl▸h)
 ·rintro i h ⟨⟨o,ho,_⟩,_⟩;exact⟨o,ho⟩
 ·rintro i s' t v Q E ⟨⟨o,ho,hc,_⟩,_⟩ hQ;exact B6 "list_iterator" (by decide) ho hc hQ
 ·intro h h' r hk;exact r.mono (λb o n e=>by
   by_cases lJ:b=s.heap.objs.size
   ·subst lJ;exact absurd (.inr (eM _)) n
   ·exact hk b o n lJ e) λZ Z Z n=>n
 ·intro i v x h hp hx c0 U' tx;obtain⟨v',vj,rv⟩:=c0.get hx;replace vj:=iJ (hp▸AS▸vj);subst vj;refine rv.mono (λZ Z Z e=>e) λb o e n k=>n ((tx b k).elim id λq=>.inr (rE q (eM _)))
 ·refine⟨rfl,0,⟨⟨_,eT _ rfl,rfl,rfl⟩,L.push _⟩,by simp,?_,?_⟩
  ·refine rS r.length (rE eL ?_);lia
  ·exact(B7 (V:=λb=>U b∨s.heap.get? b=af) (λb h=>h) r).ext (.push (s:=s) (k:=s.toks))
theorem XJ(hh:A.handled=af){vs:Array ak}{xs:List D}(jr:Ext aT s)(hl:s.heap.get? a=aa (y6 vs n))(hu:¬U a)(r:aI U s.heap vs.toList xs):
  zB w A U aT s (.ref a) xs:=by
 intro Q E hQ;have L:s.heap.IsTuple a vs:=⟨_,hl,rfl,n,rfl⟩;have bQ:a≠s.heap.objs.size:=iU (jD hl);refine ahC L (hQ _ (λb=>b=s.heap.objs.size) (λZ=>False) _ _ (.push (s:=s) (k:=s.toks)) (λb hb=>?_) (λZ h=>h.elim)
  (Iter.Ga (Walks.tuple hh s.heap.objs.size a bQ vs) (xs₀:=xs) (V:=λb=>U b∨s.heap.get? b=af) ?_ ?_ ?_ ?_ (λh=>aI (λb=>U b∨s.heap.get? b=af) h vs.toList xs) ?_ ?_) ?_)
 ·induction q:aT.heap.get? b with
  |none=>rfl
  |some o=>have:=jr.keep b o q;replace this:=hb▸this;exact zN ((eM ..)▸this)
 ·exact rS r.length (rE eL rfl)
 ·intro b hb lJ;simp only[bE,sN,or_false]at hb;rcases hb with rfl|rfl
  ·exact absurd rfl lJ
  ·rintro (h|h)
   ·exact hu h
   ·exact zS (hl▸h)
 ·rintro i h ⟨⟨o,ho,_⟩,_⟩;exact⟨o,ho⟩
 ·rintro i s' t v Q E ⟨⟨o,ho,hc,_⟩,_⟩ hQ;exact B6 "tuple_iterator" (by decide) ho hc hQ
 ·intro h h' r hk;exact r.mono (λb o n e=>by
   by_cases lJ:b=s.heap.objs.size
   ·subst lJ;exact absurd (.inr (eM _)) n
   ·exact hk b o n lJ e) λZ Z Z n=>n
 ·intro i v x h hp hx c0 U' tx;obtain⟨v',vj,rv⟩:=c0.get hx;replace vj:=iJ (hp▸AS▸vj);subst vj;refine rv.mono (λZ Z Z e=>e) λb o e n k=>n ((tx b k).elim id λq=>.inr (rE q (eM _)))
 ·refine⟨rfl,0,⟨⟨_,eT _ rfl,rfl,rfl⟩,L.push _⟩,by simp,?_,?_⟩
  ·refine rS r.length (rE eL ?_);lia
  ·exact(B7 (V:=λb=>U b∨s.heap.get? b=af) (λb h=>h) r).ext (.push (s:=s) (k:=s.toks))
theorem MY:∀ (n i k:Nat),k<n→(kM i n)[k]? =aa (.int ((i+k:Nat):Int))
 |0,_,_,h=>absurd h (Ex _)
 |n+1,i,0,_=>rfl
 |n+1,i,k+1,h=>by show(kM (i+1) n)[k]? =_;refine rE (MY n (i+1) k (Nat.lt_of_succ_lt_succ h)) ?_;congr 3;lia
theorem Gb:∀ (n i:Nat),(kM i n).length=n:=by
 intro L0;induction L0 with
 |zero=>intro _;exact rfl
 |succ n ih=>intro i;exact congrArg (· +1) (ih (i+1))
theorem XK{a b:Int}(ha:0≤a)(xr:a.natAbs<1000000)(hb:b.natAbs<1000000):ahD a b 1∧Uz a b 1=((b - a).toNat:Int):=by
 have eY:Uz a b 1=((b - a).toNat:Int):=by
  unfold Uz;refine rE (if_pos (by decide)) ?_;split
  ·refine rE (Int.ediv_one ..) ?_;lia
  ·lia
 refine⟨?_,eY⟩;have fits:∀x:Int,x.natAbs<10000000→ahE x:=by intro x hx;unfold ahE;refine rE (j0 ..) ?_;rewrite[decide_eq_true_iff];rw[decide_eq_true_iff];exact rf (d4 hx) (by decide) (by decide)
 unfold ahD;have hs:(b - a).toNat<10000000:=jj (Int.toNat_le.mpr (AQ (Int.sub_le_self b ha) Int.le_natAbs)) (ew hb (by decide));refine rE eY ?_;rewrite[fits a (ew xr (by decide))];rewrite[fits b (ew hb (by decide))];rewrite[fits 1 (by decide)];rewrite[fits (((b - a).toNat:Nat):Int) hs];rewrite[if_pos (by decide)];rewrite[fits _ (by lia)];rewrite[Bool.or_true];try with_reducible rfl
 rfl
theorem XM(hh:A.handled=af){r:aE}{a b:Int}{u v:mZ}(jr:Ext aT s)(hr:IsRange s.heap r a b 1 t u v)(ha:0≤a)(xr:a.natAbs<1000000)(hb:b.natAbs<1000000):
  zB w A U aT s (.ref r) (kM a.toNat (b - a).toNat):=by
 intro Q E hQ;obtain⟨MZ,eY⟩:=XK ha xr hb;refine wpAny_pyIter_range hr MZ (hQ _ (λb=>b=s.heap.objs.size) (λZ=>False) _ _ (.push (s:=s) (k:=s.toks)) (λb hb=>?_) (λZ h=>h.elim)
  (Iter.Ga (Walks.range hh s.heap.objs.size a 1 (b - a).toNat) (xs₀:=kM a.toNat (b - a).toNat) (V:=λb=>U b∨s.heap.get? b=af) ?_ ?_ ?_ ?_ (λZ=>True) ?_ ?_) ?_)
 ·induction q:aT.heap.get? b with
  |none=>rfl
  |some o=>have:=jr.keep b o q;replace this:=hb▸this;exact zN ((eM ..)▸this)
 ·exact Gb _ _
 ·intro b hb lJ;simp only[bE,sN,or_false]at hb;exact absurd hb lJ
 ·intro i h ho;exact⟨_,ho⟩
 ·intro i s' t v Q E ho hQ;exact B6 "range_iterator" (by decide) ho rfl hQ
 ·intro _ _ _ _;trivial
 ·intro i v x h hp hx _ U' tx;clear tx hQ E Q hb MZ xr;obtain⟨t,rfl⟩:=hp;have hi:i<(b - a).toNat:=by have:=LS hx;rwa [Gb]at this
  replace hx:=iJ (MY _ _ _ hi▸hx);subst hx;have:(a+(i:Int) * 1)=((a.toNat+i:Nat):Int):=by lia
  exact rE this (.int _ _)
 ·refine⟨rfl,0,?_,by simp,?_,trivial⟩
  ·show IsRangeIter _ _ (a+((0:Nat):Int) * 1) ((((b - a).toNat:Nat):Int) - ((0:Nat):Int)) 1;refine rE (show a+((0:Nat):Int) * 1=a by lia) (rE (show(((b - a).toNat:Nat):Int) - ((0:Nat):Int)=((b - a).toNat:Nat)by lia) (rS eY ?_));exact eT _ rfl
  ·refine rE (Gb ..) ?_;lia
end
section
variable{w:cM}
theorem XN{I:aE}{fp:List aE}{P:Nat→ak→Prop}{W0:Nat→aP→Prop}(Wk:Walks prog w A I fp [I] n P W0):∀ (k i:Nat) (s:ay) (Q:List ak→ay→Prop) (E:aW),W0 i s.heap→i+k≤n→
  (∀vs h' tk,vs.length=k→(∀j v,vs[j]? =aa v→P (i+j) v)→W0 (i+k) h'→(∀b o,b≠I→s.heap.get? b=aa o→h'.get? b=aa o)→Q vs {s with heap:=h',toks:=tk})→ar (aw prog w) A (draw (.ref I) k) Q E s:=by
 intro k;induction k with
 |zero=>intro i s Q E cz _ hQ;show ar _ _ (pure []) Q E s;exact bz (hQ [] s.heap s.toks rfl (λj v h=>by simp at h) cz λZ Z Z e=>e)
 |succ k ih=>
  intro i s Q E cz hle hQ;show ar _ _ (pyNext (.ref I) >>= _) Q E s;refine aB (Wk.item i s _ _ (by lia) cz λv h₁ tA hp XO Ge=>?_);refine aB (ji (ih (i+1) _ _ _ XO (by lia) λvs ey M0 hl hP vk xt=>bz ?_));refine hQ (v::vs) ey M0 (rE bT (rE hl rfl)) (λj u hj=>?_) (rE (show i+(k+1)=i+1+k by lia) vk) λb o hb e=>xt b o hb (Ge b o (by simpa using hb) e);induction j using lq with
  |zero=>simp at hj;subst hj;exact hp
  |succ j=>exact rE (show i+(j+1)=i+1+j by lia) (hP j u (by simpa using hj))
theorem M1{v:ak}{T id:String}{P:Nat→ak→Prop}(hT:s.TypeIs v T)(lH:UA T "__iter__" id)
  (hit:∀ (Q E:aW),(∀I fp W0 ai,Walks prog w A I fp [I] n P W0→s.heap.get? I=af→Ext s ai→W0 0 ai.heap→Q (.ref I) ai)→ar (aw prog w) A (pyIter v) Q E s)
  {Q:List ak→ay→Prop}{E:aW} (hQ:∀vs s',vs.length=n→(∀j u,vs[j]? =aa u→P j u)→Ext s s'→Q vs s'):ar (aw prog w) A (unpackItems v n af) Q E s:=by
 unfold unpackItems;refine aB ?_
 ·unfold notIterableAtAll;refine aB (wpAny_specialOf hT lH.lookup ?_);refine bz ?_;simp only[yy,if_false];refine aB (ji (hit _ _ λI fp W0 ai Wk hI aq cz=>?_));refine aB (ji (XN Wk n 0 _ _ _ cz (by lia) λvs ey M0 hl hP vk xt=>?_));refine rE (if_neg (by refine rE hl ?_;exact qF n)) ?_;replace vk:=(ll ..)▸vk;refine aB (ji (Wk.done _ _ _ vk λkY aiA XQ=>?_));simp only[Option.isSome_none,yy,if_false];refine bz (hQ vs _ hl (λj u hj=>by have:=hP j u hj;rwa [ll]at this) ?_);refine⟨λb o e=>?_,λg x e=>aq.gens g x e,λe=>aq.bare e,aq.os⟩;have hb:b≠I:=λq=>by subst q;replace e:=hI▸e;exact zN e
  exact XQ b o (by simpa using hb) (xt b o hb (aq.keep b o e))
set_option tactic.hygienic true in
theorem Gf(hh:A.handled=af){v:ak}{xs:List D}(r:Rd U s.heap v d)(hd:d=.list xs∨d=.tuple xs){Q:List ak→ay→Prop}
  (hQ:∀vs s',Ext s s'→aI U s'.heap vs xs→Q vs s'):ar (aw prog w) A (unpackItems v xs.length af) Q E s:=by
 have fin:∀ {items:Array ak}{vs:List ak},aI U s.heap items.toList xs→vs.length=xs.length→(∀ (j:Nat) (u:ak),vs[j]? =aa u→items[j]? =aa u)→vs=items.toList:=by
  intro items vs r hl hP;apply List.ext_getElem?;intro j;have hlen:=r.length;by_cases hj:j<vs.length
  ·obtain⟨u,hu⟩:∃u,vs[j]? =aa u:=⟨_,ly hj⟩;refine rE hu (rE (AS) ?_);exact rE (hP j u hu) rfl
  ·refine rE (Us (by lia)) ?_;exact rE (Us (by lia)) rfl
 rcases hd with rfl|rfl
 ·cases r with
  |list hl hu r=>
   rename_i a items n;have L:s.heap.IsList a items:=⟨_,hl,rfl,n,rfl⟩;have bQ:a≠s.heap.objs.size:=iU (jD hl);refine M1 (P:=λi v=>items[i]? =aa v) L.typeIs F.slot_list_iter (λQ E h=>Kq L (h s.heap.objs.size [s.heap.objs.size,a] (λi h=>h.IsListIter s.heap.objs.size a i∧h.IsList a items) _ ?_ (eM _) (.push (s:=s) (k:=s.toks)) ⟨⟨_,eT _ rfl,rfl,rfl⟩,L.push _⟩)) λvs s' pS hP x=>?_
   ·have:=Ul (prog:=prog) (w:=w) hh s.heap.objs.size a bQ items;have e:items.size=xs.length:=by exact rS r.length (rE eL rfl)
    rwa [e]at this
   ·exact rE (fin r pS hP) (hQ _ s' x (r.ext x))
 ·cases r with
  |tup hl hu r=>
   rename_i a items n;have L:s.heap.IsTuple a items:=⟨_,hl,rfl,n,rfl⟩;have bQ:a≠s.heap.objs.size:=iU (jD hl);refine M1 (P:=λi v=>items[i]? =aa v) L.typeIs F.slot_tuple_iter (λQ E h=>ahC L (h s.heap.objs.size [s.heap.objs.size,a] (λi h=>h.IsTupleIter s.heap.objs.size a i∧h.IsTuple a items) _ ?_ (eM _) (.push (s:=s) (k:=s.toks)) ⟨⟨_,eT _ rfl,rfl,rfl⟩,L.push _⟩)) λvs s' pS hP x=>?_
   ·have:=Walks.tuple (prog:=prog) (w:=w) hh s.heap.objs.size a bQ items;have e:items.size=xs.length:=by exact rS r.length (rE eL rfl)
    rwa [e]at this
   ·exact rE (fin r pS hP) (hQ _ s' x (r.ext x))
variable{K:Kt}
theorem mE(k:dg ks env)(h:dz (aV x ks)):env.kindOf x=aa .local∨env.kindOf x=aa .cell:=by
 induction q:aV x ks with
 |none=>replace h:=q▸h;exact zF h
 |some kd=>
  replace h:=q▸h;induction kd<;>first|cases h|skip
  ·rcases k x _ q with e| ⟨e,_⟩
   ·exact .inl e
   ·cases e
  ·rcases k x _ q with e| ⟨e,_⟩
   ·exact .inr e
   ·cases e
theorem rF{X:Cx}{e:au}(h:kT X ks e=aa i):∃x p,e=.Name x p∧dz (aV x ks)∧aZ x X.names=aa i:=oE h λx h1 h=>xE (xd h1) λp e=>xA (cj h) λh1 h2=>⟨x,p,e,h1,h2⟩
theorem Gg{l:List D}{a b:D}(h:two? l=aa (a,b)):l=[a,b]:=by
 induction l using bj with
 |nil=>exact zN h
 |cons x r=>induction r with
  |nil=>exact zN h
  |cons y q=>induction q with
   |nil=>replace h:=iJ h;refine iP h λe1 e2=>?_;clear h;subst e1;subst e2;rfl
   |cons=>exact zN h
theorem M3{x:D}(h:eU tg x ρ=aa ρ'):(∃i,tg=.one i∧ρ'=put ρ i (.val x))∨∃i j a b,tg=.two i j∧ny x=aa [a,b]∧ρ'=put (put ρ i (.val a)) j (.val b):=by
 induction tg with
 |one i=>replace h:=iJ h;subst h;exact .inl ⟨i,rfl,rfl⟩
 |two i j=>refine oE (h:(ny x).bind _=_) λl h0 h1=>oE h1 λp hp h2=>?_;replace h2:=iJ h2;subst h2;exact .inr ⟨i,j,p.1,p.2,rfl,by refine rE h0 ?_;exact rE (Gg hp) rfl,rfl⟩
theorem XR(hh:A.handled=af){t:au}{v:ak}{x:D}(hk:dg ks env)(I:bJ K U env hs ρ s)(ht:jo K.X ks t=aa tg)
  (hb:eU tg x ρ=aa ρ') (r:Rd U s.heap v x) {Q:Unit→ay→Prop}{E:aW} (hQ:∀s',bJ K U env hs ρ' s'→Mv (eG ks env) (λZ=>False) s s'→Q () s'):ar (aw prog K.w) A (assign t env v) Q E s:=by
 unfold jo at ht;induction hn:kT K.X ks t with
 |some i=>replace ht:=iJ (hn▸ht);subst ht;replace hb:=iJ hb;subst hb;refine cK (rF hn) λy q e9 h1 hi=>?_;subst e9;exact qP (I.store (sl:=.val x) hi h1 (mE hk h1) r λs' I' m=>hQ s' I' m.mv)
 |none=>
  replace ht:=hn▸ht;refine oE ht λes he ht=>oE ht λp2 hp ht=>oE ht λi hi ht=>oE ht λj hj rG=>?_;clear hn ht;clear ht;refine lD (BK he) λk p e9=>?_;subst e9;clear ht he;obtain rfl:=zw hp;obtain⟨e1,e2⟩:=p2;refine cK (rF hi) λy q h3 h1 vm=>cK (rF hj) λz q' h4 h2 vo=>?_;clear hi hj;have h3:e1=_:=h3;have h4:e2=_:=h4;clear ht hp;subst h3 h4;induction jO:az i j with
  |true=>exact zN (jO▸rG)
  |false=>clear h4 h3;replace rG:=iJ (jO▸rG);subst rG;refine oE (hb:(ny x).bind _=_) λl hx vp=>oE vp λab hl pT=>?_;clear hb vp;obtain⟨a,b⟩:=ab;obtain rfl:=Gg hl;clear hl;replace pT:=iJ pT;subst pT;refine rE (KG ..) (aB (kJ ?_));show ar _ A (unpack v [(ag,assign (.Name y q) env),(ag,assign (.Name z q') env)]) Q E s;unfold unpack;refine aB (ji (Gf hh r (xs:=[a,b]) (w8 hx) λvs ai aq rv=>?_));clear hx p k;refine cK (xp rv) λva vb e9 ra rb=>?_;subst e9;show ar _ A (Ey [assign (.Name y q) env,assign (.Name z q') env] [va,vb]) Q E ai;refine wM (qP ((I.ext aq).store (sl:=.val a) vm h1 (mE hk h1) ra λav gD m₂=>?_));refine wM (qP (gD.store (sl:=.val b) vo h2 (mE hk h2) (m₂.slot (sl:=.val b) (hs:=hs) (I.ext aq).bu rb) λaR pU tB=>Ez ?_));exact hQ aR pU ((aq.mv).trans (m₂.mv.trans tB.mv))
end
section
variable{K:Kt}{C:ma}{A:dU}{ks:cT}
theorem kg.mono{h:aP}{v:ak}(hk:∀a o,h.get? a=aa o→h'.get? a=aa o)(hu:∀a o,h.get? a=aa o→¬U a→¬U' a)(r:kg K U h hs v sl):kg K U' h' hs v sl:=by
 induction sl with
 |val d=>exact Rd.mono (λa o Z e=>hk a o e) hu r
 |own xs=>exact ic r λa vs n e1 e3 e4=>⟨a,vs,n,e1,hk _ _ e3,e4.mono (λa o Z e=>hk a o e) hu⟩
 |cU i=>exact Lz r λt e0 a l e1 r=>⟨t,e0,a,l,e1,r.mono (λa o Z e=>hk a o e) hu λZ Z e=>hk _ _ e⟩
 |fO l=>exact nJ.mono r (λa o Z e=>hk a o e) hu
theorem bJ.grow(I:bJ K U env hs ρ s)(x:Ext s s')(hU:∀a,U a→U' a)(hn:∀a,U' a→U a∨s.heap.get? a=af)(ha:UB U' s'):bJ K U' env hs ρ s':=by
 have hu:∀a o,s.heap.get? a=aa o→¬U a→¬U' a:=λa o e n k=>(hn a k).elim n λq=>by replace q:=e▸q;exact zS q
 exact⟨I.bH.mono (λa o Z e=>x.keep a o e) hu,ha,I.kind,I.gl,I.bi,⟨let⟨a,b⟩:=(I.bu.ext x).loc;⟨hU _ a,b⟩,λy c e=>let⟨a,b⟩:=(I.bu.ext x).fR y c e;⟨hU _ a,b⟩,I.bu.inj,I.bu.has⟩,
  λy i sl a b c=>let⟨v,p,q⟩:=I.vars y i sl a b c;⟨v,p.ext x,q.mono x.keep hu⟩⟩
theorem bJ.sub(I:bJ K U env hs ρ' s)(h:∀i sl,get ρ i=aa sl→get ρ' i=aa sl):bJ K U env hs ρ s:=
 ⟨I.bH,I.ub,I.kind,I.gl,I.bi,I.bu,λy i sl a b c=>I.vars y i sl a (h i sl b) c⟩
variable(K)in
noncomputable def Base(env:bF)(hs:Hs)(ρ:aM)(sb:ay)(Ub:aY):Prop:=
 ∀s',Ext sb s'→∀U:aY,(∀a,U a→Ub a∨sb.heap.get? a=af)→∀x i sl,(∀d,sl≠.val d)→aZ x K.X.names=aa i→get ρ i=aa sl→d8 (env.kindOf x)→
  ∃v,fQ env s'.heap x v∧kg K U s'.heap hs v sl
theorem Base.put(B:Base K env hs ρ sb Ub)(i:Nat)(d:D):Base K env hs (put ρ i (.val d)) sb Ub:=by
 intro s' x U hU y j sl hn hj hg hk;by_cases lI:j=i
 ·subst lI;replace hg:=iJ ((kX ..)▸hg);subst hg;exact absurd rfl (hn d)
 ·rw[fS _ lI]at hg;exact B s' x U hU y j sl hn hj hg hk
theorem Base.eU{x:D}(B:Base K env hs ρ sb Ub)(h:eU tg x ρ=aa ρ'):Base K env hs ρ' sb Ub:=by
 rcases M3 h with⟨i,_,rfl⟩| ⟨i,j,a,b,_,_,rfl⟩
 ·exact B.put _ _
 ·exact(B.put _ _).put _ _
noncomputable def dm(env:bF):aE→Prop:=λa=>a=env.locals∨∃x,env.cells.lookup x=aa a
theorem mF(h:eG ks env a):dm env a:=h.elim .inl λ⟨x,_,e⟩=>.inr ⟨x,e⟩
theorem jq.dm{h:aP}(f:jq U env h)(k:dm env a):U a:=by
 rcases k with rfl| ⟨x,e⟩
 ·exact f.loc.1
 ·exact(f.fR x a e).1
theorem bJ.xu{U0:aY}{G:Nat→Prop}(I:bJ K U env hs ρ s)(B:Base K env hs ρ sb Ub)(x:Ext sb s')(m:Mv Ku G s s')
  (pV:∀a,U0 a→U a) (hF:∀a,dm env a→U0 a)
  (oS:∀a,Ku a→U a) (nQ:∀a,U a→Ub a∨sb.heap.get? a=af) (ha:∀a,Ku a→U0 a→∃o,s'.heap.get? a=aa o) (cC:∀a,dm env a→¬Ku a):bJ K U0 env hs ρ s':=by
 have hk:∀a o,¬U a→s.heap.get? a=aa o→s'.heap.get? a=aa o:=λa o n e=>m.keep a o (λk=>n (oS a k)) e;have hu:∀a (o:fJ),s.heap.get? a=aa o→¬U a→¬U0 a:=λa Z Z n k=>n (pV a k);have cell:∀ {y c v},env.cells.lookup y=aa c→s.heap.IsCell c v→s'.heap.IsCell c v:=λ{y c v} hy q=>let⟨o,ho,hd⟩:=q;⟨o,m.keep _ _ (cC c (.inr ⟨y,hy⟩)) ho,hd⟩
 have ns:∀ {m'},s.heap.Ns env.locals m'→s'.heap.Ns env.locals m':=λ{m'} q=>let⟨o,es,ep,ho,r⟩:=q;⟨o,es,ep,m.keep _ _ (cC _ (.inl rfl)) ho,r⟩
 refine⟨I.bH.mono hk hu,λa hu=>?_,I.kind,I.gl,I.bi,⟨let⟨a,b,c⟩:=I.bu.loc;⟨hF _ (.inl rfl),b,ns c⟩,λy c e=>let⟨a,b,d⟩:=I.bu.fR y c e;⟨hF _ (.inr ⟨y,e⟩),b,cell e d⟩,I.bu.inj,I.bu.has⟩,λy i sl a b c=>?_⟩
 ·refine xE (I.ub a (pV a hu)) λo e=>?_;induction q:s'.heap.get? a with
  |some o'=>exact⟨o',rfl⟩
  |none=>
   by_cases hK:Ku a
   ·exact xE (ha a hK hu) λo' e'=>zS (e'▸q)
   ·exact zS (m.keep a o hK e▸q)
 ·by_cases hv:∃d,sl=.val d
  ·refine xE hv λd e9=>?_;subst e9;refine aD (I.vars y i _ a b c) λv p q=>⟨v,?_,Rd.mono hk hu q⟩;rcases p with⟨k1,m',n',e'⟩| ⟨k1,c',e1,e2⟩
   ·exact .inl ⟨k1,m',ns n',e'⟩
   ·exact .inr ⟨k1,c',e1,cell e1 e2⟩
  ·exact B s' x U0 (λa h=>nQ a (pV a h)) y i sl (λd e=>hv ⟨d,e⟩) a b c
theorem bJ.Gh{U0:aY}{G:Nat→Prop}(I:bJ K U env hs ρ s)(B:Base K env hs ρ sb Ub)(x:Ext sb s')(m:Mv Ku G s s')
  (pV:∀a,U a→U0 a) (hn:∀a,U0 a→U a∨s.heap.get? a=af)
  (oS:∀a,Ku a→U a) (nQ:∀a,U0 a→Ub a∨sb.heap.get? a=af) (ha:UB U0 s') (cC:∀a,dm env a→¬Ku a):bJ K U0 env hs ρ s':=by
 have hk:∀a o,¬U a→s.heap.get? a=aa o→s'.heap.get? a=aa o:=λa o n e=>m.keep a o (λk=>n (oS a k)) e;have hu:∀a (o:fJ),s.heap.get? a=aa o→¬U a→¬U0 a:=λa Z e n k=>(hn a k).elim n λq=>by replace q:=e▸q;exact zS q
 have cell:∀ {y c v},env.cells.lookup y=aa c→s.heap.IsCell c v→s'.heap.IsCell c v:=λ{y c v} hy q=>let⟨o,ho,hd⟩:=q;⟨o,m.keep _ _ (cC c (.inr ⟨y,hy⟩)) ho,hd⟩
 have ns:∀ {m'},s.heap.Ns env.locals m'→s'.heap.Ns env.locals m':=λ{m'} q=>let⟨o,es,ep,ho,r⟩:=q;⟨o,es,ep,m.keep _ _ (cC _ (.inl rfl)) ho,r⟩
 refine⟨I.bH.mono hk hu,ha,I.kind,I.gl,I.bi,⟨let⟨a,b,c⟩:=I.bu.loc;⟨pV _ a,b,ns c⟩,λy c e=>let⟨a,b,d⟩:=I.bu.fR y c e;⟨pV _ a,b,cell e d⟩,I.bu.inj,I.bu.has⟩,λy i sl a b c=>?_⟩
 ·by_cases hv:∃d,sl=.val d
  ·refine xE hv λd e9=>?_;subst e9;refine aD (I.vars y i _ a b c) λv p q=>⟨v,?_,Rd.mono hk hu q⟩;rcases p with⟨k1,m',n',e'⟩| ⟨k1,c',e1,e2⟩
   ·exact .inl ⟨k1,m',ns n',e'⟩
   ·exact .inr ⟨k1,c',e1,cell e1 e2⟩
  ·exact B s' x U0 (nQ) y i sl (λd e=>hv ⟨d,e⟩) a b c
theorem bJ.Gi{G:Nat→Prop}(I:bJ K U env hs ρ s)(B:Base K env hs ρ sb Ub)(x:Ext sb s')(m:Mv Ku G s s')
  (oS:∀a,Ku a→U a) (nQ:∀a,U a→Ub a∨sb.heap.get? a=af) (ha:∀a,Ku a→∃o,s'.heap.get? a=aa o) (cC:∀a,dm env a→¬Ku a):bJ K U env hs ρ s':=
 I.xu B x m (λZ h=>h) (λZ h=>I.bu.dm h) oS nQ (λa h Z=>ha a h) cC
noncomputable def iX(U:aY)(D:aE)(s:ay)(ys:List Ev.D):Prop:=U D∧∃vs n,s.heap.get? D=aa (cy vs n)∧aI U s.heap vs.toList ys
theorem iX.Gi{G:Nat→Prop}{D:aE}{ys:List Ev.D}(d:iX U D s ys)(m:Mv Ku G s s')(oS:∀a,Ku a→U a)(hD:¬Ku D):iX U D s' ys:=mu d λh vs n e r=>⟨h,vs,n,m.keep _ _ hD e,r.mono (λa o n e=>m.keep a o (λk=>n (oS a k)) e) λZ Z Z n=>n⟩
theorem iX.xu{U0:aY}{G:Nat→Prop}{D:aE}{ys:List Ev.D}(d:iX U D s ys)(m:Mv Ku G s s')(pV:∀a,U0 a→U a)(oS:∀a,Ku a→U a)(hD:¬Ku D)(h0:U0 D):iX U0 D s' ys:=mu d λh vs n e r=>⟨h0,vs,n,m.keep _ _ hD e,r.mono (λa o n e=>m.keep a o (λk=>n (oS a k)) e) λa Z Z n k=>n (pV a k)⟩
theorem iX.Gh{U0:aY}{G:Nat→Prop}{D:aE}{ys:List Ev.D}(d:iX U D s ys)(m:Mv Ku G s s')(pV:∀a,U a→U0 a)(hn:∀a,U0 a→U a∨s.heap.get? a=af)(oS:∀a,Ku a→U a)(hD:¬Ku D):iX U0 D s' ys:=by refine mu d λh vs n e r=>?_;exact⟨pV _ h,vs,n,m.keep _ _ hD e,r.mono (λa o n e=>m.keep a o (λk=>n (oS a k)) e) λa Z e n k=>(hn a k).elim n λq=>by replace q:=e▸q;exact zS q⟩
theorem iX.ext{D:aE}{ys:List Ev.D}(d:iX U D s ys)(x:Ext s s'):iX U D s' ys:=mu d λh vs n e r=>⟨h,vs,n,x.keep _ _ e,r.ext x⟩
theorem XS:∀ (es:List au),(forIn es ag λc r=>if r then do let ok ← isTrue c env (eval c env);pure (sO ok)else pure (sO r):cN Bool)=pure ag:=by
 intro es;induction es with
 |nil=>rfl
 |cons e es ih=>exact rE (KH ..) (rE (if_neg f9) ih)
theorem XT(hk:dg ks env)(hl:cZ K C A ks es rs):∀ {s:ay}{b:Bool},bJ K U env hs ρ s→oK K.tk C hs rs ρ=aa (b,ae)→
  BX K.w A s (forIn es ae λc r=>if r then do let ok ← isTrue c env (eval c env);pure (sO ok)else pure (sO r)) b:=by
 induction hl with
 |nil=>intro s b I h;obtain rfl:=W.bp (h:W.ret ae=_);exact λQ E hQ=>bz (hQ s (.refl s))
 |cons _ he hr ih=>
  intro s b I h Q E hQ;refine wE (h:W.bind _ _=_) λx hx h=>oE h λq hb h=>rE (KH ..) (rE (if_pos rfl) ?_);refine aB (aB ((he U env hs ρ s x hk I hx).2 _ hb _ _ λai aq=>bz ?_));induction q with
  |true=>exact ih (I.ext aq) h _ _ λav aC=>hQ av (aq.trans aC)
  |false=>obtain rfl:=W.bp h;show ar _ A (forIn _ ag _) Q E ai;exact rE (XS ..) (bz (hQ ai aq))
variable(K C A ks)in
noncomputable def pW(it:au)(ri:RI):Prop:=(∀env x,uF it env x=pure x)∧
 ∀U env hs ρ s xs,dg ks env→bJ K U env hs ρ s→fP K.tk C hs ri ρ=aa (xs,ae)→zE K.w A U s (eval it env) xs
variable(K C A ks)in
inductive rH:List sE→kK→Prop
 |nil:rH [] .nil
 |cons {t it ifs gs tg ri ris rgs:_}:jo K.X ks t=aa tg→pW K C A ks it ri→cZ K C A ks ifs ris→rH gs rgs→rH (⟨t,it,ifs,0⟩::gs) (.cons tg ri ris rgs)
theorem M4{x:D}(h:eU tg x ρ=aa ρ')(hj:j∉ke tg):get ρ' j=get ρ j:=by
 rcases M3 h with⟨i,rfl,rfl⟩| ⟨i,k,a,b,rfl,_,rfl⟩
 ·exact fS _ (λe=>hj (by refine rE e ?_;exact .head _)) _
 ·rewrite[fS _ (λe=>hj (by refine rE e ?_;exact .tail _ (.head _)))];rw[fS _ (λe=>hj (by refine rE e ?_;exact .head _))]
theorem M5{x:D}(h:eU tg x ρ=aa ρ')(hf:∀i∈ke tg,get ρ i=af)(i:Nat)(sl:bA)(e:get ρ i=aa sl):get ρ' i=aa sl:=rE (M4 h (λhm=>by replace e:=hf i hm▸e;exact zN e)) e
end
theorem XU{iv acc:ak}{t:au}(hg:gens[k]? =aa ⟨t,it,ifs,0⟩):
  compTurn (.ListComp elt gens scope pos) k iv acc env=(do
   oy it.pos
   match ← pyNext iv with
   |none=>pure (.done .next)
   |some v=>
    A7 t iv v
    assign t env v
    let mut ok:=ae
    for c in ifs do
     if ok then ok ← isTrue c env (eval c env)
    if ok then
     match gens[k+1]? with
     |some g'=>
      let x ← eval g'.iter env
      oy g'.iter.pos
      let x ← if g'.is_async !=0 then foldedIterable g'.iter x else uF g'.iter env x
      let _ ← runOwn (.compStart (.ListComp elt gens scope pos) (k+1) (← holding [x] (if g'.is_async !=0 then asyncIter x else pyIter x)) acc env) env
     |none=>(do let _ ← call (.builtin "list.append") [acc,← eval elt env])
    again (.compLoop (.ListComp elt gens scope pos) k iv acc env)):=by
 unfold compTurn;simp only[hg];rfl
section
variable{w:cM}
theorem B8{vs:Array ak}{x:ak}(hl:s.heap.get? l=aa (cy vs n))(hz:vs.size≤qG)
  (hQ:∀h' n',h'.get? l=aa (cy (vs.push x) n')→yI l s.heap h'→Q .none {s with heap:=h'}):
  ar (aw prog w) A (call (.builtin "list.append") [.ref l,x]) Q E s:=by
 refine yz slot_list_append ⟨_,hl,rfl⟩ entry_list_append ?_ (args_list_append _ _);show ar _ _ (updateSeq l (·.push x) >>= λZ=>ret .none) _ _ s;exact aB (wpAny_updateSeq hl rfl (bz ⟨.none,rfl,hQ _ _ (KI _ hl rfl) (A8 ..)⟩) hz (by refine rE (Array.size_push ..) ?_;lia))
theorem M6{it acc:ak}{g:sE}{R:wH→ay→Prop}(hg:gens[k]? =aa g)(ha:(g.is_async !=0)=ag)
  (h0:uG (aw prog w) A (.compLoop (.ListComp elt gens scope pos) k it acc env) R s)
  (h:ar (aw prog w) A (pyIter it) (λzG s'=>uG (aw prog w) A (.compLoop (.ListComp elt gens scope pos) k zG acc env) R s')
   (notedBy (aw prog w) A env λx s'=>R (.error x) s') s):
  uG (aw prog w) A (.compStart (.ListComp elt gens scope pos) k it acc env) R s:=by
 refine codeAny_of_tree ?_;show ar _ _ ((compStart (.ListComp elt gens scope pos) k it acc env).onRaise (λx=>do noteFrame x env;oy theWindowsPlace)) _ _ s;refine wpAny_notedAt ?_;unfold compStart;have hc:((clausesOf (.ListComp elt gens scope pos))[k]?).elim ag (·.is_async !=0)=ag:=by show(gens[k]?).elim ag _=ag;exact rE hg ha
 refine rE hc ?_;show ar _ _ (ask >>= _) _ _ s;refine aB (wpAny_askSetting (wpAny_ite ?_));have rI:(clausesOf (.ListComp elt gens scope pos))[k]? =aa g:=hg;split
 ·first
   |exact aB (bz (bz (Kc rfl h0)))
   |exact bz (Kc rfl h0)
 ·refine aB (EA ?_);refine rE rI ?_;show ar _ _ (oy g.iter.pos >>= _) _ _ s;exact aB (kJ (aB (ib h (λzG s' h'=>bz (Kc rfl h')) λZ Z x=>x)))
end
noncomputable def xv(elt:au)(gens:List sE)(scope:m4)(pos:aO)(k:Nat)(acc:ak)(env:bF)(fin:cN Fin):cN Fin:=
 match gens[k+1]? with
 |some g'=>do
  let x ← eval g'.iter env
  oy g'.iter.pos
  let x ← uF g'.iter env x
  let __do_lift ← holding [x] (pyIter x)
  let _ ← runOwn (.compStart (.ListComp elt gens scope pos) (k+1) __do_lift acc env) env
  fin
 |none=>((do let _ ← call (.builtin "list.append") [acc,← eval elt env]):cN Unit) >>= λZ=>fin
theorem XW{iv acc:ak}{t:au}(hg:gens[k]? =aa ⟨t,it,ifs,0⟩)(hz:∀g,gens[k+1]? =aa g→g.is_async=0):
  compTurn (.ListComp elt gens scope pos) k iv acc env=(do
   oy it.pos
   match ← pyNext iv with
   |none=>pure (.done .next)
   |some v=>
    A7 t iv v
    assign t env v
    let ok ← forIn ifs ae λc r=>if r then do let ok ← isTrue c env (eval c env);pure (sO ok)else pure (sO r)
    if ok then xv elt gens scope pos k acc env (again (.compLoop (.ListComp elt gens scope pos) k iv acc env))else
    again (.compLoop (.ListComp elt gens scope pos) k iv acc env)):=by
 refine rE (XU hg) ?_;unfold xv;congr 1;funext _;congr 1;funext r;induction r with
 |none=>rfl
 |some v=>
  dsimp only;congr 1;funext _;congr 1;funext _;congr 1;funext ok;induction ok with
  |false=>rfl
  |true=>
   simp only[if_true];induction q:gens[k+1]? with
   |none=>rfl
   |some g'=>obtain⟨t',zG,M7,a'⟩:=g';have:=hz _ q;dsimp only at this;subst this;rfl
theorem XX{f:α→W (List β)}{x:α}{xs:List α}{zs:List β}(h:lB f (x::xs)=aa (zs,ae)):∃a b,f x=aa (a,ae)∧lB f xs=aa (b,ae)∧zs=a++b:=wE (h:W.bind _ _=_) λa h1 h=>wE h λb h2 h=>⟨a,b,h1,h2,(W.bp h).symm⟩
theorem Mv.trans'{vh:aY}{G G':Nat→Prop}{a b c:ay}(x:Mv Ku G a b)(y:Mv vh G' b c)(h:∀d,vh d→Ku d∨a.heap.get? d=af)(g:∀d,G' d→G d∨a.gens[d]? =af):Mv Ku G a c:=
 ⟨λd o n e=>y.keep d o (λk=>(h d k).elim n λq=>by replace q:=e▸q;exact zS q) (x.keep d o n e),
  λd o n e=>y.gens d o (λk=>(g d k).elim n λq=>by replace q:=e▸q;exact zS q) (x.gens d o n e),λe=>y.bare (x.bare e),y.os.trans x.os⟩
theorem Mv.alive{G:Nat→Prop}{a b:ay}(x:Mv Ku G a b)(h:∀d,Ku d→(∃o,b.heap.get? d=aa o)∨a.heap.get? d=af){d:aE}(e:b.heap.get? d=af):a.heap.get? d=af:=by
 induction q:a.heap.get? d with
 |none=>rfl
 |some o=>
  by_cases k:Ku d
  ·rcases h d k with⟨o',e'⟩|e'
   ·exact zS (e'▸e)
   ·exact zS (q▸e')
  ·exact zS (x.keep d o k q▸e)
section
variable{K:Kt}{C:ma}{A:dU}{ks:cT}
variable(K C)in
noncomputable def rJ(hs:Hs)(tg:jl)(ris:bf)(rgs:kK)(relt:RE)(ρ:aM)(x:D):W (List D):=(eU tg x ρ).bind λρ'=>W.bind (oK K.tk C hs ris ρ') λb=>cond b (w6 K.tk C hs rgs (λρ'=>ev K.tk C hs relt ρ') ρ') (W.ret [])
structure B9(V Wr:aY)(G:Nat→Prop)(U0:aY)(ks:cT)(bB:bF)(D:aE)(sb:ay):Prop where
 fr:∀a,eG ks bB a∨a=D→V a
 fa:∀a,dm bB a∨a=D→¬Wr a∧U0 a
 dj:∀a,U0 a→¬Wr a
 uv:∀a,U0 a→V a∨Wr a
 wb:∀a,Wr a→sb.heap.get? a=af
 gb:∀g,G g→sb.gens[g]? =af
structure Gj(ks:cT)(bB:bF)(D:aE)(sb:ay):Prop where
 M8:¬dm bB D
 XY:sb.heap.get? D=af
 XZ:∀a,eG ks bB a→sb.heap.get? a=af
noncomputable def BodyOk(K:Kt)(A:dU)(ks:cT)(bB:bF)(hs:Hs)(D:aE)(sb:ay)(Ub:aY)(tree:cN Fin→cN Fin)(ids:ax)(f:aM→W (List Ev.D)):Prop:=
 ∀U ρ s ys zs (fin:cN Fin) (Q:Fin→ay→Prop) (E:aW),(∀a,U a→Ub a∨sb.heap.get? a=af)→Base K bB hs ρ sb Ub→ids.Nodup→(∀i∈ids,get ρ i=af)→bJ K U bB hs ρ s→iX U D s ys→Ext sb s→
  f ρ=aa (zs,ae)→ys.length+zs.length≤1000000→
  (∀s',bJ K U bB hs ρ s'→iX U D s' (ys++zs)→Ext sb s'→(∀Ku H,(∀a,(eG ks bB a∨a=D)∨s.heap.get? a=af→Ku a)→(∀g,s.gens[g]? =af→H g)→Mv Ku H s s')→(∀a,s'.heap.get? a=af→s.heap.get? a=af)→ar (aw prog K.w) A fin Q E s')→
  ar (aw prog K.w) A (tree fin) Q E s
inductive CI(Wr:aY)(St:(aE→Prop)→List Ev.D→ay→Prop)(EI:(aE→Prop)→ay→Prop)(DA:(aE→Prop)→ay→List Ev.D→Prop)(fm:List Ev.D→W (List Ev.D))(sb s:ay)(mG:List Ev.D)(MM:ay→Prop)(n:Nat)(s':ay):Prop
 |mk (Wn:aY) (xs ys zs:List Ev.D) (hn:xs.length=n) (h1:∀a,Wr a→Wn a) (h2:∀a,Wn a→Wr a∨s.heap.get? a=af) (I:EI Wn s') (Da:DA Wn s' ys) (st:St Wn xs s') (x:Ext sb s') (new:∀a,s'.heap.get? a=af→s.heap.get? a=af) (f:fm xs=aa (zs,ae)) (e:ys++zs=mG) (m:MM s')
theorem M9(hh:A.handled=af){relt:RE}{bB:bF}(hk:dg ks bB){D:aE}(Bn:Gj ks bB D sb)
  {rgs:kK}{k:Nat}{t it:au}{ifs:List au}{tg:jl}{ris:bf} (hg:gens[k]? =aa ⟨t,it,ifs,0⟩) (hz:∀g,gens[k+1]? =aa g→g.is_async=0) (ht:jo K.X ks t=aa tg) (X0:cZ K C A ks ifs ris)
  (tC:BodyOk K A ks bB hs D sb Ub (xv elt gens scope pos k (.ref D) bB) (kQ rgs) (λρ=>w6 K.tk C hs rgs (λρ'=>ev K.tk C hs relt ρ') ρ))
  {V:aY}{I:ak}{Wr:aY}{G:Nat→Prop}{St:(aE→Prop)→List Ev.D→ay→Prop} (It:Iter K.w A V I G St) {U0:aY}{ρ:aM} (L:B9 V Wr G U0 ks bB D sb)
  (nQ:∀a,U0 a∨Wr a→Ub a∨sb.heap.get? a=af) (B:Base K bB hs ρ sb Ub) (kZ:(ke tg++kQ rgs).Nodup) (cC:∀i∈ke tg++kQ rgs,get ρ i=af)
  {xs:List Ev.D}{s:ay}{ys zs:List Ev.D}{R:wH→ay→Prop} (hI:bJ K (λa=>U0 a∨Wr a) bB hs ρ s) (hD:iX (λa=>U0 a∨Wr a) D s ys) (cz:St Wr xs s) (hx:Ext sb s) (Gk:∀a,s.heap.get? a=af→V a)
  (hf:lB (rJ K C hs tg ris rgs relt ρ) xs=aa (zs,ae)) (hlen:ys.length+zs.length≤1000000)
  (hR:∀s',bJ K U0 bB hs ρ s'→iX U0 D s' (ys++zs)→Ext sb s'→(∀Ku H,(∀a,(eG ks bB a∨a=D∨Wr a)∨s.heap.get? a=af→Ku a)→(∀g,G g∨s.gens[g]? =af→H g)→Mv Ku H s s')→
   (∀a,s'.heap.get? a=af→s.heap.get? a=af∨Wr a)→R (.ok .next) s'):
  uG (aw prog K.w) A (.compLoop (.ListComp elt gens scope pos) k I (.ref D) bB) R s:=by
 have Na:∀Wn:aY,(∀a,Wr a→Wn a)→(∀a,Wn a→Wr a∨s.heap.get? a=af)→B9 V Wn G U0 ks bB D sb:=λWn Z h2=>by
  have hU:∀a,U0 a→¬Wn a:=λa h hw=>(h2 a hw).elim (L.dj a h) λe=>by exact xE (hI.ub a (.inl h)) λo ho=>zS (ho▸e)
  refine⟨L.fr,λa h=>⟨hU a (L.fa a h).2,(L.fa a h).2⟩,hU,λa h=>(L.uv a h).elim .inl λh=>(L.dj a ‹_› h).elim,λa h=>(h2 a h).elim (L.wb a) λe=>jN hx e,L.gb⟩
 have Gl:∀Wn:aY,(∀a,Wn a→Wr a∨s.heap.get? a=af)→∀a,U0 a∨Wn a→Ub a∨sb.heap.get? a=af:=λWn h2 a h=>by
  rcases h with h|h
  ·exact nQ a (.inl h)
  ·exact(h2 a h).elim (λh=>nQ a (.inr h)) λe=>.inr (jN hx e)
 obtain⟨Inv,Gm⟩:∃Inv:Nat→ay→Prop,Inv=CI Wr St (λWn s'=>bJ K (λa=>U0 a∨Wn a) bB hs ρ s') (λWn s' Ca=>iX (λa=>U0 a∨Wn a) D s' Ca) (lB (rJ K C hs tg ris rgs relt ρ)) sb s (ys++zs)
   (λs'=>∀Ku H,(∀a,(eG ks bB a∨a=D∨Wr a)∨s.heap.get? a=af→Ku a)→(∀g,G g∨s.gens[g]? =af→H g)→Mv Ku H s s'):=⟨_,rfl⟩
 refine codeAny_loop rfl Inv (λn s' hinv=>?_) xs.length (by rw[Gm];exact⟨Wr,xs,ys,zs,rfl,λZ h=>h,λZ h=>.inl h,hI,hD,cz,hx,λa e=>e,hf,rfl,λZ Z Z Z=>.refl _ _ _⟩);rw[Gm]at hinv;obtain⟨Wn,jt,Ca,X1,hn,Nb,pX,I1,D1,zH,x1,Gn,f1,e1,m1⟩:=hinv;have L1:=Na Wn Nb pX;have Nc:∀ {Ku:aY},(∀a,(eG ks bB a∨a=D∨Wr a)∨s.heap.get? a=af→Ku a)→∀a,Wn a→Ku a:=λh1 a h=>(pX a h).elim (λh=>h1 a (.inl (.inr (.inr h)))) λh=>h1 a (.inr h);show ar _ A ((compTurn (.ListComp elt gens scope pos) k I (.ref D) bB).onRaise (λx=>do noteFrame x bB;theTreesLotGoes x)) _ _ s';refine wpAny_noted (rE (XW hg hz) (aB (kJ (aB ?_))));induction jt using bj with
 |nil=>
  obtain rfl:X1=[]:=(W.bp (f1:W.ret ([]:List Ev.D)=_)).symm;refine It.done s' _ _ zH λai mv=>bz ?_;have x2:Ext sb ai:=mv.ext x1 L1.wb L1.gb;have I2:=I1.xu (U0:=U0) B x2 mv (λa h=>.inl h) (λa h=>(L1.fa a (.inl h)).2) (λa h=>.inr h) (Gl Wn pX) (λa h h0=>absurd h (L1.dj a h0)) λa h=>(L1.fa a (.inl h)).1;have D2:=D1.xu (U0:=U0) mv (λa h=>.inl h) (λa h=>.inr h) (L1.fa D (.inr rfl)).1 (L1.fa D (.inr rfl)).2;replace e1:=(eg ..)▸e1;refine hR ai I2 (e1▸D2) x2 (λKu H h1 h2=>(m1 Ku H h1 h2).trans (mv.mono (Nc h1) λg h=>h2 g (.inl h))) λa h=>?_;by_cases hw:Wn a
  ·exact(pX a hw).symm
  ·refine .inl (Gn a ?_);induction q:s'.heap.get? a with
   |none=>rfl
   |some o=>exact zS (mv.keep a o hw q▸h)
 |cons x jt=>
  refine cK (XX f1) λa1 b1 g1 g2 e9=>?_;subst e9;refine oE (g1:(eU tg x ρ).bind _=_) λρ' hb g1=>wE g1 λb vp g1=>It.next x jt s' _ _ zH λv ai W' vr vt mv rv Cb=>?_
  have Nd:∀a,Wr a→W' a:=λa h=>vr a (Nb a h);have xw:∀a,W' a→Wr a∨s.heap.get? a=af:=λa h=>(vt a h).elim (pX a) λe=>.inr (Gn a e);have L2:=Na W' Nd xw;have x2:Ext sb ai:=mv.ext x1 L1.wb L1.gb;have X2:UB U0 ai:=λa h=>by exact xE (I1.ub a (.inl h)) λo ho=>⟨o,mv.keep a o (L1.dj a h) ho⟩
  have I2:=I1.Gh (U0:=λa=>U0 a∨W' a) B x2 mv (λa h=>h.imp id (vr a)) (λa h=>h.elim (λh=>.inl (.inl h)) λh=>(vt a h).imp .inr id) (λa h=>.inr h) (Gl W' xw) (λa h=>h.elim (X2 a) (It.alive _ _ Cb a)) λa h=>(L1.fa a (.inl h)).1;have D2:=D1.Gh (U0:=λa=>U0 a∨W' a) mv (λa h=>h.imp id (vr a)) (λa h=>h.elim (λh=>.inl (.inl h)) λh=>(vt a h).imp .inr id) (λa h=>.inr h) (L1.fa D (.inr rfl)).1;have X3:∀a,ai.heap.get? a=af→s'.heap.get? a=af:=λa h=>mv.alive (λd hd=>.inl (It.alive _ _ Cb d (vr d hd))) h;refine aB (It.own _ _ _ _ _ _ Cb (aB ?_));refine XR hh hk I2 ht hb (rv _ (λa h=>h.elim (L2.uv a) .inr) λa h=>h.imp (λh=>I1.ub a (.inl h)) id) λav I3 m3=>?_;have fK:∀a,eG ks bB a→sb.heap.get? a=af:=Bn.XZ;have x3:Ext sb av:=m3.ext x2 fK λZ h=>h.elim;have X4:∀ {aR:ay}{X5:aM},bJ K (λa=>U0 a∨W' a) bB hs X5 aR→∀a,eG ks bB a→∃o,aR.heap.get? a=aa o:=λI a h=>I.ub a (I.bu.eG h);have X6:∀a,av.heap.get? a=af→ai.heap.get? a=af:=λa h=>m3.alive (λd hd=>.inl (X4 I3 d hd)) h;have D3:=D2.Gi m3 (λa h=>.inl (L2.fa a (.inl (mF h))).2) λh=>Bn.M8 (mF h);have X7:St W' jt av:=It.frame _ _ _ _ _ Cb m3 (λa h=>⟨L2.fr a (.inl h),(L2.fa a (.inl (mF h))).1⟩) λZ h=>h.elim;refine aB (XT hk X0 I3 vp _ _ λaR x4=>?_);have rK:St W' jt aR:=It.frame _ _ _ (λZ=>False) (λZ=>False) X7 x4.mv (λZ h=>h.elim) λZ h=>h.elim;have I4:=I3.ext x4;have D4:=D3.ext x4;have X8:∀a,aR.heap.get? a=af→av.heap.get? a=af:=λa h=>(x4.mv (Ku:=λZ=>False) (G:=λZ=>False)).alive (λZ h=>h.elim) h;have B3:∀i∈ke tg,get ρ i=af:=λi h=>cC i (A9 _ h);have mm:∀Ku H,(∀a,(eG ks bB a∨a=D∨Wr a)∨s.heap.get? a=af→Ku a)→(∀g,G g∨s.gens[g]? =af→H g)→Mv Ku H s aR:=λKu H h1 h2=>
   (m1 Ku H h1 h2).trans ((mv.mono (Nc h1) λg h=>h2 g (.inl h)).trans ((m3.mono (λa h=>h1 a (.inl (.inl h))) λZ h=>h.elim).trans x4.mv))
  have Nf:∀ {cq:ay}{Cc:List Ev.D},bJ K (λa=>U0 a∨W' a) bB hs ρ cq→iX (λa=>U0 a∨W' a) D cq Cc→St W' jt cq→Ext sb cq→(∀a,cq.heap.get? a=af→s.heap.get? a=af)→Cc++b1=ys++zs→
    (∀Ku H,(∀a,(eG ks bB a∨a=D∨Wr a)∨s.heap.get? a=af→Ku a)→(∀g,G g∨s.gens[g]? =af→H g)→Mv Ku H s cq)→
    ∃m,m<n∧Inv m cq:=by
   intro cq Cc I5 D5 Cd x5 Gp e5 m5;exact⟨jt.length,by refine rS hn ?_;refine rE bT ?_;lia,by rw[Gm];exact⟨W',jt,Cc,b1,rfl,Nd,xw,I5,D5,Cd,x5,Gp,g2,e5,m5⟩⟩
  have Ng:Ca.length+(a1++b1).length≤1000000:=rS bt (rE e1 (rE bt hlen))
  have news:∀a,aR.heap.get? a=af→s.heap.get? a=af:=λa h=>Gn a (X3 a (X6 a (X8 a h)));induction b with
  |false=>obtain rfl:a1=[]:=(W.bp (g1:W.ret ([]:List Ev.D)=_)).symm;exact rE (if_neg f9) (bz ⟨rfl,Nf (I4.sub (M5 hb B3)) D4 rK (x3.trans x4) news e1 mm⟩)
  |true=>
   refine rE (if_pos rfl) ?_;have Nh:=List.nodup_append.mp kZ;refine tC (λa=>U0 a∨W' a) ρ' aR Ca a1 _ _ _ (Gl W' xw) (B.eU hb) Nh.2.1 (λi hi=>?_) I4 D4 (x3.trans x4) g1 (by replace Ng:=bt▸Ng;lia) λcq I5 D5 x5 m5 Gp=>?_
   ·exact rE (M4 hb λh=>Nh.2.2 i h i hi rfl) (cC i (yJ _ hi))
   ·refine bz ⟨rfl,Nf (I5.sub (M5 hb B3)) D5 ?_ x5 (λa h=>news a (Gp a h)) (rE (d5 ..) e1) λKu H h1 h2=>?_⟩
    ·refine It.frame _ _ _ (λa=>(eG ks bB a∨a=D)∨aR.heap.get? a=af) (λg=>aR.gens[g]? =af) rK (m5 _ _ (λZ h=>h) λZ h=>h) (λa h=>?_) λg h hg=>?_
     ·rcases h with h|h
      ·exact⟨L2.fr a h,(L2.fa a (h.imp mF id)).1⟩
      ·refine⟨Gk a (news a h),λhw=>?_⟩;exact xE (It.alive _ _ rK a hw) λo ho=>zS (ho▸h)
     ·exact xE (It.B5 _ _ rK g hg) λo ho=>zS (ho▸h)
    ·refine(mm Ku H h1 h2).trans (m5 Ku H (λa h=>?_) λg h=>?_)
     ·rcases h with h|h
      ·exact h1 a (.inl (h.elim .inl λh=>.inr (.inl h)))
      ·exact h1 a (.inr (news a h))
     ·refine h2 g (.inr ?_);induction q:s.gens[g]? with
      |none=>rfl
      |some o=>
       by_cases hg:G g
       ·exact xE (It.B5 _ _ rK g hg) λo' gB=>zS (gB▸h)
       ·have:=(mm (λZ=>True) (λg=>G g∨s.gens[g]? =af) (λZ Z=>trivial) (λZ h=>h)).gens g o (λh=>h.elim hg λh=>by replace h:=q▸h;exact zS h) q;exact zS (this▸h)
end
section
variable{K:Kt}
theorem X9(hh:A.handled=af){relt:RE}{bB:bF}(hk:dg ks bB){D:aE}(Bn:Gj ks bB D sb)
  (he:bg K C A ks elt relt):∀ {gs:List sE}{rgs:kK},rH K C A ks gs rgs→∀k,gens.drop (k+1)=gs→
   BodyOk K A ks bB hs D sb Ub (xv elt gens scope pos k (.ref D) bB) (kQ rgs) (λρ=>w6 K.tk C hs rgs (λρ'=>ev K.tk C hs relt ρ') ρ):=by
 intro gs rgs h;induction h with
 |nil=>
  intro k hg;have rI:gens[k+1]? =af:=by refine rS (UC) ?_;refine rE hg ?_;rfl
  intro U ρ s ys zs fin Q E nQ B kZ cC I Da x ao hlen hQ;refine wE (ao:W.bind (ev K.tk C hs relt ρ) (λx=>W.ret [x])=_) λd hd ao=>?_;clear gs;obtain rfl:=W.bp ao;unfold xv;refine rE rI ?_;dsimp only;refine aB (aB ((he U bB hs ρ s d hk I hd).1 _ _ λv ai aq rv=>aB ?_));refine mu (Da.ext aq) λGq vs n e1 e2=>?_;have eY:vs.size≤1000000:=by have:=e2.length;replace this:=eL▸this;simp only[bT,nc]at hlen;lia
  refine B8 e1 (aF eY (by refine rE lx ?_;lia)) λh' n' f1 f2=>bz ?_;have mv:Mv (λa=>a=D) (λZ=>False) ai {ai with heap:=h'}:=⟨λa o n e=>(f2.2 a n).trans e,λZ Z Z e=>e,λe=>e,rfl⟩;have x2:Ext sb {ai with heap:=h'}:=mv.ext (x.trans aq) (λa h=>h▸Bn.XY) λZ h=>h.elim;have al:∀a,a=D→∃o,h'.get? a=aa o:=λa h=>⟨_,h▸f1⟩;have I2:=(I.ext aq).Gi B x2 mv (λa h=>h▸Gq) nQ al (λa h e=>Bn.M8 (e▸h));refine hQ _ I2 ⟨Gq,_,n',f1,?_⟩ x2 (λKu H h1 h2=>aq.mv.trans (mv.mono (λa h=>h1 a (.inl (.inr h))) λZ h=>h.elim)) λa h=>?_
  ·refine rE KJ ?_;have keep:∀a o,¬U a→ai.heap.get? a=aa o→h'.get? a=aa o:=λa o n e=>mv.keep a o (λq=>n (q▸Gq)) e;exact(e2.mono keep λZ Z Z n=>n).append (.one (rv.mono keep λZ Z Z n=>n))
  ·have h1:=mv.alive (λd hd=>.inl (al d hd)) h;exact(aq.mv (Ku:=λZ=>False) (G:=λZ=>False)).alive (λZ h=>h.elim) h1
 | @cons t' zG M7 mH tg ri ris rgs ht hI hl hr ih=>
  intro k hg;have rI:gens[k+1]? =aa ⟨t',zG,M7,0⟩:=by refine rS (UC) ?_;refine rE hg ?_;rfl
  have Gr:gens.drop (k+1+1)=mH:=by refine rS Ei (rE hg ?_);rfl
  have ih:=ih (k+1) Gr;have hz:∀g,gens[k+1+1]? =aa g→g.is_async=0:=by
   intro g e;replace e:=Gr▸jg (UC)▸e;clear Gr hg;cases hr with
   |nil=>exact zN e
   |cons=>replace e:=iJ e;subst e;rfl
  intro U ρ s ys zs fin Q E nQ B kZ cC I Da x ao hlen hQ;refine wE (ao:W.bind (fP K.tk C hs ri ρ) (λxs=>lB (rJ K C hs tg ris rgs relt ρ) xs)=_) λxs mD ao=>?_;unfold xv;refine rE rI ?_;dsimp only;refine aB (hI.2 U bB hs ρ s xs hk I mD _ _ λv ai aq hw=>aB (kJ (aB (ow (hI.1 _ _) (aB (ji (hw ai (.refl _) _ _ λIv Wr G St av aC fw fg It st=>?_)))))));have pY:Ext s av:=aq.trans aC;have Ni:∀a,Wr a→sb.heap.get? a=af:=λa h=>by
   induction q:sb.heap.get? a with
   |none=>rfl
   |some o=>have:=x.keep a o q;exact zN (fw a h▸this)
  have Yb:∀g,G g→sb.gens[g]? =af:=λg h=>by
   induction q:sb.gens[g]? with
   |none=>rfl
   |some o=>have:=x.gens g o q;exact zN (fg g h▸this)
  have Gs:∀a,dm bB a∨a=D→U a:=λa h=>h.elim (λh=>I.bu.dm h) λh=>h▸Da.1;have dj:∀a,U a→¬Wr a:=λa h hw=>by exact xE (I.ub a h) λo ho=>zN (fw a hw▸ho)
  have L:B9 (λa=>U a∨ai.heap.get? a=af) Wr G U ks bB D sb:=
   ⟨λa h=>.inl (Gs a (h.imp mF id)),λa h=>⟨dj a (Gs a h),Gs a h⟩,dj,λa h=>.inl (.inl h),Ni,Yb⟩
  have I2:bJ K (λa=>U a∨Wr a) bB hs ρ av:=I.grow pY (λa h=>.inl h) (λa h=>h.imp id (fw a)) λa h=>h.elim (λh=>(I.ub.ext pY) a h) (It.alive _ _ st a);have D2:iX (λa=>U a∨Wr a) D av ys:=by refine mu Da ?_;clear Da;intro h vs n e1 e2;exact⟨.inl h,vs,n,pY.keep _ _ e1,e2.mono (λa o Z e=>pY.keep a o e) λa o e n k=>k.elim n λk=>by replace e:=fw a k▸e;exact zN e⟩
  have go:∀R:wH→ay→Prop,(∀s',(∀f:jk,R (.ok f) s'↔ar (aw prog K.w) A fin Q E s'))→uG (aw prog K.w) A (.compLoop (.ListComp elt gens scope pos) (k+1) Iv (.ref D) bB) R av:=by
   intro R hR;refine M9 hh (Ub:=Ub) hk Bn rI hz ht hl ih It L (λa h=>h.elim (nQ a) λh=>.inr (Ni a h)) B kZ cC I2 D2 st (x.trans pY) (λa h=>.inr ?_) ao hlen λs' I3 D3 x3 m3 Yc=>(hR s' _).mpr (hQ s' I3 D3 x3 (λKu H h1 h2=>?_) λa h=>?_)
   ·induction q:ai.heap.get? a with
    |none=>rfl
    |some o=>have:=aC.keep a o q;exact zN (h▸this)
   ·refine pY.mv.trans (m3 Ku H (λa h=>h1 a ?_) λg h=>h2 g ?_)
    ·rcases h with(h|h|h)|h
     ·exact .inl (.inl h)
     ·exact .inl (.inr h)
     ·exact .inr (fw a h)
     ·refine .inr ?_;induction q:s.heap.get? a with
      |none=>rfl
      |some o=>have:=pY.keep a o q;exact zN (h▸this)
    ·rcases h with h|h
     ·exact fg g h
     ·induction q:s.gens[g]? with
      |none=>rfl
      |some o=>have:=pY.gens g o q;exact zN (h▸this)
   ·rcases Yc a h with h|h
    ·induction q:s.heap.get? a with
     |none=>rfl
     |some o=>have:=pY.keep a o q;exact zN (h▸this)
    ·exact fw a h
  refine aB (wpAny_runOwn ?_);show uG _ A _ _ av;refine M6 rI rfl (go _ λs' f=>Ba) (It.self _ _ _ _ st (go _ λs' f=>Ba))
end
theorem vw(x:ah):∀l:cT,aV x l=l.lookup x:=by
 intro L0;induction L0 with
 |nil=>exact rfl
 |cons cx r ih=>
  obtain⟨y,k⟩:=cx;refine rE sP (rE (Mg ..) (rS (Fe ..) ?_));induction h:x == y with
  |true=>refine rE (pC h) (rE (beq_self_eq_true ..) ?_);rfl
  |false=>
   have:(y == x)=ag:=by rw[beq_eq_false_iff_ne]at h ⊢;exact Eu h
   exact rE this ih
theorem Yd{k:eC}{l:cT}(h:aV x l=aa k):(x,k)∈l:=mem_of_lookup (rS (vw ..) h)
theorem tE{k:eC}:∀ {l:cT},distinct l→(x,k)∈l→aV x l=aa k:=by
 intro l;induction l with
 |nil=>exact λZ h=>nomatch h
 |cons yk r ih=>
  obtain⟨y,k'⟩:=yk;intro hd h;replace hd:=(WJ ..)▸hd;have hy:aV y r=af:=by
   induction q:aV y r with
   |none=>rfl
   |some _=>replace hd:=q▸hd;exact zF hd
  have hd:distinct r:=by replace hd:=hy▸hd;exact hd
  refine rE (Mg ..) ?_;rcases bE.mp h with e|h
  ·refine iP e λe1 e2=>?_;clear e;subst e1;subst e2;refine rE (sEq_iff.mpr rfl) ?_;rfl
  ·induction hs:sEq y x with
   |true=>replace hy:=eE hs▸hy;exact zS (ih hd h▸hy)
   |false=>exact ih hd h
noncomputable def gE(env:bF):List (ah × eC)→List (ah × aE)→List (ah × aE)
 | [],acc=>acc
 | (n,k)::r,acc=>if k == fN then gE env r ((n,(env.cells.lookup n).getD 0)::acc)else gE env r acc
theorem Ce(env:bF)(x:List (ah × aE))(n:ah)(k:eC)(r:cT):gE env ((n,k)::r) x=if(k == fN) then gE env r ((n,Option.getD (wN n (bF.cells env)) 0)::x)else gE env r x:=rfl
theorem Ye(h:∀n,(n,fN)∈scope.names→∃c,env.cells.lookup n=aa c):closureFor scope env=pure (gE env scope.names []):=by
 have go:∀ (l:cT) (acc:List (ah × aE)),(∀n,(n,fN)∈l→∃c,env.cells.lookup n=aa c)→
   (forIn l acc λx (cs:List (ah × aE))=>match x with
    | (name,kind)=>if(kind == fN) then(do let a ← cellOf env name;pure (sO ((name,a)::cs)))else pure (sO cs):cN (List (ah × aE)))=pure (gE env l acc):=by
  intro l;induction l with
  |nil=>intro acc _;rfl
  |cons x r ih=>
   intro acc h;obtain⟨n,k⟩:=x;refine rE (KH ..) (rE (Ce ..) ?_);induction hk:(k == fN)with
   |true=>have j9:k=fN:=pC hk;subst j9;obtain⟨c,hc⟩:=h n bG;dsimp only;refine rE (if_pos (by decide:(fN == fN))) (rE (if_pos rfl) ?_);unfold cellOf;exact rE hc (ih _ λm hm=>h m (cf _ hm))
   |false=>dsimp only;refine rE hk (rE (if_neg f9) (rE (if_neg f9) ?_));exact ih _ λm hm=>h m (cf _ hm)
 have:=go scope.names [] h;unfold closureFor;exact(congrArg (fun(m:cN (List (ah × aE)))=>m >>= λs=>pure s) this).trans rfl
set_option tactic.hygienic true in
theorem Yg{c:aE}:∀ {l:cT}{acc:List (ah × aE)},(∀n,(n,fN)∈l→∃c,env.cells.lookup n=aa c)→(x,c)∈gE env l acc→(x,c)∈acc∨((x,fN)∈l∧env.cells.lookup x=aa c):=by
 intro L0;induction L0 with
 |nil=>intro acc _ h;exact .inl h
 |cons cx r ih=>
  obtain⟨n,k⟩:=cx;intro acc hl h;replace h:=(Ce ..)▸h;split at h
  ·rename_i hk;have j9:k=fN:=pC hk;subst j9;rcases ih (λm hm=>hl m (cf _ hm)) h with h| ⟨h,h'⟩
   ·rcases bE.mp h with e|h
    ·obtain⟨c',oQ⟩:=hl n bG;replace e:=oQ▸e;injection e with e1 e2
     subst e1;exact .inr ⟨bG,by refine rE oQ ?_;refine rE e2 ?_;rfl⟩
    ·exact .inl h
   ·exact .inr ⟨cf _ h,h'⟩
  ·rcases ih (λm hm=>hl m (cf _ hm)) h with h| ⟨h,h'⟩
   ·exact .inl h
   ·exact .inr ⟨cf _ h,h'⟩
theorem Yh{p:ah × aE}:∀ {l:cT}{acc:List (ah × aE)},p∈acc→p∈gE env l acc:=by
 intro L0;induction L0 with
 |nil=>intro _ h;exact h
 |cons cx r ih=>
  obtain⟨n,k⟩:=cx;intro acc h;refine rE (Ce ..) ?_;split
  ·exact ih (cf _ h)
  ·exact ih h
theorem Yi:∀ {l:cT}{acc:List (ah × aE)},(x,fN)∈l→∃c,(x,c)∈gE env l acc:=by
 intro L0;induction L0 with
 |nil=>exact nofun
 |cons cx r ih=>
  obtain⟨n,k⟩:=cx;intro acc h;refine rE (Ce ..) ?_;rcases bE.mp h with e|h
  ·injection e with e1 e2
   subst e1;subst e2;exact rE (if_pos (by decide:(fN == fN))) ⟨_,Yh bG⟩
  ·split<;>exact ih h
theorem Cf:∀ (l:cT) (n:Nat) (acc:List (ah × aE)),jF n l acc=jF n l []++acc:=by
 intro L0;induction L0 with
 |nil=>intro _ _;exact rfl
 |cons cx r ih=>
  obtain⟨x,k⟩:=cx;intro n acc;unfold jF;split
  ·refine rE (ih (n+1) ((x,n)::acc)) (rE (ih (n+1) [(x,n)]) (rE (d5 ..) ?_));rfl
  ·exact ih n acc
set_option tactic.hygienic true in
theorem Yj{c:aE}:∀ {l:cT}{n:Nat},(x,c)∈jF n l []→(x,oz)∈l:=by
 intro L0;induction L0 with
 |nil=>exact nofun
 |cons cx r ih=>
  obtain⟨y,k⟩:=cx;intro n h;unfold jF at h;split at h
  ·rename_i hk;have j9:k=oz:=pC hk;subst j9;replace h:=(Cf ..)▸h;rcases gq.mp h with h|h
   ·exact cf _ (ih h)
   ·simp only[bE,sN,or_false]at h;refine iP h λe1 e2=>?_;clear h;subst e1;subst e2;exact bG
  ·exact cf _ (ih h)
theorem Yk:∀ {l:cT}{n:Nat},(x,oz)∈l→∃c,(x,c)∈jF n l []:=by
 intro L0;induction L0 with
 |nil=>exact nofun
 |cons cx r ih=>
  obtain⟨y,k⟩:=cx;intro n h;unfold jF;rcases bE.mp h with e|h
  ·injection e with e1 e2
   subst e1;subst e2;refine rE (if_pos (by decide:(oz == oz))) (rE (Cf ..) ?_);exact⟨n,yJ _ bG⟩
  ·split
   ·refine rE (Cf ..) ?_;obtain⟨c,hc⟩:=ih h;exact⟨c,A9 _ hc⟩
   ·exact ih h
theorem Nj{c:aE}:∀ {l:List (ah × aE)},(x,c)∈l→∃c',l.lookup x=aa c':=by
 intro L0;induction L0 with
 |nil=>exact nofun
 |cons cx r ih=>
  obtain⟨y,c'⟩:=cx;intro h;refine rE sP ?_;induction hx:x == y with
  |true=>exact⟨_,rfl⟩
  |false=>
   rcases bE.mp h with e|h
   ·refine iP e λe1 e2=>?_;clear e;subst e1;subst e2;rw[beq_self_eq_true]at hx;exact zT hx
   ·exact ih h
section
variable{M:sQ}
theorem Yl{cl:List (ah × aE)}{Q:bF→ay→Prop}
  (hQ:Q (newEnv scope s.heap.objs.size env.globals (jF (s.heap.objs.size+1) scope.names cl) env.qual af .none (aa env) jE)
   {s with heap:=pushCells (s.heap.push {cls:=.type "dict",data:=.dict #[]}) scope.names}):
  ar M A (newFunctionEnv scope env.globals cl [] env.qual af .none (aa env)) Q E s:=by
 simp only[newFunctionEnv,Option.isSome_some,if_true];refine aB (wpAny_alloc ?_);refine aB (wpAny_layCells _ (λname kind cells=>by cases Ym:kind == oz<;>simp[Ym]) _ _ _ _ ?_);refine rE (show({s with heap:=s.heap.push {cls:=.type "dict",data:=.dict #[]}}:ay).heap.objs.size=s.heap.objs.size+1 from A1 ..) ?_;exact aB (bz (bz hQ))
end
theorem any_beq:∀ {l:ax},l.any (az i)↔i∈l:=by
 intro L0;induction L0 with
 |nil=>simp
 |cons j r ih=>
  refine rE EB (rE (UD ..) ?_);rewrite[ih];rw[bE];constructor
  ·rintro (h|h)
   ·exact .inl (fZ h)
   ·exact .inr h
  ·rintro (h|h)
   ·exact .inl (rE h (nh j))
   ·exact .inr h
theorem Nk:∀ {ρ:aM},get (rem is ρ) i=aa sl→get ρ i=aa sl∧i∉is:=by
 intro L0;induction L0 with
 |nil=>intro h;exact zN h
 |cons cx r ih=>
  obtain⟨j,t⟩:=cx;intro h;replace h:=(EX ..)▸h;induction hj:is.any (az j)with
  |true=>
   replace h:=hj▸h;refine xA (ih h) λh1 h2=>⟨?_,h2⟩;refine rE (pH ..) ?_;have:az j i=ag:=by
    induction q:az j i with
    |false=>rfl
    |true=>exact absurd (any_beq.mp hj) (fZ q▸h2)
   exact rE this h1
  |false=>
   replace h:=hj▸h;have h:get ((j,t)::rem is r) i=aa sl:=h;rw[pH]at h ⊢;induction q:az j i with
   |true=>replace h:=q▸h;refine⟨h,λhm=>?_⟩;replace hm:=jg (fZ q)▸hm;exact zT (any_beq.mpr hm▸hj)
   |false=>replace h:=q▸h;exact ih h
theorem Yn(ρ:aM)(h:i∈is):get (rem is ρ) i=af:=by
 induction q:get (rem is ρ) i with
 |none=>rfl
 |some sl=>exact absurd h (Nk q).2
theorem Yo{names:List ah}{k:eC}(hi:aZ x names=aa i)(hk:dz (aa k)):∀ {l:cT},(x,k)∈l→i∈fD names l:=by
 intro L0;induction L0 with
 |nil=>exact nofun
 |cons cx r ih=>
  obtain⟨y,k'⟩:=cx;intro h;refine rE (WK ..) ?_;rcases bE.mp h with e|h
  ·refine iP e λe1 e2=>?_;clear e;subst e1;subst e2;exact rE hk (rE hi bG)
  ·have:=ih h;split
   ·exact cf _ this
   ·exact this
set_option tactic.hygienic true in
theorem Yp{out:cT}:∀ {l:cT},freeOk out l→(x,fN)∈l→aV x out=aa .cell∨aV x out=aa .free:=by
 intro l;induction l with
 |nil=>exact λ_ h=>nomatch h
 |cons yk r ih=>
  obtain⟨y,k⟩:=yk;intro h hm;unfold freeOk at h;rcases bE.mp hm with e|Nl
  ·clear hm;refine iP e λe1 e2=>?_;clear e;subst e1;subst e2;dsimp only at h;split at h
   ·rename_i q;exact .inl q
   ·rename_i q;exact .inr q
   ·exact zF h
  ·induction k<;>dsimp only at h<;>first
    |exact ih h Nl
    |exact zF h
    | (split at h<;>first|exact ih h Nl|exact zF h)
theorem Yq:∀ {l:cT},(l.map fun(n,k)=>if(k == fN&&env.scope.kind == .function&&env.kindOf n == aa .cell)then(n,oz)else(n,k)).lookup x=
  (l.lookup x).map λk=>if(k == fN&&env.scope.kind == .function&&env.kindOf x == aa .cell)then oz else k:=by
 intro l;induction l with
 |nil=>rfl
 |cons nk r ih=>
  obtain⟨n,k⟩:=nk;refine rE iT (rE (sP (k:=n)) ?_);dsimp only;induction hx:x == n with
  |true=>
   have:=pC hx;subst this;by_cases hc:(k == fN&&env.scope.kind == .function&&env.kindOf x == aa .cell)
   ·exact rE (if_pos hc) (rE sP (rE (beq_self_eq_true ..) (rE (KL ..) (rE (if_pos hc) rfl))))
   ·exact rE (if_neg hc) (rE sP (rE (beq_self_eq_true ..) (rE (KL ..) (rE (if_neg hc) rfl))))
  |false=>
   refine rS ih ?_;by_cases hc:(k == fN&&env.scope.kind == .function&&env.kindOf n == aa .cell)
   ·exact rE (if_pos hc) (rE sP (rE hx rfl))
   ·exact rE (if_neg hc) (rE sP (rE hx rfl))
section
variable{K:Kt}
theorem UB.elim(h:UB U s)(u:U a)(n:s.heap.get? a=af):False:=xE (h a u) λo e=>zN (n▸e)
theorem Gu(hh:A.handled=af){t:au}{relt:RE}{ri:RI}{ris:bf}{rgs:kK}
  (fb:scope.kind=.function) (k7:distinct scope.names) (tF:freeOk ks scope.names) (hk:dg ks env) (I:bJ K U env hs ρ s)
  (ht:jo K.X scope.names t=aa tg) (Gw:∀x,uF it env x=pure x) (Gx:∀xs,fP K.tk C hs ri ρ=aa (xs,ae)→zE K.w A U s (eval it env) xs) (hl:cZ K C A scope.names ifs ris) (hr:rH K C A scope.names gs rgs) (he:bg K C A scope.names elt relt)
  (kZ:(ke tg++kQ rgs).Nodup) (iE:∀i∈ke tg++kQ rgs,i∈fD K.X.names scope.names)
  (ao:ev K.tk C hs (.comp (fD K.X.names scope.names) tg ri ris rgs relt) ρ=aa (d,ae)) {use:Option (ak→cN Unit)}{Q E:aW}
  (hQ:∀s' D Cn,Ext s s'→s.heap.get? Cn=af→s.heap.get? D=af→(∃m,s'.heap.Ns Cn m)→Rd (λa=>U a∨a=Cn) s'.heap (.ref D) d→compPost (aw prog K.w) A E use Q (.ref D) Cn (.ok .next) s'):
  ar (aw prog K.w) A (Bb (.ListComp elt (⟨t,it,ifs,0⟩::gs) scope pos) scope env p (newList []) ag (eval it env) use) Q E s:=by
 refine wE (ao:W.bind (fP K.tk C hs ri ρ) (λxs=>W.bind (lB (rJ K C hs tg ris rgs relt (rem (fD K.X.names scope.names) ρ)) xs) λxs=>W.need (dQ xs) (aX xs.length 1000000))=_) λxs mD ao=>wE ao λzs Gy ao=>xA (W.de ao) λe9 hlen=>?_;subst e9;have hlen:=bc hlen;have Nm:∀n,(n,fN)∈scope.names→env.kindOf n=aa .cell∨env.kindOf n=aa .free:=λn hn=>by
  rcases Yp tF hn with h|h
  ·rcases hk n _ h with e| ⟨e,_⟩
   ·exact .inl e
   ·cases e
  ·rcases hk n _ h with e| ⟨_,e⟩
   ·exact .inr e
   ·exact .inl e
 have Nn:∀n,(n,fN)∈scope.names→∃c,env.cells.lookup n=aa c:=λn hn=>I.bu.has n (Nm n hn);refine wpAny_comprehension_free (g:=⟨t,it,ifs,0⟩) (gs:=gs) rfl Gw (Ye Nn) fb (λx hx Np=>?_) ?_
 ·obtain⟨n,k⟩:=x;dsimp only at Np;subst Np;exact rS (vw ..) (tE k7 hx)
 refine Gx xs mD _ _ λv ai aq hw=>hw ai (.refl _) _ _ λIv Wr G St av aC fw fg It st=>wI ?_ (eo _);refine Yl ?_;dsimp only;generalize hD:av.heap.objs.size=D;generalize Gz:av.heap.push {cls:=.type "list",data:=.seq ([]:List ak).toArray}=H3;generalize Cg:H3.objs.size=Cn;have zI:Cn=D+1:=rS Cg (rS Gz (rE (A1 ..) (rE hD rfl)))
 generalize GA:pushCells (H3.push {cls:=.type "dict",data:=.dict #[]}) scope.names=H4;have Nq:∀a o,H3.get? a=aa o→H4.get? a=aa o:=λa o e=>GA▸pushCells_keeps _ _ _ _ (jZ _ e);have Nr:∀a o,av.heap.get? a=aa o→H4.get? a=aa o:=λa o e=>Nq a o (Gz▸jZ _ e);have Ci:Ext av {av with heap:=H4}:=.heap (k:=av.toks) Nr;have x4:Ext s {av with heap:=H4}:=(aq.trans aC).trans Ci;have Nt:H4.get? D=aa (cy #[] 0):=Nq _ _ (rS Gz (rS hD (eT _ rfl)));have Nu:H4.Ns Cn λZ=>af:=by refine rS GA (rS Cg ?_);exact(yA.new H3 (.type "dict")).keeps (pushCells_keeps _ _)
 have ok:CellsOk H4 (Cn+1) (jF (Cn+1) scope.names []):=by have:=cellsFrom_ok scope.names (H3.push {cls:=.type "dict",data:=.dict #[]}) (Cn+1) [] ⟨λZ Z hm=>(nomatch hm),ahF.nil⟩ (rE (A1 ..) (rE Cg (bZ _)));replace this:=GA▸Cg▸(A1 ..)▸this;exact this
 have old:∀a o,s.heap.get? a=aa o→a<D:=λa o e=>by refine rS hD ?_;exact jD ((aq.trans aC).keep _ _ e)
 have freshD:s.heap.get? D=af:=by
  induction q:s.heap.get? D with
  |none=>rfl
  |some o=>exact absurd (old _ o q) (qF _)
 have GB:∀a,D≤a→s.heap.get? a=af:=λa h=>by
  induction q:s.heap.get? a with
  |none=>rfl
  |some o=>exact absurd (old _ o q) (pA.mpr h)
 have Yr:s.heap.get? Cn=af:=GB _ (rE zI (wO _));have Nv:∀a,D≤a→av.heap.get? a=af:=λa h=>by
  induction q:av.heap.get? a with
  |none=>rfl
  |some o=>have:=jD q;replace this:=hD▸this;exact absurd this (pA.mpr h)
 generalize GC:jF (Cn+1) scope.names (gE env scope.names [])=cs;have GD:cs=jF (Cn+1) scope.names []++gE env scope.names []:=rS GC (rE (Cf ..) rfl)
 have lk:∀x c,cs.lookup x=aa c→((x,oz)∈scope.names∧(x,c)∈jF (Cn+1) scope.names [])∨((x,fN)∈scope.names∧env.cells.lookup x=aa c):=λx c h=>by
  have hm:=mem_of_lookup h;replace hm:=GD▸hm;rcases gq.mp hm with hm|hm
  ·exact .inl ⟨Yj hm,hm⟩
  ·rcases Yg Nn hm with h|h
   ·cases h
   ·exact .inr h
 have Ys:∀x,(x,oz)∈scope.names→∃c,cs.lookup x=aa c:=λx h=>by obtain⟨c,hc⟩:=Yk (n:=Cn+1) h;exact Nj (c:=c) (rE GD (A9 _ hc))
 have GF:∀x,(x,fN)∈scope.names→∃c,cs.lookup x=aa c∧env.cells.lookup x=aa c:=λx h=>by
  obtain⟨c,hc⟩:=Yi (env:=env) (acc:=[]) h;obtain⟨c',oQ⟩:=Nj (x:=x) (c:=c) (l:=cs) (rE GD (yJ _ hc));rcases lk x c' oQ with⟨h',_⟩| ⟨_,h'⟩
  ·have e1:=tE k7 h;replace e1:=tE k7 h'▸e1;cases e1
  ·exact⟨c',oQ,h'⟩
 have pY:Ext s av:=aq.trans aC;generalize xx:({newEnv scope Cn env.globals cs env.qual af .none (aa env) jE with scope:=relabel scope env}:bF)=bB;show uG _ A (.compStart _ 0 Iv (.ref D) bB) (compPost _ A E use Q (.ref D) Cn) {av with heap:=H4};have c1:bB.locals=Cn:=by refine rS xx ?_;rfl
 have c2:bB.cells=cs:=by refine rS xx ?_;rfl
 have c3:bB.globals=gp:=rS xx I.gl
 have c4:bB.builtins=jE:=rS xx I.bi
 have c5:bB.scope.kind=.function:=rS xx fb
 have c6:∀x,bB.kindOf x=(aV x scope.names).map λk=>if(k == fN&&env.scope.kind == .function&&env.kindOf x == aa .cell)then oz else k:=λx=>by exact rS xx (rE (vw ..) Yq)
 have tG:dg scope.names bB:=λx k h=>by
  refine rE (c6 ..) (rE h (rE (KL ..) ?_));by_cases hc:(k == fN&&env.scope.kind == .function&&env.kindOf x == aa .cell)
  ·refine rE (if_pos hc) ?_;replace hc:=(j0 ..)▸(j0 ..)▸hc;exact .inr ⟨pC hc.1.1,rfl⟩
  ·exact rE (if_neg hc) (.inl rfl)
 have Nw:∀x k',bB.kindOf x=aa k'→∃k,(x,k)∈scope.names∧(k'=k∨(k=.free∧k'=.cell)):=λx k' h=>by
  replace h:=(c6 ..)▸h;induction q:aV x scope.names with
  |none=>exact zN (q▸h)
  |some k=>
   replace h:=(KL ..)▸q▸h;refine⟨k,Yd q,?_⟩;by_cases hc:(k == fN&&env.scope.kind == .function&&env.kindOf x == aa .cell)
   ·replace h:=if_pos hc▸h;replace hc:=(j0 ..)▸(j0 ..)▸hc;replace h:=iJ h;subst h;exact .inr ⟨pC hc.1.1,rfl⟩
   ·replace h:=iJ (if_neg hc▸h);subst h;exact .inl rfl
 have one:∀ {x k k'},(x,k)∈scope.names→(x,k')∈scope.names→k=k':=λh h'=>by have e:=tE k7 h;replace e:=iJ (tE k7 h'▸e);subst e;rfl
 have own:∀x a,dz (aV x scope.names)→cs.lookup x=aa a→(x,a)∈jF (Cn+1) scope.names []:=λx a h1 h2=>by
  rcases lk x a h2 with⟨_,h⟩| ⟨h,_⟩
  ·exact h
  ·replace h1:=tE k7 h▸h1;exact zF h1
 have vx:∀a,eG scope.names bB a→D<a:=λa h=>by
  rcases h with h| ⟨x,h1,h2⟩
  ·exact rE h (rE c1 (rE zI (Eg _)))
  ·replace h2:=c2▸h2;have:=(ok.empty x a (own x a h1 h2)).2;replace this:=zI▸this;exact ia (yx (Eg D)) this
 have Nx:∀a,dm bB a→eG scope.names bB a∨(U a∧∃o,s.heap.get? a=aa o):=λa h=>by
  rcases h with h| ⟨x,h⟩
  ·exact .inl (.inl h)
  ·rcases lk x a (c2▸h)with⟨h1,h2⟩| ⟨h1,h2⟩
   ·exact .inl (.inr ⟨x,by refine rE (tE k7 h1) ?_;rfl,h⟩)
   ·exact mu (I.bu.fR x a h2) λu v o ho Z=>.inr ⟨u,o,ho⟩
 have GG:∀a,((U a∨a=D∨eG scope.names bB a)∨Wr a)→U a∨s.heap.get? a=af:=λa h=>by
  rcases h with(h|h|h)|h
  ·exact .inl h
  ·exact .inr (h▸freshD)
  ·exact .inr (GB a (d4 (vx a h)))
  ·exact .inr (fw a h)
 have Ny:∀s',Ext s s'→∀V:aY,(∀a,V a→U a∨s.heap.get? a=af)→∀x i sl,aZ x K.X.names=aa i→get (rem (fD K.X.names scope.names) ρ) i=aa sl→d8 (bB.kindOf x)→
   ∃v,fQ bB s'.heap x v∧kg K V s'.heap hs v sl:=by
  intro s' jt V hV x i sl hi hg ez;refine xA (Nk hg) λhg hn=>?_;induction q:bB.kindOf x with
  |none=>replace ez:=q▸ez;exact zF ez
  |some k'=>
   refine aD (Nw x k' q) λk hm Cj=>?_;have Yt:k=.free:=by
    have lK:dz (aa k)≠ae:=λh=>hn (Yo hi h hm);rcases Cj with e| ⟨e,_⟩
    ·subst e;replace ez:=q▸ez;induction k'<;>first|rfl| (exact absurd rfl lK)|exact zF ez
    ·exact e
   subst Yt;have Nz:=Nm x hm;obtain⟨v,hv,lH⟩:=I.vars x i sl hi hg (by rcases Nz with e|e<;>refine rE e ?_<;>rfl);refine aD (GF x hm) λc Yu Yv=>?_;refine⟨v,.inr ⟨?_,c,c2▸Yu,?_⟩,lH.mono jt.keep λa o e n k=>(hV a k).elim n λq=>by replace q:=e▸q;exact zS q⟩
   ·rcases Cj with e| ⟨_,e⟩
    ·exact rE q (rE e (.inr rfl))
    ·exact rE q (rE e (.inl rfl))
   ·rcases hv with⟨k1,_⟩| ⟨_,c',e1,e2⟩
    ·rcases Nz with e|e<;>(replace e:=k1▸e;cases e)
    ·replace e1:=iJ (Yv▸e1);subst e1;exact e2.keeps jt.keep
 have I4:bJ K (λa=>(U a∨a=D∨eG scope.names bB a)∨Wr a) bB hs (rem (fD K.X.names scope.names) ρ) {av with heap:=H4}:=by
  refine⟨I.bH.mono (λa o Z e=>x4.keep a o e) (λa o e n k=>(GG a k).elim n λq=>(zS (e▸q))),λa h=>?_,c5,c3,c4,⟨⟨.inl (.inr (.inr (.inl rfl))),_,c1▸Nu⟩,λx c h=>?_,λx y c h1 h2=>?_,λx h=>?_⟩,Ny _ x4 _ GG⟩
  ·rcases h with(h|h|h| ⟨x,h1,h2⟩)|h
   ·exact(I.ub.ext x4) a h
   ·exact⟨_,h▸Nt⟩
   ·exact fy Nu λo Z Z ho Z=>⟨o,by refine rE h ?_;refine rE c1 ?_;exact ho⟩
   ·exact aD ((ok.empty x a (own x a h1 (c2▸h2))).1) λo ho Z=>⟨o,ho⟩
   ·exact xE (It.alive _ _ st a h) λo ho=>⟨o,Nr _ _ ho⟩
  ·replace h:=c2▸h;rcases lk x c h with⟨h1,h2⟩| ⟨h1,h2⟩
   ·exact⟨.inl (.inr (.inr (.inr ⟨x,by refine rE (tE k7 h1) ?_;rfl,c2▸h⟩))),af,(ok.empty x c h2).1⟩
   ·exact lE (I.bu.fR x c h2) λu v hv=>⟨.inl (.inl u),v,hv.keeps x4.keep⟩
  ·rw[c2]at h1 h2;have NA:∀ {x y},(x,c)∈jF (Cn+1) scope.names []→env.cells.lookup y=aa c→False:=λ{x y} a b=>by refine mu (I.bu.fR y c b) λZ v o ho Z=>?_;have h3:=old _ o ho;have h4:=(ok.empty x c a).2;replace h4:=zI▸h4;exact qF c (ia h3 (aF (nj D 2) h4))
   rcases lk x c h1 with⟨_,a1⟩| ⟨_,a1⟩<;>rcases lk y c h2 with⟨_,a2⟩| ⟨_,a2⟩
   ·exact UE ok.apart a1 a2
   ·exact(NA a1 a2).elim
   ·exact(NA a2 a1).elim
   ·exact I.bu.inj x y c a1 a2
  ·refine rE c2 ?_;have go:∀k',bB.kindOf x=aa k'→(k'=.cell∨k'=.free)→∃c,cs.lookup x=aa c:=λk' h j9=>by
    refine aD (Nw x k' h) λk hm Cj=>?_;rcases Cj with e| ⟨e,_⟩
    ·subst e;rcases j9 with e|e
     ·subst e;exact Ys x hm
     ·subst e;exact aD (GF x hm) λc h Z=>⟨c,h⟩
    ·subst e;exact aD (GF x hm) λc h Z=>⟨c,h⟩
   exact h.elim (λh=>go _ h (.inl rfl)) λh=>go _ h (.inr rfl)
 have GH:∀a,D≤a→ai.heap.get? a=af:=λa h=>by
  induction q:ai.heap.get? a with
  |none=>rfl
  |some o=>have:=aC.keep a o q;exact zN (Nv a h▸this)
 have Cm:∀a,D≤a→¬Wr a:=λa h hw=>by exact xE (It.alive _ _ st a hw) λo ho=>zN (Nv a h▸ho)
 have NB:∀a,U a→¬Wr a:=λa h hw=>by exact xE (I.ub a h) λo ho=>zN (fw a hw▸ho)
 have L:B9 (λa=>U a∨ai.heap.get? a=af) Wr G (λa=>U a∨a=D∨eG scope.names bB a) scope.names bB D s:=by
  refine⟨λa h=>.inr (GH a ?_),λa h=>?_,λa h=>?_,λa h=>?_,fw,fg⟩
  ·rcases h with h|h
   ·exact d4 (vx a h)
   ·exact h▸bZ _
  ·rcases h with h|h
   ·rcases Nx a h with h| ⟨u,_⟩
    ·exact⟨Cm a (d4 (vx a h)),.inr (.inr h)⟩
    ·exact⟨NB a u,.inl u⟩
   ·exact⟨Cm a (h▸bZ _),.inr (.inl h)⟩
  ·rcases h with h|h|h
   ·exact NB a h
   ·exact Cm a (h▸bZ _)
   ·exact Cm a (d4 (vx a h))
  ·rcases h with h|h|h
   ·exact .inl (.inl h)
   ·exact .inl (.inr (GH a (h▸bZ _)))
   ·exact .inl (.inr (GH a (d4 (vx a h))))
 have Bn:Gj scope.names bB D s:=by
  refine⟨λh=>?_,freshD,λa h=>GB a (d4 (vx a h))⟩;rcases Nx D h with h| ⟨_,o,ho⟩
  ·exact qF _ (vx D h)
  ·exact zN (freshD▸ho)
 have hz:∀g,(⟨t,it,ifs,0⟩::gs:List sE)[0+1]? =aa g→g.is_async=0:=by
  intro g e;cases hr with
  |nil=>exact zN e
  |cons=>replace e:=iJ e;subst e;rfl
 have B:Base K bB hs (rem (fD K.X.names scope.names) ρ) s U:=λs' x V hV y i sl Z a b c=>Ny s' x V hV y i sl a b c;have go:uG (aw prog K.w) A (.compLoop (.ListComp elt (⟨t,it,ifs,0⟩::gs) scope pos) 0 Iv (.ref D) bB) (compPost (aw prog K.w) A E use Q (.ref D) Cn) {av with heap:=H4}:=by
  refine M9 hh (Ub:=U) (gens:=⟨t,it,ifs,0⟩::gs) tG Bn rfl hz ht hl (X9 hh tG Bn he hr 0 rfl) It L GG B kZ (λi h=>Yn ρ (iE i h)) I4 (ys:=[])
   ⟨.inl (.inr (.inl rfl)),#[],0,Nt,.nil⟩ (It.frame _ _ _ (λZ=>False) (λZ=>False) st Ci.mv (λZ h=>h.elim) λZ h=>h.elim) x4 (λa h=>.inr ?_) Gy (by simpa using hlen) λs' I' D' x' Z Z=>?_
  ·induction q:ai.heap.get? a with
   |none=>rfl
   |some o=>have:=(aC.trans Ci).keep a o q;exact zN (h▸this)
  ·refine mu D' λZ vs n e1 e2=>hQ s' D Cn x' Yr freshD (c1▸I'.bu.loc.2) (.list e1 (λh=>?_) (e2.mono (λZ Z Z e=>e) λa Z Z n h=>n ?_))
   ·rcases h with h|h
    ·exact I.ub.elim h freshD
    ·replace h:=zI▸h;exact absurd h (iU (Eg D))
   ·rcases h with h|h
    ·exact .inl h
    ·exact .inr (.inr (.inl (h.trans c1.symm)))
 exact M6 (gens:=⟨t,it,ifs,0⟩::gs) rfl rfl go (It.self xs _ _ _ (It.frame _ _ _ (λZ=>False) (λZ=>False) st Ci.mv (λZ h=>h.elim) λZ h=>h.elim) go)
theorem NC(hh:A.handled=af){t:au}{relt:RE}{ri:RI}{ris:bf}{rgs:kK}
  (fb:scope.kind=.function) (k7:distinct scope.names) (tF:freeOk ks scope.names) (hk:dg ks env) (I:bJ K U env hs ρ s)
  (ht:jo K.X scope.names t=aa tg) (hI:pW K C A ks it ri) (hl:cZ K C A scope.names ifs ris) (hr:rH K C A scope.names gs rgs) (he:bg K C A scope.names elt relt)
  (kZ:(ke tg++kQ rgs).Nodup) (iE:∀i∈ke tg++kQ rgs,i∈fD K.X.names scope.names)
  (ao:ev K.tk C hs (.comp (fD K.X.names scope.names) tg ri ris rgs relt) ρ=aa (d,ae)) {use:Option (ak→cN Unit)}{Q E:aW}
  (hQ:∀s' D Cn,Ext s s'→s.heap.get? Cn=af→s.heap.get? D=af→(∃m,s'.heap.Ns Cn m)→Rd (λa=>U a∨a=Cn) s'.heap (.ref D) d→compPost (aw prog K.w) A E use Q (.ref D) Cn (.ok .next) s'):
  ar (aw prog K.w) A (Bb (.ListComp elt (⟨t,it,ifs,0⟩::gs) scope pos) scope env p (newList []) ag (eval it env) use) Q E s:=
 Gu hh fb k7 tF hk I ht (λx=>hI.1 env x) (λxs h=>hI.2 U env hs ρ s xs hk I h) hl hr he kZ iE ao hQ
end
theorem GJ{i:Int}(h:Fw i):i=0:=of_decide_eq_true h
theorem GK:∀ {l:ax},has i l↔i∈l:=by
 intro L0;induction L0 with
 |nil=>simp[WG,Mk]
 |cons j r ih=>
  refine rE (Mk ..) ?_;induction q:az j i with
  |true=>simp[fZ q]
  |false=>
   have bQ:i≠j:=λe=>by subst e;replace q:=(nh ..)▸q;exact zT q
   simp only[cond,bE,bQ,false_or];exact ih
theorem ND:∀ {l:ax},zh l→l.Nodup:=by
 intro L0;induction L0 with
 |nil=>intro _;exact yG
 |cons i r ih=>
  intro h;replace h:=(WL ..)▸h;induction q:has i r with
  |true=>replace h:=q▸h;exact zF h
  |false=>replace h:=q▸h;exact uE.mpr ⟨λhm=>(zT (GK.mpr hm▸q)),ih h⟩
theorem NF{l:ax}:∀ {m:ax},zi l m→∀i∈m,i∈l:=by
 intro L0;induction L0 with
 |nil=>intro _ i h;cases h
 |cons j r ih=>
  intro h i hm;replace h:=(WM ..)▸h;induction q:has j l with
  |false=>replace h:=q▸h;exact zF h
  |true=>
   replace h:=q▸h;rcases bE.mp hm with e|hm
   ·exact rE e (GK.mp q)
   ·exact ih h i hm
section
variable{K:Kt}
theorem Yw(h:view it≠.other)(env:bF)(x:ak):uF it env x=pure x:=by
 induction it using uA<;>first|rfl|exact absurd rfl h
theorem Yx(hh:A.handled=af)(hf:∀env x,uF it env x=pure x)(h:bg K C A ks it r):pW K C A ks it (.data r):=by
 refine⟨hf,λU env hs ρ s xs hk I ao Q E hQ=>?_⟩;refine wE (ao:W.bind _ _=_) λd hd ao=>oE ao λl hl ao=>?_;obtain rfl:=W.bp ao;refine(h U env hs ρ s d hk I hd).1 _ _ λv ai aq rv=>hQ v ai aq λav aC=>?_;have r2:=rv.ext aC;rcases w8 hl with rfl|rfl
 ·refine fA r2.listI λZ Z Z e9 hl hu r=>?_;subst e9
  ·exact MX hh (aq.trans aC) hl hu r
 ·refine fA r2.tupI λZ Z Z e9 hl hu r=>?_;subst e9
  ·exact XJ hh (aq.trans aC) hl hu r
theorem Yy(O:kW K C A)(hh:A.handled=af){ri:RI}(hx:sEq x rt)(hg:eZ (aV x ks))(hl:cZ K C A ks args rs)
  (h:FA rs=aa ri):pW K C A ks (.Call (.Name x q) args [] pos) ri:=by
 obtain rfl:=eE hx;refine⟨λZ Z=>rfl,λU env hs ρ s xs hk I ao Q E hQ=>?_⟩;have core:∀ (es:List Ev.D),eD K.tk C hs rs ρ=aa (es,ae)→(∀vs ai,Ext s ai→aI U ai.heap vs es→ar (aw prog K.w) A (call (.type "range") vs) Q E ai)→ar (aw prog K.w) A (eval (.Call (.Name rt q) args [] pos) env) Q E s:=by intro es GN hc;show ar _ A (do j4 pos (← eval (.Name rt q) env) [] (gK pos (f7 args env)) []) Q E s;refine aB (I.builtin (lG hk hg) O.ok.range nM.2.2.2.2.2.2.2.1 ?_);exact A6 (rC hl).1 (xn hk hl I GN λvs ai aq r=>hc vs ai aq r)
 have fin:∀ {ai:ay}{r:aE}{a b:Int}{t u v:mZ},Ext s ai→IsRange ai.heap r a b 1 t u v→0≤a→a.natAbs<1000000→b.natAbs<1000000→xs=kM a.toNat (b - a).toNat→Q (.ref r) ai:=by intro ai r a b t u v aq hr ha xr hb e;clear I hk;subst e;exact hQ _ ai aq λav aC=>XM hh (aq.trans aC) (aC.keep _ _ hr) ha xr hb
 unfold FA at h;induction q:rs.c1 with
 |some ra=>clear hQ;replace h:=iJ (q▸h);subst h;obtain rfl:=bf.tp q;refine wE (ao:W.bind (ev K.tk C hs ra ρ) _=_) λy hy ao=>aD (y7 ao) λj e9 ao=>?_;subst e9;refine xA (W.de ao) λe9 c0=>?_;subst e9;refine core [.int j] (xi hy) λvs ai aq r=>aD (nO r) λv e9 rv=>?_;subst e9;refine xE rv.iA λZ e9=>?_;subst e9;refine call_range_1 (fin (aq.trans (.heap λZ Z e=>jZ _ e)) (eT _ rfl) (Int.le_refl 0) (by decide) (bc c0) ?_);refine rE (Int.sub_zero ..) ?_;rfl
 |none=>replace h:=q▸h;refine oE h λp hp h=>?_;clear hQ;replace h:=iJ h;subst h;clear h;obtain rfl:=bf.xq hp;refine wE (ao:W.bind (ev K.tk C hs p.1 ρ) _=_) λy0 GO ao=>wE ao λy hy ao=>oE ao λi e1 h8=>oE h8 λj e2 h9=>?_;clear h8 ao hp;obtain rfl:=gh e1;clear e1 ao;obtain rfl:=gh e2;clear e2 ao;refine xA (W.de h9) λe9 c0=>?_;subst e9;clear h9;refine xA (cg c0) λc0 h3=>xA (cg c0) λh1 h2=>core [.int i,.int j] (BW GO hy) λvs ai aq r=>cK (xp r) λu v e9 ru rv=>?_;subst e9;clear r c0 hy;refine xE ru.iA λZ e9=>?_;subst e9;refine xE rv.iA λZ e9=>?_;subst e9;exact call_range_2 (fin (aq.trans (.heap λZ Z e=>jZ _ e)) (eT _ rfl) (of_decide_eq_true h1) (bc h2) (bc h3) rfl)
end
section
variable(K:Kt)(A:dU)
structure pZ:Prop where
 gen:∀U s x t,br K U s.heap→UB U s→(sL x).length≤1000000→∃a o fd,K.mg u4=aa (.ref a)∧s.heap.get? a=aa o∧o.data=.func fd∧zE K.w A U s (call (.ref a) [.str x t]) (pI (sL x))
end
section
variable{K:Kt}
set_option tactic.hygienic true in
theorem Yz(OG:pZ K A){ra:RE}(hx:sEq x u4)(hg:eZ (aV x ks))(hl:cZ K C A ks args (.cons ra .nil)):pW K C A ks (.Call (.Name x q) args [] pos) (.gen ra):=by
 obtain rfl:=eE hx;refine⟨λ_ _=>rfl,λU env hs ρ s xs hk I ao Q E hQ=>?_⟩;clear hx;refine wE (ao:W.bind (ev K.tk C hs ra ρ) _=_) λy hy ao=>aD (nG ao) λy e9 ao=>?_;subst e9;refine xA (W.de ao) λe9 c0=>?_;subst e9;have c0:=bc c0;refine fy (OG.gen U s y 0 I.bH I.ub c0) λa o fd e1 _=>?_;show ar _ A (do j4 pos (← eval (.Name u4 q) env) [] (gK pos (f7 args env)) []) Q E s;refine aB (I.global (lG hk hg) e1 nM.2.2.2.2.2.2.2.2.2 ?_);refine fA (OG.gen U s y 0 I.bH I.ub c0) λa' o fd vy e2 e3 _=>?_;replace vy:=e1▸vy;cases vy;refine Et (o:=o) (fd:=fd) (xn hk hl I (xs:=[.str y]) (xi hy) λvs ai aq r=>⟨⟨aq.keep _ _ e2,e3⟩,?_⟩);clear e3 e2 ao hy hk hl;refine aD (nO r) λv e9 rv=>?_;subst e9;clear r ao;refine xE rv.cQ λ_ e9=>?_;subst e9;rename_i t;refine fA (OG.gen U ai y t (I.bH.ext aq) (I.ub.ext aq) c0) λa' o fd vy _ _ g=>?_;replace vy:=e1▸vy;cases vy;refine g _ _ λv av aC hw=>hQ v av (aq.trans aC) λaR bx Q' E' h'=>hw aR bx Q' E' λI' Wr G St cq kj fw fg It st=>h' I' Wr G St cq kj (λb hb=>?_) (λb hb=>?_) It st
 ·induction q:s.heap.get? b with
  |none=>rfl
  |some o=>have:=aq.keep b o q;exact zN (fw b hb▸this)
 ·induction q:s.gens[b]? with
  |none=>rfl
  |some o=>have:=aq.gens b o q;exact zN (fg b hb▸this)
theorem NG(hh:A.handled=af){t:au}{relt:RE}{ri:RI}{ris:bf}{rgs:kK}
  (fb:scope.kind=.function) (k7:distinct scope.names) (tF:freeOk ks scope.names)
  (ht:jo K.X scope.names t=aa tg) (hI:pW K C A ks it ri) (hl:cZ K C A scope.names ifs ris) (hr:rH K C A scope.names gs rgs) (he:bg K C A scope.names elt relt)
  (kZ:(ke tg++kQ rgs).Nodup) (iE:∀i∈ke tg++kQ rgs,i∈fD K.X.names scope.names):
  bg K C A ks (.ListComp elt (⟨t,it,ifs,0⟩::gs) scope pos) (.comp (fD K.X.names scope.names) tg ri ris rgs relt):=by
 refine iC.plain (λZ Z=>rfl) λU env hs ρ s d hk I ao Q E hQ=>?_;show ar _ A (Bb (.ListComp elt (⟨t,it,ifs,0⟩::gs) scope pos) scope env it.pos (newList []) ag (eval it env) af) Q E s;refine NC hh fb k7 tF hk I ht hI hl hr he kZ iE ao (use:=af) λs' D Cn x hC hD hn r=>xE hn λm hn=>⟨m,hn,λh' hs'=>hQ _ _ ⟨λa o e=>?_,λg o e=>x.gens g o e,λe=>x.bare e,x.os⟩ (r.mono (λa o n e=>(hs'.2 a λq=>n (.inr q)).trans e) λa Z Z n k=>n (.inl k))⟩;exact(hs'.2 a λq=>by subst q;replace e:=hC▸e;exact zN e).trans (x.keep a o e)
end
theorem YA{o:kH}{op:uK}(h:Mi o=aa op):o=Fg op:=by induction o<;>first|exact zN h| (replace h:=iJ h;subst h;rfl)
theorem YB{e:au}(h:view e≠.other)(o:kH):behindInMarks o e=ag:=by
 induction e using uA<;>first|rfl|exact absurd rfl h
theorem noStar{e:au}(h:view e≠.other):nI e=ag:=by
 induction e using uA<;>first|rfl|exact absurd rfl h
theorem NH{k:ScopeKind}(h:isFun k):k=.function:=by induction k<;>first|rfl|exact zF h
theorem zJ{l:List El}(h:l.isEmpty):l=[]:=sR.mp h
theorem lL{v:V}(h:(match v with| .other=>ae|_=>ag)=ag):v≠.other:=λe=>by subst e;exact zT h
section
variable{K:Kt}{C:ma}{A:dU}
variable(K C A)in
noncomputable def iF(F:KS→au→Option RE):Prop:=∀ks e r,F ks e=aa r→bg K C A ks e r∧view e≠.other
variable{F:KS→au→Option RE}{ks:KS}
theorem lM(hF:iF K C A F):∀ {es:List au}{rs:bf},kR (F ks) es=aa rs→cZ K C A ks es rs:=by
 intro es;induction es with
 |nil=>intro rs h;replace h:=iJ h;subst h;exact .nil
 |cons e es ih=>intro rs h;refine oE h λr h1 h=>oE h λrs' h2 h=>?_;replace h:=iJ h;subst h;exact .cons (noStar (hF _ _ _ h1).2) (hF _ _ _ h1).1 (ih h2)
theorem xy(hF:iF K C A F){o:Option au}{r:RO}(h:cO (F ks) o=aa r):mB K C A ks o r:=by
 induction o with
 |none=>replace h:=iJ h;subst h;exact .none
 |some e=>refine oE h ?_;clear h;intro r' h1 h;replace h:=iJ h;subst h;exact .some (hF _ _ _ h1).1
theorem YC(hF:iF K C A F):∀ {ops:List kH}{es:List au}{cs:mf},Fx (F ks) ops es=aa cs→vd K C A ks ops es cs:=by
 intro ops;induction ops with
 |nil=>intro es cs h;refine xA (cj h) λh1 h=>?_;replace h:=iJ h;subst h;exact rE (sR.mp h1) (.nil)
 |cons op ops ih=>
  intro es cs h;induction es using bj with
  |nil=>exact zN h
  |cons e es=>refine oE h λo h1 h=>oE h λr h2 h=>oE h λMH h3 h=>?_;replace h:=iJ h;subst h;exact rE (YA h1) (.cons (YB (hF _ _ _ h2).2) (hF _ _ _ h2).1 (ih h3))
theorem YD(O:kW K C A)(OG:pZ K A)(hh:A.handled=af)(hF:iF K C A F){ri:RI}(h:cI (F ks) ks it=aa ri):pW K C A ks it ri:=by
 unfold cI at h;induction q:view it with
 |call g args iB p=>
  replace h:=q▸h;obtain rfl:=dM q rfl;refine oE h λx hx h1=>xE (xd hx) λq' e9=>?_;subst e9;refine xA (cj h1) λhk h2=>?_;obtain rfl:=zJ hk;clear h h1 hx hk q;induction hr:(sEq x rt&&eZ (aV x ks))with
  |true=>replace h2:=hr▸h2;exact xA (cg hr) λa1 a2=>oE (h2:(kR (F ks) args).bind _=_) λrs rL h3=>Yy O hh a1 a2 (lM hF rL) h3
  |false=>replace h2:=hr▸h2;refine xA (cj (h2:cond _ _ af=_)) λhg h3=>xA (cg hg) λa1 a2=>oE h3 λrs rL h4=>oE h4 λra tn h5=>?_;clear h4 h3 hg h2;replace h5:=iJ h5;subst h5;have hl:=lM hF rL;replace hl:=bf.tp tn▸hl;exact Yz OG a1 a2 hl
 |_=>exact zN (q▸h)
theorem Co(O:kW K C A)(OG:pZ K A)(hh:A.handled=af)(hF:iF K C A F){ri:RI}(h:zj (F ks) ks it=aa ri):pW K C A ks it ri:=by
 unfold zj at h;induction q:cI (F ks) ks it with
 |some r=>replace h:=iJ (q▸h);subst h;exact YD O OG hh hF q
 |none=>replace h:=q▸h;refine oE h ?_;clear h;intro r h1 h;replace h:=iJ h;subst h;exact Yx hh (Yw (hF _ _ _ h1).2) (hF _ _ _ h1).1
theorem NI(O:kW K C A)(OG:pZ K A)(hh:A.handled=af)(hF:iF K C A F):∀ {gs:List sE}{rgs:kK},FG K.X F ks gs=aa rgs→rH K C A ks gs rgs:=by
 intro gs;induction gs with
 |nil=>intro rgs h;replace h:=iJ h;subst h;exact .nil
 |cons g gs ih=>intro rgs h;obtain⟨t,it,ifs,a⟩:=g;refine oE h λtg ht h=>oE h λri hi h=>oE h λris hl h=>oE h λaiB hg h=>xA (cj h) λh1 h=>?_;replace h:=iJ h;subst h;obtain rfl:=GJ h1;exact .cons ht (Co O OG hh hF hi) (lM hF hl) (ih hg)
theorem YE(O:kW K C A)(OG:pZ K A)(hh:A.handled=af)(hF:iF K C A F)(h1:distinct scope.names)(h2:freeOk ks scope.names)(h3:scope.kind=.function)
  (h:FH K.X F ks scope.names gs elt=aa r):bg K C A ks (.ListComp elt gs scope p) r:=by
 induction gs using bj with
 |nil=>exact zN h
 |cons g gs=>obtain⟨t,it,ifs,a⟩:=g;refine oE h λrelt he h=>oE h λtg ht h=>oE h λri hi h=>oE h λris hl h=>oE h λrgs hg h=>xA (cj h) λh4 h=>xA (cg h4) λh4 h5=>xA (cg h5) λh5 h6=>?_;replace h:=iJ h;subst h;clear h;obtain rfl:=GJ h4;exact NG hh h3 h1 h2 ht (Co O OG hh hF hi) (lM hF hl) (NI O OG hh hF hg) (hF _ _ _ he).1 (ND h5) (NF h6)
theorem YF(O:kW K C A)(hF:iF K C A F){f:au}(h:Mp K.X F ks args p (view f)=aa r):bg K C A ks (.Call f args [] p) r:=by
 induction q:view f with
 |name x q'=>
  replace h:=q▸h;obtain rfl:=dM q rfl;clear q;induction hi:(sEq x oO&&eZ (aV x ks))with
  |true=>have h:cond (sEq x oO&&eZ (aV x ks)) (BN F ks args) _=aa r:=h;replace h:=hi▸h;refine xA (cg hi) λh1 h2=>?_;obtain rfl:=eE h1;refine oE (h:BN F ks args=_) λa ha h3=>?_;obtain rfl:=zw ha;refine oE h3 λra tn h4=>xA (cj h4) λht h5=>?_;replace h5:=iJ h5;subst h5;exact Xl O h2 (noStar (hF _ _ _ tn).2) (hF _ _ _ tn).1 ht
  |false=>have h:cond (sEq x oO&&eZ (aV x ks)) (BN F ks args) _=aa r:=h;replace h:=hi▸h;exact oE h λrs rL h1=>Xk O (lM hF rL) h1
 |attr o m ap=>replace h:=q▸h;obtain rfl:=dM q rfl;exact oE h λrs rL h1=>xA (cj h1) λh2 h3=>xA (cg h2) λh2 h4=>xA (cg h2) λh2 h5=>XE O h2 h5 h4 (λra ha=>(hF _ _ _ ha).1) (lM hF rL) h3
 |_=>exact zN (q▸h)
theorem YG(O:kW K C A)(hF:iF K C A F){a sl:au}(h:Mq K.X F ks a sl (view sl)=aa r):bg K C A ks (.Subscript a sl p) r:=by
 have YH:(F ks sl).bind (λi=>xf K.X ks a (F ks a) i)=aa r→bg K C A ks (.Subscript a sl p) r:=λh=>by exact oE h λri h1 h=>MK (F:=F ks) O.ok (λra ha=>(hF _ _ _ ha).1) (hF _ _ _ h1).1 h
 induction q:view sl with
 |slice l u s q'=>
  replace h:=q▸h;obtain rfl:=dM q rfl;refine oE h λrl h3 h4=>oE h4 λrh h5 h6=>oE h6 λrs h7 h8=>?_;clear h h4 h6;induction hv:nameId K.X ks a with
  |some i=>replace h8:=iJ (hv▸h8);subst h8;exact Xa O.ok hv (xy hF h3) (xy hF h5) (xy hF h7)
  |none=>replace h8:=hv▸h8;refine oE h8 ?_;clear h8;intro ra h1 h8;replace h8:=iJ h8;subst h8;exact Xb (hF _ _ _ h1).1 (xy hF h3) (xy hF h5) (xy hF h7)
 |_=>replace h:=q▸h;exact YH h
theorem Cp(O:kW K C A)(OG:pZ K A)(hh:A.handled=af)(hF:iF K C A F):iF K C A λks e=>cV K.X F ks (view e):=by
 intro ks e r h;have h:cV K.X F ks (view e)=aa r:=h;induction q:view e with
 |const c k p=>replace h:=q▸h;obtain rfl:=dM q rfl;refine oE h λd h1 h2=>?_;replace h2:=iJ h2;subst h2;exact⟨snd_const h1,lL rfl⟩
 |name x p=>replace h:=q▸h;obtain rfl:=dM q rfl;exact⟨xk O.ok h,lL rfl⟩
 |bin l o r' p=>replace h:=q▸h;obtain rfl:=dM q rfl;refine oE h λa h1 h2=>oE h2 λop h3 h4=>oE h4 λb h5 h6=>?_;replace h6:=iJ h6;subst h6;exact⟨MF h3 (hF _ _ _ h1).1 (hF _ _ _ h5).1,lL rfl⟩
 |bool o es p=>
  replace h:=q▸h;obtain rfl:=dM q rfl;refine oE h λrs h1 h2=>?_;have hl:=lM hF h1;induction hl with
  |nil=>exact zN h2
  |cons _ he hr=>induction o with
   |And=>replace h2:=iJ h2;subst h2;exact⟨snd_and hr he,lL rfl⟩
   |Or=>replace h2:=iJ h2;subst h2;exact⟨W2 hr he,lL rfl⟩
 |BI c a b p=>replace h:=q▸h;obtain rfl:=dM q rfl;refine oE h λrc h1 h2=>oE h2 λra h3 h4=>oE h4 λrb h5 h6=>?_;replace h6:=iJ h6;subst h6;exact⟨WZ (hF _ _ _ h1).1 (hF _ _ _ h3).1 (hF _ _ _ h5).1,lL rfl⟩
 |cmp l ops es p=>
  replace h:=q▸h;obtain rfl:=dM q rfl;refine oE h λa h1 h2=>⟨?_,lL rfl⟩;induction ht:Fy ops es with
  |true=>replace h2:=iJ (ht▸h2);subst h2;refine gz (W7 ht) λk p' e9 bC=>?_;subst e9;subst bC;exact W8 (hF _ _ _ h1).1
  |false=>
   replace h2:=(cond_false ..)▸ht▸h2;induction hn:Mm K.X ks ops es with
   |none=>replace h2:=hn▸h2;refine oE h2 λcs h3 h4=>?_;replace h4:=iJ h4;subst h4;exact F3 O.room (hF _ _ _ h1).1 (YC hF h3)
   |some v=>
    replace h2:=iJ (hn▸h2);subst h2;refine oE hn λo g1 g2=>xA (cj g2) λg3 g4=>oE g4 λe g5 g6=>oE g6 λv' g7 g8=>xA (cj g8) λZ g9=>?_;replace g9:=iJ g9;subst g9;obtain rfl:=nN g1;obtain rfl:=nN g5;obtain rfl:o=.NotIn:=by induction o<;>first|rfl|exact zF g3
    exact Xz O.ok (hF _ _ _ h1).1 g7
 |list es p=>replace h:=q▸h;obtain rfl:=dM q rfl;refine oE h λrs h1 h2=>xA (cj h2) λh3 h4=>?_;replace h4:=iJ h4;subst h4;exact⟨Xe (lM hF h1) h3,lL rfl⟩
 |tup es k p=>replace h:=q▸h;obtain rfl:=dM q rfl;refine oE h λrs h1 h2=>xA (cj h2) λh3 h4=>?_;replace h4:=iJ h4;subst h4;exact⟨B1 (lM hF h1) h3,lL rfl⟩
 |comp elt gs sc p=>replace h:=q▸h;obtain rfl:=dM q rfl;exact xA (cj h) λh1 h2=>xA (cg h1) λh1 h3=>xA (cg h1) λh1 h4=>⟨YE O OG hh hF h1 h4 (NH h3) h2,lL rfl⟩
 |call f args iB p=>replace h:=q▸h;obtain rfl:=dM q rfl;refine xA (cj h) λh1 h2=>?_;obtain rfl:=zJ h1;exact⟨YF O hF h2,lL rfl⟩
 |BJ o a p=>
  replace h:=q▸h;obtain rfl:=dM q rfl;induction o with
  |Not=>refine oE (h:(F ks a).bind _=_) λra h1 h2=>?_;replace h2:=iJ h2;subst h2;exact⟨Xc (hF _ _ _ h1).1,lL rfl⟩
  |USub=>
   have h:(match view a with| .const c _ _=>(match c with| .int i=>aa (RE.lit (.int (-i)))|_=>af)|_=>af)=aa r:=h;induction q2:view a with
   |const c k p'=>
    replace h:=q2▸h;obtain rfl:=dM q2 rfl;induction c with
    |int i=>replace h:=iJ h;subst h;exact⟨Xd,lL rfl⟩
    |_=>exact zN h
   |_=>exact zN (q2▸h)
  |_=>exact zN h
 |sub a sl p=>replace h:=q▸h;obtain rfl:=dM q rfl;exact⟨YG O hF h,lL rfl⟩
 |_=>exact zN (q▸h)
theorem YI(O:kW K C A)(OG:pZ K A)(hh:A.handled=af)(n:Nat):iF K C A (cE K.X n):=by
 induction n with
 |zero=>exact λks e r h=>nomatch h
 |succ n ih=>exact Cp O OG hh ih
end
set_option genCtorIdx false in
inductive Rl where
 |frame
 |own (i:Nat)
 |tab (j:Nat)
noncomputable def Rl.ctorIdx(x:Rl):Nat:=Rl.casesOn (motive:=λZ=>Nat) x 0 (λZ=>1) λZ=>2
noncomputable abbrev dC:=aE→Option Rl
noncomputable def UU(R:dC)(B:aY):aE→Prop:=λa=>R a≠af∨B a
variable {R:dC}
theorem dO.tab{hc:aE}{h:aP}{t:d6}(x:dO hc U h a l t):iW hc U h (.ref a) t:=⟨a,l,rfl,x⟩
structure YJ(R:dC)(env:bF)(h:aP)(p:bF × pB):Prop where
 kind:p.1.scope.kind=.function
 frame:p.1.frame=aa p.1.locals
 role:R p.1.locals=aa .frame
 apart:¬dm env p.1.locals
 data:∀vs,p.2≠.fields vs
 obj:∃o,h.get? p.1.locals=aa o∧o.data=p.2
section
variable(K:Kt)
noncomputable def fE(B:aY)(R:dC)(T:dW)(hs:Hs)(h:aP)(i:Nat)(v:ak):bA→Prop
 | .val d=>Rd (UU R B) h v d
 | .own xs=>∃a vs n,v=.ref a∧R a=aa (.own i)∧h.get? a=aa (cy vs n)∧aI (UU R B) h vs.toList xs
 | .cU j=>(∃t,hs[j]? =aa t)∧v=.ref (T j).1
 | .fO l=>nJ K.w (UU R B) h v l
structure aN(B:aY)(R:dC)(T:dW)(env:bF)(hs:Hs)(ρ:aM)(s:ay):Prop where
 bH:br K (UU R B) s.heap
 ub:UB (UU R B) s
 kind:env.scope.kind=.function
 gl:env.globals=gp
 bi:env.builtins=jE
 bu:jq (UU R B) env s.heap
 bd:∀a,B a→R a=af
 fr:∀a,dm env a→R a=aa .frame
 vars:∀x i sl,aZ x K.X.names=aa i→get ρ i=aa sl→d8 (env.kindOf x)→∃v,fQ env s.heap x v∧fE K B R T hs s.heap i v sl
 tabs:∀j t,hs[j]? =aa t→dO K.hc (UU R B) s.heap (T j).1 (T j).2 t∧R (T j).2=aa (.tab j)
 outs:∀e l,K.me=aa (e,l)→env=e∧env.frame=aa env.locals∧∀p∈l,YJ R env s.heap p
end
theorem gF{r:Rl}(h:R a=aa r):R a≠af:=λq=>by replace h:=q▸h;exact zN h
section
variable{K:Kt}{T:dW}
theorem aN.own(I:aN K B R T env hs ρ s)(x:ah)(i:Nat)(xs:List D)(hi:aZ x K.X.names=aa i)(hg:get ρ i=aa (.own xs))(hk:d8 (env.kindOf x)):∃a vs n,fQ env s.heap x (.ref a)∧R a=aa (.own i)∧s.heap.get? a=aa (cy vs n)∧aI (UU R B) s.heap vs.toList xs:=by obtain⟨_,p,a,vs,n,rfl,q⟩:=I.vars x i _ hi hg hk;exact⟨a,vs,n,p,q⟩
theorem aN.cU(I:aN K B R T env hs ρ s)(x:ah)(i j:Nat)(hi:aZ x K.X.names=aa i)(hg:get ρ i=aa (.cU j))(hk:d8 (env.kindOf x)):(∃t,hs[j]? =aa t)∧fQ env s.heap x (.ref (T j).1):=by refine j8 (I.vars x i _ hi hg hk) λZ p q e9=>?_;subst e9;exact⟨q,p⟩
theorem aN.e(I:aN K B R T env hs ρ s):bJ K (UU R B) env hs ρ s where
 bH:=I.bH
 ub:=I.ub
 kind:=I.kind
 gl:=I.gl
 bi:=I.bi
 bu:=I.bu
 vars:=λx i sl a b c=>by
  refine aD (I.vars x i sl a b c) λv p q=>⟨v,p,?_⟩;induction sl with
  |own xs=>exact ic q λl vs n e1 Z e3=>⟨l,vs,n,e1,e3⟩
  |cU j=>obtain⟨⟨t,e1⟩,rfl⟩:=q;exact⟨t,e1,(I.tabs j t e1).1.tab⟩
  |_=>exact q
theorem aN.congr(I:aN K B R T env hs ρ s)(h:∀i,get ρ' i=get ρ i):aN K B R T env hs ρ' s:=
 {I with vars:=λx i d a b c=>I.vars x i d a (h i▸b) c}
section
variable{B':aY}{R':dC}{T':dW}{hs':Hs}
structure Kept(k:Rl→Prop)(B B':aY)(R R':dC)(T T':dW)(hs hs':Hs)(s s':ay):Prop where
 keep:∀a o,¬UU R B a→s.heap.get? a=aa o→s'.heap.get? a=aa o
 hu:∀a o,s.heap.get? a=aa o→¬UU R B a→¬UU R' B' a
 role:∀a r,k r→R a=aa r→R' a=aa r∧∀o,s.heap.get? a=aa o→s'.heap.get? a=aa o
 hs:∀ (j:Nat) t,hs[j]? =aa t→(∃t',hs'[j]? =aa t')∧T' j=T j
variable{k:Rl→Prop}
theorem fE.kept(x:Kept k B B' R R' T T' hs hs' s s'){v:ak}(ki:∀xs,sl=.own xs→k (.own i))(h:fE K B R T hs s.heap i v sl):fE K B' R' T' hs' s'.heap i v sl:=by
 induction sl with
 |val d=>exact Rd.mono x.keep x.hu h
 |own xs=>refine fA h λa vs n e1 e2 e3 e4=>?_;exact let y:=x.role a _ (ki _ rfl) e2;⟨a,vs,n,e1,y.1,y.2 _ e3,e4.mono x.keep x.hu⟩
 |cU j=>obtain⟨⟨t,e1⟩,e2⟩:=h;exact⟨(x.hs j t e1).1,(x.hs j t e1).2▸e2⟩
 |fO l=>exact nJ.mono h x.keep x.hu
theorem aN.GP(I:aN K B R T env hs ρ s)(x:Kept k B B' R R' T T' hs hs' s s')(Cq:∀a,R a=aa .frame→R' a=aa .frame∧∀o,s.heap.get? a=aa o→∃o',s'.heap.get? a=aa o'∧o'.data=o.data)(ub:UB (UU R' B') s')(bd:∀a,B' a→R' a=af)
  (vars:∀x i sl,aZ x K.X.names=aa i→get ρ' i=aa sl→d8 (env.kindOf x)→∃v,fQ env s.heap x v∧fE K B' R' T' hs' s'.heap i v sl)
  (tabs:∀j t,hs'[j]? =aa t→dO K.hc (UU R' B') s'.heap (T' j).1 (T' j).2 t∧R' (T' j).2=aa (.tab j)):aN K B' R' T' env hs' ρ' s':=by
 have fr:=λa h=>Cq a (I.fr a h);have fU:∀a,dm env a→UU R' B' a:=λa h=>.inl (gF (fr a h).1);have cell:∀ {y c v},env.cells.lookup y=aa c→s.heap.IsCell c v→s'.heap.IsCell c v:=λ{y c v} hy q=>aD q λo ho hd=>aD ((fr c (.inr ⟨y,hy⟩)).2 o ho) λo' h1 h2=>⟨o',h1,h2.trans hd⟩;have ns:∀ {m'},s.heap.Ns env.locals m'→s'.heap.Ns env.locals m':=λ{m'} q=>ic q λo es ep ho hd r=>aD ((fr _ (.inl rfl)).2 o ho) λo' h1 h2=>⟨o',es,ep,h1,h2.trans hd,r⟩;refine⟨I.bH.mono x.keep x.hu,ub,I.kind,I.gl,I.bi,⟨lE I.bu.loc λZ b c=>⟨fU _ (.inl rfl),b,ns c⟩,λy c e=>lE (I.bu.fR y c e) λZ b d=>⟨fU _ (.inr ⟨y,e⟩),b,cell e d⟩,I.bu.inj,I.bu.has⟩,bd,λa h=>(fr a h).1,λy i sl a b c=>?_,tabs,λe l h=>let⟨h1,h2,h3⟩:=I.outs e l h;⟨h1,h2,λp hp=>let q:=h3 p hp;let f:=Cq _ q.role;⟨q.kind,q.frame,f.1,q.apart,q.data,aD q.obj λo e1 e2=>aD (f.2 o e1) λo' e3 e4=>⟨o',e3,e4.trans e2⟩⟩⟩⟩;refine aD (vars y i sl a b c) λv p q=>⟨v,?_,q⟩;rcases p with⟨k1,m',n',e'⟩| ⟨k1,c',e1,e2⟩
 ·exact .inl ⟨k1,m',ns n',e'⟩
 ·exact .inr ⟨k1,c',e1,cell e1 e2⟩
theorem aN.tr(I:aN K B R T env hs ρ s)(x:Kept k B B' R R' T T' hs hs' s s')(kf:k .frame)(ub:UB (UU R' B') s')(bd:∀a,B' a→R' a=af)
  (vars:∀x i sl,aZ x K.X.names=aa i→get ρ' i=aa sl→d8 (env.kindOf x)→∃v,fQ env s.heap x v∧fE K B' R' T' hs' s'.heap i v sl)
  (tabs:∀j t,hs'[j]? =aa t→dO K.hc (UU R' B') s'.heap (T' j).1 (T' j).2 t∧R' (T' j).2=aa (.tab j)):aN K B' R' T' env hs' ρ' s':=
 I.GP x (λa h=>let q:=x.role a _ kf h;⟨q.1,λo e=>⟨o,q.2 o e,rfl⟩⟩) ub bd vars tabs
theorem aN.Cr(p:Nat→Prop)(I:aN K B R T env hs ρ s)(x:Kept k B B' R R' T T hs hs s s')(kf:k .frame)(ko:∀i xs,¬p i→get ρ i=aa (.own xs)→k (.own i))(kt:∀j,k (.tab j))(ub:UB (UU R' B') s')(bd:∀a,B' a→R' a=af)
  (same:∀i,¬p i→get ρ' i=get ρ i) (vars:∀x i sl,p i→aZ x K.X.names=aa i→get ρ' i=aa sl→d8 (env.kindOf x)→∃v,fQ env s.heap x v∧fE K B' R' T hs s'.heap i v sl):aN K B' R' T env hs ρ' s':=
 I.tr x kf ub bd (λy i sl hi hg hk=>by
  by_cases e:p i
  ·exact vars y i sl e hi hg hk
  ·replace hg:=same i e▸hg;refine aD (I.vars y i sl hi hg hk) λv p q=>?_;exact⟨v,p,q.kept x λxs h=>ko i xs e (h▸hg)⟩) λj t e=>let⟨p,q⟩:=I.tabs j t e;⟨p.mono x.keep x.hu λZ Z=>(x.role _ _ (kt j) q).2 _,(x.role _ _ (kt j) q).1⟩
end
theorem aN.live(I:aN K B R T env hs ρ s)(h:s.heap.get? a=af):R a=af∧¬B a:=by
 refine⟨?_,λb=>?_⟩
 ·induction q:R a with
  |none=>rfl
  |some r=>exact xE (I.ub a (.inl (gF q))) λo e=>zN (h▸e)
 ·exact xE (I.ub a (.inr b)) λo e=>zN (h▸e)
theorem aN.GQ{B0:aY}(I:aN K B R T env hs ρ s){G:Nat→Prop}(m:Mv Ku G s s')(hK:∀a,Ku a→B a)(hn:∀a,B0 a→B a∨s.heap.get? a=af)(ha:∀a,B0 a→∃o,s'.heap.get? a=aa o):aN K B0 R T env hs ρ s':=by
 have hr:∀a o,R a≠af→s.heap.get? a=aa o→s'.heap.get? a=aa o:=λa o n e=>m.keep a o (λk=>n (I.bd a (hK a k))) e;refine I.Cr (k:=λZ=>True) (λZ=>False) ⟨λa o n e=>m.keep a o (λk=>n (.inr (hK a k))) e,λa o e n k=>n (k.imp id λb=>(hn a b).elim id λq=>by replace e:=q▸e;exact zN e),λa r Z h=>⟨h,λo=>hr a o (gF h)⟩,λj t e=>⟨⟨t,e⟩,rfl⟩⟩ trivial (λZ Z Z Z=>trivial) (λZ=>trivial)
  (λa h=>h.elim (λh=>let⟨o,e⟩:=I.ub a (.inl h);⟨o,hr a o h e⟩) (ha a)) (λa h=>(hn a h).elim (I.bd a) λe=>(I.live e).1) (λZ Z=>rfl) λZ Z Z e=>e.elim
theorem aN.Cs{B0:aY}(I:aN K B R T env hs ρ s){G:Nat→Prop}(m:Mv Ku G s s')(hK:∀a,Ku a→B a)(hB:∀a,B0 a→B a)(ha:∀a,Ku a→B0 a→∃o,s'.heap.get? a=aa o):aN K B0 R T env hs ρ s':=
 I.GQ m hK (λa h=>.inl (hB a h)) λa h=>by
  by_cases k:Ku a
  ·exact ha a k h
  ·exact xE (I.ub a (.inr (hB a h))) λo e=>⟨o,m.keep a o k e⟩
theorem aN.YK{B0:aY}(I:aN K B R T env hs ρ s){G:Nat→Prop}(m:Mv Ku G s s')(hK:∀a,Ku a→B a)(_:∀a,B a→B0 a)(hn:∀a,B0 a→B a∨s.heap.get? a=af)(ha:∀a,B0 a→∃o,s'.heap.get? a=aa o):aN K B0 R T env hs ρ s':=I.GQ m hK hn ha
theorem aN.move(I:aN K B R T env hs ρ s){G:Nat→Prop}(m:Mv Ku G s s')(hK:∀a,Ku a→B a)(ha:∀a,Ku a→∃o,s'.heap.get? a=aa o):aN K B R T env hs ρ s':=
 I.Cs m hK (λZ h=>h) λa h Z=>ha a h
theorem aN.ext(I:aN K B R T env hs ρ s)(x:Ext s s'):aN K B R T env hs ρ s':=I.move (Ku:=λZ=>False) (G:=λZ=>False) x.mv (λZ h=>h.elim) λZ h=>h.elim
theorem aN.NJ(I:aN K B R T env hs ρ s)(x:Ext s s'){N:aY}(hn:∀a,N a→s.heap.get? a=af)(ha:∀a,N a→∃o,s'.heap.get? a=aa o):aN K (λa=>B a∨N a) R T env hs ρ s':=
 I.GQ (Ku:=λZ=>False) (G:=λZ=>False) x.mv (λZ h=>h.elim) (λa h=>h.imp id (hn a)) λa h=>h.elim (λh=>let⟨o,e⟩:=I.ub a (.inr h);⟨o,x.keep a o e⟩) (ha a)
theorem GR(lN:env.scope.kind=.function)(f:jq U env s.heap){v:ak}(cm:dz (aV x ks))(hk:env.kindOf x=aa .local∨env.kindOf x=aa .cell)
  {Q:Unit→ay→Prop}{E:aW} (hQ:∀s',jq U env s'.heap→gC ks env s s'→fQ env s'.heap x v→(∀y v',y≠x→fQ env s.heap y v'→fQ env s'.heap y v')→Q () s'):ar (aw prog K.w) A (qO env x v) Q E s:=by
 rcases hk with hk|hk
 ·refine lE f.loc λhu m hm=>Ew (hp:=by refine rE lN ?_;rfl) hk hm λh' js cB=>?_;have mv:gC ks env s {s with heap:=h',toks:=s.toks+1}:=⟨λa o e=>by
   by_cases ha:a=env.locals
   ·exact .inr (.inl ha)
   ·exact .inl ((cB.2 a ha).trans e),rfl,rfl⟩
  have cell:∀ {c v},s.heap.IsCell c v→h'.IsCell c v:=λ{c v} hc=>hc.sameBut cB λe=>by subst e;refine aD hc λo ho hd=>ic hm λo' es ep gB dB Z=>?_;replace gB:=iJ (ho▸gB);subst gB;replace dB:=hd▸dB;cases dB
  refine hQ _ ⟨⟨hu,_,js⟩,λy c e=>let⟨a,v,q⟩:=f.fR y c e;⟨a,v,cell q⟩,f.inj,f.has⟩ mv (.inl ⟨hk,_,js,by simp⟩) λy v' bQ hv=>?_;rcases hv with⟨k1,m',n',e'⟩| ⟨k1,c,e1,e2⟩
  ·refine .inl ⟨k1,_,js,?_⟩;exact rE (if_neg bQ) ((hm.agree n' y).trans e')
  ·exact .inr ⟨k1,c,e1,cell e2⟩
 ·refine xE (f.has x (.inl hk)) λc hc=>lE (f.fR x c hc) λhu MV tw=>ahA lN hk hc tw λh' oQ cB=>?_;have mv:gC ks env s {s with heap:=h'}:=⟨λa o e=>by
   by_cases ha:a=c
   ·exact .inr (.inr ⟨x,cm,ha▸hc⟩)
   ·exact .inl ((cB.2 a ha).trans e),rfl,rfl⟩
  have ns:∀ {m},s.heap.Ns env.locals m→h'.Ns env.locals m:=λ{m} hn=>hn.sameBut cB λe=>by refine aD tw λo ho hd=>ic hn λo' es ep gB dB Z=>?_;replace ho:=e.symm▸ho;replace ho:=iJ (gB▸ho);subst ho;replace hd:=dB▸hd;cases hd
  have cell:∀ {y c' v},env.cells.lookup y=aa c'→y≠x→s.heap.IsCell c' v→h'.IsCell c' v:=λ{y c' v} hy bQ q=>q.sameBut cB λe=>bQ (f.inj y x c (e▸hy) hc);refine hQ _ ⟨let⟨a,m,n⟩:=f.loc;⟨a,m,ns n⟩,λy c' e=>?_,f.inj,f.has⟩ mv (.inr ⟨.inl hk,c,hc,oQ⟩) λy v' bQ hv=>?_
  ·refine lE (f.fR y c' e) λa v' q=>?_;by_cases bQ:y=x
   ·subst bQ;replace e:=iJ (hc▸e);subst e;exact⟨a,_,oQ⟩
   ·exact⟨a,v',cell e bQ q⟩
  ·rcases hv with⟨k1,m',n',e'⟩| ⟨k1,c',e1,e2⟩
   ·exact .inl ⟨k1,m',ns n',e'⟩
   ·exact .inr ⟨k1,c',e1,cell e1 bQ e2⟩
theorem aN.stored(I:aN K B R T env hs ρ s)(f':jq (UU R B) env s'.heap)(mv:gC ks env s s')
  (vars:Kept (· ≠.frame) B B R R T T hs hs s s'→∀y j sl,aZ y K.X.names=aa j→get ρ' j=aa sl→d8 (env.kindOf y)→∃v,fQ env s'.heap y v∧fE K B R T hs s'.heap j v sl):aN K B R T env hs ρ' s':=by
 have nf:∀ {a r},R a=aa r→r≠.frame→∀o,s.heap.get? a=aa o→s'.heap.get? a=aa o:=λ{a r} h hr o e=>(mv.1 a o e).elim id λk=>absurd (ir (h.symm.trans (I.fr a (mF k)))) hr;have X:Kept (· ≠.frame) B B R R T T hs hs s s':=⟨λa o n e=>mv.keep I.bu n e,λZ Z Z n=>n,λa r k h=>⟨h,nf h k⟩,λj t e=>⟨⟨t,e⟩,rfl⟩⟩;refine⟨I.bH.mono X.keep X.hu,λa ha=>?_,I.kind,I.gl,I.bi,f',I.bd,I.fr,vars X,λj t e=>?_,λe l h=>?_⟩
 ·refine xE (I.ub a ha) λo e=>?_;rcases mv.1 a o e with h|rfl| ⟨z,_,h⟩
  ·exact⟨o,h⟩
  ·obtain⟨_,m,o,_,_,ho,_⟩:=f'.loc;exact⟨o,ho⟩
  ·exact mu (f'.fR z a h) λZ v o ho Z=>⟨o,ho⟩
 ·exact xA (I.tabs j t e) λp q=>⟨p.mono X.keep X.hu λZ Z=>nf q nofun _,q⟩
 ·refine mr (I.outs e l h) λh1 h2 h3=>⟨h1,h2,λp hp=>?_⟩;obtain⟨q1,q2,q3,q4,q5,o,q6,q7⟩:=h3 p hp;exact⟨q1,q2,q3,q4,q5,o,(mv.1 _ o q6).elim id λk=>(q4 (mF k)).elim,q7⟩
theorem aN.store(I:aN K B R T env hs ρ s){v:ak}(hi:aZ x K.X.names=aa i)(cm:dz (aV x ks))(hk:env.kindOf x=aa .local∨env.kindOf x=aa .cell)
  (lH:fE K B R T hs s.heap i v sl) {Q:Unit→ay→Prop}{E:aW} (hQ:∀s',aN K B R T env hs (put ρ i sl) s'→gC ks env s s'→Q () s'):ar (aw prog K.w) A (qO env x v) Q E s:=by
 refine GR I.kind I.bu cm hk λs' f' mv hx hy=>hQ s' (I.stored f' mv λX y j tv hj hg jM=>?_) mv;by_cases lI:j=i
 ·clear mv f' hk cm;subst lI;obtain rfl:=tu hi hj;replace hg:=iJ ((kX ..)▸hg);subst hg;exact⟨v,hx,lH.kept X λZ Z=>nofun⟩
 ·rw[fS sl lI]at hg;clear hx mv f' hk cm;exact aD (I.vars y j tv hj hg jM) λv' p q=>⟨v',hy y v' (λe=>by subst e;replace hj:=hi▸hj;replace hj:=iJ hj;subst hj;exact lI rfl) p,q.kept X λZ Z=>nofun⟩
theorem aN.NK(I:aN K B R T env hs ρ s){v:ak}(hi:aZ x K.X.names=af)(cm:dz (aV x ks))(hk:env.kindOf x=aa .local∨env.kindOf x=aa .cell)
  {Q:Unit→ay→Prop}{E:aW} (hQ:∀s',aN K B R T env hs ρ s'→gC ks env s s'→fQ env s'.heap x v→Q () s'):ar (aw prog K.w) A (qO env x v) Q E s:=
 GR I.kind I.bu cm hk λs' f' mv hx hy=>hQ s' (I.stored f' mv λX y j sl hj hg jM=>let⟨v',p,q⟩:=I.vars y j sl hj hg jM;⟨v',hy y v' (λe=>by replace hj:=e▸hj;replace hj:=hi▸hj;exact zN hj) p,q.kept X λZ Z=>nofun⟩) mv hx
theorem NL:∀ {ρ:aM},get (dX is ρ) i=match get ρ i with
  |some (.own xs)=>cond (is.any (az i)) (aa (.val (.list xs))) (aa (.own xs))
  |o=>o:=by
 intro ρ;induction ρ with
 |nil=>rfl
 |cons p r ih=>
  obtain⟨j,sl⟩:=p;induction sl with
  |own xs=>
   show cond (az j i) (aa (cond (is.any (az j)) (.val (.list xs)) (.own xs))) (get (dX is r) i)=match cond (az j i) (aa (.own xs)) (get r i)with|some (.own xs)=>cond (is.any (az i)) (aa (.val (.list xs))) (aa (.own xs))|o=>o
   induction q:az j i with
   |true=>have:=fZ q;subst this;dsimp only[cond];cases is.any (az j)<;>rfl
   |false=>exact ih
  |_=>
   show cond (az j i) _ (get (dX is r) i)=match cond (az j i) _ (get r i)with|some (.own xs)=>cond (is.any (az i)) (aa (.val (.list xs))) (aa (.own xs))|o=>o
   induction q:az j i with
   |true=>rfl
   |false=>exact ih
noncomputable def qc(is:ax)(R:dC):dC:=λa=>match R a with
 |some (.own i)=>cond (is.any (az i)) af (aa (.own i))
 |r=>r
theorem NM(h:R a=af):qc is R a=af:=by unfold qc;exact rE h rfl
theorem GU(h:qc is R a≠af):R a≠af:=λq=>h (NM q)
set_option tactic.hygienic true in
theorem aN.freeze(I:aN K B R T env hs ρ s)(is:ax):aN K B (qc is R) T env hs (dX is ρ) s:=by
 have X:Kept (λr=>∀i,r=.own i→is.any (az i)=ag) B B R (qc is R) T T hs hs s s:=⟨λ_ _ _ e=>e,λa o _ n k=>n (k.imp GU id),λa r k h=>⟨by
  unfold qc;refine rE h ?_;induction r with
  |own i=>dsimp only;refine rE (k i rfl) ?_;rfl
  |_=>rfl,λ_ e=>e⟩,λj t e=>⟨⟨t,e⟩,rfl⟩⟩
 refine I.Cr (λi=>is.any (az i)∧∃xs,get ρ i=aa (.own xs)) X nofun (λi xs h hx j e=>?_) nofun (λa h=>I.ub a (h.imp GU id)) (λa h=>NM (I.bd a h)) (λi h=>?_) λy i sl h hi hg hk=>?_
 ·cases e;induction q:is.any (az i)with
  |false=>rfl
  |true=>exact absurd ⟨q,xs,hx⟩ h
 ·refine rE NL ?_;split
  ·rename_i xs hx;induction q:is.any (az i)with
   |false=>exact hx.symm
   |true=>exact absurd ⟨q,xs,hx⟩ h
  ·rfl
 ·refine lE h λq xs hx=>?_;replace hg:=hx▸NL▸hg;dsimp only at hg;replace hg:=iJ (q▸hg);subst hg;refine fA (I.own y i xs hi hx hk) λl vs n e1 e2 e3 e4=>⟨_,e1,.list e3 (λh=>?_) (e4.mono X.keep X.hu)⟩;rcases h with h|h
  ·apply h;unfold qc;refine rE e2 ?_;dsimp only;refine rE q ?_;rfl
  ·have:=I.bd l h;exact zS (e2▸this)
structure eA(R R':dC)(s s':ay):Prop where
 grow:∀a,R' a≠af→R a≠af∨s.heap.get? a=af
 mv:Mv (λa=>R a≠af) (λZ=>False) s s'
theorem eA.refl(R:dC)(s:ay):eA R R s s:=⟨λZ h=>.inl h,.refl _ _ _⟩
theorem eA.trans{iG jP:dC}{a b c:ay}(x:eA R iG a b)(y:eA iG jP b c):eA R jP a c:=by
 refine⟨λd h=>?_,x.mv.trans' y.mv (λd h=>x.grow d h) λZ h=>h.elim⟩;rcases y.grow d h with h|h
 ·exact x.grow d h
 ·by_cases hr:R d≠af
  ·exact .inl hr
  ·right;induction q:a.heap.get? d with
   |none=>rfl
   |some o=>exact zS (x.mv.keep d o hr q▸h)
theorem eA.ext(x:Ext s s'):eA R R s s':=⟨λZ h=>.inl h,x.mv⟩
theorem eA.dX(is:ax):eA R (qc is R) s s:=⟨λZ h=>.inl (GU h),.refl _ _ _⟩
theorem aN.dY(I:aN K B R T env hs ρ s)(m:gC ks env s s'):eA R R s s':=
 ⟨λZ h=>.inl h,m.mv.mono (λa h=>by refine rE (I.fr a (mF h)) ?_;exact λq=>by exact zS q) λZ h=>h⟩
end
section
variable(K:Kt)(C:ma)(CH:Option nE)(A:dU)
noncomputable def Left(B:aY)(R:dC)(T:dW)(env:bF)(hs:Hs)(s:ay)(fl:Fl)(dq:jk)(s':ay):Prop:=
 ∃ (R':dC) (T':dW),eA R R' s s'∧(∀j,j<hs.length→T' j=T j)∧match fl with
  | .next ρ' hs'=>dq=.next∧hs.length≤hs'.length∧aN K B R' T' env hs' ρ' s'
  | .ret d hs'=>∃v,dq=.ret v∧Rd (UU R' B) s'.heap v d∧hs.length≤hs'.length∧∃ρ',aN K B R' T' env hs' ρ' s'
noncomputable def d9(ks:cT)(st:a9)(rs:RS):Prop:=∀B R T env hs ρ s fl,dg ks env→aN K B R T env hs ρ s→ex K.tk C CH rs ρ hs=aa (fl,ae)→
 ∀ (Q:jk→ay→Prop) (E:aW),(∀dq s',Left K B R T env hs s fl dq s'→Q dq s')→ar (aw prog K.w) A (exec st env) Q E s
noncomputable def rM(ks:cT)(Ct:List a9)(Cu:bP):Prop:=∀B R T env hs ρ s fl,dg ks env→aN K B R T env hs ρ s→cb K.tk C CH Cu ρ hs=aa (fl,ae)→
 ∀ (Q:jk→ay→Prop) (E:aW),(∀dq s',Left K B R T env hs s fl dq s'→Q dq s')→ar (aw prog K.w) A (oA Ct env) Q E s
end
section
variable{K:Kt}
theorem Left.before{iG:dC}{T ju:dW}{k8:Hs}{fl:Fl}{dq:jk}(x:eA R iG s ai)(hT:∀j,j<hs.length→ju j=T j)(hl:hs.length≤k8.length)
  (h:Left K B iG ju env k8 ai fl dq s'):Left K B R T env hs s fl dq s':=by
 refine cK h λR' T' e1 e2 e3=>⟨R',T',x.trans e1,λj hj=>(e2 j (ia hj hl)).trans (hT j hj),?_⟩;induction fl with
 |next ρ' hs'=>exact⟨e3.1,aF hl e3.2.1,e3.2.2⟩
 |ret d hs'=>exact gA e3 λv f1 f2 f3 f4=>⟨v,f1,f2,aF hl f3,f4⟩
theorem Left.next{R':dC}{T:dW}(x:eA R R' s s')(I:aN K B R' T env hs ρ' s'):Left K B R T env hs s (.next ρ' hs) .next s':=
 ⟨R',T,x,λZ Z=>rfl,rfl,bZ _,I⟩
theorem rN{rs:RS}(h:d9 K C CH A ks st rs)(ms rd:ax):d9 K C CH A ks st (wrap ms rd rs):=by
 unfold wrap;induction only ms rd using bj with
 |nil=>exact h
 |cons i r=>intro B R T env hs ρ s fl hk I hex Q E hQ;exact h B (qc (i::r) R) T env hs (dX (i::r) ρ) s fl hk (I.freeze _) hex Q E λdq s' L=>hQ dq s' (L.before (.dX _) (λZ Z=>rfl) (bZ _))
theorem YL:rM K C CH A ks [] .nil:=by intro B R T env hs ρ s fl hk I hex Q E hQ;obtain rfl:=W.bp (hex:W.ret (Fl.next ρ hs)=_);exact oB (hQ _ s (.next (.refl R s) I))
theorem YM{Ct:List a9}{rs:RS}{Cu:bP}(h:d9 K C CH A ks st rs)(hh:rM K C CH A ks Ct Cu):rM K C CH A ks (st::Ct) (.cons rs Cu):=by
 intro B R T env hs ρ s fl hk I hex Q E hQ;refine wE (hex:W.bind _ _=_) λzK h1 hex=>gw (h B R T env hs ρ s zK hk I h1 _ _ λdq ai L=>?_);induction zK with
 |next bN k8=>obtain⟨iG,ju,e1,e2,e3,e4,dn⟩:=L;subst e3;exact hh B iG ju env k8 bN ai fl hk dn hex Q E λdq s' L=>hQ dq s' (L.before e1 e2 e4)
 |ret d k8=>obtain rfl:=W.bp hex;have L':=L;obtain⟨iG,ju,e1,e2,v,e3,_⟩:=L;subst e3;exact hQ _ ai L'
theorem YN{c:au}{a b:List a9}{rc:RE}{ra rb:bP}(hc:bg K C A ks c rc)(ha:rM K C CH A ks a ra)(hb:rM K C CH A ks b rb):d9 K C CH A ks (.If c a b p) (.ite rc ra rb):=by
 intro B R T env hs ρ s fl hk I hex Q E hQ;refine wE (hex:W.bind _ _=_) λx hx hex=>oE hex λq ht hex=>wQ ((hc _ env hs ρ s x hk I.e hx).2 _ ht _ _ λai aq=>?_);induction q with
 |true=>exact ha B R T env hs ρ ai fl hk (I.ext aq) hex Q E λdq s' L=>hQ dq s' (L.before (.ext aq) (λZ Z=>rfl) (bZ _))
 |false=>exact hb B R T env hs ρ ai fl hk (I.ext aq) hex Q E λdq s' L=>hQ dq s' (L.before (.ext aq) (λZ Z=>rfl) (bZ _))
theorem YO{e:au}(he:bg K C A ks e r):d9 K C CH A ks (.Return (aa e) p) (.ret r):=by intro B R T env hs ρ s fl hk I hex Q E hQ;refine wE (hex:W.bind _ _=_) ?_;clear hex;intro x hx hex;obtain rfl:=W.bp hex;exact EC ((he _ env hs ρ s x hk I.e hx).1 _ _ λv ai aq rv=>hQ _ ai ⟨R,T,.ext aq,λZ Z=>rfl,v,rfl,rv,bZ _,ρ,I.ext aq⟩)
theorem aN.put{T:dW}(hk:dg ks env)(I:aN K B R T env hs ρ s)(jr:Ext aT s){v:ak}(hi:aZ x K.X.names=aa i)
  (cm:dz (aV x ks)) (r:Rd (UU R B) s.heap v d) {Q:Unit→ay→Prop}{E:aW} (hQ:∀s',Left K B R T env hs aT (.next (Ev.put ρ i (.val d)) hs) .next s'→Q () s'):ar (aw prog K.w) A (qO env x v) Q E s:=
 I.store (sl:=.val d) hi cm (mE hk cm) r λs' I' m=>hQ s' (.next ((eA.ext jr).trans (I.dY m)) I')
theorem YQ{v:au}{t:Option au}(h:∀elt gs sc p,v≠.ListComp elt gs sc p)(hc:view v≠.other):swapsWith v t n env=pure ag:=by
 induction v using uA<;>first|rfl| (exact absurd rfl (h _ _ _ _))|exact absurd rfl hc
theorem YR{v:au}(hi:aZ x K.X.names=aa i)(cm:dz (aV x ks))(he:bg K C A ks v r)(nR:∀env,swapsWith v (aa (.Name x p)) pos.line env=pure ag):
  d9 K C CH A ks (.Assign [.Name x p] v pos) (.asg i r):=by
 intro B R T env hs ρ s fl hk I hex Q E hQ;refine wE (hex:W.bind _ _=_) ?_;clear hex;intro d hd hex;obtain rfl:=W.bp hex;exact oC ((he _ env hs ρ s d hk I.e hd).1 _ _ λu ai aq ru=>(I.ext aq).put hk aq hi cm ru λs' L=>hQ _ s' L) (nR env)
end
section
variable{K:Kt}
theorem YS(hh:A.handled=af){t:au}{relt:RE}{ri:RI}{ris:bf}{rgs:kK}
  (hi:aZ x K.X.names=aa i) (cm:dz (aV x ks))
  (fb:scope.kind=.function) (k7:distinct scope.names) (tF:freeOk ks scope.names)
  (ht:jo K.X scope.names t=aa tg) (hI:pW K C A ks it ri) (hl:cZ K C A scope.names ifs ris) (hr:rH K C A scope.names gs rgs) (he:bg K C A scope.names elt relt)
  (kZ:(ke tg++kQ rgs).Nodup) (iE:∀i∈ke tg++kQ rgs,i∈fD K.X.names scope.names):
  d9 K C CH A ks (.Assign [.Name x p] (.ListComp elt (⟨t,it,ifs,0⟩::gs) scope q) pos) (.asg i (.comp (fD K.X.names scope.names) tg ri ris rgs relt)):=by
 intro B R T env hs ρ s fl hk I hex Q E hQ;obtain⟨b,nR⟩:∃b,swapsWith (.ListComp elt (⟨t,it,ifs,0⟩::gs) scope q) (aa (.Name x p)) pos.line env=pure b:=⟨_,rfl⟩;refine wE (hex:W.bind _ _=_) ?_;clear hex;intro d hd hex;obtain rfl:=W.bp hex;induction b with
 |false=>have hs':=NG (pos:=q) hh fb k7 tF ht hI hl hr he kZ iE;exact oC ((hs' _ env hs ρ s d hk I.e hd).1 _ _ λu ai aq ru=>(I.ext aq).put hk aq hi cm ru λs' L=>hQ _ s' L) nR
 |true=>
  refine rE (exec_Assign_Name_used _ _ _ _ nR) (aB (kJ (aB ?_)));show ar _ A (do let _ ← Bb (.ListComp elt (⟨t,it,ifs,0⟩::gs) scope q) scope env it.pos (newList []) ag (eval it env) (aa (assign (.Name x p) env))) _ _ s;refine aB (ib (NC hh fb k7 tF hk I.e ht hI hl hr he kZ iE hd (use:=aa (assign (.Name x p) env)) (Q:=λZ s'=>Q .next s') (E:=E) λs' D Cn x' hC hD hn r=>?_)
   (λZ s' hq=>bz (bz hq)) λZ Z e=>e)
  refine xE hn ?_;clear hn;intro GV hn;have YT:∀a,a=Cn→∃o,s'.heap.get? a=aa o:=λa h=>by refine fy hn λo Z Z ho Z=>?_;exact⟨o,h▸ho⟩
  have I':=I.NJ x' (N:=λa=>a=Cn) (λa h=>h▸hC) YT;have YU:R Cn=af:=by
   induction q:R Cn with
   |none=>rfl
   |some r=>obtain⟨o,e⟩:=I.ub Cn (.inl (by refine rE q ?_;exact λq=>by exact zS q));exact zN (hC▸e)
  refine qP (I'.store (sl:=.val d) hi cm (mE hk cm) (r.mono (λZ Z Z e=>e) λa Z Z n k=>n ?_) λdh Cv mv=>?_)
  ·rcases k with k|k|k
   ·exact .inl (.inl k)
   ·exact .inl (.inr k)
   ·exact .inr k
  ·refine⟨GV,?_,λh' hs'=>?_⟩
   ·refine fy hn λo es ep ho rest=>⟨o,es,ep,?_,rest⟩;rcases mv.1 Cn o ho with h|h
    ·exact h
    ·have:=I.fr Cn (mF h);exact zN (YU▸this)
   ·have m2:Mv (λa=>a=Cn) (λZ=>False) dh {dh with heap:=h'}:=⟨λa o n e=>(hs'.2 a n).trans e,λZ Z Z e=>e,λe=>e,rfl⟩;have I3:=Cv.Cs (B0:=B) m2 (λa h=>.inr h) (λa h=>.inl h) λa h hb=>?_
    ·have m1:=(I'.dY mv).mv;refine hQ _ _ (.next ⟨λZ h=>.inl h,⟨λa o n e=>?_,λg o n e=>m2.gens g o id (m1.gens g o n (x'.gens g o e)),λe=>m2.bare (m1.bare (x'.bare e)),(m2.os.trans m1.os).trans x'.os⟩⟩ I3);exact m2.keep a o (λq=>by subst q;replace e:=hC▸e;exact zN e) (m1.keep a o n (x'.keep a o e))
    ·clear m2 hs' mv Cv;subst h;exact xE (I.ub a (.inr hb)) λo e=>zN (hC▸e)
end
section
variable{K:Kt}
theorem bJ.load(O:bU K)(I:bJ K U env hs ρ s)(hi:aZ x K.X.names=aa i)(hg:get ρ i=aa sl)(hk:d8 (env.kindOf x))
  (hQ:∀v,kg K U s.heap hs v sl→Q v s):ar (aw prog K.w) A (loadName env x) Q E s:=by
 refine aD (I.vars x i sl hi hg hk) λv hv hs'=>?_;rcases hv with⟨k,m,n,e⟩| ⟨k|k,c,e1,e2⟩
 ·exact wK I.kind k n e (hQ v hs')
 ·exact A3 I.kind k e1 e2 (hQ v hs')
 ·exact A4 I.kind k e1 e2 (hQ v hs') (O.nm x i hi).2
theorem YV{k:Option eC}(h:dz k):d8 k:=by
 induction k with
 |none=>exact zF h
 |some k=>induction k<;>first|rfl|exact zF h
theorem YW{o:wD}{op:mc}{a b:D}(ho:FN o=aa op)(hl:d7 a=af)(h:j7 op a b=aa (d,ae))(ra:Rd U s.heap va a)(rb:Rd U s.heap vb b):Gv K.w A U s (inplaceOp o va vb) d:=by
 intro Q E hQ;induction o with
 |Add=>
  replace ho:=iJ ho;subst ho;have h:uN a b=aa (d,ae):=h;unfold uN at h;induction q:cY a with
  |some i=>replace h:=q▸h;refine aD (y7 h) λj e9 h=>?_;subst e9;cases W.bp h;cases gh q;refine xE ra.iA λZ e9=>?_;subst e9;refine xE rb.iA λZ e9=>?_;subst e9;exact PyProof.Rows.iadd_int (hQ _ _ .tok (.int _ _))
  |none=>
   replace h:=q▸h;induction q':dD a with
   |some x=>
    replace h:=q'▸h;refine aD (nG h) λy e9 h=>?_;subst e9;refine xA (W.de h) λe9 hk=>?_;subst e9;cases kO q';refine xE ra.cQ λZ e9=>?_;subst e9;refine xE rb.cQ λZ e9=>?_;subst e9;refine PyProof.Rows.iadd_str (λt' tk=>?_) ?_
    ·exact rE (LJ ..) (hQ _ _ .tok (.str _ _))
    ·exact rS (ie ..) (rS (ie ..) (bc hk))
   |none=>replace h:=q'▸h;exact zN (hl▸h)
 |Sub=>replace ho:=iJ ho;subst ho;refine cK (LG h) λi j e9 bC h=>?_;subst e9;subst bC;cases W.bp h;refine xE ra.iA λZ e9=>?_;subst e9;refine xE rb.iA λZ e9=>?_;subst e9;exact PyProof.Rows.isub_int (hQ _ _ .tok (.int _ _))
 |_=>exact zN ho
theorem YX(O:bU K){v:au}{o:wD}{op:mc}(hi:aZ x K.X.names=aa i)(cm:dz (aV x ks))(ho:FN o=aa op)(he:bg K C A ks v r):
  d9 K C CH A ks (.AugAssign (.Name x p) o v pos) (.aug i op r):=by
 intro B R T env hs ρ s fl hk I hex Q E hQ;refine oE hex λa hg e1=>wE e1 λy hy e2=>?_;induction q:d7 a with
 |some xs=>exact zN (q▸e2)
 |none=>replace e2:=q▸e2;refine wE e2 ?_;clear e2;intro z hz e3;clear e1 hex;obtain rfl:=W.bp e3;refine wpAny_AugAssign_Name (I.e.load O hi (E9 hg) (nK hk (YV cm)) λva ha=>(he _ env hs ρ s y hk I.e hy).1 _ _ λvb ai aq rb=>?_);exact YW ho q hz (Rd.ext aq ha) rb _ _ λu av aC ru=>(I.ext (aq.trans aC)).put hk (aq.trans aC) hi cm ru λs' L=>hQ _ s' L
end
section
variable{K:Kt}
variable{T:dW}
theorem aN.YY(I:aN K B R T env hs ρ s)(hi:aZ x K.X.names=aa i)(hv:fQ env s.heap x (.ref a))(ha:R a=aa (.own i)){tk:Nat}{vs:Array ak}{xs:List D}
  (cB:yI a s.heap h') (hg:h'.get? a=aa (cy vs n)) (hr:aI (UU R B) s.heap vs.toList xs):aN K B R T env hs (Ev.put ρ i (.own xs)) {s with heap:=h',toks:=tk}:=by
 have zL:UU R B a:=.inl (gF ha);refine I.Cr (· =i) (k:=(· ≠.own i)) ⟨λb o n e=>(cB.2 b λq=>n (q▸zL)).trans e,λZ Z Z n=>n,λb r k h=>⟨h,λo e=>(cB.2 b λq=>k (by subst q;replace h:=ha▸h;exact(ir h).symm)).trans e⟩,λj t e=>⟨⟨t,e⟩,rfl⟩⟩
  nofun (λj Z n Z e=>n (by cases e;rfl)) nofun (λb hb=>?_) I.bd (λj n=>fS _ n _) λy j sl e hj zz jM=>?_
 ·by_cases zM:b=a
  ·exact⟨_,zM▸hg⟩
  ·exact xE (I.ub b hb) λo e=>⟨o,(cB.2 b zM).trans e⟩
 ·clear jM;subst e;obtain rfl:=tu hi hj;clear hj hi;replace zz:=iJ ((kX ..)▸zz);subst zz;exact⟨_,hv,a,vs,n,rfl,ha,hg,hr.mono (λb o n e=>(cB.2 b λq=>n (q▸zL)).trans e) λZ Z Z n=>n⟩
theorem YZ{tk:Nat}(x:Ext s ai)(ha:R a≠af)(cB:yI a ai.heap h'):eA R R s {ai with heap:=h',toks:=tk}:=
 ⟨λZ h=>.inl h,λb o n e=>(cB.2 b (λq=>n (q▸ha))).trans (x.keep b o e),λg o Z e=>x.gens g o e,x.bare,x.os⟩
theorem NN:u7=("append" :ah):=by decide
theorem GW(O:bU K){m:ah}{id:String}(hi:aZ x K.X.names=aa i)(ez:d8 (aV x ks))(hl:cH ap p)(hn:aX rs.len 20)
  (ha:cZ K C A ks args rs) (slot:UA "list" m id) (GX:typeOf (.builtin id)=pure (.type "method_descriptor")) (hk:dg ks env) (I:aN K B R T env hs ρ s) {xs ys zs:List D} (hg:get ρ i=aa (.own xs))
  (hy:eD K.tk C hs rs ρ=aa (ys,ae)) (hc:∀ (ai:ay) a vs n us,ai.heap.get? a=aa (cy vs n)→aI (UU R B) ai.heap vs.toList xs→aI (UU R B) ai.heap us ys→∀ (Q E:aW),
   (∀h' tk tH n',yI a ai.heap h'→h'.get? a=aa (cy tH n')→aI (UU R B) ai.heap tH.toList zs→Q .none {ai with heap:=h',toks:=tk})→ar (aw prog K.w) A (call (.builtin id) (.ref a::us)) Q E ai)
  {Q:jk→ay→Prop}{E:aW} (hQ:∀dq s',Left K B R T env hs s (.next (put ρ i (.own zs)) hs) dq s'→Q dq s'):
  ar (aw prog K.w) A (exec (.Expr (.Call (.Attribute (.Name x q) m ap) args [] p) pos) env) Q E s:=by
 have hp:=rC (p:=p) (env:=env) ha;refine fA (I.own x i xs hi hg (nK hk ez)) λa vs n e1 e2 e3 e4=>?_;have hint:interactive env=ag:=by unfold interactive;refine rE I.kind ?_;rfl
 refine UG ?_ hint;refine pQ rfl hl (rE hp.2.2 (bc hn)) hp.2.1 ?_;have name:∀ {Q E:aW},Q (.ref a) s→ar (aw prog K.w) A (eval (.Name x q) env) Q E s:=λ{Q E} h=>by
  refine yB ?_ (O.nm x i hi).1;rcases e1 with⟨k,m,n,e⟩| ⟨k|k,c,f1,f2⟩
  ·exact wK I.kind k n e h
  ·exact A3 I.kind k f1 f2 h
  ·exact A4 I.kind k f1 f2 h (O.nm x i hi).2
 refine name λpl=>KD (T:= "list") ⟨_,e3,rfl⟩ ahG slot GX (λb e=>by cases e;exact⟨_,e3,rfl⟩) (uC hp.1 (xn hk ha I.e hy λus ai aq r=>?_));refine hc ai a vs n us (aq.keep _ _ e3) (e4.ext aq) r _ _ λh' tk tH n' f1 f2 f3=>hQ _ _ (.next (YZ aq (by refine rE e2 ?_;exact λq=>by exact zS q) f1) ((I.ext aq).YY hi (e1.ext aq) e2 f1 f2 f3))
theorem NO(O:bU K){e:RE}(hi:aZ x K.X.names=aa i)(ez:d8 (aV x ks))(hl:cH ap p)
  (ha:cZ K C A ks args (.cons e .nil)):d9 K C CH A ks (.Expr (.Call (.Attribute (.Name x q) u7 ap) args [] p) pos) (.app i e):=by
 intro B R T env hs ρ s fl hk I hex Q E hQ;refine oE hex λxs hg e1=>wE e1 λy hy e2=>wE e2 λZ c0 e3=>xA (W.de c0) λZ c0=>?_;clear hex;obtain rfl:=W.bp e3;refine rE NN (GW O hi ez hl rfl ha ahH ahI hk I (BE hg) (ys:=[y]) (xi hy) (λai a vs n us e1 e2 e3 Q E h=>?_) hQ);clear hy hg hQ I hk s;refine aD (nO e3) λv e9 rv=>?_;subst e9;have eY:vs.size≤qG:=by have h1:=e2.length;have h2:xs.length+1≤1000000:=bc c0;replace h1:=eL▸h1;refine rE lx ?_;lia
 exact B8 e1 eY λh' n' f1 f2=>h h' ai.toks _ n' f2 f1 (rE KJ (e2.append (.one rv)))
theorem NP{h:aP}{vs:Array ak}(f:Array ak→Array ak)(e:h.get? a=aa (cy vs n)):∃n',(h.update a (uz f)).get? a=aa (cy (f vs) n'):=⟨_,get?_update_seq e f⟩
theorem Y0:FL=("insert" :ah):=by decide
theorem Y1:BP=("extend" :ah):=by decide
theorem Y2(y:α)(k:Nat):∀l:List α,l.take k++y::l.drop k=jn y k l:=by
 induction k with
 |zero=>exact λZ=>rfl
 |succ k ih=>
  intro l;induction l using bj with
  |nil=>rfl
  |cons x l=>exact congrArg (x:: ·) (ih l)
theorem Y3(O:bU K){e e':RE}(hi:aZ x K.X.names=aa i)(ez:d8 (aV x ks))(hl:cH ap p)
  (ha:cZ K C A ks args (.cons e (.cons e' .nil))):d9 K C CH A ks (.Expr (.Call (.Attribute (.Name x q) FL ap) args [] p) pos) (.ins i e e'):=by
 intro B R T env hs ρ s fl hk I hex Q E hQ;refine oE hex λxs hg e1=>wE e1 λy0 GO e2=>wE e2 λy hy e3=>oE e3 λk0 e4 e5=>oE e5 λk e6 e7=>wE e7 λZ c0 e8=>xA (W.de c0) λZ c0=>?_;obtain rfl:=VT e6;obtain rfl:=gh e4;clear hex e1 e2 e3 e4 e5 e6 e7;obtain rfl:=W.bp e8;refine xA (fM.mp c0) λh1 h3=>?_;have h1:=bc h1;have h3:=bc h3;refine rE Y0 (GW O hi ez hl rfl ha ahJ F.type_list_insert hk I (BE hg) (ys:=[.int (k:Int),y]) (BW GO hy) (λai a vs n us e1 e2 e3 Q E h=>?_) hQ);refine cK (xp e3) λu v e9 ru rv=>?_;subst e9;refine xE (rj ru) λt e9=>?_;subst e9;have pS:=e2.length;replace pS:=eL▸pS;generalize hj:(k:Int)=j;refine D9 ahJ ⟨_,e1,rfl⟩ F.entry_list_insert (F.args_list_insert_3 _ _ _) (AutoListH.list_insert_list_int_val_1 a vs n j _ v ?_ (by refine rE lx ?_;lia)) ⟨e1,?_⟩
 ·have:TZ j:=by unfold TZ;refine rE (j0 ..) ?_;rewrite[decide_eq_true_iff];rw[decide_eq_true_iff];lia
  exact rE this f9
 ·obtain⟨n',js⟩:=NP (λxs=>have k:=if j<0 then(j+((xs.size:Nat):Int)).toNat else min j.toNat xs.size;(xs.extract 0 k).push v++xs.extract k) e1;refine h _ ai.toks _ n' (A8 ..) js ?_;dsimp only;refine rS hj (rE (if_neg (Kg.mpr (jf k))) (rE (UH ..) (rE (D6 (by lia)) ?_)));refine rE D7 (rE KJ (rE ahK (rE ahK ?_)));have hm:((vs.toList.extract 0 k)++[v])++vs.toList.extract k vs.size=vs.toList.take k++v::vs.toList.drop k:=by refine rE (d5 ..) ?_;show(vs.toList.drop 0).take (k - 0)++v::(vs.toList.drop k).take (vs.size - k)=_;exact rE Ko (rE (Nat.sub_zero ..) (rE (List.take_of_length_le (l:=vs.toList.drop k) (by rw[uw,eL];exact bZ _)) rfl))
  refine rE hm (rS (Y2 ..) ?_);exact(e2.take k).append (.cons rv (e2.drop k))
theorem Y4(O:bU K){e:RE}(hi:aZ x K.X.names=aa i)(ez:d8 (aV x ks))(hl:cH ap p)
  (ha:cZ K C A ks args (.cons e .nil)):d9 K C CH A ks (.Expr (.Call (.Attribute (.Name x q) BP ap) args [] p) pos) (.ext i e):=by
 intro B R T env hs ρ s fl hk I hex Q E hQ;refine oE hex λxs hg e1=>wE e1 λy hy e2=>oE e2 λys e3 e4=>wE e4 λZ c0 e5=>xA (W.de c0) λZ c0=>?_;obtain rfl:=nF e3;clear hex e1 e2 e3 e4;obtain rfl:=W.bp e5;have c0:=bc c0;refine rE Y1 (GW O hi ez hl rfl ha ahL F.type_list_extend hk I (BE hg) (ys:=[.list ys]) (xi hy) (λai a vs n us e1 e2 e3 Q E h=>?_) hQ);refine aD (nO e3) λv e9 rv=>?_;subst e9;refine fA rv.listI λb jK n2 e9 f1 Z f3=>?_;subst e9;have h1:=e2.length;have h2:=f3.length;rw[eL]at h1 h2;have hz:∀k,k≤1000000→k≤qG:=λk hk=>by refine rE lx ?_;lia
 refine D9 ahL ⟨_,e1,rfl⟩ F.entry_list_extend (F.args_list_extend_2 _ _) (AutoSeq1.list_extend_list_list_0 a vs n b jK n2 ?_ (hz _ (by lia)) (Bc (hz _ (by lia)))) ⟨e1,f1,?_⟩
 ·have:T9 (vs.size+jK.size)=ag:=by unfold T9;exact decide_eq_false (pA.mpr (hz _ (by lia)))
  exact rE this (rE (ahM ..) f9)
 ·exact xE (NP (λxs=>xs++jK) e1) λn' js=>h _ ai.toks _ n' (A8 ..) js (rE D7 (e2.append f3))
end
section
variable{K:Kt}
variable{T:dW}
theorem GY{h:aP}{xs:List D}(r:aI U h vs xs):aI (λb=>U b∨b=h.objs.size) h vs xs:=
 B7 (λa k=>k.imp id fun(e:a=h.objs.size)=>e▸eM h) r
theorem Y5(hl:cZ K C A ks es rs)(hn:aX rs.len 1000)(hk:dg ks env)(I:bJ K U env hs ρ s){xs:List D}(hx:eD K.tk C hs rs ρ=aa (xs,ae)):
  pR K.w A U s (eval (.List es p) env) xs:=by
 intro Q E hQ;refine List_ (BZ hk hl I hx _ _ λvs ai aq r=>wI ?_ ?_)
 ·refine hQ _ _ (aq.trans .push) (jN aq (eM _)) ⟨_,0,eT _ rfl,?_⟩;exact rE AY ((GY r).ext (.push (s:=ai) (k:=ai.toks)))
 ·exact rE r.length (rE (vg hx) (aF (bc hn) (by refine rE lx ?_;lia)))
theorem Y6{l r:au}{ra rb:RE}(ha:bg K C A ks l ra)(hb:bg K C A ks r rb)(hk:dg ks env)(I:bJ K U env hs ρ s){xs:List D}(hx:ev K.tk C hs (.bin .add ra rb) ρ=aa (.list xs,ae)):
  pR K.w A U s (eval (.BinOp l .Add r p) env) xs:=by
 intro Q E hQ;refine wE (hx:W.bind _ _=_) λx zO ao=>wE ao λy Y7 ao=>wpAny_BinOp ((ha U env hs ρ s x hk I zO).1 _ _ λva ai aq ra=>(hb U env hs ρ ai y hk (I.ext aq) Y7).1 _ _ λvb av aC rb=>?_);have ra:=ra.ext aC;have ao:uN x y=_:=ao;unfold uN at ao;induction q:cY x with
 |some i=>replace ao:=q▸ao;refine aD (y7 ao) λj e9 e=>?_;subst e9;cases W.bp e
 |none=>
 replace ao:=q▸ao;induction q':dD x with
 |some t=>replace ao:=q'▸ao;refine aD (nG ao) λu e9 e=>?_;subst e9;refine xA (W.de e) λe Z=>?_;cases e
 |none=>
 replace ao:=q'▸ao;refine aD (y8 ao) λx e9 e1=>?_;subst e9;refine aD (y8 e1) λy e9 e2=>?_;subst e9;refine xA (W.de e2) λe3 hz=>?_;clear ao e1 e2;cases e3;refine fA ra.listI λZ Z Z e9 e1 n1 r1=>?_;subst e9
 ·
  refine fA rb.listI λZ Z Z e9 e2 n2 r2=>?_;subst e9
  ·
   have hz:_≤qG:=bc hz;replace hz:=jg r2.length▸jg r1.length▸hz;refine concat_meets ⟨_,e1,rfl⟩ ⟨_,e2,rfl⟩ noFill_list_add seq_list_add ahf ahg (ahh _ _) (list_addW _ _ _ _ _ _ af af #[] #[] (by simpa using hz)) ⟨e1,e2,?_⟩;refine hQ _ _ ((aq.trans aC).trans .push) (jN (aq.trans aC) (eM _)) ⟨_,0,eT _ rfl,?_⟩;exact rE D7 (((GY r1).append (GY r2)).ext (.push (s:=av) (k:=av.toks)))
theorem aN.GZ(I:aN K B R T env hs ρ s)(x:Ext s s')(hn:s.heap.get? a=af)(ha:∃o,s'.heap.get? a=aa o)(r:Rl):aN K B (λb=>if b=a then aa r else R b) T env hs ρ s':=by
 refine xA (I.live hn) λY8 Y9=>?_;have hr:∀ {b r'},R b=aa r'→(if b=a then aa r else R b)=aa r':=λ{b r'} h=>by exact rE (if_neg (λe=>by replace h:=e▸h;replace h:=Y8▸h;exact zN h)) h
 have hU:∀b,UU (λb=>if b=a then aa r else R b) B b→UU R B b∨b=a:=λb h=>by
  by_cases e:b=a
  ·exact .inr e
  ·exact .inl (h.imp (λh=>by dsimp only at h;replace h:=if_neg e▸h;exact h) id)
 refine I.Cr (λZ=>False) (k:=λZ=>True) ⟨λb o Z e=>x.keep b o e,λb o e n k=>(hU b k).elim n (λq=>by replace e:=q▸e;replace e:=hn▸e;exact zN e),λb r' Z h=>⟨hr h,λo=>x.keep b o⟩,λj t e=>⟨⟨t,e⟩,rfl⟩⟩ trivial (λZ Z Z Z=>trivial) (λZ=>trivial) (λb h=>?_) (λb h=>?_) (λZ Z=>rfl) λZ Z Z e=>e.elim
 ·rcases hU b h with h|h
  ·exact xE (I.ub b h) λo e=>⟨o,x.keep b o e⟩
  ·exact h▸ha
 ·refine(if_neg λe:b=a=>Y9 (e▸h)).trans (I.bd b h)
theorem G0{r:Rl}(x:Ext s s')(hn:s.heap.get? a=af):eA R (λb=>if b=a then aa r else R b) s s':=
 ⟨λb h=>by
  by_cases e:b=a
  ·exact .inr (e▸hn)
  ·replace h:=if_neg e▸h;exact .inl h,x.mv⟩
theorem NQ{v:au}(hi:aZ x K.X.names=aa i)(cm:dz (aV x ks))(nR:∀env,swapsWith v (aa (.Name x p)) pos.line env=pure ag)
  (hv:∀U env hs ρ s xs,dg ks env→bJ K U env hs ρ s→ev K.tk C hs r ρ=aa (.list xs,ae)→pR K.w A U s (eval v env) xs):d9 K C CH A ks (.Assign [.Name x p] v pos) (.own i r):=by
 intro B R T env hs ρ s fl hk I hex Q E hQ;refine wE (hex:W.bind _ _=_) λd hd hex=>aD (y8 hex) λxs e9 e=>?_;subst e9;clear hex;obtain rfl:=W.bp e;refine oC (hv _ env hs ρ s xs hk I.e hd _ _ λa ai aq hn hl=>?_) (nR env);refine gz hl ?_;clear hl;intro vs n e1 e2;have dn:=I.GZ aq hn ⟨_,e1⟩ (.own i);refine dn.store (sl:=.own xs) hi cm (mE hk cm) ⟨a,vs,n,rfl,if_pos rfl,e1,e2.mono (λZ Z Z e=>e) λb Z Z n k=>n ?_⟩ λs' I' m=>hQ _ s' (.next ((G0 aq hn).trans (dn.dY m)) I');rcases k with k|k
 ·by_cases e:b=a
  ·exact .inr e
  ·dsimp only at k;replace k:=if_neg e▸k;exact .inl (.inl k)
 ·exact .inl (.inr k)
end
section
variable{K:Kt}
variable{T:dW}
theorem Za(hh:A.handled=af){t:au}{v:ak}{x:D}(hk:dg ks env)(I:aN K B R T env hs ρ s)(ht:jo K.X ks t=aa tg)
  (hb:eU tg x ρ=aa ρ') (r:Rd (UU R B) s.heap v x) {Q:Unit→ay→Prop}{E:aW} (hQ:∀s',aN K B R T env hs ρ' s'→Mv (eG ks env) (λZ=>False) s s'→Q () s'):ar (aw prog K.w) A (assign t env v) Q E s:=by
 unfold jo at ht;induction hn:kT K.X ks t with
 |some i=>replace ht:=iJ (hn▸ht);subst ht;replace hb:=iJ hb;subst hb;refine cK (rF hn) λy q e9 h1 hi=>?_;subst e9;exact qP (I.store (sl:=.val x) hi h1 (mE hk h1) r λs' I' m=>hQ s' I' m.mv)
 |none=>
  replace ht:=hn▸ht;refine oE ht λes he ht=>oE ht λp2 hp ht=>oE ht λi hi ht=>oE ht λj hj rG=>?_;clear hn ht;clear ht;refine lD (BK he) λk p e9=>?_;subst e9;clear ht he;obtain rfl:=zw hp;obtain⟨e1,e2⟩:=p2;refine cK (rF hi) λy q h3 h1 vm=>cK (rF hj) λz q' h4 h2 vo=>?_;clear hi hj;have h3:e1=_:=h3;have h4:e2=_:=h4;clear ht hp;subst h3 h4;induction jO:az i j with
  |true=>exact zN (jO▸rG)
  |false=>clear h4 h3;replace rG:=iJ (jO▸rG);subst rG;refine oE hb λl eV vp=>oE vp λab hl pT=>?_;clear hb vp;obtain⟨a,b⟩:=ab;obtain rfl:=Gg hl;clear hl;replace pT:=iJ pT;subst pT;refine rE (KG ..) (aB (kJ ?_));show ar _ A (unpack v [(ag,assign (.Name y q) env),(ag,assign (.Name z q') env)]) Q E s;unfold unpack;refine aB (ji (Gf hh r (xs:=[a,b]) (w8 eV) λvs ai aq rv=>?_));clear eV p k;refine cK (xp rv) λva vb e9 ra rb=>?_;subst e9;show ar _ A (Ey [assign (.Name y q) env,assign (.Name z q') env] [va,vb]) Q E ai;refine wM (qP ((I.ext aq).store (sl:=.val a) vm h1 (mE hk h1) ra λav gD m₂=>?_));refine wM (qP (gD.store (sl:=.val b) vo h2 (mE hk h2) (m₂.slot (K:=K) (sl:=.val b) (hs:=hs) (I.ext aq).bu rb) λaR pU tB=>Ez ?_));exact hQ aR pU ((aq.mv).trans (m₂.mv.trans tB.mv))
inductive FI(St:(aE→Prop)→List Ev.D→ay→Prop)(go:List Ev.D→aM→Hs→Prop)(SI:(aE→Prop)→dC→(Nat→aE × aE)→Hs→aM→ay→Prop)(R:dC)(T:dW)(hs:Hs)(s aR:ay)(n:Nat)(s':ay):Prop
 |mk (Wn:aY) (xs:List Ev.D) (ρ':aM) (hs':Hs) (R':dC) (T':dW) (hn:xs.length=n) (hW:∀a,Wn a→R a≠af∨s.heap.get? a=af) (I:SI Wn R' T' hs' ρ' s') (st:St Wn xs s') (f:go xs ρ' hs') (gr:∀a,R' a≠af→R a≠af∨aR.heap.get? a=af) (mv:Mv (λa=>R a≠af) (λZ=>False) s s')
  (al:∀a,s'.heap.get? a=af→R a≠af∨aR.heap.get? a=af) (hT:∀j,j<hs.length→T' j=T j) (hl:hs.length≤hs'.length):FI St go SI R T hs s aR n s'
theorem Zb(hh:A.handled=af){t:au}{ri:RI}{rb:bP}(ht:jo K.X ks t=aa tg)(tC:rM K C CH A ks body rb){fl:Fl}(hk:dg ks env)(I:aN K B R T env hs ρ s)
  (Gw:∀x,uF it env x=pure x) (Gx:∀xs,fP K.tk C hs ri ρ=aa (xs,ae)→zE K.w A (UU R B) s (eval it env) xs) (hex:ex K.tk C CH (.loop tg ri rb) ρ hs=aa (fl,ae)) (Q:jk→ay→Prop) (E:aW)
  (hQ:∀dq s',Left K B R T env hs s fl dq s'→Q dq s'):ar (aw prog K.w) A (exec (.For t it body [] pos) env) Q E s:=by
 refine wE (hex:W.bind (fP K.tk C hs ri ρ) (λxs=>dE (λx ρ hs=>(eU tg x ρ).bind λρ'=>cb K.tk C CH rb ρ' hs) xs ρ hs)=_) λxs mD hex=>wpAny_For (Gx xs mD _ _ λv ai aq hw=>hw ai (.refl _) _ _ λIv Wr G St aR aC fw fg It st=>?_) Gw;have xB:Ext s aR:=aq.trans aC;have up:∀ {a:aE},aR.heap.get? a=af→ai.heap.get? a=af:=λh=>jN aC h;have pU:=I.NJ xB fw (It.alive _ _ st);have bw:∀a,B a→¬Wr a:=λa h hw=>by exact xE (I.ub a (.inr h)) λo e=>zN (fw a hw▸e)
 refine ahN (FI St (λxs ρ hs=>dE (λx ρ hs=>(eU tg x ρ).bind λρ'=>cb K.tk C CH rb ρ' hs) xs ρ hs=aa (fl,ae)) (λWn R T hs ρ s=>aN K (λa=>B a∨Wn a) R T env hs ρ s) R T hs s aR) (λn s' hinv=>?_) xs.length ⟨Wr,xs,ρ,hs,R,T,rfl,λa h=>.inr (fw a h),pU,st,hex,λZ h=>.inl h,xB.mv,λa h=>.inr h,λZ Z=>rfl,bZ _⟩;obtain⟨Wn,jt,bN,k8,iG,ju,hn,pX,I1,zH,f1,vz,NR,NS,NT,nT⟩:=hinv;have NU:∀a,B a→¬Wn a:=λa h hw=>by
  rcases pX a hw with k|k
  ·exact k (I.bd a h)
  ·exact xE (I.ub a (.inr h)) λo e=>zN (k▸e)
 induction jt using bj with
 |nil=>clear hw bw pU st fw aC Wr aq hex;obtain rfl:=W.bp (f1:W.ret (Fl.next bN k8)=_);refine It.done s' _ _ zH λcq mv=>oB ?_;have I4:=I1.Cs (B0:=B) mv (λa h=>.inr h) (λa h=>.inl h) λa h hb=>absurd h (NU a hb);exact hQ _ cq ⟨iG,ju,⟨λa h=>(vz a h).imp id λh=>jN xB h,NR.trans' mv pX λg h=>.inr (fg g h)⟩,NT,rfl,nT,I4⟩
 |cons x jt=>
  refine wE (f1:W.bind _ _=_) λzK g1 g2=>oE g1 λcR hb g1=>It.next x jt s' _ _ zH λv cq W' vr vt mv rv rK=>?_
  have NV:∀a,W' a→∃o,cq.heap.get? a=aa o:=It.alive _ _ rK;have xw:∀a,W' a→R a≠af∨s.heap.get? a=af:=λa h=>by
   rcases vt a h with h|h
   ·exact pX a h
   ·exact(NS a h).imp id λe=>jN xB e
  have Zc:∀a,B a→∃o,cq.heap.get? a=aa o:=λa h=>by exact xE (I1.ub a (.inr (.inl h))) λo e=>⟨o,mv.keep a o (NU a h) e⟩
  have I4:=I1.YK (B0:=λa=>B a∨W' a) mv (λa h=>.inr h) (λa h=>h.imp id (vr a)) (λa h=>h.elim (λh=>.inl (.inl h)) λh=>(vt a h).imp .inr id) (λa h=>h.elim (Zc a) (NV a));have NW:Mv (λa=>R a≠af) (λZ=>False) s cq:=NR.trans' mv pX λg h=>.inr (fg g h);have Zd:∀a,iG a≠af→R a≠af∨aR.heap.get? a=af:=vz;have NX:∀a,cq.heap.get? a=af→R a≠af∨aR.heap.get? a=af:=λa h=>by
   by_cases hW:Wn a
   ·exact xE (NV a (vr a hW)) λo e=>zS (e▸h)
   ·induction q:s'.heap.get? a with
    |none=>exact NS a q
    |some o=>exact zS (mv.keep a o hW q▸h)
  have rx:Rd (UU iG (λa=>B a∨W' a)) cq.heap v x:=rv _ (λa h=>by
   rcases h with h|h|h
   ·rcases vz a h with h|h
    ·exact .inl (.inl (.inl h))
    ·exact .inl (.inr (up h))
   ·exact .inl (.inl (.inr h))
   ·exact .inr h) λa h=>by
   rcases h with h|h|h
   ·exact .inl (I1.ub a (.inl h))
   ·exact .inl (I1.ub a (.inr (.inl h)))
   ·exact .inr h
  refine It.own _ _ _ _ _ _ rK (Za hh hk I4 ht hb rx λlO I5 m5=>?_);have zP:∀a,eG ks env a→R a≠af:=λa h=>by refine rE (I.fr a (mF h)) ?_;exact λq=>by exact zS q
  have G1:∀a,eG ks env a→((UU R B a∨ai.heap.get? a=af)∧¬W' a):=λa h=>by
   refine⟨.inl (.inl (zP a h)),λhW=>?_⟩;have h1:iG a=aa .frame:=I1.fr a (mF h);rcases vt a hW with k|k
   ·exact zN (I1.bd a (.inr k)▸h1)
   ·obtain⟨o,e⟩:=I1.ub a (.inl (by refine rE h1 ?_;exact λq=>by exact zS q));exact zN (k▸e)
  have Cd:St W' jt lO:=It.frame _ _ _ _ _ rK m5 G1 λZ h=>h.elim;have G2:∀a,lO.heap.get? a=af→R a≠af∨aR.heap.get? a=af:=λa h=>by
   by_cases hF:eG ks env a
   ·exact .inl (zP a hF)
   ·induction q:cq.heap.get? a with
    |none=>exact NX a q
    |some o=>exact zS (m5.keep a o hF q▸h)
  have G3:Mv (λa=>R a≠af) (λZ=>False) s lO:=NW.trans (m5.mono zP λZ h=>h);refine tC _ iG ju env k8 cR lO zK hk I5 g1 _ _ λdq lP L=>cK L λjP iY sp xC L=>?_;have NY:∀a,jP a≠af→R a≠af∨aR.heap.get? a=af:=λa h=>(sp.grow a h).elim (vz a) (G2 a);have NZ:Mv (λa=>R a≠af) (λZ=>False) s lP:=G3.trans' sp.mv (λa h=>(vz a h).imp id λh=>jN xB h) λZ h=>h.elim;have N0:∀j,j<hs.length→iY j=T j:=λj hj=>(xC j (ia hj nT)).trans (NT j hj);induction zK with
  |next km N1=>
   clear xC G3 G1 zP m5 I5 rx NX Zd NW;refine mr L λe9 nV I6=>?_;subst e9;refine⟨jt.length,by refine rS hn ?_;refine rE bT ?_;lia,⟨W',jt,km,N1,jP,iY,rfl,xw,I6,?_,g2,NY,NZ,λa h=>?_,N0,aF nT nV⟩⟩
   ·refine It.frame _ _ _ _ _ Cd sp.mv (λa h=>⟨?_,λhW=>?_⟩) λZ h=>h.elim
    ·rcases vz a h with h|h
     ·exact .inl (.inl h)
     ·exact .inr (up h)
    ·exact h (I4.bd a (.inr hW))
   ·by_cases hR:iG a≠af
    ·exact vz a hR
    ·induction q:lO.heap.get? a with
     |none=>exact G2 a q
     |some o=>exact zS (sp.mv.keep a o hR q▸h)
  |ret d N1=>clear xC sp G3 G2 Cd G1 zP;obtain rfl:=W.bp g2;refine LA L ?_;clear L;intro v' e9 r' nV km I6;subst e9;have I7:=I6.Cs (B0:=B) (Ku:=λZ=>False) (G:=λZ=>False) (.refl _ _ lP) (λZ h=>h.elim) (λa h=>.inl h) λZ h=>h.elim;exact hQ _ lP ⟨jP,iY,⟨λa h=>(NY a h).imp id λh=>jN xB h,NZ⟩,N0,v',rfl,r'.mono (λZ Z Z e=>e) (λa Z Z n k=>n (k.imp id .inl)),aF nT nV,km,I7⟩
theorem Ze(hh:A.handled=af){t:au}{ri:RI}{rb:bP}(ht:jo K.X ks t=aa tg)(hI:pW K C A ks it ri)(tC:rM K C CH A ks body rb):
  d9 K C CH A ks (.For t it body [] pos) (.loop tg ri rb):=by
 intro B R T env hs ρ s fl hk I hex Q E hQ;exact Zb hh ht tC hk I (λx=>hI.1 env x) (λxs h=>hI.2 _ env hs ρ s xs hk I.e h) hex Q E hQ
end
section
variable{K:Kt}
variable{T:dW}
theorem Zf{v:au}{Q:jk→ay→Prop}(hv:∀es k' p',v≠.Tuple es k' p')
  (h:ar (aw prog K.w) A (eval v env) (λu ai=>ar (aw prog K.w) A (assign (.Tuple ts k p) env u) (λZ=>Q .next) E ai) E s):ar (aw prog K.w) A (exec (.Assign [.Tuple ts k p] v pos) env) Q E s:=by
 have nR:swapsWithSole [.Tuple ts k p] v pos.line env=pure ag:=by induction v using uA<;>rfl
 have tI:Bd [.Tuple ts k p] v env=pure af:=by induction v using uA<;>first|rfl|exact absurd rfl (hv _ _ _)
 show ar _ A (do
  oy pos
  if ← swapsWithSole [.Tuple ts k p] v pos.line env then do
   evalThenUse v env λv=>assignAll v ((l8 [.Tuple ts k p] env).map (·.2))
   pure .next
  else do
   let u ← eval v env
   Be env u (← Bd [.Tuple ts k p] v env) ((l8 [.Tuple ts k p] env).map (·.2))) Q E s
 refine rE nR (rE tI ?_);refine aB (kJ (aB (bz ?_)));refine rE (if_neg f9) (aB (ib h (λu ai h₁=>aB (bz ?_)) λZ Z e=>e));show ar _ A (do assign (.Tuple ts k p) env u;pure Flow.next) Q E ai;exact aB (ib h₁ (λZ av ey=>bz ey) λZ Z e=>e)
theorem G4{X:Cx}{t:au}(h:rB X ks (t::ts)=aa is):∃x p i eH,t=.Name x p∧dz (aV x ks)∧aZ x X.names=aa i∧rB X ks ts=aa eH∧has i eH=ag∧is=i::eH:=by
 refine oE h λi h1 e1=>oE e1 λeH h2 e2=>cK (rF h1) λx p e9 h3 h4=>?_;subst e9;induction q:has i eH with
 |true=>exact zN (q▸e2)
 |false=>replace e2:=iJ (q▸e2);subst e2;exact⟨x,p,i,eH,rfl,h3,h4,h2,q,rfl⟩
set_option tactic.hygienic true in
theorem Zg(hk:dg ks env){Q:Unit→ay→Prop}:∀ {ts:List au}{is:ax}{vs:List ak}{xs:List D}{ρ:aM}{s:ay},rB K.X ks ts=aa is→uV is xs ρ=aa ρ'→aN K B R T env hs ρ s→
  aI (UU R B) s.heap vs xs→(∀s',aN K B R T env hs ρ' s'→eA R R s s'→Q () s')→ar (aw prog K.w) A (Ey ((l8 ts env).map (·.2)) vs) Q E s:=by
 intro ts;induction ts with
 |nil=>
  intro is vs xs ρ s ht hu I r hQ;replace ht:=iJ ht;subst ht;induction xs using bj with
  |cons x xs=>exact zN hu
  |nil=>replace hu:=iJ hu;subst hu;obtain rfl:=r.sY;exact Ez (hQ s I (.refl R s))
 |cons t ts ih=>
  intro is vs xs ρ s ht hu I r hQ;refine yZ (G4 ht) λx p i eH e9 h1 hi oT _ bC=>?_;subst e9;subst bC;cases r with
  |nil=>exact zN hu
  |cons rv fB=>rename_i v vs d ds;have hu:uV eH ds (put ρ i (.val d))=aa ρ':=hu;show ar _ A (Ey (assign (.Name x p) env::(l8 ts env).map (·.2)) (_::_)) Q E s;refine wM (qP (I.store (sl:=.val d) hi h1 (mE hk h1) rv λai dn m₁=>?_));exact ih oT hu dn (fB.mono (λa o n e=>m₁.keep I.bu n e) λ_ _ _ n=>n) λs' I' sp=>hQ s' I' ((I.dY m₁).trans sp)
theorem N2:∀ {is:ax}{xs:List D}{ρ ρ':aM},uV is xs ρ=aa ρ'→is.length=xs.length
 | [],[],_,_,_=>rfl
 |_::_,_::_,_,_,h=>congrArg (· +1) (N2 (h:uV _ _ _=_))
 | [],_::_,_,_,h=>by exact zN h
 |_::_,[],_,_,h=>by exact zN h
theorem N3{X:Cx}(env:bF):∀ {ts:List au}{is:ax},rB X ks ts=aa is→(l8 ts env).length=is.length∧(l8 ts env).findIdx? (·.1)=af:=by
 intro L0;induction L0 with
 |nil=>intro is h;replace h:=iJ h;subst h;exact⟨rfl,rfl⟩
 |cons t ts ih=>intro is h;refine yZ (G4 h) λx p i eH e9 Z Z oT Z bC=>?_;subst e9;subst bC;refine xA (ih oT) λh1 h2=>⟨congrArg (· +1) h1,?_⟩;show List.findIdx? (·.1) ((ag,assign (.Name x p) env)::l8 ts env)=af;refine rE (ahO) ?_;simp only[yy,if_false,h2,Option.map_none]
theorem Zh(hh:A.handled=af){v:au}(ht:rB K.X ks ts=aa is)(hv:∀es k' p',v≠.Tuple es k' p')(he:bg K C A ks v r):
  d9 K C CH A ks (.Assign [.Tuple ts k p] v pos) (.uS is r):=by
 intro B R T env hs ρ s fl hk I hex Q E hQ;refine wE (hex:W.bind _ _=_) λd hd e1=>oE e1 λxs hx e2=>oE e2 λρ' hu e3=>?_;clear e2 e1 hex;obtain rfl:=W.bp e3;refine Zf hv ((he _ env hs ρ s d hk I.e hd).1 _ _ λu ai aq ru=>?_);refine rE (KG ..) (aB (kJ ?_));refine xA (N3 env ht) λh1 h2=>?_;unfold unpack;refine rE h2 (rE h1 (rE (N2 hu) ?_));refine aB (ji (Gf hh ru (w8 hx) λvs av aC rv=>?_));exact Zg hk ht hu (I.ext (aq.trans aC)) rv λs' I' sp=>hQ _ s' (.next ((eA.ext (aq.trans aC)).trans sp) I')
end
set_option tactic.hygienic true in
theorem Zi{vs:List au}{k':Nat}{p':aO}(env:bF)(h:(vs.all (constantsAlone 8)&& !(vs.all (foldedForSure 8)))=ag):
  ∃o,Bd [.Tuple ts k p] (.Tuple vs k' p') env=pure o∧∀names,o=aa names→names.length=ts.length∧∃f:au→Option ah,names=ts.filterMap f∧∀x q y,f (.Name x q)=aa y→y=x:=by
 unfold Bd;dsimp only;split
 ·exact⟨af,rfl,λ_ e=>by exact zN e⟩
 ·split
  ·exact⟨af,rfl,λ_ e=>by exact zN e⟩
  ·split
   ·exact⟨af,rfl,λ_ e=>by exact zN e⟩
   ·rename_i hn;split
    ·exact⟨af,rfl,λ_ e=>by exact zN e⟩
    ·rename_i hf;split
     ·rename_i hc;replace h:=hc▸h;simp only[Uu,Bool.not_eq_false']at h;exact absurd h hf
     ·refine⟨_,rfl,λnames e=>?_⟩;replace e:=iJ e;subst e;replace hn:=(UD ..)▸hn;rw[not_or]at hn;refine⟨Classical.not_not.mp (λbQ=>hn.1 (bne_iff_ne.mpr bQ)),_,rfl,λx q y h=>?_⟩;dsimp only at h;split at h
      ·replace h:=iJ h;subst h;rfl
      ·exact zN h
theorem Zj{f:au→Option ah}(hf:∀x q y,f (.Name x q)=aa y→y=x):∀ {l:List (ah × aO)},((l.map λp=>qQ p.1 p.2).filterMap f).length=l.length→(l.map λp=>qQ p.1 p.2).filterMap f=l.map (·.1):=by
 intro L0;induction L0 with
 |nil=>intro _;exact rfl
 |cons cx r ih=>
  obtain⟨x,q⟩:=cx;intro h;rw[iT,AW]at h ⊢;have hle:((r.map λp=>qQ p.1 p.2).filterMap f).length≤r.length:=by have:=List.length_filterMap_le f (r.map λp=>qQ p.1 p.2);rwa [aQ]at this
  induction hq:f (.Name x q)with
  |none=>replace h:=hq▸h;dsimp only at h;replace h:=bT▸h;lia
  |some y=>replace h:=hq▸h;dsimp only at h ⊢;replace h:=bT▸bT▸h;exact rE (hf x q y hq) (rE iT (rE (ih (by lia)) rfl))
section
variable(K:Kt)(A:dU)
structure xD:Prop where
 rO:K.mg mx=aa (.ref K.hc)
 jm:∀U s p,br K U s.heap→UB U s→∀ (Q E:aW),(∀a l s',Ext s s'→s.heap.get? a=af→s.heap.get? l=af→dO K.hc (λb=>U b∨b=l) s'.heap a l []→Q (.ref a) s')→ar (aw prog K.w) A (j4 p (.ref K.hc) [] [] []) Q E s
end
section
variable{K:Kt}{C:ma}{CH:Option nE}{A:dU}{ks:cT}
noncomputable def jv(K:Kt)(B:aY)(R:dC)(T:dW)(hs:Hs)(h:aP):List Nat→List ak→List bA→Prop
 | [],vs,bX=>vs=[]∧bX=[]
 |i::is,vs,bX=>∃v tH sl Cw,vs=v::tH∧bX=sl::Cw∧fE K B R T hs h i v sl∧jv K B R T hs h is tH Cw
structure iZ(R R':dC)(T T':dW)(hs hs':Hs)(s s':ay):Prop where
 ext:Ext s s'
 G5:∀b r,R b=aa r→R' b=aa r
 grow:∀b,R' b≠af→R b≠af∨s.heap.get? b=af
 tabs:∀j,j<hs.length→T' j=T j
 len:hs.length≤hs'.length
 hs:∀ (j:Nat) t,hs[j]? =aa t→hs'[j]? =aa t
theorem iZ.refl(R:dC)(T:dW)(hs:Hs)(s:ay):iZ R R T T hs hs s s:=⟨.refl s,λZ Z h=>h,λZ h=>.inl h,λZ Z=>rfl,bZ _,λZ Z h=>h⟩
theorem iZ.zQ{T:dW}(x:Ext s s'):iZ R R T T hs hs s s':=⟨x,λZ Z h=>h,λZ h=>.inl h,λZ Z=>rfl,bZ _,λZ Z h=>h⟩
theorem iZ.trans{iG jP:dC}{T ju iY:dW}{k8 iH:Hs}{a b c:ay}(x:iZ R iG T ju hs k8 a b)(y:iZ iG jP ju iY k8 iH b c):iZ R jP T iY hs iH a c:=
 ⟨x.ext.trans y.ext,λd r h=>y.G5 d r (x.G5 d r h),λd h=>(y.grow d h).elim (x.grow d) λh=>.inr (jN x.ext h),λj hj=>(y.tabs j (ia hj x.len)).trans (x.tabs j hj),aF x.len y.len,λj t h=>y.hs j t (x.hs j t h)⟩
theorem iZ.dY{R':dC}{T T':dW}{hs':Hs}(x:iZ R R' T T' hs hs' s s'):eA R R' s s':=⟨x.grow,x.ext.mv⟩
variable{B:aY}{R R':dC}{T T':dW}{env:bF}{hs hs':Hs}{ρ ρ':aM}{s s':ay}
theorem iZ.kept(g:iZ R R' T T' hs hs' s s'):Kept (λZ=>True) B B R R' T T' hs hs' s s':=
 ⟨λa o Z e=>g.ext.keep a o e,λa o e n k=>k.elim (λk=>(g.grow a k).elim (λh=>n (.inl h)) λh=>by replace h:=e▸h;exact zS h) λk=>n (.inr k),λa r Z h=>⟨g.G5 a r h,λo e=>g.ext.keep a o e⟩,
  λj t e=>⟨⟨t,g.hs j t e⟩,g.tabs j (pz.mp e).1⟩⟩
theorem fE.vA{v:ak}(g:iZ R R' T T' hs hs' s s')(h:fE K B R T hs s.heap i v sl):fE K B R' T' hs' s'.heap i v sl:=h.kept g.kept λZ Z=>trivial
theorem aN.N4(I:aN K B R T env hs ρ s)(x:Ext s s')(hl:s.heap.get? l=af)(h:dO K.hc (λb=>UU R B b∨b=l) s'.heap a l []):
  aN K B (λb=>if b=l then aa (.tab hs.length)else R b) (λj=>if j=hs.length then(a,l)else T j) env (hs++[[]]) ρ s'∧
  iZ R (λb=>if b=l then aa (.tab hs.length)else R b) T (λj=>if j=hs.length then(a,l)else T j) hs (hs++[[]]) s s':=by
 have Zk:∃o,s'.heap.get? l=aa o:=by obtain⟨_,_,_,vs,n,_,_,_,_,_,_,_,_,_,_,e,_⟩:=h;exact⟨_,e⟩
 have J:=I.GZ x hl Zk (.tab hs.length);have Zl:R l=af:=(I.live hl).1;have N5:∀ (j:Nat) t,hs[j]? =aa t→(hs++[[]])[j]? =aa t:=λj t e=>by refine rE (UI (pz.mp e).1) ?_;exact e
 have eV:∀ {j:Nat}{t},hs[j]? =aa t→j≠hs.length:=λe=>iU (pz.mp e).1;have G:iZ R (λb=>if b=l then aa (.tab hs.length)else R b) T (λj=>if j=hs.length then(a,l)else T j) hs (hs++[[]]) s s':=
  ⟨x,λb r h=>by refine rE (if_neg (λe=>by replace h:=e▸h;replace h:=Zl▸h;exact zN h)) ?_;exact h,(G0 x hl).grow,λj hj=>if_neg (iU hj),by refine rE bt ?_;exact nj _ _,N5⟩
 have X:Kept (λZ=>True) B B (λb=>if b=l then aa (.tab hs.length)else R b) (λb=>if b=l then aa (.tab hs.length)else R b) T (λj=>if j=hs.length then(a,l)else T j) hs (hs++[[]]) s' s':=
  ⟨λZ Z Z e=>e,λZ Z Z n=>n,λZ Z Z h=>⟨h,λZ e=>e⟩,λj t e=>⟨⟨t,N5 j t e⟩,if_neg (eV e)⟩⟩
 refine⟨J.tr X trivial J.ub J.bd (λy i sl p q r=>aD (J.vars y i sl p q r) λv e1 e2=>⟨v,e1,e2.kept X λZ Z=>trivial⟩) λj t e=>?_,G⟩;by_cases hj:j=hs.length
 ·subst hj;replace e:=iJ ((Bf ..)▸yK (bZ _)▸e);subst e;refine rE (if_pos rfl) ⟨h.mono (λZ Z Z e=>e) (λb Z Z n k=>n ?_) λZ Z e=>e,if_pos rfl⟩;rcases k with k|k
  ·by_cases hb:b=l
   ·exact .inr hb
   ·dsimp only at k;replace k:=if_neg hb▸k;exact .inl (.inl k)
  ·exact .inl (.inr k)
 ·refine rE (if_neg hj) ?_;have vo:j<hs.length:=by have:=(pz.mp e).1;replace this:=sS▸bt▸this;lia
  replace e:=UI vo▸e;exact J.tabs j t e
variable(K C A ks)in
inductive nW:List au→List RT→Prop
 |nil:nW [] []
 |val {e es r ts:_}:nI e=ag→bg K C A ks e r→nW es ts→nW (e::es) (.val r::ts)
 |nA {p es ts:_}:nW es ts→nW (.List [] p::es) (.nA::ts)
 |fO {e kvs es ts:_}:nI e=ag→BL (view e)=aa kvs→nW es ts→nW (e::es) (.fO kvs::ts)
 |jm {q p es ts:_}:eZ (aV mx ks)→nW es ts→nW (.Call (.Name mx q) [] [] p::es) (.jm::ts)
theorem N6:(mx == ("__debug__" :ah))=ag:=by decide
theorem Zm(ON:xD K A)(hk:dg ks env):∀ {es:List au}{ts:List RT},nW K C A ks es ts→∀ {is:ax}{R:dC}{T:dW}{hs hs':Hs}{s:ay}{bX:List bA},is.length=ts.length→
  aN K B R T env hs ρ s→lC K.tk C ts ρ hs=aa ((bX,hs'),ae)→∀ (Q:List ak→ay→Prop) (E:aW),
  (∀vs s' R' T',iZ R R' T T' hs hs' s s'→aN K B R' T' env hs' ρ s'→jv K B R' T' hs' s'.heap is vs bX→Q vs s')→ar (aw prog K.w) A (spliced (gK p (f7 es env))) Q E s:=by
 intro es ts h;induction h with
 |nil=>intro is R T hs hs' s bX hl I ao Q E hQ;refine xA (ED (W.bp (ao:W.ret (([]:List bA),hs)=_))) λe9 bC=>?_;subst e9;subst bC;have:is=[]:=wG hl;subst this;exact j5 (hQ [] s R T (.refl R T hs s) I ⟨rfl,rfl⟩)
 |val cz he hr ih=>
  intro is R T hs hs' s bX hl I ao Q E hQ;refine wE (ao:W.bind _ _=_) λx hx ao=>wE ao λq hq ao=>xA (ED (W.bp ao)) λe9 bC=>?_;subst e9;subst bC;obtain⟨i,eH,rfl⟩:∃i eH,is=i::eH:=by induction is using bj with|nil=>cases hl|cons i eH=>exact⟨i,eH,rfl⟩
  refine rE (mC cz) (iu ((he _ env hs ρ s x hk I.e hx).1 _ _ λv ai aq rv=>?_));refine ih (yL hl) (I.ext aq) hq _ _ λvs av jP iY g gD r=>hQ _ av jP iY ((iZ.zQ aq).trans g) gD ⟨_,_,_,_,rfl,rfl,?_,r⟩;exact fE.vA (sl:=.val x) (i:=i) g rv
 | @fO e kvs es ts cz hd hr ih=>
  intro is R T hs hs' s bX hl I ao Q E hQ;have ao:W.bind (lC K.tk C ts ρ hs) (λp=>W.ret (bA.fO kvs::p.1,p.2))=aa ((bX,hs'),ae):=ao;refine wE ao λq' hq ao=>xA (ED (W.bp ao)) λe9 bC=>?_;subst e9;subst bC;obtain⟨i,eH,rfl⟩:∃i eH,is=i::eH:=by induction is using bj with|nil=>cases hl|cons i eH=>exact⟨i,eH,rfl⟩
  refine rE (mC cz) (iu (Xs I.ub I.bH.lim hd λv ai aq rv=>?_));refine ih (yL hl) (I.ext aq) hq _ _ λvs av jP iY g gD r=>hQ _ av jP iY ((iZ.zQ aq).trans g) gD ⟨_,_,_,_,rfl,rfl,?_,r⟩;exact fE.vA (sl:=.fO kvs) (i:=i) g rv
 | @nA q es ts hr ih=>
  intro is R T hs hs' s bX hl I ao Q E hQ;have ao:W.bind (lC K.tk C ts ρ hs) (λp=>W.ret (bA.own []::p.1,p.2))=aa ((bX,hs'),ae):=ao;refine wE ao λq' hq ao=>xA (ED (W.bp ao)) λe9 bC=>?_;subst e9;subst bC;obtain⟨i,eH,rfl⟩:∃i eH,is=i::eH:=by induction is using bj with|nil=>cases hl|cons i eH=>exact⟨i,eH,rfl⟩
  refine rE (mC rfl) (iu (List_ (j5 (wI ?_ (eo _)))));have aq:Ext s {s with heap:=s.heap.push (cy #[] 0)}:=.push (k:=s.toks);have ha:(s.heap.push (cy #[] 0)).get? s.heap.objs.size=aa (cy #[] 0):=eT _ rfl;have dn:=I.GZ aq (eM _) ⟨_,ha⟩ (.own i);have dR:iZ R (λb=>if b=s.heap.objs.size then aa (.own i)else R b) T T hs hs s {s with heap:=s.heap.push (cy #[] 0)}:=
   ⟨aq,λb r h=>by
    refine rE (if_neg (λe=>by obtain⟨o,q⟩:=I.ub b (.inl (by refine rE h ?_;exact λq=>by exact zS q));replace q:=e▸q;replace q:=(eM ..)▸q;exact zN q)) ?_;exact h,
    (G0 aq (eM _)).grow,λZ Z=>rfl,bZ _,λZ Z h=>h⟩
  refine ih (yL hl) dn hq _ _ λvs av jP iY g gD r=>hQ _ av jP iY (dR.trans g) gD ⟨_,_,_,_,rfl,rfl,?_,r⟩;exact fE.vA (sl:=.own []) (i:=i) g ⟨_,#[],0,rfl,if_pos rfl,ha,.nil⟩
 | @jm q cp es ts hg hr ih=>
  intro is R T hs hs' s bX hl I ao Q E hQ;have ao:W.bind (lC K.tk C ts ρ (hs++[[]])) (λp=>W.ret (bA.cU hs.length::p.1,p.2))=aa ((bX,hs'),ae):=ao;refine wE ao λq' hq ao=>xA (ED (W.bp ao)) λe9 bC=>?_;subst e9;subst bC;obtain⟨i,eH,rfl⟩:∃i eH,is=i::eH:=by induction is using bj with|nil=>cases hl|cons i eH=>exact⟨i,eH,rfl⟩
  refine rE (mC rfl) (iu ?_);show ar _ A (do j4 cp (← eval (.Name mx q) env) [] (gK cp (f7 [] env)) []) _ E s;refine aB (I.e.global (lG hk hg) ON.rO N6 (ON.jm _ s cp I.bH I.ub _ _ λa l ai aq G6 fF hT=>?_));refine xA (I.N4 aq fF hT) λdn dR=>ih (yL hl) dn hq _ _ λvs av jP iY g gD r=>hQ _ av jP iY (dR.trans g) gD ⟨_,_,_,_,rfl,rfl,?_,r⟩;refine fE.vA (sl:=.cU hs.length) (i:=i) g ⟨⟨[],?_⟩,?_⟩
  ·refine rE (yK (bZ _)) ?_;refine rE (Bf ..) ?_;rfl
  ·dsimp only;exact rE (if_pos rfl) rfl
end
structure En where
 x:ah
 p:aO
 i:Nat
 v:ak
 sl:bA
noncomputable def vB(ρ:aM)(e:En):aM:=put ρ e.i e.sl
theorem Zn:∀ (L:List En) (ρ:aM),yX (L.map (·.i)) (L.map (·.sl)) ρ=aa (L.foldl vB ρ):=by
 intro L0;induction L0 with
 |nil=>intro _;exact rfl
 |cons e L ih=>intro ρ;exact ih (put ρ e.i e.sl)
theorem G7:∀ {L:List En}{ρ:aM}{j:Nat},j∉L.map (·.i)→get (L.foldl vB ρ) j=get ρ j:=by
 intro L0;induction L0 with
 |nil=>intro _ _ _;exact rfl
 |cons e L ih=>intro ρ j h;replace h:=iT▸h;rewrite[bE]at h;rw[not_or]at h;refine rE sF (rE (ih h.2) ?_);exact fS _ h.1 _
theorem N7:∀ {L:List En}{ρ:aM}{e:En},(L.map (·.i)).Nodup→e∈L→get (L.foldl vB ρ) e.i=aa e.sl:=by
 intro L;induction L with
 |nil=>exact λZ h=>nomatch h
 |cons a L ih=>
  intro ρ e hn h;replace hn:=iT▸hn;rw[uE]at hn;refine rE sF ?_;rcases bE.mp h with rfl|h
  ·exact rE (G7 hn.1) (kX _ _ _)
  ·exact ih hn.2 h
theorem Zo{L:List En}(hn:(L.map (·.i)).Nodup)(j:Nat):get (L.foldl vB ρ) j=get (L.reverse.foldl vB ρ) j:=by
 by_cases h:j∈L.map (·.i)
 ·refine aD (fq.mp h) λe he e9=>?_;subst e9;exact rE (N7 hn he) (rE (N7 (rE Bg (List.pairwise_reverse.mpr (hn.imp λh=>Eu h))) (KN.mpr he)) rfl)
 ·exact rE (G7 h) (rE (G7 (by refine rE Bg ?_;exact λq=>h (KN.mp q))) rfl)
section
variable{K:Kt}
variable{R':dC}{T T':dW}{hs':Hs}
theorem fE.bu{v:ak}(I:aN K B R T env hs ρ s)(m:gC ks env s s')(h:fE K B R T hs s.heap i v sl):fE K B R T hs s'.heap i v sl:=by
 have hk:∀a o,¬UU R B a→s.heap.get? a=aa o→s'.heap.get? a=aa o:=λa o n e=>m.keep I.bu n e;induction sl with
 |val d=>exact Rd.mono hk (λZ Z Z n=>n) h
 |own xs=>exact fA h λa vs n e1 e2 e3 e4=>⟨a,vs,n,e1,e2,m.seq I.bu e3,e4.mono hk λZ Z Z n=>n⟩
 |cU j=>exact h
 |fO l=>exact nJ.mono h hk λZ Z Z n=>n
theorem N8(hk:dg ks env){F:ah→aO→ak→cN Unit}(hF:∀x p v (Q:Unit→ay→Prop) (E:aW) s,ar (aw prog K.w) A (qO env x v) Q E s→ar (aw prog K.w) A (F x p v) Q E s)
  {Q:Unit→ay→Prop}{E:aW}:∀ {L:List En}{ρ:aM}{s:ay},(∀e∈L,aZ e.x K.X.names=aa e.i∧dz (aV e.x ks)∧fE K B R T hs s.heap e.i e.v e.sl)→aN K B R T env hs ρ s→
   (∀s',aN K B R T env hs (L.foldl vB ρ) s'→eA R R s s'→Q () s')→ar (aw prog K.w) A (Ey (L.map λe=>F e.x e.p) (L.map (·.v))) Q E s:=by
 intro L;induction L with
 |nil=>exact λZ I hQ=>Ez (hQ _ I (.refl R _))
 |cons e L ih=>
  intro ρ s hL I hQ;refine mr (hL e bG) λh1 h2 h3=>rE iT (rE iT ?_);refine wM (hF _ _ _ _ _ _ (I.store (sl:=e.sl) h1 h2 (mE hk h2) ?_ λai dn m₁=>?_))
  ·obtain⟨_,_,_,_,sl⟩:=e;induction sl<;>exact h3
  ·exact ih (λe' Cy=>let⟨a,b,c⟩:=hL e' (cf _ Cy);⟨a,b,c.bu I m₁⟩) dn λs' I' sp=>hQ s' I' ((I.dY m₁).trans sp)
theorem entries:∀ {ts:List au}{is:ax}{vs:List ak}{bX:List bA},rB K.X ks ts=aa is→jv K B R T hs s.heap is vs bX→
  ∃L:List En,ts=L.map (λe=>qQ e.x e.p)∧is=L.map (·.i)∧vs=L.map (·.v)∧bX=L.map (·.sl)∧(∀e∈L,aZ e.x K.X.names=aa e.i∧dz (aV e.x ks)∧fE K B R T hs s.heap e.i e.v e.sl)∧is.Nodup:=by
 intro ts;induction ts with
 |nil=>intro is vs bX ht h;replace ht:=iJ ht;subst ht;refine xA h λe9 bC=>?_;subst e9;subst bC;exact⟨[],rfl,rfl,rfl,rfl,λZ h=>(by cases h),yG⟩
 |cons t ts ih=>
  intro is vs bX ht h;refine yZ (G4 ht) λx p i eH e9 h1 hi oT hn bC=>?_;subst e9;subst bC;clear ht;refine w7 h ?_;clear h;intro v vs sl bX e9 bC hv zR;subst e9;subst bC;refine LB (ih oT zR) λL e1 e2 e3 e4 e5 e6=>⟨⟨x,p,i,v,sl⟩::L,by refine rE e1 ?_;rfl,by refine rE e2 ?_;rfl,by refine rE e3 ?_;rfl,by refine rE e4 ?_;rfl,λe he=>?_,uE.mpr ⟨λhm=>(zT (GK.mpr hm▸hn)),e6⟩⟩;rcases bE.mp he with rfl|he
  ·exact⟨hi,h1,hv⟩
  ·exact e5 e he
theorem Zp:∀ (L:List En),(l8 (L.map λe=>qQ e.x e.p) env).map (·.2)=L.map λe=>assign (.Name e.x e.p) env:=by
 intro L0;induction L0 with
 |nil=>exact rfl
 |cons e L ih=>show(assign (.Name e.x e.p) env)::_=_;exact rE iT (congrArg _ (ih))
theorem N9(hh:A.handled=af)(ht:s.heap.IsTuple a vs.toArray)(hn:n=vs.length){Q:List ak→ay→Prop}(h:∀s',Ext s s'→Q vs s'):
  ar (aw prog K.w) A (unpackItems (.ref a) n af) Q E s:=by
 subst hn;have:=wpAny_unpackItems_tuple (prog:=prog) (w:=K.w) (A:=A) (E:=E) (Q:=Q) (s:=s) hh ht λh' hb=>?_
 ·replace this:=Uk▸this;exact this
 ·have:=h {s with heap:=h'} (.heap (k:=s.toks) λb o e=>hb b o (λq=>by replace e:=q▸e;replace e:=(eM ..)▸e;exact zN e) e);simpa using this
theorem Zq(ts:List au)(k:Nat)(p:aO)(env:bF):(l8 [.Tuple ts k p] env).map (·.2)=[assign (.Tuple ts k p) env]:=rfl
theorem Zr(v:ak)(t:ak→cN Unit):assignAll v [t]=t v:=rfl
theorem Zs(hh:A.handled=af)(hk:dg ks env){L:List En}{o:Option (List ah)}(hn:(L.map (·.i)).Nodup)(ht:s.heap.IsTuple a (L.map (·.v)).toArray)
  (hL:∀e∈L,aZ e.x K.X.names=aa e.i∧dz (aV e.x ks)∧fE K B R T hs s.heap e.i e.v e.sl) (I:aN K B R T env hs ρ s) (ho:∀names,o=aa names→names=L.map (·.x))
  (Oa:(l8 (L.map λe=>qQ e.x e.p) env).length=L.length∧(l8 (L.map λe=>qQ e.x e.p) env).findIdx? (·.1)=af)
  {Q:jk→ay→Prop}{E:aW} (hQ:∀s',aN K B R T env hs (L.foldl vB ρ) s'→eA R R s s'→Q .next s'):
  ar (aw prog K.w) A (Be env (.ref a) o ((l8 [.Tuple (L.map λe=>qQ e.x e.p) k p] env).map (·.2))) Q E s:=by
 induction o with
 |none=>unfold Be;dsimp only;refine rE (Zq ..) (rE (Zr ..) ?_);refine aB (rE (KG ..) (aB (kJ ?_)));unfold unpack;refine rE Oa.2 (rE Oa.1 (rE (Zp ..) ?_));refine aB (ji (N9 hh ht (rE (aQ ..) rfl) λaR bx=>?_));exact N8 (F:=λx p=>assign (.Name x p) env) hk (λx p v Q E s h=>qP h) (λe he=>let⟨a,b,c⟩:=hL e he;⟨a,b,c.vA (.zQ bx)⟩) (I.ext bx) λcq rP sp=>bz (hQ cq rP ((eA.ext bx).trans sp))
 |some names=>
  obtain rfl:=ho names rfl;unfold Be;dsimp only;refine aB (EA (aB (N9 hh ht (rE (aQ ..) (rE (aQ ..) rfl)) λaR bx=>aB ?_)));have:=N8 (A:=A) (F:=λx Z=>bindName env x) hk (λx p v Q E s h=>wpAny_bindName h) (L:=L.reverse) (ρ:=ρ) (s:=aR) (λe he=>let⟨a,b,c⟩:=hL e (KN.mp he);⟨a,b,c.vA (.zQ bx)⟩) (I.ext bx)
   (Q:=λZ cq=>ar (aw prog K.w) A (pure Flow.next) Q E cq) (E:=E) λcq rP sp=>bz (hQ cq (rP.congr λi=>Zo hn i) ((eA.ext bx).trans sp))
  replace this:=Bg▸Bg▸this;refine rS Bg (rE dJ (rE Bg ?_));exact this
end
section
variable{K:Kt}
theorem Zt{k':Nat}{p':aO}{o:Option (List ah)}{Q:jk→ay→Prop}(nR:Bd [.Tuple ts k p] (.Tuple es k' p') env=pure o)
  (h:ar (aw prog K.w) A (eval (.Tuple es k' p') env) (λu ai=>ar (aw prog K.w) A (Be env u o ((l8 [.Tuple ts k p] env).map (·.2))) Q E ai) E s):
  ar (aw prog K.w) A (exec (.Assign [.Tuple ts k p] (.Tuple es k' p') pos) env) Q E s:=by
 show ar _ A (do
  oy pos
  if ← swapsWithSole [.Tuple ts k p] (.Tuple es k' p') pos.line env then do
   evalThenUse (.Tuple es k' p') env λv=>assignAll v ((l8 [.Tuple ts k p] env).map (·.2))
   pure .next
  else do
   let u ← eval (.Tuple es k' p') env
   Be env u (← Bd [.Tuple ts k p] (.Tuple es k' p') env) ((l8 [.Tuple ts k p] env).map (·.2))) Q E s
 refine rE nR (aB (kJ (aB (bz ?_))));exact rE (if_neg f9) (aB (ib h (λu ai h₁=>aB (bz h₁)) λZ Z e=>e))
theorem Zu{L:List En}{f:au→Option ah}{names:List ah}(hf:names=(L.map λe=>qQ e.x e.p).filterMap f)(tJ:∀x q y,f (.Name x q)=aa y→y=x)(hlen:names.length=(L.map λe=>qQ e.x e.p).length):names=L.map (·.x):=by have:=Zj (f:=f) tJ (l:=L.map λe=>(e.x,e.p));replace this:=(aQ ..)▸dJ▸dJ▸this;refine rE hf (this ?_);replace hlen:=(aQ ..)▸hf▸hlen;exact hlen
theorem Zv(hh:A.handled=af)(ON:xD K A){k':Nat}{p':aO}{xF:List RT}(ht:rB K.X ks ts=aa is)(GN:nW K C A ks es xF)(hl:is.length=xF.length)(hn:xF.length≤100)
  (hc:(es.all (constantsAlone 8)&& !(es.all (foldedForSure 8)))=ag):d9 K C CH A ks (.Assign [.Tuple ts k p] (.Tuple es k' p') pos) (.mul is xF):=by
 intro B R T env hs ρ s fl hk I hex Q E hQ;obtain⟨⟨bX,hs'⟩,ao,hex⟩:=W.LC (hex:W.bind (lC K.tk C xF ρ hs) (λp=>(yX is p.1 ρ).bind λρ'=>W.ret (Fl.next ρ' p.2))=_);refine oE hex λρ' hp hex=>?_;obtain rfl:=W.bp hex;obtain⟨o,nR,ho⟩:=Zi (ts:=ts) (vs:=es) (k:=k) (k':=k') (p:=p) (p':=p') env hc;refine Zt nR (Tuple_ (Zm ON hk GN hl I ao _ _ λvs ai iG ju g dn zR=>?_));refine LB (entries ht zR) λL e1 e2 e3 e4 e5 e6=>?_;have hlen:=N3 env ht;subst e1;subst e2;subst e3;subst e4;rw[aQ]at hl hlen;refine Ej ?_ (by refine rE (aQ ..) (rE lx (rE hl ?_));lia);clear hex;replace hp:=iJ ((Zn ..)▸hp);subst hp;have aC:Ext ai {ai with heap:=ai.heap.push {cls:=.type "tuple",data:=.seq (L.map (·.v)).toArray}}:=.push (k:=ai.toks);have Zw:(ai.heap.push {cls:=.type "tuple",data:=.seq (L.map (·.v)).toArray}).IsTuple ai.heap.objs.size (L.map (·.v)).toArray:=⟨_,eT _ rfl,rfl,0,rfl⟩;refine Zs hh hk e6 Zw (λe he=>let⟨a,b,c⟩:=e5 e he;⟨a,b,c.vA (.zQ aC)⟩) (dn.ext aC) (λnames e=>?_) hlen λcq rP sp=>?_
 ·exact uY (ho names e) λh1 f h2 h3=>Zu h2 h3 h1
 ·exact hQ _ _ ⟨iG,ju,g.dY.trans ((eA.ext aC).trans sp),g.tabs,rfl,g.len,rP⟩
end
section
variable{K:Kt}
theorem Zx(ON:xD K A){cp:aO}(hi:aZ x K.X.names=aa i)(cm:dz (aV x ks))(hg:eZ (aV mx ks)):
  d9 K C CH A ks (.Assign [.Name x p] (.Call (.Name mx q) [] [] cp) pos) (.jm i):=by
 intro B R T env hs ρ s fl hk I hex Q E hQ;obtain rfl:=W.bp (hex:W.ret (Fl.next (put ρ i (.cU hs.length)) (hs++[[]]))=_);refine oC ?_ rfl;show ar _ A (do j4 cp (← eval (.Name mx q) env) [] (gK cp (f7 [] env)) []) _ E s;refine aB (I.e.global (lG hk hg) ON.rO N6 (ON.jm _ s cp I.bH I.ub _ _ λa l ai aq G6 fF hT=>?_));refine xA (I.N4 aq fF hT) λdn dR=>dn.store (sl:=.cU hs.length) hi cm (mE hk cm) ⟨⟨[],?_⟩,?_⟩ λs' I' m=>hQ _ s' ⟨_,_,dR.dY.trans (dn.dY m),dR.tabs,rfl,dR.len,I'⟩
 ·refine rE (yK (bZ _)) ?_;refine rE (Bf ..) ?_;rfl
 ·dsimp only;exact rE (if_pos rfl) rfl
end
noncomputable def blank:List aE→aP→aP
 | [],h=>h
 |a::l,h=>(blank l h).update a λo=>{o with data:=.freed}
theorem vC:∀ {l:List aE}{h:aP}{b:aE},(b∈l→(blank l h).get? b=af)∧(b∉l→(blank l h).get? b=h.get? b):=by
 intro l;induction l with
 |nil=>exact λ{h b}=>⟨(nomatch ·),λZ=>rfl⟩
 |cons a l ih=>
  intro h b;by_cases e:a=b
  ·subst e;refine⟨λZ=>?_,λq=>(q bG).elim⟩;show((blank l h).update a _).get? a=af;unfold aP.get? aP.update;refine rE (Array.getElem?_modify) ?_;refine rE (if_pos rfl) ?_;cases (blank l h).objs[a]? <;>rfl
  ·have hu:=aP.get?_update_other (blank l h) (λo=>{o with data:=.freed}) e;refine⟨λq=>hu.trans (ih.1 ?_),λq=>hu.trans (ih.2 ?_)⟩
   ·rcases bE.mp q with q|q
    ·exact(e q.symm).elim
    ·exact q
   ·exact λk=>q (cf _ k)
section
variable{K:Kt}
variable{T:dW}
theorem aN.Zy(I:aN K B R T env hs ρ s)(h1:∀a o,R a≠aa .frame→s.heap.get? a=aa o→s'.heap.get? a=aa o)(h2:∀a,R a=aa .frame→∀o,s.heap.get? a=aa o→∃o',s'.heap.get? a=aa o'∧o'.data=o.data):aN K B R T env hs ρ s':=by
 have X:Kept (· ≠.frame) B B R R T T hs hs s s':=⟨λa o n e=>h1 a o (λq=>n (.inl (gF q))) e,λZ Z Z n=>n,λa r hr h=>⟨h,λo e=>h1 a o (λq=>hr (ir (h.symm.trans q))) e⟩,λj t e=>⟨⟨t,e⟩,rfl⟩⟩;refine I.GP X (λa h=>⟨h,h2 a h⟩) (λa h=>?_) I.bd (λy i sl a b c=>let⟨v,p,q⟩:=I.vars y i sl a b c;⟨v,p,q.kept X λZ Z=>nofun⟩) λj t e=>let⟨p,q⟩:=I.tabs j t e;⟨p.mono X.keep X.hu λZ Z=>(X.role _ (.tab j) nofun q).2 _,q⟩
 refine xE (I.ub a h) λo e=>?_;by_cases q:R a=aa .frame
 ·exact aD (h2 a q o e) λo' e' Z=>⟨o',e'⟩
 ·exact⟨o,h1 a o q e⟩
noncomputable def iI(env:bF)(l:List (bF × pB)):List aE:=env.locals::l.map λp=>p.1.locals
theorem aN.qd(I:aN K B R T env hs ρ s){l:List (bF × pB)}(hm:K.me=aa (env,l))(h:a∈iI env l):R a=aa .frame∧∃o,s.heap.get? a=aa o∧∀vs,o.data≠.fields vs:=by
 rcases bE.mp h with rfl|h
 ·obtain⟨_,_,o,es,ep,ho,hd,_⟩:=I.bu.loc;exact⟨I.fr _ (.inl rfl),o,ho,λvs q=>by replace q:=hd▸q;cases q⟩
 ·refine aD (fq.mp h) λp hp e9=>?_;subst e9;obtain⟨_,_,r,_,d,o,ho,hd⟩:=(I.outs _ _ hm).2.2 p hp;exact⟨r,o,ho,hd▸d⟩
theorem aN.frames(I:aN K B R T env hs ρ s){l:List (bF × pB)}(hm:K.me=aa (env,l)):(blank (iI env l) s.heap).StaysIn s.heap∧s.heap.FunFrames (blank (iI env l) s.heap) (env::l.map (·.1)):=by
 have key:∀l':List (bF × pB),(∀p∈l',p∈l)→s.heap.FunFrames (blank (iI env l) s.heap) (l'.map (·.1)):=by
  intro l';induction l' with
  |nil=>exact λZ=>trivial
  |cons p l' ih=>intro h;have hp:=h p bG;obtain⟨k,f,_,_,d,o,ho,hd⟩:=(I.outs _ _ hm).2.2 p hp;exact⟨by refine rE k ?_;exact nofun,⟨p.1.locals,o,f,vC.1 (cf _ (fq.mpr ⟨p,hp,rfl⟩)),ho,hd▸d⟩,ih λq hq=>h q (cf _ hq)⟩
 refine⟨λb o e=>?_,by refine rE I.kind ?_;exact nofun,?_,key l λZ h=>h⟩
 ·by_cases q:b∈iI env l
  ·exact zN (vC.1 q▸e)
  ·replace e:=vC.2 q▸e;exact e
 ·obtain⟨_,o,ho,hd⟩:=I.qd hm (a:=env.locals) bG;exact⟨env.locals,o,(I.outs _ _ hm).2.1,vC.1 bG,ho,hd⟩
theorem aN.tK(I:aN K B R T env hs ρ s){l:List (bF × pB)}(hm:K.me=aa (env,l))(h1:(blank (iI env l) s.heap).StaysIn s'.heap)(h2:s.heap.UpToSlots s'.heap):aN K B R T env hs ρ s':=by
 refine I.Zy (λa o n e=>h1 a o ((vC.2 λq=>n (I.qd hm q).1).trans e)) λa Z o e=>?_;by_cases q:a∈iI env l
 ·refine uY (I.qd hm q) λZ o' e' hd=>?_;replace e':=iJ (e▸e');subst e';exact xE (h2 a o e hd) λsl h=>⟨_,h,rfl⟩
 ·exact⟨o,h1 a o ((vC.2 q).trans e),rfl⟩
theorem Zz{m:gy}{name:ah}{v:ak}{Q:Bool→ay→Prop}(hn:s.heap.Ns a m)(hv:m name=aa v)
  (hQ:∀h' m',h'.Ns a m'→(∀x,x≠name→m' x=m x)→yI a s.heap h'→Q ae {s with heap:=h'}):ar (aw prog K.w) A (nsDel a name) Q E s:=by
 refine fA hn λo es ep ho hd hk hm=>?_;have h1:=hm name;replace h1:=hv▸h1;unfold nsFind findBy at h1;refine aD (sM.mp h1) λe Cy ZA=>?_;have he:es.find? (λe=>e.key.isStr name)=aa e:=Cy;have hp:e.key.isStr name:=by have:=Array.find?_some he;exact this
 obtain⟨i,hi⟩:∃i,es.findIdx? (λe=>e.key.isStr name)=aa i:=by
  induction q:es.findIdx? (λe=>e.key.isStr name)with
  |some i=>exact⟨i,rfl⟩
  |none=>have:=(Array.findIdx?_eq_none_iff.mp q) e (ahP he);exact zT (hp▸this)
 have Ob:es.any (λe=>e.key.isStr name):=Array.any_eq_true'.mpr ⟨e,ahP he,hp⟩;unfold nsDel;refine aB (wpAny_loadPart ho ?_);have Cz:nsHas name o=pure ae:=by refine rE nsHas_eq ?_;unfold nsHasByArray;refine rE hd ?_;show(if(es.any λx=>x.key.isStr name) then _ else _)=_;exact rE (if_pos Ob) rfl
 refine rE Cz (aB (bz ?_));refine rE (if_pos rfl) (aB (wpAny_updatePart ho (bz ?_)));obtain⟨cl,d,dt,sl⟩:=o;subst hd;refine hQ _ (λx=>nsFind (es.eraseIdxIfInBounds i) x) ⟨_,_,ep+1,KI _ ho (by simp only[ahQ,ahR,hi]<;>rfl),(by simp only[ahQ,ahR,hi]<;>rfl),hk.erase i,λZ=>rfl⟩ (λx hx=>?_) (A8 ..);refine rS (hm x) ?_;clear h1 he Ob Cz hm hk ho hQ;obtain⟨es⟩:=es;unfold nsFind findBy;simp only[List.eraseIdxIfInBounds_toArray,List.find?_toArray,List.findIdx?_toArray]at hi ⊢;refine congrArg _ ?_;clear hv ZA hp Cy e;induction es generalizing i with
 |nil=>rfl
 |cons e es ih=>
  replace hi:=ahO▸hi;induction q:e.key.isStr name with
  |true=>replace hi:=iJ (q▸hi);subst hi;refine rE List.eraseIdx_cons_zero ?_;rw[ahz];intro k;exact hx (ak.isStr_inj _ _ _ k q)
  |false=>replace hi:=if_neg f9▸q▸hi;refine aD (sM.mp hi) λj hj e9=>?_;subst e9;refine rE List.eraseIdx_cons_succ (rE (ahS) ?_);refine rE (ahS) ?_;exact rE (ih j hj) rfl
theorem aN.ZC(I:aN K B R T env hs ρ s)(hi:aZ x K.X.names=af)(cm:dz (aV x ks))(hk:env.kindOf x=aa .local)
  {Q:Unit→ay→Prop}{E:aW} (hQ:∀s',aN K B R T env hs ρ s'→Mv (eG ks env) (λZ=>False) s s'→Q () s'):ar (aw prog K.w) A (do bindName env x .none;unbindBehindTheSuite env x pos) Q E s:=by
 refine aB (wpAny_bindName (I.NK hi cm (.inl hk) λai dn m₁ ZD=>?_));have hp:(env.scope.kind == .class||(env.scope.kind == .module&&env.locals !=env.globals))=ag:=by refine rE I.kind ?_;rfl
 unfold unbindBehindTheSuite;refine wpAny_onRaise ?_;unfold unbindName;refine aB (UJ (aB ?_));unfold deleteName;simp only[hk,hp];refine rE (if_neg (by decide)) ?_;rcases ZD with⟨_,m,n,e⟩| ⟨k|k,_⟩
 ·refine aB (Zz n e λey m₂ CA hm cB=>?_);have mv:gC ks env ai {ai with heap:=ey}:=⟨λa o e=>by
   by_cases ha:a=env.locals
   ·exact .inr (.inl ha)
   ·exact .inl ((cB.2 a ha).trans e),rfl,rfl⟩
  have cell:∀ {c v},ai.heap.IsCell c v→ey.IsCell c v:=λ{c v} hc=>hc.sameBut cB λe=>by subst e;refine aD hc λo ho hd=>ic n λo' es ep gB dB Z=>?_;replace gB:=iJ (ho▸gB);subst gB;replace dB:=hd▸dB;cases dB
  simp only[Bool.not_true,yy,if_false];refine bz (UJ (hQ _ (dn.stored ⟨⟨dn.bu.loc.1,_,CA⟩,λy c e=>let⟨a,v,q⟩:=dn.bu.fR y c e;⟨a,v,cell q⟩,dn.bu.inj,dn.bu.has⟩ mv λX y j sl hj hg jM=>?_) (m₁.mv.trans mv.mv)));refine aD (dn.vars y j sl hj hg jM) λv' p q=>⟨v',?_,q.kept X λZ Z=>nofun⟩;rcases p with⟨k1,m',n',e'⟩| ⟨k1,c',e1,e2⟩
  ·exact .inl ⟨k1,m₂,CA,(hm y λe=>by replace hj:=e▸hj;replace hj:=hi▸hj;exact zN hj).trans ((n.agree n' y).trans e')⟩
  ·exact .inr ⟨k1,c',e1,cell e2⟩
 ·replace k:=hk▸k;cases k
 ·replace k:=hk▸k;cases k
end
structure oU(base:aP)(fs:List bF)(e:aE)(s s':ay):Prop where
 tK:∃tt tk,aP.FlyingW base fs e (.type "ValueError") (.ref tt) s'.heap∧s'.heap.TupAt tt [.str te tk]
 up:s.heap.UpToSlots s'.heap
 gens:∀ (g:Nat) (x:uq),s.gens[g]? =aa x→s'.gens[g]? =aa x
 bare:wC s.gens→wC s'.gens
 os:s'.os=s.os
section
variable(K:Kt)(A:dU)
structure zU:Prop where
 G8:∀U s a l t,br K U s.heap→UB U s→U l→dO K.hc U s.heap a l t→∀ (pl:cN Bool) (Q:ak × List ak→ay→Prop) (E:aW),
  (∀ (f:ak) (first:List ak) (ai:ay),Ext s ai→(∃fa o fd,f=.ref fa∧ai.heap.get? fa=aa o∧o.data=.func fd)→
   (∀vs av x y,Ext ai av→aI U av.heap vs [.str x,.str y]→keyOk y→t.length<1000000→
    (iz x→∀ (Q' E':aW),(∀u aR,Mv (λb=>b=l) (λZ=>False) av aR→dO K.hc U aR.heap a l (t++[(x,y)])→Q' u aR)→ar (aw prog K.w) A (call f (first++vs)) Q' E' av)∧
    (iz x=ag→mi (sL x)→(sL x).length=1→∀base fs,A.frames=aa fs→base.StaysIn av.heap→av.heap.FunFrames base fs→∀ (Q' E':aW),(∀e aR,oU base fs e av aR→E' (.ref e) aR)→ar (aw prog K.w) A (call f (first++vs)) Q' E' av))→
   Q (f,first) ai)→ar (aw prog K.w) A (yC (.ref a) rA pl) Q E s
end
theorem Oc(x:α):∀ (j:Nat) (l:List α),(setAt x j l).length=l.length:=by
 intro j l;induction l generalizing j with
 |nil=>exact rE (Lr ..) rfl
 |cons y l ih=>induction j using lq with|zero=>rfl|succ j=>exact congrArg (· +1) (ih j)
theorem CB(x:α):∀ {j:Nat}{l:List α}{t:α},l[j]? =aa t→(setAt x j l)[j]? =aa x:=by
 intro j l;induction l generalizing j with
 |nil=>exact zN
 |cons y l ih=>induction j using lq with|zero=>exact λZ=>rfl|succ j=>exact ih (j:=j)
theorem CC(x:α):∀ {j i:Nat}{l:List α},i≠j→(setAt x j l)[i]? =l[i]? :=by
 intro j i l;induction l generalizing i j with
 |nil=>exact λZ=>by exact rE (Lr ..) rfl
 |cons y l ih=>induction j with
  |zero=>induction i using lq with|zero=>exact λh=>absurd rfl h|succ i=>exact λZ=>rfl
  |succ j=>induction i using lq with|zero=>exact λZ=>rfl|succ i=>exact λh=>ih λe=>h (congrArg _ e)
section
variable{K:Kt}
variable{T:dW}
theorem aN.ZE(I:aN K B R T env hs ρ s){t t':d6}(hj:hs[j]? =aa t)(m:Mv (λb=>b=(T j).2) (λZ=>False) s s')(h':dO K.hc (UU R B) s'.heap (T j).1 (T j).2 t'):
  aN K B R T env (setAt t' j hs) ρ s':=by
 have ha:R (T j).2=aa (.tab j):=(I.tabs j t hj).2;have zL:UU R B (T j).2:=.inl (gF ha);have X:Kept (· ≠.tab j) B B R R T T hs (setAt t' j hs) s s':=⟨λb o n e=>m.keep b o (λq=>n (q▸zL)) e,λZ Z Z n=>n,λb r hr h=>⟨h,λo e=>m.keep b o (λq=>hr (by subst q;replace h:=ha▸h;exact(ir h).symm)) e⟩,λi u e=>⟨by
  by_cases q:i=j
  ·exact⟨t',by refine rE q ?_;exact CB t' hj⟩
  ·exact⟨u,(CC t' q).trans e⟩,rfl⟩⟩
 refine I.tr X nofun (λb hb=>?_) I.bd (λy i sl a b c=>let⟨v,p,q⟩:=I.vars y i sl a b c;⟨v,p,q.kept X λZ Z=>nofun⟩) λi u e=>?_
 ·by_cases zM:b=(T j).2
  ·obtain⟨_,_,_,vs,n,_,_,_,_,_,_,_,_,_,_,e,_⟩:=h';exact⟨_,zM▸e⟩
  ·exact xE (I.ub b hb) λo e=>⟨o,m.keep b o zM e⟩
 ·by_cases jO:i=j
  ·clear zL m;subst jO;replace e:=iJ (CB t' hj▸e);subst e;exact⟨h',ha⟩
  ·replace e:=CC t' jO▸e;exact xA (I.tabs i u e) λp q=>⟨p.mono X.keep X.hu λZ Z=>(X.role _ (.tab i) (λz=>jO (by cases z;rfl)) q).2 _,q⟩
theorem ZF(O:bU K)(OA:zU K A){e e':RE}{t:d6}{sx sy:ah}(hi:aZ x K.X.names=aa i)(ez:d8 (aV x ks))(hl:cH ap p)
  (ha:cZ K C A ks args (.cons e (.cons e' .nil))) (hk:dg ks env) (I:aN K B R T env hs ρ s) (hg:get ρ i=aa (.cU j)) (ht:hs[j]? =aa t) (hu:ev K.tk C hs e ρ=aa (.str sx,ae)) (hv:ev K.tk C hs e' ρ=aa (.str sy,ae))
  (hy:keyOk sy) (h3:t.length<1000000) {Q:jk→ay→Prop}{E:aW} (c0:iz sx→∀s',aN K B R T env (setAt (t++[(sx,sy)]) j hs) ρ s'→eA R R s s'→Q .next s')
  (hx:iz sx=ag→mi (sL sx)∧(sL sx).length=1∧∃l,K.me=aa (env,l)∧A.frames=aa (env::l.map (·.1))∧
   ∀e av s',Ext s av→aN K B R T env hs ρ av→oU (blank (iI env l) av.heap) (env::l.map (·.1)) e av s'→E (.ref e) s'):
  ar (aw prog K.w) A (exec (.Expr (.Call (.Attribute (.Name x q) rA ap) args [] p) pos) env) Q E s:=by
 refine xA (I.cU x i j hi hg (nK hk ez)) λZ Od=>xA (I.tabs j t ht) λhT hR=>?_;have hp:=rC (p:=p) (env:=env) ha;have hint:interactive env=ag:=by unfold interactive;refine rE I.kind ?_;rfl
 refine UG ?_ hint;refine pQ rfl hl (rE hp.2.2 (by decide:2≤20)) hp.2.1 ?_;have name:∀ {Q E:aW},Q (.ref (T j).1) s→ar (aw prog K.w) A (eval (.Name x q) env) Q E s:=λ{Q E} h=>by
  refine yB ?_ (O.nm x i hi).1;rcases Od with⟨k,m,n,e⟩| ⟨k|k,c,f1,f2⟩
  ·exact wK I.kind k n e h
  ·exact A3 I.kind k f1 f2 h
  ·exact A4 I.kind k f1 f2 h (O.nm x i hi).2
 refine name λpl=>OA.G8 (UU R B) s (T j).1 (T j).2 t I.bH I.ub (.inl (gF hR)) hT pl _ _ λf first ai aq hf hc=>?_
 clear pl name hint hp hT Od hl ez hi;refine ic hf ?_;clear hf;intro fa o fd e9 ho hd;subst e9;refine Et (xn hk ha (I.ext aq).e (xs:=[.str sx,.str sy]) (BW hu hv) λus av aC r=>⟨⟨aC.keep _ _ ho,hd⟩,?_⟩);refine xA (hc us av sx sy aC r hy h3) λc1 c2=>?_;have zV:=aq.trans aC;have gD:=I.ext zV;induction hn:iz sx with
 |true=>exact c1 hn _ _ λZ aR tB kY=>c0 hn _ (gD.ZE ht tB kY) ((eA.ext zV).trans ⟨λZ h=>.inl h,tB.mono (λa h=>by refine rE h ?_;refine rE hR ?_;exact λq=>by exact zS q) λZ h=>h⟩)
 |false=>exact VE (hx hn) λn1 n2 l hm cC hE=>xA (gD.frames hm) λf1 f2=>c2 hn n1 n2 _ _ cC f1 f2 _ _ λe aR fl=>hE e av aR zV gD fl
theorem ZG:(my == ("__debug__" :ah))=ag:=by decide
theorem gC.tup(h:gC ks env s s')(f:jq U env s.heap){o:fJ}(e:s.heap.get? a=aa o)(hd:(∃vs,o.data=.fields vs)∨∃vs n,o.data=.seq vs n):s'.heap.get? a=aa o:=by
 rcases h.1 a _ e with h|rfl| ⟨x,_,h⟩
 ·exact h
 ·obtain⟨_,m,o,es,ep,ho,dB,_⟩:=f.loc;replace e:=iJ (ho▸e);subst e;rcases hd with⟨_,hd⟩| ⟨_,_,hd⟩<;>(replace dB:=hd▸dB;cases dB)
 ·refine mu (f.fR x a h) λZ v o ho dB=>?_;replace e:=iJ (ho▸e);subst e;rcases hd with⟨_,hd⟩| ⟨_,_,hd⟩<;>(replace dB:=hd▸dB;cases dB)
theorem G9:isSubtype (.type "ValueError") (.type "BaseException")=pure ae∧isSubtype (.type ((Manifest.find? "ValueError").elim "type" λx=>x.metatype)) (.type "tuple")=pure ag∧isSubtype (.type "ValueError") (.type "ValueError")=pure ae:=by refine⟨?_,?_,?_⟩<;>(refine rE (isSubtype_type ..) ?_;kernel_rfl)
theorem ZH(O:bU K)(hu:A.units+4<cLine){l:List (bF × pB)}(hm:K.me=aa (env,l))(cC:A.frames=aa (env::l.map (·.1)))(I:aN K B R T env hs ρ s)(hk:dg ks env){e:aE}
  (fl:oU (blank (iI env l) s.heap) (env::l.map (·.1)) e s s') {nm:ah}{p1 p2 p3 p4 p5 p6 p7 p8:aO}{kk:Nat}{ret:List a9} (hv:eZ (aV my ks)) (hs':eZ (aV lF ks)) (hn:aV nm ks=aa .local) (hd:sEq nm ("__debug__" :ah)=ag) (hi:aZ nm K.X.names=af)
  {Q:jk→ay→Prop}{E:aW} (hQ:∀dh,aN K B R T env hs ρ dh→Mv (λa=>R a≠af) (λZ=>False) s dh→Q .next dh):
  ar (aw prog K.w) A (noteFrame (.ref e) env) (λZ av=>ar (aw prog K.w) A (setFlight (.ref e) af) (λZ aR=>ar (aw prog K.w) A (handleBy (.ref e) env
   [.ExceptHandler (aa (.Name my p1)) (aa nm) [.If (.Compare (.Call (.Name lF p2) [.Name nm p3] [] p4) [.NotEq] [.Constant (.str te) kk p5] p6) ret [] p7] p8]) Q E aR) E av) E s':=by
 have hL:env.frame=aa env.locals:=(I.outs _ _ hm).2.1;have iE:env.kindOf nm=aa .local:=by
  rcases hk nm .local hn with k|k
  ·exact k
  ·cases k.1
 have cm:dz (aV nm ks):=by refine rE hn ?_;rfl
 obtain⟨⟨tt,tk,tK,tup⟩,up,gens,bare,os⟩:=fl;refine wpAny_looks_onW cC hL tK λoV held Oe=>wpAny_landsW held λZI Ha Of=>?_;have u5:=up.trans (Oe.trans Of);have vD:aN K B R T env hs ρ {s' with heap:=ZI}:=I.tK hm Ha.1 u5;refine wpAny_handleBy_builtin_as (X:= "ValueError") (T:= "ValueError") (b:=ae) G9.1 G9.2.1 G9.2.2 (vD.e.builtin (lG hk hv) O.ve ZG ⟨rfl,let⟨ob,h1,h2⟩:=Ha.there;⟨ob,h1,h2⟩,?_⟩);refine rE (if_pos rfl) (lands_againW Ha λOg Hb Oh=>?_);have u6:=u5.trans Oh;have Hc:aN K B R T env hs ρ {s' with heap:=Og}:=I.tK hm Hb.1 u6;refine Hc.NK hi cm (.inl iE) λeJ Oi Hd ZJ=>?_;have x7:eJ.heap.ExcAt e "ValueError" (.ref tt):=by
  refine E6 Hb.first λo vs h1 h2 h3 h4=>?_
  exact⟨o,vs,Hd.tup Hc.bu h1 (.inl ⟨vs,h3⟩),h2,h3,h4⟩
 have t7:eJ.heap.TupAt tt [.str te tk]:=cK (tup.of_slots (Oe.trans (Of.trans Oh))) λo n h1 h2 h3=>⟨o,n,Hd.tup Hc.bu h1 (.inr ⟨_,n,h3⟩),h2,h3⟩
 obtain⟨m,n,ZK⟩:∃m,eJ.heap.Ns env.locals m∧m nm=aa (.ref e):=by
  rcases ZJ with⟨_,m,n,e⟩| ⟨k|k,_⟩
  ·exact⟨m,n,e⟩
  ·replace k:=iE▸k;cases k
  ·replace k:=iE▸k;cases k
 refine gw (wQ (yF ?_ rfl));show ar _ _ (do j4 p4 (← eval (.Name lF p2) env) [] (gK p4 (f7 [.Name nm p3] env)) []) _ _ eJ;refine aB (Oi.e.builtin (lG hk hs') O.str nM.2.1 (A6 rfl (qN (iu ?_))));refine yB (wK I.kind iE n ZK ?_) (beq_false_of_ne λq=>by replace hd:=sEq_iff.mpr q▸hd;exact zT hd);refine j5 ?_;show ar _ _ (call (.type "str") [.ref e]) _ _ eJ;refine(P.str_of_exc_one F.excStr_ValueError (show(A.mark (aa (yH e))).units+2<cLine from(show A.units+2<cLine by lia)) x7 t7 ?_);refine KA (ahl (lu ?_));refine rE (if_neg (by simp)) (oB (oB ?_));refine aN.ZC (Oi.ext .tok) hi cm iE λoW ZL zW=>hQ oW ZL ?_;have bu:∀a,eG ks env a→R a≠af:=λa h=>gF (I.fr a (mF h));have m0:Mv (λa=>R a≠af) (λZ=>False) s {s' with heap:=Og}:=⟨λa o q e=>Hb.1 a o ((vC.2 λk=>q (gF (I.qd hm k).1)).trans e),λg x Z e=>gens g x e,bare,os⟩;exact m0.trans ((Hd.mv.mono bu λZ h=>h).trans (Ext.tok.mv.trans (zW.mono bu λZ h=>h)))
theorem ZM(O:bU K)(OA:zU K A)(hu:A.units+4<cLine)(lQ:∀c,CH=aa c→∃e l,K.me=aa (e,l)∧A.frames=aa (e::l.map (·.1))){e e' a:RE}{v:Nat}(hi:aZ x K.X.names=aa v)(ez:d8 (aV x ks))(hl:cH ap p)
  (ha:cZ K C A ks args (.cons e (.cons e' .nil))) {st:a9} (cz:d9 K C CH A ks st (.app i a)) {nm:ah}{p1 p2 p3 p4 p5 p6 p7 p8 p9:aO}{kk:Nat}{ret:List a9} (hv:eZ (aV my ks)) (hs':eZ (aV lF ks)) (hn:aV nm ks=aa .local) (hd:sEq nm ("__debug__" :ah)=ag) (oX:aZ nm K.X.names=af):
  d9 K C CH A ks (.Try [.Expr (.Call (.Attribute (.Name x q) rA ap) args [] p) pos,st] [.ExceptHandler (aa (.Name my p1)) (aa nm) [.If (.Compare (.Call (.Name lF p2) [.Name nm p3] [] p4) [.NotEq] [.Constant (.str te) kk p5] p6) ret [] p7] p8] [] [] p9) (.yU v e e' i a):=by
 intro B R T env hs ρ s fl hk I hex Q E hQ;refine oE hex λc hc g0=>oE g0 λj hg g1=>oE g1 λt ht g2=>wE g2 λu ZN g3=>wE g3 λw hw g4=>oE g4 λsx e6 g5=>oE g5 λsy e7 g6=>wE g6 λZ c0 g7=>xA (W.de c0) λZ c0=>?_;have hg:=Fb hg;obtain rfl:=kO e6;obtain rfl:=kO e7;clear hex g0 g1 g2 g3 g4 g5 g6 e6 e7;replace c0:=(j0 ..)▸(j0 ..)▸c0;obtain⟨⟨h1,h2⟩,h3⟩:=c0;refine gz (lQ c hc) λme l hm cC=>?_;clear c0 hc c;obtain rfl:env=me:=(I.outs _ _ hm).1;refine wpAny_Try_except (gw (ZF O OA hi ez hl ha hk I hg ht ZN hw h2 (bc h3) (λhx ai dn sp=>?_) λhx=>?_))
 ·replace g7:=hx▸g7;have g7:ex K.tk C CH (.app i a) ρ (setAt (t++[(sx,sy)]) j hs)=aa (fl,ae):=g7;refine gw (cz B R T env _ ρ ai fl hk dn g7 _ _ λdq s' L=>?_);have fF:∃ρ' hs',fl=.next ρ' hs':=oE g7 λZ Z g8=>wE g8 λZ Z g8=>wE g8 λZ Z g8=>⟨_,_,W.bp g8 |>.symm⟩
  clear dn h3 h2 hg;refine lD fF ?_;clear fF;intro ρ' aiC e9;subst e9;have L':=L.before (hs:=hs) sp (λZ Z=>rfl) (rE (Oc ..) (bZ _));clear sp hg;refine E6 L ?_;clear L;intro _ _ _ _ e9 _;subst e9;exact oB (oB (hQ _ _ L'))
 ·replace g7:=hx▸g7;have g7:W.bind (W.need () (az (sL sx).length 1)) (λZ=>W.ret (Fl.next ρ hs))=aa (fl,ae):=g7;refine wE g7 λZ n1 g8=>xA (W.de n1) λZ n1=>?_;clear g7 hx h3;obtain rfl:=W.bp g8;refine⟨h1,fZ n1,l,hm,cC,λe av s' aC gD tK=>ZH O hu hm cC gD hk tK hv hs' hn hd oX λdh Cv m=>hQ _ _ (.next ((eA.ext aC).trans ⟨λZ h=>.inl h,m⟩) Cv)⟩
end
section
variable(K:Kt)(g:nE)(A:dU)
structure zX:Prop where
 qW:∀B R T env hs ρ s j t args vs d t' f a fd,aN K B R T env hs ρ s→hs[j]? =aa t→g f args t=aa ((d,t'),ae)→K.fo f=aa (a,fd)→aI (UU R B) s.heap vs args→
  ∀ (Q E:aW),(∀v s',aN K B R T env (setAt t' j hs) ρ s'→eA R R s s'→Rd (UU R B) s'.heap v d→Q v s')→ar (aw prog K.w) A (yD (.ref a) (vs++[.ref (T j).1])) Q E s
end
section
variable{K:Kt}
variable{T:dW}
theorem aN.name(I:aN K B R T env hs ρ s)(O:bU K)(hi:aZ x K.X.names=aa i)(hg:get ρ i=aa (.cU j))(hk:d8 (env.kindOf x))(hQ:Q (.ref (T j).1) s):ar (aw prog K.w) A (eval (.Name x q) env) Q E s:=by
 refine yB ?_ (O.nm x i hi).1;rcases(I.cU x i j hi hg hk).2 with⟨k,m,n,e⟩| ⟨k|k,c,f1,f2⟩
 ·exact wK I.kind k n e hQ
 ·exact A3 I.kind k f1 f2 hQ
 ·exact A4 I.kind k f1 f2 hQ (O.nm x i hi).2
theorem ZO(O:kW K C A){v:Nat}{CD:aO}{d1 d2:D}(hi:aZ x K.X.names=aa v)(ez:d8 (aV x ks))(hl:cH ap p)(nV:cH CD p2)
  (ha:cZ K C A ks args (.cons (.tup (.cons (.lit d1) (.cons (.lit d2) .nil))) .nil)):d9 K C CH A ks (.Expr (.Call (.Attribute (.Call (.Attribute (.Name x q) nH ap) [] [] p) u7 CD) args [] p2) pos) (.yT v):=by
 intro B R T env hs ρ s fl hk I hex Q E hQ;refine oE hex λt ht h1=>aD (Fc ht) λj hj ht=>xA (W.de h1) λe9 h2=>?_;subst e9;have h2:t.length+1≤1000000:=bc h2;have hint:interactive env=ag:=by unfold interactive;refine rE I.kind ?_;rfl
 have hp:=rC (p:=p2) (env:=env) ha;refine UG ?_ hint;refine pQ rfl nV (rE hp.2.2 (by decide:1≤20)) hp.2.1 (pQ rfl hl (by decide) rfl (I.name O.ok hi hj (nK hk ez) λpl=>?_));refine O.oI (UU R B) s _ t I.bH I.ub (I.tabs j t ht).1.tab (by lia) pl _ _ λf first ai aq hf hc=>?_
 refine ic hf λfa o fd e9 ho hd=>?_;subst e9;refine Et (KC ⟨⟨ho,hd⟩,?_⟩);refine hc [] ai (.refl ai) .nil _ _ λb av aC hb hl=>gz hl λvs n e1 e2=>?_;intro pl2;refine rE NN (KD (T:= "list") ⟨_,e1,rfl⟩ ahG ahH ahI (λc e=>by cases e;exact⟨_,e1,rfl⟩) (uC hp.1 (xn hk ha (I.ext (aq.trans aC)).e (xs:=[.tuple [d1,d2]]) rfl λus aR bx r=>?_)));refine aD (nO r) λu e9 Z=>?_;subst e9;have eY:vs.size≤qG:=by have h1:=e2.length;replace h1:=(aQ ..)▸eL▸h1;refine rE lx ?_;lia
 refine B8 (bx.keep _ _ e1) eY λh' n' f1 f2=>?_;have m:Mv (λc=>c=b) (λZ=>False) aR {aR with heap:=h'}:=⟨λc o n e=>(f2.2 c n).trans e,λZ Z Z e=>e,λe=>e,rfl⟩;have X:Ext s {aR with heap:=h'}:=m.ext ((aq.trans aC).trans bx) (λc h=>h▸jN aq hb) λZ h=>h.elim;exact hQ _ _ (.next (eA.ext X) (I.ext X))
theorem ZP(O:bU K)(OH:∀c,CH=aa c→zX K c A){y f h:ah}{q2:aO}{e:au}{fi v:Nat}(hi:aZ y K.X.names=aa i)(cm:dz (aV y ks))(hf:aZ f K.X.fns=aa fi)(He:eZ (aV f ks))
  (cz:nI e=ag) (he:bg K C A ks e r) (hv:aZ h K.X.names=aa v) (ez:d8 (aV h ks)):d9 K C CH A ks (.Assign [.Name y p] (.Call (.Name f q) [e,.Name h q2] [] p2) pos) (.qW i fi v (.cons r .nil)):=by
 intro B R T env hs ρ s fl hk I hex Q E hQ;refine oE hex λj hg g1=>oE g1 λt ht g2=>wE g2 λxs hx g3=>oE g3 λc hc g4=>?_;obtain⟨⟨d,t'⟩,hd,g5⟩:=W.LC g4;clear g4 g3 g2 g1 hex;obtain rfl:=W.bp g5;have hg:=Fb hg;refine wE (hx:W.bind _ _=_) λx zO g6=>wE g6 λZ hn g7=>?_;clear g6 g5 hx;obtain rfl:=W.bp (hn:W.ret ([]:List D)=_);clear hn;obtain rfl:=W.bp g7;refine gz (O.fm f fi hf) λa fd h1 h2=>oC ?_ rfl;show ar _ A (do j4 p2 (← eval (.Name f q) env) [] (gK p2 (f7 [e,.Name h q2] env)) []) _ E s;refine aB (I.e.global (lG hk He) h2 (O.nf f fi hf) ?_);refine gA (I.bH.fo fi a fd h1) λo ho Z ZQ Z=>rE (mC cz) (Et (o:=o) (fd:=fd) (qN (iu ((he _ env hs ρ s x hk I.e zO).1 _ _ λu ai aq ru=>?_))));have dn:=I.ext aq;refine iu (dn.name O hv hg (nK hk ez) (j5 ⟨⟨aq.keep _ _ ho,ZQ⟩,?_⟩));exact(OH c hc).qW B R T env hs ρ ai j t [x] [u] d t' fi a fd dn ht hd h1 (.one ru) _ _ λw av gD sp rd=>gD.store (sl:=.val d) hi cm (mE hk cm) rd λaR pU m=>hQ _ _ ⟨R,T,(eA.ext aq).trans (sp.trans (gD.dY m)),λZ Z=>rfl,rfl,by refine rE (Oc ..) ?_;exact bZ _,pU⟩
end
structure jQ(K:Kt)(C:ma)(CH:Option nE)(A:dU):Prop where
 o:kW K C A
 g:pZ K A
 n:xD K A
 a:zU K A
 h:∀c,CH=aa c→(∃e l,K.me=aa (e,l)∧A.frames=aa (e::l.map (·.1)))∧zX K c A
section
variable{K:Kt}
theorem jQ.hh(O:jQ K C CH A):A.handled=af:=let⟨_,r⟩:=O.o.room;r.handled
theorem Oj{e:au}(h:zm ks e):∃q p,e=.Call (.Name mx q) [] [] p∧eZ (aV mx ks):=by
 unfold zm at h;induction q:view e with
 |call f args iB p=>replace h:=q▸h;obtain rfl:=dM q rfl;refine xA (cg h) λh1 h2=>xA (cg h2) λh3 h4=>?_;clear h2;obtain rfl:=sR.mp h1;clear h1;obtain rfl:=zJ h3;clear h3;refine aD (zx h4) λp' e9 hg=>?_;subst e9;exact⟨p',p,rfl,hg⟩
 |_=>replace h:=q▸h;exact zF h
theorem ZR{e:au}(h:BO e):∃p,e=.List [] p:=by
 unfold BO at h;induction q:view e with
 |list es p=>replace h:=q▸h;obtain rfl:=dM q rfl;obtain rfl:=sR.mp h;exact⟨p,rfl⟩
 |_=>replace h:=q▸h;exact zF h
theorem ZS{e:au}(h:zk e):(∃es q,view e=.list es q)∨(∃l r q,view e=.bin l .Add r q):=by
 unfold zk at h;induction q:view e with
 |list es p=>exact .inl ⟨es,p,rfl⟩
 |bin l o r p=>
  replace h:=q▸h;induction o<;>first| (cases h;done)|exact .inr ⟨l,r,p,rfl⟩
 |_=>replace h:=q▸h;exact zF h
section
variable{F:KS→au→Option RE}
theorem ZT(hF:iF K C A F):∀ {es:List au}{ts:List RT},FW F ks es=aa ts→nW K C A ks es ts:=by
 intro es;induction es with
 |nil=>intro ts h;replace h:=iJ h;subst h;exact .nil
 |cons e es ih=>
  intro ts h;refine oE h ?_;clear h;intro rs h1 h2;have ih:=ih h1;induction q1:BO e with
  |true=>clear h1;replace h2:=iJ (q1▸h2);subst h2;refine xE (ZR q1) λp e9=>?_;subst e9;exact .nA ih
  |false=>
   replace h2:=q1▸h2;induction q2:zm ks e with
   |true=>clear h1;replace h2:=iJ (q2▸h2);subst h2;refine gz (Oj q2) λq p e9 hg=>?_;subst e9;exact .jm hg ih
   |false=>
    replace h2:=q2▸h2;induction q3:BL (view e)with
    |some kvs=>replace h2:=q3▸h2;replace h2:=iJ h2;subst h2;exact .fO (by induction e using uA<;>first|rfl|exact zN q3) q3 ih
    |none=>replace h2:=q3▸h2;refine oE (h2:(F ks e).bind _=_) λr h3 h4=>?_;replace h4:=iJ h4;subst h4;exact .val (noStar (hF _ _ _ h3).2) (hF _ _ _ h3).1 ih
theorem ZU(O:jQ K C CH A)(hF:iF K C A F)(hi:aZ x K.X.names=aa i)(cm:dz (aV x ks))
  (h1:distinct scope.names) (h2:freeOk ks scope.names) (h3:scope.kind=.function) (h:FH K.X F ks scope.names gs elt=aa r):d9 K C CH A ks (.Assign [.Name x p] (.ListComp elt gs scope q) pos) (.asg i r):=by
 induction gs using bj with
 |nil=>exact zN h
 |cons g gs=>obtain⟨t,it,ifs,a⟩:=g;refine oE h λrelt he h=>oE h λtg ht h=>oE h λri vm h=>oE h λris hl h=>oE h λrgs hg h=>xA (cj h) λh4 h=>xA (cg h4) λh4 h5=>xA (cg h5) λh5 h6=>?_;replace h:=iJ h;subst h;clear h;obtain rfl:=GJ h4;exact YS O.hh hi cm h3 h1 h2 ht (Co O.o O.g O.hh hF vm) (lM hF hl) (NI O.o O.g O.hh hF hg) (hF _ _ _ he).1 (ND h5) (NF h6)
theorem ZV(O:jQ K C CH A)(hF:iF K C A F){v:au}{e:RE}(hi:aZ x K.X.names=aa i)(cm:dz (aV x ks))(he:cV K.X F ks (view v)=aa e):
  d9 K C CH A ks (.Assign [.Name x p] v pos) (cond (has i K.X.mw&&zk v) (.own i e) (.asg i e)):=by
 have hv:=Cp O.o O.g O.hh hF ks v e he;induction hO:(has i K.X.mw&&zk v)with
 |true=>
  refine xA (cg hO) λZ hf=>?_;rcases ZS hf with⟨es,q,hq⟩| ⟨l,r,q,hq⟩
  ·replace he:=hq▸he;clear hf;obtain rfl:=dM hq rfl;refine oE he λrs rL h1=>xA (cj h1) λh2 h3=>?_;replace h3:=iJ h3;subst h3;refine NQ hi cm (λZ=>rfl) λU env hs ρ s xs hk I ao=>wE (ao:W.bind (eD K.tk C hs rs ρ) _=_) λys hy ao=>?_;cases W.bp ao;exact Y5 (lM hF rL) h2 hk I hy
  ·replace he:=hq▸he;clear hf;obtain rfl:=dM hq rfl;refine oE he λa ha h1=>oE h1 λo ho h2=>oE h2 λb hb h3=>?_;replace ho:=iJ ho;subst ho;replace h3:=iJ h3;subst h3;exact NQ hi cm (λZ=>rfl) λU env hs ρ s xs hk I ao=>Y6 (hF _ _ _ ha).1 (hF _ _ _ hb).1 hk I ao
 |false=>
  by_cases hL:∃elt gs sc q,v=.ListComp elt gs sc q
  ·obtain⟨elt,gs,sc,q,e9⟩:=hL;subst e9;exact xA (cj (he:cond (distinct sc.names&&freeOk ks sc.names&&isFun sc.kind) _ af=_)) λh1 h2=>xA (cg h1) λh1 h3=>xA (cg h1) λh1 h4=>ZU O hF hi cm h1 h4 (NH h3) h2
  ·exact YR hi cm hv.1 λenv=>YQ (λa b c d e=>hL ⟨a,b,c,d,e⟩) hv.2
theorem ZW(O:jQ K C CH A)(hF:iF K C A F){v:au}{q:Nat × Nat × bf}(hi:aZ x K.X.names=aa i)(cm:dz (aV x ks))(h:BR K.X F ks v=aa q):
  d9 K C CH A ks (.Assign [.Name x p] v pos) (.qW i q.1 q.2.1 q.2.2):=by
 unfold BR at h;induction hv:view v with
 |call f args iB cp=>replace h:=hv▸h;obtain rfl:=dM hv rfl;refine oE h λy h1 h2=>xE (xd h1) λp1 e9=>?_;subst e9;refine xA (cj h2) λh3 h4=>xA (cg h3) λh3 h5=>?_;clear h2 h1;obtain rfl:=zJ h3;refine oE h4 ?_;clear h4;intro fi h6 h7;obtain⟨⟨e1,e2⟩,h8,h9⟩:=BD h7;clear h7 h3;obtain rfl:=zw h8;refine oE h9 λr fT kq=>oE kq λw mI gV=>xA (cj gV) λZ gV=>?_;clear kq h9 h8 h3;replace gV:=iJ gV;subst gV;clear gV;refine cK (oP mI) λz p2 e9 tL CE=>?_;subst e9;exact ZP O.o.ok (λc hc=>(O.h c hc).2) hi cm h6 h5 (noStar (hF _ _ _ fT).2) (hF _ _ _ fT).1 CE tL
 |_=>exact zN (hv▸h)
theorem ZX(O:jQ K C CH A)(hF:iF K C A F){t v:au}{rs:RS}(h:FX K.X (λks e=>cV K.X F ks (view e)) ks t v=aa rs):d9 K C CH A ks (.Assign [t] v pos) rs:=by
 have hV:=Cp O.o O.g O.hh hF;unfold FX at h;induction q:kT K.X ks t with
 |some i=>
  replace h:=q▸h;refine cK (rF q) λx p e9 cm hi=>?_;subst e9;induction hH:has i K.X.s9 with
  |true=>have h:cond (has i K.X.s9) _ _=aa rs:=h;replace h:=hH▸h;refine xA (cj (h:cond _ _ af=_)) λh1 h2=>?_;replace h2:=iJ h2;subst h2;refine gz (Oj h1) λq cp e9 hg=>?_;subst e9;exact Zx O.n hi cm hg
  |false=>
   have h:cond (has i K.X.s9) _ _=aa rs:=h;replace h:=hH▸h;induction hC:BR K.X (λks e=>cV K.X F ks (view e)) ks v with
   |some q=>replace h:=iJ (hC▸h);subst h;exact rN (ZW O hV hi cm hC) _ _
   |none=>replace h:=hC▸h;refine oE (h:(cV K.X F ks (view v)).bind _=_) λe he h1=>?_;replace h1:=iJ h1;subst h1;exact rN (ZV O hF hi cm he) _ _
 |none=>
  replace h:=q▸h;clear hF;refine oE h λts ht h1=>oE h1 λis oT h2=>lD (BK ht) λk p e9=>?_;subst e9;clear h h1 q;induction q:zd (view v)with
  |some es=>replace h2:=q▸h2;clear ht;refine lD (BK q) λk' p' e9=>?_;subst e9;refine oE h2 λxF ZY h3=>xA (cj h3) λh4 h5=>?_;replace h5:=iJ h5;subst h5;refine xA (cg h4) λh4 h5=>xA (cg h5) λh5 h6=>rN (Zv O.hh O.n oT (ZT hV ZY) (fZ h4) (bc h5) ?_) _ _;replace h6:=(UK ..)▸h6;exact h6
  |none=>replace h2:=q▸h2;refine oE h2 ?_;clear h2;intro e he h3;clear ht;replace h3:=iJ h3;subst h3;exact rN (Zh O.hh oT (λes k p e=>by subst e;exact zS q) (hV _ _ _ he).1) _ _
end
end
section
variable{K:Kt}{C:ma}{CH:Option nE}{A:dU}{ks:cT}
theorem ZZ(O:bU K){m:ah}{es:bf}{v:Nat}{rs:RS}(hi:aZ x K.X.names=aa v)(ez:d8 (aV x ks))(hl:cH ap p)(ha:cZ K C A ks args es)(h:FY v m es=aa rs):
  d9 K C CH A ks (.Expr (.Call (.Attribute (.Name x q) m ap) args [] p) pos) rs:=by
 unfold FY at h;induction h1:sEq m u7 with
 |true=>replace h:=h1▸h;obtain rfl:=eE h1;refine oE (h:es.c1.bind _=_) λa h6 h7=>?_;replace h7:=iJ h7;subst h7;replace ha:=bf.tp h6▸ha;exact NO O hi ez hl ha
 |false=>
 replace h:=(cond_false ..)▸h1▸h;induction h1:sEq m BP with
 |true=>replace h:=h1▸h;obtain rfl:=eE h1;refine oE (h:es.c1.bind _=_) λa h6 h7=>?_;replace h7:=iJ h7;subst h7;replace ha:=bf.tp h6▸ha;exact Y4 O hi ez hl ha
 |false=>
 replace h:=(cond_false ..)▸h1▸h;refine xA (cj h) λh1 h=>?_;obtain rfl:=eE h1;refine oE h ?_;clear h;intro a h6 h7;clear h h1;replace h7:=iJ h7;subst h7;replace ha:=bf.xq h6▸ha;exact Y3 O hi ez hl ha
theorem Ol{s:a9}{e:au}(h:FP s=aa e):∃p,s=.Expr e p:=by
 induction s using KO<;>first|exact zN h| (replace h:=iJ h;subst h;exact⟨_,rfl⟩)
theorem Z0{s:a9}{c:au}(h:Mt s=aa c):∃a p,s=.If c a [] p:=by
 induction s using KO<;>first|exact zN h| (refine xA (cj h) λh1 h2=>?_;replace h2:=iJ h2;subst h2;obtain rfl:=sR.mp h1;exact⟨_,_,rfl⟩)|exact zN h
theorem Om{e:au}{c:au × List au × aO}(h:BQ e=aa c):e=.Call c.1 c.2.1 [] c.2.2:=by
 unfold BQ at h;induction q:view e with
 |call f args iB p=>replace h:=q▸h;refine xA (cj h) λh1 h2=>?_;replace h2:=iJ h2;subst h2;exact rE (dM q rfl) (rE (zJ h1) rfl)
 |_=>exact zN (q▸h)
theorem Z1{e:au}{c:au × ah × aO}(h:FQ e=aa c):e=.Attribute c.1 c.2.1 c.2.2:=by
 unfold FQ at h;induction q:view e with
 |attr o m p=>replace h:=iJ (q▸h);subst h;exact dM q rfl
 |_=>exact zN (q▸h)
theorem CF{e:au}{c:au × ah × List au}(h:zl e=aa c):∃ap p,e=.Call (.Attribute c.1 c.2.1 ap) c.2.2 [] p∧cH ap p:=by refine oE h λa h1 h2=>oE h2 λb h3 h4=>xA (cj h4) λh5 h6=>?_;clear h4 h2 h;replace h6:=iJ h6;subst h6;exact⟨_,_,by refine rE (Om h1) ?_;exact rE (Z1 h3) rfl,h5⟩
theorem Z2{e:au}{q:au × au}(h:FR e=aa q):∃p,e=.Compare q.1 [.NotEq] [q.2] p:=by
 unfold FR at h;induction hv:view e with
 |cmp l ops es p=>
  replace h:=hv▸h;refine oE h λo h1 h2=>xA (cj h2) λh3 h4=>oE h4 λr h5 h6=>?_;clear h4 h2;replace h6:=iJ h6;subst h6;have:o=.NotEq:=by induction o<;>first|rfl|exact zF h3
  exact⟨p,by refine rE (dM hv rfl) ?_;refine rE (nN h1) ?_;refine rE (nN h5) ?_;exact rE this rfl⟩
 |_=>exact zN (hv▸h)
theorem Z3{e:au}(h:FT e):∃kk p,e=.Constant (.str te) kk p:=by
 unfold FT at h;induction q:view e with
 |const c kk p=>
  replace h:=q▸h;induction c with
  |str m=>exact⟨kk,p,by refine rE (dM q rfl) ?_;exact rS (eE h) rfl⟩
  |_=>exact zF h
 |_=>replace h:=q▸h;exact zF h
theorem Oo{e:RE}(h:isLit e):∃d,e=.lit d:=by
 induction e using RE.casesOn<;>first|exact⟨_,rfl⟩|exact zF h
theorem Z4{e:RE}{a:RE}{r:bf}(h:FU e=.cons a r):e=.tup (.cons a r):=by
 induction e using RE.casesOn<;>first|exact congrArg RE.tup h|exact bf.noConfusion h
theorem Z5{es:bf}(h:FV es):∃d1 d2,es=.cons (.tup (.cons (.lit d1) (.cons (.lit d2) .nil))) .nil:=by
 unfold FV at h;induction h1:es.c1 with
 |none=>replace h:=h1▸h;exact zF h
 |some e=>
  replace h:=h1▸h;dsimp only at h;induction h2:(FU e).c2 with
  |none=>replace h:=h2▸h;exact zF h
  |some q=>replace h:=h2▸h;exact xA (cg h) λk1 k2=>xE (Oo k1) λd1 e1=>xE (Oo k2) λd2 e2=>⟨d1,d2,by refine rE (bf.tp h1) ?_;refine rE (Z4 (bf.xq h2)) ?_;refine rE e1 ?_;exact rE e2 rfl⟩
theorem Z6(O:jQ K C CH A){o:au}{m:ah}{es:bf}{rs:RS}(hl:cH ap p)(ha:cZ K C A ks args es)(h:Mu K.X ks o m es=aa rs):
  d9 K C CH A ks (.Expr (.Call (.Attribute o m ap) args [] p) pos) rs:=by
 refine xA (cj h) λh1 h2=>xA (cg h1) λh1 h3=>oE h2 λc h4 h5=>xA (cj h5) λh6 h7=>xA (cg h6) λh6 h8=>oE h7 λv h9 fT=>gz (CF h4) λCD p2 e1 kq=>cK (oP h9) λx q e2 ez hi=>lD (Z5 h3) λd1 d2 e3=>rE e1 (rE e2 (rE (eE h1) (rE (eE h8) (rE (sR.mp h6) ?_))));replace ha:=e3▸ha;replace fT:=iJ fT;subst fT;exact ZO O.o hi ez kq hl ha
theorem Z7(O:jQ K C CH A){F:KS→au→Option RE}(hF:iF K C A F){v:au}{rs:RS}(h:Mw K.X F ks v=aa rs):d9 K C CH A ks (.Expr v pos) rs:=by
 refine oE h λc h1 h2=>gz (CF h1) λap p e1 hl=>oE h2 λes h3 h4=>?_;have ha:=lM hF h3;refine rE e1 ?_;induction hv:nameId K.X ks c.1 with
 |some v=>replace h4:=hv▸h4;refine oE h4 λs h5 h6=>?_;clear h3 e1 h2 h1 h hF;replace h6:=iJ h6;subst h6;exact cK (oP hv) λx q e2 ez hi=>rE e2 (rN (ZZ O.o.ok hi ez hl ha h5) _ _)
 |none=>replace h4:=hv▸h4;exact Z6 O hl ha h4
theorem Z8{b:List a9}(h:BS ks b=aa x):∃p2 p3 p4 p5 p6 p7 kk ret,b=[.If (.Compare (.Call (.Name lF p2) [.Name x p3] [] p4) [.NotEq] [.Constant (.str te) kk p5] p6) ret [] p7]∧eZ (aV lF ks):=oE h λs h1 h2=>oE h2 λc h3 h4=>oE h4 λq h5 h6=>xA (cj h6) λh7 h8=>oE h8 λd h9 fT=>xA (cj fT) λkq mI=>oE mI λa gV tL=>lD (Z0 h3) λret p7 e1=>xE (Z2 h5) λp6 e2=>lD (Z3 h7) λkk p5 e3=>aD (zx kq) λp2 e4 hg=>xE (xd tL) λp3 e5=>⟨p2,p3,d.2.2,p5,p6,p7,kk,ret,by refine rE (nN h1) ?_;refine rE e1 ?_;refine rE e2 ?_;refine rE (Om h9) ?_;refine rE e3 ?_;refine rE e4 ?_;refine rE (nN gV) ?_;exact rE e5 rfl,hg⟩
theorem Z9(h:isLocal ks x):aV x ks=aa .local:=by
 unfold isLocal at h;induction q:aV x ks with
 |none=>replace h:=q▸h;exact zF h
 |some k=>replace h:=q▸h;induction k<;>first|rfl|exact zF h
theorem aaa{X:Cx}{eh:Ky}(h:Mx X ks eh):∃pt nm hb p,eh=.ExceptHandler (aa (.Name my pt)) (aa nm) hb p∧eZ (aV my ks)∧aV nm ks=aa .local∧aZ nm X.names=af∧sEq nm ("__debug__" :ah)=ag∧BS ks hb=aa nm:=by
 obtain⟨ty,nm,hb,p⟩:=eh;induction ty with
 |none=>exact zF h
 |some ty=>
 induction nm with
 |none=>exact zF h
 |some nm=>
  refine xA (cg (h:(pO ks my ty&&_))) λh1 h2=>xA (cg h2) λh3 h4=>xA (cg h4) λh5 h6=>xA (cg h6) λh7 h8=>aD (zx h1) λpt e1 hg=>?_;refine⟨pt,nm,hb,p,by exact rE e1 rfl,hg,Z9 h3,Option.isNone_iff_eq_none.mp h5,by induction q:sEq nm ("__debug__" :ah)with|true=>replace h7:=q▸h7;exact zF h7|false=>rfl,?_⟩;induction q:BS ks hb with
  |none=>replace h8:=q▸h8;exact zF h8
  |some y=>replace h8:=q▸h8;exact rE (eE h8) rfl
theorem aab(O:jQ K C CH A){F:KS→au→Option RE}(hF:iF K C A F){b:List a9}{hs:List Ky}{rs:RS}(h:Mz K.X F ks b hs=aa rs):d9 K C CH A ks (.Try b hs [] [] pos) rs:=by
 refine oE h λq h1 h2=>oE h2 λeh h3 h4=>xA (cj h4) λh5 h6=>yZ (aaa h5) λpt nm hb p8 e1 hgv k2 k4 k3 h7=>VF (Z8 h7) λp2 p3 p4 p5 p6 p7 kk ret e2 k1=>oE h6 λv h8 h9=>oE h9 λc fT kq=>oE kq λv2 mI gV=>oE gV λc2 tL CE=>xA (cj CE) λHf qe=>xA (cg Hf) λHf rQ=>oE qe λw h19 Oq=>oE Oq λes vE Ot=>oE Ot λkv Hg Hh=>oE Hh λi h25 CG=>oE CG λMy rR oY=>oE oY λa zY kr=>?_;clear oY CG Hh Ot Oq qe CE;replace kr:=iJ kr;subst kr;refine xE (Ol h8) λq1 e3=>xE (Ol mI) λq2 e4=>gz (CF fT) λap p e5 l1=>gz (CF tL) λCD p' e6 l2=>cK (oP h19) λx x1 e7 hkx hix=>cK (oP h25) λy y1 e8 jM hiy=>?_;have s1:=lM hF vE;have s2:=lM hF rR;replace s1:=bf.xq Hg▸s1;replace s2:=bf.tp zY▸s2;have hu:A.units+4<cLine:=by refine xE O.o.room λn r=>?_;have:=r.units;lia
 refine rE (zw h1) (rE (nN h3) (rE e1 (rE e2 (rE e3 (rE e4 (rE e5 (rE e6 (rE e7 (rE e8 (rE (eE Hf) (rE (eE rQ) ?_)))))))))));exact rN (ZM O.o.ok O.a hu (λc hc=>(O.h c hc).1) hix hkx l1 s1 (NO O.o.ok hiy jM l2 s2) hgv k1 k2 k3 k4) _ _
theorem aac(O:jQ K C CH A){rs:RS}(h:d9 K C CH A ks st rs)(ms:ax):d9 K C CH A ks st (FK ms rs):=by
 induction ms using bj with
 |nil=>exact h
 |cons i r=>intro B R T env hs ρ s fl hk I hex Q E hQ;exact h B (qc (i::r) R) T env hs (dX (i::r) ρ) s fl hk (I.freeze _) hex Q E λdq s' L=>hQ dq s' (L.before (.dX _) (λZ Z=>rfl) (bZ _))
variable(K C CH A ks)in
noncomputable def Hi(G:List a9→Option bP):Prop:=∀b rb,G b=aa rb→rM K C CH A ks b rb
theorem Ou{f:a9→Option RS}(hf:∀st rs,f st=aa rs→d9 K C CH A ks st rs):Hi K C CH A ks (zp f):=by
 intro b;induction b with
 |nil=>intro rb h;replace h:=iJ h;subst h;exact YL
 |cons st b ih=>intro rb h;refine oE h λr h1 h2=>oE h2 λrs h3 h4=>?_;replace h4:=iJ h4;subst h4;exact YM (hf _ _ h1) (ih _ h3)
theorem aad(O:jQ K C CH A){F:KS→au→Option RE}(hF:iF K C A F){G:List a9→Option bP}(hG:Hi K C CH A ks G){rs:RS}(h:MA K.X (λks e=>cV K.X F ks (view e)) ks G st=aa rs):d9 K C CH A ks st rs:=by
 have hV:=Cp O.o O.g O.hh hF;cases st with
 |Assign ts v pos=>refine oE h λt h1 h2=>?_;obtain rfl:=nN h1;exact ZX O hF h2
 |AugAssign t op v pos=>clear hF;refine oE h λi h1 h2=>oE h2 λo h3 h4=>oE h4 λe h5 h6=>cK (rF h1) λx p e9 cm hi=>?_;subst e9;replace h6:=iJ h6;subst h6;exact rN (YX O.o.ok hi cm h3 (hV _ _ _ h5).1) _ _
 |Expr v pos=>exact Z7 O hV h
 |If c a b pos=>refine oE h λrc h1 h2=>oE h2 λra h3 h4=>oE h4 λrb h5 h6=>?_;clear hF;replace h6:=iJ h6;subst h6;exact rN (YN (hV _ _ _ h1).1 (hG _ _ h3) (hG _ _ h5)) _ _
 |For t it body orelse pos=>refine xA (cj h) λh0 h=>oE h λtg h1 h2=>oE h2 λri h3 h4=>oE h4 λrb h5 h6=>?_;replace h6:=iJ h6;subst h6;obtain rfl:=sR.mp h0;exact rN (Ze O.hh h1 (Co O.o O.g O.hh hV h3) (hG _ _ h5)) _ _
 |Try b hs e f pos=>refine xA (cj h) λh1 h=>xA (cg h1) λh1 h2=>?_;obtain rfl:=sR.mp h1;obtain rfl:=sR.mp h2;exact aab O hV h
 |Return v pos=>refine oE h λe h1 h2=>oE h2 λr h3 h4=>?_;clear h2;subst h1;replace h4:=iJ h4;subst h4;exact aac O (YO (hV _ _ _ h3).1) _
 |_=>exact zN h
theorem aae(O:jQ K C CH A)(b:List a9){rb:bP}(h:BU K.X ks b=aa rb):rM K C CH A ks b rb:=by
 have go:∀n,Hi K C CH A ks (zp (MB K.X (cE K.X 30) ks n)):=by
  intro n;refine Ou ?_;induction n with
  |zero=>exact λst rs h=>nomatch h
  |succ n ih=>exact λst rs h=>aad O (YI O.o O.g O.hh 29) (Ou ih) h
 exact go 12 b rb h
end
noncomputable def Cx.wm(X:Cx)(m c:ax):Cx:=⟨X.names,X.fns,m,X.s9,X.bH,c⟩
noncomputable def Kt.wm(K:Kt)(m c:ax)(me:Option (bF × List (bF × pB))):Kt:=⟨K.w,K.X.wm m c,K.tk,K.mg,K.mb,K.fo,K.hc,K.fr,me⟩
structure gj(X:Cx)(fd:px)(fn:Fn):Prop where
 ex:∃ (b:List a9) (ps:List ah) (m c:ax),fd.body=.stmts b∧BU (X.wm m c) fd.scope.names b=aa fn.body∧
  (∀vals:List ak,vals.length=ps.length→jG fd ⟨vals,[]⟩=pure (ps.zip vals))∧ps.map (λx=>aZ x X.names)=fn.params.map aa∧
  ps.Nodup∧∀x∈ps,fd.scope.names.lookup x=aa .local∨fd.scope.names.lookup x=aa .cell
 gE:fd.closure=[]
 gl:fd.globals=gp
 bi:fd.builtins=jE
 Ov:fd.scope.names.all (λp=>p.2 !=.free)
 co:fd.scope.isCoroutine=ag
 gen:fd.scope.isGenerator=ag
 kind:fd.scope.kind=.function
theorem aaf:∀ (names:cT) (n:Nat) (acc:List (ah × aE)) (x:ah),(acc.lookup x).isSome→((jF n names acc).lookup x).isSome:=by
 intro L0;induction L0 with
 |nil=>intro _ _ _ h;exact h
 |cons cx r ih=>
  obtain⟨m,k⟩:=cx;intro n acc x h;unfold jF;split
  ·refine ih _ _ x (rE sP ?_);induction x == m with
   |true=>rfl
   |false=>exact h
  ·exact ih _ _ x h
theorem zZ:∀ (names:cT) (n:Nat) (acc:List (ah × aE)) (x:ah),names.lookup x=aa .cell→((jF n names acc).lookup x).isSome:=by
 intro L0;induction L0 with
 |nil=>exact nofun
 |cons cx r ih=>
  obtain⟨m,k⟩:=cx;intro n acc x h;rw[sP]at h;unfold jF;induction hb:x == m with
  |true=>replace h:=iJ (hb▸h);subst h;refine rE (if_pos (show(oz == oz) from rfl)) (aaf r _ _ x (rE sP (rE hb ?_)));rfl
  |false=>
   replace h:=hb▸h;split
   ·exact ih _ _ x h
   ·exact ih _ _ x h
theorem Hj(kf:ah→Option eC):∀ (bs:List (ah × ak)) (m:gy) (x:ah),(∀p∈bs,p.1≠x)→bindL kf bs m x=m x
 | [],_,_,_=>rfl
 | (n,v)::r,m,x,h=>by
  unfold bindL;refine rE (Hj kf r _ x λp hp=>h p (cf _ hp)) ?_;have hx:x≠n:=λe=>h (n,v) bG e.symm;split
  ·simp[hx]
  ·rfl
theorem Hk(kf:ah→Option eC):∀ (bs:List (ah × ak)) (m:gy) (x:ah),(∀p∈bs,p.1≠x)→bindC kf bs m x=m x
 | [],_,_,_=>rfl
 | (n,v)::r,m,x,h=>by
  unfold bindC;refine rE (Hk kf r _ x λp hp=>h p (cf _ hp)) ?_;have hx:x≠n:=λe=>h (n,v) bG e.symm;split
  ·rfl
  ·simp[hx]
theorem aag:∀ (ρ:aM) (i j:Nat) (sl:bA),get (ρ++[(j,sl)]) i=match get ρ i with|some s=>aa s|none=>cond (az j i) (aa sl) af:=by
 intro L0;induction L0 with
 |nil=>intro i j sl;exact rfl
 |cons cx r ih=>
  obtain⟨k,t⟩:=cx;intro i j sl;show get ((k,t)::(r++[(j,sl)])) i=_;show cond (az k i) (aa t) (get (r++[(j,sl)]) i)=match cond (az k i) (aa t) (get r i)with|some s=>aa s|none=>cond (az j i) (aa sl) af
  induction az k i with
  |true=>rfl
  |false=>exact ih i j sl
noncomputable def qf:List Nat→List bA→aM→Option aM
 | [],xs,ρ=>match xs with| []=>aa ρ|_::_=>af
 |i::is,xs,ρ=>match xs with| []=>af|x::xs=>qf is xs (ρ++[(i,x)])
theorem Ow:∀ {is:ax}{ds:List D}{ρ₀:aM},oM is ds ρ₀=aa ρ→qf is (ds.map .val) ρ₀=aa ρ:=by
 intro is;induction is with
 |nil=>intro ds ρ₀ h;induction ds using bj with|nil=>exact h|cons=>exact zN h
 |cons i is ih=>intro ds ρ₀ h;induction ds using bj with|nil=>exact zN h|cons d ds=>exact ih (show oM is ds _=_ from h)
theorem aah:∀ {is:ax}{bX:List bA}{ρ₀:aM},qf is bX ρ₀=aa ρ→qf (is++[i]) (bX++[sl]) ρ₀=aa (ρ++[(i,sl)]):=by
 intro is;induction is with
 |nil=>intro bX ρ₀ h;induction bX using bj with|nil=>replace h:=iJ h;subst h;rfl|cons=>exact zN h
 |cons j is ih=>intro bX ρ₀ h;induction bX using bj with|nil=>exact zN h|cons x xs=>exact ih (show qf is xs _=_ from h)
theorem Ox:∀ {l:ax}{q:List Nat × Nat},sX l=aa q→l=q.1++[q.2]:=by
 intro l;induction l with
 |nil=>intro q h;exact zN h
 |cons i r ih=>
  intro q h;replace h:=(Lu ..)▸h;induction e:sX r with
  |none=>
   replace h:=iJ (e▸h);subst h;induction r with
   |nil=>rfl
   |cons j r=>replace e:=(Lu ..)▸e;cases e2:sX r<;>(replace e:=e2▸e;exact zS e)
  |some p=>replace h:=iJ (e▸h);subst h;refine rE (ih e) ?_;rfl
section
variable{K:Kt}{T:dW}{h:aP}
theorem jv.Oy(hU:∀b,UU R B b→U b):∀ {is:ax}{vs:List ak}{ds:List D},is.length=ds.length→aI U h vs ds→jv K B R T hs h is vs (ds.map .val):=by
 intro is;induction is with
 |nil=>intro vs ds hl r;obtain rfl:=wG hl.symm;exact⟨r.sY,rfl⟩
 |cons i is ih=>
  intro vs ds hl r;induction ds using bj with
  |nil=>cases hl
  |cons d ds=>refine cK r.u0 λv vs e9 r1 r2=>?_;subst e9;exact⟨v,vs,_,_,rfl,rfl,r1.mono (λZ Z Z e=>e) λb Z Z n k=>n (hU b k),ih (yL hl) r2⟩
theorem jv.snoc{v:ak}(x:fE K B R T hs h i v sl):∀ {is:ax}{vs:List ak}{bX:List bA},jv K B R T hs h is vs bX→jv K B R T hs h (is++[i]) (vs++[v]) (bX++[sl]):=by
 intro is;induction is with
 |nil=>intro vs bX r;refine xA r λe9 bC=>?_;subst e9;subst bC;exact⟨_,_,_,_,rfl,rfl,x,rfl,rfl⟩
 |cons j is ih=>intro vs bX r;refine w7 r λv' tH tv Cw e9 bC r1 r2=>?_;subst e9;subst bC;exact⟨_,_,_,_,rfl,rfl,r1,ih r2⟩
theorem jv.len:∀ {is:ax}{vs:List ak}{bX:List bA},jv K B R T hs h is vs bX→vs.length=is.length:=by
 intro is;induction is with
 |nil=>intro vs bX r;refine xA r λe9 bC=>?_;subst e9;subst bC;rfl
 |cons j is ih=>intro vs bX r;refine w7 r λv' tH tv Cw e9 bC r1 r2=>?_;subst e9;subst bC;exact congrArg (· +1) (ih r2)
theorem aai(X:Cx)(kf:ah→Option eC)(hg:get ρ i=aa sl):∀ {ps:List ah}{is:ax}{bX:List bA}{vs:List ak}{ρ₀:aM}{m c:gy},
  ps.map (λx=>aZ x X.names)=is.map aa→qf is bX ρ₀=aa ρ→jv K B R T hs h is vs bX→ps.Nodup→
  get ρ₀ i=aa sl∨∃x v,x∈ps∧aZ x X.names=aa i∧fE K B R T hs h i v sl∧(kf x=aa .local→bindL kf (ps.zip vs) m x=aa v)∧(kf x≠aa .local→bindC kf (ps.zip vs) c x=aa v):=by
 intro ps;induction ps with
 |nil=>
  intro is bX vs ρ₀ m c hm h r _;induction is using bj with
  |cons=>exact zC hm
  |nil=>refine xA r λe9 bC=>?_;subst e9;subst bC;replace h:=iJ h;subst h;exact .inl hg
 |cons p ps ih=>
  intro is bX vs ρ₀ m c hm h r hn;induction is using bj with
  |nil=>exact zD hm
  |cons Oz is=>
  clear hg;refine w7 r ?_;clear r;intro v vs OB bX e9 bC rd B4;subst e9;subst bC;have OC:=jh hm;refine xA (uE.mp hn) λOD OE=>?_;have hp:∀q∈ps.zip vs,q.1≠p:=λq hq e=>OD (e▸(ahT hq).1);rcases ih (ρ₀:=ρ₀++[(Oz,OB)]) (m:=if kf p=aa .local then λy=>if y=p then aa v else m y else m) (c:=if kf p=aa .local then c else λy=>if y=p then aa v else c y) OC.2 (show qf is bX (ρ₀++[(Oz,OB)])=aa ρ from h) B4 OE with h1| ⟨x,v',h1,h2,h3,h5,h6⟩
  ·replace h1:=(aag ..)▸h1;induction hq:get ρ₀ i with
   |some s=>replace h1:=hq▸h1;exact .inl h1
   |none=>
    replace h1:=hq▸h1;refine xA (cj h1) λe1 e2=>?_;clear hq OE OD B4 hn h;replace e2:=iJ e2;subst e2;have e1:=fZ e1;refine .inr ⟨p,v,bG,e1▸OC.1,e1▸rd,λk=>?_,λk=>?_⟩
    ·show bindL kf (ps.zip vs) _ p=_;exact rE (Hj _ _ _ _ hp) (rE (if_pos k) (if_pos rfl))
    ·show bindC kf (ps.zip vs) _ p=_;exact rE (Hk _ _ _ _ hp) (rE (if_neg k) (if_pos rfl))
  ·exact .inr ⟨x,v',cf _ h1,h2,h3,h5,h6⟩
end
theorem OF:∀ {is:ax}{ds:List D}{ρ₀:aM},oM is ds ρ₀=aa ρ→is.length=ds.length:=by
 intro is;induction is with
 |nil=>intro ds ρ₀ h;induction ds using bj with|nil=>rfl|cons=>exact zN h
 |cons i is ih=>intro ds ρ₀ h;induction ds using bj with|nil=>exact zN h|cons d ds=>exact congrArg (· +1) (ih (show oM is ds _=_ from h))
open Classical in
noncomputable def oZ(env:bF)(Rx:dC):dC:=λa=>if dm env a then aa .frame else Rx a
theorem Hl{Rx:dC}(h:dm env a):oZ env Rx a=aa .frame:=if_pos h
theorem tM{Rx:dC}(h:¬dm env a):oZ env Rx a=Rx a:=if_neg h
section
variable{K:Kt}
structure Handed(K:Kt)(U B:aY)(Rx:dC)(T:dW)(hs:Hs)(s:ay):Prop where
 u:∀b,U b↔UU Rx B b
 bd:∀b,B b→Rx b=af
 bH:br K U s.heap
 ub:UB U s
 tabs:∀j t,hs[j]? =aa t→dO K.hc U s.heap (T j).1 (T j).2 t∧Rx (T j).2=aa (.tab j)
theorem entry{Rx:dC}{T:dW}{fn:Fn}{ps:List ah}{bX:List bA}
  (F:gj K.X fd fn) (hm:ps.map (λx=>aZ x K.X.names)=fn.params.map aa) (hn:ps.Nodup) (hk:∀x∈ps,fd.scope.names.lookup x=aa .local∨fd.scope.names.lookup x=aa .cell)
  (H:Handed K U B Rx T hs s) (r:jv K B Rx T hs s.heap fn.params vs bX) (hb:qf fn.params bX []=aa ρ)
  (outs:∀e l,K.me=aa (e,l)→j6 fd s.heap.objs.size a=e∧∀p∈l,p.1.scope.kind=.function∧p.1.frame=aa p.1.locals∧Rx p.1.locals=aa .frame∧(∀vs,p.2≠.fields vs)∧∃o,s.heap.get? p.1.locals=aa o∧o.data=p.2)
  (x:InCallC s (j6 fd s.heap.objs.size a).locals (bindL (j6 fd s.heap.objs.size a).kindOf (ps.zip vs) λZ=>af) (j6 fd s.heap.objs.size a).cells
    (bindC (j6 fd s.heap.objs.size a).kindOf (ps.zip vs) λZ=>af) ai):
  Ext s ai∧aN K B (oZ (j6 fd s.heap.objs.size a) Rx) T (j6 fd s.heap.objs.size a) hs ρ ai∧∀b,dm (j6 fd s.heap.objs.size a) b→s.heap.get? b=af:=by
 let env:=j6 fd s.heap.objs.size a
 have hE:Ext s ai:=lD x.toInCall.same λh tk e=>⟨x.toInCall.keep,by refine rE e ?_;exact λZ Z q=>q,by refine rE e ?_;exact λq=>q,by exact rE e rfl⟩
 have cC:∀b,dm env b→s.heap.get? b=af:=λb h=>by
  suffices hle:s.heap.objs.size≤b by
   induction hq:s.heap.get? b with
   |none=>rfl
   |some o=>exact absurd (jD hq) (pA.mpr hle)
  rcases h with h| ⟨y,h⟩
  ·exact rE h x.toInCall.fresh
  ·exact d4 (jj x.toInCall.fresh (x.above y b (mem_of_lookup h)))
 have Cz:∀b,dm env b→∃o,ai.heap.get? b=aa o:=λb h=>by
  rcases h with h| ⟨y,h⟩
  ·exact rE h (fy x.toInCall.ns λo Z Z e Z=>⟨o,e⟩)
  ·exact aD (x.cell y b h) λo e Z=>⟨o,e⟩
 have s8:∀b,UU Rx B b→¬dm env b:=λb h k=>by exact xE (H.ub b ((H.u b).mpr h)) λo e=>zN (cC b k▸e)
 have hR:∀b r,Rx b=aa r→oZ env Rx b=aa r:=λb r h=>(tM (s8 b (.inl (gF h)))).trans h;have tx:∀b (o:fJ),s.heap.get? b=aa o→¬UU Rx B b→¬UU (oZ env Rx) B b:=λb o e n k=>by
  by_cases q:dm env b
  ·exact zN (cC b q▸e)
  ·rcases k with k|k
   ·replace k:=tM q▸k;exact n (.inl k)
   ·exact n (.inr k)
 have xG:∀b (o:fJ),s.heap.get? b=aa o→¬U b→¬UU (oZ env Rx) B b:=λb o e n=>tx b o e λk=>n ((H.u b).mpr k);have X:Kept (λZ=>True) B B Rx (oZ env Rx) T T hs hs s ai:=⟨λb o Z e=>hE.keep b o e,tx,λb r Z h=>⟨hR b r h,λo e=>hE.keep b o e⟩,λj t e=>⟨⟨t,e⟩,rfl⟩⟩;have j9:∀b (o:fJ),¬U b→s.heap.get? b=aa o→ai.heap.get? b=aa o:=λb o Z e=>hE.keep b o e;have fU:∀b,dm env b→UU (oZ env Rx) B b:=λb h=>.inl (gF (Hl h));refine⟨hE,⟨H.bH.mono j9 xG,λb h=>?_,F.kind,F.gl,F.bi,⟨⟨fU _ (.inl rfl),_,x.toInCall.ns⟩,λy c e=>⟨fU _ (.inr ⟨y,e⟩),_,x.cell y c e⟩,λy z c e1 e2=>UE x.apart (mem_of_lookup e1) (mem_of_lookup e2),λy h=>?_⟩,λb h=>(tM (s8 b (.inr h))).trans (H.bd b h),λb h=>Hl h,λy i sl e1 e2 e3=>?_,λj t e=>?_,λe l h=>?_⟩,cC⟩
 ·by_cases q:dm env b
  ·exact Cz b q
  ·obtain⟨o,e⟩:=H.ub b ((H.u b).mpr (h.imp (λk=>by replace k:=tM q▸k;exact k) id));exact⟨o,hE.keep b o e⟩
 ·have hc:fd.scope.names.lookup y=aa .cell:=by
   rcases h with h|h
   ·exact h
   ·have:=fk.mp F.Ov (y,.free) (mem_of_lookup h);exact zF this
  have:=zZ fd.scope.names (s.heap.objs.size+1) [] y hc;exact xE (Ek.mp this) λc e=>⟨c,e⟩
 ·rcases aai K.X env.kindOf (m:=λZ=>af) (c:=λZ=>af) e2 hm hb r hn with h1| ⟨z,v,h1,h2,h3,h5,h6⟩
  ·exact zN h1
  ·obtain rfl:=tu e1 h2;refine⟨v,?_,h3.kept X λZ Z=>trivial⟩;rcases hk y h1 with k|k
   ·exact .inl ⟨k,_,x.toInCall.ns,h5 k⟩
   ·have hc:=zZ fd.scope.names (s.heap.objs.size+1) [] y k;refine xE (Ek.mp hc) λc e=>.inr ⟨.inl k,c,e,?_⟩;have:=x.cell y c e;rwa [h6 (λq=>by rw[show env.kindOf y=aa .cell from k]at q;cases q)]at this
 ·exact xA (H.tabs j t e) λp q=>⟨p.mono j9 xG λvs n e=>hE.keep _ _ e,hR _ _ q⟩
 ·refine xA (outs e l h) λh1 h2=>⟨h1,rfl,λp hp=>?_⟩;obtain⟨q1,q2,q3,q4,o,q5,q6⟩:=h2 p hp;exact⟨q1,q2,hR _ _ q3,s8 _ (.inl (gF q3)),q4,o,hE.keep _ _ q5,q6⟩
end
section
variable(K:Kt)(A:dU)
structure vF:Prop where
 ok:bU K
 jH:∀U s v t x,br K U s.heap→UB U s→iW K.hc U s.heap v t→keyOk x→qY t→tm K.w A U s v pN [.str x] (.list (gc t (sL x)))
 oI:∀U s v t,br K U s.heap→UB U s→iW K.hc U s.heap v t→t.length≤1000000→zv K.w A U s v nH [] λs r=>pR K.w A U s r (t.map λp=>.tuple [.str p.1,.str p.2])
 mh:∀U s v t,br K U s.heap→UB U s→iW K.hc U s.heap v t→t.length≤1000000→tm K.w A U s v rz [] (.list (t.map λp=>.str p.1))
 g:pZ K A
 n:xD K A
 a:zU K A
noncomputable def Hm(C:ma):Prop:=∀f args d U s a fd vs,C f args=aa (d,ae)→K.fo f=aa (a,fd)→br K U s.heap→UB U s→aI U s.heap vs args→Gv K.w A U s (yD (.ref a) vs) d
end
section
variable{K:Kt}{m c:ax}{me:Option (bF × List (bF × pB))}
theorem br.wm{h:aP}(g:br K U h):br (K.wm m c me) U h:=⟨g.ng,g.ug,g.nb,g.ub,g.fo,g.tok,g.lim,g.ul,g.iV⟩
theorem br.tN{h:aP}(g:br (K.wm m c me) U h):br K U h:=⟨g.ng,g.ug,g.nb,g.ub,g.fo,g.tok,g.lim,g.ul,g.iV⟩
theorem jv.wm{T:dW}{h:aP}:∀ {is:ax}{vs:List ak}{bX:List bA},jv K B R T hs h is vs bX→jv (K.wm m c me) B R T hs h is vs bX:=by
 intro is;induction is with
 |nil=>exact λr=>r
 |cons i is ih=>intro vs bX r;refine w7 r λv vs sl bX e1 e2 r1 r2=>?_;exact⟨v,vs,sl,bX,e1,e2,by induction sl<;>exact r1,ih r2⟩
theorem vF.Hn(B:vF K A)(hr:∃n,bW A n)(hC:Hm K A C)
  (hH:∀g,CH=aa g→(∃e l,me=aa (e,l)∧A.frames=aa (e::l.map (·.1)))∧zX (K.wm m c me) g A):jQ (K.wm m c me) C CH A where
 o:=⟨⟨B.ok.nm,B.ok.nf,B.ok.nl,B.ok.fm,B.ok.gi,B.ok.len,B.ok.str,B.ok.int,B.ok.sum,B.ok.sorted,B.ok.ve,B.ok.u9,B.ok.range⟩,hr,λf args d U s a fd vs h1 h2 g=>hC f args d U s a fd vs h1 h2 g.tN,
  λU s v t x g=>B.jH U s v t x g.tN,λU s v t g=>B.oI U s v t g.tN,λU s v t g=>B.mh U s v t g.tN⟩
 g:=⟨λU s x t g=>B.g.gen U s x t g.tN⟩
 n:=⟨B.n.rO,λU s p g=>B.n.jm U s p g.tN⟩
 a:=⟨λU s a l t g=>B.a.G8 U s a l t g.tN⟩
 h:=hH
noncomputable def OI(f:jk):ak:=match f with| .ret v=>v|_=>.none
theorem OJ{Rx:dC}{T:dW}{f:Nat}{fn:Fn}{bX:List bA}{fl:Fl}
  (F:gj K.X fd fn) (mJ:K.fo f=aa (a,fd)) (hr:A.depth<iS) (H:Handed K U B Rx T hs s) (r:jv K B Rx T hs s.heap fn.params vs bX) (hb:qf fn.params bX []=aa ρ)
  (outs:∀e l,me=aa (e,l)→j6 fd s.heap.objs.size a=e∧∀p∈l,p.1.scope.kind=.function∧p.1.frame=aa p.1.locals∧Rx p.1.locals=aa .frame∧(∀vs,p.2≠.fields vs)∧∃o,s.heap.get? p.1.locals=aa o∧o.data=p.2)
  (O:∀m c,jQ (K.wm m c me) C CH (A.deeper (j6 fd s.heap.objs.size a))) (hex:cb K.tk C CH fn.body ρ hs=aa (fl,ae)) {Q E:aW}
  (hQ:∀env ai dq s' m c,env=j6 fd s.heap.objs.size a→Ext s ai→(∀b,dm env b→s.heap.get? b=af)→Left (K.wm m c me) B (oZ env Rx) T env hs ai fl dq s'→Q (OI dq) s'):
  ar (aw prog K.w) A (yD (.ref a) vs) Q E s:=by
 refine yZ F.ex λb ps m c tC hc gG hm hn hk=>gA (H.bH.fo f a fd mJ) λo ho hu hd z0=>?_;have hl:vs.length=ps.length:=by refine rE r.len ?_;have:=congrArg Ua hm;replace this:=(aQ ..)▸(aQ ..)▸this;exact this.symm
 have lN:∀x∈ps.zip vs,fd.scope.names.lookup x.1=aa .local∨(fd.scope.names.lookup x.1=aa .cell∧((jF (s.heap.objs.size+1) fd.scope.names []).lookup x.1).isSome):=λx hx=>by
  rcases hk x.1 (ahT hx).1 with k|k
  ·exact .inl k
  ·exact .inr ⟨k,zZ _ _ _ _ k⟩
 refine EE (codeAny_call_cells hr ho hd H.bH.lim z0.MD tC (gG vs hl) F.gE lN (λai x=>?_) F.co F.gen F.kind);obtain⟨hE,I,cC⟩:=entry (K:=K.wm m c me) ⟨⟨b,ps,m,c,tC,hc,gG,hm,hn,hk⟩,F.gE,F.gl,F.bi,F.Ov,F.co,F.gen,F.kind⟩ hm hn hk ⟨H.u,H.bd,H.bH.wm,H.ub,H.tabs⟩ r.wm hb outs x;have tG:dg fd.scope.names (j6 fd s.heap.objs.size a):=λy k e=>.inl (by replace e:=(vw ..)▸e;exact e);exact aae (O m c) b hc B _ T _ hs ρ ai fl tG I hex _ _ λdq s' L=>hQ _ ai dq s' m c rfl hE cC L
theorem fnOf{fns:Nat→Option Fn}{C:uW}{f:Nat}{args:List D}(h:BA tk fns C CH f args=aa (d,ae)):
  ∃fn ρ fl,fns f=aa fn∧oM fn.params args []=aa ρ∧cb tk C CH fn.body ρ []=aa (fl,ae)∧match fl with| .ret d' _=>d'=d| .next _ _=>d=.none:=by
 refine oE h λfn tJ h1=>oE h1 λρ hb h2=>wE h2 λfl hex fF=>⟨fn,ρ,fl,tJ,hb,hex,?_⟩;induction fl with
 |next=>exact(W.bp fF).symm
 |ret=>exact W.bp fF
theorem OK{fns:Nat→Option Fn}(hF:∀f a fd fn,K.fo f=aa (a,fd)→fns f=aa fn→gj K.X fd fn)(hr:A.depth<iS){C:uW}{f:Nat}{args:List D}{mee:bF→Option (bF × List (bF × pB))}
  (lQ:∀e e' l,mee e=aa (e',l)→e=e'∧l=[]) (O:∀env m c,jQ (K.wm m c (mee env)) C CH (A.deeper env))
  (h:BA K.tk fns C CH f args=aa (d,ae)) (mJ:K.fo f=aa (a,fd)) (g:br K U s.heap) (ub:UB U s) (r:aI U s.heap vs args):Gv K.w A U s (yD (.ref a) vs) d:=by
 intro Q E hQ;refine fA (fnOf h) λfn ρ fl tJ hb hex fF=>?_;have hU:∀b,U b↔UU (λZ=>af) U b:=λb=>⟨.inr,λk=>k.elim (λk=>(k rfl).elim) id⟩;refine OJ (me:=mee (j6 fd s.heap.objs.size a)) (T:=λZ=>(0,0)) (hF f a fd fn mJ tJ) mJ hr ⟨hU,λZ Z=>rfl,g,ub,λZ Z h=>(zN h)⟩ (.Oy (λb k=>(hU b).mpr k) (OF hb) r) (Ow hb) (λe l q=>let⟨h1,h2⟩:=lQ _ e l q;⟨h1,by refine rE h2 ?_;exact λZ h=>nomatch h⟩) (O _) hex λenv ai dq s' m c he hE cC L=>?_;refine cK L ?_;clear L;intro R' T' st _ L;have hS:Ext s s':=st.mv.ext hE (λb h=>by
  by_cases q:dm env b
  ·exact cC b q
  ·exact(h (tM q)).elim) λZ h=>h.elim
 have Ho:∀ {v},Rd (UU R' U) s'.heap v d→Rd U s'.heap v d:=λq=>q.mono (λZ Z Z e=>e) λZ Z Z n k=>n (.inr k);induction fl with
 |next ρ' hs'=>refine xA L λe Z=>?_;clear h st cC hE he;subst e;subst fF;exact hQ _ s' hS .none
 |ret d' hs'=>refine j8 L ?_;clear L;intro v e rd _;clear h st cC hE he;subst e;subst fF;exact hQ _ s' hS (Ho rd)
theorem OL{fns:Nat→Option Fn}(HB:∀A,(∃n,bW A (n+10))→vF K A)(hF:∀f a fd fn,K.fo f=aa (a,fd)→fns f=aa fn→gj K.X fd fn):∀ (n:Nat) (A:dU),bW A (n+10)→Hm K A (run K.tk fns n):=by
 intro n;induction n with
 |zero=>exact λZ Z Z Z Z Z Z Z Z Z h=>nomatch h
 |succ n ih=>
  intro A hr f args d U s a fd vs h mJ g ub r;have lR:∀env,bW (A.deeper env) (n+10):=λenv=>bW.deeper (n:=n+10) ((show n+1+10=n+10+1 by lia)▸hr);have O:∀env m c,jQ (K.wm m c af) (run K.tk fns n) af (A.deeper env):=λenv m c=>(HB _ ⟨n,lR env⟩).Hn ⟨_,lR env⟩ (ih _ (lR env)) λZ e=>nomatch e
  have hd:A.depth<iS:=by have:=hr.depth;lia
  exact OK (mee:=λZ=>af) hF hd (λZ Z Z e=>nomatch e) O h mJ g ub r
theorem aaj{fns:Nat→Option Fn}(HB:∀A,(∃n,bW A (n+10))→vF K A)(hF:∀f a fd fn,K.fo f=aa (a,fd)→fns f=aa fn→gj K.X fd fn)(hr:bW A (n+11)){Hp:bF}{l:List (bF × pB)}(lQ:me=aa (Hp,l))(cC:A.frames=aa (Hp::l.map (·.1))):
  zX (K.wm m c me) (qZ K.tk fns (run K.tk fns n)) A where
 qW:=λB R T env hs ρ₀ s j t args vs d t' f a fd I ht h mJ r Q E hQ=>by
  refine oE h λfn tJ h1=>oE h1 λq hq h2=>oE h2 λρ hb h3=>wE h3 λfl hex fF=>?_;clear h h1 h2 h3;have F:=hF f a fd fn mJ tJ;clear tJ;obtain rfl:env=Hp:=(I.outs _ _ lQ).1;have lR:∀e,bW (A.deeper e) (n+10):=λe=>bW.deeper (n:=n+10) hr;refine xA (I.tabs j t ht) λhT hR=>?_;obtain⟨oL,zb,vG⟩:=(I.qd (l:=l) lQ (a:=env.locals) bG).2;have bQ:(T j).2∉iI env l:=λk=>by have:=(I.qd (l:=l) lQ k).1;replace this:=hR▸this;cases this
  obtain⟨Rx,Hq⟩:∃Rx:dC,Rx=λb=>if b=(T j).2 then aa (.tab 0)else if b∈iI env l then aa .frame else af:=⟨_,rfl⟩
  have r1:Rx (T j).2=aa (.tab 0):=rE Hq (if_pos rfl)
  have r2:∀b,b∈iI env l→Rx b=aa .frame:=λb k=>by refine rE Hq ?_;exact(if_neg λz:b=(T j).2=>bQ (rS z k)).trans (if_pos k)
  have r3:∀b,b≠(T j).2→b∉iI env l→Rx b=af:=λb k1 k2=>by refine rE Hq ?_;exact(if_neg k1).trans (if_neg k2)
  obtain⟨B',CJ⟩:∃B':aY,∀b,B' b↔(UU R B b∧b≠(T j).2∧b∉iI env l):=⟨_,λZ=>Ba⟩;have hU:∀b,UU R B b↔UU Rx B' b:=λb=>by
   by_cases k1:b=(T j).2
   ·exact⟨λZ=>.inl (gF (k1▸r1)),λZ=>.inl (gF (k1▸hR))⟩
   ·by_cases k2:b∈iI env l
    ·exact⟨λZ=>.inl (gF (r2 b k2)),λZ=>.inl (gF (I.qd (l:=l) lQ k2).1)⟩
    ·exact⟨λk=>.inr ((CJ b).mpr ⟨k,k1,k2⟩),λk=>k.elim (λk=>(k (r3 b k1 k2)).elim) λk=>((CJ b).mp k).1⟩
  have H:Handed K (UU R B) B' Rx (λZ=>T j) [t] s:=⟨hU,λb k=>let⟨_,k1,k2⟩:=(CJ b).mp k;r3 b k1 k2,I.bH.tN,I.ub,λi u e=>by
   induction i using lq with
   |zero=>replace e:=iJ e;subst e;exact⟨hT,r1⟩
   |succ i=>exact zN e⟩
  have hd:A.depth<iS:=by have:=hr.depth;lia
  have sv:jv K B' Rx (λZ=>T j) [t] s.heap fn.params (vs++[.ref (T j).1]) (args.map .val++[.cU 0]):=by have x:fE K B' Rx (λZ=>T j) [t] s.heap q.2 (.ref (T j).1) (.cU 0):=⟨⟨t,rfl⟩,rfl⟩;exact rE (Ox hq) (jv.snoc x (.Oy (λb k=>(hU b).mpr k) (OF hb) r))
  have bs:qf fn.params (args.map .val++[.cU 0]) []=aa (ρ++[(q.2,.cU 0)]):=rE (Ox hq) (aah (Ow hb))
  have noH:∀ {K:Kt}{A:dU},zX K (λZ Z Z=>af) A:=⟨λZ Z Z Z Z Z Z Z Z Z Z Z Z Z Z Z Z Z h=>nomatch h⟩;have O:∀m c,jQ (K.wm m c (aa (j6 fd s.heap.objs.size a,(env,oL.data)::l))) (run K.tk fns n) (aa λZ Z Z=>af) (A.deeper (j6 fd s.heap.objs.size a)):=λm c=>
   (HB _ ⟨n,lR _⟩).Hn ⟨_,lR _⟩ (OL HB hF n _ (lR _)) λg e=>⟨⟨_,_,rfl,by show A.frames.map _=_;refine rE cC ?_;rfl⟩,by replace e:=iJ e;subst e;exact noH⟩
  refine OJ (me:=aa (j6 fd s.heap.objs.size a,(env,oL.data)::l)) F mJ hd H sv bs (λe l' q=>?_) O hex λOM ai dq s' m' c' he hE aak L=>?_
  ·replace q:=iJ q;refine iP q λe1 e2=>?_;clear q;subst e1;subst e2;refine⟨rfl,λp hp=>?_⟩;rcases bE.mp hp with rfl|hp
   ·exact⟨I.kind,(I.outs _ _ lQ).2.1,r2 _ bG,vG,oL,zb,rfl⟩
   ·obtain⟨q1,q2,q3,q4,q5,q6⟩:=(I.outs _ _ lQ).2.2 p hp;exact⟨q1,q2,r2 _ (cf _ (fq.mpr ⟨p,hp,rfl⟩)),q5,q6⟩
  ·refine cK L ?_;clear L;intro R' T' st F8 L;have hL:∃v ρ' hs',OI dq=v∧aN (K.wm m' c' (aa (j6 fd s.heap.objs.size a,(env,oL.data)::l))) B' R' T' OM hs' ρ' s'∧hs'[0]? =aa t'∧Rd (UU R' B') s'.heap v d:=by
    induction fl with
    |next ρ' hs'=>refine mr L λe9 Z I'=>?_;subst e9;refine oE fF ?_;clear fF;intro u hu fF;cases W.bp fF;exact⟨_,ρ',hs',rfl,I',hu,.none⟩
    |ret d' hs'=>refine LA L ?_;clear L;intro v e9 rd _ ρ' I';subst e9;refine oE fF ?_;clear fF;intro u hu fF;cases W.bp fF;exact⟨_,ρ',hs',rfl,I',hu,rd⟩
   refine fA hL λv ρ' hs' ev I' h0 rd=>rE ev ?_;have live:∀b (o:fJ),s.heap.get? b=aa o→¬dm OM b:=λb o e k=>by replace e:=aak b k▸e;exact zN e
   have keep:∀b (o:fJ),b≠(T j).2→b∉iI env l→s.heap.get? b=aa o→s'.heap.get? b=aa o:=λb o k1 k2 e=>st.mv.keep b o (λk=>k ((tM (live b o e)).trans (r3 b k1 k2))) (hE.keep b o e);refine xA (I'.tabs 0 t' h0) λxC OO=>?_;rw[F8 0 Nat.one_pos]at xC OO;have outs:=(I'.outs _ _ rfl).2.2;have dat:∀b,b∈iI env l→R' b=aa .frame∧∀o,s.heap.get? b=aa o→∃o',s'.heap.get? b=aa o'∧o'.data=o.data:=λb k=>by
    rcases bE.mp k with rfl|k
    ·obtain⟨_,_,q3,_,_,o',q6,q7⟩:=outs (env,oL.data) bG;exact⟨q3,λo e=>by replace e:=zb▸e;replace e:=iJ e;subst e;exact⟨o',q6,q7⟩⟩
    ·refine aD (fq.mp k) λp hp e9=>?_;subst e9;obtain⟨_,_,q3,_,_,o',q6,q7⟩:=outs p (cf _ hp);obtain⟨_,_,_,_,_,o2,p6,p7⟩:=(I.outs _ _ lQ).2.2 p hp;exact⟨q3,λo e=>by replace e:=p6▸e;replace e:=iJ e;subst e;exact⟨o',q6,q7.trans p7.symm⟩⟩
   have xG:∀b,UU R B b→UU R' B' b:=λb k=>by
    by_cases k1:b=(T j).2
    ·exact .inl (gF (k1▸OO))
    ·by_cases k2:b∈iI env l
     ·exact .inl (gF (dat b k2).1)
     ·exact .inr ((CJ b).mpr ⟨k,k1,k2⟩)
   have nU:∀ {b r},R b=aa r→r≠.frame→b∉iI env l:=λk1 k2 k3=>k2 (ir (k1.symm.trans (I.qd (l:=l) lQ k3).1));have X:Kept (λr=>r≠.frame∧r≠.tab j) B B R R T T hs (setAt t' j hs) s s':=⟨λb o k e=>keep b o (λz=>k (.inl (gF (z▸hR)))) (λz=>k (.inl (gF (I.qd (l:=l) lQ z).1))) e,λZ Z Z k=>k,λb r k h=>⟨h,λo e=>keep b o (λz=>k.2 (ir ((z▸h).symm.trans hR))) (nU h k.1) e⟩,λi u e=>⟨by
    by_cases z:i=j
    ·exact⟨t',by refine rE z ?_;exact CB t' ht⟩
    ·exact⟨u,(CC t' z).trans e⟩,rfl⟩⟩
   have Cq:∀b,R b=aa .frame→R b=aa .frame∧∀o,s.heap.get? b=aa o→∃o',s'.heap.get? b=aa o'∧o'.data=o.data:=λb k=>⟨k,λo e=>by
    by_cases k2:b∈iI env l
    ·exact(dat b k2).2 o e
    ·exact⟨o,keep b o (λz=>by replace k:=z▸k;replace k:=hR▸k;cases k) k2 e,rfl⟩⟩
   have J:aN (K.wm m c me) B R T env (setAt t' j hs) ρ₀ s':=by
    refine I.GP X Cq (λb k=>?_) I.bd (λy i sl e1 e2 e3=>let⟨v,p,q⟩:=I.vars y i sl e1 e2 e3;⟨v,p,q.kept X λZ Z=>⟨nofun,nofun⟩⟩) λi u e=>?_
    ·exact xE (I'.ub b (xG b k)) λo e=>⟨o,e⟩
    ·by_cases z:i=j
     ·subst z;replace e:=iJ (CB t' ht▸e);subst e;exact⟨xC.mono (λZ Z Z e=>e) (λb Z Z k z=>k (xG b z)) λZ Z e=>e,hR⟩
     ·replace e:=CC t' z▸e;exact xA (I.tabs i u e) λp q=>⟨p.mono X.keep X.hu λZ Z=>(X.role _ (.tab i) ⟨nofun,λy=>z (by cases y;rfl)⟩ q).2 _,q⟩
   refine hQ v s' J ⟨λZ k=>.inl k,?_⟩ (rd.mono (λZ Z Z e=>e) λb Z Z k z=>k (xG b z));exact⟨λb o k e=>keep b o (λz=>k (gF (z▸hR))) (λz=>k (gF (I.qd (l:=l) lQ z).1)) e,λg x Z e=>st.mv.gens g x (λz=>z.elim) (hE.gens g x e),λk=>st.mv.bare (hE.bare k),st.mv.os.trans hE.os⟩
theorem aal{fns:Nat→Option Fn}(HB:∀A,(∃n,bW A (n+10))→vF K A)(hF:∀f a fd fn,K.fo f=aa (a,fd)→fns f=aa fn→gj K.X fd fn)(hr:bW A (n+12))(hf:A.frames=aa []):Hm K A (E3 K.tk fns n):=λf args d U s a fd vs h mJ g ub r=>by
 have lR:∀e,bW (A.deeper e) (n+11):=λe=>bW.deeper (n:=n+11) hr;have Hr:∀e,bW (A.deeper e) (n+10):=λe=>⟨(lR e).handled,by have:=(lR e).depth;lia,by have:=(lR e).units;lia⟩;have cC:∀e,(A.deeper e).frames=aa [e]:=λe=>by show A.frames.map _=_;refine rE hf ?_;rfl
 exact OK (mee:=λe=>aa (e,[])) hF (by have:=hr.depth;lia) (λe e' l q=>by replace q:=iJ q;refine iP q λe1 e2=>?_;clear q;subst e1;subst e2;exact⟨rfl,rfl⟩) (λenv m c=>(HB _ ⟨n,Hr env⟩).Hn ⟨_,Hr env⟩ (OL HB hF n _ (Hr env)) λg e=>⟨⟨env,[],rfl,cC env⟩,by replace e:=iJ e;subst e;exact aaj HB hF (lR env) rfl (cC env)⟩) h mJ g ub r
end
section
variable{w:cM}{R:GenEnd}{Y:Protocol}{c:Code}{fs:List Frame}
 {K:jk→cN Fin}{H:ak→cN Fin}{gd:Bool→Bool}{lv:List ak→List ak}
theorem tO{M:sQ}{m:cN α}{Q:α→ay→Prop}(h:ar M A m Q (λZ Z=>False) s):ar M A m Q E s:=
 ib h (λZ Z q=>q) λZ Z q=>q.elim
theorem CK(h:ar (aw prog w) (A.over c fs) (exec st env) (λf s'=>iw (aw prog w) A R Y n aT c (K f) fs s') (λZ Z=>False) s):
  iw (aw prog w) A R Y n aT c ((exec st env).wrap K H gd lv) fs s:=wR (tO h)
theorem Ht{t:au}{b o:List a9}(h:ar (aw prog w) (A.over c fs) (isTrue t env (eval t env)) (λx s'=>iw (aw prog w) A R Y n aT c ((if x then oA b env else oA o env).wrap K H gd lv) fs s') (λZ Z=>False) s):
  iw (aw prog w) A R Y n aT c ((exec (.If t b o pos) env).wrap K H gd lv) fs s:=by
 show iw _ A R Y n aT c (.at pos λZ=>(isTrue t env (eval t env) >>= λx=>if x then oA b env else oA o env).wrap K H gd lv) fs s;refine seg_at (rE (wU ..) (rE (wV ..) ?_));exact wR (tO h)
theorem aam{t:au}(hs:∀x,uF it env x=pure x)
  (h:ar (aw prog w) (A.over c fs) (eval it env) (λx ai=>ar (aw prog w) (A.over c fs) (pyIter x) (λiv av=>∀p (K':wH→cN Fin),K' (.ok .next)=K .next→
   iw (aw prog w) A R Y n aT (.forLoop t iv body [] env) ((aw prog w).den (.forLoop t iv body [] env)) (.ret K' af (gd ag) (lv []) c p []::fs) av) (λZ Z=>False) ai) (λZ Z=>False) s):
  iw (aw prog w) A R Y n aT c ((exec (.For t it body [] pos) env).wrap K H gd lv) fs s:=by
 show iw _ A R Y n aT c (.at pos λZ=>(eval it env >>= λx=>uF it env x >>= λx=>oy it.pos >>= λZ=>holding [x] (pyIter x) >>= λiv=>runOwn (.forLoop t iv body [] env) env).wrap K H gd lv) fs s;refine seg_at (rE (wU ..) (rE (wV ..) ?_));refine wR (tO (ib h (λx ai h₁=>?_) λZ Z q=>q));refine rE (hs x) (rE (show(pure x >>= λx=>oy it.pos >>= λZ=>holding [x] (pyIter x) >>= λiv=>runOwn (.forLoop t iv body [] env) env:cN jk)=(oy it.pos >>= λZ=>holding [x] (pyIter x) >>= λiv=>runOwn (.forLoop t iv body [] env) env)from rfl) ?_);show iw _ A R Y n aT c (.at it.pos λZ=>(holding [x] (pyIter x) >>= λiv=>runOwn (.forLoop t iv body [] env) env).wrap K H gd lv) fs ai;refine seg_at (rE (wU ..) (rE (wV ..) ?_));refine wR (tO (ji (ib h₁ (λiv av ey=>?_) λZ Z q=>q)));exact seg_call λp=>ey p _ rfl
theorem OP{t:au}{iv:ak}
  (h:ar (aw prog w) (A.over (.forLoop t iv body [] env) fs) (pyNext iv) (λr ai=>match r with
   |none=>iw (aw prog w) A R Y n aT (.forLoop t iv body [] env) (.pure (.again (.block [] env))) fs ai
   |some v=>ar (aw prog w) (A.over (.forLoop t iv body [] env) fs) (A7 t iv v) (λZ av=>ar (aw prog w) (A.over (.forLoop t iv body [] env) fs) (assign t env v) (λZ aR=>
     ∀H':ak→cN Fin,iw (aw prog w) A R Y n aT (.forLoop t iv body [] env) ((oA body env).wrap (λf=>match f with
      | .next| .cont=>.pure (.again (.forLoop t iv body [] env))
      | .brk=>.pure (.done .next)
      | .ret v=>.pure (.done (.ret v))) H' id id) fs aR) (λZ Z=>False) av) (λZ Z=>False) ai) (λZ Z=>False) s):
  iw (aw prog w) A R Y n aT (.forLoop t iv body [] env) ((aw prog w).den (.forLoop t iv body [] env)) fs s:=by
 show iw _ A R Y n aT _ ((forTurn t iv body [] env).onRaise (λx=>do noteFrame x env;theTreesLotGoes x)) fs s;unfold forTurn;refine rE (cN.onRaise_eq_wrap ..) (rE (wU ..) (rE (wV ..) ?_));refine wR (kJ ?_);dsimp only;refine rE (wU ..) (rE (wV ..) ?_);refine wR (tO (wpAny_onRaise (ib h (λr ai h₁=>?_) λZ Z q=>q.elim)));induction r with
 |none=>exact h₁
 |some v=>
  dsimp only at h₁ ⊢;refine rE (wU ..) (rE (wV ..) ?_);refine wR (tO (ib h₁ (λZ av ey=>?_) λZ Z q=>q));refine rE (wU ..) (rE (wV ..) ?_);refine wR (tO (ib ey (λZ aR kY=>?_) λZ Z q=>q));refine rE (wU ..) (rE (wV ..) ?_);refine rE (cN.wrap_congr (oA body env) _ _ (K':=λf=>match f with
      | .next| .cont=>.pure (.again (.forLoop t iv body [] env))
      | .brk=>.pure (.done .next)
      | .ret v=>.pure (.done (.ret v))) (λf=>by induction f<;>rfl) (λe=>rfl)) ?_
  exact kY _
theorem aan{t:au}{iv:ak}{K':wH→cN Fin}{h g l c₁ p kp}(hk:iw (aw prog w) A R Y n aT c₁ (K' (.ok .next)) fs s):
  iw (aw prog w) A R Y n aT (.forLoop t iv body [] env) (.pure (.again (.block [] env))) (.ret K' h g l c₁ p kp::fs) s:=by
 exact seg_again rfl (seg_leaf (.ok .next) hk)
end
section
variable{w:cM}
theorem OQ{g:Nat}{gs:uq}{P:Nat→ay→ay→Prop}{Y:Protocol}{Q:Option ak→ay→Prop}(hh:A.handled=af)(hl:s.heap.NoLimit)(vH:A.depth<iS)
  (hg:s.heap.IsGen a g) (tP:s.gens[g]? =aa gs)
  (tQ:gs.Goes (aw prog w) A.in1 (λn aT r ai=>r=.ok (.ret .none)∧P n aT ai) Y n (.send .none) (s.setGen g .running))
  (hY:∀v ai mH,mH.bare→Y (n - 1) (s.setGen g .running) v ai (λr' dh=>match n with
    |0=>False
    |m+1=>mH.Goes (aw prog w) A.in1 (λn aT r ai=>r=.ok (.ret .none)∧P n aT ai) Y m r' dh)→Q (aa v) (ai.setGen g mH))
  (hP:∀ai,P n (s.setGen g .running) ai→∀h',(∀b o,ai.heap.get? b=aa o→h'.get? b=aa o)→Q af {ai.setGen g .finished with heap:=h'}):
  ar (aw prog w) A (pyNext (.ref a)) Q E s:=by
 unfold pyNext;refine aB (wpAny_attempt (KP (name:=sI "__next__") hg.typeIs slot_gen_next
  (yz slot_gen_next hg.typeIs entry_gen_next ?_ (args_gen_next _))))
 show ar _ A.in1 (ahU (.ref a) (.send .none)) _ _ s;unfold ahU;refine aB (ji (wpAny_genNumber hg (aB (wpAny_genState tP ?_))));induction gs with
 |running=>exact tQ.elim
 |finished=>exact tQ.elim
 |_=>refine aB (wpAny_roomToWake hl vH ?_);show ar _ A.in1 (.resume g (.send .none) [] _) _ _ s;refine wpAny_resumeQ tP tQ (λx ai hx=>?_) (λv ai mH hb hv=>bz ⟨v,rfl,bz (hY v ai mH hb hv)⟩);clear vH hl;refine xA hx ?_;clear hx;intro e9 hp;subst e9;show ar _ A.in1 (newExc (.type "StopIteration") [] >>= _) _ _ _;refine aB ?_;simp only[newExc,newTuple];refine aB (yM ?_ (by size_fits));refine aB (m:=Bh _ _) (ow (a:=uy) (by simp only[Bh];rfl) ?_);refine yM ?_ (by size_fits);unfold raiseNew;refine aB (aB (UL ?_));refine rE (show A.in1.handled=af from hh) (UM (aB (UN (T:= "StopIteration") (b:=ae) ⟨_,eT _ rfl,rfl⟩ UO ?_)));exact bz (hP ai hp _ λb o hb=>jZ _ (jZ _ hb))
end
noncomputable def qg:ah:= "addr"
noncomputable def rU:ah:= "pos"
noncomputable def o3:ah:= "escape"
noncomputable def tR:ah:= "ch"
noncomputable def nX:ah:= "enumerate"
noncomputable def mK:ah:= "\\"
noncomputable def vI:List ah:=[qg,rU,o3,tR]
noncomputable def gW:List (ah × eC):=[(qg,.local),(rU,.local),(o3,.local),(tR,.local),(nX,.globalImplicit)]
noncomputable def Xg:Cx:=⟨vI,[],[],[],[],[]⟩
noncomputable def Kt.gx(K:Kt):Kt:={K with X:=Xg}
section
variable(p:Nat→aO)
noncomputable def OR:au:=.Tuple [.Name rU (p 13),.BinOp (.Constant (.str mK) 0 (p 14)) .Add (.Name tR (p 15)) (p 16)] 0 (p 17)
noncomputable def OS:au:=.Tuple [.Name rU (p 29),.Name tR (p 30)] 0 (p 31)
noncomputable def OT:au:=.Tuple [.Name rU (p 38),.Constant (.str mK) 0 (p 39)] 0 (p 40)
noncomputable def OU:au:=.Compare (.Name tR (p 23)) [.Eq] [.Constant (.str mK) 0 (p 24)] (p 25)
noncomputable def vJ:au:=.Tuple [.Name rU (p 6),.Name tR (p 7)] 0 (p 8)
noncomputable def gIt:au:=.Call (.Name nX (p 9)) [.Name qg (p 10)] [] (p 11)
noncomputable def gIn:List a9:=[.If (OU p) [.Assign [.Name o3 (p 26)] (.Constant (.bool ae) 0 (p 27)) (p 28)] [.Expr (.Yield (aa (OS p)) (p 32)) (p 33)] (p 34)]
noncomputable def vK:List a9:=[.If (.Name o3 (p 12)) [.Expr (.Yield (aa (OR p)) (p 18)) (p 19),.Assign [.Name o3 (p 20)] (.Constant (.bool ag) 0 (p 21)) (p 22)] (gIn p) (p 35)]
noncomputable def Hu:List a9:=[.If (.Name o3 (p 37)) [.Expr (.Yield (aa (OT p)) (p 41)) (p 42)] [] (p 43)]
noncomputable def o4:List a9:=.Assign [.Name rU (p 0)] (.Constant (.int 0) 0 (p 1)) (p 2):: .Assign [.Name o3 (p 3)] (.Constant (.bool ag) 0 (p 4)) (p 5):: .For (vJ p) (gIt p) (vK p) [] (p 36)::Hu p
end
theorem z1:∀ {l:List ah}{i:Nat},aZ x l=aa i→x∈l:=by
 intro L0;induction L0 with
 |nil=>exact nofun
 |cons y r ih=>
  intro i h;replace h:=(Mf ..)▸h;induction q:sEq y x with
  |true=>exact rS (eE q) bG
  |false=>
   replace h:=q▸h;induction q':aZ x r with
   |none=>exact zN (q'▸h)
   |some j=>exact cf _ (ih q')
theorem OV(h:get ρ i=aa (.val d)):pJ ρ i=aa d:=by unfold pJ;refine rE h ?_;rfl
theorem aA(h:get ρ i=aa (.val d)):ev tk C hs (.var i) ρ=aa (d,ae):=by show(pJ ρ i).bind W.ret=_;refine rE (OV h) ?_;rfl
theorem W.aS{m:W α}{f:α→W β}{a:α}{b:β}(h1:m=aa (a,ae))(h2:f a=aa (b,ae)):W.bind m f=aa (b,ae):=by subst h1;show(match f a with|none=>af|some (b,oH)=>aa (b,ae&&oH))=_;refine rE h2 ?_;rfl
theorem Hv{a b:RE}{x:D}(h1:ev tk C hs a ρ=aa (x,ae))(h2:ev tk C hs b ρ=aa (y,ae)):ev tk C hs (.tup (.cons a (.cons b .nil))) ρ=aa (.tuple [x,y],ae):=
 W.aS (W.aS h1 (W.aS (W.aS h2 (W.aS rfl rfl)) rfl)) rfl
theorem OW{op:mc}{a b:RE}{x z:D}(h1:ev tk C hs a ρ=aa (x,ae))(h2:ev tk C hs b ρ=aa (y,ae))(h:j7 op x y=aa (z,ae)):ev tk C hs (.bin op a b) ρ=aa (z,ae):=
 W.aS h1 (W.aS h2 h)
theorem dp{b:RE}{x z:D}(h1:get ρ i=aa (.val x))(h2:ev tk C hs b ρ=aa (y,ae))(h:kL x y=aa (z,ae)):ev tk C hs (.aG i b) ρ=aa (z,ae):=by show(jJ ρ i).bind _=_;refine rE (show jJ ρ i=aa x by unfold jJ nC pJ;refine rE h1 ?_;rfl) ?_;exact W.aS h2 h
theorem aao{p:Prim}{a:RE}{x z:D}(h1:ev tk C hs a ρ=aa (x,ae))(h:gT p [x]=aa (z,ae)):ev tk C hs (.prim p (.cons a .nil)) ρ=aa (z,ae):=
 W.aS (W.aS h1 (W.aS rfl rfl)) h
theorem cS{op:uK}{a b:RE}{x:D}{z:Bool}(h1:ev tk C hs a ρ=aa (x,ae))(h2:ev tk C hs b ρ=aa (y,ae))(h:gQ op x y=aa (z,ae)):ev tk C hs (.cmp a (.cons op b .nil)) ρ=aa (.bool z,ae):=
 W.aS h1 (W.aS h2 (W.aS h rfl))
theorem aap:∀x∈vI,(x == ("__debug__" :ah))=ag∧(x == ("__classdict__" :ah))=ag:=by decide+kernel
section
variable{K:Kt}{A:dU}{V:aY}{env:bF}{ρ:aM}{s s':ay}
theorem bU.gx(O:bU K):bU K.gx where
 nm:=λx i h=>aap x (z1 h)
 nf:=λx i h=>by exact zN h
 nl:=λx i h=>by exact zN h
 fm:=λx i h=>by exact zN h
 gi:=λx i h=>by exact zN h
 len:=O.len
 str:=O.str
 int:=O.int
 sum:=O.sum
 sorted:=O.sorted
 ve:=O.ve
 u9:=O.u9
 range:=O.range
structure GE(V:aY)(env:bF):Prop where
 kind:env.scope.kind=.function
 gl:env.globals=gp
 bi:env.builtins=jE
 cells:env.cells=[]
 names:env.scope.names=gW
 VL:V env.locals
 co:env.scope.isCoroutine=ag
inductive Sc:ak→D→Prop
 |bool (b:_):Sc (.bool b) (.bool b)
 |int (i t:_):Sc (.int i t) (.int i)
 |str (x t:_):Sc (.str x t) (.str x)
theorem Sc.rd{h:aP}{v:ak}(x:Sc v d):Rd U h v d:=by
 induction x with
 |bool b=>exact .bool b
 |int i t=>exact .int i t
 |str x t=>exact .str x t
noncomputable def Vs(V:aY)(s:ay):aE→Prop:=λa=>V a∧∃o,s.heap.get? a=aa o
variable(K V env)in
structure GI(ρ:aM)(s:ay):Prop where
 bH:br K (Vs V s) s.heap
 ns:∃m,s.heap.Ns env.locals m∧∀y i d,aZ y vI=aa i→get ρ i=aa (.val d)→∃v,m y=aa v∧Sc v d
 flat:∀i sl,get ρ i=aa sl→∃d,sl=.val d
theorem br.gx{h:aP}(g:br K U h):br K.gx U h:=⟨g.ng,g.ug,g.nb,g.ub,g.fo,g.tok,g.lim,g.ul,g.iV⟩
theorem z2(ge:GE V env){k:eC}(h:aV x gW=aa k):env.kindOf x=aa k:=by show env.scope.names.lookup x=_;exact rE ge.names (rS (vw ..) h)
theorem Hw(ge:GE V env):dg gW env:=λx k h=>.inl (z2 ge h)
theorem GI.e(ge:GE V env)(gi:GI K V env ρ s):bJ K.gx (Vs V s) env [] ρ s where
 bH:=gi.bH.gx
 ub:=λa h=>h.2
 kind:=ge.kind
 gl:=ge.gl
 bi:=ge.bi
 bu:=by
  refine aD gi.ns λm hm Z=>?_;have OX:∀x c,env.cells.lookup x=aa c→False:=λx c h=>by replace h:=ge.cells▸h;exact zN h
  refine⟨⟨⟨ge.VL,fy hm λo Z Z e Z=>⟨o,e⟩⟩,m,hm⟩,λx c h=>(OX x c h).elim,λx y c h=>(OX x c h).elim,λx h=>?_⟩;have hl:env.kindOf x=gW.lookup x:=by show env.scope.names.lookup x=_;exact rE ge.names rfl
  have h2:∀k,gW.lookup x=aa k→k=.local∨k=.globalImplicit:=λk hk=>by
   have:=mem_of_lookup hk;simp only[gW,bE,yu,sN,or_false]at this;rcases this with⟨_,e⟩| ⟨_,e⟩| ⟨_,e⟩| ⟨_,e⟩| ⟨_,e⟩<;>simp[e]
  rcases h with h|h<;>(replace h:=hl▸h;rcases h2 _ h with e|e<;>cases e)
 vars:=λx i sl h1 h2 h3=>by
  clear h3;refine xE (gi.flat i sl h2) λd e9=>?_;subst e9;refine aD gi.ns λm hm hv=>aD (hv x i d h1 h2) λv e1 e2=>⟨v,.inl ⟨?_,m,hm,e1⟩,e2.rd⟩;have:x∈vI:=z1 h1;simp only[vI,bE,sN,or_false]at this;rcases this with rfl|rfl|rfl|rfl<;>exact z2 ge (by decide+kernel)
theorem GI.mv(ge:GE V env)(gi:GI K V env ρ s){H:Nat→Prop}(m:Mv Ku H s s')(hK:∀a,Ku a→V a∧a≠env.locals):GI K V env ρ s' where
 bH:=gi.bH.mono (λa o n e=>m.keep a o (λk=>n ⟨(hK a k).1,o,e⟩) e) λa o e n k=>n ⟨k.1,o,e⟩
 ns:=aD gi.ns λm' q hv=>fy q λo es ep ho r=>⟨m',⟨o,es,ep,m.keep _ _ (λk=>(hK _ k).2 rfl) ho,r⟩,hv⟩
 flat:=gi.flat
theorem GI.ext(ge:GE V env)(gi:GI K V env ρ s)(x:Ext s s'):GI K V env ρ s':=gi.mv ge (x.mv (Ku:=λZ=>False) (G:=λZ=>False)) λZ h=>h.elim
theorem GI.store(ge:GE V env)(gi:GI K V env ρ s){y:ah}{v:ak}(hi:aZ y vI=aa i)(hk:aV y gW=aa .local)(hv:Sc v d){Q:Unit→ay→Prop}
  (hQ:∀s',GI K V env (put ρ i (.val d)) s'→Mv (λa=>a=env.locals) (λZ=>False) s s'→s'.heap.objs.size=s.heap.objs.size→Q () s'):ar (aw prog K.w) A (qO env y v) Q E s:=by
 refine aD gi.ns λm hm zR=>Ew (hp:=by refine rE ge.kind ?_;rfl) (z2 ge hk) hm λh' js cB=>?_;have mv:Mv (λa=>a=env.locals) (λZ=>False) s {s with heap:=h',toks:=s.toks+1}:=⟨λa o n e=>(cB.2 a n).trans e,λZ Z Z e=>e,λe=>e,rfl⟩;refine hQ _ ⟨?_,⟨_,js,λz j d' hj hg=>?_⟩,λj sl hg=>?_⟩ mv cB.1
 ·exact gi.bH.mono (λa o n e=>mv.keep a o (λk=>n ⟨k▸ge.VL,o,e⟩) e) λa o e n k=>n ⟨k.1,o,e⟩
 ·by_cases hz:z=y
  ·clear mv cB js h' hm hk;subst hz;replace hj:=iJ (hi▸hj);subst hj;replace hg:=(kX ..)▸hg;cases hg;exact⟨v,if_pos rfl,hv⟩
  ·have bQ:j≠i:=λe=>hz (tu (e▸hj) hi);rw[fS _ bQ]at hg;exact aD (zR z j d' hj hg) λu e1 e2=>⟨u,by simp only[if_neg hz];exact e1,e2⟩
 ·by_cases hj:j=i
  ·clear mv cB js;subst hj;replace hg:=iJ ((kX ..)▸hg);subst hg;exact⟨_,rfl⟩
  ·rw[fS _ hj]at hg;exact gi.flat j sl hg
theorem aaq{b b':List a9}{t:au}{iv:ak}{K':wH→cN Fin}{l:List ak}(r:bW A (n+10)):bW (A.in1.over (.forLoop t iv b' [] env) [.ret K' af ag l (.func b env) p []]) n:=by
 refine⟨r.handled,?_,?_⟩
 ·have:=r.depth;have h:(A.in1.over (.forLoop t iv b' [] env) [.ret K' af ag l (.func b env) p []]).depth=A.in1.depth+(1+0)+KQ (.forLoop t iv b' [] env):=rfl;refine rE h ?_;have h1:KQ (.forLoop t iv b' [] env)=0:=rfl;have h2:A.in1.depth=A.depth:=rfl;lia
 ·have:=r.units;have h:(A.in1.over (.forLoop t iv b' [] env) [.ret K' af ag l (.func b env) p []]).units=A.in1.units+(3+0)+KR (.forLoop t iv b' [] env):=rfl;refine rE h ?_;have h1:KR (.forLoop t iv b' [] env)=0:=rfl;have h2:A.in1.units=A.units+1:=rfl;lia
end
noncomputable def rV(e it:aE)(x:ah)(t:mZ)(i:Nat)(h:aP):Prop:=(∃old,IsEnum h e it i old)∧h.IsStrIter it (strIterType x) x t i
noncomputable def Hx(x:ah)(i:Nat)(vals:Array ak):Prop:=∃tk c u,x.cps[i]? =aa c∧vals= #[.int i tk,.str ⟨#[c]⟩ u]
theorem aar{w:cM}(hh:A.handled=af){e it:aE}(z3:e≠it)(x:ah)(t:mZ):∃CL,WalksT prog w A e [e,it] [e,it] x.cps.size (Hx x) (rV e it x t) CL:=by
 have side:e∉[it]:=λh=>z3 (dK.mp h);have go:∀ {ty:String},strIterType x=ty→Draws prog w A.in1 it [it] x.cps.size (λi v=>∃c u,x.cps[i]? =aa c∧v=.str ⟨#[c]⟩ u) (λi h=>h.IsStrIter it ty x t i)→∃CL,WalksT prog w A e [e,it] [e,it] x.cps.size (Hx x) (rV e it x t) CL:=by
  intro ty GX D;have Wt:=WalksT.enumerateD D e z3 side (dK.mpr rfl);have hS:(fun(i:Nat) (h:aP)=>(∃old,IsEnum h e it i old)∧h.IsStrIter it ty x t i)=rV e it x t:=by funext i h;unfold rV;exact rE GX rfl
  have hP:(fun(i:Nat) (vals:Array ak)=>∃tk v,(∃c u,x.cps[i]? =aa c∧v=.str ⟨#[c]⟩ u)∧vals= #[.int i tk,v])=Hx x:=by funext i vals;refine propext ⟨λq=>gz q λtk v a h3=>gz a λc u h1 h2=>⟨tk,c,u,h1,rE h3 (rE h2 rfl)⟩,λq=>fy q λtk c u h1 h2=>⟨tk,_,⟨c,u,h1,rfl⟩,h2⟩⟩
  replace Wt:=hP▸hS▸Wt;exact⟨_,Wt⟩
 cases ha:x.cps.all (· <128)
 ·exact go (ty:= "str_iterator") (by simp[strIterType,ha]) (Draws.strWide (A:=A.in1) hh it x t)
 ·exact go (ty:= "str_ascii_iterator") (by simp[strIterType,ha]) (Draws.strAscii (A:=A.in1) hh it x t)
theorem aas:td Xg gW rU=aa (.var 1):=by kernel_rfl
theorem aat:td Xg gW o3=aa (.var 2):=by kernel_rfl
theorem aau:td Xg gW tR=aa (.var 3):=by kernel_rfl
noncomputable def W3(L e it:aE):aE→Prop:=λa=>a=L∨a=e∨a=it
section
variable(K:Kt)(V:aY)(L e it:aE)(D0:List D)
noncomputable def gY:Protocol:=λm aT v s OY=>Mv (W3 L e it) (λZ=>False) aT s∧(∀d,D0[D0.length - 1 - m]? =aa d→∀U:aY,(∀a,U a→V a)→(∀a,U a→(∃o,aT.heap.get? a=aa o)∨W3 L e it a)→Rd U s.heap v d)∧
 (∀a,W3 L e it a→∃o,s.heap.get? a=aa o)∧br K (Vs V s) s.heap∧∀s' Ku,Mv Ku (λZ=>True) s s'→(∀a,Ku a→V a∧¬W3 L e it a)→OY (.send .none) s'
noncomputable def gP(n:Nat)(aT ai:ay):Prop:=n=0∧Mv (W3 L e it) (λZ=>False) aT ai
noncomputable def gR:GenEnd:=λn aT r ai=>r=.ok (.ret .none)∧gP L e it n aT ai
end
section
variable{K:Kt}{A:dU}{V:aY}{env:bF}{ρ:aM}{s aT:ay}{p:Nat→aO}{e it:aE}{D0:List D}
variable(K A V env)in
structure GL(x:ah)(p:Int)(b:Bool)(e it:aE)(aT:ay)(ρ:aM)(s:ay):Prop where
 gi:GI K V env ρ s
 h0:get ρ 0=aa (.val (.str x))
 h1:get ρ 1=aa (.val (.int p))
 h2:get ρ 2=aa (.val (.bool b))
 mv:Mv (W3 env.locals e it) (λZ=>False) aT s
 ve:V e∧V it∧e≠env.locals∧it≠env.locals∧e≠it
theorem GL.ext(ge:GE V env){q:Int}(g:GL K V env x q b e it aT ρ s)(y:Ext s s'):GL K V env x q b e it aT ρ s':=⟨g.gi.ext ge y,g.h0,g.h1,g.h2,g.mv.trans y.mv,g.ve⟩
theorem OZ(O:bU K)(ge:GE V env){q:Int}(g:GL K V env x q b e it aT ρ s){pp:aO}{Q:Bool→ay→Prop}(hQ:∀s',Ext s s'→Q b s'):
  ar (aw prog K.w) A (isTrue (.Name o3 pp) env (eval (.Name o3 pp) env)) Q E s:=
 ((xk (K:=K.gx) (C:=λZ Z=>af) (ks:=gW) O.gx (r:=.var 2) aat) (Vs V s) env [] ρ s (.bool b) (Hw ge) (g.gi.e ge) (aA g.h2)).2 b rfl Q E hQ
theorem O0(ge:GE V env){q:Int}{b':Bool}(g:GL K V env x q b e it aT ρ s){p1 p3:aO}{Q:jk→ay→Prop}
  (hQ:∀s',GL K V env x q b' e it aT (put ρ 2 (.val (.bool b'))) s'→Mv (λa=>a=env.locals) (λZ=>False) s s'→Q .next s'):
  ar (aw prog K.w) A (exec (.Assign [.Name o3 p1] (.Constant (.bool b') 0 p2) p3) env) Q E s:=by
 refine oC (Ep (g.gi.store ge (i:=2) (d:=.bool b') (by decide+kernel) (by decide+kernel) (.bool b') λs' gi m Z=>hQ s' ⟨gi,?_,?_,kX _ _ _,g.mv.trans (m.mono (λa h=>.inl h) λZ h=>h),g.ve⟩ m))
 ·rw[fS _ (by decide)];exact g.h0
 ·rw[fS _ (by decide)];exact g.h1
theorem Hy{H:Nat→Prop}(h:rV e it x t i s.heap)(m:Mv Ku H s s')(hk:∀a,Ku a→a≠e∧a≠it):rV e it x t i s'.heap:=by obtain⟨⟨old,h1⟩,o,h2,h3⟩:=h;exact⟨⟨old,m.keep _ _ (λk=>(hk _ k).1 rfl) h1⟩,o,m.keep _ _ (λk=>(hk _ k).2 rfl) h2,h3⟩
noncomputable def CM(e it:aE)(x:ah)(t:mZ):Option Nat→aP→Prop
 |some i,h=>rV e it x t i h
 |none,h=>(∃o,h.get? e=aa o)∧∃o,h.get? it=aa o
theorem CN{i:Option Nat}{H:Nat→Prop}(h:CM e it x t i s.heap)(m:Mv Ku H s s')(hk:∀a,Ku a→a≠e∧a≠it):CM e it x t i s'.heap:=by
 induction i with
 |some i=>exact Hy h m hk
 |none=>obtain⟨⟨o,h1⟩,o',h2⟩:=h;exact⟨⟨o,m.keep _ _ (λk=>(hk _ k).1 rfl) h1⟩,o',m.keep _ _ (λk=>(hk _ k).2 rfl) h2⟩
theorem aav{i:Option Nat}{h:aP}(g:CM e it x t i h):(∃o,h.get? e=aa o)∧∃o,h.get? it=aa o:=by
 induction i with
 |some i=>obtain⟨⟨old,h1⟩,o,h2,_⟩:=g;exact⟨⟨_,h1⟩,o,h2⟩
 |none=>exact g
variable(K A V env e it)in
structure GS(x:ah)(t:mZ)(q:Int)(b:Bool)(i:Option Nat)(aT:ay)(ρ:aM)(s:ay):Prop where
 gl:GL K V env x q b e it aT ρ s
 st:CM e it x t i s.heap
theorem GS.alive{q:Int}{i:Option Nat}(g:GS K V env e it x t q b i aT ρ s):∀a,W3 env.locals e it a→∃o,s.heap.get? a=aa o:=λa h=>by
 refine xA (aav g.st) λh1 h2=>?_;rcases h with h|h|h
 ·obtain⟨m,⟨o,_,_,e,_⟩,_⟩:=g.gl.gi.ns;exact⟨o,h▸e⟩
 ·exact h▸h1
 ·exact h▸h2
theorem GS.ext(ge:GE V env){q:Int}{i:Option Nat}(g:GS K V env e it x t q b i aT ρ s)(y:Ext s s'):GS K V env e it x t q b i aT ρ s':=
 ⟨g.gl.ext ge y,CN g.st (y.mv (Ku:=λZ=>False) (G:=λZ=>False)) λZ h=>h.elim⟩
theorem GS.anew(ge:GE V env){q:Int}{i:Option Nat}(g:GS K V env e it x t q b i aT ρ s){H:Nat→Prop}(m:Mv Ku H s s')(hk:∀a,Ku a→V a∧¬W3 env.locals e it a):
  GS K V env e it x t q b i s' ρ s':=
 ⟨⟨g.gl.gi.mv ge m λa h=>⟨(hk a h).1,λk=>(hk a h).2 (.inl k)⟩,g.gl.h0,g.gl.h1,g.gl.h2,.refl _ _ _,g.gl.ve⟩,CN g.st m λa h=>⟨λk=>(hk a h).2 (.inr (.inl k)),λk=>(hk a h).2 (.inr (.inr k))⟩⟩
theorem aaw{H:Nat→Prop}(m:Mv Ku H s s')(hk:∀a,Ku a→∃o,s'.heap.get? a=aa o)(h:∃o,s.heap.get? a=aa o):∃o,s'.heap.get? a=aa o:=by
 refine xE h λo e=>?_;by_cases k:Ku a
 ·exact hk a k
 ·exact⟨o,m.keep a o k e⟩
theorem Hz(ge:GE V env){c:Code}{fs:List Frame}{Kn:jk→cN Fin}{H:ak→cN Fin}{gd:Bool→Bool}{lv:List ak→List ak}{ex:au}{p1:aO}{re:RE}{q:Int}{i:Option Nat}
  (HA:splitAtGen fs=af) (hgd:gd ag=ag) (He:fs.any Frame.guarded=ag) (g:GS K V env e it x t q b i aT ρ s)
  (hx:bg K.gx (λZ Z=>af) (A.over c fs) gW ex re) (ao:ev K.gx.tk (λZ Z=>af) [] re ρ=aa (d,ae)) (hd:∀d',D0[D0.length - 1 - n]? =aa d'→d'=d)
  (cont:∀dh,GS K V env e it x t q b i dh ρ dh→iw (aw prog K.w) A (gR env.locals e it) (gY K V env.locals e it D0) n dh c (Kn .next) fs dh):
  iw (aw prog K.w) A (gR env.locals e it) (gY K V env.locals e it D0) (n+1) aT c ((exec (.Expr (.Yield (aa ex) p1) p2) env).wrap Kn H gd lv) fs s:=by
 refine seg_Expr_Yield HA hgd He ((hx (Vs V s) env [] ρ s d (Hw ge) (g.gl.gi.e ge) ao).1 _ _ λv ai aq rv OY hk=>?_) ge.co (by unfold interactive;refine rE ge.kind ?_;rfl);have dR:=g.ext ge aq;refine⟨dR.gl.mv,λd' dB U hUV hU=>?_,dR.alive,dR.gl.gi.bH,λdh Ku m nP=>hk .none dh (cont dh (dR.anew ge m nP))⟩;refine rE (hd d' dB) (rv.mono (λZ Z Z e=>e) λa o Z n k=>n ⟨hUV a k,?_⟩);rcases hU a k with h|h
 ·exact aaw g.gl.mv g.alive h
 ·exact g.alive a h
end
section
open Sem (wp)
section
variable{w:cM}
theorem aax{it:aE}(hh:A.handled=af)(hit:s.heap.IsStrIter it "str_ascii_iterator" x t i)(hx:x.cps[i]? =af)
  (hE:∀h' e,UP it s.heap h'→(∃o,h'.get? it=aa o)→(∃o,h'.get? e=aa o∧o.cls=.type "StopIteration")→E (.ref e) {s with heap:=h'}):
  ar (aw prog w) A (KU (.ref it)) Q E s:=by
 have hT:=hit.typeIs;obtain⟨⟨c,d,dt,sl⟩,ho,hc,hd⟩:=hit;replace hd:dt=_:=hd;clear hc;subst hd;unfold KU;refine aB (KP (name:=sI "__next__") hT ahV
  (yz ahV hT F.entry_str_ascii_iterator_next ?_ (F.args_str_ascii_iterator_next_1 _)))
 show ar _ _ (field (.ref it) 0 >>= _) _ _ s;refine aB (EF ho rfl (x:=.str x t) rfl ?_);show ar _ _ (field (.ref it) 1 >>= _) _ _ s;refine aB (EF ho rfl (x:=.int i 0) rfl ?_);simp only[UH,hx];refine aB (EA (aB (wpAny_setField ho rfl (by simp) (aB (wpAny_letGo ?_)))));show ar _ _ (newExc (.type "StopIteration") [] >>= _) _ _ _;refine aB ?_;simp only[newExc,newTuple];refine aB (yM ?_ (by size_fits));refine aB (m:=Bh _ _) (ow (a:=uy) (by simp only[Bh];rfl) ?_);refine yM ?_ (by size_fits);unfold raiseNew;refine aB (UL ?_);refine rE (show A.in1.handled=af from hh) (aB (bz (UM ?_)));exact hE _ _ (((A8 ..).extBut.push _).push _) ⟨_,jZ _ (jZ _ (KI _ ho rfl))⟩ ⟨_,eT _ rfl,rfl⟩
theorem aay{it:aE}(hh:A.handled=af)(hit:s.heap.IsStrIter it "str_iterator" x t i)(hx:x.cps[i]? =af)
  (hE:∀h' e,UP it s.heap h'→(∃o,h'.get? it=aa o)→(∃o,h'.get? e=aa o∧o.cls=.type "StopIteration")→E (.ref e) {s with heap:=h'}):
  ar (aw prog w) A (KU (.ref it)) Q E s:=by
 have hT:=hit.typeIs;obtain⟨⟨c,d,dt,sl⟩,ho,hc,hd⟩:=hit;replace hd:dt=_:=hd;subst hd;unfold KU;refine aB (KP (name:=sI "__next__") hT ahW
  (yz ahW hT F.entry_str_iterator_next ?_ (F.args_str_iterator_next_1 _)))
 show ar _ _ (field (.ref it) 0 >>= _) _ _ s;refine aB (EF ho rfl (x:=.str x t) rfl ?_);show ar _ _ (field (.ref it) 1 >>= _) _ _ s;refine aB (EF ho rfl (x:=.int i 0) rfl ?_);simp only[UH,hx];refine aB (EA (aB (wpAny_setField ho rfl (by simp) (aB (wpAny_letGo ?_)))));show ar _ _ (newExc (.type "StopIteration") [] >>= _) _ _ _;refine aB ?_;simp only[newExc,newTuple];refine aB (yM ?_ (by size_fits));refine aB (m:=Bh _ _) (ow (a:=uy) (by simp only[Bh];rfl) ?_);refine yM ?_ (by size_fits);unfold raiseNew;refine aB (UL ?_);refine rE (show A.in1.handled=af from hh) (aB (bz (UM ?_)));exact hE _ _ (((A8 ..).extBut.push _).push _) ⟨_,jZ _ (jZ _ (KI _ ho rfl))⟩ ⟨_,eT _ rfl,rfl⟩
theorem aaz{e it:aE}{Q:Option ak→ay→Prop}(hh:A.handled=af)(z3:e≠it)(g:rV e it x t x.cps.size s.heap)
  (hQ:∀h',UP it s.heap h'→(∃o,h'.get? e=aa o)∧(∃o,h'.get? it=aa o)→Q af {s with heap:=h'}):ar (aw prog w) A (pyNext (.ref e)) Q E s:=by
 obtain⟨⟨old,he⟩,cz⟩:=g;have hT:s.TypeIs (.ref e) "enumerate" :=⟨_,he,rfl⟩;unfold pyNext;refine aB (wpAny_attempt (KP (name:=sI "__next__") hT ahX
  (yz ahX hT F.entry_enumerate_next ?_ (F.args_enumerate_next_1 _))))
 show ar _ _ (field (.ref e) 2 >>= _) _ _ _;refine aB (EF he rfl (x:=.ref it) rfl ?_);refine aB ?_;cases ha:x.cps.all (· <128)
 ·refine aay (A:=A.in1) hh (by simpa[strIterType,ha]using cz) (by simp) λh' y h1 h2 ⟨o,ho,hc⟩=>aB (UN (T:= "StopIteration") (b:=ae) ⟨o,ho,hc⟩ UO (bz (hQ h' h1 ⟨⟨_,h1 e _ z3 he⟩,h2⟩)))
 ·refine aax (A:=A.in1) hh (by simpa[strIterType,ha]using cz) (by simp) λh' y h1 h2 ⟨o,ho,hc⟩=>aB (UN (T:= "StopIteration") (b:=ae) ⟨o,ho,hc⟩ UO (bz (hQ h' h1 ⟨⟨_,h1 e _ z3 he⟩,h2⟩)))
end
end
section
variable{K:Kt}{V:aY}{p:Nat→aO}{e it:aE}{D0:List D}
noncomputable def HC:jk→cN Fin:=λf=>.pure (.done (.ret (match f with| .ret v=>v|_=>.none)))
theorem O1{q:Int}{i:Option Nat}(g:GS K V env e it x t q b i aT ρ s){c:Code}{M:sQ}:iw M A (gR env.locals e it) (gY K V env.locals e it D0) 0 aT c (HC .next) [] s:=
 seg_end (.ok (.ret .none)) ⟨rfl,rfl,g.gl.mv⟩
theorem HD(O:bU K){pp:aO}:bg K.gx C A gW (.Name rU pp) (.var 1):=xk O.gx aas
theorem HE(O:bU K){pp:aO}:bg K.gx C A gW (.Name tR pp) (.var 3):=xk O.gx aau
theorem HF{pp:aO}:bg K.gx C A gW (.Constant (.str mK) 0 pp) (.lit (.str mK)):=snd_const rfl
theorem gS1(O:bU K):bg K.gx C A gW (OR p) (.tup (.cons (.var 1) (.cons (.bin .add (.lit (.str mK)) (.var 3)) .nil))):=
 B1 (.cons rfl (HD O) (.cons rfl (MF rfl HF (HE O)) .nil)) rfl
theorem gS2(O:bU K):bg K.gx C A gW (OS p) (.tup (.cons (.var 1) (.cons (.var 3) .nil))):=
 B1 (.cons rfl (HD O) (.cons rfl (HE O) .nil)) rfl
theorem gS3(O:bU K):bg K.gx C A gW (OT p) (.tup (.cons (.var 1) (.cons (.lit (.str mK)) .nil))):=
 B1 (.cons rfl (HD O) (.cons rfl HF .nil)) rfl
theorem aaA(O:bU K)(R:∃n,bW A n):bg K.gx C A gW (OU p) (.cmp (.var 3) (.cons .eq (.lit (.str mK)) .nil)):=
 F3 R (HE O) (.cons (op:=.eq) (ops:=[]) (λZ=>rfl) HF .nil)
theorem aaB(O:bU K)(ge:GE V env){q:Int}{i:Option Nat}{c:Code}{H:ak→cN Fin}(g:GS K V env e it x t q b i aT ρ s)(hn:n=cond b 1 0)
  (hd:b→D0[D0.length - 1]? =aa (.tuple [.int q,.str mK])):
  iw (aw prog K.w) A (gR env.locals e it) (gY K V env.locals e it D0) n aT c ((oA (Hu p) env).wrap HC H id id) [] s:=by
 refine qR (Ht (OZ O ge g.gl λai aq=>?_));have dR:=g.ext ge aq;induction b with
 |false=>subst hn;exact rE (if_neg f9) (pE (pE (O1 dR)))
 |true=>
  subst hn;refine rE (if_pos rfl) (qR (Hz ge rfl rfl rfl dR (gS3 O) (d:=.tuple [.int q,.str mK]) ?_ (λd' h=>?_) λdh iK=>pE (pE (O1 iK))))
  ·exact Hv (aA dR.gl.h1) rfl
  ·replace h:=(show D0.length - 1 - 0=D0.length - 1 from rfl)▸h;replace h:=iJ (hd rfl▸h);subst h;rfl
theorem aaC(O:bU K)(ge:GE V env)(hr:∃n,bW A (n+10)){K':wH→cN Fin}{H:ak→cN Fin}{pp:aO}(hK:K' (.ok .next)=(oA (Hu p) env).wrap HC H id id):
  ∀ (j i:Nat) (b:Bool) (q:Int) (ρ:aM) (aT s:ay) (n:Nat) (pre:List (Nat × List Nat)),i+j=(sL x).length→GS K V env e it x t q b (aa i) aT ρ s→(b→q=((i - 1:Nat):Int))→n=(bV i b ((sL x).drop i)).length→
   bV 0 ag (sL x)=pre++bV i b ((sL x).drop i)→D0=pI (sL x)→
   iw (aw prog K.w) A.in1 (gR env.locals e it) (gY K V env.locals e it D0) n aT (.forLoop (vJ p) (.ref e) (vK p) [] env) ((aw prog K.w).den (.forLoop (vJ p) (.ref e) (vK p) [] env))
    [.ret K' af ag [] (.func (o4 p) env) pp []] s:=by
 intro j;refine xE hr λrn vH=>?_;induction j with
 |zero=>
  intro i b q ρ aT s n pre jO g hq hn ku hD;have hi:i=x.cps.size:=by replace jO:=(Ud ..)▸jO;refine rE jO ?_;simp[sL]
  refine OP (aaz vH.handled g.gl.ve.2.2.2.2 (hi▸g.st) λh' hk al=>?_);have m:Mv (λa=>a=e∨a=it) (λZ=>False) s {s with heap:=h'}:=⟨λa o n e=>hk a o (λk=>n (.inr k)) e,λZ Z Z e=>e,λe=>e,rfl⟩;refine aan (rE hK ?_);have aaD:(sL x).drop i=[]:=AU (by lia);rw[aaD]at hn ku;have ve:=g.gl.ve;have g':GS K V env e it x t q b af aT ρ {s with heap:=h'}:=
   ⟨⟨g.gl.gi.mv ge m λa h=>h.elim (λh=>h▸⟨ve.1,ve.2.2.1⟩) (λh=>h▸⟨ve.2.1,ve.2.2.2.1⟩),g.gl.h0,g.gl.h1,g.gl.h2,g.gl.mv.trans (m.mono (λa h=>.inr h) λZ h=>h),ve⟩,al⟩
  refine aaB O ge g' (hn.trans (by induction b<;>rfl)) λhb=>?_;subst hb;have e1:bV i ae []=[(i - 1,[92])]:=rfl;replace ku:=e1▸ku;refine rE hD ?_;rewrite[pI];refine rE ku (rE (hq rfl) ?_);simp;rfl
 |succ j ih=>
  intro i b q ρ aT s n pre jO g hq hn ku hD;obtain⟨CL,Wt⟩:=aar (w:=K.w) (A:=A.in1.over (.forLoop (vJ p) (.ref e) (vK p) [] env) [.ret K' af ag [] (.func (o4 p) env) pp []]) vH.handled g.gl.ve.2.2.2.2 x t;have hi:i<x.cps.size:=by
   have:(sL x).length=x.cps.size:=by simp[sL]
   lia
  refine OP (Wt.item i s _ _ hi g.st λT vals h₁ tA hP hT aaE O2 Ge=>?_);refine fy hP λti c u hc e9=>?_;subst e9;have ve:=g.gl.ve;have toV:∀a,a=e∨a=it→V a∧a≠env.locals:=λa h=>h.elim (λh=>h▸⟨ve.1,ve.2.2.1⟩) (λh=>h▸⟨ve.2.1,ve.2.2.2.1⟩);have m₁:Mv (λa=>a=e∨a=it) (λZ=>False) s {s with heap:=h₁,toks:=tA}:=⟨λa o n e=>Ge a o (by simpa using n) e,λZ Z Z e=>e,λe=>e,rfl⟩;dsimp only;refine Wt.go _ _ _ i T _ _ _ O2 λey vk xt=>?_;have m₂:Mv (λa=>a=e∨a=it) (λZ=>False) ⟨h₁,s.gens,s.drawn,tA,s.os⟩ ⟨ey,s.gens,s.drawn,tA,s.os⟩:=⟨λa o n e=>xt a o (by simpa using n) e,λZ Z Z e=>e,λe=>e,rfl⟩;have O3:=m₁.trans m₂;have aaF:ey.IsTuple T #[.int i ti,.str ⟨#[c]⟩ u]:=aD aaE λo ho r=>⟨o,xt T o (Wt.apart i T h₁ O2) ho,r⟩
  have iK:=g.gl.gi.mv ge O3 toV;refine wpAny_assign_Tuple vH.handled aaF rfl rfl λkY HG=>?_;have bx:Ext ⟨ey,s.gens,s.drawn,tA,s.os⟩ ⟨kY,s.gens,s.drawn,tA,s.os⟩:=⟨λa o e=>HG a o (iU (jD e)) e,λZ Z e=>e,λe=>e,rfl⟩;have z4:=iK.ext ge bx;have HH:rV e it x t (i+1) kY:=Hy (s:=⟨ey,s.gens,s.drawn,tA,s.os⟩) (s':=⟨kY,s.gens,s.drawn,tA,s.os⟩) vk (bx.mv (Ku:=λZ=>False) (G:=λZ=>False)) λZ h=>h.elim;refine wM (qP (z4.store ge (i:=1) (d:=.int i) (by decide+kernel) (by decide+kernel) (.int _ _) λcq O4 HI Z=>?_));refine wM (qP (O4.store ge (i:=3) (d:=.str ⟨#[c]⟩) (by decide+kernel) (by decide+kernel) (.str _ _) λlO O5 HJ Z=>Ez λH'=>?_));have GC:(sL x).drop i=c::(sL x).drop (i+1):=by
   have h1:(sL x)[i]? =aa c:=by simpa[sL]using hc
   refine xE (pz.mp h1) λh2 h3=>?_;exact rE (List.drop_eq_getElem_cons h2) (rE h3 rfl)
  rw[GC]at hn ku;have CO:GS K V env e it x t (i:Int) b (aa (i+1)) aT (put (put ρ 1 (.val (.int i))) 3 (.val (.str ⟨#[c]⟩))) lO:=by
   refine⟨⟨O5,?_,?_,?_,g.gl.mv.trans ((O3.mono (λa h=>.inr h) λZ h=>h).trans (bx.mv.trans ((HI.mono (λa h=>.inl h) λZ h=>h).trans (HJ.mono (λa h=>.inl h) λZ h=>h)))),ve⟩,Hy HH (HI.trans HJ) λa h=>h▸⟨ve.2.2.1.symm,ve.2.2.2.1.symm⟩⟩
   ·rewrite[fS _ (by decide)];rw[fS _ (by decide)];exact g.gl.h0
   ·rewrite[fS _ (by decide)];exact rE (kX ..) rfl
   ·rewrite[fS _ (by decide)];rw[fS _ (by decide)];exact g.gl.h2
  have h3:get (put (put ρ 1 (.val (.int i))) 3 (.val (.str ⟨#[c]⟩))) 3=aa (.val (.str ⟨#[c]⟩)):=kX _ _ _;revert CO h3;generalize put (put ρ 1 (.val (.int i))) 3 (.val (.str ⟨#[c]⟩))=O6;intro CO h3;clear O5 O4 HI HJ;have again:∀ (b':Bool) (ρ':aM) (CP s':ay) (n':Nat) (mL:List (Nat × List Nat)),GS K V env e it x t (i:Int) b' (aa (i+1)) CP ρ' s'→n'=(bV (i+1) b' ((sL x).drop (i+1))).length→bV 0 ag (sL x)=mL++bV (i+1) b' ((sL x).drop (i+1))→
    iw (aw prog K.w) A.in1 (gR env.locals e it) (gY K V env.locals e it D0) n' CP (.forLoop (vJ p) (.ref e) (vK p) [] env) (.pure (.again (.forLoop (vJ p) (.ref e) (vK p) [] env))) [.ret K' af ag [] (.func (o4 p) env) pp []] s':=
   λb' ρ' CP s' n' mL gs js hp'=>seg_again rfl (ih (i+1) b' i ρ' CP s' n' mL (by lia) gs (λZ=>rfl) js hp' hD)
  have O7:∀ (y:ax) (r:List (Nat × List Nat)),bV 0 ag (sL x)=pre++(i,y)::r→∀d',D0[D0.length - 1 - r.length]? =aa d'→d'=.tuple [.int i,.str (aj y)]:=by
   intro y r hp d' dB;replace dB:=hD▸dB;rewrite[pI]at dB;replace dB:=hp▸dB;have hl:((pre++(i,y)::r).map λp:Nat × List Nat=>(PyData.tuple [.int p.1,.str (aj p.2)])).length - 1 - r.length=pre.length:=by simp
   replace dB:=hl▸dB;simp at dB;exact dB.symm
  refine qR (Ht (OZ O ge CO.gl λlP vL=>?_));have CQ:=CO.ext ge vL;induction b with
  |true=>refine rE (if_pos rfl) ?_;have e1:bV i ae (c::(sL x).drop (i+1))=(i,[92,c])::bV (i+1) ag ((sL x).drop (i+1)):=rfl;rw[e1]at hn ku;refine rE hn (rE bT ?_);refine qR (Hz ge rfl rfl rfl CQ (gS1 O) (d:=.tuple [.int i,.str (aj [92,c])]) ?_ (O7 _ _ ku) λeJ vM=>qR (CK (O0 ge vM.gl λoW HK zW=>pE (pE (again ag _ _ oW _ (pre++[(i,[92,c])]) ⟨HK,CN vM.st zW λa h=>h▸⟨ve.2.2.1.symm,ve.2.2.2.1.symm⟩⟩ rfl (by refine rE ku ?_;simp))))));exact Hv (aA CQ.gl.h1) (OW rfl (aA h3) rfl)
  |false=>
   refine rE (if_neg f9) ?_;have R:∃n,bW (A.in1.over (.forLoop (vJ p) (.ref e) (vK p) [] env) [.ret K' af ag [] (.func (o4 p) env) pp []]) n:=⟨rn,aaq vH⟩;have aaG:ev K.gx.tk (λZ Z=>af) [] (.cmp (.var 3) (.cons .eq (.lit (.str mK)) .nil)) O6=aa (.bool (az c 92),ae):=by
    have hs:sEq ⟨#[c]⟩ mK=az c 92:=by show cond (az c 92) ae ag=_;cases az c 92<;>rfl
    refine cS (aA h3) rfl ?_;show W.ret (sEq ⟨#[c]⟩ mK)=_;refine rE hs ?_;rfl
   refine qR (Ht (((aaA O R) (Vs V lP) env [] O6 lP _ (Hw ge) (CQ.gl.gi.e ge) aaG).2 _ rfl _ _ λeJ aaH=>?_));have vM:=CQ.ext ge aaH;induction O8:az c 92 with
   |true=>
    refine rE (if_pos rfl) ?_;have e1:bV i ag (c::(sL x).drop (i+1))=bV (i+1) ae ((sL x).drop (i+1)):=by show cond (az c 92) _ _=_;refine rE O8 ?_;rfl
    rw[e1]at hn ku;exact qR (CK (O0 ge vM.gl λoW HK zW=>pE (pE (pE (again ae _ _ oW _ pre ⟨HK,CN vM.st zW λa h=>h▸⟨ve.2.2.1.symm,ve.2.2.2.1.symm⟩⟩ hn ku)))))
   |false=>
    refine rE (if_neg f9) ?_;have e1:bV i ag (c::(sL x).drop (i+1))=(i,[c])::bV (i+1) ag ((sL x).drop (i+1)):=by show cond (az c 92) _ _=_;refine rE O8 ?_;rfl
    rw[e1]at hn ku;refine rE hn (rE bT ?_);refine qR (Hz ge rfl rfl rfl vM (gS2 O) (d:=.tuple [.int i,.str (aj [c])]) ?_ (O7 _ _ ku) λoW aaI=>pE (pE (pE (again ag _ _ oW _ (pre++[(i,[c])]) aaI rfl (by refine rE ku ?_;simp)))));exact Hv (aA vM.gl.h1) (aA h3)
end
section
variable{K:Kt}{A:dU}{V:aY}{env:bF}{ρ:aM}{s aT:ay}{p:Nat→aO}{e it:aE}{D0:List D}
noncomputable def mM(x:ah):aM:=[(0,.val (.str x))]
theorem aaJ(O:bU K)(ge:GE V env)(hr:∃n,bW A (n+10))(hb:K.mg nX=af∧K.mb nX=aa (.type "enumerate"))(gi:GI K V env (mM x) s)(hV:∀a,s.heap.get? a=af→V a)(hn:n=(bV 0 ag (sL x)).length)(hD:D0=pI (sL x)):
  iw (aw prog K.w) A.in1 (gR env.locals (s.heap.objs.size+1) s.heap.objs.size) (gY K V env.locals (s.heap.objs.size+1) s.heap.objs.size D0) n s (.func (o4 p) env) ((aw prog K.w).den (.func (o4 p) env)) [] s:=by
 have nL:∀k,s.heap.objs.size+k≠env.locals:=λk h=>by obtain⟨m,⟨o,_,_,e,_⟩,_⟩:=gi.ns;have:=jD e;replace this:=h.symm▸this;exact absurd this (pA.mpr (nj _ _))
 refine seg_func (qR (CK (oC (Uw ?_))));have O9:GI K V env (mM x) {s with toks:=s.toks+1}:=gi.ext ge .tok;refine O9.store ge (i:=1) (d:=.int 0) (by decide+kernel) (by decide+kernel) (.int _ _) λai dR m₁ Pa=>qR (CK (oC (Ep (dR.store ge (i:=2) (d:=.bool ag) (by decide+kernel) (by decide+kernel) (.bool _) λav iK m₂ Pb=>?_))));have hz:av.heap.objs.size=s.heap.objs.size:=Pb.trans Pa;refine qR (aam (λZ=>rfl) ?_);show ar _ _ (do j4 (p 11) (← eval (.Name nX (p 9)) env) [] (gK (p 11) (f7 [.Name qg (p 10)] env)) []) _ _ av;refine aB ((iK.e ge).builtin (v:=.type "enumerate") (z2 ge (by decide+kernel)) hb (by decide+kernel) ?_);refine A6 rfl (qN (iu ?_));refine(iK.e ge).read (K:=K.gx) O.gx (i:=0) (sl:=.val (.str x)) (show aZ qg vI=aa 0 by decide+kernel) (by rewrite[fS _ (by decide)];rw[fS _ (by decide)];rfl) (by refine rE (z2 ge (k:=.local) (by decide+kernel)) ?_;rfl) λv hv=>j5 ?_;clear Pb Pa dR O9 gi hb;obtain⟨t,rfl⟩:∃t,v=.str x t:=by cases (hv:Rd _ _ v (.str x))with|str x t=>exact⟨t,rfl⟩
 refine call_enumerate_str λh' he hit eY hk=>?_;rw[hz]at he hit ⊢;refine wpAny_pyIter_enum he λpp K' hK=>?_;have bx:Ext av {av with heap:=h'}:=⟨hk,λZ Z e=>e,λe=>e,rfl⟩;refine aaC O ge hr (x:=x) (t:=t) (H:=_) hK (sL x).length 0 ag 0 _ s _ n [] (by omega) ⟨⟨iK.ext ge bx,?_,?_,kX _ _ _,?_,hV _ (EG (wO _)),hV _ (eM _),nL 1,nL 0,Nat.succ_ne_self _⟩,⟨⟨.none,he⟩,hit⟩⟩ (λh=>by exact zF h) (by simpa using hn) rfl hD
 ·rewrite[fS _ (by decide)];rw[fS _ (by decide)];rfl
 ·rewrite[fS _ (by decide)];exact rE (kX ..) rfl
 ·exact(Ext.tok (s:=s)).mv.trans ((m₁.mono (λa h=>.inl h) λZ h=>h).trans ((m₂.mono (λa h=>.inl h) λZ h=>h).trans bx.mv))
theorem HL{g h:Nat}{x:uq}(hn:h≠g):(s.setGen g x).gens[h]? =s.gens[h]? :=by simp only[ahY];exact rE (Array.getElem?_setIfInBounds_ne (Eu hn)) rfl
theorem CR{g:Nat}{x:uq}(h:wC s.gens)(hx:x.bare):wC (s.setGen g x).gens:=by
 intro y hy;refine xE (ahZ.mp hy) λi hi=>?_;by_cases Pd:i=g
 ·clear hy;subst Pd;induction q:s.gens[i]? with
  |some z=>replace hi:=iJ (UQ q▸hi);subst hi;exact hx
  |none=>have h1:s.gens.size≤i:=ah0.mp q;have h2:(s.setGen i x).gens[i]? =af:=ah0.mpr (by simpa[ahY]using h1);exact zN (h2▸hi)
 ·replace hi:=HL Pd▸hi;exact h y (ahZ.mpr ⟨i,hi⟩)
theorem Pe{W:aY}{g:Nat}{x:uq}(m:Mv W (λZ=>False) (s.setGen g .running) ai)(hb:x.bare):Mv W (λh=>h=g) s (ai.setGen g x) where
 keep:=λa o n e=>m.keep a o n e
 gens:=λh y n e=>by refine rE (HL n) ?_;exact m.gens h y (λq=>q) (rE (HL n) e)
 bare:=λh=>CR (m.bare (CR h rfl)) hb
 os:=m.os
variable(K A V env p D0)in
inductive GSt(g:Nat)(x:ah)(Wr:aY)(xs:List D)(s:ay):Prop
 |fresh (eW:Wr=λa=>a=env.locals) (h1:s.gens[g]? =aa (.fresh (.func (o4 p) env))) (h2:GI K V env (mM x) s) (h3:∀a,s.heap.get? a=af→V a) (eX:xs=D0)
 |run (e it:aE) (gs:uq) (eW:Wr=W3 env.locals e it) (ve:V e) (vN:V it) (h1:∀a,W3 env.locals e it a→∃o,s.heap.get? a=aa o) (h2:s.gens[g]? =aa gs) (h3:xs=D0.drop (D0.length - xs.length)) (h4:xs.length≤D0.length)
  (h5:∀s' Ku,Mv Ku (λZ=>True) s s'→(∀a,Ku a→V a∧¬W3 env.locals e it a)→gs.Goes (aw prog K.w) A.in1 (gR env.locals e it) (gY K V env.locals e it D0) xs.length (.send .none) s')
variable(K A V env p D0)in
structure HM(ga:aE)(g:Nat)(x:ah)(Wr:aY)(xs:List D)(s:ay):Prop where
 hg:s.heap.IsGen ga g
 gl:br K (Vs V s) s.heap
 st:GSt K A V env p D0 g x Wr xs s
variable(K A V env D0)in
inductive GGo(g:Nat)(Wr:aY)(xs:List D)(s:ay):Prop
 |mk (e it:aE) (gs:uq) (tP:s.gens[g]? =aa gs) (tQ:gs.Goes (aw prog K.w) A.in1 (gR env.locals e it) (gY K V env.locals e it D0) xs.length (.send .none) (s.setGen g .running)) (z5:∀a,Wr a→W3 env.locals e it a) (z6:∀a,W3 env.locals e it a→Wr a∨s.heap.get? a=af)
  (ve:V e) (vN:V it) (hx:xs=D0.drop (D0.length - xs.length)) (hle:xs.length≤D0.length)
theorem HM.Pf(O:bU K)(ge:GE V env)(hr:∃n,bW A (n+10))(hb:K.mg nX=af∧K.mb nX=aa (.type "enumerate")){ga:aE}{g:Nat}{Wr:aY}{xs:List D}(hD:D0=pI (sL x))(h:HM K A V env p D0 ga g x Wr xs s):
  GGo K A V env D0 g Wr xs s:=by
 rcases h.st with⟨rfl,h1,h2,h3,rfl⟩| ⟨e,it,gs,rfl,h1,h2,h3,h4,h5,h6,h7⟩
 ·refine⟨s.heap.objs.size+1,s.heap.objs.size,_,h1,⟨rfl,aaJ O ge hr hb (s:=s.setGen g .running) ⟨h2.bH,h2.ns,h2.flat⟩ h3 (by refine rE hD ?_;simp[pI]) hD⟩,λa h=>.inl h,λa h=>?_,h3 _ (EG (wO _)),h3 _ (eM _),by rw[Bf];rfl,bZ _⟩;rcases h with h|h|h
  ·exact .inl h
  ·exact .inr (h▸EG (wO _))
  ·exact .inr (h▸eM _)
 ·refine⟨e,it,gs,h4,h7 _ (λZ=>False) ⟨λa o Z e=>e,λZ Z n Z=>(n trivial).elim,λh=>CR h rfl,rfl⟩ (λZ h=>h.elim),λa h=>h,λa h=>.inl h,h1,h2,h5,h6⟩
theorem aaK(O:bU K)(ge:GE V env)(hr:∃n,bW A (n+10))(hb:K.mg nX=af∧K.mb nX=aa (.type "enumerate")){ga:aE}{g:Nat}(hD:D0=pI (sL x)){Pg:aY}(hV:∀a,V a↔Pg a∨a=env.locals)(xH:¬V ga):
  Iter K.w A Pg (.ref ga) (λh=>h=g) (HM K A V env p D0 ga g x) where
 next:=λ{Wr} d xs s Q E h hQ=>by
  obtain⟨e,it,gs,tP,tQ,z5,z6,ve,vN,hx,hle⟩:=h.Pf O ge hr hb hD;refine xE hr λrn fe=>?_;have aaL:(s.setGen g .running).gens[g]? =aa .running:=UQ tP;have w3:∀a,W3 env.locals e it a→V a:=λa h=>h.elim (λh=>h▸ge.VL) λh=>h.elim (λh=>h▸ve) λh=>h▸vN;refine OQ (P:=gP env.locals e it) fe.handled h.gl.lim (by have:=fe.depth;lia) h.hg tP tQ (λv ai mH HN hy=>?_) λai hp=>by cases hp.1
  refine E5 hy λy1 y2 y3 y4 y5=>?_;have yd:D0[D0.length - 1 - (xs.length+1 - 1)]? =aa d:=by
   have h1:(D0.drop (D0.length - (xs.length+1)))[0]? =aa d:=by replace hx:=bT▸hx;refine rS hx ?_;rfl
   replace h1:=(Ud ..)▸Km▸h1;refine rS h1 ?_;congr 1;lia
  have mW:Mv (W3 env.locals e it) (λh=>h=g) s (ai.setGen g mH):=Pe y1 HN;have mWr:Mv Wr (λh=>h=g) s (ai.setGen g mH):=⟨λa o n e'=>mW.keep a o (λk=>(z6 a k).elim n λq=>by replace q:=e'▸q;exact zS q) e',mW.gens,mW.bare,mW.os⟩;have HO:ai.gens[g]? =aa .running:=y1.gens g _ (λq=>q) aaL;refine hQ v (ai.setGen g mH) (W3 env.locals e it) z5 z6 mWr (λU h1 h2=>y2 d yd U (λa k=>?_) h2) ⟨?_,y4,.run e it mH rfl ve vN y3 (UQ HO) ?_ ?_ λs' Ku m nP=>?_⟩
  ·rcases h1 a k with h|h
   ·exact(hV a).mpr (.inl h)
   ·exact w3 a h
  ·exact fy h.hg λo nm qn ho r=>⟨o,nm,qn,mW.keep ga o (λk=>xH (w3 ga k)) ho,r⟩
  ·have h1:(d::xs).drop 1=(D0.drop (D0.length - (d::xs).length)).drop 1:=by exact rS hx rfl
   replace h1:=Ei▸h1;exact rE (show D0.length - xs.length=D0.length - (d::xs).length+1 from(Nat.succ_pred_eq_of_pos (KV hle)).symm) h1
  ·replace hle:=bT▸hle;lia
  ·exact y5 s' Ku ⟨λa o n e'=>m.keep a o n e',λZ Z n Z=>(n trivial).elim,λh=>m.bare (CR h HN),m.os⟩ nP
 done:=λ{Wr} s Q E h hQ=>by
  obtain⟨e,it,gs,tP,tQ,z5,z6,ve,vN,hx,hle⟩:=h.Pf O ge hr hb hD;refine xE hr λrn fe=>OQ (P:=gP env.locals e it) fe.handled h.gl.lim (by have:=fe.depth;lia) h.hg tP tQ (λv ai mH HN hy=>?_) λai hp h' hk=>?_
  ·exact(hy.2.2.2.2 ai (λZ=>False) (.refl _ _ _) λZ h=>h.elim).elim
  ·have mW:Mv (W3 env.locals e it) (λh=>h=g) s (ai.setGen g .finished):=Pe hp.2 rfl;refine hQ _ ⟨λa o n e'=>hk a o (mW.keep a o (λk=>(z6 a k).elim n λq=>by replace q:=e'▸q;exact zS q) e'),mW.gens,mW.bare,mW.os⟩
 self:=λ{Wr} xs s Q E h hQ=>wpAny_pyIter_gen h.hg hQ
 own:=λ{Wr} xs s t v Q E h hQ=>by obtain⟨o,nm,qn,ho,hc,_⟩:=h.hg;exact B6 "generator" (by decide) ho hc hQ
 B5:=λ{Wr} xs s h g' rI=>by
  subst rI;rcases h.st with⟨_,h1⟩| ⟨_,_,_,_,_,_,_,h1⟩
  ·exact⟨_,h1⟩
  ·exact⟨_,h1⟩
 frame:=λ{Wr} xs s s' Ku H h m nP hH=>by
  obtain⟨⟨o,nm,qn,ho,r⟩,hl,h⟩:=h;have z7:∀a,Ku a→V a:=λa k=>(hV a).mpr (.inl (nP a k).1);have pS:br K (Vs V s') s'.heap:=hl.mono (λa o n e=>m.keep a o (λk=>n ⟨z7 a k,o,e⟩) e) λa o e n k=>n ⟨k.1,o,e⟩;refine⟨⟨o,nm,qn,m.keep ga o (λk=>xH (z7 ga k)) ho,r⟩,pS,?_⟩;rcases h with⟨rfl,h1,h2,h3,h4⟩| ⟨e,it,gs,rfl,ve,vN,h1,h2,h3,h4,h5⟩
  ·refine .fresh rfl (m.gens g _ (λk=>hH g k rfl) h1) (h2.mv ge m λa k=>⟨z7 a k,(nP a k).2⟩) (λa k=>?_) h4;induction q:s.heap.get? a with
   |none=>exact h3 a q
   |some o'=>
    by_cases k':Ku a
    ·exact z7 a k'
    ·exact zS (m.keep a o' k' q▸k)
  ·refine .run e it gs rfl ve vN (λa k=>?_) (m.gens g _ (λk=>hH g k rfl) h2) h3 h4 λdh vh m' aaM=>h5 dh (λa=>Ku a∨vh a) ?_ λa k=>?_
   ·exact xE (h1 a k) λo' e'=>⟨o',m.keep a o' (λk'=>(nP a k').2 k) e'⟩
   ·exact(m.mono (λa h=>.inl h) λZ Z=>trivial).trans (m'.mono (λa h=>.inr h) λZ Z=>trivial)
   ·rcases k with k|k
    ·exact⟨z7 a k,(nP a k).2⟩
    ·exact aaM a k
 alive:=λ{Wr} xs s h a ha=>by
  rcases h.st with⟨rfl,_,h2⟩| ⟨e,it,gs,rfl,_,_,h1⟩
  ·obtain⟨m,⟨o,_,_,e,_⟩,_⟩:=h2.ns;exact⟨o,by refine rE ha ?_;exact e⟩
  ·exact h1 a ha
end
structure aaN(K:Kt)(a:aE)(fd:px)(p:Nat→aO):Prop where
 mg:K.mg u4=aa (.ref a)
 fo:∀U h,br K U h→∃o,h.get? a=aa o∧¬U a∧o.data=.func fd∧BV U h fd.code fd.qualname
 body:fd.body=.stmts (o4 p)
 names:fd.scope.names=gW
 kind:fd.scope.kind=.function
 gen:fd.scope.isGenerator
 co:fd.scope.isCoroutine=ag
 gE:fd.closure=[]
 gl:fd.globals=gp
 bi:fd.builtins=jE
 bind:∀v,jG fd ⟨[v],[]⟩=pure [(qg,v)]
 en:K.mg nX=af∧K.mb nX=aa (.type "enumerate")
theorem aaO{K:Kt}{p:Nat→aO}(G:aaN K a fd p)(O:bU K)(hr:∃n,bW A (n+10)):pZ K A where
 gen:=λU s x t g ub hlen=>by
  refine gA (G.fo U s.heap g) λo ho hu hd o5=>⟨a,o,fd,G.mg,ho,hd,λQ E hQ=>?_⟩;refine xE hr λrn fe=>EE (codeAny_call_generator (by have:=fe.depth;lia) ho hd G.co G.gen G.body o5.MD ?_);refine rE (G.bind ..) (bz (wpAny_newFunctionEnv ?_ ?_ (λh' lK cB=>?_) G.kind))
  ·refine rE G.names ?_;decide+kernel
  ·intro y hy;refine rE (dK.mp hy) (rE G.names ?_);show gW.lookup qg=aa .local;decide+kernel
  refine rE G.gE ?_;obtain⟨env,hE⟩:∃env,env=newEnv fd.scope s.heap.objs.size fd.globals [] (fd.qualname++ ".<locals>.") (aa a) fd.code af fd.builtins:=⟨_,rfl⟩;refine rS hE ?_;have hL:env.locals=s.heap.objs.size:=by refine rE hE ?_;rfl
  have keep:∀b o,s.heap.get? b=aa o→h'.get? b=aa o:=λb o e=>by have bQ:b≠s.heap.objs.size:=iU (jD e);exact rE (cB.2 b bQ) (jZ _ e)
  have aq:Ext s {s with heap:=h',toks:=s.toks+1}:=⟨keep,λZ Z e=>e,λe=>e,rfl⟩;refine⟨(g.ext aq).lim,?_⟩;obtain⟨ga,xH⟩:∃ga,ga=h'.objs.size:=⟨_,rfl⟩;obtain⟨av,iH⟩:∃av:ay,av={s with gens:=s.gens.push (.fresh (.func (o4 p) env)),toks:=s.toks+1+1+1,heap:=h'.push {cls:=.type "generator",data:=.fields #[.int s.gens.size 0,.str fd.name (s.toks+1),.str fd.qualname (s.toks+1+1)]}}:=⟨_,rfl⟩;have aC:Ext s av:=by
   refine rE iH ⟨λb o e=>jZ _ (keep b o e),λh y e=>?_,λhb=>?_,rfl⟩
   ·have eV:h<s.gens.size:=by
     rcases Nat.lt_or_ge h s.gens.size with h1|h1
     ·exact h1
     ·exact zN (Ks h1▸e)
    show(s.gens.push _)[h]? =_;refine rE (Array.getElem?_push_lt eV) ?_;exact rS e (rE (Bi eV) rfl)
   ·intro y hy;rcases Array.mem_push.mp hy with h|h
    ·exact hb y h
    ·refine rE h ?_;rfl
  have aaP:av.gens[s.gens.size]? =aa (.fresh (.func (o4 p) env)):=rE iH (Array.getElem?_push_size ..)
  have HP:av.heap.IsGen ga s.gens.size:=⟨_,_,_,by refine rE iH ?_;refine rE xH ?_;exact eT _ rfl,rfl,rfl,rfl⟩;have Ph:av.heap.Ns env.locals (λy=>[(qg,Value.str x t)].reverse.lookup y):=fy lK λo es ep h1 r=>⟨o,es,ep,by refine rE iH ?_;refine rE hL ?_;exact jZ _ h1,r⟩
  have eY:s.heap.objs.size<ga:=rE xH (rE cB.1 (rE (A1 ..) (Eg _)))
  suffices hW:∀aR,Ext av aR→zB K.w A U s aR (.ref ga) (pI (sL x))by rw[iH]at aC hW;replace hW:=xH▸hW;exact hQ _ _ aC hW
  intro aR bx Q' E' z8;refine wpAny_pyIter_gen (HP.keeps bx.keep) ?_;have fL:s.heap.get? env.locals=af:=rE hL (eM _)
  have fg:s.gens[s.gens.size]? =af:=Ks (bZ _);have Pj:=aC.trans bx;have aL:∃o,aR.heap.get? env.locals=aa o:=fy Ph λo Z Z e Z=>⟨o,bx.keep _ _ e⟩;have Pk:∃o,aR.heap.get? ga=aa o:=fy HP λo Z Z e Z=>⟨o,bx.keep _ _ e⟩;have Pl:s.heap.get? ga=af:=EG (d4 eY);obtain⟨V,hV⟩:∃V:aY,∀a,V a↔(U a∨aR.heap.get? a=af)∨a=env.locals:=⟨_,λZ=>Ba⟩;have ge:GE V env:=⟨by refine rE hE ?_;exact G.kind,by refine rE hE ?_;exact G.gl,by refine rE hE ?_;exact G.bi,by refine rE hE ?_;rfl,by refine rE hE ?_;exact G.names,(hV _).mpr (.inr rfl),by refine rE hE ?_;exact G.co⟩;have bH:br K (Vs V aR) aR.heap:=g.mono (λa o Z e=>Pj.keep a o e) λa o e n k=>by
   rcases(hV a).mp k.1 with(h|h)|h
   ·exact n h
   ·exact zS (Pj.keep a o e▸h)
   ·replace e:=h▸e;exact zN (fL▸e)
  refine z8 (.ref ga) (λa=>a=env.locals) (λh=>h=s.gens.size) _ aR (.refl _) (λa h=>h▸fL) (λh e=>e▸fg) (aaK (p:=p) (V:=V) (x:=x) O ge ⟨rn,fe⟩ G.en rfl hV λh=>?_) ⟨HP.keeps bx.keep,bH,.fresh rfl (bx.gens _ _ aaP) ⟨bH,⟨_,Ph.keeps bx.keep,λy i d h1 h2=>?_⟩,λi sl h=>?_⟩ (λa h=>(hV a).mpr (.inl (.inr h))) rfl⟩
  ·rcases(hV ga).mp h with(h|h)|h
   ·exact xE (ub ga h) λo e=>zN (Pl▸e)
   ·exact xE Pk λo e=>zN (h▸e)
   ·replace eY:=hL▸h▸eY;exact qF _ eY
  ·unfold mM get at h2;refine xA (cj h2) λh3 h4=>?_;clear h2 bH ge Pl Pk aL;cases h4;have:=fZ h3;clear h3;subst this;have hy:y=qg:=tu h1 (by decide+kernel);clear h1;subst hy;exact⟨.str x t,by simp[wN],.str _ _⟩
  ·unfold mM get at h;refine xA (cj h) λZ h4=>?_;clear h bH;replace h4:=iJ h4;subst h4;exact⟨_,rfl⟩
open PySem.Sre in
theorem aaQ{code text:Array Nat}{lim:Nat}(oX:∀i,i<lim→∀seen,∃jw,inSet code (text.getD i 0) code.size 5 ae seen=.ok (ag,jw))(m:M)(hc:m.code=code)(ht:m.text=text)(hl:m.lim=lim):
  ∀ (fuel s:Nat) (seen:KW),∃jw,M.admitted m fuel s seen=.ok (af,jw):=by
 intro L0;induction L0 with
 |zero=>intro s seen;exact⟨seen,rfl⟩
 |succ fuel ih=>
  intro s seen;show ∃jw,(if s≥m.lim then _ else _)=_;by_cases h:s≥m.lim
  ·exact⟨seen,if_pos h⟩
  ·refine rE (if_neg h) (xE (oX s (hl▸Nat.not_le.mp h) seen) λjw e=>rE hc (rE ht (rE e ?_)));exact ih (s+1) jw
open PySem.Sre in
theorem Pm{code text:Array Nat}{lim:Nat}(oX:∀i,i<lim→∀seen,∃jw,inSet code (text.getD i 0) code.size 5 ae seen=.ok (ag,jw)){m:M}(hc:m.code=code)(ht:m.text=text)(hl:m.lim=lim){fuel s:Nat}{seen:KW}{r}(h:M.admitted m fuel s seen=r):
  ∃jw,r=.ok (af,jw):=by
 exact xE (aaQ oX m hc ht hl fuel s seen) λa e=>⟨a,h.symm.trans e⟩
open PySem.Sre in
set_option tactic.hygienic true in
theorem Pn{code text:Array Nat}{lim b:Nat}(h1:header code=(1,b))(HA:((match ops[code.getD 0 0]? with|some .INFO=>ae|_=>ag)&&code.getD 2 0 == 4)=ae)
  (oX:∀i,i<lim→∀seen,∃jw,inSet code (text.getD i 0) code.size 5 ae seen=.ok (ag,jw)):
  (forSearch code text 0 0 lim ag).answer=aa ag∧(forSearch code text 0 0 lim ag).frames=[]∧(forSearch code text 0 0 lim ag).outcome=af:=by
 unfold forSearch;refine rE h1 ?_;dsimp only;split
 ·exact⟨rfl,rfl,rfl⟩
 ·unfold M.attemptFrom;have hf:∀m:M,m.code=code→M.hasFirstSet m:=λm e=>by unfold M.hasFirstSet;refine rE e ?_;exact HA
  rw[if_neg]
  ·split
   ·rename_i he;refine xE (Pm oX rfl rfl rfl he) λ_ e=>?_;cases e
   ·exact⟨rfl,rfl,rfl⟩
   ·rename_i he;refine xE (Pm oX rfl rfl rfl he) λ_ e=>?_;cases e
  ·exact rE (hf _ rfl) f9
theorem Po{M:sQ}(c:Nat→Bool)(f:Nat→String):∀ (l:ax) {Q:PUnit→ay→Prop},Q ⟨⟩ s→
  ar M A (forIn l UR λi Z=>if c i then(do rule (f i);pure (sO UR))else pure (sO UR)) Q E s:=by
 intro L0;induction L0 with
 |nil=>intro Q h;exact rE List.forIn_nil (bz h)
 |cons i l ih=>
  intro Q h;refine rE (KH ..) (aB ?_);split
  ·exact aB (EA (bz (ih h)))
  ·exact bz (ih h)
theorem aaR{M:sQ}{m:yN}(h1:m.answer=aa ag)(h2:m.frames=[])(h3:m.outcome=af){Q:Option yN→ay→Prop}(hQ:Q af s):
  ar M A (KX m) Q E s:=by
 have aaS:m.step={m with outcome:=aa .failed}:=by unfold yN.step;refine rE h3 (rE h1 (rE h2 ?_));rfl
 have HO:m.runFor EH={m with outcome:=aa .failed}:=by show(if m.outcome.isSome then m else yN.runFor 3 m.step)=_;refine rE h3 (rE aaS ?_);rfl
 unfold KX;refine aB ?_;show ar M A (KY (18446744073709551615+1) m) _ _ s;unfold KY;refine rE HO (bz ?_);dsimp only;exact aB (Po (λi=>m.seen.has i) (λi=>Sre.names.getD i "") _ (bz hQ))
noncomputable def iL:Array Nat:= #[14,10,4,1,1,22,0,31,16,127,0,13,7,22,0,31,16,127,0,1]
noncomputable def jR:Array Nat:= #[14,14,4,1,1,9,4294966783,0,0,2147483648,0,0,0,0,0,13,11,9,4294966783,0,0,2147483648,0,0,0,0,0,1]
theorem aaT{c:Nat}(h1:32≤c)(h2:c<127)(seen:KW):∃jw,oF iL c iL.size 5 ae seen=.ok (ag,jw):=by
 have e1:oF iL c 20 5 ae seen=if(decide (0≤c)&&decide (c≤31)) then .ok (ae,seen.add 22)else oF iL c 19 8 ae (seen.add 22):=rfl
 have e2:oF iL c 19 8 ae (seen.add 22)=if(c == 127) then .ok (ae,(seen.add 22).add 16)else oF iL c 18 10 ae ((seen.add 22).add 16):=rfl
 have e3:oF iL c 18 10 ae ((seen.add 22).add 16)=.ok (ag,((seen.add 22).add 16).add 0):=rfl;refine⟨((seen.add 22).add 16).add 0,(show oF iL c 20 5 ae seen=_ from ?_)⟩;refine rE e1 ?_;rewrite[if_neg];refine rE e2 ?_;rewrite[if_neg];exact rE e3 rfl
 ·intro h;rw[beq_iff_eq]at h;lia
 ·intro h;replace h:=(j0 ..)▸h;rewrite[decide_eq_true_eq]at h;rw[decide_eq_true_eq]at h;lia
theorem aaU:∀c,c<127→32≤c→(decide (c<256)&&(jR.getD (5+(1+c/32)) 0).testBit (c%32))=ag:=by decide+kernel
theorem aaV{c:Nat}(h1:32≤c)(h2:c<127)(seen:KW):∃jw,oF jR c jR.size 5 ae seen=.ok (ag,jw):=by
 have e1:oF jR c 28 5 ae seen=if(decide (c<256)&&(jR.getD (5+(1+c/32)) 0).testBit (c%32)) then .ok (ae,seen.add 9)else oF jR c 27 14 ae (seen.add 9):=rfl
 have e3:oF jR c 27 14 ae (seen.add 9)=.ok (ag,(seen.add 9).add 0):=rfl;refine⟨(seen.add 9).add 0,(show oF jR c 28 5 ae seen=_ from ?_)⟩;exact rE e1 (rE (aaU c h2 h1) (rE (if_neg f9) (rE e3 rfl)))
noncomputable def HQ(h:aP)(v:ak)(code:Array Nat):Prop:=
 ∃a o fs c oc items n,v=.ref a∧h.get? a=aa o∧o.cls=.type "re.Pattern" ∧o.data=.fields fs∧fs.getD 5 .none=.ref c∧Bj (fs.getD 6 .none)=0∧Bj (fs.getD 2 .none)=0∧
  h.get? c=aa oc∧oc.data=.seq items n∧(items.map US).map (·.toNat)=code
theorem aaW{M:sQ}{pv:ak}{code:Array Nat}(hc:code=iL∨code=jR)(hr:HQ s.heap pv code)(hx:iz x)(hQ:Q .none s):
  ar M A (qM.«re.Pattern.search» ⟨[pv,.str x t],[]⟩) (λfin s'=>∃v,fin=.done (.ret v)∧Q v s') E s:=by
 obtain⟨a,o,fs,c,oc,items,n,rfl,ho,oR,hd,h5,h6,h2,rW,HR,z0⟩:=hr;have oX:∀i,i<min (2^63 - 1:Int).toNat x.cps.size→∀seen,∃jw,oF code (x.cps.getD i 0) code.size 5 ae seen=.ok (ag,jw):=λi hi seen=>by
  have eV:i<x.cps.size:=ia hi (uo _ _);have hm:x.cps.getD i 0∈sL x:=by
   have:x.cps.getD i 0=x.cps[i]:=by simp[Array.getD,eV]
   exact rE this (ah1.mpr (ah2 eV))
  have h:=fk.mp hx _ hm;replace h:=(j0 ..)▸h;have h1:=bc h.1;have h2:x.cps.getD i 0<127:=bc h.2;rcases hc with e|e<;>subst e
  ·exact aaT h1 h2 seen
  ·exact aaV h1 h2 seen
 have hf:(EJ code x.cps 0 0 (min (2^63 - 1:Int).toNat x.cps.size) ag).answer=aa ag∧(EJ code x.cps 0 0 (min (2^63 - 1:Int).toNat x.cps.size) ag).frames=[]∧(EJ code x.cps 0 0 (min (2^63 - 1:Int).toNat x.cps.size) ag).outcome=af:=by
  rcases hc with e|e<;>subst e
  ·exact Pn (b:=11) rfl rfl oX
  ·exact Pn (b:=15) rfl rfl oX
 unfold qM.«re.Pattern.search»;refine aB ?_;unfold ah3;have HS:ah4 "re.Pattern.search" "search" ["string","pos","endpos"] 1 [.str x t] []=pure [aa (.str x t),af,af]:=rfl;dsimp only;refine aB (ow HS ?_);dsimp only;refine aB (bz (aB (bz ?_)));refine aB (wpAny_fieldsOf ho hd ?_);refine aB (ow (a:=(x.cps,0)) rfl ?_);dsimp only;refine rE h6 (rE h2 (rE h5 ?_));refine rE (if_neg (by decide)) (rE (if_neg (by decide)) ?_);refine aB (ow (a:=()) rfl ?_);refine aB ?_;unfold ah5;refine aB (wpAny_seqItems rW HR (bz (bz ?_)));unfold ah6;have hz:min (Int.toNat 0) x.cps.size=0:=D6 (eo _);simp only[Ug,z0,hz];refine aB (aaR hf.1 hf.2.1 hf.2.2 ?_);exact bz ⟨.none,rfl,hQ⟩
theorem aaX:PlainAttrs "re.Pattern" :=
 ⟨⟨"object.__getattribute__",by refine rE (qS ..) ?_;refine rE qT ?_;kernel_rfl,by decide+kernel⟩,by refine rE (qS ..) ?_;refine rE qT ?_;kernel_rfl⟩
theorem aaY:Manifest.owners.lookup (Ee ['n','r','e','t','t','a','P','.','e','r'].reverse)=aa Manifest.sig_re_Pattern:=by kernel_rfl
theorem Pp:UA "re.Pattern" "search" "re.Pattern.search" :=
 .of (owner:= "re.Pattern") (n:= "search") (by refine rE (qS ..) (rE qT ?_);kernel_rfl) (by decide+kernel) (by decide+kernel) (by decide+kernel)
  (by first|exact .inl (by decide+kernel)|exact .inr (by decide+kernel)) (by refine rE (isSubtype_type ..) ?_;kernel_rfl)
theorem aaZ:typeOf (.builtin "re.Pattern.search")=pure (.type "method_descriptor"):=by show builtinType _=_;refine rE builtinType_eq_fast ?_;kernel_rfl
theorem aa0:entryFor table "re.Pattern.search" =aa qM.«re.Pattern.search» :=entryFor_of_tree (by kernel_rfl)
theorem aa1(a b:ak):argsOk "re.Pattern.search" ⟨[a,b],[]⟩:=by unfold argsOk;refine rE (signature?_of (id:= "re.Pattern.search") (n:=['h','c','r','a','e','s']) (o:=['n','r','e','t','t','a','P','.','e','r']) (by kernel_rfl) aaY) ?_;kernel_rfl
structure Meth(K:Kt)(a:aE)(fd:px)(ks:cT)(body:List a9):Prop where
 obj:∃o,K.fr a o∧o.cls=.type "function" ∧o.data=.func fd
 code:∃c oc vs t,fd.code=.ref c∧K.fr c oc∧oc.data=.fields vs∧vs[1]? =aa (.str fd.qualname t)
 body:fd.body=.stmts body
 names:fd.scope.names=ks
 kind:fd.scope.kind=.function
 co:fd.scope.isCoroutine=ag
 gen:fd.scope.isGenerator=ag
 gE:fd.closure=[]
 gl:fd.globals=gp
 bi:fd.builtins=jE
section
variable{K:Kt}
theorem Meth.at(M:Meth K a fd ks body){h:aP}(g:br K U h):∃o,h.get? a=aa o∧o.cls=.type "function" ∧o.data=.func fd∧h.CodeRec fd.code fd.qualname:=j8 M.obj λo h1 h2 h3=>w7 M.code λc oc vs t c1 c2 c3 c4=>⟨o,(g.iV a o h1).1,h2,h3,c,oc,vs,t,c1,(g.iV c oc c2).1,c3,c4⟩
theorem lS{m:gy}{v:ak}(hk:env.scope.kind=.function)(k:env.kindOf x=aa .local)(n:s.heap.Ns env.locals m)(e:m x=aa v)(hd:(x == ("__debug__" :ah))=ag)(hQ:Q v s):
  ar (aw prog K.w) A (eval (.Name x p) env) Q E s:=yB (wK hk k n e hQ) hd
theorem Pq{v:ak}(hk:env.scope.kind=.function)(k:env.kindOf x=aa .globalImplicit)(hg:env.globals=gp)(g:br K U s.heap)(e:K.mg x=aa v)(hd:(x == ("__debug__" :ah))=ag)(hQ:Q v s):
  ar (aw prog K.w) A (eval (.Name x p) env) Q E s:=Kz hk k (loadGlobal_global (mg:=K.mg) (rE hg g.ng) e hQ) hd
theorem z9{v:ak}(hk:env.scope.kind=.function)(k:env.kindOf x=aa .globalImplicit)(hg:env.globals=gp)(hb:env.builtins=jE)(g:br K U s.heap)
  (e:K.mg x=af∧K.mb x=aa v) (hd:(x == ("__debug__" :ah))=ag) (hQ:Q v s):ar (aw prog K.w) A (eval (.Name x p) env) Q E s:=
 Kz hk k (ahw (mg:=K.mg) (mb:=K.mb) (rE hg g.ng) e.1 (rE hb g.nb) e.2 hQ) hd
end
noncomputable def aa2(p:Nat→aO):List a9:=[.Raise (aa (.Call (.Name my (p 19)) [.Constant (.str te) 0 (p 20)] [] (p 21))) af (p 22)]
noncomputable def Pr(p:Nat→aO):List a9:=[.If (.Call (.Attribute (.Name "regex" (p 11)) "search" (p 12)) [.Name "value" (p 13)] [] (p 14)) (aa2 p) [] (p 15),.Return (aa (.Name "value" (p 16))) (p 17)]
noncomputable def Pt(p:Nat→aO)(R:a9):List a9:=
 [.If (.Compare (.Call (.Name "type" (p 0)) [.Name "value" (p 1)] [] (p 2)) [.Is] [.Name "str" (p 3)] (p 4))
  (.Assign [.Name "regex" (p 5)] (.IfExp (.Name "name" (p 6)) (.Name "_name_disallowed_re" (p 7)) (.Name "_value_disallowed_re" (p 8)) (p 9)) (p 10)::Pr p) [] (p 18),R]
noncomputable def xI:List (ah × eC):=[("self",.local),("value",.local),("name",.local),("regex",.local),("type",.globalImplicit),("str",.globalImplicit),("_name_disallowed_re",.globalImplicit),("_value_disallowed_re",.globalImplicit),("ValueError",.globalImplicit),("AssertionError",.globalImplicit),("repr",.globalImplicit)]
theorem HT:xI.lookup ("self" :ah)=aa .local∧xI.lookup ("value" :ah)=aa .local∧xI.lookup ("name" :ah)=aa .local:=by decide+kernel
theorem aa3:("value" :ah)≠("regex" :ah):=by decide+kernel
theorem Pu:(("value" :ah) == ("name" :ah))=ag:=by decide+kernel
inductive vO(P:aE→fJ→Prop)(v:ak)(code:Array Nat):Prop
 |mk (a:aE) (o:fJ) (fs:Array ak) (c:aE) (oc:fJ) (items:Array ak) (n:Nat) (n1:v=.ref a) (n2:P a o) (n3:o.cls=.type "re.Pattern") (n0:o.dict=af) (n4:o.data=.fields fs) (n5:fs.getD 5 .none=.ref c) (n6:Bj (fs.getD 6 .none)=0)
  (n7:Bj (fs.getD 2 .none)=0) (n8:P c oc) (n9:oc.data=.seq items n) (CS:(items.map US).map (·.toNat)=code)
noncomputable abbrev rX(h:aP):ak→Array Nat→Prop:=vO λa o=>h.get? a=aa o
theorem vO.imp{P P':aE→fJ→Prop}{v:ak}{code:Array Nat}(r:vO P v code)(f:∀a o,P a o→(∀es ep,o.data≠.dict es ep)→P' a o):vO P' v code:=by obtain⟨a,o,fs,c,oc,items,n,n1,n2,n3,n0,n4,n5,n6,n7,n8,n9,CS⟩:=r;exact⟨a,o,fs,c,oc,items,n,n1,f _ _ n2 (λes ep q=>nomatch (n4.symm.trans q)),n3,n0,n4,n5,n6,n7,f _ _ n8 (λes ep q=>nomatch (n9.symm.trans q)),n9,CS⟩
theorem vO.code{h:aP}{v:ak}{code:Array Nat}(r:rX h v code):HQ h v code:=by obtain⟨a,o,fs,c,oc,items,n,n1,n2,n3,n0,n4,n5,n6,n7,n8,n9,CS⟩:=r;exact⟨a,o,fs,c,oc,items,n,n1,n2,n3,n4,n5,n6,n7,n8,n9,CS⟩
structure k9(K:Kt)(fC:aE)(fd:px)(p:Nat→aO)(R:a9):Prop where
 m:Meth K fC fd xI (Pt p R)
 bind:∀a b c:ak,jG fd ⟨[a,b],[(("name" :ah),c)]⟩=pure [(("self" :ah),a),(("value" :ah),b),(("name" :ah),c)]
 line:cH (p 12) (p 14)
 ty:K.mg "type" =af∧K.mb "type" =aa (.type "type")
 rn:∃v,K.mg "_name_disallowed_re" =aa v∧vO K.fr v iL
 rv:∃v,K.mg "_value_disallowed_re" =aa v∧vO K.fr v jR
section
variable{K:Kt}
theorem k9.xJ{p:Nat→aO}{R:a9}(c:k9 K fC fd p R):∃vn vv,K.mg "_name_disallowed_re" =aa vn∧K.mg "_value_disallowed_re" =aa vv∧∀U h,br K U h→rX h vn iL∧rX h vv jR:=aD c.rn λvn n1 n2=>aD c.rv λvv v1 v2=>⟨vn,vv,n1,v1,λU h g=>⟨n2.imp λa o k Z=>(g.iV a o k).1,v2.imp λa o k Z=>(g.iV a o k).1⟩⟩
theorem Pw{pv:ak}{code:Array Nat}(hr:rX s.heap pv code){p1 p3 p4:aO}{nr nv:ah}(hl:cH p2 p4)
  (h1:∀ (Q E:aW),Q pv s→ar (aw prog K.w) A (eval (.Name nr p1) env) Q E s) (h2:∀ (Q E:aW),Q (.str x t) s→ar (aw prog K.w) A (eval (.Name nv p3) env) Q E s) {Q E:aW}
  (hQ:∀ (M:sQ) (A:dU) (E:aW),ar M A (qM.«re.Pattern.search» ⟨[pv,.str x t],[]⟩) (λfin s'=>∃v,fin=.done (.ret v)∧Q v s') E s):
  ar (aw prog K.w) A (eval (.Call (.Attribute (.Name nr p1) "search" p2) [.Name nv p3] [] p4) env) Q E s:=by
 obtain⟨a,o,_,_,_,_,_,rfl,ho,oR,hd⟩:=hr;refine pQ rfl hl (bc rfl) rfl (h1 _ _ λpl=>KD (T:= "re.Pattern") ⟨o,ho,oR⟩ aaX Pp aaZ (λb e=>by cases e;exact⟨o,ho,hd⟩) ?_);refine uC rfl (qN (iu (h2 _ _ (j5 ?_))));exact yz Pp ⟨o,ho,oR⟩ aa0 (hQ _ _ _) (aa1 _ _)
structure Px(s:ay)(env:bF):Prop where
 kind:env.scope.kind=.function
 look:∀y k,xI.lookup y=aa k→env.kindOf y=aa k
 gl:env.globals=gp
 bi:env.builtins=jE
 frame:env.frame=aa env.locals
 new:s.heap.get? env.locals=af
theorem Py{p:Nat→aO}{R:a9}(c:k9 K fC fd p R)(O:bU K)(hr:A.depth<iS)(g:br K U s.heap){sv:ak}
  (h:∀env rv m av,Px s env→Ext s av→rX av.heap rv (cond b iL jR)→av.heap.Ns env.locals m→m "value" =aa (.str x t)→m "regex" =aa rv→
   ar (aw prog K.w) (A.deeper env) (oA (Pr p) env) (λf s'=>∃v,f=.ret v∧Q v s') (λe s'=>ar (aw prog K.w) (A.deeper env) (leaving env e) (λZ dh=>E e dh) E s') av):
  ar (aw prog K.w) A (call (.ref fC) [sv,.str x t] [(("name" :ah),.bool b)]) Q E s:=by
 refine gA (c.m.at g) λo ho oR hd o5=>?_;refine EE (codeAny_call_def hr ho hd g.lim o5 c.m.body (KZ (c.bind sv (.str x t) (.bool b))) (by refine rE c.m.names ?_;decide+kernel) (by
  intro y hy;refine rE c.m.names ?_;simp only[bE,sN,or_false]at hy;rcases hy with rfl|rfl|rfl
  ·exact HT.1
  ·exact HT.2.1
  ·exact HT.2.2) (λh₀ lK hk=>?_) c.m.co c.m.gen c.m.kind)
 obtain⟨env,hE⟩:∃env,env=callEnv fd s.heap.objs.size fC:=⟨_,rfl⟩;have hL:env.locals=s.heap.objs.size:=by refine rE hE ?_;rfl
 have fL:s.heap.get? env.locals=af:=rE hL (eM _)
 have V:Px s env:=⟨by refine rE hE ?_;exact c.m.kind,λy k h=>by refine rE hE ?_;show fd.scope.names.lookup y=_;refine rE c.m.names ?_;exact h,by refine rE hE ?_;exact c.m.gl,by refine rE hE ?_;exact c.m.bi,by refine rE hE ?_;rfl,fL⟩;obtain⟨lN,mO,CT,Pz,_,_⟩:=id V;refine rS hE ?_;replace lK:=hL.symm▸lK;obtain⟨ai,k8⟩:∃ai:ay,ai={s with heap:=h₀,toks:=s.toks+[(("self" :ah),sv),("value",.str x t),("name",.bool b)].length}:=⟨_,rfl⟩;refine rS k8 ?_;have aq:Ext s ai:=rE k8 ⟨hk,λZ Z e=>e,λe=>e,rfl⟩
 have CU:ai.heap.Ns env.locals (λy=>[(("self" :ah),sv),("value",.str x t),("name",.bool b)].reverse.lookup y):=rE k8 lK
 have dR:=g.ext aq;refine gw (wQ (yF ?_ rfl));show ar _ _ (do j4 (p 2) (← eval (.Name "type" (p 0)) env) [] (gK (p 2) (f7 [.Name "value" (p 1)] env)) []) _ _ ai;refine aB (z9 lN (mO _ _ (by decide+kernel)) CT Pz dR c.ty (by decide+kernel) (A6 rfl (qN (iu ?_))));refine lS lN (mO _ _ (by decide+kernel)) CU (v:=.str x t) (by simp[wN,Pu]) (by decide+kernel) (j5 (call_type_of (Uc _ _ _) (by decide+kernel) ?_));refine z9 lN (mO _ _ (by decide+kernel)) CT Pz dR O.str (by decide+kernel) (wpAny_is_self rfl (lu ?_));refine rE (if_pos rfl) (cK c.xJ λvn vv mn mv xJ=>?_);have fin:∀ (rv:ak),rX ai.heap rv (cond b iL jR)→∀ (Q':Unit→ay→Prop) (E':aW),(∀av m,Ext s av→rX av.heap rv (cond b iL jR)→av.heap.Ns env.locals m→m "value" =aa (.str x t)→m "regex" =aa rv→Q' () av)→
   ar (aw prog K.w) (A.deeper env) (qO env "regex" rv) Q' E' ai:=by
  intro rv aa4 Q' E' z8;refine Ew (hp:=by refine rE lN ?_;rfl) (mO _ _ (by decide+kernel)) CU λey CA cB=>?_;have aC:Mv (λa=>a=env.locals) (λZ=>False) ai {ai with heap:=ey,toks:=ai.toks+1}:=⟨λa o n e=>(cB.2 a n).trans e,λZ Z Z e=>e,λe=>e,rfl⟩;have zV:Ext s {ai with heap:=ey,toks:=ai.toks+1}:=aC.ext aq (λc h=>h▸fL) λZ h=>h.elim;have aa5:rX ey rv (cond b iL jR):=by
   have bQ:∀a o,ai.heap.get? a=aa o→(∀es ep,o.data≠.dict es ep)→ey.get? a=aa o:=λa o e kZ=>by refine(cB.2 a λq=>?_).trans e;refine ic CU λo' es ep gB dB Z=>?_;replace gB:=iJ (e▸q.symm▸gB);subst gB;exact kZ es ep dB
   exact aa4.imp bQ
  exact z8 _ _ zV aa5 CA (by simp[wN,Pu,aa3]) (by simp)
 refine gw (oC (wpAny_IfExp (K0 (lS lN (mO _ _ (by decide+kernel)) CU (v:=.bool b) (by simp[wN]) (by decide+kernel) (lu ?_)))));induction b with
 |true=>exact rE (if_pos rfl) (Pq lN (mO _ _ (by decide+kernel)) CT dR mn (by decide+kernel) (fin vn (xJ U _ dR).1 _ _ λav m x r n e1 e2=>ib (h env vn m av V x r n e1 e2) (λf s' ⟨v,e,q⟩=>by subst e;exact q) λe s' q=>q))
 |false=>exact rE (if_neg f9) (Pq lN (mO _ _ (by decide+kernel)) CT dR mv (by decide+kernel) (fin vv (xJ U _ dR).2 _ _ λav m x r n e1 e2=>ib (h env vv m av V x r n e1 e2) (λf s' ⟨v,e,q⟩=>by subst e;exact q) λe s' q=>q))
theorem aa6{p:Nat→aO}{R:a9}(c:k9 K fC fd p R)(O:bU K)(hr:A.depth<iS)(g:br K U s.heap){sv:ak}(hx:iz x)
  (hQ:∀s',Ext s s'→Q (.str x t) s'):ar (aw prog K.w) A (call (.ref fC) [sv,.str x t] [(("name" :ah),.bool b)]) Q E s:=
 Py c O hr g λenv rv m av V aC Aa n e1 e2=>by have PA:∀ (pp:aO) {Q E:aW},Q (.str x t) av→ar (aw prog K.w) (A.deeper env) (eval (.Name "value" pp) env) Q E av:=λpp Z Z h=>lS V.kind (V.look _ _ (by decide+kernel)) n e1 (by decide+kernel) h;refine gw (wQ (K0 (Pw Aa c.line (λQ E h=>lS V.kind (V.look _ _ (by decide+kernel)) n e2 (by decide+kernel) h) (λQ E h=>PA _ h) λM A E=>aaW (by induction b<;>simp) Aa.code hx (PyProof.Rows.truthy_none ?_))));exact rE (if_neg f9) (oB (gw (EC (PA _ ⟨_,rfl,hQ av aC⟩))))
end
noncomputable def HU(m:yN):Bool:=match m.outcome with|some .matched=>ae|_=>ag
theorem aa7:∀c,c<128→(aX 32 c&&aU c 127)=ag→HU ((EJ iL #[c] 0 0 1 ag).runFor 4):=by decide+kernel
theorem mtB:qI (.type "re.Match") "__bool__" =pure af:=by refine rE (qS ..) (rE qT ?_);kernel_rfl
theorem mtL:qI (.type "re.Match") "__len__" =pure af:=by refine rE (qS ..) (rE qT ?_);kernel_rfl
theorem aa8{M:sQ}{Q:Bool→ay→Prop}{o:fJ}(h:s.heap.get? a=aa o)(hc:o.cls=.type "re.Match")(hQ:Q ae s):ar M A (Em (.ref a)) Q E s:=by have T:s.TypeIs (.ref a) "re.Match" :=⟨_,h,hc⟩;unfold Em;exact aB (wpAny_callSpecial?_none T mtB (aB (wpAny_specialOf T mtL (bz hQ))))
theorem aa9{M:sQ}{m:yN}(h:HU (m.runFor EH)){Q:Option yN→ay→Prop}(hQ:Q (aa (m.runFor EH)) s):
  ar M A (KX m) Q E s:=by
 unfold KX;refine aB ?_;show ar M A (KY (18446744073709551615+1) m) _ _ s;unfold KY;dsimp only;generalize m.runFor EH=m' at h hQ;unfold HU at h;have ho:m'.outcome=aa .matched:=by
  split at h
  ·assumption
  ·exact zF h
 refine rE (if_pos (by refine rE ho ?_;rfl)) ?_;refine bz (aB (Po (λi=>m'.seen.has i) (λi=>Sre.names.getD i "") _ ?_));exact rE ho (bz hQ)
theorem aba{M:sQ}{pv:ak}(hr:HQ s.heap pv iL)(hx:iz x=ag)(ha:mi (sL x))(hl:(sL x).length=1)
  (hQ:∀a s',Ext s s'→(∃o,s'.heap.get? a=aa o∧o.cls=.type "re.Match")→Q (.ref a) s'):
  ar M A (qM.«re.Pattern.search» ⟨[pv,.str x t],[]⟩) (λfin s'=>∃v,fin=.done (.ret v)∧Q v s') E s:=by
 obtain⟨a,o,fs,c,oc,items,n,rfl,ho,oR,hd,h5,h6,h2,rW,HR,z0⟩:=hr;obtain⟨ch,HV⟩:∃ch,sL x=[ch]:=ahy.mp hl;have PB:x.cps= #[ch]:=Kx.mp HV;have eV:ch<128:=by replace ha:=HV▸ha;have h:=(fM.mp ha).1;exact bc h
 have abb:(aX 32 ch&&aU ch 127)=ag:=by unfold iz at hx;replace hx:=HV▸hx;have:((aX 32 ch&&aU ch 127)&&ae)=ag:=hx;rwa [EK]at this
 have hf:=aa7 ch eV abb;unfold qM.«re.Pattern.search»;refine aB ?_;unfold ah3;have HS:ah4 "re.Pattern.search" "search" ["string","pos","endpos"] 1 [.str x t] []=pure [aa (.str x t),af,af]:=rfl;dsimp only;refine aB (ow HS ?_);dsimp only;refine aB (bz (aB (bz ?_)));refine aB (wpAny_fieldsOf ho hd ?_);refine aB (ow (a:=(x.cps,0)) rfl ?_);dsimp only;refine rE h6 (rE h2 (rE h5 ?_));refine rE (if_neg (by decide)) (rE (if_neg (by decide)) ?_);refine aB (ow (a:=()) rfl ?_);refine aB ?_;unfold ah5;refine aB (wpAny_seqItems rW HR (bz (bz ?_)));unfold ah6;have hz:min (Int.toNat 0) x.cps.size=0:=D6 (eo _);have hm:min (2^63 - 1:Int).toNat x.cps.size=1:=by refine rE PB ?_;rfl
 simp only[Ug,z0,hz,hm];refine rE PB (aB (aa9 hf ?_));generalize (EJ iL #[ch] 0 0 1 ag).runFor EH=m;refine aB ?_;unfold qM.Re.reNewMatch newFields;show ar M A (newTuple [rawInt (m.start:Int),rawInt (m.handed:Int)] >>= λu=>newObj (.type "re.Match") (.fields #[.str x t,.ref a,rawInt 0,rawInt 1,rawInt m.lastindex,u])) _ E s;refine aB (Ej (yM ?_));exact bz ⟨_,rfl,hQ _ _ (Ext.push.trans (.push (k:=s.toks))) ⟨_,eT _ rfl,rfl⟩⟩
section
variable{K:Kt}
theorem oU.ext{base:aP}{fs:List bF}{e:aE}(x:Ext aT s)(f:oU base fs e s s'):oU base fs e aT s':=
 ⟨f.tK,(ah7 x.keep).trans f.up,λg y h=>f.gens g y (x.gens g y h),λh=>f.bare (x.bare h),f.os.trans x.os⟩
theorem PC{base h:aP}(k:base.StaysIn h){b:aE}(e:h.get? b=af):base.get? b=af:=by
 induction q:base.get? b with
 |none=>rfl
 |some o=>have:=k b o q;exact zN (e▸this)
theorem PD{base:aP}(k:base.StaysIn aT.heap)(x:Ext aT s):base.StaysIn s.heap:=λb o e=>x.keep b o (k b o e)
theorem PE{base:aP}{fs:List bF}(k:aT.heap.FunFrames base fs)(x:Ext aT s):s.heap.FunFrames base fs:=k.of_keeps λb o e Z=>⟨o,x.keep b o e,rfl⟩
theorem oU.leave{base:aP}{fs:List bF}{e:aE}(cC:A.frames=aa fs)(hf:env.frame=aa env.locals)(x:oU base (env::fs) e aT s)(hE:∀s',oU base fs e aT s'→E (.ref e) s'):
  ar (aw prog K.w) (A.deeper env) (leaving env (.ref e)) (λZ dh=>E (.ref e) dh) E s:=by
 obtain⟨⟨tt,tk,f1,f2⟩,f3,f4,f5,f6⟩:=x;exact wpAny_leaves_onW (UT cC) hf f1 λh' g1 g2=>hE _ ⟨⟨tt,tk,g1,f2.of_slots g2⟩,f3.trans g2,f4,f5,f6⟩
theorem abc{p:Nat→aO}{R:a9}(c:k9 K fC fd p R)(O:bU K)(hr:A.depth<iS)(hh:A.handled=af)(g:br K U s.heap){sv:ak}(hx:iz x=ag)(ha:mi (sL x))(hl:(sL x).length=1)
  {base:aP}{fs:List bF} (cC:A.frames=aa fs) (st:base.StaysIn s.heap) (ff:s.heap.FunFrames base fs) {Q E:aW} (hE:∀e s',oU base fs e s s'→E (.ref e) s'):ar (aw prog K.w) A (call (.ref fC) [sv,.str x t] [(("name" :ah),.bool ae)]) Q E s:=
 Py c O hr g λenv rv m av V aC Aa n e1 e2=>by refine gw (wQ (K0 (Pw Aa c.line (λQ E h=>lS V.kind (V.look _ _ (by decide+kernel)) n e2 (by decide+kernel) h) (λQ E h=>lS V.kind (V.look _ _ (by decide+kernel)) n e1 (by decide+kernel) h) λM A E=>aba Aa.code hx ha hl λa aR bx ho=>?_)));refine aD ho λo ho rW=>aa8 ho rW (rE (if_pos rfl) ?_);have abd:=bx;have bx:=aC.trans bx;refine gw (Raise_madeB PySem.F.excCall_ValueError PySem.F.excRaise_ValueError hh (z9 V.kind (V.look _ _ (by decide+kernel)) V.gl V.bi (g.ext bx) O.ve (by decide+kernel) ⟨rfl,?_⟩));refine iu (KA (k:=0) (pos:=p 20) (j5 ⟨by refine rE lx ?_;simp,λh' e hm=>?_⟩));have HH:=PD st bx;have abe:aR.heap.FunFrames base (env::fs):=.cons (by refine rE V.kind ?_;nofun) V.frame (n.keeps abd.keep) (PC st V.new) (PE ff bx);exact wpAny_leaves_madeW (UT cC) V.frame HH abe hm.of λHW tt f1 f2 Z f4=>hE e _ ⟨⟨tt,_,f1,f2⟩,((ah7 bx.keep).trans (.of_keeps hm.keeps)).trans f4,bx.gens,bx.bare,bx.os⟩
end
structure lT where
 nm:ah
 q:ah
 N:aE
 bs:List ak
 sn:List ah
 sub:List ak
 col:Option Bool
 dd:Option aE
 k0:Option ak
 k1:Option ak
 k2:Option ak
 k3:Option ak
 k5:Option ak
 newId:String
 mN:ah→Option ak
noncomputable def lT.obj(c:lT)(C:aE):fJ:=excClassObj c.nm c.q C c.N c.bs [.type "object"] ae c.sn c.sub ag c.col c.dd c.k0 c.k1 c.k2 c.k3 c.k5 c.newId
structure gk(K:Kt)(c:lT):Prop where
 cls:K.fr K.hc (c.obj K.hc)
 ns:∃oN,K.fr c.N oN∧∀h:aP,h.get? c.N=aa oN→h.Ns c.N c.mN
 ga:c.mN "__getattribute__" =af
 PF:c.mN "__getattr__" =af
 sa:c.mN "__setattr__" =af
 hd:c.mN "_headers" =af
noncomputable def gH:ah:= "_headers"
theorem PG:qI (.type "object") gH=pure af:=by refine rE (qS ..) (rE qT ?_);kernel_rfl
section
variable{K:Kt}{c:lT}
structure qh(hc:aE)(h:aP)(a l:aE):Prop where
 inst:∃m,h.Inst a hc m∧m gH=aa (.ref l)∧∀x,x≠gH→m x=af
theorem dO.inst{h:aP}{t:d6}(x:dO K.hc U h a l t):qh K.hc h a l:=uZ x λo d m vs n x=>⟨m,⟨o,x.e2,x.e3,x.e5,.inr ⟨d,x.e4,x.e9,x.e7⟩⟩,x.mz,x.zq⟩
theorem iW.open{h:aP}{v:ak}{t:d6}(x:iW K.hc U h v t):∃a l,v=.ref a∧dO K.hc U h a l t:=x
theorem gk.at(k:gk K c){h:aP}(g:br K U h):h.get? K.hc=aa (c.obj K.hc)∧h.Ns c.N c.mN:=aD k.ns λoN h1 h2=>⟨(g.iV _ _ k.cls).1,h2 h (g.iV _ _ h1).1⟩
theorem CV(k:gk K c)(g:br K U s.heap)(I:qh K.hc s.heap a l){ex:Bool}(hQ:Q (.ref l) {s with toks:=s.toks+1}):ar (aw prog K.w) A (getAttr (.ref a) gH ex) Q E s:=xA (k.at g) λh1 h2=>j8 I.inst λm hi e1 Z=>load_attr h1 h2 k.ga k.hd PG hi e1 rfl hQ
theorem CW(k:gk K c)(g:br K U s.heap)(I:qh K.hc s.heap a l){name:ah}(bQ:name≠gH)(M:Meth K f fd ks body)(hf:c.mN name=aa (.ref f))
  {y:Option ak} (hB:qI (.type "object") name=pure y) {pl:cN Bool}{Q:ak × List ak→ay→Prop}{E:aW} (hQ:Q (.ref f,[.ref a]) s):ar (aw prog K.w) A (yC (.ref a) name pl) Q E s:=by
 exact xA (k.at g) λh1 h2=>j8 I.inst λm hi Z e2=>j8 (M.at g) λo ho oR Z=>method_of h1 h2 k.ga k.PF hf ho oR hB hi (e2 name bQ) hQ
theorem abf{o e kv:au}{name kn:ah}{apos kp:aO}(hr:recv o)(hl:cH apos pos)(hs:nI e=ag)
  (h:ar (aw prog K.w) A (eval o env) (λov ai=>∀pl,ar (aw prog K.w) A (yC ov name pl) (λfx av=>ar (aw prog K.w) A (j4 pos fx.1 fx.2 (gK pos (f7 [e] env)) (backToKw pos (keywordEach [⟨aa kn,kv,kp⟩] env))) Q E av) E ai) E s):
  ar (aw prog K.w) A (eval (.Call (.Attribute o name apos) [e] [⟨aa kn,kv,kp⟩] pos) env) Q E s:=by
 have vc:=ME (name:=name) (env:=env) hr;have zr:methodCallForm ([e].length+[(⟨aa kn,kv,kp⟩:El)].length) (gK pos (f7 [e] env)) (backToKw pos (keywordEach [⟨aa kn,kv,kp⟩] env)):=by refine rE (mC hs) ?_;rfl
 have zt:(apos.endLine == pos.line):=rE (fZ hl) (beq_self_eq_true _)
 have zu:A5 ae o env apos pos=pure pos:=by unfold A5;simp[zt]
 refine rE (Uv ..) (rE vc ?_);refine aB (ib h (λov ai h₁=>aB (kJ ?_)) λZ Z e=>e);unfold methodCall;refine rE zr (aB (ji ?_));unfold calleeOf;exact rE (if_pos rfl) (ib (h₁ _) (λfx av ey=>aB (ow zu ey)) λZ Z e=>e)
noncomputable def kx:ah:= "_convert_string_type"
theorem abg:kx≠gH:=by decide+kernel
theorem abh:qI (.type "object") kx=pure af:=by refine rE (qS ..) (rE qT ?_);kernel_rfl
theorem PH(k:gk K c){p:Nat→aO}{R:a9}(cv:k9 K fC fd p R)(hf:c.mN kx=aa (.ref fC))(g:br K U s.heap)(I:qh K.hc s.heap a l)
  {env:bF}{ns:ah}{p1 p2 p3 p4 p5:aO}{e:au}{x:ah}{b:Bool} (hl:cH p2 p4) (cz:nI e=ag)
  (h1:∀ (Q E:aW),Q (.ref a) s→ar (aw prog K.w) A (eval (.Name ns p1) env) Q E s)
  (h2:∀ (Q E:aW),(∀s' t,Ext s s'→Q (.str x t) s')→ar (aw prog K.w) A (eval e env) Q E s) {Q E:aW} (hC:∀s' t,Ext s s'→ar (aw prog K.w) A (call (.ref fC) [.ref a,.str x t] [(("name" :ah),.bool b)]) Q E s'):
  ar (aw prog K.w) A (eval (.Call (.Attribute (.Name ns p1) kx p2) [e] [⟨aa "name",.Constant (.bool b) 0 p3,p5⟩] p4) env) Q E s:=by
 refine abf rfl hl cz (h1 _ _ λpl=>CW k g I abg cv.m hf abh ?_);exact gA (cv.m.at g) λo ho Z hd Z=>callWith_function_kw (o:=o) (fd:=fd) (rE (mC cz) (evalArgs_kw rfl (iu (h2 _ _ λai t aq=>j5 (wpAny_evalAll_cons (aB (Ep (aB (kJ (bz (wpAny_evalAll_nil ⟨⟨aq.keep _ _ ho,hd⟩,hC ai t aq⟩)))))))))))
theorem HX(k:gk K c){p:Nat→aO}{R:a9}(cv:k9 K fC fd p R)(hf:c.mN kx=aa (.ref fC))(O:bU K)(hr:A.depth<iS)(g:br K U s.heap)(I:qh K.hc s.heap a l)
  {env:bF}{ns:ah}{p1 p2 p3 p4 p5:aO}{e:au}{x:ah}{b:Bool} (hl:cH p2 p4) (cz:nI e=ag) (hx:iz x)
  (h1:∀ (Q E:aW),Q (.ref a) s→ar (aw prog K.w) A (eval (.Name ns p1) env) Q E s)
  (h2:∀ (Q E:aW),(∀s' t,Ext s s'→Q (.str x t) s')→ar (aw prog K.w) A (eval e env) Q E s) {Q E:aW} (hQ:∀s' t,Ext s s'→Q (.str x t) s'):
  ar (aw prog K.w) A (eval (.Call (.Attribute (.Name ns p1) kx p2) [e] [⟨aa "name",.Constant (.bool b) 0 p3,p5⟩] p4) env) Q E s:=
 PH k cv hf g I hl cz h1 h2 λai t aq=>aa6 cv O hr (g.ext aq) hx λav aC=>hQ av t (aq.trans aC)
end
structure PJ(ks:cT)(env:bF):Prop where
 kind:env.scope.kind=.function
 look:∀y k,ks.lookup y=aa k→env.kindOf y=aa k
 gl:env.globals=gp
 bi:env.builtins=jE
section
variable{K:Kt}{c:lT}
theorem PK(M:Meth K f fd ks body)(hr:A.depth<iS)(g:br K U s.heap){vals:List ak}{binds:List (ah × ak)}(hb:Bk s fd ⟨vals,[]⟩ binds)
  (hc:∀x∈ks,x.2≠.cell) (hl:∀x∈binds,ks.lookup x.1=aa .local) {Q E:aW}
  (h:∀env ai,Ext s ai→PJ ks env→ai.heap.Ns env.locals (λy=>binds.reverse.lookup y)→s.heap.get? env.locals=af→
   ar (aw prog K.w) (A.deeper env) (oA body env) (λfl s'=>Q (match fl with| .ret v=>v|_=>.none) s') (λZ Z=>False) ai):ar (aw prog K.w) A (call (.ref f) vals) Q E s:=by
 refine gA (M.at g) λo ho Z hd o5=>EE (codeAny_call_def hr ho hd g.lim o5 M.body hb (rE M.names hc) (rE M.names hl) (λh₀ lK hk=>?_) M.co M.gen M.kind);refine ib (h (callEnv fd s.heap.objs.size f) {s with heap:=h₀,toks:=s.toks+binds.length} ⟨hk,λZ Z e=>e,λe=>e,rfl⟩ ⟨M.kind,λy k e=>?_,M.gl,M.bi⟩ lK (eM _)) (λfl s' q=>q) λZ Z q=>q.elim;show fd.scope.names.lookup y=_;exact rE M.names e
noncomputable def HY(p:Nat→aO):List a9:=[.Return (aa (.Subscript (.Attribute (.Name "self" (p 0)) gH (p 1)) (.Slice af af af (p 2)) (p 3))) (p 4)]
noncomputable def o6:List (ah × eC):=[("self",.local)]
theorem HZ:o6.lookup ("self" :ah)=aa .local:=by decide+kernel
theorem PL:∀x∈o6,x.2≠.cell:=by decide+kernel
theorem abi:(("self" :ah) == ("__debug__" :ah))=ag:=by decide+kernel
theorem aI.pairs_len{h:aP}{t:d6}(r:aI U h vs (t.map pairD)):vs.length=t.length:=rE r.length (rE (aQ ..) rfl)
theorem abj(k:gk K c)(hr:A.depth<iS){p:Nat→aO}(M:Meth K f fd o6 (HY p))(gG:∀v:ak,jG fd ⟨[v],[]⟩=pure [(("self" :ah),v)])(g:br K U s.heap){t:d6}
  (T:dO K.hc U s.heap a l t) (ht:t.length≤1000000):pR K.w A U s (call (.ref f) [.ref a]) (t.map pairD):=by
 intro Q E hQ;refine PK M hr g (KZ (gG _)) PL (λx hx=>?_) λenv ai aq F lK hL=>?_
 ·exact rE (dK.mp hx) HZ
 have ju:dO K.hc U ai.heap a l t:=T.mono (λa o Z e=>aq.keep a o e) (λZ Z Z n=>n) λZ Z e=>aq.keep _ _ e;refine gw (EC (Es (K1 (lS F.kind (F.look _ _ HZ) lK (by simp[wN]) abi (CV k (g.ext aq) ju.inst ?_)))));refine wpAny_Slice (bz (bz (bz ?_)));obtain⟨av,iH⟩:∃av:ay,av={ai with toks:=ai.toks+1,heap:=ai.heap.push {cls:=.type "slice",data:=.fields #[.none,.none,.none]}}:=⟨_,rfl⟩;have aC:Ext ai av:=rE iH (.push)
 refine uZ ju λo d m vs n TF=>?_;have jL:=aC.keep _ _ TF.jL;have tj:=TF.tj.ext aC;have sl:av.heap.IsSliceOf ai.heap.objs.size .none .none .none:=rE iH (ahx ..)
 show ar _ _ _ _ _ {ai with toks:=ai.toks+1,heap:=ai.heap.push {cls:=.type "slice",data:=.fields #[.none,.none,.none]}};refine rS iH ?_;have L:av.heap.IsList l vs:=⟨_,jL,rfl,_,rfl⟩;have hl:=tj.length;replace hl:=(aQ ..)▸eL▸hl;have e15:aI U av.heap (AV vs af af af).toList (t.map pairD):=by have:=tj.cut af af;rw[← LY vs (by rfl)]at this;exact this
 refine u3 L.typeIs Kj.lookup (Ui (lo:=af) (hi:=af) (st:=af) L sl .none .none .none (by simp) ?_ (by refine rE lx ?_;lia));refine hQ _ _ ((aq.trans aC).trans .push) (jN (aq.trans aC) (eM _)) ⟨_,0,eT _ rfl,?_⟩;exact(B7 (λa k=>k.imp id fun(e:a=av.heap.objs.size)=>e▸eM av.heap) e15).ext (.push (s:=av) (k:=av.toks))
theorem abk:nH=("items" :ah):=by decide+kernel
theorem abl:nH≠gH:=by decide+kernel
theorem abm:qI (.type "object") nH=pure af:=by refine rE abk (rE (qS ..) (rE qT ?_));kernel_rfl
theorem PM(k:gk K c){nm:ah}(M:Meth K f fd ks body)(hf:c.mN nm=aa (.ref f))(bQ:nm≠gH)(hno:qI (.type "object") nm=pure af)(g:br K U s.heap)
  {v:ak}{t:d6} (T:iW K.hc U s.heap v t) {P:ay→cN ak→Prop} (h:∀a l av,Ext s av→dO K.hc U av.heap a l t→P av (call (.ref f) [.ref a])):zv K.w A U s v nm [] P:=by
 refine gz T.open λa l e9 TL=>?_;subst e9
 intro pl Q E hQ;refine CW k g TL.inst bQ M hf hno (hQ (.ref f) [.ref a] s (.refl s) ?_ λvs av aC fB=>?_)
 ·exact gA (M.at g) λo ho Z hd Z=>⟨f,o,fd,rfl,ho,hd⟩
 ·obtain rfl:=fB.sY;exact h a l av aC (TL.mono (λa o Z e=>aC.keep a o e) (λZ Z Z n=>n) λZ Z e=>aC.keep _ _ e)
theorem abn(k:gk K c)(hr:A.depth<iS){p:Nat→aO}(M:Meth K f fd o6 (HY p))(hf:c.mN nH=aa (.ref f))(gG:∀v:ak,jG fd ⟨[v],[]⟩=pure [(("self" :ah),v)])(g:br K U s.heap)
  {v:ak}{t:d6} (T:iW K.hc U s.heap v t) (ht:t.length≤1000000):zv K.w A U s v nH [] λs r=>pR K.w A U s r (t.map λp=>.tuple [.str p.1,.str p.2]):=
 PM k M hf abl abm g T λZ Z Z x TL=>abj k hr M gG (g.ext x) TL ht
end
noncomputable def Kt.nx(K:Kt)(l:List ah):Kt:={K with X:=⟨l,[],[],[],[],[]⟩,me:=af}
section
variable{K:Kt}{c:lT}
theorem bU.nx(O:bU K){l:List ah}(h:∀x∈l,(x == ("__debug__" :ah))=ag∧(x == ("__classdict__" :ah))=ag):bU (K.nx l) where
 nm:=λx i e=>h x (z1 e)
 nf:=λx i h=>by exact zN h
 nl:=λx i h=>by exact zN h
 fm:=λx i h=>by exact zN h
 gi:=λx i h=>by exact zN h
 len:=O.len
 str:=O.str
 int:=O.int
 sum:=O.sum
 sorted:=O.sorted
 ve:=O.ve
 u9:=O.u9
 range:=O.range
theorem br.nx{h:aP}{l:List ah}(g:br K U h):br (K.nx l) U h:=⟨g.ng,g.ug,g.nb,g.ub,g.fo,g.tok,g.lim,g.ul,g.iV⟩
structure Ent(ks:cT)(binds:List (ah × ak))(s:ay)(env:bF)(ai:ay):Prop where
 fm:PJ ks env
 names:env.scope.names=ks
 x:Ext s ai
 bu:jq (λa=>dm env a) env ai.heap
 fresh:∀b,dm env b→s.heap.get? b=af
 vars:∀y v,(y,v)∈binds→fQ env ai.heap y v
 frame:env.frame=aa env.locals
theorem abo(kf:ah→Option eC):∀ (bs:List (ah × ak)) (m c:gy),(bs.map (·.1)).Nodup→∀y v,(y,v)∈bs→(kf y=aa .local→bindL kf bs m y=aa v)∧(kf y≠aa .local→bindC kf bs c y=aa v):=by
 intro bs;induction bs with
 |nil=>exact λZ Z Z Z Z h=>nomatch h
 |cons nu r ih=>
  obtain⟨n,u⟩:=nu;intro m c hn y v h;refine xA (uE.mp hn) λh1 h2=>?_;rcases bE.mp h with e|h
  ·injection e with e1 e2
   clear hn;subst e1;subst e2;have PN:∀p∈r,p.1≠y:=λp hp e=>h1 (e▸(fq.mpr ⟨p,hp,rfl⟩:p.1∈r.map (·.1)));refine⟨λk=>?_,λk=>?_⟩
   ·show bindL kf r _ y=_;exact rE (Hj _ _ _ _ PN) (rE (if_pos k) (if_pos rfl))
   ·show bindC kf r _ y=_;exact rE (Hk _ _ _ _ PN) (rE (if_neg k) (if_pos rfl))
  ·exact ih _ _ h2 y v h
theorem PO(M:Meth K f fd ks body)(hr:A.depth<iS)(g:br K U s.heap){args:Args}{P:List (ah × ak)→ay→Prop}(hb:∀ (Q:List (ah × ak)→ay→Prop) (E:aW),(∀binds s',P binds s'→Q binds s')→ar (aw prog K.w) A.in1 (jG fd args) Q E s)
  (hP:∀binds s',P binds s'→Ext s s'∧(binds.map (·.1)).Nodup∧∀x∈binds,ks.lookup x.1=aa .local∨ks.lookup x.1=aa .cell) (hf:ks.all (λp=>p.2 !=.free)) {Q E:aW}
  (h:∀binds aT env ai,P binds aT→Ent ks binds aT env ai→ar (aw prog K.w) (A.deeper env) (oA body env) (λfl s'=>Q (match fl with| .ret v=>v|_=>.none) s') (λe s'=>ar (aw prog K.w) (A.deeper env) (leaving env e) (λZ dh=>E e dh) E s') ai):ar (aw prog K.w) A (call (.ref f) args.pos args.kw) Q E s:=by
 refine gA (M.at g) λo ho Z hd o5=>EE (codeAny_call_function hr ho hd M.co M.gen M.body o5 (hb _ _ λbinds aT hp=>?_));refine mr (hP binds aT hp) λjr hn hl=>?_;have g:=g.ext jr;refine rE M.gE (wpAny_newFunctionEnv_cells M.kind (λx hx=>?_) λenv he s' x=>?_)
 ·refine rE M.names ?_;rcases hl x hx with k|k
  ·exact .inl k
  ·exact .inr ⟨k,zZ _ _ _ _ k⟩
 have H0:env.scope.names=ks:=rE he M.names
 have hE:Ext aT s':=lD x.toInCall.same λh tk e=>⟨x.toInCall.keep,by refine rE e ?_;exact λZ Z q=>q,by refine rE e ?_;exact λq=>q,by exact rE e rfl⟩
 have cC:∀b,dm env b→aT.heap.get? b=af:=λb h=>by
  refine EG ?_;rcases h with h| ⟨y,h⟩
  ·exact rE h x.toInCall.fresh
  ·exact d4 (jj x.toInCall.fresh (x.above y b (mem_of_lookup h)))
 have PQ:∀y,ks.lookup y=aa .cell→∃cc,env.cells.lookup y=aa cc:=λy k=>by have:=zZ fd.scope.names (aT.heap.objs.size+1) [] y (rE M.names k);exact xE (Ek.mp this) λcc e=>⟨cc,by refine rE he ?_;exact e⟩
 have mO:∀y k,ks.lookup y=aa k→env.kindOf y=aa k:=λy k e=>by show env.scope.names.lookup y=_;refine rE H0 ?_;exact e
 refine⟨g.lim.keeps x.toInCall.keep,codeAny_func ?_⟩;refine ib (h binds aT env s' hp ⟨⟨by refine rE he ?_;exact M.kind,mO,by refine rE he ?_;exact M.gl,by refine rE he ?_;exact M.bi⟩,H0,hE,⟨⟨.inl rfl,_,x.toInCall.ns⟩,λy cc e=>⟨.inr ⟨y,e⟩,_,x.cell y cc e⟩,λy z cc e1 e2=>UE x.apart (mem_of_lookup e1) (mem_of_lookup e2),λy k=>?_⟩,cC,λy v hv=>?_,by refine rE he ?_;rfl⟩) (λfl s' q=>q) λZ Z q=>q
 ·have hk:ks.lookup y=aa .cell:=by
   have jM:env.kindOf y=ks.lookup y:=by show env.scope.names.lookup y=_;exact rE H0 rfl
   rcases k with k|k
   ·exact rS jM k
   ·replace k:=jM▸k;have:=fk.mp hf (y,.free) (mem_of_lookup k);exact zF this
  exact PQ y hk
 ·have pT:=abo env.kindOf binds (λZ=>af) (λZ=>af) hn y v hv;rcases hl (y,v) hv with k|k
  ·exact .inl ⟨mO _ _ k,_,x.toInCall.ns,pT.1 (mO _ _ k)⟩
  ·refine xE (PQ y k) λcc e=>?_;have bQ:env.kindOf y≠aa .local:=λq=>by replace q:=mO _ _ k▸q;cases q
   refine .inr ⟨.inl (mO _ _ k),cc,e,?_⟩;have:=x.cell y cc e;rwa [pT.2 bQ]at this
theorem PR(M:Meth K f fd ks body)(hr:A.depth<iS)(g:br K U s.heap){args:Args}{binds:List (ah × ak)}(hb:Bk s fd args binds)(hn:(binds.map (·.1)).Nodup)
  (hl:∀x∈binds,ks.lookup x.1=aa .local∨ks.lookup x.1=aa .cell) (hf:ks.all (λp=>p.2 !=.free)) {Q E:aW}
  (h:∀env ai,Ent ks binds s env ai→ar (aw prog K.w) (A.deeper env) (oA body env) (λfl s'=>Q (match fl with| .ret v=>v|_=>.none) s') (λe s'=>ar (aw prog K.w) (A.deeper env) (leaving env e) (λZ dh=>E e dh) E s') ai):ar (aw prog K.w) A (call (.ref f) args.pos args.kw) Q E s:=
 PO (P:=λb s'=>b=binds∧s'=s) M hr g (λQ E h=>hb _ _ _ _ (h _ _ ⟨rfl,rfl⟩)) (λb s' hp=>by refine xA hp λe9 bC=>?_;subst e9;subst bC;exact⟨.refl _,hn,hl⟩) hf λb aT env ai hp En=>by refine xA hp λe9 bC=>?_;subst e9;subst bC;exact h env ai En
theorem H2{v:ak}(hk:env.scope.kind=.function)(hv:fQ env s.heap x v)(hd:(x == ("__debug__" :ah))=ag∧(x == ("__classdict__" :ah))=ag)(hQ:Q v s):ar (aw prog K.w) A (eval (.Name x p) env) Q E s:=by
 refine yB ?_ hd.1;rcases hv with⟨k,m,n,e⟩| ⟨k|k,c,e1,e2⟩
 ·exact wK hk k n e hQ
 ·exact A3 hk k e1 e2 hQ
 ·exact A4 hk k e1 e2 hQ hd.2
theorem PS(h:keyOk x):(mi (sL x)&&aX (sL x).length 1000000):=by refine xA (cg h) λh1 h2=>rE h2 (rE (EK ..) ?_);refine fk.mpr λcc hc=>?_;have:=cg (fk.mp h1 cc hc);have h3:cc<127:=bc this.2;exact bO (yx h3)
theorem abp(h:iz x):iz (aj (da (sL x))):=by
 refine fk.mpr λcc hc=>aD (fq.mp (show cc∈da (sL x)from hc)) λd hd e9=>?_;subst e9;have:=cg (fk.mp h d hd);have h1:=bc this.1;have h2:d<127:=bc this.2;induction q:(aX 65 d&&aX d 90)with
 |false=>show(aX 32 d&&aU d 127);exact rE (bO h1) (bO h2)
 |true=>refine xA (cg q) λq1 q2=>?_;have:=bc q2;show(aX 32 (d+32)&&aU (d+32) 127);exact rE (bO (uH _ _)) (bO (by lia))
theorem abq{o:au}{p1:aO}(hr:recv o)(hl:cH p1 p2)(hx:keyOk x)(h:∀ (Q E:aW),(∀s' t,Ext s s'→Q (.str x t) s')→ar (aw prog K.w) A (eval o env) Q E s)
  (hQ:∀s' t,Ext s s'→Q (.str (aj (da (sL x))) t) s'):ar (aw prog K.w) A (eval (.Call (.Attribute o "lower" p1) [] [] p2) env) Q E s:=by
 refine pQ hr hl (bc rfl) rfl (h _ _ λai t aq pl=>?_)
 with_reducible refine GM.lower ?_
 refine uC rfl (KC ?_);refine Mb (U:=λZ=>False) (d:=.str (aj (da (sL x)))) (.str x t) ?_ _ _ λv av aC rv=>?_
 ·show W.need _ (mi (sL x)&&aX (sL x).length 1000000)=_;refine rE (PS hx) ?_;rfl
 ·refine xE rv.cQ λZ e9=>?_;subst e9;exact hQ av _ (aq.trans aC)
end
noncomputable def ky:List ah:=["name","kv"]
theorem abr:∀x∈ky,(x == ("__debug__" :ah))=ag∧(x == ("__classdict__" :ah))=ag:=by decide+kernel
noncomputable def CX(p:Nat→aO)(o:Nat)(e:au)(b:Bool):au:=.Call (.Attribute (.Name "self" (p o)) kx (p (o+1))) [e] [⟨aa "name",.Constant (.bool b) 0 (p (o+2)),p (o+4)⟩] (p (o+3))
noncomputable def PT(p:Nat→aO)(o:Nat)(e:au):au:=.Call (.Attribute e "lower" (p o)) [] [] (p (o+1))
noncomputable def PU(p:Nat→aO):a9:=.Assign [.Name "name" (p 0)] (CX p 10 (PT p 1 (.Name "name" (p 3))) ae) (p 4)
section
variable{K:Kt}{c:lT}
theorem dO.at{t:d6}(T:dO K.hc U s.heap a l t)(x:Ext s s')(hu:∀a,U' a→U a∨s.heap.get? a=af):dO K.hc U' s'.heap a l t:=
 T.mono (λa o Z e=>x.keep a o e) (λa o e n k=>(hu a k).elim n λq=>by replace q:=e▸q;exact zS q) λZ Z e=>x.keep _ _ e
theorem abt(k:gk K c){Rc:a9}(cv:k9 K fC uX pc Rc)(hf:c.mN kx=aa (.ref fC))(O:bU K)(g:br K U s.heap)(ub:UB U s){t:d6}(T:dO K.hc U s.heap a l t)(hx:keyOk x)
  {p:Nat→aO} (nT:cH (p 1) (p 2)) (nV:cH (p 11) (p 13)) {ks:cT}{binds:List (ah × ak)}{env:bF} (hrr:(A.deeper env).depth<iS) {ai:ay} (En:Ent ks binds s env ai) {t₀:mZ} (h1:(("self" :ah),yH a)∈binds) (h2:(("name" :ah),Value.str x t₀)∈binds)
  (cm:dz (aV "name" ks)) (hkn:env.kindOf "name" =aa .local∨env.kindOf "name" =aa .cell) {R:dC} (hR:R=oZ env λZ=>af) {B:aY} (hB:∀b,B b→U b) {ρ:aM}
  (CY:∀y i d,aZ y ky=aa i→get ρ i=aa (.val d)→(y= "name" ∧d=.str (aj (da (sL x))))∨(y≠ "name" ∧d=.none∧(y,uy)∈binds)) (hv:∀i sl,get ρ i=aa sl→∃d,sl=.val d) {Q:jk→ay→Prop}{E:aW}
  (hQ:∀s',Ext s s'→aN (K.nx ky) B R (λZ=>(0,0)) env [] ρ s'→fQ env s'.heap "self" (.ref a)→dO K.hc U s'.heap a l t→Q .next s'):ar (aw prog K.w) (A.deeper env) (exec (PU p) env) Q E ai:=by
 have ju:dO K.hc U ai.heap a l t:=T.at En.x λZ h=>.inl h;have dS:(("self" :ah) == ("__debug__" :ah))=ag∧(("self" :ah) == ("__classdict__" :ah))=ag:=by decide+kernel
 have dN:(("name" :ah) == ("__debug__" :ah))=ag∧(("name" :ah) == ("__classdict__" :ah))=ag:=by decide+kernel
 refine oC (HX k cv hf O hrr (g.ext En.x) ju.inst nV rfl (abp (cg hx).1) (λQ E h=>H2 En.fm.kind (En.vars _ _ h1) dS h)
  (λQ E h=>abq rfl nT hx (λQ E h=>H2 En.fm.kind (En.vars _ _ h2) dN (h _ _ (.refl _))) λs' t x=>h s' t x) λav Ab aC=>?_)
 have ne1:("self" :ah)≠ "name" :=by decide+kernel
 refine GR (U:=λb=>dm env b) (ks:=ks) En.fm.kind (En.bu.ext aC) cm hkn λaR xK tB abu PW=>?_;have bx:Ext s aR:=(tB.mv (G:=λZ=>False)).ext (En.x.trans aC) (λb h=>En.fresh b (mF h)) λZ h=>h.elim;have H5:∀b,R b≠af→dm env b:=λb h=>by
  by_cases q:dm env b
  ·exact q
  ·exact(h (rE hR (rE (tM q) rfl))).elim
 have PX:∀b,dm env b→R b=aa .frame:=λb h=>by refine rE hR ?_;exact rE (Hl h) rfl
 have cC:∀b,UU R B b→U b∨s.heap.get? b=af:=λb h=>h.elim (λh=>.inr (En.fresh b (H5 b h))) λh=>.inl (hB b h);have fU:∀b,dm env b→UU R B b:=λb h=>.inl (gF (PX b h));refine hQ aR bx ⟨(g.mono (λa o Z e=>bx.keep a o e) λb o e n h=>(cC b h).elim n λq=>by replace q:=e▸q;exact zS q).nx,λb h=>?_,En.fm.kind,En.fm.gl,En.fm.bi,⟨⟨fU _ (.inl rfl),xK.loc.2⟩,λy cc e=>⟨fU _ (.inr ⟨y,e⟩),(xK.fR y cc e).2⟩,xK.inj,xK.has⟩,λb h=>?_,PX,
  λy i sl e1 e2 e3=>?_,λj t e=>(zN e),λe l h=>nomatch h⟩ (PW _ _ ne1 ((En.vars _ _ h1).ext aC)) (T.at bx λZ h=>.inl h)
 ·rcases h with h|h
  ·rcases H5 b h with rfl| ⟨y,e⟩
   ·obtain⟨m,⟨o,_,_,e,_⟩⟩:=xK.loc.2;exact⟨o,e⟩
   ·exact gz ((xK.fR y b e).2) λv o e' Z=>⟨o,e'⟩
  ·exact xE (ub b (hB b h)) λo e=>⟨o,bx.keep _ _ e⟩
 ·induction q:R b with
  |none=>rfl
  |some r=>refine xE (ub b (hB b h)) λo e=>?_;exact zN (En.fresh b (H5 b (by refine rE q ?_;exact λq=>by exact zS q))▸e)
 ·refine xE (hv i _ e2) λd e9=>?_;subst e9;rcases CY y i d e1 e2 with⟨rfl,rfl⟩| ⟨hy,rfl,hm⟩
  ·exact⟨_,abu,.str _ _⟩
  ·exact⟨_,PW _ _ hy ((En.vars _ _ hm).ext aC),.none⟩
theorem PY(k:gk K c)(hh:A.handled=af)(g:br K U s.heap){t:d6}(T:dO K.hc U s.heap a l t)(hU:∀b,U' b→U b∨s.heap.get? b=af)(hl:¬U' l)(hk:env.scope.kind=.function)(hv:fQ env s.heap "self" (.ref a)){p1:aO}:
  zE K.w A U' s (eval (.Attribute (.Name "self" p1) gH p2) env) (t.map pairD):=by
 intro Q E hQ;have dS:(("self" :ah) == ("__debug__" :ah))=ag∧(("self" :ah) == ("__classdict__" :ah))=ag:=by decide+kernel
 refine K1 (H2 hk hv dS (CV k g T.inst (hQ _ _ .tok λav aC=>?_)));have x:Ext s av:=(Ext.tok (k:=s.toks+1)).trans aC;obtain⟨o,d,m,vs,n,TF⟩:=(T.at (U':=U') x hU);exact MX hh x TF.jL hl TF.tj
end
noncomputable def tX:Cx:=⟨ky,[],[],[],[],[]⟩
section
variable{K:Kt}{c:lT}
theorem abv{K:Kt}{o:au}{ra:RE}{p1:aO}(hr:recv o)(hl:cH p1 p2)(ho:bg K C A ks o ra):bg K C A ks (.Call (.Attribute o "lower" p1) [] [] p2) (.prim .lower (.cons ra .nil)):=by
 refine MR (id:= "str.lower") hr hl rfl ho .nil (λU s v x xs d rv hx ao pl Q E hQ=>?_) λU s v x vs xs d hu rv fB hlen ao=>?_
 ·obtain rfl:xs=[]:=wG hx;have ao:=(ao:E1 x=aa (d,ae));refine aD (nG ao) λy e9 Z=>?_;subst e9;refine xE rv.cQ λZ e9=>?_;subst e9;with_reducible exact GM.lower hQ
 ·obtain rfl:xs=[]:=wG hlen;obtain rfl:=fB.sY;exact Mb rv ao
theorem br.PZ{h:aP}{l:List ah}(g:br (K.nx l) U h):br K U h:=⟨g.ng,g.ug,g.nb,g.ub,g.fo,g.tok,g.lim,g.ul,g.iV⟩
end
noncomputable def vP:List (ah × eC):=[("self",.local),("name",.cell)]
noncomputable def kz:List (ah × eC):=[(".0",.local),("kv",.local),("name",.free)]
noncomputable def P1(p:Nat→aO):au:=.Subscript (.Name "kv" (p 20)) (.Constant (.int 1) 0 (p 21)) (p 22)
noncomputable def H6(p:Nat→aO):au:=.Compare (PT p 27 (.Subscript (.Name "kv" (p 24)) (.Constant (.int 0) 0 (p 25)) (p 26))) [.Eq] [.Name "name" (p 29)] (p 30)
noncomputable def H7(p:Nat→aO)(sc:m4):List a9:=
 [PU p,.Return (aa (.ListComp (P1 p) [⟨.Name "kv" (p 23),.Attribute (.Name "self" (p 31)) gH (p 32),[H6 p],0⟩] sc (p 33))) (p 34)]
theorem abw(p:aO):nameId tX kz (.Name "kv" p)=aa 1:=by
 have h1:d8 (aV "kv" kz):=by kernel_rfl
 have h2:aZ "kv" ky=aa 1:=by kernel_rfl
 show cond (d8 (aV "kv" kz)) (aZ "kv" ky) af=_;refine rE h1 (rE h2 ?_);rfl
theorem abx:td tX kz "name" =aa (.var 0):=by kernel_rfl
theorem aby(p:aO):jo tX kz (.Name "kv" p)=aa (.one 1):=by
 have h1:dz (aV "kv" kz):=by kernel_rfl
 have h2:aZ "kv" ky=aa 1:=by kernel_rfl
 have e:kT tX kz (.Name "kv" p)=aa 1:=by show cond (dz (aV "kv" kz)) (aZ "kv" ky) af=_;refine rE h1 (rE h2 ?_);rfl
 unfold jo;exact rE e rfl
noncomputable def vQ:RE:=.cmp (.prim .lower (.cons (.aG 1 (.lit (.int 0))) .nil)) (.cons .eq (.var 0) .nil)
noncomputable def vR:RE:=.aG 1 (.lit (.int 1))
section
variable{K:Kt}{c:lT}
theorem P2(O:bU (K.nx ky)){r:aO}{i:Int}:bg (K.nx ky) C A kz (.Subscript (.Name "kv" p) (.Constant (.int i) 0 q) r) (.aG 1 (.lit (.int i))):=by refine MK (F:=λZ=>af) O (λra h=>nomatch h) (snd_const rfl) ?_;show xf tX kz (.Name "kv" p) af _=_;unfold xf;exact rE (abw ..) rfl
theorem abz(O:bU (K.nx ky))(R:∃n,bW A n){p:Nat→aO}(hl:cH (p 27) (p 28)):bg (K.nx ky) C A kz (H6 p) vQ:=
 F3 R (abv rfl hl (P2 O)) (.cons (op:=.eq) (ops:=[]) (λZ=>rfl) (xk O abx) .nil)
theorem abA{y k v:ah}(h0:get ρ 0=aa (.val (.str y)))(hk:keyOk k):
  rJ {K with tk:=tk} C hs (.one 1) (.cons vQ .nil) .nil vR ρ (pairD (k,v))=aa (cond (lEq (da (sL k)) (sL y)) [.str v] [],ae):=by
 have g0:get (put ρ 1 (.val (pairD (k,v)))) 0=aa (.val (.str y)):=by rw[fS _ (by decide)];exact h0
 have g4:get (put ρ 1 (.val (pairD (k,v)))) 1=aa (.val (pairD (k,v))):=kX _ _ _;show W.bind (oK tk C hs (.cons vQ .nil) (put ρ 1 (.val (pairD (k,v))))) (λb=>cond b (w6 tk C hs .nil (λρ'=>ev tk C hs vR ρ') (put ρ 1 (.val (pairD (k,v))))) (W.ret []))=_;generalize put ρ 1 (.val (pairD (k,v)))=ρ' at g0 g4;have hl:gT .lower [.str k]=aa (.str (aj (da (sL k))),ae):=by show W.need _ (mi (sL k)&&aX (sL k).length 1000000)=_;refine rE (PS hk) ?_;rfl
 have s0:kL (pairD (k,v)) (.int 0)=aa (.str k,ae):=rfl;have s1:kL (pairD (k,v)) (.int 1)=aa (.str v,ae):=rfl;have e1:ev tk C hs vQ ρ'=aa (.bool (lEq (da (sL k)) (sL y)),ae):=cS (aao (dp g4 rfl s0) hl) (aA g0) rfl
 have e2:ev tk C hs vR ρ'=aa (.str v,ae):=dp g4 rfl s1;induction q:lEq (da (sL k)) (sL y)with
 |true=>replace e1:=q▸e1;exact W.aS (b:=[uB v]) (W.aS e1 rfl) (show W.bind (ev tk C hs vR ρ') (λx=>W.ret [x])=_ from W.aS e2 rfl)
 |false=>replace e1:=q▸e1;exact W.aS (b:=[]) (W.aS e1 rfl) rfl
theorem abB{y:ah}{x:ax}(hy:sL y=da x)(h0:get ρ 0=aa (.val (.str y))):∀ (t:d6),(∀p∈t,keyOk p.1)→
  lB (rJ {K with tk:=tk} C hs (.one 1) (.cons vQ .nil) .nil vR ρ) (t.map pairD)=aa (gc t x,ae):=by
 intro L0;induction L0 with
 |nil=>intro hk;exact rfl
 |cons cx t ih=>obtain⟨k,v⟩:=cx;intro hk;have h1:=abA (K:=K) (C:=C) (tk:=tk) (hs:=hs) (v:=v) h0 (hk (k,v) bG);have h2:=ih λp hp=>hk p (cf _ hp);show W.bind (rJ _ _ _ _ _ _ _ _ (pairD (k,v))) (λys=>W.bind (lB _ (t.map pairD)) λzs=>W.ret (ys++zs))=_;refine rE h1 (rE h2 (rE hy ?_));have hf:gc ((k,v)::t) x=cond (lEq (da (sL k)) (da x)) (.str v::gc t x) (gc t x):=rfl;refine rE hf ?_;cases lEq (da (sL k)) (da x)<;>rfl
theorem abC:∀ (t:d6) (x:ax),(gc t x).length≤t.length:=by
 intro L0;induction L0 with
 |nil=>intro x;exact bZ _
 |cons cx t ih=>
  obtain⟨k,v⟩:=cx;intro x;show(cond _ _ _:List D).length≤_;induction lEq (da (sL k)) (da x)with
  |true=>exact m7 (ih x)
  |false=>exact Bc (ih x)
theorem abD:∀ (t:d6) (x:ax),∀d∈gc t x,∃y,d=.str y:=by
 intro L0;induction L0 with
 |nil=>intro x d h;exact nomatch h
 |cons cx t ih=>
  obtain⟨k,v⟩:=cx;intro x d h;have h:=(show d∈(cond (lEq (da (sL k)) (da x)) (.str v::gc t x) (gc t x):List D)from h);induction q:lEq (da (sL k)) (da x)with
  |true=>
   replace h:=q▸h;rcases bE.mp h with h|h
   ·exact⟨v,h⟩
   ·exact ih x d h
  |false=>replace h:=q▸h;exact ih x d h
theorem aI.P4{h:aP}(vs:List ak)(ds:List D)(hd:∀d∈ds,∃y,d=.str y)(r:aI U h vs ds):aI U' h' vs ds:=
 r.ind (P:=λvs ds=>(∀d∈ds,∃y,d=.str y)→aI U' h' vs ds) (λZ=>.nil) (λv Z d Z a Z ih hd=>.cons (by refine xE (hd d bG) λy e9=>?_;subst e9;refine xE a.cQ λt e9=>?_;subst e9;exact .str _ _) (ih λd h=>hd d (cf _ h))) hd
theorem H8:vP.lookup ("self" :ah)=aa .local∧vP.lookup ("name" :ah)=aa .cell:=by decide+kernel
theorem abE(k:gk K c){Rc:a9}(cv:k9 K fC uX pc Rc)(jS:c.mN kx=aa (.ref fC))(O:bU K)(hr:∃n,bW A (n+1)){p:Nat→aO}{sc:m4}(M:Meth K f fd vP (H7 p sc))
  (fb:sc.names=kz) (vS:sc.kind=.function) (gG:∀v u:ak,jG fd ⟨[v,u],[]⟩=pure [(("self" :ah),v),(("name" :ah),u)]) (nT:cH (p 1) (p 2)) (nV:cH (p 11) (p 13)) (xM:cH (p 27) (p 28))
  (g:br K U s.heap) (ub:UB U s) {a l:aE}{t:d6} (T:dO K.hc U s.heap a l t) {x:ah}{t₀:mZ} (hx:keyOk x) (ht:qY t):Gv K.w A U s (call (.ref f) [.ref a,.str x t₀]) (.list (gc t (sL x))):=by
 intro Q E hQ;refine xE hr λrn fe=>?_;have o7:A.depth<iS:=by have:=fe.depth;lia
 refine PR (binds:=[(("self" :ah),.ref a),(("name" :ah),.str x t₀)]) M o7 g (KZ (gG _ _)) (show UW [("self" :ah),"name"]by decide+kernel) (λy hy=>?_) (by decide+kernel) λenv ai En=>?_
 ·simp only[bE,sN,or_false]at hy;rcases hy with rfl|rfl
  ·exact .inl H8.1
  ·exact .inr H8.2
 have hd:=fe.deeper (env:=env);refine xA (cg ht) λht1 ht2=>?_;have mh:∀p∈t,keyOk p.1:=λp hp=>fk.mp ht1 p hp;obtain⟨ρ,CY⟩:∃ρ:aM,ρ=[(0,.val (.str (aj (da (sL x)))))]:=⟨_,rfl⟩;have tG:dg vP env:=λy kk e=>.inl (En.fm.look y kk (by replace e:=(vw ..)▸e;exact e));have CZ:∀i sl,get ρ i=aa sl→i=0∧sl=.val (.str (aj (da (sL x)))):=λi sl h=>by
  replace h:=CY▸h
  match i,h with
  |0,h=>replace h:=iJ h;subst h;exact⟨rfl,rfl⟩
 obtain⟨R,hR⟩:∃R:dC,R=oZ env λZ=>af:=⟨_,rfl⟩;refine gw (abt k cv jS O g ub T hx nT nV (by have:=hd.depth;lia) En (t₀:=t₀) bG (cf _ bG) (by kernel_rfl) (.inr (En.fm.look _ _ H8.2)) hR (B:=λb=>U b∧b≠l) (λb h=>h.1) (ρ:=ρ) (λy i d e1 e2=>?_) (λi sl h=>?_) λaR bx I abF aiD=>?_)
 ·refine xA (CZ i _ e2) λe9 h=>?_;subst e9;cases h;exact .inl ⟨tu e1 (by kernel_rfl),rfl⟩
 ·exact⟨_,(CZ i sl h).2⟩
 have fresh:∀b,R b≠af→s.heap.get? b=af:=λb h=>En.fresh b (by
  by_cases q:dm env b
  ·exact q
  ·exact(h (rE hR (rE (tM q) rfl))).elim)
 have iE:fD ky kz=[1]:=by kernel_rfl
 have jH:ev K.tk (λZ Z=>af) [] (.comp (fD ky sc.names) (.one 1) (.data (.lit (.list (t.map pairD)))) (.cons vQ .nil) .nil vR) ρ=aa (.list (gc t (sL x)),ae):=by
  refine rE fb (rE iE ?_);have h1:=abB (K:=K) (C:=λZ Z=>af) (tk:=K.tk) (hs:=[]) (y:=aj (da (sL x))) (x:=sL x) rfl (ρ:=rem [1] ρ) (by refine rE (CY) ?_;rfl) t mh;have h2:∀m:W (List D),m=aa (gc t (sL x),ae)→W.bind (W.ret (t.map pairD)) (λZ=>W.bind m λxs=>W.need (dQ xs) (aX xs.length 1000000))=aa (.list (gc t (sL x)),ae):=λm h=>by refine rE h ?_;have:aX (gc t (sL x)).length 1000000:=bO (aF (abC t (sL x)) (bc ht2));exact W.aS rfl (W.aS rfl (by refine rE this ?_;rfl))
  exact h2 _ h1
 refine gw (EC ?_);show ar _ _ (Bb (.ListComp (P1 p) (⟨.Name "kv" (p 23),.Attribute (.Name "self" (p 31)) gH (p 32),[H6 p],0⟩::[]) sc (p 33)) sc env (Expr.pos (.Attribute (.Name "self" (p 31)) gH (p 32))) (newList []) ag (eval (.Attribute (.Name "self" (p 31)) gH (p 32)) env) af) _ _ aR;have O':=O.nx abr;refine Gu (K:=K.nx ky) (C:=λZ Z=>af) (ks:=vP) (ri:=.data (.lit (.list (t.map pairD)))) (rgs:=.nil) hd.handled vS (by refine rE fb ?_;kernel_rfl) (by refine rE fb ?_;kernel_rfl) tG I.e (rE fb (aby _)) (λZ=>rfl) (λxs mD=>?_) (ris:=.cons vQ .nil) (rE fb (.cons rfl (abz O' ⟨rn,hd⟩ xM) .nil)) .nil (relt:=vR) (rE fb (P2 O'))
  (by decide) (by refine rE fb ?_;show ∀i∈[1],i∈fD ky kz;refine rE iE ?_;exact λZ h=>h) jH (use:=af) λcq Dl Cn kj hC hD hn r=>?_
 ·obtain rfl:t.map pairD=xs:=W.bp (mD:W.ret (t.map pairD)=_);have abG:dO K.hc (UU R λb=>U b∧b≠l) aR.heap a l t:=T.at bx λb h=>by
   rcases(h:R b≠af∨(U b∧b≠l))with h|h
   ·exact .inr (fresh b h)
   ·exact .inl h.1
  refine PY k hd.handled I.bH.PZ abG (λb h=>.inl h) (λh=>?_) En.fm.kind abF;rcases(h:R l≠af∨(U l∧l≠l))with h|h
  ·refine uZ T λo d m vs n TF=>?_;have jL:=TF.jL;exact zN (fresh l h▸jL)
  ·exact h.2 rfl
 refine xE hn λm hn=>⟨m,hn,λh' hs'=>hQ _ _ ⟨λb o e=>?_,λgg o e=>kj.gens gg o (bx.gens gg o e),λe=>kj.bare (bx.bare e),kj.os.trans bx.os⟩ ?_⟩
 ·have e3:=bx.keep b o e;exact(hs'.2 b λq=>by subst q;replace e3:=hC▸e3;exact zN e3).trans (kj.keep b o e3)
 ·cases r with
  |list hl hu r=>refine .list ((hs'.2 Dl λq=>hu (.inr q)).trans hl) (λh=>?_) (aI.P4 _ _ (abD t (sL x)) r);exact xE (ub Dl h) λo e=>zS (bx.keep _ _ e▸hD)
theorem abH:pN≠gH:=by decide+kernel
theorem abI:pN=("get_all" :ah):=by decide+kernel
theorem abJ:qI (.type "object") pN=pure af:=by refine rE abI (rE (qS ..) (rE qT ?_));kernel_rfl
theorem abK(k:gk K c){Rc:a9}(cv:k9 K fC uX pc Rc)(jS:c.mN kx=aa (.ref fC))(O:bU K)(hr:∃n,bW A (n+1)){p:Nat→aO}{sc:m4}(M:Meth K f fd vP (H7 p sc))(hf:c.mN pN=aa (.ref f))
  (fb:sc.names=kz) (vS:sc.kind=.function) (gG:∀v u:ak,jG fd ⟨[v,u],[]⟩=pure [(("self" :ah),v),(("name" :ah),u)]) (nT:cH (p 1) (p 2)) (nV:cH (p 11) (p 13)) (xM:cH (p 27) (p 28))
  (g:br K U s.heap) (ub:UB U s) {v:ak}{t:d6} (T:iW K.hc U s.heap v t) {x:ah} (hx:keyOk x) (ht:qY t):tm K.w A U s v pN [.str x] (.list (gc t (sL x))):=by
 refine gz T.open λa l e9 TL=>?_;subst e9
 intro pl Q E hQ;refine CW k g TL.inst abH M hf abJ (hQ (.ref f) [.ref a] s (.refl s) ?_ λvs av aC fB=>?_)
 ·exact gA (M.at g) λo ho Z hd Z=>⟨f,o,fd,rfl,ho,hd⟩
 ·clear hQ E Q pl hf;refine aD (nO fB) λu e9 ru=>?_;subst e9;clear fB;refine xE ru.cQ λZ e9=>?_;subst e9;exact abE k cv jS O hr M fb vS gG nT nV xM (g.ext aC) (ub.ext aC) (TL.at aC λZ h=>.inl h) hx ht
noncomputable def o8:List ah:=["k","v"]
theorem abL:∀x∈o8,(x == ("__debug__" :ah))=ag∧(x == ("__classdict__" :ah))=ag:=by decide+kernel
noncomputable def xN:Cx:=⟨o8,[],[],[],[],[]⟩
noncomputable def lg:List (ah × eC):=[(".0",.local),("k",.local),("v",.local)]
noncomputable def H9(p:Nat→aO)(sc:m4):List a9:=
 [.Return (aa (.ListComp (.Name "k" (p 0)) [⟨.Tuple [.Name "k" (p 1),.Name "v" (p 2)] 0 (p 3),.Attribute (.Name "self" (p 4)) gH (p 5),[],0⟩] sc (p 6))) (p 7)]
theorem kyN:td xN lg "k" =aa (.var 0):=by kernel_rfl
theorem kyK:dz (aV "k" lg)∧dz (aV "v" lg)∧aZ "k" o8=aa 0∧aZ "v" o8=aa 1:=by refine⟨?_,?_,?_,?_⟩<;>kernel_rfl
theorem abM(p q r:aO)(n:Nat):jo xN lg (.Tuple [.Name "k" p,.Name "v" q] n r)=aa (.two 0 1):=by
 refine yY kyK λh1 h2 h3 h4=>?_;have e1:kT xN lg (.Name "k" p)=aa 0:=by show cond (dz (aV "k" lg)) (aZ "k" o8) af=_;refine rE h1 (rE h3 ?_);rfl
 have e2:kT xN lg (.Name "v" q)=aa 1:=by show cond (dz (aV "v" lg)) (aZ "v" o8) af=_;refine rE h2 (rE h4 ?_);rfl
 show(kT xN lg (.Name "k" p)).bind (λi=>(kT xN lg (.Name "v" q)).bind λj=>cond (az i j) af (aa (jl.two i j)))=_;refine rE e1 (rE e2 ?_);rfl
theorem abN(t:d6):lB (rJ {K with tk:=tk} C hs (.two 0 1) .nil .nil (.var 0) []) (t.map pairD)=aa (t.map λp=>.str p.1,ae):=by
 induction t with
 |nil=>rfl
 |cons kv t ih=>show W.bind (rJ _ _ _ _ _ _ _ _ (pairD kv)) (λys=>W.bind (lB _ (t.map pairD)) λzs=>W.ret (ys++zs))=_;refine rE ih ?_;rfl
theorem aiE:∀x∈o6,x.2≠.cell:=PL
theorem abO(k:gk K c)(O:bU K)(hr:∃n,bW A (n+1)){p:Nat→aO}{sc:m4}(M:Meth K f fd o6 (H9 p sc))(fb:sc.names=lg)(vS:sc.kind=.function)(gG:∀v:ak,jG fd ⟨[v],[]⟩=pure [(("self" :ah),v)])
  (g:br K U s.heap) (ub:UB U s) {a l:aE}{t:d6} (T:dO K.hc U s.heap a l t) (ht:t.length≤1000000):Gv K.w A U s (call (.ref f) [.ref a]) (.list (t.map λp=>.str p.1)):=by
 intro Q E hQ;refine xE hr λrn fe=>?_;have o7:A.depth<iS:=by have:=fe.depth;lia
 refine PR (binds:=[(("self" :ah),.ref a)]) M o7 g (KZ (gG _)) (show UW [("self" :ah)]by decide+kernel) (λy hy=>.inl ?_) (by decide+kernel) λenv ai En=>?_
 ·exact rE (dK.mp hy) HZ
 have hd:=fe.deeper (env:=env);have tG:dg o6 env:=λy kk e=>.inl (En.fm.look y kk (by replace e:=(vw ..)▸e;exact e));obtain⟨V,hV⟩:∃V:aY,∀b,V b↔(dm env b∨(U b∧b≠l)):=⟨_,λZ=>Ba⟩;have live:∀b,V b→U b∨s.heap.get? b=af:=λb h=>((hV b).mp h).elim (λh=>.inr (En.fresh b h)) λh=>.inl h.1;have I:bJ (K.nx o8) V env [] [] ai:=by
  refine⟨(g.mono (λa o Z e=>En.x.keep a o e) λb o e n h=>(live b h).elim n λq=>by replace q:=e▸q;exact zS q).nx,λb h=>?_,En.fm.kind,En.fm.gl,En.fm.bi,⟨⟨(hV _).mpr (.inl (.inl rfl)),En.bu.loc.2⟩,λy cc e=>⟨(hV _).mpr (.inl (.inr ⟨y,e⟩)),(En.bu.fR y cc e).2⟩,En.bu.inj,En.bu.has⟩,λx i sl Z h=>by exact zN h⟩;rcases(hV b).mp h with(rfl| ⟨y,e⟩)|h
  ·obtain⟨m,⟨o,_,_,e,_⟩⟩:=En.bu.loc.2;exact⟨o,e⟩
  ·exact gz ((En.bu.fR y b e).2) λv o e' Z=>⟨o,e'⟩
  ·exact xE (ub b h.1) λo e=>⟨o,En.x.keep _ _ e⟩
 have iE:fD o8 lg=[0,1]:=by kernel_rfl
 have jH:ev K.tk (λZ Z=>af) [] (.comp (fD o8 sc.names) (.two 0 1) (.data (.lit (.list (t.map pairD)))) .nil .nil (.var 0)) []=aa (.list (t.map λp=>.str p.1),ae):=by
  refine rE fb (rE iE ?_);have h1:=abN (K:=K) (C:=λZ Z=>af) (tk:=K.tk) (hs:=[]) t;have h2:∀m:W (List D),m=aa (t.map λp=>.str p.1,ae)→W.bind (W.ret (t.map pairD)) (λZ=>W.bind m λxs=>W.need (dQ xs) (aX xs.length 1000000))=aa (.list (t.map λp=>.str p.1),ae):=λm h=>by
   refine rE h ?_;have:aX (t.map λp:ah × ah=>uB p.1).length 1000000:=rE (aQ ..) (bO ht)
   exact W.aS rfl (W.aS rfl (by refine rE this ?_;rfl))
  exact h2 _ h1
 refine gw (EC ?_);show ar _ _ (Bb (.ListComp (.Name "k" (p 0)) (⟨.Tuple [.Name "k" (p 1),.Name "v" (p 2)] 0 (p 3),.Attribute (.Name "self" (p 4)) gH (p 5),[],0⟩::[]) sc (p 6)) sc env (Expr.pos (.Attribute (.Name "self" (p 4)) gH (p 5))) (newList []) ag (eval (.Attribute (.Name "self" (p 4)) gH (p 5)) env) af) _ _ ai;have O':=O.nx abL;refine Gu (K:=K.nx o8) (C:=λZ Z=>af) (ks:=o6) (ri:=.data (.lit (.list (t.map pairD)))) (rgs:=.nil) hd.handled vS (by refine rE fb ?_;kernel_rfl) (by refine rE fb ?_;kernel_rfl) tG I (rE fb (abM _ _ _ _)) (λZ=>rfl) (λxs mD=>?_) (ris:=.nil) .nil .nil (relt:=.var 0) (rE fb (xk O' kyN))
  (by decide) (by refine rE fb ?_;show ∀i∈[0,1],i∈fD o8 lg;refine rE iE ?_;exact λZ h=>h) jH (use:=af) λcq Dl Cn kj hC hD hn r=>?_
 ·obtain rfl:t.map pairD=xs:=W.bp (mD:W.ret (t.map pairD)=_);refine PY k hd.handled I.bH.PZ (T.at (U':=V) En.x live) (λb h=>.inl h) (λh=>?_) En.fm.kind (En.vars _ _ bG);rcases(hV l).mp h with h|h
  ·refine uZ T λo d m vs n TF=>?_;have jL:=TF.jL;exact zN (En.fresh l h▸jL)
  ·exact h.2 rfl
 refine xE hn λm hn=>⟨m,hn,λh' hs'=>hQ _ _ ⟨λb o e=>?_,λgg o e=>kj.gens gg o (En.x.gens gg o e),λe=>kj.bare (En.x.bare e),kj.os.trans En.x.os⟩ ?_⟩
 ·have e3:=En.x.keep b o e;exact(hs'.2 b λq=>by subst q;replace e3:=hC▸e3;exact zN e3).trans (kj.keep b o e3)
 ·cases r with
  |list hl hu r=>refine .list ((hs'.2 Dl λq=>hu (.inr q)).trans hl) (λh=>?_) (aI.P4 _ _ (λd h=>by refine aD (fq.mp h) λq Z e9=>?_;subst e9;exact⟨_,rfl⟩) r);exact xE (ub Dl h) λo e=>zS (En.x.keep _ _ e▸hD)
theorem abP:rz≠gH:=by decide+kernel
theorem abQ:qI (.type "object") rz=pure af:=by refine rE (show rz=("keys" :ah)by decide+kernel) (rE (qS ..) (rE qT ?_));kernel_rfl
theorem abR(k:gk K c)(O:bU K)(hr:∃n,bW A (n+1)){p:Nat→aO}{sc:m4}(M:Meth K f fd o6 (H9 p sc))(hf:c.mN rz=aa (.ref f))(fb:sc.names=lg)(vS:sc.kind=.function)(gG:∀v:ak,jG fd ⟨[v],[]⟩=pure [(("self" :ah),v)])
  (g:br K U s.heap) (ub:UB U s) {v:ak}{t:d6} (T:iW K.hc U s.heap v t) (ht:t.length≤1000000):tm K.w A U s v rz [] (.list (t.map λp=>.str p.1)):=
 PM k M hf abP abQ g T λZ Z Z x TL=>abO k O hr M fb vS gG (g.ext x) (ub.ext x) TL ht
end
noncomputable def Ac:List (ah × eC):=[("self",.local),("_name",.local),("_value",.local),("_params",.local),("parts",.local),("k",.local),("v",.local),("_formatparam",.globalImplicit)]
noncomputable def abS(p:Nat→aO):a9:=
 .If (.Compare (.Name "_value" (p 3)) [.IsNot] [.Constant .none 0 (p 4)] (p 5)) [.Assign [.Name "_value" (p 6)] (CX p 10 (.Name "_value" (p 7)) ag) (p 8),.Expr (.Call (.Attribute (.Name "parts" (p 16)) "append" (p 17)) [.Name "_value" (p 18)] [] (p 19)) (p 20)] [] (p 21)
noncomputable def abT(p:Nat→aO)(FB:List a9):a9:=.For (.Tuple [.Name "k" (p 22),.Name "v" (p 23)] 0 (p 24)) (.Call (.Attribute (.Name "_params" (p 25)) "items" (p 26)) [] [] (p 27)) FB [] (p 28)
noncomputable def C0(p:Nat→aO):a9:=
 .Expr (.Call (.Attribute (.Attribute (.Name "self" (p 29)) gH (p 30)) "append" (p 31)) [.Tuple [CX p 32 (.Name "_name" (p 37)) ae,.Call (.Attribute (.Constant (.str "; ") 0 (p 38)) "join" (p 39)) [.Name "parts" (p 40)] [] (p 41)] 0 (p 42)] [] (p 43)) (p 44)
noncomputable def Ia(p:Nat→aO)(FB:List a9):List a9:=[.Assign [.Name "parts" (p 0)] (.List [] (p 1)) (p 2),abS p,abT p FB,C0 p]
theorem abU:∀x,x∈([("self",()),("_name",()),("_value",()),("_params",()),("parts",()),("k",()),("v",())]:List (ah × Unit))→Ac.lookup x.1=aa .local:=by decide+kernel
theorem P5:∀x∈(["self","_name","_value","_params","parts"]:List ah),(x == ("__debug__" :ah))=ag:=by decide+kernel
section
variable{K:Kt}{c:lT}
structure lU(s:ay)(env:bF)(m:gy)(s':ay):Prop where
 x:Ext s s'
 ns:s'.heap.Ns env.locals m
 fr:s.heap.get? env.locals=af
theorem lU.ext{m:gy}{av:ay}(F:lU s env m ai)(y:Ext ai av):lU s env m av:=⟨F.x.trans y,F.ns.keeps y.keep,F.fr⟩
theorem lU.store{m:gy}(F:lU s env m ai)(hk:env.scope.kind=.function){y:ah}{v:ak}(hl:env.kindOf y=aa .local){Q:Unit→ay→Prop}
  (hQ:∀s',lU s env (λz=>if z=y then aa v else m z) s'→Mv (λa=>a=env.locals) (λZ=>False) ai s'→Q () s'):ar (aw prog K.w) A (qO env y v) Q E ai:=by
 refine Ew (hp:=by refine rE hk ?_;rfl) hl F.ns λh' hn cB=>?_;have mv:Mv (λa=>a=env.locals) (λZ=>False) ai {ai with heap:=h',toks:=ai.toks+1}:=⟨λa o n e=>(cB.2 a n).trans e,λZ Z Z e=>e,λe=>e,rfl⟩;exact hQ _ ⟨mv.ext F.x (λa h=>h▸F.fr) λZ h=>h.elim,hn,F.fr⟩ mv
theorem lU.write{m:gy}(F:lU s env m ai){P:aE}(hP:s.heap.get? P=af)(bQ:P≠env.locals)(cB:yI P ai.heap h'):lU s env m {ai with heap:=h'}:=by have mv:Mv (λa=>a=P) (λZ=>False) ai {ai with heap:=h'}:=⟨λa o n e=>(cB.2 a n).trans e,λZ Z Z e=>e,λe=>e,rfl⟩;refine⟨mv.ext F.x (λa h=>h▸hP) λZ h=>h.elim,?_,F.fr⟩;exact fy F.ns λo es ep e r=>⟨o,es,ep,(cB.2 _ λq=>bQ q.symm).trans e,r⟩
theorem UX{o e:au}{p1:aO}{P:aE}(vc:Ut o "append" env (eval o env)=eval o env)(hl:cH p1 p2)(hs:nI e=ag)
  (h1:∀ (Q E:aW),(∀s',Ext s s'→(∃vs n,s'.heap.get? P=aa (cy vs n))→Q (.ref P) s')→ar (aw prog K.w) A (eval o env) Q E s)
  {Q E:aW} (h2:∀s',Ext s s'→ar (aw prog K.w) A (eval e env) (λv dh=>ar (aw prog K.w) A (call (.builtin "list.append") [.ref P,v]) Q E dh) E s'):
  ar (aw prog K.w) A (eval (.Call (.Attribute o "append" p1) [e] [] p2) env) Q E s:=by
 have zr:methodCallForm ([e].length+([]:List El).length) (gK p2 (f7 [e] env)) (backToKw p2 (keywordEach [] env)):=by refine rE (mC hs) ?_;rfl
 have zt:(p1.endLine == p2.line):=rE (fZ hl) (beq_self_eq_true _)
 have zu:A5 ae o env p1 p2=pure p2:=by unfold A5;simp[zt]
 refine rE (Uv ..) (rE vc ?_);refine aB (h1 _ _ λai aq hP=>aB (kJ ?_));unfold methodCall;refine rE zr (aB (ji ?_));unfold calleeOf;refine rE (if_pos rfl) (lD hP λvs n hP=>getMethod_list_append hP rfl rfl (aB (ow zu ?_)));exact rE (mC hs) (uC rfl (qN (iu (ib (h2 ai aq) (λv av q=>j5 q) λZ Z q=>q))))
theorem P6{o e:au}{p1:aO}{P:aE}(vc:Ut o "append" env (eval o env)=eval o env)(hl:cH p1 p2)(hs:nI e=ag)
  (h1:∀ (Q E:aW),(∀s',Ext s s'→(∃vs n,s'.heap.get? P=aa (cy vs n))→Q (.ref P) s')→ar (aw prog K.w) A (eval o env) Q E s)
  {PV:aW} (h2:∀s',Ext s s'→∀ (Q E:aW),(∀v dh,Ext s' dh→PV v dh→Q v dh)→ar (aw prog K.w) A (eval e env) Q E s')
  {Q E:aW}{vs:Array ak}{n:Nat} (hP:s.heap.get? P=aa (cy vs n)) (hz:vs.size≤qG)
  (hQ:∀s' v h' n',Ext s s'→PV v s'→h'.get? P=aa (cy (vs.push v) n')→yI P s'.heap h'→Q .none {s' with heap:=h'}):
  ar (aw prog K.w) A (eval (.Call (.Attribute o "append" p1) [e] [] p2) env) Q E s:=
 UX vc hl hs h1 λai aq=>h2 ai aq _ _ λv av aC pv=>B8 (aC.keep _ _ (aq.keep _ _ hP)) hz λh' n' f1 f2=>hQ av v h' n' (aq.trans aC) pv f1 f2
theorem fQ.loc{h:aP}{v:ak}{m:gy}(q:fQ env h x v)(k:env.kindOf x=aa .local)(n:h.Ns env.locals m):m x=aa v:=by
 rcases q with⟨_,m',n',e⟩| ⟨k'|k',_⟩
 ·exact rS (n'.agree n x) e
 ·replace k':=k▸k';cases k'
 ·replace k':=k▸k';cases k'
theorem abV:("self" :ah)≠ "parts" ∧("_name" :ah)≠ "parts" ∧("_value" :ah)≠ "parts" ∧("_params" :ah)≠ "parts" ∧("self" :ah)≠ "_value" ∧("_name" :ah)≠ "_value" ∧("_params" :ah)≠ "_value" ∧("parts" :ah)≠ "_value" :=by decide+kernel
structure Ad(p:Nat→aO):Prop where
 a:cH (p 11) (p 13)
 b:cH (p 17) (p 19)
 c:(p 26).endLine == (p 27).line
 d:cH (p 31) (p 43)
 e:cH (p 33) (p 35)
 f:cH (p 39) (p 41)
structure Ae(s:ay)(env:bF)(m:gy)(eJ:ay)(a P:aE)(x y:ah):Prop where
 fr:lU s env m eJ
 kind:env.scope.kind=.function
 look:∀z,z∈(["self","_name","_value","_params","parts","k","v"]:List ah)→env.kindOf z=aa .local
 self:m "self" =aa (.ref a)
 name:∃rY,m "_name" =aa (.str x rY)
 parts:m "parts" =aa (.ref P)
 list:∃vT n',eJ.heap.get? P=aa (cy (#[].push (.str y vT)) n')
 frame:env.frame=aa env.locals
set_option maxRecDepth 8000 in
theorem P7(k:gk K c){Rc:a9}(cv:k9 K fC uX pc Rc)(jS:c.mN kx=aa (.ref fC))(O:bU K)(hr:∃n,bW A (n+1)){p:Nat→aO}{FB:List a9}(M:Meth K f fd Ac (Ia p FB))
  (gG:∀a b cc:ak,jG fd ⟨[a,b,cc],[]⟩=(alloc {cls:=.type "dict",data:=.dict #[]} >>= λd=>pure [(("self" :ah),a),(("_name" :ah),b),(("_value" :ah),cc),(("_params" :ah),.ref d)])) (hl:Ad p)
  (g:br K U s.heap) {a l:aE}{t:d6} (T:dO K.hc U s.heap a l t) {x y:ah}{rY Ab:mZ} (hy:keyOk y) {Q E:aW}
  (hQ:∀env m eJ P,Ae s env m eJ a P x y→ar (aw prog K.w) (A.deeper env) (exec (C0 p) env) (λf s'=>f=.next∧Q .none s') (λe s'=>ar (aw prog K.w) (A.deeper env) (leaving env e) (λZ dh=>E e dh) E s') eJ):ar (aw prog K.w) A (call (.ref f) [.ref a,.str x rY,.str y Ab]) Q E s:=by
 refine xE hr ?_;clear hr;intro rn fe;have o7:A.depth<iS:=by have:=fe.depth;lia
 have lk:∀z,z∈(["self","_name","_value","_params","parts","k","v"]:List ah)→Ac.lookup z=aa .local:=λz hz=>abU (z,()) (by simpa using hz);refine PO (args:=⟨[.ref a,.str x rY,.str y Ab],[]⟩) (P:=λbinds s'=>∃d,binds=[(("self" :ah),.ref a),(("_name" :ah),.str x rY),(("_value" :ah),.str y Ab),(("_params" :ah),.ref d)]∧Ext s s'∧d=s.heap.objs.size∧s'.heap.get? d=aa {cls:=.type "dict",data:=.dict #[]})
  M o7 g (λQ E h=>by refine rE (gG ..) ?_;exact aB (wpAny_alloc' (bz (h _ _ ⟨_,rfl,.push,rfl,eT _ rfl⟩)))) (λbinds s' hp=>?_) (by decide+kernel) λbinds aT env ai hp En=>?_
 ·clear o7 M FB;refine gA hp λd e9 jr Z Z=>?_;subst e9;refine⟨jr,(show UW [("self" :ah),"_name","_value","_params"]by decide+kernel),λz hz=>.inl ?_⟩;simp only[bE,sN,or_false]at hz;rcases hz with rfl|rfl|rfl|rfl<;>exact lk _ (by simp)
 clear o7 M;refine gA hp ?_;clear hp;intro d e9 jr cx C1;subst e9;have rZ:=fe.deeper (env:=env);have hK:=En.fm.kind;have qi:∀z,z∈(["self","_name","_value","_params","parts","k","v"]:List ah)→env.kindOf z=aa .local:=λz hz=>En.fm.look _ _ (lk z hz);refine xE En.bu.loc.2 λm0 vU=>?_;have xO:lU s env m0 ai:=⟨jr.trans En.x,vU,jN jr (En.fresh _ (.inl rfl))⟩;have fd0:s.heap.get? d=af:=rE cx (eM _)
 have v1:m0 "self" =aa (.ref a):=(En.vars "self" _ (by simp)).loc (qi _ (by simp)) vU;have v2:m0 "_name" =aa (.str x rY):=(En.vars "_name" _ (by simp)).loc (qi _ (by simp)) vU;have v3:m0 "_value" =aa (.str y Ab):=(En.vars "_value" _ (by simp)).loc (qi _ (by simp)) vU;have v4:m0 "_params" =aa (.ref d):=(En.vars "_params" _ (by simp)).loc (qi _ (by simp)) vU;have vG:d≠env.locals:=λq=>by have:=En.fresh d (.inl q);exact zS (C1▸this)
 have rd:∀ {z:ah}{v:ak}{m:gy}{s':ay}{pp:aO}{A':dU},z∈(["self","_name","_value","_params","parts"]:List ah)→s'.heap.Ns env.locals m→m z=aa v→∀ (Q E:aW),Q v s'→ar (aw prog K.w) A' (eval (.Name z pp) env) Q E s':=
  λ{z v m s' pp A'} hz n e Q E h=>lS hK (qi z (by simp at hz ⊢;rcases hz with h|h|h|h|h<;>simp[h])) n e (P5 z hz) h
 have inst:∀ {s':ay},Ext s s'→qh K.hc s'.heap a l:=λx=>(T.at (U':=U) x λZ h=>.inl h).inst;obtain⟨n1,n2,n3,n4,n5,n6,n7,n8⟩:=abV;refine gw (oC (List_ (j5 (wI ?_))));obtain⟨P,hP⟩:∃P,P=ai.heap.objs.size:=⟨_,rfl⟩;obtain⟨av,iH⟩:∃av:ay,av={ai with heap:=ai.heap.push (cy #[] 0)}:=⟨_,rfl⟩;have aC:Ext ai av:=rE iH (.push (s:=ai) (k:=ai.toks))
 have xm:av.heap.get? P=aa (cy #[] 0):=rE iH (rE hP (eT _ rfl))
 show ar _ _ (qO env "parts" (.ref ai.heap.objs.size)) _ _ {ai with heap:=ai.heap.push (cy #[] 0)};refine rS iH (rS hP ?_);have Ib:ai.heap.get? P=af:=rE hP (eM _)
 have hPs:s.heap.get? P=af:=jN xO.x Ib;have C2:P≠env.locals:=λq=>by refine fy vU ?_;clear vU;intro o _ _ e _;replace e:=q.symm▸e;exact zN (Ib▸e)
 refine(xO.ext aC).store hK (qi _ (by simp)) λaR i0 Af=>?_;have vf:=Af.keep P _ C2 xm;have P8:=Af.keep d _ vG (aC.keep _ _ (En.x.keep _ _ C1));refine gw (wQ (yF (rd (by simp) i0.ns (by simp[n3];exact v3) _ _ (Eo (wpAny_isNot_other rfl (by simp) (lu ?_)))) rfl));refine rE (if_pos rfl) (gw (oC (HX k cv jS O (by have:=rZ.depth;lia) (g.ext i0.x) (inst i0.x) hl.a rfl (cg hy).1 (rd (by simp) i0.ns (by simp[n1];exact v1)) (λQ E h=>rd (by simp) i0.ns (by simp[n3];exact v3) _ _ (h _ _ (.refl _))) λcq vT kj=>?_)));refine(i0.ext kj).store hK (qi _ (by simp)) λlO Ic Ie=>?_;have Ig:=Ie.keep P _ C2 (kj.keep _ _ vf);have Ih:=Ie.keep d _ vG (kj.keep _ _ P8);refine gw (UY (P6 (P:=P) (PV:=λv Z=>v=.str y vT) rfl hl.b rfl (λQ E h=>rd (by simp) Ic.ns (by simp[n8]) _ _ (h _ (.refl _) ⟨_,_,Ig⟩)) (λs' x' Q E h=>rd (by simp) (Ic.ns.keeps x'.keep) (by simp) _ _ (h _ _ (.refl _) rfl)) Ig (eo _) λs' v h' n' x' pv e' cB=>?_)
  (by unfold interactive;refine rE hK ?_;rfl))
 clear Ie kj cq P8 vf Af i0 aR Ib xm;subst pv;have vV:=(Ic.ext x').write hPs C2 cB;obtain⟨lP,C3⟩:∃lP:ay,lP={s' with heap:=h'}:=⟨_,rfl⟩;replace vV:=jg C3▸vV;have abW:lP.heap.get? P=aa (cy (#[].push (.str y vT)) n'):=rE C3 e'
 have P9:d≠P:=λq=>by rw[q,Ig]at Ih;have:=congrArg fJ.cls (ir Ih);exact absurd this (by simp[cy])
 have Qa:lP.heap.get? d=aa {cls:=.type "dict",data:=.dict #[]}:=rE C3 ((cB.2 d P9).trans (x'.keep _ _ Ih))
 show ar _ _ _ _ _ {s' with heap:=h'};refine rS C3 ?_;have Qb:(d == sysModules)=ag:=by refine fy g.ng λo Z Z e Z=>?_;have:=jD e;exact rE cx (beq_false_of_ne (oG (ew (by decide:sysModules<gp) this)))
 refine oB (gw (tO (wpAny_For_items_locals (knd:=wJ prog K.w) (kvs:=[]) (ep:=0) rZ.handled (qi _ (by simp)) (qi _ (by simp)) (by refine rE hK ?_;rfl) vG Qb ⟨_,#[],Qa,⟨rfl,rfl,rfl⟩,rfl,λe h=>(by simp at h),.nil,yG⟩ vV.ns rfl hl.c
  (λQ' h=>rd (by simp) vV.ns (by simp[n7,n4];exact v4) _ _ h) (λZ m'=>m'=_) rfl (λi Z Z Z Z Z h=>by simp at h) (λHW tk m' hn hm hk=>?_) (λZ=>rfl) PassesOwn.never)))
 clear Qb Qa P9 cB e' x';subst hm;obtain⟨eJ,Ii⟩:∃eJ:ay,eJ={lP with heap:=HW,toks:=tk}:=⟨_,rfl⟩;have Ij:Mv (λb=>b=env.locals) (λZ=>False) lP eJ:=rE Ii ⟨hk,λZ Z Z e=>e,λe=>e,rfl⟩
 have ig:lU s env _ eJ:=⟨Ij.ext vV.x (λb h=>h▸vV.fr) λZ h=>h.elim,by refine rE Ii ?_;exact hn,vV.fr⟩;have C4:=Ij.keep P _ C2 abW;show ar _ _ _ _ _ {lP with heap:=HW,toks:=tk};refine rS Ii ?_;clear hn;refine gw (ib (hQ env _ eJ P ⟨ig,hK,qi,by simp[n5,n1];exact v1,⟨rY,by simp[n6,n2];exact v2⟩,by simp[n8],⟨vT,n',C4⟩,En.frame⟩) (λf s' q=>?_) λZ Z q=>q);clear C4 ig Ij hk;obtain⟨rfl,q⟩:=q;exact oB q
theorem Ae.rd{eJ:ay}{GV:gy}{P:aE}{y:ah}(X:Ae s env GV eJ a P x y){z:ah}{v:ak}{m:gy}{pp:aO}{A':dU}(hz:z∈(["self","_name","_value","_params","parts"]:List ah))(n:s'.heap.Ns env.locals m)(e:m z=aa v)(Q E:aW)(h:Q v s'):ar (aw prog K.w) A' (eval (.Name z pp) env) Q E s':=
 lS X.kind (X.look z (by simp at hz ⊢;rcases hz with h|h|h|h|h<;>simp[h])) n e (P5 z hz) h
set_option maxRecDepth 8000 in
theorem abX(k:gk K c){Rc:a9}(cv:k9 K fC uX pc Rc)(jS:c.mN kx=aa (.ref fC))(O:bU K)(hr:∃n,bW A (n+1)){p:Nat→aO}(hl:Ad p)
  (g:br K U s.heap) (ub:UB U s) {a l:aE} (ul:U l) {t:d6} (T:dO K.hc U s.heap a l t) {x y:ah} (hx:iz x) (hy:keyOk y) (ht:t.length<1000000) {env:bF}{m:gy}{eJ:ay}{P:aE} (X:Ae s env m eJ a P x y) {Q E:aW}
  (hQ:∀u aR,Mv (λb=>b=l) (λZ=>False) s aR→dO K.hc U aR.heap a l (t++[(x,y)])→Q u aR):ar (aw prog K.w) (A.deeper env) (exec (C0 p) env) (λf s'=>f=.next∧Q .none s') E eJ:=by
 refine xE hr ?_;clear hr;intro rn fe;have rZ:=fe.deeper (env:=env);have ig:=X.fr;have inst:∀ {s':ay},Ext s s'→qh K.hc s'.heap a l:=λx=>(T.at (U':=U) x λZ h=>.inl h).inst;have rd:∀ {z:ah}{v:ak}{m:gy}{s':ay}{pp:aO}{A':dU},z∈(["self","_name","_value","_params","parts"]:List ah)→s'.heap.Ns env.locals m→m z=aa v→∀ (Q E:aW),Q v s'→ar (aw prog K.w) A' (eval (.Name z pp) env) Q E s':=X.rd;refine xE X.name λrY v2=>lD X.list λvT n' C4=>?_;have aiF:=T.at (U':=U) ig.x λZ h=>.inl h;refine uZ (id T) λo dd m vs n TF=>?_;have jL:s.heap.get? l=aa (cy vs n):=TF.jL;have h2:∀s',Ext eJ s'→∀ (Q E:aW),(∀v dh,Ext s' dh→(∃Tt t3 t4,v=.ref Tt∧s.heap.get? Tt=af∧dh.heap.get? Tt=aa (y6 #[.str x t3,.str y t4] 0))→Q v dh)→
   ar (aw prog K.w) (A.deeper env) (eval (.Tuple [CX p 32 (.Name "_name" (p 37)) ae,.Call (.Attribute (.Constant (.str "; ") 0 (p 38)) "join" (p 39)) [.Name "parts" (p 40)] [] (p 41)] 0 (p 42)) env) Q E s':=by
  intro s' x' Q E h;have F':=ig.ext x';refine Tuple_ (iu (HX k cv jS O (by have:=rZ.depth;lia) (g.ext F'.x) (inst F'.x) hl.e rfl hx (rd (by simp) F'.ns X.self) (λQ E h=>rd (by simp) F'.ns v2 _ _ (h _ _ (.refl _))) λoW Qc Ag=>iu ?_));have r0:=F'.ext Ag;have abY:=Ag.keep _ _ (x'.keep _ _ C4);show ar (aw prog K.w) (A.deeper env) (if ag then _ else _) _ _ _;refine rE (if_neg f9) (pQ rfl hl.f (bc rfl) rfl ?_)
  with_reducible refine KA ?_
  intro pl
  with_reducible refine GM.join ?_
  refine uC rfl (qN (iu (rd (v:=.ref P) (by simp) (r0.ext (.tok (k:=oW.toks+1))).ns X.parts _ _ (j5 ?_))));have hyl:(sL y).length≤1000000:=bc (cg hy).2;refine join_list (D:=P) (items:= #[.str y vT]) (ys:=[y]) ⟨_,abY,rfl,_,rfl⟩ (.cons _ _ .nil) ?_ λabZ kk=>?_
  ·have:y.length=(sL y).length:=ie y▸rfl;have h2:("; " :ah).length=2:=by decide+kernel
   simp only[iT,qU,aht,List.sum_nil,bT,nc];refine rE this (rE h2 ?_);lia
  refine j5 (Ej ?_);have hj:Txt.join ("; " :ah) [y]=y:=by have h:=L9 ("; " :ah) [y];exact h.trans rfl
  refine rE hj (h _ _ (Ag.trans (Ext.tok (s:=oW) (k:=kk) |>.trans (.push (k:=kk)))) ⟨_,Qc,abZ,rfl,?_,eT _ rfl⟩);exact jN (r0.x.trans (.tok (k:=kk))) (eM _)
 refine UY (P6 (P:=l) rfl hl.d rfl (λQ E h=>K1 (rd (by simp) ig.ns X.self _ _ (CV k (g.ext ig.x) (inst ig.x) (h _ .tok ⟨vs,n,ig.x.keep _ _ jL⟩)))) h2 (ig.x.keep _ _ jL) (by have:=aI.pairs_len TF.tj;replace this:=eL▸this;refine rE lx ?_;lia) λs' v h3 n3' x' pv e' cB=>?_)
  (by unfold interactive;refine rE X.kind ?_;rfl)
 clear E h2;refine ic pv ?_;clear pv;intro Tt t3 t4 e9 ft gt;subst e9;refine⟨rfl,hQ _ _ ⟨λb o n e=>(cB.2 b n).trans ((ig.x.trans x').keep b o e),λgg o Z e=>(ig.x.trans x').gens gg o e,(ig.x.trans x').bare,(ig.x.trans x').os⟩ ?_⟩;have xs:=ig.x.trans x';have kU:∀b o,¬U b→s.heap.get? b=aa o→h3.get? b=aa o:=λb o n e=>(cB.2 b λq=>n (q▸ul)).trans (xs.keep b o e);have nl:∀ {b},¬U b→b≠l:=λn q=>n (q▸ul);refine fy TF.e7 λod esd epd ed rdd=>⟨o,dd,m,vs.push (.ref Tt),n3',kU _ _ TF.e6 TF.e2,TF.e3,TF.e4,TF.e5,TF.e6,⟨od,esd,epd,kU _ _ TF.e8 ed,rdd⟩,TF.e8,TF.e9,TF.mz,TF.zq,e',?_⟩;refine rE KJ (rE dw ?_);refine(TF.tj.mono kU λZ Z Z n=>n).append (.one (.tup (n:=0) ((cB.2 Tt λq=>?_).trans gt) (λu=>?_) (.cons (.str _ _) (.one (.str _ _)))))
 ·replace ft:=q▸ft;exact zS (jL▸ft)
 ·exact xE (ub Tt u) λo' e'=>zS (e'▸ft)
theorem ab0(k:gk K c){Rc:a9}(cv:k9 K fC uX pc Rc)(jS:c.mN kx=aa (.ref fC))(O:bU K)(hr:∃n,bW A (n+1)){p:Nat→aO}(hl:Ad p)
  (g:br K U s.heap) {a l:aE}{t:d6} (T:dO K.hc U s.heap a l t) {x y:ah} (hx:iz x=ag) (hxa:mi (sL x)) (zO:(sL x).length=1) {env:bF}{m:gy}{eJ:ay}{P:aE} (X:Ae s env m eJ a P x y)
  {base:aP}{fs:List bF} (cC:A.frames=aa fs) (st:base.StaysIn s.heap) (ff:s.heap.FunFrames base fs) {Q:jk→ay→Prop}{E:aW} (hE:∀e s',oU base (env::fs) e s s'→E (.ref e) s'):ar (aw prog K.w) (A.deeper env) (exec (C0 p) env) Q E eJ:=by
 refine xE hr λrn fe=>?_;have rZ:=fe.deeper (env:=env);have ig:=X.fr;refine xE X.name λrY v2=>?_;have inst:∀ {s':ay},Ext s s'→qh K.hc s'.heap a l:=λx=>(T.at (U':=U) x λZ h=>.inl h).inst;refine uZ (id T) λo dd m vs n TF=>UY (UX (P:=l) rfl hl.d rfl (λQ E h=>K1 (X.rd (by simp) ig.ns X.self _ _ (CV k (g.ext ig.x) (inst ig.x) (h _ .tok ⟨vs,n,ig.x.keep _ _ TF.jL⟩)))) λs' x'=>?_) (by unfold interactive;refine rE X.kind ?_;rfl);have F':=ig.ext x';refine Tuple_ (iu (PH k cv jS (g.ext F'.x) (inst F'.x) hl.e rfl (X.rd (by simp) F'.ns X.self) (λQ E h=>X.rd (by simp) F'.ns v2 _ _ (h _ _ (.refl _))) λoW Qc Ag=>?_));have r0:=F'.ext Ag;exact abc cv O (by have:=rZ.depth;lia) rZ.handled (g.ext r0.x) hx hxa zO (UT cC) (PD st r0.x) (.cons (by refine rE X.kind ?_;nofun) X.frame r0.ns (PC st r0.fr) (PE ff r0.x)) λe ab1 f=>hE e ab1 (f.ext r0.x)
end
theorem ab2:rA=("add_header" :ah):=by decide+kernel
theorem ab3:rA≠gH:=by decide+kernel
theorem ab4:qI (.type "object") rA=pure af:=by refine rE ab2 (rE (qS ..) (rE qT ?_));kernel_rfl
noncomputable def Ik(p:Nat→aO)(B FB:List a9):List a9:=
 [.Assign [.Name "headers" (p 0)] (.IfExp (.Compare (.Name "headers" (p 1)) [.IsNot] [.Constant .none 0 (p 2)] (p 3)) (.Name "headers" (p 4)) (.List [] (p 5)) (p 6)) (p 7),
  .If (.Compare (.Call (.Name "type" (p 8)) [.Name "headers" (p 9)] [] (p 10)) [.IsNot] [.Name "list" (p 11)] (p 12)) B [] (p 13),
  .Assign [.Attribute (.Name "self" (p 14)) gH (p 15)] (.Name "headers" (p 16)) (p 17),
  .If (.Constant (.bool ae) 0 (p 18)) [.For (.Tuple [.Name "k" (p 19),.Name "v" (p 20)] 0 (p 21)) (.Name "headers" (p 22)) FB [] (p 23)] [] (p 24)]
noncomputable def vW:List (ah × eC):=[("self",.local),("headers",.local),("k",.local),("v",.local),("type",.globalImplicit),("list",.globalImplicit),("TypeError",.globalImplicit),("__debug__",.globalImplicit)]
theorem ab5:vW.lookup ("self" :ah)=aa .local∧vW.lookup ("headers" :ah)=aa .local∧vW.lookup ("type" :ah)=aa .globalImplicit∧vW.lookup ("list" :ah)=aa .globalImplicit:=by decide+kernel
section
variable{K:Kt}{c:lT}
theorem ab6(k:gk K c){Rc:a9}(cv:k9 K fC uX pc Rc)(jS:c.mN kx=aa (.ref fC))(O:bU K)(hr:∃n,bW A (n+1)){p:Nat→aO}{FB:List a9}(M:Meth K f fd Ac (Ia p FB))(hf:c.mN rA=aa (.ref f))
  (gG:∀a b cc:ak,jG fd ⟨[a,b,cc],[]⟩=(alloc {cls:=.type "dict",data:=.dict #[]} >>= λd=>pure [(("self" :ah),a),(("_name" :ah),b),(("_value" :ah),cc),(("_params" :ah),.ref d)])) (hl:Ad p):zU K A where
 G8:=λU s a l t g ub ul T pl Q E hQ=>by
  refine CW k g T.inst ab3 M hf ab4 (hQ (.ref f) [.ref a] s (.refl s) ?_ λvs av x y aC fB hy ht=>?_)
  ·exact gA (M.at g) λo ho Z hd Z=>⟨f,o,fd,rfl,ho,hd⟩
  ·clear hQ E Q pl;refine cK (xp fB) λu v e9 ru rv=>?_;subst e9;clear fB;refine xE ru.cQ λZ e9=>?_;subst e9;refine xE rv.cQ λZ e9=>?_;subst e9;have iK:=g.ext aC;have iY:=T.at (U':=U) aC λZ h=>.inl h;refine⟨λhx Q' E' z8=>?_,λhx ha h1 base fs cC st ff Q' E' hE'=>?_⟩
   ·exact P7 k cv jS O hr M gG hl iK iY hy λenv m eJ P X=>abX k cv jS O hr hl iK (ub.ext aC) ul iY hx hy ht X z8
   ·exact P7 k cv jS O hr M gG hl iK iY hy λenv m eJ P X=>ab0 k cv jS O hr hl iK iY hx ha h1 X cC st ff λe aR fl=>fl.leave cC X.frame λcq ab7=>hE' e cq ab7
theorem ab8(k:gk K c)(g:br K U s.heap){Q:_→ay→Prop}(h:Q .machine s):ar (aw prog K.w) A (keeperOf (.ref K.hc)) Q E s:=by
 have C5:=(k.at g).1;obtain⟨hh,gg,d,t,os⟩:=s;have f1:=tc_lookup;have hT:(⟨hh,gg,d,t,os⟩:ay).TypeIs (.ref K.hc) "type" :=⟨_,C5,rfl⟩;unfold keeperOf specialOf;unfold lT.obj at C5
 repeat (any_goals (first|assumption|with_reducible refine wpAny_loadPart_at C5 ?_|with_reducible refine wpAny_load' C5 ?_|wp_step))
theorem ab9(k:gk K c)(g:br K U s.heap)(h:ar (aw prog K.w) A (call (.ref K.hc) []) Q E s):ar (aw prog K.w) A (j4 p (.ref K.hc) [] [] []) Q E s:=by unfold j4;refine aB (ji (KC (aB (kJ ?_))));show ar _ _ (keeperOf (.ref K.hc) >>= _) _ _ _;refine aB (ab8 k g ?_);show ar _ _ (call (.ref K.hc) [] [] >>= λr=>do holding [r] point;pure r) _ _ _;exact aB (ib h (λr s' hr=>aB (ji (UJ (bz hr)))) λZ Z x=>x)
theorem aca:("self" :ah)≠ "headers" ∧(("self" :ah) == ("__debug__" :ah))=ag∧(("headers" :ah) == ("__debug__" :ah))=ag∧(("type" :ah) == ("__debug__" :ah))=ag∧(("list" :ah) == ("__debug__" :ah))=ag:=by decide+kernel
set_option maxRecDepth 8000 in
theorem acb(k:gk K c)(hr:∃n,bW A (n+1)){p:Nat→aO}{B FB:List a9}(M:Meth K f fd vW (Ik p B FB))(gG:∀ (s:ay) (v:ak),(∀U,br K U s.heap→Bk s fd ⟨[v],[]⟩ [(("self" :ah),v),(("headers" :ah),.none)]))
  (ty:K.mg "type" =af∧K.mb "type" =aa (.type "type")) (li:K.mg "list" =af∧K.mb "list" =aa (.type "list")) (g:br K U s.heap) {x dx:aE} (ux:¬U x) (Il:¬U dx) (hx:s.heap.Inst x K.hc λZ=>af) (hdx:∀o,s.heap.get? x=aa o→o.dict=aa dx) (Im:x≠K.hc)
  (gU:∀b,(b=x∨b=dx)→∀o,K.fr b o→False) {Q E:aW}
  (hQ:∀s' L,Mv (λb=>b=x∨b=dx) (λZ=>False) s s'→s.heap.get? L=af→s'.heap.get? L=aa (cy #[] 0)→qh K.hc s'.heap x L→(∀o,s'.heap.get? x=aa o→o.dict=aa dx)→Q .none s'):ar (aw prog K.w) A (call (.ref f) [.ref x]) Q E s:=by
 refine xE hr λrn fe=>?_;have o7:A.depth<iS:=by have:=fe.depth;lia
 refine yY ab5 λl1 l2 l3 l4=>E5 aca λn1 n2 n3 n4 n5=>PK M o7 g (gG s _ U g) (by decide+kernel) (λz hz=>?_) λenv ai aq F lK hL=>?_
 ·simp only[bE,sN,or_false]at hz;rcases hz with rfl|rfl
  ·exact l1
  ·exact l2
 have rZ:=fe.deeper (env:=env);have hK:=F.kind;have xO:lU s env _ ai:=⟨aq,lK,hL⟩;have e1:[(("self" :ah),yH x),(("headers" :ah),uy)].reverse.lookup ("self" :ah)=aa (yH x):=by simp[wN,beq_false_of_ne n1]
 have e2:[(("self" :ah),yH x),(("headers" :ah),uy)].reverse.lookup ("headers" :ah)=aa uy:=by simp[wN]
 refine gw (oC (wpAny_IfExp (yF (lS hK (F.look _ _ l2) xO.ns e2 n3 (Eo (wpAny_isNot_plain rfl (lu ?_)))) rfl)));refine rE (if_neg (by decide)) (List_ (j5 (wI ?_)));obtain⟨L,Io⟩:∃L,L=ai.heap.objs.size:=⟨_,rfl⟩;obtain⟨av,iH⟩:∃av:ay,av={ai with heap:=ai.heap.push (cy #[] 0)}:=⟨_,rfl⟩;have aC:Ext ai av:=rE iH (.push (s:=ai) (k:=ai.toks))
 have xm:av.heap.get? L=aa (cy #[] 0):=rE iH (rE Io (eT _ rfl))
 show ar _ _ (qO env "headers" (.ref ai.heap.objs.size)) _ _ {ai with heap:=ai.heap.push (cy #[] 0)};refine rS iH (rS Io ?_);have Qd:ai.heap.get? L=af:=rE Io (eM _)
 have vX:s.heap.get? L=af:=jN xO.x Qd;have hLL:L≠env.locals:=λq=>by refine fy lK λo Z Z e Z=>?_;replace e:=q.symm▸e;exact zN (Qd▸e)
 refine(xO.ext aC).store hK (F.look _ _ l2) λaR i0 Af=>?_;have vf:=Af.keep L _ hLL xm;have z4:=g.ext i0.x;obtain⟨m3,m1,m2,i0⟩:∃m3:gy,m3 "self" =aa (.ref x)∧m3 "headers" =aa (.ref L)∧lU s env m3 aR:=⟨_,by simp only[if_neg n1];exact e1,by simp,i0⟩;refine gw (wQ (yF ?_ rfl));show ar _ _ (do j4 (p 10) (← eval (.Name "type" (p 8)) env) [] (gK (p 10) (f7 [.Name "headers" (p 9)] env)) []) _ _ aR;refine aB (z9 hK (F.look _ _ l3) F.gl F.bi z4 ty n4 (A6 rfl (qN (iu (lS hK (F.look _ _ l2) i0.ns m2 n3 (j5 (call_type_of (Tx:= "list") ⟨_,vf,rfl⟩ (by decide+kernel) ?_)))))));refine z9 hK (F.look _ _ l4) F.gl F.bi z4 li n5 (wpAny_isNot_self rfl (lu ?_));refine rE (if_neg f9) (oB (gw (plainObj_wpAny_Assign_Attribute (lS hK (F.look _ _ l2) i0.ns m2 n3 (lS hK (F.look _ _ l1) i0.ns m1 n2 ?_)))));refine xA (k.at z4) λc1 c2=>?_;have HG:aR.heap.Inst x K.hc λZ=>af:=by refine gA hx λo h1 h2 h3 h4=>⟨o,i0.x.keep _ _ h1,h2,h3,h4.imp id λ⟨d,q1,q2,q3⟩=>⟨d,q1,q2,q3.at λo e=>i0.x.keep _ _ e⟩⟩
 obtain⟨ox,xP⟩:∃o,s.heap.get? x=aa o:=let⟨o,h1,_⟩:=hx;⟨o,h1⟩
 have Qe:=i0.x.keep _ _ xP;refine store_attr (mA:=λZ=>af) (ns:=[]) PySem.F.store_object c1 c2 k.sa k.hd PG Im HG (λoV Qf rP acd ace=>?_) (λz h=>(h rfl).elim) (by decide);obtain⟨cq,C6⟩:∃cq:ay,cq={aR with heap:=oV,toks:=Qf}:=⟨_,rfl⟩;show ar _ _ _ _ _ {aR with heap:=oV,toks:=Qf};refine rS C6 (BB (ace ox Qe) λaiG q1 q2 q3 q4 q5=>?_);have xQ:=hdx ox xP;have Ip:Mv (λb=>b=x∨b=dx) (λZ=>False) aR cq:=rE C6 ⟨λb o n e=>acd b o (λq=>n (.inl q)) (λaiH d h1 h2 q=>n (.inr (by replace h1:=iJ (Qe▸h1);subst h1;replace h2:=iJ (xQ▸h2);subst h2;exact q))) e,λZ Z Z e=>e,λe=>e,rfl⟩
 have hLx:¬ (L=x∨L=dx):=λq=>by
  rcases q with q|q
  ·replace vX:=q▸vX;exact zS (xP▸vX)
  ·refine gA hx λo h1 Z Z h4=>?_;replace h1:=iJ (xP▸h1);subst h1;rcases h4 with⟨h4,_⟩| ⟨d,h5,_,od,_,_,h6,_⟩
   ·exact zS (xQ▸h4)
   ·replace h5:=iJ (xQ▸h5);subst h5;replace vX:=q▸vX;exact zS (h6▸vX)
 have Qg:=Ip.keep L _ hLx vf;have xu:Mv (λb=>b=x∨b=dx) (λZ=>False) s cq:=i0.x.mv.trans Ip;have Qh:qh K.hc cq.heap x L:=rE C6 ⟨_,rP,if_pos rfl,λz hz=>if_neg hz⟩
 have acf:∀o,cq.heap.get? x=aa o→o.dict=aa dx:=λo e=>by replace e:=C6▸e;replace q1:=iJ ((show oV.get? x=aa o from e)▸q1);subst q1;exact q5 dx xQ
 have Ah:env.locals≠x∧env.locals≠dx:=by
  refine⟨λq=>?_,λq=>?_⟩
  ·replace hL:=q▸hL;exact zS (xP▸hL)
  ·refine gA hx λo h1 Z Z h4=>?_;replace h1:=iJ (xP▸h1);subst h1;rcases h4 with⟨h4,_⟩| ⟨d,h5,_,od,_,_,h6,_⟩
   ·exact zS (xQ▸h4)
   ·replace h5:=iJ (xQ▸h5);subst h5;replace hL:=q▸hL;exact zS (h6▸hL)
 have acg:cq.heap.Ns env.locals m3:=fy i0.ns λo es ep e r=>⟨o,es,ep,Ip.keep _ _ (λq=>q.elim Ah.1 Ah.2) e,r⟩
 refine gw (wQ (K0 (Ep (lu ?_))));refine rE (if_pos rfl) ?_;have IL:cq.heap.IsList L #[]:=⟨_,Qg,rfl,_,rfl⟩;refine gw (wpAny_For (lS hK (F.look _ _ l2) acg m2 n3 (Kq IL ?_)) (λZ=>rfl));obtain⟨lO,Iq⟩:∃lO:ay,lO={cq with heap:=cq.heap.push {cls:=.type "list_iterator",data:=.fields #[.ref L,.int 0 0]}}:=⟨_,rfl⟩;have Ai:Ext cq lO:=rE Iq (.push (s:=cq) (k:=cq.toks))
 have ach:lO.heap.IsListIter cq.heap.objs.size L 0:=rE Iq ⟨_,eT _ rfl,rfl,rfl⟩
 show uG _ _ _ _ {cq with heap:=cq.heap.push {cls:=.type "list_iterator",data:=.fields #[.ref L,.int 0 0]}};refine rS Iq (ahN (λZ s'=>s'=lO) (λn s' e=>?_) 0 rfl);subst e;refine wpAny_pyNext_list_end rZ.handled ach (IL.at λo e=>Ai.keep _ _ e) rfl λh' hE=>oB ?_;have vL:Ext cq {s' with heap:=h'}:=⟨λb o e=>hE b o (iU (jD e)) (Ai.keep b o e),Ai.gens,Ai.bare,Ai.os⟩;refine oB (oB (hQ _ L (xu.trans vL.mv) vX (vL.keep _ _ Qg) ?_ λo e=>?_))
 ·obtain⟨m,⟨o,h1,h2,h3,h4⟩,r⟩:=Qh.inst;exact⟨m,⟨o,vL.keep _ _ h1,h2,h3,h4.imp id λ⟨d,a1,a2,a3⟩=>⟨d,a1,a2,a3.at λo e=>vL.keep _ _ e⟩⟩,r⟩
 ·obtain⟨m,⟨o',h1,_⟩,_⟩:=Qh.inst;have:=vL.keep _ _ h1;replace e:=iJ (this▸e);subst e;exact acf _ h1
theorem aci(k:gk K c)(Gk:c.newId= "object.__new__")(hr:∃n,bW A (n+5)){p:Nat→aO}{B FB:List a9}(M:Meth K f fd vW (Ik p B FB))(hf:c.mN "__init__" =aa (.ref f))(gG:∀ (s:ay) (v:ak),(∀U,br K U s.heap→Bk s fd ⟨[v],[]⟩ [(("self" :ah),v),(("headers" :ah),.none)]))
  (ty:K.mg "type" =af∧K.mb "type" =aa (.type "type")) (li:K.mg "list" =af∧K.mb "list" =aa (.type "list")) (rO:K.mg mx=aa (.ref K.hc)):xD K A where
 rO:=rO
 jm:=λU s p' g ub Q E hQ=>by
  refine ab9 k g (xA (k.at g) λh1 h2=>j8 (M.at g) λo ho oR Z=>xE hr λrn fe=>?_);have hu:¬U K.hc:=(g.iV _ _ k.cls).2;obtain⟨hh,gg,d,t,os⟩:=s;unfold lT.obj at h1;replace h1:=Gk▸h1;refine wpAny_call_obj_init PySem.F.objNew h1 h2 hf ho oR λh' x dx hm=>?_;have aq:Ext ⟨hh,gg,d,t,os⟩ ⟨h',gg,d,t,os⟩:=⟨hm.keeps,λZ Z e=>e,λe=>e,rfl⟩;have ux:¬U x:=λu=>by refine xE (ub x u) λo' e=>?_;replace e:=hm.newX▸e;exact zN e
  have Il:¬U dx:=λu=>by refine xE (ub dx u) λo' e=>?_;replace e:=hm.newD▸e;exact zN e
  have Im:x≠K.hc:=λq=>by have:=hm.newX;replace this:=q▸this;replace this:=h1▸this;exact zS this
  have room:bW (A.under (.builtin "type.__call__" ⟨[.ref K.hc],[]⟩)) (rn+1):=by have w1:KQ (.builtin "type.__call__" ⟨[.ref K.hc],[]⟩)=1:=rfl;have w2:KR (.builtin "type.__call__" ⟨[.ref K.hc],[]⟩)=1:=rfl;have r1:(A.under (.builtin "type.__call__" ⟨[.ref K.hc],[]⟩)).depth=A.depth+KQ (.builtin "type.__call__" ⟨[.ref K.hc],[]⟩):=rfl;have r2:(A.under (.builtin "type.__call__" ⟨[.ref K.hc],[]⟩)).units=A.units+KR (.builtin "type.__call__" ⟨[.ref K.hc],[]⟩):=rfl;exact⟨fe.handled,by refine rE r1 ?_;refine rE w1 ?_;have:=fe.depth;lia,by refine rE r2 ?_;refine rE w2 ?_;have:=fe.units;lia⟩
  refine acb k ⟨rn,room⟩ M gG ty li (g.ext aq) ux Il hm.inst hm.dict Im (λb hb o hK=>?_) λs' L mv hL hp hI hd=>⟨rfl,?_⟩
  ·have:=(g.iV _ _ hK).1;rcases hb with rfl|rfl
   ·exact zN (hm.newX▸this)
   ·exact zN (hm.newD▸this)
  have xS:Ext ⟨hh,gg,d,t,os⟩ s':=mv.ext aq (λb hb=>hb.elim (λh=>h▸hm.newX) λh=>h▸hm.newD) λZ h=>h.elim;have Ah:hh.get? L=af:=jN aq hL;obtain⟨m,⟨o',i1,i2,i3,i4⟩,i5,i6⟩:=hI.inst;refine hQ x L s' xS hm.newX Ah ?_;rcases i4 with⟨_,i4⟩| ⟨d',i7,i8,i9⟩
  ·exact zN ((i4 ..)▸i5)
  clear Ah xS hI hL mv;have C1:d'=dx:=by have:=hd o' i1;replace this:=iJ (i7▸this);subst this;rfl
  clear hd;have hxL:x≠L:=λq=>by replace i1:=q▸i1;replace i1:=hp▸i1;replace i1:=iJ i1;subst i1;cases i2
  have vG:d'≠L:=λq=>by refine ic i9 λod es ep e e' Z=>?_;replace e:=q▸e;replace e:=iJ (hp▸e);subst e;cases e'
  exact⟨o',d',m,#[],0,i1,i2,i7,i3,λh=>h.elim ux hxL,i9,λh=>h.elim (C1▸Il) vG,i8,i5,i6,hp,.nil⟩
end
section
open PySem.W
noncomputable abbrev P0:yt:=prog
noncomputable def bR(i:Nat):a9:=match P0.main.body[i]? with|some st=>st|none=>.Pass default
noncomputable def cF(i:Nat):a9:=match bR 66 with| .ClassDef _ _ _ b .. =>(match b[i]? with|some st=>st|none=>.Pass default)|_=>.Pass default
noncomputable def names:List ah:=[aj [97,100,100,114],aj [115,116,97,114,116],aj [111,112,101,110,95,112,111,115],aj [114,101,115,117,108,116],aj [112,111,115],aj [99,104],aj [111,112,101,110,115],aj [120],aj [115,117,109,115],aj [104,105,100,101],aj [114,111,119],aj [112,97,114,116,115],aj [115,105,103,110,115],aj [107],aj [115,105,103,110],aj [97,116],aj [106,111,105,110,101,100],aj [111,110,101],aj [116,119,111],aj [110],aj [108,101,102,116],aj [116,97,98,108,101],aj [100,117,101],aj [112,105,108,101],aj [101,110,100],aj [112,108,97,99,101],aj [117,110,105,116],aj [108,101,116,116,101,114],aj [115,121,109,98,111,108],aj [116,111,108,100],aj [108,105,110,107,115],aj [109,97,116,101,115],aj [117,115,101,100],aj [102,105,114,115,116],aj [112,97,105,114],aj [113],aj [112],aj [116,117,114,110],aj [100,114,101,115,115],aj [112,97,105,114,115],aj [101,110,100,115],aj [116,101,120,116,115],aj [116,114,101,101],aj [102,111,117,110,100],aj [112,97,114,116,101,100],aj [112,105,101,99,101,115],aj [112,105,101,99,101],aj [115,101,113],aj [114,105,110,103],aj [114,101,115,116],aj [109,97,115,107],aj [104,101,114,101],aj [116,104,101,114,101],aj [106],aj [115,99,114,105,112,116],aj [116,114,101,101,115],aj [114,111,119,115],aj [97,115,107,101,100],aj [108,105,110,107,105,110,103,115],aj [110,101,116,115],aj [102,108,97,116,115],aj [99,114,111,115,115,101,100],aj [112,97,114,116],aj [118,97,108,117,101],aj [109,111,114,101],aj [114],aj [115]]
noncomputable def fns:List ah:=[aj [95,115,116,114,105,112,95,113,117,111,116,101,100,95,114,101,97,108,110,97,109,101,115],aj [95,99,104,101,99,107,95,112,97,114,101,110,116,104,101,115,105,115],aj [73,83,84,69,82,77,73,78,65,76],aj [73,83,78,79,78,84,69,82,77,73,78,65,76],aj [73,83,69,79,70],aj [95,108,97,119,95,100,114,97,119,110],aj [95,108,97,119,95,114,101,97,100],aj [95,108,97,119,95,108,111,110,103,101,114],aj [95,108,97,119,95,116,111,108,100],aj [95,108,97,119,95,112,97,114,116,101,100],aj [95,108,97,119,95,105,115,95,110,101,116],aj [95,108,97,119,95,100,101,114,105,118,101,100],aj [108,97,119]]
noncomputable def bH:List (ah × Int):=[(aj [78,84,95,79,70,70,83,69,84],256),(aj [69,78,68,77,65,82,75,69,82],0)]
noncomputable def tok:List (ah × Int):=[(aj [33],54),(aj [33,61],28),(aj [37],24),(aj [37,61],40),(aj [38],19),(aj [38,61],41),(aj [40],7),(aj [41],8),(aj [42],16),(aj [42,42],35),(aj [42,42,61],46),(aj [42,61],38),(aj [43],14),(aj [43,61],36),(aj [44],12),(aj [45],15),(aj [45,61],37),(aj [45,62],51),(aj [46],23),(aj [46,46,46],52),(aj [47],17),(aj [47,47],47),(aj [47,47,61],48),(aj [47,61],39),(aj [58],11),(aj [58,61],53),(aj [59],13),(aj [60],20),(aj [60,60],33),(aj [60,60,61],44),(aj [60,61],29),(aj [61],22),(aj [61,61],27),(aj [62],21),(aj [62,61],30),(aj [62,62],34),(aj [62,62,61],45),(aj [64],49),(aj [64,61],50),(aj [91],9),(aj [93],10),(aj [94],32),(aj [94,61],43),(aj [123],25),(aj [124],18),(aj [124,61],42),(aj [125],26),(aj [126],31)]
noncomputable def xs:Cx:=⟨names,fns,[],[21],bH,[]⟩
noncomputable def b0:bP:=(.cons (.ite (.cmp (.lit (.str (aj [34]))) (.cons .iy (.var 0) .nil)) (.cons (.fz [3] (.ret (.var 0))) .nil) .nil) (.cons (.asg 1 (.lit (.int 0))) (.cons (.asg 2 (.lit .none)) (.cons (.own 3 (.list .nil)) (.cons (.loop (.two 4 5) (.gen (.var 0)) (.cons (.ite (.cmp (.var 5) (.cons .eq (.lit (.str (aj [34]))) .nil)) (.cons (.ite (.uL (.var 2)) (.cons (.asg 2 (.var 4)) .nil) (.cons (.ite (.cmp (.var 1) (.cons .ne (.var 2) .nil)) (.cons (.app 3 (.cw 0 (.some (.var 1)) (.some (.var 2)) .none)) .nil) .nil) (.cons (.asg 1 (.bin .add (.var 4) (.lit (.int 1)))) (.cons (.asg 2 (.lit .none)) .nil)))) .nil) .nil) .nil)) (.cons (.ite (.cmp (.var 1) (.cons .lt (.bL 0) .nil)) (.cons (.app 3 (.cw 0 (.some (.var 1)) .none .none)) .nil) .nil) (.cons (.fz [3] (.ret (.prim .join (.cons (.lit (.str (aj []))) (.cons (.var 3) .nil))))) .nil)))))))
noncomputable def b1:bP:=(.cons (.asg 0 (.call 0 (.cons (.var 0) .nil))) (.cons (.asg 6 (.lit (.int 0))) (.cons (.loop (.two 4 5) (.gen (.var 0)) (.cons (.ite (.cmp (.var 5) (.cons .eq (.lit (.str (aj [40]))) .nil)) (.cons (.aug 6 .add (.lit (.int 1))) .nil) (.cons (.ite (.cmp (.var 5) (.cons .eq (.lit (.str (aj [41]))) .nil)) (.cons (.aug 6 .sub (.lit (.int 1))) (.cons (.ite (.cmp (.var 6) (.cons .lt (.lit (.int 0)) .nil)) (.cons (.ret (.lit (.bool ag))) .nil) .nil) .nil)) .nil) .nil)) .nil)) (.cons (.ret (.cmp (.var 6) (.cons .eq (.lit (.int 0)) .nil))) .nil))))
noncomputable def b2:bP:=(.cons (.ret (.cmp (.var 7) (.cons .lt (.gl (aj [78,84,95,79,70,70,83,69,84]) 256) .nil))) .nil)
noncomputable def b3:bP:=(.cons (.ret (.cmp (.var 7) (.cons .ge (.gl (aj [78,84,95,79,70,70,83,69,84]) 256) .nil))) .nil)
noncomputable def b4:bP:=(.cons (.ret (.cmp (.var 7) (.cons .eq (.gl (aj [69,78,68,77,65,82,75,69,82]) 0) .nil))) .nil)
noncomputable def b5:bP:=(.cons (.own 10 (.list .nil)) (.cons (.loop (.one 7) (.data (.cw 8 .none (.some (.lit (.int 3))) .none)) (.cons (.ins 10 (.bin .mod (.bin .fdiv (.var 7) (.lit (.int 4))) (.bin .add (.bL 10) (.lit (.int 1)))) (.sub (.lit (.str (aj [97,65,98,66]))) (.bin .mod (.var 7) (.lit (.int 4))))) (.cons (.ins 10 (.bin .mod (.bin .fdiv (.var 7) (.lit (.int 100))) (.bin .add (.bL 10) (.lit (.int 1)))) (.sub (.lit (.str (aj [65,97,66,98]))) (.bin .mod (.var 7) (.lit (.int 4))))) .nil))) (.cons (.asg 11 (.comp [13] (.one 13) (.dy (.lit (.int 6))) .nil .nil (.bin .add (.list (.cons (.var 13) .nil)) (.comp [7] (.one 7) (.data (.aG 9 (.bin .mod (.bin .fdiv (.aG 8 (.lit (.int 5))) (.bin .pow (.lit (.int 8)) (.var 13))) (.lit (.int 8))))) .nil .nil (.ite (.bin .mod (.var 13) (.lit (.int 2))) (.bin .add (.aG 10 (.var 13)) (.var 7)) (.bin .add (.var 7) (.aG 10 (.var 13)))))))) (.cons (.asg 12 (.bin .add (.lit (.str (aj [42,42]))) (.bin .mul (.lit (.str (aj [124]))) (.bin .mod (.aG 8 (.lit (.int 3))) (.lit (.int 4)))))) (.cons (.loop (.one 13) (.dy (.bL 12)) (.cons (.asg 14 (.aG 12 (.bin .mod (.bin .add (.bin .fdiv (.aG 8 (.lit (.int 3))) (.lit (.int 4))) (.var 13)) (.bL 12)))) (.cons (.asg 15 (.bin .mod (.bin .fdiv (.aG 8 (.lit (.int 4))) (.bin .pow (.lit (.int 5)) (.var 13))) (.bin .sub (.bL 11) (.lit (.int 1))))) (.cons (.mul [17,18] [.val (.aG 11 (.var 15)),.val (.aG 11 (.bin .add (.var 15) (.lit (.int 1))))]) (.cons (.asg 16 (.bin .add (.list (.cons (.list (.cons (.var 14) (.cons (.aG 17 (.lit (.int 0))) (.cons (.aG 18 (.lit (.int 0))) .nil)))) .nil)) (.comp [19] (.one 19) (.data (.tup (.cons (.lit (.int 1)) (.cons (.lit (.int 2)) .nil)))) .nil .nil (.bin .add (.bin .add (.bin .add (.bin .add (.lit (.str (aj [40]))) (.aG 17 (.var 19))) (.var 14)) (.aG 18 (.var 19))) (.lit (.str (aj [41]))))))) (.cons (.asg 11 (.bin .add (.bin .add (.cw 11 .none (.some (.var 15)) .none) (.list (.cons (.var 16) .nil))) (.cw 11 (.some (.bin .add (.var 15) (.lit (.int 2)))) .none .none))) .nil)))))) (.cons (.fz [10] (.ret (.tup (.cons (.var 10) (.cons (.var 11) .nil))))) .nil))))))
noncomputable def b6:bP:=(.cons (.mul [22,23,24] [.fO [((aj [40]),7),((aj [41]),8),((aj [42]),16),((aj [124]),18),((aj [44]),12),((aj [92]),0)],.nA,.val (.lit (.int 0))]) (.cons (.loop (.two 25 26) (.gen (.var 20)) (.cons (.aug 24 .add (.bL 26)) (.cons (.asg 27 (.and (.cmp (.bL 26) (.cons .eq (.lit (.int 1)) .nil)) (.uM (.var 26) 22))) (.cons (.asg 28 (.tok (.var 26) (.ite (.var 27) (.bin .add (.lit (.int 256)) (.prim .len (.cons (.mh 21) .nil))) (.lit (.int 0))))) (.cons (.asg 28 (.ite (.cmp (.bL 26) (.cons .eq (.lit (.int 2)) .nil)) (.bin .sub (.lit (.int 255)) (.bin .mul (.lit (.int 256)) (.bin .mod (.var 25) (.lit (.int 2))))) (.var 28))) (.cons (.asg 29 (.list (.cons (.var 25) (.cons (.var 28) (.cons (.prim .str (.cons (.call 2 (.cons (.var 28) .nil)) .nil)) (.cons (.prim .str (.cons (.call 3 (.cons (.var 28) .nil)) .nil)) (.cons (.prim .str (.cons (.call 4 (.cons (.var 28) .nil)) .nil)) .nil))))))) (.cons (.ite (.cmp (.var 29) (.cons .ne (.list (.cons (.bin .sub (.var 24) (.lit (.int 1))) (.cons (.wZ 22 (.var 26) (.var 28)) (.cons (.prim .str (.cons (.not (.var 27)) .nil)) (.cons (.prim .str (.cons (.var 27) .nil)) (.cons (.prim .str (.cons (.cmp (.var 24) (.cons .eq (.bL 20) .nil)) .nil)) .nil)))))) .nil)) (.cons (.fz [23] (.ret (.lit .none))) .nil) .nil) (.cons (.ite (.var 27) (.cons (.yU 21 (.var 26) (.prim .str (.cons (.bin .sub (.var 28) (.lit (.int 256))) .nil)) 23 (.bin .sub (.var 28) (.lit (.int 256)))) .nil) (.cons (.ite (.cmp (.var 28) (.cons .isin (.tup (.cons (.lit (.int 16)) (.cons (.lit (.int 18)) .nil))) .nil)) (.cons (.app 23 (.ite (.cmp (.var 28) (.cons .eq (.lit (.int 16)) .nil)) (.lit (.str (aj [42]))) (.lit (.str (aj [124]))))) .nil) (.cons (.ite (.cmp (.var 28) (.cons .eq (.lit (.int 8)) .nil)) (.cons (.own 23 (.bin .add (.cw 23 .none (.some (.lit (.int (-3)))) .none) (.list (.cons (.list (.cons (.aG 23 (.lit (.int (-2)))) (.cons (.aG 23 (.lit (.int (-3)))) (.cons (.aG 23 (.lit (.int (-1)))) .nil)))) .nil)))) .nil) .nil) .nil)) .nil)) .nil)))))))) (.cons (.fz [23] (.ret (.ite (.cmp (.var 24) (.cons .eq (.bL 20) .nil)) (.var 23) (.lit .none)))) .nil)))
noncomputable def b7:bP:=(.cons (.asg 32 (.comp [34,7] (.one 34) (.data (.var 30)) .nil (.cons (.one 7) (.data (.var 34)) .nil .nil) (.var 7))) (.cons (.asg 33 (.sub (.comp [36] (.one 36) (.dy (.lit (.int 6))) (.cons (.cmp (.var 36) (.cons .iy (.var 32) .nil)) .nil) .nil (.var 36)) (.lit (.int 0)))) (.cons (.ret (.comp [35] (.one 35) (.data (.aG 31 (.var 33))) (.cons (.cmp (.var 35) (.cons .iy (.var 32) .nil)) .nil) .nil (.bin .add (.var 30) (.list (.cons (.list (.cons (.var 33) (.cons (.var 35) .nil))) .nil))))) .nil)))
noncomputable def b8:bP:=(.cons (.asg 39 (.comp [36,35] (.two 36 35) (.data (.var 30)) .nil .nil (.prim .sorted (.cons (.list (.cons (.bin .mod (.bin .sub (.var 36) (.var 37)) (.lit (.int 6))) (.cons (.bin .mod (.bin .sub (.var 35) (.var 37)) (.lit (.int 6))) .nil))) .nil)))) (.cons (.asg 40 (.comp [36,35] (.two 36 35) (.data (.var 39)) .nil .nil (.var 35))) (.cons (.asg 41 (.comp [13] (.one 13) (.dy (.lit (.int 6))) .nil .nil (.bin .add (.ite (.cmp (.var 13) (.cons .isin (.var 40) .nil)) (.lit (.str (aj [41]))) (.lit (.str (aj [40])))) (.aG 38 (.var 13))))) (.cons (.ret (.tup (.cons (.comp [36,35] (.two 36 35) (.data (.var 39)) .nil .nil (.prim .str (.cons (.call 1 (.cons (.prim .join (.cons (.lit (.str (aj []))) (.cons (.cw 41 (.some (.var 36)) (.some (.bin .add (.var 35) (.lit (.int 1)))) .none) .nil))) .nil)) .nil))) (.cons (.var 41) .nil)))) .nil))))
noncomputable def b9:bP:=(.cons (.ite (.prim .md (.cons (.var 42) .nil)) (.cons (.fz [43] (.ret (.list (.cons (.list (.cons (.list (.cons (.var 42) .nil)) .nil)) .nil)))) .nil) .nil) (.cons (.own 43 (.list .nil)) (.cons (.loop (.one 17) (.data (.call 9 (.cons (.aG 42 (.lit (.int 1))) .nil))) (.cons (.loop (.one 18) (.data (.call 9 (.cons (.aG 42 (.lit (.int 2))) .nil))) (.cons (.ext 43 (.ite (.cmp (.aG 42 (.lit (.int 0))) (.cons .eq (.lit (.str (aj [42]))) .nil)) (.list (.cons (.bin .add (.bin .add (.list (.cons (.bin .add (.aG 17 (.lit (.int 0))) (.aG 18 (.lit (.int 0)))) .nil)) (.cw 17 (.some (.lit (.int 1))) .none .none)) (.cw 18 (.some (.lit (.int 1))) .none .none)) .nil)) (.list (.cons (.bin .add (.var 17) (.var 18)) (.cons (.bin .add (.var 18) (.var 17)) .nil))))) .nil)) .nil)) (.cons (.fz [43] (.ret (.var 43))) .nil))))
noncomputable def Ir:bP:=(.cons (.loop (.one 45) (.data (.var 44)) (.cons (.loop (.two 36 35) (.data (.var 30)) (.cons (.asg 40 (.comp [46] (.one 46) (.data (.var 45)) (.cons (.or (.cmp (.var 36) (.cons .isin (.var 46) .nil)) (.cmp (.var 35) (.cons .isin (.var 46) .nil))) .nil) .nil (.var 46))) (.cons (.ite (.cmp (.bL 40) (.cons .eq (.lit (.int 1)) .nil)) (.cons (.ret (.lit (.bool ag))) .nil) .nil) (.cons (.asg 45 (.bin .add (.comp [46] (.one 46) (.data (.var 45)) (.cons (.cmp (.var 46) (.cons .iy (.var 40) .nil)) .nil) .nil (.var 46)) (.list (.cons (.bin .add (.aG 40 (.lit (.int 0))) (.aG 40 (.lit (.int 1)))) .nil)))) .nil)))) .nil)) (.cons (.ret (.lit (.bool ae))) .nil))
noncomputable def Iu:bP:=(.cons (.loop (.one 13) (.dy (.bL 47)) (.cons (.ite (.and (.not (.prim .md (.cons (.aG 47 (.var 13)) .nil))) (.cmp (.sub (.aG 47 (.var 13)) (.lit (.int 0))) (.cons .eq (.lit (.str (aj [124]))) .nil))) (.cons (.fz [43] (.ret (.call 11 (.cons (.bin .add (.bin .add (.cw 47 .none (.some (.var 13)) .none) (.slice (.aG 47 (.var 13)) (.some (.lit (.int 1))) .none .none)) (.cw 47 (.some (.bin .add (.var 13) (.lit (.int 1)))) .none .none)) (.cons (.var 10) (.cons (.var 48) .nil)))))) .nil) .nil) .nil)) (.cons (.own 43 (.list .nil)) (.cons (.ite (.and (.cmp (.comp [13] (.one 13) (.data (.var 47)) (.cons (.not (.prim .md (.cons (.var 13) .nil))) .nil) .nil (.var 13)) (.cons .eq (.list .nil) .nil)) (.cmp (.prim .join (.cons (.lit (.str (aj []))) (.cons (.comp [13] (.one 13) (.data (.var 47)) .nil .nil (.aG 10 (.var 13))) .nil))) (.cons .isin (.tup (.cons (.lit (.str (aj [97,65]))) (.cons (.lit (.str (aj [65,97]))) (.cons (.lit (.str (aj [98,66]))) (.cons (.lit (.str (aj [66,98]))) .nil))))) .nil))) (.cons (.app 43 (.list (.cons (.prim .sorted (.cons (.var 47) .nil)) .nil))) .nil) .nil) (.cons (.loop (.one 13) (.dy (.bL 47)) (.cons (.asg 49 (.bin .add (.cw 47 (.some (.bin .add (.var 13) (.lit (.int 1)))) .none .none) (.cw 47 .none (.some (.var 13)) .none))) (.cons (.loop (.one 50) (.dy (.ite (.prim .md (.cons (.aG 47 (.var 13)) .nil)) (.lit (.int 0)) (.bin .pow (.lit (.int 2)) (.bL 49)))) (.cons (.ite (.or (.not (.var 48)) (.cmp (.bin .band (.var 50) (.bin .add (.var 50) (.lit (.int 1)))) (.cons .eq (.lit (.int 0)) .nil))) (.cons (.asg 51 (.bin .add (.comp [53] (.one 53) (.dy (.bL 49)) (.cons (.cmp (.bin .band (.bin .shr (.var 50) (.var 53)) (.lit (.int 1))) (.cons .eq (.lit (.int 0)) .nil)) .nil) .nil (.aG 49 (.var 53))) (.list (.cons (.sub (.aG 47 (.var 13)) (.lit (.int 1))) .nil)))) (.cons (.asg 52 (.bin .add (.list (.cons (.sub (.aG 47 (.var 13)) (.lit (.int 2))) .nil)) (.comp [53] (.one 53) (.dy (.bL 49)) (.cons (.cmp (.bin .band (.bin .shr (.var 50) (.var 53)) (.lit (.int 1))) (.cons .eq (.lit (.int 1)) .nil)) .nil) .nil (.aG 49 (.var 53))))) (.cons (.loop (.one 17) (.data (.call 11 (.cons (.var 51) (.cons (.var 10) (.cons (.var 48) .nil))))) (.cons (.ext 43 (.comp [18] (.one 18) (.data (.call 11 (.cons (.var 52) (.cons (.var 10) (.cons (.var 48) .nil))))) .nil .nil (.prim .sorted (.cons (.bin .add (.var 17) (.var 18)) .nil)))) .nil)) .nil))) .nil) .nil)) .nil))) (.cons (.fz [43] (.ret (.prim .sorted (.cons (.comp [13] (.one 13) (.dy (.bL 43)) (.cons (.cmp (.aG 43 (.var 13)) (.cons .iy (.cw 43 .none (.some (.var 13)) .none) .nil)) .nil) .nil (.aG 43 (.var 13))) .nil)))) .nil)))))
noncomputable def C7:bP:=(.cons (.asg 1 (.list (.cons (.lit (.int 101)) (.cons (.lit (.int 209)) (.cons (.lit (.int 311)) (.cons (.lit (.int 10)) (.cons (.lit (.int 181)) (.cons (.lit (.int 56634)) .nil)))))))) (.cons (.asg 8 (.comp [13] (.one 13) (.dy (.lit (.int 6))) .nil .nil (.bin .mod (.bin .add (.aG 1 (.var 13)) (.prim .sum (.cons (.comp [7] (.one 7) (.data (.cw 54 (.some (.var 13)) (.some (.lit (.int 60))) (.some (.lit (.int 6))))) .nil .nil (.bin .mod (.var 7) (.lit (.int 1000000)))) .nil))) (.lit (.int 1000000))))) (.cons (.asg 9 (.list (.cons (.tup (.cons (.lit (.str (aj []))) (.cons (.lit (.str (aj []))) .nil))) (.cons (.tup (.cons (.lit (.str (aj [92,41]))) (.cons (.lit (.str (aj [92,41]))) .nil))) (.cons (.tup (.cons (.lit (.str (aj [34,42,40,34]))) (.cons (.lit (.str (aj []))) .nil))) (.cons (.tup (.cons (.lit (.str (aj [92,124]))) (.cons (.lit (.str (aj [92,124]))) .nil))) (.cons (.tup (.cons (.lit (.str (aj [34,92,34,41,34]))) (.cons (.lit (.str (aj []))) .nil))) (.cons (.tup (.cons (.lit (.str (aj [92,34]))) (.cons (.lit (.str (aj [92,34]))) .nil))) (.cons (.tup (.cons (.lit (.str (aj [92,40]))) (.cons (.lit (.str (aj [92,40]))) .nil))) (.cons (.tup (.cons (.lit (.str (aj [92,92]))) (.cons (.lit (.str (aj [92,92]))) .nil))) .nil)))))))))) (.cons (.uS [10,11] (.call 5 (.cons (.var 8) (.cons (.var 9) .nil)))) (.cons (.asg 55 (.comp [62] (.one 62) (.data (.var 11)) .nil .nil (.aG 62 (.lit (.int 0))))) (.cons (.asg 12 (.bin .add (.comp [13] (.one 13) (.range (.lit (.int 1)) (.bL 11)) .nil .nil (.sub (.lit (.str (aj [44,9,11,127]))) (.bin .mod (.bin .fdiv (.aG 8 (.lit (.int 5))) (.bin .pow (.lit (.int 3)) (.var 13))) (.lit (.int 4))))) (.list (.cons (.lit (.str (aj [92]))) .nil)))) (.cons (.asg 41 (.comp [19] (.one 19) (.data (.tup (.cons (.lit (.int 1)) (.cons (.lit (.int 2)) .nil)))) .nil .nil (.prim .join (.cons (.lit (.str (aj []))) (.cons (.comp [13] (.one 13) (.dy (.bL 11)) .nil .nil (.bin .add (.sub (.aG 11 (.var 13)) (.var 19)) (.aG 12 (.var 13)))) .nil))))) (.cons (.jm 21) (.cons (.asg 20 (.call 0 (.cons (.aG 41 (.lit (.int 0))) .nil))) (.cons (.qW 23 6 21 (.cons (.var 20) .nil)) (.cons (.yT 21) (.cons (.ite (.or (.cmp (.var 20) (.cons .ne (.aG 41 (.lit (.int 1))) .nil)) (.or (.cmp (.var 23) (.cons .ne (.var 55) .nil)) (.cmp (.oI 21) (.cons .ne (.comp [13] (.one 13) (.dy (.lit (.int 6))) .nil .nil (.tup (.cons (.aG 10 (.var 13)) (.cons (.prim .str (.cons (.var 13) .nil)) .nil)))) .nil)))) (.cons (.fz [59,60] (.ret (.lit (.bool ag)))) .nil) .nil) (.cons (.asg 31 (.comp [27] (.one 27) (.data (.var 10)) .nil .nil (.comp [63] (.one 63) (.data (.jH 21 (.var 27))) (.cons (.cmp (.aG 10 (.prim .int (.cons (.var 63) .nil))) (.cons .ne (.var 27) .nil)) .nil) .nil (.prim .int (.cons (.var 63) .nil))))) (.cons (.mul [58,44,59,60] [.val (.list (.cons (.list .nil) .nil)),.val (.list (.cons (.list .nil) .nil)),.nA,.nA]) (.cons (.loop (.one 13) (.dy (.lit (.int 3))) (.cons (.asg 58 (.comp [30,64] (.one 30) (.data (.var 58)) .nil (.cons (.one 64) (.data (.call 7 (.cons (.var 30) (.cons (.var 31) .nil)))) .nil .nil) (.var 64))) .nil)) (.cons (.loop (.one 42) (.data (.var 23)) (.cons (.asg 44 (.comp [17,18] (.one 17) (.data (.var 44)) .nil (.cons (.one 18) (.data (.call 9 (.cons (.var 42) .nil))) .nil .nil) (.bin .add (.var 17) (.var 18)))) .nil)) (.cons (.asg 38 (.comp [13] (.one 13) (.dy (.lit (.int 6))) .nil .nil (.ite (.cmp (.bin .mod (.bin .add (.aG 8 (.lit (.int 5))) (.var 13)) (.lit (.int 3))) (.cons .eq (.lit (.int 0)) .nil)) (.sub (.aG 9 (.bin .fdiv (.bin .mod (.bin .add (.aG 8 (.lit (.int 5))) (.var 13)) (.lit (.int 24))) (.lit (.int 3)))) (.lit (.int 0))) (.lit (.str (aj [])))))) (.cons (.loop (.one 30) (.data (.var 58)) (.cons (.uS [29,41] (.call 8 (.cons (.var 30) (.cons (.lit (.int 0)) (.cons (.var 38) .nil))))) (.cons (.asg 61 (.comp [36,35,65,66] (.two 36 35) (.data (.var 30)) .nil (.cons (.two 65 66) (.data (.var 30)) (.cons (.cmp (.var 36) (.cons .lt (.var 65) (.cons .lt (.var 35) (.cons .lt (.var 66) .nil)))) .nil) .nil) (.var 36))) (.cons (.ite (.or (.cmp (.comp [17] (.one 17) (.data (.var 29)) (.cons (.cmp (.var 17) (.cons .iy (.tup (.cons (.lit (.str (aj [84,114,117,101]))) (.cons (.lit (.str (aj [70,97,108,115,101]))) .nil))) .nil)) .nil) .nil (.var 17)) (.cons .ne (.list .nil) .nil)) (.cmp (.cmp (.var 29) (.cons .eq (.bin .mul (.list (.cons (.lit (.str (aj [84,114,117,101]))) .nil)) (.lit (.int 3))) .nil)) (.cons .ne (.cmp (.var 61) (.cons .eq (.list .nil) .nil)) .nil))) (.cons (.fz [59,60] (.ret (.lit (.bool ag)))) .nil) .nil) (.cons (.ite (.call 10 (.cons (.var 44) (.cons (.var 30) .nil))) (.cons (.app 59 (.var 30)) (.cons (.ite (.cmp (.sub (.call 8 (.cons (.var 30) (.cons (.bin .add (.lit (.int 1)) (.bin .mod (.aG 8 (.lit (.int 5))) (.lit (.int 5)))) (.cons (.var 38) .nil)))) (.lit (.int 0))) (.cons .eq (.bin .mul (.list (.cons (.lit (.str (aj [84,114,117,101]))) .nil)) (.lit (.int 3))) .nil)) (.cons (.app 60 (.var 30)) .nil) .nil) .nil)) .nil) .nil))))) (.cons (.asg 56 (.bin .add (.list (.cons (.bin .add (.var 41) (.list (.cons (.lit (.str (aj [34,40]))) .nil))) (.cons (.bin .add (.var 41) (.list (.cons (.lit (.str (aj [34]))) .nil))) .nil))) (.comp [13] (.one 13) (.range (.lit (.int 1)) (.lit (.int 6))) .nil .nil (.bin .add (.cw 41 (.some (.var 13)) .none .none) (.cw 41 .none (.some (.var 13)) .none))))) (.cons (.asg 22 (.bin .add (.list (.cons (.lit (.str (aj [70,97,108,115,101]))) .nil)) (.comp [13] (.one 13) (.dy (.lit (.int 6))) .nil .nil (.prim .str (.cons (.cmp (.comp [36,35] (.two 36 35) (.data (.var 30)) (.cons (.cmp (.var 36) (.cons .lt (.var 13) (.cons .le (.var 35) .nil))) .nil) .nil (.var 36)) (.cons .eq (.list .nil) .nil)) .nil))))) (.cons (.fz [59] (.asg 57 (.and (.cmp (.comp [17] (.one 17) (.data (.var 56)) .nil .nil (.prim .str (.cons (.call 1 (.cons (.prim .join (.cons (.lit (.str (aj []))) (.cons (.var 17) .nil))) .nil)) .nil))) (.cons .eq (.var 22) .nil)) (.cmp (.var 59) (.cons .eq (.call 11 (.cons (.var 55) (.cons (.var 10) (.cons (.lit (.bool ag)) .nil)))) .nil))))) (.cons (.fz [59,60] (.ret (.and (.var 57) (.cmp (.var 60) (.cons .eq (.call 11 (.cons (.var 55) (.cons (.var 10) (.cons (.lit (.bool ae)) .nil)))) .nil))))) .nil))))))))))))))))))))))
noncomputable def aH:Nat→Option Fn
 |0=>aa ⟨[0],b0⟩
 |1=>aa ⟨[0],b1⟩
 |2=>aa ⟨[7],b2⟩
 |3=>aa ⟨[7],b3⟩
 |4=>aa ⟨[7],b4⟩
 |5=>aa ⟨[8,9],b5⟩
 |6=>aa ⟨[20,21],b6⟩
 |7=>aa ⟨[30,31],b7⟩
 |8=>aa ⟨[30,37,38],b8⟩
 |9=>aa ⟨[42],b9⟩
 |10=>aa ⟨[44,30],Ir⟩
 |11=>aa ⟨[47,10,48],Iu⟩
 |12=>aa ⟨[54],C7⟩
 |_=>af
noncomputable def kA(m c:ax)(i:Nat):Option bP:=match bR i with| .FunctionDef _ _ b _ _ _ sc .. =>BU (xs.wm m c) sc.names b|_=>af
theorem acj:kA [3] [] 4=aa b0:=by kernel_rfl
theorem ack:kA [] [] 5=aa b1:=by kernel_rfl
theorem acm:kA [] [] 58=aa b2:=by kernel_rfl
theorem acn:kA [] [] 59=aa b3:=by kernel_rfl
theorem aco:kA [] [] 60=aa b4:=by kernel_rfl
theorem acp:kA [10] [] 68=aa b5:=by kernel_rfl
theorem acq:kA [23] [22] 69=aa b6:=by kernel_rfl
theorem acr:kA [] [] 70=aa b7:=by kernel_rfl
theorem acs:kA [] [] 71=aa b8:=by kernel_rfl
theorem acu:kA [43] [] 72=aa b9:=by kernel_rfl
theorem acv:kA [] [] 73=aa Ir:=by kernel_rfl
theorem acw:kA [43] [] 74=aa Iu:=by kernel_rfl
theorem acx:kA [59,60] [] 75=aa C7:=by kernel_rfl
end
section
open PySem.W
noncomputable def mP:yt:=PySem.W.view P0 [75]
noncomputable def r4:List ah:=(P0.main.body.take 75).flatMap bindsAtTop
noncomputable def nS(i:Nat):ah:=fns.getD i ix
noncomputable def qj:List aE:=[52,59,69,76,83,236,243,248,253,260,265,270,275]
noncomputable def eB(n:aE)(x:ah)(v:Option ak):aE × ah × Option ak:=(n,x,v)
noncomputable def Qi:List (ah × ak):=[(rq,.builtin "len"),(lF,.type "str"),(rr,.type "int"),(xe,.builtin "sum"),(ze,.builtin "sorted"),(my,.type "ValueError"),(oO,.builtin "isinstance"),(rt,.type "range"),(nX,.type "enumerate"),("type",.type "type"),("list",.type "list")]
noncomputable def Aj:List (aE × ah × Option ak):=
 [eB 3 (nS 0) (aa (.ref 52)),eB 3 (nS 1) (aa (.ref 59)),eB 3 (nS 2) (aa (.ref 69)),eB 3 (nS 3) (aa (.ref 76)),eB 3 (nS 4) (aa (.ref 83)),eB 3 (nS 5) (aa (.ref 236)),
  eB 3 (nS 6) (aa (.ref 243)),eB 3 (nS 7) (aa (.ref 248)),eB 3 (nS 8) (aa (.ref 253)),eB 3 (nS 9) (aa (.ref 260)),eB 3 (nS 10) (aa (.ref 265)),eB 3 (nS 11) (aa (.ref 270)),eB 3 (nS 12) (aa (.ref 275)),
  eB 3 u4 (aa (.ref 45)),eB 3 zg (aa (.ref 60)),eB 3 mx (aa (.ref 227)),eB 3 "_name_disallowed_re" (aa (.ref 93)),eB 3 "_value_disallowed_re" (aa (.ref 98)),
  eB 226 "__init__" (aa (.ref 121)),eB 226 kx (aa (.ref 128)),eB 226 pN (aa (.ref 166)),eB 226 rz (aa (.ref 179)),eB 226 nH (aa (.ref 191)),eB 226 rA (aa (.ref 224)),
  eB 226 "__getattribute__" af,eB 226 "__getattr__" af,eB 226 "__setattr__" af,eB 226 "_headers" af,eB cStatics "sys.recursionlimit" af]++Qi.map (λp=>eB 3 p.1 af)++Qi.map (λp=>eB 0 p.1 (aa p.2))
noncomputable def Iw(h:aP)(fd:px):Bool:=
 match fd.code with
 | .ref c=>match h.get? c with
  |some o=>match o.data with
   | .fields vs=>match (vs[1]? :Option ak)with
    |some (.str q _)=>Ev.sEq q fd.qualname
    |_=>ag
   |_=>ag
  |none=>ag
 |_=>ag
noncomputable abbrev FO:Type:=ak × Arguments × FuncBody × m4 × aE × List (ah × aE) × aE × ak × ak × Bool
noncomputable def Ak(h:aP)(a:aE):Option FO:=
 match h.get? a with
 |some o=>match o.data with
  | .func fd=>aa (o.cls,fd.params,fd.body,fd.scope,fd.globals,fd.closure,fd.builtins,fd.defaults,fd.kwdefaults,Iw h fd)
  |_=>af
 |none=>af
noncomputable def Al(st:a9)(dv:ak):Option FO:=
 match st with
 | .FunctionDef _ ps b _ _ _ sc .. =>aa (.type "function",ps,.stmts b,sc,gp,[],jE,dv,.none,ae)
 |_=>af
noncomputable def xR:List (aE × a9 × ak):=
 [(52,bR 4,.none),(59,bR 5,.none),(69,bR 58,.none),(76,bR 59,.none),(83,bR 60,.none),(236,bR 68,.none),(243,bR 69,.none),(248,bR 70,.none),(253,bR 71,.none),(260,bR 72,.none),(265,bR 73,.none),(270,bR 74,.none),(275,bR 75,.none),
  (45,bR 3,.none),(121,cF 0,.ref 114),(128,cF 1,.none),(166,cF 7,.none),(179,cF 9,.none),(191,cF 11,.none),(224,cF 16,.none)]
noncomputable def Iy(h:aP)(a:aE):Option (ak × List ak):=
 match h.get? a with
 |some o=>match o.data with| .seq vs _=>aa (o.cls,vs.toList)|_=>af
 |none=>af
noncomputable def xT(h:aP)(a:aE):Option (ak × Option aE × ak × Nat × Nat):=
 match h.get? a with
 |some o=>match o.data with| .fields fs=>aa (o.cls,o.dict,fs.getD 5 .none,Bj (fs.getD 6 .none),Bj (fs.getD 2 .none))|_=>af
 |none=>af
noncomputable def xU(h:aP)(a:aE):Option (List Nat):=
 match h.get? a with
 |some o=>match o.data with| .seq items _=>aa ((items.toList.map US).map (·.toNat))|_=>af
 |none=>af
noncomputable abbrev TO:Type:=ak × Option aE × Array (Option ak) × List (Int × Option ah × Option Int)
noncomputable def Iz(h:aP)(a:aE):Option TO:=
 match h.get? a with
 |some o=>match o.data with| .dict es _=>aa (o.cls,o.dict,o.slots,es.toList.map λe=>(e.hash,(match e.key with| .str x _=>aa x|_=>af),(match e.val with| .int i _=>aa i|_=>af)))|_=>af
 |none=>af
noncomputable def IA(w:cM):Option TO:=aa (.type "dict",af,#[],tok.map λp=>(hashStr w p.1,aa p.1,aa p.2))
noncomputable def Am(v:Option ak):Option Int:=match v with|some (.int i _)=>aa i|_=>af
noncomputable def cD(m:gy):lT:=⟨"Headers","Headers",226,[.type "object"],[],[],af,af,af,af,aa (.str "Headers" 649),aa (.str "Headers" 657),aa (.bool ae),"object.__new__",m⟩
structure nY where
 ns:List Bool
 qs:List (Option ak)
 is:List (Option Int)
 fs:List (Option FO)
 ts:List (Option (ak × List ak))
 rs:List (Option (ak × Option aE × ak × Nat × Nat))
 cs:List (Option (List Nat))
 cl:Option fJ
 tk:Option TO
noncomputable def qk(nm:aP→aE→ah→Option ak)(h:aP):nY:=
 ⟨[h.isNs gp,h.isNs jE,h.isNs cStatics,h.isNs 226],Aj.map λx=>nm h x.1 x.2.1,bH.map λx=>Am (nm h gp x.1),xR.map λx=>Ak h x.1,
  [Iy h 114],[xT h 93,xT h 98],[xU h 92,xU h 97],h.get? 227,Iz h 60⟩
noncomputable def obs(s:ay):nY:=qk K2 s.heap
noncomputable def o9(w:cM):nY:=
 ⟨[ae,ae,ae,ae],Aj.map λx=>x.2.2,bH.map λx=>aa x.2,xR.map λx=>Al x.2.1 x.2.2,
  [aa (.type "tuple",[.none])],[aa (.type "re.Pattern",af,.ref 92,0,0),aa (.type "re.Pattern",af,.ref 97,0,0)],[aa iL.toList,aa jR.toList],
  aa ((cD λZ=>af).obj 227),IA w⟩
end
section
open PySem.W PySem.W.Fast
noncomputable def An(w:cM):Option ay:=
 (tw10274390034422433532 tw14364793385576792824 (opening P0) w 6000 (tw1435165496053646825 (opening P0)).1 (tw1435165496053646825 (opening P0)).2).bind (tw14289696077712309145 P0)
noncomputable def xV(w:cM)(aT:ay):Option ay:=
 match aT.heap.isNs gp&&aT.gens.size == 0 with
 |true=>(tw14082659384304107361 tw14364793385576792824 P0 w aT.heap.objs.size (tw8920871248978507458 aT.heap gp "__annotations__") 6000 aT (topStub P0)).bind λai=>match staticsOk (EL P0.main.body) aT.heap ai.heap&&namesBound P0 ai.heap&&gensDone ai&&laidKept aT.heap ai.heap with
   |true=>aa ai
   |false=>af
 |false=>af
theorem acy(w:cM):fencedOpening treeTable P0 w 6000=An w:=by unfold fencedOpening An;rw[te10274390034422433532,te14289696077712309145,te14364793385576792824,te1435165496053646825]
theorem acz(w:cM)(aT:ay):topFrom treeTable P0 w 6000 aT=xV w aT:=by unfold topFrom xV;rw[te14082659384304107361,te14364793385576792824,te8920871248978507458];rfl
theorem acA(w:cM):((An (w.withFollow "special-get-raises" ag)).bind (xV (w.withFollow "special-get-raises" ag))).map (λs=>(tw4187177175401517315 mP r4 (EL P0.main.body) (λZ=>ae) ae s,qk tw8920871248978507458 s.heap))=
  aa (openGood mP r4,o9 (w.withFollow "special-get-raises" ag)):=by kernel_rfl
theorem acB(w:cM):((An (w.withFollow "special-get-raises" ae)).bind (xV (w.withFollow "special-get-raises" ae))).map (λs=>(tw4187177175401517315 mP r4 (EL P0.main.body) (λZ=>ae) ae s,qk tw8920871248978507458 s.heap))=
  aa (openGood mP r4,o9 (w.withFollow "special-get-raises" ae)):=by kernel_rfl
theorem acC:LeftO P0 mP r4 (λZ=>ae) obs o9 6000:=by
 have e:∀w,(openEnds treeTable P0 w 6000).map (λs=>(openSeen mP r4 (EL P0.main.body) (λZ=>ae) ae s,obs s))=
   ((An w).bind (xV w)).map (λs=>(tw4187177175401517315 mP r4 (EL P0.main.body) (λZ=>ae) ae s,qk tw8920871248978507458 s.heap)):=λw=>by
  unfold openEnds;rw[acy,show topFrom treeTable P0 w 6000=xV w from funext (acz w),te4187177175401517315];unfold obs;rw[te8920871248978507458]
 refine byRow2 "special-get-raises" (λw=>?_) (λw=>?_)
 ·exact(e _).trans (acA w)
 ·exact(e _).trans (acB w)
end
section
open PySem.W
noncomputable def IB:a9→Arguments| .FunctionDef _ ps .. =>ps|_=>default
noncomputable def nZ:a9→List a9| .FunctionDef _ _ b .. =>b|_=>[]
noncomputable def dF:a9→m4| .FunctionDef _ _ _ _ _ _ sc .. =>sc|_=>default
noncomputable def isFn:a9→Bool| .FunctionDef .. =>ae|_=>ag
structure fV(fd:px)(st:a9)(dv:ak):Prop where
 params:fd.params=IB st
 body:fd.body=.stmts (nZ st)
 scope:fd.scope=dF st
 gl:fd.globals=gp
 gE:fd.closure=[]
 bi:fd.builtins=jE
 df:fd.defaults=dv
 kd:fd.kwdefaults=.none
noncomputable def fnAt(h:aP)(a:aE):Option px:=match h.get? a with|some o=>(match o.data with| .func fd=>aa fd|_=>af)|none=>af
noncomputable def acD(h:aP)(fd:px):Prop:=∃c oc vs t,fd.code=.ref c∧h.get? c=aa oc∧oc.data=.fields vs∧vs[1]? =aa (.str fd.qualname t)
set_option tactic.hygienic true in
theorem acE{h:aP}(e:Iw h fd):acD h fd:=by
 unfold Iw at e;split at e
 ·rename_i c hc;split at e
  ·rename_i o ho;split at e
   ·rename_i vs hv;split at e
    ·rename_i q t hq;have:=eE e;subst this;exact⟨c,o,vs,t,hc,ho,hv,hq⟩
    ·exact zF e
   ·exact zF e
  ·exact zF e
 ·exact zF e
inductive Qj(h:aP)(a:aE)(st:a9)(dv:ak):Prop
 |mk (o:fJ) (fd:px) (ho:h.get? a=aa o) (hc:o.cls=.type "function") (hd:o.data=.func fd) (hf:fnAt h a=aa fd) (F:fV fd st dv) (c:aE) (oc:fJ) (vs:Array ak) (t:mZ) (c1:fd.code=.ref c) (c2:h.get? c=aa oc) (c3:oc.data=.fields vs) (c4:vs[1]? =aa (.str fd.qualname t))
set_option tactic.hygienic true in
theorem IC{h:aP}{dv:ak}(hf:isFn st)(e:Ak h a=Al st dv):Qj h a st dv:=by
 have hv:Al st dv=aa (.type "function",IB st,.stmts (nZ st),dF st,gp,[],jE,dv,.none,ae):=by
  induction st using KO<;>first|rfl|exact zF hf
 replace e:=hv▸e;unfold Ak at e;induction ho:h.get? a with
 |none=>exact zN (ho▸e)
 |some o=>
  replace e:=ho▸e;dsimp only at e;split at e
  ·rename_i fd hd;have e:=ir e;simp only[yu]at e;obtain⟨e1,e2,e3,e4,e5,e6,e7,e8,e9,mz⟩:=e;obtain⟨c,oc,vs,t,c1,c2,c3,c4⟩:=acE mz;exact⟨o,fd,ho,e1,hd,by unfold fnAt;refine rE ho ?_;simp only[hd],⟨e2,e3,e4,e5,e6,e7,e8,e9⟩,c,oc,vs,t,c1,c2,c3,c4⟩
  ·exact zN e
noncomputable def Qk(sc:m4)(ps:List ah):Bool:=
 sc.names.all (λp=>p.2 !=.free)&& !sc.isCoroutine&& !sc.isGenerator&&(match sc.kind with| .function=>ae|_=>ag)&&decide ps.Nodup&&ps.all λx=>match sc.names.lookup x with|some .local=>ae|some .cell=>ae|_=>ag
theorem acF{m c:ax}(h:isFn (bR i)):kA m c i=BU (xs.wm m c) (dF (bR i)).names (nZ (bR i)):=by
 unfold kA;generalize bR i=st at h;induction st using KO<;>first|rfl|exact zF h
set_option tactic.hygienic true in
theorem mQ{m c:ax}{ps:List ah}{fn:Fn}(F:fV fd (bR i) .none)(h1:isFn (bR i))(h2:kA m c i=aa fn.body)(h3:ps.map (λx=>aZ x names)=fn.params.map aa)
  (h4:fd.params=IB (bR i)→fd.defaults=.none→fd.kwdefaults=.none→∀vals:List ak,vals.length=ps.length→jG fd ⟨vals,[]⟩=pure (ps.zip vals)) (h5:Qk (dF (bR i)) ps):gj xs fd fn:=by
 unfold Qk at h5;simp only[j0,UK]at h5;obtain⟨⟨⟨⟨⟨s1,s2⟩,s3⟩,s4⟩,s5⟩,s6⟩:=h5;rw[← F.scope]at s1 s2 s3 s4 s6;refine⟨⟨nZ (bR i),ps,m,c,F.body,?_,h4 F.params F.df F.kd,h3,of_decide_eq_true s5,λx hx=>?_⟩,F.gE,F.gl,F.bi,s1,s2,s3,?_⟩
 ·exact rE F.scope (rS (acF h1) h2)
 ·have:=fk.mp s6 x hx;split at this
  ·rename_i q;exact .inl q
  ·rename_i q;exact .inr q
  ·exact zF this
 ·split at s4
  ·rename_i q;exact q
  ·exact zF s4
theorem Ql:isFn (bR 4):=by kernel_rfl
theorem acG(F:fV fd (bR 4) .none):gj xs fd ⟨[0],b0⟩:=by
 refine mQ (m:=[3]) (c:=[]) (ps:=[names.getD 0 ix]) F Ql acj (by kernel_rfl) (λh1 h2 h3 vals hv=>?_) (by kernel_rfl);rcases vals with _| ⟨a0,_| ⟨a1,r⟩⟩<;>first| (simp at hv;done)|skip
 obtain⟨n,q,pp,b,sc,g,cl,df,kd,dc,pm,an,cd,ct,bi⟩:=fd;dsimp only at h1 h2 h3;subst h1 h2 h3;kernel_rfl
theorem Qm:isFn (bR 5):=by kernel_rfl
theorem acH(F:fV fd (bR 5) .none):gj xs fd ⟨[0],b1⟩:=by
 refine mQ (m:=[]) (c:=[]) (ps:=[names.getD 0 ix]) F Qm ack (by kernel_rfl) (λh1 h2 h3 vals hv=>?_) (by kernel_rfl);rcases vals with _| ⟨a0,_| ⟨a1,r⟩⟩<;>first| (simp at hv;done)|skip
 obtain⟨n,q,pp,b,sc,g,cl,df,kd,dc,pm,an,cd,ct,bi⟩:=fd;dsimp only at h1 h2 h3;subst h1 h2 h3;kernel_rfl
theorem Qn:isFn (bR 58):=by kernel_rfl
theorem acI(F:fV fd (bR 58) .none):gj xs fd ⟨[7],b2⟩:=by
 refine mQ (m:=[]) (c:=[]) (ps:=[names.getD 7 ix]) F Qn acm (by kernel_rfl) (λh1 h2 h3 vals hv=>?_) (by kernel_rfl);rcases vals with _| ⟨a0,_| ⟨a1,r⟩⟩<;>first| (simp at hv;done)|skip
 obtain⟨n,q,pp,b,sc,g,cl,df,kd,dc,pm,an,cd,ct,bi⟩:=fd;dsimp only at h1 h2 h3;subst h1 h2 h3;kernel_rfl
theorem Qo:isFn (bR 59):=by kernel_rfl
theorem acJ(F:fV fd (bR 59) .none):gj xs fd ⟨[7],b3⟩:=by
 refine mQ (m:=[]) (c:=[]) (ps:=[names.getD 7 ix]) F Qo acn (by kernel_rfl) (λh1 h2 h3 vals hv=>?_) (by kernel_rfl);rcases vals with _| ⟨a0,_| ⟨a1,r⟩⟩<;>first| (simp at hv;done)|skip
 obtain⟨n,q,pp,b,sc,g,cl,df,kd,dc,pm,an,cd,ct,bi⟩:=fd;dsimp only at h1 h2 h3;subst h1 h2 h3;kernel_rfl
theorem Qp:isFn (bR 60):=by kernel_rfl
theorem acK(F:fV fd (bR 60) .none):gj xs fd ⟨[7],b4⟩:=by
 refine mQ (m:=[]) (c:=[]) (ps:=[names.getD 7 ix]) F Qp aco (by kernel_rfl) (λh1 h2 h3 vals hv=>?_) (by kernel_rfl);rcases vals with _| ⟨a0,_| ⟨a1,r⟩⟩<;>first| (simp at hv;done)|skip
 obtain⟨n,q,pp,b,sc,g,cl,df,kd,dc,pm,an,cd,ct,bi⟩:=fd;dsimp only at h1 h2 h3;subst h1 h2 h3;kernel_rfl
theorem Qq:isFn (bR 68):=by kernel_rfl
theorem acL(F:fV fd (bR 68) .none):gj xs fd ⟨[8,9],b5⟩:=by
 refine mQ (m:=[10]) (c:=[]) (ps:=[names.getD 8 ix,names.getD 9 ix]) F Qq acp (by kernel_rfl) (λh1 h2 h3 vals hv=>?_) (by kernel_rfl);rcases vals with _| ⟨a0,_| ⟨a1,_| ⟨a2,r⟩⟩⟩<;>first| (simp at hv;done)|skip
 obtain⟨n,q,pp,b,sc,g,cl,df,kd,dc,pm,an,cd,ct,bi⟩:=fd;dsimp only at h1 h2 h3;subst h1 h2 h3;kernel_rfl
theorem Qr:isFn (bR 69):=by kernel_rfl
theorem acM(F:fV fd (bR 69) .none):gj xs fd ⟨[20,21],b6⟩:=by
 refine mQ (m:=[23]) (c:=[22]) (ps:=[names.getD 20 ix,names.getD 21 ix]) F Qr acq (by kernel_rfl) (λh1 h2 h3 vals hv=>?_) (by kernel_rfl);rcases vals with _| ⟨a0,_| ⟨a1,_| ⟨a2,r⟩⟩⟩<;>first| (simp at hv;done)|skip
 obtain⟨n,q,pp,b,sc,g,cl,df,kd,dc,pm,an,cd,ct,bi⟩:=fd;dsimp only at h1 h2 h3;subst h1 h2 h3;kernel_rfl
theorem Qs:isFn (bR 70):=by kernel_rfl
theorem acN(F:fV fd (bR 70) .none):gj xs fd ⟨[30,31],b7⟩:=by
 refine mQ (m:=[]) (c:=[]) (ps:=[names.getD 30 ix,names.getD 31 ix]) F Qs acr (by kernel_rfl) (λh1 h2 h3 vals hv=>?_) (by kernel_rfl);rcases vals with _| ⟨a0,_| ⟨a1,_| ⟨a2,r⟩⟩⟩<;>first| (simp at hv;done)|skip
 obtain⟨n,q,pp,b,sc,g,cl,df,kd,dc,pm,an,cd,ct,bi⟩:=fd;dsimp only at h1 h2 h3;subst h1 h2 h3;kernel_rfl
theorem Qt:isFn (bR 71):=by kernel_rfl
theorem acO(F:fV fd (bR 71) .none):gj xs fd ⟨[30,37,38],b8⟩:=by
 refine mQ (m:=[]) (c:=[]) (ps:=[names.getD 30 ix,names.getD 37 ix,names.getD 38 ix]) F Qt acs (by kernel_rfl) (λh1 h2 h3 vals hv=>?_) (by kernel_rfl);rcases vals with _| ⟨a0,_| ⟨a1,_| ⟨a2,_| ⟨a3,r⟩⟩⟩⟩<;>first| (simp at hv;done)|skip
 obtain⟨n,q,pp,b,sc,g,cl,df,kd,dc,pm,an,cd,ct,bi⟩:=fd;dsimp only at h1 h2 h3;subst h1 h2 h3;kernel_rfl
theorem Qu:isFn (bR 72):=by kernel_rfl
theorem acP(F:fV fd (bR 72) .none):gj xs fd ⟨[42],b9⟩:=by
 refine mQ (m:=[43]) (c:=[]) (ps:=[names.getD 42 ix]) F Qu acu (by kernel_rfl) (λh1 h2 h3 vals hv=>?_) (by kernel_rfl);rcases vals with _| ⟨a0,_| ⟨a1,r⟩⟩<;>first| (simp at hv;done)|skip
 obtain⟨n,q,pp,b,sc,g,cl,df,kd,dc,pm,an,cd,ct,bi⟩:=fd;dsimp only at h1 h2 h3;subst h1 h2 h3;kernel_rfl
theorem Qv:isFn (bR 73):=by kernel_rfl
theorem acQ(F:fV fd (bR 73) .none):gj xs fd ⟨[44,30],Ir⟩:=by
 refine mQ (m:=[]) (c:=[]) (ps:=[names.getD 44 ix,names.getD 30 ix]) F Qv acv (by kernel_rfl) (λh1 h2 h3 vals hv=>?_) (by kernel_rfl);rcases vals with _| ⟨a0,_| ⟨a1,_| ⟨a2,r⟩⟩⟩<;>first| (simp at hv;done)|skip
 obtain⟨n,q,pp,b,sc,g,cl,df,kd,dc,pm,an,cd,ct,bi⟩:=fd;dsimp only at h1 h2 h3;subst h1 h2 h3;kernel_rfl
theorem Qw:isFn (bR 74):=by kernel_rfl
theorem acR(F:fV fd (bR 74) .none):gj xs fd ⟨[47,10,48],Iu⟩:=by
 refine mQ (m:=[43]) (c:=[]) (ps:=[names.getD 47 ix,names.getD 10 ix,names.getD 48 ix]) F Qw acw (by kernel_rfl) (λh1 h2 h3 vals hv=>?_) (by kernel_rfl);rcases vals with _| ⟨a0,_| ⟨a1,_| ⟨a2,_| ⟨a3,r⟩⟩⟩⟩<;>first| (simp at hv;done)|skip
 obtain⟨n,q,pp,b,sc,g,cl,df,kd,dc,pm,an,cd,ct,bi⟩:=fd;dsimp only at h1 h2 h3;subst h1 h2 h3;kernel_rfl
theorem Qx:isFn (bR 75):=by kernel_rfl
theorem acS(F:fV fd (bR 75) .none):gj xs fd ⟨[54],C7⟩:=by
 refine mQ (m:=[59,60]) (c:=[]) (ps:=[names.getD 54 ix]) F Qx acx (by kernel_rfl) (λh1 h2 h3 vals hv=>?_) (by kernel_rfl);rcases vals with _| ⟨a0,_| ⟨a1,r⟩⟩<;>first| (simp at hv;done)|skip
 obtain⟨n,q,pp,b,sc,g,cl,df,kd,dc,pm,an,cd,ct,bi⟩:=fd;dsimp only at h1 h2 h3;subst h1 h2 h3;kernel_rfl
end
section
open PySem.W
noncomputable def KK(w:cM)(h:aP):Kt:=⟨w,xs,tok,h.nsMap 3,h.nsMap 0,λi=>(qj[i]?).bind λa=>(fnAt h a).map λfd=>(a,fd),227,λa o=>h.get? a=aa o,af⟩
theorem ID{f g:α→β}{l:List α}(e:l.map f=l.map g){x:α}(h:l[i]? =aa x):f x=g x:=List.map_inj_left.mp e x (sJ h)
section
variable{w:cM}{h:aP}(e:qk K2 h=o9 w)
include e
theorem cW{n:aE}{v:Option ak}(hq:Aj[i]? =aa (n,x,v)):h.nsMap n x=v:=ID (f:=λx:aE × ah × Option ak=>h.nsMap x.1 x.2.1) (g:=λx:aE × ah × Option ak=>x.2.2) (l:=Aj) (congrArg nY.qs e) hq
theorem IE{dv:ak}(hx:xR[i]? =aa (a,st,dv)):Ak h a=Al st dv:=ID (f:=λx:aE × a9 × ak=>Ak h x.1) (g:=λx:aE × a9 × ak=>Al x.2.1 x.2.2) (l:=xR) (congrArg nY.fs e) hx
theorem iAt{v:Int}(hq:bH[i]? =aa (x,v)):Am (h.nsMap gp x)=aa v:=ID (f:=λx:ah × Int=>Am (h.nsMap gp x.1)) (g:=λx:ah × Int=>aa x.2) (l:=bH) (congrArg nY.is e) hq
theorem C8:h.isNs gp∧h.isNs jE∧h.isNs cStatics∧h.isNs 226:=by have:=congrArg nY.ns e;simp only[qk,o9,EM,and_true]at this;exact this
set_option tactic.hygienic true in
theorem acT:∃o n,h.get? 114=aa o∧o.data=.seq #[.none] n:=by
 have:=congrArg nY.ts e;simp only[qk,o9,EM,and_true]at this;have ht:Iy h 114=aa (.type "tuple",[.none]):=this;unfold Iy at ht;induction ho:h.get? 114 with
 |none=>exact zN (ho▸ht)
 |some o=>
  replace ht:=ho▸ht;dsimp only at ht;split at ht
  ·rename_i vs n hd;have ht:=ir ht;simp only[yu]at ht;exact⟨o,n,rfl,by refine rE hd ?_;exact rE (show vs= #[.none]from Kx.mp ht.2) rfl⟩
  ·exact zN ht
omit e in
set_option tactic.hygienic true in
theorem Qy{c:aE}{code:Array Nat}(ha:xT h a=aa (.type "re.Pattern",af,.ref c,0,0))(hc:xU h c=aa code.toList):rX h (.ref a) code:=by
 unfold xT at ha;unfold xU at hc;induction ho:h.get? a with
 |none=>exact zN (ho▸ha)
 |some o=>
 induction rW:h.get? c with
 |none=>exact zN (rW▸hc)
 |some oc=>
  replace ha:=ho▸ha;replace hc:=rW▸hc;dsimp only at ha hc;split at ha
  ·rename_i fs hd;split at hc
   ·rename_i items n o5;have ha:=ir ha;simp only[yu]at ha;refine E5 ha λa1 a2 a3 a4 a5=>?_;have hc:=ir hc;exact⟨a,o,fs,c,oc,items,n,rfl,ho,a1,a2,hd,a3,a4,a5,rW,o5,Kx.mp (rE Kp (rE Kp hc))⟩
   ·exact zN hc
  ·exact zN ha
theorem xJ:(xT h 93=aa (.type "re.Pattern",af,.ref 92,0,0)∧xT h 98=aa (.type "re.Pattern",af,.ref 97,0,0))∧(xU h 92=aa iL.toList∧xU h 97=aa jR.toList):=by have h1:=congrArg nY.rs e;have h2:=congrArg nY.cs e;simp only[qk,o9,EM,and_true]at h1 h2;exact⟨h1,h2⟩
omit e in
theorem Qz{v:Int}:∀ {l:gO},rp x l=aa v→∃i:Nat,l[i]? =aa (x,v):=by
 intro L0;induction L0 with
 |nil=>exact nofun
 |cons cx r ih=>
  obtain⟨y,k⟩:=cx;intro hh;replace hh:=(WD ..)▸hh;induction q:sEq y x with
  |true=>replace hh:=iJ (q▸hh);subst hh;exact⟨0,by refine rE (eE q) ?_;rfl⟩
  |false=>replace hh:=(cond_false ..)▸q▸hh;exact xE (ih hh) λi hi=>⟨i+1,Kl.trans hi⟩
omit e in
theorem IF:(∀x∈names,(x == ("__debug__" :ah))=ag∧(x == ("__classdict__" :ah))=ag)∧(∀x∈fns,(x == ("__debug__" :ah))=ag)∧(∀p∈bH,(p.1 == ("__debug__" :ah))=ag):=by decide+kernel
theorem fnG(hx:fns[i]? =aa x):∃a,qj[i]? =aa a∧h.nsMap 3 x=aa (.ref a):=by
 have c:∀ {j:Nat}{a:aE},qj[j]? =aa a→Aj[j]? =aa (3,nS j,aa (.ref a))→fns[j]? =aa x→∃a,qj[j]? =aa a∧h.nsMap 3 x=aa (.ref a):=λ{j a} h1 h2 h3=>by
  have:nS j=x:=by simp[nS,List.getD,h3]
  exact⟨a,h1,this▸cW e h2⟩
 rcases i with _|_|_|_|_|_|_|_|_|_|_|_|_|i
 ·exact c rfl rfl hx
 ·exact c rfl rfl hx
 ·exact c rfl rfl hx
 ·exact c rfl rfl hx
 ·exact c rfl rfl hx
 ·exact c rfl rfl hx
 ·exact c rfl rfl hx
 ·exact c rfl rfl hx
 ·exact c rfl rfl hx
 ·exact c rfl rfl hx
 ·exact c rfl rfl hx
 ·exact c rfl rfl hx
 ·exact c rfl rfl hx
 ·exact absurd hx (by simp[fns])
inductive QA(h:aP)(i:Nat)(a:aE):Prop
 |mk (st:a9) (r:Qj h a st .none) (G:∀fd fn,fV fd st .none→aH i=aa fn→gj xs fd fn)
theorem mR{fn:Fn}(hf:isFn st)(hx:xR[j]? =aa (a,st,.none))(hn:aH i=aa fn)(G:∀ {fd},fV fd st .none→gj xs fd fn):QA h i a:=
 ⟨st,IC hf (IE e hx),λfd fn' F q=>iJ (hn.symm.trans q)▸G F⟩
theorem C9(ha:qj[i]? =aa a):QA h i a:=by
 rcases i with _|_|_|_|_|_|_|_|_|_|_|_|_|i
 ·replace ha:=iJ ha;subst ha;exact mR e Ql (j:=0) rfl rfl acG
 ·replace ha:=iJ ha;subst ha;exact mR e Qm (j:=1) rfl rfl acH
 ·replace ha:=iJ ha;subst ha;exact mR e Qn (j:=2) rfl rfl acI
 ·replace ha:=iJ ha;subst ha;exact mR e Qo (j:=3) rfl rfl acJ
 ·replace ha:=iJ ha;subst ha;exact mR e Qp (j:=4) rfl rfl acK
 ·replace ha:=iJ ha;subst ha;exact mR e Qq (j:=5) rfl rfl acL
 ·replace ha:=iJ ha;subst ha;exact mR e Qr (j:=6) rfl rfl acM
 ·replace ha:=iJ ha;subst ha;exact mR e Qs (j:=7) rfl rfl acN
 ·replace ha:=iJ ha;subst ha;exact mR e Qt (j:=8) rfl rfl acO
 ·replace ha:=iJ ha;subst ha;exact mR e Qu (j:=9) rfl rfl acP
 ·replace ha:=iJ ha;subst ha;exact mR e Qv (j:=10) rfl rfl acQ
 ·replace ha:=iJ ha;subst ha;exact mR e Qw (j:=11) rfl rfl acR
 ·replace ha:=iJ ha;subst ha;exact mR e Qx (j:=12) rfl rfl acS
 ·exact absurd ha (by simp[qj])
omit e in
theorem QB(hf:(KK w h).fo i=aa (a,fd)):qj[i]? =aa a∧fnAt h a=aa fd:=by refine aD (ahd.mp (hf:(qj[i]?).bind _=_)) λa' h1 h2=>aD (sM.mp h2) λQC h3 h4=>iP h4 λe1 e2=>?_;clear h4;subst e1;subst e2;exact⟨h1,h3⟩
theorem acU:∀f a fd fn,(KK w h).fo f=aa (a,fd)→aH f=aa fn→gj (KK w h).X fd fn:=λf a fd fn hf hn=>by refine xA (QB hf) λh1 h2=>?_;obtain⟨st,⟨o,QC,_,_,_,h3,F⟩,G⟩:=C9 e h1;replace h3:=iJ (h2▸h3);subst h3;exact G fd fn F hn
set_option tactic.hygienic true in
theorem kok:bU (KK w h) where
 nm:=λx i hx=>IF.1 x (z1 hx)
 nf:=λx i hx=>IF.2.1 x (z1 hx)
 nl:=λx i hx=>by exact xE (Qz (show rp x bH=aa i from hx)) λj hj=>IF.2.2 (x,i) (sJ hj)
 fm:=λx i hx=>by refine aD (fnG e (F9 (show aZ x fns=aa i from hx))) λa h1 h2=>?_;obtain⟨st,⟨o,fd,_,_,_,h3⟩⟩:=C9 e h1;refine⟨a,fd,?_,h2⟩;show(qj[i]?).bind (λa=>(fnAt h a).map λfd=>(a,fd))=_;refine rE h1 ?_;show(fnAt h a).map _=_;refine rE h3 ?_;rfl
 gi:=λx i hx=>by
  refine xE (Qz (show rp x bH=aa i from hx)) λj hj=>?_;have:=iAt e hj;show ∃t,h.nsMap 3 x=aa (.int i t);have:Am (h.nsMap 3 x)=aa i:=this;unfold Am at this;split at this
  ·clear hj j hx;rename_i k t hk;replace this:=iJ this;subst this;exact⟨t,hk⟩
  ·exact zN this
 len:=⟨cW e (i:=29) rfl,cW e (i:=40) rfl⟩
 str:=⟨cW e (i:=30) rfl,cW e (i:=41) rfl⟩
 int:=⟨cW e (i:=31) rfl,cW e (i:=42) rfl⟩
 sum:=⟨cW e (i:=32) rfl,cW e (i:=43) rfl⟩
 sorted:=⟨cW e (i:=33) rfl,cW e (i:=44) rfl⟩
 ve:=⟨cW e (i:=34) rfl,cW e (i:=45) rfl⟩
 u9:=⟨cW e (i:=35) rfl,cW e (i:=46) rfl⟩
 range:=⟨cW e (i:=36) rfl,cW e (i:=47) rfl⟩
end
end
section
open PySem.W
noncomputable def pF(l:List aO):Nat→aO:=λn=>l.getD n default
theorem vY:isFn (bR 3)∧isFn (cF 0)∧isFn (cF 1)∧isFn (cF 7)∧isFn (cF 9)∧isFn (cF 11)∧isFn (cF 16):=by refine⟨?_,?_,?_,?_,?_,?_,?_⟩<;>kernel_rfl
theorem acV:∃l:List aO,nZ (bR 3)=o4 (pF l):=⟨[_,_,_,_,_,_,_,_,_,_,_,_,_,_,_,_,_,_,_,_,_,_,_,_,_,_,_,_,_,_,_,_,_,_,_,_,_,_,_,_,_,_,_,_],rfl⟩
theorem acW:∃ (l:List aO) (B FB:List a9),nZ (cF 0)=Ik (pF l) B FB:=⟨[_,_,_,_,_,_,_,_,_,_,_,_,_,_,_,_,_,_,_,_,_,_,_,_,_],_,_,rfl⟩
theorem acX:∃ (l:List aO) (R:a9),nZ (cF 1)=Pt (pF l) R∧cH (pF l 12) (pF l 14):=⟨[_,_,_,_,_,_,_,_,_,_,_,_,_,_,_,_,_,_,_,_,_,_,_],_,rfl,by kernel_rfl⟩
theorem acY:∃ (l:List aO) (sc:m4),nZ (cF 9)=H9 (pF l) sc∧sc.names=lg∧sc.kind=.function:=⟨[_,_,_,_,_,_,_,_],_,rfl,by kernel_rfl,by kernel_rfl⟩
theorem acZ:(dF (cF 9)).names=o6∧(dF (cF 9)).kind=.function∧(dF (cF 9)).isCoroutine=ag∧(dF (cF 9)).isGenerator=ag:=by refine⟨?_,?_,?_,?_⟩<;>kernel_rfl
theorem ac0(F:fV fd (cF 9) .none)(v:ak):jG fd ⟨[v],[]⟩=pure [(("self" :ah),v)]:=by obtain⟨n,q,pp,b,sc,g,cl,df,kd,dc,pm,an,cd,ct,bi⟩:=fd;obtain⟨h1,_,_,_,_,_,h2,h3⟩:=F;dsimp only at h1 h2 h3;subst h1 h2 h3;kernel_rfl
theorem ac1:∃ (l:List aO) (sc:m4),nZ (cF 7)=H7 (pF l) sc∧sc.names=kz∧sc.kind=.function∧cH (pF l 1) (pF l 2)∧cH (pF l 11) (pF l 13)∧cH (pF l 27) (pF l 28):=⟨[_,_,_,_,_,default,default,default,default,default,_,_,_,_,_,default,default,default,default,default,_,_,_,_,_,_,_,_,_,_,_,_,_,_,_],_,rfl,by kernel_rfl,by kernel_rfl,by kernel_rfl,by kernel_rfl,by kernel_rfl⟩
theorem ac2:∃l:List aO,nZ (cF 11)=HY (pF l):=⟨[_,_,_,_,_],rfl⟩
theorem ac3:∃ (l:List aO) (FB:List a9),nZ (cF 16)=Ia (pF l) FB∧Ad (pF l):=⟨[_,_,_,_,_,_,_,_,_,default,_,_,_,_,_,default,_,_,_,_,_,_,_,_,_,_,_,_,_,_,_,_,_,_,_,_,_,_,_,_,_,_,_,_,_],_,rfl,⟨by kernel_rfl,by kernel_rfl,by kernel_rfl,by kernel_rfl,by kernel_rfl,by kernel_rfl⟩⟩
theorem Dc:(dF (bR 3)).names=gW∧(dF (bR 3)).kind=.function∧(dF (bR 3)).isCoroutine=ag∧(dF (bR 3)).isGenerator:=by refine⟨?_,?_,?_,?_⟩<;>kernel_rfl
theorem ac4:(dF (cF 0)).names=vW∧(dF (cF 0)).kind=.function∧(dF (cF 0)).isCoroutine=ag∧(dF (cF 0)).isGenerator=ag:=by refine⟨?_,?_,?_,?_⟩<;>kernel_rfl
theorem ac5:(dF (cF 1)).names=xI∧(dF (cF 1)).kind=.function∧(dF (cF 1)).isCoroutine=ag∧(dF (cF 1)).isGenerator=ag:=by refine⟨?_,?_,?_,?_⟩<;>kernel_rfl
theorem ac6:(dF (cF 7)).names=vP∧(dF (cF 7)).kind=.function∧(dF (cF 7)).isCoroutine=ag∧(dF (cF 7)).isGenerator=ag:=by refine⟨?_,?_,?_,?_⟩<;>kernel_rfl
theorem ac7:(dF (cF 11)).names=o6∧(dF (cF 11)).kind=.function∧(dF (cF 11)).isCoroutine=ag∧(dF (cF 11)).isGenerator=ag:=by refine⟨?_,?_,?_,?_⟩<;>kernel_rfl
theorem ac8:(dF (cF 16)).names=Ac∧(dF (cF 16)).kind=.function∧(dF (cF 16)).isCoroutine=ag∧(dF (cF 16)).isGenerator=ag:=by refine⟨?_,?_,?_,?_⟩<;>kernel_rfl
theorem ac9(F:fV fd (bR 3) .none)(v:ak):jG fd ⟨[v],[]⟩=pure [(qg,v)]:=by obtain⟨n,q,pp,b,sc,g,cl,df,kd,dc,pm,an,cd,ct,bi⟩:=fd;obtain⟨h1,_,_,_,_,_,h2,h3⟩:=F;dsimp only at h1 h2 h3;subst h1 h2 h3;kernel_rfl
theorem ada(F:fV fd (cF 11) .none)(v:ak):jG fd ⟨[v],[]⟩=pure [(("self" :ah),v)]:=by obtain⟨n,q,pp,b,sc,g,cl,df,kd,dc,pm,an,cd,ct,bi⟩:=fd;obtain⟨h1,_,_,_,_,_,h2,h3⟩:=F;dsimp only at h1 h2 h3;subst h1 h2 h3;kernel_rfl
theorem adb(F:fV fd (cF 7) .none)(v u:ak):jG fd ⟨[v,u],[]⟩=pure [(("self" :ah),v),(("name" :ah),u)]:=by obtain⟨n,q,pp,b,sc,g,cl,df,kd,dc,pm,an,cd,ct,bi⟩:=fd;obtain⟨h1,_,_,_,_,_,h2,h3⟩:=F;dsimp only at h1 h2 h3;subst h1 h2 h3;kernel_rfl
theorem ade(F:fV fd (cF 1) .none)(a b' c:ak):jG fd ⟨[a,b'],[(("name" :ah),c)]⟩=pure [(("self" :ah),a),(("value" :ah),b'),(("name" :ah),c)]:=by obtain⟨n,q,pp,b,sc,g,cl,df,kd,dc,pm,an,cd,ct,bi⟩:=fd;obtain⟨h1,_,_,_,_,_,h2,h3⟩:=F;dsimp only at h1 h2 h3;subst h1 h2 h3;kernel_rfl
theorem adf(F:fV fd (cF 16) .none)(a b' c:ak):jG fd ⟨[a,b',c],[]⟩=(alloc {cls:=.type "dict",data:=.dict #[]} >>= λd=>pure [(("self" :ah),a),(("_name" :ah),b'),(("_value" :ah),c),(("_params" :ah),.ref d)]):=by obtain⟨n,q,pp,b,sc,g,cl,df,kd,dc,pm,an,cd,ct,bi⟩:=fd;obtain⟨h1,_,_,_,_,_,h2,h3⟩:=F;dsimp only at h1 h2 h3;subst h1 h2 h3;kernel_rfl
theorem adg(F:fV fd (cF 0) (.ref 114)){o:fJ}(ho:s.heap.get? 114=aa o)(hd:o.data=.seq #[.none] k)(v:ak):Bk s fd ⟨[v],[]⟩ [(("self" :ah),v),(("headers" :ah),.none)]:=by obtain⟨n,q,pp,b,sc,g,cl,df,kd,dc,pm,an,cd,ct,bi⟩:=fd;obtain⟨h1,_,_,_,_,_,h2,h3⟩:=F;dsimp only at h1 h2 h3;subst h1 h2 h3;exact Bk.of_defaults rfl ho hd rfl rfl
end
section
open PySem.W
open PyProof.V (FlatPairs Flat)
section
variable{w:cM}{h:aP}(e:qk K2 h=o9 w)
include e
set_option tactic.hygienic true in
theorem adh:br (KK w h) (λ_=>False) h where
 ng:=.of_isNs (C8 e).1
 ug:=λq=>q
 nb:=.of_isNs (C8 e).2.1
 ub:=λq=>q
 fo:=λi a fd hf=>by refine xA (QB hf) λh1 h2=>?_;obtain⟨st,⟨o,QC,ho,_,hd,h3,_,c,oc,vs,t,c1,c2,c3,c4⟩⟩:=C9 e h1;replace h3:=iJ (h2▸h3);subst h3;exact⟨o,ho,λq=>q,hd,c,oc,vs,t,c1,λq=>q,c2,c3,c4⟩
 tok:=by
  refine⟨.ref 60,cW e (i:=14) rfl,60,rfl,λq=>q,rfl,?_⟩;have ht:Iz h 60=IA w:=congrArg nY.tk e;unfold Iz IA at ht;induction ho:h.get? 60 with
  |none=>exact zN (ho▸ht)
  |some o=>
   replace ht:=ho▸ht;dsimp only at ht;split at ht
   ·rename_i es ep hd;have ht:=ir ht;simp only[yu]at ht;refine yY ht λt1 t2 t3 t4=>?_;have key:∀ (l:List DictEntry) (tk:gO),(l.map λe=>(e.hash,(match e.key with| .str x _=>aa x|_=>af),(match e.val with| .int i _=>aa i|_=>af)))=tk.map (λp=>(hashStr w p.1,aa p.1,aa p.2))→
      ∃kvs:List (ah × ak),(∀x∈l,∃k,(wJ P0 w).is k x.key∧x.hash=(wJ P0 w).hash k)∧Pairs (wJ P0 w) l kvs∧kvs.map (·.1)=tk.map (·.1)∧FlatPairs uB kvs (xh tk):=by
     intro l;induction l with
     |nil=>
      intro tk hk;induction tk using bj with
      |nil=>exact⟨[],λx hx=>(by cases hx),.nil,rfl,.nil⟩
      |cons p tk=>exact zC hk
     |cons x l ih=>
      intro tk hk;induction tk using bj with
      |nil=>exact zD hk
      |cons p tk=>
       replace hk:=iT▸iT▸hk;refine xA (jh hk) λDd rm=>?_;simp only[yu]at Dd;refine mr Dd λk1 k2 k3=>gA (ih tk rm) λkvs a1 a2 a3 a4=>?_;obtain⟨ts,hs⟩:∃t,x.key=.str p.1 t:=by
        split at k2
        ·rename_i y t q;replace k2:=iJ k2;subst k2;exact⟨t,q⟩
        ·exact zN k2
       obtain⟨ti,hi⟩:∃t,x.val=.int p.2 t:=by
        split at k3
        ·rename_i y t q;replace k3:=iJ k3;subst k3;exact⟨t,q⟩
        ·exact zN k3
       have oT:(wJ P0 w).is p.1 x.key:=by refine rE hs ?_;show ah8 p.1 (.str p.1 ts);simp[ah8]
       refine⟨(p.1,x.val)::kvs,λy hy=>?_,.cons oT rfl a2,by refine rE iT ?_;refine rE iT ?_;exact rE a3 rfl,?_⟩
       ·rcases bE.mp hy with rfl|hy
        ·exact⟨p.1,oT,k1⟩
        ·exact a1 y hy
       ·exact rE hi (.cons (PyProof.V.Flat.int _ _) a4)
    exact gA (key es.toList tok t4) λkvs a1 a2 a3 a4=>⟨kvs,⟨o,es,ep,ho,⟨t1,t2,t3⟩,hd,λx hx=>a1 x (ah1.mpr hx),a2,by refine rE a3 ?_;decide+kernel⟩,a4⟩
   ·exact zN ht
 lim:=⟨_,.of_isNs (C8 e).2.2.1,cW e (i:=28) rfl⟩
 ul:=λq=>q
 iV:=λa o hf=>⟨hf,λq=>q⟩
theorem xW{dv:ak}(hx:xR[i]? =aa (a,st,dv))(hf:isFn st)(hs:(dF st).names=ks∧(dF st).kind=.function∧(dF st).isCoroutine=ag∧(dF st).isGenerator=ag)(hb:nZ st=body):
  ∃fd,fV fd st dv∧Meth (KK w h) a fd ks body:=by
 obtain⟨o,fd,ho,hc,hd,_,F,c,oc,vs,t,c1,c2,c3,c4⟩:=IC hf (IE e hx);refine⟨fd,F,⟨o,ho,hc,hd⟩,⟨c,oc,vs,t,c1,c2,c3,c4⟩,?_,?_,?_,?_,?_,F.gE,F.gl,F.bi⟩
 ·exact rE F.body (rE hb rfl)
 ·exact rE F.scope hs.1
 ·exact rE F.scope hs.2.1
 ·exact rE F.scope hs.2.2.1
 ·exact rE F.scope hs.2.2.2
theorem adi:gk (KK w h) (cD (h.nsMap 226)) where
 cls:=(congrArg nY.cl e:h.get? 227=_)
 ns:=fy (yA.of_isNs (C8 e).2.2.2) λo es ep ho r=>⟨o,ho,λh' h'e=>⟨o,es,ep,h'e,r⟩⟩
 ga:=cW e (i:=24) rfl
 PF:=cW e (i:=25) rfl
 sa:=cW e (i:=26) rfl
 hd:=cW e (i:=27) rfl
theorem adj(hr:∃n,bW A (n+10)):vF (KK w h) A:=by
 have O:=kok e;have vZ:∃n,bW A (n+1):=let⟨n,r⟩:=hr;⟨n+9,r⟩
 have hr5:∃n,bW A (n+5):=let⟨n,r⟩:=hr;⟨n+5,r⟩
 have o7:A.depth<iS:=by refine xE hr λn r=>?_;have:=r.depth;lia
 have k:=adi e;refine gz acX λl1 R1 b1 ln1=>?_;obtain⟨fC,FC,MC⟩:=xW e (i:=15) rfl vY.2.2.1 ac5 b1;have cv:k9 (KK w h) 128 fC (pF l1) R1:=by obtain⟨⟨r1,r2⟩,c1,c2⟩:=xJ e;exact⟨MC,ade FC,ln1,⟨cW e (i:=38) rfl,cW e (i:=49) rfl⟩,⟨_,cW e (i:=16) rfl,Qy r1 c1⟩,⟨_,cW e (i:=17) rfl,Qy r2 c2⟩⟩
 have jS:(cD (h.nsMap 226)).mN kx=aa (.ref 128):=cW e (i:=19) rfl;refine gz (acT e) λt1 k1 BG hd1=>⟨O,λU s v t x g ub T hx ht=>?_,λU s v t g ub T ht=>?_,λU s v t g ub T ht=>?_,?_,?_,?_⟩
 ·obtain⟨l,sc,b,q1,q2,s1,s2,s3⟩:=ac1;obtain⟨fd,F,M⟩:=xW e (i:=16) rfl vY.2.2.2.1 ac6 b;exact abK k cv jS O vZ M (cW e (i:=20) rfl) q1 q2 (adb F) s1 s2 s3 g ub T hx ht
 ·refine xE ac2 λl b=>?_;obtain⟨fd,F,M⟩:=xW e (i:=18) rfl vY.2.2.2.2.2.1 ac7 b;exact abn k o7 M (cW e (i:=22) rfl) (ada F) g T ht
 ·refine cK acY λl sc b q1 q2=>?_;obtain⟨fd,F,M⟩:=xW e (i:=17) rfl vY.2.2.2.2.1 acZ b;exact abR k O vZ M (cW e (i:=21) rfl) q1 q2 (ac0 F) g ub T ht
 ·refine xE acV λl b=>?_;obtain⟨o,fd,ho,hc,hd,_,F,c,oc,vs,t,c1,c2,c3,c4⟩:=IC vY.1 (IE e (i:=13) rfl);refine aaO (a:=45) (fd:=fd) (p:=pF l) ⟨cW e (i:=13) rfl,λU h' g=>?_,by refine rE F.body ?_;exact rE b rfl,by refine rE F.scope ?_;exact Dc.1,by refine rE F.scope ?_;exact Dc.2.1,by refine rE F.scope ?_;exact Dc.2.2.2,by refine rE F.scope ?_;exact Dc.2.2.1,F.gE,F.gl,F.bi,ac9 F,cW e (i:=37) rfl,cW e (i:=48) rfl⟩ O hr;exact xA (g.iV 45 o ho) λg1 g2=>xA (g.iV c oc c2) λg3 g4=>⟨o,g1,g2,hd,c,oc,vs,t,c1,g4,g3,c3,c4⟩
 ·obtain⟨l,B,FB,b⟩:=acW;obtain⟨fd,F,M⟩:=xW e (i:=14) rfl vY.2.1 ac4 b;exact aci k rfl hr5 M (cW e (i:=18) rfl) (λs v U g=>adg F (g.iV 114 t1 BG).1 hd1 v) ⟨cW e (i:=38) rfl,cW e (i:=49) rfl⟩ ⟨cW e (i:=39) rfl,cW e (i:=50) rfl⟩ (cW e (i:=15) rfl)
 ·refine gz ac3 λl FB b ln=>?_;obtain⟨fd,F,M⟩:=xW e (i:=19) rfl vY.2.2.2.2.2.2 ac8 b;exact ab6 k cv jS O vZ M (cW e (i:=23) rfl) (adf F) ln
end
inductive v5(w:cM)(h:aP):Prop
 |mk (K:Kt) (hw:K.w=w) (hX:K.X=xs) (ht:K.tk=tok) (g:br K (λZ=>False) h) (o:∀A,(∃n,bW A (n+10))→vF K A) (f:∀f a fd fn,K.fo f=aa (a,fd)→aH f=aa fn→gj K.X fd fn) (fd:px) (hf:K.fo 12=aa (275,fd)) (hm:K.mg (nS 12)=aa (.ref 275))
theorem adk(w:cM)(s:ay)(e:obs s=o9 w):v5 w s.heap:=by have e:qk K2 s.heap=o9 w:=e;obtain⟨st,⟨o,fd,_,_,_,h3⟩⟩:=C9 e (i:=12) (a:=275) rfl;refine⟨KK w s.heap,rfl,rfl,rfl,adh e,λA hr=>adj e hr,acU e,fd,?_,cW e (i:=12) rfl⟩;show(qj[12]?).bind (λa=>(fnAt s.heap a).map λfd=>(a,fd))=_;show(fnAt s.heap 275).map _=_;refine rE h3 ?_;rfl
theorem adl(w:cM)(h h':aP)(x:v5 w h)(hk:∀b o,h.get? b=aa o→h'.get? b=aa o):v5 w h':=by obtain⟨K,z,a,b,g,o,f,fd,r,q⟩:=x;exact⟨K,z,a,b,g.mono (λa o Z e=>hk a o e) (λZ Z Z q=>q),o,f,fd,r,q⟩
end
section
open PySem.W
theorem Ao{f:Nat→Nat→Option Bool}{g:α→KasT β}{a:α}(t:KasT α):ml f t=aa a→ml f (t.bind g)=ml f (g a):=by
 induction t with
 |ret b=>intro h;replace h:=iJ h;subst h;rfl
 |ask i j k ih=>intro h;refine oE (h:(f i j).bind _=_) λb h1 h=>?_;show(f i j).bind _=_;exact rE h1 (ih b h)
structure Ord(n:Nat)(f:Nat→Nat→Option Bool)(r:Nat→Nat→Prop):Prop where
 yes:∀i j,i<n→j<n→r i j→f i j=aa ae∧f j i=aa ag
 mG:∀i j,i<n→j<n→i≠j→r i j∨r j i
 trans:∀i j k,r i j→r j k→r i k
structure Row(n:Nat)(p:Array Nat):Prop where
 perm:p.Perm (bM n).toArray
theorem Row.size{p:Array Nat}(R:Row n p):p.size=n:=by refine rE R.perm.size_eq ?_;simp
theorem getD_get?(p:Array Nat)(i:Nat):p.getD i 0=(p[i]?).getD 0:=by simp[Array.getD_eq_getD_getElem?]
theorem Row.lt{p:Array Nat}(R:Row n p)(h:i<n):p.getD i 0<n:=by have hs:i<p.size:=R.size▸h;have:p[i]∈(bM n).toArray:=R.perm.mem_iff.mp (ah2 hs);refine rE (getD_get? ..) (rE (Bi hs) ?_);simpa using this
theorem Row.ne{p:Array Nat}(R:Row n p)(hi:i<n)(hj:j<n)(h:i≠j):p.getD i 0≠p.getD j 0:=by have hi:i<p.size:=R.size▸hi;have hj:j<p.size:=R.size▸hj;have nd:p.toList.Nodup:=(UZ.mp R.perm).nodup_iff.mpr (by simpa using List.nodup_range);refine rE (getD_get? ..) (rE (getD_get? ..) (rE (Bi hi) ?_));refine rE (Bi hj) ?_;exact λq=>h ((U1 (h₀:=hi) (h₁:=hj) nd).mp q)
section
variable{f:Nat→Nat→Option Bool}{r:Nat→Nat→Prop}
noncomputable def Up(r:Nat→Nat→Prop)(p:Array Nat)(m:Nat):Prop:=∀i j,i<j→j<m→r (p.getD i 0) (p.getD j 0)
noncomputable def Down(r:Nat→Nat→Prop)(p:Array Nat)(m:Nat):Prop:=∀i j,i<j→j<m→r (p.getD j 0) (p.getD i 0)
theorem QD{R:Nat→Nat→Prop}(ht:∀i j k,R i j→R j k→R i k)(h1:1≤m)(u:∀i j,i<j→j<m→R i j)(q:R (m - 1) m):∀i j,i<j→j<m+1→R i j:=by
 intro i j h h';rcases ah9 (ur h')with e|e
 ·exact u i j h e
 ·subst e;rcases ah9 (Kb h)with e|e
  ·exact ht _ _ _ (u i (j - 1) e (yw h1 (by decide))) q
  ·rw[e];exact q
theorem QE(O:Ord n f r){p:Array Nat}(R:Row n p):∀ (k m:Nat),1≤m→m+k=n→Up r p m→∃m',ml f (kas_asc p k m)=aa m'∧m≤m'∧m'≤n∧Up r p m'∧(m'=m→0<k→r (p.getD m 0) (p.getD (m - 1) 0)):=by
 intro k;induction k with
 |zero=>exact λm h1 h2 u=>⟨m,rfl,bZ _,sG h2,u,λZ h=>absurd h (qF _)⟩
 |succ k ih=>
  intro m h1 h2 u;have lV:m<n:=by rw[← h2];exact aia (AZ k)
  have v7:=yw h1 (by decide:0<1);have hm:=R.lt lV;have tS:=R.lt (ew v7 lV);rcases O.mG _ _ hm tS (R.ne lV (ew v7 lV) (oG v7))with q|q
  ·exact⟨m,(show(f _ _).bind _=_ by refine rE ((O.yes _ _ hm tS q).1) ?_;rfl),bZ _,d4 lV,u,λZ Z=>q⟩
  ·exact BB (ih (m+1) (Bc h1) ((Nat.succ_add m k).trans h2) (QD (R:=λi j=>r (p.getD i 0) (p.getD j 0)) (λZ Z Z=>O.trans _ _ _) h1 u q)) λm' e1 e2 e3 e4 Z=>⟨m',(show(f _ _).bind _=_ by refine rE ((O.yes _ _ tS hm q).2) ?_;exact e1),Eb e2,e3,e4,λh=>absurd h (oG e2)⟩
theorem adm(O:Ord n f r){p:Array Nat}(R:Row n p):∀ (k m:Nat),1≤m→m+k=n→Down r p m→∃m',ml f (kas_desc k p m 0)=aa (p,m',0)∧m≤m'∧m'≤n∧Down r p m':=by
 intro k;induction k with
 |zero=>exact λm h1 h2 u=>⟨m,rfl,bZ _,sG h2,u⟩
 |succ k ih=>
  intro m h1 h2 u;have lV:m<n:=by rw[← h2];exact aia (AZ k)
  have v7:=yw h1 (by decide:0<1);have hm:=R.lt lV;have tS:=R.lt (ew v7 lV);rcases O.mG _ _ hm tS (R.ne lV (ew v7 lV) (oG v7))with q|q
  ·exact gA (ih (m+1) (Bc h1) ((Nat.succ_add m k).trans h2) (QD (R:=λi j=>r (p.getD j 0) (p.getD i 0)) (λZ Z Z a b=>O.trans _ _ _ b a) h1 u q)) λm' e1 e2 e3 e4=>⟨m',(show(f _ _).bind _=_ by refine rE ((O.yes _ _ hm tS q).1) ?_;exact e1),Eb e2,e3,e4⟩
  ·exact⟨m,(show(f _ _).bind _=_ by refine rE ((O.yes _ _ tS hm q).2) ?_;show(f _ _).bind _=_;refine rE ((O.yes _ _ tS hm q).1) ?_;rfl),bZ _,d4 lV,u⟩
theorem QF{p:Array Nat}(hm:m≤p.size)(x:Nat):(kas_rev p 0 m).getD x 0=if x<m then p.getD (m - 1 - x) 0 else p.getD x 0:=by
 refine rE (getD_get? ..) ?_;rewrite[kas_rev];rewrite[getElem?_mirror_all hm];refine rE (getD_get? ..) (rE (getD_get? ..) ?_);by_cases h:x<m
 ·refine rE (if_pos ⟨eo _,h⟩) (rE (if_pos h) ?_);simp only[ll]
 ·exact rE (if_neg λq=>h q.2) (rE (if_neg h) rfl)
theorem adn{p:Array Nat}(R:Row n p)(m:Nat):Row n (kas_rev p 0 m):=⟨(mirror_perm _ _ _ _).trans R.perm⟩
theorem count_is(O:Ord n f r){p:Array Nat}(R:Row n p)(h2:2≤n):∃m p',ml f (kas_count n p)=aa (m,p')∧1≤m∧m≤n∧Row n p'∧Up r p' m:=by
 have u1:Up r p 1:=λi j h h'=>absurd (ia h (ur h')) (Ex _);refine BB (QE O R (n - 1) 1 (bZ _) (aib (d4 h2)) u1) λm e1 e2 e3 e4 e5=>?_;unfold kas_count;refine rE (Ao _ e1) ?_;by_cases h:m=n
 ·exact rE (if_pos (beq_iff_eq.mpr h)) ⟨m,p,rfl,e2,e3,R,e4⟩
 ·refine rE (if_neg (λq=>h (beq_iff_eq.mp q))) ?_;by_cases h1:m>1
  ·refine rE (if_pos h1) ?_;have q:=e4 0 (m - 1) (KV h1) (yw e2 (by decide));refine⟨m,p,(show(f _ _).bind _=_ by refine rE ((O.yes _ _ (R.lt (by lia)) (R.lt (by lia)) q).1) ?_;rfl),e2,e3,R,e4⟩
  ·refine rE (if_neg h1) ?_;clear e4 e3 e1 u1;obtain rfl:m=1:=A2 (Uj h1) e2;have d2:Down r p 2:=λi j h h'=>by clear e2;obtain rfl:j=1:=A2 (ur h') (jj (eo _) h);obtain rfl:i=0:=Nat.lt_one_iff.mp h;exact e5 rfl (by lia)
   refine gA (adm O R (n - 2) 2 (by decide) (aib h2) d2) λm' g1 g2 g3 g4=>?_;unfold kas_descPart;refine rE (Ao _ g1) (rE (if_neg (qF _)) ?_);have R':=adn R m';have u':Up r (kas_rev p 0 m') m':=λi j h h'=>by rewrite[QF (rE R.size g3)];rewrite[QF (rE R.size g3)];refine rE (if_pos (ew h h')) (rE (if_pos h') ?_);exact g4 _ _ (VC h h') (jj (qE ..) (yw (jj (eo _) h') (by decide)))
   refine BB (QE O R' (n - m') m' (by lia) (by lia) u') λm'' k1 k2 k3 k4 Z=>?_;unfold kas_tail3;exact rE (Ao _ k1) ⟨m'',_,rfl,by lia,k3,R',k4⟩
theorem ado{l x:Nat}(h:l<x):l≤(l+x)/2:=(Nat.le_div_iff_mul_le (by decide)).mpr (by rw[Nat.mul_two];exact qJ (d4 h) l)
theorem adp{l x:Nat}(h:l<x):(l+x)/2<x:=(Nat.div_lt_iff_lt_mul (by decide)).mpr (by rw[Nat.mul_two];exact Nat.add_lt_add_right h x)
theorem adq{l x d:Nat}(h1:l≤m)(h2:m<x)(h:x - l≤d+1):m - l≤d:=ahj (by rw[← Nat.succ_sub h1];exact aF (Nat.sub_le_sub_right h2 l) h)
theorem ads{l x d:Nat}(h1:l≤m)(h:x - l≤d+1):x - (m+1)≤d:=aF (Nat.sub_le_sub_left (m7 h1) x) (show x - l - 1≤d from Nat.sub_le_of_le_add h)
theorem adt(O:Ord n f r){p:Array Nat}(R:Row n p)(hk:k<n):∀ (d l x:Nat),l≤x→x≤k→x - l≤d→(∀i,i<l→r (p.getD i 0) (p.getD k 0))→(∀i,x≤i→i<k→r (p.getD k 0) (p.getD i 0))→Up r p k→
  ∃y,ml f (kas_place p k d l x)=aa y∧y≤k∧(∀i,i<y→r (p.getD i 0) (p.getD k 0))∧∀i,y≤i→i<k→r (p.getD k 0) (p.getD i 0):=by
 intro d;induction d with
 |zero=>intro l x h1 h2 h3 a b _;obtain rfl:l=x:=A2 h1 (Eh (Nat.le_zero.mp h3));exact⟨l,rfl,h2,a,b⟩
 |succ d ih=>
  intro l x h1 h2 h3 a b u;unfold kas_place;by_cases h:l≥x
  ·obtain rfl:l=x:=A2 h1 h;exact rE (if_pos h) ⟨l,rfl,h2,a,b⟩
  ·refine rE (if_neg h) ?_;have hl:=ado (TQ h);have hc:=adp (TQ h);have De:=ia hc h2;have lV:=ew De hk;have j9:=R.lt hk;have hm:=R.lt lV;rcases O.mG _ _ j9 hm (R.ne hk lV (oG De))with q|q
   ·refine xE (ih l ((l+x)/2) hl (d4 De) (adq hl hc h3) a (λi h h'=>by
     by_cases z:i=(l+x)/2
     ·exact rE z q
     ·exact O.trans _ _ _ q (u _ _ (aic h (Eu z)) h')) u) λy e=>?_
    exact⟨y,(show(f _ _).bind _=_ by refine rE ((O.yes _ _ j9 hm q).1) ?_;exact e.1),e.2⟩
   ·refine xE (ih ((l+x)/2+1) x hc h2 (ads hl h3) (λi h=>by
     by_cases z:i=(l+x)/2
     ·exact rE z q
     ·exact O.trans _ _ _ (u i _ (aic (ur h) z) De) q) b u) λy e=>?_
    exact⟨y,(show(f _ _).bind _=_ by refine rE ((O.yes _ _ hm j9 q).2) ?_;exact e.1),e.2⟩
theorem adu{p:Array Nat}{y:Nat}(hk:k<p.size)(hy:y≤k)(x:Nat):(bubble p k (k - y)).getD x 0=if x=y then p.getD k 0 else if y<x∧x≤k then p.getD (x - 1) 0 else p.getD x 0:=by
 refine rE (getD_get? ..) ?_;rewrite[getElem?_bubble hk _ (qE _ _)];refine rE (Nat.sub_sub_self hy) ?_;by_cases a:x=y
 ·exact rE (if_pos a) (rE (if_pos a) (rS (getD_get? ..) rfl))
 ·refine rE (if_neg a) (rE (if_neg a) ?_);by_cases b:y<x∧x≤k
  ·exact rE (if_pos b) (rE (if_pos b) (rS (getD_get? ..) rfl))
  ·exact rE (if_neg b) (rE (if_neg b) (rS (getD_get? ..) rfl))
theorem adv(O:Ord n f r):∀ (d:Nat) (p:Array Nat) (k:Nat),Row n p→1≤k→k+d=n→Up r p k→∃p',ml f (kas_bin d p k)=aa p'∧Row n p'∧Up r p' n:=by
 intro d;induction d with
 |zero=>exact λp k R h1 h2 u=>⟨p,rfl,R,by refine rS h2 ?_;exact u⟩
 |succ d ih=>
  intro p k R h1 h2 u;have hk:k<n:=by lia
  refine gA (adt O R hk k 0 k (eo _) (bZ _) (by lia) (λi h=>absurd h (Ex _)) (λi h h'=>absurd h (by lia)) u) λy e1 e2 e3 e4=>?_;have hb:=adu (p:=p) (k:=k) (y:=y) (rE R.size hk) e2;have u':Up r (bubble p k (k - y)) (k+1):=λi j h h'=>by
   refine rE (hb ..) (rE (hb ..) ?_);have hj:=ur h';have IG:=ia (yw (jj (eo _) h) (by decide:0<1)) hj;rcases aid i y with a|a|a
   ·refine rE (if_neg (iU a)) (rE (if_neg λc=>Nat.lt_asymm a c.1) ?_);rcases aid j y with b|b|b
    ·exact rE (if_neg (iU b)) (rE (if_neg λc=>Nat.lt_asymm b c.1) (u _ _ h (ia b e2)))
    ·exact rE (if_pos b) (e3 _ a)
    ·exact rE (if_neg (oG b)) (rE (if_pos ⟨b,hj⟩) (u _ _ (ia a (Kb b)) IG))
   ·have b:y<j:=a▸h;exact rE (if_pos a) (rE (if_neg (oG b)) (rE (if_pos ⟨b,hj⟩) (e4 _ (Kb b) IG)))
   ·have b:=ew a h;refine rE (if_neg (oG a)) (rE (if_pos ⟨a,aF (d4 h) hj⟩) (rE (if_neg (oG b)) (rE (if_pos ⟨b,hj⟩) ?_)));exact u _ _ (Nat.sub_lt_sub_right (jj (eo _) a) h) IG
  refine j8 (ih _ (k+1) ⟨(bubble_perm _ _ _).trans R.perm⟩ (by lia) (by lia) u') λp' g1 g2 g3=>⟨p',?_,g2,g3⟩;unfold kas_bin;exact rE (Ao _ e1) g1
theorem adw(O:Ord n f r)(h2:2≤n):∃p,ml f (kas_sort n)=aa p∧Row n p∧Up r p n:=by
 obtain⟨m,p,e1,e2,e3,R,u⟩:=count_is O (p:=(bM n).toArray) ⟨.refl _⟩ h2;unfold kas_sort;refine rE (Ao _ e1) ?_;by_cases h:m<n
 ·refine rE (if_pos h) (rE (Nat.max_eq_left e2) ?_);exact adv O (n - m) p m R e2 (by lia) u
 ·refine rE (if_neg h) ?_;obtain rfl:m=n:=by lia
  exact⟨p,rfl,R,u⟩
end
end
theorem jT(h:i≠j):az i j=ag:=by
 induction q:az i j with
 |true=>exact absurd (fZ q) h
 |false=>rfl
noncomputable def QG(b:Bool):bA→bA
 | .own xs=>cond b (.val (.list xs)) (.own xs)
 |s=>s
theorem Ap(is:ax):∀ (ρ:aM) (j:Nat),get (dX is ρ) j=(get ρ j).map (QG (is.any (az j))):=by
 intro L0;induction L0 with
 |nil=>intro _;exact rfl
 |cons cx r ih=>
  obtain⟨i,s⟩:=cx;intro j;have ih:=ih j;refine rE (pH ..) ?_;induction s<;>(
   show cond (az i j) _ (get (dX is r) j)=_;induction h:az i j with
   |false=>exact ih
   |true=>first|rfl| (refine rS (fZ h) ?_;show aa (cond (is.any (az i)) _ _)=aa (QG (is.any (az i)) _);cases is.any (az i)<;>rfl))
theorem adx(is:ax):∀ (ρ:aM) (j:Nat),get (rem is ρ) j=if is.any (az j)then af else get ρ j:=by
 intro L0;induction L0 with
 |nil=>intro _;simp[Vv,EX,uJ,pH]
 |cons cx r ih=>
  obtain⟨i,s⟩:=cx;intro j;have ih:=ih j;refine rE (EX ..) ?_;induction h:is.any (az i)with
  |true=>
   show get (rem is r) j=_;refine rE ih ?_;induction hi:az i j with
   |true=>have:=fZ hi;subst this;simp[h]
   |false=>show _=if _ then af else cond (az i j) (aa s) (get r j);refine rE hi ?_;rfl
  |false=>
   show cond (az i j) (aa s) (get (rem is r) j)=if _ then af else cond (az i j) (aa s) (get r j)
   refine rE ih ?_;induction hi:az i j with
   |true=>have:=fZ hi;subst this;simp[h]
   |false=>rfl
theorem lW(a:α)(f:α→W β):W.bind (aa (a,ae)) f=f a:=by
 show(match f a with|none=>af|some (b,oH)=>aa (b,ae&&oH))=f a;induction f a with
 |none=>rfl
 |some p=>simp
theorem du(a:α){ok:Bool}(h:ok):W.need a ok=aa (a,ae):=by refine rE h ?_;rfl
theorem pa{f:D→aM→Hs→W Fl}{x:D}{xs:List D}{hs':Hs}(h:f x ρ hs=aa (.next ρ' hs',ae)):dE f (x::xs) ρ hs=dE f xs ρ' hs':=by show W.bind (f x ρ hs) _=_;exact rE h (rE (lW ..) rfl)
theorem QH:∀ (n i:Nat),kM i n=(pG i n).map λk=>.int (k:Int):=by
 intro L0;induction L0 with
 |zero=>intro _;exact rfl
 |succ n ih=>intro i;refine rE (Vw ..) (rE (ih (i+1)) ?_);rfl
noncomputable def S(l:ax):D:=.str (aj l)
theorem v8(l:ax):sL (aj l)=l:=rfl
theorem tT:∀l:ax,lEq l l:=by
 intro L0;induction L0 with
 |nil=>exact rfl
 |cons x l ih=>exact rE (Lc ..) (rE (nh ..) (rE (cond_true ..) ih))
theorem Df{x y:ax}(h:x≠y):lEq x y=ag:=by
 induction q:lEq x y with
 |true=>exact absurd (lEq_iff.mp q) h
 |false=>rfl
theorem gN{s:bA}{o:Option bA}(h:az i j=ag)(g:get ρ j=o):get (put ρ i s) j=o:=by refine rE (fS s (λq=>by replace h:=q▸h;replace h:=(nh ..)▸h;exact zT h) ρ) ?_;exact g
theorem gS{s:bA}:get (put ρ i s) i=aa s:=kX i s ρ
section
variable{hs':Hs}
theorem Aq{xs:List D}(h:get ρ i=aa (.own xs)):nC ρ i=aa xs:=by unfold nC;refine rE h ?_;rfl
theorem xX(h:get ρ i=aa (.cU j)):w5 ρ i=aa j:=by unfold w5;refine rE h ?_;rfl
theorem eK(h:get ρ i=aa (.val d)):jJ ρ i=aa d:=by unfold jJ nC pJ;refine rE h ?_;rfl
theorem IH{xs:List D}(h:get ρ i=aa (.own xs)):jJ ρ i=aa (.list xs):=by unfold jJ;exact rE (Aq h) rfl
theorem cA{m:Option α}{f:α→Option β}{a:α}(h:m=aa a):m.bind f=f a:=by refine rE h ?_;rfl
theorem aK(d:D):ev tk C hs (.lit d) ρ=aa (d,ae):=rfl
theorem bk{op:mc}{a b:RE}{x z:D}(h1:ev tk C hs a ρ=aa (x,ae))(h2:ev tk C hs b ρ=aa (y,ae))(h:j7 op x y=aa (z,ae)):ev tk C hs (.bin op a b) ρ=aa (z,ae):=OW h1 h2 h
theorem qm{c a b:RE}{q:Bool}(h:ev tk C hs c ρ=aa (d,ae))(t:truthy d=aa q):ev tk C hs (.ite c a b) ρ=cond q (ev tk C hs a ρ) (ev tk C hs b ρ):=by show W.bind (ev tk C hs c ρ) _=_;refine rE h (rE (lW ..) (rE t ?_));rfl
theorem QI{c a b:RE}{m:W D}(h:ev tk C hs c ρ=aa (d,ae))(t:truthy d=aa ae)(r:ev tk C hs a ρ=m):ev tk C hs (.ite c a b) ρ=m:=(qm h t).trans r
theorem II{c a b:RE}{m:W D}(h:ev tk C hs c ρ=aa (d,ae))(t:truthy d=aa ag)(r:ev tk C hs b ρ=m):ev tk C hs (.ite c a b) ρ=m:=(qm h t).trans r
theorem IJ{a b:RE}{q:Bool}(h:ev tk C hs a ρ=aa (d,ae))(t:truthy d=aa q):ev tk C hs (.or a b) ρ=cond q (aa (d,ae)) (ev tk C hs b ρ):=by show W.bind (ev tk C hs a ρ) _=_;refine rE h (rE (lW ..) (rE t ?_));rfl
theorem IK{a b:RE}{m:W D}(h:ev tk C hs a ρ=aa (d,ae))(t:truthy d=aa ag)(r:ev tk C hs b ρ=m):ev tk C hs (.or a b) ρ=m:=(IJ h t).trans r
theorem Dg{a b:RE}{m:W D}(h:ev tk C hs a ρ=aa (d,ae))(t:truthy d=aa ae)(r:ev tk C hs b ρ=m):ev tk C hs (.and a b) ρ=m:=by show W.bind (ev tk C hs a ρ) _=_;exact rE h (rE (lW ..) (rE t r))
theorem IM{a b:RE}{q:Bool}(h:ev tk C hs a ρ=aa (d,ae))(t:truthy d=aa q):ev tk C hs (.and a b) ρ=cond q (ev tk C hs b ρ) (aa (d,ae)):=by show W.bind (ev tk C hs a ρ) _=_;refine rE h (rE (lW ..) (rE t ?_));rfl
theorem IP{a:RE}(h:ev tk C hs a ρ=aa (d,ae)):ev tk C hs (.uL a) ρ=aa (.bool (Bw d),ae):=W.aS h rfl
theorem tU{a b:RE}{x z:D}(h1:ev tk C hs a ρ=aa (x,ae))(h2:ev tk C hs b ρ=aa (y,ae))(h:kL x y=aa (z,ae)):ev tk C hs (.sub a b) ρ=aa (z,ae):=W.aS h1 (W.aS h2 h)
theorem kB{v:Nat}{x:D}(g:jJ ρ v=aa x)(h:sW x=aa (y,ae)):ev tk C hs (.bL v) ρ=aa (y,ae):=(cA g).trans h
theorem jU{v:Nat}{l u s:RO}{x:D}{i j k:Option Int}(g:jJ ρ v=aa x)(h1:kN tk C hs l ρ=aa (i,ae))(h2:kN tk C hs u ρ=aa (j,ae))(h3:kN tk C hs s ρ=aa (k,ae))(h:nz x i j k=aa (y,ae)):ev tk C hs (.cw v l u s) ρ=aa (y,ae):=
 (cA g).trans (W.aS h1 (W.aS h2 (W.aS h3 h)))
theorem ee:kN tk C hs .none ρ=aa (af,ae):=rfl
theorem gX{a:RE}{i:Int}(h:ev tk C hs a ρ=aa (.int i,ae)):kN tk C hs (.some a) ρ=aa (aa i,ae):=W.aS h rfl
theorem di:eD tk C hs .nil ρ=aa ([],ae):=rfl
theorem bI{a:RE}{es:bf}{x:D}{xs:List D}(h1:ev tk C hs a ρ=aa (x,ae))(h2:eD tk C hs es ρ=aa (xs,ae)):eD tk C hs (.cons a es) ρ=aa (x::xs,ae):=W.aS h1 (W.aS h2 rfl)
theorem fG{es:bf}{xs:List D}(h:eD tk C hs es ρ=aa (xs,ae)):ev tk C hs (.list es) ρ=aa (.list xs,ae):=W.aS h rfl
theorem tV{es:bf}{xs:List D}(h:eD tk C hs es ρ=aa (xs,ae)):ev tk C hs (.tup es) ρ=aa (.tuple xs,ae):=W.aS h rfl
theorem IQ{f:Nat}{es:bf}{xs:List D}(h:eD tk C hs es ρ=aa (xs,ae)):ev tk C hs (.call f es) ρ=C f xs:=by show W.bind (eD tk C hs es ρ) _=_;exact rE h (rE (lW ..) rfl)
theorem QJ{p:Prim}{es:bf}{xs:List D}(h:eD tk C hs es ρ=aa (xs,ae)):ev tk C hs (.prim p es) ρ=gT p xs:=by show W.bind (eD tk C hs es ρ) _=_;exact rE h (rE (lW ..) rfl)
theorem qo{f:Nat}{a:RE}{x:D}(h1:ev tk C hs a ρ=aa (x,ae)):ev tk C hs (.call f (.cons a .nil)) ρ=C f [x]:=IQ (bI h1 di)
theorem IS{f:Nat}{a b:RE}{x:D}(h1:ev tk C hs a ρ=aa (x,ae))(h2:ev tk C hs b ρ=aa (y,ae)):ev tk C hs (.call f (.cons a (.cons b .nil))) ρ=C f [x,y]:=IQ (bI h1 (bI h2 di))
theorem v9{f:Nat}{a b c:RE}{x z:D}(h1:ev tk C hs a ρ=aa (x,ae))(h2:ev tk C hs b ρ=aa (y,ae))(h3:ev tk C hs c ρ=aa (z,ae)):ev tk C hs (.call f (.cons a (.cons b (.cons c .nil)))) ρ=C f [x,y,z]:=IQ (bI h1 (bI h2 (bI h3 di)))
theorem gI{p:Prim}{a:RE}{x:D}{r:W D}(h1:ev tk C hs a ρ=aa (x,ae))(h:gT p [x]=r):ev tk C hs (.prim p (.cons a .nil)) ρ=r:=(QJ (bI h1 di)).trans h
theorem Ar{p:Prim}{a b:RE}{x:D}{r:W D}(h1:ev tk C hs a ρ=aa (x,ae))(h2:ev tk C hs b ρ=aa (y,ae))(h:gT p [x,y]=r):ev tk C hs (.prim p (.cons a (.cons b .nil))) ρ=r:=(QJ (bI h1 (bI h2 di))).trans h
theorem ady{a b:RE}{x:ax}(h1:ev tk C hs a ρ=aa (S x,ae))(h2:ev tk C hs b ρ=aa (y,ae)):ev tk C hs (.tok a b) ρ=aa (mj tk (aj x) y,ae):=W.aS h1 (W.aS h2 rfl)
theorem Dh{e:RE}{x:D}{xs:List D}(h:ev tk C hs e ρ=aa (x,ae))(q:ny x=aa xs):fP tk C hs (.data e) ρ=aa (xs,ae):=W.aS h ((cA q).trans rfl)
theorem adz{e:RE}{i:Int}(h:ev tk C hs e ρ=aa (.int i,ae))(q:aU i.natAbs 1000000):fP tk C hs (.dy e) ρ=aa (kM 0 i.toNat,ae):=W.aS h (du _ q)
theorem bq{s:RS}{ss:bP}(h:ex tk C CH s ρ hs=aa (.next ρ' hs',ae)):cb tk C CH (.cons s ss) ρ hs=cb tk C CH ss ρ' hs':=by show W.bind (ex tk C CH s ρ hs) _=_;exact rE h (rE (lW ..) rfl)
theorem gZ{s:RS}{ss:bP}(h:ex tk C CH s ρ hs=aa (.ret d hs',ae)):cb tk C CH (.cons s ss) ρ hs=aa (.ret d hs',ae):=W.aS h rfl
theorem jx:cb tk C CH .nil ρ hs=aa (.next ρ hs,ae):=rfl
theorem c7{e:RE}(h:ev tk C hs e ρ=aa (d,ae)):ex tk C CH (.asg i e) ρ hs=aa (.next (put ρ i (.val d)) hs,ae):=W.aS h rfl
theorem QK{c:RE}{a b:bP}{q:Bool}(h:ev tk C hs c ρ=aa (d,ae))(t:truthy d=aa q):ex tk C CH (.ite c a b) ρ hs=cond q (cb tk C CH a ρ hs) (cb tk C CH b ρ hs):=by show W.bind (ev tk C hs c ρ) _=_;refine rE h (rE (lW ..) (rE t ?_));rfl
theorem ij{c:RE}{a b:bP}{m:W Fl}(h:ev tk C hs c ρ=aa (d,ae))(t:truthy d=aa ae)(r:cb tk C CH a ρ hs=m):ex tk C CH (.ite c a b) ρ hs=m:=(QK h t).trans r
theorem fH{c:RE}{a b:bP}{m:W Fl}(h:ev tk C hs c ρ=aa (d,ae))(t:truthy d=aa ag)(r:cb tk C CH b ρ hs=m):ex tk C CH (.ite c a b) ρ hs=m:=(QK h t).trans r
theorem qp{e:RE}(h:ev tk C hs e ρ=aa (d,ae)):ex tk C CH (.ret e) ρ hs=aa (.ret d hs,ae):=W.aS h rfl
theorem Di{t:jl}{it:RI}{b:bP}{xs:List D}(h:fP tk C hs it ρ=aa (xs,ae)):ex tk C CH (.loop t it b) ρ hs=dE (λx ρ hs=>(eU t x ρ).bind λρ'=>cb tk C CH b ρ' hs) xs ρ hs:=by show W.bind (fP tk C hs it ρ) _=_;exact rE h (rE (lW ..) rfl)
theorem xY{e:RE}{xs:List D}(g:get ρ i=aa (.own xs))(h:ev tk C hs e ρ=aa (d,ae))(hl:xs.length<1000000):ex tk C CH (.app i e) ρ hs=aa (.next (put ρ i (.own (xs++[d]))) hs,ae):=
 (cA (Aq g)).trans (W.aS h (W.aS (du () (show aU xs.length 1000000 from bO hl)) rfl))
theorem Dj{e:RE}{op:mc}{x z:D}(g:get ρ i=aa (.val x))(hl:d7 x=af)(h:ev tk C hs e ρ=aa (y,ae))(ho:j7 op x y=aa (z,ae)):ex tk C CH (.aug i op e) ρ hs=aa (.next (put ρ i (.val z)) hs,ae):=by refine(cA (OV g)).trans (W.aS h ?_);exact rE hl (W.aS ho rfl)
theorem QL{e:RE}{x:D}{xs:List D}(h:ev tk C hs e ρ=aa (x,ae))(q:ny x=aa xs)(u:uV is xs ρ=aa ρ'):ex tk C CH (.uS is e) ρ hs=aa (.next ρ' hs,ae):=
 W.aS h ((cA q).trans ((cA u).trans rfl))
theorem QM{ts:List RT}{sl:List bA}(h:lC tk C ts ρ hs=aa ((sl,hs'),ae))(u:yX is sl ρ=aa ρ'):ex tk C CH (.mul is ts) ρ hs=aa (.next ρ' hs',ae):=W.aS h ((cA u).trans rfl)
theorem adA:lC tk C [] ρ hs=aa (([],hs),ae):=rfl
theorem QN{e:RE}{ts:List RT}{sl:List bA}(h:ev tk C hs e ρ=aa (d,ae))(r:lC tk C ts ρ hs=aa ((sl,hs'),ae)):lC tk C (.val e::ts) ρ hs=aa ((.val d::sl,hs'),ae):=W.aS h (W.aS r rfl)
theorem cJ{s:RS}(h:ex tk C CH s ρ hs=aa (.next ρ' hs',ae)):cb tk C CH (.cons s .nil) ρ hs=aa (.next ρ' hs',ae):=bq h
end
theorem oa{f:Nat}{args:List D}{fn:Fn}(hf:aH f=aa fn)(hp:oM fn.params args []=aa ρ)(h:cb tok (run tok aH n) af fn.body ρ []=aa (.ret d hs,ae)):run tok aH (n+1) f args=aa (d,ae):=
 (cA hf).trans ((cA hp).trans (W.aS h rfl))
theorem adB(n:Nat)(x:Int):run tok aH (n+1) 2 [.int x]=aa (.bool (decide (x<256)),ae):=oa rfl rfl (hs:=[]) (by kernel_rfl)
theorem adC(n:Nat)(x:Int):run tok aH (n+1) 3 [.int x]=aa (.bool (decide (x≥256)),ae):=oa rfl rfl (hs:=[]) (by kernel_rfl)
theorem adD(n:Nat)(x:Int):run tok aH (n+1) 4 [.int x]=aa (.bool (x == 0),ae):=oa rfl rfl (hs:=[]) (by kernel_rfl)
noncomputable def iM:Bool→List Nat→Bool
 |b,[]=>b
 |true,_::cs=>iM ag cs
 |false,c::cs=>iM (az c 92) cs
theorem xZ:∀ (l rest:ax) (i:Nat) (b:Bool),iM b l=ag→bV i b (l++rest)=bV i b l++bV (i+l.length) ag rest
 | [],rest,i,b,h=>by have h:b=ag:=h;subst h;rfl
 |c::cs,rest,i,ae,h=>by have ih:=xZ cs rest (i+1) ag h;show(i,[92,c])::bV (i+1) ag (cs++rest)=(i,[92,c])::bV (i+1) ag cs++_;refine rE ih (rE bT (rE (Bl cs.length 1) (rS (Bm ..) ?_)));rfl
 |c::cs,rest,i,ag,h=>by
  have h:iM (az c 92) cs=ag:=h;show cond (az c 92) (bV (i+1) ae (cs++rest)) ((i,[c])::bV (i+1) ag (cs++rest))=cond (az c 92) (bV (i+1) ae cs) ((i,[c])::bV (i+1) ag cs)++_;refine rE bT (rE (Bl cs.length 1) (rS (Bm ..) ?_));induction hc:az c 92 with
  |true=>replace h:=hc▸h;exact xZ cs rest (i+1) ae h
  |false=>replace h:=hc▸h;refine rE (cond_false ..) (rE (cond_false ..) (rE (xZ cs rest (i+1) ag h) ?_));rfl
noncomputable def dG:Bool→List Nat→List (List Nat)
 |false,[]=>[]
 |true,[]=>[[92]]
 |true,c::cs=>[92,c]::dG ag cs
 |false,c::cs=>cond (az c 92) (dG ae cs) ([c]::dG ag cs)
theorem QO(c:Nat)(cs:ax):dG ag (c::cs)=bif az c 92 then dG ae cs else [c]::dG ag cs:=rfl
theorem r5:∀ (l:ax) (i:Nat) (b:Bool),(bV i b l).map (·.2)=dG b l:=by
 intro l;induction l with
 |nil=>intro i b;induction b<;>rfl
 |cons c cs ih=>
  intro i b;induction b with
  |true=>exact congrArg _ (ih (i+1) ag)
  |false=>
   show(cond (az c 92) (bV (i+1) ae cs) ((i,[c])::bV (i+1) ag cs)).map (·.2)=cond (az c 92) (dG ae cs) ([c]::dG ag cs);induction az c 92 with
   |true=>exact ih (i+1) ae
   |false=>exact congrArg _ (ih (i+1) ag)
theorem adE:∀ (l:ax) (i:Nat) (b:Bool),∀u∈bV i b l,u.1<i+l.length+1:=by
 intro l;induction l with
 |nil=>
  intro i b u h;induction b with
  |false=>exact nomatch h
  |true=>exact rE (dK.mp h) (EN (qE i 1))
 |cons c cs ih=>
  intro i b u h;have e:i+(c::cs).length+1=i+1+cs.length+1:=congrArg (· +1) (Ke i _ 1);have h0:i<i+1+cs.length+1:=EN (aF (wO i) (nj ..));refine rE e ?_;induction b with
  |true=>exact(bE.mp h).elim (λe=>by refine rE e ?_;exact h0) (ih (i+1) ag u)
  |false=>
   replace h:=(EY ..)▸h;induction hc:az c 92 with
   |true=>replace h:=hc▸h;exact ih (i+1) ae u h
   |false=>replace h:=hc▸h;exact(bE.mp h).elim (λe=>by refine rE e ?_;exact h0) (ih (i+1) ag u)
theorem adF:∀ (l:ax) (i:Nat) (b:Bool),(bV i b l).length≤l.length+1:=by
 intro l;induction l with
 |nil=>intro i b;cases b;exact eo _;exact bZ _
 |cons c cs ih=>
  intro i b;induction b with
  |true=>exact m7 (ih (i+1) ag)
  |false=>
   refine rE (EY ..) ?_;induction az c 92 with
   |true=>exact Bc (ih (i+1) ae)
   |false=>exact m7 (ih (i+1) ag)
theorem adG{x:Nat}:∀ (l:ax) (b:Bool),x∉l→x≠92→[x]∉dG b l:=by
 intro l;induction l with
 |nil=>intro b _ h;cases b;exact nofun;exact λq=>h (jh (dK.mp q)).1
 |cons c cs ih=>
  intro b hn h;have hm:x∉cs:=λq=>hn (cf _ q);induction b with
  |true=>exact λq=>(bE.mp q).elim (λe=>zC (jh e).2) (ih ag hm h)
  |false=>
   refine rE (QO ..) ?_;induction az c 92 with
   |true=>exact ih ae hm h
   |false=>exact λq=>(bE.mp q).elim (λe=>hn (rE ((jh e).1) bG)) (ih ag hm h)
structure St where
 a:Nat
 o:Option Nat
 r:List (List Nat)
noncomputable def dY(full:ax)(st:St)(u:Nat × List Nat):St:=
 if u.2=[34]then match st.o with
  |none=>⟨st.a,aa u.1,st.r⟩
  |some o=>⟨u.1+1,af,if st.a=o then st.r else st.r++[(full.take o).drop st.a]⟩
 else st
theorem As(full:ax):∀ (us:List (Nat × List Nat)) (st:St),[34]∉us.map (·.2)→us.foldl (dY full) st=st:=by
 intro L0;induction L0 with
 |nil=>intro _ _;exact rfl
 |cons u us ih=>intro st h;simp only[iT,bE,not_or]at h;refine rE sF (rE (show dY full st u=st from if_neg λq=>h.1 q.symm) ?_);exact ih st h.2
noncomputable def kC(full:ax):List Nat:=let st:=(bV 0 ag full).foldl (dY full) ⟨0,af,[]⟩;st.r.flatten++full.drop st.a
structure hN where
 q:Bool
 l:List Nat
noncomputable def hN.txt(b:hN):List Nat:=cond b.q (34::(b.l++[34])) b.l
noncomputable def hN.bare(b:hN):List Nat:=cond b.q [] b.l
structure hN.Ok(b:hN):Prop where
 e:iM ag b.l=ag
 n:[34]∉dG ag b.l
structure x6(T B:ax)(st:St):Prop where
 o:st.o=af
 le:st.a≤T.length
 t:st.r.flatten++T.drop st.a=B
set_option tactic.hygienic true in
theorem adH{b:hN}(k:b.Ok){T B R:ax}{st:St}(h:x6 T B st):x6 (T++b.txt) (B++b.bare) ((bV T.length ag b.txt).foldl (dY (T++b.txt++R)) st):=by
 obtain⟨q,l⟩:=b;obtain⟨k1,k2⟩:=k;obtain⟨a,o,r⟩:=st;obtain⟨h1,h2,h3⟩:=h;dsimp only at k1 k2 h1 h2 h3;subst h1;induction q with
 |false=>show x6 (T++l) (B++l) ((bV T.length ag l).foldl (dY (T++l++R)) _);exact rE (As _ _ _ (rE (r5 ..) k2)) ⟨rfl,by simp;lia,by show r.flatten++(T++l).drop a=_;refine rE (U2 h2) ?_;refine rS (d5 ..) ?_;exact rE h3 rfl⟩
 |true=>
  show x6 (T++(34::(l++[34]))) (B++[]) ((bV T.length ag (34::(l++[34]))).foldl (dY (T++(34::(l++[34]))++R)) _);have e1:bV T.length ag (34::(l++[34]))=(T.length,[34])::(bV (T.length+1) ag l++[(T.length+1+l.length,[34])]):=by show(T.length,[34])::bV (T.length+1) ag (l++[34])=_;refine rE (xZ l [34] (T.length+1) ag k1) ?_;rfl
  refine rE e1 (rE sF (rE aie ?_));have e2:∀full,dY full ⟨a,af,r⟩ (T.length,[34])=⟨a,aa T.length,r⟩:=λfull=>rfl;refine rE (e2 ..) (rE (As _ (bV (T.length+1) ag l) _ (rE (r5 ..) k2)) (rE sF (rE List.foldl_nil ?_)));have e3:dY (T++(34::(l++[34]))++R) ⟨a,aa T.length,r⟩ (T.length+1+l.length,[34])=⟨T.length+1+l.length+1,af,if a=T.length then r else r++[((T++(34::(l++[34]))++R).take T.length).drop a]⟩:=rfl;refine rE e3 (rE (eg ..) ?_);refine⟨rfl,by simp;lia,?_⟩;show(if a=T.length then r else r++[((T++(34::(l++[34]))++R).take T.length).drop a]).flatten++(T++(34::(l++[34]))).drop (T.length+1+l.length+1)=B;have e4:(T++(34::(l++[34]))).drop (T.length+1+l.length+1)=[]:=AU (by simp;lia);refine rE e4 (rE (eg ..) ?_);rewrite[d5 T];refine rE (Bo rfl) ?_;split
  ·rename_i q;exact rS h3 (rE q (rE (AU (bZ _)) (rE (eg ..) rfl)))
  ·refine rS h3 ?_;simp
noncomputable def eN(bs:List hN):List Nat:=bs.flatMap hN.txt
noncomputable def lh(bs:List hN):List Nat:=bs.flatMap hN.bare
theorem Au:∀ (l m:ax) (b:Bool),iM b (l++m)=iM (iM b l) m
 | [],_,_=>rfl
 |c::cs,m,ae=>Au cs m ag
 |c::cs,m,ag=>Au cs m (az c 92)
theorem hN.Ok.txt{b:hN}(k:b.Ok):iM ag b.txt=ag:=by
 obtain⟨q,l⟩:=b;induction q with
 |false=>exact k.e
 |true=>show iM ag (34::(l++[34]))=ag;show iM ag (l++[34])=ag;refine rE (Au ..) (rE (show iM ag l=ag from k.e) ?_);rfl
theorem QP:∀ (bs:List hN) (T B R:ax) (st:St),(∀b∈bs,b.Ok)→x6 T B st→∃kc,x6 (T++eN bs) (B++lh bs) kc∧∀rest,(bV T.length ag (eN bs++rest)).foldl (dY (T++(eN bs++R))) st=(bV (T.length+(eN bs).length) ag rest).foldl (dY (T++(eN bs++R))) kc:=by
 intro bs;induction bs with
 |nil=>exact λT B R st Z h=>⟨st,by simpa[eN,lh]using h,λrest=>rfl⟩
 |cons b bs ih=>
  intro T B R st hk h;have kb:=hk b bG;have h1:=adH (R:=eN bs++R) kb h;refine aD (ih (T++b.txt) (B++b.bare) R _ (λc hc=>hk c (cf _ hc)) h1) λkc h2 h3=>?_;have et:eN (b::bs)=b.txt++eN bs:=rfl;have eb:lh (b::bs)=b.bare++lh bs:=rfl;refine⟨kc,by refine rE et ?_;refine rE eb ?_;refine rS (d5 ..) ?_;refine rS (d5 ..) ?_;exact h2,λrest=>?_⟩;have:=h3 rest;replace this:=bt▸this;refine rE et ?_;have e1:T++(b.txt++eN bs++R)=T++b.txt++(eN bs++R):=by simp only[d5]
  refine rE e1 ?_;rewrite[d5 b.txt];refine rE (xZ b.txt _ _ _ kb.txt) (rE aie (rE (bt (as:=b.txt)) (rS (Bm ..) ?_)));exact this
theorem QQ{bs:List hN}(hk:∀b∈bs,b.Ok){e:ax}(he:[34]∉dG ag e):kC (eN bs++e)=lh bs++e:=by obtain⟨kc,⟨h1,h2,h3⟩,h4⟩:=QP bs [] [] e ⟨0,af,[]⟩ hk ⟨rfl,eo _,rfl⟩;have:=h4 e;replace this:=nc▸(EO ..)▸this;unfold kC;dsimp only;refine rE this (rE (As _ _ _ (rE (r5 ..) he)) ?_);rw[EO]at h2 h3;refine rE (U2 h2) (rS (d5 ..) (rE h3 ?_));rfl
theorem QR{bs:List hN}(hk:∀b∈bs,b.Ok){e:ax}(he:[34]∉dG ag e):kC (eN bs++34::e)=lh bs++34::e:=by
 obtain⟨kc,⟨h1,h2,h3⟩,h4⟩:=QP bs [] [] (34::e) ⟨0,af,[]⟩ hk ⟨rfl,eo _,rfl⟩;have:=h4 (34::e);replace this:=nc▸(EO ..)▸this;unfold kC;dsimp only;refine rE this (rE (show bV (0+(eN bs).length) ag (34::e)=(0+(eN bs).length,[34])::bV (0+(eN bs).length+1) ag e from rfl) (rE sF (rE (As _ _ _ (rE (r5 ..) he)) ?_)));have hs:dY (eN bs++34::e) kc (0+(eN bs).length,[34])=⟨kc.a,aa (0+(eN bs).length),kc.r⟩:=by unfold dY;exact rE (if_pos rfl) (rE h1 rfl)
 rw[EO]at h2 h3;refine rE hs ?_;show kc.r.flatten++(eN bs++34::e).drop kc.a=_;refine rE (U2 h2) (rS (d5 ..) (rE h3 ?_));rfl
theorem adI{l:ax}(h:34∉l):kC l=l:=by unfold kC;refine rE (As _ _ _ (rE (r5 ..) (adG l ag h (by decide)))) ?_;rfl
theorem adJ(c:Nat):∀l:ax,nt [c] l↔c∈l:=by
 intro l;induction l with
 |nil=>exact⟨(nomatch ·),(nomatch ·)⟩
 |cons y r ih=>
  have e:nt [c] (y::r)=cond (cond (az c y) ae ag) ae (nt [c] r):=by show cond (cond (az c y) (qV [] r) ag) ae (nt [c] r)=_;induction r<;>rfl
  refine rE e ?_;rw[bE];induction q:az c y with
  |true=>exact⟨λZ=>.inl (fZ q),λZ=>rfl⟩
  |false=>exact ih.trans ⟨.inr,λh=>h.resolve_left λh=>by replace q:=h▸q;replace q:=(nh ..)▸q;exact zT q⟩
theorem Av(h:k<1000000000):lz (aa (k:Int)):=by show(decide (0≤(k:Int))&&aU k 1000000000);exact rE (decide_eq_true (jf k)) (bO h)
theorem IT(h:k<1000000000):uO (aa (k:Int)):=bO h
theorem adK:∀l:cP,Bz (l.map S)=aa (l.map aj):=by
 intro l;induction l with
 |nil=>rfl
 |cons x r ih=>exact(cA ih)
theorem adL:∀l:cP,lA [] l=l.flatten:=by
 intro l;induction l with
 |nil=>rfl
 |cons x r ih=>
  induction r using bj with
  |nil=>exact(eg x).symm
  |cons y r=>show x++[]++lA [] (y::r)=x++(y::r).flatten;exact rE ih (rE (eg ..) rfl)
theorem adM(c:Nat):∀ (l:cP) (n:Nat),(l.map aj).foldl (λn y=>n+(sL y).length+c) n=n+l.flatten.length+c * l.length:=by
 intro l;induction l with
 |nil=>exact λn=>rfl
 |cons x r ih=>intro n;refine rE iT (rE sF (rE (ih ..) (rE K3 (rE bt (rE bT (rE (uu ..) (rE (v8 ..) ?_)))))));lia
theorem adN(s:ax)(l:cP)(h:l.flatten.length+s.length * l.length≤1000000):gT .join [S s,.list (l.map S)]=aa (S (lA s l),ae):=by
 have e:(l.map aj).map sL=l:=rE dJ (rE (show sL∘aj=id from rfl) (rE (List.map_id ..) rfl))
 refine(cA (adK l)).trans ?_;show W.need (uB (aj (lA s ((l.map aj).map sL)))) (aX ((l.map aj).foldl (λn y=>n+(sL y).length+s.length) 0) 1000000)=_;refine rE e (rE (adM ..) (rE (ll ..) ?_));exact du _ (bO h)
theorem Aw(l:cP)(h:l.flatten.length≤1000000):gT .join [S [],.list (l.map S)]=aa (S l.flatten,ae):=rS (adL ..) (adN [] l (rE nc (rE (Nat.zero_mul ..) h)))
noncomputable def uD(u:Nat × List Nat):D:=.tuple [.int u.1,S u.2]
noncomputable def oD:Option Nat→D
 |none=>.none
 |some o=>.int o
structure SI(full:ax)(st:St)(ρ:aM):Prop where
 g0:get ρ 0=aa (.val (S full))
 g1:get ρ 1=aa (.val (.int st.a))
 g2:get ρ 2=aa (.val (oD st.o))
 g3:get ρ 3=aa (.own (st.r.map S))
structure SB(st:St)(n:Nat):Prop where
 a:st.a≤200000
 o:∀o,st.o=aa o→o≤200000
 r:st.r.length+n<1000000
theorem adO(full:ax)(st:St)(u:Nat × List Nat):(dY full st u).r.length≤st.r.length+1:=by
 unfold dY;split
 ·split
  ·show st.r.length≤_;lia
  ·show(if _ then _ else _:cP).length≤_;split<;>simp
 ·lia
theorem SB.step{full:ax}{st:St}{u:Nat × List Nat}(b:SB st (n+1))(hu:u.1<200000):SB (dY full st u) n:=by
 have:=adO full st u;refine⟨?_,?_,by have:=b.r;lia⟩
 ·unfold dY;split
  ·split
   ·exact b.a
   ·show u.1+1≤_;lia
  ·exact b.a
 ·intro o;unfold dY;split
  ·split
   ·intro h;replace h:=iJ h;subst h;lia
   ·intro h;exact zN h
  ·exact b.o o
noncomputable def IU:bP:=.cons (.ite (.cmp (.var 5) (.cons .eq (.lit (.str (aj [34]))) .nil)) (.cons (.ite (.uL (.var 2)) (.cons (.asg 2 (.var 4)) .nil) (.cons (.ite (.cmp (.var 1) (.cons .ne (.var 2) .nil)) (.cons (.app 3 (.cw 0 (.some (.var 1)) (.some (.var 2)) .none)) .nil) .nil) (.cons (.asg 1 (.bin .add (.var 4) (.lit (.int 1)))) (.cons (.asg 2 (.lit .none)) .nil)))) .nil) .nil) .nil
noncomputable def dH(C:ma)(CH:Option nE)(t:jl)(b:bP):D→aM→Hs→W Fl:=λx ρ hs=>(eU t x ρ).bind λρ'=>cb tok C CH b ρ' hs
theorem adP(full:ax)(a b:Nat)(ha:a≤200000)(hb:b≤200000)(hl:full.length≤100000):nz (S full) (aa (a:Int)) (aa (b:Int)) af=aa (S ((full.take b).drop a),ae):=du _ (rE (Av (jj ha (by decide))) (rE (IT (jj hb (by decide))) (bO (aF hl (by decide)))))
theorem adQ(full:ax)(a:Nat)(ha:a≤200000)(hl:full.length≤100000):nz (S full) (aa (a:Int)) af af=aa (S (full.drop a),ae):=du _ (rE (Av (jj ha (by decide))) (bO (aF hl (by decide))))
theorem IV{t x:ax}(h:get ρ i=aa (.val (S t))):ev tok C hs (.cmp (.var i) (.cons .eq (.lit (.str (aj x))) .nil)) ρ=aa (.bool (lEq t x),ae):=cS (aA h) rfl rfl
theorem r6(a b:Nat):((a:Int) == (b:Int))=az a b:=by
 induction q:az a b with
 |true=>exact rE (fZ q) (beq_self_eq_true _)
 |false=>rw[beq_eq_false_iff_ne];intro h;replace q:=Int.ofNat_inj.mp h▸q;exact zT ((nh ..)▸q)
theorem adR(a b:Nat):gQ .ne (.int (a:Int)) (.int (b:Int))=aa (!Nat.beq a b,ae):=by show aa ((!((a:Int) == (b:Int)),ae):Bool × Bool)=_;exact rE (r6 ..) rfl
theorem QS{p:Nat}{cR:aM}(q4:get cR 4=aa (.val (.int p))):cb tok C af (.cons (.asg 1 (.bin .add (.var 4) (.lit (.int 1)))) (.cons (.asg 2 (.lit .none)) .nil)) cR []=aa (.next (put (put cR 1 (.val (.int ((p+1:Nat):Int)))) 2 (.val .none)) [],ae):=
 (bq (c7 (bk (z:=.int ((p+1:Nat):Int)) (aA q4) (aK _) rfl))).trans (cJ (c7 rfl))
theorem adS{full:ax}(hl:full.length≤100000){st:St}(h:SI full st ρ)(b:SB st (n+1))(u:Nat × List Nat):∃ρ',dH C af (.two 4 5) IU (uD u) ρ []=aa (.next ρ' [],ae)∧SI full (dY full st u) ρ':=by
 have k0:get (put (put ρ 4 (.val (.int u.1))) 5 (.val (S u.2))) 0=_:=gN rfl (gN rfl h.g0);have k1:get (put (put ρ 4 (.val (.int u.1))) 5 (.val (S u.2))) 1=_:=gN rfl (gN rfl h.g1);have k2:get (put (put ρ 4 (.val (.int u.1))) 5 (.val (S u.2))) 2=_:=gN rfl (gN rfl h.g2);have k3:get (put (put ρ 4 (.val (.int u.1))) 5 (.val (S u.2))) 3=_:=gN rfl (gN rfl h.g3);have k4:get (put (put ρ 4 (.val (.int u.1))) 5 (.val (S u.2))) 4=aa (.val (.int u.1)):=gN rfl gS;have k5:get (put (put ρ 4 (.val (.int u.1))) 5 (.val (S u.2))) 5=aa (.val (S u.2)):=gS;show ∃ρ',cb tok C af IU (put (put ρ 4 (.val (.int u.1))) 5 (.val (S u.2))) []=_∧_;revert k0 k1 k2 k3 k4 k5;generalize put (put ρ 4 (.val (.int u.1))) 5 (.val (S u.2))=bN;intro k0 k1 k2 k3 k4 k5;have ec:=IV (C:=C) (hs:=[]) (x:=[34]) k5;unfold dY;by_cases ht:u.2=[34]
 ·replace ec:=(tT ..)▸ht▸ec;refine rE (if_pos ht) ?_;induction ho:st.o with
  |none=>replace k2:=ho▸k2;exact⟨put bN 2 (.val (.int u.1)),cJ (ij ec rfl (cJ (ij (IP (aA k2)) rfl (cJ (c7 (aA k4)))))),gN rfl k0,gN rfl k1,gS,gN rfl k3⟩
  |some o=>
   replace k2:=ho▸k2;have e2:=cS (C:=C) (tk:=tok) (hs:=[]) (aA k1) (aA k2) (adR st.a o);have bo:=b.o o ho;by_cases Dk:st.a=o
   ·replace e2:=(nh ..)▸Dk▸e2;refine⟨put (put bN 1 (.val (.int ((u.1+1:Nat):Int)))) 2 (.val .none),cJ (ij ec rfl (cJ (fH (IP (aA k2)) rfl ((bq (fH e2 rfl jx)).trans (QS k4))))),gN rfl (gN rfl k0),gN rfl gS,gS,?_⟩;show get _ 3=aa (.own ((if st.a=o then st.r else _).map S));exact rE (if_pos Dk) (gN rfl (gN rfl k3))
   ·replace e2:=jT Dk▸e2;refine⟨put (put (put bN 3 (.own (st.r.map S++[S ((full.take o).drop st.a)]))) 1 (.val (.int ((u.1+1:Nat):Int)))) 2 (.val .none),cJ (ij ec rfl (cJ (fH (IP (aA k2)) rfl ((bq (ij e2 rfl (cJ (xY k3 ?_ ?_)))).trans (QS (gN rfl k4)))))),gN rfl (gN rfl (gN rfl k0)),gN rfl gS,gS,?_⟩
    ·exact jU (eK k0) (gX (aA k1)) (gX (aA k2)) ee (adP full st.a o b.a bo hl)
    ·have:=b.r;refine rE (aQ ..) ?_;lia
    ·show get _ 3=aa (.own ((if st.a=o then st.r else _).map S));exact rE (if_neg Dk) (rE dw (gN rfl (gN rfl gS)))
 ·replace ec:=Df ht▸ec;exact rE (if_neg ht) ⟨bN,cJ (fH ec rfl jx),k0,k1,k2,k3⟩
theorem adT{full:ax}(hl:full.length≤100000):∀ (us:List (Nat × List Nat)) (st:St) (ρ:aM),SI full st ρ→SB st us.length→(∀u∈us,u.1<200000)→
  ∃ρ',dE (dH C af (.two 4 5) IU) (us.map uD) ρ []=aa (.next ρ' [],ae)∧SI full (us.foldl (dY full) st) ρ'∧SB (us.foldl (dY full) st) 0:=by
 intro us;induction us with
 |nil=>exact λst ρ h b Z=>⟨ρ,rfl,h,b⟩
 |cons u us ih=>intro st ρ h b hu;obtain⟨bN,e1,h1⟩:=adS (C:=C) hl h (n:=us.length) b u;exact aD (ih _ bN h1 (SB.step b (hu u bG)) λv hv=>hu v (cf _ hv)) λρ' e2 r=>⟨ρ',(pa e1).trans e2,r⟩
theorem wa{xs:List D}(h:get ρ j=aa (.own xs))(q:is.any (az j)):get (dX is ρ) j=aa (.val (.list xs)):=by refine rE (Ap ..) (rE h (rE q ?_));rfl
theorem QT{cR:aM}{l:cP}(h3:get cR 3=aa (.own (l.map S)))(hl:l.flatten.length≤1000000):cb tok C af (.cons (.fz [3] (.ret (.prim .join (.cons (.lit (.str (aj []))) (.cons (.var 3) .nil))))) .nil) cR []=aa (.ret (S l.flatten) [],ae):=
 gZ (show ex tok C af (.ret _) (dX [3] cR) []=_ from qp (Ar rfl (aA (wa h3 rfl)) (Aw l hl)))
theorem x8(a b:Nat):gQ .lt (.int (a:Int)) (.int (b:Int))=aa (aU a b,ae):=by
 show aa ((decide ((a:Int)<(b:Int)),ae):Bool × Bool)=_;induction q:aU a b with
 |true=>exact rE (decide_eq_true (U3.mpr (bc q))) rfl
 |false=>rw[decide_eq_false];intro h;exact zT ((show aU a b from bO (U3.mp h))▸q)
theorem Dm(l:ax)(h:l.length≤1000000):sW (S l)=aa (.int (l.length:Int),ae):=du _ (bO h)
theorem Dn{l:ax}(h:get ρ i=aa (.val (S l)))(hl:l.length≤1000000):fP tok C hs (.gen (.var i)) ρ=aa ((bV 0 ag l).map uD,ae):=
 W.aS (aA h) (du _ (bO hl))
theorem QU(n:Nat)(full:ax)(hl:full.length≤100000)(hr:(kC full).length≤1000000):run tok aH (n+1) 0 [S full]=aa (S (kC full),ae):=by
 refine oa (ρ:=[(0,.val (S full))]) rfl rfl (hs:=[]) ?_;have q0:ev tok (run tok aH n) ([]:Hs) (.cmp (.lit (.str (aj [34]))) (.cons .iy (.var 0) .nil)) [(0,.val (S full))]=aa (.bool (!nt [34] full),ae):=rfl;induction hq:nt [34] full with
 |false=>
  replace q0:=hq▸q0;have hn:34∉full:=λh=>by replace hq:=(adJ 34 full).mpr h▸hq;exact zT hq
  exact rE (adI hn) (gZ (ij q0 rfl (gZ rfl)))
 |true=>
  replace q0:=hq▸q0;refine(bq (fH q0 rfl jx)).trans ((bq (ρ':=[(0,.val (S full)),(1,.val (.int (0:Nat)))]) (hs':=[]) rfl).trans ((bq (ρ':=[(0,.val (S full)),(1,.val (.int (0:Nat))),(2,.val .none)]) (hs':=[]) rfl).trans ((bq (ρ':=[(0,.val (S full)),(1,.val (.int (0:Nat))),(2,.val .none),(3,.own [])]) (hs':=[]) rfl).trans ?_)));have hlen:=adF full 0 ag;obtain⟨ρ',e1,i,b⟩:=adT (C:=run tok aH n) hl (bV 0 ag full) ⟨0,af,[]⟩ [(0,.val (S full)),(1,.val (.int (0:Nat))),(2,.val .none),(3,.own [])] ⟨rfl,rfl,rfl,rfl⟩ ⟨eo _,λo h=>(zN h),(by show 0+_<_;lia)⟩ λu hu=>by have:=adE full 0 ag u hu;lia
  refine(bq ((Di (Dn (l:=full) rfl (aF hl (by decide)))).trans e1)).trans ?_;unfold kC at hr ⊢;generalize (bV 0 ag full).foldl (dY full) ⟨0,af,[]⟩=st at *;have hr:(st.r.flatten++full.drop st.a).length≤1000000:=hr;have el:=cS (C:=run tok aH n) (tk:=tok) (hs:=[]) (aA i.g1) (kB (eK i.g0) (Dm full (aF hl (by decide)))) (x8 st.a full.length);show _=aa (Fl.ret (S (st.r.flatten++full.drop st.a)) [],ae);induction eV:aU st.a full.length with
  |true=>
   replace el:=eV▸el;have e2:st.r.flatten++full.drop st.a=(st.r++[full.drop st.a]).flatten:=rE Bp (rE K3 (rE List.flatten_nil (rE (eg ..) rfl)))
   rw[e2]at hr ⊢;refine(bq (ij el rfl (cJ (xY i.g3 (jU (eK i.g0) (gX (aA i.g1)) ee ee (adQ full st.a b.a hl)) (by have:=b.r;refine rE (aQ ..) ?_;omega))))).trans (QT ?_ hr);exact rE dw gS
  |false=>
   replace el:=eV▸el;have CZ:full.length≤st.a:=Uj λh=>by replace eV:=(show aU st.a full.length from bO h)▸eV;exact zT eV
   rw[AU CZ,eg]at hr ⊢;exact(bq (fH el rfl jx)).trans (QT i.g3 hr)
noncomputable def eO:List (List Nat)→Int→Bool
 | [],o=>o == 0
 |u::us,o=>if u=[40]then eO us (o+1)else if u=[41]then(if o - 1<0 then ag else eO us (o - 1))else eO us o
theorem adU(x:Int)(u:ax)(us:cP):eO (u::us) x=if u=[40]then eO us (x+1)else if u=[41]then if x - 1<0 then ag else eO us (x - 1)else eO us x:=rfl
noncomputable def tW:bP:=.cons (.ite (.cmp (.var 5) (.cons .eq (.lit (.str (aj [40]))) .nil)) (.cons (.aug 6 .add (.lit (.int 1))) .nil) (.cons (.ite (.cmp (.var 5) (.cons .eq (.lit (.str (aj [41]))) .nil)) (.cons (.aug 6 .sub (.lit (.int 1))) (.cons (.ite (.cmp (.var 6) (.cons .lt (.lit (.int 0)) .nil)) (.cons (.ret (.lit (.bool ag))) .nil) .nil) .nil)) .nil) .nil)) .nil
theorem adV:∀ (us:List (Nat × List Nat)) (ρ:aM) (o:Int),get ρ 6=aa (.val (.int o))→
  (∃ρ' o',dE (dH C af (.two 4 5) tW) (us.map uD) ρ []=aa (.next ρ' [],ae)∧get ρ' 6=aa (.val (.int o'))∧eO (us.map (·.2)) o=(o' == 0))∨
  (dE (dH C af (.two 4 5) tW) (us.map uD) ρ []=aa (.ret (.bool ag) [],ae)∧eO (us.map (·.2)) o=ag):=by
 intro us;induction us with
 |nil=>exact λρ o h=>.inl ⟨ρ,o,rfl,h,rfl⟩
 |cons u us ih=>
  intro ρ o h;have k6:get (put (put ρ 4 (.val (.int u.1))) 5 (.val (S u.2))) 6=aa (.val (.int o)):=gN rfl (gN rfl h);have k5:get (put (put ρ 4 (.val (.int u.1))) 5 (.val (S u.2))) 5=aa (.val (S u.2)):=gS;have eF:∀hs,dH C af (.two 4 5) tW (uD u) ρ hs=cb tok C af tW (put (put ρ 4 (.val (.int u.1))) 5 (.val (S u.2))) hs:=λhs=>rfl;revert k6 k5 eF;generalize put (put ρ 4 (.val (.int u.1))) 5 (.val (S u.2))=bN;intro k6 k5 eF;have e1:=IV (C:=C) (hs:=[]) (x:=[40]) k5;have e2:=IV (C:=C) (hs:=[]) (x:=[41]) k5;have go:∀ {cR QV},cb tok C af tW bN []=aa (.next cR [],ae)→get cR 6=aa (.val (.int QV))→eO (u.2::us.map (·.2)) o=eO (us.map (·.2)) QV→(∃ρ' o',dE (dH C af (.two 4 5) tW) (uD u::us.map uD) ρ []=aa (.next ρ' [],ae)∧get ρ' 6=aa (.val (.int o'))∧eO (u.2::us.map (·.2)) o=(o' == 0))∨
    (dE (dH C af (.two 4 5) tW) (uD u::us.map uD) ρ []=aa (.ret (.bool ag) [],ae)∧eO (u.2::us.map (·.2)) o=ag):=λe g c=>by
   exact rE (pa ((eF []).trans e)) (rE c (ih _ _ g))
  by_cases h1:u.2=[40]
  ·replace e1:=(tT ..)▸h1▸e1;exact go (cJ (ij e1 rfl (cJ (Dj (z:=.int (o+1)) k6 rfl rfl rfl)))) gS (if_pos h1)
  ·replace e1:=Df h1▸e1;by_cases h2:u.2=[41]
   ·replace e2:=(tT ..)▸h2▸e2;have e3:ev tok C ([]:Hs) (.cmp (.var 6) (.cons .lt (.lit (.int 0)) .nil)) (put bN 6 (.val (.int (o - 1))))=aa (.bool (decide (o - 1<0)),ae):=cS (aA gS) rfl rfl;by_cases h3:o - 1<0
    ·replace e3:=decide_eq_true h3▸e3;refine .inr ⟨?_,(if_neg h1).trans ((if_pos h2).trans (if_pos h3))⟩;have st:cb tok C af tW bN []=aa (.ret (.bool ag) [],ae):=gZ (fH e1 rfl (gZ (ij e2 rfl ((bq (Dj (z:=.int (o - 1)) k6 rfl rfl rfl)).trans (gZ (ij e3 rfl (gZ rfl)))))));exact W.aS ((eF []).trans st) rfl
    ·replace e3:=decide_eq_false h3▸e3;exact go (cJ (fH e1 rfl (cJ (ij e2 rfl ((bq (Dj (z:=.int (o - 1)) k6 rfl rfl rfl)).trans (cJ (fH e3 rfl jx))))))) gS ((if_neg h1).trans ((if_pos h2).trans (if_neg h3)))
   ·replace e2:=Df h2▸e2;exact go (cJ (fH e1 rfl (cJ (fH e2 rfl jx)))) k6 ((if_neg h1).trans (if_neg h2))
theorem adW(n:Nat)(full:ax)(hl:full.length≤100000)(hr:(kC full).length≤1000000):run tok aH (n+2) 1 [S full]=aa (.bool (eO (dG ag (kC full)) 0),ae):=by
 refine oa (n:=n+1) (ρ:=[(0,.val (S full))]) rfl rfl (hs:=[]) ((bq (c7 ((qo (x:=S full) rfl).trans (QU n full hl hr)))).trans ((bq (ρ':=[(0,.val (S (kC full))),(6,.val (.int 0))]) (hs':=[]) rfl).trans ?_));rw[← r5 _ 0];rcases adV (C:=run tok aH (n+1)) (bV 0 ag (kC full)) [(0,.val (S (kC full))),(6,.val (.int 0))] 0 rfl with⟨ρ',o',e1,e2,e3⟩| ⟨e1,e2⟩
 ·exact rE e3 ((bq ((Di (Dn rfl hr)).trans e1)).trans (gZ (qp (cS (aA e2) rfl rfl))))
 ·exact rE e2 (gZ ((Di (Dn rfl hr)).trans e1))
theorem IW:∀ (l rest:ax) (b:Bool),iM b l=ag→dG b (l++rest)=dG b l++dG ag rest:=λl rest b h=>by rewrite[← r5 _ 0];exact rE (xZ l rest 0 b h) (rE dw (rE (r5 ..) (rE (r5 ..) rfl)))
structure Pc where
 c:Nat
 h:Nat
 f:Bool
noncomputable def iN:Nat→List Nat
 |1=>[92,41]|2=>[34,42,40,34]|3=>[92,124]|4=>[34,92,34,41,34]|5=>[92,34]|6=>[92,40]|7=>[92,92]|_=>[]
noncomputable def fu:Nat→List Nat
 |1=>[92,41]|3=>[92,124]|5=>[92,34]|6=>[92,40]|7=>[92,92]|_=>[]
noncomputable def r7:Nat→List hN
 |1=>[⟨ag,[92,41]⟩]|2=>[⟨ae,[42,40]⟩]|3=>[⟨ag,[92,124]⟩]|4=>[⟨ae,[92,34,41]⟩]|5=>[⟨ag,[92,34]⟩]|6=>[⟨ag,[92,40]⟩]|7=>[⟨ag,[92,92]⟩]|_=>[]
noncomputable def ja(h:Nat):List (List Nat):=match fu h with| []=>[]|l=>[l]
noncomputable def Pc.txt(p:Pc):List Nat:=cond p.f ([p.c]++iN p.h) (iN p.h++[p.c])
noncomputable def Pc.bare(p:Pc):List Nat:=cond p.f ([p.c]++fu p.h) (fu p.h++[p.c])
noncomputable def Pc.wc(p:Pc):List hN:=cond p.f ([⟨ag,[p.c]⟩]++r7 p.h) (r7 p.h++[⟨ag,[p.c]⟩])
noncomputable def Pc.us(p:Pc):List (List Nat):=cond p.f ([[p.c]]++ja p.h) (ja p.h++[[p.c]])
noncomputable def mS(c:Nat):Prop:=c≠34∧c≠92
variable {ps:List Pc}
theorem h8{P:Nat→Prop}(h0:P 0)(h1:P 1)(h2:P 2)(h3:P 3)(h4:P 4)(h5:P 5)(h6:P 6)(h7:P 7)(hn:∀n,P (n+8)):∀n,P n
 |0=>h0|1=>h1|2=>h2|3=>h3|4=>h4|5=>h5|6=>h6|7=>h7|n+8=>hn n
theorem QW:∀h,eN (r7 h)=iN h:=h8 rfl rfl rfl rfl rfl rfl rfl rfl λZ=>rfl
theorem QX:∀h,lh (r7 h)=fu h:=h8 rfl rfl rfl rfl rfl rfl rfl rfl λZ=>rfl
noncomputable def Dp(b:hN):Bool:= !iM ag b.l&& !(dG ag b.l).any (lEq [34])
theorem Dq{b:hN}(h:Dp b):b.Ok:=by simp only[Dp,j0,UK,U4]at h;exact⟨h.1,λq=>h.2 _ q (tT _)⟩
theorem adX:∀h,(r7 h).all Dp:=h8 rfl rfl rfl rfl rfl rfl rfl rfl λZ=>rfl
theorem IX(a b:List hN):eN (a++b)=eN a++eN b:=by simp[eN]
theorem IY(a b:List hN):lh (a++b)=lh a++lh b:=by simp[lh]
theorem Pc.adY(p:Pc):eN p.wc=p.txt:=by
 obtain⟨c,h,f⟩:=p;cases f
 ·show eN (r7 h++[⟨ag,[c]⟩])=iN h++[c];refine rE (IX ..) (rE (QW ..) ?_);rfl
 ·show eN ([⟨ag,[c]⟩]++r7 h)=[c]++iN h;refine rE (IX ..) (rE (QW ..) ?_);rfl
theorem Pc.adZ(p:Pc):lh p.wc=p.bare:=by
 obtain⟨c,h,f⟩:=p;cases f
 ·show lh (r7 h++[⟨ag,[c]⟩])=fu h++[c];refine rE (IY ..) (rE (QX ..) ?_);rfl
 ·show lh ([⟨ag,[c]⟩]++r7 h)=[c]++fu h;refine rE (IY ..) (rE (QX ..) ?_);rfl
theorem QY{c:Nat}(h:mS c):dG ag [c]=[[c]]∧iM ag [c]=ag:=by have q:=jT h.2;refine⟨?_,q⟩;show cond (az c 92) _ _=_;refine rE q ?_;rfl
theorem QZ{c:Nat}(h:mS c):Dp ⟨ag,[c]⟩:=by refine xA (QY h) λq1 q2=>?_;show(!iM ag [c]&& !(dG ag [c]).any (lEq [34]));refine rE q1 (rE q2 ?_);show(!(lEq [34] [c]||false));refine rE (Df (λq=>h.1 (jh q).1.symm)) ?_;rfl
theorem Pc.Q0{p:Pc}(h:mS p.c):∀b∈p.wc,b.Ok:=by
 intro b hb;have hh:=fk.mp (adX p.h);unfold Pc.wc at hb;cases hf:p.f<;>replace hb:=hf▸hb
 ·rcases gq.mp hb with q|q
  ·exact Dq (hh b q)
  ·exact rE (dK.mp q) (Dq (QZ h))
 ·rcases gq.mp hb with q|q
  ·exact rE (dK.mp q) (Dq (QZ h))
  ·exact Dq (hh b q)
noncomputable def fh(ps:List Pc):List Nat:=ps.flatMap Pc.txt
noncomputable def fj(ps:List Pc):List Nat:=ps.flatMap Pc.bare
theorem Q1:∀ps:List Pc,fh ps=eN (ps.flatMap Pc.wc):=by
 intro L0;induction L0 with
 |nil=>exact rfl
 |cons p ps ih=>refine rE nq (rE (IX ..) (rS ih (rE (Pc.adY ..) ?_)));rfl
theorem Q2:∀ps:List Pc,fj ps=lh (ps.flatMap Pc.wc):=by
 intro L0;induction L0 with
 |nil=>exact rfl
 |cons p ps ih=>refine rE nq (rE (IY ..) (rS ih (rE (Pc.adZ ..) ?_)));rfl
theorem ad0(h:∀p∈ps,mS p.c){e:ax}(he:[34]∉dG ag e):kC (fh ps++e)=fj ps++e:=by refine rE (Q1 ..) (rE (Q2 ..) ?_);refine QQ (λb hb=>?_) he;exact aD (yO.mp hb) λp hp hb=>Pc.Q0 (h p hp) b hb
theorem ad1:∀h,dG ag (fu h)=ja h∧iM ag (fu h)=ag:=h8 ⟨rfl,rfl⟩ ⟨rfl,rfl⟩ ⟨rfl,rfl⟩ ⟨rfl,rfl⟩ ⟨rfl,rfl⟩ ⟨rfl,rfl⟩ ⟨rfl,rfl⟩ ⟨rfl,rfl⟩ λZ=>⟨rfl,rfl⟩
theorem Pc.ad2{p:Pc}(h:mS p.c):dG ag p.bare=p.us∧iM ag p.bare=ag:=by
 obtain⟨c,k,f⟩:=p;refine xA (ad1 k) λa1 a2=>xA (QY h) λb1 b2=>?_;dsimp only at b1 b2;clear h;cases f
 ·exact⟨by show dG ag (fu k++[c])=ja k++[[c]];refine rE (IW _ _ _ a2) ?_;refine rE a1 ?_;exact rE b1 rfl,by show iM ag (fu k++[c])=ag;refine rE (Au ..) ?_;refine rE a2 ?_;exact rE b2 rfl⟩
 ·exact⟨by show dG ag ([c]++fu k)=[[c]]++ja k;refine rE (IW _ _ _ b2) ?_;refine rE a1 ?_;exact rE b1 rfl,by show iM ag ([c]++fu k)=ag;refine rE (Au ..) ?_;refine rE b2 ?_;exact rE a2 rfl⟩
noncomputable def mT(ps:List Pc):List (List Nat):=ps.flatMap Pc.us
theorem Q3:∀ {ps:List Pc},(∀p∈ps,mS p.c)→∀e,dG ag (fj ps++e)=mT ps++dG ag e:=by
 intro L0;induction L0 with
 |nil=>intro _ e;exact rfl
 |cons p ps ih=>intro h e;refine xA (Pc.ad2 (h p bG)) λa b=>?_;show dG ag (p.bare++fj ps++e)=p.us++mT ps++dG ag e;exact rE (d5 ..) (rE (IW _ _ _ b) (rE a (rE (ih (λq hq=>h q (cf _ hq)) e) (rE (d5 ..) rfl))))
noncomputable def lX:List Nat→Int→Option Int
 | [],o=>aa o
 |c::r,o=>cond (az c 40) (lX r (o+1)) (cond (az c 41) (cond (decide (o - 1<0)) af (lX r (o - 1))) (lX r o))
theorem Q4:∀h us o,eO (ja h++us) o=eO us o:=h8 (λZ Z=>rfl) (λZ Z=>rfl) (λZ Z=>rfl) (λZ Z=>rfl) (λZ Z=>rfl) (λZ Z=>rfl) (λZ Z=>rfl) (λZ Z=>rfl) λZ Z Z=>rfl
theorem Q5(c:Nat)(us:cP)(o:Int):eO ([c]::us) o=if c=40 then eO us (o+1)else if c=41 then(if o - 1<0 then ag else eO us (o - 1))else eO us o:=by simp only[adU,EM,and_true]
theorem ad3(p:Pc)(us:cP)(o:Int):eO (p.us++us) o=if p.c=40 then eO us (o+1)else if p.c=41 then(if o - 1<0 then ag else eO us (o - 1))else eO us o:=by
 obtain⟨c,h,f⟩:=p;cases f
 ·show eO (ja h++[[c]]++us) o=_;exact rE (d5 ..) (rE (Q4 ..) (Q5 c us o))
 ·show eO ([c]::(ja h++us)) o=_;refine rE (Q5 ..) ?_;simp only[Q4]
noncomputable def sd(us:cP)(o:Option Int):Bool:=match o with|none=>ag|some o=>eO us o
theorem ad4(us:cP):∀ (ps:List Pc) (o:Int),eO (mT ps++us) o=sd us (lX (ps.map Pc.c) o):=by
 intro ps;induction ps with
 |nil=>exact λZ=>rfl
 |cons p ps ih=>
  intro o;show eO (p.us++mT ps++us) o=sd us (cond (az p.c 40) (lX (ps.map Pc.c) (o+1)) (cond (az p.c 41) (cond (decide (o - 1<0)) af (lX (ps.map Pc.c) (o - 1))) (lX (ps.map Pc.c) o)));refine rE (d5 ..) (rE (ad3 ..) (rE (ih ..) (rE (ih ..) (rE (ih ..) ?_))));by_cases h:p.c=40
  ·refine rE (if_pos h) (rE h ?_);rfl
  ·refine rE (if_neg h) (rE (jT h) (rE (cond_false ..) ?_));by_cases h:p.c=41
   ·refine rE (if_pos h) (rE h ?_);by_cases h:o - 1<0
    ·refine rE (if_pos h) (rE (decide_eq_true h) ?_);rfl
    ·refine rE (if_neg h) (rE (decide_eq_false h) ?_);rfl
   ·refine rE (if_neg h) (rE (jT h) ?_);rfl
theorem Q6(n:Nat)(h:∀p∈ps,mS p.c){e:ax}(he:e=[]∨e=[34]∨e=[34,40])(hl:(fh ps).length≤50000)(hb:(fj ps).length≤50000):
  run tok aH (n+2) 1 [S (fh ps++e)]=aa (.bool (sd (dG ag e) (lX (ps.map Pc.c) 0)),ae):=by
 have hk:∀b∈ps.flatMap Pc.wc,b.Ok:=λb hb=>by exact aD (yO.mp hb) λp hp hb=>Pc.Q0 (h p hp) b hb
 have hs:kC (fh ps++e)=fj ps++e:=by
  refine rE (Q1 ..) (rE (Q2 ..) ?_);rcases he with rfl|rfl|rfl
  ·exact QQ hk (by decide)
  ·exact QR hk (by decide)
  ·exact QR hk (by decide)
 have hel:e.length≤2:=by rcases he with rfl|rfl|rfl<;>decide
 refine rE (adW n _ (by refine rE bt ?_;lia) (by rw[hs,bt];lia)) ?_;refine rE hs ?_;rewrite[Q3 h];exact rE (ad4 ..) rfl
theorem Q7:∀h,(ja h).flatten=fu h:=h8 rfl rfl rfl rfl rfl rfl rfl rfl λZ=>rfl
theorem ad5:∀ps:List Pc,(mT ps).flatten=fj ps:=by
 intro L0;induction L0 with
 |nil=>exact rfl
 |cons p ps ih=>
  show(p.us++mT ps).flatten=p.bare++fj ps;refine rE Bp (rE ih ?_);obtain⟨c,h,f⟩:=p;cases f
  ·show(ja h++[[c]]).flatten++_=fu h++[c]++_;refine rE Bp (rE (Q7 ..) ?_);rfl
  ·show([[c]]++ja h).flatten++_=[c]++fu h++_;refine rE Bp (rE (Q7 ..) ?_);rfl
section
open PySem.W
structure c8(k:Nat)(d:D):Prop where
 c:d.canLay0
 d:d.depth≤k
theorem c8.ok(h:c8 k d)(hk:k≤64):c9 d:=by unfold c9;refine rE h.c (rE (decide_eq_true (aF h.d hk)) ?_);rfl
theorem c8.int(k:Nat)(i:Int):c8 k (.int i):=⟨rfl,eo _⟩
theorem c8.all{xs:List D}(h:∀x∈xs,c8 k x):aif xs∧PyData.depthAll xs≤k:=by
 induction xs with
 |nil=>exact⟨rfl,eo _⟩
 |cons x xs ih=>
  refine xA (ih λy hy=>h y (cf _ hy)) λa b=>?_;have hx:=h x bG;refine⟨?_,?_⟩
  ·show(PyData.canLay0 x&&aif xs);refine rE hx.c (rE a ?_);rfl
  ·exact Nat.max_le.mpr ⟨hx.d,b⟩
theorem c8.list{xs:List D}(h:∀x∈xs,c8 k x):c8 (k+1) (.list xs):=⟨(c8.all h).1,m7 (c8.all h).2⟩
theorem c8.map{f:α→D}(h:∀x,c8 k (f x))(xs:List α):c8 (k+1) (.list (xs.map f)):=.list λx hx=>by refine aD (fq.mp hx) λy Z e9=>?_;subst e9;exact h y
structure SO{α:Type}(lt:α→α→Bool):Prop where
 tY:∀x,lt x x=ag
 tr:∀x y z,lt x y→lt y z→lt x z
 mG:∀x y,lt x y=ag→lt y x=ag→x=y
theorem SO.nat:SO aU where
 tY:=λx=>by induction q:aU x x with|true=>exact absurd (bc q) (qF x)|false=>rfl
 tr:=λx y z h1 h2=>bO (ew (bc h1) (bc h2))
 mG:=λx y h1 h2=>A2 (pA.mp λh=>by replace h2:=(show aU y x from bO h)▸h2;exact zT h2) (pA.mp λh=>by replace h1:=(show aU x y from bO h)▸h1;exact zT h1)
theorem SO.ad6{lt:β→β→Bool}(S:SO lt){f:α→β}(hf:∀x y,f x=f y→x=y):SO λx y=>lt (f x) (f y) where
 tY:=λZ=>S.tY _
 tr:=λZ Z Z=>S.tr _ _ _
 mG:=λx y h1 h2=>hf x y (S.mG _ _ h1 h2)
noncomputable def qq{α:Type}(eq lt:α→α→Bool):List α→List α→Bool
 | [],ys=> !ys.isEmpty
 |x::xs,ys=>match ys with| []=>ag|y::ys=>cond (eq x y) (qq eq lt xs ys) (lt x y)
theorem SO.lex{eq lt:α→α→Bool}(S:SO lt)(he:∀x y,eq x y↔x=y):SO (qq eq lt) where
 tY:=λx=>by
  induction x with
  |nil=>rfl
  |cons a x ih=>show cond (eq a a) _ _=_;exact rE ((he a a).mpr rfl) ih
 tr:=λx=>by
  induction x with
  |nil=>intro y z h1 h2;induction y using bj with|nil=>exact zF h1|cons b y=>induction z using bj with|nil=>exact zF h2|cons c z=>rfl
  |cons a x ih=>
   intro y z h1 h2;induction y using bj with
   |nil=>exact zF h1
   |cons b y=>
   induction z using bj with
   |nil=>exact zF h2
   |cons c z=>
   have h1:cond (eq a b) (qq eq lt x y) (lt a b)=ae:=h1;have h2:cond (eq b c) (qq eq lt y z) (lt b c)=ae:=h2;show cond (eq a c) (qq eq lt x z) (lt a c)=ae;induction q1:eq a b with
   |true=>
    obtain rfl:=(he a b).mp q1;replace h1:=q1▸h1;induction q2:eq a c with
    |true=>replace h2:=q2▸h2;exact ih y z h1 h2
    |false=>replace h2:=q2▸h2;exact h2
   |false=>
    replace h1:=q1▸h1;induction q2:eq b c with
    |true=>obtain rfl:=(he b c).mp q2;exact rE q1 h1
    |false=>
     replace h2:=q2▸h2;have h3:=S.tr a b c h1 h2;induction q3:eq a c with
     |true=>obtain rfl:=(he a c).mp q3;rw[cond_false]at h1 h2;exact zF ((S.tY ..)▸h3)
     |false=>exact h3
 mG:=λx=>by
  induction x with
  |nil=>intro y h1 _;induction y using bj with|nil=>rfl|cons=>exact zT h1
  |cons a x ih=>
   intro y h1 h2;induction y using bj with
   |nil=>exact zT h2
   |cons b y=>
   have h1:cond (eq a b) (qq eq lt x y) (lt a b)=ag:=h1;have h2:cond (eq b a) (qq eq lt y x) (lt b a)=ag:=h2;induction q1:eq a b with
   |true=>obtain rfl:=(he a b).mp q1;rw[q1]at h1 h2;exact rE (ih y h1 h2) rfl
   |false=>
    replace h1:=q1▸h1;induction q2:eq b a with
    |true=>obtain rfl:=(he b a).mp q2;exact zT (q2▸q1)
    |false=>replace h2:=q2▸h2;obtain rfl:=S.mG a b h1 h2;exact zT ((he a a).mpr rfl▸q1)
noncomputable def ins{α:Type}(lt:α→α→Bool)(x:α):List α→List α
 | []=>[x]
 |y::r=>cond (lt x y) (x::y::r) (y::ins lt x r)
theorem Q8(lt:α→α→Bool)(x y:α)(IZ:List α):ins lt x (y::IZ)=bif lt x y then x::y::IZ else y::ins lt x IZ:=rfl
noncomputable def jy{α:Type}(lt:α→α→Bool):List α→List α
 | []=>[]
 |x::r=>ins lt x (jy lt r)
section
variable{lt:α→α→Bool}
theorem Q9(x:α):∀l,(ins lt x l).Perm (x::l):=by
 intro l;induction l with
 |nil=>exact .refl _
 |cons y r ih=>refine rE (Q8 ..) ?_;induction lt x y with|true=>exact .refl _|false=>exact(ih.cons y).trans (.swap ..)
theorem x9:∀l,(jy lt l).Perm l:=by
 intro l;induction l with
 |nil=>exact .refl _
 |cons x r ih=>exact(Q9 x _).trans (ih.cons x)
noncomputable abbrev tZ(lt:α→α→Bool)(l:List α):Prop:=l.Pairwise λx y=>lt x y
theorem ad7(S:SO lt)(x:α):∀l,tZ lt l→x∉l→tZ lt (ins lt x l):=by
 intro l;induction l with
 |nil=>exact λZ Z=>.cons (λZ h=>nomatch h) .nil
 |cons y r ih=>
  intro h hx;cases h with
  |cons h1 h2=>
  refine rE (Q8 ..) ?_;induction q:lt x y with
  |true=>exact .cons (λz hz=>by rcases bE.mp hz with rfl|hz;exact q;exact S.tr _ _ _ q (h1 z hz)) (.cons h1 h2)
  |false=>
   refine .cons (λz hz=>?_) (ih h2 λh=>hx (cf _ h));rcases bE.mp ((Q9 x r).mem_iff.mp hz)with rfl|hz
   ·induction q2:lt y z with
    |true=>rfl
    |false=>exact absurd (S.mG _ _ q q2) λe=>hx (e▸bG)
   ·exact h1 z hz
theorem I0(S:SO lt):∀l:List α,l.Nodup→tZ lt (jy lt l):=by
 intro l;induction l with
 |nil=>exact λZ=>.nil
 |cons x r ih=>intro h;exact xA (uE.mp h) λh1 h2=>ad7 S x _ (ih h2) λq=>h1 ((x9 r).mem_iff.mp q)
theorem Ra(S:SO lt):∀ {a b:List α},tZ lt a→tZ lt b→a.Perm b→a=b:=by
 intro a;induction a with
 |nil=>intro b _ _ p;exact(List.nil_perm.mp p).symm
 |cons x a ih=>
  intro b ha hb p;induction b using bj with
  |nil=>exact absurd p.symm (List.not_perm_nil_cons _ _)
  |cons y b=>
  cases ha with
  |cons a1 a2=>
  cases hb with
  |cons b1 b2=>
  obtain rfl:x=y:=by
   rcases bE.mp (p.mem_iff.mp (bG (a:=x)))with h|h
   ·exact h
   ·rcases bE.mp (p.mem_iff.mpr (bG (a:=y)))with h'|h'
    ·exact h'.symm
    ·have:=S.tr _ _ _ (a1 y h') (b1 x h);exact zF ((S.tY ..)▸this)
  exact rE (ih a2 b2 ((List.perm_cons x).mp p)) rfl
theorem ad8{xs:List α}:∀ {l:ax} (h:∀i∈l,i<xs.length),l.pmap (λi (h:i<xs.length)=>xs[i]) h=l.filterMap λi=>xs[i]? :=by
 intro l;induction l with
 |nil=>exact λZ=>rfl
 |cons i l ih=>intro h;have hi:=h i bG;refine rE (List.pmap_cons ..) (rE AW (rE (ly hi) ?_));dsimp only;exact rE (ih λj hj=>h j (cf _ hj)) rfl
theorem ad9(ys:List α):∀pre:List α,(pG pre.length ys.length).filterMap (λi=>(pre++ys)[i]?)=ys:=by
 induction ys with
 |nil=>exact λZ=>rfl
 |cons y ys ih=>
  intro pre;refine rE bT (rE List.range'_succ (rE AW ?_));have h:(pre++y::ys)[pre.length]? =aa y:=by rw[yK (bZ _),Bf];rfl
  refine rE h ?_;have h:=ih (pre++[y]);replace h:=(d5 ..)▸bt▸h;exact congrArg (y:: ·) h
theorem range_all(xs:List α):(bM xs.length).filterMap (λi=>xs[i]?)=xs:=rE EP (ad9 xs [])
theorem aea{lt:α→α→Bool}{xs:List α}(h:¬2≤xs.length):jy lt xs=xs:=by
 induction xs using bj with
 |nil=>rfl
 |cons x xs=>induction xs using bj with
  |nil=>rfl
  |cons=>exact absurd (m7 (m7 (eo _))) h
theorem I8(S:SO lt){enc:α→D}{xs:List α}(eV:∀x y,x∈xs→y∈xs→x≠y→ltN 2 (enc x) (enc y)=aa (lt x y))(nd:xs.Nodup)(hs:∀x,c8 k (enc x))(hk:k≤64)(xa:xs.length<64)
  (lN:(∀x,(cY (enc x)).isSome)∨∀x,(d7 (enc x)).isSome):uT (.list (xs.map enc))=aa (.list ((jy lt xs).map enc),ae):=by
 have Ax:(xs.map enc).all c9:=fk.mpr λd hd=>by refine aD (fq.mp hd) λx Z e9=>?_;subst e9;exact(hs x).ok hk
 by_cases h2:2≤xs.length
 ·obtain⟨f,hf⟩:∃f:Nat→Nat→Option Bool,f=λi j=>((xs.map enc)[i]?).bind λx=>((xs.map enc)[j]?).bind λy=>ltN 2 x y:=⟨_,rfl⟩;have Rb:∀i j (hi:i<xs.length) (hj:j<xs.length),i≠j→f i j=aa (lt xs[i] xs[j]):=λi j hi hj h=>by refine rE hf ?_;show((xs.map enc)[i]?).bind _=_;refine rE (l9) ?_;refine rE (ly hi) ?_;show((xs.map enc)[j]?).bind _=_;refine rE (l9) ?_;refine rE (ly hj) ?_;exact eV _ _ (ER hi) (ER hj) λe=>h ((U1 nd).mp e)
  have O:Ord xs.length f λi j=>∃ (hi:i<xs.length) (hj:j<xs.length),lt xs[i] xs[j]:=by
   have ne:∀ {i j} (hi:i<xs.length) (hj:j<xs.length),lt xs[i] xs[j]→i≠j:=λ{i j} hi hj q e=>by subst e;replace q:=(S.tY ..)▸q;exact zF q
   have aeb:∀x y,lt x y→lt y x=ag:=λx y q=>by induction q2:lt y x with|false=>rfl|true=>have:=S.tr _ _ _ q q2;replace this:=(S.tY ..)▸this;exact zF this
   refine⟨λi j hi hj ⟨_,_,q⟩=>⟨by refine rE (Rb i j hi hj (ne hi hj q)) ?_;exact rE q rfl,by refine rE (Rb j i hj hi (ne hi hj q).symm) ?_;exact rE (aeb _ _ q) rfl⟩,λi j hi hj h=>?_,λi j k ⟨a,b,q⟩ ⟨_,c,q'⟩=>⟨a,c,S.tr _ _ _ q q'⟩⟩;induction q:lt xs[i] xs[j]with
   |true=>exact .inl ⟨hi,hj,q⟩
   |false=>induction q2:lt xs[j] xs[i]with
    |true=>exact .inr ⟨hj,hi,q2⟩
    |false=>exact absurd ((U1 nd).mp (S.mG _ _ q q2)) h
  refine j8 (adw O h2) λp e1 R u=>?_;have I9:∀i∈p.toList,i<xs.length:=λi hi=>by have:=(UZ.mp R.perm).mem_iff.mp hi;simpa using this
  obtain⟨zs,hz⟩:∃zs,zs=p.toList.pmap (λi h=>xs[i]) I9:=⟨_,rfl⟩;have hlen:p.toList.length=xs.length:=rE eL (rE R.size rfl)
  have Gy:p.toList.map (λi=>(xs.map enc).getD i .none)=zs.map enc:=by refine rE hz (rE (List.map_pmap ..) ?_);refine U5 (by simp) λi h1 h2=>rE (U6 ..) (rE (U7 ..) ?_);have hi:=I9 _ (ER (by simpa using h1:i<p.toList.length));refine rE (m8) ?_;refine rE (l9) ?_;refine rE (ly hi) ?_;rfl
  have aec:zs.Perm xs:=by
   have h1:zs=p.toList.filterMap λi=>xs[i]? :=rE hz (ad8 I9)
   refine rE h1 (.trans ((UZ.mp R.perm).filterMap _) (rE AY ?_));rw[range_all]
  have aed:tZ lt zs:=by
   refine rE hz (List.pairwise_iff_getElem.mpr λi j hi hj h=>rE (U7 ..) (rE (U7 ..) ?_));rw[List.length_pmap]at hi hj;have vm:i<p.size:=rS eL hi
   have vo:j<p.size:=rS eL hj
   obtain⟨a,b,q⟩:=u i j h (rS hlen hj);have ei:p.getD i 0=p.toList[i]:=by refine rE (getD_get? ..) (rE (Bi vm) ?_);rfl
   have ej:p.getD j 0=p.toList[j]:=by refine rE (getD_get? ..) (rE (Bi vo) ?_);rfl
   simp only[ei,ej]at q;exact q
  have s8:jy lt xs=zs:=Ra S (I0 S xs nd) aed ((x9 xs).trans aec.symm);show cond (aX (xs.map enc).length 1) _ _=_;refine rE (show aX (xs.map enc).length 1=ag by refine rE (aQ ..) ?_;induction q:aX xs.length 1 with|false=>rfl|true=>exact absurd (bc q) (by lia)) ?_;show(ml _ (ag8 (xs.map enc).length)).bind _=_;refine rE (aQ ..) (rS hf (rE e1 ?_));show W.need (dQ (p.toList.map λi=>(xs.map enc).getD i .none)) _=_;refine rE Gy (rE s8 ?_);refine du _ (rE Ax (rE (show aU xs.length 64 from bO xa) ?_));rcases lN with h|h
  ·refine rE (show(xs.map enc).all (λx=>(cY x).isSome) from fk.mpr λd hd=>by refine aD (fq.mp hd) λx Z e9=>?_;subst e9;exact h x) ?_;rfl
  ·refine rE (show(xs.map enc).all (λx=>(d7 x).isSome) from fk.mpr λd hd=>by refine aD (fq.mp hd) λx Z e9=>?_;subst e9;exact h x) ?_;refine rE (Bool.or_true ..) ?_;rfl
 ·have h1:=aea (lt:=lt) h2;refine rE h1 ?_;show cond (aX (xs.map enc).length 1) _ _=_;refine rE (show aX (xs.map enc).length 1 by refine rE (aQ ..) ?_;exact bO (by lia)) ?_;exact du _ Ax
end
noncomputable def nD(n:Nat):D:=.int (n:Int)
noncomputable def pD(p:Nat × Nat):D:=.list [nD p.1,nD p.2]
noncomputable def aJ(l:List (Nat × Nat)):D:=.list (l.map pD)
noncomputable def se(p q:Nat × Nat):Bool:=az p.1 q.1&&az p.2 q.2
noncomputable def pb(p q:Nat × Nat):Bool:=qq az aU [p.1,p.2] [q.1,q.2]
noncomputable def Ja:List (Nat × Nat)→List (Nat × Nat)→Bool:=qq se pb
theorem beq_iff(x y:Nat):az x y↔x=y:=⟨fZ,λh=>h▸nh _⟩
theorem Jb(p q:Nat × Nat):se p q↔p=q:=by unfold se;refine rE (j0 ..) ?_;rewrite[beq_iff];rw[beq_iff];exact⟨λ⟨a,b⟩=>Prod.ext a b,λh=>h▸⟨rfl,rfl⟩⟩
theorem SO.pair:SO pb:=(SO.nat.lex beq_iff).ad6 (f:=λp:Nat × Nat=>[p.1,p.2]) λx y h=>Prod.ext (jh h).1 (jh (jh h).2).1
theorem SO.link:SO Ja:=SO.pair.lex Jb
theorem qr(n:Nat):c8 0 (nD n):=.int _ _
theorem Jc(p:Nat × Nat):c8 1 (pD p):=.map qr [p.1,p.2]
theorem Jd(l:List (Nat × Nat)):c8 2 (aJ l):=.map Jc l
theorem sf(a b:Nat):dT (nD a) (nD b)=az a b:=r6 a b
noncomputable def lY{α:Type}(eq:α→α→Bool):List α→List α→Bool
 | [],ys=>ys.isEmpty
 |x::xs,ys=>match ys with| []=>ag|y::ys=>eq x y&&lY eq xs ys
theorem Je{f:α→D}{eq:α→α→Bool}(h:∀x y,dT (f x) (f y)=eq x y):∀xs ys:List α,Bq (xs.map f) (ys.map f)=lY eq xs ys:=by
 intro xs;induction xs with
 |nil=>intro ys;induction ys<;>rfl
 |cons x xs ih=>
  intro ys;induction ys using bj with
  |nil=>rfl
  |cons y ys=>show(dT (f x) (f y)&&Bq (xs.map f) (ys.map f))=_;refine rE (h ..) (rE (ih ..) ?_);rfl
theorem Rf(p q:Nat × Nat):dT (pD p) (pD q)=se p q:=by show(dT (nD p.1) (nD q.1)&&(dT (nD p.2) (nD q.2)&&ae))=_;refine rE (sf ..) (rE (sf ..) (rE (EK ..) ?_));rfl
theorem Jf(a b:Nat):ltI (nD a) (nD b)=aa (aU a b):=by show aa (decide ((a:Int)<(b:Int)))=_;have:=x8 a b;exact congrArg (λo:Option (Bool × Bool)=>o.map (·.1)) this
theorem Jg{f:D→D→Option Bool}{enc:α→D}{eq lt:α→α→Bool}(hk:k≤64)(hs:∀x,c8 k (enc x))(he:∀x y,dT (enc x) (enc y)=eq x y)(hf:∀x y,f (enc x) (enc y)=aa (lt x y)):
  ∀xs ys:List α,nB f (xs.map enc) (ys.map enc)=aa (qq eq lt xs ys):=by
 intro xs;induction xs with
 |nil=>intro ys;induction ys<;>rfl
 |cons x xs ih=>
  intro ys;induction ys using bj with
  |nil=>rfl
  |cons y ys=>show cond (c9 (enc x)&&c9 (enc y)) (cond (dT (enc x) (enc y)) (nB f (xs.map enc) (ys.map enc)) (f (enc x) (enc y))) af=_;refine rE ((hs x).ok hk) (rE ((hs y).ok hk) (rE (he ..) (rE (ih ..) (rE (hf ..) ?_))));show cond (eq x y) _ _=aa (cond (eq x y) _ _);cases eq x y<;>rfl
theorem aee(p q:Nat × Nat):ltN 1 (pD p) (pD q)=aa (pb p q):=Jg (enc:=nD) (by decide) qr sf Jf [p.1,p.2] [q.1,q.2]
theorem aef(p q:Nat × Nat):ltN 2 (pD p) (pD q)=aa (pb p q):=by show nB (ltN 1) [nD p.1,nD p.2] [nD q.1,nD q.2]=_;exact Jg (enc:=nD) (by decide) qr sf Jf [p.1,p.2] [q.1,q.2]
theorem Rg{l:ax}(nd:l.Nodup)(h:l.length<64):uT (.list (l.map nD))=aa (.list ((jy aU l).map nD),ae):=I8 SO.nat (λx y Z Z Z=>Jf x y) nd qr (by decide) h (.inl λZ=>rfl)
theorem aeg{l:List (Nat × Nat)}(nd:l.Nodup)(h:l.length<64):uT (aJ l)=aa (aJ (jy pb l),ae):=I8 SO.pair (λx y Z Z Z=>aef x y) nd Jc (by decide) h (.inr λZ=>rfl)
theorem aeh{l:List (List (Nat × Nat))}(nd:l.Nodup)(h:l.length<64):uT (.list (l.map aJ))=aa (.list ((jy Ja l).map aJ),ae):=
 I8 SO.link (λx y Z Z Z=>Jg (enc:=pD) (by decide) Jc Rf aee x y) nd Jd (by decide) h (.inr λZ=>rfl)
theorem Jh{eq:α→α→Bool}(he:∀x y,eq x y↔x=y):∀xs ys:List α,lY eq xs ys↔xs=ys:=by
 intro xs;induction xs with
 |nil=>intro ys;induction ys using bj with|nil=>exact⟨λZ=>rfl,λZ=>rfl⟩|cons=>exact⟨zF,zC⟩
 |cons x xs ih=>
  intro ys;induction ys using bj with
  |nil=>exact⟨zF,zD⟩
  |cons y ys=>refine rE (show lY eq (x::xs) (y::ys)=(eq x y&&lY eq xs ys)from rfl) (rE (j0 ..) ?_);rw[he,ih,EM]
end
theorem aei{L:ax}{o:Option bA}(h:L.any (az j)=ag)(g:get ρ j=o):get (rem L ρ) j=o:=rE (adx ..) (rE h g)
theorem gL{L:ax}{s:bA}{o:Option bA}(h:az i j=ag)(h':L.any (az j)=ag)(g:get ρ j=o):get (put (rem L ρ) i s) j=o:=gN h (aei h' g)
theorem Ji{γ:Type}{f:D→W (List γ)}{h:α→D}{g:α→List γ}{ys:List α}(k:∀y∈ys,f (h y)=aa (g y,ae)):lB f (ys.map h)=aa (ys.flatMap g,ae):=by
 induction ys with
 |nil=>rfl
 |cons y ys ih=>exact W.aS (k y bG) (W.aS (ih λz hz=>k z (cf _ hz)) rfl)
theorem Rh{γ:Type}(g:α→γ)(p:α→Bool)(ys:List α):ys.flatMap (λy=>cond (p y) [g y] [])=(ys.filter p).map g:=by
 induction ys with
 |nil=>rfl
 |cons y ys ih=>refine rE nq ?_;refine rE ih ?_;refine rE uI ?_;cases p y<;>rfl
theorem Ri:oK tok C hs .nil ρ=aa (ae,ae):=rfl
theorem qt{c:RE}(h:ev tok C hs c ρ=aa (.bool b,ae)):oK tok C hs (.cons c .nil) ρ=aa (b,ae):=W.aS h (by induction b<;>rfl)
theorem pd{loc:ax}{t:jl}{it:RI}{ifs:bf}{elt:RE}{ys:List α}{h g:α→D}{p:α→Bool}{r:α→aM}(hI:fP tok C hs it ρ=aa (ys.map h,ae))(hB:∀y∈ys,eU t (h y) (rem loc ρ)=aa (r y))
  (hC:∀y∈ys,oK tok C hs ifs (r y)=aa (p y,ae)) (hE:∀y∈ys,p y→ev tok C hs elt (r y)=aa (g y,ae)) (hl:ys.length≤1000000):ev tok C hs (.comp loc t it ifs .nil elt) ρ=aa (.list ((ys.filter p).map g),ae):=by
 refine W.aS hI (W.aS (a:=(ys.filter p).map g) ?_ (du _ (bO (rE (aQ ..) (aF (wW p ys) hl)))));rw[← Rh g p];refine Ji (g:=λy=>cond (p y) [g y] []) λy hy=>(cA (hB y hy)).trans (W.aS (hC y hy) ?_);induction q:p y with
 |true=>exact W.aS (f:=λx=>W.ret [x]) (hE y hy q) rfl
 |false=>rfl
theorem ik{loc:ax}{t:jl}{it:RI}{elt:RE}{ys:List α}{h g:α→D}{r:α→aM}(hI:fP tok C hs it ρ=aa (ys.map h,ae))(hB:∀y∈ys,eU t (h y) (rem loc ρ)=aa (r y))
  (hE:∀y∈ys,ev tok C hs elt (r y)=aa (g y,ae)) (hl:ys.length≤1000000):ev tok C hs (.comp loc t it .nil .nil elt) ρ=aa (.list (ys.map g),ae):=by
 have:=pd (p:=λZ=>ae) (ifs:=.nil) hI hB (λZ Z=>Ri) (λy hy Z=>hE y hy) hl;replace this:=(U8.mpr λZ Z=>rfl)▸this;exact this
theorem Dr{loc:ax}{t t2:jl}{it Jj:RI}{ifs:bf}{elt:RE}{ys:List α}{h:α→D}{r:α→aM}{zs:α→List β}{h2:β→D}{p:α→β→Bool}{g:α→β→D}{r2:α→β→aM}(hI:fP tok C hs it ρ=aa (ys.map h,ae))(hB:∀y∈ys,eU t (h y) (rem loc ρ)=aa (r y))
  (hJ:∀y∈ys,fP tok C hs Jj (r y)=aa ((zs y).map h2,ae)) (hB2:∀y∈ys,∀z∈zs y,eU t2 (h2 z) (r y)=aa (r2 y z)) (hC:∀y∈ys,∀z∈zs y,oK tok C hs ifs (r2 y z)=aa (p y z,ae))
  (hE:∀y∈ys,∀z∈zs y,p y z→ev tok C hs elt (r2 y z)=aa (g y z,ae)) (hl:(ys.flatMap λy=>((zs y).filter (p y)).map (g y)).length≤1000000):
  ev tok C hs (.comp loc t it .nil (.cons t2 Jj ifs .nil) elt) ρ=aa (.list (ys.flatMap λy=>((zs y).filter (p y)).map (g y)),ae):=by
 refine W.aS hI (W.aS (a:=ys.flatMap λy=>((zs y).filter (p y)).map (g y)) ?_ (du _ (bO hl)));refine Ji (g:=λy=>((zs y).filter (p y)).map (g y)) λy hy=>(cA (hB y hy)).trans (W.aS (a:=ae) rfl ?_);show W.bind (fP tok C hs Jj (r y)) _=_;refine W.aS (hJ y hy) ?_;rw[← Rh (g y) (p y)];refine Ji (g:=λz=>cond (p y z) [g y z] []) λz hz=>(cA (hB2 y hy z hz)).trans (W.aS (hC y hy z hz) ?_);induction q:p y z with
 |true=>exact W.aS (f:=λx=>W.ret [x]) (hE y hy z hz q) rfl
 |false=>rfl
theorem Rj{a:RE}(h:ev tok C hs a ρ=aa (.bool b,ae)):ev tok C hs (.not a) ρ=aa (.bool (!b),ae):=W.aS h rfl
theorem aej(n:Nat):kM 0 n=(bM n).map nD:=by refine rE (QH ..) (rE EP ?_);rfl
theorem kD{e:RE}(h:ev tok C hs e ρ=aa (nD n,ae))(hn:n<1000000):fP tok C hs (.dy e) ρ=aa ((bM n).map nD,ae):=rS (aej ..) (adz h (bO hn))
theorem eP{e:RE}{xs:List D}(h:ev tok C hs e ρ=aa (.list xs,ae)):fP tok C hs (.data e) ρ=aa (xs,ae):=Dh h rfl
theorem jV{t:jl}{it:RI}{b:bP}{xs:List D}(h:fP tok C hs it ρ=aa (xs,ae)):ex tok C CH (.loop t it b) ρ hs=dE (dH C CH t b) xs ρ hs:=Di h
theorem pe{xs:List D}(h:xs.length≤1000000):sW (.list xs)=aa (nD xs.length,ae):=du _ (bO h)
theorem gm{a b:List D}(h:a.length+b.length≤1000000):j7 .add (.list a) (.list b)=aa (.list (a++b),ae):=du _ (bO (aF h (by decide)))
theorem si(x y:ax)(h:x.length+y.length≤1000000):j7 .add (S x) (S y)=aa (S (x++y),ae):=du _ (bO (aF h (by decide)))
theorem Rk(a b:Nat):gQ .eq (nD a) (nD b)=aa (az a b,ae):=congrArg (λb=>aa (b,ae)) (r6 a b)
theorem add_n(a b:Nat):j7 .add (nD a) (nD b)=aa (nD (a+b),ae):=rfl
theorem pf(a b:Nat)(h:b≠0):j7 .mod (nD a) (nD b)=aa (nD (a%b),ae):=by show W.need (fY ((a:Int).fmod (b:Int))) (!((b:Int) == 0))=_;refine rE (show(a:Int).fmod (b:Int)=((a%b:Nat):Int)by refine rE (ES _ (jf b)) ?_;rfl) ?_;exact du _ (by induction b using lq with|zero=>exact absurd rfl h|succ b=>rfl)
theorem ya(a b:Nat)(h:b≠0)(hb:b<1073741824):j7 .fdiv (nD a) (nD b)=aa (nD (a/b),ae):=by
 show W.need (fY ((a:Int).fdiv (b:Int))) (!((b:Int) == 0)&&aU b 1073741824)=_;refine rE (show(a:Int).fdiv (b:Int)=((a/b:Nat):Int)by refine rE (aih _ (jf b)) ?_;rfl) ?_;refine du _ (rE (show aU b 1073741824 from bO hb) ?_);induction b using lq with|zero=>exact absurd rfl h|succ b=>rfl
theorem Ds(a n:Nat)(ha:a<100)(hn:n<1000000):j7 .pow (nD a) (nD n)=aa (nD (a^n),ae):=by show W.need (fY ((a:Int)^n)) (small (a:Int)&&decide (0≤(n:Int))&&aU n 1000000)=_;refine rS (aii ..) (rE (decide_eq_true (jf n)) (rE (show aU n 1000000 from bO hn) (rE (show small (a:Int) from bO (ew ha (by decide))) ?_)));rfl
theorem Rm{a b:Nat}(h:b≤a):j7 .sub (nD a) (nD b)=aa (nD (a - b),ae):=by show W.ret (fY ((a:Int) - (b:Int)))=_;refine rS (Int.ofNat_sub h) ?_;rfl
theorem lj{xs:List D}(h:xs[k]? =aa d)(hk:k<1000000000):kL (.list xs) (nD k)=aa (d,ae):=by show((xs[k]?).bind λd=>W.need d (aU k 1000000000))=_;exact rE h (du _ (bO hk))
theorem Jk{l:ax}{c:Nat}(h:l[k]? =aa c)(hk:k<1000000000):kL (S l) (nD k)=aa (S [c],ae):=by show(((sL (aj l))[k]?).bind λc=>W.need (uB (aj [c])) (aU k 1000000000))=_;exact rE (v8 ..) (rE h (du _ (bO hk)))
theorem yb{xs:List D}(hk:k<1000000000)(hl:xs.length≤1000000):nz (.list xs) af (aa (k:Int)) af=aa (.list (xs.take k),ae):=by show W.need (dQ ((xs.take k).drop 0)) (ae&&uO (aa (k:Int))&&aX xs.length big)=_;exact rE Ko (rE (IT hk) (du _ (bO (aF hl (by decide)))))
theorem wd{xs:List D}(hk:k<1000000000)(hl:xs.length≤1000000):nz (.list xs) (aa (k:Int)) af af=aa (.list (xs.drop k),ae):=by show W.need (dQ (xs.drop k)) (lz (aa (k:Int))&&ae&&aX xs.length big)=_;exact rE (Av hk) (du _ (bO (aF hl (by decide))))
theorem aek{xs:List D}{a b:Nat}(ha:a<1000000000)(hb:b<1000000000)(hl:xs.length≤1000000):nz (.list xs) (aa (a:Int)) (aa (b:Int)) af=aa (.list ((xs.take b).drop a),ae):=by show W.need (dQ ((xs.take b).drop a)) (lz (aa (a:Int))&&uO (aa (b:Int))&&aX xs.length big)=_;exact rE (Av ha) (rE (IT hb) (du _ (bO (aF hl (by decide)))))
theorem Rn{e:RE}{xs ys:List D}(g:get ρ i=aa (.own xs))(h:ev tok C hs e ρ=aa (.list ys,ae))(hl:xs.length+ys.length≤1000000):ex tok C CH (.ext i e) ρ hs=aa (.next (put ρ i (.own (xs++ys))) hs,ae):=
 (cA (Aq g)).trans (W.aS h ((cA (m:=d7 (.list ys)) rfl).trans (W.aS (du () (bO hl)) rfl)))
theorem ael(k:Nat):yS (k:Int)=aa k:=by unfold yS;refine rE (decide_eq_true (jf k)) ?_;rfl
theorem Ro{a e:RE}{xs:List D}(g:get ρ i=aa (.own xs))(h1:ev tok C hs a ρ=aa (nD k,ae))(h2:ev tok C hs e ρ=aa (d,ae))(hl:xs.length<1000000)(hk:k≤xs.length):
  ex tok C CH (.ins i a e) ρ hs=aa (.next (put ρ i (.own (jn d k xs))) hs,ae):=
 (cA (Aq g)).trans (W.aS h1 (W.aS h2 ((cA (m:=cY (nD k)) rfl).trans ((cA (ael k)).trans (W.aS (du () (fM.mpr ⟨bO hl,bO hk⟩)) rfl)))))
theorem Jl{f:α→D}{eq:α→α→Bool}(h:∀x y,dT (f x) (f y)=eq x y)(hs:∀x,c8 k (f x))(hk:k<64)(x:α)(ys:List α):gQ .isin (f x) (.list (ys.map f))=aa (ys.any λy=>eq y x,ae):=by have hx:=(hs x).ok (d4 hk);have hl:=(c8.map hs ys).ok hk;show sU (f x) (.list (ys.map f))=_;unfold sU;show W.need ((ys.map f).any λz=>dT z (f x)) (c9 (.list (ys.map f))&&c9 (f x))=_;refine rE hx (rE hl (rE List.any_map ?_));have:((λz=>dT z (f x))∘f)=λy=>eq y x:=funext λy=>h y x;refine rE this ?_;rfl
theorem Jm{f:α→D}{eq:α→α→Bool}(h:∀x y,dT (f x) (f y)=eq x y)(hs:∀x,c8 k (f x))(hk:k<64)(x:α)(ys:List α):gQ .iy (f x) (.list (ys.map f))=aa (!ys.any λy=>eq y x,ae):=by show sV (sU (f x) (.list (ys.map f)))=_;refine rE (show sU (f x) (.list (ys.map f))=_ from Jl h hs hk x ys) ?_;rfl
theorem aem{f:D→aM→Hs→W Fl}{hs':Hs}{xs ys:List D}(h:dE f xs ρ hs=aa (.next ρ' hs',ae)):dE f (xs++ys) ρ hs=dE f ys ρ' hs':=by
 induction xs generalizing ρ hs with
 |nil=>cases h;rfl
 |cons x xs ih=>
  refine wE (h:W.bind (f x ρ hs) _=_) λfl h1 h2=>?_;induction fl with
  |ret=>cases W.bp h2
  |next=>exact(pa h1).trans (ih h2)
theorem Jn{e:RE}{ss:bP}(h:ev tok C hs e (dX is ρ)=aa (d,ae)):cb tok C CH (.cons (.fz is (.ret e)) ss) ρ hs=aa (.ret d hs,ae):=gZ (s:=.fz is (.ret e)) (show ex tok C CH (.ret e) (dX is ρ) hs=_ from qp h)
theorem oe{t:jl}{b:bP}{x:D}{xs:List D}{bN:aM}{hs':Hs}(h:eU t x ρ=aa bN)(e:cb tok C CH b bN hs=aa (.next ρ' hs',ae)):dE (dH C CH t b) (x::xs) ρ hs=dE (dH C CH t b) xs ρ' hs':=pa (f:=dH C CH t b) ((cA h).trans e)
theorem Jo{t:jl}{b:bP}{x:D}{xs:List D}{bN:aM}{hs':Hs}(h:eU t x ρ=aa bN)(e:cb tok C CH b bN hs=aa (.ret d hs',ae)):dE (dH C CH t b) (x::xs) ρ hs=aa (.ret d hs',ae):=W.aS ((cA h).trans e) rfl
noncomputable def bS(b:Bool):List Nat:=cond b [84,114,117,101] [70,97,108,115,101]
theorem str_bool(b:Bool):gT .str [yE b]=aa (S (bS b),ae):=by induction b<;>rfl
theorem Jp:∀h,(iN h).length≤5∧(fu h).length≤5:=h8 (by decide) (by decide) (by decide) (by decide) (by decide) (by decide) (by decide) (by decide) λZ=>⟨eo _,eo _⟩
theorem Rq{f:α→List Nat}(h:∀x,(f x).length≤k)(xs:List α):(xs.flatMap f).length≤k * xs.length:=by
 induction xs with
 |nil=>exact eo _
 |cons x xs ih=>exact rE nq (rE bt (rE bT (rE (uu ..) (rE (Bl ..) (um ih (h x))))))
theorem Rr(p:Pc):p.txt.length≤6∧p.bare.length≤6:=by obtain⟨c,h,f⟩:=p;refine xA (Jp h) λa b=>?_;induction f<;>(unfold Pc.txt Pc.bare;simp only[cond_true,cond_false,bt,bT,nc];lia)
theorem we(ps:List Pc):(fh ps).length≤6 * ps.length:=Rq (λp=>(Rr p).1) ps
theorem wg(ps:List Pc):(fj ps).length≤6 * ps.length:=Rq (λp=>(Rr p).2) ps
noncomputable def eQ(t x:Nat):Nat:=(x+6 - t)%6
noncomputable def wh(t:Nat)(p:Nat × Nat):Nat × Nat:=cond (aU (eQ t p.1) (eQ t p.2)) (eQ t p.1,eQ t p.2) (eQ t p.2,eQ t p.1)
noncomputable def brk(es:ax)(k:Nat):Nat:=cond (es.any λe=>az e k) 41 40
noncomputable def Jq(l:ax):Bool:=sd [] (lX l 0)
noncomputable def og(L:List (Nat × Nat))(t:Nat):List Nat:=(bM 6).map (brk ((L.map (wh t)).map (·.2)))
noncomputable def mU(L:List (Nat × Nat))(t:Nat):List Bool:=(L.map (wh t)).map λp=>Jq (((og L t).take (p.2+1)).drop p.1)
noncomputable def eR(L:List (Nat × Nat))(t:Nat)(dr:Nat→Nat):List Pc:=(bM 6).map λk=>⟨brk ((L.map (wh t)).map (·.2)) k,dr k,ae⟩
noncomputable def jW(dr:Nat→Nat):D:=.list ((bM 6).map λk=>S (iN (dr k)))
noncomputable def kE(ps:List Pc):D:=.list (ps.map λp=>S p.txt)
noncomputable def Rt(L:List (Nat × Nat)):Prop:=L.length≤10∧∀p∈L,p.1<6∧p.2<6∧p.1≠p.2
theorem aen:∀t<7,∀a<6,∀b<6,a≠b→eQ t a≠eQ t b:=by decide+kernel
theorem aeo{t x:Nat}(h:t≤6):((x:Int) - (t:Int))%6=((eQ t x:Nat):Int):=by unfold eQ;rw[Int.natCast_emod,Int.ofNat_sub (aF h (uH ..)),Int.natCast_add,show(x:Int)+((6:Nat):Int) - (t:Int)=(x:Int) - (t:Int)+6 from Int.add_sub_assoc _ _ _ |>.trans (by rw[aij,aij,Int.add_comm _ (-(t:Int)),← Int.add_assoc];rfl)];exact(Int.add_emod_right ..).symm
theorem Ru{t x:Nat}(h:t≤6):j7 .mod (.int ((x:Int) - (t:Int))) (nD 6)=aa (nD (eQ t x),ae):=by refine(du (fY (((x:Int) - (t:Int)).fmod 6)) rfl).trans (rE (show((x:Int) - (t:Int)).fmod 6=((eQ t x:Nat):Int)by rw[ES _ (by decide)];exact aeo h) ?_);rfl
theorem Rv(es:ax)(k:Nat):mS (brk es k):=by unfold brk;cases es.any _<;>exact⟨by decide,by decide⟩
theorem aep(ps:List Pc)(h:ps.length≤1000):gT .join [S [],kE ps]=aa (S (fh ps),ae):=by
 have e:(ps.map Pc.txt).flatten=fh ps:=by rewrite[fh];exact rE aik rfl
 have:=Aw (ps.map Pc.txt) (rE e (aF (we ps) (aF (yv 6 h) (by decide))));replace this:=dJ▸e▸this;exact this
theorem aeq{e:RE}(h:∀p∈ps,mS p.c)(hl:ps.length≤1000)(he:ev tok (run tok aH (n+2)) hs e ρ=aa (kE ps,ae)):
  ev tok (run tok aH (n+2)) hs (.prim .str (.cons (.call 1 (.cons (.prim .join (.cons (.lit (.str (aj []))) (.cons e .nil))) .nil)) .nil)) ρ=aa (S (bS (Jq (ps.map Pc.c))),ae):=by
 have l1:=we ps;have l2:=wg ps;have:=Q6 n h (.inl rfl) (by lia) (by lia);replace this:=(eg ..)▸this;exact gI ((qo (Ar (aK _) he (aep ps hl))).trans this) (str_bool _)
theorem aer(n:Nat){L:List (Nat × Nat)}(hL:Rt L){t:Nat}(ht:t≤6)(dr:Nat→Nat):run tok aH (n+3) 8 [aJ L,nD t,jW dr]=aa (.tuple [.list ((mU L t).map λb=>S (bS b)),kE (eR L t dr)],ae):=by
 obtain⟨P,hP⟩:∃P,P=L.map (wh t):=⟨_,rfl⟩;obtain⟨E,hE⟩:∃E,E=P.map (·.2):=⟨_,rfl⟩;have Rw:P.length≤10:=rE hP (rE (aQ ..) hL.1)
 have hPr:∀p∈P,p.1<6∧p.2<6:=λp hp=>by replace hp:=hP▸hp;refine aD (fq.mp hp) λq hq e9=>?_;subst e9;have h6:∀x,eQ t x<6:=λx=>j3 _ (by decide);unfold wh;cases aU (eQ t q.1) (eQ t q.2)<;>exact⟨h6 _,h6 _⟩
 refine oa (n:=n+2) (ρ:=[(30,.val (aJ L)),(37,.val (nD t)),(38,.val (jW dr))]) rfl rfl (hs:=[]) ?_;have e1:ev tok (run tok aH (n+2)) ([]:Hs) (.comp [36,35] (.two 36 35) (.data (.var 30)) .nil .nil (.prim .sorted (.cons (.list (.cons (.bin .mod (.bin .sub (.var 36) (.var 37)) (.lit (.int 6))) (.cons (.bin .mod (.bin .sub (.var 35) (.var 37)) (.lit (.int 6))) .nil))) .nil))) [(30,.val (aJ L)),(37,.val (nD t)),(38,.val (jW dr))]=aa (aJ P,ae):=by
  have:=ik (C:=run tok aH (n+2)) (hs:=[]) (loc:=[36,35]) (t:=.two 36 35) (it:=.data (.var 30)) (elt:=.prim .sorted (.cons (.list (.cons (.bin .mod (.bin .sub (.var 36) (.var 37)) (.lit (.int 6))) (.cons (.bin .mod (.bin .sub (.var 35) (.var 37)) (.lit (.int 6))) .nil))) .nil)) (ρ:=[(30,.val (aJ L)),(37,.val (nD t)),(38,.val (jW dr))]) (ys:=L) (h:=pD) (g:=λp=>pD (wh t p)) (r:=λp=>[(30,.val (aJ L)),(37,.val (nD t)),(38,.val (jW dr)),(36,.val (nD p.1)),(35,.val (nD p.2))]) rfl (λZ Z=>rfl) (λp hp=>?_) (aF hL.1 (by decide))
  ·refine rE this (rE hP ?_);show aa (dQ _,ae)=aa (dQ _,ae);refine rE dJ ?_;rfl
  ·refine mr (hL.2 p hp) λh1 h2 h3=>?_;have bQ:eQ t p.1≠eQ t p.2:=aen t (EN ht) _ h1 _ h2 h3;refine gI (x:=.list [nD (eQ t p.1),nD (eQ t p.2)]) (fG (bI (bk (x:=.int ((p.1:Int) - (t:Int))) rfl (aK _) (Ru ht)) (bI (bk (x:=.int ((p.2:Int) - (t:Int))) rfl (aK _) (Ru ht)) di))) ((Rg (l:=[eQ t p.1,eQ t p.2]) (by simp[bQ]) (by decide:2<64)).trans ?_);unfold wh;show aa (dQ ((cond (aU (eQ t p.1) (eQ t p.2)) [eQ t p.1,eQ t p.2] [eQ t p.2,eQ t p.1]:ax).map nD),ae)=_;clear bQ h3 ht hL;cases aU (eQ t p.1) (eQ t p.2)<;>rfl
 refine(bq (c7 e1)).trans ?_;have e2:ev tok (run tok aH (n+2)) ([]:Hs) (.comp [36,35] (.two 36 35) (.data (.var 39)) .nil .nil (.var 35)) [(30,.val (aJ L)),(37,.val (nD t)),(38,.val (jW dr)),(39,.val (aJ P))]=aa (.list (E.map nD),ae):=by have:=ik (C:=run tok aH (n+2)) (hs:=[]) (loc:=[36,35]) (t:=.two 36 35) (it:=.data (.var 39)) (elt:=.var 35) (ρ:=[(30,.val (aJ L)),(37,.val (nD t)),(38,.val (jW dr)),(39,.val (aJ P))]) (ys:=P) (h:=pD) (g:=λp=>nD p.2) (r:=λp=>[(30,.val (aJ L)),(37,.val (nD t)),(38,.val (jW dr)),(39,.val (aJ P)),(36,.val (nD p.1)),(35,.val (nD p.2))]) rfl (λZ Z=>rfl) (λp hp=>rfl) (aF Rw (by decide));refine rE this (rE hE (rE dJ ?_));rfl
 refine(bq (c7 e2)).trans ?_;have e3:ev tok (run tok aH (n+2)) ([]:Hs) (.comp [13] (.one 13) (.dy (.lit (.int 6))) .nil .nil (.bin .add (.ite (.cmp (.var 13) (.cons .isin (.var 40) .nil)) (.lit (.str (aj [41]))) (.lit (.str (aj [40])))) (.aG 38 (.var 13)))) [(30,.val (aJ L)),(37,.val (nD t)),(38,.val (jW dr)),(39,.val (aJ P)),(40,.val (.list (E.map nD)))]=aa (kE (eR L t dr),ae):=by
  refine(ik (ys:=bM 6) (h:=nD) (g:=λk=>S ((⟨brk E k,dr k,ae⟩:Pc)).txt) (r:=λk=>[(30,.val (aJ L)),(37,.val (nD t)),(38,.val (jW dr)),(39,.val (aJ P)),(40,.val (.list (E.map nD))),(13,.val (nD k))]) (kD (n:=6) (aK _) (by decide)) (λZ Z=>rfl) (λk hk=>?_) (by decide)).trans ?_
  ·have hk:=lr.mp hk;have c1:=Jl sf qr (by decide) k E;have c2:ev tok (run tok aH (n+2)) ([]:Hs) (.ite (.cmp (.var 13) (.cons .isin (.var 40) .nil)) (.lit (.str (aj [41]))) (.lit (.str (aj [40])))) [(30,.val (aJ L)),(37,.val (nD t)),(38,.val (jW dr)),(39,.val (aJ P)),(40,.val (.list (E.map nD))),(13,.val (nD k))]=aa (S [brk E k],ae):=by refine(qm (cS rfl rfl c1) rfl).trans ?_;unfold brk;cases E.any λe=>az e k<;>rfl
   refine bk c2 (dp rfl rfl (lj (d:=S (iN (dr k))) ?_ (ew hk (by decide)))) (si _ _ (by have:=(Jp (dr k)).1;refine rE bT (rE nc ?_);lia));refine rE (l9) ?_;refine rE (List.getElem?_range hk) ?_;rfl
  ·refine rE hE (rE hP ?_);unfold eR kE;refine rE dJ ?_;rfl
 refine(bq (c7 e3)).trans (gZ (qp (tV (bI ?_ (bI rfl di)))));have ek:(og L t)=(eR L t dr).map Pc.c:=by unfold og eR;refine rE dJ ?_;rfl
 have Ry:(eR L t dr).length=6:=by unfold eR;exact rE (aQ ..) (rE qL rfl)
 refine(ik (ys:=P) (h:=pD) (g:=λp=>S (bS (Jq (((og L t).take (p.2+1)).drop p.1)))) (r:=λp=>[(30,.val (aJ L)),(37,.val (nD t)),(38,.val (jW dr)),(39,.val (aJ P)),(40,.val (.list (E.map nD))),(41,.val (kE (eR L t dr))),(36,.val (nD p.1)),(35,.val (nD p.2))]) rfl (λZ Z=>rfl) (λp hp=>?_) (aF Rw (by decide))).trans ?_
 ·refine xA (hPr p hp) λh1 h2=>?_;have hc:=aeq (n:=n) (hs:=[]) (ρ:=[(30,.val (aJ L)),(37,.val (nD t)),(38,.val (jW dr)),(39,.val (aJ P)),(40,.val (.list (E.map nD))),(41,.val (kE (eR L t dr))),(36,.val (nD p.1)),(35,.val (nD p.2))]) (e:=.cw 41 (.some (.var 36)) (.some (.bin .add (.var 35) (.lit (.int 1)))) .none)
   (ps:=((eR L t dr).take (p.2+1)).drop p.1) (λq hq=>?_) (by exact rE uw (rE qH (rE Ry (aF (qE ..) (aF (uo ..) (by decide)))))) ?_
  ·exact rE ek (rS wX (rS yP hc))
  ·have:=U9 (Va hq);unfold eR at this;clear hq hp ek e3 e2 e1;refine aD (fq.mp this) λk Z e9=>?_;subst e9;exact Rv _ _
  ·refine(jU rfl (gX (i:=((p.1:Nat):Int)) rfl) (gX (i:=((p.2+1:Nat):Int)) rfl) ee (aek (ew h1 (by decide)) (ew (ail h2) (by decide)) (by refine rE (aQ ..) (rE Ry ?_);decide))).trans ?_;unfold kE;exact rE yP (rE wX rfl)
 ·unfold mU;refine rS hP (rE dJ ?_);rfl
set_option genCtorIdx false in
inductive T where
 |lf (k:Nat)
 |nd (m:Bool) (a b:T)
noncomputable def sg(m:Bool):Nat:=cond m 42 124
noncomputable def tD:T→D
 | .lf k=>nD k
 | .nd m a b=>.list [S [sg m],tD a,tD b]
noncomputable def cn:T→Nat
 | .lf _=>0
 | .nd _ a b=>cn a+cn b+1
noncomputable def dP(l:ax):D:=.list (l.map nD)
noncomputable def cu(l:cP):D:=.list (l.map dP)
noncomputable def comb(c:Bool)(o t:cP):List (List (List Nat)):=cond c [(o.headD []++t.headD [])::(o.tail++t.tail)] [o++t,t++o]
noncomputable def fW:T→List (List (List Nat))
 | .lf k=>[[[k]]]
 | .nd c a b=>(fW a).flatMap λo=>(fW b).flatMap λt=>comb c o t
structure oh(m:Nat)(o:cP):Prop where
 ne:o≠[]
 len:o.length≤m
 pc:∀l∈o,l.length≤m
variable {F:List T}
theorem aes{c:Bool}{o t:cP}(ho:oh m o)(ht:oh n t):∀x∈comb c o t,oh (m+n) x:=by
 intro x hx;obtain⟨a,o,rfl⟩:∃a r,o=a::r:=by induction o using bj with|nil=>exact absurd rfl ho.ne|cons a r=>exact⟨a,r,rfl⟩
 obtain⟨b,t,rfl⟩:∃a r,t=a::r:=by induction t using bj with|nil=>exact absurd rfl ht.ne|cons a r=>exact⟨a,r,rfl⟩
 have h1:=ho.len;have h2:=ht.len;have p1:=ho.pc;have p2:=ht.pc;have w1:∀l∈a::o,l.length≤m+n:=λl h=>aF (p1 l h) (nj _ _);have w2:∀l∈b::t,l.length≤m+n:=λl h=>aF (p2 l h) (uH _ _);rw[bT]at h1 h2;unfold comb at hx;induction c with
 |true=>
  refine rE (dK.mp hx) ⟨nofun,by simp only[bT,bt,List.tail_cons];lia,λl hl=>?_⟩;rcases bE.mp hl with rfl|hl
  ·have:=p1 a bG;have:=p2 b bG;simp only[List.headD_cons,bt];lia
  ·rcases gq.mp hl with hl|hl
   ·exact w1 l (cf _ hl)
   ·exact w2 l (cf _ hl)
 |false=>
  rcases bE.mp hx with rfl|hx
  ·exact⟨nofun,by simp only[bT,bt];lia,λl hl=>(gq.mp hl).elim (w1 l) (w2 l)⟩
  ·exact rE (dK.mp hx) ⟨nofun,by simp only[bT,bt];lia,λl hl=>(gq.mp hl).elim (w2 l) (w1 l)⟩
theorem Jr(c:Bool)(o t:cP):(comb c o t).length≤2:=by unfold comb;induction c with|true=>exact wO _|false=>exact bZ _
theorem Dt:∀t:T,(∀o∈fW t,oh (cn t+1) o)∧(fW t).length≤2^cn t:=by
 intro t;induction t with
 |lf k=>exact⟨λo h=>by refine rE (dK.mp h) ?_;exact⟨nofun,bZ _,λl h=>by refine rE (dK.mp h) ?_;exact bZ _⟩,bZ _⟩
 |nd c a b jz jA=>
  refine⟨λx hx=>?_,?_⟩
  ·refine aD (yO.mp hx) λo ho hx=>aD (yO.mp hx) λt ht hx=>?_;have:=aes (jz.1 o ho) (jA.1 t ht) x hx;exact rE (show cn (.nd c a b)+1=cn a+1+(cn b+1)by show cn a+cn b+1+1=_;lia) this
  ·have l:∀ {α β:Type} (f:α→List β) (m:Nat),(∀x,(f x).length≤m)→∀xs:List α,(xs.flatMap f).length≤xs.length * m:=λf m h xs=>by
    induction xs with
    |nil=>exact eo _
    |cons x xs ih=>exact rE nq (rE bt (rE bT (rE (A0 ..) (rE (Bl ..) (um ih (h x))))))
   refine aF (l _ ((fW b).length * 2) (λo=>l _ 2 (λt=>Jr c o t) _) _) ?_;show _≤2^(cn a+cn b+1);refine rE (Nat.pow_succ ..) (rE (Vb ..) (rE (Vc ..) ?_));exact Vd jz.2 (Vd jA.2 (bZ _))
noncomputable def Ay:RE:=.ite (.cmp (.aG 42 (.lit (.int 0))) (.cons .eq (.lit (.str (aj [42]))) .nil)) (.list (.cons (.bin .add (.bin .add (.list (.cons (.bin .add (.aG 17 (.lit (.int 0))) (.aG 18 (.lit (.int 0)))) .nil)) (.cw 17 (.some (.lit (.int 1))) .none .none)) (.cw 18 (.some (.lit (.int 1))) .none .none)) .nil)) (.list (.cons (.bin .add (.var 17) (.var 18)) (.cons (.bin .add (.var 18) (.var 17)) .nil)))
theorem aet{c:Bool}{a b:T}{o t:cP}(Js:get ρ 42=aa (.val (tD (.nd c a b))))(qe:get ρ 17=aa (.val (cu o)))(rQ:get ρ 18=aa (.val (cu t)))(ho:oh m o)(ht:oh m t)(hm:m≤400000):
  ev tok C ([]:Hs) Ay ρ=aa (.list ((comb c o t).map cu),ae):=by
 have l1:(o.map dP).length≤400000:=rE (aQ ..) (aF ho.len hm)
 have l2:(t.map dP).length≤400000:=rE (aQ ..) (aF ht.len hm)
 have e1:ev tok C ([]:Hs) (.cmp (.aG 42 (.lit (.int 0))) (.cons .eq (.lit (.str (aj [42]))) .nil)) ρ=aa (.bool c,ae):=cS (dp Js (aK _) rfl) (aK _) (by induction c<;>rfl);refine(qm e1 rfl).trans ?_;have add:∀ {x y:RE}{xs ys:List D},ev tok C ([]:Hs) x ρ=aa (.list xs,ae)→ev tok C ([]:Hs) y ρ=aa (.list ys,ae)→xs.length≤400000→ys.length≤400000→ev tok C ([]:Hs) (.bin .add x y) ρ=aa (.list (xs++ys),ae):=λh1 h2 a b=>bk h1 h2 (gm (aF (um a b) (by decide)));unfold comb;induction c with
 |true=>
  obtain⟨x,o,rfl⟩:∃a r,o=a::r:=by induction o using bj with|nil=>exact absurd rfl ho.ne|cons a r=>exact⟨a,r,rfl⟩
  obtain⟨y,t,rfl⟩:∃a r,t=a::r:=by induction t using bj with|nil=>exact absurd rfl ht.ne|cons a r=>exact⟨a,r,rfl⟩
  have hx:(x.map nD).length≤400000:=rE (aQ ..) (aF (ho.pc x bG) hm)
  have hy:(y.map nD).length≤400000:=rE (aQ ..) (aF (ht.pc y bG) hm)
  have Rz:=Eb l1;have l2':=Eb l2;have s1:=add (x:=.aG 17 (.lit (.int 0))) (y:=.aG 18 (.lit (.int 0))) (dp qe (aK _) rfl) (dp rQ (aK _) rfl) hx hy;have s2:ev tok C ([]:Hs) (.cw 17 (.some (.lit (.int 1))) .none .none) ρ=aa (.list (o.map dP),ae):=jU (eK qe) (gX (i:=((1:Nat):Int)) (aK _)) ee ee (wd (k:=1) (by decide) (aF l1 (by decide)));have s3:ev tok C ([]:Hs) (.cw 18 (.some (.lit (.int 1))) .none .none) ρ=aa (.list (t.map dP),ae):=jU (eK rQ) (gX (i:=((1:Nat):Int)) (aK _)) ee ee (wd (k:=1) (by decide) (aF l2 (by decide)));refine(fG (bI (bk (bk (fG (bI s1 di)) s2 (gm (aF (qJ Rz 1) (by decide)))) s3 (gm (aF (um (rE bt (qJ Rz 1)) l2') (by decide)))) di)).trans ?_;show aa (dQ [dQ ([dQ (x.map nD++y.map nD)]++o.map dP++t.map dP)],ae)=aa (dQ [dQ (dP (x++y)::(o++t).map dP)],ae);refine rE (dw (f:=dP)) (rE (show dP (x++y)=dQ (x.map nD++y.map nD)from congrArg dQ dw) ?_);rfl
 |false=>refine(fG (bI (add (aA qe) (aA rQ) l1 l2) (bI (add (aA rQ) (aA qe) l2 l1) di))).trans ?_;show _=aa (dQ [dQ ((o++t).map dP),dQ ((t++o).map dP)],ae);exact rE dw (rE dw rfl)
theorem aeu{c:Bool}{a b:T}{o:cP}(ho:oh m o)(hm:m≤400000):∀ (ts:List (List (List Nat))) (xs:List D) (ρ:aM),(∀t∈ts,oh m t)→xs.length+2 * ts.length≤1000000→get ρ 42=aa (.val (tD (.nd c a b)))→get ρ 17=aa (.val (cu o))→get ρ 43=aa (.own xs)→
  ∃ρ',dE (dH C af (.one 18) (.cons (.ext 43 Ay) .nil)) (ts.map cu) ρ []=aa (.next ρ' [],ae)∧get ρ' 42=aa (.val (tD (.nd c a b)))∧get ρ' 43=aa (.own (xs++(ts.flatMap λt=>comb c o t).map cu)):=by
 intro ts;induction ts with
 |nil=>exact λxs ρ Z Z h1 Z h3=>⟨ρ,rfl,h1,by refine rE Ve ?_;refine rE qU ?_;refine rE (eg ..) ?_;exact h3⟩
 |cons t ts ih=>intro xs ρ ht hl h1 h2 h3;have hc:=Jr c o t;replace hl:=bT▸hl;have e:=Rn (C:=C) (CH:=af) (hs:=[]) (i:=43) (e:=Ay) (ρ:=put ρ 18 (.val (cu t))) (ys:=(comb c o t).map cu) (gN rfl h3) (aet (gN rfl h1) (gN rfl h2) gS ho (ht t bG) hm) (by refine rE (aQ ..) ?_;lia);obtain⟨ρ',e1,e2,e3⟩:=ih (xs++(comb c o t).map cu) (put (put ρ 18 (.val (cu t))) 43 (.own (xs++(comb c o t).map cu))) (λx hx=>ht x (cf _ hx)) (by refine rE bt (rE (aQ ..) ?_);lia) (gN rfl (gN rfl h1)) (gN rfl (gN rfl h2)) gS;exact⟨ρ',(oe rfl (cJ e)).trans e1,e2,by refine rE nq ?_;refine rE dw ?_;refine rS (d5 ..) ?_;exact e3⟩
theorem aev{c:Bool}{a b:T}(hm:m≤400000)(hC:C 9 [tD b]=aa (.list ((fW b).map cu),ae))(hb:∀t∈fW b,oh m t):∀ (os:List (List (List Nat))) (xs:List D) (ρ:aM),(∀o∈os,oh m o)→xs.length+(2 * (fW b).length) * os.length≤1000000→get ρ 42=aa (.val (tD (.nd c a b)))→get ρ 43=aa (.own xs)→
  ∃ρ',dE (dH C af (.one 17) (.cons (.loop (.one 18) (.data (.call 9 (.cons (.aG 42 (.lit (.int 2))) .nil))) (.cons (.ext 43 Ay) .nil)) .nil)) (os.map cu) ρ []=aa (.next ρ' [],ae)∧get ρ' 43=aa (.own (xs++(os.flatMap λo=>(fW b).flatMap λt=>comb c o t).map cu)):=by
 intro os;induction os with
 |nil=>exact λxs ρ Z Z Z h3=>⟨ρ,rfl,by refine rE Ve ?_;refine rE qU ?_;refine rE (eg ..) ?_;exact h3⟩
 |cons o os ih=>
  intro xs ρ ho hl h1 h3;replace hl:=(uu ..)▸bT▸hl;obtain⟨bN,e1,g1,g2⟩:=aeu (C:=C) (c:=c) (a:=a) (b:=b) (ho o bG) hm (fW b) xs (put ρ 17 (.val (cu o))) hb (by lia) (gN rfl h1) gS (gN rfl h3);have hlen:((fW b).flatMap λt=>comb c o t).length≤2 * (fW b).length:=by
   have:∀ts:List (List (List Nat)),(ts.flatMap λt=>comb c o t).length≤2 * ts.length:=λts=>by
    induction ts with
    |nil=>exact eo _
    |cons t ts ih=>exact rE nq (rE bt (rE bT (rE (uu ..) (rE (Bl ..) (um ih (Jr c o t))))))
   exact this _
  obtain⟨ρ',e2,e3⟩:=ih _ bN (λx hx=>ho x (cf _ hx)) (by refine rE bt (rE (aQ ..) ?_);lia) g1 g2;have e:cb tok C af (.cons (.loop (.one 18) (.data (.call 9 (.cons (.aG 42 (.lit (.int 2))) .nil))) (.cons (.ext 43 Ay) .nil)) .nil) (put ρ 17 (.val (cu o))) []=aa (.next bN [],ae):=
   cJ ((jV (eP ((qo (dp (gN rfl h1) (aK _) rfl)).trans hC))).trans e1)
  exact⟨ρ',(oe rfl e).trans e2,by refine rE nq ?_;refine rE dw ?_;refine rS (d5 ..) ?_;exact e3⟩
theorem aew:∀ (t:T) (n:Nat),cn t<n→cn t≤10→run tok aH n 9 [tD t]=aa (.list ((fW t).map cu),ae):=by
 intro t;induction t with
 |lf k=>
  intro n h _;induction n with
  |zero=>exact absurd h (Ex _)
  |succ n=>exact oa rfl rfl (hs:=[]) (by kernel_rfl)
 |nd c a b jz jA=>
  intro n h fT;induction n using lq with
  |zero=>exact absurd h (Ex _)
  |succ n=>
  have fT:cn a+cn b+1≤10:=fT;have h:cn a+cn b+1<n+1:=h;refine xA (Dt a) λa1 a2=>xA (Dt b) λb1 b2=>?_;have up:∀ {k},k≤10→2^k≤1024:=λh=>yQ (by decide) h;have ok:∀ {k x},oh (k+1) x→k≤10→oh 11 x:=λp h=>⟨p.ne,aF p.len (by lia),λl hl=>aF (p.pc l hl) (by lia)⟩;have ha:(fW a).length≤32 * 32:=aF a2 (up (by lia));have hb:(fW b).length≤32 * 32:=aF b2 (up (by lia));have Du:2 * (fW b).length * (fW a).length≤1000000:=by
   have:(fW b).length * (fW a).length≤2^(cn b+cn a):=rE (Vb ..) (Vd b2 a2)
   have:=aF this (up (k:=cn b+cn a) (by lia));refine rE (Vc ..) ?_;lia
  obtain⟨ρ',e1,e2⟩:=aev (C:=run tok aH n) (c:=c) (a:=a) (b:=b) (m:=11) (by decide) (jA n (by lia) (by lia)) (λt ht=>ok (b1 t ht) (by lia)) (fW a) [] [(42,.val (tD (.nd c a b))),(43,.own [])] (λo ho=>ok (a1 o ho) (by lia)) (rE nc (rE (ll ..) Du)) rfl rfl;exact oa (ρ:=[(42,.val (tD (.nd c a b)))]) rfl rfl (hs:=[]) ((bq (fH (d:=.bool ag) rfl rfl jx)).trans ((bq (ρ':=[(42,.val (tD (.nd c a b))),(43,.own [])]) (hs':=[]) rfl).trans ((bq ((jV (eP ((qo (x:=tD a) rfl).trans (jz n (by lia) (by lia))))).trans e1)).trans (gZ (show ex tok _ af (.ret _) (dX [43] ρ') []=_ from qp (aA (wa e2 rfl)))))))
noncomputable abbrev Lk:=List (Nat × Nat)
noncomputable def Dv(k:Nat)(pc:ax):Bool:=pc.any λy=>az y k
noncomputable def fX(p:Nat × Nat)(pc:ax):Bool:=cond (Dv p.1 pc) ae (Dv p.2 pc)
noncomputable def RA(ps:cP)(p:Nat × Nat):Option (Option (List (List Nat))):=match ps.filter (fX p)with
 | []=>af
 |a::r=>match r with
  | []=>aa af
  |b::_=>aa (aa ((ps.filter λpc=> !fX p pc)++[a++b]))
noncomputable def Jt:Lk→List (List Nat)→Option Bool
 | [],_=>aa ae
 |p::L,ps=>(RA ps p).bind λo=>match o with|none=>aa ag|some ps=>Jt L ps
noncomputable def mV(L:Lk):List (List (List Nat))→Option Bool
 | []=>aa ae
 |ps::r=>(Jt L ps).bind λb=>cond b (mV L r) (aa ag)
noncomputable def wt(ps:cP):Nat:=ps.length+ps.flatten.length
theorem wi(x:ax)(ps:cP):wt (x::ps)=x.length+1+wt ps:=by unfold wt;refine rE K3 (rE bt (rE bT ?_));lia
theorem aex(f:List Nat→Bool)(ps:cP):wt (ps.filter f)+wt (ps.filter λx=> !f x)=wt ps:=by
 induction ps with
 |nil=>rfl
 |cons x ps ih=>
  refine rE uI (rE uI (rE (wi ..) ?_));induction f x with
  |true=>refine rE (if_pos rfl) (rE (if_neg (by simp)) (rE (wi ..) ?_));lia
  |false=>simp only[Bool.not_false,if_true,yy,if_false,wi];lia
theorem RB(a b:cP):wt (a++b)=wt a+wt b:=by unfold wt;refine rE Bp (rE bt (rE bt ?_));lia
theorem aey(a b:ax):dT (dP a) (dP b)=lY az a b:=Je sf a b
theorem aez(l:ax):c8 1 (dP l):=.map qr l
noncomputable def RC:RS:=.asg 40 (.comp [46] (.one 46) (.data (.var 45)) (.cons (.or (.cmp (.var 36) (.cons .isin (.var 46) .nil)) (.cmp (.var 35) (.cons .isin (.var 46) .nil))) .nil) .nil (.var 46))
noncomputable def RD:RS:=.ite (.cmp (.bL 40) (.cons .eq (.lit (.int 1)) .nil)) (.cons (.ret (.lit (.bool ag))) .nil) .nil
noncomputable def RF:RS:=.asg 45 (.bin .add (.comp [46] (.one 46) (.data (.var 45)) (.cons (.cmp (.var 46) (.cons .iy (.var 40) .nil)) .nil) .nil (.var 46)) (.list (.cons (.bin .add (.aG 40 (.lit (.int 0))) (.aG 40 (.lit (.int 1)))) .nil)))
noncomputable def yc:bP:=.cons RC (.cons RD (.cons RF .nil))
theorem aeA{ps:cP}{p:Nat × Nat}(h:wt ps≤1000)(g1:get ρ 36=aa (.val (nD p.1)))(g2:get ρ 35=aa (.val (nD p.2)))(g3:get ρ 45=aa (.val (cu ps))):
  ex tok C af RC ρ []=aa (.next (put ρ 40 (.val (cu (ps.filter (fX p))))) [],ae):=by
 refine c7 ((pd (ys:=ps) (h:=dP) (g:=dP) (p:=fX p) (r:=λx=>put (rem [46] ρ) 46 (.val (dP x))) (eP (aA g3)) (λZ Z=>rfl) (λx Z=>?_) (λZ Z Z=>aA gS) (aF (nj _ _) (aF h (by decide)))).trans rfl);have c:∀k,gQ .isin (nD k) (dP x)=aa (Dv k x,ae):=λk=>Jl sf qr (by decide) k x;refine qt ((IJ (cS (aA (gL rfl rfl g1)) (aA gS) (c p.1)) rfl).trans ?_);unfold fX;induction Dv p.1 x with
 |true=>rfl
 |false=>exact cS (aA (gL rfl rfl g2)) (aA gS) (c p.2)
theorem aeB(ps:cP)(f:List Nat→Bool){x:ax}(hx:x∈ps):(ps.filter f).any (λy=>lY az y x)=f x:=by
 induction q:f x with
 |true=>exact Vf.mpr ⟨x,yR.mpr ⟨hx,q⟩,(Jh beq_iff x x).mpr rfl⟩
 |false=>refine U4.mpr λy hy e=>?_;obtain rfl:=(Jh beq_iff y x).mp e;exact zT ((yR.mp hy).2▸q)
theorem aeC{ps:cP}{p:Nat × Nat}{a b:ax}{r:cP}(h:wt ps≤1000)(he:ps.filter (fX p)=a::b::r)(g1:get ρ 40=aa (.val (cu (ps.filter (fX p)))))(g3:get ρ 45=aa (.val (cu ps))):
  ex tok C af RF ρ []=aa (.next (put ρ 45 (.val (cu ((ps.filter λpc=> !fX p pc)++[a++b])))) [],ae)∧wt ((ps.filter λpc=> !fX p pc)++[a++b])≤1000:=by
 have hw:=aex (fX p) ps;have hl:(ps.filter λpc=> !fX p pc).length≤wt (ps.filter λpc=> !fX p pc):=nj _ _;replace hw:=(wi ..)▸(wi ..)▸he▸hw;have h1:ev tok C ([]:Hs) (.comp [46] (.one 46) (.data (.var 45)) (.cons (.cmp (.var 46) (.cons .iy (.var 40) .nil)) .nil) .nil (.var 46)) ρ=aa (cu (ps.filter λpc=> !fX p pc),ae):=by refine(pd (ys:=ps) (h:=dP) (g:=dP) (p:=λpc=> !fX p pc) (r:=λx=>put (rem [46] ρ) 46 (.val (dP x))) (eP (aA g3)) (λZ Z=>rfl) (λx hx=>?_) (λZ Z Z=>aA gS) (aF (nj _ _) (aF h (by decide)))).trans rfl;have:=Jm aey aez (by decide) x (ps.filter (fX p));replace this:=aeB ps (fX p) hx▸this;exact qt (cS (aA gS) (aA (gL rfl rfl g1)) this)
 replace g1:=he▸g1;refine⟨c7 ((bk h1 (fG (bI (bk (dp g1 (aK _) rfl) (dp g1 (aK _) rfl) (gm (by refine rE (aQ ..) (rE (aQ ..) ?_);lia))) di)) (gm (by refine rE (aQ ..) ?_;show _+1≤_;lia))).trans ?_),by refine rE (RB ..) ?_;refine rE (wi ..) ?_;refine rE (show wt []=0 from rfl) ?_;refine rE bt ?_;lia⟩;show aa (dQ (_++[dQ (a.map nD++b.map nD)]),ae)=aa (dQ (((ps.filter λpc=> !fX p pc)++[a++b]).map dP),ae);refine rE (dw (f:=dP)) (rS (dw (f:=nD)) ?_);rfl
theorem aeD:∀ (L:Lk) (ps:cP) (ρ:aM) (b:Bool) (l0 p0:D),wt ps≤1000→get ρ 45=aa (.val (cu ps))→get ρ 30=aa (.val l0)→get ρ 44=aa (.val p0)→Jt L ps=aa b→
  cond b (∃ρ',dE (dH C af (.two 36 35) yc) (L.map pD) ρ []=aa (.next ρ' [],ae)∧get ρ' 30=aa (.val l0)∧get ρ' 44=aa (.val p0)) (dE (dH C af (.two 36 35) yc) (L.map pD) ρ []=aa (.ret (.bool ag) [],ae)):=by
 intro L;induction L with
 |nil=>intro ps ρ b l0 p0 _ _ h1 h2 h;replace h:=iJ h;subst h;exact⟨ρ,rfl,h1,h2⟩
 |cons p L ih=>
  intro ps ρ b l0 p0 hw RG kr wj h;refine oE h λo h1 h2=>?_;have ea:=aeA (C:=C) (ρ:=put (put ρ 36 (.val (nD p.1))) 35 (.val (nD p.2))) (p:=p) hw (gN rfl gS) gS (gN rfl (gN rfl RG));have hlen:∀ {ρ:aM},get ρ 40=aa (.val (cu (ps.filter (fX p))))→ev tok C ([]:Hs) (.cmp (.bL 40) (.cons .eq (.lit (.int 1)) .nil)) ρ=aa (.bool (az (ps.filter (fX p)).length 1),ae):=λg=>by refine rS (r6 ..) ?_;have:=kB (tk:=tok) (C:=C) (hs:=[]) (eK g) (pe (rE (aQ ..) (aF (wW _ _) (aF (nj _ _) (aF hw (by decide))))));replace this:=(aQ ..)▸this;exact cS this (aK _) rfl
  have hb:eU (.two 36 35) (pD p) ρ=aa (put (put ρ 36 (.val (nD p.1))) 35 (.val (nD p.2))):=rfl;unfold RA at h1;induction q:ps.filter (fX p)using bj with
  |nil=>exact zN (q▸h1)
  |cons a r=>
   replace h1:=q▸h1;have hl:=hlen (gS (ρ:=put (put ρ 36 (.val (nD p.1))) 35 (.val (nD p.2))));induction r using bj with
   |nil=>replace h1:=iJ h1;subst h1;replace h2:=iJ h2;subst h2;replace hl:=(show az (ps.filter (fX p)).length 1 by refine rE q ?_;rfl)▸hl;exact Jo hb (show cb tok C af yc _ []=_ from(bq ea).trans (gZ (ij hl rfl (gZ (qp (aK _))))))
   |cons c r=>replace h1:=iJ h1;subst h1;replace hl:=(show az (ps.filter (fX p)).length 1=ag by refine rE q ?_;rfl)▸hl;obtain⟨ec,hw'⟩:=aeC (C:=C) (ρ:=put (put (put ρ 36 (.val (nD p.1))) 35 (.val (nD p.2))) 40 (.val (cu (ps.filter (fX p))))) hw q gS (gN rfl (gN rfl (gN rfl RG)));have:=ih _ (put (put (put (put ρ 36 (.val (nD p.1))) 35 (.val (nD p.2))) 40 (.val (cu (ps.filter (fX p))))) 45 (.val (cu ((ps.filter λpc=> !fX p pc)++[a++c])))) b l0 p0 hw' gS (gN rfl (gN rfl (gN rfl (gN rfl kr)))) (gN rfl (gN rfl (gN rfl (gN rfl wj)))) h2;have st:=oe (xs:=L.map pD) hb (show cb tok C af yc _ []=_ from(bq ea).trans ((bq (show ex tok C af RD _ []=_ from fH hl rfl jx)).trans (cJ ec)));replace this:=st.symm▸this;exact this
theorem aeE(n:Nat){L:Lk}{P:List (List (List Nat))}(hw:∀ps∈P,wt ps≤1000)(h:mV L P=aa b):run tok aH (n+1) 10 [.list (P.map cu),aJ L]=aa (.bool b,ae):=by
 refine oa (ρ:=[(44,.val (.list (P.map cu))),(30,.val (aJ L))]) rfl rfl (hs:=[]) ?_;have key:∀ (Q:List (List (List Nat))) (ρ:aM),(∀ps∈Q,wt ps≤1000)→get ρ 30=aa (.val (aJ L))→get ρ 44=aa (.val (.list (P.map cu)))→mV L Q=aa b→
   cond b (∃ρ',dE (dH (run tok aH n) af (.one 45) (.cons (.loop (.two 36 35) (.data (.var 30)) yc) .nil)) (Q.map cu) ρ []=aa (.next ρ' [],ae)) (dE (dH (run tok aH n) af (.one 45) (.cons (.loop (.two 36 35) (.data (.var 30)) yc) .nil)) (Q.map cu) ρ []=aa (.ret (.bool ag) [],ae)):=by
  intro Q;induction Q with
  |nil=>intro ρ _ _ _ h;replace h:=iJ h;subst h;exact⟨ρ,rfl⟩
  |cons ps Q ih=>
   intro ρ hw kr wj h;refine oE h λb' h1 h2=>?_;have:=aeD (C:=run tok aH n) L ps (put ρ 45 (.val (cu ps))) b' _ _ (hw ps bG) gS (gN rfl kr) (gN rfl wj) h1;induction b' with
   |true=>refine j8 this λρ' e1 e2 e3=>rE iT (rE (oe rfl (cJ ((jV (eP (aA (gN rfl kr)))).trans e1))) ?_);exact ih ρ' (λx hx=>hw x (cf _ hx)) e2 e3 h2
   |false=>replace h2:=iJ h2;subst h2;exact Jo rfl (gZ ((jV (eP (aA (gN rfl kr)))).trans this))
 have:=key P [(44,.val (.list (P.map cu))),(30,.val (aJ L))] hw rfl rfl h;induction b with
 |true=>exact xE this λρ' e=>(bq ((jV (eP (xs:=P.map cu) rfl)).trans e)).trans (gZ (qp (aK _)))
 |false=>exact gZ ((jV (eP (xs:=P.map cu) rfl)).trans this)
noncomputable def pg(L:Lk):List Nat:=L.flatMap λp=>[p.1,p.2]
noncomputable def free(L:Lk)(k:Nat):Bool:= !(pg L).any λy=>az y k
noncomputable def lZ(M:cP):D:=.list (M.map dP)
noncomputable def ph(M:cP)(L:Lk):Option (List Lk):=match (bM 6).filter (free L)with
 | []=>af
 |f::_=>(M[f]?).map λms=>(ms.filter (free L)).map λq=>L++[(f,q)]
theorem aeF(n:Nat){M:cP}{L:Lk}{R:List Lk}(hL:L.length≤100)(hM:∀m∈M,m.length≤1000)(h:ph M L=aa R):run tok aH (n+1) 7 [aJ L,lZ M]=aa (.list (R.map aJ),ae):=by
 refine oa (ρ:=[(30,.val (aJ L)),(31,.val (lZ M))]) rfl rfl (hs:=[]) ?_;have hu:∀L:Lk,(pg L).length≤2 * L.length:=λL=>by
  unfold pg;induction L with
  |nil=>exact eo _
  |cons p L ih=>simp only[nq,bt,bT,nc];lia
 have e1:ev tok (run tok aH n) ([]:Hs) (.comp [34,7] (.one 34) (.data (.var 30)) .nil (.cons (.one 7) (.data (.var 34)) .nil .nil) (.var 7)) [(30,.val (aJ L)),(31,.val (lZ M))]=aa (dP (pg L),ae):=by
  have e:(L.flatMap λp=>(([p.1,p.2]).filter λZ=>ae).map nD)=(pg L).map nD:=by unfold pg;refine rE K4 ?_;rfl
  refine(Dr (ys:=L) (h:=pD) (zs:=λp=>[p.1,p.2]) (h2:=nD) (p:=λZ Z=>ae) (g:=λZ k=>nD k) (r:=λp=>[(30,.val (aJ L)),(31,.val (lZ M)),(34,.val (pD p))]) (r2:=λp k=>[(30,.val (aJ L)),(31,.val (lZ M)),(34,.val (pD p)),(7,.val (nD k))]) rfl (λZ Z=>rfl) (λZ Z=>rfl) (λZ Z Z Z=>rfl) (λZ Z Z Z=>Ri) (λZ Z Z Z Z=>rfl) ?_).trans ?_
  ·refine rE e (rE (aQ ..) ?_);have:=hu L;lia
  ·refine rE e ?_;rfl
 refine(bq (c7 e1)).trans ?_;have RH:∀ {ρ:aM}{i k:Nat},get ρ 32=aa (.val (dP (pg L)))→get ρ i=aa (.val (nD k))→oK tok (run tok aH n) ([]:Hs) (.cons (.cmp (.var i) (.cons .iy (.var 32) .nil)) .nil) ρ=aa (free L k,ae):=λ{ρ i k} g1 g2=>
  qt (cS (aA g2) (aA g1) (Jm sf qr (by decide) k (pg L)))
 unfold ph at h;have e2:ev tok (run tok aH n) ([]:Hs) (.comp [36] (.one 36) (.dy (.lit (.int 6))) (.cons (.cmp (.var 36) (.cons .iy (.var 32) .nil)) .nil) .nil (.var 36)) [(30,.val (aJ L)),(31,.val (lZ M)),(32,.val (dP (pg L)))]=aa (dP ((bM 6).filter (free L)),ae):=
  pd (ys:=bM 6) (h:=nD) (g:=nD) (p:=free L) (r:=λk=>[(30,.val (aJ L)),(31,.val (lZ M)),(32,.val (dP (pg L))),(36,.val (nD k))]) (kD (n:=6) (aK _) (by decide)) (λZ Z=>rfl) (λk Z=>RH rfl rfl) (λZ Z Z=>rfl) (by decide)
 induction q:(bM 6).filter (free L)using bj with
 |nil=>exact zN (q▸h)
 |cons f r=>
  rw[q]at h e2;refine aD (sM.mp h) λms h1 e9=>?_;subst e9;have hf:f<6:=lr.mp (yR.mp (rE q bG)).1;refine(bq (c7 (d:=nD f) (tU e2 (aK _) rfl))).trans (gZ (qp ?_));refine(pd (ys:=ms) (h:=nD) (g:=λk=>aJ (L++[(f,k)])) (p:=free L) (r:=λk=>[(30,.val (aJ L)),(31,.val (lZ M)),(32,.val (dP (pg L))),(33,.val (nD f)),(35,.val (nD k))]) (eP (xs:=ms.map nD) (dp rfl rfl (lj (by refine rE (l9) ?_;refine rE h1 ?_;rfl) (ew hf (by decide))))) (λZ Z=>rfl) (λk Z=>RH rfl rfl) (λk Z Z=>?_) (aF (hM ms (sJ h1)) (by decide))).trans ?_
  ·refine(bk (x:=aJ L) (y:=.list [pD (f,k)]) rfl rfl (gm (by refine rE (aQ ..) ?_;show _+1≤_;lia))).trans ?_;unfold aJ;refine rE dw ?_;rfl
  ·refine rE dJ ?_;rfl
noncomputable def qu:List T→Option (List T × T × T × List T)
 | []=>af
 |t::r=>match t with
  | .lf k=>(qu r).map λq=>(.lf k::q.1,q.2)
  | .nd m a b=>cond m ((qu r).map λq=>(.nd m a b::q.1,q.2)) (aa ([],a,b,r))
noncomputable def cL{α β:Type}(f:α→Option (List β)):List α→Option (List β)
 | []=>aa []
 |x::xs=>(f x).bind λa=>(cL f xs).bind λb=>aa (a++b)
noncomputable def jb:Lk→Lk→Bool:=lY se
noncomputable def dd(pre:List Lk):List Lk→List Lk
 | []=>[]
 |x::r=>cond (pre.any λy=>jb y x) (dd (pre++[x]) r) (x::dd (pre++[x]) r)
theorem aeG(pre:List Lk)(gM:Lk)(r:List Lk):dd pre (gM::r)=bif List.any pre λy=>jb y gM then dd (pre++[gM]) r else gM::dd (pre++[gM]) r:=rfl
noncomputable def bit(m j:Nat):Bool:=az ((m/2^j)&&&1) 1
noncomputable def sel(rest:List T)(m:Nat)(b:Bool):List T:=(rest.zipIdx.filter λp=>cond b (bit m p.2) (!bit m p.2)).map (·.1)
noncomputable def base(p:Nat→Nat→Bool)(seq:List T):List Lk:=match seq with
 | []=>[]
 |x::r=>match r with
  | []=>[]
  |y::q=>match q with
   | []=>(match x with
    | .lf i=>(match y with
     | .lf j=>cond (p i j) [[cond (aU i j) (i,j) (j,i)]] []
     | .nd .. =>[])
    | .nd .. =>[])
   |_::_=>[]
noncomputable def Dw:Lk→Bool
 | []=>ae
 |x::r=>cond (r.any λy=>se y x) ag (Dw r)
noncomputable def mX(l:Lk):Option (List Lk):=cond (aU l.length 64&&Dw l) (aa [jy pb l]) af
noncomputable def fin(l:List Lk):Option (List Lk):=cond (aX l.length 1000&&aU (dd [] l).length 64) (aa (jy Ja (dd [] l))) af
section
variable(p:Nat→Nat→Bool)(ring:Bool)
noncomputable def dS(jc:List T→Option (List Lk))(seq:List T):Option (List Lk):=match qu seq with
 |some q=>jc (q.1++[q.2.1,q.2.2.1]++q.2.2.2)
 |none=>(cL (fun(tk:T × Nat)=>match tk.1 with
  | .lf _=>aa []
  | .nd _ a b=>cL (λm=>cond (ring&& !Nat.beq (m&&&(m+1)) 0) (aa [])
    ((jc (sel (seq.drop (tk.2+1)++seq.take tk.2) m ag++[a])).bind λos=>match os with
     | []=>aa []
     |o::os=>(jc (b::sel (seq.drop (tk.2+1)++seq.take tk.2) m ae)).bind λts=>cL (λo=>cL (λt=>mX (o++t)) ts) (o::os)))
    (bM (2^(seq.drop (tk.2+1)++seq.take tk.2).length))) seq.zipIdx).bind λr=>fin (base p seq++r)
noncomputable def jc:Nat→List T→Option (List Lk)
 |0,_=>af
 |n+1,seq=>dS p ring (jc n) seq
end
theorem Ju{f g:α→Option (List β)}{s:β→Bool}:∀ {xs:List α}{R:List β},(∀x∈xs,∀r,f x=aa r→g x=aa (r.filter s))→cL f xs=aa R→cL g xs=aa (R.filter s):=by
 intro xs;induction xs with
 |nil=>intro R _ h;replace h:=iJ h;subst h;rfl
 |cons x xs ih=>intro R k h;refine oE h λa h1 h2=>oE h2 λb h3 h4=>?_;replace h4:=iJ h4;subst h4;show(g x).bind _=_;refine rE (k x bG a h1) ?_;show(cL g xs).bind _=_;refine rE (ih (λy hy=>k y (cf _ hy)) h3) (rE (wY ..) ?_);rfl
theorem Jv(a b:Lk):jb a b↔a=b:=Jh Jb a b
theorem Jw(pre:List Lk)(x:Lk):pre.any (λy=>jb y x)↔x∈pre:=by rw[Vf];exact⟨λ⟨y,hy,e⟩=>(Jv y x).mp e▸hy,λh=>⟨x,h,(Jv x x).mpr rfl⟩⟩
theorem aeH(s:Lk→Bool):∀ (l pre mL:List Lk),(∀x,s x→(x∈pre↔x∈mL))→dd mL (l.filter s)=(dd pre l).filter s:=by
 intro l;induction l with
 |nil=>exact λZ Z Z=>rfl
 |cons x r ih=>
  intro pre mL h;show _=List.filter s (cond (pre.any λy=>jb y x) (dd (pre++[x]) r) (x::dd (pre++[x]) r));induction q:s x with
  |false=>
   refine rE (Br (by refine rE q ?_;exact f9)) ?_;have ih:=ih (pre++[x]) mL λy hy=>by rewrite[gq];rewrite[dK];rw[h y hy];exact⟨λk=>k.elim id λe=>(by replace hy:=e▸hy;replace hy:=q▸hy;exact zF hy),.inl⟩
   refine rE ih ?_;induction pre.any λy=>jb y x with
   |true=>rfl
   |false=>refine rE (cond_false ..) ?_;exact rE (Br (by refine rE q ?_;exact f9)) rfl
  |true=>
   refine rE (Bs q) ?_;have ih:=ih (pre++[x]) (mL++[x]) λy hy=>by rewrite[gq];rewrite[gq];rw[h y hy]
   have e:(mL.any λy=>jb y x)=pre.any λy=>jb y x:=by rewrite[aim];rewrite[Jw];rw[Jw];exact(h x q).symm
   show cond (mL.any λy=>jb y x) (dd (mL++[x]) (r.filter s)) (x::dd (mL++[x]) (r.filter s))=_;refine rE e ?_;refine rE ih ?_;induction pre.any λy=>jb y x with
   |true=>rfl
   |false=>refine rE (cond_false ..) ?_;refine rE (cond_false ..) ?_;exact rE (Bs q) rfl
theorem RJ:∀ (l pre:List Lk),(∀x∈dd pre l,x∉pre)∧(dd pre l).Nodup:=by
 intro l;induction l with
 |nil=>exact λZ=>⟨λZ h=>(nomatch h),yG⟩
 |cons x r ih=>
  intro pre;refine xA (ih (pre++[x])) λa b=>?_;have a':∀y∈dd (pre++[x]) r,y∉pre:=λy hy k=>a y hy (A9 _ k);refine rE (aeG ..) ?_;induction q:pre.any λy=>jb y x with
  |true=>exact⟨a',b⟩
  |false=>
   refine⟨λy hy=>?_,uE.mpr ⟨λk=>a x k (yJ _ bG),b⟩⟩;rcases bE.mp hy with rfl|hy
   ·exact λk=>by replace q:=(Jw _ _).mpr k▸q;exact zT q
   ·exact a' y hy
theorem aeI{lt:α→α→Bool}(s:α→Bool){l:List α}(h:tZ lt l):tZ lt (l.filter s):=ahF.filter s h
theorem aeJ{lt:α→α→Bool}(S:SO lt)(s:α→Bool){l:List α}(nd:l.Nodup):jy lt (l.filter s)=(jy lt l).filter s:=
 Ra S (I0 S _ (nd.filter s)) (aeI s (I0 S l nd)) ((x9 _).trans ((x9 l).filter s).symm)
theorem aeK(s:Lk→Bool){l R:List Lk}(h:fin l=aa R):fin (l.filter s)=aa (R.filter s):=by
 refine xA (cj h) λh1 h2=>?_;clear h;replace h2:=iJ h2;subst h2;refine xA (cg h1) λh1 h3=>?_;have e:=aeH s l [] [] λZ Z=>Ba;unfold fin;rw[e,show aX (l.filter s).length 1000 from bO (aF (wW _ _) (bc h1)),
  show aU ((dd [] l).filter s).length 64 from bO (jj (wW _ _) (bc h3)),aeJ SO.link s (RJ l []).2];rfl
noncomputable def dZ(p:Nat→Nat→Bool)(l:Lk):Bool:=l.all λq=>p q.1 q.2
theorem aeL(p:Nat→Nat→Bool)(l:Lk):dZ p (jy pb l)=dZ p l:=by unfold dZ;rewrite[aim];rewrite[fk];rw[fk];exact⟨λh x hx=>h x ((x9 l).mem_iff.mpr hx),λh x hx=>h x ((x9 l).mem_iff.mp hx)⟩
theorem Jx{p:Nat→Nat→Bool}{o t:Lk}{r:List Lk}(h:mX (o++t)=aa r):r.filter (dZ p)=cond (dZ p o&&dZ p t) r []:=by
 refine xA (cj h) λZ h2=>?_;clear h;replace h2:=iJ h2;subst h2;have e:dZ p (jy pb (o++t))=(dZ p o&&dZ p t):=rE (aeL ..) List.all_append
 induction q:(dZ p o&&dZ p t)with
 |true=>replace e:=q▸e;exact Bs e
 |false=>replace e:=q▸e;exact Br (rE e f9)
theorem aeM{f:α→Option (List β)}{s:β→Bool}{k:α→Bool}:∀ {xs:List α}{R:List β},(∀x∈xs,k x=ag→∀r,f x=aa r→r.filter s=[])→cL f xs=aa R→(∀x∈xs,k x→∀r,f x=aa r→r.filter s=r)→cL f (xs.filter k)=aa (R.filter s):=by
 intro xs;induction xs with
 |nil=>intro R _ h _;replace h:=iJ h;subst h;rfl
 |cons x xs ih=>
  intro R h1 h h2;refine oE h λa e1 e2=>oE e2 λb e3 e4=>?_;replace e4:=iJ e4;subst e4;have ih:=ih (λy hy=>h1 y (cf _ hy)) e3 λy hy=>h2 y (cf _ hy);induction q:k x with
  |true=>refine rE (Bs q) (rE (wY ..) (rE (h2 x bG q a e1) ?_));show(f x).bind _=_;refine rE e1 ?_;show(cL f _).bind _=_;refine rE ih ?_;rfl
  |false=>refine rE (Br (by refine rE q ?_;exact f9)) ?_;refine rE (wY ..) ?_;refine rE (h1 x bG q a e1) ?_;exact ih
theorem aeN{p:Nat→Nat→Bool}{os ts R:List Lk}(h:cL (λo=>cL (λt=>mX (o++t)) ts) os=aa R):cL (λo=>cL (λt=>mX (o++t)) (ts.filter (dZ p))) (os.filter (dZ p))=aa (R.filter (dZ p)):=by
 have h1:∀ {xs:List Lk}{R':List Lk},(∀o∈xs,dZ p o)→cL (λo=>cL (λt=>mX (o++t)) ts) xs=aa R'→cL (λo=>cL (λt=>mX (o++t)) (ts.filter (dZ p))) xs=aa (R'.filter (dZ p)):=λho h=>
  Ju (λo hx r hr=>aeM (k:=dZ p) (λt Z q r hr=>by refine rE (Jx hr) ?_;refine rE q ?_;refine rE (ahM ..) ?_;rfl) hr λt Z q r hr=>by refine rE (Jx hr) ?_;refine rE q ?_;refine rE (ho o hx) ?_;rfl) h
 have h2:∀ {R:List Lk},cL (λo=>cL (λt=>mX (o++t)) ts) os=aa R→∃R',cL (λo=>cL (λt=>mX (o++t)) ts) (os.filter (dZ p))=aa R'∧R'.filter (dZ p)=R.filter (dZ p):=by
  clear h h1;induction os with
  |nil=>intro R h;replace h:=iJ h;subst h;exact⟨[],rfl,rfl⟩
  |cons o os ih=>
   intro R h;refine oE h λa e1 e2=>oE e2 λb e3 e4=>?_;replace e4:=iJ e4;subst e4;refine aD (ih e3) λR' f1 f2=>?_;induction q:dZ p o with
   |true=>refine rE (Bs q) ⟨a++R',?_,by refine rE (wY ..) ?_;refine rE (wY ..) ?_;exact rE f2 rfl⟩;have e1:cL (λt=>mX (o++t)) ts=aa a:=e1;show(cL _ ts).bind _=_;refine rE e1 ?_;show(cL _ _).bind _=_;refine rE f1 ?_;rfl
   |false=>
    refine rE (Br (by refine rE q ?_;exact f9)) ?_;refine rE (wY ..) ?_;refine⟨R',f1,?_⟩;have:∀ {xs:List Lk}{r:List Lk},cL (λt=>mX (o++t)) xs=aa r→r.filter (dZ p)=[]:=by
     intro xs;induction xs with
     |nil=>intro r h;replace h:=iJ h;subst h;rfl
     |cons x xs ih=>intro r h;refine oE h λa g1 g2=>oE g2 λb g3 g4=>?_;replace g4:=iJ g4;subst g4;refine rE (wY ..) (rE (ih g3) (rE (Jx g1) (rE q (rE (ahB ..) ?_))));rfl
    refine rE (this e1) (rE f2 ?_);rfl
 exact aD (h2 h) λR' f1 f2=>rS f2 (h1 (λo ho=>(yR.mp ho).2) f1)
set_option tactic.hygienic true in
theorem aeO{p:Nat→Nat→Bool}(hp:∀i j,p i j=p j i)(seq:List T):base p seq=(base (λ_ _=>ae) seq).filter (dZ p):=by
 unfold base;split
 ·rfl
 ·split
  ·rfl
  ·split
   ·split
    ·split
     ·rename_i i _ j;have e:dZ p [cond (aU i j) (i,j) (j,i)]=p i j:=by
       show((p (cond _ _ _:Nat × Nat).1 (cond _ _ _:Nat × Nat).2)&&ae)=_;refine rE (EK ..) ?_;induction aU i j with
       |true=>rfl
       |false=>exact hp j i
      show _=List.filter (dZ p) [[cond (aU i j) (i,j) (j,i)]];induction q:p i j with
      |true=>replace e:=q▸e;refine rE (Bs e) ?_;rfl
      |false=>replace e:=q▸e;refine rE (Br (by refine rE e ?_;exact f9)) ?_;rfl
     ·rfl
    ·rfl
   ·rfl
theorem RK{p:Nat→Nat→Bool}(hp:∀i j,p i j=p j i)(ring:Bool):∀ (n:Nat) (seq:List T) (R:List Lk),jc (λZ Z=>ae) ring n seq=aa R→jc p ring n seq=aa (R.filter (dZ p)):=by
 intro n;induction n with
 |zero=>exact λZ Z h=>nomatch h
 |succ n ih=>
  intro seq R h;unfold jc dS at h ⊢;induction q:qu seq with
  |some s=>replace h:=q▸h;exact ih _ _ h
  |none=>
   replace h:=q▸h;refine oE h λr h1 h2=>?_;have:=aeK (dZ p) h2;replace this:=(wY ..)▸this;rw[← aeO hp]at this;refine(cA (Ju (s:=dZ p) (λtk Z r hr=>?_) h1)).trans this;obtain⟨t,k⟩:=tk;induction t with
   |lf=>replace hr:=iJ hr;subst hr;rfl
   |nd m a b=>
    refine Ju (λm Z r hr=>?_) hr;induction q2:(ring&& !Nat.beq (m&&&(m+1)) 0)with
    |true=>dsimp only at hr ⊢;replace hr:=iJ (q2▸hr);subst hr;rfl
    |false=>
     dsimp only at hr ⊢;replace hr:=(cond_false ..)▸q2▸hr;refine oE hr λos g1 g2=>rE (cond_false ..) (rE (ih _ _ g1) ?_);show(match os.filter (dZ p)with| []=>_|o::os=>_)=_;induction os using bj with
     |nil=>replace g2:=iJ g2;subst g2;rfl
     |cons o os=>
      refine oE g2 λts g3 g4=>?_;have e:=aeN (p:=p) g4;refine rE (ih _ _ g3) ?_;induction q3:(o::os).filter (dZ p)using bj with
      |nil=>replace e:=q3▸e;exact e
      |cons o' os'=>replace e:=q3▸e;exact e
theorem c8.mono(h:c8 k d)(hk:k≤m):c8 m d:=⟨h.c,aF h.d hk⟩
theorem Dx{l:ax}(h:∀c∈l,c<1114112)(k:Nat):c8 k (S l):=by refine⟨?_,eo _⟩;show(⟨l⟩:Array Nat).all (λc=>decide (c<0x110000));exact rS Array.all_toList (fk.mpr λc hc=>decide_eq_true (h c hc))
theorem c8.tuple{xs:List D}(h:∀x∈xs,c8 k x):c8 (k+1) (.tuple xs):=⟨(c8.all h).1,m7 (c8.all h).2⟩
theorem RL(a b:Lk):dT (aJ a) (aJ b)=jb a b:=Je Rf a b
theorem RM(a b:Nat):DY (a:Int) (b:Int)=((a&&&b:Nat):Int):=by unfold DY;refine rE (decide_eq_true (jf a)) (rE (decide_eq_true (jf b)) ?_);rfl
noncomputable def sz:T→Nat
 | .lf _=>1
 | .nd _ a b=>sz a+sz b+1
noncomputable def qv:T→Bool
 | .lf k=>aU k 6
 | .nd _ a b=>qv a&&qv b
noncomputable def bK:List T→Nat
 | []=>0
 |t::r=>sz t+bK r
theorem qw(a b:List T):bK (a++b)=bK a+bK b:=by
 induction a with
 |nil=>exact(ll _).symm
 |cons t a ih=>show sz t+bK (a++b)=sz t+bK a+bK b;exact rE ih (rE (Bm ..) rfl)
theorem Az{a b:List T}(h:a.Sublist b):bK a≤bK b:=by
 induction h with
 |slnil=>exact bZ _
 |cons t _ ih=>exact aF ih (uH _ _)
 |cons_cons t _ ih=>exact qJ ih _
theorem RN(t:T):1≤sz t:=by induction t with|lf=>exact bZ _|nd=>exact m7 (eo _)
theorem AA(s:List T):s.length≤bK s:=by
 induction s with
 |nil=>exact bZ _
 |cons t s ih=>have:=RN t;show s.length+1≤sz t+bK s;lia
theorem RP(t:T):c8 (sz t) (tD t):=by
 induction t with
 |lf k=>exact .int _ _
 |nd m a b jz jA=>
  refine .list λx hx=>?_;rcases bE.mp hx with rfl|hx
  ·exact Dx (λc hc=>by refine rE (dK.mp hc) ?_;induction m<;>decide) _
  ·rcases bE.mp hx with rfl|hx
   ·exact jz.mono (nj _ _)
   ·exact rE (dK.mp hx) (jA.mono (uH _ _))
structure Gd(s:List T):Prop where
 z:bK s≤12
 l:∀t∈s,qv t
theorem Gd.len{s:List T}(g:Gd s):s.length≤12:=aF (AA s) g.z
theorem Dy(r:List T)(m:Nat)(b:Bool):(sel r m b).Sublist r:=by have:=(List.filter_sublist (p:=λp:T × Nat=>cond b (bit m p.2) (!bit m p.2)) (l:=r.zipIdx)).map (·.1);rw[show(r.zipIdx.map (·.1))=r from List.zipIdx_map_fst 0 r]at this;exact this
noncomputable def cX(s:List T):D:=.list (s.map tD)
noncomputable def ip(row:ax):D:=.list (row.map λc=>S [c])
noncomputable def sj:T→Bool
 | .lf _=>ag
 | .nd m _ _=> !m
theorem aeP:∀ {s:List T}{q:List T × T × T × List T},qu s=aa q→s=q.1++ .nd ag q.2.1 q.2.2.1::q.2.2.2∧∀t∈q.1,sj t=ag:=by
 intro s;induction s with
 |nil=>intro q h;exact zN h
 |cons t r ih=>
  have go:∀ {q:List T × T × T × List T},sj t=ag→(qu r).map (λq=>(t::q.1,q.2))=aa q→t::r=q.1++ .nd ag q.2.1 q.2.2.1::q.2.2.2∧∀t∈q.1,sj t=ag:=λ{q} hp h=>by refine aD (sM.mp h) λq' h1 e9=>?_;subst e9;refine xA (ih h1) λa b=>?_;exact⟨congrArg (t:: ·) a,λx hx=>by rcases bE.mp hx with rfl|hx;exact hp;exact b x hx⟩
  intro q h;induction t with
  |lf k=>exact go rfl h
  |nd m a b=>
   induction m with
   |true=>exact go rfl h
   |false=>replace h:=iJ h;subst h;exact⟨rfl,λZ h=>nomatch h⟩
theorem aeQ:∀ {s:List T},qu s=af→∀t∈s,sj t=ag:=by
 intro s;induction s with
 |nil=>exact λZ Z h=>nomatch h
 |cons t r ih=>
  intro h x hx;have h':sj t=ag∧qu r=af:=by
   induction t with
   |lf k=>exact⟨rfl,ain.mp h⟩
   |nd m a b=>
    induction m with
    |true=>exact⟨rfl,ain.mp h⟩
    |false=>exact zS h
  rcases bE.mp hx with rfl|hx
  ·exact h'.1
  ·exact ih h'.2 x hx
structure DG(s:List T)(row:ax)(ring:Bool)(ρ:aM):Prop where
 oi:get ρ 47=aa (.val (cX s))
 iO:get ρ 10=aa (.val (ip row))
 ye:get ρ 48=aa (.val (.bool ring))
theorem DG.put{s:List T}{ring:Bool}{x:bA}(g:DG s row ring ρ)(h1:az i 47=ag)(h2:az i 10=ag)(h3:az i 48=ag):DG s row ring (put ρ i x):=⟨gN h1 g.oi,gN h2 g.iO,gN h3 g.ye⟩
noncomputable def RQ:RE:=.and (.not (.prim .md (.cons (.aG 47 (.var 13)) .nil))) (.cmp (.sub (.aG 47 (.var 13)) (.lit (.int 0))) (.cons .eq (.lit (.str (aj [124]))) .nil))
noncomputable def RR:RE:=.bin .add (.bin .add (.cw 47 .none (.some (.var 13)) .none) (.slice (.aG 47 (.var 13)) (.some (.lit (.int 1))) .none .none)) (.cw 47 (.some (.bin .add (.var 13) (.lit (.int 1)))) .none .none)
noncomputable def Jy:bP:=.cons (.ite RQ (.cons (.fz [43] (.ret (.call 11 (.cons RR (.cons (.var 10) (.cons (.var 48) .nil)))))) .nil) .nil) .nil
theorem Dz{s:List T}{ring:Bool}{t:T}(g:DG s row ring ρ)(hs:s.length≤12)(gV:get ρ 13=aa (.val (nD k)))(ht:s[k]? =aa t):ev tok C ([]:Hs) (.aG 47 (.var 13)) ρ=aa (tD t,ae):=
 dp g.oi (aA gV) (lj (by refine rE (l9) ?_;refine rE ht ?_;rfl) (ew (pz.mp ht).1 (jj hs (by decide))))
theorem RU{s:List T}{ring:Bool}{t:T}(g:DG s row ring ρ)(hs:s.length≤12)(gV:get ρ 13=aa (.val (nD k)))(ht:s[k]? =aa t):ev tok C ([]:Hs) RQ ρ=aa (.bool (sj t),ae):=by
 have e:=Dz (C:=C) g hs gV ht;have en:∀ {b:Bool},yV (tD t)=aa (.bool b,ae)→ev tok C ([]:Hs) (.not (.prim .md (.cons (.aG 47 (.var 13)) .nil))) ρ=aa (.bool (!b),ae):=λh=>W.aS (gI e h) rfl;induction t with
 |lf k=>exact(IM (en (b:=ae) rfl) rfl).trans rfl
 |nd m a b=>exact Dg (en (b:=ag) rfl) rfl (cS (tU e (aK _) rfl) (aK _) (by induction m<;>rfl))
theorem RV{s:List T}{ring:Bool}(hs:s.length≤12):∀ (ks:ax) (ρ:aM),DG s row ring ρ→(∀k∈ks,∃t,s[k]? =aa t∧sj t=ag)→∃ρ',dE (dH C af (.one 13) Jy) (ks.map nD) ρ []=aa (.next ρ' [],ae)∧DG s row ring ρ':=by
 intro ks;induction ks with
 |nil=>exact λρ g Z=>⟨ρ,rfl,g⟩
 |cons k ks ih=>intro ρ g hk;refine aD (hk k bG) λt h1 h2=>?_;have g':DG s row ring (put ρ 13 (.val (nD k))):=g.put rfl rfl rfl;have e:=RU (C:=C) g' hs gS h1;replace e:=h2▸e;exact aD (ih _ g' λx hx=>hk x (cf _ hx)) λρ' e1 g1=>⟨ρ',(oe rfl (cJ (fH e rfl jx))).trans e1,g1⟩
theorem yf(g:get ρ j=aa (.val d)):get (dX is ρ) j=aa (.val d):=by refine rE (Ap ..) (rE g ?_);rfl
theorem DG.fz{s:List T}{ring:Bool}(g:DG s row ring ρ)(is:ax):DG s row ring (dX is ρ):=⟨yf g.oi,yf g.iO,yf g.ye⟩
theorem aeR{a b:T}{pr po:List T}{ring:Bool}(hs:(pr++ .nd ag a b::po).length≤12)(g:DG (pr++ .nd ag a b::po) row ring ρ)(gV:get ρ 13=aa (.val (nD pr.length))):ev tok C ([]:Hs) RR ρ=aa (cX (pr++[a,b]++po),ae):=by
 have ht:(pr++ .nd ag a b::po)[pr.length]? =aa (.nd ag a b):=by simp
 have hl:pr.length<12:=ia (by refine rE bt (rE bT ?_);lia) hs;have hm:((pr++ .nd ag a b::po).map tD).length≤1000000:=rE (aQ ..) (aF hs (by decide))
 have s1:ev tok C ([]:Hs) (.cw 47 .none (.some (.var 13)) .none) ρ=aa (.list (pr.map tD),ae):=by exact(jU (eK g.oi) ee (gX (aA gV)) ee (yb (ew hl (by decide)) hm)).trans (rS wX (rE (Bo rfl) rfl))
 have s2:ev tok C ([]:Hs) (.slice (.aG 47 (.var 13)) (.some (.lit (.int 1))) .none .none) ρ=aa (.list [tD a,tD b],ae):=
  W.aS (Dz g hs gV ht) (W.aS (gX (i:=((1:Nat):Int)) (aK _)) (W.aS ee (W.aS ee (wd (xs:=[S [124],tD a,tD b]) (k:=1) (by decide) (show 3≤1000000 by decide)))))
 have s3:ev tok C ([]:Hs) (.cw 47 (.some (.bin .add (.var 13) (.lit (.int 1)))) .none .none) ρ=aa (.list (po.map tD),ae):=by refine(jU (eK g.oi) (gX (i:=((pr.length+1:Nat):Int)) (bk (aA gV) (aK _) (add_n _ 1))) ee ee (wd (ew (ail hl) (by decide)) hm)).trans (rS yP (rE List.drop_append ?_));simp
 have hpo:po.length≤12:=aF (by refine rE bt (rE bT ?_);lia) hs;refine(bk (bk s1 s2 (gm (by refine rE (aQ ..) ?_;show _+2≤_;lia))) s3 (gm (by refine rE bt (rE (aQ ..) (rE (aQ ..) ?_));show _+2+_≤_;lia))).trans ?_;unfold cX;refine rE dw (rE dw ?_);rfl
theorem aeS{a b:T}{pr po:List T}{ring:Bool}{R:D}{xs:List D}(hs:(pr++ .nd ag a b::po).length≤12)(g:DG (pr++ .nd ag a b::po) row ring ρ)(hC:C 11 [cX (pr++[a,b]++po),ip row,.bool ring]=aa (R,ae)):
  dE (dH C af (.one 13) Jy) (nD pr.length::xs) ρ []=aa (.ret R [],ae):=by
 have g':DG (pr++ .nd ag a b::po) row ring (put ρ 13 (.val (nD pr.length))):=g.put rfl rfl rfl;have e:=RU (C:=C) g' hs gS (show(pr++ .nd ag a b::po)[pr.length]? =aa (.nd ag a b)by simp);have gf:=g'.fz [43];exact Jo rfl (gZ (ij e rfl (gZ (show ex tok C af (.ret _) (dX [43] (put ρ 13 (.val (nD pr.length)))) []=_ from qp ((v9 (aeR hs gf (yf gS)) (aA gf.iO) (aA gf.ye)).trans hC)))))
noncomputable def oj(l:ax):Bool:=[[97,65],[65,97],[98,66],[66,98]].any λy=>lEq y l
noncomputable def mY(row:ax)(i j:Nat):Bool:=oj [row.getD i 0,row.getD j 0]
theorem yg(a b:ax):dT (S a) (S b)=lEq a b:=by
 show(aj a == aj b)=_;induction q:lEq a b with
 |true=>exact rE (lEq_iff.mp q) (beq_self_eq_true _)
 |false=>rw[beq_eq_false_iff_ne];intro e;exact zT (lEq_iff.mpr (show a=b from congrArg sL e)▸q)
noncomputable def pj:T→Bool
 | .lf _=>ag
 | .nd .. =>ae
theorem aeT:∀ {s:List T},(∀t∈s,pj t=ag)→∃ks:ax,s=ks.map .lf:=by
 intro s;induction s with
 |nil=>exact λZ=>⟨[],rfl⟩
 |cons t s ih=>
  intro h;refine xE (ih λx hx=>h x (cf _ hx)) λks e=>?_;induction t with
  |lf k=>exact⟨k::ks,congrArg (T.lf k:: ·) e⟩
  |nd=>cases h _ bG
structure pk(row:ax):Prop where
 len:row.length=6
 ch:∀c∈row,c=97∨c=98∨c=65∨c=66
theorem pk.at(h:pk row)(hk:k<6):row[k]? =aa (row.getD k 0)∧row.getD k 0<128:=by
 have hk:k<row.length:=h.len▸hk;have e:row.getD k 0=row[k]:=by refine rE (m8) ?_;refine rE (ly hk) ?_;rfl
 refine⟨by refine rE e ?_;exact rE (ly hk) rfl,?_⟩;refine rE e ?_;rcases h.ch _ (ER hk)with h|h|h|h<;>refine rE h ?_<;>decide
noncomputable def Jz:RE:=.and (.cmp (.comp [13] (.one 13) (.data (.var 47)) (.cons (.not (.prim .md (.cons (.var 13) .nil))) .nil) .nil (.var 13)) (.cons .eq (.list .nil) .nil)) (.cmp (.prim .join (.cons (.lit (.str (aj []))) (.cons (.comp [13] (.one 13) (.data (.var 47)) .nil .nil (.aG 10 (.var 13))) .nil))) (.cons .isin (.tup (.cons (.lit (.str (aj [97,65]))) (.cons (.lit (.str (aj [65,97]))) (.cons (.lit (.str (aj [98,66]))) (.cons (.lit (.str (aj [66,98]))) .nil))))) .nil))
noncomputable def RW:RS:=.ite Jz (.cons (.app 43 (.list (.cons (.prim .sorted (.cons (.var 47) .nil)) .nil))) .nil) .nil
theorem aeU(t:T):yV (tD t)=aa (.bool (!pj t),ae):=by induction t<;>rfl
theorem eq_nil{xs:List D}(h:c9 (.list xs)):gQ .eq (.list xs) (.list [])=aa (xs.isEmpty,ae):=by show W.need (Bq xs []) (c9 (.list xs)&&c9 (.list []))=_;refine rE h ?_;refine rE (show Bq xs []=xs.isEmpty by induction xs<;>rfl) ?_;rfl
theorem aeV{p:Nat→Nat→Bool}{ks:ax}(h:∀i j,ks=[i,j]→p i j=ag):base p (ks.map .lf)=[]:=by
 induction ks using bj with
 |nil=>rfl
 |cons i ks=>induction ks with
  |nil=>rfl
  |cons j ks=>induction ks with
   |nil=>show cond (p i j) _ _=_;refine rE (h i j rfl) ?_;rfl
   |cons=>rfl
theorem aeW{p:Nat→Nat→Bool}{s:List T}(h:s.filter pj≠[]):base p s=[]:=by
 induction s using bj with
 |nil=>rfl
 |cons a s=>induction s with
  |nil=>rfl
  |cons b s=>induction s with
   |nil=>cases a with
    |nd=>rfl
    |lf=>cases b with
     |nd=>rfl
     |lf=>exact absurd rfl h
   |cons=>rfl
theorem map_two{f:Nat→Nat}{ks:ax}{x y:Nat}(h:ks.map f=[x,y]):∃i j,ks=[i,j]∧x=f i∧y=f j:=by
 induction ks using bj with
 |nil=>exact zC h
 |cons i ks=>induction ks with
  |nil=>exact zC (jh h).2
  |cons j ks=>induction ks with
   |nil=>exact⟨i,j,rfl,(jh h).1.symm,(jh (jh h).2).1.symm⟩
   |cons=>exact zD (jh (jh h).2).2
theorem aeX{l:ax}(h:oj l):∃x y,l=[x,y]∧x≠y:=by
 simp only[oj,EB,List.any_nil,Bool.or_false,UD,lEq_iff]at h;rcases h with h|h|h|h<;>exact⟨_,_,h.symm,by decide⟩
theorem aeY(f:α→β)(ks:List α):(ks.map λk=>[f k]).flatten=ks.map f:=by
 induction ks with
 |nil=>rfl
 |cons k ks ih=>exact congrArg _ ih
theorem aeZ{s:List T}{ring:Bool}(gd:Gd s)(hr:pk row)(g:DG s row ring ρ)(t5:get ρ 43=aa (.own [])):∃ρ',ex tok C af RW ρ []=aa (.next ρ' [],ae)∧DG s row ring ρ'∧get ρ' 43=aa (.own ((base (mY row) s).map aJ)):=by
 have hl:s.length≤1000000:=aF gd.len (by decide);have e1:ev tok C ([]:Hs) (.comp [13] (.one 13) (.data (.var 47)) (.cons (.not (.prim .md (.cons (.var 13) .nil))) .nil) .nil (.var 13)) ρ=aa (.list ((s.filter pj).map tD),ae):=
  pd (ys:=s) (h:=tD) (g:=tD) (p:=pj) (r:=λt=>put (rem [13] ρ) 13 (.val (tD t))) (eP (aA g.oi)) (λZ Z=>rfl) (λt Z=>qt (W.aS (gI (aA gS) (aeU t)) (by cases pj t<;>rfl))) (λZ Z Z=>aA gS) hl
 have Ax:c9 (.list ((s.filter pj).map tD)):=(c8.list (k:=12) λd hd=>by
  refine aD (fq.mp hd) λt ht e9=>?_;subst e9;refine(RP t).mono ?_;have:=Az (K5.mpr (yR.mp ht).1);exact aF (aF (nj _ _) this) gd.z).ok (by decide)
 have e2:=cS e1 (fG (tk:=tok) (C:=C) (hs:=[]) (ρ:=ρ) di) (eq_nil Ax);by_cases hn:∀t∈s,pj t=ag
 ·refine xE (aeT hn) λks e9=>?_;subst e9;have DB:∀k∈ks,k<6:=λk hk=>bc (gd.l _ (fq.mpr ⟨k,hk,rfl⟩));rw[aio.mpr λt ht=>by refine rE (hn t ht) ?_;exact f9]at e2;have RX:ks.length≤12:=by have:=gd.len;rwa [aQ]at this
  have e3:ev tok C ([]:Hs) (.comp [13] (.one 13) (.data (.var 47)) .nil .nil (.aG 10 (.var 13))) ρ=aa (.list ((ks.map λk=>[row.getD k 0]).map S),ae):=by
   refine(ik (ys:=ks) (h:=nD) (g:=λk=>S [row.getD k 0]) (r:=λk=>put (rem [13] ρ) 13 (.val (nD k))) (eP ((aA g.oi).trans ?_)) (λZ Z=>rfl) (λk hk=>dp (gL rfl rfl g.iO) (aA gS) (lj (by refine rE (l9) ?_;refine rE ((hr.at (DB k hk)).1) ?_;rfl) (ew (DB k hk) (by decide)))) (aF RX (by decide))).trans ?_
   ·unfold cX;refine rE dJ ?_;rfl
   ·refine rE dJ ?_;rfl
  have fF:=aeY (λk=>row.getD k 0) ks;have e4:=Aw (ks.map λk=>[row.getD k 0]) (by refine rE fF (rE (aQ ..) ?_);lia);replace e4:=fF▸e4;have e5:gQ .isin (S (ks.map λk=>row.getD k 0)) (.tuple ([[97,65],[65,97],[98,66],[66,98]].map S))=aa (oj (ks.map λk=>row.getD k 0),ae):=by clear fF;have hx:c9 (S (ks.map λk=>row.getD k 0)):=(Dx (λc hc=>by refine aD (fq.mp hc) λk hk e9=>?_;subst e9;exact ew (hr.at (DB k hk)).2 (by decide)) 0).ok (by decide);show W.need (([[97,65],[65,97],[98,66],[66,98]].map S).any λz=>dT z (S (ks.map λk=>row.getD k 0))) (c9 (.tuple ([[97,65],[65,97],[98,66],[66,98]].map S))&&c9 (S (ks.map λk=>row.getD k 0)))=_;refine rE hx (rE List.any_map (rE (show((λz=>dT z (S (ks.map λk=>row.getD k 0)))∘S)=λy=>lEq y (ks.map λk=>row.getD k 0)from funext λy=>yg y _) ?_));exact du _ (by kernel_rfl)
  have e6:ev tok C ([]:Hs) Jz ρ=aa (.bool (oj (ks.map λk=>row.getD k 0)),ae):=Dg e2 rfl (cS (Ar (aK _) e3 e4) (tV (bI (aK _) (bI (aK _) (bI (aK _) (bI (aK _) di))))) e5);induction q:oj (ks.map λk=>row.getD k 0)with
  |false=>replace e6:=q▸e6;refine⟨ρ,fH e6 rfl jx,g,?_⟩;exact rE (aeV λi j e=>by replace q:=e▸q;exact q) t5
  |true=>replace e6:=q▸e6;refine gz (aeX q) λx y h1 h2=>cK (map_two h1) λi j e9 hx hy=>?_;clear h1 RX DB hn Ax gd e1 e2 hl;clear e5 e4 fF;subst e9;have jO:i≠j:=λe=>h2 (rE hx (rE hy (rE e rfl)));have hs:=Rg (l:=[i,j]) (by simp[jO]) (show 2<64 by decide);have e7:=xY (tk:=tok) (C:=C) (CH:=af) (hs:=[]) (i:=43) (ρ:=ρ) t5 (fG (bI (gI (aA g.oi) (show gT .sorted [cX ([i,j].map .lf)]=_ from hs)) di)) (show 0<1000000 by decide);refine⟨_,ij e6 rfl (cJ e7),g.put rfl rfl rfl,?_⟩;refine gS.trans ?_;show _=aa (bA.own ((cond (mY row i j) [[cond (aU i j) (i,j) (j,i)]] []).map aJ));refine rE (show mY row i j from q) ?_;show aa (bA.own ([]++[dQ [dQ ((cond (aU i j) [i,j] [j,i]:ax).map nD)]]))=aa (bA.own [dQ [pD (cond (aU i j) (i,j) (j,i))]]);clear e7 hs jO hy hx h2 y x e6;cases aU i j<;>rfl
 ·have bQ:(s.filter pj)≠[]:=λe=>hn λt ht=>by
   induction q:pj t with
   |false=>rfl
   |true=>exact absurd q (by have:=aio.mp e t ht;exact this)
  have e3:ev tok C ([]:Hs) Jz ρ=aa (.bool ag,ae):=by
   refine(IM e2 rfl).trans ?_;induction q:s.filter pj using bj with
   |nil=>exact absurd q bQ
   |cons=>rfl
  refine⟨ρ,fH e3 rfl jx,g,?_⟩;exact rE (aeW bQ) t5
theorem ae0:∀ {l:Lk},Dw l→l.Nodup:=by
 intro l;induction l with
 |nil=>exact λZ=>yG
 |cons x r ih=>
  intro h;have h:cond (r.any λy=>se y x) ag (Dw r)=ae:=h;induction q:r.any λy=>se y x with
  |true=>replace h:=q▸h;exact zF h
  |false=>replace h:=q▸h;refine uE.mpr ⟨λk=>?_,ih h⟩;have e:(r.any λy=>se y x):=Vf.mpr ⟨x,k,(Jb x x).mpr rfl⟩;exact zT (e▸q)
theorem ae1{o:Lk}:∀ {ts r:List Lk},cL (λt=>mX (o++t)) ts=aa r→r=ts.map (λt=>jy pb (o++t))∧∀t∈ts,uT (aJ (o++t))=aa (aJ (jy pb (o++t)),ae)∧(o++t).length<64:=by
 intro ts;induction ts with
 |nil=>intro r h;replace h:=iJ h;subst h;exact⟨rfl,λZ h=>nomatch h⟩
 |cons t ts ih=>
  intro r h;refine oE h λa h1 h2=>oE h2 λb h3 h4=>?_;clear h2 h;replace h4:=iJ h4;subst h4;refine xA (ih h3) λe1 e2=>xA (cj h1) λh5 h6=>?_;clear h3 h1;replace h6:=iJ h6;subst h6;refine xA (cg h5) λh7 h8=>?_;have hl:(o++t).length<64:=bc h7;refine⟨by refine rE e1 ?_;rfl,λx hx=>?_⟩;rcases bE.mp hx with rfl|hx
  ·exact⟨aeg (ae0 h8) hl,hl⟩
  ·exact e2 x hx
section
variable{s rest:List T}{ring:Bool}
structure DK(s:List T)(row:ax)(ring:Bool)(k:Nat)(rest:List T)(acc:List D)(ρ:aM):Prop where
 g:DG s row ring ρ
 om:get ρ 13=aa (.val (nD k))
 AB:get ρ 49=aa (.val (cX rest))
 pn:get ρ 43=aa (.own acc)
theorem DK.put{acc:List D}{x:bA}(g:DK s row ring k rest acc ρ)(h1:az i 47=ag)(h2:az i 10=ag)(h3:az i 48=ag)(h4:az i 13=ag)(h5:az i 49=ag)(h6:az i 43=ag):DK s row ring k rest acc (put ρ i x):=
 ⟨g.g.put h1 h2 h3,gN h4 g.om,gN h5 g.AB,gN h6 g.pn⟩
noncomputable def RY:RE:=.comp [18] (.one 18) (.data (.call 11 (.cons (.var 52) (.cons (.var 10) (.cons (.var 48) .nil))))) .nil .nil (.prim .sorted (.cons (.bin .add (.var 17) (.var 18)) .nil))
noncomputable def JA:bP:=.cons (.ext 43 RY) .nil
theorem ae2{th:List T}{ts:List Lk}(hC:C 11 [cX th,ip row,.bool ring]=aa (.list (ts.map aJ),ae)):∀ (os R:List Lk) (acc:List D) (ρ:aM),cL (λo=>cL (λt=>mX (o++t)) ts) os=aa R→acc.length+R.length≤1000000→
  DK s row ring k rest acc ρ→get ρ 52=aa (.val (cX th))→∃ρ',dE (dH C af (.one 17) JA) (os.map aJ) ρ []=aa (.next ρ' [],ae)∧DK s row ring k rest (acc++R.map aJ) ρ':=by
 intro os;induction os with
 |nil=>intro R acc ρ h _ g _;replace h:=iJ h;subst h;exact⟨ρ,rfl,by refine rE qU ?_;refine rE (eg ..) ?_;exact g⟩
 |cons o os ih=>
  intro R acc ρ h hl g RZ;refine oE h λr h1 h2=>oE h2 λR' h3 h4=>?_;replace h4:=iJ h4;subst h4;refine xA (ae1 h1) λe1 e2=>?_;replace hl:=bt▸hl;have hr:r.length=ts.length:=rE e1 (rE (aQ ..) rfl)
  have g':DK s row ring k rest acc (put ρ 17 (.val (aJ o))):=g.put rfl rfl rfl rfl rfl rfl;have e3:ev tok C ([]:Hs) RY (put ρ 17 (.val (aJ o)))=aa (.list (r.map aJ),ae):=by
   refine(ik (ys:=ts) (h:=aJ) (g:=λt=>aJ (jy pb (o++t))) (r:=λt=>put (rem [18] (put ρ 17 (.val (aJ o)))) 18 (.val (aJ t))) (eP ((v9 (aA (gN rfl RZ)) (aA g'.g.iO) (aA g'.g.ye)).trans hC)) (λZ Z=>rfl) (λt ht=>?_) (by lia)).trans ?_
   ·refine xA (e2 t ht) λq1 q2=>?_;replace q2:=bt▸q2;refine gI (bk (aA (gL rfl rfl gS)) (aA gS) (gm (by refine rE (aQ ..) (rE (aQ ..) ?_);lia))) ?_;exact rS dw q1
   ·refine rE e1 (rE dJ ?_);rfl
  obtain⟨ρ',f1,f2⟩:=ih R' (acc++r.map aJ) (put (put ρ 17 (.val (aJ o))) 43 (.own (acc++r.map aJ))) h3 (by refine rE bt (rE (aQ ..) ?_);lia) ⟨g'.g.put rfl rfl rfl,gN rfl g'.om,gN rfl g'.AB,gS⟩ (gN rfl (gN rfl RZ));exact⟨ρ',(oe rfl (cJ (Rn g'.pn e3 (by refine rE (aQ ..) ?_;lia)))).trans f1,by refine rE dw ?_;refine rS (d5 ..) ?_;exact f2⟩
noncomputable def AD(i:Int):RE:=.comp [53] (.one 53) (.dy (.bL 49)) (.cons (.cmp (.bin .band (.bin .shr (.var 50) (.var 53)) (.lit (.int 1))) (.cons .eq (.lit (.int i)) .nil)) .nil) .nil (.aG 49 (.var 53))
theorem ae3(x:Nat):x&&&1=0∨x&&&1=1:=by refine rE (Nat.and_one_is_mod ..) ?_;lia
theorem R0{acc:List D}(b:Bool)(hr:rest.length≤12)(g:DK s row ring k rest acc ρ)(h50:get ρ 50=aa (.val (nD m))):ev tok C ([]:Hs) (AD (cond b 1 0)) ρ=aa (cX (sel rest m b),ae):=by
 refine(pd (ys:=rest.zipIdx) (h:=λp=>nD p.2) (g:=λp=>tD p.1) (p:=λp=>cond b (bit m p.2) (!bit m p.2)) (r:=λp=>put (rem [53] ρ) 53 (.val (nD p.2))) ?_ (λZ Z=>rfl) (λp hp=>qt ?_) (λp hp Z=>?_) (by refine rE ET ?_;lia)).trans ?_
 ·have:=kD (C:=C) (hs:=[]) (ρ:=ρ) (e:=.bL 49) (n:=rest.length) (by have:=kB (tk:=tok) (C:=C) (hs:=[]) (eK g.AB) (pe (by refine rE (aQ ..) ?_;lia));replace this:=(aQ ..)▸this;exact this) (by lia);refine rE this (rE EP (rS (Vg ..) (rE dJ ?_)));rfl
 ·have e:ev tok C ([]:Hs) (.bin .band (.bin .shr (.var 50) (.var 53)) (.lit (.int 1))) (put (rem [53] ρ) 53 (.val (nD p.2)))=aa (nD ((m/2^p.2)&&&1),ae):=by
   refine bk (x:=nD (m/2^p.2)) (bk (aA (gL rfl rfl h50)) (aA gS) ?_) (aK _) ?_
   ·show W.need (fY ((m:Int).fdiv (2^p.2))) (decide (0≤(p.2:Int)))=_;refine rE (decide_eq_true (jf _)) (rE (show((2:Int)^p.2)=((2^p.2:Nat):Int)from(aii 2 _).symm) (rE (aih _ (jf _)) ?_));rfl
   ·show W.ret (fY (DY ((m/2^p.2:Nat):Int) ((1:Nat):Int)))=_;refine rE (RM ..) ?_;rfl
  refine cS e (aK _) ?_;unfold bit;induction b with
  |true=>show aa ((((m/2^p.2)&&&1:Nat):Int) == ((1:Nat):Int),ae)=_;refine rE (r6 ..) ?_;rfl
  |false=>
   show aa ((((m/2^p.2)&&&1:Nat):Int) == ((0:Nat):Int),ae)=_;refine rE (r6 ..) ?_;rcases ae3 (m/2^p.2)with q|q<;>refine rE q ?_<;>rfl
 ·have:=K6.mp hp;exact dp (gL rfl rfl g.AB) (aA gS) (lj (by refine rE (l9) ?_;refine rE this ?_;rfl) (ew (pz.mp this).1 (by lia)))
 ·unfold sel cX;refine rE dJ ?_;rfl
noncomputable def AE:bP:=.cons (.ite (.or (.not (.var 48)) (.cmp (.bin .band (.var 50) (.bin .add (.var 50) (.lit (.int 1)))) (.cons .eq (.lit (.int 0)) .nil))) (.cons (.asg 51 (.bin .add (AD 0) (.list (.cons (.sub (.aG 47 (.var 13)) (.lit (.int 1))) .nil)))) (.cons (.asg 52 (.bin .add (.list (.cons (.sub (.aG 47 (.var 13)) (.lit (.int 2))) .nil)) (AD 1)))
 (.cons (.loop (.one 17) (.data (.call 11 (.cons (.var 51) (.cons (.var 10) (.cons (.var 48) .nil))))) JA) .nil))) .nil) .nil
noncomputable def way(p:Nat→Nat→Bool)(ring:Bool)(n:Nat)(rest:List T)(a b:T)(m:Nat):Option (List Lk):=cond (ring&& !Nat.beq (m&&&(m+1)) 0) (aa [])
 ((jc p ring n (sel rest m ag++[a])).bind λos=>match os with
  | []=>aa []
  |o::os=>(jc p ring n (b::sel rest m ae)).bind λts=>cL (λo=>cL (λt=>mX (o++t)) ts) (o::os))
theorem ae4{w:Bool}{a b:T}(hC:∀ (u:List T) (R:List Lk),Gd u→jc (mY row) ring n u=aa R→C 11 [cX u,ip row,.bool ring]=aa (.list (R.map aJ),ae))(gd:Gd s)(hk:s[k]? =aa (.nd w a b))(hr:bK rest+sz (.nd w a b)≤12)(DC:∀t∈rest,qv t):
  ∀ (ms:ax) (R:List Lk) (acc:List D) (ρ:aM),cL (way (mY row) ring n rest a b) ms=aa R→acc.length+R.length≤1000000→DK s row ring k rest acc ρ→∃ρ',dE (dH C af (.one 50) AE) (ms.map nD) ρ []=aa (.next ρ' [],ae)∧DK s row ring k rest (acc++R.map aJ) ρ':=by
 have Du:qv a∧qv b:=fM.mp (gd.l _ (sJ hk));have hz:bK rest+(sz a+sz b+1)≤12:=hr;have yh:rest.length≤12:=aF (AA rest) (by lia);intro ms;induction ms with
 |nil=>intro R acc ρ h _ g;replace h:=iJ h;subst h;exact⟨ρ,rfl,by refine rE qU ?_;refine rE (eg ..) ?_;exact g⟩
 |cons m ms ih=>
  intro R acc ρ h hl g;refine oE h λr h1 h2=>oE h2 λR' h3 h4=>?_;replace h4:=iJ h4;subst h4;replace hl:=bt▸hl;have g':DK s row ring k rest acc (put ρ 50 (.val (nD m))):=g.put rfl rfl rfl rfl rfl rfl;have step:∃bN,cb tok C af AE (put ρ 50 (.val (nD m))) []=aa (.next bN [],ae)∧DK s row ring k rest (acc++r.map aJ) bN:=by
   have e0:ev tok C ([]:Hs) (.cmp (.bin .band (.var 50) (.bin .add (.var 50) (.lit (.int 1)))) (.cons .eq (.lit (.int 0)) .nil)) (put ρ 50 (.val (nD m)))=aa (.bool (az (m&&&(m+1)) 0),ae):=by refine cS (x:=nD (m&&&(m+1))) (bk (aA gS) (bk (aA gS) (aK _) (add_n m 1)) ?_) (aK _) (by refine rS (r6 ..) ?_;rfl);show W.ret (fY (DY ((m:Nat):Int) ((m+1:Nat):Int)))=_;refine rE (RM ..) ?_;rfl
   have e1:ev tok C ([]:Hs) (.or (.not (.var 48)) (.cmp (.bin .band (.var 50) (.bin .add (.var 50) (.lit (.int 1)))) (.cons .eq (.lit (.int 0)) .nil))) (put ρ 50 (.val (nD m)))=aa (.bool (!(ring&& !Nat.beq (m&&&(m+1)) 0)),ae):=by
    refine(IJ (d:=.bool (!ring)) (q:= !ring) (Rj (aA g'.g.ye)) rfl).trans ?_;induction ring with
    |true=>refine e0.trans ?_;cases az (m&&&(m+1)) 0<;>rfl
    |false=>rfl
   unfold way at h1;induction q:(ring&& !Nat.beq (m&&&(m+1)) 0)with
   |true=>rw[q]at h1 e1;replace h1:=iJ h1;subst h1;exact⟨_,cJ (fH e1 rfl jx),by refine rE qU ?_;refine rE (eg ..) ?_;exact g'⟩
   |false=>
    rw[q]at h1 e1;refine oE (h1:(jc _ _ _ _).bind _=_) λos f1 f2=>?_;have eY:∀b',bK (sel rest m b')≤bK rest:=λb'=>Az (Dy rest m b');have JB:∀b',(sel rest m b').length≤12:=λb'=>aF (Dy rest m b').length_le yh;have R3:∀ {ρ:aM}{i:Nat}{t:T},DK s row ring k rest acc ρ→kL (tD (.nd w a b)) (nD i)=aa (tD t,ae)→ev tok C ([]:Hs) (.sub (.aG 47 (.var 13)) (.lit (nD i))) ρ=aa (tD t,ae):=λg e=>tU (Dz g.g gd.len g.om hk) (aK _) e;have e2:ev tok C ([]:Hs) (.bin .add (AD 0) (.list (.cons (.sub (.aG 47 (.var 13)) (.lit (.int 1))) .nil))) (put ρ 50 (.val (nD m)))=aa (cX (sel rest m ag++[a]),ae):=by refine(bk (R0 ag yh g' gS) (fG (bI (R3 (i:=1) g' rfl) di)) (gm (by refine rE (aQ ..) ?_;have:=JB ag;show _+1≤_;lia))).trans ?_;unfold cX;refine rE dw ?_;rfl
    have dR:DK s row ring k rest acc (put (put ρ 50 (.val (nD m))) 51 (.val (cX (sel rest m ag++[a])))):=g'.put rfl rfl rfl rfl rfl rfl;have e3:ev tok C ([]:Hs) (.bin .add (.list (.cons (.sub (.aG 47 (.var 13)) (.lit (.int 2))) .nil)) (AD 1)) (put (put ρ 50 (.val (nD m))) 51 (.val (cX (sel rest m ag++[a]))))=aa (cX (b::sel rest m ae),ae):=
     bk (fG (bI (R3 (i:=2) dR rfl) di)) (R0 ae yh dR (gN rfl gS)) (gm (by refine rE (aQ ..) ?_;have:=JB ae;show 1+_≤_;lia))
    obtain⟨cR,DD⟩:∃cR,cR=put (put (put ρ 50 (.val (nD m))) 51 (.val (cX (sel rest m ag++[a])))) 52 (.val (cX (b::sel rest m ae))):=⟨_,rfl⟩;have iK:DK s row ring k rest acc cR:=rE (DD) (dR.put rfl rfl rfl rfl rfl rfl)
    have i51:get cR 51=aa (.val (cX (sel rest m ag++[a]))):=rE (DD) (gN rfl gS)
    have i52:get cR 52=aa (.val (cX (b::sel rest m ae))):=rE (DD) gS
    have gd1:Gd (sel rest m ag++[a]):=⟨by refine rE (qw ..) ?_;have:=eY ag;show _+(sz a+0)≤_;lia,λt ht=>(gq.mp ht).elim (λh=>DC t ((Dy rest m ag).mem h)) λh=>by refine rE (dK.mp h) ?_;exact Du.1⟩;have gd2:Gd (b::sel rest m ae):=⟨by have:=eY ae;show sz b+_≤_;lia,λt ht=>by rcases bE.mp ht with rfl|h;exact Du.2;exact DC t ((Dy rest m ae).mem h)⟩;have lo:∀ρ',dE (dH C af (.one 17) JA) (os.map aJ) cR []=aa (.next ρ' [],ae)→cb tok C af AE (put ρ 50 (.val (nD m))) []=aa (.next ρ' [],ae):=λρ' e=>by refine cJ (ij e1 rfl ((bq (c7 e2)).trans ((bq (c7 e3)).trans (cJ ?_))));exact rS (DD) ((jV (eP ((v9 (aA i51) (aA iK.g.iO) (aA iK.g.ye)).trans (hC _ _ gd1 f1)))).trans e)
    induction os using bj with
    |nil=>replace f2:=iJ f2;subst f2;exact⟨cR,lo _ rfl,by refine rE qU ?_;refine rE (eg ..) ?_;exact iK⟩
    |cons o os=>exact oE f2 λts f3 f4=>aD (ae2 (hC _ _ gd2 f3) (o::os) r acc cR f4 (by lia) iK i52) λρ' d1 d2=>⟨ρ',lo _ d1,d2⟩
  refine aD step λbN s1 s2=>?_;obtain⟨ρ',d1,d2⟩:=ih R' _ bN h3 (by refine rE bt (rE (aQ ..) ?_);lia) s2;exact⟨ρ',(oe rfl s1).trans d1,by refine rE dw ?_;refine rS (d5 ..) ?_;exact d2⟩
end
noncomputable def R4:bP:=.cons (.asg 49 (.bin .add (.cw 47 (.some (.bin .add (.var 13) (.lit (.int 1)))) .none .none) (.cw 47 .none (.some (.var 13)) .none))) (.cons (.loop (.one 50) (.dy (.ite (.prim .md (.cons (.aG 47 (.var 13)) .nil)) (.lit (.int 0)) (.bin .pow (.lit (.int 2)) (.bL 49)))) AE) .nil)
noncomputable def ae5:RE:=.comp [13] (.one 13) (.dy (.bL 43)) (.cons (.cmp (.aG 43 (.var 13)) (.cons .iy (.cw 43 .none (.some (.var 13)) .none) .nil)) .nil) .nil (.aG 43 (.var 13))
noncomputable def restOf(s:List T)(k:Nat):List T:=s.drop (k+1)++s.take k
noncomputable def R5(p:Nat→Nat→Bool)(ring:Bool)(n:Nat)(s:List T)(tk:T × Nat):Option (List Lk):=match tk.1 with
 | .lf _=>aa []
 | .nd _ a b=>cL (way p ring n (restOf s tk.2) a b) (bM (2^(restOf s tk.2).length))
theorem ae6{s:List T}{t:T}(h:s[k]? =aa t):bK (restOf s k)+sz t=bK s:=by
 refine xE (pz.mp h) λhk e9=>?_;subst e9;have:s=s.take k++s[k]::s.drop (k+1):=rE (Vh ..) ((aip k s).symm)
 conv=>rhs;rw[this]
 unfold restOf;refine rE (qw ..) (rE (qw ..) ?_);show bK _+bK _+sz _=bK _+(sz _+bK _);lia
theorem ae7:∀ (l pre:List Lk),((l.zipIdx pre.length).filter λp=> !((pre++l).take p.2).any λy=>jb y p.1).map (·.1)=dd pre l:=by
 intro l;induction l with
 |nil=>exact λZ=>rfl
 |cons x r ih=>
  intro pre;have ih:=ih (pre++[x]);replace ih:=(d5 ..)▸bt▸ih;have ih:((r.zipIdx (pre.length+1)).filter λp=> !((pre++x::r).take p.2).any λy=>jb y p.1).map (·.1)=dd (pre++[x]) r:=ih;refine rE List.zipIdx_cons (rE uI ?_);have e:(pre++x::r).take pre.length=pre:=Bo rfl;show(if(!((pre++x::r).take pre.length).any λy=>jb y x) then _ else _:List (Lk × Nat)).map (·.1)=cond (pre.any λy=>jb y x) (dd (pre++[x]) r) (x::dd (pre++[x]) r);refine rE e ?_;induction pre.any λy=>jb y x with
  |true=>exact rE (if_neg (by decide)) ih
  |false=>refine rE (if_pos (show(!false) from rfl)) (rE iT (rE ih ?_));rfl
section
variable{s:List T}{ring:Bool}
theorem ae8(hC:∀ (u:List T) (R:List Lk),Gd u→jc (mY row) ring n u=aa R→C 11 [cX u,ip row,.bool ring]=aa (.list (R.map aJ),ae))(gd:Gd s):∀ (xs:List (T × Nat)) (R:List Lk) (acc:List D) (ρ:aM),(∀p∈xs,s[p.2]? =aa p.1)→cL (R5 (mY row) ring n s) xs=aa R→acc.length+R.length≤1000000→
  DG s row ring ρ→get ρ 43=aa (.own acc)→∃ρ',dE (dH C af (.one 13) R4) (xs.map λp=>nD p.2) ρ []=aa (.next ρ' [],ae)∧get ρ' 43=aa (.own (acc++R.map aJ)):=by
 intro xs;induction xs with
 |nil=>intro R acc ρ _ h _ _ g;replace h:=iJ h;subst h;exact⟨ρ,rfl,by refine rE qU ?_;refine rE (eg ..) ?_;exact g⟩
 |cons tk xs ih=>
  intro R acc ρ hx h hl g pn;obtain⟨t,k⟩:=tk;refine oE h λr h1 h2=>oE h2 λR' h3 h4=>?_;replace h4:=iJ h4;subst h4;replace hl:=bt▸hl;have ht:s[k]? =aa t:=hx (t,k) bG;have hk:k<12:=ia (pz.mp ht).1 gd.len;have hz:=ae6 ht;have hz2:=gd.z;have ae9:(restOf s k).length≤12:=aF (AA _) (by lia);have g':DG s row ring (put ρ 13 (.val (nD k))):=g.put rfl rfl rfl;have hm:(s.map tD).length≤1000000:=rE (aQ ..) (aF gd.len (by decide))
  have e1:ev tok C ([]:Hs) (.bin .add (.cw 47 (.some (.bin .add (.var 13) (.lit (.int 1)))) .none .none) (.cw 47 .none (.some (.var 13)) .none)) (put ρ 13 (.val (nD k)))=aa (cX (restOf s k),ae):=by
   refine(bk (jU (eK g'.oi) (gX (i:=((k+1:Nat):Int)) (bk (aA gS) (aK _) (add_n k 1))) ee ee (wd (by lia) hm)) (jU (eK g'.oi) ee (gX (aA gS)) ee (yb (by lia) hm)) (gm ?_)).trans ?_
   ·exact rE uw (rE qH (rE (aQ ..) (Lx gd.len (by decide))))
   ·unfold cX restOf;exact rE dw (rE yP (rE wX rfl))
  have K:DK s row ring k (restOf s k) acc (put (put ρ 13 (.val (nD k))) 49 (.val (cX (restOf s k)))):=⟨g'.put rfl rfl rfl,gN rfl gS,gS,gN rfl (gN rfl pn)⟩;obtain⟨bN,R6⟩:∃bN,bN=put (put ρ 13 (.val (nD k))) 49 (.val (cX (restOf s k))):=⟨_,rfl⟩;replace K:=jg (R6)▸K;have R7:=Dz (C:=C) K.g gd.len K.om ht;have step:∃cR,ex tok C af (.loop (.one 50) (.dy (.ite (.prim .md (.cons (.aG 47 (.var 13)) .nil)) (.lit (.int 0)) (.bin .pow (.lit (.int 2)) (.bL 49)))) AE) bN []=aa (.next cR [],ae)∧DK s row ring k (restOf s k) (acc++r.map aJ) cR:=by
   induction t with
   |lf i=>replace h1:=iJ h1;subst h1;exact⟨bN,(jV (kD (n:=0) ((qm (d:=.bool ae) (q:=ae) (gI R7 rfl) rfl).trans rfl) (by decide))).trans rfl,by refine rE qU ?_;refine rE (eg ..) ?_;exact K⟩
   |nd w a b=>obtain⟨cR,d1,d2⟩:=ae4 hC gd ht (rE hz hz2) (λt h=>gd.l t (by unfold restOf at h;exact(gq.mp h).elim Va U9)) (bM (2^(restOf s k).length)) r acc bN h1 (by lia) K;have hp:2^(restOf s k).length≤2^12:=yQ (by decide) ae9;refine⟨cR,(jV (kD (II (d:=.bool ag) (gI R7 rfl) rfl (bk (aK _) (y:=nD (restOf s k).length) ?_ (Ds 2 _ (by decide) (by lia)))) (by lia))).trans d1,d2⟩;have:=kB (tk:=tok) (C:=C) (hs:=[]) (eK K.AB) (pe (by refine rE (aQ ..) ?_;lia));rwa [aQ]at this
  refine aD step λcR s1 s2=>?_;obtain⟨ρ',d1,d2⟩:=ih R' _ cR (λp hp=>hx p (cf _ hp)) h3 (by refine rE bt (rE (aQ ..) ?_);lia) s2.g s2.pn;have st:cb tok C af R4 (put ρ 13 (.val (nD k))) []=aa (.next cR [],ae):=(bq (c7 e1)).trans (rS (R6) (cJ s1));exact⟨ρ',(oe rfl st).trans d1,by refine rE dw ?_;refine rS (d5 ..) ?_;exact d2⟩
theorem afa{l:List Lk}(t5:get ρ 43=aa (.val (.list (l.map aJ))))(hl:l.length≤1000):ev tok C ([]:Hs) ae5 ρ=aa (.list ((dd [] l).map aJ),ae):=by
 have R8:(l.map aJ).length≤1000000:=by refine rE (aQ ..) ?_;lia
 refine(pd (ys:=l.zipIdx) (h:=λp=>nD p.2) (g:=λp=>aJ p.1) (p:=λp=> !(l.take p.2).any λy=>jb y p.1) (r:=λp=>put (rem [13] ρ) 13 (.val (nD p.2))) ?_ (λZ Z=>rfl) (λp hp=>qt ?_) (λp hp Z=>?_) (by refine rE ET ?_;lia)).trans ?_
 ·have:=kD (C:=C) (hs:=[]) (ρ:=ρ) (e:=.bL 43) (n:=l.length) (by have:=kB (tk:=tok) (C:=C) (hs:=[]) (eK t5) (pe R8);rwa [aQ]at this) (by lia);refine rE this (rE EP (rS (Vg ..) (rE dJ ?_)));rfl
 ·have hp:=K6.mp hp;have hi:p.2<l.length:=(pz.mp hp).1;have e1:ev tok C ([]:Hs) (.aG 43 (.var 13)) (put (rem [13] ρ) 13 (.val (nD p.2)))=aa (aJ p.1,ae):=dp (gL rfl rfl t5) (aA gS) (lj (by refine rE (l9) ?_;refine rE hp ?_;rfl) (by lia));have e2:ev tok C ([]:Hs) (.cw 43 .none (.some (.var 13)) .none) (put (rem [13] ρ) 13 (.val (nD p.2)))=aa (.list ((l.take p.2).map aJ),ae):=by exact(jU (eK (gL rfl rfl t5)) ee (gX (aA gS)) ee (yb (by lia) R8)).trans (rE wX rfl)
  exact cS e1 e2 (Jm RL Jd (by decide) p.1 (l.take p.2))
 ·have hp:=K6.mp hp;exact dp (gL rfl rfl t5) (aA gS) (lj (by refine rE (l9) ?_;refine rE hp ?_;rfl) (ia (pz.mp hp).1 (by lia)))
 ·have e:=ae7 l [];replace e:=(EO ..)▸e;refine rS e (rE dJ ?_);rfl
end
theorem afb(p:Nat→Nat→Bool)(ring:Bool)(n:Nat)(s:List T):jc p ring (n+1) s=match qu s with
  |some q=>jc p ring n (q.1++[q.2.1,q.2.2.1]++q.2.2.2)
  |none=>(cL (R5 p ring n s) s.zipIdx).bind λr=>fin (base p s++r):=rfl
theorem R9(hr:pk row)(ring:Bool):∀ (n:Nat) (s:List T) (R:List Lk),Gd s→jc (mY row) ring n s=aa R→run tok aH n 11 [cX s,ip row,.bool ring]=aa (.list (R.map aJ),ae):=by
 intro n;induction n with
 |zero=>exact λZ Z Z h=>nomatch h
 |succ n ih=>
  intro s R gd h;replace h:=(afb ..)▸h;have JC:DG s row ring [(47,.val (cX s)),(10,.val (ip row)),(48,.val (.bool ring))]:=⟨rfl,rfl,rfl⟩;have hlen:ev tok (run tok aH n) ([]:Hs) (.bL 47) [(47,.val (cX s)),(10,.val (ip row)),(48,.val (.bool ring))]=aa (nD s.length,ae):=by have:=kB (tk:=tok) (C:=run tok aH n) (hs:=[]) (eK JC.oi) (pe (rE (aQ ..) (aF gd.len (by decide))));rwa [aQ]at this
  have hl:=gd.len;have rg:=jV (CH:=af) (t:=.one 13) (b:=Jy) (kD hlen (by lia));have Sa:∀ (i:Nat) (q:List T),(∀t∈q,sj t=ag)→i≤q.length→q.length≤s.length→(∀j,j<i→s[j]? =q[j]?)→∀k∈bM i,∃t,s[k]? =aa t∧sj t=ag:=λi q hq h1 h2 h3 k hk=>by have hk:=lr.mp hk;have Sb:k<q.length:=ia hk h1;exact⟨q[k],by refine rE (h3 k hk) ?_;exact rE (ly Sb) rfl,hq _ (ER Sb)⟩
  refine oa (ρ:=[(47,.val (cX s)),(10,.val (ip row)),(48,.val (.bool ring))]) rfl rfl (hs:=[]) ?_;induction q:qu s with
  |some sp=>
   obtain⟨pr,a,b,po⟩:=sp;replace h:=q▸h;refine xA (aeP q) λhs hp=>?_;dsimp only at hs hp h;obtain⟨ρ',e1,dR⟩:=RV (C:=run tok aH n) (s:=s) gd.len (bM pr.length) _ JC (Sa pr.length pr hp (bZ _) (by refine rE hs (rE bt ?_);lia) λj hj=>by refine rE hs ?_;exact rE (UI hj) rfl);have eY:bK s=bK pr+(sz a+sz b+1+bK po):=by refine rE hs (rE (qw ..) ?_);rfl
   have hz:=gd.z;have JD:∀t∈pr++ .nd ag a b::po,qv t:=λt ht=>gd.l t (rE hs ht);refine xA (fM.mp (JD (.nd ag a b) (yJ _ bG))) λla lb=>?_;have gd':Gd (pr++[a,b]++po):=by
    refine⟨by refine rE (qw ..) ?_;refine rE (qw ..) ?_;show bK pr+(sz a+(sz b+0))+bK po≤12;lia,λt ht=>?_⟩;rcases gq.mp ht with ht|ht
    ·rcases gq.mp ht with ht|ht
     ·exact JD t (A9 _ ht)
     ·rcases bE.mp ht with rfl|ht
      ·exact la
      ·exact rE (dK.mp ht) lb
    ·exact JD t (yJ _ (cf _ ht))
   have hC:=ih _ R gd' h;have afc:bM s.length=bM pr.length++pr.length::(bM po.length).map λx=>pr.length+1+x:=by refine rE hs (rE bt (rE bT (rE (show pr.length+(po.length+1)=pr.length+1+po.length by lia) (rE List.range_add (rE List.range_succ (rE (d5 ..) ?_))))));rfl
   have afd:DG (pr++ .nd ag a b::po) row ring ρ':=rS hs dR
   refine gZ (rg.trans ?_);refine rE afc (rE dw (rE (aem e1) ?_));exact aeS (rS hs gd.len) afd hC
  |none=>
   replace h:=q▸h;have hp:=aeQ q;refine oE (h:(cL _ _).bind _=_) λr h1 h2=>xA (cj h2) λh3 h4=>?_;clear h2;replace h4:=iJ h4;subst h4;refine xA (cg h3) λh3 h5=>?_;have h3:=bc h3;have h5:(dd [] (base (mY row) s++r)).length<64:=bc h5;replace h3:=bt▸h3;obtain⟨bN,e1,dR⟩:=RV (C:=run tok aH n) (s:=s) gd.len (bM s.length) _ JC (Sa s.length s hp (bZ _) (bZ _) λZ Z=>rfl);refine(bq (rg.trans e1)).trans ((bq (show ex tok _ af (.own 43 (.list .nil)) bN []=aa (.next (put bN 43 (.own [])) [],ae)from rfl)).trans ?_);obtain⟨cR,e2,iK,pn⟩:=aeZ (C:=run tok aH n) gd hr (dR.put (i:=43) (x:=.own []) rfl rfl rfl) gS;refine(bq (show ex tok _ af RW (put bN 43 (.own [])) []=_ from e2)).trans ?_;have afe:ev tok (run tok aH n) ([]:Hs) (.bL 47) cR=aa (nD s.length,ae):=by have:=kB (tk:=tok) (C:=run tok aH n) (hs:=[]) (eK iK.oi) (pe (rE (aQ ..) (aF gd.len (by decide))));rwa [aQ]at this
   obtain⟨km,e3,pn⟩:=ae8 (C:=run tok aH n) (λu R gu hu=>ih u R gu hu) gd s.zipIdx r _ cR (λp hp=>K6.mp hp) h1 (by refine rE (aQ ..) ?_;lia) iK pn;have hz:(s.zipIdx.map λp=>nD p.2)=(bM s.length).map nD:=by refine rE EP (rS (Vg ..) (rE dJ ?_));rfl
   replace e3:=hz▸e3;refine(bq ((jV (kD afe (by lia))).trans e3)).trans ?_;replace pn:=jg dw▸pn;have e4:=afa (C:=run tok aH n) (ρ:=dX [43] km) (wa pn rfl) (rE bt h3);exact gZ (show ex tok _ af (.ret _) (dX [43] km) []=_ from qp (gI e4 (aeh (RJ _ []).2 h5)))
noncomputable def pl:Nat→List (List Nat)→List (Nat × List Nat)
 |_,[]=>[]
 |e,u::us=>(e+u.length - 1,u)::pl (e+u.length) us
theorem aff:∀ (l:ax) (i:Nat),bV i ag l=pl i (dG ag l)∧bV (i+1) ae l=pl i (dG ae l):=by
 intro l;induction l with
 |nil=>exact λi=>⟨rfl,rfl⟩
 |cons c cs ih=>
  intro i;constructor
  ·refine rE (EY ..) (rE (QO ..) ?_);induction az c 92 with
   |true=>exact(ih i).2
   |false=>show(i,[c])::bV (i+1) ag cs=_;refine rE ((ih (i+1)).1) ?_;rfl
  ·show(i+1,[92,c])::bV (i+1+1) ag cs=_;refine rE ((ih (i+2)).1) ?_;rfl
set_option genCtorIdx false in
inductive PI where
 |tr (t:T)
 |sgn (m:Bool)
noncomputable def JE:PI→D
 | .tr t=>tD t
 | .sgn m=>S [sg m]
noncomputable def fI(st:List PI):List D:=st.reverse.map JE
noncomputable def isLet(c:Nat):Bool:=iz (aj [c])&& !qX [(aj [40],7),(aj [41],8),(aj [42],16),(aj [124],18),(aj [44],12),(aj [92],0)] (aj [c])
noncomputable def JF(st:List PI):Option (List PI):=match st with
 | []=>af
 |x::r=>match r with
  | []=>af
  |y::q=>match q with
   | []=>af
   |z::p=>match x with
    | .sgn _=>af
    | .tr b=>match y with
     | .tr _=>af
     | .sgn m=>match z with
      | .sgn _=>af
      | .tr a=>aa (.tr (.nd m a b)::p)
noncomputable def eS(s:List Nat × List PI)(c:Nat):Option (List Nat × List PI):=cond (isLet c) (cond (aU s.1.length 6) (aa (s.1++[c],.tr (.lf s.1.length)::s.2)) af)
 (cond (az c 42) (aa (s.1,.sgn ae::s.2)) (cond (az c 124) (aa (s.1,.sgn ag::s.2)) (cond (az c 41) ((JF s.2).map λp=>(s.1,p)) (aa s))))
noncomputable def kF(s:List Nat × List PI)(u:ax):Option (List Nat × List PI):=match u with
 | []=>aa s
 |c::r=>match r with
  | []=>cond (az c 92) (aa s) (eS s c)
  |_::_=>aa s
noncomputable def bh(row:ax):List (ah × ah):=row.zipIdx.map λp=>(aj [p.1],aj (cQ (p.2:Int)))
theorem wk(row:ax):(bh row).length=row.length:=by unfold bh;exact rE (aQ ..) (rE ET rfl)
theorem afg(row:ax)(c:Nat):bh (row++[c])=bh row++[(aj [c],aj (cQ (row.length:Int)))]:=by unfold bh;refine rE List.zipIdx_append (rE dw ?_);show _++[(aj [c],aj (cQ ((0+row.length:Nat):Int)))]=_;exact rE (ll ..) rfl
noncomputable def t6:List (ah × Int):=[(aj [40],7),(aj [41],8),(aj [42],16),(aj [124],18),(aj [44],12),(aj [92],0)]
structure gn(left row:ax)(st:List PI)(e:Nat)(ρ:aM):Prop where
 wo:get ρ 20=aa (.val (S left))
 sk:get ρ 21=aa (.cU 0)
 sm:get ρ 22=aa (.fO t6)
 yi:get ρ 23=aa (.own (fI st))
 t8:get ρ 24=aa (.val (nD e))
theorem gn.put{left:ax}{st:List PI}{e:Nat}{x:bA}(g:gn left row st e ρ)(h0:az i 20=ag)(h1:az i 21=ag)(h2:az i 22=ag)(h3:az i 23=ag)(h4:az i 24=ag):gn left row st e (put ρ i x):=
 ⟨gN h0 g.wo,gN h1 g.sk,gN h2 g.sm,gN h3 g.yi,gN h4 g.t8⟩
structure AF(k place:Nat)(u:ax)(l:Bool)(v:Int)(last:Bool):Prop where
 len:u.length=1∨u.length=2
 afh:(az u.length 1&& !qX t6 (aj u))=l
 sym:cond (az u.length 2) (.int (255 - 256 * (place:Int).fmod 2)) (mj tok (aj u) (cond l (.int (256+(k:Int))) (.int 0)))=fY v
 t1:decide (v<256)= !l
 t2:decide (v≥256)=l
 t3:(v == 0)=last
 due:mj t6 (aj u) (.int v)=.int v
noncomputable def Sd:RS:=.ite (.cmp (.var 29) (.cons .ne (.list (.cons (.bin .sub (.var 24) (.lit (.int 1))) (.cons (.wZ 22 (.var 26) (.var 28)) (.cons (.prim .str (.cons (.not (.var 27)) .nil)) (.cons (.prim .str (.cons (.var 27) .nil)) (.cons (.prim .str (.cons (.cmp (.var 24) (.cons .eq (.bL 20) .nil)) .nil)) .nil)))))) .nil)) (.cons (.fz [23] (.ret (.lit .none))) .nil) .nil
noncomputable def Se:RS:=.asg 29 (.list (.cons (.var 25) (.cons (.var 28) (.cons (.prim .str (.cons (.call 2 (.cons (.var 28) .nil)) .nil)) (.cons (.prim .str (.cons (.call 3 (.cons (.var 28) .nil)) .nil)) (.cons (.prim .str (.cons (.call 4 (.cons (.var 28) .nil)) .nil)) .nil))))))
noncomputable def yj(q:bP):bP:=.cons (.aug 24 .add (.bL 26)) (.cons (.asg 27 (.and (.cmp (.bL 26) (.cons .eq (.lit (.int 1)) .nil)) (.uM (.var 26) 22))) (.cons (.asg 28 (.tok (.var 26) (.ite (.var 27) (.bin .add (.lit (.int 256)) (.prim .len (.cons (.mh 21) .nil))) (.lit (.int 0)))))
 (.cons (.asg 28 (.ite (.cmp (.bL 26) (.cons .eq (.lit (.int 2)) .nil)) (.bin .sub (.lit (.int 255)) (.bin .mul (.lit (.int 256)) (.bin .mod (.var 25) (.lit (.int 2))))) (.var 28))) (.cons Se (.cons Sd q)))))
theorem wq(b:Bool):c8 0 (S (bS b)):=Dx (λc hc=>by induction b<;>(revert c;decide)) 0
section
variable{left:ax}{st:List PI}
theorem afi{e:Nat}{u:ax}{l last:Bool}{v:Int}(I:gn left row st e ρ)(K:AF row.length (e+u.length - 1) u l v last)(JG:az (e+u.length) left.length=last)(hl:left.length≤1000)(hr:row.length≤6)(q:bP):
  ∃ρ',(∀m,cb tok (run tok aH (n+1)) CH q ρ' [bh row]=m→cb tok (run tok aH (n+1)) CH (yj q) (put (put ρ 25 (.val (nD (e+u.length - 1)))) 26 (.val (S u))) [bh row]=m)∧gn left row st (e+u.length) ρ'∧get ρ' 26=aa (.val (S u))∧get ρ' 27=aa (.val (.bool l))∧get ρ' 28=aa (.val (.int v)):=by
 have hu2:1≤u.length∧u.length≤2:=by rcases K.len with h|h<;>refine rE h ?_<;>decide
 obtain⟨p,hp⟩:∃p,p=e+u.length - 1:=⟨_,rfl⟩;have hpe:p+1=e+u.length:=by lia
 have wu:gn left row st e (put (put ρ 25 (.val (nD (e+u.length - 1)))) 26 (.val (S u))):=(I.put rfl rfl rfl rfl rfl).put rfl rfl rfl rfl rfl;have JH:get (put (put ρ 25 (.val (nD (e+u.length - 1)))) 26 (.val (S u))) 25=aa (.val (nD p)):=rE hp (gN rfl gS)
 have DE:get (put (put ρ 25 (.val (nD (e+u.length - 1)))) 26 (.val (S u))) 26=aa (.val (S u)):=gS;revert wu JH DE;generalize put (put ρ 25 (.val (nD (e+u.length - 1)))) 26 (.val (S u))=ρ₀;intro wu JH DE;have vl:∀ {ρ:aM}{hs:Hs},get ρ 26=aa (.val (S u))→ev tok (run tok aH (n+1)) hs (.bL 26) ρ=aa (nD u.length,ae):=λg=>kB (eK g) (Dm u (by lia));have vq:∀ {ρ:aM}{hs:Hs} (j:Nat),get ρ 26=aa (.val (S u))→ev tok (run tok aH (n+1)) hs (.cmp (.bL 26) (.cons .eq (.lit (nD j)) .nil)) ρ=aa (.bool (az u.length j),ae):=λj g=>cS (vl g) (aK _) (by refine rS (r6 ..) ?_;rfl);have e1:=Dj (C:=run tok aH (n+1)) (CH:=CH) (tk:=tok) (hs:=[bh row]) (op:=.add) (e:=.bL 26) wu.t8 rfl (vl DE) (add_n e u.length);obtain⟨bN,h₁⟩:∃bN,bN=put ρ₀ 24 (.val (nD (e+u.length))):=⟨_,rfl⟩;have dn:gn left row st (e+u.length) bN:=rE h₁ ⟨gN rfl wu.wo,gN rfl wu.sk,gN rfl wu.sm,gN rfl wu.yi,gS⟩
 have j25:get bN 25=aa (.val (nD p)):=rE h₁ (gN rfl JH)
 have JI:get bN 26=aa (.val (S u)):=rE h₁ (gN rfl DE)
 replace e1:=h₁.symm▸e1;have e2:ev tok (run tok aH (n+1)) [bh row] (.and (.cmp (.bL 26) (.cons .eq (.lit (.int 1)) .nil)) (.uM (.var 26) 22)) bN=aa (.bool l,ae):=by
  refine(IM (vq 1 JI) rfl).trans (rS K.afh ?_);induction az u.length 1 with
  |false=>rfl
  |true=>show(oJ bN 22).bind _=_;refine rE (show oJ bN 22=aa t6 by unfold oJ;refine rE dn.sm ?_;rfl) ?_;exact W.aS (aA JI) rfl
 obtain⟨cR,ey⟩:∃cR,cR=put bN 27 (.val (.bool l)):=⟨_,rfl⟩;have gD:gn left row st (e+u.length) cR:=rE ey (dn.put rfl rfl rfl rfl rfl)
 have k25:get cR 25=aa (.val (nD p)):=rE ey (gN rfl j25)
 have Sg:get cR 26=aa (.val (S u)):=rE ey (gN rfl JI)
 have Sh:get cR 27=aa (.val (.bool l)):=rE ey gS
 obtain⟨d0,cx⟩:∃d0,d0=mj tok (aj u) (cond l (.int (256+(row.length:Int))) (.int 0)):=⟨_,rfl⟩;have e3:ev tok (run tok aH (n+1)) [bh row] (.tok (.var 26) (.ite (.var 27) (.bin .add (.lit (.int 256)) (.prim .len (.cons (.mh 21) .nil))) (.lit (.int 0)))) cR=aa (d0,ae):=by
  have hk:ev tok (run tok aH (n+1)) [bh row] (.mh 21) cR=aa (.list ((bh row).map λp=>.str p.1),ae):=by show(mq [bh row] cR 21).bind _=_;refine rE (show mq [bh row] cR 21=aa (bh row)by unfold mq;refine rE (xX gD.sk) ?_;rfl) ?_;exact du _ (bO (by refine rE (wk ..) ?_;lia))
  refine rE cx (ady (aA Sg) ((qm (aA Sh) rfl).trans ?_));induction l with
  |false=>rfl
  |true=>refine bk (aK _) (y:=nD row.length) (gI hk ?_) rfl;have:=pe (xs:=(bh row).map λp=>uB p.1) (by refine rE (aQ ..) (rE (wk ..) ?_);lia);replace this:=(wk ..)▸(aQ ..)▸this;exact this
 obtain⟨km,kY⟩:∃km,km=put cR 28 (.val d0):=⟨_,rfl⟩;have pU:gn left row st (e+u.length) km:=rE kY (gD.put rfl rfl rfl rfl rfl)
 have Si:get km 25=aa (.val (nD p)):=rE kY (gN rfl k25)
 have Sj:get km 26=aa (.val (S u)):=rE kY (gN rfl Sg)
 have l27:get km 27=aa (.val (.bool l)):=rE kY (gN rfl Sh)
 have l28:get km 28=aa (.val d0):=rE kY gS
 have e4:ev tok (run tok aH (n+1)) [bh row] (.ite (.cmp (.bL 26) (.cons .eq (.lit (.int 2)) .nil)) (.bin .sub (.lit (.int 255)) (.bin .mul (.lit (.int 256)) (.bin .mod (.var 25) (.lit (.int 2))))) (.var 28)) km=aa (.int v,ae):=by
  refine(qm (vq 2 Sj) rfl).trans ?_;have hv:=K.sym;replace hv:=cx.symm▸hp.symm▸hv;induction q:az u.length 2 with
  |true=>replace hv:=q▸hv;exact rS (fY.inj hv) (bk (aK _) (bk (aK _) (bk (aA Si) (aK _) rfl) (du _ rfl)) rfl)
  |false=>replace hv:=q▸hv;have hv:d0=.int v:=hv;exact rS hv (aA l28:ev tok (run tok aH (n+1)) [bh row] _ _=_)
 obtain⟨kG,oV⟩:∃kG,kG=put km 28 (.val (.int v)):=⟨_,rfl⟩;have rP:gn left row st (e+u.length) kG:=rE oV (pU.put rfl rfl rfl rfl rfl)
 have m25:get kG 25=aa (.val (nD p)):=rE oV (gN rfl Si)
 have Sk:get kG 26=aa (.val (S u)):=rE oV (gN rfl Sj)
 have JJ:get kG 27=aa (.val (.bool l)):=rE oV (gN rfl l27)
 have yl:get kG 28=aa (.val (.int v)):=rE oV gS
 obtain⟨L,hL⟩:∃L,L=dQ [nD p,.int v,S (bS (!l)),S (bS l),S (bS last)]:=⟨_,rfl⟩;have e5:ex tok (run tok aH (n+1)) CH Se kG [bh row]=aa (.next (put kG 29 (.val L)) [bh row],ae):=by refine c7 (rE hL (rS K.t1 (rS K.t2 (rS K.t3 ?_))));exact fG (bI (aA m25) (bI (aA yl) (bI (gI ((qo (aA yl)).trans (adB n v)) (str_bool _)) (bI (gI ((qo (aA yl)).trans (adC n v)) (str_bool _)) (bI (gI ((qo (aA yl)).trans (adD n v)) (str_bool _)) di)))))
 have vD:gn left row st (e+u.length) (put kG 29 (.val L)):=rP.put rfl rfl rfl rfl rfl;have e6:ex tok (run tok aH (n+1)) CH Sd (put kG 29 (.val L)) [bh row]=aa (.next (put kG 29 (.val L)) [bh row],ae):=by
  have hd:ev tok (run tok aH (n+1)) [bh row] (.wZ 22 (.var 26) (.var 28)) (put kG 29 (.val L))=aa (.int v,ae):=by show(oJ _ 22).bind _=_;refine rE (show oJ (put kG 29 (.val L)) 22=aa t6 by unfold oJ;refine rE vD.sm ?_;rfl) ?_;refine W.aS (aA (gN rfl Sk)) (W.aS (aA (gN rfl yl)) ?_);show W.ret (mj t6 (aj u) (.int v))=_;refine rE K.due ?_;rfl
  have hlen:ev tok (run tok aH (n+1)) [bh row] (.cmp (.var 24) (.cons .eq (.bL 20) .nil)) (put kG 29 (.val L))=aa (.bool last,ae):=cS (aA vD.t8) (kB (eK vD.wo) (Dm left (by lia))) (by refine rS JG (rS (r6 ..) ?_);rfl);have hs:c9 L:=by
   refine rE hL ((c8.list (k:=0) λx hx=>?_).ok (by decide));rcases bE.mp hx with rfl|hx
   ·exact .int _ _
   ·rcases bE.mp hx with rfl|hx
    ·exact .int _ _
    ·rcases bE.mp hx with rfl|hx
     ·exact wq _
     ·rcases bE.mp hx with rfl|hx
      ·exact wq _
      ·exact rE (dK.mp hx) (wq _)
  have heq:gQ .ne L L=aa (ag,ae):=by
   have:w0 L L=aa (ae,ae):=by rw[hL]at hs ⊢;show W.need (dT _ _) (c9 _&&c9 _)=_;refine rE hs (rE (SeqAt.eqv_refl _ (Ea hs)) ?_);rfl
   show sV (w0 L L)=_;refine rE this ?_;rfl
  refine fH (cS (aA gS) ?_ heq) rfl jx;refine Eq.trans (b:=aa (dQ [nD p,.int v,S (bS (!l)),S (bS l),S (bS last)],ae)) ?_ (rE hL rfl);exact fG (bI (bk (aA vD.t8) (aK _) (rS hpe (Rm (b:=1) (uH 1 p)))) (bI hd (bI (gI (Rj (aA (gN rfl JJ))) (str_bool _)) (bI (gI (aA (gN rfl JJ)) (str_bool _)) (bI (gI hlen (str_bool _)) di)))))
 refine⟨put kG 29 (.val L),λm h=>?_,vD,gN rfl Sk,gN rfl JJ,gN rfl yl⟩;refine(bq e1).trans ((bq (c7 e2)).trans ?_);exact rS ey ((bq (c7 e3)).trans (rS kY ((bq (c7 e4)).trans (rS oV ((bq e5).trans ((bq e6).trans h))))))
end
inductive Kd:List Nat→Bool→Prop
 |lt (c:Nat):(c=97∨c=98∨c=65∨c=66∨c=9∨c=11∨c=127)→Kd [c] ag
 |sn (c:Nat):(c=40∨c=44∨c=41∨c=42∨c=124)→Kd [c] ag
 |Sl (x:Nat):Kd [92,x] ag
 |fin:Kd [92] ae
theorem afj{c:Nat}(h:c=97∨c=98∨c=65∨c=66∨c=9∨c=11∨c=127)(k p:Nat):AF k p [c] ae (256+(k:Int)) ag:=by
 have t1:decide (256+(k:Int)<256)=ag:=decide_eq_false (by lia);have t2:decide (256+(k:Int)≥256):=decide_eq_true (by lia);have t3:(256+(k:Int) == 0)=ag:=by rw[beq_eq_false_iff_ne];lia
 rcases h with rfl|rfl|rfl|rfl|rfl|rfl|rfl<;>exact⟨.inl rfl,rfl,by kernel_rfl,t1,t2,t3,rfl⟩
theorem afk(x k p:Nat):AF k p [92,x] ag (255 - 256 * (p:Int).fmod 2) ag:=by
 have h:(p:Int).fmod 2=0∨(p:Int).fmod 2=1:=by refine rE (ES _ (by decide)) ?_;lia
 refine⟨.inr rfl,rfl,rfl,?_,?_,?_,rfl⟩<;>rcases h with h|h<;>refine rE h ?_<;>rfl
noncomputable def Sm:RE:=.bin .add (.cw 23 .none (.some (.lit (.int (-3)))) .none) (.list (.cons (.list (.cons (.aG 23 (.lit (.int (-2)))) (.cons (.aG 23 (.lit (.int (-3)))) (.cons (.aG 23 (.lit (.int (-1)))) .nil)))) .nil))
noncomputable def DF:bP:=.cons (.ite (.cmp (.var 28) (.cons .isin (.tup (.cons (.lit (.int 16)) (.cons (.lit (.int 18)) .nil))) .nil)) (.cons (.app 23 (.ite (.cmp (.var 28) (.cons .eq (.lit (.int 16)) .nil)) (.lit (.str (aj [42]))) (.lit (.str (aj [124]))))) .nil) (.cons (.ite (.cmp (.var 28) (.cons .eq (.lit (.int 8)) .nil)) (.cons (.own 23 Sm) .nil) .nil) .nil)) .nil
noncomputable def AG:RS:=.yU 21 (.var 26) (.prim .str (.cons (.bin .sub (.var 28) (.lit (.int 256))) .nil)) 23 (.bin .sub (.var 28) (.lit (.int 256)))
noncomputable def oq:bP:=.cons (.ite (.var 27) (.cons AG .nil) DF) .nil
theorem ym(x:PI)(st:List PI):fI (x::st)=fI st++[JE x]:=by unfold fI;refine rE aiq (rE dw ?_);rfl
theorem Sn:∀k:Nat,k<7→keyOk (aj (cQ (k:Int)))∧gT .str [nD k]=aa (S (cQ (k:Int)),ae):=by
 have h1:∀k:Nat,k<7→keyOk (aj (cQ (k:Int))):=by decide+kernel
 exact λk hk=>⟨h1 k hk,du _ (bO (ew hk (by decide)))⟩
section
variable{g:nE}{left:ax}{st:List PI}{e:Nat}
theorem afl{c:Nat}{s':List Nat × List PI}(hc:c=97∨c=98∨c=65∨c=66∨c=9∨c=11∨c=127)(I:gn left row st e ρ)(CG:get ρ 26=aa (.val (S [c])))(rR:get ρ 27=aa (.val (.bool ae)))(oY:get ρ 28=aa (.val (.int (256+(row.length:Int)))))
  (cz:st.length<1000) (hr:row.length≤6) (h:kF (row,st) [c]=aa s'):∃ρ',cb tok (run tok aH (n+1)) (aa g) oq ρ [bh row]=aa (.next ρ' [bh s'.1],ae)∧gn left s'.1 s'.2 e ρ':=by
 refine xA (Sn row.length (EN hr)) λk1 k2=>?_;have So:∀ {ρ:aM}{hs:Hs},get ρ 28=aa (.val (.int (256+(row.length:Int))))→ev tok (run tok aH (n+1)) hs (.bin .sub (.var 28) (.lit (.int 256))) ρ=aa (nD row.length,ae):=λh=>bk (aA h) (aK _) (by show W.ret (fY (256+(row.length:Int) - 256))=_;refine rE (show(256+(row.length:Int) - 256)=(row.length:Int)by lia) ?_;rfl);have ka:mi [c]:=by rcases hc with rfl|rfl|rfl|rfl|rfl|rfl|rfl<;>rfl
 have pre:∀ {r:W Fl},cond (iz (aj [c])) ((nC ρ 23).bind λxs=>W.bind (ev tok (run tok aH (n+1)) (setAt (bh row++[(aj [c],aj (cQ (row.length:Int)))]) 0 [bh row]) (.bin .sub (.var 28) (.lit (.int 256))) ρ) λz=>W.bind (W.need () (aU xs.length 1000000)) λZ=>W.ret (.next (put ρ 23 (.own (xs++[z]))) (setAt (bh row++[(aj [c],aj (cQ (row.length:Int)))]) 0 [bh row])))
    (W.bind (W.need () (az (sL (aj [c])).length 1)) λZ=>W.ret (.next ρ [bh row]))=r→cb tok (run tok aH (n+1)) (aa g) oq ρ [bh row]=W.bind r λfl=>match fl with| .next ρ' hs'=>cb tok (run tok aH (n+1)) (aa g) .nil ρ' hs'| .ret d hs'=>W.ret (.ret d hs'):=λ{r} lR=>by
  have e0:ex tok (run tok aH (n+1)) (aa g) AG ρ [bh row]=r:=by refine(cA (xX I.sk)).trans ((cA (m:=([bh row]:Hs)[0]?) rfl).trans ?_);show W.bind (ev tok _ _ (.var 26) ρ) _=_;refine rE (aA CG) (rE (lW ..) ?_);show W.bind (ev tok _ _ (.prim .str _) ρ) _=_;refine rE (gI (So oY) k2) (rE (lW ..) ?_);refine(cA (m:=dD (S [c])) rfl).trans ((cA (m:=dD (S (cQ (row.length:Int)))) rfl).trans ?_);show W.bind (W.need () (mi [c]&&keyOk (aj (cQ (row.length:Int)))&&aU (bh row).length 1000000)) _=_;refine rE ka (rE k1 (rE (wk ..) (rE (show aU row.length 1000000 from bO (jj hr (by decide))) ?_)));show W.bind (aa ((),ae)) _=_;exact rE (lW ..) lR
  have e1:ex tok (run tok aH (n+1)) (aa g) (.ite (.var 27) (.cons AG .nil) DF) ρ [bh row]=_:=ij (aA rR) rfl rfl;show W.bind (ex tok _ _ (.ite (.var 27) (.cons AG .nil) DF) ρ [bh row]) _=_;refine rE e1 ?_;show W.bind (W.bind (ex tok _ _ AG ρ [bh row]) _) _=_;refine rE e0 ?_;induction r with
  |none=>rfl
  |some q=>obtain⟨fl,b⟩:=q;induction fl<;>induction b<;>rfl
 induction q:iz (aj [c])with
 |false=>
  rw[q]at pre;have hs:kF (row,st) [c]=aa (row,st):=by rcases hc with rfl|rfl|rfl|rfl|rfl|rfl|rfl<;>first| (cases q;done)|rfl
  replace h:=iJ (hs▸h);subst h;exact⟨ρ,(pre rfl).trans rfl,I⟩
 |true=>
  rw[q]at pre;have hs:kF (row,st) [c]=cond (aU row.length 6) (aa (row++[c],.tr (.lf row.length)::st)) af:=by
   have:isLet c∧az c 92=ag:=by rcases hc with rfl|rfl|rfl|rfl|rfl|rfl|rfl<;>first| (cases q;done)|exact⟨rfl,rfl⟩
   show cond (az c 92) _ (cond (isLet c) (cond (aU row.length 6) _ _) _)=_;refine rE this.1 (rE this.2 ?_);rfl
  replace h:=hs▸h;cases (cj h).2;have hl:(fI st).length<1000000:=by unfold fI;exact rE (aQ ..) (rE K7 (ew cz (by decide)))
  refine⟨put ρ 23 (.own (fI st++[nD row.length])),(pre ((cA (Aq I.yi)).trans (W.aS (So oY) (W.aS (du () (bO hl)) rfl)))).trans ?_,⟨gN rfl I.wo,gN rfl I.sk,gN rfl I.sm,by refine rE (ym ..) ?_;exact gS,gN rfl I.t8⟩⟩;refine rE (lW ..) (rE (afg ..) ?_);rfl
theorem Sp{st p:List PI}(h:JF st=aa p):∃a b m r,st=.tr b:: .sgn m:: .tr a::r∧p=.tr (.nd m a b)::r:=by
 induction st using bj with
 |nil=>exact zN h
 |cons x st=>induction st using bj with
  |nil=>induction x<;>exact zN h
  |cons y st=>induction st using bj with
   |nil=>induction x<;>induction y<;>exact zN h
   |cons z r=>induction x with
    |sgn=>exact zN h
    |tr b=>induction y with
     |tr=>exact zN h
     |sgn m=>induction z with
      |sgn=>exact zN h
      |tr a=>replace h:=iJ h;subst h;exact⟨a,b,m,r,rfl,rfl⟩
theorem afm{a b:T}{m:Bool}{r:List PI}(hr:r.length<1000)(h:get ρ 23=aa (.own (fI (.tr b:: .sgn m:: .tr a::r)))):ev tok C hs Sm ρ=aa (.list (fI (.tr (.nd m a b)::r)),ae):=by
 have e:fI (.tr b:: .sgn m:: .tr a::r)=fI r++[tD a,S [sg m],tD b]:=by refine rE (ym ..) (rE (ym ..) (rE (ym ..) (rE (d5 ..) (rE (d5 ..) ?_))));rfl
 have hl:(fI r).length=r.length:=by unfold fI;exact rE (aQ ..) (rE K7 rfl)
 have xM:(fI r++[tD a,S [sg m],tD b]).length=r.length+3:=by refine rE bt (rE hl ?_);rfl
 replace h:=e▸h;have g:=IH h;have s1:ev tok C hs (.cw 23 .none (.some (.lit (.int (-3)))) .none) ρ=aa (.list (fI r),ae):=by refine(jU g ee (gX (i:=(-3)) (aK _)) ee (y:=.list (fI r)) ?_);show W.need (dQ (((fI r++[tD a,S [sg m],tD b]).take ((fI r++[tD a,S [sg m],tD b]).length - (2+1))).drop 0)) (ae&&ae&&aX (fI r++[tD a,S [sg m],tD b]).length big)=_;refine rE xM (rE Ko (rE (Bo (by refine rE hl ?_;rfl)) ?_));exact du _ (bO (aF (Vi (d4 hr) 3:r.length+3≤1003) (by decide)))
 have sb:∀ (k:Nat) (d:D),k<3→[tD a,S [sg m],tD b][2 - k]? =aa d→ev tok C hs (.aG 23 (.lit (.int (qD k)))) ρ=aa (d,ae):=λk d hk hd=>by
  refine(cA g).trans (W.aS (aK _) ?_);show(place (fI r++[tD a,S [sg m],tD b]).length (qD k)).bind _=_;rw[xM,show place (r.length+3) (qD k)=aa (r.length+(2 - k))by
   show cond (aX (k+1) (r.length+3)) _ _=_;refine rE (bO (aF hk (uH ..))) ?_;exact congrArg aa ((Nat.add_sub_assoc hk r.length).trans (congrArg (r.length+ ·) (Nat.add_sub_add_right 2 1 k)))]
  show((fI r++[tD a,S [sg m],tD b])[r.length+(2 - k)]?).bind _=_;refine rE (yK (by refine rE hl ?_;lia)) ?_;refine rE hl (rE (air ..) (rE hd ?_));exact du _ (rE (show(qD k).natAbs=k+1 from rfl) (bO (by lia)))
 refine(bk s1 (fG (bI (fG (bI (sb 1 _ (by decide) rfl) (bI (sb 2 _ (by decide) rfl) (bI (sb 0 _ (by decide) rfl) di)))) di)) (gm (by refine rE hl ?_;show _+1≤_;lia))).trans ?_;refine rE (ym ..) ?_;rfl
theorem afn{u:ax}{v:Int}{s':List Nat × List PI}(I:gn left row st e ρ)(rR:get ρ 27=aa (.val (.bool ag)))(oY:get ρ 28=aa (.val (.int v)))(cz:st.length<1000)
  (h:kF (row,st) u=aa s') (hv:(v=16∧u=[42])∨(v=18∧u=[124])∨(v=8∧u=[41])∨(v≠16∧v≠18∧v≠8∧s'=(row,st))):∃ρ',cb tok (run tok aH (n+1)) (aa g) oq ρ [bh row]=aa (.next ρ' [bh s'.1],ae)∧gn left s'.1 s'.2 e ρ':=by
 have hl:(fI st).length<1000000:=by unfold fI;exact rE (aQ ..) (rE K7 (ew cz (by decide)))
 have go:∀ {ρ'},cb tok (run tok aH (n+1)) (aa g) DF ρ [bh row]=aa (.next ρ' [bh row],ae)→cb tok (run tok aH (n+1)) (aa g) oq ρ [bh row]=aa (.next ρ' [bh row],ae):=λh=>cJ (fH (aA rR) rfl h);have i1:∀ {b:Bool},gQ .isin (.int v) (.tuple [.int 16,.int 18])=aa (b,ae)→ev tok (run tok aH (n+1)) [bh row] (.cmp (.var 28) (.cons .isin (.tup (.cons (.lit (.int 16)) (.cons (.lit (.int 18)) .nil))) .nil)) ρ=aa (.bool b,ae):=λh=>cS (aA oY) (tV (bI (aK _) (bI (aK _) di))) h;have ap:∀ {m:Bool},ev tok (run tok aH (n+1)) [bh row] (.ite (.cmp (.var 28) (.cons .eq (.lit (.int 16)) .nil)) (.lit (.str (aj [42]))) (.lit (.str (aj [124])))) ρ=aa (S [sg m],ae)→gQ .isin (.int v) (.tuple [.int 16,.int 18])=aa (ae,ae)→s'=(row,.sgn m::st)→∃ρ',cb tok (run tok aH (n+1)) (aa g) oq ρ [bh row]=aa (.next ρ' [bh s'.1],ae)∧gn left s'.1 s'.2 e ρ':=λ{m} h1 h2 h3=>by clear rR;subst h3;exact⟨_,go (cJ (ij (i1 h2) rfl (cJ (xY I.yi h1 hl)))),⟨gN rfl I.wo,gN rfl I.sk,gN rfl I.sm,by refine rE (ym ..) ?_;exact gS,gN rfl I.t8⟩⟩
 rcases hv with⟨rfl,rfl⟩| ⟨rfl,rfl⟩| ⟨rfl,rfl⟩| ⟨h1,h2,h3,rfl⟩
 ·clear hl rR;replace h:=iJ h;subst h;exact ap (m:=ae) ((qm (cS (aA oY) (aK _) rfl) rfl).trans rfl) (by kernel_rfl) rfl
 ·clear hl rR;replace h:=iJ h;subst h;exact ap (m:=ag) ((qm (cS (aA oY) (aK _) rfl) rfl).trans rfl) (by kernel_rfl) rfl
 ·clear ap hl rR;refine aD (sM.mp (h:(JF st).map _=_)) λp hp e9=>?_;subst e9;refine BC (Sp hp) λa b m r e9 bC=>?_;subst e9;subst bC;have e1:=afm (C:=run tok aH (n+1)) (hs:=[bh row]) (by replace cz:=bT▸bT▸bT▸cz;lia) I.yi;refine⟨_,go (cJ (fH (i1 (b:=ag) (by kernel_rfl)) rfl (cJ (ij (cS (aA oY) (aK _) rfl) rfl (cJ (W.aS e1 rfl)))))),⟨gN rfl I.wo,gN rfl I.sk,gN rfl I.sm,gS,gN rfl I.t8⟩⟩
 ·have f:∀ {x:Int},v≠x→(v == x)=ag:=λh=>by rw[beq_eq_false_iff_ne];exact h
  have e1:gQ .isin (.int v) (.tuple [.int 16,.int 18])=aa (ag,ae):=by show W.need ((16 == v)||((18 == v)||false)) _=_;refine rE (show((16:Int) == v)=ag by rw[beq_eq_false_iff_ne];exact h1.symm) (rE (show((18:Int) == v)=ag by rw[beq_eq_false_iff_ne];exact h2.symm) ?_);rfl
  have e2:ev tok (run tok aH (n+1)) [bh row] (.cmp (.var 28) (.cons .eq (.lit (.int 8)) .nil)) ρ=aa (.bool ag,ae):=cS (aA oY) (aK _) (by show aa (v == 8,ae)=_;exact rE (f h3) rfl);exact⟨ρ,go (cJ (fH (i1 e1) rfl (cJ (fH e2 rfl jx)))),I⟩
theorem Sq{u:ax}{last:Bool}{s':List Nat × List PI}(K:Kd u last)(I:gn left row st e ρ)(JG:az (e+u.length) left.length=last)(hl:left.length≤1000)(hr:row.length≤6)(cz:st.length<1000)(h:kF (row,st) u=aa s'):
  ∃ρ',dH (run tok aH (n+1)) (aa g) (.two 25 26) (yj oq) (uD (e+u.length - 1,u)) ρ [bh row]=aa (.next ρ' [bh s'.1],ae)∧gn left s'.1 s'.2 (e+u.length) ρ':=by
 have hb:eU (.two 25 26) (uD (e+u.length - 1,u)) ρ=aa (put (put ρ 25 (.val (nD (e+u.length - 1)))) 26 (.val (S u))):=rfl;have key:∀ {l:Bool}{v:Int},AF row.length (e+u.length - 1) u l v last→(∀bN,gn left row st (e+u.length) bN→get bN 26=aa (.val (S u))→get bN 27=aa (.val (.bool l))→get bN 28=aa (.val (.int v))→∃ρ',cb tok (run tok aH (n+1)) (aa g) oq bN [bh row]=aa (.next ρ' [bh s'.1],ae)∧gn left s'.1 s'.2 (e+u.length) ρ')→
   ∃ρ',dH (run tok aH (n+1)) (aa g) (.two 25 26) (yj oq) (uD (e+u.length - 1,u)) ρ [bh row]=aa (.next ρ' [bh s'.1],ae)∧gn left s'.1 s'.2 (e+u.length) ρ':=λ{l v} U k=>by
  obtain⟨bN,f,dn,g1,g2,g3⟩:=afi (n:=n) (CH:=aa g) I U JG hl hr oq;exact aD (k bN dn g1 g2 g3) λρ' h1 h2=>⟨ρ',(cA hb).trans (f _ h1),h2⟩
 have sn:∀ {v:Int},AF row.length (e+u.length - 1) u ag v last→((v=16∧u=[42])∨(v=18∧u=[124])∨(v=8∧u=[41])∨(v≠16∧v≠18∧v≠8∧s'=(row,st)))→∃ρ',dH (run tok aH (n+1)) (aa g) (.two 25 26) (yj oq) (uD (e+u.length - 1,u)) ρ [bh row]=aa (.next ρ' [bh s'.1],ae)∧gn left s'.1 s'.2 (e+u.length) ρ':=λU hv=>
  key U λbN dn Z g2 g3=>afn dn g2 g3 cz h hv
 induction K with
 |lt c hc=>exact key (afj hc _ _) λbN dn g1 g2 g3=>afl hc dn g1 g2 g3 cz hr h
 |sn c hc=>
  rcases hc with rfl|rfl|rfl|rfl|rfl
  ·clear key hb cz;exact sn (v:=7) ⟨.inl rfl,rfl,by kernel_rfl,rfl,rfl,rfl,rfl⟩ (.inr (.inr (.inr ⟨by decide,by decide,by decide,by replace h:=iJ h;subst h;rfl⟩)))
  ·clear key hb cz;exact sn (v:=12) ⟨.inl rfl,rfl,by kernel_rfl,rfl,rfl,rfl,rfl⟩ (.inr (.inr (.inr ⟨by decide,by decide,by decide,by replace h:=iJ h;subst h;rfl⟩)))
  ·exact sn (v:=8) ⟨.inl rfl,rfl,by kernel_rfl,rfl,rfl,rfl,rfl⟩ (.inr (.inr (.inl ⟨rfl,rfl⟩)))
  ·exact sn (v:=16) ⟨.inl rfl,rfl,by kernel_rfl,rfl,rfl,rfl,rfl⟩ (.inl ⟨rfl,rfl⟩)
  ·exact sn (v:=18) ⟨.inl rfl,rfl,by kernel_rfl,rfl,rfl,rfl,rfl⟩ (.inr (.inl ⟨rfl,rfl⟩))
 |Sl x=>
  have hp:((e+2 - 1:Nat):Int).fmod 2=0∨((e+2 - 1:Nat):Int).fmod 2=1:=by refine rE (ES _ (by decide)) ?_;lia
  clear key hb cz;refine sn (afk x _ _) (.inr (.inr (.inr ⟨?_,?_,?_,by replace h:=iJ h;subst h;rfl⟩)))<;>rcases hp with q|q<;>(show(255 - 256 * ((e+2 - 1:Nat):Int).fmod 2)≠_;refine rE q ?_;decide)
 |fin=>exact sn (v:=0) ⟨.inl rfl,rfl,by kernel_rfl,rfl,rfl,rfl,rfl⟩ (.inr (.inr (.inr ⟨by decide,by decide,by decide,by replace h:=iJ h;subst h;rfl⟩)))
end
noncomputable def gJ{α σ:Type}(f:σ→α→Option σ):σ→List α→Option σ
 |s,[]=>aa s
 |s,x::xs=>(f s x).bind λs'=>gJ f s' xs
theorem JK{σ:Type}{f:σ→α→Option σ}(a b:List α):∀s,gJ f s (a++b)=(gJ f s a).bind λs'=>gJ f s' b:=by
 induction a with
 |nil=>exact λZ=>rfl
 |cons x a ih=>
  intro s;show(f s x).bind _=((f s x).bind _).bind _;induction f s x with
  |none=>rfl
  |some s'=>exact ih s'
theorem afo{st:List PI}{u:ax}{s':List Nat × List PI}(h:kF (row,st) u=aa s')(hr:row.length≤6):s'.1.length≤6∧s'.2.length≤st.length+1:=by
 have same:∀ {s':List Nat × List PI},aa (row,st)=aa s'→s'.1.length≤6∧s'.2.length≤st.length+1:=λh=>by replace h:=iJ h;subst h;exact⟨hr,wO _⟩
 match u,h with
 | [],h=>exact same h
 |_::_::_,h=>exact same h
 | [c],h=>
  have h:cond (az c 92) (aa (row,st)) (eS (row,st) c)=aa s':=h;induction q:az c 92 with
  |true=>replace h:=q▸h;exact same h
  |false=>
   replace h:=(cond_false ..)▸q▸h;unfold eS at h;induction q1:isLet c with
   |true=>replace h:=q1▸h;refine xA (cj h) λa b=>?_;replace b:=iJ b;subst b;exact⟨by refine rE bt ?_;exact bc a,bZ _⟩
   |false=>
    replace h:=(cond_false ..)▸q1▸h;induction q2:az c 42 with
    |true=>replace h:=iJ (q2▸h);subst h;exact⟨hr,bZ _⟩
    |false=>
     replace h:=(cond_false ..)▸q2▸h;induction q3:az c 124 with
     |true=>replace h:=iJ (q3▸h);subst h;exact⟨hr,bZ _⟩
     |false=>
      replace h:=(cond_false ..)▸q3▸h;induction q4:az c 41 with
      |true=>replace h:=(cond_true ..)▸q4▸h;refine aD (sM.mp h) λp hp e9=>?_;subst e9;refine BC (Sp hp) λa b m r e e9=>?_;subst e9;exact⟨hr,by refine rE (show st.length=(r.length+3)from congrArg Ua e) ?_;refine rE bT ?_;lia⟩
      |false=>replace h:=q4▸h;exact same h
theorem afp{g:nE}{left:ax}(hl:left.length≤1000):∀ (us:cP) (e:Nat) (row:ax) (st:List PI) (ρ:aM) (s':List Nat × List PI),(∀u∈us,Kd u ag)→gn left row st e ρ→e+us.flatten.length+1=left.length→row.length≤6→st.length+us.length<900→gJ kF (row,st) us=aa s'→
  ∃ρ',dE (dH (run tok aH (n+1)) (aa g) (.two 25 26) (yj oq)) ((pl e (us++[[92]])).map uD) ρ [bh row]=aa (.next ρ' [bh s'.1],ae)∧gn left s'.1 s'.2 left.length ρ':=by
 intro us;induction us with
 |nil=>intro e row st ρ s' _ I h hr hs hf;replace hf:=iJ hf;subst hf;have h:e+1=left.length:=h;obtain⟨ρ',e1,e2⟩:=Sq (n:=n) (g:=g) (u:=[92]) .fin I (by show az (e+1) left.length;exact rE h (nh _)) hl hr (by lia) (s':=(row,st)) rfl;exact rS h ⟨ρ',(pa e1).trans rfl,e2⟩
 |cons u us ih=>intro e row st ρ s' hk I h hr hs hf;replace h:=bt▸K3▸h;replace hs:=bT▸hs;refine oE hf λai f1 f2=>xA (afo f1 hr) λl1 l2=>?_;obtain⟨bN,e1,e2⟩:=Sq (n:=n) (g:=g) (hk u bG) I (jT (by lia)) hl hr (by lia) f1;exact aD (ih (e+u.length) ai.1 ai.2 bN s' (λx hx=>hk x (cf _ hx)) e2 (by lia) l1 (by lia) f2) λρ' e3 e4=>⟨ρ',(pa e1).trans e3,e4⟩
theorem afq(n:Nat)(l:ax)(us:cP){s':List Nat × List PI}(hU:dG ag (l++[92])=us++[[92]])(hf:us.flatten=l)(hk:∀u∈us,Kd u ag)(hlen:us.length<900)(hl:l.length<900)(h:gJ kF ([],[]) us=aa s'):
  qZ tok aH (run tok aH (n+1)) 6 [S (l++[92])] []=aa ((.list (fI s'.2),bh s'.1),ae):=by
 refine(cA (m:=aH 6) rfl).trans ((cA (m:=sX [20,21]) rfl).trans ((cA (m:=oM [20] [S (l++[92])] []) rfl).trans ?_));have hll:(l++[92]).length=l.length+1:=bt;obtain⟨ρ',e1,I⟩:=afp (n:=n) (g:=λZ Z Z=>af) (left:=l++[92]) (by lia) us 0 [] [] [(20,.val (S (l++[92]))),(21,.cU 0),(22,.fO t6),(23,.own []),(24,.val (nD 0))] s' hk ⟨rfl,rfl,rfl,rfl,rfl⟩ (rE hf (rE hll (rE (ll ..) rfl))) (eo _) (rE nc (rE (ll ..) hlen)) h;replace e1:=jg ((aff _ 0).1)▸hU.symm▸e1;have e2:ev tok (run tok aH (n+1)) [bh s'.1] (.ite (.cmp (.var 24) (.cons .eq (.bL 20) .nil)) (.var 23) (.lit .none)) (dX [23] ρ')=aa (.list (fI s'.2),ae):=by refine(qm (cS (y:=nD (l++[92]).length) (aA (yf I.t8)) (kB (eK (yf I.wo)) (Dm _ (by lia))) (Rk _ _)) rfl).trans ?_;refine rE (nh ..) ?_;exact(aA (wa (is:=[23]) I.yi rfl):ev tok (run tok aH (n+1)) [bh s'.1] (.var 23) (dX [23] ρ')=_)
 have e3:cb tok (run tok aH (n+1)) (aa λZ Z Z=>af) b6 [(20,.val (S (l++[92]))),(21,.cU 0)] [[]]=aa (.ret (.list (fI s'.2)) [bh s'.1],ae):=by exact(bq (ρ':=[(20,.val (S (l++[92]))),(21,.cU 0),(22,.fO t6),(23,.own []),(24,.val (nD 0))]) (hs':=[[]]) rfl).trans ((bq ((jV (b:=yj oq) (Dn (l:=l++[92]) rfl (by lia))).trans e1)).trans (Jn e2))
 exact W.aS (show cb tok _ _ b6 _ _=_ from e3) rfl
noncomputable def Ck(c:Nat):Prop:=(c=97∨c=98∨c=65∨c=66∨c=9∨c=11∨c=127)∨(c=40∨c=44∨c=41∨c=42∨c=124)
theorem Ck.sg{c:Nat}(h:Ck c):mS c:=by
 rcases h with(rfl|rfl|rfl|rfl|rfl|rfl|rfl)| (rfl|rfl|rfl|rfl|rfl)<;>exact⟨by decide,by decide⟩
theorem Sr:∀h,∀u∈ja h,Kd u ag:=by
 refine h8 ?_ ?_ ?_ ?_ ?_ ?_ ?_ ?_ λn=>?_<;>intro u hu<;>first|cases hu;done| (refine rE (dK.mp hu) ?_;exact .Sl _)
theorem afr(h:∀p∈ps,Ck p.c):∀u∈mT ps,Kd u ag:=by
 intro u hu;refine aD (yO.mp hu) λp hp hu=>?_;have hc:∀v∈[[p.c]],Kd v ag:=λv hv=>by
  refine rE (dK.mp hv) ?_;rcases h p hp with q|q
  ·exact .lt _ q
  ·exact .sn _ q
 unfold Pc.us at hu;cases hf:p.f<;>replace hu:=hf▸hu
 ·exact(gq.mp hu).elim (Sr _ u) (hc u)
 ·exact(gq.mp hu).elim (hc u) (Sr _ u)
theorem Ss:∀h (s:List Nat × List PI),gJ kF s (ja h)=aa s:=h8 (λZ=>rfl) (λZ=>rfl) (λZ=>rfl) (λZ=>rfl) (λZ=>rfl) (λZ=>rfl) (λZ=>rfl) (λZ=>rfl) λZ Z=>rfl
theorem afs:∀ {ps:List Pc},(∀p∈ps,Ck p.c)→∀s,gJ kF s (mT ps)=gJ eS s (ps.map Pc.c):=by
 intro ps;induction ps with
 |nil=>exact λZ Z=>rfl
 |cons p ps ih=>
  intro h s;have ih:=ih λq hq=>h q (cf _ hq);have hc:∀s,gJ kF s [[p.c]]=eS s p.c:=λs=>by have:az p.c 92=ag:=jT (h p bG).sg.2;show(cond (az p.c 92) (aa s) (eS s p.c)).bind _=_;refine rE this ?_;show(eS s p.c).bind _=_;cases eS s p.c<;>rfl
  show gJ kF s (p.us++mT ps)=(eS s p.c).bind _;refine rE (JK ..) ?_;have e:gJ kF s p.us=eS s p.c:=by
   obtain⟨c,k,f⟩:=p;clear h;cases f
   ·show gJ kF s (ja k++[[c]])=_;exact rE (JK ..) (rE (Ss ..) (hc s))
   ·show gJ kF s ([[c]]++ja k)=_;refine rE (JK ..) (rE (hc ..) ?_);show(eS s c).bind _=eS s c;induction eS s c with
    |none=>rfl
    |some s'=>exact Ss k s'
  refine rE e ?_;induction eS s p.c with
  |none=>rfl
  |some s'=>exact ih s'
noncomputable def hZ:T→List Nat
 | .lf k=>[k]
 | .nd _ a b=>hZ a++hZ b
section
variable(lp:Nat→Pc)
noncomputable def iq(c:Nat):Pc:=⟨c,0,ag⟩
noncomputable def cG:T→List Pc
 | .lf k=>[lp k]
 | .nd m a b=>[iq 40]++cG a++[iq (sg m)]++cG b++[iq 41]
noncomputable def dI:List T→List Nat→List Pc
 | [],_=>[]
 |t::r,ss=>match r with
  | []=>cG lp t
  |_::_=>cG lp t++[iq (ss.headD 44)]++dI r ss.tail
variable{lp}
theorem Su(yn:row.length=6)(so:∀k,k<6→row[k]? =aa (lp k).c∧isLet (lp k).c):∀ (t:T) (k:Nat) (st:List PI) (rest:ax),hZ t=pG k (hZ t).length→k+(hZ t).length≤6→
  gJ eS (row.take k,st) ((cG lp t).map Pc.c++rest)=gJ eS (row.take (k+(hZ t).length),.tr t::st) rest:=by
 intro t;induction t with
 |lf i=>
  intro k st rest h hk;have hik:i=k:=(jh (show [i]=[k]from h)).1;subst hik;have hk:i+1≤6:=hk;refine xA (so i hk) λh1 h2=>?_;have ht:(row.take i).length=i:=by refine rE qH (rE yn ?_);lia
  show(eS (row.take i,st) (lp i).c).bind _=gJ eS (row.take (i+1),_) rest;have:eS (row.take i,st) (lp i).c=aa (row.take (i+1),.tr (.lf i)::st):=by unfold eS;refine rE h2 (rE ht (rE (show aU i 6 from bO hk) ?_));show aa (row.take i++[(lp i).c],_)=_;refine rE List.take_succ (rE h1 ?_);rfl
  refine rE this ?_;rfl
 |nd m a b jz jA=>
  intro k st rest h hk;have e:hZ (.nd m a b)=hZ a++hZ b:=rfl;rw[e,bt]at h hk;replace h:=(Vj ..)▸jg (ais (m:=(hZ a).length) (n:=(hZ b).length))▸h;refine xA (ait h (rE EU rfl)) λha hb=>?_;have ef:(cG lp (.nd m a b)).map Pc.c++rest=40::((cG lp a).map Pc.c++(sg m::((cG lp b).map Pc.c++(41::rest)))):=by show([iq 40]++cG lp a++[iq (sg m)]++cG lp b++[iq 41]).map Pc.c++rest=_;simp only[dw,d5];rfl
  refine rE ef (rE e (rE bt ?_));show gJ eS (row.take k,st) ((cG lp a).map Pc.c++_)=_;refine rE (jz k st _ ha (by lia)) ?_;have e1:eS (row.take (k+(hZ a).length),.tr a::st) (sg m)=aa (row.take (k+(hZ a).length),.sgn m:: .tr a::st):=by induction m<;>rfl
  show(eS _ (sg m)).bind _=_;refine rE e1 ?_;show gJ eS (row.take (k+(hZ a).length),_) ((cG lp b).map Pc.c++_)=_;refine rE (jA _ _ _ hb (by lia)) (rE (Bm ..) ?_);rfl
noncomputable def iQ(F:List T):List Nat:=F.flatMap hZ
theorem aft(yn:row.length=6)(so:∀k,k<6→row[k]? =aa (lp k).c∧isLet (lp k).c):∀ (F:List T) (ss:ax) (k:Nat) (st:List PI),(∀c∈ss,c=44∨c=9∨c=11∨c=127)→iQ F=pG k (iQ F).length→k+(iQ F).length≤6→
  gJ eS (row.take k,st) ((dI lp F ss).map Pc.c)=aa (row.take (k+(iQ F).length),(F.map PI.tr).reverse++st):=by
 intro F;induction F with
 |nil=>intro ss k st _ _ _;rfl
 |cons t r ih=>
  intro ss k st tI h hk;have e:iQ (t::r)=hZ t++iQ r:=rfl;rw[e,bt]at h hk;replace h:=(Vj ..)▸jg (ais (m:=(hZ t).length) (n:=(iQ r).length))▸h;refine xA (ait h (rE EU rfl)) λha hb=>?_;induction r using bj with
  |nil=>have:=Su yn so t k st [] ha (by lia);replace this:=(eg ..)▸this;refine rE e (rE bt ?_);exact this
  |cons t2 r=>
   have afu:∀ (s:List Nat × List PI),eS s (ss.headD 44)=aa s:=λs=>by
    have:ss.headD 44=44∨ss.headD 44=9∨ss.headD 44=11∨ss.headD 44=127:=by
     induction ss using bj with
     |nil=>exact .inl rfl
     |cons c ss=>exact tI c bG
    rcases this with h|h|h|h<;>refine rE h ?_<;>rfl
   show gJ eS _ ((cG lp t++[iq (ss.headD 44)]++dI lp (t2::r) ss.tail).map Pc.c)=_;refine rE dw (rE dw (rE (d5 ..) (rE (Su yn so t k st _ ha (by lia)) ?_)));show(eS _ (ss.headD 44)).bind _=_;refine rE (afu ..) ?_;show gJ eS _ ((dI lp (t2::r) ss.tail).map Pc.c)=_;rewrite[ih ss.tail _ _ (λc hc=>tI c (aiu hc)) hb (by lia),e,bt,Bm];simp
end
noncomputable def ot:List D:=[.tuple [S (iN 0),S (fu 0)],.tuple [S (iN 1),S (fu 1)],.tuple [S (iN 2),S (fu 2)],.tuple [S (iN 3),S (fu 3)],.tuple [S (iN 4),S (fu 4)],.tuple [S (iN 5),S (fu 5)],.tuple [S (iN 6),S (fu 6)],.tuple [S (iN 7),S (fu 7)]]
theorem lt8{P:Nat→Prop}(h0:P 0)(h1:P 1)(h2:P 2)(h3:P 3)(h4:P 4)(h5:P 5)(h6:P 6)(h7:P 7):∀n,n<8→P n:=
 h8 (λZ=>h0) (λZ=>h1) (λZ=>h2) (λZ=>h3) (λZ=>h4) (λZ=>h5) (λZ=>h6) (λZ=>h7) λn h=>absurd h (pA.mpr (uH 8 n))
theorem Sv:∀h:Nat,h<8→kL (.list ot) (nD h)=aa (.tuple [S (iN h),S (fu h)],ae):=lt8 rfl rfl rfl rfl rfl rfl rfl rfl
structure d3 where
 a:Nat
 b:Nat
 c:Nat
 d:Nat
 e:Nat
 f:Nat
noncomputable def d3.D(s:d3):Ev.D:=.list [nD s.a,nD s.b,nD s.c,nD s.d,nD s.e,nD s.f]
noncomputable def c1(x:Nat):Nat:=[97,65,98,66].getD (x%4) 0
noncomputable def c2(x:Nat):Nat:=[65,97,66,98].getD (x%4) 0
noncomputable def sq(row:ax)(x:Nat):List Nat:=jn (c2 x) (x/100%(row.length+2)) (jn (c1 x) (x/4%(row.length+1)) row)
noncomputable def rowOf(s:d3):List Nat:=sq (sq (sq [] s.a) s.b) s.c
theorem JL(f:α→β)(x:α):∀ (k:Nat) (l:List α),jn (f x) k (l.map f)=(jn x k l).map f
 |0,_=>rfl
 |_+1,[]=>rfl
 |k+1,y::l=>congrArg (f y:: ·) (JL f x k l)
theorem DH(x:α):∀ (k:Nat) (l:List α),(jn x k l).length=l.length+1
 |0,_=>rfl
 |_+1,[]=>rfl
 |k+1,_::l=>congrArg Nat.succ (DH x k l)
theorem sr(row:ax)(x:Nat):(sq row x).length=row.length+2:=by unfold sq;exact rE (DH ..) (rE (DH ..) rfl)
noncomputable def b5i:bP:=.cons (.ins 10 (.bin .mod (.bin .fdiv (.var 7) (.lit (.int 4))) (.bin .add (.bL 10) (.lit (.int 1)))) (.sub (.lit (.str (aj [97,65,98,66]))) (.bin .mod (.var 7) (.lit (.int 4))))) (.cons (.ins 10 (.bin .mod (.bin .fdiv (.var 7) (.lit (.int 100))) (.bin .add (.bL 10) (.lit (.int 1)))) (.sub (.lit (.str (aj [65,97,66,98]))) (.bin .mod (.var 7) (.lit (.int 4))))) .nil)
noncomputable def jd(l:ax):List D:=l.map λc=>S [c]
theorem afv{xs:List D}(h:get ρ i=aa (.own xs))(hl:xs.length≤1000000):ev tok C ([]:Hs) (.bL i) ρ=aa (nD xs.length,ae):=kB (IH h) (pe hl)
theorem JM{x:Nat}(fT:get ρ 10=aa (.own (jd row)))(hr:row.length≤10):∃ρ',dH C af (.one 7) b5i (nD x) ρ []=aa (.next ρ' [],ae)∧get ρ' 10=aa (.own (jd (sq row x)))∧∀j o,j≠7→j≠10→get ρ j=o→get ρ' j=o:=by
 have hl:(jd row).length=row.length:=aQ _;have i1:∀ {ρ:aM}{r:ax} (k:Nat),k≠0→k<1073741824→r.length≤20→get ρ 7=aa (.val (nD x))→get ρ 10=aa (.own (jd r))→ev tok C ([]:Hs) (.bin .mod (.bin .fdiv (.var 7) (.lit (nD k))) (.bin .add (.bL 10) (.lit (.int 1)))) ρ=aa (nD (x/k%(r.length+1)),ae):=λ{ρ r} k h0 hk hr g7 iO=>by have:=afv (C:=C) iO (by unfold jd;refine rE (aQ ..) ?_;lia);replace this:=(show(jd r).length=r.length from aQ _)▸this;exact bk (bk (aA g7) (aK _) (ya x k h0 hk)) (bk this (aK _) (add_n _ 1)) (pf _ _ (Nat.succ_ne_zero _))
 have i2:∀ {ρ:aM} (l:ax),l.length=4→get ρ 7=aa (.val (nD x))→ev tok C ([]:Hs) (.sub (.lit (S l)) (.bin .mod (.var 7) (.lit (.int 4)))) ρ=aa (S [l.getD (x%4) 0],ae):=λ{ρ} l hl g7=>by
  have h4:x%4<l.length:=rE hl (j3 _ (by decide))
  refine tU (aK _) (bk (aA g7) (aK _) (pf x 4 (by decide))) (Jk ?_ (by lia));refine rE (m8) ?_;refine rE (ly h4) ?_;rfl
 have a1:=Ro (C:=C) (CH:=af) (hs:=[]) (i:=10) (ρ:=put ρ 7 (.val (nD x))) (gN rfl fT) (i1 (r:=row) 4 (by decide) (by decide) (by lia) gS (gN rfl fT)) (i2 [97,65,98,66] rfl gS) (by refine rE hl ?_;lia) (by refine rE hl ?_;have:=j3 (x/4) (AZ row.length);lia);replace a1:=(show jn (S [[97,65,98,66].getD (x%4) 0]) (x/4%(row.length+1)) (jd row)=jd (jn (c1 x) (x/4%(row.length+1)) row)from JL (λc=>S [c]) _ _ _)▸a1;obtain⟨r1,vZ⟩:∃r1,r1=jn (c1 x) (x/4%(row.length+1)) row:=⟨_,rfl⟩;have nT:r1.length=row.length+1:=rE vZ (rE (DH ..) rfl)
 replace a1:=vZ.symm▸a1;have a2:=Ro (C:=C) (CH:=af) (hs:=[]) (i:=10) (ρ:=put (put ρ 7 (.val (nD x))) 10 (.own (jd r1))) gS (i1 (r:=r1) 100 (by decide) (by decide) (by lia) (gN rfl gS) gS) (i2 [65,97,66,98] rfl (gN rfl gS)) (by show(r1.map _).length<_;refine rE (aQ ..) ?_;lia) (by show _≤(r1.map _).length;refine rE (aQ ..) ?_;have:=j3 (x/100) (AZ r1.length);lia);replace a2:=(show jn (S [[65,97,66,98].getD (x%4) 0]) (x/100%(r1.length+1)) (jd r1)=jd (sq row x)by refine rE (show jn (S [[65,97,66,98].getD (x%4) 0]) (x/100%(r1.length+1)) (jd r1)=jd (jn (c2 x) (x/100%(r1.length+1)) r1)from JL (λc=>S [c]) _ _ _) ?_;refine rE nT ?_;refine rE vZ ?_;rfl)▸a2;refine⟨_,(cA (m:=eU (.one 7) (nD x) ρ) rfl).trans ((bq a1).trans (cJ a2)),gS,λj o h1 h2 h=>?_⟩;exact gN (jT h2.symm) (gN (jT h2.symm) (gN (jT h1.symm) h))
noncomputable def l5(s:d3)(row:ax)(k:Nat):Pc:=⟨row.getD k 0,s.f/8^k%8,az (k%2) 1⟩
noncomputable def bY(lp:Nat→Pc)(t:T):D:=.list [tD t,S (fh (cG lp t)),S (fj (cG lp t))]
noncomputable def F0:List T:=(bM 6).map .lf
noncomputable def Sw:RE:=.bin .add (.list (.cons (.var 13) .nil)) (.comp [7] (.one 7) (.data (.aG 9 (.bin .mod (.bin .fdiv (.aG 8 (.lit (.int 5))) (.bin .pow (.lit (.int 8)) (.var 13))) (.lit (.int 8))))) .nil .nil (.ite (.bin .mod (.var 13) (.lit (.int 2))) (.bin .add (.aG 10 (.var 13)) (.var 7)) (.bin .add (.var 7) (.aG 10 (.var 13)))))
theorem afw{s:d3}(hk:k<6)(yn:row.length=6)(h8:get ρ 8=aa (.val s.D))(h9:get ρ 9=aa (.val (.list ot)))(fT:get ρ 10=aa (.own (jd row)))(gV:get ρ 13=aa (.val (nD k))):ev tok C ([]:Hs) Sw ρ=aa (bY (l5 s row) (.lf k),ae):=by
 obtain⟨h,hh⟩:∃h,h=s.f/8^k%8:=⟨_,rfl⟩;have hh8:h<8:=rE hh (j3 _ (by decide))
 have hp:8^k≤8^6:=yQ (by decide) (d4 hk);have e1:ev tok C ([]:Hs) (.aG 9 (.bin .mod (.bin .fdiv (.aG 8 (.lit (.int 5))) (.bin .pow (.lit (.int 8)) (.var 13))) (.lit (.int 8)))) ρ=aa (.tuple [S (iN h),S (fu h)],ae):=dp h9 (bk (bk (dp h8 (aK _) (z:=nD s.f) rfl) (bk (aK _) (aA gV) (Ds 8 k (by decide) (by lia))) (ya _ _ (oG (K8 (by decide))) (jj hp (by decide)))) (aK _) (pf _ 8 (by decide))) (rS hh (Sv h hh8))
 obtain⟨p,Sx⟩:∃p,p=l5 s row k:=⟨_,rfl⟩;have hrk:row[k]? =aa (row.getD k 0):=by refine rE (m8) ?_;refine rE (ly (rE yn hk)) ?_;rfl
 have e2:ev tok C ([]:Hs) (.comp [7] (.one 7) (.data (.aG 9 (.bin .mod (.bin .fdiv (.aG 8 (.lit (.int 5))) (.bin .pow (.lit (.int 8)) (.var 13))) (.lit (.int 8))))) .nil .nil (.ite (.bin .mod (.var 13) (.lit (.int 2))) (.bin .add (.aG 10 (.var 13)) (.var 7)) (.bin .add (.var 7) (.aG 10 (.var 13))))) ρ=aa (.list [S p.txt,S p.bare],ae):=by
  have le:=Jp h;refine(ik (ys:=[iN h,fu h]) (h:=S) (g:=λx=>S (cond (az (k%2) 1) ([row.getD k 0]++x) (x++[row.getD k 0]))) (r:=λx=>put (rem [7] ρ) 7 (.val (S x))) (Dh e1 rfl) (λZ Z=>rfl) (λx hx=>?_) (show 2≤1000000 by decide)).trans ?_
  ·have hx5:x.length≤5:=by rcases bE.mp hx with rfl|hx;exact le.1;refine rE (dK.mp hx) ?_;exact le.2
   have om:get (put (rem [7] ρ) 7 (.val (S x))) 13=_:=gL rfl rfl gV;have er:ev tok C ([]:Hs) (.aG 10 (.var 13)) (put (rem [7] ρ) 7 (.val (S x)))=aa (S [row.getD k 0],ae):=by refine(cA (IH (gL rfl rfl fT))).trans (W.aS (aA om) (lj ?_ (by lia)));unfold jd;refine rE (l9) ?_;refine rE hrk ?_;rfl
   have em:ev tok C ([]:Hs) (.bin .mod (.var 13) (.lit (.int 2))) (put (rem [7] ρ) 7 (.val (S x)))=aa (nD (k%2),ae):=bk (aA om) (aK _) (pf k 2 (by decide));have h2:k%2=0∨k%2=1:=by lia
   rcases h2 with q|q
   ·rw[q]at em ⊢;exact II em rfl (bk (aA gS) er (si _ _ (by refine rE bT (rE nc ?_);lia)))
   ·rw[q]at em ⊢;exact QI em rfl (bk er (aA gS) (si _ _ (by refine rE bT (rE nc ?_);lia)))
  ·refine rE Sx (rE hh ?_);unfold l5 Pc.txt Pc.bare;dsimp only;cases az (k%2) 1<;>rfl
 refine(bk (fG (bI (aA gV) di)) e2 (gm (show 1+2≤1000000 by decide))).trans ?_;show aa (dQ [nD k,S p.txt,S p.bare],ae)=aa (dQ [nD k,S (fh [l5 s row k]),S (fj [l5 s row k])],ae);exact rS Sx (rE (show fh [p]=p.txt from eg _) (rE (show fj [p]=p.bare from eg _) rfl))
noncomputable def AH(m:Bool)(at_:Nat)(F:List T):List T:=F.take at_++((match F.drop at_ with|a::b::r=>.nd m a b::r|r=>r):List T)
theorem DI(lp:Nat→Pc)(t:T):(cG lp t).length≤3 * sz t:=by
 induction t with
 |lf k=>exact bc rfl
 |nd m a b jz jA=>show([iq 40]++cG lp a++[iq (sg m)]++cG lp b++[iq 41]).length≤3 * (sz a+sz b+1);simp only[bt,bT,nc];lia
theorem afx(lp:Nat→Pc)(m:Bool)(a b:T):fh (cG lp (.nd m a b))=[40]++fh (cG lp a)++[sg m]++fh (cG lp b)++[41]∧fj (cG lp (.nd m a b))=[40]++fj (cG lp a)++[sg m]++fj (cG lp b)++[41]:=by have e:cG lp (.nd m a b)=[iq 40]++cG lp a++[iq (sg m)]++cG lp b++[iq 41]:=rfl;refine rE e ?_;unfold fh fj;simp only[K9];exact⟨rfl,rfl⟩
noncomputable def Sy:RE:=.bin .add (.list (.cons (.list (.cons (.var 14) (.cons (.aG 17 (.lit (.int 0))) (.cons (.aG 18 (.lit (.int 0))) .nil)))) .nil)) (.comp [19] (.one 19) (.data (.tup (.cons (.lit (.int 1)) (.cons (.lit (.int 2)) .nil)))) .nil .nil (.bin .add (.bin .add (.bin .add (.bin .add (.lit (.str (aj [40]))) (.aG 17 (.var 19))) (.var 14)) (.aG 18 (.var 19))) (.lit (.str (aj [41])))))
theorem afy{lp:Nat→Pc}{m:Bool}{a b:T}(ha:sz a≤12)(hb:sz b≤12)(tL:get ρ 14=aa (.val (S [sg m])))(qe:get ρ 17=aa (.val (bY lp a)))(rQ:get ρ 18=aa (.val (bY lp b))):ev tok C ([]:Hs) Sy ρ=aa (bY lp (.nd m a b),ae):=by
 have la:=DI lp a;have lb:=DI lp b;have ta:=we (cG lp a);have tb:=we (cG lp b);have ba:=wg (cG lp a);have bb:=wg (cG lp b);have go:∀ (i:Nat) (x y:ax),x.length≤300→y.length≤300→kL (bY lp a) (nD i)=aa (S x,ae)→kL (bY lp b) (nD i)=aa (S y,ae)→ev tok C ([]:Hs) (.bin .add (.bin .add (.bin .add (.bin .add (.lit (.str (aj [40]))) (.aG 17 (.var 19))) (.var 14)) (.aG 18 (.var 19))) (.lit (.str (aj [41])))) (put (rem [19] ρ) 19 (.val (nD i)))=aa (S ([40]++x++[sg m]++y++[41]),ae):=λi x y hx hy e1 e2=>by refine bk (bk (bk (bk (aK _) (dp (gL rfl rfl qe) (aA gS) e1) (si [40] x ?_)) (aA (gL rfl rfl tL)) (si _ _ ?_)) (dp (gL rfl rfl rQ) (aA gS) e2) (si _ _ ?_)) (aK _) (si _ [41] ?_)<;>simp only[bt,bT,nc]<;>lia
 have e2:ev tok C ([]:Hs) (.comp [19] (.one 19) (.data (.tup (.cons (.lit (.int 1)) (.cons (.lit (.int 2)) .nil)))) .nil .nil (.bin .add (.bin .add (.bin .add (.bin .add (.lit (.str (aj [40]))) (.aG 17 (.var 19))) (.var 14)) (.aG 18 (.var 19))) (.lit (.str (aj [41]))))) ρ=aa (.list [S (fh (cG lp (.nd m a b))),S (fj (cG lp (.nd m a b)))],ae):=by
  refine xA (afx lp m a b) λq1 q2=>rE q1 (rE q2 ?_);refine ik (ys:=[1,2]) (h:=nD) (g:=λi=>cond (az i 1) (S ([40]++fh (cG lp a)++[sg m]++fh (cG lp b)++[41])) (S ([40]++fj (cG lp a)++[sg m]++fj (cG lp b)++[41]))) (r:=λi=>put (rem [19] ρ) 19 (.val (nD i))) (Dh (tV (bI (aK _) (bI (aK _) di))) rfl) (λZ Z=>rfl) (λi hi=>?_) (show 2≤1000000 by decide);rcases bE.mp hi with rfl|hi
  ·exact go 1 _ _ (by lia) (by lia) rfl rfl
  ·obtain rfl:=dK.mp hi;exact go 2 _ _ (by lia) (by lia) rfl rfl
 exact bk (fG (bI (fG (bI (aA tL) (bI (dp qe (aK _) rfl) (bI (dp rQ (aK _) rfl) di)))) di)) e2 (gm (show 1+2≤1000000 by decide))
noncomputable def je(s:d3)(k:Nat)(F:List T):List T:=AH (aU ((s.d/4+k)%(2+s.d%4)) 2) (s.e/5^k%(F.length - 1)) F
noncomputable def su(s:d3):List Nat→List T→List T
 | [],F=>F
 |k::ks,F=>su s ks (je s k F)
noncomputable def t9(s:d3):List T:=su s (bM (2+s.d%4)) F0
noncomputable def ou(n:Nat):List Nat:=[42,42]++rep [124] n
theorem Sz:∀n,n<4→(ou n).length=2+n:=by decide
theorem afz:∀n,n<4→∀i,i<2+n→(ou n)[i]? =aa (sg (aU i 2)):=by decide
theorem JN(m:Bool)(p r:List T)(a b:T):AH m p.length (p++a::b::r)=p++ .nd m a b::r:=by unfold AH;exact rE (Bo rfl) (rE (aiv rfl) rfl)
theorem JO{l:List α}(h:k+1<l.length):∃p a b r,l=p++a::b::r∧p.length=k:=
 ⟨l.take k,l[k],l[k+1],l.drop (k+1+1),by refine rE (Vh ..) ?_;refine rE (Vh ..) ?_;exact(aip k l).symm,by refine rE qH ?_;lia⟩
theorem SA(l:ax)(h:l.length≤1000000):sW (S l)=aa (nD l.length,ae):=by show W.need (fY ((sL (aj l)).length:Nat)) (aX (sL (aj l)).length 1000000)=_;exact rE (v8 ..) (du _ (bO h))
noncomputable def SD:bP:=.cons (.asg 14 (.aG 12 (.bin .mod (.bin .add (.bin .fdiv (.aG 8 (.lit (.int 3))) (.lit (.int 4))) (.var 13)) (.bL 12)))) (.cons (.asg 15 (.bin .mod (.bin .fdiv (.aG 8 (.lit (.int 4))) (.bin .pow (.lit (.int 5)) (.var 13))) (.bin .sub (.bL 11) (.lit (.int 1))))) (.cons (.mul [17,18] [.val (.aG 11 (.var 15)),.val (.aG 11 (.bin .add (.var 15) (.lit (.int 1))))]) (.cons (.asg 16 Sy) (.cons (.asg 11 (.bin .add (.bin .add (.cw 11 .none (.some (.var 15)) .none) (.list (.cons (.var 16) .nil))) (.cw 11 (.some (.bin .add (.var 15) (.lit (.int 2)))) .none .none))) .nil))))
theorem afA{s:d3}{lp:Nat→Pc}(hk:k<6)(h2:2≤F.length)(hz:bK F≤12)(h8:get ρ 8=aa (.val s.D))(mI:get ρ 12=aa (.val (S (ou (s.d%4)))))(kq:get ρ 11=aa (.val (.list (F.map (bY lp))))):
  ∃ρ',dH C af (.one 13) SD (nD k) ρ []=aa (.next ρ' [],ae)∧get ρ' 11=aa (.val (.list ((je s k F).map (bY lp))))∧get ρ' 8=aa (.val s.D)∧get ρ' 12=aa (.val (S (ou (s.d%4))))∧(get ρ' 10=get ρ 10∧bK (je s k F)=bK F+1∧(je s k F).length+1=F.length):=by
 obtain⟨i,hi⟩:∃i,i=(s.d/4+k)%(2+s.d%4):=⟨_,rfl⟩;obtain⟨w,hw⟩:∃w,w=s.e/5^k%(F.length - 1):=⟨_,rfl⟩;have h4:s.d%4<4:=j3 _ (by decide);have uc:i<2+s.d%4:=rE hi (j3 _ (ia (by decide) (nj 2 _)))
 have DJ:w<F.length - 1:=rE hw (j3 _ (KV h2))
 have hs:=Sz _ h4;have yh:F.length≤12:=aF (AA F) hz;obtain⟨p,a,b,r,hF,hp⟩:=JO (l:=F) (k:=w) (Nat.add_lt_of_lt_sub DJ);have cz:je s k F=p++ .nd (aU i 2) a b::r:=by unfold je;exact rS hi (rS hw (rE hF (rS hp (JN _ p r a b))))
 have eY:bK F=bK p+(sz a+(sz b+bK r)):=by refine rE hF (rE (qw ..) ?_);rfl
 have hsz2:bK (je s k F)=bK p+(sz a+sz b+1+bK r):=by refine rE cz (rE (qw ..) ?_);rfl
 have JB:F.length=p.length+(r.length+1+1):=by refine rE hF (rE bt ?_);rfl
 have aiI:(je s k F).length=p.length+(r.length+1):=by refine rE cz (rE bt ?_);rfl
 have hm:(F.map (bY lp)).length=F.length:=aQ _;have yo:(F.map (bY lp)).length≤12:=by rw[hm];exact yh
 have DL:w<12:=ia DJ (aF (qE ..) yh);have h5:5^k≤5^6:=yQ (by decide) (d4 hk);have e1:ev tok C ([]:Hs) (.aG 12 (.bin .mod (.bin .add (.bin .fdiv (.aG 8 (.lit (.int 3))) (.lit (.int 4))) (.var 13)) (.bL 12))) (put ρ 13 (.val (nD k)))=aa (S [sg (aU i 2)],ae):=by
  have el:ev tok C ([]:Hs) (.bL 12) (put ρ 13 (.val (nD k)))=aa (nD (2+s.d%4),ae):=by have:=kB (tk:=tok) (C:=C) (hs:=[]) (ρ:=put ρ 13 (.val (nD k))) (eK (gN rfl mI)) (SA (ou (s.d%4)) (by rw[hs];exact aF (qJ (d4 h4) 2) (by decide)));rwa [hs]at this
  exact dp (gN rfl mI) (bk (bk (bk (dp (gN rfl h8) (aK _) (z:=nD s.d) rfl) (aK _) (ya s.d 4 (by decide) (by decide))) (aA gS) (add_n _ _)) el (pf _ _ (by lia))) (rS hi (Jk (afz _ h4 i uc) (ia uc (aF (qJ (d4 h4) 2) (by decide)))))
 obtain⟨bD,wx⟩:∃bD,bD=put (put ρ 13 (.val (nD k))) 14 (.val (S [sg (aU i 2)])):=⟨_,rfl⟩;have g8:get bD 8=aa (.val s.D):=rE (wx) (gN rfl (gN rfl h8))
 have wy:get bD 11=aa (.val (.list (F.map (bY lp)))):=rE (wx) (gN rfl (gN rfl kq))
 have JP:get bD 12=aa (.val (S (ou (s.d%4)))):=rE (wx) (gN rfl (gN rfl mI))
 have om:get bD 13=aa (.val (nD k)):=rE (wx) (gN rfl gS)
 have g14:get bD 14=aa (.val (S [sg (aU i 2)])):=rE (wx) gS
 have iO:get bD 10=get ρ 10:=rE (wx) (gN rfl (gN rfl rfl))
 have e2:ev tok C ([]:Hs) (.bin .mod (.bin .fdiv (.aG 8 (.lit (.int 4))) (.bin .pow (.lit (.int 5)) (.var 13))) (.bin .sub (.bL 11) (.lit (.int 1)))) bD=aa (nD w,ae):=by
  have el:ev tok C ([]:Hs) (.bL 11) bD=aa (nD F.length,ae):=by have:=kB (tk:=tok) (C:=C) (hs:=[]) (eK wy) (pe (aF yo (by decide)));rwa [hm]at this
  exact(bk (bk (dp g8 (aK _) (z:=nD s.e) rfl) (bk (aK _) (aA om) (Ds 5 k (by decide) (by lia))) (ya _ _ (oG (K8 (by decide))) (jj h5 (by decide)))) (bk el (aK _) (Rm (b:=1) (d4 h2))) (pf _ _ (oG (KV h2)))).trans (rS hw rfl)
 have hL:F.map (bY lp)=p.map (bY lp)++bY lp a::bY lp b::r.map (bY lp):=by refine rE hF (rE dw ?_);rfl
 have AI:(p.map (bY lp)).length=w:=rE (aQ ..) hp
 have e3:ev tok C ([]:Hs) (.aG 11 (.var 15)) (put bD 15 (.val (nD w)))=aa (bY lp a,ae):=dp (gN rfl wy) (aA gS) (lj (by refine rE hL (rS AI (rE (yK (bZ _)) ?_));refine rE (Bf ..) ?_;rfl) (ew DL (by decide)));have e4:ev tok C ([]:Hs) (.aG 11 (.bin .add (.var 15) (.lit (.int 1)))) (put bD 15 (.val (nD w)))=aa (bY lp b,ae):=dp (gN rfl wy) (bk (aA gS) (aK _) (add_n w 1)) (lj (by refine rE hL (rE (yK (aF (sG AI) (wO w))) ?_);refine rE AI (rE (air (n:=w) (m:=1)) ?_);rfl) (jj (Vk DL) (by decide)));have e5:=afy (C:=C) (lp:=lp) (m:=aU i 2) (a:=a) (b:=b) (ρ:=put (put (put bD 15 (.val (nD w))) 17 (.val (bY lp a))) 18 (.val (bY lp b))) (by lia) (by lia) (gN rfl (gN rfl (gN rfl g14))) (gN rfl gS) gS;have e6:ev tok C ([]:Hs) (.bin .add (.bin .add (.cw 11 .none (.some (.var 15)) .none) (.list (.cons (.var 16) .nil))) (.cw 11 (.some (.bin .add (.var 15) (.lit (.int 2)))) .none .none)) (put (put (put (put bD 15 (.val (nD w))) 17 (.val (bY lp a))) 18 (.val (bY lp b))) 16 (.val (bY lp (.nd (aU i 2) a b))))=aa (.list ((je s k F).map (bY lp)),ae):=by have DM:get (put (put (put (put bD 15 (.val (nD w))) 17 (.val (bY lp a))) 18 (.val (bY lp b))) 16 (.val (bY lp (.nd (aU i 2) a b)))) 11=aa (.val (.list (F.map (bY lp)))):=gN rfl (gN rfl (gN rfl (gN rfl wy)));have SE:get (put (put (put (put bD 15 (.val (nD w))) 17 (.val (bY lp a))) 18 (.val (bY lp b))) 16 (.val (bY lp (.nd (aU i 2) a b)))) 15=aa (.val (nD w)):=gN rfl (gN rfl (gN rfl gS));refine(bk (bk (jU (eK DM) ee (gX (aA SE)) ee (yb (k:=w) (ew DL (by decide)) (aF yo (by decide)))) (fG (bI (aA gS) di)) (gm (by refine rE qH (rE sS ?_);exact aF (m7 (aF (uo ..) yo)) (by decide)))) (jU (eK DM) (gX (i:=((w+2:Nat):Int)) (bk (aA SE) (aK _) (add_n w 2))) ee ee (wd (k:=w+2) (jj (m7 (Vk DL)) (by decide)) (aF yo (by decide)))) (gm (by refine rE bt (rE qH (rE uw (rE sS ?_)));exact aF (um (m7 (aF (uo ..) yo)) (aF (qE ..) yo)) (by decide)))).trans ?_;refine rE cz (rE hL (rE (Bo AI) (rS Ei (rE (aiv AI) (rE dw ?_)))));show aa (dQ ((p.map (bY lp)++[bY lp (.nd (aU i 2) a b)])++r.map (bY lp)),ae)=_;refine rE (d5 ..) ?_;rfl
 refine⟨put (put (put (put (put bD 15 (.val (nD w))) 17 (.val (bY lp a))) 18 (.val (bY lp b))) 16 (.val (bY lp (.nd (aU i 2) a b)))) 11 (.val (.list ((je s k F).map (bY lp)))),(cA (m:=eU (.one 13) (nD k) ρ) rfl).trans ((bq (c7 e1)).trans ?_),gS,?_,?_,?_⟩
 ·exact rS (wx) ((bq (c7 e2)).trans ((bq (QM (QN e3 (QN e4 adA)) rfl)).trans ((bq (c7 e5)).trans (cJ (c7 e6)))))
 ·exact gN rfl (gN rfl (gN rfl (gN rfl (gN rfl g8))))
 ·exact gN rfl (gN rfl (gN rfl (gN rfl (gN rfl JP))))
 ·exact⟨(gN rfl (gN rfl (gN rfl (gN rfl (gN rfl iO))))),by lia,by lia⟩
theorem afB{s:d3}{lp:Nat→Pc}:∀ (ks:ax) (F:List T) (ρ:aM),(∀k∈ks,k<6)→ks.length<F.length→bK F+ks.length≤12→get ρ 8=aa (.val s.D)→get ρ 12=aa (.val (S (ou (s.d%4))))→get ρ 11=aa (.val (.list (F.map (bY lp))))→
  ∃ρ',dE (dH C af (.one 13) SD) (ks.map nD) ρ []=aa (.next ρ' [],ae)∧get ρ' 11=aa (.val (.list ((su s ks F).map (bY lp))))∧get ρ' 10=get ρ 10:=by
 intro ks;induction ks with
 |nil=>intro F ρ _ _ _ _ _ h;exact⟨ρ,rfl,h,rfl⟩
 |cons k ks ih=>intro F ρ hk hl hz h8 mI kq;rw[bT]at hl hz;obtain⟨bD,e1,DM,q8,q12,AJ,qz,ql⟩:=afA (C:=C) (hk k bG) (by lia) (by lia) h8 mI kq;exact j8 (ih (je s k F) bD (λj hj=>hk j (cf _ hj)) (by lia) (by lia) q8 q12 DM) λud e2 r11 qA=>⟨ud,(pa e1).trans e2,r11,qA.trans AJ⟩
theorem afC:∀n,n<4→j7 .mul (S [124]) (nD n)=aa (S (rep [124] n),ae):=by
 refine λn h=>?_;have:n=0∨n=1∨n=2∨n=3:=by lia
 rcases this with rfl|rfl|rfl|rfl<;>rfl
theorem afD:∀n,n<4→[42,42].length+(rep [124] n).length≤1000000:=by decide
theorem afE(s:d3)(n:Nat):run tok aH (n+1) 5 [s.D,.list ot]=aa (.tuple [ip (rowOf s),.list ((t9 s).map (bY (l5 s (rowOf s))))],ae):=by
 have h4:s.d%4<4:=j3 _ (by decide);obtain⟨mM,DN⟩:∃mM,mM=put [(8,.val s.D),(9,.val (.list ot))] 10 (.own (jd [])):=⟨_,rfl⟩;have g8:get mM 8=aa (.val s.D):=by refine rE (DN) ?_;rfl
 have g9:get mM 9=aa (.val (.list ot)):=by refine rE (DN) ?_;rfl
 have iO:get mM 10=aa (.own (jd [])):=by refine rE (DN) ?_;rfl
 refine oa (ρ:=[(8,.val s.D),(9,.val (.list ot))]) rfl rfl (hs:=[]) ((bq (show ex tok _ af (.own 10 (.list .nil)) _ []=aa (.next mM [],ae)by refine rE (DN) ?_;rfl)).trans ?_);obtain⟨bD,e1,p10,p⟩:=JM (C:=run tok aH n) (x:=s.a) iO (by decide);obtain⟨ud,e2,AJ,q⟩:=JM (C:=run tok aH n) (x:=s.b) p10 (by refine rE (sr ..) ?_;decide);obtain⟨qB,e3,qA,r⟩:=JM (C:=run tok aH n) (x:=s.c) AJ (by refine rE (sr ..) (rE (sr ..) ?_);decide);have r8:=r 8 _ (by decide) (by decide) (q 8 _ (by decide) (by decide) (p 8 _ (by decide) (by decide) g8));have r9:=r 9 _ (by decide) (by decide) (q 9 _ (by decide) (by decide) (p 9 _ (by decide) (by decide) g9));have qA:get qB 10=aa (.own (jd (rowOf s))):=qA;have DC:(rowOf s).length=6:=by unfold rowOf;refine rE (sr ..) (rE (sr ..) (rE (sr ..) ?_));rfl
 have eI:fP tok (run tok aH n) ([]:Hs) (.data (.cw 8 .none (.some (.lit (.int 3))) .none)) mM=aa ([nD s.a,nD s.b,nD s.c],ae):=
  eP (jU (eK g8) ee (gX (aK _)) ee (yb (k:=3) (by decide) (show 6≤1000000 by decide)))
 refine(bq ((jV eI).trans ((pa e1).trans ((pa e2).trans ((pa e3).trans rfl))))).trans ?_;have zq:ev tok (run tok aH n) ([]:Hs) (.comp [13] (.one 13) (.dy (.lit (.int 6))) .nil .nil Sw) qB=aa (.list (F0.map (bY (l5 s (rowOf s)))),ae):=by
  refine(ik (ys:=bM 6) (h:=nD) (g:=λk=>bY (l5 s (rowOf s)) (.lf k)) (r:=λk=>put (rem [13] qB) 13 (.val (nD k))) (kD (n:=6) (aK _) (by decide)) (λZ Z=>rfl) (λk hk=>?_) (by decide)).trans ?_
  ·exact afw (lr.mp hk) DC (gL rfl rfl r8) (gL rfl rfl r9) (gL rfl rfl qA) gS
  ·unfold F0;refine rE dJ ?_;rfl
 refine(bq (c7 zq)).trans ?_;have e12:ev tok (run tok aH n) ([]:Hs) (.bin .add (.lit (.str (aj [42,42]))) (.bin .mul (.lit (.str (aj [124]))) (.bin .mod (.aG 8 (.lit (.int 3))) (.lit (.int 4))))) (put qB 11 (.val (.list (F0.map (bY (l5 s (rowOf s)))))))=aa (S (ou (s.d%4)),ae):=
  bk (aK _) (bk (aK _) (bk (dp (gN rfl r8) (aK _) (z:=nD s.d) rfl) (aK _) (pf s.d 4 (by decide))) (afC _ h4)) (si [42,42] _ (afD _ h4))
 refine(bq (c7 e12)).trans ?_;obtain⟨SF,e4,t11,JQ⟩:=afB (C:=run tok aH n) (s:=s) (lp:=l5 s (rowOf s)) (bM (2+s.d%4)) F0 (put (put qB 11 (.val (.list (F0.map (bY (l5 s (rowOf s))))))) 12 (.val (S (ou (s.d%4))))) (λk hk=>by have:=lr.mp hk;lia)
  (by refine rE qL ?_;show _<6;lia) (by refine rE qL ?_;show 6+_≤12;lia) (gN rfl (gN rfl r8)) gS (gN rfl gS)
 have JQ:get SF 10=aa (.own (jd (rowOf s))):=JQ.trans (gN rfl (gN rfl qA));have el:ev tok (run tok aH n) ([]:Hs) (.bL 12) (put (put qB 11 (.val (.list (F0.map (bY (l5 s (rowOf s))))))) 12 (.val (S (ou (s.d%4)))))=aa (nD (2+s.d%4),ae):=by have hs:=Sz _ h4;have:=kB (tk:=tok) (C:=run tok aH n) (hs:=[]) (eK (i:=12) (ρ:=put (put qB 11 (.val (.list (F0.map (bY (l5 s (rowOf s))))))) 12 (.val (S (ou (s.d%4))))) gS) (SA (ou (s.d%4)) (by rw[hs];exact aF (qJ (d4 h4) 2) (by decide)));rwa [hs]at this
 exact(bq ((jV (kD el (by lia))).trans e4)).trans (Jn (tV (bI (aA (wa JQ rfl)) (bI (aA ((Ap _ _ _).trans (congrArg _ t11))) di))))
noncomputable def l6:List Lk:=[[(0,1),(2,3),(4,5)],[(0,1),(2,4),(3,5)],[(0,1),(2,5),(3,4)],[(0,2),(1,3),(4,5)],[(0,2),(1,4),(3,5)],[(0,2),(1,5),(3,4)],[(0,3),(1,2),(4,5)],[(0,3),(1,4),(2,5)],
 [(0,3),(1,5),(2,4)],[(0,4),(1,2),(3,5)],[(0,4),(1,3),(2,5)],[(0,4),(1,5),(2,3)],[(0,5),(1,2),(3,4)],[(0,5),(1,3),(2,4)],[(0,5),(1,4),(2,3)]]
noncomputable def jX(F:List T):List (List (List Nat)):=F.foldl (λacc t=>acc.flatMap λone=>(fW t).map λtwo=>one++two) [[]]
noncomputable def ue(p r:Nat × Nat):Bool:=cond (aU p.1 r.1) (cond (aU r.1 p.2) (aU p.2 r.2) ag) ag
noncomputable def jB(L:Lk):Bool:= !L.any λp=>L.any λr=>ue p r
noncomputable def jC(F:List T)(L:Lk):Bool:=match mV L (jX F)with|some b=>b|none=>ag
noncomputable def fc{α:Type}:T→(T→α)→α
 | .lf k,c=>c (.lf k)
 | .nd m a b,c=>fc a λa=>fc b λb=>cond m (c (.nd ae a b)) (c (.nd ag a b))
noncomputable def fL{α β:Type}(f:β→(β→α)→α):List β→(List β→α)→α
 | [],c=>c []
 |x::r,c=>f x λx=>fL f r λr=>c (x::r)
theorem SG(t:T):∀c:T→α,fc t c=c t:=by
 induction t with
 |lf=>exact λZ=>rfl
 |nd m a b jz jA=>exact λc=>(jz _).trans ((jA _).trans (by induction m<;>rfl))
theorem AK{f:β→(β→α)→α}(h:∀x c,f x c=c x):∀l c,fL f l c=c l:=by
 intro l;induction l with
 |nil=>exact λZ=>rfl
 |cons x r ih=>exact λc=>(h _ _).trans (ih _)
noncomputable def DO(ring:Bool):Nat→List T→Option (List Lk)
 |0,_=>af
 |n+1,seq=>fL fc seq (dS (λZ Z=>ae) ring (DO ring n))
theorem SH(ring:Bool):∀n,DO ring n=jc (λZ Z=>ae) ring n:=by
 intro n;induction n with
 |zero=>rfl
 |succ n ih=>exact funext λs=>(AK SG s _).trans (congrFun (congrArg (dS _ ring) ih) s)
noncomputable def JR(F:List T)(P:List (List (List Nat))):Bool:=match cL (λL=>(mV L P).map λb=>cond b [L] []) l6 with
 |none=>ag
 |some N=>DO ag 14 F == aa N&&DO ae 14 F == aa (N.filter jB)
noncomputable def wz(F:List T):Bool:=fL fc F λF=>fL (fL (fL λx c=>c x)) (jX F) (JR F)
theorem afF(F:List T):wz F=JR F (jX F):=(AK SG F _).trans (AK (AK (AK λZ Z=>rfl)) _ _)
noncomputable def allR(P:List T→Bool)(n r:Nat):List Nat→List T→Bool
 | [],F=>P F
 |k::ks,F=>(bM (F.length - 1)).all λw=>allR P n r ks (AH (aU ((r+k)%n) 2) w F)
theorem afG(P:List T→Bool)(s:d3):∀ (ks:ax) (F:List T),ks.length<F.length→allR P (2+s.d%4) (s.d/4%(2+s.d%4)) ks F→P (su s ks F):=by
 intro ks;induction ks with
 |nil=>exact λZ Z h=>h
 |cons k ks ih=>
  intro F hl h;replace hl:=bT▸hl;have hw:s.e/5^k%(F.length - 1)<F.length - 1:=j3 _ (by lia);have h:=fk.mp h _ (lr.mpr hw);replace h:=(Nat.mod_add_mod ..)▸h;refine ih _ ?_ h;obtain⟨p,a,b,r,hF,hp⟩:=JO (l:=F) (k:=s.e/5^k%(F.length - 1)) (by lia);show ks.length<(AH _ (s.e/5^k%(F.length - 1)) F).length;refine rS hp ?_;refine rE hF ?_;refine rE (JN ..) ?_;have:F.length=p.length+(r.length+1+1):=by refine rE hF ?_;refine rE bt ?_;rfl
  refine rE bt ?_;refine rE bT ?_;lia
theorem afH:(bM 2).all (λr=>allR wz 2 r (bM 2) F0):=by kernel_rfl
theorem afI:(bM 3).all (λr=>allR wz 3 r (bM 3) F0):=by kernel_rfl
theorem afJ:(bM 4).all (λr=>allR wz 4 r (bM 4) F0):=by kernel_rfl
theorem afK:(bM 5).all (λr=>allR wz 5 r (bM 5) F0):=by kernel_rfl
theorem afL(s:d3):wz (t9 s):=by
 have h4:s.d%4<4:=j3 _ (by decide);refine afG wz s (bM (2+s.d%4)) F0 (by refine rE qL ?_;show _<6;lia) ?_;have hr:s.d/4%(2+s.d%4)<2+s.d%4:=j3 _ (by lia);revert hr;generalize s.d/4%(2+s.d%4)=r;intro hr;have hm:=lr.mpr hr;have:s.d%4=0∨s.d%4=1∨s.d%4=2∨s.d%4=3:=by lia
 rcases this with q|q|q|q<;>rw[q]at hm ⊢
 ·exact fk.mp afH r hm
 ·exact fk.mp afI r hm
 ·exact fk.mp afJ r hm
 ·exact fk.mp afK r hm
theorem afM{P:List (List (List Nat))}:∀ {l N:List Lk},cL (λL=>(mV L P).map λb=>cond b [L] []) l=aa N→(∀L∈l,mV L P=aa (match mV L P with|some b=>b|none=>ag))∧N=l.filter λL=>match mV L P with|some b=>b|none=>ag:=by
 intro l;induction l with
 |nil=>intro N h;replace h:=iJ h;subst h;exact⟨λZ h=>(nomatch h),rfl⟩
 |cons L l ih=>
  intro N h;refine oE h λx h1 h2=>oE h2 λy h3 h4=>?_;clear h2;replace h4:=iJ h4;subst h4;refine xA (ih h3) λi1 i2=>?_;have h1:(mV L P).map (λb=>cond b [L] [])=aa x:=h1;induction q:mV L P with
  |none=>exact zN (q▸h1)
  |some b=>
   clear h3;replace h1:=iJ (q▸h1);subst h1;refine⟨λL' h=>?_,?_⟩
   ·rcases bE.mp h with rfl|h
    ·exact rE q rfl
    ·exact i1 L' h
   ·refine rE uI ?_;refine rE q ?_;refine rS i2 ?_;induction b<;>rfl
structure DP(F:List T):Prop where
 net:∀L∈l6,mV L (jX F)=aa (jC F L)
 all:jc (λZ Z=>ae) ag 14 F=aa (l6.filter (jC F))
 cyc:jc (λZ Z=>ae) ae 14 F=aa ((l6.filter (jC F)).filter jB)
theorem afN(s:d3):DP (t9 s):=by
 have h:=afL s;revert h;generalize t9 s=F;intro h;replace h:=(afF F).symm.trans h;unfold JR at h;induction q:cL (λL=>(mV L (jX F)).map λb=>cond b [L] []) l6 with
 |none=>replace h:=q▸h;exact zF h
 |some N=>replace h:=q▸h;exact xA (cg h) λh1 h2=>xA (afM q) λi1 i2=>⟨i1,(congrFun (SH ..) F).symm.trans ((pC h1).trans (congrArg aa i2)),(congrFun (SH ..) F).symm.trans ((pC h2).trans (by refine rE i2 ?_;rfl))⟩
noncomputable def DQ(M:cP):Option (List Lk):=(cL (ph M) [[]]).bind λa=>(cL (ph M) a).bind λb=>cL (ph M) b
noncomputable def uf(row:ax):List (List Nat):=row.map λc=>(bM 6).filter λj=>oj [c,row.getD j 0]
noncomputable def l7(c:Nat)(row:ax):Nat:=(row.filter (az c)).length
noncomputable def JS(row:ax):Bool:=az (l7 97 row) (l7 65 row)&&az (l7 98 row) (l7 66 row)
noncomputable def JT(row:ax):Bool:=cond (JS row) (match DQ (uf row)with|none=>ag|some Ls=>Ls == l6.filter (dZ (mY row))&& !Ls.isEmpty) ae
noncomputable def JU(P:List Nat→Bool):Nat→List Nat→Bool
 |0,l=>P l
 |n+1,l=>[97,65,98,66].all λc=>JU P n (c::l)
theorem afO(P:List Nat→Bool):∀ (n:Nat) (w l:ax),w.length=n→(∀c∈w,c=97∨c=98∨c=65∨c=66)→JU P n l→P (w.reverse++l):=by
 intro n;induction n with
 |zero=>intro w l hl _ h;exact rE (wG hl) h
 |succ n ih=>
  intro w l hl hc h;induction w using bj with
  |nil=>cases hl
  |cons c w=>
   refine rE aiq (rE (d5 ..) ?_);refine ih w (c::l) (yL hl) (λx hx=>hc x (cf _ hx)) (fk.mp h c ?_);rcases hc c bG with rfl|rfl|rfl|rfl<;>decide
theorem afP:JU JT 6 []:=by kernel_rfl
theorem SJ{x y:α}:∀ {k:Nat}{l:List α},y∈jn x k l→y=x∨y∈l:=by
 intro k;induction k with
 |zero=>exact λh=>bE.mp h
 |succ k ih=>
  intro l h;induction l using bj with
  |nil=>exact bE.mp h
  |cons z l=>
   rcases bE.mp h with rfl|h
   ·exact .inr bG
   ·exact(ih h).imp id (cf _)
theorem uh(c x:Nat):∀ (k:Nat) (l:ax),l7 c (jn x k l)=l7 c l+cond (az c x) 1 0:=by
 have e:∀ (y:Nat) (l:ax),l7 c (y::l)=l7 c l+cond (az c y) 1 0:=λy l=>by unfold l7;refine rE uI ?_;cases az c y<;>rfl
 intro k;induction k with
 |zero=>exact λl=>e x l
 |succ k ih=>
  intro l;induction l using bj with
  |nil=>exact e x []
  |cons z l=>show l7 c (z::jn x k l)=_;exact rE (e ..) (rE (e ..) (rE (ih ..) (rE (Ke ..) rfl)))
theorem SK(x:Nat):x%4=0∨x%4=1∨x%4=2∨x%4=3:=VD _ (j3 _ (by decide))
structure AL(row:ax):Prop where
 ch:∀c∈row,c=97∨c=98∨c=65∨c=66
 a:l7 97 row=l7 65 row
 b:l7 98 row=l7 66 row
theorem AL.step(g:AL row)(x:Nat):AL (sq row x):=by
 have hc:(c1 x=97∧c2 x=65)∨(c1 x=65∧c2 x=97)∨(c1 x=98∧c2 x=66)∨(c1 x=66∧c2 x=98):=by
  unfold c1 c2;rcases SK x with q|q|q|q<;>refine rE q ?_<;>decide
 unfold sq;revert hc;generalize c1 x=u;generalize c2 x=v;intro hc;refine⟨λc h=>?_,?_,?_⟩
 ·rcases SJ h with rfl|h
  ·lia
  ·rcases SJ h with rfl|h
   ·lia
   ·exact g.ch c h
 ·refine rE (uh ..) ?_;refine rE (uh ..) ?_;refine rE (uh ..) ?_;refine rE (uh ..) ?_;refine rE g.a ?_;rcases hc with⟨rfl,rfl⟩| ⟨rfl,rfl⟩| ⟨rfl,rfl⟩| ⟨rfl,rfl⟩<;>rfl
 ·refine rE (uh ..) ?_;refine rE (uh ..) ?_;refine rE (uh ..) ?_;refine rE (uh ..) ?_;refine rE g.b ?_;rcases hc with⟨rfl,rfl⟩| ⟨rfl,rfl⟩| ⟨rfl,rfl⟩| ⟨rfl,rfl⟩<;>rfl
theorem SM(s:d3):AL (rowOf s):=(((⟨λZ h=>(nomatch h),rfl,rfl⟩:AL []).step s.a).step s.b).step s.c
theorem SN(s:d3):(rowOf s).length=6:=by unfold rowOf;refine rE (sr ..) (rE (sr ..) (rE (sr ..) ?_));rfl
theorem afQ(s:d3):pk (rowOf s):=⟨SN s,(SM s).ch⟩
structure Links(row:ax)(Ls:List Lk):Prop where
 run:DQ (uf row)=aa Ls
 eq:Ls=l6.filter (dZ (mY row))
 ne:Ls≠[]
theorem afR(s:d3):∃Ls,Links (rowOf s) Ls:=by
 have g:=SM s;have h:=afO JT 6 (rowOf s).reverse [] (rE K7 (SN s)) (λc hc=>g.ch c (KN.mp hc)) afP;replace h:=(eg ..)▸(aiw ..)▸h;revert h g;generalize rowOf s=row;intro g h;unfold JT at h;have:JS row:=by unfold JS;refine rE g.a (rE g.b (rE (nh ..) (rE (nh ..) ?_)));rfl
 replace h:=this▸h;induction q:DQ (uf row)with
 |none=>replace h:=q▸h;exact zF h
 |some Ls=>replace h:=q▸h;refine xA (cg h) λh1 h2=>⟨Ls,q,pC h1,λe=>?_⟩;replace h2:=e▸h2;exact zF h2
noncomputable def yp(L:Lk)(k:Nat):Bool:= !L.any λp=>aU p.1 k&&aX k p.2
noncomputable def SP(L:Lk)(t:Nat):Bool:=lY (λa b=>lEq (bS a) (bS b)) (mU L t) [ae,ae,ae]
noncomputable def asks(L:Lk):List Bool:=[sd (dG ag [34,40]) (lX (og L 0) 0),sd (dG ag [34]) (lX (og L 0) 0)]++(pG 1 5).map λk=>sd [] (lX ((og L 0).drop k++(og L 0).take k) 0)
noncomputable def yq(L:Lk):Bool:=aX L.length 10&&L.all λp=>aU p.1 6&&(aU p.2 6&& !Nat.beq p.1 p.2)
noncomputable def afS(L:Lk):Bool:=((bM 6).all λt=>SP L t == jB L)&&(yq L&&asks L == [ag]++(bM 6).map (yp L))
theorem afT:l6.all afS:=by kernel_rfl
structure SQ(L:Lk):Prop where
 told:∀t,t<6→SP L t=jB L
 yq:Rt L
 ask:asks L=[ag]++(bM 6).map (yp L)
theorem SR{L:Lk}(h:L∈l6):SQ L:=by refine xA (cg (fk.mp afT L h)) λh1 h2=>xA (cg h2) λh2 h3=>xA (cg h2) λh4 h5=>⟨λt ht=>pC (fk.mp h1 t (lr.mpr ht)),⟨bc h4,λp hp=>?_⟩,pC h3⟩;refine xA (cg (fk.mp h5 p hp)) λa b=>xA (cg b) λb c=>⟨bc a,bc b,λe=>?_⟩;replace c:=e▸c;replace c:=(nh ..)▸c;exact zF c
theorem afU(l:List Int):By (l.map .int)=aa l:=by
 induction l with
 |nil=>rfl
 |cons i l ih=>exact cA ih
theorem afV(k:Nat)(xs:List α):∀j,(jI k j xs).length≤xs.length:=by
 induction xs with
 |nil=>intro j;induction j<;>exact bZ _
 |cons x xs ih=>
  intro j;induction j using lq with
  |zero=>exact m7 (ih k)
  |succ j=>exact Bc (ih j)
theorem afW(f:α→β)(k:Nat)(xs:List α):∀j,jI k j (xs.map f)=(jI k j xs).map f:=by
 induction xs with
 |nil=>intro j;induction j<;>rfl
 |cons x xs ih=>
  intro j;induction j using lq with
  |zero=>exact congrArg (f x:: ·) (ih k)
  |succ j=>exact ih j
noncomputable def m6(x:Int):Int:=x.fmod 1000000
theorem SS(x:Int):0≤m6 x∧m6 x<1000000:=by unfold m6;rw[ES _ (by decide)];exact⟨Int.emod_nonneg _ (by decide),Int.emod_lt_of_pos _ (by decide)⟩
noncomputable def sumK(st:Int)(k:Nat)(l:List Int):Nat:=(m6 (st+uR ((jI 5 0 ((l.take 60).drop k)).map m6))).toNat
noncomputable def SU:RE:=.comp [7] (.one 7) (.data (.cw 54 (.some (.var 13)) (.some (.lit (.int 60))) (.some (.lit (.int 6))))) .nil .nil (.bin .mod (.var 7) (.lit (.int 1000000)))
noncomputable def SV:RE:=.bin .mod (.bin .add (.aG 1 (.var 13)) (.prim .sum (.cons SU .nil))) (.lit (.int 1000000))
theorem afX{st:List Int}{l:List Int}{x:Int}(g1:get ρ 1=aa (.val (.list (st.map .int))))(AM:get ρ 54=aa (.val (.list (l.map .int))))(om:get ρ 13=aa (.val (nD k)))(hx:st[k]? =aa x)(hl:l.length≤63)(hk:k<1000):
  ev tok C hs SV ρ=aa (nD (sumK x k l),ae):=by
 obtain⟨m,hm⟩:∃m,m=jI 5 0 ((l.take 60).drop k):=⟨_,rfl⟩;have hlen:m.length≤63:=by refine rE hm (aF (afV 5 _ 0) (rE uw (rE qH (aF (qE ..) (aF (uo ..) hl)))))
 have e1:fP tok C hs (.data (.cw 54 (.some (.var 13)) (.some (.lit (.int 60))) (.some (.lit (.int 6))))) ρ=aa (m.map .int,ae):=by
  have e:m.map fY=jI 5 0 (((l.map fY).take 60).drop k):=rE hm (rS wX (rS yP (rE (afW ..) rfl)))
  refine rE e (eP (jU (eK AM) (gX (aA om)) (gX (aK _)) (gX (aK _)) (du _ ?_)));show(lz (aa (k:Int))&&ae&&aX (l.map fY).length big);exact rE (Av (ew hk (by decide))) (rE (aQ ..) (bO (aF hl (by decide))))
 have e2:ev tok C hs SU ρ=aa (.list (m.map λi=>.int (m6 i)),ae):=ik e1 (λZ Z=>rfl) (λy Z=>bk (aA gS) (aK _) rfl) (aF hlen (by decide));have e3:gT .sum [.list (m.map λi=>.int (m6 i))]=aa (.int (uR (m.map m6)),ae):=by refine rE (show(m.map λi=>fY (m6 i))=(m.map m6).map .int by refine rE dJ ?_;rfl) ?_;refine(cA (afU _)).trans (du _ ?_);refine rE (aQ ..) (rE (show aU m.length 1000000 from bO (jj hlen (by decide))) (rE (EK ..) ?_));rw[fk];intro i hi;refine aD (fq.mp hi) λj Z e9=>?_;subst e9;have h:=SS j;exact bO (Vk (ew (U3.mp (by rw[Int.natAbs_of_nonneg h.1];exact h.2:((m6 j).natAbs:Int)<((1000000:Nat):Int))) (by decide)))
 unfold sumK;refine rS hm (rE (show nD (m6 (x+uR (m.map m6))).toNat=.int (m6 (x+uR (m.map m6)))from congrArg fY (Ki (SS _).1)) ?_);exact bk (bk (dp g1 (aA om) (lj (d:=.int x) (by refine rE (l9) ?_;refine rE hx ?_;rfl) (ew hk (by decide)))) (gI e2 e3) rfl) (aK _) rfl
noncomputable def SW(l:List Int):d3:=⟨sumK 101 0 l,sumK 209 1 l,sumK 311 2 l,sumK 10 3 l,sumK 181 4 l,sumK 56634 5 l⟩
theorem afY{l:List Int}(g1:get ρ 1=aa (.val (.list [.int 101,.int 209,.int 311,.int 10,.int 181,.int 56634])))(AM:get ρ 54=aa (.val (.list (l.map .int))))(hl:l.length≤63):
  ev tok C hs (.comp [13] (.one 13) (.dy (.lit (.int 6))) .nil .nil SV) ρ=aa ((SW l).D,ae):=by
 refine ik (ys:=bM 6) (h:=nD) (g:=λk=>nD (sumK (([101,209,311,10,181,56634]:List Int).getD k 0) k l)) (r:=λk=>put (rem [13] ρ) 13 (.val (nD k))) (kD (n:=6) (aK _) (by decide)) (λZ Z=>rfl) (λk hk=>?_) (by decide);have hk:=lr.mp hk;refine afX (st:=[101,209,311,10,181,56634]) (gL rfl rfl g1) (gL rfl rfl AM) gS ?_ hl (ew hk (by decide));refine rE (m8) ?_;refine rE (ly (l:=([101,209,311,10,181,56634]:List Int)) hk) ?_;rfl
theorem SX{a b:RE}(h1:ev tok C hs a ρ=aa (nD i,ae))(h2:ev tok C hs b ρ=aa (nD j,ae))(hi:i<1000000)(hj:j<1000000):fP tok C hs (.range a b) ρ=aa ((pG i (j - i)).map nD,ae):=by
 refine(W.aS h1 (W.aS h2 (du _ ?_))).trans ?_
 ·show(decide (0≤(i:Int))&&aU i 1000000&&aU j 1000000);refine rE (decide_eq_true (jf i)) (rE (show aU i 1000000 from bO hi) (rE (show aU j 1000000 from bO hj) ?_));rfl
 ·show aa (kM i ((j:Int) - (i:Int)).toNat,ae)=_;refine rE (Int.toNat_sub ..) (rE (QH ..) ?_);rfl
noncomputable def ui(s:d3)(k:Nat):Nat:=[44,9,11,127].getD (s.f/3^k%4) 0
noncomputable def DR(s:d3)(n:Nat):List Nat:=(pG 1 (n - 1)).map (ui s)
theorem SY(s:d3)(k:Nat):[44,9,11,127][s.f/3^k%4]? =aa (ui s k)∧(ui s k=44∨ui s k=9∨ui s k=11∨ui s k=127):=by
 unfold ui;rcases SK (s.f/3^k)with q|q|q|q<;>refine rE q ?_<;>decide
theorem afZ{s:d3}{xs:List D}(h8:get ρ 8=aa (.val s.D))(kq:get ρ 11=aa (.val (.list xs)))(hn:xs.length=n)(S0:n<9):
  ev tok C hs (.bin .add (.comp [13] (.one 13) (.range (.lit (.int 1)) (.bL 11)) .nil .nil (.sub (.lit (.str (aj [44,9,11,127]))) (.bin .mod (.bin .fdiv (.aG 8 (.lit (.int 5))) (.bin .pow (.lit (.int 3)) (.var 13))) (.lit (.int 4))))) (.list (.cons (.lit (.str (aj [92]))) .nil))) ρ=aa (.list ((DR s n++[92]).map λc=>S [c]),ae):=by
 have el:ev tok C hs (.bL 11) ρ=aa (nD n,ae):=by have:=kB (tk:=tok) (C:=C) (hs:=hs) (eK kq) (pe (by lia));rwa [hn]at this
 have e1:ev tok C hs (.comp [13] (.one 13) (.range (.lit (.int 1)) (.bL 11)) .nil .nil (.sub (.lit (.str (aj [44,9,11,127]))) (.bin .mod (.bin .fdiv (.aG 8 (.lit (.int 5))) (.bin .pow (.lit (.int 3)) (.var 13))) (.lit (.int 4))))) ρ=aa (.list ((pG 1 (n - 1)).map λk=>S [ui s k]),ae):=by refine ik (h:=nD) (r:=λk=>put (rem [13] ρ) 13 (.val (nD k))) (SX (i:=1) (aK _) el (by decide) (by lia)) (λZ Z=>rfl) (λk hk=>?_) (rE EU (aF (qE ..) (aF (d4 S0) (by decide))));have hk:k<9:=ia (Vl.mp hk).2 (aF (qJ (aF (qE ..) (ur S0)) 1) (by decide));have h3:3^k≤3^9:=yQ (by decide) (d4 hk);exact tU (aK _) (bk (bk (dp (gL rfl rfl h8) (aK _) (z:=nD s.f) rfl) (bk (aK _) (aA gS) (Ds 3 k (by decide) (by lia))) (ya _ _ (oG (K8 (by decide))) (jj h3 (by decide)))) (aK _) (pf _ 4 (by decide))) (Jk (SY s k).1 (by lia))
 refine(bk e1 (fG (bI (aK _) di)) (gm ?_)).trans ?_
 ·refine rE (aQ ..) (rE EU ?_);show n - 1+1≤_;lia
 ·unfold DR;refine rE dw (rE dJ ?_);rfl
theorem af0{h:Pc→List Nat}(h0:∀c,h (iq c)=[c])(lp:Nat→Pc):∀ (F:List T) (ss:ax),F.length=ss.length+1→(Vm (λt c=>(cG lp t).flatMap h++[c]) F (ss++[92])).flatten=(dI lp F ss).flatMap h++[92]:=by
 intro F;induction F with
 |nil=>exact λZ h=>(nomatch h)
 |cons t F ih=>
  intro ss hl;induction F using bj with
  |nil=>
   induction ss using bj with
   |nil=>show((cG lp t).flatMap h++[92])++[]=_;exact eg _
   |cons=>cases hl
  |cons u F=>
   induction ss using bj with
   |nil=>cases hl
   |cons c ss=>have:=ih ss (yL hl);show((cG lp t).flatMap h++[c])++(Vm _ (u::F) (ss++[92])).flatten=(cG lp t++[iq c]++dI lp (u::F) ss).flatMap h++[92];refine rE this (rE K9 (rE K9 (rE nq (rE (h0 ..) ?_))));simp only[d5,Ve,eg]
theorem af1{γ:Type}(f:α→β→γ):∀ (xs:List α) (ys:List β),xs.length=ys.length→∀g:Nat→γ,(∀k a b,xs[k]? =aa a→ys[k]? =aa b→g k=f a b)→(bM xs.length).map g=Vm f xs ys:=by intro xs ys hl g hg;refine U5 (by refine rE (aQ ..) (rE qL (rE List.length_zipWith ?_));lia) λk h1 h2=>?_;replace h1:=qL▸(aQ ..)▸h1;refine rE (U6 ..) (rE (aix ..) (rE List.getElem_zipWith ?_));exact hg k _ _ (ly h1) (ly (by lia))
theorem af2{lp:Nat→Pc}{ss:ax}(kq:get ρ 11=aa (.val (.list (F.map (bY lp)))))(mI:get ρ 12=aa (.val (.list ((ss++[92]).map λc=>S [c]))))(hl:F.length=ss.length+1)(hz:bK F≤12)(hb:(fh (dI lp F ss)).length≤900)(iD:(fj (dI lp F ss)).length≤900):
  ev tok C hs (.comp [19] (.one 19) (.data (.tup (.cons (.lit (.int 1)) (.cons (.lit (.int 2)) .nil)))) .nil .nil (.prim .join (.cons (.lit (.str (aj []))) (.cons (.comp [13] (.one 13) (.dy (.bL 11)) .nil .nil (.bin .add (.sub (.aG 11 (.var 13)) (.var 19)) (.aG 12 (.var 13)))) .nil)))) ρ=
   aa (.list [S (fh (dI lp F ss)++[92]),S (fj (dI lp F ss)++[92])],ae):=by
 have aiJ:F.length≤12:=aF (AA F) hz;have go:∀ (i:Nat) (h:Pc→List Nat),(∀c,h (iq c)=[c])→(∀t,sz t≤12→((cG lp t).flatMap h).length≤900∧kL (bY lp t) (nD i)=aa (S ((cG lp t).flatMap h),ae))→((dI lp F ss).flatMap h).length≤900→
   ev tok C hs (.prim .join (.cons (.lit (.str (aj []))) (.cons (.comp [13] (.one 13) (.dy (.bL 11)) .nil .nil (.bin .add (.sub (.aG 11 (.var 13)) (.var 19)) (.aG 12 (.var 13)))) .nil))) (put (rem [19] ρ) 19 (.val (nD i)))=aa (S ((dI lp F ss).flatMap h++[92]),ae):=λi h h0 ht hb=>by
  have wy:get (put (rem [19] ρ) 19 (.val (nD i))) 11=aa (.val (.list (F.map (bY lp)))):=gL rfl rfl kq;have JP:get (put (rem [19] ρ) 19 (.val (nD i))) 12=aa (.val (.list ((ss++[92]).map λc=>S [c]))):=gL rfl rfl mI;have el:ev tok C hs (.bL 11) (put (rem [19] ρ) 19 (.val (nD i)))=aa (nD F.length,ae):=by have:=kB (tk:=tok) (C:=C) (hs:=hs) (eK wy) (pe (by refine rE (aQ ..) ?_;lia));rwa [aQ]at this
  have S1:F.length=(ss++[92]).length:=rE bt hl
  obtain⟨g,hg⟩:∃g:Nat→List Nat,g=λk=>(cG lp (F.getD k (.lf 0))).flatMap h++[(ss++[92]).getD k 0]:=⟨_,rfl⟩;have e1:ev tok C hs (.comp [13] (.one 13) (.dy (.bL 11)) .nil .nil (.bin .add (.sub (.aG 11 (.var 13)) (.var 19)) (.aG 12 (.var 13)))) (put (rem [19] ρ) 19 (.val (nD i)))=aa (.list ((bM F.length).map λk=>S (g k)),ae):=by
   refine ik (h:=nD) (r:=λk=>put (rem [13] (put (rem [19] ρ) 19 (.val (nD i)))) 13 (.val (nD k))) (kD el (by lia)) (λZ Z=>rfl) (λk hk=>?_) (by refine rE qL ?_;lia);have hk:=lr.mp hk;have hF:F[k]? =aa (F.getD k (.lf 0)):=by refine rE (m8) ?_;refine rE (ly hk) ?_;rfl
   have hS:(ss++[92])[k]? =aa ((ss++[92]).getD k 0):=by refine rE (m8) ?_;refine rE (ly (rS S1 hk)) ?_;rfl
   have hz1:sz (F.getD k (.lf 0))≤12:=by have hm:F.getD k (.lf 0)∈F:=sJ hF;have:bK [F.getD k (.lf 0)]≤bK F:=Az (K5.mpr hm);exact aF (show sz _≤sz _+0 from bZ _) (aF this hz)
   exact xA (ht _ hz1) λt1 t2=>rE hg (bk (tU (dp (gL rfl rfl wy) (aA gS) (lj (d:=bY lp (F.getD k (.lf 0))) (by refine rE (l9) ?_;refine rE hF ?_;rfl) (by lia))) (aA (gL rfl rfl gS)) t2) (dp (gL rfl rfl JP) (aA gS) (lj (d:=S [(ss++[92]).getD k 0]) (by refine rE (l9) ?_;refine rE hS ?_;rfl) (by lia))) (si _ [(ss++[92]).getD k 0] (by refine rE sS ?_;lia)))
  have e2:((bM F.length).map g).flatten=(dI lp F ss).flatMap h++[92]:=by refine rS (af0 h0 lp F ss hl) (congrArg List.flatten (af1 _ F (ss++[92]) S1 g λk a b ha hb=>?_));refine rE hg ?_;dsimp only;refine rE (m8) ?_;refine rE ha (rE (m8) ?_);refine rE hb ?_;rfl
  have e3:gT .join [S [],.list ((bM F.length).map λk=>S (g k))]=aa (S ((dI lp F ss).flatMap h++[92]),ae):=by have:=Aw ((bM F.length).map g) (by refine rE e2 (rE bt (rE sS ?_));lia);replace this:=dJ▸e2▸this;exact this
  exact Ar (aK _) e1 e3
 have t0:∀t,sz t≤12→(cG lp t).length≤36:=λt ht=>aF (DI lp t) (yv 3 ht);refine(ik (ys:=[1,2]) (h:=nD) (g:=λi=>cond (az i 1) (S (fh (dI lp F ss)++[92])) (S (fj (dI lp F ss)++[92]))) (r:=λi=>put (rem [19] ρ) 19 (.val (nD i))) (Dh (tV (bI (aK _) (bI (aK _) di))) rfl) (λZ Z=>rfl) (λi hi=>?_) (show 2≤1000000 by decide));rcases bE.mp hi with rfl|hi
 ·exact go 1 Pc.txt (λZ=>rfl) (λt ht=>⟨aF (we _) (by have:=t0 t ht;lia),rfl⟩) hb
 ·obtain rfl:=dK.mp hi;exact go 2 Pc.bare (λZ=>rfl) (λt ht=>⟨aF (wg _) (by have:=t0 t ht;lia),rfl⟩) iD
theorem S2(a b:List T):iQ (a++b)=iQ a++iQ b:=K9
theorem af3(s:d3):∀ (ks:ax) (F:List T),ks.length<F.length→(su s ks F).length+ks.length=F.length∧bK (su s ks F)=bK F+ks.length∧iQ (su s ks F)=iQ F:=by
 intro ks;induction ks with
 |nil=>exact λZ Z=>⟨rfl,rfl,rfl⟩
 |cons k ks ih=>
  intro F hl;replace hl:=bT▸hl;have hw:s.e/5^k%(F.length - 1)<F.length - 1:=j3 _ (by lia);obtain⟨p,a,b,r,hF,hp⟩:=JO (l:=F) (k:=s.e/5^k%(F.length - 1)) (by lia);obtain⟨m,hm⟩:∃m,je s k F=p++ .nd m a b::r:=⟨_,by unfold je;refine rS hp ?_;refine rE hF ?_;exact JN _ p r a b⟩;have h1:(je s k F).length=p.length+(r.length+1):=by refine rE hm (rE bt ?_);rfl
  have h2:F.length=p.length+(r.length+1+1):=by refine rE hF (rE bt ?_);rfl
  have h3:bK (je s k F)=bK p+(sz a+sz b+1+bK r):=by refine rE hm (rE (qw ..) ?_);rfl
  have h4:bK F=bK p+(sz a+(sz b+bK r)):=by refine rE hF (rE (qw ..) ?_);rfl
  have h5:iQ (je s k F)=iQ F:=by refine rE hm (rE hF (rE (S2 ..) (rE (S2 ..) ?_)));show iQ p++((hZ a++hZ b)++iQ r)=iQ p++(hZ a++(hZ b++iQ r));exact rE (d5 ..) rfl
  exact mr (ih (je s k F) (by lia)) λi1 i2 i3=>⟨by show(su s ks (je s k F)).length+(ks.length+1)=_;lia,by show bK (su s ks (je s k F))=_+(ks.length+1);lia,i3.trans h5⟩
structure wA(F:List T):Prop where
 len:F.length=1∨F.length=2∨F.length=3∨F.length=4
 z:bK F≤11
 lv:iQ F=pG 0 6
theorem af4:∀d<4,∀n<7,n+(2+d)=6→n=1∨n=2∨n=3∨n=4:=by decide
theorem af5(s:d3):wA (t9 s):=by have h4:s.d%4<4:=j3 _ (by decide);obtain⟨h1,h2,h3⟩:=af3 s (bM (2+s.d%4)) F0 (by refine rE qL ?_;show _<6;lia);rw[qL]at h1 h2;have h1:(t9 s).length+(2+s.d%4)=6:=h1;have h2:bK (t9 s)=6+(2+s.d%4):=h2;exact⟨af4 _ h4 _ (EN (aF (nj ..) (sG h1))) h1,by rw[h2];exact qJ (qJ (ur h4) 2) 6,h3⟩
theorem af6{t:T}(h:∀k∈hZ t,k<6):qv t:=by
 induction t with
 |lf k=>exact bO (h k bG)
 |nd m a b jz jA=>exact fM.mpr ⟨jz λk hk=>h k (A9 _ hk),jA λk hk=>h k (yJ _ hk)⟩
theorem wA.gd(f:wA F):Gd F:=
 ⟨aF f.z (by decide),λt ht=>af6 λk hk=>by
  have:k∈iQ F:=yO.mpr ⟨t,ht,hk⟩;replace this:=f.lv▸this;have:=Vl.mp this;lia⟩
theorem S3(t:T):cn t+1≤sz t:=by
 induction t with
 |lf=>exact bZ _
 |nd m a b jz jA=>show cn a+cn b+1+1≤sz a+sz b+1;lia
theorem wA.cn(f:wA F){t:T}(ht:t∈F):Ev.cn t≤10:=by have h1:bK [t]≤bK F:=Az (K5.mpr ht);have h2:sz t≤bK [t]:=bZ (sz t);have:=S3 t;have:=f.z;lia
section
variable{lp:Nat→Pc}
theorem S4(h:∀k,k<6→Ck (lp k).c):∀ {t:T},qv t→∀p∈cG lp t,Ck p.c:=by
 have hm:∀m,Ck (iq (sg m)).c:=λm=>by induction m<;>exact .inr (by decide)
 have o1:Ck (iq 40).c:=.inr (by decide);have o2:Ck (iq 41).c:=.inr (by decide);intro t;induction t with
 |lf k=>intro ht p hp;exact rE (dK.mp hp) (h k (bc ht))
 |nd m a b jz jA=>
  intro ht p hp;refine xA (cg ht) λh1 h2=>?_;rcases gq.mp hp with hp|hp
  ·rcases gq.mp hp with hp|hp
   ·rcases gq.mp hp with hp|hp
    ·rcases gq.mp hp with hp|hp
     ·exact rE (dK.mp hp) o1
     ·exact jz h1 p hp
    ·exact rE (dK.mp hp) (hm m)
   ·exact jA h2 p hp
  ·exact rE (dK.mp hp) o2
noncomputable def Sep(c:Nat):Prop:=c=44∨c=9∨c=11∨c=127
theorem Sep.ck{c:Nat}(h:Sep c):Ck c:=by
 rcases h with rfl|rfl|rfl|rfl
 ·exact .inr (by decide)
 all_goals exact .inl (by decide)
theorem af7(h:∀k,k<6→Ck (lp k).c):∀ (F:List T) (ss:ax),(∀c∈ss,Sep c)→(∀t∈F,qv t)→∀p∈dI lp F ss,Ck p.c:=by
 intro F;induction F with
 |nil=>exact λZ Z Z Z h=>(nomatch h)
 |cons t F ih=>
  intro ss hs hF p hp;induction F using bj with
  |nil=>exact S4 h (hF t bG) p hp
  |cons u F=>
   rcases gq.mp hp with hp|hp
   ·rcases gq.mp hp with hp|hp
    ·exact S4 h (hF t bG) p hp
    ·refine rE (dK.mp hp) ?_;induction ss using bj with
     |nil=>exact .inr (.inr (.inl rfl))
     |cons c ss=>exact(hs c bG).ck
   ·exact ih ss.tail (λc hc=>hs c (aiu hc)) (λt ht=>hF t (cf _ ht)) p hp
theorem af8:∀ (F:List T) (ss:ax),(dI lp F ss).length≤4 * bK F:=by
 intro F;induction F with
 |nil=>exact λZ=>eo _
 |cons t F ih=>
  intro ss;have h1:=DI lp t;have h2:=RN t;induction F using bj with
  |nil=>show(cG lp t).length≤4 * (sz t+0);lia
  |cons u F=>have:=ih ss.tail;show(cG lp t++[iq (ss.headD 44)]++dI lp (u::F) ss.tail).length≤4 * (sz t+bK (u::F));refine rE bt (rE bt (rE sS ?_));lia
end
theorem af9(ps:List Pc):(mT ps).length≤2 * ps.length:=by
 induction ps with
 |nil=>exact bZ _
 |cons p ps ih=>
  have:p.us.length≤2:=by
   have h:(ja p.h).length≤1:=by unfold ja;split<;>exact bc rfl
   unfold Pc.us;cases p.f
   ·show(ja p.h++[[p.c]]).length≤2;refine rE bt (rE sS ?_);lia
   ·show([[p.c]]++ja p.h).length≤2;refine rE bt (rE sS ?_);lia
  show(p.us++mT ps).length≤2 * (ps.length+1);refine rE bt ?_;lia
theorem agb{c:Nat}(h:c=97∨c=98∨c=65∨c=66):Ck c∧isLet c:=by
 rcases h with rfl|rfl|rfl|rfl<;>exact⟨.inl (by decide),rfl⟩
structure S5(lp:Nat→Pc)(F:List T)(ss:ax):Prop where
 ck:∀p∈dI lp F ss,Ck p.c
 len:(dI lp F ss).length≤44
theorem agc{lp:Nat→Pc}{ss:ax}(hr:pk row)(so:∀k,k<6→(lp k).c=row.getD k 0)(f:wA F)(hs:∀c∈ss,Sep c):S5 lp F ss∧∀n,qZ tok aH (run tok aH (n+1)) 6 [S (fj (dI lp F ss)++[92])] []=aa ((.list (F.map tD),bh row),ae):=by
 have ch:∀k,k<6→row[k]? =aa (lp k).c∧(Ck (lp k).c∧isLet (lp k).c):=λk hk=>by have h1:=(hr.at hk).1;exact rE (so k hk) ⟨h1,agb (hr.ch _ (sJ h1))⟩
 have X:S5 lp F ss:=⟨af7 (λk hk=>(ch k hk).2.1) F ss hs f.gd.l,aF (af8 F ss) (yv 4 f.z)⟩;refine⟨X,λn=>?_⟩;have hb:=wg (dI lp F ss);have hu:=af9 (dI lp F ss);have hl:=X.len;have e:=afs X.ck (([],[]):List Nat × List PI);have e2:=aft (row:=row) (lp:=lp) hr.len (λk hk=>⟨(ch k hk).1,(ch k hk).2.2⟩) F ss 0 [] hs (by refine rE f.lv ?_;rfl) (by refine rE f.lv ?_;decide);have e3:gJ kF ([],[]) (mT (dI lp F ss))=aa (row,(F.map PI.tr).reverse):=by refine rE e (e2.trans (rE f.lv (rE (eg ..) (rE (show 0+(pG 0 6).length=row.length by refine rE hr.len ?_;rfl) ?_))));exact rE Kk rfl
 refine(afq n (fj (dI lp F ss)) (mT (dI lp F ss)) (Q3 (λp hp=>(X.ck p hp).sg) [92]) (ad5 _) (afr X.ck) (by lia) (by lia) e3).trans ?_;show aa ((dQ (((F.map PI.tr).reverse).reverse.map JE),bh row),ae)=_;refine rE (aiw ..) (rE dJ ?_);rfl
structure Sf(k:Nat)(d:D):Prop where
 DS:c8 k d
 eq:dT d d
theorem Sf.str{l:ax}(h:∀c∈l,c<1114112)(k:Nat):Sf k (S l):=⟨Dx h k,by refine rE (yg ..) ?_;exact tT l⟩
theorem S6{xs:List D}(h:∀x∈xs,Sf k x):Bq xs xs:=by
 induction xs with
 |nil=>rfl
 |cons x xs ih=>show(dT x x&&Bq xs xs);refine rE ((h x bG).eq) (rE (ih λy hy=>h y (cf _ hy)) ?_);rfl
theorem Sf.list{xs:List D}(h:∀x∈xs,Sf k x):Sf (k+1) (.list xs):=⟨.list λx hx=>(h x hx).DS,S6 h⟩
theorem Sf.tuple{xs:List D}(h:∀x∈xs,Sf k x):Sf (k+1) (.tuple xs):=⟨.tuple λx hx=>(h x hx).DS,S6 h⟩
theorem Sf.ne{xs:List D}(h:∀x∈xs,Sf k x)(hk:k<64):gQ .ne (.list xs) (.list xs)=aa (ag,ae):=by have s:=Sf.list h;show sV (W.need (dT (.list xs) (.list xs)) (c9 (.list xs)&&c9 (.list xs)))=_;refine rE s.eq (rE (s.DS.ok hk) ?_);rfl
theorem agd(t:T):dT (tD t) (tD t):=by
 induction t with
 |lf k=>exact(sf k k).trans (nh k)
 |nd m a b jz jA=>show(dT (S [sg m]) (S [sg m])&&(dT (tD a) (tD a)&&(dT (tD b) (tD b)&&ae)));refine rE jz (rE jA (rE (yg ..) (rE (tT ..) ?_)));rfl
theorem S7(a b:ax):gQ .ne (S a) (S b)=aa (!lEq a b,ae):=by show sV (W.ret (lEq (sL (aj a)) (sL (aj b))))=_;refine rE (v8 ..) (rE (v8 ..) ?_);rfl
theorem age(h:bK F≤12):gQ .ne (.list (F.map tD)) (.list (F.map tD))=aa (ag,ae):=by refine Sf.ne (k:=12) (λx hx=>?_) (by decide);refine aD (fq.mp hx) λt ht e9=>?_;subst e9;have h1:bK [t]≤bK F:=Az (K5.mpr ht);exact⟨(RP t).mono (aF (show sz t≤bK [t]from bZ (sz t)) (aF h1 h)),agd t⟩
theorem agf(row:ax):row.zipIdx=(bM row.length).map λj=>(row.getD j 0,j):=by refine U5 (rE ET (rE (aQ ..) (rE qL rfl))) λk h1 h2=>?_;replace h1:=ET▸h1;refine rE (List.getElem_zipIdx ..) (rE (U6 ..) (rE (aix ..) (rE (m8) ?_)));refine rE (ly h1) ?_;refine rE (ll ..) ?_;rfl
theorem S8{P:Nat→Prop}(h0:P 0)(h1:P 1)(h2:P 2)(h3:P 3)(h4:P 4)(h5:P 5):∀n,n<6→P n:=by
 intro n h;exact match n,h with|0,_=>h0|1,_=>h1|2,_=>h2|3,_=>h3|4,_=>h4|5,_=>h5|n+6,h=>absurd h (pA.mpr (uH 6 n))
noncomputable def kS(j:Nat):D:=S (cQ (j:Int))
theorem S9:∀j,j<6→gT .int [kS j]=aa (nD j,ae):=S8 rfl rfl rfl rfl rfl rfl
theorem agg:∀j,j<6→gT .str [nD j]=aa (kS j,ae):=λj h=>(Sn j (yx h)).2
theorem agh:∀j,j<6→Sf 0 (kS j):=S8 (.str (by decide) 0) (.str (by decide) 0) (.str (by decide) 0) (.str (by decide) 0) (.str (by decide) 0) (.str (by decide) 0)
noncomputable def Ta(row:ax)(k:Nat):D:=.tuple [S [row.getD k 0],kS k]
theorem JV(row:ax):bh row=(bM row.length).map λj=>(aj [row.getD j 0],aj (cQ (j:Int))):=by unfold bh;refine rE (agf ..) (rE dJ ?_);rfl
theorem Tb(hr:pk row)(hk:k<6):(row.map λc=>S [c])[k]? =aa (S [row.getD k 0]):=by refine rE (l9) ?_;refine rE ((hr.at hk).1) ?_;rfl
theorem agi(hr:pk row)(vE:get ρ 21=aa (.cU 0))(fT:get ρ 10=aa (.val (ip row))):ev tok C [bh row] (.cmp (.oI 21) (.cons .ne (.comp [13] (.one 13) (.dy (.lit (.int 6))) .nil .nil (.tup (.cons (.aG 10 (.var 13)) (.cons (.prim .str (.cons (.var 13) .nil)) .nil)))) .nil)) ρ=aa (.bool ag,ae):=by
 have e1:ev tok C [bh row] (.oI 21) ρ=aa (.list ((bM 6).map (Ta row)),ae):=by
  refine(cA (m:=mq [bh row] ρ 21) (a:=bh row) (cA (xX vE))).trans ((du _ ?_).trans ?_)
  ·refine rE (wk ..) (rE hr.len ?_);rfl
  ·refine rE (JV ..) (rE hr.len (rE dJ ?_));rfl
 refine cS e1 (y:=.list ((bM 6).map (Ta row))) ?_ (Sf.ne (k:=1) (λx hx=>?_) (by decide))
 ·refine ik (h:=nD) (r:=λk=>put (rem [13] ρ) 13 (.val (nD k))) (kD (n:=6) (aK _) (by decide)) (λZ Z=>rfl) (λk hk=>?_) (by decide);have hk:=lr.mp hk;exact tV (bI (dp (gL rfl rfl fT) (aA gS) (lj (Tb hr hk) (by lia))) (bI (gI (aA gS) (agg k hk)) di))
 ·refine aD (fq.mp hx) λk hk e9=>?_;subst e9;have hk:=lr.mp hk;refine .tuple λx hx=>?_;rcases bE.mp hx with rfl|hx
  ·refine .str (λc hc=>?_) 0;have:=(hr.at hk).2;refine rE (dK.mp hc) ?_;lia
  ·exact rE (dK.mp hx) (agh k hk)
theorem agj(row:ax)(c:Nat):∀ks:ax,gc (ks.map λj=>(aj [row.getD j 0],aj (cQ (j:Int)))) [c]=(ks.filter λj=>lEq (da [row.getD j 0]) (da [c])).map kS:=by
 intro ks;induction ks with
 |nil=>rfl
 |cons j ks ih=>show cond (lEq (da (sL (aj [row.getD j 0]))) (da [c])) (.str (aj (cQ (j:Int)))::gc _ [c]) (gc _ [c])=_;refine rE ih (rE (v8 ..) (rE uI ?_));cases lEq (da [row.getD j 0]) (da [c])<;>rfl
theorem agk{r c:Nat}(hr:r=97∨r=98∨r=65∨r=66)(hc:c=97∨c=98∨c=65∨c=66):(!lEq [r] [c]&&lEq (da [r]) (da [c]))=oj [c,r]:=by
 rcases hr with rfl|rfl|rfl|rfl<;>rcases hc with rfl|rfl|rfl|rfl<;>rfl
theorem Tc{c:Nat}(hc:c=97∨c=98∨c=65∨c=66):keyOk (aj [c]):=by rcases hc with rfl|rfl|rfl|rfl<;>rfl
theorem agl(hr:pk row):qY (bh row):=by refine fM.mpr ⟨fk.mpr λp hp=>?_,by refine rE (wk ..) ?_;refine rE hr.len ?_;rfl⟩;replace hp:=(JV ..)▸hp;refine aD (fq.mp hp) λk hk e9=>?_;subst e9;replace hk:=hr.len▸hk;exact Tc (hr.ch _ (sJ (hr.at (lr.mp hk)).1))
theorem agm(hr:pk row)(vE:get ρ 21=aa (.cU 0))(fT:get ρ 10=aa (.val (ip row))):
  ev tok C [bh row] (.comp [27] (.one 27) (.data (.var 10)) .nil .nil (.comp [63] (.one 63) (.data (.jH 21 (.var 27))) (.cons (.cmp (.aG 10 (.prim .int (.cons (.var 63) .nil))) (.cons .ne (.var 27) .nil)) .nil) .nil (.prim .int (.cons (.var 63) .nil)))) ρ=aa (lZ (uf row),ae):=by
 have e:lZ (uf row)=.list (row.map λc=>dP ((bM 6).filter λj=>oj [c,row.getD j 0])):=by unfold lZ uf;refine rE dJ ?_;rfl
 refine rE e (ik (h:=λc=>S [c]) (r:=λc=>put (rem [27] ρ) 27 (.val (S [c]))) (eP (aA fT)) (λZ Z=>rfl) (λc hc=>?_) (by refine rE hr.len ?_;decide));have hc:=hr.ch c hc;have sk:get (put (rem [27] ρ) 27 (.val (S [c]))) 21=aa (.cU 0):=gL rfl rfl vE;have iO:get (put (rem [27] ρ) 27 (.val (S [c]))) 10=aa (.val (ip row)):=gL rfl rfl fT;have e1:ev tok C [bh row] (.jH 21 (.var 27)) (put (rem [27] ρ) 27 (.val (S [c])))=aa (.list (((bM 6).filter λj=>lEq (da [row.getD j 0]) (da [c])).map kS),ae):=by
  refine(cA (m:=mq [bh row] _ 21) (a:=bh row) (cA (xX sk))).trans (W.aS (aA gS) ((du _ ?_).trans ?_))
  ·refine rE (Tc hc) (rE (agl hr) ?_);rfl
  ·exact rE (v8 ..) (rE (JV ..) (rE hr.len (rE (agj ..) rfl)))
 have lt:∀j∈(bM 6).filter λj=>lEq (da [row.getD j 0]) (da [c]),j<6:=λj hj=>lr.mp (yR.mp hj).1;refine(pd (h:=kS) (g:=nD) (p:=λj=> !lEq [row.getD j 0] [c]) (r:=λj=>put (rem [63] (put (rem [27] ρ) 27 (.val (S [c])))) 63 (.val (kS j))) (eP e1) (λZ Z=>rfl) (λj hj=>?_) (λj hj Z=>gI (aA gS) (S9 j (lt j hj))) ?_).trans ?_
 ·exact qt (cS (dp (gL rfl rfl iO) (gI (aA gS) (S9 j (lt j hj))) (lj (Tb hr (lt j hj)) (by have:=lt j hj;lia))) (aA (gL rfl rfl gS)) (S7 _ _))
 ·exact aF (wW _ _) (by decide)
 ·refine rE La (congrArg (λl=>aa (dQ (l.map nD),ae)) (aiy λj hj=>?_));exact agk (hr.ch _ (sJ (hr.at (lr.mp hj)).1)) hc
theorem agn{f:α→Option (List β)}:∀ {xs:List α}{R:List β},cL f xs=aa R→(∀x∈xs,f x=aa ((f x).getD []))∧R=xs.flatMap λx=>(f x).getD []:=by
 intro xs;induction xs with
 |nil=>intro R h;replace h:=iJ h;subst h;exact⟨λZ h=>(nomatch h),rfl⟩
 |cons x xs ih=>
  intro R h;refine oE h λa h1 h2=>oE h2 λb h3 h4=>?_;replace h4:=iJ h4;subst h4;refine xA (ih h3) λi1 i2=>⟨λy hy=>?_,?_⟩
  ·rcases bE.mp hy with rfl|hy
   ·refine rE h1 ?_;rfl
   ·exact i1 y hy
  ·refine rE nq (rE h1 (rS i2 ?_));rfl
noncomputable def JW:RE:=.comp [30,64] (.one 30) (.data (.var 58)) .nil (.cons (.one 64) (.data (.call 7 (.cons (.var 30) (.cons (.var 31) .nil)))) .nil .nil) (.var 64)
theorem JX{M:cP}{A R:List Lk}(JY:get ρ 58=aa (.val (.list (A.map aJ))))(wB:get ρ 31=aa (.val (lZ M)))(hA:∀L∈A,L.length≤100)(hM:∀m∈M,m.length≤1000)(h:cL (ph M) A=aa R)(hR:R.length≤1000000):
  ev tok (run tok aH (n+1)) hs JW ρ=aa (.list (R.map aJ),ae):=by
 refine xA (agn h) λi1 i2=>?_;have i3:R.map aJ=A.flatMap λL=>(((ph M L).getD []).filter λZ=>ae).map aJ:=rE i2 (rE K4 (congrArg (λf=>A.flatMap f) (funext λL=>by exact rE (U8.mpr λZ Z=>rfl) rfl)))
 refine rE i3 ?_;refine Dr (h:=aJ) (r:=λL=>put (rem [30,64] ρ) 30 (.val (aJ L))) (zs:=λL=>(ph M L).getD []) (h2:=aJ) (p:=λZ Z=>ae) (g:=λZ=>aJ) (r2:=λL L'=>put (put (rem [30,64] ρ) 30 (.val (aJ L))) 64 (.val (aJ L'))) (eP (aA JY)) (λZ Z=>rfl)
  (λL hL=>?_) (λZ Z Z Z=>rfl) (λZ Z Z Z=>rfl) (λZ Z Z Z Z=>aA gS) ?_
 ·exact eP ((IS (aA gS) (aA (gL rfl rfl wB))).trans (aeF n (hA L hL) hM (i1 L hL)))
 ·exact rS i3 (rE (aQ ..) hR)
theorem ago{M:cP}{L:Lk}{R:List Lk}(h:ph M L=aa R)(hM:∀m∈M,m.length≤6):R.length≤6∧∀L'∈R,L'.length=L.length+1:=by
 unfold ph at h;induction q:(bM 6).filter (free L)using bj with
 |nil=>exact zN (q▸h)
 |cons f r=>
  replace h:=q▸h;have h:(M[f]?).map (λms=>(ms.filter (free L)).map λq=>L++[(f,q)])=aa R:=h;induction q2:M[f]? with
  |none=>exact zN (q2▸h)
  |some ms=>
   replace h:=iJ (q2▸h);subst h;refine⟨?_,λL' h=>?_⟩
   ·exact rE (aQ ..) (aF (wW _ _) (hM ms (sJ q2)))
   ·refine aD (fq.mp h) λx Z e9=>?_;subst e9;refine rE bt ?_;rfl
theorem JZ{M:cP}(hM:∀m∈M,m.length≤6){A R:List Lk}(hA:∀L∈A,L.length=k)(h:cL (ph M) A=aa R):R.length≤A.length * 6∧∀L∈R,L.length=k+1:=by
 induction A generalizing R with
 |nil=>replace h:=iJ h;subst h;exact⟨bZ _,λZ h=>nomatch h⟩
 |cons L A ih=>
  refine oE h λa h1 h2=>oE h2 λb h3 h4=>?_;replace h4:=iJ h4;subst h4;refine xA (ih (λL hL=>hA L (cf _ hL)) h3) λi1 i2=>xA (ago h1 hM) λj1 j2=>⟨by refine rE bt ?_;refine rE bT ?_;lia,λL' h=>?_⟩;rcases gq.mp h with h|h
  ·exact rE (j2 L' h) (rE (hA L bG) rfl)
  ·exact i2 L' h
theorem agp{M:cP}{Ls:List Lk}(hM:∀m∈M,m.length≤6)(h:DQ M=aa Ls)(JY:get ρ 58=aa (.val (.list [.list []])))(wB:get ρ 31=aa (.val (lZ M))):
  ∃ρ',dE (dH (run tok aH (n+1)) CH (.one 13) (.cons (.asg 58 JW) .nil)) [nD 0,nD 1,nD 2] ρ hs=aa (.next ρ' hs,ae)∧get ρ' 58=aa (.val (.list (Ls.map aJ)))∧Ls.length≤216∧∀j o,j≠58→j≠13→get ρ j=o→get ρ' j=o:=by
 refine oE h λa h1 h2=>oE h2 λb h3 h4=>?_;have J0:∀m∈M,m.length≤1000:=λm hm=>aF (hM m hm) (by decide);obtain⟨a1,a2⟩:=JZ hM (A:=[[]]) (k:=0) (λL hL=>by refine rE (dK.mp hL) ?_;rfl) h1;refine xA (JZ hM a2 h3) λb1 b2=>xA (JZ hM b2 h4) λc1 c2=>?_;replace a1:=sS▸a1;have e1:=JX (n:=n) (hs:=hs) (A:=[[]]) (ρ:=put ρ 13 (.val (nD 0))) (gN rfl JY) (gN rfl wB) (λL hL=>by refine rE (dK.mp hL) ?_;decide) J0 h1 (by lia);have e2:=JX (n:=n) (hs:=hs) (ρ:=put (put (put ρ 13 (.val (nD 0))) 58 (.val (.list (a.map aJ)))) 13 (.val (nD 1))) (gN rfl gS) (gN rfl (gN rfl (gN rfl wB))) (λL hL=>by refine rE (a2 L hL) ?_;decide) J0 h3 (by lia);have e3:=JX (n:=n) (hs:=hs) (ρ:=put (put (put (put (put ρ 13 (.val (nD 0))) 58 (.val (.list (a.map aJ)))) 13 (.val (nD 1))) 58 (.val (.list (b.map aJ)))) 13 (.val (nD 2))) (gN rfl gS) (gN rfl (gN rfl (gN rfl (gN rfl (gN rfl wB))))) (λL hL=>by refine rE (b2 L hL) ?_;decide) J0 h4 (by lia);refine⟨put (put (put (put (put (put ρ 13 (.val (nD 0))) 58 (.val (.list (a.map aJ)))) 13 (.val (nD 1))) 58 (.val (.list (b.map aJ)))) 13 (.val (nD 2))) 58 (.val (.list (Ls.map aJ))),
  (oe rfl (cJ (c7 e1))).trans ((oe rfl (cJ (c7 e2))).trans ((oe rfl (cJ (c7 e3))).trans rfl)),gS,by lia,λj o h1 h2 h=>?_⟩
 exact gN (jT h1.symm) (gN (jT h2.symm) (gN (jT h1.symm) (gN (jT h2.symm) (gN (jT h1.symm) (gN (jT h2.symm) h)))))
noncomputable def sA(A:List (List (List Nat)))(t:T):List (List (List Nat)):=A.flatMap λone=>(fW t).map λtwo=>one++two
theorem agq:∀ {o:cP},(∀l∈o,l.length≤m)→wt o≤o.length * (m+1):=by
 intro o;induction o with
 |nil=>exact λZ=>eo _
 |cons x o ih=>intro h;have:=ih λl hl=>h l (cf _ hl);have:=h x bG;refine rE (wi ..) (rE bT (rE (A0 ..) ?_));lia
theorem Td{t:T}(h:cn t≤10){o:cP}(ho:o∈fW t):wt o≤132:=by have k:=(Dt t).1 o ho;exact aF (agq (m:=11) λl hl=>aF (k.pc l hl) (by lia)) (aF (Kr 12 (aF k.len (show cn t+1≤11 by lia))) (by decide))
theorem agr(f:α→List β)(m:Nat)(h:∀x,(f x).length≤m):∀xs:List α,(xs.flatMap f).length≤xs.length * m:=λxs=>by
 induction xs with
 |nil=>exact eo _
 |cons x xs ih=>exact rE nq (rE bt (rE bT (rE (A0 ..) (rE (Bl ..) (um ih (h x))))))
theorem Te(A:List (List (List Nat)))(t:T):(sA A t).length≤A.length * 2^sz t:=by refine agr _ _ (λo=>?_) A;refine rE (aQ ..) ?_;have:=S3 t;exact aF (Dt t).2 (yQ (by decide) (by lia))
theorem Tf(o:cP):o.length≤wt o:=nj _ _
noncomputable def J1:RE:=.comp [17,18] (.one 17) (.data (.var 44)) .nil (.cons (.one 18) (.data (.call 9 (.cons (.var 42) .nil))) .nil .nil) (.bin .add (.var 17) (.var 18))
theorem ags{t:T}{A:List (List (List Nat))}(h1:cn t<n)(h2:cn t≤10)(hA:∀ps∈A,wt ps≤600)(hl:A.length * 2^sz t≤4096)(wj:get ρ 44=aa (.val (.list (A.map cu))))(Js:get ρ 42=aa (.val (tD t))):
  ev tok (run tok aH n) hs J1 ρ=aa (.list ((sA A t).map cu),ae):=by
 have e:(sA A t).map cu=A.flatMap λone=>((fW t).filter λZ=>ae).map λtwo=>cu (one++two):=by unfold sA;exact rE K4 (congrArg (λf=>A.flatMap f) (funext λL=>by refine rE (U8.mpr λZ Z=>rfl) ?_;refine rE dJ ?_;rfl))
 have nV:(sA A t).length≤4096:=aF (Te A t) hl;refine rE e ?_;refine Dr (h:=cu) (r:=λo=>put (rem [17,18] ρ) 17 (.val (cu o))) (zs:=λZ=>fW t) (h2:=cu) (p:=λZ Z=>ae) (g:=λo u=>cu (o++u)) (r2:=λo u=>put (put (rem [17,18] ρ) 17 (.val (cu o))) 18 (.val (cu u))) (eP (aA wj)) (λZ Z=>rfl)
  (λo Z=>?_) (λZ Z Z Z=>rfl) (λZ Z Z Z=>rfl) (λo ho u hu Z=>?_) ?_
 ·exact eP ((qo (aA (gL rfl rfl Js))).trans (aew t n h1 h2))
 ·refine(bk (aA (gN rfl gS)) (aA gS) (gm (a:=o.map dP) (b:=u.map dP) ?_)).trans ?_
  ·have:=Tf o;have:=Tf u;have:=hA o ho;have:=Td h2 hu;refine rE (aQ ..) (rE (aQ ..) ?_);lia
  ·refine rS dw ?_;rfl
 ·refine rS e (rE (aQ ..) ?_);lia
theorem agt:∀ (F:List T) (A:List (List (List Nat))) (ρ:aM),(∀t∈F,cn t<n∧cn t≤10)→A.length * 2^bK F≤4096→(∀ps∈A,wt ps+132 * F.length≤600)→get ρ 44=aa (.val (.list (A.map cu)))→
  ∃ρ',dE (dH (run tok aH n) CH (.one 42) (.cons (.asg 44 J1) .nil)) (F.map tD) ρ hs=aa (.next ρ' hs,ae)∧get ρ' 44=aa (.val (.list ((F.foldl sA A).map cu)))∧(∀ps∈F.foldl sA A,wt ps≤600)∧∀j o,j≠44→j≠42→get ρ j=o→get ρ' j=o:=by
 intro F;induction F with
 |nil=>exact λA ρ Z Z hA h=>⟨ρ,rfl,h,hA,λZ Z Z Z h=>h⟩
 |cons t F ih=>
  intro A ρ hF hl hA wj;refine xA (hF t bG) λh1 h2=>?_;have hl:A.length * 2^(sz t+bK F)≤4096:=hl;replace hl:=jg (Vc ..)▸(Vb ..)▸hl;have h0:1≤2^bK F:=K8 (by decide);replace hA:=bT▸hA;have e:=ags (hs:=hs) (ρ:=put ρ 42 (.val (tD t))) h1 h2 (λps J2=>by have:=hA ps J2;lia) (aF (Nat.le_mul_of_pos_right _ h0) hl) (gN rfl wj) gS;obtain⟨ρ',e2,g,w,k⟩:=ih (sA A t) (put (put ρ 42 (.val (tD t))) 44 (.val (.list ((sA A t).map cu)))) (λu hu=>hF u (cf _ hu)) (aF (Kr _ (Te A t)) hl) (λps J2=>by
   refine aD (yO.mp J2) λo ho hx=>aD (fq.mp hx) λu hu e9=>?_;subst e9;have:=hA o ho;have:=Td h2 hu;refine rE (RB ..) ?_;lia) gS
  exact⟨ρ',(oe rfl (cJ (c7 e))).trans e2,g,w,λj o q1 q2 h=>k j o q1 q2 (gN (jT q1.symm) (gN (jT q2.symm) h))⟩
noncomputable def jY(s:d3)(k:Nat):Nat:=cond (az ((s.f+k)%3) 0) ((s.f+k)%24/3) 0
noncomputable def Tg:RE:=.comp [13] (.one 13) (.dy (.lit (.int 6))) .nil .nil (.ite (.cmp (.bin .mod (.bin .add (.aG 8 (.lit (.int 5))) (.var 13)) (.lit (.int 3))) (.cons .eq (.lit (.int 0)) .nil)) (.sub (.aG 9 (.bin .fdiv (.bin .mod (.bin .add (.aG 8 (.lit (.int 5))) (.var 13)) (.lit (.int 24))) (.lit (.int 3)))) (.lit (.int 0))) (.lit (.str (aj []))))
theorem agu{s:d3}(h8:get ρ 8=aa (.val s.D))(h9:get ρ 9=aa (.val (.list ot))):ev tok C hs Tg ρ=aa (jW (jY s),ae):=by
 refine ik (h:=nD) (g:=λk=>S (iN (jY s k))) (r:=λk=>put (rem [13] ρ) 13 (.val (nD k))) (kD (n:=6) (aK _) (by decide)) (λZ Z=>rfl) (λk hk=>?_) (by decide);have g8:get (put (rem [13] ρ) 13 (.val (nD k))) 8=aa (.val s.D):=gL rfl rfl h8;have g9:get (put (rem [13] ρ) 13 (.val (nD k))) 9=aa (.val (.list ot)):=gL rfl rfl h9;have ea:ev tok C hs (.bin .add (.aG 8 (.lit (.int 5))) (.var 13)) (put (rem [13] ρ) 13 (.val (nD k)))=aa (nD (s.f+k),ae):=bk (dp g8 (aK _) (z:=nD s.f) rfl) (aA gS) (add_n _ _);have ec:=cS (bk ea (aK (tk:=tok) (C:=C) (hs:=hs) (nD 3)) (pf (s.f+k) 3 (by decide))) (aK (nD 0)) (Rk _ _);unfold jY;induction q:az ((s.f+k)%3) 0 with
 |false=>replace ec:=q▸ec;exact II ec rfl (aK _)
 |true=>replace ec:=q▸ec;have Hh:(s.f+k)%24<24:=j3 _ (by decide);exact QI ec rfl (tU (dp g9 (bk (bk ea (aK _) (pf _ 24 (by decide))) (aK _) (ya _ 3 (by decide) (by decide))) (Sv _ (by lia))) (aK _) rfl)
noncomputable def iR(bs:List Bool):D:=.list (bs.map λb=>S (bS b))
theorem J3(as bs:List Bool):gQ .eq (iR as) (iR bs)=aa (lY (λa b=>lEq (bS a) (bS b)) as bs,ae):=by have sh:∀bs:List Bool,c9 (iR bs):=λbs=>(c8.list (k:=0) λx hx=>by refine aD (fq.mp hx) λb Z e9=>?_;subst e9;exact wq b).ok (by decide);show W.need (dT (iR as) (iR bs)) (c9 (iR as)&&c9 (iR bs))=_;refine rE (sh ..) (rE (sh ..) ?_);exact congrArg (λb=>aa (b,ae)) (Je (λx y=>yg (bS x) (bS y)) as bs)
noncomputable def Th:RE:=.comp [36,35,65,66] (.two 36 35) (.data (.var 30)) .nil (.cons (.two 65 66) (.data (.var 30)) (.cons (.cmp (.var 36) (.cons .lt (.var 65) (.cons .lt (.var 35) (.cons .lt (.var 66) .nil)))) .nil) .nil) (.var 36)
noncomputable def sC(L:Lk):List Nat:=L.flatMap λp=>(L.filter (ue p)).map λZ=>p.1
theorem agv(f:α→List β)(q:α→Bool)(h:∀x,(f x).isEmpty= !q x):∀xs:List α,(xs.flatMap f).isEmpty= !xs.any q:=by
 intro xs;induction xs with
 |nil=>rfl
 |cons x xs ih=>
  have hx:=h x;refine rE nq (rE EB ?_);induction w:q x with
  |false=>replace hx:=w▸hx;exact rE (sR.mp hx) ih
  |true=>
   replace hx:=w▸hx;induction z:f x using bj with
   |nil=>replace hx:=z▸hx;exact zT hx
   |cons=>rfl
theorem Ti(f:α→β)(q:α→Bool):∀xs:List α,((xs.filter q).map f).isEmpty= !xs.any q:=by
 intro xs;induction xs with
 |nil=>rfl
 |cons x xs ih=>
  refine rE uI (rE EB ?_);cases q x
  ·exact ih
  ·rfl
theorem agw(L:Lk):(sC L).isEmpty=jB L:=agv _ (λp=>L.any (ue p)) (λp=>Ti _ (ue p) L) L
theorem lt3{p r:Nat × Nat}(h1:get ρ 36=aa (.val (nD p.1)))(h2:get ρ 65=aa (.val (nD r.1)))(h3:get ρ 35=aa (.val (nD p.2)))(h4:get ρ 66=aa (.val (nD r.2))):ev tok C hs (.cmp (.var 36) (.cons .lt (.var 65) (.cons .lt (.var 35) (.cons .lt (.var 66) .nil)))) ρ=aa (.bool (ue p r),ae):=by
 unfold ue;refine W.aS (aA h1) (W.aS (aA h2) (W.aS (x8 p.1 r.1) ?_));induction aU p.1 r.1 with
 |false=>rfl
 |true=>
  refine W.aS (aA h3) (W.aS (x8 r.1 p.2) ?_);induction aU r.1 p.2 with
  |false=>rfl
  |true=>exact W.aS (aA h4) (W.aS (x8 p.2 r.2) rfl)
theorem agx{f:α→List β}{xs:List α}(h:∀x∈xs,(f x).length≤m):(xs.flatMap f).length≤xs.length * m:=by
 induction xs with
 |nil=>exact eo _
 |cons x xs ih=>have:=ih λy hy=>h y (cf _ hy);have:=h x bG;refine rE nq (rE bt (rE bT (rE (A0 ..) ?_)));lia
theorem agy{L:Lk}(hL:L.length≤10)(kr:get ρ 30=aa (.val (aJ L))):ev tok C hs Th ρ=aa (.list ((sC L).map nD),ae):=by
 have e:(sC L).map nD=L.flatMap λp=>(L.filter (ue p)).map λZ=>nD p.1:=by unfold sC;exact rE K4 (congrArg (λf=>L.flatMap f) (funext λp=>by refine rE dJ ?_;rfl))
 refine rE e ?_;refine Dr (h:=pD) (r:=λp=>put (put (rem [36,35,65,66] ρ) 36 (.val (nD p.1))) 35 (.val (nD p.2))) (zs:=λZ=>L) (h2:=pD) (p:=ue) (g:=λp Z=>nD p.1)
  (r2:=λp r=>put (put (put (put (rem [36,35,65,66] ρ) 36 (.val (nD p.1))) 35 (.val (nD p.2))) 65 (.val (nD r.1))) 66 (.val (nD r.2))) (eP (aA kr)) (λZ Z=>rfl)
  (λp Z=>eP (aA (gN rfl (gL rfl rfl kr)))) (λZ Z Z Z=>rfl) (λp Z r Z=>qt (lt3 (gN rfl (gN rfl (gN rfl gS))) (gN rfl gS) (gN rfl (gN rfl gS)) gS)) (λp Z r Z Z=>aA (gN rfl (gN rfl (gN rfl gS)))) ?_
 refine aF (agx (m:=10) λp Z=>?_) (aF (Kr 10 hL) (by decide));exact rE (aQ ..) (aF (wW _ _) hL)
noncomputable def Tj:RE:=.cmp (.comp [17] (.one 17) (.data (.var 29)) (.cons (.cmp (.var 17) (.cons .iy (.tup (.cons (.lit (.str (aj [84,114,117,101]))) (.cons (.lit (.str (aj [70,97,108,115,101]))) .nil))) .nil)) .nil) .nil (.var 17)) (.cons .ne (.list .nil) .nil)
noncomputable def Tn:RE:=.cmp (.cmp (.var 29) (.cons .eq (.bin .mul (.list (.cons (.lit (.str (aj [84,114,117,101]))) .nil)) (.lit (.int 3))) .nil)) (.cons .ne (.cmp (.var 61) (.cons .eq (.list .nil) .nil)) .nil)
theorem agz(b:Bool):gQ .iy (S (bS b)) (.tuple [S (bS ae),S (bS ag)])=aa (ag,ae):=by have e1:c9 (.tuple [S (bS ae),S (bS ag)]):=(c8.tuple (k:=0) λx hx=>by rcases bE.mp hx with rfl|hx;exact wq ae;refine rE (dK.mp hx) ?_;exact wq ag).ok (by decide);show sV (W.need (dT (S (bS ae)) (S (bS b))||(dT (S (bS ag)) (S (bS b))||false)) (c9 (.tuple [S (bS ae),S (bS ag)])&&c9 (S (bS b))))=_;refine rE (yg ..) (rE (yg ..) (rE e1 (rE ((wq b).ok (by decide)) ?_)));induction b<;>rfl
theorem agA(l:List α):l.filter (λZ=>ag)=[]:=by
 induction l with
 |nil=>rfl
 |cons x l ih=>exact ih
theorem agB{bs:List Bool}(hl:bs.length≤10)(zY:get ρ 29=aa (.val (iR bs))):ev tok C hs Tj ρ=aa (.bool ag,ae):=by
 have e:ev tok C hs (.comp [17] (.one 17) (.data (.var 29)) (.cons (.cmp (.var 17) (.cons .iy (.tup (.cons (.lit (.str (aj [84,114,117,101]))) (.cons (.lit (.str (aj [70,97,108,115,101]))) .nil))) .nil)) .nil) .nil (.var 17)) ρ=aa (.list [],ae):=by
  refine(pd (h:=λb=>S (bS b)) (g:=λb=>S (bS b)) (p:=λZ=>ag) (r:=λb=>put (rem [17] ρ) 17 (.val (S (bS b)))) (eP (aA zY)) (λZ Z=>rfl) (λb Z=>?_) (λZ Z h=>nomatch h) (by lia)).trans ?_
  ·exact qt (cS (aA gS) (tV (bI (aK _) (bI (aK _) di))) (agz b))
  ·refine rE (agA ..) ?_;rfl
 exact cS e (fG di) rfl
theorem To:ev tok C hs (.bin .mul (.list (.cons (.lit (.str (aj [84,114,117,101]))) .nil)) (.lit (.int 3))) ρ=aa (iR [ae,ae,ae],ae):=bk (fG (bI (aK _) di)) (aK _) rfl
theorem agC{L:Lk}(k:SQ L)(zY:get ρ 29=aa (.val (iR (mU L 0))))(h61:get ρ 61=aa (.val (.list ((sC L).map nD)))):ev tok C hs Tn ρ=aa (.bool ag,ae):=by have e1:=cS (C:=C) (hs:=hs) (aA zY) To (J3 (mU L 0) [ae,ae,ae]);replace e1:=(show lY (λa b=>lEq (bS a) (bS b)) (mU L 0) [ae,ae,ae]=jB L from k.told 0 (by decide))▸e1;have e2:=cS (tk:=tok) (C:=C) (hs:=hs) (aA h61) (fG di) (eq_nil ((c8.map qr (sC L)).ok (by decide)));replace e2:=(show((sC L).map nD).isEmpty=jB L by refine rE List.isEmpty_map ?_;exact rE (agw ..) rfl)▸e2;exact cS e1 e2 (by cases jB L<;>rfl)
structure LI(s:d3)(P:List (List (List Nat)))(tr rw:D)(a b:List D)(ρ:aM):Prop where
 g8:get ρ 8=aa (.val s.D)
 iO:get ρ 10=aa (.val rw)
 AN:get ρ 38=aa (.val (jW (jY s)))
 yr:get ρ 44=aa (.val (.list (P.map cu)))
 AO:get ρ 55=aa (.val tr)
 DT:get ρ 59=aa (.own a)
 DU:get ρ 60=aa (.own b)
theorem LI.put{s:d3}{P:List (List (List Nat))}{tr rw:D}{a b:List D}(I:LI s P tr rw a b ρ){x:bA}(h:[8,10,38,44,55,59,60].any (az i)=ag):LI s P tr rw a b (put ρ i x):=by
 have q:∀j,j∈[8,10,38,44,55,59,60]→az i j=ag:=λj hj=>by
  have:=U4.mp h j hj;induction z:az i j with
  |true=>exact absurd z this
  |false=>rfl
 exact⟨gN (q 8 (by decide)) I.g8,gN (q 10 (by decide)) I.iO,gN (q 38 (by decide)) I.AN,gN (q 44 (by decide)) I.yr,gN (q 55 (by decide)) I.AO,gN (q 59 (by decide)) I.DT,gN (q 60 (by decide)) I.DU⟩
noncomputable def J4:RE:=.cmp (.sub (.call 8 (.cons (.var 30) (.cons (.bin .add (.lit (.int 1)) (.bin .mod (.aG 8 (.lit (.int 5))) (.lit (.int 5)))) (.cons (.var 38) .nil)))) (.lit (.int 0))) (.cons .eq (.bin .mul (.list (.cons (.lit (.str (aj [84,114,117,101]))) .nil)) (.lit (.int 3))) .nil)
noncomputable def DV:bP:=.cons (.uS [29,41] (.call 8 (.cons (.var 30) (.cons (.lit (.int 0)) (.cons (.var 38) .nil))))) (.cons (.asg 61 Th) (.cons (.ite (.or Tj Tn) (.cons (.fz [59,60] (.ret (.lit (.bool ag)))) .nil) .nil) (.cons (.ite (.call 10 (.cons (.var 44) (.cons (.var 30) .nil)))
 (.cons (.app 59 (.var 30)) (.cons (.ite J4 (.cons (.app 60 (.var 30)) .nil) .nil) .nil)) .nil) .nil)))
noncomputable def DW(q:Bool)(L:Lk):List D:=cond q [aJ L] []
theorem agD{s:d3}{tr rw:D}{a b:List D}{L:Lk}(N:DP F)(hw:∀ps∈jX F,wt ps≤600)(hL:L∈l6)(ha:a.length<1000000)(hb:b.length<1000000)(I:LI s (jX F) tr rw a b ρ):
  ∃ρ',dH (run tok aH (n+3)) CH (.one 30) DV (aJ L) ρ hs=aa (.next ρ' hs,ae)∧LI s (jX F) tr rw (a++DW (jC F L) L) (b++DW (jC F L&&jB L) L) ρ'∧get ρ' 30=aa (.val (aJ L))∧get ρ' 41=aa (.val (kE (eR L 0 (jY s)))):=by
 have k:=SR hL;have f8:∀t,t≤6→run tok aH (n+3) 8 [aJ L,nD t,jW (jY s)]=aa (.tuple [iR (mU L t),kE (eR L t (jY s))],ae):=λt ht=>aer n k.yq ht (jY s);have f10:run tok aH (n+3) 10 [.list ((jX F).map cu),aJ L]=aa (.bool (jC F L),ae):=aeE (n+2) (λps h=>aF (hw ps h) (by decide)) (N.net L hL);have hlen:(mU L 0).length≤10:=by unfold mU;exact rE (aQ ..) (rE (aQ ..) k.yq.1)
 obtain⟨bD,h1⟩:∃bD,bD=put (put (put (put ρ 30 (.val (aJ L))) 29 (.val (iR (mU L 0)))) 41 (.val (kE (eR L 0 (jY s))))) 61 (.val (.list ((sC L).map nD))):=⟨_,rfl⟩;have I1:LI s (jX F) tr rw a b bD:=rE h1 ((((I.put rfl).put rfl).put rfl).put rfl)
 have pq:get bD 30=aa (.val (aJ L)):=rE h1 (gN rfl (gN rfl (gN rfl gS)))
 have Tp:get bD 29=aa (.val (iR (mU L 0))):=rE h1 (gN rfl (gN rfl gS))
 have qC:get bD 41=aa (.val (kE (eR L 0 (jY s)))):=rE h1 (gN rfl gS)
 have g61:get bD 61=aa (.val (.list ((sC L).map nD))):=rE h1 gS
 have head:∀ {m:W Fl},ex tok (run tok aH (n+3)) CH (.ite (.call 10 (.cons (.var 44) (.cons (.var 30) .nil))) (.cons (.app 59 (.var 30)) (.cons (.ite J4 (.cons (.app 60 (.var 30)) .nil) .nil) .nil)) .nil) bD hs=m→(∃ρ',m=aa (.next ρ' hs,ae))→dH (run tok aH (n+3)) CH (.one 30) DV (aJ L) ρ hs=m:=λ{m} h hm=>by refine xE hm λρ' e9=>?_;subst e9;exact(cA (m:=eU (.one 30) (aJ L) ρ) rfl).trans ((bq (QL ((v9 (aA gS) (aK _) (aA (gN rfl I.AN))).trans (f8 0 (by decide))) rfl rfl)).trans ((bq (c7 (agy k.yq.1 (gN rfl (gN rfl gS))))).trans (rS h1 ((bq (fH (IK (agB hlen Tp) rfl (agC k Tp g61)) rfl jx)).trans (cJ h)))))
 have mz:=(IS (tk:=tok) (hs:=hs) (aA I1.yr) (aA pq)).trans f10;induction q:jC F L with
 |false=>replace mz:=q▸mz;refine⟨bD,head (fH mz rfl jx) ⟨_,rfl⟩,?_,pq,qC⟩;show LI s (jX F) tr rw (a++[]) (b++[]) bD;exact rE (eg ..) (rE (eg ..) I1)
 |true=>
  replace mz:=q▸mz;have I2:LI s (jX F) tr rw (a++[aJ L]) b (put bD 59 (.own (a++[aJ L]))):=⟨gN rfl I1.g8,gN rfl I1.iO,gN rfl I1.AN,gN rfl I1.yr,gN rfl I1.AO,gS,gN rfl I1.DU⟩;have a1:=xY (tk:=tok) (C:=run tok aH (n+3)) (CH:=CH) (hs:=hs) I1.DT (aA pq) ha;have ht:s.f%5<5:=j3 _ (by decide);have ef:ev tok (run tok aH (n+3)) hs J4 (put bD 59 (.own (a++[aJ L])))=aa (.bool (jB L),ae):=by
   have e1:ev tok (run tok aH (n+3)) hs (.sub (.call 8 (.cons (.var 30) (.cons (.bin .add (.lit (.int 1)) (.bin .mod (.aG 8 (.lit (.int 5))) (.lit (.int 5)))) (.cons (.var 38) .nil)))) (.lit (.int 0))) (put bD 59 (.own (a++[aJ L])))=aa (iR (mU L (1+s.f%5)),ae):=
    tU ((v9 (aA (gN rfl pq)) (bk (aK (nD 1)) (bk (dp I2.g8 (aK _) (z:=nD s.f) rfl) (aK _) (pf s.f 5 (by decide))) (add_n 1 _)) (aA I2.AN)).trans (f8 _ (by lia))) (aK _) rfl
   have e2:=cS e1 To (J3 _ [ae,ae,ae]);replace e2:=(show lY (λa b=>lEq (bS a) (bS b)) (mU L (1+s.f%5)) [ae,ae,ae]=jB L from k.told _ (by lia))▸e2;exact e2
  induction q2:jB L with
  |false=>replace ef:=q2▸ef;refine⟨_,head (ij mz rfl ((bq a1).trans (cJ (fH ef rfl jx)))) ⟨_,rfl⟩,?_,gN rfl pq,gN rfl qC⟩;show LI s (jX F) tr rw (a++[aJ L]) (b++[]) _;exact rE (eg ..) I2
  |true=>replace ef:=q2▸ef;exact⟨_,head (ij mz rfl ((bq a1).trans (cJ (ij ef rfl (cJ (xY I2.DU (aA (gN rfl pq)) hb)))))) ⟨_,rfl⟩,⟨gN rfl I2.g8,gN rfl I2.iO,gN rfl I2.AN,gN rfl I2.yr,gN rfl I2.AO,gN rfl I2.DT,gS⟩,gN rfl (gN rfl pq),gN rfl (gN rfl qC)⟩
theorem Tq(q:Lk→Bool)(L:Lk)(r:List Lk):DW (q L) L++(r.filter q).map aJ=((L::r).filter q).map aJ:=by refine rE uI ?_;cases q L<;>rfl
theorem Tr(q:Bool)(L:Lk):(DW q L).length≤1:=by induction q<;>exact bc rfl
theorem agE{s:d3}{tr rw:D}(N:DP F)(hw:∀ps∈jX F,wt ps≤600):∀ (Ls:List Lk) (a b:List D) (ρ:aM),(∀L∈Ls,L∈l6)→a.length+Ls.length<1000000→b.length+Ls.length<1000000→LI s (jX F) tr rw a b ρ→
  ∃ρ',dE (dH (run tok aH (n+3)) CH (.one 30) DV) (Ls.map aJ) ρ hs=aa (.next ρ' hs,ae)∧LI s (jX F) tr rw (a++(Ls.filter (jC F)).map aJ) (b++(Ls.filter λL=>jC F L&&jB L).map aJ) ρ'∧(Ls≠[]→∃L∈l6,get ρ' 30=aa (.val (aJ L))∧get ρ' 41=aa (.val (kE (eR L 0 (jY s))))):=by
 intro Ls;induction Ls with
 |nil=>intro a b ρ _ _ _ I;exact⟨ρ,rfl,by rewrite[show([]:List Lk).filter (jC F)=[]from rfl,qU,eg];exact(by rewrite[show([]:List Lk).filter (λL=>jC F L&&jB L)=[]from rfl,qU,eg];exact I),λh=>absurd rfl h⟩
 |cons L r ih=>
  intro a b ρ hL ha hb I;rw[bT]at ha hb;obtain⟨bD,e1,I1,pq,qC⟩:=agD (n:=n) (CH:=CH) (hs:=hs) N hw (hL L bG) (by lia) (by lia) I;have l1:=Tr (jC F L) L;have l2:=Tr (jC F L&&jB L) L;obtain⟨ud,e2,I2,k⟩:=ih _ _ bD (λL' h=>hL L' (cf _ h)) (by refine rE bt ?_;lia) (by refine rE bt ?_;lia) I1;refine⟨ud,(pa e1).trans e2,?_,λZ=>?_⟩
  ·replace I2:=(d5 ..)▸(d5 ..)▸I2;rewrite[Tq (jC F)]at I2;rw[Tq λL=>jC F L&&jB L]at I2;exact I2
  ·induction r using bj with
   |nil=>cases e2;exact⟨L,hL L bG,pq,qC⟩
   |cons=>exact k nofun
noncomputable def uj(ps:List Pc):List (List Pc × List Nat):=[(ps,[34,40]),(ps,[34])]++(pG 1 5).map λk=>(ps.drop k++ps.take k,[])
noncomputable def rT(q:List Pc × List Nat):List (List Nat):=q.1.map Pc.txt++cond q.2.isEmpty [] [q.2]
noncomputable def rD(q:List Pc × List Nat):D:=.list ((rT q).map S)
theorem Ts(q:List Pc × List Nat):(rT q).flatten=fh q.1++q.2:=by
 unfold rT fh;refine rE Bp (rS aik ?_);induction h:q.2 using bj with
 |nil=>rfl
 |cons c r=>show _++((c::r)++[])=_;exact rE (eg ..) rfl
structure Tu(q:List Pc × List Nat):Prop where
 sg:∀p∈q.1,mS p.c
 len:q.1.length≤6
 e:q.2=[]∨q.2=[34]∨q.2=[34,40]
theorem agF(h:∀p∈ps,mS p.c)(hl:ps.length≤6):∀q∈uj ps,Tu q:=by
 intro q hq;rcases gq.mp hq with hq|hq
 ·rcases bE.mp hq with rfl|hq
  ·exact⟨h,hl,.inr (.inr rfl)⟩
  ·exact rE (dK.mp hq) ⟨h,hl,.inr (.inl rfl)⟩
 ·refine aD (fq.mp hq) λk Z e9=>?_;subst e9;refine⟨λp hp=>?_,?_,.inl rfl⟩
  ·exact(gq.mp hp).elim (λhp=>h p (Va hp)) λhp=>h p (U9 hp)
  ·refine rE bt (rE uw (rE qH ?_));lia
noncomputable def DX(q:List Pc × List Nat):Bool:=sd (dG ag q.2) (lX (q.1.map Pc.c) 0)
theorem agG(l:Lk):jb l l:=(Jv l l).mpr rfl
theorem Tv(R:List Lk):gQ .eq (.list (R.map aJ)) (.list (R.map aJ))=aa (ae,ae):=by
 have s:=Sf.list (k:=2) (xs:=R.map aJ) λx hx=>by refine aD (fq.mp hx) λL Z e9=>?_;subst e9;exact⟨Jd L,(RL L L).trans (agG L)⟩
 show W.need (dT (.list (R.map aJ)) (.list (R.map aJ))) (c9 (.list (R.map aJ))&&c9 (.list (R.map aJ)))=_;refine rE s.eq (rE (s.DS.ok (by decide)) ?_);rfl
theorem agH(l:List Bool):lY (λa b=>lEq (bS a) (bS b)) l l:=by
 induction l with
 |nil=>rfl
 |cons b l ih=>show(lEq (bS b) (bS b)&&lY _ l l);refine rE (tT ..) (rE ih ?_);rfl
theorem agI(a b:Nat):gQ .le (nD a) (nD b)=aa (aX a b,ae):=by
 show aa ((decide ((a:Int)≤(b:Int)),ae):Bool × Bool)=_;induction q:aX a b with
 |true=>exact rE (decide_eq_true (uk.mpr (bc q))) rfl
 |false=>exact rE (decide_eq_false λh=>by replace q:=bO (uk.mp h)▸q;exact zT q) rfl
noncomputable def Tw:RE:=.bin .add (.list (.cons (.bin .add (.var 41) (.list (.cons (.lit (.str (aj [34,40]))) .nil))) (.cons (.bin .add (.var 41) (.list (.cons (.lit (.str (aj [34]))) .nil))) .nil))) (.comp [13] (.one 13) (.range (.lit (.int 1)) (.lit (.int 6))) .nil .nil (.bin .add (.cw 41 (.some (.var 13)) .none .none) (.cw 41 .none (.some (.var 13)) .none)))
theorem agJ(hl:ps.length≤6)(AP:get ρ 41=aa (.val (kE ps))):ev tok C hs Tw ρ=aa (.list ((uj ps).map rD),ae):=by
 have lt:(ps.map λp=>S p.txt).length≤1000000:=by refine rE (aQ ..) ?_;lia
 have l1:(ps.map λp=>S p.txt).length+1≤1000000:=by refine rE (aQ ..) ?_;lia
 have ea:∀l:ax,l≠[]→aa (dQ ((ps.map λp=>S p.txt)++[S l]),ae)=aa (rD (ps,l),ae):=λl h=>by
  unfold rD rT;induction l using bj with
  |nil=>exact absurd rfl h
  |cons c r=>refine rE dw (rE dJ ?_);rfl
 have e1:ev tok C hs (.bin .add (.var 41) (.list (.cons (.lit (.str (aj [34,40]))) .nil))) ρ=aa (rD (ps,[34,40]),ae):=(bk (aA AP) (fG (bI (aK _) di)) (gm l1)).trans (ea [34,40] nofun);have e2:ev tok C hs (.bin .add (.var 41) (.list (.cons (.lit (.str (aj [34]))) .nil))) ρ=aa (rD (ps,[34]),ae):=(bk (aA AP) (fG (bI (aK _) di)) (gm l1)).trans (ea [34] nofun);have e3:ev tok C hs (.comp [13] (.one 13) (.range (.lit (.int 1)) (.lit (.int 6))) .nil .nil (.bin .add (.cw 41 (.some (.var 13)) .none .none) (.cw 41 .none (.some (.var 13)) .none))) ρ=aa (.list ((pG 1 5).map λk=>rD (ps.drop k++ps.take k,[])),ae):=by
  refine ik (h:=nD) (r:=λk=>put (rem [13] ρ) 13 (.val (nD k))) (SX (i:=1) (j:=6) (aK _) (aK _) (by decide) (by decide)) (λZ Z=>rfl) (λk hk=>?_) (by decide);have hk:=(Vl.mp hk).2;have qC:get (put (rem [13] ρ) 13 (.val (nD k))) 41=aa (.val (kE ps)):=gL rfl rfl AP;refine(bk (jU (eK qC) (gX (aA gS)) ee ee (wd (k:=k) (by lia) lt)) (jU (eK qC) ee (gX (aA gS)) ee (yb (k:=k) (by lia) lt)) (gm ?_)).trans ?_
  ·exact rE uw (rE qH (rE (aQ ..) (Lx (m:=6) (by lia) (by decide))))
  ·unfold rD rT;refine rS yP (rS wX (rS dw ?_));show _=aa (dQ (List.map S ((ps.drop k++ps.take k).map Pc.txt++[])),ae);refine rE (eg ..) (rE dJ ?_);rfl
 refine(bk (fG (bI e1 (bI e2 di))) e3 (gm (rE (aQ ..) (bc rfl)))).trans ?_;unfold uj;refine rE dw (rE dJ ?_);rfl
noncomputable def Tz:RE:=.comp [17] (.one 17) (.data (.var 56)) .nil .nil (.prim .str (.cons (.call 1 (.cons (.prim .join (.cons (.lit (.str (aj []))) (.cons (.var 17) .nil))) .nil)) .nil))
theorem agK{qs:List (List Pc × List Nat)}(hq:∀q∈qs,Tu q)(hl:qs.length≤100)(h56:get ρ 56=aa (.val (.list (qs.map rD)))):ev tok (run tok aH (n+2)) hs Tz ρ=aa (iR (qs.map DX),ae):=by
 unfold iR;refine rE dJ (ik (h:=rD) (r:=λq=>put (rem [17] ρ) 17 (.val (rD q))) (eP (aA h56)) (λZ Z=>rfl) (λq hq'=>?_) (by lia));have k:=hq q hq';have ht:=we q.1;have hb:=wg q.1;have hl:=k.len;have he:q.2.length≤2:=by rcases k.e with h|h|h<;>refine rE h ?_<;>decide
 have e1:gT .join [S [],rD q]=aa (S (fh q.1++q.2),ae):=by have:=Aw (rT q) (by refine rE (Ts ..) (rE bt ?_);lia);replace this:=(Ts ..)▸this;exact this
 exact gI ((qo (Ar (aK _) (aA gS) e1)).trans (Q6 n k.sg k.e (by lia) (by lia))) (str_bool _)
theorem agL(L:Lk)(dr:Nat→Nat):(uj (eR L 0 dr)).map DX=asks L:=by
 have e:(eR L 0 dr).map Pc.c=og L 0:=by unfold eR og;refine rE dJ ?_;rfl
 have e2:∀k,DX ((eR L 0 dr).drop k++(eR L 0 dr).take k,[])=sd [] (lX ((og L 0).drop k++(og L 0).take k) 0):=λk=>by rewrite[← e,← yP,← wX,← dw];rfl
 unfold uj asks;refine rE dw (rE dJ (rE (show(DX∘λk=>((eR L 0 dr).drop k++(eR L 0 dr).take k,[]))=_ from funext e2) (rS e ?_)));rfl
noncomputable def TA:RE:=.bin .add (.list (.cons (.lit (.str (aj [70,97,108,115,101]))) .nil)) (.comp [13] (.one 13) (.dy (.lit (.int 6))) .nil .nil (.prim .str (.cons (.cmp (.comp [36,35] (.two 36 35) (.data (.var 30)) (.cons (.cmp (.var 36) (.cons .lt (.var 13) (.cons .le (.var 35) .nil))) .nil) .nil (.var 36)) (.cons .eq (.list .nil) .nil)) .nil)))
theorem agM{L:Lk}(hL:L.length≤10)(kr:get ρ 30=aa (.val (aJ L))):ev tok C hs TA ρ=aa (iR ([ag]++(bM 6).map (yp L)),ae):=by
 have e1:ev tok C hs (.comp [13] (.one 13) (.dy (.lit (.int 6))) .nil .nil (.prim .str (.cons (.cmp (.comp [36,35] (.two 36 35) (.data (.var 30)) (.cons (.cmp (.var 36) (.cons .lt (.var 13) (.cons .le (.var 35) .nil))) .nil) .nil (.var 36)) (.cons .eq (.list .nil) .nil)) .nil))) ρ=aa (.list ((bM 6).map λk=>S (bS (yp L k))),ae):=by
  refine ik (h:=nD) (r:=λk=>put (rem [13] ρ) 13 (.val (nD k))) (kD (n:=6) (aK _) (by decide)) (λZ Z=>rfl) (λk Z=>?_) (by decide);have e2:ev tok C hs (.comp [36,35] (.two 36 35) (.data (.var 30)) (.cons (.cmp (.var 36) (.cons .lt (.var 13) (.cons .le (.var 35) .nil))) .nil) .nil (.var 36)) (put (rem [13] ρ) 13 (.val (nD k)))=aa (.list ((L.filter λp=>aU p.1 k&&aX k p.2).map λp=>nD p.1),ae):=by
   refine pd (h:=pD) (g:=λp=>nD p.1) (p:=λp=>aU p.1 k&&aX k p.2) (r:=λp=>put (put (rem [36,35] (put (rem [13] ρ) 13 (.val (nD k)))) 36 (.val (nD p.1))) 35 (.val (nD p.2))) (eP (aA (gL rfl rfl kr))) (λZ Z=>rfl) (λp Z=>qt ?_) (λp Z Z=>aA (gN rfl gS)) (by lia);refine W.aS (aA (gN rfl gS)) (W.aS (aA (gN rfl (gL rfl rfl gS))) (W.aS (x8 p.1 k) ?_));induction aU p.1 k with
   |false=>rfl
   |true=>exact W.aS (aA gS) (W.aS (agI k p.2) rfl)
  have sh:c9 (.list ((L.filter λp=>aU p.1 k&&aX k p.2).map λp=>nD p.1)):=(c8.map (k:=0) (f:=λp:Nat × Nat=>nD p.1) (λp=>qr p.1) _).ok (by decide);have e3:=cS e2 (fG di) (eq_nil sh);replace e3:=(Ti ..)▸e3;exact gI e3 (str_bool _)
 refine(bk (fG (bI (aK _) di)) e1 (gm (by refine rE (aQ ..) ?_;decide))).trans ?_;unfold iR;refine rE dw (rE dJ ?_);rfl
noncomputable def TB:bP:=.cons (.asg 56 Tw) (.cons (.asg 22 TA) (.cons (.fz [59] (.asg 57 (.and (.cmp Tz (.cons .eq (.var 22) .nil)) (.cmp (.var 59) (.cons .eq (.call 11 (.cons (.var 55) (.cons (.var 10) (.cons (.lit (.bool ag)) .nil)))) .nil)))))
 (.cons (.fz [59,60] (.ret (.and (.var 57) (.cmp (.var 60) (.cons .eq (.call 11 (.cons (.var 55) (.cons (.var 10) (.cons (.lit (.bool ae)) .nil)))) .nil))))) .nil)))
theorem sD(h:get ρ j=aa (.val d)):get (dX is ρ) j=aa (.val d):=(Ap is ρ j).trans (congrArg _ h)
theorem agN{xs:List D}(h:get ρ j=aa (.own xs))(q:is.any (az j)=ag):get (dX is ρ) j=aa (.own xs):=by refine rE (Ap ..) (rE h (rE q ?_));rfl
theorem agO{s:d3}{P:List (List (List Nat))}{L:Lk}{R1 R2:List Lk}(hL:L∈l6)(I:LI s P (cX F) (ip row) (R1.map aJ) (R2.map aJ) ρ)(kr:get ρ 30=aa (.val (aJ L)))(AP:get ρ 41=aa (.val (kE (eR L 0 (jY s)))))
  (f1:run tok aH (n+2) 11 [cX F,ip row,.bool ag]=aa (.list (R1.map aJ),ae)) (f2:run tok aH (n+2) 11 [cX F,ip row,.bool ae]=aa (.list (R2.map aJ),ae)):
  cb tok (run tok aH (n+2)) CH TB ρ hs=aa (.ret (.bool ae) hs,ae):=by
 have k:=SR hL;have hl:(eR L 0 (jY s)).length≤6:=by unfold eR;refine rE (aQ ..) ?_;decide
 have hsg:∀p∈eR L 0 (jY s),mS p.c:=λp hp=>by refine aD (fq.mp hp) λj Z e9=>?_;subst e9;exact Rv _ _
 refine(bq (c7 (agJ hl AP))).trans ((bq (c7 (agM k.yq.1 (gN rfl kr)))).trans ?_);obtain⟨bD,h1⟩:∃bD,bD=put (put ρ 56 (.val (.list ((uj (eR L 0 (jY s))).map rD)))) 22 (.val (iR ([ag]++(bM 6).map (yp L)))):=⟨_,rfl⟩;have I1:LI s P (cX F) (ip row) (R1.map aJ) (R2.map aJ) bD:=rE h1 ((I.put rfl).put rfl)
 have g56:get bD 56=aa (.val (.list ((uj (eR L 0 (jY s))).map rD))):=rE h1 (gN rfl gS)
 have sm:get bD 22=aa (.val (iR ([ag]++(bM 6).map (yp L)))):=rE h1 gS
 refine rS h1 ?_;have e1:=agK (n:=n) (hs:=hs) (ρ:=dX [59] bD) (agF hsg hl) (by unfold uj;exact rE bt (rE (aQ ..) (bc rfl))) (sD g56);replace e1:=k.ask▸(agL ..)▸e1;have e2:=cS e1 (aA (sD sm)) (J3 _ _);replace e2:=(agH ..)▸e2;have e3:ev tok (run tok aH (n+2)) hs (.cmp (.var 59) (.cons .eq (.call 11 (.cons (.var 55) (.cons (.var 10) (.cons (.lit (.bool ag)) .nil)))) .nil)) (dX [59] bD)=aa (.bool ae,ae):=
  cS (aA (wa I1.DT rfl)) ((v9 (aA (sD I1.AO)) (aA (sD I1.iO)) (aK _)).trans f1) (Tv R1)
 refine(bq (show ex tok _ CH (.asg 57 _) (dX [59] bD) hs=_ from c7 (Dg e2 rfl e3))).trans ?_;have e4:ev tok (run tok aH (n+2)) hs (.cmp (.var 60) (.cons .eq (.call 11 (.cons (.var 55) (.cons (.var 10) (.cons (.lit (.bool ae)) .nil)))) .nil)) (dX [59,60] (put (dX [59] bD) 57 (.val (.bool ae))))=aa (.bool ae,ae):=
  cS (aA (wa (gN rfl (agN I1.DU rfl)) rfl)) ((v9 (aA (sD (gN rfl (sD I1.AO)))) (aA (sD (gN rfl (sD I1.iO)))) (aK _)).trans f2) (Tv R2)
 exact Jn (Dg (aA (sD gS)) rfl e4)
noncomputable def agP:bP:=.cons (.mul [58,44,59,60] [.val (.list (.cons (.list .nil) .nil)),.val (.list (.cons (.list .nil) .nil)),.nA,.nA]) (.cons (.loop (.one 13) (.dy (.lit (.int 3))) (.cons (.asg 58 JW) .nil)) (.cons (.loop (.one 42) (.data (.var 23)) (.cons (.asg 44 J1) .nil)) (.cons (.asg 38 Tg) (.cons (.loop (.one 30) (.data (.var 58)) DV) TB))))
theorem TC(a b:Nat):oj [a,b]=oj [b,a]:=by have e:∀x y a b:Nat,lEq [x,y] [a,b]=cond (az x a) (cond (az y b) ae ag) ag:=λZ Z Z Z=>rfl;unfold oj;simp only[EB,List.any_nil,e];generalize az 97 a=x1;generalize az 65 a=x2;generalize az 98 a=x3;generalize az 66 a=x4;generalize az 97 b=y1;generalize az 65 b=y2;generalize az 98 b=y3;generalize az 66 b=y4;revert x1 x2 x3 x4 y1 y2 y3 y4;decide
theorem J5(p q:α→Bool)(l:List α):(l.filter p).filter q=(l.filter q).filter p:=rE La (rE La (aiy λx Z=>aiz _ _))
theorem agQ{s:d3}{Ls:List Lk}(N:DP F)(f:wA F)(hr:pk row)(K:Links row Ls)(h8:get ρ 8=aa (.val s.D))(h9:get ρ 9=aa (.val (.list ot)))(fT:get ρ 10=aa (.val (ip row)))(Hg:get ρ 23=aa (.val (cX F)))(wB:get ρ 31=aa (.val (lZ (uf row))))(h55:get ρ 55=aa (.val (cX F))):
  cb tok (run tok aH 14) CH agP ρ hs=aa (.ret (.bool ae) hs,ae):=by
 have hM:∀m∈uf row,m.length≤6:=λm hm=>by refine aD (fq.mp hm) λc Z e9=>?_;subst e9;exact aF (wW _ _) (by decide)
 refine(bq (QM (sl:=[.val (.list [.list []]),.val (.list [.list []]),.own [],.own []]) (hs':=hs) rfl rfl)).trans ?_;obtain⟨bD,h1⟩:∃bD,bD=put (put (put (put ρ 58 (.val (.list [.list []]))) 44 (.val (.list [.list []]))) 59 (.own [])) 60 (.own []):=⟨_,rfl⟩;have st:∀ {j:Nat}{o:Option bA},az 58 j=ag→az 44 j=ag→az 59 j=ag→az 60 j=ag→get ρ j=o→get bD j=o:=λa b c d h=>by refine rE h1 ?_;exact gN d (gN c (gN b (gN a h)))
 have k58:get bD 58=aa (.val (.list [.list []])):=rE h1 (gN rfl (gN rfl (gN rfl gS)))
 have k44:get bD 44=aa (.val (.list [.list []])):=rE h1 (gN rfl (gN rfl gS))
 have k59:get bD 59=aa (.own []):=rE h1 (gN rfl gS)
 have k60:get bD 60=aa (.own []):=rE h1 gS
 show cb tok _ CH _ (put (put (put (put ρ 58 (.val (.list [.list []]))) 44 (.val (.list [.list []]))) 59 (.own [])) 60 (.own [])) hs=_;refine rS h1 ?_;obtain⟨ud,e2,g58,hn,p2⟩:=agp (n:=13) (CH:=CH) (hs:=hs) hM K.run k58 (st rfl rfl rfl rfl wB);refine(bq ((jV (xs:=[nD 0,nD 1,nD 2]) (kD (n:=3) (aK _) (by decide))).trans e2)).trans ?_;have s2:∀ {j:Nat}{o:Option bA},j≠58→j≠13→get bD j=o→get ud j=o:=λ{j o}=>p2 j o;obtain⟨qB,e3,yr,hw,p3⟩:=agt (n:=14) (CH:=CH) (hs:=hs) F [[]] ud (λt ht=>by have:=f.cn ht;exact⟨by lia,this⟩) (rE sS (rE (Vj ..) (aF (yQ (by decide) f.z) (by decide)))) (λps h=>by refine rE (dK.mp h) ?_;have:=f.len;show 0+132 * F.length≤600;lia) (s2 (by decide) (by decide) k44);have s3:∀ {j:Nat}{o:Option bA},j≠44→j≠42→get ud j=o→get qB j=o:=λ{j o}=>p3 j o;refine(bq ((jV (eP (aA (s2 (by decide) (by decide) (st rfl rfl rfl rfl Hg))))).trans e3)).trans ?_;have q8:=s3 (by decide) (by decide) (s2 (by decide) (by decide) (st rfl rfl rfl rfl h8));have q9:=s3 (by decide) (by decide) (s2 (by decide) (by decide) (st rfl rfl rfl rfl h9));have AJ:=s3 (by decide) (by decide) (s2 (by decide) (by decide) (st rfl rfl rfl rfl fT));have q55:=s3 (by decide) (by decide) (s2 (by decide) (by decide) (st rfl rfl rfl rfl h55));have q59:=s3 (by decide) (by decide) (s2 (by decide) (by decide) k59);have q60:=s3 (by decide) (by decide) (s2 (by decide) (by decide) k60);have q58:=s3 (by decide) (by decide) g58;refine(bq (c7 (agu q8 q9))).trans ?_;have I:LI s (jX F) (cX F) (ip row) [] [] (put qB 38 (.val (jW (jY s)))):=⟨gN rfl q8,gN rfl AJ,gS,gN rfl yr,gN rfl q55,gN rfl q59,gN rfl q60⟩;have hL:∀L∈Ls,L∈l6:=λL h=>by replace h:=K.eq▸h;exact(yR.mp h).1
 obtain⟨SF,e4,I4,k4⟩:=agE (n:=11) (CH:=CH) (hs:=hs) N hw Ls [] [] _ hL (show 0+_<_ by lia) (show 0+_<_ by lia) I;refine(bq ((jV (eP (aA (gN rfl q58)))).trans e4)).trans (j8 (k4 K.ne) λL hL pq qC=>?_);have d1:=RK (p:=mY row) (λi j=>TC _ _) ag 14 F _ N.all;have d2:=RK (p:=mY row) (λi j=>TC _ _) ae 14 F _ N.cyc;replace d1:=jg K.eq▸(J5 ..)▸d1;replace d2:=(J5 ..)▸d2;rewrite[J5 (jC F)]at d2;replace d2:=(show(λa=>jB a&&jC F a)=λL=>jC F L&&jB L from funext λL=>aiz _ _)▸La▸jg K.eq▸d2;exact agO (n:=12) hL I4 pq qC (R9 hr ag 14 F _ f.gd d1) (R9 hr ae 14 F _ f.gd d2)
theorem agR{e:RE}{x:D}{t:d6}(vE:get ρ 21=aa (.cU 0))(he:ev tok (run tok aH n) [[]] e ρ=aa (x,ae))(h:qZ tok aH (run tok aH n) 6 [x] []=aa ((d,t),ae)):
  ex tok (run tok aH n) (aa (qZ tok aH (run tok aH n))) (.qW 23 6 21 (.cons e .nil)) ρ [[]]=aa (.next (put ρ 23 (.val d)) [t],ae):=
 (cA (xX vE)).trans ((cA (m:=([[]]:Hs)[0]?) (a:=[]) rfl).trans (W.aS (bI he di) ((cA (m:=aa (qZ tok aH (run tok aH n))) rfl).trans (W.aS h rfl))))
theorem agS{f:Nat}{args:List D}{fn:Fn}(hf:aH f=aa fn)(hp:oM fn.params args []=aa ρ)(h:cb tok (run tok aH n) (aa (qZ tok aH (run tok aH n))) fn.body ρ []=aa (.ret d hs,ae)):E3 tok aH n f args=aa (d,ae):=
 (cA hf).trans ((cA hp).trans (W.aS h rfl))
theorem agT{il:List Int}(uc:il.length≤63):E3 tok aH 14 12 [.list (il.map .int)]=aa (.bool ae,ae):=by
 obtain⟨s,hs⟩:∃s,s=SW il:=⟨_,rfl⟩;have f:=af5 s;have N:=afN s;have hr:=afQ s;refine xE (afR s) λLs K=>?_;have F5:=afE s 13;obtain⟨lp,so⟩:∃lp,lp=l5 s (rowOf s):=⟨_,rfl⟩;have J6:∀k,k<6→(lp k).c=(rowOf s).getD k 0:=λk Z=>by refine rE so ?_;rfl
 replace F5:=so.symm▸F5;revert f N hr K F5 J6;generalize rowOf s=row;generalize t9 s=F;intro f N hr K J6 F5;obtain⟨ss,tI⟩:∃ss,ss=DR s F.length:=⟨_,rfl⟩;have lH:F.length=ss.length+1:=by refine rE tI ?_;unfold DR;refine rE (aQ ..) (rE EU ?_);have:=f.len;lia
 obtain⟨X,rd⟩:=agc (ss:=ss) hr J6 f (λc hc=>by replace hc:=tI▸hc;refine aD (fq.mp hc) λk Z e9=>?_;subst e9;exact(SY s k).2);have F6:=rd 13;have tl:=we (dI lp F ss);have bl:=wg (dI lp F ss);have xl:=X.len;have cz:=ad0 (λp hp=>(X.ck p hp).sg) (e:=[92]) (by decide);have F0:=QU 13 (fh (dI lp F ss)++[92]) (by rw[bt];exact aF (Vi (aF tl (yv 6 xl)) 1) (by decide)) (by rewrite[cz];rw[bt];exact aF (Vi (aF bl (yv 6 xl)) 1) (by decide));rw[cz]at F0;have sums:=λ{ρ:aM} (g1:get ρ 1=aa (.val (.list [.int 101,.int 209,.int 311,.int 10,.int 181,.int 56634]))) (AM:get ρ 54=aa (.val (.list (il.map .int))))=>afY (C:=run tok aH 14) (hs:=[]) g1 AM uc;rw[← hs]at sums;have TG:bK F≤12:=aF f.z (by decide);have trees:∀ {ρ:aM},get ρ 11=aa (.val (.list (F.map (bY lp))))→ev tok (run tok aH 14) ([]:Hs) (.comp [62] (.one 62) (.data (.var 11)) .nil .nil (.aG 62 (.lit (.int 0)))) ρ=aa (cX F,ae):=λ{ρ} g=>
  ik (h:=bY lp) (r:=λt=>put (rem [62] ρ) 62 (.val (bY lp t))) (eP (aA g)) (λZ Z=>rfl) (λt Z=>dp gS (aK _) rfl) (by have:=f.len;lia)
 refine agS (fn:=⟨[54],C7⟩) (ρ:=[(54,.val (.list (il.map .int)))]) rfl rfl (hs:=[bh row]) ((bq (c7 (d:=.list [.int 101,.int 209,.int 311,.int 10,.int 181,.int 56634]) rfl)).trans ((bq (c7 (sums gS (gN rfl rfl)))).trans ((bq (c7 (d:=.list ot) rfl)).trans ((bq (QL ((IS (aA (gN rfl gS)) (aA gS)).trans F5) rfl rfl)).trans ((bq (c7 (trees gS))).trans ((bq (c7 (afZ (s:=s) (n:=F.length) (gN rfl (gN rfl (gN rfl (gN rfl gS)))) (gN rfl gS) (aQ _) (by have:=f.len;lia)))).trans ?_))))));rw[← tI];refine(bq (c7 (af2 (lp:=lp) (F:=F) (ss:=ss) (gN rfl (gN rfl gS)) gS lH TG (by lia) (by lia)))).trans ((bq (s:=.jm 21) (hs':=[[]]) rfl).trans ((bq (c7 ((qo (dp (gN rfl gS) (aK _) rfl)).trans F0))).trans ((bq (agR (gN rfl gS) (aA gS) F6)).trans ?_)));obtain⟨bD,h1⟩:∃bD,bD=Ev.put (Ev.put (Ev.put (Ev.put (Ev.put (Ev.put (Ev.put (Ev.put (Ev.put (Ev.put (Ev.put [(54,.val (.list (il.map .int)))] 1 (.val (.list [.int 101,.int 209,.int 311,.int 10,.int 181,.int 56634]))) 8 (.val s.D)) 9 (.val (.list ot))) 10 (.val (ip row))) 11 (.val (.list (F.map (bY lp))))) 55 (.val (cX F))) 12 (.val (.list ((ss++[92]).map λc=>S [c])))) 41 (.val (.list [S (fh (dI lp F ss)++[92]),S (fj (dI lp F ss)++[92])]))) 21 (.cU 0)) 20 (.val (S (fj (dI lp F ss)++[92])))) 23 (.val (cX F)):=⟨_,rfl⟩;have r8:get bD 8=aa (.val s.D):=by rw[h1];exact gN rfl (gN rfl (gN rfl (gN rfl (gN rfl (gN rfl (gN rfl (gN rfl (gN rfl gS))))))))
 have r9:get bD 9=aa (.val (.list ot)):=by rw[h1];exact gN rfl (gN rfl (gN rfl (gN rfl (gN rfl (gN rfl (gN rfl (gN rfl gS)))))))
 have qA:get bD 10=aa (.val (ip row)):=by rw[h1];exact gN rfl (gN rfl (gN rfl (gN rfl (gN rfl (gN rfl (gN rfl gS))))))
 have TH:get bD 55=aa (.val (cX F)):=by rw[h1];exact gN rfl (gN rfl (gN rfl (gN rfl (gN rfl gS))))
 have r41:get bD 41=aa (.val (.list [S (fh (dI lp F ss)++[92]),S (fj (dI lp F ss)++[92])])):=by rw[h1];exact gN rfl (gN rfl (gN rfl gS))
 have J7:get bD 21=aa (.cU 0):=by rw[h1];exact gN rfl (gN rfl gS)
 have r20:get bD 20=aa (.val (S (fj (dI lp F ss)++[92]))):=by rw[h1];exact gN rfl gS
 have TJ:get bD 23=aa (.val (cX F)):=by rw[h1];exact gS
 refine Eq.trans (b:=cb tok (run tok aH 14) (aa (qZ tok aH (run tok aH 14))) _ bD [bh row]) (by rw[h1];rfl) ?_;clear h1;exact(bq (s:=.yT 21) (ρ':=bD) (hs':=[bh row]) ((cA (m:=mq [bh row] bD 21) (a:=bh row) (cA (xX J7))).trans (du _ (by rewrite[wk];rw[hr.len];rfl)))).trans ((bq (fH (IK (cS (aA r20) (dp r41 (aK _) rfl) (S7 _ _)) (by rw[tT];rfl) (IK (cS (aA TJ) (aA TH) (age TG)) rfl (agi hr J7 qA))) rfl jx)).trans ((bq (c7 (agm hr J7 qA))).trans (agQ N f hr K (gN rfl r8) (gN rfl r9) (gN rfl qA) (gN rfl TJ) gS (gN rfl TH))))
section
open PySem.W
theorem agU{P:Params}{h:aP}:∀ {il:List Int}{vs:List ak},WellAll P h vs (ofPys (il.map fY))→aI (λZ=>False) h vs (il.map fY):=by
 intro il;induction il with
 |nil=>intro vs x;cases x;exact .nil
 |cons i il ih=>
  intro vs x;cases x with
  |cons a b=>cases a;exact .cons (.int _ _) (ih b)
theorem agV{P:Params}{h:aP}{il:List Int}(w:Well P h (.ref a) (.list (ofPys (il.map fY)))):Rd (λZ=>False) h (.ref a) (.list (il.map fY)):=by
 cases w with
 |list h1 h2=>exact .list h1 (λq=>q) (rE AY (agU h2))
theorem agW:bW callerA (14+12):=⟨rfl,by decide,by decide+kernel⟩
theorem agX{w:cM}{h:aP}{mg:gy}{fa:aE}(Y:v5 w h)(g:h.Ns gp mg)(e:mg (nS 12)=aa (.ref fa)):fa=275:=by obtain⟨K,_,_,_,J8,_,_,fd,_,k⟩:=Y;exact yH.inj (ir (e.symm.trans ((yA.agree g J8.ng (nS 12)).trans k)))
theorem agY{w:cM}{il:List Int}(Y:v5 w s.heap)(uc:il.length≤63)(rd:aI (λZ=>False) s.heap [.ref a] [.list (il.map fY)])(hQ:∀s',Ext s s'→Q (.bool ae) s'):
  ar (aw prog w) callerA (yD (.ref 275) [.ref a]) Q E s:=by
 obtain⟨K,hw,hX,htk,J8,agZ,hFn,fd,mJ,_⟩:=Y;subst hw;exact aal agZ hFn (n:=14) agW rfl 12 _ _ (λZ=>False) s 275 fd _ (rE htk (agT uc)) mJ J8 (λZ q=>q.elim) rd _ _ λv s' x r=>by rw[r.E8];exact hQ s' x
set_option tactic.hygienic true in
theorem ag0(d:DefRec)(kwd:List (ah × au))(hdn:d.name=nS 12):WalkO mP r4 (λ_ _=>True) v5 J9.row.toRowW d kwd λf vs=>yD f vs:=by
 intro w aT ai mg mb G Y fa o pm cd doc dV kV ho hd o5 hD rO hg args vals as ku ag1 Ho DJ hlo;have G6:=agX Y G.T.g (hdn▸rO);subst G6;clear ho hd o5 hD rO G
 wrow_args ku ag1 Ho DJ hlo
 rename_i il _ _ _ _ _ _ _ a _ _ _ _ w1 _ _ _ hlen _;have uc:il.length≤63:=by omega
 refine agY Y uc (.cons (agV w1) .nil) λs' x=>?_;exact⟨.inl ⟨_,_,[],rfl,λ_=>rfl,ReadsW.bool ae,(by wrow_post),λ_=>⟨yG,λ_ hm=>(nomatch hm)⟩⟩,.of_keep x.keep,x.os,x.bare (.of_eq hg)⟩
end
section
open PySem.W
noncomputable abbrev pw:=J9.row
theorem TK:(defOf mP pw.name).isSome:=by kernel_rfl
noncomputable def dk:DefRec × List (ah × au):=(defOf mP pw.name).get TK
theorem ag2:defOf mP pw.name=aa (dk.1,dk.2):=(Option.some_get TK).symm
theorem hp1:pw.prog.theDef pw.name=aa (dk.1.params,dk.1.body,dk.1.scope):=by kernel_rfl
theorem Dd:kwWritten? dk.1.params.kwonlyargs dk.1.params.kw_defaults=aa dk.2:=by kernel_rfl
theorem ag3:dk.1.name=nS 12:=by kernel_rfl
theorem ok1:(chainsOk mP&&opensWell pw.prog&&(frees pw.toRowW&&pw.within.isEmpty)):=by decide+kernel
theorem ag4:pw.prog.bare:=⟨rfl,rfl,rfl,rfl,rfl,by decide+kernel⟩
theorem z5:pw.toRowW.promised:=⟨[.list []],by decide+kernel,by decide+kernel⟩
end
end Ev
section
open PySem.W
theorem Ev.ag5:J9.wellSaid:=by refine Ev.rE PySem.W.Fast.te9446332074065402090 ?_;kernel_rfl
theorem PySem.Challenge.cw_tc0061_01_holds : PySem.Challenge.rw_tc0061_01.Holds := by
 w_on
 exact holds_law Ev.ag5 λag6=>PySem.W.holds_open (r:=Ev.pw) (q:=Ev.mP) (loose:=Ev.r4) (Xt:=λZ=>ae) (XP:=λZ Z=>True) (Yf:=Ev.obs) (Ya:=Ev.o9) (YP:=Ev.v5) (N:=6000) (d:=Ev.dk.1) (kwd:=Ev.dk.2) Ev.acC Ev.adk Ev.adl (λZ Z=>trivial) (λZ Z Z Z Z=>trivial) Ev.ag2 Ev.hp1 Ev.Dd (λZ Z=>recFacts_nil rfl) rfl ag6 Ev.ok1 Ev.ag4 Ev.z5 (Ev.ag0 _ _ Ev.ag3)
end
