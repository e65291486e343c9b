import PyProof.Rows.All
import Wide.All
import OpenK.AllK
import Wide.FinOn
import PyProof.ExcFactsAll.ValueError
import PySem.Challenge.RW_tc0061_01
set_option bootstrap.genMatcherCode false
set_option linter.all false
set_option genSizeOf false
set_option genInjectivity false
set_option Elab.async false
set_option autoImplicit false
set_option tactic.hygienic false
open And renaming intro→J9
open Array renaming length_toList→eL,ext'→AP,getElem?_toList→AQ,getElem?_eq_getElem→Bg,toList_append→DZ,toList_map→Kl,getElem?_eq_none→Kp,toList_inj→Ks,toList_push→KG,perm_iff_toList_perm→UT,toList_extract→ahL,mem_of_find?_eq_some→ahQ,mem_iff_getElem?→ah0,getElem?_eq_none_iff→ah1,mem_toList_iff→ah2,getElem_mem→ah3
open Bool renaming true→ae,false→ag,and_eq_true_iff→fJ,false_ne_true→f7,and_eq_true→jW,false_eq_true→yx,and_true→EH,or_eq_true_iff→TP,true_and→Uq,or_eq_true→Uy,not_eq_true'→UG,false_and→ahC,and_false→ahN,eq_iff_iff→ain,and_comm→aiA
open Eq renaming symm→je
open ForInStep renaming yield→sN
open Function renaming comp_apply→T9
open Iff renaming rfl→A8
open Int renaming natCast_nonneg→jd,negSucc→qC,ofNat_le→uj,le_trans→AO,negSucc_lt_zero→DX,ofNat→Ea,fmod_eq_emod_of_nonneg→EP,not_lt→Kc,toNat_of_nonneg→Kf,le_of_lt→TH,lt_of_le_of_lt→TJ,toNat_natCast→UC,ofNat_lt→UY,neg_le_neg→aha,min_eq_left→ahb,subNatNat_of_le→ahc,fdiv_eq_ediv_of_nonneg→aii,natCast_pow→aij,sub_eq_add_neg→aik
open LawfulBEq renaming eq_of_beq→pB
open List renaming length_map→aQ,casesOn→bj,length_append→bt,mem_cons→bE,mem_cons_self→bG,range→bM,length_cons→bT,mem_cons_of_mem→cf,map_append→dw,map_map→dJ,mem_singleton→dK,append_assoc→d5,append_nil→eg,all_eq_true→fj,mem_map→fk,mem_append→gp,map_cons→iS,mem_range→lq,getElem?_eq_getElem→lx,getElem?_map→l8,getD_eq_getElem?_getD→m7,length_nil→m9,flatMap_cons→nj,getElem?_eq_some_iff→px,range'→pE,length_take→qG,length_range→qK,map_nil→qT,foldl_cons→sE,mem_of_getElem?→sI,not_mem_nil→sM,lookup_cons→sO,isEmpty_iff→sQ,length_singleton→sR,length_drop→uu,nodup_cons→uC,filter_cons→uH,eq_nil_of_length_eq_zero→wF,lookup→wM,length_filter_le→wV,map_take→wW,filter_append→wX,nodup_nil→yF,mem_append_right→yI,getElem?_append_right→yJ,mem_flatMap→yN,map_drop→yO,mem_filter→yQ,drop_eq_nil_of_le→AR,filterMap_cons→AU,filterMap_map→AV,toList_toArray→AW,mem_append_left→A7,map_reverse→Be,take_left'→Bl,flatten_append→Bm,filter_cons_of_neg→Bp,filter_cons_of_pos→Bq,drop_drop→Eg,any_cons→Ez,nil_append→EM,range_eq_range'→EN,getElem_mem→EO,length_zipIdx→ER,length_range'→ES,take_length→Kh,getElem?_cons_succ→Ki,getElem?_drop→Kj,drop_zero→Kk,forIn_cons→KC,mem_reverse→KI,flatten_cons→K0,map_flatMap→K1,singleton_sublist→K2,mem_zipIdx_iff_getElem?→K3,length_reverse→K4,flatMap_append→K6,filter_filter→K7,drop_nil→TN,length→TX,size_toArray→Ug,getElem?_eq_none→Un,head?_drop→Ux,getElem?_append_left→UD,Nodup→UQ,getElem_inj→UW,drop_append_of_le_length→UX,any_eq_false→UZ,ext_getElem→U1,getElem_map→U2,getElem_pmap→U3,filter_eq_self→U4,mem_of_mem_take→U5,mem_of_mem_drop→U6,flatMap_nil→Va,any_eq_true→Vb,zipIdx_map_snd→Vc,getElem_cons_drop→Vd,mem_range'_1→Vh,zipWith→Vi,take_nil→ahd,replicate→ahf,drop_take→ahp,sum_cons→ahu,length_eq_one_iff→ahz,find?_cons_of_neg→ahA,Pairwise→ahG,findIdx?_cons→ahP,find?_cons→ahT,of_mem_zip→ahU,foldl_append→aif,flatMap_def→ail,filter_eq_nil_iff→aip,take_append_drop→aiq,reverse_cons→air,range'_append→ait,append_inj→aiu,mem_of_mem_tail→aiv,drop_left'→aiw,reverse_reverse→aix,getElem_range→aiy,filter_congr→aiz
open List.cons renaming inj→jf,injEq→EK
open Nat renaming beq→az,le_trans→aF,blt→aU,ble→aX,le_of_ble_eq_true→bc,ble_eq_true_of_le→bO,le_refl→bZ,le_of_lt→d4,zero_le→eo,lt_trans→ew,eq_of_beq_eq_true→fY,lt_of_lt_of_le→hZ,ne_of_lt→iT,lt_of_le_of_lt→jh,mod_lt→jX,zero_add→lj,casesAuxOn→ll,succ_le_succ→m4,beq_refl→nc,le_add_right→nh,ne_of_gt→oF,not_lt→pz,sub_le→qD,lt_irrefl→qE,add_le_add_left→qI,le_of_eq→sF,add_le_add→uk,min_le_right→um,le_of_lt_succ→uq,mul_succ→ur,le_add_left→uG,le_succ→wN,mul_le_mul_left→yu,sub_lt→yv,lt_succ_of_lt→yw,pow_le_pow_right→yP,succ_pos→AX,succ_mul→AY,le_antisymm→A0,le_succ_of_le→Ba,sub_self→Bd,add_comm→Bj,add_assoc→Bk,min_eq_left→DY,le_of_succ_le→D9,toDigits→Ed,lt_succ_self→Ee,le_of_sub_eq_zero→Ef,not_lt_zero→Eu,lt_succ_of_le→EL,rec→J7,le_sub_one_of_lt→J8,add_right_comm→Ka,mul_le_mul_right→Ko,sub_pos_of_lt→KQ,pow_pos→K5,lt_of_not_le→TK,casesOn→TM,add_zero→TZ,le_of_not_lt→Ue,lt_of_sub_eq_succ→Ui,pow_add→U7,mul_assoc→U8,mul_le_mul→U9,add_le_add_right→Ve,one_mul→Vf,succ_le_of_lt→Vg,ne_of_beq_eq_false→ahj,le_of_succ_le_succ→ahk,div_add_mod→ahq,mul_div_le→ahr,toDigits_of_lt_base→ahs,repr_eq_ofList_toDigits→aht,lt_or_eq_of_le→aia,lt_add_of_pos_right→aib,add_sub_of_le→aic,lt_of_le_of_ne→aid,lt_trichotomy→aie,succ_lt_succ→aim,add_sub_cancel_left→ais
open Nat.succ renaming inj→yK
open Ne renaming symm→Es
open Option renaming some→aa,none→af,map_eq_some_iff→sJ,isSome_iff_exists→Ei,map_some→KH,getD_some→Ua,bind_eq_some_iff→ahe,map_eq_none_iff→aio
open Option.some renaming inj→iq
open PUnit renaming unit→UN
open Prod renaming fst→TG
open Prod.mk renaming injEq→yt,inj→EB
open PyProof.Rows renaming seqObj→kH,assign_Name→qO,AllBare→wB,Subscript_→Ep,room_in_shaped→Kb,subscriptTail→Ke,assign_Tuple→KA,isTrue_plain→KX,Attribute_name→KY,listUpdate_at→Uk,seqEpoch_at→Ul,isTrue_and→Ut,isTrue_or→Uu,append_at→UR,ne_str→ahm,lt_int→ahn
open PySem renaming Str→ah,Value→ak,wpAny→ar,Expr→au,model→aw,Shared→ay,wpAny_bind→aB,Addr→aE,Pos→aO,Heap→aP,Stmt→a9,wpAny_pure→bz,Slot→bA,Env→bF,World→cM,Sem→cN,Around→dU,NameKind→eC,Obj→fI,starEach→fZ,mainGlobals→gn,wpAny_execs_cons→gq,backTo→gJ,wpAny_mono→ia,Seg→iu,recursionLimit→iR,wpAny_holding→jg,Flow→ji,builtinsNs→jB,cellsFrom→jC,bindArgs→jD,callWith→jY,callEnvC→j0,CmpOp→kG,wpAny_standAt→kI,wpAny_truthy_bool→lr,sizeLine_eq→lu,assignEach→l7,Tok→mY,Scope→mZ,wpAny_loadPart'→m8,wpAny_of_eq→ou,standAt→ow,execs→oz,wpAny_execs_nil→oA,wpAny_Assign_Name→oB,FuncData→pw,Data→pA,seg_execs_nil→pC,sizeLine→qF,typeLookup→qH,IsPart→qJ,Builtin→qL,storeName→qN,seg_execs_cons→qQ,typeLookup_type→qR,builtinLookup_eq_fast→qS,Comprehension→sD,compareOp→sG,Model→sP,GenState→uo,foldedSetIterable→uE,codeAny→uF,Operator→wC,Result→wG,wpAny_newList→wH,strKind→wI,wpAny_loadName_local→wJ,Callee→wK,wpAny_assignInOrder_more→wL,wpAny_If→wO,seg_wrap→wQ,Program→yr,wpAny_call_entry→yy,wpAny_Name→yA,getMethod→yB,call→yC,wpAny_isTrue_Compare1→yE,wpAny_newObj_type→yL,slicePick→AS,wpAny_loadName_cell→A1,wpAny_loadName_free→A2,methodCallPos→A3,callWith_type→A4,letOwnedTupleGo→A5,comprehension→A9,swappedStores→Bb,assignStores→Bc,firstArgMember→Bf,BindsTo→Bi,binaryOp→D6,call_meets→D7,sliceBounds→Eb,wpAny_newTuple→Eh,Keyword→Ej,truthy→Ek,wpAny_Constant_none→El,wpAny_Constant_bool→Em,evalEach→Eo,wpAny_storeName_local→Et,assignInOrder→Ew,wpAny_assignInOrder_none→Ex,wpAny_rule→Ey,wpAny_Return_some→EA,wpAny_call→EC,wpAny_field→ED,importedModules→EJ,slot_list_getitem→Kg,wpAny_pyIter_list→Km,ExceptHandler→Kv,wpAny_Constant_str→Kx,evalArgs_none→Ky,getMethod_builtin→Kz,wpAny_callSpecial?_slot→KL,intBits_le_64→TQ,typeIs_str→TY,wpAny_getItem_list_slice→Ud,attributeBase→Uo,arm_eval_Call→Ur,wpAny_Constant_int→Us,Slot→Uw,name_of_addr→Uz,wpAny_Expr_any→UA,wpAny_point→UE,wpAny_handled→UH,wpAny_throw→UI,wpAny_isInstance→UJ,isSubtype_stop→UK,setGen_self→UM,wpAny_Expr→US,wpAny_storeName_cell→ahB,wpAny_pyIter_tuple→ahD,codeAny_forLoop_any→ahO
open PySem.Around renaming in1_units→Kq,frames_deeper→UP,under_plainId→ahv
open PySem.BindsTo renaming of_eq→KW
open PySem.Builtin renaming bitAnd→DW
open PySem.Builtin.Generator renaming genWake→ahV
open PySem.Builtin.Int renaming intBits→TS
open PySem.Builtin.List renaming listFitsIndex→TU,listTooLong→TV
open PySem.Builtin.Range renaming rangeSize→Uv,small→ahE,rangeFitsLong→ahF
open PySem.Builtin.Re renaming reRawNat→Bh,reTurnSteps→EF,reRunToEnd→KU,reDrive→KV,reRawOf→UO,reTarget→ah4,reNamed→ah5,reRawItems→ah6,reAnswer→ah7
open PySem.Builtin.SmallTypes renaming nextOf→KP
open PySem.Calls renaming spliced_cons→ir,spliced_nil→jZ,evalArgs_plain→qM,callWith_builtin→uB,callWith_function→Er,Name_function_global→Kw,loadGlobal_builtin→ahx
open PySem.Challenge renaming rw_tc0061_01→J6
open PySem.Code renaming weight→KN,cUnits→KO
open PySem.Expr renaming Name→qP,casesOn→uz
open PySem.F renaming slot_list_lt→Uj,slot_list_add→ahg,entry_list_add→ahh,args_list_add_2→ahi,slot_str_getitem→aho,plainAttrs_list→ahH,slot_list_append→ahI,type_list_append→ahJ,slot_list_insert→ahK,slot_list_extend→ahM,slot_str_ascii_iterator_next→ahW,slot_str_iterator_next→ahX,slot_enumerate_next→ahY
open PySem.Heap renaming get?_push_size→eT,lt_size→jA,get?_push_of_some→jV,Ns→yz,SameBut→yH,size_push→AZ,get?_none_of_le→EE,get?_push_ne→Kr,get?_update_self→KD,nsMap→KZ,size_update→Um,ExtBut→UL,get?_update_ne→ahw
open PySem.Heap.IsSliceOf renaming new→ahy
open PySem.Heap.SameBut renaming update→A6
open PySem.Heap.UpToSlots renaming of_keeps→ah8
open PySem.NameKind renaming free→fM,cell→oy
open PySem.Obj renaming mapSeq→uy,dropName_eq→ahR,dropNameByArray→ahS
open PySem.PyData renaming list→dQ,eqv→dT,int→fX,str→uA,bool→yD,eqvAll→Bo,canLayAll0→aih
open PySem.Sem renaming bind_eq_wrap'→wR,wrap_wrap→wU
open PySem.SeqAt renaming shaped→c9,canLay_of_shaped→D8
open PySem.Shared renaming setGen→ahZ
open PySem.Sre renaming inSet→oC,M→yM,forSearch→EG,Seen→KR
open PySem.Stmt renaming casesOn→KJ
open PySem.Str renaming empty→iw,ofString→sH,ext'→wD,length→TR
open PySem.StrLaws renaming subAt_eq→ahl
open PySem.Txt renaming slice→Uc
open PySem.Value renaming none→uw,ref→yG,isStrOf→ah9
open PySem.W renaming KasT→ag8,kas_sort→ag9
open PySem.Walks renaming list→Uh
open String renaming ofList→Ec
open PySem PySem.Calls PyProof.Rows
namespace Ev
noncomputable abbrev D:=PyData
noncomputable def prog:yr:=J6.row.prog
set_option genCtorIdx false in
inductive bA where
 |val (d:D)
 |own (xs:List D)
 |cU (i:Nat)
 |fN (kvs:List (ah × Int))
noncomputable def bA.ctorIdx(x:bA):Nat:=bA.casesOn (motive:=λ_=>Nat) x (λ_=>0) (λ_=>1) (λ_=>2) λ_=>3
noncomputable abbrev aM:=List (Nat × bA)
noncomputable def get:aM→Nat→Option bA
 | [],_=>af
 | (j,s)::r,i=>cond (az j i) (aa s) (get r i)
theorem uI(x:Nat):get [] x=af:=rfl
theorem pG(x j:Nat)(s:bA)(r:List (Nat × bA)):get ((j,s)::r) x=bif az j x then aa s else get r x:=rfl
noncomputable def put:aM→Nat→bA→aM
 | [],i,s=>[(i,s)]
 | (j,t)::r,i,s=>cond (az j i) ((j,s)::r) ((j,t)::put r i s)
theorem K8(x:Nat)(gK:bA):put [] x gK=[(x,gK)]:=rfl
theorem Br(x:Nat)(gK:bA)(j:Nat)(t:bA)(r:List (Nat × bA)):put ((j,t)::r) x gK=bif az j x then(j,gK)::r else(j,t)::put r x gK:=rfl
noncomputable abbrev Hs:=List (List (ah × ah))
noncomputable abbrev W(α:Type):=Option (α × Bool)
noncomputable abbrev aW:Type:=ak→ay→Prop
noncomputable abbrev cT:Type:=List (ah × eC)
noncomputable abbrev aY:Type:=aE→Prop
noncomputable abbrev ax:Type:=List Nat
noncomputable abbrev l9:Type:=Nat→List D→W D
noncomputable abbrev cP:Type:=List (List Nat)
noncomputable abbrev d6:Type:=List (ah × ah)
noncomputable abbrev gM:Type:=List (ah × Int)
noncomputable abbrev dW:Type:=Nat→aE × aE
noncomputable abbrev gw:Type:=ah→Option ak
noncomputable def W.ret{α:Type}(a:α):W α:=aa (a,ae)
noncomputable def W.need{α:Type}(a:α)(ok:Bool):W α:=aa (a,ok)
noncomputable def W.bind{α β:Type}(m:W α)(f:α→W β):W β:=match m with
 |none=>af
 |some (a,ok)=>match f a with
  |none=>af
  |some (b,oG)=>aa (b,ok&&oG)
inductive ma where
 |add|sub|mul|fdiv|mod|pow|shr|band
inductive uJ where
 |eq|ne|lt|le|gt|ge|isin|ix
inductive Prim where
 |len|str|int|mc|sum|sorted|join|lower
set_option genCtorIdx false in
inductive jj where
 |one (i:Nat)
 |two (i j:Nat)
set_option genCtorIdx false in
mutual
inductive RE where
 |lit (d:D)
 |var (i:Nat)
 |gl (x:ah) (i:Int)
 |bin (op:ma) (a b:RE)
 |and (a b:RE)
 |or (a b:RE)
 |ite (c a b:RE)
 |cmp (a:RE) (cs:md)
 |uK (a:RE)
 |not (a:RE)
 |sub (a i:RE)
 |aG (v:Nat) (i:RE)
 |cw (v:Nat) (lo hi st:RO)
 |slice (a:RE) (lo hi st:RO)
 |bL (v:Nat)
 |list (es:bf)
 |tup (es:bf)
 |comp (loc:ax) (t:jj) (it:RI) (ifs:bf) (gs:kJ) (elt:RE)
 |call (f:Nat) (es:bf)
 |prim (p:Prim) (es:bf)
 |wY (v:Nat) (k d:RE)
 |uL (k:RE) (v:Nat)
 |tok (k d:RE)
 |jE (h:Nat) (k:RE)
 |oH (h:Nat)
 |mf (h:Nat)
inductive bf where
 |nil
 |cons (e:RE) (es:bf)
inductive md where
 |nil
 |cons (op:uJ) (e:RE) (cs:md)
inductive kJ where
 |nil
 |cons (t:jj) (it:RI) (ifs:bf) (gs:kJ)
inductive RI where
 |data (e:RE)
 |dy (b:RE)
 |range (a b:RE)
 |gen (e:RE)
inductive RO where
 |none
 |some (e:RE)
end
noncomputable def bf.ctorIdx(x:bf):Nat:= @bf.casesOn (λZ=>Nat) x 0 λZ Z=>1
end Ev
namespace Ev
noncomputable def lEq:List Nat→List Nat→Bool
 | [],[]=>ae
 | [],_::_=>ag
 |_::_,[]=>ag
 |x::xs,y::ys=>cond (az x y) (lEq xs ys) ag
theorem K9(La:Nat)(xs:ax)(y:Nat)(ys:ax):lEq (La::xs) (y::ys)=bif az La y then lEq xs ys else ag:=rfl
noncomputable def sL(x:ah):List Nat:=x.cps.toList
noncomputable def aj(l:ax):ah:=⟨⟨l⟩⟩
noncomputable def sEq(x y:ah):Bool:=lEq (sL x) (sL y)
noncomputable def Bs(x y:ah):ah:=aj (sL x++sL y)
noncomputable def qU:List Nat→List Nat→Bool
 | [],_=>ae
 |_::_,[]=>ag
 |x::xs,y::ys=>cond (az x y) (qU xs ys) ag
noncomputable def nq(x:ax):List Nat→Bool
 | []=>qU x []
 |y::ys=>cond (qU x (y::ys)) ae (nq x ys)
theorem Vj(x:ax)(y:Nat)(ys:ax):nq x (y::ys)=bif qU x (y::ys)then ae else nq x ys:=rfl
noncomputable def big:Nat:=16777216
noncomputable def small(i:Int):Bool:=aU i.natAbs 18446744073709551616
noncomputable def cY(d:D):Option Int:=match d with| .int i=>aa i|_=>af
noncomputable def dD(d:D):Option ah:=match d with| .str x=>aa x|_=>af
noncomputable def d7(d:D):Option (List D):=match d with| .list xs=>aa xs|_=>af
noncomputable def Vk(d:D):Option (List D):=match d with| .tuple xs=>aa xs|_=>af
noncomputable def Bt(d:D):Option Bool:=match d with| .bool b=>aa b|_=>af
noncomputable def Bu(d:D):Bool:=match d with| .none=>ae|_=>ag
noncomputable def nt(d:D):Option (List D):=match d7 d with|some xs=>aa xs|none=>Vk d
noncomputable def truthy(d:D):Option Bool:=match Bt d with|some b=>aa b|none=>(cY d).map λi=> !(i == 0)
noncomputable def sS(f:Int→Int→W D)(x y:D):W D:=(cY x).bind λa=>(cY y).bind λb=>f a b
noncomputable def uM(x y:D):W D:=match cY x with
 |some a=>(cY y).bind λb=>W.ret (.int (a+b))
 |none=>match dD x with
  |some s=>(dD y).bind λt=>W.need (.str (Bs s t)) (aX ((sL s).length+(sL t).length) big)
  |none=>(d7 x).bind λxs=>(d7 y).bind λys=>W.need (.list (xs++ys)) (aX (xs.length+ys.length) big)
noncomputable def rep{α:Type}(xs:List α):Nat→List α
 |0=>[]
 |n+1=>xs++rep xs n
theorem Lb{α:Type}(xs:List α)(n:Nat):rep xs (n+1)=xs++rep xs n:=rfl
noncomputable def Lc(x y:D):W D:=(cY y).bind λn=>match cY x with
 |some a=>W.need (.int (a * n)) (small a||small n)
 |none=>match dD x with
  |some s=>W.need (.str (aj (rep (sL s) n.toNat))) (aX n.natAbs 1000000&&aX ((sL s).length * n.toNat) big)
  |none=>(d7 x).bind λxs=>W.need (.list (rep xs n.toNat)) (aX n.natAbs 1000000&&aX (xs.length * n.toNat) big)
noncomputable def j3:ma→D→D→W D
 | .add=>uM
 | .sub=>sS λa b=>W.ret (.int (a - b))
 | .mul=>Lc
 | .fdiv=>sS λa b=>W.need (.int (a.fdiv b)) (!(b == 0)&&aU b.natAbs 1073741824)
 | .mod=>sS λa b=>W.need (.int (a.fmod b)) (!(b == 0))
 | .pow=>sS λa n=>W.need (.int (a^n.toNat)) (small a&&decide (0≤n)&&aU n.natAbs 1000000)
 | .shr=>sS λa n=>W.need (.int (a.fdiv (2^n.toNat))) (decide (0≤n))
 | .band=>sS λa b=>W.ret (.int (DW a b))
noncomputable def Bv(a b:D):W Bool:=W.need (dT a b) (c9 a&&c9 b)
noncomputable def wZ(a b:D):W Bool:=match cY a with
 |some i=>(match cY b with|some j=>W.ret (i == j)|none=>Bv a b)
 |none=>match dD a with
  |some x=>(match dD b with|some y=>W.ret (sEq x y)|none=>Bv a b)
  |none=>Bv a b
noncomputable def sT(x y:D):W Bool:=match dD y with
 |some y=>(dD x).bind λx=>W.ret (nq (sL x) (sL y))
 |none=>(nt y).bind λys=>W.need (ys.any λz=>dT z x) (c9 y&&c9 x)
noncomputable def w0(f:Int→Int→Bool)(a b:D):W Bool:=(cY a).bind λi=>(cY b).bind λj=>W.ret (f i j)
noncomputable def sU(m:W Bool):W Bool:=m.map λp=>(!p.1,p.2)
noncomputable def gO:uJ→D→D→W Bool
 | .eq=>wZ
 | .ne=>λa b=>sU (wZ a b)
 | .lt=>w0 λa b=>decide (a<b)
 | .le=>w0 λa b=>decide (a≤b)
 | .gt=>w0 λa b=>decide (a>b)
 | .ge=>w0 λa b=>decide (a≥b)
 | .isin=>sT
 | .ix=>λa b=>sU (sT a b)
noncomputable def yR(i:Int):Option Nat:=cond (decide (0≤i)) (aa i.toNat) af
noncomputable def place(n:Nat)(i:Int):Option Nat:=match i with
 | .ofNat k=>aa k
 | .negSucc k=>cond (aX (k+1) n) (aa (n - (k+1))) af
noncomputable def Ld(xs:List D)(y:D):W D:=(cY y).bind λi=>(place xs.length i).bind λk=>(xs[k]?).bind λd=>W.need d (aU i.natAbs 1000000000)
noncomputable def kK(x y:D):W D:=match nt x with
 |some xs=>Ld xs y
 |none=>(dD x).bind λs=>(cY y).bind λi=>(place (sL s).length i).bind λk=>((sL s)[k]?).bind λc=>W.need (.str (aj [c])) (aU i.natAbs 1000000000)
noncomputable def lo(o:Option Int):Nat:=match o with|none=>0|some i=>i.toNat
noncomputable def jF{α:Type}(k:Nat):Nat→List α→List α
 |_,[]=>[]
 |0,x::xs=>x::jF k k xs
 |j+1,_::xs=>jF k j xs
theorem Le{α:Type}(k j:Nat)(head:α)(xs:List α):jF k (j+1) (head::xs)=jF k j xs:=rfl
noncomputable def Lf(n:Nat)(i:Int):Nat:=match i with
 | .ofNat k=>k
 | .negSucc k=>n - (k+1)
noncomputable def cut{α:Type}(xs:List α)(a b:Option Int):List α:=match b with
 |none=>xs.drop (lo a)
 |some i=>(xs.take (Lf xs.length i)).drop (lo a)
noncomputable def uN(o:Option Int):Bool:=match o with
 |none=>ae
 |some i=>aU i.natAbs 1000000000
noncomputable def ly(o:Option Int):Bool:=match o with
 |none=>ae
 |some i=>decide (0≤i)&&aU i.natAbs 1000000000
noncomputable def ET(i:Int):Option Nat:=cond (decide (0<i)) (aa (i.toNat - 1)) af
noncomputable def Lg(xs:List D)(a b:Option Int)(st:Option Int):W D:=match st with
 |none=>W.need (.list (cut xs a b)) (ly a&&uN b&&aX xs.length big)
 |some k=>(ET k).bind λj=>W.need (.list (jF j 0 (cut xs a b))) (ly a&&uN b&&aX xs.length big)
noncomputable def Vl(x:ah)(a b:Option Int)(st:Option Int):W D:=match st with
 |none=>W.need (.str (aj (cut (sL x) a b))) (ly a&&uN b&&aX (sL x).length big)
 |some _=>af
noncomputable def ny(x:D)(a b st:Option Int):W D:=match d7 x with
 |some xs=>Lg xs a b st
 |none=>(dD x).bind λx=>Vl x a b st
noncomputable def Bw:List D→Option (List Int)
 | []=>aa []
 |d::r=>(cY d).bind λi=>(Bw r).bind λl=>aa (i::l)
noncomputable def Bx:List D→Option (List ah)
 | []=>aa []
 |d::r=>(dD d).bind λi=>(Bx r).bind λl=>aa (i::l)
noncomputable def uO:Nat→Nat→List Nat
 |0,_=>[]
 |f+1,n=>cond (aU n 10) [48+n] (uO f (n/10)++[48+n%10])
theorem Vm(x f:Nat):uO (f+1) x=bif aU x 10 then [48+x]else uO f (x/10)++[48+x%10]:=rfl
noncomputable def cQ(i:Int):List Nat:=match i with
 | .ofNat n=>uO 20 n
 | .negSucc n=>45::uO 20 (n+1)
noncomputable def uP:Nat→List Nat→Option Nat
 |acc,[]=>aa acc
 |acc,c::cs=>cond (aX 48 c&&aX c 57) (uP (acc * 10+(c - 48)) cs) af
theorem Lh(x c:Nat)(cs:ax):uP x (c::cs)=bif aX 48 c&&aX c 57 then uP (x * 10+(c - 48)) cs else af:=rfl
noncomputable def EU:List Nat→Option Int
 | []=>af
 |45::c::cs=>match uP 0 (c::cs)with|some n=>aa (-(n:Int))|none=>af
 |c::cs=>match uP 0 (c::cs)with|some n=>aa (n:Int)|none=>af
noncomputable def lz(sep:ax):List (List Nat)→List Nat
 | []=>[]
 | [x]=>x
 |x::y::r=>x++sep++lz sep (y::r)
theorem Vn(sep:ax):lz sep []=[]:=rfl
theorem Vo(sep gK:ax):lz sep [gK]=gK:=rfl
theorem Vp(sep gK y:ax)(r:cP):lz sep (gK::y::r)=gK++sep++lz sep (y::r):=rfl
noncomputable def mh(l:ax):Bool:=l.all λc=>aU c 128
noncomputable def uQ:List Int→Int
 | []=>0
 |x::r=>x+uQ r
noncomputable def Li:ah:=aj [84,114,117,101]
noncomputable def Lj:ah:=aj [70,97,108,115,101]
end Ev
namespace Ev
set_option genCtorIdx false in
inductive RT where
 |val (e:RE)
 |nz
 |jk
 |fN (kvs:gM)
set_option genCtorIdx false in
mutual
inductive RS where
 |fz (is:ax) (s:RS)
 |asg (i:Nat) (e:RE)
 |own (i:Nat) (e:RE)
 |jk (i:Nat)
 |uR (is:ax) (e:RE)
 |mul (is:ax) (ts:List RT)
 |aug (i:Nat) (op:ma) (e:RE)
 |app (i:Nat) (e:RE)
 |ins (i:Nat) (a b:RE)
 |ext (i:Nat) (e:RE)
 |yS (i:Nat)
 |qV (i f h:Nat) (es:bf)
 |yT (h:Nat) (k v:RE) (i:Nat) (e:RE)
 |ite (c:RE) (a b:bP)
 |loop (t:jj) (it:RI) (body:bP)
 |ret (e:RE)
inductive bP where
 |nil
 |cons (s:RS) (ss:bP)
end
noncomputable def lA{α β:Type}(f:α→W (List β)):List α→W (List β)
 | []=>W.ret []
 |x::xs=>W.bind (f x) λys=>W.bind (lA f xs) λzs=>W.ret (ys++zs)
noncomputable def two?:List D→Option (D × D)
 | []=>af
 |a::r=>match r with
  | []=>af
  |b::q=>match q with
   | []=>aa (a,b)
   |_::_=>af
noncomputable def eU(t:jj)(x:D)(ρ:aM):Option aM:=match t with
 | .one i=>aa (put ρ i (.val x))
 | .two i j=>(nt x).bind λl=>(two? l).bind λp=>aa (put (put ρ i (.val p.1)) j (.val p.2))
noncomputable def rem(is:ax):aM→aM
 | []=>[]
 | (i,s)::r=>cond (is.any (az i)) (rem is r) ((i,s)::rem is r)
theorem Vq(is:ax):rem is []=[]:=rfl
theorem EV(is:ax)(i:Nat)(s:bA)(r:List (Nat × bA)):rem is ((i,s)::r)=bif List.any is (az i)then rem is r else(i,s)::rem is r:=rfl
noncomputable def kL:Nat→Nat→List D
 |_,0=>[]
 |i,n+1=>.int i::kL (i+1) n
theorem Vr(x n:Nat):kL x (n+1)=fX ↑x::kL (x+1) n:=rfl
noncomputable def bV:Nat→Bool→List Nat→List (Nat × List Nat)
 |_,ag,[]=>[]
 |i,ae,[]=>[(i - 1,[92])]
 |i,ae,c::cs=>(i,[92,c])::bV (i+1) ag cs
 |i,ag,c::cs=>cond (az c 92) (bV (i+1) ae cs) ((i,[c])::bV (i+1) ag cs)
theorem EW(x c:Nat)(cs:ax):bV x ag (c::cs)=bif az c 92 then bV (x+1) ae cs else(x,[c])::bV (x+1) ag cs:=rfl
noncomputable def pH(l:ax):List D:=(bV 0 ag l).map λp=>.tuple [.int p.1,.str (aj p.2)]
noncomputable def mi(EX:gM)(x:ah)(d:D):D:=match EX with
 | []=>d
 | (k,v)::r=>cond (sEq k x) (.int v) (mi r x d)
theorem Vt(x:ah)(d:D)(k:ah)(v:Int)(r:gM):mi ((k,v)::r) x d=bif sEq k x then fX v else mi r x d:=rfl
noncomputable def qW(EX:gM)(x:ah):Bool:=match EX with
 | []=>ag
 | (k,_)::r=>cond (sEq k x) ae (qW r x)
theorem Vu(x k:ah)(v:Int)(r:gM):qW ((k,v)::r) x=bif sEq k x then ae else qW r x:=rfl
noncomputable def da(l:ax):List Nat:=l.map λc=>cond (aX 65 c&&aX c 90) (c+32) c
noncomputable def iy(x:ah):Bool:=(sL x).all λc=>aX 32 c&&aU c 127
noncomputable def keyOk(x:ah):Bool:=iy x&&aX (sL x).length 1000000
noncomputable def qX(t:d6):Bool:=t.all (λp=>keyOk p.1)&&aX t.length 1000000
noncomputable def f9(t:d6)(x:ax):List D:=match t with
 | []=>[]
 | (k,v)::r=>cond (lEq (da (sL k)) (da x)) (.str v::f9 r x) (f9 r x)
noncomputable def Ll(xs:List D):W D:=W.need (.int xs.length) (aX xs.length 1000000)
noncomputable def sV(d:D):W D:=match d7 d with
 |some xs=>Ll xs
 |none=>(dD d).bind λx=>W.need (.int (sL x).length) (aX (sL x).length 1000000)
noncomputable def EY(d:D):W D:=match cY d with
 |some i=>W.need (.str (aj (cQ i))) (aU i.natAbs 1000000000)
 |none=>(Bt d).bind λb=>W.ret (.str (cond b Li Lj))
noncomputable def Lm(d:D):W D:=(dD d).bind λx=>(EU (sL x)).bind λi=>W.need (.int i) (aX (sL x).length 18)
noncomputable def yU(d:D):W D:=match cY d with
 |some _=>W.ret (.bool ae)
 |none=>(d7 d).bind λZ=>W.ret (.bool ag)
noncomputable def Ln(d:D):W D:=(d7 d).bind λxs=>(Bw xs).bind λl=>W.need (.int (uQ l)) (l.all (λi=>aU i.natAbs 1000000000)&&aU l.length 1000000)
noncomputable def EZ(d:D):W D:=(dD d).bind λx=>W.need (.str (aj (da (sL x)))) (mh (sL x)&&aX (sL x).length 1000000)
noncomputable def E0(x y:D):W D:=(dD x).bind λx=>(d7 y).bind λys=>(Bx ys).bind λl=>
 W.need (.str (aj (lz (sL x) (l.map sL)))) (aX (l.foldl (λn y=>n+(sL y).length+(sL x).length) 0) 1000000)
noncomputable def nA(f:D→D→Option Bool):List D→List D→Option Bool
 | [],ys=>aa (!ys.isEmpty)
 |x::xs,ys=>match ys with
  | []=>aa ag
  |y::ys=>cond (c9 x&&c9 y) (cond (dT x y) (nA f xs ys) (f x y)) af
noncomputable def ltI(x y:D):Option Bool:=(cY x).bind λa=>(cY y).map λb=>decide (a<b)
noncomputable def ltN(n:Nat):D→D→Option Bool:=J7 ltI (λZ f x y=>match d7 x with
 |some xs=>(d7 y).bind λys=>nA f xs ys
 |none=>ltI x y) n
noncomputable def mj{α:Type}(f:Nat→Nat→Option Bool)(t:ag8 α):Option α:=ag8.rec (motive:=λZ=>Option α) aa (λi j Z ih=>(f i j).bind ih) t
noncomputable def uS(d:D):W D:=(d7 d).bind λxs=>cond (aX xs.length 1) (W.need (.list xs) (xs.all c9))
 ((mj (λi j=>(xs[i]?).bind λx=>(xs[j]?).bind λy=>ltN 2 x y) (ag9 xs.length)).bind λp=>
  W.need (.list (p.toList.map λi=>xs.getD i .none)) (aU xs.length 64&&xs.all c9&&(xs.all (λx=>(cY x).isSome)||xs.all (λx=>(d7 x).isSome))))
noncomputable def uT(f:D→W D):List D→W D
 | []=>af
 |a::r=>match r with| []=>f a|_::_=>af
noncomputable def Vv(f:D→D→W D):List D→W D
 | []=>af
 |a::r=>match r with| []=>af|b::q=>match q with| []=>f a b|_::_=>af
noncomputable def gQ:Prim→List D→W D
 | .len=>uT sV
 | .str=>uT EY
 | .int=>uT Lm
 | .mc=>uT yU
 | .sum=>uT Ln
 | .sorted=>uT uS
 | .join=>Vv E0
 | .lower=>uT EZ
noncomputable def md.isNil:md→Bool
 | .nil=>ae
 | .cons .. =>ag
noncomputable def bA.v(s:bA):Option D:=match s with| .val d=>aa d|_=>af
noncomputable def bA.o(s:bA):Option (List D):=match s with| .own xs=>aa xs|_=>af
noncomputable def bA.c(s:bA):Option (List (ah × Int)):=match s with| .fN l=>aa l|_=>af
noncomputable def bA.h(s:bA):Option Nat:=match s with| .cU i=>aa i|_=>af
noncomputable def pI(ρ:aM)(i:Nat):Option D:=(get ρ i).bind bA.v
noncomputable def nB(ρ:aM)(i:Nat):Option (List D):=(get ρ i).bind bA.o
noncomputable def jG(ρ:aM)(i:Nat):Option D:=match nB ρ i with|some xs=>aa (.list xs)|none=>pI ρ i
noncomputable def w4(ρ:aM)(i:Nat):Option Nat:=(get ρ i).bind bA.h
noncomputable def oI(ρ:aM)(i:Nat):Option (List (ah × Int)):=(get ρ i).bind bA.c
noncomputable def ml(hs:Hs)(ρ:aM)(i:Nat):Option (List (ah × ah)):=(w4 ρ i).bind λj=>hs[j]?
section
variable(tk:gM)(C:l9)(hs:Hs)
mutual
noncomputable def ev:RE→aM→W D
 | .lit d,_=>W.ret d
 | .var i,ρ=>(pI ρ i).bind W.ret
 | .gl _ i,_=>W.ret (.int i)
 | .bin op a b,ρ=>W.bind (ev a ρ) λx=>W.bind (ev b ρ) λy=>j3 op x y
 | .and a b,ρ=>W.bind (ev a ρ) λx=>(truthy x).bind λq=>cond q (ev b ρ) (W.ret x)
 | .or a b,ρ=>W.bind (ev a ρ) λx=>(truthy x).bind λq=>cond q (W.ret x) (ev b ρ)
 | .ite c a b,ρ=>W.bind (ev c ρ) λx=>(truthy x).bind λq=>cond q (ev a ρ) (ev b ρ)
 | .cmp a cs,ρ=>W.bind (ev a ρ) λx=>yV x cs ρ
 | .uK a,ρ=>W.bind (ev a ρ) λx=>W.ret (.bool (Bu x))
 | .not a,ρ=>W.bind (ev a ρ) λx=>(truthy x).bind λq=>W.ret (.bool (!q))
 | .sub a i,ρ=>W.bind (ev a ρ) λx=>W.bind (ev i ρ) λy=>kK x y
 | .aG v i,ρ=>(jG ρ v).bind λx=>W.bind (ev i ρ) λy=>kK x y
 | .cw v l h s,ρ=>(jG ρ v).bind λx=>W.bind (kM l ρ) λl=>W.bind (kM h ρ) λh=>W.bind (kM s ρ) λs=>ny x l h s
 | .slice a l h s,ρ=>W.bind (ev a ρ) λx=>W.bind (kM l ρ) λl=>W.bind (kM h ρ) λh=>W.bind (kM s ρ) λs=>ny x l h s
 | .bL v,ρ=>(jG ρ v).bind sV
 | .list es,ρ=>W.bind (eD es ρ) λxs=>W.ret (.list xs)
 | .tup es,ρ=>W.bind (eD es ρ) λxs=>W.ret (.tuple xs)
 | .comp loc t it ifs gs elt,ρ=>W.bind (fO it ρ) λxs=>W.bind (lA (λx=>(eU t x (rem loc ρ)).bind λρ'=>
   W.bind (oJ ifs ρ') λb=>cond b (w5 gs (λρ'=>ev elt ρ') ρ') (W.ret [])) xs) λxs=>W.need (.list xs) (aX xs.length 1000000)
 | .call f es,ρ=>W.bind (eD es ρ) λxs=>C f xs
 | .prim p es,ρ=>W.bind (eD es ρ) λxs=>gQ p xs
 | .wY v k d,ρ=>(oI ρ v).bind λkvs=>W.bind (ev k ρ) λx=>W.bind (ev d ρ) λy=>(dD x).bind λx=>W.ret (mi kvs x y)
 | .uL k v,ρ=>(oI ρ v).bind λkvs=>W.bind (ev k ρ) λx=>(dD x).bind λx=>W.ret (.bool (!qW kvs x))
 | .tok k d,ρ=>W.bind (ev k ρ) λx=>W.bind (ev d ρ) λy=>(dD x).bind λx=>W.ret (mi tk x y)
 | .jE v k,ρ=>(ml hs ρ v).bind λt=>W.bind (ev k ρ) λx=>(dD x).bind λx=>W.need (.list (f9 t (sL x))) (keyOk x&&qX t)
 | .oH v,ρ=>(ml hs ρ v).bind λt=>W.need (.list (t.map λp=>.tuple [.str p.1,.str p.2])) (aX t.length 1000000)
 | .mf v,ρ=>(ml hs ρ v).bind λt=>W.need (.list (t.map λp=>.str p.1)) (aX t.length 1000000)
noncomputable def eD:bf→aM→W (List D)
 | .nil,_=>W.ret []
 | .cons e es,ρ=>W.bind (ev e ρ) λx=>W.bind (eD es ρ) λxs=>W.ret (x::xs)
noncomputable def yV:D→md→aM→W D
 |_,.nil,_=>af
 |x,.cons op e cs,ρ=>W.bind (ev e ρ) λy=>W.bind (gO op x y) λb=>cond cs.isNil (W.ret (.bool b)) (cond b (yV y cs ρ) (W.ret (.bool ag)))
noncomputable def w5:kJ→(aM→W D)→aM→W (List D)
 | .nil,elt,ρ=>W.bind (elt ρ) λx=>W.ret [x]
 | .cons t it ifs gs,elt,ρ=>W.bind (fO it ρ) λxs=>lA (λx=>(eU t x ρ).bind λρ'=>W.bind (oJ ifs ρ') λb=>cond b (w5 gs elt ρ') (W.ret [])) xs
noncomputable def oJ:bf→aM→W Bool
 | .nil,_=>W.ret ae
 | .cons e es,ρ=>W.bind (ev e ρ) λx=>(truthy x).bind λq=>cond q (oJ es ρ) (W.ret ag)
noncomputable def fO:RI→aM→W (List D)
 | .data e,ρ=>W.bind (ev e ρ) λx=>(nt x).bind W.ret
 | .dy b,ρ=>W.bind (ev b ρ) λy=>(cY y).bind λj=>W.need (kL 0 j.toNat) (aU j.natAbs 1000000)
 | .range a b,ρ=>W.bind (ev a ρ) λx=>W.bind (ev b ρ) λy=>(cY x).bind λi=>(cY y).bind λj=>
   W.need (kL i.toNat (j - i).toNat) (decide (0≤i)&&aU i.natAbs 1000000&&aU j.natAbs 1000000)
 | .gen e,ρ=>W.bind (ev e ρ) λx=>(dD x).bind λs=>W.need (pH (sL s)) (aX (sL s).length 1000000)
noncomputable def kM:RO→aM→W (Option Int)
 | .none,_=>W.ret af
 | .some e,ρ=>W.bind (ev e ρ) λx=>(cY x).bind λi=>W.ret (aa i)
end
end
noncomputable abbrev nC:=Nat→List D→List (ah × ah)→W (D × List (ah × ah))
set_option genCtorIdx false in
inductive Fl where
 |next (ρ:aM) (hs:Hs)
 |ret (d:D) (hs:Hs)
noncomputable def Fl.ctorIdx(x:Fl):Nat:=Fl.casesOn (motive:=λZ=>Nat) x (λZ Z=>0) λZ Z=>1
noncomputable def dX(is:ax):aM→aM
 | []=>[]
 | (i,s)::r=>match s with
  | .own xs=>(i,cond (is.any (az i)) (.val (.list xs)) (.own xs))::dX is r
  |s=>(i,s)::dX is r
noncomputable def jl{α:Type}(x:α):Nat→List α→List α
 |0,l=>x::l
 |n+1,l=>match l with
  | []=>[x]
  |y::r=>y::jl x n r
noncomputable def uU:List Nat→List D→aM→Option aM
 | [],xs,ρ=>match xs with| []=>aa ρ|_::_=>af
 |i::is,xs,ρ=>match xs with| []=>af|x::xs=>uU is xs (put ρ i (.val x))
noncomputable def dE(f:D→aM→Hs→W Fl):List D→aM→Hs→W Fl
 | [],ρ,hs=>W.ret (.next ρ hs)
 |x::xs,ρ,hs=>W.bind (f x ρ hs) λfl=>match fl with
  | .next ρ' hs'=>dE f xs ρ' hs'
  | .ret d hs'=>W.ret (.ret d hs')
noncomputable def setAt{α:Type}(x:α):Nat→List α→List α
 |_,[]=>[]
 |0,_::l=>x::l
 |n+1,y::r=>y::setAt x n r
theorem Lo{α:Type}(x:α)(gK:Nat):setAt x gK []=[]:=by cases gK<;>rfl
section
variable(tk:gM)(C:l9)(CH:Option nC)
noncomputable def lB:List RT→aM→Hs→W (List bA × Hs)
 | [],_,hs=>W.ret ([],hs)
 |t::ts,ρ,hs=>match t with
  | .val e=>W.bind (ev tk C hs e ρ) λx=>W.bind (lB ts ρ hs) λp=>W.ret (.val x::p.1,p.2)
  | .nz=>W.bind (lB ts ρ hs) λp=>W.ret (.own []::p.1,p.2)
  | .fN kvs=>W.bind (lB ts ρ hs) λp=>W.ret (.fN kvs::p.1,p.2)
  | .jk=>W.bind (lB ts ρ (hs++[[]])) λp=>W.ret (.cU hs.length::p.1,p.2)
noncomputable def yW:List Nat→List bA→aM→Option aM
 | [],xs,ρ=>match xs with| []=>aa ρ|_::_=>af
 |i::is,xs,ρ=>match xs with| []=>af|x::xs=>yW is xs (put ρ i x)
mutual
noncomputable def ex:RS→aM→Hs→W Fl
 | .fz is s,ρ,hs=>ex s (dX is ρ) hs
 | .asg i e,ρ,hs=>W.bind (ev tk C hs e ρ) λx=>W.ret (.next (put ρ i (.val x)) hs)
 | .own i e,ρ,hs=>W.bind (ev tk C hs e ρ) λx=>(d7 x).bind λxs=>W.ret (.next (put ρ i (.own xs)) hs)
 | .jk i,ρ,hs=>W.ret (.next (put ρ i (.cU hs.length)) (hs++[[]]))
 | .uR is e,ρ,hs=>W.bind (ev tk C hs e ρ) λx=>(nt x).bind λxs=>(uU is xs ρ).bind λρ'=>W.ret (.next ρ' hs)
 | .mul is ts,ρ,hs=>W.bind (lB tk C ts ρ hs) λp=>(yW is p.1 ρ).bind λρ'=>W.ret (.next ρ' p.2)
 | .aug i op e,ρ,hs=>(pI ρ i).bind λx=>W.bind (ev tk C hs e ρ) λy=>match d7 x with
  |some _=>af
  |none=>W.bind (j3 op x y) λz=>W.ret (.next (put ρ i (.val z)) hs)
 | .app i e,ρ,hs=>(nB ρ i).bind λxs=>W.bind (ev tk C hs e ρ) λx=>W.bind (W.need () (aU xs.length 1000000)) λZ=>W.ret (.next (put ρ i (.own (xs++[x]))) hs)
 | .ins i a e,ρ,hs=>(nB ρ i).bind λxs=>W.bind (ev tk C hs a ρ) λx=>W.bind (ev tk C hs e ρ) λy=>(cY x).bind λk=>(yR k).bind λk=>
   W.bind (W.need () (aU xs.length 1000000&&aX k xs.length)) λZ=>W.ret (.next (put ρ i (.own (jl y k xs))) hs)
 | .ext i e,ρ,hs=>(nB ρ i).bind λxs=>W.bind (ev tk C hs e ρ) λy=>(d7 y).bind λys=>W.bind (W.need () (aX (xs.length+ys.length) 1000000)) λZ=>W.ret (.next (put ρ i (.own (xs++ys))) hs)
 | .yS v,ρ,hs=>(ml hs ρ v).bind λt=>W.need (.next ρ hs) (aU t.length 1000000)
 | .qV i f v es,ρ,hs=>(w4 ρ v).bind λj=>(hs[j]?).bind λt=>W.bind (eD tk C hs es ρ) λxs=>(CH.bind λg=>W.bind (g f xs t) λp=>W.ret (.next (put ρ i (.val p.1)) (setAt p.2 j hs)))
 | .yT v k e i a,ρ,hs=>CH.bind λZ=>(w4 ρ v).bind λj=>(hs[j]?).bind λt=>W.bind (ev tk C hs k ρ) λx=>W.bind (ev tk C hs e ρ) λy=>(dD x).bind λx=>(dD y).bind λy=>
   W.bind (W.need () (mh (sL x)&&keyOk y&&aU t.length 1000000)) λZ=>cond (iy x)
    ((nB ρ i).bind λxs=>W.bind (ev tk C (setAt (t++[(x,y)]) j hs) a ρ) λz=>W.bind (W.need () (aU xs.length 1000000)) λZ=>W.ret (.next (put ρ i (.own (xs++[z]))) (setAt (t++[(x,y)]) j hs)))
    (W.bind (W.need () (az (sL x).length 1)) λZ=>W.ret (.next ρ hs))
 | .ite c a b,ρ,hs=>W.bind (ev tk C hs c ρ) λx=>(truthy x).bind λq=>cond q (cb a ρ hs) (cb b ρ hs)
 | .loop t it body,ρ,hs=>W.bind (fO tk C hs it ρ) λxs=>dE (λx ρ hs=>(eU t x ρ).bind λρ'=>cb body ρ' hs) xs ρ hs
 | .ret e,ρ,hs=>W.bind (ev tk C hs e ρ) λx=>W.ret (.ret x hs)
noncomputable def cb:bP→aM→Hs→W Fl
 | .nil,ρ,hs=>W.ret (.next ρ hs)
 | .cons s ss,ρ,hs=>W.bind (ex s ρ hs) λfl=>match fl with
  | .next ρ' hs'=>cb ss ρ' hs'
  | .ret d hs'=>W.ret (.ret d hs')
end
end
structure Fn where
 params:List Nat
 body:bP
noncomputable def oK:List Nat→List D→aM→Option aM
 | [],xs,ρ=>match xs with| []=>aa ρ|_::_=>af
 |i::is,xs,ρ=>match xs with| []=>af|x::xs=>oK is xs (ρ++[(i,.val x)])
section
variable(tk:gM)(fns:Nat→Option Fn)
noncomputable def sW:List Nat→Option (List Nat × Nat)
 | []=>af
 |i::r=>match sW r with
  |none=>aa ([],i)
  |some (l,j)=>aa (i::l,j)
theorem Lp(y:Nat)(ys:ax):sW (y::ys)=match sW ys with|none=>aa ([],y)|some (l,j)=>aa (y::l,j):=rfl
noncomputable abbrev uV:=Nat→List D→W D
noncomputable def By(C:uV)(CH:Option nC):uV:=λf args=>(fns f).bind λfn=>(oK fn.params args []).bind λρ=>W.bind (cb tk C CH fn.body ρ []) λfl=>match fl with
  | .ret d _=>W.ret d
  | .next _ _=>W.ret .none
noncomputable def qY(C:uV):nC:=λf args t=>(fns f).bind λfn=>(sW fn.params).bind λq=>(oK q.1 args []).bind λρ=>
 W.bind (cb tk C (aa λZ Z Z=>af) fn.body (ρ++[(q.2,.cU 0)]) [t]) λfl=>match fl with
  | .ret d hs=>(hs[0]?).bind λt=>W.ret (d,t)
  | .next _ hs=>(hs[0]?).bind λt=>W.ret (.none,t)
noncomputable def run(n:Nat):uV:=J7 (λZ Z=>af) (λZ C=>By tk fns C af) n
noncomputable def E1(n:Nat):uV:=By tk fns (run tk fns n) (aa (qY tk fns (run tk fns n)))
end
end Ev
namespace Ev
theorem iP{α β:Type _}{a b:α}{c d:β}{P:Prop}(h:(a,c)=(b,d))(k:a=b→c=d→P):P:=k (congrArg TG h) (congrArg Prod.snd h)
theorem iJ{α:Type _}{a b:α}(h:aa a=aa b):a=b:=iq h
theorem Vw{α β:Type _}{a b:α}{c d:β}(h:aa (a,c)=aa (b,d)):a=b:=congrArg TG (iq h)
theorem zN{α:Type _}{a:α}{P:Prop}(h:af=aa a):P:=nomatch h
theorem zS{α:Type _}{a:α}{P:Prop}(h:aa a=af):P:=nomatch h
theorem zF{P:Prop}(h:ag):P:=nomatch h
theorem zT{P:Prop}(h:ae=ag):P:=nomatch h
theorem zC{α:Type _}{a:α}{l:List α}{P:Prop}(h:[]=a::l):P:=nomatch h
theorem zD{α:Type _}{a:α}{l:List α}{P:Prop}(h:a::l=[]):P:=nomatch h
@[elab_as_elim] theorem rE{α:Sort _}{motive:α→Prop}{a b:α}(h:a=b)(k:motive b):motive a:=h▸k
@[elab_as_elim] theorem rS{α:Sort _}{motive:α→Prop}{a b:α}(h:b=a)(k:motive b):motive a:=h▸k
variable {x:ah}{i n k j m:Nat}{ρ ρ':aM}{d y:D}{s s' aT sb ai:ay}{U Ku U' Ub B:aY}{p pos q ap p2:aO}{env:bF}{α β:Type}{a l f fC:aE}{hs:Hs}{fd uW:pw}{E Q:aW}{G p1:Prop}{T1 T2 T3 T4:Sort _}{C:l9}{vs:List ak}{args es ifs ts:List au}{row is:ax}{t:mY}{r:RE}{rs:bf}{b:Bool}{sl:bA}{ks:cT}{scope:mZ}{it elt:au}{ds:List D}{tg:jj}{body:List a9}{A:dU}{va vb:ak}{h':aP}{tk:gM}{st:a9}{p3:T1→Prop}{CH:Option nC}{pc:Nat→aO}{gs gens:List sD}
theorem E2{x:Int}(h:x.natAbs≤n): -(n:Int)≤x∧x≤n:=by
 cases x with
 |ofNat m=>exact⟨AO (Int.neg_nonpos_of_nonneg (jd n)) (jd m),uj.mpr h⟩
 |negSucc m=>exact⟨aha (uj.mpr h),AO (TH (DX m)) (jd n)⟩
theorem qZ{x a b:Int}(h:x.natAbs≤n)(ha:a≤ -(n:Int))(hb:(n:Int)<b):a≤x∧x<b:=⟨AO ha (E2 h).1,TJ (E2 h).2 hb⟩
theorem Lq(n k:Nat):(max 0 (min (k:Int) (n:Int))).toNat=min k n:=by
 rw[Int.max_eq_right (Int.le_min.mpr ⟨jd k,jd n⟩)];rcases Nat.le_total k n with h|h
 ·rw[DY h,ahb (uj.mpr h)];rfl
 ·rw[Nat.min_eq_right h,Int.min_eq_right (uj.mpr h)];rfl
theorem Vx(n k:Nat):(max 0 (min (qC k+(n:Int)) (n:Int))).toNat=min (n - (k+1)) n:=by
 by_cases h:k+1≤n
 ·rw[show qC k+(n:Int)=((n - (k+1):Nat):Int)from ahc h];exact Lq n _
 ·have h':=TK h;have hn:=TH (DX (Nat.pred (k+1 - n)));rw[show qC k+(n:Int)=qC (Nat.pred (k+1 - n))from Int.subNatNat_of_lt h',Nat.sub_eq_zero_of_le (d4 h'),Nat.zero_min,ahb (AO hn (jd n)),Int.max_eq_left hn];rfl
theorem Lr(h:m+1≤n):qC m+(n:Int)=((n - (m+1):Nat):Int):=ahc h
theorem Vy(h:i<j)(h':j<m):m - 1 - j<m - 1 - i:=Nat.sub_lt_sub_left (hZ h (J8 h')) h
theorem Lu{a c:Nat}(h:a≤m)(hc:m+m≤c):a - k+min j a≤c:=aF (uk (aF (qD ..) h) (aF (um ..) h)) hc
theorem Vz:∀n<4,n=0∨n=1∨n=2∨n=3:=by decide
theorem Lv{a b:Nat}(h:a+(k+1)≤b+k):a<b:=Nat.lt_of_add_lt_add_right (show a+k<b+k from h)
theorem wE{m:W α}{f:α→W β}{b:β}(h:W.bind m f=aa (b,ae))(k:∀a,m=aa (a,ae)→f a=aa (b,ae)→G):G:=by
 match m with
 |none=>exact nomatch h
 |some (a,ok)=>
  have h:(match f a with|none=>af|some (b,oG)=>aa (b,ok&&oG))=aa (b,ae):=h
  match q:f a with
  |none=>rw[q]at h;exact nomatch h
  |some (b',oG)=>
   rw[q]at h;have h2:=congrArg Prod.snd (iq h);have h1:=congrArg TG (iq h);have:ok∧oG:=by simpa using h2
   refine k a (by rw[this.1]) ?_;rw[q,this.2];exact congrArg (λx=>aa (x,ae)) h1
theorem oE{m:Option α}{f:α→Option β}{b:β}(h:m.bind f=aa b)(k:∀a,m=aa a→f a=aa b→G):G:=by
 match m with
 |none=>exact nomatch h
 |some a=>exact k a rfl h
theorem xA{p2:Prop}(h:p1∧p2)(k:p1→p2→G):G:=k h.1 h.2
theorem xE{p1:T1→Prop}(h:∃a1,p1 a1)(k:∀a1,p1 a1→G):G:=h.elim λa1 h1=>k a1 h1
theorem mq{p2 p3:Prop}(h:p1∧p2∧p3)(k:p1→p2→p3→G):G:=k h.1 h.2.1 h.2.2
theorem aD{p1 p2:T1→Prop}(h:∃a1,p1 a1∧p2 a1)(k:∀a1,p1 a1→p2 a1→G):G:=h.elim λa1 h1=>k a1 h1.1 h1.2
theorem lC{p1:T1→T2→Prop}(h:∃a1 a2,p1 a1 a2)(k:∀a1 a2,p1 a1 a2→G):G:=h.elim λa1 h1=>h1.elim λa2 h2=>k a1 a2 h2
theorem lD{p2:T1→Prop}(h:p1∧∃a1,p2 a1)(k:p1→∀a1,p2 a1→G):G:=h.2.elim λa1 h1=>k h.1 a1 h1
theorem yX{p2 p3 p4:Prop}(h:p1∧p2∧p3∧p4)(k:p1→p2→p3→p4→G):G:=k h.1 h.2.1 h.2.2.1 h.2.2.2
theorem j4{p1 p2:T1→Prop}(h:∃a1,p1 a1∧p2 a1∧p3 a1)(k:∀a1,p1 a1→p2 a1→p3 a1→G):G:=h.elim λa1 h1=>k a1 h1.1 h1.2.1 h1.2.2
theorem gy{p1 p2:T1→T2→Prop}(h:∃a1 a2,p1 a1 a2∧p2 a1 a2)(k:∀a1 a2,p1 a1 a2→p2 a1 a2→G):G:=h.elim λa1 h1=>h1.elim λa2 h2=>k a1 a2 h2.1 h2.2
theorem VA{p1:T1→T2→T3→Prop}(h:∃a1 a2 a3,p1 a1 a2 a3)(k:∀a1 a2 a3,p1 a1 a2 a3→G):G:=h.elim λa1 h1=>h1.elim λa2 h2=>h2.elim λa3 h3=>k a1 a2 a3 h3
theorem uX{p2:T1→Prop}(h:p1∧∃a1,p2 a1∧p3 a1)(k:p1→∀a1,p2 a1→p3 a1→G):G:=h.2.elim λa1 h1=>k h.1 a1 h1.1 h1.2
theorem E3{p2 p3 p4 p5:Prop}(h:p1∧p2∧p3∧p4∧p5)(k:p1→p2→p3→p4→p5→G):G:=k h.1 h.2.1 h.2.2.1 h.2.2.2.1 h.2.2.2.2
theorem gz{p1 p2 p4:T1→Prop}(h:∃a1,p1 a1∧p2 a1∧p3 a1∧p4 a1)(k:∀a1,p1 a1→p2 a1→p3 a1→p4 a1→G):G:=h.elim λa1 h1=>k a1 h1.1 h1.2.1 h1.2.2.1 h1.2.2.2
theorem cK{p1 p2 p3:T1→T2→Prop}(h:∃a1 a2,p1 a1 a2∧p2 a1 a2∧p3 a1 a2)(k:∀a1 a2,p1 a1 a2→p2 a1 a2→p3 a1 a2→G):G:=h.elim λa1 h1=>h1.elim λa2 h2=>k a1 a2 h2.1 h2.2.1 h2.2.2
theorem fu{p1 p2:T1→T2→T3→Prop}(h:∃a1 a2 a3,p1 a1 a2 a3∧p2 a1 a2 a3)(k:∀a1 a2 a3,p1 a1 a2 a3→p2 a1 a2 a3→G):G:=h.elim λa1 h1=>h1.elim λa2 h2=>h2.elim λa3 h3=>k a1 a2 a3 h3.1 h3.2
theorem VB{p1:T1→T2→T3→T4→Prop}(h:∃a1 a2 a3 a4,p1 a1 a2 a3 a4)(k:∀a1 a2 a3 a4,p1 a1 a2 a3 a4→G):G:=h.elim λa1 h1=>h1.elim λa2 h2=>h2.elim λa3 h3=>h3.elim λa4 h4=>k a1 a2 a3 a4 h4
theorem mr{p2 p3:T1→T2→Prop}(h:p1∧∃a1 a2,p2 a1 a2∧p3 a1 a2)(k:p1→∀a1 a2,p2 a1 a2→p3 a1 a2→G):G:=h.2.elim λa1 h1=>h1.elim λa2 h2=>k h.1 a1 a2 h2.1 h2.2
theorem Bz{p1 p2 p4 p5:T1→Prop}(h:∃a1,p1 a1∧p2 a1∧p3 a1∧p4 a1∧p5 a1)(k:∀a1,p1 a1→p2 a1→p3 a1→p4 a1→p5 a1→G):G:=h.elim λa1 h1=>k a1 h1.1 h1.2.1 h1.2.2.1 h1.2.2.2.1 h1.2.2.2.2
theorem E4{p1 p2 p3 p4:T1→T2→Prop}(h:∃a1 a2,p1 a1 a2∧p2 a1 a2∧p3 a1 a2∧p4 a1 a2)(k:∀a1 a2,p1 a1 a2→p2 a1 a2→p3 a1 a2→p4 a1 a2→G):G:=h.elim λa1 h1=>h1.elim λa2 h2=>k a1 a2 h2.1 h2.2.1 h2.2.2.1 h2.2.2.2
theorem ib{p1 p2 p3:T1→T2→T3→Prop}(h:∃a1 a2 a3,p1 a1 a2 a3∧p2 a1 a2 a3∧p3 a1 a2 a3)(k:∀a1 a2 a3,p1 a1 a2 a3→p2 a1 a2 a3→p3 a1 a2 a3→G):G:=h.elim λa1 h1=>h1.elim λa2 h2=>h2.elim λa3 h3=>k a1 a2 a3 h3.1 h3.2.1 h3.2.2
theorem BA{p1 p2:T1→T2→T3→T4→Prop}(h:∃a1 a2 a3 a4,p1 a1 a2 a3 a4∧p2 a1 a2 a3 a4)(k:∀a1 a2 a3 a4,p1 a1 a2 a3 a4→p2 a1 a2 a3 a4→G):G:=h.elim λa1 h1=>h1.elim λa2 h2=>h2.elim λa3 h3=>h3.elim λa4 h4=>k a1 a2 a3 a4 h4.1 h4.2
theorem uY{T5:Sort _}{p1:T1→T2→T3→T4→T5→Prop}(h:∃a1 a2 a3 a4 a5,p1 a1 a2 a3 a4 a5)(k:∀a1 a2 a3 a4 a5,p1 a1 a2 a3 a4 a5→G):G:=h.elim λa1 h1=>h1.elim λa2 h2=>h2.elim λa3 h3=>h3.elim λa4 h4=>h4.elim λa5 h5=>k a1 a2 a3 a4 a5 h5
theorem Lw{p1:T1→Prop}{p2 p3:T1→T2→T3→Prop}(h:∃a1,p1 a1∧∃a2 a3,p2 a1 a2 a3∧p3 a1 a2 a3)(k:∀a1,p1 a1→∀a2 a3,p2 a1 a2 a3→p3 a1 a2 a3→G):G:=h.elim λa1 h1=>h1.2.elim λa2 h2=>h2.elim λa3 h3=>k a1 h1.1 a2 a3 h3.1 h3.2
theorem Lx{p1 p2:T1→Prop}{p4:T1→T2→Prop}(h:∃a1,p1 a1∧p2 a1∧p3 a1∧∃a2,p4 a1 a2)(k:∀a1,p1 a1→p2 a1→p3 a1→∀a2,p4 a1 a2→G):G:=h.elim λa1 h1=>h1.2.2.2.elim λa2 h2=>k a1 h1.1 h1.2.1 h1.2.2.1 a2 h2
theorem E5{p2 p4 p5:T1→Prop}(h:p1∧∃a1,p2 a1∧p3 a1∧p4 a1∧p5 a1)(k:p1→∀a1,p2 a1→p3 a1→p4 a1→p5 a1→G):G:=h.2.elim λa1 h1=>k h.1 a1 h1.1 h1.2.1 h1.2.2.1 h1.2.2.2
theorem VC{p2:Prop}{p4 p5:T1→Prop}(h:p1∧p2∧∃a1,p3 a1∧p4 a1∧p5 a1)(k:p1→p2→∀a1,p3 a1→p4 a1→p5 a1→G):G:=h.2.2.elim λa1 h1=>k h.1 h.2.1 a1 h1.1 h1.2.1 h1.2.2
theorem VD{p2 p3 p4 p5 p6 p7:Prop}(h:p1∧p2∧p3∧p4∧p5∧p6∧p7)(k:p1→p2→p3→p4→p5→p6→p7→G):G:=k h.1 h.2.1 h.2.2.1 h.2.2.2.1 h.2.2.2.2.1 h.2.2.2.2.2.1 h.2.2.2.2.2.2
theorem Ly{p1 p2 p4 p5 p6:T1→Prop}(h:∃a1,p1 a1∧p2 a1∧p3 a1∧p4 a1∧p5 a1∧p6 a1)(k:∀a1,p1 a1→p2 a1→p3 a1→p4 a1→p5 a1→p6 a1→G):G:=h.elim λa1 h1=>k a1 h1.1 h1.2.1 h1.2.2.1 h1.2.2.2.1 h1.2.2.2.2.1 h1.2.2.2.2.2
theorem VE{p1 p2 p3 p4 p5:T1→T2→Prop}(h:∃a1 a2,p1 a1 a2∧p2 a1 a2∧p3 a1 a2∧p4 a1 a2∧p5 a1 a2)(k:∀a1 a2,p1 a1 a2→p2 a1 a2→p3 a1 a2→p4 a1 a2→p5 a1 a2→G):G:=h.elim λa1 h1=>h1.elim λa2 h2=>k a1 a2 h2.1 h2.2.1 h2.2.2.1 h2.2.2.2.1 h2.2.2.2.2
theorem fy{p1 p2 p3 p4:T1→T2→T3→Prop}(h:∃a1 a2 a3,p1 a1 a2 a3∧p2 a1 a2 a3∧p3 a1 a2 a3∧p4 a1 a2 a3)(k:∀a1 a2 a3,p1 a1 a2 a3→p2 a1 a2 a3→p3 a1 a2 a3→p4 a1 a2 a3→G):G:=h.elim λa1 h1=>h1.elim λa2 h2=>h2.elim λa3 h3=>k a1 a2 a3 h3.1 h3.2.1 h3.2.2.1 h3.2.2.2
theorem pJ{p1 p2 p3:T1→T2→T3→T4→Prop}(h:∃a1 a2 a3 a4,p1 a1 a2 a3 a4∧p2 a1 a2 a3 a4∧p3 a1 a2 a3 a4)(k:∀a1 a2 a3 a4,p1 a1 a2 a3 a4→p2 a1 a2 a3 a4→p3 a1 a2 a3 a4→G):G:=h.elim λa1 h1=>h1.elim λa2 h2=>h2.elim λa3 h3=>h3.elim λa4 h4=>k a1 a2 a3 a4 h4.1 h4.2.1 h4.2.2
theorem VF{p2 p3 p4 p5 p6 p7 p8:Prop}(h:p1∧p2∧p3∧p4∧p5∧p6∧p7∧p8)(k:p1→p2→p3→p4→p5→p6→p7→p8→G):G:=k h.1 h.2.1 h.2.2.1 h.2.2.2.1 h.2.2.2.2.1 h.2.2.2.2.2.1 h.2.2.2.2.2.2.1 h.2.2.2.2.2.2.2
theorem VG{p1 p2 p3 p4 p5 p6:T1→T2→Prop}(h:∃a1 a2,p1 a1 a2∧p2 a1 a2∧p3 a1 a2∧p4 a1 a2∧p5 a1 a2∧p6 a1 a2)(k:∀a1 a2,p1 a1 a2→p2 a1 a2→p3 a1 a2→p4 a1 a2→p5 a1 a2→p6 a1 a2→G):G:=h.elim λa1 h1=>h1.elim λa2 h2=>k a1 a2 h2.1 h2.2.1 h2.2.2.1 h2.2.2.2.1 h2.2.2.2.2.1 h2.2.2.2.2.2
theorem w6{p1 p2 p3 p4:T1→T2→T3→T4→Prop}(h:∃a1 a2 a3 a4,p1 a1 a2 a3 a4∧p2 a1 a2 a3 a4∧p3 a1 a2 a3 a4∧p4 a1 a2 a3 a4)(k:∀a1 a2 a3 a4,p1 a1 a2 a3 a4→p2 a1 a2 a3 a4→p3 a1 a2 a3 a4→p4 a1 a2 a3 a4→G):G:=h.elim λa1 h1=>h1.elim λa2 h2=>h2.elim λa3 h3=>h3.elim λa4 h4=>k a1 a2 a3 a4 h4.1 h4.2.1 h4.2.2.1 h4.2.2.2
theorem yY{p1 p2 p3 p4 p5 p6:T1→T2→T3→T4→Prop}(h:∃a1 a2 a3 a4,p1 a1 a2 a3 a4∧p2 a1 a2 a3 a4∧p3 a1 a2 a3 a4∧p4 a1 a2 a3 a4∧p5 a1 a2 a3 a4∧p6 a1 a2 a3 a4)(k:∀a1 a2 a3 a4,p1 a1 a2 a3 a4→p2 a1 a2 a3 a4→p3 a1 a2 a3 a4→p4 a1 a2 a3 a4→p5 a1 a2 a3 a4→p6 a1 a2 a3 a4→G):G:=h.elim λa1 h1=>h1.elim λa2 h2=>h2.elim λa3 h3=>h3.elim λa4 h4=>k a1 a2 a3 a4 h4.1 h4.2.1 h4.2.2.1 h4.2.2.2.1 h4.2.2.2.2.1 h4.2.2.2.2.2
theorem VH{T5 T6 T7 T8:Sort _}{p1 p2:T1→T2→T3→T4→T5→T6→T7→T8→Prop}(h:∃a1 a2 a3 a4 a5 a6 a7 a8,p1 a1 a2 a3 a4 a5 a6 a7 a8∧p2 a1 a2 a3 a4 a5 a6 a7 a8)(k:∀a1 a2 a3 a4 a5 a6 a7 a8,p1 a1 a2 a3 a4 a5 a6 a7 a8→p2 a1 a2 a3 a4 a5 a6 a7 a8→G):G:=h.elim λa1 h1=>h1.elim λa2 h2=>h2.elim λa3 h3=>h3.elim λa4 h4=>h4.elim λa5 h5=>h5.elim λa6 h6=>h6.elim λa7 h7=>h7.elim λa8 h8=>k a1 a2 a3 a4 a5 a6 a7 a8 h8.1 h8.2
theorem Lz{T5 T6 T7:Sort _}{p1 p2 p3 p4 p5 p6 p7 p8 p9 BB:T1→T2→T3→T4→T5→T6→T7→Prop}(h:∃a1 a2 a3 a4 a5 a6 a7,p1 a1 a2 a3 a4 a5 a6 a7∧p2 a1 a2 a3 a4 a5 a6 a7∧p3 a1 a2 a3 a4 a5 a6 a7∧p4 a1 a2 a3 a4 a5 a6 a7∧p5 a1 a2 a3 a4 a5 a6 a7∧p6 a1 a2 a3 a4 a5 a6 a7∧p7 a1 a2 a3 a4 a5 a6 a7∧p8 a1 a2 a3 a4 a5 a6 a7∧p9 a1 a2 a3 a4 a5 a6 a7∧BB a1 a2 a3 a4 a5 a6 a7)(k:∀a1 a2 a3 a4 a5 a6 a7,p1 a1 a2 a3 a4 a5 a6 a7→p2 a1 a2 a3 a4 a5 a6 a7→p3 a1 a2 a3 a4 a5 a6 a7→p4 a1 a2 a3 a4 a5 a6 a7→p5 a1 a2 a3 a4 a5 a6 a7→p6 a1 a2 a3 a4 a5 a6 a7→p7 a1 a2 a3 a4 a5 a6 a7→p8 a1 a2 a3 a4 a5 a6 a7→p9 a1 a2 a3 a4 a5 a6 a7→BB a1 a2 a3 a4 a5 a6 a7→G):G:=h.elim λa1 h1=>h1.elim λa2 h2=>h2.elim λa3 h3=>h3.elim λa4 h4=>h4.elim λa5 h5=>h5.elim λa6 h6=>h6.elim λa7 h7=>k a1 a2 a3 a4 a5 a6 a7 h7.1 h7.2.1 h7.2.2.1 h7.2.2.2.1 h7.2.2.2.2.1 h7.2.2.2.2.2.1 h7.2.2.2.2.2.2.1 h7.2.2.2.2.2.2.2.1 h7.2.2.2.2.2.2.2.2.1 h7.2.2.2.2.2.2.2.2.2
section
noncomputable abbrev cy(vs:Array ak)(n:Nat):fI:={cls:=.type "list",data:=.seq vs n}
noncomputable abbrev yZ(vs:Array ak)(n:Nat):fI:={cls:=.type "tuple",data:=.seq vs n}
mutual
inductive Rd(U:aY)(h:aP):ak→D→Prop
 |none:Rd U h .none .none
 |bool (b:_):Rd U h (.bool b) (.bool b)
 |int (i t:_):Rd U h (.int i t) (.int i)
 |str (x t:_):Rd U h (.str x t) (.str x)
 |list {a vs n xs:_}:h.get? a=aa (cy vs n)→¬U a→aI U h vs.toList xs→Rd U h (.ref a) (.list xs)
 |tup {a vs n xs:_}:h.get? a=aa (yZ vs n)→¬U a→aI U h vs.toList xs→Rd U h (.ref a) (.tuple xs)
inductive aI(U:aY)(h:aP):List ak→List D→Prop
 |nil:aI U h [] []
 |cons {v vs d ds:_}:Rd U h v d→aI U h vs ds→aI U h (v::vs) (d::ds)
end
section
variable{h:aP}
theorem Rd.mono(hk:∀a o,¬U a→h.get? a=aa o→h'.get? a=aa o)(hu:∀a o,h.get? a=aa o→¬U a→¬U' a){v:ak}(r:Rd U h v d):Rd U' h' v d:=
 Rd.rec (motive_1:=λv d Z=>Rd U' h' v d) (motive_2:=λvs ds Z=>aI U' h' vs ds) .none .bool .int .str (λe n Z r=>.list (hk _ _ n e) (hu _ _ e n) r) (λe n Z r=>.tup (hk _ _ n e) (hu _ _ e n) r) .nil (λZ Z=>.cons) r
theorem aI.mono(hk:∀a o,¬U a→h.get? a=aa o→h'.get? a=aa o)(hu:∀a o,h.get? a=aa o→¬U a→¬U' a)(r:aI U h vs ds):aI U' h' vs ds:=
 aI.rec (motive_1:=λv d Z=>Rd U' h' v d) (motive_2:=λvs ds Z=>aI U' h' vs ds) .none .bool .int .str (λe n Z r=>.list (hk _ _ n e) (hu _ _ e n) r) (λe n Z r=>.tup (hk _ _ n e) (hu _ _ e n) r) .nil (λZ Z=>.cons) r
theorem Rd.reads{v:ak}(r:Rd U h v d):∃as,Reads h v d as:=
 Rd.rec (motive_1:=λv d Z=>∃as,Reads h v d as) (motive_2:=λvs ds Z=>∃as,ReadsAll h vs ds as) ⟨_,.none⟩ (λb=>⟨_,.bool b⟩) (λi t=>⟨_,.int i t⟩) (λx t=>⟨_,.str x t⟩) (λe Z Z r=>r.elim λZ q=>⟨_,.list e rfl rfl q⟩) (λe Z Z r=>r.elim λZ q=>⟨_,.tuple e rfl rfl q⟩) ⟨_,.nil⟩ (λZ Z a b=>a.elim λZ q=>b.elim λZ r=>⟨_,.cons q r⟩) r
theorem Rd.cQ{v:ak}(r:Rd U h v (.str x)):∃t,v=.str x t:=by cases r;exact⟨_,rfl⟩
theorem Rd.iz{v:ak}{i:Int}(r:Rd U h v (.int i)):∃t,v=.int i t:=by cases r;exact⟨_,rfl⟩
theorem Rd.E6{v:ak}(r:Rd U h v (.bool b)):v=.bool b:=by cases r;rfl
theorem Rd.listI{v:ak}{xs:List D}(r:Rd U h v (.list xs)):∃a vs n,v=.ref a∧h.get? a=aa (cy vs n)∧¬U a∧aI U h vs.toList xs:=by cases r;exact⟨_,_,_,rfl,‹_›,‹_›,‹_›⟩
theorem Rd.tupI{v:ak}{xs:List D}(r:Rd U h v (.tuple xs)):∃a vs n,v=.ref a∧h.get? a=aa (yZ vs n)∧¬U a∧aI U h vs.toList xs:=by cases r;exact⟨_,_,_,rfl,‹_›,‹_›,‹_›⟩
theorem aI.uZ(r:aI U h vs (d::ds)):∃v ws,vs=v::ws∧Rd U h v d∧aI U h ws ds:=by cases r;exact⟨_,_,rfl,‹_›,‹_›⟩
theorem aI.sX(r:aI U h vs []):vs=[]:=by cases r;rfl
theorem aI.ind{P:List ak→List D→Prop}(nil:P [] [])(cons:∀v vs d ds,Rd U h v d→aI U h vs ds→P vs ds→P (v::vs) (d::ds))(r:aI U h vs ds):P vs ds:=
 aI.rec (motive_1:=λZ Z Z=>True) (motive_2:=λvs ds Z=>P vs ds) trivial (λZ=>trivial) (λZ Z=>trivial) (λZ Z=>trivial) (λZ Z Z Z=>trivial) (λZ Z Z Z=>trivial) nil (λa b Z p=>cons _ _ _ _ a b p) r
theorem aI.length(r:aI U h vs ds):vs.length=ds.length:=r.ind (P:=λvs ds=>vs.length=ds.length) rfl λZ Z Z Z Z Z e=>congrArg (· +1) e
theorem aI.get(r:aI U h vs ds):∀ {i:Nat}{d:D},ds[i]? =aa d→∃v,vs[i]? =aa v∧Rd U h v d:=
 r.ind (P:=λvs ds=>∀ {i:Nat}{d:D},ds[i]? =aa d→∃v,vs[i]? =aa v∧Rd U h v d) (λe=>nomatch e) λv Z d Z a Z ih {i}{Z} e=>TM i (λe=>⟨v,rfl,iq e▸a⟩) (λZ e=>ih e) e
theorem aI.append{ws:List ak}{es:List D}(r:aI U h vs ds)(q:aI U h ws es):aI U h (vs++ws) (ds++es):=r.ind (P:=λvs ds=>aI U h (vs++ws) (ds++es)) q λZ Z Z Z a Z b=>.cons a b
theorem aI.one{v:ak}(a:Rd U h v d):aI U h [v] [d]:=.cons a .nil
theorem aI.take(n:Nat)(r:aI U h vs ds):aI U h (vs.take n) (ds.take n):=
 r.ind (P:=λvs ds=>∀n,aI U h (vs.take n) (ds.take n)) (λn=>by refine rE ahd ?_;refine rE ahd ?_;exact .nil) (λZ Z Z Z a Z ih n=>TM n .nil λn=>.cons a (ih n)) n
theorem aI.drop(n:Nat)(r:aI U h vs ds):aI U h (vs.drop n) (ds.drop n):=
 r.ind (P:=λvs ds=>∀n,aI U h (vs.drop n) (ds.drop n)) (λn=>by refine rE TN ?_;refine rE TN ?_;exact .nil) (λZ Z Z Z a b ih n=>TM n (.cons a b) λn=>ih n) n
end
noncomputable def Rp(U:aY)(h:aP)(v:ak)(d:D):Prop:=Rd U h v d∨∃xs a vs n,d=.list xs∧v=.ref a∧h.get? a=aa (cy vs n)∧aI U h vs.toList xs
section
variable{h:aP}{v:ak}
theorem Rp.listI{xs:List D}(r:Rp U h v (.list xs)):∃a vs n,v=.ref a∧h.get? a=aa (cy vs n)∧aI U h vs.toList xs:=by
 rcases r with r| ⟨ys,r⟩
 ·exact fy r.listI λa vs n e f Z g=>⟨a,vs,n,e,f,g⟩
 ·refine fu r ?_;clear r;intro a vs n e f;cases e;exact⟨a,vs,n,f⟩
theorem Rp.tupI{xs:List D}(r:Rp U h v (.tuple xs)):∃a vs n,v=.ref a∧h.get? a=aa (yZ vs n)∧¬U a∧aI U h vs.toList xs:=r.elim (·.tupI) λq=>BA q λZ Z Z Z e Z=>nomatch e
theorem Rp.cQ(r:Rp U h v (.str x)):∃t,v=.str x t:=r.elim (·.cQ) λq=>BA q λZ Z Z Z e Z=>nomatch e
end
structure Ext(s s':ay):Prop where
 keep:∀a o,s.heap.get? a=aa o→s'.heap.get? a=aa o
 gens:∀ (g:Nat) (x:uo),s.gens[g]? =aa x→s'.gens[g]? =aa x
 bare:wB s.gens→wB s'.gens
 os:s'.os=s.os
theorem Ext.refl(s:ay):Ext s s:=⟨λZ Z e=>e,λZ Z e=>e,λe=>e,rfl⟩
theorem Ext.trans{a b c:ay}(x:Ext a b)(y:Ext b c):Ext a c:=
 ⟨λZ Z e=>y.keep _ _ (x.keep _ _ e),λZ Z e=>y.gens _ _ (x.gens _ _ e),λe=>y.bare (x.bare e),y.os.trans x.os⟩
theorem Ext.tok:Ext s {s with toks:=k}:=⟨λZ Z e=>e,λZ Z e=>e,λe=>e,rfl⟩
theorem Ext.heap(hk:∀a o,s.heap.get? a=aa o→h'.get? a=aa o):Ext s {s with heap:=h',toks:=k}:=
 ⟨hk,λZ Z e=>e,λe=>e,rfl⟩
theorem Ext.push{o:fI}:Ext s {s with heap:=s.heap.push o,toks:=k}:=
 .heap (λZ Z e=>jV _ e)
theorem Rd.ext{v:ak}(x:Ext s s')(r:Rd U s.heap v d):Rd U s'.heap v d:=r.mono (λa o Z e=>x.keep a o e) λZ Z Z n=>n
theorem aI.ext(x:Ext s s')(r:aI U s.heap vs ds):aI U s'.heap vs ds:=r.mono (λa o Z e=>x.keep a o e) λZ Z Z n=>n
structure bW(A:dU)(n:Nat):Prop where
 handled:A.handled=af
 depth:A.depth+n+110<iR
 units:A.units+4 * n+200<cLine
theorem bW.deeper(r:bW A (n+1)):bW (A.deeper env) n:=
 ⟨r.handled,by have:=r.depth;refine rE (depth_deeper ..) ?_;lia,by have:=r.units;refine rE (units_deeper ..) ?_;lia⟩
variable{w:cM}
noncomputable def Gv(w:cM)(A:dU)(U:aY)(s:ay)(t:cN ak)(d:D):Prop:=
 ∀ (Q E:aW),(∀v s',Ext s s'→Rd U s'.heap v d→Q v s')→ar (aw prog w) A t Q E s
end
noncomputable def UB(U:aY)(s:ay):Prop:=∀a,U a→∃o,s.heap.get? a=aa o
theorem UB.ext(h:UB U s)(x:Ext s s'):UB U s':=λa ha=>let⟨o,e⟩:=h a ha;⟨o,x.keep _ _ e⟩
theorem eM(h:aP):h.get? h.objs.size=af:=by
 induction q:h.get? h.objs.size with
 |none=>rfl
 |some o=>exact absurd (jA q) (qE _)
theorem UB.new(h:UB U s):¬U s.heap.objs.size:=λha=>by refine xE (h _ ha) λo e=>?_;exact zN ((eM ..)▸e)
theorem W.bind_some{m:W α}{f:α→W β}{b:β}{ok:Bool}(h:W.bind m f=aa (b,ok)):∃ (a:α) (o1 o2:Bool),m=aa (a,o1)∧f a=aa (b,o2)∧ok=(o1&&o2):=by
 induction m with
 |none=>exact zN h
 |some p=>
  obtain⟨a,o1⟩:=p;have h:(match f a with|none=>af|some (b,oG)=>aa (b,o1&&oG))=aa (b,ok):=h;induction hf:f a with
  |none=>exact zN (hf▸h)
  |some q=>replace h:=iJ (hf▸h);refine iP h λe1 e2=>?_;clear h;subst e1;subst e2;exact⟨a,o1,q.2,rfl,hf,rfl⟩
theorem W.LA{m:W α}{f:α→W β}{b:β}(h:W.bind m f=aa (b,ae)):∃a:α,m=aa (a,ae)∧f a=aa (b,ae):=by refine ib (W.bind_some h) λa o1 o2 h1 h2 h3=>?_;have h3:=h3.symm;replace h3:=(jW ..)▸h3;clear h;refine xA h3 ?_;clear h3;intro e9 bC;subst e9;subst bC;exact Exists.intro a (J9 h1 h2)
theorem W.bp{a b:α}(h:W.ret a=aa (b,ae)):a=b:=by replace h:=Vw h;subst h;rfl
theorem W.de{a b:α}{ok:Bool}(h:W.need a ok=aa (b,ae)):a=b∧ok:=by replace h:=iJ h;refine iP h λe1 e2=>?_;clear h;subst e1;subst e2;exact⟨rfl,rfl⟩
theorem BC{m:Option α}{f:α→Option β}{b:β}(h:m.bind f=aa b):∃a,m=aa a∧f a=aa b:=ahe.mp h
theorem gc{i:Int}(h:cY d=aa i):d=.int i:=by cases d with|int j=>replace h:=iJ h;subst h;rfl|_=>exact zN h
theorem kN{i:ah}(h:dD d=aa i):d=.str i:=by cases d with|str j=>replace h:=iJ h;subst h;rfl|_=>exact zN h
theorem nE{i:List D}(h:d7 d=aa i):d=.list i:=by cases d with|list j=>replace h:=iJ h;subst h;rfl|_=>exact zN h
theorem LB{i:Bool}(h:Bt d=aa i):d=.bool i:=by cases d with|bool j=>replace h:=iJ h;subst h;rfl|_=>exact zN h
theorem w7{i:List D}(h:nt d=aa i):d=.list i∨d=.tuple i:=by
 cases d with|list j=>replace h:=iJ h;subst h;exact .inl rfl|tuple j=>replace h:=iJ h;subst h;exact .inr rfl|_=>exact zN h
theorem y6{f:Int→Option β}{b:β}(h:(cY d).bind f=aa b):∃x,d=.int x∧f x=aa b:=let⟨x,h1,h2⟩:=BC h;⟨x,gc h1,h2⟩
theorem nF{f:ah→Option β}{b:β}(h:(dD d).bind f=aa b):∃x,d=.str x∧f x=aa b:=let⟨x,h1,h2⟩:=BC h;⟨x,kN h1,h2⟩
theorem y7{f:List D→Option β}{b:β}(h:(d7 d).bind f=aa b):∃x,d=.list x∧f x=aa b:=let⟨x,h1,h2⟩:=BC h;⟨x,nE h1,h2⟩
theorem E7(h:pI ρ i=aa d):get ρ i=aa (.val d):=by
 refine oE h λs h1 h2=>?_;induction s with|val x=>replace h2:=iJ h2;subst h2;exact h1|_=>exact zN h2
theorem BD{xs:List D}(h:nB ρ i=aa xs):get ρ i=aa (.own xs):=by
 refine oE h λs h1 h2=>?_;induction s with|own x=>replace h2:=iJ h2;subst h2;exact h1|_=>exact zN h2
theorem E8(h:w4 ρ i=aa j):get ρ i=aa (.cU j):=by
 refine oE h λs h1 h2=>?_;induction s with|cU x=>replace h2:=iJ h2;subst h2;exact h1|_=>exact zN h2
theorem LC{l:gM}(h:oI ρ i=aa l):get ρ i=aa (.fN l):=by
 refine oE h λs h1 h2=>?_;induction s with|fN x=>replace h2:=iJ h2;subst h2;exact h1|_=>exact zN h2
theorem E9{t:d6}(h:ml hs ρ i=aa t):∃j,get ρ i=aa (.cU j)∧hs[j]? =aa t:=oE h λj h1 h2=>⟨j,E8 h1,h2⟩
theorem LD{f:Int→Int→W D}{x:D}{p:D × Bool}(h:sS f x y=aa p):∃a b,x=.int a∧y=.int b∧f a b=aa p:=oE h λa h1 h=>oE h λb h2 h=>⟨a,b,gc h1,gc h2,h⟩
noncomputable def LF:ma→wC
 | .add=>.Add| .sub=>.Sub| .mul=>.Mult| .fdiv=>.FloorDiv| .mod=>.Mod| .pow=>.Pow| .shr=>.RShift| .band=>.BitAnd
theorem w8{i:Int}(h:small i): -(2^64:Int)<i∧i<2^64:=by have h:=E2 (uq (bc h:i.natAbs<18446744073709551616));exact⟨Int.lt_of_lt_of_le (by decide) h.1,TJ h.2 (by decide)⟩
theorem VI{a b:Int}(h:(small a||small b)):IntMulOk a b:=by
 unfold IntMulOk;intro hc;replace hc:=(jW ..)▸(jW ..)▸hc;obtain⟨⟨h1,h2⟩,_⟩:=hc;have h1:=of_decide_eq_true h1;have h2:=of_decide_eq_true h2;rcases TP.mp h with h|h
 ·have:=TQ (w8 h).1 (w8 h).2;unfold shortFactorBits at h1;lia
 ·have:=TQ (w8 h).1 (w8 h).2;unfold shortFactorBits at h2;lia
theorem LG(x y:ah):x++y=Bs x y:=wD (by
 refine rE (ah.cps_append ..) ?_;simp[Bs,aj,sL])
theorem ic(x:ah):(sL x).length=x.length:=by simp[sL,TR]
theorem VJ{x n:Int}(h1:small x)(h2:0≤n)(h3:n.natAbs<1000000):((TS x:Nat):Int) * n≤2^27:=by
 have w9:=TQ (w8 h1).1 (w8 h1).2;have hn:n≤1000000:=by lia
 have hI:((TS x:Nat):Int)≤64:=by lia
 calc ((TS x:Nat):Int) * n≤64 * n:=Int.mul_le_mul_of_nonneg_right hI h2
  _≤2^27:=by lia
theorem LH(a:Array α)(k:Nat):∀acc:Array α,((ahf k a).foldl (· ++ ·) acc).toList=acc.toList++rep a.toList k:=by
 induction k with
 |zero=>intro acc;exact(eg _).symm
 |succ k ih=>intro acc;exact rE List.replicate_succ (rE sE (rE (ih ..) (rE DZ (rE (Lb ..) (rE (d5 ..) rfl)))))
theorem Fb(k:Nat):rep ([]:List α) k=[]:=by
 induction k with
 |zero=>rfl
 |succ k ih=>refine rE (Lb ..) (rE ih ?_);rfl
set_option tactic.hygienic true in
theorem VK(x:ah)(n:Int):Txt.mul x n=aj (rep (sL x) n.toNat):=by
 unfold Txt.mul;by_cases h:n<1
 ·refine rE (if_pos h) (rE (show n.toNat=0 by lia) ?_);rfl
 ·refine rE (if_neg h) ?_;split
  ·rename_i hc;apply wD;apply AP;rcases TP.mp hc with hc|hc
   ·obtain rfl:n=1:=beq_iff_eq.mp hc;exact(eg _).symm
   ·have:x.cps.toList=[]:=wF ((ic x).trans (beq_iff_eq.mp hc));exact this.trans (by rewrite[sL];refine rE this (rE (Fb ..) ?_);rfl)
  ·apply wD;apply AP;exact(LH x.cps n.toNat #[]).trans rfl
theorem aI.rep{h:aP}(r:aI U h vs ds)(k:Nat):aI U h (rep vs k) (rep ds k):=by
 induction k with
 |zero=>exact .nil
 |succ k ih=>exact r.append ih
section
variable{w:cM}
theorem Gv.int{t:cN ak}{i:Int}(h:∀ (Q E:aW),(∀tk,Q (.int i tk) {s with toks:=s.toks+1})→ar (aw prog w) A t Q E s):Gv w A U s t (.int i):=
 λQ E hQ=>h Q E λtk=>hQ _ _ .tok (.int _ _)
theorem LJ{i:Int}(h:(!(i == 0))):i≠0:=λe=>by replace h:=e▸h;exact zF h
theorem VM(_:UB U s){y:ah}(hk:aX ((sL x).length+(sL y).length) big)(ra:Rd U s.heap va (.str x))(rb:Rd U s.heap vb (.str y)):Gv w A U s (D6 .Add va vb) (.str (Bs x y)):=by
 refine xE ra.cQ λZ e9=>?_;subst e9;refine xE rb.cQ λZ e9=>?_;subst e9;intro Q E hQ;refine PyProof.Rows.add_str (λt' tk=>hQ _ _ .tok ?_) ?_
 ·exact rE (LG ..) (.str _ _)
 ·exact rS (ic ..) (rS (ic ..) (bc hk))
theorem VN(hb:UB U s){xs ys:List D}(hk:aX (xs.length+ys.length) big)(ra:Rd U s.heap va (.list xs))(rb:Rd U s.heap vb (.list ys)):Gv w A U s (D6 .Add va vb) (.list (xs++ys)):=by
 refine fy ra.listI λZ Z Z e9 e1 n1 r1=>?_;subst e9
 ·
  refine fy rb.listI λZ Z Z e9 e2 n2 r2=>?_;subst e9
  ·
   intro Q E hQ;have hz:_≤qF:=bc hk;replace hz:=je r2.length▸je r1.length▸hz;refine concat_meets ⟨_,e1,rfl⟩ ⟨_,e2,rfl⟩ noFill_list_add seq_list_add ahg ahh (ahi _ _) (list_addW _ _ _ _ _ _ af af #[] #[] (by replace hz:=eL▸eL▸hz;exact hz)) ⟨e1,e2,?_⟩;refine hQ _ _ .push (.list (n:=0) (eT _ rfl) hb.new ?_);refine rE DZ ?_;exact(r1.ext .push (s':={s with heap:=s.heap.push _,toks:=s.toks})).append (r2.ext .push (s':={s with heap:=s.heap.push _,toks:=s.toks}))
theorem rf{i:Int}(r:Rd U s.heap va (.int i)):∃t,va=.int i t:=by refine xE r.iz λZ e9=>?_;subst e9;exact⟨_,rfl⟩
set_option tactic.hygienic true in
theorem VO(hb:UB U s){vs:Array ak}{xs:List D}{x:Int}{u:mY}(hl:s.heap.get? l=aa (cy vs n))(r:aI U s.heap vs.toList xs)
  (h1:x.natAbs≤1000000) (h2:vs.size * x.toNat≤16777216):Gv w A U s (D6 .Mult (.ref l) (.int x u)) (.list (rep xs x.toNat)):=by
 intro Q E hQ;refine wpAny_binaryOp_repeat_ref (T:= "list") (U:= "int") (by decide) ⟨_,hl,rfl⟩ (λs'=>typeIs_int s' x u) noFill_list_mul F.fills_int_mul F.slot_int_rmul repeat_list F.slot_int_index.lookup
  (D7 F.slot_int_rmul (typeIs_int s x u) F.entry_int_rmul (F.args_int_rmul_2 _ _) (int___rmul___int_list x u l vs n)
   ⟨hl,rfl,⟨_,hl,rfl⟩,D7 F.slot_list_mul ⟨_,hl,rfl⟩ F.entry_list_mul (F.args_list_mul_2 _ _)
    (AutoListH.list___mul___list_int_3 l vs n x u (by have:=qZ h1 (a:= -9223372036854775808) (b:=9223372036854775808) (by decide) (by decide);simpa[TU]using this) (by omega) (by simp[TV,qF];omega))
    ⟨hl,hQ _ _ .push ?_⟩⟩)
 refine .list (n:=0) (eT _ rfl) hb.new ?_;have e:(List.foldl (λx1 x2=>x1++x2) #[] (ahf (if vs.isEmpty then 0 else x.toNat) vs)).toList=Ev.rep vs.toList x.toNat:=by
  refine(LH vs (if vs.isEmpty then 0 else x.toNat) #[]).trans ?_;split
  ·rename_i h0;have:vs.toList=[]:=by simpa using h0
   refine rE this (rE (Fb ..) (rE (Fb ..) ?_));rfl
  ·rfl
 exact rE e ((r.ext (.push (s:=s) (o:=cy _ 0) (k:=s.toks))).rep _)
theorem VP(hb:UB U s){a b:D}(h:Lc a b=aa (d,ae))(ra:Rd U s.heap va a)(rb:Rd U s.heap vb b):Gv w A U s (D6 .Mult va vb) d:=by
 refine oE h λn h1 g=>?_;obtain rfl:=gc h1;clear h h1;refine xE (rf rb) λu e9=>?_;subst e9;induction q:cY a with
 |some i=>replace g:=q▸g;clear rb;obtain rfl:=gc q;refine xE (rf ra) λt e9=>?_;subst e9;refine xA (W.de g) λe9 hk=>?_;subst e9;exact .int λQ E hQ=>PyProof.Rows.mul_int (hQ _) (VI hk)
 |none=>
  replace g:=q▸g;dsimp only at g;induction q:dD a with
  |some x=>replace g:=q▸g;clear rb;obtain rfl:=kN q;refine xE ra.cQ λt e9=>?_;subst e9;refine xA (W.de g) λe9 hk=>?_;subst e9;clear g q;refine xA (fJ.mp hk) λh1 h2=>?_;have h1:=bc h1;have h2:=bc h2;replace h2:=(ic ..)▸h2;intro Q E hQ;exact SB.mul (PyProof.Rows.mulOk_of _ _ (bZ _) (Int.self_le_toNat _) (qZ h1 (b:=9223372036854775808) (by decide) (by decide)).1 (aF (Int.toNat_le.mpr (AO Int.le_natAbs (uj.mpr h1))) (by decide)) h2) λt' k=>hQ _ _ .tok (rE (VK ..) (.str _ _))
  |none=>replace g:=q▸g;refine oE g ?_;clear g;intro xs h1 g;clear rb;obtain rfl:=nE h1;refine xA (W.de g) λe9 hk=>?_;subst e9;clear g q h1;refine xA (fJ.mp hk) λh1 h2=>?_;have h2:=bc h2;clear hk;refine fy ra.listI λZ Z Z e9 hl Z r=>?_;subst e9;replace h2:=eL▸je r.length▸h2;exact VO hb hl r (bc h1) h2
theorem VQ(hb:UB U s){op:ma}{a b:D}(h:j3 op a b=aa (d,ae))(ra:Rd U s.heap va a)(rb:Rd U s.heap vb b):
  Gv w A U s (D6 (LF op) va vb) d:=by
 have ii:∀ {f:Int→Int→W D},sS f a b=aa (d,ae)→∃i j t u,va=.int i t∧vb=.int j u∧f i j=aa (d,ae):=λh=>by refine cK (LD h) λi j e1 e2 h=>?_;subst e1 e2;exact xE (rf ra) λt ht=>xE (rf rb) λu hu=>⟨i,j,t,u,ht,hu,h⟩
 induction op with
 |add=>
  have h:uM a b=aa (d,ae):=h;unfold uM at h;induction q:cY a with
  |some i=>replace h:=q▸h;refine oE h ?_;clear h;intro j h1 h;obtain rfl:=gc q;obtain rfl:=gc h1;cases W.bp h;refine xE ra.iz λZ e9=>?_;subst e9;refine xE rb.iz λZ e9=>?_;subst e9;exact .int λQ E hQ=>add_int (hQ _)
  |none=>
   replace h:=q▸h;dsimp only at h;induction q:dD a with
   |some x=>replace h:=q▸h;refine oE h ?_;clear h;intro y h1 h;obtain rfl:=kN q;obtain rfl:=kN h1;refine xA (W.de h) λe9 hk=>?_;subst e9;exact VM hb hk ra rb
   |none=>replace h:=q▸h;refine oE h λxs h1 h=>oE h λys h2 h=>?_;obtain rfl:=nE h1;obtain rfl:=nE h2;refine xA (W.de h) λe9 hk=>?_;subst e9;exact VN hb hk ra rb
 |sub=>refine pJ (ii h) λi j t u e9 bC h=>?_;subst e9;subst bC;cases W.bp h;exact .int λQ E hQ=>sub_int (hQ _)
 |mul=>exact VP hb h ra rb
 |fdiv=>clear rb ra;refine pJ (ii h) λi j t u e9 bC h=>?_;subst e9;subst bC;refine xA (W.de h) λe9 hk=>?_;subst e9;exact xA (fJ.mp hk) λh1 h2=>.int λQ E hQ=>floordiv_int (LJ h1) (hQ _) (Or.inl (PyProof.noPylong_small (bc h2)))
 |mod=>clear rb ra;refine pJ (ii h) λi j t u e9 bC h=>?_;subst e9;subst bC;refine xA (W.de h) λe9 hk=>?_;subst e9;exact .int λQ E hQ=>mod_int' (LJ hk) (hQ _)
 |pow=>clear rb ra;refine pJ (ii h) λi j t u e9 bC h=>?_;subst e9;subst bC;refine xA (W.de h) λe9 hk=>?_;subst e9;exact xA (fJ.mp hk) λhk h3=>xA (fJ.mp hk) λh1 h2=>.int λQ E hQ=>pow_int (of_decide_eq_true h2) (VJ h1 (of_decide_eq_true h2) (bc h3)) (hQ _)
 |shr=>clear rb ra;refine pJ (ii h) λi j t u e9 bC h=>?_;subst e9;subst bC;refine xA (W.de h) λe9 hk=>?_;subst e9;exact .int λQ E hQ=>rshift_int (of_decide_eq_true hk) (hQ _)
 |band=>clear rb ra;refine pJ (ii h) λi j t u e9 bC h=>?_;subst e9;subst bC;cases W.bp h;exact .int λQ E hQ=>and_int (hQ _)
end
theorem lEq_iff:∀ {a b:ax},lEq a b↔a=b:=by
 intro a;induction a with
 |nil=>intro b;induction b using bj with|nil=>exact⟨λZ=>rfl,λZ=>rfl⟩|cons=>exact⟨zF,zC⟩
 |cons x xs ih=>
  intro b;induction b using bj with
  |nil=>exact⟨zF,zD⟩
  |cons y ys=>
   refine rE (K9 ..) ?_;induction h:az x y with
   |true=>exact rE (fY h) ⟨λq=>congrArg _ (ih.mp q),λq=>ih.mpr (jf q).2⟩
   |false=>exact⟨zF,λq=>absurd (jf q).1 (ahj h)⟩
theorem sEq_iff{y:ah}:sEq x y↔x=y:=by
 unfold sEq;rw[lEq_iff];constructor
 ·intro h;exact wD (AP h)
 ·rintro rfl;rfl
theorem LK{a:Bool}(h:a↔b):a=b:=by induction a<;>induction b<;>simp_all
theorem Fc(x y:ah):(x == y)=sEq x y:=LK (by rw[sEq_iff];simp)
theorem Fd:∀ {x y:ax},qU x y↔y.take x.length=x:=by
 intro x;induction x with
 |nil=>exact λ{y}=>⟨λZ=>rfl,λZ=>rfl⟩
 |cons a xs ih=>
  intro y;induction y using bj with
  |nil=>exact⟨zF,zC⟩
  |cons b ys=>
   show cond (az a b) (qU xs ys) ag=ae↔b::ys.take xs.length=a::xs;induction h:az a b with
   |true=>exact rE (fY h) ⟨λq=>congrArg _ (ih.mp q),λq=>ih.mpr (jf q).2⟩
   |false=>exact⟨zF,λq=>absurd (jf q).1.symm (ahj h)⟩
theorem VR{x:ax}:∀ {y:ax},nq x y↔∃i,i+x.length≤y.length∧(y.drop i).take x.length=x:=by
 have h0:∀ {y:ax},qU x y→∃i,i+x.length≤y.length∧(y.drop i).take x.length=x:=λ{y} h=>by have e:=Fd.mp h;exact⟨0,aF (sF (lj _)) (rS (congrArg TX e) (rE qG (um ..))),e⟩
 intro y;induction y with
 |nil=>refine⟨h0,λh=>?_⟩;refine aD h λi h1 h2=>?_;replace h2:=TN▸h2;exact Fd.mpr h2
 |cons b ys ih=>
  refine rE (Vj ..) ?_;induction h:qU x (b::ys)with
  |true=>exact⟨λZ=>h0 h,λZ=>rfl⟩
  |false=>
   refine⟨λq=>aD (ih.mp q) λi h1 h2=>⟨i+1,aF (sF (Ka i 1 _)) (m4 h1),h2⟩,λq=>aD q λi h1 h2=>?_⟩;induction i using ll with
   |zero=>exact zT ((Fd.mpr h2).symm.trans h)
   |succ i=>exact ih.mpr ⟨i,ahk (aF (sF (Ka i 1 _).symm) h1),h2⟩
theorem LL(x y:ah):Txt.contains x y=nq (sL y) (sL x):=by
 apply LK;unfold Txt.contains;rewrite[StrLaws.found_iff];rewrite[VR];refine rE (ic ..) (rE (ic ..) ?_);constructor
 ·rintro ⟨i,h1,h2⟩
  refine⟨i,h1,?_⟩;replace h2:=(ahl ..)▸h2;simpa[sL,TR]using h2
 ·rintro ⟨i,h1,h2⟩
  refine⟨i,h1,?_⟩;refine rE (ahl ..) ?_;simpa[sL,TR]using h2
noncomputable def Fe:uJ→kG
 | .eq=>.Eq| .ne=>.NotEq| .lt=>.Lt| .le=>.LtE| .gt=>.Gt| .ge=>.GtE| .isin=>.In| .ix=>.NotIn
section
variable{w:cM}
noncomputable def sY(w:cM)(A:dU)(s:ay)(t:cN ak)(b:Bool):Prop:=
 ∀ (Q E:aW),(∀s',Ext s s'→Q (.bool b) s')→ar (aw prog w) A t Q E s
theorem LM{m:W Bool}(h:sU m=aa (b,ae)):∃a,m=aa (a,ae)∧(!a)=b:=by
 induction m with
 |none=>exact zN h
 |some p=>obtain⟨a,o⟩:=p;replace h:=iJ h;refine iP h λe1 e2=>?_;clear h;subst e1;subst e2;exact⟨a,rfl,rfl⟩
theorem VS{f:Int→Int→Bool}{a b:D}{r:Bool}(h:w0 f a b=aa (r,ae)):∃i j,a=.int i∧b=.int j∧f i j=r:=oE h λi h1 h=>oE h λj h2 h=>⟨i,j,gc h1,gc h2,W.bp h⟩
theorem bW.LN(R:bW A n):A.units+64<cLine:=by have:=R.units;lia
theorem LO(R:bW A n){a b:D}{r:Bool}(h:wZ a b=aa (r,ae))(ra:Rd U s.heap va a)(rb:Rd U s.heap vb b):
  sY w A s (sG .Eq va vb) r∧sY w A s (sG .NotEq va vb) (!r):=by
 have deep:Bv a b=aa (r,ae)→sY w A s (sG .Eq va vb) r∧sY w A s (sG .NotEq va vb) (!r):=λh=>by refine xA (W.de h) λe9 hk=>?_;subst e9;exact xA (fJ.mp hk) λh1 h2=>xE ra.reads λas qa=>xE rb.reads λbs qb=>⟨λQ E hQ=>SeqAt.compareEq_shaped qa qb h1 h2 R.LN (hQ _ (.refl s)),λQ E hQ=>SeqAt.compareNe_shaped qa qb h1 h2 R.LN (hQ _ (.refl s))⟩
 unfold wZ at h;induction q:cY a with
 |some i=>
  replace h:=q▸h;dsimp only at h;induction q2:cY b with
  |none=>replace h:=q2▸h;exact deep h
  |some j=>replace h:=q2▸h;clear R;obtain rfl:=gc q;obtain rfl:=gc q2;cases W.bp h;refine xE ra.iz λZ e9=>?_;subst e9;refine xE rb.iz λZ e9=>?_;subst e9;exact⟨λQ E hQ=>PyProof.Rows.eq_int (hQ _ (.refl s)),λQ E hQ=>PyProof.Rows.ne_int (hQ _ (.refl s))⟩
 |none=>
  replace h:=q▸h;dsimp only at h;induction q1:dD a with
  |none=>replace h:=q1▸h;exact deep h
  |some x=>
   replace h:=q1▸h;dsimp only at h;induction q2:dD b with
   |none=>replace h:=q2▸h;exact deep h
   |some y=>
    replace h:=q2▸h;clear deep R;obtain rfl:=kN q1;obtain rfl:=kN q2;cases W.bp h;refine xE ra.cQ λZ e9=>?_;subst e9;refine xE rb.cQ λZ e9=>?_;subst e9;refine⟨λQ E hQ=>PyProof.Rows.eq_str ?_,λQ E hQ=>ahm ?_⟩
    ·exact rE (Fc ..) (hQ _ (.refl s))
    ·show Q (.bool (!(_ == _))) s;exact rE (Fc ..) (hQ _ (.refl s))
theorem bW.BE(R:bW A n):A.units+65<cLine:=by have:=R.units;lia
theorem LP(R:bW A n){a b:D}{r:Bool}(h:sT a b=aa (r,ae))(ra:Rd U s.heap va a)(rb:Rd U s.heap vb b):
  sY w A s (sG .In va vb) r∧sY w A s (sG .NotIn va vb) (!r):=by
 unfold sT at h;induction q:dD b with
 |some y=>
  replace h:=q▸h;refine oE h ?_;clear h;intro x h1 h;obtain rfl:=kN h1;obtain rfl:=kN q;cases W.bp h;refine xE ra.cQ λZ e9=>?_;subst e9;refine xE rb.cQ λZ e9=>?_;subst e9;refine⟨λQ E hQ=>SB.contains ?_,λQ E hQ=>SB.notContains ?_⟩
  ·exact rE (LL ..) (hQ _ (.refl s))
  ·exact rE (LL ..) (hQ _ (.refl s))
 |none=>
  replace h:=q▸h;refine oE h λys h1 h=>xA (W.de h) λe9 hk=>?_;subst e9;refine xA (fJ.mp hk) λk1 k2=>xE ra.reads λas qa=>xE rb.reads λbs qb=>?_;have c1:=D8 k1;have c2:=D8 k2;rcases w7 h1 with rfl|rfl
  ·exact⟨λQ E hQ=>SeqAt.in_list_reads qb qa c1 c2 (Kb k2 R.BE) (hQ _ (.refl s)),λQ E hQ=>SeqAt.notIn_list_reads qb qa c1 c2 (Kb k2 R.BE) (hQ _ (.refl s))⟩
  ·exact⟨λQ E hQ=>SeqAt.in_tuple_reads qb qa c1 c2 (Kb k2 R.BE) (hQ _ (.refl s)),λQ E hQ=>SeqAt.notIn_tuple_reads qb qa c1 c2 (Kb k2 R.BE) (hQ _ (.refl s))⟩
theorem xa(R:bW A n){op:uJ}{a b:D}{r:Bool}(h:gO op a b=aa (r,ae))(ra:Rd U s.heap va a)(rb:Rd U s.heap vb b):
  sY w A s (sG (Fe op) va vb) r:=by
 have ii:∀ {f:Int→Int→Bool},w0 f a b=aa (r,ae)→∃i j t u,va=.int i t∧vb=.int j u∧f i j=r:=λh=>by refine cK (VS h) λi j e1 e2 h9=>?_;subst e1 e2;exact xE (rf ra) λt ht=>xE (rf rb) λu hu=>⟨i,j,t,u,ht,hu,h9⟩
 induction op with
 |eq=>exact(LO R h ra rb).1
 |ne=>refine aD (LM h) λZ h2 e9=>?_;subst e9;exact(LO R h2 ra rb).2
 |lt=>refine pJ (ii h) λi j t u e9 bC u0=>?_;subst e9;subst bC;subst u0;exact λQ E hQ=>ahn (hQ _ (.refl s))
 |le=>refine pJ (ii h) λi j t u e9 bC u0=>?_;subst e9;subst bC;subst u0;exact λQ E hQ=>PyProof.Rows.le_int (hQ _ (.refl s))
 |gt=>refine pJ (ii h) λi j t u e9 bC u0=>?_;subst e9;subst bC;subst u0;exact λQ E hQ=>PyProof.Rows.gt_int (hQ _ (.refl s))
 |ge=>refine pJ (ii h) λi j t u e9 bC u0=>?_;subst e9;subst bC;subst u0;exact λQ E hQ=>PyProof.Rows.ge_int (hQ _ (.refl s))
 |isin=>exact(LP R h ra rb).1
 |ix=>refine aD (LM h) λZ h2 e9=>?_;subst e9;exact(LP R h2 ra rb).2
end
theorem LQ{xs:List α}{d:α}(h:xs[i]? =aa d):i<xs.length:=(px.mp h).1
theorem VT(h:k<n):seqIndex? (k:Int) n=aa k:=by
 unfold seqIndex?;simp only[show ¬ ((k:Int)<0)from Kc.mpr (jd k),if_false];rw[if_pos]
 ·rfl
 ·simp;omega
theorem VU(slice:au)(o i:ak):∃ops,subscripted slice ag o i=operate ops (getItem o i):=by
 cases slice with
 |Slice l u st p=>induction st<;>exact⟨_,rfl⟩
 |_=>exact⟨_,rfl⟩
section
variable{w:cM}
theorem u2{value slice:au}{o i:ak}{T id:String}(hT:s.TypeIs o T)
  (hl:qH (.type T) "__getitem__" =pure (aa (.builtin id))) (hg:ar (aw prog w) A (getItem o i) Q E s):ar (aw prog w) A (Ke value slice o i) Q E s:=by
 exact xE (VU slice o i) λops h=>tail_any hT hl hg h
theorem VV{i:Int}(h:yR i=aa k):i=(k:Int):=by
 unfold yR at h;induction q:decide (0≤i)with
 |false=>exact zN (q▸h)
 |true=>replace h:=iJ (q▸h);subst h;exact(Kf (of_decide_eq_true q)).symm
theorem LR{i:Int}(h:place n i=aa k)(hk:k<n):seqIndex? i n=aa k:=by
 induction i with
 |ofNat m=>replace h:=iJ h;subst h;exact VT hk
 |negSucc m=>
  have h:cond (aX (m+1) n) (aa (n - (m+1))) af=aa k:=h;induction q:aX (m+1) n with
  |false=>exact zN (q▸h)
  |true=>
   replace h:=iJ (q▸h);subst h;have:=bc q;unfold seqIndex?;refine rE (if_pos (DX m)) ?_;rw[if_pos]
   ·refine rE (Lr this) ?_;rfl
   ·simp;omega
theorem VW{xs:List D}(h:Ld xs y=aa (d,ae)):∃ (i:Int) (k:Nat),y=.int i∧place xs.length i=aa k∧xs[k]? =aa d∧i.natAbs<1000000000:=by refine oE h λi h1 h=>oE h λk h2 h=>oE h λe h3 h=>xA (W.de h) λe9 hk=>?_;subst e9;exact⟨i,k,gc h1,h2,h3,bc hk⟩
theorem LS{h:aP}{vs:Array ak}{xs:List D}(r:aI U h vs.toList xs)(e:xs[k]? =aa d):∃v,vs[k]? =aa v∧Rd U h v d:=aD (r.get e) λv hv rv=>⟨v,(AQ).symm.trans hv,rv⟩
theorem VX{vs:Array ak}{i:Int}{v:ak}(L:s.heap.IsList a vs)(hp:place vs.size i=aa k)(hi:i.natAbs<1000000000)(hv:vs[k]? =aa v)(h:Q v s):
  ar (aw prog w) A (getItem (.ref a) (.int i t)) Q E s:=by
 induction i with
 |ofNat m=>replace hp:=iJ hp;subst hp;exact wpAny_getItem_list L (jd _) (TJ (uj.mpr (d4 hi)) (by decide)) hv h
 |negSucc m=>
  have hp:cond (aX (m+1) vs.size) (aa (vs.size - (m+1))) af=aa k:=hp;induction q:aX (m+1) vs.size with
  |false=>exact zN (q▸hp)
  |true=>replace hp:=iJ (q▸hp);subst hp;have:=bc q;exact wpAny_getItem_list_neg L (DX m) (aha (uj.mpr this)) (qZ (d4 hi) (b:=9223372036854775808) (by decide) (by decide)).1 (rE (Lr this) hv) h
theorem LU{value slice:au}{a i:D}{vi:ak}(h:kK a i=aa (d,ae))(ra:Rp U s.heap va a)(ri:Rd U s.heap vi i):
  Gv w A U s (Ke value slice va vi) d:=by
 unfold kK at h;induction q:nt a with
 |some xs=>
  replace h:=q▸h;refine E4 (VW h) λi k e9 hp e hk=>?_;subst e9;refine xE (rf ri) λt e9=>?_;subst e9;intro Q E hQ;rcases w7 q with rfl|rfl
  ·refine ib ra.listI λZ Z Z e9 hl r=>?_;subst e9;refine aD (LS r e) λv hv rv=>?_;have L:s.heap.IsList _ _:=⟨_,hl,rfl,_,rfl⟩;replace hp:=eL▸je r.length▸hp;exact u2 L.typeIs Kg.lookup (VX L hp hk hv (hQ _ _ (.refl s) rv))
  ·refine fy ra.tupI λZ Z Z e9 hl hn r=>?_;subst e9;refine aD (LS r e) λv hv rv=>?_;have L:IsTup s.heap _ _:=⟨_,hl,rfl,_,rfl⟩;replace hp:=eL▸je r.length▸hp;have hx:=LR hp (Array.getElem?_eq_some_iff.mp hv).1;exact u2 L.typeIs slot_tuple_getitem.lookup (PyProof.Rows.getItem_tuple L (qZ (d4 hk) (b:=9223372036854775808) (by decide) (by decide)).1 (qZ (d4 hk) (a:= -9223372036854775808) (by decide) (by decide)).2 hx hv (hQ _ _ (.refl s) rv))
 |none=>
  replace h:=q▸h;refine oE h λx h1 h=>oE h λi h2 h=>oE h λk h3 h=>oE h λc h4 h=>xA (W.de h) λe9 hk=>?_;subst e9;clear h;obtain rfl:=kN h1;clear h h1;obtain rfl:=gc h2;clear h h2;refine xE ra.cQ λZ e9=>?_;subst e9;clear h;refine xE (rf ri) λt e9=>?_;subst e9;have hk:=bc hk;intro Q E hQ;refine u2 (TY s _ _) aho.lookup (PyProof.Rows.getItem_str (c:=c) ?_ ?_ (hQ _ _ .tok (.str _ _)))
  ·rw[Bool.or_eq_false_iff];have hk:=qZ (D9 hk) (a:= -9223372036854775808) (b:=9223372036854775808) (by decide) (by decide);exact⟨decide_eq_false (Kc.mpr hk.1),decide_eq_false (Int.not_le.mpr hk.2)⟩
  ·have hx:=LR h3 (LQ h4);replace hx:=(ic ..)▸hx;exact rE hx ((AQ).symm.trans h4)
end
theorem LV(n k:Nat):clipAt n (k:Int)=min k n:=by unfold clipAt;exact rE (if_neg (Kc.mpr (jd k))) (Lq n k)
theorem VY{i:Int}(h:ly (aa i)):∃k:Nat,i=(k:Int):=by obtain⟨h,_⟩:=fJ.mp (h:(decide (0≤i)&&_));exact⟨i.toNat,(Kf (of_decide_eq_true h)).symm⟩
theorem Ff{a:Option Int}(h:ly a):a.elim 0 (clipAt n)=min (lo a) n:=by
 induction a with
 |none=>exact(Nat.zero_min n).symm
 |some i=>obtain⟨k,rfl⟩:=VY h;exact LV n k
theorem Fg(xs:List α)(a b:Nat):(xs.drop (min a xs.length)).take (min b xs.length - min a xs.length)=(xs.take b).drop a:=by
 refine rS ahp ?_;have e1:xs.take (min b xs.length)=xs.take b:=rS List.take_take (rE Kh rfl)
 have e2:∀l:List α,l.length≤xs.length→l.drop (min a xs.length)=l.drop a:=λl h=>by
  by_cases q:a≤xs.length
  ·exact rE (DY q) rfl
  ·exact rE (AR (by lia)) (rE (AR (by lia)) rfl)
 exact rE e1 (rE (e2 _ (by refine rE qG ?_;lia)) rfl)
noncomputable def pK(n:Nat)(b:Option Int):Nat:=match b with|none=>n|some i=>Lf n i
theorem Fh(b:Option Int):b.elim n (clipAt n)=min (pK n b) n:=by
 induction b with
 |none=>exact(Nat.min_self n).symm
 |some i=>induction i with
  |ofNat k=>exact LV n k
  |negSucc k=>show clipAt n (qC k)=min (n - (k+1)) n;unfold clipAt;exact rE (if_pos (DX k)) (Vx n k)
theorem y8(xs:List α)(a b:Option Int):cut xs a b=(xs.take (pK xs.length b)).drop (lo a):=by
 induction b with
 |none=>show xs.drop (lo a)=(xs.take xs.length).drop (lo a);exact rE Kh rfl
 |some i=>rfl
theorem LW(items:Array ak){a b:Option Int}(ha:ly a):(AS items a b af).toList=cut items.toList a b:=by refine rE (slicePick_plain ..) (rE (Ff ha) (rE (Fh b) (rE (y8 ..) (rE eL ?_))));have:=Fg items.toList (lo a) (pK items.size b);replace this:=eL▸this;simpa using this
theorem aI.cut{h:aP}(r:aI U h vs ds)(a b:Option Int):aI U h (cut vs a b) (cut ds a b):=rE (y8 ..) (rE (y8 ..) (rE r.length ((r.take _).drop _)))
theorem aI.jF{h:aP}(r:aI U h vs ds)(k:Nat):∀j,aI U h (jF k j vs) (jF k j ds):=by
 induction r using aI.rec (motive_1:=λZ Z Z=>True)with
 |nil=>intro j;induction j<;>exact .nil
 |cons a b _ ih=>intro j;induction j with
  |zero=>exact .cons a (ih k)
  |succ j=>exact ih j
 |_=>trivial
theorem Fi{f g:α→Option β}:∀ {l:List α},(∀x∈l,f x=g x)→l.filterMap f=l.filterMap g:=by
 intro L0;induction L0 with
 |nil=>intro _;exact rfl
 |cons x l ih=>intro h;exact rE AU (rE AU (rE (h x bG) (rE (ih λy hy=>h y (cf _ hy)) rfl)))
theorem VZ(k:Nat):∀ (l:List α) (j m:Nat),l.length≤j+(k+1) * m→(∀i,i<m→j+(k+1) * i<l.length)→
  ((bM m).map λi=>j+(k+1) * i).filterMap (l[·]?)=jF k j l:=by
 intro l;induction l with
 |nil=>
  intro j m _ h2;induction m with
  |zero=>induction j<;>rfl
  |succ m=>have:=h2 0 (by lia);simp at this
 |cons x xs ih=>
  intro j m h1 h2;induction j using ll with
  |zero=>
   induction m using ll with
   |zero=>simp at h1
   |succ m=>
    refine rE List.range_succ_eq_map (rE iS (rE AU ?_));simp only[Nat.mul_zero,TZ,List.getElem?_cons_zero,Le];congr 1;refine rS (ih k m (by simp only[bT]at h1;replace h1:=(ur ..)▸h1;lia) (λi hi=>by
     have:=h2 (i+1) (by lia);simp only[bT]at this;replace this:=(ur ..)▸this;lia)) ?_
    refine rE dJ (rE AV (rE AV ?_));apply Fi;intro i _;simp only[T9,lj,Nat.succ_eq_add_one];have:(k+1) * (i+1)=(k+(k+1) * i)+1:=by refine rE (ur ..) ?_;lia
    exact rE this (rE (Ki) rfl)
  |succ j=>
   rw[Le,← ih j m (by simp only[bT]at h1;lia) (λi hi=>by
    have:=h2 i hi;simp only[bT]at this;lia)]
   refine rE AV (rE AV ?_);apply Fi;intro i _;simp only[T9];have:j+1+(k+1) * i=(j+(k+1) * i)+1:=by lia
   exact rE this (rE (Ki) rfl)
set_option tactic.hygienic true in
theorem V0(items:Array ak){a b:Option Int}(ha:ly a)(k:Nat):(AS items a b (aa (Ea (k+1)))).toList=jF k 0 (cut items.toList a b):=by
 have hs:Eb a b (aa (Ea (k+1))) items.size=(((min (lo a) items.size:Nat):Int),((min (pK items.size b) items.size:Nat):Int),((k+1:Nat):Int)):=by
  have h0:=sliceBounds_plain a b items.size;replace h0:=Fh b▸Ff ha▸h0;unfold Eb at h0 ⊢;have hp:Ea (k+1)>0:=by simp only[Int.ofNat_eq_natCast];lia
  simp only[Ua,Option.getD_none,hp,if_true,gt_iff_lt,Int.one_pos]at h0 ⊢;simp only[yt]at h0 ⊢;exact⟨h0.1,h0.2.1,rfl⟩
 unfold AS;refine rE hs ?_;simp only[AW];have hc:cut items.toList a b=(items.toList.take (min (pK items.size b) items.size)).drop (min (lo a) items.size):=by refine rE (y8 ..) (rE eL ?_);have:=Fg items.toList (lo a) (pK items.size b);replace this:=je ahp▸eL▸this;exact this.symm
 generalize hA:min (lo a) items.size=A at hc ⊢;generalize hB:min (pK items.size b) items.size=B at hc ⊢;have hBn:B≤items.size:=hB▸um _ _;refine rE hc ?_;unfold sliceRange;have hp:((k+1:Nat):Int)>0:=by lia
 simp only[hp,if_true];generalize hm:((if(A:Int)<B then((B:Int) - A+((k+1:Nat):Int) - 1)/((k+1:Nat):Int)else 0)).toNat=m;have hd:(B - A+k)/(k+1)=m:=by
  refine rS hm ?_;split
  ·rename_i h;have e:(B:Int) - A+((k+1:Nat):Int) - 1=(((B - A+k:Nat)):Int):=by lia
   refine rE e (rS (Int.natCast_ediv ..) ?_);rfl
  ·rename_i h;have:B - A=0:=by lia
   refine rE this (rE (lj ..) ?_);exact Nat.div_eq_of_lt (by lia)
 have hl:((items.toList.take B).drop A).length=B - A:=by simp;lia
 have key:=VZ k ((items.toList.take B).drop A) 0 m (by
   refine rE hl (rS hd (rE (lj ..) ?_));exact Nat.le_of_add_le_add_right (b:=k) (aF (sF (ahq (B - A+k) (k+1)).symm) (qI (uq (jX _ (AX k))) _))) (λi hi=>by
   refine rE hl (rE (lj ..) ?_);have h1:(k+1) * (i+1)≤(k+1) * m:=yu _ hi;have h2:(k+1) * m≤B - A+k:=rS hd (ahr _ _)
   replace h1:=(ur ..)▸h1;exact Lv (aF h1 h2))
 refine rS key (rE AV (rE AV ?_));apply Fi;intro i hi;simp only[T9,lj];have e:(((A:Int)+((k+1:Nat):Int) * (i:Int))).toNat=A+(k+1) * i:=by
  have:(A:Int)+((k+1:Nat):Int) * (i:Int)=((A+(k+1) * i:Nat):Int):=by simp
  refine rE this ?_;rfl
 refine rE e ?_;have hi:=lq.mp hi;have h1:(k+1) * (i+1)≤(k+1) * m:=yu _ hi;have h2:(k+1) * m≤B - A+k:=rS hd (ahr _ _)
 replace h1:=(ur ..)▸h1;refine rE (Kj) ?_;refine rE (List.getElem?_take_of_lt (Nat.add_lt_of_lt_sub' (Lv (aF h1 h2)))) ?_;simp
section
open PySem.Builtin PySem.Builtin.Str
theorem LX{v:ak}{k:Option Int}(h:qJ v k):∃p:Option (Int × mY),partValue p=v∧p.map (·.1)=k:=by
 induction h with
 |none=>exact⟨af,rfl,rfl⟩
 |int i t=>exact⟨aa (i,t),rfl,rfl⟩
set_option tactic.hygienic true in
theorem V1(x:ah){l:Option Int}(hl:ly l)(u:Option Int):Uc x l u=aj (cut (sL x) l u):=by
 have hc:cut (sL x) l u=((sL x).drop (min (lo l) x.length)).take (min (pK x.length u) x.length - min (lo l) x.length):=by refine rE (y8 ..) ?_;have:=Fg (sL x) (lo l) (pK x.length u);rw[ic]at this ⊢;exact this.symm
 have hi:strSliceIndices l u 1 x.length=(bM (min (pK x.length u) x.length - min (lo l) x.length)).map (λk=>min (lo l) x.length+k):=by have h0:=sliceBounds_plain l u x.length;replace h0:=Fh u▸Ff hl▸h0;have e:strSliceIndices l u 1 x.length=sliceRange (Eb l u af x.length).1 (Eb l u af x.length).2.1 (Eb l u af x.length).2.2:=rfl;refine rE e (rE h0 ?_);exact sliceRange_one _ _
 have hp:(strSliceIndices l u 1 x.length).filterMap (x.cps[·]?)=cut (sL x) l u:=by refine rE hi (rE (pick_run ..) (rE hc ?_));rfl
 unfold Uc;refine rE hp ?_;split
 ·rename_i h;have h:(strSliceIndices l u 1 x.length).length=x.length:=beq_iff_eq.mp (fJ.mp h).2;replace h:=qK▸(aQ ..)▸hi▸h;apply wD;apply AP;show sL x=cut (sL x) l u;refine rE hc (rE h ?_);have e1:min (lo l) x.length=0∨x.length=0:=(Nat.eq_zero_or_pos x.length).elim .inr λhn=>.inl (Nat.eq_zero_of_not_pos λhb=>absurd h (iT (hZ (yv (hZ hn (aF (sF h.symm) (qD ..))) hb) (um ..))));rcases e1 with e1|e1
  ·exact rE e1 (rE Kk (rS (ic ..) (rE Kh rfl)))
  ·have:sL x=[]:=wF (rE (ic ..) e1);refine rE this ?_;simp
 ·rfl
section
variable{w:cM}
theorem Gv.newList(hb:UB U s){t:cN ak}{vs:Array ak}{xs:List D}(r:aI U s.heap vs.toList xs)
  (h:∀ (Q E:aW),Q (.ref s.heap.objs.size) {s with heap:=s.heap.push (cy vs 0)}→ar (aw prog w) A t Q E s):Gv w A U s t (.list xs):=
 λQ E hQ=>h Q E (hQ _ _ .push (.list (n:=0) (eT _ rfl) hb.new (r.ext (.push (s:=s) (k:=s.toks)))))
theorem Fj{a b:Option Int}{c:Bool}(h:(ly a&&uN b&&c)):ly a∧c:=xA (fJ.mp h) λh1 h2=>xA (fJ.mp h1) λh0 h1=>⟨h0,h2⟩
theorem V2{i:Int}(h:ET i=aa k):i=Ea (k+1):=by
 unfold ET at h;induction q:decide (0<i)with
 |false=>exact zN (q▸h)
 |true=>replace h:=iJ (q▸h);subst h;have q:=of_decide_eq_true q;show i=((i.toNat - 1+1:Nat):Int);rw[Nat.sub_add_cancel (Int.lt_toNat.mpr q)];exact(Kf (TH q)).symm
theorem V3(hb:UB U s){value slice:au}{vs:Array ak}{xs:List D}{l u st:Option Int}{sl:aE}{vl vu pL:ak}
  (h:Lg xs l u st=aa (d,ae)) (hl:s.heap.get? a=aa (cy vs n)) (r:aI U s.heap vs.toList xs)
  (hs:s.heap.IsSliceOf sl vl vu pL) (pl:qJ vl l) (pu:qJ vu u) (ps:qJ pL st):Gv w A U s (Ke value slice (.ref a) (.ref sl)) d:=by
 have L:s.heap.IsList a vs:=⟨_,hl,rfl,_,rfl⟩;have hz:aX xs.length big→vs.size≤qF:=λh=>by have:=bc h;replace this:=eL▸je r.length▸this;exact this
 induction st with
 |none=>
  refine xA (W.de h) λe9 hk=>?_;subst e9;refine xA (Fj hk) λh1 h3=>?_;exact .newList hb (vs:=AS vs _ _ af) (rE (LW vs h1) (r.cut _ _)) λQ E hQ=>u2 L.typeIs Kg.lookup
   (Ud L hs pl pu ps (by simp) hQ (hz h3))
 |some i=>
  refine oE h λk h1 h9=>?_;clear h;obtain rfl:=V2 h1;refine xA (W.de h9) λe9 hk=>?_;subst e9;refine xA (Fj hk) λh1 h3=>?_;exact .newList hb (vs:=AS vs _ _ (aa (Ea (k+1)))) (by rw[V0 vs h1];exact(r.cut _ _).jF _ _) λQ E hQ=>u2 L.typeIs Kg.lookup
   (Ud L hs pl pu ps (by simp;lia) hQ (hz h3))
theorem LY(hb:UB U s){value slice:au}{a:D}{l u st:Option Int}{sl:aE}{vl vu pL:ak}
  (h:ny a l u st=aa (d,ae)) (ra:Rp U s.heap va a)
  (hs:s.heap.IsSliceOf sl vl vu pL) (pl:qJ vl l) (pu:qJ vu u) (ps:qJ pL st):Gv w A U s (Ke value slice va (.ref sl)) d:=by
 unfold ny at h;induction q:d7 a with
 |some xs=>replace h:=q▸h;obtain rfl:=nE q;refine ib ra.listI λZ Z Z e9 hl r=>?_;subst e9;exact V3 hb h hl r hs pl pu ps
 |none=>
  replace h:=q▸h;refine oE h λx h1 h=>?_;obtain rfl:=kN h1;refine xE ra.cQ λt e9=>?_;subst e9;induction st with
  |some i=>exact zN h
  |none=>
  refine xA (W.de h) λe9 hk=>?_;subst e9;refine xA (Fj hk) λh1 hk=>?_;have hk:=bc hk;replace hk:=(ic ..)▸hk;intro Q E hQ;refine aD (LX pl) λp e9 e1=>?_;subst e9;refine aD (LX pu) λq e9 e2=>?_;subst e9;cases ps;refine u2 (TY s _ _) aho.lookup (wpAny_getItem_str_slice (l:=p) (u:=q) (st:=af) hs rfl ?_);refine post_val_or_str ⟨?_,λt' k=>?_⟩
  ·have:=aF (Txt.slice_le x (p.map (·.1)) (q.map (·.1))) hk;exact this
  ·refine hQ _ _ .tok ?_;have:=V1 x h1 u;refine rS this (rS e1 (rS e2 ?_));exact Rd.str (Uc x (p.map (·.1)) (q.map (·.1))) t'
end
end
theorem LZ(cs:List Char):sH (Ec cs)=aj (cs.map Char.toNat):=by apply wD;show(cpsOfBytes 0 0 (Ec cs).toByteArray.data.toList).toArray=_;refine rE (cpsOfBytes_string ..) ?_;simp[aj]
theorem L3:∀d,d<10→(Nat.digitChar d).toNat=48+d:=by decide
theorem digits_eq:∀ (f n:Nat),n<10^f→0<f→(Ed 10 n).map Char.toNat=uO f n:=by
 intro L0;induction L0 with
 |zero=>intro _ _ h;exact absurd h (qE _)
 |succ f ih=>
  intro n hn _;refine rE (Vm ..) ?_;induction h:aU n 10 with
  |true=>have h:n<10:=bc h;refine rE (ahs h) ?_;simp[L3 n h]
  |false=>
   have h:10≤n:=by apply Ue;intro q;have:aU n 10:=bO q;exact zT (this▸h)
   have e:Ed 10 n=Ed 10 (n/10)++Ed 10 (n%10):=rE (Nat.toDigits_append_toDigits (by decide) (by lia) (by lia)) (rE (ahq ..) rfl)
   have hf:0<f:=by
    induction f using ll with
    |zero=>simp at hn;lia
    |succ f=>exact AX _
   refine rE e (rE dw ?_);refine rE (ih (n/10) (by replace hn:=(Nat.pow_succ ..)▸hn;lia) hf) (rE (ahs (by lia)) ?_);simp[L3 (n%10) (by lia)]
theorem V4(n:Nat)(h:n<10^20):sH (toString n)=aj (uO 20 n):=by show sH (Nat.repr n)=_;exact rE aht (rE (LZ ..) (rE (digits_eq 20 n h (by decide)) rfl))
theorem V5(i:Int)(h:i.natAbs<1000000000):sH (toString i)=aj (cQ i):=by
 induction i with
 |ofNat n=>exact V4 n (by simp at h;lia)
 |negSucc n=>
  have h:n+1<1000000000:=h;have e:toString (qC n)=Ec ('-'::Ed 10 (n+1)):=by
   show "-" ++Nat.repr (n+1)=_;refine rE aht ?_;have:("-" :String)=Ec ['-']:=by decide
   refine rE this (rS String.ofList_append ?_);rfl
  refine rE e (rE (LZ ..) (rE iS (rE (digits_eq 20 (n+1) (by lia) (by decide)) ?_)));rfl
theorem L4:∀ (l:ax) (acc n:Nat),uP acc l=aa n→l.foldl (λacc c=>acc * 10+(c - 48)) acc=n:=by
 intro l;induction l with
 |nil=>exact λZ Z h=>iq h
 |cons c cs ih=>
  intro acc n h;replace h:=(Lh ..)▸h;induction hc:(aX 48 c&&aX c 57)with
  |false=>exact zN (hc▸h)
  |true=>replace h:=hc▸h;exact ih _ _ h
theorem L5:∀ (l:ax) (acc n:Nat),uP acc l=aa n→∀c∈l,48≤c∧c≤57:=by
 intro l;induction l with
 |nil=>exact λZ Z Z Z h=>nomatch h
 |cons c cs ih=>
  intro acc n h;replace h:=(Lh ..)▸h;induction hc:(aX 48 c&&aX c 57)with
  |false=>exact zN (hc▸h)
  |true=>replace h:=hc▸h;exact xA (fJ.mp hc) λh1 h2 d hd=>(bE.mp hd).elim (λe=>by refine rE e ?_;exact⟨bc h1,bc h2⟩) (ih _ _ h d)
set_option tactic.hygienic true in
theorem V6{l:ax}{i:Int}(h:EU l=aa i)(hl:l.length≤18):PySem.intText? (aj l)=aa i:=by
 have hz:(aj l).length≤4300:=by show l.toArray.size≤4300;refine rE Ug ?_;lia
 unfold EU at h;split at h
 ·exact zN h
 ·rename_i c cs;split at h
  ·rename_i n hn;replace h:=iJ h;subst h;have ha:=L5 _ _ _ hn;have hv:=L4 _ _ _ hn;have:=PySem.intText_neg (x:=aj (45::c::cs)) rfl ha (by simp) hz;refine rE this ?_;congr 2;refine rS hv ?_;rfl
  ·exact zN h
 ·rename_i c cs bQ;split at h
  ·rename_i n hn;replace h:=iJ h;subst h;have ha:=L5 _ _ _ hn;have hv:=L4 _ _ _ hn;have:=PySem.intText_digits (x:=aj (c::cs)) ha (by simp[aj]) hz;refine rE this ?_;congr 1;refine rS hv ?_;rfl
  ·exact zN h
section
open PySem.Builtin PySem.Builtin.Str
theorem L6(sep x y:ax)(r:cP):lz sep (x::y::r)=x++sep++lz sep (y::r):=rfl
theorem V7(sep:ah):∀ (ps:List ah) (acc:Array Nat),(ps.foldl (λacc p=>acc++sep.cps++p.cps) acc).toList=lz (sL sep) (acc.toList::ps.map sL):=by
 intro L0;induction L0 with
 |nil=>intro acc;exact rfl
 |cons p ps ih=>
  intro acc;refine rE sE (rE (ih ..) (rE iS (rE (L6 ..) ?_)));induction ps using bj with
  |nil=>simp[Vn,Vo,Vp,sL]
  |cons q r=>simp[L6,sL]
theorem L7(sep:ah)(ps:List ah):glued sep ps=aj (lz (sL sep) (ps.map sL)):=by
 apply wD;apply AP;unfold glued;induction ps using bj with
 |nil=>rfl
 |cons p ps=>exact V7 sep ps p.cps
theorem V8(l:ax):sL (aj l)=l:=rfl
theorem V9(x:ah):aj (sL x)=x:=rfl
end
section
open PySem.Builtin PySem.Builtin.Str
section
variable{w:cM}
theorem Wa{xs:List D}(h:Ll xs=aa (d,ae)):d=.int (xs.length:Int)∧xs.length≤1000000:=by refine xA (W.de h) λe9 hk=>?_;subst e9;exact⟨rfl,bc hk⟩
theorem L8{a:D}{v:ak}(r:Rp U s.heap v a)(h:sV a=aa (d,ae)):Gv w A U s (call (.builtin "len") [v]) d:=by
 unfold sV at h;induction q:d7 a with
 |some xs=>replace h:=q▸h;obtain rfl:=nE q;refine ib r.listI λZ Z Z e9 hl ra=>?_;subst e9;refine xA (Wa h) λe9 hk=>?_;subst e9;have e:=ra.length;replace e:=eL▸e;rw[← e]at hk ⊢;exact λQ E hQ=>call_len_list ⟨_,hl,rfl,_,rfl⟩ (by lia) (hQ _ _ .tok (.int _ _))
 |none=>replace h:=q▸h;refine oE h ?_;clear h;intro x h1 h;obtain rfl:=kN h1;clear h1;refine xA (W.de h) λe9 hk=>?_;subst e9;have hk:=bc hk;clear h;refine xE r.cQ λZ e9=>?_;subst e9;rw[ic]at hk ⊢;exact λQ E hQ=>PyProof.Rows.len_str (by lia) (hQ _ _ .tok (.int _ _))
theorem Wb{a:D}{v:ak}(r:Rd U s.heap v a)(h:EY a=aa (d,ae)):Gv w A U s (call (.type "str") [v]) d:=by
 unfold EY at h;induction q:cY a with
 |some i=>
  replace h:=q▸h;obtain rfl:=gc q;refine xA (W.de h) λe9 hk=>?_;subst e9;have hk:i.natAbs<1000000000:=bc hk;refine xE r.iz λZ e9=>?_;subst e9;refine λQ E hQ=>P.str_of_int ?_ (hQ _ _ .tok ?_)
  ·by_cases h0:i.natAbs=0
   ·refine rE h0 ?_;decide+kernel
   ·have:i.natAbs.log2<30:=(Nat.log2_lt h0).mpr (by lia);lia
  ·exact rE (V5 i hk) (.str _ _)
 |none=>
  replace h:=q▸h;refine oE h ?_;clear h;intro b h1 h;obtain rfl:=LB h1;clear h1;cases W.bp h;clear h;obtain rfl:=r.E6;refine λQ E hQ=>P.str_of_bool (hQ _ _ .tok ?_);have e1:sH "True" =Li:=by decide+kernel
  have e2:sH "False" =Lj:=by decide+kernel
  refine rE e1 (rE e2 ?_);induction b<;>exact .str _ _
theorem Wc{a:D}{v:ak}(r:Rd U s.heap v a)(h:Lm a=aa (d,ae)):Gv w A U s (call (.type "int") [v]) d:=by refine aD (nF h) λx e9 e=>?_;subst e9;clear h;refine oE e λi hi e=>xA (W.de e) λe9 hk=>?_;subst e9;have hk:=bc hk;clear e;refine xE r.cQ λZ e9=>?_;subst e9;have:=V6 hi hk;replace this:=(V9 ..)▸this;exact .int λQ E hQ=>PySem.W.KIN.call_text this (by refine rS (ic ..) ?_;lia) (hQ _)
theorem Wd{a:D}{v:ak}(r:Rd U s.heap v a)(h:yU a=aa (d,ae)):Gv w A U s (call (.builtin "isinstance") [v,.type "int"]) d:=by
 unfold yU at h;induction q:cY a with
 |some x=>replace h:=q▸h;obtain rfl:=gc q;cases W.bp h;refine xE r.iz λZ e9=>?_;subst e9;exact λQ E hQ=>IsiPair.int_int (hQ _ _ (.refl s) (.bool _))
 |none=>replace h:=q▸h;refine oE h ?_;clear h;intro xs h1 h;obtain rfl:=nE h1;clear h1;cases W.bp h;clear h;refine fy r.listI λZ Z Z e9 hl Z Z=>?_;subst e9;exact λQ E hQ=>IsiPair.isList_int (h₀:=s.heap) ⟨_,hl,rfl,_,rfl⟩ (λZ Z e=>e) (hQ _ _ .tok (.bool _))
theorem We(a b c:Nat)(f:Nat→Nat):(if a≤c∧c≤b then f c else c)=cond (aX a c&&aX c b) (f c) c:=by
 by_cases h1:a≤c∧c≤b
 ·refine rE (if_pos h1) (rE (bO h1.1) (rE (bO h1.2) ?_));rfl
 ·refine rE (if_neg h1) ?_;induction q:(aX a c&&aX c b)with
  |false=>rfl
  |true=>exact xA (fJ.mp q) λq1 q2=>absurd ⟨bc q1,bc q2⟩ h1
theorem Wf(hk:(mh (sL x)&&aX (sL x).length n)):(∀c∈x.cps.toList,c<128)∧x.length≤n:=xA (fJ.mp hk) λh1 h2=>⟨λc hc=>bc (fj.mp h1 c hc),by refine rS (ic ..) ?_;exact bc h2⟩
theorem map_len(x:ah)(f:Nat→Nat)(h:x.length≤1000000):decide ((aj ((sL x).map f)).length>qF)=ag:=by
 have:(aj ((sL x).map f)).length=x.length:=rS (ic ..) (rE (V8 ..) (rE (aQ ..) (rE (ic ..) rfl)))
 exact rE this (decide_eq_false (by unfold qF;lia))
theorem L9{a:D}{v:ak}(r:Rd U s.heap v a)(h:EZ a=aa (d,ae)):Gv w A U s (call (.builtin "str.lower") [v]) d:=by
 refine aD (nF h) λx e9 e=>?_;subst e9;clear h;refine xA (W.de e) λe9 hk=>?_;subst e9;refine xA (Wf hk) λha hz=>xE r.cQ λZ e9=>?_;subst e9;have e:Txt.lower x=aj (da (sL x)):=by refine rE (lower_ascii ha) (wD (AP ?_));show(x.cps.map lo1).toList=da (sL x);exact rE Kl (List.map_congr_left λc Z=>We 65 90 c (· +32))
 refine λQ E hQ=>SC.lower ?_ (hQ _ _ .tok ?_)
 ·exact rE e (map_len x _ hz)
 ·exact rE e (.str _ _)
theorem aI.strs{h:aP}:∀ (ds:List D) (vs:List ak) {l:List ah},aI U h vs ds→Bx ds=aa l→StrsAre vs l:=by
 intro ds;induction ds with
 |nil=>intro vs l r e;obtain rfl:=r.sX;replace e:=iJ e;subst e;exact .nil
 |cons d ds ih=>
  intro vs l r e;refine cK r.uZ λZ Z e9 a b=>?_;subst e9
  ·
   refine oE e λx h1 e=>oE e λl' h2 e=>?_;replace e:=iJ e;subst e;obtain rfl:=kN h1;refine xE a.cQ λZ e9=>?_;subst e9;exact .cons _ _ (ih _ b h2)
theorem Wg(n:Nat):∀ (l:List ah) (acc:Nat),l.foldl (λn' y=>n'+(sL y).length+n) acc=acc+(l.map (·.length)).sum+l.length * n:=by
 intro L0;induction L0 with
 |nil=>intro acc;simp
 |cons y l ih=>intro acc;refine rE sE (rE (ih ..) ?_);simp only[iS,ahu,bT,ic,AY];lia
theorem Wh{a b:D}{v u:ak}(r:Rd U s.heap v a)(r':Rd U s.heap u b)(h:E0 a b=aa (d,ae)):Gv w A U s (call (.builtin "str.join") [v,u]) d:=by
 refine aD (nF h) λx e9 e1=>?_;subst e9;clear h;refine aD (y7 e1) λys e9 e2=>?_;subst e9;clear e1;refine oE e2 λl e e3=>xA (W.de e3) λe9 hk=>?_;subst e9;have hk:=bc hk;replace hk:=(ic ..)▸(Wg ..)▸hk;refine xE r.cQ λZ e9=>?_;subst e9;refine fy r'.listI λZ Z Z e9 hl hn ra=>?_;subst e9
 ·
  refine λQ E hQ=>join_list ⟨_,hl,rfl,_,rfl⟩ (aI.strs _ _ ra e) (by lia) λt' k=>hQ _ _ .tok ?_;show Rd U s.heap (.str (glued x l) t') _;exact rE (L7 ..) (.str _ _)
end
end
section
open PySem.Builtin PySem.Builtin.Str
theorem aI.ints{h:aP}:∀ (ds:List D) (vs:List ak) {l:List Int},aI U h vs ds→Bw ds=aa l→vs.length=l.length∧∀ (i:Nat) (v:ak),vs[i]? =aa v→∃t,v=Value.int (l.getD i 0) t:=by
 intro ds;induction ds with
 |nil=>intro vs l r e;obtain rfl:=r.sX;replace e:=iJ e;subst e;exact⟨rfl,λi v h=>by exact zN h⟩
 |cons d ds ih=>
  intro vs l r e;refine cK r.uZ λZ Z e9 a b=>?_;subst e9
  ·
   refine oE e λx h1 e=>oE e λl' h2 e=>?_;replace e:=iJ e;subst e;obtain rfl:=gc h1;refine xE a.iz λZ e9=>?_;subst e9;refine xA (ih _ b h2) λi1 i2=>⟨congrArg (· +1) i1,λi v h=>?_⟩;induction i using ll with
   |zero=>replace h:=iJ h;subst h;exact⟨_,rfl⟩
   |succ i=>exact i2 i v h
theorem Wi(f:Nat→Int):∀n,preSum f (n+1)=f 0+preSum (λi=>f (i+1)) n:=by
 intro L0;induction L0 with
 |zero=>simp[preSum]
 |succ n ih=>rewrite[preSum];refine rE ih ?_;rw[preSum];lia
theorem Wj:∀l:List Int,preSum (λi=>l.getD i 0) l.length=uQ l:=by
 intro L0;induction L0 with
 |nil=>exact rfl
 |cons x l ih=>refine rE bT (rE (Wi ..) ?_);simp only[List.getD_cons_zero,List.getD_cons_succ];refine rE ih ?_;rfl
theorem Wl{f:Nat→Int}(hf:∀i,(f i).natAbs<1000000000):∀n,(preSum f n).natAbs≤n * 1000000000:=by
 intro L0;induction L0 with
 |zero=>simp[preSum]
 |succ n ih=>rw[preSum];exact aF (Int.natAbs_add_le _ _) (aF (uk ih (d4 (hf n))) (sF (AY n _).symm))
section
variable{w:cM}
set_option tactic.hygienic true in
theorem Wm(R:bW A n){a:D}{v:ak}(r:Rd U s.heap v a)(h:Ln a=aa (d,ae)):Gv w A U s (call (.builtin "sum") [v]) d:=by
 refine aD (y7 h) λxs e9 e1=>?_;subst e9;refine oE e1 λl e e2=>xA (W.de e2) λe9 hk=>?_;subst e9;refine xA (fJ.mp hk) λhk rj=>?_;have hlen:l.length<1000000:=bc rj;have jE:∀i,(l.getD i 0).natAbs<1000000000:=λi=>by
  refine rE (m7) ?_;induction q:l[i]? with
  |none=>decide
  |some x=>exact bc (fj.mp hk x (sI q))
 clear hk rj h e1 e2;refine fy r.listI λ_ _ _ e9 hl hn ra=>?_;subst e9
 ·
   refine xA (aI.ints _ _ ra e) λh1 h2=>?_;intro Q E hQ;rename_i a0 vs _;have L:s.heap.IsList a0 vs:=⟨_,hl,rfl,_,rfl⟩;have eV:=jA hl;refine call_sum_walk (Km L ⟨_,_,_,_,_,_,λi=>l.getD i 0,rfl,Uh (by exact R.handled) s.heap.objs.size a0 (iT eV) vs,⟨⟨_,eT _ rfl,rfl,rfl⟩,L.at λo e=>jV _ e⟩,?_,?_,?_,?_⟩)
   ·intro b hb;simp only[AZ];simp at hb;rcases hb with rfl|rfl
    ·exact Ee _
    ·exact yw eV
   ·intro i v hv;exact h2 i v (by simpa using hv)
   ·intro j hj;have hj:j<l.length:=by refine rS h1 ?_;simpa using hj
    exact⟨qZ (d4 (jE j)) (by decide) (by decide),qZ (aF (Wl (f:=λi=>l.getD i 0) jE (j+1)) (Ko _ (aF hj (d4 hlen)))) (by decide) (by decide)⟩
   ·intro h' tk t' j5;have hs:vs.size=l.length:=by refine rS h1 ?_;simp
    refine rE hs (rE (Wj ..) ?_);refine hQ _ _ (.heap λb o e=>j5 b o ?_ (jV _ e)) (.int _ _);have:=jA e;intro hc;replace this:=dK.mp hc▸this;exact qE _ this
end
end
section
open AutoSeq1 (wpAny_loadPart')
open MeetsSeq3 (plain_eq_loop entry_eq_loop)
noncomputable def y9(A:dU)(s:ay)(v u:ak)(b:Bool):Prop:=∀ (prog:yr) (w:cM) (E Q:aW),Q (.bool b) s→ar (aw prog w) A (richCompare .Lt v u) Q E s
theorem Wo{ys:List D}(hi:i≤m)(sZ:i≤k)(e1:m - i=0)(e2:k - i=ys.length):(!ys.isEmpty)=decide (m<k):=by
 have em:=A0 (Ef e1) hi;clear e1 sZ hi;subst em;induction ys using bj with
 |nil=>exact(decide_eq_false (pz.mpr (Ef e2))).symm
 |cons y ys=>exact(decide_eq_true (Ui e2)).symm
theorem Ma{vs:Array ak}{v:ak}{l:List ak}(e:vs.toList.drop i=v::l):vs[((i:Nat):Int).toNat]? =aa v∧vs.toList.drop (i+1)=l:=by
 constructor
 ·have h:(vs.toList.drop i)[0]? =aa v:=by rw[e];rfl
  rw[Kj]at h;exact(AQ).symm.trans h
 ·rw[← Eg,e];rfl
theorem Wq{f:D→D→Option Bool}{x:D}{xs ys:List D}{r:Bool}(hr:nA f (x::xs) (y::ys)=aa r):c9 x∧c9 y∧cond (dT x y) (nA f xs ys) (f x y)=aa r:=by
 have hr:cond (c9 x&&c9 y) (cond (dT x y) (nA f xs ys) (f x y)) af=aa r:=hr;induction q1:c9 x with
 |false=>rw[q1]at hr;exact zN hr
 |true=>induction q2:c9 y with
  |false=>rw[q1,q2]at hr;exact zN hr
  |true=>rw[q1,q2]at hr;exact⟨rfl,rfl,hr⟩
inductive Ws(a b:aE)(items jH:Array ak)(n n2:Nat)(U:aY)(f:D→D→Option Bool)(xs ys:List D)(i:Nat)(r:Bool)(A:dU)(R:wG→ay→Prop)(s:ay):Prop
 |mk (hl:s.heap.get? a=aa (cy items n)) (hb:s.heap.get? b=aa (cy jH n2)) (hu:A.units+70<cLine) (hi:i≤items.size) (sZ:i≤jH.size) (r1:aI U s.heap (items.toList.drop i) xs) (r2:aI U s.heap (jH.toList.drop i) ys) (hf:∀v u x y r,Rd U s.heap v x→Rd U s.heap u y→f x y=aa r→y9 A.in1 s v u r) (h:R (.ok (.ret (.bool r))) s)
theorem Wu(a b:aE)(items jH:Array ak)(n n2:Nat)(U:aY)(f:D→D→Option Bool)(xs:List D):∀ (ys:List D) (i:Nat) (r:Bool),nA f xs ys=aa r→
  Meets (qL.«list.__eq__.loop» ⟨[.ref a,.ref b,rawInt i,rawInt 0],[]⟩) (Ws a b items jH n n2 U f xs ys i r):=by
 induction xs with
 |nil=>intro ys i r hr prog w A R s ⟨hl,hb,hu,hi,sZ,r1,r2,hf,h⟩;have e1:=r1.length;have e2:=r2.length;rw[uu,eL]at e1 e2;have hd:=Wo hi sZ e1 e2;replace h:=hd▸(iJ hr:(!ys.isEmpty)=r)▸h;have hk:items[((i:Nat):Int).toNat]? =af:=Kp (Ef e1);clear hr hd r1 r2 hf hi sZ hu e1 e2;obtain⟨hp,g,d,tk,os⟩:=s;wp_walk using m8 hl,m8 hb;refine rE hk ?_;cases jH[((i:Nat):Int).toNat]? <;>(wp_walk using m8 hl,m8 hb;exact h)
 |cons x xs ih=>
  intro ys i r hr prog w A R s ⟨hl,hb,hu,hi,sZ,r1,r2,hf,h⟩;have e1:=r1.length;have e2:=r2.length;rw[uu,eL]at e1 e2;refine cK r1.uZ λv vs ev rv fA=>xA (Ma ev) λhk d1=>?_;clear r1 ev;have i1:i+1≤items.size:=Ui e1;clear e1;induction ys using bj with
  |nil=>replace h:=(iJ hr:ag=r)▸h;have i2:=Ef e2;replace h:=(decide_eq_false (pz.mpr (aF i2 hi)):decide (items.size<jH.size)=ag).symm▸h;have rj:jH[((i:Nat):Int).toNat]? =af:=Kp i2;clear hr ih hf r2 hi sZ hu i1 i2 e2 d1 rv fA;obtain⟨hp,g,d,tk,os⟩:=s;wp_walk using m8 hl,m8 hb;refine rE hk (rE rj ?_);wp_walk using m8 hl,m8 hb;exact h
  |cons y ys=>
   refine cK r2.uZ λu us eu ru Wv=>xA (Ma eu) λrj d2=>?_;have i2:i+1≤jH.size:=Ui e2;refine mq (Wq hr) λs1 s2 hr=>?_;clear r2 eu e2 hi sZ;refine xE rv.reads λZ qx=>xE ru.reads λZ qy=>?_;have Eq:=λQ E=>SeqAt.eqAt_reads x y A.in1 _ v u _ _ qx qy (D8 s1) (D8 s2) (SeqAt.room_of_shaped s1 (by refine rE (Kq ..) ?_;omega)) prog w Q E;clear qx qy s1 s2;obtain⟨hp,g,d,tk,os⟩:=s;wp_walk using m8 hl,m8 hb;refine rE hk (rE rj ?_);refine aB (Eq _ _ ?_);clear Eq;induction q:dT x y with
   |true=>
    replace hr:=q▸hr;wp_walk;exact⟨plainId_quiet plain_eq_loop _,codeAny_builtin entry_eq_loop (by
     refine rE (ahv plain_eq_loop _) ?_;exact ih ys (i+1) r hr prog w A R _ ⟨hl,hb,hu,i1,i2,d1▸fA,d2▸Wv,hf,h⟩)⟩
   |false=>replace hr:=q▸hr;wp_walk using m8 hl,m8 hb;refine rE hk (rE rj ?_);refine aB (hf v u x y r rv ru hr prog w _ _ ?_);wp_walk;exact h
theorem Ww(a b:aE)(items jH:Array ak)(n n2:Nat)(U:aY)(f:D→D→Option Bool)(xs ys:List D)(r:Bool)(hr:nA f xs ys=aa r):
  Meets (qL.«list.__lt__» ⟨[.ref a,.ref b],[]⟩)
   (λA R s=>s.heap.get? a=aa (cy items n)∧s.heap.get? b=aa (cy jH n2)∧A.units+70<cLine∧aI U s.heap items.toList xs∧aI U s.heap jH.toList ys∧
    (∀v u x y r,Rd U s.heap v x→Rd U s.heap u y→f x y=aa r→y9 A.in1 s v u r)∧R (.ok (.ret (.bool r))) s):=by
 intro prog w A R s h;obtain⟨hp,g,d,tk,os⟩:=s;refine VD h λhl hb hu r1 r2 hf h=>?_;have f3:=AutoSeq1.sub_list_list;wp_walk using m8 hl,m8 hb;exact⟨plainId_quiet plain_eq_loop _,codeAny_builtin entry_eq_loop (by
  refine rE (ahv plain_eq_loop _) ?_;exact Wu a b items jH n n2 U f xs ys 0 r hr prog w A R _ ⟨hl,hb,hu,eo _,eo _,r1,r2,hf,h⟩)⟩
theorem Wx{f:D→D→Option Bool}{xs ys:List D}{v u:ak}{r:Bool}(hu:A.units+70<cLine)(h:nA f xs ys=aa r)(rv:Rd U s.heap v (.list xs))(ru:Rd U s.heap u (.list ys))
  (hf:∀v u x y r,Rd U s.heap v x→Rd U s.heap u y→f x y=aa r→y9 A.in1 s v u r):
  s.TypeIs v "list" ∧s.TypeIs u "list" ∧∀ (prog:yr) (w:cM) (E Q:aW),Q (.bool r) s→ar (aw prog w) A (call (.builtin "list.__lt__") [v,u]) Q E s:=by
 refine fy rv.listI λa vs m e9 ha Z ra=>?_;subst e9;refine fy ru.listI λb us k e9 hb Z rb=>?_;subst e9;have ta:s.TypeIs (.ref a) "list" :=⟨_,ha,rfl⟩;exact⟨ta,⟨_,hb,rfl⟩,λprog w E Q hQ=>D7 Uj ta F.entry_list_lt (F.args_list_lt_2 _ _) (Ww a b vs us m k U f xs ys r h) ⟨ha,hb,hu,ra,rb,hf,by simpa[wants]using hQ⟩⟩
theorem Wy(n:Nat):∀ {A:dU}{U:aY}{s:ay}{x y:D}{v u:ak}{r:Bool},A.units+72+n<cLine→ltN n x y=aa r→Rd U s.heap v x→Rd U s.heap u y→
  y9 A s v u r∧∀ (prog:yr) (w:cM) (E:aW) (Q:Bool→ay→Prop),Q r s→ar (aw prog w) A (keyLt' oneType' v u) Q E s:=by
 have ii:∀ {A:dU}{U:aY}{s:ay}{x y:D}{v u:ak}{r:Bool},ltI x y=aa r→Rd U s.heap v x→Rd U s.heap u y→
   y9 A s v u r∧∀ (prog:yr) (w:cM) (E:aW) (Q:Bool→ay→Prop),Q r s→ar (aw prog w) A (keyLt' oneType' v u) Q E s:=by
  intro A U s x y v u r h rv ru;refine oE h λi h1 g=>aD (sJ.mp g) λj h2 e9=>?_;subst e9;obtain rfl:=gc h1;obtain rfl:=gc h2;refine xE rv.iz λZ e9=>?_;subst e9;refine xE ru.iz λZ e9=>?_;subst e9;exact⟨λprog w E Q h=>ahn h,λprog w E Q h=>oneLt_int h⟩
 induction n with
 |zero=>exact λZ h rv ru=>ii h rv ru
 |succ n ih=>
  intro A U s x y v u r hu h rv ru;have h:(match d7 x with|some xs=>(d7 y).bind λys=>nA (ltN n) xs ys|none=>ltI x y)=aa r:=h;induction q:d7 x with
  |none=>replace h:=q▸h;exact ii h rv ru
  |some xs=>replace h:=q▸h;refine oE h λys h1 g=>?_;obtain rfl:=nE h1;obtain rfl:=nE q;clear h h1 q;obtain⟨ta,tb,c⟩:=Wx (A:=A) (by lia) g rv ru λv u x y r rv ru h=>(ih (by refine rE (Kq ..) ?_;lia) h rv ru).1;refine⟨λprog w E Q hQ=>wpAny_richCompare_same_room ta tb Uj (c prog w _ _ ⟨(nomatch ·),hQ⟩) (by lia),λprog w E Q hQ=>?_⟩;refine rE (keyLt'_oneType ..) (rE (oneLt'_eq ..) (rE (if_pos rfl) ?_));exact aB (wpAny_cRoomFor (by lia) (aB (wpAny_callSpecialIfBound?_slot ta Uj (c prog w _ _ (lr hQ)))))
end
section
open PySem.W
section
variable{w:cM}
theorem Wz{f:Nat→Nat→Option Bool}{cmp:Nat→Nat→(Bool→ay→Prop)→ay→Prop}(hf:∀i j b,f i j=aa b→∀C:Bool→ay→Prop,C b s→cmp i j C s){p:α}{Q:α→ay→Prop}(hQ:Q p s)(t:KasT α):mj f t=aa p→t.kasWp cmp Q s:=by
 induction t with
 |ret a=>intro h;replace h:=iJ h;subst h;exact hQ
 |ask i j k ih=>intro h;exact oE (h:(f i j).bind _=_) λb h1 h=>hf i j b h1 _ (ih b h)
theorem WA{P:Fin→ay→Prop}(ho:s.heap.get? a=aa (kH "list" vs.toArray n))(w9:vs.length<64){out:List ak}(h1:vs.length<2→out=vs)
  (h2:2≤vs.length→∀s':ay,(∀b o,b≠a→s.heap.get? b=aa o→s'.heap.get? b=aa o)→(∀ (Q:SortKind→ay→Prop) (E:aW),Q oneType' s'→ar (aw prog w) A (keyKind' vs.toArray) Q E s')∧
   ∃p:Array Nat,out=(p.toList.map λi=>vs.getD i uw)∧∀G:Array Nat→ay→Prop,G p s'→(kas_sort vs.length).kasWp (kas_ask prog w A oneType' vs) G s')
  (h:P (.done (.ret .none)) {s with heap:=sortedHeap s.heap a vs out.toArray}):ar (aw prog w) A (qL.«list.sort» ⟨[.ref a],[]⟩) P E s:=by
 refine rE (list_sort_plain ..) ?_;have ha:a<s.heap.objs.size:=jA ho;refine aB (listItems_at ho rfl ?_);refine aB (Uk ho rfl ?_);obtain⟨e1,BF⟩:∃e1,(s.heap.update a (uy λZ=> #[])).get? a=aa (kH "list" #[] e1):=⟨_,get?_update_seq ho (λZ=> #[])⟩;refine aB (Ul BF rfl ?_);refine aB (Eh ?_);refine aB (wH ?_);refine jg ?_;have BG:(((s.heap.update a (uy λZ=> #[])).push (kH "tuple" vs.toArray 0)).push (kH "list" #[] 0)).get? a=aa (kH "list" #[] e1):=by refine rE (Kr _ _ _ (by rw[size_push',Um];exact iT (yw ha))) ?_;refine rE (Kr _ _ _ (rE (Um ..) (iT ha))) ?_;exact BF
 show ar (aw prog w) A _ P E {s with heap:=((s.heap.update a (uy λZ=> #[])).push (kH "tuple" vs.toArray 0)).push (kH "list" #[] 0)};dsimp only;have eY:vs.toArray.size=vs.length:=by simp
 by_cases hn:vs.toArray.size<2
 ·refine rE (if_pos hn) (rE (if_pos hn) ?_);refine aB (bz ?_);refine rE (StateT.run_pure ..) (aB (bz ?_));dsimp only;refine aB (Ul BG rfl ?_);refine aB (Uk BG rfl ?_ (hsz2:=by refine rE Array.size_map ?_;show(pairsOf vs).size≤_;refine rE (pairsOf_size ..) ?_;refine rE lu ?_;omega));simp only[bne_self_eq_false,yx,if_false];replace h:=(h1 (eY▸hn))▸h;refine bz ?_;have e:(arrOf (SortSt.mk' general' (vs.toArray.zip vs.toArray) #[] 7 af)).map (·.2)=vs.toArray:=by apply Ks.mp;show(((vs.toArray.zip vs.toArray)).map (·.2)).toList=vs.toArray.toList;refine rE Kl (rE Array.toList_zip ?_);exact List.map_snd_zip (bZ _)
  exact(λo (q:o=vs.toArray)=>by subst q;exact h:∀o,o=vs.toArray→P (.done (.ret .none)) {s with heap:=sortedHeap s.heap a vs o}) _ e
 ·refine rE (if_neg hn) (rE (if_neg hn) ?_);have Mb:2≤vs.length:=by omega
  clear eY ha h1 ho;obtain⟨k1,p,rfl,k2⟩:=h2 Mb {s with heap:=((s.heap.update a (uy λZ=> #[])).push (kH "tuple" vs.toArray 0)).push (kH "list" #[] 0)} λb o n e=>
   jV _ (jV _ ((ahw _ _ _ _ n).trans e))
  refine aB (k1 _ _ ?_);refine aB (ia (kat_run (Q:=λj6 s'=>arrOf j6=p.map (kas_item (vs.toArray.zip vs.toArray))∧p.size=vs.length∧failedOf j6=af∧s'={s with heap:=((s.heap.update a (uy λZ=> #[])).push (kH "tuple" vs.toArray 0)).push (kH "list" #[] 0)}) (G:=λq s'=>q=p∧s'=_)
   rfl Mb w9 (λp' j6 s' a1 a2 a3 a4=>by refine xA a4 λe9 bC=>?_;subst e9;subst bC;exact⟨a2,a1,a3,rfl⟩) (k2 _ ⟨rfl,rfl⟩)) ?_ λZ Z e=>e)
  rintro ⟨⟨⟩,j6⟩ s' ⟨WB,hp,hf,rfl⟩
  have s7:=kat_snds rfl WB;dsimp only at s7 ⊢;refine aB (Ul BG rfl ?_);refine rE s7 (aB (Uk BG rfl ?_ (hsz2:=by refine rE Ug ?_;refine rE (aQ ..) ?_;refine rE eL ?_;refine rE hp ?_;refine rE lu ?_;omega)));refine rE hf ?_;simp only[bne_self_eq_false,yx,if_false];exact bz h
theorem Mc(hl:s.heap.IsList l vs.toArray)(w9:vs.length<64){out:List ak}(h1:vs.length<2→out=vs)
  (h2:2≤vs.length→∀s':ay,(∀b o,s.heap.get? b=aa o→s'.heap.get? b=aa o)→(∀ (Q:SortKind→ay→Prop) (E:aW),Q oneType' s'→ar (aw prog w) A.in1.in1 (keyKind' vs.toArray) Q E s')∧
   ∃p:Array Nat,out=(p.toList.map λi=>vs.getD i uw)∧∀G:Array Nat→ay→Prop,G p s'→(kas_sort vs.length).kasWp (kas_ask prog w A.in1.in1 oneType' vs) G s')
  (h:Q (.ref (s.heap.objs.size+1)) {s with heap:=sortedAll s.heap vs out.toArray}):ar (aw prog w) A (call (.builtin "sorted") [.ref l]) Q E s:=by
 refine Calls.call_function_entry kind_sorted plain_sorted entry_sorted (args_sorted1 _) ?_;unfold qL.«sorted»;refine aB (m:=checkCount "sorted" 1 1 _) (bz ?_);refine aB (collect_list hl ?_ (by refine rE lu ?_;omega));refine aB (wH ?_ (by refine rE lu ?_;omega));have eY:((s.heap.push (kH "list" #[] 0)).update s.heap.objs.size (uy (· ++vs.toArray))).objs.size=s.heap.objs.size+1:=rE (Um ..) (rE (size_push' ..) rfl)
 have za:(((s.heap.push (kH "list" #[] 0)).update s.heap.objs.size (uy (· ++vs.toArray))).push (kH "list" vs.toArray 0)).get? (s.heap.objs.size+1)=aa (kH "list" vs.toArray 0):=rS eY (eT _ rfl)
 show ar _ _ _ _ _ {s with heap:=((s.heap.push (kH "list" #[] 0)).update s.heap.objs.size (uy (· ++vs.toArray))).push (kH "list" vs.toArray 0)};refine rE eY (aB (jg (yy slot_list_sort ⟨_,za,rfl⟩ entry_list_sort (WA za w9 h1 (λn2 s' hk=>h2 n2 s' λb o e=>?_) ⟨_,rfl,?_⟩) (args_list_sort _))))
 ·have eV:b<s.heap.objs.size:=jA e;refine hk b o (iT (yw eV)) (rE (Kr _ _ _ (rE eY (iT (yw eV)))) ?_);refine rE (ahw _ _ _ _ (iT eV)) ?_;refine rE (Kr _ _ _ (iT eV)) ?_;exact e
 ·exact bz ⟨_,rfl,h⟩
end
section
variable{w:cM}
theorem WC{h:aP}:∀ {xs:List D}{vs:List ak},aI U h vs xs→xs.all (λx=>(cY x).isSome)→∀v∈vs,∃i t,v=.int i t:=by
 intro xs vs r;refine r.ind (P:=λvs xs=>xs.all (λx=>(cY x).isSome)→∀v∈vs,∃i t,v=.int i t) (λZ Z h=>nomatch h) λv vs d ds rv Z ih h u hu=>xA (fJ.mp (show((cY d).isSome&&ds.all _) from h)) λh1 h2=>?_;rcases bE.mp hu with rfl|hu
 ·refine xE (Ei.mp h1) λi q=>?_;clear h1 h r;obtain rfl:=gc q;exact⟨i,rv.iz⟩
 ·exact ih h2 u hu
theorem WD{h:aP}:∀ {xs:List D}{vs:List ak},aI U h vs xs→xs.all (λx=>(d7 x).isSome)→∀v∈vs,∃a o,v=.ref a∧h.get? a=aa o∧o.cls=.type "list" :=by
 intro xs vs r;refine r.ind (P:=λvs xs=>xs.all (λx=>(d7 x).isSome)→∀v∈vs,∃a o,v=.ref a∧h.get? a=aa o∧o.cls=.type "list") (λZ Z h=>nomatch h) λv vs d ds rv Z ih h u hu=>xA (fJ.mp (show((d7 d).isSome&&ds.all _) from h)) λh1 h2=>?_;rcases bE.mp hu with rfl|hu
 ·refine xE (Ei.mp h1) λi q=>?_;clear h1 h r;obtain rfl:=nE q;clear q xs;refine ib rv.listI λa Z Z e9 e Z=>?_;subst e9;exact⟨a,_,rfl,e,rfl⟩
 ·exact ih h2 u hu
theorem aI.getD{h:aP}{xs:List D}(r:aI U h vs xs)(i:Nat):Rd U h (vs.getD i .none) (xs.getD i .none):=by
 refine rE (m7) ?_;refine rE (m7) ?_;induction q:xs[i]? with
 |none=>refine rE (Un (r.length▸List.getElem?_eq_none_iff.mp q)) ?_;exact .none
 |some d=>exact aD (r.get q) λv e rv=>rE e rv
theorem aI.picked{h:aP}{xs:List D}(r:aI U h vs xs)(l:ax):aI U h (l.map λi=>vs.getD i .none) (l.map λi=>xs.getD i .none):=by
 induction l with
 |nil=>exact .nil
 |cons i l ih=>exact .cons (r.getD i) ih
theorem WE(R:bW A n)(hb:UB U s){a:D}{v:ak}(r:Rd U s.heap v a)(h:uS a=aa (d,ae)):Gv w A U s (call (.builtin "sorted") [v]) d:=by
 refine oE h λxs h1 g=>?_;obtain rfl:=nE h1;clear h1 h;refine fy r.listI λl vs m e9 hl Z ra=>?_;subst e9;have hlen:=ra.length;have L:s.heap.IsList l vs.toList.toArray:=⟨_,hl,rfl,_,rfl⟩;have fin:∀ {ys:List D}{out:List ak},aI U s.heap out ys→∀ {Q:aW},(∀v s',Ext s s'→Rd U s'.heap v (.list ys)→Q v s')→Q (.ref (s.heap.objs.size+1)) {s with heap:=sortedAll s.heap vs.toList out.toArray}:=λ{ys out} ro {Q} hQ=>by refine xE (sortedAll_at s.heap vs.toList out.toArray) λe he=>?_;have x:Ext s {s with heap:=sortedAll s.heap vs.toList out.toArray}:=.heap λb o q=>sortedAll_old q;exact hQ _ _ x (.list he (λhu=>by refine xE (hb _ hu) λo q=>?_;exact absurd (jA q) (by lia)) (ro.ext x))
 induction q:aX xs.length 1 with
 |true=>replace g:=q▸g;refine xA (W.de g) λe9 Z=>?_;subst e9;have:=bc q;exact λQ E hQ=>Mc L (by lia) (λZ=>rfl) (λh2=>by lia) (fin ra hQ)
 |false=>
  replace g:=q▸g;refine oE (g:(mj _ _).bind _=_) λp hp h=>xA (W.de h) λe9 hk=>?_;subst e9;clear g h;have n1:¬vs.toList.length<2:=λh=>by exact zT (bO (by lia:xs.length≤1)▸q)
  refine xA (fJ.mp hk) λhk k3=>xA (fJ.mp hk) λk1 k2=>?_;have k1:xs.length<64:=bc k1;have hu:=R.units;refine λQ E hQ=>Mc (out:=p.toList.map λi=>vs.toList.getD i .none) L (by lia) (λh=>absurd h n1) (λh2 s' hk=>⟨λQ' E' hq=>?_,p,rfl,λG hG=>?_⟩) (fin (ra.picked _) hQ)
  ·rcases TP.mp k3 with k3|k3
   ·refine kas_kind (T:=.type "int") h2 (λv hv=>?_) (by decide) (by decide) hq;refine lC (WC ra k3 v hv) λi t e9=>?_;subst e9;exact .of_pure rfl
   ·refine kas_kind (T:=.type "list") h2 (λv hv=>?_) (by decide) (by decide) hq;refine cK (WD ra k3 v hv) λa o e9 e ec=>?_;subst e9;exact rS ec ((Looks.ld (hk _ _ e)).andThen .now)
  ·have e:vs.toList.length=xs.length:=hlen;refine rE e (Wz (λi j b hb C hC=>?_) hG _ hp);refine oE hb λx hx hb=>oE hb λy hy hb=>?_;have gd:∀ {i x},xs[i]? =aa x→Rd U s'.heap (vs.toList.getD i .none) x:=λ{i x} hx=>by
    have e:xs.getD i .none=x:=by refine rE (m7) ?_;refine rE hx ?_;rfl
    exact e▸(ra.getD i).mono (λb o Z e=>hk b o e) λZ Z Z n=>n
   exact(Wy 2 (by refine rE (Kq ..) (rE (Kq ..) ?_);lia) hb (gd hx) (gd hy)).2 prog w _ _ hC
end
end
structure Cx where
 names:List ah
 fns:List ah
 mu:List Nat
 s8:List Nat
 bH:List (ah × Int)
 Fm:List Nat
noncomputable def aZ(x:ah):List ah→Option Nat
 | []=>af
 |y::r=>cond (sEq y x) (aa 0) ((aZ x r).map λi=>i+1)
theorem Md(x y:ah)(r:List ah):aZ x (y::r)=bif sEq y x then aa 0 else Option.map (λi=>i+1) (aZ x r):=rfl
noncomputable def aV(x:ah):List (ah × eC)→Option eC
 | []=>af
 | (y,k)::r=>cond (sEq y x) (aa k) (aV x r)
theorem Me(x y:ah)(k:eC)(r:cT):aV x ((y,k)::r)=bif sEq y x then aa k else aV x r:=rfl
noncomputable def d8:Option eC→Bool
 |some .local=>ae
 |some .cell=>ae
 |some .free=>ae
 |_=>ag
noncomputable def dz:Option eC→Bool
 |some .local=>ae
 |some .cell=>ae
 |_=>ag
noncomputable def eZ:Option eC→Bool
 |some .globalImplicit=>ae
 |_=>ag
noncomputable def rm(x:ah):List (ah × Int)→Option Int
 | []=>af
 | (y,k)::r=>cond (sEq y x) (aa k) (rm x r)
theorem WG(x y:ah)(k:Int)(r:gM):rm x ((y,k)::r)=bif sEq y x then aa k else rm x r:=rfl
noncomputable def xb(x:ah):List (ah × Int)→Bool
 | []=>ag
 | (y,_)::r=>cond (sEq y x) ae (xb x r)
theorem WH(x y:ah)(k:Int)(r:gM):xb x ((y,k)::r)=bif sEq y x then ae else xb x r:=rfl
noncomputable def Mf:wC→Option ma
 | .Add=>aa .add| .Sub=>aa .sub| .Mult=>aa .mul| .FloorDiv=>aa .fdiv| .Mod=>aa .mod| .Pow=>aa .pow| .RShift=>aa .shr| .BitAnd=>aa .band
 |_=>af
noncomputable def Mg:kG→Option uJ
 | .Eq=>aa .eq| .NotEq=>aa .ne| .Lt=>aa .lt| .LtE=>aa .le| .Gt=>aa .gt| .GtE=>aa .ge| .In=>aa .isin| .NotIn=>aa .ix
 |_=>af
noncomputable def Mh(c:Const):Option D:=match c with
 | .none=>aa .none
 | .bool b=>aa (.bool b)
 | .int i=>aa (.int i)
 | .str s=>aa (.str s)
 |_=>af
noncomputable def has(i:Nat):List Nat→Bool
 | []=>ag
 |j::r=>cond (az j i) ae (has i r)
theorem WI(i:Nat):has i []=ag:=rfl
theorem Mi(i j:Nat)(r:ax):has i (j::r)=bif az j i then ae else has i r:=rfl
noncomputable def bf.len:bf→Nat
 | .nil=>0
 | .cons _ es=>es.len+1
noncomputable def bf.isNil:bf→Bool
 | .nil=>ae
 | .cons _ _=>ag
noncomputable def bf.c1(es:bf):Option RE:=match es with
 | .nil=>af
 | .cons a r=>cond r.isNil (aa a) af
noncomputable def bf.c2(es:bf):Option (RE × RE):=match es with
 | .nil=>af
 | .cons a r=>r.c1.bind λb=>aa (a,b)
noncomputable def kO{α:Type}(l:List α):Option α:=match l with
 | []=>af
 |a::r=>cond r.isEmpty (aa a) af
noncomputable def zb{α:Type}(l:List α):Option (α × α):=match l with
 | []=>af
 |a::r=>(kO r).bind λb=>aa (a,b)
noncomputable def Fo:RE→bf→RE
 |e,.nil=>e
 |e,.cons e' es=>.and e (Fo e' es)
noncomputable def Fp:RE→bf→RE
 |e,.nil=>e
 |e,.cons e' es=>.or e (Fp e' es)
noncomputable def cBool(op:BoolOp)(rs:bf):Option RE:=match rs with
 | .nil=>af
 | .cons e es=>match op with
  | .And=>aa (Fo e es)
  | .Or=>aa (Fp e es)
set_option genCtorIdx false in
inductive V where
 |const (c:Const) (k:Nat) (p:aO)
 |name (x:ah) (p:aO)
 |bin (l:au) (o:wC) (r:au) (p:aO)
 |bool (o:BoolOp) (es:List au) (p:aO)
 |BH (c a b:au) (p:aO)
 |cmp (l:au) (ops:List kG) (es:List au) (p:aO)
 |list (es:List au) (p:aO)
 |tup (es:List au) (k:Nat) (p:aO)
 |comp (e:au) (gs:List sD) (sc:mZ) (p:aO)
 |call (f:au) (args:List au) (iA:List Ej) (p:aO)
 |attr (o:au) (m:ah) (p:aO)
 |sub (a i:au) (p:aO)
 |slice (l h s:Option au) (p:aO)
 |dict (ks:List (Option au)) (vs:List au) (p:aO)
 |BI (o:UnaryOp) (a:au) (p:aO)
 |other
noncomputable def V.ctorIdx(x:V):Nat:=V.casesOn (motive:=λZ=>Nat) x (λZ Z Z=>0) (λZ Z=>1) (λZ Z Z Z=>2) (λZ Z Z=>3) (λZ Z Z Z=>4) (λZ Z Z Z=>5) (λZ Z=>6) (λZ Z Z=>7) (λZ Z Z Z=>8) (λZ Z Z Z=>9) (λZ Z Z=>10) (λZ Z Z=>11) (λZ Z Z Z=>12) (λZ Z Z=>13) (λZ Z Z=>14) 15
noncomputable def view(e:au):V:=match e with
 | .Constant c k p=>.const c k p
 | .Name x p=>.name x p
 | .BinOp l o r p=>.bin l o r p
 | .BoolOp o es p=>.bool o es p
 | .IfExp c a b p=>.BH c a b p
 | .Compare l ops es p=>.cmp l ops es p
 | .List es p=>.list es p
 | .Tuple es k p=>.tup es k p
 | .ListComp e gs sc p=>.comp e gs sc p
 | .Call f args iA p=>.call f args iA p
 | .Attribute o m p=>.attr o m p
 | .Subscript a i p=>.sub a i p
 | .Slice l h s p=>.slice l h s p
 | .Dict ks vs p=>.dict ks vs p
 | .UnaryOp o a p=>.BI o a p
 |_=>.other
noncomputable def V.un(v:V):Option au:=match v with
 | .const c k p=>aa (.Constant c k p)
 | .name x p=>aa (.Name x p)
 | .bin l o r p=>aa (.BinOp l o r p)
 | .bool o es p=>aa (.BoolOp o es p)
 | .BH c a b p=>aa (.IfExp c a b p)
 | .cmp l ops es p=>aa (.Compare l ops es p)
 | .list es p=>aa (.List es p)
 | .tup es k p=>aa (.Tuple es k p)
 | .comp e gs sc p=>aa (.ListComp e gs sc p)
 | .call f args iA p=>aa (.Call f args iA p)
 | .attr o m p=>aa (.Attribute o m p)
 | .sub a i p=>aa (.Subscript a i p)
 | .slice l h s p=>aa (.Slice l h s p)
 | .dict ks vs p=>aa (.Dict ks vs p)
 | .BI o a p=>aa (.UnaryOp o a p)
 | .other=>af
theorem WJ(e:au):view e=.other∨(view e).un=aa e:=by
 induction e using uz<;>first|exact .inr rfl|exact .inl rfl
theorem dM{e e':au}{v:V}(h:view e=v)(h':v.un=aa e'):e=e':=by
 rcases WJ e with q|q
 ·replace q:=h▸q;exact zN (q▸h')
 ·replace q:=h'▸h▸q;exact(iq q).symm
noncomputable def s9(v:V):Option ah:=match v with| .name x _=>aa x|_=>af
noncomputable def zc(v:V):Option (List au):=match v with| .tup es _ _=>aa es|_=>af
theorem xc{e:au}(h:s9 (view e)=aa x):∃p,e=.Name x p:=by
 induction q:view e<;>replace h:=q▸h<;>first|exact zN h|skip
 replace h:=iJ h;subst h;exact⟨_,dM q rfl⟩
theorem BJ{e:au}(h:zc (view e)=aa es):∃k p,e=.Tuple es k p:=by
 induction q:view e<;>replace h:=q▸h<;>first|exact zN h|skip
 replace h:=iJ h;subst h;exact⟨_,_,dM q rfl⟩
noncomputable def Fq:List (D × D)→Option (List (ah × Int))
 | []=>aa []
 |p::r=>(dD p.1).bind λx=>(cY p.2).bind λi=>(Fq r).bind λl=>cond (xb x l) af (aa ((x,i)::l))
noncomputable def BK(v:V):Option (List (ah × Int)):=match v with
 | .dict ks vs _=>(litPairs ks vs).bind λl=>(Fq l).bind λt=>cond (!t.isEmpty&&aX t.length 15) (aa t) af
 |_=>af
noncomputable def WK(c:Const):Bool:=match c with| .none=>ae|_=>ag
noncomputable def Fs(e:au):Bool:=match view e with| .const c _ _=>WK c|_=>ag
noncomputable def rp:ah:=aj [108,101,110]
noncomputable def lE:ah:=aj [115,116,114]
noncomputable def rq:ah:=aj [105,110,116]
noncomputable def xd:ah:=aj [115,117,109]
noncomputable def zd:ah:=aj [115,111,114,116,101,100]
noncomputable def oM:ah:=aj [105,115,105,110,115,116,97,110,99,101]
noncomputable def rr:ah:=aj [114,97,110,103,101]
noncomputable def Ft:ah:=aj [106,111,105,110]
noncomputable def ze:ah:=aj [103,101,116]
noncomputable def pM:ah:=aj [103,101,116,95,97,108,108]
noncomputable def nG:ah:=aj [105,116,101,109,115]
noncomputable def rt:ah:=aj [107,101,121,115]
noncomputable def zf:ah:=("EXACT_TOKEN_TYPES" :ah)
noncomputable def u3:ah:=("_iter_escaped_chars" :ah)
noncomputable def distinct:List (ah × eC)→Bool
 | []=>ae
 | (x,_)::r=>cond (match aV x r with|some _=>ae|none=>ag) ag (distinct r)
theorem WL(y:ah)(k:eC)(r:cT):distinct ((y,k)::r)=bif match aV y r with|some val=>ae|none=>ag then ag else distinct r:=rfl
noncomputable def fB(names:List ah):List (ah × eC)→List Nat
 | []=>[]
 | (x,k)::r=>match dz (aa k),aZ x names with
  |true,aa i=>i::fB names r
  |_,_=>fB names r
theorem WM(names:List ah)(y:ah)(k:eC)(r:cT):fB names ((y,k)::r)=match dz (aa k),aZ y names with|true,aa i=>i::fB names r|x,gK=>fB names r:=rfl
noncomputable def freeOk(out:cT):List (ah × eC)→Bool
 | []=>ae
 | (x,k)::r=>match k with
  | .free=>cond (match aV x out with|some .cell=>ae|some .free=>ae|_=>ag) (freeOk out r) ag
  | .local=>freeOk out r
  | .cell=>freeOk out r
  | .globalImplicit=>freeOk out r
  |_=>ag
noncomputable def j7:jj→List Nat
 | .one i=>[i]
 | .two i j=>[i,j]
noncomputable def kP:kJ→List Nat
 | .nil=>[]
 | .cons t _ _ gs=>j7 t++kP gs
noncomputable def Fu(i:Int):Bool:=decide (i=0)
noncomputable def zg:List Nat→Bool
 | []=>ae
 |i::r=>cond (has i r) ag (zg r)
theorem WN(j:Nat)(r:ax):zg (j::r)=bif has j r then ag else zg r:=rfl
noncomputable def zh(l:ax):List Nat→Bool
 | []=>ae
 |i::r=>cond (has i l) (zh l r) ag
theorem WO(l:ax)(j:Nat)(r:ax):zh l (j::r)=bif has j l then zh l r else ag:=rfl
noncomputable def cH(a b:aO):Bool:=az a.endLine b.line
noncomputable def nH:au→Bool
 | .Starred _ _=>ae
 |_=>ag
noncomputable def Mj(v:V):Bool:=match v with
 | .name _ _=>ae
 | .const _ _ _=>ae
 | .call f _ _ _=>(match view f with| .attr _ _ _=>ae|_=>ag)
 | .sub _ _ _=>ae
 |_=>ag
noncomputable def recv(e:au):Bool:=Mj (view e)
noncomputable abbrev KS:=List (ah × eC)
noncomputable def kQ(f:au→Option RE):List au→Option bf
 | []=>aa .nil
 |e::es=>(f e).bind λr=>(kQ f es).bind λrs=>aa (.cons r rs)
noncomputable def cO(f:au→Option RE)(o:Option au):Option RO:=match o with
 |none=>aa .none
 |some e=>(f e).bind λr=>aa (.some r)
noncomputable def Fv(f:au→Option RE):List kG→List au→Option md
 | [],es=>cond es.isEmpty (aa .nil) af
 |op::ops,es=>match es with
  | []=>af
  |e::es=>(Mg op).bind λo=>(f e).bind λr=>(Fv f ops es).bind λcs=>aa (.cons o r cs)
noncomputable def isNotIn(o:kG):Bool:=match o with| .NotIn=>ae|_=>ag
noncomputable def WQ(o:UnaryOp)(a:V)(r:Option RE):Option RE:=match o with
 | .Not=>r.bind λr=>aa (.not r)
 | .USub=>(match a with| .const c _ _=>(match c with| .int i=>aa (.lit (.int (-i)))|_=>af)|_=>af)
 |_=>af
noncomputable def WR(o:kG):Bool:=match o with| .Is=>ae|_=>ag
noncomputable def Fw(ops:List kG)(es:List au):Bool:=(match kO ops with|some o=>WR o|none=>ag)&&(match kO es with|some e=>Fs e|none=>ag)
noncomputable def isFun(k:ScopeKind):Bool:=match k with| .function=>ae|_=>ag
noncomputable def BL(f:ah):Option (Prim × Nat):=
 cond (sEq f lE) (aa (.str,1)) (cond (sEq f rq) (aa (.int,1)) (cond (sEq f xd) (aa (.sum,1)) (cond (sEq f zd) (aa (.sorted,1)) af)))
noncomputable def Fx(m:ah):Option (Prim × Nat):=
 cond (sEq m Ft) (aa (.join,1)) af
noncomputable def Fy(es:bf):Option RI:=match es.c1 with
 |some a=>aa (.dy a)
 |none=>es.c2.bind λp=>aa (.range p.1 p.2)
noncomputable def pN(ks:KS)(nm:ah)(e:au):Bool:=match s9 (view e)with
 |some x=>sEq x nm&&eZ (aV x ks)
 |none=>ag
noncomputable def cI(f:au→Option RE)(ks:KS)(it:au):Option RI:=match view it with
 | .call g args iA _=>(s9 (view g)).bind λx=>cond iA.isEmpty (cond (sEq x rr&&eZ (aV x ks)) ((kQ f args).bind Fy)
   (cond (sEq x u3&&eZ (aV x ks)) ((kQ f args).bind λes=>es.c1.bind λa=>aa (.gen a)) af)) af
 |_=>af
noncomputable def zi(f:au→Option RE)(ks:KS)(it:au):Option RI:=match cI f ks it with
 |some r=>aa r
 |none=>(f it).bind λr=>aa (.data r)
noncomputable def Fz(r:Option RE)(m:ah)(es:bf):Option RE:=r.bind λr=>(Fx m).bind λp=>cond (az es.len p.2) (aa (.prim p.1 (.cons r es))) af
noncomputable def FA(h:Nat)(m:ah)(es:bf):Option RE:=
 cond (sEq m pM) (es.c1.bind λk=>aa (.jE h k)) (cond es.isNil (cond (sEq m nG) (aa (.oH h)) (cond (sEq m rt) (aa (.mf h)) af)) af)
section
variable(X:Cx)
noncomputable def kR(ks:KS)(e:au):Option Nat:=(s9 (view e)).bind λx=>cond (dz (aV x ks)) (aZ x X.names) af
noncomputable def jm(ks:KS)(e:au):Option jj:=match kR X ks e with
 |some i=>aa (.one i)
 |none=>(zc (view e)).bind λes=>(zb es).bind λp=>(kR X ks p.1).bind λi=>(kR X ks p.2).bind λj=>cond (az i j) af (aa (.two i j))
noncomputable def nameId(ks:KS)(e:au):Option Nat:=(s9 (view e)).bind λx=>cond (d8 (aV x ks)) (aZ x X.names) af
noncomputable def tc(ks:KS)(x:ah):Option RE:=
 cond (d8 (aV x ks)) ((aZ x X.names).bind λi=>aa (.var i)) (cond (eZ (aV x ks)) ((rm x X.bH).bind λi=>aa (.gl x i)) af)
noncomputable def Mk(ks:KS)(ops:List kG)(es:List au):Option Nat:=(kO ops).bind λo=>cond (isNotIn o) ((kO es).bind λe=>(nameId X ks e).bind λv=>cond (has v X.Fm) (aa v) af) af
noncomputable def Ml(ks:KS)(args:List au)(es:bf):Option RE:=(kO args).bind λa=>match nameId X ks a with
 |some v=>aa (.bL v)
 |none=>aa (.prim .len es)
noncomputable def Mm(ks:KS)(f:ah)(args:List au)(es:bf):Option RE:=
 cond (eZ (aV f ks)) (match aZ f X.fns with
  |some i=>aa (.call i es)
  |none=>cond (sEq f rp) (Ml X ks args es) ((BL f).bind λp=>cond (az es.len p.2) (aa (.prim p.1 es)) af)) af
noncomputable def FD(ks:KS)(o:au)(r:Option RE)(m:ah)(es:bf):Option RE:=match nameId X ks o with
 |some h=>cond (has h X.s8) (FA h m es) (cond (has h X.Fm&&sEq m ze) (es.c2.bind λp=>aa (.wY h p.1 p.2)) (Fz r m es))
 |none=>cond (pN ks zf o&&sEq m ze) (es.c2.bind λp=>aa (.tok p.1 p.2)) (Fz r m es)
noncomputable def xe(ks:KS)(a:au)(ra:Option RE)(i:RE):Option RE:=match nameId X ks a with
 |some v=>aa (.aG v i)
 |none=>ra.bind λra=>aa (.sub ra i)
section
variable(F:KS→au→Option RE)
noncomputable def FE(ks:KS):List sD→Option kJ
 | []=>aa .nil
 |g::gs=>(jm X ks g.target).bind λt=>(zi (F ks) ks g.iter).bind λit=>(kQ (F ks) g.ifs).bind λifs=>(FE ks gs).bind λgs=>cond (Fu g.is_async) (aa (.cons t it ifs gs)) af
noncomputable def FF(out ks:KS)(gs:List sD)(elt:au):Option RE:=match gs with
 | []=>af
 |g::gs=>(F ks elt).bind λelt=>(jm X ks g.target).bind λt=>(zi (F out) out g.iter).bind λit=>(kQ (F ks) g.ifs).bind λifs=>(FE X F ks gs).bind λgs=>
   cond (Fu g.is_async&&(zg (j7 t++kP gs)&&zh (fB X.names ks) (j7 t++kP gs))) (aa (.comp (fB X.names ks) t it ifs gs elt)) af
noncomputable def BM(ks:KS)(args:List au):Option RE:=(zb args).bind λp=>(F ks p.1).bind λa=>cond (pN ks rq p.2) (aa (.prim .mc (.cons a .nil))) af
noncomputable def Mn(ks:KS)(args:List au)(p:aO)(v:V):Option RE:=match v with
 | .name x _=>cond (sEq x oM&&eZ (aV x ks)) (BM F ks args) ((kQ (F ks) args).bind λes=>Mm X ks x args es)
 | .attr o m ap=>(kQ (F ks) args).bind λes=>cond (recv o&&cH ap p&&aX es.len 20) (FD X ks o (F ks o) m es) af
 |_=>af
noncomputable def Mo(ks:KS)(a sl:au)(v:V):Option RE:=match v with
 | .slice l h s _=>(cO (F ks) l).bind λl=>(cO (F ks) h).bind λh=>(cO (F ks) s).bind λs=>match nameId X ks a with
  |some i=>aa (.cw i l h s)
  |none=>(F ks a).bind λa=>aa (.slice a l h s)
 |_=>(F ks sl).bind λi=>xe X ks a (F ks a) i
noncomputable def cV(ks:KS)(v:V):Option RE:=match v with
 | .const c _ _=>(Mh c).bind λd=>aa (.lit d)
 | .name x _=>tc X ks x
 | .bin l op r _=>(F ks l).bind λa=>(Mf op).bind λo=>(F ks r).bind λb=>aa (.bin o a b)
 | .bool op es _=>(kQ (F ks) es).bind λrs=>cBool op rs
 | .BH c a b _=>(F ks c).bind λc=>(F ks a).bind λa=>(F ks b).bind λb=>aa (.ite c a b)
 | .cmp l ops es _=>(F ks l).bind λa=>cond (Fw ops es) (aa (.uK a)) (match Mk X ks ops es with|some v=>aa (.uL a v)|none=>(Fv (F ks) ops es).bind λcs=>aa (.cmp a cs))
 | .list es _=>(kQ (F ks) es).bind λrs=>cond (aX rs.len 1000) (aa (.list rs)) af
 | .tup es _ _=>(kQ (F ks) es).bind λrs=>cond (aX rs.len 1000) (aa (.tup rs)) af
 | .comp elt gs sc _=>cond (distinct sc.names&&freeOk ks sc.names&&isFun sc.kind) (FF X F ks sc.names gs elt) af
 | .call f args iA p=>cond iA.isEmpty (Mn X F ks args p (view f)) af
 | .BI o a _=>WQ o (view a) (F ks a)
 | .sub a sl _=>Mo X F ks a sl (view sl)
 |_=>af
end
noncomputable def cE:Nat→KS→au→Option RE:=λn=>J7 (λZ Z=>af) (λZ F ks e=>cV X F ks (view e)) n
end
mutual
noncomputable def dA:RE→List Nat
 | .var i=>[i]
 | .bin _ a b=>dA a++dA b
 | .and a b=>dA a++dA b
 | .or a b=>dA a++dA b
 | .ite c a b=>dA c++(dA a++dA b)
 | .cmp a cs=>dA a++Mp cs
 | .uK a=>dA a
 | .not a=>dA a
 | .slice a l h s=>dA a++(xf l++(xf h++xf s))
 | .sub a i=>dA a++dA i
 | .aG _ i=>dA i
 | .cw _ l h s=>xf l++(xf h++xf s)
 | .list es=>pO es
 | .tup es=>pO es
 | .comp _ _ it ifs gs elt=>FG it++(pO ifs++(Mq gs++dA elt))
 | .call _ es=>pO es
 | .prim _ es=>pO es
 | .tok k d=>dA k++dA d
 | .jE _ k=>dA k
 | .lit _=>[]
 | .gl _ _=>[]
 | .bL _=>[]
 | .wY _ k d=>dA k++dA d
 | .uL k _=>dA k
 | .mf _=>[]
 | .oH _=>[]
noncomputable def pO:bf→List Nat
 | .nil=>[]
 | .cons e es=>dA e++pO es
noncomputable def Mp:md→List Nat
 | .nil=>[]
 | .cons _ e cs=>dA e++Mp cs
noncomputable def Mq:kJ→List Nat
 | .nil=>[]
 | .cons _ it ifs gs=>FG it++(pO ifs++Mq gs)
noncomputable def FG:RI→List Nat
 | .data e=>dA e
 | .dy b=>dA b
 | .range a b=>dA a++dA b
 | .gen e=>dA e
noncomputable def xf:RO→List Nat
 | .none=>[]
 | .some e=>dA e
end
noncomputable def only(ms:ax):List Nat→List Nat
 | []=>[]
 |i::r=>cond (has i ms) (i::only ms r) (only ms r)
noncomputable def FH(ms:ax)(s:RS):RS:=match ms with
 | []=>s
 |i::r=>.fz (i::r) s
noncomputable def wrap(ms:ax)(rd:ax)(s:RS):RS:=FH (only ms rd) s
noncomputable def isAdd(o:wC):Bool:=match o with| .Add=>ae|_=>ag
noncomputable def zj(e:au):Bool:=match view e with
 | .list _ _=>ae
 | .bin _ o _ _=>isAdd o
 |_=>ag
noncomputable def BN(e:au):Bool:=match view e with
 | .list es _=>es.isEmpty
 |_=>ag
noncomputable def mw:ah:=aj [72,101,97,100,101,114,115]
noncomputable def u4:ah:=aj [97,112,112,101,110,100]
noncomputable def FJ:ah:=aj [105,110,115,101,114,116]
noncomputable def BO:ah:=aj [101,120,116,101,110,100]
noncomputable def mx:ah:=("ValueError" :ah)
noncomputable def rz:ah:=aj [97,100,100,95,104,101,97,100,101,114]
noncomputable def FK(o:wC):Option ma:=match o with
 | .Add=>aa .add
 | .Sub=>aa .sub
 |_=>af
noncomputable def FL(s:a9):Option au:=match s with| .Expr v _=>aa v|_=>af
noncomputable def Mr(s:a9):Option au:=match s with| .If c _ o _=>cond o.isEmpty (aa c) af|_=>af
noncomputable def BP(e:au):Option (au × List au × aO):=match view e with| .call f args iA p=>cond iA.isEmpty (aa (f,args,p)) af|_=>af
noncomputable def FN(e:au):Option (au × ah × aO):=match view e with| .attr o m p=>aa (o,m,p)|_=>af
noncomputable def zk(e:au):Option (au × ah × List au):=(BP e).bind λc=>(FN c.1).bind λa=>cond (cH a.2.2 c.2.2) (aa (a.1,a.2.1,c.2.1)) af
noncomputable def isNe(o:kG):Bool:=match o with| .NotEq=>ae|_=>ag
noncomputable def FP(e:au):Option (au × au):=match view e with| .cmp l ops es _=>(kO ops).bind λo=>cond (isNe o) ((kO es).bind λr=>aa (l,r)) af|_=>af
noncomputable def td:ah:= "Control characters not allowed in headers"
noncomputable def FQ(e:au):Bool:=match view e with| .const c _ _=>(match c with| .str m=>sEq m td|_=>ag)|_=>ag
noncomputable def FR(e:RE):bf:=match e with| .tup rs=>rs|_=>.nil
noncomputable def isLit(e:RE):Bool:=match e with| .lit _=>ae|_=>ag
noncomputable def FT(es:bf):Bool:=match es.c1 with|some e=>(match (FR e).c2 with|some q=>isLit q.1&&isLit q.2|none=>ag)|none=>ag
section
variable(X:Cx)(F:KS→au→Option RE)(ks:KS)
noncomputable def zl(e:au):Bool:=match view e with
 | .call f args iA _=>args.isEmpty&&(iA.isEmpty&&pN ks mw f)
 |_=>ag
noncomputable def rA:List au→Option (List Nat)
 | []=>aa []
 |e::r=>(kR X ks e).bind λi=>(rA r).bind λis=>cond (has i is) af (aa (i::is))
noncomputable def FU:List au→Option (List RT)
 | []=>aa []
 |e::r=>(FU r).bind λts=>cond (BN e) (aa (.nz::ts)) (cond (zl ks e) (aa (.jk::ts)) (match BK (view e)with|some kvs=>aa (.fN kvs::ts)|none=>(F ks e).bind λr=>aa (.val r::ts)))
noncomputable def zm:List RT→List Nat
 | []=>[]
 |t::r=>match t with
  | .val e=>dA e++zm r
  | .nz=>zm r
  | .fN _=>zm r
  | .jk=>zm r
noncomputable def BQ(v:au):Option (Nat × Nat × bf):=match view v with
 | .call f args iA _=>(s9 (view f)).bind λx=>cond (iA.isEmpty&&eZ (aV x ks)) ((aZ x X.fns).bind λi=>(zb args).bind λp=>(F ks p.1).bind λr=>(nameId X ks p.2).bind λh=>cond (has h X.s8) (aa (i,h,.cons r .nil)) af) af
 |_=>af
noncomputable def FV(t v:au):Option RS:=match kR X ks t with
 |some i=>cond (has i X.s8) (cond (zl ks v) (aa (.jk i)) af) (match BQ X F ks v with
  |some q=>aa (wrap X.mu (pO q.2.2) (.qV i q.1 q.2.1 q.2.2))
  |none=>(F ks v).bind λe=>aa (wrap X.mu (dA e) (cond (has i X.mu&&zj v) (.own i e) (.asg i e))))
 |none=>(zc (view t)).bind λts=>(rA X ks ts).bind λis=>match zc (view v)with
  |some es=>(FU F ks es).bind λrs=>cond (az is.length rs.length&&(aX rs.length 100&& !(es.all (constantsAlone 8)&& !(es.all (foldedForSure 8))))) (aa (wrap X.mu (zm rs) (.mul is rs))) af
  |none=>(F ks v).bind λe=>aa (wrap X.mu (dA e) (.uR is e))
noncomputable def FW(v:Nat)(m:ah)(es:bf):Option RS:=cond (sEq m u4) (es.c1.bind λa=>aa (.app v a)) (cond (sEq m BO) (es.c1.bind λa=>aa (.ext v a))
 (cond (sEq m FJ) (es.c2.bind λq=>aa (.ins v q.1 q.2)) af))
noncomputable def Ms(o:au)(m:ah)(es:bf):Option RS:=cond (sEq m u4&&FT es) ((zk o).bind λc=>cond (c.2.2.isEmpty&&sEq c.2.1 nG) ((nameId X ks c.1).bind λv=>aa (.yS v)) af) af
noncomputable def WS(o:au)(m:ah)(args:List au):Option RS:=(kQ (F ks) args).bind λes=>match nameId X ks o with
 |some v=>(FW v m es).bind λs=>aa (wrap X.mu (pO es) s)
 |none=>Ms X ks o m es
noncomputable def Mt(v:au):Option RS:=(zk v).bind λc=>WS X F ks c.1 c.2.1 c.2.2
noncomputable def isLocal(x:ah):Bool:=match aV x ks with|some k=>(match k with| .local=>ae|_=>ag)|none=>ag
noncomputable def BR(b:List a9):Option ah:=(kO b).bind λs=>(Mr s).bind λc=>(FP c).bind λq=>cond (FQ q.2) ((BP q.1).bind λc=>cond (pN ks lE c.1) ((kO c.2.1).bind λa=>s9 (view a)) af) af
noncomputable def Mu(eh:Kv):Bool:=match eh with
 | .ExceptHandler ty nm hb _=>(match ty with
  |some ty=>(match nm with
   |some nm=>pN ks mx ty&&(isLocal ks nm&&((aZ nm X.names).isNone&&((!sEq nm ("__debug__" :ah))&&(match BR ks hb with|some y=>sEq y nm|none=>ag))))
   |none=>ag)
  |none=>ag)
noncomputable def WT(o:au)(args:List au)(o2:au)(WU:List au):Option RS:=(nameId X ks o).bind λh=>(kQ (F ks) args).bind λes=>es.c2.bind λkv=>(nameId X ks o2).bind λi=>
 (kQ (F ks) WU).bind λMw=>Mw.c1.bind λa=>aa (wrap X.mu (pO es++dA a) (.yT h kv.1 kv.2 i a))
noncomputable def WV(s1 s2:a9):Option RS:=(FL s1).bind λv=>(zk v).bind λc=>(FL s2).bind λv2=>(zk v2).bind λc2=>cond (sEq c.2.1 rz&&sEq c2.2.1 u4) (WT X F ks c.1 c.2.2 c2.1 c2.2.2) af
noncomputable def Mx(b:List a9)(hs:List Kv):Option RS:=(zb b).bind λq=>(kO hs).bind λeh=>cond (Mu X ks eh) (WV X F ks q.1 q.2) af
noncomputable def zo(f:a9→Option RS):List a9→Option bP
 | []=>aa .nil
 |s::ss=>(f s).bind λr=>(zo f ss).bind λrs=>aa (.cons r rs)
noncomputable def My(G:List a9→Option bP)(s:a9):Option RS:=match s with
 | .Assign ts v _=>(kO ts).bind λt=>FV X F ks t v
 | .AugAssign t op v _=>(kR X ks t).bind λi=>(FK op).bind λo=>(F ks v).bind λe=>aa (wrap X.mu (dA e) (.aug i o e))
 | .Expr v _=>Mt X F ks v
 | .If c a b _=>(F ks c).bind λr=>(G a).bind λa=>(G b).bind λb=>aa (wrap X.mu (dA r) (.ite r a b))
 | .For t it body orelse _=>cond orelse.isEmpty ((jm X ks t).bind λt=>(zi (F ks) ks it).bind λit=>(G body).bind λb=>aa (wrap X.mu (FG it) (.loop t it b))) af
 | .Try b hs e f _=>cond (e.isEmpty&&f.isEmpty) (Mx X F ks b hs) af
 | .Return v _=>v.bind λe=>(F ks e).bind λr=>aa (FH X.mu (.ret r))
 |_=>af
noncomputable def Mz(n:Nat):a9→Option RS:=J7 (λZ=>af) (λZ f=>My X F ks (zo f)) n
noncomputable def BS(ks:KS)(b:List a9):Option bP:=zo (Mz X (cE X 30) ks 12) b
end
section
structure Kt where
 w:cM
 X:Cx
 tk:List (ah × Int)
 mg:ah→Option ak
 mb:ah→Option ak
 fo:Nat→Option (aE × pw)
 hc:aE
 fr:aE→fI→Prop
 me:Option (bF × List (bF × pA))
noncomputable def te:List (ah × Int)→ah→Option Int
 | [],_=>af
 | (k,v)::r,x=>cond (sEq k x) (aa v) (te r x)
theorem FX(x k:ah)(v:Int)(r:gM):te ((k,v)::r) x=bif sEq k x then aa v else te r x:=rfl
noncomputable def xg(tk:gM):List (D × D):=tk.map λp=>(.str p.1,.int p.2)
structure bU(K:Kt):Prop where
 nm:∀x i,aZ x K.X.names=aa i→(x == ("__debug__" :ah))=ag∧(x == ("__classdict__" :ah))=ag
 nf:∀x i,aZ x K.X.fns=aa i→(x == ("__debug__" :ah))=ag
 nl:∀x i,rm x K.X.bH=aa i→(x == ("__debug__" :ah))=ag
 fm:∀x i,aZ x K.X.fns=aa i→∃a fd,K.fo i=aa (a,fd)∧K.mg x=aa (.ref a)
 gi:∀x i,rm x K.X.bH=aa i→∃t,K.mg x=aa (.int i t)
 len:K.mg rp=af∧K.mb rp=aa (.builtin "len")
 str:K.mg lE=af∧K.mb lE=aa (.type "str")
 int:K.mg rq=af∧K.mb rq=aa (.type "int")
 sum:K.mg xd=af∧K.mb xd=aa (.builtin "sum")
 sorted:K.mg zd=af∧K.mb zd=aa (.builtin "sorted")
 ve:K.mg mx=af∧K.mb mx=aa (.type "ValueError")
 u7:K.mg oM=af∧K.mb oM=aa (.builtin "isinstance")
 range:K.mg rr=af∧K.mb rr=aa (.type "range")
inductive BU(U:aY)(h:aP)(cd:ak)(q:ah):Prop
 |mk (c:aE) (o:fI) (vs:Array ak) (t:mY) (e1:cd=.ref c) (e2:¬U c) (e3:h.get? c=aa o) (e4:o.data=.fields vs) (e5:vs[1]? =aa (.str q t))
theorem BU.MA{h:aP}{cd:ak}{q:ah}(x:BU U h cd q):h.CodeRec cd q:=by obtain⟨c,o,vs,t,e,_,r,r1,r2⟩:=x;exact⟨c,o,vs,t,e,r,r1,r2⟩
noncomputable def nI(w:cM)(U:aY)(h:aP)(v:ak)(kvs:gM):Prop:=∃a,v=.ref a∧¬U a∧TabAt (wI prog w) uA h a (xg kvs)
theorem nI.mono{w:cM}{h:aP}{v:ak}{kvs:gM}(x:nI w U h v kvs)(hk:∀a o,¬U a→h.get? a=aa o→h'.get? a=aa o)(hu:∀a o,h.get? a=aa o→¬U a→¬U' a):nI w U' h' v kvs:=by obtain⟨a,e1,e2,e3,l,⟨o,es,ep,ho,q⟩,e5⟩:=x;exact⟨a,e1,hu _ _ ho e2,e3,l,⟨o,es,ep,hk _ _ e2 ho,q⟩,e5⟩
section
variable(K:Kt)
structure br(U:aY)(h:aP):Prop where
 ng:h.Ns gn K.mg
 ug:¬U gn
 nb:h.Ns jB K.mb
 ub:¬U jB
 fo:∀i a fd,K.fo i=aa (a,fd)→∃o,h.get? a=aa o∧¬U a∧o.data=.func fd∧BU U h fd.code fd.qualname
 tok:∃v,K.mg zf=aa v∧nI K.w U h v K.tk
 lim:h.NoLimit
 ul:¬U cStatics
 iU:∀a o,K.fr a o→h.get? a=aa o∧¬U a
end
theorem yz.stays{h:aP}{m:gw}(x:h.Ns a m)(u:¬U a)(hk:∀a o,¬U a→h.get? a=aa o→h'.get? a=aa o):h'.Ns a m:=
 fu x λo es ep ho r=>⟨o,es,ep,hk _ _ u ho,r⟩
variable{K:Kt}
theorem br.mono{h:aP}(g:br K U h)(hk:∀a o,¬U a→h.get? a=aa o→h'.get? a=aa o)(hu:∀a o,h.get? a=aa o→¬U a→¬U' a):br K U' h' where
 ng:=yz.stays g.ng g.ug hk
 ug:=fu g.ng λo Z Z e Z=>hu _ o e g.ug
 nb:=yz.stays g.nb g.ub hk
 ub:=fu g.nb λo Z Z e Z=>hu _ o e g.ub
 fo:=λi a fd e=>by obtain⟨o,ho,ua,hd,c,oc,vs,t,e1,e2,e3,e4,e5⟩:=g.fo i a fd e;exact⟨o,hk _ _ ua ho,hu _ _ ho ua,hd,c,oc,vs,t,e1,hu _ _ e3 e2,hk _ _ e2 e3,e4,e5⟩
 tok:=aD g.tok λv e q=>⟨v,e,q.mono hk hu⟩
 lim:=aD g.lim λm e1 e2=>⟨m,yz.stays e1 g.ul hk,e2⟩
 ul:=aD g.lim λZ n Z=>fu n λo Z Z e Z=>hu _ o e g.ul
 iU:=λa o e=>xA (g.iU a o e) λp q=>⟨hk a o q p,hu a o p q⟩
theorem br.ext(x:Ext s s')(g:br K U s.heap):br K U s'.heap:=g.mono (λa o Z e=>x.keep a o e) λZ Z Z n=>n
noncomputable def dg(ks:cT)(env:bF):Prop:=∀x k,aV x ks=aa k→env.kindOf x=aa k∨(k=.free∧env.kindOf x=aa .cell)
noncomputable def fP(env:bF)(h:aP)(x:ah)(v:ak):Prop:=
 (env.kindOf x=aa .local∧∃m,h.Ns env.locals m∧m x=aa v)∨
 ((env.kindOf x=aa .cell∨env.kindOf x=aa .free)∧∃c,env.cells.lookup x=aa c∧h.IsCell c (aa v))
theorem fP.ext{v:ak}(e:Ext s s')(r:fP env s.heap x v):fP env s'.heap x v:=by
 rcases r with⟨k,m,n,e1⟩| ⟨k,c,e1,e2⟩
 ·exact .inl ⟨k,m,n.keeps e.keep,e1⟩
 ·exact .inr ⟨k,c,e1,e2.keeps e.keep⟩
noncomputable def pairD(p:ah × ah):D:=.tuple [.str p.1,.str p.2]
structure WW(hc:aE)(U:aY)(h:aP)(a l:aE)(t:d6)(o:fI)(d:aE)(m:gw)(vs:Array ak)(n:Nat):Prop where
 e2:h.get? a=aa o
 e3:o.cls=.ref hc
 e4:o.dict=aa d
 e5:∀c,o.data≠.cls c
 e6:¬U a
 e7:h.Ns1 d m
 e8:¬U d
 e9:d≠a
 my:m ("_headers" :ah)=aa (.ref l)
 zp:∀x,x≠("_headers" :ah)→m x=af
 jI:h.get? l=aa (cy vs n)
 tf:aI U h vs.toList (t.map pairD)
noncomputable def dO(hc:aE)(U:aY)(h:aP)(a l:aE)(t:d6):Prop:=∃o d m vs n,WW hc U h a l t o d m vs n
theorem dO.mono{hc:aE}{h:aP}{t:d6}(x:dO hc U h a l t)(hk:∀a o,¬U a→h.get? a=aa o→h'.get? a=aa o)(hu:∀a o,h.get? a=aa o→¬U a→¬U' a)
  (hl:∀vs n,h.get? l=aa (cy vs n)→h'.get? l=aa (cy vs n)):dO hc U' h' a l t:=by
 exact uY x λo d m vs n x=>fu x.e7 λoo es ep f1 f2=>⟨o,d,m,vs,n,hk _ _ x.e6 x.e2,x.e3,x.e4,x.e5,hu _ _ x.e2 x.e6,⟨oo,es,ep,hk _ _ x.e8 f1,f2⟩,hu _ _ f1 x.e8,x.e9,x.my,x.zp,hl _ _ x.jI,x.tf.mono hk hu⟩
noncomputable def iV(hc:aE)(U:aY)(h:aP)(v:ak)(t:d6):Prop:=
 ∃a l,v=.ref a∧dO hc U h a l t
theorem iV.ext{hc:aE}{v:ak}{t:d6}(x:Ext s s')(r:iV hc U s.heap v t):iV hc U s'.heap v t:=gy r λa l e1 r=>⟨a,l,e1,r.mono (λa o Z e=>x.keep a o e) (λZ Z Z n=>n) λZ Z e=>x.keep _ _ e⟩
noncomputable def j8(K:Kt)(U:aY)(h:aP)(hs:Hs)(v:ak):bA→Prop
 | .val d=>Rd U h v d
 | .own xs=>∃a vs n,v=.ref a∧h.get? a=aa (cy vs n)∧aI U h vs.toList xs
 | .cU i=>∃t,hs[i]? =aa t∧iV K.hc U h v t
 | .fN kvs=>nI K.w U h v kvs
theorem j8.ext{K:Kt}{v:ak}(x:Ext s s')(r:j8 K U s.heap hs v sl):j8 K U s'.heap hs v sl:=by
 induction sl with
 |val d=>exact Rd.ext x r
 |own xs=>exact ib r λa vs n e1 e3 e4=>⟨a,vs,n,e1,x.keep _ _ e3,e4.ext x⟩
 |cU i=>exact aD r λt e1 e2=>⟨t,e1,e2.ext x⟩
 |fN l=>exact r.mono (λa o Z e=>x.keep a o e) λZ Z Z n=>n
structure jn(U:aY)(env:bF)(h:aP):Prop where
 loc:U env.locals∧∃m,h.Ns env.locals m
 fQ:∀x c,env.cells.lookup x=aa c→U c∧∃v,h.IsCell c v
 inj:∀x y c,env.cells.lookup x=aa c→env.cells.lookup y=aa c→x=y
 has:∀x,env.kindOf x=aa .cell∨env.kindOf x=aa .free→∃c,env.cells.lookup x=aa c
theorem jn.ext(x:Ext s s')(f:jn U env s.heap):jn U env s'.heap:=
 ⟨lD f.loc λa m n=>⟨a,m,n.keeps x.keep⟩,λy c e=>lD (f.fQ y c e) λa v i=>⟨a,v,i.keeps x.keep⟩,f.inj,f.has⟩
variable(K)
structure bJ(U:aY)(env:bF)(hs:Hs)(ρ:aM)(s:ay):Prop where
 bH:br K U s.heap
 ub:UB U s
 kind:env.scope.kind=.function
 gl:env.globals=gn
 bi:env.builtins=jB
 bu:jn U env s.heap
 vars:∀x i sl,aZ x K.X.names=aa i→get ρ i=aa sl→d8 (env.kindOf x)→∃v,fP env s.heap x v∧j8 K U s.heap hs v sl
variable{K}
theorem bJ.ext(x:Ext s s')(e:bJ K U env hs ρ s):bJ K U env hs ρ s' where
 bH:=e.bH.ext x
 ub:=e.ub.ext x
 kind:=e.kind
 gl:=e.gl
 bi:=e.bi
 bu:=e.bu.ext x
 vars:=λy i sl a b c=>aD (e.vars y i sl a b c) λv p q=>⟨v,p.ext x,q.ext x⟩
theorem nJ(k:dg ks env)(h:d8 (aV x ks)):d8 (env.kindOf x):=by
 induction q:aV x ks with
 |none=>replace h:=q▸h;exact zF h
 |some kd=>
  rcases k x kd q with e| ⟨_,e⟩
  ·exact rE e (rS q h)
  ·refine rE e ?_;rfl
theorem lF(k:dg ks env)(h:eZ (aV x ks)):env.kindOf x=aa .globalImplicit:=by
 induction q:aV x ks with
 |none=>replace h:=q▸h;exact zF h
 |some kd=>
  replace h:=q▸h;induction kd<;>first|cases h|skip
  rcases k x _ q with e| ⟨e,_⟩
  ·exact e
  ·cases e
theorem bJ.read(O:bU K)(I:bJ K U env hs ρ s)(hi:aZ x K.X.names=aa i)(hg:get ρ i=aa sl)(hk:d8 (env.kindOf x))(hQ:∀v,j8 K U s.heap hs v sl→Q v s):ar (aw prog K.w) A (eval (.Name x pos) env) Q E s:=by
 refine aD (I.vars x i sl hi hg hk) λv hv hs'=>yA ?_ (O.nm x i hi).1;rcases hv with⟨k,m,n,e⟩| ⟨k|k,c,e1,e2⟩
 ·exact wJ I.kind k n e (hQ v hs')
 ·exact A1 I.kind k e1 e2 (hQ v hs')
 ·exact A2 I.kind k e1 e2 (hQ v hs') (O.nm x i hi).2
theorem bJ.global(I:bJ K U env hs ρ s){v:ak}(hk:env.kindOf x=aa .globalImplicit)(hv:K.mg x=aa v)(hn:(x == ("__debug__" :ah))=ag)
  (hQ:Q v s):ar (aw prog K.w) A (eval (.Name x pos) env) Q E s:=by
 refine Kw I.kind hk (loadGlobal_global (mg:=K.mg) (rE I.gl I.bH.ng) hv hQ) hn
theorem bJ.builtin(I:bJ K U env hs ρ s){v:ak}(hk:env.kindOf x=aa .globalImplicit)(hv:K.mg x=af∧K.mb x=aa v)(hn:(x == ("__debug__" :ah))=ag)
  (hQ:Q v s):ar (aw prog K.w) A (eval (.Name x pos) env) Q E s:=by
 refine Kw I.kind hk (ahx (mg:=K.mg) (mb:=K.mb) (rE I.gl I.bH.ng) hv.1 (rE I.bi I.bH.nb) hv.2 hQ) hn
theorem FY(h:jG ρ i=aa d):∃sl,get ρ i=aa sl∧∀ {K:Kt}{U:aY}{h:aP}{hs:Hs}{v:ak},j8 K U h hs v sl→Rp U h v d:=by
 unfold jG at h;induction q:nB ρ i with
 |some xs=>replace h:=iJ (q▸h);subst h;exact⟨_,BD q,λ⟨a,vs,n,r⟩=>.inr ⟨xs,a,vs,n,rfl,r⟩⟩
 |none=>replace h:=q▸h;exact⟨_,E7 h,.inl⟩
end
theorem xh{e:RE}{x:D}(hx:ev tk C hs e ρ=aa (x,ae)):eD tk C hs (.cons e .nil) ρ=aa ([x],ae):=by show W.bind (ev tk C hs e ρ) _=_;refine rE hx ?_;rfl
theorem BV{e f:RE}{x:D}(hx:ev tk C hs e ρ=aa (x,ae))(hy:ev tk C hs f ρ=aa (y,ae)):eD tk C hs (.cons e (.cons f .nil)) ρ=aa ([x,y],ae):=by show W.bind (ev tk C hs e ρ) (λx=>W.bind (eD tk C hs (.cons f .nil) ρ) λxs=>W.ret (x::xs))=_;refine rE hx (rE (xh hy) ?_);rfl
theorem eE{y:ah}(h:sEq x y):x=y:=sEq_iff.mp h
theorem cj{o:Option α}{x:α}(h:cond b o af=aa x):b=ae∧o=aa x:=by induction b with|true=>exact⟨rfl,h⟩|false=>exact zN h
theorem cg{a:Bool}(h:(a&&b)):a∧b:=by replace h:=(jW ..)▸h;exact h
theorem WX:Ft=("join" :ah):=by decide
theorem nK:(rp == ("__debug__" :ah))=ag∧(lE == ("__debug__" :ah))=ag∧(rq == ("__debug__" :ah))=ag∧(xd == ("__debug__" :ah))=ag∧(zd == ("__debug__" :ah))=ag∧
 True∧(oM == ("__debug__" :ah))=ag∧(rr == ("__debug__" :ah))=ag∧(zf == ("__debug__" :ah))=ag∧(u3 == ("__debug__" :ah))=ag:=by decide
section
variable{w:cM}
theorem MB{o:au}{name:ah}(hr:recv o):Uo o name env (eval o env)=eval o env:=by
 have hr:Mj (view o):=hr;induction q:view o with
 |name x p=>obtain rfl:=dM q rfl;rfl
 |const c k p=>obtain rfl:=dM q rfl;rfl
 |sub a i p=>obtain rfl:=dM q rfl;rfl
 |call f as iA p=>
  replace hr:=q▸hr;obtain rfl:=dM q rfl;have hr:(match view f with| .attr _ _ _=>ae|_=>ag)=ae:=hr;induction q2:view f with
  |attr o' m p'=>obtain rfl:=dM q2 rfl;rfl
  |_=>replace hr:=q2▸hr;exact zF hr
 |_=>replace hr:=q▸hr;exact zF hr
theorem pP{o:au}{name:ah}{apos:aO}(hr:recv o)(hl:cH apos pos)(hn:args.length≤20)
  (WY:(gJ pos (fZ args env)).all (λx=> !x.1))
  (h:ar (aw prog w) A (eval o env) (λov ai=>∀pl,ar (aw prog w) A (yB ov name pl) (λfx av=>ar (aw prog w) A (jY pos fx.1 fx.2 (gJ pos (fZ args env)) []) Q E av) E ai) E s):
  ar (aw prog w) A (eval (.Call (.Attribute o name apos) args [] pos) env) Q E s:=by
 have u9:=MB (name:=name) (env:=env) hr;have zq:methodCallForm (args.length+([]:List Ej).length) (gJ pos (fZ args env)) (backToKw pos (keywordEach [] env)):=by unfold methodCallForm;refine rE WY (rE (Uq ..) ?_);show(ae&&decide (args.length+0+0<30));exact rE (Uq ..) (decide_eq_true (by lia))
 have zr:(apos.endLine == pos.line):=rE (fY hl) (beq_self_eq_true _)
 have zt:A3 ae o env apos pos=pure pos:=by unfold A3;simp[zr]
 refine rE (Ur ..) (rE u9 ?_);refine aB (ia h (λov ai h₁=>aB (kI ?_)) λZ Z e=>e);unfold methodCall;refine rE zq (aB (jg ?_));unfold calleeOf;exact rE (if_pos rfl) (ia (h₁ _) (λfx av ey=>aB (ou zt ey)) λZ Z e=>e)
end
section
variable(w:cM)(A:dU)
noncomputable def BW(s:ay)(t:cN Bool)(b:Bool):Prop:=∀ (Q:Bool→ay→Prop) (E:aW),(∀s',Ext s s'→Q b s')→ar (aw prog w) A t Q E s
noncomputable def WZ(U:aY)(s:ay)(t:cN (List ak))(xs:List D):Prop:=
 ∀ (Q:List ak→ay→Prop) (E:aW),(∀vs s',Ext s s'→aI U s'.heap vs xs→Q vs s')→ar (aw prog w) A t Q E s
noncomputable def pQ(U:aY)(s:ay)(t:cN ak)(xs:List D):Prop:=
 ∀ (Q E:aW),(∀a s',Ext s s'→s.heap.get? a=af→(∃vs n,s'.heap.get? a=aa (cy vs n)∧aI (λb=>U b∨b=a) s'.heap vs.toList xs)→Q (.ref a) s')→ar (aw prog w) A t Q E s
theorem pQ.gv{t:cN ak}{xs:List D}(hb:UB U s)(h:pQ w A U s t xs):Gv w A U s t (.list xs):=λQ E hQ=>h Q E λa s' x hn ⟨vs,n,e,r⟩=>
 hQ _ s' x (.list e (λu=>by refine xE (hb a u) λo e=>?_;replace e:=hn▸e;exact zN e) (r.mono (λZ Z Z e=>e) λb Z Z n k=>n (.inl k)))
noncomputable def zu(U:aY)(s:ay)(v:ak)(name:ah)(xs:List D)(P:ay→cN ak→Prop):Prop:=
 ∀ (pl:cN Bool) (Q:ak × List ak→ay→Prop) (E:aW),(∀ (f:ak) (first:List ak) (ai:ay),Ext s ai→
  (∃a o fd,f=.ref a∧ai.heap.get? a=aa o∧o.data=.func fd)→(∀vs av,Ext ai av→aI U av.heap vs xs→P av (call f (first++vs)))→Q (f,first) ai)→
  ar (aw prog w) A (yB v name pl) Q E s
noncomputable def tj(U:aY)(s:ay)(v:ak)(name:ah)(xs:List D)(d:D):Prop:=zu w A U s v name xs λs t=>Gv w A U s t d
end
section
variable(K:Kt)(C:l9)(A:dU)
structure kT:Prop where
 ok:bU K
 room:∃n,bW A n
 call:∀f args d U s a fd vs,C f args=aa (d,ae)→K.fo f=aa (a,fd)→br K U s.heap→UB U s→aI U s.heap vs args→Gv K.w A U s (yC (.ref a) vs) d
 jE:∀U s v t x,br K U s.heap→UB U s→iV K.hc U s.heap v t→keyOk x→qX t→tj K.w A U s v pM [.str x] (.list (f9 t (sL x)))
 oH:∀U s v t,br K U s.heap→UB U s→iV K.hc U s.heap v t→t.length≤1000000→zu K.w A U s v nG [] λs r=>pQ K.w A U s r (t.map λp=>.tuple [.str p.1,.str p.2])
 mf:∀U s v t,br K U s.heap→UB U s→iV K.hc U s.heap v t→t.length≤1000000→tj K.w A U s v rt [] (.list (t.map λp=>.str p.1))
noncomputable def iB(ks:cT)(e:au)(r:RE):Prop:=∀U env hs ρ s d,dg ks env→bJ K U env hs ρ s→ev K.tk C hs r ρ=aa (d,ae)→Gv K.w A U s (eval e env) d
noncomputable def bg(ks:cT)(e:au)(r:RE):Prop:=∀U env hs ρ s d,dg ks env→bJ K U env hs ρ s→ev K.tk C hs r ρ=aa (d,ae)→
 Gv K.w A U s (eval e env) d∧∀b,truthy d=aa b→BW K.w A s (isTrue e env (eval e env)) b
inductive cZ(ks:cT):List au→bf→Prop
 |nil:cZ ks [] .nil
 |cons {e es r rs:_}:nH e=ag→bg K C A ks e r→cZ ks es rs→cZ ks (e::es) (.cons r rs)
inductive mz(ks:cT):Option au→RO→Prop
 |none:mz ks af .none
 |some {e r:_}:bg K C A ks e r→mz ks (aa e) (.some r)
inductive vc(ks:cT):List kG→List au→md→Prop
 |nil:vc ks [] [] .nil
 |cons {op e ops es r rs:_}:(∀o,behindInMarks o e=ag)→bg K C A ks e r→vc ks ops es rs→vc ks (Fe op::ops) (e::es) (.cons op r rs)
end
section
variable{K:Kt}
theorem xi{v:ak}(r:Rd U s.heap v d)(h:truthy d=aa b):BW K.w A s (Ek v) b:=by
 unfold truthy at h;intro Q E hQ;induction q:Bt d with
 |some c=>replace h:=iJ (q▸h);subst h;obtain rfl:=LB q;obtain rfl:=r.E6;exact lr (hQ _ (.refl s))
 |none=>replace h:=q▸h;refine aD (sJ.mp h) λi h1 h2=>?_;clear h;obtain rfl:=gc h1;clear h1;refine xE r.iz λZ e9=>?_;subst e9;subst h2;exact PyProof.Rows.truthy_int (hQ _ (.refl s))
theorem iB.plain{e:au}(he:∀env whole,isTrue e env whole=(do let v ← whole;ow e.pos;holding [v] (Ek v)))(h:iB K C A ks e r):bg K C A ks e r:=
 λU env hs ρ s d hk I ao=>⟨h U env hs ρ s d hk I ao,λb hb Q E hQ=>isTrue_plain (h U env hs ρ s d hk I ao _ _ λZ ai aq W2=>
  xi W2 hb _ _ λav aC=>hQ av (aq.trans aC)) (he _ _)⟩
theorem snd_const{c:Const}{kd:Nat}(h:Mh c=aa d):bg K C A ks (.Constant c kd p) (.lit d):=by
 refine iB.plain (λZ Z=>rfl) λU env hs ρ s d' hk I ao Q E hQ=>?_;obtain rfl:=W.bp (ao:W.ret d=_);induction c with
 |none=>replace h:=iJ h;subst h;exact El (hQ _ _ (.refl s) .none)
 |bool b=>replace h:=iJ h;subst h;exact Em (hQ _ _ (.refl s) (.bool _))
 |int i=>replace h:=iJ h;subst h;exact Us (hQ _ _ .tok (.int _ _))
 |str x=>replace h:=iJ h;subst h;exact Kx (hQ _ _ .tok (.str _ _))
 |_=>exact zN h
theorem xj(O:bU K)(h:tc K.X ks x=aa r):bg K C A ks (.Name x p) r:=by
 refine iB.plain (λZ Z=>rfl) λU env hs ρ s d hk I ao Q E hQ=>?_;unfold tc at h;induction hv:d8 (aV x ks)with
 |true=>replace h:=hv▸h;refine oE h ?_;clear h;intro i hi h;replace h:=iJ h;subst h;refine oE (ao:(pI ρ i).bind W.ret=_) λd' hg ao=>?_;obtain rfl:=W.bp ao;exact I.read O hi (E7 hg) (nJ hk hv) λv hs'=>hQ v s (.refl s) hs'
 |false=>replace h:=hv▸h;refine xA (cj h) λhg h=>oE h λi hi h=>?_;replace h:=iJ h;subst h;clear h;obtain rfl:=W.bp (ao:W.ret (fX i)=_);exact xE (O.gi x i hi) λt ht=>I.global (lF hk hg) ht (O.nl x i hi) (hQ _ s (.refl s) (.int _ _))
theorem MD{l r:au}{o:wC}{op:ma}{a b:RE}(ho:Mf o=aa op)(ha:bg K C A ks l a)(hb:bg K C A ks r b):bg K C A ks (.BinOp l o r p) (.bin op a b):=by
 have:o=LF op:=by cases o<;>cases ho<;>rfl
 clear ho;subst this;refine iB.plain (λZ Z=>rfl) λU env hs ρ s d hk I ao Q E hQ=>wE (ao:W.bind _ _=_) λx hx ao=>wE ao λy hy ao=>wpAny_BinOp ((ha U env hs ρ s x hk I hx).1 _ _ λva ai aq ra=>(hb U env hs ρ ai y hk (I.ext aq) hy).1 _ _ λvb av aC rb=>?_);exact VQ (I.ub.ext (aq.trans aC)) ao (ra.ext aC) rb Q E λv aR bx r=>hQ v aR (aq.trans (aC.trans bx)) r
theorem W4{c a b:au}{rc ra rb:RE}(hc:bg K C A ks c rc)(ha:bg K C A ks a ra)(hb:bg K C A ks b rb):bg K C A ks (.IfExp c a b p) (.ite rc ra rb):=by
 intro U env hs ρ s d hk I ao;refine wE (ao:W.bind _ _=_) λx hx ao=>oE ao λq iC ao=>⟨λQ E hQ=>IfExp_ ((hc U env hs ρ s x hk I hx).2 _ iC _ _ λai aq=>?_),λt ht Q E hQ=>isTrue_IfExp ((hc U env hs ρ s x hk I hx).2 _ iC _ _ λai aq=>?_)⟩
 ·induction q with
  |true=>exact(ha U env hs ρ ai d hk (I.ext aq) ao).1 _ _ λv av aC r=>hQ v av (aq.trans aC) r
  |false=>exact(hb U env hs ρ ai d hk (I.ext aq) ao).1 _ _ λv av aC r=>hQ v av (aq.trans aC) r
 ·induction q with
  |true=>exact(ha U env hs ρ ai d hk (I.ext aq) ao).2 t ht _ _ λav aC=>hQ av (aq.trans aC)
  |false=>exact(hb U env hs ρ ai d hk (I.ext aq) ao).2 t ht _ _ λav aC=>hQ av (aq.trans aC)
end
section
variable{K:Kt}
theorem snd_and(hl:cZ K C A ks es rs):∀ {e:au}{r:RE},bg K C A ks e r→bg K C A ks (.BoolOp .And (e::es) p) (Fo r rs):=by
 induction hl with
 |nil=>
  intro e r he U env hs ρ s d hk I ao;refine⟨λQ E hQ=>BoolOp_one ((he U env hs ρ s d hk I ao).1 Q E hQ),λb hb Q E hQ=>Ut ((he U env hs ρ s d hk I ao).2 b hb _ _ λai aq=>?_)⟩;induction b with
  |true=>exact isTrue_and_nil (hQ ai aq)
  |false=>exact hQ ai aq
 |cons n2 FZ hr ih=>
  intro e r he U env hs ρ s d hk I ao;have ih:=ih FZ;refine wE (ao:W.bind _ _=_) λx hx ao=>oE ao λq hb ao=>?_;induction q with
  |true=>
   refine⟨λQ E hQ=>BoolOp_and ((he U env hs ρ s x hk I hx).1 _ _ λva ai aq ra=>xi ra hb _ _ λav aC=>?_),λb iC Q E hQ=>Ut ((he U env hs ρ s x hk I hx).2 _ hb _ _ λai aq=>?_)⟩
   ·exact(ih U env hs ρ av d hk (I.ext (aq.trans aC)) ao).1 _ _ λv aR bx r=>hQ v aR ((aq.trans aC).trans bx) r
   ·exact(ih U env hs ρ ai d hk (I.ext aq) ao).2 b iC _ _ λaR bx=>hQ aR (aq.trans bx)
  |false=>obtain rfl:=W.bp ao;refine⟨λQ E hQ=>BoolOp_and ((he U env hs ρ s x hk I hx).1 _ _ λva ai aq ra=>xi ra hb _ _ λav aC=>hQ va av (aq.trans aC) (ra.ext aC)),λb iC Q E hQ=>Ut ((he U env hs ρ s x hk I hx).2 _ hb _ _ λai aq=>?_)⟩;replace iC:=iJ (hb▸iC);subst iC;exact hQ ai aq
theorem W5(hl:cZ K C A ks es rs):∀ {e:au}{r:RE},bg K C A ks e r→bg K C A ks (.BoolOp .Or (e::es) p) (Fp r rs):=by
 induction hl with
 |nil=>
  intro e r he U env hs ρ s d hk I ao;refine⟨λQ E hQ=>BoolOp_one ((he U env hs ρ s d hk I ao).1 Q E hQ),λb hb Q E hQ=>Uu ((he U env hs ρ s d hk I ao).2 b hb _ _ λai aq=>?_)⟩;induction b with
  |false=>exact isTrue_or_nil (hQ ai aq)
  |true=>exact hQ ai aq
 |cons n2 FZ hr ih=>
  intro e r he U env hs ρ s d hk I ao;have ih:=ih FZ;refine wE (ao:W.bind _ _=_) λx hx ao=>oE ao λq hb ao=>?_;induction q with
  |true=>obtain rfl:=W.bp ao;refine⟨λQ E hQ=>BoolOp_or ((he U env hs ρ s x hk I hx).1 _ _ λva ai aq ra=>xi ra hb _ _ λav aC=>hQ va av (aq.trans aC) (ra.ext aC)),λb iC Q E hQ=>Uu ((he U env hs ρ s x hk I hx).2 _ hb _ _ λai aq=>?_)⟩;replace iC:=iJ (hb▸iC);subst iC;exact hQ ai aq
  |false=>
   refine⟨λQ E hQ=>BoolOp_or ((he U env hs ρ s x hk I hx).1 _ _ λva ai aq ra=>xi ra hb _ _ λav aC=>?_),λb iC Q E hQ=>Uu ((he U env hs ρ s x hk I hx).2 _ hb _ _ λai aq=>?_)⟩
   ·exact(ih U env hs ρ av d hk (I.ext (aq.trans aC)) ao).1 _ _ λv aR bx r=>hQ v aR ((aq.trans aC).trans bx) r
   ·exact(ih U env hs ρ ai d hk (I.ext aq) ao).2 b iC _ _ λaR bx=>hQ aR (aq.trans bx)
theorem W6{ops:List kG}{cs:md}(h:vc K C A ks ops es cs):lastMarks ops es=ag:=by
 induction h with
 |nil=>rfl
 |cons hm _ hr ih=>induction hr with
  |nil=>exact hm _
  |cons _ _ _=>exact ih
theorem ME:∀ (cs:md) (a:D),yV tk C hs a cs ρ=aa (d,ae)→∃b,d=.bool b
 | .nil,a,h=>by exact zN h
 | .cons op e .nil,a,h=>by exact wE (h:W.bind _ _=_) λy Z h=>wE h λb Z h=>⟨b,(W.bp (h:W.ret (yD b)=_)).symm⟩
 | .cons op e (.cons W7 e' MF),a,h=>by
  refine wE (h:W.bind _ _=_) λy Z h=>wE h λb Z h=>?_;induction b with
  |false=>exact⟨ag,(W.bp (h:W.ret (yD ag)=_)).symm⟩
  |true=>exact ME (.cons W7 e' MF) y h
theorem MG(R:∃n,bW A n)(hk:dg ks env):∀ {ops:List kG}{es:List au}{cs:md},vc K C A ks ops es cs→
  ∀ {s:ay}{a d:D}{va:ak},bJ K U env hs ρ s→Rd U s.heap va a→yV K.tk C hs a cs ρ=aa (d,ae)→
   ∃b,d=.bool b∧Gv K.w A U s (compareChain p va ops (Eo es env)) d∧BW K.w A s (testChain p va ops (Eo es env)) b:=by
 intro ops es cs hc;induction hc with
 |nil=>exact λZ Z h=>nomatch h
 | @cons op e ops es r rs _ he hr ih=>
  intro s a d va I ra h;refine xE R λn R=>wE (h:W.bind _ _=_) λy hy h=>wE h λb hb h=>?_;clear cs;cases hr with
  |nil=>
   clear es ops;obtain rfl:=W.bp (h:W.ret (yD b)=_);refine⟨b,rfl,λQ E hQ=>chain_last ((he U env hs ρ s y hk I hy).1 _ _ λvb ai aq rb=>xa R hb (ra.ext aq) rb _ _ λav aC=>hQ _ av (aq.trans aC) (.bool b)),λQ E hQ=>?_⟩;show ar _ A (do
    let rv ← holding [va] (eval _ env)
    ow p
    let c ← operate [va,rv] (sG _ va rv)
    holding [c] (Ek c)) Q E s
   refine aB (jg ((he U env hs ρ s y hk I hy).1 _ _ λvb ai aq rb=>aB (kI (aB (wpAny_operate' (xa R hb (ra.ext aq) rb _ _ λav aC=>?_))))));exact jg (lr (hQ av (aq.trans aC)))
  |cons h1 h2 h3=>
   have h:cond b (yV K.tk C hs y (.cons _ _ _) ρ) (W.ret (.bool ag))=aa (d,ae):=h;induction b with
   |false=>
    clear es ops;obtain rfl:=W.bp (h:W.ret (yD ag)=_);refine⟨ag,rfl,λQ E hQ=>chain_link ((he U env hs ρ s y hk I hy).1 _ _ λvb ai aq rb=>xa R hb (ra.ext aq) rb _ _ λav aC=>lr (hQ _ av (aq.trans aC) (.bool ag))),
     λQ E hQ=>test_link ((he U env hs ρ s y hk I hy).1 _ _ λvb ai aq rb=>xa R hb (ra.ext aq) rb _ _ λav aC=>lr (hQ av (aq.trans aC)))⟩
   |true=>
    have ih:=fun(s:ay) (va:ak) (I:bJ K U env hs ρ s) (ra:Rd U s.heap va y)=>ih I ra h;have hd:∃b,d=.bool b:=ME _ _ h;clear h es ops;refine xE hd ?_;clear hd;intro b e9;subst e9;refine⟨b,rfl,λQ E hQ=>chain_link ((he U env hs ρ s y hk I hy).1 _ _ λvb ai aq rb=>xa R hb (ra.ext aq) rb _ _ λav aC=>lr ?_),
     λQ E hQ=>test_link ((he U env hs ρ s y hk I hy).1 _ _ λvb ai aq rb=>xa R hb (ra.ext aq) rb _ _ λav aC=>lr ?_)⟩
    ·exact j4 (ih av vb (I.ext (aq.trans aC)) (rb.ext aC)) λZ Z g Z=>g _ _ λv aR bx r=>hQ v aR ((aq.trans aC).trans bx) r
    ·refine j4 (ih av vb (I.ext (aq.trans aC)) (rb.ext aC)) λc e Z g=>?_;clear rb ih h;cases e;exact g _ _ λaR bx=>hQ aR ((aq.trans aC).trans bx)
end
section
variable{K:Kt}
theorem F1(R:∃n,bW A n){l:au}{ops:List kG}{a:RE}{cs:md}(ha:bg K C A ks l a)(hc:vc K C A ks ops es cs):bg K C A ks (.Compare l ops es p) (.cmp a cs):=by
 intro U env hs ρ s d hk I ao;refine wE (ao:W.bind _ _=_) ?_;clear ao;intro x hx ao;have hm:=markedEach_of_false ops es (Eo es env) (W6 hc);refine⟨λQ E hQ=>?_,λb hb Q E hQ=>?_⟩
 ·show ar _ A (do compareChain p (← eval l env) ops (markedEach ops es (Eo es env))) Q E s;refine rE hm (aB ((ha U env hs ρ s x hk I hx).1 _ _ λva ai aq ra=>?_));obtain⟨_,_,g,_⟩:=MG R (p:=p) hk hc (I.ext aq) ra ao;exact g _ _ λv av aC r=>hQ v av (aq.trans aC) r
 ·show ar _ A (do testChain p (← eval l env) ops (markedEach ops es (Eo es env))) Q E s;refine rE hm (aB ((ha U env hs ρ s x hk I hx).1 _ _ λva ai aq ra=>?_));obtain⟨c,e,_,g⟩:=MG R (p:=p) hk hc (I.ext aq) ra ao;clear ra hm ao hx x I;subst e;replace hb:=iJ hb;subst hb;exact g _ _ λav aC=>hQ av (aq.trans aC)
theorem MH{v:ak}(r:Rd U s.heap v d):sY K.w A s (sG .Is v .none) (Bu d):=by intro Q E hQ;cases r<;>exact wpAny_is_plain rfl (hQ _ (.refl s))
theorem nM{l:List α}{a:α}(h:kO l=aa a):l=[a]:=by
 induction l using bj with
 |nil=>exact zN h
 |cons b r=>induction r with
  |nil=>replace h:=iJ h;subst h;rfl
  |cons=>exact zN h
theorem zv{l:List α}{p:α × α}(h:zb l=aa p):l=[p.1,p.2]:=by
 induction l using bj with
 |nil=>exact zN h
 |cons b r=>refine oE h ?_;clear h;intro c h1 h;replace h:=iJ h;subst h;exact rE (nM h1) rfl
theorem W8{e:au}(h:Fs e):∃k p,e=.Constant .none k p:=by
 unfold Fs at h;induction q:view e with
 |const c k p=>
  replace h:=q▸h;obtain rfl:=dM q rfl;induction c with
  |none=>exact⟨k,p,rfl⟩
  |_=>exact zF h
 |_=>replace h:=q▸h;exact zF h
theorem W9{ops:List kG}(h:Fw ops es):∃k p,ops=[.Is]∧es=[.Constant .none k p]:=by
 refine xA (fJ.mp h) λh1 h2=>?_;induction q1:kO ops with
 |none=>replace h1:=q1▸h1;exact zF h1
 |some o=>
 induction q2:kO es with
 |none=>replace h2:=q2▸h2;exact zF h2
 |some e=>
  replace h1:=q1▸h1;replace h2:=q2▸h2;refine lC (W8 h2) λk p e9=>?_;subst e9;have:o=.Is:=by induction o<;>first|rfl|exact zF h1
  exact⟨k,p,by refine rE (nM q1) ?_;exact rE this rfl,nM q2⟩
theorem Xa{l:au}{p':aO}{a:RE}(ha:bg K C A ks l a):bg K C A ks (.Compare l [.Is] [.Constant .none k p'] p) (.uK a):=by
 intro U env hs ρ s d hk I ao;refine wE (ao:W.bind _ _=_) λx hx ao=>?_;obtain rfl:yD (Bu x)=d:=W.bp (ao:W.ret (yD _)=_);refine⟨λQ E hQ=>wpAny_Compare1 ((ha U env hs ρ s x hk I hx).1 _ _ λva ai aq ra=>El (MH ra _ _ λav aC=>hQ _ av (aq.trans aC) (.bool _))) rfl,
  λb hb Q E hQ=>yE ((ha U env hs ρ s x hk I hx).1 _ _ λva ai aq ra=>El (MH ra _ _ λav aC=>lr ?_)) rfl⟩
 replace hb:=iJ hb;subst hb;exact hQ av (aq.trans aC)
theorem oO{X:Cx}{e:au}(h:nameId X ks e=aa i):∃x p,e=.Name x p∧d8 (aV x ks)∧aZ x X.names=aa i:=oE h λx h1 h=>xE (xc h1) λp e=>xA (cj h) λh1 h2=>⟨x,p,e,h1,h2⟩
theorem zw{nm:ah}{e:au}(h:pN ks nm e):∃p,e=.Name nm p∧eZ (aV nm ks):=by
 unfold pN at h;induction q:s9 (view e)with
 |none=>replace h:=q▸h;exact zF h
 |some x=>replace h:=q▸h;refine xE (xc q) λp e=>xA (cg h) λh1 h2=>?_;clear h;obtain rfl:=eE h1;exact⟨p,e,h2⟩
theorem MI{F:au→Option RE}{a i:au}{ri:RE}(O:bU K)(ha:∀ra,F a=aa ra→bg K C A ks a ra)(hi:bg K C A ks i ri)(h:xe K.X ks a (F a) ri=aa r):
  bg K C A ks (.Subscript a i p) r:=by
 unfold xe at h;induction hv:nameId K.X ks a with
 |some v=>replace h:=iJ (hv▸h);subst h;refine cK (oO hv) λx q e9 h1 h2=>?_;subst e9;exact iB.plain (λZ Z=>rfl) λU env hs ρ s d hk I ao Q E hQ=>oE (ao:(jG ρ v).bind _=_) λd' zx ao=>wE ao λy hy ao=>aD (FY zx) λsl hg hp=>Ep (I.read O h2 hg (nJ hk h1) λu hu=>(hi U env hs ρ s y hk I hy).1 _ _ λvi ai aq ry=>LU ao (hp (hu.ext aq)) ry _ _ λv av aC r=>hQ v av (aq.trans aC) r)
 |none=>replace h:=hv▸h;refine oE h ?_;clear h;intro ra tm h;clear O;replace h:=iJ h;subst h;exact iB.plain (λZ Z=>rfl) λU env hs ρ s d hk I ao Q E hQ=>wE (ao:W.bind _ _=_) λx hx ao=>wE ao λy hy ao=>Ep ((ha _ tm U env hs ρ s x hk I hx).1 _ _ λva ai aq ra=>(hi U env hs ρ ai y hk (I.ext aq) hy).1 _ _ λvi av aC ry=>LU ao (.inl (ra.ext aC)) ry _ _ λv aR bx r=>hQ v aR (aq.trans (aC.trans bx)) r)
theorem F2{o:Option au}{r:RO}(h:mz K C A ks o r){k:Option Int}(hk:dg ks env)(I:bJ K U env hs ρ s)
  (ao:kM K.tk C hs r ρ=aa (k,ae)) {Q:aW}{E:aW} (hQ:∀v s',Ext s s'→qJ v k→Q v s'):ar (aw prog K.w) A (evalPart o env) Q E s:=by
 induction h with
 |none=>obtain rfl:=W.bp (ao:W.ret (af:Option Int)=_);exact bz (hQ _ s (.refl s) .none)
 |some he=>refine wE (ao:W.bind _ _=_) λx hx ao=>rE (evalPart_some ..) ((he U env hs ρ s x hk I hx).1 _ _ λv ai aq r=>hQ v ai aq (aD (y6 ao) λi e9 ao=>?_));subst e9;obtain rfl:=W.bp ao;refine xE r.iz λZ e9=>?_;subst e9;exact .int _ _
theorem MJ{l h st:Option au}{rl rh rs:RO}{x:D}(hl:mz K C A ks l rl)(hh:mz K C A ks h rh)(cz:mz K C A ks st rs)(hk:dg ks env)(I:bJ K U env hs ρ s)
  (ao:(W.bind (kM K.tk C hs rl ρ) λl=>W.bind (kM K.tk C hs rh ρ) λh=>W.bind (kM K.tk C hs rs ρ) λs=>ny x l h s)=aa (d,ae)) {Q E:aW}{tail:ak→cN ak}
  (ht:∀ (s':ay) (kl kh BX:Option Int) (sl:aE) (vl vu pL:ak),Ext s s'→ny x kl kh BX=aa (d,ae)→s'.heap.IsSliceOf sl vl vu pL→qJ vl kl→qJ vu kh→qJ pL BX→ar (aw prog K.w) A (tail (.ref sl)) Q E s'):
  ar (aw prog K.w) A (eval (.Slice l h st q) env) (λv s'=>ar (aw prog K.w) A (tail v) Q E s') E s:=by
 refine wE ao λkl e1 ao=>wE ao λkh e2 ao=>wE ao λBX e3 ao=>?_;exact wpAny_Slice (F2 hl hk I e1 λvl ai aq Xb=>F2 hh hk (I.ext aq) e2 λvu av aC xk=>F2 cz hk ((I.ext aq).ext aC) e3 λpL aR bx vd=>
   ht _ kl kh BX _ vl vu pL ((aq.trans (aC.trans bx)).trans .push) ao (ahy ..) Xb xk vd)
theorem Xc{a:au}{v:Nat}{l h st:Option au}{rl rh rs:RO}(O:bU K)(hv:nameId K.X ks a=aa v)(hl:mz K C A ks l rl)(hh:mz K C A ks h rh)
  (cz:mz K C A ks st rs):bg K C A ks (.Subscript a (.Slice l h st q) p) (.cw v rl rh rs):=by
 refine cK (oO hv) λx q' e9 h1 h2=>?_;subst e9;exact iB.plain (λZ Z=>rfl) λU env hs ρ s d hk I ao Q E hQ=>oE (ao:(jG ρ v).bind _=_) λd' zx ao=>aD (FY zx) λsl hg hp=>Ep (I.read O h2 hg (nJ hk h1) λu hu=>MJ hl hh cz hk I ao λai Z Z Z Z Z Z Z aq e f1 f2 f3 f4=>LY (I.ub.ext aq) e (hp (hu.ext aq)) f1 f2 f3 f4 _ _ λv av aC r=>hQ v av (aq.trans aC) r)
theorem Xd{a:au}{ra:RE}{l h st:Option au}{rl rh rs:RO}(ha:bg K C A ks a ra)(hl:mz K C A ks l rl)(hh:mz K C A ks h rh)
  (cz:mz K C A ks st rs):bg K C A ks (.Subscript a (.Slice l h st q) p) (.slice ra rl rh rs):=by
 exact iB.plain (λZ Z=>rfl) λU env hs ρ s d hk I ao Q E hQ=>wE (ao:W.bind _ _=_) λx hx ao=>Ep ((ha U env hs ρ s x hk I hx).1 _ _ λu aT jo hu=>MJ hl hh cz hk (I.ext jo) ao λai Z Z Z Z Z Z Z aq e f1 f2 f3 f4=>LY (I.ub.ext (jo.trans aq)) e (.inl (hu.ext aq)) f1 f2 f3 f4 _ _ λv av aC r=>hQ v av (jo.trans (aq.trans aC)) r)
theorem Xe{a:au}{ra:RE}(ha:bg K C A ks a ra):bg K C A ks (.UnaryOp .Not a p) (.not ra):=by intro U env hs ρ s d hk I ao;refine wE (ao:W.bind _ _=_) λx hx ao=>oE ao λb hb ao=>?_;obtain rfl:=W.bp ao;refine⟨λQ E hQ=>UnaryOp_ ((ha U env hs ρ s x hk I hx).1 _ _ λv ai aq rv=>not_value (xi rv hb _ _ λav aC=>hQ _ av (aq.trans aC) (.bool _))),λb' iC Q E hQ=>wpAny_isTrue_Not ((ha U env hs ρ s x hk I hx).2 b hb _ _ λai aq=>?_)⟩;replace iC:=iJ iC;subst iC;exact hQ ai aq
theorem Xf{i:Int}:bg K C A ks (.UnaryOp .USub (.Constant (.int i) k p) q) (.lit (.int (-i))):=by refine iB.plain (λZ Z=>rfl) λU env hs ρ s d hk I ao Q E hQ=>?_;obtain rfl:=W.bp (ao:W.ret (fX (-i))=_);exact UnaryOp_ (Us (PyProof.Rows.neg_int (hQ _ _ .tok (.int _ _))))
theorem mB{e:au}(h:nH e=ag):fZ (e::es) env=(ag,eval e env)::fZ es env:=by
 induction e using uz<;>first|rfl|exact zT h
theorem rB(h:cZ K C A ks es rs):(gJ p (fZ es env)).any (·.1)=ag∧(gJ p (fZ es env)).all (λx=> !x.1)∧es.length=rs.len:=by
 induction h with
 |nil=>exact⟨rfl,rfl,rfl⟩
 |cons n _ r ih=>exact mq ih λh1 h2 h3=>rE (mB n) ⟨h1,h2,congrArg (· +1) h3⟩
theorem BY(hk:dg ks env)(hl:cZ K C A ks es rs):∀ {s:ay}{xs:List D},bJ K U env hs ρ s→
  eD K.tk C hs rs ρ=aa (xs,ae)→WZ K.w A U s (spliced (gJ p (fZ es env))) xs:=by
 induction hl with
 |nil=>intro s xs I h;obtain rfl:=W.bp (h:W.ret ([]:List D)=_);exact λQ E hQ=>jZ (hQ _ s (.refl s) .nil)
 |cons n he r ih=>intro s xs I h;refine wE (h:W.bind _ _=_) λx hx h=>wE h λys hy h=>?_;obtain rfl:=W.bp h;intro Q E hQ;exact rE (mB n) (ir ((he U env hs ρ s x hk I hx).1 _ _ λv ai aq rv=>ih (I.ext aq) hy _ _ λvs av aC fA=>hQ _ av (aq.trans aC) (.cons (rv.ext aC) fA)))
theorem vf:∀ {rs:bf}{xs:List D},eD K.tk C hs rs ρ=aa (xs,ae)→xs.length=rs.len
 | .nil,xs,h=>by obtain rfl:=W.bp (h:W.ret ([]:List D)=_);rfl
 | .cons _ _,xs,h=>by refine wE (h:W.bind _ _=_) λx hx h=>wE h λys hy h=>?_;obtain rfl:=W.bp h;exact congrArg (· +1) (vf hy)
theorem Xh(hl:cZ K C A ks es rs)(hn:aX rs.len 1000):bg K C A ks (.List es p) (.list rs):=by
 refine iB.plain (λZ Z=>rfl) λU env hs ρ s d hk I ao Q E hQ=>wE (ao:W.bind _ _=_) λxs hx ao=>?_;obtain rfl:=W.bp ao;refine List_ (BY hk hl I hx _ _ λvs ai aq r=>wH ?_ ?_)
 ·exact hQ _ _ (aq.trans .push) (.list (n:=0) (eT _ rfl) (I.ub.ext aq).new (rE AW (r.ext (.push (s:=ai) (k:=ai.toks)))))
 ·exact rE r.length (rE (vf hx) (aF (bc hn) (by refine rE lu ?_;lia)))
theorem BZ(hl:cZ K C A ks es rs)(hn:aX rs.len 1000):bg K C A ks (.Tuple es k p) (.tup rs):=by
 refine iB.plain (λZ Z=>rfl) λU env hs ρ s d hk I ao Q E hQ=>wE (ao:W.bind _ _=_) λxs hx ao=>?_;obtain rfl:=W.bp ao;refine Tuple_ (BY hk hl I hx _ _ λvs ai aq r=>Eh ?_ ?_)
 ·exact hQ _ _ (aq.trans .push) (.tup (n:=0) (eT _ rfl) (I.ub.ext aq).new (rE AW (r.ext (.push (s:=ai) (k:=ai.toks)))))
 ·exact rE r.length (rE (vf hx) (aF (bc hn) (by refine rE lu ?_;lia)))
end
section
variable{K:Kt}
theorem xm(hk:dg ks env)(hl:cZ K C A ks es rs){xs:List D}(I:bJ K U env hs ρ s)
  (h:eD K.tk C hs rs ρ=aa (xs,ae)) {f:ak}{Q:Args→ay→Prop}{E:aW} (hQ:∀vs s',Ext s s'→aI U s'.heap vs xs→Q ⟨vs,[]⟩ s'):
  ar (aw prog K.w) A (evalArgs f ae (gJ p (fZ es env)) []) Q E s:=by
 cases hl with
 |nil=>obtain rfl:=W.bp (h:W.ret ([]:List D)=_);exact Ky (hQ [] s (.refl s) .nil)
 |cons n he r=>have g:=BY (p:=p) hk (.cons n he r) I h (λvs s'=>Q ⟨vs,[]⟩ s') E λvs s' x r=>hQ vs s' x r;rw[mB n]at g ⊢;exact qM g
inductive wK(h:aP):ak→Prop
 |builtin (id:_):wK h (.builtin id)
 |type (T:_):wK h (.type T)
 |fn {a o fd:_}:h.get? a=aa o→o.data=.func fd→wK h (.ref a)
theorem B1{fv:ak}{first:List ak}{xs:List D}
  (hk:dg ks env) (I:bJ K U env hs ρ s) (hf:wK s.heap fv) (hl:cZ K C A ks args rs) (hx:eD K.tk C hs rs ρ=aa (xs,ae))
  (F3:∀vs ai,Ext s ai→aI U ai.heap vs xs→Gv K.w A U ai (call fv (first++vs)) d):Gv K.w A U s (jY pos fv first (gJ pos (fZ args env)) []) d:=by
 intro Q E hQ;have hp:=(rB (p:=pos) (env:=env) hl).1;have go:∀ (P:Args→ay→Prop),(∀vs ai,Ext s ai→ar (aw prog K.w) A (call fv (first++vs)) Q E ai→P ⟨vs,[]⟩ ai)→
   ar (aw prog K.w) A (evalArgs fv ae (gJ pos (fZ args env)) []) P E s:=λP hP=>xm hk hl I hx λvs ai aq r=>hP vs ai aq (F3 vs ai aq r _ _ λv av aC r=>hQ v av (aq.trans aC) r)
 induction hf with
 |builtin id=>exact uB hp (go _ λvs ai Z h=>h)
 |type T=>exact A4 hp (go _ λvs ai Z h=>h)
 |fn e d=>exact Er (go _ λvs ai aq h=>⟨⟨aq.keep _ _ e,d⟩,h⟩)
theorem MK{fv:ak}{xs:List D}
  (hk:dg ks env) (I:bJ K U env hs ρ s) (Xi:∀ (Q E:aW),Q fv s→ar (aw prog K.w) A (eval (.Name x q) env) Q E s) (hf:wK s.heap fv)
  (hl:cZ K C A ks args rs) (hx:eD K.tk C hs rs ρ=aa (xs,ae)) (F3:∀vs ai,Ext s ai→aI U ai.heap vs xs→Gv K.w A U ai (call fv vs) d):
  Gv K.w A U s (eval (.Call (.Name x q) args [] pos) env) d:=by
 intro Q E hQ;show ar _ A (do jY pos (← eval (.Name x q) env) [] (gJ pos (fZ args env)) []) Q E s;exact aB (Xi _ _ (B1 (first:=[]) hk I hf hl hx F3 Q E hQ))
theorem ML{pr:Prim}{fv:ak}(hg:eZ (aV x ks))(hb:K.mg x=af∧K.mb x=aa fv)(hd:(x == ("__debug__" :ah))=ag)
  (hf:∀h,wK h fv) (hl:cZ K C A ks args rs) (h:∀U s xs vs d,UB U s→aI U s.heap vs xs→xs.length=rs.len→gQ pr xs=aa (d,ae)→Gv K.w A U s (call fv vs) d):
  bg K C A ks (.Call (.Name x q) args [] pos) (.prim pr rs):=by
 exact iB.plain (λZ Z=>rfl) λU env hs ρ s d hk I ao=>wE (ao:W.bind _ _=_) λxs hx ao=>MK hk I (λQ E hQ=>I.builtin (lF hk hg) hb hd hQ) (hf _) hl hx λvs ai aq r=>h U ai xs vs d (I.ub.ext aq) r (vf hx) ao
theorem xn{xs:List D}(h:xs.length=1):∃x,xs=[x]:=ahz.mp h
theorem nN{h:aP}{x:D}(r:aI U h vs [x]):∃v,vs=[v]∧Rd U h v x:=by refine cK r.uZ λZ Z e9 a b=>?_;subst e9;obtain rfl:=b.sX;exact⟨_,rfl,a⟩
theorem xo{h:aP}{x:D}(r:aI U h vs [x,y]):∃u v,vs=[u,v]∧Rd U h u x∧Rd U h v y:=by
 refine cK r.uZ λZ Z e9 a b=>?_;subst e9;cases b with|cons b c=>obtain rfl:=c.sX;exact⟨_,_,rfl,a,b⟩
theorem bf.MN{es:bf}(h:es.isNil):es=.nil:=by cases es with|nil=>rfl|cons=>exact zF h
theorem bf.tn{es:bf}{a:RE}(h:es.c1=aa a):es=.cons a .nil:=by
 cases es with
 |nil=>exact zN h
 |cons b r=>refine xA (cj h) λh1 h2=>?_;replace h2:=iJ h2;subst h2;exact rE (bf.MN h1) rfl
theorem bf.xp{es:bf}{p:RE × RE}(h:es.c2=aa p):es=.cons p.1 (.cons p.2 .nil):=by
 cases es with
 |nil=>exact zN h
 |cons b r=>refine oE h λc h1 h=>?_;replace h:=iJ h;subst h;exact rE (bf.tn h1) rfl
theorem Xj(O:bU K)(hg:eZ (aV rp ks))(hl:cZ K C A ks args rs)(h:Ml K.X ks args rs=aa r):
  bg K C A ks (.Call (.Name rp q) args [] pos) r:=by
 refine oE h λa ha h9=>?_;clear h;obtain rfl:=nM ha;have h:=h9;clear h9;induction hv:nameId K.X ks a with
 |some v=>clear ha;replace h:=iJ (hv▸h);subst h;refine cK (oO hv) λx p e9 h1 h2=>?_;subst e9;refine iB.plain (λZ Z=>rfl) λU env hs ρ s d hk I ao=>oE (ao:(jG ρ v).bind _=_) λd' zx ao=>aD (FY zx) λsl lG hp=>?_;intro Q E hQ;show ar _ A (do jY pos (← eval (.Name rp q) env) [] [(ag,eval (.Name x p) env)] []) Q E s;refine aB (I.builtin (lF hk hg) O.len nK.1 ?_);exact uB rfl (qM (ir (I.read O h2 lG (nJ hk h1) λu hu=>jZ (L8 (hp hu) ao _ _ hQ))))
 |none=>replace h:=iJ (hv▸h);subst h;refine ML hg O.len nK.1 (λZ=>.builtin _) hl λU s xs vs d hu r hn ao=>?_;clear hu;obtain⟨x,rfl⟩:=xn (hn.trans (rB (p:=default) (env:=default) hl).2.2.symm);clear hn;refine aD (nN r) λv e9 r1=>?_;subst e9;exact L8 (.inl r1) ao
noncomputable def Xk(K:Kt)(A:dU)(f:ah)(pr:Prim)(n:Nat):Prop:=
 ∃fv,(K.mg f=af∧K.mb f=aa fv)∧(f == ("__debug__" :ah))=ag∧(∀h,wK h fv)∧∀U s xs vs d,UB U s→aI U s.heap vs xs→xs.length=n→gQ pr xs=aa (d,ae)→Gv K.w A U s (call fv vs) d
theorem Xl(O:bU K)(R:∃n,bW A n){f:ah}{p:Prim × Nat}(h:BL f=aa p):Xk K A f p.1 p.2:=by
 unfold BL at h;induction h1:sEq f lE with
 |true=>replace h:=iJ (h1▸h);subst h;obtain rfl:=eE h1;refine⟨_,O.str,nK.2.1,λZ=>.type _,λU s xs vs d hu r hn ao=>?_⟩;refine xE (xn hn) λx e9=>?_;subst e9;refine aD (nN r) λv e9 r1=>?_;subst e9;exact Wb r1 ao
 |false=>
 replace h:=(cond_false ..)▸h1▸h;induction h1:sEq f rq with
 |true=>replace h:=iJ (h1▸h);subst h;obtain rfl:=eE h1;refine⟨_,O.int,nK.2.2.1,λZ=>.type _,λU s xs vs d hu r hn ao=>?_⟩;refine xE (xn hn) λx e9=>?_;subst e9;refine aD (nN r) λv e9 r1=>?_;subst e9;exact Wc r1 ao
 |false=>
 replace h:=(cond_false ..)▸h1▸h;refine xE R λn R=>?_;induction h1:sEq f xd with
 |true=>replace h:=iJ (h1▸h);subst h;obtain rfl:=eE h1;refine⟨_,O.sum,nK.2.2.2.1,λZ=>.builtin _,λU s xs vs d hu r hn ao=>?_⟩;refine xE (xn hn) λx e9=>?_;subst e9;refine aD (nN r) λv e9 r1=>?_;subst e9;exact Wm R r1 ao
 |false=>
 replace h:=(cond_false ..)▸h1▸h;refine xA (cj h) λh1 h=>?_;replace h:=iJ h;subst h;obtain rfl:=eE h1;refine⟨_,O.sorted,nK.2.2.2.2.1,λZ=>.builtin _,λU s xs vs d hu r hn ao=>?_⟩;refine xE (xn hn) λx e9=>?_;subst e9;refine aD (nN r) λv e9 r1=>?_;subst e9;exact WE R hu r1 ao
theorem Xm(O:kT K C A)(hl:cZ K C A ks args rs)(h:Mm K.X ks x args rs=aa r):
  bg K C A ks (.Call (.Name x q) args [] pos) r:=by
 refine xA (cj h) λhg h=>?_;induction hi:aZ x K.X.fns with
 |some i=>
  replace h:=iJ (hi▸h);subst h;refine gy (O.ok.fm x i hi) λa fd h1 h2=>iB.plain (λZ Z=>rfl) λU env hs ρ s d hk I ao=>wE (ao:W.bind _ _=_) λxs hx ao=>gz (I.bH.fo i a fd h1) λo ho Z hd Z=>?_;exact MK hk I (λQ E hQ=>I.global (lF hk hg) h2 (O.ok.nf x i hi) hQ) (.fn ho hd) hl hx λvs ai aq r=>
   O.call i xs d U ai a fd vs ao h1 (I.bH.ext aq) (I.ub.ext aq) r
 |none=>
  replace h:=hi▸h;dsimp only at h;induction h1:sEq x rp with
  |true=>replace h:=h1▸h;obtain rfl:=eE h1;exact Xj O.ok hg hl h
  |false=>replace h:=h1▸h;refine oE (h:(BL x).bind _=_) λp hp h=>xA (cj h) λhn h=>?_;replace h:=iJ h;subst h;exact gz (Xl O.ok O.room hp) λfv h1 h2 h3 h4=>ML hg h1 h2 h3 hl λU s xs vs d hu r pR ao=>h4 U s xs vs d hu r (pR.trans (fY hn)) ao
theorem Xn(O:kT K C A){a t:au}{ra:RE}(hg:eZ (aV oM ks))(na:nH a=ag)(ha:bg K C A ks a ra)(ht:pN ks rq t):
  bg K C A ks (.Call (.Name oM q) [a,t] [] pos) (.prim .mc (.cons ra .nil)):=by
 refine aD (zw ht) λp e9 zy=>?_;subst e9;refine iB.plain (λZ Z=>rfl) λU env hs ρ s d hk I ao Q E hQ=>wE (ao:W.bind _ _=_) λxs hx ao=>wE (hx:W.bind _ _=_) λy hy hx=>wE hx λys Xo hx=>?_;obtain rfl:=W.bp (Xo:W.ret ([]:List D)=_);obtain rfl:=W.bp hx;show ar _ A (do jY pos (← eval (.Name oM q) env) [] (gJ pos (fZ [a,.Name rq p] env)) []) Q E s;refine rE (mB na) (aB (I.builtin (lF hk hg) O.ok.u7 nK.2.2.2.2.2.2.1 ?_));refine uB rfl (qM (ir ((ha U env hs ρ s y hk I hy).1 _ _ λv ai aq r=>?_)));refine ir ((I.ext aq).builtin (lF hk zy) O.ok.int nK.2.2.1 (jZ ?_));exact Wd r ao _ _ λv av aC r=>hQ v av (aq.trans aC) r
end
section
open PyProof.V
theorem Xp(x:ah)(d:D):∀tk:gM,mi tk x d=match te tk x with|some i=>.int i|none=>d:=by
 intro L0;induction L0 with
 |nil=>exact rfl
 |cons cx r ih=>
  obtain⟨k,v⟩:=cx;refine rE (Vt ..) (rE (FX ..) ?_);induction sEq k x with
  |true=>rfl
  |false=>exact ih
theorem Xq(x:ah)(tk:gM):qW tk x=(te tk x).isSome:=by
 induction tk with
 |nil=>rfl
 |cons p r ih=>
  obtain⟨k,v⟩:=p;refine rE (Vu ..) (rE (FX ..) ?_);induction sEq k x with
  |true=>rfl
  |false=>exact ih
section
variable{K:Kt}
set_option tactic.hygienic true in
theorem MO:∀ {tk:gM}{kvs:List (ah × ak)},FlatPairs uA kvs (xg tk)→∀x:ah,match te tk x with|some i=>∃t,valueAt kvs x=aa (.int i t)|none=>valueAt kvs x=af:=by
 intro tk;induction tk with
 |nil=>intro kvs h x;cases h;rfl
 |cons ki r ih=>
  obtain⟨k,i⟩:=ki;intro kvs h x;cases h with
  |cons hf hr=>
   rename_i v kvs;have B2:=hf (default:aP);cases B2 with|int _ t=>?_
   have ih:=ih hr x;refine rE (FX ..) ?_;induction h:sEq k x with
   |true=>obtain rfl:=eE h;exact⟨t,by simp[valueAt]⟩
   |false=>
    have bQ:k≠x:=λe=>by replace h:=sEq_iff.mpr e▸h;exact zT h
    have:valueAt ((k,Value.int i t)::kvs) x=valueAt kvs x:=by unfold valueAt;exact rE (ahA (by simpa using bQ)) rfl
    dsimp only[cond];exact rE this ih
theorem Xr{k v:ak}{x:D}(T:TabAt (wI prog K.w) uA s.heap a (xg tk))(rk:Rd U s.heap k x)(rv:Rd U s.heap v y)
  (h:(dD x).bind (λx=>W.ret (mi tk x y))=aa (d,ae)):Gv K.w A U s (call (.builtin "dict.get") [.ref a,k,v]) d:=by
 intro Q E hQ;refine aD (nF h) λx e9 h=>?_;subst e9;obtain rfl:=W.bp h;cases rk;refine uX T λhs kvs hd hf=>call_meetsIn F.slot_dict_get hd.mapOf.typeIs F.entry_dict_get (F.args_dict_get_3 _ _ _) (meets_dict_get_default (wI prog K.w) a (k:=x) (strKind_is prog K.w x _) hs v) ⟨_,hd.mapOf,hQ _ _ .tok ?_⟩;have ff:=MO (tk:=tk) hf x;refine rE (Xp ..) ?_;induction q:te tk x with
 |some i=>replace ff:=q▸ff;exact xE ff λt ht=>rE ht (.int _ _)
 |none=>replace ff:=q▸ff;have ff:valueAt kvs x=af:=ff;exact rE ff rv
theorem Xs:∀ {l:List (D × D)}{tk:gM},Fq l=aa tk→l=xg tk∧strKeyed l∧(∀x,xb x tk=ag→x∉strKeysOf l)∧(strKeysOf l).Nodup:=by
 intro l;induction l with
 |nil=>intro tk h;replace h:=iJ h;subst h;exact⟨rfl,rfl,λx Z h=>(by cases h),yF⟩
 |cons p r ih=>
  intro tk h;obtain⟨k,v⟩:=p;refine aD (nF h) λx e9 h1=>?_;subst e9;refine aD (y6 h1) λi e9 h2=>?_;subst e9;refine oE h2 λl hl h3=>?_;clear h h1 h2;refine yX (ih hl) λe1 e2 e3 e4=>?_;induction hg:xb x l with
  |true=>exact zN (hg▸h3)
  |false=>
   replace h3:=iJ (hg▸h3);subst h3;refine⟨by refine rE e1 ?_;rfl,e2,λy hy=>?_,uC.mpr ⟨e3 x hg,e4⟩⟩;replace hy:=(WH ..)▸hy;induction zz:sEq x y with
   |true=>replace hy:=zz▸hy;exact zT hy
   |false=>
    replace hy:=zz▸hy;have bQ:y≠x:=λe=>by subst e;replace zz:=sEq_iff.mpr rfl▸zz;exact zT zz
    exact λhm=>(bE.mp hm).elim bQ (e3 y hy)
theorem Xu:∀ {tp:List (Option au)}{vs:List au}{l:List (D × D)},litPairs tp vs=aa l→tp.all (·.isSome)∧tp.length=vs.length∧tp.length=l.length:=by
 intro tp;induction tp with
 |nil=>
  intro vs l h;induction vs using bj with
  |nil=>replace h:=iJ h;subst h;exact⟨rfl,rfl,rfl⟩
  |cons=>exact zN h
 |cons k tp ih=>
  intro vs l h;induction k with
  |none=>exact zN h
  |some k=>
  induction vs using bj with
  |nil=>exact zN h
  |cons v vs=>
  unfold litPairs at h;induction h1:tabLit k with
  |none=>exact zN (h1▸h)
  |some dk=>
  induction h2:tabLit v with
  |none=>replace h:=h1▸h;exact zN (h2▸h)
  |some dv=>
  induction h3:litPairs tp vs with
  |none=>replace h:=h2▸h1▸h;exact zN (h3▸h)
  |some r=>replace h:=h2▸h1▸h;replace h:=iJ (h3▸h);subst h;exact mq (ih h3) λe1 e2 e3=>⟨e1,congrArg (· +1) e2,congrArg (· +1) e3⟩
theorem Xv{o:au}(hb:UB U s)(hs:s.heap.NoLimit)(h:BK (view o)=aa tk)
  (hQ:∀v s',Ext s s'→nI K.w U s'.heap v tk→Q v s'):ar (aw prog K.w) A (eval o env) Q E s:=by
 induction q:view o with
 |dict Xw vls p=>
  replace h:=q▸h;obtain rfl:=dM q rfl;refine oE h λl hl h=>oE h λXx hr h=>xA (cj h) λhn h=>?_;obtain rfl:=(iq h).symm;refine xA (cg hn) λh0 hn=>yX (Xs hr) λe1 e2 e3 e4=>mq (Xu hl) λf1 f2 f3=>?_;have hlen:l.length=tk.length:=by refine rE e1 ?_;rewrite[xg];exact rE (aQ ..) rfl
  have bQ:Xw≠[]:=λe=>by replace f3:=hlen▸e▸f3;replace h0:=wF f3.symm▸h0;exact zF h0
  refine Dict_lits_str (prog:=prog) (w:=K.w) hl e2 e4 f1 f2 bQ (rE f3 (rE hlen (bc hn))) λa o h₁ Xx ha ho ht hk=>?_;have Xy:¬U a:=λhu=>by exact xE (hb a hu) λo' gA=>absurd (jA gA) (pz.mpr ha)
  refine hQ _ _ (.heap hk) ⟨a,rfl,Xy,?_⟩;refine aD ht λkvs hd hf=>TabAt.ofObj ?_ ho hd (rS e1 hf);refine aD hs λm hm Z=>?_;have h1:cStatics<a:=hZ hm.lt ha;have h2:sysModules<a:=ew (by decide) h1;exact beq_false_of_ne (Es (iT h2))
 |_=>exact zN (q▸h)
theorem MP{o:au}{m:ah}{ra:RE}{pr:Prim}{id:String}(hr:recv o)(hl:cH ap p)(hn:aX rs.len 20)
  (ho:bg K C A ks o ra) (ha:cZ K C A ks args rs)
  (hm:∀U s v x xs d,Rd U s.heap v x→xs.length=rs.len→gQ pr (x::xs)=aa (d,ae)→∀ (pl:cN Bool) (Q:ak × List ak→ay→Prop) (E:aW),Q (.builtin id,[v]) s→ar (aw prog K.w) A (yB v m pl) Q E s)
  (hc:∀U s v x vs xs d,UB U s→Rd U s.heap v x→aI U s.heap vs xs→xs.length=rs.len→gQ pr (x::xs)=aa (d,ae)→Gv K.w A U s (call (.builtin id) (v::vs)) d):
  bg K C A ks (.Call (.Attribute o m ap) args [] p) (.prim pr (.cons ra rs)):=by
 refine iB.plain (λZ Z=>rfl) λU env hs ρ s d hk I ao Q E hQ=>wE (ao:W.bind _ _=_) λys hy ao=>wE (hy:W.bind _ _=_) λx hx hy=>wE hy λxs mC hy=>?_;obtain rfl:=W.bp hy;have hp:=rB (p:=p) (env:=env) ha;refine pP hr hl (rE hp.2.2 (bc hn)) hp.2.1 ((ho U env hs ρ s x hk I hx).1 _ _ λv ai aq rv pl=>hm U ai v x xs d rv (vf mC) ao pl _ _ ?_);exact B1 (first:=[v]) hk (I.ext aq) (.builtin id) ha mC (λvs av aC fA=>hc U av v x vs xs d (I.ub.ext (aq.trans aC)) (rv.ext aC) fA (vf mC) ao) _ _ λu aR bx ru=>hQ u aR (aq.trans bx) ru
structure Xz(w:cM)(A:dU)(m:ah)(pr:Prim)(n:Nat):Prop where
 ex:∃id:String,∀U s v x xs d,Rd U s.heap v x→xs.length=n→gQ pr (x::xs)=aa (d,ae)→
  (∀ (pl:cN Bool) (Q:ak × List ak→ay→Prop) (E:aW),Q (.builtin id,[v]) s→ar (aw prog w) A (yB v m pl) Q E s)∧
  ∀vs,UB U s→aI U s.heap vs xs→Gv w A U s (call (.builtin id) (v::vs)) d
theorem XA{m:ah}{p:Prim × Nat}(h:Fx m=aa p):Xz K.w A m p.1 p.2:=by
 unfold Fx at h;induction h1:sEq m Ft with
 |true=>
  replace h:=iJ (h1▸h);subst h;obtain rfl:=eE h1;refine⟨"str.join",λU s v x xs d rv hlen ao=>?_⟩;refine xE (xn hlen) λy e9=>?_;subst e9;have ao:E0 x y=aa (d,ae):=ao;refine⟨λpl Q E hQ=>?_,λvs Z fA=>?_⟩
  ·refine aD (nF ao) λx' e9 Z=>?_;subst e9;refine xE rv.cQ λZ e9=>?_;subst e9;refine rE WX ?_;with_reducible exact GM.join hQ
  ·refine aD (nN fA) λu e9 r1=>?_;subst e9;exact Wh rv r1 ao
 |false=>exact zN (h1▸h)
theorem MQ{o:au}{m:ah}{ro:Option RE}(hr:recv o)(hl:cH ap p)(hn:aX rs.len 20)
  (ho:∀ra,ro=aa ra→bg K C A ks o ra) (ha:cZ K C A ks args rs) (h:Fz ro m rs=aa r):bg K C A ks (.Call (.Attribute o m ap) args [] p) r:=by
 refine oE h λra tm h=>oE h λq hq h=>xA (cj h) λhlen h=>?_;replace h:=iJ h;subst h;obtain⟨id,M⟩:=(XA (A:=A) hq).ex;have hlen:=fY hlen;exact MP (id:=id) hr hl hn (ho ra tm) ha (λU s v x xs d rv hx ao=>(M U s v x xs d rv (hx.trans hlen) ao).1) λU s v x vs xs d hu rv fA hx ao=>(M U s v x xs d rv (hx.trans hlen) ao).2 vs hu fA
theorem MR{o:au}{k d:RE}(hr:recv o)(hl:cH ap p)(ha:cZ K C A ks args (.cons k (.cons d .nil)))
  (ho:∀U env hs ρ s e,dg ks env→bJ K U env hs ρ s→ev K.tk C hs r ρ=aa (e,ae)→∃tk,(W.bind (ev K.tk C hs k ρ) λx=>W.bind (ev K.tk C hs d ρ) λy=>(dD x).bind λx=>W.ret (mi tk x y))=aa (e,ae)∧
   ∀ (Q E:aW),(∀v,nI K.w U s.heap v tk→Q v s)→ar (aw prog K.w) A (eval o env) Q E s):
  bg K C A ks (.Call (.Attribute o ze ap) args [] p) r:=by
 refine iB.plain (λZ Z=>rfl) λU env hs ρ s e hk I ao Q E hQ=>aD (ho U env hs ρ s e hk I ao) λtk ao ho=>wE ao λx hx ao=>wE ao λy hy ao=>?_;have hp:=rB (p:=p) (env:=env) ha;refine pP hr hl (rE hp.2.2 (by decide:2≤20)) hp.2.1 (ho _ _ λv hv pl=>?_);refine j4 hv λa e9 Z hT=>?_;subst e9;have F4:=hT;refine uX F4 λZ kvs hd Z=>Kz hd.mapOf.typeIs F.plainAttrs_dict F.slot_dict_get F.type_dict_get hd.mapOf.noDict ?_;refine B1 (first:=[.ref a]) (xs:=[x,y]) hk I (.builtin _) ha (BV hx hy) (λvs av aC fA=>?_) _ _ λu aR bx ru=>hQ u aR bx ru;refine cK (xo fA) λu v e9 r1 r2=>?_;subst e9;exact Xr (hT.keep aC.keep) r1 r2 ao
theorem XB(O:bU K){l e:au}{a:RE}{v:Nat}(ha:bg K C A ks l a)(hv:nameId K.X ks e=aa v):bg K C A ks (.Compare l [.NotIn] [e] p) (.uL a v):=by
 refine cK (oO hv) λy q e9 h1 h2=>?_;subst e9;intro U env hs ρ s d hk I ao;refine oE (ao:(oI ρ v).bind _=_) λkvs hc ao=>wE ao λx hx ao=>aD (nF ao) λx e9 ao=>?_;subst e9;obtain rfl:=W.bp ao;have go:∀ (Q E:aW),(∀s',Ext s s'→Q (.bool (!qW kvs x)) s')→ar (aw prog K.w) A (eval l env) (λu ai=>ar (aw prog K.w) A (eval (.Name y q) env) (λt av=>ar (aw prog K.w) A (sG .NotIn u t) Q E av) E ai) E s:=λQ E hQ=>
  (ha U env hs ρ s _ hk I hx).1 _ _ λu ai aq ru=>(I.ext aq).read O h2 (LC hc) (nJ hk h1) λt ht=>by
   obtain⟨b,rfl,_,lo,vs,hd,hf⟩:=(ht:nI K.w U ai.heap t kvs);refine xE ru.cQ λt e9=>?_;subst e9;refine wpAny_notIn_of (strKind_is prog K.w x t) lo hd.mapOf ?_;have ff:=MO (tk:=kvs) hf x;have e:(valueAt vs x).isSome=qW kvs x:=by
    refine rE (Xq ..) ?_;induction q:te kvs x with
    |some i=>replace ff:=q▸ff;refine xE ff λt ht=>rE ht ?_;rfl
    |none=>replace ff:=q▸ff;have ff:valueAt vs x=af:=ff;refine rE ff ?_;rfl
   exact rE e (hQ _ (aq.trans .tok))
 refine⟨λQ E hQ=>wpAny_Compare1 (go _ _ λai aq=>hQ _ ai aq (.bool _)) rfl,λb hb Q E hQ=>yE (go _ _ λai aq=>lr ?_) rfl⟩;replace hb:=iJ hb;subst hb;exact hQ ai aq
theorem MS(O:bU K){o:au}{m:ah}(P:List (ah × ah)→List D→D→Prop)(hv:nameId K.X ks o=aa i)(hr:recv o)(hl:cH ap p)
  (hn:aX rs.len 20) (ha:cZ K C A ks args rs)
  (hm:∀U s v t xs d,br K U s.heap→UB U s→iV K.hc U s.heap v t→P t xs d→tj K.w A U s v m xs d)
  (XC:∀hs ρ d,ev K.tk C hs r ρ=aa (d,ae)→∃j t xs,get ρ i=aa (.cU j)∧hs[j]? =aa t∧eD K.tk C hs rs ρ=aa (xs,ae)∧P t xs d):
  bg K C A ks (.Call (.Attribute o m ap) args [] p) r:=by
 refine cK (oO hv) λx q e9 h1 h2=>?_;subst e9;refine iB.plain (λZ Z=>rfl) λU env hs ρ s d hk I ao Q E hQ=>fy (XC hs ρ d ao) λj t xs e1 e2 e3 e4=>?_;have hp:=rB (p:=p) (env:=env) ha;refine pP hr hl (rE hp.2.2 (bc hn)) hp.2.1 (I.read O h2 e1 (nJ hk h1) λv hv pl=>?_);refine aD hv ?_;clear hv;intro t' e5 e6;clear hv hp e1 ao h2 h1;replace e5:=iJ (e2▸e5);subst e5;refine hm U s v t xs d I.bH I.ub e6 e4 pl _ _ λf first ai aq hf hc=>?_
 clear e6 pl v e4 e2;refine ib hf ?_;clear hf;intro a o fd e9 ho hd;subst e9;exact B1 hk (I.ext aq) (.fn ho hd) ha e3 (λvs av aC fA=>hc vs av aC fA) _ _ λu aR bx ru=>hQ u aR (aq.trans bx) ru
theorem XD{e:RE}{x:D}(hx:ev K.tk C hs e ρ=aa (x,ae)):eD K.tk C hs (.cons e .nil) ρ=aa ([x],ae):=xh hx
theorem XE{v:Nat}{k:RE}{f:List (ah × ah)→List Nat→D}(ao:((ml hs ρ v).bind λt=>W.bind (ev K.tk C hs k ρ) λx=>(dD x).bind λx=>W.need (f t (sL x)) (keyOk x&&qX t))=aa (d,ae)):
  ∃j t x,get ρ v=aa (.cU j)∧hs[j]? =aa t∧eD K.tk C hs (.cons k .nil) ρ=aa ([.str x],ae)∧(keyOk x∧qX t)∧d=f t (sL x):=by
 refine oE ao λt ht h1=>aD (E9 ht) λj hj ht=>wE h1 λx hx h2=>aD (nF h2) λy e9 h3=>?_;subst e9;clear h2 h1 ao;refine xA (W.de h3) λe9 e1=>?_;subst e9;exact⟨j,t,y,hj,ht,XD hx,cg e1,rfl⟩
theorem XF(O:kT K C A){o:au}{m:ah}{v:Nat}(hv:nameId K.X ks o=aa v)(hr:recv o)(hl:cH ap p)(hn:aX rs.len 20)
  (ha:cZ K C A ks args rs) (h:FA v m rs=aa r):bg K C A ks (.Call (.Attribute o m ap) args [] p) r:=by
 unfold FA at h;induction h1:sEq m pM with
 |true=>
  replace h:=h1▸h;obtain rfl:=eE h1;refine oE (h:rs.c1.bind _=_) λk hk h=>?_;replace h:=iJ h;subst h;obtain rfl:=bf.tn hk;refine MS O.ok (λt xs d=>∃x,xs=[.str x]∧(keyOk x∧qX t)∧d=.list (f9 t (sL x))) hv hr hl hn ha (λU s u t xs d g b T e=>?_) λhs ρ d ao=>?_
  ·refine j4 e λx e9 e1 bC=>?_;subst e9;subst bC;exact O.jE U s u t x g b T e1.1 e1.2
  ·obtain⟨j,t,x,e1,e2,e3,e4,e5⟩:=XE (f:=λt x=>.list (f9 t x)) ao;exact⟨j,t,_,e1,e2,e3,x,rfl,e4,e5⟩
 |false=>
 replace h:=(cond_false ..)▸h1▸h;refine xA (cj h) λh2 g=>?_;obtain rfl:=bf.MN h2;clear h;have all:∀ {f:List (ah × ah)→D},(∀U s v t,br K U s.heap→UB U s→iV K.hc U s.heap v t→t.length≤1000000→tj K.w A U s v m [] (f t))→
   (∀hs ρ d,ev K.tk C hs r ρ=aa (d,ae)→((ml hs ρ v).bind λt=>W.need (f t) (aX t.length 1000000))=aa (d,ae))→bg K C A ks (.Call (.Attribute o m ap) args [] p) r:=λ{f} hm he=>
  MS O.ok (λt xs d=>xs=[]∧t.length≤1000000∧d=f t) hv hr hl hn ha (λU s u t xs d g b T e=>by refine mq e λe9 e1 bC=>?_;subst e9;subst bC;exact hm U s u t g b T e1) λhs ρ d ao=>by refine oE (he hs ρ d ao) λt ht h1=>aD (E9 ht) λj hj ht=>xA (W.de h1) λe9 e1=>?_;subst e9;exact⟨j,t,[],hj,ht,rfl,rfl,bc e1,rfl⟩
 induction h1:sEq m nG with
 |true=>replace g:=h1▸g;replace g:=iJ g;subst g;obtain rfl:=eE h1;exact all (λU s v t g b T ht pl Q E hQ=>O.oH U s v t g b T ht pl Q E λf first ai aq hf hc=>hQ f first ai aq hf λvs av aC r=>pQ.gv _ _ (b.ext (aq.trans aC)) (hc vs av aC r)) λZ Z Z h=>h
 |false=>replace g:=(cond_false ..)▸h1▸g;refine xA (cj g) λh1 g=>?_;replace g:=iJ g;subst g;obtain rfl:=eE h1;exact all O.mf λZ Z Z h=>h
theorem XG(O:kT K C A){o:au}{m:ah}{ro:Option RE}(hr:recv o)(hl:cH ap p)(hn:aX rs.len 20)
  (ho:∀ra,ro=aa ra→bg K C A ks o ra) (ha:cZ K C A ks args rs) (h:FD K.X ks o ro m rs=aa r):bg K C A ks (.Call (.Attribute o m ap) args [] p) r:=by
 unfold FD at h;induction hv:nameId K.X ks o with
 |some v=>
  replace h:=hv▸h;dsimp only at h;induction hh:has v K.X.s8 with
  |true=>replace h:=hh▸h;exact XF O hv hr hl hn ha h
  |false=>
   replace h:=(cond_false ..)▸hh▸h;induction hT:(has v K.X.Fm&&sEq m ze)with
   |false=>replace h:=hT▸h;exact MQ hr hl hn ho ha h
   |true=>replace h:=hT▸h;refine xA (cg hT) λZ h2=>?_;obtain rfl:=eE h2;refine oE (h:rs.c2.bind _=_) λq hq h=>?_;replace h:=iJ h;subst h;obtain rfl:=bf.xp hq;refine cK (oO hv) λy q' e9 h3 h4=>?_;subst e9;exact MR hr hl ha λU env hs ρ s e hk I ao=>oE (ao:(oI ρ v).bind _=_) λkvs hc ao=>⟨kvs,ao,λQ E hQ=>I.read O.ok h4 (LC hc) (nJ hk h3) hQ⟩
 |none=>
  replace h:=hv▸h;dsimp only at h;induction hT:(pN ks zf o&&sEq m ze)with
  |false=>replace h:=hT▸h;exact MQ hr hl hn ho ha h
  |true=>replace h:=hT▸h;refine xA (cg hT) λh1 h2=>?_;clear hn O;obtain rfl:=eE h2;refine oE (h:rs.c2.bind _=_) ?_;clear h;intro q hq h;clear h2;replace h:=iJ h;subst h;obtain rfl:=bf.xp hq;clear hq;refine aD (zw h1) λq' e9 h4=>?_;subst e9;refine MR hr hl ha λU env hs ρ s e hk I ao=>⟨K.tk,ao,λQ E hQ=>?_⟩;exact aD I.bH.tok λv e1 e3=>I.global (lF hk h4) e1 nK.2.2.2.2.2.2.2.2.1 (hQ v e3)
end
end
theorem kW(i:Nat)(sl:bA):∀ρ:aM,get (put ρ i sl) i=aa sl:=by
 intro L0;induction L0 with
 |nil=>simp[K8,Br,uI,pG]
 |cons cx r ih=>
  obtain⟨j,t⟩:=cx;refine rE (Br ..) ?_;induction h:az j i with
  |true=>simp[uI,pG,h]
  |false=>simp[uI,pG,h,ih]
theorem fR(sl:bA)(h:j≠i):∀ρ:aM,get (put ρ i sl) j=get ρ j:=by
 intro L0;induction L0 with
 |nil=>
  have:az i j=ag:=by induction q:az i j with|false=>rfl|true=>exact absurd (fY q).symm h
  simp[K8,Br,uI,pG,this]
 |cons cx r ih=>
  obtain⟨k,t⟩:=cx;refine rE (Br ..) ?_;induction hk:az k i with
  |true=>
   have e:=fY hk;subst e;have:az k j=ag:=by induction q:az k j with|false=>rfl|true=>exact absurd (fY q).symm h
   simp[uI,pG,this]
  |false=>simp only[cond,uI,pG];exact rE ih rfl
theorem F7:∀ {l:List ah}{i:Nat},aZ x l=aa i→l[i]? =aa x:=by
 intro l;induction l with
 |nil=>intro i h;exact zN h
 |cons y r ih=>
  intro i h;replace h:=(Md ..)▸h;induction q:sEq y x with
  |true=>replace h:=iJ (q▸h);subst h;refine rE (eE q) ?_;rfl
  |false=>replace h:=q▸h;refine aD (sJ.mp h) λj hj e9=>?_;subst e9;exact Ki.trans (ih hj)
theorem tq{y:ah}{l:List ah}(h:aZ x l=aa i)(h':aZ y l=aa i):x=y:=iq ((F7 h).symm.trans (F7 h'))
noncomputable def eG(ks:cT)(env:bF):aE→Prop:=λa=>a=env.locals∨∃x,dz (aV x ks)∧env.cells.lookup x=aa a
noncomputable def gB(ks:cT)(env:bF)(s s':ay):Prop:=(∀a o,s.heap.get? a=aa o→s'.heap.get? a=aa o∨eG ks env a)∧s'.gens=s.gens∧s'.os=s.os
section
variable{K:Kt}
theorem jn.eG{h:aP}(f:jn U env h)(k:eG ks env a):U a:=by
 rcases k with rfl| ⟨x,_,e⟩
 ·exact f.loc.1
 ·exact(f.fQ x a e).1
theorem gB.keep(h:gB ks env s s')(f:jn U env s.heap){o:fI}(u:¬U a)(e:s.heap.get? a=aa o):s'.heap.get? a=aa o:=
 (h.1 a o e).elim id λk=>absurd (f.eG k) u
theorem gB.seq(h:gB ks env s s')(f:jn U env s.heap){vs:Array ak}(e:s.heap.get? a=aa (cy vs n)):s'.heap.get? a=aa (cy vs n):=by
 rcases h.1 a _ e with h|rfl| ⟨x,_,h⟩
 ·exact h
 ·obtain⟨_,m,o,es,ep,ho,hd,_⟩:=f.loc;replace e:=iJ (ho▸e);subst e;cases hd
 ·refine mr (f.fQ x a h) λZ v o ho hd=>?_;replace e:=iJ (ho▸e);subst e;cases hd
theorem gB.slot(h:gB ks env s s')(f:jn U env s.heap){v:ak}(r:j8 K U s.heap hs v sl):j8 K U s'.heap hs v sl:=by
 have rd:∀ {v d},Rd U s.heap v d→Rd U s'.heap v d:=λr=>r.mono (λa o u e=>h.keep f u e) λZ Z Z n=>n;have B3:∀ {v d},aI U s.heap v d→aI U s'.heap v d:=λr=>r.mono (λa o u e=>h.keep f u e) λZ Z Z n=>n;induction sl with
 |val d=>exact rd r
 |own xs=>exact ib r λa vs n e1 e3 e4=>⟨a,vs,n,e1,h.seq f e3,B3 e4⟩
 |cU i=>exact Lw r λt e0 a l e1 r=>⟨t,e0,a,l,e1,r.mono (λa o u e=>h.keep f u e) (λZ Z Z n=>n) λZ Z e=>h.seq f e⟩
 |fN l=>exact r.mono (λa o u e=>h.keep f u e) λZ Z Z n=>n
theorem bJ.moved(I:bJ K U env hs ρ s)(h:gB ks env s s')(f:jn U env s'.heap)
  (hv:∀x i sl,aZ x K.X.names=aa i→get ρ' i=aa sl→d8 (env.kindOf x)→∃v,fP env s'.heap x v∧j8 K U s.heap hs v sl):bJ K U env hs ρ' s' where
 bH:=I.bH.mono (λa o u e=>h.keep I.bu u e) λZ Z Z n=>n
 ub:=λa ha=>by
  refine xE (I.ub a ha) λo e=>?_;rcases h.1 a o e with h|rfl| ⟨x,_,h⟩
  ·exact⟨o,h⟩
  ·obtain⟨_,m,o,_,_,ho,_⟩:=f.loc;exact⟨o,ho⟩
  ·exact mr (f.fQ x a h) λZ v o ho Z=>⟨o,ho⟩
 kind:=I.kind
 gl:=I.gl
 bi:=I.bi
 bu:=f
 vars:=λx i sl a b c=>aD (hv x i sl a b c) λv p q=>⟨v,p,h.slot I.bu q⟩
theorem bJ.store(I:bJ K U env hs ρ s){v:ak}(hi:aZ x K.X.names=aa i)(cm:dz (aV x ks))(hk:env.kindOf x=aa .local∨env.kindOf x=aa .cell)(r:j8 K U s.heap hs v sl)
  {Q:Unit→ay→Prop}{E:aW} (hQ:∀s',bJ K U env hs (put ρ i sl) s'→gB ks env s s'→Q () s'):ar (aw prog K.w) A (qN env x v) Q E s:=by
 rcases hk with hk|hk
 ·refine lD I.bu.loc λhu m hm=>Et (hp:=by refine rE I.kind ?_;rfl) hk hm λh' jq cB=>?_;have mv:gB ks env s {s with heap:=h',toks:=s.toks+1}:=⟨λa o e=>by
   by_cases ha:a=env.locals
   ·exact .inr (.inl ha)
   ·exact .inl ((cB.2 a ha).trans e),rfl,rfl⟩
  have cell:∀ {c v},s.heap.IsCell c v→h'.IsCell c v:=λ{c v} hc=>hc.sameBut cB λe=>by subst e;refine aD hc λo ho hd=>ib hm λo' es ep gA dB Z=>?_;replace gA:=iJ (ho▸gA);subst gA;replace dB:=hd▸dB;cases dB
  refine hQ _ (I.moved mv ⟨⟨hu,_,jq⟩,λy c e=>lD (I.bu.fQ y c e) λa v q=>⟨a,v,cell q⟩,I.bu.inj,I.bu.has⟩ λy j tu hj hg jJ=>?_) mv;by_cases lH:j=i
  ·subst lH;obtain rfl:=tq hi hj;replace hg:=iJ ((kW ..)▸hg);subst hg;exact⟨v,.inl ⟨hk,_,jq,by simp⟩,r⟩
  ·rw[fR sl lH]at hg;refine aD (I.vars y j tu hj hg jJ) λv' hv lG=>⟨v',?_,lG⟩;rcases hv with⟨k1,m',n',e'⟩| ⟨k1,c,e1,e2⟩
   ·refine .inl ⟨k1,_,jq,?_⟩;clear jq;have bQ:y≠x:=λe=>by subst e;replace hj:=hi▸hj;replace hj:=iJ hj;subst hj;exact lH rfl
    exact rE (if_neg bQ) ((hm.agree n' y).trans e')
   ·exact .inr ⟨k1,c,e1,cell e2⟩
 ·refine xE (I.bu.has x (.inl hk)) λc hc=>lD (I.bu.fQ x c hc) λhu MT tv=>ahB I.kind hk hc tv λh' oP cB=>?_;have mv:gB ks env s {s with heap:=h'}:=⟨λa o e=>by
   by_cases ha:a=c
   ·exact .inr (.inr ⟨x,cm,ha▸hc⟩)
   ·exact .inl ((cB.2 a ha).trans e),rfl,rfl⟩
  have ns:∀ {m},s.heap.Ns env.locals m→h'.Ns env.locals m:=λ{m} hn=>hn.sameBut cB λe=>by refine aD tv λo ho hd=>ib hn λo' es ep gA dB Z=>?_;clear tv hu cm;replace ho:=e.symm▸ho;replace ho:=iJ (gA▸ho);subst ho;replace hd:=dB▸hd;cases hd
  have cell:∀ {y c' v},env.cells.lookup y=aa c'→y≠x→s.heap.IsCell c' v→h'.IsCell c' v:=λ{y c' v} hy bQ q=>q.sameBut cB λe=>bQ (I.bu.inj y x c (e▸hy) hc);refine hQ _ (I.moved mv ⟨lD I.bu.loc λa m n=>⟨a,m,ns n⟩,λy c' e=>?_,I.bu.inj,I.bu.has⟩ λy j tu hj hg jJ=>?_) mv
  ·refine lD (I.bu.fQ y c' e) λa v' q=>?_;by_cases bQ:y=x
   ·clear mv cB tv MT hu;subst bQ;replace e:=iJ (hc▸e);subst e;exact⟨a,_,oP⟩
   ·exact⟨a,v',cell e bQ q⟩
  ·by_cases lH:j=i
   ·clear mv cB tv;subst lH;obtain rfl:=tq hi hj;replace hg:=iJ ((kW ..)▸hg);subst hg;exact⟨v,.inr ⟨.inl hk,c,hc,oP⟩,r⟩
   ·rw[fR sl lH]at hg;refine aD (I.vars y j tu hj hg jJ) λv' hv lG=>⟨v',?_,lG⟩;clear lG jJ hg tu;have bQ:y≠x:=λe=>by subst e;replace hj:=hi▸hj;replace hj:=iJ hj;subst hj;exact lH rfl
    rcases hv with⟨k1,m',n',e'⟩| ⟨k1,c',e1,e2⟩
    ·exact .inl ⟨k1,m',ns n',e'⟩
    ·exact .inr ⟨k1,c',e1,cell e1 bQ e2⟩
end
structure Mv(Ku:aY)(G:Nat→Prop)(s s':ay):Prop where
 keep:∀a o,¬Ku a→s.heap.get? a=aa o→s'.heap.get? a=aa o
 gens:∀ (g:Nat) (x:uo),¬G g→s.gens[g]? =aa x→s'.gens[g]? =aa x
 bare:wB s.gens→wB s'.gens
 os:s'.os=s.os
theorem Mv.refl(Ku:aY)(G:Nat→Prop)(s:ay):Mv Ku G s s:=⟨λZ Z Z e=>e,λZ Z Z e=>e,λe=>e,rfl⟩
theorem Mv.trans{G:Nat→Prop}{a b c:ay}(x:Mv Ku G a b)(y:Mv Ku G b c):Mv Ku G a c:=
 ⟨λZ Z n e=>y.keep _ _ n (x.keep _ _ n e),λZ Z n e=>y.gens _ _ n (x.gens _ _ n e),λe=>y.bare (x.bare e),y.os.trans x.os⟩
theorem Mv.mono{vg:aY}{G G':Nat→Prop}{a b:ay}(x:Mv Ku G a b)(h:∀a,Ku a→vg a)(g:∀a,G a→G' a):Mv vg G' a b:=
 ⟨λZ Z n e=>x.keep _ _ (λk=>n (h _ k)) e,λZ Z n e=>x.gens _ _ (λk=>n (g _ k)) e,x.bare,x.os⟩
theorem Ext.mv{G:Nat→Prop}{a b:ay}(x:Ext a b):Mv Ku G a b:=⟨λZ Z Z e=>x.keep _ _ e,λZ Z Z e=>x.gens _ _ e,x.bare,x.os⟩
theorem Mv.ext{G:Nat→Prop}{a b:ay}(x:Mv Ku G a b)(e:Ext aT a)(hK:∀c,Ku c→aT.heap.get? c=af)(hG:∀g,G g→aT.gens[g]? =af):Ext aT b:=
 ⟨λc o h=>x.keep c o (λk=>by replace h:=hK c k▸h;exact zN h) (e.keep c o h),λg o h=>x.gens g o (λk=>by replace h:=hG g k▸h;exact zN h) (e.gens g o h),λh=>x.bare (e.bare h),x.os.trans e.os⟩
theorem gB.mv{G:Nat→Prop}(h:gB ks env s s'):Mv (eG ks env) G s s':=
 ⟨λa o n e=>(h.1 a o e).elim id λk=>absurd k n,λg x Z e=>by refine rE h.2.1 ?_;exact e,λe=>by refine rE h.2.1 ?_;exact e,h.2.2⟩
theorem jK(x:Ext s s')(h:s'.heap.get? a=af):s.heap.get? a=af:=by
 induction q:s.heap.get? a with
 |none=>rfl
 |some o=>have:=x.keep a o q;exact zN (h▸this)
section
variable(w:cM)(A:dU)
structure Iter(V:aY)(I:ak)(G:Nat→Prop)(St:(aE→Prop)→List D→ay→Prop):Prop where
 next:∀ {Wr:aY} x xs s (Q:Option ak→ay→Prop) (E:aW),St Wr (x::xs) s→
  (∀v s' (W':aY),(∀a,Wr a→W' a)→(∀a,W' a→Wr a∨s.heap.get? a=af)→Mv Wr G s s'→
   (∀U:aY,(∀a,U a→V a∨W' a)→(∀a,U a→(∃o,s.heap.get? a=aa o)∨W' a)→Rd U s'.heap v x)→St W' xs s'→Q (aa v) s')→ar (aw prog w) A (pyNext I) Q E s
 done:∀ {Wr:aY} s (Q:Option ak→ay→Prop) (E:aW),St Wr [] s→(∀s',Mv Wr G s s'→Q af s')→ar (aw prog w) A (pyNext I) Q E s
 self:∀ {Wr:aY} xs s (Q:aW) (E:aW),St Wr xs s→Q I s→ar (aw prog w) A (pyIter I) Q E s
 own:∀ {Wr:aY} xs s (t:au) v (Q:Unit→ay→Prop) (E:aW),St Wr xs s→Q () s→ar (aw prog w) A (A5 t I v) Q E s
 B4:∀ {Wr:aY} xs s,St Wr xs s→∀g,G g→∃x,s.gens[g]? =aa x
 frame:∀ {Wr:aY} xs s s' Ku H,St Wr xs s→Mv Ku H s s'→(∀a,Ku a→V a∧¬Wr a)→(∀g,H g→¬G g)→St Wr xs s'
 alive:∀ {Wr:aY} xs s,St Wr xs s→∀a,Wr a→∃o,s.heap.get? a=aa o
noncomputable def zA(U:aY)(aT s:ay)(v:ak)(xs:List D):Prop:=
 ∀ (Q E:aW),(∀I Wr G St ai,Ext s ai→(∀a,Wr a→aT.heap.get? a=af)→(∀g,G g→aT.gens[g]? =af)→
  Iter w A (λa=>U a∨s.heap.get? a=af) I G St→St Wr xs ai→Q I ai)→ar (aw prog w) A (pyIter v) Q E s
noncomputable def zB(U:aY)(s:ay)(t:cN ak)(xs:List D):Prop:=
 ∀ (Q E:aW),(∀v ai,Ext s ai→(∀av,Ext ai av→zA w A U s av v xs)→Q v ai)→ar (aw prog w) A t Q E s
end
section
variable{w:cM}
theorem Iter.F8{I:aE}{fp:List aE}{P:Nat→ak→Prop}{W0:Nat→aP→Prop}(Wk:Walks prog w A I fp [I] n P W0){V:aY}{xs₀:List D}(hn:xs₀.length=n)
  (XH:∀a∈fp,a≠I→¬V a) (XI:∀i h,W0 i h→∃o,h.get? I=aa o)
  (XJ:∀i s (t:au) v (Q:Unit→ay→Prop) (E:aW),W0 i s.heap→Q () s→ar (aw prog w) A (A5 t (.ref I) v) Q E s)
  (Ok:aP→Prop) (c0:∀h h':aP,Ok h→(∀a o,¬V a→a≠I→h.get? a=aa o→h'.get? a=aa o)→Ok h')
  (XK:∀i v x h,P i v→xs₀[i]? =aa x→Ok h→∀U:aY,(∀a,U a→V a∨a=I)→Rd U h v x):
  Iter w A V (.ref I) (λZ=>False) (λWr xs s=>Wr=(λa=>a=I)∧∃i,W0 i s.heap∧xs=xs₀.drop i∧i+xs.length=n∧Ok s.heap) where
 next:=λ{Wr} x xs s Q E h hQ=>by
  clear hn;refine E5 h λe9 i h1 h2 h3 h4=>?_;subst e9;have hi:i<n:=by replace h3:=bT▸h3;lia
  refine Wk.item i s Q E hi h1 λv h' tk hp cz hk=>?_;have hx:xs₀[i]? =aa x:=by
   have:(xs₀.drop i)[0]? =aa x:=by refine rS h2 ?_;rfl
   replace this:=Kj▸this;simpa using this
  have MU:Ok h':=c0 _ _ h4 λa o Z n e=>hk a o (by simpa using n) e;refine hQ v _ (λa=>a=I) (λZ h=>h) (λZ h=>.inl h) ⟨λa o n e=>hk a o (by simpa using n) e,λZ Z Z e=>e,λe=>e,rfl⟩ (λU hU Z=>XK i v x h' hp hx MU U hU) ⟨rfl,i+1,cz,?_,by replace h3:=bT▸h3;lia,MU⟩;refine rS Eg (rS h2 ?_);rfl
 done:=λ{Wr} s Q E h hQ=>by
  clear hn;refine E5 h λe9 i h1 h2 h3 Z=>?_;subst e9;have:i=n:=by simpa using h3
  subst this;exact Wk.done s Q E h1 λh' tk hk=>hQ _ ⟨λa o n e=>hk a o (by simpa using n) e,λZ Z Z e=>e,λe=>e,rfl⟩
 self:=λ{Wr} xs s Q E h hQ=>by refine uX h λZ i h1 Z=>?_;exact Wk.self i s Q E h1 hQ
 own:=λ{Wr} xs s t v Q E h hQ=>by refine uX h λZ i h1 Z=>?_;exact XJ i s t v Q E h1 hQ
 frame:=λ{Wr} xs s s' Ku H h hm nO Z=>by
  clear hn;refine E5 h λe9 i h1 h2 h3 h4=>?_;subst e9;refine⟨rfl,i,Wk.frame i s.heap s'.heap h1 λb hb o e=>?_,h2,h3,c0 _ _ h4 λa o nv ni e=>hm.keep a o (λk=>nv (nO a k).1) e⟩;refine hm.keep b o (λk=>?_) e;by_cases lI:b=I
  ·exact(nO b k).2 lI
  ·exact XH b hb lI (nO b k).1
 B4:=λ{Wr} Z Z Z Z h=>h.elim
 alive:=λ{Wr} xs s h a ha=>by refine uX h λe9 i h1 Z=>?_;subst e9;subst ha;exact XI i _ h1
theorem B5{I:aE}{t:au}{v:ak}{Q:Unit→ay→Prop}(cls:String)(hc:(["enumerate","zip","dict_itemiterator","dict_reverseitemiterator","odict_iterator","itertools.zip_longest","itertools.pairwise"].contains cls)=ag)
  {o:fI} (ho:s.heap.get? I=aa o) (oQ:o.cls=.type cls) (hQ:Q () s):ar (aw prog w) A (A5 t (.ref I) v) Q E s:=by
 have go:ar (aw prog w) A (do
   let(.ref r,.ref a):=(yG I,v)|return
   let o ← load r
   match o.cls,o.data with
   | .type n,.fields vs=>
    if ["enumerate","zip","dict_itemiterator","dict_reverseitemiterator","odict_iterator","itertools.zip_longest","itertools.pairwise"].contains n&&vs[0]? == aa (rawInt a)then
     rule "for.unpacks-the-owned-tuple"
     updateField r 0 .none
   |_,_=>pure ()) Q E s:=by
  induction v with
  |ref a=>
   refine aB (wpAny_load ho ?_);refine rE oQ ?_;induction o.data with
   |fields vs=>dsimp only;refine rE hc (rE (ahC ..) (rE (if_neg f7) ?_));exact bz hQ
   |_=>exact bz hQ
  |_=>exact bz hQ
 cases t with
 |Tuple|List=>exact go
 |_=>exact bz hQ
end
section
variable{w:cM}
theorem B6{V:aY}{h:aP}(hV:∀a,V a→U a∨h.get? a=af){xs:List D}(r:aI U h vs xs):aI V h vs xs:=
 r.mono (λZ Z Z e=>e) λa o e n k=>(hV a k).elim n λq=>by replace q:=e▸q;exact zS q
theorem MV(hh:A.handled=af){vs:Array ak}{xs:List D}(jo:Ext aT s)(hl:s.heap.get? a=aa (cy vs n))(hu:¬U a)(r:aI U s.heap vs.toList xs):
  zA w A U aT s (.ref a) xs:=by
 intro Q E hQ;have L:s.heap.IsList a vs:=⟨_,hl,rfl,n,rfl⟩;have bQ:a≠s.heap.objs.size:=iT (jA hl);refine Km L (hQ _ (λb=>b=s.heap.objs.size) (λZ=>False) _ _ (.push (s:=s) (k:=s.toks)) (λb hb=>?_) (λZ h=>h.elim)
  (Iter.F8 (Uh hh s.heap.objs.size a bQ vs) (xs₀:=xs) (V:=λb=>U b∨s.heap.get? b=af) ?_ ?_ ?_ ?_ (λh=>aI (λb=>U b∨s.heap.get? b=af) h vs.toList xs) ?_ ?_) ?_)
 ·induction q:aT.heap.get? b with
  |none=>rfl
  |some o=>have:=jo.keep b o q;replace this:=hb▸this;exact zN ((eM ..)▸this)
 ·exact rS r.length (rE eL rfl)
 ·intro b hb lI;simp only[bE,sM,or_false]at hb;rcases hb with rfl|rfl
  ·exact absurd rfl lI
  ·rintro (h|h)
   ·exact hu h
   ·exact zS (hl▸h)
 ·rintro i h ⟨⟨o,ho,_⟩,_⟩;exact⟨o,ho⟩
 ·rintro i s' t v Q E ⟨⟨o,ho,hc,_⟩,_⟩ hQ;exact B5 "list_iterator" (by decide) ho hc hQ
 ·intro h h' r hk;exact r.mono (λb o n e=>by
   by_cases lI:b=s.heap.objs.size
   ·subst lI;exact absurd (.inr (eM _)) n
   ·exact hk b o n lI e) λZ Z Z n=>n
 ·intro i v x h hp hx c0 U' tw;obtain⟨v',vh,rv⟩:=c0.get hx;replace vh:=iJ (hp▸AQ▸vh);subst vh;refine rv.mono (λZ Z Z e=>e) λb o e n k=>n ((tw b k).elim id λq=>.inr (rE q (eM _)))
 ·refine⟨rfl,0,⟨⟨_,eT _ rfl,rfl,rfl⟩,L.push _⟩,by simp,?_,?_⟩
  ·refine rS r.length (rE eL ?_);lia
  ·exact(B6 (V:=λb=>U b∨s.heap.get? b=af) (λb h=>h) r).ext (.push (s:=s) (k:=s.toks))
theorem XM(hh:A.handled=af){vs:Array ak}{xs:List D}(jo:Ext aT s)(hl:s.heap.get? a=aa (yZ vs n))(hu:¬U a)(r:aI U s.heap vs.toList xs):
  zA w A U aT s (.ref a) xs:=by
 intro Q E hQ;have L:s.heap.IsTuple a vs:=⟨_,hl,rfl,n,rfl⟩;have bQ:a≠s.heap.objs.size:=iT (jA hl);refine ahD L (hQ _ (λb=>b=s.heap.objs.size) (λZ=>False) _ _ (.push (s:=s) (k:=s.toks)) (λb hb=>?_) (λZ h=>h.elim)
  (Iter.F8 (Walks.tuple hh s.heap.objs.size a bQ vs) (xs₀:=xs) (V:=λb=>U b∨s.heap.get? b=af) ?_ ?_ ?_ ?_ (λh=>aI (λb=>U b∨s.heap.get? b=af) h vs.toList xs) ?_ ?_) ?_)
 ·induction q:aT.heap.get? b with
  |none=>rfl
  |some o=>have:=jo.keep b o q;replace this:=hb▸this;exact zN ((eM ..)▸this)
 ·exact rS r.length (rE eL rfl)
 ·intro b hb lI;simp only[bE,sM,or_false]at hb;rcases hb with rfl|rfl
  ·exact absurd rfl lI
  ·rintro (h|h)
   ·exact hu h
   ·exact zS (hl▸h)
 ·rintro i h ⟨⟨o,ho,_⟩,_⟩;exact⟨o,ho⟩
 ·rintro i s' t v Q E ⟨⟨o,ho,hc,_⟩,_⟩ hQ;exact B5 "tuple_iterator" (by decide) ho hc hQ
 ·intro h h' r hk;exact r.mono (λb o n e=>by
   by_cases lI:b=s.heap.objs.size
   ·subst lI;exact absurd (.inr (eM _)) n
   ·exact hk b o n lI e) λZ Z Z n=>n
 ·intro i v x h hp hx c0 U' tw;obtain⟨v',vh,rv⟩:=c0.get hx;replace vh:=iJ (hp▸AQ▸vh);subst vh;refine rv.mono (λZ Z Z e=>e) λb o e n k=>n ((tw b k).elim id λq=>.inr (rE q (eM _)))
 ·refine⟨rfl,0,⟨⟨_,eT _ rfl,rfl,rfl⟩,L.push _⟩,by simp,?_,?_⟩
  ·refine rS r.length (rE eL ?_);lia
  ·exact(B6 (V:=λb=>U b∨s.heap.get? b=af) (λb h=>h) r).ext (.push (s:=s) (k:=s.toks))
theorem MW:∀ (n i k:Nat),k<n→(kL i n)[k]? =aa (.int ((i+k:Nat):Int))
 |0,_,_,h=>absurd h (Eu _)
 |n+1,i,0,_=>rfl
 |n+1,i,k+1,h=>by show(kL (i+1) n)[k]? =_;refine rE (MW n (i+1) k (Nat.lt_of_succ_lt_succ h)) ?_;congr 3;lia
theorem F9:∀ (n i:Nat),(kL i n).length=n:=by
 intro L0;induction L0 with
 |zero=>intro _;exact rfl
 |succ n ih=>intro i;exact congrArg (· +1) (ih (i+1))
theorem XN{a b:Int}(ha:0≤a)(xq:a.natAbs<1000000)(hb:b.natAbs<1000000):ahE a b 1∧Uv a b 1=((b - a).toNat:Int):=by
 have eY:Uv a b 1=((b - a).toNat:Int):=by
  unfold Uv;refine rE (if_pos (by decide)) ?_;split
  ·refine rE (Int.ediv_one ..) ?_;lia
  ·lia
 refine⟨?_,eY⟩;have fits:∀x:Int,x.natAbs<10000000→ahF x:=by intro x hx;unfold ahF;refine rE (jW ..) ?_;rewrite[decide_eq_true_iff];rw[decide_eq_true_iff];exact qZ (d4 hx) (by decide) (by decide)
 unfold ahE;have hs:(b - a).toNat<10000000:=jh (Int.toNat_le.mpr (AO (Int.sub_le_self b ha) Int.le_natAbs)) (ew hb (by decide));refine rE eY ?_;rewrite[fits a (ew xq (by decide))];rewrite[fits b (ew hb (by decide))];rewrite[fits 1 (by decide)];rewrite[fits (((b - a).toNat:Nat):Int) hs];rewrite[if_pos (by decide)];rewrite[fits _ (by lia)];rewrite[Bool.or_true];try with_reducible rfl
 rfl
theorem XO(hh:A.handled=af){r:aE}{a b:Int}{u v:mY}(jo:Ext aT s)(hr:IsRange s.heap r a b 1 t u v)(ha:0≤a)(xq:a.natAbs<1000000)(hb:b.natAbs<1000000):
  zA w A U aT s (.ref r) (kL a.toNat (b - a).toNat):=by
 intro Q E hQ;obtain⟨MX,eY⟩:=XN ha xq hb;refine wpAny_pyIter_range hr MX (hQ _ (λb=>b=s.heap.objs.size) (λZ=>False) _ _ (.push (s:=s) (k:=s.toks)) (λb hb=>?_) (λZ h=>h.elim)
  (Iter.F8 (Walks.range hh s.heap.objs.size a 1 (b - a).toNat) (xs₀:=kL a.toNat (b - a).toNat) (V:=λb=>U b∨s.heap.get? b=af) ?_ ?_ ?_ ?_ (λZ=>True) ?_ ?_) ?_)
 ·induction q:aT.heap.get? b with
  |none=>rfl
  |some o=>have:=jo.keep b o q;replace this:=hb▸this;exact zN ((eM ..)▸this)
 ·exact F9 _ _
 ·intro b hb lI;simp only[bE,sM,or_false]at hb;exact absurd hb lI
 ·intro i h ho;exact⟨_,ho⟩
 ·intro i s' t v Q E ho hQ;exact B5 "range_iterator" (by decide) ho rfl hQ
 ·intro _ _ _ _;trivial
 ·intro i v x h hp hx _ U' tw;clear tw hQ E Q hb MX xq;obtain⟨t,rfl⟩:=hp;have hi:i<(b - a).toNat:=by have:=LQ hx;rwa [F9]at this
  replace hx:=iJ (MW _ _ _ hi▸hx);subst hx;have:(a+(i:Int) * 1)=((a.toNat+i:Nat):Int):=by lia
  exact rE this (.int _ _)
 ·refine⟨rfl,0,?_,by simp,?_,trivial⟩
  ·show IsRangeIter _ _ (a+((0:Nat):Int) * 1) ((((b - a).toNat:Nat):Int) - ((0:Nat):Int)) 1;refine rE (show a+((0:Nat):Int) * 1=a by lia) (rE (show(((b - a).toNat:Nat):Int) - ((0:Nat):Int)=((b - a).toNat:Nat)by lia) (rS eY ?_));exact eT _ rfl
  ·refine rE (F9 ..) ?_;lia
end
section
variable{w:cM}
theorem XQ{I:aE}{fp:List aE}{P:Nat→ak→Prop}{W0:Nat→aP→Prop}(Wk:Walks prog w A I fp [I] n P W0):∀ (k i:Nat) (s:ay) (Q:List ak→ay→Prop) (E:aW),W0 i s.heap→i+k≤n→
  (∀vs h' tk,vs.length=k→(∀j v,vs[j]? =aa v→P (i+j) v)→W0 (i+k) h'→(∀b o,b≠I→s.heap.get? b=aa o→h'.get? b=aa o)→Q vs {s with heap:=h',toks:=tk})→ar (aw prog w) A (draw (.ref I) k) Q E s:=by
 intro k;induction k with
 |zero=>intro i s Q E cz _ hQ;show ar _ _ (pure []) Q E s;exact bz (hQ [] s.heap s.toks rfl (λj v h=>by simp at h) cz λZ Z Z e=>e)
 |succ k ih=>
  intro i s Q E cz hle hQ;show ar _ _ (pyNext (.ref I) >>= _) Q E s;refine aB (Wk.item i s _ _ (by lia) cz λv h₁ tx hp XR Ga=>?_);refine aB (jg (ih (i+1) _ _ _ XR (by lia) λvs ey MY hl hP vj xr=>bz ?_));refine hQ (v::vs) ey MY (rE bT (rE hl rfl)) (λj u hj=>?_) (rE (show i+(k+1)=i+1+k by lia) vj) λb o hb e=>xr b o hb (Ga b o (by simpa using hb) e);induction j using ll with
  |zero=>simp at hj;subst hj;exact hp
  |succ j=>exact rE (show i+(j+1)=i+1+j by lia) (hP j u (by simpa using hj))
theorem MZ{v:ak}{T id:String}{P:Nat→ak→Prop}(hT:s.TypeIs v T)(lG:Uw T "__iter__" id)
  (hit:∀ (Q E:aW),(∀I fp W0 ai,Walks prog w A I fp [I] n P W0→s.heap.get? I=af→Ext s ai→W0 0 ai.heap→Q (.ref I) ai)→ar (aw prog w) A (pyIter v) Q E s)
  {Q:List ak→ay→Prop}{E:aW} (hQ:∀vs s',vs.length=n→(∀j u,vs[j]? =aa u→P j u)→Ext s s'→Q vs s'):ar (aw prog w) A (unpackItems v n af) Q E s:=by
 unfold unpackItems;refine aB ?_
 ·unfold notIterableAtAll;refine aB (wpAny_specialOf hT lG.lookup ?_);refine bz ?_;simp only[yx,if_false];refine aB (jg (hit _ _ λI fp W0 ai Wk hI aq cz=>?_));refine aB (jg (XQ Wk n 0 _ _ _ cz (by lia) λvs ey MY hl hP vj xr=>?_));refine rE (if_neg (by refine rE hl ?_;exact qE n)) ?_;replace vj:=(lj ..)▸vj;refine aB (jg (Wk.done _ _ _ vj λkX aiB XS=>?_));simp only[Option.isSome_none,yx,if_false];refine bz (hQ vs _ hl (λj u hj=>by have:=hP j u hj;rwa [lj]at this) ?_);refine⟨λb o e=>?_,λg x e=>aq.gens g x e,λe=>aq.bare e,aq.os⟩;have hb:b≠I:=λq=>by subst q;replace e:=hI▸e;exact zN e
  exact XS b o (by simpa using hb) (xr b o hb (aq.keep b o e))
set_option tactic.hygienic true in
theorem Gb(hh:A.handled=af){v:ak}{xs:List D}(r:Rd U s.heap v d)(hd:d=.list xs∨d=.tuple xs){Q:List ak→ay→Prop}
  (hQ:∀vs s',Ext s s'→aI U s'.heap vs xs→Q vs s'):ar (aw prog w) A (unpackItems v xs.length af) Q E s:=by
 have fin:∀ {items:Array ak}{vs:List ak},aI U s.heap items.toList xs→vs.length=xs.length→(∀ (j:Nat) (u:ak),vs[j]? =aa u→items[j]? =aa u)→vs=items.toList:=by
  intro items vs r hl hP;apply List.ext_getElem?;intro j;have hlen:=r.length;by_cases hj:j<vs.length
  ·obtain⟨u,hu⟩:∃u,vs[j]? =aa u:=⟨_,lx hj⟩;refine rE hu (rE (AQ) ?_);exact rE (hP j u hu) rfl
  ·refine rE (Un (by lia)) ?_;exact rE (Un (by lia)) rfl
 rcases hd with rfl|rfl
 ·cases r with
  |list hl hu r=>
   rename_i a items n;have L:s.heap.IsList a items:=⟨_,hl,rfl,n,rfl⟩;have bQ:a≠s.heap.objs.size:=iT (jA hl);refine MZ (P:=λi v=>items[i]? =aa v) L.typeIs F.slot_list_iter (λQ E h=>Km L (h s.heap.objs.size [s.heap.objs.size,a] (λi h=>h.IsListIter s.heap.objs.size a i∧h.IsList a items) _ ?_ (eM _) (.push (s:=s) (k:=s.toks)) ⟨⟨_,eT _ rfl,rfl,rfl⟩,L.push _⟩)) λvs s' pR hP x=>?_
   ·have:=Uh (prog:=prog) (w:=w) hh s.heap.objs.size a bQ items;have e:items.size=xs.length:=by exact rS r.length (rE eL rfl)
    rwa [e]at this
   ·exact rE (fin r pR hP) (hQ _ s' x (r.ext x))
 ·cases r with
  |tup hl hu r=>
   rename_i a items n;have L:s.heap.IsTuple a items:=⟨_,hl,rfl,n,rfl⟩;have bQ:a≠s.heap.objs.size:=iT (jA hl);refine MZ (P:=λi v=>items[i]? =aa v) L.typeIs F.slot_tuple_iter (λQ E h=>ahD L (h s.heap.objs.size [s.heap.objs.size,a] (λi h=>h.IsTupleIter s.heap.objs.size a i∧h.IsTuple a items) _ ?_ (eM _) (.push (s:=s) (k:=s.toks)) ⟨⟨_,eT _ rfl,rfl,rfl⟩,L.push _⟩)) λvs s' pR hP x=>?_
   ·have:=Walks.tuple (prog:=prog) (w:=w) hh s.heap.objs.size a bQ items;have e:items.size=xs.length:=by exact rS r.length (rE eL rfl)
    rwa [e]at this
   ·exact rE (fin r pR hP) (hQ _ s' x (r.ext x))
variable{K:Kt}
theorem mD(k:dg ks env)(h:dz (aV x ks)):env.kindOf x=aa .local∨env.kindOf x=aa .cell:=by
 induction q:aV x ks with
 |none=>replace h:=q▸h;exact zF h
 |some kd=>
  replace h:=q▸h;induction kd<;>first|cases h|skip
  ·rcases k x _ q with e| ⟨e,_⟩
   ·exact .inl e
   ·cases e
  ·rcases k x _ q with e| ⟨e,_⟩
   ·exact .inr e
   ·cases e
theorem rC{X:Cx}{e:au}(h:kR X ks e=aa i):∃x p,e=.Name x p∧dz (aV x ks)∧aZ x X.names=aa i:=oE h λx h1 h=>xE (xc h1) λp e=>xA (cj h) λh1 h2=>⟨x,p,e,h1,h2⟩
theorem Ge{l:List D}{a b:D}(h:two? l=aa (a,b)):l=[a,b]:=by
 induction l using bj with
 |nil=>exact zN h
 |cons x r=>induction r with
  |nil=>exact zN h
  |cons y q=>induction q with
   |nil=>replace h:=iJ h;refine iP h λe1 e2=>?_;clear h;subst e1;subst e2;rfl
   |cons=>exact zN h
theorem M0{x:D}(h:eU tg x ρ=aa ρ'):(∃i,tg=.one i∧ρ'=put ρ i (.val x))∨∃i j a b,tg=.two i j∧nt x=aa [a,b]∧ρ'=put (put ρ i (.val a)) j (.val b):=by
 induction tg with
 |one i=>replace h:=iJ h;subst h;exact .inl ⟨i,rfl,rfl⟩
 |two i j=>refine oE (h:(nt x).bind _=_) λl h0 h1=>oE h1 λp hp h2=>?_;replace h2:=iJ h2;subst h2;exact .inr ⟨i,j,p.1,p.2,rfl,by refine rE h0 ?_;exact rE (Ge hp) rfl,rfl⟩
theorem XT(hh:A.handled=af){t:au}{v:ak}{x:D}(hk:dg ks env)(I:bJ K U env hs ρ s)(ht:jm K.X ks t=aa tg)
  (hb:eU tg x ρ=aa ρ') (r:Rd U s.heap v x) {Q:Unit→ay→Prop}{E:aW} (hQ:∀s',bJ K U env hs ρ' s'→Mv (eG ks env) (λZ=>False) s s'→Q () s'):ar (aw prog K.w) A (assign t env v) Q E s:=by
 unfold jm at ht;induction hn:kR K.X ks t with
 |some i=>replace ht:=iJ (hn▸ht);subst ht;replace hb:=iJ hb;subst hb;refine cK (rC hn) λy q e9 h1 hi=>?_;subst e9;exact qO (I.store (sl:=.val x) hi h1 (mD hk h1) r λs' I' m=>hQ s' I' m.mv)
 |none=>
  replace ht:=hn▸ht;refine oE ht λes he ht=>oE ht λp2 hp ht=>oE ht λi hi ht=>oE ht λj hj rF=>?_;clear hn ht;clear ht;refine lC (BJ he) λk p e9=>?_;subst e9;clear ht he;obtain rfl:=zv hp;obtain⟨e1,e2⟩:=p2;refine cK (rC hi) λy q h3 h1 vk=>cK (rC hj) λz q' h4 h2 vm=>?_;clear hi hj;have h3:e1=_:=h3;have h4:e2=_:=h4;clear ht hp;subst h3 h4;induction jL:az i j with
  |true=>exact zN (jL▸rF)
  |false=>clear h4 h3;replace rF:=iJ (jL▸rF);subst rF;refine oE (hb:(nt x).bind _=_) λl hx vo=>oE vo λab hl pS=>?_;clear hb vo;obtain⟨a,b⟩:=ab;obtain rfl:=Ge hl;clear hl;replace pS:=iJ pS;subst pS;refine rE (KA ..) (aB (kI ?_));show ar _ A (unpack v [(ag,assign (.Name y q) env),(ag,assign (.Name z q') env)]) Q E s;unfold unpack;refine aB (jg (Gb hh r (xs:=[a,b]) (w7 hx) λvs ai aq rv=>?_));clear hx p k;refine cK (xo rv) λva vb e9 ra rb=>?_;subst e9;show ar _ A (Ew [assign (.Name y q) env,assign (.Name z q') env] [va,vb]) Q E ai;refine wL (qO ((I.ext aq).store (sl:=.val a) vk h1 (mD hk h1) ra λav gC m₂=>?_));refine wL (qO (gC.store (sl:=.val b) vm h2 (mD hk h2) (m₂.slot (sl:=.val b) (hs:=hs) (I.ext aq).bu rb) λaR pT tA=>Ex ?_));exact hQ aR pT ((aq.mv).trans (m₂.mv.trans tA.mv))
end
section
variable{K:Kt}{C:l9}{A:dU}{ks:cT}
theorem j8.mono{h:aP}{v:ak}(hk:∀a o,h.get? a=aa o→h'.get? a=aa o)(hu:∀a o,h.get? a=aa o→¬U a→¬U' a)(r:j8 K U h hs v sl):j8 K U' h' hs v sl:=by
 induction sl with
 |val d=>exact Rd.mono (λa o Z e=>hk a o e) hu r
 |own xs=>exact ib r λa vs n e1 e3 e4=>⟨a,vs,n,e1,hk _ _ e3,e4.mono (λa o Z e=>hk a o e) hu⟩
 |cU i=>exact Lw r λt e0 a l e1 r=>⟨t,e0,a,l,e1,r.mono (λa o Z e=>hk a o e) hu λZ Z e=>hk _ _ e⟩
 |fN l=>exact nI.mono r (λa o Z e=>hk a o e) hu
theorem bJ.grow(I:bJ K U env hs ρ s)(x:Ext s s')(hU:∀a,U a→U' a)(hn:∀a,U' a→U a∨s.heap.get? a=af)(ha:UB U' s'):bJ K U' env hs ρ s':=by
 have hu:∀a o,s.heap.get? a=aa o→¬U a→¬U' a:=λa o e n k=>(hn a k).elim n λq=>by replace q:=e▸q;exact zS q
 exact⟨I.bH.mono (λa o Z e=>x.keep a o e) hu,ha,I.kind,I.gl,I.bi,⟨let⟨a,b⟩:=(I.bu.ext x).loc;⟨hU _ a,b⟩,λy c e=>let⟨a,b⟩:=(I.bu.ext x).fQ y c e;⟨hU _ a,b⟩,I.bu.inj,I.bu.has⟩,
  λy i sl a b c=>let⟨v,p,q⟩:=I.vars y i sl a b c;⟨v,p.ext x,q.mono x.keep hu⟩⟩
theorem bJ.sub(I:bJ K U env hs ρ' s)(h:∀i sl,get ρ i=aa sl→get ρ' i=aa sl):bJ K U env hs ρ s:=
 ⟨I.bH,I.ub,I.kind,I.gl,I.bi,I.bu,λy i sl a b c=>I.vars y i sl a (h i sl b) c⟩
variable(K)in
noncomputable def Base(env:bF)(hs:Hs)(ρ:aM)(sb:ay)(Ub:aY):Prop:=
 ∀s',Ext sb s'→∀U:aY,(∀a,U a→Ub a∨sb.heap.get? a=af)→∀x i sl,(∀d,sl≠.val d)→aZ x K.X.names=aa i→get ρ i=aa sl→d8 (env.kindOf x)→
  ∃v,fP env s'.heap x v∧j8 K U s'.heap hs v sl
theorem Base.put(B:Base K env hs ρ sb Ub)(i:Nat)(d:D):Base K env hs (put ρ i (.val d)) sb Ub:=by
 intro s' x U hU y j sl hn hj hg hk;by_cases lH:j=i
 ·subst lH;replace hg:=iJ ((kW ..)▸hg);subst hg;exact absurd rfl (hn d)
 ·rw[fR _ lH]at hg;exact B s' x U hU y j sl hn hj hg hk
theorem Base.eU{x:D}(B:Base K env hs ρ sb Ub)(h:eU tg x ρ=aa ρ'):Base K env hs ρ' sb Ub:=by
 rcases M0 h with⟨i,_,rfl⟩| ⟨i,j,a,b,_,_,rfl⟩
 ·exact B.put _ _
 ·exact(B.put _ _).put _ _
noncomputable def dm(env:bF):aE→Prop:=λa=>a=env.locals∨∃x,env.cells.lookup x=aa a
theorem mE(h:eG ks env a):dm env a:=h.elim .inl λ⟨x,_,e⟩=>.inr ⟨x,e⟩
theorem jn.dm{h:aP}(f:jn U env h)(k:dm env a):U a:=by
 rcases k with rfl| ⟨x,e⟩
 ·exact f.loc.1
 ·exact(f.fQ x a e).1
theorem bJ.xt{U0:aY}{G:Nat→Prop}(I:bJ K U env hs ρ s)(B:Base K env hs ρ sb Ub)(x:Ext sb s')(m:Mv Ku G s s')
  (pU:∀a,U0 a→U a) (hF:∀a,dm env a→U0 a)
  (oR:∀a,Ku a→U a) (nP:∀a,U a→Ub a∨sb.heap.get? a=af) (ha:∀a,Ku a→U0 a→∃o,s'.heap.get? a=aa o) (cC:∀a,dm env a→¬Ku a):bJ K U0 env hs ρ s':=by
 have hk:∀a o,¬U a→s.heap.get? a=aa o→s'.heap.get? a=aa o:=λa o n e=>m.keep a o (λk=>n (oR a k)) e;have hu:∀a (o:fI),s.heap.get? a=aa o→¬U a→¬U0 a:=λa Z Z n k=>n (pU a k);have cell:∀ {y c v},env.cells.lookup y=aa c→s.heap.IsCell c v→s'.heap.IsCell c v:=λ{y c v} hy q=>let⟨o,ho,hd⟩:=q;⟨o,m.keep _ _ (cC c (.inr ⟨y,hy⟩)) ho,hd⟩
 have ns:∀ {m'},s.heap.Ns env.locals m'→s'.heap.Ns env.locals m':=λ{m'} q=>let⟨o,es,ep,ho,r⟩:=q;⟨o,es,ep,m.keep _ _ (cC _ (.inl rfl)) ho,r⟩
 refine⟨I.bH.mono hk hu,λa hu=>?_,I.kind,I.gl,I.bi,⟨let⟨a,b,c⟩:=I.bu.loc;⟨hF _ (.inl rfl),b,ns c⟩,λy c e=>let⟨a,b,d⟩:=I.bu.fQ y c e;⟨hF _ (.inr ⟨y,e⟩),b,cell e d⟩,I.bu.inj,I.bu.has⟩,λy i sl a b c=>?_⟩
 ·refine xE (I.ub a (pU a hu)) λo e=>?_;induction q:s'.heap.get? a with
  |some o'=>exact⟨o',rfl⟩
  |none=>
   by_cases hK:Ku a
   ·exact xE (ha a hK hu) λo' e'=>zS (e'▸q)
   ·exact zS (m.keep a o hK e▸q)
 ·by_cases hv:∃d,sl=.val d
  ·refine xE hv λd e9=>?_;subst e9;refine aD (I.vars y i _ a b c) λv p q=>⟨v,?_,Rd.mono hk hu q⟩;rcases p with⟨k1,m',n',e'⟩| ⟨k1,c',e1,e2⟩
   ·exact .inl ⟨k1,m',ns n',e'⟩
   ·exact .inr ⟨k1,c',e1,cell e1 e2⟩
  ·exact B s' x U0 (λa h=>nP a (pU a h)) y i sl (λd e=>hv ⟨d,e⟩) a b c
theorem bJ.Gf{U0:aY}{G:Nat→Prop}(I:bJ K U env hs ρ s)(B:Base K env hs ρ sb Ub)(x:Ext sb s')(m:Mv Ku G s s')
  (pU:∀a,U a→U0 a) (hn:∀a,U0 a→U a∨s.heap.get? a=af)
  (oR:∀a,Ku a→U a) (nP:∀a,U0 a→Ub a∨sb.heap.get? a=af) (ha:UB U0 s') (cC:∀a,dm env a→¬Ku a):bJ K U0 env hs ρ s':=by
 have hk:∀a o,¬U a→s.heap.get? a=aa o→s'.heap.get? a=aa o:=λa o n e=>m.keep a o (λk=>n (oR a k)) e;have hu:∀a (o:fI),s.heap.get? a=aa o→¬U a→¬U0 a:=λa Z e n k=>(hn a k).elim n λq=>by replace q:=e▸q;exact zS q
 have cell:∀ {y c v},env.cells.lookup y=aa c→s.heap.IsCell c v→s'.heap.IsCell c v:=λ{y c v} hy q=>let⟨o,ho,hd⟩:=q;⟨o,m.keep _ _ (cC c (.inr ⟨y,hy⟩)) ho,hd⟩
 have ns:∀ {m'},s.heap.Ns env.locals m'→s'.heap.Ns env.locals m':=λ{m'} q=>let⟨o,es,ep,ho,r⟩:=q;⟨o,es,ep,m.keep _ _ (cC _ (.inl rfl)) ho,r⟩
 refine⟨I.bH.mono hk hu,ha,I.kind,I.gl,I.bi,⟨let⟨a,b,c⟩:=I.bu.loc;⟨pU _ a,b,ns c⟩,λy c e=>let⟨a,b,d⟩:=I.bu.fQ y c e;⟨pU _ a,b,cell e d⟩,I.bu.inj,I.bu.has⟩,λy i sl a b c=>?_⟩
 ·by_cases hv:∃d,sl=.val d
  ·refine xE hv λd e9=>?_;subst e9;refine aD (I.vars y i _ a b c) λv p q=>⟨v,?_,Rd.mono hk hu q⟩;rcases p with⟨k1,m',n',e'⟩| ⟨k1,c',e1,e2⟩
   ·exact .inl ⟨k1,m',ns n',e'⟩
   ·exact .inr ⟨k1,c',e1,cell e1 e2⟩
  ·exact B s' x U0 (nP) y i sl (λd e=>hv ⟨d,e⟩) a b c
theorem bJ.Gg{G:Nat→Prop}(I:bJ K U env hs ρ s)(B:Base K env hs ρ sb Ub)(x:Ext sb s')(m:Mv Ku G s s')
  (oR:∀a,Ku a→U a) (nP:∀a,U a→Ub a∨sb.heap.get? a=af) (ha:∀a,Ku a→∃o,s'.heap.get? a=aa o) (cC:∀a,dm env a→¬Ku a):bJ K U env hs ρ s':=
 I.xt B x m (λZ h=>h) (λZ h=>I.bu.dm h) oR nP (λa h Z=>ha a h) cC
noncomputable def iW(U:aY)(D:aE)(s:ay)(ys:List Ev.D):Prop:=U D∧∃vs n,s.heap.get? D=aa (cy vs n)∧aI U s.heap vs.toList ys
theorem iW.Gg{G:Nat→Prop}{D:aE}{ys:List Ev.D}(d:iW U D s ys)(m:Mv Ku G s s')(oR:∀a,Ku a→U a)(hD:¬Ku D):iW U D s' ys:=mr d λh vs n e r=>⟨h,vs,n,m.keep _ _ hD e,r.mono (λa o n e=>m.keep a o (λk=>n (oR a k)) e) λZ Z Z n=>n⟩
theorem iW.xt{U0:aY}{G:Nat→Prop}{D:aE}{ys:List Ev.D}(d:iW U D s ys)(m:Mv Ku G s s')(pU:∀a,U0 a→U a)(oR:∀a,Ku a→U a)(hD:¬Ku D)(h0:U0 D):iW U0 D s' ys:=mr d λh vs n e r=>⟨h0,vs,n,m.keep _ _ hD e,r.mono (λa o n e=>m.keep a o (λk=>n (oR a k)) e) λa Z Z n k=>n (pU a k)⟩
theorem iW.Gf{U0:aY}{G:Nat→Prop}{D:aE}{ys:List Ev.D}(d:iW U D s ys)(m:Mv Ku G s s')(pU:∀a,U a→U0 a)(hn:∀a,U0 a→U a∨s.heap.get? a=af)(oR:∀a,Ku a→U a)(hD:¬Ku D):iW U0 D s' ys:=by refine mr d λh vs n e r=>?_;exact⟨pU _ h,vs,n,m.keep _ _ hD e,r.mono (λa o n e=>m.keep a o (λk=>n (oR a k)) e) λa Z e n k=>(hn a k).elim n λq=>by replace q:=e▸q;exact zS q⟩
theorem iW.ext{D:aE}{ys:List Ev.D}(d:iW U D s ys)(x:Ext s s'):iW U D s' ys:=mr d λh vs n e r=>⟨h,vs,n,x.keep _ _ e,r.ext x⟩
theorem XU:∀ (es:List au),(forIn es ag λc r=>if r then do let ok ← isTrue c env (eval c env);pure (sN ok)else pure (sN r):cN Bool)=pure ag:=by
 intro es;induction es with
 |nil=>rfl
 |cons e es ih=>exact rE (KC ..) (rE (if_neg f7) ih)
theorem XW(hk:dg ks env)(hl:cZ K C A ks es rs):∀ {s:ay}{b:Bool},bJ K U env hs ρ s→oJ K.tk C hs rs ρ=aa (b,ae)→
  BW K.w A s (forIn es ae λc r=>if r then do let ok ← isTrue c env (eval c env);pure (sN ok)else pure (sN r)) b:=by
 induction hl with
 |nil=>intro s b I h;obtain rfl:=W.bp (h:W.ret ae=_);exact λQ E hQ=>bz (hQ s (.refl s))
 |cons _ he hr ih=>
  intro s b I h Q E hQ;refine wE (h:W.bind _ _=_) λx hx h=>oE h λq hb h=>rE (KC ..) (rE (if_pos rfl) ?_);refine aB (aB ((he U env hs ρ s x hk I hx).2 _ hb _ _ λai aq=>bz ?_));induction q with
  |true=>exact ih (I.ext aq) h _ _ λav aC=>hQ av (aq.trans aC)
  |false=>obtain rfl:=W.bp h;show ar _ A (forIn _ ag _) Q E ai;exact rE (XU ..) (bz (hQ ai aq))
variable(K C A ks)in
noncomputable def pV(it:au)(ri:RI):Prop:=(∀env x,uE it env x=pure x)∧
 ∀U env hs ρ s xs,dg ks env→bJ K U env hs ρ s→fO K.tk C hs ri ρ=aa (xs,ae)→zB K.w A U s (eval it env) xs
variable(K C A ks)in
inductive rG:List sD→kJ→Prop
 |nil:rG [] .nil
 |cons {t it ifs gs tg ri ris rgs:_}:jm K.X ks t=aa tg→pV K C A ks it ri→cZ K C A ks ifs ris→rG gs rgs→rG (⟨t,it,ifs,0⟩::gs) (.cons tg ri ris rgs)
theorem M1{x:D}(h:eU tg x ρ=aa ρ')(hj:j∉j7 tg):get ρ' j=get ρ j:=by
 rcases M0 h with⟨i,rfl,rfl⟩| ⟨i,k,a,b,rfl,_,rfl⟩
 ·exact fR _ (λe=>hj (by refine rE e ?_;exact .head _)) _
 ·rewrite[fR _ (λe=>hj (by refine rE e ?_;exact .tail _ (.head _)))];rw[fR _ (λe=>hj (by refine rE e ?_;exact .head _))]
theorem M3{x:D}(h:eU tg x ρ=aa ρ')(hf:∀i∈j7 tg,get ρ i=af)(i:Nat)(sl:bA)(e:get ρ i=aa sl):get ρ' i=aa sl:=rE (M1 h (λhm=>by replace e:=hf i hm▸e;exact zN e)) e
end
theorem XX{iv acc:ak}{t:au}(hg:gens[k]? =aa ⟨t,it,ifs,0⟩):
  compTurn (.ListComp elt gens scope pos) k iv acc env=(do
   ow it.pos
   match ← pyNext iv with
   |none=>pure (.done .next)
   |some v=>
    A5 t iv v
    assign t env v
    let mut ok:=ae
    for c in ifs do
     if ok then ok ← isTrue c env (eval c env)
    if ok then
     match gens[k+1]? with
     |some g'=>
      let x ← eval g'.iter env
      ow g'.iter.pos
      let x ← if g'.is_async !=0 then foldedIterable g'.iter x else uE g'.iter env x
      let _ ← runOwn (.compStart (.ListComp elt gens scope pos) (k+1) (← holding [x] (if g'.is_async !=0 then asyncIter x else pyIter x)) acc env) env
     |none=>(do let _ ← call (.builtin "list.append") [acc,← eval elt env])
    again (.compLoop (.ListComp elt gens scope pos) k iv acc env)):=by
 unfold compTurn;simp only[hg];rfl
section
variable{w:cM}
theorem B7{vs:Array ak}{x:ak}(hl:s.heap.get? l=aa (cy vs n))(hz:vs.size≤qF)
  (hQ:∀h' n',h'.get? l=aa (cy (vs.push x) n')→yH l s.heap h'→Q .none {s with heap:=h'}):
  ar (aw prog w) A (call (.builtin "list.append") [.ref l,x]) Q E s:=by
 refine yy slot_list_append ⟨_,hl,rfl⟩ entry_list_append ?_ (args_list_append _ _);show ar _ _ (updateSeq l (·.push x) >>= λZ=>ret .none) _ _ s;exact aB (wpAny_updateSeq hl rfl (bz ⟨.none,rfl,hQ _ _ (KD _ hl rfl) (A6 ..)⟩) hz (by refine rE (Array.size_push ..) ?_;lia))
theorem M4{it acc:ak}{g:sD}{R:wG→ay→Prop}(hg:gens[k]? =aa g)(ha:(g.is_async !=0)=ag)
  (h0:uF (aw prog w) A (.compLoop (.ListComp elt gens scope pos) k it acc env) R s)
  (h:ar (aw prog w) A (pyIter it) (λzE s'=>uF (aw prog w) A (.compLoop (.ListComp elt gens scope pos) k zE acc env) R s')
   (notedBy (aw prog w) A env λx s'=>R (.error x) s') s):
  uF (aw prog w) A (.compStart (.ListComp elt gens scope pos) k it acc env) R s:=by
 refine codeAny_of_tree ?_;show ar _ _ ((compStart (.ListComp elt gens scope pos) k it acc env).onRaise (λx=>do noteFrame x env;ow theWindowsPlace)) _ _ s;refine wpAny_notedAt ?_;unfold compStart;have hc:((clausesOf (.ListComp elt gens scope pos))[k]?).elim ag (·.is_async !=0)=ag:=by show(gens[k]?).elim ag _=ag;exact rE hg ha
 refine rE hc ?_;show ar _ _ (ask >>= _) _ _ s;refine aB (wpAny_askSetting (wpAny_ite ?_));have rH:(clausesOf (.ListComp elt gens scope pos))[k]? =aa g:=hg;split
 ·first
   |exact aB (bz (bz (J9 rfl h0)))
   |exact bz (J9 rfl h0)
 ·refine aB (Ey ?_);refine rE rH ?_;show ar _ _ (ow g.iter.pos >>= _) _ _ s;exact aB (kI (aB (ia h (λzE s' h'=>bz (J9 rfl h')) λZ Z x=>x)))
end
noncomputable def xu(elt:au)(gens:List sD)(scope:mZ)(pos:aO)(k:Nat)(acc:ak)(env:bF)(fin:cN Fin):cN Fin:=
 match gens[k+1]? with
 |some g'=>do
  let x ← eval g'.iter env
  ow g'.iter.pos
  let x ← uE g'.iter env x
  let __do_lift ← holding [x] (pyIter x)
  let _ ← runOwn (.compStart (.ListComp elt gens scope pos) (k+1) __do_lift acc env) env
  fin
 |none=>((do let _ ← call (.builtin "list.append") [acc,← eval elt env]):cN Unit) >>= λZ=>fin
theorem XY{iv acc:ak}{t:au}(hg:gens[k]? =aa ⟨t,it,ifs,0⟩)(hz:∀g,gens[k+1]? =aa g→g.is_async=0):
  compTurn (.ListComp elt gens scope pos) k iv acc env=(do
   ow it.pos
   match ← pyNext iv with
   |none=>pure (.done .next)
   |some v=>
    A5 t iv v
    assign t env v
    let ok ← forIn ifs ae λc r=>if r then do let ok ← isTrue c env (eval c env);pure (sN ok)else pure (sN r)
    if ok then xu elt gens scope pos k acc env (again (.compLoop (.ListComp elt gens scope pos) k iv acc env))else
    again (.compLoop (.ListComp elt gens scope pos) k iv acc env)):=by
 refine rE (XX hg) ?_;unfold xu;congr 1;funext _;congr 1;funext r;induction r with
 |none=>rfl
 |some v=>
  dsimp only;congr 1;funext _;congr 1;funext _;congr 1;funext ok;induction ok with
  |false=>rfl
  |true=>
   simp only[if_true];induction q:gens[k+1]? with
   |none=>rfl
   |some g'=>obtain⟨t',zE,M5,a'⟩:=g';have:=hz _ q;dsimp only at this;subst this;rfl
theorem XZ{f:α→W (List β)}{x:α}{xs:List α}{zs:List β}(h:lA f (x::xs)=aa (zs,ae)):∃a b,f x=aa (a,ae)∧lA f xs=aa (b,ae)∧zs=a++b:=wE (h:W.bind _ _=_) λa h1 h=>wE h λb h2 h=>⟨a,b,h1,h2,(W.bp h).symm⟩
theorem Mv.trans'{vg:aY}{G G':Nat→Prop}{a b c:ay}(x:Mv Ku G a b)(y:Mv vg G' b c)(h:∀d,vg d→Ku d∨a.heap.get? d=af)(g:∀d,G' d→G d∨a.gens[d]? =af):Mv Ku G a c:=
 ⟨λd o n e=>y.keep d o (λk=>(h d k).elim n λq=>by replace q:=e▸q;exact zS q) (x.keep d o n e),
  λd o n e=>y.gens d o (λk=>(g d k).elim n λq=>by replace q:=e▸q;exact zS q) (x.gens d o n e),λe=>y.bare (x.bare e),y.os.trans x.os⟩
theorem Mv.alive{G:Nat→Prop}{a b:ay}(x:Mv Ku G a b)(h:∀d,Ku d→(∃o,b.heap.get? d=aa o)∨a.heap.get? d=af){d:aE}(e:b.heap.get? d=af):a.heap.get? d=af:=by
 induction q:a.heap.get? d with
 |none=>rfl
 |some o=>
  by_cases k:Ku d
  ·rcases h d k with⟨o',e'⟩|e'
   ·exact zS (e'▸e)
   ·exact zS (q▸e')
  ·exact zS (x.keep d o k q▸e)
section
variable{K:Kt}{C:l9}{A:dU}{ks:cT}
variable(K C)in
noncomputable def rI(hs:Hs)(tg:jj)(ris:bf)(rgs:kJ)(relt:RE)(ρ:aM)(x:D):W (List D):=(eU tg x ρ).bind λρ'=>W.bind (oJ K.tk C hs ris ρ') λb=>cond b (w5 K.tk C hs rgs (λρ'=>ev K.tk C hs relt ρ') ρ') (W.ret [])
structure B8(V Wr:aY)(G:Nat→Prop)(U0:aY)(ks:cT)(bB:bF)(D:aE)(sb:ay):Prop where
 fr:∀a,eG ks bB a∨a=D→V a
 fa:∀a,dm bB a∨a=D→¬Wr a∧U0 a
 dj:∀a,U0 a→¬Wr a
 uv:∀a,U0 a→V a∨Wr a
 wb:∀a,Wr a→sb.heap.get? a=af
 gb:∀g,G g→sb.gens[g]? =af
structure Gh(ks:cT)(bB:bF)(D:aE)(sb:ay):Prop where
 M6:¬dm bB D
 X0:sb.heap.get? D=af
 X1:∀a,eG ks bB a→sb.heap.get? a=af
noncomputable def BodyOk(K:Kt)(A:dU)(ks:cT)(bB:bF)(hs:Hs)(D:aE)(sb:ay)(Ub:aY)(tree:cN Fin→cN Fin)(ids:ax)(f:aM→W (List Ev.D)):Prop:=
 ∀U ρ s ys zs (fin:cN Fin) (Q:Fin→ay→Prop) (E:aW),(∀a,U a→Ub a∨sb.heap.get? a=af)→Base K bB hs ρ sb Ub→ids.Nodup→(∀i∈ids,get ρ i=af)→bJ K U bB hs ρ s→iW U D s ys→Ext sb s→
  f ρ=aa (zs,ae)→ys.length+zs.length≤1000000→
  (∀s',bJ K U bB hs ρ s'→iW U D s' (ys++zs)→Ext sb s'→(∀Ku H,(∀a,(eG ks bB a∨a=D)∨s.heap.get? a=af→Ku a)→(∀g,s.gens[g]? =af→H g)→Mv Ku H s s')→(∀a,s'.heap.get? a=af→s.heap.get? a=af)→ar (aw prog K.w) A fin Q E s')→
  ar (aw prog K.w) A (tree fin) Q E s
inductive CI(Wr:aY)(St:(aE→Prop)→List Ev.D→ay→Prop)(EI:(aE→Prop)→ay→Prop)(DA:(aE→Prop)→ay→List Ev.D→Prop)(fm:List Ev.D→W (List Ev.D))(sb s:ay)(mF:List Ev.D)(MM:ay→Prop)(n:Nat)(s':ay):Prop
 |mk (Wn:aY) (xs ys zs:List Ev.D) (hn:xs.length=n) (h1:∀a,Wr a→Wn a) (h2:∀a,Wn a→Wr a∨s.heap.get? a=af) (I:EI Wn s') (Da:DA Wn s' ys) (st:St Wn xs s') (x:Ext sb s') (new:∀a,s'.heap.get? a=af→s.heap.get? a=af) (f:fm xs=aa (zs,ae)) (e:ys++zs=mF) (m:MM s')
theorem M7(hh:A.handled=af){relt:RE}{bB:bF}(hk:dg ks bB){D:aE}(Bn:Gh ks bB D sb)
  {rgs:kJ}{k:Nat}{t it:au}{ifs:List au}{tg:jj}{ris:bf} (hg:gens[k]? =aa ⟨t,it,ifs,0⟩) (hz:∀g,gens[k+1]? =aa g→g.is_async=0) (ht:jm K.X ks t=aa tg) (X2:cZ K C A ks ifs ris)
  (tB:BodyOk K A ks bB hs D sb Ub (xu elt gens scope pos k (.ref D) bB) (kP rgs) (λρ=>w5 K.tk C hs rgs (λρ'=>ev K.tk C hs relt ρ') ρ))
  {V:aY}{I:ak}{Wr:aY}{G:Nat→Prop}{St:(aE→Prop)→List Ev.D→ay→Prop} (It:Iter K.w A V I G St) {U0:aY}{ρ:aM} (L:B8 V Wr G U0 ks bB D sb)
  (nP:∀a,U0 a∨Wr a→Ub a∨sb.heap.get? a=af) (B:Base K bB hs ρ sb Ub) (kY:(j7 tg++kP rgs).Nodup) (cC:∀i∈j7 tg++kP rgs,get ρ i=af)
  {xs:List Ev.D}{s:ay}{ys zs:List Ev.D}{R:wG→ay→Prop} (hI:bJ K (λa=>U0 a∨Wr a) bB hs ρ s) (hD:iW (λa=>U0 a∨Wr a) D s ys) (cz:St Wr xs s) (hx:Ext sb s) (Gi:∀a,s.heap.get? a=af→V a)
  (hf:lA (rI K C hs tg ris rgs relt ρ) xs=aa (zs,ae)) (hlen:ys.length+zs.length≤1000000)
  (hR:∀s',bJ K U0 bB hs ρ s'→iW U0 D s' (ys++zs)→Ext sb s'→(∀Ku H,(∀a,(eG ks bB a∨a=D∨Wr a)∨s.heap.get? a=af→Ku a)→(∀g,G g∨s.gens[g]? =af→H g)→Mv Ku H s s')→
   (∀a,s'.heap.get? a=af→s.heap.get? a=af∨Wr a)→R (.ok .next) s'):
  uF (aw prog K.w) A (.compLoop (.ListComp elt gens scope pos) k I (.ref D) bB) R s:=by
 have M8:∀Wn:aY,(∀a,Wr a→Wn a)→(∀a,Wn a→Wr a∨s.heap.get? a=af)→B8 V Wn G U0 ks bB D sb:=λWn Z h2=>by
  have hU:∀a,U0 a→¬Wn a:=λa h hw=>(h2 a hw).elim (L.dj a h) λe=>by exact xE (hI.ub a (.inl h)) λo ho=>zS (ho▸e)
  refine⟨L.fr,λa h=>⟨hU a (L.fa a h).2,(L.fa a h).2⟩,hU,λa h=>(L.uv a h).elim .inl λh=>(L.dj a ‹_› h).elim,λa h=>(h2 a h).elim (L.wb a) λe=>jK hx e,L.gb⟩
 have Gj:∀Wn:aY,(∀a,Wn a→Wr a∨s.heap.get? a=af)→∀a,U0 a∨Wn a→Ub a∨sb.heap.get? a=af:=λWn h2 a h=>by
  rcases h with h|h
  ·exact nP a (.inl h)
  ·exact(h2 a h).elim (λh=>nP a (.inr h)) λe=>.inr (jK hx e)
 obtain⟨Inv,Gk⟩:∃Inv:Nat→ay→Prop,Inv=CI Wr St (λWn s'=>bJ K (λa=>U0 a∨Wn a) bB hs ρ s') (λWn s' B9=>iW (λa=>U0 a∨Wn a) D s' B9) (lA (rI K C hs tg ris rgs relt ρ)) sb s (ys++zs)
   (λs'=>∀Ku H,(∀a,(eG ks bB a∨a=D∨Wr a)∨s.heap.get? a=af→Ku a)→(∀g,G g∨s.gens[g]? =af→H g)→Mv Ku H s s'):=⟨_,rfl⟩
 refine codeAny_loop rfl Inv (λn s' hinv=>?_) xs.length (by rw[Gk];exact⟨Wr,xs,ys,zs,rfl,λZ h=>h,λZ h=>.inl h,hI,hD,cz,hx,λa e=>e,hf,rfl,λZ Z Z Z=>.refl _ _ _⟩);rw[Gk]at hinv;obtain⟨Wn,jr,B9,X3,hn,M9,pW,I1,D1,zG,x1,Gl,f1,e1,m1⟩:=hinv;have L1:=M8 Wn M9 pW;have Na:∀ {Ku:aY},(∀a,(eG ks bB a∨a=D∨Wr a)∨s.heap.get? a=af→Ku a)→∀a,Wn a→Ku a:=λh1 a h=>(pW a h).elim (λh=>h1 a (.inl (.inr (.inr h)))) λh=>h1 a (.inr h);show ar _ A ((compTurn (.ListComp elt gens scope pos) k I (.ref D) bB).onRaise (λx=>do noteFrame x bB;theTreesLotGoes x)) _ _ s';refine wpAny_noted (rE (XY hg hz) (aB (kI (aB ?_))));induction jr using bj with
 |nil=>
  obtain rfl:X3=[]:=(W.bp (f1:W.ret ([]:List Ev.D)=_)).symm;refine It.done s' _ _ zG λai mv=>bz ?_;have x2:Ext sb ai:=mv.ext x1 L1.wb L1.gb;have I2:=I1.xt (U0:=U0) B x2 mv (λa h=>.inl h) (λa h=>(L1.fa a (.inl h)).2) (λa h=>.inr h) (Gj Wn pW) (λa h h0=>absurd h (L1.dj a h0)) λa h=>(L1.fa a (.inl h)).1;have D2:=D1.xt (U0:=U0) mv (λa h=>.inl h) (λa h=>.inr h) (L1.fa D (.inr rfl)).1 (L1.fa D (.inr rfl)).2;replace e1:=(eg ..)▸e1;refine hR ai I2 (e1▸D2) x2 (λKu H h1 h2=>(m1 Ku H h1 h2).trans (mv.mono (Na h1) λg h=>h2 g (.inl h))) λa h=>?_;by_cases hw:Wn a
  ·exact(pW a hw).symm
  ·refine .inl (Gl a ?_);induction q:s'.heap.get? a with
   |none=>rfl
   |some o=>exact zS (mv.keep a o hw q▸h)
 |cons x jr=>
  refine cK (XZ f1) λa1 b1 g1 g2 e9=>?_;subst e9;refine oE (g1:(eU tg x ρ).bind _=_) λρ' hb g1=>wE g1 λb vo g1=>It.next x jr s' _ _ zG λv ai W' vp vr mv rv Ca=>?_
  have Nb:∀a,Wr a→W' a:=λa h=>vp a (M9 a h);have xv:∀a,W' a→Wr a∨s.heap.get? a=af:=λa h=>(vr a h).elim (pW a) λe=>.inr (Gl a e);have L2:=M8 W' Nb xv;have x2:Ext sb ai:=mv.ext x1 L1.wb L1.gb;have X4:UB U0 ai:=λa h=>by exact xE (I1.ub a (.inl h)) λo ho=>⟨o,mv.keep a o (L1.dj a h) ho⟩
  have I2:=I1.Gf (U0:=λa=>U0 a∨W' a) B x2 mv (λa h=>h.imp id (vp a)) (λa h=>h.elim (λh=>.inl (.inl h)) λh=>(vr a h).imp .inr id) (λa h=>.inr h) (Gj W' xv) (λa h=>h.elim (X4 a) (It.alive _ _ Ca a)) λa h=>(L1.fa a (.inl h)).1;have D2:=D1.Gf (U0:=λa=>U0 a∨W' a) mv (λa h=>h.imp id (vp a)) (λa h=>h.elim (λh=>.inl (.inl h)) λh=>(vr a h).imp .inr id) (λa h=>.inr h) (L1.fa D (.inr rfl)).1;have X5:∀a,ai.heap.get? a=af→s'.heap.get? a=af:=λa h=>mv.alive (λd hd=>.inl (It.alive _ _ Ca d (vp d hd))) h;refine aB (It.own _ _ _ _ _ _ Ca (aB ?_));refine XT hh hk I2 ht hb (rv _ (λa h=>h.elim (L2.uv a) .inr) λa h=>h.imp (λh=>I1.ub a (.inl h)) id) λav I3 m3=>?_;have fK:∀a,eG ks bB a→sb.heap.get? a=af:=Bn.X1;have x3:Ext sb av:=m3.ext x2 fK λZ h=>h.elim;have X6:∀ {aR:ay}{X7:aM},bJ K (λa=>U0 a∨W' a) bB hs X7 aR→∀a,eG ks bB a→∃o,aR.heap.get? a=aa o:=λI a h=>I.ub a (I.bu.eG h);have X8:∀a,av.heap.get? a=af→ai.heap.get? a=af:=λa h=>m3.alive (λd hd=>.inl (X6 I3 d hd)) h;have D3:=D2.Gg m3 (λa h=>.inl (L2.fa a (.inl (mE h))).2) λh=>Bn.M6 (mE h);have X9:St W' jr av:=It.frame _ _ _ _ _ Ca m3 (λa h=>⟨L2.fr a (.inl h),(L2.fa a (.inl (mE h))).1⟩) λZ h=>h.elim;refine aB (XW hk X2 I3 vo _ _ λaR x4=>?_);have rJ:St W' jr aR:=It.frame _ _ _ (λZ=>False) (λZ=>False) X9 x4.mv (λZ h=>h.elim) λZ h=>h.elim;have I4:=I3.ext x4;have D4:=D3.ext x4;have Yb:∀a,aR.heap.get? a=af→av.heap.get? a=af:=λa h=>(x4.mv (Ku:=λZ=>False) (G:=λZ=>False)).alive (λZ h=>h.elim) h;have B2:∀i∈j7 tg,get ρ i=af:=λi h=>cC i (A7 _ h);have mm:∀Ku H,(∀a,(eG ks bB a∨a=D∨Wr a)∨s.heap.get? a=af→Ku a)→(∀g,G g∨s.gens[g]? =af→H g)→Mv Ku H s aR:=λKu H h1 h2=>
   (m1 Ku H h1 h2).trans ((mv.mono (Na h1) λg h=>h2 g (.inl h)).trans ((m3.mono (λa h=>h1 a (.inl (.inl h))) λZ h=>h.elim).trans x4.mv))
  have Nc:∀ {cq:ay}{Cb:List Ev.D},bJ K (λa=>U0 a∨W' a) bB hs ρ cq→iW (λa=>U0 a∨W' a) D cq Cb→St W' jr cq→Ext sb cq→(∀a,cq.heap.get? a=af→s.heap.get? a=af)→Cb++b1=ys++zs→
    (∀Ku H,(∀a,(eG ks bB a∨a=D∨Wr a)∨s.heap.get? a=af→Ku a)→(∀g,G g∨s.gens[g]? =af→H g)→Mv Ku H s cq)→
    ∃m,m<n∧Inv m cq:=by
   intro cq Cb I5 D5 Cc x5 Gm e5 m5;exact⟨jr.length,by refine rS hn ?_;refine rE bT ?_;lia,by rw[Gk];exact⟨W',jr,Cb,b1,rfl,Nb,xv,I5,D5,Cc,x5,Gm,g2,e5,m5⟩⟩
  have Nd:B9.length+(a1++b1).length≤1000000:=rS bt (rE e1 (rE bt hlen))
  have news:∀a,aR.heap.get? a=af→s.heap.get? a=af:=λa h=>Gl a (X5 a (X8 a (Yb a h)));induction b with
  |false=>obtain rfl:a1=[]:=(W.bp (g1:W.ret ([]:List Ev.D)=_)).symm;exact rE (if_neg f7) (bz ⟨rfl,Nc (I4.sub (M3 hb B2)) D4 rJ (x3.trans x4) news e1 mm⟩)
  |true=>
   refine rE (if_pos rfl) ?_;have Nf:=List.nodup_append.mp kY;refine tB (λa=>U0 a∨W' a) ρ' aR B9 a1 _ _ _ (Gj W' xv) (B.eU hb) Nf.2.1 (λi hi=>?_) I4 D4 (x3.trans x4) g1 (by replace Nd:=bt▸Nd;lia) λcq I5 D5 x5 m5 Gm=>?_
   ·exact rE (M1 hb λh=>Nf.2.2 i h i hi rfl) (cC i (yI _ hi))
   ·refine bz ⟨rfl,Nc (I5.sub (M3 hb B2)) D5 ?_ x5 (λa h=>news a (Gm a h)) (rE (d5 ..) e1) λKu H h1 h2=>?_⟩
    ·refine It.frame _ _ _ (λa=>(eG ks bB a∨a=D)∨aR.heap.get? a=af) (λg=>aR.gens[g]? =af) rJ (m5 _ _ (λZ h=>h) λZ h=>h) (λa h=>?_) λg h hg=>?_
     ·rcases h with h|h
      ·exact⟨L2.fr a h,(L2.fa a (h.imp mE id)).1⟩
      ·refine⟨Gi a (news a h),λhw=>?_⟩;exact xE (It.alive _ _ rJ a hw) λo ho=>zS (ho▸h)
     ·exact xE (It.B4 _ _ rJ g hg) λo ho=>zS (ho▸h)
    ·refine(mm Ku H h1 h2).trans (m5 Ku H (λa h=>?_) λg h=>?_)
     ·rcases h with h|h
      ·exact h1 a (.inl (h.elim .inl λh=>.inr (.inl h)))
      ·exact h1 a (.inr (news a h))
     ·refine h2 g (.inr ?_);induction q:s.gens[g]? with
      |none=>rfl
      |some o=>
       by_cases hg:G g
       ·exact xE (It.B4 _ _ rJ g hg) λo' gA=>zS (gA▸h)
       ·have:=(mm (λZ=>True) (λg=>G g∨s.gens[g]? =af) (λZ Z=>trivial) (λZ h=>h)).gens g o (λh=>h.elim hg λh=>by replace h:=q▸h;exact zS h) q;exact zS (this▸h)
end
section
variable{K:Kt}
theorem Yc(hh:A.handled=af){relt:RE}{bB:bF}(hk:dg ks bB){D:aE}(Bn:Gh ks bB D sb)
  (he:bg K C A ks elt relt):∀ {gs:List sD}{rgs:kJ},rG K C A ks gs rgs→∀k,gens.drop (k+1)=gs→
   BodyOk K A ks bB hs D sb Ub (xu elt gens scope pos k (.ref D) bB) (kP rgs) (λρ=>w5 K.tk C hs rgs (λρ'=>ev K.tk C hs relt ρ') ρ):=by
 intro gs rgs h;induction h with
 |nil=>
  intro k hg;have rH:gens[k+1]? =af:=by refine rS (Ux) ?_;refine rE hg ?_;rfl
  intro U ρ s ys zs fin Q E nP B kY cC I Da x ao hlen hQ;refine wE (ao:W.bind (ev K.tk C hs relt ρ) (λx=>W.ret [x])=_) λd hd ao=>?_;clear gs;obtain rfl:=W.bp ao;unfold xu;refine rE rH ?_;dsimp only;refine aB (aB ((he U bB hs ρ s d hk I hd).1 _ _ λv ai aq rv=>aB ?_));refine mr (Da.ext aq) λGn vs n e1 e2=>?_;have eY:vs.size≤1000000:=by have:=e2.length;replace this:=eL▸this;simp only[bT,m9]at hlen;lia
  refine B7 e1 (aF eY (by refine rE lu ?_;lia)) λh' n' f1 f2=>bz ?_;have mv:Mv (λa=>a=D) (λZ=>False) ai {ai with heap:=h'}:=⟨λa o n e=>(f2.2 a n).trans e,λZ Z Z e=>e,λe=>e,rfl⟩;have x2:Ext sb {ai with heap:=h'}:=mv.ext (x.trans aq) (λa h=>h▸Bn.X0) λZ h=>h.elim;have al:∀a,a=D→∃o,h'.get? a=aa o:=λa h=>⟨_,h▸f1⟩;have I2:=(I.ext aq).Gg B x2 mv (λa h=>h▸Gn) nP al (λa h e=>Bn.M6 (e▸h));refine hQ _ I2 ⟨Gn,_,n',f1,?_⟩ x2 (λKu H h1 h2=>aq.mv.trans (mv.mono (λa h=>h1 a (.inl (.inr h))) λZ h=>h.elim)) λa h=>?_
  ·refine rE KG ?_;have keep:∀a o,¬U a→ai.heap.get? a=aa o→h'.get? a=aa o:=λa o n e=>mv.keep a o (λq=>n (q▸Gn)) e;exact(e2.mono keep λZ Z Z n=>n).append (.one (rv.mono keep λZ Z Z n=>n))
  ·have h1:=mv.alive (λd hd=>.inl (al d hd)) h;exact(aq.mv (Ku:=λZ=>False) (G:=λZ=>False)).alive (λZ h=>h.elim) h1
 | @cons t' zE M5 mG tg ri ris rgs ht hI hl hr ih=>
  intro k hg;have rH:gens[k+1]? =aa ⟨t',zE,M5,0⟩:=by refine rS (Ux) ?_;refine rE hg ?_;rfl
  have Gp:gens.drop (k+1+1)=mG:=by refine rS Eg (rE hg ?_);rfl
  have ih:=ih (k+1) Gp;have hz:∀g,gens[k+1+1]? =aa g→g.is_async=0:=by
   intro g e;replace e:=Gp▸je (Ux)▸e;clear Gp hg;cases hr with
   |nil=>exact zN e
   |cons=>replace e:=iJ e;subst e;rfl
  intro U ρ s ys zs fin Q E nP B kY cC I Da x ao hlen hQ;refine wE (ao:W.bind (fO K.tk C hs ri ρ) (λxs=>lA (rI K C hs tg ris rgs relt ρ) xs)=_) λxs mC ao=>?_;unfold xu;refine rE rH ?_;dsimp only;refine aB (hI.2 U bB hs ρ s xs hk I mC _ _ λv ai aq hw=>aB (kI (aB (ou (hI.1 _ _) (aB (jg (hw ai (.refl _) _ _ λIv Wr G St av aC fw fg It st=>?_)))))));have pX:Ext s av:=aq.trans aC;have Ng:∀a,Wr a→sb.heap.get? a=af:=λa h=>by
   induction q:sb.heap.get? a with
   |none=>rfl
   |some o=>have:=x.keep a o q;exact zN (fw a h▸this)
  have Yd:∀g,G g→sb.gens[g]? =af:=λg h=>by
   induction q:sb.gens[g]? with
   |none=>rfl
   |some o=>have:=x.gens g o q;exact zN (fg g h▸this)
  have Gq:∀a,dm bB a∨a=D→U a:=λa h=>h.elim (λh=>I.bu.dm h) λh=>h▸Da.1;have dj:∀a,U a→¬Wr a:=λa h hw=>by exact xE (I.ub a h) λo ho=>zN (fw a hw▸ho)
  have L:B8 (λa=>U a∨ai.heap.get? a=af) Wr G U ks bB D sb:=
   ⟨λa h=>.inl (Gq a (h.imp mE id)),λa h=>⟨dj a (Gq a h),Gq a h⟩,dj,λa h=>.inl (.inl h),Ng,Yd⟩
  have I2:bJ K (λa=>U a∨Wr a) bB hs ρ av:=I.grow pX (λa h=>.inl h) (λa h=>h.imp id (fw a)) λa h=>h.elim (λh=>(I.ub.ext pX) a h) (It.alive _ _ st a);have D2:iW (λa=>U a∨Wr a) D av ys:=by refine mr Da ?_;clear Da;intro h vs n e1 e2;exact⟨.inl h,vs,n,pX.keep _ _ e1,e2.mono (λa o Z e=>pX.keep a o e) λa o e n k=>k.elim n λk=>by replace e:=fw a k▸e;exact zN e⟩
  have go:∀R:wG→ay→Prop,(∀s',(∀f:ji,R (.ok f) s'↔ar (aw prog K.w) A fin Q E s'))→uF (aw prog K.w) A (.compLoop (.ListComp elt gens scope pos) (k+1) Iv (.ref D) bB) R av:=by
   intro R hR;refine M7 hh (Ub:=Ub) hk Bn rH hz ht hl ih It L (λa h=>h.elim (nP a) λh=>.inr (Ng a h)) B kY cC I2 D2 st (x.trans pX) (λa h=>.inr ?_) ao hlen λs' I3 D3 x3 m3 Ye=>(hR s' _).mpr (hQ s' I3 D3 x3 (λKu H h1 h2=>?_) λa h=>?_)
   ·induction q:ai.heap.get? a with
    |none=>rfl
    |some o=>have:=aC.keep a o q;exact zN (h▸this)
   ·refine pX.mv.trans (m3 Ku H (λa h=>h1 a ?_) λg h=>h2 g ?_)
    ·rcases h with(h|h|h)|h
     ·exact .inl (.inl h)
     ·exact .inl (.inr h)
     ·exact .inr (fw a h)
     ·refine .inr ?_;induction q:s.heap.get? a with
      |none=>rfl
      |some o=>have:=pX.keep a o q;exact zN (h▸this)
    ·rcases h with h|h
     ·exact fg g h
     ·induction q:s.gens[g]? with
      |none=>rfl
      |some o=>have:=pX.gens g o q;exact zN (h▸this)
   ·rcases Ye a h with h|h
    ·induction q:s.heap.get? a with
     |none=>rfl
     |some o=>have:=pX.keep a o q;exact zN (h▸this)
    ·exact fw a h
  refine aB (wpAny_runOwn ?_);show uF _ A _ _ av;refine M4 rH rfl (go _ λs' f=>A8) (It.self _ _ _ _ st (go _ λs' f=>A8))
end
theorem vt(x:ah):∀l:cT,aV x l=l.lookup x:=by
 intro L0;induction L0 with
 |nil=>exact rfl
 |cons cx r ih=>
  obtain⟨y,k⟩:=cx;refine rE sO (rE (Me ..) (rS (Fc ..) ?_));induction h:x == y with
  |true=>refine rE (pB h) (rE (beq_self_eq_true ..) ?_);rfl
  |false=>
   have:(y == x)=ag:=by rw[beq_eq_false_iff_ne]at h ⊢;exact Es h
   exact rE this ih
theorem Yg{k:eC}{l:cT}(h:aV x l=aa k):(x,k)∈l:=mem_of_lookup (rS (vt ..) h)
theorem tC{k:eC}:∀ {l:cT},distinct l→(x,k)∈l→aV x l=aa k:=by
 intro l;induction l with
 |nil=>exact λZ h=>nomatch h
 |cons yk r ih=>
  obtain⟨y,k'⟩:=yk;intro hd h;replace hd:=(WL ..)▸hd;have hy:aV y r=af:=by
   induction q:aV y r with
   |none=>rfl
   |some _=>replace hd:=q▸hd;exact zF hd
  have hd:distinct r:=by replace hd:=hy▸hd;exact hd
  refine rE (Me ..) ?_;rcases bE.mp h with e|h
  ·refine iP e λe1 e2=>?_;clear e;subst e1;subst e2;refine rE (sEq_iff.mpr rfl) ?_;rfl
  ·induction hs:sEq y x with
   |true=>replace hy:=eE hs▸hy;exact zS (ih hd h▸hy)
   |false=>exact ih hd h
noncomputable def gD(env:bF):List (ah × eC)→List (ah × aE)→List (ah × aE)
 | [],acc=>acc
 | (n,k)::r,acc=>if k == fM then gD env r ((n,(env.cells.lookup n).getD 0)::acc)else gD env r acc
theorem Cd(env:bF)(x:List (ah × aE))(n:ah)(k:eC)(r:cT):gD env ((n,k)::r) x=if(k == fM) then gD env r ((n,Option.getD (wM n (bF.cells env)) 0)::x)else gD env r x:=rfl
theorem Yh(h:∀n,(n,fM)∈scope.names→∃c,env.cells.lookup n=aa c):closureFor scope env=pure (gD env scope.names []):=by
 have go:∀ (l:cT) (acc:List (ah × aE)),(∀n,(n,fM)∈l→∃c,env.cells.lookup n=aa c)→
   (forIn l acc λx (cs:List (ah × aE))=>match x with
    | (name,kind)=>if(kind == fM) then(do let a ← cellOf env name;pure (sN ((name,a)::cs)))else pure (sN cs):cN (List (ah × aE)))=pure (gD env l acc):=by
  intro l;induction l with
  |nil=>intro acc _;rfl
  |cons x r ih=>
   intro acc h;obtain⟨n,k⟩:=x;refine rE (KC ..) (rE (Cd ..) ?_);induction hk:(k == fM)with
   |true=>have j5:k=fM:=pB hk;subst j5;obtain⟨c,hc⟩:=h n bG;dsimp only;refine rE (if_pos (by decide:(fM == fM))) (rE (if_pos rfl) ?_);unfold cellOf;exact rE hc (ih _ λm hm=>h m (cf _ hm))
   |false=>dsimp only;refine rE hk (rE (if_neg f7) (rE (if_neg f7) ?_));exact ih _ λm hm=>h m (cf _ hm)
 have:=go scope.names [] h;unfold closureFor;exact(congrArg (fun(m:cN (List (ah × aE)))=>m >>= λs=>pure s) this).trans rfl
set_option tactic.hygienic true in
theorem Yi{c:aE}:∀ {l:cT}{acc:List (ah × aE)},(∀n,(n,fM)∈l→∃c,env.cells.lookup n=aa c)→(x,c)∈gD env l acc→(x,c)∈acc∨((x,fM)∈l∧env.cells.lookup x=aa c):=by
 intro L0;induction L0 with
 |nil=>intro acc _ h;exact .inl h
 |cons cx r ih=>
  obtain⟨n,k⟩:=cx;intro acc hl h;replace h:=(Cd ..)▸h;split at h
  ·rename_i hk;have j5:k=fM:=pB hk;subst j5;rcases ih (λm hm=>hl m (cf _ hm)) h with h| ⟨h,h'⟩
   ·rcases bE.mp h with e|h
    ·obtain⟨c',oP⟩:=hl n bG;replace e:=oP▸e;injection e with e1 e2
     subst e1;exact .inr ⟨bG,by refine rE oP ?_;refine rE e2 ?_;rfl⟩
    ·exact .inl h
   ·exact .inr ⟨cf _ h,h'⟩
  ·rcases ih (λm hm=>hl m (cf _ hm)) h with h| ⟨h,h'⟩
   ·exact .inl h
   ·exact .inr ⟨cf _ h,h'⟩
theorem Yj{p:ah × aE}:∀ {l:cT}{acc:List (ah × aE)},p∈acc→p∈gD env l acc:=by
 intro L0;induction L0 with
 |nil=>intro _ h;exact h
 |cons cx r ih=>
  obtain⟨n,k⟩:=cx;intro acc h;refine rE (Cd ..) ?_;split
  ·exact ih (cf _ h)
  ·exact ih h
theorem Yk:∀ {l:cT}{acc:List (ah × aE)},(x,fM)∈l→∃c,(x,c)∈gD env l acc:=by
 intro L0;induction L0 with
 |nil=>exact nofun
 |cons cx r ih=>
  obtain⟨n,k⟩:=cx;intro acc h;refine rE (Cd ..) ?_;rcases bE.mp h with e|h
  ·injection e with e1 e2
   subst e1;subst e2;exact rE (if_pos (by decide:(fM == fM))) ⟨_,Yj bG⟩
  ·split<;>exact ih h
theorem Ce:∀ (l:cT) (n:Nat) (acc:List (ah × aE)),jC n l acc=jC n l []++acc:=by
 intro L0;induction L0 with
 |nil=>intro _ _;exact rfl
 |cons cx r ih=>
  obtain⟨x,k⟩:=cx;intro n acc;unfold jC;split
  ·refine rE (ih (n+1) ((x,n)::acc)) (rE (ih (n+1) [(x,n)]) (rE (d5 ..) ?_));rfl
  ·exact ih n acc
set_option tactic.hygienic true in
theorem Yl{c:aE}:∀ {l:cT}{n:Nat},(x,c)∈jC n l []→(x,oy)∈l:=by
 intro L0;induction L0 with
 |nil=>exact nofun
 |cons cx r ih=>
  obtain⟨y,k⟩:=cx;intro n h;unfold jC at h;split at h
  ·rename_i hk;have j5:k=oy:=pB hk;subst j5;replace h:=(Ce ..)▸h;rcases gp.mp h with h|h
   ·exact cf _ (ih h)
   ·simp only[bE,sM,or_false]at h;refine iP h λe1 e2=>?_;clear h;subst e1;subst e2;exact bG
  ·exact cf _ (ih h)
theorem Ym:∀ {l:cT}{n:Nat},(x,oy)∈l→∃c,(x,c)∈jC n l []:=by
 intro L0;induction L0 with
 |nil=>exact nofun
 |cons cx r ih=>
  obtain⟨y,k⟩:=cx;intro n h;unfold jC;rcases bE.mp h with e|h
  ·injection e with e1 e2
   subst e1;subst e2;refine rE (if_pos (by decide:(oy == oy))) (rE (Ce ..) ?_);exact⟨n,yI _ bG⟩
  ·split
   ·refine rE (Ce ..) ?_;obtain⟨c,hc⟩:=ih h;exact⟨c,A7 _ hc⟩
   ·exact ih h
theorem Nh{c:aE}:∀ {l:List (ah × aE)},(x,c)∈l→∃c',l.lookup x=aa c':=by
 intro L0;induction L0 with
 |nil=>exact nofun
 |cons cx r ih=>
  obtain⟨y,c'⟩:=cx;intro h;refine rE sO ?_;induction hx:x == y with
  |true=>exact⟨_,rfl⟩
  |false=>
   rcases bE.mp h with e|h
   ·refine iP e λe1 e2=>?_;clear e;subst e1;subst e2;rw[beq_self_eq_true]at hx;exact zT hx
   ·exact ih h
section
variable{M:sP}
theorem Yn{cl:List (ah × aE)}{Q:bF→ay→Prop}
  (hQ:Q (newEnv scope s.heap.objs.size env.globals (jC (s.heap.objs.size+1) scope.names cl) env.qual af .none (aa env) jB)
   {s with heap:=pushCells (s.heap.push {cls:=.type "dict",data:=.dict #[]}) scope.names}):
  ar M A (newFunctionEnv scope env.globals cl [] env.qual af .none (aa env)) Q E s:=by
 simp only[newFunctionEnv,Option.isSome_some,if_true];refine aB (wpAny_alloc ?_);refine aB (wpAny_layCells _ (λname kind cells=>by cases Yo:kind == oy<;>simp[Yo]) _ _ _ _ ?_);refine rE (show({s with heap:=s.heap.push {cls:=.type "dict",data:=.dict #[]}}:ay).heap.objs.size=s.heap.objs.size+1 from AZ ..) ?_;exact aB (bz (bz hQ))
end
theorem any_beq:∀ {l:ax},l.any (az i)↔i∈l:=by
 intro L0;induction L0 with
 |nil=>simp
 |cons j r ih=>
  refine rE Ez (rE (Uy ..) ?_);rewrite[ih];rw[bE];constructor
  ·rintro (h|h)
   ·exact .inl (fY h)
   ·exact .inr h
  ·rintro (h|h)
   ·exact .inl (rE h (nc j))
   ·exact .inr h
theorem Ni:∀ {ρ:aM},get (rem is ρ) i=aa sl→get ρ i=aa sl∧i∉is:=by
 intro L0;induction L0 with
 |nil=>intro h;exact zN h
 |cons cx r ih=>
  obtain⟨j,t⟩:=cx;intro h;replace h:=(EV ..)▸h;induction hj:is.any (az j)with
  |true=>
   replace h:=hj▸h;refine xA (ih h) λh1 h2=>⟨?_,h2⟩;refine rE (pG ..) ?_;have:az j i=ag:=by
    induction q:az j i with
    |false=>rfl
    |true=>exact absurd (any_beq.mp hj) (fY q▸h2)
   exact rE this h1
  |false=>
   replace h:=hj▸h;have h:get ((j,t)::rem is r) i=aa sl:=h;rw[pG]at h ⊢;induction q:az j i with
   |true=>replace h:=q▸h;refine⟨h,λhm=>?_⟩;replace hm:=je (fY q)▸hm;exact zT (any_beq.mpr hm▸hj)
   |false=>replace h:=q▸h;exact ih h
theorem Yp(ρ:aM)(h:i∈is):get (rem is ρ) i=af:=by
 induction q:get (rem is ρ) i with
 |none=>rfl
 |some sl=>exact absurd h (Ni q).2
theorem Yq{names:List ah}{k:eC}(hi:aZ x names=aa i)(hk:dz (aa k)):∀ {l:cT},(x,k)∈l→i∈fB names l:=by
 intro L0;induction L0 with
 |nil=>exact nofun
 |cons cx r ih=>
  obtain⟨y,k'⟩:=cx;intro h;refine rE (WM ..) ?_;rcases bE.mp h with e|h
  ·refine iP e λe1 e2=>?_;clear e;subst e1;subst e2;exact rE hk (rE hi bG)
  ·have:=ih h;split
   ·exact cf _ this
   ·exact this
set_option tactic.hygienic true in
theorem Yr{out:cT}:∀ {l:cT},freeOk out l→(x,fM)∈l→aV x out=aa .cell∨aV x out=aa .free:=by
 intro l;induction l with
 |nil=>exact λ_ h=>nomatch h
 |cons yk r ih=>
  obtain⟨y,k⟩:=yk;intro h hm;unfold freeOk at h;rcases bE.mp hm with e|Nj
  ·clear hm;refine iP e λe1 e2=>?_;clear e;subst e1;subst e2;dsimp only at h;split at h
   ·rename_i q;exact .inl q
   ·rename_i q;exact .inr q
   ·exact zF h
  ·induction k<;>dsimp only at h<;>first
    |exact ih h Nj
    |exact zF h
    | (split at h<;>first|exact ih h Nj|exact zF h)
theorem Ys:∀ {l:cT},(l.map fun(n,k)=>if(k == fM&&env.scope.kind == .function&&env.kindOf n == aa .cell)then(n,oy)else(n,k)).lookup x=
  (l.lookup x).map λk=>if(k == fM&&env.scope.kind == .function&&env.kindOf x == aa .cell)then oy else k:=by
 intro l;induction l with
 |nil=>rfl
 |cons nk r ih=>
  obtain⟨n,k⟩:=nk;refine rE iS (rE (sO (k:=n)) ?_);dsimp only;induction hx:x == n with
  |true=>
   have:=pB hx;subst this;by_cases hc:(k == fM&&env.scope.kind == .function&&env.kindOf x == aa .cell)
   ·exact rE (if_pos hc) (rE sO (rE (beq_self_eq_true ..) (rE (KH ..) (rE (if_pos hc) rfl))))
   ·exact rE (if_neg hc) (rE sO (rE (beq_self_eq_true ..) (rE (KH ..) (rE (if_neg hc) rfl))))
  |false=>
   refine rS ih ?_;by_cases hc:(k == fM&&env.scope.kind == .function&&env.kindOf n == aa .cell)
   ·exact rE (if_pos hc) (rE sO (rE hx rfl))
   ·exact rE (if_neg hc) (rE sO (rE hx rfl))
section
variable{K:Kt}
theorem UB.elim(h:UB U s)(u:U a)(n:s.heap.get? a=af):False:=xE (h a u) λo e=>zN (n▸e)
theorem Gr(hh:A.handled=af){t:au}{relt:RE}{ri:RI}{ris:bf}{rgs:kJ}
  (fb:scope.kind=.function) (kZ:distinct scope.names) (tE:freeOk ks scope.names) (hk:dg ks env) (I:bJ K U env hs ρ s)
  (ht:jm K.X scope.names t=aa tg) (Gs:∀x,uE it env x=pure x) (Gu:∀xs,fO K.tk C hs ri ρ=aa (xs,ae)→zB K.w A U s (eval it env) xs) (hl:cZ K C A scope.names ifs ris) (hr:rG K C A scope.names gs rgs) (he:bg K C A scope.names elt relt)
  (kY:(j7 tg++kP rgs).Nodup) (iD:∀i∈j7 tg++kP rgs,i∈fB K.X.names scope.names)
  (ao:ev K.tk C hs (.comp (fB K.X.names scope.names) tg ri ris rgs relt) ρ=aa (d,ae)) {use:Option (ak→cN Unit)}{Q E:aW}
  (hQ:∀s' D Cn,Ext s s'→s.heap.get? Cn=af→s.heap.get? D=af→(∃m,s'.heap.Ns Cn m)→Rd (λa=>U a∨a=Cn) s'.heap (.ref D) d→compPost (aw prog K.w) A E use Q (.ref D) Cn (.ok .next) s'):
  ar (aw prog K.w) A (A9 (.ListComp elt (⟨t,it,ifs,0⟩::gs) scope pos) scope env p (newList []) ag (eval it env) use) Q E s:=by
 refine wE (ao:W.bind (fO K.tk C hs ri ρ) (λxs=>W.bind (lA (rI K C hs tg ris rgs relt (rem (fB K.X.names scope.names) ρ)) xs) λxs=>W.need (dQ xs) (aX xs.length 1000000))=_) λxs mC ao=>wE ao λzs Gw ao=>xA (W.de ao) λe9 hlen=>?_;subst e9;have hlen:=bc hlen;have Nk:∀n,(n,fM)∈scope.names→env.kindOf n=aa .cell∨env.kindOf n=aa .free:=λn hn=>by
  rcases Yr tE hn with h|h
  ·rcases hk n _ h with e| ⟨e,_⟩
   ·exact .inl e
   ·cases e
  ·rcases hk n _ h with e| ⟨_,e⟩
   ·exact .inr e
   ·exact .inl e
 have Nl:∀n,(n,fM)∈scope.names→∃c,env.cells.lookup n=aa c:=λn hn=>I.bu.has n (Nk n hn);refine wpAny_comprehension_free (g:=⟨t,it,ifs,0⟩) (gs:=gs) rfl Gs (Yh Nl) fb (λx hx Nm=>?_) ?_
 ·obtain⟨n,k⟩:=x;dsimp only at Nm;subst Nm;exact rS (vt ..) (tC kZ hx)
 refine Gu xs mC _ _ λv ai aq hw=>hw ai (.refl _) _ _ λIv Wr G St av aC fw fg It st=>wH ?_ (eo _);refine Yn ?_;dsimp only;generalize hD:av.heap.objs.size=D;generalize Gx:av.heap.push {cls:=.type "list",data:=.seq ([]:List ak).toArray}=H3;generalize Cf:H3.objs.size=Cn;have zH:Cn=D+1:=rS Cf (rS Gx (rE (AZ ..) (rE hD rfl)))
 generalize Gy:pushCells (H3.push {cls:=.type "dict",data:=.dict #[]}) scope.names=H4;have Nn:∀a o,H3.get? a=aa o→H4.get? a=aa o:=λa o e=>Gy▸pushCells_keeps _ _ _ _ (jV _ e);have Np:∀a o,av.heap.get? a=aa o→H4.get? a=aa o:=λa o e=>Nn a o (Gx▸jV _ e);have Cg:Ext av {av with heap:=H4}:=.heap (k:=av.toks) Np;have x4:Ext s {av with heap:=H4}:=(aq.trans aC).trans Cg;have Nq:H4.get? D=aa (cy #[] 0):=Nn _ _ (rS Gx (rS hD (eT _ rfl)));have Nr:H4.Ns Cn λZ=>af:=by refine rS Gy (rS Cf ?_);exact(yz.new H3 (.type "dict")).keeps (pushCells_keeps _ _)
 have ok:CellsOk H4 (Cn+1) (jC (Cn+1) scope.names []):=by have:=cellsFrom_ok scope.names (H3.push {cls:=.type "dict",data:=.dict #[]}) (Cn+1) [] ⟨λZ Z hm=>(nomatch hm),ahG.nil⟩ (rE (AZ ..) (rE Cf (bZ _)));replace this:=Gy▸Cf▸(AZ ..)▸this;exact this
 have old:∀a o,s.heap.get? a=aa o→a<D:=λa o e=>by refine rS hD ?_;exact jA ((aq.trans aC).keep _ _ e)
 have freshD:s.heap.get? D=af:=by
  induction q:s.heap.get? D with
  |none=>rfl
  |some o=>exact absurd (old _ o q) (qE _)
 have Gz:∀a,D≤a→s.heap.get? a=af:=λa h=>by
  induction q:s.heap.get? a with
  |none=>rfl
  |some o=>exact absurd (old _ o q) (pz.mpr h)
 have Yt:s.heap.get? Cn=af:=Gz _ (rE zH (wN _));have Nt:∀a,D≤a→av.heap.get? a=af:=λa h=>by
  induction q:av.heap.get? a with
  |none=>rfl
  |some o=>have:=jA q;replace this:=hD▸this;exact absurd this (pz.mpr h)
 generalize GA:jC (Cn+1) scope.names (gD env scope.names [])=cs;have GB:cs=jC (Cn+1) scope.names []++gD env scope.names []:=rS GA (rE (Ce ..) rfl)
 have lk:∀x c,cs.lookup x=aa c→((x,oy)∈scope.names∧(x,c)∈jC (Cn+1) scope.names [])∨((x,fM)∈scope.names∧env.cells.lookup x=aa c):=λx c h=>by
  have hm:=mem_of_lookup h;replace hm:=GB▸hm;rcases gp.mp hm with hm|hm
  ·exact .inl ⟨Yl hm,hm⟩
  ·rcases Yi Nl hm with h|h
   ·cases h
   ·exact .inr h
 have Yu:∀x,(x,oy)∈scope.names→∃c,cs.lookup x=aa c:=λx h=>by obtain⟨c,hc⟩:=Ym (n:=Cn+1) h;exact Nh (c:=c) (rE GB (A7 _ hc))
 have GC:∀x,(x,fM)∈scope.names→∃c,cs.lookup x=aa c∧env.cells.lookup x=aa c:=λx h=>by
  obtain⟨c,hc⟩:=Yk (env:=env) (acc:=[]) h;obtain⟨c',oP⟩:=Nh (x:=x) (c:=c) (l:=cs) (rE GB (yI _ hc));rcases lk x c' oP with⟨h',_⟩| ⟨_,h'⟩
  ·have e1:=tC kZ h;replace e1:=tC kZ h'▸e1;cases e1
  ·exact⟨c',oP,h'⟩
 have pX:Ext s av:=aq.trans aC;generalize xw:({newEnv scope Cn env.globals cs env.qual af .none (aa env) jB with scope:=relabel scope env}:bF)=bB;show uF _ A (.compStart _ 0 Iv (.ref D) bB) (compPost _ A E use Q (.ref D) Cn) {av with heap:=H4};have c1:bB.locals=Cn:=by refine rS xw ?_;rfl
 have c2:bB.cells=cs:=by refine rS xw ?_;rfl
 have c3:bB.globals=gn:=rS xw I.gl
 have c4:bB.builtins=jB:=rS xw I.bi
 have c5:bB.scope.kind=.function:=rS xw fb
 have c6:∀x,bB.kindOf x=(aV x scope.names).map λk=>if(k == fM&&env.scope.kind == .function&&env.kindOf x == aa .cell)then oy else k:=λx=>by exact rS xw (rE (vt ..) Ys)
 have tF:dg scope.names bB:=λx k h=>by
  refine rE (c6 ..) (rE h (rE (KH ..) ?_));by_cases hc:(k == fM&&env.scope.kind == .function&&env.kindOf x == aa .cell)
  ·refine rE (if_pos hc) ?_;replace hc:=(jW ..)▸(jW ..)▸hc;exact .inr ⟨pB hc.1.1,rfl⟩
  ·exact rE (if_neg hc) (.inl rfl)
 have Nu:∀x k',bB.kindOf x=aa k'→∃k,(x,k)∈scope.names∧(k'=k∨(k=.free∧k'=.cell)):=λx k' h=>by
  replace h:=(c6 ..)▸h;induction q:aV x scope.names with
  |none=>exact zN (q▸h)
  |some k=>
   replace h:=(KH ..)▸q▸h;refine⟨k,Yg q,?_⟩;by_cases hc:(k == fM&&env.scope.kind == .function&&env.kindOf x == aa .cell)
   ·replace h:=if_pos hc▸h;replace hc:=(jW ..)▸(jW ..)▸hc;replace h:=iJ h;subst h;exact .inr ⟨pB hc.1.1,rfl⟩
   ·replace h:=iJ (if_neg hc▸h);subst h;exact .inl rfl
 have one:∀ {x k k'},(x,k)∈scope.names→(x,k')∈scope.names→k=k':=λh h'=>by have e:=tC kZ h;replace e:=iJ (tC kZ h'▸e);subst e;rfl
 have own:∀x a,dz (aV x scope.names)→cs.lookup x=aa a→(x,a)∈jC (Cn+1) scope.names []:=λx a h1 h2=>by
  rcases lk x a h2 with⟨_,h⟩| ⟨h,_⟩
  ·exact h
  ·replace h1:=tC kZ h▸h1;exact zF h1
 have vw:∀a,eG scope.names bB a→D<a:=λa h=>by
  rcases h with h| ⟨x,h1,h2⟩
  ·exact rE h (rE c1 (rE zH (Ee _)))
  ·replace h2:=c2▸h2;have:=(ok.empty x a (own x a h1 h2)).2;replace this:=zH▸this;exact hZ (yw (Ee D)) this
 have Nv:∀a,dm bB a→eG scope.names bB a∨(U a∧∃o,s.heap.get? a=aa o):=λa h=>by
  rcases h with h| ⟨x,h⟩
  ·exact .inl (.inl h)
  ·rcases lk x a (c2▸h)with⟨h1,h2⟩| ⟨h1,h2⟩
   ·exact .inl (.inr ⟨x,by refine rE (tC kZ h1) ?_;rfl,h⟩)
   ·exact mr (I.bu.fQ x a h2) λu v o ho Z=>.inr ⟨u,o,ho⟩
 have GD:∀a,((U a∨a=D∨eG scope.names bB a)∨Wr a)→U a∨s.heap.get? a=af:=λa h=>by
  rcases h with(h|h|h)|h
  ·exact .inl h
  ·exact .inr (h▸freshD)
  ·exact .inr (Gz a (d4 (vw a h)))
  ·exact .inr (fw a h)
 have Nw:∀s',Ext s s'→∀V:aY,(∀a,V a→U a∨s.heap.get? a=af)→∀x i sl,aZ x K.X.names=aa i→get (rem (fB K.X.names scope.names) ρ) i=aa sl→d8 (bB.kindOf x)→
   ∃v,fP bB s'.heap x v∧j8 K V s'.heap hs v sl:=by
  intro s' jr V hV x i sl hi hg ez;refine xA (Ni hg) λhg hn=>?_;induction q:bB.kindOf x with
  |none=>replace ez:=q▸ez;exact zF ez
  |some k'=>
   refine aD (Nu x k' q) λk hm Ci=>?_;have Yv:k=.free:=by
    have lJ:dz (aa k)≠ae:=λh=>hn (Yq hi h hm);rcases Ci with e| ⟨e,_⟩
    ·subst e;replace ez:=q▸ez;induction k'<;>first|rfl| (exact absurd rfl lJ)|exact zF ez
    ·exact e
   subst Yv;have Nx:=Nk x hm;obtain⟨v,hv,lG⟩:=I.vars x i sl hi hg (by rcases Nx with e|e<;>refine rE e ?_<;>rfl);refine aD (GC x hm) λc Yw Yx=>?_;refine⟨v,.inr ⟨?_,c,c2▸Yw,?_⟩,lG.mono jr.keep λa o e n k=>(hV a k).elim n λq=>by replace q:=e▸q;exact zS q⟩
   ·rcases Ci with e| ⟨_,e⟩
    ·exact rE q (rE e (.inr rfl))
    ·exact rE q (rE e (.inl rfl))
   ·rcases hv with⟨k1,_⟩| ⟨_,c',e1,e2⟩
    ·rcases Nx with e|e<;>(replace e:=k1▸e;cases e)
    ·replace e1:=iJ (Yx▸e1);subst e1;exact e2.keeps jr.keep
 have I4:bJ K (λa=>(U a∨a=D∨eG scope.names bB a)∨Wr a) bB hs (rem (fB K.X.names scope.names) ρ) {av with heap:=H4}:=by
  refine⟨I.bH.mono (λa o Z e=>x4.keep a o e) (λa o e n k=>(GD a k).elim n λq=>(zS (e▸q))),λa h=>?_,c5,c3,c4,⟨⟨.inl (.inr (.inr (.inl rfl))),_,c1▸Nr⟩,λx c h=>?_,λx y c h1 h2=>?_,λx h=>?_⟩,Nw _ x4 _ GD⟩
  ·rcases h with(h|h|h| ⟨x,h1,h2⟩)|h
   ·exact(I.ub.ext x4) a h
   ·exact⟨_,h▸Nq⟩
   ·exact fu Nr λo Z Z ho Z=>⟨o,by refine rE h ?_;refine rE c1 ?_;exact ho⟩
   ·exact aD ((ok.empty x a (own x a h1 (c2▸h2))).1) λo ho Z=>⟨o,ho⟩
   ·exact xE (It.alive _ _ st a h) λo ho=>⟨o,Np _ _ ho⟩
  ·replace h:=c2▸h;rcases lk x c h with⟨h1,h2⟩| ⟨h1,h2⟩
   ·exact⟨.inl (.inr (.inr (.inr ⟨x,by refine rE (tC kZ h1) ?_;rfl,c2▸h⟩))),af,(ok.empty x c h2).1⟩
   ·exact lD (I.bu.fQ x c h2) λu v hv=>⟨.inl (.inl u),v,hv.keeps x4.keep⟩
  ·rw[c2]at h1 h2;have Ny:∀ {x y},(x,c)∈jC (Cn+1) scope.names []→env.cells.lookup y=aa c→False:=λ{x y} a b=>by refine mr (I.bu.fQ y c b) λZ v o ho Z=>?_;have h3:=old _ o ho;have h4:=(ok.empty x c a).2;replace h4:=zH▸h4;exact qE c (hZ h3 (aF (nh D 2) h4))
   rcases lk x c h1 with⟨_,a1⟩| ⟨_,a1⟩<;>rcases lk y c h2 with⟨_,a2⟩| ⟨_,a2⟩
   ·exact Uz ok.apart a1 a2
   ·exact(Ny a1 a2).elim
   ·exact(Ny a2 a1).elim
   ·exact I.bu.inj x y c a1 a2
  ·refine rE c2 ?_;have go:∀k',bB.kindOf x=aa k'→(k'=.cell∨k'=.free)→∃c,cs.lookup x=aa c:=λk' h j5=>by
    refine aD (Nu x k' h) λk hm Ci=>?_;rcases Ci with e| ⟨e,_⟩
    ·subst e;rcases j5 with e|e
     ·subst e;exact Yu x hm
     ·subst e;exact aD (GC x hm) λc h Z=>⟨c,h⟩
    ·subst e;exact aD (GC x hm) λc h Z=>⟨c,h⟩
   exact h.elim (λh=>go _ h (.inl rfl)) λh=>go _ h (.inr rfl)
 have GF:∀a,D≤a→ai.heap.get? a=af:=λa h=>by
  induction q:ai.heap.get? a with
  |none=>rfl
  |some o=>have:=aC.keep a o q;exact zN (Nt a h▸this)
 have Cj:∀a,D≤a→¬Wr a:=λa h hw=>by exact xE (It.alive _ _ st a hw) λo ho=>zN (Nt a h▸ho)
 have Nz:∀a,U a→¬Wr a:=λa h hw=>by exact xE (I.ub a h) λo ho=>zN (fw a hw▸ho)
 have L:B8 (λa=>U a∨ai.heap.get? a=af) Wr G (λa=>U a∨a=D∨eG scope.names bB a) scope.names bB D s:=by
  refine⟨λa h=>.inr (GF a ?_),λa h=>?_,λa h=>?_,λa h=>?_,fw,fg⟩
  ·rcases h with h|h
   ·exact d4 (vw a h)
   ·exact h▸bZ _
  ·rcases h with h|h
   ·rcases Nv a h with h| ⟨u,_⟩
    ·exact⟨Cj a (d4 (vw a h)),.inr (.inr h)⟩
    ·exact⟨Nz a u,.inl u⟩
   ·exact⟨Cj a (h▸bZ _),.inr (.inl h)⟩
  ·rcases h with h|h|h
   ·exact Nz a h
   ·exact Cj a (h▸bZ _)
   ·exact Cj a (d4 (vw a h))
  ·rcases h with h|h|h
   ·exact .inl (.inl h)
   ·exact .inl (.inr (GF a (h▸bZ _)))
   ·exact .inl (.inr (GF a (d4 (vw a h))))
 have Bn:Gh scope.names bB D s:=by
  refine⟨λh=>?_,freshD,λa h=>Gz a (d4 (vw a h))⟩;rcases Nv D h with h| ⟨_,o,ho⟩
  ·exact qE _ (vw D h)
  ·exact zN (freshD▸ho)
 have hz:∀g,(⟨t,it,ifs,0⟩::gs:List sD)[0+1]? =aa g→g.is_async=0:=by
  intro g e;cases hr with
  |nil=>exact zN e
  |cons=>replace e:=iJ e;subst e;rfl
 have B:Base K bB hs (rem (fB K.X.names scope.names) ρ) s U:=λs' x V hV y i sl Z a b c=>Nw s' x V hV y i sl a b c;have go:uF (aw prog K.w) A (.compLoop (.ListComp elt (⟨t,it,ifs,0⟩::gs) scope pos) 0 Iv (.ref D) bB) (compPost (aw prog K.w) A E use Q (.ref D) Cn) {av with heap:=H4}:=by
  refine M7 hh (Ub:=U) (gens:=⟨t,it,ifs,0⟩::gs) tF Bn rfl hz ht hl (Yc hh tF Bn he hr 0 rfl) It L GD B kY (λi h=>Yp ρ (iD i h)) I4 (ys:=[])
   ⟨.inl (.inr (.inl rfl)),#[],0,Nq,.nil⟩ (It.frame _ _ _ (λZ=>False) (λZ=>False) st Cg.mv (λZ h=>h.elim) λZ h=>h.elim) x4 (λa h=>.inr ?_) Gw (by simpa using hlen) λs' I' D' x' Z Z=>?_
  ·induction q:ai.heap.get? a with
   |none=>rfl
   |some o=>have:=(aC.trans Cg).keep a o q;exact zN (h▸this)
  ·refine mr D' λZ vs n e1 e2=>hQ s' D Cn x' Yt freshD (c1▸I'.bu.loc.2) (.list e1 (λh=>?_) (e2.mono (λZ Z Z e=>e) λa Z Z n h=>n ?_))
   ·rcases h with h|h
    ·exact I.ub.elim h freshD
    ·replace h:=zH▸h;exact absurd h (iT (Ee D))
   ·rcases h with h|h
    ·exact .inl h
    ·exact .inr (.inr (.inl (h.trans c1.symm)))
 exact M4 (gens:=⟨t,it,ifs,0⟩::gs) rfl rfl go (It.self xs _ _ _ (It.frame _ _ _ (λZ=>False) (λZ=>False) st Cg.mv (λZ h=>h.elim) λZ h=>h.elim) go)
theorem NA(hh:A.handled=af){t:au}{relt:RE}{ri:RI}{ris:bf}{rgs:kJ}
  (fb:scope.kind=.function) (kZ:distinct scope.names) (tE:freeOk ks scope.names) (hk:dg ks env) (I:bJ K U env hs ρ s)
  (ht:jm K.X scope.names t=aa tg) (hI:pV K C A ks it ri) (hl:cZ K C A scope.names ifs ris) (hr:rG K C A scope.names gs rgs) (he:bg K C A scope.names elt relt)
  (kY:(j7 tg++kP rgs).Nodup) (iD:∀i∈j7 tg++kP rgs,i∈fB K.X.names scope.names)
  (ao:ev K.tk C hs (.comp (fB K.X.names scope.names) tg ri ris rgs relt) ρ=aa (d,ae)) {use:Option (ak→cN Unit)}{Q E:aW}
  (hQ:∀s' D Cn,Ext s s'→s.heap.get? Cn=af→s.heap.get? D=af→(∃m,s'.heap.Ns Cn m)→Rd (λa=>U a∨a=Cn) s'.heap (.ref D) d→compPost (aw prog K.w) A E use Q (.ref D) Cn (.ok .next) s'):
  ar (aw prog K.w) A (A9 (.ListComp elt (⟨t,it,ifs,0⟩::gs) scope pos) scope env p (newList []) ag (eval it env) use) Q E s:=
 Gr hh fb kZ tE hk I ht (λx=>hI.1 env x) (λxs h=>hI.2 U env hs ρ s xs hk I h) hl hr he kY iD ao hQ
end
theorem GG{i:Int}(h:Fu i):i=0:=of_decide_eq_true h
theorem GH:∀ {l:ax},has i l↔i∈l:=by
 intro L0;induction L0 with
 |nil=>simp[WI,Mi]
 |cons j r ih=>
  refine rE (Mi ..) ?_;induction q:az j i with
  |true=>simp[fY q]
  |false=>
   have bQ:i≠j:=λe=>by subst e;replace q:=(nc ..)▸q;exact zT q
   simp only[cond,bE,bQ,false_or];exact ih
theorem NB:∀ {l:ax},zg l→l.Nodup:=by
 intro L0;induction L0 with
 |nil=>intro _;exact yF
 |cons i r ih=>
  intro h;replace h:=(WN ..)▸h;induction q:has i r with
  |true=>replace h:=q▸h;exact zF h
  |false=>replace h:=q▸h;exact uC.mpr ⟨λhm=>(zT (GH.mpr hm▸q)),ih h⟩
theorem NC{l:ax}:∀ {m:ax},zh l m→∀i∈m,i∈l:=by
 intro L0;induction L0 with
 |nil=>intro _ i h;cases h
 |cons j r ih=>
  intro h i hm;replace h:=(WO ..)▸h;induction q:has j l with
  |false=>replace h:=q▸h;exact zF h
  |true=>
   replace h:=q▸h;rcases bE.mp hm with e|hm
   ·exact rE e (GH.mp q)
   ·exact ih h i hm
section
variable{K:Kt}
theorem Yy(h:view it≠.other)(env:bF)(x:ak):uE it env x=pure x:=by
 induction it using uz<;>first|rfl|exact absurd rfl h
theorem Yz(hh:A.handled=af)(hf:∀env x,uE it env x=pure x)(h:bg K C A ks it r):pV K C A ks it (.data r):=by
 refine⟨hf,λU env hs ρ s xs hk I ao Q E hQ=>?_⟩;refine wE (ao:W.bind _ _=_) λd hd ao=>oE ao λl hl ao=>?_;obtain rfl:=W.bp ao;refine(h U env hs ρ s d hk I hd).1 _ _ λv ai aq rv=>hQ v ai aq λav aC=>?_;have r2:=rv.ext aC;rcases w7 hl with rfl|rfl
 ·refine fy r2.listI λZ Z Z e9 hl hu r=>?_;subst e9
  ·exact MV hh (aq.trans aC) hl hu r
 ·refine fy r2.tupI λZ Z Z e9 hl hu r=>?_;subst e9
  ·exact XM hh (aq.trans aC) hl hu r
theorem YA(O:kT K C A)(hh:A.handled=af){ri:RI}(hx:sEq x rr)(hg:eZ (aV x ks))(hl:cZ K C A ks args rs)
  (h:Fy rs=aa ri):pV K C A ks (.Call (.Name x q) args [] pos) ri:=by
 obtain rfl:=eE hx;refine⟨λZ Z=>rfl,λU env hs ρ s xs hk I ao Q E hQ=>?_⟩;have core:∀ (es:List Ev.D),eD K.tk C hs rs ρ=aa (es,ae)→(∀vs ai,Ext s ai→aI U ai.heap vs es→ar (aw prog K.w) A (call (.type "range") vs) Q E ai)→ar (aw prog K.w) A (eval (.Call (.Name rr q) args [] pos) env) Q E s:=by intro es GJ hc;show ar _ A (do jY pos (← eval (.Name rr q) env) [] (gJ pos (fZ args env)) []) Q E s;refine aB (I.builtin (lF hk hg) O.ok.range nK.2.2.2.2.2.2.2.1 ?_);exact A4 (rB hl).1 (xm hk hl I GJ λvs ai aq r=>hc vs ai aq r)
 have fin:∀ {ai:ay}{r:aE}{a b:Int}{t u v:mY},Ext s ai→IsRange ai.heap r a b 1 t u v→0≤a→a.natAbs<1000000→b.natAbs<1000000→xs=kL a.toNat (b - a).toNat→Q (.ref r) ai:=by intro ai r a b t u v aq hr ha xq hb e;clear I hk;subst e;exact hQ _ ai aq λav aC=>XO hh (aq.trans aC) (aC.keep _ _ hr) ha xq hb
 unfold Fy at h;induction q:rs.c1 with
 |some ra=>clear hQ;replace h:=iJ (q▸h);subst h;obtain rfl:=bf.tn q;refine wE (ao:W.bind (ev K.tk C hs ra ρ) _=_) λy hy ao=>aD (y6 ao) λj e9 ao=>?_;subst e9;refine xA (W.de ao) λe9 c0=>?_;subst e9;refine core [.int j] (xh hy) λvs ai aq r=>aD (nN r) λv e9 rv=>?_;subst e9;refine xE rv.iz λZ e9=>?_;subst e9;refine call_range_1 (fin (aq.trans (.heap λZ Z e=>jV _ e)) (eT _ rfl) (Int.le_refl 0) (by decide) (bc c0) ?_);refine rE (Int.sub_zero ..) ?_;rfl
 |none=>replace h:=q▸h;refine oE h λp hp h=>?_;clear hQ;replace h:=iJ h;subst h;clear h;obtain rfl:=bf.xp hp;refine wE (ao:W.bind (ev K.tk C hs p.1 ρ) _=_) λy0 GK ao=>wE ao λy hy ao=>oE ao λi e1 h8=>oE h8 λj e2 h9=>?_;clear h8 ao hp;obtain rfl:=gc e1;clear e1 ao;obtain rfl:=gc e2;clear e2 ao;refine xA (W.de h9) λe9 c0=>?_;subst e9;clear h9;refine xA (cg c0) λc0 h3=>xA (cg c0) λh1 h2=>core [.int i,.int j] (BV GK hy) λvs ai aq r=>cK (xo r) λu v e9 ru rv=>?_;subst e9;clear r c0 hy;refine xE ru.iz λZ e9=>?_;subst e9;refine xE rv.iz λZ e9=>?_;subst e9;exact call_range_2 (fin (aq.trans (.heap λZ Z e=>jV _ e)) (eT _ rfl) (of_decide_eq_true h1) (bc h2) (bc h3) rfl)
end
section
variable(K:Kt)(A:dU)
structure pY:Prop where
 gen:∀U s x t,br K U s.heap→UB U s→(sL x).length≤1000000→∃a o fd,K.mg u3=aa (.ref a)∧s.heap.get? a=aa o∧o.data=.func fd∧zB K.w A U s (call (.ref a) [.str x t]) (pH (sL x))
end
section
variable{K:Kt}
set_option tactic.hygienic true in
theorem YB(OG:pY K A){ra:RE}(hx:sEq x u3)(hg:eZ (aV x ks))(hl:cZ K C A ks args (.cons ra .nil)):pV K C A ks (.Call (.Name x q) args [] pos) (.gen ra):=by
 obtain rfl:=eE hx;refine⟨λ_ _=>rfl,λU env hs ρ s xs hk I ao Q E hQ=>?_⟩;clear hx;refine wE (ao:W.bind (ev K.tk C hs ra ρ) _=_) λy hy ao=>aD (nF ao) λy e9 ao=>?_;subst e9;refine xA (W.de ao) λe9 c0=>?_;subst e9;have c0:=bc c0;refine fu (OG.gen U s y 0 I.bH I.ub c0) λa o fd e1 _=>?_;show ar _ A (do jY pos (← eval (.Name u3 q) env) [] (gJ pos (fZ args env)) []) Q E s;refine aB (I.global (lF hk hg) e1 nK.2.2.2.2.2.2.2.2.2 ?_);refine fy (OG.gen U s y 0 I.bH I.ub c0) λa' o fd vx e2 e3 _=>?_;replace vx:=e1▸vx;cases vx;refine Er (o:=o) (fd:=fd) (xm hk hl I (xs:=[.str y]) (xh hy) λvs ai aq r=>⟨⟨aq.keep _ _ e2,e3⟩,?_⟩);clear e3 e2 ao hy hk hl;refine aD (nN r) λv e9 rv=>?_;subst e9;clear r ao;refine xE rv.cQ λ_ e9=>?_;subst e9;rename_i t;refine fy (OG.gen U ai y t (I.bH.ext aq) (I.ub.ext aq) c0) λa' o fd vx _ _ g=>?_;replace vx:=e1▸vx;cases vx;refine g _ _ λv av aC hw=>hQ v av (aq.trans aC) λaR bx Q' E' h'=>hw aR bx Q' E' λI' Wr G St cq j9 fw fg It st=>h' I' Wr G St cq j9 (λb hb=>?_) (λb hb=>?_) It st
 ·induction q:s.heap.get? b with
  |none=>rfl
  |some o=>have:=aq.keep b o q;exact zN (fw b hb▸this)
 ·induction q:s.gens[b]? with
  |none=>rfl
  |some o=>have:=aq.gens b o q;exact zN (fg b hb▸this)
theorem ND(hh:A.handled=af){t:au}{relt:RE}{ri:RI}{ris:bf}{rgs:kJ}
  (fb:scope.kind=.function) (kZ:distinct scope.names) (tE:freeOk ks scope.names)
  (ht:jm K.X scope.names t=aa tg) (hI:pV K C A ks it ri) (hl:cZ K C A scope.names ifs ris) (hr:rG K C A scope.names gs rgs) (he:bg K C A scope.names elt relt)
  (kY:(j7 tg++kP rgs).Nodup) (iD:∀i∈j7 tg++kP rgs,i∈fB K.X.names scope.names):
  bg K C A ks (.ListComp elt (⟨t,it,ifs,0⟩::gs) scope pos) (.comp (fB K.X.names scope.names) tg ri ris rgs relt):=by
 refine iB.plain (λZ Z=>rfl) λU env hs ρ s d hk I ao Q E hQ=>?_;show ar _ A (A9 (.ListComp elt (⟨t,it,ifs,0⟩::gs) scope pos) scope env it.pos (newList []) ag (eval it env) af) Q E s;refine NA hh fb kZ tE hk I ht hI hl hr he kY iD ao (use:=af) λs' D Cn x hC hD hn r=>xE hn λm hn=>⟨m,hn,λh' hs'=>hQ _ _ ⟨λa o e=>?_,λg o e=>x.gens g o e,λe=>x.bare e,x.os⟩ (r.mono (λa o n e=>(hs'.2 a λq=>n (.inr q)).trans e) λa Z Z n k=>n (.inl k))⟩;exact(hs'.2 a λq=>by subst q;replace e:=hC▸e;exact zN e).trans (x.keep a o e)
end
theorem YC{o:kG}{op:uJ}(h:Mg o=aa op):o=Fe op:=by induction o<;>first|exact zN h| (replace h:=iJ h;subst h;rfl)
theorem YD{e:au}(h:view e≠.other)(o:kG):behindInMarks o e=ag:=by
 induction e using uz<;>first|rfl|exact absurd rfl h
theorem noStar{e:au}(h:view e≠.other):nH e=ag:=by
 induction e using uz<;>first|rfl|exact absurd rfl h
theorem NF{k:ScopeKind}(h:isFun k):k=.function:=by induction k<;>first|rfl|exact zF h
theorem zI{l:List Ej}(h:l.isEmpty):l=[]:=sQ.mp h
theorem lK{v:V}(h:(match v with| .other=>ae|_=>ag)=ag):v≠.other:=λe=>by subst e;exact zT h
section
variable{K:Kt}{C:l9}{A:dU}
variable(K C A)in
noncomputable def iE(F:KS→au→Option RE):Prop:=∀ks e r,F ks e=aa r→bg K C A ks e r∧view e≠.other
variable{F:KS→au→Option RE}{ks:KS}
theorem lL(hF:iE K C A F):∀ {es:List au}{rs:bf},kQ (F ks) es=aa rs→cZ K C A ks es rs:=by
 intro es;induction es with
 |nil=>intro rs h;replace h:=iJ h;subst h;exact .nil
 |cons e es ih=>intro rs h;refine oE h λr h1 h=>oE h λrs' h2 h=>?_;replace h:=iJ h;subst h;exact .cons (noStar (hF _ _ _ h1).2) (hF _ _ _ h1).1 (ih h2)
theorem xx(hF:iE K C A F){o:Option au}{r:RO}(h:cO (F ks) o=aa r):mz K C A ks o r:=by
 induction o with
 |none=>replace h:=iJ h;subst h;exact .none
 |some e=>refine oE h ?_;clear h;intro r' h1 h;replace h:=iJ h;subst h;exact .some (hF _ _ _ h1).1
theorem YE(hF:iE K C A F):∀ {ops:List kG}{es:List au}{cs:md},Fv (F ks) ops es=aa cs→vc K C A ks ops es cs:=by
 intro ops;induction ops with
 |nil=>intro es cs h;refine xA (cj h) λh1 h=>?_;replace h:=iJ h;subst h;exact rE (sQ.mp h1) (.nil)
 |cons op ops ih=>
  intro es cs h;induction es using bj with
  |nil=>exact zN h
  |cons e es=>refine oE h λo h1 h=>oE h λr h2 h=>oE h λMF h3 h=>?_;replace h:=iJ h;subst h;exact rE (YC h1) (.cons (YD (hF _ _ _ h2).2) (hF _ _ _ h2).1 (ih h3))
theorem YF(O:kT K C A)(OG:pY K A)(hh:A.handled=af)(hF:iE K C A F){ri:RI}(h:cI (F ks) ks it=aa ri):pV K C A ks it ri:=by
 unfold cI at h;induction q:view it with
 |call g args iA p=>
  replace h:=q▸h;obtain rfl:=dM q rfl;refine oE h λx hx h1=>xE (xc hx) λq' e9=>?_;subst e9;refine xA (cj h1) λhk h2=>?_;obtain rfl:=zI hk;clear h h1 hx hk q;induction hr:(sEq x rr&&eZ (aV x ks))with
  |true=>replace h2:=hr▸h2;exact xA (cg hr) λa1 a2=>oE (h2:(kQ (F ks) args).bind _=_) λrs rK h3=>YA O hh a1 a2 (lL hF rK) h3
  |false=>replace h2:=hr▸h2;refine xA (cj (h2:cond _ _ af=_)) λhg h3=>xA (cg hg) λa1 a2=>oE h3 λrs rK h4=>oE h4 λra tm h5=>?_;clear h4 h3 hg h2;replace h5:=iJ h5;subst h5;have hl:=lL hF rK;replace hl:=bf.tn tm▸hl;exact YB OG a1 a2 hl
 |_=>exact zN (q▸h)
theorem Cm(O:kT K C A)(OG:pY K A)(hh:A.handled=af)(hF:iE K C A F){ri:RI}(h:zi (F ks) ks it=aa ri):pV K C A ks it ri:=by
 unfold zi at h;induction q:cI (F ks) ks it with
 |some r=>replace h:=iJ (q▸h);subst h;exact YF O OG hh hF q
 |none=>replace h:=q▸h;refine oE h ?_;clear h;intro r h1 h;replace h:=iJ h;subst h;exact Yz hh (Yy (hF _ _ _ h1).2) (hF _ _ _ h1).1
theorem NG(O:kT K C A)(OG:pY K A)(hh:A.handled=af)(hF:iE K C A F):∀ {gs:List sD}{rgs:kJ},FE K.X F ks gs=aa rgs→rG K C A ks gs rgs:=by
 intro gs;induction gs with
 |nil=>intro rgs h;replace h:=iJ h;subst h;exact .nil
 |cons g gs ih=>intro rgs h;obtain⟨t,it,ifs,a⟩:=g;refine oE h λtg ht h=>oE h λri hi h=>oE h λris hl h=>oE h λaiC hg h=>xA (cj h) λh1 h=>?_;replace h:=iJ h;subst h;obtain rfl:=GG h1;exact .cons ht (Cm O OG hh hF hi) (lL hF hl) (ih hg)
theorem YG(O:kT K C A)(OG:pY K A)(hh:A.handled=af)(hF:iE K C A F)(h1:distinct scope.names)(h2:freeOk ks scope.names)(h3:scope.kind=.function)
  (h:FF K.X F ks scope.names gs elt=aa r):bg K C A ks (.ListComp elt gs scope p) r:=by
 induction gs using bj with
 |nil=>exact zN h
 |cons g gs=>obtain⟨t,it,ifs,a⟩:=g;refine oE h λrelt he h=>oE h λtg ht h=>oE h λri hi h=>oE h λris hl h=>oE h λrgs hg h=>xA (cj h) λh4 h=>xA (cg h4) λh4 h5=>xA (cg h5) λh5 h6=>?_;replace h:=iJ h;subst h;clear h;obtain rfl:=GG h4;exact ND hh h3 h1 h2 ht (Cm O OG hh hF hi) (lL hF hl) (NG O OG hh hF hg) (hF _ _ _ he).1 (NB h5) (NC h6)
theorem YH(O:kT K C A)(hF:iE K C A F){f:au}(h:Mn K.X F ks args p (view f)=aa r):bg K C A ks (.Call f args [] p) r:=by
 induction q:view f with
 |name x q'=>
  replace h:=q▸h;obtain rfl:=dM q rfl;clear q;induction hi:(sEq x oM&&eZ (aV x ks))with
  |true=>have h:cond (sEq x oM&&eZ (aV x ks)) (BM F ks args) _=aa r:=h;replace h:=hi▸h;refine xA (cg hi) λh1 h2=>?_;obtain rfl:=eE h1;refine oE (h:BM F ks args=_) λa ha h3=>?_;obtain rfl:=zv ha;refine oE h3 λra tm h4=>xA (cj h4) λht h5=>?_;replace h5:=iJ h5;subst h5;exact Xn O h2 (noStar (hF _ _ _ tm).2) (hF _ _ _ tm).1 ht
  |false=>have h:cond (sEq x oM&&eZ (aV x ks)) (BM F ks args) _=aa r:=h;replace h:=hi▸h;exact oE h λrs rK h1=>Xm O (lL hF rK) h1
 |attr o m ap=>replace h:=q▸h;obtain rfl:=dM q rfl;exact oE h λrs rK h1=>xA (cj h1) λh2 h3=>xA (cg h2) λh2 h4=>xA (cg h2) λh2 h5=>XG O h2 h5 h4 (λra ha=>(hF _ _ _ ha).1) (lL hF rK) h3
 |_=>exact zN (q▸h)
theorem YI(O:kT K C A)(hF:iE K C A F){a sl:au}(h:Mo K.X F ks a sl (view sl)=aa r):bg K C A ks (.Subscript a sl p) r:=by
 have YJ:(F ks sl).bind (λi=>xe K.X ks a (F ks a) i)=aa r→bg K C A ks (.Subscript a sl p) r:=λh=>by exact oE h λri h1 h=>MI (F:=F ks) O.ok (λra ha=>(hF _ _ _ ha).1) (hF _ _ _ h1).1 h
 induction q:view sl with
 |slice l u s q'=>
  replace h:=q▸h;obtain rfl:=dM q rfl;refine oE h λrl h3 h4=>oE h4 λrh h5 h6=>oE h6 λrs h7 h8=>?_;clear h h4 h6;induction hv:nameId K.X ks a with
  |some i=>replace h8:=iJ (hv▸h8);subst h8;exact Xc O.ok hv (xx hF h3) (xx hF h5) (xx hF h7)
  |none=>replace h8:=hv▸h8;refine oE h8 ?_;clear h8;intro ra h1 h8;replace h8:=iJ h8;subst h8;exact Xd (hF _ _ _ h1).1 (xx hF h3) (xx hF h5) (xx hF h7)
 |_=>replace h:=q▸h;exact YJ h
theorem Co(O:kT K C A)(OG:pY K A)(hh:A.handled=af)(hF:iE K C A F):iE K C A λks e=>cV K.X F ks (view e):=by
 intro ks e r h;have h:cV K.X F ks (view e)=aa r:=h;induction q:view e with
 |const c k p=>replace h:=q▸h;obtain rfl:=dM q rfl;refine oE h λd h1 h2=>?_;replace h2:=iJ h2;subst h2;exact⟨snd_const h1,lK rfl⟩
 |name x p=>replace h:=q▸h;obtain rfl:=dM q rfl;exact⟨xj O.ok h,lK rfl⟩
 |bin l o r' p=>replace h:=q▸h;obtain rfl:=dM q rfl;refine oE h λa h1 h2=>oE h2 λop h3 h4=>oE h4 λb h5 h6=>?_;replace h6:=iJ h6;subst h6;exact⟨MD h3 (hF _ _ _ h1).1 (hF _ _ _ h5).1,lK rfl⟩
 |bool o es p=>
  replace h:=q▸h;obtain rfl:=dM q rfl;refine oE h λrs h1 h2=>?_;have hl:=lL hF h1;induction hl with
  |nil=>exact zN h2
  |cons _ he hr=>induction o with
   |And=>replace h2:=iJ h2;subst h2;exact⟨snd_and hr he,lK rfl⟩
   |Or=>replace h2:=iJ h2;subst h2;exact⟨W5 hr he,lK rfl⟩
 |BH c a b p=>replace h:=q▸h;obtain rfl:=dM q rfl;refine oE h λrc h1 h2=>oE h2 λra h3 h4=>oE h4 λrb h5 h6=>?_;replace h6:=iJ h6;subst h6;exact⟨W4 (hF _ _ _ h1).1 (hF _ _ _ h3).1 (hF _ _ _ h5).1,lK rfl⟩
 |cmp l ops es p=>
  replace h:=q▸h;obtain rfl:=dM q rfl;refine oE h λa h1 h2=>⟨?_,lK rfl⟩;induction ht:Fw ops es with
  |true=>replace h2:=iJ (ht▸h2);subst h2;refine gy (W9 ht) λk p' e9 bC=>?_;subst e9;subst bC;exact Xa (hF _ _ _ h1).1
  |false=>
   replace h2:=(cond_false ..)▸ht▸h2;induction hn:Mk K.X ks ops es with
   |none=>replace h2:=hn▸h2;refine oE h2 λcs h3 h4=>?_;replace h4:=iJ h4;subst h4;exact F1 O.room (hF _ _ _ h1).1 (YE hF h3)
   |some v=>
    replace h2:=iJ (hn▸h2);subst h2;refine oE hn λo g1 g2=>xA (cj g2) λg3 g4=>oE g4 λe g5 g6=>oE g6 λv' g7 g8=>xA (cj g8) λZ g9=>?_;replace g9:=iJ g9;subst g9;obtain rfl:=nM g1;obtain rfl:=nM g5;obtain rfl:o=.NotIn:=by induction o<;>first|rfl|exact zF g3
    exact XB O.ok (hF _ _ _ h1).1 g7
 |list es p=>replace h:=q▸h;obtain rfl:=dM q rfl;refine oE h λrs h1 h2=>xA (cj h2) λh3 h4=>?_;replace h4:=iJ h4;subst h4;exact⟨Xh (lL hF h1) h3,lK rfl⟩
 |tup es k p=>replace h:=q▸h;obtain rfl:=dM q rfl;refine oE h λrs h1 h2=>xA (cj h2) λh3 h4=>?_;replace h4:=iJ h4;subst h4;exact⟨BZ (lL hF h1) h3,lK rfl⟩
 |comp elt gs sc p=>replace h:=q▸h;obtain rfl:=dM q rfl;exact xA (cj h) λh1 h2=>xA (cg h1) λh1 h3=>xA (cg h1) λh1 h4=>⟨YG O OG hh hF h1 h4 (NF h3) h2,lK rfl⟩
 |call f args iA p=>replace h:=q▸h;obtain rfl:=dM q rfl;refine xA (cj h) λh1 h2=>?_;obtain rfl:=zI h1;exact⟨YH O hF h2,lK rfl⟩
 |BI o a p=>
  replace h:=q▸h;obtain rfl:=dM q rfl;induction o with
  |Not=>refine oE (h:(F ks a).bind _=_) λra h1 h2=>?_;replace h2:=iJ h2;subst h2;exact⟨Xe (hF _ _ _ h1).1,lK rfl⟩
  |USub=>
   have h:(match view a with| .const c _ _=>(match c with| .int i=>aa (RE.lit (.int (-i)))|_=>af)|_=>af)=aa r:=h;induction q2:view a with
   |const c k p'=>
    replace h:=q2▸h;obtain rfl:=dM q2 rfl;induction c with
    |int i=>replace h:=iJ h;subst h;exact⟨Xf,lK rfl⟩
    |_=>exact zN h
   |_=>exact zN (q2▸h)
  |_=>exact zN h
 |sub a sl p=>replace h:=q▸h;obtain rfl:=dM q rfl;exact⟨YI O hF h,lK rfl⟩
 |_=>exact zN (q▸h)
theorem YK(O:kT K C A)(OG:pY K A)(hh:A.handled=af)(n:Nat):iE K C A (cE K.X n):=by
 induction n with
 |zero=>exact λks e r h=>nomatch h
 |succ n ih=>exact Co O OG hh ih
end
set_option genCtorIdx false in
inductive Rl where
 |frame
 |own (i:Nat)
 |tab (j:Nat)
noncomputable def Rl.ctorIdx(x:Rl):Nat:=Rl.casesOn (motive:=λZ=>Nat) x 0 (λZ=>1) λZ=>2
noncomputable abbrev dC:=aE→Option Rl
noncomputable def UU(R:dC)(B:aY):aE→Prop:=λa=>R a≠af∨B a
variable {R:dC}
theorem dO.tab{hc:aE}{h:aP}{t:d6}(x:dO hc U h a l t):iV hc U h (.ref a) t:=⟨a,l,rfl,x⟩
structure YL(R:dC)(env:bF)(h:aP)(p:bF × pA):Prop where
 kind:p.1.scope.kind=.function
 frame:p.1.frame=aa p.1.locals
 role:R p.1.locals=aa .frame
 apart:¬dm env p.1.locals
 data:∀vs,p.2≠.fields vs
 obj:∃o,h.get? p.1.locals=aa o∧o.data=p.2
section
variable(K:Kt)
noncomputable def fD(B:aY)(R:dC)(T:dW)(hs:Hs)(h:aP)(i:Nat)(v:ak):bA→Prop
 | .val d=>Rd (UU R B) h v d
 | .own xs=>∃a vs n,v=.ref a∧R a=aa (.own i)∧h.get? a=aa (cy vs n)∧aI (UU R B) h vs.toList xs
 | .cU j=>(∃t,hs[j]? =aa t)∧v=.ref (T j).1
 | .fN l=>nI K.w (UU R B) h v l
structure aN(B:aY)(R:dC)(T:dW)(env:bF)(hs:Hs)(ρ:aM)(s:ay):Prop where
 bH:br K (UU R B) s.heap
 ub:UB (UU R B) s
 kind:env.scope.kind=.function
 gl:env.globals=gn
 bi:env.builtins=jB
 bu:jn (UU R B) env s.heap
 bd:∀a,B a→R a=af
 fr:∀a,dm env a→R a=aa .frame
 vars:∀x i sl,aZ x K.X.names=aa i→get ρ i=aa sl→d8 (env.kindOf x)→∃v,fP env s.heap x v∧fD K B R T hs s.heap i v sl
 tabs:∀j t,hs[j]? =aa t→dO K.hc (UU R B) s.heap (T j).1 (T j).2 t∧R (T j).2=aa (.tab j)
 outs:∀e l,K.me=aa (e,l)→env=e∧env.frame=aa env.locals∧∀p∈l,YL R env s.heap p
end
theorem gE{r:Rl}(h:R a=aa r):R a≠af:=λq=>by replace h:=q▸h;exact zN h
section
variable{K:Kt}{T:dW}
theorem aN.own(I:aN K B R T env hs ρ s)(x:ah)(i:Nat)(xs:List D)(hi:aZ x K.X.names=aa i)(hg:get ρ i=aa (.own xs))(hk:d8 (env.kindOf x)):∃a vs n,fP env s.heap x (.ref a)∧R a=aa (.own i)∧s.heap.get? a=aa (cy vs n)∧aI (UU R B) s.heap vs.toList xs:=by obtain⟨_,p,a,vs,n,rfl,q⟩:=I.vars x i _ hi hg hk;exact⟨a,vs,n,p,q⟩
theorem aN.cU(I:aN K B R T env hs ρ s)(x:ah)(i j:Nat)(hi:aZ x K.X.names=aa i)(hg:get ρ i=aa (.cU j))(hk:d8 (env.kindOf x)):(∃t,hs[j]? =aa t)∧fP env s.heap x (.ref (T j).1):=by refine j4 (I.vars x i _ hi hg hk) λZ p q e9=>?_;subst e9;exact⟨q,p⟩
theorem aN.e(I:aN K B R T env hs ρ s):bJ K (UU R B) env hs ρ s where
 bH:=I.bH
 ub:=I.ub
 kind:=I.kind
 gl:=I.gl
 bi:=I.bi
 bu:=I.bu
 vars:=λx i sl a b c=>by
  refine aD (I.vars x i sl a b c) λv p q=>⟨v,p,?_⟩;induction sl with
  |own xs=>exact ib q λl vs n e1 Z e3=>⟨l,vs,n,e1,e3⟩
  |cU j=>obtain⟨⟨t,e1⟩,rfl⟩:=q;exact⟨t,e1,(I.tabs j t e1).1.tab⟩
  |_=>exact q
theorem aN.congr(I:aN K B R T env hs ρ s)(h:∀i,get ρ' i=get ρ i):aN K B R T env hs ρ' s:=
 {I with vars:=λx i d a b c=>I.vars x i d a (h i▸b) c}
section
variable{B':aY}{R':dC}{T':dW}{hs':Hs}
structure Kept(k:Rl→Prop)(B B':aY)(R R':dC)(T T':dW)(hs hs':Hs)(s s':ay):Prop where
 keep:∀a o,¬UU R B a→s.heap.get? a=aa o→s'.heap.get? a=aa o
 hu:∀a o,s.heap.get? a=aa o→¬UU R B a→¬UU R' B' a
 role:∀a r,k r→R a=aa r→R' a=aa r∧∀o,s.heap.get? a=aa o→s'.heap.get? a=aa o
 hs:∀ (j:Nat) t,hs[j]? =aa t→(∃t',hs'[j]? =aa t')∧T' j=T j
variable{k:Rl→Prop}
theorem fD.kept(x:Kept k B B' R R' T T' hs hs' s s'){v:ak}(ki:∀xs,sl=.own xs→k (.own i))(h:fD K B R T hs s.heap i v sl):fD K B' R' T' hs' s'.heap i v sl:=by
 induction sl with
 |val d=>exact Rd.mono x.keep x.hu h
 |own xs=>refine fy h λa vs n e1 e2 e3 e4=>?_;exact let y:=x.role a _ (ki _ rfl) e2;⟨a,vs,n,e1,y.1,y.2 _ e3,e4.mono x.keep x.hu⟩
 |cU j=>obtain⟨⟨t,e1⟩,e2⟩:=h;exact⟨(x.hs j t e1).1,(x.hs j t e1).2▸e2⟩
 |fN l=>exact nI.mono h x.keep x.hu
theorem aN.GN(I:aN K B R T env hs ρ s)(x:Kept k B B' R R' T T' hs hs' s s')(Cp:∀a,R a=aa .frame→R' a=aa .frame∧∀o,s.heap.get? a=aa o→∃o',s'.heap.get? a=aa o'∧o'.data=o.data)(ub:UB (UU R' B') s')(bd:∀a,B' a→R' a=af)
  (vars:∀x i sl,aZ x K.X.names=aa i→get ρ' i=aa sl→d8 (env.kindOf x)→∃v,fP env s.heap x v∧fD K B' R' T' hs' s'.heap i v sl)
  (tabs:∀j t,hs'[j]? =aa t→dO K.hc (UU R' B') s'.heap (T' j).1 (T' j).2 t∧R' (T' j).2=aa (.tab j)):aN K B' R' T' env hs' ρ' s':=by
 have fr:=λa h=>Cp a (I.fr a h);have fU:∀a,dm env a→UU R' B' a:=λa h=>.inl (gE (fr a h).1);have cell:∀ {y c v},env.cells.lookup y=aa c→s.heap.IsCell c v→s'.heap.IsCell c v:=λ{y c v} hy q=>aD q λo ho hd=>aD ((fr c (.inr ⟨y,hy⟩)).2 o ho) λo' h1 h2=>⟨o',h1,h2.trans hd⟩;have ns:∀ {m'},s.heap.Ns env.locals m'→s'.heap.Ns env.locals m':=λ{m'} q=>ib q λo es ep ho hd r=>aD ((fr _ (.inl rfl)).2 o ho) λo' h1 h2=>⟨o',es,ep,h1,h2.trans hd,r⟩;refine⟨I.bH.mono x.keep x.hu,ub,I.kind,I.gl,I.bi,⟨lD I.bu.loc λZ b c=>⟨fU _ (.inl rfl),b,ns c⟩,λy c e=>lD (I.bu.fQ y c e) λZ b d=>⟨fU _ (.inr ⟨y,e⟩),b,cell e d⟩,I.bu.inj,I.bu.has⟩,bd,λa h=>(fr a h).1,λy i sl a b c=>?_,tabs,λe l h=>let⟨h1,h2,h3⟩:=I.outs e l h;⟨h1,h2,λp hp=>let q:=h3 p hp;let f:=Cp _ q.role;⟨q.kind,q.frame,f.1,q.apart,q.data,aD q.obj λo e1 e2=>aD (f.2 o e1) λo' e3 e4=>⟨o',e3,e4.trans e2⟩⟩⟩⟩;refine aD (vars y i sl a b c) λv p q=>⟨v,?_,q⟩;rcases p with⟨k1,m',n',e'⟩| ⟨k1,c',e1,e2⟩
 ·exact .inl ⟨k1,m',ns n',e'⟩
 ·exact .inr ⟨k1,c',e1,cell e1 e2⟩
theorem aN.tr(I:aN K B R T env hs ρ s)(x:Kept k B B' R R' T T' hs hs' s s')(kf:k .frame)(ub:UB (UU R' B') s')(bd:∀a,B' a→R' a=af)
  (vars:∀x i sl,aZ x K.X.names=aa i→get ρ' i=aa sl→d8 (env.kindOf x)→∃v,fP env s.heap x v∧fD K B' R' T' hs' s'.heap i v sl)
  (tabs:∀j t,hs'[j]? =aa t→dO K.hc (UU R' B') s'.heap (T' j).1 (T' j).2 t∧R' (T' j).2=aa (.tab j)):aN K B' R' T' env hs' ρ' s':=
 I.GN x (λa h=>let q:=x.role a _ kf h;⟨q.1,λo e=>⟨o,q.2 o e,rfl⟩⟩) ub bd vars tabs
theorem aN.Cq(p:Nat→Prop)(I:aN K B R T env hs ρ s)(x:Kept k B B' R R' T T hs hs s s')(kf:k .frame)(ko:∀i xs,¬p i→get ρ i=aa (.own xs)→k (.own i))(kt:∀j,k (.tab j))(ub:UB (UU R' B') s')(bd:∀a,B' a→R' a=af)
  (same:∀i,¬p i→get ρ' i=get ρ i) (vars:∀x i sl,p i→aZ x K.X.names=aa i→get ρ' i=aa sl→d8 (env.kindOf x)→∃v,fP env s.heap x v∧fD K B' R' T hs s'.heap i v sl):aN K B' R' T env hs ρ' s':=
 I.tr x kf ub bd (λy i sl hi hg hk=>by
  by_cases e:p i
  ·exact vars y i sl e hi hg hk
  ·replace hg:=same i e▸hg;refine aD (I.vars y i sl hi hg hk) λv p q=>?_;exact⟨v,p,q.kept x λxs h=>ko i xs e (h▸hg)⟩) λj t e=>let⟨p,q⟩:=I.tabs j t e;⟨p.mono x.keep x.hu λZ Z=>(x.role _ _ (kt j) q).2 _,(x.role _ _ (kt j) q).1⟩
end
theorem aN.live(I:aN K B R T env hs ρ s)(h:s.heap.get? a=af):R a=af∧¬B a:=by
 refine⟨?_,λb=>?_⟩
 ·induction q:R a with
  |none=>rfl
  |some r=>exact xE (I.ub a (.inl (gE q))) λo e=>zN (h▸e)
 ·exact xE (I.ub a (.inr b)) λo e=>zN (h▸e)
theorem aN.GO{B0:aY}(I:aN K B R T env hs ρ s){G:Nat→Prop}(m:Mv Ku G s s')(hK:∀a,Ku a→B a)(hn:∀a,B0 a→B a∨s.heap.get? a=af)(ha:∀a,B0 a→∃o,s'.heap.get? a=aa o):aN K B0 R T env hs ρ s':=by
 have hr:∀a o,R a≠af→s.heap.get? a=aa o→s'.heap.get? a=aa o:=λa o n e=>m.keep a o (λk=>n (I.bd a (hK a k))) e;refine I.Cq (k:=λZ=>True) (λZ=>False) ⟨λa o n e=>m.keep a o (λk=>n (.inr (hK a k))) e,λa o e n k=>n (k.imp id λb=>(hn a b).elim id λq=>by replace e:=q▸e;exact zN e),λa r Z h=>⟨h,λo=>hr a o (gE h)⟩,λj t e=>⟨⟨t,e⟩,rfl⟩⟩ trivial (λZ Z Z Z=>trivial) (λZ=>trivial)
  (λa h=>h.elim (λh=>let⟨o,e⟩:=I.ub a (.inl h);⟨o,hr a o h e⟩) (ha a)) (λa h=>(hn a h).elim (I.bd a) λe=>(I.live e).1) (λZ Z=>rfl) λZ Z Z e=>e.elim
theorem aN.Cr{B0:aY}(I:aN K B R T env hs ρ s){G:Nat→Prop}(m:Mv Ku G s s')(hK:∀a,Ku a→B a)(hB:∀a,B0 a→B a)(ha:∀a,Ku a→B0 a→∃o,s'.heap.get? a=aa o):aN K B0 R T env hs ρ s':=
 I.GO m hK (λa h=>.inl (hB a h)) λa h=>by
  by_cases k:Ku a
  ·exact ha a k h
  ·exact xE (I.ub a (.inr (hB a h))) λo e=>⟨o,m.keep a o k e⟩
theorem aN.YM{B0:aY}(I:aN K B R T env hs ρ s){G:Nat→Prop}(m:Mv Ku G s s')(hK:∀a,Ku a→B a)(_:∀a,B a→B0 a)(hn:∀a,B0 a→B a∨s.heap.get? a=af)(ha:∀a,B0 a→∃o,s'.heap.get? a=aa o):aN K B0 R T env hs ρ s':=I.GO m hK hn ha
theorem aN.move(I:aN K B R T env hs ρ s){G:Nat→Prop}(m:Mv Ku G s s')(hK:∀a,Ku a→B a)(ha:∀a,Ku a→∃o,s'.heap.get? a=aa o):aN K B R T env hs ρ s':=
 I.Cr m hK (λZ h=>h) λa h Z=>ha a h
theorem aN.ext(I:aN K B R T env hs ρ s)(x:Ext s s'):aN K B R T env hs ρ s':=I.move (Ku:=λZ=>False) (G:=λZ=>False) x.mv (λZ h=>h.elim) λZ h=>h.elim
theorem aN.NH(I:aN K B R T env hs ρ s)(x:Ext s s'){N:aY}(hn:∀a,N a→s.heap.get? a=af)(ha:∀a,N a→∃o,s'.heap.get? a=aa o):aN K (λa=>B a∨N a) R T env hs ρ s':=
 I.GO (Ku:=λZ=>False) (G:=λZ=>False) x.mv (λZ h=>h.elim) (λa h=>h.imp id (hn a)) λa h=>h.elim (λh=>let⟨o,e⟩:=I.ub a (.inr h);⟨o,x.keep a o e⟩) (ha a)
theorem GP(lM:env.scope.kind=.function)(f:jn U env s.heap){v:ak}(cm:dz (aV x ks))(hk:env.kindOf x=aa .local∨env.kindOf x=aa .cell)
  {Q:Unit→ay→Prop}{E:aW} (hQ:∀s',jn U env s'.heap→gB ks env s s'→fP env s'.heap x v→(∀y v',y≠x→fP env s.heap y v'→fP env s'.heap y v')→Q () s'):ar (aw prog K.w) A (qN env x v) Q E s:=by
 rcases hk with hk|hk
 ·refine lD f.loc λhu m hm=>Et (hp:=by refine rE lM ?_;rfl) hk hm λh' jq cB=>?_;have mv:gB ks env s {s with heap:=h',toks:=s.toks+1}:=⟨λa o e=>by
   by_cases ha:a=env.locals
   ·exact .inr (.inl ha)
   ·exact .inl ((cB.2 a ha).trans e),rfl,rfl⟩
  have cell:∀ {c v},s.heap.IsCell c v→h'.IsCell c v:=λ{c v} hc=>hc.sameBut cB λe=>by subst e;refine aD hc λo ho hd=>ib hm λo' es ep gA dB Z=>?_;replace gA:=iJ (ho▸gA);subst gA;replace dB:=hd▸dB;cases dB
  refine hQ _ ⟨⟨hu,_,jq⟩,λy c e=>let⟨a,v,q⟩:=f.fQ y c e;⟨a,v,cell q⟩,f.inj,f.has⟩ mv (.inl ⟨hk,_,jq,by simp⟩) λy v' bQ hv=>?_;rcases hv with⟨k1,m',n',e'⟩| ⟨k1,c,e1,e2⟩
  ·refine .inl ⟨k1,_,jq,?_⟩;exact rE (if_neg bQ) ((hm.agree n' y).trans e')
  ·exact .inr ⟨k1,c,e1,cell e2⟩
 ·refine xE (f.has x (.inl hk)) λc hc=>lD (f.fQ x c hc) λhu MT tv=>ahB lM hk hc tv λh' oP cB=>?_;have mv:gB ks env s {s with heap:=h'}:=⟨λa o e=>by
   by_cases ha:a=c
   ·exact .inr (.inr ⟨x,cm,ha▸hc⟩)
   ·exact .inl ((cB.2 a ha).trans e),rfl,rfl⟩
  have ns:∀ {m},s.heap.Ns env.locals m→h'.Ns env.locals m:=λ{m} hn=>hn.sameBut cB λe=>by refine aD tv λo ho hd=>ib hn λo' es ep gA dB Z=>?_;replace ho:=e.symm▸ho;replace ho:=iJ (gA▸ho);subst ho;replace hd:=dB▸hd;cases hd
  have cell:∀ {y c' v},env.cells.lookup y=aa c'→y≠x→s.heap.IsCell c' v→h'.IsCell c' v:=λ{y c' v} hy bQ q=>q.sameBut cB λe=>bQ (f.inj y x c (e▸hy) hc);refine hQ _ ⟨let⟨a,m,n⟩:=f.loc;⟨a,m,ns n⟩,λy c' e=>?_,f.inj,f.has⟩ mv (.inr ⟨.inl hk,c,hc,oP⟩) λy v' bQ hv=>?_
  ·refine lD (f.fQ y c' e) λa v' q=>?_;by_cases bQ:y=x
   ·subst bQ;replace e:=iJ (hc▸e);subst e;exact⟨a,_,oP⟩
   ·exact⟨a,v',cell e bQ q⟩
  ·rcases hv with⟨k1,m',n',e'⟩| ⟨k1,c',e1,e2⟩
   ·exact .inl ⟨k1,m',ns n',e'⟩
   ·exact .inr ⟨k1,c',e1,cell e1 bQ e2⟩
theorem aN.stored(I:aN K B R T env hs ρ s)(f':jn (UU R B) env s'.heap)(mv:gB ks env s s')
  (vars:Kept (· ≠.frame) B B R R T T hs hs s s'→∀y j sl,aZ y K.X.names=aa j→get ρ' j=aa sl→d8 (env.kindOf y)→∃v,fP env s'.heap y v∧fD K B R T hs s'.heap j v sl):aN K B R T env hs ρ' s':=by
 have nf:∀ {a r},R a=aa r→r≠.frame→∀o,s.heap.get? a=aa o→s'.heap.get? a=aa o:=λ{a r} h hr o e=>(mv.1 a o e).elim id λk=>absurd (iq (h.symm.trans (I.fr a (mE k)))) hr;have X:Kept (· ≠.frame) B B R R T T hs hs s s':=⟨λa o n e=>mv.keep I.bu n e,λZ Z Z n=>n,λa r k h=>⟨h,nf h k⟩,λj t e=>⟨⟨t,e⟩,rfl⟩⟩;refine⟨I.bH.mono X.keep X.hu,λa ha=>?_,I.kind,I.gl,I.bi,f',I.bd,I.fr,vars X,λj t e=>?_,λe l h=>?_⟩
 ·refine xE (I.ub a ha) λo e=>?_;rcases mv.1 a o e with h|rfl| ⟨z,_,h⟩
  ·exact⟨o,h⟩
  ·obtain⟨_,m,o,_,_,ho,_⟩:=f'.loc;exact⟨o,ho⟩
  ·exact mr (f'.fQ z a h) λZ v o ho Z=>⟨o,ho⟩
 ·exact xA (I.tabs j t e) λp q=>⟨p.mono X.keep X.hu λZ Z=>nf q nofun _,q⟩
 ·refine mq (I.outs e l h) λh1 h2 h3=>⟨h1,h2,λp hp=>?_⟩;obtain⟨q1,q2,q3,q4,q5,o,q6,q7⟩:=h3 p hp;exact⟨q1,q2,q3,q4,q5,o,(mv.1 _ o q6).elim id λk=>(q4 (mE k)).elim,q7⟩
theorem aN.store(I:aN K B R T env hs ρ s){v:ak}(hi:aZ x K.X.names=aa i)(cm:dz (aV x ks))(hk:env.kindOf x=aa .local∨env.kindOf x=aa .cell)
  (lG:fD K B R T hs s.heap i v sl) {Q:Unit→ay→Prop}{E:aW} (hQ:∀s',aN K B R T env hs (put ρ i sl) s'→gB ks env s s'→Q () s'):ar (aw prog K.w) A (qN env x v) Q E s:=by
 refine GP I.kind I.bu cm hk λs' f' mv hx hy=>hQ s' (I.stored f' mv λX y j tu hj hg jJ=>?_) mv;by_cases lH:j=i
 ·clear mv f' hk cm;subst lH;obtain rfl:=tq hi hj;replace hg:=iJ ((kW ..)▸hg);subst hg;exact⟨v,hx,lG.kept X λZ Z=>nofun⟩
 ·rw[fR sl lH]at hg;clear hx mv f' hk cm;exact aD (I.vars y j tu hj hg jJ) λv' p q=>⟨v',hy y v' (λe=>by subst e;replace hj:=hi▸hj;replace hj:=iJ hj;subst hj;exact lH rfl) p,q.kept X λZ Z=>nofun⟩
theorem aN.NI(I:aN K B R T env hs ρ s){v:ak}(hi:aZ x K.X.names=af)(cm:dz (aV x ks))(hk:env.kindOf x=aa .local∨env.kindOf x=aa .cell)
  {Q:Unit→ay→Prop}{E:aW} (hQ:∀s',aN K B R T env hs ρ s'→gB ks env s s'→fP env s'.heap x v→Q () s'):ar (aw prog K.w) A (qN env x v) Q E s:=
 GP I.kind I.bu cm hk λs' f' mv hx hy=>hQ s' (I.stored f' mv λX y j sl hj hg jJ=>let⟨v',p,q⟩:=I.vars y j sl hj hg jJ;⟨v',hy y v' (λe=>by replace hj:=e▸hj;replace hj:=hi▸hj;exact zN hj) p,q.kept X λZ Z=>nofun⟩) mv hx
theorem NJ:∀ {ρ:aM},get (dX is ρ) i=match get ρ i with
  |some (.own xs)=>cond (is.any (az i)) (aa (.val (.list xs))) (aa (.own xs))
  |o=>o:=by
 intro ρ;induction ρ with
 |nil=>rfl
 |cons p r ih=>
  obtain⟨j,sl⟩:=p;induction sl with
  |own xs=>
   show cond (az j i) (aa (cond (is.any (az j)) (.val (.list xs)) (.own xs))) (get (dX is r) i)=match cond (az j i) (aa (.own xs)) (get r i)with|some (.own xs)=>cond (is.any (az i)) (aa (.val (.list xs))) (aa (.own xs))|o=>o
   induction q:az j i with
   |true=>have:=fY q;subst this;dsimp only[cond];cases is.any (az j)<;>rfl
   |false=>exact ih
  |_=>
   show cond (az j i) _ (get (dX is r) i)=match cond (az j i) _ (get r i)with|some (.own xs)=>cond (is.any (az i)) (aa (.val (.list xs))) (aa (.own xs))|o=>o
   induction q:az j i with
   |true=>rfl
   |false=>exact ih
noncomputable def pZ(is:ax)(R:dC):dC:=λa=>match R a with
 |some (.own i)=>cond (is.any (az i)) af (aa (.own i))
 |r=>r
theorem NK(h:R a=af):pZ is R a=af:=by unfold pZ;exact rE h rfl
theorem GQ(h:pZ is R a≠af):R a≠af:=λq=>h (NK q)
set_option tactic.hygienic true in
theorem aN.freeze(I:aN K B R T env hs ρ s)(is:ax):aN K B (pZ is R) T env hs (dX is ρ) s:=by
 have X:Kept (λr=>∀i,r=.own i→is.any (az i)=ag) B B R (pZ is R) T T hs hs s s:=⟨λ_ _ _ e=>e,λa o _ n k=>n (k.imp GQ id),λa r k h=>⟨by
  unfold pZ;refine rE h ?_;induction r with
  |own i=>dsimp only;refine rE (k i rfl) ?_;rfl
  |_=>rfl,λ_ e=>e⟩,λj t e=>⟨⟨t,e⟩,rfl⟩⟩
 refine I.Cq (λi=>is.any (az i)∧∃xs,get ρ i=aa (.own xs)) X nofun (λi xs h hx j e=>?_) nofun (λa h=>I.ub a (h.imp GQ id)) (λa h=>NK (I.bd a h)) (λi h=>?_) λy i sl h hi hg hk=>?_
 ·cases e;induction q:is.any (az i)with
  |false=>rfl
  |true=>exact absurd ⟨q,xs,hx⟩ h
 ·refine rE NJ ?_;split
  ·rename_i xs hx;induction q:is.any (az i)with
   |false=>exact hx.symm
   |true=>exact absurd ⟨q,xs,hx⟩ h
  ·rfl
 ·refine lD h λq xs hx=>?_;replace hg:=hx▸NJ▸hg;dsimp only at hg;replace hg:=iJ (q▸hg);subst hg;refine fy (I.own y i xs hi hx hk) λl vs n e1 e2 e3 e4=>⟨_,e1,.list e3 (λh=>?_) (e4.mono X.keep X.hu)⟩;rcases h with h|h
  ·apply h;unfold pZ;refine rE e2 ?_;dsimp only;refine rE q ?_;rfl
  ·have:=I.bd l h;exact zS (e2▸this)
structure eA(R R':dC)(s s':ay):Prop where
 grow:∀a,R' a≠af→R a≠af∨s.heap.get? a=af
 mv:Mv (λa=>R a≠af) (λZ=>False) s s'
theorem eA.refl(R:dC)(s:ay):eA R R s s:=⟨λZ h=>.inl h,.refl _ _ _⟩
theorem eA.trans{iF jM:dC}{a b c:ay}(x:eA R iF a b)(y:eA iF jM b c):eA R jM a c:=by
 refine⟨λd h=>?_,x.mv.trans' y.mv (λd h=>x.grow d h) λZ h=>h.elim⟩;rcases y.grow d h with h|h
 ·exact x.grow d h
 ·by_cases hr:R d≠af
  ·exact .inl hr
  ·right;induction q:a.heap.get? d with
   |none=>rfl
   |some o=>exact zS (x.mv.keep d o hr q▸h)
theorem eA.ext(x:Ext s s'):eA R R s s':=⟨λZ h=>.inl h,x.mv⟩
theorem eA.dX(is:ax):eA R (pZ is R) s s:=⟨λZ h=>.inl (GQ h),.refl _ _ _⟩
theorem aN.dY(I:aN K B R T env hs ρ s)(m:gB ks env s s'):eA R R s s':=
 ⟨λZ h=>.inl h,m.mv.mono (λa h=>by refine rE (I.fr a (mE h)) ?_;exact λq=>by exact zS q) λZ h=>h⟩
end
section
variable(K:Kt)(C:l9)(CH:Option nC)(A:dU)
noncomputable def Left(B:aY)(R:dC)(T:dW)(env:bF)(hs:Hs)(s:ay)(fl:Fl)(dq:ji)(s':ay):Prop:=
 ∃ (R':dC) (T':dW),eA R R' s s'∧(∀j,j<hs.length→T' j=T j)∧match fl with
  | .next ρ' hs'=>dq=.next∧hs.length≤hs'.length∧aN K B R' T' env hs' ρ' s'
  | .ret d hs'=>∃v,dq=.ret v∧Rd (UU R' B) s'.heap v d∧hs.length≤hs'.length∧∃ρ',aN K B R' T' env hs' ρ' s'
noncomputable def d9(ks:cT)(st:a9)(rs:RS):Prop:=∀B R T env hs ρ s fl,dg ks env→aN K B R T env hs ρ s→ex K.tk C CH rs ρ hs=aa (fl,ae)→
 ∀ (Q:ji→ay→Prop) (E:aW),(∀dq s',Left K B R T env hs s fl dq s'→Q dq s')→ar (aw prog K.w) A (exec st env) Q E s
noncomputable def rL(ks:cT)(Cs:List a9)(Ct:bP):Prop:=∀B R T env hs ρ s fl,dg ks env→aN K B R T env hs ρ s→cb K.tk C CH Ct ρ hs=aa (fl,ae)→
 ∀ (Q:ji→ay→Prop) (E:aW),(∀dq s',Left K B R T env hs s fl dq s'→Q dq s')→ar (aw prog K.w) A (oz Cs env) Q E s
end
section
variable{K:Kt}
theorem Left.before{iF:dC}{T js:dW}{k7:Hs}{fl:Fl}{dq:ji}(x:eA R iF s ai)(hT:∀j,j<hs.length→js j=T j)(hl:hs.length≤k7.length)
  (h:Left K B iF js env k7 ai fl dq s'):Left K B R T env hs s fl dq s':=by
 refine cK h λR' T' e1 e2 e3=>⟨R',T',x.trans e1,λj hj=>(e2 j (hZ hj hl)).trans (hT j hj),?_⟩;induction fl with
 |next ρ' hs'=>exact⟨e3.1,aF hl e3.2.1,e3.2.2⟩
 |ret d hs'=>exact gz e3 λv f1 f2 f3 f4=>⟨v,f1,f2,aF hl f3,f4⟩
theorem Left.next{R':dC}{T:dW}(x:eA R R' s s')(I:aN K B R' T env hs ρ' s'):Left K B R T env hs s (.next ρ' hs) .next s':=
 ⟨R',T,x,λZ Z=>rfl,rfl,bZ _,I⟩
theorem rM{rs:RS}(h:d9 K C CH A ks st rs)(ms rd:ax):d9 K C CH A ks st (wrap ms rd rs):=by
 unfold wrap;induction only ms rd using bj with
 |nil=>exact h
 |cons i r=>intro B R T env hs ρ s fl hk I hex Q E hQ;exact h B (pZ (i::r) R) T env hs (dX (i::r) ρ) s fl hk (I.freeze _) hex Q E λdq s' L=>hQ dq s' (L.before (.dX _) (λZ Z=>rfl) (bZ _))
theorem YN:rL K C CH A ks [] .nil:=by intro B R T env hs ρ s fl hk I hex Q E hQ;obtain rfl:=W.bp (hex:W.ret (Fl.next ρ hs)=_);exact oA (hQ _ s (.next (.refl R s) I))
theorem YO{Cs:List a9}{rs:RS}{Ct:bP}(h:d9 K C CH A ks st rs)(hh:rL K C CH A ks Cs Ct):rL K C CH A ks (st::Cs) (.cons rs Ct):=by
 intro B R T env hs ρ s fl hk I hex Q E hQ;refine wE (hex:W.bind _ _=_) λzJ h1 hex=>gq (h B R T env hs ρ s zJ hk I h1 _ _ λdq ai L=>?_);induction zJ with
 |next bN k7=>refine VE L λiF js e1 e2 e3 e4 dn=>?_;subst e3;exact hh B iF js env k7 bN ai fl hk dn hex Q E λdq s' L=>hQ dq s' (L.before e1 e2 e4)
 |ret d k7=>obtain rfl:=W.bp hex;have L':=L;obtain⟨iF,js,e1,e2,v,e3,_⟩:=L;subst e3;exact hQ _ ai L'
theorem YQ{c:au}{a b:List a9}{rc:RE}{ra rb:bP}(hc:bg K C A ks c rc)(ha:rL K C CH A ks a ra)(hb:rL K C CH A ks b rb):d9 K C CH A ks (.If c a b p) (.ite rc ra rb):=by
 intro B R T env hs ρ s fl hk I hex Q E hQ;refine wE (hex:W.bind _ _=_) λx hx hex=>oE hex λq ht hex=>wO ((hc _ env hs ρ s x hk I.e hx).2 _ ht _ _ λai aq=>?_);induction q with
 |true=>exact ha B R T env hs ρ ai fl hk (I.ext aq) hex Q E λdq s' L=>hQ dq s' (L.before (.ext aq) (λZ Z=>rfl) (bZ _))
 |false=>exact hb B R T env hs ρ ai fl hk (I.ext aq) hex Q E λdq s' L=>hQ dq s' (L.before (.ext aq) (λZ Z=>rfl) (bZ _))
theorem YR{e:au}(he:bg K C A ks e r):d9 K C CH A ks (.Return (aa e) p) (.ret r):=by intro B R T env hs ρ s fl hk I hex Q E hQ;refine wE (hex:W.bind _ _=_) ?_;clear hex;intro x hx hex;obtain rfl:=W.bp hex;exact EA ((he _ env hs ρ s x hk I.e hx).1 _ _ λv ai aq rv=>hQ _ ai ⟨R,T,.ext aq,λZ Z=>rfl,v,rfl,rv,bZ _,ρ,I.ext aq⟩)
theorem aN.put{T:dW}(hk:dg ks env)(I:aN K B R T env hs ρ s)(jo:Ext aT s){v:ak}(hi:aZ x K.X.names=aa i)
  (cm:dz (aV x ks)) (r:Rd (UU R B) s.heap v d) {Q:Unit→ay→Prop}{E:aW} (hQ:∀s',Left K B R T env hs aT (.next (Ev.put ρ i (.val d)) hs) .next s'→Q () s'):ar (aw prog K.w) A (qN env x v) Q E s:=
 I.store (sl:=.val d) hi cm (mD hk cm) r λs' I' m=>hQ s' (.next ((eA.ext jo).trans (I.dY m)) I')
theorem YS{v:au}{t:Option au}(h:∀elt gs sc p,v≠.ListComp elt gs sc p)(hc:view v≠.other):swapsWith v t n env=pure ag:=by
 induction v using uz<;>first|rfl| (exact absurd rfl (h _ _ _ _))|exact absurd rfl hc
theorem YT{v:au}(hi:aZ x K.X.names=aa i)(cm:dz (aV x ks))(he:bg K C A ks v r)(nQ:∀env,swapsWith v (aa (.Name x p)) pos.line env=pure ag):
  d9 K C CH A ks (.Assign [.Name x p] v pos) (.asg i r):=by
 intro B R T env hs ρ s fl hk I hex Q E hQ;refine wE (hex:W.bind _ _=_) ?_;clear hex;intro d hd hex;obtain rfl:=W.bp hex;exact oB ((he _ env hs ρ s d hk I.e hd).1 _ _ λu ai aq ru=>(I.ext aq).put hk aq hi cm ru λs' L=>hQ _ s' L) (nQ env)
end
section
variable{K:Kt}
theorem YU(hh:A.handled=af){t:au}{relt:RE}{ri:RI}{ris:bf}{rgs:kJ}
  (hi:aZ x K.X.names=aa i) (cm:dz (aV x ks))
  (fb:scope.kind=.function) (kZ:distinct scope.names) (tE:freeOk ks scope.names)
  (ht:jm K.X scope.names t=aa tg) (hI:pV K C A ks it ri) (hl:cZ K C A scope.names ifs ris) (hr:rG K C A scope.names gs rgs) (he:bg K C A scope.names elt relt)
  (kY:(j7 tg++kP rgs).Nodup) (iD:∀i∈j7 tg++kP rgs,i∈fB K.X.names scope.names):
  d9 K C CH A ks (.Assign [.Name x p] (.ListComp elt (⟨t,it,ifs,0⟩::gs) scope q) pos) (.asg i (.comp (fB K.X.names scope.names) tg ri ris rgs relt)):=by
 intro B R T env hs ρ s fl hk I hex Q E hQ;obtain⟨b,nQ⟩:∃b,swapsWith (.ListComp elt (⟨t,it,ifs,0⟩::gs) scope q) (aa (.Name x p)) pos.line env=pure b:=⟨_,rfl⟩;refine wE (hex:W.bind _ _=_) ?_;clear hex;intro d hd hex;obtain rfl:=W.bp hex;induction b with
 |false=>have hs':=ND (pos:=q) hh fb kZ tE ht hI hl hr he kY iD;exact oB ((hs' _ env hs ρ s d hk I.e hd).1 _ _ λu ai aq ru=>(I.ext aq).put hk aq hi cm ru λs' L=>hQ _ s' L) nQ
 |true=>
  refine rE (exec_Assign_Name_used _ _ _ _ nQ) (aB (kI (aB ?_)));show ar _ A (do let _ ← A9 (.ListComp elt (⟨t,it,ifs,0⟩::gs) scope q) scope env it.pos (newList []) ag (eval it env) (aa (assign (.Name x p) env))) _ _ s;refine aB (ia (NA hh fb kZ tE hk I.e ht hI hl hr he kY iD hd (use:=aa (assign (.Name x p) env)) (Q:=λZ s'=>Q .next s') (E:=E) λs' D Cn x' hC hD hn r=>?_)
   (λZ s' hq=>bz (bz hq)) λZ Z e=>e)
  refine xE hn ?_;clear hn;intro GR hn;have YV:∀a,a=Cn→∃o,s'.heap.get? a=aa o:=λa h=>by refine fu hn λo Z Z ho Z=>?_;exact⟨o,h▸ho⟩
  have I':=I.NH x' (N:=λa=>a=Cn) (λa h=>h▸hC) YV;have YW:R Cn=af:=by
   induction q:R Cn with
   |none=>rfl
   |some r=>obtain⟨o,e⟩:=I.ub Cn (.inl (by refine rE q ?_;exact λq=>by exact zS q));exact zN (hC▸e)
  refine qO (I'.store (sl:=.val d) hi cm (mD hk cm) (r.mono (λZ Z Z e=>e) λa Z Z n k=>n ?_) λdh Cu mv=>?_)
  ·rcases k with k|k|k
   ·exact .inl (.inl k)
   ·exact .inl (.inr k)
   ·exact .inr k
  ·refine⟨GR,?_,λh' hs'=>?_⟩
   ·refine fu hn λo es ep ho rest=>⟨o,es,ep,?_,rest⟩;rcases mv.1 Cn o ho with h|h
    ·exact h
    ·have:=I.fr Cn (mE h);exact zN (YW▸this)
   ·have m2:Mv (λa=>a=Cn) (λZ=>False) dh {dh with heap:=h'}:=⟨λa o n e=>(hs'.2 a n).trans e,λZ Z Z e=>e,λe=>e,rfl⟩;have I3:=Cu.Cr (B0:=B) m2 (λa h=>.inr h) (λa h=>.inl h) λa h hb=>?_
    ·have m1:=(I'.dY mv).mv;refine hQ _ _ (.next ⟨λZ h=>.inl h,⟨λa o n e=>?_,λg o n e=>m2.gens g o id (m1.gens g o n (x'.gens g o e)),λe=>m2.bare (m1.bare (x'.bare e)),(m2.os.trans m1.os).trans x'.os⟩⟩ I3);exact m2.keep a o (λq=>by subst q;replace e:=hC▸e;exact zN e) (m1.keep a o n (x'.keep a o e))
    ·clear m2 hs' mv Cu;subst h;exact xE (I.ub a (.inr hb)) λo e=>zN (hC▸e)
end
section
variable{K:Kt}
theorem bJ.load(O:bU K)(I:bJ K U env hs ρ s)(hi:aZ x K.X.names=aa i)(hg:get ρ i=aa sl)(hk:d8 (env.kindOf x))
  (hQ:∀v,j8 K U s.heap hs v sl→Q v s):ar (aw prog K.w) A (loadName env x) Q E s:=by
 refine aD (I.vars x i sl hi hg hk) λv hv hs'=>?_;rcases hv with⟨k,m,n,e⟩| ⟨k|k,c,e1,e2⟩
 ·exact wJ I.kind k n e (hQ v hs')
 ·exact A1 I.kind k e1 e2 (hQ v hs')
 ·exact A2 I.kind k e1 e2 (hQ v hs') (O.nm x i hi).2
theorem YX{k:Option eC}(h:dz k):d8 k:=by
 induction k with
 |none=>exact zF h
 |some k=>induction k<;>first|rfl|exact zF h
theorem YY{o:wC}{op:ma}{a b:D}(ho:FK o=aa op)(hl:d7 a=af)(h:j3 op a b=aa (d,ae))(ra:Rd U s.heap va a)(rb:Rd U s.heap vb b):Gv K.w A U s (inplaceOp o va vb) d:=by
 intro Q E hQ;induction o with
 |Add=>
  replace ho:=iJ ho;subst ho;have h:uM a b=aa (d,ae):=h;unfold uM at h;induction q:cY a with
  |some i=>replace h:=q▸h;refine aD (y6 h) λj e9 h=>?_;subst e9;cases W.bp h;cases gc q;refine xE ra.iz λZ e9=>?_;subst e9;refine xE rb.iz λZ e9=>?_;subst e9;exact PyProof.Rows.iadd_int (hQ _ _ .tok (.int _ _))
  |none=>
   replace h:=q▸h;induction q':dD a with
   |some x=>
    replace h:=q'▸h;refine aD (nF h) λy e9 h=>?_;subst e9;refine xA (W.de h) λe9 hk=>?_;subst e9;cases kN q';refine xE ra.cQ λZ e9=>?_;subst e9;refine xE rb.cQ λZ e9=>?_;subst e9;refine PyProof.Rows.iadd_str (λt' tk=>?_) ?_
    ·exact rE (LG ..) (hQ _ _ .tok (.str _ _))
    ·exact rS (ic ..) (rS (ic ..) (bc hk))
   |none=>replace h:=q'▸h;exact zN (hl▸h)
 |Sub=>replace ho:=iJ ho;subst ho;refine cK (LD h) λi j e9 bC h=>?_;subst e9;subst bC;cases W.bp h;refine xE ra.iz λZ e9=>?_;subst e9;refine xE rb.iz λZ e9=>?_;subst e9;exact PyProof.Rows.isub_int (hQ _ _ .tok (.int _ _))
 |_=>exact zN ho
theorem YZ(O:bU K){v:au}{o:wC}{op:ma}(hi:aZ x K.X.names=aa i)(cm:dz (aV x ks))(ho:FK o=aa op)(he:bg K C A ks v r):
  d9 K C CH A ks (.AugAssign (.Name x p) o v pos) (.aug i op r):=by
 intro B R T env hs ρ s fl hk I hex Q E hQ;refine oE hex λa hg e1=>wE e1 λy hy e2=>?_;induction q:d7 a with
 |some xs=>exact zN (q▸e2)
 |none=>replace e2:=q▸e2;refine wE e2 ?_;clear e2;intro z hz e3;clear e1 hex;obtain rfl:=W.bp e3;refine wpAny_AugAssign_Name (I.e.load O hi (E7 hg) (nJ hk (YX cm)) λva ha=>(he _ env hs ρ s y hk I.e hy).1 _ _ λvb ai aq rb=>?_);exact YY ho q hz (Rd.ext aq ha) rb _ _ λu av aC ru=>(I.ext (aq.trans aC)).put hk (aq.trans aC) hi cm ru λs' L=>hQ _ s' L
end
section
variable{K:Kt}
variable{T:dW}
theorem aN.Y0(I:aN K B R T env hs ρ s)(hi:aZ x K.X.names=aa i)(hv:fP env s.heap x (.ref a))(ha:R a=aa (.own i)){tk:Nat}{vs:Array ak}{xs:List D}
  (cB:yH a s.heap h') (hg:h'.get? a=aa (cy vs n)) (hr:aI (UU R B) s.heap vs.toList xs):aN K B R T env hs (Ev.put ρ i (.own xs)) {s with heap:=h',toks:=tk}:=by
 have zK:UU R B a:=.inl (gE ha);refine I.Cq (· =i) (k:=(· ≠.own i)) ⟨λb o n e=>(cB.2 b λq=>n (q▸zK)).trans e,λZ Z Z n=>n,λb r k h=>⟨h,λo e=>(cB.2 b λq=>k (by subst q;replace h:=ha▸h;exact(iq h).symm)).trans e⟩,λj t e=>⟨⟨t,e⟩,rfl⟩⟩
  nofun (λj Z n Z e=>n (by cases e;rfl)) nofun (λb hb=>?_) I.bd (λj n=>fR _ n _) λy j sl e hj zy jJ=>?_
 ·by_cases zL:b=a
  ·exact⟨_,zL▸hg⟩
  ·exact xE (I.ub b hb) λo e=>⟨o,(cB.2 b zL).trans e⟩
 ·clear jJ;subst e;obtain rfl:=tq hi hj;clear hj hi;replace zy:=iJ ((kW ..)▸zy);subst zy;exact⟨_,hv,a,vs,n,rfl,ha,hg,hr.mono (λb o n e=>(cB.2 b λq=>n (q▸zK)).trans e) λZ Z Z n=>n⟩
theorem Y1{tk:Nat}(x:Ext s ai)(ha:R a≠af)(cB:yH a ai.heap h'):eA R R s {ai with heap:=h',toks:=tk}:=
 ⟨λZ h=>.inl h,λb o n e=>(cB.2 b (λq=>n (q▸ha))).trans (x.keep b o e),λg o Z e=>x.gens g o e,x.bare,x.os⟩
theorem NL:u4=("append" :ah):=by decide
theorem GU(O:bU K){m:ah}{id:String}(hi:aZ x K.X.names=aa i)(ez:d8 (aV x ks))(hl:cH ap p)(hn:aX rs.len 20)
  (ha:cZ K C A ks args rs) (slot:Uw "list" m id) (GV:typeOf (.builtin id)=pure (.type "method_descriptor")) (hk:dg ks env) (I:aN K B R T env hs ρ s) {xs ys zs:List D} (hg:get ρ i=aa (.own xs))
  (hy:eD K.tk C hs rs ρ=aa (ys,ae)) (hc:∀ (ai:ay) a vs n us,ai.heap.get? a=aa (cy vs n)→aI (UU R B) ai.heap vs.toList xs→aI (UU R B) ai.heap us ys→∀ (Q E:aW),
   (∀h' tk tG n',yH a ai.heap h'→h'.get? a=aa (cy tG n')→aI (UU R B) ai.heap tG.toList zs→Q .none {ai with heap:=h',toks:=tk})→ar (aw prog K.w) A (call (.builtin id) (.ref a::us)) Q E ai)
  {Q:ji→ay→Prop}{E:aW} (hQ:∀dq s',Left K B R T env hs s (.next (put ρ i (.own zs)) hs) dq s'→Q dq s'):
  ar (aw prog K.w) A (exec (.Expr (.Call (.Attribute (.Name x q) m ap) args [] p) pos) env) Q E s:=by
 have hp:=rB (p:=p) (env:=env) ha;refine fy (I.own x i xs hi hg (nJ hk ez)) λa vs n e1 e2 e3 e4=>?_;have hint:interactive env=ag:=by unfold interactive;refine rE I.kind ?_;rfl
 refine UA ?_ hint;refine pP rfl hl (rE hp.2.2 (bc hn)) hp.2.1 ?_;have name:∀ {Q E:aW},Q (.ref a) s→ar (aw prog K.w) A (eval (.Name x q) env) Q E s:=λ{Q E} h=>by
  refine yA ?_ (O.nm x i hi).1;rcases e1 with⟨k,m,n,e⟩| ⟨k|k,c,f1,f2⟩
  ·exact wJ I.kind k n e h
  ·exact A1 I.kind k f1 f2 h
  ·exact A2 I.kind k f1 f2 h (O.nm x i hi).2
 refine name λpl=>Kz (T:= "list") ⟨_,e3,rfl⟩ ahH slot GV (λb e=>by cases e;exact⟨_,e3,rfl⟩) (uB hp.1 (xm hk ha I.e hy λus ai aq r=>?_));refine hc ai a vs n us (aq.keep _ _ e3) (e4.ext aq) r _ _ λh' tk tG n' f1 f2 f3=>hQ _ _ (.next (Y1 aq (by refine rE e2 ?_;exact λq=>by exact zS q) f1) ((I.ext aq).Y0 hi (e1.ext aq) e2 f1 f2 f3))
theorem NM(O:bU K){e:RE}(hi:aZ x K.X.names=aa i)(ez:d8 (aV x ks))(hl:cH ap p)
  (ha:cZ K C A ks args (.cons e .nil)):d9 K C CH A ks (.Expr (.Call (.Attribute (.Name x q) u4 ap) args [] p) pos) (.app i e):=by
 intro B R T env hs ρ s fl hk I hex Q E hQ;refine oE hex λxs hg e1=>wE e1 λy hy e2=>wE e2 λZ c0 e3=>xA (W.de c0) λZ c0=>?_;clear hex;obtain rfl:=W.bp e3;refine rE NL (GU O hi ez hl rfl ha ahI ahJ hk I (BD hg) (ys:=[y]) (xh hy) (λai a vs n us e1 e2 e3 Q E h=>?_) hQ);clear hy hg hQ I hk s;refine aD (nN e3) λv e9 rv=>?_;subst e9;have eY:vs.size≤qF:=by have h1:=e2.length;have h2:xs.length+1≤1000000:=bc c0;replace h1:=eL▸h1;refine rE lu ?_;lia
 exact B7 e1 eY λh' n' f1 f2=>h h' ai.toks _ n' f2 f1 (rE KG (e2.append (.one rv)))
theorem NN{h:aP}{vs:Array ak}(f:Array ak→Array ak)(e:h.get? a=aa (cy vs n)):∃n',(h.update a (uy f)).get? a=aa (cy (f vs) n'):=⟨_,get?_update_seq e f⟩
theorem Y2:FJ=("insert" :ah):=by decide
theorem Y3:BO=("extend" :ah):=by decide
theorem Y4(y:α)(k:Nat):∀l:List α,l.take k++y::l.drop k=jl y k l:=by
 induction k with
 |zero=>exact λZ=>rfl
 |succ k ih=>
  intro l;induction l using bj with
  |nil=>rfl
  |cons x l=>exact congrArg (x:: ·) (ih l)
theorem Y5(O:bU K){e e':RE}(hi:aZ x K.X.names=aa i)(ez:d8 (aV x ks))(hl:cH ap p)
  (ha:cZ K C A ks args (.cons e (.cons e' .nil))):d9 K C CH A ks (.Expr (.Call (.Attribute (.Name x q) FJ ap) args [] p) pos) (.ins i e e'):=by
 intro B R T env hs ρ s fl hk I hex Q E hQ;refine oE hex λxs hg e1=>wE e1 λy0 GK e2=>wE e2 λy hy e3=>oE e3 λk0 e4 e5=>oE e5 λk e6 e7=>wE e7 λZ c0 e8=>xA (W.de c0) λZ c0=>?_;obtain rfl:=VV e6;obtain rfl:=gc e4;clear hex e1 e2 e3 e4 e5 e6 e7;obtain rfl:=W.bp e8;refine xA (fJ.mp c0) λh1 h3=>?_;have h1:=bc h1;have h3:=bc h3;refine rE Y2 (GU O hi ez hl rfl ha ahK F.type_list_insert hk I (BD hg) (ys:=[.int (k:Int),y]) (BV GK hy) (λai a vs n us e1 e2 e3 Q E h=>?_) hQ);refine cK (xo e3) λu v e9 ru rv=>?_;subst e9;refine xE (rf ru) λt e9=>?_;subst e9;have pR:=e2.length;replace pR:=eL▸pR;generalize hj:(k:Int)=j;refine D7 ahK ⟨_,e1,rfl⟩ F.entry_list_insert (F.args_list_insert_3 _ _ _) (AutoListH.list_insert_list_int_val_1 a vs n j _ v ?_ (by refine rE lu ?_;lia)) ⟨e1,?_⟩
 ·have:TU j:=by unfold TU;refine rE (jW ..) ?_;rewrite[decide_eq_true_iff];rw[decide_eq_true_iff];lia
  exact rE this f7
 ·obtain⟨n',jq⟩:=NN (λxs=>have k:=if j<0 then(j+((xs.size:Nat):Int)).toNat else min j.toNat xs.size;(xs.extract 0 k).push v++xs.extract k) e1;refine h _ ai.toks _ n' (A6 ..) jq ?_;dsimp only;refine rS hj (rE (if_neg (Kc.mpr (jd k))) (rE (UC ..) (rE (DY (by lia)) ?_)));refine rE DZ (rE KG (rE ahL (rE ahL ?_)));have hm:((vs.toList.extract 0 k)++[v])++vs.toList.extract k vs.size=vs.toList.take k++v::vs.toList.drop k:=by refine rE (d5 ..) ?_;show(vs.toList.drop 0).take (k - 0)++v::(vs.toList.drop k).take (vs.size - k)=_;exact rE Kk (rE (Nat.sub_zero ..) (rE (List.take_of_length_le (l:=vs.toList.drop k) (by rw[uu,eL];exact bZ _)) rfl))
  refine rE hm (rS (Y4 ..) ?_);exact(e2.take k).append (.cons rv (e2.drop k))
theorem Y6(O:bU K){e:RE}(hi:aZ x K.X.names=aa i)(ez:d8 (aV x ks))(hl:cH ap p)
  (ha:cZ K C A ks args (.cons e .nil)):d9 K C CH A ks (.Expr (.Call (.Attribute (.Name x q) BO ap) args [] p) pos) (.ext i e):=by
 intro B R T env hs ρ s fl hk I hex Q E hQ;refine oE hex λxs hg e1=>wE e1 λy hy e2=>oE e2 λys e3 e4=>wE e4 λZ c0 e5=>xA (W.de c0) λZ c0=>?_;obtain rfl:=nE e3;clear hex e1 e2 e3 e4;obtain rfl:=W.bp e5;have c0:=bc c0;refine rE Y3 (GU O hi ez hl rfl ha ahM F.type_list_extend hk I (BD hg) (ys:=[.list ys]) (xh hy) (λai a vs n us e1 e2 e3 Q E h=>?_) hQ);refine aD (nN e3) λv e9 rv=>?_;subst e9;refine fy rv.listI λb jH n2 e9 f1 Z f3=>?_;subst e9;have h1:=e2.length;have h2:=f3.length;rw[eL]at h1 h2;have hz:∀k,k≤1000000→k≤qF:=λk hk=>by refine rE lu ?_;lia
 refine D7 ahM ⟨_,e1,rfl⟩ F.entry_list_extend (F.args_list_extend_2 _ _) (AutoSeq1.list_extend_list_list_0 a vs n b jH n2 ?_ (hz _ (by lia)) (Ba (hz _ (by lia)))) ⟨e1,f1,?_⟩
 ·have:TV (vs.size+jH.size)=ag:=by unfold TV;exact decide_eq_false (pz.mpr (hz _ (by lia)))
  exact rE this (rE (ahN ..) f7)
 ·exact xE (NN (λxs=>xs++jH) e1) λn' jq=>h _ ai.toks _ n' (A6 ..) jq (rE DZ (e2.append f3))
end
section
variable{K:Kt}
variable{T:dW}
theorem GW{h:aP}{xs:List D}(r:aI U h vs xs):aI (λb=>U b∨b=h.objs.size) h vs xs:=
 B6 (λa k=>k.imp id fun(e:a=h.objs.size)=>e▸eM h) r
theorem Y7(hl:cZ K C A ks es rs)(hn:aX rs.len 1000)(hk:dg ks env)(I:bJ K U env hs ρ s){xs:List D}(hx:eD K.tk C hs rs ρ=aa (xs,ae)):
  pQ K.w A U s (eval (.List es p) env) xs:=by
 intro Q E hQ;refine List_ (BY hk hl I hx _ _ λvs ai aq r=>wH ?_ ?_)
 ·refine hQ _ _ (aq.trans .push) (jK aq (eM _)) ⟨_,0,eT _ rfl,?_⟩;exact rE AW ((GW r).ext (.push (s:=ai) (k:=ai.toks)))
 ·exact rE r.length (rE (vf hx) (aF (bc hn) (by refine rE lu ?_;lia)))
theorem Y8{l r:au}{ra rb:RE}(ha:bg K C A ks l ra)(hb:bg K C A ks r rb)(hk:dg ks env)(I:bJ K U env hs ρ s){xs:List D}(hx:ev K.tk C hs (.bin .add ra rb) ρ=aa (.list xs,ae)):
  pQ K.w A U s (eval (.BinOp l .Add r p) env) xs:=by
 intro Q E hQ;refine wE (hx:W.bind _ _=_) λx zM ao=>wE ao λy Y9 ao=>wpAny_BinOp ((ha U env hs ρ s x hk I zM).1 _ _ λva ai aq ra=>(hb U env hs ρ ai y hk (I.ext aq) Y9).1 _ _ λvb av aC rb=>?_);have ra:=ra.ext aC;have ao:uM x y=_:=ao;unfold uM at ao;induction q:cY x with
 |some i=>replace ao:=q▸ao;refine aD (y6 ao) λj e9 e=>?_;subst e9;cases W.bp e
 |none=>
 replace ao:=q▸ao;induction q':dD x with
 |some t=>replace ao:=q'▸ao;refine aD (nF ao) λu e9 e=>?_;subst e9;refine xA (W.de e) λe Z=>?_;cases e
 |none=>
 replace ao:=q'▸ao;refine aD (y7 ao) λx e9 e1=>?_;subst e9;refine aD (y7 e1) λy e9 e2=>?_;subst e9;refine xA (W.de e2) λe3 hz=>?_;clear ao e1 e2;cases e3;refine fy ra.listI λZ Z Z e9 e1 n1 r1=>?_;subst e9
 ·
  refine fy rb.listI λZ Z Z e9 e2 n2 r2=>?_;subst e9
  ·
   have hz:_≤qF:=bc hz;replace hz:=je r2.length▸je r1.length▸hz;refine concat_meets ⟨_,e1,rfl⟩ ⟨_,e2,rfl⟩ noFill_list_add seq_list_add ahg ahh (ahi _ _) (list_addW _ _ _ _ _ _ af af #[] #[] (by simpa using hz)) ⟨e1,e2,?_⟩;refine hQ _ _ ((aq.trans aC).trans .push) (jK (aq.trans aC) (eM _)) ⟨_,0,eT _ rfl,?_⟩;exact rE DZ (((GW r1).append (GW r2)).ext (.push (s:=av) (k:=av.toks)))
theorem aN.GX(I:aN K B R T env hs ρ s)(x:Ext s s')(hn:s.heap.get? a=af)(ha:∃o,s'.heap.get? a=aa o)(r:Rl):aN K B (λb=>if b=a then aa r else R b) T env hs ρ s':=by
 refine xA (I.live hn) λZa Zb=>?_;have hr:∀ {b r'},R b=aa r'→(if b=a then aa r else R b)=aa r':=λ{b r'} h=>by exact rE (if_neg (λe=>by replace h:=e▸h;replace h:=Za▸h;exact zN h)) h
 have hU:∀b,UU (λb=>if b=a then aa r else R b) B b→UU R B b∨b=a:=λb h=>by
  by_cases e:b=a
  ·exact .inr e
  ·exact .inl (h.imp (λh=>by dsimp only at h;replace h:=if_neg e▸h;exact h) id)
 refine I.Cq (λZ=>False) (k:=λZ=>True) ⟨λb o Z e=>x.keep b o e,λb o e n k=>(hU b k).elim n (λq=>by replace e:=q▸e;replace e:=hn▸e;exact zN e),λb r' Z h=>⟨hr h,λo=>x.keep b o⟩,λj t e=>⟨⟨t,e⟩,rfl⟩⟩ trivial (λZ Z Z Z=>trivial) (λZ=>trivial) (λb h=>?_) (λb h=>?_) (λZ Z=>rfl) λZ Z Z e=>e.elim
 ·rcases hU b h with h|h
  ·exact xE (I.ub b h) λo e=>⟨o,x.keep b o e⟩
  ·exact h▸ha
 ·refine(if_neg λe:b=a=>Zb (e▸h)).trans (I.bd b h)
theorem GY{r:Rl}(x:Ext s s')(hn:s.heap.get? a=af):eA R (λb=>if b=a then aa r else R b) s s':=
 ⟨λb h=>by
  by_cases e:b=a
  ·exact .inr (e▸hn)
  ·replace h:=if_neg e▸h;exact .inl h,x.mv⟩
theorem NO{v:au}(hi:aZ x K.X.names=aa i)(cm:dz (aV x ks))(nQ:∀env,swapsWith v (aa (.Name x p)) pos.line env=pure ag)
  (hv:∀U env hs ρ s xs,dg ks env→bJ K U env hs ρ s→ev K.tk C hs r ρ=aa (.list xs,ae)→pQ K.w A U s (eval v env) xs):d9 K C CH A ks (.Assign [.Name x p] v pos) (.own i r):=by
 intro B R T env hs ρ s fl hk I hex Q E hQ;refine wE (hex:W.bind _ _=_) λd hd hex=>aD (y7 hex) λxs e9 e=>?_;subst e9;clear hex;obtain rfl:=W.bp e;refine oB (hv _ env hs ρ s xs hk I.e hd _ _ λa ai aq hn hl=>?_) (nQ env);refine gy hl ?_;clear hl;intro vs n e1 e2;have dn:=I.GX aq hn ⟨_,e1⟩ (.own i);refine dn.store (sl:=.own xs) hi cm (mD hk cm) ⟨a,vs,n,rfl,if_pos rfl,e1,e2.mono (λZ Z Z e=>e) λb Z Z n k=>n ?_⟩ λs' I' m=>hQ _ s' (.next ((GY aq hn).trans (dn.dY m)) I');rcases k with k|k
 ·by_cases e:b=a
  ·exact .inr e
  ·dsimp only at k;replace k:=if_neg e▸k;exact .inl (.inl k)
 ·exact .inl (.inr k)
end
section
variable{K:Kt}
variable{T:dW}
theorem Zc(hh:A.handled=af){t:au}{v:ak}{x:D}(hk:dg ks env)(I:aN K B R T env hs ρ s)(ht:jm K.X ks t=aa tg)
  (hb:eU tg x ρ=aa ρ') (r:Rd (UU R B) s.heap v x) {Q:Unit→ay→Prop}{E:aW} (hQ:∀s',aN K B R T env hs ρ' s'→Mv (eG ks env) (λZ=>False) s s'→Q () s'):ar (aw prog K.w) A (assign t env v) Q E s:=by
 unfold jm at ht;induction hn:kR K.X ks t with
 |some i=>replace ht:=iJ (hn▸ht);subst ht;replace hb:=iJ hb;subst hb;refine cK (rC hn) λy q e9 h1 hi=>?_;subst e9;exact qO (I.store (sl:=.val x) hi h1 (mD hk h1) r λs' I' m=>hQ s' I' m.mv)
 |none=>
  replace ht:=hn▸ht;refine oE ht λes he ht=>oE ht λp2 hp ht=>oE ht λi hi ht=>oE ht λj hj rF=>?_;clear hn ht;clear ht;refine lC (BJ he) λk p e9=>?_;subst e9;clear ht he;obtain rfl:=zv hp;obtain⟨e1,e2⟩:=p2;refine cK (rC hi) λy q h3 h1 vk=>cK (rC hj) λz q' h4 h2 vm=>?_;clear hi hj;have h3:e1=_:=h3;have h4:e2=_:=h4;clear ht hp;subst h3 h4;induction jL:az i j with
  |true=>exact zN (jL▸rF)
  |false=>clear h4 h3;replace rF:=iJ (jL▸rF);subst rF;refine oE hb λl eV vo=>oE vo λab hl pS=>?_;clear hb vo;obtain⟨a,b⟩:=ab;obtain rfl:=Ge hl;clear hl;replace pS:=iJ pS;subst pS;refine rE (KA ..) (aB (kI ?_));show ar _ A (unpack v [(ag,assign (.Name y q) env),(ag,assign (.Name z q') env)]) Q E s;unfold unpack;refine aB (jg (Gb hh r (xs:=[a,b]) (w7 eV) λvs ai aq rv=>?_));clear eV p k;refine cK (xo rv) λva vb e9 ra rb=>?_;subst e9;show ar _ A (Ew [assign (.Name y q) env,assign (.Name z q') env] [va,vb]) Q E ai;refine wL (qO ((I.ext aq).store (sl:=.val a) vk h1 (mD hk h1) ra λav gC m₂=>?_));refine wL (qO (gC.store (sl:=.val b) vm h2 (mD hk h2) (m₂.slot (K:=K) (sl:=.val b) (hs:=hs) (I.ext aq).bu rb) λaR pT tA=>Ex ?_));exact hQ aR pT ((aq.mv).trans (m₂.mv.trans tA.mv))
inductive FI(St:(aE→Prop)→List Ev.D→ay→Prop)(go:List Ev.D→aM→Hs→Prop)(SI:(aE→Prop)→dC→(Nat→aE × aE)→Hs→aM→ay→Prop)(R:dC)(T:dW)(hs:Hs)(s aR:ay)(n:Nat)(s':ay):Prop
 |mk (Wn:aY) (xs:List Ev.D) (ρ':aM) (hs':Hs) (R':dC) (T':dW) (hn:xs.length=n) (hW:∀a,Wn a→R a≠af∨s.heap.get? a=af) (I:SI Wn R' T' hs' ρ' s') (st:St Wn xs s') (f:go xs ρ' hs') (gr:∀a,R' a≠af→R a≠af∨aR.heap.get? a=af) (mv:Mv (λa=>R a≠af) (λZ=>False) s s')
  (al:∀a,s'.heap.get? a=af→R a≠af∨aR.heap.get? a=af) (hT:∀j,j<hs.length→T' j=T j) (hl:hs.length≤hs'.length):FI St go SI R T hs s aR n s'
theorem Zd(hh:A.handled=af){t:au}{ri:RI}{rb:bP}(ht:jm K.X ks t=aa tg)(tB:rL K C CH A ks body rb){fl:Fl}(hk:dg ks env)(I:aN K B R T env hs ρ s)
  (Gs:∀x,uE it env x=pure x) (Gu:∀xs,fO K.tk C hs ri ρ=aa (xs,ae)→zB K.w A (UU R B) s (eval it env) xs) (hex:ex K.tk C CH (.loop tg ri rb) ρ hs=aa (fl,ae)) (Q:ji→ay→Prop) (E:aW)
  (hQ:∀dq s',Left K B R T env hs s fl dq s'→Q dq s'):ar (aw prog K.w) A (exec (.For t it body [] pos) env) Q E s:=by
 refine wE (hex:W.bind (fO K.tk C hs ri ρ) (λxs=>dE (λx ρ hs=>(eU tg x ρ).bind λρ'=>cb K.tk C CH rb ρ' hs) xs ρ hs)=_) λxs mC hex=>wpAny_For (Gu xs mC _ _ λv ai aq hw=>hw ai (.refl _) _ _ λIv Wr G St aR aC fw fg It st=>?_) Gs;have xy:Ext s aR:=aq.trans aC;have up:∀ {a:aE},aR.heap.get? a=af→ai.heap.get? a=af:=λh=>jK aC h;have pT:=I.NH xy fw (It.alive _ _ st);have bw:∀a,B a→¬Wr a:=λa h hw=>by exact xE (I.ub a (.inr h)) λo e=>zN (fw a hw▸e)
 refine ahO (FI St (λxs ρ hs=>dE (λx ρ hs=>(eU tg x ρ).bind λρ'=>cb K.tk C CH rb ρ' hs) xs ρ hs=aa (fl,ae)) (λWn R T hs ρ s=>aN K (λa=>B a∨Wn a) R T env hs ρ s) R T hs s aR) (λn s' hinv=>?_) xs.length ⟨Wr,xs,ρ,hs,R,T,rfl,λa h=>.inr (fw a h),pT,st,hex,λZ h=>.inl h,xy.mv,λa h=>.inr h,λZ Z=>rfl,bZ _⟩;obtain⟨Wn,jr,bN,k7,iF,js,hn,pW,I1,zG,f1,vy,NP,NQ,NR,nR⟩:=hinv;have NS:∀a,B a→¬Wn a:=λa h hw=>by
  rcases pW a hw with k|k
  ·exact k (I.bd a h)
  ·exact xE (I.ub a (.inr h)) λo e=>zN (k▸e)
 induction jr using bj with
 |nil=>clear hw bw pT st fw aC Wr aq hex;obtain rfl:=W.bp (f1:W.ret (Fl.next bN k7)=_);refine It.done s' _ _ zG λcq mv=>oA ?_;have I4:=I1.Cr (B0:=B) mv (λa h=>.inr h) (λa h=>.inl h) λa h hb=>absurd h (NS a hb);exact hQ _ cq ⟨iF,js,⟨λa h=>(vy a h).imp id λh=>jK xy h,NP.trans' mv pW λg h=>.inr (fg g h)⟩,NR,rfl,nR,I4⟩
 |cons x jr=>
  refine wE (f1:W.bind _ _=_) λzJ g1 g2=>oE g1 λcR hb g1=>It.next x jr s' _ _ zG λv cq W' vp vr mv rv rJ=>?_
  have NT:∀a,W' a→∃o,cq.heap.get? a=aa o:=It.alive _ _ rJ;have xv:∀a,W' a→R a≠af∨s.heap.get? a=af:=λa h=>by
   rcases vr a h with h|h
   ·exact pW a h
   ·exact(NQ a h).imp id λe=>jK xy e
  have Ze:∀a,B a→∃o,cq.heap.get? a=aa o:=λa h=>by exact xE (I1.ub a (.inr (.inl h))) λo e=>⟨o,mv.keep a o (NS a h) e⟩
  have I4:=I1.YM (B0:=λa=>B a∨W' a) mv (λa h=>.inr h) (λa h=>h.imp id (vp a)) (λa h=>h.elim (λh=>.inl (.inl h)) λh=>(vr a h).imp .inr id) (λa h=>h.elim (Ze a) (NT a));have NU:Mv (λa=>R a≠af) (λZ=>False) s cq:=NP.trans' mv pW λg h=>.inr (fg g h);have Zf:∀a,iF a≠af→R a≠af∨aR.heap.get? a=af:=vy;have NV:∀a,cq.heap.get? a=af→R a≠af∨aR.heap.get? a=af:=λa h=>by
   by_cases hW:Wn a
   ·exact xE (NT a (vp a hW)) λo e=>zS (e▸h)
   ·induction q:s'.heap.get? a with
    |none=>exact NQ a q
    |some o=>exact zS (mv.keep a o hW q▸h)
  have rx:Rd (UU iF (λa=>B a∨W' a)) cq.heap v x:=rv _ (λa h=>by
   rcases h with h|h|h
   ·rcases vy a h with h|h
    ·exact .inl (.inl (.inl h))
    ·exact .inl (.inr (up h))
   ·exact .inl (.inl (.inr h))
   ·exact .inr h) λa h=>by
   rcases h with h|h|h
   ·exact .inl (I1.ub a (.inl h))
   ·exact .inl (I1.ub a (.inr (.inl h)))
   ·exact .inr h
  refine It.own _ _ _ _ _ _ rJ (Zc hh hk I4 ht hb rx λlN I5 m5=>?_);have zO:∀a,eG ks env a→R a≠af:=λa h=>by refine rE (I.fr a (mE h)) ?_;exact λq=>by exact zS q
  have GZ:∀a,eG ks env a→((UU R B a∨ai.heap.get? a=af)∧¬W' a):=λa h=>by
   refine⟨.inl (.inl (zO a h)),λhW=>?_⟩;have h1:iF a=aa .frame:=I1.fr a (mE h);rcases vr a hW with k|k
   ·exact zN (I1.bd a (.inr k)▸h1)
   ·obtain⟨o,e⟩:=I1.ub a (.inl (by refine rE h1 ?_;exact λq=>by exact zS q));exact zN (k▸e)
  have Cc:St W' jr lN:=It.frame _ _ _ _ _ rJ m5 GZ λZ h=>h.elim;have G0:∀a,lN.heap.get? a=af→R a≠af∨aR.heap.get? a=af:=λa h=>by
   by_cases hF:eG ks env a
   ·exact .inl (zO a hF)
   ·induction q:cq.heap.get? a with
    |none=>exact NV a q
    |some o=>exact zS (m5.keep a o hF q▸h)
  have G1:Mv (λa=>R a≠af) (λZ=>False) s lN:=NU.trans (m5.mono zO λZ h=>h);refine tB _ iF js env k7 cR lN zJ hk I5 g1 _ _ λdq lO L=>cK L λjM iX sp xB L=>?_;have NW:∀a,jM a≠af→R a≠af∨aR.heap.get? a=af:=λa h=>(sp.grow a h).elim (vy a) (G0 a);have NX:Mv (λa=>R a≠af) (λZ=>False) s lO:=G1.trans' sp.mv (λa h=>(vy a h).imp id λh=>jK xy h) λZ h=>h.elim;have NY:∀j,j<hs.length→iX j=T j:=λj hj=>(xB j (hZ hj nR)).trans (NR j hj);induction zJ with
  |next kc NZ=>
   clear xB G1 GZ zO m5 I5 rx NV Zf NU;refine mq L λe9 nT I6=>?_;subst e9;refine⟨jr.length,by refine rS hn ?_;refine rE bT ?_;lia,⟨W',jr,kc,NZ,jM,iX,rfl,xv,I6,?_,g2,NW,NX,λa h=>?_,NY,aF nR nT⟩⟩
   ·refine It.frame _ _ _ _ _ Cc sp.mv (λa h=>⟨?_,λhW=>?_⟩) λZ h=>h.elim
    ·rcases vy a h with h|h
     ·exact .inl (.inl h)
     ·exact .inr (up h)
    ·exact h (I4.bd a (.inr hW))
   ·by_cases hR:iF a≠af
    ·exact vy a hR
    ·induction q:lN.heap.get? a with
     |none=>exact G0 a q
     |some o=>exact zS (sp.mv.keep a o hR q▸h)
  |ret d NZ=>clear xB sp G1 G0 Cc GZ zO;obtain rfl:=W.bp g2;refine Lx L ?_;clear L;intro v' e9 r' nT kc I6;subst e9;have I7:=I6.Cr (B0:=B) (Ku:=λZ=>False) (G:=λZ=>False) (.refl _ _ lO) (λZ h=>h.elim) (λa h=>.inl h) λZ h=>h.elim;exact hQ _ lO ⟨jM,iX,⟨λa h=>(NW a h).imp id λh=>jK xy h,NX⟩,NY,v',rfl,r'.mono (λZ Z Z e=>e) (λa Z Z n k=>n (k.imp id .inl)),aF nR nT,kc,I7⟩
theorem Zg(hh:A.handled=af){t:au}{ri:RI}{rb:bP}(ht:jm K.X ks t=aa tg)(hI:pV K C A ks it ri)(tB:rL K C CH A ks body rb):
  d9 K C CH A ks (.For t it body [] pos) (.loop tg ri rb):=by
 intro B R T env hs ρ s fl hk I hex Q E hQ;exact Zd hh ht tB hk I (λx=>hI.1 env x) (λxs h=>hI.2 _ env hs ρ s xs hk I.e h) hex Q E hQ
end
section
variable{K:Kt}
variable{T:dW}
theorem Zh{v:au}{Q:ji→ay→Prop}(hv:∀es k' p',v≠.Tuple es k' p')
  (h:ar (aw prog K.w) A (eval v env) (λu ai=>ar (aw prog K.w) A (assign (.Tuple ts k p) env u) (λZ=>Q .next) E ai) E s):ar (aw prog K.w) A (exec (.Assign [.Tuple ts k p] v pos) env) Q E s:=by
 have nQ:swapsWithSole [.Tuple ts k p] v pos.line env=pure ag:=by induction v using uz<;>rfl
 have tH:Bb [.Tuple ts k p] v env=pure af:=by induction v using uz<;>first|rfl|exact absurd rfl (hv _ _ _)
 show ar _ A (do
  ow pos
  if ← swapsWithSole [.Tuple ts k p] v pos.line env then do
   evalThenUse v env λv=>assignAll v ((l7 [.Tuple ts k p] env).map (·.2))
   pure .next
  else do
   let u ← eval v env
   Bc env u (← Bb [.Tuple ts k p] v env) ((l7 [.Tuple ts k p] env).map (·.2))) Q E s
 refine rE nQ (rE tH ?_);refine aB (kI (aB (bz ?_)));refine rE (if_neg f7) (aB (ia h (λu ai h₁=>aB (bz ?_)) λZ Z e=>e));show ar _ A (do assign (.Tuple ts k p) env u;pure Flow.next) Q E ai;exact aB (ia h₁ (λZ av ey=>bz ey) λZ Z e=>e)
theorem G2{X:Cx}{t:au}(h:rA X ks (t::ts)=aa is):∃x p i eH,t=.Name x p∧dz (aV x ks)∧aZ x X.names=aa i∧rA X ks ts=aa eH∧has i eH=ag∧is=i::eH:=by
 refine oE h λi h1 e1=>oE e1 λeH h2 e2=>cK (rC h1) λx p e9 h3 h4=>?_;subst e9;induction q:has i eH with
 |true=>exact zN (q▸e2)
 |false=>replace e2:=iJ (q▸e2);subst e2;exact⟨x,p,i,eH,rfl,h3,h4,h2,q,rfl⟩
set_option tactic.hygienic true in
theorem Zi(hk:dg ks env){Q:Unit→ay→Prop}:∀ {ts:List au}{is:ax}{vs:List ak}{xs:List D}{ρ:aM}{s:ay},rA K.X ks ts=aa is→uU is xs ρ=aa ρ'→aN K B R T env hs ρ s→
  aI (UU R B) s.heap vs xs→(∀s',aN K B R T env hs ρ' s'→eA R R s s'→Q () s')→ar (aw prog K.w) A (Ew ((l7 ts env).map (·.2)) vs) Q E s:=by
 intro ts;induction ts with
 |nil=>
  intro is vs xs ρ s ht hu I r hQ;replace ht:=iJ ht;subst ht;induction xs using bj with
  |cons x xs=>exact zN hu
  |nil=>replace hu:=iJ hu;subst hu;obtain rfl:=r.sX;exact Ex (hQ s I (.refl R s))
 |cons t ts ih=>
  intro is vs xs ρ s ht hu I r hQ;refine yY (G2 ht) λx p i eH e9 h1 hi oS _ bC=>?_;subst e9;subst bC;cases r with
  |nil=>exact zN hu
  |cons rv fA=>rename_i v vs d ds;have hu:uU eH ds (put ρ i (.val d))=aa ρ':=hu;show ar _ A (Ew (assign (.Name x p) env::(l7 ts env).map (·.2)) (_::_)) Q E s;refine wL (qO (I.store (sl:=.val d) hi h1 (mD hk h1) rv λai dn m₁=>?_));exact ih oS hu dn (fA.mono (λa o n e=>m₁.keep I.bu n e) λ_ _ _ n=>n) λs' I' sp=>hQ s' I' ((I.dY m₁).trans sp)
theorem N0:∀ {is:ax}{xs:List D}{ρ ρ':aM},uU is xs ρ=aa ρ'→is.length=xs.length
 | [],[],_,_,_=>rfl
 |_::_,_::_,_,_,h=>congrArg (· +1) (N0 (h:uU _ _ _=_))
 | [],_::_,_,_,h=>by exact zN h
 |_::_,[],_,_,h=>by exact zN h
theorem N1{X:Cx}(env:bF):∀ {ts:List au}{is:ax},rA X ks ts=aa is→(l7 ts env).length=is.length∧(l7 ts env).findIdx? (·.1)=af:=by
 intro L0;induction L0 with
 |nil=>intro is h;replace h:=iJ h;subst h;exact⟨rfl,rfl⟩
 |cons t ts ih=>intro is h;refine yY (G2 h) λx p i eH e9 Z Z oS Z bC=>?_;subst e9;subst bC;refine xA (ih oS) λh1 h2=>⟨congrArg (· +1) h1,?_⟩;show List.findIdx? (·.1) ((ag,assign (.Name x p) env)::l7 ts env)=af;refine rE (ahP) ?_;simp only[yx,if_false,h2,Option.map_none]
theorem Zj(hh:A.handled=af){v:au}(ht:rA K.X ks ts=aa is)(hv:∀es k' p',v≠.Tuple es k' p')(he:bg K C A ks v r):
  d9 K C CH A ks (.Assign [.Tuple ts k p] v pos) (.uR is r):=by
 intro B R T env hs ρ s fl hk I hex Q E hQ;refine wE (hex:W.bind _ _=_) λd hd e1=>oE e1 λxs hx e2=>oE e2 λρ' hu e3=>?_;clear e2 e1 hex;obtain rfl:=W.bp e3;refine Zh hv ((he _ env hs ρ s d hk I.e hd).1 _ _ λu ai aq ru=>?_);refine rE (KA ..) (aB (kI ?_));refine xA (N1 env ht) λh1 h2=>?_;unfold unpack;refine rE h2 (rE h1 (rE (N0 hu) ?_));refine aB (jg (Gb hh ru (w7 hx) λvs av aC rv=>?_));exact Zi hk ht hu (I.ext (aq.trans aC)) rv λs' I' sp=>hQ _ s' (.next ((eA.ext (aq.trans aC)).trans sp) I')
end
set_option tactic.hygienic true in
theorem Zk{vs:List au}{k':Nat}{p':aO}(env:bF)(h:(vs.all (constantsAlone 8)&& !(vs.all (foldedForSure 8)))=ag):
  ∃o,Bb [.Tuple ts k p] (.Tuple vs k' p') env=pure o∧∀names,o=aa names→names.length=ts.length∧∃f:au→Option ah,names=ts.filterMap f∧∀x q y,f (.Name x q)=aa y→y=x:=by
 unfold Bb;dsimp only;split
 ·exact⟨af,rfl,λ_ e=>by exact zN e⟩
 ·split
  ·exact⟨af,rfl,λ_ e=>by exact zN e⟩
  ·split
   ·exact⟨af,rfl,λ_ e=>by exact zN e⟩
   ·rename_i hn;split
    ·exact⟨af,rfl,λ_ e=>by exact zN e⟩
    ·rename_i hf;split
     ·rename_i hc;replace h:=hc▸h;simp only[Uq,Bool.not_eq_false']at h;exact absurd h hf
     ·refine⟨_,rfl,λnames e=>?_⟩;replace e:=iJ e;subst e;replace hn:=(Uy ..)▸hn;rw[not_or]at hn;refine⟨Classical.not_not.mp (λbQ=>hn.1 (bne_iff_ne.mpr bQ)),_,rfl,λx q y h=>?_⟩;dsimp only at h;split at h
      ·replace h:=iJ h;subst h;rfl
      ·exact zN h
theorem Zl{f:au→Option ah}(hf:∀x q y,f (.Name x q)=aa y→y=x):∀ {l:List (ah × aO)},((l.map λp=>qP p.1 p.2).filterMap f).length=l.length→(l.map λp=>qP p.1 p.2).filterMap f=l.map (·.1):=by
 intro L0;induction L0 with
 |nil=>intro _;exact rfl
 |cons cx r ih=>
  obtain⟨x,q⟩:=cx;intro h;rw[iS,AU]at h ⊢;have hle:((r.map λp=>qP p.1 p.2).filterMap f).length≤r.length:=by have:=List.length_filterMap_le f (r.map λp=>qP p.1 p.2);rwa [aQ]at this
  induction hq:f (.Name x q)with
  |none=>replace h:=hq▸h;dsimp only at h;replace h:=bT▸h;lia
  |some y=>replace h:=hq▸h;dsimp only at h ⊢;replace h:=bT▸bT▸h;exact rE (hf x q y hq) (rE iS (rE (ih (by lia)) rfl))
section
variable(K:Kt)(A:dU)
structure xC:Prop where
 rN:K.mg mw=aa (.ref K.hc)
 jk:∀U s p,br K U s.heap→UB U s→∀ (Q E:aW),(∀a l s',Ext s s'→s.heap.get? a=af→s.heap.get? l=af→dO K.hc (λb=>U b∨b=l) s'.heap a l []→Q (.ref a) s')→ar (aw prog K.w) A (jY p (.ref K.hc) [] [] []) Q E s
end
section
variable{K:Kt}{C:l9}{CH:Option nC}{A:dU}{ks:cT}
noncomputable def jt(K:Kt)(B:aY)(R:dC)(T:dW)(hs:Hs)(h:aP):List Nat→List ak→List bA→Prop
 | [],vs,bX=>vs=[]∧bX=[]
 |i::is,vs,bX=>∃v tG sl Cv,vs=v::tG∧bX=sl::Cv∧fD K B R T hs h i v sl∧jt K B R T hs h is tG Cv
structure iY(R R':dC)(T T':dW)(hs hs':Hs)(s s':ay):Prop where
 ext:Ext s s'
 G3:∀b r,R b=aa r→R' b=aa r
 grow:∀b,R' b≠af→R b≠af∨s.heap.get? b=af
 tabs:∀j,j<hs.length→T' j=T j
 len:hs.length≤hs'.length
 hs:∀ (j:Nat) t,hs[j]? =aa t→hs'[j]? =aa t
theorem iY.refl(R:dC)(T:dW)(hs:Hs)(s:ay):iY R R T T hs hs s s:=⟨.refl s,λZ Z h=>h,λZ h=>.inl h,λZ Z=>rfl,bZ _,λZ Z h=>h⟩
theorem iY.zP{T:dW}(x:Ext s s'):iY R R T T hs hs s s':=⟨x,λZ Z h=>h,λZ h=>.inl h,λZ Z=>rfl,bZ _,λZ Z h=>h⟩
theorem iY.trans{iF jM:dC}{T js iX:dW}{k7 iG:Hs}{a b c:ay}(x:iY R iF T js hs k7 a b)(y:iY iF jM js iX k7 iG b c):iY R jM T iX hs iG a c:=
 ⟨x.ext.trans y.ext,λd r h=>y.G3 d r (x.G3 d r h),λd h=>(y.grow d h).elim (x.grow d) λh=>.inr (jK x.ext h),λj hj=>(y.tabs j (hZ hj x.len)).trans (x.tabs j hj),aF x.len y.len,λj t h=>y.hs j t (x.hs j t h)⟩
theorem iY.dY{R':dC}{T T':dW}{hs':Hs}(x:iY R R' T T' hs hs' s s'):eA R R' s s':=⟨x.grow,x.ext.mv⟩
variable{B:aY}{R R':dC}{T T':dW}{env:bF}{hs hs':Hs}{ρ ρ':aM}{s s':ay}
theorem iY.kept(g:iY R R' T T' hs hs' s s'):Kept (λZ=>True) B B R R' T T' hs hs' s s':=
 ⟨λa o Z e=>g.ext.keep a o e,λa o e n k=>k.elim (λk=>(g.grow a k).elim (λh=>n (.inl h)) λh=>by replace h:=e▸h;exact zS h) λk=>n (.inr k),λa r Z h=>⟨g.G3 a r h,λo e=>g.ext.keep a o e⟩,
  λj t e=>⟨⟨t,g.hs j t e⟩,g.tabs j (px.mp e).1⟩⟩
theorem fD.vz{v:ak}(g:iY R R' T T' hs hs' s s')(h:fD K B R T hs s.heap i v sl):fD K B R' T' hs' s'.heap i v sl:=h.kept g.kept λZ Z=>trivial
theorem aN.N2(I:aN K B R T env hs ρ s)(x:Ext s s')(hl:s.heap.get? l=af)(h:dO K.hc (λb=>UU R B b∨b=l) s'.heap a l []):
  aN K B (λb=>if b=l then aa (.tab hs.length)else R b) (λj=>if j=hs.length then(a,l)else T j) env (hs++[[]]) ρ s'∧
  iY R (λb=>if b=l then aa (.tab hs.length)else R b) T (λj=>if j=hs.length then(a,l)else T j) hs (hs++[[]]) s s':=by
 have Zm:∃o,s'.heap.get? l=aa o:=by obtain⟨_,_,_,vs,n,_,_,_,_,_,_,_,_,_,_,e,_⟩:=h;exact⟨_,e⟩
 have J:=I.GX x hl Zm (.tab hs.length);have Zn:R l=af:=(I.live hl).1;have N3:∀ (j:Nat) t,hs[j]? =aa t→(hs++[[]])[j]? =aa t:=λj t e=>by refine rE (UD (px.mp e).1) ?_;exact e
 have eV:∀ {j:Nat}{t},hs[j]? =aa t→j≠hs.length:=λe=>iT (px.mp e).1;have G:iY R (λb=>if b=l then aa (.tab hs.length)else R b) T (λj=>if j=hs.length then(a,l)else T j) hs (hs++[[]]) s s':=
  ⟨x,λb r h=>by refine rE (if_neg (λe=>by replace h:=e▸h;replace h:=Zn▸h;exact zN h)) ?_;exact h,(GY x hl).grow,λj hj=>if_neg (iT hj),by refine rE bt ?_;exact nh _ _,N3⟩
 have X:Kept (λZ=>True) B B (λb=>if b=l then aa (.tab hs.length)else R b) (λb=>if b=l then aa (.tab hs.length)else R b) T (λj=>if j=hs.length then(a,l)else T j) hs (hs++[[]]) s' s':=
  ⟨λZ Z Z e=>e,λZ Z Z n=>n,λZ Z Z h=>⟨h,λZ e=>e⟩,λj t e=>⟨⟨t,N3 j t e⟩,if_neg (eV e)⟩⟩
 refine⟨J.tr X trivial J.ub J.bd (λy i sl p q r=>aD (J.vars y i sl p q r) λv e1 e2=>⟨v,e1,e2.kept X λZ Z=>trivial⟩) λj t e=>?_,G⟩;by_cases hj:j=hs.length
 ·subst hj;replace e:=iJ ((Bd ..)▸yJ (bZ _)▸e);subst e;refine rE (if_pos rfl) ⟨h.mono (λZ Z Z e=>e) (λb Z Z n k=>n ?_) λZ Z e=>e,if_pos rfl⟩;rcases k with k|k
  ·by_cases hb:b=l
   ·exact .inr hb
   ·dsimp only at k;replace k:=if_neg hb▸k;exact .inl (.inl k)
  ·exact .inl (.inr k)
 ·refine rE (if_neg hj) ?_;have vm:j<hs.length:=by have:=(px.mp e).1;replace this:=sR▸bt▸this;lia
  replace e:=UD vm▸e;exact J.tabs j t e
variable(K C A ks)in
inductive nV:List au→List RT→Prop
 |nil:nV [] []
 |val {e es r ts:_}:nH e=ag→bg K C A ks e r→nV es ts→nV (e::es) (.val r::ts)
 |nz {p es ts:_}:nV es ts→nV (.List [] p::es) (.nz::ts)
 |fN {e kvs es ts:_}:nH e=ag→BK (view e)=aa kvs→nV es ts→nV (e::es) (.fN kvs::ts)
 |jk {q p es ts:_}:eZ (aV mw ks)→nV es ts→nV (.Call (.Name mw q) [] [] p::es) (.jk::ts)
theorem N4:(mw == ("__debug__" :ah))=ag:=by decide
theorem Zo(ON:xC K A)(hk:dg ks env):∀ {es:List au}{ts:List RT},nV K C A ks es ts→∀ {is:ax}{R:dC}{T:dW}{hs hs':Hs}{s:ay}{bX:List bA},is.length=ts.length→
  aN K B R T env hs ρ s→lB K.tk C ts ρ hs=aa ((bX,hs'),ae)→∀ (Q:List ak→ay→Prop) (E:aW),
  (∀vs s' R' T',iY R R' T T' hs hs' s s'→aN K B R' T' env hs' ρ s'→jt K B R' T' hs' s'.heap is vs bX→Q vs s')→ar (aw prog K.w) A (spliced (gJ p (fZ es env))) Q E s:=by
 intro es ts h;induction h with
 |nil=>intro is R T hs hs' s bX hl I ao Q E hQ;refine xA (EB (W.bp (ao:W.ret (([]:List bA),hs)=_))) λe9 bC=>?_;subst e9;subst bC;have:is=[]:=wF hl;subst this;exact jZ (hQ [] s R T (.refl R T hs s) I ⟨rfl,rfl⟩)
 |val cz he hr ih=>
  intro is R T hs hs' s bX hl I ao Q E hQ;refine wE (ao:W.bind _ _=_) λx hx ao=>wE ao λq hq ao=>xA (EB (W.bp ao)) λe9 bC=>?_;subst e9;subst bC;obtain⟨i,eH,rfl⟩:∃i eH,is=i::eH:=by induction is using bj with|nil=>cases hl|cons i eH=>exact⟨i,eH,rfl⟩
  refine rE (mB cz) (ir ((he _ env hs ρ s x hk I.e hx).1 _ _ λv ai aq rv=>?_));refine ih (yK hl) (I.ext aq) hq _ _ λvs av jM iX g gC r=>hQ _ av jM iX ((iY.zP aq).trans g) gC ⟨_,_,_,_,rfl,rfl,?_,r⟩;exact fD.vz (sl:=.val x) (i:=i) g rv
 | @fN e kvs es ts cz hd hr ih=>
  intro is R T hs hs' s bX hl I ao Q E hQ;have ao:W.bind (lB K.tk C ts ρ hs) (λp=>W.ret (bA.fN kvs::p.1,p.2))=aa ((bX,hs'),ae):=ao;refine wE ao λq' hq ao=>xA (EB (W.bp ao)) λe9 bC=>?_;subst e9;subst bC;obtain⟨i,eH,rfl⟩:∃i eH,is=i::eH:=by induction is using bj with|nil=>cases hl|cons i eH=>exact⟨i,eH,rfl⟩
  refine rE (mB cz) (ir (Xv I.ub I.bH.lim hd λv ai aq rv=>?_));refine ih (yK hl) (I.ext aq) hq _ _ λvs av jM iX g gC r=>hQ _ av jM iX ((iY.zP aq).trans g) gC ⟨_,_,_,_,rfl,rfl,?_,r⟩;exact fD.vz (sl:=.fN kvs) (i:=i) g rv
 | @nz q es ts hr ih=>
  intro is R T hs hs' s bX hl I ao Q E hQ;have ao:W.bind (lB K.tk C ts ρ hs) (λp=>W.ret (bA.own []::p.1,p.2))=aa ((bX,hs'),ae):=ao;refine wE ao λq' hq ao=>xA (EB (W.bp ao)) λe9 bC=>?_;subst e9;subst bC;obtain⟨i,eH,rfl⟩:∃i eH,is=i::eH:=by induction is using bj with|nil=>cases hl|cons i eH=>exact⟨i,eH,rfl⟩
  refine rE (mB rfl) (ir (List_ (jZ (wH ?_ (eo _)))));have aq:Ext s {s with heap:=s.heap.push (cy #[] 0)}:=.push (k:=s.toks);have ha:(s.heap.push (cy #[] 0)).get? s.heap.objs.size=aa (cy #[] 0):=eT _ rfl;have dn:=I.GX aq (eM _) ⟨_,ha⟩ (.own i);have dR:iY R (λb=>if b=s.heap.objs.size then aa (.own i)else R b) T T hs hs s {s with heap:=s.heap.push (cy #[] 0)}:=
   ⟨aq,λb r h=>by
    refine rE (if_neg (λe=>by obtain⟨o,q⟩:=I.ub b (.inl (by refine rE h ?_;exact λq=>by exact zS q));replace q:=e▸q;replace q:=(eM ..)▸q;exact zN q)) ?_;exact h,
    (GY aq (eM _)).grow,λZ Z=>rfl,bZ _,λZ Z h=>h⟩
  refine ih (yK hl) dn hq _ _ λvs av jM iX g gC r=>hQ _ av jM iX (dR.trans g) gC ⟨_,_,_,_,rfl,rfl,?_,r⟩;exact fD.vz (sl:=.own []) (i:=i) g ⟨_,#[],0,rfl,if_pos rfl,ha,.nil⟩
 | @jk q cp es ts hg hr ih=>
  intro is R T hs hs' s bX hl I ao Q E hQ;have ao:W.bind (lB K.tk C ts ρ (hs++[[]])) (λp=>W.ret (bA.cU hs.length::p.1,p.2))=aa ((bX,hs'),ae):=ao;refine wE ao λq' hq ao=>xA (EB (W.bp ao)) λe9 bC=>?_;subst e9;subst bC;obtain⟨i,eH,rfl⟩:∃i eH,is=i::eH:=by induction is using bj with|nil=>cases hl|cons i eH=>exact⟨i,eH,rfl⟩
  refine rE (mB rfl) (ir ?_);show ar _ A (do jY cp (← eval (.Name mw q) env) [] (gJ cp (fZ [] env)) []) _ E s;refine aB (I.e.global (lF hk hg) ON.rN N4 (ON.jk _ s cp I.bH I.ub _ _ λa l ai aq G4 fE hT=>?_));refine xA (I.N2 aq fE hT) λdn dR=>ih (yK hl) dn hq _ _ λvs av jM iX g gC r=>hQ _ av jM iX (dR.trans g) gC ⟨_,_,_,_,rfl,rfl,?_,r⟩;refine fD.vz (sl:=.cU hs.length) (i:=i) g ⟨⟨[],?_⟩,?_⟩
  ·refine rE (yJ (bZ _)) ?_;refine rE (Bd ..) ?_;rfl
  ·dsimp only;exact rE (if_pos rfl) rfl
end
structure En where
 x:ah
 p:aO
 i:Nat
 v:ak
 sl:bA
noncomputable def vA(ρ:aM)(e:En):aM:=put ρ e.i e.sl
theorem Zp:∀ (L:List En) (ρ:aM),yW (L.map (·.i)) (L.map (·.sl)) ρ=aa (L.foldl vA ρ):=by
 intro L0;induction L0 with
 |nil=>intro _;exact rfl
 |cons e L ih=>intro ρ;exact ih (put ρ e.i e.sl)
theorem G5:∀ {L:List En}{ρ:aM}{j:Nat},j∉L.map (·.i)→get (L.foldl vA ρ) j=get ρ j:=by
 intro L0;induction L0 with
 |nil=>intro _ _ _;exact rfl
 |cons e L ih=>intro ρ j h;replace h:=iS▸h;rewrite[bE]at h;rw[not_or]at h;refine rE sE (rE (ih h.2) ?_);exact fR _ h.1 _
theorem N5:∀ {L:List En}{ρ:aM}{e:En},(L.map (·.i)).Nodup→e∈L→get (L.foldl vA ρ) e.i=aa e.sl:=by
 intro L;induction L with
 |nil=>exact λZ h=>nomatch h
 |cons a L ih=>
  intro ρ e hn h;replace hn:=iS▸hn;rw[uC]at hn;refine rE sE ?_;rcases bE.mp h with rfl|h
  ·exact rE (G5 hn.1) (kW _ _ _)
  ·exact ih hn.2 h
theorem Zq{L:List En}(hn:(L.map (·.i)).Nodup)(j:Nat):get (L.foldl vA ρ) j=get (L.reverse.foldl vA ρ) j:=by
 by_cases h:j∈L.map (·.i)
 ·refine aD (fk.mp h) λe he e9=>?_;subst e9;exact rE (N5 hn he) (rE (N5 (rE Be (List.pairwise_reverse.mpr (hn.imp λh=>Es h))) (KI.mpr he)) rfl)
 ·exact rE (G5 h) (rE (G5 (by refine rE Be ?_;exact λq=>h (KI.mp q))) rfl)
section
variable{K:Kt}
variable{R':dC}{T T':dW}{hs':Hs}
theorem fD.bu{v:ak}(I:aN K B R T env hs ρ s)(m:gB ks env s s')(h:fD K B R T hs s.heap i v sl):fD K B R T hs s'.heap i v sl:=by
 have hk:∀a o,¬UU R B a→s.heap.get? a=aa o→s'.heap.get? a=aa o:=λa o n e=>m.keep I.bu n e;induction sl with
 |val d=>exact Rd.mono hk (λZ Z Z n=>n) h
 |own xs=>exact fy h λa vs n e1 e2 e3 e4=>⟨a,vs,n,e1,e2,m.seq I.bu e3,e4.mono hk λZ Z Z n=>n⟩
 |cU j=>exact h
 |fN l=>exact nI.mono h hk λZ Z Z n=>n
theorem N6(hk:dg ks env){F:ah→aO→ak→cN Unit}(hF:∀x p v (Q:Unit→ay→Prop) (E:aW) s,ar (aw prog K.w) A (qN env x v) Q E s→ar (aw prog K.w) A (F x p v) Q E s)
  {Q:Unit→ay→Prop}{E:aW}:∀ {L:List En}{ρ:aM}{s:ay},(∀e∈L,aZ e.x K.X.names=aa e.i∧dz (aV e.x ks)∧fD K B R T hs s.heap e.i e.v e.sl)→aN K B R T env hs ρ s→
   (∀s',aN K B R T env hs (L.foldl vA ρ) s'→eA R R s s'→Q () s')→ar (aw prog K.w) A (Ew (L.map λe=>F e.x e.p) (L.map (·.v))) Q E s:=by
 intro L;induction L with
 |nil=>exact λZ I hQ=>Ex (hQ _ I (.refl R _))
 |cons e L ih=>
  intro ρ s hL I hQ;refine mq (hL e bG) λh1 h2 h3=>rE iS (rE iS ?_);refine wL (hF _ _ _ _ _ _ (I.store (sl:=e.sl) h1 h2 (mD hk h2) ?_ λai dn m₁=>?_))
  ·obtain⟨_,_,_,_,sl⟩:=e;induction sl<;>exact h3
  ·exact ih (λe' Cw=>let⟨a,b,c⟩:=hL e' (cf _ Cw);⟨a,b,c.bu I m₁⟩) dn λs' I' sp=>hQ s' I' ((I.dY m₁).trans sp)
theorem entries:∀ {ts:List au}{is:ax}{vs:List ak}{bX:List bA},rA K.X ks ts=aa is→jt K B R T hs s.heap is vs bX→
  ∃L:List En,ts=L.map (λe=>qP e.x e.p)∧is=L.map (·.i)∧vs=L.map (·.v)∧bX=L.map (·.sl)∧(∀e∈L,aZ e.x K.X.names=aa e.i∧dz (aV e.x ks)∧fD K B R T hs s.heap e.i e.v e.sl)∧is.Nodup:=by
 intro ts;induction ts with
 |nil=>intro is vs bX ht h;replace ht:=iJ ht;subst ht;refine xA h λe9 bC=>?_;subst e9;subst bC;exact⟨[],rfl,rfl,rfl,rfl,λZ h=>(by cases h),yF⟩
 |cons t ts ih=>
  intro is vs bX ht h;refine yY (G2 ht) λx p i eH e9 h1 hi oS hn bC=>?_;subst e9;subst bC;clear ht;refine w6 h ?_;clear h;intro v vs sl bX e9 bC hv zQ;subst e9;subst bC;refine Ly (ih oS zQ) λL e1 e2 e3 e4 e5 e6=>⟨⟨x,p,i,v,sl⟩::L,by refine rE e1 ?_;rfl,by refine rE e2 ?_;rfl,by refine rE e3 ?_;rfl,by refine rE e4 ?_;rfl,λe he=>?_,uC.mpr ⟨λhm=>(zT (GH.mpr hm▸hn)),e6⟩⟩;rcases bE.mp he with rfl|he
  ·exact⟨hi,h1,hv⟩
  ·exact e5 e he
theorem Zr:∀ (L:List En),(l7 (L.map λe=>qP e.x e.p) env).map (·.2)=L.map λe=>assign (.Name e.x e.p) env:=by
 intro L0;induction L0 with
 |nil=>exact rfl
 |cons e L ih=>show(assign (.Name e.x e.p) env)::_=_;exact rE iS (congrArg _ (ih))
theorem N7(hh:A.handled=af)(ht:s.heap.IsTuple a vs.toArray)(hn:n=vs.length){Q:List ak→ay→Prop}(h:∀s',Ext s s'→Q vs s'):
  ar (aw prog K.w) A (unpackItems (.ref a) n af) Q E s:=by
 subst hn;have:=wpAny_unpackItems_tuple (prog:=prog) (w:=K.w) (A:=A) (E:=E) (Q:=Q) (s:=s) hh ht λh' hb=>?_
 ·replace this:=Ug▸this;exact this
 ·have:=h {s with heap:=h'} (.heap (k:=s.toks) λb o e=>hb b o (λq=>by replace e:=q▸e;replace e:=(eM ..)▸e;exact zN e) e);simpa using this
theorem Zs(ts:List au)(k:Nat)(p:aO)(env:bF):(l7 [.Tuple ts k p] env).map (·.2)=[assign (.Tuple ts k p) env]:=rfl
theorem Zt(v:ak)(t:ak→cN Unit):assignAll v [t]=t v:=rfl
theorem Zu(hh:A.handled=af)(hk:dg ks env){L:List En}{o:Option (List ah)}(hn:(L.map (·.i)).Nodup)(ht:s.heap.IsTuple a (L.map (·.v)).toArray)
  (hL:∀e∈L,aZ e.x K.X.names=aa e.i∧dz (aV e.x ks)∧fD K B R T hs s.heap e.i e.v e.sl) (I:aN K B R T env hs ρ s) (ho:∀names,o=aa names→names=L.map (·.x))
  (N8:(l7 (L.map λe=>qP e.x e.p) env).length=L.length∧(l7 (L.map λe=>qP e.x e.p) env).findIdx? (·.1)=af)
  {Q:ji→ay→Prop}{E:aW} (hQ:∀s',aN K B R T env hs (L.foldl vA ρ) s'→eA R R s s'→Q .next s'):
  ar (aw prog K.w) A (Bc env (.ref a) o ((l7 [.Tuple (L.map λe=>qP e.x e.p) k p] env).map (·.2))) Q E s:=by
 induction o with
 |none=>unfold Bc;dsimp only;refine rE (Zs ..) (rE (Zt ..) ?_);refine aB (rE (KA ..) (aB (kI ?_)));unfold unpack;refine rE N8.2 (rE N8.1 (rE (Zr ..) ?_));refine aB (jg (N7 hh ht (rE (aQ ..) rfl) λaR bx=>?_));exact N6 (F:=λx p=>assign (.Name x p) env) hk (λx p v Q E s h=>qO h) (λe he=>let⟨a,b,c⟩:=hL e he;⟨a,b,c.vz (.zP bx)⟩) (I.ext bx) λcq rO sp=>bz (hQ cq rO ((eA.ext bx).trans sp))
 |some names=>
  obtain rfl:=ho names rfl;unfold Bc;dsimp only;refine aB (Ey (aB (N7 hh ht (rE (aQ ..) (rE (aQ ..) rfl)) λaR bx=>aB ?_)));have:=N6 (A:=A) (F:=λx Z=>bindName env x) hk (λx p v Q E s h=>wpAny_bindName h) (L:=L.reverse) (ρ:=ρ) (s:=aR) (λe he=>let⟨a,b,c⟩:=hL e (KI.mp he);⟨a,b,c.vz (.zP bx)⟩) (I.ext bx)
   (Q:=λZ cq=>ar (aw prog K.w) A (pure Flow.next) Q E cq) (E:=E) λcq rO sp=>bz (hQ cq (rO.congr λi=>Zq hn i) ((eA.ext bx).trans sp))
  replace this:=Be▸Be▸this;refine rS Be (rE dJ (rE Be ?_));exact this
end
section
variable{K:Kt}
theorem Zv{k':Nat}{p':aO}{o:Option (List ah)}{Q:ji→ay→Prop}(nQ:Bb [.Tuple ts k p] (.Tuple es k' p') env=pure o)
  (h:ar (aw prog K.w) A (eval (.Tuple es k' p') env) (λu ai=>ar (aw prog K.w) A (Bc env u o ((l7 [.Tuple ts k p] env).map (·.2))) Q E ai) E s):
  ar (aw prog K.w) A (exec (.Assign [.Tuple ts k p] (.Tuple es k' p') pos) env) Q E s:=by
 show ar _ A (do
  ow pos
  if ← swapsWithSole [.Tuple ts k p] (.Tuple es k' p') pos.line env then do
   evalThenUse (.Tuple es k' p') env λv=>assignAll v ((l7 [.Tuple ts k p] env).map (·.2))
   pure .next
  else do
   let u ← eval (.Tuple es k' p') env
   Bc env u (← Bb [.Tuple ts k p] (.Tuple es k' p') env) ((l7 [.Tuple ts k p] env).map (·.2))) Q E s
 refine rE nQ (aB (kI (aB (bz ?_))));exact rE (if_neg f7) (aB (ia h (λu ai h₁=>aB (bz h₁)) λZ Z e=>e))
theorem Zw{L:List En}{f:au→Option ah}{names:List ah}(hf:names=(L.map λe=>qP e.x e.p).filterMap f)(tI:∀x q y,f (.Name x q)=aa y→y=x)(hlen:names.length=(L.map λe=>qP e.x e.p).length):names=L.map (·.x):=by have:=Zl (f:=f) tI (l:=L.map λe=>(e.x,e.p));replace this:=(aQ ..)▸dJ▸dJ▸this;refine rE hf (this ?_);replace hlen:=(aQ ..)▸hf▸hlen;exact hlen
theorem Zx(hh:A.handled=af)(ON:xC K A){k':Nat}{p':aO}{xD:List RT}(ht:rA K.X ks ts=aa is)(GJ:nV K C A ks es xD)(hl:is.length=xD.length)(hn:xD.length≤100)
  (hc:(es.all (constantsAlone 8)&& !(es.all (foldedForSure 8)))=ag):d9 K C CH A ks (.Assign [.Tuple ts k p] (.Tuple es k' p') pos) (.mul is xD):=by
 intro B R T env hs ρ s fl hk I hex Q E hQ;obtain⟨⟨bX,hs'⟩,ao,hex⟩:=W.LA (hex:W.bind (lB K.tk C xD ρ hs) (λp=>(yW is p.1 ρ).bind λρ'=>W.ret (Fl.next ρ' p.2))=_);refine oE hex λρ' hp hex=>?_;obtain rfl:=W.bp hex;obtain⟨o,nQ,ho⟩:=Zk (ts:=ts) (vs:=es) (k:=k) (k':=k') (p:=p) (p':=p') env hc;refine Zv nQ (Tuple_ (Zo ON hk GJ hl I ao _ _ λvs ai iF js g dn zQ=>?_));refine Ly (entries ht zQ) λL e1 e2 e3 e4 e5 e6=>?_;have hlen:=N1 env ht;subst e1;subst e2;subst e3;subst e4;rw[aQ]at hl hlen;refine Eh ?_ (by refine rE (aQ ..) (rE lu (rE hl ?_));lia);clear hex;replace hp:=iJ ((Zp ..)▸hp);subst hp;have aC:Ext ai {ai with heap:=ai.heap.push {cls:=.type "tuple",data:=.seq (L.map (·.v)).toArray}}:=.push (k:=ai.toks);have Zy:(ai.heap.push {cls:=.type "tuple",data:=.seq (L.map (·.v)).toArray}).IsTuple ai.heap.objs.size (L.map (·.v)).toArray:=⟨_,eT _ rfl,rfl,0,rfl⟩;refine Zu hh hk e6 Zy (λe he=>let⟨a,b,c⟩:=e5 e he;⟨a,b,c.vz (.zP aC)⟩) (dn.ext aC) (λnames e=>?_) hlen λcq rO sp=>?_
 ·exact uX (ho names e) λh1 f h2 h3=>Zw h2 h3 h1
 ·exact hQ _ _ ⟨iF,js,g.dY.trans ((eA.ext aC).trans sp),g.tabs,rfl,g.len,rO⟩
end
section
variable{K:Kt}
theorem Zz(ON:xC K A){cp:aO}(hi:aZ x K.X.names=aa i)(cm:dz (aV x ks))(hg:eZ (aV mw ks)):
  d9 K C CH A ks (.Assign [.Name x p] (.Call (.Name mw q) [] [] cp) pos) (.jk i):=by
 intro B R T env hs ρ s fl hk I hex Q E hQ;obtain rfl:=W.bp (hex:W.ret (Fl.next (put ρ i (.cU hs.length)) (hs++[[]]))=_);refine oB ?_ rfl;show ar _ A (do jY cp (← eval (.Name mw q) env) [] (gJ cp (fZ [] env)) []) _ E s;refine aB (I.e.global (lF hk hg) ON.rN N4 (ON.jk _ s cp I.bH I.ub _ _ λa l ai aq G4 fE hT=>?_));refine xA (I.N2 aq fE hT) λdn dR=>dn.store (sl:=.cU hs.length) hi cm (mD hk cm) ⟨⟨[],?_⟩,?_⟩ λs' I' m=>hQ _ s' ⟨_,_,dR.dY.trans (dn.dY m),dR.tabs,rfl,dR.len,I'⟩
 ·refine rE (yJ (bZ _)) ?_;refine rE (Bd ..) ?_;rfl
 ·dsimp only;exact rE (if_pos rfl) rfl
end
noncomputable def blank:List aE→aP→aP
 | [],h=>h
 |a::l,h=>(blank l h).update a λo=>{o with data:=.freed}
theorem vB:∀ {l:List aE}{h:aP}{b:aE},(b∈l→(blank l h).get? b=af)∧(b∉l→(blank l h).get? b=h.get? b):=by
 intro l;induction l with
 |nil=>exact λ{h b}=>⟨(nomatch ·),λZ=>rfl⟩
 |cons a l ih=>
  intro h b;by_cases e:a=b
  ·subst e;refine⟨λZ=>?_,λq=>(q bG).elim⟩;show((blank l h).update a _).get? a=af;unfold aP.get? aP.update;refine rE (Array.getElem?_modify) ?_;refine rE (if_pos rfl) ?_;cases (blank l h).objs[a]? <;>rfl
  ·have hu:=aP.get?_update_other (blank l h) (λo=>{o with data:=.freed}) e;refine⟨λq=>hu.trans (ih.1 ?_),λq=>hu.trans (ih.2 ?_)⟩
   ·rcases bE.mp q with q|q
    ·exact(e q.symm).elim
    ·exact q
   ·exact λk=>q (cf _ k)
section
variable{K:Kt}
variable{T:dW}
theorem aN.ZA(I:aN K B R T env hs ρ s)(h1:∀a o,R a≠aa .frame→s.heap.get? a=aa o→s'.heap.get? a=aa o)(h2:∀a,R a=aa .frame→∀o,s.heap.get? a=aa o→∃o',s'.heap.get? a=aa o'∧o'.data=o.data):aN K B R T env hs ρ s':=by
 have X:Kept (· ≠.frame) B B R R T T hs hs s s':=⟨λa o n e=>h1 a o (λq=>n (.inl (gE q))) e,λZ Z Z n=>n,λa r hr h=>⟨h,λo e=>h1 a o (λq=>hr (iq (h.symm.trans q))) e⟩,λj t e=>⟨⟨t,e⟩,rfl⟩⟩;refine I.GN X (λa h=>⟨h,h2 a h⟩) (λa h=>?_) I.bd (λy i sl a b c=>let⟨v,p,q⟩:=I.vars y i sl a b c;⟨v,p,q.kept X λZ Z=>nofun⟩) λj t e=>let⟨p,q⟩:=I.tabs j t e;⟨p.mono X.keep X.hu λZ Z=>(X.role _ (.tab j) nofun q).2 _,q⟩
 refine xE (I.ub a h) λo e=>?_;by_cases q:R a=aa .frame
 ·exact aD (h2 a q o e) λo' e' Z=>⟨o',e'⟩
 ·exact⟨o,h1 a o q e⟩
noncomputable def iH(env:bF)(l:List (bF × pA)):List aE:=env.locals::l.map λp=>p.1.locals
theorem aN.qc(I:aN K B R T env hs ρ s){l:List (bF × pA)}(hm:K.me=aa (env,l))(h:a∈iH env l):R a=aa .frame∧∃o,s.heap.get? a=aa o∧∀vs,o.data≠.fields vs:=by
 rcases bE.mp h with rfl|h
 ·obtain⟨_,_,o,es,ep,ho,hd,_⟩:=I.bu.loc;exact⟨I.fr _ (.inl rfl),o,ho,λvs q=>by replace q:=hd▸q;cases q⟩
 ·refine aD (fk.mp h) λp hp e9=>?_;subst e9;obtain⟨_,_,r,_,d,o,ho,hd⟩:=(I.outs _ _ hm).2.2 p hp;exact⟨r,o,ho,hd▸d⟩
theorem aN.frames(I:aN K B R T env hs ρ s){l:List (bF × pA)}(hm:K.me=aa (env,l)):(blank (iH env l) s.heap).StaysIn s.heap∧s.heap.FunFrames (blank (iH env l) s.heap) (env::l.map (·.1)):=by
 have key:∀l':List (bF × pA),(∀p∈l',p∈l)→s.heap.FunFrames (blank (iH env l) s.heap) (l'.map (·.1)):=by
  intro l';induction l' with
  |nil=>exact λZ=>trivial
  |cons p l' ih=>intro h;have hp:=h p bG;obtain⟨k,f,_,_,d,o,ho,hd⟩:=(I.outs _ _ hm).2.2 p hp;exact⟨by refine rE k ?_;exact nofun,⟨p.1.locals,o,f,vB.1 (cf _ (fk.mpr ⟨p,hp,rfl⟩)),ho,hd▸d⟩,ih λq hq=>h q (cf _ hq)⟩
 refine⟨λb o e=>?_,by refine rE I.kind ?_;exact nofun,?_,key l λZ h=>h⟩
 ·by_cases q:b∈iH env l
  ·exact zN (vB.1 q▸e)
  ·replace e:=vB.2 q▸e;exact e
 ·obtain⟨_,o,ho,hd⟩:=I.qc hm (a:=env.locals) bG;exact⟨env.locals,o,(I.outs _ _ hm).2.1,vB.1 bG,ho,hd⟩
theorem aN.tJ(I:aN K B R T env hs ρ s){l:List (bF × pA)}(hm:K.me=aa (env,l))(h1:(blank (iH env l) s.heap).StaysIn s'.heap)(h2:s.heap.UpToSlots s'.heap):aN K B R T env hs ρ s':=by
 refine I.ZA (λa o n e=>h1 a o ((vB.2 λq=>n (I.qc hm q).1).trans e)) λa Z o e=>?_;by_cases q:a∈iH env l
 ·refine uX (I.qc hm q) λZ o' e' hd=>?_;replace e':=iJ (e▸e');subst e';exact xE (h2 a o e hd) λsl h=>⟨_,h,rfl⟩
 ·exact⟨o,h1 a o ((vB.2 q).trans e),rfl⟩
theorem ZC{m:gw}{name:ah}{v:ak}{Q:Bool→ay→Prop}(hn:s.heap.Ns a m)(hv:m name=aa v)
  (hQ:∀h' m',h'.Ns a m'→(∀x,x≠name→m' x=m x)→yH a s.heap h'→Q ae {s with heap:=h'}):ar (aw prog K.w) A (nsDel a name) Q E s:=by
 refine fy hn λo es ep ho hd hk hm=>?_;have h1:=hm name;replace h1:=hv▸h1;unfold nsFind findBy at h1;refine aD (sJ.mp h1) λe Cw ZD=>?_;have he:es.find? (λe=>e.key.isStr name)=aa e:=Cw;have hp:e.key.isStr name:=by have:=Array.find?_some he;exact this
 obtain⟨i,hi⟩:∃i,es.findIdx? (λe=>e.key.isStr name)=aa i:=by
  induction q:es.findIdx? (λe=>e.key.isStr name)with
  |some i=>exact⟨i,rfl⟩
  |none=>have:=(Array.findIdx?_eq_none_iff.mp q) e (ahQ he);exact zT (hp▸this)
 have N9:es.any (λe=>e.key.isStr name):=Array.any_eq_true'.mpr ⟨e,ahQ he,hp⟩;unfold nsDel;refine aB (wpAny_loadPart ho ?_);have Cy:nsHas name o=pure ae:=by refine rE nsHas_eq ?_;unfold nsHasByArray;refine rE hd ?_;show(if(es.any λx=>x.key.isStr name) then _ else _)=_;exact rE (if_pos N9) rfl
 refine rE Cy (aB (bz ?_));refine rE (if_pos rfl) (aB (wpAny_updatePart ho (bz ?_)));obtain⟨cl,d,dt,sl⟩:=o;subst hd;refine hQ _ (λx=>nsFind (es.eraseIdxIfInBounds i) x) ⟨_,_,ep+1,KD _ ho (by simp only[ahR,ahS,hi]<;>rfl),(by simp only[ahR,ahS,hi]<;>rfl),hk.erase i,λZ=>rfl⟩ (λx hx=>?_) (A6 ..);refine rS (hm x) ?_;clear h1 he N9 Cy hm hk ho hQ;obtain⟨es⟩:=es;unfold nsFind findBy;simp only[List.eraseIdxIfInBounds_toArray,List.find?_toArray,List.findIdx?_toArray]at hi ⊢;refine congrArg _ ?_;clear hv ZD hp Cw e;induction es generalizing i with
 |nil=>rfl
 |cons e es ih=>
  replace hi:=ahP▸hi;induction q:e.key.isStr name with
  |true=>replace hi:=iJ (q▸hi);subst hi;refine rE List.eraseIdx_cons_zero ?_;rw[ahA];intro k;exact hx (ak.isStr_inj _ _ _ k q)
  |false=>replace hi:=if_neg f7▸q▸hi;refine aD (sJ.mp hi) λj hj e9=>?_;subst e9;refine rE List.eraseIdx_cons_succ (rE (ahT) ?_);refine rE (ahT) ?_;exact rE (ih j hj) rfl
theorem aN.ZE(I:aN K B R T env hs ρ s)(hi:aZ x K.X.names=af)(cm:dz (aV x ks))(hk:env.kindOf x=aa .local)
  {Q:Unit→ay→Prop}{E:aW} (hQ:∀s',aN K B R T env hs ρ s'→Mv (eG ks env) (λZ=>False) s s'→Q () s'):ar (aw prog K.w) A (do bindName env x .none;unbindBehindTheSuite env x pos) Q E s:=by
 refine aB (wpAny_bindName (I.NI hi cm (.inl hk) λai dn m₁ ZF=>?_));have hp:(env.scope.kind == .class||(env.scope.kind == .module&&env.locals !=env.globals))=ag:=by refine rE I.kind ?_;rfl
 unfold unbindBehindTheSuite;refine wpAny_onRaise ?_;unfold unbindName;refine aB (UE (aB ?_));unfold deleteName;simp only[hk,hp];refine rE (if_neg (by decide)) ?_;rcases ZF with⟨_,m,n,e⟩| ⟨k|k,_⟩
 ·refine aB (ZC n e λey m₂ Cz hm cB=>?_);have mv:gB ks env ai {ai with heap:=ey}:=⟨λa o e=>by
   by_cases ha:a=env.locals
   ·exact .inr (.inl ha)
   ·exact .inl ((cB.2 a ha).trans e),rfl,rfl⟩
  have cell:∀ {c v},ai.heap.IsCell c v→ey.IsCell c v:=λ{c v} hc=>hc.sameBut cB λe=>by subst e;refine aD hc λo ho hd=>ib n λo' es ep gA dB Z=>?_;replace gA:=iJ (ho▸gA);subst gA;replace dB:=hd▸dB;cases dB
  simp only[Bool.not_true,yx,if_false];refine bz (UE (hQ _ (dn.stored ⟨⟨dn.bu.loc.1,_,Cz⟩,λy c e=>let⟨a,v,q⟩:=dn.bu.fQ y c e;⟨a,v,cell q⟩,dn.bu.inj,dn.bu.has⟩ mv λX y j sl hj hg jJ=>?_) (m₁.mv.trans mv.mv)));refine aD (dn.vars y j sl hj hg jJ) λv' p q=>⟨v',?_,q.kept X λZ Z=>nofun⟩;rcases p with⟨k1,m',n',e'⟩| ⟨k1,c',e1,e2⟩
  ·exact .inl ⟨k1,m₂,Cz,(hm y λe=>by replace hj:=e▸hj;replace hj:=hi▸hj;exact zN hj).trans ((n.agree n' y).trans e')⟩
  ·exact .inr ⟨k1,c',e1,cell e2⟩
 ·replace k:=hk▸k;cases k
 ·replace k:=hk▸k;cases k
end
structure oT(base:aP)(fs:List bF)(e:aE)(s s':ay):Prop where
 tJ:∃tt tk,aP.FlyingW base fs e (.type "ValueError") (.ref tt) s'.heap∧s'.heap.TupAt tt [.str td tk]
 up:s.heap.UpToSlots s'.heap
 gens:∀ (g:Nat) (x:uo),s.gens[g]? =aa x→s'.gens[g]? =aa x
 bare:wB s.gens→wB s'.gens
 os:s'.os=s.os
section
variable(K:Kt)(A:dU)
structure zR:Prop where
 G6:∀U s a l t,br K U s.heap→UB U s→U l→dO K.hc U s.heap a l t→∀ (pl:cN Bool) (Q:ak × List ak→ay→Prop) (E:aW),
  (∀ (f:ak) (first:List ak) (ai:ay),Ext s ai→(∃fa o fd,f=.ref fa∧ai.heap.get? fa=aa o∧o.data=.func fd)→
   (∀vs av x y,Ext ai av→aI U av.heap vs [.str x,.str y]→keyOk y→t.length<1000000→
    (iy x→∀ (Q' E':aW),(∀u aR,Mv (λb=>b=l) (λZ=>False) av aR→dO K.hc U aR.heap a l (t++[(x,y)])→Q' u aR)→ar (aw prog K.w) A (call f (first++vs)) Q' E' av)∧
    (iy x=ag→mh (sL x)→(sL x).length=1→∀base fs,A.frames=aa fs→base.StaysIn av.heap→av.heap.FunFrames base fs→∀ (Q' E':aW),(∀e aR,oT base fs e av aR→E' (.ref e) aR)→ar (aw prog K.w) A (call f (first++vs)) Q' E' av))→
   Q (f,first) ai)→ar (aw prog K.w) A (yB (.ref a) rz pl) Q E s
end
theorem Oa(x:α):∀ (j:Nat) (l:List α),(setAt x j l).length=l.length:=by
 intro j l;induction l generalizing j with
 |nil=>exact rE (Lo ..) rfl
 |cons y l ih=>induction j using ll with|zero=>rfl|succ j=>exact congrArg (· +1) (ih j)
theorem CA(x:α):∀ {j:Nat}{l:List α}{t:α},l[j]? =aa t→(setAt x j l)[j]? =aa x:=by
 intro j l;induction l generalizing j with
 |nil=>exact zN
 |cons y l ih=>induction j using ll with|zero=>exact λZ=>rfl|succ j=>exact ih (j:=j)
theorem CB(x:α):∀ {j i:Nat}{l:List α},i≠j→(setAt x j l)[i]? =l[i]? :=by
 intro j i l;induction l generalizing i j with
 |nil=>exact λZ=>by exact rE (Lo ..) rfl
 |cons y l ih=>induction j with
  |zero=>induction i using ll with|zero=>exact λh=>absurd rfl h|succ i=>exact λZ=>rfl
  |succ j=>induction i using ll with|zero=>exact λZ=>rfl|succ i=>exact λh=>ih λe=>h (congrArg _ e)
section
variable{K:Kt}
variable{T:dW}
theorem aN.ZG(I:aN K B R T env hs ρ s){t t':d6}(hj:hs[j]? =aa t)(m:Mv (λb=>b=(T j).2) (λZ=>False) s s')(h':dO K.hc (UU R B) s'.heap (T j).1 (T j).2 t'):
  aN K B R T env (setAt t' j hs) ρ s':=by
 have ha:R (T j).2=aa (.tab j):=(I.tabs j t hj).2;have zK:UU R B (T j).2:=.inl (gE ha);have X:Kept (· ≠.tab j) B B R R T T hs (setAt t' j hs) s s':=⟨λb o n e=>m.keep b o (λq=>n (q▸zK)) e,λZ Z Z n=>n,λb r hr h=>⟨h,λo e=>m.keep b o (λq=>hr (by subst q;replace h:=ha▸h;exact(iq h).symm)) e⟩,λi u e=>⟨by
  by_cases q:i=j
  ·exact⟨t',by refine rE q ?_;exact CA t' hj⟩
  ·exact⟨u,(CB t' q).trans e⟩,rfl⟩⟩
 refine I.tr X nofun (λb hb=>?_) I.bd (λy i sl a b c=>let⟨v,p,q⟩:=I.vars y i sl a b c;⟨v,p,q.kept X λZ Z=>nofun⟩) λi u e=>?_
 ·by_cases zL:b=(T j).2
  ·obtain⟨_,_,_,vs,n,_,_,_,_,_,_,_,_,_,_,e,_⟩:=h';exact⟨_,zL▸e⟩
  ·exact xE (I.ub b hb) λo e=>⟨o,m.keep b o zL e⟩
 ·by_cases jL:i=j
  ·clear zK m;subst jL;replace e:=iJ (CA t' hj▸e);subst e;exact⟨h',ha⟩
  ·replace e:=CB t' jL▸e;exact xA (I.tabs i u e) λp q=>⟨p.mono X.keep X.hu λZ Z=>(X.role _ (.tab i) (λz=>jL (by cases z;rfl)) q).2 _,q⟩
theorem ZH(O:bU K)(OA:zR K A){e e':RE}{t:d6}{sx sy:ah}(hi:aZ x K.X.names=aa i)(ez:d8 (aV x ks))(hl:cH ap p)
  (ha:cZ K C A ks args (.cons e (.cons e' .nil))) (hk:dg ks env) (I:aN K B R T env hs ρ s) (hg:get ρ i=aa (.cU j)) (ht:hs[j]? =aa t) (hu:ev K.tk C hs e ρ=aa (.str sx,ae)) (hv:ev K.tk C hs e' ρ=aa (.str sy,ae))
  (hy:keyOk sy) (h3:t.length<1000000) {Q:ji→ay→Prop}{E:aW} (c0:iy sx→∀s',aN K B R T env (setAt (t++[(sx,sy)]) j hs) ρ s'→eA R R s s'→Q .next s')
  (hx:iy sx=ag→mh (sL sx)∧(sL sx).length=1∧∃l,K.me=aa (env,l)∧A.frames=aa (env::l.map (·.1))∧
   ∀e av s',Ext s av→aN K B R T env hs ρ av→oT (blank (iH env l) av.heap) (env::l.map (·.1)) e av s'→E (.ref e) s'):
  ar (aw prog K.w) A (exec (.Expr (.Call (.Attribute (.Name x q) rz ap) args [] p) pos) env) Q E s:=by
 refine xA (I.cU x i j hi hg (nJ hk ez)) λZ Ob=>xA (I.tabs j t ht) λhT hR=>?_;have hp:=rB (p:=p) (env:=env) ha;have hint:interactive env=ag:=by unfold interactive;refine rE I.kind ?_;rfl
 refine UA ?_ hint;refine pP rfl hl (rE hp.2.2 (by decide:2≤20)) hp.2.1 ?_;have name:∀ {Q E:aW},Q (.ref (T j).1) s→ar (aw prog K.w) A (eval (.Name x q) env) Q E s:=λ{Q E} h=>by
  refine yA ?_ (O.nm x i hi).1;rcases Ob with⟨k,m,n,e⟩| ⟨k|k,c,f1,f2⟩
  ·exact wJ I.kind k n e h
  ·exact A1 I.kind k f1 f2 h
  ·exact A2 I.kind k f1 f2 h (O.nm x i hi).2
 refine name λpl=>OA.G6 (UU R B) s (T j).1 (T j).2 t I.bH I.ub (.inl (gE hR)) hT pl _ _ λf first ai aq hf hc=>?_
 clear pl name hint hp hT Ob hl ez hi;refine ib hf ?_;clear hf;intro fa o fd e9 ho hd;subst e9;refine Er (xm hk ha (I.ext aq).e (xs:=[.str sx,.str sy]) (BV hu hv) λus av aC r=>⟨⟨aC.keep _ _ ho,hd⟩,?_⟩);refine xA (hc us av sx sy aC r hy h3) λc1 c2=>?_;have zU:=aq.trans aC;have gC:=I.ext zU;induction hn:iy sx with
 |true=>exact c1 hn _ _ λZ aR tA kX=>c0 hn _ (gC.ZG ht tA kX) ((eA.ext zU).trans ⟨λZ h=>.inl h,tA.mono (λa h=>by refine rE h ?_;refine rE hR ?_;exact λq=>by exact zS q) λZ h=>h⟩)
 |false=>exact VC (hx hn) λn1 n2 l hm cC hE=>xA (gC.frames hm) λf1 f2=>c2 hn n1 n2 _ _ cC f1 f2 _ _ λe aR fl=>hE e av aR zU gC fl
theorem ZI:(mx == ("__debug__" :ah))=ag:=by decide
theorem gB.tup(h:gB ks env s s')(f:jn U env s.heap){o:fI}(e:s.heap.get? a=aa o)(hd:(∃vs,o.data=.fields vs)∨∃vs n,o.data=.seq vs n):s'.heap.get? a=aa o:=by
 rcases h.1 a _ e with h|rfl| ⟨x,_,h⟩
 ·exact h
 ·obtain⟨_,m,o,es,ep,ho,dB,_⟩:=f.loc;replace e:=iJ (ho▸e);subst e;rcases hd with⟨_,hd⟩| ⟨_,_,hd⟩<;>(replace dB:=hd▸dB;cases dB)
 ·refine mr (f.fQ x a h) λZ v o ho dB=>?_;replace e:=iJ (ho▸e);subst e;rcases hd with⟨_,hd⟩| ⟨_,_,hd⟩<;>(replace dB:=hd▸dB;cases dB)
theorem G7:isSubtype (.type "ValueError") (.type "BaseException")=pure ae∧isSubtype (.type ((Manifest.find? "ValueError").elim "type" λx=>x.metatype)) (.type "tuple")=pure ag∧isSubtype (.type "ValueError") (.type "ValueError")=pure ae:=by refine⟨?_,?_,?_⟩<;>(refine rE (isSubtype_type ..) ?_;kernel_rfl)
theorem ZJ(O:bU K)(hu:A.units+4<cLine){l:List (bF × pA)}(hm:K.me=aa (env,l))(cC:A.frames=aa (env::l.map (·.1)))(I:aN K B R T env hs ρ s)(hk:dg ks env){e:aE}
  (fl:oT (blank (iH env l) s.heap) (env::l.map (·.1)) e s s') {nm:ah}{p1 p2 p3 p4 p5 p6 p7 p8:aO}{kk:Nat}{ret:List a9} (hv:eZ (aV mx ks)) (hs':eZ (aV lE ks)) (hn:aV nm ks=aa .local) (hd:sEq nm ("__debug__" :ah)=ag) (hi:aZ nm K.X.names=af)
  {Q:ji→ay→Prop}{E:aW} (hQ:∀dh,aN K B R T env hs ρ dh→Mv (λa=>R a≠af) (λZ=>False) s dh→Q .next dh):
  ar (aw prog K.w) A (noteFrame (.ref e) env) (λZ av=>ar (aw prog K.w) A (setFlight (.ref e) af) (λZ aR=>ar (aw prog K.w) A (handleBy (.ref e) env
   [.ExceptHandler (aa (.Name mx p1)) (aa nm) [.If (.Compare (.Call (.Name lE p2) [.Name nm p3] [] p4) [.NotEq] [.Constant (.str td) kk p5] p6) ret [] p7] p8]) Q E aR) E av) E s':=by
 have hL:env.frame=aa env.locals:=(I.outs _ _ hm).2.1;have iD:env.kindOf nm=aa .local:=by
  rcases hk nm .local hn with k|k
  ·exact k
  ·cases k.1
 have cm:dz (aV nm ks):=by refine rE hn ?_;rfl
 obtain⟨⟨tt,tk,tJ,tup⟩,up,gens,bare,os⟩:=fl;refine wpAny_looks_onW cC hL tJ λoU held Oc=>wpAny_landsW held λZK G8 Od=>?_;have u5:=up.trans (Oc.trans Od);have vC:aN K B R T env hs ρ {s' with heap:=ZK}:=I.tJ hm G8.1 u5;refine wpAny_handleBy_builtin_as (X:= "ValueError") (T:= "ValueError") (b:=ae) G7.1 G7.2.1 G7.2.2 (vC.e.builtin (lF hk hv) O.ve ZI ⟨rfl,let⟨ob,h1,h2⟩:=G8.there;⟨ob,h1,h2⟩,?_⟩);refine rE (if_pos rfl) (lands_againW G8 λOe G9 Of=>?_);have u6:=u5.trans Of;have Ha:aN K B R T env hs ρ {s' with heap:=Oe}:=I.tJ hm G9.1 u6;refine Ha.NI hi cm (.inl iD) λeJ Og Hb ZL=>?_;have x7:eJ.heap.ExcAt e "ValueError" (.ref tt):=by
  refine E4 G9.first λo vs h1 h2 h3 h4=>?_
  exact⟨o,vs,Hb.tup Ha.bu h1 (.inl ⟨vs,h3⟩),h2,h3,h4⟩
 have t7:eJ.heap.TupAt tt [.str td tk]:=cK (tup.of_slots (Oc.trans (Od.trans Of))) λo n h1 h2 h3=>⟨o,n,Hb.tup Ha.bu h1 (.inr ⟨_,n,h3⟩),h2,h3⟩
 obtain⟨m,n,ZM⟩:∃m,eJ.heap.Ns env.locals m∧m nm=aa (.ref e):=by
  rcases ZL with⟨_,m,n,e⟩| ⟨k|k,_⟩
  ·exact⟨m,n,e⟩
  ·replace k:=iD▸k;cases k
  ·replace k:=iD▸k;cases k
 refine gq (wO (yE ?_ rfl));show ar _ _ (do jY p4 (← eval (.Name lE p2) env) [] (gJ p4 (fZ [.Name nm p3] env)) []) _ _ eJ;refine aB (Og.e.builtin (lF hk hs') O.str nK.2.1 (A4 rfl (qM (ir ?_))));refine yA (wJ I.kind iD n ZM ?_) (beq_false_of_ne λq=>by replace hd:=sEq_iff.mpr q▸hd;exact zT hd);refine jZ ?_;show ar _ _ (call (.type "str") [.ref e]) _ _ eJ;refine(P.str_of_exc_one F.excStr_ValueError (show(A.mark (aa (yG e))).units+2<cLine from(show A.units+2<cLine by lia)) x7 t7 ?_);refine Kx (ahm (lr ?_));refine rE (if_neg (by simp)) (oA (oA ?_));refine aN.ZE (Og.ext .tok) hi cm iD λoV ZN zV=>hQ oV ZN ?_;have bu:∀a,eG ks env a→R a≠af:=λa h=>gE (I.fr a (mE h));have m0:Mv (λa=>R a≠af) (λZ=>False) s {s' with heap:=Oe}:=⟨λa o q e=>G9.1 a o ((vB.2 λk=>q (gE (I.qc hm k).1)).trans e),λg x Z e=>gens g x e,bare,os⟩;exact m0.trans ((Hb.mv.mono bu λZ h=>h).trans (Ext.tok.mv.trans (zV.mono bu λZ h=>h)))
theorem ZO(O:bU K)(OA:zR K A)(hu:A.units+4<cLine)(lP:∀c,CH=aa c→∃e l,K.me=aa (e,l)∧A.frames=aa (e::l.map (·.1))){e e' a:RE}{v:Nat}(hi:aZ x K.X.names=aa v)(ez:d8 (aV x ks))(hl:cH ap p)
  (ha:cZ K C A ks args (.cons e (.cons e' .nil))) {st:a9} (cz:d9 K C CH A ks st (.app i a)) {nm:ah}{p1 p2 p3 p4 p5 p6 p7 p8 p9:aO}{kk:Nat}{ret:List a9} (hv:eZ (aV mx ks)) (hs':eZ (aV lE ks)) (hn:aV nm ks=aa .local) (hd:sEq nm ("__debug__" :ah)=ag) (oW:aZ nm K.X.names=af):
  d9 K C CH A ks (.Try [.Expr (.Call (.Attribute (.Name x q) rz ap) args [] p) pos,st] [.ExceptHandler (aa (.Name mx p1)) (aa nm) [.If (.Compare (.Call (.Name lE p2) [.Name nm p3] [] p4) [.NotEq] [.Constant (.str td) kk p5] p6) ret [] p7] p8] [] [] p9) (.yT v e e' i a):=by
 intro B R T env hs ρ s fl hk I hex Q E hQ;refine oE hex λc hc g0=>oE g0 λj hg g1=>oE g1 λt ht g2=>wE g2 λu ZP g3=>wE g3 λw hw g4=>oE g4 λsx e6 g5=>oE g5 λsy e7 g6=>wE g6 λZ c0 g7=>xA (W.de c0) λZ c0=>?_;have hg:=E8 hg;obtain rfl:=kN e6;obtain rfl:=kN e7;clear hex g0 g1 g2 g3 g4 g5 g6 e6 e7;replace c0:=(jW ..)▸(jW ..)▸c0;obtain⟨⟨h1,h2⟩,h3⟩:=c0;refine gy (lP c hc) λme l hm cC=>?_;clear c0 hc c;obtain rfl:env=me:=(I.outs _ _ hm).1;refine wpAny_Try_except (gq (ZH O OA hi ez hl ha hk I hg ht ZP hw h2 (bc h3) (λhx ai dn sp=>?_) λhx=>?_))
 ·replace g7:=hx▸g7;have g7:ex K.tk C CH (.app i a) ρ (setAt (t++[(sx,sy)]) j hs)=aa (fl,ae):=g7;refine gq (cz B R T env _ ρ ai fl hk dn g7 _ _ λdq s' L=>?_);have fE:∃ρ' hs',fl=.next ρ' hs':=oE g7 λZ Z g8=>wE g8 λZ Z g8=>wE g8 λZ Z g8=>⟨_,_,W.bp g8 |>.symm⟩
  clear dn h3 h2 hg;refine lC fE ?_;clear fE;intro ρ' aiD e9;subst e9;have L':=L.before (hs:=hs) sp (λZ Z=>rfl) (rE (Oa ..) (bZ _));clear sp hg;refine E4 L ?_;clear L;intro _ _ _ _ e9 _;subst e9;exact oA (oA (hQ _ _ L'))
 ·replace g7:=hx▸g7;have g7:W.bind (W.need () (az (sL sx).length 1)) (λZ=>W.ret (Fl.next ρ hs))=aa (fl,ae):=g7;refine wE g7 λZ n1 g8=>xA (W.de n1) λZ n1=>?_;clear g7 hx h3;obtain rfl:=W.bp g8;refine⟨h1,fY n1,l,hm,cC,λe av s' aC gC tJ=>ZJ O hu hm cC gC hk tJ hv hs' hn hd oW λdh Cu m=>hQ _ _ (.next ((eA.ext aC).trans ⟨λZ h=>.inl h,m⟩) Cu)⟩
end
section
variable(K:Kt)(g:nC)(A:dU)
structure zW:Prop where
 qV:∀B R T env hs ρ s j t args vs d t' f a fd,aN K B R T env hs ρ s→hs[j]? =aa t→g f args t=aa ((d,t'),ae)→K.fo f=aa (a,fd)→aI (UU R B) s.heap vs args→
  ∀ (Q E:aW),(∀v s',aN K B R T env (setAt t' j hs) ρ s'→eA R R s s'→Rd (UU R B) s'.heap v d→Q v s')→ar (aw prog K.w) A (yC (.ref a) (vs++[.ref (T j).1])) Q E s
end
section
variable{K:Kt}
variable{T:dW}
theorem aN.name(I:aN K B R T env hs ρ s)(O:bU K)(hi:aZ x K.X.names=aa i)(hg:get ρ i=aa (.cU j))(hk:d8 (env.kindOf x))(hQ:Q (.ref (T j).1) s):ar (aw prog K.w) A (eval (.Name x q) env) Q E s:=by
 refine yA ?_ (O.nm x i hi).1;rcases(I.cU x i j hi hg hk).2 with⟨k,m,n,e⟩| ⟨k|k,c,f1,f2⟩
 ·exact wJ I.kind k n e hQ
 ·exact A1 I.kind k f1 f2 hQ
 ·exact A2 I.kind k f1 f2 hQ (O.nm x i hi).2
theorem ZQ(O:kT K C A){v:Nat}{CC:aO}{d1 d2:D}(hi:aZ x K.X.names=aa v)(ez:d8 (aV x ks))(hl:cH ap p)(nT:cH CC p2)
  (ha:cZ K C A ks args (.cons (.tup (.cons (.lit d1) (.cons (.lit d2) .nil))) .nil)):d9 K C CH A ks (.Expr (.Call (.Attribute (.Call (.Attribute (.Name x q) nG ap) [] [] p) u4 CC) args [] p2) pos) (.yS v):=by
 intro B R T env hs ρ s fl hk I hex Q E hQ;refine oE hex λt ht h1=>aD (E9 ht) λj hj ht=>xA (W.de h1) λe9 h2=>?_;subst e9;have h2:t.length+1≤1000000:=bc h2;have hint:interactive env=ag:=by unfold interactive;refine rE I.kind ?_;rfl
 have hp:=rB (p:=p2) (env:=env) ha;refine UA ?_ hint;refine pP rfl nT (rE hp.2.2 (by decide:1≤20)) hp.2.1 (pP rfl hl (by decide) rfl (I.name O.ok hi hj (nJ hk ez) λpl=>?_));refine O.oH (UU R B) s _ t I.bH I.ub (I.tabs j t ht).1.tab (by lia) pl _ _ λf first ai aq hf hc=>?_
 refine ib hf λfa o fd e9 ho hd=>?_;subst e9;refine Er (Ky ⟨⟨ho,hd⟩,?_⟩);refine hc [] ai (.refl ai) .nil _ _ λb av aC hb hl=>gy hl λvs n e1 e2=>?_;intro pl2;refine rE NL (Kz (T:= "list") ⟨_,e1,rfl⟩ ahH ahI ahJ (λc e=>by cases e;exact⟨_,e1,rfl⟩) (uB hp.1 (xm hk ha (I.ext (aq.trans aC)).e (xs:=[.tuple [d1,d2]]) rfl λus aR bx r=>?_)));refine aD (nN r) λu e9 Z=>?_;subst e9;have eY:vs.size≤qF:=by have h1:=e2.length;replace h1:=(aQ ..)▸eL▸h1;refine rE lu ?_;lia
 refine B7 (bx.keep _ _ e1) eY λh' n' f1 f2=>?_;have m:Mv (λc=>c=b) (λZ=>False) aR {aR with heap:=h'}:=⟨λc o n e=>(f2.2 c n).trans e,λZ Z Z e=>e,λe=>e,rfl⟩;have X:Ext s {aR with heap:=h'}:=m.ext ((aq.trans aC).trans bx) (λc h=>h▸jK aq hb) λZ h=>h.elim;exact hQ _ _ (.next (eA.ext X) (I.ext X))
theorem ZR(O:bU K)(OH:∀c,CH=aa c→zW K c A){y f h:ah}{q2:aO}{e:au}{fi v:Nat}(hi:aZ y K.X.names=aa i)(cm:dz (aV y ks))(hf:aZ f K.X.fns=aa fi)(Hc:eZ (aV f ks))
  (cz:nH e=ag) (he:bg K C A ks e r) (hv:aZ h K.X.names=aa v) (ez:d8 (aV h ks)):d9 K C CH A ks (.Assign [.Name y p] (.Call (.Name f q) [e,.Name h q2] [] p2) pos) (.qV i fi v (.cons r .nil)):=by
 intro B R T env hs ρ s fl hk I hex Q E hQ;refine oE hex λj hg g1=>oE g1 λt ht g2=>wE g2 λxs hx g3=>oE g3 λc hc g4=>?_;obtain⟨⟨d,t'⟩,hd,g5⟩:=W.LA g4;clear g4 g3 g2 g1 hex;obtain rfl:=W.bp g5;have hg:=E8 hg;refine wE (hx:W.bind _ _=_) λx zM g6=>wE g6 λZ hn g7=>?_;clear g6 g5 hx;obtain rfl:=W.bp (hn:W.ret ([]:List D)=_);clear hn;obtain rfl:=W.bp g7;refine gy (O.fm f fi hf) λa fd h1 h2=>oB ?_ rfl;show ar _ A (do jY p2 (← eval (.Name f q) env) [] (gJ p2 (fZ [e,.Name h q2] env)) []) _ E s;refine aB (I.e.global (lF hk Hc) h2 (O.nf f fi hf) ?_);refine gz (I.bH.fo fi a fd h1) λo ho Z ZS Z=>rE (mB cz) (Er (o:=o) (fd:=fd) (qM (ir ((he _ env hs ρ s x hk I.e zM).1 _ _ λu ai aq ru=>?_))));have dn:=I.ext aq;refine ir (dn.name O hv hg (nJ hk ez) (jZ ⟨⟨aq.keep _ _ ho,ZS⟩,?_⟩));exact(OH c hc).qV B R T env hs ρ ai j t [x] [u] d t' fi a fd dn ht hd h1 (.one ru) _ _ λw av gC sp rd=>gC.store (sl:=.val d) hi cm (mD hk cm) rd λaR pT m=>hQ _ _ ⟨R,T,(eA.ext aq).trans (sp.trans (gC.dY m)),λZ Z=>rfl,rfl,by refine rE (Oa ..) ?_;exact bZ _,pT⟩
end
structure jN(K:Kt)(C:l9)(CH:Option nC)(A:dU):Prop where
 o:kT K C A
 g:pY K A
 n:xC K A
 a:zR K A
 h:∀c,CH=aa c→(∃e l,K.me=aa (e,l)∧A.frames=aa (e::l.map (·.1)))∧zW K c A
section
variable{K:Kt}
theorem jN.hh(O:jN K C CH A):A.handled=af:=let⟨_,r⟩:=O.o.room;r.handled
theorem Oh{e:au}(h:zl ks e):∃q p,e=.Call (.Name mw q) [] [] p∧eZ (aV mw ks):=by
 unfold zl at h;induction q:view e with
 |call f args iA p=>replace h:=q▸h;obtain rfl:=dM q rfl;refine xA (cg h) λh1 h2=>xA (cg h2) λh3 h4=>?_;clear h2;obtain rfl:=sQ.mp h1;clear h1;obtain rfl:=zI h3;clear h3;refine aD (zw h4) λp' e9 hg=>?_;subst e9;exact⟨p',p,rfl,hg⟩
 |_=>replace h:=q▸h;exact zF h
theorem ZT{e:au}(h:BN e):∃p,e=.List [] p:=by
 unfold BN at h;induction q:view e with
 |list es p=>replace h:=q▸h;obtain rfl:=dM q rfl;obtain rfl:=sQ.mp h;exact⟨p,rfl⟩
 |_=>replace h:=q▸h;exact zF h
theorem ZU{e:au}(h:zj e):(∃es q,view e=.list es q)∨(∃l r q,view e=.bin l .Add r q):=by
 unfold zj at h;induction q:view e with
 |list es p=>exact .inl ⟨es,p,rfl⟩
 |bin l o r p=>
  replace h:=q▸h;induction o<;>first| (cases h;done)|exact .inr ⟨l,r,p,rfl⟩
 |_=>replace h:=q▸h;exact zF h
section
variable{F:KS→au→Option RE}
theorem ZV(hF:iE K C A F):∀ {es:List au}{ts:List RT},FU F ks es=aa ts→nV K C A ks es ts:=by
 intro es;induction es with
 |nil=>intro ts h;replace h:=iJ h;subst h;exact .nil
 |cons e es ih=>
  intro ts h;refine oE h ?_;clear h;intro rs h1 h2;have ih:=ih h1;induction q1:BN e with
  |true=>clear h1;replace h2:=iJ (q1▸h2);subst h2;refine xE (ZT q1) λp e9=>?_;subst e9;exact .nz ih
  |false=>
   replace h2:=q1▸h2;induction q2:zl ks e with
   |true=>clear h1;replace h2:=iJ (q2▸h2);subst h2;refine gy (Oh q2) λq p e9 hg=>?_;subst e9;exact .jk hg ih
   |false=>
    replace h2:=q2▸h2;induction q3:BK (view e)with
    |some kvs=>replace h2:=q3▸h2;replace h2:=iJ h2;subst h2;exact .fN (by induction e using uz<;>first|rfl|exact zN q3) q3 ih
    |none=>replace h2:=q3▸h2;refine oE (h2:(F ks e).bind _=_) λr h3 h4=>?_;replace h4:=iJ h4;subst h4;exact .val (noStar (hF _ _ _ h3).2) (hF _ _ _ h3).1 ih
theorem ZW(O:jN K C CH A)(hF:iE K C A F)(hi:aZ x K.X.names=aa i)(cm:dz (aV x ks))
  (h1:distinct scope.names) (h2:freeOk ks scope.names) (h3:scope.kind=.function) (h:FF K.X F ks scope.names gs elt=aa r):d9 K C CH A ks (.Assign [.Name x p] (.ListComp elt gs scope q) pos) (.asg i r):=by
 induction gs using bj with
 |nil=>exact zN h
 |cons g gs=>obtain⟨t,it,ifs,a⟩:=g;refine oE h λrelt he h=>oE h λtg ht h=>oE h λri vk h=>oE h λris hl h=>oE h λrgs hg h=>xA (cj h) λh4 h=>xA (cg h4) λh4 h5=>xA (cg h5) λh5 h6=>?_;replace h:=iJ h;subst h;clear h;obtain rfl:=GG h4;exact YU O.hh hi cm h3 h1 h2 ht (Cm O.o O.g O.hh hF vk) (lL hF hl) (NG O.o O.g O.hh hF hg) (hF _ _ _ he).1 (NB h5) (NC h6)
theorem ZX(O:jN K C CH A)(hF:iE K C A F){v:au}{e:RE}(hi:aZ x K.X.names=aa i)(cm:dz (aV x ks))(he:cV K.X F ks (view v)=aa e):
  d9 K C CH A ks (.Assign [.Name x p] v pos) (cond (has i K.X.mu&&zj v) (.own i e) (.asg i e)):=by
 have hv:=Co O.o O.g O.hh hF ks v e he;induction hO:(has i K.X.mu&&zj v)with
 |true=>
  refine xA (cg hO) λZ hf=>?_;rcases ZU hf with⟨es,q,hq⟩| ⟨l,r,q,hq⟩
  ·replace he:=hq▸he;clear hf;obtain rfl:=dM hq rfl;refine oE he λrs rK h1=>xA (cj h1) λh2 h3=>?_;replace h3:=iJ h3;subst h3;refine NO hi cm (λZ=>rfl) λU env hs ρ s xs hk I ao=>wE (ao:W.bind (eD K.tk C hs rs ρ) _=_) λys hy ao=>?_;cases W.bp ao;exact Y7 (lL hF rK) h2 hk I hy
  ·replace he:=hq▸he;clear hf;obtain rfl:=dM hq rfl;refine oE he λa ha h1=>oE h1 λo ho h2=>oE h2 λb hb h3=>?_;replace ho:=iJ ho;subst ho;replace h3:=iJ h3;subst h3;exact NO hi cm (λZ=>rfl) λU env hs ρ s xs hk I ao=>Y8 (hF _ _ _ ha).1 (hF _ _ _ hb).1 hk I ao
 |false=>
  by_cases hL:∃elt gs sc q,v=.ListComp elt gs sc q
  ·refine VB hL λelt gs sc q e9=>?_;subst e9;exact xA (cj (he:cond (distinct sc.names&&freeOk ks sc.names&&isFun sc.kind) _ af=_)) λh1 h2=>xA (cg h1) λh1 h3=>xA (cg h1) λh1 h4=>ZW O hF hi cm h1 h4 (NF h3) h2
  ·exact YT hi cm hv.1 λenv=>YS (λa b c d e=>hL ⟨a,b,c,d,e⟩) hv.2
theorem ZY(O:jN K C CH A)(hF:iE K C A F){v:au}{q:Nat × Nat × bf}(hi:aZ x K.X.names=aa i)(cm:dz (aV x ks))(h:BQ K.X F ks v=aa q):
  d9 K C CH A ks (.Assign [.Name x p] v pos) (.qV i q.1 q.2.1 q.2.2):=by
 unfold BQ at h;induction hv:view v with
 |call f args iA cp=>replace h:=hv▸h;obtain rfl:=dM hv rfl;refine oE h λy h1 h2=>xE (xc h1) λp1 e9=>?_;subst e9;refine xA (cj h2) λh3 h4=>xA (cg h3) λh3 h5=>?_;clear h2 h1;obtain rfl:=zI h3;refine oE h4 ?_;clear h4;intro fi h6 h7;obtain⟨⟨e1,e2⟩,h8,h9⟩:=BC h7;clear h7 h3;obtain rfl:=zv h8;refine oE h9 λr fS ke=>oE ke λw mH gT=>xA (cj gT) λZ gT=>?_;clear ke h9 h8 h3;replace gT:=iJ gT;subst gT;clear gT;refine cK (oO mH) λz p2 e9 tK CD=>?_;subst e9;exact ZR O.o.ok (λc hc=>(O.h c hc).2) hi cm h6 h5 (noStar (hF _ _ _ fS).2) (hF _ _ _ fS).1 CD tK
 |_=>exact zN (hv▸h)
theorem ZZ(O:jN K C CH A)(hF:iE K C A F){t v:au}{rs:RS}(h:FV K.X (λks e=>cV K.X F ks (view e)) ks t v=aa rs):d9 K C CH A ks (.Assign [t] v pos) rs:=by
 have hV:=Co O.o O.g O.hh hF;unfold FV at h;induction q:kR K.X ks t with
 |some i=>
  replace h:=q▸h;refine cK (rC q) λx p e9 cm hi=>?_;subst e9;induction hH:has i K.X.s8 with
  |true=>have h:cond (has i K.X.s8) _ _=aa rs:=h;replace h:=hH▸h;refine xA (cj (h:cond _ _ af=_)) λh1 h2=>?_;replace h2:=iJ h2;subst h2;refine gy (Oh h1) λq cp e9 hg=>?_;subst e9;exact Zz O.n hi cm hg
  |false=>
   have h:cond (has i K.X.s8) _ _=aa rs:=h;replace h:=hH▸h;induction hC:BQ K.X (λks e=>cV K.X F ks (view e)) ks v with
   |some q=>replace h:=iJ (hC▸h);subst h;exact rM (ZY O hV hi cm hC) _ _
   |none=>replace h:=hC▸h;refine oE (h:(cV K.X F ks (view v)).bind _=_) λe he h1=>?_;replace h1:=iJ h1;subst h1;exact rM (ZX O hF hi cm he) _ _
 |none=>
  replace h:=q▸h;clear hF;refine oE h λts ht h1=>oE h1 λis oS h2=>lC (BJ ht) λk p e9=>?_;subst e9;clear h h1 q;induction q:zc (view v)with
  |some es=>replace h2:=q▸h2;clear ht;refine lC (BJ q) λk' p' e9=>?_;subst e9;refine oE h2 λxD Z0 h3=>xA (cj h3) λh4 h5=>?_;replace h5:=iJ h5;subst h5;refine xA (cg h4) λh4 h5=>xA (cg h5) λh5 h6=>rM (Zx O.hh O.n oS (ZV hV Z0) (fY h4) (bc h5) ?_) _ _;replace h6:=(UG ..)▸h6;exact h6
  |none=>replace h2:=q▸h2;refine oE h2 ?_;clear h2;intro e he h3;clear ht;replace h3:=iJ h3;subst h3;exact rM (Zj O.hh oS (λes k p e=>by subst e;exact zS q) (hV _ _ _ he).1) _ _
end
end
section
variable{K:Kt}{C:l9}{CH:Option nC}{A:dU}{ks:cT}
theorem Z1(O:bU K){m:ah}{es:bf}{v:Nat}{rs:RS}(hi:aZ x K.X.names=aa v)(ez:d8 (aV x ks))(hl:cH ap p)(ha:cZ K C A ks args es)(h:FW v m es=aa rs):
  d9 K C CH A ks (.Expr (.Call (.Attribute (.Name x q) m ap) args [] p) pos) rs:=by
 unfold FW at h;induction h1:sEq m u4 with
 |true=>replace h:=h1▸h;obtain rfl:=eE h1;refine oE (h:es.c1.bind _=_) λa h6 h7=>?_;replace h7:=iJ h7;subst h7;replace ha:=bf.tn h6▸ha;exact NM O hi ez hl ha
 |false=>
 replace h:=(cond_false ..)▸h1▸h;induction h1:sEq m BO with
 |true=>replace h:=h1▸h;obtain rfl:=eE h1;refine oE (h:es.c1.bind _=_) λa h6 h7=>?_;replace h7:=iJ h7;subst h7;replace ha:=bf.tn h6▸ha;exact Y6 O hi ez hl ha
 |false=>
 replace h:=(cond_false ..)▸h1▸h;refine xA (cj h) λh1 h=>?_;obtain rfl:=eE h1;refine oE h ?_;clear h;intro a h6 h7;clear h h1;replace h7:=iJ h7;subst h7;replace ha:=bf.xp h6▸ha;exact Y5 O hi ez hl ha
theorem Oi{s:a9}{e:au}(h:FL s=aa e):∃p,s=.Expr e p:=by
 induction s using KJ<;>first|exact zN h| (replace h:=iJ h;subst h;exact⟨_,rfl⟩)
theorem Z2{s:a9}{c:au}(h:Mr s=aa c):∃a p,s=.If c a [] p:=by
 induction s using KJ<;>first|exact zN h| (refine xA (cj h) λh1 h2=>?_;replace h2:=iJ h2;subst h2;obtain rfl:=sQ.mp h1;exact⟨_,_,rfl⟩)|exact zN h
theorem Oj{e:au}{c:au × List au × aO}(h:BP e=aa c):e=.Call c.1 c.2.1 [] c.2.2:=by
 unfold BP at h;induction q:view e with
 |call f args iA p=>replace h:=q▸h;refine xA (cj h) λh1 h2=>?_;replace h2:=iJ h2;subst h2;exact rE (dM q rfl) (rE (zI h1) rfl)
 |_=>exact zN (q▸h)
theorem Z3{e:au}{c:au × ah × aO}(h:FN e=aa c):e=.Attribute c.1 c.2.1 c.2.2:=by
 unfold FN at h;induction q:view e with
 |attr o m p=>replace h:=iJ (q▸h);subst h;exact dM q rfl
 |_=>exact zN (q▸h)
theorem CE{e:au}{c:au × ah × List au}(h:zk e=aa c):∃ap p,e=.Call (.Attribute c.1 c.2.1 ap) c.2.2 [] p∧cH ap p:=by refine oE h λa h1 h2=>oE h2 λb h3 h4=>xA (cj h4) λh5 h6=>?_;clear h4 h2 h;replace h6:=iJ h6;subst h6;exact⟨_,_,by refine rE (Oj h1) ?_;exact rE (Z3 h3) rfl,h5⟩
theorem Z4{e:au}{q:au × au}(h:FP e=aa q):∃p,e=.Compare q.1 [.NotEq] [q.2] p:=by
 unfold FP at h;induction hv:view e with
 |cmp l ops es p=>
  replace h:=hv▸h;refine oE h λo h1 h2=>xA (cj h2) λh3 h4=>oE h4 λr h5 h6=>?_;clear h4 h2;replace h6:=iJ h6;subst h6;have:o=.NotEq:=by induction o<;>first|rfl|exact zF h3
  exact⟨p,by refine rE (dM hv rfl) ?_;refine rE (nM h1) ?_;refine rE (nM h5) ?_;exact rE this rfl⟩
 |_=>exact zN (hv▸h)
theorem Z5{e:au}(h:FQ e):∃kk p,e=.Constant (.str td) kk p:=by
 unfold FQ at h;induction q:view e with
 |const c kk p=>
  replace h:=q▸h;induction c with
  |str m=>exact⟨kk,p,by refine rE (dM q rfl) ?_;exact rS (eE h) rfl⟩
  |_=>exact zF h
 |_=>replace h:=q▸h;exact zF h
theorem Ol{e:RE}(h:isLit e):∃d,e=.lit d:=by
 induction e using RE.casesOn<;>first|exact⟨_,rfl⟩|exact zF h
theorem Z6{e:RE}{a:RE}{r:bf}(h:FR e=.cons a r):e=.tup (.cons a r):=by
 induction e using RE.casesOn<;>first|exact congrArg RE.tup h|exact bf.noConfusion h
theorem Z7{es:bf}(h:FT es):∃d1 d2,es=.cons (.tup (.cons (.lit d1) (.cons (.lit d2) .nil))) .nil:=by
 unfold FT at h;induction h1:es.c1 with
 |none=>replace h:=h1▸h;exact zF h
 |some e=>
  replace h:=h1▸h;dsimp only at h;induction h2:(FR e).c2 with
  |none=>replace h:=h2▸h;exact zF h
  |some q=>replace h:=h2▸h;exact xA (cg h) λk1 k2=>xE (Ol k1) λd1 e1=>xE (Ol k2) λd2 e2=>⟨d1,d2,by refine rE (bf.tn h1) ?_;refine rE (Z6 (bf.xp h2)) ?_;refine rE e1 ?_;exact rE e2 rfl⟩
theorem Z8(O:jN K C CH A){o:au}{m:ah}{es:bf}{rs:RS}(hl:cH ap p)(ha:cZ K C A ks args es)(h:Ms K.X ks o m es=aa rs):
  d9 K C CH A ks (.Expr (.Call (.Attribute o m ap) args [] p) pos) rs:=by
 refine xA (cj h) λh1 h2=>xA (cg h1) λh1 h3=>oE h2 λc h4 h5=>xA (cj h5) λh6 h7=>xA (cg h6) λh6 h8=>oE h7 λv h9 fS=>gy (CE h4) λCC p2 e1 ke=>cK (oO h9) λx q e2 ez hi=>lC (Z7 h3) λd1 d2 e3=>rE e1 (rE e2 (rE (eE h1) (rE (eE h8) (rE (sQ.mp h6) ?_))));replace ha:=e3▸ha;replace fS:=iJ fS;subst fS;exact ZQ O.o hi ez ke hl ha
theorem Z9(O:jN K C CH A){F:KS→au→Option RE}(hF:iE K C A F){v:au}{rs:RS}(h:Mt K.X F ks v=aa rs):d9 K C CH A ks (.Expr v pos) rs:=by
 refine oE h λc h1 h2=>gy (CE h1) λap p e1 hl=>oE h2 λes h3 h4=>?_;have ha:=lL hF h3;refine rE e1 ?_;induction hv:nameId K.X ks c.1 with
 |some v=>replace h4:=hv▸h4;refine oE h4 λs h5 h6=>?_;clear h3 e1 h2 h1 h hF;replace h6:=iJ h6;subst h6;exact cK (oO hv) λx q e2 ez hi=>rE e2 (rM (Z1 O.o.ok hi ez hl ha h5) _ _)
 |none=>replace h4:=hv▸h4;exact Z8 O hl ha h4
theorem aaa{b:List a9}(h:BR ks b=aa x):∃p2 p3 p4 p5 p6 p7 kk ret,b=[.If (.Compare (.Call (.Name lE p2) [.Name x p3] [] p4) [.NotEq] [.Constant (.str td) kk p5] p6) ret [] p7]∧eZ (aV lE ks):=oE h λs h1 h2=>oE h2 λc h3 h4=>oE h4 λq h5 h6=>xA (cj h6) λh7 h8=>oE h8 λd h9 fS=>xA (cj fS) λke mH=>oE mH λa gT tK=>lC (Z2 h3) λret p7 e1=>xE (Z4 h5) λp6 e2=>lC (Z5 h7) λkk p5 e3=>aD (zw ke) λp2 e4 hg=>xE (xc tK) λp3 e5=>⟨p2,p3,d.2.2,p5,p6,p7,kk,ret,by refine rE (nM h1) ?_;refine rE e1 ?_;refine rE e2 ?_;refine rE (Oj h9) ?_;refine rE e3 ?_;refine rE e4 ?_;refine rE (nM gT) ?_;exact rE e5 rfl,hg⟩
theorem aab(h:isLocal ks x):aV x ks=aa .local:=by
 unfold isLocal at h;induction q:aV x ks with
 |none=>replace h:=q▸h;exact zF h
 |some k=>replace h:=q▸h;induction k<;>first|rfl|exact zF h
theorem aac{X:Cx}{eh:Kv}(h:Mu X ks eh):∃pt nm hb p,eh=.ExceptHandler (aa (.Name mx pt)) (aa nm) hb p∧eZ (aV mx ks)∧aV nm ks=aa .local∧aZ nm X.names=af∧sEq nm ("__debug__" :ah)=ag∧BR ks hb=aa nm:=by
 obtain⟨ty,nm,hb,p⟩:=eh;induction ty with
 |none=>exact zF h
 |some ty=>
 induction nm with
 |none=>exact zF h
 |some nm=>
  refine xA (cg (h:(pN ks mx ty&&_))) λh1 h2=>xA (cg h2) λh3 h4=>xA (cg h4) λh5 h6=>xA (cg h6) λh7 h8=>aD (zw h1) λpt e1 hg=>?_;refine⟨pt,nm,hb,p,by exact rE e1 rfl,hg,aab h3,Option.isNone_iff_eq_none.mp h5,by induction q:sEq nm ("__debug__" :ah)with|true=>replace h7:=q▸h7;exact zF h7|false=>rfl,?_⟩;induction q:BR ks hb with
  |none=>replace h8:=q▸h8;exact zF h8
  |some y=>replace h8:=q▸h8;exact rE (eE h8) rfl
theorem aad(O:jN K C CH A){F:KS→au→Option RE}(hF:iE K C A F){b:List a9}{hs:List Kv}{rs:RS}(h:Mx K.X F ks b hs=aa rs):d9 K C CH A ks (.Try b hs [] [] pos) rs:=by
 refine oE h λq h1 h2=>oE h2 λeh h3 h4=>xA (cj h4) λh5 h6=>yY (aac h5) λpt nm hb p8 e1 hgv k2 k4 k3 h7=>VH (aaa h7) λp2 p3 p4 p5 p6 p7 kk ret e2 k1=>oE h6 λv h8 h9=>oE h9 λc fS ke=>oE ke λv2 mH gT=>oE gT λc2 tK CD=>xA (cj CD) λHd qd=>xA (cg Hd) λHd rP=>oE qd λw h19 Om=>oE Om λes vD Oo=>oE Oo λkv He Hf=>oE Hf λi h25 CF=>oE CF λMw rQ oX=>oE oX λa zX kg=>?_;clear oX CF Hf Oo Om qd CD;replace kg:=iJ kg;subst kg;refine xE (Oi h8) λq1 e3=>xE (Oi mH) λq2 e4=>gy (CE fS) λap p e5 l1=>gy (CE tK) λCC p' e6 l2=>cK (oO h19) λx x1 e7 hkx hix=>cK (oO h25) λy y1 e8 jJ hiy=>?_;have s1:=lL hF vD;have s2:=lL hF rQ;replace s1:=bf.xp He▸s1;replace s2:=bf.tn zX▸s2;have hu:A.units+4<cLine:=by refine xE O.o.room λn r=>?_;have:=r.units;lia
 refine rE (zv h1) (rE (nM h3) (rE e1 (rE e2 (rE e3 (rE e4 (rE e5 (rE e6 (rE e7 (rE e8 (rE (eE Hd) (rE (eE rP) ?_)))))))))));exact rM (ZO O.o.ok O.a hu (λc hc=>(O.h c hc).1) hix hkx l1 s1 (NM O.o.ok hiy jJ l2 s2) hgv k1 k2 k3 k4) _ _
theorem aae(O:jN K C CH A){rs:RS}(h:d9 K C CH A ks st rs)(ms:ax):d9 K C CH A ks st (FH ms rs):=by
 induction ms using bj with
 |nil=>exact h
 |cons i r=>intro B R T env hs ρ s fl hk I hex Q E hQ;exact h B (pZ (i::r) R) T env hs (dX (i::r) ρ) s fl hk (I.freeze _) hex Q E λdq s' L=>hQ dq s' (L.before (.dX _) (λZ Z=>rfl) (bZ _))
variable(K C CH A ks)in
noncomputable def Hg(G:List a9→Option bP):Prop:=∀b rb,G b=aa rb→rL K C CH A ks b rb
theorem Oq{f:a9→Option RS}(hf:∀st rs,f st=aa rs→d9 K C CH A ks st rs):Hg K C CH A ks (zo f):=by
 intro b;induction b with
 |nil=>intro rb h;replace h:=iJ h;subst h;exact YN
 |cons st b ih=>intro rb h;refine oE h λr h1 h2=>oE h2 λrs h3 h4=>?_;replace h4:=iJ h4;subst h4;exact YO (hf _ _ h1) (ih _ h3)
theorem aaf(O:jN K C CH A){F:KS→au→Option RE}(hF:iE K C A F){G:List a9→Option bP}(hG:Hg K C CH A ks G){rs:RS}(h:My K.X (λks e=>cV K.X F ks (view e)) ks G st=aa rs):d9 K C CH A ks st rs:=by
 have hV:=Co O.o O.g O.hh hF;cases st with
 |Assign ts v pos=>refine oE h λt h1 h2=>?_;obtain rfl:=nM h1;exact ZZ O hF h2
 |AugAssign t op v pos=>clear hF;refine oE h λi h1 h2=>oE h2 λo h3 h4=>oE h4 λe h5 h6=>cK (rC h1) λx p e9 cm hi=>?_;subst e9;replace h6:=iJ h6;subst h6;exact rM (YZ O.o.ok hi cm h3 (hV _ _ _ h5).1) _ _
 |Expr v pos=>exact Z9 O hV h
 |If c a b pos=>refine oE h λrc h1 h2=>oE h2 λra h3 h4=>oE h4 λrb h5 h6=>?_;clear hF;replace h6:=iJ h6;subst h6;exact rM (YQ (hV _ _ _ h1).1 (hG _ _ h3) (hG _ _ h5)) _ _
 |For t it body orelse pos=>refine xA (cj h) λh0 h=>oE h λtg h1 h2=>oE h2 λri h3 h4=>oE h4 λrb h5 h6=>?_;replace h6:=iJ h6;subst h6;obtain rfl:=sQ.mp h0;exact rM (Zg O.hh h1 (Cm O.o O.g O.hh hV h3) (hG _ _ h5)) _ _
 |Try b hs e f pos=>refine xA (cj h) λh1 h=>xA (cg h1) λh1 h2=>?_;obtain rfl:=sQ.mp h1;obtain rfl:=sQ.mp h2;exact aad O hV h
 |Return v pos=>refine oE h λe h1 h2=>oE h2 λr h3 h4=>?_;clear h2;subst h1;replace h4:=iJ h4;subst h4;exact aae O (YR (hV _ _ _ h3).1) _
 |_=>exact zN h
theorem aag(O:jN K C CH A)(b:List a9){rb:bP}(h:BS K.X ks b=aa rb):rL K C CH A ks b rb:=by
 have go:∀n,Hg K C CH A ks (zo (Mz K.X (cE K.X 30) ks n)):=by
  intro n;refine Oq ?_;induction n with
  |zero=>exact λst rs h=>nomatch h
  |succ n ih=>exact λst rs h=>aaf O (YK O.o O.g O.hh 29) (Oq ih) h
 exact go 12 b rb h
end
noncomputable def Cx.wm(X:Cx)(m c:ax):Cx:=⟨X.names,X.fns,m,X.s8,X.bH,c⟩
noncomputable def Kt.wm(K:Kt)(m c:ax)(me:Option (bF × List (bF × pA))):Kt:=⟨K.w,K.X.wm m c,K.tk,K.mg,K.mb,K.fo,K.hc,K.fr,me⟩
structure gh(X:Cx)(fd:pw)(fn:Fn):Prop where
 ex:∃ (b:List a9) (ps:List ah) (m c:ax),fd.body=.stmts b∧BS (X.wm m c) fd.scope.names b=aa fn.body∧
  (∀vals:List ak,vals.length=ps.length→jD fd ⟨vals,[]⟩=pure (ps.zip vals))∧ps.map (λx=>aZ x X.names)=fn.params.map aa∧
  ps.Nodup∧∀x∈ps,fd.scope.names.lookup x=aa .local∨fd.scope.names.lookup x=aa .cell
 gD:fd.closure=[]
 gl:fd.globals=gn
 bi:fd.builtins=jB
 Ot:fd.scope.names.all (λp=>p.2 !=.free)
 co:fd.scope.isCoroutine=ag
 gen:fd.scope.isGenerator=ag
 kind:fd.scope.kind=.function
theorem aah:∀ (names:cT) (n:Nat) (acc:List (ah × aE)) (x:ah),(acc.lookup x).isSome→((jC n names acc).lookup x).isSome:=by
 intro L0;induction L0 with
 |nil=>intro _ _ _ h;exact h
 |cons cx r ih=>
  obtain⟨m,k⟩:=cx;intro n acc x h;unfold jC;split
  ·refine ih _ _ x (rE sO ?_);induction x == m with
   |true=>rfl
   |false=>exact h
  ·exact ih _ _ x h
theorem zY:∀ (names:cT) (n:Nat) (acc:List (ah × aE)) (x:ah),names.lookup x=aa .cell→((jC n names acc).lookup x).isSome:=by
 intro L0;induction L0 with
 |nil=>exact nofun
 |cons cx r ih=>
  obtain⟨m,k⟩:=cx;intro n acc x h;rw[sO]at h;unfold jC;induction hb:x == m with
  |true=>replace h:=iJ (hb▸h);subst h;refine rE (if_pos (show(oy == oy) from rfl)) (aah r _ _ x (rE sO (rE hb ?_)));rfl
  |false=>
   replace h:=hb▸h;split
   ·exact ih _ _ x h
   ·exact ih _ _ x h
theorem Hh(kf:ah→Option eC):∀ (bs:List (ah × ak)) (m:gw) (x:ah),(∀p∈bs,p.1≠x)→bindL kf bs m x=m x
 | [],_,_,_=>rfl
 | (n,v)::r,m,x,h=>by
  unfold bindL;refine rE (Hh kf r _ x λp hp=>h p (cf _ hp)) ?_;have hx:x≠n:=λe=>h (n,v) bG e.symm;split
  ·simp[hx]
  ·rfl
theorem Hi(kf:ah→Option eC):∀ (bs:List (ah × ak)) (m:gw) (x:ah),(∀p∈bs,p.1≠x)→bindC kf bs m x=m x
 | [],_,_,_=>rfl
 | (n,v)::r,m,x,h=>by
  unfold bindC;refine rE (Hi kf r _ x λp hp=>h p (cf _ hp)) ?_;have hx:x≠n:=λe=>h (n,v) bG e.symm;split
  ·rfl
  ·simp[hx]
theorem aai:∀ (ρ:aM) (i j:Nat) (sl:bA),get (ρ++[(j,sl)]) i=match get ρ i with|some s=>aa s|none=>cond (az j i) (aa sl) af:=by
 intro L0;induction L0 with
 |nil=>intro i j sl;exact rfl
 |cons cx r ih=>
  obtain⟨k,t⟩:=cx;intro i j sl;show get ((k,t)::(r++[(j,sl)])) i=_;show cond (az k i) (aa t) (get (r++[(j,sl)]) i)=match cond (az k i) (aa t) (get r i)with|some s=>aa s|none=>cond (az j i) (aa sl) af
  induction az k i with
  |true=>rfl
  |false=>exact ih i j sl
noncomputable def qe:List Nat→List bA→aM→Option aM
 | [],xs,ρ=>match xs with| []=>aa ρ|_::_=>af
 |i::is,xs,ρ=>match xs with| []=>af|x::xs=>qe is xs (ρ++[(i,x)])
theorem Ou:∀ {is:ax}{ds:List D}{ρ₀:aM},oK is ds ρ₀=aa ρ→qe is (ds.map .val) ρ₀=aa ρ:=by
 intro is;induction is with
 |nil=>intro ds ρ₀ h;induction ds using bj with|nil=>exact h|cons=>exact zN h
 |cons i is ih=>intro ds ρ₀ h;induction ds using bj with|nil=>exact zN h|cons d ds=>exact ih (show oK is ds _=_ from h)
theorem aaj:∀ {is:ax}{bX:List bA}{ρ₀:aM},qe is bX ρ₀=aa ρ→qe (is++[i]) (bX++[sl]) ρ₀=aa (ρ++[(i,sl)]):=by
 intro is;induction is with
 |nil=>intro bX ρ₀ h;induction bX using bj with|nil=>replace h:=iJ h;subst h;rfl|cons=>exact zN h
 |cons j is ih=>intro bX ρ₀ h;induction bX using bj with|nil=>exact zN h|cons x xs=>exact ih (show qe is xs _=_ from h)
theorem Ov:∀ {l:ax}{q:List Nat × Nat},sW l=aa q→l=q.1++[q.2]:=by
 intro l;induction l with
 |nil=>intro q h;exact zN h
 |cons i r ih=>
  intro q h;replace h:=(Lp ..)▸h;induction e:sW r with
  |none=>
   replace h:=iJ (e▸h);subst h;induction r with
   |nil=>rfl
   |cons j r=>replace e:=(Lp ..)▸e;cases e2:sW r<;>(replace e:=e2▸e;exact zS e)
  |some p=>replace h:=iJ (e▸h);subst h;refine rE (ih e) ?_;rfl
section
variable{K:Kt}{T:dW}{h:aP}
theorem jt.Ow(hU:∀b,UU R B b→U b):∀ {is:ax}{vs:List ak}{ds:List D},is.length=ds.length→aI U h vs ds→jt K B R T hs h is vs (ds.map .val):=by
 intro is;induction is with
 |nil=>intro vs ds hl r;obtain rfl:=wF hl.symm;exact⟨r.sX,rfl⟩
 |cons i is ih=>
  intro vs ds hl r;induction ds using bj with
  |nil=>cases hl
  |cons d ds=>refine cK r.uZ λv vs e9 r1 r2=>?_;subst e9;exact⟨v,vs,_,_,rfl,rfl,r1.mono (λZ Z Z e=>e) λb Z Z n k=>n (hU b k),ih (yK hl) r2⟩
theorem jt.snoc{v:ak}(x:fD K B R T hs h i v sl):∀ {is:ax}{vs:List ak}{bX:List bA},jt K B R T hs h is vs bX→jt K B R T hs h (is++[i]) (vs++[v]) (bX++[sl]):=by
 intro is;induction is with
 |nil=>intro vs bX r;refine xA r λe9 bC=>?_;subst e9;subst bC;exact⟨_,_,_,_,rfl,rfl,x,rfl,rfl⟩
 |cons j is ih=>intro vs bX r;refine w6 r λv' tG tu Cv e9 bC r1 r2=>?_;subst e9;subst bC;exact⟨_,_,_,_,rfl,rfl,r1,ih r2⟩
theorem jt.len:∀ {is:ax}{vs:List ak}{bX:List bA},jt K B R T hs h is vs bX→vs.length=is.length:=by
 intro is;induction is with
 |nil=>intro vs bX r;refine xA r λe9 bC=>?_;subst e9;subst bC;rfl
 |cons j is ih=>intro vs bX r;refine w6 r λv' tG tu Cv e9 bC r1 r2=>?_;subst e9;subst bC;exact congrArg (· +1) (ih r2)
theorem aak(X:Cx)(kf:ah→Option eC)(hg:get ρ i=aa sl):∀ {ps:List ah}{is:ax}{bX:List bA}{vs:List ak}{ρ₀:aM}{m c:gw},
  ps.map (λx=>aZ x X.names)=is.map aa→qe is bX ρ₀=aa ρ→jt K B R T hs h is vs bX→ps.Nodup→
  get ρ₀ i=aa sl∨∃x v,x∈ps∧aZ x X.names=aa i∧fD K B R T hs h i v sl∧(kf x=aa .local→bindL kf (ps.zip vs) m x=aa v)∧(kf x≠aa .local→bindC kf (ps.zip vs) c x=aa v):=by
 intro ps;induction ps with
 |nil=>
  intro is bX vs ρ₀ m c hm h r _;induction is using bj with
  |cons=>exact zC hm
  |nil=>refine xA r λe9 bC=>?_;subst e9;subst bC;replace h:=iJ h;subst h;exact .inl hg
 |cons p ps ih=>
  intro is bX vs ρ₀ m c hm h r hn;induction is using bj with
  |nil=>exact zD hm
  |cons Ox is=>
  clear hg;refine w6 r ?_;clear r;intro v vs Oy bX e9 bC rd B3;subst e9;subst bC;have Oz:=jf hm;refine xA (uC.mp hn) λOB OC=>?_;have hp:∀q∈ps.zip vs,q.1≠p:=λq hq e=>OB (e▸(ahU hq).1);rcases ih (ρ₀:=ρ₀++[(Ox,Oy)]) (m:=if kf p=aa .local then λy=>if y=p then aa v else m y else m) (c:=if kf p=aa .local then c else λy=>if y=p then aa v else c y) Oz.2 (show qe is bX (ρ₀++[(Ox,Oy)])=aa ρ from h) B3 OC with h1| ⟨x,v',h1,h2,h3,h5,h6⟩
  ·replace h1:=(aai ..)▸h1;induction hq:get ρ₀ i with
   |some s=>replace h1:=hq▸h1;exact .inl h1
   |none=>
    replace h1:=hq▸h1;refine xA (cj h1) λe1 e2=>?_;clear hq OC OB B3 hn h;replace e2:=iJ e2;subst e2;have e1:=fY e1;refine .inr ⟨p,v,bG,e1▸Oz.1,e1▸rd,λk=>?_,λk=>?_⟩
    ·show bindL kf (ps.zip vs) _ p=_;exact rE (Hh _ _ _ _ hp) (rE (if_pos k) (if_pos rfl))
    ·show bindC kf (ps.zip vs) _ p=_;exact rE (Hi _ _ _ _ hp) (rE (if_neg k) (if_pos rfl))
  ·exact .inr ⟨x,v',cf _ h1,h2,h3,h5,h6⟩
end
theorem OD:∀ {is:ax}{ds:List D}{ρ₀:aM},oK is ds ρ₀=aa ρ→is.length=ds.length:=by
 intro is;induction is with
 |nil=>intro ds ρ₀ h;induction ds using bj with|nil=>rfl|cons=>exact zN h
 |cons i is ih=>intro ds ρ₀ h;induction ds using bj with|nil=>exact zN h|cons d ds=>exact congrArg (· +1) (ih (show oK is ds _=_ from h))
open Classical in
noncomputable def oY(env:bF)(Rx:dC):dC:=λa=>if dm env a then aa .frame else Rx a
theorem Hj{Rx:dC}(h:dm env a):oY env Rx a=aa .frame:=if_pos h
theorem tL{Rx:dC}(h:¬dm env a):oY env Rx a=Rx a:=if_neg h
section
variable{K:Kt}
structure Handed(K:Kt)(U B:aY)(Rx:dC)(T:dW)(hs:Hs)(s:ay):Prop where
 u:∀b,U b↔UU Rx B b
 bd:∀b,B b→Rx b=af
 bH:br K U s.heap
 ub:UB U s
 tabs:∀j t,hs[j]? =aa t→dO K.hc U s.heap (T j).1 (T j).2 t∧Rx (T j).2=aa (.tab j)
theorem entry{Rx:dC}{T:dW}{fn:Fn}{ps:List ah}{bX:List bA}
  (F:gh K.X fd fn) (hm:ps.map (λx=>aZ x K.X.names)=fn.params.map aa) (hn:ps.Nodup) (hk:∀x∈ps,fd.scope.names.lookup x=aa .local∨fd.scope.names.lookup x=aa .cell)
  (H:Handed K U B Rx T hs s) (r:jt K B Rx T hs s.heap fn.params vs bX) (hb:qe fn.params bX []=aa ρ)
  (outs:∀e l,K.me=aa (e,l)→j0 fd s.heap.objs.size a=e∧∀p∈l,p.1.scope.kind=.function∧p.1.frame=aa p.1.locals∧Rx p.1.locals=aa .frame∧(∀vs,p.2≠.fields vs)∧∃o,s.heap.get? p.1.locals=aa o∧o.data=p.2)
  (x:InCallC s (j0 fd s.heap.objs.size a).locals (bindL (j0 fd s.heap.objs.size a).kindOf (ps.zip vs) λZ=>af) (j0 fd s.heap.objs.size a).cells
    (bindC (j0 fd s.heap.objs.size a).kindOf (ps.zip vs) λZ=>af) ai):
  Ext s ai∧aN K B (oY (j0 fd s.heap.objs.size a) Rx) T (j0 fd s.heap.objs.size a) hs ρ ai∧∀b,dm (j0 fd s.heap.objs.size a) b→s.heap.get? b=af:=by
 let env:=j0 fd s.heap.objs.size a
 have hE:Ext s ai:=lC x.toInCall.same λh tk e=>⟨x.toInCall.keep,by refine rE e ?_;exact λZ Z q=>q,by refine rE e ?_;exact λq=>q,by exact rE e rfl⟩
 have cC:∀b,dm env b→s.heap.get? b=af:=λb h=>by
  suffices hle:s.heap.objs.size≤b by
   induction hq:s.heap.get? b with
   |none=>rfl
   |some o=>exact absurd (jA hq) (pz.mpr hle)
  rcases h with h| ⟨y,h⟩
  ·exact rE h x.toInCall.fresh
  ·exact d4 (jh x.toInCall.fresh (x.above y b (mem_of_lookup h)))
 have Cy:∀b,dm env b→∃o,ai.heap.get? b=aa o:=λb h=>by
  rcases h with h| ⟨y,h⟩
  ·exact rE h (fu x.toInCall.ns λo Z Z e Z=>⟨o,e⟩)
  ·exact aD (x.cell y b h) λo e Z=>⟨o,e⟩
 have s7:∀b,UU Rx B b→¬dm env b:=λb h k=>by exact xE (H.ub b ((H.u b).mpr h)) λo e=>zN (cC b k▸e)
 have hR:∀b r,Rx b=aa r→oY env Rx b=aa r:=λb r h=>(tL (s7 b (.inl (gE h)))).trans h;have tw:∀b (o:fI),s.heap.get? b=aa o→¬UU Rx B b→¬UU (oY env Rx) B b:=λb o e n k=>by
  by_cases q:dm env b
  ·exact zN (cC b q▸e)
  ·rcases k with k|k
   ·replace k:=tL q▸k;exact n (.inl k)
   ·exact n (.inr k)
 have xF:∀b (o:fI),s.heap.get? b=aa o→¬U b→¬UU (oY env Rx) B b:=λb o e n=>tw b o e λk=>n ((H.u b).mpr k);have X:Kept (λZ=>True) B B Rx (oY env Rx) T T hs hs s ai:=⟨λb o Z e=>hE.keep b o e,tw,λb r Z h=>⟨hR b r h,λo e=>hE.keep b o e⟩,λj t e=>⟨⟨t,e⟩,rfl⟩⟩;have j5:∀b (o:fI),¬U b→s.heap.get? b=aa o→ai.heap.get? b=aa o:=λb o Z e=>hE.keep b o e;have fU:∀b,dm env b→UU (oY env Rx) B b:=λb h=>.inl (gE (Hj h));refine⟨hE,⟨H.bH.mono j5 xF,λb h=>?_,F.kind,F.gl,F.bi,⟨⟨fU _ (.inl rfl),_,x.toInCall.ns⟩,λy c e=>⟨fU _ (.inr ⟨y,e⟩),_,x.cell y c e⟩,λy z c e1 e2=>Uz x.apart (mem_of_lookup e1) (mem_of_lookup e2),λy h=>?_⟩,λb h=>(tL (s7 b (.inr h))).trans (H.bd b h),λb h=>Hj h,λy i sl e1 e2 e3=>?_,λj t e=>?_,λe l h=>?_⟩,cC⟩
 ·by_cases q:dm env b
  ·exact Cy b q
  ·obtain⟨o,e⟩:=H.ub b ((H.u b).mpr (h.imp (λk=>by replace k:=tL q▸k;exact k) id));exact⟨o,hE.keep b o e⟩
 ·have hc:fd.scope.names.lookup y=aa .cell:=by
   rcases h with h|h
   ·exact h
   ·have:=fj.mp F.Ot (y,.free) (mem_of_lookup h);exact zF this
  have:=zY fd.scope.names (s.heap.objs.size+1) [] y hc;exact xE (Ei.mp this) λc e=>⟨c,e⟩
 ·rcases aak K.X env.kindOf (m:=λZ=>af) (c:=λZ=>af) e2 hm hb r hn with h1| ⟨z,v,h1,h2,h3,h5,h6⟩
  ·exact zN h1
  ·obtain rfl:=tq e1 h2;refine⟨v,?_,h3.kept X λZ Z=>trivial⟩;rcases hk y h1 with k|k
   ·exact .inl ⟨k,_,x.toInCall.ns,h5 k⟩
   ·have hc:=zY fd.scope.names (s.heap.objs.size+1) [] y k;refine xE (Ei.mp hc) λc e=>.inr ⟨.inl k,c,e,?_⟩;have:=x.cell y c e;rwa [h6 (λq=>by rw[show env.kindOf y=aa .cell from k]at q;cases q)]at this
 ·exact xA (H.tabs j t e) λp q=>⟨p.mono j5 xF λvs n e=>hE.keep _ _ e,hR _ _ q⟩
 ·refine xA (outs e l h) λh1 h2=>⟨h1,rfl,λp hp=>?_⟩;obtain⟨q1,q2,q3,q4,o,q5,q6⟩:=h2 p hp;exact⟨q1,q2,hR _ _ q3,s7 _ (.inl (gE q3)),q4,o,hE.keep _ _ q5,q6⟩
end
section
variable(K:Kt)(A:dU)
structure vE:Prop where
 ok:bU K
 jE:∀U s v t x,br K U s.heap→UB U s→iV K.hc U s.heap v t→keyOk x→qX t→tj K.w A U s v pM [.str x] (.list (f9 t (sL x)))
 oH:∀U s v t,br K U s.heap→UB U s→iV K.hc U s.heap v t→t.length≤1000000→zu K.w A U s v nG [] λs r=>pQ K.w A U s r (t.map λp=>.tuple [.str p.1,.str p.2])
 mf:∀U s v t,br K U s.heap→UB U s→iV K.hc U s.heap v t→t.length≤1000000→tj K.w A U s v rt [] (.list (t.map λp=>.str p.1))
 g:pY K A
 n:xC K A
 a:zR K A
noncomputable def Hk(C:l9):Prop:=∀f args d U s a fd vs,C f args=aa (d,ae)→K.fo f=aa (a,fd)→br K U s.heap→UB U s→aI U s.heap vs args→Gv K.w A U s (yC (.ref a) vs) d
end
section
variable{K:Kt}{m c:ax}{me:Option (bF × List (bF × pA))}
theorem br.wm{h:aP}(g:br K U h):br (K.wm m c me) U h:=⟨g.ng,g.ug,g.nb,g.ub,g.fo,g.tok,g.lim,g.ul,g.iU⟩
theorem br.tM{h:aP}(g:br (K.wm m c me) U h):br K U h:=⟨g.ng,g.ug,g.nb,g.ub,g.fo,g.tok,g.lim,g.ul,g.iU⟩
theorem jt.wm{T:dW}{h:aP}:∀ {is:ax}{vs:List ak}{bX:List bA},jt K B R T hs h is vs bX→jt (K.wm m c me) B R T hs h is vs bX:=by
 intro is;induction is with
 |nil=>exact λr=>r
 |cons i is ih=>intro vs bX r;refine w6 r λv vs sl bX e1 e2 r1 r2=>?_;exact⟨v,vs,sl,bX,e1,e2,by induction sl<;>exact r1,ih r2⟩
theorem vE.Hl(B:vE K A)(hr:∃n,bW A n)(hC:Hk K A C)
  (hH:∀g,CH=aa g→(∃e l,me=aa (e,l)∧A.frames=aa (e::l.map (·.1)))∧zW (K.wm m c me) g A):jN (K.wm m c me) C CH A where
 o:=⟨⟨B.ok.nm,B.ok.nf,B.ok.nl,B.ok.fm,B.ok.gi,B.ok.len,B.ok.str,B.ok.int,B.ok.sum,B.ok.sorted,B.ok.ve,B.ok.u7,B.ok.range⟩,hr,λf args d U s a fd vs h1 h2 g=>hC f args d U s a fd vs h1 h2 g.tM,
  λU s v t x g=>B.jE U s v t x g.tM,λU s v t g=>B.oH U s v t g.tM,λU s v t g=>B.mf U s v t g.tM⟩
 g:=⟨λU s x t g=>B.g.gen U s x t g.tM⟩
 n:=⟨B.n.rN,λU s p g=>B.n.jk U s p g.tM⟩
 a:=⟨λU s a l t g=>B.a.G6 U s a l t g.tM⟩
 h:=hH
noncomputable def OE(f:ji):ak:=match f with| .ret v=>v|_=>.none
theorem OF{Rx:dC}{T:dW}{f:Nat}{fn:Fn}{bX:List bA}{fl:Fl}
  (F:gh K.X fd fn) (mI:K.fo f=aa (a,fd)) (hr:A.depth<iR) (H:Handed K U B Rx T hs s) (r:jt K B Rx T hs s.heap fn.params vs bX) (hb:qe fn.params bX []=aa ρ)
  (outs:∀e l,me=aa (e,l)→j0 fd s.heap.objs.size a=e∧∀p∈l,p.1.scope.kind=.function∧p.1.frame=aa p.1.locals∧Rx p.1.locals=aa .frame∧(∀vs,p.2≠.fields vs)∧∃o,s.heap.get? p.1.locals=aa o∧o.data=p.2)
  (O:∀m c,jN (K.wm m c me) C CH (A.deeper (j0 fd s.heap.objs.size a))) (hex:cb K.tk C CH fn.body ρ hs=aa (fl,ae)) {Q E:aW}
  (hQ:∀env ai dq s' m c,env=j0 fd s.heap.objs.size a→Ext s ai→(∀b,dm env b→s.heap.get? b=af)→Left (K.wm m c me) B (oY env Rx) T env hs ai fl dq s'→Q (OE dq) s'):
  ar (aw prog K.w) A (yC (.ref a) vs) Q E s:=by
 refine yY F.ex λb ps m c tB hc gF hm hn hk=>gz (H.bH.fo f a fd mI) λo ho hu hd zZ=>?_;have hl:vs.length=ps.length:=by refine rE r.len ?_;have:=congrArg TX hm;replace this:=(aQ ..)▸(aQ ..)▸this;exact this.symm
 have lM:∀x∈ps.zip vs,fd.scope.names.lookup x.1=aa .local∨(fd.scope.names.lookup x.1=aa .cell∧((jC (s.heap.objs.size+1) fd.scope.names []).lookup x.1).isSome):=λx hx=>by
  rcases hk x.1 (ahU hx).1 with k|k
  ·exact .inl k
  ·exact .inr ⟨k,zY _ _ _ _ k⟩
 refine EC (codeAny_call_cells hr ho hd H.bH.lim zZ.MA tB (gF vs hl) F.gD lM (λai x=>?_) F.co F.gen F.kind);obtain⟨hE,I,cC⟩:=entry (K:=K.wm m c me) ⟨⟨b,ps,m,c,tB,hc,gF,hm,hn,hk⟩,F.gD,F.gl,F.bi,F.Ot,F.co,F.gen,F.kind⟩ hm hn hk ⟨H.u,H.bd,H.bH.wm,H.ub,H.tabs⟩ r.wm hb outs x;have tF:dg fd.scope.names (j0 fd s.heap.objs.size a):=λy k e=>.inl (by replace e:=(vt ..)▸e;exact e);exact aag (O m c) b hc B _ T _ hs ρ ai fl tF I hex _ _ λdq s' L=>hQ _ ai dq s' m c rfl hE cC L
theorem fnOf{fns:Nat→Option Fn}{C:uV}{f:Nat}{args:List D}(h:By tk fns C CH f args=aa (d,ae)):
  ∃fn ρ fl,fns f=aa fn∧oK fn.params args []=aa ρ∧cb tk C CH fn.body ρ []=aa (fl,ae)∧match fl with| .ret d' _=>d'=d| .next _ _=>d=.none:=by
 refine oE h λfn tI h1=>oE h1 λρ hb h2=>wE h2 λfl hex fE=>⟨fn,ρ,fl,tI,hb,hex,?_⟩;induction fl with
 |next=>exact(W.bp fE).symm
 |ret=>exact W.bp fE
theorem OI{fns:Nat→Option Fn}(hF:∀f a fd fn,K.fo f=aa (a,fd)→fns f=aa fn→gh K.X fd fn)(hr:A.depth<iR){C:uV}{f:Nat}{args:List D}{mee:bF→Option (bF × List (bF × pA))}
  (lP:∀e e' l,mee e=aa (e',l)→e=e'∧l=[]) (O:∀env m c,jN (K.wm m c (mee env)) C CH (A.deeper env))
  (h:By K.tk fns C CH f args=aa (d,ae)) (mI:K.fo f=aa (a,fd)) (g:br K U s.heap) (ub:UB U s) (r:aI U s.heap vs args):Gv K.w A U s (yC (.ref a) vs) d:=by
 intro Q E hQ;refine fy (fnOf h) λfn ρ fl tI hb hex fE=>?_;have hU:∀b,U b↔UU (λZ=>af) U b:=λb=>⟨.inr,λk=>k.elim (λk=>(k rfl).elim) id⟩;refine OF (me:=mee (j0 fd s.heap.objs.size a)) (T:=λZ=>(0,0)) (hF f a fd fn mI tI) mI hr ⟨hU,λZ Z=>rfl,g,ub,λZ Z h=>(zN h)⟩ (.Ow (λb k=>(hU b).mpr k) (OD hb) r) (Ou hb) (λe l q=>let⟨h1,h2⟩:=lP _ e l q;⟨h1,by refine rE h2 ?_;exact λZ h=>nomatch h⟩) (O _) hex λenv ai dq s' m c he hE cC L=>?_;refine cK L ?_;clear L;intro R' T' st _ L;have hS:Ext s s':=st.mv.ext hE (λb h=>by
  by_cases q:dm env b
  ·exact cC b q
  ·exact(h (tL q)).elim) λZ h=>h.elim
 have Hm:∀ {v},Rd (UU R' U) s'.heap v d→Rd U s'.heap v d:=λq=>q.mono (λZ Z Z e=>e) λZ Z Z n k=>n (.inr k);induction fl with
 |next ρ' hs'=>refine xA L λe Z=>?_;clear h st cC hE he;subst e;subst fE;exact hQ _ s' hS .none
 |ret d' hs'=>refine j4 L ?_;clear L;intro v e rd _;clear h st cC hE he;subst e;subst fE;exact hQ _ s' hS (Hm rd)
theorem OJ{fns:Nat→Option Fn}(HB:∀A,(∃n,bW A (n+10))→vE K A)(hF:∀f a fd fn,K.fo f=aa (a,fd)→fns f=aa fn→gh K.X fd fn):∀ (n:Nat) (A:dU),bW A (n+10)→Hk K A (run K.tk fns n):=by
 intro n;induction n with
 |zero=>exact λZ Z Z Z Z Z Z Z Z Z h=>nomatch h
 |succ n ih=>
  intro A hr f args d U s a fd vs h mI g ub r;have lQ:∀env,bW (A.deeper env) (n+10):=λenv=>bW.deeper (n:=n+10) ((show n+1+10=n+10+1 by lia)▸hr);have O:∀env m c,jN (K.wm m c af) (run K.tk fns n) af (A.deeper env):=λenv m c=>(HB _ ⟨n,lQ env⟩).Hl ⟨_,lQ env⟩ (ih _ (lQ env)) λZ e=>nomatch e
  have hd:A.depth<iR:=by have:=hr.depth;lia
  exact OI (mee:=λZ=>af) hF hd (λZ Z Z e=>nomatch e) O h mI g ub r
theorem aal{fns:Nat→Option Fn}(HB:∀A,(∃n,bW A (n+10))→vE K A)(hF:∀f a fd fn,K.fo f=aa (a,fd)→fns f=aa fn→gh K.X fd fn)(hr:bW A (n+11)){Hn:bF}{l:List (bF × pA)}(lP:me=aa (Hn,l))(cC:A.frames=aa (Hn::l.map (·.1))):
  zW (K.wm m c me) (qY K.tk fns (run K.tk fns n)) A where
 qV:=λB R T env hs ρ₀ s j t args vs d t' f a fd I ht h mI r Q E hQ=>by
  refine oE h λfn tI h1=>oE h1 λq hq h2=>oE h2 λρ hb h3=>wE h3 λfl hex fE=>?_;clear h h1 h2 h3;have F:=hF f a fd fn mI tI;clear tI;obtain rfl:env=Hn:=(I.outs _ _ lP).1;have lQ:∀e,bW (A.deeper e) (n+10):=λe=>bW.deeper (n:=n+10) hr;refine xA (I.tabs j t ht) λhT hR=>?_;obtain⟨oL,za,vF⟩:=(I.qc (l:=l) lP (a:=env.locals) bG).2;have bQ:(T j).2∉iH env l:=λk=>by have:=(I.qc (l:=l) lP k).1;replace this:=hR▸this;cases this
  obtain⟨Rx,Ho⟩:∃Rx:dC,Rx=λb=>if b=(T j).2 then aa (.tab 0)else if b∈iH env l then aa .frame else af:=⟨_,rfl⟩
  have r1:Rx (T j).2=aa (.tab 0):=rE Ho (if_pos rfl)
  have r2:∀b,b∈iH env l→Rx b=aa .frame:=λb k=>by refine rE Ho ?_;exact(if_neg λz:b=(T j).2=>bQ (rS z k)).trans (if_pos k)
  have r3:∀b,b≠(T j).2→b∉iH env l→Rx b=af:=λb k1 k2=>by refine rE Ho ?_;exact(if_neg k1).trans (if_neg k2)
  obtain⟨B',CG⟩:∃B':aY,∀b,B' b↔(UU R B b∧b≠(T j).2∧b∉iH env l):=⟨_,λZ=>A8⟩;have hU:∀b,UU R B b↔UU Rx B' b:=λb=>by
   by_cases k1:b=(T j).2
   ·exact⟨λZ=>.inl (gE (k1▸r1)),λZ=>.inl (gE (k1▸hR))⟩
   ·by_cases k2:b∈iH env l
    ·exact⟨λZ=>.inl (gE (r2 b k2)),λZ=>.inl (gE (I.qc (l:=l) lP k2).1)⟩
    ·exact⟨λk=>.inr ((CG b).mpr ⟨k,k1,k2⟩),λk=>k.elim (λk=>(k (r3 b k1 k2)).elim) λk=>((CG b).mp k).1⟩
  have H:Handed K (UU R B) B' Rx (λZ=>T j) [t] s:=⟨hU,λb k=>let⟨_,k1,k2⟩:=(CG b).mp k;r3 b k1 k2,I.bH.tM,I.ub,λi u e=>by
   induction i using ll with
   |zero=>replace e:=iJ e;subst e;exact⟨hT,r1⟩
   |succ i=>exact zN e⟩
  have hd:A.depth<iR:=by have:=hr.depth;lia
  have sv:jt K B' Rx (λZ=>T j) [t] s.heap fn.params (vs++[.ref (T j).1]) (args.map .val++[.cU 0]):=by have x:fD K B' Rx (λZ=>T j) [t] s.heap q.2 (.ref (T j).1) (.cU 0):=⟨⟨t,rfl⟩,rfl⟩;exact rE (Ov hq) (jt.snoc x (.Ow (λb k=>(hU b).mpr k) (OD hb) r))
  have bs:qe fn.params (args.map .val++[.cU 0]) []=aa (ρ++[(q.2,.cU 0)]):=rE (Ov hq) (aaj (Ou hb))
  have noH:∀ {K:Kt}{A:dU},zW K (λZ Z Z=>af) A:=⟨λZ Z Z Z Z Z Z Z Z Z Z Z Z Z Z Z Z Z h=>nomatch h⟩;have O:∀m c,jN (K.wm m c (aa (j0 fd s.heap.objs.size a,(env,oL.data)::l))) (run K.tk fns n) (aa λZ Z Z=>af) (A.deeper (j0 fd s.heap.objs.size a)):=λm c=>
   (HB _ ⟨n,lQ _⟩).Hl ⟨_,lQ _⟩ (OJ HB hF n _ (lQ _)) λg e=>⟨⟨_,_,rfl,by show A.frames.map _=_;refine rE cC ?_;rfl⟩,by replace e:=iJ e;subst e;exact noH⟩
  refine OF (me:=aa (j0 fd s.heap.objs.size a,(env,oL.data)::l)) F mI hd H sv bs (λe l' q=>?_) O hex λOK ai dq s' m' c' he hE aam L=>?_
  ·replace q:=iJ q;refine iP q λe1 e2=>?_;clear q;subst e1;subst e2;refine⟨rfl,λp hp=>?_⟩;rcases bE.mp hp with rfl|hp
   ·exact⟨I.kind,(I.outs _ _ lP).2.1,r2 _ bG,vF,oL,za,rfl⟩
   ·obtain⟨q1,q2,q3,q4,q5,q6⟩:=(I.outs _ _ lP).2.2 p hp;exact⟨q1,q2,r2 _ (cf _ (fk.mpr ⟨p,hp,rfl⟩)),q5,q6⟩
  ·refine cK L ?_;clear L;intro R' T' st F4 L;have hL:∃v ρ' hs',OE dq=v∧aN (K.wm m' c' (aa (j0 fd s.heap.objs.size a,(env,oL.data)::l))) B' R' T' OK hs' ρ' s'∧hs'[0]? =aa t'∧Rd (UU R' B') s'.heap v d:=by
    induction fl with
    |next ρ' hs'=>refine mq L λe9 Z I'=>?_;subst e9;refine oE fE ?_;clear fE;intro u hu fE;cases W.bp fE;exact⟨_,ρ',hs',rfl,I',hu,.none⟩
    |ret d' hs'=>refine Lx L ?_;clear L;intro v e9 rd _ ρ' I';subst e9;refine oE fE ?_;clear fE;intro u hu fE;cases W.bp fE;exact⟨_,ρ',hs',rfl,I',hu,rd⟩
   refine fy hL λv ρ' hs' ev I' h0 rd=>rE ev ?_;have live:∀b (o:fI),s.heap.get? b=aa o→¬dm OK b:=λb o e k=>by replace e:=aam b k▸e;exact zN e
   have keep:∀b (o:fI),b≠(T j).2→b∉iH env l→s.heap.get? b=aa o→s'.heap.get? b=aa o:=λb o k1 k2 e=>st.mv.keep b o (λk=>k ((tL (live b o e)).trans (r3 b k1 k2))) (hE.keep b o e);refine xA (I'.tabs 0 t' h0) λxB OL=>?_;rw[F4 0 Nat.one_pos]at xB OL;have outs:=(I'.outs _ _ rfl).2.2;have dat:∀b,b∈iH env l→R' b=aa .frame∧∀o,s.heap.get? b=aa o→∃o',s'.heap.get? b=aa o'∧o'.data=o.data:=λb k=>by
    rcases bE.mp k with rfl|k
    ·obtain⟨_,_,q3,_,_,o',q6,q7⟩:=outs (env,oL.data) bG;exact⟨q3,λo e=>by replace e:=za▸e;replace e:=iJ e;subst e;exact⟨o',q6,q7⟩⟩
    ·refine aD (fk.mp k) λp hp e9=>?_;subst e9;obtain⟨_,_,q3,_,_,o',q6,q7⟩:=outs p (cf _ hp);obtain⟨_,_,_,_,_,o2,p6,p7⟩:=(I.outs _ _ lP).2.2 p hp;exact⟨q3,λo e=>by replace e:=p6▸e;replace e:=iJ e;subst e;exact⟨o',q6,q7.trans p7.symm⟩⟩
   have xF:∀b,UU R B b→UU R' B' b:=λb k=>by
    by_cases k1:b=(T j).2
    ·exact .inl (gE (k1▸OL))
    ·by_cases k2:b∈iH env l
     ·exact .inl (gE (dat b k2).1)
     ·exact .inr ((CG b).mpr ⟨k,k1,k2⟩)
   have nU:∀ {b r},R b=aa r→r≠.frame→b∉iH env l:=λk1 k2 k3=>k2 (iq (k1.symm.trans (I.qc (l:=l) lP k3).1));have X:Kept (λr=>r≠.frame∧r≠.tab j) B B R R T T hs (setAt t' j hs) s s':=⟨λb o k e=>keep b o (λz=>k (.inl (gE (z▸hR)))) (λz=>k (.inl (gE (I.qc (l:=l) lP z).1))) e,λZ Z Z k=>k,λb r k h=>⟨h,λo e=>keep b o (λz=>k.2 (iq ((z▸h).symm.trans hR))) (nU h k.1) e⟩,λi u e=>⟨by
    by_cases z:i=j
    ·exact⟨t',by refine rE z ?_;exact CA t' ht⟩
    ·exact⟨u,(CB t' z).trans e⟩,rfl⟩⟩
   have Cp:∀b,R b=aa .frame→R b=aa .frame∧∀o,s.heap.get? b=aa o→∃o',s'.heap.get? b=aa o'∧o'.data=o.data:=λb k=>⟨k,λo e=>by
    by_cases k2:b∈iH env l
    ·exact(dat b k2).2 o e
    ·exact⟨o,keep b o (λz=>by replace k:=z▸k;replace k:=hR▸k;cases k) k2 e,rfl⟩⟩
   have J:aN (K.wm m c me) B R T env (setAt t' j hs) ρ₀ s':=by
    refine I.GN X Cp (λb k=>?_) I.bd (λy i sl e1 e2 e3=>let⟨v,p,q⟩:=I.vars y i sl e1 e2 e3;⟨v,p,q.kept X λZ Z=>⟨nofun,nofun⟩⟩) λi u e=>?_
    ·exact xE (I'.ub b (xF b k)) λo e=>⟨o,e⟩
    ·by_cases z:i=j
     ·subst z;replace e:=iJ (CA t' ht▸e);subst e;exact⟨xB.mono (λZ Z Z e=>e) (λb Z Z k z=>k (xF b z)) λZ Z e=>e,hR⟩
     ·replace e:=CB t' z▸e;exact xA (I.tabs i u e) λp q=>⟨p.mono X.keep X.hu λZ Z=>(X.role _ (.tab i) ⟨nofun,λy=>z (by cases y;rfl)⟩ q).2 _,q⟩
   refine hQ v s' J ⟨λZ k=>.inl k,?_⟩ (rd.mono (λZ Z Z e=>e) λb Z Z k z=>k (xF b z));exact⟨λb o k e=>keep b o (λz=>k (gE (z▸hR))) (λz=>k (gE (I.qc (l:=l) lP z).1)) e,λg x Z e=>st.mv.gens g x (λz=>z.elim) (hE.gens g x e),λk=>st.mv.bare (hE.bare k),st.mv.os.trans hE.os⟩
theorem aan{fns:Nat→Option Fn}(HB:∀A,(∃n,bW A (n+10))→vE K A)(hF:∀f a fd fn,K.fo f=aa (a,fd)→fns f=aa fn→gh K.X fd fn)(hr:bW A (n+12))(hf:A.frames=aa []):Hk K A (E1 K.tk fns n):=λf args d U s a fd vs h mI g ub r=>by
 have lQ:∀e,bW (A.deeper e) (n+11):=λe=>bW.deeper (n:=n+11) hr;have Hp:∀e,bW (A.deeper e) (n+10):=λe=>⟨(lQ e).handled,by have:=(lQ e).depth;lia,by have:=(lQ e).units;lia⟩;have cC:∀e,(A.deeper e).frames=aa [e]:=λe=>by show A.frames.map _=_;refine rE hf ?_;rfl
 exact OI (mee:=λe=>aa (e,[])) hF (by have:=hr.depth;lia) (λe e' l q=>by replace q:=iJ q;refine iP q λe1 e2=>?_;clear q;subst e1;subst e2;exact⟨rfl,rfl⟩) (λenv m c=>(HB _ ⟨n,Hp env⟩).Hl ⟨_,Hp env⟩ (OJ HB hF n _ (Hp env)) λg e=>⟨⟨env,[],rfl,cC env⟩,by replace e:=iJ e;subst e;exact aal HB hF (lQ env) rfl (cC env)⟩) h mI g ub r
end
section
variable{w:cM}{R:GenEnd}{Y:Protocol}{c:Code}{fs:List Frame}
 {K:ji→cN Fin}{H:ak→cN Fin}{gd:Bool→Bool}{lv:List ak→List ak}
theorem tN{M:sP}{m:cN α}{Q:α→ay→Prop}(h:ar M A m Q (λZ Z=>False) s):ar M A m Q E s:=
 ia h (λZ Z q=>q) λZ Z q=>q.elim
theorem CJ(h:ar (aw prog w) (A.over c fs) (exec st env) (λf s'=>iu (aw prog w) A R Y n aT c (K f) fs s') (λZ Z=>False) s):
  iu (aw prog w) A R Y n aT c ((exec st env).wrap K H gd lv) fs s:=wQ (tN h)
theorem Hq{t:au}{b o:List a9}(h:ar (aw prog w) (A.over c fs) (isTrue t env (eval t env)) (λx s'=>iu (aw prog w) A R Y n aT c ((if x then oz b env else oz o env).wrap K H gd lv) fs s') (λZ Z=>False) s):
  iu (aw prog w) A R Y n aT c ((exec (.If t b o pos) env).wrap K H gd lv) fs s:=by
 show iu _ A R Y n aT c (.at pos λZ=>(isTrue t env (eval t env) >>= λx=>if x then oz b env else oz o env).wrap K H gd lv) fs s;refine seg_at (rE (wR ..) (rE (wU ..) ?_));exact wQ (tN h)
theorem aao{t:au}(hs:∀x,uE it env x=pure x)
  (h:ar (aw prog w) (A.over c fs) (eval it env) (λx ai=>ar (aw prog w) (A.over c fs) (pyIter x) (λiv av=>∀p (K':wG→cN Fin),K' (.ok .next)=K .next→
   iu (aw prog w) A R Y n aT (.forLoop t iv body [] env) ((aw prog w).den (.forLoop t iv body [] env)) (.ret K' af (gd ag) (lv []) c p []::fs) av) (λZ Z=>False) ai) (λZ Z=>False) s):
  iu (aw prog w) A R Y n aT c ((exec (.For t it body [] pos) env).wrap K H gd lv) fs s:=by
 show iu _ A R Y n aT c (.at pos λZ=>(eval it env >>= λx=>uE it env x >>= λx=>ow it.pos >>= λZ=>holding [x] (pyIter x) >>= λiv=>runOwn (.forLoop t iv body [] env) env).wrap K H gd lv) fs s;refine seg_at (rE (wR ..) (rE (wU ..) ?_));refine wQ (tN (ia h (λx ai h₁=>?_) λZ Z q=>q));refine rE (hs x) (rE (show(pure x >>= λx=>ow it.pos >>= λZ=>holding [x] (pyIter x) >>= λiv=>runOwn (.forLoop t iv body [] env) env:cN ji)=(ow it.pos >>= λZ=>holding [x] (pyIter x) >>= λiv=>runOwn (.forLoop t iv body [] env) env)from rfl) ?_);show iu _ A R Y n aT c (.at it.pos λZ=>(holding [x] (pyIter x) >>= λiv=>runOwn (.forLoop t iv body [] env) env).wrap K H gd lv) fs ai;refine seg_at (rE (wR ..) (rE (wU ..) ?_));refine wQ (tN (jg (ia h₁ (λiv av ey=>?_) λZ Z q=>q)));exact seg_call λp=>ey p _ rfl
theorem OM{t:au}{iv:ak}
  (h:ar (aw prog w) (A.over (.forLoop t iv body [] env) fs) (pyNext iv) (λr ai=>match r with
   |none=>iu (aw prog w) A R Y n aT (.forLoop t iv body [] env) (.pure (.again (.block [] env))) fs ai
   |some v=>ar (aw prog w) (A.over (.forLoop t iv body [] env) fs) (A5 t iv v) (λZ av=>ar (aw prog w) (A.over (.forLoop t iv body [] env) fs) (assign t env v) (λZ aR=>
     ∀H':ak→cN Fin,iu (aw prog w) A R Y n aT (.forLoop t iv body [] env) ((oz body env).wrap (λf=>match f with
      | .next| .cont=>.pure (.again (.forLoop t iv body [] env))
      | .brk=>.pure (.done .next)
      | .ret v=>.pure (.done (.ret v))) H' id id) fs aR) (λZ Z=>False) av) (λZ Z=>False) ai) (λZ Z=>False) s):
  iu (aw prog w) A R Y n aT (.forLoop t iv body [] env) ((aw prog w).den (.forLoop t iv body [] env)) fs s:=by
 show iu _ A R Y n aT _ ((forTurn t iv body [] env).onRaise (λx=>do noteFrame x env;theTreesLotGoes x)) fs s;unfold forTurn;refine rE (cN.onRaise_eq_wrap ..) (rE (wR ..) (rE (wU ..) ?_));refine wQ (kI ?_);dsimp only;refine rE (wR ..) (rE (wU ..) ?_);refine wQ (tN (wpAny_onRaise (ia h (λr ai h₁=>?_) λZ Z q=>q.elim)));induction r with
 |none=>exact h₁
 |some v=>
  dsimp only at h₁ ⊢;refine rE (wR ..) (rE (wU ..) ?_);refine wQ (tN (ia h₁ (λZ av ey=>?_) λZ Z q=>q));refine rE (wR ..) (rE (wU ..) ?_);refine wQ (tN (ia ey (λZ aR kX=>?_) λZ Z q=>q));refine rE (wR ..) (rE (wU ..) ?_);refine rE (cN.wrap_congr (oz body env) _ _ (K':=λf=>match f with
      | .next| .cont=>.pure (.again (.forLoop t iv body [] env))
      | .brk=>.pure (.done .next)
      | .ret v=>.pure (.done (.ret v))) (λf=>by induction f<;>rfl) (λe=>rfl)) ?_
  exact kX _
theorem aap{t:au}{iv:ak}{K':wG→cN Fin}{h g l c₁ p kp}(hk:iu (aw prog w) A R Y n aT c₁ (K' (.ok .next)) fs s):
  iu (aw prog w) A R Y n aT (.forLoop t iv body [] env) (.pure (.again (.block [] env))) (.ret K' h g l c₁ p kp::fs) s:=by
 exact seg_again rfl (seg_leaf (.ok .next) hk)
end
section
variable{w:cM}
theorem OO{g:Nat}{gs:uo}{P:Nat→ay→ay→Prop}{Y:Protocol}{Q:Option ak→ay→Prop}(hh:A.handled=af)(hl:s.heap.NoLimit)(vG:A.depth<iR)
  (hg:s.heap.IsGen a g) (tO:s.gens[g]? =aa gs)
  (tP:gs.Goes (aw prog w) A.in1 (λn aT r ai=>r=.ok (.ret .none)∧P n aT ai) Y n (.send .none) (s.setGen g .running))
  (hY:∀v ai mG,mG.bare→Y (n - 1) (s.setGen g .running) v ai (λr' dh=>match n with
    |0=>False
    |m+1=>mG.Goes (aw prog w) A.in1 (λn aT r ai=>r=.ok (.ret .none)∧P n aT ai) Y m r' dh)→Q (aa v) (ai.setGen g mG))
  (hP:∀ai,P n (s.setGen g .running) ai→∀h',(∀b o,ai.heap.get? b=aa o→h'.get? b=aa o)→Q af {ai.setGen g .finished with heap:=h'}):
  ar (aw prog w) A (pyNext (.ref a)) Q E s:=by
 unfold pyNext;refine aB (wpAny_attempt (KL (name:=sH "__next__") hg.typeIs slot_gen_next
  (yy slot_gen_next hg.typeIs entry_gen_next ?_ (args_gen_next _))))
 show ar _ A.in1 (ahV (.ref a) (.send .none)) _ _ s;unfold ahV;refine aB (jg (wpAny_genNumber hg (aB (wpAny_genState tO ?_))));induction gs with
 |running=>exact tP.elim
 |finished=>exact tP.elim
 |_=>refine aB (wpAny_roomToWake hl vG ?_);show ar _ A.in1 (.resume g (.send .none) [] _) _ _ s;refine wpAny_resumeQ tO tP (λx ai hx=>?_) (λv ai mG hb hv=>bz ⟨v,rfl,bz (hY v ai mG hb hv)⟩);clear vG hl;refine xA hx ?_;clear hx;intro e9 hp;subst e9;show ar _ A.in1 (newExc (.type "StopIteration") [] >>= _) _ _ _;refine aB ?_;simp only[newExc,newTuple];refine aB (yL ?_ (by size_fits));refine aB (m:=Bf _ _) (ou (a:=uw) (by simp only[Bf];rfl) ?_);refine yL ?_ (by size_fits);unfold raiseNew;refine aB (aB (UH ?_));refine rE (show A.in1.handled=af from hh) (UI (aB (UJ (T:= "StopIteration") (b:=ae) ⟨_,eT _ rfl,rfl⟩ UK ?_)));exact bz (hP ai hp _ λb o hb=>jV _ (jV _ hb))
end
noncomputable def qf:ah:= "addr"
noncomputable def rR:ah:= "pos"
noncomputable def oZ:ah:= "escape"
noncomputable def tQ:ah:= "ch"
noncomputable def nW:ah:= "enumerate"
noncomputable def mJ:ah:= "\\"
noncomputable def vH:List ah:=[qf,rR,oZ,tQ]
noncomputable def gV:List (ah × eC):=[(qf,.local),(rR,.local),(oZ,.local),(tQ,.local),(nW,.globalImplicit)]
noncomputable def Xg:Cx:=⟨vH,[],[],[],[],[]⟩
noncomputable def Kt.gx(K:Kt):Kt:={K with X:=Xg}
section
variable(p:Nat→aO)
noncomputable def OP:au:=.Tuple [.Name rR (p 13),.BinOp (.Constant (.str mJ) 0 (p 14)) .Add (.Name tQ (p 15)) (p 16)] 0 (p 17)
noncomputable def OQ:au:=.Tuple [.Name rR (p 29),.Name tQ (p 30)] 0 (p 31)
noncomputable def OR:au:=.Tuple [.Name rR (p 38),.Constant (.str mJ) 0 (p 39)] 0 (p 40)
noncomputable def OS:au:=.Compare (.Name tQ (p 23)) [.Eq] [.Constant (.str mJ) 0 (p 24)] (p 25)
noncomputable def vI:au:=.Tuple [.Name rR (p 6),.Name tQ (p 7)] 0 (p 8)
noncomputable def gIt:au:=.Call (.Name nW (p 9)) [.Name qf (p 10)] [] (p 11)
noncomputable def gIn:List a9:=[.If (OS p) [.Assign [.Name oZ (p 26)] (.Constant (.bool ae) 0 (p 27)) (p 28)] [.Expr (.Yield (aa (OQ p)) (p 32)) (p 33)] (p 34)]
noncomputable def vJ:List a9:=[.If (.Name oZ (p 12)) [.Expr (.Yield (aa (OP p)) (p 18)) (p 19),.Assign [.Name oZ (p 20)] (.Constant (.bool ag) 0 (p 21)) (p 22)] (gIn p) (p 35)]
noncomputable def Hr:List a9:=[.If (.Name oZ (p 37)) [.Expr (.Yield (aa (OR p)) (p 41)) (p 42)] [] (p 43)]
noncomputable def o3:List a9:=.Assign [.Name rR (p 0)] (.Constant (.int 0) 0 (p 1)) (p 2):: .Assign [.Name oZ (p 3)] (.Constant (.bool ag) 0 (p 4)) (p 5):: .For (vI p) (gIt p) (vJ p) [] (p 36)::Hr p
end
theorem z0:∀ {l:List ah}{i:Nat},aZ x l=aa i→x∈l:=by
 intro L0;induction L0 with
 |nil=>exact nofun
 |cons y r ih=>
  intro i h;replace h:=(Md ..)▸h;induction q:sEq y x with
  |true=>exact rS (eE q) bG
  |false=>
   replace h:=q▸h;induction q':aZ x r with
   |none=>exact zN (q'▸h)
   |some j=>exact cf _ (ih q')
theorem OT(h:get ρ i=aa (.val d)):pI ρ i=aa d:=by unfold pI;refine rE h ?_;rfl
theorem aA(h:get ρ i=aa (.val d)):ev tk C hs (.var i) ρ=aa (d,ae):=by show(pI ρ i).bind W.ret=_;refine rE (OT h) ?_;rfl
theorem W.aS{m:W α}{f:α→W β}{a:α}{b:β}(h1:m=aa (a,ae))(h2:f a=aa (b,ae)):W.bind m f=aa (b,ae):=by subst h1;show(match f a with|none=>af|some (b,oG)=>aa (b,ae&&oG))=_;refine rE h2 ?_;rfl
theorem Ht{a b:RE}{x:D}(h1:ev tk C hs a ρ=aa (x,ae))(h2:ev tk C hs b ρ=aa (y,ae)):ev tk C hs (.tup (.cons a (.cons b .nil))) ρ=aa (.tuple [x,y],ae):=
 W.aS (W.aS h1 (W.aS (W.aS h2 (W.aS rfl rfl)) rfl)) rfl
theorem OU{op:ma}{a b:RE}{x z:D}(h1:ev tk C hs a ρ=aa (x,ae))(h2:ev tk C hs b ρ=aa (y,ae))(h:j3 op x y=aa (z,ae)):ev tk C hs (.bin op a b) ρ=aa (z,ae):=
 W.aS h1 (W.aS h2 h)
theorem dp{b:RE}{x z:D}(h1:get ρ i=aa (.val x))(h2:ev tk C hs b ρ=aa (y,ae))(h:kK x y=aa (z,ae)):ev tk C hs (.aG i b) ρ=aa (z,ae):=by show(jG ρ i).bind _=_;refine rE (show jG ρ i=aa x by unfold jG nB pI;refine rE h1 ?_;rfl) ?_;exact W.aS h2 h
theorem aaq{p:Prim}{a:RE}{x z:D}(h1:ev tk C hs a ρ=aa (x,ae))(h:gQ p [x]=aa (z,ae)):ev tk C hs (.prim p (.cons a .nil)) ρ=aa (z,ae):=
 W.aS (W.aS h1 (W.aS rfl rfl)) h
theorem cS{op:uJ}{a b:RE}{x:D}{z:Bool}(h1:ev tk C hs a ρ=aa (x,ae))(h2:ev tk C hs b ρ=aa (y,ae))(h:gO op x y=aa (z,ae)):ev tk C hs (.cmp a (.cons op b .nil)) ρ=aa (.bool z,ae):=
 W.aS h1 (W.aS h2 (W.aS h rfl))
theorem aar:∀x∈vH,(x == ("__debug__" :ah))=ag∧(x == ("__classdict__" :ah))=ag:=by decide+kernel
section
variable{K:Kt}{A:dU}{V:aY}{env:bF}{ρ:aM}{s s':ay}
theorem bU.gx(O:bU K):bU K.gx where
 nm:=λx i h=>aar x (z0 h)
 nf:=λx i h=>by exact zN h
 nl:=λx i h=>by exact zN h
 fm:=λx i h=>by exact zN h
 gi:=λx i h=>by exact zN h
 len:=O.len
 str:=O.str
 int:=O.int
 sum:=O.sum
 sorted:=O.sorted
 ve:=O.ve
 u7:=O.u7
 range:=O.range
structure GE(V:aY)(env:bF):Prop where
 kind:env.scope.kind=.function
 gl:env.globals=gn
 bi:env.builtins=jB
 cells:env.cells=[]
 names:env.scope.names=gV
 VL:V env.locals
 co:env.scope.isCoroutine=ag
inductive Sc:ak→D→Prop
 |bool (b:_):Sc (.bool b) (.bool b)
 |int (i t:_):Sc (.int i t) (.int i)
 |str (x t:_):Sc (.str x t) (.str x)
theorem Sc.rd{h:aP}{v:ak}(x:Sc v d):Rd U h v d:=by
 induction x with
 |bool b=>exact .bool b
 |int i t=>exact .int i t
 |str x t=>exact .str x t
noncomputable def Vs(V:aY)(s:ay):aE→Prop:=λa=>V a∧∃o,s.heap.get? a=aa o
variable(K V env)in
structure GI(ρ:aM)(s:ay):Prop where
 bH:br K (Vs V s) s.heap
 ns:∃m,s.heap.Ns env.locals m∧∀y i d,aZ y vH=aa i→get ρ i=aa (.val d)→∃v,m y=aa v∧Sc v d
 flat:∀i sl,get ρ i=aa sl→∃d,sl=.val d
theorem br.gx{h:aP}(g:br K U h):br K.gx U h:=⟨g.ng,g.ug,g.nb,g.ub,g.fo,g.tok,g.lim,g.ul,g.iU⟩
theorem z1(ge:GE V env){k:eC}(h:aV x gV=aa k):env.kindOf x=aa k:=by show env.scope.names.lookup x=_;exact rE ge.names (rS (vt ..) h)
theorem Hu(ge:GE V env):dg gV env:=λx k h=>.inl (z1 ge h)
theorem GI.e(ge:GE V env)(gi:GI K V env ρ s):bJ K.gx (Vs V s) env [] ρ s where
 bH:=gi.bH.gx
 ub:=λa h=>h.2
 kind:=ge.kind
 gl:=ge.gl
 bi:=ge.bi
 bu:=by
  refine aD gi.ns λm hm Z=>?_;have OV:∀x c,env.cells.lookup x=aa c→False:=λx c h=>by replace h:=ge.cells▸h;exact zN h
  refine⟨⟨⟨ge.VL,fu hm λo Z Z e Z=>⟨o,e⟩⟩,m,hm⟩,λx c h=>(OV x c h).elim,λx y c h=>(OV x c h).elim,λx h=>?_⟩;have hl:env.kindOf x=gV.lookup x:=by show env.scope.names.lookup x=_;exact rE ge.names rfl
  have h2:∀k,gV.lookup x=aa k→k=.local∨k=.globalImplicit:=λk hk=>by
   have:=mem_of_lookup hk;simp only[gV,bE,yt,sM,or_false]at this;rcases this with⟨_,e⟩| ⟨_,e⟩| ⟨_,e⟩| ⟨_,e⟩| ⟨_,e⟩<;>simp[e]
  rcases h with h|h<;>(replace h:=hl▸h;rcases h2 _ h with e|e<;>cases e)
 vars:=λx i sl h1 h2 h3=>by
  clear h3;refine xE (gi.flat i sl h2) λd e9=>?_;subst e9;refine aD gi.ns λm hm hv=>aD (hv x i d h1 h2) λv e1 e2=>⟨v,.inl ⟨?_,m,hm,e1⟩,e2.rd⟩;have:x∈vH:=z0 h1;simp only[vH,bE,sM,or_false]at this;rcases this with rfl|rfl|rfl|rfl<;>exact z1 ge (by decide+kernel)
theorem GI.mv(ge:GE V env)(gi:GI K V env ρ s){H:Nat→Prop}(m:Mv Ku H s s')(hK:∀a,Ku a→V a∧a≠env.locals):GI K V env ρ s' where
 bH:=gi.bH.mono (λa o n e=>m.keep a o (λk=>n ⟨(hK a k).1,o,e⟩) e) λa o e n k=>n ⟨k.1,o,e⟩
 ns:=aD gi.ns λm' q hv=>fu q λo es ep ho r=>⟨m',⟨o,es,ep,m.keep _ _ (λk=>(hK _ k).2 rfl) ho,r⟩,hv⟩
 flat:=gi.flat
theorem GI.ext(ge:GE V env)(gi:GI K V env ρ s)(x:Ext s s'):GI K V env ρ s':=gi.mv ge (x.mv (Ku:=λZ=>False) (G:=λZ=>False)) λZ h=>h.elim
theorem GI.store(ge:GE V env)(gi:GI K V env ρ s){y:ah}{v:ak}(hi:aZ y vH=aa i)(hk:aV y gV=aa .local)(hv:Sc v d){Q:Unit→ay→Prop}
  (hQ:∀s',GI K V env (put ρ i (.val d)) s'→Mv (λa=>a=env.locals) (λZ=>False) s s'→s'.heap.objs.size=s.heap.objs.size→Q () s'):ar (aw prog K.w) A (qN env y v) Q E s:=by
 refine aD gi.ns λm hm zQ=>Et (hp:=by refine rE ge.kind ?_;rfl) (z1 ge hk) hm λh' jq cB=>?_;have mv:Mv (λa=>a=env.locals) (λZ=>False) s {s with heap:=h',toks:=s.toks+1}:=⟨λa o n e=>(cB.2 a n).trans e,λZ Z Z e=>e,λe=>e,rfl⟩;refine hQ _ ⟨?_,⟨_,jq,λz j d' hj hg=>?_⟩,λj sl hg=>?_⟩ mv cB.1
 ·exact gi.bH.mono (λa o n e=>mv.keep a o (λk=>n ⟨k▸ge.VL,o,e⟩) e) λa o e n k=>n ⟨k.1,o,e⟩
 ·by_cases hz:z=y
  ·clear mv cB jq h' hm hk;subst hz;replace hj:=iJ (hi▸hj);subst hj;replace hg:=(kW ..)▸hg;cases hg;exact⟨v,if_pos rfl,hv⟩
  ·have bQ:j≠i:=λe=>hz (tq (e▸hj) hi);rw[fR _ bQ]at hg;exact aD (zQ z j d' hj hg) λu e1 e2=>⟨u,by simp only[if_neg hz];exact e1,e2⟩
 ·by_cases hj:j=i
  ·clear mv cB jq;subst hj;replace hg:=iJ ((kW ..)▸hg);subst hg;exact⟨_,rfl⟩
  ·rw[fR _ hj]at hg;exact gi.flat j sl hg
theorem aas{b b':List a9}{t:au}{iv:ak}{K':wG→cN Fin}{l:List ak}(r:bW A (n+10)):bW (A.in1.over (.forLoop t iv b' [] env) [.ret K' af ag l (.func b env) p []]) n:=by
 refine⟨r.handled,?_,?_⟩
 ·have:=r.depth;have h:(A.in1.over (.forLoop t iv b' [] env) [.ret K' af ag l (.func b env) p []]).depth=A.in1.depth+(1+0)+KN (.forLoop t iv b' [] env):=rfl;refine rE h ?_;have h1:KN (.forLoop t iv b' [] env)=0:=rfl;have h2:A.in1.depth=A.depth:=rfl;lia
 ·have:=r.units;have h:(A.in1.over (.forLoop t iv b' [] env) [.ret K' af ag l (.func b env) p []]).units=A.in1.units+(3+0)+KO (.forLoop t iv b' [] env):=rfl;refine rE h ?_;have h1:KO (.forLoop t iv b' [] env)=0:=rfl;have h2:A.in1.units=A.units+1:=rfl;lia
end
noncomputable def rU(e it:aE)(x:ah)(t:mY)(i:Nat)(h:aP):Prop:=(∃old,IsEnum h e it i old)∧h.IsStrIter it (strIterType x) x t i
noncomputable def Hv(x:ah)(i:Nat)(vals:Array ak):Prop:=∃tk c u,x.cps[i]? =aa c∧vals= #[.int i tk,.str ⟨#[c]⟩ u]
theorem aat{w:cM}(hh:A.handled=af){e it:aE}(z2:e≠it)(x:ah)(t:mY):∃CK,WalksT prog w A e [e,it] [e,it] x.cps.size (Hv x) (rU e it x t) CK:=by
 have side:e∉[it]:=λh=>z2 (dK.mp h);have go:∀ {ty:String},strIterType x=ty→Draws prog w A.in1 it [it] x.cps.size (λi v=>∃c u,x.cps[i]? =aa c∧v=.str ⟨#[c]⟩ u) (λi h=>h.IsStrIter it ty x t i)→∃CK,WalksT prog w A e [e,it] [e,it] x.cps.size (Hv x) (rU e it x t) CK:=by
  intro ty GV D;have Wt:=WalksT.enumerateD D e z2 side (dK.mpr rfl);have hS:(fun(i:Nat) (h:aP)=>(∃old,IsEnum h e it i old)∧h.IsStrIter it ty x t i)=rU e it x t:=by funext i h;unfold rU;exact rE GV rfl
  have hP:(fun(i:Nat) (vals:Array ak)=>∃tk v,(∃c u,x.cps[i]? =aa c∧v=.str ⟨#[c]⟩ u)∧vals= #[.int i tk,v])=Hv x:=by funext i vals;refine propext ⟨λq=>gy q λtk v a h3=>gy a λc u h1 h2=>⟨tk,c,u,h1,rE h3 (rE h2 rfl)⟩,λq=>fu q λtk c u h1 h2=>⟨tk,_,⟨c,u,h1,rfl⟩,h2⟩⟩
  replace Wt:=hP▸hS▸Wt;exact⟨_,Wt⟩
 cases ha:x.cps.all (· <128)
 ·exact go (ty:= "str_iterator") (by simp[strIterType,ha]) (Draws.strWide (A:=A.in1) hh it x t)
 ·exact go (ty:= "str_ascii_iterator") (by simp[strIterType,ha]) (Draws.strAscii (A:=A.in1) hh it x t)
theorem aau:tc Xg gV rR=aa (.var 1):=by kernel_rfl
theorem aav:tc Xg gV oZ=aa (.var 2):=by kernel_rfl
theorem aaw:tc Xg gV tQ=aa (.var 3):=by kernel_rfl
noncomputable def W3(L e it:aE):aE→Prop:=λa=>a=L∨a=e∨a=it
section
variable(K:Kt)(V:aY)(L e it:aE)(D0:List D)
noncomputable def gY:Protocol:=λm aT v s OW=>Mv (W3 L e it) (λZ=>False) aT s∧(∀d,D0[D0.length - 1 - m]? =aa d→∀U:aY,(∀a,U a→V a)→(∀a,U a→(∃o,aT.heap.get? a=aa o)∨W3 L e it a)→Rd U s.heap v d)∧
 (∀a,W3 L e it a→∃o,s.heap.get? a=aa o)∧br K (Vs V s) s.heap∧∀s' Ku,Mv Ku (λZ=>True) s s'→(∀a,Ku a→V a∧¬W3 L e it a)→OW (.send .none) s'
noncomputable def gP(n:Nat)(aT ai:ay):Prop:=n=0∧Mv (W3 L e it) (λZ=>False) aT ai
noncomputable def gR:GenEnd:=λn aT r ai=>r=.ok (.ret .none)∧gP L e it n aT ai
end
section
variable{K:Kt}{A:dU}{V:aY}{env:bF}{ρ:aM}{s aT:ay}{p:Nat→aO}{e it:aE}{D0:List D}
variable(K A V env)in
structure GL(x:ah)(p:Int)(b:Bool)(e it:aE)(aT:ay)(ρ:aM)(s:ay):Prop where
 gi:GI K V env ρ s
 h0:get ρ 0=aa (.val (.str x))
 h1:get ρ 1=aa (.val (.int p))
 h2:get ρ 2=aa (.val (.bool b))
 mv:Mv (W3 env.locals e it) (λZ=>False) aT s
 ve:V e∧V it∧e≠env.locals∧it≠env.locals∧e≠it
theorem GL.ext(ge:GE V env){q:Int}(g:GL K V env x q b e it aT ρ s)(y:Ext s s'):GL K V env x q b e it aT ρ s':=⟨g.gi.ext ge y,g.h0,g.h1,g.h2,g.mv.trans y.mv,g.ve⟩
theorem OX(O:bU K)(ge:GE V env){q:Int}(g:GL K V env x q b e it aT ρ s){pp:aO}{Q:Bool→ay→Prop}(hQ:∀s',Ext s s'→Q b s'):
  ar (aw prog K.w) A (isTrue (.Name oZ pp) env (eval (.Name oZ pp) env)) Q E s:=
 ((xj (K:=K.gx) (C:=λZ Z=>af) (ks:=gV) O.gx (r:=.var 2) aav) (Vs V s) env [] ρ s (.bool b) (Hu ge) (g.gi.e ge) (aA g.h2)).2 b rfl Q E hQ
theorem OY(ge:GE V env){q:Int}{b':Bool}(g:GL K V env x q b e it aT ρ s){p1 p3:aO}{Q:ji→ay→Prop}
  (hQ:∀s',GL K V env x q b' e it aT (put ρ 2 (.val (.bool b'))) s'→Mv (λa=>a=env.locals) (λZ=>False) s s'→Q .next s'):
  ar (aw prog K.w) A (exec (.Assign [.Name oZ p1] (.Constant (.bool b') 0 p2) p3) env) Q E s:=by
 refine oB (Em (g.gi.store ge (i:=2) (d:=.bool b') (by decide+kernel) (by decide+kernel) (.bool b') λs' gi m Z=>hQ s' ⟨gi,?_,?_,kW _ _ _,g.mv.trans (m.mono (λa h=>.inl h) λZ h=>h),g.ve⟩ m))
 ·rw[fR _ (by decide)];exact g.h0
 ·rw[fR _ (by decide)];exact g.h1
theorem Hw{H:Nat→Prop}(h:rU e it x t i s.heap)(m:Mv Ku H s s')(hk:∀a,Ku a→a≠e∧a≠it):rU e it x t i s'.heap:=by obtain⟨⟨old,h1⟩,o,h2,h3⟩:=h;exact⟨⟨old,m.keep _ _ (λk=>(hk _ k).1 rfl) h1⟩,o,m.keep _ _ (λk=>(hk _ k).2 rfl) h2,h3⟩
noncomputable def CL(e it:aE)(x:ah)(t:mY):Option Nat→aP→Prop
 |some i,h=>rU e it x t i h
 |none,h=>(∃o,h.get? e=aa o)∧∃o,h.get? it=aa o
theorem CM{i:Option Nat}{H:Nat→Prop}(h:CL e it x t i s.heap)(m:Mv Ku H s s')(hk:∀a,Ku a→a≠e∧a≠it):CL e it x t i s'.heap:=by
 induction i with
 |some i=>exact Hw h m hk
 |none=>obtain⟨⟨o,h1⟩,o',h2⟩:=h;exact⟨⟨o,m.keep _ _ (λk=>(hk _ k).1 rfl) h1⟩,o',m.keep _ _ (λk=>(hk _ k).2 rfl) h2⟩
theorem aax{i:Option Nat}{h:aP}(g:CL e it x t i h):(∃o,h.get? e=aa o)∧∃o,h.get? it=aa o:=by
 induction i with
 |some i=>obtain⟨⟨old,h1⟩,o,h2,_⟩:=g;exact⟨⟨_,h1⟩,o,h2⟩
 |none=>exact g
variable(K A V env e it)in
structure GS(x:ah)(t:mY)(q:Int)(b:Bool)(i:Option Nat)(aT:ay)(ρ:aM)(s:ay):Prop where
 gl:GL K V env x q b e it aT ρ s
 st:CL e it x t i s.heap
theorem GS.alive{q:Int}{i:Option Nat}(g:GS K V env e it x t q b i aT ρ s):∀a,W3 env.locals e it a→∃o,s.heap.get? a=aa o:=λa h=>by
 refine xA (aax g.st) λh1 h2=>?_;rcases h with h|h|h
 ·obtain⟨m,⟨o,_,_,e,_⟩,_⟩:=g.gl.gi.ns;exact⟨o,h▸e⟩
 ·exact h▸h1
 ·exact h▸h2
theorem GS.ext(ge:GE V env){q:Int}{i:Option Nat}(g:GS K V env e it x t q b i aT ρ s)(y:Ext s s'):GS K V env e it x t q b i aT ρ s':=
 ⟨g.gl.ext ge y,CM g.st (y.mv (Ku:=λZ=>False) (G:=λZ=>False)) λZ h=>h.elim⟩
theorem GS.anew(ge:GE V env){q:Int}{i:Option Nat}(g:GS K V env e it x t q b i aT ρ s){H:Nat→Prop}(m:Mv Ku H s s')(hk:∀a,Ku a→V a∧¬W3 env.locals e it a):
  GS K V env e it x t q b i s' ρ s':=
 ⟨⟨g.gl.gi.mv ge m λa h=>⟨(hk a h).1,λk=>(hk a h).2 (.inl k)⟩,g.gl.h0,g.gl.h1,g.gl.h2,.refl _ _ _,g.gl.ve⟩,CM g.st m λa h=>⟨λk=>(hk a h).2 (.inr (.inl k)),λk=>(hk a h).2 (.inr (.inr k))⟩⟩
theorem aay{H:Nat→Prop}(m:Mv Ku H s s')(hk:∀a,Ku a→∃o,s'.heap.get? a=aa o)(h:∃o,s.heap.get? a=aa o):∃o,s'.heap.get? a=aa o:=by
 refine xE h λo e=>?_;by_cases k:Ku a
 ·exact hk a k
 ·exact⟨o,m.keep a o k e⟩
theorem Hx(ge:GE V env){c:Code}{fs:List Frame}{Kn:ji→cN Fin}{H:ak→cN Fin}{gd:Bool→Bool}{lv:List ak→List ak}{ex:au}{p1:aO}{re:RE}{q:Int}{i:Option Nat}
  (Hy:splitAtGen fs=af) (hgd:gd ag=ag) (Hc:fs.any Frame.guarded=ag) (g:GS K V env e it x t q b i aT ρ s)
  (hx:bg K.gx (λZ Z=>af) (A.over c fs) gV ex re) (ao:ev K.gx.tk (λZ Z=>af) [] re ρ=aa (d,ae)) (hd:∀d',D0[D0.length - 1 - n]? =aa d'→d'=d)
  (cont:∀dh,GS K V env e it x t q b i dh ρ dh→iu (aw prog K.w) A (gR env.locals e it) (gY K V env.locals e it D0) n dh c (Kn .next) fs dh):
  iu (aw prog K.w) A (gR env.locals e it) (gY K V env.locals e it D0) (n+1) aT c ((exec (.Expr (.Yield (aa ex) p1) p2) env).wrap Kn H gd lv) fs s:=by
 refine seg_Expr_Yield Hy hgd Hc ((hx (Vs V s) env [] ρ s d (Hu ge) (g.gl.gi.e ge) ao).1 _ _ λv ai aq rv OW hk=>?_) ge.co (by unfold interactive;refine rE ge.kind ?_;rfl);have dR:=g.ext ge aq;refine⟨dR.gl.mv,λd' dB U hUV hU=>?_,dR.alive,dR.gl.gi.bH,λdh Ku m nO=>hk .none dh (cont dh (dR.anew ge m nO))⟩;refine rE (hd d' dB) (rv.mono (λZ Z Z e=>e) λa o Z n k=>n ⟨hUV a k,?_⟩);rcases hU a k with h|h
 ·exact aay g.gl.mv g.alive h
 ·exact g.alive a h
end
section
open Sem (wp)
section
variable{w:cM}
theorem aaz{it:aE}(hh:A.handled=af)(hit:s.heap.IsStrIter it "str_ascii_iterator" x t i)(hx:x.cps[i]? =af)
  (hE:∀h' e,UL it s.heap h'→(∃o,h'.get? it=aa o)→(∃o,h'.get? e=aa o∧o.cls=.type "StopIteration")→E (.ref e) {s with heap:=h'}):
  ar (aw prog w) A (KP (.ref it)) Q E s:=by
 have hT:=hit.typeIs;obtain⟨⟨c,d,dt,sl⟩,ho,hc,hd⟩:=hit;replace hd:dt=_:=hd;clear hc;subst hd;unfold KP;refine aB (KL (name:=sH "__next__") hT ahW
  (yy ahW hT F.entry_str_ascii_iterator_next ?_ (F.args_str_ascii_iterator_next_1 _)))
 show ar _ _ (field (.ref it) 0 >>= _) _ _ s;refine aB (ED ho rfl (x:=.str x t) rfl ?_);show ar _ _ (field (.ref it) 1 >>= _) _ _ s;refine aB (ED ho rfl (x:=.int i 0) rfl ?_);simp only[UC,hx];refine aB (Ey (aB (wpAny_setField ho rfl (by simp) (aB (wpAny_letGo ?_)))));show ar _ _ (newExc (.type "StopIteration") [] >>= _) _ _ _;refine aB ?_;simp only[newExc,newTuple];refine aB (yL ?_ (by size_fits));refine aB (m:=Bf _ _) (ou (a:=uw) (by simp only[Bf];rfl) ?_);refine yL ?_ (by size_fits);unfold raiseNew;refine aB (UH ?_);refine rE (show A.in1.handled=af from hh) (aB (bz (UI ?_)));exact hE _ _ (((A6 ..).extBut.push _).push _) ⟨_,jV _ (jV _ (KD _ ho rfl))⟩ ⟨_,eT _ rfl,rfl⟩
theorem aaA{it:aE}(hh:A.handled=af)(hit:s.heap.IsStrIter it "str_iterator" x t i)(hx:x.cps[i]? =af)
  (hE:∀h' e,UL it s.heap h'→(∃o,h'.get? it=aa o)→(∃o,h'.get? e=aa o∧o.cls=.type "StopIteration")→E (.ref e) {s with heap:=h'}):
  ar (aw prog w) A (KP (.ref it)) Q E s:=by
 have hT:=hit.typeIs;obtain⟨⟨c,d,dt,sl⟩,ho,hc,hd⟩:=hit;replace hd:dt=_:=hd;subst hd;unfold KP;refine aB (KL (name:=sH "__next__") hT ahX
  (yy ahX hT F.entry_str_iterator_next ?_ (F.args_str_iterator_next_1 _)))
 show ar _ _ (field (.ref it) 0 >>= _) _ _ s;refine aB (ED ho rfl (x:=.str x t) rfl ?_);show ar _ _ (field (.ref it) 1 >>= _) _ _ s;refine aB (ED ho rfl (x:=.int i 0) rfl ?_);simp only[UC,hx];refine aB (Ey (aB (wpAny_setField ho rfl (by simp) (aB (wpAny_letGo ?_)))));show ar _ _ (newExc (.type "StopIteration") [] >>= _) _ _ _;refine aB ?_;simp only[newExc,newTuple];refine aB (yL ?_ (by size_fits));refine aB (m:=Bf _ _) (ou (a:=uw) (by simp only[Bf];rfl) ?_);refine yL ?_ (by size_fits);unfold raiseNew;refine aB (UH ?_);refine rE (show A.in1.handled=af from hh) (aB (bz (UI ?_)));exact hE _ _ (((A6 ..).extBut.push _).push _) ⟨_,jV _ (jV _ (KD _ ho rfl))⟩ ⟨_,eT _ rfl,rfl⟩
theorem aaB{e it:aE}{Q:Option ak→ay→Prop}(hh:A.handled=af)(z2:e≠it)(g:rU e it x t x.cps.size s.heap)
  (hQ:∀h',UL it s.heap h'→(∃o,h'.get? e=aa o)∧(∃o,h'.get? it=aa o)→Q af {s with heap:=h'}):ar (aw prog w) A (pyNext (.ref e)) Q E s:=by
 obtain⟨⟨old,he⟩,cz⟩:=g;have hT:s.TypeIs (.ref e) "enumerate" :=⟨_,he,rfl⟩;unfold pyNext;refine aB (wpAny_attempt (KL (name:=sH "__next__") hT ahY
  (yy ahY hT F.entry_enumerate_next ?_ (F.args_enumerate_next_1 _))))
 show ar _ _ (field (.ref e) 2 >>= _) _ _ _;refine aB (ED he rfl (x:=.ref it) rfl ?_);refine aB ?_;cases ha:x.cps.all (· <128)
 ·refine aaA (A:=A.in1) hh (by simpa[strIterType,ha]using cz) (by simp) λh' y h1 h2 ⟨o,ho,hc⟩=>aB (UJ (T:= "StopIteration") (b:=ae) ⟨o,ho,hc⟩ UK (bz (hQ h' h1 ⟨⟨_,h1 e _ z2 he⟩,h2⟩)))
 ·refine aaz (A:=A.in1) hh (by simpa[strIterType,ha]using cz) (by simp) λh' y h1 h2 ⟨o,ho,hc⟩=>aB (UJ (T:= "StopIteration") (b:=ae) ⟨o,ho,hc⟩ UK (bz (hQ h' h1 ⟨⟨_,h1 e _ z2 he⟩,h2⟩)))
end
end
section
variable{K:Kt}{V:aY}{p:Nat→aO}{e it:aE}{D0:List D}
noncomputable def Hz:ji→cN Fin:=λf=>.pure (.done (.ret (match f with| .ret v=>v|_=>.none)))
theorem OZ{q:Int}{i:Option Nat}(g:GS K V env e it x t q b i aT ρ s){c:Code}{M:sP}:iu M A (gR env.locals e it) (gY K V env.locals e it D0) 0 aT c (Hz .next) [] s:=
 seg_end (.ok (.ret .none)) ⟨rfl,rfl,g.gl.mv⟩
theorem HA(O:bU K){pp:aO}:bg K.gx C A gV (.Name rR pp) (.var 1):=xj O.gx aau
theorem HC(O:bU K){pp:aO}:bg K.gx C A gV (.Name tQ pp) (.var 3):=xj O.gx aaw
theorem HD{pp:aO}:bg K.gx C A gV (.Constant (.str mJ) 0 pp) (.lit (.str mJ)):=snd_const rfl
theorem gS1(O:bU K):bg K.gx C A gV (OP p) (.tup (.cons (.var 1) (.cons (.bin .add (.lit (.str mJ)) (.var 3)) .nil))):=
 BZ (.cons rfl (HA O) (.cons rfl (MD rfl HD (HC O)) .nil)) rfl
theorem gS2(O:bU K):bg K.gx C A gV (OQ p) (.tup (.cons (.var 1) (.cons (.var 3) .nil))):=
 BZ (.cons rfl (HA O) (.cons rfl (HC O) .nil)) rfl
theorem gS3(O:bU K):bg K.gx C A gV (OR p) (.tup (.cons (.var 1) (.cons (.lit (.str mJ)) .nil))):=
 BZ (.cons rfl (HA O) (.cons rfl HD .nil)) rfl
theorem aaC(O:bU K)(R:∃n,bW A n):bg K.gx C A gV (OS p) (.cmp (.var 3) (.cons .eq (.lit (.str mJ)) .nil)):=
 F1 R (HC O) (.cons (op:=.eq) (ops:=[]) (λZ=>rfl) HD .nil)
theorem aaD(O:bU K)(ge:GE V env){q:Int}{i:Option Nat}{c:Code}{H:ak→cN Fin}(g:GS K V env e it x t q b i aT ρ s)(hn:n=cond b 1 0)
  (hd:b→D0[D0.length - 1]? =aa (.tuple [.int q,.str mJ])):
  iu (aw prog K.w) A (gR env.locals e it) (gY K V env.locals e it D0) n aT c ((oz (Hr p) env).wrap Hz H id id) [] s:=by
 refine qQ (Hq (OX O ge g.gl λai aq=>?_));have dR:=g.ext ge aq;induction b with
 |false=>subst hn;exact rE (if_neg f7) (pC (pC (OZ dR)))
 |true=>
  subst hn;refine rE (if_pos rfl) (qQ (Hx ge rfl rfl rfl dR (gS3 O) (d:=.tuple [.int q,.str mJ]) ?_ (λd' h=>?_) λdh iI=>pC (pC (OZ iI))))
  ·exact Ht (aA dR.gl.h1) rfl
  ·replace h:=(show D0.length - 1 - 0=D0.length - 1 from rfl)▸h;replace h:=iJ (hd rfl▸h);subst h;rfl
theorem aaE(O:bU K)(ge:GE V env)(hr:∃n,bW A (n+10)){K':wG→cN Fin}{H:ak→cN Fin}{pp:aO}(hK:K' (.ok .next)=(oz (Hr p) env).wrap Hz H id id):
  ∀ (j i:Nat) (b:Bool) (q:Int) (ρ:aM) (aT s:ay) (n:Nat) (pre:List (Nat × List Nat)),i+j=(sL x).length→GS K V env e it x t q b (aa i) aT ρ s→(b→q=((i - 1:Nat):Int))→n=(bV i b ((sL x).drop i)).length→
   bV 0 ag (sL x)=pre++bV i b ((sL x).drop i)→D0=pH (sL x)→
   iu (aw prog K.w) A.in1 (gR env.locals e it) (gY K V env.locals e it D0) n aT (.forLoop (vI p) (.ref e) (vJ p) [] env) ((aw prog K.w).den (.forLoop (vI p) (.ref e) (vJ p) [] env))
    [.ret K' af ag [] (.func (o3 p) env) pp []] s:=by
 intro j;refine xE hr λrn vG=>?_;induction j with
 |zero=>
  intro i b q ρ aT s n pre jL g hq hn kj hD;have hi:i=x.cps.size:=by replace jL:=(TZ ..)▸jL;refine rE jL ?_;simp[sL]
  refine OM (aaB vG.handled g.gl.ve.2.2.2.2 (hi▸g.st) λh' hk al=>?_);have m:Mv (λa=>a=e∨a=it) (λZ=>False) s {s with heap:=h'}:=⟨λa o n e=>hk a o (λk=>n (.inr k)) e,λZ Z Z e=>e,λe=>e,rfl⟩;refine aap (rE hK ?_);have aaF:(sL x).drop i=[]:=AR (by lia);rw[aaF]at hn kj;have ve:=g.gl.ve;have g':GS K V env e it x t q b af aT ρ {s with heap:=h'}:=
   ⟨⟨g.gl.gi.mv ge m λa h=>h.elim (λh=>h▸⟨ve.1,ve.2.2.1⟩) (λh=>h▸⟨ve.2.1,ve.2.2.2.1⟩),g.gl.h0,g.gl.h1,g.gl.h2,g.gl.mv.trans (m.mono (λa h=>.inr h) λZ h=>h),ve⟩,al⟩
  refine aaD O ge g' (hn.trans (by induction b<;>rfl)) λhb=>?_;subst hb;have e1:bV i ae []=[(i - 1,[92])]:=rfl;replace kj:=e1▸kj;refine rE hD ?_;rewrite[pH];refine rE kj (rE (hq rfl) ?_);simp;rfl
 |succ j ih=>
  intro i b q ρ aT s n pre jL g hq hn kj hD;obtain⟨CK,Wt⟩:=aat (w:=K.w) (A:=A.in1.over (.forLoop (vI p) (.ref e) (vJ p) [] env) [.ret K' af ag [] (.func (o3 p) env) pp []]) vG.handled g.gl.ve.2.2.2.2 x t;have hi:i<x.cps.size:=by
   have:(sL x).length=x.cps.size:=by simp[sL]
   lia
  refine OM (Wt.item i s _ _ hi g.st λT vals h₁ tx hP hT aaG O0 Ga=>?_);refine fu hP λti c u hc e9=>?_;subst e9;have ve:=g.gl.ve;have toV:∀a,a=e∨a=it→V a∧a≠env.locals:=λa h=>h.elim (λh=>h▸⟨ve.1,ve.2.2.1⟩) (λh=>h▸⟨ve.2.1,ve.2.2.2.1⟩);have m₁:Mv (λa=>a=e∨a=it) (λZ=>False) s {s with heap:=h₁,toks:=tx}:=⟨λa o n e=>Ga a o (by simpa using n) e,λZ Z Z e=>e,λe=>e,rfl⟩;dsimp only;refine Wt.go _ _ _ i T _ _ _ O0 λey vj xr=>?_;have m₂:Mv (λa=>a=e∨a=it) (λZ=>False) ⟨h₁,s.gens,s.drawn,tx,s.os⟩ ⟨ey,s.gens,s.drawn,tx,s.os⟩:=⟨λa o n e=>xr a o (by simpa using n) e,λZ Z Z e=>e,λe=>e,rfl⟩;have O1:=m₁.trans m₂;have aaH:ey.IsTuple T #[.int i ti,.str ⟨#[c]⟩ u]:=aD aaG λo ho r=>⟨o,xr T o (Wt.apart i T h₁ O0) ho,r⟩
  have iI:=g.gl.gi.mv ge O1 toV;refine wpAny_assign_Tuple vG.handled aaH rfl rfl λkX HE=>?_;have bx:Ext ⟨ey,s.gens,s.drawn,tx,s.os⟩ ⟨kX,s.gens,s.drawn,tx,s.os⟩:=⟨λa o e=>HE a o (iT (jA e)) e,λZ Z e=>e,λe=>e,rfl⟩;have z3:=iI.ext ge bx;have HF:rU e it x t (i+1) kX:=Hw (s:=⟨ey,s.gens,s.drawn,tx,s.os⟩) (s':=⟨kX,s.gens,s.drawn,tx,s.os⟩) vj (bx.mv (Ku:=λZ=>False) (G:=λZ=>False)) λZ h=>h.elim;refine wL (qO (z3.store ge (i:=1) (d:=.int i) (by decide+kernel) (by decide+kernel) (.int _ _) λcq O2 HG Z=>?_));refine wL (qO (O2.store ge (i:=3) (d:=.str ⟨#[c]⟩) (by decide+kernel) (by decide+kernel) (.str _ _) λlN O3 HH Z=>Ex λH'=>?_));have GA:(sL x).drop i=c::(sL x).drop (i+1):=by
   have h1:(sL x)[i]? =aa c:=by simpa[sL]using hc
   refine xE (px.mp h1) λh2 h3=>?_;exact rE (List.drop_eq_getElem_cons h2) (rE h3 rfl)
  rw[GA]at hn kj;have CN:GS K V env e it x t (i:Int) b (aa (i+1)) aT (put (put ρ 1 (.val (.int i))) 3 (.val (.str ⟨#[c]⟩))) lN:=by
   refine⟨⟨O3,?_,?_,?_,g.gl.mv.trans ((O1.mono (λa h=>.inr h) λZ h=>h).trans (bx.mv.trans ((HG.mono (λa h=>.inl h) λZ h=>h).trans (HH.mono (λa h=>.inl h) λZ h=>h)))),ve⟩,Hw HF (HG.trans HH) λa h=>h▸⟨ve.2.2.1.symm,ve.2.2.2.1.symm⟩⟩
   ·rewrite[fR _ (by decide)];rw[fR _ (by decide)];exact g.gl.h0
   ·rewrite[fR _ (by decide)];exact rE (kW ..) rfl
   ·rewrite[fR _ (by decide)];rw[fR _ (by decide)];exact g.gl.h2
  have h3:get (put (put ρ 1 (.val (.int i))) 3 (.val (.str ⟨#[c]⟩))) 3=aa (.val (.str ⟨#[c]⟩)):=kW _ _ _;revert CN h3;generalize put (put ρ 1 (.val (.int i))) 3 (.val (.str ⟨#[c]⟩))=O4;intro CN h3;clear O3 O2 HG HH;have again:∀ (b':Bool) (ρ':aM) (CO s':ay) (n':Nat) (mK:List (Nat × List Nat)),GS K V env e it x t (i:Int) b' (aa (i+1)) CO ρ' s'→n'=(bV (i+1) b' ((sL x).drop (i+1))).length→bV 0 ag (sL x)=mK++bV (i+1) b' ((sL x).drop (i+1))→
    iu (aw prog K.w) A.in1 (gR env.locals e it) (gY K V env.locals e it D0) n' CO (.forLoop (vI p) (.ref e) (vJ p) [] env) (.pure (.again (.forLoop (vI p) (.ref e) (vJ p) [] env))) [.ret K' af ag [] (.func (o3 p) env) pp []] s':=
   λb' ρ' CO s' n' mK gs jq hp'=>seg_again rfl (ih (i+1) b' i ρ' CO s' n' mK (by lia) gs (λZ=>rfl) jq hp' hD)
  have O5:∀ (y:ax) (r:List (Nat × List Nat)),bV 0 ag (sL x)=pre++(i,y)::r→∀d',D0[D0.length - 1 - r.length]? =aa d'→d'=.tuple [.int i,.str (aj y)]:=by
   intro y r hp d' dB;replace dB:=hD▸dB;rewrite[pH]at dB;replace dB:=hp▸dB;have hl:((pre++(i,y)::r).map λp:Nat × List Nat=>(PyData.tuple [.int p.1,.str (aj p.2)])).length - 1 - r.length=pre.length:=by simp
   replace dB:=hl▸dB;simp at dB;exact dB.symm
  refine qQ (Hq (OX O ge CN.gl λlO vK=>?_));have CP:=CN.ext ge vK;induction b with
  |true=>refine rE (if_pos rfl) ?_;have e1:bV i ae (c::(sL x).drop (i+1))=(i,[92,c])::bV (i+1) ag ((sL x).drop (i+1)):=rfl;rw[e1]at hn kj;refine rE hn (rE bT ?_);refine qQ (Hx ge rfl rfl rfl CP (gS1 O) (d:=.tuple [.int i,.str (aj [92,c])]) ?_ (O5 _ _ kj) λeJ vL=>qQ (CJ (OY ge vL.gl λoV HI zV=>pC (pC (again ag _ _ oV _ (pre++[(i,[92,c])]) ⟨HI,CM vL.st zV λa h=>h▸⟨ve.2.2.1.symm,ve.2.2.2.1.symm⟩⟩ rfl (by refine rE kj ?_;simp))))));exact Ht (aA CP.gl.h1) (OU rfl (aA h3) rfl)
  |false=>
   refine rE (if_neg f7) ?_;have R:∃n,bW (A.in1.over (.forLoop (vI p) (.ref e) (vJ p) [] env) [.ret K' af ag [] (.func (o3 p) env) pp []]) n:=⟨rn,aas vG⟩;have aaI:ev K.gx.tk (λZ Z=>af) [] (.cmp (.var 3) (.cons .eq (.lit (.str mJ)) .nil)) O4=aa (.bool (az c 92),ae):=by
    have hs:sEq ⟨#[c]⟩ mJ=az c 92:=by show cond (az c 92) ae ag=_;cases az c 92<;>rfl
    refine cS (aA h3) rfl ?_;show W.ret (sEq ⟨#[c]⟩ mJ)=_;refine rE hs ?_;rfl
   refine qQ (Hq (((aaC O R) (Vs V lO) env [] O4 lO _ (Hu ge) (CP.gl.gi.e ge) aaI).2 _ rfl _ _ λeJ aaJ=>?_));have vL:=CP.ext ge aaJ;induction O6:az c 92 with
   |true=>
    refine rE (if_pos rfl) ?_;have e1:bV i ag (c::(sL x).drop (i+1))=bV (i+1) ae ((sL x).drop (i+1)):=by show cond (az c 92) _ _=_;refine rE O6 ?_;rfl
    rw[e1]at hn kj;exact qQ (CJ (OY ge vL.gl λoV HI zV=>pC (pC (pC (again ae _ _ oV _ pre ⟨HI,CM vL.st zV λa h=>h▸⟨ve.2.2.1.symm,ve.2.2.2.1.symm⟩⟩ hn kj)))))
   |false=>
    refine rE (if_neg f7) ?_;have e1:bV i ag (c::(sL x).drop (i+1))=(i,[c])::bV (i+1) ag ((sL x).drop (i+1)):=by show cond (az c 92) _ _=_;refine rE O6 ?_;rfl
    rw[e1]at hn kj;refine rE hn (rE bT ?_);refine qQ (Hx ge rfl rfl rfl vL (gS2 O) (d:=.tuple [.int i,.str (aj [c])]) ?_ (O5 _ _ kj) λoV aaK=>pC (pC (pC (again ag _ _ oV _ (pre++[(i,[c])]) aaK rfl (by refine rE kj ?_;simp)))));exact Ht (aA vL.gl.h1) (aA h3)
end
section
variable{K:Kt}{A:dU}{V:aY}{env:bF}{ρ:aM}{s aT:ay}{p:Nat→aO}{e it:aE}{D0:List D}
noncomputable def mL(x:ah):aM:=[(0,.val (.str x))]
theorem aaL(O:bU K)(ge:GE V env)(hr:∃n,bW A (n+10))(hb:K.mg nW=af∧K.mb nW=aa (.type "enumerate"))(gi:GI K V env (mL x) s)(hV:∀a,s.heap.get? a=af→V a)(hn:n=(bV 0 ag (sL x)).length)(hD:D0=pH (sL x)):
  iu (aw prog K.w) A.in1 (gR env.locals (s.heap.objs.size+1) s.heap.objs.size) (gY K V env.locals (s.heap.objs.size+1) s.heap.objs.size D0) n s (.func (o3 p) env) ((aw prog K.w).den (.func (o3 p) env)) [] s:=by
 have nL:∀k,s.heap.objs.size+k≠env.locals:=λk h=>by obtain⟨m,⟨o,_,_,e,_⟩,_⟩:=gi.ns;have:=jA e;replace this:=h.symm▸this;exact absurd this (pz.mpr (nh _ _))
 refine seg_func (qQ (CJ (oB (Us ?_))));have O7:GI K V env (mL x) {s with toks:=s.toks+1}:=gi.ext ge .tok;refine O7.store ge (i:=1) (d:=.int 0) (by decide+kernel) (by decide+kernel) (.int _ _) λai dR m₁ O8=>qQ (CJ (oB (Em (dR.store ge (i:=2) (d:=.bool ag) (by decide+kernel) (by decide+kernel) (.bool _) λav iI m₂ O9=>?_))));have hz:av.heap.objs.size=s.heap.objs.size:=O9.trans O8;refine qQ (aao (λZ=>rfl) ?_);show ar _ _ (do jY (p 11) (← eval (.Name nW (p 9)) env) [] (gJ (p 11) (fZ [.Name qf (p 10)] env)) []) _ _ av;refine aB ((iI.e ge).builtin (v:=.type "enumerate") (z1 ge (by decide+kernel)) hb (by decide+kernel) ?_);refine A4 rfl (qM (ir ?_));refine(iI.e ge).read (K:=K.gx) O.gx (i:=0) (sl:=.val (.str x)) (show aZ qf vH=aa 0 by decide+kernel) (by rewrite[fR _ (by decide)];rw[fR _ (by decide)];rfl) (by refine rE (z1 ge (k:=.local) (by decide+kernel)) ?_;rfl) λv hv=>jZ ?_;clear O9 O8 dR O7 gi hb;obtain⟨t,rfl⟩:∃t,v=.str x t:=by cases (hv:Rd _ _ v (.str x))with|str x t=>exact⟨t,rfl⟩
 refine call_enumerate_str λh' he hit eY hk=>?_;rw[hz]at he hit ⊢;refine wpAny_pyIter_enum he λpp K' hK=>?_;have bx:Ext av {av with heap:=h'}:=⟨hk,λZ Z e=>e,λe=>e,rfl⟩;refine aaE O ge hr (x:=x) (t:=t) (H:=_) hK (sL x).length 0 ag 0 _ s _ n [] (by omega) ⟨⟨iI.ext ge bx,?_,?_,kW _ _ _,?_,hV _ (EE (wN _)),hV _ (eM _),nL 1,nL 0,Nat.succ_ne_self _⟩,⟨⟨.none,he⟩,hit⟩⟩ (λh=>by exact zF h) (by simpa using hn) rfl hD
 ·rewrite[fR _ (by decide)];rw[fR _ (by decide)];rfl
 ·rewrite[fR _ (by decide)];exact rE (kW ..) rfl
 ·exact(Ext.tok (s:=s)).mv.trans ((m₁.mono (λa h=>.inl h) λZ h=>h).trans ((m₂.mono (λa h=>.inl h) λZ h=>h).trans bx.mv))
theorem HJ{g h:Nat}{x:uo}(hn:h≠g):(s.setGen g x).gens[h]? =s.gens[h]? :=by simp only[ahZ];exact rE (Array.getElem?_setIfInBounds_ne (Es hn)) rfl
theorem CQ{g:Nat}{x:uo}(h:wB s.gens)(hx:x.bare):wB (s.setGen g x).gens:=by
 intro y hy;refine xE (ah0.mp hy) λi hi=>?_;by_cases Pa:i=g
 ·clear hy;subst Pa;induction q:s.gens[i]? with
  |some z=>replace hi:=iJ (UM q▸hi);subst hi;exact hx
  |none=>have h1:s.gens.size≤i:=ah1.mp q;have h2:(s.setGen i x).gens[i]? =af:=ah1.mpr (by simpa[ahZ]using h1);exact zN (h2▸hi)
 ·replace hi:=HJ Pa▸hi;exact h y (ah0.mpr ⟨i,hi⟩)
theorem Pb{W:aY}{g:Nat}{x:uo}(m:Mv W (λZ=>False) (s.setGen g .running) ai)(hb:x.bare):Mv W (λh=>h=g) s (ai.setGen g x) where
 keep:=λa o n e=>m.keep a o n e
 gens:=λh y n e=>by refine rE (HJ n) ?_;exact m.gens h y (λq=>q) (rE (HJ n) e)
 bare:=λh=>CQ (m.bare (CQ h rfl)) hb
 os:=m.os
variable(K A V env p D0)in
inductive GSt(g:Nat)(x:ah)(Wr:aY)(xs:List D)(s:ay):Prop
 |fresh (eW:Wr=λa=>a=env.locals) (h1:s.gens[g]? =aa (.fresh (.func (o3 p) env))) (h2:GI K V env (mL x) s) (h3:∀a,s.heap.get? a=af→V a) (eX:xs=D0)
 |run (e it:aE) (gs:uo) (eW:Wr=W3 env.locals e it) (ve:V e) (vM:V it) (h1:∀a,W3 env.locals e it a→∃o,s.heap.get? a=aa o) (h2:s.gens[g]? =aa gs) (h3:xs=D0.drop (D0.length - xs.length)) (h4:xs.length≤D0.length)
  (h5:∀s' Ku,Mv Ku (λZ=>True) s s'→(∀a,Ku a→V a∧¬W3 env.locals e it a)→gs.Goes (aw prog K.w) A.in1 (gR env.locals e it) (gY K V env.locals e it D0) xs.length (.send .none) s')
variable(K A V env p D0)in
structure HK(ga:aE)(g:Nat)(x:ah)(Wr:aY)(xs:List D)(s:ay):Prop where
 hg:s.heap.IsGen ga g
 gl:br K (Vs V s) s.heap
 st:GSt K A V env p D0 g x Wr xs s
variable(K A V env D0)in
inductive GGo(g:Nat)(Wr:aY)(xs:List D)(s:ay):Prop
 |mk (e it:aE) (gs:uo) (tO:s.gens[g]? =aa gs) (tP:gs.Goes (aw prog K.w) A.in1 (gR env.locals e it) (gY K V env.locals e it D0) xs.length (.send .none) (s.setGen g .running)) (z4:∀a,Wr a→W3 env.locals e it a) (z5:∀a,W3 env.locals e it a→Wr a∨s.heap.get? a=af)
  (ve:V e) (vM:V it) (hx:xs=D0.drop (D0.length - xs.length)) (hle:xs.length≤D0.length)
theorem HK.Pd(O:bU K)(ge:GE V env)(hr:∃n,bW A (n+10))(hb:K.mg nW=af∧K.mb nW=aa (.type "enumerate")){ga:aE}{g:Nat}{Wr:aY}{xs:List D}(hD:D0=pH (sL x))(h:HK K A V env p D0 ga g x Wr xs s):
  GGo K A V env D0 g Wr xs s:=by
 rcases h.st with⟨rfl,h1,h2,h3,rfl⟩| ⟨e,it,gs,rfl,h1,h2,h3,h4,h5,h6,h7⟩
 ·refine⟨s.heap.objs.size+1,s.heap.objs.size,_,h1,⟨rfl,aaL O ge hr hb (s:=s.setGen g .running) ⟨h2.bH,h2.ns,h2.flat⟩ h3 (by refine rE hD ?_;simp[pH]) hD⟩,λa h=>.inl h,λa h=>?_,h3 _ (EE (wN _)),h3 _ (eM _),by rw[Bd];rfl,bZ _⟩;rcases h with h|h|h
  ·exact .inl h
  ·exact .inr (h▸EE (wN _))
  ·exact .inr (h▸eM _)
 ·refine⟨e,it,gs,h4,h7 _ (λZ=>False) ⟨λa o Z e=>e,λZ Z n Z=>(n trivial).elim,λh=>CQ h rfl,rfl⟩ (λZ h=>h.elim),λa h=>h,λa h=>.inl h,h1,h2,h5,h6⟩
theorem aaM(O:bU K)(ge:GE V env)(hr:∃n,bW A (n+10))(hb:K.mg nW=af∧K.mb nW=aa (.type "enumerate")){ga:aE}{g:Nat}(hD:D0=pH (sL x)){Pe:aY}(hV:∀a,V a↔Pe a∨a=env.locals)(xG:¬V ga):
  Iter K.w A Pe (.ref ga) (λh=>h=g) (HK K A V env p D0 ga g x) where
 next:=λ{Wr} d xs s Q E h hQ=>by
  obtain⟨e,it,gs,tO,tP,z4,z5,ve,vM,hx,hle⟩:=h.Pd O ge hr hb hD;refine xE hr λrn fc=>?_;have aaN:(s.setGen g .running).gens[g]? =aa .running:=UM tO;have w3:∀a,W3 env.locals e it a→V a:=λa h=>h.elim (λh=>h▸ge.VL) λh=>h.elim (λh=>h▸ve) λh=>h▸vM;refine OO (P:=gP env.locals e it) fc.handled h.gl.lim (by have:=fc.depth;lia) h.hg tO tP (λv ai mG HL hy=>?_) λai hp=>by cases hp.1
  refine E3 hy λy1 y2 y3 y4 y5=>?_;have yd:D0[D0.length - 1 - (xs.length+1 - 1)]? =aa d:=by
   have h1:(D0.drop (D0.length - (xs.length+1)))[0]? =aa d:=by replace hx:=bT▸hx;refine rS hx ?_;rfl
   replace h1:=(TZ ..)▸Kj▸h1;refine rS h1 ?_;congr 1;lia
  have mW:Mv (W3 env.locals e it) (λh=>h=g) s (ai.setGen g mG):=Pb y1 HL;have mWr:Mv Wr (λh=>h=g) s (ai.setGen g mG):=⟨λa o n e'=>mW.keep a o (λk=>(z5 a k).elim n λq=>by replace q:=e'▸q;exact zS q) e',mW.gens,mW.bare,mW.os⟩;have HM:ai.gens[g]? =aa .running:=y1.gens g _ (λq=>q) aaN;refine hQ v (ai.setGen g mG) (W3 env.locals e it) z4 z5 mWr (λU h1 h2=>y2 d yd U (λa k=>?_) h2) ⟨?_,y4,.run e it mG rfl ve vM y3 (UM HM) ?_ ?_ λs' Ku m nO=>?_⟩
  ·rcases h1 a k with h|h
   ·exact(hV a).mpr (.inl h)
   ·exact w3 a h
  ·exact fu h.hg λo nm qn ho r=>⟨o,nm,qn,mW.keep ga o (λk=>xG (w3 ga k)) ho,r⟩
  ·have h1:(d::xs).drop 1=(D0.drop (D0.length - (d::xs).length)).drop 1:=by exact rS hx rfl
   replace h1:=Eg▸h1;exact rE (show D0.length - xs.length=D0.length - (d::xs).length+1 from(Nat.succ_pred_eq_of_pos (KQ hle)).symm) h1
  ·replace hle:=bT▸hle;lia
  ·exact y5 s' Ku ⟨λa o n e'=>m.keep a o n e',λZ Z n Z=>(n trivial).elim,λh=>m.bare (CQ h HL),m.os⟩ nO
 done:=λ{Wr} s Q E h hQ=>by
  obtain⟨e,it,gs,tO,tP,z4,z5,ve,vM,hx,hle⟩:=h.Pd O ge hr hb hD;refine xE hr λrn fc=>OO (P:=gP env.locals e it) fc.handled h.gl.lim (by have:=fc.depth;lia) h.hg tO tP (λv ai mG HL hy=>?_) λai hp h' hk=>?_
  ·exact(hy.2.2.2.2 ai (λZ=>False) (.refl _ _ _) λZ h=>h.elim).elim
  ·have mW:Mv (W3 env.locals e it) (λh=>h=g) s (ai.setGen g .finished):=Pb hp.2 rfl;refine hQ _ ⟨λa o n e'=>hk a o (mW.keep a o (λk=>(z5 a k).elim n λq=>by replace q:=e'▸q;exact zS q) e'),mW.gens,mW.bare,mW.os⟩
 self:=λ{Wr} xs s Q E h hQ=>wpAny_pyIter_gen h.hg hQ
 own:=λ{Wr} xs s t v Q E h hQ=>by obtain⟨o,nm,qn,ho,hc,_⟩:=h.hg;exact B5 "generator" (by decide) ho hc hQ
 B4:=λ{Wr} xs s h g' rH=>by
  subst rH;rcases h.st with⟨_,h1⟩| ⟨_,_,_,_,_,_,_,h1⟩
  ·exact⟨_,h1⟩
  ·exact⟨_,h1⟩
 frame:=λ{Wr} xs s s' Ku H h m nO hH=>by
  obtain⟨⟨o,nm,qn,ho,r⟩,hl,h⟩:=h;have z6:∀a,Ku a→V a:=λa k=>(hV a).mpr (.inl (nO a k).1);have pR:br K (Vs V s') s'.heap:=hl.mono (λa o n e=>m.keep a o (λk=>n ⟨z6 a k,o,e⟩) e) λa o e n k=>n ⟨k.1,o,e⟩;refine⟨⟨o,nm,qn,m.keep ga o (λk=>xG (z6 ga k)) ho,r⟩,pR,?_⟩;rcases h with⟨rfl,h1,h2,h3,h4⟩| ⟨e,it,gs,rfl,ve,vM,h1,h2,h3,h4,h5⟩
  ·refine .fresh rfl (m.gens g _ (λk=>hH g k rfl) h1) (h2.mv ge m λa k=>⟨z6 a k,(nO a k).2⟩) (λa k=>?_) h4;induction q:s.heap.get? a with
   |none=>exact h3 a q
   |some o'=>
    by_cases k':Ku a
    ·exact z6 a k'
    ·exact zS (m.keep a o' k' q▸k)
  ·refine .run e it gs rfl ve vM (λa k=>?_) (m.gens g _ (λk=>hH g k rfl) h2) h3 h4 λdh vg m' aaO=>h5 dh (λa=>Ku a∨vg a) ?_ λa k=>?_
   ·exact xE (h1 a k) λo' e'=>⟨o',m.keep a o' (λk'=>(nO a k').2 k) e'⟩
   ·exact(m.mono (λa h=>.inl h) λZ Z=>trivial).trans (m'.mono (λa h=>.inr h) λZ Z=>trivial)
   ·rcases k with k|k
    ·exact⟨z6 a k,(nO a k).2⟩
    ·exact aaO a k
 alive:=λ{Wr} xs s h a ha=>by
  rcases h.st with⟨rfl,_,h2⟩| ⟨e,it,gs,rfl,_,_,h1⟩
  ·obtain⟨m,⟨o,_,_,e,_⟩,_⟩:=h2.ns;exact⟨o,by refine rE ha ?_;exact e⟩
  ·exact h1 a ha
end
structure aaP(K:Kt)(a:aE)(fd:pw)(p:Nat→aO):Prop where
 mg:K.mg u3=aa (.ref a)
 fo:∀U h,br K U h→∃o,h.get? a=aa o∧¬U a∧o.data=.func fd∧BU U h fd.code fd.qualname
 body:fd.body=.stmts (o3 p)
 names:fd.scope.names=gV
 kind:fd.scope.kind=.function
 gen:fd.scope.isGenerator
 co:fd.scope.isCoroutine=ag
 gD:fd.closure=[]
 gl:fd.globals=gn
 bi:fd.builtins=jB
 bind:∀v,jD fd ⟨[v],[]⟩=pure [(qf,v)]
 en:K.mg nW=af∧K.mb nW=aa (.type "enumerate")
theorem aaQ{K:Kt}{p:Nat→aO}(G:aaP K a fd p)(O:bU K)(hr:∃n,bW A (n+10)):pY K A where
 gen:=λU s x t g ub hlen=>by
  refine gz (G.fo U s.heap g) λo ho hu hd o4=>⟨a,o,fd,G.mg,ho,hd,λQ E hQ=>?_⟩;refine xE hr λrn fc=>EC (codeAny_call_generator (by have:=fc.depth;lia) ho hd G.co G.gen G.body o4.MA ?_);refine rE (G.bind ..) (bz (wpAny_newFunctionEnv ?_ ?_ (λh' lJ cB=>?_) G.kind))
  ·refine rE G.names ?_;decide+kernel
  ·intro y hy;refine rE (dK.mp hy) (rE G.names ?_);show gV.lookup qf=aa .local;decide+kernel
  refine rE G.gD ?_;obtain⟨env,hE⟩:∃env,env=newEnv fd.scope s.heap.objs.size fd.globals [] (fd.qualname++ ".<locals>.") (aa a) fd.code af fd.builtins:=⟨_,rfl⟩;refine rS hE ?_;have hL:env.locals=s.heap.objs.size:=by refine rE hE ?_;rfl
  have keep:∀b o,s.heap.get? b=aa o→h'.get? b=aa o:=λb o e=>by have bQ:b≠s.heap.objs.size:=iT (jA e);exact rE (cB.2 b bQ) (jV _ e)
  have aq:Ext s {s with heap:=h',toks:=s.toks+1}:=⟨keep,λZ Z e=>e,λe=>e,rfl⟩;refine⟨(g.ext aq).lim,?_⟩;obtain⟨ga,xG⟩:∃ga,ga=h'.objs.size:=⟨_,rfl⟩;obtain⟨av,iG⟩:∃av:ay,av={s with gens:=s.gens.push (.fresh (.func (o3 p) env)),toks:=s.toks+1+1+1,heap:=h'.push {cls:=.type "generator",data:=.fields #[.int s.gens.size 0,.str fd.name (s.toks+1),.str fd.qualname (s.toks+1+1)]}}:=⟨_,rfl⟩;have aC:Ext s av:=by
   refine rE iG ⟨λb o e=>jV _ (keep b o e),λh y e=>?_,λhb=>?_,rfl⟩
   ·have eV:h<s.gens.size:=by
     rcases Nat.lt_or_ge h s.gens.size with h1|h1
     ·exact h1
     ·exact zN (Kp h1▸e)
    show(s.gens.push _)[h]? =_;refine rE (Array.getElem?_push_lt eV) ?_;exact rS e (rE (Bg eV) rfl)
   ·intro y hy;rcases Array.mem_push.mp hy with h|h
    ·exact hb y h
    ·refine rE h ?_;rfl
  have aaR:av.gens[s.gens.size]? =aa (.fresh (.func (o3 p) env)):=rE iG (Array.getElem?_push_size ..)
  have HN:av.heap.IsGen ga s.gens.size:=⟨_,_,_,by refine rE iG ?_;refine rE xG ?_;exact eT _ rfl,rfl,rfl,rfl⟩;have Pf:av.heap.Ns env.locals (λy=>[(qf,Value.str x t)].reverse.lookup y):=fu lJ λo es ep h1 r=>⟨o,es,ep,by refine rE iG ?_;refine rE hL ?_;exact jV _ h1,r⟩
  have eY:s.heap.objs.size<ga:=rE xG (rE cB.1 (rE (AZ ..) (Ee _)))
  suffices hW:∀aR,Ext av aR→zA K.w A U s aR (.ref ga) (pH (sL x))by rw[iG]at aC hW;replace hW:=xG▸hW;exact hQ _ _ aC hW
  intro aR bx Q' E' z7;refine wpAny_pyIter_gen (HN.keeps bx.keep) ?_;have fL:s.heap.get? env.locals=af:=rE hL (eM _)
  have fg:s.gens[s.gens.size]? =af:=Kp (bZ _);have Pg:=aC.trans bx;have aL:∃o,aR.heap.get? env.locals=aa o:=fu Pf λo Z Z e Z=>⟨o,bx.keep _ _ e⟩;have Ph:∃o,aR.heap.get? ga=aa o:=fu HN λo Z Z e Z=>⟨o,bx.keep _ _ e⟩;have Pj:s.heap.get? ga=af:=EE (d4 eY);obtain⟨V,hV⟩:∃V:aY,∀a,V a↔(U a∨aR.heap.get? a=af)∨a=env.locals:=⟨_,λZ=>A8⟩;have ge:GE V env:=⟨by refine rE hE ?_;exact G.kind,by refine rE hE ?_;exact G.gl,by refine rE hE ?_;exact G.bi,by refine rE hE ?_;rfl,by refine rE hE ?_;exact G.names,(hV _).mpr (.inr rfl),by refine rE hE ?_;exact G.co⟩;have bH:br K (Vs V aR) aR.heap:=g.mono (λa o Z e=>Pg.keep a o e) λa o e n k=>by
   rcases(hV a).mp k.1 with(h|h)|h
   ·exact n h
   ·exact zS (Pg.keep a o e▸h)
   ·replace e:=h▸e;exact zN (fL▸e)
  refine z7 (.ref ga) (λa=>a=env.locals) (λh=>h=s.gens.size) _ aR (.refl _) (λa h=>h▸fL) (λh e=>e▸fg) (aaM (p:=p) (V:=V) (x:=x) O ge ⟨rn,fc⟩ G.en rfl hV λh=>?_) ⟨HN.keeps bx.keep,bH,.fresh rfl (bx.gens _ _ aaR) ⟨bH,⟨_,Pf.keeps bx.keep,λy i d h1 h2=>?_⟩,λi sl h=>?_⟩ (λa h=>(hV a).mpr (.inl (.inr h))) rfl⟩
  ·rcases(hV ga).mp h with(h|h)|h
   ·exact xE (ub ga h) λo e=>zN (Pj▸e)
   ·exact xE Ph λo e=>zN (h▸e)
   ·replace eY:=hL▸h▸eY;exact qE _ eY
  ·unfold mL get at h2;refine xA (cj h2) λh3 h4=>?_;clear h2 bH ge Pj Ph aL;cases h4;have:=fY h3;clear h3;subst this;have hy:y=qf:=tq h1 (by decide+kernel);clear h1;subst hy;exact⟨.str x t,by simp[wM],.str _ _⟩
  ·unfold mL get at h;refine xA (cj h) λZ h4=>?_;clear h bH;replace h4:=iJ h4;subst h4;exact⟨_,rfl⟩
open PySem.Sre in
theorem aaS{code text:Array Nat}{lim:Nat}(oW:∀i,i<lim→∀seen,∃ju,inSet code (text.getD i 0) code.size 5 ae seen=.ok (ag,ju))(m:M)(hc:m.code=code)(ht:m.text=text)(hl:m.lim=lim):
  ∀ (fuel s:Nat) (seen:KR),∃ju,M.admitted m fuel s seen=.ok (af,ju):=by
 intro L0;induction L0 with
 |zero=>intro s seen;exact⟨seen,rfl⟩
 |succ fuel ih=>
  intro s seen;show ∃ju,(if s≥m.lim then _ else _)=_;by_cases h:s≥m.lim
  ·exact⟨seen,if_pos h⟩
  ·refine rE (if_neg h) (xE (oW s (hl▸Nat.not_le.mp h) seen) λju e=>rE hc (rE ht (rE e ?_)));exact ih (s+1) ju
open PySem.Sre in
theorem Pk{code text:Array Nat}{lim:Nat}(oW:∀i,i<lim→∀seen,∃ju,inSet code (text.getD i 0) code.size 5 ae seen=.ok (ag,ju)){m:M}(hc:m.code=code)(ht:m.text=text)(hl:m.lim=lim){fuel s:Nat}{seen:KR}{r}(h:M.admitted m fuel s seen=r):
  ∃ju,r=.ok (af,ju):=by
 exact xE (aaS oW m hc ht hl fuel s seen) λa e=>⟨a,h.symm.trans e⟩
open PySem.Sre in
set_option tactic.hygienic true in
theorem Pl{code text:Array Nat}{lim b:Nat}(h1:header code=(1,b))(Hy:((match ops[code.getD 0 0]? with|some .INFO=>ae|_=>ag)&&code.getD 2 0 == 4)=ae)
  (oW:∀i,i<lim→∀seen,∃ju,inSet code (text.getD i 0) code.size 5 ae seen=.ok (ag,ju)):
  (forSearch code text 0 0 lim ag).answer=aa ag∧(forSearch code text 0 0 lim ag).frames=[]∧(forSearch code text 0 0 lim ag).outcome=af:=by
 unfold forSearch;refine rE h1 ?_;dsimp only;split
 ·exact⟨rfl,rfl,rfl⟩
 ·unfold M.attemptFrom;have hf:∀m:M,m.code=code→M.hasFirstSet m:=λm e=>by unfold M.hasFirstSet;refine rE e ?_;exact Hy
  rw[if_neg]
  ·split
   ·rename_i he;refine xE (Pk oW rfl rfl rfl he) λ_ e=>?_;cases e
   ·exact⟨rfl,rfl,rfl⟩
   ·rename_i he;refine xE (Pk oW rfl rfl rfl he) λ_ e=>?_;cases e
  ·exact rE (hf _ rfl) f7
theorem Pm{M:sP}(c:Nat→Bool)(f:Nat→String):∀ (l:ax) {Q:PUnit→ay→Prop},Q ⟨⟩ s→
  ar M A (forIn l UN λi Z=>if c i then(do rule (f i);pure (sN UN))else pure (sN UN)) Q E s:=by
 intro L0;induction L0 with
 |nil=>intro Q h;exact rE List.forIn_nil (bz h)
 |cons i l ih=>
  intro Q h;refine rE (KC ..) (aB ?_);split
  ·exact aB (Ey (bz (ih h)))
  ·exact bz (ih h)
theorem aaT{M:sP}{m:yM}(h1:m.answer=aa ag)(h2:m.frames=[])(h3:m.outcome=af){Q:Option yM→ay→Prop}(hQ:Q af s):
  ar M A (KU m) Q E s:=by
 have aaU:m.step={m with outcome:=aa .failed}:=by unfold yM.step;refine rE h3 (rE h1 (rE h2 ?_));rfl
 have HM:m.runFor EF={m with outcome:=aa .failed}:=by show(if m.outcome.isSome then m else yM.runFor 3 m.step)=_;refine rE h3 (rE aaU ?_);rfl
 unfold KU;refine aB ?_;show ar M A (KV (18446744073709551615+1) m) _ _ s;unfold KV;refine rE HM (bz ?_);dsimp only;exact aB (Pm (λi=>m.seen.has i) (λi=>Sre.names.getD i "") _ (bz hQ))
noncomputable def iK:Array Nat:= #[14,10,4,1,1,22,0,31,16,127,0,13,7,22,0,31,16,127,0,1]
noncomputable def jO:Array Nat:= #[14,14,4,1,1,9,4294966783,0,0,2147483648,0,0,0,0,0,13,11,9,4294966783,0,0,2147483648,0,0,0,0,0,1]
theorem aaV{c:Nat}(h1:32≤c)(h2:c<127)(seen:KR):∃ju,oC iK c iK.size 5 ae seen=.ok (ag,ju):=by
 have e1:oC iK c 20 5 ae seen=if(decide (0≤c)&&decide (c≤31)) then .ok (ae,seen.add 22)else oC iK c 19 8 ae (seen.add 22):=rfl
 have e2:oC iK c 19 8 ae (seen.add 22)=if(c == 127) then .ok (ae,(seen.add 22).add 16)else oC iK c 18 10 ae ((seen.add 22).add 16):=rfl
 have e3:oC iK c 18 10 ae ((seen.add 22).add 16)=.ok (ag,((seen.add 22).add 16).add 0):=rfl;refine⟨((seen.add 22).add 16).add 0,(show oC iK c 20 5 ae seen=_ from ?_)⟩;refine rE e1 ?_;rewrite[if_neg];refine rE e2 ?_;rewrite[if_neg];exact rE e3 rfl
 ·intro h;rw[beq_iff_eq]at h;lia
 ·intro h;replace h:=(jW ..)▸h;rewrite[decide_eq_true_eq]at h;rw[decide_eq_true_eq]at h;lia
theorem aaW:∀c,c<127→32≤c→(decide (c<256)&&(jO.getD (5+(1+c/32)) 0).testBit (c%32))=ag:=by decide+kernel
theorem aaX{c:Nat}(h1:32≤c)(h2:c<127)(seen:KR):∃ju,oC jO c jO.size 5 ae seen=.ok (ag,ju):=by
 have e1:oC jO c 28 5 ae seen=if(decide (c<256)&&(jO.getD (5+(1+c/32)) 0).testBit (c%32)) then .ok (ae,seen.add 9)else oC jO c 27 14 ae (seen.add 9):=rfl
 have e3:oC jO c 27 14 ae (seen.add 9)=.ok (ag,(seen.add 9).add 0):=rfl;refine⟨(seen.add 9).add 0,(show oC jO c 28 5 ae seen=_ from ?_)⟩;exact rE e1 (rE (aaW c h2 h1) (rE (if_neg f7) (rE e3 rfl)))
noncomputable def HO(h:aP)(v:ak)(code:Array Nat):Prop:=
 ∃a o fs c oc items n,v=.ref a∧h.get? a=aa o∧o.cls=.type "re.Pattern" ∧o.data=.fields fs∧fs.getD 5 .none=.ref c∧Bh (fs.getD 6 .none)=0∧Bh (fs.getD 2 .none)=0∧
  h.get? c=aa oc∧oc.data=.seq items n∧(items.map UO).map (·.toNat)=code
theorem aaY{M:sP}{pv:ak}{code:Array Nat}(hc:code=iK∨code=jO)(hr:HO s.heap pv code)(hx:iy x)(hQ:Q .none s):
  ar M A (qL.«re.Pattern.search» ⟨[pv,.str x t],[]⟩) (λfin s'=>∃v,fin=.done (.ret v)∧Q v s') E s:=by
 refine Lz hr ?_;clear hr;intro a o fs c oc items n e9 ho oQ hd h5 h6 h2 rV HP zZ;subst e9;have oW:∀i,i<min (2^63 - 1:Int).toNat x.cps.size→∀seen,∃ju,oC code (x.cps.getD i 0) code.size 5 ae seen=.ok (ag,ju):=λi hi seen=>by
  have eV:i<x.cps.size:=hZ hi (um _ _);have hm:x.cps.getD i 0∈sL x:=by
   have:x.cps.getD i 0=x.cps[i]:=by simp[Array.getD,eV]
   exact rE this (ah2.mpr (ah3 eV))
  have h:=fj.mp hx _ hm;replace h:=(jW ..)▸h;have h1:=bc h.1;have h2:x.cps.getD i 0<127:=bc h.2;rcases hc with e|e<;>subst e
  ·exact aaV h1 h2 seen
  ·exact aaX h1 h2 seen
 have hf:(EG code x.cps 0 0 (min (2^63 - 1:Int).toNat x.cps.size) ag).answer=aa ag∧(EG code x.cps 0 0 (min (2^63 - 1:Int).toNat x.cps.size) ag).frames=[]∧(EG code x.cps 0 0 (min (2^63 - 1:Int).toNat x.cps.size) ag).outcome=af:=by
  rcases hc with e|e<;>subst e
  ·exact Pl (b:=11) rfl rfl oW
  ·exact Pl (b:=15) rfl rfl oW
 unfold qL.«re.Pattern.search»;refine aB ?_;unfold ah4;have HQ:ah5 "re.Pattern.search" "search" ["string","pos","endpos"] 1 [.str x t] []=pure [aa (.str x t),af,af]:=rfl;dsimp only;refine aB (ou HQ ?_);dsimp only;refine aB (bz (aB (bz ?_)));refine aB (wpAny_fieldsOf ho hd ?_);refine aB (ou (a:=(x.cps,0)) rfl ?_);dsimp only;refine rE h6 (rE h2 (rE h5 ?_));refine rE (if_neg (by decide)) (rE (if_neg (by decide)) ?_);refine aB (ou (a:=()) rfl ?_);refine aB ?_;unfold ah6;refine aB (wpAny_seqItems rV HP (bz (bz ?_)));unfold ah7;have hz:min (Int.toNat 0) x.cps.size=0:=DY (eo _);simp only[Ua,zZ,hz];refine aB (aaT hf.1 hf.2.1 hf.2.2 ?_);exact bz ⟨.none,rfl,hQ⟩
theorem aaZ:PlainAttrs "re.Pattern" :=
 ⟨⟨"object.__getattribute__",by refine rE (qR ..) ?_;refine rE qS ?_;kernel_rfl,by decide+kernel⟩,by refine rE (qR ..) ?_;refine rE qS ?_;kernel_rfl⟩
theorem aa0:Manifest.owners.lookup (Ec ['n','r','e','t','t','a','P','.','e','r'].reverse)=aa Manifest.sig_re_Pattern:=by kernel_rfl
theorem Pn:Uw "re.Pattern" "search" "re.Pattern.search" :=
 .of (owner:= "re.Pattern") (n:= "search") (by refine rE (qR ..) (rE qS ?_);kernel_rfl) (by decide+kernel) (by decide+kernel) (by decide+kernel)
  (by first|exact .inl (by decide+kernel)|exact .inr (by decide+kernel)) (by refine rE (isSubtype_type ..) ?_;kernel_rfl)
theorem aa1:typeOf (.builtin "re.Pattern.search")=pure (.type "method_descriptor"):=by show builtinType _=_;refine rE builtinType_eq_fast ?_;kernel_rfl
theorem aa2:entryFor table "re.Pattern.search" =aa qL.«re.Pattern.search» :=entryFor_of_tree (by kernel_rfl)
theorem aa3(a b:ak):argsOk "re.Pattern.search" ⟨[a,b],[]⟩:=by unfold argsOk;refine rE (signature?_of (id:= "re.Pattern.search") (n:=['h','c','r','a','e','s']) (o:=['n','r','e','t','t','a','P','.','e','r']) (by kernel_rfl) aa0) ?_;kernel_rfl
structure Meth(K:Kt)(a:aE)(fd:pw)(ks:cT)(body:List a9):Prop where
 obj:∃o,K.fr a o∧o.cls=.type "function" ∧o.data=.func fd
 code:∃c oc vs t,fd.code=.ref c∧K.fr c oc∧oc.data=.fields vs∧vs[1]? =aa (.str fd.qualname t)
 body:fd.body=.stmts body
 names:fd.scope.names=ks
 kind:fd.scope.kind=.function
 co:fd.scope.isCoroutine=ag
 gen:fd.scope.isGenerator=ag
 gD:fd.closure=[]
 gl:fd.globals=gn
 bi:fd.builtins=jB
section
variable{K:Kt}
theorem Meth.at(M:Meth K a fd ks body){h:aP}(g:br K U h):∃o,h.get? a=aa o∧o.cls=.type "function" ∧o.data=.func fd∧h.CodeRec fd.code fd.qualname:=j4 M.obj λo h1 h2 h3=>w6 M.code λc oc vs t c1 c2 c3 c4=>⟨o,(g.iU a o h1).1,h2,h3,c,oc,vs,t,c1,(g.iU c oc c2).1,c3,c4⟩
theorem lR{m:gw}{v:ak}(hk:env.scope.kind=.function)(k:env.kindOf x=aa .local)(n:s.heap.Ns env.locals m)(e:m x=aa v)(hd:(x == ("__debug__" :ah))=ag)(hQ:Q v s):
  ar (aw prog K.w) A (eval (.Name x p) env) Q E s:=yA (wJ hk k n e hQ) hd
theorem Po{v:ak}(hk:env.scope.kind=.function)(k:env.kindOf x=aa .globalImplicit)(hg:env.globals=gn)(g:br K U s.heap)(e:K.mg x=aa v)(hd:(x == ("__debug__" :ah))=ag)(hQ:Q v s):
  ar (aw prog K.w) A (eval (.Name x p) env) Q E s:=Kw hk k (loadGlobal_global (mg:=K.mg) (rE hg g.ng) e hQ) hd
theorem z8{v:ak}(hk:env.scope.kind=.function)(k:env.kindOf x=aa .globalImplicit)(hg:env.globals=gn)(hb:env.builtins=jB)(g:br K U s.heap)
  (e:K.mg x=af∧K.mb x=aa v) (hd:(x == ("__debug__" :ah))=ag) (hQ:Q v s):ar (aw prog K.w) A (eval (.Name x p) env) Q E s:=
 Kw hk k (ahx (mg:=K.mg) (mb:=K.mb) (rE hg g.ng) e.1 (rE hb g.nb) e.2 hQ) hd
end
noncomputable def aa4(p:Nat→aO):List a9:=[.Raise (aa (.Call (.Name mx (p 19)) [.Constant (.str td) 0 (p 20)] [] (p 21))) af (p 22)]
noncomputable def Pp(p:Nat→aO):List a9:=[.If (.Call (.Attribute (.Name "regex" (p 11)) "search" (p 12)) [.Name "value" (p 13)] [] (p 14)) (aa4 p) [] (p 15),.Return (aa (.Name "value" (p 16))) (p 17)]
noncomputable def Pq(p:Nat→aO)(R:a9):List a9:=
 [.If (.Compare (.Call (.Name "type" (p 0)) [.Name "value" (p 1)] [] (p 2)) [.Is] [.Name "str" (p 3)] (p 4))
  (.Assign [.Name "regex" (p 5)] (.IfExp (.Name "name" (p 6)) (.Name "_name_disallowed_re" (p 7)) (.Name "_value_disallowed_re" (p 8)) (p 9)) (p 10)::Pp p) [] (p 18),R]
noncomputable def xH:List (ah × eC):=[("self",.local),("value",.local),("name",.local),("regex",.local),("type",.globalImplicit),("str",.globalImplicit),("_name_disallowed_re",.globalImplicit),("_value_disallowed_re",.globalImplicit),("ValueError",.globalImplicit),("AssertionError",.globalImplicit),("repr",.globalImplicit)]
theorem HR:xH.lookup ("self" :ah)=aa .local∧xH.lookup ("value" :ah)=aa .local∧xH.lookup ("name" :ah)=aa .local:=by decide+kernel
theorem aa5:("value" :ah)≠("regex" :ah):=by decide+kernel
theorem Pr:(("value" :ah) == ("name" :ah))=ag:=by decide+kernel
inductive vN(P:aE→fI→Prop)(v:ak)(code:Array Nat):Prop
 |mk (a:aE) (o:fI) (fs:Array ak) (c:aE) (oc:fI) (items:Array ak) (n:Nat) (n1:v=.ref a) (n2:P a o) (n3:o.cls=.type "re.Pattern") (n0:o.dict=af) (n4:o.data=.fields fs) (n5:fs.getD 5 .none=.ref c) (n6:Bh (fs.getD 6 .none)=0)
  (n7:Bh (fs.getD 2 .none)=0) (n8:P c oc) (n9:oc.data=.seq items n) (CR:(items.map UO).map (·.toNat)=code)
noncomputable abbrev rW(h:aP):ak→Array Nat→Prop:=vN λa o=>h.get? a=aa o
theorem vN.imp{P P':aE→fI→Prop}{v:ak}{code:Array Nat}(r:vN P v code)(f:∀a o,P a o→(∀es ep,o.data≠.dict es ep)→P' a o):vN P' v code:=by obtain⟨a,o,fs,c,oc,items,n,n1,n2,n3,n0,n4,n5,n6,n7,n8,n9,CR⟩:=r;exact⟨a,o,fs,c,oc,items,n,n1,f _ _ n2 (λes ep q=>nomatch (n4.symm.trans q)),n3,n0,n4,n5,n6,n7,f _ _ n8 (λes ep q=>nomatch (n9.symm.trans q)),n9,CR⟩
theorem vN.code{h:aP}{v:ak}{code:Array Nat}(r:rW h v code):HO h v code:=by obtain⟨a,o,fs,c,oc,items,n,n1,n2,n3,n0,n4,n5,n6,n7,n8,n9,CR⟩:=r;exact⟨a,o,fs,c,oc,items,n,n1,n2,n3,n4,n5,n6,n7,n8,n9,CR⟩
structure k8(K:Kt)(fC:aE)(fd:pw)(p:Nat→aO)(R:a9):Prop where
 m:Meth K fC fd xH (Pq p R)
 bind:∀a b c:ak,jD fd ⟨[a,b],[(("name" :ah),c)]⟩=pure [(("self" :ah),a),(("value" :ah),b),(("name" :ah),c)]
 line:cH (p 12) (p 14)
 ty:K.mg "type" =af∧K.mb "type" =aa (.type "type")
 rn:∃v,K.mg "_name_disallowed_re" =aa v∧vN K.fr v iK
 rv:∃v,K.mg "_value_disallowed_re" =aa v∧vN K.fr v jO
section
variable{K:Kt}
theorem k8.xI{p:Nat→aO}{R:a9}(c:k8 K fC fd p R):∃vn vv,K.mg "_name_disallowed_re" =aa vn∧K.mg "_value_disallowed_re" =aa vv∧∀U h,br K U h→rW h vn iK∧rW h vv jO:=aD c.rn λvn n1 n2=>aD c.rv λvv v1 v2=>⟨vn,vv,n1,v1,λU h g=>⟨n2.imp λa o k Z=>(g.iU a o k).1,v2.imp λa o k Z=>(g.iU a o k).1⟩⟩
theorem Pt{pv:ak}{code:Array Nat}(hr:rW s.heap pv code){p1 p3 p4:aO}{nr nv:ah}(hl:cH p2 p4)
  (h1:∀ (Q E:aW),Q pv s→ar (aw prog K.w) A (eval (.Name nr p1) env) Q E s) (h2:∀ (Q E:aW),Q (.str x t) s→ar (aw prog K.w) A (eval (.Name nv p3) env) Q E s) {Q E:aW}
  (hQ:∀ (M:sP) (A:dU) (E:aW),ar M A (qL.«re.Pattern.search» ⟨[pv,.str x t],[]⟩) (λfin s'=>∃v,fin=.done (.ret v)∧Q v s') E s):
  ar (aw prog K.w) A (eval (.Call (.Attribute (.Name nr p1) "search" p2) [.Name nv p3] [] p4) env) Q E s:=by
 obtain⟨a,o,_,_,_,_,_,rfl,ho,oQ,hd⟩:=hr;refine pP rfl hl (bc rfl) rfl (h1 _ _ λpl=>Kz (T:= "re.Pattern") ⟨o,ho,oQ⟩ aaZ Pn aa1 (λb e=>by cases e;exact⟨o,ho,hd⟩) ?_);refine uB rfl (qM (ir (h2 _ _ (jZ ?_))));exact yy Pn ⟨o,ho,oQ⟩ aa2 (hQ _ _ _) (aa3 _ _)
structure Pu(s:ay)(env:bF):Prop where
 kind:env.scope.kind=.function
 look:∀y k,xH.lookup y=aa k→env.kindOf y=aa k
 gl:env.globals=gn
 bi:env.builtins=jB
 frame:env.frame=aa env.locals
 new:s.heap.get? env.locals=af
theorem Pw{p:Nat→aO}{R:a9}(c:k8 K fC fd p R)(O:bU K)(hr:A.depth<iR)(g:br K U s.heap){sv:ak}
  (h:∀env rv m av,Pu s env→Ext s av→rW av.heap rv (cond b iK jO)→av.heap.Ns env.locals m→m "value" =aa (.str x t)→m "regex" =aa rv→
   ar (aw prog K.w) (A.deeper env) (oz (Pp p) env) (λf s'=>∃v,f=.ret v∧Q v s') (λe s'=>ar (aw prog K.w) (A.deeper env) (leaving env e) (λZ dh=>E e dh) E s') av):
  ar (aw prog K.w) A (call (.ref fC) [sv,.str x t] [(("name" :ah),.bool b)]) Q E s:=by
 refine gz (c.m.at g) λo ho oQ hd o4=>?_;refine EC (codeAny_call_def hr ho hd g.lim o4 c.m.body (KW (c.bind sv (.str x t) (.bool b))) (by refine rE c.m.names ?_;decide+kernel) (by
  intro y hy;refine rE c.m.names ?_;simp only[bE,sM,or_false]at hy;rcases hy with rfl|rfl|rfl
  ·exact HR.1
  ·exact HR.2.1
  ·exact HR.2.2) (λh₀ lJ hk=>?_) c.m.co c.m.gen c.m.kind)
 obtain⟨env,hE⟩:∃env,env=callEnv fd s.heap.objs.size fC:=⟨_,rfl⟩;have hL:env.locals=s.heap.objs.size:=by refine rE hE ?_;rfl
 have fL:s.heap.get? env.locals=af:=rE hL (eM _)
 have V:Pu s env:=⟨by refine rE hE ?_;exact c.m.kind,λy k h=>by refine rE hE ?_;show fd.scope.names.lookup y=_;refine rE c.m.names ?_;exact h,by refine rE hE ?_;exact c.m.gl,by refine rE hE ?_;exact c.m.bi,by refine rE hE ?_;rfl,fL⟩;obtain⟨lM,mM,CS,Px,_,_⟩:=id V;refine rS hE ?_;replace lJ:=hL.symm▸lJ;obtain⟨ai,k7⟩:∃ai:ay,ai={s with heap:=h₀,toks:=s.toks+[(("self" :ah),sv),("value",.str x t),("name",.bool b)].length}:=⟨_,rfl⟩;refine rS k7 ?_;have aq:Ext s ai:=rE k7 ⟨hk,λZ Z e=>e,λe=>e,rfl⟩
 have CT:ai.heap.Ns env.locals (λy=>[(("self" :ah),sv),("value",.str x t),("name",.bool b)].reverse.lookup y):=rE k7 lJ
 have dR:=g.ext aq;refine gq (wO (yE ?_ rfl));show ar _ _ (do jY (p 2) (← eval (.Name "type" (p 0)) env) [] (gJ (p 2) (fZ [.Name "value" (p 1)] env)) []) _ _ ai;refine aB (z8 lM (mM _ _ (by decide+kernel)) CS Px dR c.ty (by decide+kernel) (A4 rfl (qM (ir ?_))));refine lR lM (mM _ _ (by decide+kernel)) CT (v:=.str x t) (by simp[wM,Pr]) (by decide+kernel) (jZ (call_type_of (TY _ _ _) (by decide+kernel) ?_));refine z8 lM (mM _ _ (by decide+kernel)) CS Px dR O.str (by decide+kernel) (wpAny_is_self rfl (lr ?_));refine rE (if_pos rfl) (cK c.xI λvn vv mn mv xI=>?_);have fin:∀ (rv:ak),rW ai.heap rv (cond b iK jO)→∀ (Q':Unit→ay→Prop) (E':aW),(∀av m,Ext s av→rW av.heap rv (cond b iK jO)→av.heap.Ns env.locals m→m "value" =aa (.str x t)→m "regex" =aa rv→Q' () av)→
   ar (aw prog K.w) (A.deeper env) (qN env "regex" rv) Q' E' ai:=by
  intro rv aa6 Q' E' z7;refine Et (hp:=by refine rE lM ?_;rfl) (mM _ _ (by decide+kernel)) CT λey Cz cB=>?_;have aC:Mv (λa=>a=env.locals) (λZ=>False) ai {ai with heap:=ey,toks:=ai.toks+1}:=⟨λa o n e=>(cB.2 a n).trans e,λZ Z Z e=>e,λe=>e,rfl⟩;have zU:Ext s {ai with heap:=ey,toks:=ai.toks+1}:=aC.ext aq (λc h=>h▸fL) λZ h=>h.elim;have aa7:rW ey rv (cond b iK jO):=by
   have bQ:∀a o,ai.heap.get? a=aa o→(∀es ep,o.data≠.dict es ep)→ey.get? a=aa o:=λa o e kY=>by refine(cB.2 a λq=>?_).trans e;refine ib CT λo' es ep gA dB Z=>?_;replace gA:=iJ (e▸q.symm▸gA);subst gA;exact kY es ep dB
   exact aa6.imp bQ
  exact z7 _ _ zU aa7 Cz (by simp[wM,Pr,aa5]) (by simp)
 refine gq (oB (wpAny_IfExp (KX (lR lM (mM _ _ (by decide+kernel)) CT (v:=.bool b) (by simp[wM]) (by decide+kernel) (lr ?_)))));induction b with
 |true=>exact rE (if_pos rfl) (Po lM (mM _ _ (by decide+kernel)) CS dR mn (by decide+kernel) (fin vn (xI U _ dR).1 _ _ λav m x r n e1 e2=>ia (h env vn m av V x r n e1 e2) (λf s' ⟨v,e,q⟩=>by subst e;exact q) λe s' q=>q))
 |false=>exact rE (if_neg f7) (Po lM (mM _ _ (by decide+kernel)) CS dR mv (by decide+kernel) (fin vv (xI U _ dR).2 _ _ λav m x r n e1 e2=>ia (h env vv m av V x r n e1 e2) (λf s' ⟨v,e,q⟩=>by subst e;exact q) λe s' q=>q))
theorem aa8{p:Nat→aO}{R:a9}(c:k8 K fC fd p R)(O:bU K)(hr:A.depth<iR)(g:br K U s.heap){sv:ak}(hx:iy x)
  (hQ:∀s',Ext s s'→Q (.str x t) s'):ar (aw prog K.w) A (call (.ref fC) [sv,.str x t] [(("name" :ah),.bool b)]) Q E s:=
 Pw c O hr g λenv rv m av V aC z9 n e1 e2=>by have Py:∀ (pp:aO) {Q E:aW},Q (.str x t) av→ar (aw prog K.w) (A.deeper env) (eval (.Name "value" pp) env) Q E av:=λpp Z Z h=>lR V.kind (V.look _ _ (by decide+kernel)) n e1 (by decide+kernel) h;refine gq (wO (KX (Pt z9 c.line (λQ E h=>lR V.kind (V.look _ _ (by decide+kernel)) n e2 (by decide+kernel) h) (λQ E h=>Py _ h) λM A E=>aaY (by induction b<;>simp) z9.code hx (PyProof.Rows.truthy_none ?_))));exact rE (if_neg f7) (oA (gq (EA (Py _ ⟨_,rfl,hQ av aC⟩))))
end
noncomputable def HS(m:yM):Bool:=match m.outcome with|some .matched=>ae|_=>ag
theorem aa9:∀c,c<128→(aX 32 c&&aU c 127)=ag→HS ((EG iK #[c] 0 0 1 ag).runFor 4):=by decide+kernel
theorem mtB:qH (.type "re.Match") "__bool__" =pure af:=by refine rE (qR ..) (rE qS ?_);kernel_rfl
theorem mtL:qH (.type "re.Match") "__len__" =pure af:=by refine rE (qR ..) (rE qS ?_);kernel_rfl
theorem aba{M:sP}{Q:Bool→ay→Prop}{o:fI}(h:s.heap.get? a=aa o)(hc:o.cls=.type "re.Match")(hQ:Q ae s):ar M A (Ek (.ref a)) Q E s:=by have T:s.TypeIs (.ref a) "re.Match" :=⟨_,h,hc⟩;unfold Ek;exact aB (wpAny_callSpecial?_none T mtB (aB (wpAny_specialOf T mtL (bz hQ))))
theorem abb{M:sP}{m:yM}(h:HS (m.runFor EF)){Q:Option yM→ay→Prop}(hQ:Q (aa (m.runFor EF)) s):
  ar M A (KU m) Q E s:=by
 unfold KU;refine aB ?_;show ar M A (KV (18446744073709551615+1) m) _ _ s;unfold KV;dsimp only;generalize m.runFor EF=m' at h hQ;unfold HS at h;have ho:m'.outcome=aa .matched:=by
  split at h
  ·assumption
  ·exact zF h
 refine rE (if_pos (by refine rE ho ?_;rfl)) ?_;refine bz (aB (Pm (λi=>m'.seen.has i) (λi=>Sre.names.getD i "") _ ?_));exact rE ho (bz hQ)
theorem abc{M:sP}{pv:ak}(hr:HO s.heap pv iK)(hx:iy x=ag)(ha:mh (sL x))(hl:(sL x).length=1)
  (hQ:∀a s',Ext s s'→(∃o,s'.heap.get? a=aa o∧o.cls=.type "re.Match")→Q (.ref a) s'):
  ar M A (qL.«re.Pattern.search» ⟨[pv,.str x t],[]⟩) (λfin s'=>∃v,fin=.done (.ret v)∧Q v s') E s:=by
 refine Lz hr λa o fs c oc items n e9 ho oQ hd h5 h6 h2 rV HP zZ=>?_;subst e9;obtain⟨ch,HT⟩:∃ch,sL x=[ch]:=ahz.mp hl;have Pz:x.cps= #[ch]:=Ks.mp HT;have eV:ch<128:=by replace ha:=HT▸ha;have h:=(fJ.mp ha).1;exact bc h
 have abd:(aX 32 ch&&aU ch 127)=ag:=by unfold iy at hx;replace hx:=HT▸hx;have:((aX 32 ch&&aU ch 127)&&ae)=ag:=hx;rwa [EH]at this
 have hf:=aa9 ch eV abd;unfold qL.«re.Pattern.search»;refine aB ?_;unfold ah4;have HQ:ah5 "re.Pattern.search" "search" ["string","pos","endpos"] 1 [.str x t] []=pure [aa (.str x t),af,af]:=rfl;dsimp only;refine aB (ou HQ ?_);dsimp only;refine aB (bz (aB (bz ?_)));refine aB (wpAny_fieldsOf ho hd ?_);refine aB (ou (a:=(x.cps,0)) rfl ?_);dsimp only;refine rE h6 (rE h2 (rE h5 ?_));refine rE (if_neg (by decide)) (rE (if_neg (by decide)) ?_);refine aB (ou (a:=()) rfl ?_);refine aB ?_;unfold ah6;refine aB (wpAny_seqItems rV HP (bz (bz ?_)));unfold ah7;have hz:min (Int.toNat 0) x.cps.size=0:=DY (eo _);have hm:min (2^63 - 1:Int).toNat x.cps.size=1:=by refine rE Pz ?_;rfl
 simp only[Ua,zZ,hz,hm];refine rE Pz (aB (abb hf ?_));generalize (EG iK #[ch] 0 0 1 ag).runFor EF=m;refine aB ?_;unfold qL.Re.reNewMatch newFields;show ar M A (newTuple [rawInt (m.start:Int),rawInt (m.handed:Int)] >>= λu=>newObj (.type "re.Match") (.fields #[.str x t,.ref a,rawInt 0,rawInt 1,rawInt m.lastindex,u])) _ E s;refine aB (Eh (yL ?_));exact bz ⟨_,rfl,hQ _ _ (Ext.push.trans (.push (k:=s.toks))) ⟨_,eT _ rfl,rfl⟩⟩
section
variable{K:Kt}
theorem oT.ext{base:aP}{fs:List bF}{e:aE}(x:Ext aT s)(f:oT base fs e s s'):oT base fs e aT s':=
 ⟨f.tJ,(ah8 x.keep).trans f.up,λg y h=>f.gens g y (x.gens g y h),λh=>f.bare (x.bare h),f.os.trans x.os⟩
theorem PA{base h:aP}(k:base.StaysIn h){b:aE}(e:h.get? b=af):base.get? b=af:=by
 induction q:base.get? b with
 |none=>rfl
 |some o=>have:=k b o q;exact zN (e▸this)
theorem PB{base:aP}(k:base.StaysIn aT.heap)(x:Ext aT s):base.StaysIn s.heap:=λb o e=>x.keep b o (k b o e)
theorem PC{base:aP}{fs:List bF}(k:aT.heap.FunFrames base fs)(x:Ext aT s):s.heap.FunFrames base fs:=k.of_keeps λb o e Z=>⟨o,x.keep b o e,rfl⟩
theorem oT.leave{base:aP}{fs:List bF}{e:aE}(cC:A.frames=aa fs)(hf:env.frame=aa env.locals)(x:oT base (env::fs) e aT s)(hE:∀s',oT base fs e aT s'→E (.ref e) s'):
  ar (aw prog K.w) (A.deeper env) (leaving env (.ref e)) (λZ dh=>E (.ref e) dh) E s:=by
 obtain⟨⟨tt,tk,f1,f2⟩,f3,f4,f5,f6⟩:=x;exact wpAny_leaves_onW (UP cC) hf f1 λh' g1 g2=>hE _ ⟨⟨tt,tk,g1,f2.of_slots g2⟩,f3.trans g2,f4,f5,f6⟩
theorem abe{p:Nat→aO}{R:a9}(c:k8 K fC fd p R)(O:bU K)(hr:A.depth<iR)(hh:A.handled=af)(g:br K U s.heap){sv:ak}(hx:iy x=ag)(ha:mh (sL x))(hl:(sL x).length=1)
  {base:aP}{fs:List bF} (cC:A.frames=aa fs) (st:base.StaysIn s.heap) (ff:s.heap.FunFrames base fs) {Q E:aW} (hE:∀e s',oT base fs e s s'→E (.ref e) s'):ar (aw prog K.w) A (call (.ref fC) [sv,.str x t] [(("name" :ah),.bool ae)]) Q E s:=
 Pw c O hr g λenv rv m av V aC z9 n e1 e2=>by refine gq (wO (KX (Pt z9 c.line (λQ E h=>lR V.kind (V.look _ _ (by decide+kernel)) n e2 (by decide+kernel) h) (λQ E h=>lR V.kind (V.look _ _ (by decide+kernel)) n e1 (by decide+kernel) h) λM A E=>abc z9.code hx ha hl λa aR bx ho=>?_)));refine aD ho λo ho rV=>aba ho rV (rE (if_pos rfl) ?_);have abf:=bx;have bx:=aC.trans bx;refine gq (Raise_madeB PySem.F.excCall_ValueError PySem.F.excRaise_ValueError hh (z8 V.kind (V.look _ _ (by decide+kernel)) V.gl V.bi (g.ext bx) O.ve (by decide+kernel) ⟨rfl,?_⟩));refine ir (Kx (k:=0) (pos:=p 20) (jZ ⟨by refine rE lu ?_;simp,λh' e hm=>?_⟩));have HF:=PB st bx;have abg:aR.heap.FunFrames base (env::fs):=.cons (by refine rE V.kind ?_;nofun) V.frame (n.keeps abf.keep) (PA st V.new) (PC ff bx);exact wpAny_leaves_madeW (UP cC) V.frame HF abg hm.of λHU tt f1 f2 Z f4=>hE e _ ⟨⟨tt,_,f1,f2⟩,((ah8 bx.keep).trans (.of_keeps hm.keeps)).trans f4,bx.gens,bx.bare,bx.os⟩
end
structure lS where
 nm:ah
 q:ah
 N:aE
 bs:List ak
 sn:List ah
 sub:List ak
 col:Option Bool
 dd:Option aE
 k0:Option ak
 k1:Option ak
 k2:Option ak
 k3:Option ak
 k5:Option ak
 newId:String
 mN:ah→Option ak
noncomputable def lS.obj(c:lS)(C:aE):fI:=excClassObj c.nm c.q C c.N c.bs [.type "object"] ae c.sn c.sub ag c.col c.dd c.k0 c.k1 c.k2 c.k3 c.k5 c.newId
structure gj(K:Kt)(c:lS):Prop where
 cls:K.fr K.hc (c.obj K.hc)
 ns:∃oN,K.fr c.N oN∧∀h:aP,h.get? c.N=aa oN→h.Ns c.N c.mN
 ga:c.mN "__getattribute__" =af
 PD:c.mN "__getattr__" =af
 sa:c.mN "__setattr__" =af
 hd:c.mN "_headers" =af
noncomputable def gG:ah:= "_headers"
theorem PE:qH (.type "object") gG=pure af:=by refine rE (qR ..) (rE qS ?_);kernel_rfl
section
variable{K:Kt}{c:lS}
structure qg(hc:aE)(h:aP)(a l:aE):Prop where
 inst:∃m,h.Inst a hc m∧m gG=aa (.ref l)∧∀x,x≠gG→m x=af
theorem dO.inst{h:aP}{t:d6}(x:dO K.hc U h a l t):qg K.hc h a l:=uY x λo d m vs n x=>⟨m,⟨o,x.e2,x.e3,x.e5,.inr ⟨d,x.e4,x.e9,x.e7⟩⟩,x.my,x.zp⟩
theorem iV.open{h:aP}{v:ak}{t:d6}(x:iV K.hc U h v t):∃a l,v=.ref a∧dO K.hc U h a l t:=x
theorem gj.at(k:gj K c){h:aP}(g:br K U h):h.get? K.hc=aa (c.obj K.hc)∧h.Ns c.N c.mN:=aD k.ns λoN h1 h2=>⟨(g.iU _ _ k.cls).1,h2 h (g.iU _ _ h1).1⟩
theorem CU(k:gj K c)(g:br K U s.heap)(I:qg K.hc s.heap a l){ex:Bool}(hQ:Q (.ref l) {s with toks:=s.toks+1}):ar (aw prog K.w) A (getAttr (.ref a) gG ex) Q E s:=xA (k.at g) λh1 h2=>j4 I.inst λm hi e1 Z=>load_attr h1 h2 k.ga k.hd PE hi e1 rfl hQ
theorem CV(k:gj K c)(g:br K U s.heap)(I:qg K.hc s.heap a l){name:ah}(bQ:name≠gG)(M:Meth K f fd ks body)(hf:c.mN name=aa (.ref f))
  {y:Option ak} (hB:qH (.type "object") name=pure y) {pl:cN Bool}{Q:ak × List ak→ay→Prop}{E:aW} (hQ:Q (.ref f,[.ref a]) s):ar (aw prog K.w) A (yB (.ref a) name pl) Q E s:=by
 exact xA (k.at g) λh1 h2=>j4 I.inst λm hi Z e2=>j4 (M.at g) λo ho oQ Z=>method_of h1 h2 k.ga k.PD hf ho oQ hB hi (e2 name bQ) hQ
theorem abh{o e kv:au}{name kn:ah}{apos kp:aO}(hr:recv o)(hl:cH apos pos)(hs:nH e=ag)
  (h:ar (aw prog K.w) A (eval o env) (λov ai=>∀pl,ar (aw prog K.w) A (yB ov name pl) (λfx av=>ar (aw prog K.w) A (jY pos fx.1 fx.2 (gJ pos (fZ [e] env)) (backToKw pos (keywordEach [⟨aa kn,kv,kp⟩] env))) Q E av) E ai) E s):
  ar (aw prog K.w) A (eval (.Call (.Attribute o name apos) [e] [⟨aa kn,kv,kp⟩] pos) env) Q E s:=by
 have u9:=MB (name:=name) (env:=env) hr;have zq:methodCallForm ([e].length+[(⟨aa kn,kv,kp⟩:Ej)].length) (gJ pos (fZ [e] env)) (backToKw pos (keywordEach [⟨aa kn,kv,kp⟩] env)):=by refine rE (mB hs) ?_;rfl
 have zr:(apos.endLine == pos.line):=rE (fY hl) (beq_self_eq_true _)
 have zt:A3 ae o env apos pos=pure pos:=by unfold A3;simp[zr]
 refine rE (Ur ..) (rE u9 ?_);refine aB (ia h (λov ai h₁=>aB (kI ?_)) λZ Z e=>e);unfold methodCall;refine rE zq (aB (jg ?_));unfold calleeOf;exact rE (if_pos rfl) (ia (h₁ _) (λfx av ey=>aB (ou zt ey)) λZ Z e=>e)
noncomputable def km:ah:= "_convert_string_type"
theorem abi:km≠gG:=by decide+kernel
theorem abj:qH (.type "object") km=pure af:=by refine rE (qR ..) (rE qS ?_);kernel_rfl
theorem PF(k:gj K c){p:Nat→aO}{R:a9}(cv:k8 K fC fd p R)(hf:c.mN km=aa (.ref fC))(g:br K U s.heap)(I:qg K.hc s.heap a l)
  {env:bF}{ns:ah}{p1 p2 p3 p4 p5:aO}{e:au}{x:ah}{b:Bool} (hl:cH p2 p4) (cz:nH e=ag)
  (h1:∀ (Q E:aW),Q (.ref a) s→ar (aw prog K.w) A (eval (.Name ns p1) env) Q E s)
  (h2:∀ (Q E:aW),(∀s' t,Ext s s'→Q (.str x t) s')→ar (aw prog K.w) A (eval e env) Q E s) {Q E:aW} (hC:∀s' t,Ext s s'→ar (aw prog K.w) A (call (.ref fC) [.ref a,.str x t] [(("name" :ah),.bool b)]) Q E s'):
  ar (aw prog K.w) A (eval (.Call (.Attribute (.Name ns p1) km p2) [e] [⟨aa "name",.Constant (.bool b) 0 p3,p5⟩] p4) env) Q E s:=by
 refine abh rfl hl cz (h1 _ _ λpl=>CV k g I abi cv.m hf abj ?_);exact gz (cv.m.at g) λo ho Z hd Z=>callWith_function_kw (o:=o) (fd:=fd) (rE (mB cz) (evalArgs_kw rfl (ir (h2 _ _ λai t aq=>jZ (wpAny_evalAll_cons (aB (Em (aB (kI (bz (wpAny_evalAll_nil ⟨⟨aq.keep _ _ ho,hd⟩,hC ai t aq⟩)))))))))))
theorem HV(k:gj K c){p:Nat→aO}{R:a9}(cv:k8 K fC fd p R)(hf:c.mN km=aa (.ref fC))(O:bU K)(hr:A.depth<iR)(g:br K U s.heap)(I:qg K.hc s.heap a l)
  {env:bF}{ns:ah}{p1 p2 p3 p4 p5:aO}{e:au}{x:ah}{b:Bool} (hl:cH p2 p4) (cz:nH e=ag) (hx:iy x)
  (h1:∀ (Q E:aW),Q (.ref a) s→ar (aw prog K.w) A (eval (.Name ns p1) env) Q E s)
  (h2:∀ (Q E:aW),(∀s' t,Ext s s'→Q (.str x t) s')→ar (aw prog K.w) A (eval e env) Q E s) {Q E:aW} (hQ:∀s' t,Ext s s'→Q (.str x t) s'):
  ar (aw prog K.w) A (eval (.Call (.Attribute (.Name ns p1) km p2) [e] [⟨aa "name",.Constant (.bool b) 0 p3,p5⟩] p4) env) Q E s:=
 PF k cv hf g I hl cz h1 h2 λai t aq=>aa8 cv O hr (g.ext aq) hx λav aC=>hQ av t (aq.trans aC)
end
structure PG(ks:cT)(env:bF):Prop where
 kind:env.scope.kind=.function
 look:∀y k,ks.lookup y=aa k→env.kindOf y=aa k
 gl:env.globals=gn
 bi:env.builtins=jB
section
variable{K:Kt}{c:lS}
theorem PH(M:Meth K f fd ks body)(hr:A.depth<iR)(g:br K U s.heap){vals:List ak}{binds:List (ah × ak)}(hb:Bi s fd ⟨vals,[]⟩ binds)
  (hc:∀x∈ks,x.2≠.cell) (hl:∀x∈binds,ks.lookup x.1=aa .local) {Q E:aW}
  (h:∀env ai,Ext s ai→PG ks env→ai.heap.Ns env.locals (λy=>binds.reverse.lookup y)→s.heap.get? env.locals=af→
   ar (aw prog K.w) (A.deeper env) (oz body env) (λfl s'=>Q (match fl with| .ret v=>v|_=>.none) s') (λZ Z=>False) ai):ar (aw prog K.w) A (call (.ref f) vals) Q E s:=by
 refine gz (M.at g) λo ho Z hd o4=>EC (codeAny_call_def hr ho hd g.lim o4 M.body hb (rE M.names hc) (rE M.names hl) (λh₀ lJ hk=>?_) M.co M.gen M.kind);refine ia (h (callEnv fd s.heap.objs.size f) {s with heap:=h₀,toks:=s.toks+binds.length} ⟨hk,λZ Z e=>e,λe=>e,rfl⟩ ⟨M.kind,λy k e=>?_,M.gl,M.bi⟩ lJ (eM _)) (λfl s' q=>q) λZ Z q=>q.elim;show fd.scope.names.lookup y=_;exact rE M.names e
noncomputable def HW(p:Nat→aO):List a9:=[.Return (aa (.Subscript (.Attribute (.Name "self" (p 0)) gG (p 1)) (.Slice af af af (p 2)) (p 3))) (p 4)]
noncomputable def o5:List (ah × eC):=[("self",.local)]
theorem HX:o5.lookup ("self" :ah)=aa .local:=by decide+kernel
theorem PJ:∀x∈o5,x.2≠.cell:=by decide+kernel
theorem abk:(("self" :ah) == ("__debug__" :ah))=ag:=by decide+kernel
theorem aI.pairs_len{h:aP}{t:d6}(r:aI U h vs (t.map pairD)):vs.length=t.length:=rE r.length (rE (aQ ..) rfl)
theorem abl(k:gj K c)(hr:A.depth<iR){p:Nat→aO}(M:Meth K f fd o5 (HW p))(gF:∀v:ak,jD fd ⟨[v],[]⟩=pure [(("self" :ah),v)])(g:br K U s.heap){t:d6}
  (T:dO K.hc U s.heap a l t) (ht:t.length≤1000000):pQ K.w A U s (call (.ref f) [.ref a]) (t.map pairD):=by
 intro Q E hQ;refine PH M hr g (KW (gF _)) PJ (λx hx=>?_) λenv ai aq F lJ hL=>?_
 ·exact rE (dK.mp hx) HX
 have js:dO K.hc U ai.heap a l t:=T.mono (λa o Z e=>aq.keep a o e) (λZ Z Z n=>n) λZ Z e=>aq.keep _ _ e;refine gq (EA (Ep (KY (lR F.kind (F.look _ _ HX) lJ (by simp[wM]) abk (CU k (g.ext aq) js.inst ?_)))));refine wpAny_Slice (bz (bz (bz ?_)));obtain⟨av,iG⟩:∃av:ay,av={ai with toks:=ai.toks+1,heap:=ai.heap.push {cls:=.type "slice",data:=.fields #[.none,.none,.none]}}:=⟨_,rfl⟩;have aC:Ext ai av:=rE iG (.push)
 refine uY js λo d m vs n TF=>?_;have jI:=aC.keep _ _ TF.jI;have tf:=TF.tf.ext aC;have sl:av.heap.IsSliceOf ai.heap.objs.size .none .none .none:=rE iG (ahy ..)
 show ar _ _ _ _ _ {ai with toks:=ai.toks+1,heap:=ai.heap.push {cls:=.type "slice",data:=.fields #[.none,.none,.none]}};refine rS iG ?_;have L:av.heap.IsList l vs:=⟨_,jI,rfl,_,rfl⟩;have hl:=tf.length;replace hl:=(aQ ..)▸eL▸hl;have e15:aI U av.heap (AS vs af af af).toList (t.map pairD):=by have:=tf.cut af af;rw[← LW vs (by rfl)]at this;exact this
 refine u2 L.typeIs Kg.lookup (Ud (lo:=af) (hi:=af) (st:=af) L sl .none .none .none (by simp) ?_ (by refine rE lu ?_;lia));refine hQ _ _ ((aq.trans aC).trans .push) (jK (aq.trans aC) (eM _)) ⟨_,0,eT _ rfl,?_⟩;exact(B6 (λa k=>k.imp id fun(e:a=av.heap.objs.size)=>e▸eM av.heap) e15).ext (.push (s:=av) (k:=av.toks))
theorem abm:nG=("items" :ah):=by decide+kernel
theorem abn:nG≠gG:=by decide+kernel
theorem abo:qH (.type "object") nG=pure af:=by refine rE abm (rE (qR ..) (rE qS ?_));kernel_rfl
theorem PK(k:gj K c){nm:ah}(M:Meth K f fd ks body)(hf:c.mN nm=aa (.ref f))(bQ:nm≠gG)(hno:qH (.type "object") nm=pure af)(g:br K U s.heap)
  {v:ak}{t:d6} (T:iV K.hc U s.heap v t) {P:ay→cN ak→Prop} (h:∀a l av,Ext s av→dO K.hc U av.heap a l t→P av (call (.ref f) [.ref a])):zu K.w A U s v nm [] P:=by
 refine gy T.open λa l e9 TL=>?_;subst e9
 intro pl Q E hQ;refine CV k g TL.inst bQ M hf hno (hQ (.ref f) [.ref a] s (.refl s) ?_ λvs av aC fA=>?_)
 ·exact gz (M.at g) λo ho Z hd Z=>⟨f,o,fd,rfl,ho,hd⟩
 ·obtain rfl:=fA.sX;exact h a l av aC (TL.mono (λa o Z e=>aC.keep a o e) (λZ Z Z n=>n) λZ Z e=>aC.keep _ _ e)
theorem abp(k:gj K c)(hr:A.depth<iR){p:Nat→aO}(M:Meth K f fd o5 (HW p))(hf:c.mN nG=aa (.ref f))(gF:∀v:ak,jD fd ⟨[v],[]⟩=pure [(("self" :ah),v)])(g:br K U s.heap)
  {v:ak}{t:d6} (T:iV K.hc U s.heap v t) (ht:t.length≤1000000):zu K.w A U s v nG [] λs r=>pQ K.w A U s r (t.map λp=>.tuple [.str p.1,.str p.2]):=
 PK k M hf abn abo g T λZ Z Z x TL=>abl k hr M gF (g.ext x) TL ht
end
noncomputable def Kt.nx(K:Kt)(l:List ah):Kt:={K with X:=⟨l,[],[],[],[],[]⟩,me:=af}
section
variable{K:Kt}{c:lS}
theorem bU.nx(O:bU K){l:List ah}(h:∀x∈l,(x == ("__debug__" :ah))=ag∧(x == ("__classdict__" :ah))=ag):bU (K.nx l) where
 nm:=λx i e=>h x (z0 e)
 nf:=λx i h=>by exact zN h
 nl:=λx i h=>by exact zN h
 fm:=λx i h=>by exact zN h
 gi:=λx i h=>by exact zN h
 len:=O.len
 str:=O.str
 int:=O.int
 sum:=O.sum
 sorted:=O.sorted
 ve:=O.ve
 u7:=O.u7
 range:=O.range
theorem br.nx{h:aP}{l:List ah}(g:br K U h):br (K.nx l) U h:=⟨g.ng,g.ug,g.nb,g.ub,g.fo,g.tok,g.lim,g.ul,g.iU⟩
structure Ent(ks:cT)(binds:List (ah × ak))(s:ay)(env:bF)(ai:ay):Prop where
 fm:PG ks env
 names:env.scope.names=ks
 x:Ext s ai
 bu:jn (λa=>dm env a) env ai.heap
 fresh:∀b,dm env b→s.heap.get? b=af
 vars:∀y v,(y,v)∈binds→fP env ai.heap y v
 frame:env.frame=aa env.locals
theorem abq(kf:ah→Option eC):∀ (bs:List (ah × ak)) (m c:gw),(bs.map (·.1)).Nodup→∀y v,(y,v)∈bs→(kf y=aa .local→bindL kf bs m y=aa v)∧(kf y≠aa .local→bindC kf bs c y=aa v):=by
 intro bs;induction bs with
 |nil=>exact λZ Z Z Z Z h=>nomatch h
 |cons nu r ih=>
  obtain⟨n,u⟩:=nu;intro m c hn y v h;refine xA (uC.mp hn) λh1 h2=>?_;rcases bE.mp h with e|h
  ·injection e with e1 e2
   clear hn;subst e1;subst e2;have PL:∀p∈r,p.1≠y:=λp hp e=>h1 (e▸(fk.mpr ⟨p,hp,rfl⟩:p.1∈r.map (·.1)));refine⟨λk=>?_,λk=>?_⟩
   ·show bindL kf r _ y=_;exact rE (Hh _ _ _ _ PL) (rE (if_pos k) (if_pos rfl))
   ·show bindC kf r _ y=_;exact rE (Hi _ _ _ _ PL) (rE (if_neg k) (if_pos rfl))
  ·exact ih _ _ h2 y v h
theorem PM(M:Meth K f fd ks body)(hr:A.depth<iR)(g:br K U s.heap){args:Args}{P:List (ah × ak)→ay→Prop}(hb:∀ (Q:List (ah × ak)→ay→Prop) (E:aW),(∀binds s',P binds s'→Q binds s')→ar (aw prog K.w) A.in1 (jD fd args) Q E s)
  (hP:∀binds s',P binds s'→Ext s s'∧(binds.map (·.1)).Nodup∧∀x∈binds,ks.lookup x.1=aa .local∨ks.lookup x.1=aa .cell) (hf:ks.all (λp=>p.2 !=.free)) {Q E:aW}
  (h:∀binds aT env ai,P binds aT→Ent ks binds aT env ai→ar (aw prog K.w) (A.deeper env) (oz body env) (λfl s'=>Q (match fl with| .ret v=>v|_=>.none) s') (λe s'=>ar (aw prog K.w) (A.deeper env) (leaving env e) (λZ dh=>E e dh) E s') ai):ar (aw prog K.w) A (call (.ref f) args.pos args.kw) Q E s:=by
 refine gz (M.at g) λo ho Z hd o4=>EC (codeAny_call_function hr ho hd M.co M.gen M.body o4 (hb _ _ λbinds aT hp=>?_));refine mq (hP binds aT hp) λjo hn hl=>?_;have g:=g.ext jo;refine rE M.gD (wpAny_newFunctionEnv_cells M.kind (λx hx=>?_) λenv he s' x=>?_)
 ·refine rE M.names ?_;rcases hl x hx with k|k
  ·exact .inl k
  ·exact .inr ⟨k,zY _ _ _ _ k⟩
 have HY:env.scope.names=ks:=rE he M.names
 have hE:Ext aT s':=lC x.toInCall.same λh tk e=>⟨x.toInCall.keep,by refine rE e ?_;exact λZ Z q=>q,by refine rE e ?_;exact λq=>q,by exact rE e rfl⟩
 have cC:∀b,dm env b→aT.heap.get? b=af:=λb h=>by
  refine EE ?_;rcases h with h| ⟨y,h⟩
  ·exact rE h x.toInCall.fresh
  ·exact d4 (jh x.toInCall.fresh (x.above y b (mem_of_lookup h)))
 have PN:∀y,ks.lookup y=aa .cell→∃cc,env.cells.lookup y=aa cc:=λy k=>by have:=zY fd.scope.names (aT.heap.objs.size+1) [] y (rE M.names k);exact xE (Ei.mp this) λcc e=>⟨cc,by refine rE he ?_;exact e⟩
 have mM:∀y k,ks.lookup y=aa k→env.kindOf y=aa k:=λy k e=>by show env.scope.names.lookup y=_;refine rE HY ?_;exact e
 refine⟨g.lim.keeps x.toInCall.keep,codeAny_func ?_⟩;refine ia (h binds aT env s' hp ⟨⟨by refine rE he ?_;exact M.kind,mM,by refine rE he ?_;exact M.gl,by refine rE he ?_;exact M.bi⟩,HY,hE,⟨⟨.inl rfl,_,x.toInCall.ns⟩,λy cc e=>⟨.inr ⟨y,e⟩,_,x.cell y cc e⟩,λy z cc e1 e2=>Uz x.apart (mem_of_lookup e1) (mem_of_lookup e2),λy k=>?_⟩,cC,λy v hv=>?_,by refine rE he ?_;rfl⟩) (λfl s' q=>q) λZ Z q=>q
 ·have hk:ks.lookup y=aa .cell:=by
   have jJ:env.kindOf y=ks.lookup y:=by show env.scope.names.lookup y=_;exact rE HY rfl
   rcases k with k|k
   ·exact rS jJ k
   ·replace k:=jJ▸k;have:=fj.mp hf (y,.free) (mem_of_lookup k);exact zF this
  exact PN y hk
 ·have pS:=abq env.kindOf binds (λZ=>af) (λZ=>af) hn y v hv;rcases hl (y,v) hv with k|k
  ·exact .inl ⟨mM _ _ k,_,x.toInCall.ns,pS.1 (mM _ _ k)⟩
  ·refine xE (PN y k) λcc e=>?_;have bQ:env.kindOf y≠aa .local:=λq=>by replace q:=mM _ _ k▸q;cases q
   refine .inr ⟨.inl (mM _ _ k),cc,e,?_⟩;have:=x.cell y cc e;rwa [pS.2 bQ]at this
theorem PO(M:Meth K f fd ks body)(hr:A.depth<iR)(g:br K U s.heap){args:Args}{binds:List (ah × ak)}(hb:Bi s fd args binds)(hn:(binds.map (·.1)).Nodup)
  (hl:∀x∈binds,ks.lookup x.1=aa .local∨ks.lookup x.1=aa .cell) (hf:ks.all (λp=>p.2 !=.free)) {Q E:aW}
  (h:∀env ai,Ent ks binds s env ai→ar (aw prog K.w) (A.deeper env) (oz body env) (λfl s'=>Q (match fl with| .ret v=>v|_=>.none) s') (λe s'=>ar (aw prog K.w) (A.deeper env) (leaving env e) (λZ dh=>E e dh) E s') ai):ar (aw prog K.w) A (call (.ref f) args.pos args.kw) Q E s:=
 PM (P:=λb s'=>b=binds∧s'=s) M hr g (λQ E h=>hb _ _ _ _ (h _ _ ⟨rfl,rfl⟩)) (λb s' hp=>by refine xA hp λe9 bC=>?_;subst e9;subst bC;exact⟨.refl _,hn,hl⟩) hf λb aT env ai hp En=>by refine xA hp λe9 bC=>?_;subst e9;subst bC;exact h env ai En
theorem HZ{v:ak}(hk:env.scope.kind=.function)(hv:fP env s.heap x v)(hd:(x == ("__debug__" :ah))=ag∧(x == ("__classdict__" :ah))=ag)(hQ:Q v s):ar (aw prog K.w) A (eval (.Name x p) env) Q E s:=by
 refine yA ?_ hd.1;rcases hv with⟨k,m,n,e⟩| ⟨k|k,c,e1,e2⟩
 ·exact wJ hk k n e hQ
 ·exact A1 hk k e1 e2 hQ
 ·exact A2 hk k e1 e2 hQ hd.2
theorem PQ(h:keyOk x):(mh (sL x)&&aX (sL x).length 1000000):=by refine xA (cg h) λh1 h2=>rE h2 (rE (EH ..) ?_);refine fj.mpr λcc hc=>?_;have:=cg (fj.mp h1 cc hc);have h3:cc<127:=bc this.2;exact bO (yw h3)
theorem abr(h:iy x):iy (aj (da (sL x))):=by
 refine fj.mpr λcc hc=>aD (fk.mp (show cc∈da (sL x)from hc)) λd hd e9=>?_;subst e9;have:=cg (fj.mp h d hd);have h1:=bc this.1;have h2:d<127:=bc this.2;induction q:(aX 65 d&&aX d 90)with
 |false=>show(aX 32 d&&aU d 127);exact rE (bO h1) (bO h2)
 |true=>refine xA (cg q) λq1 q2=>?_;have:=bc q2;show(aX 32 (d+32)&&aU (d+32) 127);exact rE (bO (uG _ _)) (bO (by lia))
theorem abt{o:au}{p1:aO}(hr:recv o)(hl:cH p1 p2)(hx:keyOk x)(h:∀ (Q E:aW),(∀s' t,Ext s s'→Q (.str x t) s')→ar (aw prog K.w) A (eval o env) Q E s)
  (hQ:∀s' t,Ext s s'→Q (.str (aj (da (sL x))) t) s'):ar (aw prog K.w) A (eval (.Call (.Attribute o "lower" p1) [] [] p2) env) Q E s:=by
 refine pP hr hl (bc rfl) rfl (h _ _ λai t aq pl=>?_)
 with_reducible refine GM.lower ?_
 refine uB rfl (Ky ?_);refine L9 (U:=λZ=>False) (d:=.str (aj (da (sL x)))) (.str x t) ?_ _ _ λv av aC rv=>?_
 ·show W.need _ (mh (sL x)&&aX (sL x).length 1000000)=_;refine rE (PQ hx) ?_;rfl
 ·refine xE rv.cQ λZ e9=>?_;subst e9;exact hQ av _ (aq.trans aC)
end
noncomputable def kq:List ah:=["name","kv"]
theorem abu:∀x∈kq,(x == ("__debug__" :ah))=ag∧(x == ("__classdict__" :ah))=ag:=by decide+kernel
noncomputable def CW(p:Nat→aO)(o:Nat)(e:au)(b:Bool):au:=.Call (.Attribute (.Name "self" (p o)) km (p (o+1))) [e] [⟨aa "name",.Constant (.bool b) 0 (p (o+2)),p (o+4)⟩] (p (o+3))
noncomputable def PR(p:Nat→aO)(o:Nat)(e:au):au:=.Call (.Attribute e "lower" (p o)) [] [] (p (o+1))
noncomputable def PS(p:Nat→aO):a9:=.Assign [.Name "name" (p 0)] (CW p 10 (PR p 1 (.Name "name" (p 3))) ae) (p 4)
section
variable{K:Kt}{c:lS}
theorem dO.at{t:d6}(T:dO K.hc U s.heap a l t)(x:Ext s s')(hu:∀a,U' a→U a∨s.heap.get? a=af):dO K.hc U' s'.heap a l t:=
 T.mono (λa o Z e=>x.keep a o e) (λa o e n k=>(hu a k).elim n λq=>by replace q:=e▸q;exact zS q) λZ Z e=>x.keep _ _ e
theorem abv(k:gj K c){Rc:a9}(cv:k8 K fC uW pc Rc)(hf:c.mN km=aa (.ref fC))(O:bU K)(g:br K U s.heap)(ub:UB U s){t:d6}(T:dO K.hc U s.heap a l t)(hx:keyOk x)
  {p:Nat→aO} (nR:cH (p 1) (p 2)) (nT:cH (p 11) (p 13)) {ks:cT}{binds:List (ah × ak)}{env:bF} (hrr:(A.deeper env).depth<iR) {ai:ay} (En:Ent ks binds s env ai) {t₀:mY} (h1:(("self" :ah),yG a)∈binds) (h2:(("name" :ah),Value.str x t₀)∈binds)
  (cm:dz (aV "name" ks)) (hkn:env.kindOf "name" =aa .local∨env.kindOf "name" =aa .cell) {R:dC} (hR:R=oY env λZ=>af) {B:aY} (hB:∀b,B b→U b) {ρ:aM}
  (CX:∀y i d,aZ y kq=aa i→get ρ i=aa (.val d)→(y= "name" ∧d=.str (aj (da (sL x))))∨(y≠ "name" ∧d=.none∧(y,uw)∈binds)) (hv:∀i sl,get ρ i=aa sl→∃d,sl=.val d) {Q:ji→ay→Prop}{E:aW}
  (hQ:∀s',Ext s s'→aN (K.nx kq) B R (λZ=>(0,0)) env [] ρ s'→fP env s'.heap "self" (.ref a)→dO K.hc U s'.heap a l t→Q .next s'):ar (aw prog K.w) (A.deeper env) (exec (PS p) env) Q E ai:=by
 have js:dO K.hc U ai.heap a l t:=T.at En.x λZ h=>.inl h;have dS:(("self" :ah) == ("__debug__" :ah))=ag∧(("self" :ah) == ("__classdict__" :ah))=ag:=by decide+kernel
 have dN:(("name" :ah) == ("__debug__" :ah))=ag∧(("name" :ah) == ("__classdict__" :ah))=ag:=by decide+kernel
 refine oB (HV k cv hf O hrr (g.ext En.x) js.inst nT rfl (abr (cg hx).1) (λQ E h=>HZ En.fm.kind (En.vars _ _ h1) dS h)
  (λQ E h=>abt rfl nR hx (λQ E h=>HZ En.fm.kind (En.vars _ _ h2) dN (h _ _ (.refl _))) λs' t x=>h s' t x) λav Aa aC=>?_)
 have ne1:("self" :ah)≠ "name" :=by decide+kernel
 refine GP (U:=λb=>dm env b) (ks:=ks) En.fm.kind (En.bu.ext aC) cm hkn λaR xJ tA abw PT=>?_;have bx:Ext s aR:=(tA.mv (G:=λZ=>False)).ext (En.x.trans aC) (λb h=>En.fresh b (mE h)) λZ h=>h.elim;have H0:∀b,R b≠af→dm env b:=λb h=>by
  by_cases q:dm env b
  ·exact q
  ·exact(h (rE hR (rE (tL q) rfl))).elim
 have PU:∀b,dm env b→R b=aa .frame:=λb h=>by refine rE hR ?_;exact rE (Hj h) rfl
 have cC:∀b,UU R B b→U b∨s.heap.get? b=af:=λb h=>h.elim (λh=>.inr (En.fresh b (H0 b h))) λh=>.inl (hB b h);have fU:∀b,dm env b→UU R B b:=λb h=>.inl (gE (PU b h));refine hQ aR bx ⟨(g.mono (λa o Z e=>bx.keep a o e) λb o e n h=>(cC b h).elim n λq=>by replace q:=e▸q;exact zS q).nx,λb h=>?_,En.fm.kind,En.fm.gl,En.fm.bi,⟨⟨fU _ (.inl rfl),xJ.loc.2⟩,λy cc e=>⟨fU _ (.inr ⟨y,e⟩),(xJ.fQ y cc e).2⟩,xJ.inj,xJ.has⟩,λb h=>?_,PU,
  λy i sl e1 e2 e3=>?_,λj t e=>(zN e),λe l h=>nomatch h⟩ (PT _ _ ne1 ((En.vars _ _ h1).ext aC)) (T.at bx λZ h=>.inl h)
 ·rcases h with h|h
  ·rcases H0 b h with rfl| ⟨y,e⟩
   ·obtain⟨m,⟨o,_,_,e,_⟩⟩:=xJ.loc.2;exact⟨o,e⟩
   ·exact gy ((xJ.fQ y b e).2) λv o e' Z=>⟨o,e'⟩
  ·exact xE (ub b (hB b h)) λo e=>⟨o,bx.keep _ _ e⟩
 ·induction q:R b with
  |none=>rfl
  |some r=>refine xE (ub b (hB b h)) λo e=>?_;exact zN (En.fresh b (H0 b (by refine rE q ?_;exact λq=>by exact zS q))▸e)
 ·refine xE (hv i _ e2) λd e9=>?_;subst e9;rcases CX y i d e1 e2 with⟨rfl,rfl⟩| ⟨hy,rfl,hm⟩
  ·exact⟨_,abw,.str _ _⟩
  ·exact⟨_,PT _ _ hy ((En.vars _ _ hm).ext aC),.none⟩
theorem PW(k:gj K c)(hh:A.handled=af)(g:br K U s.heap){t:d6}(T:dO K.hc U s.heap a l t)(hU:∀b,U' b→U b∨s.heap.get? b=af)(hl:¬U' l)(hk:env.scope.kind=.function)(hv:fP env s.heap "self" (.ref a)){p1:aO}:
  zB K.w A U' s (eval (.Attribute (.Name "self" p1) gG p2) env) (t.map pairD):=by
 intro Q E hQ;have dS:(("self" :ah) == ("__debug__" :ah))=ag∧(("self" :ah) == ("__classdict__" :ah))=ag:=by decide+kernel
 refine KY (HZ hk hv dS (CU k g T.inst (hQ _ _ .tok λav aC=>?_)));have x:Ext s av:=(Ext.tok (k:=s.toks+1)).trans aC;obtain⟨o,d,m,vs,n,TF⟩:=(T.at (U':=U') x hU);exact MV hh x TF.jI hl TF.tf
end
noncomputable def tX:Cx:=⟨kq,[],[],[],[],[]⟩
section
variable{K:Kt}{c:lS}
theorem abx{K:Kt}{o:au}{ra:RE}{p1:aO}(hr:recv o)(hl:cH p1 p2)(ho:bg K C A ks o ra):bg K C A ks (.Call (.Attribute o "lower" p1) [] [] p2) (.prim .lower (.cons ra .nil)):=by
 refine MP (id:= "str.lower") hr hl rfl ho .nil (λU s v x xs d rv hx ao pl Q E hQ=>?_) λU s v x vs xs d hu rv fA hlen ao=>?_
 ·obtain rfl:xs=[]:=wF hx;have ao:=(ao:EZ x=aa (d,ae));refine aD (nF ao) λy e9 Z=>?_;subst e9;refine xE rv.cQ λZ e9=>?_;subst e9;with_reducible exact GM.lower hQ
 ·obtain rfl:xs=[]:=wF hlen;obtain rfl:=fA.sX;exact L9 rv ao
theorem br.PX{h:aP}{l:List ah}(g:br (K.nx l) U h):br K U h:=⟨g.ng,g.ug,g.nb,g.ub,g.fo,g.tok,g.lim,g.ul,g.iU⟩
end
noncomputable def vO:List (ah × eC):=[("self",.local),("name",.cell)]
noncomputable def kr:List (ah × eC):=[(".0",.local),("kv",.local),("name",.free)]
noncomputable def PY(p:Nat→aO):au:=.Subscript (.Name "kv" (p 20)) (.Constant (.int 1) 0 (p 21)) (p 22)
noncomputable def H2(p:Nat→aO):au:=.Compare (PR p 27 (.Subscript (.Name "kv" (p 24)) (.Constant (.int 0) 0 (p 25)) (p 26))) [.Eq] [.Name "name" (p 29)] (p 30)
noncomputable def H5(p:Nat→aO)(sc:mZ):List a9:=
 [PS p,.Return (aa (.ListComp (PY p) [⟨.Name "kv" (p 23),.Attribute (.Name "self" (p 31)) gG (p 32),[H2 p],0⟩] sc (p 33))) (p 34)]
theorem aby(p:aO):nameId tX kr (.Name "kv" p)=aa 1:=by
 have h1:d8 (aV "kv" kr):=by kernel_rfl
 have h2:aZ "kv" kq=aa 1:=by kernel_rfl
 show cond (d8 (aV "kv" kr)) (aZ "kv" kq) af=_;refine rE h1 (rE h2 ?_);rfl
theorem abz:tc tX kr "name" =aa (.var 0):=by kernel_rfl
theorem abA(p:aO):jm tX kr (.Name "kv" p)=aa (.one 1):=by
 have h1:dz (aV "kv" kr):=by kernel_rfl
 have h2:aZ "kv" kq=aa 1:=by kernel_rfl
 have e:kR tX kr (.Name "kv" p)=aa 1:=by show cond (dz (aV "kv" kr)) (aZ "kv" kq) af=_;refine rE h1 (rE h2 ?_);rfl
 unfold jm;exact rE e rfl
noncomputable def vP:RE:=.cmp (.prim .lower (.cons (.aG 1 (.lit (.int 0))) .nil)) (.cons .eq (.var 0) .nil)
noncomputable def vQ:RE:=.aG 1 (.lit (.int 1))
section
variable{K:Kt}{c:lS}
theorem PZ(O:bU (K.nx kq)){r:aO}{i:Int}:bg (K.nx kq) C A kr (.Subscript (.Name "kv" p) (.Constant (.int i) 0 q) r) (.aG 1 (.lit (.int i))):=by refine MI (F:=λZ=>af) O (λra h=>nomatch h) (snd_const rfl) ?_;show xe tX kr (.Name "kv" p) af _=_;unfold xe;exact rE (aby ..) rfl
theorem abB(O:bU (K.nx kq))(R:∃n,bW A n){p:Nat→aO}(hl:cH (p 27) (p 28)):bg (K.nx kq) C A kr (H2 p) vP:=
 F1 R (abx rfl hl (PZ O)) (.cons (op:=.eq) (ops:=[]) (λZ=>rfl) (xj O abz) .nil)
theorem abC{y k v:ah}(h0:get ρ 0=aa (.val (.str y)))(hk:keyOk k):
  rI {K with tk:=tk} C hs (.one 1) (.cons vP .nil) .nil vQ ρ (pairD (k,v))=aa (cond (lEq (da (sL k)) (sL y)) [.str v] [],ae):=by
 have g0:get (put ρ 1 (.val (pairD (k,v)))) 0=aa (.val (.str y)):=by rw[fR _ (by decide)];exact h0
 have g4:get (put ρ 1 (.val (pairD (k,v)))) 1=aa (.val (pairD (k,v))):=kW _ _ _;show W.bind (oJ tk C hs (.cons vP .nil) (put ρ 1 (.val (pairD (k,v))))) (λb=>cond b (w5 tk C hs .nil (λρ'=>ev tk C hs vQ ρ') (put ρ 1 (.val (pairD (k,v))))) (W.ret []))=_;generalize put ρ 1 (.val (pairD (k,v)))=ρ' at g0 g4;have hl:gQ .lower [.str k]=aa (.str (aj (da (sL k))),ae):=by show W.need _ (mh (sL k)&&aX (sL k).length 1000000)=_;refine rE (PQ hk) ?_;rfl
 have s0:kK (pairD (k,v)) (.int 0)=aa (.str k,ae):=rfl;have s1:kK (pairD (k,v)) (.int 1)=aa (.str v,ae):=rfl;have e1:ev tk C hs vP ρ'=aa (.bool (lEq (da (sL k)) (sL y)),ae):=cS (aaq (dp g4 rfl s0) hl) (aA g0) rfl
 have e2:ev tk C hs vQ ρ'=aa (.str v,ae):=dp g4 rfl s1;induction q:lEq (da (sL k)) (sL y)with
 |true=>replace e1:=q▸e1;exact W.aS (b:=[uA v]) (W.aS e1 rfl) (show W.bind (ev tk C hs vQ ρ') (λx=>W.ret [x])=_ from W.aS e2 rfl)
 |false=>replace e1:=q▸e1;exact W.aS (b:=[]) (W.aS e1 rfl) rfl
theorem abD{y:ah}{x:ax}(hy:sL y=da x)(h0:get ρ 0=aa (.val (.str y))):∀ (t:d6),(∀p∈t,keyOk p.1)→
  lA (rI {K with tk:=tk} C hs (.one 1) (.cons vP .nil) .nil vQ ρ) (t.map pairD)=aa (f9 t x,ae):=by
 intro L0;induction L0 with
 |nil=>intro hk;exact rfl
 |cons cx t ih=>obtain⟨k,v⟩:=cx;intro hk;have h1:=abC (K:=K) (C:=C) (tk:=tk) (hs:=hs) (v:=v) h0 (hk (k,v) bG);have h2:=ih λp hp=>hk p (cf _ hp);show W.bind (rI _ _ _ _ _ _ _ _ (pairD (k,v))) (λys=>W.bind (lA _ (t.map pairD)) λzs=>W.ret (ys++zs))=_;refine rE h1 (rE h2 (rE hy ?_));have hf:f9 ((k,v)::t) x=cond (lEq (da (sL k)) (da x)) (.str v::f9 t x) (f9 t x):=rfl;refine rE hf ?_;cases lEq (da (sL k)) (da x)<;>rfl
theorem abE:∀ (t:d6) (x:ax),(f9 t x).length≤t.length:=by
 intro L0;induction L0 with
 |nil=>intro x;exact bZ _
 |cons cx t ih=>
  obtain⟨k,v⟩:=cx;intro x;show(cond _ _ _:List D).length≤_;induction lEq (da (sL k)) (da x)with
  |true=>exact m4 (ih x)
  |false=>exact Ba (ih x)
theorem abF:∀ (t:d6) (x:ax),∀d∈f9 t x,∃y,d=.str y:=by
 intro L0;induction L0 with
 |nil=>intro x d h;exact nomatch h
 |cons cx t ih=>
  obtain⟨k,v⟩:=cx;intro x d h;have h:=(show d∈(cond (lEq (da (sL k)) (da x)) (.str v::f9 t x) (f9 t x):List D)from h);induction q:lEq (da (sL k)) (da x)with
  |true=>
   replace h:=q▸h;rcases bE.mp h with h|h
   ·exact⟨v,h⟩
   ·exact ih x d h
  |false=>replace h:=q▸h;exact ih x d h
theorem aI.P1{h:aP}(vs:List ak)(ds:List D)(hd:∀d∈ds,∃y,d=.str y)(r:aI U h vs ds):aI U' h' vs ds:=
 r.ind (P:=λvs ds=>(∀d∈ds,∃y,d=.str y)→aI U' h' vs ds) (λZ=>.nil) (λv Z d Z a Z ih hd=>.cons (by refine xE (hd d bG) λy e9=>?_;subst e9;refine xE a.cQ λt e9=>?_;subst e9;exact .str _ _) (ih λd h=>hd d (cf _ h))) hd
theorem H6:vO.lookup ("self" :ah)=aa .local∧vO.lookup ("name" :ah)=aa .cell:=by decide+kernel
theorem abG(k:gj K c){Rc:a9}(cv:k8 K fC uW pc Rc)(jP:c.mN km=aa (.ref fC))(O:bU K)(hr:∃n,bW A (n+1)){p:Nat→aO}{sc:mZ}(M:Meth K f fd vO (H5 p sc))
  (fb:sc.names=kr) (vR:sc.kind=.function) (gF:∀v u:ak,jD fd ⟨[v,u],[]⟩=pure [(("self" :ah),v),(("name" :ah),u)]) (nR:cH (p 1) (p 2)) (nT:cH (p 11) (p 13)) (xK:cH (p 27) (p 28))
  (g:br K U s.heap) (ub:UB U s) {a l:aE}{t:d6} (T:dO K.hc U s.heap a l t) {x:ah}{t₀:mY} (hx:keyOk x) (ht:qX t):Gv K.w A U s (call (.ref f) [.ref a,.str x t₀]) (.list (f9 t (sL x))):=by
 intro Q E hQ;refine xE hr λrn fc=>?_;have o6:A.depth<iR:=by have:=fc.depth;lia
 refine PO (binds:=[(("self" :ah),.ref a),(("name" :ah),.str x t₀)]) M o6 g (KW (gF _ _)) (show UQ [("self" :ah),"name"]by decide+kernel) (λy hy=>?_) (by decide+kernel) λenv ai En=>?_
 ·simp only[bE,sM,or_false]at hy;rcases hy with rfl|rfl
  ·exact .inl H6.1
  ·exact .inr H6.2
 have hd:=fc.deeper (env:=env);refine xA (cg ht) λht1 ht2=>?_;have mf:∀p∈t,keyOk p.1:=λp hp=>fj.mp ht1 p hp;obtain⟨ρ,CX⟩:∃ρ:aM,ρ=[(0,.val (.str (aj (da (sL x)))))]:=⟨_,rfl⟩;have tF:dg vO env:=λy kk e=>.inl (En.fm.look y kk (by replace e:=(vt ..)▸e;exact e));have CY:∀i sl,get ρ i=aa sl→i=0∧sl=.val (.str (aj (da (sL x)))):=λi sl h=>by
  replace h:=CX▸h
  match i,h with
  |0,h=>replace h:=iJ h;subst h;exact⟨rfl,rfl⟩
 obtain⟨R,hR⟩:∃R:dC,R=oY env λZ=>af:=⟨_,rfl⟩;refine gq (abv k cv jP O g ub T hx nR nT (by have:=hd.depth;lia) En (t₀:=t₀) bG (cf _ bG) (by kernel_rfl) (.inr (En.fm.look _ _ H6.2)) hR (B:=λb=>U b∧b≠l) (λb h=>h.1) (ρ:=ρ) (λy i d e1 e2=>?_) (λi sl h=>?_) λaR bx I abH aiE=>?_)
 ·refine xA (CY i _ e2) λe9 h=>?_;subst e9;cases h;exact .inl ⟨tq e1 (by kernel_rfl),rfl⟩
 ·exact⟨_,(CY i sl h).2⟩
 have fresh:∀b,R b≠af→s.heap.get? b=af:=λb h=>En.fresh b (by
  by_cases q:dm env b
  ·exact q
  ·exact(h (rE hR (rE (tL q) rfl))).elim)
 have iD:fB kq kr=[1]:=by kernel_rfl
 have jE:ev K.tk (λZ Z=>af) [] (.comp (fB kq sc.names) (.one 1) (.data (.lit (.list (t.map pairD)))) (.cons vP .nil) .nil vQ) ρ=aa (.list (f9 t (sL x)),ae):=by
  refine rE fb (rE iD ?_);have h1:=abD (K:=K) (C:=λZ Z=>af) (tk:=K.tk) (hs:=[]) (y:=aj (da (sL x))) (x:=sL x) rfl (ρ:=rem [1] ρ) (by refine rE (CX) ?_;rfl) t mf;have h2:∀m:W (List D),m=aa (f9 t (sL x),ae)→W.bind (W.ret (t.map pairD)) (λZ=>W.bind m λxs=>W.need (dQ xs) (aX xs.length 1000000))=aa (.list (f9 t (sL x)),ae):=λm h=>by refine rE h ?_;have:aX (f9 t (sL x)).length 1000000:=bO (aF (abE t (sL x)) (bc ht2));exact W.aS rfl (W.aS rfl (by refine rE this ?_;rfl))
  exact h2 _ h1
 refine gq (EA ?_);show ar _ _ (A9 (.ListComp (PY p) (⟨.Name "kv" (p 23),.Attribute (.Name "self" (p 31)) gG (p 32),[H2 p],0⟩::[]) sc (p 33)) sc env (Expr.pos (.Attribute (.Name "self" (p 31)) gG (p 32))) (newList []) ag (eval (.Attribute (.Name "self" (p 31)) gG (p 32)) env) af) _ _ aR;have O':=O.nx abu;refine Gr (K:=K.nx kq) (C:=λZ Z=>af) (ks:=vO) (ri:=.data (.lit (.list (t.map pairD)))) (rgs:=.nil) hd.handled vR (by refine rE fb ?_;kernel_rfl) (by refine rE fb ?_;kernel_rfl) tF I.e (rE fb (abA _)) (λZ=>rfl) (λxs mC=>?_) (ris:=.cons vP .nil) (rE fb (.cons rfl (abB O' ⟨rn,hd⟩ xK) .nil)) .nil (relt:=vQ) (rE fb (PZ O'))
  (by decide) (by refine rE fb ?_;show ∀i∈[1],i∈fB kq kr;refine rE iD ?_;exact λZ h=>h) jE (use:=af) λcq Dl Cn j9 hC hD hn r=>?_
 ·obtain rfl:t.map pairD=xs:=W.bp (mC:W.ret (t.map pairD)=_);have abI:dO K.hc (UU R λb=>U b∧b≠l) aR.heap a l t:=T.at bx λb h=>by
   rcases(h:R b≠af∨(U b∧b≠l))with h|h
   ·exact .inr (fresh b h)
   ·exact .inl h.1
  refine PW k hd.handled I.bH.PX abI (λb h=>.inl h) (λh=>?_) En.fm.kind abH;rcases(h:R l≠af∨(U l∧l≠l))with h|h
  ·refine uY T λo d m vs n TF=>?_;have jI:=TF.jI;exact zN (fresh l h▸jI)
  ·exact h.2 rfl
 refine xE hn λm hn=>⟨m,hn,λh' hs'=>hQ _ _ ⟨λb o e=>?_,λgg o e=>j9.gens gg o (bx.gens gg o e),λe=>j9.bare (bx.bare e),j9.os.trans bx.os⟩ ?_⟩
 ·have e3:=bx.keep b o e;exact(hs'.2 b λq=>by subst q;replace e3:=hC▸e3;exact zN e3).trans (j9.keep b o e3)
 ·cases r with
  |list hl hu r=>refine .list ((hs'.2 Dl λq=>hu (.inr q)).trans hl) (λh=>?_) (aI.P1 _ _ (abF t (sL x)) r);exact xE (ub Dl h) λo e=>zS (bx.keep _ _ e▸hD)
theorem abJ:pM≠gG:=by decide+kernel
theorem abK:pM=("get_all" :ah):=by decide+kernel
theorem abL:qH (.type "object") pM=pure af:=by refine rE abK (rE (qR ..) (rE qS ?_));kernel_rfl
theorem abM(k:gj K c){Rc:a9}(cv:k8 K fC uW pc Rc)(jP:c.mN km=aa (.ref fC))(O:bU K)(hr:∃n,bW A (n+1)){p:Nat→aO}{sc:mZ}(M:Meth K f fd vO (H5 p sc))(hf:c.mN pM=aa (.ref f))
  (fb:sc.names=kr) (vR:sc.kind=.function) (gF:∀v u:ak,jD fd ⟨[v,u],[]⟩=pure [(("self" :ah),v),(("name" :ah),u)]) (nR:cH (p 1) (p 2)) (nT:cH (p 11) (p 13)) (xK:cH (p 27) (p 28))
  (g:br K U s.heap) (ub:UB U s) {v:ak}{t:d6} (T:iV K.hc U s.heap v t) {x:ah} (hx:keyOk x) (ht:qX t):tj K.w A U s v pM [.str x] (.list (f9 t (sL x))):=by
 refine gy T.open λa l e9 TL=>?_;subst e9
 intro pl Q E hQ;refine CV k g TL.inst abJ M hf abL (hQ (.ref f) [.ref a] s (.refl s) ?_ λvs av aC fA=>?_)
 ·exact gz (M.at g) λo ho Z hd Z=>⟨f,o,fd,rfl,ho,hd⟩
 ·clear hQ E Q pl hf;refine aD (nN fA) λu e9 ru=>?_;subst e9;clear fA;refine xE ru.cQ λZ e9=>?_;subst e9;exact abG k cv jP O hr M fb vR gF nR nT xK (g.ext aC) (ub.ext aC) (TL.at aC λZ h=>.inl h) hx ht
noncomputable def o7:List ah:=["k","v"]
theorem abN:∀x∈o7,(x == ("__debug__" :ah))=ag∧(x == ("__classdict__" :ah))=ag:=by decide+kernel
noncomputable def xM:Cx:=⟨o7,[],[],[],[],[]⟩
noncomputable def k9:List (ah × eC):=[(".0",.local),("k",.local),("v",.local)]
noncomputable def H7(p:Nat→aO)(sc:mZ):List a9:=
 [.Return (aa (.ListComp (.Name "k" (p 0)) [⟨.Tuple [.Name "k" (p 1),.Name "v" (p 2)] 0 (p 3),.Attribute (.Name "self" (p 4)) gG (p 5),[],0⟩] sc (p 6))) (p 7)]
theorem kyN:tc xM k9 "k" =aa (.var 0):=by kernel_rfl
theorem kyK:dz (aV "k" k9)∧dz (aV "v" k9)∧aZ "k" o7=aa 0∧aZ "v" o7=aa 1:=by refine⟨?_,?_,?_,?_⟩<;>kernel_rfl
theorem abO(p q r:aO)(n:Nat):jm xM k9 (.Tuple [.Name "k" p,.Name "v" q] n r)=aa (.two 0 1):=by
 refine yX kyK λh1 h2 h3 h4=>?_;have e1:kR xM k9 (.Name "k" p)=aa 0:=by show cond (dz (aV "k" k9)) (aZ "k" o7) af=_;refine rE h1 (rE h3 ?_);rfl
 have e2:kR xM k9 (.Name "v" q)=aa 1:=by show cond (dz (aV "v" k9)) (aZ "v" o7) af=_;refine rE h2 (rE h4 ?_);rfl
 show(kR xM k9 (.Name "k" p)).bind (λi=>(kR xM k9 (.Name "v" q)).bind λj=>cond (az i j) af (aa (jj.two i j)))=_;refine rE e1 (rE e2 ?_);rfl
theorem abP(t:d6):lA (rI {K with tk:=tk} C hs (.two 0 1) .nil .nil (.var 0) []) (t.map pairD)=aa (t.map λp=>.str p.1,ae):=by
 induction t with
 |nil=>rfl
 |cons kv t ih=>show W.bind (rI _ _ _ _ _ _ _ _ (pairD kv)) (λys=>W.bind (lA _ (t.map pairD)) λzs=>W.ret (ys++zs))=_;refine rE ih ?_;rfl
theorem aiF:∀x∈o5,x.2≠.cell:=PJ
theorem abQ(k:gj K c)(O:bU K)(hr:∃n,bW A (n+1)){p:Nat→aO}{sc:mZ}(M:Meth K f fd o5 (H7 p sc))(fb:sc.names=k9)(vR:sc.kind=.function)(gF:∀v:ak,jD fd ⟨[v],[]⟩=pure [(("self" :ah),v)])
  (g:br K U s.heap) (ub:UB U s) {a l:aE}{t:d6} (T:dO K.hc U s.heap a l t) (ht:t.length≤1000000):Gv K.w A U s (call (.ref f) [.ref a]) (.list (t.map λp=>.str p.1)):=by
 intro Q E hQ;refine xE hr λrn fc=>?_;have o6:A.depth<iR:=by have:=fc.depth;lia
 refine PO (binds:=[(("self" :ah),.ref a)]) M o6 g (KW (gF _)) (show UQ [("self" :ah)]by decide+kernel) (λy hy=>.inl ?_) (by decide+kernel) λenv ai En=>?_
 ·exact rE (dK.mp hy) HX
 have hd:=fc.deeper (env:=env);have tF:dg o5 env:=λy kk e=>.inl (En.fm.look y kk (by replace e:=(vt ..)▸e;exact e));obtain⟨V,hV⟩:∃V:aY,∀b,V b↔(dm env b∨(U b∧b≠l)):=⟨_,λZ=>A8⟩;have live:∀b,V b→U b∨s.heap.get? b=af:=λb h=>((hV b).mp h).elim (λh=>.inr (En.fresh b h)) λh=>.inl h.1;have I:bJ (K.nx o7) V env [] [] ai:=by
  refine⟨(g.mono (λa o Z e=>En.x.keep a o e) λb o e n h=>(live b h).elim n λq=>by replace q:=e▸q;exact zS q).nx,λb h=>?_,En.fm.kind,En.fm.gl,En.fm.bi,⟨⟨(hV _).mpr (.inl (.inl rfl)),En.bu.loc.2⟩,λy cc e=>⟨(hV _).mpr (.inl (.inr ⟨y,e⟩)),(En.bu.fQ y cc e).2⟩,En.bu.inj,En.bu.has⟩,λx i sl Z h=>by exact zN h⟩;rcases(hV b).mp h with(rfl| ⟨y,e⟩)|h
  ·obtain⟨m,⟨o,_,_,e,_⟩⟩:=En.bu.loc.2;exact⟨o,e⟩
  ·exact gy ((En.bu.fQ y b e).2) λv o e' Z=>⟨o,e'⟩
  ·exact xE (ub b h.1) λo e=>⟨o,En.x.keep _ _ e⟩
 have iD:fB o7 k9=[0,1]:=by kernel_rfl
 have jE:ev K.tk (λZ Z=>af) [] (.comp (fB o7 sc.names) (.two 0 1) (.data (.lit (.list (t.map pairD)))) .nil .nil (.var 0)) []=aa (.list (t.map λp=>.str p.1),ae):=by
  refine rE fb (rE iD ?_);have h1:=abP (K:=K) (C:=λZ Z=>af) (tk:=K.tk) (hs:=[]) t;have h2:∀m:W (List D),m=aa (t.map λp=>.str p.1,ae)→W.bind (W.ret (t.map pairD)) (λZ=>W.bind m λxs=>W.need (dQ xs) (aX xs.length 1000000))=aa (.list (t.map λp=>.str p.1),ae):=λm h=>by
   refine rE h ?_;have:aX (t.map λp:ah × ah=>uA p.1).length 1000000:=rE (aQ ..) (bO ht)
   exact W.aS rfl (W.aS rfl (by refine rE this ?_;rfl))
  exact h2 _ h1
 refine gq (EA ?_);show ar _ _ (A9 (.ListComp (.Name "k" (p 0)) (⟨.Tuple [.Name "k" (p 1),.Name "v" (p 2)] 0 (p 3),.Attribute (.Name "self" (p 4)) gG (p 5),[],0⟩::[]) sc (p 6)) sc env (Expr.pos (.Attribute (.Name "self" (p 4)) gG (p 5))) (newList []) ag (eval (.Attribute (.Name "self" (p 4)) gG (p 5)) env) af) _ _ ai;have O':=O.nx abN;refine Gr (K:=K.nx o7) (C:=λZ Z=>af) (ks:=o5) (ri:=.data (.lit (.list (t.map pairD)))) (rgs:=.nil) hd.handled vR (by refine rE fb ?_;kernel_rfl) (by refine rE fb ?_;kernel_rfl) tF I (rE fb (abO _ _ _ _)) (λZ=>rfl) (λxs mC=>?_) (ris:=.nil) .nil .nil (relt:=.var 0) (rE fb (xj O' kyN))
  (by decide) (by refine rE fb ?_;show ∀i∈[0,1],i∈fB o7 k9;refine rE iD ?_;exact λZ h=>h) jE (use:=af) λcq Dl Cn j9 hC hD hn r=>?_
 ·obtain rfl:t.map pairD=xs:=W.bp (mC:W.ret (t.map pairD)=_);refine PW k hd.handled I.bH.PX (T.at (U':=V) En.x live) (λb h=>.inl h) (λh=>?_) En.fm.kind (En.vars _ _ bG);rcases(hV l).mp h with h|h
  ·refine uY T λo d m vs n TF=>?_;have jI:=TF.jI;exact zN (En.fresh l h▸jI)
  ·exact h.2 rfl
 refine xE hn λm hn=>⟨m,hn,λh' hs'=>hQ _ _ ⟨λb o e=>?_,λgg o e=>j9.gens gg o (En.x.gens gg o e),λe=>j9.bare (En.x.bare e),j9.os.trans En.x.os⟩ ?_⟩
 ·have e3:=En.x.keep b o e;exact(hs'.2 b λq=>by subst q;replace e3:=hC▸e3;exact zN e3).trans (j9.keep b o e3)
 ·cases r with
  |list hl hu r=>refine .list ((hs'.2 Dl λq=>hu (.inr q)).trans hl) (λh=>?_) (aI.P1 _ _ (λd h=>by refine aD (fk.mp h) λq Z e9=>?_;subst e9;exact⟨_,rfl⟩) r);exact xE (ub Dl h) λo e=>zS (En.x.keep _ _ e▸hD)
theorem abR:rt≠gG:=by decide+kernel
theorem abS:qH (.type "object") rt=pure af:=by refine rE (show rt=("keys" :ah)by decide+kernel) (rE (qR ..) (rE qS ?_));kernel_rfl
theorem abT(k:gj K c)(O:bU K)(hr:∃n,bW A (n+1)){p:Nat→aO}{sc:mZ}(M:Meth K f fd o5 (H7 p sc))(hf:c.mN rt=aa (.ref f))(fb:sc.names=k9)(vR:sc.kind=.function)(gF:∀v:ak,jD fd ⟨[v],[]⟩=pure [(("self" :ah),v)])
  (g:br K U s.heap) (ub:UB U s) {v:ak}{t:d6} (T:iV K.hc U s.heap v t) (ht:t.length≤1000000):tj K.w A U s v rt [] (.list (t.map λp=>.str p.1)):=
 PK k M hf abR abS g T λZ Z Z x TL=>abQ k O hr M fb vR gF (g.ext x) (ub.ext x) TL ht
end
noncomputable def Ab:List (ah × eC):=[("self",.local),("_name",.local),("_value",.local),("_params",.local),("parts",.local),("k",.local),("v",.local),("_formatparam",.globalImplicit)]
noncomputable def abU(p:Nat→aO):a9:=
 .If (.Compare (.Name "_value" (p 3)) [.IsNot] [.Constant .none 0 (p 4)] (p 5)) [.Assign [.Name "_value" (p 6)] (CW p 10 (.Name "_value" (p 7)) ag) (p 8),.Expr (.Call (.Attribute (.Name "parts" (p 16)) "append" (p 17)) [.Name "_value" (p 18)] [] (p 19)) (p 20)] [] (p 21)
noncomputable def abV(p:Nat→aO)(FB:List a9):a9:=.For (.Tuple [.Name "k" (p 22),.Name "v" (p 23)] 0 (p 24)) (.Call (.Attribute (.Name "_params" (p 25)) "items" (p 26)) [] [] (p 27)) FB [] (p 28)
noncomputable def CZ(p:Nat→aO):a9:=
 .Expr (.Call (.Attribute (.Attribute (.Name "self" (p 29)) gG (p 30)) "append" (p 31)) [.Tuple [CW p 32 (.Name "_name" (p 37)) ae,.Call (.Attribute (.Constant (.str "; ") 0 (p 38)) "join" (p 39)) [.Name "parts" (p 40)] [] (p 41)] 0 (p 42)] [] (p 43)) (p 44)
noncomputable def H8(p:Nat→aO)(FB:List a9):List a9:=[.Assign [.Name "parts" (p 0)] (.List [] (p 1)) (p 2),abU p,abV p FB,CZ p]
theorem abW:∀x,x∈([("self",()),("_name",()),("_value",()),("_params",()),("parts",()),("k",()),("v",())]:List (ah × Unit))→Ab.lookup x.1=aa .local:=by decide+kernel
theorem P2:∀x∈(["self","_name","_value","_params","parts"]:List ah),(x == ("__debug__" :ah))=ag:=by decide+kernel
section
variable{K:Kt}{c:lS}
structure lT(s:ay)(env:bF)(m:gw)(s':ay):Prop where
 x:Ext s s'
 ns:s'.heap.Ns env.locals m
 fr:s.heap.get? env.locals=af
theorem lT.ext{m:gw}{av:ay}(F:lT s env m ai)(y:Ext ai av):lT s env m av:=⟨F.x.trans y,F.ns.keeps y.keep,F.fr⟩
theorem lT.store{m:gw}(F:lT s env m ai)(hk:env.scope.kind=.function){y:ah}{v:ak}(hl:env.kindOf y=aa .local){Q:Unit→ay→Prop}
  (hQ:∀s',lT s env (λz=>if z=y then aa v else m z) s'→Mv (λa=>a=env.locals) (λZ=>False) ai s'→Q () s'):ar (aw prog K.w) A (qN env y v) Q E ai:=by
 refine Et (hp:=by refine rE hk ?_;rfl) hl F.ns λh' hn cB=>?_;have mv:Mv (λa=>a=env.locals) (λZ=>False) ai {ai with heap:=h',toks:=ai.toks+1}:=⟨λa o n e=>(cB.2 a n).trans e,λZ Z Z e=>e,λe=>e,rfl⟩;exact hQ _ ⟨mv.ext F.x (λa h=>h▸F.fr) λZ h=>h.elim,hn,F.fr⟩ mv
theorem lT.write{m:gw}(F:lT s env m ai){P:aE}(hP:s.heap.get? P=af)(bQ:P≠env.locals)(cB:yH P ai.heap h'):lT s env m {ai with heap:=h'}:=by have mv:Mv (λa=>a=P) (λZ=>False) ai {ai with heap:=h'}:=⟨λa o n e=>(cB.2 a n).trans e,λZ Z Z e=>e,λe=>e,rfl⟩;refine⟨mv.ext F.x (λa h=>h▸hP) λZ h=>h.elim,?_,F.fr⟩;exact fu F.ns λo es ep e r=>⟨o,es,ep,(cB.2 _ λq=>bQ q.symm).trans e,r⟩
theorem UR{o e:au}{p1:aO}{P:aE}(u9:Uo o "append" env (eval o env)=eval o env)(hl:cH p1 p2)(hs:nH e=ag)
  (h1:∀ (Q E:aW),(∀s',Ext s s'→(∃vs n,s'.heap.get? P=aa (cy vs n))→Q (.ref P) s')→ar (aw prog K.w) A (eval o env) Q E s)
  {Q E:aW} (h2:∀s',Ext s s'→ar (aw prog K.w) A (eval e env) (λv dh=>ar (aw prog K.w) A (call (.builtin "list.append") [.ref P,v]) Q E dh) E s'):
  ar (aw prog K.w) A (eval (.Call (.Attribute o "append" p1) [e] [] p2) env) Q E s:=by
 have zq:methodCallForm ([e].length+([]:List Ej).length) (gJ p2 (fZ [e] env)) (backToKw p2 (keywordEach [] env)):=by refine rE (mB hs) ?_;rfl
 have zr:(p1.endLine == p2.line):=rE (fY hl) (beq_self_eq_true _)
 have zt:A3 ae o env p1 p2=pure p2:=by unfold A3;simp[zr]
 refine rE (Ur ..) (rE u9 ?_);refine aB (h1 _ _ λai aq hP=>aB (kI ?_));unfold methodCall;refine rE zq (aB (jg ?_));unfold calleeOf;refine rE (if_pos rfl) (lC hP λvs n hP=>getMethod_list_append hP rfl rfl (aB (ou zt ?_)));exact rE (mB hs) (uB rfl (qM (ir (ia (h2 ai aq) (λv av q=>jZ q) λZ Z q=>q))))
theorem P4{o e:au}{p1:aO}{P:aE}(u9:Uo o "append" env (eval o env)=eval o env)(hl:cH p1 p2)(hs:nH e=ag)
  (h1:∀ (Q E:aW),(∀s',Ext s s'→(∃vs n,s'.heap.get? P=aa (cy vs n))→Q (.ref P) s')→ar (aw prog K.w) A (eval o env) Q E s)
  {PV:aW} (h2:∀s',Ext s s'→∀ (Q E:aW),(∀v dh,Ext s' dh→PV v dh→Q v dh)→ar (aw prog K.w) A (eval e env) Q E s')
  {Q E:aW}{vs:Array ak}{n:Nat} (hP:s.heap.get? P=aa (cy vs n)) (hz:vs.size≤qF)
  (hQ:∀s' v h' n',Ext s s'→PV v s'→h'.get? P=aa (cy (vs.push v) n')→yH P s'.heap h'→Q .none {s' with heap:=h'}):
  ar (aw prog K.w) A (eval (.Call (.Attribute o "append" p1) [e] [] p2) env) Q E s:=
 UR u9 hl hs h1 λai aq=>h2 ai aq _ _ λv av aC pv=>B7 (aC.keep _ _ (aq.keep _ _ hP)) hz λh' n' f1 f2=>hQ av v h' n' (aq.trans aC) pv f1 f2
theorem fP.loc{h:aP}{v:ak}{m:gw}(q:fP env h x v)(k:env.kindOf x=aa .local)(n:h.Ns env.locals m):m x=aa v:=by
 rcases q with⟨_,m',n',e⟩| ⟨k'|k',_⟩
 ·exact rS (n'.agree n x) e
 ·replace k':=k▸k';cases k'
 ·replace k':=k▸k';cases k'
theorem abX:("self" :ah)≠ "parts" ∧("_name" :ah)≠ "parts" ∧("_value" :ah)≠ "parts" ∧("_params" :ah)≠ "parts" ∧("self" :ah)≠ "_value" ∧("_name" :ah)≠ "_value" ∧("_params" :ah)≠ "_value" ∧("parts" :ah)≠ "_value" :=by decide+kernel
structure Ac(p:Nat→aO):Prop where
 a:cH (p 11) (p 13)
 b:cH (p 17) (p 19)
 c:(p 26).endLine == (p 27).line
 d:cH (p 31) (p 43)
 e:cH (p 33) (p 35)
 f:cH (p 39) (p 41)
structure Ad(s:ay)(env:bF)(m:gw)(eJ:ay)(a P:aE)(x y:ah):Prop where
 fr:lT s env m eJ
 kind:env.scope.kind=.function
 look:∀z,z∈(["self","_name","_value","_params","parts","k","v"]:List ah)→env.kindOf z=aa .local
 self:m "self" =aa (.ref a)
 name:∃rX,m "_name" =aa (.str x rX)
 parts:m "parts" =aa (.ref P)
 list:∃vS n',eJ.heap.get? P=aa (cy (#[].push (.str y vS)) n')
 frame:env.frame=aa env.locals
set_option maxRecDepth 8000 in
theorem P5(k:gj K c){Rc:a9}(cv:k8 K fC uW pc Rc)(jP:c.mN km=aa (.ref fC))(O:bU K)(hr:∃n,bW A (n+1)){p:Nat→aO}{FB:List a9}(M:Meth K f fd Ab (H8 p FB))
  (gF:∀a b cc:ak,jD fd ⟨[a,b,cc],[]⟩=(alloc {cls:=.type "dict",data:=.dict #[]} >>= λd=>pure [(("self" :ah),a),(("_name" :ah),b),(("_value" :ah),cc),(("_params" :ah),.ref d)])) (hl:Ac p)
  (g:br K U s.heap) {a l:aE}{t:d6} (T:dO K.hc U s.heap a l t) {x y:ah}{rX Aa:mY} (hy:keyOk y) {Q E:aW}
  (hQ:∀env m eJ P,Ad s env m eJ a P x y→ar (aw prog K.w) (A.deeper env) (exec (CZ p) env) (λf s'=>f=.next∧Q .none s') (λe s'=>ar (aw prog K.w) (A.deeper env) (leaving env e) (λZ dh=>E e dh) E s') eJ):ar (aw prog K.w) A (call (.ref f) [.ref a,.str x rX,.str y Aa]) Q E s:=by
 refine xE hr ?_;clear hr;intro rn fc;have o6:A.depth<iR:=by have:=fc.depth;lia
 have lk:∀z,z∈(["self","_name","_value","_params","parts","k","v"]:List ah)→Ab.lookup z=aa .local:=λz hz=>abW (z,()) (by simpa using hz);refine PM (args:=⟨[.ref a,.str x rX,.str y Aa],[]⟩) (P:=λbinds s'=>∃d,binds=[(("self" :ah),.ref a),(("_name" :ah),.str x rX),(("_value" :ah),.str y Aa),(("_params" :ah),.ref d)]∧Ext s s'∧d=s.heap.objs.size∧s'.heap.get? d=aa {cls:=.type "dict",data:=.dict #[]})
  M o6 g (λQ E h=>by refine rE (gF ..) ?_;exact aB (wpAny_alloc' (bz (h _ _ ⟨_,rfl,.push,rfl,eT _ rfl⟩)))) (λbinds s' hp=>?_) (by decide+kernel) λbinds aT env ai hp En=>?_
 ·clear o6 M FB;refine gz hp λd e9 jo Z Z=>?_;subst e9;refine⟨jo,(show UQ [("self" :ah),"_name","_value","_params"]by decide+kernel),λz hz=>.inl ?_⟩;simp only[bE,sM,or_false]at hz;rcases hz with rfl|rfl|rfl|rfl<;>exact lk _ (by simp)
 clear o6 M;refine gz hp ?_;clear hp;intro d e9 jo cx C0;subst e9;have rY:=fc.deeper (env:=env);have hK:=En.fm.kind;have qh:∀z,z∈(["self","_name","_value","_params","parts","k","v"]:List ah)→env.kindOf z=aa .local:=λz hz=>En.fm.look _ _ (lk z hz);refine xE En.bu.loc.2 λm0 vT=>?_;have xN:lT s env m0 ai:=⟨jo.trans En.x,vT,jK jo (En.fresh _ (.inl rfl))⟩;have fd0:s.heap.get? d=af:=rE cx (eM _)
 have v1:m0 "self" =aa (.ref a):=(En.vars "self" _ (by simp)).loc (qh _ (by simp)) vT;have v2:m0 "_name" =aa (.str x rX):=(En.vars "_name" _ (by simp)).loc (qh _ (by simp)) vT;have v3:m0 "_value" =aa (.str y Aa):=(En.vars "_value" _ (by simp)).loc (qh _ (by simp)) vT;have v4:m0 "_params" =aa (.ref d):=(En.vars "_params" _ (by simp)).loc (qh _ (by simp)) vT;have vF:d≠env.locals:=λq=>by have:=En.fresh d (.inl q);exact zS (C0▸this)
 have rd:∀ {z:ah}{v:ak}{m:gw}{s':ay}{pp:aO}{A':dU},z∈(["self","_name","_value","_params","parts"]:List ah)→s'.heap.Ns env.locals m→m z=aa v→∀ (Q E:aW),Q v s'→ar (aw prog K.w) A' (eval (.Name z pp) env) Q E s':=
  λ{z v m s' pp A'} hz n e Q E h=>lR hK (qh z (by simp at hz ⊢;rcases hz with h|h|h|h|h<;>simp[h])) n e (P2 z hz) h
 have inst:∀ {s':ay},Ext s s'→qg K.hc s'.heap a l:=λx=>(T.at (U':=U) x λZ h=>.inl h).inst;refine VF abX λn1 n2 n3 n4 n5 n6 n7 n8=>gq (oB (List_ (jZ (wH ?_))));obtain⟨P,hP⟩:∃P,P=ai.heap.objs.size:=⟨_,rfl⟩;obtain⟨av,iG⟩:∃av:ay,av={ai with heap:=ai.heap.push (cy #[] 0)}:=⟨_,rfl⟩;have aC:Ext ai av:=rE iG (.push (s:=ai) (k:=ai.toks))
 have xk:av.heap.get? P=aa (cy #[] 0):=rE iG (rE hP (eT _ rfl))
 show ar _ _ (qN env "parts" (.ref ai.heap.objs.size)) _ _ {ai with heap:=ai.heap.push (cy #[] 0)};refine rS iG (rS hP ?_);have H9:ai.heap.get? P=af:=rE hP (eM _)
 have hPs:s.heap.get? P=af:=jK xN.x H9;have C1:P≠env.locals:=λq=>by refine fu vT ?_;clear vT;intro o _ _ e _;replace e:=q.symm▸e;exact zN (H9▸e)
 refine(xN.ext aC).store hK (qh _ (by simp)) λaR iZ Ae=>?_;have vd:=Ae.keep P _ C1 xk;have P6:=Ae.keep d _ vF (aC.keep _ _ (En.x.keep _ _ C0));refine gq (wO (yE (rd (by simp) iZ.ns (by simp[n3];exact v3) _ _ (El (wpAny_isNot_other rfl (by simp) (lr ?_)))) rfl));refine rE (if_pos rfl) (gq (oB (HV k cv jP O (by have:=rY.depth;lia) (g.ext iZ.x) (inst iZ.x) hl.a rfl (cg hy).1 (rd (by simp) iZ.ns (by simp[n1];exact v1)) (λQ E h=>rd (by simp) iZ.ns (by simp[n3];exact v3) _ _ (h _ _ (.refl _))) λcq vS j9=>?_)));refine(iZ.ext j9).store hK (qh _ (by simp)) λlN Ia Ib=>?_;have Ic:=Ib.keep P _ C1 (j9.keep _ _ vd);have Ie:=Ib.keep d _ vF (j9.keep _ _ P6);refine gq (US (P4 (P:=P) (PV:=λv Z=>v=.str y vS) rfl hl.b rfl (λQ E h=>rd (by simp) Ia.ns (by simp[n8]) _ _ (h _ (.refl _) ⟨_,_,Ic⟩)) (λs' x' Q E h=>rd (by simp) (Ia.ns.keeps x'.keep) (by simp) _ _ (h _ _ (.refl _) rfl)) Ic (eo _) λs' v h' n' x' pv e' cB=>?_)
  (by unfold interactive;refine rE hK ?_;rfl))
 clear Ib j9 cq P6 vd Ae iZ aR H9 xk;subst pv;have vU:=(Ia.ext x').write hPs C1 cB;obtain⟨lO,C2⟩:∃lO:ay,lO={s' with heap:=h'}:=⟨_,rfl⟩;replace vU:=je C2▸vU;have abY:lO.heap.get? P=aa (cy (#[].push (.str y vS)) n'):=rE C2 e'
 have P7:d≠P:=λq=>by rw[q,Ic]at Ie;have:=congrArg fI.cls (iq Ie);exact absurd this (by simp[cy])
 have P8:lO.heap.get? d=aa {cls:=.type "dict",data:=.dict #[]}:=rE C2 ((cB.2 d P7).trans (x'.keep _ _ Ie))
 show ar _ _ _ _ _ {s' with heap:=h'};refine rS C2 ?_;have P9:(d == sysModules)=ag:=by refine fu g.ng λo Z Z e Z=>?_;have:=jA e;exact rE cx (beq_false_of_ne (oF (ew (by decide:sysModules<gn) this)))
 refine oA (gq (tN (wpAny_For_items_locals (knd:=wI prog K.w) (kvs:=[]) (ep:=0) rY.handled (qh _ (by simp)) (qh _ (by simp)) (by refine rE hK ?_;rfl) vF P9 ⟨_,#[],P8,⟨rfl,rfl,rfl⟩,rfl,λe h=>(by simp at h),.nil,yF⟩ vU.ns rfl hl.c
  (λQ' h=>rd (by simp) vU.ns (by simp[n7,n4];exact v4) _ _ h) (λZ m'=>m'=_) rfl (λi Z Z Z Z Z h=>by simp at h) (λHU tk m' hn hm hk=>?_) (λZ=>rfl) PassesOwn.never)))
 clear P9 P8 P7 cB e' x';subst hm;obtain⟨eJ,Ig⟩:∃eJ:ay,eJ={lO with heap:=HU,toks:=tk}:=⟨_,rfl⟩;have Ih:Mv (λb=>b=env.locals) (λZ=>False) lO eJ:=rE Ig ⟨hk,λZ Z Z e=>e,λe=>e,rfl⟩
 have ie:lT s env _ eJ:=⟨Ih.ext vU.x (λb h=>h▸vU.fr) λZ h=>h.elim,by refine rE Ig ?_;exact hn,vU.fr⟩;have C3:=Ih.keep P _ C1 abY;show ar _ _ _ _ _ {lO with heap:=HU,toks:=tk};refine rS Ig ?_;clear hn;refine gq (ia (hQ env _ eJ P ⟨ie,hK,qh,by simp[n5,n1];exact v1,⟨rX,by simp[n6,n2];exact v2⟩,by simp[n8],⟨vS,n',C3⟩,En.frame⟩) (λf s' q=>?_) λZ Z q=>q);clear C3 ie Ih hk;obtain⟨rfl,q⟩:=q;exact oA q
theorem Ad.rd{eJ:ay}{GR:gw}{P:aE}{y:ah}(X:Ad s env GR eJ a P x y){z:ah}{v:ak}{m:gw}{pp:aO}{A':dU}(hz:z∈(["self","_name","_value","_params","parts"]:List ah))(n:s'.heap.Ns env.locals m)(e:m z=aa v)(Q E:aW)(h:Q v s'):ar (aw prog K.w) A' (eval (.Name z pp) env) Q E s':=
 lR X.kind (X.look z (by simp at hz ⊢;rcases hz with h|h|h|h|h<;>simp[h])) n e (P2 z hz) h
set_option maxRecDepth 8000 in
theorem abZ(k:gj K c){Rc:a9}(cv:k8 K fC uW pc Rc)(jP:c.mN km=aa (.ref fC))(O:bU K)(hr:∃n,bW A (n+1)){p:Nat→aO}(hl:Ac p)
  (g:br K U s.heap) (ub:UB U s) {a l:aE} (ul:U l) {t:d6} (T:dO K.hc U s.heap a l t) {x y:ah} (hx:iy x) (hy:keyOk y) (ht:t.length<1000000) {env:bF}{m:gw}{eJ:ay}{P:aE} (X:Ad s env m eJ a P x y) {Q E:aW}
  (hQ:∀u aR,Mv (λb=>b=l) (λZ=>False) s aR→dO K.hc U aR.heap a l (t++[(x,y)])→Q u aR):ar (aw prog K.w) (A.deeper env) (exec (CZ p) env) (λf s'=>f=.next∧Q .none s') E eJ:=by
 refine xE hr ?_;clear hr;intro rn fc;have rY:=fc.deeper (env:=env);have ie:=X.fr;have inst:∀ {s':ay},Ext s s'→qg K.hc s'.heap a l:=λx=>(T.at (U':=U) x λZ h=>.inl h).inst;have rd:∀ {z:ah}{v:ak}{m:gw}{s':ay}{pp:aO}{A':dU},z∈(["self","_name","_value","_params","parts"]:List ah)→s'.heap.Ns env.locals m→m z=aa v→∀ (Q E:aW),Q v s'→ar (aw prog K.w) A' (eval (.Name z pp) env) Q E s':=X.rd;refine xE X.name λrX v2=>lC X.list λvS n' C3=>?_;have aiG:=T.at (U':=U) ie.x λZ h=>.inl h;refine uY (id T) λo dd m vs n TF=>?_;have jI:s.heap.get? l=aa (cy vs n):=TF.jI;have h2:∀s',Ext eJ s'→∀ (Q E:aW),(∀v dh,Ext s' dh→(∃Tt t3 t4,v=.ref Tt∧s.heap.get? Tt=af∧dh.heap.get? Tt=aa (yZ #[.str x t3,.str y t4] 0))→Q v dh)→
   ar (aw prog K.w) (A.deeper env) (eval (.Tuple [CW p 32 (.Name "_name" (p 37)) ae,.Call (.Attribute (.Constant (.str "; ") 0 (p 38)) "join" (p 39)) [.Name "parts" (p 40)] [] (p 41)] 0 (p 42)) env) Q E s':=by
  intro s' x' Q E h;have F':=ie.ext x';refine Tuple_ (ir (HV k cv jP O (by have:=rY.depth;lia) (g.ext F'.x) (inst F'.x) hl.e rfl hx (rd (by simp) F'.ns X.self) (λQ E h=>rd (by simp) F'.ns v2 _ _ (h _ _ (.refl _))) λoV Qa Af=>ir ?_));have rZ:=F'.ext Af;have ab0:=Af.keep _ _ (x'.keep _ _ C3);show ar (aw prog K.w) (A.deeper env) (if ag then _ else _) _ _ _;refine rE (if_neg f7) (pP rfl hl.f (bc rfl) rfl ?_)
  with_reducible refine Kx ?_
  intro pl
  with_reducible refine GM.join ?_
  refine uB rfl (qM (ir (rd (v:=.ref P) (by simp) (rZ.ext (.tok (k:=oV.toks+1))).ns X.parts _ _ (jZ ?_))));have hyl:(sL y).length≤1000000:=bc (cg hy).2;refine join_list (D:=P) (items:= #[.str y vS]) (ys:=[y]) ⟨_,ab0,rfl,_,rfl⟩ (.cons _ _ .nil) ?_ λab1 kk=>?_
  ·have:y.length=(sL y).length:=ic y▸rfl;have h2:("; " :ah).length=2:=by decide+kernel
   simp only[iS,qT,ahu,List.sum_nil,bT,m9];refine rE this (rE h2 ?_);lia
  refine jZ (Eh ?_);have hj:Txt.join ("; " :ah) [y]=y:=by have h:=L7 ("; " :ah) [y];exact h.trans rfl
  refine rE hj (h _ _ (Af.trans (Ext.tok (s:=oV) (k:=kk) |>.trans (.push (k:=kk)))) ⟨_,Qa,ab1,rfl,?_,eT _ rfl⟩);exact jK (rZ.x.trans (.tok (k:=kk))) (eM _)
 refine US (P4 (P:=l) rfl hl.d rfl (λQ E h=>KY (rd (by simp) ie.ns X.self _ _ (CU k (g.ext ie.x) (inst ie.x) (h _ .tok ⟨vs,n,ie.x.keep _ _ jI⟩)))) h2 (ie.x.keep _ _ jI) (by have:=aI.pairs_len TF.tf;replace this:=eL▸this;refine rE lu ?_;lia) λs' v h3 n3' x' pv e' cB=>?_)
  (by unfold interactive;refine rE X.kind ?_;rfl)
 clear E h2;refine ib pv ?_;clear pv;intro Tt t3 t4 e9 ft gt;subst e9;refine⟨rfl,hQ _ _ ⟨λb o n e=>(cB.2 b n).trans ((ie.x.trans x').keep b o e),λgg o Z e=>(ie.x.trans x').gens gg o e,(ie.x.trans x').bare,(ie.x.trans x').os⟩ ?_⟩;have xs:=ie.x.trans x';have kU:∀b o,¬U b→s.heap.get? b=aa o→h3.get? b=aa o:=λb o n e=>(cB.2 b λq=>n (q▸ul)).trans (xs.keep b o e);have nl:∀ {b},¬U b→b≠l:=λn q=>n (q▸ul);refine fu TF.e7 λod esd epd ed rdd=>⟨o,dd,m,vs.push (.ref Tt),n3',kU _ _ TF.e6 TF.e2,TF.e3,TF.e4,TF.e5,TF.e6,⟨od,esd,epd,kU _ _ TF.e8 ed,rdd⟩,TF.e8,TF.e9,TF.my,TF.zp,e',?_⟩;refine rE KG (rE dw ?_);refine(TF.tf.mono kU λZ Z Z n=>n).append (.one (.tup (n:=0) ((cB.2 Tt λq=>?_).trans gt) (λu=>?_) (.cons (.str _ _) (.one (.str _ _)))))
 ·replace ft:=q▸ft;exact zS (jI▸ft)
 ·exact xE (ub Tt u) λo' e'=>zS (e'▸ft)
theorem ab2(k:gj K c){Rc:a9}(cv:k8 K fC uW pc Rc)(jP:c.mN km=aa (.ref fC))(O:bU K)(hr:∃n,bW A (n+1)){p:Nat→aO}(hl:Ac p)
  (g:br K U s.heap) {a l:aE}{t:d6} (T:dO K.hc U s.heap a l t) {x y:ah} (hx:iy x=ag) (hxa:mh (sL x)) (zM:(sL x).length=1) {env:bF}{m:gw}{eJ:ay}{P:aE} (X:Ad s env m eJ a P x y)
  {base:aP}{fs:List bF} (cC:A.frames=aa fs) (st:base.StaysIn s.heap) (ff:s.heap.FunFrames base fs) {Q:ji→ay→Prop}{E:aW} (hE:∀e s',oT base (env::fs) e s s'→E (.ref e) s'):ar (aw prog K.w) (A.deeper env) (exec (CZ p) env) Q E eJ:=by
 refine xE hr λrn fc=>?_;have rY:=fc.deeper (env:=env);have ie:=X.fr;refine xE X.name λrX v2=>?_;have inst:∀ {s':ay},Ext s s'→qg K.hc s'.heap a l:=λx=>(T.at (U':=U) x λZ h=>.inl h).inst;refine uY (id T) λo dd m vs n TF=>US (UR (P:=l) rfl hl.d rfl (λQ E h=>KY (X.rd (by simp) ie.ns X.self _ _ (CU k (g.ext ie.x) (inst ie.x) (h _ .tok ⟨vs,n,ie.x.keep _ _ TF.jI⟩)))) λs' x'=>?_) (by unfold interactive;refine rE X.kind ?_;rfl);have F':=ie.ext x';refine Tuple_ (ir (PF k cv jP (g.ext F'.x) (inst F'.x) hl.e rfl (X.rd (by simp) F'.ns X.self) (λQ E h=>X.rd (by simp) F'.ns v2 _ _ (h _ _ (.refl _))) λoV Qa Af=>?_));have rZ:=F'.ext Af;exact abe cv O (by have:=rY.depth;lia) rY.handled (g.ext rZ.x) hx hxa zM (UP cC) (PB st rZ.x) (.cons (by refine rE X.kind ?_;nofun) X.frame rZ.ns (PA st rZ.fr) (PC ff rZ.x)) λe ab3 f=>hE e ab3 (f.ext rZ.x)
end
theorem ab4:rz=("add_header" :ah):=by decide+kernel
theorem ab5:rz≠gG:=by decide+kernel
theorem ab6:qH (.type "object") rz=pure af:=by refine rE ab4 (rE (qR ..) (rE qS ?_));kernel_rfl
noncomputable def Ii(p:Nat→aO)(B FB:List a9):List a9:=
 [.Assign [.Name "headers" (p 0)] (.IfExp (.Compare (.Name "headers" (p 1)) [.IsNot] [.Constant .none 0 (p 2)] (p 3)) (.Name "headers" (p 4)) (.List [] (p 5)) (p 6)) (p 7),
  .If (.Compare (.Call (.Name "type" (p 8)) [.Name "headers" (p 9)] [] (p 10)) [.IsNot] [.Name "list" (p 11)] (p 12)) B [] (p 13),
  .Assign [.Attribute (.Name "self" (p 14)) gG (p 15)] (.Name "headers" (p 16)) (p 17),
  .If (.Constant (.bool ae) 0 (p 18)) [.For (.Tuple [.Name "k" (p 19),.Name "v" (p 20)] 0 (p 21)) (.Name "headers" (p 22)) FB [] (p 23)] [] (p 24)]
noncomputable def vV:List (ah × eC):=[("self",.local),("headers",.local),("k",.local),("v",.local),("type",.globalImplicit),("list",.globalImplicit),("TypeError",.globalImplicit),("__debug__",.globalImplicit)]
theorem ab7:vV.lookup ("self" :ah)=aa .local∧vV.lookup ("headers" :ah)=aa .local∧vV.lookup ("type" :ah)=aa .globalImplicit∧vV.lookup ("list" :ah)=aa .globalImplicit:=by decide+kernel
section
variable{K:Kt}{c:lS}
theorem ab8(k:gj K c){Rc:a9}(cv:k8 K fC uW pc Rc)(jP:c.mN km=aa (.ref fC))(O:bU K)(hr:∃n,bW A (n+1)){p:Nat→aO}{FB:List a9}(M:Meth K f fd Ab (H8 p FB))(hf:c.mN rz=aa (.ref f))
  (gF:∀a b cc:ak,jD fd ⟨[a,b,cc],[]⟩=(alloc {cls:=.type "dict",data:=.dict #[]} >>= λd=>pure [(("self" :ah),a),(("_name" :ah),b),(("_value" :ah),cc),(("_params" :ah),.ref d)])) (hl:Ac p):zR K A where
 G6:=λU s a l t g ub ul T pl Q E hQ=>by
  refine CV k g T.inst ab5 M hf ab6 (hQ (.ref f) [.ref a] s (.refl s) ?_ λvs av x y aC fA hy ht=>?_)
  ·exact gz (M.at g) λo ho Z hd Z=>⟨f,o,fd,rfl,ho,hd⟩
  ·clear hQ E Q pl;refine cK (xo fA) λu v e9 ru rv=>?_;subst e9;clear fA;refine xE ru.cQ λZ e9=>?_;subst e9;refine xE rv.cQ λZ e9=>?_;subst e9;have iI:=g.ext aC;have iX:=T.at (U':=U) aC λZ h=>.inl h;refine⟨λhx Q' E' z7=>?_,λhx ha h1 base fs cC st ff Q' E' hE'=>?_⟩
   ·exact P5 k cv jP O hr M gF hl iI iX hy λenv m eJ P X=>abZ k cv jP O hr hl iI (ub.ext aC) ul iX hx hy ht X z7
   ·exact P5 k cv jP O hr M gF hl iI iX hy λenv m eJ P X=>ab2 k cv jP O hr hl iI iX hx ha h1 X cC st ff λe aR fl=>fl.leave cC X.frame λcq ab9=>hE' e cq ab9
theorem aca(k:gj K c)(g:br K U s.heap){Q:_→ay→Prop}(h:Q .machine s):ar (aw prog K.w) A (keeperOf (.ref K.hc)) Q E s:=by
 have C4:=(k.at g).1;obtain⟨hh,gg,d,t,os⟩:=s;have f1:=tc_lookup;have hT:(⟨hh,gg,d,t,os⟩:ay).TypeIs (.ref K.hc) "type" :=⟨_,C4,rfl⟩;unfold keeperOf specialOf;unfold lS.obj at C4
 repeat (any_goals (first|assumption|with_reducible refine wpAny_loadPart_at C4 ?_|with_reducible refine wpAny_load' C4 ?_|wp_step))
theorem acb(k:gj K c)(g:br K U s.heap)(h:ar (aw prog K.w) A (call (.ref K.hc) []) Q E s):ar (aw prog K.w) A (jY p (.ref K.hc) [] [] []) Q E s:=by unfold jY;refine aB (jg (Ky (aB (kI ?_))));show ar _ _ (keeperOf (.ref K.hc) >>= _) _ _ _;refine aB (aca k g ?_);show ar _ _ (call (.ref K.hc) [] [] >>= λr=>do holding [r] point;pure r) _ _ _;exact aB (ia h (λr s' hr=>aB (jg (UE (bz hr)))) λZ Z x=>x)
theorem acd:("self" :ah)≠ "headers" ∧(("self" :ah) == ("__debug__" :ah))=ag∧(("headers" :ah) == ("__debug__" :ah))=ag∧(("type" :ah) == ("__debug__" :ah))=ag∧(("list" :ah) == ("__debug__" :ah))=ag:=by decide+kernel
set_option maxRecDepth 8000 in
theorem ace(k:gj K c)(hr:∃n,bW A (n+1)){p:Nat→aO}{B FB:List a9}(M:Meth K f fd vV (Ii p B FB))(gF:∀ (s:ay) (v:ak),(∀U,br K U s.heap→Bi s fd ⟨[v],[]⟩ [(("self" :ah),v),(("headers" :ah),.none)]))
  (ty:K.mg "type" =af∧K.mb "type" =aa (.type "type")) (li:K.mg "list" =af∧K.mb "list" =aa (.type "list")) (g:br K U s.heap) {x dx:aE} (ux:¬U x) (Ij:¬U dx) (hx:s.heap.Inst x K.hc λZ=>af) (hdx:∀o,s.heap.get? x=aa o→o.dict=aa dx) (Ik:x≠K.hc)
  (gU:∀b,(b=x∨b=dx)→∀o,K.fr b o→False) {Q E:aW}
  (hQ:∀s' L,Mv (λb=>b=x∨b=dx) (λZ=>False) s s'→s.heap.get? L=af→s'.heap.get? L=aa (cy #[] 0)→qg K.hc s'.heap x L→(∀o,s'.heap.get? x=aa o→o.dict=aa dx)→Q .none s'):ar (aw prog K.w) A (call (.ref f) [.ref x]) Q E s:=by
 refine xE hr λrn fc=>?_;have o6:A.depth<iR:=by have:=fc.depth;lia
 refine yX ab7 λl1 l2 l3 l4=>E3 acd λn1 n2 n3 n4 n5=>PH M o6 g (gF s _ U g) (by decide+kernel) (λz hz=>?_) λenv ai aq F lJ hL=>?_
 ·simp only[bE,sM,or_false]at hz;rcases hz with rfl|rfl
  ·exact l1
  ·exact l2
 have rY:=fc.deeper (env:=env);have hK:=F.kind;have xN:lT s env _ ai:=⟨aq,lJ,hL⟩;have e1:[(("self" :ah),yG x),(("headers" :ah),uw)].reverse.lookup ("self" :ah)=aa (yG x):=by simp[wM,beq_false_of_ne n1]
 have e2:[(("self" :ah),yG x),(("headers" :ah),uw)].reverse.lookup ("headers" :ah)=aa uw:=by simp[wM]
 refine gq (oB (wpAny_IfExp (yE (lR hK (F.look _ _ l2) xN.ns e2 n3 (El (wpAny_isNot_plain rfl (lr ?_)))) rfl)));refine rE (if_neg (by decide)) (List_ (jZ (wH ?_)));obtain⟨L,Il⟩:∃L,L=ai.heap.objs.size:=⟨_,rfl⟩;obtain⟨av,iG⟩:∃av:ay,av={ai with heap:=ai.heap.push (cy #[] 0)}:=⟨_,rfl⟩;have aC:Ext ai av:=rE iG (.push (s:=ai) (k:=ai.toks))
 have xk:av.heap.get? L=aa (cy #[] 0):=rE iG (rE Il (eT _ rfl))
 show ar _ _ (qN env "headers" (.ref ai.heap.objs.size)) _ _ {ai with heap:=ai.heap.push (cy #[] 0)};refine rS iG (rS Il ?_);have Qb:ai.heap.get? L=af:=rE Il (eM _)
 have vW:s.heap.get? L=af:=jK xN.x Qb;have hLL:L≠env.locals:=λq=>by refine fu lJ λo Z Z e Z=>?_;replace e:=q.symm▸e;exact zN (Qb▸e)
 refine(xN.ext aC).store hK (F.look _ _ l2) λaR iZ Ae=>?_;have vd:=Ae.keep L _ hLL xk;have z3:=g.ext iZ.x;obtain⟨m3,m1,m2,iZ⟩:∃m3:gw,m3 "self" =aa (.ref x)∧m3 "headers" =aa (.ref L)∧lT s env m3 aR:=⟨_,by simp only[if_neg n1];exact e1,by simp,iZ⟩;refine gq (wO (yE ?_ rfl));show ar _ _ (do jY (p 10) (← eval (.Name "type" (p 8)) env) [] (gJ (p 10) (fZ [.Name "headers" (p 9)] env)) []) _ _ aR;refine aB (z8 hK (F.look _ _ l3) F.gl F.bi z3 ty n4 (A4 rfl (qM (ir (lR hK (F.look _ _ l2) iZ.ns m2 n3 (jZ (call_type_of (Tx:= "list") ⟨_,vd,rfl⟩ (by decide+kernel) ?_)))))));refine z8 hK (F.look _ _ l4) F.gl F.bi z3 li n5 (wpAny_isNot_self rfl (lr ?_));refine rE (if_neg f7) (oA (gq (plainObj_wpAny_Assign_Attribute (lR hK (F.look _ _ l2) iZ.ns m2 n3 (lR hK (F.look _ _ l1) iZ.ns m1 n2 ?_)))));refine xA (k.at z3) λc1 c2=>?_;have HE:aR.heap.Inst x K.hc λZ=>af:=by refine gz hx λo h1 h2 h3 h4=>⟨o,iZ.x.keep _ _ h1,h2,h3,h4.imp id λ⟨d,q1,q2,q3⟩=>⟨d,q1,q2,q3.at λo e=>iZ.x.keep _ _ e⟩⟩
 obtain⟨ox,xO⟩:∃o,s.heap.get? x=aa o:=let⟨o,h1,_⟩:=hx;⟨o,h1⟩
 have Qc:=iZ.x.keep _ _ xO;refine store_attr (mA:=λZ=>af) (ns:=[]) PySem.F.store_object c1 c2 k.sa k.hd PE Ik HE (λoU Qd rO acf acg=>?_) (λz h=>(h rfl).elim) (by decide);obtain⟨cq,C5⟩:∃cq:ay,cq={aR with heap:=oU,toks:=Qd}:=⟨_,rfl⟩;show ar _ _ _ _ _ {aR with heap:=oU,toks:=Qd};refine rS C5 (Bz (acg ox Qc) λaiH q1 q2 q3 q4 q5=>?_);have xP:=hdx ox xO;have Im:Mv (λb=>b=x∨b=dx) (λZ=>False) aR cq:=rE C5 ⟨λb o n e=>acf b o (λq=>n (.inl q)) (λaiI d h1 h2 q=>n (.inr (by replace h1:=iJ (Qc▸h1);subst h1;replace h2:=iJ (xP▸h2);subst h2;exact q))) e,λZ Z Z e=>e,λe=>e,rfl⟩
 have hLx:¬ (L=x∨L=dx):=λq=>by
  rcases q with q|q
  ·replace vW:=q▸vW;exact zS (xO▸vW)
  ·refine gz hx λo h1 Z Z h4=>?_;replace h1:=iJ (xO▸h1);subst h1;rcases h4 with⟨h4,_⟩| ⟨d,h5,_,od,_,_,h6,_⟩
   ·exact zS (xP▸h4)
   ·replace h5:=iJ (xP▸h5);subst h5;replace vW:=q▸vW;exact zS (h6▸vW)
 have Qe:=Im.keep L _ hLx vd;have xt:Mv (λb=>b=x∨b=dx) (λZ=>False) s cq:=iZ.x.mv.trans Im;have Qf:qg K.hc cq.heap x L:=rE C5 ⟨_,rO,if_pos rfl,λz hz=>if_neg hz⟩
 have ach:∀o,cq.heap.get? x=aa o→o.dict=aa dx:=λo e=>by replace e:=C5▸e;replace q1:=iJ ((show oU.get? x=aa o from e)▸q1);subst q1;exact q5 dx xP
 have Ag:env.locals≠x∧env.locals≠dx:=by
  refine⟨λq=>?_,λq=>?_⟩
  ·replace hL:=q▸hL;exact zS (xO▸hL)
  ·refine gz hx λo h1 Z Z h4=>?_;replace h1:=iJ (xO▸h1);subst h1;rcases h4 with⟨h4,_⟩| ⟨d,h5,_,od,_,_,h6,_⟩
   ·exact zS (xP▸h4)
   ·replace h5:=iJ (xP▸h5);subst h5;replace hL:=q▸hL;exact zS (h6▸hL)
 have aci:cq.heap.Ns env.locals m3:=fu iZ.ns λo es ep e r=>⟨o,es,ep,Im.keep _ _ (λq=>q.elim Ag.1 Ag.2) e,r⟩
 refine gq (wO (KX (Em (lr ?_))));refine rE (if_pos rfl) ?_;have IL:cq.heap.IsList L #[]:=⟨_,Qe,rfl,_,rfl⟩;refine gq (wpAny_For (lR hK (F.look _ _ l2) aci m2 n3 (Km IL ?_)) (λZ=>rfl));obtain⟨lN,Io⟩:∃lN:ay,lN={cq with heap:=cq.heap.push {cls:=.type "list_iterator",data:=.fields #[.ref L,.int 0 0]}}:=⟨_,rfl⟩;have Ah:Ext cq lN:=rE Io (.push (s:=cq) (k:=cq.toks))
 have acj:lN.heap.IsListIter cq.heap.objs.size L 0:=rE Io ⟨_,eT _ rfl,rfl,rfl⟩
 show uF _ _ _ _ {cq with heap:=cq.heap.push {cls:=.type "list_iterator",data:=.fields #[.ref L,.int 0 0]}};refine rS Io (ahO (λZ s'=>s'=lN) (λn s' e=>?_) 0 rfl);subst e;refine wpAny_pyNext_list_end rY.handled acj (IL.at λo e=>Ah.keep _ _ e) rfl λh' hE=>oA ?_;have vK:Ext cq {s' with heap:=h'}:=⟨λb o e=>hE b o (iT (jA e)) (Ah.keep b o e),Ah.gens,Ah.bare,Ah.os⟩;refine oA (oA (hQ _ L (xt.trans vK.mv) vW (vK.keep _ _ Qe) ?_ λo e=>?_))
 ·obtain⟨m,⟨o,h1,h2,h3,h4⟩,r⟩:=Qf.inst;exact⟨m,⟨o,vK.keep _ _ h1,h2,h3,h4.imp id λ⟨d,a1,a2,a3⟩=>⟨d,a1,a2,a3.at λo e=>vK.keep _ _ e⟩⟩,r⟩
 ·obtain⟨m,⟨o',h1,_⟩,_⟩:=Qf.inst;have:=vK.keep _ _ h1;replace e:=iJ (this▸e);subst e;exact ach _ h1
theorem ack(k:gj K c)(Gi:c.newId= "object.__new__")(hr:∃n,bW A (n+5)){p:Nat→aO}{B FB:List a9}(M:Meth K f fd vV (Ii p B FB))(hf:c.mN "__init__" =aa (.ref f))(gF:∀ (s:ay) (v:ak),(∀U,br K U s.heap→Bi s fd ⟨[v],[]⟩ [(("self" :ah),v),(("headers" :ah),.none)]))
  (ty:K.mg "type" =af∧K.mb "type" =aa (.type "type")) (li:K.mg "list" =af∧K.mb "list" =aa (.type "list")) (rN:K.mg mw=aa (.ref K.hc)):xC K A where
 rN:=rN
 jk:=λU s p' g ub Q E hQ=>by
  refine acb k g (xA (k.at g) λh1 h2=>j4 (M.at g) λo ho oQ Z=>xE hr λrn fc=>?_);have hu:¬U K.hc:=(g.iU _ _ k.cls).2;obtain⟨hh,gg,d,t,os⟩:=s;unfold lS.obj at h1;replace h1:=Gi▸h1;refine wpAny_call_obj_init PySem.F.objNew h1 h2 hf ho oQ λh' x dx hm=>?_;have aq:Ext ⟨hh,gg,d,t,os⟩ ⟨h',gg,d,t,os⟩:=⟨hm.keeps,λZ Z e=>e,λe=>e,rfl⟩;have ux:¬U x:=λu=>by refine xE (ub x u) λo' e=>?_;replace e:=hm.newX▸e;exact zN e
  have Ij:¬U dx:=λu=>by refine xE (ub dx u) λo' e=>?_;replace e:=hm.newD▸e;exact zN e
  have Ik:x≠K.hc:=λq=>by have:=hm.newX;replace this:=q▸this;replace this:=h1▸this;exact zS this
  have room:bW (A.under (.builtin "type.__call__" ⟨[.ref K.hc],[]⟩)) (rn+1):=by have w1:KN (.builtin "type.__call__" ⟨[.ref K.hc],[]⟩)=1:=rfl;have w2:KO (.builtin "type.__call__" ⟨[.ref K.hc],[]⟩)=1:=rfl;have r1:(A.under (.builtin "type.__call__" ⟨[.ref K.hc],[]⟩)).depth=A.depth+KN (.builtin "type.__call__" ⟨[.ref K.hc],[]⟩):=rfl;have r2:(A.under (.builtin "type.__call__" ⟨[.ref K.hc],[]⟩)).units=A.units+KO (.builtin "type.__call__" ⟨[.ref K.hc],[]⟩):=rfl;exact⟨fc.handled,by refine rE r1 ?_;refine rE w1 ?_;have:=fc.depth;lia,by refine rE r2 ?_;refine rE w2 ?_;have:=fc.units;lia⟩
  refine ace k ⟨rn,room⟩ M gF ty li (g.ext aq) ux Ij hm.inst hm.dict Ik (λb hb o hK=>?_) λs' L mv hL hp hI hd=>⟨rfl,?_⟩
  ·have:=(g.iU _ _ hK).1;rcases hb with rfl|rfl
   ·exact zN (hm.newX▸this)
   ·exact zN (hm.newD▸this)
  have xS:Ext ⟨hh,gg,d,t,os⟩ s':=mv.ext aq (λb hb=>hb.elim (λh=>h▸hm.newX) λh=>h▸hm.newD) λZ h=>h.elim;have Ag:hh.get? L=af:=jK aq hL;obtain⟨m,⟨o',i1,i2,i3,i4⟩,i5,i6⟩:=hI.inst;refine hQ x L s' xS hm.newX Ag ?_;rcases i4 with⟨_,i4⟩| ⟨d',i7,i8,i9⟩
  ·exact zN ((i4 ..)▸i5)
  clear Ag xS hI hL mv;have C0:d'=dx:=by have:=hd o' i1;replace this:=iJ (i7▸this);subst this;rfl
  clear hd;have hxL:x≠L:=λq=>by replace i1:=q▸i1;replace i1:=hp▸i1;replace i1:=iJ i1;subst i1;cases i2
  have vF:d'≠L:=λq=>by refine ib i9 λod es ep e e' Z=>?_;replace e:=q▸e;replace e:=iJ (hp▸e);subst e;cases e'
  exact⟨o',d',m,#[],0,i1,i2,i7,i3,λh=>h.elim ux hxL,i9,λh=>h.elim (C0▸Ij) vF,i8,i5,i6,hp,.nil⟩
end
section
open PySem.W
noncomputable abbrev P0:yr:=prog
noncomputable def bR(i:Nat):a9:=match P0.main.body[i]? with|some st=>st|none=>.Pass default
noncomputable def cF(i:Nat):a9:=match bR 66 with| .ClassDef _ _ _ b .. =>(match b[i]? with|some st=>st|none=>.Pass default)|_=>.Pass default
noncomputable def names:List ah:=[aj [97,100,100,114],aj [115,116,97,114,116],aj [111,112,101,110,95,112,111,115],aj [114,101,115,117,108,116],aj [112,111,115],aj [99,104],aj [111,112,101,110,115],aj [120],aj [115,117,109,115],aj [104,105,100,101],aj [114,111,119],aj [112,97,114,116,115],aj [115,105,103,110,115],aj [107],aj [115,105,103,110],aj [97,116],aj [106,111,105,110,101,100],aj [111,110,101],aj [116,119,111],aj [110],aj [108,101,102,116],aj [116,97,98,108,101],aj [100,117,101],aj [112,105,108,101],aj [101,110,100],aj [112,108,97,99,101],aj [117,110,105,116],aj [108,101,116,116,101,114],aj [115,121,109,98,111,108],aj [116,111,108,100],aj [108,105,110,107,115],aj [109,97,116,101,115],aj [117,115,101,100],aj [102,105,114,115,116],aj [112,97,105,114],aj [113],aj [112],aj [116,117,114,110],aj [100,114,101,115,115],aj [112,97,105,114,115],aj [101,110,100,115],aj [116,101,120,116,115],aj [116,114,101,101],aj [102,111,117,110,100],aj [112,97,114,116,101,100],aj [112,105,101,99,101,115],aj [112,105,101,99,101],aj [115,101,113],aj [114,105,110,103],aj [114,101,115,116],aj [109,97,115,107],aj [104,101,114,101],aj [116,104,101,114,101],aj [106],aj [115,99,114,105,112,116],aj [116,114,101,101,115],aj [114,111,119,115],aj [97,115,107,101,100],aj [108,105,110,107,105,110,103,115],aj [110,101,116,115],aj [102,108,97,116,115],aj [99,114,111,115,115,101,100],aj [112,97,114,116],aj [118,97,108,117,101],aj [109,111,114,101],aj [114],aj [115]]
noncomputable def fns:List ah:=[aj [95,115,116,114,105,112,95,113,117,111,116,101,100,95,114,101,97,108,110,97,109,101,115],aj [95,99,104,101,99,107,95,112,97,114,101,110,116,104,101,115,105,115],aj [73,83,84,69,82,77,73,78,65,76],aj [73,83,78,79,78,84,69,82,77,73,78,65,76],aj [73,83,69,79,70],aj [95,108,97,119,95,100,114,97,119,110],aj [95,108,97,119,95,114,101,97,100],aj [95,108,97,119,95,108,111,110,103,101,114],aj [95,108,97,119,95,116,111,108,100],aj [95,108,97,119,95,112,97,114,116,101,100],aj [95,108,97,119,95,105,115,95,110,101,116],aj [95,108,97,119,95,100,101,114,105,118,101,100],aj [108,97,119]]
noncomputable def bH:List (ah × Int):=[(aj [78,84,95,79,70,70,83,69,84],256),(aj [69,78,68,77,65,82,75,69,82],0)]
noncomputable def tok:List (ah × Int):=[(aj [33],54),(aj [33,61],28),(aj [37],24),(aj [37,61],40),(aj [38],19),(aj [38,61],41),(aj [40],7),(aj [41],8),(aj [42],16),(aj [42,42],35),(aj [42,42,61],46),(aj [42,61],38),(aj [43],14),(aj [43,61],36),(aj [44],12),(aj [45],15),(aj [45,61],37),(aj [45,62],51),(aj [46],23),(aj [46,46,46],52),(aj [47],17),(aj [47,47],47),(aj [47,47,61],48),(aj [47,61],39),(aj [58],11),(aj [58,61],53),(aj [59],13),(aj [60],20),(aj [60,60],33),(aj [60,60,61],44),(aj [60,61],29),(aj [61],22),(aj [61,61],27),(aj [62],21),(aj [62,61],30),(aj [62,62],34),(aj [62,62,61],45),(aj [64],49),(aj [64,61],50),(aj [91],9),(aj [93],10),(aj [94],32),(aj [94,61],43),(aj [123],25),(aj [124],18),(aj [124,61],42),(aj [125],26),(aj [126],31)]
noncomputable def xs:Cx:=⟨names,fns,[],[21],bH,[]⟩
noncomputable def b0:bP:=(.cons (.ite (.cmp (.lit (.str (aj [34]))) (.cons .ix (.var 0) .nil)) (.cons (.fz [3] (.ret (.var 0))) .nil) .nil) (.cons (.asg 1 (.lit (.int 0))) (.cons (.asg 2 (.lit .none)) (.cons (.own 3 (.list .nil)) (.cons (.loop (.two 4 5) (.gen (.var 0)) (.cons (.ite (.cmp (.var 5) (.cons .eq (.lit (.str (aj [34]))) .nil)) (.cons (.ite (.uK (.var 2)) (.cons (.asg 2 (.var 4)) .nil) (.cons (.ite (.cmp (.var 1) (.cons .ne (.var 2) .nil)) (.cons (.app 3 (.cw 0 (.some (.var 1)) (.some (.var 2)) .none)) .nil) .nil) (.cons (.asg 1 (.bin .add (.var 4) (.lit (.int 1)))) (.cons (.asg 2 (.lit .none)) .nil)))) .nil) .nil) .nil)) (.cons (.ite (.cmp (.var 1) (.cons .lt (.bL 0) .nil)) (.cons (.app 3 (.cw 0 (.some (.var 1)) .none .none)) .nil) .nil) (.cons (.fz [3] (.ret (.prim .join (.cons (.lit (.str (aj []))) (.cons (.var 3) .nil))))) .nil)))))))
noncomputable def b1:bP:=(.cons (.asg 0 (.call 0 (.cons (.var 0) .nil))) (.cons (.asg 6 (.lit (.int 0))) (.cons (.loop (.two 4 5) (.gen (.var 0)) (.cons (.ite (.cmp (.var 5) (.cons .eq (.lit (.str (aj [40]))) .nil)) (.cons (.aug 6 .add (.lit (.int 1))) .nil) (.cons (.ite (.cmp (.var 5) (.cons .eq (.lit (.str (aj [41]))) .nil)) (.cons (.aug 6 .sub (.lit (.int 1))) (.cons (.ite (.cmp (.var 6) (.cons .lt (.lit (.int 0)) .nil)) (.cons (.ret (.lit (.bool ag))) .nil) .nil) .nil)) .nil) .nil)) .nil)) (.cons (.ret (.cmp (.var 6) (.cons .eq (.lit (.int 0)) .nil))) .nil))))
noncomputable def b2:bP:=(.cons (.ret (.cmp (.var 7) (.cons .lt (.gl (aj [78,84,95,79,70,70,83,69,84]) 256) .nil))) .nil)
noncomputable def b3:bP:=(.cons (.ret (.cmp (.var 7) (.cons .ge (.gl (aj [78,84,95,79,70,70,83,69,84]) 256) .nil))) .nil)
noncomputable def b4:bP:=(.cons (.ret (.cmp (.var 7) (.cons .eq (.gl (aj [69,78,68,77,65,82,75,69,82]) 0) .nil))) .nil)
noncomputable def b5:bP:=(.cons (.own 10 (.list .nil)) (.cons (.loop (.one 7) (.data (.cw 8 .none (.some (.lit (.int 3))) .none)) (.cons (.ins 10 (.bin .mod (.bin .fdiv (.var 7) (.lit (.int 4))) (.bin .add (.bL 10) (.lit (.int 1)))) (.sub (.lit (.str (aj [97,65,98,66]))) (.bin .mod (.var 7) (.lit (.int 4))))) (.cons (.ins 10 (.bin .mod (.bin .fdiv (.var 7) (.lit (.int 100))) (.bin .add (.bL 10) (.lit (.int 1)))) (.sub (.lit (.str (aj [65,97,66,98]))) (.bin .mod (.var 7) (.lit (.int 4))))) .nil))) (.cons (.asg 11 (.comp [13] (.one 13) (.dy (.lit (.int 6))) .nil .nil (.bin .add (.list (.cons (.var 13) .nil)) (.comp [7] (.one 7) (.data (.aG 9 (.bin .mod (.bin .fdiv (.aG 8 (.lit (.int 5))) (.bin .pow (.lit (.int 8)) (.var 13))) (.lit (.int 8))))) .nil .nil (.ite (.bin .mod (.var 13) (.lit (.int 2))) (.bin .add (.aG 10 (.var 13)) (.var 7)) (.bin .add (.var 7) (.aG 10 (.var 13)))))))) (.cons (.asg 12 (.bin .add (.lit (.str (aj [42,42]))) (.bin .mul (.lit (.str (aj [124]))) (.bin .mod (.aG 8 (.lit (.int 3))) (.lit (.int 4)))))) (.cons (.loop (.one 13) (.dy (.bL 12)) (.cons (.asg 14 (.aG 12 (.bin .mod (.bin .add (.bin .fdiv (.aG 8 (.lit (.int 3))) (.lit (.int 4))) (.var 13)) (.bL 12)))) (.cons (.asg 15 (.bin .mod (.bin .fdiv (.aG 8 (.lit (.int 4))) (.bin .pow (.lit (.int 5)) (.var 13))) (.bin .sub (.bL 11) (.lit (.int 1))))) (.cons (.mul [17,18] [.val (.aG 11 (.var 15)),.val (.aG 11 (.bin .add (.var 15) (.lit (.int 1))))]) (.cons (.asg 16 (.bin .add (.list (.cons (.list (.cons (.var 14) (.cons (.aG 17 (.lit (.int 0))) (.cons (.aG 18 (.lit (.int 0))) .nil)))) .nil)) (.comp [19] (.one 19) (.data (.tup (.cons (.lit (.int 1)) (.cons (.lit (.int 2)) .nil)))) .nil .nil (.bin .add (.bin .add (.bin .add (.bin .add (.lit (.str (aj [40]))) (.aG 17 (.var 19))) (.var 14)) (.aG 18 (.var 19))) (.lit (.str (aj [41]))))))) (.cons (.asg 11 (.bin .add (.bin .add (.cw 11 .none (.some (.var 15)) .none) (.list (.cons (.var 16) .nil))) (.cw 11 (.some (.bin .add (.var 15) (.lit (.int 2)))) .none .none))) .nil)))))) (.cons (.fz [10] (.ret (.tup (.cons (.var 10) (.cons (.var 11) .nil))))) .nil))))))
noncomputable def b6:bP:=(.cons (.mul [22,23,24] [.fN [((aj [40]),7),((aj [41]),8),((aj [42]),16),((aj [124]),18),((aj [44]),12),((aj [92]),0)],.nz,.val (.lit (.int 0))]) (.cons (.loop (.two 25 26) (.gen (.var 20)) (.cons (.aug 24 .add (.bL 26)) (.cons (.asg 27 (.and (.cmp (.bL 26) (.cons .eq (.lit (.int 1)) .nil)) (.uL (.var 26) 22))) (.cons (.asg 28 (.tok (.var 26) (.ite (.var 27) (.bin .add (.lit (.int 256)) (.prim .len (.cons (.mf 21) .nil))) (.lit (.int 0))))) (.cons (.asg 28 (.ite (.cmp (.bL 26) (.cons .eq (.lit (.int 2)) .nil)) (.bin .sub (.lit (.int 255)) (.bin .mul (.lit (.int 256)) (.bin .mod (.var 25) (.lit (.int 2))))) (.var 28))) (.cons (.asg 29 (.list (.cons (.var 25) (.cons (.var 28) (.cons (.prim .str (.cons (.call 2 (.cons (.var 28) .nil)) .nil)) (.cons (.prim .str (.cons (.call 3 (.cons (.var 28) .nil)) .nil)) (.cons (.prim .str (.cons (.call 4 (.cons (.var 28) .nil)) .nil)) .nil))))))) (.cons (.ite (.cmp (.var 29) (.cons .ne (.list (.cons (.bin .sub (.var 24) (.lit (.int 1))) (.cons (.wY 22 (.var 26) (.var 28)) (.cons (.prim .str (.cons (.not (.var 27)) .nil)) (.cons (.prim .str (.cons (.var 27) .nil)) (.cons (.prim .str (.cons (.cmp (.var 24) (.cons .eq (.bL 20) .nil)) .nil)) .nil)))))) .nil)) (.cons (.fz [23] (.ret (.lit .none))) .nil) .nil) (.cons (.ite (.var 27) (.cons (.yT 21 (.var 26) (.prim .str (.cons (.bin .sub (.var 28) (.lit (.int 256))) .nil)) 23 (.bin .sub (.var 28) (.lit (.int 256)))) .nil) (.cons (.ite (.cmp (.var 28) (.cons .isin (.tup (.cons (.lit (.int 16)) (.cons (.lit (.int 18)) .nil))) .nil)) (.cons (.app 23 (.ite (.cmp (.var 28) (.cons .eq (.lit (.int 16)) .nil)) (.lit (.str (aj [42]))) (.lit (.str (aj [124]))))) .nil) (.cons (.ite (.cmp (.var 28) (.cons .eq (.lit (.int 8)) .nil)) (.cons (.own 23 (.bin .add (.cw 23 .none (.some (.lit (.int (-3)))) .none) (.list (.cons (.list (.cons (.aG 23 (.lit (.int (-2)))) (.cons (.aG 23 (.lit (.int (-3)))) (.cons (.aG 23 (.lit (.int (-1)))) .nil)))) .nil)))) .nil) .nil) .nil)) .nil)) .nil)))))))) (.cons (.fz [23] (.ret (.ite (.cmp (.var 24) (.cons .eq (.bL 20) .nil)) (.var 23) (.lit .none)))) .nil)))
noncomputable def b7:bP:=(.cons (.asg 32 (.comp [34,7] (.one 34) (.data (.var 30)) .nil (.cons (.one 7) (.data (.var 34)) .nil .nil) (.var 7))) (.cons (.asg 33 (.sub (.comp [36] (.one 36) (.dy (.lit (.int 6))) (.cons (.cmp (.var 36) (.cons .ix (.var 32) .nil)) .nil) .nil (.var 36)) (.lit (.int 0)))) (.cons (.ret (.comp [35] (.one 35) (.data (.aG 31 (.var 33))) (.cons (.cmp (.var 35) (.cons .ix (.var 32) .nil)) .nil) .nil (.bin .add (.var 30) (.list (.cons (.list (.cons (.var 33) (.cons (.var 35) .nil))) .nil))))) .nil)))
noncomputable def b8:bP:=(.cons (.asg 39 (.comp [36,35] (.two 36 35) (.data (.var 30)) .nil .nil (.prim .sorted (.cons (.list (.cons (.bin .mod (.bin .sub (.var 36) (.var 37)) (.lit (.int 6))) (.cons (.bin .mod (.bin .sub (.var 35) (.var 37)) (.lit (.int 6))) .nil))) .nil)))) (.cons (.asg 40 (.comp [36,35] (.two 36 35) (.data (.var 39)) .nil .nil (.var 35))) (.cons (.asg 41 (.comp [13] (.one 13) (.dy (.lit (.int 6))) .nil .nil (.bin .add (.ite (.cmp (.var 13) (.cons .isin (.var 40) .nil)) (.lit (.str (aj [41]))) (.lit (.str (aj [40])))) (.aG 38 (.var 13))))) (.cons (.ret (.tup (.cons (.comp [36,35] (.two 36 35) (.data (.var 39)) .nil .nil (.prim .str (.cons (.call 1 (.cons (.prim .join (.cons (.lit (.str (aj []))) (.cons (.cw 41 (.some (.var 36)) (.some (.bin .add (.var 35) (.lit (.int 1)))) .none) .nil))) .nil)) .nil))) (.cons (.var 41) .nil)))) .nil))))
noncomputable def b9:bP:=(.cons (.ite (.prim .mc (.cons (.var 42) .nil)) (.cons (.fz [43] (.ret (.list (.cons (.list (.cons (.list (.cons (.var 42) .nil)) .nil)) .nil)))) .nil) .nil) (.cons (.own 43 (.list .nil)) (.cons (.loop (.one 17) (.data (.call 9 (.cons (.aG 42 (.lit (.int 1))) .nil))) (.cons (.loop (.one 18) (.data (.call 9 (.cons (.aG 42 (.lit (.int 2))) .nil))) (.cons (.ext 43 (.ite (.cmp (.aG 42 (.lit (.int 0))) (.cons .eq (.lit (.str (aj [42]))) .nil)) (.list (.cons (.bin .add (.bin .add (.list (.cons (.bin .add (.aG 17 (.lit (.int 0))) (.aG 18 (.lit (.int 0)))) .nil)) (.cw 17 (.some (.lit (.int 1))) .none .none)) (.cw 18 (.some (.lit (.int 1))) .none .none)) .nil)) (.list (.cons (.bin .add (.var 17) (.var 18)) (.cons (.bin .add (.var 18) (.var 17)) .nil))))) .nil)) .nil)) (.cons (.fz [43] (.ret (.var 43))) .nil))))
noncomputable def Ip:bP:=(.cons (.loop (.one 45) (.data (.var 44)) (.cons (.loop (.two 36 35) (.data (.var 30)) (.cons (.asg 40 (.comp [46] (.one 46) (.data (.var 45)) (.cons (.or (.cmp (.var 36) (.cons .isin (.var 46) .nil)) (.cmp (.var 35) (.cons .isin (.var 46) .nil))) .nil) .nil (.var 46))) (.cons (.ite (.cmp (.bL 40) (.cons .eq (.lit (.int 1)) .nil)) (.cons (.ret (.lit (.bool ag))) .nil) .nil) (.cons (.asg 45 (.bin .add (.comp [46] (.one 46) (.data (.var 45)) (.cons (.cmp (.var 46) (.cons .ix (.var 40) .nil)) .nil) .nil (.var 46)) (.list (.cons (.bin .add (.aG 40 (.lit (.int 0))) (.aG 40 (.lit (.int 1)))) .nil)))) .nil)))) .nil)) (.cons (.ret (.lit (.bool ae))) .nil))
noncomputable def Iq:bP:=(.cons (.loop (.one 13) (.dy (.bL 47)) (.cons (.ite (.and (.not (.prim .mc (.cons (.aG 47 (.var 13)) .nil))) (.cmp (.sub (.aG 47 (.var 13)) (.lit (.int 0))) (.cons .eq (.lit (.str (aj [124]))) .nil))) (.cons (.fz [43] (.ret (.call 11 (.cons (.bin .add (.bin .add (.cw 47 .none (.some (.var 13)) .none) (.slice (.aG 47 (.var 13)) (.some (.lit (.int 1))) .none .none)) (.cw 47 (.some (.bin .add (.var 13) (.lit (.int 1)))) .none .none)) (.cons (.var 10) (.cons (.var 48) .nil)))))) .nil) .nil) .nil)) (.cons (.own 43 (.list .nil)) (.cons (.ite (.and (.cmp (.comp [13] (.one 13) (.data (.var 47)) (.cons (.not (.prim .mc (.cons (.var 13) .nil))) .nil) .nil (.var 13)) (.cons .eq (.list .nil) .nil)) (.cmp (.prim .join (.cons (.lit (.str (aj []))) (.cons (.comp [13] (.one 13) (.data (.var 47)) .nil .nil (.aG 10 (.var 13))) .nil))) (.cons .isin (.tup (.cons (.lit (.str (aj [97,65]))) (.cons (.lit (.str (aj [65,97]))) (.cons (.lit (.str (aj [98,66]))) (.cons (.lit (.str (aj [66,98]))) .nil))))) .nil))) (.cons (.app 43 (.list (.cons (.prim .sorted (.cons (.var 47) .nil)) .nil))) .nil) .nil) (.cons (.loop (.one 13) (.dy (.bL 47)) (.cons (.asg 49 (.bin .add (.cw 47 (.some (.bin .add (.var 13) (.lit (.int 1)))) .none .none) (.cw 47 .none (.some (.var 13)) .none))) (.cons (.loop (.one 50) (.dy (.ite (.prim .mc (.cons (.aG 47 (.var 13)) .nil)) (.lit (.int 0)) (.bin .pow (.lit (.int 2)) (.bL 49)))) (.cons (.ite (.or (.not (.var 48)) (.cmp (.bin .band (.var 50) (.bin .add (.var 50) (.lit (.int 1)))) (.cons .eq (.lit (.int 0)) .nil))) (.cons (.asg 51 (.bin .add (.comp [53] (.one 53) (.dy (.bL 49)) (.cons (.cmp (.bin .band (.bin .shr (.var 50) (.var 53)) (.lit (.int 1))) (.cons .eq (.lit (.int 0)) .nil)) .nil) .nil (.aG 49 (.var 53))) (.list (.cons (.sub (.aG 47 (.var 13)) (.lit (.int 1))) .nil)))) (.cons (.asg 52 (.bin .add (.list (.cons (.sub (.aG 47 (.var 13)) (.lit (.int 2))) .nil)) (.comp [53] (.one 53) (.dy (.bL 49)) (.cons (.cmp (.bin .band (.bin .shr (.var 50) (.var 53)) (.lit (.int 1))) (.cons .eq (.lit (.int 1)) .nil)) .nil) .nil (.aG 49 (.var 53))))) (.cons (.loop (.one 17) (.data (.call 11 (.cons (.var 51) (.cons (.var 10) (.cons (.var 48) .nil))))) (.cons (.ext 43 (.comp [18] (.one 18) (.data (.call 11 (.cons (.var 52) (.cons (.var 10) (.cons (.var 48) .nil))))) .nil .nil (.prim .sorted (.cons (.bin .add (.var 17) (.var 18)) .nil)))) .nil)) .nil))) .nil) .nil)) .nil))) (.cons (.fz [43] (.ret (.prim .sorted (.cons (.comp [13] (.one 13) (.dy (.bL 43)) (.cons (.cmp (.aG 43 (.var 13)) (.cons .ix (.cw 43 .none (.some (.var 13)) .none) .nil)) .nil) .nil (.aG 43 (.var 13))) .nil)))) .nil)))))
noncomputable def C6:bP:=(.cons (.asg 1 (.list (.cons (.lit (.int 101)) (.cons (.lit (.int 209)) (.cons (.lit (.int 311)) (.cons (.lit (.int 10)) (.cons (.lit (.int 181)) (.cons (.lit (.int 56634)) .nil)))))))) (.cons (.asg 8 (.comp [13] (.one 13) (.dy (.lit (.int 6))) .nil .nil (.bin .mod (.bin .add (.aG 1 (.var 13)) (.prim .sum (.cons (.comp [7] (.one 7) (.data (.cw 54 (.some (.var 13)) (.some (.lit (.int 60))) (.some (.lit (.int 6))))) .nil .nil (.bin .mod (.var 7) (.lit (.int 1000000)))) .nil))) (.lit (.int 1000000))))) (.cons (.asg 9 (.list (.cons (.tup (.cons (.lit (.str (aj []))) (.cons (.lit (.str (aj []))) .nil))) (.cons (.tup (.cons (.lit (.str (aj [92,41]))) (.cons (.lit (.str (aj [92,41]))) .nil))) (.cons (.tup (.cons (.lit (.str (aj [34,42,40,34]))) (.cons (.lit (.str (aj []))) .nil))) (.cons (.tup (.cons (.lit (.str (aj [92,124]))) (.cons (.lit (.str (aj [92,124]))) .nil))) (.cons (.tup (.cons (.lit (.str (aj [34,92,34,41,34]))) (.cons (.lit (.str (aj []))) .nil))) (.cons (.tup (.cons (.lit (.str (aj [92,34]))) (.cons (.lit (.str (aj [92,34]))) .nil))) (.cons (.tup (.cons (.lit (.str (aj [92,40]))) (.cons (.lit (.str (aj [92,40]))) .nil))) (.cons (.tup (.cons (.lit (.str (aj [92,92]))) (.cons (.lit (.str (aj [92,92]))) .nil))) .nil)))))))))) (.cons (.uR [10,11] (.call 5 (.cons (.var 8) (.cons (.var 9) .nil)))) (.cons (.asg 55 (.comp [62] (.one 62) (.data (.var 11)) .nil .nil (.aG 62 (.lit (.int 0))))) (.cons (.asg 12 (.bin .add (.comp [13] (.one 13) (.range (.lit (.int 1)) (.bL 11)) .nil .nil (.sub (.lit (.str (aj [44,9,11,127]))) (.bin .mod (.bin .fdiv (.aG 8 (.lit (.int 5))) (.bin .pow (.lit (.int 3)) (.var 13))) (.lit (.int 4))))) (.list (.cons (.lit (.str (aj [92]))) .nil)))) (.cons (.asg 41 (.comp [19] (.one 19) (.data (.tup (.cons (.lit (.int 1)) (.cons (.lit (.int 2)) .nil)))) .nil .nil (.prim .join (.cons (.lit (.str (aj []))) (.cons (.comp [13] (.one 13) (.dy (.bL 11)) .nil .nil (.bin .add (.sub (.aG 11 (.var 13)) (.var 19)) (.aG 12 (.var 13)))) .nil))))) (.cons (.jk 21) (.cons (.asg 20 (.call 0 (.cons (.aG 41 (.lit (.int 0))) .nil))) (.cons (.qV 23 6 21 (.cons (.var 20) .nil)) (.cons (.yS 21) (.cons (.ite (.or (.cmp (.var 20) (.cons .ne (.aG 41 (.lit (.int 1))) .nil)) (.or (.cmp (.var 23) (.cons .ne (.var 55) .nil)) (.cmp (.oH 21) (.cons .ne (.comp [13] (.one 13) (.dy (.lit (.int 6))) .nil .nil (.tup (.cons (.aG 10 (.var 13)) (.cons (.prim .str (.cons (.var 13) .nil)) .nil)))) .nil)))) (.cons (.fz [59,60] (.ret (.lit (.bool ag)))) .nil) .nil) (.cons (.asg 31 (.comp [27] (.one 27) (.data (.var 10)) .nil .nil (.comp [63] (.one 63) (.data (.jE 21 (.var 27))) (.cons (.cmp (.aG 10 (.prim .int (.cons (.var 63) .nil))) (.cons .ne (.var 27) .nil)) .nil) .nil (.prim .int (.cons (.var 63) .nil))))) (.cons (.mul [58,44,59,60] [.val (.list (.cons (.list .nil) .nil)),.val (.list (.cons (.list .nil) .nil)),.nz,.nz]) (.cons (.loop (.one 13) (.dy (.lit (.int 3))) (.cons (.asg 58 (.comp [30,64] (.one 30) (.data (.var 58)) .nil (.cons (.one 64) (.data (.call 7 (.cons (.var 30) (.cons (.var 31) .nil)))) .nil .nil) (.var 64))) .nil)) (.cons (.loop (.one 42) (.data (.var 23)) (.cons (.asg 44 (.comp [17,18] (.one 17) (.data (.var 44)) .nil (.cons (.one 18) (.data (.call 9 (.cons (.var 42) .nil))) .nil .nil) (.bin .add (.var 17) (.var 18)))) .nil)) (.cons (.asg 38 (.comp [13] (.one 13) (.dy (.lit (.int 6))) .nil .nil (.ite (.cmp (.bin .mod (.bin .add (.aG 8 (.lit (.int 5))) (.var 13)) (.lit (.int 3))) (.cons .eq (.lit (.int 0)) .nil)) (.sub (.aG 9 (.bin .fdiv (.bin .mod (.bin .add (.aG 8 (.lit (.int 5))) (.var 13)) (.lit (.int 24))) (.lit (.int 3)))) (.lit (.int 0))) (.lit (.str (aj [])))))) (.cons (.loop (.one 30) (.data (.var 58)) (.cons (.uR [29,41] (.call 8 (.cons (.var 30) (.cons (.lit (.int 0)) (.cons (.var 38) .nil))))) (.cons (.asg 61 (.comp [36,35,65,66] (.two 36 35) (.data (.var 30)) .nil (.cons (.two 65 66) (.data (.var 30)) (.cons (.cmp (.var 36) (.cons .lt (.var 65) (.cons .lt (.var 35) (.cons .lt (.var 66) .nil)))) .nil) .nil) (.var 36))) (.cons (.ite (.or (.cmp (.comp [17] (.one 17) (.data (.var 29)) (.cons (.cmp (.var 17) (.cons .ix (.tup (.cons (.lit (.str (aj [84,114,117,101]))) (.cons (.lit (.str (aj [70,97,108,115,101]))) .nil))) .nil)) .nil) .nil (.var 17)) (.cons .ne (.list .nil) .nil)) (.cmp (.cmp (.var 29) (.cons .eq (.bin .mul (.list (.cons (.lit (.str (aj [84,114,117,101]))) .nil)) (.lit (.int 3))) .nil)) (.cons .ne (.cmp (.var 61) (.cons .eq (.list .nil) .nil)) .nil))) (.cons (.fz [59,60] (.ret (.lit (.bool ag)))) .nil) .nil) (.cons (.ite (.call 10 (.cons (.var 44) (.cons (.var 30) .nil))) (.cons (.app 59 (.var 30)) (.cons (.ite (.cmp (.sub (.call 8 (.cons (.var 30) (.cons (.bin .add (.lit (.int 1)) (.bin .mod (.aG 8 (.lit (.int 5))) (.lit (.int 5)))) (.cons (.var 38) .nil)))) (.lit (.int 0))) (.cons .eq (.bin .mul (.list (.cons (.lit (.str (aj [84,114,117,101]))) .nil)) (.lit (.int 3))) .nil)) (.cons (.app 60 (.var 30)) .nil) .nil) .nil)) .nil) .nil))))) (.cons (.asg 56 (.bin .add (.list (.cons (.bin .add (.var 41) (.list (.cons (.lit (.str (aj [34,40]))) .nil))) (.cons (.bin .add (.var 41) (.list (.cons (.lit (.str (aj [34]))) .nil))) .nil))) (.comp [13] (.one 13) (.range (.lit (.int 1)) (.lit (.int 6))) .nil .nil (.bin .add (.cw 41 (.some (.var 13)) .none .none) (.cw 41 .none (.some (.var 13)) .none))))) (.cons (.asg 22 (.bin .add (.list (.cons (.lit (.str (aj [70,97,108,115,101]))) .nil)) (.comp [13] (.one 13) (.dy (.lit (.int 6))) .nil .nil (.prim .str (.cons (.cmp (.comp [36,35] (.two 36 35) (.data (.var 30)) (.cons (.cmp (.var 36) (.cons .lt (.var 13) (.cons .le (.var 35) .nil))) .nil) .nil (.var 36)) (.cons .eq (.list .nil) .nil)) .nil))))) (.cons (.fz [59] (.asg 57 (.and (.cmp (.comp [17] (.one 17) (.data (.var 56)) .nil .nil (.prim .str (.cons (.call 1 (.cons (.prim .join (.cons (.lit (.str (aj []))) (.cons (.var 17) .nil))) .nil)) .nil))) (.cons .eq (.var 22) .nil)) (.cmp (.var 59) (.cons .eq (.call 11 (.cons (.var 55) (.cons (.var 10) (.cons (.lit (.bool ag)) .nil)))) .nil))))) (.cons (.fz [59,60] (.ret (.and (.var 57) (.cmp (.var 60) (.cons .eq (.call 11 (.cons (.var 55) (.cons (.var 10) (.cons (.lit (.bool ae)) .nil)))) .nil))))) .nil))))))))))))))))))))))
noncomputable def aH:Nat→Option Fn
 |0=>aa ⟨[0],b0⟩
 |1=>aa ⟨[0],b1⟩
 |2=>aa ⟨[7],b2⟩
 |3=>aa ⟨[7],b3⟩
 |4=>aa ⟨[7],b4⟩
 |5=>aa ⟨[8,9],b5⟩
 |6=>aa ⟨[20,21],b6⟩
 |7=>aa ⟨[30,31],b7⟩
 |8=>aa ⟨[30,37,38],b8⟩
 |9=>aa ⟨[42],b9⟩
 |10=>aa ⟨[44,30],Ip⟩
 |11=>aa ⟨[47,10,48],Iq⟩
 |12=>aa ⟨[54],C6⟩
 |_=>af
noncomputable def ku(m c:ax)(i:Nat):Option bP:=match bR i with| .FunctionDef _ _ b _ _ _ sc .. =>BS (xs.wm m c) sc.names b|_=>af
theorem acm:ku [3] [] 4=aa b0:=by kernel_rfl
theorem acn:ku [] [] 5=aa b1:=by kernel_rfl
theorem aco:ku [] [] 58=aa b2:=by kernel_rfl
theorem acp:ku [] [] 59=aa b3:=by kernel_rfl
theorem acq:ku [] [] 60=aa b4:=by kernel_rfl
theorem acr:ku [10] [] 68=aa b5:=by kernel_rfl
theorem acs:ku [23] [22] 69=aa b6:=by kernel_rfl
theorem acu:ku [] [] 70=aa b7:=by kernel_rfl
theorem acv:ku [] [] 71=aa b8:=by kernel_rfl
theorem acw:ku [43] [] 72=aa b9:=by kernel_rfl
theorem acx:ku [] [] 73=aa Ip:=by kernel_rfl
theorem acy:ku [43] [] 74=aa Iq:=by kernel_rfl
theorem acz:ku [59,60] [] 75=aa C6:=by kernel_rfl
end
section
open PySem.W
noncomputable def mO:yr:=PySem.W.view P0 [75]
noncomputable def r0:List ah:=(P0.main.body.take 75).flatMap bindsAtTop
noncomputable def nS(i:Nat):ah:=fns.getD i iw
noncomputable def qi:List aE:=[52,59,69,76,83,236,243,248,253,260,265,270,275]
noncomputable def eB(n:aE)(x:ah)(v:Option ak):aE × ah × Option ak:=(n,x,v)
noncomputable def Qg:List (ah × ak):=[(rp,.builtin "len"),(lE,.type "str"),(rq,.type "int"),(xd,.builtin "sum"),(zd,.builtin "sorted"),(mx,.type "ValueError"),(oM,.builtin "isinstance"),(rr,.type "range"),(nW,.type "enumerate"),("type",.type "type"),("list",.type "list")]
noncomputable def Ai:List (aE × ah × Option ak):=
 [eB 3 (nS 0) (aa (.ref 52)),eB 3 (nS 1) (aa (.ref 59)),eB 3 (nS 2) (aa (.ref 69)),eB 3 (nS 3) (aa (.ref 76)),eB 3 (nS 4) (aa (.ref 83)),eB 3 (nS 5) (aa (.ref 236)),
  eB 3 (nS 6) (aa (.ref 243)),eB 3 (nS 7) (aa (.ref 248)),eB 3 (nS 8) (aa (.ref 253)),eB 3 (nS 9) (aa (.ref 260)),eB 3 (nS 10) (aa (.ref 265)),eB 3 (nS 11) (aa (.ref 270)),eB 3 (nS 12) (aa (.ref 275)),
  eB 3 u3 (aa (.ref 45)),eB 3 zf (aa (.ref 60)),eB 3 mw (aa (.ref 227)),eB 3 "_name_disallowed_re" (aa (.ref 93)),eB 3 "_value_disallowed_re" (aa (.ref 98)),
  eB 226 "__init__" (aa (.ref 121)),eB 226 km (aa (.ref 128)),eB 226 pM (aa (.ref 166)),eB 226 rt (aa (.ref 179)),eB 226 nG (aa (.ref 191)),eB 226 rz (aa (.ref 224)),
  eB 226 "__getattribute__" af,eB 226 "__getattr__" af,eB 226 "__setattr__" af,eB 226 "_headers" af,eB cStatics "sys.recursionlimit" af]++Qg.map (λp=>eB 3 p.1 af)++Qg.map (λp=>eB 0 p.1 (aa p.2))
noncomputable def Ir(h:aP)(fd:pw):Bool:=
 match fd.code with
 | .ref c=>match h.get? c with
  |some o=>match o.data with
   | .fields vs=>match (vs[1]? :Option ak)with
    |some (.str q _)=>Ev.sEq q fd.qualname
    |_=>ag
   |_=>ag
  |none=>ag
 |_=>ag
noncomputable abbrev FO:Type:=ak × Arguments × FuncBody × mZ × aE × List (ah × aE) × aE × ak × ak × Bool
noncomputable def Aj(h:aP)(a:aE):Option FO:=
 match h.get? a with
 |some o=>match o.data with
  | .func fd=>aa (o.cls,fd.params,fd.body,fd.scope,fd.globals,fd.closure,fd.builtins,fd.defaults,fd.kwdefaults,Ir h fd)
  |_=>af
 |none=>af
noncomputable def Ak(st:a9)(dv:ak):Option FO:=
 match st with
 | .FunctionDef _ ps b _ _ _ sc .. =>aa (.type "function",ps,.stmts b,sc,gn,[],jB,dv,.none,ae)
 |_=>af
noncomputable def xQ:List (aE × a9 × ak):=
 [(52,bR 4,.none),(59,bR 5,.none),(69,bR 58,.none),(76,bR 59,.none),(83,bR 60,.none),(236,bR 68,.none),(243,bR 69,.none),(248,bR 70,.none),(253,bR 71,.none),(260,bR 72,.none),(265,bR 73,.none),(270,bR 74,.none),(275,bR 75,.none),
  (45,bR 3,.none),(121,cF 0,.ref 114),(128,cF 1,.none),(166,cF 7,.none),(179,cF 9,.none),(191,cF 11,.none),(224,cF 16,.none)]
noncomputable def Iu(h:aP)(a:aE):Option (ak × List ak):=
 match h.get? a with
 |some o=>match o.data with| .seq vs _=>aa (o.cls,vs.toList)|_=>af
 |none=>af
noncomputable def xR(h:aP)(a:aE):Option (ak × Option aE × ak × Nat × Nat):=
 match h.get? a with
 |some o=>match o.data with| .fields fs=>aa (o.cls,o.dict,fs.getD 5 .none,Bh (fs.getD 6 .none),Bh (fs.getD 2 .none))|_=>af
 |none=>af
noncomputable def xT(h:aP)(a:aE):Option (List Nat):=
 match h.get? a with
 |some o=>match o.data with| .seq items _=>aa ((items.toList.map UO).map (·.toNat))|_=>af
 |none=>af
noncomputable abbrev TO:Type:=ak × Option aE × Array (Option ak) × List (Int × Option ah × Option Int)
noncomputable def Iw(h:aP)(a:aE):Option TO:=
 match h.get? a with
 |some o=>match o.data with| .dict es _=>aa (o.cls,o.dict,o.slots,es.toList.map λe=>(e.hash,(match e.key with| .str x _=>aa x|_=>af),(match e.val with| .int i _=>aa i|_=>af)))|_=>af
 |none=>af
noncomputable def Iy(w:cM):Option TO:=aa (.type "dict",af,#[],tok.map λp=>(hashStr w p.1,aa p.1,aa p.2))
noncomputable def Al(v:Option ak):Option Int:=match v with|some (.int i _)=>aa i|_=>af
noncomputable def cD(m:gw):lS:=⟨"Headers","Headers",226,[.type "object"],[],[],af,af,af,af,aa (.str "Headers" 649),aa (.str "Headers" 657),aa (.bool ae),"object.__new__",m⟩
structure nX where
 ns:List Bool
 qs:List (Option ak)
 is:List (Option Int)
 fs:List (Option FO)
 ts:List (Option (ak × List ak))
 rs:List (Option (ak × Option aE × ak × Nat × Nat))
 cs:List (Option (List Nat))
 cl:Option fI
 tk:Option TO
noncomputable def qj(nm:aP→aE→ah→Option ak)(h:aP):nX:=
 ⟨[h.isNs gn,h.isNs jB,h.isNs cStatics,h.isNs 226],Ai.map λx=>nm h x.1 x.2.1,bH.map λx=>Al (nm h gn x.1),xQ.map λx=>Aj h x.1,
  [Iu h 114],[xR h 93,xR h 98],[xT h 92,xT h 97],h.get? 227,Iw h 60⟩
noncomputable def obs(s:ay):nX:=qj KZ s.heap
noncomputable def o8(w:cM):nX:=
 ⟨[ae,ae,ae,ae],Ai.map λx=>x.2.2,bH.map λx=>aa x.2,xQ.map λx=>Ak x.2.1 x.2.2,
  [aa (.type "tuple",[.none])],[aa (.type "re.Pattern",af,.ref 92,0,0),aa (.type "re.Pattern",af,.ref 97,0,0)],[aa iK.toList,aa jO.toList],
  aa ((cD λZ=>af).obj 227),Iy w⟩
end
section
open PySem.W PySem.W.Fast
noncomputable def Am(w:cM):Option ay:=
 (tw10274390034422433532 tw14364793385576792824 (opening P0) w 6000 (tw1435165496053646825 (opening P0)).1 (tw1435165496053646825 (opening P0)).2).bind (tw14289696077712309145 P0)
noncomputable def xU(w:cM)(aT:ay):Option ay:=
 match aT.heap.isNs gn&&aT.gens.size == 0 with
 |true=>(tw14082659384304107361 tw14364793385576792824 P0 w aT.heap.objs.size (tw8920871248978507458 aT.heap gn "__annotations__") 6000 aT (topStub P0)).bind λai=>match staticsOk (EJ P0.main.body) aT.heap ai.heap&&namesBound P0 ai.heap&&gensDone ai&&laidKept aT.heap ai.heap with
   |true=>aa ai
   |false=>af
 |false=>af
theorem acA(w:cM):fencedOpening treeTable P0 w 6000=Am w:=by unfold fencedOpening Am;rw[te10274390034422433532,te14289696077712309145,te14364793385576792824,te1435165496053646825]
theorem acB(w:cM)(aT:ay):topFrom treeTable P0 w 6000 aT=xU w aT:=by unfold topFrom xU;rw[te14082659384304107361,te14364793385576792824,te8920871248978507458];rfl
theorem acC(w:cM):((Am (w.withFollow "special-get-raises" ag)).bind (xU (w.withFollow "special-get-raises" ag))).map (λs=>(tw4187177175401517315 mO r0 (EJ P0.main.body) (λZ=>ae) ae s,qj tw8920871248978507458 s.heap))=
  aa (openGood mO r0,o8 (w.withFollow "special-get-raises" ag)):=by kernel_rfl
theorem acD(w:cM):((Am (w.withFollow "special-get-raises" ae)).bind (xU (w.withFollow "special-get-raises" ae))).map (λs=>(tw4187177175401517315 mO r0 (EJ P0.main.body) (λZ=>ae) ae s,qj tw8920871248978507458 s.heap))=
  aa (openGood mO r0,o8 (w.withFollow "special-get-raises" ae)):=by kernel_rfl
theorem acE:LeftO P0 mO r0 (λZ=>ae) obs o8 6000:=by
 have e:∀w,(openEnds treeTable P0 w 6000).map (λs=>(openSeen mO r0 (EJ P0.main.body) (λZ=>ae) ae s,obs s))=
   ((Am w).bind (xU w)).map (λs=>(tw4187177175401517315 mO r0 (EJ P0.main.body) (λZ=>ae) ae s,qj tw8920871248978507458 s.heap)):=λw=>by
  unfold openEnds;rw[acA,show topFrom treeTable P0 w 6000=xU w from funext (acB w),te4187177175401517315];unfold obs;rw[te8920871248978507458]
 refine byRow2 "special-get-raises" (λw=>?_) (λw=>?_)
 ·exact(e _).trans (acC w)
 ·exact(e _).trans (acD w)
end
section
open PySem.W
noncomputable def Iz:a9→Arguments| .FunctionDef _ ps .. =>ps|_=>default
noncomputable def nY:a9→List a9| .FunctionDef _ _ b .. =>b|_=>[]
noncomputable def dF:a9→mZ| .FunctionDef _ _ _ _ _ _ sc .. =>sc|_=>default
noncomputable def isFn:a9→Bool| .FunctionDef .. =>ae|_=>ag
structure fT(fd:pw)(st:a9)(dv:ak):Prop where
 params:fd.params=Iz st
 body:fd.body=.stmts (nY st)
 scope:fd.scope=dF st
 gl:fd.globals=gn
 gD:fd.closure=[]
 bi:fd.builtins=jB
 df:fd.defaults=dv
 kd:fd.kwdefaults=.none
noncomputable def fnAt(h:aP)(a:aE):Option pw:=match h.get? a with|some o=>(match o.data with| .func fd=>aa fd|_=>af)|none=>af
noncomputable def acF(h:aP)(fd:pw):Prop:=∃c oc vs t,fd.code=.ref c∧h.get? c=aa oc∧oc.data=.fields vs∧vs[1]? =aa (.str fd.qualname t)
set_option tactic.hygienic true in
theorem acG{h:aP}(e:Ir h fd):acF h fd:=by
 unfold Ir at e;split at e
 ·rename_i c hc;split at e
  ·rename_i o ho;split at e
   ·rename_i vs hv;split at e
    ·rename_i q t hq;have:=eE e;subst this;exact⟨c,o,vs,t,hc,ho,hv,hq⟩
    ·exact zF e
   ·exact zF e
  ·exact zF e
 ·exact zF e
inductive Qh(h:aP)(a:aE)(st:a9)(dv:ak):Prop
 |mk (o:fI) (fd:pw) (ho:h.get? a=aa o) (hc:o.cls=.type "function") (hd:o.data=.func fd) (hf:fnAt h a=aa fd) (F:fT fd st dv) (c:aE) (oc:fI) (vs:Array ak) (t:mY) (c1:fd.code=.ref c) (c2:h.get? c=aa oc) (c3:oc.data=.fields vs) (c4:vs[1]? =aa (.str fd.qualname t))
set_option tactic.hygienic true in
theorem IA{h:aP}{dv:ak}(hf:isFn st)(e:Aj h a=Ak st dv):Qh h a st dv:=by
 have hv:Ak st dv=aa (.type "function",Iz st,.stmts (nY st),dF st,gn,[],jB,dv,.none,ae):=by
  induction st using KJ<;>first|rfl|exact zF hf
 replace e:=hv▸e;unfold Aj at e;induction ho:h.get? a with
 |none=>exact zN (ho▸e)
 |some o=>
  replace e:=ho▸e;dsimp only at e;split at e
  ·rename_i fd hd;have e:=iq e;simp only[yt]at e;obtain⟨e1,e2,e3,e4,e5,e6,e7,e8,e9,my⟩:=e;obtain⟨c,oc,vs,t,c1,c2,c3,c4⟩:=acG my;exact⟨o,fd,ho,e1,hd,by unfold fnAt;refine rE ho ?_;simp only[hd],⟨e2,e3,e4,e5,e6,e7,e8,e9⟩,c,oc,vs,t,c1,c2,c3,c4⟩
  ·exact zN e
noncomputable def Qi(sc:mZ)(ps:List ah):Bool:=
 sc.names.all (λp=>p.2 !=.free)&& !sc.isCoroutine&& !sc.isGenerator&&(match sc.kind with| .function=>ae|_=>ag)&&decide ps.Nodup&&ps.all λx=>match sc.names.lookup x with|some .local=>ae|some .cell=>ae|_=>ag
theorem acH{m c:ax}(h:isFn (bR i)):ku m c i=BS (xs.wm m c) (dF (bR i)).names (nY (bR i)):=by
 unfold ku;generalize bR i=st at h;induction st using KJ<;>first|rfl|exact zF h
set_option tactic.hygienic true in
theorem mP{m c:ax}{ps:List ah}{fn:Fn}(F:fT fd (bR i) .none)(h1:isFn (bR i))(h2:ku m c i=aa fn.body)(h3:ps.map (λx=>aZ x names)=fn.params.map aa)
  (h4:fd.params=Iz (bR i)→fd.defaults=.none→fd.kwdefaults=.none→∀vals:List ak,vals.length=ps.length→jD fd ⟨vals,[]⟩=pure (ps.zip vals)) (h5:Qi (dF (bR i)) ps):gh xs fd fn:=by
 unfold Qi at h5;simp only[jW,UG]at h5;obtain⟨⟨⟨⟨⟨s1,s2⟩,s3⟩,s4⟩,s5⟩,s6⟩:=h5;rw[← F.scope]at s1 s2 s3 s4 s6;refine⟨⟨nY (bR i),ps,m,c,F.body,?_,h4 F.params F.df F.kd,h3,of_decide_eq_true s5,λx hx=>?_⟩,F.gD,F.gl,F.bi,s1,s2,s3,?_⟩
 ·exact rE F.scope (rS (acH h1) h2)
 ·have:=fj.mp s6 x hx;split at this
  ·rename_i q;exact .inl q
  ·rename_i q;exact .inr q
  ·exact zF this
 ·split at s4
  ·rename_i q;exact q
  ·exact zF s4
theorem Qj:isFn (bR 4):=by kernel_rfl
theorem acI(F:fT fd (bR 4) .none):gh xs fd ⟨[0],b0⟩:=by
 refine mP (m:=[3]) (c:=[]) (ps:=[names.getD 0 iw]) F Qj acm (by kernel_rfl) (λh1 h2 h3 vals hv=>?_) (by kernel_rfl);rcases vals with _| ⟨a0,_| ⟨a1,r⟩⟩<;>first| (simp at hv;done)|skip
 obtain⟨n,q,pp,b,sc,g,cl,df,kd,dc,pm,an,cd,ct,bi⟩:=fd;dsimp only at h1 h2 h3;subst h1 h2 h3;kernel_rfl
theorem Qk:isFn (bR 5):=by kernel_rfl
theorem acJ(F:fT fd (bR 5) .none):gh xs fd ⟨[0],b1⟩:=by
 refine mP (m:=[]) (c:=[]) (ps:=[names.getD 0 iw]) F Qk acn (by kernel_rfl) (λh1 h2 h3 vals hv=>?_) (by kernel_rfl);rcases vals with _| ⟨a0,_| ⟨a1,r⟩⟩<;>first| (simp at hv;done)|skip
 obtain⟨n,q,pp,b,sc,g,cl,df,kd,dc,pm,an,cd,ct,bi⟩:=fd;dsimp only at h1 h2 h3;subst h1 h2 h3;kernel_rfl
theorem Ql:isFn (bR 58):=by kernel_rfl
theorem acK(F:fT fd (bR 58) .none):gh xs fd ⟨[7],b2⟩:=by
 refine mP (m:=[]) (c:=[]) (ps:=[names.getD 7 iw]) F Ql aco (by kernel_rfl) (λh1 h2 h3 vals hv=>?_) (by kernel_rfl);rcases vals with _| ⟨a0,_| ⟨a1,r⟩⟩<;>first| (simp at hv;done)|skip
 obtain⟨n,q,pp,b,sc,g,cl,df,kd,dc,pm,an,cd,ct,bi⟩:=fd;dsimp only at h1 h2 h3;subst h1 h2 h3;kernel_rfl
theorem Qm:isFn (bR 59):=by kernel_rfl
theorem acL(F:fT fd (bR 59) .none):gh xs fd ⟨[7],b3⟩:=by
 refine mP (m:=[]) (c:=[]) (ps:=[names.getD 7 iw]) F Qm acp (by kernel_rfl) (λh1 h2 h3 vals hv=>?_) (by kernel_rfl);rcases vals with _| ⟨a0,_| ⟨a1,r⟩⟩<;>first| (simp at hv;done)|skip
 obtain⟨n,q,pp,b,sc,g,cl,df,kd,dc,pm,an,cd,ct,bi⟩:=fd;dsimp only at h1 h2 h3;subst h1 h2 h3;kernel_rfl
theorem Qn:isFn (bR 60):=by kernel_rfl
theorem acM(F:fT fd (bR 60) .none):gh xs fd ⟨[7],b4⟩:=by
 refine mP (m:=[]) (c:=[]) (ps:=[names.getD 7 iw]) F Qn acq (by kernel_rfl) (λh1 h2 h3 vals hv=>?_) (by kernel_rfl);rcases vals with _| ⟨a0,_| ⟨a1,r⟩⟩<;>first| (simp at hv;done)|skip
 obtain⟨n,q,pp,b,sc,g,cl,df,kd,dc,pm,an,cd,ct,bi⟩:=fd;dsimp only at h1 h2 h3;subst h1 h2 h3;kernel_rfl
theorem Qo:isFn (bR 68):=by kernel_rfl
theorem acN(F:fT fd (bR 68) .none):gh xs fd ⟨[8,9],b5⟩:=by
 refine mP (m:=[10]) (c:=[]) (ps:=[names.getD 8 iw,names.getD 9 iw]) F Qo acr (by kernel_rfl) (λh1 h2 h3 vals hv=>?_) (by kernel_rfl);rcases vals with _| ⟨a0,_| ⟨a1,_| ⟨a2,r⟩⟩⟩<;>first| (simp at hv;done)|skip
 obtain⟨n,q,pp,b,sc,g,cl,df,kd,dc,pm,an,cd,ct,bi⟩:=fd;dsimp only at h1 h2 h3;subst h1 h2 h3;kernel_rfl
theorem Qp:isFn (bR 69):=by kernel_rfl
theorem acO(F:fT fd (bR 69) .none):gh xs fd ⟨[20,21],b6⟩:=by
 refine mP (m:=[23]) (c:=[22]) (ps:=[names.getD 20 iw,names.getD 21 iw]) F Qp acs (by kernel_rfl) (λh1 h2 h3 vals hv=>?_) (by kernel_rfl);rcases vals with _| ⟨a0,_| ⟨a1,_| ⟨a2,r⟩⟩⟩<;>first| (simp at hv;done)|skip
 obtain⟨n,q,pp,b,sc,g,cl,df,kd,dc,pm,an,cd,ct,bi⟩:=fd;dsimp only at h1 h2 h3;subst h1 h2 h3;kernel_rfl
theorem Qq:isFn (bR 70):=by kernel_rfl
theorem acP(F:fT fd (bR 70) .none):gh xs fd ⟨[30,31],b7⟩:=by
 refine mP (m:=[]) (c:=[]) (ps:=[names.getD 30 iw,names.getD 31 iw]) F Qq acu (by kernel_rfl) (λh1 h2 h3 vals hv=>?_) (by kernel_rfl);rcases vals with _| ⟨a0,_| ⟨a1,_| ⟨a2,r⟩⟩⟩<;>first| (simp at hv;done)|skip
 obtain⟨n,q,pp,b,sc,g,cl,df,kd,dc,pm,an,cd,ct,bi⟩:=fd;dsimp only at h1 h2 h3;subst h1 h2 h3;kernel_rfl
theorem Qr:isFn (bR 71):=by kernel_rfl
theorem acQ(F:fT fd (bR 71) .none):gh xs fd ⟨[30,37,38],b8⟩:=by
 refine mP (m:=[]) (c:=[]) (ps:=[names.getD 30 iw,names.getD 37 iw,names.getD 38 iw]) F Qr acv (by kernel_rfl) (λh1 h2 h3 vals hv=>?_) (by kernel_rfl);rcases vals with _| ⟨a0,_| ⟨a1,_| ⟨a2,_| ⟨a3,r⟩⟩⟩⟩<;>first| (simp at hv;done)|skip
 obtain⟨n,q,pp,b,sc,g,cl,df,kd,dc,pm,an,cd,ct,bi⟩:=fd;dsimp only at h1 h2 h3;subst h1 h2 h3;kernel_rfl
theorem Qs:isFn (bR 72):=by kernel_rfl
theorem acR(F:fT fd (bR 72) .none):gh xs fd ⟨[42],b9⟩:=by
 refine mP (m:=[43]) (c:=[]) (ps:=[names.getD 42 iw]) F Qs acw (by kernel_rfl) (λh1 h2 h3 vals hv=>?_) (by kernel_rfl);rcases vals with _| ⟨a0,_| ⟨a1,r⟩⟩<;>first| (simp at hv;done)|skip
 obtain⟨n,q,pp,b,sc,g,cl,df,kd,dc,pm,an,cd,ct,bi⟩:=fd;dsimp only at h1 h2 h3;subst h1 h2 h3;kernel_rfl
theorem Qt:isFn (bR 73):=by kernel_rfl
theorem acS(F:fT fd (bR 73) .none):gh xs fd ⟨[44,30],Ip⟩:=by
 refine mP (m:=[]) (c:=[]) (ps:=[names.getD 44 iw,names.getD 30 iw]) F Qt acx (by kernel_rfl) (λh1 h2 h3 vals hv=>?_) (by kernel_rfl);rcases vals with _| ⟨a0,_| ⟨a1,_| ⟨a2,r⟩⟩⟩<;>first| (simp at hv;done)|skip
 obtain⟨n,q,pp,b,sc,g,cl,df,kd,dc,pm,an,cd,ct,bi⟩:=fd;dsimp only at h1 h2 h3;subst h1 h2 h3;kernel_rfl
theorem Qu:isFn (bR 74):=by kernel_rfl
theorem acT(F:fT fd (bR 74) .none):gh xs fd ⟨[47,10,48],Iq⟩:=by
 refine mP (m:=[43]) (c:=[]) (ps:=[names.getD 47 iw,names.getD 10 iw,names.getD 48 iw]) F Qu acy (by kernel_rfl) (λh1 h2 h3 vals hv=>?_) (by kernel_rfl);rcases vals with _| ⟨a0,_| ⟨a1,_| ⟨a2,_| ⟨a3,r⟩⟩⟩⟩<;>first| (simp at hv;done)|skip
 obtain⟨n,q,pp,b,sc,g,cl,df,kd,dc,pm,an,cd,ct,bi⟩:=fd;dsimp only at h1 h2 h3;subst h1 h2 h3;kernel_rfl
theorem Qv:isFn (bR 75):=by kernel_rfl
theorem acU(F:fT fd (bR 75) .none):gh xs fd ⟨[54],C6⟩:=by
 refine mP (m:=[59,60]) (c:=[]) (ps:=[names.getD 54 iw]) F Qv acz (by kernel_rfl) (λh1 h2 h3 vals hv=>?_) (by kernel_rfl);rcases vals with _| ⟨a0,_| ⟨a1,r⟩⟩<;>first| (simp at hv;done)|skip
 obtain⟨n,q,pp,b,sc,g,cl,df,kd,dc,pm,an,cd,ct,bi⟩:=fd;dsimp only at h1 h2 h3;subst h1 h2 h3;kernel_rfl
end
section
open PySem.W
noncomputable def KK(w:cM)(h:aP):Kt:=⟨w,xs,tok,h.nsMap 3,h.nsMap 0,λi=>(qi[i]?).bind λa=>(fnAt h a).map λfd=>(a,fd),227,λa o=>h.get? a=aa o,af⟩
theorem IB{f g:α→β}{l:List α}(e:l.map f=l.map g){x:α}(h:l[i]? =aa x):f x=g x:=List.map_inj_left.mp e x (sI h)
section
variable{w:cM}{h:aP}(e:qj KZ h=o8 w)
include e
theorem cW{n:aE}{v:Option ak}(hq:Ai[i]? =aa (n,x,v)):h.nsMap n x=v:=IB (f:=λx:aE × ah × Option ak=>h.nsMap x.1 x.2.1) (g:=λx:aE × ah × Option ak=>x.2.2) (l:=Ai) (congrArg nX.qs e) hq
theorem IC{dv:ak}(hx:xQ[i]? =aa (a,st,dv)):Aj h a=Ak st dv:=IB (f:=λx:aE × a9 × ak=>Aj h x.1) (g:=λx:aE × a9 × ak=>Ak x.2.1 x.2.2) (l:=xQ) (congrArg nX.fs e) hx
theorem iAt{v:Int}(hq:bH[i]? =aa (x,v)):Al (h.nsMap gn x)=aa v:=IB (f:=λx:ah × Int=>Al (h.nsMap gn x.1)) (g:=λx:ah × Int=>aa x.2) (l:=bH) (congrArg nX.is e) hq
theorem C7:h.isNs gn∧h.isNs jB∧h.isNs cStatics∧h.isNs 226:=by have:=congrArg nX.ns e;simp only[qj,o8,EK,and_true]at this;exact this
set_option tactic.hygienic true in
theorem acV:∃o n,h.get? 114=aa o∧o.data=.seq #[.none] n:=by
 have:=congrArg nX.ts e;simp only[qj,o8,EK,and_true]at this;have ht:Iu h 114=aa (.type "tuple",[.none]):=this;unfold Iu at ht;induction ho:h.get? 114 with
 |none=>exact zN (ho▸ht)
 |some o=>
  replace ht:=ho▸ht;dsimp only at ht;split at ht
  ·rename_i vs n hd;have ht:=iq ht;simp only[yt]at ht;exact⟨o,n,rfl,by refine rE hd ?_;exact rE (show vs= #[.none]from Ks.mp ht.2) rfl⟩
  ·exact zN ht
omit e in
set_option tactic.hygienic true in
theorem Qw{c:aE}{code:Array Nat}(ha:xR h a=aa (.type "re.Pattern",af,.ref c,0,0))(hc:xT h c=aa code.toList):rW h (.ref a) code:=by
 unfold xR at ha;unfold xT at hc;induction ho:h.get? a with
 |none=>exact zN (ho▸ha)
 |some o=>
 induction rV:h.get? c with
 |none=>exact zN (rV▸hc)
 |some oc=>
  replace ha:=ho▸ha;replace hc:=rV▸hc;dsimp only at ha hc;split at ha
  ·rename_i fs hd;split at hc
   ·rename_i items n o4;have ha:=iq ha;simp only[yt]at ha;refine E3 ha λa1 a2 a3 a4 a5=>?_;have hc:=iq hc;exact⟨a,o,fs,c,oc,items,n,rfl,ho,a1,a2,hd,a3,a4,a5,rV,o4,Ks.mp (rE Kl (rE Kl hc))⟩
   ·exact zN hc
  ·exact zN ha
theorem xI:(xR h 93=aa (.type "re.Pattern",af,.ref 92,0,0)∧xR h 98=aa (.type "re.Pattern",af,.ref 97,0,0))∧(xT h 92=aa iK.toList∧xT h 97=aa jO.toList):=by have h1:=congrArg nX.rs e;have h2:=congrArg nX.cs e;simp only[qj,o8,EK,and_true]at h1 h2;exact⟨h1,h2⟩
omit e in
theorem Qx{v:Int}:∀ {l:gM},rm x l=aa v→∃i:Nat,l[i]? =aa (x,v):=by
 intro L0;induction L0 with
 |nil=>exact nofun
 |cons cx r ih=>
  obtain⟨y,k⟩:=cx;intro hh;replace hh:=(WG ..)▸hh;induction q:sEq y x with
  |true=>replace hh:=iJ (q▸hh);subst hh;exact⟨0,by refine rE (eE q) ?_;rfl⟩
  |false=>replace hh:=(cond_false ..)▸q▸hh;exact xE (ih hh) λi hi=>⟨i+1,Ki.trans hi⟩
omit e in
theorem ID:(∀x∈names,(x == ("__debug__" :ah))=ag∧(x == ("__classdict__" :ah))=ag)∧(∀x∈fns,(x == ("__debug__" :ah))=ag)∧(∀p∈bH,(p.1 == ("__debug__" :ah))=ag):=by decide+kernel
theorem fnG(hx:fns[i]? =aa x):∃a,qi[i]? =aa a∧h.nsMap 3 x=aa (.ref a):=by
 have c:∀ {j:Nat}{a:aE},qi[j]? =aa a→Ai[j]? =aa (3,nS j,aa (.ref a))→fns[j]? =aa x→∃a,qi[j]? =aa a∧h.nsMap 3 x=aa (.ref a):=λ{j a} h1 h2 h3=>by
  have:nS j=x:=by simp[nS,List.getD,h3]
  exact⟨a,h1,this▸cW e h2⟩
 rcases i with _|_|_|_|_|_|_|_|_|_|_|_|_|i
 ·exact c rfl rfl hx
 ·exact c rfl rfl hx
 ·exact c rfl rfl hx
 ·exact c rfl rfl hx
 ·exact c rfl rfl hx
 ·exact c rfl rfl hx
 ·exact c rfl rfl hx
 ·exact c rfl rfl hx
 ·exact c rfl rfl hx
 ·exact c rfl rfl hx
 ·exact c rfl rfl hx
 ·exact c rfl rfl hx
 ·exact c rfl rfl hx
 ·exact absurd hx (by simp[fns])
inductive Qy(h:aP)(i:Nat)(a:aE):Prop
 |mk (st:a9) (r:Qh h a st .none) (G:∀fd fn,fT fd st .none→aH i=aa fn→gh xs fd fn)
theorem mQ{fn:Fn}(hf:isFn st)(hx:xQ[j]? =aa (a,st,.none))(hn:aH i=aa fn)(G:∀ {fd},fT fd st .none→gh xs fd fn):Qy h i a:=
 ⟨st,IA hf (IC e hx),λfd fn' F q=>iJ (hn.symm.trans q)▸G F⟩
theorem C8(ha:qi[i]? =aa a):Qy h i a:=by
 rcases i with _|_|_|_|_|_|_|_|_|_|_|_|_|i
 ·replace ha:=iJ ha;subst ha;exact mQ e Qj (j:=0) rfl rfl acI
 ·replace ha:=iJ ha;subst ha;exact mQ e Qk (j:=1) rfl rfl acJ
 ·replace ha:=iJ ha;subst ha;exact mQ e Ql (j:=2) rfl rfl acK
 ·replace ha:=iJ ha;subst ha;exact mQ e Qm (j:=3) rfl rfl acL
 ·replace ha:=iJ ha;subst ha;exact mQ e Qn (j:=4) rfl rfl acM
 ·replace ha:=iJ ha;subst ha;exact mQ e Qo (j:=5) rfl rfl acN
 ·replace ha:=iJ ha;subst ha;exact mQ e Qp (j:=6) rfl rfl acO
 ·replace ha:=iJ ha;subst ha;exact mQ e Qq (j:=7) rfl rfl acP
 ·replace ha:=iJ ha;subst ha;exact mQ e Qr (j:=8) rfl rfl acQ
 ·replace ha:=iJ ha;subst ha;exact mQ e Qs (j:=9) rfl rfl acR
 ·replace ha:=iJ ha;subst ha;exact mQ e Qt (j:=10) rfl rfl acS
 ·replace ha:=iJ ha;subst ha;exact mQ e Qu (j:=11) rfl rfl acT
 ·replace ha:=iJ ha;subst ha;exact mQ e Qv (j:=12) rfl rfl acU
 ·exact absurd ha (by simp[qi])
omit e in
theorem Qz(hf:(KK w h).fo i=aa (a,fd)):qi[i]? =aa a∧fnAt h a=aa fd:=by refine aD (ahe.mp (hf:(qi[i]?).bind _=_)) λa' h1 h2=>aD (sJ.mp h2) λQA h3 h4=>iP h4 λe1 e2=>?_;clear h4;subst e1;subst e2;exact⟨h1,h3⟩
theorem acW:∀f a fd fn,(KK w h).fo f=aa (a,fd)→aH f=aa fn→gh (KK w h).X fd fn:=λf a fd fn hf hn=>by refine xA (Qz hf) λh1 h2=>?_;obtain⟨st,⟨o,QA,_,_,_,h3,F⟩,G⟩:=C8 e h1;replace h3:=iJ (h2▸h3);subst h3;exact G fd fn F hn
set_option tactic.hygienic true in
theorem kok:bU (KK w h) where
 nm:=λx i hx=>ID.1 x (z0 hx)
 nf:=λx i hx=>ID.2.1 x (z0 hx)
 nl:=λx i hx=>by exact xE (Qx (show rm x bH=aa i from hx)) λj hj=>ID.2.2 (x,i) (sI hj)
 fm:=λx i hx=>by refine aD (fnG e (F7 (show aZ x fns=aa i from hx))) λa h1 h2=>?_;obtain⟨st,⟨o,fd,_,_,_,h3⟩⟩:=C8 e h1;refine⟨a,fd,?_,h2⟩;show(qi[i]?).bind (λa=>(fnAt h a).map λfd=>(a,fd))=_;refine rE h1 ?_;show(fnAt h a).map _=_;refine rE h3 ?_;rfl
 gi:=λx i hx=>by
  refine xE (Qx (show rm x bH=aa i from hx)) λj hj=>?_;have:=iAt e hj;show ∃t,h.nsMap 3 x=aa (.int i t);have:Al (h.nsMap 3 x)=aa i:=this;unfold Al at this;split at this
  ·clear hj j hx;rename_i k t hk;replace this:=iJ this;subst this;exact⟨t,hk⟩
  ·exact zN this
 len:=⟨cW e (i:=29) rfl,cW e (i:=40) rfl⟩
 str:=⟨cW e (i:=30) rfl,cW e (i:=41) rfl⟩
 int:=⟨cW e (i:=31) rfl,cW e (i:=42) rfl⟩
 sum:=⟨cW e (i:=32) rfl,cW e (i:=43) rfl⟩
 sorted:=⟨cW e (i:=33) rfl,cW e (i:=44) rfl⟩
 ve:=⟨cW e (i:=34) rfl,cW e (i:=45) rfl⟩
 u7:=⟨cW e (i:=35) rfl,cW e (i:=46) rfl⟩
 range:=⟨cW e (i:=36) rfl,cW e (i:=47) rfl⟩
end
end
section
open PySem.W
noncomputable def pF(l:List aO):Nat→aO:=λn=>l.getD n default
theorem vX:isFn (bR 3)∧isFn (cF 0)∧isFn (cF 1)∧isFn (cF 7)∧isFn (cF 9)∧isFn (cF 11)∧isFn (cF 16):=by refine⟨?_,?_,?_,?_,?_,?_,?_⟩<;>kernel_rfl
theorem acX:∃l:List aO,nY (bR 3)=o3 (pF l):=⟨[_,_,_,_,_,_,_,_,_,_,_,_,_,_,_,_,_,_,_,_,_,_,_,_,_,_,_,_,_,_,_,_,_,_,_,_,_,_,_,_,_,_,_,_],rfl⟩
theorem acY:∃ (l:List aO) (B FB:List a9),nY (cF 0)=Ii (pF l) B FB:=⟨[_,_,_,_,_,_,_,_,_,_,_,_,_,_,_,_,_,_,_,_,_,_,_,_,_],_,_,rfl⟩
theorem acZ:∃ (l:List aO) (R:a9),nY (cF 1)=Pq (pF l) R∧cH (pF l 12) (pF l 14):=⟨[_,_,_,_,_,_,_,_,_,_,_,_,_,_,_,_,_,_,_,_,_,_,_],_,rfl,by kernel_rfl⟩
theorem ac0:∃ (l:List aO) (sc:mZ),nY (cF 9)=H7 (pF l) sc∧sc.names=k9∧sc.kind=.function:=⟨[_,_,_,_,_,_,_,_],_,rfl,by kernel_rfl,by kernel_rfl⟩
theorem ac1:(dF (cF 9)).names=o5∧(dF (cF 9)).kind=.function∧(dF (cF 9)).isCoroutine=ag∧(dF (cF 9)).isGenerator=ag:=by refine⟨?_,?_,?_,?_⟩<;>kernel_rfl
theorem ac2(F:fT fd (cF 9) .none)(v:ak):jD fd ⟨[v],[]⟩=pure [(("self" :ah),v)]:=by obtain⟨n,q,pp,b,sc,g,cl,df,kd,dc,pm,an,cd,ct,bi⟩:=fd;obtain⟨h1,_,_,_,_,_,h2,h3⟩:=F;dsimp only at h1 h2 h3;subst h1 h2 h3;kernel_rfl
theorem ac3:∃ (l:List aO) (sc:mZ),nY (cF 7)=H5 (pF l) sc∧sc.names=kr∧sc.kind=.function∧cH (pF l 1) (pF l 2)∧cH (pF l 11) (pF l 13)∧cH (pF l 27) (pF l 28):=⟨[_,_,_,_,_,default,default,default,default,default,_,_,_,_,_,default,default,default,default,default,_,_,_,_,_,_,_,_,_,_,_,_,_,_,_],_,rfl,by kernel_rfl,by kernel_rfl,by kernel_rfl,by kernel_rfl,by kernel_rfl⟩
theorem ac4:∃l:List aO,nY (cF 11)=HW (pF l):=⟨[_,_,_,_,_],rfl⟩
theorem ac5:∃ (l:List aO) (FB:List a9),nY (cF 16)=H8 (pF l) FB∧Ac (pF l):=⟨[_,_,_,_,_,_,_,_,_,default,_,_,_,_,_,default,_,_,_,_,_,_,_,_,_,_,_,_,_,_,_,_,_,_,_,_,_,_,_,_,_,_,_,_,_],_,rfl,⟨by kernel_rfl,by kernel_rfl,by kernel_rfl,by kernel_rfl,by kernel_rfl,by kernel_rfl⟩⟩
theorem C9:(dF (bR 3)).names=gV∧(dF (bR 3)).kind=.function∧(dF (bR 3)).isCoroutine=ag∧(dF (bR 3)).isGenerator:=by refine⟨?_,?_,?_,?_⟩<;>kernel_rfl
theorem ac6:(dF (cF 0)).names=vV∧(dF (cF 0)).kind=.function∧(dF (cF 0)).isCoroutine=ag∧(dF (cF 0)).isGenerator=ag:=by refine⟨?_,?_,?_,?_⟩<;>kernel_rfl
theorem ac7:(dF (cF 1)).names=xH∧(dF (cF 1)).kind=.function∧(dF (cF 1)).isCoroutine=ag∧(dF (cF 1)).isGenerator=ag:=by refine⟨?_,?_,?_,?_⟩<;>kernel_rfl
theorem ac8:(dF (cF 7)).names=vO∧(dF (cF 7)).kind=.function∧(dF (cF 7)).isCoroutine=ag∧(dF (cF 7)).isGenerator=ag:=by refine⟨?_,?_,?_,?_⟩<;>kernel_rfl
theorem ac9:(dF (cF 11)).names=o5∧(dF (cF 11)).kind=.function∧(dF (cF 11)).isCoroutine=ag∧(dF (cF 11)).isGenerator=ag:=by refine⟨?_,?_,?_,?_⟩<;>kernel_rfl
theorem ada:(dF (cF 16)).names=Ab∧(dF (cF 16)).kind=.function∧(dF (cF 16)).isCoroutine=ag∧(dF (cF 16)).isGenerator=ag:=by refine⟨?_,?_,?_,?_⟩<;>kernel_rfl
theorem adb(F:fT fd (bR 3) .none)(v:ak):jD fd ⟨[v],[]⟩=pure [(qf,v)]:=by obtain⟨n,q,pp,b,sc,g,cl,df,kd,dc,pm,an,cd,ct,bi⟩:=fd;obtain⟨h1,_,_,_,_,_,h2,h3⟩:=F;dsimp only at h1 h2 h3;subst h1 h2 h3;kernel_rfl
theorem ade(F:fT fd (cF 11) .none)(v:ak):jD fd ⟨[v],[]⟩=pure [(("self" :ah),v)]:=by obtain⟨n,q,pp,b,sc,g,cl,df,kd,dc,pm,an,cd,ct,bi⟩:=fd;obtain⟨h1,_,_,_,_,_,h2,h3⟩:=F;dsimp only at h1 h2 h3;subst h1 h2 h3;kernel_rfl
theorem adf(F:fT fd (cF 7) .none)(v u:ak):jD fd ⟨[v,u],[]⟩=pure [(("self" :ah),v),(("name" :ah),u)]:=by obtain⟨n,q,pp,b,sc,g,cl,df,kd,dc,pm,an,cd,ct,bi⟩:=fd;obtain⟨h1,_,_,_,_,_,h2,h3⟩:=F;dsimp only at h1 h2 h3;subst h1 h2 h3;kernel_rfl
theorem adg(F:fT fd (cF 1) .none)(a b' c:ak):jD fd ⟨[a,b'],[(("name" :ah),c)]⟩=pure [(("self" :ah),a),(("value" :ah),b'),(("name" :ah),c)]:=by obtain⟨n,q,pp,b,sc,g,cl,df,kd,dc,pm,an,cd,ct,bi⟩:=fd;obtain⟨h1,_,_,_,_,_,h2,h3⟩:=F;dsimp only at h1 h2 h3;subst h1 h2 h3;kernel_rfl
theorem adh(F:fT fd (cF 16) .none)(a b' c:ak):jD fd ⟨[a,b',c],[]⟩=(alloc {cls:=.type "dict",data:=.dict #[]} >>= λd=>pure [(("self" :ah),a),(("_name" :ah),b'),(("_value" :ah),c),(("_params" :ah),.ref d)]):=by obtain⟨n,q,pp,b,sc,g,cl,df,kd,dc,pm,an,cd,ct,bi⟩:=fd;obtain⟨h1,_,_,_,_,_,h2,h3⟩:=F;dsimp only at h1 h2 h3;subst h1 h2 h3;kernel_rfl
theorem adi(F:fT fd (cF 0) (.ref 114)){o:fI}(ho:s.heap.get? 114=aa o)(hd:o.data=.seq #[.none] k)(v:ak):Bi s fd ⟨[v],[]⟩ [(("self" :ah),v),(("headers" :ah),.none)]:=by obtain⟨n,q,pp,b,sc,g,cl,df,kd,dc,pm,an,cd,ct,bi⟩:=fd;obtain⟨h1,_,_,_,_,_,h2,h3⟩:=F;dsimp only at h1 h2 h3;subst h1 h2 h3;exact Bi.of_defaults rfl ho hd rfl rfl
end
section
open PySem.W
open PyProof.V (FlatPairs Flat)
section
variable{w:cM}{h:aP}(e:qj KZ h=o8 w)
include e
set_option tactic.hygienic true in
theorem adj:br (KK w h) (λ_=>False) h where
 ng:=.of_isNs (C7 e).1
 ug:=λq=>q
 nb:=.of_isNs (C7 e).2.1
 ub:=λq=>q
 fo:=λi a fd hf=>by refine xA (Qz hf) λh1 h2=>?_;obtain⟨st,⟨o,QA,ho,_,hd,h3,_,c,oc,vs,t,c1,c2,c3,c4⟩⟩:=C8 e h1;replace h3:=iJ (h2▸h3);subst h3;exact⟨o,ho,λq=>q,hd,c,oc,vs,t,c1,λq=>q,c2,c3,c4⟩
 tok:=by
  refine⟨.ref 60,cW e (i:=14) rfl,60,rfl,λq=>q,rfl,?_⟩;have ht:Iw h 60=Iy w:=congrArg nX.tk e;unfold Iw Iy at ht;induction ho:h.get? 60 with
  |none=>exact zN (ho▸ht)
  |some o=>
   replace ht:=ho▸ht;dsimp only at ht;split at ht
   ·rename_i es ep hd;have ht:=iq ht;simp only[yt]at ht;refine yX ht λt1 t2 t3 t4=>?_;have key:∀ (l:List DictEntry) (tk:gM),(l.map λe=>(e.hash,(match e.key with| .str x _=>aa x|_=>af),(match e.val with| .int i _=>aa i|_=>af)))=tk.map (λp=>(hashStr w p.1,aa p.1,aa p.2))→
      ∃kvs:List (ah × ak),(∀x∈l,∃k,(wI P0 w).is k x.key∧x.hash=(wI P0 w).hash k)∧Pairs (wI P0 w) l kvs∧kvs.map (·.1)=tk.map (·.1)∧FlatPairs uA kvs (xg tk):=by
     intro l;induction l with
     |nil=>
      intro tk hk;induction tk using bj with
      |nil=>exact⟨[],λx hx=>(by cases hx),.nil,rfl,.nil⟩
      |cons p tk=>exact zC hk
     |cons x l ih=>
      intro tk hk;induction tk using bj with
      |nil=>exact zD hk
      |cons p tk=>
       replace hk:=iS▸iS▸hk;refine xA (jf hk) λDc rj=>?_;simp only[yt]at Dc;refine mq Dc λk1 k2 k3=>gz (ih tk rj) λkvs a1 a2 a3 a4=>?_;obtain⟨ts,hs⟩:∃t,x.key=.str p.1 t:=by
        split at k2
        ·rename_i y t q;replace k2:=iJ k2;subst k2;exact⟨t,q⟩
        ·exact zN k2
       obtain⟨ti,hi⟩:∃t,x.val=.int p.2 t:=by
        split at k3
        ·rename_i y t q;replace k3:=iJ k3;subst k3;exact⟨t,q⟩
        ·exact zN k3
       have oS:(wI P0 w).is p.1 x.key:=by refine rE hs ?_;show ah9 p.1 (.str p.1 ts);simp[ah9]
       refine⟨(p.1,x.val)::kvs,λy hy=>?_,.cons oS rfl a2,by refine rE iS ?_;refine rE iS ?_;exact rE a3 rfl,?_⟩
       ·rcases bE.mp hy with rfl|hy
        ·exact⟨p.1,oS,k1⟩
        ·exact a1 y hy
       ·exact rE hi (.cons (PyProof.V.Flat.int _ _) a4)
    exact gz (key es.toList tok t4) λkvs a1 a2 a3 a4=>⟨kvs,⟨o,es,ep,ho,⟨t1,t2,t3⟩,hd,λx hx=>a1 x (ah2.mpr hx),a2,by refine rE a3 ?_;decide+kernel⟩,a4⟩
   ·exact zN ht
 lim:=⟨_,.of_isNs (C7 e).2.2.1,cW e (i:=28) rfl⟩
 ul:=λq=>q
 iU:=λa o hf=>⟨hf,λq=>q⟩
theorem xV{dv:ak}(hx:xQ[i]? =aa (a,st,dv))(hf:isFn st)(hs:(dF st).names=ks∧(dF st).kind=.function∧(dF st).isCoroutine=ag∧(dF st).isGenerator=ag)(hb:nY st=body):
  ∃fd,fT fd st dv∧Meth (KK w h) a fd ks body:=by
 obtain⟨o,fd,ho,hc,hd,_,F,c,oc,vs,t,c1,c2,c3,c4⟩:=IA hf (IC e hx);refine⟨fd,F,⟨o,ho,hc,hd⟩,⟨c,oc,vs,t,c1,c2,c3,c4⟩,?_,?_,?_,?_,?_,F.gD,F.gl,F.bi⟩
 ·exact rE F.body (rE hb rfl)
 ·exact rE F.scope hs.1
 ·exact rE F.scope hs.2.1
 ·exact rE F.scope hs.2.2.1
 ·exact rE F.scope hs.2.2.2
theorem adk:gj (KK w h) (cD (h.nsMap 226)) where
 cls:=(congrArg nX.cl e:h.get? 227=_)
 ns:=fu (yz.of_isNs (C7 e).2.2.2) λo es ep ho r=>⟨o,ho,λh' h'e=>⟨o,es,ep,h'e,r⟩⟩
 ga:=cW e (i:=24) rfl
 PD:=cW e (i:=25) rfl
 sa:=cW e (i:=26) rfl
 hd:=cW e (i:=27) rfl
theorem adl(hr:∃n,bW A (n+10)):vE (KK w h) A:=by
 have O:=kok e;have vY:∃n,bW A (n+1):=let⟨n,r⟩:=hr;⟨n+9,r⟩
 have hr5:∃n,bW A (n+5):=let⟨n,r⟩:=hr;⟨n+5,r⟩
 have o6:A.depth<iR:=by refine xE hr λn r=>?_;have:=r.depth;lia
 have k:=adk e;refine gy acZ λl1 R1 b1 ln1=>?_;obtain⟨fC,FC,MC⟩:=xV e (i:=15) rfl vX.2.2.1 ac7 b1;have cv:k8 (KK w h) 128 fC (pF l1) R1:=by obtain⟨⟨r1,r2⟩,c1,c2⟩:=xI e;exact⟨MC,adg FC,ln1,⟨cW e (i:=38) rfl,cW e (i:=49) rfl⟩,⟨_,cW e (i:=16) rfl,Qw r1 c1⟩,⟨_,cW e (i:=17) rfl,Qw r2 c2⟩⟩
 have jP:(cD (h.nsMap 226)).mN km=aa (.ref 128):=cW e (i:=19) rfl;refine gy (acV e) λt1 k1 BF hd1=>⟨O,λU s v t x g ub T hx ht=>?_,λU s v t g ub T ht=>?_,λU s v t g ub T ht=>?_,?_,?_,?_⟩
 ·refine VG ac3 λl sc b q1 q2 s1 s2 s3=>?_;obtain⟨fd,F,M⟩:=xV e (i:=16) rfl vX.2.2.2.1 ac8 b;exact abM k cv jP O vY M (cW e (i:=20) rfl) q1 q2 (adf F) s1 s2 s3 g ub T hx ht
 ·refine xE ac4 λl b=>?_;obtain⟨fd,F,M⟩:=xV e (i:=18) rfl vX.2.2.2.2.2.1 ac9 b;exact abp k o6 M (cW e (i:=22) rfl) (ade F) g T ht
 ·refine cK ac0 λl sc b q1 q2=>?_;obtain⟨fd,F,M⟩:=xV e (i:=17) rfl vX.2.2.2.2.1 ac1 b;exact abT k O vY M (cW e (i:=21) rfl) q1 q2 (ac2 F) g ub T ht
 ·refine xE acX λl b=>?_;obtain⟨o,fd,ho,hc,hd,_,F,c,oc,vs,t,c1,c2,c3,c4⟩:=IA vX.1 (IC e (i:=13) rfl);refine aaQ (a:=45) (fd:=fd) (p:=pF l) ⟨cW e (i:=13) rfl,λU h' g=>?_,by refine rE F.body ?_;exact rE b rfl,by refine rE F.scope ?_;exact C9.1,by refine rE F.scope ?_;exact C9.2.1,by refine rE F.scope ?_;exact C9.2.2.2,by refine rE F.scope ?_;exact C9.2.2.1,F.gD,F.gl,F.bi,adb F,cW e (i:=37) rfl,cW e (i:=48) rfl⟩ O hr;exact xA (g.iU 45 o ho) λg1 g2=>xA (g.iU c oc c2) λg3 g4=>⟨o,g1,g2,hd,c,oc,vs,t,c1,g4,g3,c3,c4⟩
 ·refine VA acY λl B FB b=>?_;obtain⟨fd,F,M⟩:=xV e (i:=14) rfl vX.2.1 ac6 b;exact ack k rfl hr5 M (cW e (i:=18) rfl) (λs v U g=>adi F (g.iU 114 t1 BF).1 hd1 v) ⟨cW e (i:=38) rfl,cW e (i:=49) rfl⟩ ⟨cW e (i:=39) rfl,cW e (i:=50) rfl⟩ (cW e (i:=15) rfl)
 ·refine gy ac5 λl FB b ln=>?_;obtain⟨fd,F,M⟩:=xV e (i:=19) rfl vX.2.2.2.2.2.2 ada b;exact ab8 k cv jP O vY M (cW e (i:=23) rfl) (adh F) ln
end
inductive vZ(w:cM)(h:aP):Prop
 |mk (K:Kt) (hw:K.w=w) (hX:K.X=xs) (ht:K.tk=tok) (g:br K (λZ=>False) h) (o:∀A,(∃n,bW A (n+10))→vE K A) (f:∀f a fd fn,K.fo f=aa (a,fd)→aH f=aa fn→gh K.X fd fn) (fd:pw) (hf:K.fo 12=aa (275,fd)) (hm:K.mg (nS 12)=aa (.ref 275))
theorem adm(w:cM)(s:ay)(e:obs s=o8 w):vZ w s.heap:=by have e:qj KZ s.heap=o8 w:=e;obtain⟨st,⟨o,fd,_,_,_,h3⟩⟩:=C8 e (i:=12) (a:=275) rfl;refine⟨KK w s.heap,rfl,rfl,rfl,adj e,λA hr=>adl e hr,acW e,fd,?_,cW e (i:=12) rfl⟩;show(qi[12]?).bind (λa=>(fnAt s.heap a).map λfd=>(a,fd))=_;show(fnAt s.heap 275).map _=_;refine rE h3 ?_;rfl
theorem adn(w:cM)(h h':aP)(x:vZ w h)(hk:∀b o,h.get? b=aa o→h'.get? b=aa o):vZ w h':=by obtain⟨K,z,a,b,g,o,f,fd,r,q⟩:=x;exact⟨K,z,a,b,g.mono (λa o Z e=>hk a o e) (λZ Z Z q=>q),o,f,fd,r,q⟩
end
section
open PySem.W
theorem An{f:Nat→Nat→Option Bool}{g:α→KasT β}{a:α}(t:KasT α):mj f t=aa a→mj f (t.bind g)=mj f (g a):=by
 induction t with
 |ret b=>intro h;replace h:=iJ h;subst h;rfl
 |ask i j k ih=>intro h;refine oE (h:(f i j).bind _=_) λb h1 h=>?_;show(f i j).bind _=_;exact rE h1 (ih b h)
structure Ord(n:Nat)(f:Nat→Nat→Option Bool)(r:Nat→Nat→Prop):Prop where
 yes:∀i j,i<n→j<n→r i j→f i j=aa ae∧f j i=aa ag
 mF:∀i j,i<n→j<n→i≠j→r i j∨r j i
 trans:∀i j k,r i j→r j k→r i k
structure Row(n:Nat)(p:Array Nat):Prop where
 perm:p.Perm (bM n).toArray
theorem Row.size{p:Array Nat}(R:Row n p):p.size=n:=by refine rE R.perm.size_eq ?_;simp
theorem getD_get?(p:Array Nat)(i:Nat):p.getD i 0=(p[i]?).getD 0:=by simp[Array.getD_eq_getD_getElem?]
theorem Row.lt{p:Array Nat}(R:Row n p)(h:i<n):p.getD i 0<n:=by have hs:i<p.size:=R.size▸h;have:p[i]∈(bM n).toArray:=R.perm.mem_iff.mp (ah3 hs);refine rE (getD_get? ..) (rE (Bg hs) ?_);simpa using this
theorem Row.ne{p:Array Nat}(R:Row n p)(hi:i<n)(hj:j<n)(h:i≠j):p.getD i 0≠p.getD j 0:=by have hi:i<p.size:=R.size▸hi;have hj:j<p.size:=R.size▸hj;have nd:p.toList.Nodup:=(UT.mp R.perm).nodup_iff.mpr (by simpa using List.nodup_range);refine rE (getD_get? ..) (rE (getD_get? ..) (rE (Bg hi) ?_));refine rE (Bg hj) ?_;exact λq=>h ((UW (h₀:=hi) (h₁:=hj) nd).mp q)
section
variable{f:Nat→Nat→Option Bool}{r:Nat→Nat→Prop}
noncomputable def Up(r:Nat→Nat→Prop)(p:Array Nat)(m:Nat):Prop:=∀i j,i<j→j<m→r (p.getD i 0) (p.getD j 0)
noncomputable def Down(r:Nat→Nat→Prop)(p:Array Nat)(m:Nat):Prop:=∀i j,i<j→j<m→r (p.getD j 0) (p.getD i 0)
theorem QB{R:Nat→Nat→Prop}(ht:∀i j k,R i j→R j k→R i k)(h1:1≤m)(u:∀i j,i<j→j<m→R i j)(q:R (m - 1) m):∀i j,i<j→j<m+1→R i j:=by
 intro i j h h';rcases aia (uq h')with e|e
 ·exact u i j h e
 ·subst e;rcases aia (J8 h)with e|e
  ·exact ht _ _ _ (u i (j - 1) e (yv h1 (by decide))) q
  ·rw[e];exact q
theorem QC(O:Ord n f r){p:Array Nat}(R:Row n p):∀ (k m:Nat),1≤m→m+k=n→Up r p m→∃m',mj f (kas_asc p k m)=aa m'∧m≤m'∧m'≤n∧Up r p m'∧(m'=m→0<k→r (p.getD m 0) (p.getD (m - 1) 0)):=by
 intro k;induction k with
 |zero=>exact λm h1 h2 u=>⟨m,rfl,bZ _,sF h2,u,λZ h=>absurd h (qE _)⟩
 |succ k ih=>
  intro m h1 h2 u;have lU:m<n:=by rw[← h2];exact aib (AX k)
  have v5:=yv h1 (by decide:0<1);have hm:=R.lt lU;have tR:=R.lt (ew v5 lU);rcases O.mF _ _ hm tR (R.ne lU (ew v5 lU) (oF v5))with q|q
  ·exact⟨m,(show(f _ _).bind _=_ by refine rE ((O.yes _ _ hm tR q).1) ?_;rfl),bZ _,d4 lU,u,λZ Z=>q⟩
  ·exact Bz (ih (m+1) (Ba h1) ((Nat.succ_add m k).trans h2) (QB (R:=λi j=>r (p.getD i 0) (p.getD j 0)) (λZ Z Z=>O.trans _ _ _) h1 u q)) λm' e1 e2 e3 e4 Z=>⟨m',(show(f _ _).bind _=_ by refine rE ((O.yes _ _ tR hm q).2) ?_;exact e1),D9 e2,e3,e4,λh=>absurd h (oF e2)⟩
theorem ado(O:Ord n f r){p:Array Nat}(R:Row n p):∀ (k m:Nat),1≤m→m+k=n→Down r p m→∃m',mj f (kas_desc k p m 0)=aa (p,m',0)∧m≤m'∧m'≤n∧Down r p m':=by
 intro k;induction k with
 |zero=>exact λm h1 h2 u=>⟨m,rfl,bZ _,sF h2,u⟩
 |succ k ih=>
  intro m h1 h2 u;have lU:m<n:=by rw[← h2];exact aib (AX k)
  have v5:=yv h1 (by decide:0<1);have hm:=R.lt lU;have tR:=R.lt (ew v5 lU);rcases O.mF _ _ hm tR (R.ne lU (ew v5 lU) (oF v5))with q|q
  ·exact gz (ih (m+1) (Ba h1) ((Nat.succ_add m k).trans h2) (QB (R:=λi j=>r (p.getD j 0) (p.getD i 0)) (λZ Z Z a b=>O.trans _ _ _ b a) h1 u q)) λm' e1 e2 e3 e4=>⟨m',(show(f _ _).bind _=_ by refine rE ((O.yes _ _ hm tR q).1) ?_;exact e1),D9 e2,e3,e4⟩
  ·exact⟨m,(show(f _ _).bind _=_ by refine rE ((O.yes _ _ tR hm q).2) ?_;show(f _ _).bind _=_;refine rE ((O.yes _ _ tR hm q).1) ?_;rfl),bZ _,d4 lU,u⟩
theorem QD{p:Array Nat}(hm:m≤p.size)(x:Nat):(kas_rev p 0 m).getD x 0=if x<m then p.getD (m - 1 - x) 0 else p.getD x 0:=by
 refine rE (getD_get? ..) ?_;rewrite[kas_rev];rewrite[getElem?_mirror_all hm];refine rE (getD_get? ..) (rE (getD_get? ..) ?_);by_cases h:x<m
 ·refine rE (if_pos ⟨eo _,h⟩) (rE (if_pos h) ?_);simp only[lj]
 ·exact rE (if_neg λq=>h q.2) (rE (if_neg h) rfl)
theorem adp{p:Array Nat}(R:Row n p)(m:Nat):Row n (kas_rev p 0 m):=⟨(mirror_perm _ _ _ _).trans R.perm⟩
theorem count_is(O:Ord n f r){p:Array Nat}(R:Row n p)(h2:2≤n):∃m p',mj f (kas_count n p)=aa (m,p')∧1≤m∧m≤n∧Row n p'∧Up r p' m:=by
 have u1:Up r p 1:=λi j h h'=>absurd (hZ h (uq h')) (Eu _);refine Bz (QC O R (n - 1) 1 (bZ _) (aic (d4 h2)) u1) λm e1 e2 e3 e4 e5=>?_;unfold kas_count;refine rE (An _ e1) ?_;by_cases h:m=n
 ·exact rE (if_pos (beq_iff_eq.mpr h)) ⟨m,p,rfl,e2,e3,R,e4⟩
 ·refine rE (if_neg (λq=>h (beq_iff_eq.mp q))) ?_;by_cases h1:m>1
  ·refine rE (if_pos h1) ?_;have q:=e4 0 (m - 1) (KQ h1) (yv e2 (by decide));refine⟨m,p,(show(f _ _).bind _=_ by refine rE ((O.yes _ _ (R.lt (by lia)) (R.lt (by lia)) q).1) ?_;rfl),e2,e3,R,e4⟩
  ·refine rE (if_neg h1) ?_;clear e4 e3 e1 u1;obtain rfl:m=1:=A0 (Ue h1) e2;have d2:Down r p 2:=λi j h h'=>by clear e2;obtain rfl:j=1:=A0 (uq h') (jh (eo _) h);obtain rfl:i=0:=Nat.lt_one_iff.mp h;exact e5 rfl (by lia)
   refine gz (ado O R (n - 2) 2 (by decide) (aic h2) d2) λm' g1 g2 g3 g4=>?_;unfold kas_descPart;refine rE (An _ g1) (rE (if_neg (qE _)) ?_);have R':=adp R m';have u':Up r (kas_rev p 0 m') m':=λi j h h'=>by rewrite[QD (rE R.size g3)];rewrite[QD (rE R.size g3)];refine rE (if_pos (ew h h')) (rE (if_pos h') ?_);exact g4 _ _ (Vy h h') (jh (qD ..) (yv (jh (eo _) h') (by decide)))
   refine Bz (QC O R' (n - m') m' (by lia) (by lia) u') λm'' k1 k2 k3 k4 Z=>?_;unfold kas_tail3;exact rE (An _ k1) ⟨m'',_,rfl,by lia,k3,R',k4⟩
theorem adq{l x:Nat}(h:l<x):l≤(l+x)/2:=(Nat.le_div_iff_mul_le (by decide)).mpr (by rw[Nat.mul_two];exact qI (d4 h) l)
theorem ads{l x:Nat}(h:l<x):(l+x)/2<x:=(Nat.div_lt_iff_lt_mul (by decide)).mpr (by rw[Nat.mul_two];exact Nat.add_lt_add_right h x)
theorem adt{l x d:Nat}(h1:l≤m)(h2:m<x)(h:x - l≤d+1):m - l≤d:=ahk (by rw[← Nat.succ_sub h1];exact aF (Nat.sub_le_sub_right h2 l) h)
theorem adu{l x d:Nat}(h1:l≤m)(h:x - l≤d+1):x - (m+1)≤d:=aF (Nat.sub_le_sub_left (m4 h1) x) (show x - l - 1≤d from Nat.sub_le_of_le_add h)
theorem adv(O:Ord n f r){p:Array Nat}(R:Row n p)(hk:k<n):∀ (d l x:Nat),l≤x→x≤k→x - l≤d→(∀i,i<l→r (p.getD i 0) (p.getD k 0))→(∀i,x≤i→i<k→r (p.getD k 0) (p.getD i 0))→Up r p k→
  ∃y,mj f (kas_place p k d l x)=aa y∧y≤k∧(∀i,i<y→r (p.getD i 0) (p.getD k 0))∧∀i,y≤i→i<k→r (p.getD k 0) (p.getD i 0):=by
 intro d;induction d with
 |zero=>intro l x h1 h2 h3 a b _;obtain rfl:l=x:=A0 h1 (Ef (Nat.le_zero.mp h3));exact⟨l,rfl,h2,a,b⟩
 |succ d ih=>
  intro l x h1 h2 h3 a b u;unfold kas_place;by_cases h:l≥x
  ·obtain rfl:l=x:=A0 h1 h;exact rE (if_pos h) ⟨l,rfl,h2,a,b⟩
  ·refine rE (if_neg h) ?_;have hl:=adq (TK h);have hc:=ads (TK h);have Dd:=hZ hc h2;have lU:=ew Dd hk;have j5:=R.lt hk;have hm:=R.lt lU;rcases O.mF _ _ j5 hm (R.ne hk lU (oF Dd))with q|q
   ·refine xE (ih l ((l+x)/2) hl (d4 Dd) (adt hl hc h3) a (λi h h'=>by
     by_cases z:i=(l+x)/2
     ·exact rE z q
     ·exact O.trans _ _ _ q (u _ _ (aid h (Es z)) h')) u) λy e=>?_
    exact⟨y,(show(f _ _).bind _=_ by refine rE ((O.yes _ _ j5 hm q).1) ?_;exact e.1),e.2⟩
   ·refine xE (ih ((l+x)/2+1) x hc h2 (adu hl h3) (λi h=>by
     by_cases z:i=(l+x)/2
     ·exact rE z q
     ·exact O.trans _ _ _ (u i _ (aid (uq h) z) Dd) q) b u) λy e=>?_
    exact⟨y,(show(f _ _).bind _=_ by refine rE ((O.yes _ _ hm j5 q).2) ?_;exact e.1),e.2⟩
theorem adw{p:Array Nat}{y:Nat}(hk:k<p.size)(hy:y≤k)(x:Nat):(bubble p k (k - y)).getD x 0=if x=y then p.getD k 0 else if y<x∧x≤k then p.getD (x - 1) 0 else p.getD x 0:=by
 refine rE (getD_get? ..) ?_;rewrite[getElem?_bubble hk _ (qD _ _)];refine rE (Nat.sub_sub_self hy) ?_;by_cases a:x=y
 ·exact rE (if_pos a) (rE (if_pos a) (rS (getD_get? ..) rfl))
 ·refine rE (if_neg a) (rE (if_neg a) ?_);by_cases b:y<x∧x≤k
  ·exact rE (if_pos b) (rE (if_pos b) (rS (getD_get? ..) rfl))
  ·exact rE (if_neg b) (rE (if_neg b) (rS (getD_get? ..) rfl))
theorem adx(O:Ord n f r):∀ (d:Nat) (p:Array Nat) (k:Nat),Row n p→1≤k→k+d=n→Up r p k→∃p',mj f (kas_bin d p k)=aa p'∧Row n p'∧Up r p' n:=by
 intro d;induction d with
 |zero=>exact λp k R h1 h2 u=>⟨p,rfl,R,by refine rS h2 ?_;exact u⟩
 |succ d ih=>
  intro p k R h1 h2 u;have hk:k<n:=by lia
  refine gz (adv O R hk k 0 k (eo _) (bZ _) (by lia) (λi h=>absurd h (Eu _)) (λi h h'=>absurd h (by lia)) u) λy e1 e2 e3 e4=>?_;have hb:=adw (p:=p) (k:=k) (y:=y) (rE R.size hk) e2;have u':Up r (bubble p k (k - y)) (k+1):=λi j h h'=>by
   refine rE (hb ..) (rE (hb ..) ?_);have hj:=uq h';have IE:=hZ (yv (jh (eo _) h) (by decide:0<1)) hj;rcases aie i y with a|a|a
   ·refine rE (if_neg (iT a)) (rE (if_neg λc=>Nat.lt_asymm a c.1) ?_);rcases aie j y with b|b|b
    ·exact rE (if_neg (iT b)) (rE (if_neg λc=>Nat.lt_asymm b c.1) (u _ _ h (hZ b e2)))
    ·exact rE (if_pos b) (e3 _ a)
    ·exact rE (if_neg (oF b)) (rE (if_pos ⟨b,hj⟩) (u _ _ (hZ a (J8 b)) IE))
   ·have b:y<j:=a▸h;exact rE (if_pos a) (rE (if_neg (oF b)) (rE (if_pos ⟨b,hj⟩) (e4 _ (J8 b) IE)))
   ·have b:=ew a h;refine rE (if_neg (oF a)) (rE (if_pos ⟨a,aF (d4 h) hj⟩) (rE (if_neg (oF b)) (rE (if_pos ⟨b,hj⟩) ?_)));exact u _ _ (Nat.sub_lt_sub_right (jh (eo _) a) h) IE
  refine j4 (ih _ (k+1) ⟨(bubble_perm _ _ _).trans R.perm⟩ (by lia) (by lia) u') λp' g1 g2 g3=>⟨p',?_,g2,g3⟩;unfold kas_bin;exact rE (An _ e1) g1
theorem ady(O:Ord n f r)(h2:2≤n):∃p,mj f (kas_sort n)=aa p∧Row n p∧Up r p n:=by
 obtain⟨m,p,e1,e2,e3,R,u⟩:=count_is O (p:=(bM n).toArray) ⟨.refl _⟩ h2;unfold kas_sort;refine rE (An _ e1) ?_;by_cases h:m<n
 ·refine rE (if_pos h) (rE (Nat.max_eq_left e2) ?_);exact adx O (n - m) p m R e2 (by lia) u
 ·refine rE (if_neg h) ?_;obtain rfl:m=n:=by lia
  exact⟨p,rfl,R,u⟩
end
end
theorem jQ(h:i≠j):az i j=ag:=by
 induction q:az i j with
 |true=>exact absurd (fY q) h
 |false=>rfl
noncomputable def QE(b:Bool):bA→bA
 | .own xs=>cond b (.val (.list xs)) (.own xs)
 |s=>s
theorem Ao(is:ax):∀ (ρ:aM) (j:Nat),get (dX is ρ) j=(get ρ j).map (QE (is.any (az j))):=by
 intro L0;induction L0 with
 |nil=>intro _;exact rfl
 |cons cx r ih=>
  obtain⟨i,s⟩:=cx;intro j;have ih:=ih j;refine rE (pG ..) ?_;induction s<;>(
   show cond (az i j) _ (get (dX is r) j)=_;induction h:az i j with
   |false=>exact ih
   |true=>first|rfl| (refine rS (fY h) ?_;show aa (cond (is.any (az i)) _ _)=aa (QE (is.any (az i)) _);cases is.any (az i)<;>rfl))
theorem adz(is:ax):∀ (ρ:aM) (j:Nat),get (rem is ρ) j=if is.any (az j)then af else get ρ j:=by
 intro L0;induction L0 with
 |nil=>intro _;simp[Vq,EV,uI,pG]
 |cons cx r ih=>
  obtain⟨i,s⟩:=cx;intro j;have ih:=ih j;refine rE (EV ..) ?_;induction h:is.any (az i)with
  |true=>
   show get (rem is r) j=_;refine rE ih ?_;induction hi:az i j with
   |true=>have:=fY hi;subst this;simp[h]
   |false=>show _=if _ then af else cond (az i j) (aa s) (get r j);refine rE hi ?_;rfl
  |false=>
   show cond (az i j) (aa s) (get (rem is r) j)=if _ then af else cond (az i j) (aa s) (get r j)
   refine rE ih ?_;induction hi:az i j with
   |true=>have:=fY hi;subst this;simp[h]
   |false=>rfl
theorem lV(a:α)(f:α→W β):W.bind (aa (a,ae)) f=f a:=by
 show(match f a with|none=>af|some (b,oG)=>aa (b,ae&&oG))=f a;induction f a with
 |none=>rfl
 |some p=>simp
theorem du(a:α){ok:Bool}(h:ok):W.need a ok=aa (a,ae):=by refine rE h ?_;rfl
theorem o9{f:D→aM→Hs→W Fl}{x:D}{xs:List D}{hs':Hs}(h:f x ρ hs=aa (.next ρ' hs',ae)):dE f (x::xs) ρ hs=dE f xs ρ' hs':=by show W.bind (f x ρ hs) _=_;exact rE h (rE (lV ..) rfl)
theorem QF:∀ (n i:Nat),kL i n=(pE i n).map λk=>.int (k:Int):=by
 intro L0;induction L0 with
 |zero=>intro _;exact rfl
 |succ n ih=>intro i;refine rE (Vr ..) (rE (ih (i+1)) ?_);rfl
noncomputable def S(l:ax):D:=.str (aj l)
theorem v7(l:ax):sL (aj l)=l:=rfl
theorem tS:∀l:ax,lEq l l:=by
 intro L0;induction L0 with
 |nil=>exact rfl
 |cons x l ih=>exact rE (K9 ..) (rE (nc ..) (rE (cond_true ..) ih))
theorem De{x y:ax}(h:x≠y):lEq x y=ag:=by
 induction q:lEq x y with
 |true=>exact absurd (lEq_iff.mp q) h
 |false=>rfl
theorem gN{s:bA}{o:Option bA}(h:az i j=ag)(g:get ρ j=o):get (put ρ i s) j=o:=by refine rE (fR s (λq=>by replace h:=q▸h;replace h:=(nc ..)▸h;exact zT h) ρ) ?_;exact g
theorem gS{s:bA}:get (put ρ i s) i=aa s:=kW i s ρ
section
variable{hs':Hs}
theorem Ap{xs:List D}(h:get ρ i=aa (.own xs)):nB ρ i=aa xs:=by unfold nB;refine rE h ?_;rfl
theorem xW(h:get ρ i=aa (.cU j)):w4 ρ i=aa j:=by unfold w4;refine rE h ?_;rfl
theorem eK(h:get ρ i=aa (.val d)):jG ρ i=aa d:=by unfold jG nB pI;refine rE h ?_;rfl
theorem IF{xs:List D}(h:get ρ i=aa (.own xs)):jG ρ i=aa (.list xs):=by unfold jG;exact rE (Ap h) rfl
theorem cA{m:Option α}{f:α→Option β}{a:α}(h:m=aa a):m.bind f=f a:=by refine rE h ?_;rfl
theorem aK(d:D):ev tk C hs (.lit d) ρ=aa (d,ae):=rfl
theorem bk{op:ma}{a b:RE}{x z:D}(h1:ev tk C hs a ρ=aa (x,ae))(h2:ev tk C hs b ρ=aa (y,ae))(h:j3 op x y=aa (z,ae)):ev tk C hs (.bin op a b) ρ=aa (z,ae):=OU h1 h2 h
theorem qk{c a b:RE}{q:Bool}(h:ev tk C hs c ρ=aa (d,ae))(t:truthy d=aa q):ev tk C hs (.ite c a b) ρ=cond q (ev tk C hs a ρ) (ev tk C hs b ρ):=by show W.bind (ev tk C hs c ρ) _=_;refine rE h (rE (lV ..) (rE t ?_));rfl
theorem QG{c a b:RE}{m:W D}(h:ev tk C hs c ρ=aa (d,ae))(t:truthy d=aa ae)(r:ev tk C hs a ρ=m):ev tk C hs (.ite c a b) ρ=m:=(qk h t).trans r
theorem IG{c a b:RE}{m:W D}(h:ev tk C hs c ρ=aa (d,ae))(t:truthy d=aa ag)(r:ev tk C hs b ρ=m):ev tk C hs (.ite c a b) ρ=m:=(qk h t).trans r
theorem IH{a b:RE}{q:Bool}(h:ev tk C hs a ρ=aa (d,ae))(t:truthy d=aa q):ev tk C hs (.or a b) ρ=cond q (aa (d,ae)) (ev tk C hs b ρ):=by show W.bind (ev tk C hs a ρ) _=_;refine rE h (rE (lV ..) (rE t ?_));rfl
theorem II{a b:RE}{m:W D}(h:ev tk C hs a ρ=aa (d,ae))(t:truthy d=aa ag)(r:ev tk C hs b ρ=m):ev tk C hs (.or a b) ρ=m:=(IH h t).trans r
theorem Df{a b:RE}{m:W D}(h:ev tk C hs a ρ=aa (d,ae))(t:truthy d=aa ae)(r:ev tk C hs b ρ=m):ev tk C hs (.and a b) ρ=m:=by show W.bind (ev tk C hs a ρ) _=_;exact rE h (rE (lV ..) (rE t r))
theorem IJ{a b:RE}{q:Bool}(h:ev tk C hs a ρ=aa (d,ae))(t:truthy d=aa q):ev tk C hs (.and a b) ρ=cond q (ev tk C hs b ρ) (aa (d,ae)):=by show W.bind (ev tk C hs a ρ) _=_;refine rE h (rE (lV ..) (rE t ?_));rfl
theorem IK{a:RE}(h:ev tk C hs a ρ=aa (d,ae)):ev tk C hs (.uK a) ρ=aa (.bool (Bu d),ae):=W.aS h rfl
theorem tT{a b:RE}{x z:D}(h1:ev tk C hs a ρ=aa (x,ae))(h2:ev tk C hs b ρ=aa (y,ae))(h:kK x y=aa (z,ae)):ev tk C hs (.sub a b) ρ=aa (z,ae):=W.aS h1 (W.aS h2 h)
theorem kx{v:Nat}{x:D}(g:jG ρ v=aa x)(h:sV x=aa (y,ae)):ev tk C hs (.bL v) ρ=aa (y,ae):=(cA g).trans h
theorem jR{v:Nat}{l u s:RO}{x:D}{i j k:Option Int}(g:jG ρ v=aa x)(h1:kM tk C hs l ρ=aa (i,ae))(h2:kM tk C hs u ρ=aa (j,ae))(h3:kM tk C hs s ρ=aa (k,ae))(h:ny x i j k=aa (y,ae)):ev tk C hs (.cw v l u s) ρ=aa (y,ae):=
 (cA g).trans (W.aS h1 (W.aS h2 (W.aS h3 h)))
theorem ee:kM tk C hs .none ρ=aa (af,ae):=rfl
theorem gW{a:RE}{i:Int}(h:ev tk C hs a ρ=aa (.int i,ae)):kM tk C hs (.some a) ρ=aa (aa i,ae):=W.aS h rfl
theorem di:eD tk C hs .nil ρ=aa ([],ae):=rfl
theorem bI{a:RE}{es:bf}{x:D}{xs:List D}(h1:ev tk C hs a ρ=aa (x,ae))(h2:eD tk C hs es ρ=aa (xs,ae)):eD tk C hs (.cons a es) ρ=aa (x::xs,ae):=W.aS h1 (W.aS h2 rfl)
theorem fF{es:bf}{xs:List D}(h:eD tk C hs es ρ=aa (xs,ae)):ev tk C hs (.list es) ρ=aa (.list xs,ae):=W.aS h rfl
theorem tU{es:bf}{xs:List D}(h:eD tk C hs es ρ=aa (xs,ae)):ev tk C hs (.tup es) ρ=aa (.tuple xs,ae):=W.aS h rfl
theorem IM{f:Nat}{es:bf}{xs:List D}(h:eD tk C hs es ρ=aa (xs,ae)):ev tk C hs (.call f es) ρ=C f xs:=by show W.bind (eD tk C hs es ρ) _=_;exact rE h (rE (lV ..) rfl)
theorem QH{p:Prim}{es:bf}{xs:List D}(h:eD tk C hs es ρ=aa (xs,ae)):ev tk C hs (.prim p es) ρ=gQ p xs:=by show W.bind (eD tk C hs es ρ) _=_;exact rE h (rE (lV ..) rfl)
theorem qm{f:Nat}{a:RE}{x:D}(h1:ev tk C hs a ρ=aa (x,ae)):ev tk C hs (.call f (.cons a .nil)) ρ=C f [x]:=IM (bI h1 di)
theorem IP{f:Nat}{a b:RE}{x:D}(h1:ev tk C hs a ρ=aa (x,ae))(h2:ev tk C hs b ρ=aa (y,ae)):ev tk C hs (.call f (.cons a (.cons b .nil))) ρ=C f [x,y]:=IM (bI h1 (bI h2 di))
theorem v8{f:Nat}{a b c:RE}{x z:D}(h1:ev tk C hs a ρ=aa (x,ae))(h2:ev tk C hs b ρ=aa (y,ae))(h3:ev tk C hs c ρ=aa (z,ae)):ev tk C hs (.call f (.cons a (.cons b (.cons c .nil)))) ρ=C f [x,y,z]:=IM (bI h1 (bI h2 (bI h3 di)))
theorem gH{p:Prim}{a:RE}{x:D}{r:W D}(h1:ev tk C hs a ρ=aa (x,ae))(h:gQ p [x]=r):ev tk C hs (.prim p (.cons a .nil)) ρ=r:=(QH (bI h1 di)).trans h
theorem Aq{p:Prim}{a b:RE}{x:D}{r:W D}(h1:ev tk C hs a ρ=aa (x,ae))(h2:ev tk C hs b ρ=aa (y,ae))(h:gQ p [x,y]=r):ev tk C hs (.prim p (.cons a (.cons b .nil))) ρ=r:=(QH (bI h1 (bI h2 di))).trans h
theorem adA{a b:RE}{x:ax}(h1:ev tk C hs a ρ=aa (S x,ae))(h2:ev tk C hs b ρ=aa (y,ae)):ev tk C hs (.tok a b) ρ=aa (mi tk (aj x) y,ae):=W.aS h1 (W.aS h2 rfl)
theorem Dg{e:RE}{x:D}{xs:List D}(h:ev tk C hs e ρ=aa (x,ae))(q:nt x=aa xs):fO tk C hs (.data e) ρ=aa (xs,ae):=W.aS h ((cA q).trans rfl)
theorem adB{e:RE}{i:Int}(h:ev tk C hs e ρ=aa (.int i,ae))(q:aU i.natAbs 1000000):fO tk C hs (.dy e) ρ=aa (kL 0 i.toNat,ae):=W.aS h (du _ q)
theorem bq{s:RS}{ss:bP}(h:ex tk C CH s ρ hs=aa (.next ρ' hs',ae)):cb tk C CH (.cons s ss) ρ hs=cb tk C CH ss ρ' hs':=by show W.bind (ex tk C CH s ρ hs) _=_;exact rE h (rE (lV ..) rfl)
theorem gX{s:RS}{ss:bP}(h:ex tk C CH s ρ hs=aa (.ret d hs',ae)):cb tk C CH (.cons s ss) ρ hs=aa (.ret d hs',ae):=W.aS h rfl
theorem jv:cb tk C CH .nil ρ hs=aa (.next ρ hs,ae):=rfl
theorem c7{e:RE}(h:ev tk C hs e ρ=aa (d,ae)):ex tk C CH (.asg i e) ρ hs=aa (.next (put ρ i (.val d)) hs,ae):=W.aS h rfl
theorem QI{c:RE}{a b:bP}{q:Bool}(h:ev tk C hs c ρ=aa (d,ae))(t:truthy d=aa q):ex tk C CH (.ite c a b) ρ hs=cond q (cb tk C CH a ρ hs) (cb tk C CH b ρ hs):=by show W.bind (ev tk C hs c ρ) _=_;refine rE h (rE (lV ..) (rE t ?_));rfl
theorem ig{c:RE}{a b:bP}{m:W Fl}(h:ev tk C hs c ρ=aa (d,ae))(t:truthy d=aa ae)(r:cb tk C CH a ρ hs=m):ex tk C CH (.ite c a b) ρ hs=m:=(QI h t).trans r
theorem fG{c:RE}{a b:bP}{m:W Fl}(h:ev tk C hs c ρ=aa (d,ae))(t:truthy d=aa ag)(r:cb tk C CH b ρ hs=m):ex tk C CH (.ite c a b) ρ hs=m:=(QI h t).trans r
theorem qo{e:RE}(h:ev tk C hs e ρ=aa (d,ae)):ex tk C CH (.ret e) ρ hs=aa (.ret d hs,ae):=W.aS h rfl
theorem Dh{t:jj}{it:RI}{b:bP}{xs:List D}(h:fO tk C hs it ρ=aa (xs,ae)):ex tk C CH (.loop t it b) ρ hs=dE (λx ρ hs=>(eU t x ρ).bind λρ'=>cb tk C CH b ρ' hs) xs ρ hs:=by show W.bind (fO tk C hs it ρ) _=_;exact rE h (rE (lV ..) rfl)
theorem xX{e:RE}{xs:List D}(g:get ρ i=aa (.own xs))(h:ev tk C hs e ρ=aa (d,ae))(hl:xs.length<1000000):ex tk C CH (.app i e) ρ hs=aa (.next (put ρ i (.own (xs++[d]))) hs,ae):=
 (cA (Ap g)).trans (W.aS h (W.aS (du () (show aU xs.length 1000000 from bO hl)) rfl))
theorem Di{e:RE}{op:ma}{x z:D}(g:get ρ i=aa (.val x))(hl:d7 x=af)(h:ev tk C hs e ρ=aa (y,ae))(ho:j3 op x y=aa (z,ae)):ex tk C CH (.aug i op e) ρ hs=aa (.next (put ρ i (.val z)) hs,ae):=by refine(cA (OT g)).trans (W.aS h ?_);exact rE hl (W.aS ho rfl)
theorem QJ{e:RE}{x:D}{xs:List D}(h:ev tk C hs e ρ=aa (x,ae))(q:nt x=aa xs)(u:uU is xs ρ=aa ρ'):ex tk C CH (.uR is e) ρ hs=aa (.next ρ' hs,ae):=
 W.aS h ((cA q).trans ((cA u).trans rfl))
theorem QK{ts:List RT}{sl:List bA}(h:lB tk C ts ρ hs=aa ((sl,hs'),ae))(u:yW is sl ρ=aa ρ'):ex tk C CH (.mul is ts) ρ hs=aa (.next ρ' hs',ae):=W.aS h ((cA u).trans rfl)
theorem adC:lB tk C [] ρ hs=aa (([],hs),ae):=rfl
theorem QL{e:RE}{ts:List RT}{sl:List bA}(h:ev tk C hs e ρ=aa (d,ae))(r:lB tk C ts ρ hs=aa ((sl,hs'),ae)):lB tk C (.val e::ts) ρ hs=aa ((.val d::sl,hs'),ae):=W.aS h (W.aS r rfl)
theorem cJ{s:RS}(h:ex tk C CH s ρ hs=aa (.next ρ' hs',ae)):cb tk C CH (.cons s .nil) ρ hs=aa (.next ρ' hs',ae):=bq h
end
theorem nZ{f:Nat}{args:List D}{fn:Fn}(hf:aH f=aa fn)(hp:oK fn.params args []=aa ρ)(h:cb tok (run tok aH n) af fn.body ρ []=aa (.ret d hs,ae)):run tok aH (n+1) f args=aa (d,ae):=
 (cA hf).trans ((cA hp).trans (W.aS h rfl))
theorem adD(n:Nat)(x:Int):run tok aH (n+1) 2 [.int x]=aa (.bool (decide (x<256)),ae):=nZ rfl rfl (hs:=[]) (by kernel_rfl)
theorem adE(n:Nat)(x:Int):run tok aH (n+1) 3 [.int x]=aa (.bool (decide (x≥256)),ae):=nZ rfl rfl (hs:=[]) (by kernel_rfl)
theorem adF(n:Nat)(x:Int):run tok aH (n+1) 4 [.int x]=aa (.bool (x == 0),ae):=nZ rfl rfl (hs:=[]) (by kernel_rfl)
noncomputable def iL:Bool→List Nat→Bool
 |b,[]=>b
 |true,_::cs=>iL ag cs
 |false,c::cs=>iL (az c 92) cs
theorem xY:∀ (l rest:ax) (i:Nat) (b:Bool),iL b l=ag→bV i b (l++rest)=bV i b l++bV (i+l.length) ag rest
 | [],rest,i,b,h=>by have h:b=ag:=h;subst h;rfl
 |c::cs,rest,i,ae,h=>by have ih:=xY cs rest (i+1) ag h;show(i,[92,c])::bV (i+1) ag (cs++rest)=(i,[92,c])::bV (i+1) ag cs++_;refine rE ih (rE bT (rE (Bj cs.length 1) (rS (Bk ..) ?_)));rfl
 |c::cs,rest,i,ag,h=>by
  have h:iL (az c 92) cs=ag:=h;show cond (az c 92) (bV (i+1) ae (cs++rest)) ((i,[c])::bV (i+1) ag (cs++rest))=cond (az c 92) (bV (i+1) ae cs) ((i,[c])::bV (i+1) ag cs)++_;refine rE bT (rE (Bj cs.length 1) (rS (Bk ..) ?_));induction hc:az c 92 with
  |true=>replace h:=hc▸h;exact xY cs rest (i+1) ae h
  |false=>replace h:=hc▸h;refine rE (cond_false ..) (rE (cond_false ..) (rE (xY cs rest (i+1) ag h) ?_));rfl
noncomputable def dG:Bool→List Nat→List (List Nat)
 |false,[]=>[]
 |true,[]=>[[92]]
 |true,c::cs=>[92,c]::dG ag cs
 |false,c::cs=>cond (az c 92) (dG ae cs) ([c]::dG ag cs)
theorem QM(c:Nat)(cs:ax):dG ag (c::cs)=bif az c 92 then dG ae cs else [c]::dG ag cs:=rfl
theorem r4:∀ (l:ax) (i:Nat) (b:Bool),(bV i b l).map (·.2)=dG b l:=by
 intro l;induction l with
 |nil=>intro i b;induction b<;>rfl
 |cons c cs ih=>
  intro i b;induction b with
  |true=>exact congrArg _ (ih (i+1) ag)
  |false=>
   show(cond (az c 92) (bV (i+1) ae cs) ((i,[c])::bV (i+1) ag cs)).map (·.2)=cond (az c 92) (dG ae cs) ([c]::dG ag cs);induction az c 92 with
   |true=>exact ih (i+1) ae
   |false=>exact congrArg _ (ih (i+1) ag)
theorem adG:∀ (l:ax) (i:Nat) (b:Bool),∀u∈bV i b l,u.1<i+l.length+1:=by
 intro l;induction l with
 |nil=>
  intro i b u h;induction b with
  |false=>exact nomatch h
  |true=>exact rE (dK.mp h) (EL (qD i 1))
 |cons c cs ih=>
  intro i b u h;have e:i+(c::cs).length+1=i+1+cs.length+1:=congrArg (· +1) (Ka i _ 1);have h0:i<i+1+cs.length+1:=EL (aF (wN i) (nh ..));refine rE e ?_;induction b with
  |true=>exact(bE.mp h).elim (λe=>by refine rE e ?_;exact h0) (ih (i+1) ag u)
  |false=>
   replace h:=(EW ..)▸h;induction hc:az c 92 with
   |true=>replace h:=hc▸h;exact ih (i+1) ae u h
   |false=>replace h:=hc▸h;exact(bE.mp h).elim (λe=>by refine rE e ?_;exact h0) (ih (i+1) ag u)
theorem adH:∀ (l:ax) (i:Nat) (b:Bool),(bV i b l).length≤l.length+1:=by
 intro l;induction l with
 |nil=>intro i b;cases b;exact eo _;exact bZ _
 |cons c cs ih=>
  intro i b;induction b with
  |true=>exact m4 (ih (i+1) ag)
  |false=>
   refine rE (EW ..) ?_;induction az c 92 with
   |true=>exact Ba (ih (i+1) ae)
   |false=>exact m4 (ih (i+1) ag)
theorem adI{x:Nat}:∀ (l:ax) (b:Bool),x∉l→x≠92→[x]∉dG b l:=by
 intro l;induction l with
 |nil=>intro b _ h;cases b;exact nofun;exact λq=>h (jf (dK.mp q)).1
 |cons c cs ih=>
  intro b hn h;have hm:x∉cs:=λq=>hn (cf _ q);induction b with
  |true=>exact λq=>(bE.mp q).elim (λe=>zC (jf e).2) (ih ag hm h)
  |false=>
   refine rE (QM ..) ?_;induction az c 92 with
   |true=>exact ih ae hm h
   |false=>exact λq=>(bE.mp q).elim (λe=>hn (rE ((jf e).1) bG)) (ih ag hm h)
structure St where
 a:Nat
 o:Option Nat
 r:List (List Nat)
noncomputable def dY(full:ax)(st:St)(u:Nat × List Nat):St:=
 if u.2=[34]then match st.o with
  |none=>⟨st.a,aa u.1,st.r⟩
  |some o=>⟨u.1+1,af,if st.a=o then st.r else st.r++[(full.take o).drop st.a]⟩
 else st
theorem Ar(full:ax):∀ (us:List (Nat × List Nat)) (st:St),[34]∉us.map (·.2)→us.foldl (dY full) st=st:=by
 intro L0;induction L0 with
 |nil=>intro _ _;exact rfl
 |cons u us ih=>intro st h;simp only[iS,bE,not_or]at h;refine rE sE (rE (show dY full st u=st from if_neg λq=>h.1 q.symm) ?_);exact ih st h.2
noncomputable def ky(full:ax):List Nat:=let st:=(bV 0 ag full).foldl (dY full) ⟨0,af,[]⟩;st.r.flatten++full.drop st.a
structure gZ where
 q:Bool
 l:List Nat
noncomputable def gZ.txt(b:gZ):List Nat:=cond b.q (34::(b.l++[34])) b.l
noncomputable def gZ.bare(b:gZ):List Nat:=cond b.q [] b.l
structure gZ.Ok(b:gZ):Prop where
 e:iL ag b.l=ag
 n:[34]∉dG ag b.l
structure xZ(T B:ax)(st:St):Prop where
 o:st.o=af
 le:st.a≤T.length
 t:st.r.flatten++T.drop st.a=B
set_option tactic.hygienic true in
theorem adJ{b:gZ}(k:b.Ok){T B R:ax}{st:St}(h:xZ T B st):xZ (T++b.txt) (B++b.bare) ((bV T.length ag b.txt).foldl (dY (T++b.txt++R)) st):=by
 obtain⟨q,l⟩:=b;obtain⟨k1,k2⟩:=k;obtain⟨a,o,r⟩:=st;obtain⟨h1,h2,h3⟩:=h;dsimp only at k1 k2 h1 h2 h3;subst h1;induction q with
 |false=>show xZ (T++l) (B++l) ((bV T.length ag l).foldl (dY (T++l++R)) _);exact rE (Ar _ _ _ (rE (r4 ..) k2)) ⟨rfl,by simp;lia,by show r.flatten++(T++l).drop a=_;refine rE (UX h2) ?_;refine rS (d5 ..) ?_;exact rE h3 rfl⟩
 |true=>
  show xZ (T++(34::(l++[34]))) (B++[]) ((bV T.length ag (34::(l++[34]))).foldl (dY (T++(34::(l++[34]))++R)) _);have e1:bV T.length ag (34::(l++[34]))=(T.length,[34])::(bV (T.length+1) ag l++[(T.length+1+l.length,[34])]):=by show(T.length,[34])::bV (T.length+1) ag (l++[34])=_;refine rE (xY l [34] (T.length+1) ag k1) ?_;rfl
  refine rE e1 (rE sE (rE aif ?_));have e2:∀full,dY full ⟨a,af,r⟩ (T.length,[34])=⟨a,aa T.length,r⟩:=λfull=>rfl;refine rE (e2 ..) (rE (Ar _ (bV (T.length+1) ag l) _ (rE (r4 ..) k2)) (rE sE (rE List.foldl_nil ?_)));have e3:dY (T++(34::(l++[34]))++R) ⟨a,aa T.length,r⟩ (T.length+1+l.length,[34])=⟨T.length+1+l.length+1,af,if a=T.length then r else r++[((T++(34::(l++[34]))++R).take T.length).drop a]⟩:=rfl;refine rE e3 (rE (eg ..) ?_);refine⟨rfl,by simp;lia,?_⟩;show(if a=T.length then r else r++[((T++(34::(l++[34]))++R).take T.length).drop a]).flatten++(T++(34::(l++[34]))).drop (T.length+1+l.length+1)=B;have e4:(T++(34::(l++[34]))).drop (T.length+1+l.length+1)=[]:=AR (by simp;lia);refine rE e4 (rE (eg ..) ?_);rewrite[d5 T];refine rE (Bl rfl) ?_;split
  ·rename_i q;exact rS h3 (rE q (rE (AR (bZ _)) (rE (eg ..) rfl)))
  ·refine rS h3 ?_;simp
noncomputable def eN(bs:List gZ):List Nat:=bs.flatMap gZ.txt
noncomputable def lg(bs:List gZ):List Nat:=bs.flatMap gZ.bare
theorem As:∀ (l m:ax) (b:Bool),iL b (l++m)=iL (iL b l) m
 | [],_,_=>rfl
 |c::cs,m,ae=>As cs m ag
 |c::cs,m,ag=>As cs m (az c 92)
theorem gZ.Ok.txt{b:gZ}(k:b.Ok):iL ag b.txt=ag:=by
 obtain⟨q,l⟩:=b;induction q with
 |false=>exact k.e
 |true=>show iL ag (34::(l++[34]))=ag;show iL ag (l++[34])=ag;refine rE (As ..) (rE (show iL ag l=ag from k.e) ?_);rfl
theorem QN:∀ (bs:List gZ) (T B R:ax) (st:St),(∀b∈bs,b.Ok)→xZ T B st→∃j6,xZ (T++eN bs) (B++lg bs) j6∧∀rest,(bV T.length ag (eN bs++rest)).foldl (dY (T++(eN bs++R))) st=(bV (T.length+(eN bs).length) ag rest).foldl (dY (T++(eN bs++R))) j6:=by
 intro bs;induction bs with
 |nil=>exact λT B R st Z h=>⟨st,by simpa[eN,lg]using h,λrest=>rfl⟩
 |cons b bs ih=>
  intro T B R st hk h;have kb:=hk b bG;have h1:=adJ (R:=eN bs++R) kb h;refine aD (ih (T++b.txt) (B++b.bare) R _ (λc hc=>hk c (cf _ hc)) h1) λj6 h2 h3=>?_;have et:eN (b::bs)=b.txt++eN bs:=rfl;have eb:lg (b::bs)=b.bare++lg bs:=rfl;refine⟨j6,by refine rE et ?_;refine rE eb ?_;refine rS (d5 ..) ?_;refine rS (d5 ..) ?_;exact h2,λrest=>?_⟩;have:=h3 rest;replace this:=bt▸this;refine rE et ?_;have e1:T++(b.txt++eN bs++R)=T++b.txt++(eN bs++R):=by simp only[d5]
  refine rE e1 ?_;rewrite[d5 b.txt];refine rE (xY b.txt _ _ _ kb.txt) (rE aif (rE (bt (as:=b.txt)) (rS (Bk ..) ?_)));exact this
theorem QO{bs:List gZ}(hk:∀b∈bs,b.Ok){e:ax}(he:[34]∉dG ag e):ky (eN bs++e)=lg bs++e:=by obtain⟨j6,⟨h1,h2,h3⟩,h4⟩:=QN bs [] [] e ⟨0,af,[]⟩ hk ⟨rfl,eo _,rfl⟩;have:=h4 e;replace this:=m9▸(EM ..)▸this;unfold ky;dsimp only;refine rE this (rE (Ar _ _ _ (rE (r4 ..) he)) ?_);rw[EM]at h2 h3;refine rE (UX h2) (rS (d5 ..) (rE h3 ?_));rfl
theorem QP{bs:List gZ}(hk:∀b∈bs,b.Ok){e:ax}(he:[34]∉dG ag e):ky (eN bs++34::e)=lg bs++34::e:=by
 obtain⟨j6,⟨h1,h2,h3⟩,h4⟩:=QN bs [] [] (34::e) ⟨0,af,[]⟩ hk ⟨rfl,eo _,rfl⟩;have:=h4 (34::e);replace this:=m9▸(EM ..)▸this;unfold ky;dsimp only;refine rE this (rE (show bV (0+(eN bs).length) ag (34::e)=(0+(eN bs).length,[34])::bV (0+(eN bs).length+1) ag e from rfl) (rE sE (rE (Ar _ _ _ (rE (r4 ..) he)) ?_)));have hs:dY (eN bs++34::e) j6 (0+(eN bs).length,[34])=⟨j6.a,aa (0+(eN bs).length),j6.r⟩:=by unfold dY;exact rE (if_pos rfl) (rE h1 rfl)
 rw[EM]at h2 h3;refine rE hs ?_;show j6.r.flatten++(eN bs++34::e).drop j6.a=_;refine rE (UX h2) (rS (d5 ..) (rE h3 ?_));rfl
theorem adK{l:ax}(h:34∉l):ky l=l:=by unfold ky;refine rE (Ar _ _ _ (rE (r4 ..) (adI l ag h (by decide)))) ?_;rfl
theorem adL(c:Nat):∀l:ax,nq [c] l↔c∈l:=by
 intro l;induction l with
 |nil=>exact⟨(nomatch ·),(nomatch ·)⟩
 |cons y r ih=>
  have e:nq [c] (y::r)=cond (cond (az c y) ae ag) ae (nq [c] r):=by show cond (cond (az c y) (qU [] r) ag) ae (nq [c] r)=_;induction r<;>rfl
  refine rE e ?_;rw[bE];induction q:az c y with
  |true=>exact⟨λZ=>.inl (fY q),λZ=>rfl⟩
  |false=>exact ih.trans ⟨.inr,λh=>h.resolve_left λh=>by replace q:=h▸q;replace q:=(nc ..)▸q;exact zT q⟩
theorem Au(h:k<1000000000):ly (aa (k:Int)):=by show(decide (0≤(k:Int))&&aU k 1000000000);exact rE (decide_eq_true (jd k)) (bO h)
theorem IQ(h:k<1000000000):uN (aa (k:Int)):=bO h
theorem adM:∀l:cP,Bx (l.map S)=aa (l.map aj):=by
 intro l;induction l with
 |nil=>rfl
 |cons x r ih=>exact(cA ih)
theorem adN:∀l:cP,lz [] l=l.flatten:=by
 intro l;induction l with
 |nil=>rfl
 |cons x r ih=>
  induction r using bj with
  |nil=>exact(eg x).symm
  |cons y r=>show x++[]++lz [] (y::r)=x++(y::r).flatten;exact rE ih (rE (eg ..) rfl)
theorem adO(c:Nat):∀ (l:cP) (n:Nat),(l.map aj).foldl (λn y=>n+(sL y).length+c) n=n+l.flatten.length+c * l.length:=by
 intro l;induction l with
 |nil=>exact λn=>rfl
 |cons x r ih=>intro n;refine rE iS (rE sE (rE (ih ..) (rE K0 (rE bt (rE bT (rE (ur ..) (rE (v7 ..) ?_)))))));lia
theorem adP(s:ax)(l:cP)(h:l.flatten.length+s.length * l.length≤1000000):gQ .join [S s,.list (l.map S)]=aa (S (lz s l),ae):=by
 have e:(l.map aj).map sL=l:=rE dJ (rE (show sL∘aj=id from rfl) (rE (List.map_id ..) rfl))
 refine(cA (adM l)).trans ?_;show W.need (uA (aj (lz s ((l.map aj).map sL)))) (aX ((l.map aj).foldl (λn y=>n+(sL y).length+s.length) 0) 1000000)=_;refine rE e (rE (adO ..) (rE (lj ..) ?_));exact du _ (bO h)
theorem Av(l:cP)(h:l.flatten.length≤1000000):gQ .join [S [],.list (l.map S)]=aa (S l.flatten,ae):=rS (adN ..) (adP [] l (rE m9 (rE (Nat.zero_mul ..) h)))
noncomputable def uD(u:Nat × List Nat):D:=.tuple [.int u.1,S u.2]
noncomputable def oD:Option Nat→D
 |none=>.none
 |some o=>.int o
structure SI(full:ax)(st:St)(ρ:aM):Prop where
 g0:get ρ 0=aa (.val (S full))
 g1:get ρ 1=aa (.val (.int st.a))
 g2:get ρ 2=aa (.val (oD st.o))
 g3:get ρ 3=aa (.own (st.r.map S))
structure SB(st:St)(n:Nat):Prop where
 a:st.a≤200000
 o:∀o,st.o=aa o→o≤200000
 r:st.r.length+n<1000000
theorem adQ(full:ax)(st:St)(u:Nat × List Nat):(dY full st u).r.length≤st.r.length+1:=by
 unfold dY;split
 ·split
  ·show st.r.length≤_;lia
  ·show(if _ then _ else _:cP).length≤_;split<;>simp
 ·lia
theorem SB.step{full:ax}{st:St}{u:Nat × List Nat}(b:SB st (n+1))(hu:u.1<200000):SB (dY full st u) n:=by
 have:=adQ full st u;refine⟨?_,?_,by have:=b.r;lia⟩
 ·unfold dY;split
  ·split
   ·exact b.a
   ·show u.1+1≤_;lia
  ·exact b.a
 ·intro o;unfold dY;split
  ·split
   ·intro h;replace h:=iJ h;subst h;lia
   ·intro h;exact zN h
  ·exact b.o o
noncomputable def IS:bP:=.cons (.ite (.cmp (.var 5) (.cons .eq (.lit (.str (aj [34]))) .nil)) (.cons (.ite (.uK (.var 2)) (.cons (.asg 2 (.var 4)) .nil) (.cons (.ite (.cmp (.var 1) (.cons .ne (.var 2) .nil)) (.cons (.app 3 (.cw 0 (.some (.var 1)) (.some (.var 2)) .none)) .nil) .nil) (.cons (.asg 1 (.bin .add (.var 4) (.lit (.int 1)))) (.cons (.asg 2 (.lit .none)) .nil)))) .nil) .nil) .nil
noncomputable def dH(C:l9)(CH:Option nC)(t:jj)(b:bP):D→aM→Hs→W Fl:=λx ρ hs=>(eU t x ρ).bind λρ'=>cb tok C CH b ρ' hs
theorem adR(full:ax)(a b:Nat)(ha:a≤200000)(hb:b≤200000)(hl:full.length≤100000):ny (S full) (aa (a:Int)) (aa (b:Int)) af=aa (S ((full.take b).drop a),ae):=du _ (rE (Au (jh ha (by decide))) (rE (IQ (jh hb (by decide))) (bO (aF hl (by decide)))))
theorem adS(full:ax)(a:Nat)(ha:a≤200000)(hl:full.length≤100000):ny (S full) (aa (a:Int)) af af=aa (S (full.drop a),ae):=du _ (rE (Au (jh ha (by decide))) (bO (aF hl (by decide))))
theorem IT{t x:ax}(h:get ρ i=aa (.val (S t))):ev tok C hs (.cmp (.var i) (.cons .eq (.lit (.str (aj x))) .nil)) ρ=aa (.bool (lEq t x),ae):=cS (aA h) rfl rfl
theorem r5(a b:Nat):((a:Int) == (b:Int))=az a b:=by
 induction q:az a b with
 |true=>exact rE (fY q) (beq_self_eq_true _)
 |false=>rw[beq_eq_false_iff_ne];intro h;replace q:=Int.ofNat_inj.mp h▸q;exact zT ((nc ..)▸q)
theorem adT(a b:Nat):gO .ne (.int (a:Int)) (.int (b:Int))=aa (!Nat.beq a b,ae):=by show aa ((!((a:Int) == (b:Int)),ae):Bool × Bool)=_;exact rE (r5 ..) rfl
theorem QQ{p:Nat}{cR:aM}(q4:get cR 4=aa (.val (.int p))):cb tok C af (.cons (.asg 1 (.bin .add (.var 4) (.lit (.int 1)))) (.cons (.asg 2 (.lit .none)) .nil)) cR []=aa (.next (put (put cR 1 (.val (.int ((p+1:Nat):Int)))) 2 (.val .none)) [],ae):=
 (bq (c7 (bk (z:=.int ((p+1:Nat):Int)) (aA q4) (aK _) rfl))).trans (cJ (c7 rfl))
theorem adU{full:ax}(hl:full.length≤100000){st:St}(h:SI full st ρ)(b:SB st (n+1))(u:Nat × List Nat):∃ρ',dH C af (.two 4 5) IS (uD u) ρ []=aa (.next ρ' [],ae)∧SI full (dY full st u) ρ':=by
 have k0:get (put (put ρ 4 (.val (.int u.1))) 5 (.val (S u.2))) 0=_:=gN rfl (gN rfl h.g0);have k1:get (put (put ρ 4 (.val (.int u.1))) 5 (.val (S u.2))) 1=_:=gN rfl (gN rfl h.g1);have k2:get (put (put ρ 4 (.val (.int u.1))) 5 (.val (S u.2))) 2=_:=gN rfl (gN rfl h.g2);have k3:get (put (put ρ 4 (.val (.int u.1))) 5 (.val (S u.2))) 3=_:=gN rfl (gN rfl h.g3);have k4:get (put (put ρ 4 (.val (.int u.1))) 5 (.val (S u.2))) 4=aa (.val (.int u.1)):=gN rfl gS;have k5:get (put (put ρ 4 (.val (.int u.1))) 5 (.val (S u.2))) 5=aa (.val (S u.2)):=gS;show ∃ρ',cb tok C af IS (put (put ρ 4 (.val (.int u.1))) 5 (.val (S u.2))) []=_∧_;revert k0 k1 k2 k3 k4 k5;generalize put (put ρ 4 (.val (.int u.1))) 5 (.val (S u.2))=bN;intro k0 k1 k2 k3 k4 k5;have ec:=IT (C:=C) (hs:=[]) (x:=[34]) k5;unfold dY;by_cases ht:u.2=[34]
 ·replace ec:=(tS ..)▸ht▸ec;refine rE (if_pos ht) ?_;induction ho:st.o with
  |none=>replace k2:=ho▸k2;exact⟨put bN 2 (.val (.int u.1)),cJ (ig ec rfl (cJ (ig (IK (aA k2)) rfl (cJ (c7 (aA k4)))))),gN rfl k0,gN rfl k1,gS,gN rfl k3⟩
  |some o=>
   replace k2:=ho▸k2;have e2:=cS (C:=C) (tk:=tok) (hs:=[]) (aA k1) (aA k2) (adT st.a o);have bo:=b.o o ho;by_cases Dj:st.a=o
   ·replace e2:=(nc ..)▸Dj▸e2;refine⟨put (put bN 1 (.val (.int ((u.1+1:Nat):Int)))) 2 (.val .none),cJ (ig ec rfl (cJ (fG (IK (aA k2)) rfl ((bq (fG e2 rfl jv)).trans (QQ k4))))),gN rfl (gN rfl k0),gN rfl gS,gS,?_⟩;show get _ 3=aa (.own ((if st.a=o then st.r else _).map S));exact rE (if_pos Dj) (gN rfl (gN rfl k3))
   ·replace e2:=jQ Dj▸e2;refine⟨put (put (put bN 3 (.own (st.r.map S++[S ((full.take o).drop st.a)]))) 1 (.val (.int ((u.1+1:Nat):Int)))) 2 (.val .none),cJ (ig ec rfl (cJ (fG (IK (aA k2)) rfl ((bq (ig e2 rfl (cJ (xX k3 ?_ ?_)))).trans (QQ (gN rfl k4)))))),gN rfl (gN rfl (gN rfl k0)),gN rfl gS,gS,?_⟩
    ·exact jR (eK k0) (gW (aA k1)) (gW (aA k2)) ee (adR full st.a o b.a bo hl)
    ·have:=b.r;refine rE (aQ ..) ?_;lia
    ·show get _ 3=aa (.own ((if st.a=o then st.r else _).map S));exact rE (if_neg Dj) (rE dw (gN rfl (gN rfl gS)))
 ·replace ec:=De ht▸ec;exact rE (if_neg ht) ⟨bN,cJ (fG ec rfl jv),k0,k1,k2,k3⟩
theorem adV{full:ax}(hl:full.length≤100000):∀ (us:List (Nat × List Nat)) (st:St) (ρ:aM),SI full st ρ→SB st us.length→(∀u∈us,u.1<200000)→
  ∃ρ',dE (dH C af (.two 4 5) IS) (us.map uD) ρ []=aa (.next ρ' [],ae)∧SI full (us.foldl (dY full) st) ρ'∧SB (us.foldl (dY full) st) 0:=by
 intro us;induction us with
 |nil=>exact λst ρ h b Z=>⟨ρ,rfl,h,b⟩
 |cons u us ih=>intro st ρ h b hu;obtain⟨bN,e1,h1⟩:=adU (C:=C) hl h (n:=us.length) b u;exact aD (ih _ bN h1 (SB.step b (hu u bG)) λv hv=>hu v (cf _ hv)) λρ' e2 r=>⟨ρ',(o9 e1).trans e2,r⟩
theorem v9{xs:List D}(h:get ρ j=aa (.own xs))(q:is.any (az j)):get (dX is ρ) j=aa (.val (.list xs)):=by refine rE (Ao ..) (rE h (rE q ?_));rfl
theorem QR{cR:aM}{l:cP}(h3:get cR 3=aa (.own (l.map S)))(hl:l.flatten.length≤1000000):cb tok C af (.cons (.fz [3] (.ret (.prim .join (.cons (.lit (.str (aj []))) (.cons (.var 3) .nil))))) .nil) cR []=aa (.ret (S l.flatten) [],ae):=
 gX (show ex tok C af (.ret _) (dX [3] cR) []=_ from qo (Aq rfl (aA (v9 h3 rfl)) (Av l hl)))
theorem x6(a b:Nat):gO .lt (.int (a:Int)) (.int (b:Int))=aa (aU a b,ae):=by
 show aa ((decide ((a:Int)<(b:Int)),ae):Bool × Bool)=_;induction q:aU a b with
 |true=>exact rE (decide_eq_true (UY.mpr (bc q))) rfl
 |false=>rw[decide_eq_false];intro h;exact zT ((show aU a b from bO (UY.mp h))▸q)
theorem Dk(l:ax)(h:l.length≤1000000):sV (S l)=aa (.int (l.length:Int),ae):=du _ (bO h)
theorem Dm{l:ax}(h:get ρ i=aa (.val (S l)))(hl:l.length≤1000000):fO tok C hs (.gen (.var i)) ρ=aa ((bV 0 ag l).map uD,ae):=
 W.aS (aA h) (du _ (bO hl))
theorem QS(n:Nat)(full:ax)(hl:full.length≤100000)(hr:(ky full).length≤1000000):run tok aH (n+1) 0 [S full]=aa (S (ky full),ae):=by
 refine nZ (ρ:=[(0,.val (S full))]) rfl rfl (hs:=[]) ?_;have q0:ev tok (run tok aH n) ([]:Hs) (.cmp (.lit (.str (aj [34]))) (.cons .ix (.var 0) .nil)) [(0,.val (S full))]=aa (.bool (!nq [34] full),ae):=rfl;induction hq:nq [34] full with
 |false=>
  replace q0:=hq▸q0;have hn:34∉full:=λh=>by replace hq:=(adL 34 full).mpr h▸hq;exact zT hq
  exact rE (adK hn) (gX (ig q0 rfl (gX rfl)))
 |true=>
  replace q0:=hq▸q0;refine(bq (fG q0 rfl jv)).trans ((bq (ρ':=[(0,.val (S full)),(1,.val (.int (0:Nat)))]) (hs':=[]) rfl).trans ((bq (ρ':=[(0,.val (S full)),(1,.val (.int (0:Nat))),(2,.val .none)]) (hs':=[]) rfl).trans ((bq (ρ':=[(0,.val (S full)),(1,.val (.int (0:Nat))),(2,.val .none),(3,.own [])]) (hs':=[]) rfl).trans ?_)));have hlen:=adH full 0 ag;obtain⟨ρ',e1,i,b⟩:=adV (C:=run tok aH n) hl (bV 0 ag full) ⟨0,af,[]⟩ [(0,.val (S full)),(1,.val (.int (0:Nat))),(2,.val .none),(3,.own [])] ⟨rfl,rfl,rfl,rfl⟩ ⟨eo _,λo h=>(zN h),(by show 0+_<_;lia)⟩ λu hu=>by have:=adG full 0 ag u hu;lia
  refine(bq ((Dh (Dm (l:=full) rfl (aF hl (by decide)))).trans e1)).trans ?_;unfold ky at hr ⊢;generalize (bV 0 ag full).foldl (dY full) ⟨0,af,[]⟩=st at *;have hr:(st.r.flatten++full.drop st.a).length≤1000000:=hr;have el:=cS (C:=run tok aH n) (tk:=tok) (hs:=[]) (aA i.g1) (kx (eK i.g0) (Dk full (aF hl (by decide)))) (x6 st.a full.length);show _=aa (Fl.ret (S (st.r.flatten++full.drop st.a)) [],ae);induction eV:aU st.a full.length with
  |true=>
   replace el:=eV▸el;have e2:st.r.flatten++full.drop st.a=(st.r++[full.drop st.a]).flatten:=rE Bm (rE K0 (rE List.flatten_nil (rE (eg ..) rfl)))
   rw[e2]at hr ⊢;refine(bq (ig el rfl (cJ (xX i.g3 (jR (eK i.g0) (gW (aA i.g1)) ee ee (adS full st.a b.a hl)) (by have:=b.r;refine rE (aQ ..) ?_;omega))))).trans (QR ?_ hr);exact rE dw gS
  |false=>
   replace el:=eV▸el;have CY:full.length≤st.a:=Ue λh=>by replace eV:=(show aU st.a full.length from bO h)▸eV;exact zT eV
   rw[AR CY,eg]at hr ⊢;exact(bq (fG el rfl jv)).trans (QR i.g3 hr)
noncomputable def eO:List (List Nat)→Int→Bool
 | [],o=>o == 0
 |u::us,o=>if u=[40]then eO us (o+1)else if u=[41]then(if o - 1<0 then ag else eO us (o - 1))else eO us o
theorem adW(x:Int)(u:ax)(us:cP):eO (u::us) x=if u=[40]then eO us (x+1)else if u=[41]then if x - 1<0 then ag else eO us (x - 1)else eO us x:=rfl
noncomputable def tV:bP:=.cons (.ite (.cmp (.var 5) (.cons .eq (.lit (.str (aj [40]))) .nil)) (.cons (.aug 6 .add (.lit (.int 1))) .nil) (.cons (.ite (.cmp (.var 5) (.cons .eq (.lit (.str (aj [41]))) .nil)) (.cons (.aug 6 .sub (.lit (.int 1))) (.cons (.ite (.cmp (.var 6) (.cons .lt (.lit (.int 0)) .nil)) (.cons (.ret (.lit (.bool ag))) .nil) .nil) .nil)) .nil) .nil)) .nil
theorem adX:∀ (us:List (Nat × List Nat)) (ρ:aM) (o:Int),get ρ 6=aa (.val (.int o))→
  (∃ρ' o',dE (dH C af (.two 4 5) tV) (us.map uD) ρ []=aa (.next ρ' [],ae)∧get ρ' 6=aa (.val (.int o'))∧eO (us.map (·.2)) o=(o' == 0))∨
  (dE (dH C af (.two 4 5) tV) (us.map uD) ρ []=aa (.ret (.bool ag) [],ae)∧eO (us.map (·.2)) o=ag):=by
 intro us;induction us with
 |nil=>exact λρ o h=>.inl ⟨ρ,o,rfl,h,rfl⟩
 |cons u us ih=>
  intro ρ o h;have k6:get (put (put ρ 4 (.val (.int u.1))) 5 (.val (S u.2))) 6=aa (.val (.int o)):=gN rfl (gN rfl h);have k5:get (put (put ρ 4 (.val (.int u.1))) 5 (.val (S u.2))) 5=aa (.val (S u.2)):=gS;have eF:∀hs,dH C af (.two 4 5) tV (uD u) ρ hs=cb tok C af tV (put (put ρ 4 (.val (.int u.1))) 5 (.val (S u.2))) hs:=λhs=>rfl;revert k6 k5 eF;generalize put (put ρ 4 (.val (.int u.1))) 5 (.val (S u.2))=bN;intro k6 k5 eF;have e1:=IT (C:=C) (hs:=[]) (x:=[40]) k5;have e2:=IT (C:=C) (hs:=[]) (x:=[41]) k5;have go:∀ {cR QT},cb tok C af tV bN []=aa (.next cR [],ae)→get cR 6=aa (.val (.int QT))→eO (u.2::us.map (·.2)) o=eO (us.map (·.2)) QT→(∃ρ' o',dE (dH C af (.two 4 5) tV) (uD u::us.map uD) ρ []=aa (.next ρ' [],ae)∧get ρ' 6=aa (.val (.int o'))∧eO (u.2::us.map (·.2)) o=(o' == 0))∨
    (dE (dH C af (.two 4 5) tV) (uD u::us.map uD) ρ []=aa (.ret (.bool ag) [],ae)∧eO (u.2::us.map (·.2)) o=ag):=λe g c=>by
   exact rE (o9 ((eF []).trans e)) (rE c (ih _ _ g))
  by_cases h1:u.2=[40]
  ·replace e1:=(tS ..)▸h1▸e1;exact go (cJ (ig e1 rfl (cJ (Di (z:=.int (o+1)) k6 rfl rfl rfl)))) gS (if_pos h1)
  ·replace e1:=De h1▸e1;by_cases h2:u.2=[41]
   ·replace e2:=(tS ..)▸h2▸e2;have e3:ev tok C ([]:Hs) (.cmp (.var 6) (.cons .lt (.lit (.int 0)) .nil)) (put bN 6 (.val (.int (o - 1))))=aa (.bool (decide (o - 1<0)),ae):=cS (aA gS) rfl rfl;by_cases h3:o - 1<0
    ·replace e3:=decide_eq_true h3▸e3;refine .inr ⟨?_,(if_neg h1).trans ((if_pos h2).trans (if_pos h3))⟩;have st:cb tok C af tV bN []=aa (.ret (.bool ag) [],ae):=gX (fG e1 rfl (gX (ig e2 rfl ((bq (Di (z:=.int (o - 1)) k6 rfl rfl rfl)).trans (gX (ig e3 rfl (gX rfl)))))));exact W.aS ((eF []).trans st) rfl
    ·replace e3:=decide_eq_false h3▸e3;exact go (cJ (fG e1 rfl (cJ (ig e2 rfl ((bq (Di (z:=.int (o - 1)) k6 rfl rfl rfl)).trans (cJ (fG e3 rfl jv))))))) gS ((if_neg h1).trans ((if_pos h2).trans (if_neg h3)))
   ·replace e2:=De h2▸e2;exact go (cJ (fG e1 rfl (cJ (fG e2 rfl jv)))) k6 ((if_neg h1).trans (if_neg h2))
theorem adY(n:Nat)(full:ax)(hl:full.length≤100000)(hr:(ky full).length≤1000000):run tok aH (n+2) 1 [S full]=aa (.bool (eO (dG ag (ky full)) 0),ae):=by
 refine nZ (n:=n+1) (ρ:=[(0,.val (S full))]) rfl rfl (hs:=[]) ((bq (c7 ((qm (x:=S full) rfl).trans (QS n full hl hr)))).trans ((bq (ρ':=[(0,.val (S (ky full))),(6,.val (.int 0))]) (hs':=[]) rfl).trans ?_));rw[← r4 _ 0];rcases adX (C:=run tok aH (n+1)) (bV 0 ag (ky full)) [(0,.val (S (ky full))),(6,.val (.int 0))] 0 rfl with⟨ρ',o',e1,e2,e3⟩| ⟨e1,e2⟩
 ·exact rE e3 ((bq ((Dh (Dm rfl hr)).trans e1)).trans (gX (qo (cS (aA e2) rfl rfl))))
 ·exact rE e2 (gX ((Dh (Dm rfl hr)).trans e1))
theorem IU:∀ (l rest:ax) (b:Bool),iL b l=ag→dG b (l++rest)=dG b l++dG ag rest:=λl rest b h=>by rewrite[← r4 _ 0];exact rE (xY l rest 0 b h) (rE dw (rE (r4 ..) (rE (r4 ..) rfl)))
structure Pc where
 c:Nat
 h:Nat
 f:Bool
noncomputable def iM:Nat→List Nat
 |1=>[92,41]|2=>[34,42,40,34]|3=>[92,124]|4=>[34,92,34,41,34]|5=>[92,34]|6=>[92,40]|7=>[92,92]|_=>[]
noncomputable def fq:Nat→List Nat
 |1=>[92,41]|3=>[92,124]|5=>[92,34]|6=>[92,40]|7=>[92,92]|_=>[]
noncomputable def r6:Nat→List gZ
 |1=>[⟨ag,[92,41]⟩]|2=>[⟨ae,[42,40]⟩]|3=>[⟨ag,[92,124]⟩]|4=>[⟨ae,[92,34,41]⟩]|5=>[⟨ag,[92,34]⟩]|6=>[⟨ag,[92,40]⟩]|7=>[⟨ag,[92,92]⟩]|_=>[]
noncomputable def i0(h:Nat):List (List Nat):=match fq h with| []=>[]|l=>[l]
noncomputable def Pc.txt(p:Pc):List Nat:=cond p.f ([p.c]++iM p.h) (iM p.h++[p.c])
noncomputable def Pc.bare(p:Pc):List Nat:=cond p.f ([p.c]++fq p.h) (fq p.h++[p.c])
noncomputable def Pc.wa(p:Pc):List gZ:=cond p.f ([⟨ag,[p.c]⟩]++r6 p.h) (r6 p.h++[⟨ag,[p.c]⟩])
noncomputable def Pc.us(p:Pc):List (List Nat):=cond p.f ([[p.c]]++i0 p.h) (i0 p.h++[[p.c]])
noncomputable def mR(c:Nat):Prop:=c≠34∧c≠92
variable {ps:List Pc}
theorem h8{P:Nat→Prop}(h0:P 0)(h1:P 1)(h2:P 2)(h3:P 3)(h4:P 4)(h5:P 5)(h6:P 6)(h7:P 7)(hn:∀n,P (n+8)):∀n,P n
 |0=>h0|1=>h1|2=>h2|3=>h3|4=>h4|5=>h5|6=>h6|7=>h7|n+8=>hn n
theorem QU:∀h,eN (r6 h)=iM h:=h8 rfl rfl rfl rfl rfl rfl rfl rfl λZ=>rfl
theorem QV:∀h,lg (r6 h)=fq h:=h8 rfl rfl rfl rfl rfl rfl rfl rfl λZ=>rfl
noncomputable def Dn(b:gZ):Bool:= !iL ag b.l&& !(dG ag b.l).any (lEq [34])
theorem Dp{b:gZ}(h:Dn b):b.Ok:=by simp only[Dn,jW,UG,UZ]at h;exact⟨h.1,λq=>h.2 _ q (tS _)⟩
theorem adZ:∀h,(r6 h).all Dn:=h8 rfl rfl rfl rfl rfl rfl rfl rfl λZ=>rfl
theorem IV(a b:List gZ):eN (a++b)=eN a++eN b:=by simp[eN]
theorem IW(a b:List gZ):lg (a++b)=lg a++lg b:=by simp[lg]
theorem Pc.ad0(p:Pc):eN p.wa=p.txt:=by
 obtain⟨c,h,f⟩:=p;cases f
 ·show eN (r6 h++[⟨ag,[c]⟩])=iM h++[c];refine rE (IV ..) (rE (QU ..) ?_);rfl
 ·show eN ([⟨ag,[c]⟩]++r6 h)=[c]++iM h;refine rE (IV ..) (rE (QU ..) ?_);rfl
theorem Pc.ad1(p:Pc):lg p.wa=p.bare:=by
 obtain⟨c,h,f⟩:=p;cases f
 ·show lg (r6 h++[⟨ag,[c]⟩])=fq h++[c];refine rE (IW ..) (rE (QV ..) ?_);rfl
 ·show lg ([⟨ag,[c]⟩]++r6 h)=[c]++fq h;refine rE (IW ..) (rE (QV ..) ?_);rfl
theorem QW{c:Nat}(h:mR c):dG ag [c]=[[c]]∧iL ag [c]=ag:=by have q:=jQ h.2;refine⟨?_,q⟩;show cond (az c 92) _ _=_;refine rE q ?_;rfl
theorem QX{c:Nat}(h:mR c):Dn ⟨ag,[c]⟩:=by refine xA (QW h) λq1 q2=>?_;show(!iL ag [c]&& !(dG ag [c]).any (lEq [34]));refine rE q1 (rE q2 ?_);show(!(lEq [34] [c]||false));refine rE (De (λq=>h.1 (jf q).1.symm)) ?_;rfl
theorem Pc.QY{p:Pc}(h:mR p.c):∀b∈p.wa,b.Ok:=by
 intro b hb;have hh:=fj.mp (adZ p.h);unfold Pc.wa at hb;cases hf:p.f<;>replace hb:=hf▸hb
 ·rcases gp.mp hb with q|q
  ·exact Dp (hh b q)
  ·exact rE (dK.mp q) (Dp (QX h))
 ·rcases gp.mp hb with q|q
  ·exact rE (dK.mp q) (Dp (QX h))
  ·exact Dp (hh b q)
noncomputable def fe(ps:List Pc):List Nat:=ps.flatMap Pc.txt
noncomputable def fh(ps:List Pc):List Nat:=ps.flatMap Pc.bare
theorem QZ:∀ps:List Pc,fe ps=eN (ps.flatMap Pc.wa):=by
 intro L0;induction L0 with
 |nil=>exact rfl
 |cons p ps ih=>refine rE nj (rE (IV ..) (rS ih (rE (Pc.ad0 ..) ?_)));rfl
theorem Q0:∀ps:List Pc,fh ps=lg (ps.flatMap Pc.wa):=by
 intro L0;induction L0 with
 |nil=>exact rfl
 |cons p ps ih=>refine rE nj (rE (IW ..) (rS ih (rE (Pc.ad1 ..) ?_)));rfl
theorem ad2(h:∀p∈ps,mR p.c){e:ax}(he:[34]∉dG ag e):ky (fe ps++e)=fh ps++e:=by refine rE (QZ ..) (rE (Q0 ..) ?_);refine QO (λb hb=>?_) he;exact aD (yN.mp hb) λp hp hb=>Pc.QY (h p hp) b hb
theorem ad3:∀h,dG ag (fq h)=i0 h∧iL ag (fq h)=ag:=h8 ⟨rfl,rfl⟩ ⟨rfl,rfl⟩ ⟨rfl,rfl⟩ ⟨rfl,rfl⟩ ⟨rfl,rfl⟩ ⟨rfl,rfl⟩ ⟨rfl,rfl⟩ ⟨rfl,rfl⟩ λZ=>⟨rfl,rfl⟩
theorem Pc.ad4{p:Pc}(h:mR p.c):dG ag p.bare=p.us∧iL ag p.bare=ag:=by
 obtain⟨c,k,f⟩:=p;refine xA (ad3 k) λa1 a2=>xA (QW h) λb1 b2=>?_;dsimp only at b1 b2;clear h;cases f
 ·exact⟨by show dG ag (fq k++[c])=i0 k++[[c]];refine rE (IU _ _ _ a2) ?_;refine rE a1 ?_;exact rE b1 rfl,by show iL ag (fq k++[c])=ag;refine rE (As ..) ?_;refine rE a2 ?_;exact rE b2 rfl⟩
 ·exact⟨by show dG ag ([c]++fq k)=[[c]]++i0 k;refine rE (IU _ _ _ b2) ?_;refine rE a1 ?_;exact rE b1 rfl,by show iL ag ([c]++fq k)=ag;refine rE (As ..) ?_;refine rE b2 ?_;exact rE a2 rfl⟩
noncomputable def mS(ps:List Pc):List (List Nat):=ps.flatMap Pc.us
theorem Q1:∀ {ps:List Pc},(∀p∈ps,mR p.c)→∀e,dG ag (fh ps++e)=mS ps++dG ag e:=by
 intro L0;induction L0 with
 |nil=>intro _ e;exact rfl
 |cons p ps ih=>intro h e;refine xA (Pc.ad4 (h p bG)) λa b=>?_;show dG ag (p.bare++fh ps++e)=p.us++mS ps++dG ag e;exact rE (d5 ..) (rE (IU _ _ _ b) (rE a (rE (ih (λq hq=>h q (cf _ hq)) e) (rE (d5 ..) rfl))))
noncomputable def lW:List Nat→Int→Option Int
 | [],o=>aa o
 |c::r,o=>cond (az c 40) (lW r (o+1)) (cond (az c 41) (cond (decide (o - 1<0)) af (lW r (o - 1))) (lW r o))
theorem Q2:∀h us o,eO (i0 h++us) o=eO us o:=h8 (λZ Z=>rfl) (λZ Z=>rfl) (λZ Z=>rfl) (λZ Z=>rfl) (λZ Z=>rfl) (λZ Z=>rfl) (λZ Z=>rfl) (λZ Z=>rfl) λZ Z Z=>rfl
theorem Q3(c:Nat)(us:cP)(o:Int):eO ([c]::us) o=if c=40 then eO us (o+1)else if c=41 then(if o - 1<0 then ag else eO us (o - 1))else eO us o:=by simp only[adW,EK,and_true]
theorem ad5(p:Pc)(us:cP)(o:Int):eO (p.us++us) o=if p.c=40 then eO us (o+1)else if p.c=41 then(if o - 1<0 then ag else eO us (o - 1))else eO us o:=by
 obtain⟨c,h,f⟩:=p;cases f
 ·show eO (i0 h++[[c]]++us) o=_;exact rE (d5 ..) (rE (Q2 ..) (Q3 c us o))
 ·show eO ([c]::(i0 h++us)) o=_;refine rE (Q3 ..) ?_;simp only[Q2]
noncomputable def r7(us:cP)(o:Option Int):Bool:=match o with|none=>ag|some o=>eO us o
theorem ad6(us:cP):∀ (ps:List Pc) (o:Int),eO (mS ps++us) o=r7 us (lW (ps.map Pc.c) o):=by
 intro ps;induction ps with
 |nil=>exact λZ=>rfl
 |cons p ps ih=>
  intro o;show eO (p.us++mS ps++us) o=r7 us (cond (az p.c 40) (lW (ps.map Pc.c) (o+1)) (cond (az p.c 41) (cond (decide (o - 1<0)) af (lW (ps.map Pc.c) (o - 1))) (lW (ps.map Pc.c) o)));refine rE (d5 ..) (rE (ad5 ..) (rE (ih ..) (rE (ih ..) (rE (ih ..) ?_))));by_cases h:p.c=40
  ·refine rE (if_pos h) (rE h ?_);rfl
  ·refine rE (if_neg h) (rE (jQ h) (rE (cond_false ..) ?_));by_cases h:p.c=41
   ·refine rE (if_pos h) (rE h ?_);by_cases h:o - 1<0
    ·refine rE (if_pos h) (rE (decide_eq_true h) ?_);rfl
    ·refine rE (if_neg h) (rE (decide_eq_false h) ?_);rfl
   ·refine rE (if_neg h) (rE (jQ h) ?_);rfl
theorem Q4(n:Nat)(h:∀p∈ps,mR p.c){e:ax}(he:e=[]∨e=[34]∨e=[34,40])(hl:(fe ps).length≤50000)(hb:(fh ps).length≤50000):
  run tok aH (n+2) 1 [S (fe ps++e)]=aa (.bool (r7 (dG ag e) (lW (ps.map Pc.c) 0)),ae):=by
 have hk:∀b∈ps.flatMap Pc.wa,b.Ok:=λb hb=>by exact aD (yN.mp hb) λp hp hb=>Pc.QY (h p hp) b hb
 have hs:ky (fe ps++e)=fh ps++e:=by
  refine rE (QZ ..) (rE (Q0 ..) ?_);rcases he with rfl|rfl|rfl
  ·exact QO hk (by decide)
  ·exact QP hk (by decide)
  ·exact QP hk (by decide)
 have hel:e.length≤2:=by rcases he with rfl|rfl|rfl<;>decide
 refine rE (adY n _ (by refine rE bt ?_;lia) (by rw[hs,bt];lia)) ?_;refine rE hs ?_;rewrite[Q1 h];exact rE (ad6 ..) rfl
theorem Q5:∀h,(i0 h).flatten=fq h:=h8 rfl rfl rfl rfl rfl rfl rfl rfl λZ=>rfl
theorem ad7:∀ps:List Pc,(mS ps).flatten=fh ps:=by
 intro L0;induction L0 with
 |nil=>exact rfl
 |cons p ps ih=>
  show(p.us++mS ps).flatten=p.bare++fh ps;refine rE Bm (rE ih ?_);obtain⟨c,h,f⟩:=p;cases f
  ·show(i0 h++[[c]]).flatten++_=fq h++[c]++_;refine rE Bm (rE (Q5 ..) ?_);rfl
  ·show([[c]]++i0 h).flatten++_=[c]++fq h++_;refine rE Bm (rE (Q5 ..) ?_);rfl
section
open PySem.W
structure c8(k:Nat)(d:D):Prop where
 c:d.canLay0
 d:d.depth≤k
theorem c8.ok(h:c8 k d)(hk:k≤64):c9 d:=by unfold c9;refine rE h.c (rE (decide_eq_true (aF h.d hk)) ?_);rfl
theorem c8.int(k:Nat)(i:Int):c8 k (.int i):=⟨rfl,eo _⟩
theorem c8.all{xs:List D}(h:∀x∈xs,c8 k x):aih xs∧PyData.depthAll xs≤k:=by
 induction xs with
 |nil=>exact⟨rfl,eo _⟩
 |cons x xs ih=>
  refine xA (ih λy hy=>h y (cf _ hy)) λa b=>?_;have hx:=h x bG;refine⟨?_,?_⟩
  ·show(PyData.canLay0 x&&aih xs);refine rE hx.c (rE a ?_);rfl
  ·exact Nat.max_le.mpr ⟨hx.d,b⟩
theorem c8.list{xs:List D}(h:∀x∈xs,c8 k x):c8 (k+1) (.list xs):=⟨(c8.all h).1,m4 (c8.all h).2⟩
theorem c8.map{f:α→D}(h:∀x,c8 k (f x))(xs:List α):c8 (k+1) (.list (xs.map f)):=.list λx hx=>by refine aD (fk.mp hx) λy Z e9=>?_;subst e9;exact h y
structure SO{α:Type}(lt:α→α→Bool):Prop where
 tW:∀x,lt x x=ag
 tr:∀x y z,lt x y→lt y z→lt x z
 mF:∀x y,lt x y=ag→lt y x=ag→x=y
theorem SO.nat:SO aU where
 tW:=λx=>by induction q:aU x x with|true=>exact absurd (bc q) (qE x)|false=>rfl
 tr:=λx y z h1 h2=>bO (ew (bc h1) (bc h2))
 mF:=λx y h1 h2=>A0 (pz.mp λh=>by replace h2:=(show aU y x from bO h)▸h2;exact zT h2) (pz.mp λh=>by replace h1:=(show aU x y from bO h)▸h1;exact zT h1)
theorem SO.ad8{lt:β→β→Bool}(S:SO lt){f:α→β}(hf:∀x y,f x=f y→x=y):SO λx y=>lt (f x) (f y) where
 tW:=λZ=>S.tW _
 tr:=λZ Z Z=>S.tr _ _ _
 mF:=λx y h1 h2=>hf x y (S.mF _ _ h1 h2)
noncomputable def qp{α:Type}(eq lt:α→α→Bool):List α→List α→Bool
 | [],ys=> !ys.isEmpty
 |x::xs,ys=>match ys with| []=>ag|y::ys=>cond (eq x y) (qp eq lt xs ys) (lt x y)
theorem SO.lex{eq lt:α→α→Bool}(S:SO lt)(he:∀x y,eq x y↔x=y):SO (qp eq lt) where
 tW:=λx=>by
  induction x with
  |nil=>rfl
  |cons a x ih=>show cond (eq a a) _ _=_;exact rE ((he a a).mpr rfl) ih
 tr:=λx=>by
  induction x with
  |nil=>intro y z h1 h2;induction y using bj with|nil=>exact zF h1|cons b y=>induction z using bj with|nil=>exact zF h2|cons c z=>rfl
  |cons a x ih=>
   intro y z h1 h2;induction y using bj with
   |nil=>exact zF h1
   |cons b y=>
   induction z using bj with
   |nil=>exact zF h2
   |cons c z=>
   have h1:cond (eq a b) (qp eq lt x y) (lt a b)=ae:=h1;have h2:cond (eq b c) (qp eq lt y z) (lt b c)=ae:=h2;show cond (eq a c) (qp eq lt x z) (lt a c)=ae;induction q1:eq a b with
   |true=>
    obtain rfl:=(he a b).mp q1;replace h1:=q1▸h1;induction q2:eq a c with
    |true=>replace h2:=q2▸h2;exact ih y z h1 h2
    |false=>replace h2:=q2▸h2;exact h2
   |false=>
    replace h1:=q1▸h1;induction q2:eq b c with
    |true=>obtain rfl:=(he b c).mp q2;exact rE q1 h1
    |false=>
     replace h2:=q2▸h2;have h3:=S.tr a b c h1 h2;induction q3:eq a c with
     |true=>obtain rfl:=(he a c).mp q3;rw[cond_false]at h1 h2;exact zF ((S.tW ..)▸h3)
     |false=>exact h3
 mF:=λx=>by
  induction x with
  |nil=>intro y h1 _;induction y using bj with|nil=>rfl|cons=>exact zT h1
  |cons a x ih=>
   intro y h1 h2;induction y using bj with
   |nil=>exact zT h2
   |cons b y=>
   have h1:cond (eq a b) (qp eq lt x y) (lt a b)=ag:=h1;have h2:cond (eq b a) (qp eq lt y x) (lt b a)=ag:=h2;induction q1:eq a b with
   |true=>obtain rfl:=(he a b).mp q1;rw[q1]at h1 h2;exact rE (ih y h1 h2) rfl
   |false=>
    replace h1:=q1▸h1;induction q2:eq b a with
    |true=>obtain rfl:=(he b a).mp q2;exact zT (q2▸q1)
    |false=>replace h2:=q2▸h2;obtain rfl:=S.mF a b h1 h2;exact zT ((he a a).mpr rfl▸q1)
noncomputable def ins{α:Type}(lt:α→α→Bool)(x:α):List α→List α
 | []=>[x]
 |y::r=>cond (lt x y) (x::y::r) (y::ins lt x r)
theorem Q6(lt:α→α→Bool)(x y:α)(IX:List α):ins lt x (y::IX)=bif lt x y then x::y::IX else y::ins lt x IX:=rfl
noncomputable def jw{α:Type}(lt:α→α→Bool):List α→List α
 | []=>[]
 |x::r=>ins lt x (jw lt r)
section
variable{lt:α→α→Bool}
theorem Q7(x:α):∀l,(ins lt x l).Perm (x::l):=by
 intro l;induction l with
 |nil=>exact .refl _
 |cons y r ih=>refine rE (Q6 ..) ?_;induction lt x y with|true=>exact .refl _|false=>exact(ih.cons y).trans (.swap ..)
theorem x8:∀l,(jw lt l).Perm l:=by
 intro l;induction l with
 |nil=>exact .refl _
 |cons x r ih=>exact(Q7 x _).trans (ih.cons x)
noncomputable abbrev tY(lt:α→α→Bool)(l:List α):Prop:=l.Pairwise λx y=>lt x y
theorem ad9(S:SO lt)(x:α):∀l,tY lt l→x∉l→tY lt (ins lt x l):=by
 intro l;induction l with
 |nil=>exact λZ Z=>.cons (λZ h=>nomatch h) .nil
 |cons y r ih=>
  intro h hx;cases h with
  |cons h1 h2=>
  refine rE (Q6 ..) ?_;induction q:lt x y with
  |true=>exact .cons (λz hz=>by rcases bE.mp hz with rfl|hz;exact q;exact S.tr _ _ _ q (h1 z hz)) (.cons h1 h2)
  |false=>
   refine .cons (λz hz=>?_) (ih h2 λh=>hx (cf _ h));rcases bE.mp ((Q7 x r).mem_iff.mp hz)with rfl|hz
   ·induction q2:lt y z with
    |true=>rfl
    |false=>exact absurd (S.mF _ _ q q2) λe=>hx (e▸bG)
   ·exact h1 z hz
theorem IY(S:SO lt):∀l:List α,l.Nodup→tY lt (jw lt l):=by
 intro l;induction l with
 |nil=>exact λZ=>.nil
 |cons x r ih=>intro h;exact xA (uC.mp h) λh1 h2=>ad9 S x _ (ih h2) λq=>h1 ((x8 r).mem_iff.mp q)
theorem Q8(S:SO lt):∀ {a b:List α},tY lt a→tY lt b→a.Perm b→a=b:=by
 intro a;induction a with
 |nil=>intro b _ _ p;exact(List.nil_perm.mp p).symm
 |cons x a ih=>
  intro b ha hb p;induction b using bj with
  |nil=>exact absurd p.symm (List.not_perm_nil_cons _ _)
  |cons y b=>
  cases ha with
  |cons a1 a2=>
  cases hb with
  |cons b1 b2=>
  obtain rfl:x=y:=by
   rcases bE.mp (p.mem_iff.mp (bG (a:=x)))with h|h
   ·exact h
   ·rcases bE.mp (p.mem_iff.mpr (bG (a:=y)))with h'|h'
    ·exact h'.symm
    ·have:=S.tr _ _ _ (a1 y h') (b1 x h);exact zF ((S.tW ..)▸this)
  exact rE (ih a2 b2 ((List.perm_cons x).mp p)) rfl
theorem aea{xs:List α}:∀ {l:ax} (h:∀i∈l,i<xs.length),l.pmap (λi (h:i<xs.length)=>xs[i]) h=l.filterMap λi=>xs[i]? :=by
 intro l;induction l with
 |nil=>exact λZ=>rfl
 |cons i l ih=>intro h;have hi:=h i bG;refine rE (List.pmap_cons ..) (rE AU (rE (lx hi) ?_));dsimp only;exact rE (ih λj hj=>h j (cf _ hj)) rfl
theorem aeb(ys:List α):∀pre:List α,(pE pre.length ys.length).filterMap (λi=>(pre++ys)[i]?)=ys:=by
 induction ys with
 |nil=>exact λZ=>rfl
 |cons y ys ih=>
  intro pre;refine rE bT (rE List.range'_succ (rE AU ?_));have h:(pre++y::ys)[pre.length]? =aa y:=by rw[yJ (bZ _),Bd];rfl
  refine rE h ?_;have h:=ih (pre++[y]);replace h:=(d5 ..)▸bt▸h;exact congrArg (y:: ·) h
theorem range_all(xs:List α):(bM xs.length).filterMap (λi=>xs[i]?)=xs:=rE EN (aeb xs [])
theorem aec{lt:α→α→Bool}{xs:List α}(h:¬2≤xs.length):jw lt xs=xs:=by
 induction xs using bj with
 |nil=>rfl
 |cons x xs=>induction xs using bj with
  |nil=>rfl
  |cons=>exact absurd (m4 (m4 (eo _))) h
theorem IZ(S:SO lt){enc:α→D}{xs:List α}(eV:∀x y,x∈xs→y∈xs→x≠y→ltN 2 (enc x) (enc y)=aa (lt x y))(nd:xs.Nodup)(hs:∀x,c8 k (enc x))(hk:k≤64)(w9:xs.length<64)
  (lM:(∀x,(cY (enc x)).isSome)∨∀x,(d7 (enc x)).isSome):uS (.list (xs.map enc))=aa (.list ((jw lt xs).map enc),ae):=by
 have Aw:(xs.map enc).all c9:=fj.mpr λd hd=>by refine aD (fk.mp hd) λx Z e9=>?_;subst e9;exact(hs x).ok hk
 by_cases h2:2≤xs.length
 ·obtain⟨f,hf⟩:∃f:Nat→Nat→Option Bool,f=λi j=>((xs.map enc)[i]?).bind λx=>((xs.map enc)[j]?).bind λy=>ltN 2 x y:=⟨_,rfl⟩;have Q9:∀i j (hi:i<xs.length) (hj:j<xs.length),i≠j→f i j=aa (lt xs[i] xs[j]):=λi j hi hj h=>by refine rE hf ?_;show((xs.map enc)[i]?).bind _=_;refine rE (l8) ?_;refine rE (lx hi) ?_;show((xs.map enc)[j]?).bind _=_;refine rE (l8) ?_;refine rE (lx hj) ?_;exact eV _ _ (EO hi) (EO hj) λe=>h ((UW nd).mp e)
  have O:Ord xs.length f λi j=>∃ (hi:i<xs.length) (hj:j<xs.length),lt xs[i] xs[j]:=by
   have ne:∀ {i j} (hi:i<xs.length) (hj:j<xs.length),lt xs[i] xs[j]→i≠j:=λ{i j} hi hj q e=>by subst e;replace q:=(S.tW ..)▸q;exact zF q
   have aed:∀x y,lt x y→lt y x=ag:=λx y q=>by induction q2:lt y x with|false=>rfl|true=>have:=S.tr _ _ _ q q2;replace this:=(S.tW ..)▸this;exact zF this
   refine⟨λi j hi hj ⟨_,_,q⟩=>⟨by refine rE (Q9 i j hi hj (ne hi hj q)) ?_;exact rE q rfl,by refine rE (Q9 j i hj hi (ne hi hj q).symm) ?_;exact rE (aed _ _ q) rfl⟩,λi j hi hj h=>?_,λi j k ⟨a,b,q⟩ ⟨_,c,q'⟩=>⟨a,c,S.tr _ _ _ q q'⟩⟩;induction q:lt xs[i] xs[j]with
   |true=>exact .inl ⟨hi,hj,q⟩
   |false=>induction q2:lt xs[j] xs[i]with
    |true=>exact .inr ⟨hj,hi,q2⟩
    |false=>exact absurd ((UW nd).mp (S.mF _ _ q q2)) h
  refine j4 (ady O h2) λp e1 R u=>?_;have I0:∀i∈p.toList,i<xs.length:=λi hi=>by have:=(UT.mp R.perm).mem_iff.mp hi;simpa using this
  obtain⟨zs,hz⟩:∃zs,zs=p.toList.pmap (λi h=>xs[i]) I0:=⟨_,rfl⟩;have hlen:p.toList.length=xs.length:=rE eL (rE R.size rfl)
  have Gw:p.toList.map (λi=>(xs.map enc).getD i .none)=zs.map enc:=by refine rE hz (rE (List.map_pmap ..) ?_);refine U1 (by simp) λi h1 h2=>rE (U2 ..) (rE (U3 ..) ?_);have hi:=I0 _ (EO (by simpa using h1:i<p.toList.length));refine rE (m7) ?_;refine rE (l8) ?_;refine rE (lx hi) ?_;rfl
  have aee:zs.Perm xs:=by
   have h1:zs=p.toList.filterMap λi=>xs[i]? :=rE hz (aea I0)
   refine rE h1 (.trans ((UT.mp R.perm).filterMap _) (rE AW ?_));rw[range_all]
  have aef:tY lt zs:=by
   refine rE hz (List.pairwise_iff_getElem.mpr λi j hi hj h=>rE (U3 ..) (rE (U3 ..) ?_));rw[List.length_pmap]at hi hj;have vk:i<p.size:=rS eL hi
   have vm:j<p.size:=rS eL hj
   obtain⟨a,b,q⟩:=u i j h (rS hlen hj);have ei:p.getD i 0=p.toList[i]:=by refine rE (getD_get? ..) (rE (Bg vk) ?_);rfl
   have ej:p.getD j 0=p.toList[j]:=by refine rE (getD_get? ..) (rE (Bg vm) ?_);rfl
   simp only[ei,ej]at q;exact q
  have s7:jw lt xs=zs:=Q8 S (IY S xs nd) aef ((x8 xs).trans aee.symm);show cond (aX (xs.map enc).length 1) _ _=_;refine rE (show aX (xs.map enc).length 1=ag by refine rE (aQ ..) ?_;induction q:aX xs.length 1 with|false=>rfl|true=>exact absurd (bc q) (by lia)) ?_;show(mj _ (ag9 (xs.map enc).length)).bind _=_;refine rE (aQ ..) (rS hf (rE e1 ?_));show W.need (dQ (p.toList.map λi=>(xs.map enc).getD i .none)) _=_;refine rE Gw (rE s7 ?_);refine du _ (rE Aw (rE (show aU xs.length 64 from bO w9) ?_));rcases lM with h|h
  ·refine rE (show(xs.map enc).all (λx=>(cY x).isSome) from fj.mpr λd hd=>by refine aD (fk.mp hd) λx Z e9=>?_;subst e9;exact h x) ?_;rfl
  ·refine rE (show(xs.map enc).all (λx=>(d7 x).isSome) from fj.mpr λd hd=>by refine aD (fk.mp hd) λx Z e9=>?_;subst e9;exact h x) ?_;refine rE (Bool.or_true ..) ?_;rfl
 ·have h1:=aec (lt:=lt) h2;refine rE h1 ?_;show cond (aX (xs.map enc).length 1) _ _=_;refine rE (show aX (xs.map enc).length 1 by refine rE (aQ ..) ?_;exact bO (by lia)) ?_;exact du _ Aw
end
noncomputable def nD(n:Nat):D:=.int (n:Int)
noncomputable def pD(p:Nat × Nat):D:=.list [nD p.1,nD p.2]
noncomputable def aJ(l:List (Nat × Nat)):D:=.list (l.map pD)
noncomputable def sd(p q:Nat × Nat):Bool:=az p.1 q.1&&az p.2 q.2
noncomputable def pa(p q:Nat × Nat):Bool:=qp az aU [p.1,p.2] [q.1,q.2]
noncomputable def I8:List (Nat × Nat)→List (Nat × Nat)→Bool:=qp sd pa
theorem beq_iff(x y:Nat):az x y↔x=y:=⟨fY,λh=>h▸nc _⟩
theorem I9(p q:Nat × Nat):sd p q↔p=q:=by unfold sd;refine rE (jW ..) ?_;rewrite[beq_iff];rw[beq_iff];exact⟨λ⟨a,b⟩=>Prod.ext a b,λh=>h▸⟨rfl,rfl⟩⟩
theorem SO.pair:SO pa:=(SO.nat.lex beq_iff).ad8 (f:=λp:Nat × Nat=>[p.1,p.2]) λx y h=>Prod.ext (jf h).1 (jf (jf h).2).1
theorem SO.link:SO I8:=SO.pair.lex I9
theorem qq(n:Nat):c8 0 (nD n):=.int _ _
theorem Ja(p:Nat × Nat):c8 1 (pD p):=.map qq [p.1,p.2]
theorem Jb(l:List (Nat × Nat)):c8 2 (aJ l):=.map Ja l
theorem se(a b:Nat):dT (nD a) (nD b)=az a b:=r5 a b
noncomputable def lX{α:Type}(eq:α→α→Bool):List α→List α→Bool
 | [],ys=>ys.isEmpty
 |x::xs,ys=>match ys with| []=>ag|y::ys=>eq x y&&lX eq xs ys
theorem Jc{f:α→D}{eq:α→α→Bool}(h:∀x y,dT (f x) (f y)=eq x y):∀xs ys:List α,Bo (xs.map f) (ys.map f)=lX eq xs ys:=by
 intro xs;induction xs with
 |nil=>intro ys;induction ys<;>rfl
 |cons x xs ih=>
  intro ys;induction ys using bj with
  |nil=>rfl
  |cons y ys=>show(dT (f x) (f y)&&Bo (xs.map f) (ys.map f))=_;refine rE (h ..) (rE (ih ..) ?_);rfl
theorem Ra(p q:Nat × Nat):dT (pD p) (pD q)=sd p q:=by show(dT (nD p.1) (nD q.1)&&(dT (nD p.2) (nD q.2)&&ae))=_;refine rE (se ..) (rE (se ..) (rE (EH ..) ?_));rfl
theorem Jd(a b:Nat):ltI (nD a) (nD b)=aa (aU a b):=by show aa (decide ((a:Int)<(b:Int)))=_;have:=x6 a b;exact congrArg (λo:Option (Bool × Bool)=>o.map (·.1)) this
theorem Je{f:D→D→Option Bool}{enc:α→D}{eq lt:α→α→Bool}(hk:k≤64)(hs:∀x,c8 k (enc x))(he:∀x y,dT (enc x) (enc y)=eq x y)(hf:∀x y,f (enc x) (enc y)=aa (lt x y)):
  ∀xs ys:List α,nA f (xs.map enc) (ys.map enc)=aa (qp eq lt xs ys):=by
 intro xs;induction xs with
 |nil=>intro ys;induction ys<;>rfl
 |cons x xs ih=>
  intro ys;induction ys using bj with
  |nil=>rfl
  |cons y ys=>show cond (c9 (enc x)&&c9 (enc y)) (cond (dT (enc x) (enc y)) (nA f (xs.map enc) (ys.map enc)) (f (enc x) (enc y))) af=_;refine rE ((hs x).ok hk) (rE ((hs y).ok hk) (rE (he ..) (rE (ih ..) (rE (hf ..) ?_))));show cond (eq x y) _ _=aa (cond (eq x y) _ _);cases eq x y<;>rfl
theorem aeg(p q:Nat × Nat):ltN 1 (pD p) (pD q)=aa (pa p q):=Je (enc:=nD) (by decide) qq se Jd [p.1,p.2] [q.1,q.2]
theorem aeh(p q:Nat × Nat):ltN 2 (pD p) (pD q)=aa (pa p q):=by show nA (ltN 1) [nD p.1,nD p.2] [nD q.1,nD q.2]=_;exact Je (enc:=nD) (by decide) qq se Jd [p.1,p.2] [q.1,q.2]
theorem Rb{l:ax}(nd:l.Nodup)(h:l.length<64):uS (.list (l.map nD))=aa (.list ((jw aU l).map nD),ae):=IZ SO.nat (λx y Z Z Z=>Jd x y) nd qq (by decide) h (.inl λZ=>rfl)
theorem aei{l:List (Nat × Nat)}(nd:l.Nodup)(h:l.length<64):uS (aJ l)=aa (aJ (jw pa l),ae):=IZ SO.pair (λx y Z Z Z=>aeh x y) nd Ja (by decide) h (.inr λZ=>rfl)
theorem aej{l:List (List (Nat × Nat))}(nd:l.Nodup)(h:l.length<64):uS (.list (l.map aJ))=aa (.list ((jw I8 l).map aJ),ae):=
 IZ SO.link (λx y Z Z Z=>Je (enc:=pD) (by decide) Ja Ra aeg x y) nd Jb (by decide) h (.inr λZ=>rfl)
theorem Jf{eq:α→α→Bool}(he:∀x y,eq x y↔x=y):∀xs ys:List α,lX eq xs ys↔xs=ys:=by
 intro xs;induction xs with
 |nil=>intro ys;induction ys using bj with|nil=>exact⟨λZ=>rfl,λZ=>rfl⟩|cons=>exact⟨zF,zC⟩
 |cons x xs ih=>
  intro ys;induction ys using bj with
  |nil=>exact⟨zF,zD⟩
  |cons y ys=>refine rE (show lX eq (x::xs) (y::ys)=(eq x y&&lX eq xs ys)from rfl) (rE (jW ..) ?_);rw[he,ih,EK]
end
theorem aek{L:ax}{o:Option bA}(h:L.any (az j)=ag)(g:get ρ j=o):get (rem L ρ) j=o:=rE (adz ..) (rE h g)
theorem gL{L:ax}{s:bA}{o:Option bA}(h:az i j=ag)(h':L.any (az j)=ag)(g:get ρ j=o):get (put (rem L ρ) i s) j=o:=gN h (aek h' g)
theorem Jg{γ:Type}{f:D→W (List γ)}{h:α→D}{g:α→List γ}{ys:List α}(k:∀y∈ys,f (h y)=aa (g y,ae)):lA f (ys.map h)=aa (ys.flatMap g,ae):=by
 induction ys with
 |nil=>rfl
 |cons y ys ih=>exact W.aS (k y bG) (W.aS (ih λz hz=>k z (cf _ hz)) rfl)
theorem Rf{γ:Type}(g:α→γ)(p:α→Bool)(ys:List α):ys.flatMap (λy=>cond (p y) [g y] [])=(ys.filter p).map g:=by
 induction ys with
 |nil=>rfl
 |cons y ys ih=>refine rE nj ?_;refine rE ih ?_;refine rE uH ?_;cases p y<;>rfl
theorem Rg:oJ tok C hs .nil ρ=aa (ae,ae):=rfl
theorem qr{c:RE}(h:ev tok C hs c ρ=aa (.bool b,ae)):oJ tok C hs (.cons c .nil) ρ=aa (b,ae):=W.aS h (by induction b<;>rfl)
theorem pb{loc:ax}{t:jj}{it:RI}{ifs:bf}{elt:RE}{ys:List α}{h g:α→D}{p:α→Bool}{r:α→aM}(hI:fO tok C hs it ρ=aa (ys.map h,ae))(hB:∀y∈ys,eU t (h y) (rem loc ρ)=aa (r y))
  (hC:∀y∈ys,oJ tok C hs ifs (r y)=aa (p y,ae)) (hE:∀y∈ys,p y→ev tok C hs elt (r y)=aa (g y,ae)) (hl:ys.length≤1000000):ev tok C hs (.comp loc t it ifs .nil elt) ρ=aa (.list ((ys.filter p).map g),ae):=by
 refine W.aS hI (W.aS (a:=(ys.filter p).map g) ?_ (du _ (bO (rE (aQ ..) (aF (wV p ys) hl)))));rw[← Rf g p];refine Jg (g:=λy=>cond (p y) [g y] []) λy hy=>(cA (hB y hy)).trans (W.aS (hC y hy) ?_);induction q:p y with
 |true=>exact W.aS (f:=λx=>W.ret [x]) (hE y hy q) rfl
 |false=>rfl
theorem ij{loc:ax}{t:jj}{it:RI}{elt:RE}{ys:List α}{h g:α→D}{r:α→aM}(hI:fO tok C hs it ρ=aa (ys.map h,ae))(hB:∀y∈ys,eU t (h y) (rem loc ρ)=aa (r y))
  (hE:∀y∈ys,ev tok C hs elt (r y)=aa (g y,ae)) (hl:ys.length≤1000000):ev tok C hs (.comp loc t it .nil .nil elt) ρ=aa (.list (ys.map g),ae):=by
 have:=pb (p:=λZ=>ae) (ifs:=.nil) hI hB (λZ Z=>Rg) (λy hy Z=>hE y hy) hl;replace this:=(U4.mpr λZ Z=>rfl)▸this;exact this
theorem Dq{loc:ax}{t t2:jj}{it Jh:RI}{ifs:bf}{elt:RE}{ys:List α}{h:α→D}{r:α→aM}{zs:α→List β}{h2:β→D}{p:α→β→Bool}{g:α→β→D}{r2:α→β→aM}(hI:fO tok C hs it ρ=aa (ys.map h,ae))(hB:∀y∈ys,eU t (h y) (rem loc ρ)=aa (r y))
  (hJ:∀y∈ys,fO tok C hs Jh (r y)=aa ((zs y).map h2,ae)) (hB2:∀y∈ys,∀z∈zs y,eU t2 (h2 z) (r y)=aa (r2 y z)) (hC:∀y∈ys,∀z∈zs y,oJ tok C hs ifs (r2 y z)=aa (p y z,ae))
  (hE:∀y∈ys,∀z∈zs y,p y z→ev tok C hs elt (r2 y z)=aa (g y z,ae)) (hl:(ys.flatMap λy=>((zs y).filter (p y)).map (g y)).length≤1000000):
  ev tok C hs (.comp loc t it .nil (.cons t2 Jh ifs .nil) elt) ρ=aa (.list (ys.flatMap λy=>((zs y).filter (p y)).map (g y)),ae):=by
 refine W.aS hI (W.aS (a:=ys.flatMap λy=>((zs y).filter (p y)).map (g y)) ?_ (du _ (bO hl)));refine Jg (g:=λy=>((zs y).filter (p y)).map (g y)) λy hy=>(cA (hB y hy)).trans (W.aS (a:=ae) rfl ?_);show W.bind (fO tok C hs Jh (r y)) _=_;refine W.aS (hJ y hy) ?_;rw[← Rf (g y) (p y)];refine Jg (g:=λz=>cond (p y z) [g y z] []) λz hz=>(cA (hB2 y hy z hz)).trans (W.aS (hC y hy z hz) ?_);induction q:p y z with
 |true=>exact W.aS (f:=λx=>W.ret [x]) (hE y hy z hz q) rfl
 |false=>rfl
theorem Rh{a:RE}(h:ev tok C hs a ρ=aa (.bool b,ae)):ev tok C hs (.not a) ρ=aa (.bool (!b),ae):=W.aS h rfl
theorem ael(n:Nat):kL 0 n=(bM n).map nD:=by refine rE (QF ..) (rE EN ?_);rfl
theorem kz{e:RE}(h:ev tok C hs e ρ=aa (nD n,ae))(hn:n<1000000):fO tok C hs (.dy e) ρ=aa ((bM n).map nD,ae):=rS (ael ..) (adB h (bO hn))
theorem eP{e:RE}{xs:List D}(h:ev tok C hs e ρ=aa (.list xs,ae)):fO tok C hs (.data e) ρ=aa (xs,ae):=Dg h rfl
theorem jS{t:jj}{it:RI}{b:bP}{xs:List D}(h:fO tok C hs it ρ=aa (xs,ae)):ex tok C CH (.loop t it b) ρ hs=dE (dH C CH t b) xs ρ hs:=Dh h
theorem pd{xs:List D}(h:xs.length≤1000000):sV (.list xs)=aa (nD xs.length,ae):=du _ (bO h)
theorem gk{a b:List D}(h:a.length+b.length≤1000000):j3 .add (.list a) (.list b)=aa (.list (a++b),ae):=du _ (bO (aF h (by decide)))
theorem sf(x y:ax)(h:x.length+y.length≤1000000):j3 .add (S x) (S y)=aa (S (x++y),ae):=du _ (bO (aF h (by decide)))
theorem Ri(a b:Nat):gO .eq (nD a) (nD b)=aa (az a b,ae):=congrArg (λb=>aa (b,ae)) (r5 a b)
theorem add_n(a b:Nat):j3 .add (nD a) (nD b)=aa (nD (a+b),ae):=rfl
theorem pe(a b:Nat)(h:b≠0):j3 .mod (nD a) (nD b)=aa (nD (a%b),ae):=by show W.need (fX ((a:Int).fmod (b:Int))) (!((b:Int) == 0))=_;refine rE (show(a:Int).fmod (b:Int)=((a%b:Nat):Int)by refine rE (EP _ (jd b)) ?_;rfl) ?_;exact du _ (by induction b using ll with|zero=>exact absurd rfl h|succ b=>rfl)
theorem x9(a b:Nat)(h:b≠0)(hb:b<1073741824):j3 .fdiv (nD a) (nD b)=aa (nD (a/b),ae):=by
 show W.need (fX ((a:Int).fdiv (b:Int))) (!((b:Int) == 0)&&aU b 1073741824)=_;refine rE (show(a:Int).fdiv (b:Int)=((a/b:Nat):Int)by refine rE (aii _ (jd b)) ?_;rfl) ?_;refine du _ (rE (show aU b 1073741824 from bO hb) ?_);induction b using ll with|zero=>exact absurd rfl h|succ b=>rfl
theorem Dr(a n:Nat)(ha:a<100)(hn:n<1000000):j3 .pow (nD a) (nD n)=aa (nD (a^n),ae):=by show W.need (fX ((a:Int)^n)) (small (a:Int)&&decide (0≤(n:Int))&&aU n 1000000)=_;refine rS (aij ..) (rE (decide_eq_true (jd n)) (rE (show aU n 1000000 from bO hn) (rE (show small (a:Int) from bO (ew ha (by decide))) ?_)));rfl
theorem Rj{a b:Nat}(h:b≤a):j3 .sub (nD a) (nD b)=aa (nD (a - b),ae):=by show W.ret (fX ((a:Int) - (b:Int)))=_;refine rS (Int.ofNat_sub h) ?_;rfl
theorem lh{xs:List D}(h:xs[k]? =aa d)(hk:k<1000000000):kK (.list xs) (nD k)=aa (d,ae):=by show((xs[k]?).bind λd=>W.need d (aU k 1000000000))=_;exact rE h (du _ (bO hk))
theorem Ji{l:ax}{c:Nat}(h:l[k]? =aa c)(hk:k<1000000000):kK (S l) (nD k)=aa (S [c],ae):=by show(((sL (aj l))[k]?).bind λc=>W.need (uA (aj [c])) (aU k 1000000000))=_;exact rE (v7 ..) (rE h (du _ (bO hk)))
theorem ya{xs:List D}(hk:k<1000000000)(hl:xs.length≤1000000):ny (.list xs) af (aa (k:Int)) af=aa (.list (xs.take k),ae):=by show W.need (dQ ((xs.take k).drop 0)) (ae&&uN (aa (k:Int))&&aX xs.length big)=_;exact rE Kk (rE (IQ hk) (du _ (bO (aF hl (by decide)))))
theorem wc{xs:List D}(hk:k<1000000000)(hl:xs.length≤1000000):ny (.list xs) (aa (k:Int)) af af=aa (.list (xs.drop k),ae):=by show W.need (dQ (xs.drop k)) (ly (aa (k:Int))&&ae&&aX xs.length big)=_;exact rE (Au hk) (du _ (bO (aF hl (by decide))))
theorem aem{xs:List D}{a b:Nat}(ha:a<1000000000)(hb:b<1000000000)(hl:xs.length≤1000000):ny (.list xs) (aa (a:Int)) (aa (b:Int)) af=aa (.list ((xs.take b).drop a),ae):=by show W.need (dQ ((xs.take b).drop a)) (ly (aa (a:Int))&&uN (aa (b:Int))&&aX xs.length big)=_;exact rE (Au ha) (rE (IQ hb) (du _ (bO (aF hl (by decide)))))
theorem Rk{e:RE}{xs ys:List D}(g:get ρ i=aa (.own xs))(h:ev tok C hs e ρ=aa (.list ys,ae))(hl:xs.length+ys.length≤1000000):ex tok C CH (.ext i e) ρ hs=aa (.next (put ρ i (.own (xs++ys))) hs,ae):=
 (cA (Ap g)).trans (W.aS h ((cA (m:=d7 (.list ys)) rfl).trans (W.aS (du () (bO hl)) rfl)))
theorem aen(k:Nat):yR (k:Int)=aa k:=by unfold yR;refine rE (decide_eq_true (jd k)) ?_;rfl
theorem Rm{a e:RE}{xs:List D}(g:get ρ i=aa (.own xs))(h1:ev tok C hs a ρ=aa (nD k,ae))(h2:ev tok C hs e ρ=aa (d,ae))(hl:xs.length<1000000)(hk:k≤xs.length):
  ex tok C CH (.ins i a e) ρ hs=aa (.next (put ρ i (.own (jl d k xs))) hs,ae):=
 (cA (Ap g)).trans (W.aS h1 (W.aS h2 ((cA (m:=cY (nD k)) rfl).trans ((cA (aen k)).trans (W.aS (du () (fJ.mpr ⟨bO hl,bO hk⟩)) rfl)))))
theorem Jj{f:α→D}{eq:α→α→Bool}(h:∀x y,dT (f x) (f y)=eq x y)(hs:∀x,c8 k (f x))(hk:k<64)(x:α)(ys:List α):gO .isin (f x) (.list (ys.map f))=aa (ys.any λy=>eq y x,ae):=by have hx:=(hs x).ok (d4 hk);have hl:=(c8.map hs ys).ok hk;show sT (f x) (.list (ys.map f))=_;unfold sT;show W.need ((ys.map f).any λz=>dT z (f x)) (c9 (.list (ys.map f))&&c9 (f x))=_;refine rE hx (rE hl (rE List.any_map ?_));have:((λz=>dT z (f x))∘f)=λy=>eq y x:=funext λy=>h y x;refine rE this ?_;rfl
theorem Jk{f:α→D}{eq:α→α→Bool}(h:∀x y,dT (f x) (f y)=eq x y)(hs:∀x,c8 k (f x))(hk:k<64)(x:α)(ys:List α):gO .ix (f x) (.list (ys.map f))=aa (!ys.any λy=>eq y x,ae):=by show sU (sT (f x) (.list (ys.map f)))=_;refine rE (show sT (f x) (.list (ys.map f))=_ from Jj h hs hk x ys) ?_;rfl
theorem aeo{f:D→aM→Hs→W Fl}{hs':Hs}{xs ys:List D}(h:dE f xs ρ hs=aa (.next ρ' hs',ae)):dE f (xs++ys) ρ hs=dE f ys ρ' hs':=by
 induction xs generalizing ρ hs with
 |nil=>cases h;rfl
 |cons x xs ih=>
  refine wE (h:W.bind (f x ρ hs) _=_) λfl h1 h2=>?_;induction fl with
  |ret=>cases W.bp h2
  |next=>exact(o9 h1).trans (ih h2)
theorem Jl{e:RE}{ss:bP}(h:ev tok C hs e (dX is ρ)=aa (d,ae)):cb tok C CH (.cons (.fz is (.ret e)) ss) ρ hs=aa (.ret d hs,ae):=gX (s:=.fz is (.ret e)) (show ex tok C CH (.ret e) (dX is ρ) hs=_ from qo h)
theorem oa{t:jj}{b:bP}{x:D}{xs:List D}{bN:aM}{hs':Hs}(h:eU t x ρ=aa bN)(e:cb tok C CH b bN hs=aa (.next ρ' hs',ae)):dE (dH C CH t b) (x::xs) ρ hs=dE (dH C CH t b) xs ρ' hs':=o9 (f:=dH C CH t b) ((cA h).trans e)
theorem Jm{t:jj}{b:bP}{x:D}{xs:List D}{bN:aM}{hs':Hs}(h:eU t x ρ=aa bN)(e:cb tok C CH b bN hs=aa (.ret d hs',ae)):dE (dH C CH t b) (x::xs) ρ hs=aa (.ret d hs',ae):=W.aS ((cA h).trans e) rfl
noncomputable def bS(b:Bool):List Nat:=cond b [84,114,117,101] [70,97,108,115,101]
theorem str_bool(b:Bool):gQ .str [yD b]=aa (S (bS b),ae):=by induction b<;>rfl
theorem Jn:∀h,(iM h).length≤5∧(fq h).length≤5:=h8 (by decide) (by decide) (by decide) (by decide) (by decide) (by decide) (by decide) (by decide) λZ=>⟨eo _,eo _⟩
theorem Rn{f:α→List Nat}(h:∀x,(f x).length≤k)(xs:List α):(xs.flatMap f).length≤k * xs.length:=by
 induction xs with
 |nil=>exact eo _
 |cons x xs ih=>exact rE nj (rE bt (rE bT (rE (ur ..) (rE (Bj ..) (uk ih (h x))))))
theorem Ro(p:Pc):p.txt.length≤6∧p.bare.length≤6:=by obtain⟨c,h,f⟩:=p;refine xA (Jn h) λa b=>?_;induction f<;>(unfold Pc.txt Pc.bare;simp only[cond_true,cond_false,bt,bT,m9];lia)
theorem wd(ps:List Pc):(fe ps).length≤6 * ps.length:=Rn (λp=>(Ro p).1) ps
theorem we(ps:List Pc):(fh ps).length≤6 * ps.length:=Rn (λp=>(Ro p).2) ps
noncomputable def eQ(t x:Nat):Nat:=(x+6 - t)%6
noncomputable def wg(t:Nat)(p:Nat × Nat):Nat × Nat:=cond (aU (eQ t p.1) (eQ t p.2)) (eQ t p.1,eQ t p.2) (eQ t p.2,eQ t p.1)
noncomputable def brk(es:ax)(k:Nat):Nat:=cond (es.any λe=>az e k) 41 40
noncomputable def Jo(l:ax):Bool:=r7 [] (lW l 0)
noncomputable def oe(L:List (Nat × Nat))(t:Nat):List Nat:=(bM 6).map (brk ((L.map (wg t)).map (·.2)))
noncomputable def mT(L:List (Nat × Nat))(t:Nat):List Bool:=(L.map (wg t)).map λp=>Jo (((oe L t).take (p.2+1)).drop p.1)
noncomputable def eR(L:List (Nat × Nat))(t:Nat)(dr:Nat→Nat):List Pc:=(bM 6).map λk=>⟨brk ((L.map (wg t)).map (·.2)) k,dr k,ae⟩
noncomputable def jT(dr:Nat→Nat):D:=.list ((bM 6).map λk=>S (iM (dr k)))
noncomputable def kA(ps:List Pc):D:=.list (ps.map λp=>S p.txt)
noncomputable def Rq(L:List (Nat × Nat)):Prop:=L.length≤10∧∀p∈L,p.1<6∧p.2<6∧p.1≠p.2
theorem aep:∀t<7,∀a<6,∀b<6,a≠b→eQ t a≠eQ t b:=by decide+kernel
theorem aeq{t x:Nat}(h:t≤6):((x:Int) - (t:Int))%6=((eQ t x:Nat):Int):=by unfold eQ;rw[Int.natCast_emod,Int.ofNat_sub (aF h (uG ..)),Int.natCast_add,show(x:Int)+((6:Nat):Int) - (t:Int)=(x:Int) - (t:Int)+6 from Int.add_sub_assoc _ _ _ |>.trans (by rw[aik,aik,Int.add_comm _ (-(t:Int)),← Int.add_assoc];rfl)];exact(Int.add_emod_right ..).symm
theorem Rr{t x:Nat}(h:t≤6):j3 .mod (.int ((x:Int) - (t:Int))) (nD 6)=aa (nD (eQ t x),ae):=by refine(du (fX (((x:Int) - (t:Int)).fmod 6)) rfl).trans (rE (show((x:Int) - (t:Int)).fmod 6=((eQ t x:Nat):Int)by rw[EP _ (by decide)];exact aeq h) ?_);rfl
theorem Rt(es:ax)(k:Nat):mR (brk es k):=by unfold brk;cases es.any _<;>exact⟨by decide,by decide⟩
theorem aer(ps:List Pc)(h:ps.length≤1000):gQ .join [S [],kA ps]=aa (S (fe ps),ae):=by
 have e:(ps.map Pc.txt).flatten=fe ps:=by rewrite[fe];exact rE ail rfl
 have:=Av (ps.map Pc.txt) (rE e (aF (wd ps) (aF (yu 6 h) (by decide))));replace this:=dJ▸e▸this;exact this
theorem aes{e:RE}(h:∀p∈ps,mR p.c)(hl:ps.length≤1000)(he:ev tok (run tok aH (n+2)) hs e ρ=aa (kA ps,ae)):
  ev tok (run tok aH (n+2)) hs (.prim .str (.cons (.call 1 (.cons (.prim .join (.cons (.lit (.str (aj []))) (.cons e .nil))) .nil)) .nil)) ρ=aa (S (bS (Jo (ps.map Pc.c))),ae):=by
 have l1:=wd ps;have l2:=we ps;have:=Q4 n h (.inl rfl) (by lia) (by lia);replace this:=(eg ..)▸this;exact gH ((qm (Aq (aK _) he (aer ps hl))).trans this) (str_bool _)
theorem aet(n:Nat){L:List (Nat × Nat)}(hL:Rq L){t:Nat}(ht:t≤6)(dr:Nat→Nat):run tok aH (n+3) 8 [aJ L,nD t,jT dr]=aa (.tuple [.list ((mT L t).map λb=>S (bS b)),kA (eR L t dr)],ae):=by
 obtain⟨P,hP⟩:∃P,P=L.map (wg t):=⟨_,rfl⟩;obtain⟨E,hE⟩:∃E,E=P.map (·.2):=⟨_,rfl⟩;have Ru:P.length≤10:=rE hP (rE (aQ ..) hL.1)
 have hPr:∀p∈P,p.1<6∧p.2<6:=λp hp=>by replace hp:=hP▸hp;refine aD (fk.mp hp) λq hq e9=>?_;subst e9;have h6:∀x,eQ t x<6:=λx=>jX _ (by decide);unfold wg;cases aU (eQ t q.1) (eQ t q.2)<;>exact⟨h6 _,h6 _⟩
 refine nZ (n:=n+2) (ρ:=[(30,.val (aJ L)),(37,.val (nD t)),(38,.val (jT dr))]) rfl rfl (hs:=[]) ?_;have e1:ev tok (run tok aH (n+2)) ([]:Hs) (.comp [36,35] (.two 36 35) (.data (.var 30)) .nil .nil (.prim .sorted (.cons (.list (.cons (.bin .mod (.bin .sub (.var 36) (.var 37)) (.lit (.int 6))) (.cons (.bin .mod (.bin .sub (.var 35) (.var 37)) (.lit (.int 6))) .nil))) .nil))) [(30,.val (aJ L)),(37,.val (nD t)),(38,.val (jT dr))]=aa (aJ P,ae):=by
  have:=ij (C:=run tok aH (n+2)) (hs:=[]) (loc:=[36,35]) (t:=.two 36 35) (it:=.data (.var 30)) (elt:=.prim .sorted (.cons (.list (.cons (.bin .mod (.bin .sub (.var 36) (.var 37)) (.lit (.int 6))) (.cons (.bin .mod (.bin .sub (.var 35) (.var 37)) (.lit (.int 6))) .nil))) .nil)) (ρ:=[(30,.val (aJ L)),(37,.val (nD t)),(38,.val (jT dr))]) (ys:=L) (h:=pD) (g:=λp=>pD (wg t p)) (r:=λp=>[(30,.val (aJ L)),(37,.val (nD t)),(38,.val (jT dr)),(36,.val (nD p.1)),(35,.val (nD p.2))]) rfl (λZ Z=>rfl) (λp hp=>?_) (aF hL.1 (by decide))
  ·refine rE this (rE hP ?_);show aa (dQ _,ae)=aa (dQ _,ae);refine rE dJ ?_;rfl
  ·refine mq (hL.2 p hp) λh1 h2 h3=>?_;have bQ:eQ t p.1≠eQ t p.2:=aep t (EL ht) _ h1 _ h2 h3;refine gH (x:=.list [nD (eQ t p.1),nD (eQ t p.2)]) (fF (bI (bk (x:=.int ((p.1:Int) - (t:Int))) rfl (aK _) (Rr ht)) (bI (bk (x:=.int ((p.2:Int) - (t:Int))) rfl (aK _) (Rr ht)) di))) ((Rb (l:=[eQ t p.1,eQ t p.2]) (by simp[bQ]) (by decide:2<64)).trans ?_);unfold wg;show aa (dQ ((cond (aU (eQ t p.1) (eQ t p.2)) [eQ t p.1,eQ t p.2] [eQ t p.2,eQ t p.1]:ax).map nD),ae)=_;clear bQ h3 ht hL;cases aU (eQ t p.1) (eQ t p.2)<;>rfl
 refine(bq (c7 e1)).trans ?_;have e2:ev tok (run tok aH (n+2)) ([]:Hs) (.comp [36,35] (.two 36 35) (.data (.var 39)) .nil .nil (.var 35)) [(30,.val (aJ L)),(37,.val (nD t)),(38,.val (jT dr)),(39,.val (aJ P))]=aa (.list (E.map nD),ae):=by have:=ij (C:=run tok aH (n+2)) (hs:=[]) (loc:=[36,35]) (t:=.two 36 35) (it:=.data (.var 39)) (elt:=.var 35) (ρ:=[(30,.val (aJ L)),(37,.val (nD t)),(38,.val (jT dr)),(39,.val (aJ P))]) (ys:=P) (h:=pD) (g:=λp=>nD p.2) (r:=λp=>[(30,.val (aJ L)),(37,.val (nD t)),(38,.val (jT dr)),(39,.val (aJ P)),(36,.val (nD p.1)),(35,.val (nD p.2))]) rfl (λZ Z=>rfl) (λp hp=>rfl) (aF Ru (by decide));refine rE this (rE hE (rE dJ ?_));rfl
 refine(bq (c7 e2)).trans ?_;have e3:ev tok (run tok aH (n+2)) ([]:Hs) (.comp [13] (.one 13) (.dy (.lit (.int 6))) .nil .nil (.bin .add (.ite (.cmp (.var 13) (.cons .isin (.var 40) .nil)) (.lit (.str (aj [41]))) (.lit (.str (aj [40])))) (.aG 38 (.var 13)))) [(30,.val (aJ L)),(37,.val (nD t)),(38,.val (jT dr)),(39,.val (aJ P)),(40,.val (.list (E.map nD)))]=aa (kA (eR L t dr),ae):=by
  refine(ij (ys:=bM 6) (h:=nD) (g:=λk=>S ((⟨brk E k,dr k,ae⟩:Pc)).txt) (r:=λk=>[(30,.val (aJ L)),(37,.val (nD t)),(38,.val (jT dr)),(39,.val (aJ P)),(40,.val (.list (E.map nD))),(13,.val (nD k))]) (kz (n:=6) (aK _) (by decide)) (λZ Z=>rfl) (λk hk=>?_) (by decide)).trans ?_
  ·have hk:=lq.mp hk;have c1:=Jj se qq (by decide) k E;have c2:ev tok (run tok aH (n+2)) ([]:Hs) (.ite (.cmp (.var 13) (.cons .isin (.var 40) .nil)) (.lit (.str (aj [41]))) (.lit (.str (aj [40])))) [(30,.val (aJ L)),(37,.val (nD t)),(38,.val (jT dr)),(39,.val (aJ P)),(40,.val (.list (E.map nD))),(13,.val (nD k))]=aa (S [brk E k],ae):=by refine(qk (cS rfl rfl c1) rfl).trans ?_;unfold brk;cases E.any λe=>az e k<;>rfl
   refine bk c2 (dp rfl rfl (lh (d:=S (iM (dr k))) ?_ (ew hk (by decide)))) (sf _ _ (by have:=(Jn (dr k)).1;refine rE bT (rE m9 ?_);lia));refine rE (l8) ?_;refine rE (List.getElem?_range hk) ?_;rfl
  ·refine rE hE (rE hP ?_);unfold eR kA;refine rE dJ ?_;rfl
 refine(bq (c7 e3)).trans (gX (qo (tU (bI ?_ (bI rfl di)))));have ek:(oe L t)=(eR L t dr).map Pc.c:=by unfold oe eR;refine rE dJ ?_;rfl
 have Rv:(eR L t dr).length=6:=by unfold eR;exact rE (aQ ..) (rE qK rfl)
 refine(ij (ys:=P) (h:=pD) (g:=λp=>S (bS (Jo (((oe L t).take (p.2+1)).drop p.1)))) (r:=λp=>[(30,.val (aJ L)),(37,.val (nD t)),(38,.val (jT dr)),(39,.val (aJ P)),(40,.val (.list (E.map nD))),(41,.val (kA (eR L t dr))),(36,.val (nD p.1)),(35,.val (nD p.2))]) rfl (λZ Z=>rfl) (λp hp=>?_) (aF Ru (by decide))).trans ?_
 ·refine xA (hPr p hp) λh1 h2=>?_;have hc:=aes (n:=n) (hs:=[]) (ρ:=[(30,.val (aJ L)),(37,.val (nD t)),(38,.val (jT dr)),(39,.val (aJ P)),(40,.val (.list (E.map nD))),(41,.val (kA (eR L t dr))),(36,.val (nD p.1)),(35,.val (nD p.2))]) (e:=.cw 41 (.some (.var 36)) (.some (.bin .add (.var 35) (.lit (.int 1)))) .none)
   (ps:=((eR L t dr).take (p.2+1)).drop p.1) (λq hq=>?_) (by exact rE uu (rE qG (rE Rv (aF (qD ..) (aF (um ..) (by decide)))))) ?_
  ·exact rE ek (rS wW (rS yO hc))
  ·have:=U5 (U6 hq);unfold eR at this;clear hq hp ek e3 e2 e1;refine aD (fk.mp this) λk Z e9=>?_;subst e9;exact Rt _ _
  ·refine(jR rfl (gW (i:=((p.1:Nat):Int)) rfl) (gW (i:=((p.2+1:Nat):Int)) rfl) ee (aem (ew h1 (by decide)) (ew (aim h2) (by decide)) (by refine rE (aQ ..) (rE Rv ?_);decide))).trans ?_;unfold kA;exact rE yO (rE wW rfl)
 ·unfold mT;refine rS hP (rE dJ ?_);rfl
set_option genCtorIdx false in
inductive T where
 |lf (k:Nat)
 |nd (m:Bool) (a b:T)
noncomputable def sg(m:Bool):Nat:=cond m 42 124
noncomputable def tD:T→D
 | .lf k=>nD k
 | .nd m a b=>.list [S [sg m],tD a,tD b]
noncomputable def cn:T→Nat
 | .lf _=>0
 | .nd _ a b=>cn a+cn b+1
noncomputable def dP(l:ax):D:=.list (l.map nD)
noncomputable def cu(l:cP):D:=.list (l.map dP)
noncomputable def comb(c:Bool)(o t:cP):List (List (List Nat)):=cond c [(o.headD []++t.headD [])::(o.tail++t.tail)] [o++t,t++o]
noncomputable def fV:T→List (List (List Nat))
 | .lf k=>[[[k]]]
 | .nd c a b=>(fV a).flatMap λo=>(fV b).flatMap λt=>comb c o t
structure og(m:Nat)(o:cP):Prop where
 ne:o≠[]
 len:o.length≤m
 pc:∀l∈o,l.length≤m
variable {F:List T}
theorem aeu{c:Bool}{o t:cP}(ho:og m o)(ht:og n t):∀x∈comb c o t,og (m+n) x:=by
 intro x hx;obtain⟨a,o,rfl⟩:∃a r,o=a::r:=by induction o using bj with|nil=>exact absurd rfl ho.ne|cons a r=>exact⟨a,r,rfl⟩
 obtain⟨b,t,rfl⟩:∃a r,t=a::r:=by induction t using bj with|nil=>exact absurd rfl ht.ne|cons a r=>exact⟨a,r,rfl⟩
 have h1:=ho.len;have h2:=ht.len;have p1:=ho.pc;have p2:=ht.pc;have w1:∀l∈a::o,l.length≤m+n:=λl h=>aF (p1 l h) (nh _ _);have w2:∀l∈b::t,l.length≤m+n:=λl h=>aF (p2 l h) (uG _ _);rw[bT]at h1 h2;unfold comb at hx;induction c with
 |true=>
  refine rE (dK.mp hx) ⟨nofun,by simp only[bT,bt,List.tail_cons];lia,λl hl=>?_⟩;rcases bE.mp hl with rfl|hl
  ·have:=p1 a bG;have:=p2 b bG;simp only[List.headD_cons,bt];lia
  ·rcases gp.mp hl with hl|hl
   ·exact w1 l (cf _ hl)
   ·exact w2 l (cf _ hl)
 |false=>
  rcases bE.mp hx with rfl|hx
  ·exact⟨nofun,by simp only[bT,bt];lia,λl hl=>(gp.mp hl).elim (w1 l) (w2 l)⟩
  ·exact rE (dK.mp hx) ⟨nofun,by simp only[bT,bt];lia,λl hl=>(gp.mp hl).elim (w2 l) (w1 l)⟩
theorem Jp(c:Bool)(o t:cP):(comb c o t).length≤2:=by unfold comb;induction c with|true=>exact wN _|false=>exact bZ _
theorem Ds:∀t:T,(∀o∈fV t,og (cn t+1) o)∧(fV t).length≤2^cn t:=by
 intro t;induction t with
 |lf k=>exact⟨λo h=>by refine rE (dK.mp h) ?_;exact⟨nofun,bZ _,λl h=>by refine rE (dK.mp h) ?_;exact bZ _⟩,bZ _⟩
 |nd c a b kB kC=>
  refine⟨λx hx=>?_,?_⟩
  ·refine aD (yN.mp hx) λo ho hx=>aD (yN.mp hx) λt ht hx=>?_;have:=aeu (kB.1 o ho) (kC.1 t ht) x hx;exact rE (show cn (.nd c a b)+1=cn a+1+(cn b+1)by show cn a+cn b+1+1=_;lia) this
  ·have l:∀ {α β:Type} (f:α→List β) (m:Nat),(∀x,(f x).length≤m)→∀xs:List α,(xs.flatMap f).length≤xs.length * m:=λf m h xs=>by
    induction xs with
    |nil=>exact eo _
    |cons x xs ih=>exact rE nj (rE bt (rE bT (rE (AY ..) (rE (Bj ..) (uk ih (h x))))))
   refine aF (l _ ((fV b).length * 2) (λo=>l _ 2 (λt=>Jp c o t) _) _) ?_;show _≤2^(cn a+cn b+1);refine rE (Nat.pow_succ ..) (rE (U7 ..) (rE (U8 ..) ?_));exact U9 kB.2 (U9 kC.2 (bZ _))
noncomputable def Ax:RE:=.ite (.cmp (.aG 42 (.lit (.int 0))) (.cons .eq (.lit (.str (aj [42]))) .nil)) (.list (.cons (.bin .add (.bin .add (.list (.cons (.bin .add (.aG 17 (.lit (.int 0))) (.aG 18 (.lit (.int 0)))) .nil)) (.cw 17 (.some (.lit (.int 1))) .none .none)) (.cw 18 (.some (.lit (.int 1))) .none .none)) .nil)) (.list (.cons (.bin .add (.var 17) (.var 18)) (.cons (.bin .add (.var 18) (.var 17)) .nil)))
theorem aev{c:Bool}{a b:T}{o t:cP}(Jq:get ρ 42=aa (.val (tD (.nd c a b))))(qd:get ρ 17=aa (.val (cu o)))(rP:get ρ 18=aa (.val (cu t)))(ho:og m o)(ht:og m t)(hm:m≤400000):
  ev tok C ([]:Hs) Ax ρ=aa (.list ((comb c o t).map cu),ae):=by
 have l1:(o.map dP).length≤400000:=rE (aQ ..) (aF ho.len hm)
 have l2:(t.map dP).length≤400000:=rE (aQ ..) (aF ht.len hm)
 have e1:ev tok C ([]:Hs) (.cmp (.aG 42 (.lit (.int 0))) (.cons .eq (.lit (.str (aj [42]))) .nil)) ρ=aa (.bool c,ae):=cS (dp Jq (aK _) rfl) (aK _) (by induction c<;>rfl);refine(qk e1 rfl).trans ?_;have add:∀ {x y:RE}{xs ys:List D},ev tok C ([]:Hs) x ρ=aa (.list xs,ae)→ev tok C ([]:Hs) y ρ=aa (.list ys,ae)→xs.length≤400000→ys.length≤400000→ev tok C ([]:Hs) (.bin .add x y) ρ=aa (.list (xs++ys),ae):=λh1 h2 a b=>bk h1 h2 (gk (aF (uk a b) (by decide)));unfold comb;induction c with
 |true=>
  obtain⟨x,o,rfl⟩:∃a r,o=a::r:=by induction o using bj with|nil=>exact absurd rfl ho.ne|cons a r=>exact⟨a,r,rfl⟩
  obtain⟨y,t,rfl⟩:∃a r,t=a::r:=by induction t using bj with|nil=>exact absurd rfl ht.ne|cons a r=>exact⟨a,r,rfl⟩
  have hx:(x.map nD).length≤400000:=rE (aQ ..) (aF (ho.pc x bG) hm)
  have hy:(y.map nD).length≤400000:=rE (aQ ..) (aF (ht.pc y bG) hm)
  have Rw:=D9 l1;have l2':=D9 l2;have s1:=add (x:=.aG 17 (.lit (.int 0))) (y:=.aG 18 (.lit (.int 0))) (dp qd (aK _) rfl) (dp rP (aK _) rfl) hx hy;have s2:ev tok C ([]:Hs) (.cw 17 (.some (.lit (.int 1))) .none .none) ρ=aa (.list (o.map dP),ae):=jR (eK qd) (gW (i:=((1:Nat):Int)) (aK _)) ee ee (wc (k:=1) (by decide) (aF l1 (by decide)));have s3:ev tok C ([]:Hs) (.cw 18 (.some (.lit (.int 1))) .none .none) ρ=aa (.list (t.map dP),ae):=jR (eK rP) (gW (i:=((1:Nat):Int)) (aK _)) ee ee (wc (k:=1) (by decide) (aF l2 (by decide)));refine(fF (bI (bk (bk (fF (bI s1 di)) s2 (gk (aF (qI Rw 1) (by decide)))) s3 (gk (aF (uk (rE bt (qI Rw 1)) l2') (by decide)))) di)).trans ?_;show aa (dQ [dQ ([dQ (x.map nD++y.map nD)]++o.map dP++t.map dP)],ae)=aa (dQ [dQ (dP (x++y)::(o++t).map dP)],ae);refine rE (dw (f:=dP)) (rE (show dP (x++y)=dQ (x.map nD++y.map nD)from congrArg dQ dw) ?_);rfl
 |false=>refine(fF (bI (add (aA qd) (aA rP) l1 l2) (bI (add (aA rP) (aA qd) l2 l1) di))).trans ?_;show _=aa (dQ [dQ ((o++t).map dP),dQ ((t++o).map dP)],ae);exact rE dw (rE dw rfl)
theorem aew{c:Bool}{a b:T}{o:cP}(ho:og m o)(hm:m≤400000):∀ (ts:List (List (List Nat))) (xs:List D) (ρ:aM),(∀t∈ts,og m t)→xs.length+2 * ts.length≤1000000→get ρ 42=aa (.val (tD (.nd c a b)))→get ρ 17=aa (.val (cu o))→get ρ 43=aa (.own xs)→
  ∃ρ',dE (dH C af (.one 18) (.cons (.ext 43 Ax) .nil)) (ts.map cu) ρ []=aa (.next ρ' [],ae)∧get ρ' 42=aa (.val (tD (.nd c a b)))∧get ρ' 43=aa (.own (xs++(ts.flatMap λt=>comb c o t).map cu)):=by
 intro ts;induction ts with
 |nil=>exact λxs ρ Z Z h1 Z h3=>⟨ρ,rfl,h1,by refine rE Va ?_;refine rE qT ?_;refine rE (eg ..) ?_;exact h3⟩
 |cons t ts ih=>intro xs ρ ht hl h1 h2 h3;have hc:=Jp c o t;replace hl:=bT▸hl;have e:=Rk (C:=C) (CH:=af) (hs:=[]) (i:=43) (e:=Ax) (ρ:=put ρ 18 (.val (cu t))) (ys:=(comb c o t).map cu) (gN rfl h3) (aev (gN rfl h1) (gN rfl h2) gS ho (ht t bG) hm) (by refine rE (aQ ..) ?_;lia);obtain⟨ρ',e1,e2,e3⟩:=ih (xs++(comb c o t).map cu) (put (put ρ 18 (.val (cu t))) 43 (.own (xs++(comb c o t).map cu))) (λx hx=>ht x (cf _ hx)) (by refine rE bt (rE (aQ ..) ?_);lia) (gN rfl (gN rfl h1)) (gN rfl (gN rfl h2)) gS;exact⟨ρ',(oa rfl (cJ e)).trans e1,e2,by refine rE nj ?_;refine rE dw ?_;refine rS (d5 ..) ?_;exact e3⟩
theorem aex{c:Bool}{a b:T}(hm:m≤400000)(hC:C 9 [tD b]=aa (.list ((fV b).map cu),ae))(hb:∀t∈fV b,og m t):∀ (os:List (List (List Nat))) (xs:List D) (ρ:aM),(∀o∈os,og m o)→xs.length+(2 * (fV b).length) * os.length≤1000000→get ρ 42=aa (.val (tD (.nd c a b)))→get ρ 43=aa (.own xs)→
  ∃ρ',dE (dH C af (.one 17) (.cons (.loop (.one 18) (.data (.call 9 (.cons (.aG 42 (.lit (.int 2))) .nil))) (.cons (.ext 43 Ax) .nil)) .nil)) (os.map cu) ρ []=aa (.next ρ' [],ae)∧get ρ' 43=aa (.own (xs++(os.flatMap λo=>(fV b).flatMap λt=>comb c o t).map cu)):=by
 intro os;induction os with
 |nil=>exact λxs ρ Z Z Z h3=>⟨ρ,rfl,by refine rE Va ?_;refine rE qT ?_;refine rE (eg ..) ?_;exact h3⟩
 |cons o os ih=>
  intro xs ρ ho hl h1 h3;replace hl:=(ur ..)▸bT▸hl;obtain⟨bN,e1,g1,g2⟩:=aew (C:=C) (c:=c) (a:=a) (b:=b) (ho o bG) hm (fV b) xs (put ρ 17 (.val (cu o))) hb (by lia) (gN rfl h1) gS (gN rfl h3);have hlen:((fV b).flatMap λt=>comb c o t).length≤2 * (fV b).length:=by
   have:∀ts:List (List (List Nat)),(ts.flatMap λt=>comb c o t).length≤2 * ts.length:=λts=>by
    induction ts with
    |nil=>exact eo _
    |cons t ts ih=>exact rE nj (rE bt (rE bT (rE (ur ..) (rE (Bj ..) (uk ih (Jp c o t))))))
   exact this _
  obtain⟨ρ',e2,e3⟩:=ih _ bN (λx hx=>ho x (cf _ hx)) (by refine rE bt (rE (aQ ..) ?_);lia) g1 g2;have e:cb tok C af (.cons (.loop (.one 18) (.data (.call 9 (.cons (.aG 42 (.lit (.int 2))) .nil))) (.cons (.ext 43 Ax) .nil)) .nil) (put ρ 17 (.val (cu o))) []=aa (.next bN [],ae):=
   cJ ((jS (eP ((qm (dp (gN rfl h1) (aK _) rfl)).trans hC))).trans e1)
  exact⟨ρ',(oa rfl e).trans e2,by refine rE nj ?_;refine rE dw ?_;refine rS (d5 ..) ?_;exact e3⟩
theorem aey:∀ (t:T) (n:Nat),cn t<n→cn t≤10→run tok aH n 9 [tD t]=aa (.list ((fV t).map cu),ae):=by
 intro t;induction t with
 |lf k=>
  intro n h _;induction n with
  |zero=>exact absurd h (Eu _)
  |succ n=>exact nZ rfl rfl (hs:=[]) (by kernel_rfl)
 |nd c a b kB kC=>
  intro n h fS;induction n using ll with
  |zero=>exact absurd h (Eu _)
  |succ n=>
  have fS:cn a+cn b+1≤10:=fS;have h:cn a+cn b+1<n+1:=h;refine xA (Ds a) λa1 a2=>xA (Ds b) λb1 b2=>?_;have up:∀ {k},k≤10→2^k≤1024:=λh=>yP (by decide) h;have ok:∀ {k x},og (k+1) x→k≤10→og 11 x:=λp h=>⟨p.ne,aF p.len (by lia),λl hl=>aF (p.pc l hl) (by lia)⟩;have ha:(fV a).length≤32 * 32:=aF a2 (up (by lia));have hb:(fV b).length≤32 * 32:=aF b2 (up (by lia));have Dt:2 * (fV b).length * (fV a).length≤1000000:=by
   have:(fV b).length * (fV a).length≤2^(cn b+cn a):=rE (U7 ..) (U9 b2 a2)
   have:=aF this (up (k:=cn b+cn a) (by lia));refine rE (U8 ..) ?_;lia
  obtain⟨ρ',e1,e2⟩:=aex (C:=run tok aH n) (c:=c) (a:=a) (b:=b) (m:=11) (by decide) (kC n (by lia) (by lia)) (λt ht=>ok (b1 t ht) (by lia)) (fV a) [] [(42,.val (tD (.nd c a b))),(43,.own [])] (λo ho=>ok (a1 o ho) (by lia)) (rE m9 (rE (lj ..) Dt)) rfl rfl;exact nZ (ρ:=[(42,.val (tD (.nd c a b)))]) rfl rfl (hs:=[]) ((bq (fG (d:=.bool ag) rfl rfl jv)).trans ((bq (ρ':=[(42,.val (tD (.nd c a b))),(43,.own [])]) (hs':=[]) rfl).trans ((bq ((jS (eP ((qm (x:=tD a) rfl).trans (kB n (by lia) (by lia))))).trans e1)).trans (gX (show ex tok _ af (.ret _) (dX [43] ρ') []=_ from qo (aA (v9 e2 rfl)))))))
noncomputable abbrev Lk:=List (Nat × Nat)
noncomputable def Du(k:Nat)(pc:ax):Bool:=pc.any λy=>az y k
noncomputable def fW(p:Nat × Nat)(pc:ax):Bool:=cond (Du p.1 pc) ae (Du p.2 pc)
noncomputable def Ry(ps:cP)(p:Nat × Nat):Option (Option (List (List Nat))):=match ps.filter (fW p)with
 | []=>af
 |a::r=>match r with
  | []=>aa af
  |b::_=>aa (aa ((ps.filter λpc=> !fW p pc)++[a++b]))
noncomputable def Jr:Lk→List (List Nat)→Option Bool
 | [],_=>aa ae
 |p::L,ps=>(Ry ps p).bind λo=>match o with|none=>aa ag|some ps=>Jr L ps
noncomputable def mU(L:Lk):List (List (List Nat))→Option Bool
 | []=>aa ae
 |ps::r=>(Jr L ps).bind λb=>cond b (mU L r) (aa ag)
noncomputable def wt(ps:cP):Nat:=ps.length+ps.flatten.length
theorem wh(x:ax)(ps:cP):wt (x::ps)=x.length+1+wt ps:=by unfold wt;refine rE K0 (rE bt (rE bT ?_));lia
theorem aez(f:List Nat→Bool)(ps:cP):wt (ps.filter f)+wt (ps.filter λx=> !f x)=wt ps:=by
 induction ps with
 |nil=>rfl
 |cons x ps ih=>
  refine rE uH (rE uH (rE (wh ..) ?_));induction f x with
  |true=>refine rE (if_pos rfl) (rE (if_neg (by simp)) (rE (wh ..) ?_));lia
  |false=>simp only[Bool.not_false,if_true,yx,if_false,wh];lia
theorem Rz(a b:cP):wt (a++b)=wt a+wt b:=by unfold wt;refine rE Bm (rE bt (rE bt ?_));lia
theorem aeA(a b:ax):dT (dP a) (dP b)=lX az a b:=Jc se a b
theorem aeB(l:ax):c8 1 (dP l):=.map qq l
noncomputable def RA:RS:=.asg 40 (.comp [46] (.one 46) (.data (.var 45)) (.cons (.or (.cmp (.var 36) (.cons .isin (.var 46) .nil)) (.cmp (.var 35) (.cons .isin (.var 46) .nil))) .nil) .nil (.var 46))
noncomputable def RB:RS:=.ite (.cmp (.bL 40) (.cons .eq (.lit (.int 1)) .nil)) (.cons (.ret (.lit (.bool ag))) .nil) .nil
noncomputable def RC:RS:=.asg 45 (.bin .add (.comp [46] (.one 46) (.data (.var 45)) (.cons (.cmp (.var 46) (.cons .ix (.var 40) .nil)) .nil) .nil (.var 46)) (.list (.cons (.bin .add (.aG 40 (.lit (.int 0))) (.aG 40 (.lit (.int 1)))) .nil)))
noncomputable def yb:bP:=.cons RA (.cons RB (.cons RC .nil))
theorem aeC{ps:cP}{p:Nat × Nat}(h:wt ps≤1000)(g1:get ρ 36=aa (.val (nD p.1)))(g2:get ρ 35=aa (.val (nD p.2)))(g3:get ρ 45=aa (.val (cu ps))):
  ex tok C af RA ρ []=aa (.next (put ρ 40 (.val (cu (ps.filter (fW p))))) [],ae):=by
 refine c7 ((pb (ys:=ps) (h:=dP) (g:=dP) (p:=fW p) (r:=λx=>put (rem [46] ρ) 46 (.val (dP x))) (eP (aA g3)) (λZ Z=>rfl) (λx Z=>?_) (λZ Z Z=>aA gS) (aF (nh _ _) (aF h (by decide)))).trans rfl);have c:∀k,gO .isin (nD k) (dP x)=aa (Du k x,ae):=λk=>Jj se qq (by decide) k x;refine qr ((IH (cS (aA (gL rfl rfl g1)) (aA gS) (c p.1)) rfl).trans ?_);unfold fW;induction Du p.1 x with
 |true=>rfl
 |false=>exact cS (aA (gL rfl rfl g2)) (aA gS) (c p.2)
theorem aeD(ps:cP)(f:List Nat→Bool){x:ax}(hx:x∈ps):(ps.filter f).any (λy=>lX az y x)=f x:=by
 induction q:f x with
 |true=>exact Vb.mpr ⟨x,yQ.mpr ⟨hx,q⟩,(Jf beq_iff x x).mpr rfl⟩
 |false=>refine UZ.mpr λy hy e=>?_;obtain rfl:=(Jf beq_iff y x).mp e;exact zT ((yQ.mp hy).2▸q)
theorem aeE{ps:cP}{p:Nat × Nat}{a b:ax}{r:cP}(h:wt ps≤1000)(he:ps.filter (fW p)=a::b::r)(g1:get ρ 40=aa (.val (cu (ps.filter (fW p)))))(g3:get ρ 45=aa (.val (cu ps))):
  ex tok C af RC ρ []=aa (.next (put ρ 45 (.val (cu ((ps.filter λpc=> !fW p pc)++[a++b])))) [],ae)∧wt ((ps.filter λpc=> !fW p pc)++[a++b])≤1000:=by
 have hw:=aez (fW p) ps;have hl:(ps.filter λpc=> !fW p pc).length≤wt (ps.filter λpc=> !fW p pc):=nh _ _;replace hw:=(wh ..)▸(wh ..)▸he▸hw;have h1:ev tok C ([]:Hs) (.comp [46] (.one 46) (.data (.var 45)) (.cons (.cmp (.var 46) (.cons .ix (.var 40) .nil)) .nil) .nil (.var 46)) ρ=aa (cu (ps.filter λpc=> !fW p pc),ae):=by refine(pb (ys:=ps) (h:=dP) (g:=dP) (p:=λpc=> !fW p pc) (r:=λx=>put (rem [46] ρ) 46 (.val (dP x))) (eP (aA g3)) (λZ Z=>rfl) (λx hx=>?_) (λZ Z Z=>aA gS) (aF (nh _ _) (aF h (by decide)))).trans rfl;have:=Jk aeA aeB (by decide) x (ps.filter (fW p));replace this:=aeD ps (fW p) hx▸this;exact qr (cS (aA gS) (aA (gL rfl rfl g1)) this)
 replace g1:=he▸g1;refine⟨c7 ((bk h1 (fF (bI (bk (dp g1 (aK _) rfl) (dp g1 (aK _) rfl) (gk (by refine rE (aQ ..) (rE (aQ ..) ?_);lia))) di)) (gk (by refine rE (aQ ..) ?_;show _+1≤_;lia))).trans ?_),by refine rE (Rz ..) ?_;refine rE (wh ..) ?_;refine rE (show wt []=0 from rfl) ?_;refine rE bt ?_;lia⟩;show aa (dQ (_++[dQ (a.map nD++b.map nD)]),ae)=aa (dQ (((ps.filter λpc=> !fW p pc)++[a++b]).map dP),ae);refine rE (dw (f:=dP)) (rS (dw (f:=nD)) ?_);rfl
theorem aeF:∀ (L:Lk) (ps:cP) (ρ:aM) (b:Bool) (l0 p0:D),wt ps≤1000→get ρ 45=aa (.val (cu ps))→get ρ 30=aa (.val l0)→get ρ 44=aa (.val p0)→Jr L ps=aa b→
  cond b (∃ρ',dE (dH C af (.two 36 35) yb) (L.map pD) ρ []=aa (.next ρ' [],ae)∧get ρ' 30=aa (.val l0)∧get ρ' 44=aa (.val p0)) (dE (dH C af (.two 36 35) yb) (L.map pD) ρ []=aa (.ret (.bool ag) [],ae)):=by
 intro L;induction L with
 |nil=>intro ps ρ b l0 p0 _ _ h1 h2 h;replace h:=iJ h;subst h;exact⟨ρ,rfl,h1,h2⟩
 |cons p L ih=>
  intro ps ρ b l0 p0 hw RD kg wi h;refine oE h λo h1 h2=>?_;have ea:=aeC (C:=C) (ρ:=put (put ρ 36 (.val (nD p.1))) 35 (.val (nD p.2))) (p:=p) hw (gN rfl gS) gS (gN rfl (gN rfl RD));have hlen:∀ {ρ:aM},get ρ 40=aa (.val (cu (ps.filter (fW p))))→ev tok C ([]:Hs) (.cmp (.bL 40) (.cons .eq (.lit (.int 1)) .nil)) ρ=aa (.bool (az (ps.filter (fW p)).length 1),ae):=λg=>by refine rS (r5 ..) ?_;have:=kx (tk:=tok) (C:=C) (hs:=[]) (eK g) (pd (rE (aQ ..) (aF (wV _ _) (aF (nh _ _) (aF hw (by decide))))));replace this:=(aQ ..)▸this;exact cS this (aK _) rfl
  have hb:eU (.two 36 35) (pD p) ρ=aa (put (put ρ 36 (.val (nD p.1))) 35 (.val (nD p.2))):=rfl;unfold Ry at h1;induction q:ps.filter (fW p)using bj with
  |nil=>exact zN (q▸h1)
  |cons a r=>
   replace h1:=q▸h1;have hl:=hlen (gS (ρ:=put (put ρ 36 (.val (nD p.1))) 35 (.val (nD p.2))));induction r using bj with
   |nil=>replace h1:=iJ h1;subst h1;replace h2:=iJ h2;subst h2;replace hl:=(show az (ps.filter (fW p)).length 1 by refine rE q ?_;rfl)▸hl;exact Jm hb (show cb tok C af yb _ []=_ from(bq ea).trans (gX (ig hl rfl (gX (qo (aK _))))))
   |cons c r=>replace h1:=iJ h1;subst h1;replace hl:=(show az (ps.filter (fW p)).length 1=ag by refine rE q ?_;rfl)▸hl;obtain⟨ec,hw'⟩:=aeE (C:=C) (ρ:=put (put (put ρ 36 (.val (nD p.1))) 35 (.val (nD p.2))) 40 (.val (cu (ps.filter (fW p))))) hw q gS (gN rfl (gN rfl (gN rfl RD)));have:=ih _ (put (put (put (put ρ 36 (.val (nD p.1))) 35 (.val (nD p.2))) 40 (.val (cu (ps.filter (fW p))))) 45 (.val (cu ((ps.filter λpc=> !fW p pc)++[a++c])))) b l0 p0 hw' gS (gN rfl (gN rfl (gN rfl (gN rfl kg)))) (gN rfl (gN rfl (gN rfl (gN rfl wi)))) h2;have st:=oa (xs:=L.map pD) hb (show cb tok C af yb _ []=_ from(bq ea).trans ((bq (show ex tok C af RB _ []=_ from fG hl rfl jv)).trans (cJ ec)));replace this:=st.symm▸this;exact this
theorem aeG(n:Nat){L:Lk}{P:List (List (List Nat))}(hw:∀ps∈P,wt ps≤1000)(h:mU L P=aa b):run tok aH (n+1) 10 [.list (P.map cu),aJ L]=aa (.bool b,ae):=by
 refine nZ (ρ:=[(44,.val (.list (P.map cu))),(30,.val (aJ L))]) rfl rfl (hs:=[]) ?_;have key:∀ (Q:List (List (List Nat))) (ρ:aM),(∀ps∈Q,wt ps≤1000)→get ρ 30=aa (.val (aJ L))→get ρ 44=aa (.val (.list (P.map cu)))→mU L Q=aa b→
   cond b (∃ρ',dE (dH (run tok aH n) af (.one 45) (.cons (.loop (.two 36 35) (.data (.var 30)) yb) .nil)) (Q.map cu) ρ []=aa (.next ρ' [],ae)) (dE (dH (run tok aH n) af (.one 45) (.cons (.loop (.two 36 35) (.data (.var 30)) yb) .nil)) (Q.map cu) ρ []=aa (.ret (.bool ag) [],ae)):=by
  intro Q;induction Q with
  |nil=>intro ρ _ _ _ h;replace h:=iJ h;subst h;exact⟨ρ,rfl⟩
  |cons ps Q ih=>
   intro ρ hw kg wi h;refine oE h λb' h1 h2=>?_;have:=aeF (C:=run tok aH n) L ps (put ρ 45 (.val (cu ps))) b' _ _ (hw ps bG) gS (gN rfl kg) (gN rfl wi) h1;induction b' with
   |true=>refine j4 this λρ' e1 e2 e3=>rE iS (rE (oa rfl (cJ ((jS (eP (aA (gN rfl kg)))).trans e1))) ?_);exact ih ρ' (λx hx=>hw x (cf _ hx)) e2 e3 h2
   |false=>replace h2:=iJ h2;subst h2;exact Jm rfl (gX ((jS (eP (aA (gN rfl kg)))).trans this))
 have:=key P [(44,.val (.list (P.map cu))),(30,.val (aJ L))] hw rfl rfl h;induction b with
 |true=>exact xE this λρ' e=>(bq ((jS (eP (xs:=P.map cu) rfl)).trans e)).trans (gX (qo (aK _)))
 |false=>exact gX ((jS (eP (xs:=P.map cu) rfl)).trans this)
noncomputable def pf(L:Lk):List Nat:=L.flatMap λp=>[p.1,p.2]
noncomputable def free(L:Lk)(k:Nat):Bool:= !(pf L).any λy=>az y k
noncomputable def lY(M:cP):D:=.list (M.map dP)
noncomputable def pg(M:cP)(L:Lk):Option (List Lk):=match (bM 6).filter (free L)with
 | []=>af
 |f::_=>(M[f]?).map λms=>(ms.filter (free L)).map λq=>L++[(f,q)]
theorem aeH(n:Nat){M:cP}{L:Lk}{R:List Lk}(hL:L.length≤100)(hM:∀m∈M,m.length≤1000)(h:pg M L=aa R):run tok aH (n+1) 7 [aJ L,lY M]=aa (.list (R.map aJ),ae):=by
 refine nZ (ρ:=[(30,.val (aJ L)),(31,.val (lY M))]) rfl rfl (hs:=[]) ?_;have hu:∀L:Lk,(pf L).length≤2 * L.length:=λL=>by
  unfold pf;induction L with
  |nil=>exact eo _
  |cons p L ih=>simp only[nj,bt,bT,m9];lia
 have e1:ev tok (run tok aH n) ([]:Hs) (.comp [34,7] (.one 34) (.data (.var 30)) .nil (.cons (.one 7) (.data (.var 34)) .nil .nil) (.var 7)) [(30,.val (aJ L)),(31,.val (lY M))]=aa (dP (pf L),ae):=by
  have e:(L.flatMap λp=>(([p.1,p.2]).filter λZ=>ae).map nD)=(pf L).map nD:=by unfold pf;refine rE K1 ?_;rfl
  refine(Dq (ys:=L) (h:=pD) (zs:=λp=>[p.1,p.2]) (h2:=nD) (p:=λZ Z=>ae) (g:=λZ k=>nD k) (r:=λp=>[(30,.val (aJ L)),(31,.val (lY M)),(34,.val (pD p))]) (r2:=λp k=>[(30,.val (aJ L)),(31,.val (lY M)),(34,.val (pD p)),(7,.val (nD k))]) rfl (λZ Z=>rfl) (λZ Z=>rfl) (λZ Z Z Z=>rfl) (λZ Z Z Z=>Rg) (λZ Z Z Z Z=>rfl) ?_).trans ?_
  ·refine rE e (rE (aQ ..) ?_);have:=hu L;lia
  ·refine rE e ?_;rfl
 refine(bq (c7 e1)).trans ?_;have RF:∀ {ρ:aM}{i k:Nat},get ρ 32=aa (.val (dP (pf L)))→get ρ i=aa (.val (nD k))→oJ tok (run tok aH n) ([]:Hs) (.cons (.cmp (.var i) (.cons .ix (.var 32) .nil)) .nil) ρ=aa (free L k,ae):=λ{ρ i k} g1 g2=>
  qr (cS (aA g2) (aA g1) (Jk se qq (by decide) k (pf L)))
 unfold pg at h;have e2:ev tok (run tok aH n) ([]:Hs) (.comp [36] (.one 36) (.dy (.lit (.int 6))) (.cons (.cmp (.var 36) (.cons .ix (.var 32) .nil)) .nil) .nil (.var 36)) [(30,.val (aJ L)),(31,.val (lY M)),(32,.val (dP (pf L)))]=aa (dP ((bM 6).filter (free L)),ae):=
  pb (ys:=bM 6) (h:=nD) (g:=nD) (p:=free L) (r:=λk=>[(30,.val (aJ L)),(31,.val (lY M)),(32,.val (dP (pf L))),(36,.val (nD k))]) (kz (n:=6) (aK _) (by decide)) (λZ Z=>rfl) (λk Z=>RF rfl rfl) (λZ Z Z=>rfl) (by decide)
 induction q:(bM 6).filter (free L)using bj with
 |nil=>exact zN (q▸h)
 |cons f r=>
  rw[q]at h e2;refine aD (sJ.mp h) λms h1 e9=>?_;subst e9;have hf:f<6:=lq.mp (yQ.mp (rE q bG)).1;refine(bq (c7 (d:=nD f) (tT e2 (aK _) rfl))).trans (gX (qo ?_));refine(pb (ys:=ms) (h:=nD) (g:=λk=>aJ (L++[(f,k)])) (p:=free L) (r:=λk=>[(30,.val (aJ L)),(31,.val (lY M)),(32,.val (dP (pf L))),(33,.val (nD f)),(35,.val (nD k))]) (eP (xs:=ms.map nD) (dp rfl rfl (lh (by refine rE (l8) ?_;refine rE h1 ?_;rfl) (ew hf (by decide))))) (λZ Z=>rfl) (λk Z=>RF rfl rfl) (λk Z Z=>?_) (aF (hM ms (sI h1)) (by decide))).trans ?_
  ·refine(bk (x:=aJ L) (y:=.list [pD (f,k)]) rfl rfl (gk (by refine rE (aQ ..) ?_;show _+1≤_;lia))).trans ?_;unfold aJ;refine rE dw ?_;rfl
  ·refine rE dJ ?_;rfl
noncomputable def qt:List T→Option (List T × T × T × List T)
 | []=>af
 |t::r=>match t with
  | .lf k=>(qt r).map λq=>(.lf k::q.1,q.2)
  | .nd m a b=>cond m ((qt r).map λq=>(.nd m a b::q.1,q.2)) (aa ([],a,b,r))
noncomputable def cL{α β:Type}(f:α→Option (List β)):List α→Option (List β)
 | []=>aa []
 |x::xs=>(f x).bind λa=>(cL f xs).bind λb=>aa (a++b)
noncomputable def ja:Lk→Lk→Bool:=lX sd
noncomputable def dd(pre:List Lk):List Lk→List Lk
 | []=>[]
 |x::r=>cond (pre.any λy=>ja y x) (dd (pre++[x]) r) (x::dd (pre++[x]) r)
theorem aeI(pre:List Lk)(gK:Lk)(r:List Lk):dd pre (gK::r)=bif List.any pre λy=>ja y gK then dd (pre++[gK]) r else gK::dd (pre++[gK]) r:=rfl
noncomputable def bit(m j:Nat):Bool:=az ((m/2^j)&&&1) 1
noncomputable def sel(rest:List T)(m:Nat)(b:Bool):List T:=(rest.zipIdx.filter λp=>cond b (bit m p.2) (!bit m p.2)).map (·.1)
noncomputable def base(p:Nat→Nat→Bool)(seq:List T):List Lk:=match seq with
 | []=>[]
 |x::r=>match r with
  | []=>[]
  |y::q=>match q with
   | []=>(match x with
    | .lf i=>(match y with
     | .lf j=>cond (p i j) [[cond (aU i j) (i,j) (j,i)]] []
     | .nd .. =>[])
    | .nd .. =>[])
   |_::_=>[]
noncomputable def Dv:Lk→Bool
 | []=>ae
 |x::r=>cond (r.any λy=>sd y x) ag (Dv r)
noncomputable def mV(l:Lk):Option (List Lk):=cond (aU l.length 64&&Dv l) (aa [jw pa l]) af
noncomputable def fin(l:List Lk):Option (List Lk):=cond (aX l.length 1000&&aU (dd [] l).length 64) (aa (jw I8 (dd [] l))) af
section
variable(p:Nat→Nat→Bool)(ring:Bool)
noncomputable def jx:Nat→List T→Option (List Lk)
 |0,_=>af
 |n+1,seq=>match qt seq with
  |some q=>jx n (q.1++[q.2.1,q.2.2.1]++q.2.2.2)
  |none=>(cL (fun(tk:T × Nat)=>match tk.1 with
   | .lf _=>aa []
   | .nd _ a b=>cL (λm=>cond (ring&& !Nat.beq (m&&&(m+1)) 0) (aa [])
     ((jx n (sel (seq.drop (tk.2+1)++seq.take tk.2) m ag++[a])).bind λos=>match os with
      | []=>aa []
      |o::os=>(jx n (b::sel (seq.drop (tk.2+1)++seq.take tk.2) m ae)).bind λts=>cL (λo=>cL (λt=>mV (o++t)) ts) (o::os)))
     (bM (2^(seq.drop (tk.2+1)++seq.take tk.2).length))) seq.zipIdx).bind λr=>fin (base p seq++r)
end
theorem Js{f g:α→Option (List β)}{s:β→Bool}:∀ {xs:List α}{R:List β},(∀x∈xs,∀r,f x=aa r→g x=aa (r.filter s))→cL f xs=aa R→cL g xs=aa (R.filter s):=by
 intro xs;induction xs with
 |nil=>intro R _ h;replace h:=iJ h;subst h;rfl
 |cons x xs ih=>intro R k h;refine oE h λa h1 h2=>oE h2 λb h3 h4=>?_;replace h4:=iJ h4;subst h4;show(g x).bind _=_;refine rE (k x bG a h1) ?_;show(cL g xs).bind _=_;refine rE (ih (λy hy=>k y (cf _ hy)) h3) (rE (wX ..) ?_);rfl
theorem Jt(a b:Lk):ja a b↔a=b:=Jf I9 a b
theorem Ju(pre:List Lk)(x:Lk):pre.any (λy=>ja y x)↔x∈pre:=by rw[Vb];exact⟨λ⟨y,hy,e⟩=>(Jt y x).mp e▸hy,λh=>⟨x,h,(Jt x x).mpr rfl⟩⟩
theorem aeJ(s:Lk→Bool):∀ (l pre mK:List Lk),(∀x,s x→(x∈pre↔x∈mK))→dd mK (l.filter s)=(dd pre l).filter s:=by
 intro l;induction l with
 |nil=>exact λZ Z Z=>rfl
 |cons x r ih=>
  intro pre mK h;show _=List.filter s (cond (pre.any λy=>ja y x) (dd (pre++[x]) r) (x::dd (pre++[x]) r));induction q:s x with
  |false=>
   refine rE (Bp (by refine rE q ?_;exact f7)) ?_;have ih:=ih (pre++[x]) mK λy hy=>by rewrite[gp];rewrite[dK];rw[h y hy];exact⟨λk=>k.elim id λe=>(by replace hy:=e▸hy;replace hy:=q▸hy;exact zF hy),.inl⟩
   refine rE ih ?_;induction pre.any λy=>ja y x with
   |true=>rfl
   |false=>refine rE (cond_false ..) ?_;exact rE (Bp (by refine rE q ?_;exact f7)) rfl
  |true=>
   refine rE (Bq q) ?_;have ih:=ih (pre++[x]) (mK++[x]) λy hy=>by rewrite[gp];rewrite[gp];rw[h y hy]
   have e:(mK.any λy=>ja y x)=pre.any λy=>ja y x:=by rewrite[ain];rewrite[Ju];rw[Ju];exact(h x q).symm
   show cond (mK.any λy=>ja y x) (dd (mK++[x]) (r.filter s)) (x::dd (mK++[x]) (r.filter s))=_;refine rE e ?_;refine rE ih ?_;induction pre.any λy=>ja y x with
   |true=>rfl
   |false=>refine rE (cond_false ..) ?_;refine rE (cond_false ..) ?_;exact rE (Bq q) rfl
theorem RG:∀ (l pre:List Lk),(∀x∈dd pre l,x∉pre)∧(dd pre l).Nodup:=by
 intro l;induction l with
 |nil=>exact λZ=>⟨λZ h=>(nomatch h),yF⟩
 |cons x r ih=>
  intro pre;refine xA (ih (pre++[x])) λa b=>?_;have a':∀y∈dd (pre++[x]) r,y∉pre:=λy hy k=>a y hy (A7 _ k);refine rE (aeI ..) ?_;induction q:pre.any λy=>ja y x with
  |true=>exact⟨a',b⟩
  |false=>
   refine⟨λy hy=>?_,uC.mpr ⟨λk=>a x k (yI _ bG),b⟩⟩;rcases bE.mp hy with rfl|hy
   ·exact λk=>by replace q:=(Ju _ _).mpr k▸q;exact zT q
   ·exact a' y hy
theorem aeK{lt:α→α→Bool}(s:α→Bool){l:List α}(h:tY lt l):tY lt (l.filter s):=ahG.filter s h
theorem aeL{lt:α→α→Bool}(S:SO lt)(s:α→Bool){l:List α}(nd:l.Nodup):jw lt (l.filter s)=(jw lt l).filter s:=
 Q8 S (IY S _ (nd.filter s)) (aeK s (IY S l nd)) ((x8 _).trans ((x8 l).filter s).symm)
theorem aeM(s:Lk→Bool){l R:List Lk}(h:fin l=aa R):fin (l.filter s)=aa (R.filter s):=by
 refine xA (cj h) λh1 h2=>?_;clear h;replace h2:=iJ h2;subst h2;refine xA (cg h1) λh1 h3=>?_;have e:=aeJ s l [] [] λZ Z=>A8;unfold fin;rw[e,show aX (l.filter s).length 1000 from bO (aF (wV _ _) (bc h1)),
  show aU ((dd [] l).filter s).length 64 from bO (jh (wV _ _) (bc h3)),aeL SO.link s (RG l []).2];rfl
noncomputable def dZ(p:Nat→Nat→Bool)(l:Lk):Bool:=l.all λq=>p q.1 q.2
theorem aeN(p:Nat→Nat→Bool)(l:Lk):dZ p (jw pa l)=dZ p l:=by unfold dZ;rewrite[ain];rewrite[fj];rw[fj];exact⟨λh x hx=>h x ((x8 l).mem_iff.mpr hx),λh x hx=>h x ((x8 l).mem_iff.mp hx)⟩
theorem Jv{p:Nat→Nat→Bool}{o t:Lk}{r:List Lk}(h:mV (o++t)=aa r):r.filter (dZ p)=cond (dZ p o&&dZ p t) r []:=by
 refine xA (cj h) λZ h2=>?_;clear h;replace h2:=iJ h2;subst h2;have e:dZ p (jw pa (o++t))=(dZ p o&&dZ p t):=rE (aeN ..) List.all_append
 induction q:(dZ p o&&dZ p t)with
 |true=>replace e:=q▸e;exact Bq e
 |false=>replace e:=q▸e;exact Bp (rE e f7)
theorem aeO{f:α→Option (List β)}{s:β→Bool}{k:α→Bool}:∀ {xs:List α}{R:List β},(∀x∈xs,k x=ag→∀r,f x=aa r→r.filter s=[])→cL f xs=aa R→(∀x∈xs,k x→∀r,f x=aa r→r.filter s=r)→cL f (xs.filter k)=aa (R.filter s):=by
 intro xs;induction xs with
 |nil=>intro R _ h _;replace h:=iJ h;subst h;rfl
 |cons x xs ih=>
  intro R h1 h h2;refine oE h λa e1 e2=>oE e2 λb e3 e4=>?_;replace e4:=iJ e4;subst e4;have ih:=ih (λy hy=>h1 y (cf _ hy)) e3 λy hy=>h2 y (cf _ hy);induction q:k x with
  |true=>refine rE (Bq q) (rE (wX ..) (rE (h2 x bG q a e1) ?_));show(f x).bind _=_;refine rE e1 ?_;show(cL f _).bind _=_;refine rE ih ?_;rfl
  |false=>refine rE (Bp (by refine rE q ?_;exact f7)) ?_;refine rE (wX ..) ?_;refine rE (h1 x bG q a e1) ?_;exact ih
theorem aeP{p:Nat→Nat→Bool}{os ts R:List Lk}(h:cL (λo=>cL (λt=>mV (o++t)) ts) os=aa R):cL (λo=>cL (λt=>mV (o++t)) (ts.filter (dZ p))) (os.filter (dZ p))=aa (R.filter (dZ p)):=by
 have h1:∀ {xs:List Lk}{R':List Lk},(∀o∈xs,dZ p o)→cL (λo=>cL (λt=>mV (o++t)) ts) xs=aa R'→cL (λo=>cL (λt=>mV (o++t)) (ts.filter (dZ p))) xs=aa (R'.filter (dZ p)):=λho h=>
  Js (λo hx r hr=>aeO (k:=dZ p) (λt Z q r hr=>by refine rE (Jv hr) ?_;refine rE q ?_;refine rE (ahN ..) ?_;rfl) hr λt Z q r hr=>by refine rE (Jv hr) ?_;refine rE q ?_;refine rE (ho o hx) ?_;rfl) h
 have h2:∀ {R:List Lk},cL (λo=>cL (λt=>mV (o++t)) ts) os=aa R→∃R',cL (λo=>cL (λt=>mV (o++t)) ts) (os.filter (dZ p))=aa R'∧R'.filter (dZ p)=R.filter (dZ p):=by
  clear h h1;induction os with
  |nil=>intro R h;replace h:=iJ h;subst h;exact⟨[],rfl,rfl⟩
  |cons o os ih=>
   intro R h;refine oE h λa e1 e2=>oE e2 λb e3 e4=>?_;replace e4:=iJ e4;subst e4;refine aD (ih e3) λR' f1 f2=>?_;induction q:dZ p o with
   |true=>refine rE (Bq q) ⟨a++R',?_,by refine rE (wX ..) ?_;refine rE (wX ..) ?_;exact rE f2 rfl⟩;have e1:cL (λt=>mV (o++t)) ts=aa a:=e1;show(cL _ ts).bind _=_;refine rE e1 ?_;show(cL _ _).bind _=_;refine rE f1 ?_;rfl
   |false=>
    refine rE (Bp (by refine rE q ?_;exact f7)) ?_;refine rE (wX ..) ?_;refine⟨R',f1,?_⟩;have:∀ {xs:List Lk}{r:List Lk},cL (λt=>mV (o++t)) xs=aa r→r.filter (dZ p)=[]:=by
     intro xs;induction xs with
     |nil=>intro r h;replace h:=iJ h;subst h;rfl
     |cons x xs ih=>intro r h;refine oE h λa g1 g2=>oE g2 λb g3 g4=>?_;replace g4:=iJ g4;subst g4;refine rE (wX ..) (rE (ih g3) (rE (Jv g1) (rE q (rE (ahC ..) ?_))));rfl
    refine rE (this e1) (rE f2 ?_);rfl
 exact aD (h2 h) λR' f1 f2=>rS f2 (h1 (λo ho=>(yQ.mp ho).2) f1)
set_option tactic.hygienic true in
theorem aeQ{p:Nat→Nat→Bool}(hp:∀i j,p i j=p j i)(seq:List T):base p seq=(base (λ_ _=>ae) seq).filter (dZ p):=by
 unfold base;split
 ·rfl
 ·split
  ·rfl
  ·split
   ·split
    ·split
     ·rename_i i _ j;have e:dZ p [cond (aU i j) (i,j) (j,i)]=p i j:=by
       show((p (cond _ _ _:Nat × Nat).1 (cond _ _ _:Nat × Nat).2)&&ae)=_;refine rE (EH ..) ?_;induction aU i j with
       |true=>rfl
       |false=>exact hp j i
      show _=List.filter (dZ p) [[cond (aU i j) (i,j) (j,i)]];induction q:p i j with
      |true=>replace e:=q▸e;refine rE (Bq e) ?_;rfl
      |false=>replace e:=q▸e;refine rE (Bp (by refine rE e ?_;exact f7)) ?_;rfl
     ·rfl
    ·rfl
   ·rfl
theorem RH{p:Nat→Nat→Bool}(hp:∀i j,p i j=p j i)(ring:Bool):∀ (n:Nat) (seq:List T) (R:List Lk),jx (λZ Z=>ae) ring n seq=aa R→jx p ring n seq=aa (R.filter (dZ p)):=by
 intro n;induction n with
 |zero=>exact λZ Z h=>nomatch h
 |succ n ih=>
  intro seq R h;unfold jx at h ⊢;induction q:qt seq with
  |some s=>replace h:=q▸h;exact ih _ _ h
  |none=>
   replace h:=q▸h;refine oE h λr h1 h2=>?_;have:=aeM (dZ p) h2;replace this:=(wX ..)▸this;rw[← aeQ hp]at this;refine(cA (Js (s:=dZ p) (λtk Z r hr=>?_) h1)).trans this;obtain⟨t,k⟩:=tk;induction t with
   |lf=>replace hr:=iJ hr;subst hr;rfl
   |nd m a b=>
    refine Js (λm Z r hr=>?_) hr;induction q2:(ring&& !Nat.beq (m&&&(m+1)) 0)with
    |true=>dsimp only at hr ⊢;replace hr:=iJ (q2▸hr);subst hr;rfl
    |false=>
     dsimp only at hr ⊢;replace hr:=(cond_false ..)▸q2▸hr;refine oE hr λos g1 g2=>rE (cond_false ..) (rE (ih _ _ g1) ?_);show(match os.filter (dZ p)with| []=>_|o::os=>_)=_;induction os using bj with
     |nil=>replace g2:=iJ g2;subst g2;rfl
     |cons o os=>
      refine oE g2 λts g3 g4=>?_;have e:=aeP (p:=p) g4;refine rE (ih _ _ g3) ?_;induction q3:(o::os).filter (dZ p)using bj with
      |nil=>replace e:=q3▸e;exact e
      |cons o' os'=>replace e:=q3▸e;exact e
theorem c8.mono(h:c8 k d)(hk:k≤m):c8 m d:=⟨h.c,aF h.d hk⟩
theorem Dw{l:ax}(h:∀c∈l,c<1114112)(k:Nat):c8 k (S l):=by refine⟨?_,eo _⟩;show(⟨l⟩:Array Nat).all (λc=>decide (c<0x110000));exact rS Array.all_toList (fj.mpr λc hc=>decide_eq_true (h c hc))
theorem c8.tuple{xs:List D}(h:∀x∈xs,c8 k x):c8 (k+1) (.tuple xs):=⟨(c8.all h).1,m4 (c8.all h).2⟩
theorem RJ(a b:Lk):dT (aJ a) (aJ b)=ja a b:=Jc Ra a b
theorem RK(a b:Nat):DW (a:Int) (b:Int)=((a&&&b:Nat):Int):=by unfold DW;refine rE (decide_eq_true (jd a)) (rE (decide_eq_true (jd b)) ?_);rfl
noncomputable def sz:T→Nat
 | .lf _=>1
 | .nd _ a b=>sz a+sz b+1
noncomputable def qu:T→Bool
 | .lf k=>aU k 6
 | .nd _ a b=>qu a&&qu b
noncomputable def bK:List T→Nat
 | []=>0
 |t::r=>sz t+bK r
theorem qv(a b:List T):bK (a++b)=bK a+bK b:=by
 induction a with
 |nil=>exact(lj _).symm
 |cons t a ih=>show sz t+bK (a++b)=sz t+bK a+bK b;exact rE ih (rE (Bk ..) rfl)
theorem Ay{a b:List T}(h:a.Sublist b):bK a≤bK b:=by
 induction h with
 |slnil=>exact bZ _
 |cons t _ ih=>exact aF ih (uG _ _)
 |cons_cons t _ ih=>exact qI ih _
theorem RL(t:T):1≤sz t:=by induction t with|lf=>exact bZ _|nd=>exact m4 (eo _)
theorem Az(s:List T):s.length≤bK s:=by
 induction s with
 |nil=>exact bZ _
 |cons t s ih=>have:=RL t;show s.length+1≤sz t+bK s;lia
theorem RM(t:T):c8 (sz t) (tD t):=by
 induction t with
 |lf k=>exact .int _ _
 |nd m a b kB kC=>
  refine .list λx hx=>?_;rcases bE.mp hx with rfl|hx
  ·exact Dw (λc hc=>by refine rE (dK.mp hc) ?_;induction m<;>decide) _
  ·rcases bE.mp hx with rfl|hx
   ·exact kB.mono (nh _ _)
   ·exact rE (dK.mp hx) (kC.mono (uG _ _))
structure Gd(s:List T):Prop where
 z:bK s≤12
 l:∀t∈s,qu t
theorem Gd.len{s:List T}(g:Gd s):s.length≤12:=aF (Az s) g.z
theorem Dx(r:List T)(m:Nat)(b:Bool):(sel r m b).Sublist r:=by have:=(List.filter_sublist (p:=λp:T × Nat=>cond b (bit m p.2) (!bit m p.2)) (l:=r.zipIdx)).map (·.1);rw[show(r.zipIdx.map (·.1))=r from List.zipIdx_map_fst 0 r]at this;exact this
noncomputable def cX(s:List T):D:=.list (s.map tD)
noncomputable def ik(row:ax):D:=.list (row.map λc=>S [c])
noncomputable def si:T→Bool
 | .lf _=>ag
 | .nd m _ _=> !m
theorem aeR:∀ {s:List T}{q:List T × T × T × List T},qt s=aa q→s=q.1++ .nd ag q.2.1 q.2.2.1::q.2.2.2∧∀t∈q.1,si t=ag:=by
 intro s;induction s with
 |nil=>intro q h;exact zN h
 |cons t r ih=>
  have go:∀ {q:List T × T × T × List T},si t=ag→(qt r).map (λq=>(t::q.1,q.2))=aa q→t::r=q.1++ .nd ag q.2.1 q.2.2.1::q.2.2.2∧∀t∈q.1,si t=ag:=λ{q} hp h=>by refine aD (sJ.mp h) λq' h1 e9=>?_;subst e9;refine xA (ih h1) λa b=>?_;exact⟨congrArg (t:: ·) a,λx hx=>by rcases bE.mp hx with rfl|hx;exact hp;exact b x hx⟩
  intro q h;induction t with
  |lf k=>exact go rfl h
  |nd m a b=>
   induction m with
   |true=>exact go rfl h
   |false=>replace h:=iJ h;subst h;exact⟨rfl,λZ h=>nomatch h⟩
theorem aeS:∀ {s:List T},qt s=af→∀t∈s,si t=ag:=by
 intro s;induction s with
 |nil=>exact λZ Z h=>nomatch h
 |cons t r ih=>
  intro h x hx;have h':si t=ag∧qt r=af:=by
   induction t with
   |lf k=>exact⟨rfl,aio.mp h⟩
   |nd m a b=>
    induction m with
    |true=>exact⟨rfl,aio.mp h⟩
    |false=>exact zS h
  rcases bE.mp hx with rfl|hx
  ·exact h'.1
  ·exact ih h'.2 x hx
structure DG(s:List T)(row:ax)(ring:Bool)(ρ:aM):Prop where
 oh:get ρ 47=aa (.val (cX s))
 iN:get ρ 10=aa (.val (ik row))
 yc:get ρ 48=aa (.val (.bool ring))
theorem DG.put{s:List T}{ring:Bool}{x:bA}(g:DG s row ring ρ)(h1:az i 47=ag)(h2:az i 10=ag)(h3:az i 48=ag):DG s row ring (put ρ i x):=⟨gN h1 g.oh,gN h2 g.iN,gN h3 g.yc⟩
noncomputable def RN:RE:=.and (.not (.prim .mc (.cons (.aG 47 (.var 13)) .nil))) (.cmp (.sub (.aG 47 (.var 13)) (.lit (.int 0))) (.cons .eq (.lit (.str (aj [124]))) .nil))
noncomputable def RP:RE:=.bin .add (.bin .add (.cw 47 .none (.some (.var 13)) .none) (.slice (.aG 47 (.var 13)) (.some (.lit (.int 1))) .none .none)) (.cw 47 (.some (.bin .add (.var 13) (.lit (.int 1)))) .none .none)
noncomputable def Jw:bP:=.cons (.ite RN (.cons (.fz [43] (.ret (.call 11 (.cons RP (.cons (.var 10) (.cons (.var 48) .nil)))))) .nil) .nil) .nil
theorem Dy{s:List T}{ring:Bool}{t:T}(g:DG s row ring ρ)(hs:s.length≤12)(gT:get ρ 13=aa (.val (nD k)))(ht:s[k]? =aa t):ev tok C ([]:Hs) (.aG 47 (.var 13)) ρ=aa (tD t,ae):=
 dp g.oh (aA gT) (lh (by refine rE (l8) ?_;refine rE ht ?_;rfl) (ew (px.mp ht).1 (jh hs (by decide))))
theorem RQ{s:List T}{ring:Bool}{t:T}(g:DG s row ring ρ)(hs:s.length≤12)(gT:get ρ 13=aa (.val (nD k)))(ht:s[k]? =aa t):ev tok C ([]:Hs) RN ρ=aa (.bool (si t),ae):=by
 have e:=Dy (C:=C) g hs gT ht;have en:∀ {b:Bool},yU (tD t)=aa (.bool b,ae)→ev tok C ([]:Hs) (.not (.prim .mc (.cons (.aG 47 (.var 13)) .nil))) ρ=aa (.bool (!b),ae):=λh=>W.aS (gH e h) rfl;induction t with
 |lf k=>exact(IJ (en (b:=ae) rfl) rfl).trans rfl
 |nd m a b=>exact Df (en (b:=ag) rfl) rfl (cS (tT e (aK _) rfl) (aK _) (by induction m<;>rfl))
theorem RR{s:List T}{ring:Bool}(hs:s.length≤12):∀ (ks:ax) (ρ:aM),DG s row ring ρ→(∀k∈ks,∃t,s[k]? =aa t∧si t=ag)→∃ρ',dE (dH C af (.one 13) Jw) (ks.map nD) ρ []=aa (.next ρ' [],ae)∧DG s row ring ρ':=by
 intro ks;induction ks with
 |nil=>exact λρ g Z=>⟨ρ,rfl,g⟩
 |cons k ks ih=>intro ρ g hk;refine aD (hk k bG) λt h1 h2=>?_;have g':DG s row ring (put ρ 13 (.val (nD k))):=g.put rfl rfl rfl;have e:=RQ (C:=C) g' hs gS h1;replace e:=h2▸e;exact aD (ih _ g' λx hx=>hk x (cf _ hx)) λρ' e1 g1=>⟨ρ',(oa rfl (cJ (fG e rfl jv))).trans e1,g1⟩
theorem ye(g:get ρ j=aa (.val d)):get (dX is ρ) j=aa (.val d):=by refine rE (Ao ..) (rE g ?_);rfl
theorem DG.fz{s:List T}{ring:Bool}(g:DG s row ring ρ)(is:ax):DG s row ring (dX is ρ):=⟨ye g.oh,ye g.iN,ye g.yc⟩
theorem aeT{a b:T}{pr po:List T}{ring:Bool}(hs:(pr++ .nd ag a b::po).length≤12)(g:DG (pr++ .nd ag a b::po) row ring ρ)(gT:get ρ 13=aa (.val (nD pr.length))):ev tok C ([]:Hs) RP ρ=aa (cX (pr++[a,b]++po),ae):=by
 have ht:(pr++ .nd ag a b::po)[pr.length]? =aa (.nd ag a b):=by simp
 have hl:pr.length<12:=hZ (by refine rE bt (rE bT ?_);lia) hs;have hm:((pr++ .nd ag a b::po).map tD).length≤1000000:=rE (aQ ..) (aF hs (by decide))
 have s1:ev tok C ([]:Hs) (.cw 47 .none (.some (.var 13)) .none) ρ=aa (.list (pr.map tD),ae):=by exact(jR (eK g.oh) ee (gW (aA gT)) ee (ya (ew hl (by decide)) hm)).trans (rS wW (rE (Bl rfl) rfl))
 have s2:ev tok C ([]:Hs) (.slice (.aG 47 (.var 13)) (.some (.lit (.int 1))) .none .none) ρ=aa (.list [tD a,tD b],ae):=
  W.aS (Dy g hs gT ht) (W.aS (gW (i:=((1:Nat):Int)) (aK _)) (W.aS ee (W.aS ee (wc (xs:=[S [124],tD a,tD b]) (k:=1) (by decide) (show 3≤1000000 by decide)))))
 have s3:ev tok C ([]:Hs) (.cw 47 (.some (.bin .add (.var 13) (.lit (.int 1)))) .none .none) ρ=aa (.list (po.map tD),ae):=by refine(jR (eK g.oh) (gW (i:=((pr.length+1:Nat):Int)) (bk (aA gT) (aK _) (add_n _ 1))) ee ee (wc (ew (aim hl) (by decide)) hm)).trans (rS yO (rE List.drop_append ?_));simp
 have hpo:po.length≤12:=aF (by refine rE bt (rE bT ?_);lia) hs;refine(bk (bk s1 s2 (gk (by refine rE (aQ ..) ?_;show _+2≤_;lia))) s3 (gk (by refine rE bt (rE (aQ ..) (rE (aQ ..) ?_));show _+2+_≤_;lia))).trans ?_;unfold cX;refine rE dw (rE dw ?_);rfl
theorem aeU{a b:T}{pr po:List T}{ring:Bool}{R:D}{xs:List D}(hs:(pr++ .nd ag a b::po).length≤12)(g:DG (pr++ .nd ag a b::po) row ring ρ)(hC:C 11 [cX (pr++[a,b]++po),ik row,.bool ring]=aa (R,ae)):
  dE (dH C af (.one 13) Jw) (nD pr.length::xs) ρ []=aa (.ret R [],ae):=by
 have g':DG (pr++ .nd ag a b::po) row ring (put ρ 13 (.val (nD pr.length))):=g.put rfl rfl rfl;have e:=RQ (C:=C) g' hs gS (show(pr++ .nd ag a b::po)[pr.length]? =aa (.nd ag a b)by simp);have gf:=g'.fz [43];exact Jm rfl (gX (ig e rfl (gX (show ex tok C af (.ret _) (dX [43] (put ρ 13 (.val (nD pr.length)))) []=_ from qo ((v8 (aeT hs gf (ye gS)) (aA gf.iN) (aA gf.yc)).trans hC)))))
noncomputable def oi(l:ax):Bool:=[[97,65],[65,97],[98,66],[66,98]].any λy=>lEq y l
noncomputable def mX(row:ax)(i j:Nat):Bool:=oi [row.getD i 0,row.getD j 0]
theorem yf(a b:ax):dT (S a) (S b)=lEq a b:=by
 show(aj a == aj b)=_;induction q:lEq a b with
 |true=>exact rE (lEq_iff.mp q) (beq_self_eq_true _)
 |false=>rw[beq_eq_false_iff_ne];intro e;exact zT (lEq_iff.mpr (show a=b from congrArg sL e)▸q)
noncomputable def ph:T→Bool
 | .lf _=>ag
 | .nd .. =>ae
theorem aeV:∀ {s:List T},(∀t∈s,ph t=ag)→∃ks:ax,s=ks.map .lf:=by
 intro s;induction s with
 |nil=>exact λZ=>⟨[],rfl⟩
 |cons t s ih=>
  intro h;refine xE (ih λx hx=>h x (cf _ hx)) λks e=>?_;induction t with
  |lf k=>exact⟨k::ks,congrArg (T.lf k:: ·) e⟩
  |nd=>cases h _ bG
structure pj(row:ax):Prop where
 len:row.length=6
 ch:∀c∈row,c=97∨c=98∨c=65∨c=66
theorem pj.at(h:pj row)(hk:k<6):row[k]? =aa (row.getD k 0)∧row.getD k 0<128:=by
 have hk:k<row.length:=h.len▸hk;have e:row.getD k 0=row[k]:=by refine rE (m7) ?_;refine rE (lx hk) ?_;rfl
 refine⟨by refine rE e ?_;exact rE (lx hk) rfl,?_⟩;refine rE e ?_;rcases h.ch _ (EO hk)with h|h|h|h<;>refine rE h ?_<;>decide
noncomputable def Jx:RE:=.and (.cmp (.comp [13] (.one 13) (.data (.var 47)) (.cons (.not (.prim .mc (.cons (.var 13) .nil))) .nil) .nil (.var 13)) (.cons .eq (.list .nil) .nil)) (.cmp (.prim .join (.cons (.lit (.str (aj []))) (.cons (.comp [13] (.one 13) (.data (.var 47)) .nil .nil (.aG 10 (.var 13))) .nil))) (.cons .isin (.tup (.cons (.lit (.str (aj [97,65]))) (.cons (.lit (.str (aj [65,97]))) (.cons (.lit (.str (aj [98,66]))) (.cons (.lit (.str (aj [66,98]))) .nil))))) .nil))
noncomputable def RU:RS:=.ite Jx (.cons (.app 43 (.list (.cons (.prim .sorted (.cons (.var 47) .nil)) .nil))) .nil) .nil
theorem aeW(t:T):yU (tD t)=aa (.bool (!ph t),ae):=by induction t<;>rfl
theorem eq_nil{xs:List D}(h:c9 (.list xs)):gO .eq (.list xs) (.list [])=aa (xs.isEmpty,ae):=by show W.need (Bo xs []) (c9 (.list xs)&&c9 (.list []))=_;refine rE h ?_;refine rE (show Bo xs []=xs.isEmpty by induction xs<;>rfl) ?_;rfl
theorem aeX{p:Nat→Nat→Bool}{ks:ax}(h:∀i j,ks=[i,j]→p i j=ag):base p (ks.map .lf)=[]:=by
 induction ks using bj with
 |nil=>rfl
 |cons i ks=>induction ks with
  |nil=>rfl
  |cons j ks=>induction ks with
   |nil=>show cond (p i j) _ _=_;refine rE (h i j rfl) ?_;rfl
   |cons=>rfl
theorem aeY{p:Nat→Nat→Bool}{s:List T}(h:s.filter ph≠[]):base p s=[]:=by
 induction s using bj with
 |nil=>rfl
 |cons a s=>induction s with
  |nil=>rfl
  |cons b s=>induction s with
   |nil=>cases a with
    |nd=>rfl
    |lf=>cases b with
     |nd=>rfl
     |lf=>exact absurd rfl h
   |cons=>rfl
theorem map_two{f:Nat→Nat}{ks:ax}{x y:Nat}(h:ks.map f=[x,y]):∃i j,ks=[i,j]∧x=f i∧y=f j:=by
 induction ks using bj with
 |nil=>exact zC h
 |cons i ks=>induction ks with
  |nil=>exact zC (jf h).2
  |cons j ks=>induction ks with
   |nil=>exact⟨i,j,rfl,(jf h).1.symm,(jf (jf h).2).1.symm⟩
   |cons=>exact zD (jf (jf h).2).2
theorem aeZ{l:ax}(h:oi l):∃x y,l=[x,y]∧x≠y:=by
 simp only[oi,Ez,List.any_nil,Bool.or_false,Uy,lEq_iff]at h;rcases h with h|h|h|h<;>exact⟨_,_,h.symm,by decide⟩
theorem ae0(f:α→β)(ks:List α):(ks.map λk=>[f k]).flatten=ks.map f:=by
 induction ks with
 |nil=>rfl
 |cons k ks ih=>exact congrArg _ ih
theorem ae1{s:List T}{ring:Bool}(gd:Gd s)(hr:pj row)(g:DG s row ring ρ)(tZ:get ρ 43=aa (.own [])):∃ρ',ex tok C af RU ρ []=aa (.next ρ' [],ae)∧DG s row ring ρ'∧get ρ' 43=aa (.own ((base (mX row) s).map aJ)):=by
 have hl:s.length≤1000000:=aF gd.len (by decide);have e1:ev tok C ([]:Hs) (.comp [13] (.one 13) (.data (.var 47)) (.cons (.not (.prim .mc (.cons (.var 13) .nil))) .nil) .nil (.var 13)) ρ=aa (.list ((s.filter ph).map tD),ae):=
  pb (ys:=s) (h:=tD) (g:=tD) (p:=ph) (r:=λt=>put (rem [13] ρ) 13 (.val (tD t))) (eP (aA g.oh)) (λZ Z=>rfl) (λt Z=>qr (W.aS (gH (aA gS) (aeW t)) (by cases ph t<;>rfl))) (λZ Z Z=>aA gS) hl
 have Aw:c9 (.list ((s.filter ph).map tD)):=(c8.list (k:=12) λd hd=>by
  refine aD (fk.mp hd) λt ht e9=>?_;subst e9;refine(RM t).mono ?_;have:=Ay (K2.mpr (yQ.mp ht).1);exact aF (aF (nh _ _) this) gd.z).ok (by decide)
 have e2:=cS e1 (fF (tk:=tok) (C:=C) (hs:=[]) (ρ:=ρ) di) (eq_nil Aw);by_cases hn:∀t∈s,ph t=ag
 ·refine xE (aeV hn) λks e9=>?_;subst e9;have Dz:∀k∈ks,k<6:=λk hk=>bc (gd.l _ (fk.mpr ⟨k,hk,rfl⟩));rw[aip.mpr λt ht=>by refine rE (hn t ht) ?_;exact f7]at e2;have RV:ks.length≤12:=by have:=gd.len;rwa [aQ]at this
  have e3:ev tok C ([]:Hs) (.comp [13] (.one 13) (.data (.var 47)) .nil .nil (.aG 10 (.var 13))) ρ=aa (.list ((ks.map λk=>[row.getD k 0]).map S),ae):=by
   refine(ij (ys:=ks) (h:=nD) (g:=λk=>S [row.getD k 0]) (r:=λk=>put (rem [13] ρ) 13 (.val (nD k))) (eP ((aA g.oh).trans ?_)) (λZ Z=>rfl) (λk hk=>dp (gL rfl rfl g.iN) (aA gS) (lh (by refine rE (l8) ?_;refine rE ((hr.at (Dz k hk)).1) ?_;rfl) (ew (Dz k hk) (by decide)))) (aF RV (by decide))).trans ?_
   ·unfold cX;refine rE dJ ?_;rfl
   ·refine rE dJ ?_;rfl
  have fE:=ae0 (λk=>row.getD k 0) ks;have e4:=Av (ks.map λk=>[row.getD k 0]) (by refine rE fE (rE (aQ ..) ?_);lia);replace e4:=fE▸e4;have e5:gO .isin (S (ks.map λk=>row.getD k 0)) (.tuple ([[97,65],[65,97],[98,66],[66,98]].map S))=aa (oi (ks.map λk=>row.getD k 0),ae):=by clear fE;have hx:c9 (S (ks.map λk=>row.getD k 0)):=(Dw (λc hc=>by refine aD (fk.mp hc) λk hk e9=>?_;subst e9;exact ew (hr.at (Dz k hk)).2 (by decide)) 0).ok (by decide);show W.need (([[97,65],[65,97],[98,66],[66,98]].map S).any λz=>dT z (S (ks.map λk=>row.getD k 0))) (c9 (.tuple ([[97,65],[65,97],[98,66],[66,98]].map S))&&c9 (S (ks.map λk=>row.getD k 0)))=_;refine rE hx (rE List.any_map (rE (show((λz=>dT z (S (ks.map λk=>row.getD k 0)))∘S)=λy=>lEq y (ks.map λk=>row.getD k 0)from funext λy=>yf y _) ?_));exact du _ (by kernel_rfl)
  have e6:ev tok C ([]:Hs) Jx ρ=aa (.bool (oi (ks.map λk=>row.getD k 0)),ae):=Df e2 rfl (cS (Aq (aK _) e3 e4) (tU (bI (aK _) (bI (aK _) (bI (aK _) (bI (aK _) di))))) e5);induction q:oi (ks.map λk=>row.getD k 0)with
  |false=>replace e6:=q▸e6;refine⟨ρ,fG e6 rfl jv,g,?_⟩;exact rE (aeX λi j e=>by replace q:=e▸q;exact q) tZ
  |true=>replace e6:=q▸e6;refine gy (aeZ q) λx y h1 h2=>cK (map_two h1) λi j e9 hx hy=>?_;clear h1 RV Dz hn Aw gd e1 e2 hl;clear e5 e4 fE;subst e9;have jL:i≠j:=λe=>h2 (rE hx (rE hy (rE e rfl)));have hs:=Rb (l:=[i,j]) (by simp[jL]) (show 2<64 by decide);have e7:=xX (tk:=tok) (C:=C) (CH:=af) (hs:=[]) (i:=43) (ρ:=ρ) tZ (fF (bI (gH (aA g.oh) (show gQ .sorted [cX ([i,j].map .lf)]=_ from hs)) di)) (show 0<1000000 by decide);refine⟨_,ig e6 rfl (cJ e7),g.put rfl rfl rfl,?_⟩;refine gS.trans ?_;show _=aa (bA.own ((cond (mX row i j) [[cond (aU i j) (i,j) (j,i)]] []).map aJ));refine rE (show mX row i j from q) ?_;show aa (bA.own ([]++[dQ [dQ ((cond (aU i j) [i,j] [j,i]:ax).map nD)]]))=aa (bA.own [dQ [pD (cond (aU i j) (i,j) (j,i))]]);clear e7 hs jL hy hx h2 y x e6;cases aU i j<;>rfl
 ·have bQ:(s.filter ph)≠[]:=λe=>hn λt ht=>by
   induction q:ph t with
   |false=>rfl
   |true=>exact absurd q (by have:=aip.mp e t ht;exact this)
  have e3:ev tok C ([]:Hs) Jx ρ=aa (.bool ag,ae):=by
   refine(IJ e2 rfl).trans ?_;induction q:s.filter ph using bj with
   |nil=>exact absurd q bQ
   |cons=>rfl
  refine⟨ρ,fG e3 rfl jv,g,?_⟩;exact rE (aeY bQ) tZ
theorem ae2:∀ {l:Lk},Dv l→l.Nodup:=by
 intro l;induction l with
 |nil=>exact λZ=>yF
 |cons x r ih=>
  intro h;have h:cond (r.any λy=>sd y x) ag (Dv r)=ae:=h;induction q:r.any λy=>sd y x with
  |true=>replace h:=q▸h;exact zF h
  |false=>replace h:=q▸h;refine uC.mpr ⟨λk=>?_,ih h⟩;have e:(r.any λy=>sd y x):=Vb.mpr ⟨x,k,(I9 x x).mpr rfl⟩;exact zT (e▸q)
theorem ae3{o:Lk}:∀ {ts r:List Lk},cL (λt=>mV (o++t)) ts=aa r→r=ts.map (λt=>jw pa (o++t))∧∀t∈ts,uS (aJ (o++t))=aa (aJ (jw pa (o++t)),ae)∧(o++t).length<64:=by
 intro ts;induction ts with
 |nil=>intro r h;replace h:=iJ h;subst h;exact⟨rfl,λZ h=>nomatch h⟩
 |cons t ts ih=>
  intro r h;refine oE h λa h1 h2=>oE h2 λb h3 h4=>?_;clear h2 h;replace h4:=iJ h4;subst h4;refine xA (ih h3) λe1 e2=>xA (cj h1) λh5 h6=>?_;clear h3 h1;replace h6:=iJ h6;subst h6;refine xA (cg h5) λh7 h8=>?_;have hl:(o++t).length<64:=bc h7;refine⟨by refine rE e1 ?_;rfl,λx hx=>?_⟩;rcases bE.mp hx with rfl|hx
  ·exact⟨aei (ae2 h8) hl,hl⟩
  ·exact e2 x hx
section
variable{s rest:List T}{ring:Bool}
structure DK(s:List T)(row:ax)(ring:Bool)(k:Nat)(rest:List T)(acc:List D)(ρ:aM):Prop where
 g:DG s row ring ρ
 oj:get ρ 13=aa (.val (nD k))
 AA:get ρ 49=aa (.val (cX rest))
 pk:get ρ 43=aa (.own acc)
theorem DK.put{acc:List D}{x:bA}(g:DK s row ring k rest acc ρ)(h1:az i 47=ag)(h2:az i 10=ag)(h3:az i 48=ag)(h4:az i 13=ag)(h5:az i 49=ag)(h6:az i 43=ag):DK s row ring k rest acc (put ρ i x):=
 ⟨g.g.put h1 h2 h3,gN h4 g.oj,gN h5 g.AA,gN h6 g.pk⟩
noncomputable def RW:RE:=.comp [18] (.one 18) (.data (.call 11 (.cons (.var 52) (.cons (.var 10) (.cons (.var 48) .nil))))) .nil .nil (.prim .sorted (.cons (.bin .add (.var 17) (.var 18)) .nil))
noncomputable def Jy:bP:=.cons (.ext 43 RW) .nil
theorem ae4{th:List T}{ts:List Lk}(hC:C 11 [cX th,ik row,.bool ring]=aa (.list (ts.map aJ),ae)):∀ (os R:List Lk) (acc:List D) (ρ:aM),cL (λo=>cL (λt=>mV (o++t)) ts) os=aa R→acc.length+R.length≤1000000→
  DK s row ring k rest acc ρ→get ρ 52=aa (.val (cX th))→∃ρ',dE (dH C af (.one 17) Jy) (os.map aJ) ρ []=aa (.next ρ' [],ae)∧DK s row ring k rest (acc++R.map aJ) ρ':=by
 intro os;induction os with
 |nil=>intro R acc ρ h _ g _;replace h:=iJ h;subst h;exact⟨ρ,rfl,by refine rE qT ?_;refine rE (eg ..) ?_;exact g⟩
 |cons o os ih=>
  intro R acc ρ h hl g RX;refine oE h λr h1 h2=>oE h2 λR' h3 h4=>?_;replace h4:=iJ h4;subst h4;refine xA (ae3 h1) λe1 e2=>?_;replace hl:=bt▸hl;have hr:r.length=ts.length:=rE e1 (rE (aQ ..) rfl)
  have g':DK s row ring k rest acc (put ρ 17 (.val (aJ o))):=g.put rfl rfl rfl rfl rfl rfl;have e3:ev tok C ([]:Hs) RW (put ρ 17 (.val (aJ o)))=aa (.list (r.map aJ),ae):=by
   refine(ij (ys:=ts) (h:=aJ) (g:=λt=>aJ (jw pa (o++t))) (r:=λt=>put (rem [18] (put ρ 17 (.val (aJ o)))) 18 (.val (aJ t))) (eP ((v8 (aA (gN rfl RX)) (aA g'.g.iN) (aA g'.g.yc)).trans hC)) (λZ Z=>rfl) (λt ht=>?_) (by lia)).trans ?_
   ·refine xA (e2 t ht) λq1 q2=>?_;replace q2:=bt▸q2;refine gH (bk (aA (gL rfl rfl gS)) (aA gS) (gk (by refine rE (aQ ..) (rE (aQ ..) ?_);lia))) ?_;exact rS dw q1
   ·refine rE e1 (rE dJ ?_);rfl
  obtain⟨ρ',f1,f2⟩:=ih R' (acc++r.map aJ) (put (put ρ 17 (.val (aJ o))) 43 (.own (acc++r.map aJ))) h3 (by refine rE bt (rE (aQ ..) ?_);lia) ⟨g'.g.put rfl rfl rfl,gN rfl g'.oj,gN rfl g'.AA,gS⟩ (gN rfl (gN rfl RX));exact⟨ρ',(oa rfl (cJ (Rk g'.pk e3 (by refine rE (aQ ..) ?_;lia)))).trans f1,by refine rE dw ?_;refine rS (d5 ..) ?_;exact f2⟩
noncomputable def AB(i:Int):RE:=.comp [53] (.one 53) (.dy (.bL 49)) (.cons (.cmp (.bin .band (.bin .shr (.var 50) (.var 53)) (.lit (.int 1))) (.cons .eq (.lit (.int i)) .nil)) .nil) .nil (.aG 49 (.var 53))
theorem ae5(x:Nat):x&&&1=0∨x&&&1=1:=by refine rE (Nat.and_one_is_mod ..) ?_;lia
theorem RY{acc:List D}(b:Bool)(hr:rest.length≤12)(g:DK s row ring k rest acc ρ)(h50:get ρ 50=aa (.val (nD m))):ev tok C ([]:Hs) (AB (cond b 1 0)) ρ=aa (cX (sel rest m b),ae):=by
 refine(pb (ys:=rest.zipIdx) (h:=λp=>nD p.2) (g:=λp=>tD p.1) (p:=λp=>cond b (bit m p.2) (!bit m p.2)) (r:=λp=>put (rem [53] ρ) 53 (.val (nD p.2))) ?_ (λZ Z=>rfl) (λp hp=>qr ?_) (λp hp Z=>?_) (by refine rE ER ?_;lia)).trans ?_
 ·have:=kz (C:=C) (hs:=[]) (ρ:=ρ) (e:=.bL 49) (n:=rest.length) (by have:=kx (tk:=tok) (C:=C) (hs:=[]) (eK g.AA) (pd (by refine rE (aQ ..) ?_;lia));replace this:=(aQ ..)▸this;exact this) (by lia);refine rE this (rE EN (rS (Vc ..) (rE dJ ?_)));rfl
 ·have e:ev tok C ([]:Hs) (.bin .band (.bin .shr (.var 50) (.var 53)) (.lit (.int 1))) (put (rem [53] ρ) 53 (.val (nD p.2)))=aa (nD ((m/2^p.2)&&&1),ae):=by
   refine bk (x:=nD (m/2^p.2)) (bk (aA (gL rfl rfl h50)) (aA gS) ?_) (aK _) ?_
   ·show W.need (fX ((m:Int).fdiv (2^p.2))) (decide (0≤(p.2:Int)))=_;refine rE (decide_eq_true (jd _)) (rE (show((2:Int)^p.2)=((2^p.2:Nat):Int)from(aij 2 _).symm) (rE (aii _ (jd _)) ?_));rfl
   ·show W.ret (fX (DW ((m/2^p.2:Nat):Int) ((1:Nat):Int)))=_;refine rE (RK ..) ?_;rfl
  refine cS e (aK _) ?_;unfold bit;induction b with
  |true=>show aa ((((m/2^p.2)&&&1:Nat):Int) == ((1:Nat):Int),ae)=_;refine rE (r5 ..) ?_;rfl
  |false=>
   show aa ((((m/2^p.2)&&&1:Nat):Int) == ((0:Nat):Int),ae)=_;refine rE (r5 ..) ?_;rcases ae5 (m/2^p.2)with q|q<;>refine rE q ?_<;>rfl
 ·have:=K3.mp hp;exact dp (gL rfl rfl g.AA) (aA gS) (lh (by refine rE (l8) ?_;refine rE this ?_;rfl) (ew (px.mp this).1 (by lia)))
 ·unfold sel cX;refine rE dJ ?_;rfl
noncomputable def AD:bP:=.cons (.ite (.or (.not (.var 48)) (.cmp (.bin .band (.var 50) (.bin .add (.var 50) (.lit (.int 1)))) (.cons .eq (.lit (.int 0)) .nil))) (.cons (.asg 51 (.bin .add (AB 0) (.list (.cons (.sub (.aG 47 (.var 13)) (.lit (.int 1))) .nil)))) (.cons (.asg 52 (.bin .add (.list (.cons (.sub (.aG 47 (.var 13)) (.lit (.int 2))) .nil)) (AB 1)))
 (.cons (.loop (.one 17) (.data (.call 11 (.cons (.var 51) (.cons (.var 10) (.cons (.var 48) .nil))))) Jy) .nil))) .nil) .nil
noncomputable def way(p:Nat→Nat→Bool)(ring:Bool)(n:Nat)(rest:List T)(a b:T)(m:Nat):Option (List Lk):=cond (ring&& !Nat.beq (m&&&(m+1)) 0) (aa [])
 ((jx p ring n (sel rest m ag++[a])).bind λos=>match os with
  | []=>aa []
  |o::os=>(jx p ring n (b::sel rest m ae)).bind λts=>cL (λo=>cL (λt=>mV (o++t)) ts) (o::os))
theorem ae6{w:Bool}{a b:T}(hC:∀ (u:List T) (R:List Lk),Gd u→jx (mX row) ring n u=aa R→C 11 [cX u,ik row,.bool ring]=aa (.list (R.map aJ),ae))(gd:Gd s)(hk:s[k]? =aa (.nd w a b))(hr:bK rest+sz (.nd w a b)≤12)(DB:∀t∈rest,qu t):
  ∀ (ms:ax) (R:List Lk) (acc:List D) (ρ:aM),cL (way (mX row) ring n rest a b) ms=aa R→acc.length+R.length≤1000000→DK s row ring k rest acc ρ→∃ρ',dE (dH C af (.one 50) AD) (ms.map nD) ρ []=aa (.next ρ' [],ae)∧DK s row ring k rest (acc++R.map aJ) ρ':=by
 have Dt:qu a∧qu b:=fJ.mp (gd.l _ (sI hk));have hz:bK rest+(sz a+sz b+1)≤12:=hr;have yg:rest.length≤12:=aF (Az rest) (by lia);intro ms;induction ms with
 |nil=>intro R acc ρ h _ g;replace h:=iJ h;subst h;exact⟨ρ,rfl,by refine rE qT ?_;refine rE (eg ..) ?_;exact g⟩
 |cons m ms ih=>
  intro R acc ρ h hl g;refine oE h λr h1 h2=>oE h2 λR' h3 h4=>?_;replace h4:=iJ h4;subst h4;replace hl:=bt▸hl;have g':DK s row ring k rest acc (put ρ 50 (.val (nD m))):=g.put rfl rfl rfl rfl rfl rfl;have step:∃bN,cb tok C af AD (put ρ 50 (.val (nD m))) []=aa (.next bN [],ae)∧DK s row ring k rest (acc++r.map aJ) bN:=by
   have e0:ev tok C ([]:Hs) (.cmp (.bin .band (.var 50) (.bin .add (.var 50) (.lit (.int 1)))) (.cons .eq (.lit (.int 0)) .nil)) (put ρ 50 (.val (nD m)))=aa (.bool (az (m&&&(m+1)) 0),ae):=by refine cS (x:=nD (m&&&(m+1))) (bk (aA gS) (bk (aA gS) (aK _) (add_n m 1)) ?_) (aK _) (by refine rS (r5 ..) ?_;rfl);show W.ret (fX (DW ((m:Nat):Int) ((m+1:Nat):Int)))=_;refine rE (RK ..) ?_;rfl
   have e1:ev tok C ([]:Hs) (.or (.not (.var 48)) (.cmp (.bin .band (.var 50) (.bin .add (.var 50) (.lit (.int 1)))) (.cons .eq (.lit (.int 0)) .nil))) (put ρ 50 (.val (nD m)))=aa (.bool (!(ring&& !Nat.beq (m&&&(m+1)) 0)),ae):=by
    refine(IH (d:=.bool (!ring)) (q:= !ring) (Rh (aA g'.g.yc)) rfl).trans ?_;induction ring with
    |true=>refine e0.trans ?_;cases az (m&&&(m+1)) 0<;>rfl
    |false=>rfl
   unfold way at h1;induction q:(ring&& !Nat.beq (m&&&(m+1)) 0)with
   |true=>rw[q]at h1 e1;replace h1:=iJ h1;subst h1;exact⟨_,cJ (fG e1 rfl jv),by refine rE qT ?_;refine rE (eg ..) ?_;exact g'⟩
   |false=>
    rw[q]at h1 e1;refine oE (h1:(jx _ _ _ _).bind _=_) λos f1 f2=>?_;have eY:∀b',bK (sel rest m b')≤bK rest:=λb'=>Ay (Dx rest m b');have Jz:∀b',(sel rest m b').length≤12:=λb'=>aF (Dx rest m b').length_le yg;have RZ:∀ {ρ:aM}{i:Nat}{t:T},DK s row ring k rest acc ρ→kK (tD (.nd w a b)) (nD i)=aa (tD t,ae)→ev tok C ([]:Hs) (.sub (.aG 47 (.var 13)) (.lit (nD i))) ρ=aa (tD t,ae):=λg e=>tT (Dy g.g gd.len g.oj hk) (aK _) e;have e2:ev tok C ([]:Hs) (.bin .add (AB 0) (.list (.cons (.sub (.aG 47 (.var 13)) (.lit (.int 1))) .nil))) (put ρ 50 (.val (nD m)))=aa (cX (sel rest m ag++[a]),ae):=by refine(bk (RY ag yg g' gS) (fF (bI (RZ (i:=1) g' rfl) di)) (gk (by refine rE (aQ ..) ?_;have:=Jz ag;show _+1≤_;lia))).trans ?_;unfold cX;refine rE dw ?_;rfl
    have dR:DK s row ring k rest acc (put (put ρ 50 (.val (nD m))) 51 (.val (cX (sel rest m ag++[a])))):=g'.put rfl rfl rfl rfl rfl rfl;have e3:ev tok C ([]:Hs) (.bin .add (.list (.cons (.sub (.aG 47 (.var 13)) (.lit (.int 2))) .nil)) (AB 1)) (put (put ρ 50 (.val (nD m))) 51 (.val (cX (sel rest m ag++[a]))))=aa (cX (b::sel rest m ae),ae):=
     bk (fF (bI (RZ (i:=2) dR rfl) di)) (RY ae yg dR (gN rfl gS)) (gk (by refine rE (aQ ..) ?_;have:=Jz ae;show 1+_≤_;lia))
    obtain⟨cR,DC⟩:∃cR,cR=put (put (put ρ 50 (.val (nD m))) 51 (.val (cX (sel rest m ag++[a])))) 52 (.val (cX (b::sel rest m ae))):=⟨_,rfl⟩;have iI:DK s row ring k rest acc cR:=rE (DC) (dR.put rfl rfl rfl rfl rfl rfl)
    have i51:get cR 51=aa (.val (cX (sel rest m ag++[a]))):=rE (DC) (gN rfl gS)
    have i52:get cR 52=aa (.val (cX (b::sel rest m ae))):=rE (DC) gS
    have gd1:Gd (sel rest m ag++[a]):=⟨by refine rE (qv ..) ?_;have:=eY ag;show _+(sz a+0)≤_;lia,λt ht=>(gp.mp ht).elim (λh=>DB t ((Dx rest m ag).mem h)) λh=>by refine rE (dK.mp h) ?_;exact Dt.1⟩;have gd2:Gd (b::sel rest m ae):=⟨by have:=eY ae;show sz b+_≤_;lia,λt ht=>by rcases bE.mp ht with rfl|h;exact Dt.2;exact DB t ((Dx rest m ae).mem h)⟩;have lo:∀ρ',dE (dH C af (.one 17) Jy) (os.map aJ) cR []=aa (.next ρ' [],ae)→cb tok C af AD (put ρ 50 (.val (nD m))) []=aa (.next ρ' [],ae):=λρ' e=>by refine cJ (ig e1 rfl ((bq (c7 e2)).trans ((bq (c7 e3)).trans (cJ ?_))));exact rS (DC) ((jS (eP ((v8 (aA i51) (aA iI.g.iN) (aA iI.g.yc)).trans (hC _ _ gd1 f1)))).trans e)
    induction os using bj with
    |nil=>replace f2:=iJ f2;subst f2;exact⟨cR,lo _ rfl,by refine rE qT ?_;refine rE (eg ..) ?_;exact iI⟩
    |cons o os=>exact oE f2 λts f3 f4=>aD (ae4 (hC _ _ gd2 f3) (o::os) r acc cR f4 (by lia) iI i52) λρ' d1 d2=>⟨ρ',lo _ d1,d2⟩
  refine aD step λbN s1 s2=>?_;obtain⟨ρ',d1,d2⟩:=ih R' _ bN h3 (by refine rE bt (rE (aQ ..) ?_);lia) s2;exact⟨ρ',(oa rfl s1).trans d1,by refine rE dw ?_;refine rS (d5 ..) ?_;exact d2⟩
end
noncomputable def R0:bP:=.cons (.asg 49 (.bin .add (.cw 47 (.some (.bin .add (.var 13) (.lit (.int 1)))) .none .none) (.cw 47 .none (.some (.var 13)) .none))) (.cons (.loop (.one 50) (.dy (.ite (.prim .mc (.cons (.aG 47 (.var 13)) .nil)) (.lit (.int 0)) (.bin .pow (.lit (.int 2)) (.bL 49)))) AD) .nil)
noncomputable def ae7:RE:=.comp [13] (.one 13) (.dy (.bL 43)) (.cons (.cmp (.aG 43 (.var 13)) (.cons .ix (.cw 43 .none (.some (.var 13)) .none) .nil)) .nil) .nil (.aG 43 (.var 13))
noncomputable def restOf(s:List T)(k:Nat):List T:=s.drop (k+1)++s.take k
noncomputable def R3(p:Nat→Nat→Bool)(ring:Bool)(n:Nat)(s:List T)(tk:T × Nat):Option (List Lk):=match tk.1 with
 | .lf _=>aa []
 | .nd _ a b=>cL (way p ring n (restOf s tk.2) a b) (bM (2^(restOf s tk.2).length))
theorem ae8{s:List T}{t:T}(h:s[k]? =aa t):bK (restOf s k)+sz t=bK s:=by
 refine xE (px.mp h) λhk e9=>?_;subst e9;have:s=s.take k++s[k]::s.drop (k+1):=rE (Vd ..) ((aiq k s).symm)
 conv=>rhs;rw[this]
 unfold restOf;refine rE (qv ..) (rE (qv ..) ?_);show bK _+bK _+sz _=bK _+(sz _+bK _);lia
theorem ae9:∀ (l pre:List Lk),((l.zipIdx pre.length).filter λp=> !((pre++l).take p.2).any λy=>ja y p.1).map (·.1)=dd pre l:=by
 intro l;induction l with
 |nil=>exact λZ=>rfl
 |cons x r ih=>
  intro pre;have ih:=ih (pre++[x]);replace ih:=(d5 ..)▸bt▸ih;have ih:((r.zipIdx (pre.length+1)).filter λp=> !((pre++x::r).take p.2).any λy=>ja y p.1).map (·.1)=dd (pre++[x]) r:=ih;refine rE List.zipIdx_cons (rE uH ?_);have e:(pre++x::r).take pre.length=pre:=Bl rfl;show(if(!((pre++x::r).take pre.length).any λy=>ja y x) then _ else _:List (Lk × Nat)).map (·.1)=cond (pre.any λy=>ja y x) (dd (pre++[x]) r) (x::dd (pre++[x]) r);refine rE e ?_;induction pre.any λy=>ja y x with
  |true=>exact rE (if_neg (by decide)) ih
  |false=>refine rE (if_pos (show(!false) from rfl)) (rE iS (rE ih ?_));rfl
section
variable{s:List T}{ring:Bool}
theorem afa(hC:∀ (u:List T) (R:List Lk),Gd u→jx (mX row) ring n u=aa R→C 11 [cX u,ik row,.bool ring]=aa (.list (R.map aJ),ae))(gd:Gd s):∀ (xs:List (T × Nat)) (R:List Lk) (acc:List D) (ρ:aM),(∀p∈xs,s[p.2]? =aa p.1)→cL (R3 (mX row) ring n s) xs=aa R→acc.length+R.length≤1000000→
  DG s row ring ρ→get ρ 43=aa (.own acc)→∃ρ',dE (dH C af (.one 13) R0) (xs.map λp=>nD p.2) ρ []=aa (.next ρ' [],ae)∧get ρ' 43=aa (.own (acc++R.map aJ)):=by
 intro xs;induction xs with
 |nil=>intro R acc ρ _ h _ _ g;replace h:=iJ h;subst h;exact⟨ρ,rfl,by refine rE qT ?_;refine rE (eg ..) ?_;exact g⟩
 |cons tk xs ih=>
  intro R acc ρ hx h hl g pk;obtain⟨t,k⟩:=tk;refine oE h λr h1 h2=>oE h2 λR' h3 h4=>?_;replace h4:=iJ h4;subst h4;replace hl:=bt▸hl;have ht:s[k]? =aa t:=hx (t,k) bG;have hk:k<12:=hZ (px.mp ht).1 gd.len;have hz:=ae8 ht;have hz2:=gd.z;have afb:(restOf s k).length≤12:=aF (Az _) (by lia);have g':DG s row ring (put ρ 13 (.val (nD k))):=g.put rfl rfl rfl;have hm:(s.map tD).length≤1000000:=rE (aQ ..) (aF gd.len (by decide))
  have e1:ev tok C ([]:Hs) (.bin .add (.cw 47 (.some (.bin .add (.var 13) (.lit (.int 1)))) .none .none) (.cw 47 .none (.some (.var 13)) .none)) (put ρ 13 (.val (nD k)))=aa (cX (restOf s k),ae):=by
   refine(bk (jR (eK g'.oh) (gW (i:=((k+1:Nat):Int)) (bk (aA gS) (aK _) (add_n k 1))) ee ee (wc (by lia) hm)) (jR (eK g'.oh) ee (gW (aA gS)) ee (ya (by lia) hm)) (gk ?_)).trans ?_
   ·exact rE uu (rE qG (rE (aQ ..) (Lu gd.len (by decide))))
   ·unfold cX restOf;exact rE dw (rE yO (rE wW rfl))
  have K:DK s row ring k (restOf s k) acc (put (put ρ 13 (.val (nD k))) 49 (.val (cX (restOf s k)))):=⟨g'.put rfl rfl rfl,gN rfl gS,gS,gN rfl (gN rfl pk)⟩;obtain⟨bN,R4⟩:∃bN,bN=put (put ρ 13 (.val (nD k))) 49 (.val (cX (restOf s k))):=⟨_,rfl⟩;replace K:=je (R4)▸K;have R5:=Dy (C:=C) K.g gd.len K.oj ht;have step:∃cR,ex tok C af (.loop (.one 50) (.dy (.ite (.prim .mc (.cons (.aG 47 (.var 13)) .nil)) (.lit (.int 0)) (.bin .pow (.lit (.int 2)) (.bL 49)))) AD) bN []=aa (.next cR [],ae)∧DK s row ring k (restOf s k) (acc++r.map aJ) cR:=by
   induction t with
   |lf i=>replace h1:=iJ h1;subst h1;exact⟨bN,(jS (kz (n:=0) ((qk (d:=.bool ae) (q:=ae) (gH R5 rfl) rfl).trans rfl) (by decide))).trans rfl,by refine rE qT ?_;refine rE (eg ..) ?_;exact K⟩
   |nd w a b=>obtain⟨cR,d1,d2⟩:=ae6 hC gd ht (rE hz hz2) (λt h=>gd.l t (by unfold restOf at h;exact(gp.mp h).elim U6 U5)) (bM (2^(restOf s k).length)) r acc bN h1 (by lia) K;have hp:2^(restOf s k).length≤2^12:=yP (by decide) afb;refine⟨cR,(jS (kz (IG (d:=.bool ag) (gH R5 rfl) rfl (bk (aK _) (y:=nD (restOf s k).length) ?_ (Dr 2 _ (by decide) (by lia)))) (by lia))).trans d1,d2⟩;have:=kx (tk:=tok) (C:=C) (hs:=[]) (eK K.AA) (pd (by refine rE (aQ ..) ?_;lia));rwa [aQ]at this
  refine aD step λcR s1 s2=>?_;obtain⟨ρ',d1,d2⟩:=ih R' _ cR (λp hp=>hx p (cf _ hp)) h3 (by refine rE bt (rE (aQ ..) ?_);lia) s2.g s2.pk;have st:cb tok C af R0 (put ρ 13 (.val (nD k))) []=aa (.next cR [],ae):=(bq (c7 e1)).trans (rS (R4) (cJ s1));exact⟨ρ',(oa rfl st).trans d1,by refine rE dw ?_;refine rS (d5 ..) ?_;exact d2⟩
theorem afc{l:List Lk}(tZ:get ρ 43=aa (.val (.list (l.map aJ))))(hl:l.length≤1000):ev tok C ([]:Hs) ae7 ρ=aa (.list ((dd [] l).map aJ),ae):=by
 have R6:(l.map aJ).length≤1000000:=by refine rE (aQ ..) ?_;lia
 refine(pb (ys:=l.zipIdx) (h:=λp=>nD p.2) (g:=λp=>aJ p.1) (p:=λp=> !(l.take p.2).any λy=>ja y p.1) (r:=λp=>put (rem [13] ρ) 13 (.val (nD p.2))) ?_ (λZ Z=>rfl) (λp hp=>qr ?_) (λp hp Z=>?_) (by refine rE ER ?_;lia)).trans ?_
 ·have:=kz (C:=C) (hs:=[]) (ρ:=ρ) (e:=.bL 43) (n:=l.length) (by have:=kx (tk:=tok) (C:=C) (hs:=[]) (eK tZ) (pd R6);rwa [aQ]at this) (by lia);refine rE this (rE EN (rS (Vc ..) (rE dJ ?_)));rfl
 ·have hp:=K3.mp hp;have hi:p.2<l.length:=(px.mp hp).1;have e1:ev tok C ([]:Hs) (.aG 43 (.var 13)) (put (rem [13] ρ) 13 (.val (nD p.2)))=aa (aJ p.1,ae):=dp (gL rfl rfl tZ) (aA gS) (lh (by refine rE (l8) ?_;refine rE hp ?_;rfl) (by lia));have e2:ev tok C ([]:Hs) (.cw 43 .none (.some (.var 13)) .none) (put (rem [13] ρ) 13 (.val (nD p.2)))=aa (.list ((l.take p.2).map aJ),ae):=by exact(jR (eK (gL rfl rfl tZ)) ee (gW (aA gS)) ee (ya (by lia) R6)).trans (rE wW rfl)
  exact cS e1 e2 (Jk RJ Jb (by decide) p.1 (l.take p.2))
 ·have hp:=K3.mp hp;exact dp (gL rfl rfl tZ) (aA gS) (lh (by refine rE (l8) ?_;refine rE hp ?_;rfl) (hZ (px.mp hp).1 (by lia)))
 ·have e:=ae9 l [];replace e:=(EM ..)▸e;refine rS e (rE dJ ?_);rfl
end
theorem afd(p:Nat→Nat→Bool)(ring:Bool)(n:Nat)(s:List T):jx p ring (n+1) s=match qt s with
  |some q=>jx p ring n (q.1++[q.2.1,q.2.2.1]++q.2.2.2)
  |none=>(cL (R3 p ring n s) s.zipIdx).bind λr=>fin (base p s++r):=rfl
theorem R7(hr:pj row)(ring:Bool):∀ (n:Nat) (s:List T) (R:List Lk),Gd s→jx (mX row) ring n s=aa R→run tok aH n 11 [cX s,ik row,.bool ring]=aa (.list (R.map aJ),ae):=by
 intro n;induction n with
 |zero=>exact λZ Z Z h=>nomatch h
 |succ n ih=>
  intro s R gd h;replace h:=(afd ..)▸h;have JA:DG s row ring [(47,.val (cX s)),(10,.val (ik row)),(48,.val (.bool ring))]:=⟨rfl,rfl,rfl⟩;have hlen:ev tok (run tok aH n) ([]:Hs) (.bL 47) [(47,.val (cX s)),(10,.val (ik row)),(48,.val (.bool ring))]=aa (nD s.length,ae):=by have:=kx (tk:=tok) (C:=run tok aH n) (hs:=[]) (eK JA.oh) (pd (rE (aQ ..) (aF gd.len (by decide))));rwa [aQ]at this
  have hl:=gd.len;have rg:=jS (CH:=af) (t:=.one 13) (b:=Jw) (kz hlen (by lia));have R8:∀ (i:Nat) (q:List T),(∀t∈q,si t=ag)→i≤q.length→q.length≤s.length→(∀j,j<i→s[j]? =q[j]?)→∀k∈bM i,∃t,s[k]? =aa t∧si t=ag:=λi q hq h1 h2 h3 k hk=>by have hk:=lq.mp hk;have R9:k<q.length:=hZ hk h1;exact⟨q[k],by refine rE (h3 k hk) ?_;exact rE (lx R9) rfl,hq _ (EO R9)⟩
  refine nZ (ρ:=[(47,.val (cX s)),(10,.val (ik row)),(48,.val (.bool ring))]) rfl rfl (hs:=[]) ?_;induction q:qt s with
  |some sp=>
   obtain⟨pr,a,b,po⟩:=sp;replace h:=q▸h;refine xA (aeR q) λhs hp=>?_;dsimp only at hs hp h;obtain⟨ρ',e1,dR⟩:=RR (C:=run tok aH n) (s:=s) gd.len (bM pr.length) _ JA (R8 pr.length pr hp (bZ _) (by refine rE hs (rE bt ?_);lia) λj hj=>by refine rE hs ?_;exact rE (UD hj) rfl);have eY:bK s=bK pr+(sz a+sz b+1+bK po):=by refine rE hs (rE (qv ..) ?_);rfl
   have hz:=gd.z;have JB:∀t∈pr++ .nd ag a b::po,qu t:=λt ht=>gd.l t (rE hs ht);refine xA (fJ.mp (JB (.nd ag a b) (yI _ bG))) λla lb=>?_;have gd':Gd (pr++[a,b]++po):=by
    refine⟨by refine rE (qv ..) ?_;refine rE (qv ..) ?_;show bK pr+(sz a+(sz b+0))+bK po≤12;lia,λt ht=>?_⟩;rcases gp.mp ht with ht|ht
    ·rcases gp.mp ht with ht|ht
     ·exact JB t (A7 _ ht)
     ·rcases bE.mp ht with rfl|ht
      ·exact la
      ·exact rE (dK.mp ht) lb
    ·exact JB t (yI _ (cf _ ht))
   have hC:=ih _ R gd' h;have afe:bM s.length=bM pr.length++pr.length::(bM po.length).map λx=>pr.length+1+x:=by refine rE hs (rE bt (rE bT (rE (show pr.length+(po.length+1)=pr.length+1+po.length by lia) (rE List.range_add (rE List.range_succ (rE (d5 ..) ?_))))));rfl
   have aff:DG (pr++ .nd ag a b::po) row ring ρ':=rS hs dR
   refine gX (rg.trans ?_);refine rE afe (rE dw (rE (aeo e1) ?_));exact aeU (rS hs gd.len) aff hC
  |none=>
   replace h:=q▸h;have hp:=aeS q;refine oE (h:(cL _ _).bind _=_) λr h1 h2=>xA (cj h2) λh3 h4=>?_;clear h2;replace h4:=iJ h4;subst h4;refine xA (cg h3) λh3 h5=>?_;have h3:=bc h3;have h5:(dd [] (base (mX row) s++r)).length<64:=bc h5;replace h3:=bt▸h3;obtain⟨bN,e1,dR⟩:=RR (C:=run tok aH n) (s:=s) gd.len (bM s.length) _ JA (R8 s.length s hp (bZ _) (bZ _) λZ Z=>rfl);refine(bq (rg.trans e1)).trans ((bq (show ex tok _ af (.own 43 (.list .nil)) bN []=aa (.next (put bN 43 (.own [])) [],ae)from rfl)).trans ?_);obtain⟨cR,e2,iI,pk⟩:=ae1 (C:=run tok aH n) gd hr (dR.put (i:=43) (x:=.own []) rfl rfl rfl) gS;refine(bq (show ex tok _ af RU (put bN 43 (.own [])) []=_ from e2)).trans ?_;have afg:ev tok (run tok aH n) ([]:Hs) (.bL 47) cR=aa (nD s.length,ae):=by have:=kx (tk:=tok) (C:=run tok aH n) (hs:=[]) (eK iI.oh) (pd (rE (aQ ..) (aF gd.len (by decide))));rwa [aQ]at this
   obtain⟨kc,e3,pk⟩:=afa (C:=run tok aH n) (λu R gu hu=>ih u R gu hu) gd s.zipIdx r _ cR (λp hp=>K3.mp hp) h1 (by refine rE (aQ ..) ?_;lia) iI pk;have hz:(s.zipIdx.map λp=>nD p.2)=(bM s.length).map nD:=by refine rE EN (rS (Vc ..) (rE dJ ?_));rfl
   replace e3:=hz▸e3;refine(bq ((jS (kz afg (by lia))).trans e3)).trans ?_;replace pk:=je dw▸pk;have e4:=afc (C:=run tok aH n) (ρ:=dX [43] kc) (v9 pk rfl) (rE bt h3);exact gX (show ex tok _ af (.ret _) (dX [43] kc) []=_ from qo (gH e4 (aej (RG _ []).2 h5)))
noncomputable def pl:Nat→List (List Nat)→List (Nat × List Nat)
 |_,[]=>[]
 |e,u::us=>(e+u.length - 1,u)::pl (e+u.length) us
theorem afh:∀ (l:ax) (i:Nat),bV i ag l=pl i (dG ag l)∧bV (i+1) ae l=pl i (dG ae l):=by
 intro l;induction l with
 |nil=>exact λi=>⟨rfl,rfl⟩
 |cons c cs ih=>
  intro i;constructor
  ·refine rE (EW ..) (rE (QM ..) ?_);induction az c 92 with
   |true=>exact(ih i).2
   |false=>show(i,[c])::bV (i+1) ag cs=_;refine rE ((ih (i+1)).1) ?_;rfl
  ·show(i+1,[92,c])::bV (i+1+1) ag cs=_;refine rE ((ih (i+2)).1) ?_;rfl
set_option genCtorIdx false in
inductive PI where
 |tr (t:T)
 |sgn (m:Bool)
noncomputable def JC:PI→D
 | .tr t=>tD t
 | .sgn m=>S [sg m]
noncomputable def fH(st:List PI):List D:=st.reverse.map JC
noncomputable def isLet(c:Nat):Bool:=iy (aj [c])&& !qW [(aj [40],7),(aj [41],8),(aj [42],16),(aj [124],18),(aj [44],12),(aj [92],0)] (aj [c])
noncomputable def JD(st:List PI):Option (List PI):=match st with
 | []=>af
 |x::r=>match r with
  | []=>af
  |y::q=>match q with
   | []=>af
   |z::p=>match x with
    | .sgn _=>af
    | .tr b=>match y with
     | .tr _=>af
     | .sgn m=>match z with
      | .sgn _=>af
      | .tr a=>aa (.tr (.nd m a b)::p)
noncomputable def eS(s:List Nat × List PI)(c:Nat):Option (List Nat × List PI):=cond (isLet c) (cond (aU s.1.length 6) (aa (s.1++[c],.tr (.lf s.1.length)::s.2)) af)
 (cond (az c 42) (aa (s.1,.sgn ae::s.2)) (cond (az c 124) (aa (s.1,.sgn ag::s.2)) (cond (az c 41) ((JD s.2).map λp=>(s.1,p)) (aa s))))
noncomputable def kD(s:List Nat × List PI)(u:ax):Option (List Nat × List PI):=match u with
 | []=>aa s
 |c::r=>match r with
  | []=>cond (az c 92) (aa s) (eS s c)
  |_::_=>aa s
noncomputable def bh(row:ax):List (ah × ah):=row.zipIdx.map λp=>(aj [p.1],aj (cQ (p.2:Int)))
theorem wj(row:ax):(bh row).length=row.length:=by unfold bh;exact rE (aQ ..) (rE ER rfl)
theorem afi(row:ax)(c:Nat):bh (row++[c])=bh row++[(aj [c],aj (cQ (row.length:Int)))]:=by unfold bh;refine rE List.zipIdx_append (rE dw ?_);show _++[(aj [c],aj (cQ ((0+row.length:Nat):Int)))]=_;exact rE (lj ..) rfl
noncomputable def t5:List (ah × Int):=[(aj [40],7),(aj [41],8),(aj [42],16),(aj [124],18),(aj [44],12),(aj [92],0)]
structure gm(left row:ax)(st:List PI)(e:Nat)(ρ:aM):Prop where
 wk:get ρ 20=aa (.val (S left))
 sj:get ρ 21=aa (.cU 0)
 sk:get ρ 22=aa (.fN t5)
 yh:get ρ 23=aa (.own (fH st))
 t6:get ρ 24=aa (.val (nD e))
theorem gm.put{left:ax}{st:List PI}{e:Nat}{x:bA}(g:gm left row st e ρ)(h0:az i 20=ag)(h1:az i 21=ag)(h2:az i 22=ag)(h3:az i 23=ag)(h4:az i 24=ag):gm left row st e (put ρ i x):=
 ⟨gN h0 g.wk,gN h1 g.sj,gN h2 g.sk,gN h3 g.yh,gN h4 g.t6⟩
structure AE(k place:Nat)(u:ax)(l:Bool)(v:Int)(last:Bool):Prop where
 len:u.length=1∨u.length=2
 afj:(az u.length 1&& !qW t5 (aj u))=l
 sym:cond (az u.length 2) (.int (255 - 256 * (place:Int).fmod 2)) (mi tok (aj u) (cond l (.int (256+(k:Int))) (.int 0)))=fX v
 t1:decide (v<256)= !l
 t2:decide (v≥256)=l
 t3:(v == 0)=last
 due:mi t5 (aj u) (.int v)=.int v
noncomputable def Sa:RS:=.ite (.cmp (.var 29) (.cons .ne (.list (.cons (.bin .sub (.var 24) (.lit (.int 1))) (.cons (.wY 22 (.var 26) (.var 28)) (.cons (.prim .str (.cons (.not (.var 27)) .nil)) (.cons (.prim .str (.cons (.var 27) .nil)) (.cons (.prim .str (.cons (.cmp (.var 24) (.cons .eq (.bL 20) .nil)) .nil)) .nil)))))) .nil)) (.cons (.fz [23] (.ret (.lit .none))) .nil) .nil
noncomputable def Sb:RS:=.asg 29 (.list (.cons (.var 25) (.cons (.var 28) (.cons (.prim .str (.cons (.call 2 (.cons (.var 28) .nil)) .nil)) (.cons (.prim .str (.cons (.call 3 (.cons (.var 28) .nil)) .nil)) (.cons (.prim .str (.cons (.call 4 (.cons (.var 28) .nil)) .nil)) .nil))))))
noncomputable def yi(q:bP):bP:=.cons (.aug 24 .add (.bL 26)) (.cons (.asg 27 (.and (.cmp (.bL 26) (.cons .eq (.lit (.int 1)) .nil)) (.uL (.var 26) 22))) (.cons (.asg 28 (.tok (.var 26) (.ite (.var 27) (.bin .add (.lit (.int 256)) (.prim .len (.cons (.mf 21) .nil))) (.lit (.int 0)))))
 (.cons (.asg 28 (.ite (.cmp (.bL 26) (.cons .eq (.lit (.int 2)) .nil)) (.bin .sub (.lit (.int 255)) (.bin .mul (.lit (.int 256)) (.bin .mod (.var 25) (.lit (.int 2))))) (.var 28))) (.cons Sb (.cons Sa q)))))
theorem wo(b:Bool):c8 0 (S (bS b)):=Dw (λc hc=>by induction b<;>(revert c;decide)) 0
section
variable{left:ax}{st:List PI}
theorem afk{e:Nat}{u:ax}{l last:Bool}{v:Int}(I:gm left row st e ρ)(K:AE row.length (e+u.length - 1) u l v last)(JE:az (e+u.length) left.length=last)(hl:left.length≤1000)(hr:row.length≤6)(q:bP):
  ∃ρ',(∀m,cb tok (run tok aH (n+1)) CH q ρ' [bh row]=m→cb tok (run tok aH (n+1)) CH (yi q) (put (put ρ 25 (.val (nD (e+u.length - 1)))) 26 (.val (S u))) [bh row]=m)∧gm left row st (e+u.length) ρ'∧get ρ' 26=aa (.val (S u))∧get ρ' 27=aa (.val (.bool l))∧get ρ' 28=aa (.val (.int v)):=by
 have hu2:1≤u.length∧u.length≤2:=by rcases K.len with h|h<;>refine rE h ?_<;>decide
 obtain⟨p,hp⟩:∃p,p=e+u.length - 1:=⟨_,rfl⟩;have hpe:p+1=e+u.length:=by lia
 have wq:gm left row st e (put (put ρ 25 (.val (nD (e+u.length - 1)))) 26 (.val (S u))):=(I.put rfl rfl rfl rfl rfl).put rfl rfl rfl rfl rfl;have JF:get (put (put ρ 25 (.val (nD (e+u.length - 1)))) 26 (.val (S u))) 25=aa (.val (nD p)):=rE hp (gN rfl gS)
 have DD:get (put (put ρ 25 (.val (nD (e+u.length - 1)))) 26 (.val (S u))) 26=aa (.val (S u)):=gS;revert wq JF DD;generalize put (put ρ 25 (.val (nD (e+u.length - 1)))) 26 (.val (S u))=ρ₀;intro wq JF DD;have vl:∀ {ρ:aM}{hs:Hs},get ρ 26=aa (.val (S u))→ev tok (run tok aH (n+1)) hs (.bL 26) ρ=aa (nD u.length,ae):=λg=>kx (eK g) (Dk u (by lia));have vq:∀ {ρ:aM}{hs:Hs} (j:Nat),get ρ 26=aa (.val (S u))→ev tok (run tok aH (n+1)) hs (.cmp (.bL 26) (.cons .eq (.lit (nD j)) .nil)) ρ=aa (.bool (az u.length j),ae):=λj g=>cS (vl g) (aK _) (by refine rS (r5 ..) ?_;rfl);have e1:=Di (C:=run tok aH (n+1)) (CH:=CH) (tk:=tok) (hs:=[bh row]) (op:=.add) (e:=.bL 26) wq.t6 rfl (vl DD) (add_n e u.length);obtain⟨bN,h₁⟩:∃bN,bN=put ρ₀ 24 (.val (nD (e+u.length))):=⟨_,rfl⟩;have dn:gm left row st (e+u.length) bN:=rE h₁ ⟨gN rfl wq.wk,gN rfl wq.sj,gN rfl wq.sk,gN rfl wq.yh,gS⟩
 have j25:get bN 25=aa (.val (nD p)):=rE h₁ (gN rfl JF)
 have JG:get bN 26=aa (.val (S u)):=rE h₁ (gN rfl DD)
 replace e1:=h₁.symm▸e1;have e2:ev tok (run tok aH (n+1)) [bh row] (.and (.cmp (.bL 26) (.cons .eq (.lit (.int 1)) .nil)) (.uL (.var 26) 22)) bN=aa (.bool l,ae):=by
  refine(IJ (vq 1 JG) rfl).trans (rS K.afj ?_);induction az u.length 1 with
  |false=>rfl
  |true=>show(oI bN 22).bind _=_;refine rE (show oI bN 22=aa t5 by unfold oI;refine rE dn.sk ?_;rfl) ?_;exact W.aS (aA JG) rfl
 obtain⟨cR,ey⟩:∃cR,cR=put bN 27 (.val (.bool l)):=⟨_,rfl⟩;have gC:gm left row st (e+u.length) cR:=rE ey (dn.put rfl rfl rfl rfl rfl)
 have k25:get cR 25=aa (.val (nD p)):=rE ey (gN rfl j25)
 have Sd:get cR 26=aa (.val (S u)):=rE ey (gN rfl JG)
 have Se:get cR 27=aa (.val (.bool l)):=rE ey gS
 obtain⟨d0,cx⟩:∃d0,d0=mi tok (aj u) (cond l (.int (256+(row.length:Int))) (.int 0)):=⟨_,rfl⟩;have e3:ev tok (run tok aH (n+1)) [bh row] (.tok (.var 26) (.ite (.var 27) (.bin .add (.lit (.int 256)) (.prim .len (.cons (.mf 21) .nil))) (.lit (.int 0)))) cR=aa (d0,ae):=by
  have hk:ev tok (run tok aH (n+1)) [bh row] (.mf 21) cR=aa (.list ((bh row).map λp=>.str p.1),ae):=by show(ml [bh row] cR 21).bind _=_;refine rE (show ml [bh row] cR 21=aa (bh row)by unfold ml;refine rE (xW gC.sj) ?_;rfl) ?_;exact du _ (bO (by refine rE (wj ..) ?_;lia))
  refine rE cx (adA (aA Sd) ((qk (aA Se) rfl).trans ?_));induction l with
  |false=>rfl
  |true=>refine bk (aK _) (y:=nD row.length) (gH hk ?_) rfl;have:=pd (xs:=(bh row).map λp=>uA p.1) (by refine rE (aQ ..) (rE (wj ..) ?_);lia);replace this:=(wj ..)▸(aQ ..)▸this;exact this
 obtain⟨kc,kX⟩:∃kc,kc=put cR 28 (.val d0):=⟨_,rfl⟩;have pT:gm left row st (e+u.length) kc:=rE kX (gC.put rfl rfl rfl rfl rfl)
 have Sg:get kc 25=aa (.val (nD p)):=rE kX (gN rfl k25)
 have Sh:get kc 26=aa (.val (S u)):=rE kX (gN rfl Sd)
 have l27:get kc 27=aa (.val (.bool l)):=rE kX (gN rfl Se)
 have l28:get kc 28=aa (.val d0):=rE kX gS
 have e4:ev tok (run tok aH (n+1)) [bh row] (.ite (.cmp (.bL 26) (.cons .eq (.lit (.int 2)) .nil)) (.bin .sub (.lit (.int 255)) (.bin .mul (.lit (.int 256)) (.bin .mod (.var 25) (.lit (.int 2))))) (.var 28)) kc=aa (.int v,ae):=by
  refine(qk (vq 2 Sh) rfl).trans ?_;have hv:=K.sym;replace hv:=cx.symm▸hp.symm▸hv;induction q:az u.length 2 with
  |true=>replace hv:=q▸hv;exact rS (fX.inj hv) (bk (aK _) (bk (aK _) (bk (aA Sg) (aK _) rfl) (du _ rfl)) rfl)
  |false=>replace hv:=q▸hv;have hv:d0=.int v:=hv;exact rS hv (aA l28:ev tok (run tok aH (n+1)) [bh row] _ _=_)
 obtain⟨kE,oU⟩:∃kE,kE=put kc 28 (.val (.int v)):=⟨_,rfl⟩;have rO:gm left row st (e+u.length) kE:=rE oU (pT.put rfl rfl rfl rfl rfl)
 have m25:get kE 25=aa (.val (nD p)):=rE oU (gN rfl Sg)
 have Si:get kE 26=aa (.val (S u)):=rE oU (gN rfl Sh)
 have JH:get kE 27=aa (.val (.bool l)):=rE oU (gN rfl l27)
 have yj:get kE 28=aa (.val (.int v)):=rE oU gS
 obtain⟨L,hL⟩:∃L,L=dQ [nD p,.int v,S (bS (!l)),S (bS l),S (bS last)]:=⟨_,rfl⟩;have e5:ex tok (run tok aH (n+1)) CH Sb kE [bh row]=aa (.next (put kE 29 (.val L)) [bh row],ae):=by refine c7 (rE hL (rS K.t1 (rS K.t2 (rS K.t3 ?_))));exact fF (bI (aA m25) (bI (aA yj) (bI (gH ((qm (aA yj)).trans (adD n v)) (str_bool _)) (bI (gH ((qm (aA yj)).trans (adE n v)) (str_bool _)) (bI (gH ((qm (aA yj)).trans (adF n v)) (str_bool _)) di)))))
 have vC:gm left row st (e+u.length) (put kE 29 (.val L)):=rO.put rfl rfl rfl rfl rfl;have e6:ex tok (run tok aH (n+1)) CH Sa (put kE 29 (.val L)) [bh row]=aa (.next (put kE 29 (.val L)) [bh row],ae):=by
  have hd:ev tok (run tok aH (n+1)) [bh row] (.wY 22 (.var 26) (.var 28)) (put kE 29 (.val L))=aa (.int v,ae):=by show(oI _ 22).bind _=_;refine rE (show oI (put kE 29 (.val L)) 22=aa t5 by unfold oI;refine rE vC.sk ?_;rfl) ?_;refine W.aS (aA (gN rfl Si)) (W.aS (aA (gN rfl yj)) ?_);show W.ret (mi t5 (aj u) (.int v))=_;refine rE K.due ?_;rfl
  have hlen:ev tok (run tok aH (n+1)) [bh row] (.cmp (.var 24) (.cons .eq (.bL 20) .nil)) (put kE 29 (.val L))=aa (.bool last,ae):=cS (aA vC.t6) (kx (eK vC.wk) (Dk left (by lia))) (by refine rS JE (rS (r5 ..) ?_);rfl);have hs:c9 L:=by
   refine rE hL ((c8.list (k:=0) λx hx=>?_).ok (by decide));rcases bE.mp hx with rfl|hx
   ·exact .int _ _
   ·rcases bE.mp hx with rfl|hx
    ·exact .int _ _
    ·rcases bE.mp hx with rfl|hx
     ·exact wo _
     ·rcases bE.mp hx with rfl|hx
      ·exact wo _
      ·exact rE (dK.mp hx) (wo _)
  have heq:gO .ne L L=aa (ag,ae):=by
   have:wZ L L=aa (ae,ae):=by rw[hL]at hs ⊢;show W.need (dT _ _) (c9 _&&c9 _)=_;refine rE hs (rE (SeqAt.eqv_refl _ (D8 hs)) ?_);rfl
   show sU (wZ L L)=_;refine rE this ?_;rfl
  refine fG (cS (aA gS) ?_ heq) rfl jv;refine Eq.trans (b:=aa (dQ [nD p,.int v,S (bS (!l)),S (bS l),S (bS last)],ae)) ?_ (rE hL rfl);exact fF (bI (bk (aA vC.t6) (aK _) (rS hpe (Rj (b:=1) (uG 1 p)))) (bI hd (bI (gH (Rh (aA (gN rfl JH))) (str_bool _)) (bI (gH (aA (gN rfl JH)) (str_bool _)) (bI (gH hlen (str_bool _)) di)))))
 refine⟨put kE 29 (.val L),λm h=>?_,vC,gN rfl Si,gN rfl JH,gN rfl yj⟩;refine(bq e1).trans ((bq (c7 e2)).trans ?_);exact rS ey ((bq (c7 e3)).trans (rS kX ((bq (c7 e4)).trans (rS oU ((bq e5).trans ((bq e6).trans h))))))
end
inductive Kd:List Nat→Bool→Prop
 |lt (c:Nat):(c=97∨c=98∨c=65∨c=66∨c=9∨c=11∨c=127)→Kd [c] ag
 |sn (c:Nat):(c=40∨c=44∨c=41∨c=42∨c=124)→Kd [c] ag
 |Sj (x:Nat):Kd [92,x] ag
 |fin:Kd [92] ae
theorem afl{c:Nat}(h:c=97∨c=98∨c=65∨c=66∨c=9∨c=11∨c=127)(k p:Nat):AE k p [c] ae (256+(k:Int)) ag:=by
 have t1:decide (256+(k:Int)<256)=ag:=decide_eq_false (by lia);have t2:decide (256+(k:Int)≥256):=decide_eq_true (by lia);have t3:(256+(k:Int) == 0)=ag:=by rw[beq_eq_false_iff_ne];lia
 rcases h with rfl|rfl|rfl|rfl|rfl|rfl|rfl<;>exact⟨.inl rfl,rfl,by kernel_rfl,t1,t2,t3,rfl⟩
theorem afm(x k p:Nat):AE k p [92,x] ag (255 - 256 * (p:Int).fmod 2) ag:=by
 have h:(p:Int).fmod 2=0∨(p:Int).fmod 2=1:=by refine rE (EP _ (by decide)) ?_;lia
 refine⟨.inr rfl,rfl,rfl,?_,?_,?_,rfl⟩<;>rcases h with h|h<;>refine rE h ?_<;>rfl
noncomputable def Sk:RE:=.bin .add (.cw 23 .none (.some (.lit (.int (-3)))) .none) (.list (.cons (.list (.cons (.aG 23 (.lit (.int (-2)))) (.cons (.aG 23 (.lit (.int (-3)))) (.cons (.aG 23 (.lit (.int (-1)))) .nil)))) .nil))
noncomputable def DE:bP:=.cons (.ite (.cmp (.var 28) (.cons .isin (.tup (.cons (.lit (.int 16)) (.cons (.lit (.int 18)) .nil))) .nil)) (.cons (.app 23 (.ite (.cmp (.var 28) (.cons .eq (.lit (.int 16)) .nil)) (.lit (.str (aj [42]))) (.lit (.str (aj [124]))))) .nil) (.cons (.ite (.cmp (.var 28) (.cons .eq (.lit (.int 8)) .nil)) (.cons (.own 23 Sk) .nil) .nil) .nil)) .nil
noncomputable def AF:RS:=.yT 21 (.var 26) (.prim .str (.cons (.bin .sub (.var 28) (.lit (.int 256))) .nil)) 23 (.bin .sub (.var 28) (.lit (.int 256)))
noncomputable def om:bP:=.cons (.ite (.var 27) (.cons AF .nil) DE) .nil
theorem yl(x:PI)(st:List PI):fH (x::st)=fH st++[JC x]:=by unfold fH;refine rE air (rE dw ?_);rfl
theorem Sl:∀k:Nat,k<7→keyOk (aj (cQ (k:Int)))∧gQ .str [nD k]=aa (S (cQ (k:Int)),ae):=by
 have h1:∀k:Nat,k<7→keyOk (aj (cQ (k:Int))):=by decide+kernel
 exact λk hk=>⟨h1 k hk,du _ (bO (ew hk (by decide)))⟩
section
variable{g:nC}{left:ax}{st:List PI}{e:Nat}
theorem afn{c:Nat}{s':List Nat × List PI}(hc:c=97∨c=98∨c=65∨c=66∨c=9∨c=11∨c=127)(I:gm left row st e ρ)(CF:get ρ 26=aa (.val (S [c])))(rQ:get ρ 27=aa (.val (.bool ae)))(oX:get ρ 28=aa (.val (.int (256+(row.length:Int)))))
  (cz:st.length<1000) (hr:row.length≤6) (h:kD (row,st) [c]=aa s'):∃ρ',cb tok (run tok aH (n+1)) (aa g) om ρ [bh row]=aa (.next ρ' [bh s'.1],ae)∧gm left s'.1 s'.2 e ρ':=by
 refine xA (Sl row.length (EL hr)) λk1 k2=>?_;have Sm:∀ {ρ:aM}{hs:Hs},get ρ 28=aa (.val (.int (256+(row.length:Int))))→ev tok (run tok aH (n+1)) hs (.bin .sub (.var 28) (.lit (.int 256))) ρ=aa (nD row.length,ae):=λh=>bk (aA h) (aK _) (by show W.ret (fX (256+(row.length:Int) - 256))=_;refine rE (show(256+(row.length:Int) - 256)=(row.length:Int)by lia) ?_;rfl);have ka:mh [c]:=by rcases hc with rfl|rfl|rfl|rfl|rfl|rfl|rfl<;>rfl
 have pre:∀ {r:W Fl},cond (iy (aj [c])) ((nB ρ 23).bind λxs=>W.bind (ev tok (run tok aH (n+1)) (setAt (bh row++[(aj [c],aj (cQ (row.length:Int)))]) 0 [bh row]) (.bin .sub (.var 28) (.lit (.int 256))) ρ) λz=>W.bind (W.need () (aU xs.length 1000000)) λZ=>W.ret (.next (put ρ 23 (.own (xs++[z]))) (setAt (bh row++[(aj [c],aj (cQ (row.length:Int)))]) 0 [bh row])))
    (W.bind (W.need () (az (sL (aj [c])).length 1)) λZ=>W.ret (.next ρ [bh row]))=r→cb tok (run tok aH (n+1)) (aa g) om ρ [bh row]=W.bind r λfl=>match fl with| .next ρ' hs'=>cb tok (run tok aH (n+1)) (aa g) .nil ρ' hs'| .ret d hs'=>W.ret (.ret d hs'):=λ{r} lQ=>by
  have e0:ex tok (run tok aH (n+1)) (aa g) AF ρ [bh row]=r:=by refine(cA (xW I.sj)).trans ((cA (m:=([bh row]:Hs)[0]?) rfl).trans ?_);show W.bind (ev tok _ _ (.var 26) ρ) _=_;refine rE (aA CF) (rE (lV ..) ?_);show W.bind (ev tok _ _ (.prim .str _) ρ) _=_;refine rE (gH (Sm oX) k2) (rE (lV ..) ?_);refine(cA (m:=dD (S [c])) rfl).trans ((cA (m:=dD (S (cQ (row.length:Int)))) rfl).trans ?_);show W.bind (W.need () (mh [c]&&keyOk (aj (cQ (row.length:Int)))&&aU (bh row).length 1000000)) _=_;refine rE ka (rE k1 (rE (wj ..) (rE (show aU row.length 1000000 from bO (jh hr (by decide))) ?_)));show W.bind (aa ((),ae)) _=_;exact rE (lV ..) lQ
  have e1:ex tok (run tok aH (n+1)) (aa g) (.ite (.var 27) (.cons AF .nil) DE) ρ [bh row]=_:=ig (aA rQ) rfl rfl;show W.bind (ex tok _ _ (.ite (.var 27) (.cons AF .nil) DE) ρ [bh row]) _=_;refine rE e1 ?_;show W.bind (W.bind (ex tok _ _ AF ρ [bh row]) _) _=_;refine rE e0 ?_;induction r with
  |none=>rfl
  |some q=>obtain⟨fl,b⟩:=q;induction fl<;>induction b<;>rfl
 induction q:iy (aj [c])with
 |false=>
  rw[q]at pre;have hs:kD (row,st) [c]=aa (row,st):=by rcases hc with rfl|rfl|rfl|rfl|rfl|rfl|rfl<;>first| (cases q;done)|rfl
  replace h:=iJ (hs▸h);subst h;exact⟨ρ,(pre rfl).trans rfl,I⟩
 |true=>
  rw[q]at pre;have hs:kD (row,st) [c]=cond (aU row.length 6) (aa (row++[c],.tr (.lf row.length)::st)) af:=by
   have:isLet c∧az c 92=ag:=by rcases hc with rfl|rfl|rfl|rfl|rfl|rfl|rfl<;>first| (cases q;done)|exact⟨rfl,rfl⟩
   show cond (az c 92) _ (cond (isLet c) (cond (aU row.length 6) _ _) _)=_;refine rE this.1 (rE this.2 ?_);rfl
  replace h:=hs▸h;cases (cj h).2;have hl:(fH st).length<1000000:=by unfold fH;exact rE (aQ ..) (rE K4 (ew cz (by decide)))
  refine⟨put ρ 23 (.own (fH st++[nD row.length])),(pre ((cA (Ap I.yh)).trans (W.aS (Sm oX) (W.aS (du () (bO hl)) rfl)))).trans ?_,⟨gN rfl I.wk,gN rfl I.sj,gN rfl I.sk,by refine rE (yl ..) ?_;exact gS,gN rfl I.t6⟩⟩;refine rE (lV ..) (rE (afi ..) ?_);rfl
theorem Sn{st p:List PI}(h:JD st=aa p):∃a b m r,st=.tr b:: .sgn m:: .tr a::r∧p=.tr (.nd m a b)::r:=by
 induction st using bj with
 |nil=>exact zN h
 |cons x st=>induction st using bj with
  |nil=>induction x<;>exact zN h
  |cons y st=>induction st using bj with
   |nil=>induction x<;>induction y<;>exact zN h
   |cons z r=>induction x with
    |sgn=>exact zN h
    |tr b=>induction y with
     |tr=>exact zN h
     |sgn m=>induction z with
      |sgn=>exact zN h
      |tr a=>replace h:=iJ h;subst h;exact⟨a,b,m,r,rfl,rfl⟩
theorem afo{a b:T}{m:Bool}{r:List PI}(hr:r.length<1000)(h:get ρ 23=aa (.own (fH (.tr b:: .sgn m:: .tr a::r)))):ev tok C hs Sk ρ=aa (.list (fH (.tr (.nd m a b)::r)),ae):=by
 have e:fH (.tr b:: .sgn m:: .tr a::r)=fH r++[tD a,S [sg m],tD b]:=by refine rE (yl ..) (rE (yl ..) (rE (yl ..) (rE (d5 ..) (rE (d5 ..) ?_))));rfl
 have hl:(fH r).length=r.length:=by unfold fH;exact rE (aQ ..) (rE K4 rfl)
 have xK:(fH r++[tD a,S [sg m],tD b]).length=r.length+3:=by refine rE bt (rE hl ?_);rfl
 replace h:=e▸h;have g:=IF h;have s1:ev tok C hs (.cw 23 .none (.some (.lit (.int (-3)))) .none) ρ=aa (.list (fH r),ae):=by refine(jR g ee (gW (i:=(-3)) (aK _)) ee (y:=.list (fH r)) ?_);show W.need (dQ (((fH r++[tD a,S [sg m],tD b]).take ((fH r++[tD a,S [sg m],tD b]).length - (2+1))).drop 0)) (ae&&ae&&aX (fH r++[tD a,S [sg m],tD b]).length big)=_;refine rE xK (rE Kk (rE (Bl (by refine rE hl ?_;rfl)) ?_));exact du _ (bO (aF (Ve (d4 hr) 3:r.length+3≤1003) (by decide)))
 have sb:∀ (k:Nat) (d:D),k<3→[tD a,S [sg m],tD b][2 - k]? =aa d→ev tok C hs (.aG 23 (.lit (.int (qC k)))) ρ=aa (d,ae):=λk d hk hd=>by
  refine(cA g).trans (W.aS (aK _) ?_);show(place (fH r++[tD a,S [sg m],tD b]).length (qC k)).bind _=_;rw[xK,show place (r.length+3) (qC k)=aa (r.length+(2 - k))by
   show cond (aX (k+1) (r.length+3)) _ _=_;refine rE (bO (aF hk (uG ..))) ?_;exact congrArg aa ((Nat.add_sub_assoc hk r.length).trans (congrArg (r.length+ ·) (Nat.add_sub_add_right 2 1 k)))]
  show((fH r++[tD a,S [sg m],tD b])[r.length+(2 - k)]?).bind _=_;refine rE (yJ (by refine rE hl ?_;lia)) ?_;refine rE hl (rE (ais ..) (rE hd ?_));exact du _ (rE (show(qC k).natAbs=k+1 from rfl) (bO (by lia)))
 refine(bk s1 (fF (bI (fF (bI (sb 1 _ (by decide) rfl) (bI (sb 2 _ (by decide) rfl) (bI (sb 0 _ (by decide) rfl) di)))) di)) (gk (by refine rE hl ?_;show _+1≤_;lia))).trans ?_;refine rE (yl ..) ?_;rfl
theorem afp{u:ax}{v:Int}{s':List Nat × List PI}(I:gm left row st e ρ)(rQ:get ρ 27=aa (.val (.bool ag)))(oX:get ρ 28=aa (.val (.int v)))(cz:st.length<1000)
  (h:kD (row,st) u=aa s') (hv:(v=16∧u=[42])∨(v=18∧u=[124])∨(v=8∧u=[41])∨(v≠16∧v≠18∧v≠8∧s'=(row,st))):∃ρ',cb tok (run tok aH (n+1)) (aa g) om ρ [bh row]=aa (.next ρ' [bh s'.1],ae)∧gm left s'.1 s'.2 e ρ':=by
 have hl:(fH st).length<1000000:=by unfold fH;exact rE (aQ ..) (rE K4 (ew cz (by decide)))
 have go:∀ {ρ'},cb tok (run tok aH (n+1)) (aa g) DE ρ [bh row]=aa (.next ρ' [bh row],ae)→cb tok (run tok aH (n+1)) (aa g) om ρ [bh row]=aa (.next ρ' [bh row],ae):=λh=>cJ (fG (aA rQ) rfl h);have i1:∀ {b:Bool},gO .isin (.int v) (.tuple [.int 16,.int 18])=aa (b,ae)→ev tok (run tok aH (n+1)) [bh row] (.cmp (.var 28) (.cons .isin (.tup (.cons (.lit (.int 16)) (.cons (.lit (.int 18)) .nil))) .nil)) ρ=aa (.bool b,ae):=λh=>cS (aA oX) (tU (bI (aK _) (bI (aK _) di))) h;have ap:∀ {m:Bool},ev tok (run tok aH (n+1)) [bh row] (.ite (.cmp (.var 28) (.cons .eq (.lit (.int 16)) .nil)) (.lit (.str (aj [42]))) (.lit (.str (aj [124])))) ρ=aa (S [sg m],ae)→gO .isin (.int v) (.tuple [.int 16,.int 18])=aa (ae,ae)→s'=(row,.sgn m::st)→∃ρ',cb tok (run tok aH (n+1)) (aa g) om ρ [bh row]=aa (.next ρ' [bh s'.1],ae)∧gm left s'.1 s'.2 e ρ':=λ{m} h1 h2 h3=>by clear rQ;subst h3;exact⟨_,go (cJ (ig (i1 h2) rfl (cJ (xX I.yh h1 hl)))),⟨gN rfl I.wk,gN rfl I.sj,gN rfl I.sk,by refine rE (yl ..) ?_;exact gS,gN rfl I.t6⟩⟩
 rcases hv with⟨rfl,rfl⟩| ⟨rfl,rfl⟩| ⟨rfl,rfl⟩| ⟨h1,h2,h3,rfl⟩
 ·clear hl rQ;replace h:=iJ h;subst h;exact ap (m:=ae) ((qk (cS (aA oX) (aK _) rfl) rfl).trans rfl) (by kernel_rfl) rfl
 ·clear hl rQ;replace h:=iJ h;subst h;exact ap (m:=ag) ((qk (cS (aA oX) (aK _) rfl) rfl).trans rfl) (by kernel_rfl) rfl
 ·clear ap hl rQ;refine aD (sJ.mp (h:(JD st).map _=_)) λp hp e9=>?_;subst e9;refine BA (Sn hp) λa b m r e9 bC=>?_;subst e9;subst bC;have e1:=afo (C:=run tok aH (n+1)) (hs:=[bh row]) (by replace cz:=bT▸bT▸bT▸cz;lia) I.yh;refine⟨_,go (cJ (fG (i1 (b:=ag) (by kernel_rfl)) rfl (cJ (ig (cS (aA oX) (aK _) rfl) rfl (cJ (W.aS e1 rfl)))))),⟨gN rfl I.wk,gN rfl I.sj,gN rfl I.sk,gS,gN rfl I.t6⟩⟩
 ·have f:∀ {x:Int},v≠x→(v == x)=ag:=λh=>by rw[beq_eq_false_iff_ne];exact h
  have e1:gO .isin (.int v) (.tuple [.int 16,.int 18])=aa (ag,ae):=by show W.need ((16 == v)||((18 == v)||false)) _=_;refine rE (show((16:Int) == v)=ag by rw[beq_eq_false_iff_ne];exact h1.symm) (rE (show((18:Int) == v)=ag by rw[beq_eq_false_iff_ne];exact h2.symm) ?_);rfl
  have e2:ev tok (run tok aH (n+1)) [bh row] (.cmp (.var 28) (.cons .eq (.lit (.int 8)) .nil)) ρ=aa (.bool ag,ae):=cS (aA oX) (aK _) (by show aa (v == 8,ae)=_;exact rE (f h3) rfl);exact⟨ρ,go (cJ (fG (i1 e1) rfl (cJ (fG e2 rfl jv)))),I⟩
theorem So{u:ax}{last:Bool}{s':List Nat × List PI}(K:Kd u last)(I:gm left row st e ρ)(JE:az (e+u.length) left.length=last)(hl:left.length≤1000)(hr:row.length≤6)(cz:st.length<1000)(h:kD (row,st) u=aa s'):
  ∃ρ',dH (run tok aH (n+1)) (aa g) (.two 25 26) (yi om) (uD (e+u.length - 1,u)) ρ [bh row]=aa (.next ρ' [bh s'.1],ae)∧gm left s'.1 s'.2 (e+u.length) ρ':=by
 have hb:eU (.two 25 26) (uD (e+u.length - 1,u)) ρ=aa (put (put ρ 25 (.val (nD (e+u.length - 1)))) 26 (.val (S u))):=rfl;have key:∀ {l:Bool}{v:Int},AE row.length (e+u.length - 1) u l v last→(∀bN,gm left row st (e+u.length) bN→get bN 26=aa (.val (S u))→get bN 27=aa (.val (.bool l))→get bN 28=aa (.val (.int v))→∃ρ',cb tok (run tok aH (n+1)) (aa g) om bN [bh row]=aa (.next ρ' [bh s'.1],ae)∧gm left s'.1 s'.2 (e+u.length) ρ')→
   ∃ρ',dH (run tok aH (n+1)) (aa g) (.two 25 26) (yi om) (uD (e+u.length - 1,u)) ρ [bh row]=aa (.next ρ' [bh s'.1],ae)∧gm left s'.1 s'.2 (e+u.length) ρ':=λ{l v} U k=>by
  obtain⟨bN,f,dn,g1,g2,g3⟩:=afk (n:=n) (CH:=aa g) I U JE hl hr om;exact aD (k bN dn g1 g2 g3) λρ' h1 h2=>⟨ρ',(cA hb).trans (f _ h1),h2⟩
 have sn:∀ {v:Int},AE row.length (e+u.length - 1) u ag v last→((v=16∧u=[42])∨(v=18∧u=[124])∨(v=8∧u=[41])∨(v≠16∧v≠18∧v≠8∧s'=(row,st)))→∃ρ',dH (run tok aH (n+1)) (aa g) (.two 25 26) (yi om) (uD (e+u.length - 1,u)) ρ [bh row]=aa (.next ρ' [bh s'.1],ae)∧gm left s'.1 s'.2 (e+u.length) ρ':=λU hv=>
  key U λbN dn Z g2 g3=>afp dn g2 g3 cz h hv
 induction K with
 |lt c hc=>exact key (afl hc _ _) λbN dn g1 g2 g3=>afn hc dn g1 g2 g3 cz hr h
 |sn c hc=>
  rcases hc with rfl|rfl|rfl|rfl|rfl
  ·clear key hb cz;exact sn (v:=7) ⟨.inl rfl,rfl,by kernel_rfl,rfl,rfl,rfl,rfl⟩ (.inr (.inr (.inr ⟨by decide,by decide,by decide,by replace h:=iJ h;subst h;rfl⟩)))
  ·clear key hb cz;exact sn (v:=12) ⟨.inl rfl,rfl,by kernel_rfl,rfl,rfl,rfl,rfl⟩ (.inr (.inr (.inr ⟨by decide,by decide,by decide,by replace h:=iJ h;subst h;rfl⟩)))
  ·exact sn (v:=8) ⟨.inl rfl,rfl,by kernel_rfl,rfl,rfl,rfl,rfl⟩ (.inr (.inr (.inl ⟨rfl,rfl⟩)))
  ·exact sn (v:=16) ⟨.inl rfl,rfl,by kernel_rfl,rfl,rfl,rfl,rfl⟩ (.inl ⟨rfl,rfl⟩)
  ·exact sn (v:=18) ⟨.inl rfl,rfl,by kernel_rfl,rfl,rfl,rfl,rfl⟩ (.inr (.inl ⟨rfl,rfl⟩))
 |Sj x=>
  have hp:((e+2 - 1:Nat):Int).fmod 2=0∨((e+2 - 1:Nat):Int).fmod 2=1:=by refine rE (EP _ (by decide)) ?_;lia
  clear key hb cz;refine sn (afm x _ _) (.inr (.inr (.inr ⟨?_,?_,?_,by replace h:=iJ h;subst h;rfl⟩)))<;>rcases hp with q|q<;>(show(255 - 256 * ((e+2 - 1:Nat):Int).fmod 2)≠_;refine rE q ?_;decide)
 |fin=>exact sn (v:=0) ⟨.inl rfl,rfl,by kernel_rfl,rfl,rfl,rfl,rfl⟩ (.inr (.inr (.inr ⟨by decide,by decide,by decide,by replace h:=iJ h;subst h;rfl⟩)))
end
noncomputable def gI{α σ:Type}(f:σ→α→Option σ):σ→List α→Option σ
 |s,[]=>aa s
 |s,x::xs=>(f s x).bind λs'=>gI f s' xs
theorem JI{σ:Type}{f:σ→α→Option σ}(a b:List α):∀s,gI f s (a++b)=(gI f s a).bind λs'=>gI f s' b:=by
 induction a with
 |nil=>exact λZ=>rfl
 |cons x a ih=>
  intro s;show(f s x).bind _=((f s x).bind _).bind _;induction f s x with
  |none=>rfl
  |some s'=>exact ih s'
theorem afq{st:List PI}{u:ax}{s':List Nat × List PI}(h:kD (row,st) u=aa s')(hr:row.length≤6):s'.1.length≤6∧s'.2.length≤st.length+1:=by
 have same:∀ {s':List Nat × List PI},aa (row,st)=aa s'→s'.1.length≤6∧s'.2.length≤st.length+1:=λh=>by replace h:=iJ h;subst h;exact⟨hr,wN _⟩
 match u,h with
 | [],h=>exact same h
 |_::_::_,h=>exact same h
 | [c],h=>
  have h:cond (az c 92) (aa (row,st)) (eS (row,st) c)=aa s':=h;induction q:az c 92 with
  |true=>replace h:=q▸h;exact same h
  |false=>
   replace h:=(cond_false ..)▸q▸h;unfold eS at h;induction q1:isLet c with
   |true=>replace h:=q1▸h;refine xA (cj h) λa b=>?_;replace b:=iJ b;subst b;exact⟨by refine rE bt ?_;exact bc a,bZ _⟩
   |false=>
    replace h:=(cond_false ..)▸q1▸h;induction q2:az c 42 with
    |true=>replace h:=iJ (q2▸h);subst h;exact⟨hr,bZ _⟩
    |false=>
     replace h:=(cond_false ..)▸q2▸h;induction q3:az c 124 with
     |true=>replace h:=iJ (q3▸h);subst h;exact⟨hr,bZ _⟩
     |false=>
      replace h:=(cond_false ..)▸q3▸h;induction q4:az c 41 with
      |true=>replace h:=(cond_true ..)▸q4▸h;refine aD (sJ.mp h) λp hp e9=>?_;subst e9;refine BA (Sn hp) λa b m r e e9=>?_;subst e9;exact⟨hr,by refine rE (show st.length=(r.length+3)from congrArg TX e) ?_;refine rE bT ?_;lia⟩
      |false=>replace h:=q4▸h;exact same h
theorem afr{g:nC}{left:ax}(hl:left.length≤1000):∀ (us:cP) (e:Nat) (row:ax) (st:List PI) (ρ:aM) (s':List Nat × List PI),(∀u∈us,Kd u ag)→gm left row st e ρ→e+us.flatten.length+1=left.length→row.length≤6→st.length+us.length<900→gI kD (row,st) us=aa s'→
  ∃ρ',dE (dH (run tok aH (n+1)) (aa g) (.two 25 26) (yi om)) ((pl e (us++[[92]])).map uD) ρ [bh row]=aa (.next ρ' [bh s'.1],ae)∧gm left s'.1 s'.2 left.length ρ':=by
 intro us;induction us with
 |nil=>intro e row st ρ s' _ I h hr hs hf;replace hf:=iJ hf;subst hf;have h:e+1=left.length:=h;obtain⟨ρ',e1,e2⟩:=So (n:=n) (g:=g) (u:=[92]) .fin I (by show az (e+1) left.length;exact rE h (nc _)) hl hr (by lia) (s':=(row,st)) rfl;exact rS h ⟨ρ',(o9 e1).trans rfl,e2⟩
 |cons u us ih=>intro e row st ρ s' hk I h hr hs hf;replace h:=bt▸K0▸h;replace hs:=bT▸hs;refine oE hf λai f1 f2=>xA (afq f1 hr) λl1 l2=>?_;obtain⟨bN,e1,e2⟩:=So (n:=n) (g:=g) (hk u bG) I (jQ (by lia)) hl hr (by lia) f1;exact aD (ih (e+u.length) ai.1 ai.2 bN s' (λx hx=>hk x (cf _ hx)) e2 (by lia) l1 (by lia) f2) λρ' e3 e4=>⟨ρ',(o9 e1).trans e3,e4⟩
theorem afs(n:Nat)(l:ax)(us:cP){s':List Nat × List PI}(hU:dG ag (l++[92])=us++[[92]])(hf:us.flatten=l)(hk:∀u∈us,Kd u ag)(hlen:us.length<900)(hl:l.length<900)(h:gI kD ([],[]) us=aa s'):
  qY tok aH (run tok aH (n+1)) 6 [S (l++[92])] []=aa ((.list (fH s'.2),bh s'.1),ae):=by
 refine(cA (m:=aH 6) rfl).trans ((cA (m:=sW [20,21]) rfl).trans ((cA (m:=oK [20] [S (l++[92])] []) rfl).trans ?_));have hll:(l++[92]).length=l.length+1:=bt;obtain⟨ρ',e1,I⟩:=afr (n:=n) (g:=λZ Z Z=>af) (left:=l++[92]) (by lia) us 0 [] [] [(20,.val (S (l++[92]))),(21,.cU 0),(22,.fN t5),(23,.own []),(24,.val (nD 0))] s' hk ⟨rfl,rfl,rfl,rfl,rfl⟩ (rE hf (rE hll (rE (lj ..) rfl))) (eo _) (rE m9 (rE (lj ..) hlen)) h;replace e1:=je ((afh _ 0).1)▸hU.symm▸e1;have e2:ev tok (run tok aH (n+1)) [bh s'.1] (.ite (.cmp (.var 24) (.cons .eq (.bL 20) .nil)) (.var 23) (.lit .none)) (dX [23] ρ')=aa (.list (fH s'.2),ae):=by refine(qk (cS (y:=nD (l++[92]).length) (aA (ye I.t6)) (kx (eK (ye I.wk)) (Dk _ (by lia))) (Ri _ _)) rfl).trans ?_;refine rE (nc ..) ?_;exact(aA (v9 (is:=[23]) I.yh rfl):ev tok (run tok aH (n+1)) [bh s'.1] (.var 23) (dX [23] ρ')=_)
 have e3:cb tok (run tok aH (n+1)) (aa λZ Z Z=>af) b6 [(20,.val (S (l++[92]))),(21,.cU 0)] [[]]=aa (.ret (.list (fH s'.2)) [bh s'.1],ae):=by exact(bq (ρ':=[(20,.val (S (l++[92]))),(21,.cU 0),(22,.fN t5),(23,.own []),(24,.val (nD 0))]) (hs':=[[]]) rfl).trans ((bq ((jS (b:=yi om) (Dm (l:=l++[92]) rfl (by lia))).trans e1)).trans (Jl e2))
 exact W.aS (show cb tok _ _ b6 _ _=_ from e3) rfl
noncomputable def Ck(c:Nat):Prop:=(c=97∨c=98∨c=65∨c=66∨c=9∨c=11∨c=127)∨(c=40∨c=44∨c=41∨c=42∨c=124)
theorem Ck.sg{c:Nat}(h:Ck c):mR c:=by
 rcases h with(rfl|rfl|rfl|rfl|rfl|rfl|rfl)| (rfl|rfl|rfl|rfl|rfl)<;>exact⟨by decide,by decide⟩
theorem Sp:∀h,∀u∈i0 h,Kd u ag:=by
 refine h8 ?_ ?_ ?_ ?_ ?_ ?_ ?_ ?_ λn=>?_<;>intro u hu<;>first|cases hu;done| (refine rE (dK.mp hu) ?_;exact .Sj _)
theorem aft(h:∀p∈ps,Ck p.c):∀u∈mS ps,Kd u ag:=by
 intro u hu;refine aD (yN.mp hu) λp hp hu=>?_;have hc:∀v∈[[p.c]],Kd v ag:=λv hv=>by
  refine rE (dK.mp hv) ?_;rcases h p hp with q|q
  ·exact .lt _ q
  ·exact .sn _ q
 unfold Pc.us at hu;cases hf:p.f<;>replace hu:=hf▸hu
 ·exact(gp.mp hu).elim (Sp _ u) (hc u)
 ·exact(gp.mp hu).elim (hc u) (Sp _ u)
theorem Sq:∀h (s:List Nat × List PI),gI kD s (i0 h)=aa s:=h8 (λZ=>rfl) (λZ=>rfl) (λZ=>rfl) (λZ=>rfl) (λZ=>rfl) (λZ=>rfl) (λZ=>rfl) (λZ=>rfl) λZ Z=>rfl
theorem afu:∀ {ps:List Pc},(∀p∈ps,Ck p.c)→∀s,gI kD s (mS ps)=gI eS s (ps.map Pc.c):=by
 intro ps;induction ps with
 |nil=>exact λZ Z=>rfl
 |cons p ps ih=>
  intro h s;have ih:=ih λq hq=>h q (cf _ hq);have hc:∀s,gI kD s [[p.c]]=eS s p.c:=λs=>by have:az p.c 92=ag:=jQ (h p bG).sg.2;show(cond (az p.c 92) (aa s) (eS s p.c)).bind _=_;refine rE this ?_;show(eS s p.c).bind _=_;cases eS s p.c<;>rfl
  show gI kD s (p.us++mS ps)=(eS s p.c).bind _;refine rE (JI ..) ?_;have e:gI kD s p.us=eS s p.c:=by
   obtain⟨c,k,f⟩:=p;clear h;cases f
   ·show gI kD s (i0 k++[[c]])=_;exact rE (JI ..) (rE (Sq ..) (hc s))
   ·show gI kD s ([[c]]++i0 k)=_;refine rE (JI ..) (rE (hc ..) ?_);show(eS s c).bind _=eS s c;induction eS s c with
    |none=>rfl
    |some s'=>exact Sq k s'
  refine rE e ?_;induction eS s p.c with
  |none=>rfl
  |some s'=>exact ih s'
noncomputable def hN:T→List Nat
 | .lf k=>[k]
 | .nd _ a b=>hN a++hN b
section
variable(lp:Nat→Pc)
noncomputable def ip(c:Nat):Pc:=⟨c,0,ag⟩
noncomputable def cG:T→List Pc
 | .lf k=>[lp k]
 | .nd m a b=>[ip 40]++cG a++[ip (sg m)]++cG b++[ip 41]
noncomputable def dI:List T→List Nat→List Pc
 | [],_=>[]
 |t::r,ss=>match r with
  | []=>cG lp t
  |_::_=>cG lp t++[ip (ss.headD 44)]++dI r ss.tail
variable{lp}
theorem Sr(ym:row.length=6)(sm:∀k,k<6→row[k]? =aa (lp k).c∧isLet (lp k).c):∀ (t:T) (k:Nat) (st:List PI) (rest:ax),hN t=pE k (hN t).length→k+(hN t).length≤6→
  gI eS (row.take k,st) ((cG lp t).map Pc.c++rest)=gI eS (row.take (k+(hN t).length),.tr t::st) rest:=by
 intro t;induction t with
 |lf i=>
  intro k st rest h hk;have hik:i=k:=(jf (show [i]=[k]from h)).1;subst hik;have hk:i+1≤6:=hk;refine xA (sm i hk) λh1 h2=>?_;have ht:(row.take i).length=i:=by refine rE qG (rE ym ?_);lia
  show(eS (row.take i,st) (lp i).c).bind _=gI eS (row.take (i+1),_) rest;have:eS (row.take i,st) (lp i).c=aa (row.take (i+1),.tr (.lf i)::st):=by unfold eS;refine rE h2 (rE ht (rE (show aU i 6 from bO hk) ?_));show aa (row.take i++[(lp i).c],_)=_;refine rE List.take_succ (rE h1 ?_);rfl
  refine rE this ?_;rfl
 |nd m a b kB kC=>
  intro k st rest h hk;have e:hN (.nd m a b)=hN a++hN b:=rfl;rw[e,bt]at h hk;replace h:=(Vf ..)▸je (ait (m:=(hN a).length) (n:=(hN b).length))▸h;refine xA (aiu h (rE ES rfl)) λha hb=>?_;have ef:(cG lp (.nd m a b)).map Pc.c++rest=40::((cG lp a).map Pc.c++(sg m::((cG lp b).map Pc.c++(41::rest)))):=by show([ip 40]++cG lp a++[ip (sg m)]++cG lp b++[ip 41]).map Pc.c++rest=_;simp only[dw,d5];rfl
  refine rE ef (rE e (rE bt ?_));show gI eS (row.take k,st) ((cG lp a).map Pc.c++_)=_;refine rE (kB k st _ ha (by lia)) ?_;have e1:eS (row.take (k+(hN a).length),.tr a::st) (sg m)=aa (row.take (k+(hN a).length),.sgn m:: .tr a::st):=by induction m<;>rfl
  show(eS _ (sg m)).bind _=_;refine rE e1 ?_;show gI eS (row.take (k+(hN a).length),_) ((cG lp b).map Pc.c++_)=_;refine rE (kC _ _ _ hb (by lia)) (rE (Bk ..) ?_);rfl
noncomputable def iO(F:List T):List Nat:=F.flatMap hN
theorem afv(ym:row.length=6)(sm:∀k,k<6→row[k]? =aa (lp k).c∧isLet (lp k).c):∀ (F:List T) (ss:ax) (k:Nat) (st:List PI),(∀c∈ss,c=44∨c=9∨c=11∨c=127)→iO F=pE k (iO F).length→k+(iO F).length≤6→
  gI eS (row.take k,st) ((dI lp F ss).map Pc.c)=aa (row.take (k+(iO F).length),(F.map PI.tr).reverse++st):=by
 intro F;induction F with
 |nil=>intro ss k st _ _ _;rfl
 |cons t r ih=>
  intro ss k st tH h hk;have e:iO (t::r)=hN t++iO r:=rfl;rw[e,bt]at h hk;replace h:=(Vf ..)▸je (ait (m:=(hN t).length) (n:=(iO r).length))▸h;refine xA (aiu h (rE ES rfl)) λha hb=>?_;induction r using bj with
  |nil=>have:=Sr ym sm t k st [] ha (by lia);replace this:=(eg ..)▸this;refine rE e (rE bt ?_);exact this
  |cons t2 r=>
   have afw:∀ (s:List Nat × List PI),eS s (ss.headD 44)=aa s:=λs=>by
    have:ss.headD 44=44∨ss.headD 44=9∨ss.headD 44=11∨ss.headD 44=127:=by
     induction ss using bj with
     |nil=>exact .inl rfl
     |cons c ss=>exact tH c bG
    rcases this with h|h|h|h<;>refine rE h ?_<;>rfl
   show gI eS _ ((cG lp t++[ip (ss.headD 44)]++dI lp (t2::r) ss.tail).map Pc.c)=_;refine rE dw (rE dw (rE (d5 ..) (rE (Sr ym sm t k st _ ha (by lia)) ?_)));show(eS _ (ss.headD 44)).bind _=_;refine rE (afw ..) ?_;show gI eS _ ((dI lp (t2::r) ss.tail).map Pc.c)=_;rewrite[ih ss.tail _ _ (λc hc=>tH c (aiv hc)) hb (by lia),e,bt,Bk];simp
end
noncomputable def oq:List D:=[.tuple [S (iM 0),S (fq 0)],.tuple [S (iM 1),S (fq 1)],.tuple [S (iM 2),S (fq 2)],.tuple [S (iM 3),S (fq 3)],.tuple [S (iM 4),S (fq 4)],.tuple [S (iM 5),S (fq 5)],.tuple [S (iM 6),S (fq 6)],.tuple [S (iM 7),S (fq 7)]]
theorem lt8{P:Nat→Prop}(h0:P 0)(h1:P 1)(h2:P 2)(h3:P 3)(h4:P 4)(h5:P 5)(h6:P 6)(h7:P 7):∀n,n<8→P n:=
 h8 (λZ=>h0) (λZ=>h1) (λZ=>h2) (λZ=>h3) (λZ=>h4) (λZ=>h5) (λZ=>h6) (λZ=>h7) λn h=>absurd h (pz.mpr (uG 8 n))
theorem Ss:∀h:Nat,h<8→kK (.list oq) (nD h)=aa (.tuple [S (iM h),S (fq h)],ae):=lt8 rfl rfl rfl rfl rfl rfl rfl rfl
structure d3 where
 a:Nat
 b:Nat
 c:Nat
 d:Nat
 e:Nat
 f:Nat
noncomputable def d3.D(s:d3):Ev.D:=.list [nD s.a,nD s.b,nD s.c,nD s.d,nD s.e,nD s.f]
noncomputable def c1(x:Nat):Nat:=[97,65,98,66].getD (x%4) 0
noncomputable def c2(x:Nat):Nat:=[65,97,66,98].getD (x%4) 0
noncomputable def so(row:ax)(x:Nat):List Nat:=jl (c2 x) (x/100%(row.length+2)) (jl (c1 x) (x/4%(row.length+1)) row)
noncomputable def rowOf(s:d3):List Nat:=so (so (so [] s.a) s.b) s.c
theorem JJ(f:α→β)(x:α):∀ (k:Nat) (l:List α),jl (f x) k (l.map f)=(jl x k l).map f
 |0,_=>rfl
 |_+1,[]=>rfl
 |k+1,y::l=>congrArg (f y:: ·) (JJ f x k l)
theorem DF(x:α):∀ (k:Nat) (l:List α),(jl x k l).length=l.length+1
 |0,_=>rfl
 |_+1,[]=>rfl
 |k+1,_::l=>congrArg Nat.succ (DF x k l)
theorem sq(row:ax)(x:Nat):(so row x).length=row.length+2:=by unfold so;exact rE (DF ..) (rE (DF ..) rfl)
noncomputable def b5i:bP:=.cons (.ins 10 (.bin .mod (.bin .fdiv (.var 7) (.lit (.int 4))) (.bin .add (.bL 10) (.lit (.int 1)))) (.sub (.lit (.str (aj [97,65,98,66]))) (.bin .mod (.var 7) (.lit (.int 4))))) (.cons (.ins 10 (.bin .mod (.bin .fdiv (.var 7) (.lit (.int 100))) (.bin .add (.bL 10) (.lit (.int 1)))) (.sub (.lit (.str (aj [65,97,66,98]))) (.bin .mod (.var 7) (.lit (.int 4))))) .nil)
noncomputable def jb(l:ax):List D:=l.map λc=>S [c]
theorem afx{xs:List D}(h:get ρ i=aa (.own xs))(hl:xs.length≤1000000):ev tok C ([]:Hs) (.bL i) ρ=aa (nD xs.length,ae):=kx (IF h) (pd hl)
theorem JK{x:Nat}(fS:get ρ 10=aa (.own (jb row)))(hr:row.length≤10):∃ρ',dH C af (.one 7) b5i (nD x) ρ []=aa (.next ρ' [],ae)∧get ρ' 10=aa (.own (jb (so row x)))∧∀j o,j≠7→j≠10→get ρ j=o→get ρ' j=o:=by
 have hl:(jb row).length=row.length:=aQ _;have i1:∀ {ρ:aM}{r:ax} (k:Nat),k≠0→k<1073741824→r.length≤20→get ρ 7=aa (.val (nD x))→get ρ 10=aa (.own (jb r))→ev tok C ([]:Hs) (.bin .mod (.bin .fdiv (.var 7) (.lit (nD k))) (.bin .add (.bL 10) (.lit (.int 1)))) ρ=aa (nD (x/k%(r.length+1)),ae):=λ{ρ r} k h0 hk hr g7 iN=>by have:=afx (C:=C) iN (by unfold jb;refine rE (aQ ..) ?_;lia);replace this:=(show(jb r).length=r.length from aQ _)▸this;exact bk (bk (aA g7) (aK _) (x9 x k h0 hk)) (bk this (aK _) (add_n _ 1)) (pe _ _ (Nat.succ_ne_zero _))
 have i2:∀ {ρ:aM} (l:ax),l.length=4→get ρ 7=aa (.val (nD x))→ev tok C ([]:Hs) (.sub (.lit (S l)) (.bin .mod (.var 7) (.lit (.int 4)))) ρ=aa (S [l.getD (x%4) 0],ae):=λ{ρ} l hl g7=>by
  have h4:x%4<l.length:=rE hl (jX _ (by decide))
  refine tT (aK _) (bk (aA g7) (aK _) (pe x 4 (by decide))) (Ji ?_ (by lia));refine rE (m7) ?_;refine rE (lx h4) ?_;rfl
 have a1:=Rm (C:=C) (CH:=af) (hs:=[]) (i:=10) (ρ:=put ρ 7 (.val (nD x))) (gN rfl fS) (i1 (r:=row) 4 (by decide) (by decide) (by lia) gS (gN rfl fS)) (i2 [97,65,98,66] rfl gS) (by refine rE hl ?_;lia) (by refine rE hl ?_;have:=jX (x/4) (AX row.length);lia);replace a1:=(show jl (S [[97,65,98,66].getD (x%4) 0]) (x/4%(row.length+1)) (jb row)=jb (jl (c1 x) (x/4%(row.length+1)) row)from JJ (λc=>S [c]) _ _ _)▸a1;obtain⟨r1,vY⟩:∃r1,r1=jl (c1 x) (x/4%(row.length+1)) row:=⟨_,rfl⟩;have nR:r1.length=row.length+1:=rE vY (rE (DF ..) rfl)
 replace a1:=vY.symm▸a1;have a2:=Rm (C:=C) (CH:=af) (hs:=[]) (i:=10) (ρ:=put (put ρ 7 (.val (nD x))) 10 (.own (jb r1))) gS (i1 (r:=r1) 100 (by decide) (by decide) (by lia) (gN rfl gS) gS) (i2 [65,97,66,98] rfl (gN rfl gS)) (by show(r1.map _).length<_;refine rE (aQ ..) ?_;lia) (by show _≤(r1.map _).length;refine rE (aQ ..) ?_;have:=jX (x/100) (AX r1.length);lia);replace a2:=(show jl (S [[65,97,66,98].getD (x%4) 0]) (x/100%(r1.length+1)) (jb r1)=jb (so row x)by refine rE (show jl (S [[65,97,66,98].getD (x%4) 0]) (x/100%(r1.length+1)) (jb r1)=jb (jl (c2 x) (x/100%(r1.length+1)) r1)from JJ (λc=>S [c]) _ _ _) ?_;refine rE nR ?_;refine rE vY ?_;rfl)▸a2;refine⟨_,(cA (m:=eU (.one 7) (nD x) ρ) rfl).trans ((bq a1).trans (cJ a2)),gS,λj o h1 h2 h=>?_⟩;exact gN (jQ h2.symm) (gN (jQ h2.symm) (gN (jQ h1.symm) h))
noncomputable def lZ(s:d3)(row:ax)(k:Nat):Pc:=⟨row.getD k 0,s.f/8^k%8,az (k%2) 1⟩
noncomputable def bY(lp:Nat→Pc)(t:T):D:=.list [tD t,S (fe (cG lp t)),S (fh (cG lp t))]
noncomputable def F0:List T:=(bM 6).map .lf
noncomputable def Su:RE:=.bin .add (.list (.cons (.var 13) .nil)) (.comp [7] (.one 7) (.data (.aG 9 (.bin .mod (.bin .fdiv (.aG 8 (.lit (.int 5))) (.bin .pow (.lit (.int 8)) (.var 13))) (.lit (.int 8))))) .nil .nil (.ite (.bin .mod (.var 13) (.lit (.int 2))) (.bin .add (.aG 10 (.var 13)) (.var 7)) (.bin .add (.var 7) (.aG 10 (.var 13)))))
theorem afy{s:d3}(hk:k<6)(ym:row.length=6)(h8:get ρ 8=aa (.val s.D))(h9:get ρ 9=aa (.val (.list oq)))(fS:get ρ 10=aa (.own (jb row)))(gT:get ρ 13=aa (.val (nD k))):ev tok C ([]:Hs) Su ρ=aa (bY (lZ s row) (.lf k),ae):=by
 obtain⟨h,hh⟩:∃h,h=s.f/8^k%8:=⟨_,rfl⟩;have hh8:h<8:=rE hh (jX _ (by decide))
 have hp:8^k≤8^6:=yP (by decide) (d4 hk);have e1:ev tok C ([]:Hs) (.aG 9 (.bin .mod (.bin .fdiv (.aG 8 (.lit (.int 5))) (.bin .pow (.lit (.int 8)) (.var 13))) (.lit (.int 8)))) ρ=aa (.tuple [S (iM h),S (fq h)],ae):=dp h9 (bk (bk (dp h8 (aK _) (z:=nD s.f) rfl) (bk (aK _) (aA gT) (Dr 8 k (by decide) (by lia))) (x9 _ _ (oF (K5 (by decide))) (jh hp (by decide)))) (aK _) (pe _ 8 (by decide))) (rS hh (Ss h hh8))
 obtain⟨p,Sv⟩:∃p,p=lZ s row k:=⟨_,rfl⟩;have hrk:row[k]? =aa (row.getD k 0):=by refine rE (m7) ?_;refine rE (lx (rE ym hk)) ?_;rfl
 have e2:ev tok C ([]:Hs) (.comp [7] (.one 7) (.data (.aG 9 (.bin .mod (.bin .fdiv (.aG 8 (.lit (.int 5))) (.bin .pow (.lit (.int 8)) (.var 13))) (.lit (.int 8))))) .nil .nil (.ite (.bin .mod (.var 13) (.lit (.int 2))) (.bin .add (.aG 10 (.var 13)) (.var 7)) (.bin .add (.var 7) (.aG 10 (.var 13))))) ρ=aa (.list [S p.txt,S p.bare],ae):=by
  have le:=Jn h;refine(ij (ys:=[iM h,fq h]) (h:=S) (g:=λx=>S (cond (az (k%2) 1) ([row.getD k 0]++x) (x++[row.getD k 0]))) (r:=λx=>put (rem [7] ρ) 7 (.val (S x))) (Dg e1 rfl) (λZ Z=>rfl) (λx hx=>?_) (show 2≤1000000 by decide)).trans ?_
  ·have hx5:x.length≤5:=by rcases bE.mp hx with rfl|hx;exact le.1;refine rE (dK.mp hx) ?_;exact le.2
   have oj:get (put (rem [7] ρ) 7 (.val (S x))) 13=_:=gL rfl rfl gT;have er:ev tok C ([]:Hs) (.aG 10 (.var 13)) (put (rem [7] ρ) 7 (.val (S x)))=aa (S [row.getD k 0],ae):=by refine(cA (IF (gL rfl rfl fS))).trans (W.aS (aA oj) (lh ?_ (by lia)));unfold jb;refine rE (l8) ?_;refine rE hrk ?_;rfl
   have em:ev tok C ([]:Hs) (.bin .mod (.var 13) (.lit (.int 2))) (put (rem [7] ρ) 7 (.val (S x)))=aa (nD (k%2),ae):=bk (aA oj) (aK _) (pe k 2 (by decide));have h2:k%2=0∨k%2=1:=by lia
   rcases h2 with q|q
   ·rw[q]at em ⊢;exact IG em rfl (bk (aA gS) er (sf _ _ (by refine rE bT (rE m9 ?_);lia)))
   ·rw[q]at em ⊢;exact QG em rfl (bk er (aA gS) (sf _ _ (by refine rE bT (rE m9 ?_);lia)))
  ·refine rE Sv (rE hh ?_);unfold lZ Pc.txt Pc.bare;dsimp only;cases az (k%2) 1<;>rfl
 refine(bk (fF (bI (aA gT) di)) e2 (gk (show 1+2≤1000000 by decide))).trans ?_;show aa (dQ [nD k,S p.txt,S p.bare],ae)=aa (dQ [nD k,S (fe [lZ s row k]),S (fh [lZ s row k])],ae);exact rS Sv (rE (show fe [p]=p.txt from eg _) (rE (show fh [p]=p.bare from eg _) rfl))
noncomputable def AG(m:Bool)(at_:Nat)(F:List T):List T:=F.take at_++((match F.drop at_ with|a::b::r=>.nd m a b::r|r=>r):List T)
theorem DH(lp:Nat→Pc)(t:T):(cG lp t).length≤3 * sz t:=by
 induction t with
 |lf k=>exact bc rfl
 |nd m a b kB kC=>show([ip 40]++cG lp a++[ip (sg m)]++cG lp b++[ip 41]).length≤3 * (sz a+sz b+1);simp only[bt,bT,m9];lia
theorem afz(lp:Nat→Pc)(m:Bool)(a b:T):fe (cG lp (.nd m a b))=[40]++fe (cG lp a)++[sg m]++fe (cG lp b)++[41]∧fh (cG lp (.nd m a b))=[40]++fh (cG lp a)++[sg m]++fh (cG lp b)++[41]:=by have e:cG lp (.nd m a b)=[ip 40]++cG lp a++[ip (sg m)]++cG lp b++[ip 41]:=rfl;refine rE e ?_;unfold fe fh;simp only[K6];exact⟨rfl,rfl⟩
noncomputable def Sw:RE:=.bin .add (.list (.cons (.list (.cons (.var 14) (.cons (.aG 17 (.lit (.int 0))) (.cons (.aG 18 (.lit (.int 0))) .nil)))) .nil)) (.comp [19] (.one 19) (.data (.tup (.cons (.lit (.int 1)) (.cons (.lit (.int 2)) .nil)))) .nil .nil (.bin .add (.bin .add (.bin .add (.bin .add (.lit (.str (aj [40]))) (.aG 17 (.var 19))) (.var 14)) (.aG 18 (.var 19))) (.lit (.str (aj [41])))))
theorem afA{lp:Nat→Pc}{m:Bool}{a b:T}(ha:sz a≤12)(hb:sz b≤12)(tK:get ρ 14=aa (.val (S [sg m])))(qd:get ρ 17=aa (.val (bY lp a)))(rP:get ρ 18=aa (.val (bY lp b))):ev tok C ([]:Hs) Sw ρ=aa (bY lp (.nd m a b),ae):=by
 have la:=DH lp a;have lb:=DH lp b;have ta:=wd (cG lp a);have tb:=wd (cG lp b);have ba:=we (cG lp a);have bb:=we (cG lp b);have go:∀ (i:Nat) (x y:ax),x.length≤300→y.length≤300→kK (bY lp a) (nD i)=aa (S x,ae)→kK (bY lp b) (nD i)=aa (S y,ae)→ev tok C ([]:Hs) (.bin .add (.bin .add (.bin .add (.bin .add (.lit (.str (aj [40]))) (.aG 17 (.var 19))) (.var 14)) (.aG 18 (.var 19))) (.lit (.str (aj [41])))) (put (rem [19] ρ) 19 (.val (nD i)))=aa (S ([40]++x++[sg m]++y++[41]),ae):=λi x y hx hy e1 e2=>by refine bk (bk (bk (bk (aK _) (dp (gL rfl rfl qd) (aA gS) e1) (sf [40] x ?_)) (aA (gL rfl rfl tK)) (sf _ _ ?_)) (dp (gL rfl rfl rP) (aA gS) e2) (sf _ _ ?_)) (aK _) (sf _ [41] ?_)<;>simp only[bt,bT,m9]<;>lia
 have e2:ev tok C ([]:Hs) (.comp [19] (.one 19) (.data (.tup (.cons (.lit (.int 1)) (.cons (.lit (.int 2)) .nil)))) .nil .nil (.bin .add (.bin .add (.bin .add (.bin .add (.lit (.str (aj [40]))) (.aG 17 (.var 19))) (.var 14)) (.aG 18 (.var 19))) (.lit (.str (aj [41]))))) ρ=aa (.list [S (fe (cG lp (.nd m a b))),S (fh (cG lp (.nd m a b)))],ae):=by
  refine xA (afz lp m a b) λq1 q2=>rE q1 (rE q2 ?_);refine ij (ys:=[1,2]) (h:=nD) (g:=λi=>cond (az i 1) (S ([40]++fe (cG lp a)++[sg m]++fe (cG lp b)++[41])) (S ([40]++fh (cG lp a)++[sg m]++fh (cG lp b)++[41]))) (r:=λi=>put (rem [19] ρ) 19 (.val (nD i))) (Dg (tU (bI (aK _) (bI (aK _) di))) rfl) (λZ Z=>rfl) (λi hi=>?_) (show 2≤1000000 by decide);rcases bE.mp hi with rfl|hi
  ·exact go 1 _ _ (by lia) (by lia) rfl rfl
  ·obtain rfl:=dK.mp hi;exact go 2 _ _ (by lia) (by lia) rfl rfl
 exact bk (fF (bI (fF (bI (aA tK) (bI (dp qd (aK _) rfl) (bI (dp rP (aK _) rfl) di)))) di)) e2 (gk (show 1+2≤1000000 by decide))
noncomputable def jc(s:d3)(k:Nat)(F:List T):List T:=AG (aU ((s.d/4+k)%(2+s.d%4)) 2) (s.e/5^k%(F.length - 1)) F
noncomputable def sr(s:d3):List Nat→List T→List T
 | [],F=>F
 |k::ks,F=>sr s ks (jc s k F)
noncomputable def t8(s:d3):List T:=sr s (bM (2+s.d%4)) F0
noncomputable def ot(n:Nat):List Nat:=[42,42]++rep [124] n
theorem Sx:∀n,n<4→(ot n).length=2+n:=by decide
theorem afB:∀n,n<4→∀i,i<2+n→(ot n)[i]? =aa (sg (aU i 2)):=by decide
theorem JL(m:Bool)(p r:List T)(a b:T):AG m p.length (p++a::b::r)=p++ .nd m a b::r:=by unfold AG;exact rE (Bl rfl) (rE (aiw rfl) rfl)
theorem JM{l:List α}(h:k+1<l.length):∃p a b r,l=p++a::b::r∧p.length=k:=
 ⟨l.take k,l[k],l[k+1],l.drop (k+1+1),by refine rE (Vd ..) ?_;refine rE (Vd ..) ?_;exact(aiq k l).symm,by refine rE qG ?_;lia⟩
theorem Sy(l:ax)(h:l.length≤1000000):sV (S l)=aa (nD l.length,ae):=by show W.need (fX ((sL (aj l)).length:Nat)) (aX (sL (aj l)).length 1000000)=_;exact rE (v7 ..) (du _ (bO h))
noncomputable def Sz:bP:=.cons (.asg 14 (.aG 12 (.bin .mod (.bin .add (.bin .fdiv (.aG 8 (.lit (.int 3))) (.lit (.int 4))) (.var 13)) (.bL 12)))) (.cons (.asg 15 (.bin .mod (.bin .fdiv (.aG 8 (.lit (.int 4))) (.bin .pow (.lit (.int 5)) (.var 13))) (.bin .sub (.bL 11) (.lit (.int 1))))) (.cons (.mul [17,18] [.val (.aG 11 (.var 15)),.val (.aG 11 (.bin .add (.var 15) (.lit (.int 1))))]) (.cons (.asg 16 Sw) (.cons (.asg 11 (.bin .add (.bin .add (.cw 11 .none (.some (.var 15)) .none) (.list (.cons (.var 16) .nil))) (.cw 11 (.some (.bin .add (.var 15) (.lit (.int 2)))) .none .none))) .nil))))
theorem afC{s:d3}{lp:Nat→Pc}(hk:k<6)(h2:2≤F.length)(hz:bK F≤12)(h8:get ρ 8=aa (.val s.D))(mH:get ρ 12=aa (.val (S (ot (s.d%4)))))(ke:get ρ 11=aa (.val (.list (F.map (bY lp))))):
  ∃ρ',dH C af (.one 13) Sz (nD k) ρ []=aa (.next ρ' [],ae)∧get ρ' 11=aa (.val (.list ((jc s k F).map (bY lp))))∧get ρ' 8=aa (.val s.D)∧get ρ' 12=aa (.val (S (ot (s.d%4))))∧(get ρ' 10=get ρ 10∧bK (jc s k F)=bK F+1∧(jc s k F).length+1=F.length):=by
 obtain⟨i,hi⟩:∃i,i=(s.d/4+k)%(2+s.d%4):=⟨_,rfl⟩;obtain⟨w,hw⟩:∃w,w=s.e/5^k%(F.length - 1):=⟨_,rfl⟩;have h4:s.d%4<4:=jX _ (by decide);have t9:i<2+s.d%4:=rE hi (jX _ (hZ (by decide) (nh 2 _)))
 have DI:w<F.length - 1:=rE hw (jX _ (KQ h2))
 have hs:=Sx _ h4;have yg:F.length≤12:=aF (Az F) hz;obtain⟨p,a,b,r,hF,hp⟩:=JM (l:=F) (k:=w) (Nat.add_lt_of_lt_sub DI);have cz:jc s k F=p++ .nd (aU i 2) a b::r:=by unfold jc;exact rS hi (rS hw (rE hF (rS hp (JL _ p r a b))))
 have eY:bK F=bK p+(sz a+(sz b+bK r)):=by refine rE hF (rE (qv ..) ?_);rfl
 have hsz2:bK (jc s k F)=bK p+(sz a+sz b+1+bK r):=by refine rE cz (rE (qv ..) ?_);rfl
 have Jz:F.length=p.length+(r.length+1+1):=by refine rE hF (rE bt ?_);rfl
 have aiJ:(jc s k F).length=p.length+(r.length+1):=by refine rE cz (rE bt ?_);rfl
 have hm:(F.map (bY lp)).length=F.length:=aQ _;have yn:(F.map (bY lp)).length≤12:=by rw[hm];exact yg
 have DJ:w<12:=hZ DI (aF (qD ..) yg);have h5:5^k≤5^6:=yP (by decide) (d4 hk);have e1:ev tok C ([]:Hs) (.aG 12 (.bin .mod (.bin .add (.bin .fdiv (.aG 8 (.lit (.int 3))) (.lit (.int 4))) (.var 13)) (.bL 12))) (put ρ 13 (.val (nD k)))=aa (S [sg (aU i 2)],ae):=by
  have el:ev tok C ([]:Hs) (.bL 12) (put ρ 13 (.val (nD k)))=aa (nD (2+s.d%4),ae):=by have:=kx (tk:=tok) (C:=C) (hs:=[]) (ρ:=put ρ 13 (.val (nD k))) (eK (gN rfl mH)) (Sy (ot (s.d%4)) (by rw[hs];exact aF (qI (d4 h4) 2) (by decide)));rwa [hs]at this
  exact dp (gN rfl mH) (bk (bk (bk (dp (gN rfl h8) (aK _) (z:=nD s.d) rfl) (aK _) (x9 s.d 4 (by decide) (by decide))) (aA gS) (add_n _ _)) el (pe _ _ (by lia))) (rS hi (Ji (afB _ h4 i t9) (hZ t9 (aF (qI (d4 h4) 2) (by decide)))))
 obtain⟨bD,wu⟩:∃bD,bD=put (put ρ 13 (.val (nD k))) 14 (.val (S [sg (aU i 2)])):=⟨_,rfl⟩;have g8:get bD 8=aa (.val s.D):=rE (wu) (gN rfl (gN rfl h8))
 have wx:get bD 11=aa (.val (.list (F.map (bY lp)))):=rE (wu) (gN rfl (gN rfl ke))
 have JN:get bD 12=aa (.val (S (ot (s.d%4)))):=rE (wu) (gN rfl (gN rfl mH))
 have oj:get bD 13=aa (.val (nD k)):=rE (wu) (gN rfl gS)
 have g14:get bD 14=aa (.val (S [sg (aU i 2)])):=rE (wu) gS
 have iN:get bD 10=get ρ 10:=rE (wu) (gN rfl (gN rfl rfl))
 have e2:ev tok C ([]:Hs) (.bin .mod (.bin .fdiv (.aG 8 (.lit (.int 4))) (.bin .pow (.lit (.int 5)) (.var 13))) (.bin .sub (.bL 11) (.lit (.int 1)))) bD=aa (nD w,ae):=by
  have el:ev tok C ([]:Hs) (.bL 11) bD=aa (nD F.length,ae):=by have:=kx (tk:=tok) (C:=C) (hs:=[]) (eK wx) (pd (aF yn (by decide)));rwa [hm]at this
  exact(bk (bk (dp g8 (aK _) (z:=nD s.e) rfl) (bk (aK _) (aA oj) (Dr 5 k (by decide) (by lia))) (x9 _ _ (oF (K5 (by decide))) (jh h5 (by decide)))) (bk el (aK _) (Rj (b:=1) (d4 h2))) (pe _ _ (oF (KQ h2)))).trans (rS hw rfl)
 have hL:F.map (bY lp)=p.map (bY lp)++bY lp a::bY lp b::r.map (bY lp):=by refine rE hF (rE dw ?_);rfl
 have AH:(p.map (bY lp)).length=w:=rE (aQ ..) hp
 have e3:ev tok C ([]:Hs) (.aG 11 (.var 15)) (put bD 15 (.val (nD w)))=aa (bY lp a,ae):=dp (gN rfl wx) (aA gS) (lh (by refine rE hL (rS AH (rE (yJ (bZ _)) ?_));refine rE (Bd ..) ?_;rfl) (ew DJ (by decide)));have e4:ev tok C ([]:Hs) (.aG 11 (.bin .add (.var 15) (.lit (.int 1)))) (put bD 15 (.val (nD w)))=aa (bY lp b,ae):=dp (gN rfl wx) (bk (aA gS) (aK _) (add_n w 1)) (lh (by refine rE hL (rE (yJ (aF (sF AH) (wN w))) ?_);refine rE AH (rE (ais (n:=w) (m:=1)) ?_);rfl) (jh (Vg DJ) (by decide)));have e5:=afA (C:=C) (lp:=lp) (m:=aU i 2) (a:=a) (b:=b) (ρ:=put (put (put bD 15 (.val (nD w))) 17 (.val (bY lp a))) 18 (.val (bY lp b))) (by lia) (by lia) (gN rfl (gN rfl (gN rfl g14))) (gN rfl gS) gS;have e6:ev tok C ([]:Hs) (.bin .add (.bin .add (.cw 11 .none (.some (.var 15)) .none) (.list (.cons (.var 16) .nil))) (.cw 11 (.some (.bin .add (.var 15) (.lit (.int 2)))) .none .none)) (put (put (put (put bD 15 (.val (nD w))) 17 (.val (bY lp a))) 18 (.val (bY lp b))) 16 (.val (bY lp (.nd (aU i 2) a b))))=aa (.list ((jc s k F).map (bY lp)),ae):=by have DL:get (put (put (put (put bD 15 (.val (nD w))) 17 (.val (bY lp a))) 18 (.val (bY lp b))) 16 (.val (bY lp (.nd (aU i 2) a b)))) 11=aa (.val (.list (F.map (bY lp)))):=gN rfl (gN rfl (gN rfl (gN rfl wx)));have SA:get (put (put (put (put bD 15 (.val (nD w))) 17 (.val (bY lp a))) 18 (.val (bY lp b))) 16 (.val (bY lp (.nd (aU i 2) a b)))) 15=aa (.val (nD w)):=gN rfl (gN rfl (gN rfl gS));refine(bk (bk (jR (eK DL) ee (gW (aA SA)) ee (ya (k:=w) (ew DJ (by decide)) (aF yn (by decide)))) (fF (bI (aA gS) di)) (gk (by refine rE qG (rE sR ?_);exact aF (m4 (aF (um ..) yn)) (by decide)))) (jR (eK DL) (gW (i:=((w+2:Nat):Int)) (bk (aA SA) (aK _) (add_n w 2))) ee ee (wc (k:=w+2) (jh (m4 (Vg DJ)) (by decide)) (aF yn (by decide)))) (gk (by refine rE bt (rE qG (rE uu (rE sR ?_)));exact aF (uk (m4 (aF (um ..) yn)) (aF (qD ..) yn)) (by decide)))).trans ?_;refine rE cz (rE hL (rE (Bl AH) (rS Eg (rE (aiw AH) (rE dw ?_)))));show aa (dQ ((p.map (bY lp)++[bY lp (.nd (aU i 2) a b)])++r.map (bY lp)),ae)=_;refine rE (d5 ..) ?_;rfl
 refine⟨put (put (put (put (put bD 15 (.val (nD w))) 17 (.val (bY lp a))) 18 (.val (bY lp b))) 16 (.val (bY lp (.nd (aU i 2) a b)))) 11 (.val (.list ((jc s k F).map (bY lp)))),(cA (m:=eU (.one 13) (nD k) ρ) rfl).trans ((bq (c7 e1)).trans ?_),gS,?_,?_,?_⟩
 ·exact rS (wu) ((bq (c7 e2)).trans ((bq (QK (QL e3 (QL e4 adC)) rfl)).trans ((bq (c7 e5)).trans (cJ (c7 e6)))))
 ·exact gN rfl (gN rfl (gN rfl (gN rfl (gN rfl g8))))
 ·exact gN rfl (gN rfl (gN rfl (gN rfl (gN rfl JN))))
 ·exact⟨(gN rfl (gN rfl (gN rfl (gN rfl (gN rfl iN))))),by lia,by lia⟩
theorem afD{s:d3}{lp:Nat→Pc}:∀ (ks:ax) (F:List T) (ρ:aM),(∀k∈ks,k<6)→ks.length<F.length→bK F+ks.length≤12→get ρ 8=aa (.val s.D)→get ρ 12=aa (.val (S (ot (s.d%4))))→get ρ 11=aa (.val (.list (F.map (bY lp))))→
  ∃ρ',dE (dH C af (.one 13) Sz) (ks.map nD) ρ []=aa (.next ρ' [],ae)∧get ρ' 11=aa (.val (.list ((sr s ks F).map (bY lp))))∧get ρ' 10=get ρ 10:=by
 intro ks;induction ks with
 |nil=>intro F ρ _ _ _ _ _ h;exact⟨ρ,rfl,h,rfl⟩
 |cons k ks ih=>intro F ρ hk hl hz h8 mH ke;rw[bT]at hl hz;obtain⟨bD,e1,DL,q8,q12,AI,qz,ql⟩:=afC (C:=C) (hk k bG) (by lia) (by lia) h8 mH ke;exact j4 (ih (jc s k F) bD (λj hj=>hk j (cf _ hj)) (by lia) (by lia) q8 q12 DL) λuc e2 r11 qw=>⟨uc,(o9 e1).trans e2,r11,qw.trans AI⟩
theorem afE:∀n,n<4→j3 .mul (S [124]) (nD n)=aa (S (rep [124] n),ae):=by
 refine λn h=>?_;have:n=0∨n=1∨n=2∨n=3:=by lia
 rcases this with rfl|rfl|rfl|rfl<;>rfl
theorem afF:∀n,n<4→[42,42].length+(rep [124] n).length≤1000000:=by decide
theorem afG(s:d3)(n:Nat):run tok aH (n+1) 5 [s.D,.list oq]=aa (.tuple [ik (rowOf s),.list ((t8 s).map (bY (lZ s (rowOf s))))],ae):=by
 have h4:s.d%4<4:=jX _ (by decide);obtain⟨mL,DM⟩:∃mL,mL=put [(8,.val s.D),(9,.val (.list oq))] 10 (.own (jb [])):=⟨_,rfl⟩;have g8:get mL 8=aa (.val s.D):=by refine rE (DM) ?_;rfl
 have g9:get mL 9=aa (.val (.list oq)):=by refine rE (DM) ?_;rfl
 have iN:get mL 10=aa (.own (jb [])):=by refine rE (DM) ?_;rfl
 refine nZ (ρ:=[(8,.val s.D),(9,.val (.list oq))]) rfl rfl (hs:=[]) ((bq (show ex tok _ af (.own 10 (.list .nil)) _ []=aa (.next mL [],ae)by refine rE (DM) ?_;rfl)).trans ?_);obtain⟨bD,e1,BB,p⟩:=JK (C:=run tok aH n) (x:=s.a) iN (by decide);obtain⟨uc,e2,AI,q⟩:=JK (C:=run tok aH n) (x:=s.b) BB (by refine rE (sq ..) ?_;decide);obtain⟨qA,e3,qw,r⟩:=JK (C:=run tok aH n) (x:=s.c) AI (by refine rE (sq ..) (rE (sq ..) ?_);decide);have r8:=r 8 _ (by decide) (by decide) (q 8 _ (by decide) (by decide) (p 8 _ (by decide) (by decide) g8));have r9:=r 9 _ (by decide) (by decide) (q 9 _ (by decide) (by decide) (p 9 _ (by decide) (by decide) g9));have qw:get qA 10=aa (.own (jb (rowOf s))):=qw;have DB:(rowOf s).length=6:=by unfold rowOf;refine rE (sq ..) (rE (sq ..) (rE (sq ..) ?_));rfl
 have eI:fO tok (run tok aH n) ([]:Hs) (.data (.cw 8 .none (.some (.lit (.int 3))) .none)) mL=aa ([nD s.a,nD s.b,nD s.c],ae):=
  eP (jR (eK g8) ee (gW (aK _)) ee (ya (k:=3) (by decide) (show 6≤1000000 by decide)))
 refine(bq ((jS eI).trans ((o9 e1).trans ((o9 e2).trans ((o9 e3).trans rfl))))).trans ?_;have zp:ev tok (run tok aH n) ([]:Hs) (.comp [13] (.one 13) (.dy (.lit (.int 6))) .nil .nil Su) qA=aa (.list (F0.map (bY (lZ s (rowOf s)))),ae):=by
  refine(ij (ys:=bM 6) (h:=nD) (g:=λk=>bY (lZ s (rowOf s)) (.lf k)) (r:=λk=>put (rem [13] qA) 13 (.val (nD k))) (kz (n:=6) (aK _) (by decide)) (λZ Z=>rfl) (λk hk=>?_) (by decide)).trans ?_
  ·exact afy (lq.mp hk) DB (gL rfl rfl r8) (gL rfl rfl r9) (gL rfl rfl qw) gS
  ·unfold F0;refine rE dJ ?_;rfl
 refine(bq (c7 zp)).trans ?_;have e12:ev tok (run tok aH n) ([]:Hs) (.bin .add (.lit (.str (aj [42,42]))) (.bin .mul (.lit (.str (aj [124]))) (.bin .mod (.aG 8 (.lit (.int 3))) (.lit (.int 4))))) (put qA 11 (.val (.list (F0.map (bY (lZ s (rowOf s)))))))=aa (S (ot (s.d%4)),ae):=
  bk (aK _) (bk (aK _) (bk (dp (gN rfl r8) (aK _) (z:=nD s.d) rfl) (aK _) (pe s.d 4 (by decide))) (afE _ h4)) (sf [42,42] _ (afF _ h4))
 refine(bq (c7 e12)).trans ?_;obtain⟨SD,e4,t11,JO⟩:=afD (C:=run tok aH n) (s:=s) (lp:=lZ s (rowOf s)) (bM (2+s.d%4)) F0 (put (put qA 11 (.val (.list (F0.map (bY (lZ s (rowOf s))))))) 12 (.val (S (ot (s.d%4))))) (λk hk=>by have:=lq.mp hk;lia)
  (by refine rE qK ?_;show _<6;lia) (by refine rE qK ?_;show 6+_≤12;lia) (gN rfl (gN rfl r8)) gS (gN rfl gS)
 have JO:get SD 10=aa (.own (jb (rowOf s))):=JO.trans (gN rfl (gN rfl qw));have el:ev tok (run tok aH n) ([]:Hs) (.bL 12) (put (put qA 11 (.val (.list (F0.map (bY (lZ s (rowOf s))))))) 12 (.val (S (ot (s.d%4)))))=aa (nD (2+s.d%4),ae):=by have hs:=Sx _ h4;have:=kx (tk:=tok) (C:=run tok aH n) (hs:=[]) (eK (i:=12) (ρ:=put (put qA 11 (.val (.list (F0.map (bY (lZ s (rowOf s))))))) 12 (.val (S (ot (s.d%4))))) gS) (Sy (ot (s.d%4)) (by rw[hs];exact aF (qI (d4 h4) 2) (by decide)));rwa [hs]at this
 exact(bq ((jS (kz el (by lia))).trans e4)).trans (Jl (tU (bI (aA (v9 JO rfl)) (bI (aA ((Ao _ _ _).trans (congrArg _ t11))) di))))
noncomputable def l5:List Lk:=[[(0,1),(2,3),(4,5)],[(0,1),(2,4),(3,5)],[(0,1),(2,5),(3,4)],[(0,2),(1,3),(4,5)],[(0,2),(1,4),(3,5)],[(0,2),(1,5),(3,4)],[(0,3),(1,2),(4,5)],[(0,3),(1,4),(2,5)],
 [(0,3),(1,5),(2,4)],[(0,4),(1,2),(3,5)],[(0,4),(1,3),(2,5)],[(0,4),(1,5),(2,3)],[(0,5),(1,2),(3,4)],[(0,5),(1,3),(2,4)],[(0,5),(1,4),(2,3)]]
noncomputable def kF(F:List T):List (List (List Nat)):=F.foldl (λacc t=>acc.flatMap λone=>(fV t).map λtwo=>one++two) [[]]
noncomputable def ud(p r:Nat × Nat):Bool:=cond (aU p.1 r.1) (cond (aU r.1 p.2) (aU p.2 r.2) ag) ag
noncomputable def jy(L:Lk):Bool:= !L.any λp=>L.any λr=>ud p r
noncomputable def jz(F:List T)(L:Lk):Bool:=match mU L (kF F)with|some b=>b|none=>ag
noncomputable def wy(F:List T):Bool:=match cL (λL=>(mU L (kF F)).map λb=>cond b [L] []) l5 with
 |none=>ag
 |some N=>jx (λZ Z=>ae) ag 14 F == aa N&&jx (λZ Z=>ae) ae 14 F == aa (N.filter jy)
noncomputable def allR(P:List T→Bool)(n r:Nat):List Nat→List T→Bool
 | [],F=>P F
 |k::ks,F=>(bM (F.length - 1)).all λw=>allR P n r ks (AG (aU ((r+k)%n) 2) w F)
theorem afH(P:List T→Bool)(s:d3):∀ (ks:ax) (F:List T),ks.length<F.length→allR P (2+s.d%4) (s.d/4%(2+s.d%4)) ks F→P (sr s ks F):=by
 intro ks;induction ks with
 |nil=>exact λZ Z h=>h
 |cons k ks ih=>
  intro F hl h;replace hl:=bT▸hl;have hw:s.e/5^k%(F.length - 1)<F.length - 1:=jX _ (by lia);have h:=fj.mp h _ (lq.mpr hw);replace h:=(Nat.mod_add_mod ..)▸h;refine ih _ ?_ h;obtain⟨p,a,b,r,hF,hp⟩:=JM (l:=F) (k:=s.e/5^k%(F.length - 1)) (by lia);show ks.length<(AG _ (s.e/5^k%(F.length - 1)) F).length;refine rS hp ?_;refine rE hF ?_;refine rE (JL ..) ?_;have:F.length=p.length+(r.length+1+1):=by refine rE hF ?_;refine rE bt ?_;rfl
  refine rE bt ?_;refine rE bT ?_;lia
theorem afI:(bM 2).all (λr=>allR wy 2 r (bM 2) F0):=by kernel_rfl
theorem afJ:(bM 3).all (λr=>allR wy 3 r (bM 3) F0):=by kernel_rfl
theorem afK:(bM 4).all (λr=>allR wy 4 r (bM 4) F0):=by kernel_rfl
theorem afL:(bM 5).all (λr=>allR wy 5 r (bM 5) F0):=by kernel_rfl
theorem afM(s:d3):wy (t8 s):=by
 have h4:s.d%4<4:=jX _ (by decide);refine afH wy s (bM (2+s.d%4)) F0 (by refine rE qK ?_;show _<6;lia) ?_;have hr:s.d/4%(2+s.d%4)<2+s.d%4:=jX _ (by lia);revert hr;generalize s.d/4%(2+s.d%4)=r;intro hr;have hm:=lq.mpr hr;have:s.d%4=0∨s.d%4=1∨s.d%4=2∨s.d%4=3:=by lia
 rcases this with q|q|q|q<;>rw[q]at hm ⊢
 ·exact fj.mp afI r hm
 ·exact fj.mp afJ r hm
 ·exact fj.mp afK r hm
 ·exact fj.mp afL r hm
theorem afN{P:List (List (List Nat))}:∀ {l N:List Lk},cL (λL=>(mU L P).map λb=>cond b [L] []) l=aa N→(∀L∈l,mU L P=aa (match mU L P with|some b=>b|none=>ag))∧N=l.filter λL=>match mU L P with|some b=>b|none=>ag:=by
 intro l;induction l with
 |nil=>intro N h;replace h:=iJ h;subst h;exact⟨λZ h=>(nomatch h),rfl⟩
 |cons L l ih=>
  intro N h;refine oE h λx h1 h2=>oE h2 λy h3 h4=>?_;clear h2;replace h4:=iJ h4;subst h4;refine xA (ih h3) λi1 i2=>?_;have h1:(mU L P).map (λb=>cond b [L] [])=aa x:=h1;induction q:mU L P with
  |none=>exact zN (q▸h1)
  |some b=>
   clear h3;replace h1:=iJ (q▸h1);subst h1;refine⟨λL' h=>?_,?_⟩
   ·rcases bE.mp h with rfl|h
    ·exact rE q rfl
    ·exact i1 L' h
   ·refine rE uH ?_;refine rE q ?_;refine rS i2 ?_;induction b<;>rfl
structure DN(F:List T):Prop where
 net:∀L∈l5,mU L (kF F)=aa (jz F L)
 all:jx (λZ Z=>ae) ag 14 F=aa (l5.filter (jz F))
 cyc:jx (λZ Z=>ae) ae 14 F=aa ((l5.filter (jz F)).filter jy)
theorem afO(s:d3):DN (t8 s):=by
 have h:=afM s;revert h;generalize t8 s=F;intro h;unfold wy at h;induction q:cL (λL=>(mU L (kF F)).map λb=>cond b [L] []) l5 with
 |none=>replace h:=q▸h;exact zF h
 |some N=>replace h:=q▸h;exact xA (cg h) λh1 h2=>xA (afN q) λi1 i2=>⟨i1,(pB h1).trans (congrArg aa i2),(pB h2).trans (by refine rE i2 ?_;rfl)⟩
noncomputable def DO(M:cP):Option (List Lk):=(cL (pg M) [[]]).bind λa=>(cL (pg M) a).bind λb=>cL (pg M) b
noncomputable def ue(row:ax):List (List Nat):=row.map λc=>(bM 6).filter λj=>oi [c,row.getD j 0]
noncomputable def l6(c:Nat)(row:ax):Nat:=(row.filter (az c)).length
noncomputable def JP(row:ax):Bool:=az (l6 97 row) (l6 65 row)&&az (l6 98 row) (l6 66 row)
noncomputable def JQ(row:ax):Bool:=cond (JP row) (match DO (ue row)with|none=>ag|some Ls=>Ls == l5.filter (dZ (mX row))&& !Ls.isEmpty) ae
noncomputable def JR(P:List Nat→Bool):Nat→List Nat→Bool
 |0,l=>P l
 |n+1,l=>[97,65,98,66].all λc=>JR P n (c::l)
theorem afP(P:List Nat→Bool):∀ (n:Nat) (w l:ax),w.length=n→(∀c∈w,c=97∨c=98∨c=65∨c=66)→JR P n l→P (w.reverse++l):=by
 intro n;induction n with
 |zero=>intro w l hl _ h;exact rE (wF hl) h
 |succ n ih=>
  intro w l hl hc h;induction w using bj with
  |nil=>cases hl
  |cons c w=>
   refine rE air (rE (d5 ..) ?_);refine ih w (c::l) (yK hl) (λx hx=>hc x (cf _ hx)) (fj.mp h c ?_);rcases hc c bG with rfl|rfl|rfl|rfl<;>decide
theorem afQ:JR JQ 6 []:=by kernel_rfl
theorem SE{x y:α}:∀ {k:Nat}{l:List α},y∈jl x k l→y=x∨y∈l:=by
 intro k;induction k with
 |zero=>exact λh=>bE.mp h
 |succ k ih=>
  intro l h;induction l using bj with
  |nil=>exact bE.mp h
  |cons z l=>
   rcases bE.mp h with rfl|h
   ·exact .inr bG
   ·exact(ih h).imp id (cf _)
theorem uf(c x:Nat):∀ (k:Nat) (l:ax),l6 c (jl x k l)=l6 c l+cond (az c x) 1 0:=by
 have e:∀ (y:Nat) (l:ax),l6 c (y::l)=l6 c l+cond (az c y) 1 0:=λy l=>by unfold l6;refine rE uH ?_;cases az c y<;>rfl
 intro k;induction k with
 |zero=>exact λl=>e x l
 |succ k ih=>
  intro l;induction l using bj with
  |nil=>exact e x []
  |cons z l=>show l6 c (z::jl x k l)=_;exact rE (e ..) (rE (e ..) (rE (ih ..) (rE (Ka ..) rfl)))
theorem SF(x:Nat):x%4=0∨x%4=1∨x%4=2∨x%4=3:=Vz _ (jX _ (by decide))
structure AJ(row:ax):Prop where
 ch:∀c∈row,c=97∨c=98∨c=65∨c=66
 a:l6 97 row=l6 65 row
 b:l6 98 row=l6 66 row
theorem AJ.step(g:AJ row)(x:Nat):AJ (so row x):=by
 have hc:(c1 x=97∧c2 x=65)∨(c1 x=65∧c2 x=97)∨(c1 x=98∧c2 x=66)∨(c1 x=66∧c2 x=98):=by
  unfold c1 c2;rcases SF x with q|q|q|q<;>refine rE q ?_<;>decide
 unfold so;revert hc;generalize c1 x=u;generalize c2 x=v;intro hc;refine⟨λc h=>?_,?_,?_⟩
 ·rcases SE h with rfl|h
  ·lia
  ·rcases SE h with rfl|h
   ·lia
   ·exact g.ch c h
 ·refine rE (uf ..) ?_;refine rE (uf ..) ?_;refine rE (uf ..) ?_;refine rE (uf ..) ?_;refine rE g.a ?_;rcases hc with⟨rfl,rfl⟩| ⟨rfl,rfl⟩| ⟨rfl,rfl⟩| ⟨rfl,rfl⟩<;>rfl
 ·refine rE (uf ..) ?_;refine rE (uf ..) ?_;refine rE (uf ..) ?_;refine rE (uf ..) ?_;refine rE g.b ?_;rcases hc with⟨rfl,rfl⟩| ⟨rfl,rfl⟩| ⟨rfl,rfl⟩| ⟨rfl,rfl⟩<;>rfl
theorem SG(s:d3):AJ (rowOf s):=(((⟨λZ h=>(nomatch h),rfl,rfl⟩:AJ []).step s.a).step s.b).step s.c
theorem SH(s:d3):(rowOf s).length=6:=by unfold rowOf;refine rE (sq ..) (rE (sq ..) (rE (sq ..) ?_));rfl
theorem afR(s:d3):pj (rowOf s):=⟨SH s,(SG s).ch⟩
structure Links(row:ax)(Ls:List Lk):Prop where
 run:DO (ue row)=aa Ls
 eq:Ls=l5.filter (dZ (mX row))
 ne:Ls≠[]
theorem afS(s:d3):∃Ls,Links (rowOf s) Ls:=by
 have g:=SG s;have h:=afP JQ 6 (rowOf s).reverse [] (rE K4 (SH s)) (λc hc=>g.ch c (KI.mp hc)) afQ;replace h:=(eg ..)▸(aix ..)▸h;revert h g;generalize rowOf s=row;intro g h;unfold JQ at h;have:JP row:=by unfold JP;refine rE g.a (rE g.b (rE (nc ..) (rE (nc ..) ?_)));rfl
 replace h:=this▸h;induction q:DO (ue row)with
 |none=>replace h:=q▸h;exact zF h
 |some Ls=>replace h:=q▸h;refine xA (cg h) λh1 h2=>⟨Ls,q,pB h1,λe=>?_⟩;replace h2:=e▸h2;exact zF h2
noncomputable def yo(L:Lk)(k:Nat):Bool:= !L.any λp=>aU p.1 k&&aX k p.2
noncomputable def SJ(L:Lk)(t:Nat):Bool:=lX (λa b=>lEq (bS a) (bS b)) (mT L t) [ae,ae,ae]
noncomputable def asks(L:Lk):List Bool:=[r7 (dG ag [34,40]) (lW (oe L 0) 0),r7 (dG ag [34]) (lW (oe L 0) 0)]++(pE 1 5).map λk=>r7 [] (lW ((oe L 0).drop k++(oe L 0).take k) 0)
noncomputable def yp(L:Lk):Bool:=aX L.length 10&&L.all λp=>aU p.1 6&&(aU p.2 6&& !Nat.beq p.1 p.2)
noncomputable def afT(L:Lk):Bool:=((bM 6).all λt=>SJ L t == jy L)&&(yp L&&asks L == [ag]++(bM 6).map (yo L))
theorem afU:l5.all afT:=by kernel_rfl
structure SK(L:Lk):Prop where
 told:∀t,t<6→SJ L t=jy L
 yp:Rq L
 ask:asks L=[ag]++(bM 6).map (yo L)
theorem SM{L:Lk}(h:L∈l5):SK L:=by refine xA (cg (fj.mp afU L h)) λh1 h2=>xA (cg h2) λh2 h3=>xA (cg h2) λh4 h5=>⟨λt ht=>pB (fj.mp h1 t (lq.mpr ht)),⟨bc h4,λp hp=>?_⟩,pB h3⟩;refine xA (cg (fj.mp h5 p hp)) λa b=>xA (cg b) λb c=>⟨bc a,bc b,λe=>?_⟩;replace c:=e▸c;replace c:=(nc ..)▸c;exact zF c
theorem afV(l:List Int):Bw (l.map .int)=aa l:=by
 induction l with
 |nil=>rfl
 |cons i l ih=>exact cA ih
theorem afW(k:Nat)(xs:List α):∀j,(jF k j xs).length≤xs.length:=by
 induction xs with
 |nil=>intro j;induction j<;>exact bZ _
 |cons x xs ih=>
  intro j;induction j using ll with
  |zero=>exact m4 (ih k)
  |succ j=>exact Ba (ih j)
theorem afX(f:α→β)(k:Nat)(xs:List α):∀j,jF k j (xs.map f)=(jF k j xs).map f:=by
 induction xs with
 |nil=>intro j;induction j<;>rfl
 |cons x xs ih=>
  intro j;induction j using ll with
  |zero=>exact congrArg (f x:: ·) (ih k)
  |succ j=>exact ih j
noncomputable def m6(x:Int):Int:=x.fmod 1000000
theorem SN(x:Int):0≤m6 x∧m6 x<1000000:=by unfold m6;rw[EP _ (by decide)];exact⟨Int.emod_nonneg _ (by decide),Int.emod_lt_of_pos _ (by decide)⟩
noncomputable def sumK(st:Int)(k:Nat)(l:List Int):Nat:=(m6 (st+uQ ((jF 5 0 ((l.take 60).drop k)).map m6))).toNat
noncomputable def SP:RE:=.comp [7] (.one 7) (.data (.cw 54 (.some (.var 13)) (.some (.lit (.int 60))) (.some (.lit (.int 6))))) .nil .nil (.bin .mod (.var 7) (.lit (.int 1000000)))
noncomputable def SQ:RE:=.bin .mod (.bin .add (.aG 1 (.var 13)) (.prim .sum (.cons SP .nil))) (.lit (.int 1000000))
theorem afY{st:List Int}{l:List Int}{x:Int}(g1:get ρ 1=aa (.val (.list (st.map .int))))(AK:get ρ 54=aa (.val (.list (l.map .int))))(oj:get ρ 13=aa (.val (nD k)))(hx:st[k]? =aa x)(hl:l.length≤63)(hk:k<1000):
  ev tok C hs SQ ρ=aa (nD (sumK x k l),ae):=by
 obtain⟨m,hm⟩:∃m,m=jF 5 0 ((l.take 60).drop k):=⟨_,rfl⟩;have hlen:m.length≤63:=by refine rE hm (aF (afW 5 _ 0) (rE uu (rE qG (aF (qD ..) (aF (um ..) hl)))))
 have e1:fO tok C hs (.data (.cw 54 (.some (.var 13)) (.some (.lit (.int 60))) (.some (.lit (.int 6))))) ρ=aa (m.map .int,ae):=by
  have e:m.map fX=jF 5 0 (((l.map fX).take 60).drop k):=rE hm (rS wW (rS yO (rE (afX ..) rfl)))
  refine rE e (eP (jR (eK AK) (gW (aA oj)) (gW (aK _)) (gW (aK _)) (du _ ?_)));show(ly (aa (k:Int))&&ae&&aX (l.map fX).length big);exact rE (Au (ew hk (by decide))) (rE (aQ ..) (bO (aF hl (by decide))))
 have e2:ev tok C hs SP ρ=aa (.list (m.map λi=>.int (m6 i)),ae):=ij e1 (λZ Z=>rfl) (λy Z=>bk (aA gS) (aK _) rfl) (aF hlen (by decide));have e3:gQ .sum [.list (m.map λi=>.int (m6 i))]=aa (.int (uQ (m.map m6)),ae):=by refine rE (show(m.map λi=>fX (m6 i))=(m.map m6).map .int by refine rE dJ ?_;rfl) ?_;refine(cA (afV _)).trans (du _ ?_);refine rE (aQ ..) (rE (show aU m.length 1000000 from bO (jh hlen (by decide))) (rE (EH ..) ?_));rw[fj];intro i hi;refine aD (fk.mp hi) λj Z e9=>?_;subst e9;have h:=SN j;exact bO (Vg (ew (UY.mp (by rw[Int.natAbs_of_nonneg h.1];exact h.2:((m6 j).natAbs:Int)<((1000000:Nat):Int))) (by decide)))
 unfold sumK;refine rS hm (rE (show nD (m6 (x+uQ (m.map m6))).toNat=.int (m6 (x+uQ (m.map m6)))from congrArg fX (Kf (SN _).1)) ?_);exact bk (bk (dp g1 (aA oj) (lh (d:=.int x) (by refine rE (l8) ?_;refine rE hx ?_;rfl) (ew hk (by decide)))) (gH e2 e3) rfl) (aK _) rfl
noncomputable def SR(l:List Int):d3:=⟨sumK 101 0 l,sumK 209 1 l,sumK 311 2 l,sumK 10 3 l,sumK 181 4 l,sumK 56634 5 l⟩
theorem afZ{l:List Int}(g1:get ρ 1=aa (.val (.list [.int 101,.int 209,.int 311,.int 10,.int 181,.int 56634])))(AK:get ρ 54=aa (.val (.list (l.map .int))))(hl:l.length≤63):
  ev tok C hs (.comp [13] (.one 13) (.dy (.lit (.int 6))) .nil .nil SQ) ρ=aa ((SR l).D,ae):=by
 refine ij (ys:=bM 6) (h:=nD) (g:=λk=>nD (sumK (([101,209,311,10,181,56634]:List Int).getD k 0) k l)) (r:=λk=>put (rem [13] ρ) 13 (.val (nD k))) (kz (n:=6) (aK _) (by decide)) (λZ Z=>rfl) (λk hk=>?_) (by decide);have hk:=lq.mp hk;refine afY (st:=[101,209,311,10,181,56634]) (gL rfl rfl g1) (gL rfl rfl AK) gS ?_ hl (ew hk (by decide));refine rE (m7) ?_;refine rE (lx (l:=([101,209,311,10,181,56634]:List Int)) hk) ?_;rfl
theorem SS{a b:RE}(h1:ev tok C hs a ρ=aa (nD i,ae))(h2:ev tok C hs b ρ=aa (nD j,ae))(hi:i<1000000)(hj:j<1000000):fO tok C hs (.range a b) ρ=aa ((pE i (j - i)).map nD,ae):=by
 refine(W.aS h1 (W.aS h2 (du _ ?_))).trans ?_
 ·show(decide (0≤(i:Int))&&aU i 1000000&&aU j 1000000);refine rE (decide_eq_true (jd i)) (rE (show aU i 1000000 from bO hi) (rE (show aU j 1000000 from bO hj) ?_));rfl
 ·show aa (kL i ((j:Int) - (i:Int)).toNat,ae)=_;refine rE (Int.toNat_sub ..) (rE (QF ..) ?_);rfl
noncomputable def uh(s:d3)(k:Nat):Nat:=[44,9,11,127].getD (s.f/3^k%4) 0
noncomputable def DP(s:d3)(n:Nat):List Nat:=(pE 1 (n - 1)).map (uh s)
theorem SU(s:d3)(k:Nat):[44,9,11,127][s.f/3^k%4]? =aa (uh s k)∧(uh s k=44∨uh s k=9∨uh s k=11∨uh s k=127):=by
 unfold uh;rcases SF (s.f/3^k)with q|q|q|q<;>refine rE q ?_<;>decide
theorem af0{s:d3}{xs:List D}(h8:get ρ 8=aa (.val s.D))(ke:get ρ 11=aa (.val (.list xs)))(hn:xs.length=n)(SV:n<9):
  ev tok C hs (.bin .add (.comp [13] (.one 13) (.range (.lit (.int 1)) (.bL 11)) .nil .nil (.sub (.lit (.str (aj [44,9,11,127]))) (.bin .mod (.bin .fdiv (.aG 8 (.lit (.int 5))) (.bin .pow (.lit (.int 3)) (.var 13))) (.lit (.int 4))))) (.list (.cons (.lit (.str (aj [92]))) .nil))) ρ=aa (.list ((DP s n++[92]).map λc=>S [c]),ae):=by
 have el:ev tok C hs (.bL 11) ρ=aa (nD n,ae):=by have:=kx (tk:=tok) (C:=C) (hs:=hs) (eK ke) (pd (by lia));rwa [hn]at this
 have e1:ev tok C hs (.comp [13] (.one 13) (.range (.lit (.int 1)) (.bL 11)) .nil .nil (.sub (.lit (.str (aj [44,9,11,127]))) (.bin .mod (.bin .fdiv (.aG 8 (.lit (.int 5))) (.bin .pow (.lit (.int 3)) (.var 13))) (.lit (.int 4))))) ρ=aa (.list ((pE 1 (n - 1)).map λk=>S [uh s k]),ae):=by refine ij (h:=nD) (r:=λk=>put (rem [13] ρ) 13 (.val (nD k))) (SS (i:=1) (aK _) el (by decide) (by lia)) (λZ Z=>rfl) (λk hk=>?_) (rE ES (aF (qD ..) (aF (d4 SV) (by decide))));have hk:k<9:=hZ (Vh.mp hk).2 (aF (qI (aF (qD ..) (uq SV)) 1) (by decide));have h3:3^k≤3^9:=yP (by decide) (d4 hk);exact tT (aK _) (bk (bk (dp (gL rfl rfl h8) (aK _) (z:=nD s.f) rfl) (bk (aK _) (aA gS) (Dr 3 k (by decide) (by lia))) (x9 _ _ (oF (K5 (by decide))) (jh h3 (by decide)))) (aK _) (pe _ 4 (by decide))) (Ji (SU s k).1 (by lia))
 refine(bk e1 (fF (bI (aK _) di)) (gk ?_)).trans ?_
 ·refine rE (aQ ..) (rE ES ?_);show n - 1+1≤_;lia
 ·unfold DP;refine rE dw (rE dJ ?_);rfl
theorem af1{h:Pc→List Nat}(h0:∀c,h (ip c)=[c])(lp:Nat→Pc):∀ (F:List T) (ss:ax),F.length=ss.length+1→(Vi (λt c=>(cG lp t).flatMap h++[c]) F (ss++[92])).flatten=(dI lp F ss).flatMap h++[92]:=by
 intro F;induction F with
 |nil=>exact λZ h=>(nomatch h)
 |cons t F ih=>
  intro ss hl;induction F using bj with
  |nil=>
   induction ss using bj with
   |nil=>show((cG lp t).flatMap h++[92])++[]=_;exact eg _
   |cons=>cases hl
  |cons u F=>
   induction ss using bj with
   |nil=>cases hl
   |cons c ss=>have:=ih ss (yK hl);show((cG lp t).flatMap h++[c])++(Vi _ (u::F) (ss++[92])).flatten=(cG lp t++[ip c]++dI lp (u::F) ss).flatMap h++[92];refine rE this (rE K6 (rE K6 (rE nj (rE (h0 ..) ?_))));simp only[d5,Va,eg]
theorem af2{γ:Type}(f:α→β→γ):∀ (xs:List α) (ys:List β),xs.length=ys.length→∀g:Nat→γ,(∀k a b,xs[k]? =aa a→ys[k]? =aa b→g k=f a b)→(bM xs.length).map g=Vi f xs ys:=by intro xs ys hl g hg;refine U1 (by refine rE (aQ ..) (rE qK (rE List.length_zipWith ?_));lia) λk h1 h2=>?_;replace h1:=qK▸(aQ ..)▸h1;refine rE (U2 ..) (rE (aiy ..) (rE List.getElem_zipWith ?_));exact hg k _ _ (lx h1) (lx (by lia))
theorem af3{lp:Nat→Pc}{ss:ax}(ke:get ρ 11=aa (.val (.list (F.map (bY lp)))))(mH:get ρ 12=aa (.val (.list ((ss++[92]).map λc=>S [c]))))(hl:F.length=ss.length+1)(hz:bK F≤12)(hb:(fe (dI lp F ss)).length≤900)(iC:(fh (dI lp F ss)).length≤900):
  ev tok C hs (.comp [19] (.one 19) (.data (.tup (.cons (.lit (.int 1)) (.cons (.lit (.int 2)) .nil)))) .nil .nil (.prim .join (.cons (.lit (.str (aj []))) (.cons (.comp [13] (.one 13) (.dy (.bL 11)) .nil .nil (.bin .add (.sub (.aG 11 (.var 13)) (.var 19)) (.aG 12 (.var 13)))) .nil)))) ρ=
   aa (.list [S (fe (dI lp F ss)++[92]),S (fh (dI lp F ss)++[92])],ae):=by
 have aiK:F.length≤12:=aF (Az F) hz;have go:∀ (i:Nat) (h:Pc→List Nat),(∀c,h (ip c)=[c])→(∀t,sz t≤12→((cG lp t).flatMap h).length≤900∧kK (bY lp t) (nD i)=aa (S ((cG lp t).flatMap h),ae))→((dI lp F ss).flatMap h).length≤900→
   ev tok C hs (.prim .join (.cons (.lit (.str (aj []))) (.cons (.comp [13] (.one 13) (.dy (.bL 11)) .nil .nil (.bin .add (.sub (.aG 11 (.var 13)) (.var 19)) (.aG 12 (.var 13)))) .nil))) (put (rem [19] ρ) 19 (.val (nD i)))=aa (S ((dI lp F ss).flatMap h++[92]),ae):=λi h h0 ht hb=>by
  have wx:get (put (rem [19] ρ) 19 (.val (nD i))) 11=aa (.val (.list (F.map (bY lp)))):=gL rfl rfl ke;have JN:get (put (rem [19] ρ) 19 (.val (nD i))) 12=aa (.val (.list ((ss++[92]).map λc=>S [c]))):=gL rfl rfl mH;have el:ev tok C hs (.bL 11) (put (rem [19] ρ) 19 (.val (nD i)))=aa (nD F.length,ae):=by have:=kx (tk:=tok) (C:=C) (hs:=hs) (eK wx) (pd (by refine rE (aQ ..) ?_;lia));rwa [aQ]at this
  have SW:F.length=(ss++[92]).length:=rE bt hl
  obtain⟨g,hg⟩:∃g:Nat→List Nat,g=λk=>(cG lp (F.getD k (.lf 0))).flatMap h++[(ss++[92]).getD k 0]:=⟨_,rfl⟩;have e1:ev tok C hs (.comp [13] (.one 13) (.dy (.bL 11)) .nil .nil (.bin .add (.sub (.aG 11 (.var 13)) (.var 19)) (.aG 12 (.var 13)))) (put (rem [19] ρ) 19 (.val (nD i)))=aa (.list ((bM F.length).map λk=>S (g k)),ae):=by
   refine ij (h:=nD) (r:=λk=>put (rem [13] (put (rem [19] ρ) 19 (.val (nD i)))) 13 (.val (nD k))) (kz el (by lia)) (λZ Z=>rfl) (λk hk=>?_) (by refine rE qK ?_;lia);have hk:=lq.mp hk;have hF:F[k]? =aa (F.getD k (.lf 0)):=by refine rE (m7) ?_;refine rE (lx hk) ?_;rfl
   have hS:(ss++[92])[k]? =aa ((ss++[92]).getD k 0):=by refine rE (m7) ?_;refine rE (lx (rS SW hk)) ?_;rfl
   have hz1:sz (F.getD k (.lf 0))≤12:=by have hm:F.getD k (.lf 0)∈F:=sI hF;have:bK [F.getD k (.lf 0)]≤bK F:=Ay (K2.mpr hm);exact aF (show sz _≤sz _+0 from bZ _) (aF this hz)
   exact xA (ht _ hz1) λt1 t2=>rE hg (bk (tT (dp (gL rfl rfl wx) (aA gS) (lh (d:=bY lp (F.getD k (.lf 0))) (by refine rE (l8) ?_;refine rE hF ?_;rfl) (by lia))) (aA (gL rfl rfl gS)) t2) (dp (gL rfl rfl JN) (aA gS) (lh (d:=S [(ss++[92]).getD k 0]) (by refine rE (l8) ?_;refine rE hS ?_;rfl) (by lia))) (sf _ [(ss++[92]).getD k 0] (by refine rE sR ?_;lia)))
  have e2:((bM F.length).map g).flatten=(dI lp F ss).flatMap h++[92]:=by refine rS (af1 h0 lp F ss hl) (congrArg List.flatten (af2 _ F (ss++[92]) SW g λk a b ha hb=>?_));refine rE hg ?_;dsimp only;refine rE (m7) ?_;refine rE ha (rE (m7) ?_);refine rE hb ?_;rfl
  have e3:gQ .join [S [],.list ((bM F.length).map λk=>S (g k))]=aa (S ((dI lp F ss).flatMap h++[92]),ae):=by have:=Av ((bM F.length).map g) (by refine rE e2 (rE bt (rE sR ?_));lia);replace this:=dJ▸e2▸this;exact this
  exact Aq (aK _) e1 e3
 have t0:∀t,sz t≤12→(cG lp t).length≤36:=λt ht=>aF (DH lp t) (yu 3 ht);refine(ij (ys:=[1,2]) (h:=nD) (g:=λi=>cond (az i 1) (S (fe (dI lp F ss)++[92])) (S (fh (dI lp F ss)++[92]))) (r:=λi=>put (rem [19] ρ) 19 (.val (nD i))) (Dg (tU (bI (aK _) (bI (aK _) di))) rfl) (λZ Z=>rfl) (λi hi=>?_) (show 2≤1000000 by decide));rcases bE.mp hi with rfl|hi
 ·exact go 1 Pc.txt (λZ=>rfl) (λt ht=>⟨aF (wd _) (by have:=t0 t ht;lia),rfl⟩) hb
 ·obtain rfl:=dK.mp hi;exact go 2 Pc.bare (λZ=>rfl) (λt ht=>⟨aF (we _) (by have:=t0 t ht;lia),rfl⟩) iC
theorem SX(a b:List T):iO (a++b)=iO a++iO b:=K6
theorem af4(s:d3):∀ (ks:ax) (F:List T),ks.length<F.length→(sr s ks F).length+ks.length=F.length∧bK (sr s ks F)=bK F+ks.length∧iO (sr s ks F)=iO F:=by
 intro ks;induction ks with
 |nil=>exact λZ Z=>⟨rfl,rfl,rfl⟩
 |cons k ks ih=>
  intro F hl;replace hl:=bT▸hl;have hw:s.e/5^k%(F.length - 1)<F.length - 1:=jX _ (by lia);obtain⟨p,a,b,r,hF,hp⟩:=JM (l:=F) (k:=s.e/5^k%(F.length - 1)) (by lia);obtain⟨m,hm⟩:∃m,jc s k F=p++ .nd m a b::r:=⟨_,by unfold jc;refine rS hp ?_;refine rE hF ?_;exact JL _ p r a b⟩;have h1:(jc s k F).length=p.length+(r.length+1):=by refine rE hm (rE bt ?_);rfl
  have h2:F.length=p.length+(r.length+1+1):=by refine rE hF (rE bt ?_);rfl
  have h3:bK (jc s k F)=bK p+(sz a+sz b+1+bK r):=by refine rE hm (rE (qv ..) ?_);rfl
  have h4:bK F=bK p+(sz a+(sz b+bK r)):=by refine rE hF (rE (qv ..) ?_);rfl
  have h5:iO (jc s k F)=iO F:=by refine rE hm (rE hF (rE (SX ..) (rE (SX ..) ?_)));show iO p++((hN a++hN b)++iO r)=iO p++(hN a++(hN b++iO r));exact rE (d5 ..) rfl
  exact mq (ih (jc s k F) (by lia)) λi1 i2 i3=>⟨by show(sr s ks (jc s k F)).length+(ks.length+1)=_;lia,by show bK (sr s ks (jc s k F))=_+(ks.length+1);lia,i3.trans h5⟩
structure wz(F:List T):Prop where
 len:F.length=1∨F.length=2∨F.length=3∨F.length=4
 z:bK F≤11
 lv:iO F=pE 0 6
theorem af5:∀d<4,∀n<7,n+(2+d)=6→n=1∨n=2∨n=3∨n=4:=by decide
theorem af6(s:d3):wz (t8 s):=by have h4:s.d%4<4:=jX _ (by decide);obtain⟨h1,h2,h3⟩:=af4 s (bM (2+s.d%4)) F0 (by refine rE qK ?_;show _<6;lia);rw[qK]at h1 h2;have h1:(t8 s).length+(2+s.d%4)=6:=h1;have h2:bK (t8 s)=6+(2+s.d%4):=h2;exact⟨af5 _ h4 _ (EL (aF (nh ..) (sF h1))) h1,by rw[h2];exact qI (qI (uq h4) 2) 6,h3⟩
theorem af7{t:T}(h:∀k∈hN t,k<6):qu t:=by
 induction t with
 |lf k=>exact bO (h k bG)
 |nd m a b kB kC=>exact fJ.mpr ⟨kB λk hk=>h k (A7 _ hk),kC λk hk=>h k (yI _ hk)⟩
theorem wz.gd(f:wz F):Gd F:=
 ⟨aF f.z (by decide),λt ht=>af7 λk hk=>by
  have:k∈iO F:=yN.mpr ⟨t,ht,hk⟩;replace this:=f.lv▸this;have:=Vh.mp this;lia⟩
theorem SY(t:T):cn t+1≤sz t:=by
 induction t with
 |lf=>exact bZ _
 |nd m a b kB kC=>show cn a+cn b+1+1≤sz a+sz b+1;lia
theorem wz.cn(f:wz F){t:T}(ht:t∈F):Ev.cn t≤10:=by have h1:bK [t]≤bK F:=Ay (K2.mpr ht);have h2:sz t≤bK [t]:=bZ (sz t);have:=SY t;have:=f.z;lia
section
variable{lp:Nat→Pc}
theorem S0(h:∀k,k<6→Ck (lp k).c):∀ {t:T},qu t→∀p∈cG lp t,Ck p.c:=by
 have hm:∀m,Ck (ip (sg m)).c:=λm=>by induction m<;>exact .inr (by decide)
 have o1:Ck (ip 40).c:=.inr (by decide);have o2:Ck (ip 41).c:=.inr (by decide);intro t;induction t with
 |lf k=>intro ht p hp;exact rE (dK.mp hp) (h k (bc ht))
 |nd m a b kB kC=>
  intro ht p hp;refine xA (cg ht) λh1 h2=>?_;rcases gp.mp hp with hp|hp
  ·rcases gp.mp hp with hp|hp
   ·rcases gp.mp hp with hp|hp
    ·rcases gp.mp hp with hp|hp
     ·exact rE (dK.mp hp) o1
     ·exact kB h1 p hp
    ·exact rE (dK.mp hp) (hm m)
   ·exact kC h2 p hp
  ·exact rE (dK.mp hp) o2
noncomputable def Sep(c:Nat):Prop:=c=44∨c=9∨c=11∨c=127
theorem Sep.ck{c:Nat}(h:Sep c):Ck c:=by
 rcases h with rfl|rfl|rfl|rfl
 ·exact .inr (by decide)
 all_goals exact .inl (by decide)
theorem af8(h:∀k,k<6→Ck (lp k).c):∀ (F:List T) (ss:ax),(∀c∈ss,Sep c)→(∀t∈F,qu t)→∀p∈dI lp F ss,Ck p.c:=by
 intro F;induction F with
 |nil=>exact λZ Z Z Z h=>(nomatch h)
 |cons t F ih=>
  intro ss hs hF p hp;induction F using bj with
  |nil=>exact S0 h (hF t bG) p hp
  |cons u F=>
   rcases gp.mp hp with hp|hp
   ·rcases gp.mp hp with hp|hp
    ·exact S0 h (hF t bG) p hp
    ·refine rE (dK.mp hp) ?_;induction ss using bj with
     |nil=>exact .inr (.inr (.inl rfl))
     |cons c ss=>exact(hs c bG).ck
   ·exact ih ss.tail (λc hc=>hs c (aiv hc)) (λt ht=>hF t (cf _ ht)) p hp
theorem af9:∀ (F:List T) (ss:ax),(dI lp F ss).length≤4 * bK F:=by
 intro F;induction F with
 |nil=>exact λZ=>eo _
 |cons t F ih=>
  intro ss;have h1:=DH lp t;have h2:=RL t;induction F using bj with
  |nil=>show(cG lp t).length≤4 * (sz t+0);lia
  |cons u F=>have:=ih ss.tail;show(cG lp t++[ip (ss.headD 44)]++dI lp (u::F) ss.tail).length≤4 * (sz t+bK (u::F));refine rE bt (rE bt (rE sR ?_));lia
end
theorem agb(ps:List Pc):(mS ps).length≤2 * ps.length:=by
 induction ps with
 |nil=>exact bZ _
 |cons p ps ih=>
  have:p.us.length≤2:=by
   have h:(i0 p.h).length≤1:=by unfold i0;split<;>exact bc rfl
   unfold Pc.us;cases p.f
   ·show(i0 p.h++[[p.c]]).length≤2;refine rE bt (rE sR ?_);lia
   ·show([[p.c]]++i0 p.h).length≤2;refine rE bt (rE sR ?_);lia
  show(p.us++mS ps).length≤2 * (ps.length+1);refine rE bt ?_;lia
theorem agc{c:Nat}(h:c=97∨c=98∨c=65∨c=66):Ck c∧isLet c:=by
 rcases h with rfl|rfl|rfl|rfl<;>exact⟨.inl (by decide),rfl⟩
structure S1(lp:Nat→Pc)(F:List T)(ss:ax):Prop where
 ck:∀p∈dI lp F ss,Ck p.c
 len:(dI lp F ss).length≤44
theorem agd{lp:Nat→Pc}{ss:ax}(hr:pj row)(sm:∀k,k<6→(lp k).c=row.getD k 0)(f:wz F)(hs:∀c∈ss,Sep c):S1 lp F ss∧∀n,qY tok aH (run tok aH (n+1)) 6 [S (fh (dI lp F ss)++[92])] []=aa ((.list (F.map tD),bh row),ae):=by
 have ch:∀k,k<6→row[k]? =aa (lp k).c∧(Ck (lp k).c∧isLet (lp k).c):=λk hk=>by have h1:=(hr.at hk).1;exact rE (sm k hk) ⟨h1,agc (hr.ch _ (sI h1))⟩
 have X:S1 lp F ss:=⟨af8 (λk hk=>(ch k hk).2.1) F ss hs f.gd.l,aF (af9 F ss) (yu 4 f.z)⟩;refine⟨X,λn=>?_⟩;have hb:=we (dI lp F ss);have hu:=agb (dI lp F ss);have hl:=X.len;have e:=afu X.ck (([],[]):List Nat × List PI);have e2:=afv (row:=row) (lp:=lp) hr.len (λk hk=>⟨(ch k hk).1,(ch k hk).2.2⟩) F ss 0 [] hs (by refine rE f.lv ?_;rfl) (by refine rE f.lv ?_;decide);have e3:gI kD ([],[]) (mS (dI lp F ss))=aa (row,(F.map PI.tr).reverse):=by refine rE e (e2.trans (rE f.lv (rE (eg ..) (rE (show 0+(pE 0 6).length=row.length by refine rE hr.len ?_;rfl) ?_))));exact rE Kh rfl
 refine(afs n (fh (dI lp F ss)) (mS (dI lp F ss)) (Q1 (λp hp=>(X.ck p hp).sg) [92]) (ad7 _) (aft X.ck) (by lia) (by lia) e3).trans ?_;show aa ((dQ (((F.map PI.tr).reverse).reverse.map JC),bh row),ae)=_;refine rE (aix ..) (rE dJ ?_);rfl
structure Sf(k:Nat)(d:D):Prop where
 DQ:c8 k d
 eq:dT d d
theorem Sf.str{l:ax}(h:∀c∈l,c<1114112)(k:Nat):Sf k (S l):=⟨Dw h k,by refine rE (yf ..) ?_;exact tS l⟩
theorem S2{xs:List D}(h:∀x∈xs,Sf k x):Bo xs xs:=by
 induction xs with
 |nil=>rfl
 |cons x xs ih=>show(dT x x&&Bo xs xs);refine rE ((h x bG).eq) (rE (ih λy hy=>h y (cf _ hy)) ?_);rfl
theorem Sf.list{xs:List D}(h:∀x∈xs,Sf k x):Sf (k+1) (.list xs):=⟨.list λx hx=>(h x hx).DQ,S2 h⟩
theorem Sf.tuple{xs:List D}(h:∀x∈xs,Sf k x):Sf (k+1) (.tuple xs):=⟨.tuple λx hx=>(h x hx).DQ,S2 h⟩
theorem Sf.ne{xs:List D}(h:∀x∈xs,Sf k x)(hk:k<64):gO .ne (.list xs) (.list xs)=aa (ag,ae):=by have s:=Sf.list h;show sU (W.need (dT (.list xs) (.list xs)) (c9 (.list xs)&&c9 (.list xs)))=_;refine rE s.eq (rE (s.DQ.ok hk) ?_);rfl
theorem age(t:T):dT (tD t) (tD t):=by
 induction t with
 |lf k=>exact(se k k).trans (nc k)
 |nd m a b kB kC=>show(dT (S [sg m]) (S [sg m])&&(dT (tD a) (tD a)&&(dT (tD b) (tD b)&&ae)));refine rE kB (rE kC (rE (yf ..) (rE (tS ..) ?_)));rfl
theorem S3(a b:ax):gO .ne (S a) (S b)=aa (!lEq a b,ae):=by show sU (W.ret (lEq (sL (aj a)) (sL (aj b))))=_;refine rE (v7 ..) (rE (v7 ..) ?_);rfl
theorem agf(h:bK F≤12):gO .ne (.list (F.map tD)) (.list (F.map tD))=aa (ag,ae):=by refine Sf.ne (k:=12) (λx hx=>?_) (by decide);refine aD (fk.mp hx) λt ht e9=>?_;subst e9;have h1:bK [t]≤bK F:=Ay (K2.mpr ht);exact⟨(RM t).mono (aF (show sz t≤bK [t]from bZ (sz t)) (aF h1 h)),age t⟩
theorem agg(row:ax):row.zipIdx=(bM row.length).map λj=>(row.getD j 0,j):=by refine U1 (rE ER (rE (aQ ..) (rE qK rfl))) λk h1 h2=>?_;replace h1:=ER▸h1;refine rE (List.getElem_zipIdx ..) (rE (U2 ..) (rE (aiy ..) (rE (m7) ?_)));refine rE (lx h1) ?_;refine rE (lj ..) ?_;rfl
theorem S4{P:Nat→Prop}(h0:P 0)(h1:P 1)(h2:P 2)(h3:P 3)(h4:P 4)(h5:P 5):∀n,n<6→P n:=by
 intro n h;exact match n,h with|0,_=>h0|1,_=>h1|2,_=>h2|3,_=>h3|4,_=>h4|5,_=>h5|n+6,h=>absurd h (pz.mpr (uG 6 n))
noncomputable def kS(j:Nat):D:=S (cQ (j:Int))
theorem S5:∀j,j<6→gQ .int [kS j]=aa (nD j,ae):=S4 rfl rfl rfl rfl rfl rfl
theorem agh:∀j,j<6→gQ .str [nD j]=aa (kS j,ae):=λj h=>(Sl j (yw h)).2
theorem agi:∀j,j<6→Sf 0 (kS j):=S4 (.str (by decide) 0) (.str (by decide) 0) (.str (by decide) 0) (.str (by decide) 0) (.str (by decide) 0) (.str (by decide) 0)
noncomputable def S6(row:ax)(k:Nat):D:=.tuple [S [row.getD k 0],kS k]
theorem JS(row:ax):bh row=(bM row.length).map λj=>(aj [row.getD j 0],aj (cQ (j:Int))):=by unfold bh;refine rE (agg ..) (rE dJ ?_);rfl
theorem S7(hr:pj row)(hk:k<6):(row.map λc=>S [c])[k]? =aa (S [row.getD k 0]):=by refine rE (l8) ?_;refine rE ((hr.at hk).1) ?_;rfl
theorem agj(hr:pj row)(vD:get ρ 21=aa (.cU 0))(fS:get ρ 10=aa (.val (ik row))):ev tok C [bh row] (.cmp (.oH 21) (.cons .ne (.comp [13] (.one 13) (.dy (.lit (.int 6))) .nil .nil (.tup (.cons (.aG 10 (.var 13)) (.cons (.prim .str (.cons (.var 13) .nil)) .nil)))) .nil)) ρ=aa (.bool ag,ae):=by
 have e1:ev tok C [bh row] (.oH 21) ρ=aa (.list ((bM 6).map (S6 row)),ae):=by
  refine(cA (m:=ml [bh row] ρ 21) (a:=bh row) (cA (xW vD))).trans ((du _ ?_).trans ?_)
  ·refine rE (wj ..) (rE hr.len ?_);rfl
  ·refine rE (JS ..) (rE hr.len (rE dJ ?_));rfl
 refine cS e1 (y:=.list ((bM 6).map (S6 row))) ?_ (Sf.ne (k:=1) (λx hx=>?_) (by decide))
 ·refine ij (h:=nD) (r:=λk=>put (rem [13] ρ) 13 (.val (nD k))) (kz (n:=6) (aK _) (by decide)) (λZ Z=>rfl) (λk hk=>?_) (by decide);have hk:=lq.mp hk;exact tU (bI (dp (gL rfl rfl fS) (aA gS) (lh (S7 hr hk) (by lia))) (bI (gH (aA gS) (agh k hk)) di))
 ·refine aD (fk.mp hx) λk hk e9=>?_;subst e9;have hk:=lq.mp hk;refine .tuple λx hx=>?_;rcases bE.mp hx with rfl|hx
  ·refine .str (λc hc=>?_) 0;have:=(hr.at hk).2;refine rE (dK.mp hc) ?_;lia
  ·exact rE (dK.mp hx) (agi k hk)
theorem agk(row:ax)(c:Nat):∀ks:ax,f9 (ks.map λj=>(aj [row.getD j 0],aj (cQ (j:Int)))) [c]=(ks.filter λj=>lEq (da [row.getD j 0]) (da [c])).map kS:=by
 intro ks;induction ks with
 |nil=>rfl
 |cons j ks ih=>show cond (lEq (da (sL (aj [row.getD j 0]))) (da [c])) (.str (aj (cQ (j:Int)))::f9 _ [c]) (f9 _ [c])=_;refine rE ih (rE (v7 ..) (rE uH ?_));cases lEq (da [row.getD j 0]) (da [c])<;>rfl
theorem agl{r c:Nat}(hr:r=97∨r=98∨r=65∨r=66)(hc:c=97∨c=98∨c=65∨c=66):(!lEq [r] [c]&&lEq (da [r]) (da [c]))=oi [c,r]:=by
 rcases hr with rfl|rfl|rfl|rfl<;>rcases hc with rfl|rfl|rfl|rfl<;>rfl
theorem S8{c:Nat}(hc:c=97∨c=98∨c=65∨c=66):keyOk (aj [c]):=by rcases hc with rfl|rfl|rfl|rfl<;>rfl
theorem agm(hr:pj row):qX (bh row):=by refine fJ.mpr ⟨fj.mpr λp hp=>?_,by refine rE (wj ..) ?_;refine rE hr.len ?_;rfl⟩;replace hp:=(JS ..)▸hp;refine aD (fk.mp hp) λk hk e9=>?_;subst e9;replace hk:=hr.len▸hk;exact S8 (hr.ch _ (sI (hr.at (lq.mp hk)).1))
theorem agn(hr:pj row)(vD:get ρ 21=aa (.cU 0))(fS:get ρ 10=aa (.val (ik row))):
  ev tok C [bh row] (.comp [27] (.one 27) (.data (.var 10)) .nil .nil (.comp [63] (.one 63) (.data (.jE 21 (.var 27))) (.cons (.cmp (.aG 10 (.prim .int (.cons (.var 63) .nil))) (.cons .ne (.var 27) .nil)) .nil) .nil (.prim .int (.cons (.var 63) .nil)))) ρ=aa (lY (ue row),ae):=by
 have e:lY (ue row)=.list (row.map λc=>dP ((bM 6).filter λj=>oi [c,row.getD j 0])):=by unfold lY ue;refine rE dJ ?_;rfl
 refine rE e (ij (h:=λc=>S [c]) (r:=λc=>put (rem [27] ρ) 27 (.val (S [c]))) (eP (aA fS)) (λZ Z=>rfl) (λc hc=>?_) (by refine rE hr.len ?_;decide));have hc:=hr.ch c hc;have sj:get (put (rem [27] ρ) 27 (.val (S [c]))) 21=aa (.cU 0):=gL rfl rfl vD;have iN:get (put (rem [27] ρ) 27 (.val (S [c]))) 10=aa (.val (ik row)):=gL rfl rfl fS;have e1:ev tok C [bh row] (.jE 21 (.var 27)) (put (rem [27] ρ) 27 (.val (S [c])))=aa (.list (((bM 6).filter λj=>lEq (da [row.getD j 0]) (da [c])).map kS),ae):=by
  refine(cA (m:=ml [bh row] _ 21) (a:=bh row) (cA (xW sj))).trans (W.aS (aA gS) ((du _ ?_).trans ?_))
  ·refine rE (S8 hc) (rE (agm hr) ?_);rfl
  ·exact rE (v7 ..) (rE (JS ..) (rE hr.len (rE (agk ..) rfl)))
 have lt:∀j∈(bM 6).filter λj=>lEq (da [row.getD j 0]) (da [c]),j<6:=λj hj=>lq.mp (yQ.mp hj).1;refine(pb (h:=kS) (g:=nD) (p:=λj=> !lEq [row.getD j 0] [c]) (r:=λj=>put (rem [63] (put (rem [27] ρ) 27 (.val (S [c])))) 63 (.val (kS j))) (eP e1) (λZ Z=>rfl) (λj hj=>?_) (λj hj Z=>gH (aA gS) (S5 j (lt j hj))) ?_).trans ?_
 ·exact qr (cS (dp (gL rfl rfl iN) (gH (aA gS) (S5 j (lt j hj))) (lh (S7 hr (lt j hj)) (by have:=lt j hj;lia))) (aA (gL rfl rfl gS)) (S3 _ _))
 ·exact aF (wV _ _) (by decide)
 ·refine rE K7 (congrArg (λl=>aa (dQ (l.map nD),ae)) (aiz λj hj=>?_));exact agl (hr.ch _ (sI (hr.at (lq.mp hj)).1)) hc
theorem ago{f:α→Option (List β)}:∀ {xs:List α}{R:List β},cL f xs=aa R→(∀x∈xs,f x=aa ((f x).getD []))∧R=xs.flatMap λx=>(f x).getD []:=by
 intro xs;induction xs with
 |nil=>intro R h;replace h:=iJ h;subst h;exact⟨λZ h=>(nomatch h),rfl⟩
 |cons x xs ih=>
  intro R h;refine oE h λa h1 h2=>oE h2 λb h3 h4=>?_;replace h4:=iJ h4;subst h4;refine xA (ih h3) λi1 i2=>⟨λy hy=>?_,?_⟩
  ·rcases bE.mp hy with rfl|hy
   ·refine rE h1 ?_;rfl
   ·exact i1 y hy
  ·refine rE nj (rE h1 (rS i2 ?_));rfl
noncomputable def JT:RE:=.comp [30,64] (.one 30) (.data (.var 58)) .nil (.cons (.one 64) (.data (.call 7 (.cons (.var 30) (.cons (.var 31) .nil)))) .nil .nil) (.var 64)
theorem JU{M:cP}{A R:List Lk}(JV:get ρ 58=aa (.val (.list (A.map aJ))))(wA:get ρ 31=aa (.val (lY M)))(hA:∀L∈A,L.length≤100)(hM:∀m∈M,m.length≤1000)(h:cL (pg M) A=aa R)(hR:R.length≤1000000):
  ev tok (run tok aH (n+1)) hs JT ρ=aa (.list (R.map aJ),ae):=by
 refine xA (ago h) λi1 i2=>?_;have i3:R.map aJ=A.flatMap λL=>(((pg M L).getD []).filter λZ=>ae).map aJ:=rE i2 (rE K1 (congrArg (λf=>A.flatMap f) (funext λL=>by exact rE (U4.mpr λZ Z=>rfl) rfl)))
 refine rE i3 ?_;refine Dq (h:=aJ) (r:=λL=>put (rem [30,64] ρ) 30 (.val (aJ L))) (zs:=λL=>(pg M L).getD []) (h2:=aJ) (p:=λZ Z=>ae) (g:=λZ=>aJ) (r2:=λL L'=>put (put (rem [30,64] ρ) 30 (.val (aJ L))) 64 (.val (aJ L'))) (eP (aA JV)) (λZ Z=>rfl)
  (λL hL=>?_) (λZ Z Z Z=>rfl) (λZ Z Z Z=>rfl) (λZ Z Z Z Z=>aA gS) ?_
 ·exact eP ((IP (aA gS) (aA (gL rfl rfl wA))).trans (aeH n (hA L hL) hM (i1 L hL)))
 ·exact rS i3 (rE (aQ ..) hR)
theorem agp{M:cP}{L:Lk}{R:List Lk}(h:pg M L=aa R)(hM:∀m∈M,m.length≤6):R.length≤6∧∀L'∈R,L'.length=L.length+1:=by
 unfold pg at h;induction q:(bM 6).filter (free L)using bj with
 |nil=>exact zN (q▸h)
 |cons f r=>
  replace h:=q▸h;have h:(M[f]?).map (λms=>(ms.filter (free L)).map λq=>L++[(f,q)])=aa R:=h;induction q2:M[f]? with
  |none=>exact zN (q2▸h)
  |some ms=>
   replace h:=iJ (q2▸h);subst h;refine⟨?_,λL' h=>?_⟩
   ·exact rE (aQ ..) (aF (wV _ _) (hM ms (sI q2)))
   ·refine aD (fk.mp h) λx Z e9=>?_;subst e9;refine rE bt ?_;rfl
theorem JW{M:cP}(hM:∀m∈M,m.length≤6){A R:List Lk}(hA:∀L∈A,L.length=k)(h:cL (pg M) A=aa R):R.length≤A.length * 6∧∀L∈R,L.length=k+1:=by
 induction A generalizing R with
 |nil=>replace h:=iJ h;subst h;exact⟨bZ _,λZ h=>nomatch h⟩
 |cons L A ih=>
  refine oE h λa h1 h2=>oE h2 λb h3 h4=>?_;replace h4:=iJ h4;subst h4;refine xA (ih (λL hL=>hA L (cf _ hL)) h3) λi1 i2=>xA (agp h1 hM) λj1 j2=>⟨by refine rE bt ?_;refine rE bT ?_;lia,λL' h=>?_⟩;rcases gp.mp h with h|h
  ·exact rE (j2 L' h) (rE (hA L bG) rfl)
  ·exact i2 L' h
theorem agq{M:cP}{Ls:List Lk}(hM:∀m∈M,m.length≤6)(h:DO M=aa Ls)(JV:get ρ 58=aa (.val (.list [.list []])))(wA:get ρ 31=aa (.val (lY M))):
  ∃ρ',dE (dH (run tok aH (n+1)) CH (.one 13) (.cons (.asg 58 JT) .nil)) [nD 0,nD 1,nD 2] ρ hs=aa (.next ρ' hs,ae)∧get ρ' 58=aa (.val (.list (Ls.map aJ)))∧Ls.length≤216∧∀j o,j≠58→j≠13→get ρ j=o→get ρ' j=o:=by
 refine oE h λa h1 h2=>oE h2 λb h3 h4=>?_;have JX:∀m∈M,m.length≤1000:=λm hm=>aF (hM m hm) (by decide);obtain⟨a1,a2⟩:=JW hM (A:=[[]]) (k:=0) (λL hL=>by refine rE (dK.mp hL) ?_;rfl) h1;refine xA (JW hM a2 h3) λb1 b2=>xA (JW hM b2 h4) λc1 c2=>?_;replace a1:=sR▸a1;have e1:=JU (n:=n) (hs:=hs) (A:=[[]]) (ρ:=put ρ 13 (.val (nD 0))) (gN rfl JV) (gN rfl wA) (λL hL=>by refine rE (dK.mp hL) ?_;decide) JX h1 (by lia);have e2:=JU (n:=n) (hs:=hs) (ρ:=put (put (put ρ 13 (.val (nD 0))) 58 (.val (.list (a.map aJ)))) 13 (.val (nD 1))) (gN rfl gS) (gN rfl (gN rfl (gN rfl wA))) (λL hL=>by refine rE (a2 L hL) ?_;decide) JX h3 (by lia);have e3:=JU (n:=n) (hs:=hs) (ρ:=put (put (put (put (put ρ 13 (.val (nD 0))) 58 (.val (.list (a.map aJ)))) 13 (.val (nD 1))) 58 (.val (.list (b.map aJ)))) 13 (.val (nD 2))) (gN rfl gS) (gN rfl (gN rfl (gN rfl (gN rfl (gN rfl wA))))) (λL hL=>by refine rE (b2 L hL) ?_;decide) JX h4 (by lia);refine⟨put (put (put (put (put (put ρ 13 (.val (nD 0))) 58 (.val (.list (a.map aJ)))) 13 (.val (nD 1))) 58 (.val (.list (b.map aJ)))) 13 (.val (nD 2))) 58 (.val (.list (Ls.map aJ))),
  (oa rfl (cJ (c7 e1))).trans ((oa rfl (cJ (c7 e2))).trans ((oa rfl (cJ (c7 e3))).trans rfl)),gS,by lia,λj o h1 h2 h=>?_⟩
 exact gN (jQ h1.symm) (gN (jQ h2.symm) (gN (jQ h1.symm) (gN (jQ h2.symm) (gN (jQ h1.symm) (gN (jQ h2.symm) h)))))
noncomputable def su(A:List (List (List Nat)))(t:T):List (List (List Nat)):=A.flatMap λone=>(fV t).map λtwo=>one++two
theorem agr:∀ {o:cP},(∀l∈o,l.length≤m)→wt o≤o.length * (m+1):=by
 intro o;induction o with
 |nil=>exact λZ=>eo _
 |cons x o ih=>intro h;have:=ih λl hl=>h l (cf _ hl);have:=h x bG;refine rE (wh ..) (rE bT (rE (AY ..) ?_));lia
theorem S9{t:T}(h:cn t≤10){o:cP}(ho:o∈fV t):wt o≤132:=by have k:=(Ds t).1 o ho;exact aF (agr (m:=11) λl hl=>aF (k.pc l hl) (by lia)) (aF (Ko 12 (aF k.len (show cn t+1≤11 by lia))) (by decide))
theorem ags(f:α→List β)(m:Nat)(h:∀x,(f x).length≤m):∀xs:List α,(xs.flatMap f).length≤xs.length * m:=λxs=>by
 induction xs with
 |nil=>exact eo _
 |cons x xs ih=>exact rE nj (rE bt (rE bT (rE (AY ..) (rE (Bj ..) (uk ih (h x))))))
theorem Ta(A:List (List (List Nat)))(t:T):(su A t).length≤A.length * 2^sz t:=by refine ags _ _ (λo=>?_) A;refine rE (aQ ..) ?_;have:=SY t;exact aF (Ds t).2 (yP (by decide) (by lia))
theorem Tb(o:cP):o.length≤wt o:=nh _ _
noncomputable def JY:RE:=.comp [17,18] (.one 17) (.data (.var 44)) .nil (.cons (.one 18) (.data (.call 9 (.cons (.var 42) .nil))) .nil .nil) (.bin .add (.var 17) (.var 18))
theorem agt{t:T}{A:List (List (List Nat))}(h1:cn t<n)(h2:cn t≤10)(hA:∀ps∈A,wt ps≤600)(hl:A.length * 2^sz t≤4096)(wi:get ρ 44=aa (.val (.list (A.map cu))))(Jq:get ρ 42=aa (.val (tD t))):
  ev tok (run tok aH n) hs JY ρ=aa (.list ((su A t).map cu),ae):=by
 have e:(su A t).map cu=A.flatMap λone=>((fV t).filter λZ=>ae).map λtwo=>cu (one++two):=by unfold su;exact rE K1 (congrArg (λf=>A.flatMap f) (funext λL=>by refine rE (U4.mpr λZ Z=>rfl) ?_;refine rE dJ ?_;rfl))
 have nT:(su A t).length≤4096:=aF (Ta A t) hl;refine rE e ?_;refine Dq (h:=cu) (r:=λo=>put (rem [17,18] ρ) 17 (.val (cu o))) (zs:=λZ=>fV t) (h2:=cu) (p:=λZ Z=>ae) (g:=λo u=>cu (o++u)) (r2:=λo u=>put (put (rem [17,18] ρ) 17 (.val (cu o))) 18 (.val (cu u))) (eP (aA wi)) (λZ Z=>rfl)
  (λo Z=>?_) (λZ Z Z Z=>rfl) (λZ Z Z Z=>rfl) (λo ho u hu Z=>?_) ?_
 ·exact eP ((qm (aA (gL rfl rfl Jq))).trans (aey t n h1 h2))
 ·refine(bk (aA (gN rfl gS)) (aA gS) (gk (a:=o.map dP) (b:=u.map dP) ?_)).trans ?_
  ·have:=Tb o;have:=Tb u;have:=hA o ho;have:=S9 h2 hu;refine rE (aQ ..) (rE (aQ ..) ?_);lia
  ·refine rS dw ?_;rfl
 ·refine rS e (rE (aQ ..) ?_);lia
theorem agu:∀ (F:List T) (A:List (List (List Nat))) (ρ:aM),(∀t∈F,cn t<n∧cn t≤10)→A.length * 2^bK F≤4096→(∀ps∈A,wt ps+132 * F.length≤600)→get ρ 44=aa (.val (.list (A.map cu)))→
  ∃ρ',dE (dH (run tok aH n) CH (.one 42) (.cons (.asg 44 JY) .nil)) (F.map tD) ρ hs=aa (.next ρ' hs,ae)∧get ρ' 44=aa (.val (.list ((F.foldl su A).map cu)))∧(∀ps∈F.foldl su A,wt ps≤600)∧∀j o,j≠44→j≠42→get ρ j=o→get ρ' j=o:=by
 intro F;induction F with
 |nil=>exact λA ρ Z Z hA h=>⟨ρ,rfl,h,hA,λZ Z Z Z h=>h⟩
 |cons t F ih=>
  intro A ρ hF hl hA wi;refine xA (hF t bG) λh1 h2=>?_;have hl:A.length * 2^(sz t+bK F)≤4096:=hl;replace hl:=je (U8 ..)▸(U7 ..)▸hl;have h0:1≤2^bK F:=K5 (by decide);replace hA:=bT▸hA;have e:=agt (hs:=hs) (ρ:=put ρ 42 (.val (tD t))) h1 h2 (λps JZ=>by have:=hA ps JZ;lia) (aF (Nat.le_mul_of_pos_right _ h0) hl) (gN rfl wi) gS;obtain⟨ρ',e2,g,w,k⟩:=ih (su A t) (put (put ρ 42 (.val (tD t))) 44 (.val (.list ((su A t).map cu)))) (λu hu=>hF u (cf _ hu)) (aF (Ko _ (Ta A t)) hl) (λps JZ=>by
   refine aD (yN.mp JZ) λo ho hx=>aD (fk.mp hx) λu hu e9=>?_;subst e9;have:=hA o ho;have:=S9 h2 hu;refine rE (Rz ..) ?_;lia) gS
  exact⟨ρ',(oa rfl (cJ (c7 e))).trans e2,g,w,λj o q1 q2 h=>k j o q1 q2 (gN (jQ q1.symm) (gN (jQ q2.symm) h))⟩
noncomputable def jU(s:d3)(k:Nat):Nat:=cond (az ((s.f+k)%3) 0) ((s.f+k)%24/3) 0
noncomputable def Tc:RE:=.comp [13] (.one 13) (.dy (.lit (.int 6))) .nil .nil (.ite (.cmp (.bin .mod (.bin .add (.aG 8 (.lit (.int 5))) (.var 13)) (.lit (.int 3))) (.cons .eq (.lit (.int 0)) .nil)) (.sub (.aG 9 (.bin .fdiv (.bin .mod (.bin .add (.aG 8 (.lit (.int 5))) (.var 13)) (.lit (.int 24))) (.lit (.int 3)))) (.lit (.int 0))) (.lit (.str (aj []))))
theorem agv{s:d3}(h8:get ρ 8=aa (.val s.D))(h9:get ρ 9=aa (.val (.list oq))):ev tok C hs Tc ρ=aa (jT (jU s),ae):=by
 refine ij (h:=nD) (g:=λk=>S (iM (jU s k))) (r:=λk=>put (rem [13] ρ) 13 (.val (nD k))) (kz (n:=6) (aK _) (by decide)) (λZ Z=>rfl) (λk hk=>?_) (by decide);have g8:get (put (rem [13] ρ) 13 (.val (nD k))) 8=aa (.val s.D):=gL rfl rfl h8;have g9:get (put (rem [13] ρ) 13 (.val (nD k))) 9=aa (.val (.list oq)):=gL rfl rfl h9;have ea:ev tok C hs (.bin .add (.aG 8 (.lit (.int 5))) (.var 13)) (put (rem [13] ρ) 13 (.val (nD k)))=aa (nD (s.f+k),ae):=bk (dp g8 (aK _) (z:=nD s.f) rfl) (aA gS) (add_n _ _);have ec:=cS (bk ea (aK (tk:=tok) (C:=C) (hs:=hs) (nD 3)) (pe (s.f+k) 3 (by decide))) (aK (nD 0)) (Ri _ _);unfold jU;induction q:az ((s.f+k)%3) 0 with
 |false=>replace ec:=q▸ec;exact IG ec rfl (aK _)
 |true=>replace ec:=q▸ec;have Hf:(s.f+k)%24<24:=jX _ (by decide);exact QG ec rfl (tT (dp g9 (bk (bk ea (aK _) (pe _ 24 (by decide))) (aK _) (x9 _ 3 (by decide) (by decide))) (Ss _ (by lia))) (aK _) rfl)
noncomputable def iQ(bs:List Bool):D:=.list (bs.map λb=>S (bS b))
theorem J0(as bs:List Bool):gO .eq (iQ as) (iQ bs)=aa (lX (λa b=>lEq (bS a) (bS b)) as bs,ae):=by have sh:∀bs:List Bool,c9 (iQ bs):=λbs=>(c8.list (k:=0) λx hx=>by refine aD (fk.mp hx) λb Z e9=>?_;subst e9;exact wo b).ok (by decide);show W.need (dT (iQ as) (iQ bs)) (c9 (iQ as)&&c9 (iQ bs))=_;refine rE (sh ..) (rE (sh ..) ?_);exact congrArg (λb=>aa (b,ae)) (Jc (λx y=>yf (bS x) (bS y)) as bs)
noncomputable def Td:RE:=.comp [36,35,65,66] (.two 36 35) (.data (.var 30)) .nil (.cons (.two 65 66) (.data (.var 30)) (.cons (.cmp (.var 36) (.cons .lt (.var 65) (.cons .lt (.var 35) (.cons .lt (.var 66) .nil)))) .nil) .nil) (.var 36)
noncomputable def sA(L:Lk):List Nat:=L.flatMap λp=>(L.filter (ud p)).map λZ=>p.1
theorem agw(f:α→List β)(q:α→Bool)(h:∀x,(f x).isEmpty= !q x):∀xs:List α,(xs.flatMap f).isEmpty= !xs.any q:=by
 intro xs;induction xs with
 |nil=>rfl
 |cons x xs ih=>
  have hx:=h x;refine rE nj (rE Ez ?_);induction w:q x with
  |false=>replace hx:=w▸hx;exact rE (sQ.mp hx) ih
  |true=>
   replace hx:=w▸hx;induction z:f x using bj with
   |nil=>replace hx:=z▸hx;exact zT hx
   |cons=>rfl
theorem Te(f:α→β)(q:α→Bool):∀xs:List α,((xs.filter q).map f).isEmpty= !xs.any q:=by
 intro xs;induction xs with
 |nil=>rfl
 |cons x xs ih=>
  refine rE uH (rE Ez ?_);cases q x
  ·exact ih
  ·rfl
theorem agx(L:Lk):(sA L).isEmpty=jy L:=agw _ (λp=>L.any (ud p)) (λp=>Te _ (ud p) L) L
theorem lt3{p r:Nat × Nat}(h1:get ρ 36=aa (.val (nD p.1)))(h2:get ρ 65=aa (.val (nD r.1)))(h3:get ρ 35=aa (.val (nD p.2)))(h4:get ρ 66=aa (.val (nD r.2))):ev tok C hs (.cmp (.var 36) (.cons .lt (.var 65) (.cons .lt (.var 35) (.cons .lt (.var 66) .nil)))) ρ=aa (.bool (ud p r),ae):=by
 unfold ud;refine W.aS (aA h1) (W.aS (aA h2) (W.aS (x6 p.1 r.1) ?_));induction aU p.1 r.1 with
 |false=>rfl
 |true=>
  refine W.aS (aA h3) (W.aS (x6 r.1 p.2) ?_);induction aU r.1 p.2 with
  |false=>rfl
  |true=>exact W.aS (aA h4) (W.aS (x6 p.2 r.2) rfl)
theorem agy{f:α→List β}{xs:List α}(h:∀x∈xs,(f x).length≤m):(xs.flatMap f).length≤xs.length * m:=by
 induction xs with
 |nil=>exact eo _
 |cons x xs ih=>have:=ih λy hy=>h y (cf _ hy);have:=h x bG;refine rE nj (rE bt (rE bT (rE (AY ..) ?_)));lia
theorem agz{L:Lk}(hL:L.length≤10)(kg:get ρ 30=aa (.val (aJ L))):ev tok C hs Td ρ=aa (.list ((sA L).map nD),ae):=by
 have e:(sA L).map nD=L.flatMap λp=>(L.filter (ud p)).map λZ=>nD p.1:=by unfold sA;exact rE K1 (congrArg (λf=>L.flatMap f) (funext λp=>by refine rE dJ ?_;rfl))
 refine rE e ?_;refine Dq (h:=pD) (r:=λp=>put (put (rem [36,35,65,66] ρ) 36 (.val (nD p.1))) 35 (.val (nD p.2))) (zs:=λZ=>L) (h2:=pD) (p:=ud) (g:=λp Z=>nD p.1)
  (r2:=λp r=>put (put (put (put (rem [36,35,65,66] ρ) 36 (.val (nD p.1))) 35 (.val (nD p.2))) 65 (.val (nD r.1))) 66 (.val (nD r.2))) (eP (aA kg)) (λZ Z=>rfl)
  (λp Z=>eP (aA (gN rfl (gL rfl rfl kg)))) (λZ Z Z Z=>rfl) (λp Z r Z=>qr (lt3 (gN rfl (gN rfl (gN rfl gS))) (gN rfl gS) (gN rfl (gN rfl gS)) gS)) (λp Z r Z Z=>aA (gN rfl (gN rfl (gN rfl gS)))) ?_
 refine aF (agy (m:=10) λp Z=>?_) (aF (Ko 10 hL) (by decide));exact rE (aQ ..) (aF (wV _ _) hL)
noncomputable def Tf:RE:=.cmp (.comp [17] (.one 17) (.data (.var 29)) (.cons (.cmp (.var 17) (.cons .ix (.tup (.cons (.lit (.str (aj [84,114,117,101]))) (.cons (.lit (.str (aj [70,97,108,115,101]))) .nil))) .nil)) .nil) .nil (.var 17)) (.cons .ne (.list .nil) .nil)
noncomputable def Tg:RE:=.cmp (.cmp (.var 29) (.cons .eq (.bin .mul (.list (.cons (.lit (.str (aj [84,114,117,101]))) .nil)) (.lit (.int 3))) .nil)) (.cons .ne (.cmp (.var 61) (.cons .eq (.list .nil) .nil)) .nil)
theorem agA(b:Bool):gO .ix (S (bS b)) (.tuple [S (bS ae),S (bS ag)])=aa (ag,ae):=by have e1:c9 (.tuple [S (bS ae),S (bS ag)]):=(c8.tuple (k:=0) λx hx=>by rcases bE.mp hx with rfl|hx;exact wo ae;refine rE (dK.mp hx) ?_;exact wo ag).ok (by decide);show sU (W.need (dT (S (bS ae)) (S (bS b))||(dT (S (bS ag)) (S (bS b))||false)) (c9 (.tuple [S (bS ae),S (bS ag)])&&c9 (S (bS b))))=_;refine rE (yf ..) (rE (yf ..) (rE e1 (rE ((wo b).ok (by decide)) ?_)));induction b<;>rfl
theorem agB(l:List α):l.filter (λZ=>ag)=[]:=by
 induction l with
 |nil=>rfl
 |cons x l ih=>exact ih
theorem agC{bs:List Bool}(hl:bs.length≤10)(zX:get ρ 29=aa (.val (iQ bs))):ev tok C hs Tf ρ=aa (.bool ag,ae):=by
 have e:ev tok C hs (.comp [17] (.one 17) (.data (.var 29)) (.cons (.cmp (.var 17) (.cons .ix (.tup (.cons (.lit (.str (aj [84,114,117,101]))) (.cons (.lit (.str (aj [70,97,108,115,101]))) .nil))) .nil)) .nil) .nil (.var 17)) ρ=aa (.list [],ae):=by
  refine(pb (h:=λb=>S (bS b)) (g:=λb=>S (bS b)) (p:=λZ=>ag) (r:=λb=>put (rem [17] ρ) 17 (.val (S (bS b)))) (eP (aA zX)) (λZ Z=>rfl) (λb Z=>?_) (λZ Z h=>nomatch h) (by lia)).trans ?_
  ·exact qr (cS (aA gS) (tU (bI (aK _) (bI (aK _) di))) (agA b))
  ·refine rE (agB ..) ?_;rfl
 exact cS e (fF di) rfl
theorem Th:ev tok C hs (.bin .mul (.list (.cons (.lit (.str (aj [84,114,117,101]))) .nil)) (.lit (.int 3))) ρ=aa (iQ [ae,ae,ae],ae):=bk (fF (bI (aK _) di)) (aK _) rfl
theorem agD{L:Lk}(k:SK L)(zX:get ρ 29=aa (.val (iQ (mT L 0))))(h61:get ρ 61=aa (.val (.list ((sA L).map nD)))):ev tok C hs Tg ρ=aa (.bool ag,ae):=by have e1:=cS (C:=C) (hs:=hs) (aA zX) Th (J0 (mT L 0) [ae,ae,ae]);replace e1:=(show lX (λa b=>lEq (bS a) (bS b)) (mT L 0) [ae,ae,ae]=jy L from k.told 0 (by decide))▸e1;have e2:=cS (tk:=tok) (C:=C) (hs:=hs) (aA h61) (fF di) (eq_nil ((c8.map qq (sA L)).ok (by decide)));replace e2:=(show((sA L).map nD).isEmpty=jy L by refine rE List.isEmpty_map ?_;exact rE (agx ..) rfl)▸e2;exact cS e1 e2 (by cases jy L<;>rfl)
structure LI(s:d3)(P:List (List (List Nat)))(tr rw:D)(a b:List D)(ρ:aM):Prop where
 g8:get ρ 8=aa (.val s.D)
 iN:get ρ 10=aa (.val rw)
 AL:get ρ 38=aa (.val (jT (jU s)))
 yq:get ρ 44=aa (.val (.list (P.map cu)))
 AM:get ρ 55=aa (.val tr)
 DR:get ρ 59=aa (.own a)
 DS:get ρ 60=aa (.own b)
theorem LI.put{s:d3}{P:List (List (List Nat))}{tr rw:D}{a b:List D}(I:LI s P tr rw a b ρ){x:bA}(h:[8,10,38,44,55,59,60].any (az i)=ag):LI s P tr rw a b (put ρ i x):=by
 have q:∀j,j∈[8,10,38,44,55,59,60]→az i j=ag:=λj hj=>by
  have:=UZ.mp h j hj;induction z:az i j with
  |true=>exact absurd z this
  |false=>rfl
 exact⟨gN (q 8 (by decide)) I.g8,gN (q 10 (by decide)) I.iN,gN (q 38 (by decide)) I.AL,gN (q 44 (by decide)) I.yq,gN (q 55 (by decide)) I.AM,gN (q 59 (by decide)) I.DR,gN (q 60 (by decide)) I.DS⟩
noncomputable def J1:RE:=.cmp (.sub (.call 8 (.cons (.var 30) (.cons (.bin .add (.lit (.int 1)) (.bin .mod (.aG 8 (.lit (.int 5))) (.lit (.int 5)))) (.cons (.var 38) .nil)))) (.lit (.int 0))) (.cons .eq (.bin .mul (.list (.cons (.lit (.str (aj [84,114,117,101]))) .nil)) (.lit (.int 3))) .nil)
noncomputable def DT:bP:=.cons (.uR [29,41] (.call 8 (.cons (.var 30) (.cons (.lit (.int 0)) (.cons (.var 38) .nil))))) (.cons (.asg 61 Td) (.cons (.ite (.or Tf Tg) (.cons (.fz [59,60] (.ret (.lit (.bool ag)))) .nil) .nil) (.cons (.ite (.call 10 (.cons (.var 44) (.cons (.var 30) .nil)))
 (.cons (.app 59 (.var 30)) (.cons (.ite J1 (.cons (.app 60 (.var 30)) .nil) .nil) .nil)) .nil) .nil)))
noncomputable def DU(q:Bool)(L:Lk):List D:=cond q [aJ L] []
theorem agE{s:d3}{tr rw:D}{a b:List D}{L:Lk}(N:DN F)(hw:∀ps∈kF F,wt ps≤600)(hL:L∈l5)(ha:a.length<1000000)(hb:b.length<1000000)(I:LI s (kF F) tr rw a b ρ):
  ∃ρ',dH (run tok aH (n+3)) CH (.one 30) DT (aJ L) ρ hs=aa (.next ρ' hs,ae)∧LI s (kF F) tr rw (a++DU (jz F L) L) (b++DU (jz F L&&jy L) L) ρ'∧get ρ' 30=aa (.val (aJ L))∧get ρ' 41=aa (.val (kA (eR L 0 (jU s)))):=by
 have k:=SM hL;have f8:∀t,t≤6→run tok aH (n+3) 8 [aJ L,nD t,jT (jU s)]=aa (.tuple [iQ (mT L t),kA (eR L t (jU s))],ae):=λt ht=>aet n k.yp ht (jU s);have f10:run tok aH (n+3) 10 [.list ((kF F).map cu),aJ L]=aa (.bool (jz F L),ae):=aeG (n+2) (λps h=>aF (hw ps h) (by decide)) (N.net L hL);have hlen:(mT L 0).length≤10:=by unfold mT;exact rE (aQ ..) (rE (aQ ..) k.yp.1)
 obtain⟨bD,h1⟩:∃bD,bD=put (put (put (put ρ 30 (.val (aJ L))) 29 (.val (iQ (mT L 0)))) 41 (.val (kA (eR L 0 (jU s))))) 61 (.val (.list ((sA L).map nD))):=⟨_,rfl⟩;have I1:LI s (kF F) tr rw a b bD:=rE h1 ((((I.put rfl).put rfl).put rfl).put rfl)
 have pn:get bD 30=aa (.val (aJ L)):=rE h1 (gN rfl (gN rfl (gN rfl gS)))
 have Ti:get bD 29=aa (.val (iQ (mT L 0))):=rE h1 (gN rfl (gN rfl gS))
 have qB:get bD 41=aa (.val (kA (eR L 0 (jU s)))):=rE h1 (gN rfl gS)
 have g61:get bD 61=aa (.val (.list ((sA L).map nD))):=rE h1 gS
 have head:∀ {m:W Fl},ex tok (run tok aH (n+3)) CH (.ite (.call 10 (.cons (.var 44) (.cons (.var 30) .nil))) (.cons (.app 59 (.var 30)) (.cons (.ite J1 (.cons (.app 60 (.var 30)) .nil) .nil) .nil)) .nil) bD hs=m→(∃ρ',m=aa (.next ρ' hs,ae))→dH (run tok aH (n+3)) CH (.one 30) DT (aJ L) ρ hs=m:=λ{m} h hm=>by refine xE hm λρ' e9=>?_;subst e9;exact(cA (m:=eU (.one 30) (aJ L) ρ) rfl).trans ((bq (QJ ((v8 (aA gS) (aK _) (aA (gN rfl I.AL))).trans (f8 0 (by decide))) rfl rfl)).trans ((bq (c7 (agz k.yp.1 (gN rfl (gN rfl gS))))).trans (rS h1 ((bq (fG (II (agC hlen Ti) rfl (agD k Ti g61)) rfl jv)).trans (cJ h)))))
 have my:=(IP (tk:=tok) (hs:=hs) (aA I1.yq) (aA pn)).trans f10;induction q:jz F L with
 |false=>replace my:=q▸my;refine⟨bD,head (fG my rfl jv) ⟨_,rfl⟩,?_,pn,qB⟩;show LI s (kF F) tr rw (a++[]) (b++[]) bD;exact rE (eg ..) (rE (eg ..) I1)
 |true=>
  replace my:=q▸my;have I2:LI s (kF F) tr rw (a++[aJ L]) b (put bD 59 (.own (a++[aJ L]))):=⟨gN rfl I1.g8,gN rfl I1.iN,gN rfl I1.AL,gN rfl I1.yq,gN rfl I1.AM,gS,gN rfl I1.DS⟩;have a1:=xX (tk:=tok) (C:=run tok aH (n+3)) (CH:=CH) (hs:=hs) I1.DR (aA pn) ha;have ht:s.f%5<5:=jX _ (by decide);have ef:ev tok (run tok aH (n+3)) hs J1 (put bD 59 (.own (a++[aJ L])))=aa (.bool (jy L),ae):=by
   have e1:ev tok (run tok aH (n+3)) hs (.sub (.call 8 (.cons (.var 30) (.cons (.bin .add (.lit (.int 1)) (.bin .mod (.aG 8 (.lit (.int 5))) (.lit (.int 5)))) (.cons (.var 38) .nil)))) (.lit (.int 0))) (put bD 59 (.own (a++[aJ L])))=aa (iQ (mT L (1+s.f%5)),ae):=
    tT ((v8 (aA (gN rfl pn)) (bk (aK (nD 1)) (bk (dp I2.g8 (aK _) (z:=nD s.f) rfl) (aK _) (pe s.f 5 (by decide))) (add_n 1 _)) (aA I2.AL)).trans (f8 _ (by lia))) (aK _) rfl
   have e2:=cS e1 Th (J0 _ [ae,ae,ae]);replace e2:=(show lX (λa b=>lEq (bS a) (bS b)) (mT L (1+s.f%5)) [ae,ae,ae]=jy L from k.told _ (by lia))▸e2;exact e2
  induction q2:jy L with
  |false=>replace ef:=q2▸ef;refine⟨_,head (ig my rfl ((bq a1).trans (cJ (fG ef rfl jv)))) ⟨_,rfl⟩,?_,gN rfl pn,gN rfl qB⟩;show LI s (kF F) tr rw (a++[aJ L]) (b++[]) _;exact rE (eg ..) I2
  |true=>replace ef:=q2▸ef;exact⟨_,head (ig my rfl ((bq a1).trans (cJ (ig ef rfl (cJ (xX I2.DS (aA (gN rfl pn)) hb)))))) ⟨_,rfl⟩,⟨gN rfl I2.g8,gN rfl I2.iN,gN rfl I2.AL,gN rfl I2.yq,gN rfl I2.AM,gN rfl I2.DR,gS⟩,gN rfl (gN rfl pn),gN rfl (gN rfl qB)⟩
theorem Tj(q:Lk→Bool)(L:Lk)(r:List Lk):DU (q L) L++(r.filter q).map aJ=((L::r).filter q).map aJ:=by refine rE uH ?_;cases q L<;>rfl
theorem Tn(q:Bool)(L:Lk):(DU q L).length≤1:=by induction q<;>exact bc rfl
theorem agF{s:d3}{tr rw:D}(N:DN F)(hw:∀ps∈kF F,wt ps≤600):∀ (Ls:List Lk) (a b:List D) (ρ:aM),(∀L∈Ls,L∈l5)→a.length+Ls.length<1000000→b.length+Ls.length<1000000→LI s (kF F) tr rw a b ρ→
  ∃ρ',dE (dH (run tok aH (n+3)) CH (.one 30) DT) (Ls.map aJ) ρ hs=aa (.next ρ' hs,ae)∧LI s (kF F) tr rw (a++(Ls.filter (jz F)).map aJ) (b++(Ls.filter λL=>jz F L&&jy L).map aJ) ρ'∧(Ls≠[]→∃L∈l5,get ρ' 30=aa (.val (aJ L))∧get ρ' 41=aa (.val (kA (eR L 0 (jU s))))):=by
 intro Ls;induction Ls with
 |nil=>intro a b ρ _ _ _ I;exact⟨ρ,rfl,by rewrite[show([]:List Lk).filter (jz F)=[]from rfl,qT,eg];exact(by rewrite[show([]:List Lk).filter (λL=>jz F L&&jy L)=[]from rfl,qT,eg];exact I),λh=>absurd rfl h⟩
 |cons L r ih=>
  intro a b ρ hL ha hb I;rw[bT]at ha hb;obtain⟨bD,e1,I1,pn,qB⟩:=agE (n:=n) (CH:=CH) (hs:=hs) N hw (hL L bG) (by lia) (by lia) I;have l1:=Tn (jz F L) L;have l2:=Tn (jz F L&&jy L) L;obtain⟨uc,e2,I2,k⟩:=ih _ _ bD (λL' h=>hL L' (cf _ h)) (by refine rE bt ?_;lia) (by refine rE bt ?_;lia) I1;refine⟨uc,(o9 e1).trans e2,?_,λZ=>?_⟩
  ·replace I2:=(d5 ..)▸(d5 ..)▸I2;rewrite[Tj (jz F)]at I2;rw[Tj λL=>jz F L&&jy L]at I2;exact I2
  ·induction r using bj with
   |nil=>cases e2;exact⟨L,hL L bG,pn,qB⟩
   |cons=>exact k nofun
noncomputable def ui(ps:List Pc):List (List Pc × List Nat):=[(ps,[34,40]),(ps,[34])]++(pE 1 5).map λk=>(ps.drop k++ps.take k,[])
noncomputable def rT(q:List Pc × List Nat):List (List Nat):=q.1.map Pc.txt++cond q.2.isEmpty [] [q.2]
noncomputable def rD(q:List Pc × List Nat):D:=.list ((rT q).map S)
theorem To(q:List Pc × List Nat):(rT q).flatten=fe q.1++q.2:=by
 unfold rT fe;refine rE Bm (rS ail ?_);induction h:q.2 using bj with
 |nil=>rfl
 |cons c r=>show _++((c::r)++[])=_;exact rE (eg ..) rfl
structure Tp(q:List Pc × List Nat):Prop where
 sg:∀p∈q.1,mR p.c
 len:q.1.length≤6
 e:q.2=[]∨q.2=[34]∨q.2=[34,40]
theorem agG(h:∀p∈ps,mR p.c)(hl:ps.length≤6):∀q∈ui ps,Tp q:=by
 intro q hq;rcases gp.mp hq with hq|hq
 ·rcases bE.mp hq with rfl|hq
  ·exact⟨h,hl,.inr (.inr rfl)⟩
  ·exact rE (dK.mp hq) ⟨h,hl,.inr (.inl rfl)⟩
 ·refine aD (fk.mp hq) λk Z e9=>?_;subst e9;refine⟨λp hp=>?_,?_,.inl rfl⟩
  ·exact(gp.mp hp).elim (λhp=>h p (U6 hp)) λhp=>h p (U5 hp)
  ·refine rE bt (rE uu (rE qG ?_));lia
noncomputable def DV(q:List Pc × List Nat):Bool:=r7 (dG ag q.2) (lW (q.1.map Pc.c) 0)
theorem agH(l:Lk):ja l l:=(Jt l l).mpr rfl
theorem Tq(R:List Lk):gO .eq (.list (R.map aJ)) (.list (R.map aJ))=aa (ae,ae):=by
 have s:=Sf.list (k:=2) (xs:=R.map aJ) λx hx=>by refine aD (fk.mp hx) λL Z e9=>?_;subst e9;exact⟨Jb L,(RJ L L).trans (agH L)⟩
 show W.need (dT (.list (R.map aJ)) (.list (R.map aJ))) (c9 (.list (R.map aJ))&&c9 (.list (R.map aJ)))=_;refine rE s.eq (rE (s.DQ.ok (by decide)) ?_);rfl
theorem agI(l:List Bool):lX (λa b=>lEq (bS a) (bS b)) l l:=by
 induction l with
 |nil=>rfl
 |cons b l ih=>show(lEq (bS b) (bS b)&&lX _ l l);refine rE (tS ..) (rE ih ?_);rfl
theorem agJ(a b:Nat):gO .le (nD a) (nD b)=aa (aX a b,ae):=by
 show aa ((decide ((a:Int)≤(b:Int)),ae):Bool × Bool)=_;induction q:aX a b with
 |true=>exact rE (decide_eq_true (uj.mpr (bc q))) rfl
 |false=>exact rE (decide_eq_false λh=>by replace q:=bO (uj.mp h)▸q;exact zT q) rfl
noncomputable def Tr:RE:=.bin .add (.list (.cons (.bin .add (.var 41) (.list (.cons (.lit (.str (aj [34,40]))) .nil))) (.cons (.bin .add (.var 41) (.list (.cons (.lit (.str (aj [34]))) .nil))) .nil))) (.comp [13] (.one 13) (.range (.lit (.int 1)) (.lit (.int 6))) .nil .nil (.bin .add (.cw 41 (.some (.var 13)) .none .none) (.cw 41 .none (.some (.var 13)) .none)))
theorem agK(hl:ps.length≤6)(AN:get ρ 41=aa (.val (kA ps))):ev tok C hs Tr ρ=aa (.list ((ui ps).map rD),ae):=by
 have lt:(ps.map λp=>S p.txt).length≤1000000:=by refine rE (aQ ..) ?_;lia
 have l1:(ps.map λp=>S p.txt).length+1≤1000000:=by refine rE (aQ ..) ?_;lia
 have ea:∀l:ax,l≠[]→aa (dQ ((ps.map λp=>S p.txt)++[S l]),ae)=aa (rD (ps,l),ae):=λl h=>by
  unfold rD rT;induction l using bj with
  |nil=>exact absurd rfl h
  |cons c r=>refine rE dw (rE dJ ?_);rfl
 have e1:ev tok C hs (.bin .add (.var 41) (.list (.cons (.lit (.str (aj [34,40]))) .nil))) ρ=aa (rD (ps,[34,40]),ae):=(bk (aA AN) (fF (bI (aK _) di)) (gk l1)).trans (ea [34,40] nofun);have e2:ev tok C hs (.bin .add (.var 41) (.list (.cons (.lit (.str (aj [34]))) .nil))) ρ=aa (rD (ps,[34]),ae):=(bk (aA AN) (fF (bI (aK _) di)) (gk l1)).trans (ea [34] nofun);have e3:ev tok C hs (.comp [13] (.one 13) (.range (.lit (.int 1)) (.lit (.int 6))) .nil .nil (.bin .add (.cw 41 (.some (.var 13)) .none .none) (.cw 41 .none (.some (.var 13)) .none))) ρ=aa (.list ((pE 1 5).map λk=>rD (ps.drop k++ps.take k,[])),ae):=by
  refine ij (h:=nD) (r:=λk=>put (rem [13] ρ) 13 (.val (nD k))) (SS (i:=1) (j:=6) (aK _) (aK _) (by decide) (by decide)) (λZ Z=>rfl) (λk hk=>?_) (by decide);have hk:=(Vh.mp hk).2;have qB:get (put (rem [13] ρ) 13 (.val (nD k))) 41=aa (.val (kA ps)):=gL rfl rfl AN;refine(bk (jR (eK qB) (gW (aA gS)) ee ee (wc (k:=k) (by lia) lt)) (jR (eK qB) ee (gW (aA gS)) ee (ya (k:=k) (by lia) lt)) (gk ?_)).trans ?_
  ·exact rE uu (rE qG (rE (aQ ..) (Lu (m:=6) (by lia) (by decide))))
  ·unfold rD rT;refine rS yO (rS wW (rS dw ?_));show _=aa (dQ (List.map S ((ps.drop k++ps.take k).map Pc.txt++[])),ae);refine rE (eg ..) (rE dJ ?_);rfl
 refine(bk (fF (bI e1 (bI e2 di))) e3 (gk (rE (aQ ..) (bc rfl)))).trans ?_;unfold ui;refine rE dw (rE dJ ?_);rfl
noncomputable def Ts:RE:=.comp [17] (.one 17) (.data (.var 56)) .nil .nil (.prim .str (.cons (.call 1 (.cons (.prim .join (.cons (.lit (.str (aj []))) (.cons (.var 17) .nil))) .nil)) .nil))
theorem agL{qs:List (List Pc × List Nat)}(hq:∀q∈qs,Tp q)(hl:qs.length≤100)(h56:get ρ 56=aa (.val (.list (qs.map rD)))):ev tok (run tok aH (n+2)) hs Ts ρ=aa (iQ (qs.map DV),ae):=by
 unfold iQ;refine rE dJ (ij (h:=rD) (r:=λq=>put (rem [17] ρ) 17 (.val (rD q))) (eP (aA h56)) (λZ Z=>rfl) (λq hq'=>?_) (by lia));have k:=hq q hq';have ht:=wd q.1;have hb:=we q.1;have hl:=k.len;have he:q.2.length≤2:=by rcases k.e with h|h|h<;>refine rE h ?_<;>decide
 have e1:gQ .join [S [],rD q]=aa (S (fe q.1++q.2),ae):=by have:=Av (rT q) (by refine rE (To ..) (rE bt ?_);lia);replace this:=(To ..)▸this;exact this
 exact gH ((qm (Aq (aK _) (aA gS) e1)).trans (Q4 n k.sg k.e (by lia) (by lia))) (str_bool _)
theorem agM(L:Lk)(dr:Nat→Nat):(ui (eR L 0 dr)).map DV=asks L:=by
 have e:(eR L 0 dr).map Pc.c=oe L 0:=by unfold eR oe;refine rE dJ ?_;rfl
 have e2:∀k,DV ((eR L 0 dr).drop k++(eR L 0 dr).take k,[])=r7 [] (lW ((oe L 0).drop k++(oe L 0).take k) 0):=λk=>by rewrite[← e,← yO,← wW,← dw];rfl
 unfold ui asks;refine rE dw (rE dJ (rE (show(DV∘λk=>((eR L 0 dr).drop k++(eR L 0 dr).take k,[]))=_ from funext e2) (rS e ?_)));rfl
noncomputable def Tu:RE:=.bin .add (.list (.cons (.lit (.str (aj [70,97,108,115,101]))) .nil)) (.comp [13] (.one 13) (.dy (.lit (.int 6))) .nil .nil (.prim .str (.cons (.cmp (.comp [36,35] (.two 36 35) (.data (.var 30)) (.cons (.cmp (.var 36) (.cons .lt (.var 13) (.cons .le (.var 35) .nil))) .nil) .nil (.var 36)) (.cons .eq (.list .nil) .nil)) .nil)))
theorem agN{L:Lk}(hL:L.length≤10)(kg:get ρ 30=aa (.val (aJ L))):ev tok C hs Tu ρ=aa (iQ ([ag]++(bM 6).map (yo L)),ae):=by
 have e1:ev tok C hs (.comp [13] (.one 13) (.dy (.lit (.int 6))) .nil .nil (.prim .str (.cons (.cmp (.comp [36,35] (.two 36 35) (.data (.var 30)) (.cons (.cmp (.var 36) (.cons .lt (.var 13) (.cons .le (.var 35) .nil))) .nil) .nil (.var 36)) (.cons .eq (.list .nil) .nil)) .nil))) ρ=aa (.list ((bM 6).map λk=>S (bS (yo L k))),ae):=by
  refine ij (h:=nD) (r:=λk=>put (rem [13] ρ) 13 (.val (nD k))) (kz (n:=6) (aK _) (by decide)) (λZ Z=>rfl) (λk Z=>?_) (by decide);have e2:ev tok C hs (.comp [36,35] (.two 36 35) (.data (.var 30)) (.cons (.cmp (.var 36) (.cons .lt (.var 13) (.cons .le (.var 35) .nil))) .nil) .nil (.var 36)) (put (rem [13] ρ) 13 (.val (nD k)))=aa (.list ((L.filter λp=>aU p.1 k&&aX k p.2).map λp=>nD p.1),ae):=by
   refine pb (h:=pD) (g:=λp=>nD p.1) (p:=λp=>aU p.1 k&&aX k p.2) (r:=λp=>put (put (rem [36,35] (put (rem [13] ρ) 13 (.val (nD k)))) 36 (.val (nD p.1))) 35 (.val (nD p.2))) (eP (aA (gL rfl rfl kg))) (λZ Z=>rfl) (λp Z=>qr ?_) (λp Z Z=>aA (gN rfl gS)) (by lia);refine W.aS (aA (gN rfl gS)) (W.aS (aA (gN rfl (gL rfl rfl gS))) (W.aS (x6 p.1 k) ?_));induction aU p.1 k with
   |false=>rfl
   |true=>exact W.aS (aA gS) (W.aS (agJ k p.2) rfl)
  have sh:c9 (.list ((L.filter λp=>aU p.1 k&&aX k p.2).map λp=>nD p.1)):=(c8.map (k:=0) (f:=λp:Nat × Nat=>nD p.1) (λp=>qq p.1) _).ok (by decide);have e3:=cS e2 (fF di) (eq_nil sh);replace e3:=(Te ..)▸e3;exact gH e3 (str_bool _)
 refine(bk (fF (bI (aK _) di)) e1 (gk (by refine rE (aQ ..) ?_;decide))).trans ?_;unfold iQ;refine rE dw (rE dJ ?_);rfl
noncomputable def Tv:bP:=.cons (.asg 56 Tr) (.cons (.asg 22 Tu) (.cons (.fz [59] (.asg 57 (.and (.cmp Ts (.cons .eq (.var 22) .nil)) (.cmp (.var 59) (.cons .eq (.call 11 (.cons (.var 55) (.cons (.var 10) (.cons (.lit (.bool ag)) .nil)))) .nil)))))
 (.cons (.fz [59,60] (.ret (.and (.var 57) (.cmp (.var 60) (.cons .eq (.call 11 (.cons (.var 55) (.cons (.var 10) (.cons (.lit (.bool ae)) .nil)))) .nil))))) .nil)))
theorem sC(h:get ρ j=aa (.val d)):get (dX is ρ) j=aa (.val d):=(Ao is ρ j).trans (congrArg _ h)
theorem agO{xs:List D}(h:get ρ j=aa (.own xs))(q:is.any (az j)=ag):get (dX is ρ) j=aa (.own xs):=by refine rE (Ao ..) (rE h (rE q ?_));rfl
theorem agP{s:d3}{P:List (List (List Nat))}{L:Lk}{R1 R2:List Lk}(hL:L∈l5)(I:LI s P (cX F) (ik row) (R1.map aJ) (R2.map aJ) ρ)(kg:get ρ 30=aa (.val (aJ L)))(AN:get ρ 41=aa (.val (kA (eR L 0 (jU s)))))
  (f1:run tok aH (n+2) 11 [cX F,ik row,.bool ag]=aa (.list (R1.map aJ),ae)) (f2:run tok aH (n+2) 11 [cX F,ik row,.bool ae]=aa (.list (R2.map aJ),ae)):
  cb tok (run tok aH (n+2)) CH Tv ρ hs=aa (.ret (.bool ae) hs,ae):=by
 have k:=SM hL;have hl:(eR L 0 (jU s)).length≤6:=by unfold eR;refine rE (aQ ..) ?_;decide
 have hsg:∀p∈eR L 0 (jU s),mR p.c:=λp hp=>by refine aD (fk.mp hp) λj Z e9=>?_;subst e9;exact Rt _ _
 refine(bq (c7 (agK hl AN))).trans ((bq (c7 (agN k.yp.1 (gN rfl kg)))).trans ?_);obtain⟨bD,h1⟩:∃bD,bD=put (put ρ 56 (.val (.list ((ui (eR L 0 (jU s))).map rD)))) 22 (.val (iQ ([ag]++(bM 6).map (yo L)))):=⟨_,rfl⟩;have I1:LI s P (cX F) (ik row) (R1.map aJ) (R2.map aJ) bD:=rE h1 ((I.put rfl).put rfl)
 have g56:get bD 56=aa (.val (.list ((ui (eR L 0 (jU s))).map rD))):=rE h1 (gN rfl gS)
 have sk:get bD 22=aa (.val (iQ ([ag]++(bM 6).map (yo L)))):=rE h1 gS
 refine rS h1 ?_;have e1:=agL (n:=n) (hs:=hs) (ρ:=dX [59] bD) (agG hsg hl) (by unfold ui;exact rE bt (rE (aQ ..) (bc rfl))) (sC g56);replace e1:=k.ask▸(agM ..)▸e1;have e2:=cS e1 (aA (sC sk)) (J0 _ _);replace e2:=(agI ..)▸e2;have e3:ev tok (run tok aH (n+2)) hs (.cmp (.var 59) (.cons .eq (.call 11 (.cons (.var 55) (.cons (.var 10) (.cons (.lit (.bool ag)) .nil)))) .nil)) (dX [59] bD)=aa (.bool ae,ae):=
  cS (aA (v9 I1.DR rfl)) ((v8 (aA (sC I1.AM)) (aA (sC I1.iN)) (aK _)).trans f1) (Tq R1)
 refine(bq (show ex tok _ CH (.asg 57 _) (dX [59] bD) hs=_ from c7 (Df e2 rfl e3))).trans ?_;have e4:ev tok (run tok aH (n+2)) hs (.cmp (.var 60) (.cons .eq (.call 11 (.cons (.var 55) (.cons (.var 10) (.cons (.lit (.bool ae)) .nil)))) .nil)) (dX [59,60] (put (dX [59] bD) 57 (.val (.bool ae))))=aa (.bool ae,ae):=
  cS (aA (v9 (gN rfl (agO I1.DS rfl)) rfl)) ((v8 (aA (sC (gN rfl (sC I1.AM)))) (aA (sC (gN rfl (sC I1.iN)))) (aK _)).trans f2) (Tq R2)
 exact Jl (Df (aA (sC gS)) rfl e4)
noncomputable def agQ:bP:=.cons (.mul [58,44,59,60] [.val (.list (.cons (.list .nil) .nil)),.val (.list (.cons (.list .nil) .nil)),.nz,.nz]) (.cons (.loop (.one 13) (.dy (.lit (.int 3))) (.cons (.asg 58 JT) .nil)) (.cons (.loop (.one 42) (.data (.var 23)) (.cons (.asg 44 JY) .nil)) (.cons (.asg 38 Tc) (.cons (.loop (.one 30) (.data (.var 58)) DT) Tv))))
theorem Tw(a b:Nat):oi [a,b]=oi [b,a]:=by have e:∀x y a b:Nat,lEq [x,y] [a,b]=cond (az x a) (cond (az y b) ae ag) ag:=λZ Z Z Z=>rfl;unfold oi;simp only[Ez,List.any_nil,e];generalize az 97 a=x1;generalize az 65 a=x2;generalize az 98 a=x3;generalize az 66 a=x4;generalize az 97 b=y1;generalize az 65 b=y2;generalize az 98 b=y3;generalize az 66 b=y4;revert x1 x2 x3 x4 y1 y2 y3 y4;decide
theorem J2(p q:α→Bool)(l:List α):(l.filter p).filter q=(l.filter q).filter p:=rE K7 (rE K7 (aiz λx Z=>aiA _ _))
theorem agR{s:d3}{Ls:List Lk}(N:DN F)(f:wz F)(hr:pj row)(K:Links row Ls)(h8:get ρ 8=aa (.val s.D))(h9:get ρ 9=aa (.val (.list oq)))(fS:get ρ 10=aa (.val (ik row)))(He:get ρ 23=aa (.val (cX F)))(wA:get ρ 31=aa (.val (lY (ue row))))(h55:get ρ 55=aa (.val (cX F))):
  cb tok (run tok aH 14) CH agQ ρ hs=aa (.ret (.bool ae) hs,ae):=by
 have hM:∀m∈ue row,m.length≤6:=λm hm=>by refine aD (fk.mp hm) λc Z e9=>?_;subst e9;exact aF (wV _ _) (by decide)
 refine(bq (QK (sl:=[.val (.list [.list []]),.val (.list [.list []]),.own [],.own []]) (hs':=hs) rfl rfl)).trans ?_;obtain⟨bD,h1⟩:∃bD,bD=put (put (put (put ρ 58 (.val (.list [.list []]))) 44 (.val (.list [.list []]))) 59 (.own [])) 60 (.own []):=⟨_,rfl⟩;have st:∀ {j:Nat}{o:Option bA},az 58 j=ag→az 44 j=ag→az 59 j=ag→az 60 j=ag→get ρ j=o→get bD j=o:=λa b c d h=>by refine rE h1 ?_;exact gN d (gN c (gN b (gN a h)))
 have k58:get bD 58=aa (.val (.list [.list []])):=rE h1 (gN rfl (gN rfl (gN rfl gS)))
 have k44:get bD 44=aa (.val (.list [.list []])):=rE h1 (gN rfl (gN rfl gS))
 have k59:get bD 59=aa (.own []):=rE h1 (gN rfl gS)
 have k60:get bD 60=aa (.own []):=rE h1 gS
 show cb tok _ CH _ (put (put (put (put ρ 58 (.val (.list [.list []]))) 44 (.val (.list [.list []]))) 59 (.own [])) 60 (.own [])) hs=_;refine rS h1 ?_;obtain⟨uc,e2,g58,hn,p2⟩:=agq (n:=13) (CH:=CH) (hs:=hs) hM K.run k58 (st rfl rfl rfl rfl wA);refine(bq ((jS (xs:=[nD 0,nD 1,nD 2]) (kz (n:=3) (aK _) (by decide))).trans e2)).trans ?_;have s2:∀ {j:Nat}{o:Option bA},j≠58→j≠13→get bD j=o→get uc j=o:=λ{j o}=>p2 j o;obtain⟨qA,e3,yq,hw,p3⟩:=agu (n:=14) (CH:=CH) (hs:=hs) F [[]] uc (λt ht=>by have:=f.cn ht;exact⟨by lia,this⟩) (rE sR (rE (Vf ..) (aF (yP (by decide) f.z) (by decide)))) (λps h=>by refine rE (dK.mp h) ?_;have:=f.len;show 0+132 * F.length≤600;lia) (s2 (by decide) (by decide) k44);have s3:∀ {j:Nat}{o:Option bA},j≠44→j≠42→get uc j=o→get qA j=o:=λ{j o}=>p3 j o;refine(bq ((jS (eP (aA (s2 (by decide) (by decide) (st rfl rfl rfl rfl He))))).trans e3)).trans ?_;have q8:=s3 (by decide) (by decide) (s2 (by decide) (by decide) (st rfl rfl rfl rfl h8));have q9:=s3 (by decide) (by decide) (s2 (by decide) (by decide) (st rfl rfl rfl rfl h9));have AI:=s3 (by decide) (by decide) (s2 (by decide) (by decide) (st rfl rfl rfl rfl fS));have q55:=s3 (by decide) (by decide) (s2 (by decide) (by decide) (st rfl rfl rfl rfl h55));have q59:=s3 (by decide) (by decide) (s2 (by decide) (by decide) k59);have q60:=s3 (by decide) (by decide) (s2 (by decide) (by decide) k60);have q58:=s3 (by decide) (by decide) g58;refine(bq (c7 (agv q8 q9))).trans ?_;have I:LI s (kF F) (cX F) (ik row) [] [] (put qA 38 (.val (jT (jU s)))):=⟨gN rfl q8,gN rfl AI,gS,gN rfl yq,gN rfl q55,gN rfl q59,gN rfl q60⟩;have hL:∀L∈Ls,L∈l5:=λL h=>by replace h:=K.eq▸h;exact(yQ.mp h).1
 obtain⟨SD,e4,I4,k4⟩:=agF (n:=11) (CH:=CH) (hs:=hs) N hw Ls [] [] _ hL (show 0+_<_ by lia) (show 0+_<_ by lia) I;refine(bq ((jS (eP (aA (gN rfl q58)))).trans e4)).trans (j4 (k4 K.ne) λL hL pn qB=>?_);have d1:=RH (p:=mX row) (λi j=>Tw _ _) ag 14 F _ N.all;have d2:=RH (p:=mX row) (λi j=>Tw _ _) ae 14 F _ N.cyc;replace d1:=je K.eq▸(J2 ..)▸d1;replace d2:=(J2 ..)▸d2;rewrite[J2 (jz F)]at d2;replace d2:=(show(λa=>jy a&&jz F a)=λL=>jz F L&&jy L from funext λL=>aiA _ _)▸K7▸je K.eq▸d2;exact agP (n:=12) hL I4 pn qB (R7 hr ag 14 F _ f.gd d1) (R7 hr ae 14 F _ f.gd d2)
theorem agS{e:RE}{x:D}{t:d6}(vD:get ρ 21=aa (.cU 0))(he:ev tok (run tok aH n) [[]] e ρ=aa (x,ae))(h:qY tok aH (run tok aH n) 6 [x] []=aa ((d,t),ae)):
  ex tok (run tok aH n) (aa (qY tok aH (run tok aH n))) (.qV 23 6 21 (.cons e .nil)) ρ [[]]=aa (.next (put ρ 23 (.val d)) [t],ae):=
 (cA (xW vD)).trans ((cA (m:=([[]]:Hs)[0]?) (a:=[]) rfl).trans (W.aS (bI he di) ((cA (m:=aa (qY tok aH (run tok aH n))) rfl).trans (W.aS h rfl))))
theorem agT{f:Nat}{args:List D}{fn:Fn}(hf:aH f=aa fn)(hp:oK fn.params args []=aa ρ)(h:cb tok (run tok aH n) (aa (qY tok aH (run tok aH n))) fn.body ρ []=aa (.ret d hs,ae)):E1 tok aH n f args=aa (d,ae):=
 (cA hf).trans ((cA hp).trans (W.aS h rfl))
theorem agU{il:List Int}(t9:il.length≤63):E1 tok aH 14 12 [.list (il.map .int)]=aa (.bool ae,ae):=by
 obtain⟨s,hs⟩:∃s,s=SR il:=⟨_,rfl⟩;have f:=af6 s;have N:=afO s;have hr:=afR s;refine xE (afS s) λLs K=>?_;have F5:=afG s 13;obtain⟨lp,sm⟩:∃lp,lp=lZ s (rowOf s):=⟨_,rfl⟩;have J3:∀k,k<6→(lp k).c=(rowOf s).getD k 0:=λk Z=>by refine rE sm ?_;rfl
 replace F5:=sm.symm▸F5;revert f N hr K F5 J3;generalize rowOf s=row;generalize t8 s=F;intro f N hr K J3 F5;obtain⟨ss,tH⟩:∃ss,ss=DP s F.length:=⟨_,rfl⟩;have lG:F.length=ss.length+1:=by refine rE tH ?_;unfold DP;refine rE (aQ ..) (rE ES ?_);have:=f.len;lia
 obtain⟨X,rd⟩:=agd (ss:=ss) hr J3 f (λc hc=>by replace hc:=tH▸hc;refine aD (fk.mp hc) λk Z e9=>?_;subst e9;exact(SU s k).2);have F6:=rd 13;have tl:=wd (dI lp F ss);have bl:=we (dI lp F ss);have xl:=X.len;have cz:=ad2 (λp hp=>(X.ck p hp).sg) (e:=[92]) (by decide);have F0:=QS 13 (fe (dI lp F ss)++[92]) (by rw[bt];exact aF (Ve (aF tl (yu 6 xl)) 1) (by decide)) (by rewrite[cz];rw[bt];exact aF (Ve (aF bl (yu 6 xl)) 1) (by decide));rw[cz]at F0;have sums:=λ{ρ:aM} (g1:get ρ 1=aa (.val (.list [.int 101,.int 209,.int 311,.int 10,.int 181,.int 56634]))) (AK:get ρ 54=aa (.val (.list (il.map .int))))=>afZ (C:=run tok aH 14) (hs:=[]) g1 AK t9;rw[← hs]at sums;have Tz:bK F≤12:=aF f.z (by decide);have trees:∀ {ρ:aM},get ρ 11=aa (.val (.list (F.map (bY lp))))→ev tok (run tok aH 14) ([]:Hs) (.comp [62] (.one 62) (.data (.var 11)) .nil .nil (.aG 62 (.lit (.int 0)))) ρ=aa (cX F,ae):=λ{ρ} g=>
  ij (h:=bY lp) (r:=λt=>put (rem [62] ρ) 62 (.val (bY lp t))) (eP (aA g)) (λZ Z=>rfl) (λt Z=>dp gS (aK _) rfl) (by have:=f.len;lia)
 refine agT (fn:=⟨[54],C6⟩) (ρ:=[(54,.val (.list (il.map .int)))]) rfl rfl (hs:=[bh row]) ((bq (c7 (d:=.list [.int 101,.int 209,.int 311,.int 10,.int 181,.int 56634]) rfl)).trans ((bq (c7 (sums gS (gN rfl rfl)))).trans ((bq (c7 (d:=.list oq) rfl)).trans ((bq (QJ ((IP (aA (gN rfl gS)) (aA gS)).trans F5) rfl rfl)).trans ((bq (c7 (trees gS))).trans ((bq (c7 (af0 (s:=s) (n:=F.length) (gN rfl (gN rfl (gN rfl (gN rfl gS)))) (gN rfl gS) (aQ _) (by have:=f.len;lia)))).trans ?_))))));rw[← tH];refine(bq (c7 (af3 (lp:=lp) (F:=F) (ss:=ss) (gN rfl (gN rfl gS)) gS lG Tz (by lia) (by lia)))).trans ((bq (s:=.jk 21) (hs':=[[]]) rfl).trans ((bq (c7 ((qm (dp (gN rfl gS) (aK _) rfl)).trans F0))).trans ((bq (agS (gN rfl gS) (aA gS) F6)).trans ?_)));obtain⟨bD,h1⟩:∃bD,bD=Ev.put (Ev.put (Ev.put (Ev.put (Ev.put (Ev.put (Ev.put (Ev.put (Ev.put (Ev.put (Ev.put [(54,.val (.list (il.map .int)))] 1 (.val (.list [.int 101,.int 209,.int 311,.int 10,.int 181,.int 56634]))) 8 (.val s.D)) 9 (.val (.list oq))) 10 (.val (ik row))) 11 (.val (.list (F.map (bY lp))))) 55 (.val (cX F))) 12 (.val (.list ((ss++[92]).map λc=>S [c])))) 41 (.val (.list [S (fe (dI lp F ss)++[92]),S (fh (dI lp F ss)++[92])]))) 21 (.cU 0)) 20 (.val (S (fh (dI lp F ss)++[92])))) 23 (.val (cX F)):=⟨_,rfl⟩;have r8:get bD 8=aa (.val s.D):=by rw[h1];exact gN rfl (gN rfl (gN rfl (gN rfl (gN rfl (gN rfl (gN rfl (gN rfl (gN rfl gS))))))))
 have r9:get bD 9=aa (.val (.list oq)):=by rw[h1];exact gN rfl (gN rfl (gN rfl (gN rfl (gN rfl (gN rfl (gN rfl (gN rfl gS)))))))
 have qw:get bD 10=aa (.val (ik row)):=by rw[h1];exact gN rfl (gN rfl (gN rfl (gN rfl (gN rfl (gN rfl (gN rfl gS))))))
 have TA:get bD 55=aa (.val (cX F)):=by rw[h1];exact gN rfl (gN rfl (gN rfl (gN rfl (gN rfl gS))))
 have r41:get bD 41=aa (.val (.list [S (fe (dI lp F ss)++[92]),S (fh (dI lp F ss)++[92])])):=by rw[h1];exact gN rfl (gN rfl (gN rfl gS))
 have J4:get bD 21=aa (.cU 0):=by rw[h1];exact gN rfl (gN rfl gS)
 have r20:get bD 20=aa (.val (S (fh (dI lp F ss)++[92]))):=by rw[h1];exact gN rfl gS
 have TB:get bD 23=aa (.val (cX F)):=by rw[h1];exact gS
 refine Eq.trans (b:=cb tok (run tok aH 14) (aa (qY tok aH (run tok aH 14))) _ bD [bh row]) (by rw[h1];rfl) ?_;clear h1;exact(bq (s:=.yS 21) (ρ':=bD) (hs':=[bh row]) ((cA (m:=ml [bh row] bD 21) (a:=bh row) (cA (xW J4))).trans (du _ (by rewrite[wj];rw[hr.len];rfl)))).trans ((bq (fG (II (cS (aA r20) (dp r41 (aK _) rfl) (S3 _ _)) (by rw[tS];rfl) (II (cS (aA TB) (aA TA) (agf Tz)) rfl (agj hr J4 qw))) rfl jv)).trans ((bq (c7 (agn hr J4 qw))).trans (agR N f hr K (gN rfl r8) (gN rfl r9) (gN rfl qw) (gN rfl TB) gS (gN rfl TA))))
section
open PySem.W
theorem agV{P:Params}{h:aP}:∀ {il:List Int}{vs:List ak},WellAll P h vs (ofPys (il.map fX))→aI (λZ=>False) h vs (il.map fX):=by
 intro il;induction il with
 |nil=>intro vs x;cases x;exact .nil
 |cons i il ih=>
  intro vs x;cases x with
  |cons a b=>cases a;exact .cons (.int _ _) (ih b)
theorem agW{P:Params}{h:aP}{il:List Int}(w:Well P h (.ref a) (.list (ofPys (il.map fX)))):Rd (λZ=>False) h (.ref a) (.list (il.map fX)):=by
 cases w with
 |list h1 h2=>exact .list h1 (λq=>q) (rE AW (agV h2))
theorem agX:bW callerA (14+12):=⟨rfl,by decide,by decide+kernel⟩
theorem agY{w:cM}{h:aP}{mg:gw}{fa:aE}(Y:vZ w h)(g:h.Ns gn mg)(e:mg (nS 12)=aa (.ref fa)):fa=275:=by obtain⟨K,_,_,_,J5,_,_,fd,_,k⟩:=Y;exact yG.inj (iq (e.symm.trans ((yz.agree g J5.ng (nS 12)).trans k)))
theorem agZ{w:cM}{il:List Int}(Y:vZ w s.heap)(t9:il.length≤63)(rd:aI (λZ=>False) s.heap [.ref a] [.list (il.map fX)])(hQ:∀s',Ext s s'→Q (.bool ae) s'):
  ar (aw prog w) callerA (yC (.ref 275) [.ref a]) Q E s:=by
 obtain⟨K,hw,hX,htk,J5,ag0,hFn,fd,mI,_⟩:=Y;subst hw;exact aan ag0 hFn (n:=14) agX rfl 12 _ _ (λZ=>False) s 275 fd _ (rE htk (agU t9)) mI J5 (λZ q=>q.elim) rd _ _ λv s' x r=>by rw[r.E6];exact hQ s' x
set_option tactic.hygienic true in
theorem ag1(d:DefRec)(kwd:List (ah × au))(hdn:d.name=nS 12):WalkO mO r0 (λ_ _=>True) vZ J6.row.toRowW d kwd λf vs=>yC f vs:=by
 intro w aT ai mg mb G Y fa o pm cd doc dV kV ho hd o4 hD rN hg args vals as kj ag2 Hm DI hlo;have G4:=agY Y G.T.g (hdn▸rN);subst G4;clear ho hd o4 hD rN G
 wrow_args kj ag2 Hm DI hlo
 rename_i il _ _ _ _ _ _ _ a _ _ _ _ w1 _ _ _ hlen _;have t9:il.length≤63:=by omega
 refine agZ Y t9 (.cons (agW w1) .nil) λs' x=>?_;exact⟨.inl ⟨_,_,[],rfl,λ_=>rfl,ReadsW.bool ae,(by wrow_post),λ_=>⟨yF,λ_ hm=>(nomatch hm)⟩⟩,.of_keep x.keep,x.os,x.bare (.of_eq hg)⟩
end
section
open PySem.W
noncomputable abbrev pq:=J6.row
theorem TC:(defOf mO pq.name).isSome:=by kernel_rfl
noncomputable def dk:DefRec × List (ah × au):=(defOf mO pq.name).get TC
theorem ag3:defOf mO pq.name=aa (dk.1,dk.2):=(Option.some_get TC).symm
theorem hp1:pq.prog.theDef pq.name=aa (dk.1.params,dk.1.body,dk.1.scope):=by kernel_rfl
theorem Dc:kwWritten? dk.1.params.kwonlyargs dk.1.params.kw_defaults=aa dk.2:=by kernel_rfl
theorem ag4:dk.1.name=nS 12:=by kernel_rfl
theorem ok1:(chainsOk mO&&opensWell pq.prog&&(frees pq.toRowW&&pq.within.isEmpty)):=by decide+kernel
theorem ag5:pq.prog.bare:=⟨rfl,rfl,rfl,rfl,rfl,by decide+kernel⟩
theorem z4:pq.toRowW.promised:=⟨[.list []],by decide+kernel,by decide+kernel⟩
end
end Ev
section
open PySem.W
theorem ag6:J6.wellSaid:=by refine Ev.rE PySem.W.Fast.te9446332074065402090 ?_;kernel_rfl
theorem PySem.Challenge.cw_tc0061_01_holds : PySem.Challenge.rw_tc0061_01.Holds := by
 w_on
 exact holds_law ag6 λag7=>PySem.W.holds_open (r:=Ev.pq) (q:=Ev.mO) (loose:=Ev.r0) (Xt:=λZ=>ae) (XP:=λZ Z=>True) (Yf:=Ev.obs) (Ya:=Ev.o8) (YP:=Ev.vZ) (N:=6000) (d:=Ev.dk.1) (kwd:=Ev.dk.2) Ev.acE Ev.adm Ev.adn (λZ Z=>trivial) (λZ Z Z Z Z=>trivial) Ev.ag3 Ev.hp1 Ev.Dc (λZ Z=>recFacts_nil rfl) rfl ag7 Ev.ok1 Ev.ag5 Ev.z4 (Ev.ag1 _ _ Ev.ag4)
end
