import PyProof.Rows.All
import Wide.All
import OpenK.AllK
import Wide.FinOn
import Lean
import PySem.Challenge.RW_xt0005_01
set_option Elab.async false
set_option maxRecDepth 100000
set_option linter.all false
set_option tactic.hygienic false
namespace Mine
open PySem.Str renaming ofString→af,length_append→iO,length→kR,ext'→CC
open PySem renaming wpAny_bind→ah,Shared→aE,wpAny_pure→bg,Value→bX,sizeLine_eq→c9,wpAny→cE,model→cS,wpAny_execs_nil→dS,wpAny_holding→fT,World→gp,wpAny_items_cons→iX,wpAny_loadName_local→jS,wpAny_Call_method_lateS→k9,wpAny_field→kc,sliceBounds→ki,wpAny_seqItems→kr,eval→ku,wpAny_items_nil→kC,wpAny_Call_NameR→kN,wpAny_call_entry→kP,wpAny_assign_Name→kX,wpAny_newObj_type→l7,wpAny_Return_some→nk,execs→oz,wpAny_standAt→pV,wpAny_mono→qA,wpAny_callSpecial?_slot→rj,letOwnedTupleGo→sj,wpAny_pyNext_list_item→sF,builtinLookup_eq_fast→vE,compareOp→wc,codeAny_builtin→wm,plainObj_wpAny_Assign_Attribute→xh,Comprehension→xA,wpAny_Assign_stores→xD,rawInt→y9,entryFor_of_tree→yi,wpAny_rule→yT,assign→z0,IsPair→zd,wpAny_setField_rec→ze,Flow→zh,cellsFrom→zl,wpAny_specialOf→zv,starEach→zS,wpAny_If→A0,builtinsNs→A2,wpAny_Name→A3,wpAny_truthy_bool→A6,codeAny→A8,Builtin→A9,codeAny_call_builtin→Au,newFunctionEnv→AB,wpAny_Expr_any→AE,wpAny_setField→AF,wpAny_execs_cons→AL,evalArgs_none→AP,wpAny_call→AW,isInstance→AX,typeLookup_type→B8,wpAny_updateSeq→B9,wpAny_tupleItemsOf→BE,pyIter→BQ,sliceRange→C2,subscripted→C4,wpAny_of_eq→C5,wpAny_pyNext_list_end→Cf,wpAny_eqBool_int→Cs,pyNext→Ct,wpAny_newList→CH,getItem→CM,wpAny_Tuple→CU,interactive→CY,wpAny_letGo→D3,wpAny_loadName_cell→D9,wpAny_richCompare_same_room→DF,Result→DO,wpAny_Constant_int→DZ,wpAny_tryCatch→EA,setFlight→EH,strKind_is→EI,cameBackBy→EJ,wpAny_pyIter_list→EP,wpAny_comprehension_free→F0,relabel→F6,plainId_quiet→Fc,backTo→FU,wpAny_isInstance→GH,valueAt→GU,standAt→GV,seqItems?→GW,isSubtype→GY,getitemInPython_of_ne→Iq,wpAny_isTrue_Compare1→IA,isSubtype_tuple_tuple→IF,Operator→II,entryFor→IJ,typeLookup→IM,IsZip→IP,wpAny_letTemporaryGo→IU,wpAny_AugAssign_Name→IX,wpAny_updateSeq_pair→IY,typeOf→JE,wpAny_newTuple→JU,wpAny_loadPart→JY,operate→Kn,notedBy→KA,richCompare→KO,builtinType_eq_fast→L4,runValue→Ll,seqIndex?→Lm,noteFrame→Lo,updateSeq→Lu,assignInOrder→LA,wpAny_onRaise→LG,wpAny_attempt→LH,wpAny_assign_Tuple→LS,wpAny_pyIter_tuple→LX,holding→M1,wpAny_List→Mc,slot_list_getitem→MC,wpAny_pyIter_enum→MG,foldedSetIterable→MH,codeAny_whileLoop→MI,wpAny_typeOf→MZ,call_meetsIn→N1,wpAny_mkText→N4,bootBuiltins→Na,exec→Nn,wpAny_askSetting→NF,wpAny_Dict_empty→NG,wpAny_getItem_of→NH,wpAny_pyIter_zip→NO,fillsInplaceSlot→NR,wpAny_Try_except→NS,codeAny_call_def→NU,bindArgs→NV,ZipApart→NX,GenState→NY,storeName→Of,clausesOf→OA,wpAny_For→OB,wpAny_IfExp→OC,builtinKind→OG,wpAny_operating→OQ,codeAny_of_tree→OR,pushCells_keeps→OS,call_isinstance→OU,eval_Subscript→P7,wpAny_Compare1→P8,isSubtype_type→Pd,wpAny_fieldsOf→Pe,firstArgMember→Pf,boundAndCalled→Po,IsPart→PE,closureFor→PG,OsState→PY,IntMulOk→QA,compTurn→QN,argsOk→RI,pushCells→RS,compStart→RU,stored→RY,slicePick→S0,inplaceOp→S1,raiseStmt→S4,isType→So,field→SD,spliced→SE,truthy→SW,binaryOp→SY,table→TA,Model→TM,again→TR,preSum→TZ,Params→U1,CmpOp→UD,Drawn→UE,Env→UI,Pos→UK,Sem→UM,Tok→UN
open Nat renaming le_trans→ai,le_of_ble_eq_true→b9,lt_of_le_of_lt→cK,le_of_eq→ee,le_add_right→f5,add_le_add_right→fq,add_le_add→fy,le_of_lt→fz,le_refl→gz,mul_le_mul_left→gE,succ_le_succ→gI,add_le_add_left→gS,lt_irrefl→iE,lt_of_lt_of_le→iN,le_of_lt_succ→kU,pow_le_pow_right→lI,eq_or_lt_of_le→oi,not_lt→ow,ne_of_gt→oQ,zero_le→qV,add_comm→rS,add_right_comm→vj,not_le→we,le_add_left→wh,le_of_succ_le→wo,lt_succ_of_lt→x6,lt_trans→xw,ne_of_lt→xy,add_sub_cancel_left→xS,le_of_add_right_le→yY,lt_of_sub_eq_succ→zw,sub_le→A1,sub_pos_of_lt→A4,min_le_right→AJ,lt_succ_self→AK,lt_of_add_right_lt→BS,le_succ→C3,lt_succ_of_le→C6,one_lt_succ_succ→CA,add_assoc→CD,le_antisymm→D4,lt_of_le_of_ne→DV,mul_le_mul→E6,le_succ_of_le→EL,add_sub_of_le→EM,lt_of_succ_lt→ER,lt_trichotomy→ET,lt_succ_iff_lt_or_eq→F3,add_le_add_iff_left→FA,le_max_right→FY,zero_lt_succ→G0,succ_ne_zero→G1,succ_ne_self→GB,le_add_right_of_le→GN,mul_succ→HL,le_max_left→HO,add_sub_add_right→HZ,exists_eq_add_one→I0,le_of_sub_eq_zero→I1,lt_of_add_left_lt→Ic,eq_sub_of_add_eq→IQ,sub_one_lt_of_lt→IS,lt_add_one→JI,lt_one_iff→JJ,beq→K2,sub_le_sub_left→KS,sub_lt_sub_left→KU,and_one_is_mod→LZ,succ_le_of_lt→Mn,sub_succ→MR,succ_mul→MV,lt_or_ge→MX,lt_add_right→NC,not_lt_of_le→ND,one_pos→OF,min_le_left→OM,lt_add_left→ON,one_lt_two→P6,one_le_pow→Pp,max_le→PI,succ→PZ,zero_add→Sb,lt_asymm→Sf,sub_self→Sk
open And renaming intro→av
open List renaming mem_cons_self→ay,getD_eq_getElem?_getD→bq,mem_cons_of_mem→bE,length_map→bP,mem_singleton→bS,getElem?_eq_getElem→c8,map_cons→dc,mem_cons→dP,mem_map→eg,not_mem_nil→eu,mem_append→eW,flatMap_cons→fk,length_append→fm,forall_mem_cons→fE,lookup_cons→fF,all_eq_true→fR,map_append→g9,getElem?_map→gu,replicate→gv,mem_map_of_mem→i6,nodup_append→i8,length_cons→i9,replicate_succ→iP,nodup_cons→ja,mem_append_right→jv,range→jI,find?_cons→k6,append_assoc→ko,map_map→kH,forIn_cons→kK,getElem_mem→kM,mem_range→kQ,mem_append_left→l9,pairwise_iff_getElem→mP,map_congr_left→mT,size_toArray→nh,append_nil→nK,length_eq_zero_iff→oj,flatMap_append→pT,getElem?_eq_some_iff→qa,nil_append→sq,filterMap_cons→sA,mem_filter→sD,drop_eq_nil_of_le→sM,filter_cons→t9,sizeOf_lt_of_mem→vt,length_filter_le→vF,length_take→yb,cons_append→yk,mem_flatMap→yy,mem_of_getElem?→As,drop_eq_getElem_cons→AG,getElem_map→AM,filter_sublist→AQ,map_nil→AZ,sum_cons→B5,foldl_cons→B6,zip_cons_cons→BC,filter_eq_nil_iff→BU,length_range→C8,pairwise_map→C9,getElem?_eq_none→Cn,contains_iff_mem→Co,length→CS,length_nil→D8,length_pos_iff→DB,mem_replicate→E0,forIn_nil→E9,mem_of_mem_eraseIdx→F2,lookup_eq_none_iff→FI,append_cons→G2,flatMap_nil→GA,take_length→GG,any_eq_true→GI,toArray→HK,sum_append→HT,take_append_drop→ID,length_singleton→IE,length_replicate→IG,nodup_nil→JO,map_id→KP,take_succ_cons→L5,length_take_le→L8,zip_map'→LI,contains_cons→LO,lookup_append→LU,getElem_range→LW,Nodup→Me,take_add_one→ME,foldl_append→MM,any_eq_false→MQ,Sublist→MW,zipWith→MY,map_id'→N9,isEmpty_iff→NI,length_drop→NL,zipIdx_cons→NN,zipIdx_nil→OV,any_map→Si,cons→UB
open Option.some renaming inj→aI,injEq→ES
open PySem.Heap renaming get?_push_of_some→b6,get?_push_size→ck,lt_size→eK,get?_update_other→gg,get?_update_self→k8,size_push→kq,get?_update_ne→xE,SameBut→AY,IsTuple→Sm,ExtBut→SI
open Bool renaming and_eq_true_iff→cy,false_eq_true→fh,and_eq_true→j3,not_eq_true'→l6,false_ne_true→nV,or_eq_false_iff→w9,not_true→xB,eq_false_iff→A5,or_eq_true→B7,or_false→CI,or_eq_true_iff→KW,and_true→LF,eq_iff_iff→OP,not_false→PA,or_true→Sl
open Prod.mk renaming inj→dQ,injEq→LD
open PySem.PyData renaming keyHash→fN,depthAll→qc,eqv→rV,strOk→tT,depth→uS
open Array renaming getD_eq_getD_getElem?→gi,length_toList→iS,getElem?_eq_getElem→mE,getElem?_toList→nt,eq_empty_of_size_eq_zero→qo,toList_inj→yv,ext'→AU,size_append→EO,toList_append→L7,toList_push→MD,size→PF,toList→Sn
open PySem.Builtin renaming bitNot→gT,bitOr→kB,bitAnd→kL
open Ne renaming symm→i7
open Int renaming fmod_nonneg_of_pos→ia,toNat→iA,fmod_lt_of_pos→k7,le_trans→kg,lt_of_le_of_lt→mh,natCast_nonneg→mw,ofNat_lt→qf,ofNat_le→qh,lt_irrefl→r8,le_of_lt→tS,toNat_le→vn,toNat_natCast→x7,not_lt→A7,toNat_of_nonneg→AO,lt_of_lt_of_le→BB,eq_ofNat_of_zero_le→BF,natAbs→C1,le_antisymm→D5,mul_lt_mul_of_pos_left→DL,mul_lt_mul_of_neg_left→DM,ne_of_gt→DU,ofNat→EF,toNat_add_nat→EN,lt_trichotomy→EU,add_neg_cancel_right→EV,neg_ofNat_le_natCast→EW,lt_trans→HA,add_comm→HC,ne_of_lt→HE,zero_add→HG,lt_asymm→HM,sub_nonneg_of_le→IT,ofNat_succ_pos→LM,emod_eq_of_lt→MA,self_le_toNat→MB,add_zero→MS,le_of_eq→MU,emod_two_eq→OL,add_le_add→P5,le_natAbs→Rl,add_assoc→RA,toNat_lt→Sa,ediv_one→Sj,mul_one→SH,mul_add→SP,pow_pos→SR
open Option renaming map_eq_some_iff→iF,bind_eq_some_iff→l8,eq_none_iff_forall_not_mem→oq,isSome_iff_exists→qE,map_some→zo,none→CR,some_inj→D7,isNone_iff_eq_none→EE,getD→KL,isSome→LB,isSome_none→LV,some_get→OO
open PySem.Calls renaming callWith_builtin→iL,Name_function_global→sN,evalArgs_plain→w4,loadGlobal_global→BG,callWith_function→BH
open PySem.Builtin.SmallTypes renaming nextOf→kD,ownedTupleIsFree→n9,ownedTupleHandOut→AI
open PySem.W.X renaming tableObj→kF
open PySem.Value renaming none→kG,ref→sf,int→CO,builtin→F9,isStrOf_shape→KV
open PySem.Sre renaming forSearch→kT,Seen→qq,inSet→EG
open Inhabited renaming default→nE
open PySem.F renaming slot_tuple_iterator_next→pe,plainAttrs_list→rq,slot_tuple_getitem→sQ,plain_min_loop→tw,slot_list_append→x9,type_list_append→xe,slot_zip_next→zD,slot_dict_itemiterator_iter→AR,args_tuple_iterator_next_1→B3,plainAttrs_dict→BI,entry_tuple_iterator_next→BN,slot_list_iadd→BY,slot_str_getitem→EX,slot_dict_values→EZ,slot_list_index→FE,slot_dict_items→FF,args_zip_next_1→FG,slot_dict_clear→FH,entry_min_loop→GL,entry_zip_next→GO,slot_str_find→IC,store_object→IZ,isi_meta_tuple→NJ,slot_tuple_lt→OW,slot_tuple_ne→OX
open PySem.SeqAt renaming canLay_of_shaped→pn,eqv_refl→EB,shaped→LN,list_indexAt→PO
open False renaming elim→qs
open PySem.Obj renaming data_mapFields→qB,mapSeq→rX,mapFields→xC,isFreed_of_fields→zC,putName→SS
open PyProof.Rows renaming seqObj→se,callWith_type→sP,sortedHeap→CL,AllBare→F5,get?_update_seq→HU,iadd_int→IB,StrsAre→KG,Attribute_Name_→OT,slicePart_none→P9,getItem_str→PM,join_list→RH,iadd_str→Sp,len_list→Sz,len_str→SA
open PySem.W renaming kas_sort→tF,Looks→AA,looks_mroIn→AN,Frag→Cb,looks_findIn→Cc,cellsFrom_some→E7,findIn→JA,instObj→Mb,check_slot→Mk,looks_instIn→N3,plainGet_of→OE,looks_clsIn→OI,InstAt→Pc,dictOf→QY,getL→Se,hideAll→SG,keepIn→TU,nsIn→UH
open PySem.Builtin.Slice renaming slicePlaces→vS,sliceAdjust→AH,sliceApplied→DJ,sliceFields→PD
open PySem.Builtin.Tuple renaming tupleExact→x8,tupleItemsOf→OZ
open SizeOf renaming sizeOf→xo
open Eq renaming symm→zk
open Prod renaming fst→zI,mk→M0,ext→To
open PySem.Sre.M renaming admitted→AD,attemptFrom→C7,runFor→DT
open Pure renaming pure→AS
open PySem.Env renaming kindOf→AV
open PySem.Builtin.ObjectAttr renaming setByDescriptor→B4,storeInOwnDict→BO,storeTaker?→Nd,storeInDict→Nl
open List.cons renaming injEq→BA,inj→F8
open PySem.Around renaming under_plainId→CB
open PySem.NameKind renaming free→CE,cell→RE
open ForInStep renaming yield→D6
open PySem.Heap.SameBut renaming update→DA
open PySem.Builtin.Str renaming strSliceIndices→DC,tooLong→SV
open PySem.Builtin.List renaming listExtendWith→DE,listTooLong→F1,listItems→GS,listFitsIndex→P4
open PySem.Builtin.Builtins renaming bindParams→DH
open PySem.W.Fast renaming te17960256430627541270→DI
open PySem.Txt renaming find→DS,join→NW,slice→RO
open PySem.Code renaming quiet_builtin→E4,compStart→E8,compLoop→F7
open Classical renaming byContradiction→EC
open PySem.Builtin.Re renaming reRawNat→ED,reRawOf→PV
open PySem.Builtin.Getset_descriptor renaming descrCheckInstance→F4,descrStoreThrough→FL,descrNameAndClass→FO,descrSet→Lc
open PySem.Builtin.Range renaming rangeSize→FD,small→L3,rangeFitsLong→OY
open PySem.Heap.DictOf renaming new→HP
open PySem.Bind renaming staticBase→HV,madeBy→OH
open PySem.W.Looks renaming ld→IL,of_pure→LJ
open PySem.EntryCells renaming newEntry→L6
open Int.ofNat renaming inj→Lv
open Nat.ToInt renaming of_diseq→LL
open List.Nodup renaming sublist→LY
open PySem.W.Frag renaming In→ML
open PySem.callAny renaming viaDunder→MO
open Nat.succ renaming inj→N2
open PySem.Builtin.OSError renaming osNothingGiven→Nc
open PySem.Comprehension.mk renaming sizeOf_spec→O0
open PySem.Walks renaming strAscii→Pw
open List.Perm renaming cons→PC
open PySem.SeqAt.EqAt renaming str_str→PR
open List.Sublist renaming append_left→PU
open PySem.Made renaming val→QE,str→QI
open ToString renaming toString→QO
open MonadExcept renaming tryCatch→QU
open PySem.Shared renaming heap→SO
open PySem.Heap.IsTuple renaming push→TH
open PySem.Comprehension renaming mk→TL
open ForIn renaming forIn→TN
open Iff renaming rfl→UA
open PySem.Flow renaming next→UC
open Min renaming min→UO
open PySem PySem.W PyProof.Rows
section
theorem YD {α:Type}{a:α}{P:Prop}(h:none=some a):P:=absurd h.symm (Option.some_ne_none a)
theorem noB {P:Prop}(h:false=true):P:=absurd h nV
theorem omA {b x:Nat}(h0:b≤6):6+20*(b - x)≤126:=gS (gE 20 (ai (A1 ..) h0)) 6
theorem Lb {x y:Int}(e:x % 2=y % 2):(x % 2=1↔y % 2=1)∧(¬x % 2=1↔y % 2=0):=by
 rw[e];exact⟨UA,fun h=>(OL _).resolve_right h,fun h q=>absurd (h.symm.trans q) (by decide)⟩
theorem Ls {x y b a:Nat}(h:x<y)(h3:b≤2*x+1)(h4:a≤1):a+(b+1)≤2*y+1:=
 ai (ee (rS a (b+1))) (ai (fy (gI h3) h4) (gI (gE 2 h)))
theorem Lz {a b c:Nat}(h0:a+c<7)(h1:b+1≤c):a+1+b<7:=cK (ai (ee (vj a 1 b)) (gS h1 a)) h0
theorem DP {a:Int}(h0:(C1 a)<1000):a<((2:Int) ^ 63):=HA (mh Rl (qf.mpr h0)) (by decide)
theorem Ht {a:Int}(h0:(C1 a)<1000):((-((2:Int) ^ 63)):Int)≤a:=Int.neg_le_of_neg_le (tS (DP (cK (ee (Int.natAbs_neg a)) h0)))
theorem Wz {a b c d:Nat}(h0:d≤a)(h1:d≤b)(h2:b<a)(h3:(a - d)≤(c+1)):((a - (b+1)):Nat)≤c:=by
 have h:a - b≤c+1:=ai (KS h1 a) h3
 rw[MR];exact Nat.pred_le_pred h
theorem Wy {a b c d:Nat}(h0:(b+c)≤a)(h1:d≤c):(((a - (b+c))+d):Nat)≤(a - b):=by rw[←Nat.sub_sub];exact ai (gS h1 _) (ee (Nat.sub_add_cancel (Nat.le_sub_of_add_le' h0)))
theorem Wt {b:Nat}{a:Int}(h0:(((0:Int):Int)≤a)∧(a≤(3:Int)))(h1:b≤2):((((iA a)+1)+b):Nat)≤6:=(fy (gI ((vn (n:=3)).mpr h0.2)) h1:_≤3+1+2)
theorem Wo {a b c d:Nat}(h0:c≤6)(h1:d=c)(h2:a≤(6+(20*(c - 0))))(h3:b=(iA (((c - 0):Nat):Int))):(a+b)≤200:=ai (fy (ai h2 (omA h0)) (ai (ee (h3:b=c - 0)) (ai (A1 c 0) h0))) (by decide)
theorem om0 {a:Nat}(h0:a<7):(a=0)∨((a=1)∨((a=2)∨((a=3)∨((a=4)∨((a=5)∨(a=6)))))):=by decide +revert
theorem K9 {a b:Nat}(h0:a≤b):a≤(b+1):=EL h0
theorem a3T:(((0+1)+1):Nat)≤16777216:=by decide
theorem om1 {a:Nat}(h0:a≤3):(a=0)∨((a=1)∨((a=2)∨(a=3))):=by decide +revert
theorem om2 {a b:Nat}(h0:b<a):((a - (b+1)):Nat)<(a - b):=by subst_vars;exact Nat.sub_succ_lt_self a b h0
theorem om3 {a b:Nat}(h0:b=7)(h1:a<7):a<b:=iN h1 (ee h0.symm)
theorem om4 {a b c d e f:Nat}(h0:d<3)(h1:e=(d+1))(h2:f=(d+1))(h3:b≤2)(h4:b<2)(h5:a=((2*d)+1)):((a+(UO b c)):Nat)≤1000:=ai (fy (ee h5) (ai (OM ..) h3)) (ai (fq (gI (gE 2 (fz h0))) 2) (by decide))
theorem om5 {a b c d e:Nat}{f:Int}(h0:c≤6)(h1:d=c)(h2:(e+1)≤c)(h3:a≤(6+(20*(c - (e+1)))))(h4:(((((c - (e+1)):Nat):Int)+(1:Int)):Int)=(((c - e):Nat):Int))(h5:(((0:Int):Int)≤f)∧(f≤(9:Int)))(h6:b=(iA f)):(a+b)≤16777216:=ai (fy (ai h3 (omA h0)) (ai (ee h6) ((vn (n:=9)).mpr h5.2))) (by decide)
theorem om6 {a:Nat}(h0:a<3):(a=0)∨((a=1)∨(a=2)):=by decide +revert
theorem om7 {a b:Nat}(h0:a<7)(h1:b=7):a<b:=iN h0 (ee h1.symm)
theorem om9 {b c d:Nat}{a:Int}(h0:b≤6)(h1:d=b)(h2:(c+1)≤b)(h3:(((0:Int):Int)≤a)∧(a≤(3:Int)))(h4:(((((b - (c+1)):Nat):Int)+(1:Int)):Int)=(((b - c):Nat):Int))(h5:a>(0:Int)):(((0:Int):Int)≤(a+(((b - c):Nat):Int)))∧(((a+(((b - c):Nat):Int)):Int)≤(9:Int)):=⟨Int.add_nonneg h3.1 (mw _),kg (P5 h3.2 (qh.mpr (ai (A1 ..) h0))) (by decide)⟩
theorem pJ {a:Nat}:(15:Nat)≤(40+a):=by simp +arith [*]
theorem Xc {a b c d:Nat}(h0:c≤6)(h1:d=c)(h2:a≤(6+(20*(c - 0))))(h3:b=(iA (((c - 0):Nat):Int))):(a+b)≤16777216:=ai (Wo h0 h1 h2 h3) (by decide)
theorem Xe {a b c d:Nat}(h0:c=a)(h1:d<7)(h2:(b+1)≤a)(h3:d≠0):(((((a - (b+1)):Nat):Int)+(1:Int)):Int)=(((a - b):Nat):Int):=congrArg (Nat.cast (R:=Int)) (Nat.succ_pred_eq_of_pos (A4 h2))
theorem Xg {a b c d:Nat}{e:Int}(h0:a≤(6+(20*(c - (d+1)))))(h1:(((((c - (d+1)):Nat):Int)+(1:Int)):Int)=(((c - d):Nat):Int))(h2:(((0:Int):Int)≤e)∧(e≤(9:Int)))(h3:b=(iA e)):(a+b)≤((6+(20*(c - (d+1))))+9):=fy h0 (ai (ee h3) ((vn (n:=9)).mpr h2.2))
theorem Xh {a b c d:Nat}(h0:b≤6)(h1:c=b)(h2:(d+1)≤b)(h3:(((((b - (d+1)):Nat):Int)+(1:Int)):Int)=(((b - d):Nat):Int))(h4:a≤((6+(20*(b - (d+1))))+10)):(a+2)≤16777216:=ai (fq (ai h4 (fq (omA h0) 10)) 2) (by decide)
theorem Xi {a b c d:Nat}(h0:b≤6)(h1:c=b)(h2:(d+1)≤b)(h3:(((((b - (d+1)):Nat):Int)+(1:Int)):Int)=(((b - d):Nat):Int))(h4:a≤((6+(20*(b - (d+1))))+9)):(a+1)≤16777216:=ai (gI (ai h4 (fq (omA h0) 9))) (by decide)
theorem Yt {a b:Nat}(h0:a≤b)(h1:¬(a<b)):a=b:=D4 h0 (ow.mp h1)
theorem Yu {a b:Nat}(h0:(a+b)=7)(h1:a<7):(a=0)∨((a=1)∨((a=2)∨((a=3)∨((a=4)∨((a=5)∨(a=6)))))):=om0 h1
theorem Xm {a:Nat}(h0:a≤2):(a=0)∨((a=1)∨(a=2)):=by decide +revert
theorem KJ {a b:Nat}(h0:a≤b):((a+(b - a)):Nat)=b:=by subst_vars;exact EM h0
theorem xN {a b:Nat}(h0:(a+1)≤b):a≤b:=by subst_vars;exact wo h0
theorem IK {a b:Nat}(h0:(a+1)≤b)(h1:b≤(2 ^ 7)):a≤128:=fz (iN h0 h1)
theorem Xq {a b c d:Nat}(h0:((b+(c+1)):Nat)=a)(h1:b<d):(a - b)=((a - (b+1))+1):=by rw[←h0,xS,←CD b c 1,HZ,xS]
theorem Wq {b:Nat}{a:Int}(h0:(((0:Int):Int)≤a)∧(a≤(3:Int)))(h1:b≤2):((((iA a)+1)+b):Nat)≤16777216:=ai (Wt h0 h1) (by decide)
theorem Xv {a:Int}:((((((-a) - (1:Int)) % (2:Int)):Int)=(1:Int))↔((((a+(1:Int)) % (2:Int)):Int)=(1:Int)))∧((¬(((((-a) - (1:Int)) % (2:Int)):Int)=(1:Int)))↔((((a+(1:Int)) % (2:Int)):Int)=(0:Int))):=Lb ((congrArg (· % 2) (show -a - 1=-(a+1) from(Int.neg_add ..).symm)).trans (Int.neg_emod_two _))
theorem Nh {a b c d e:Nat}(h0:c=b)(h1:d=c)(h2:a<e)(h3:e<b):a<b:=xw h2 h3
theorem Xw {a:Int}(h0:¬(((0:Int):Int)≤a)):(((1:Int) - ((((iA ((-a) - (1:Int))) % 2):Nat):Int)):Int)=(a % (2:Int)):=by
 cases a with
 |ofNat n=>exact absurd (mw n) h0
 |negSucc n=>exact(congrArg (fun x:Int=>1 - ((x.toNat % 2:Nat):Int)) (Int.add_sub_cancel (n:Int) 1)).trans (Int.negSucc_emod n (show(0:Int)<2 by decide)).symm
theorem RC {a b:Nat}(h0:b≤a)(h1:¬(b<a)):(a - b)=0:=by simp_all +arith
theorem xO {a b c d:Nat}(h0:c=b)(h1:d=c)(h2:a<c):a<b:=Nat.lt_of_lt_of_eq h2 h0
theorem Xy {a b c:Nat}(h0:((b+(c+1)):Nat)=a):(a - b)=((a - (b+1))+1):=by rw[←h0,xS,←CD b c 1,HZ,xS]
theorem XC {a b c d e:Nat}(h0:d≤c)(h1:d≤e)(h2:e<c)(h3:b≤((2*(c - (e+1)))+1))(h4:a≤1):((a+(b+1)):Nat)≤((2*(c - d))+1):=Ls (KU (cK h1 h2) (C6 h1)) h3 h4
theorem Wr {a:Int}:((((a % (2:Int)):Int)=(1:Int))↔(((a % (2:Int)):Int)=(1:Int)))∧((¬(((a % (2:Int)):Int)=(1:Int)))↔(((a % (2:Int)):Int)=(0:Int))):=Lb rfl
theorem XD {a b c d e f:Nat}(h0:(a+1)≤d)(h1:(b+1)≤e)(h2:d≤(2 ^ 7))(h3:e≤(2 ^ 7))(h4:c≤(128*128))(h5:f=c):(((a+b)+c):Nat)≤16777216:=ai (fy (fy (ai (fz h0) h2) (ai (fz h1) h3)) h4) (by decide)
theorem XF {a:Int}(h0:((0:Int):Int)≤a):(((((iA a) % 2):Nat):Int):Int)=(a % (2:Int)):=by obtain ⟨n,rfl⟩:=BF h0;rfl
theorem XH {a b c:Nat}(h0:b≤c)(h1:a≤1):(a+b)≤(c+1):=ai (ee (rS a b)) (fy h0 h1)
theorem XJ {a b c d e f g:Nat}(h0:b=c)(h1:d=b)(h2:e=c)(h3:f=b)(h4:g=c)(h5:a=f):a=(UO b c):=by simp +arith [*]
theorem XK {a b c d e f:Nat}(h0:d≤c)(h1:d≤e)(h2:(e<f)∧(f≤c))(h3:b≤((2*(c - f))+1))(h4:a≤1):((a+(b+1)):Nat)≤((2*(c - d))+1):=Ls (KU (cK h1 (iN h2.1 h2.2)) (cK h1 h2.1)) h3 h4
theorem XN {a:Int}(h0:(((0:Int):Int)≤a)∧(a≤(3:Int)))(h1:a>(0:Int)):(((iA a)+1):Nat)=(iA (a+((1:Nat):Int))):=(EN h0.1 1).symm
theorem XQ {a b:Nat}(h0:a≤6)(h1:b=a):((((a - 0):Nat):Int):Int)≤(1000:Int):=(qh (n:=1000)).mpr (ai h0 (by decide))
theorem XR {a b c d e:Nat}(h0:c≤900)(h1:(d+e)≤c)(h2:a≤(c - (d+e)))(h3:b≤e):(a+b)≤1000:=ai (fy h2 h3) (ai (Wy h1 (gz _)) (ai (A1 _ _) (ai h0 (by decide))))
theorem Lx {a b c:Nat}(h0:c=b)(h1:a<c):a<b:=xO h0 (id (zk h0)) h1
theorem XX {b:Nat}{a:Int}(h0:a>(0:Int)):(((iA (a+(b:Nat)))+1):Nat)=(iA (a+(((b+1):Nat):Int))):=(congrArg PZ (EN (tS h0) b)).trans (EN (tS h0) (b+1)).symm
theorem Ws {a b:Nat}(h0:a≤128)(h1:b≤128):(a+b)≤16777216:=ai (fy h0 h1) (by decide)
theorem Y0 {a b c d e f:Nat}(h0:(a+c)<7)(h1:c=((max d b)+1))(h2:e<7)(h3:e≠0)(h4:f<7)(h5:f≠0):(((a+1)+b):Nat)<7:=Lz h0 (ai (gI (FY d b)) (ee h1.symm))
theorem Y4 {a b c:Nat}(h0:(((((b - (c+1)):Nat):Int)+(1:Int)):Int)=(((b - c):Nat):Int))(h1:a≤((6+(20*(b - (c+1))))+10)):(a+2)≤(6+(20*(b - c))):=ai (fq h1 2) (ai (gS (by decide:12≤20) (6+20*(b - (c+1)))) (ee (congrArg (fun y=>6+20*y) (Lv h0))))
theorem Y5 {a b c d e f:Nat}(h0:(a+c)<7)(h1:c=((max b d)+1))(h2:e<7)(h3:e≠0)(h4:f<7)(h5:f≠0):(((a+1)+b):Nat)<7:=Lz h0 (ai (gI (HO b d)) (ee h1.symm))
theorem Y6 {a b c d:Nat}(h0:((a - (b+1)):Nat)=(c+1))(h1:(b+1)<a)(h2:d=(b+1)):((a - ((b+1)+1)):Nat)=c:=(MR a (b+1)).trans (congrArg Nat.pred h0)
theorem Y7 {a b c:Nat}(h0:(((((b - (c+1)):Nat):Int)+(1:Int)):Int)=(((b - c):Nat):Int))(h1:a≤((6+(20*(b - (c+1))))+9)):(a+1)≤((6+(20*(b - (c+1))))+10):=by subst_vars;exact fq h1 1
theorem Y8 {a b c d e f:Nat}(h0:c=d)(h1:c≤b)(h2:(((d+(e+(f+1)))+4):Nat)≤b)(h3:a=(d+1)):a≤b:=ai (ee h3) (ai (fy (f5 d _) (by decide:1≤4)) h2)
theorem Wu {a:Int}(h0:(((0:Int):Int)≤a)∧(a≤(3:Int))):(((iA a)+1):Nat)≤16777216:=ai (gI ((vn (n:=3)).mpr h0.2)) (by decide)
theorem Y9 {a b c d:Nat}{e:Int}(h0:c<3)(h1:a=(c+1))(h2:d=(c+1))(h3:b<a)(h4:((b:Int):Int)=e):((a - (b+1)):Nat)≤3:=ai (A1 ..) (ai (ee h1) h0)
theorem Yb {a b:Int}(h0:(C1 b)<1000)(h1:(C1 a)<1000):((((iA (a - b)):Nat):Int):Int)<((2:Int) ^ 63):=HA (qf.mpr (cK (vn.mpr Rl) (cK (Int.natAbs_sub_le a b) (Nat.add_lt_add h1 h0)))) (by decide)
theorem Wv {a b:Nat}(h0:b≤2)(h1:a≤(b+1)):a<16777216:=cK (ai h1 (gI h0)) (by decide)
theorem Yv {a b c d e:Nat}(h0:c≤b)(h1:a=d)(h2:d≤e)(h3:e≤c):a≤b:=ai (ee h1) (ai h2 (ai h3 h0))
theorem Ww {a:Int}:(a+a)=((2:Int)*a):=by subst_vars;exact zk (Int.two_mul a)
theorem Wx {a:Int}(h0:((0:Int):Int)≤a)(h1:a<(4:Int)):(a=(0:Int))∨((a=(1:Int))∨((a=(2:Int))∨(a=(3:Int)))):=by obtain ⟨n,rfl⟩:=BF h0;exact(om1 (kU (qf.mp h1))).imp (congrArg EF) (.imp (congrArg EF) (.imp (congrArg EF) (congrArg EF)))
theorem Yd {a b c d e f g:Nat}(h0:c=b)(h1:d=c)(h2:e=b)(h3:f=c)(h4:g=b)(h5:a<c):a<b:=xO h0 h1 h5
theorem VK {a b c:Nat}(h0:b=c)(h1:a<c):a<b:=iN h1 (ee h0.symm)
theorem VL {a b:Nat}(h0:a≤100)(h1:b≤3):(a+b)≤16777216:=by lia
theorem Ye {a b c d e:Nat}(h0:d≤a)(h1:d≤e)(h2:(e<b)∧(b≤a))(h3:(a - d)≤(c+1)):(a - b)≤c:=ai (KS h2.1 a) (Wz h0 h1 (iN h2.1 h2.2) h3)
theorem Yg {a b:Nat}(h0:a<b):(UO a b)≤b:=by subst_vars;exact AJ a b
theorem Yh {b c d:Nat}{a:Int}(h0:d≤3)(h1:c≤((20*d)+20))(h2:(((0:Int):Int)≤a)∧(a≤(3:Int)))(h3:b≤2):(((iA a)+((b+c)+1)):Nat)≤1000:=ai (fy ((vn (n:=3)).mpr h2.2) (gI (fy h3 (ai h1 (fq (gE 20 h0) 20))))) (by decide)
theorem Yi {a b c d:Nat}{e:Int}(h0:c<3)(h1:b=(c+1))(h2:d=(c+1))(h3:a<b)(h4:((a:Int):Int)=e):(UO a b)≤3:=ai (AJ a b) (ai (ee h1) h0)
theorem Yw {a b:Nat}(h0:((a+((b - (a+1))+1)):Nat)=7):(((a+1)+(b - (a+1))):Nat)=7:=by simp_all +arith
theorem VM {a b c d:Nat}(h0:((a+(c+1)):Nat)=d)(h1:(a+1)≤b):a≤b:=by subst_vars;exact xN h1
theorem Yj {a b c d e f g:Nat}(h0:b=c)(h1:b≤1000)(h2:d=b)(h3:e=c)(h4:f=b)(h5:g=c)(h6:a≤f):a≤16777216:=ai h6 (ai (ee h4) (ai h1 (by decide)))
theorem Ni {a:Nat}(h0:a<7):((0:Int):Int)≤(a:Nat):=by subst_vars;exact mw a
theorem Yk {a:Nat}(h0:(0:Nat)<a):((iA ((-(1:Int))+(a:Nat))):Nat)=(a - 1):=by obtain ⟨n,rfl⟩:=I0.mpr h0;exact congrArg iA ((HC (-1) ((n:Int)+1)).trans (EV n 1))
theorem Yl {a b c:Nat}(h0:((a - (b+1)):Nat)=(c+1))(h1:(b+1)<a):((a - ((b+1)+1)):Nat)=c:=(MR a (b+1)).trans (congrArg Nat.pred h0)
theorem WD {a b c:Nat}(h0:a≤b)(h1:a≤c)(h2:c<b)(h3:(b - a)≤0):False:=absurd h3 (we.mpr (A4 (cK h1 h2)))
theorem Ym {a b c d e f:Nat}(h0:d<3)(h1:e=(d+1))(h2:f=(d+1))(h3:(((a+b)+c):Nat)≤((2*d)+12)):(((a+b)+c):Nat)≤16777216:=ai h3 (ai (fq (gE 2 (fz h0)) 12) (by decide))
theorem LQ {a:Nat}(h0:a=0):a<7:=by subst_vars;exact G0 6
theorem LR {a:Nat}(h0:a≤1000):a≤16777216:=ai (by assumption) (b9 rfl)
theorem M4 {a b c:Nat}(h0:((a+(b+1)):Nat)=c):(((a+1)+b):Nat)=c:=by subst_vars;exact Nat.succ_add_eq_add_succ a b
theorem M5 {a:Nat}(h0:a≤7):a≤16777216:=ai (by assumption) (b9 rfl)
theorem Yn {a b c d e:Nat}(h0:e≤d)(h1:b≤d):(((UO a b) - c):Nat)≤d:=ai (A1 _ _) (ai (AJ _ _) h1)
theorem WF {a b:Nat}(h0:b≤1000000)(h1:a≤((2*(b - 0))+1)):(a+4)≤16777216:=ai (fq (ai h1 (gI (gE 2 h0))) 4) (by decide)
theorem WK {a b c:Nat}(h0:a≤3)(h1:b≤((3*c)+5)):(a+b)≤((3*(c+1))+5):=ai (ee (rS a b)) (ai (fy h1 h0) (ee (vj (3*c) 5 3)))
theorem VN {a b c:Nat}:(((a+b)+c):Nat)=(a+(c+b)):=by simp +arith [*]
theorem Yo {a b c:Nat}(h0:(((a+1) - b):Nat)≤(c+1))(h1:b<a):(((a+1) - (b+1)):Nat)≤c:=by simp_all +arith
theorem M6 {a:Nat}:(13:Nat)≤(29+a):=by simp +arith [*]
theorem Yp {a b c d:Nat}(h0:(((c+d)+1):Nat)≤7)(h1:a≤c)(h2:b≤d):(a+b)≤16777216:=ai (fy h1 h2) (ai (wo h0) (by decide))
theorem a0h:(7:Nat)≤1000:=by subst_vars;exact b9 rfl
theorem WL {a b:Nat}(h0:a≠b):¬(((a:Int):Int)=(b:Nat)):=by subst_vars;exact LL rfl rfl h0
theorem WM {a:Int}(h0:(((0:Int):Int)≤a)∧(a≤(3:Int))):((1:Nat)≤1000)∧((((-(1000:Int)):Int)≤a)∧(a≤(1000:Int))):=⟨by decide,kg (by decide) h0.1,kg h0.2 (by decide)⟩
theorem Ot {a b:Nat}(h0:a<b)(h1:((b - (a+1)):Nat)=0):a=(b - 1):=D4 (Nat.le_sub_one_of_lt h0) (Nat.sub_le_of_le_add (I1 h1))
theorem Ou {a:Int}(h0:(((0:Int):Int)≤a)∧(a≤(9:Int))):((1:Nat)≤1000)∧((((-(1000:Int)):Int)≤a)∧(a≤(1000:Int))):=⟨by decide,kg (by decide) h0.1,kg h0.2 (by decide)⟩
theorem Ov {a b:Nat}(h0:b≤2)(h1:a≤210):(a+b)≤16777216:=ai (fy h1 h0) (by decide)
theorem Ow {a:Nat}(h0:a≤16777216):((UO (iA (((2:Int) ^ 63) - (1:Int))) a):Nat)=a:=Nat.min_eq_right (ai h0 (by decide))
theorem Hp {a b:Nat}(h0:a≤(2*b)):(((a+1)+1):Nat)≤(2*(b+1)):=by simp +arith [*]
theorem K6 {a:Int}(h0:((0:Int):Int)≤a)(h1:a<(3:Int)):(a=(0:Int))∨((a=(1:Int))∨(a=(2:Int))):=by obtain ⟨n,rfl⟩:=BF h0;exact(om6 (qf.mp h1)).imp (congrArg EF) (.imp (congrArg EF) (congrArg EF))
theorem Ox {a b c d e:Nat}(h0:a=c)(h1:(((c+(d+(e+1)))+4):Nat)≤b):a≤b:=ai (ee h0) (ai (ai (f5 c _) (f5 _ 4)) h1)
theorem Oz {a b c:Nat}(h0:(((b+c)+1):Nat)≤7)(h1:a≤c):a≤7:=ai h1 (ai (wh c b) (wo h0))
theorem K7 {a b:Nat}(h0:a=((2*b)+1)):(a+1)=(2*(b+1)):=by subst_vars;exact M4 rfl
theorem OD {b c d:Nat}{a:Int}(h0:(((c+1)+b):Nat)≤7)(h1:d≤((20*c)+20))(h2:a≤(3:Int))(h3:a>(0:Int)):((iA (a+(((b+1):Nat):Int))):Nat)≤12:=vn.mpr (kg (P5 h2 (qh.mpr (gI (ai (wh b (c+1)) h0)))) (by decide))
theorem Hq {a:Nat}(h0:a<7):((a:Int):Int)≤(1000:Int):=by decide +revert
theorem Hr {a b:Nat}(h0:((a+(8*b)):Nat)≤9000):a≤9000:=by subst_vars;exact yY h0
theorem OJ {a b c:Nat}(h0:(((b+c)+1):Nat)≤7)(h1:a≤b):a≤7:=ai h1 (ai (f5 b c) (wo h0))
theorem K8 {a b:Nat}(h0:(((b+a)+1):Nat)≤7):a≤7:=fz (Ic h0)
theorem Ka {a b:Nat}(h0:(((a+b)+1):Nat)≤7):a≤7:=fz (BS h0)
theorem P0 {a b:Nat}(h0:b=6)(h1:a≤200):(a+b)≤210:=ai (fy h1 (ee h0)) (by decide)
theorem Pa {a b:Nat}(h0:b=6)(h1:a≤200):(a+b)≤16777216:=ai (fy h1 (ee h0)) (by decide)
theorem Kc {a b:Nat}(h0:b=a)(h1:a<7):(a<7)∧((7:Nat)≤16777216):=by simp +arith [*]
theorem Pb {a b:Nat}(h0:a≤6):a≤(6+(20*(b - b))):=by subst_vars;exact GN h0
theorem Pg {a b c:Nat}(h0:b≤a)(h1:a<c)(h2:¬(b<a)):(a - b)=0:=by simp_all +arith
theorem wY {a:Nat}:((0:Int):Int)≤(a:Nat):=by subst_vars;exact mw a
theorem Kd {a b c:Nat}(h0:a=b)(h1:(2:Nat)≤a)(h2:a<64)(h3:c=a):a≤16777216:=by lia
theorem Xd {a:Nat}(h0:a≤3)(h1:a<3):(a+1)≤3:=by subst_vars;exact Mn h1
theorem Ke {a b c:Int}:((a+(b+c)):Int)=(b+(a+c)):=by subst_vars;exact Int.add_left_comm a b c
theorem Ph {a b c:Nat}(h0:a<3)(h1:b=(a+1))(h2:c=(a+1)):((C1 (((a+1):Nat):Int)):Nat)<1073741824:=cK (by assumption) (b9 rfl)
theorem Kf {a:Nat}(h0:a≤1000):a<16777216:=cK (by assumption) (b9 rfl)
theorem Pj {a b c d e f:Nat}(h0:c=d)(h1:e=c)(h2:f=d)(h3:a=c)(h4:b=d):a=b:=by simp +arith [*]
theorem Kg {a b c d:Nat}(h0:(a+b)<7)(h1:b=((max c d)+1)):a<7:=BS h0
theorem Hs {a b c:Nat}(h0:((a+(c+1)):Nat)=b):a<b:=by subst_vars;lia
theorem Pk {a b:Nat}(h0:((a+(8*(b+1))):Nat)≤9000):(((a+3)+(8*b)):Nat)≤9000:=ai (ee (vj a 3 (8*b))) (ai (gS (by decide:3≤8) (a+8*b)) h0)
theorem Pn {a:Nat}:((iA ((0:Int)+((a:Nat)*(1:Int)))):Nat)=a:=by simp +arith [*]
theorem Pq {a b c d e f g:Nat}(h0:c<b)(h1:c=((((1+d)+e)+f)+g))(h2:a<f):a<b:=xw h2 (cK (ai (wh f _) (ai (f5 _ g) (ee h1.symm))) h0)
theorem Kh {a b:Nat}(h0:(a+1)≤b):(16+a)≤(15+b):=by simp +arith [*]
theorem Pr {a b c d:Nat}(h0:((a+(b+1)):Nat)=c)(h1:a<d):(((a+1) - 1):Nat)=a:=by subst_vars;exact zk (IQ rfl)
theorem Px {a b c:Nat}(h0:(((b+1) - c):Nat)≤0)(h1:c≤b)(h2:c≤a):False:=absurd h0 (we.mpr (A4 (C6 h1)))
theorem Py {a b:Nat}(h0:a≤256)(h1:a=b)(h2:(0:Nat)<a):(a - 1)<a:=IS h2
theorem Kl {a:Nat}{b c:Int}:((((a:Nat)+b)+c):Int)=((a:Nat)+(b+c)):=by subst_vars;exact RA (↑a) b c
theorem DK {a:Nat}(h0:a=7):a≤1000:=ai (ee (by assumption)) (b9 rfl)
theorem Km {a b:Nat}(h0:((a+(8*b)):Nat)≤9000):(a+64)<9900:=cK (fq (ai (f5 a _) h0) 64) (by decide)
theorem Pz {a b c:Nat}(h0:b≤16777216)(h1:a≤((3*(b - c))+5)):a≤1000000000:=ai h1 (ai (fq (gE 3 (ai (A1 b c) h0)) 5) (by decide))
theorem PB {a b c:Nat}(h0:c=b)(h1:(a+1)≤b):a≤b:=xN h1
theorem PJ {a b c:Nat}(h0:a<c)(h1:¬(b=a))(h2:¬(b=c)):(a<(b+1))↔(a<b):=⟨fun h=>DV (kU h) (i7 h1),fun h=>x6 h⟩
theorem Ko {a:Int}(h0:((0:Int):Int)≤a)(h1:a<(2:Int)):(a=(0:Int))∨(a=(1:Int)):=(OL a).imp (MA h0 h1).symm.trans (MA h0 h1).symm.trans
theorem Hu {a b:Nat}(h0:(a+b)≤900):a≤900:=by subst_vars;exact yY h0
theorem Hv {a b c d:Nat}(h0:((a+(c+1)):Nat)=d)(h1:d≤b):a<b:=by subst_vars;exact BS h1
theorem PK {a b:Nat}(h0:a<b):(((a+1) - 1):Nat)=a:=by simp +arith [*]
theorem wZ {a b c d:Nat}(h0:c=d)(h1:c≤b)(h2:a=d):a≤b:=by subst_vars;omega
theorem PL {a b c:Nat}(h0:b≤16777216)(h1:c<b)(h2:a≤((3*(b - c))+5)):a≤1000000000:=ai h2 (ai (fq (gE 3 (ai (A1 b c) h0)) 5) (by decide))
theorem PN {a b c d e f:Nat}(h0:a<f):a≤((((b+c)+d)+e)+f):=fz (ON (b+c+d+e) h0)
theorem Hw {a:Nat}:(12:Nat)≤(12+a):=by subst_vars;exact f5 12 a
theorem Kp {a b:Nat}(h0:b≤1000000)(h1:a≤(2*b)):a≤16777216:=ai h1 (ai (gE 2 h0) (by decide))
theorem Kq {a:Int}(h0:a<(1:Int)):(iA a)=0:=by simp_all +arith
theorem Kr {a:Nat}(h0:(0:Nat)<a):(a - 1)<a:=by subst_vars;exact IS h0
theorem PP {a b c d e f:Nat}(h0:c=d)(h1:e=f)(h2:(c+e)≤1000)(h3:a=c)(h4:b=e):(a+b)≤1000:=by subst_vars;omega
theorem PQ {a:Nat}:((iA ((-((-(a:Nat)) - (1:Int))) - (1:Int))):Nat)=a:=by simp +arith [*]
theorem PX {a c:Nat}{b:Int}(h0:((0:Int):Int)≤b)(h1:((iA b)<c)∧(c≤a)):(((-(a:Nat)):Int)≤b)∧(b≤(a:Nat)):=⟨kg (Int.neg_nonpos_of_nonneg (mw a)) h0,vn.mp (ai (fz h1.1) h1.2)⟩
theorem Ks {a b:Nat}(h0:a≤(b+1))(h1:¬(a=(b+1))):a≤b:=kU (DV h0 h1)
theorem Ku {a:Nat}(h0:a≤1000000):(a - 0)≤a:=by subst_vars;exact A1 a 0
theorem Q0 {a b c d e:Nat}(h0:b≤100)(h1:c≤100)(h2:d≤100)(h3:e≤(b+c))(h4:a≤(e+d)):a≤300:=(ai h4 (fy (ai h3 (fy h0 h1)) h2):_≤100+100+100)
theorem Q4 {a b:Nat}(h0:b≤1000)(h1:a<b):(((0:Int):Int)≤(a:Nat))∧((((a:Int):Int)≤(1000000:Int))∧(((C1 (1:Int)):Nat)<(2 ^ 64))):=⟨mw a,(qh (n:=1000000)).mpr (ai (fz h1) (ai h0 (by decide))),by decide⟩
theorem Q6 {a b:Nat}(h0:a≤3)(h1:b≤3):(((a+b)+2):Nat)≤16777216:=ai (fq (fy h0 h1) 2) (by decide)
theorem Kv {a b c:Nat}(h0:c≤(b+1))(h1:(a+1)≤c):a≤b:=kU (iN h1 h0)
theorem Q7 {a b:Nat}(h0:((a+(b+1)):Nat)≤900):(((a+1)+b):Nat)≤900:=by simp_all +arith
theorem Kw {a b:Nat}(h0:a≤(2*b)):(a+1)≤(2*(b+1)):=ai (gI h0) (C3 _)
theorem Q8 {a b c:Nat}(h0:a<b)(h1:((b - (a+1)):Nat)=(c+1)):(a+1)<b:=by subst_vars;exact zw h1
theorem Q9 {a:Int}(h0:(C1 a)<1000):(((-((2:Int) ^ 63)):Int)≤(a+((1:Int) - (1:Int))))∧(((a+((1:Int) - (1:Int))):Int)<((2:Int) ^ 63)):=by rw[show(1:Int) - 1=0 from rfl,MS];exact⟨Ht h0,DP h0⟩
theorem Hx {a:Nat}(h0:a≤3):a≤16777216:=ai (by assumption) (b9 rfl)
theorem Qa {a b c d e f:Nat}(h0:c<b)(h1:c=((((1+d)+a)+e)+f)):a<b:=cK (ai (wh a _) (ai (f5 _ e) (ai (f5 _ f) (ee h1.symm)))) h0
theorem Qc {a b c d:Nat}(h0:b=c)(h1:(2:Nat)≤b)(h2:b<64)(h3:d=b)(h4:a=b):(0:Nat)<a:=fz (xO (id (zk h4)) h3 h1)
theorem Hy {a b:Nat}(h0:b=(a - 1)):a≤(b+1):=by rw[h0];exact Nat.le_add_of_sub_le (gz _)
theorem Qd {a b:Int}(h0:(C1 b)<1000)(h1:a≤b):a<((2:Int) ^ 63):=mh h1 (DP h0)
theorem Qe {a b:Nat}(h0:((a+(b+1)):Nat)≤900):a<1000:=cK (ai (f5 a _) h0) (by decide)
theorem Qf {a b:Nat}(h0:a≤3)(h1:b≤3):(a+b)≤16777216:=ai (fy h0 h1) (by decide)
theorem Qg {a:Int}(h0:(((0:Int):Int)≤a)∧(a≤(3:Int)))(h1:¬(a>(0:Int))):(iA a)=0:=Int.toNat_of_nonpos (A7.mp h1)
theorem Ky {a b:Nat}(h0:(2:Nat)≤a)(h1:a<64)(h2:b=a):a≤16777216:=ai (fz h1) (by decide)
theorem Qh {a b c:Nat}(h0:a≤c)(h1:c<b):((a+(b - a)):Nat)=b:=EM (ai h0 (fz h1))
theorem Kz {a:Nat}:(((2*a)+12):Nat)≤((2*(a+1))+10):=by subst_vars;exact Hy rfl
theorem Qi {a b:Nat}(h0:a=(b+1)):(a - 1)=b:=by subst_vars;exact zk (IQ rfl)
theorem Qj {a b c:Nat}(h0:b≤((20*c)+20))(h1:a≤12):((a+(((b+1)+1)+1)):Nat)≤((20*(c+1))+20):=ai (ee (rS a _)) (ai (fy (fq h0 3) h1) (gS (by decide:15≤20) (20*c+20)))
theorem Xj {a b c d:Nat}(h0:(a+c)≤d)(h1:b≤c):((a+(UO b c)):Nat)≤d:=ai (gS (ai (OM b c) h1) a) h0
theorem KC {a b c:Nat}(h0:a≤c):a≤(b+c):=by subst_vars;exact Nat.le_add_left_of_le h0
theorem Qk {a b c d:Nat}(h0:a=c)(h1:(((c+d)+4):Nat)≤b):a≤b:=ai (ee h0) (ai (ai (f5 c d) (f5 _ 4)) h1)
theorem Ql {a b c:Nat}(h0:a<3)(h1:b=(a+1))(h2:c=(a+1)):(((2*a)+1):Nat)≤16777216:=ai (gI (gE 2 (fz h0))) (by decide)
theorem Qm {a:Nat}(h0:a≠0):¬(((a:Int):Int)=(0:Int)):=by subst_vars;exact Int.ofNat_ne_zero.mpr h0
theorem Qn {b c:Nat}{a:Int}(h0:b<(2 ^ 62))(h1:(iA a)<b)(h2:c=b):a<((2:Int) ^ 63):=mh (MB a) (HA (qf.mpr (xw h1 h0)) (by decide))
theorem Xk {a:Nat}(h0:a≤2)(h1:a<2):(a+1)≤2:=by subst_vars;exact Mn h1
theorem Xl {a b c:Nat}(h0:c<b)(h1:a=c):a≤b:=fz (lt_of_eq_of_lt h1 h0)
theorem zP {a b:Nat}(h0:a=b):a≤b:=ee h0
theorem Qo {a b c d:Nat}(h0:a≤(100*c))(h1:b≤100)(h2:d=b):(a+b)≤(100*(c+1)):=(fy h0 h1:a+b≤100*c+100)
theorem Qp {a b c d e:Nat}(h0:a<e):a≤(((b+c)+d)+e):=fz (ON (b+c+d) h0)
theorem Qq {a:Int}(h0:(((0:Int):Int)≤a)∧(a≤(3:Int)))(h1:a>(0:Int)):¬((iA a)=0):=by simp +arith [*]
theorem Qs {a:Nat}(h0:(a+1)≤3):(a=0)∨((a=1)∨(a=2)):=Xm (Nat.le_of_succ_le_succ h0)
theorem Qt {a b c d:Nat}(h0:(c+1)≤d)(h1:d≤(2 ^ 7))(h2:a≤c)(h3:b≤c):(a+b)≤256:=(fy (ai h2 (IK h0 h1)) (ai h3 (IK h0 h1)):_≤128+128)
theorem Qu {a b c d:Int}(h0:(d+c)=a):(((-a) - (1:Int)):Int)=(((b - (1:Int)) - c)+((-d) - b)):=by subst_vars;lia
theorem Qv {b:Nat}{a:Int}(h0:((0:Int):Int)≤a)(h1:(iA a)<b):(((0:Int):Int)≤a)∧(a<(b:Nat)):=⟨h0,(Sa h0).mp h1⟩
theorem Qw {a:Nat}(h0:a≤7):(1+a)≤16777216:=by decide +revert
theorem Qx {a:Nat}(h0:(a=0)∨((a=1)∨((a=2)∨((a=3)∨((a=4)∨((a=5)∨(a=6))))))):a<7:=by rcases h0 with rfl|rfl|rfl|rfl|rfl|rfl|rfl<;>decide
theorem Qy {b c:Nat}{a:Int}(h0:b=(c+1))(h1:a<(b:Nat)):(iA a)<b:=by subst h0;exact(Int.toNat_lt_toNat (qf.mpr (Nat.succ_pos c))).mpr h1
theorem Qz {a b c d:Nat}(h0:(a+d)≤100)(h1:(b+c)≤d):(((a+b)+c):Nat)≤100:=ai (ee (CD a b c)) (ai (gS h1 a) h0)
theorem QB {a b c d:Nat}(h0:c≤100)(h1:d≤100)(h2:b≤100)(h3:a≤(c+d)):(a+b)≤1000:=ai (fy (ai h3 (fy h0 h1)) h2) (by decide)
theorem a0U:(0:Nat)<3:=by subst_vars;exact G0 2
theorem KH {a b:Nat}(h0:a≤0)(h1:(b+1)≤a):False:=by simp_all +arith
theorem QC {a b:Nat}(h0:(a+1)≤b):(30+a)≤(29+b):=by simp +arith [*]
theorem KN {a b:Nat}(h0:b≤300)(h1:a≤b):a≤1000:=ai h1 (ai h0 (by decide))
theorem QD {a:Nat}:((-(1000:Int)):Int)≤(((a - 0):Nat):Int):=by subst_vars;exact EW 1000 (a - 0)
theorem KQ {a b c d:Nat}(h0:d=(a+b))(h1:d≤c):(a+b)≤c:=wZ h0 h1 rfl
theorem QF {a b:Int}(h0:b<a):((((a - b) - (1:Int))+(1:Int)):Int)=(((iA (a - b)):Nat):Int):=(Int.sub_add_cancel _ 1).trans (AO (IT (tS h0))).symm
theorem QG {a b c:Nat}:((((a+b)+c)+1):Nat)=((c+(1*b))+((a*1)+(1*1))):=by simp +arith [*]
theorem Xn {a b c d e f:Nat}(h0:d≤c)(h1:e<f)(h2:(a+b)≤d):(a+b)≤c:=by subst_vars;exact ai h2 h0
theorem QH {a b:Nat}(h0:(0:Nat)<b)(h1:a<b):a≤(b - 1):=by subst_vars;exact(Nat.le_sub_one_iff_lt h0).mpr h1
theorem QJ {a b c:Nat}(h0:a<b)(h1:b≤c):(UO a b)≤c:=ai (Yg h0) (by assumption)
theorem Xo {a b c d:Nat}(h0:(b+c)≤1000)(h1:b=(a+d)):a≤16777216:=ai (f5 a d) (ai (ee h1.symm) (ai (f5 b c) (ai h0 (by decide))))
theorem QK {a b c:Nat}(h0:b=((2*c)+1))(h1:a<b):a<(b+((0+1)+1)):=NC (0+1+1) h1
theorem QL {a b c:Nat}(h0:a<3)(h1:b=(a+1))(h2:c=(a+1)):(a+1)≤16777216:=iN (by assumption) (b9 rfl)
theorem QM {a b c:Nat}(h0:b<3)(h1:a=(b+1))(h2:c=(b+1)):((0:Int):Int)<(a:Nat):=by subst_vars;exact LM b
theorem QQ {a b c d:Int}(h0:b<a)(h1:(((-c) - (1:Int)):Int)=(((a - (1:Int)) - b)+d)):((0:Int):Int)≤((a - (1:Int)) - b):=IT (Int.le_sub_one_of_lt h0)
theorem KR {a:Nat}(h0:a≤3):a<16777216:=cK (by assumption) (b9 rfl)
theorem Xp {a b c:Nat}(h0:((c+(b+1)):Nat)≤1000)(h1:a≤(c+1)):(a+b)≤1000:=ai (fq h1 b) (ai (ee (vj c 1 b)) h0)
theorem QR {a b:Nat}(h0:a<b):((a+(b - a)):Nat)=b:=EM (fz h0)
theorem QS {a:Nat}(h0:(a=1)∨((a=2)∨((a=3)∨((a=4)∨((a=5)∨(a=6)))))):a≠0:=fun q=>by subst q;revert h0;decide
theorem QT {a b c:Nat}(h0:b<3)(h1:a=(b+1))(h2:c=(b+1)):a≤3:=wZ (id (zk h1)) h0 rfl
theorem Hz {a:Nat}(h0:a≤1000000):a≤16777216:=ai (by assumption) (b9 rfl)
theorem QV {a b c d e:Nat}(h0:((a+(c+1)):Nat)=d)(h1:a<e)(h2:(a+1)≤b):a≤b:=by subst_vars;exact xN h2
theorem QW {b:Nat}{a:Int}(h0:b<(2 ^ 62))(h1:(iA a)<b):a<((2:Int) ^ 63):=mh (MB a) (HA (qf.mpr (xw h1 h0)) (by decide))
theorem QX {a b c:Nat}(h0:a<3)(h1:b=(a+1))(h2:c=(a+1)):((((a+1):Nat):Int):Int)≠(0:Int):=fun q=>G1 a (Lv q)
theorem QZ {a:Nat}(h0:a≤(128*128)):a≤16777216:=ai (by assumption) (b9 rfl)
theorem R0 {a:Nat}(h0:a<2):(a=0)∨(a=1):=by decide +revert
theorem a2H:(2:Nat)<3:=by subst_vars;exact JI 2
theorem R1 {a b:Nat}:(a=b)↔(((a:Int):Int)=(b:Nat)):=by subst_vars;exact Iff.symm Int.ofNat_inj
theorem R2 {a:Nat}(h0:(a=1)∨((a=2)∨((a=3)∨((a=4)∨((a=5)∨(a=6)))))):a<7:=by rcases h0 with rfl|rfl|rfl|rfl|rfl|rfl<;>decide
theorem R3 {a b:Nat}(h0:¬(b=a)):(a<(b+1))↔(a<b):=⟨fun h=>DV (kU h) (i7 h0),fun h=>x6 h⟩
theorem R4 {a b:Nat}:(a+1)≤((max b a)+1):=gI (FY b a)
theorem R5 {a b:Int}:((-((2:Int) ^ 63)):Int)≤(((iA (a - b)):Nat):Int):=by subst_vars;exact EW (2 ^ 63) (a - b).toNat
theorem ul {a b:Nat}:(a+1)≤((max a b)+1):=gI (HO a b)
theorem R6 {a b c:Nat}(h0:(2:Nat)≤a)(h1:a<64)(h2:b=a)(h3:c=a):a≤(16777216+1):=ai (fz h1) (by decide)
theorem R7 {a b:Nat}(h0:((a+(8*(40+b))):Nat)≤9000):(a+100)<9900:=cK (fq (ai (f5 a _) h0) 100) (by decide)
theorem R8 {a b:Nat}(h0:(0+a)≤7)(h1:b≤2):(((a+1)+(((((b+1)+1)+1)+1)+1)):Nat)≤20:=ai (fy (gI (ai (ee (Sb a).symm) h0)) (fq h1 5)) (by decide)
theorem R9 {a b:Nat}(h0:b≤a):a=(b+(a - b)):=by subst_vars;exact zk (KJ h0)
theorem xd {a:Nat}:a≤(a+1):=by subst_vars;exact f5 a 1
theorem Xr {a:Nat}(h0:a≤128):a≤16777216:=ai (by assumption) (b9 rfl)
theorem KZ {a:Nat}(h0:a≤1000):a≤400000:=ai (by assumption) (b9 rfl)
theorem Ra {a b c d:Nat}(h0:(c=13)∧(((a+1)<b)∧(d=10))):(a<(a+2))∧((a+2)≤b):=by simp_all +arith
theorem Rb {a b:Nat}(h0:a≤b):((UO (a:Nat) (b:Nat)):Int)=(a:Nat):=Int.min_eq_left (qh.mpr h0)
theorem La {a b:Nat}(h0:(a+100)<b):a<b:=by subst_vars;exact Hv (congrFun rfl (100+1)) h0
theorem Rc {b:Nat}{a:Int}(h0:a>(0:Int)):¬(((iA (a+(b:Nat))):Nat)=0):=oQ ((Int.lt_toNat (m:=0)).mpr (BB h0 (Int.le_add_of_nonneg_right (mw b))))
theorem Xu {a b c d:Nat}(h0:a≤(d+c))(h1:d≤(b+1)):a≤(b+(c+1)):=ai h0 (ai (fq h1 c) (ee (vj b 1 c)))
theorem Rd {a b:Nat}(h0:a≤100)(h1:b=a):a≤16777216:=ai (by assumption) (b9 rfl)
theorem Rf {a b:Int}(h0:b≤a)(h1:¬(b<a)):((0:Int):Int)=(((iA (a - b)):Nat):Int):=by rw[D5 h0 (A7.mp h1),Int.sub_self];rfl
theorem Rg {a b:Nat}(h0:b≤256)(h1:b=a)(h2:(0:Nat)<b):(0:Nat)<a:=xO h1 (id (zk h1)) h2
theorem Rh {a b:Nat}(h0:a≤256)(h1:a=b)(h2:(0:Nat)<a):a≤16777216:=ai (by assumption) (b9 rfl)
theorem Ri {a:Nat}(h0:((0:Int):Int)<(a:Nat)):((iA ((((a:Nat) - (0:Int)) - (1:Int))+(1:Int))):Nat)=a:=by simp +arith [*]
theorem Rj {a b c d:Int}(h0:((a+(b+c)):Int)=d):(((a+b)+c):Int)=d:=by subst_vars;exact RA a b c
theorem a0H:(2:Nat)>0:=by subst_vars;exact Nat.zero_lt_two
theorem Rk {a b:Nat}(h0:a≤256)(h1:a=b)(h2:(0:Nat)<a):a≤1000:=ai (by assumption) (b9 rfl)
theorem Rm {a b c:Nat}(h0:c<7)(h1:a<7)(h2:b=7)(h3:a<c):a<b:=iN h1 (ee h2.symm)
theorem Rn {a b c:Nat}(h0:c<7)(h1:a<7)(h2:b=7)(h3:c<a):a<b:=iN h1 (ee h2.symm)
theorem Ro {a:Int}(h0:((-(1000:Int)):Int)≤a)(h1:a≤(1000:Int))(h2:¬(a<(1:Int))):(iA a)≤1000:=by subst_vars;exact vn.mpr h1
theorem Ld {a:Nat}(h0:a≤1):(a+1)≤64:=cK (by assumption) (CA 62)
theorem Rp {a b c d:Nat}(h0:((a+(b+1)):Nat)=c)(h1:a<d):(((a+1)+b):Nat)=c:=by subst_vars;exact VN
theorem a3S:(0:Nat)≤3:=by subst_vars;exact qV 3
theorem Rq {a b:Nat}(h0:a≤((2*b)+10)):a≤((2*(b+1))+10):=ai h0 (fq (gE 2 (C3 b)) 10)
theorem Rr {a b c:Nat}(h0:c<7)(h1:b=7)(h2:a<c):a<b:=by subst_vars;exact Nh rfl rfl h2 h0
theorem Rt {a b c d:Nat}(h0:(c+d)≤1000)(h1:a=c)(h2:b=d):(a+b)≤16777216:=ai (fy (ee h1) (ee h2)) (ai h0 (by decide))
theorem Ru {a b:Nat}(h0:b≤100)(h1:a≤3):(a+b)≤16777216:=ai (fy h1 h0) (by decide)
theorem Le {a b:Nat}(h0:a<b):a≤b:=by subst_vars;exact xN h0
theorem Lf {a:Nat}:(3:Nat)<((((((0+1)+1)+1)+1)+1)+a):=by lia
theorem Rv {a b c:Nat}(h0:b≤(c+(4*(a+1))))(h1:(c+4)<b):(0:Nat)<a:=Nat.pos_of_ne_zero fun q=>by subst q;exact iE _ (iN h1 h0)
theorem Rw {a b:Nat}(h0:((a+(8*b)):Nat)≤9000):(((a+1)+1):Nat)<9900:=cK (fq (ai (f5 a _) h0) 2) (by decide)
theorem a1T:(1:Nat)<3:=by subst_vars;exact CA 1
theorem Rx {a b c d:Nat}(h0:a≤c)(h1:b≤d):(a+b)≤((c+d)+1):=EL (fy h0 h1)
theorem Ry {a b c:Nat}(h0:b≤c)(h1:((a+(8*c)):Nat)≤9000):((a+(8*b)):Nat)≤9000:=ai (gS (gE 8 h0) a) h1
theorem Xx {a b:Nat}(h0:((a+(b+1)):Nat)=7):a<7:=iN (C6 (f5 a b)) (ee h0)
theorem Rz {a b:Nat}(h0:a≤(b*3)):(0+a)≤(3*b):=by simp_all +arith
theorem RB {a:Nat}(h0:¬(((0:Int):Int)<(a:Nat))):((iA (0:Int)):Nat)=a:=by simp_all +arith
theorem RD {a b c:Nat}(h0:a≤b)(h1:c=a)(h2:b≤a)(h3:b<a):False:=ND h0 h3
theorem RG {a b c d:Int}(h0:((0:Int):Int)<a)(h1:(((-b) - (1:Int)):Int)=(((a - (1:Int)) - c)+d)):a≠(0:Int):=by subst_vars;exact i7 (HE h0)
theorem RJ {a b:Nat}(h0:((0:Nat)<b)∧(b≤a)):(((-(a:Nat)):Int)≤(-(1:Int)))∧(((-(1:Int)):Int)≤(a:Nat)):=⟨Int.neg_le_neg ((qh (m:=1)).mpr (iN h0.1 h0.2)),kg (by decide) (mw a)⟩
theorem RK {a b c:Nat}(h0:(c+a)≤b):a≤b:=by subst_vars;exact Nat.le_of_add_left_le h0
theorem RL {a b c:Nat}(h0:a≤(b+(4*(c+1)))):a≤((b+4)+(4*c)):=by simp_all +arith
theorem Lg {a:Nat}(h0:a≤1000000):(0:Nat)≤a:=by subst_vars;exact qV a
theorem RM {a b:Nat}(h0:a<b):(a<(a+1))∧((a+1)≤b):=⟨AK a,h0⟩
theorem Lh {a:Nat}(h0:a<100):a≤16777216:=by decide +revert
theorem RN {a b c:Nat}(h0:(a+b)≤100)(h1:b=(1+c)):a≤100:=yY h0
theorem RP {a b c:Nat}(h0:a<b)(h1:b≤1000)(h2:c=b):((a:Int):Int)<(9223372036854775808:Int):=BB (qf.mpr h0) (kg (qh.mpr h1) (by decide))
theorem RQ {a b c d:Nat}(h0:((a+(b+1)):Nat)=c)(h1:a≤d)(h2:d<a):False:=absurd h2 (ND h1)
theorem RT {a b c d:Nat}(h0:a≤((b+d)+c)):a≤(b+(c+d)):=by simp_all +arith
theorem RV {a b c d:Nat}(h0:a≤(b+d))(h1:d≤c):a≤(b+c):=ai (by assumption) (FA.mpr h1)
theorem RW {a b c:Nat}(h0:a<7)(h1:b=7)(h2:c=a):a<b:=om3 h1 h0
theorem RX {a b c:Nat}(h0:((a+(b+1)):Nat)=c)(h1:a<c)(h2:a=c):False:=by simp_all +arith
theorem Xz {a b:Nat}(h0:((a+(b+1)):Nat)≤1000):a≤16777216:=ai (ai (f5 a _) h0) (by decide)
theorem RZ {a:Nat}(h0:a<7):(a<7)∧((7:Nat)≤16777216):=by subst_vars;exact Kc rfl h0
theorem Li {a:Nat}(h0:a≤3):a≤7:=ai (by assumption) (b9 rfl)
theorem S5 {a b c d:Nat}(h0:(c+d)≤b)(h1:a=(c+d)):a≤b:=wZ (id (zk h1)) h0 rfl
theorem S6 {a:Nat}(h0:a≤1000):(1+a)≤16777216:=by decide +revert
theorem S7 {a b:Nat}(h0:a≤((2*b)+10)):(((1+1)+a):Nat)≤((2*b)+12):=by simp +arith [*]
theorem S8 {a b:Nat}(h0:((a+(8*b)):Nat)≤9000):(((a+1)+100):Nat)<9900:=cK (fq (ai (f5 a _) h0) 101) (by decide)
theorem S9 {a b:Nat}(h0:(2:Nat)≤a)(h1:a<64)(h2:b=a):¬(a<2):=ow.mpr h0
theorem Sd {a b:Nat}(h0:a<b)(h1:b≤16777216):((a:Int):Int)<(((2:Int) ^ 63) - (1:Int)):=BB (qf.mpr h0) (kg (qh.mpr h1) (by decide))
theorem Sg {b:Nat}{a:Int}:((a+(((b:Nat)+(1:Int))*(1:Int))):Int)=((a+((b:Nat)*(1:Int)))+(1:Int)):=by simp +arith [*]
theorem Sh {a b c:Nat}(h0:b≤64)(h1:(a+64)<c):(a+b)<c:=cK (gS h0 a) h1
theorem Sq {a b:Nat}(h0:a<b)(h1:b=1):a=0:=by subst_vars;exact JJ.mp h0
theorem Ss {a b c:Nat}(h0:a≤((b+1)+c)):a≤(b+(c+1)):=by simp_all +arith
theorem Su {a b c:Nat}(h0:a<c)(h1:b=c):a<b:=iN h0 (ee h1.symm)
theorem Lj {a:Nat}(h0:a≤1000):a<(2 ^ 62):=cK (by assumption) (b9 rfl)
theorem Lk {a:Nat}(h0:a≤300):a≤1000:=ai (by assumption) (b9 rfl)
theorem Sv {a:Int}:(((0:Int)+((-a) - (1:Int))):Int)=((-a) - (1:Int)):=by subst_vars;exact HG (-a - 1)
theorem Sw {b c:Nat}{a:Int}(h0:(iA a)<c)(h1:b=c):(iA a)<b:=iN h0 (ee h1.symm)
theorem Sx {a:Int}(h0:(((-((16777216:Nat):Int)):Int)≤a)∧(a≤((16777216:Nat):Int))):¬(a<(-((2:Int) ^ 63))):=fun q=>absurd (mh h0.1 q) (by decide)
theorem Sy {a b:Nat}(h0:((a+(b+5)):Nat)≤900):a<1000:=cK (ai (f5 a _) h0) (by decide)
theorem Ln {a b c:Nat}(h0:((a+(c+1)):Nat)=b):a≤b:=Nat.le.intro h0
theorem SJ {a b c:Nat}(h0:b≤c)(h1:(a+c)≤900):(a+b)≤900:=ai (gS h0 a) h1
theorem SM {a b:Nat}(h0:(a+1)≤b)(h1:b≤(2 ^ 7)):a≤16777216:=ai (wo h0) (ai h1 (by decide))
theorem SN {a b:Nat}:(((a+b)+1):Nat)=(1+(a+b)):=by subst_vars;exact zk (rS 1 (a+b))
theorem SQ {a b c:Nat}(h0:(a+0)=b)(h1:a≤c)(h2:c<a):False:=by lia
theorem Lp {a b c:Nat}(h0:a≤b):a≤(b+c):=by subst_vars;exact GN h0
theorem SX {a b:Nat}(h0:a≤(2*b)):a≤(2*(b+1)):=ai (by assumption) (Ln rfl)
theorem T6 {a b:Nat}(h0:b≤500000)(h1:a≤(2*b)):a≤1000000:=ai h1 (ai (gE 2 h0) (by decide))
theorem T7 {a b:Nat}(h0:a<b)(h1:b=(1+1)):a<2:=xO h1 (id (zk h1)) h0
theorem T8 {a b:Nat}(h0:a<b)(h1:b=(2+1)):a<3:=xO h1 (id (zk h1)) h0
theorem T9 {a b c:Nat}(h0:b≤c):(a+b)≤(a+c):=by subst_vars;exact FA.mpr h0
theorem Lq {a b:Nat}(h0:a<b)(h1:a=b):False:=by simp_all +arith
theorem Tc {a b c:Nat}(h0:(b<a)∧(a≤c)):¬(a=b):=fun q=>oQ h0.1 q
theorem Td {a b:Nat}(h0:a≤100)(h1:b≤100):(a+b)≤1000:=ai (fy h0 h1) (by decide)
theorem Te {a b:Nat}(h0:a<b):(a+1)≤b:=by subst_vars;exact KQ rfl h0
theorem Tf {a b c:Nat}(h0:(a+c)≤b):a≤b:=by subst_vars;exact yY h0
theorem Tg {a b:Nat}(h0:(0:Nat)<b)(h1:b≤1000)(h2:a=b):(0:Nat)<a:=by subst_vars;omega
theorem Th {a b:Nat}(h0:((a+(8*b)):Nat)≤9000):a<9900:=cK (ai (f5 a _) h0) (by decide)
theorem Ti {a b:Nat}(h0:(a+100)<b):(((a+1)+64):Nat)<b:=cK (gS (by decide:65≤100) a) h0
theorem Lr {a:Nat}(h0:(3:Nat)<a):(1:Nat)<a:=by subst_vars;exact Ic h0
theorem Tj {a:Int}(h0:((0:Int):Int)≤a)(h1:a<(4:Int)):(((0:Int):Int)≤a)∧(a≤(3:Int)):=⟨h0,Int.le_of_lt_add_one (h1:a<3+1)⟩
theorem Tn {a b c:Nat}(h0:a≤c)(h1:c<b):a≤b:=fz (cK h0 h1)
theorem Tp {a b:Nat}(h0:a≤(b+1))(h1:(b+1)≤5):a≤5:=by subst_vars;exact ai h0 h1
theorem XM {a b c:Nat}(h0:c≤b)(h1:a=c):a≤b:=wZ (id (zk h1)) h0 rfl
theorem Tq {a b:Nat}(h0:b≤a):(a+1)≠b:=oQ (C6 h0)
theorem Tt {a:Nat}(h0:a≤6):a≤7:=by subst_vars;exact K9 h0
theorem Tu {a b c:Nat}(h0:(a+b)≤c):(a+b)≤(c+1):=by subst_vars;exact Lp h0
theorem Tv {a:Nat}:(5:Nat)≤((3*(a+1))+5):=by subst_vars;exact wh 5 (3*(a+1))
theorem Tw {a:Nat}(h0:a≤5):(a+1)≤16777216:=cK (by assumption) (b9 rfl)
theorem Tz {a:Nat}(h0:a≤5):(a+1)≤1000:=cK (by assumption) (b9 rfl)
theorem TF {a:Nat}(h0:(0:Nat)<a):(((0:Int):Int)≤((-(1:Int))+(a:Nat)))∧((((-(1:Int))+(a:Nat)):Int)<(a:Nat)):=by
 obtain ⟨n,rfl⟩:=I0.mpr h0
 have e:=(HC (-1) ((n:Int)+1)).trans (EV n 1)
 exact⟨kg (mw n) (MU e.symm),mh (MU e) (qf.mpr (AK n))⟩
theorem TG {a b c:Nat}(h0:a=c)(h1:c≤b):a≤b:=wZ (id (zk h0)) h1 rfl
theorem Lw {a b:Nat}(h0:(((a+1)+b):Nat)≤7):((a+(b+1)):Nat)≤7:=by simp_all +arith
theorem TJ {a b:Nat}(h0:¬(b<a)):a≤b:=by subst_vars;exact Nat.le_of_not_lt h0
theorem TP {a b c:Nat}(h0:a≤c)(h1:c<b):a<b:=by subst_vars;exact cK h0 h1
theorem TQ {a:Nat}:(((15+a)+1):Nat)≤(16+a):=by simp +arith [*]
theorem TV {a b:Nat}(h0:a=b)(h1:b≤16777216):((a:Int):Int)<((2:Int) ^ 63):=mh (qh.mpr (ai (ee h0) h1)) (by decide)
theorem TX {a b:Nat}(h0:(a+1)<(b+1)):a<b:=kU (xO rfl rfl h0)
theorem TY {a b:Nat}(h0:a≤1000)(h1:b=a):a≤16777216:=ai (by assumption) (b9 rfl)
theorem U0 {a b:Nat}(h0:b≤1000)(h1:a=b):a≤16777216:=ai (ee h1) (ai h0 (by decide))
theorem U3 {a b:Nat}(h0:a≤b)(h1:b≤a)(h2:b<a):False:=by lia
theorem U4 {a b:Nat}:(((a+1)+b):Nat)=((a+b)+1):=by subst_vars;exact M4 rfl
theorem U5 {a b:Nat}:(((a:Nat) - ((b:Nat)+(1:Int))):Int)=(((a:Nat) - (b:Nat)) - (1:Int)):=by subst_vars;exact zk (Int.sub_sub (↑a) (↑b) 1)
theorem U6 {a:Int}(h0:(((-((16777216:Nat):Int)):Int)≤a)∧(a≤((16777216:Nat):Int))):¬(a≥((2:Int) ^ 63)):=fun q=>absurd (kg q h0.2) (by decide)
theorem U7 {a:Int}:(((a+a)+a):Int)=((3:Int)*a):=by simp +arith [*]
theorem U8 {a:Int}:((a+(a+a)):Int)=((3:Int)*a):=by simp +arith [*]
theorem U9 {a:Nat}(h0:a≤(1000*1000)):a≤16777216:=ai (by assumption) (b9 rfl)
theorem Ua {a:Nat}(h0:a≤300):(a*3)≤900:=by subst_vars;exact Nat.mul_le_of_le_div 3 a 900 h0
theorem Ub {a:Nat}:((16+3):Nat)≤(40+a):=by simp +arith [*]
theorem Uc {a:Nat}:(((33+a)+7):Nat)≤(40+a):=by simp +arith [*]
theorem Ud {a b:Nat}(h0:a<b):a<(b+1):=by subst_vars;exact NC 1 h0
theorem XS {a:Nat}(h0:(a+1)≤a):False:=by simp_all +arith
theorem Ue {a:Nat}:(11:Nat)≤((33+a)+6):=by simp +arith [*]
theorem Ug {a b:Nat}(h0:b<a):¬(a<(b+1)):=by subst_vars;exact ow.mpr h0
theorem Uh {a b:Nat}(h0:a<b):¬(a≥b):=by subst_vars;exact Nat.not_le_of_lt h0
theorem Ui {a b:Nat}(h0:a≤b):(a+1)≤(b+1):=by subst_vars;exact fq h0 1
theorem Uj {b:Nat}{a:Int}:(((a+(1:Int))+(b:Nat)):Int)=(a+((b:Nat)+(1:Int))):=by simp +arith [*]
theorem Uk {a:Nat}(h0:a≤3):(0+a)<7:=by decide +revert
theorem Ul {a b c:Nat}(h0:(a+b)≤c):¬((a+b)>c):=by subst_vars;exact ow.mpr h0
theorem Um {a b:Nat}(h0:a<b):(a+1)<(b+1):=by subst_vars;exact Nat.add_lt_add_right h0 1
theorem a3U:((iA (0:Int)):Nat)≤12:=by simp +arith [*]
theorem Un {a b:Int}(h0:a=b):¬(a<b):=by subst_vars;exact r8 b
theorem Uo {a:Nat}:((30+5):Nat)≤(40+a):=by simp +arith [*]
theorem Uq {a:Nat}(h0:a≤1):(6+a)≤16777216:=by decide +revert
theorem Ur {a:Nat}(h0:(a=13)∨(a=10)):a<1114112:=by rcases h0 with rfl|rfl<;>decide
theorem Us {a:Nat}(h0:¬(a=3)):¬(((a:Int):Int)=(3:Int)):=by subst_vars;exact LL rfl rfl h0
theorem Ut {a:Nat}(h0:a=7):(2:Nat)≤a:=by subst_vars;exact b9 rfl
theorem Uu {a b:Nat}(h0:a=(b+1)):((0:Int):Int)<(a:Nat):=by subst_vars;exact LM b
theorem a2I:(1:Nat)≤3:=by subst_vars;exact ul
theorem Uv {a:Nat}(h0:a≤1):(a+1)≤3:=cK (by assumption) (a1T)
theorem Uw {a:Nat}(h0:a≤3):(a+0)≤7:=ai (by assumption) (b9 rfl)
theorem a1U:(3:Nat)>0:=by subst_vars;exact a0U
theorem Ux {a:Nat}:(15:Nat)≤(15+a):=by subst_vars;exact f5 15 a
theorem Uy {a:Nat}(h0:a≤400000):a≤500000:=ai (by assumption) (b9 rfl)
theorem Uz {a b:Nat}(h0:(a+0)=b):a≤b:=zP h0
theorem a2J:(2:Nat)≤3:=by subst_vars;exact xd
theorem UG {a b:Nat}:(((a:Int):Int)>(b:Nat))↔(a>b):=by subst_vars;exact qf
theorem UJ {a:Nat}(h0:a≤1):a≤4:=ai (by assumption) (b9 rfl)
theorem UL {a b:Nat}(h0:b<a):¬(a<b):=by subst_vars;exact Nat.not_lt_of_gt h0
theorem UT {a:Nat}:(((-((-(a:Nat)) - (1:Int))) - (1:Int)):Int)=(a:Nat):=by simp +arith [*]
theorem UV {a:Nat}(h0:a≤3):a≤5:=ai (by assumption) (b9 rfl)
theorem UW {a b:Nat}(h0:(a+1)≤(b+1)):a≤b:=by subst_vars;exact kU h0
theorem a2K:(3:Nat)≤3:=by subst_vars;exact Hy rfl
theorem V0 {a:Nat}(h0:a<7):(a+1)≤7:=by subst_vars;exact Lw h0
theorem V1 {a b:Nat}(h0:b<a):((0:Int):Int)<((a:Nat) - (b:Nat)):=by simp +arith [*]
theorem V2 {a:Nat}(h0:a≤256):a≤16777216:=ai (by assumption) (b9 rfl)
theorem a1V:(1:Nat)≤1000000000:=by subst_vars;exact ul
theorem V3 {a:Nat}(h0:a≤3):(a+1)≤64:=cK (by assumption) (b9 rfl)
theorem Ly {a:Nat}:(a+1)<(a+((0+1)+1)):=by subst_vars;exact JI (a+1)
theorem a1W:(6:Nat)<7:=by subst_vars;exact JI 6
theorem V4 {a b:Int}(h0:((0:Int):Int)≤b):(((a - (1:Int)) - b):Int)<a:=by simp +arith [*]
theorem V5 {a:Nat}(h0:a≤1):a≤2:=by subst_vars;exact K9 h0
theorem V6 {a:Int}(h0:((0:Int):Int)≤a):((-((2:Int) ^ 63)):Int)≤a:=kg (by decide) h0
theorem V7 {a:Nat}(h0:(a+1)≤5):a≤5:=by subst_vars;exact xN h0
theorem V8 {a b:Nat}(h0:b=a):a≤b:=zP (id (zk h0))
theorem V9 {a:Nat}(h0:(a+1)≤3):a≤3:=by subst_vars;exact xN h0
theorem Va {a:Nat}(h0:a<7):a≤7:=by subst_vars;exact xN h0
theorem Vb {a b:Nat}(h0:(a+1)≤b):a<b:=by subst_vars;exact xO rfl rfl h0
theorem Vc {a:Nat}(h0:((0:Nat)<a)∧(a≤100)):a≤1000:=ai h0.2 (by decide)
theorem Vd {a:Nat}(h0:a=7):a<64:=by subst_vars;exact zw rfl
theorem Ve {a:Nat}(h0:((0:Nat)<a)∧(a≤100)):a≤16777216:=by lia
theorem Vf {a b:Nat}(h0:a<b):a≠b:=by subst_vars;exact xy h0
theorem Vg {a:Nat}(h0:a≤1000000000):a≤(0+(4*(2 ^ 64))):=ai (by assumption) (b9 rfl)
theorem Vh {a:Nat}(h0:a≤7):a≤100:=ai (by assumption) (b9 rfl)
theorem Vi {a:Nat}(h0:a=10):a<1114112:=by subst_vars;exact zw rfl
theorem Vj {a:Nat}(h0:a=13):a<1114112:=by subst_vars;exact zw rfl
theorem Vk {a:Nat}:a<(a+((0+1)+1)):=fz (Ly)
theorem Vl {a:Nat}(h0:a≤3):a≤6:=ai (by assumption) (b9 rfl)
theorem Vm {a:Nat}(h0:a≤0):a≤5:=ai (by assumption) (qV 5)
theorem a3V:(((0:Int):Int)≤(0:Int))∧(((0:Int):Int)≤(9:Int)):=by decide +revert
theorem a2L:(15:Nat)≤1000000000:=by subst_vars;exact b9 rfl
theorem Vn {a:Nat}(h0:a≤16777216):¬(((a:Int):Int)≥((2:Int) ^ 63)):=fun q=>absurd (kg q (qh.mpr h0)) (by decide)
theorem Vo {a:Nat}:a<(1+a):=by simp +arith [*]
theorem LK {a:Nat}:(0:Nat)<(a+1):=by subst_vars;exact G0 a
theorem Vp {a:Nat}(h0:a≤63):a≤16777216:=ai (by assumption) (b9 rfl)
theorem Vq {a:Nat}(h0:a≤500000):a≤1000000:=ai (by assumption) (b9 rfl)
theorem Vr {a:Nat}:¬(((a:Int):Int)<(0:Int)):=by subst_vars;exact Int.not_ofNat_neg a
theorem Vs {a:Nat}(h0:(a+4)≤3):False:=by simp_all +arith
theorem Vt {a:Int}(h0:((0:Int):Int)≤a):¬(a<(0:Int)):=by subst_vars;exact Int.not_lt_of_ge h0
theorem a2M:(0:Nat)<7:=by subst_vars;exact LK
theorem a2N:(1:Nat)≤1:=kU (P6)
theorem Vu {a:Nat}:(((a:Nat) - (a:Nat)):Int)≤(0:Int):=by simp +arith [*]
theorem a2O:(1:Nat)<7:=by subst_vars;exact CA 5
theorem a2P:(2:Nat)<7:=b9 rfl
theorem a2Q:(3:Nat)<7:=b9 rfl
theorem a2R:(4:Nat)<7:=b9 rfl
theorem a2S:(5:Nat)<7:=b9 rfl
theorem Vv {a:Nat}:¬(((0:Int):Int)≤((-(a:Nat)) - (1:Int))):=by simp +arith [*]
theorem a3W:(1:Nat)≤1000:=by subst_vars;exact ul
theorem a3X:((-((2:Int) ^ 63)):Int)≤(1:Int):=by subst_vars;exact Int.neg_ofNat_le_ofNat (2 ^ 63) 1
theorem Vw {a:Int}(h0:((0:Int):Int)<a):a≠(0:Int):=by subst_vars;exact i7 (HE h0)
theorem Vx {a b c:Nat}(h0:a<b):¬(((10:Nat)=13)∧(((a+1)<b)∧(c=10))):=by subst_vars;exact of_decide_eq_false rfl
theorem Vy {a b c:Nat}:¬(((10:Nat)=13)∧(((a+1)<b)∧(c=10))):=by subst_vars;exact of_decide_eq_false rfl
theorem a5q:(0:Nat)≤2:=by subst_vars;exact qV 2
theorem a5r:(0:Nat)<2:=by subst_vars;exact a0H
theorem a3Y:(1:Nat)<2:=by subst_vars;exact P6
theorem a3Z:(8:Nat)≤1000000000:=by subst_vars;exact b9 rfl
theorem a4a:(11:Nat)≤(6+6):=by subst_vars;exact xd
theorem a4b:(4:Nat)≤((3*0)+5):=by subst_vars;exact xd
theorem a4c:((1:Int):Int)<((2:Int) ^ 63):=by simp +arith [*]
theorem a4d:(3:Nat)≤((3*0)+5):=by subst_vars;exact wh 3 2
theorem Vz {a b:Nat}(h0:a<b):¬((13:Nat)=10):=by subst_vars;exact Nat.ne_of_beq_eq_false rfl
theorem a4e:(9:Nat)≤1000000000:=by subst_vars;exact b9 rfl
theorem a4f:(((12+2)+1):Nat)≤(14+1):=by simp +arith [*]
theorem a4g:(1:Nat)≤2:=fz (a3Y)
theorem a4h:(1:Nat)≤4:=by subst_vars;exact ul
theorem a4i:(1:Nat)≤5:=by subst_vars;exact ul
theorem a4j:(1:Nat)≤6:=by subst_vars;exact ul
theorem a4k:(((12+1)+1):Nat)≤(13+1):=by simp +arith [*]
theorem a4l:¬((((0+1)+1):Nat)<2):=by subst_vars;exact iE (0+1+1)
theorem VB (h0:(0:Nat)<0):False:=by subst_vars;exact Lq h0 rfl
theorem a4m:(2:Nat)≤16777216:=by subst_vars;exact a3T
theorem a4n:¬(((1:Int):Int)<(0:Int)):=by decide +revert
theorem a4o:((1:Int):Int)>(0:Int):=by subst_vars;exact Int.one_pos
theorem DQ {a b:Nat}(h0:(a+0)=b):a=b:=h0
theorem VD {a b:Nat}(h0:a≤b):a≤b:=h0
theorem Yc {a:Nat}(h0:a≤a):a≥a:=h0
theorem VF {a b:Nat}(h0:a≤(b+1)):a≤(b+1):=h0
theorem VG {a:Nat}(h0:(3:Nat)<a):(3:Nat)<a:=h0
theorem VH {a:Nat}(h0:(1:Nat)≤a):(1:Nat)≤a:=h0
theorem VJ {a:Nat}(h0:a≤256):a≤256:=h0
theorem JR {a:Nat}:(((29+a)+1):Nat)≤(30+a):=ee (vj 29 a 1)
theorem JS {a b c:Nat}(h0:c≤400000)(h1:c=(a+b)):(a+b)≤16777216:=ai (ee h1.symm) (ai h0 (by decide))
theorem JT {a:Nat}:(20:Nat)≤(29+a):=ai (by decide) (f5 29 a)
theorem JV {a:Nat}(h0:a≤100):a≤999:=ai h0 (by decide)
theorem JW {a:Nat}(h0:a≤400000):a≤16777216:=ai h0 (by decide)
theorem Wl {a b:Nat}(h0:a≤b):(1+a)≤(b+1):=ai (ee (rS 1 a)) (gI h0)
theorem Wm {a b:Nat}(h0:b≤2)(h1:a≤b):a≤3:=ai h1 (ai h0 (by decide))
theorem Wn {a b:Nat}(h0:b≤2)(h1:a≤b):(1+a)≤3:=ai (ee (rS 1 a)) (gI (ai h1 h0))
theorem JX {a b c:Nat}(h0:(a+c)≤100)(h1:c=(1+b)):(((a+1)+b):Nat)≤100:=ai (ee ((CD a 1 b).trans (congrArg (a+·) h1.symm))) h0
theorem JZ {a b c:Nat}(h0:a<3)(h1:b=(a+1))(h2:c=(a+1)):(a+1)≤1000:=ai h0 (by decide)
theorem K5 {a b c d e f:Nat}(h0:c<3)(h1:d=(c+1))(h2:e=(c+1))(h3:(((a+b)+f):Nat)≤((2*c)+12)):(a+b)≤16777216:=ai (f5 (a+b) f) (ai h3 (ai (fq (gE 2 (fz h0)) 12) (by decide)))
end
section
inductive D where
 |none
 |bool (b:Bool)
 |int (i:Int)
 |str (s:Str)
 |tup (l:List D)
 |lst (l:List D)
 |dct (ks:List Str) (vs:List D)
 |val (v:bX)
 |order (sel:D)
 |exc (d:D)
 |mat (b:Bool)
deriving Inhabited
noncomputable abbrev PW:Program:=PySem.Challenge.pw_xt0005_01
noncomputable abbrev PT:Addr:=61
noncomputable abbrev Tb:={vs:Array bX // TriplesOk vs.toList}
section
variable (w:gp)
noncomputable abbrev SK:=strKind PW w
inductive sH (h:Heap)(X:Addr→Prop)(C:Addr)(a:Addr)(name:Str)(v:bX):Prop
 |mk o dx es n (h0:h.get? a=some o) (h1:o.cls=.ref C) (h2:PySem.W.notCls o=true) (h3:o.dict=some dx) (h4:¬X a) (h5:¬X dx) (h6:h.get? dx=some (QY es n)) (r:Se name es=some (some v)∧Se (af "compare") es=some none∧PySem.W.handedIn v=true)
noncomputable def Nr (h:Heap)(a:Addr)(vs:Array bX):Prop:=∃n,h.get? a=some {cls:=.type "tuple",data:=.seq vs n}
inductive TupAt (h:Heap)(X:Addr→Prop)(P:List bX→Prop)(v:bX):Prop
 |mk a vs (e:v=.ref a) (o:Nr h a vs) (x:¬X a) (r:P vs.toList)
inductive LstAt (h:Heap)(X:Addr→Prop)(P:List bX→Prop)(v:bX):Prop
 |mk a vs (e:v=.ref a) (o:h.PlainList a vs) (x:¬X a) (r:P vs.toList)
inductive Nm (h:Heap)(X:Addr→Prop)(ks:List Str)(P:List bX→Prop)(v:bX):Prop
 |mk a kvs (e:v=.ref a) (o:h.DictOf (SK w) a kvs) (n:a≠sysModules) (x:¬X a) (k:kvs.map (fun x=>x.1)=ks) (r:P (kvs.map (fun x=>x.2)))
inductive J5 (h:Heap)(X:Addr→Prop)(C:Addr)(name:Str)(P:bX→Prop)(v:bX):Prop
 |mk a u (e:v=.ref a) (i:sH h X C a name u) (r:P u)
inductive Nq (h:Heap)(X:Addr→Prop)(v:bX):Prop
 |mk a o (e:v=.ref a) (g:h.get? a=some o) (x:¬X a) (c:o.cls=.type "re.Match")
inductive J3 (P:bX→Prop)(Q:List bX→Prop)(vs:List bX):Prop
 |mk v r (e:vs=v::r) (p:P v) (q:Q r)
mutual
noncomputable def Rep (h:Heap)(X:Addr→Prop):D→bX→Prop
 | .none,v=>v=.none
 | .bool b,v=>v=.bool b
 | .int i,v=>∃t,v=.int i t
 | .str s,v=>∃t,v=.str s t
 | .tup l,v=>TupAt h X (aX h X l) v
 | .lst l,v=>LstAt h X (aX h X l) v
 | .dct ks ds,v=>Nm w h X ks (aX h X ds) v
 | .val u,v=>v=u
 | .order sel,v=>J5 h X 55 "comp_select_list" (Rep h X sel) v
 | .exc d,v=>J5 h X 174 "recipients" (Rep h X d) v
 | .mat b,v=>if b then Nq h X v else v=.none
noncomputable def aX (h:Heap)(X:Addr→Prop):List D→List bX→Prop
 | [],vs=>vs=[]
 |d::l,vs=>J3 (Rep h X d) (aX h X l) vs
end
structure Up (X X':Addr→Prop)(h h':Heap):Prop where
 keep:∀a o,h.get? a=some o→¬X a→h'.get? a=some o
 sub:∀a o,h.get? a=some o→X' a→X a
variable {w}
variable {h h' h'':Heap}{X X' X'':Addr→Prop}
theorem Up.refl:Up X X h h:=⟨fun Z Z e Z=>e,fun Z Z Z e=>e⟩
theorem Up.trans (x:Up X X' h h')(y:Up X' X'' h' h''):Up X X'' h h'':=
 ⟨fun a o e n=>y.keep a o (x.keep a o e n) fun q=>n (x.sub a o e q),
  fun a o e q=>EC fun n=>n (x.sub a o e (y.sub a o (x.keep a o e n) q))⟩
theorem sH.up {C a:Addr}{name:Str}{v:bX}(u:Up X X' h h'):sH h X C a name v→sH h' X' C a name v:=by
 rintro ⟨o,dx,es,n,ho,hc,hn,hd,hx,hdx,hod,r⟩
 exact⟨o,dx,es,n,u.keep _ _ ho hx,hc,hn,hd,fun q=>hx (u.sub _ _ ho q),fun q=>hdx (u.sub _ _ hod q),u.keep _ _ hod hdx,r⟩
mutual
theorem Rep.up (u:Up X X' h h'):∀(d:D) (v:bX),Rep w h X d v→Rep w h' X' d v
 | .none,v,r=>r
 | .bool b,v,r=>r
 | .int i,v,r=>r
 | .str s,v,r=>r
 | .tup l,v,r=>by
  obtain ⟨a,vs,e,⟨n,ho⟩,hx,hr⟩:=r
  exact⟨a,vs,e,⟨n,u.keep _ _ ho hx⟩,fun q=>hx (u.sub _ _ ho q),aX.up u l _ hr⟩
 | .lst l,v,r=>by
  obtain ⟨a,vs,e,⟨n,ho⟩,hx,hr⟩:=r
  exact⟨a,vs,e,⟨n,u.keep _ _ ho hx⟩,fun q=>hx (u.sub _ _ ho q),aX.up u l _ hr⟩
 | .dct ks ds,v,r=>by
  obtain ⟨a,kvs,e,⟨o,es,ep,ho,rr⟩,hs,hx,hk,hr⟩:=r
  exact⟨a,kvs,e,⟨o,es,ep,u.keep _ _ ho hx,rr⟩,hs,fun q=>hx (u.sub _ _ ho q),hk,aX.up u ds _ hr⟩
 | .val u',v,r=>r
 | .order sel,v,r=>by
  obtain ⟨a,x,e,hi,hr⟩:=r
  exact⟨a,x,e,hi.up u,Rep.up u sel _ hr⟩
 | .exc d,v,r=>by
  obtain ⟨a,x,e,hi,hr⟩:=r
  exact⟨a,x,e,hi.up u,Rep.up u d _ hr⟩
 | .mat b,v,r=>by
  cases b
  ·exact r
  ·obtain ⟨a,o,e,ho,hx,hc⟩:=r
   exact⟨a,o,e,u.keep _ _ ho hx,fun q=>hx (u.sub _ _ ho q),hc⟩
theorem aX.up (u:Up X X' h h'):∀(l:List D) (vs:List bX),aX w h X l vs→aX w h' X' l vs
 | [],vs,r=>r
 |d::l,vs,r=>by
  obtain ⟨v,t,e,hr,hl⟩:=r
  exact⟨v,t,e,Rep.up u d v hr,aX.up u l t hl⟩
end
theorem aX.length:∀{l:List D} {vs:List bX},aX w h X l vs→vs.length=l.length
 | [],vs,r=>by cases (show vs=[] from r);rfl
 |d::l,vs,r=>by
  obtain ⟨v,t,rfl,_,hl⟩:=r
  simp[aX.length hl]
theorem aX.get:∀{l:List D} {vs:List bX},aX w h X l vs→∀{i:Nat} {d:D},l[i]?=some d→∃v,vs[i]?=some v∧Rep w h X d v
 | [],vs,r,i,d,e=>by simp at e
 |d::l,vs,r,i,d',e=>by
  obtain ⟨v,t,rfl,hr,hl⟩:=r
  cases i with
  |zero=>simp at e;subst e;exact⟨v,rfl,hr⟩
  |succ i=>simpa using hl.get (i:=i) (by simpa using e)
theorem aX.append:∀{l l':List D} {vs vs':List bX},aX w h X l vs→aX w h X l' vs'→aX w h X (l++l') (vs++vs')
 | [],l',vs,vs',r,r'=>by cases (show vs=[] from r);exact r'
 |d::l,l',vs,vs',r,r'=>by
  obtain ⟨v,t,rfl,hr,hl⟩:=r
  exact⟨v,t++vs',rfl,hr,hl.append r'⟩
theorem aX.nil:aX w h X [] []:=rfl
theorem aX.cons {d:D}{l:List D}{v:bX}{vs:List bX}(r:Rep w h X d v)(rl:aX w h X l vs):aX w h X (d::l) (v::vs):=⟨v,vs,rfl,r,rl⟩
theorem aX.one {d:D}{v:bX}(r:Rep w h X d v):aX w h X [d] [v]:=.cons r .nil
theorem aX.take:∀{l:List D} {vs:List bX} (n:Nat),aX w h X l vs→aX w h X (l.take n) (vs.take n)
 |_,_,0,_=>aX.nil
 | [],vs,n+1,r=>by cases (show vs=[] from r);exact aX.nil
 |d::l,vs,n+1,r=>by
  obtain ⟨v,t,rfl,hr,hl⟩:=r
  simpa using aX.cons hr (hl.take n)
theorem aX.drop:∀{l:List D} {vs:List bX} (n:Nat),aX w h X l vs→aX w h X (l.drop n) (vs.drop n)
 |_,_,0,r=>r
 | [],vs,n+1,r=>by cases (show vs=[] from r);exact aX.nil
 |d::l,vs,n+1,r=>by
  obtain ⟨v,t,rfl,hr,hl⟩:=r
  simpa using hl.drop n
theorem cI {i:Int}{t:UN}:Rep w h X (.int i) (.int i t):=⟨t,rfl⟩
theorem eX {s:Str}{t:UN}:Rep w h X (.str s) (.str s t):=⟨t,rfl⟩
theorem ie {b:Bool}:Rep w h X (.bool b) (.bool b):=rfl
theorem a2a:Rep w h X .none .none:=rfl
theorem cU {v:bX}:Rep w h X (.val v) v:=rfl
structure Go (Y Fm:Addr→Prop)(s s':aE):Prop where
 heap:∀a o,s.heap.get? a=some o→¬Y a→s'.heap.get? a=some o∨(Fm a∧∃sl,s'.heap.get? a=some {o with slots:=sl})
 tab:(∃vs:Tb,s.heap.get? PT=some (kF vs.1))→∃vs:Tb,s'.heap.get? PT=some (kF vs.1)
 gens:F5 s.gens→F5 s'.gens
 drawn:s'.drawn=s.drawn
 os:s'.os=s.os
end
end
section
structure Z6 (X:Addr→Prop)(s:aE):Prop where
 pt:X PT
 tab:∃vs:Tb,s.heap.get? PT=some (kF vs.1)
 lt:∀a,X a→∃o,s.heap.get? a=some o
theorem Z6.new {X:Addr→Prop}{s:aE}(x:Z6 X s):¬X s.heap.objs.size:=fun q=>by obtain ⟨_,e⟩:=x.lt _ q;exact iE _ (eK e)
structure Pu (s s':aE):Prop where
 heap:∀a o,s.heap.get? a=some o→a≠PT→s'.heap.get? a=some o
 tab:(∃vs:Tb,s.heap.get? PT=some (kF vs.1))→∃vs:Tb,s'.heap.get? PT=some (kF vs.1)
 gens:F5 s.gens→F5 s'.gens
 drawn:s'.drawn=s.drawn
 os:s'.os=s.os
theorem Pu.refl (s:aE):Pu s s:=⟨fun Z Z e Z=>e,id,id,rfl,rfl⟩
theorem Pu.trans {s s' s'':aE}(x:Pu s s')(y:Pu s' s''):Pu s s'':=
 ⟨fun a o e n=>y.heap a o (x.heap a o e n) n,fun h=>y.tab (x.tab h),fun h=>y.gens (x.gens h),y.drawn.trans x.drawn,y.os.trans x.os⟩
theorem Pu.toks (s:aE)(n:Nat):Pu s {s with toks:=n}:=⟨fun Z Z e Z=>e,id,id,rfl,rfl⟩
theorem Pu.push (s:aE)(o:Obj)(n:Nat):Pu s {s with heap:=s.heap.push o,toks:=n}:=
 ⟨fun Z Z e Z=>b6 _ e,fun Z9=>by obtain ⟨vs,e⟩:=Z9;exact⟨vs,b6 _ e⟩,id,rfl,rfl⟩
theorem Pu.YK (s:aE)(o:Obj):Pu s {s with heap:=s.heap.push o}:=Pu.push s o s.toks
theorem Pu.keep {s:aE}{h':Heap}{n:Nat}(k:∀a o,s.heap.get? a=some o→h'.get? a=some o):Pu s {s with heap:=h',toks:=n}:=
 ⟨fun a o e Z=>k a o e,fun Z9=>by obtain ⟨vs,e⟩:=Z9;exact⟨vs,k _ _ e⟩,id,rfl,rfl⟩
theorem Pu.up {s s':aE}{X:Addr→Prop}(u:Pu s s')(hX:X PT):Up X X s.heap s'.heap:=
 ⟨fun a o e n=>u.heap a o e fun q=>n (q▸hX),fun Z Z Z e=>e⟩
theorem Z6.pu {X:Addr→Prop}{s s':aE}(x:Z6 X s)(u:Pu s s'):Z6 X s':=⟨x.pt,u.tab x.tab,fun a h=>by
  by_cases q:a=PT
  ·obtain ⟨vs,e⟩:=u.tab x.tab;exact⟨_,q▸e⟩
  ·obtain ⟨o,e⟩:=x.lt a h;exact⟨o,u.heap _ _ e q⟩⟩
theorem dC {X:Addr→Prop}{h:Heap}{o:Obj}:Up X X h (h.push o):=⟨fun Z Z e Z=>b6 _ e,fun Z Z Z e=>e⟩
noncomputable def AllP:List Prop→Prop
 | []=>True
 |p::l=>p∧AllP l
theorem AllP.append:∀{l l':List Prop},AllP (l++l')→AllP l∧AllP l'
 | [],_,h=>⟨trivial,h⟩
 |_::_,_,h=>by obtain ⟨a,b⟩:=AllP.append h.2;exact⟨⟨h.1,a⟩,b⟩
noncomputable abbrev R:=Option (D×List Prop)
section
variable (w:gp)
noncomputable def Ev (A:Around)(X:Addr→Prop)(t:UM bX)(d:D)(s:aE):Prop:=
 ∀(Q:bX→aE→Prop) (E:bX→aE→Prop),(∀v s',Pu s s'→Rep w s'.heap X d v→Q v s')→cE (cS PW w) A t Q E s
end
noncomputable def bL (x:Str)(n:Int):Str:=
 if n<1 then Str.empty else if(n==1||x.length==0)=true then x else⟨(gv n.toNat x.cps).foldl (·++·) #[]⟩
noncomputable def We (d:D):Option {i // d=.int i}:=by cases d<;>first|exact some ⟨_,rfl⟩|exact none
noncomputable def Yr (d:D):Option {i // d=.str i}:=by cases d<;>first|exact some ⟨_,rfl⟩|exact none
noncomputable def X8 (d:D):Option {i // d=.lst i}:=by cases d<;>first|exact some ⟨_,rfl⟩|exact none
noncomputable def Ys (d:D):Option {i // d=.tup i}:=by cases d<;>first|exact some ⟨_,rfl⟩|exact none
noncomputable def WY (d:D):Option {i:List Str×List D // d=.dct i.1 i.2}:=by cases d<;>first|exact some ⟨(_,_),rfl⟩|exact none
noncomputable def D.onI (a:D)(f:Int→R):R:=by
 cases a with
 |int x=>exact f x
 |_=>exact CR
theorem M8 {a:D}{f:Int→R}:a.onI f=(We a).bind fun x=>f x.1:=by cases a<;>rfl
noncomputable def D.onS (a:D)(f:Str→R):R:=by
 cases a with
 |str x=>exact f x
 |_=>exact CR
theorem Mf {a:D}{f:Str→R}:a.onS f=(Yr a).bind fun x=>f x.1:=by cases a<;>rfl
noncomputable def D.onL (a:D)(f:List D→R):R:=by
 cases a with
 |lst x=>exact f x
 |_=>exact CR
theorem M9 {a:D}{f:List D→R}:a.onL f=(X8 a).bind fun x=>f x.1:=by cases a<;>rfl
noncomputable def D.onT (a:D)(f:List D→R):R:=by
 cases a with
 |tup x=>exact f x
 |_=>exact CR
theorem Mg {a:D}{f:List D→R}:a.onT f=(Ys a).bind fun x=>f x.1:=by cases a<;>rfl
noncomputable def D.onD (a:D)(f:List Str→List D→R):R:=by
 cases a with
 |dct x y=>exact f x y
 |_=>exact CR
theorem M7 {a:D}{f:List Str→List D→R}:a.onD f=(WY a).bind fun x=>f x.1.1 x.1.2:=by cases a<;>rfl
noncomputable def on1 (l:List D)(f:D→R):R:=match l with
 | [a]=>f a
 |_=>none
noncomputable def on2 (l:List D)(f:D→D→R):R:=match l with
 | [a,b]=>f a b
 |_=>none
theorem Fw {r:D×List Prop}{P:Prop}(h:(none:R)=some r):P:=YD h
theorem mH {α β:Type}{P:α→Prop}{o:Option {x // P x}}{f:α→Option β}{r:β}(h:(o.bind fun x=>f x.1)=some r):∃x,P x∧f x=some r:=by
 obtain ⟨x,_,h⟩:=l8.mp h;exact⟨x.1,x.2,h⟩
theorem cj {a:D}{f:Int→R}{r:D×List Prop}(h:a.onI f=some r):∃x,a=.int x∧f x=some r:=mH (M8.symm.trans h)
theorem bW {a:D}{f:Str→R}{r:D×List Prop}(h:a.onS f=some r):∃x,a=.str x∧f x=some r:=mH (Mf.symm.trans h)
theorem cC {a:D}{f:List D→R}{r:D×List Prop}(h:a.onL f=some r):∃x,a=.lst x∧f x=some r:=mH (M9.symm.trans h)
theorem kJ {a:D}{f:List D→R}{r:D×List Prop}(h:a.onT f=some r):∃x,a=.tup x∧f x=some r:=mH (Mg.symm.trans h)
theorem gZ {a:D}{f:List Str→List D→R}{r:D×List Prop}(h:a.onD f=some r):∃x y,a=.dct x y∧f x y=some r:=by
 obtain ⟨x,e,h⟩:=mH (f:=fun x:List Str×List D=>f x.1 x.2) (M7.symm.trans h);exact⟨x.1,x.2,e,h⟩
theorem dI {l:List D}{f:D→R}{r:D×List Prop}(h:on1 l f=some r):∃a,l=[a]∧f a=some r:=by
 rcases l with _|⟨a,_|⟨b,l⟩⟩<;>first|exact⟨_,rfl,h⟩|exact Fw h
theorem eH {l:List D}{f:D→D→R}{r:D×List Prop}(h:on2 l f=some r):∃a b,l=[a,b]∧f a b=some r:=by
 rcases l with _|⟨a,_|⟨b,_|⟨c,l⟩⟩⟩<;>first|exact⟨_,_,rfl,h⟩|exact Fw h
noncomputable def ii (a b:D)(f:Int→Int→R):R:=a.onI fun x=>b.onI fun y=>f x y
noncomputable def ss (a b:D)(f:Str→Str→R):R:=a.onS fun x=>b.onS fun y=>f x y
theorem cz {a b:D}{f:Int→Int→R}{r:D×List Prop}(h:ii a b f=some r):∃x y,a=.int x∧b=.int y∧f x y=some r:=by
 obtain ⟨x,e,h⟩:=cj h;obtain ⟨y,e',h⟩:=cj h;exact⟨x,y,e,e',h⟩
theorem jA {a b:D}{f:Str→Str→R}{r:D×List Prop}(h:ss a b f=some r):∃x y,a=.str x∧b=.str y∧f x y=some r:=by
 obtain ⟨x,e,h⟩:=bW h;obtain ⟨y,e',h⟩:=bW h;exact⟨x,y,e,e',h⟩
noncomputable def orE (a b:R):R:=match a with
 |some r=>some r
 |none=>b
theorem bF {a b:R}{r:D×List Prop}(h:orE a b=some r):a=some r∨b=some r:=by
 cases a with
 |none=>exact .inr h
 |some x=>exact .inl h
noncomputable def Cv (op:II)(a b:D):R:=match op with
 | .Add=>orE (ii a b fun a b=>some (.int (a+b),[])) (orE (ss a b fun a b=>some (.str (a++b),[a.length+b.length≤sizeLine])) (a.onL fun a=>b.onL fun b=>some (.lst (a++b),[a.length+b.length≤sizeLine])))
 | .Sub=>ii a b fun a b=>some (.int (a - b),[])
 | .Mult=>orE (ii a b fun a b=>some (.int (a*b),[QA a b])) (a.onS fun a=>b.onI fun n=>some (.str (bL a n),[a.length≤1000∧-1000≤n∧n≤1000]))
 | .FloorDiv=>ii a b fun a b=>if b=0 then none else if b.natAbs<1073741824 then some (.int (a.fdiv b),[]) else none
 | .Mod=>ii a b fun a b=>if b=0 then none else some (.int (a.fmod b),[])
 | .Pow=>ii a b fun a n=>if a.natAbs<1000 then if 0≤n then if n≤1000 then some (.int (a ^ n.toNat),[]) else none else none else none
 |_=>none
section
variable {w:gp}{A:Around}{X:Addr→Prop}{s:aE}
theorem Ev.Zi {t:UM bX}{i:Int}(h:∀Q E,Q (.int i s.toks) {s with toks:=s.toks+1}→cE (cS PW w) A t Q E s):Ev w A X t (.int i) s:=
 fun Q E hQ=>h Q E (hQ _ _ (Pu.toks _ _) cI)
theorem Ev.Ze {t:UM bX}{b:Bool}(h:∀Q E,Q (.bool b) s→cE (cS PW w) A t Q E s):Ev w A X t (.bool b) s:=
 fun Q E hQ=>h Q E (hQ _ _ (Pu.refl _) ie)
theorem Ev.a1e {t:UM bX}{x:Str}(h:∀Q E,(∀tk n,Q (.str x tk) {s with toks:=n})→cE (cS PW w) A t Q E s):Ev w A X t (.str x) s:=
 fun Q E hQ=>h Q E fun tk n=>hQ _ _ (Pu.toks _ _) eX
theorem pW {x y:Str}{t u:UN}{Q:bX→aE→Prop}(hsz:x.length+y.length≤sizeLine)(h:∀tk n,Q (.str (x++y) tk) {s with toks:=n}):
  (if x.length==0 then QE (.str y u) else if y.length==0 then QE (.str x t) else QI (x++y)).post Q s:=by
 split
 ·rename_i h0
  have:x++y=y:=by
   have e:x=Str.empty:=CC (by rw[qo (xs:=x.cps) (by simpa [kR] using h0)];rfl)
   rw[e,Str.empty_append]
  have q:=h u s.toks
  rw[this] at q;exact q
 ·split
  ·rename_i h0
   have:x++y=x:=by
    have e:y=Str.empty:=CC (by rw[qo (xs:=y.cps) (by simpa [kR] using h0)];rfl)
    rw[e,Str.append_empty]
   have q:=h t s.toks
   rw[this] at q;exact q
  ·refine⟨?_,h _ _⟩
   have:(x++y).length=x.length+y.length:=iO ..
   exact S5 hsz this
theorem wI {l:List D}{vs:List bX}{t:UM bX}(hX:Z6 X s)(r:aX w s.heap X l vs)
  (h:∀Q E,Q (.ref s.heap.objs.size) {s with heap:=s.heap.push {cls:=.type "list",data:=.seq vs.toArray}}→cE (cS PW w) A t Q E s):Ev w A X t (.lst l) s:=by
 refine fun Q E hQ=>h Q E (hQ _ _ (Pu.YK _ _) ?_)
 refine⟨_,vs.toArray,rfl,⟨_,ck _ rfl⟩,hX.new,?_⟩
 simpa using aX.up dC l vs r
theorem GP {l:List D}{vs:List bX}{t:UM bX}(hX:Z6 X s)(r:aX w s.heap X l vs)
  (h:∀Q E,Q (.ref s.heap.objs.size) {s with heap:=s.heap.push {cls:=.type "tuple",data:=.seq vs.toArray}}→cE (cS PW w) A t Q E s):Ev w A X t (.tup l) s:=by
 refine fun Q E hQ=>h Q E (hQ _ _ (Pu.YK _ _) ?_)
 refine⟨_,vs.toArray,rfl,⟨_,ck _ rfl⟩,hX.new,?_⟩
 simpa using aX.up dC l vs r
theorem Bb {x:Str}{n:Int}(hx:x.length≤1000)(h1:-1000≤n)(h2:n≤1000){Q:bX→aE→Prop}{t:UN}(h:∀tk m,Q (.str (bL x n) tk) {s with toks:=m}):
  (if n<1 then QI Str.empty else if(n==1||x.length==0)=true then QE (.str x t) else QI ⟨(gv n.toNat x.cps).foldl (·++·) #[]⟩).post Q s:=by
 unfold bL at h
 split
 ·rw[if_pos (by assumption)] at h
  exact⟨by decide,h _ _⟩
 ·rw[if_neg (by assumption)] at h
  split
  ·rw[if_pos (by assumption)] at h
   exact h t s.toks
  ·rw[if_neg (by assumption)] at h
   refine⟨?_,h _ _⟩
   have key:∀(k:Nat) (acc:Array Nat),((gv k x.cps).foldl (·++·) acc).size=acc.size+k*x.cps.size:=by
    intro k
    induction k with
    |zero=>intro acc;simp
    |succ k ih=>intro acc;rw[iP,B6,ih,EO,MV];exact VN
   show(PF _)≤sizeLine
   rw[key,c9]
   have hn:n.toNat≤1000:=by exact Ro h1 h2 (by assumption)
   have:n.toNat*x.cps.size≤1000*1000:=E6 hn hx
   simp;exact U9 this
theorem Gj (hX:Z6 X s){a b d:D}{cs:List Prop}{va vb:bX}(h:Cv .Add a b=some (d,cs))(hc:AllP cs)
  (ra:Rep w s.heap X a va) (rb:Rep w s.heap X b vb):Ev w A X (SY .Add va vb) d s:=by
 replace h:=bF h;rcases h with h|h
 ·replace h:=cz h;obtain ⟨x,y,rfl,rfl,h⟩:=h
  obtain ⟨rfl,_⟩:=dQ (aI h);obtain ⟨t,rfl⟩:=ra;obtain ⟨u,rfl⟩:=rb
  exact .Zi fun Q E q=>P.add_int q
 ·replace h:=bF h;rcases h with h|h
  ·replace h:=jA h;obtain ⟨x,y,rfl,rfl,h⟩:=h
   obtain ⟨rfl,rfl⟩:=dQ (aI h);obtain ⟨t,rfl⟩:=ra;obtain ⟨u,rfl⟩:=rb
   exact .a1e fun Q E q=>P.add_str (pW hc.1 q)
  ·replace h:=cC h;obtain ⟨l,rfl,h⟩:=h
   replace h:=cC h;obtain ⟨m,rfl,h⟩:=h
   obtain ⟨rfl,rfl⟩:=dQ (aI h)
   obtain ⟨x,vs,rfl,⟨n,hl⟩,hx,hr⟩:=ra
   obtain ⟨y,us,rfl,⟨m,hm⟩,hy,hs⟩:=rb
   refine wI hX (hr.append hs) fun Q E q=>P.add_list hl hm ?_ ?_
   ·rw[show vs++us=(vs.toList++us.toList).toArray from by apply AU;simp];exact q
   ·rw[←iS,←iS,hr.length,hs.length];exact hc.1
theorem Gk {a b d:D}{cs:List Prop}{va vb:bX}(h:Cv .Mult a b=some (d,cs))(hc:AllP cs)
  (ra:Rep w s.heap X a va) (rb:Rep w s.heap X b vb):Ev w A X (SY .Mult va vb) d s:=by
 replace h:=bF h;rcases h with h|h
 ·replace h:=cz h;obtain ⟨x,y,rfl,rfl,h⟩:=h
  obtain ⟨rfl,rfl⟩:=dQ (aI h);obtain ⟨t,rfl⟩:=ra;obtain ⟨u,rfl⟩:=rb
  exact .Zi fun Q E q=>P.mul_int q hc.1
 ·replace h:=bW h;obtain ⟨a,rfl,h⟩:=h
  replace h:=cj h;obtain ⟨n,rfl,h⟩:=h
  obtain ⟨rfl,rfl⟩:=dQ (aI h);obtain ⟨t,rfl⟩:=ra;obtain ⟨u,rfl⟩:=rb
  obtain ⟨⟨h1,h2,h3⟩,_⟩:=hc
  have hn':n.toNat≤1000:=vn.mpr h3
  refine .a1e fun Q E q=>P.mul_str ?_ ?_ ?_ (Bb h1 h2 h3 q)
  ·rw[w9];exact⟨decide_eq_false (A7.mpr (kg (by decide) h2)),decide_eq_false (Int.not_le.mpr (mh h3 (by decide)))⟩
  ·intro hn _ hgt
   have h0:0<n:=BB (by decide) (A7.mp hn)
   have:(1000:Int)≤(2 ^ 63 - 1) / n:=(Int.le_ediv_iff_mul_le h0).mpr (kg (Int.mul_le_mul_of_nonneg_left h3 (by decide)) (by decide))
   exact absurd (mh this hgt) (A7.mpr (qh.mpr h1))
  ·intro hn _
   unfold SV
   rw[c9]
   exact decide_eq_false (ow.mpr (ai (E6 h1 hn') (by decide)))
theorem Ja (hX:Z6 X s){op:II}{a b d:D}{cs:List Prop}{va vb:bX}(h:Cv op a b=some (d,cs))(hc:AllP cs)
  (ra:Rep w s.heap X a va) (rb:Rep w s.heap X b vb):Ev w A X (SY op va vb) d s:=by
 cases op with
 |Add=>exact Gj hX h hc ra rb
 |Mult=>exact Gk h hc ra rb
 |Sub=>
  replace h:=cz h;obtain ⟨x,y,rfl,rfl,h⟩:=h
  obtain ⟨rfl,_⟩:=dQ (aI h);obtain ⟨t,rfl⟩:=ra;obtain ⟨u,rfl⟩:=rb
  exact .Zi fun Q E q=>P.sub_int q
 |FloorDiv=>
  replace h:=cz h;obtain ⟨x,y,rfl,rfl,h⟩:=h
  obtain ⟨t,rfl⟩:=ra;obtain ⟨u,rfl⟩:=rb
  split at h
  ·exact YD h
  ·split at h
   ·obtain ⟨rfl,_⟩:=dQ (aI h)
    exact .Zi fun Q E q=>floordiv_int (by assumption) q (.inl (PyProof.noPylong_small (by assumption)))
   ·exact YD h
 |Mod=>
  replace h:=cz h;obtain ⟨x,y,rfl,rfl,h⟩:=h
  obtain ⟨t,rfl⟩:=ra;obtain ⟨u,rfl⟩:=rb
  split at h
  ·exact YD h
  ·obtain ⟨rfl,_⟩:=dQ (aI h)
   exact .Zi fun Q E q=>mod_int' (by assumption) q
 |Pow=>
  replace h:=cz h;obtain ⟨x,n,rfl,rfl,h⟩:=h
  obtain ⟨t,rfl⟩:=ra;obtain ⟨u,rfl⟩:=rb
  split at h
  ·rename_i h1
   split at h
   ·rename_i h2
    split at h
    ·rename_i h3
     obtain ⟨rfl,_⟩:=dQ (aI h)
     exact .Zi fun Q E q=>pow_int_small h2 (kg h3 (by decide)) (xw h1 (by decide)) q
    ·exact YD h
   ·exact YD h
  ·exact YD h
 |_=>exact Fw h
end
end
section
noncomputable abbrev Yx:=List (Str×D)
structure Hooks where
 fn:Addr→List D→R
 me:Str→D→List D→R
 bi:String→List D→R
noncomputable def D.toInt (d:D):Int:=by
 cases d with
 |int i=>exact i
 |_=>exact 0
noncomputable def D.toStr (d:D):Str:=by
 cases d with
 |str i=>exact i
 |_=>exact Str.empty
noncomputable def Za:List D→Int
 | []=>0
 |d::l=>d.toInt+Za l
noncomputable def AllInt:List D→Prop
 | []=>True
 |d::l=>(∃i,d=.int i)∧AllInt l
noncomputable def Z2:List D→Prop
 | []=>True
 |d::l=>(∃i,d=.str i)∧Z2 l
mutual
noncomputable def D.py:D→PyData
 | .int i=>.int i
 | .str s=>.str s
 | .tup l=>.tuple (pyL l)
 | .lst l=>.list (pyL l)
 |_=>.none
noncomputable def pyL:List D→List PyData
 | []=>[]
 |d::l=>d.py::pyL l
end
mutual
noncomputable def a0j:D→Prop
 | .int _=>True
 | .str s=>tT s=true
 | .tup l=>a0P l
 | .lst l=>a0P l
 |_=>False
noncomputable def a0P:List D→Prop
 | []=>True
 |d::l=>a0j d∧a0P l
end
noncomputable def dO (a b:D):Prop:=a0j a∧a0j b∧a.py.depth≤64∧b.py.depth≤64
noncomputable def Gw (op:UD)(a b:D):R:=match op with
 | .Eq=>orE (ii a b fun a b=>some (.bool (decide (a=b)),[])) (orE (ss a b fun a b=>some (.bool (decide (a=b)),[])) (some (.bool (rV a.py b.py),[dO a b])))
 | .NotEq=>orE (ii a b fun a b=>some (.bool (!decide (a=b)),[])) (orE (ss a b fun a b=>some (.bool (!decide (a=b)),[])) (some (.bool (!PyData.eqv a.py b.py),[dO a b])))
 | .Lt=>ii a b fun a b=>some (.bool (decide (a<b)),[])
 | .Gt=>ii a b fun a b=>some (.bool (decide (a>b)),[])
 | .GtE=>ii a b fun a b=>some (.bool (decide (a≥b)),[])
 | .In=>a.onS fun k=>b.onD fun ks Z=>some (.bool (ks.contains k),[])
 |_=>none
noncomputable def strAt (s:Str)(i:Nat):Str:=⟨#[s.cps.getD i 0]⟩
noncomputable def Gx (a b:D):R:=orE (a.onL fun l=>b.onI fun i=>if 0≤i then(l[i.toNat]?).map (·,[l.length≤sizeLine]) else none)
 (orE (a.onT fun l=>b.onI fun i=>if 0≤i then(l[i.toNat]?).map (·,[l.length≤sizeLine]) else none)
 (orE (a.onS fun s=>b.onI fun i=>if 0≤i then some (.str (strAt s i.toNat),[i.toNat<s.length∧s.length≤sizeLine]) else if i=-1 then some (.str (strAt s (s.length - 1)),[0<s.length∧s.length≤sizeLine]) else none)
 (a.onD fun ks vs=>b.onS fun k=>some (((ks.zip vs).lookup k).getD .none,[k∈ks]))))
noncomputable def yF (a b:D):R:=a.onL fun l=>b.onI fun k=>match l with
 | []=>none
 |d::l=>orE (d.onI fun i=>some (.int (((D.int i::l).getD k.toNat .none).toInt),[0≤k∧k<(l.length+1:Nat),AllInt l,l.length+1≤sizeLine]))
  (d.onS fun i=>some (.str (((D.str i::l).getD k.toNat .none).toStr),[0≤k∧k<(l.length+1:Nat),Z2 l,l.length+1≤sizeLine]))
noncomputable def NQ (op:II)(a b:D):R:=match op with
 | .Add=>orE (ii a b fun a b=>some (.int (a+b),[])) (ss a b fun a b=>some (.str (a++b),[a.length+b.length≤sizeLine]))
 | .BitAnd=>ii a b fun a b=>some (.int (kL a b),[])
 | .BitOr=>ii a b fun a b=>some (.int (kB a b),[])
 | .LShift=>ii a b fun a n=>some (.int (a*2 ^ n.toNat),[0≤n∧n≤1000000∧a.natAbs<2 ^ 64])
 | .RShift=>ii a b fun a n=>some (.int (a.fdiv (2 ^ n.toNat)),[0≤n])
 |_=>none
noncomputable def dUn (op:UnaryOp)(a:D):R:=match op with
 | .USub=>a.onI fun a=>some (.int (-a),[])
 | .Invert=>a.onI fun a=>some (.int (gT a),[])
 |_=>none
noncomputable def nq (l:List D)(lo hi st:Option Int):List D:=(C2 (ki lo hi st l.length).1 (ki lo hi st l.length).2.1 (ki lo hi st l.length).2.2).filterMap (l[·]?)
noncomputable def VP (o:Option Int)(f:Int→R):R:=match o with
 |some x=>f x
 |none=>none
noncomputable def Ma (o:Option Int)(r:R):R:=match o with
 |none=>r
 |some _=>none
theorem qZ {o:Option Int}{f:Int→R}{r:D×List Prop}(h:VP o f=some r):∃x,o=some x∧f x=some r:=by
 cases o with
 |none=>exact YD h
 |some x=>exact⟨x,rfl,h⟩
theorem je {o:Option Int}{f:R}{r:D×List Prop}(h:Ma o f=some r):o=none∧f=some r:=by
 cases o with
 |none=>exact⟨rfl,h⟩
 |some x=>exact YD h
noncomputable def Fl (a:D)(lo hi st:Option Int):R:=orE (a.onL fun l=>if st.getD 1=0 then none else some (.lst (nq l lo hi st),[l.length≤sizeLine]))
 (orE (a.onS fun x=>VP lo fun lo=>Ma hi (Ma st (some (.str (RO x (some lo) none),[x.length≤sizeLine]))))
 (a.onT fun l=>Ma lo (VP hi fun hi=>Ma st (if 0<hi then if hi.toNat<l.length then some (.tup (l.take hi.toNat),[l.length≤sizeLine]) else none else none))))
noncomputable def gh (d:D):Option Bool:=by cases d<;>first|exact some ‹Bool›|exact none
noncomputable def NT (b:Bool)(x y:D):Option D:=by
 cases x with
 |int x=>
  cases y with
  |int y=>exact some (.int (if b then x else y))
  |_=>exact none
 |str x=>
  cases y with
  |str y=>exact some (.str (if b then x else y))
  |_=>exact none
 |_=>exact none
noncomputable def fnOf (s:Stmt):Option (Str×Arguments×List Stmt×Scope):=by
 cases s with
 |FunctionDef m a b _ _ _ sc _ _ _=>exact some (m,a,b,sc)
 |_=>exact none
noncomputable def clsOf (s:Stmt):Option (Str×List Stmt):=by
 cases s with
 |ClassDef m _ _ b=>exact some (m,b)
 |_=>exact none
noncomputable def Ft (n:Str)(l:List Stmt):Option (Arguments×List Stmt×Scope):=l.findSome? fun s=>(fnOf s).bind fun x=>if x.1==n then some x.2 else none
noncomputable def Ju (n:Str)(l:List Stmt):Option (Arguments×List Stmt×Scope):=l.findSome? fun s=>((fnOf s).bind fun x=>if x.1==n then some x.2 else none).or ((clsOf s).bind fun x=>Ft n x.2)
noncomputable def fnNames:List (Addr×String):=[(52,"compare"),(66,"add_callers"),(73,"count_calls"),(85,"is_HDN"),(92,"reach"),(99,"inv"),(106,"iadd"),(113,"iand"),(120,"ilshift"),(127,"ior"),(134,"irshift"),(183,"quotedata"),
 (190,"_law_tree"),(197,"_law_row"),(204,"_law_ask"),(211,"_law_letter"),(216,"_law_sets"),(221,"law")]
noncomputable def Zd:List (Addr×Arguments×List Stmt×Scope):=fnNames.filterMap fun p=>(Ju (af p.2) PW.main.body).map (p.1,·)
noncomputable def a2n:List Str:=["len","range","enumerate","sum","min","sorted","zip","tuple","isinstance"].map af
noncomputable def Zo:List (Str×bX):=[(af "add_callers",.ref 66),(af "count_calls",.ref 73),(af "IPV4_RE",.ref 78),(af "is_HDN",.ref 85),(af "reach",.ref 92),
 (af "invert",.ref 99),(af "iadd",.ref 106),(af "iand",.ref 113),(af "ilshift",.ref 120),(af "ior",.ref 127),(af "irshift",.ref 134),
 (af "_twin_re_1",.ref 139),(af "_twin_re_2",.ref 144),(af "SMTPRecipientsRefused",.ref 174),(af "quotedata",.ref 183),
 (af "_law_tree",.ref 190),(af "_law_row",.ref 197),(af "_law_ask",.ref 204),(af "_law_letter",.ref 211),(af "_law_sets",.ref 216),(af "TupleComp",.ref 55)]
noncomputable def Z8:List (Str×bX):=[(af "len",.builtin "len"),(af "range",.type "range"),(af "enumerate",.type "enumerate"),(af "sum",.builtin "sum"),(af "min",.builtin "min"),
 (af "sorted",.builtin "sorted"),(af "zip",.type "zip"),(af "tuple",.type "tuple"),(af "isinstance",.builtin "isinstance")]
noncomputable def a3A:List (Str×bX):=Zo++[(af "CRLF",.none)]
noncomputable def cH (n:Str):Option D:=
 match Zo.lookup n with
 |some v=>some (.val v)
 |none=>if n==af "CRLF" then some (.str (af "\r\n")) else(Z8.lookup n).map .val
noncomputable def a0f:List Addr:=[66,73,85,92,99,106,113,120,127,134,183,190,197,204,211,216]
noncomputable def aG (scope sc:Scope):Scope:=
 {scope with names:=scope.names.map fun(n,k)=>if(k==.free&&sc.kind==.function&&sc.names.lookup n==some .cell) then(n,.cell) else(n,k)}
noncomputable def inner (scope:Scope)(ρ:Yx):Yx:=ρ.filter fun p=>!(scope.names.lookup p.1==some .local||scope.names.lookup p.1==some .cell)
set_option genInjectivity false in
set_option genSizeOf false in
inductive EK:PySem.Expr→Type
 |name (x:Str) (p:UK):EK (.Name x p)
 |tup (es:List PySem.Expr) (k:Nat) (p:UK):EK (.Tuple es k p)
 |attr (v:PySem.Expr) (m:Str) (p:UK):EK (.Attribute v m p)
 |oth (e:PySem.Expr):EK e
noncomputable def ek (e:PySem.Expr):EK e:=by
 cases e with
 |Name x p=>exact .name x p
 |Tuple es k p=>exact .tup es k p
 |Attribute v m p=>exact .attr v m p
 |_=>exact .oth _
noncomputable def EK.on {α:Type}{e:PySem.Expr}(v:EK e)(n:Str→α)(t:List PySem.Expr→α)(a:PySem.Expr→Str→UK→α)(o:α):α:=by
 cases v with
 |name x p=>exact n x
 |tup es k p=>exact t es
 |attr v m p=>exact a v m p
 |oth=>exact o
noncomputable def nameE (e:PySem.Expr):Option Str:=(ek e).on some (fun Z=>none) (fun Z Z Z=>none) none
theorem d9 {e:PySem.Expr}{x:Str}:nameE e=some x→∃p,e=.Name x p:=
 EK.rec (motive:=fun e v=>v.on some (fun Z=>none) (fun Z Z Z=>none) none=some x→∃p,e=.Name x p) (fun y p h=>⟨p,by rw[aI h]⟩) (fun Z Z Z h=>YD h) (fun Z Z Z h=>YD h) (fun Z h=>YD h) (ek e)
noncomputable def two {β:Type}(l:List PySem.Expr)(o:β)(f:PySem.Expr→PySem.Expr→β):β:=by
 rcases l with _|⟨a,_|⟨b,_|⟨c,es⟩⟩⟩
 ·exact o
 ·exact o
 ·exact f a b
 ·exact o
noncomputable def Gl (x y:Str)(d:D)(ρ:Yx):Option Yx:=by
 cases d with
 |tup l=>
  rcases l with _|⟨c,_|⟨d,_|⟨e,l⟩⟩⟩
  ·exact none
  ·exact none
  ·exact some ((y,d)::(x,c)::ρ)
  ·exact none
 |_=>exact none
noncomputable def cZ (t:PySem.Expr)(d:D)(ρ:Yx):Option Yx:=(ek t).on (fun x=>some ((x,d)::ρ)) (fun es=>two es none fun a b=>(nameE a).bind fun x=>(nameE b).bind fun y=>Gl x y d ρ) (fun Z Z Z=>none) none
inductive xQ (ρ:Yx):PySem.Expr→D→Yx→Prop
 |name (x:Str) (p:UK) (d:D):xQ ρ (.Name x p) d ((x,d)::ρ)
 |pair (x:Str) (p:UK) (y:Str) (q:UK) (k:Nat) (r:UK) (a b:D):xQ ρ (.Tuple [.Name x p,.Name y q] k r) (.tup [a,b]) ((y,b)::(x,a)::ρ)
theorem wi {x y:Str}{p q r:UK}{k:Nat}{d:D}{ρ ρ':Yx}(h:Gl x y d ρ=some ρ'):xQ ρ (.Tuple [.Name x p,.Name y q] k r) d ρ':=by
 cases d with
 |tup l=>
  rcases l with _|⟨c,_|⟨d,_|⟨e,l⟩⟩⟩
  ·exact YD h
  ·exact YD h
  ·exact aI h▸.pair ..
  ·exact YD h
 |_=>exact YD h
theorem lG {t:PySem.Expr}{d:D}{ρ ρ':Yx}:cZ t d ρ=some ρ'→xQ ρ t d ρ':=by
 refine EK.rec (motive:=fun t v=>v.on (fun x=>some ((x,d)::ρ)) (fun es=>two es none fun a b=>(nameE a).bind fun x=>(nameE b).bind fun y=>Gl x y d ρ) (fun Z Z Z=>none) none=some ρ'→xQ ρ t d ρ')
  (fun x p h=>aI h▸.name ..) (fun es k p h=>?_) (fun Z Z Z h=>YD h) (fun Z h=>YD h) (ek t)
 rcases es with _|⟨a,_|⟨b,_|⟨c,es⟩⟩⟩
 ·exact YD h
 ·exact YD h
 ·obtain ⟨x,h1,h⟩:=l8.mp h
  obtain ⟨y,h2,h⟩:=l8.mp h
  obtain ⟨_,rfl⟩:=d9 h1
  obtain ⟨_,rfl⟩:=d9 h2
  exact wi h
 ·exact YD h
noncomputable def bj (e:PySem.Expr):Bool:=K2 e.ctorIdx 23
noncomputable def cY (e:PySem.Expr):Bool:=K2 e.ctorIdx 25
noncomputable def ak (t:PySem.Expr):List Str:=(ek t).on (fun x=>[x]) (fun es=>two es [] fun a b=>(nameE a).toList++(nameE b).toList) (fun Z Z Z=>[]) []
noncomputable def cP (t:PySem.Expr):Bool:=(ek t).on (fun Z=>true) (fun es=>two es false fun a b=>(nameE a).isSome&&(nameE b).isSome) (fun Z Z Z=>false) false
inductive a1o:PySem.Expr→Prop
 |name (x:Str) (p:UK):a1o (.Name x p)
 |pair (x:Str) (p:UK) (y:Str) (q:UK) (k:Nat) (r:UK):a1o (.Tuple [.Name x p,.Name y q] k r)
theorem some_of {α:Type}{o:Option α}(h:o.isSome=true):∃x,o=some x:=⟨_,(OO h).symm⟩
theorem dH {t:PySem.Expr}:cP t=true→a1o t:=by
 refine EK.rec (motive:=fun t v=>v.on (fun Z=>true) (fun es=>two es false fun a b=>(nameE a).isSome&&(nameE b).isSome) (fun Z Z Z=>false) false=true→a1o t)
  (fun x p h=>.name ..) (fun es k p h=>?_) (fun Z Z Z h=>noB h) (fun Z h=>noB h) (ek t)
 rcases es with _|⟨a,_|⟨b,_|⟨c,es⟩⟩⟩
 ·exact noB h
 ·exact noB h
 ·have h:=cy.mp h
  obtain ⟨x,h1⟩:=some_of h.1
  obtain ⟨y,h2⟩:=some_of h.2
  obtain ⟨_,rfl⟩:=d9 h1
  obtain ⟨_,rfl⟩:=d9 h2
  exact .pair ..
 ·exact noB h
theorem jk {t:PySem.Expr}(h:cP t=true)(hn:bj t=false):cY t=true:=by
 cases dH h with
 |name=>exact absurd hn.symm nV
 |pair=>rfl
noncomputable def cO (scope sc:Scope):Bool:=
 scope.kind==.function&&decide ((scope.names.map (fun x=>x.1)).Nodup)&&scope.names.all fun p=>match p.2 with
  | .free=>sc.names.lookup p.1==some .cell||sc.names.lookup p.1==some .free
  |_=>true
noncomputable def cJ (e:PySem.Expr):Bool:=K2 e.ctorIdx 7
noncomputable abbrev LC (sc:Scope)(x:Str):Prop:=sc.names.lookup x=some .local∨sc.names.lookup x=some .cell
noncomputable abbrev bw (sc:Scope)(ns:List Str):Prop:=∀x∈ns,LC sc x
noncomputable def bH (t:PySem.Expr)(scope:Scope):Bool:=cP t&&(ak t).all fun x=>scope.names.lookup x==some .local||scope.names.lookup x==some .cell
noncomputable def grd {α:Type}(b:Bool)(x:Option α):Option α:=match b with
 |true=>x
 |false=>none
noncomputable def itemsOf (t:PySem.Expr)(d:D):Option (List D):=by
 cases d with
 |lst l=>exact some l
 |dct ks vs=>exact grd (bj t) (some (ks.map .str))
 |_=>exact none
noncomputable def bG (lo:Int)(n:Nat):List D:=(jI n).map fun(i:Nat)=>.int (lo+i)
noncomputable def aL {α:Type}(b:Bool)(l:List α):List α:=match b with|true=>l|false=>[]
noncomputable def dw {β:Type}(f:D→Option (Bool×β×List Prop)):List D→Option (List β×List Prop)
 | []=>some ([],[])
 |d::l=>match f d with
  |some (b,x,cs)=>match dw f l with
   |some (r,cs')=>some (aL b [x]++r,cs++cs')
   |none=>none
  |none=>none
noncomputable def fD (f:D→Option (List D×List Prop)):List D→Option (List D×List Prop)
 | []=>some ([],[])
 |d::l=>match f d with
  |some (x,cs)=>match fD f l with
   |some (r,cs')=>some (x++r,cs++cs')
   |none=>none
  |none=>none
noncomputable def ZP:Int→List D→List D
 |_,[]=>[]
 |i,d::l=>.tup [.int i,d]::ZP (i+1) l
noncomputable def bnd {α β:Type}(x:Option (α×List Prop))(f:α→Option (β×List Prop)):Option (β×List Prop):=match x with
 |some (a,cs)=>(match f a with
  |some (b,cs')=>some (b,cs++cs')
  |none=>none)
 |none=>none
noncomputable def Gm {α β:Type}(P:α→β→List Prop)(x:Option (α×List Prop))(f:α→Option (β×List Prop)):Option (β×List Prop):=match x with
 |some (a,cs)=>(match f a with
  |some (b,cs')=>some (b,P a b++(cs++cs'))
  |none=>none)
 |none=>none
noncomputable def uf {α β:Type}(f:α→β)(x:Option (α×List Prop)):Option (β×List Prop):=match x with
 |some (a,cs)=>some (f a,cs)
 |none=>none
noncomputable def noC {α:Type}(x:Option α):Option (α×List Prop):=match x with
 |some a=>some (a,[])
 |none=>none
noncomputable def W6 (d:D):Option (Str×List Prop):=by
 cases d with
 |str x=>exact some (x,[])
 |_=>exact none
noncomputable def Jd (d:D):Option (Bool×List Prop):=by cases d with
 |bool x=>exact some (x,[])
 |_=>exact none
noncomputable def Wf (d:D):Option (Option Int×List Prop):=by
 cases d with
 |int x=>exact some (some x,[])
 |_=>exact none
noncomputable def MN (d:D):Option (List D×List Prop):=by
 cases d with
 |dct ks vs=>exact some (vs,[])
 |_=>exact none
noncomputable def FJ (d:D):R:=by
 cases d with
 |order x=>exact some (x,[])
 |_=>exact none
noncomputable def tyOf (d:D):Option String:=by
 cases d with
 |val v=>
  cases v with
  |type x=>exact some x
  |_=>exact none
 |_=>exact none
noncomputable def Nf (d:D):Option Int:=by
 cases d with
 |int x=>exact some x
 |_=>exact none
theorem H7 {d:D}:Nf d=(We d).map (fun x=>x.1):=by cases d<;>rfl
noncomputable def dCall (c:Hooks)(v:D)(ds:List D):R:=by
 cases v with
 |val v=>
  cases v with
  |ref f=>exact grd (a0f.contains f) (c.fn f ds)
  |builtin id=>exact c.bi id ds
  |_=>exact none
 |_=>exact none
noncomputable def uy (x y:D):Option (List D):=(Nf x).bind fun a=>(Nf y).bind fun b=>grd (decide (a≤b)&&(decide (a.natAbs<1000)&&decide (b.natAbs<1000))) (some (bG a (b - a).toNat))
theorem qJ {x:D}{a:Int}(h:Nf x=some a):x=.int a:=by
 obtain ⟨y,_,rfl⟩:=iF.mp (H7.symm.trans h);exact y.2
theorem dm {α:Type}{b:Bool}{x:Option α}{r:α}(h:grd b x=some r):b=true∧x=some r:=by
 cases b with
 |true=>exact⟨rfl,h⟩
 |false=>exact YD h
noncomputable def WQ (ds:List D):Option (List D):=match ds with
 | [b]=>uy (.int 0) b
 | [a,b]=>uy a b
 |_=>none
noncomputable def Xb (d:D):Option (List D):=by
 cases d with
 |lst x=>exact some x
 |_=>exact none
noncomputable def Wb (ds:List D):Option (List D):=match ds with
 | [d]=>(Xb d).map (ZP 0)
 |_=>none
noncomputable def Wa (t:PySem.Expr)(v:D)(ds:List D):Option (List D):=(tyOf v).bind fun n=>match n=="range" with
 |true=>grd (bj t) (WQ ds)
 |false=>grd (n=="enumerate"&&cY t) (Wb ds)
noncomputable def nu (t:PySem.Expr):Option (List D×List Prop)→R→Option (List D×List Prop)
 |some x,_=>some x
 |none,some (src,cs)=>(itemsOf t src).map (·,cs)
 |none,none=>none
noncomputable def JH (o:Option NameKind)(x:Str)(ρ:Yx):Option D:=match o with
 |some .globalImplicit=>cH x
 |some .local=>ρ.lookup x
 |some .cell=>ρ.lookup x
 |some .free=>ρ.lookup x
 |_=>none
noncomputable def pname (sc:Scope)(ρ:Yx)(x:Str):R:=grd (!(x==af "__debug__"||x==af "__classdict__")) (noC (JH (sc.names.lookup x) x ρ))
noncomputable def De (sc:Scope)(f:Str):Option D:=grd (decide (sc.names.lookup f=some .globalImplicit)) (cH f)
noncomputable def Nz (c:Hooks)(f:PySem.Expr)(n:Nat)(pos:UK)(sc:Scope)(ρ:Yx)(ds:List D):R:=(ek f).on (fun f=>(De sc f).bind fun v=>dCall c v ds) (fun Z=>none)
 (fun v m ap=>(nameE v).bind fun o=>bnd (pname sc ρ o) fun a=>grd (ap.endLine==pos.line&&decide (n<30)) (c.me m a ds)) none
noncomputable def Yq (t f:PySem.Expr)(n:Nat)(pos:UK)(sc:Scope)(ρ:Yx)(ds:List D):Option (List D×List Prop):=(ek f).on (fun f=>(De sc f).bind fun v=>noC (Wa t v ds)) (fun Z=>none)
 (fun v m ap=>grd (decide (n=0)&&(m==af "values"&&(ap.endLine==pos.line&&bj t))) ((nameE v).bind fun o=>bnd (pname sc ρ o) MN)) none
noncomputable def lcF {β:Type}(p1:Yx→Option (Bool×List Prop))(p2:Yx→Option (β×List Prop))(t:PySem.Expr)(ρ:Yx)(d:D):Option (Bool×β×List Prop):=match cZ t d ρ with
 |some ρ'=>(match bnd (p1 ρ') fun b=>uf (M0 b) (p2 ρ') with
  |some ((b,x),cs)=>some (b,x,cs)
  |none=>none)
 |none=>none
noncomputable def outF (p1:Yx→Option (List D×List Prop))(p2:Yx→R)(t t2:PySem.Expr)(ρ:Yx)(d:D):Option (List D×List Prop):=match cZ t d ρ with
 |some ρ'=>Gm (fun items Z=>[items.length≤sizeLine]) (p1 ρ') fun items=>dw (lcF (fun Z=>some (true,[])) p2 t2 ρ') items
 |none=>none
mutual
noncomputable def aZ (c:Hooks):PySem.Expr→Scope→Yx→R
 | .Constant (.int i) _ _,sc,ρ=>some (.int i,[])
 | .Constant (.str x) _ _,sc,ρ=>some (.str x,[])
 | .Constant (.bool b) _ _,sc,ρ=>some (.bool b,[])
 | .Name x _,sc,ρ=>pname sc ρ x
 | .BinOp l op r _,sc,ρ=>bnd (aZ c l sc ρ) fun a=>bnd (aZ c r sc ρ) fun b=>Cv op a b
 | .UnaryOp op e _,sc,ρ=>bnd (aZ c e sc ρ) fun a=>dUn op a
 | .BoolOp op es _,sc,ρ=>grd (!es.isEmpty) (uf D.bool (IV c (op==.And) es sc ρ))
 | .IfExp t b o _,sc,ρ=>bnd (aZ c t sc ρ) fun x=>bnd (aZ c b sc ρ) fun y=>bnd (aZ c o sc ρ) fun z=>noC ((gh x).bind fun x=>NT x y z)
 | .Compare l [op] [r] _,sc,ρ=>bnd (aZ c l sc ρ) fun a=>bnd (aZ c r sc ρ) fun b=>grd (!behindInMarks op r) (Gw op a b)
 | .Call f args kws pos,sc,ρ=>grd kws.isEmpty (bnd (o6 c args sc ρ) (Nz c f args.length pos sc ρ))
 | .Attribute v x _,sc,ρ=>(nameE v).bind fun o=>bnd (pname sc ρ o) fun a=>grd (x==af "comp_select_list") (FJ a)
 | .Subscript e (.Slice lo hi st _) _,sc,ρ=>bnd (aZ c e sc ρ) fun a=>bnd (vL c lo sc ρ) fun l=>bnd (vL c hi sc ρ) fun u=>bnd (vL c st sc ρ) fun t=>Fl a l u t
 | .Subscript e (.BinOp l .Mod r _) _,sc,ρ=>bnd (aZ c e sc ρ) fun a=>bnd (bnd (aZ c l sc ρ) fun x=>bnd (aZ c r sc ρ) fun y=>Cv .Mod x y) fun i=>yF a i
 | .Subscript e i _,sc,ρ=>bnd (aZ c e sc ρ) fun a=>bnd (aZ c i sc ρ) fun b=>Gx a b
 | .Tuple es _ _,sc,ρ=>grd (decide (es.length<100)) (uf D.tup (o6 c es sc ρ))
 | .List es _,sc,ρ=>grd (decide (es.length<100)) (uf D.lst (o6 c es sc ρ))
 | .Dict [] [] _,sc,ρ=>some (.dct [] [],[])
 | .ListComp elt [⟨t,it,ifs,0⟩] scope _,sc,ρ=>grd (cO scope sc&&(bH t scope&&!cJ it)) (uf D.lst (Gm (fun items Z=>[items.length≤sizeLine]) (nu t (psrc c t it sc ρ) (aZ c it sc ρ))
   (dw (lcF (fun ρ'=>IV c true ifs (aG scope sc) ρ') (fun ρ'=>aZ c elt (aG scope sc) ρ') t (inner scope ρ)))))
 | .ListComp elt [⟨t,it,[],0⟩,⟨t2,it2,[],0⟩] scope _,sc,ρ=>grd (cO scope sc&&(bH t scope&&(bH t2 scope&&(((ak t2).all fun x=>!(ak t).contains x)&&(!cJ it&&!cJ it2)))))
   (uf D.lst (Gm (fun items l=>[items.length≤sizeLine,l.length≤sizeLine]) (nu t (psrc c t it sc ρ) (aZ c it sc ρ))
    (fD (outF (fun ρ'=>nu t2 (psrc c t2 it2 (aG scope sc) ρ') (aZ c it2 (aG scope sc) ρ')) (fun ρ'=>aZ c elt (aG scope sc) ρ') t t2 (inner scope ρ)))))
 | .DictComp kx vx [⟨t,it,ifs,0⟩] scope _,sc,ρ=>grd (cO scope sc&&(bH t scope&&(bj t&&!cJ it))) (uf (fun(l:List (Str×D))=>D.dct (l.map (fun x=>x.1)) (l.map (fun x=>x.2))) (Gm (fun items (l:List (Str×D))=>[items.length≤sizeLine,(l.map (fun x=>x.1)).Nodup])
   (nu t (psrc c t it sc ρ) (aZ c it sc ρ))
   (dw (lcF (fun ρ'=>IV c true ifs (aG scope sc) ρ') (fun ρ'=>bnd (bnd (aZ c kx (aG scope sc) ρ') W6) fun x=>uf (M0 x) (aZ c vx (aG scope sc) ρ')) t (inner scope ρ)))))
 |_,_,_=>none
noncomputable def o6 (c:Hooks):List PySem.Expr→Scope→Yx→Option (List D×List Prop)
 | [],sc,ρ=>some ([],[])
 |e::es,sc,ρ=>bnd (aZ c e sc ρ) fun d=>uf (UB d) (o6 c es sc ρ)
noncomputable def IV (c:Hooks)(all:Bool):List PySem.Expr→Scope→Yx→Option (Bool×List Prop)
 | [],sc,ρ=>some (all,[])
 |e::es,sc,ρ=>bnd (bnd (aZ c e sc ρ) Jd) fun a=>uf (fun b=>match all with|true=>a&&b|false=>a||b) (IV c all es sc ρ)
noncomputable def vL (c:Hooks):Option PySem.Expr→Scope→Yx→Option (Option Int×List Prop)
 |none,sc,ρ=>some (none,[])
 |some e,sc,ρ=>bnd (aZ c e sc ρ) Wf
noncomputable def psrc (c:Hooks)(t:PySem.Expr)(e:PySem.Expr)(sc:Scope)(ρ:Yx):Option (List D×List Prop):=by
 cases e with
 |Call f args kws pos=>exact grd kws.isEmpty (bnd (o6 c args sc ρ) (Yq t f args.length pos sc ρ))
 |_=>exact none
end
end
section
structure Zv (k:Nat)(A:Around):Prop where
 handled:A.handled=none
 depth:A.depth+k≤900
 units:A.units+8*k≤9000
inductive FnAt (X:Addr→Prop)(h:Heap)(a:Addr)(params:Arguments)(body:List Stmt)(scope:Scope):Prop
 |mk (o:Obj) (fd:FuncData) (c:Addr) (oc:Obj) (vs:Array bX) (t:UN) (nx:¬X a) (e1:h.get? a=some o) (e2:o.cls=.type "function") (e3:o.data=.func fd) (e4:fd.params=params) (e5:fd.body=.stmts body) (e6:fd.scope=scope)
  (e7:fd.globals=mainGlobals) (e8:fd.closure=[]) (e9:fd.defaults=.none) (e10:fd.kwdefaults=.none) (e11:fd.builtins=A2) (e12:fd.code=.ref c) (e13:¬X c) (e14:h.get? c=some oc) (e15:oc.data=.fields vs) (e16:vs[1]?=some (.str fd.qualname t))
noncomputable def P1:List Nat:=[14,8,1,2,4294967295,1,1,46,0,16,46,24,9,1,4294967295,13,4,8,0,0,1,6,5,1]
noncomputable def P2:List Nat:=[14,4,0,1,1,6,1,16,46,1]
noncomputable def P3:List Nat:=[14,9,4,1,2,16,10,16,13,0,7,7,16,13,16,10,15,18,5,16,10,15,13,11,16,13,5,5,0,16,10,1,15,2,0,1]
open PySem.Builtin.Re in
inductive gn (X:Addr→Prop)(h:Heap)(a:Addr)(code:List Nat):Prop
 |mk (o:Obj) (fs:Array bX) (t:Addr) (items:Array bX) (n:Nat) (nx:¬X a) (e1:h.get? a=some o) (e2:o.cls=.type "re.Pattern") (e3:o.dict=none) (e4:o.data=.fields fs) (e5:fs.getD 5 .none=.ref t) (e6:¬X t) (e7:h.get? t=some {cls:=.type "tuple",data:=.seq items n})
  (e8:(items.map reRawOf).map (fun x=>x.toNat)=code.toArray) (e9:reRawNat (fs.getD 2 .none)=0) (e10:reRawNat (fs.getD 6 .none)=0)
theorem gn.up {X X':Addr→Prop}{h h':Heap}{a:Addr}{code:List Nat}(u:Up X X' h h')(x:gn X h a code):gn X' h' a code:=by
 obtain ⟨o,fs,t,items,n,nx,h1,h2,h3,h4,h5,h6,h7,h8,h9,h10⟩:=x
 exact⟨o,fs,t,items,n,fun q=>nx (u.sub _ _ h1 q),u.keep _ _ h1 nx,h2,h3,h4,h5,fun q=>h6 (u.sub _ _ h7 q),u.keep _ _ h7 h6,h8,h9,h10⟩
noncomputable def yo {α:Type}(x:Option α):Option {a // x=some a}:=by
 cases x with
 |none=>exact none
 |some a=>exact some ⟨a,rfl⟩
noncomputable def sure (b:Bool):Option (PLift (b=true)):=by
 cases b
 ·exact none
 ·exact some ⟨rfl⟩
noncomputable def tyO (v:bX):Option {a // v=.type a}:=by
 cases v<;>first|exact some ⟨_,rfl⟩|exact none
theorem Fy {o:Obj}{c:bX}{d:Option Addr}{x:Data}{sl:Array (Option bX)}(h1:o.cls=c)(h2:o.dict=d)(h3:o.data=x)(h4:o.slots=sl):o=⟨c,d,x,sl⟩:=by
 subst h1 h2 h3 h4;rfl
theorem eqT {α:Type}[BEq α][LawfulBEq α]{x y:α}{P:α→Prop}(e:P x)(h:(x==y)=true):P y:=beq_iff_eq.mp h▸e
noncomputable def clO (v:Data):Option {a // v=.cls a}:=by
 cases v<;>first|exact some ⟨_,rfl⟩|exact none
noncomputable def W9 (K:Cb)(C:Addr):Option (PLift (∃od cd sl,K.lookup C=some ⟨.type "type",od,.cls cd,sl⟩)):=
 (yo (K.lookup C)).bind fun o=>(tyO o.1.cls).bind fun t=>(clO o.1.data).bind fun c=>(sure (t.1=="type")).map fun g=>
 ⟨_,_,_,o.2.trans (congrArg some (Fy (eqT (P:=fun y=>o.1.cls=.type y) t.2 g.1) rfl c.2 rfl))⟩
noncomputable abbrev Gr (K:Cb)(C:Addr):Bool:=(W9 K C).isSome
structure jG (K:Cb):Prop where
 pt:K.lookup PT=none
 g55:plainGet K 55 "comp_select_list"=true
 d55:hasDictIn K 55=true
 a55:JA K (.ref 55) "comp_select_list"=some none
 c55:JA K (.ref 55) "compare"=some (some (.ref 52))
 m55:makesIn K 55=true
 i55:JA K (.ref 55) "__init__"=some (some (.ref 45))
 f52:isFn K (.ref 52)=true
 a1v:mroIn K 174 (.type "BaseException")=some true
 a5m:mroIn K 174 (.ref 174)=some true
 a5n:instIn K (.ref 174) (.type "tuple")=some false
 a3x:Gr K 174=true
 a4Z:TU K (.ref 174)=true
 k55:TU K (.ref 55)=true
 a4D:JA K (.ref 174) "__getattribute__"=some (some (.builtin "BaseException.__getattribute__"))
 a4E:JA K (.ref 174) "__getattr__"=some none
noncomputable abbrev Fg (hd:Option bX):Around:={handled:=hd,depth:=900,frames:=none,guards:=none,units:=9000}
theorem gR {α:Type}{M:TM}{A:Around}{t:UM α}{Q:α→aE→Prop}{E:bX→aE→Prop}{s:aE}(hd:A.depth≤900)(hu:A.units≤9000)(h:cE M (Fg A.handled) t Q E s):cE M A t Q E s:=
 fun Γ p hΓ=>h Γ p ⟨hΓ.1,ai hΓ.2.1 hd,fun Z h=>(nomatch h),fun Z h=>(nomatch h),ai hΓ.2.2.2.2 hu⟩
noncomputable def ExcAt (h:Heap)(dx td:Addr):Prop:=∃tk hs n,h.get? dx=some {cls:=.type "dict",data:=.dict #[⟨hs,.str (af "recipients") tk,.ref td⟩] n}
structure By (w:gp)(s:aE):Prop where
 make:∀(td:Addr) (Q E:bX→aE→Prop),
  (∀e dx h' t' vs,(∀a o,s.heap.get? a=some o→h'.get? a=some o)→s.heap.get? e=none→s.heap.get? dx=none→e≠dx→ExcAt h' dx td→3<vs.size→vs[1]?=some .none→
   h'.get? e=some ⟨.ref 174,some dx,.fields vs,#[]⟩→Q (.ref e) ⟨h',s.gens,s.drawn,t',s.os⟩)→cE (cS PW w) (Fg none) (call (.ref 174) [.ref td]) Q E s
 attr:∀(e dx td:Addr) (vs:Array bX) (sl:Array (Option bX)) (tk:UN) (Q E:bX→aE→Prop),s.heap.get? e=some ⟨.ref 174,some dx,.fields vs,sl⟩→ExcAt s.heap dx td→
  (∀t',Q (.ref td) ⟨s.heap,s.gens,s.drawn,t',s.os⟩)→cE (cS PW w) (Fg (some (.ref e))) (call (.builtin "BaseException.__getattribute__") [.ref e,.str (af "recipients") tk]) Q E s
 order:∀(v:Addr) (Q E:bX→aE→Prop),
  (∀o h' t',(∀a o,s.heap.get? a=some o→h'.get? a=some o)→s.heap.get? o=none→sH h' (fun a=>∃o,s.heap.get? a=some o) 55 o "comp_select_list" (.ref v)→Q (.ref o) ⟨h',s.gens,s.drawn,t',s.os⟩)→
  cE (cS PW w) (Fg none) (call (.ref 55) [.ref v]) Q E s
inductive GAt (X:Addr→Prop)(h:Heap):Prop
 |mk (mg:Str→Option bX) (t:UN) (nx:¬X mainGlobals) (ns:h.Ns mainGlobals mg) (g1:∀p∈Zo,mg p.1=some p.2) (g2:mg (af "CRLF")=some (.str (af "\r\n") t)) (g3:∀p∈Z8,mg p.1=none)
inductive BAt (X:Addr→Prop)(h:Heap):Prop
 |mk (mb:Str→Option bX) (nx:¬X A2) (ns:h.Ns A2 mb) (b1:∀p∈Z8,mb p.1=some p.2)
inductive uM (X:Addr→Prop)(h:Heap):Prop
 |mk (n66:¬X 66) (n65:¬X 65) (o:Obj) (fd:FuncData) (oc:Obj) (vc:Array bX) (file:Str) (tf:UN) (flags:Int) (tg:UN) (inF:Bool) (text:Int) (tt:UN) (e1:h.get? 66=some o) (e2:o.data=.func fd) (e3:fd.code=.ref 65) (e4:h.get? 65=some oc)
  (e5:oc.cls=.type "code") (e6:oc.data=.fields vc) (e7:vc[11]?=some (.ref PT)) (e8:vc.getD 18 .none=.str file tf) (e9:vc.getD 7 .none=.int flags tg) (e10:vc.getD 9 .none=.bool inF) (e11:vc.getD 10 .none=.int text tt)
structure Base (w:gp)(X:Addr→Prop)(h:Heap):Prop where
 g:GAt X h
 b:BAt X h
 nolimit:¬X cStatics∧h.NoLimit
 fns:∀f x,Zd.lookup f=some x→FnAt X h f x.1 x.2.1 x.2.2
 a0s:∃K:Cb,jG K∧K.In h∧∀a o,K.lookup a=some o→¬X a
 bmod:∃mg bm ob,¬X mainGlobals∧¬X bm∧BMod h mainGlobals mg bm ob
 a0K:uM X h
 more:∀s:aE,(∀a o,h.get? a=some o→¬X a→s.heap.get? a=some o)→By w s
 p1:gn X h 78 P1
 p2:gn X h 139 P2
 p3:gn X h 144 P3
theorem qW {h h':Heap}{X X':Addr→Prop}{a:Addr}{m}(u:Up X X' h h')(ha:¬X a)(x:h.Ns a m):¬X' a∧h'.Ns a m:=
 by obtain ⟨o,es,ep,e,r⟩:=x;exact⟨fun q=>ha (u.sub _ _ e q),o,es,ep,u.keep _ _ e ha,r⟩
theorem FnAt.up {h h':Heap}{X X':Addr→Prop}{a:Addr}{p b c}(u:Up X X' h h')(x:FnAt X h a p b c):FnAt X' h' a p b c:=by
 obtain ⟨o,fd,c,oc,vs,t,nx,h1,h2,h3,h4,h5,h6,h7,h8,h9,h10,h11,h12,h13,h14,h15,h16⟩:=x
 exact⟨o,fd,c,oc,vs,t,fun q=>nx (u.sub _ _ h1 q),u.keep _ _ h1 nx,h2,h3,h4,h5,h6,h7,h8,h9,h10,h11,h12,fun q=>h13 (u.sub _ _ h14 q),u.keep _ _ h14 h13,h15,h16⟩
theorem FnAt.nx {h:Heap}{X:Addr→Prop}{a:Addr}{p b c}(x:FnAt X h a p b c):¬X a:=by
 obtain ⟨o,fd,c,oc,vs,t,nx,h1,h2,h3,h4,h5,h6,h7,h8,h9,h10,h11,h12,h13,h14,h15,h16⟩:=x
 exact nx
theorem FnAt.here {h:Heap}{X:Addr→Prop}{a:Addr}{p b c}(x:FnAt X h a p b c):∃o fd,h.get? a=some o∧o.cls=.type "function"∧o.data=.func fd:=by
 obtain ⟨o,fd,c,oc,vs,t,nx,h1,h2,h3,h4,h5,h6,h7,h8,h9,h10,h11,h12,h13,h14,h15,h16⟩:=x
 exact⟨o,fd,h1,h2,h3⟩
theorem uM.up {h h':Heap}{X X':Addr→Prop}(u:Up X X' h h')(x:uM X h):uM X' h':=by
 obtain ⟨h1,h2,o,fd,oc,vc,file,tf,flags,tg,inF,text,tt,e1,e2,e3,e4,e5,e6,e7,e8,e9,e10,e11⟩:=x
 exact⟨fun q=>h1 (u.sub _ _ e1 q),fun q=>h2 (u.sub _ _ e4 q),o,fd,oc,vc,file,tf,flags,tg,inF,text,tt,u.keep _ _ e1 h1,e2,e3,u.keep _ _ e4 h2,e5,e6,e7,e8,e9,e10,e11⟩
theorem Base.up {w:gp}{h h':Heap}{X X':Addr→Prop}(u:Up X X' h h')(b:Base w X h):Base w X' h' where
 g:=by obtain ⟨mg,t,hx,h,a,b,c⟩:=b.g;exact⟨mg,t,(qW u hx h).1,(qW u hx h).2,a,b,c⟩
 b:=by obtain ⟨mb,hx,h,r⟩:=b.b;exact⟨mb,(qW u hx h).1,(qW u hx h).2,r⟩
 nolimit:=by obtain ⟨hx,mc,h,r⟩:=b.nolimit;exact⟨(qW u hx h).1,mc,(qW u hx h).2,r⟩
 fns:=fun f x h=>(b.fns f x h).up u
 a0s:=by obtain ⟨K,hk,hi,hx⟩:=b.a0s;exact⟨K,hk,fun a o e=>u.keep _ _ (hi a o e) (hx a o e),fun a o e q=>hx a o e (u.sub _ _ (hi a o e) q)⟩
 bmod:=by obtain ⟨mg,bm,ob,h1,h2,h3⟩:=b.bmod;exact⟨mg,bm,ob,(qW u h1 h3.ns).1,fun q=>h2 (u.sub _ _ h3.obj q),(qW u h1 h3.ns).2,h3.name,h3.ne,u.keep _ _ h3.obj h2,h3.cls,h3.dict,h3.data⟩
 a0K:=b.a0K.up u
 more:=fun s hs=>b.more s fun a o e n=>hs a o (u.keep a o e n) fun q=>n (u.sub a o e q)
 p1:=b.p1.up u
 p2:=b.p2.up u
 p3:=b.p3.up u
theorem Base.pu {w:gp}{s s':aE}{X:Addr→Prop}(hX:X PT)(u:Pu s s')(b:Base w X s.heap):Base w X s'.heap:=b.up (u.up hX)
noncomputable def CF (sc:Scope)(n:Str):Prop:=sc.names.lookup n=some .cell∨sc.names.lookup n=some .free
inductive J1 (w:gp)(h:Heap)(X:Addr→Prop)(env:UI)(ρ:Yx)(n:Str):Prop
 |mk (c:Addr) (v:Option bX) (h1:env.cells.lookup n=some c) (h2:c≠PT) (h3:c≠env.locals) (h4:X c) (h5:h.IsCell c v) (h6:∀d,ρ.lookup n=some d→∃u,v=some u∧Rep w h X d u)
structure Vis (w:gp)(h:Heap)(X:Addr→Prop)(env:UI)(sc:Scope)(ρ:Yx):Prop where
 eqs:env.scope=sc
 kind:sc.kind=.function
 glob:env.globals=mainGlobals
 bi:env.builtins=A2
 neL:env.locals≠PT
 lx:X env.locals
 loc:∃m,h.Ns env.locals m∧∀n d,ρ.lookup n=some d→sc.names.lookup n=some .local→∃v,m n=some v∧Rep w h X d v
 cells:∀n,CF sc n→J1 w h X env ρ n
 inj:∀n n' c,CF sc n→CF sc n'→env.cells.lookup n=some c→env.cells.lookup n'=some c→n=n'
noncomputable def Pl (env:UI)(sc:Scope)(a:Addr):Prop:=a=env.locals∨∃n,CF sc n∧env.cells.lookup n=some a
theorem Vis.plx {w:gp}{h:Heap}{X:Addr→Prop}{env:UI}{sc:Scope}{ρ:Yx}(x:Vis w h X env sc ρ){a:Addr}(q:Pl env sc a):X a∧a≠PT∧∃o,h.get? a=some o:=by
 rcases q with rfl|⟨n,h1,h2⟩
 ·obtain ⟨m,⟨o,_,_,ho,_⟩,_⟩:=x.loc
  exact⟨x.lx,x.neL,o,ho⟩
 ·obtain ⟨c,u,g1,g2,_,g4,⟨o,ho,_⟩,_⟩:=x.cells n h1
  exact aI (g1.symm.trans h2)▸⟨g4,g2,o,ho⟩
theorem Vis.move {w:gp}{h h':Heap}{X X':Addr→Prop}{env:UI}{sc:Scope}{ρ:Yx}(x:Vis w h X env sc ρ)(u:Up X X' h h')(hp:∀a,Pl env sc a→X' a∧∀o,h.get? a=some o→∃sl,h'.get? a=some {o with slots:=sl}):Vis w h' X' env sc ρ where
 eqs:=x.eqs
 kind:=x.kind
 glob:=x.glob
 bi:=x.bi
 neL:=x.neL
 lx:=(hp _ (.inl rfl)).1
 loc:=by
  obtain ⟨m,⟨o,es,ep,e,r⟩,h2⟩:=x.loc
  obtain ⟨sl,e⟩:=(hp _ (.inl rfl)).2 o e
  exact⟨m,⟨_,es,ep,e,r⟩,fun n d e k=>(h2 n d e k).imp fun v hv=>⟨hv.1,hv.2.up u d v⟩⟩
 cells:=fun n hn=>by
  obtain ⟨c,v,h1,h2,h3,h4,⟨o,ho,hd⟩,h5⟩:=x.cells n hn
  obtain ⟨g,k⟩:=hp c (.inr ⟨n,hn,h1⟩)
  obtain ⟨sl,e⟩:=k o ho
  exact⟨c,v,h1,h2,h3,g,⟨_,e,hd⟩,fun d e=>(h5 d e).imp fun y q=>⟨q.1,q.2.up u d y⟩⟩
 inj:=x.inj
theorem Vis.up {w:gp}{h h':Heap}{X X':Addr→Prop}{env:UI}{sc:Scope}{ρ:Yx}(u:Up X X' h h')(hX:∀a,X a→X' a)(k:∀a o,h.get? a=some o→(a=env.locals∨∃n,CF sc n∧env.cells.lookup n=some a)→h'.get? a=some o)
  (x:Vis w h X env sc ρ):Vis w h' X' env sc ρ:=x.move u fun a q=>⟨hX a (x.plx q).1,fun o e=>⟨_,k a o e q⟩⟩
theorem Vis.pu {w:gp}{s s':aE}{X:Addr→Prop}{env:UI}{sc:Scope}{ρ:Yx}(hX:X PT)(u:Pu s s')(x:Vis w s.heap X env sc ρ):Vis w s'.heap X env sc ρ:=
 x.up (u.up hX) (fun Z h=>h) fun a o e q=>u.heap a o e (x.plx q).2.1
structure Cx (w:gp)(k:Nat)(A:Around)(X:Addr→Prop)(env:UI)(sc:Scope)(ρ:Yx)(s:aE):Prop where
 a:Zv k A
 Yz:Z6 X s
 base:Base w X s.heap
 vis:Vis w s.heap X env sc ρ
theorem Cx.pu {w:gp}{k:Nat}{A:Around}{X:Addr→Prop}{env:UI}{sc:Scope}{ρ:Yx}{s s':aE}(u:Pu s s')(x:Cx w k A X env sc ρ s):Cx w k A X env sc ρ s':=
 ⟨x.a,x.Yz.pu u,x.base.pu x.Yz.pt u,x.vis.pu x.Yz.pt u⟩
noncomputable def aV (w:gp)(A:Around)(X:Addr→Prop)(t:UM bX)(d:D)(s:aE):Prop:=∀s',Pu s s'→Ev w A X t d s'
theorem aV.pu {w:gp}{A:Around}{X:Addr→Prop}{t:UM bX}{d:D}{s s':aE}(x:aV w A X t d s)(u:Pu s s'):aV w A X t d s':=fun s'' v=>x s'' (u.trans v)
theorem aV.now {w:gp}{A:Around}{X:Addr→Prop}{t:UM bX}{d:D}{s:aE}(x:aV w A X t d s):Ev w A X t d s:=x s (Pu.refl s)
section
variable {w:gp}{k:Nat}{A:Around}{X:Addr→Prop}{env:UI}{sc:Scope}{ρ:Yx}{s:aE}
theorem Ev.seq {t:UM bX}{a:D}(h:Ev w A X t a s){Q:bX→aE→Prop}{E:bX→aE→Prop}
  (k:∀v s',Pu s s'→Rep w s'.heap X a v→Q v s'):cE (cS PW w) A t Q E s:=h Q E k
theorem Ev.then {Q:bX→aE→Prop}{E:bX→aE→Prop}{t:UM bX}{d:D}{s':aE}(u:Pu s s')(h:Ev w A X t d s')
  (hQ:∀v s'',Pu s s''→Rep w s''.heap X d v→Q v s''):cE (cS PW w) A t Q E s':=h Q E fun v s'' u' r=>hQ v s'' (u.trans u') r
set_option tactic.hygienic true in
theorem bZ (c:Cx w k A X env sc ρ s){x:Str}{pos:UK}{d:D}(hk:sc.names.lookup x=some .globalImplicit)(h:cH x=some d):aV w A X (ku (.Name x pos) env) d s:=by
 intro s' u Q E hQ
 have c':=c.pu u
 have hkf:env.scope.kind=.function:=by rw[c.vis.eqs];exact c.vis.kind
 have hx:env.kindOf x=some .globalImplicit:=by unfold AV;rw[c.vis.eqs];exact hk
 obtain ⟨mg,t,_,hg,g1,g2,g3⟩:=c'.base.g
 obtain ⟨mb,_,hb,b1⟩:=c'.base.b
 rw[←c.vis.glob] at hg
 rw[←c.vis.bi] at hb
 have deb:(x==af "__debug__")=false:=A5.mpr fun q=>YD ((show cH (af "__debug__")=none by kernel_rfl).symm.trans (beq_iff_eq.mp q▸h))
 unfold cH at h
 split at h
 ·rename_i v hv
  obtain rfl:=aI h
  exact sN hkf hx (BG hg (g1 _ (mem_of_lookup hv)) (hQ _ _ (Pu.refl _) cU)) deb
 ·split at h
  ·rename_i hv
   obtain rfl:=aI h
   have e:=beq_iff_eq.mp hv
   subst e
   exact sN hkf hx (BG hg g2 (hQ _ _ (Pu.refl _) eX)) deb
  ·obtain ⟨v,hv,rfl⟩:=iF.mp h
   have hm:=mem_of_lookup hv
   exact sN hkf hx (Calls.loadGlobal_builtin hg (g3 _ hm) hb (b1 _ hm) (hQ _ _ (Pu.refl _) cU)) deb
theorem aK (c:Cx w k A X env sc ρ s){x:Str}{pos:UK}{d:D}(hk:sc.names.lookup x=some .local∨sc.names.lookup x=some .cell∨sc.names.lookup x=some .free)(h:ρ.lookup x=some d)
  (deb:(x==af "__debug__")=false) (ncd:(x==af "__classdict__")=false):aV w A X (ku (.Name x pos) env) d s:=by
 intro s' u Q E hQ
 have c':=c.pu u
 have hkf:env.scope.kind=.function:=by rw[c.vis.eqs];exact c.vis.kind
 have kx:∀y,sc.names.lookup x=y→env.kindOf x=y:=fun y e=>by unfold AV;rw[c.vis.eqs];exact e
 refine A3 ?_ deb
 rcases hk with hk|hk|hk
 ·obtain ⟨m,hn,hm⟩:=c'.vis.loc
  obtain ⟨v,hv,r⟩:=hm _ _ h hk
  exact jS hkf (kx _ hk) hn hv (hQ _ _ (Pu.refl _) r)
 ·obtain ⟨a,v,h1,_,_,_,h2,h3⟩:=c'.vis.cells _ (.inl hk)
  obtain ⟨u,rfl,r⟩:=h3 d h
  exact D9 hkf (kx _ hk) h1 h2 (hQ _ _ (Pu.refl _) r)
 ·obtain ⟨a,v,h1,_,_,_,h2,h3⟩:=c'.vis.cells _ (.inr hk)
  obtain ⟨u,rfl,r⟩:=h3 d h
  exact wpAny_loadName_free hkf (kx _ hk) h1 h2 (hQ _ _ (Pu.refl _) r) ncd
theorem aQ (hX:Z6 X s){l r:PySem.Expr}{op:II}{pos:UK}{a b d:D}{cs:List Prop}(hl:aV w A X (ku l env) a s)(hr:aV w A X (ku r env) b s)
  (h:Cv op a b=some (d,cs)) (hc:AllP cs):aV w A X (ku (.BinOp l op r pos) env) d s:=by
 intro s₀ u₀ Q E hQ
 refine wpAny_BinOp (hl.pu u₀ |>.now _ _ fun v s₁ u₁ ra=>(hr.pu (u₀.trans u₁)).now _ _ fun v' s₂ u₂ rb=>?_)
 have X2:=hX.pu (u₀.trans (u₁.trans u₂))
 exact Ja X2 h hc (ra.up (u₂.up hX.pt) _ _) rb _ _ fun v'' s₃ a2m r3=>hQ _ _ (u₁.trans (u₂.trans a2m)) r3
end
end
section
section
variable {w:gp}{k:Nat}{A:Around}{X:Addr→Prop}{env:UI}{sc:Scope}{ρ:Yx}{s:aE}
mutual
theorem a0D:∀(d:D),a0j d→d.py.canLay0=true
 | .int i,_=>rfl
 | .str x,h=>h
 | .tup l,h=>a06 l h
 | .lst l,h=>a06 l h
 | .none,h=>qs h
 | .bool _,h=>qs h
 | .dct _ _,h=>qs h
 | .val _,h=>qs h
 | .order _,h=>qs h
 | .exc _,h=>qs h
 | .mat _,h=>qs h
theorem a06:∀(l:List D),a0P l→PyData.canLayAll0 (pyL l)=true
 | [],_=>rfl
 |d::l,h=>cy.mpr ⟨a0D d h.1,a06 l h.2⟩
end
mutual
theorem fV {h:Heap}:∀(d:D) (v:bX),a0j d→Rep w h X d v→∃as,Reads h v d.py as
 | .int i,v,_,r=>by obtain ⟨t,rfl⟩:=r;exact⟨_,.int i t⟩
 | .str x,v,_,r=>by obtain ⟨t,rfl⟩:=r;exact⟨_,.str x t⟩
 | .tup l,v,c,r=>by
  obtain ⟨a,vs,rfl,⟨n,ho⟩,hx,hr⟩:=r
  obtain ⟨as,q⟩:=mJ l _ c hr
  exact⟨_,.tuple ho rfl rfl q⟩
 | .lst l,v,c,r=>by
  obtain ⟨a,vs,rfl,⟨n,ho⟩,hx,hr⟩:=r
  obtain ⟨as,q⟩:=mJ l _ c hr
  exact⟨_,.list ho rfl rfl q⟩
 | .none,_,h,_=>qs h
 | .bool _,_,h,_=>qs h
 | .dct _ _,_,h,_=>qs h
 | .val _,_,h,_=>qs h
 | .order _,_,h,_=>qs h
 | .exc _,_,h,_=>qs h
 | .mat _,_,h,_=>qs h
theorem mJ {h:Heap}:∀(l:List D) (vs:List bX),a0P l→aX w h X l vs→∃as,ReadsAll h vs (pyL l) as
 | [],vs,_,r=>by subst r;exact⟨_,.nil⟩
 |d::l,vs,c,r=>by
  obtain ⟨v,t,rfl,hr,hl⟩:=r
  obtain ⟨as,q⟩:=fV d v c.1 hr
  obtain ⟨bs,q'⟩:=mJ l t c.2 hl
  exact⟨_,.cons q q'⟩
end
theorem cG {d:D}(c:a0j d)(h:d.py.depth≤64):LN d.py=true:=by
 unfold LN;rw[a0D d c,Bool.true_and];exact decide_eq_true h
theorem Jq {a b:D}{va vb:bX}(ha:Zv k A)(hc:dO a b)(ra:Rep w s.heap X a va)(rb:Rep w s.heap X b vb):
  Ev w A X (wc .Eq va vb) (.bool (rV a.py b.py)) s:=by
 obtain ⟨c1,c2,d1,d2⟩:=hc
 obtain ⟨as,q1⟩:=fV a va c1 ra
 obtain ⟨bs,q2⟩:=fV b vb c2 rb
 exact .Ze fun Q E q=>eq_dataH q1 q2 (cG c1 d1) (cG c2 d2) (by have:=ha.units;unfold cLine;exact Km this) q
theorem JK {a b:D}{va vb:bX}(ha:Zv k A)(hc:dO a b)(ra:Rep w s.heap X a va)(rb:Rep w s.heap X b vb):
  Ev w A X (wc .NotEq va vb) (.bool (!PyData.eqv a.py b.py)) s:=by
 obtain ⟨c1,c2,d1,d2⟩:=hc
 obtain ⟨as,q1⟩:=fV a va c1 ra
 obtain ⟨bs,q2⟩:=fV b vb c2 rb
 exact .Ze fun Q E q=>ne_dataH q1 q2 (cG c1 d1) (cG c2 d2) (by have:=ha.units;unfold cLine;exact Km this) q
theorem jT (x y:Str):(x.cps.toList==y.cps.toList)=decide (x=y):=by
 rw[OP]
 simp only[beq_iff_eq,decide_eq_true_eq]
 exact⟨fun h=>CC (yv.mp h),fun h=>by rw[h]⟩
theorem pF {kvs:List (Str×bX)}{x:Str}:(GU kvs x).isSome=(kvs.map (fun x=>x.1)).contains x:=by
 unfold GU
 induction kvs with
 |nil=>rfl
 |cons kv l ih=>
  simp only[k6,dc,LO]
  by_cases h:kv.1=x
  ·simp[h]
  ·rw[show decide (kv.1=x)=false from decide_eq_false h]
   simp only[] at ih ⊢
   rw[ih]
   have:(x==kv.1)=false:=by simpa using fun e=>h e.symm
   simp[this]
theorem Jf (ha:Zv k A){a b d:D}{cs:List Prop}{va vb:bX}(h:Gw .Eq a b=some (d,cs))(hc:AllP cs)
  (ra:Rep w s.heap X a va) (rb:Rep w s.heap X b vb):Ev w A X (wc .Eq va vb) d s:=by
 replace h:=bF h;rcases h with h|h
 ·replace h:=cz h;obtain ⟨x,y,rfl,rfl,h⟩:=h
  obtain ⟨rfl,_⟩:=dQ (aI h);obtain ⟨t,rfl⟩:=ra;obtain ⟨u,rfl⟩:=rb
  exact .Ze fun Q E q=>P.eq_int q
 replace h:=bF h;rcases h with h|h
 ·replace h:=jA h;obtain ⟨x,y,rfl,rfl,h⟩:=h
  obtain ⟨rfl,_⟩:=dQ (aI h);obtain ⟨t,rfl⟩:=ra;obtain ⟨u,rfl⟩:=rb
  exact .Ze fun Q E q=>P.eq_str (by rw[jT];exact q)
 ·obtain ⟨rfl,rfl⟩:=dQ (aI h);exact Jq ha hc.1 ra rb
theorem Ji (ha:Zv k A){a b d:D}{cs:List Prop}{va vb:bX}(h:Gw .NotEq a b=some (d,cs))(hc:AllP cs)
  (ra:Rep w s.heap X a va) (rb:Rep w s.heap X b vb):Ev w A X (wc .NotEq va vb) d s:=by
 replace h:=bF h;rcases h with h|h
 ·replace h:=cz h;obtain ⟨x,y,rfl,rfl,h⟩:=h
  obtain ⟨rfl,_⟩:=dQ (aI h);obtain ⟨t,rfl⟩:=ra;obtain ⟨u,rfl⟩:=rb
  exact .Ze fun Q E q=>P.ne_int q
 replace h:=bF h;rcases h with h|h
 ·replace h:=jA h;obtain ⟨x,y,rfl,rfl,h⟩:=h
  obtain ⟨rfl,_⟩:=dQ (aI h);obtain ⟨t,rfl⟩:=ra;obtain ⟨u,rfl⟩:=rb
  exact .Ze fun Q E q=>P.ne_str (by unfold bne;rw[jT];exact q)
 ·obtain ⟨rfl,rfl⟩:=dQ (aI h);exact JK ha hc.1 ra rb
theorem Jh {a b d:D}{cs:List Prop}{va vb:bX}(h:Gw .In a b=some (d,cs))
  (ra:Rep w s.heap X a va) (rb:Rep w s.heap X b vb):Ev w A X (wc .In va vb) d s:=by
 replace h:=bW h;obtain ⟨x,rfl,h⟩:=h
 replace h:=gZ h;obtain ⟨ks,ds,rfl,h⟩:=h
 obtain ⟨rfl,_⟩:=dQ (aI h);obtain ⟨t,rfl⟩:=ra
 obtain ⟨a,kvs,rfl,hd,hs,_,rfl,hr⟩:=rb
 intro Q E hQ
 refine wpAny_in_of (knd:=SK w) (EI PW w _ t) (beq_eq_false_iff_ne.mpr hs) hd.mapOf ?_
 rw[pF]
 exact hQ _ _ (Pu.toks _ _) ie
theorem Jg (ha:Zv k A){op:UD}{a b d:D}{cs:List Prop}{va vb:bX}(h:Gw op a b=some (d,cs))(hc:AllP cs)
  (ra:Rep w s.heap X a va) (rb:Rep w s.heap X b vb):Ev w A X (wc op va vb) d s:=by
 cases op with
 |Eq=>exact Jf ha h hc ra rb
 |NotEq=>exact Ji ha h hc ra rb
 |In=>exact Jh h ra rb
 |Lt=>
  replace h:=cz h;obtain ⟨x,y,rfl,rfl,h⟩:=h
  obtain ⟨rfl,_⟩:=dQ (aI h);obtain ⟨t,rfl⟩:=ra;obtain ⟨u,rfl⟩:=rb
  exact .Ze fun Q E q=>P.lt_int q
 |Gt=>
  replace h:=cz h;obtain ⟨x,y,rfl,rfl,h⟩:=h
  obtain ⟨rfl,_⟩:=dQ (aI h);obtain ⟨t,rfl⟩:=ra;obtain ⟨u,rfl⟩:=rb
  exact .Ze fun Q E q=>P.gt_int q
 |GtE=>
  replace h:=cz h;obtain ⟨x,y,rfl,rfl,h⟩:=h
  obtain ⟨rfl,_⟩:=dQ (aI h);obtain ⟨t,rfl⟩:=ra;obtain ⟨u,rfl⟩:=rb
  exact .Ze fun Q E q=>P.ge_int q
 |_=>exact Fw h
theorem a0x:∀{kvs:List (Str×bX)} {ds:List D} {x:Str},aX w s.heap X ds (kvs.map (fun x=>x.2))→x∈kvs.map (fun x=>x.1)→
  ∃v,GU kvs x=some v∧Rep w s.heap X ((((kvs.map (fun x=>x.1)).zip ds).lookup x).getD .none) v
 | [],ds,x,r,hm=>by simp at hm
 |kv::l,[],x,r,hm=>nomatch (show kv.2::l.map (fun x=>x.2)=[] from r)
 |kv::l,d::ds,x,r,hm=>by
  obtain ⟨v,t,q,hr,hl⟩:=r
  cases (show kv.2::l.map (fun x=>x.2)=v::t from q)
  unfold GU
  simp only[dc,BC,fF,k6]
  by_cases e:kv.1=x
  ·subst e
   simp only[beq_self_eq_true,decide_true,zo,Option.getD_some]
   exact⟨_,rfl,hr⟩
  ·have e':(x==kv.1)=false:=by simpa using fun q=>e q.symm
   rw[decide_eq_false e,e']
   have hm':x∈l.map (fun x=>x.1):=by
    rcases dP.mp hm with q|q
    ·exact absurd q.symm e
    ·exact q
   obtain ⟨v,h1,h2⟩:=a0x hl hm'
   unfold GU at h1
   exact⟨v,h1,h2⟩
theorem gH {i:Int}{n:Nat}(h0:0≤i)(h:i.toNat<n):Lm i n=some i.toNat:=by
 unfold Lm
 have h1:¬i<0:=by exact Vt h0
 simp only[h1,if_false]
 rw[if_pos (by simp;exact Qv h0 h)]
noncomputable def ItemOn (w:gp)(A:Around)(X:Addr→Prop)(o i:bX)(d:D)(s:aE):Prop:=
 ∃T id,IM (.type T) "__getitem__"=AS (some (.builtin id))∧s.TypeIs o T∧Ev w A X (CM o i) d s
theorem O6 {l:List D}{i:Nat}{d:D}(h:l[i]?=some d):∃hlt:i<l.length,l[i]=d:=qa.mp h
theorem jb {l:List D}{i:Int}{d:D}{va vi:bX}{tl:Bool}(hsz:l.length<2 ^ 62)(h0:0≤i)(h:l[i.toNat]?=some d)
  (ra:Rep w s.heap X (if tl then .tup l else .lst l) va) (ri:Rep w s.heap X (.int i) vi):ItemOn w A X va vi d s:=by
 obtain ⟨t,rfl⟩:=ri
 obtain ⟨hlt,_⟩:=qa.mp h
 cases tl with
 |true=>
  obtain ⟨a,vs,rfl,⟨n,ho⟩,hx,hr⟩:=ra
  obtain ⟨v,hv,r⟩:=hr.get h
  have hvs:vs[i.toNat]?=some v:=by simpa using hv
  have hl:=hr.length
  refine⟨"tuple",_,sQ.lookup,⟨_,ho,rfl⟩,fun Q E hQ=>P.getItem_tuple ho ?_ ?_ (gH h0 (by rw[iS] at hl;exact Sw hlt hl)) hvs (hQ _ _ (Pu.refl _) r)⟩
  all_goals (rw[iS] at hl;(first|exact Qn hsz hlt hl|exact V6 h0))
 |false=>
  obtain ⟨a,vs,rfl,⟨n,ho⟩,hx,hr⟩:=ra
  obtain ⟨v,hv,r⟩:=hr.get h
  have hvs:vs[i.toNat]?=some v:=by simpa using hv
  refine⟨"list",_,MC.lookup,⟨_,ho,rfl⟩,fun Q E hQ=>wpAny_getItem_list ⟨_,ho,rfl,_,rfl⟩ h0 ?_ hvs (hQ _ _ (Pu.refl _) r)⟩
  exact QW hsz hlt
theorem eE (hX:Z6 X s){e i:PySem.Expr}{pos:UK}{a b d:D}(he:aV w A X (ku e env) a s)(hi:aV w A X (ku i env) b s)
  (h:∀s' va vb,Pu s s'→Rep w s'.heap X a va→Rep w s'.heap X b vb→ItemOn w A X va vb d s') (hs:∀p o v,C4 i p o v=match p with|true=>Ll (.builtin "lifetime.subscript" ⟨[o,v],[]⟩)|false=>Kn [o,v] (CM o v)) :
  aV w A X (ku (.Subscript e i pos) env) d s:=by
 intro s₀ u₀ Q E hQ
 rw[P7]
 refine ah ((he.pu u₀).now _ _ fun v s₁ u₁ r1=>ah (fT ((hi.pu (u₀.trans u₁)).now _ _ fun v' s₂ u₂ r2=>ah (pV ?_))))
 have X2:=hX.pu (u₀.trans u₁)
 obtain ⟨T,id,hl,hT,hg⟩:=h s₂ v v' (u₀.trans (u₁.trans u₂)) (r1.up (u₂.up hX.pt) _ _) r2
 refine ah ?_
 rw[Iq hT.not_modules]
 refine ah (zv hT hl ?_)
 have fin:cE (cS PW w) A (Kn [v,v'] (CM v v')) (fun r s₃=>cE (cS PW w) A (letTemporaryGo e v r >>= fun Z=>AS r) Q E s₃) E s₂:=
  OQ (hg _ _ fun r s₃ a2m r3=>ah (IU (bg (hQ _ _ (u₁.trans (u₂.trans a2m)) r3))))
 refine bg (ah ?_)
 rw[hs]
 exact fin
end
end
section
structure YF (Z:Addr→Prop)(s s':aE):Prop where
 heap:∀a o,s.heap.get? a=some o→a≠PT→¬Z a→s'.heap.get? a=some o
 tab:(∃vs:Tb,s.heap.get? PT=some (kF vs.1))→∃vs:Tb,s'.heap.get? PT=some (kF vs.1)
 gens:F5 s.gens→F5 s'.gens
 drawn:s'.drawn=s.drawn
 os:s'.os=s.os
section
variable {Z Z':Addr→Prop}{s s' s'':aE}
theorem YF.refl (s:aE):YF Z s s:=⟨fun Y Y e Y Y=>e,id,id,rfl,rfl⟩
theorem YF.trans (x:YF Z s s')(y:YF Z s' s''):YF Z s s'':=
 ⟨fun a o e n z=>y.heap a o (x.heap a o e n z) n z,fun h=>y.tab (x.tab h),fun h=>y.gens (x.gens h),y.drawn.trans x.drawn,y.os.trans x.os⟩
theorem YF.mono (x:YF Z s s')(h:∀a,Z a→Z' a):YF Z' s s':=⟨fun a o e n z=>x.heap a o e n fun q=>z (h a q),x.tab,x.gens,x.drawn,x.os⟩
theorem YF.YB (x:Pu s s'):YF Z s s':=⟨fun a o e n Y=>x.heap a o e n,x.tab,x.gens,x.drawn,x.os⟩
theorem YF.pu {s₀:aE}(u:Pu s₀ s)(x:YF Z s s')(h:∀a o,Z a→s₀.heap.get? a=some o→False):Pu s₀ s':=
 ⟨fun a o e n=>x.heap a o (u.heap a o e n) n fun z=>h a o z e,fun t=>x.tab (u.tab t),fun g=>x.gens (u.gens g),x.drawn.trans u.drawn,x.os.trans u.os⟩
theorem YF.keep {h':Heap}{n:Nat}(k:∀a o,¬Z a→s.heap.get? a=some o→h'.get? a=some o)(hz:¬Z PT):YF Z s {s with heap:=h',toks:=n}:=
 ⟨fun a o e Y z=>k a o z e,fun Z9=>by obtain ⟨vs,e⟩:=Z9;exact⟨vs,k _ _ hz e⟩,id,rfl,rfl⟩
theorem YF.one {a:Addr}{h':Heap}{n:Nat}(hs:AY a s.heap h')(YZ:a≠PT):YF (fun x=>x=a) s {s with heap:=h',toks:=n}:=
 ⟨fun b o e Y z=>hs.extBut b o z e,fun t=>t.imp fun vs e=>hs.extBut _ _ (i7 YZ) e,id,rfl,rfl⟩
theorem YF.up {X:Addr→Prop}(x:YF Z s s')(hX:X PT)(hz:∀a,Z a→X a):Up X X s.heap s'.heap:=
 ⟨fun a o e n=>x.heap a o e (fun q=>n (q▸hX)) fun q=>n (hz a q),fun Y Y Y e=>e⟩
end
structure Itr (w:gp)(A:Around)(X:Addr→Prop)(target:PySem.Expr)(I:Addr)(l:List D)(fp:List Addr)(St:Nat→Heap→Prop):Prop where
 ex:∀i h,St i h→∀a∈fp,∃o,h.get? a=some o
 YZ:PT∉fp
 frame:∀i h h',St i h→Up X X h h'→(∀a∈fp,∀o,h.get? a=some o→h'.get? a=some o)→St i h'
 item:∀i (s:aE) d (Q:bX→aE→Prop) (E:bX→aE→Prop),l[i]?=some d→St i s.heap→Z6 X s→
  (∀v s',YF (fun x=>x∈fp) s s'→Rep w s'.heap X d v→St (i+1) s'.heap→Q v s')→
  cE (cS PW w) A (Ct (.ref I)) (fun r s₁=>∃v,r=some v∧cE (cS PW w) A (sj target (.ref I) v) (fun Y s₂=>Q v s₂) E s₁) E s
 done:∀(s:aE) (Q:aE→Prop) (E:bX→aE→Prop),St l.length s.heap→(∀s',YF (fun x=>x∈fp) s s'→Q s')→
  cE (cS PW w) A (Ct (.ref I)) (fun r s₁=>r=none∧Q s₁) E s
 self:∀i (s:aE) (Q:bX→aE→Prop) (E:bX→aE→Prop),St i s.heap→Q (.ref I) s→cE (cS PW w) A (BQ (.ref I)) Q E s
section
variable {w:gp}{k:Nat}{A:Around}{X X':Addr→Prop}{s:aE}
theorem JM {t:PySem.Expr}(h:bj t=true)(it v:bX):sj t it v=AS ():=by
 cases t<;>cases h
 rfl
theorem Dn (ha:Zv k A){target:PySem.Expr}{I ax:Addr}{vs:Array bX}{l:List D}(hXI:X I)(hI:I≠PT)(hax:¬X ax)
  (ht:bj target=true∨(cY target=true∧∀d∈l,∃m,d=.tup m)) :
  Itr w A X target I l [I] (fun i h=>h.IsListIter I ax i∧h.PlainList ax vs∧aX w h X l vs.toList) where
 ex:=fun i h st a ha=>by cases bS.mp ha;exact by obtain ⟨o,ho,_⟩:=st.1;exact⟨o,ho⟩
 YZ:=by simpa using i7 hI
 frame:=fun i h h' st u hf=>⟨by obtain ⟨o,ho,r⟩:=st.1;exact⟨o,hf I (by simp) _ ho,r⟩,by obtain ⟨n,hn⟩:=st.2.1;exact⟨n,u.keep _ _ hn hax⟩,st.2.2.up u⟩
 item:=fun i s d Q E hd st hx hQ=>by
  obtain ⟨v,hv,r⟩:=st.2.2.get hd
  have hne:ax≠I:=fun e=>hax (e▸hXI)
  refine sF st.1 st.2.1.isList (x:=v) (by simpa using hv) fun h' hit' hs'=>⟨v,rfl,?_⟩
  have pb:YF (fun x=>x∈[I]) s {s with heap:=h'}:=⟨fun a o e Y z=>hs'.extBut a o (by simpa using z) e,fun Z9=>by obtain ⟨vs,e⟩:=Z9;exact⟨vs,hs'.extBut _ _ (i7 hI) e⟩,id,rfl,rfl⟩
  have u:Up X X s.heap h':=pb.up hx.pt (by simp[hXI])
  have fin:Q v {s with heap:=h'}:=hQ v _ pb (r.up u _ _) ⟨hit',by obtain ⟨n,hn⟩:=st.2.1;exact⟨n,u.keep _ _ hn hax⟩,st.2.2.up u⟩
  rcases ht with ht|⟨ht,hm⟩
  ·rw[JM ht];exact bg fin
  ·obtain ⟨m,rfl⟩:=hm d (As hd)
   obtain ⟨a,us,rfl,_⟩:=r
   cases target<;>cases ht
   exact wpAny_letOwnedTupleGo_listiter hit' fin
 done:=fun s Q E st hQ=>by
  refine Cf ha.handled st.1 st.2.1.isList (by have:=st.2.2.length;simp at this ⊢;exact zP this) fun h' he=>⟨rfl,hQ _ ?_⟩
  exact⟨fun a o e Y z=>he a o (by simpa using z) e,fun Z9=>by obtain ⟨vs,e⟩:=Z9;exact⟨vs,he _ _ (i7 hI) e⟩,id,rfl,rfl⟩
 self:=fun i s Q E st hQ=>wpAny_pyIter_listiter st.1 hQ
theorem xq {lo:Int}{n i:Nat}{d:D}(h:(bG lo n)[i]?=some d):i<n∧d=.int (lo+i):=by
 unfold bG at h
 rw[gu] at h
 obtain ⟨j,hj,rfl⟩:=iF.mp h
 obtain ⟨hlt,rfl⟩:=qa.mp hj
 simp at hlt ⊢;exact hlt
theorem zp (ha:Zv k A){target:PySem.Expr}{I:Addr}{lo:Int}{n:Nat}(hXI:X I)(hI:I≠PT)(ht:bj target=true):
  Itr w A X target I (bG lo n) [I] (fun i h=>IsRangeIter h I (lo+(i:Nat)*1) ((n:Int) - (i:Nat)) 1) where
 ex:=fun i h st a ha=>by simp at ha;subst ha;exact⟨_,st⟩
 YZ:=by simpa using i7 hI
 frame:=fun i h h' st u hf=>hf I ay _ st
 item:=fun i s d Q E hd st hx hQ=>by
  obtain ⟨hlt,rfl⟩:=xq hd
  refine wpAny_pyNext_range_item st (by exact V1 hlt) fun h' hit' hs'=>⟨_,rfl,?_⟩
  rw[JM ht]
  refine bg (hQ _ _ ⟨fun a o e Y z=>hs'.extBut a o (by simpa using z) e,fun Z9=>by obtain ⟨vs,e⟩:=Z9;exact⟨vs,hs'.extBut _ _ (i7 hI) e⟩,id,rfl,rfl⟩ ?_ ?_)
  ·rw[SH];exact cI
  ·have e1:lo+((i+1:Nat):Int)*1=lo+(i:Int)*1+1:=by push_cast;exact Sg
   have e2:(n:Int) - ((i+1:Nat):Int)=(n:Int) - (i:Int) - 1:=by push_cast;exact U5
   show IsRangeIter h' I (lo+((i+1:Nat):Int)*1) ((n:Int) - ((i+1:Nat):Int)) 1
   rw[e1,e2];exact hit'
 done:=fun s Q E st hQ=>by
  have hl:(bG lo n).length=n:=by simp[bG]
  rw[hl] at st
  refine wpAny_pyNext_range_end ha.handled st (by exact Vu) fun h' he=>⟨rfl,hQ _ ?_⟩
  exact⟨fun a o e Y z=>he a o (by simpa using z) e,fun Z9=>by obtain ⟨vs,e⟩:=Z9;exact⟨vs,he _ _ (i7 hI) e⟩,id,rfl,rfl⟩
 self:=fun i s Q E st hQ=>wpAny_pyIter_rangeiter st hQ
theorem Dm (ha:Zv k A){target:PySem.Expr}{I a:Addr}{kvs:List (Str×bX)}{ep:Nat}(hXI:X I)(hI:I≠PT)(hax:¬X a)(ht:bj target=true):
  Itr w A X target I ((kvs.map (fun x=>x.1)).map .str) [I] (fun i h=>h.IsKeyIter I a i kvs.length ep∧h.DictAt (SK w) a kvs ep) where
 ex:=fun i h st b hb=>by cases bS.mp hb;exact by obtain ⟨o,ho,_⟩:=st.1;exact⟨o,ho⟩
 YZ:=by simpa using i7 hI
 frame:=fun i h h' st u hf=>⟨by obtain ⟨o,ho,r⟩:=st.1;exact⟨o,hf I (by simp) _ ho,r⟩,by obtain ⟨o,es,ho,r⟩:=st.2;exact⟨o,es,u.keep _ _ ho hax,r⟩⟩
 item:=fun i s d Q E hd st hx hQ=>by
  rw[gu,gu] at hd
  obtain ⟨x,hx1,rfl⟩:=iF.mp hd
  obtain ⟨⟨k,v⟩,hkv,rfl⟩:=iF.mp hx1
  have hne:a≠I:=fun e=>hax (e▸hXI)
  refine wpAny_pyNext_dict_item st.1 st.2 hkv fun key h' hk hit' hs'=>⟨_,rfl,?_⟩
  rw[JM ht]
  obtain ⟨t,rfl⟩:=KV hk
  exact bg (hQ _ _ ⟨fun a o e Y z=>hs'.extBut a o (by simpa using z) e,fun Z9=>by obtain ⟨vs,e⟩:=Z9;exact⟨vs,hs'.extBut _ _ (i7 hI) e⟩,id,rfl,rfl⟩ eX ⟨hit',st.2.extBut hs'.extBut hne⟩)
 done:=fun s Q E st hQ=>by
  refine wpAny_pyNext_dict_end ha.handled (by simpa using st.1) st.2 (by simp) fun h' he=>⟨rfl,hQ _ ?_⟩
  exact⟨fun a o e Y z=>he a o (by simpa using z) e,fun Z9=>by obtain ⟨vs,e⟩:=Z9;exact⟨vs,he _ _ (i7 hI) e⟩,id,rfl,rfl⟩
 self:=fun i s Q E st hQ=>wpAny_pyIter_keyiter st.1 hQ
end
end
section
section
variable {w:gp}{k:Nat}{A:Around}{X X':Addr→Prop}{env:UI}{sc:Scope}{ρ:Yx}{s:aE}
theorem zN {h h':Heap}{a:Addr}{m}(hn:h.Ns a m)(e:∀o,h.get? a=some o→h'.get? a=some o):h'.Ns a m:=
 by obtain ⟨o,es,ep,ho,r⟩:=hn;exact⟨o,es,ep,e _ ho,r⟩
theorem il (hx:Z6 X s)(v:Vis w s.heap X env sc ρ){x:Str}{d:D}{u:bX}{M:TM}{E:bX→aE→Prop}{Q:Unit→aE→Prop}
  (hk:LC sc x) (r:Rep w s.heap X d u)
  (hQ:∀s' p,YF (fun x=>x=p) s s'→((sc.names.lookup x=some .local∧p=env.locals)∨(sc.names.lookup x=some .cell∧env.cells.lookup x=some p))→X p→Vis w s'.heap X env sc ((x,d)::ρ)→Z6 X s'→Q () s') :
  cE M A (Of env x u) Q E s:=by
 have kx:∀y,sc.names.lookup x=y→env.kindOf x=y:=fun y e=>by unfold AV;rw[v.eqs];exact e
 have hkf:env.scope.kind=.function:=by rw[v.eqs];exact v.kind
 rcases hk with hk|hk
 ·obtain ⟨m,hn,hm⟩:=v.loc
  refine wpAny_storeName_local (kx _ hk) hn (fun h' hn' hs=>?_) (by exact hkf▸rfl)
  have pb:YF (fun x=>x=env.locals) s {s with heap:=h',toks:=s.toks+1}:=.keep (fun a o z e=>hs.extBut a o z e) (i7 v.neL)
  have up:Up X X s.heap h':=pb.up hx.pt fun a e=>e▸v.lx
  refine hQ _ _ pb (.inl ⟨hk,rfl⟩) v.lx ?_ ?_
  ·refine⟨v.eqs,v.kind,v.glob,v.bi,v.neL,v.lx,⟨_,hn',fun n d' e kn=>?_⟩,fun n hn2=>?_,v.inj⟩
   ·rw[fF] at e
    by_cases q:n=x
    ·subst q
     simp only[beq_self_eq_true] at e
     obtain rfl:=aI e
     exact⟨u,by simp,r.up up _ _⟩
    ·rw[show(n==x)=false from by simpa using q] at e
     obtain ⟨y,hy,ry⟩:=hm n d' e kn
     exact⟨y,by simp[q,hy],ry.up up _ _⟩
   ·obtain ⟨c,y,h1,h2,h3,h4,⟨o,ho,hd⟩,h5⟩:=v.cells n hn2
    refine⟨c,y,h1,h2,h3,h4,⟨o,hs.extBut _ _ h3 ho,hd⟩,fun d' e=>?_⟩
    rw[fF] at e
    by_cases q:n=x
    ·subst q;rcases hn2 with q|q<;>rw[hk] at q<;>cases q
    ·rw[show(n==x)=false from by simpa using q] at e
     obtain ⟨z,e',rz⟩:=h5 d' e
     exact⟨z,e',rz.up up _ _⟩
  ·refine⟨hx.pt,pb.tab hx.tab,fun a ha=>?_⟩
   by_cases q:a=env.locals
   ·subst q;obtain ⟨o,_,_,ho,_⟩:=hn';exact⟨o,ho⟩
   ·obtain ⟨o,ho⟩:=hx.lt a ha;exact⟨o,hs.extBut _ _ q ho⟩
 ·obtain ⟨c,y,h1,h2,h3,h4,hc,h5⟩:=v.cells x (.inl hk)
  refine wpAny_storeName_cell hkf (kx _ hk) h1 hc fun h' hc' hs=>?_
  have pb:YF (fun x=>x=c) s {s with heap:=h'}:=⟨fun a o e Z z=>hs.extBut a o z e,fun Z9=>by obtain ⟨vs,e⟩:=Z9;exact⟨vs,hs.extBut _ _ (i7 h2) e⟩,id,rfl,rfl⟩
  have up:Up X X s.heap h':=pb.up hx.pt fun a e=>e▸h4
  refine hQ _ _ pb (.inr ⟨hk,h1⟩) h4 ?_ ?_
  ·refine⟨v.eqs,v.kind,v.glob,v.bi,v.neL,v.lx,?_,fun n hn2=>?_,v.inj⟩
   ·obtain ⟨m,hn,hm⟩:=v.loc
    refine⟨m,zN hn fun o e=>hs.extBut _ _ (i7 h3) e,fun n d' e kn=>?_⟩
    rw[fF] at e
    by_cases q:n=x
    ·subst q;rw[hk] at kn;cases kn
    ·rw[show(n==x)=false from by simpa using q] at e
     obtain ⟨z,hz,rz⟩:=hm n d' e kn
     exact⟨z,hz,rz.up up _ _⟩
   ·by_cases q:n=x
    ·subst q
     refine⟨c,some u,h1,h2,h3,h4,hc',fun d' e=>?_⟩
     simp only[fF,beq_self_eq_true] at e
     obtain rfl:=aI e
     exact⟨u,rfl,r.up up _ _⟩
    ·obtain ⟨c',y',g1,g2,g3,g4,⟨o,ho,hd⟩,g5⟩:=v.cells n hn2
     have hcc:c'≠c:=fun e=>q (v.inj n x c hn2 (.inl hk) (e▸g1) h1)
     refine⟨c',y',g1,g2,g3,g4,⟨o,hs.extBut _ _ hcc ho,hd⟩,fun d' e=>?_⟩
     rw[fF,show(n==x)=false from by simpa using q] at e
     obtain ⟨z,e',rz⟩:=g5 d' e
     exact⟨z,e',rz.up up _ _⟩
  ·refine⟨hx.pt,pb.tab hx.tab,fun a ha=>?_⟩
   by_cases q:a=c
   ·subst q;obtain ⟨o,ho,_⟩:=hc';exact⟨o,ho⟩
   ·obtain ⟨o,ho⟩:=hx.lt a ha;exact⟨o,hs.extBut _ _ q ho⟩
noncomputable def mX (env:UI)(sc:Scope)(ns:List Str)(p:Addr):Prop:=
 ∃x∈ns,(sc.names.lookup x=some .local∧p=env.locals)∨(sc.names.lookup x=some .cell∧env.cells.lookup x=some p)
theorem iW (ha:Zv k A)(hx:Z6 X s)(v:Vis w s.heap X env sc ρ){t:PySem.Expr}{d:D}{u:bX}{E:bX→aE→Prop}{Q:Unit→aE→Prop}{ρ':Yx}
  (hb:cZ t d ρ=some ρ') (hk:bw sc (ak t)) (r:Rep w s.heap X d u)
  (hQ:∀s',YF (mX env sc (ak t)) s s'→Vis w s'.heap X env sc ρ'→Z6 X s'→Q () s') :
  cE (cS PW w) A (z0 t env u) Q E s:=by
 replace hb:=lG hb
 rcases hb with ⟨x,px⟩|⟨x,px,y,py,kk,pt,a,b⟩
 ·exact kX (il hx v (hk x ay) r fun s' p pb hp Z v' x'=>hQ s' (pb.mono fun a e=>⟨x,ay,e▸hp⟩) v' x')
 ·obtain ⟨T,vs,rfl,⟨n,hT⟩,hTx,hr⟩:=r
  obtain ⟨va,t1,e1,ra,vb,t2,e2,rb,rfl⟩:=hr
  subst e2
  have evs:vs=#[va,vb]:=by apply AU;simpa using e1
  subst evs
  refine LS ha.handled ⟨_,hT,rfl,_,rfl⟩ (by rfl) (by rfl) fun h' he=>?_
  have p0:Pu s {s with heap:=h'}:=⟨fun a o e Z=>he a o (fun q=>by rw[q] at e;exact iE _ (eK e)) e,fun Z9=>by obtain ⟨vs,e⟩:=Z9;exact⟨vs,he _ _ (fun q=>by rw[q] at e;exact iE _ (eK e)) e⟩,id,rfl,rfl⟩
  have x0:=hx.pu p0
  have v0:=v.pu hx.pt p0
  have ra0:=ra.up (p0.up hx.pt) _ _
  have rb0:=rb.up (p0.up hx.pt) _ _
  show cE (cS PW w) A (LA [z0 (.Name x px) env,z0 (.Name y py) env] [va,vb]) Q E _
  refine ah (fT (kX (il x0 v0 (hk x ay) ra0 fun s1 p1 ZG hp1 hX1 v1 x1=>?_)))
  refine ah (fT (kX (il x1 v1 (hk y (bE _ ay)) (rb0.up (ZG.up hx.pt fun a e=>e▸hX1) _ _) fun s2 p2 Zc hp2 hX2 v2 x2=>?_)))
  refine bg (hQ s2 ?_ v2 x2)
  exact(YF.YB p0).trans ((ZG.mono fun a e=>⟨x,ay,e▸hp1⟩).trans (Zc.mono fun a e=>⟨y,bE _ ay,e▸hp2⟩))
end
end
section
noncomputable def dG (cells:List (Str×Addr)):List (Str×NameKind)→List (Str×Addr)→List (Str×Addr)
 | [],acc=>acc
 |(n,k)::r,acc=>dG cells r (if k==.free then(match cells.lookup n with|some c=>(n,c)::acc|none=>acc) else acc)
theorem iZ {scope:Scope}{env:UI}(h:∀n,(n,CE)∈scope.names→(env.cells.lookup n).isSome=true):PG scope env=AS (dG env.cells scope.names []):=by
 have key:∀(names:List (Str×NameKind)) (acc:List (Str×Addr)),(∀n,(n,CE)∈names→(env.cells.lookup n).isSome=true)→
   (TN names acc fun(x:Str×NameKind) (r:List (Str×Addr))=>if(x.2==CE)=true then cellOf env x.1 >>= fun y=>AS (D6 ((x.1,y)::r)) else AS (D6 r))=(AS (dG env.cells names acc):UM _):=by
  intro names
  induction names with
  |nil=>exact fun acc Z=>rfl
  |cons p r ih=>
   intro acc hn
   have hr:=fun m hm=>hn m (bE _ hm)
   rw[kK]
   by_cases q:(p.2==CE)=true
   ·obtain ⟨c,hc⟩:=qE.mp (hn p.1 ((beq_iff_eq.mp q:p.2=_)▸ay))
    have e:cellOf env p.1=AS c:=by unfold cellOf;rw[hc]
    rw[if_pos q,e,show dG env.cells (p::r) acc=dG env.cells r ((p.1,c)::acc) from congrArg (dG env.cells r) ((if_pos q).trans (by rw[hc]))]
    exact ih _ hr
   ·rw[if_neg q,show dG env.cells (p::r) acc=dG env.cells r acc from congrArg (dG env.cells r) (if_neg q)]
    exact ih _ hr
 exact congrArg (fun t:UM (List (Str×Addr))=>t >>= fun r=>AS r) (key scope.names [] h)
theorem Bv {α:Type}{l:List (Str×α)}{x:Str}(h:x∉l.map (fun x=>x.1)):l.lookup x=none:=FI.mpr fun p hp=>bne_iff_ne.mpr fun e=>h (eg.mpr ⟨p,hp,e.symm⟩)
theorem iz {α:Type}{l:List (Str×α)}{x:Str}{k:α}(hn:(l.map (fun x=>x.1)).Nodup)(h:(x,k)∈l):l.lookup x=some k:=by
 induction h with
 |head as=>exact List.lookup_cons_self
 |tail b h ih=>
  obtain ⟨n,k'⟩:=b
  have hn:=ja.mp hn
  rw[fF,show(x==n)=false from beq_eq_false_iff_ne.mpr fun e=>hn.1 (eg.mpr ⟨_,h,e⟩)]
  exact ih hn.2
theorem ue {α:Type}{f:Str→α→α}{x:Str}{l:List (Str×α)}:(l.map fun p=>(p.1,f p.1 p.2)).lookup x=(l.lookup x).map (f x):=by
 induction l with
 |nil=>rfl
 |cons p r ih=>
  rw[dc,fF,fF]
  cases hb:x==p.1 with
  |true=>rw[←beq_iff_eq.mp hb];rfl
  |false=>exact ih
theorem n8 {α:Type}{P:Str→Bool}{x:Str}(hP:P x=true){l:List (Str×α)}:(l.filter fun p=>P p.1).lookup x=l.lookup x:=by
 induction l with
 |nil=>rfl
 |cons p r ih=>
  rw[t9,fF]
  cases hb:x==p.1 with
  |true=>rw[←beq_iff_eq.mp hb,if_pos hP,fF,hb]
  |false=>
   split
   ·rw[fF,hb];exact ih
   ·exact ih
theorem zK {α:Type}{l:List (Str×α)}{f:Str→Option α}(h:∀p∈l,f p.1=some p.2){x:Str}{c:α}(hx:(x,c)∈l):l.lookup x=some c:=by
 cases e:l.lookup x with
 |none=>exact noB ((bne_self_eq_false x).symm.trans (FI.mp e _ hx))
 |some d=>exact(h _ (mem_of_lookup e)).symm.trans (h _ hx)
theorem yq {cells:List (Str×Addr)}{names:List (Str×NameKind)}:∀{acc:List (Str×Addr)},(∀p∈acc,cells.lookup p.1=some p.2)→∀p∈dG cells names acc,cells.lookup p.1=some p.2:=by
 induction names with
 |nil=>exact fun h=>h
 |cons p r ih=>
  refine fun h=>ih ?_
  split
  ·split
   ·exact fE.mpr ⟨by assumption,h⟩
   ·exact h
  ·exact h
theorem yr {cells:List (Str×Addr)}{x:Str}{c:Addr}(hc:cells.lookup x=some c){names:List (Str×NameKind)}:∀{acc:List (Str×Addr)},(x,CE)∈names∨(x,c)∈acc→(x,c)∈dG cells names acc:=by
 induction names with
 |nil=>exact fun h=>h.resolve_left eu
 |cons p r ih=>
  intro acc h
  refine ih (h.elim (fun q=>(dP.mp q).elim (fun q=>.inr ?_) .inl) fun q=>.inr ?_)
  ·subst q;show _∈(match cells.lookup x with|some c=>(x,c)::acc|none=>acc);rw[hc];exact ay
  ·split
   ·split
    ·exact bE _ q
    ·exact q
   ·exact q
theorem ql {names:List (Str×NameKind)}:∀{n:Nat} {acc:List (Str×Addr)},zl n names acc=zl n names []++acc:=by
 induction names with
 |nil=>exact rfl
 |cons p r ih=>
  intro n acc
  show(if _ then _ else _)=(if _ then _ else _)++acc
  split
  ·rw[ih,ih (acc:=[_]),ko];rfl
  ·exact ih
theorem ym {names:List (Str×NameKind)}:∀{n:Nat} {acc:List (Str×Addr)} {p:Str×Addr},p∈zl n names acc→(p.1,RE)∈names∨p∈acc:=by
 induction names with
 |nil=>exact fun h=>.inr h
 |cons q r ih=>
  intro n acc p h
  replace h:p∈(if _ then _ else _):=h
  split at h
  ·rename_i hk
   refine(ih h).elim (fun h=>.inl (bE _ h)) fun h=>(dP.mp h).elim (fun e=>.inl ?_) .inr
   subst e;exact beq_iff_eq.mp hk▸ay
  ·exact(ih h).imp (bE _) id
theorem uX (names:List (Str×NameKind))(h:Heap):CellsOk (RS h names) h.objs.size (zl h.objs.size names []):=cellsFrom_ok names h _ [] ⟨fun Z Z h=>(nomatch h),.nil⟩ (gz _)
theorem ww (names:List (Str×NameKind))(h:Heap)(acc:List (Str×Addr))(hn:(names.map (fun x=>x.1)).Nodup)(x:Str):
  (names.lookup x=some .cell→∃c,(zl h.objs.size names acc).lookup x=some c∧h.objs.size≤c∧(RS h names).IsCell c none)∧
  (names.lookup x≠some .cell→(zl h.objs.size names acc).lookup x=acc.lookup x):=by
 rw[ql,LU]
 cases e:(zl h.objs.size names []).lookup x with
 |none=>exact⟨fun k=>noB ((congrArg LB e).symm.trans (E7 names _ [] (.inl k))),fun Z=>rfl⟩
 |some c=>
  have m:=mem_of_lookup e
  have q:=(uX names h).empty x c m
  exact⟨fun Z=>⟨c,rfl,q.2,q.1⟩,fun k=>absurd (iz hn ((ym m).resolve_right eu)) k⟩
theorem cells_apart (names:List (Str×NameKind))(h:Heap)(acc:List (Str×Addr))(hn:(names.map (fun x=>x.1)).Nodup)(x y:Str)(c:Addr)(hxy:x≠y)(hx:names.lookup x=some .cell)(hy:names.lookup y=some .cell)
  (e1:(zl h.objs.size names acc).lookup x=some c) (e2:(zl h.objs.size names acc).lookup y=some c):False:=by
 have own:∀{x},names.lookup x=some .cell→(zl h.objs.size names acc).lookup x=some c→(x,c)∈zl h.objs.size names []:=fun {x} k e=>by
  rw[ql,LU] at e
  obtain ⟨d,hd⟩:=qE.mp (E7 names h.objs.size [] (.inl k))
  rw[hd] at e
  exact mem_of_lookup (hd.trans e)
 exact hxy (name_of_addr (uX names h).apart (own hx e1) (own hy e2))
noncomputable def HX (sc:Scope)(n:Str)(k:NameKind):NameKind:=if(k==.free&&sc.kind==.function&&sc.names.lookup n==some .cell)=true then .cell else k
theorem eV {scope sc:Scope}{x:Str}:(aG scope sc).names.lookup x=(scope.names.lookup x).map (HX sc x):=by
 have e:(aG scope sc).names=scope.names.map fun p=>(p.1,HX sc p.1 p.2):=mT fun p Z=>(apply_ite (M0 p.1) _ RE p.2).symm
 rw[e];exact ue
theorem HY {sc:Scope}{x:Str}{y:NameKind}:(HX sc x y=.cell∨HX sc x y=.free)↔(y=.cell∨y=.free):=by
 unfold HX
 split
 ·rename_i h
  exact⟨fun Z=>.inr (beq_iff_eq.mp (cy.mp (cy.mp h).1).1),fun Z=>.inl rfl⟩
 ·exact UA
section
variable {w:gp}{k:Nat}{A:Around}{X X':Addr→Prop}{env:UI}{sc:Scope}{ρ:Yx}{s:aE}
theorem xr (v:Vis w s.heap X env sc ρ)(scope:Scope):F6 scope env=aG scope sc:=by
 unfold F6 aG AV
 rw[v.eqs]
theorem I2 {sc:Scope}{x:Str}{y:NameKind}(hy:y≠.free):HX sc x y=y:=if_neg fun h=>hy (beq_iff_eq.mp (cy.mp (cy.mp h).1).1)
theorem du {scope:Scope}{x:Str}{y:NameKind}(h:scope.names.lookup x=some y)(hy:y≠.free):(aG scope sc).names.lookup x=some y:=by
 rw[eV,h];exact congrArg some (I2 hy)
theorem fc {scope:Scope}{x:Str}:CF (aG scope sc) x↔CF scope x:=by
 unfold CF
 rw[eV]
 cases scope.names.lookup x with
 |none=>exact UA
 |some y=>
  exact(or_congr D7 D7).trans (HY.trans (or_congr D7 D7).symm)
theorem pH {scope:Scope}{x:Str}(h:(aG scope sc).names.lookup x=some .local):scope.names.lookup x=some .local:=by
 rw[eV] at h
 obtain ⟨y,hy,e⟩:=iF.mp h
 unfold HX at e
 split at e
 ·cases e
 ·exact e▸hy
theorem cA {scope:Scope}{x:Str}{d:D}(h:(inner scope ρ).lookup x=some d):ρ.lookup x=some d∧scope.names.lookup x≠some .local∧scope.names.lookup x≠some .cell:=by
 have q:=(sD.mp (mem_of_lookup h)).2
 have q2:=w9.mp ((l6 _).mp q)
 exact⟨(n8 (P:=fun n=>!(scope.names.lookup n==some .local||scope.names.lookup n==some .cell)) q).symm.trans h,beq_eq_false_iff_ne.mp q2.1,beq_eq_false_iff_ne.mp q2.2⟩
end
end
section
section
variable {w:gp}{k:Nat}{A:Around}{X X':Addr→Prop}{env:UI}{sc:Scope}{ρ:Yx}{s:aE}
noncomputable def EvB (w:gp)(A:Around)(t:UM Bool)(b:Bool)(s:aE):Prop:=
 ∀(Q:Bool→aE→Prop) (E:bX→aE→Prop),(∀s',Pu s s'→Q b s')→cE (cS PW w) A t Q E s
noncomputable def fM (w:gp)(A:Around)(t:UM Bool)(b:Bool)(s:aE):Prop:=∀s',Pu s s'→EvB w A t b s'
theorem fM.pu {t:UM Bool}{b:Bool}{s s':aE}(x:fM w A t b s)(u:Pu s s'):fM w A t b s':=fun s'' v=>x s'' (u.trans v)
noncomputable def bI (ifs:List PySem.Expr)(ok:Bool)(env:UI):UM Bool:=
 TN ifs ok fun c r=>if r=true then do let ok←isTrue c env (ku c env);AS (D6 ok) else AS (D6 r)
theorem uI (ifs:List PySem.Expr)(env:UI):fM w A (bI ifs false env) false s:=by
 induction ifs with
 |nil=>intro s' u Q E hQ;exact bg (hQ _ (Pu.refl _))
 |cons c r ih=>
  intro s' u Q E hQ
  unfold bI
  rw[kK]
  simp only[fh,if_false]
  exact ah (bg (ih s' u Q E hQ))
theorem aW (env:UI):fM w A (bI [] true env) true s:=fun s' u Q E hQ=>bg (hQ _ (Pu.refl _))
theorem cD {c:PySem.Expr}{r:List PySem.Expr}{env:UI}{a b:Bool}(hc:fM w A (isTrue c env (ku c env)) a s)(hr:fM w A (bI r true env) b s):fM w A (bI (c::r) true env) (a&&b) s:=by
 intro s' u Q E hQ
 unfold bI
 rw[kK]
 simp only[if_true]
 refine ah (ah ((hc s' u) _ _ fun s1 u1=>bg ?_))
 cases a with
 |false=>exact(uI r env) s1 (Pu.refl _) _ _ fun s2 u2=>hQ s2 (u1.trans u2)
 |true=>exact hr s1 (u.trans u1) _ _ fun s2 u2=>hQ s2 (u1.trans u2)
end
end
section
structure Z1 (Z:Addr→Prop)(fr:List Addr)(s s':aE):Prop where
 heap:∀a o,s.heap.get? a=some o→a≠PT→¬Z a→s'.heap.get? a=some o∨(a∈fr∧∃sl,s'.heap.get? a=some {o with slots:=sl})
 tab:(∃vs:Tb,s.heap.get? PT=some (kF vs.1))→∃vs:Tb,s'.heap.get? PT=some (kF vs.1)
 gens:F5 s.gens→F5 s'.gens
 drawn:s'.drawn=s.drawn
 os:s'.os=s.os
section
variable {s s' s'':aE}{h h':Heap}{X X' Z Z':Addr→Prop}{fr fr':List Addr}
theorem YF.a0I {s₀:aE}(u:Pu s₀ s)(x:YF (fun a=>Z a∨Z' a) s s')(h:∀a o,Z' a→s₀.heap.get? a=some o→False):YF Z s₀ s':=
 ⟨fun a o e n z=>x.heap a o (u.heap a o e n) n fun q=>q.elim z fun q=>h a o q e,fun t=>x.tab (u.tab t),fun g=>x.gens (u.gens g),x.drawn.trans u.drawn,x.os.trans u.os⟩
theorem Z1.YJ (x:YF Z s s'):Z1 Z fr s s':=⟨fun a o e n z=>.inl (x.heap a o e n z),x.tab,x.gens,x.drawn,x.os⟩
theorem Z1.pub (x:Z1 Z [] s s'):YF Z s s':=⟨fun a o e n z=>(x.heap a o e n z).elim id fun q=>(nomatch q.1),x.tab,x.gens,x.drawn,x.os⟩
theorem Z1.YB (x:Pu s s'):Z1 Z fr s s':=.YJ (.YB x)
theorem Z1.refl (s:aE):Z1 Z fr s s:=.YJ (.refl s)
theorem Z1.trans (x:Z1 Z fr s s')(y:Z1 Z fr s' s''):Z1 Z fr s s'':=
 ⟨fun a o e n z=>by
  rcases x.heap a o e n z with q|⟨m,sl,q⟩
  ·exact y.heap a o q n z
  ·rcases y.heap a _ q n z with r|⟨_,sl',r⟩
   ·exact .inr ⟨m,sl,r⟩
   ·exact .inr ⟨m,sl',r⟩,fun h=>y.tab (x.tab h),fun h=>y.gens (x.gens h),y.drawn.trans x.drawn,y.os.trans x.os⟩
theorem Z1.mono (x:Z1 Z fr s s')(hz:∀a,Z a→Z' a)(hf:∀a∈fr,a∈fr'):Z1 Z' fr' s s':=⟨fun a o e n z=>(x.heap a o e n fun q=>z (hz a q)).imp id fun q=>⟨hf a q.1,q.2⟩,x.tab,x.gens,x.drawn,x.os⟩
theorem Z1.up (x:Z1 Z fr s s')(hX:X PT)(hz:∀a,Z a→X a)(hf:∀a∈fr,X a):Up X X s.heap s'.heap:=
 ⟨fun a o e n=>(x.heap a o e (fun q=>n (q▸hX)) fun q=>n (hz a q)).elim id fun q=>absurd (hf a q.1) n,fun Y Y Y e=>e⟩
theorem Z1.ex (x:Z1 Z fr s s'){a:Addr}(ha:∃o,s.heap.get? a=some o)(ht:∃vs:Tb,s.heap.get? PT=some (kF vs.1))(hz:Z a→∃o,s'.heap.get? a=some o):∃o,s'.heap.get? a=some o:=by
 by_cases q:a=PT
 ·exact q▸(x.tab ht).elim fun Y e=>⟨_,e⟩
 ·by_cases z:Z a
  ·exact hz z
  ·exact ha.elim fun o ho=>(x.heap a o ho q z).elim (fun e=>⟨_,e⟩) fun e=>e.2.elim fun Y e=>⟨_,e⟩
theorem Z1.a0I {s₀:aE}(u:Pu s₀ s)(x:Z1 (fun a=>Z a∨Z' a) fr s s')(h:∀a o,Z' a→s₀.heap.get? a=some o→False):Z1 Z fr s₀ s':=
 ⟨fun a o e n z=>x.heap a o (u.heap a o e n) n fun q=>q.elim z fun q=>h a o q e,fun t=>x.tab (u.tab t),fun g=>x.gens (u.gens g),x.drawn.trans u.drawn,x.os.trans u.os⟩
end
noncomputable def Sub (ρ' ρ:Yx):Prop:=∀n d,ρ'.lookup n=some d→ρ.lookup n=some d
theorem Sub.refl {ρ:Yx}:Sub ρ ρ:=fun Z Z h=>h
section
variable {w:gp}{k:Nat}{A:Around}{X X':Addr→Prop}{env:UI}{sc:Scope}{ρ ρ':Yx}{s s':aE}{h h':Heap}
theorem Vis.sub (v:Vis w h X env sc ρ')(hs:Sub ρ ρ'):Vis w h X env sc ρ:=
 ⟨v.eqs,v.kind,v.glob,v.bi,v.neL,v.lx,by obtain ⟨m,h1,h2⟩:=v.loc;exact⟨m,h1,fun n d e k=>h2 n d (hs n d e) k⟩,
  fun n hn=>by obtain ⟨c,y,h1,h2,h3,h4,h5,h6⟩:=v.cells n hn;exact⟨c,y,h1,h2,h3,h4,h5,fun d e=>h6 d (hs n d e)⟩,v.inj⟩
theorem Cx.sub (cx:Cx w k A X env sc ρ s)(h:Sub ρ' ρ):Cx w k A X env sc ρ' s:=⟨cx.a,cx.Yz,cx.base,cx.vis.sub h⟩
noncomputable def Own (env:UI)(sc:Scope)(a:Addr):Prop:=a=env.locals∨∃n,sc.names.lookup n=some .cell∧env.cells.lookup n=some a
theorem Own.pl {a:Addr}(h:Own env sc a):Pl env sc a:=h.imp id fun q=>q.imp fun n h=>⟨.inl h.1,h.2⟩
theorem mX.own {ns:List Str}{a:Addr}(h:mX env sc ns a):Own env sc a:=by
 obtain ⟨x,_,h|h⟩:=h
 ·exact .inl h.2
 ·exact .inr ⟨x,h⟩
theorem rn (v:Vis w s.heap X env sc ρ){a:Addr}(h:Own env sc a):X a∧∃o,s.heap.get? a=some o:=⟨(v.plx h.pl).1,(v.plx h.pl).2.2⟩
inductive cB (w:gp)(h:Heap)(X:Addr→Prop)(a:Addr)(d:D):Prop
 |lst (l:List D) (vs:Array bX) (e:d=.lst l) (o:h.PlainList a vs) (r:aX w h X l vs.toList)
 |dct (ks:List Str) (ds:List D) (kvs:List (Str×bX)) (e:d=.dct ks ds) (o:h.DictOf (SK w) a kvs) (k:kvs.map (fun x=>x.1)=ks) (r:aX w h X ds (kvs.map (fun x=>x.2)))
theorem cB.l {a:Addr}{l:List D}(m:cB w h X a (.lst l)):∃vs,h.PlainList a vs∧aX w h X l vs.toList:=by
 cases m with
 |lst l' vs e o r=>exact⟨vs,o,D.lst.inj e▸r⟩
 |dct ks ds kvs e o k r=>exact(nomatch e)
theorem cB.d {a:Addr}{ks:List Str}{ds:List D}(m:cB w h X a (.dct ks ds)):∃kvs,h.DictOf (SK w) a kvs∧kvs.map (fun x=>x.1)=ks∧aX w h X ds (kvs.map (fun x=>x.2)):=by
 cases m with
 |lst l' vs e o r=>exact(nomatch e)
 |dct ks' ds' kvs e o k r=>exact⟨kvs,o,k.trans (D.dct.inj e).1.symm,(D.dct.inj e).2▸r⟩
theorem cB.ex {a:Addr}{d:D}(m:cB w h X a d):∃o,h.get? a=some o:=by
 cases m with
 |lst l vs e o r=>exact o.elim fun n ho=>⟨_,ho⟩
 |dct ks ds kvs e o k r=>exact(Heap.dictOf_iff.mp o).imp fun o h=>h.1
theorem cB.up {a:Addr}(u:Up X X' h h')(ka:∀o,h.get? a=some o→h'.get? a=some o){d:D}(m:cB w h X a d):cB w h' X' a d:=by
 cases m with
 |lst l vs e o r=>exact .lst l vs e (o.at ka) (r.up u)
 |dct ks ds kvs e o k r=>exact .dct ks ds kvs e (o.at ka) k (r.up u)
theorem cB.rep {a:Addr}(hs:a≠sysModules)(u:Up X X' h h)(hx:¬X' a){d:D}(m:cB w h X a d):Rep w h X' d (.ref a):=by
 cases m with
 |lst l vs e o r=>exact e▸(⟨a,vs,rfl,o,hx,r.up u⟩:Rep w h X' (.lst l) (.ref a))
 |dct ks ds kvs e o k r=>exact e▸(⟨a,kvs,rfl,o,hs,hx,k,r.up u⟩:Rep w h X' (.dct ks ds) (.ref a))
noncomputable abbrev YX:=List (Addr×D)
structure oJ (w:gp)(h:Heap)(X:Addr→Prop)(env:UI)(sc:Scope)(μ:YX):Prop where
 at_:∀p∈μ,cB w h X p.1 p.2
 x:∀p∈μ,X p.1
 big:∀p∈μ,61<p.1
 away:∀p∈μ,¬Pl env sc p.1
 nodup:(μ.map (fun x=>x.1)).Nodup
theorem oJ.nil:oJ w h X env sc []:=⟨fun Z h=>(nomatch h),fun Z h=>(nomatch h),fun Z h=>(nomatch h),fun Z h=>(nomatch h),JO⟩
theorem oJ.YZ {μ:YX}(m:oJ w h X env sc μ){p:Addr×D}(hp:p∈μ):p.1≠PT:=fun q=>by have:=m.big p hp;rw[q] at this;exact absurd this (by decide)
theorem oJ.a3R {μ:YX}(m:oJ w h X env sc μ){p:Addr×D}(hp:p∈μ):p.1≠sysModules:=fun q=>by have:=m.big p hp;rw[q] at this;exact absurd this (by decide)
theorem oJ.move {μ:YX}(m:oJ w h X env sc μ)(u:Up X X' h h')(hm:∀p∈μ,X' p.1∧∀o,h.get? p.1=some o→h'.get? p.1=some o):oJ w h' X' env sc μ:=
 ⟨fun p hp=>(m.at_ p hp).up u (hm p hp).2,fun p hp=>(hm p hp).1,m.big,m.away,m.nodup⟩
theorem oJ.up {μ:YX}(m:oJ w h X env sc μ)(u:Up X X' h h')(hX:∀a,X a→X' a)(ka:∀p∈μ,∀o,h.get? p.1=some o→h'.get? p.1=some o):oJ w h' X' env sc μ:=
 m.move u fun p hp=>⟨hX _ (m.x p hp),ka p hp⟩
theorem oJ.sub {μ ZJ:YX}(m:oJ w h X env sc μ)(hs:MW ZJ μ):oJ w h X env sc ZJ:=
 ⟨fun p hp=>m.at_ p (hs.subset hp),fun p hp=>m.x p (hs.subset hp),fun p hp=>m.big p (hs.subset hp),fun p hp=>m.away p (hs.subset hp),m.nodup.sublist (hs.map _)⟩
structure Mx (w:gp)(k:Nat)(A:Around)(X:Addr→Prop)(env:UI)(sc:Scope)(ρ:Yx)(μ:YX)(s:aE):Prop where
 cx:Cx w k A X env sc ρ s
 mu:oJ w s.heap X env sc μ
theorem Cx.places (cx:Cx w k A X env sc ρ s){a:Addr}(h:Pl env sc a):X a∧a≠PT∧∃o,s.heap.get? a=some o:=cx.vis.plx h
theorem Cx.move (cx:Cx w k A X env sc ρ s)(u:Up X X' s.heap s'.heap)(hx:Z6 X' s')(hp:∀a,Pl env sc a→X' a∧∀o,s.heap.get? a=some o→∃sl,s'.heap.get? a=some {o with slots:=sl}):Cx w k A X' env sc ρ s':=
 ⟨cx.a,hx,cx.base.up u,cx.vis.move u hp⟩
theorem Cx.grow (cx:Cx w k A X env sc ρ s)(u:Pu s s')(hXX:∀a,X a→X' a)(sub:∀a o,s.heap.get? a=some o→X' a→X a)(hlt:∀a,X' a→∃o,s'.heap.get? a=some o):Cx w k A X' env sc ρ s':=
 cx.move ⟨fun a o e n=>u.heap a o e fun q=>n (q▸cx.Yz.pt),sub⟩ ⟨hXX _ cx.Yz.pt,u.tab cx.Yz.tab,hlt⟩ fun a q=>⟨hXX a (cx.places q).1,fun o e=>⟨_,u.heap a o e (cx.places q).2.1⟩⟩
variable {μ ZJ YC YM:YX}
theorem Mx.of (cx:Cx w k A X env sc ρ s):Mx w k A X env sc ρ [] s:=⟨cx,.nil⟩
theorem Mx.pu (mx:Mx w k A X env sc ρ μ s)(u:Pu s s'):Mx w k A X env sc ρ μ s':=
 ⟨mx.cx.pu u,mx.mu.up (u.up mx.cx.Yz.pt) (fun Z h=>h) fun p hp o e=>u.heap _ _ e (mx.mu.YZ hp)⟩
theorem Mx.Zf (mx:Mx w k A X env sc ρ μ s)(h:Sub ρ' ρ):Mx w k A X env sc ρ' μ s:=⟨mx.cx.sub h,mx.mu⟩
theorem Mx.a1y (mx:Mx w k A X env sc ρ μ s)(h:MW ZJ μ):Mx w k A X env sc ρ ZJ s:=⟨mx.cx,mx.mu.sub h⟩
theorem Mx.ZD (mx:Mx w k A X env sc ρ μ s){a:Addr}(h:Own env sc a):X a:=(mx.cx.places h.pl).1
theorem Mx.grow (mx:Mx w k A X env sc ρ μ s)(u:Pu s s')(hXX:∀a,X a→X' a)(sub:∀a o,s.heap.get? a=some o→X' a→X a)(hlt:∀a,X' a→∃o,s'.heap.get? a=some o):Mx w k A X' env sc ρ μ s':=
 ⟨mx.cx.grow u hXX sub hlt,mx.mu.up ⟨fun a o e n=>u.heap a o e fun q=>n (q▸mx.cx.Yz.pt),sub⟩ hXX fun p hp o e=>u.heap _ _ e (mx.mu.YZ hp)⟩
theorem Mx.shrink (mx:Mx w k A X' env sc ρ μ s){ρ0:Yx}{s0:aE}(m0:Mx w k A X env sc ρ0 ZJ s0)(hm:μ.map (fun x=>x.1)=ZJ.map (fun x=>x.1))(hXX:∀a,X a→X' a):Mx w k A X env sc ρ μ s:=
 have u:Up X' X s.heap s.heap:=⟨fun Z Z e Z=>e,fun a Z Z h=>hXX a h⟩
 ⟨mx.cx.move u ⟨m0.cx.Yz.pt,mx.cx.Yz.tab,fun a h=>mx.cx.Yz.lt a (hXX a h)⟩ fun a q=>⟨(m0.cx.places q).1,fun o e=>⟨_,e⟩⟩,mx.mu.move u fun p hp=>⟨(eg.mp (hm▸i6 (f:=zI) hp:p.1∈ZJ.map (fun x=>x.1))).elim fun q h=>h.2▸m0.mu.x q h.1,fun o e=>e⟩⟩
theorem Mx.step (mx:Mx w k A X env sc ρ μ s)(pb:YF (Own env sc) s s')(cx':Cx w k A X env sc ρ' s'):Mx w k A X env sc ρ' μ s':=
 ⟨cx',mx.mu.up (pb.up mx.cx.Yz.pt fun Z h=>mx.ZD h) (fun Z h=>h) fun p hp o e=>pb.heap _ _ e (mx.mu.YZ hp) fun q=>mx.mu.away p hp q.pl⟩
theorem Z6.turn (hx:Z6 X s){Z:Addr→Prop}{fr:List Addr}(p:Z1 Z fr s s')(hex:∀a,Z a→X a→∃o,s'.heap.get? a=some o):Z6 X s':=⟨hx.pt,p.tab hx.tab,fun a hb=>p.ex (hx.lt a hb) hx.tab fun z=>hex a z hb⟩
theorem Cx.pus (cx:Cx w k A X env sc ρ s){Z:Addr→Prop}{fr:List Addr}(x:Z1 Z fr s s')(hz:∀a,Z a→X a∧¬Pl env sc a∧∃o,s'.heap.get? a=some o)(hf:∀a∈fr,X a):Cx w k A X env sc ρ s':=
 cx.move (x.up cx.Yz.pt (fun a h=>(hz a h).1) hf) (cx.Yz.turn x fun a z Y=>(hz a z).2.2) fun a q=>⟨(cx.places q).1,fun o e=>(x.heap a o e (cx.places q).2.1 fun z=>(hz a z).2.1 q).elim (fun e=>⟨_,e⟩) And.right⟩
theorem Cx.a4A (cx:Cx w k A X env sc ρ s){a:Addr}(hx:X a)(ha:¬Pl env sc a)(pb:YF (fun x=>x=a) s s')(hex:∃o,s'.heap.get? a=some o):Cx w k A X env sc ρ s':=
 cx.pus (fr:=[]) (.YJ pb) (fun b e=>e▸⟨hx,ha,hex⟩) fun Y h=>nomatch h
theorem mem_mid {a:Addr}{d:D}:(a,d)∈YC++(a,d)::YM:=jv _ ay
theorem oJ.turn {a:Addr}{d d':D}(mu:oJ w h X env sc (YC++(a,d)::YM))(up:Up X X h h')(hk:∀p∈YC++(a,d)::YM,p.1≠a→∀o,h.get? p.1=some o→h'.get? p.1=some o)(hm:cB w h' X a d'):oJ w h' X env sc (YC++(a,d')::YM):=by
 have e:(YC++(a,d)::YM).map (fun x=>x.1)=(YC++(a,d')::YM).map (fun x=>x.1):=by rw[g9,g9];rfl
 have nd:=mu.nodup
 have nd1:=nd
 rw[g9] at nd1
 obtain ⟨Y,nd2,nd3⟩:=i8.mp nd1
 have old:∀p∈YC++(a,d')::YM,p=(a,d')∨(p∈YC++(a,d)::YM∧p.1≠a):=fun p hp=>(eW.mp hp).elim
  (fun h=>.inr ⟨l9 _ h,nd3 _ (i6 h) _ ay⟩)
  fun h=>(dP.mp h).imp id fun h=>⟨jv _ (bE _ h),fun q=>(ja.mp nd2).1 (eg.mpr ⟨p,h,q⟩)⟩
 have like:∀p∈YC++(a,d')::YM,∃q∈YC++(a,d)::YM,q.1=p.1:=fun p hp=>eg.mp (e▸i6 hp)
 refine⟨fun p hp=>?_,fun p hp=>?_,fun p hp=>?_,fun p hp=>?_,e▸nd⟩
 ·exact(old p hp).elim (fun q=>q▸hm) fun q=>(mu.at_ p q.1).up up (hk p q.1 q.2)
 ·obtain ⟨q,h1,h2⟩:=like p hp;exact h2▸mu.x q h1
 ·obtain ⟨q,h1,h2⟩:=like p hp;exact h2▸mu.big q h1
 ·obtain ⟨q,h1,h2⟩:=like p hp;exact h2▸mu.away q h1
theorem Mx.turn {a:Addr}{d d':D}(mx:Mx w k A X env sc ρ (YC++(a,d)::YM) s)(pb:YF (fun x=>x=a) s s')(hm:cB w s'.heap X a d'):Mx w k A X env sc ρ (YC++(a,d')::YM) s':=
 have hx:=mx.mu.x _ mem_mid
 ⟨mx.cx.a4A hx (mx.mu.away _ mem_mid) pb hm.ex,mx.mu.turn (pb.up mx.cx.Yz.pt fun b e=>e▸hx) (fun p hp n o e=>pb.heap _ _ e (mx.mu.YZ hp) n) hm⟩
theorem Mx.add (mx:Mx w k A X env sc ρ μ s){a:Addr}{d:D}(u:Pu s s')(hn:s.heap.get? a=none)(hb:61<a)(hm:cB w s'.heap (fun b=>X b∨b=a) a d):
  Mx w k A (fun b=>X b∨b=a) env sc ρ ((a,d)::μ) s':=by
 have sub:∀b o,s.heap.get? b=some o→(X b∨b=a)→X b:=fun b o e h=>h.elim id fun q=>YD (hn.symm.trans (q▸e))
 have m:=mx.grow u (fun b h=>.inl h) sub fun b h=>h.elim (fun q=>(mx.cx.Yz.pu u).lt b q) fun q=>q▸hm.ex
 refine⟨m.cx,fE.mpr ⟨hm,m.mu.at_⟩,fE.mpr ⟨.inr rfl,m.mu.x⟩,fE.mpr ⟨hb,m.mu.big⟩,fE.mpr ⟨fun q=>?_,m.mu.away⟩,ja.mpr ⟨fun q=>?_,m.mu.nodup⟩⟩
 ·obtain ⟨o,ho⟩:=(mx.cx.places q).2.2;exact YD (hn.symm.trans ho)
 ·obtain ⟨p,hp,e⟩:=eg.mp q
  obtain ⟨o,ho⟩:=(mx.mu.at_ p hp).ex
  exact YD (hn.symm.trans (e▸ho))
theorem dg (hX:Z6 X s):s.heap.get? s.heap.objs.size=none∧s.heap.objs.size≠PT:=by
 have new:s.heap.get? s.heap.objs.size=none:=by
  cases e:s.heap.get? s.heap.objs.size with
  |none=>rfl
  |some o=>exact absurd (eK e) (iE _)
 exact⟨new,fun q=>by obtain ⟨_,e⟩:=hX.tab;rw[←q,new] at e;exact YD e⟩
theorem jw (hX:Z6 X s):s.heap.get? s.heap.objs.size=none∧61<s.heap.objs.size:=by
 refine⟨(dg hX).1,?_⟩
 obtain ⟨vs,e⟩:=hX.tab
 exact eK e
theorem gq {A':Around}{a:Addr}{l:List D}(mx:Mx w k A X env sc ρ (YC++(a,.lst l)::YM) s){v:bX}{d:D}{Q E:bX→aE→Prop}(r:Rep w s.heap X d v)(hl:l.length≤sizeLine)
  (hQ:∀s',YF (fun x=>x=a) s s'→Mx w k A X env sc ρ (YC++(a,.lst (l++[d]))::YM) s'→Q .none s'):cE (cS PW w) A' (call (.builtin "list.append") [.ref a,v]) Q E s:=by
 obtain ⟨vs,hp,hr⟩:=(mx.mu.at_ _ mem_mid).l
 have hlen:=hr.length
 rw[iS] at hlen
 refine wpAny_list_append_plain (hsz:=hlen.symm▸hl) hp fun h5 hl5 hs5=>?_
 have pb:YF (fun x=>x=a) s {s with heap:=h5}:=.one hs5 (mx.mu.YZ mem_mid)
 have up:Up X X s.heap h5:=pb.up mx.cx.Yz.pt fun b e=>e▸mx.mu.x _ mem_mid
 exact hQ _ pb (mx.turn pb (.lst _ _ rfl hl5 ((MD ..).symm▸(hr.up up).append (.one (r.up up _ _)))))
end
end
section
noncomputable def bk (w:gp)(A:Around)(X:Addr→Prop)(target:PySem.Expr)(t:UM bX)(l:List D)(s:aE):Prop:=
 ∀(Q:bX→aE→Prop) (E:bX→aE→Prop),
  (∀(I:Addr) (fp:List Addr) (h0:Heap) (s1:aE),Pu s s1→(∀a o,s.heap.get? a=some o→a≠PT→h0.get? a=some o)→(∀a o,h0.get? a=some o→a≠PT→s1.heap.get? a=some o)→(∀a∈fp,h0.get? a=none∧a≠PT∧∃o,s1.heap.get? a=some o)→
   (∀X',(∀a,X a→X' a)→(∀a o,h0.get? a=some o→X' a→X a)→(∀a∈fp,X' a)→
    ∃St,Itr w A X' target I l fp St∧∀h',(∀a o,s1.heap.get? a=some o→a≠PT→h'.get? a=some o)→St 0 h')→Q (.ref I) s1)→
  cE (cS PW w) A t (fun v s0=>cE (cS PW w) A (BQ v) Q E s0) E s
inductive gk (t:PySem.Expr)(d:D)(ρ:Yx)(P:Yx→Prop):Prop
 |mk (ρ':Yx) (h:cZ t d ρ=some ρ') (p:P ρ')
structure Apart (X O Xf:Addr→Prop)(env:UI)(sc:Scope)(fp fr:List Addr):Prop where
 off:∀a,Xf a→X a∧a∉fp
 fpx:∀a∈fp,X a
 pt:Xf PT
 pl:∀a,Pl env sc a→Xf a
 own:∀a,O a→Xf a
 frx:∀a∈fr,Xf a
section
variable {w:gp}{k:Nat}{A:Around}{X X' O Xf:Addr→Prop}{env:UI}{sc:Scope}{ρ:Yx}{μ:YX}{s s':aE}{fp fr:List Addr}
theorem Mx.adv (ap:Apart X O Xf env sc fp fr)(mx:Mx w k A X env sc ρ μ s)(hm:∀p∈μ,Xf p.1)(p:YF (fun x=>x∈fp) s s')(h1:∀a,X' a→X a)(h2:∀a,Xf a→X' a)(hex:∀a∈fp,X' a→∃o,s'.heap.get? a=some o):Mx w k A X' env sc ρ μ s':=
 have u:Up X X' s.heap s'.heap:=⟨fun a o e n=>p.heap a o e (fun q=>n (q▸mx.cx.Yz.pt)) fun q=>n (ap.fpx a q),fun a Y Y q=>h1 a q⟩
 have kp:∀a,Xf a→a≠PT→X' a∧∀o,s.heap.get? a=some o→s'.heap.get? a=some o:=fun a h n=>⟨h2 a h,fun o e=>p.heap a o e n (ap.off a h).2⟩
 ⟨mx.cx.move u ⟨h2 _ ap.pt,p.tab mx.cx.Yz.tab,fun a h=>(Z1.YJ (fr:=[]) p).ex (mx.cx.Yz.lt a (h1 a h)) mx.cx.Yz.tab fun z=>hex a z h⟩ fun a q=>(kp a (ap.pl a q) (mx.cx.places q).2.1).imp id fun f o e=>⟨_,f o e⟩,
  mx.mu.move u fun q hq=>kp q.1 (hm q hq) (mx.mu.YZ hq)⟩
inductive J7 (w:gp)(k:Nat)(A:Around)(X O:Addr→Prop)(env:UI)(sc:Scope)(fp fr:List Addr)(St:Nat→Heap→Prop)(I:List D→Yx→YX→Prop)(l:List D)(s:aE)(m:Nat)(s':aE):Prop
 |mk (i:Nat) (ρ:Yx) (μ:YX) (e:m=l.length - i) (hp:I (l.drop i) ρ μ) (pb:Z1 (fun a=>O a∨a∈fp) fr s s') (st:St i s'.heap) (hi:i≤l.length) (mx:Mx w k A X env sc ρ μ s')
theorem over {It:Addr}{t:PySem.Expr}{l:List D}{St:Nat→Heap→Prop}(itr:Itr w A X t It l fp St)(ap:Apart X O Xf env sc fp fr)(st0:St 0 s.heap)(mx:Mx w k A X env sc ρ μ s)
  (hk:bw sc (ak t)) (turns:∀a,mX env sc (ak t) a→O a)
  (I:List D→Yx→YX→Prop) (h0:I l ρ μ) (hI:∀r YL YC,I r YL YC→∀p∈YC,Xf p.1) {DN:aE→Prop} {BD:(aE→Prop)→aE→Prop} {NE:bX→aE→Prop} {G:Prop}
  (hB:∀{d r YL YC},I (d::r) YL YC→d∈l→gk t d YL fun Zq=>∀s1 C,Z1 (fun a=>O a∨a∈fp) fr s s1→Mx w k A X env sc Zq YC s1→(∀Zu μ3 s2,I r Zu μ3→Z1 O fr s1 s2→Mx w k A X env sc Zu μ3 s2→C s2)→BD C s1)
  (hQ:∀YL YC s1,I [] YL YC→Z1 (fun a=>O a∨a∈fp) fr s s1→Mx w k A Xf env sc YL YC s1→DN s1)
  (rule:∀J:Nat→aE→Prop,(∀n s,J n s→cE (cS PW w) A (Ct (.ref It)) (fun r s₁=>match r with
   |none=>DN s₁
   |some v=>cE (cS PW w) A (sj t (.ref It) v) (fun Y s₁'=>cE (cS PW w) A (z0 t env v) (fun Y s₂=>BD (fun s=>∃m,m<n∧J m s) s₂) NE s₁') NE s₁) NE s)→∀n,J n s→G):G:=by
 refine rule (J7 w k A X O env sc fp fr St I l s) (fun m s' q=>?_) _ ⟨0,ρ,μ,rfl,h0,.refl _,st0,qV _,mx⟩
 obtain ⟨i,ρ',ZJ,rfl,hp,pb,st,hi,m'⟩:=q
 have pt:=m'.cx.Yz.pt
 rcases MX i l.length with hlt|hge
 ·rw[AG hlt] at hp
  obtain ⟨Zq,hb,go⟩:=hB hp (kM hlt)
  refine qA (itr.item i s' l[i] _ NE (c8 hlt) st m'.cx.Yz fun v sa pba ra sta=>?_) (fun r s1 h1=>by obtain ⟨v,rfl,h⟩:=h1;exact h) fun Y Y e=>e
  have ma:=m'.adv ap (hI _ _ _ hp) pba (fun Y h=>h) (fun a h=>(ap.off a h).1) fun a h Y=>itr.ex _ _ sta a h
  refine iW ma.cx.a ma.cx.Yz ma.cx.vis hb hk ra fun sb pbb vb xb=>?_
  have upb:=pbb.up pt fun a h=>(ap.off a (ap.own a (turns a h))).1
  have YZ:∀a∈fp,a≠PT:=fun a h q=>itr.YZ (q▸h)
  refine go sb _ ((pb.trans (.YJ (pba.mono fun a h=>.inr h))).trans (.YJ (pbb.mono fun a h=>.inl (turns a h))))
   ⟨⟨ma.cx.a,xb,ma.cx.base.up upb,vb⟩,ma.mu.up upb (fun Y h=>h) fun p hp o e=>pbb.heap _ _ e (ma.mu.YZ hp) fun q=>ma.mu.away p hp q.own.pl⟩
   fun Zu μ3 s₃ hI3 p3 m3=>⟨l.length - (i+1),om2 hlt,i+1,Zu,μ3,rfl,hI3,(pb.trans (.YJ (pba.mono fun a h=>.inr h))).trans ((Z1.YJ (pbb.mono fun a h=>.inl (turns a h))).trans (p3.mono (fun a h=>.inl h) fun Y h=>h)),?_,hlt,m3⟩
  exact itr.frame _ _ _ (itr.frame _ _ _ sta upb fun a h o e=>pbb.heap a o e (YZ a h) fun q=>(ap.off a (ap.own a (turns a q))).2 h) (p3.up pt (fun a h=>(ap.off a (ap.own a h)).1) fun a h=>(ap.off a (ap.frx a h)).1)
   fun a h o e=>(p3.heap a o e (YZ a h) fun q=>(ap.off a (ap.own a q)).2 h).elim id fun q=>absurd h (ap.off a (ap.frx a q.1)).2
 ·rw[sM hge] at hp
  refine qA (itr.done s' DN NE (D4 hi hge▸st) fun sa pba=>?_) (fun r s1 h1=>by obtain ⟨rfl,h⟩:=h1;exact h) fun Y Y e=>e
  exact hQ ρ' ZJ sa hp (pb.trans (.YJ (pba.mono fun a h=>.inr h))) (m'.adv ap (hI _ _ _ hp) pba (fun a h=>(ap.off a h).1) (fun Y h=>h) fun a h q=>absurd h (ap.off a q).2)
theorem vJ {t:PySem.Expr}{tm:UM bX}{l:List D}(mx:Mx w k A X env sc ρ μ s)(src:bk w A X t tm l s)
  (hk:bw sc (ak t)) (turns:∀a,mX env sc (ak t) a→O a) (hO:∀a,O a→X a) (hfr:∀a∈fr,X a)
  (I:List D→Yx→YX→Prop) (h0:I l ρ μ) (hI:∀r YL YC,I r YL YC→∀p∈YC,X p.1) {DN:aE→Prop} {BD:Addr→(aE→Prop)→aE→Prop} {NE E:bX→aE→Prop} {K:bX→aE→Prop}
  (hB:∀{d r YL YC},I (d::r) YL YC→d∈l→gk t d YL fun Zq=>∀X' s1 It C,(∀a,X a→X' a)→Z1 O fr s s1→Mx w k A X' env sc Zq YC s1→(∀Zu μ3 s2,I r Zu μ3→Z1 O fr s1 s2→Mx w k A X' env sc Zu μ3 s2→C s2)→BD It C s1)
  (hQ:∀YL YC s1,I [] YL YC→Z1 O fr s s1→Mx w k A X env sc YL YC s1→DN s1)
  (rule:∀It s1 (J:Nat→aE→Prop),(∀(Q E:bX→aE→Prop),Q (.ref It) s1→cE (cS PW w) A (BQ (.ref It)) Q E s1)→(∀n s,J n s→cE (cS PW w) A (Ct (.ref It)) (fun r s₁=>match r with
   |none=>DN s₁
   |some v=>cE (cS PW w) A (sj t (.ref It) v) (fun Y s₁'=>cE (cS PW w) A (z0 t env v) (fun Y s₂=>BD It (fun s=>∃m,m<n∧J m s) s₂) NE s₁') NE s₁) NE s)→∀n,J n s1→K (.ref It) s1) :
  cE (cS PW w) A tm (fun x s₁=>cE (cS PW w) A (BQ x) K E s₁) E s:=by
 refine src _ _ fun It fp h0' s1 u1 k0 k1 hfp hit=>?_
 have new:∀a o,a∈fp→s.heap.get? a=some o→False:=fun a o h e=>YD ((hfp a h).1.symm.trans (k0 a o e (hfp a h).2.1))
 have off:∀a,X a→(X a∨a∈fp)∧a∉fp:=fun a h=>⟨.inl h,fun q=>(mx.cx.Yz.lt a h).elim fun o e=>new a o q e⟩
 obtain ⟨St,itr,hst⟩:=hit (fun a=>X a∨a∈fp) (fun a h=>.inl h) (fun a o e h=>h.elim id fun q=>YD ((hfp a q).1.symm.trans e)) (fun a h=>.inr h)
 refine over itr (O:=O) (Xf:=X) (BD:=BD It) ⟨off,fun a h=>.inr h,mx.cx.Yz.pt,fun a q=>(mx.cx.places q).1,hO,hfr⟩ (hst _ fun a o e n=>e)
  (mx.grow u1 (fun a h=>.inl h) (fun a o e h=>h.elim id fun q=>(new a o q e).elim) fun a h=>h.elim (fun q=>(mx.cx.Yz.pu u1).lt a q) fun q=>(hfp a q).2.2) hk turns I h0 hI (fun hi hd=>?_)
  (fun YL YC s2 hi p m=>hQ YL YC s2 hi (p.a0I u1 fun a o=>new a o) m) fun J=>rule It s1 J fun Q E=>itr.self 0 s1 Q E (hst _ fun a o e n=>e)
 obtain ⟨Zq,hb,go⟩:=hB hi hd
 exact⟨Zq,hb,fun s2 C p m=>go _ s2 It C (fun a h=>.inl h) (p.a0I u1 fun a o=>new a o) m⟩
end
end
section
section
variable {w:gp}{k:Nat}{A:Around}{X X':Addr→Prop}{env:UI}{sc:Scope}{ρ:Yx}{s:aE}
noncomputable def Fj (R:DO→aE→Prop)(c:Code)(C:aE→Prop):PySem.Fin→aE→Prop:=fun fin s'=>match fin with
 | .done f=>R (.ok f) s'
 | .again c'=>c'=c∧C s'
noncomputable def nG (w:gp)(A:Around)(env:UI)(R:DO→aE→Prop)(c:Code)(body:UM PySem.Fin)(C:aE→Prop):aE→Prop:=cE (cS PW w) A body (Fj R c C) (KA (cS PW w) A env fun e s'=>R (.error e) s')
theorem qt {R:DO→aE→Prop}{e t:PySem.Expr}{d:Nat}{p:UK}{it acc:bX}{body:UM PySem.Fin}(hu:A.under (.compLoop e d it acc env)=A∧(F7 e d it acc env).isFrame=false)(he:QN e d it acc env=(GV p >>= fun Y=>Ct it >>= fun r=>match r with
   |none=>AS (.done .next)
   |some v=>sj t it v >>= fun Y=>z0 t env v >>= fun Y=>body)) (J:Nat→aE→Prop)
  (turn:∀n s,J n s→cE (cS PW w) A (Ct it) (fun r s₁=>match r with
   |none=>R (.ok .next) s₁
   |some v=>cE (cS PW w) A (sj t it v) (fun Y s₁'=>cE (cS PW w) A (z0 t env v) (fun Y s₂=>nG w A env R (.compLoop e d it acc env) body (fun s=>∃m,m<n∧J m s) s₂)
     (KA (cS PW w) A env fun e s'=>R (.error e) s') s₁') (KA (cS PW w) A env fun e s'=>R (.error e) s') s₁) (KA (cS PW w) A env fun e s'=>R (.error e) s') s)
  (n:Nat) (h:J n s):A8 (cS PW w) A (.compLoop e d it acc env) R s:=by
 refine codeAny_loop rfl J (fun n s hJ=>?_) n h
 rw[hu.1]
 show cE _ A (if(F7 e d it acc env).isFrame then _ else(QN e d it acc env).onRaise (fun x=>do Lo x env;theTreesLotGoes x)) (Fj R _ fun s=>∃m,m<n∧J m s) _ s
 rw[hu.2]
 refine wpAny_noted ?_
 rw[he]
 refine ah (pV (ah (qA (turn n s hJ) (fun r s₁ h₁=>?_) fun Y Y h'=>h')))
 cases r with
 |none=>exact bg h₁
 |some v=>exact ah (qA h₁ (fun Y s₂ h₂=>ah h₂) fun Y Y h'=>h')
theorem nJ {R:DO→aE→Prop}{e:PySem.Expr}{d:Nat}{g:xA}{it acc:bX}(hu:A.under (.compStart e d it acc env)=A∧(E8 e d it acc env).isFrame=false)(hg:(OA e)[d]?=some g)(ha:g.is_async=0)(self:∀(Q E:bX→aE→Prop),Q it s→cE (cS PW w) A (BQ it) Q E s)
  (h:A8 (cS PW w) A (.compLoop e d it acc env) R s):A8 (cS PW w) A (.compStart e d it acc env) R s:=by
 refine OR ?_
 rw[hu.1]
 show cE _ A (if(E8 e d it acc env).isFrame then _ else(RU e d it acc env).onRaise (fun x=>do Lo x env;GV theWindowsPlace)) _ _ s
 rw[hu.2]
 refine wpAny_notedAt ?_
 have go:∀{Q E},cE (cS PW w) A (TR (.compLoop e d it acc env)) Q E s→cE (cS PW w) A (RU e d it acc env) Q E s:=fun {Q E} h=>by
  unfold RU
  rw[hg]
  simp only[Option.elim,ha]
  show cE _ A (ask >>= _) _ _ s
  refine ah (NF (wpAny_ite ?_))
  split
  ·first|exact ah (bg h)|exact h
  ·exact ah (yT (ah (pV (ah (self _ _ h)))))
 exact go (bg ⟨rfl,h⟩)
end
end
section
section
variable {w:gp}{k:Nat}{A:Around}{X X':Addr→Prop}{env:UI}{sc:Scope}{ρ:Yx}{μ:YX}{s:aE}
theorem Z6.big (hx:Z6 X s){c:Addr}(hc:s.heap.objs.size≤c):s.heap.get? c=none∧c≠PT:=by
 have n:s.heap.get? c=none:=oq.mpr fun o e=>absurd (eK e) (ow.mpr hc)
 exact⟨n,fun q=>hx.tab.elim fun vs e=>YD (n.symm.trans (q▸e))⟩
structure Laid (w:gp)(k:Nat)(A:Around)(X:Addr→Prop)(env:UI)(sc:Scope)(ρ:Yx)(μ:YX)(scope:Scope)(s:aE)(ce:UI)(s':aE):Prop where
 pu:Pu s s'
 new:∀a,Own ce scope a→s.heap.get? a=none∧a≠PT
 pl:∀a,Pl ce (aG scope sc) a→Own ce scope a∨Pl env sc a
 mx:Mx w k A (fun a=>X a∨Own ce scope a) ce (aG scope sc) (inner scope ρ) μ s'
theorem yw (mx:Mx w k A X env sc ρ μ s){scope:Scope}(hok:cO scope sc=true){ce:UI}{h':Heap}(hh:RS (s.heap.push {cls:=.type "dict",data:=.dict #[]}) scope.names=h')
  (hL:ce.locals=s.heap.objs.size) (hcs:ce.cells=zl (s.heap.push {cls:=.type "dict",data:=.dict #[]}).objs.size scope.names (dG env.cells scope.names [])) (hg:ce.globals=env.globals) (hb:ce.builtins=env.builtins) (hS:ce.scope=F6 scope env) :
  Laid w k A X env sc ρ μ scope s ce {s with heap:=h'}:=by
 have hok:=cy.mp hok
 have hkd:=cy.mp hok.1
 have hnd:=of_decide_eq_true hkd.2
 have hx:=mx.cx.Yz
 have v:=mx.cx.vis
 have keep:∀a o,s.heap.get? a=some o→h'.get? a=some o:=fun a o e=>hh▸OS _ _ _ _ (b6 _ e)
 have hns:=(Heap.Ns.new s.heap (.type "dict")).keeps (OS scope.names _)
 have spec:=ww scope.names (s.heap.push {cls:=.type "dict",data:=.dict #[]}) (dG env.cells scope.names []) hnd
 have apart:=cells_apart scope.names (s.heap.push {cls:=.type "dict",data:=.dict #[]}) (dG env.cells scope.names []) hnd
 rw[←hcs] at spec apart
 rw[hh,kq] at spec
 rw[hh] at hns
 have cell:∀{n c},scope.names.lookup n=some .cell→ce.cells.lookup n=some c→s.heap.objs.size<c∧h'.IsCell c none:=fun {n c} h e=>by
  obtain ⟨d,h1,h2⟩:=(spec n).1 h
  exact aI (h1.symm.trans e)▸h2
 have old:∀{n},scope.names.lookup n=some .free→CF sc n∧ce.cells.lookup n=env.cells.lookup n:=fun {n} hn=>by
  have hm:=mem_of_lookup hn
  have hcf:CF sc n:=(KW.mp (fR.mp hok.2 _ hm)).imp beq_iff_eq.mp beq_iff_eq.mp
  obtain ⟨d,u,h1,_⟩:=v.cells n hcf
  exact⟨hcf,((spec n).2 fun q=>by rw[hn] at q;cases q).trans ((zK (f:=fun n=>env.cells.lookup n) (yq (acc:=[]) fun Z h=>nomatch h) (yr h1 (.inl hm))).trans h1.symm)⟩
 have own:∀a,Own ce scope a→s.heap.objs.size≤a∧∃o,h'.get? a=some o:=by
  rintro a (rfl|⟨n,h1,h2⟩)
  ·obtain ⟨o,_,_,ho,_⟩:=hns;exact⟨hL▸gz _,o,hL▸ho⟩
  ·exact⟨fz (cell h1 h2).1,(cell h1 h2).2.imp fun o h=>h.1⟩
 have up:Up X (fun a=>X a∨Own ce scope a) s.heap h':=⟨fun a o e Z=>keep a o e,fun a o e h=>h.elim id fun q=>absurd (eK e) (ow.mpr (own a q).1)⟩
 have hpl:∀a,Pl ce (aG scope sc) a→Own ce scope a∨Pl env sc a:=fun a q=>q.elim (fun q=>.inl (.inl q)) fun⟨n,h1,h2⟩=>(fc.mp h1).elim (fun q=>.inl (.inr ⟨n,q,h2⟩)) fun q=>.inr (.inr ⟨n,(old q).1,(old q).2.symm.trans h2⟩)
 have ne:∀a o,s.heap.get? a=some o→¬Own ce scope a:=fun a o e q=>absurd (eK e) (ow.mpr (own a q).1)
 refine⟨Pu.keep (n:=s.toks) keep,fun a q=>hx.big (own a q).1,hpl,⟨mx.cx.a,⟨.inl hx.pt,hx.tab.imp fun vs e=>keep _ _ e,fun a h=>h.elim (fun q=>(hx.lt a q).imp fun o=>keep a o) fun q=>(own a q).2⟩,mx.cx.base.up up,?_⟩,
  ⟨fun p hp=>(mx.mu.at_ p hp).up up fun o=>keep _ o,fun p hp=>.inl (mx.mu.x p hp),mx.mu.big,fun p hp q=>(hpl _ q).elim (fun q=>(mx.mu.at_ p hp).ex.elim fun o e=>ne _ o e q) (mx.mu.away p hp),mx.mu.nodup⟩⟩
 refine⟨hS.trans (xr v scope),beq_iff_eq.mp hkd.1,hg.trans v.glob,hb.trans v.bi,hL▸(hx.big (gz _)).2,.inr (.inl rfl),⟨_,hL▸hns,fun n d e kn=>absurd (pH kn) (cA e).2.1⟩,fun n hn=>?_,fun n n' c hn hn' e1 e2=>?_⟩
 ·rcases fc.mp hn with hn|hn
  ·obtain ⟨c,h1,h2,h3⟩:=(spec n).1 hn
   exact⟨c,none,h1,(hx.big (wo h2)).2,hL▸oQ h2,.inr (.inr ⟨n,hn,h1⟩),h3,fun d e=>absurd hn (cA e).2.2⟩
  ·obtain ⟨hcf,e⟩:=old hn
   obtain ⟨c,u,g1,g2,g3,g4,⟨o,ho,hd⟩,g5⟩:=v.cells n hcf
   exact⟨c,u,e.trans g1,g2,hL▸xy (eK ho),.inl g4,⟨o,keep _ _ ho,hd⟩,fun d e=>(g5 d (cA e).1).imp fun y q=>⟨q.1,q.2.up up _ _⟩⟩
 ·have low:∀{n},CF sc n→env.cells.lookup n=some c→c<s.heap.objs.size:=fun {n} h e=>by
   obtain ⟨c',u,g1,_,_,_,q,_⟩:=v.cells n h
   exact aI (g1.symm.trans e)▸q.lt
  refine(fc.mp hn).elim (fun h=>(fc.mp hn').elim (fun h'=>?_) fun h'=>?_) fun h=>(fc.mp hn').elim (fun h'=>?_) fun h'=>?_
  ·exact EC fun q=>apart n n' c q h h' e1 e2
  ·exact absurd (cell h e1).1 (Sf (low (old h').1 ((old h').2.symm.trans e2)))
  ·exact absurd (cell h' e2).1 (Sf (low (old h).1 ((old h).2.symm.trans e1)))
  ·exact v.inj n n' c (old h).1 (old h').1 ((old h).2.symm.trans e1) ((old h').2.symm.trans e2)
theorem Cr (mx:Mx w k A X env sc ρ μ s){scope:Scope}(hok:cO scope sc=true){E:bX→aE→Prop}{Q:UI→aE→Prop}
  (hQ:∀cenv s',Laid w k A X env sc ρ μ scope s {cenv with scope:=F6 scope env} s'→Q cenv s') :
  cE (cS PW w) A (AB scope env.globals (dG env.cells scope.names []) [] env.qual none .none (some env)) Q E s:=by
 exact ah (wpAny_alloc (o:={cls:=.type "dict",data:=.dict #[]}) (ah (wpAny_layCells _ (fun Z Z Z=>rfl) _ _ _ _ (ah (bg (bg (hQ _ _ (yw mx hok rfl rfl rfl rfl rfl rfl))))))))
theorem jo {t:PySem.Expr}{d:D}{ρ':Yx}(h:cZ t d ρ=some ρ'){n:Str}(hn:n∉ak t):ρ'.lookup n=ρ.lookup n:=by
 replace h:=lG h
 rcases h with ⟨x,p⟩|⟨x,p,y,q,k,r,a,b⟩
 ·rw[fF,show(n==x)=false from beq_eq_false_iff_ne.mpr fun e=>hn (e▸ay)]
 ·rw[fF,show(n==y)=false from beq_eq_false_iff_ne.mpr fun e=>hn (e▸bE _ ay),fF,show(n==x)=false from beq_eq_false_iff_ne.mpr fun e=>hn (e▸ay)]
theorem rW {scope:Scope}{ce:UI}{ns:List Str}{a:Addr}(hn:bw scope ns)(h:mX ce (aG scope sc) ns a):Own ce scope a:=by
 obtain ⟨x,hx,h|h⟩:=h
 ·exact .inl h.2
 ·refine .inr ⟨x,(hn x hx).resolve_left fun q=>?_,h.2⟩
  have:=(du (sc:=sc) q (by intro h;cases h)).symm.trans h.1
  cases this
inductive jE (l:List D)(acc:List D→D)(ρ:Yx)(Da:Addr)(r:List D)(YL:Yx)(YC:YX):Prop
 |mk (done:List D) (e1:l=done++r) (e2:ρ=YL) (e3:[(Da,acc done)]=YC)
@[elab_as_elim] theorem jE.go {l:List D} {acc:List D→D} {ρ:Yx} {Da:Addr} {r:List D} {YL:Yx} {YC:YX} {P:Yx→YX→Prop} (i:jE l acc ρ Da r YL YC) (h:∀done,l=done++r→P ρ [(Da,acc done)]):P YL YC:=by
 obtain ⟨done,e1,e2,e3⟩:=i
 exact e2▸e3▸h done e1
section
variable {e t:PySem.Expr}{scope:Scope}{l:List D}{acc:List D→D}{RR:bX→Addr→DO→aE→Prop}{g:xA}{p:UK}{body:bX→Addr→UI→UM PySem.Fin}{ns:List Str}
theorem wC {Xa:Addr→Prop}{It Da:Addr}{fp:List Addr}{St:Nat→Heap→Prop}{ce:UI}{s2 s3:aE}(cx:Cx w k A X env sc ρ s)(L:Laid w k A Xa env sc ρ [(Da,acc [])] scope s2 ce s3)(us:Pu s s3)(hX:∀a,X a→Xa a)
  (h2:∀a o,s.heap.get? a=some o→a≠PT→s2.heap.get? a=some o) (hD:Xa Da∧Da∉fp∧∃o,s2.heap.get? Da=some o) (hfp:∀a∈fp,Xa a∧∃o,s2.heap.get? a=some o) (new:∀a o,a=Da∨a∈fp→s.heap.get? a=some o→False)
  (itr:Itr w A (fun a=>Xa a∨Own ce scope a) t It l fp St) (st:St 0 s3.heap)
  (hn:bw scope (ak t)) (hns:bw scope ns)
  (hu:∀it acc env,(A.under (.compStart e 0 it acc env)=A∧(E8 e 0 it acc env).isFrame=false)∧A.under (.compLoop e 0 it acc env)=A∧(F7 e 0 it acc env).isFrame=false)
  (hg:(OA e)[0]?=some g) (ha:g.is_async=0) (he:∀it Da env,QN e 0 it (.ref Da) env=(GV p >>= fun Y=>Ct it >>= fun r=>match r with
   |none=>AS (.done .next)
   |some v=>sj t it v >>= fun Y=>z0 t env v >>= fun Y=>body it Da env))
  (each:∀{done d r},l=done++d::r→gk t d (inner scope ρ) fun ρ'=>∀X' ce Da s1 R it C,Mx w k A X' ce (aG scope sc) ρ' [(Da,acc done)] s1→
   (∀s2,YF (fun a=>mX ce (aG scope sc) ns a∨a=Da) s1 s2→Mx w k A X' ce (aG scope sc) ρ' [(Da,acc (done++[d]))] s2→C s2)→nG w A ce R (.compLoop e 0 it (.ref Da) ce) (body it Da ce) C s1)
  (hRR:∀v C s',Pu s s'→(∃m,s'.heap.Ns C m)→s.heap.get? C=none→C≠PT→Rep w s'.heap (fun a=>X a∨a=C) (acc l) v→RR v C (.ok .next) s') :
  A8 (cS PW w) A (.compStart e 0 (.ref It) (.ref Da) ce) (RR (.ref Da) ce.locals) s3:=by
 have off:∀a,Own ce scope a∨a=Da→a∉fp:=fun a h q=>h.elim (fun h=>(hfp a q).2.elim fun o e=>YD ((L.new a h).1.symm.trans e)) fun h=>hD.2.1 (h▸q)
 have ne:∀a o,(Own ce scope a∨a=Da)∨a∈fp→s.heap.get? a=some o→False:=fun a o h e=>h.elim (fun h=>h.elim (fun h=>YD ((L.new a h).1.symm.trans (h2 a o e (L.new a h).2))) fun h=>new a o (.inl h) e) fun h=>new a o (.inr h) e
 refine nJ (hu _ _ _).1 hg ha (fun Q E=>itr.self 0 s3 Q E st) (over itr (O:=fun a=>Own ce scope a∨a=Da) (Xf:=fun a=>(Xa a∨Own ce scope a)∧a∉fp) (fr:=[])
  ⟨fun a h=>h,fun a h=>.inl (hfp a h).1,⟨L.mx.cx.Yz.pt,itr.YZ⟩,fun a q=>⟨(L.mx.cx.places q).1,(L.pl a q).elim (fun h=>off a (.inl h)) fun h z=>(cx.places h).2.2.elim fun o e=>ne a o (.inr z) e⟩,fun a h=>⟨h.elim .inr fun q=>.inl (q▸hD.1),off a h⟩,fun a h=>nomatch h⟩ st L.mx
  (fun x h=>(hn x h).imp (fun q=>du q (by intro h;cases h)) fun q=>du q (by intro h;cases h)) (fun a h=>.inl (rW hn h)) (jE l acc (inner scope ρ) Da) ⟨[],rfl,rfl,rfl⟩ (fun r YL YC i=>i.go (P:=fun ρ μ=>∀p∈μ,(Xa p.1∨Own ce scope p.1)∧p.1∉fp) fun done Y p hp=>bS.mp hp▸⟨.inl hD.1,hD.2.1⟩)
  (fun {d r YL YC} i hd=>?_) (fun YL YC s' i=>?_) (qt (hu _ _ _).2 (he _ _ _)))
 ·refine jE.go i ?_
  intro done e1
  obtain ⟨ρ',hb,go⟩:=each e1
  refine⟨ρ',hb,fun s4 C p m hC=>go _ _ _ _ _ _ _ m fun s5 p5 m5=>hC _ _ s5 ⟨done++[d],e1.trans (G2 ..),rfl,rfl⟩ (.YJ (p5.mono fun a h=>h.imp (rW hns) id)) (m5.Zf fun n d e=>?_)⟩
  exact(jo hb fun hm=>(hn n hm).elim (cA e).2.1 (cA e).2.2).trans e
 ·refine jE.go i ?_
  intro done e1 pb m
  obtain ⟨n,hn,Z⟩:=m.cx.vis.loc
  refine hRR _ _ _ (pb.pub.pu us ne) ⟨n,hn⟩ (oq.mpr fun o e=>ne _ o (.inl (.inl (.inl rfl))) e) m.cx.vis.neL ?_
  rw[e1,nK]
  refine(m.mu.at_ _ ay).rep (m.mu.a3R ay) ⟨fun Z Z e Z=>e,fun a o e h=>?_⟩ fun h=>?_
  ·exact h.elim (fun h=>⟨.inl (hX a h),fun q=>(cx.Yz.lt a h).elim fun o e=>ne a o (.inr q) e⟩) fun h=>⟨.inr (.inl h),off a (.inl (.inl h))⟩
  ·exact h.elim (fun h=>(cx.Yz.lt _ h).elim fun o e=>ne _ o (.inl (.inr rfl)) e) fun h=>hD.2.2.elim fun o e=>YD ((L.new _ (.inl h)).1.symm.trans e)
theorem sW (cx:Cx w k A X env sc ρ s){tm mk:UM bX}{E:bX→aE→Prop}{o0:Obj}(ns:List Str)
  (hok:cO scope sc=true) (hn:bw scope (ak t)) (hns:bw scope ns)
  (src:bk w A X t tm l s) (hfr:o0.isFreed=false) (hmk:∀(Q:bX→aE→Prop) (s:aE),Q (.ref s.heap.objs.size) {s with heap:=s.heap.push o0}→cE (cS PW w) A mk Q E s)
  (h0:∀{h:Heap} {X:Addr→Prop} {a:Addr},h.get? a=some o0→cB w h X a (acc [])) (hu:∀it acc env,(A.under (.compStart e 0 it acc env)=A∧(E8 e 0 it acc env).isFrame=false)∧A.under (.compLoop e 0 it acc env)=A∧(F7 e 0 it acc env).isFrame=false)
  (hg:(OA e)[0]?=some g) (ha:g.is_async=0) (he:∀it Da env,QN e 0 it (.ref Da) env=(GV p >>= fun Y=>Ct it >>= fun r=>match r with
   |none=>AS (.done .next)
   |some v=>sj t it v >>= fun Y=>z0 t env v >>= fun Y=>body it Da env))
  (each:∀{done d r},l=done++d::r→gk t d (inner scope ρ) fun ρ'=>∀X' ce Da s1 R it C,Mx w k A X' ce (aG scope sc) ρ' [(Da,acc done)] s1→
   (∀s2,YF (fun a=>mX ce (aG scope sc) ns a∨a=Da) s1 s2→Mx w k A X' ce (aG scope sc) ρ' [(Da,acc (done++[d]))] s2→C s2)→nG w A ce R (.compLoop e 0 it (.ref Da) ce) (body it Da ce) C s1)
  (hRR:∀v C s',Pu s s'→(∃m,s'.heap.Ns C m)→s.heap.get? C=none→C≠PT→Rep w s'.heap (fun a=>X a∨a=C) (acc l) v→RR v C (.ok .next) s') :
  cE (cS PW w) A tm (fun x s₁=>cE (cS PW w) A (BQ x) (fun it s₂=>cE (cS PW w) A mk (fun acc s₃=>
   cE (cS PW w) A (AB scope env.globals (dG env.cells scope.names []) [] env.qual none .none (some env)) (fun cenv s₄=>
    A8 (cS PW w) A (.compStart e 0 it acc {cenv with scope:=F6 scope env}) (RR acc cenv.locals) s₄) E s₃) E s₂) E s₁) E s:=by
 refine src _ _ fun It fp h0' s1 u1 k0 k1 hfp hit=>?_
 have m1:Mx w k A (fun a=>X a∨a∈fp) env sc ρ [] s1:=(Mx.of cx).grow u1 (fun a h=>.inl h) (fun a o e h=>h.elim id fun q=>(YD ((hfp a q).1.symm.trans (k0 a o e (hfp a q).2.1)))) fun a h=>h.elim (fun q=>(cx.Yz.pu u1).lt a q) fun q=>(hfp a q).2.2
 have dn:=jw m1.cx.Yz
 have p2:Pu s1 {s1 with heap:=s1.heap.push o0}:=Pu.YK s1 o0
 have ne1:∀{a o},s1.heap.get? a=some o→a≠s1.heap.objs.size:=fun {a o} e q=>YD (dn.1.symm.trans (q▸e))
 refine hmk _ _ (Cr (m1.add p2 dn.1 dn.2 (h0 (ck _ hfr))) hok fun cenv s3 L=>?_)
 have keep:∀{a o},s.heap.get? a=some o→a≠PT→s1.heap.get? a=some o:=fun {a o} e q=>k1 a o (k0 a o e q) q
 obtain ⟨St,itr,hst⟩:=hit (fun a=>((X a∨a∈fp)∨a=s1.heap.objs.size)∨Own {cenv with scope:=F6 scope env} scope a) (fun a h=>.inl (.inl (.inl h)))
  (fun a o e h=>by
   by_cases q:a=PT
   ·exact q▸cx.Yz.pt
   ·exact h.elim (fun h=>h.elim (fun h=>h.elim id fun h=>YD ((hfp a h).1.symm.trans e)) fun h=>absurd h (ne1 (k1 a o e q))) fun h=>YD ((L.new a h).1.symm.trans (p2.heap a o (k1 a o e q) q))) (fun a h=>.inl (.inl (.inr h)))
 refine wC cx L ((u1.trans p2).trans L.pu) (fun a h=>.inl (.inl h)) (fun a o e q=>p2.heap a o (keep e q) q) ⟨.inr rfl,fun h=>(hfp _ h).2.2.elim fun o e=>ne1 e rfl,_,ck _ hfr⟩ (fun a h=>⟨.inl (.inr h),(hfp a h).2.2.imp fun o e=>p2.heap a o e (hfp a h).2.1⟩)
  (fun a o h e=>?_) itr (hst s3.heap fun a o e n=>L.pu.heap a o (p2.heap a o e n) n) hn hns hu hg ha he each hRR
 by_cases q:a=PT
 ·exact h.elim (fun h=>(dg m1.cx.Yz).2 (h.symm.trans q)) fun h=>(hfp a h).2.1 q
 ·exact h.elim (ne1 (keep e q)) fun h=>YD ((hfp a h).1.symm.trans (k0 a o e q))
end
end
end
section
section
variable {w:gp}{k:Nat}{A:Around}{X X':Addr→Prop}{env:UI}{sc:Scope}{ρ:Yx}{s:aE}
theorem z6 {h:Heap}{a:Addr}{o:Obj}(e:h.get? a=some o):a≠h.objs.size:=fun q=>by rw[q] at e;exact iE _ (eK e)
theorem qM (ha:Zv k A)(hX:Z6 X s){target:PySem.Expr}{t:UM bX}{l:List D}(h:Ev w A X t (.lst l) s)
  (ht:bj target=true∨(cY target=true∧∀d∈l,∃m,d=.tup m)):bk w A X target t l s:=by
 intro Q E hQ
 refine h _ _ fun v s0 u0 r=>?_
 have X0:=hX.pu u0
 obtain ⟨ax,vs,rfl,⟨n,ho⟩,hax,hr⟩:=r
 have new:s0.heap.get? s0.heap.objs.size=none:=by
  cases e:s0.heap.get? s0.heap.objs.size with
  |none=>rfl
  |some o=>exact absurd (eK e) (iE _)
 have YZ:s0.heap.objs.size≠PT:=fun q=>by obtain ⟨_,e⟩:=X0.tab;rw[←q,new] at e;exact YD e
 refine EP ⟨_,ho,rfl,_,rfl⟩ (hQ s0.heap.objs.size [s0.heap.objs.size] s0.heap _ (u0.trans (Pu.YK _ _)) (fun a o e n=>u0.heap a o e n) (fun a o e n=>b6 _ e) ?_ ?_)
 ·intro a ha
  obtain rfl:=bS.mp ha
  exact⟨new,YZ,⟨_,ck _ rfl⟩⟩
 ·intro X' h1 h2 h3
  refine⟨_,Dn (ha:=ha) (ax:=ax) (vs:=vs) (h3 _ ay) YZ (fun q=>hax (h2 _ _ ho q)) ht,fun h' hk=>⟨⟨_,hk _ _ (ck _ rfl) YZ,rfl,rfl⟩,⟨n,hk _ _ (b6 _ ho) (fun q=>hax (q▸hX.pt))⟩,?_⟩⟩
  exact hr.up ⟨fun a o e n=>hk _ _ (b6 _ e) (fun q=>n (q▸hX.pt)),h2⟩
theorem zG {α:Type}{l a b:List α}(e:l=a++b):a.length≤l.length:=by rw[e,fm];exact f5 _ _
theorem qu {α:Type}{f:D→Bool×α}{l:List D}:(l.flatMap fun d=>aL (f d).1 [(f d).2]).length≤l.length:=by
 induction l with
 |nil=>exact gz _
 |cons a l ih=>
  rw[fk,fm,i9,rS]
  exact fy ih (by cases (f a).1;exact qV 1;exact gz 1)
theorem nM {α:Type}{f:D→Bool×α}{l:List D}{d:D}:((l++[d]).flatMap fun d=>aL (f d).1 [(f d).2])=(l.flatMap fun d=>aL (f d).1 [(f d).2])++aL (f d).1 [(f d).2]:=by
 rw[pT,fk,GA,nK]
noncomputable def Gn (elt:PySem.Expr)(ifs:List PySem.Expr)(c:Code)(Da:Addr)(env:UI):UM PySem.Fin:=
 bI ifs true env >>= fun ok=>if ok=true then(ku elt env >>= fun x=>call (.builtin "list.append") [.ref Da,x] >>= fun Y=>AS ()) >>= fun Y=>TR c else TR c
theorem qQ {ce:UI}{Da:Addr}{elt:PySem.Expr}{ifs:List PySem.Expr}{c:Code}{R:DO→aE→Prop}{C:aE→Prop}{b:Bool}{d:D}{l:List D}(m:Mx w k A X ce sc ρ [(Da,.lst l)] s)(ht:fM w A (bI ifs true ce) b s)(he:b=true→aV w A X (ku elt ce) d s)
  (hl:l.length≤sizeLine) (hC:∀s2,YF (fun x=>x=Da) s s2→Mx w k A X ce sc ρ [(Da,.lst (l++aL b [d]))] s2→C s2):nG w A ce R c (Gn elt ifs c Da ce) C s:=by
 refine ah (ht s (Pu.refl _) _ _ fun s2 u2=>?_)
 cases b with
 |false=>exact bg ⟨rfl,hC s2 (.YB u2) (nK _▸m.pu u2)⟩
 |true=>exact ah (ah (he rfl s2 u2 _ _ fun y s3 u3 ry=>ah (gq (YC:=[]) (m.pu (u2.trans u3)) ry hl fun s4 p4 m4=>bg (bg ⟨rfl,hC s4 ((YF.YB (u2.trans u3)).trans p4) m4⟩))))
noncomputable def EachL (w:gp)(k:Nat)(A:Around)(sc scope:Scope)(ρ:Yx)(t:PySem.Expr)(ifs:List PySem.Expr)(elt:PySem.Expr)(l:List D)(f:D→Bool×D):Prop:=
 ∀d∈l,gk t d (inner scope ρ) fun ρ'=>∀X' cenv s',Cx w k A X' cenv (aG scope sc) ρ' s'→fM w A (bI ifs true cenv) (f d).1 s'∧((f d).1=true→aV w A X' (ku elt cenv) (f d).2 s')
theorem yt (cx:Cx w k A X env sc ρ s){elt target iter:PySem.Expr}{ifs:List PySem.Expr}{scope:Scope}{pos:UK}{l:List D}{f:D→Bool×D}{E:bX→aE→Prop}{RR:bX→Addr→DO→aE→Prop}
  (hok:cO scope sc=true) (hn:bw scope (ak target))
  (src:bk w A X target (ku iter env) l s)
  (each:EachL w k A sc scope ρ target ifs elt l f)
  (hlen:l.length≤sizeLine)
  (hRR:∀acc C s',Pu s s'→(∃m,s'.heap.Ns C m)→s.heap.get? C=none→C≠PT→Rep w s'.heap (fun a=>X a∨a=C) (.lst (l.flatMap fun d=>aL (f d).1 [(f d).2])) acc→RR acc C (.ok .next) s') :
  cE (cS PW w) A (ku iter env) (fun x s₁=>cE (cS PW w) A (BQ x) (fun it s₂=>cE (cS PW w) A (newList []) (fun acc s₃=>
   cE (cS PW w) A (AB scope env.globals (dG env.cells scope.names []) [] env.qual none .none (some env)) (fun cenv s₄=>
    A8 (cS PW w) A (.compStart (.ListComp elt [⟨target,iter,ifs,0⟩] scope pos) 0 it acc {cenv with scope:=F6 scope env}) (RR acc cenv.locals) s₄) E s₃) E s₂) E s₁) E s:=by
 refine sW cx [] (acc:=fun done=>.lst (done.flatMap fun d=>aL (f d).1 [(f d).2])) hok hn (fun x h=>nomatch h) src rfl (fun Y Y h=>CH h) (fun e=>.lst _ _ rfl ⟨_,e⟩ aX.nil) (fun it acc env=>⟨⟨rfl,rfl⟩,rfl,rfl⟩) rfl rfl
  (body:=fun it Da env=>Gn elt ifs (.compLoop (.ListComp elt [⟨target,iter,ifs,0⟩] scope pos) 0 it (.ref Da) env) Da env) (fun it Da env=>compTurn_list elt target iter ifs scope pos it (.ref Da) env) (fun {done d r} e1=>?_) hRR
 obtain ⟨ρ',hb,hev⟩:=each d (e1▸jv _ ay)
 exact⟨ρ',hb,fun X' ce Da s1 R it C m hC=>qQ m (hev X' ce s1 m.cx).1 (hev X' ce s1 m.cx).2 (ai qu (ai (zG e1) hlen)) fun s2 p m=>hC s2 (p.mono fun a h=>.inr h) (nM▸m)⟩
end
end
section
noncomputable abbrev KD:=List (Str×D)
noncomputable def aj (m:KD):D:=.dct (m.map (fun x=>x.1)) (m.map (fun x=>x.2))
noncomputable def putD (m:KD)(k:Str)(d:D):KD:=if m.any (fun p=>p.1=k) then m.map (fun p=>if p.1=k then(p.1,d) else p) else m++[(k,d)]
noncomputable def Zg (m:KD)(k:Str):Option D:=(m.find? fun p=>p.1=k).map (fun x=>x.2)
noncomputable def a1N:D→List Int
 | .tup l=>l.map D.toInt
 |_=>[]
noncomputable def a0E:D→D→D
 | .int a,.int b=>.int (b+a)
 |a,b=>.tup ((MY (·+·) (a1N a) (a1N b)).map .int)
noncomputable def dX (m:KD)(k:Str)(d:D):KD:=putD m k (match Zg m k with|some o=>a0E d o|none=>d)
noncomputable def aF (m:KD):KD→KD
 | []=>m
 |(k,d)::r=>aF (dX m k d) r
noncomputable def IsI (d:D):Prop:=∃i,d=.int i
noncomputable def IsP (d:D):Prop:=∃a b,d=.tup [.int a,.int b]
noncomputable def Kinds (t s:KD):Prop:=((∀p∈t,IsI p.2)∧∀p∈s,IsI p.2)∨((∀p∈t,IsP p.2)∧∀p∈s,IsP p.2)
theorem tu {m:KD}{k:Str}(h:k∉m.map (fun x=>x.1)):m.any (fun p=>p.1=k)=false:=by
 rw[MQ]
 intro p hp
 simp only[decide_eq_true_eq]
 exact fun e=>h (e▸i6 (f:=zI) hp)
theorem pL {m:KD}{k:Str}{d:D}(h:k∉m.map (fun x=>x.1)):putD m k d=m++[(k,d)]:=by unfold putD;rw[tu h];rfl
section
variable {w:gp}{k:Nat}{A:Around}{X X':Addr→Prop}{env:UI}{sc:Scope}{ρ ρ':Yx}{s s':aE}{μ YC YM:YX}
theorem aX.stored {h:Heap}{m:KD}{kvs:List (Str×bX)}{key:Str}{d:D}{v:bX}(hk:kvs.map (fun x=>x.1)=m.map (fun x=>x.1))(hr:aX w h X (m.map (fun x=>x.2)) (kvs.map (fun x=>x.2)))(hd:Rep w h X d v):
  (RY kvs key v).map (fun x=>x.1)=(putD m key d).map (fun x=>x.1)∧aX w h X ((putD m key d).map (fun x=>x.2)) ((RY kvs key v).map (fun x=>x.2)):=by
 have hany:kvs.any (fun kv=>kv.1=key)=m.any (fun p=>p.1=key):=(Si (f:=fun p:Str×bX=>p.1) (p:=fun x=>decide (x=key))).symm.trans ((congrArg (List.any · fun x=>decide (x=key)) hk).trans Si)
 unfold putD RY
 rw[hany]
 cases m.any (fun p=>p.1=key) with
 |true=>
  rw[if_pos rfl,if_pos rfl]
  clear hany
  induction m generalizing kvs with
  |nil=>
   obtain rfl:=List.map_eq_nil_iff.mp hk
   exact⟨rfl,aX.nil⟩
  |cons p m ih=>
   cases kvs with
   |nil=>exact(nomatch hk)
   |cons q kvs=>
    obtain ⟨h1,h2⟩:=F8 hk
    obtain ⟨v',t,e,r1,r2⟩:=hr
    obtain ⟨rfl,rfl⟩:=F8 e
    obtain ⟨i1,i2⟩:=ih h2 r2
    have h1:q.1=p.1:=h1
    refine⟨congr (congrArg UB (show(if q.1=key then(q.1,v) else q).1=(if p.1=key then(p.1,d) else p).1 from ?_)) i1,.cons (show Rep w h X (if p.1=key then(p.1,d) else p).2 (if q.1=key then(q.1,v) else q).2 from ?_) i2⟩
    ·rw[h1];split
     ·rfl
     ·exact h1
    ·rw[h1];split
     ·exact hd
     ·exact r1
 |false=>
  rw[if_neg nV,if_neg nV,g9,g9,g9,g9]
  exact⟨congrArg (·++[key]) hk,hr.append (.one hd)⟩
theorem FQ {a:Addr}{m:KD}(mx:Mx w k A X env sc ρ (YC++(a,aj m)::YM) s){key:Str}{v:bX}{d:D}{T:UM Unit}{Q:Unit→aE→Prop}{E:bX→aE→Prop}
  (hT:∀kvs,s.heap.DictOf (SK w) a kvs→kvs.length≤sizeLine→(∀h',h'.DictOf (SK w) a (RY kvs key v)→AY a s.heap h'→Q () {s with heap:=h',toks:=s.toks+1})→cE (cS PW w) A T Q E s)
  (r:Rep w s.heap X d v) (hl:m.length≤sizeLine) (hQ:∀s',YF (fun x=>x=a) s s'→Mx w k A X env sc ρ (YC++(a,aj (putD m key d))::YM) s'→Q () s'):cE (cS PW w) A T Q E s:=by
 obtain ⟨kvs,hp,hk,hr⟩:=(mx.mu.at_ _ mem_mid).d
 refine hT kvs hp (ai (ee ?_) hl) fun h5 hl5 hs5=>?_
 ·have:=congrArg CS hk
  rwa [bP,bP] at this
 ·have pb:=YF.one (n:=s.toks+1) hs5 (mx.mu.YZ mem_mid)
  have up:=pb.up mx.cx.Yz.pt fun b e=>e▸mx.mu.x _ mem_mid
  obtain ⟨g1,g2⟩:=aX.stored (key:=key) hk (hr.up up) (r.up up _ _)
  exact hQ _ pb (mx.turn pb (.dct _ _ _ rfl hl5 g1 g2))
theorem FW {a:Addr}{m:KD}(mx:Mx w k A X env sc ρ (YC++(a,aj m)::YM) s){key:Str}{t:UN}{v:bX}{d:D}{Q:Unit→aE→Prop}{E:bX→aE→Prop}(r:Rep w s.heap X d v)(hl:m.length≤sizeLine)
  (hQ:∀s',YF (fun x=>x=a) s s'→Mx w k A X env sc ρ (YC++(a,aj (putD m key d))::YM) s'→Q () s'):cE (cS PW w) A (setItem (.ref a) (.str key t) v) Q E s:=
 FQ mx (fun kvs hp hz h=>wpAny_setItem_pairs (hsz:=hz) (EI PW w _ t) hp h) r hl hQ
end
end
section
section
variable {w:gp}{k:Nat}{A:Around}{X X':Addr→Prop}{env:UI}{sc:Scope}{ρ:Yx}{s:aE}
noncomputable def bO (w:gp)(A:Around)(X:Addr→Prop)(es:List PySem.Expr)(env:UI)(ds:List D)(s:aE):Prop:=
 ∀pos s',Pu s s'→∀(Q:List bX→aE→Prop) (E:bX→aE→Prop),(∀vs s'',Pu s' s''→aX w s''.heap X ds vs→Q vs s'')→cE (cS PW w) A (SE (FU pos (zS es env))) Q E s'
theorem bO.pu {es ds}{s s':aE}(x:bO w A X es env ds s)(u:Pu s s'):bO w A X es env ds s':=fun p s'' v=>x p s'' (u.trans v)
theorem args_nil:bO w A X [] env [] s:=fun pos s' u Q E hQ=>kC (hQ _ _ (Pu.refl _) .nil)
noncomputable def isStarred (e:PySem.Expr):Bool:=K2 e.ctorIdx 22
theorem ao {e:PySem.Expr}{es:List PySem.Expr}(h:isStarred e=false):zS (e::es) env=(false,ku e env)::zS es env:=by
 cases e<;>first|rfl|cases h
theorem args_cons (hX:Z6 X s){e:PySem.Expr}{es:List PySem.Expr}{d:D}{ds:List D}(h:isStarred e=false)(h1:aV w A X (ku e env) d s)(h2:bO w A X es env ds s):bO w A X (e::es) env (d::ds) s:=by
 intro pos s' u Q E hQ
 refine iX ((h1.pu u).now _ _ fun v s1 u1 r1=>(h2.pu (u.trans u1)) pos s1 (Pu.refl _) _ _ fun vs s2 u2 r2=>?_) (ao h)
 exact hQ _ _ (u1.trans u2) (.cons (r1.up (u2.up hX.pt) _ _) r2)
theorem bO.len {es:List PySem.Expr}{ds:List D}{vs:List bX}{h:Heap}(r:aX w h X ds vs):vs.length=ds.length:=r.length
theorem kh (hX:Z6 X s){es:List PySem.Expr}{ds:List D}{kk:Nat}{pos:UK}(hlen:ds.length<100)(h:bO w A X es env ds s):aV w A X (ku (.Tuple es kk pos) env) (.tup ds) s:=by
 intro s' u Q E hQ
 refine CU (h pos s' u _ _ fun vs s1 u1 r=>⟨?_,?_⟩)
 ·rw[r.length,c9];exact Lh hlen
 ·have X1:=hX.pu (u.trans u1)
  refine hQ _ _ (u1.trans (Pu.YK _ _)) ?_
  exact⟨_,vs.toArray,rfl,⟨_,ck _ rfl⟩,X1.new,aX.up dC ds vs r⟩
theorem ph (hX:Z6 X s){es:List PySem.Expr}{ds:List D}{pos:UK}(hlen:ds.length<100)(h:bO w A X es env ds s):aV w A X (ku (.List es pos) env) (.lst ds) s:=by
 intro s' u Q E hQ
 refine Mc (h pos s' u _ _ fun vs s1 u1 r=>⟨?_,?_⟩)
 ·rw[r.length,c9];exact Lh hlen
 ·have X1:=hX.pu (u.trans u1)
  refine hQ _ _ (u1.trans (Pu.YK _ _)) ?_
  exact⟨_,vs.toArray,rfl,⟨_,ck _ rfl⟩,X1.new,aX.up dC ds vs r⟩
theorem CQ {op:UnaryOp}{e:PySem.Expr}{pos:UK}{a d:D}{cs:List Prop}(he:aV w A X (ku e env) a s)(h:dUn op a=some (d,cs)):aV w A X (ku (.UnaryOp op e pos) env) d s:=by
 intro s' u Q E hQ
 refine wpAny_UnaryOp ((he.pu u).now _ _ fun v s1 u1 r1=>?_)
 cases op with
 |USub=>
  replace h:=cj h;obtain ⟨x,rfl,h⟩:=h
  obtain ⟨rfl,_⟩:=dQ (aI h);obtain ⟨t,rfl⟩:=r1
  exact neg_int (hQ _ _ (u1.trans (Pu.toks _ _)) cI)
 |Invert=>
  replace h:=cj h;obtain ⟨x,rfl,h⟩:=h
  obtain ⟨rfl,_⟩:=dQ (aI h);obtain ⟨t,rfl⟩:=r1
  exact invert_int (hQ _ _ (u1.trans (Pu.toks _ _)) cI)
 |_=>exact Fw h
theorem pY {d:D}{b:Bool}{v:bX}{Q:Bool→aE→Prop}{E:bX→aE→Prop}(h:gh d=some b)(r:Rep w s.heap X d v)
  (hm:∀o a,s.heap.get? a=some o→o.cls=.type "re.Match"→Q true s→cE (cS PW w) A (SW (.ref a)) Q E s)
  (hQ:Q b s):cE (cS PW w) A (SW v) Q E s:=by
 cases d with
 |bool c=>obtain rfl:=aI h;subst r;exact A6 hQ
 |mat c=>
  obtain rfl:=aI h
  cases c
  ·cases (show _=kG from r)
   exact truthy_none hQ
  ·obtain ⟨a,o,rfl,ho,hx,hc⟩:=r
   exact hm o a ho hc hQ
 |_=>exact YD h
theorem iT {o:Obj}{a:Addr}{Q:Bool→aE→Prop}{E:bX→aE→Prop}(ho:s.heap.get? a=some o)(hc:o.cls=.type "re.Match")(hQ:Q true s):cE (cS PW w) A (SW (.ref a)) Q E s:=by
 have hT:s.TypeIs (.ref a) "re.Match":=⟨o,ho,hc⟩
 unfold SW
 refine ah (m:=callSpecial? (.ref a) (af "__bool__")) (ah (zv hT (r:=none) (by kernel_rfl) (bg ?_)))
 refine ah (zv hT (r:=none) (by kernel_rfl) ?_)
 exact bg hQ
structure Snd (w:gp)(A:Around)(X:Addr→Prop)(e:PySem.Expr)(env:UI)(d:D)(s:aE):Prop where
 ev:aV w A X (ku e env) d s
 test:∀b,gh d=some b→fM w A (isTrue e env (ku e env)) b s
theorem Snd.pu {e:PySem.Expr}{d:D}{s s':aE}(x:Snd w A X e env d s)(u:Pu s s'):Snd w A X e env d s':=⟨x.ev.pu u,fun b h=>(x.test b h).pu u⟩
noncomputable def a02:PySem.Expr→Bool
 | .UnaryOp .Not _ _=>false
 | .BoolOp _ _ _=>false
 | .IfExp _ _ _ _=>false
 | .Compare _ _ _ _=>false
 |_=>true
set_option tactic.hygienic true in
theorem isTrue_plain {e:PySem.Expr}(h:a02 e=true)(whole:UM bX):isTrue e env whole=(do let v←whole;GV e.pos;M1 [v] (SW v)):=by
 cases e<;>first|rfl|skip
 case UnaryOp op _ _=>cases op<;>first|rfl|exact noB h
 all_goals exact noB h
theorem rP {e:PySem.Expr}{d:D}(h:a02 e=true)(he:aV w A X (ku e env) d s):Snd w A X e env d s:=
 ⟨he,fun b hb s' u Q E hQ=>wpAny_isTrue_value ((he.pu u).now _ _ fun v s1 u1 r=>pY hb r (fun o a ho hc hq=>iT ho hc hq) (hQ _ u1)) (isTrue_plain h _)⟩
theorem aM (ha:Zv k A)(hX:Z6 X s){l r:PySem.Expr}{op:UD}{pos:UK}{a b d:D}{cs:List Prop}(hl:aV w A X (ku l env) a s)(hr:aV w A X (ku r env) b s)
  (h:Gw op a b=some (d,cs)) (hc:AllP cs) (hm:behindInMarks op r=false):Snd w A X (.Compare l [op] [r] pos) env d s:=by
 have core:∀s',Pu s s'→∀(Q:bX→aE→Prop) (E:bX→aE→Prop),(∀v s'',Pu s' s''→Rep w s''.heap X d v→Q v s'')→
   cE (cS PW w) A (ku l env) (fun a s₁=>cE (cS PW w) A (ku r env) (fun b s₂=>cE (cS PW w) A (wc op a b) Q E s₂) E s₁) E s':=by
  intro s' u Q E hQ
  refine(hl.pu u).now _ _ fun v s1 u1 r1=>(hr.pu (u.trans u1)).now _ _ fun v' s2 u2 r2=>?_
  exact Jg ha h hc (r1.up (u2.up hX.pt) _ _) r2 _ _ fun v'' s3 u3 r3=>hQ _ _ (u1.trans (u2.trans u3)) r3
 refine⟨fun s' u Q E hQ=>P8 (core s' u Q E hQ) hm,fun b hb s' u Q E hQ=>IA (core s' u _ E fun v s1 u1 r=>?_) hm⟩
 exact pY hb r (fun o a ho hc hq=>iT ho hc hq) (hQ _ u1)
inductive Iv {α β:Type}(P:α→β→Prop):List α→List β→Prop
 |nil:Iv P [] []
 |cons {a b l l'}:P a b→Iv P l l'→Iv P (a::l) (b::l')
noncomputable def boolOf (all:Bool):List Bool→Bool
 | []=>all
 |a::l=>match all with|true=>a&&boolOf all l|false=>a||boolOf all l
theorem pQ {op:BoolOp}{pos:UK}:∀{es:List PySem.Expr} {bs:List Bool} {s:aE},es.isEmpty=false→Iv (fun e b=>Snd w A X e env (.bool b) s) es bs→Snd w A X (.BoolOp op es pos) env (.bool (boolOf (op==.And) bs)) s:=by
 intro es bs s hne h
 constructor
 ·revert hne
  induction h with
  |nil=>intro h;simp at h
  | @cons e b es bs h1 h2 ih=>
   intro _ s' u Q E hQ
   cases h2 with
   |nil=>
    refine BoolOp_one ((h1.ev.pu u).now _ _ fun v s1 u1 r=>hQ _ _ u1 ?_)
    cases op<;>cases b<;>exact r
   | @cons e2 b2 es bs h2 h3=>
    have ih:=ih (by rfl)
    cases op with
    |And=>
     refine BoolOp_and ((h1.ev.pu u).now _ _ fun v s1 u1 r=>?_)
     have r':=r
     obtain rfl:=r
     refine A6 ?_
     cases b with
     |false=>simp only[fh,if_false];exact hQ _ _ u1 (by exact r')
     |true=>simp only[if_true];exact ih s1 (u.trans u1) _ _ fun v s2 u2 r2=>hQ _ _ (u1.trans u2) (by exact r2)
    |Or=>
     refine BoolOp_or ((h1.ev.pu u).now _ _ fun v s1 u1 r=>?_)
     have r':=r
     obtain rfl:=r
     refine A6 ?_
     cases b with
     |true=>simp only[if_true];exact hQ _ _ u1 (by exact r')
     |false=>simp only[fh,if_false];exact ih s1 (u.trans u1) _ _ fun v s2 u2 r2=>hQ _ _ (u1.trans u2) (by exact r2)
 ·intro b hb
  cases hb
  intro s' u Q E hQ
  refine wpAny_isTrue_BoolOp ?_
  clear hne
  revert s'
  induction h with
  |nil=>
   intro s' u hQ
   exact bg (hQ _ (Pu.refl _))
  | @cons e b es bs h1 h2 ih=>
   intro s' u hQ
   refine ah (((h1.test b rfl).pu u) _ (Pu.refl _) _ _ fun s1 u1=>?_)
   cases op<;>cases b
   ·exact bg (hQ _ u1)
   ·exact ih s1 (u.trans u1) fun s2 u2=>hQ _ (u1.trans u2)
   ·exact ih s1 (u.trans u1) fun s2 u2=>hQ _ (u1.trans u2)
   ·exact bg (hQ _ u1)
theorem j4 {c:Bool}{y z d:D}(h:NT c y z=some d):d=if c then y else z:=by
 cases y with
 |int y=>
  cases z with
  |int z=>obtain rfl:=aI h;cases c<;>rfl
  |_=>exact YD h
 |str y=>
  cases z with
  |str z=>obtain rfl:=aI h;cases c<;>rfl
  |_=>exact YD h
 |_=>exact YD h
theorem Ig {t b o:PySem.Expr}{pos:UK}{x y z d:D}{c:Bool}(ht:Snd w A X t env x s)(hb:Snd w A X b env y s)(ho:Snd w A X o env z s)(hx:gh x=some c)(h:NT c y z=some d):Snd w A X (.IfExp t b o pos) env d s:=by
 constructor
 ·intro s' u Q E hQ
  refine OC (((ht.test c hx).pu u) _ (Pu.refl _) _ _ fun s1 u1=>?_)
  cases c with
  |true=>obtain rfl:d=y:=j4 h;exact hb.ev s1 (u.trans u1) _ _ fun v s2 u2 r=>hQ _ _ (u1.trans u2) r
  |false=>obtain rfl:d=z:=j4 h;exact ho.ev s1 (u.trans u1) _ _ fun v s2 u2 r=>hQ _ _ (u1.trans u2) r
 ·intro b' hb' s' u Q E hQ
  refine isTrue_IfExp (((ht.test c hx).pu u) _ (Pu.refl _) _ _ fun s1 u1=>?_)
  cases c with
  |true=>obtain rfl:d=y:=j4 h;exact hb.test b' hb' s1 (u.trans u1) _ _ fun s2 u2=>hQ _ (u1.trans u2)
  |false=>obtain rfl:d=z:=j4 h;exact ho.test b' hb' s1 (u.trans u1) _ _ fun s2 u2=>hQ _ (u1.trans u2)
end
end
section
section
variable {w:gp}{k:Nat}{A:Around}{X X':Addr→Prop}{env:UI}{sc:Scope}{ρ:Yx}{s:aE}
structure au (w:gp)(c:Hooks)(K:Nat):Prop where
 fn:∀f ds d cs,a0f.contains f=true→c.fn f ds=some (d,cs)→AllP cs→∀A X s vs,Zv K A→Z6 X s→Base w X s.heap→aX w s.heap X ds vs→Ev w A X (call (.ref f) vs) d s
 me:∀m a ds d cs,c.me m a ds=some (d,cs)→AllP cs→∀A X env sc ρ s,Cx w K A X env sc ρ s→∀o p args apos pos,aV w A X (ku (.Name o p) env) a s→bO w A X args env ds s→
  (∀e∈args,isStarred e=false)→(apos.endLine==pos.line)=true→args.length<30→ds.length=args.length→aV w A X (ku (.Call (.Attribute (.Name o p) m apos) args [] pos) env) d s
 bi:∀id ds d cs,c.bi id ds=some (d,cs)→AllP cs→∀A X s vs,Zv K A→Z6 X s→Base w X s.heap→aX w s.heap X ds vs→Ev w A X (call (.builtin id) vs) d s
theorem Zv.mono {k k':Nat}(h:k≤k')(a:Zv k' A):Zv k A:=⟨a.handled,by have:=a.depth;exact SJ h this,by have:=a.units;exact Ry h this⟩
theorem au.mono {c:Hooks}{K K':Nat}(h:K≤K')(x:au w c K):au w c K':=
 ⟨fun f ds d cs h0 h1 h2 A X s vs ha=>x.fn f ds d cs h0 h1 h2 A X s vs (ha.mono h),fun m a ds d cs h1 h2 A X env sc ρ s cx=>x.me m a ds d cs h1 h2 A X env sc ρ s ⟨cx.a.mono h,cx.Yz,cx.base,cx.vis⟩,
  fun f ds d cs h1 h2 A X s vs ha=>x.bi f ds d cs h1 h2 A X s vs (ha.mono h)⟩
theorem YH:∀{es:List PySem.Expr} {pos:UK},(∀e∈es,isStarred e=false)→(FU pos (zS es env)).any (fun x=>x.1)=false
 | [],pos,_=>rfl
 |e::es,pos,h=>by
  rw[ao (h e ay)]
  have:=YH (es:=es) (pos:=pos) fun e' m=>h e' (bE _ m)
  unfold FU at this ⊢
  simpa using this
theorem bc {f:bX}{es:List PySem.Expr}{ds:List D}{pos:UK}(h:bO w A X es env ds s)(hpl:∀e∈es,isStarred e=false)(hnil:es=[]→ds=[]):
  ∀s',Pu s s'→∀(Q:Args→aE→Prop) (E:bX→aE→Prop),(∀vs s'',Pu s' s''→aX w s''.heap X ds vs→Q ⟨vs,[]⟩ s'')→cE (cS PW w) A (evalArgs f true (FU pos (zS es env)) []) Q E s':=by
 intro s' u Q E hQ
 cases es with
 |nil=>cases hnil rfl;exact AP (hQ [] s' (Pu.refl _) .nil)
 |cons e es=>
  have h1:=h pos s' u (fun vs s''=>Q ⟨vs,[]⟩ s'') E hQ
  rw[ao (hpl e ay)] at h1 ⊢
  exact w4 h1
theorem gw {c:Hooks}(H:au w c k)(cx:Cx w k A X env sc ρ s){f:Str}{fp pos:UK}{es:List PySem.Expr}{ds:List D}{id:String}{d:D}{cs:List Prop}
  (hf:aV w A X (ku (.Name f fp) env) (.val (.builtin id)) s) (ha:bO w A X es env ds s) (hpl:∀e∈es,isStarred e=false) (hnil:es=[]→ds=[])
  (h:c.bi id ds=some (d,cs)) (hc:AllP cs):aV w A X (ku (.Call (.Name f fp) es [] pos) env) d s:=by
 intro s' u Q E hQ
 refine kN ((hf.pu u).now _ _ fun v s1 u1 r1=>?_)
 obtain rfl:=r1
 refine iL (YH hpl) (bc ha hpl hnil s1 (u.trans u1) _ _ fun vs s2 u2 r2=>?_)
 have c2:=cx.pu (u.trans (u1.trans u2))
 exact H.bi id ds d cs h hc A X s2 _ cx.a c2.Yz c2.base r2 _ _ fun v s3 u3 r3=>hQ _ _ (u1.trans (u2.trans u3)) r3
theorem a1C:∀f∈a0f,(Zd.lookup f).isSome=true:=by decide +kernel
theorem jr {c:Hooks}(H:au w c k)(cx:Cx w k A X env sc ρ s){f:Str}{fp pos:UK}{es:List PySem.Expr}{ds:List D}{a:Addr}{d:D}{cs:List Prop}
  (hf:aV w A X (ku (.Name f fp) env) (.val (.ref a)) s) (ha:bO w A X es env ds s) (hpl:∀e∈es,isStarred e=false) (hnil:es=[]→ds=[]) (hk:a0f.contains a=true)
  (h:c.fn a ds=some (d,cs)) (hc:AllP cs):aV w A X (ku (.Call (.Name f fp) es [] pos) env) d s:=by
 intro s' u Q E hQ
 refine kN ((hf.pu u).now _ _ fun v s1 u1 r1=>?_)
 obtain rfl:=r1
 obtain ⟨x,hx⟩:=qE.mp (a1C a (by simpa using hk))
 obtain ⟨o,fd,h1,h2,h3⟩:=(cx.base.fns a x hx).here
 have hne:a≠PT:=fun q=>(cx.base.fns a x hx).nx (q▸cx.Yz.pt)
 refine BH (bc ha hpl hnil s1 (u.trans u1) _ _ fun vs s2 u2 r2=>⟨⟨(u.trans (u1.trans u2)).heap _ _ h1 hne,h3⟩,?_⟩)
 have c2:=cx.pu (u.trans (u1.trans u2))
 exact H.fn a ds d cs hk h hc A X s2 _ cx.a c2.Yz c2.base r2 _ _ fun v s3 u3 r3=>hQ _ _ (u1.trans (u2.trans u3)) r3
end
end
section
section
variable {w:gp}{k:Nat}{A:Around}{X X':Addr→Prop}{env:UI}{sc:Scope}{ρ:Yx}{s:aE}
noncomputable def qb (w:gp)(A:Around)(X:Addr→Prop)(e:Option PySem.Expr)(env:UI)(i:Option Int)(s:aE):Prop:=
 match e,i with
 |none,none=>True
 |some e,some i=>aV w A X (ku e env) (.int i) s
 |_,_=>False
theorem uq {e:Option PySem.Expr}{i:Option Int}(h:qb w A X e env i s):∀s',Pu s s'→∀(Q:bX→aE→Prop) (E:bX→aE→Prop),(∀v s'',Pu s' s''→PE v i→Q v s'')→cE (cS PW w) A (evalPart e env) Q E s':=by
 intro s' u Q E hQ
 cases e with
 |none=>
  cases i with
  |none=>exact bg (hQ _ _ (Pu.refl _) .none)
  |some i=>exact h.elim
 |some e=>
  cases i with
  |none=>exact h.elim
  |some i=>
   refine h s' u _ _ fun v s1 u1 r=>?_
   obtain ⟨t,rfl⟩:=r
   exact hQ _ _ u1 (.int i t)
theorem jB (lo hi st:Option PySem.Expr)(sp:UK)(o i:bX):∃ops,C4 (.Slice lo hi st sp) false o i=Kn ops (CM o i):=by
 cases st with
 |none=>exact⟨_,rfl⟩
 |some st=>exact⟨_,rfl⟩
theorem CP (hX:Z6 X s){e:PySem.Expr}{lo hi st:Option PySem.Expr}{sp pos:UK}{a d:D}{l u t:Option Int}(he:aV w A X (ku e env) a s)
  (h1:qb w A X lo env l s) (h2:qb w A X hi env u s) (h3:qb w A X st env t s)
  (h:∀s' va vi i1 i2 i3,Pu s s'→Rep w s'.heap X a va→s'.heap.IsSliceOf vi i1 i2 i3→PE i1 l→PE i2 u→PE i3 t→ItemOn w A X va (.ref vi) d s') :
  aV w A X (ku (.Subscript e (.Slice lo hi st sp) pos) env) d s:=by
 intro s₀ u₀ Q E hQ
 rw[P7]
 refine ah ((he.pu u₀).now _ _ fun v s₁ u₁ r1=>ah (fT (wpAny_Slice (uq h1 s₁ (u₀.trans u₁) _ _ fun p1 s2 u2 q1=>uq h2 s2 (u₀.trans (u₁.trans u2)) _ _ fun p2 s3 u3 q2=>
  uq h3 s3 (u₀.trans (u₁.trans (u2.trans u3))) _ _ fun p3 s4 u4 q3=>ah (pV ?_)))))
 have v4:=u2.trans (u3.trans u4)
 have up:Pu s4 {s4 with heap:=s4.heap.push {cls:=.type "slice",data:=.fields #[p1,p2,p3]}}:=Pu.YK _ _
 have hs5:({s4 with heap:=s4.heap.push {cls:=.type "slice",data:=.fields #[p1,p2,p3]}}:aE).heap.IsSliceOf s4.heap.objs.size p1 p2 p3:=.new _ _ _ _
 generalize ({s4 with heap:=s4.heap.push {cls:=.type "slice",data:=.fields #[p1,p2,p3]}}:aE)=s5 at up hs5 ⊢
 obtain ⟨T,id,hl,hT,hg⟩:=h s5 v s4.heap.objs.size p1 p2 p3 (u₀.trans (u₁.trans (v4.trans up))) (r1.up ((v4.trans up).up hX.pt) _ _) hs5 q1 q2 q3
 refine ah ?_
 rw[Iq hT.not_modules]
 refine ah (zv hT hl ?_)
 obtain ⟨ops,a4U⟩:=jB lo hi st sp v (.ref s4.heap.objs.size)
 refine bg (ah ?_)
 rw[a4U]
 exact OQ (hg _ _ fun r s₃ a2m r3=>ah (IU (bg (hQ _ _ ((u₁.trans (v4.trans up)).trans a2m) r3))))
theorem Ea {h:Heap}{l:List D}{vs:List bX}(r:aX w h X l vs)(lo hi st:Option Int):aX w h X (nq l lo hi st) (S0 vs.toArray lo hi st).toList:=by
 unfold nq S0
 have e:=r.length
 simp only[nh,e]
 generalize C2 _ _ _=is
 induction is with
 |nil=>simpa using aX.nil
 |cons i is ih=>
  simp only[sA] at ih ⊢
  cases hl:l[i]? with
  |none=>
   have:vs[i]?=none:=by
    rw[List.getElem?_eq_none_iff] at hl ⊢;exact TG e hl
   have e2:vs.toArray[i]?=none:=by simpa using this
   rw[e2]
   exact ih
  |some d=>
   obtain ⟨v,hv,hr⟩:=r.get hl
   have e2:vs.toArray[i]?=some v:=by simpa using hv
   rw[e2]
   exact .cons hr ih
theorem zY {h:Heap}{l:List D}{vs:Array bX}(r:aX w h X l vs.toList)(lo hi st:Option Int):aX w h X (nq l lo hi st) (S0 vs lo hi st).toList:=by
 simpa using Ea r lo hi st
theorem sJ (b n:Nat)(hb:b≤n):AH none (some (b:Int)) 1 (n:Int)=((0:Int),(b:Int)):=by
 unfold AH
 have h1:¬((1:Int)<0):=by exact a4n
 have h2:¬((b:Int)<0):=by exact Vr
 simp only[h1,h2,if_false]
 congr 1
 exact Rb hb
theorem ur (b:Nat):vS (0:Int) (b:Int) 1=b:=by
 unfold vS
 have h1:(1:Int)>0:=by exact a4o
 simp only[h1,if_true,Sj]
 split<;>(first|exact Ri (by assumption)|exact RB (by assumption))
theorem jz {sl:Addr}{b n:Nat}{u:UN}{Q:Int×Int×Nat→aE→Prop}{E:bX→aE→Prop}(hs:s.heap.IsSliceOf sl .none (.int b u) .none)(hb:b≤n)(h:Q (0,1,b) s):
  cE (cS PW w) A (DJ (.ref sl) (AS (n:Int))) Q E s:=by
 obtain ⟨os,hos,hcs,hds⟩:=id hs
 unfold DJ PD
 refine ah (ah (kc hos hds (x:=.none) rfl (ah (kc hos hds (x:=.int b u) rfl (ah (kc hos hds (x:=.none) rfl (bg ?_)))))))
 refine ah (P9 ?_)
 show cE _ _ (if((1:Int)==0)=true then _ else _) _ _ s
 rw[if_neg (by decide)]
 refine ah (P9 (ah (slicePart_int (ah (bg ?_)))))
 show cE _ _ (match AH none (some (b:Int)) 1 (n:Int) with|(lo,hi)=>AS (lo,(1:Int),vS lo hi 1)) _ _ s
 rw[sJ b n hb]
 show cE _ _ (AS ((0:Int),(1:Int),vS (0:Int) (b:Int) 1)) _ _ s
 rw[ur b]
 exact bg h
theorem zZ (xs:Array bX)(b:Nat)(hb:b≤xs.size):((jI b).filterMap fun(k:Nat)=>xs[((0:Int)+(k:Int)*1).toNat]?).toArray=(xs.toList.take b).toArray:=by
 have e:(fun(k:Nat)=>xs[((0:Int)+(k:Int)*1).toNat]?)=fun k=>xs[k]?:=by
  funext k
  have:((0:Int)+(k:Int)*1).toNat=k:=by exact Pn
  rw[this]
 rw[e]
 congr 1
 induction b with
 |zero=>simp
 |succ b ih=>
  rw[List.range_succ,List.filterMap_append,ih (by exact xN hb)]
  have hb':b<xs.size:=by exact Vb hb
  simp[ME,hb']
theorem j7 {t sl:Addr}{items:Array bX}{b:Nat}{u:UN}{Q:bX→aE→Prop}{E:bX→aE→Prop}(ht:IsTup s.heap t items)(hs:s.heap.IsSliceOf sl .none (.int b u) .none)(h1:1≤b)(hb:b<items.size)
  (h:Q (.ref s.heap.objs.size) {s with heap:=s.heap.push {cls:=.type "tuple",data:=.seq (items.toList.take b).toArray}})
  (hsz:items.size≤sizeLine):cE (cS PW w) A (CM (.ref t) (.ref sl)) Q E s:=by
 have hdrop:sizeOk (.seq (items.toList.take b).toArray):=by
  show(items.toList.take b).toArray.size≤sizeLine
  rw[nh,yb,iS]
  exact QJ hb hsz
 obtain ⟨os,hos,hcs,hds⟩:=id hs
 have hTs:s.TypeIs (.ref sl) "slice":=⟨os,hos,hcs⟩
 unfold CM
 try with_reducible refine fT ?_
 first|refine ah (bg ?_)|skip
 refine ah (wpAny_sequenceKey ht.typeIs (by decide) ?_)
 refine ah (rj (name:=af "__getitem__") ht.typeIs sQ
  (kP sQ ht.typeIs entry_tuple_getitem ?_ (args_tuple_getitem _ _)))
 show cE _ _ (OZ (.ref t) >>= _) _ _ s
 refine ah (tupleItemsOf_ ht ?_)
 refine ah (MZ hTs ?_)
 rw[if_pos (by decide)]
 refine ah (jz hs (fz hb) ?_)
 have hno:¬(((0:Int)==0&&(1:Int)==1&&b==items.size)=true):=by
  have:(b==items.size)=false:=by rw[beq_eq_false_iff_ne];exact Vf hb
  rw[this];simp
 show cE _ _ (if((0:Int)==0&&(1:Int)==1&&b==items.size)=true then _ else _) _ _ s
 rw[if_neg hno,zZ items b (fz hb)]
 first
  |exact ah (m:=x8 _) (l7 (bg ⟨_,rfl,bg h⟩) hdrop)
  |exact ah (m:=x8 _) (l7 (ah (bg (bg ⟨_,rfl,bg h⟩))) hdrop)
  |exact ah (ah (m:=x8 _) (l7 (bg (bg ⟨_,rfl,bg h⟩)) hdrop))
  |exact ah (ah (m:=x8 _) (l7 (bg ⟨_,rfl,bg h⟩) hdrop))
theorem Aw (hX:Z6 X s){a d:D}{l u t:Option Int}{cs:List Prop}{va:bX}{vi:Addr}{i1 i2 i3:bX}(h:Fl a l u t=some (d,cs))(hc:AllP cs)(r:Rep w s.heap X a va)(hs:s.heap.IsSliceOf vi i1 i2 i3)(p1:PE i1 l)(p2:PE i2 u)(p3:PE i3 t):
  ItemOn w A X va (.ref vi) d s:=by
 replace h:=bF h;rcases h with h|h
 ·replace h:=cC h;obtain ⟨l0,rfl,h⟩:=h
  split at h
  ·exact YD h
  rename_i h0
  obtain ⟨rfl,rfl⟩:=dQ (aI h)
  obtain ⟨a,vs,rfl,⟨n,ho⟩,hx,hr⟩:=r
  refine⟨"list",_,MC.lookup,⟨_,ho,rfl⟩,fun Q E hQ=>wpAny_getItem_list_slice ⟨_,ho,rfl,_,rfl⟩ hs p1 p2 p3 (fun q=>h0 (by exact q▸rfl)) (hQ _ _ (Pu.YK _ _) ?_) (by have:=hc.1;rw[←iS,hr.length];exact this)⟩
  exact⟨_,_,rfl,⟨_,ck _ rfl⟩,hX.new,aX.up dC _ _ (zY hr _ _ t)⟩
 replace h:=bF h;rcases h with h|h
 ·replace h:=bW h;obtain ⟨x,rfl,h⟩:=h
  replace h:=qZ h;obtain ⟨lo,rfl,h⟩:=h
  replace h:=je h;obtain ⟨rfl,h⟩:=h
  replace h:=je h;obtain ⟨rfl,h⟩:=h
  obtain ⟨rfl,rfl⟩:=dQ (aI h)
  obtain ⟨tk,rfl⟩:=r
  cases p1 with|int _ t1=>
  cases p2
  cases p3
  have hs':s.heap.IsSlice vi (some (lo,t1)) none none:=hs
  refine⟨"str",_,EX.lookup,rfl,fun Q E hQ=>wpAny_getItem_str_slice hs' (by rfl) ?_⟩
  have hx:x.length≤sizeLine:=hc.1
  have le:=sliceIndices_le (some lo) none x.length
  unfold RO at hQ
  unfold sliceMade
  show(if((1:Int)==1&&(DC (some lo) none 1 x.length).length==x.length)=true then QE (.str x tk) else QI ⟨((DC (some lo) none 1 x.length).filterMap (x.cps[·]?)).toArray⟩).post Q s
  split
  ·rw[if_pos (by assumption)] at hQ
   exact hQ _ _ (Pu.refl _) eX
  ·rw[if_neg (by assumption)] at hQ
   refine⟨?_,hQ _ _ (Pu.toks _ _) eX⟩
   show(HK _).size≤_
   rw[nh]
   exact ai (List.length_filterMap_le ..) (ai le hx)
 ·replace h:=kJ h;obtain ⟨l0,rfl,h⟩:=h
  replace h:=je h;obtain ⟨rfl,h⟩:=h
  replace h:=qZ h;obtain ⟨hi,rfl,h⟩:=h
  replace h:=je h;obtain ⟨rfl,h⟩:=h
  split at h
  ·rename_i h0
   split at h
   ·rename_i hlt
    obtain ⟨rfl,rfl⟩:=dQ (aI h)
    obtain ⟨a,vs,rfl,⟨n,ho⟩,hx,hr⟩:=r
    cases p1
    cases p2 with|int _ t1=>
    cases p3
    have hl:=hr.length
    rw[iS] at hl
    obtain ⟨b,hb⟩:∃b:Nat,hi=b:=⟨hi.toNat,(AO (tS h0)).symm⟩
    subst hb
    rw[x7] at hlt ⊢
    refine⟨"tuple",_,sQ.lookup,⟨_,ho,rfl⟩,fun Q E hQ=>j7 (items:=vs) ⟨_,ho,rfl,_,rfl⟩ hs (qf.mp h0) (hl▸hlt) (hQ _ _ (Pu.YK _ _) ?_) (hl▸hc.1)⟩
    exact⟨_,_,rfl,⟨_,ck _ rfl⟩,hX.new,aX.up dC _ _ (hr.take b)⟩
   ·exact YD h
  ·exact YD h
theorem GK {o:Str}{p pos:UK}{x:Str}{C:Addr}{a d:D}(cx:Cx w k A X env sc ρ s)(he:aV w A X (ku (.Name o p) env) a s)
  (hC:C=55∧x=af "comp_select_list")
  (hr:∀h v,Rep w h X a v→∃b u,v=.ref b∧sH h X C b x u∧Rep w h X d u):aV w A X (ku (.Attribute (.Name o p) x pos) env) d s:=by
 intro s' u Q E hQ
 refine OT ((he.pu u).now _ _ fun v s1 u1 r=>?_)
 obtain ⟨b,v',rfl,⟨ox,dx,es,n,h1,h2,h3,h4,h5,h6,h7,h8,_,h9⟩,rv⟩:=hr _ _ r
 obtain ⟨K,FK,KI,_⟩:=(cx.pu (u.trans u1)).base.a0s
 have I:Pc s1.heap b ox C (some (QY es n)):=⟨h1,h2,h3,by exact h4▸h7⟩
 have q:Q v' {s1 with toks:=s1.toks+1}:=hQ _ _ (u1.trans (Pu.toks _ _)) rv
 obtain ⟨rfl,rfl⟩:=hC
 exact get_value KI I (OE FK.g55).1 (findObj_own FK.d55 FK.a55 (by rfl) h8) h9 q
theorem CG (hX:Z6 X s){pos:UK}:aV w A X (ku (.Dict [] [] pos) env) (.dct [] []) s:=by
 intro s' u Q E hQ
 refine NG (hQ _ _ (Pu.YK _ _) ?_)
 have hd:=HP (knd:=SK w) s'.heap
 exact⟨_,[],rfl,hd,(fun q=>by obtain ⟨vs,e⟩:=(hX.pu u).tab;have:=eK e;rw[q] at this;exact absurd this (by decide)),(hX.pu u).new,rfl,.nil⟩
end
end
section
section
variable {w:gp}{k:Nat}{A:Around}{X X':Addr→Prop}{env:UI}{sc:Scope}{ρ:Yx}{s:aE}
theorem plain_all {pos:UK}{es:List PySem.Expr}(hpl:∀e∈es,isStarred e=false):(FU pos (zS es env)).all (fun x=>!x.1)=true:=
 fR.mpr fun x hx=>l6 _▸A5.mpr (MQ.mp (YH (env:=env) (pos:=pos) hpl) x hx)
theorem tV {pos:UK}{es:List PySem.Expr}(hpl:∀e∈es,isStarred e=false)(hfew:es.length<30):methodCallForm (es.length+([]:List Keyword).length) (FU pos (zS es env)) (backToKw pos (keywordEach [] env))=true:=
 cy.mpr ⟨cy.mpr ⟨plain_all hpl,rfl⟩,decide_eq_true (show es.length+0+0<30 from hfew)⟩
theorem qI {o:Str}{p apos pos:UK}{m:Str}{es:List PySem.Expr}{a d:D}{ds:List D}{T id:String}(he:aV w A X (ku (.Name o p) env) a s)(hX:Z6 X s)(ha:bO w A X es env ds s)
  (hpl:∀e∈es,isStarred e=false) (hnil:es=[]→ds=[]) (hline:(apos.endLine==pos.line)=true) (hfew:es.length<30)
  (pa:PlainAttrs T) (slot:Slot T m id) (hty:JE (.builtin id)=AS (.type "method_descriptor"))
  (hT:∀(s:aE) va,Rep w s.heap X a va→s.TypeIs va T∧∀b,va=.ref b→∃ob,s.heap.get? b=some ob∧ob.dict=none)
  (h:∀s' va vs,Pu s s'→Rep w s'.heap X a va→aX w s'.heap X ds vs→Ev w A X (call (.builtin id) (va::vs)) d s') :
  aV w A X (ku (.Call (.Attribute (.Name o p) m apos) es [] pos) env) d s:=by
 intro s' u Q E hQ
 refine k9 rfl ?_ hline ((he.pu u).now _ _ fun v s1 u1 r1=>?_)
 ·exact tV hpl hfew
 ·refine⟨T,id,pa,slot,hty,(hT _ _ r1).1,(hT _ _ r1).2,iL (YH hpl) (bc ha hpl hnil s1 (u.trans u1) _ _ fun vs s2 u2 r2=>?_)⟩
  exact h s2 v vs (u.trans (u1.trans u2)) (r1.up (u2.up hX.pt) _ _) r2 _ _ fun v' s3 u3 r3=>hQ _ _ (u1.trans (u2.trans u3)) r3
theorem size_of {a b:Int}(h:a≤b):FD a b 1=((b - a).toNat:Int):=by
 unfold FD
 rw[if_pos (by decide)]
 split
 ·rw[Sj];exact QF (by assumption)
 ·exact Rf h (by assumption)
theorem Ep {a b:Int}(ha:a.natAbs<1000)(hb:b.natAbs<1000)(h:a≤b):L3 a b 1=true:=by
 unfold L3
 rw[size_of h]
 unfold OY
 simp only[j3,decide_eq_true_eq,B7,beq_iff_eq]
 refine⟨⟨⟨⟨⟨?_,?_⟩,?_,?_⟩,?_,?_⟩,?_,?_⟩,.inr ?_⟩
 ·exact Ht ha
 ·exact Qd hb h
 ·exact Ht hb
 ·exact DP hb
 ·exact a3X
 ·exact a4c
 ·exact R5
 ·exact Yb ha hb
 ·rw[if_pos (by decide)]
  simp only[j3,decide_eq_true_eq]
  exact Q9 hb
theorem o8 {a b:Int}{t u v:UN}{r:Addr}{target:PySem.Expr}{Q:bX→aE→Prop}{E:bX→aE→Prop}{s0:aE}(ha:Zv k A)(hX0:Z6 X s0)(hr:IsRange s0.heap r a b 1 t u v)(u0:Pu s s0)(ht:bj target=true)
  (h1:a.natAbs<1000) (h2:b.natAbs<1000) (hab:a≤b)
  (hQ:∀(I:Addr) (fp:List Addr) (h0:Heap) (s1:aE),Pu s s1→(∀a o,s.heap.get? a=some o→a≠PT→h0.get? a=some o)→(∀a o,h0.get? a=some o→a≠PT→s1.heap.get? a=some o)→(∀a∈fp,h0.get? a=none∧a≠PT∧∃o,s1.heap.get? a=some o)→
   (∀X',(∀a,X a→X' a)→(∀a o,h0.get? a=some o→X' a→X a)→(∀a∈fp,X' a)→
    ∃St,Itr w A X' target I (bG a (b - a).toNat) fp St∧∀h',(∀a o,s1.heap.get? a=some o→a≠PT→h'.get? a=some o)→St 0 h')→Q (.ref I) s1) :
  cE (cS PW w) A (BQ (.ref r)) Q E s0:=by
 obtain ⟨new,YZ⟩:=dg hX0
 refine wpAny_pyIter_range hr (Ep h1 h2 hab) ?_
 refine hQ s0.heap.objs.size [s0.heap.objs.size] s0.heap _ (u0.trans (Pu.YK _ _)) (fun a o e n=>u0.heap a o e n) (fun a o e n=>b6 _ e) ?_ ?_
 ·intro a ha
  obtain rfl:=bS.mp ha
  exact⟨new,YZ,⟨_,ck _ rfl⟩⟩
 ·intro X' h1 h2 h3
  refine⟨_,zp (ha:=ha) (h3 _ ay) YZ ht,fun h' hk=>?_⟩
  have e:=hk _ _ (ck _ rfl) YZ
  show h'.get? _=_
  rw[e,size_of hab]
  simp
theorem jQ {x y:D}{l:List D}(h:uy x y=some l):∃a b,x=.int a∧y=.int b∧a≤b∧a.natAbs<1000∧b.natAbs<1000∧l=bG a (b - a).toNat:=by
 obtain ⟨a,ha,h⟩:=l8.mp h
 obtain ⟨b,hb,h⟩:=l8.mp h
 obtain ⟨hg,h⟩:=dm h
 have h1:=cy.mp hg
 have h2:=cy.mp h1.2
 exact⟨a,b,qJ ha,qJ hb,of_decide_eq_true h1.1,of_decide_eq_true h2.1,of_decide_eq_true h2.2,(aI h).symm⟩
theorem wN (cx:Cx w k A X env sc ρ s){f:Str}{fp pos:UK}{es:List PySem.Expr}{ds l:List D}{target:PySem.Expr}(hf:aV w A X (ku (.Name f fp) env) (.val (.type "range")) s)(he:bO w A X es env ds s)
  (hpl:∀e∈es,isStarred e=false) (hnil:es=[]→ds=[]) (h:WQ ds=some l) (ht:bj target=true):bk w A X target (ku (.Call (.Name f fp) es [] pos) env) l s:=by
 intro Q E hQ
 refine kN (hf.now _ _ fun v s1 u1 r1=>?_)
 obtain rfl:=r1
 refine sP (YH hpl) (bc he hpl hnil s1 u1 _ _ fun vs s2 u2 r2=>?_)
 have c2:=cx.pu (u1.trans u2)
 rcases ds with _|⟨x,_|⟨y,_|⟨z,ds⟩⟩⟩
 ·exact YD h
 ·obtain ⟨vb,t1,rfl,rb,rfl⟩:=r2
  obtain ⟨a,b,ea,rfl,hab,h1,h2,rfl⟩:=jQ h
  cases ea
  obtain ⟨t,rfl⟩:=rb
  refine call_range_1 ?_
  exact o8 cx.a (c2.Yz.pu (Pu.push s2 _ _)) (ck _ rfl) ((u1.trans u2).trans (Pu.push s2 _ _)) ht h1 h2 hab hQ
 ·obtain ⟨va,t1,rfl,ra,vb,t2,rfl,rb,rfl⟩:=r2
  obtain ⟨a,b,rfl,rfl,hab,h1,h2,rfl⟩:=jQ h
  obtain ⟨t,rfl⟩:=ra
  obtain ⟨t',rfl⟩:=rb
  refine call_range_2 ?_
  exact o8 cx.a (c2.Yz.pu (Pu.push s2 _ _)) (ck _ rfl) ((u1.trans u2).trans (Pu.push s2 _ _)) ht h1 h2 hab hQ
 ·exact YD h
theorem a0d:∀(i:Int) (l:List D),(ZP i l).length=l.length
 |_,[]=>rfl
 |i,d::l=>by simp[ZP,a0d (i+1) l]
theorem a0F:∀(lo:Int) (l:List D) (i:Nat) (d:D),(ZP lo l)[i]?=some d→∃x,l[i]?=some x∧d=.tup [.int (lo+i),x]
 |_,[],i,d,h=>by simp[ZP] at h
 |lo,a::l,0,d,h=>by simp[ZP] at h;subst h;exact⟨a,rfl,by simp⟩
 |lo,a::l,i+1,d,h=>by
  simp only[ZP,List.getElem?_cons_succ] at h ⊢
  obtain ⟨x,hx,rfl⟩:=a0F (lo+1) l i d h
  exact⟨x,hx,by rw[show lo+1+(i:Int)=lo+((i+1:Nat):Int) from by push_cast;exact Uj]⟩
theorem Dl (ha:Zv k A){target:PySem.Expr}{I it ax:Addr}{vs:Array bX}{l:List D}(hXI:X I)(hI:I≠PT)(a3C:X it)(hit:it≠PT)(hne:I≠it)(hax:¬X ax)(ht:cY target=true):
  Itr w A X target I (ZP 0 l) [I,it] (fun i h=>(∃old,IsEnum h I it i old)∧h.IsListIter it ax i∧h.PlainList ax vs∧aX w h X l vs.toList) where
 ex:=fun i h st a ha=>by
  simp at ha
  rcases ha with rfl|rfl
  ·obtain ⟨old,e⟩:=st.1;exact⟨_,e⟩
  ·obtain ⟨o,ho,_⟩:=st.2.1;exact⟨o,ho⟩
 YZ:=by simp[i7 hI,i7 hit]
 frame:=fun i h h' st u hf=>⟨by obtain ⟨old,e⟩:=st.1;exact⟨old,hf I ay _ e⟩,by obtain ⟨o,ho,r⟩:=st.2.1;exact⟨o,hf it (.tail _ (.head _)) _ ho,r⟩,by obtain ⟨n,hn⟩:=st.2.2.1;exact⟨n,u.keep _ _ hn hax⟩,st.2.2.2.up u⟩
 item:=fun i s d Q E hd st hx hQ=>by
  obtain ⟨x,hxl,rfl⟩:=a0F _ _ _ _ hd
  obtain ⟨v,hv,r⟩:=st.2.2.2.get hxl
  obtain ⟨old,he⟩:=st.1
  have hne':ax≠I:=fun e=>hax (e▸hXI)
  have a5t:ax≠it:=fun e=>hax (e▸a3C)
  obtain ⟨new,YZ⟩:=dg hx
  have nI:s.heap.objs.size≠I:=i7 (z6 he)
  refine wpAny_pyNext_enum_item he st.2.1 st.2.2.1.isList (x:=v) (by simpa using hv) hne fun h' ho' hit' htup Z hs'=>⟨_,rfl,?_⟩
  cases target<;>cases ht
  refine wpAny_letOwnedTupleGo_enum ho' fun h2 he2 hs2=>?_
  have k2:∀b o,b≠I→b≠it→s.heap.get? b=some o→h2.get? b=some o:=fun b o n1 n2 e=>hs2.extBut b o n1 (hs' b o n1 n2 e)
  have pb:YF (fun x=>x∈[I,it]) s {s with heap:=h2,toks:=s.toks+1}:=⟨fun a o e Z z=>by simp at z;exact k2 a o z.1 z.2 e,fun Z9=>by obtain ⟨vs,e⟩:=Z9;exact⟨vs,k2 _ _ (i7 hI) (i7 hit) e⟩,id,rfl,rfl⟩
  have u:Up X X s.heap h2:=pb.up hx.pt (by simp;exact⟨hXI,a3C⟩)
  refine hQ _ _ pb ?_ ⟨⟨v,?_⟩,?_,?_,st.2.2.2.up u⟩
  ·refine⟨_,_,rfl,⟨_,hs2.extBut _ _ nI htup⟩,hx.new,?_⟩
   simp only[HG]
   exact .cons cI (.one (r.up u _ _))
  ·show IsEnum h2 I it ((i+1:Nat):Int) v
   rw[show((i+1:Nat):Int)=(i:Int)+1 from by push_cast;rfl];exact he2
  ·obtain ⟨o,ho,rr⟩:=hit'
   exact⟨o,hs2.extBut _ _ (i7 hne) ho,rr⟩
  ·obtain ⟨n,hn⟩:=st.2.2.1;exact⟨n,u.keep _ _ hn hax⟩
 done:=fun s Q E st hQ=>by
  rw[a0d] at st
  obtain ⟨old,he⟩:=st.1
  have hl:=st.2.2.2.length
  refine wpAny_pyNext_enum_end ha.handled he st.2.1 st.2.2.1.isList (by simp at hl ⊢;exact zP hl) fun h' hs'=>⟨rfl,hQ _ ?_⟩
  exact⟨fun a o e Z z=>by simp at z;exact hs' a o z.2 e,fun Z9=>by obtain ⟨vs,e⟩:=Z9;exact⟨vs,hs' _ _ (i7 hit) e⟩,id,rfl,rfl⟩
 self:=fun i s Q E st hQ=>by
  obtain ⟨old,he⟩:=st.1
  exact MG he hQ
theorem zf (cx:Cx w k A X env sc ρ s){f:Str}{fp pos:UK}{es:List PySem.Expr}{ds l:List D}{target:PySem.Expr}(hf:aV w A X (ku (.Name f fp) env) (.val (.type "enumerate")) s)(he:bO w A X es env ds s)
  (hpl:∀e∈es,isStarred e=false) (hnil:es=[]→ds=[]) (h:ds=[.lst l]) (ht:cY target=true):bk w A X target (ku (.Call (.Name f fp) es [] pos) env) (ZP 0 l) s:=by
 subst h
 intro Q E hQ
 refine kN (hf.now _ _ fun v s1 u1 r1=>?_)
 obtain rfl:=r1
 refine sP (YH hpl) (bc he hpl hnil s1 u1 _ _ fun vs s2 u2 r2=>?_)
 have c2:=cx.pu (u1.trans u2)
 obtain ⟨vl,t1,rfl,rl,rfl⟩:=r2
 obtain ⟨ax,vs,rfl,⟨n,ho⟩,hax,hr⟩:=rl
 obtain ⟨new,YZ⟩:=dg c2.Yz
 refine call_enumerate_list ⟨_,ho,rfl,_,rfl⟩ fun h' hE hI hsz hk=>?_
 have new2:s2.heap.get? (s2.heap.objs.size+1)=none:=by
  cases e:s2.heap.get? (s2.heap.objs.size+1) with
  |none=>rfl
  |some o=>exact absurd (ER (eK e)) (iE _)
 have a3o:s2.heap.objs.size+1≠PT:=fun q=>by obtain ⟨_,e⟩:=c2.Yz.tab;rw[←q,new2] at e;exact YD e
 have u3:Pu s2 {s2 with heap:=h'}:=Pu.keep hk
 refine MG hE ?_
 refine hQ _ [s2.heap.objs.size+1,s2.heap.objs.size] s2.heap _ ((u1.trans u2).trans u3) (u1.trans u2).heap u3.heap ?_ ?_
 ·intro a ha
  simp at ha
  rcases ha with rfl|rfl
  ·exact⟨new2,a3o,_,hE⟩
  ·obtain ⟨o,ho,_⟩:=hI
   exact⟨new,YZ,o,ho⟩
 ·intro X' h1 h2 h3
  have hne:s2.heap.objs.size+1≠s2.heap.objs.size:=GB _
  refine⟨_,Dl (ha:=cx.a) (ax:=ax) (vs:=vs) (h3 _ ay) a3o (h3 _ (.tail _ (.head _))) YZ hne (fun q=>hax (h2 _ _ ho q)) ht,fun h'' hk2=>⟨⟨.none,hk2 _ _ hE a3o⟩,?_,?_,?_⟩⟩
  ·obtain ⟨o,ho,rr⟩:=hI;exact⟨o,hk2 _ _ ho YZ,rr⟩
  ·exact⟨n,hk2 _ _ (hk _ _ ho) fun q=>hax (q▸cx.Yz.pt)⟩
  ·exact hr.up ⟨fun a o e nx=>hk2 _ _ (hk _ _ e) (fun q=>nx (q▸cx.Yz.pt)),h2⟩
theorem zg (ha:Zv k A)(hX:Z6 X s){target:PySem.Expr}{t:UM bX}{ks:List Str}{ds:List D}(h:Ev w A X t (.dct ks ds) s)(ht:bj target=true):bk w A X target t (ks.map .str) s:=by
 intro Q E hQ
 refine h _ _ fun v s0 u0 r=>?_
 have X0:=hX.pu u0
 obtain ⟨ax,kvs,rfl,hd,hsm,hax,hk,hr⟩:=r
 subst hk
 obtain ⟨new,YZ⟩:=dg X0
 obtain ⟨o,es,ep,ho,hr2⟩:=hd
 have hat:s0.heap.DictAt (SK w) ax kvs ep:=⟨o,es,ho,hr2⟩
 refine wpAny_pyIter_dict (by simpa using hsm) hat (hQ s0.heap.objs.size [s0.heap.objs.size] s0.heap _ (u0.trans (Pu.YK _ _)) (fun a o e n=>u0.heap a o e n) (fun a o e n=>b6 _ e) ?_ ?_)
 ·intro a ha
  obtain rfl:=bS.mp ha
  exact⟨new,YZ,⟨_,ck _ rfl⟩⟩
 ·intro X' h1 h2 h3
  refine⟨_,Dm (ha:=ha) (a:=ax) (kvs:=kvs) (ep:=ep) (h3 _ ay) YZ (fun q=>hax (h2 _ _ ho q)) ht,fun h' hk=>⟨⟨_,hk _ _ (ck _ rfl) YZ,rfl,rfl⟩,⟨o,es,hk _ _ (b6 _ ho) (fun q=>hax (q▸hX.pt)),hr2⟩⟩⟩
end
end
section
section
variable {w:gp}{k:Nat}{A:Around}{X X':Addr→Prop}{env:UI}{sc:Scope}{ρ:Yx}{s:aE}
theorem jt {h:Heap}{a:Addr}{kvs:List (Str×bX)}(d:h.DictOf (SK w) a kvs):∃o,h.get? a=some o∧o.cls=.type "dict"∧o.dict=none:=by
 obtain ⟨o,es,ep,ho,he,r⟩:=d
 exact⟨o,ho,he.1,he.2.1⟩
theorem Do (ha:Zv k A){target:PySem.Expr}{I a:Addr}{kvs:List (Str×bX)}{ds:List D}{ep:Nat}(hXI:X I)(hI:I≠PT)(hax:¬X a)(ht:bj target=true):
  Itr w A X target I ds [I] (fun i h=>h.IsValIter I a i kvs.length ep∧h.DictAt (SK w) a kvs ep∧aX w h X ds (kvs.map (fun x=>x.2))) where
 ex:=fun i h st b hb=>by cases bS.mp hb;exact by obtain ⟨o,ho,_⟩:=st.1;exact⟨o,ho⟩
 YZ:=by simpa using i7 hI
 frame:=fun i h h' st u hf=>⟨by obtain ⟨o,ho,r⟩:=st.1;exact⟨o,hf I ay _ ho,r⟩,by obtain ⟨o,es,ho,r⟩:=st.2.1;exact⟨o,es,u.keep _ _ ho hax,r⟩,st.2.2.up u⟩
 item:=fun i s d Q E hd st hx hQ=>by
  obtain ⟨v,hv,r⟩:=st.2.2.get hd
  rw[gu] at hv
  obtain ⟨⟨key,v'⟩,hkv,rfl⟩:=iF.mp hv
  have hne:a≠I:=fun e=>hax (e▸hXI)
  refine wpAny_pyNext_values_item st.1 st.2.1 hkv fun h' hit' hs'=>⟨_,rfl,?_⟩
  rw[JM ht]
  have pb:YF (fun x=>x∈[I]) s {s with heap:=h'}:=⟨fun a o e Z z=>hs'.extBut a o (by simpa using z) e,fun Z9=>by obtain ⟨vs,e⟩:=Z9;exact⟨vs,hs'.extBut _ _ (i7 hI) e⟩,id,rfl,rfl⟩
  have u:Up X X s.heap h':=pb.up hx.pt (by simp[hXI])
  exact bg (hQ _ _ pb (r.up u _ _) ⟨hit',st.2.1.extBut hs'.extBut hne,st.2.2.up u⟩)
 done:=fun s Q E st hQ=>by
  have hl:=st.2.2.length
  simp at hl
  refine wpAny_pyNext_values_end ha.handled (by rw[←hl] at st;exact st.1) st.2.1 (by simp) fun h' he=>⟨rfl,hQ _ ?_⟩
  exact⟨fun a o e Z z=>he a o (by simpa using z) e,fun Z9=>by obtain ⟨vs,e⟩:=Z9;exact⟨vs,he _ _ (i7 hI) e⟩,id,rfl,rfl⟩
 self:=fun i s Q E st hQ=>wpAny_pyIter_valiter st.1 hQ
theorem zj (cx:Cx w k A X env sc ρ s){o m:Str}{p apos pos:UK}{ks:List Str}{ds:List D}{target:PySem.Expr}(he:aV w A X (ku (.Name o p) env) (.dct ks ds) s)(hm:m=af "values")(hline:(apos.endLine==pos.line)=true)
  (ht:bj target=true):bk w A X target (ku (.Call (.Attribute (.Name o p) m apos) [] [] pos) env) ds s:=by
 subst hm
 intro Q E hQ
 refine k9 rfl rfl hline (he.now _ _ fun v s1 u1 r1=>?_)
 obtain ⟨ax,kvs,rfl,hd,hsm,hax,hk,hr⟩:=r1
 have c1:=cx.pu u1
 refine⟨"dict",_,BI,EZ,PySem.F.type_dict_values,hd.typeIs,fun b e=>?_,iL rfl (AP ?_)⟩
 ·cases e;obtain ⟨o,ho,_,h2⟩:=jt hd;exact⟨o,ho,h2⟩
 refine N1 EZ hd.typeIs PySem.F.entry_dict_values (PySem.F.args_dict_values_1 _) (meets_dict_values (SK w) ax (by simpa using hsm)) ⟨⟨kvs,hd⟩,?_⟩
 have u2:Pu s1 {s1 with heap:=s1.heap.push {cls:=.type "dict_values",data:=.fields #[.ref ax]}}:=Pu.YK _ _
 have hv:({s1 with heap:=s1.heap.push {cls:=.type "dict_values",data:=.fields #[.ref ax]}}:aE).heap.IsValuesView s1.heap.objs.size ax:=⟨_,ck _ rfl,rfl,rfl⟩
 obtain ⟨o,es,ep,ho,hr2⟩:=hd
 have nax:ax≠PT:=fun q=>hax (q▸cx.Yz.pt)
 show cE _ _ (BQ _) _ _ _
 have hat:({s1 with heap:=s1.heap.push {cls:=.type "dict_values",data:=.fields #[.ref ax]}}:aE).heap.DictAt (SK w) ax kvs ep:=⟨o,es,u2.heap _ _ ho nax,hr2⟩
 have hr3:=hr.up (u2.up cx.Yz.pt)
 revert hv hat hr3
 generalize ({s1 with heap:=s1.heap.push {cls:=.type "dict_values",data:=.fields #[.ref ax]}}:aE)=s2 at u2 ⊢
 intro hv hat hr3
 have c2:=c1.pu u2
 obtain ⟨new,YZ⟩:=dg c2.Yz
 have u12:=u1.trans u2
 obtain ⟨ov,hov,_⟩:=id hv
 refine wpAny_pyIter_values hv hat (hQ s2.heap.objs.size [s2.heap.objs.size] s2.heap _ (u12.trans (Pu.YK _ _)) (fun a o e n=>u12.heap a o e n) (fun a o e n=>b6 _ e) ?_ ?_)
 ·intro a ha
  simp at ha;subst ha
  exact⟨new,YZ,⟨_,ck _ rfl⟩⟩
 ·intro X' h1 h2 h3
  obtain ⟨o2,es2,ho2,a3l⟩:=hat
  refine⟨_,Do (ha:=cx.a) (a:=ax) (kvs:=kvs) (ep:=ep) (h3 _ ay) YZ (fun q=>hax (h2 _ _ ho2 q)) ht,fun h' hk=>⟨⟨_,hk _ _ (ck _ rfl) YZ,rfl,rfl⟩,⟨o2,es2,hk _ _ (b6 _ ho2) nax,a3l⟩,?_⟩⟩
  exact hr3.up ⟨fun a o e nx=>hk _ _ (b6 _ e) (fun q=>nx (q▸cx.Yz.pt)),h2⟩
end
end
section
section
variable {w:gp}{k:Nat}{A:Around}{X X':Addr→Prop}{env:UI}{sc:Scope}{ρ:Yx}{s:aE}
theorem lZ {e:PySem.Expr}(h:cJ e=false)(env:UI)(x:bX):MH e env x=AS x:=by
 cases e<;>first|rfl|cases h
theorem wB {scope:Scope}(hok:cO scope sc=true):scope.kind=.function∧∀x∈scope.names,x.2=.local→scope.names.lookup x.1=some .local:=by
 unfold cO at hok
 simp only[j3,beq_iff_eq,decide_eq_true_eq] at hok
 refine⟨hok.1.1,fun x hx hl=>?_⟩
 have:=iz hok.1.2 (show(x.1,x.2)∈scope.names from hx)
 rw[this,hl]
theorem qm (cx:Cx w k A X env sc ρ s){scope:Scope}(hok:cO scope sc=true):PG scope env=AS (dG env.cells scope.names []):=by
 refine iZ fun n hn=>?_
 unfold cO at hok
 simp only[j3,fR] at hok
 have:=hok.2 _ hn
 simp only[B7,beq_iff_eq] at this
 obtain ⟨c,v,h1,_⟩:=cx.vis.cells n this
 rw[h1];rfl
theorem yu {s s':aE}{C:Addr}{h':Heap}{d:D}{v:bX}(hX:Z6 X s)(u:Pu s s')(hC:s.heap.get? C=none)(hp:C≠PT)(hs:AY C s'.heap h')(r:Rep w s'.heap (fun a=>X a∨a=C) d v):
  Pu s {s' with heap:=h'}∧Rep w h' X d v:=by
 have hx:=hX.pu u
 refine⟨⟨fun a o e n=>hs.extBut a o (fun q=>by rw[q,hC] at e;exact YD e) (u.heap a o e n),fun t=>by obtain ⟨vs,e⟩:=u.tab t;exact⟨vs,hs.extBut _ _ (i7 hp) e⟩,u.gens,u.drawn,u.os⟩,?_⟩
 exact r.up ⟨fun a o e n=>hs.extBut a o (fun q=>n (.inr q)) e,fun a o e h=>.inl h⟩ _ _
noncomputable def Nu (w:gp)(A:Around)(X:Addr→Prop)(e:PySem.Expr)(env:UI)(d:D)(s:aE):Prop:=
 ∀s',Pu s s'→∀(u:bX→UM Unit) (Q:aE→Prop) (E:bX→aE→Prop),
  (∀v C s'',Pu s' s''→s'.heap.get? C=none→C≠PT→(∃m,s''.heap.Ns C m)→Rep w s''.heap (fun a=>X a∨a=C) d v→
   cE (cS PW w) A (u v) (fun Z s3=>(∃m,s3.heap.Ns C m)∧∀h',AY C s3.heap h'→Q {s3 with heap:=h'}) E s'')→
  cE (cS PW w) A (evalThenUse e env u) (fun Z s4=>Q s4) E s'
noncomputable def nY (e:PySem.Expr):Bool:=K2 e.ctorIdx 8||(K2 e.ctorIdx 9||K2 e.ctorIdx 10)
structure Sto (w:gp)(A:Around)(X:Addr→Prop)(e:PySem.Expr)(env:UI)(d:D)(s:aE):Prop where
 snd:Snd w A X e env d s
 use:nY e=true→Nu w A X e env d s
theorem Sto.pu {e:PySem.Expr}{d:D}{s s':aE}(x:Sto w A X e env d s)(u:Pu s s'):Sto w A X e env d s':=⟨x.snd.pu u,fun h s'' v=>x.use h s'' (u.trans v)⟩
theorem Sto.ev2 {e:PySem.Expr}{d:D}(x:Sto w A X e env d s):aV w A X (ku e env) d s:=x.snd.ev
theorem oV (cx:Cx w k A X env sc ρ s){e:PySem.Expr}{scope:Scope}{pos:UK}{mk tm:UM bX}{g:xA}{gs:List xA}{d:D}(hp:a02 e=true)(hev:ku e env=comprehension e scope env pos mk false tm none)
  (a4V:∀u,evalThenUse e env u=(comprehension e scope env pos mk false tm (some u) >>= fun Z=>AS ())) (hcl:OA e=g::gs) (ZF:cJ g.iter=false) (hok:cO scope sc=true)
  (core:∀s' (E:bX→aE→Prop) (RR:bX→Addr→DO→aE→Prop),Pu s s'→(∀v C s'',Pu s' s''→(∃m,s''.heap.Ns C m)→s'.heap.get? C=none→C≠PT→Rep w s''.heap (fun a=>X a∨a=C) d v→RR v C (.ok .next) s'')→
   cE (cS PW w) A tm (fun x s₁=>cE (cS PW w) A (BQ x) (fun it s₂=>cE (cS PW w) A mk (fun acc s₃=>
    cE (cS PW w) A (AB scope env.globals (dG env.cells scope.names []) [] env.qual none .none (some env)) (fun cenv s₄=>
     A8 (cS PW w) A (.compStart e 0 it acc {cenv with scope:=F6 scope env}) (RR acc cenv.locals) s₄) E s₃) E s₂) E s₁) E s'):Sto w A X e env d s:=by
 have hk:=wB hok
 refine⟨rP hp fun s' u Q E hQ=>?_,fun Z s' u use Q E hQ=>?_⟩
 ·rw[hev]
  refine F0 hcl (lZ ZF env) (qm cx hok) hk.1 hk.2 (core s' E _ u fun v C s2 u2 hNs hC hp r=>hNs.imp fun m hm=>⟨hm,fun h' hs=>?_⟩)
  have p:=yu (cx.pu u).Yz u2 hC hp hs r
  exact hQ _ _ p.1 p.2
 ·rw[a4V]
  exact ah (F0 hcl (lZ ZF env) (qm cx hok) hk.1 hk.2 (core s' E _ u fun v C s2 u2 hNs hC hp r=>qA (hQ v C s2 u2 hC hp hNs r) (fun Z s3 h=>h.1.imp fun m hm=>⟨hm,fun h' hs=>bg (h.2 h' hs)⟩) fun Z Z e=>e))
theorem fZ (cx:Cx w k A X env sc ρ s){elt target iter:PySem.Expr}{ifs:List PySem.Expr}{scope:Scope}{pos:UK}{l:List D}{f:D→Bool×D}(hok:cO scope sc=true)(hn:bw scope (ak target))(ZF:cJ iter=false)
  (src:∀s',Pu s s'→bk w A X target (ku iter env) l s') (each:EachL w k A sc scope ρ target ifs elt l f) (hlen:l.length≤sizeLine):Sto w A X (.ListComp elt [⟨target,iter,ifs,0⟩] scope pos) env (.lst (l.flatMap fun d=>aL (f d).1 [(f d).2])) s:=
 oV cx rfl rfl (fun Z=>rfl) rfl ZF hok fun s' E RR u h=>yt (cx.pu u) hok hn (src s' u) each hlen h
theorem bJ (cx:Cx w k A X env sc ρ s){elt target iter:PySem.Expr}{ifs:List PySem.Expr}{scope:Scope}{pos:UK}{l:List D}{f:D→Bool×D}(hok:cO scope sc=true)(hn:bw scope (ak target))(ZF:cJ iter=false)
  (src:∀s',Pu s s'→bk w A X target (ku iter env) l s') (each:EachL w k A sc scope ρ target ifs elt l f) (hlen:l.length≤sizeLine):aV w A X (ku (.ListComp elt [⟨target,iter,ifs,0⟩] scope pos) env) (.lst (l.flatMap fun d=>aL (f d).1 [(f d).2])) s:=(fZ cx hok hn ZF src each hlen).snd.ev
theorem mU {e:PySem.Expr}(h:nY e=false)(t:Option PySem.Expr)(n:Nat):swapsWith e t n env=AS false:=by
 cases e<;>first|rfl|cases h
theorem cW {t e:PySem.Expr}(h:cP t=true)(he:cY e=false):swappedStores [t] e env=AS none:=by
 cases dH h with
 |name=>cases e<;>rfl
 |pair=>cases e<;>first|rfl|cases he
theorem ir {t:PySem.Expr}(h:cP t=true):(assignEach [t] env).map (fun x=>x.2)=[z0 t env]:=by
 cases dH h<;>rfl
theorem mR (cx:Cx w k A X env sc ρ s){t e:PySem.Expr}{pos:UK}{d:D}{ρ':Yx}{Q:zh→aE→Prop}{E:bX→aE→Prop}(hb:cZ t d ρ=some ρ')
  (hk:bw sc (ak t)) (ht:cP t=true) (he:cY e=false) (hv:Sto w A X e env d s)
  (hQ:∀s',YF (Own env sc) s s'→Cx w k A X env sc ρ' s'→Q .next s'):cE (cS PW w) A (Nn (.Assign [t] e pos) env) Q E s:=by
 have fin:∀v s1,Pu s s1→Rep w s1.heap X d v→cE (cS PW w) A (z0 t env v) (fun Z=>Q .next) E s1:=by
  intro v s1 u1 r
  have c1:=cx.pu u1
  refine iW cx.a c1.Yz c1.vis hb hk r fun s2 pb v2 x2=>?_
  have Zc:YF (Own env sc) s s2:=(YF.YB u1).trans (pb.mono fun a h=>h.own)
  exact hQ s2 Zc ⟨cx.a,x2,cx.base.up (Zc.up cx.Yz.pt fun a h=>(rn cx.vis h).1),v2⟩
 have bt:cP t=true:=ht
 by_cases hs:nY e=true
 ·have hsw:∃b,swapsWithSole [t] e pos.line env=AS b:=by
   unfold swapsWithSole
   cases e<;>cases hs
   all_goals cases dH ht<;>exact⟨_,rfl⟩
  obtain ⟨b,hb2⟩:=hsw
  rw[exec_Assign_arm]
  refine ah (pV ?_)
  rw[hb2]
  refine ah (bg ?_)
  cases b with
  |true=>
   rw[if_pos rfl]
   refine ah (hv.use hs s (Pu.refl _) _ (fun s'=>cE (cS PW w) A (AS UC) Q E s') _ fun v C s1 u1 hC hp hNs r=>?_)
   have c1:=cx.pu u1
   have r':Rep w s1.heap (fun a=>X a∨a=C) d v:=r
   have nC:∀a o,s.heap.get? a=some o→a≠C:=fun a o e q=>by rw[q,hC] at e;exact YD e
   have x1:Z6 (fun a=>X a∨a=C) s1:=⟨.inl c1.Yz.pt,c1.Yz.tab,fun a h=>h.elim (c1.Yz.lt a) fun q=>by subst q;obtain ⟨m,⟨o,_,_,ho,_⟩⟩:=hNs;exact⟨o,ho⟩⟩
   have v1:Vis w s1.heap (fun a=>X a∨a=C) env sc ρ:=cx.vis.up ⟨fun a o e n=>u1.heap a o e fun q=>n (q▸cx.Yz.pt),fun a o e h=>h.elim id fun q=>absurd q (nC a o e)⟩ (fun a h=>.inl h) fun a o e q=>u1.heap a o e (by
    rcases q with rfl|⟨n,hn,q⟩
    ·exact cx.vis.neL
    ·obtain ⟨c,v,h1,h2,_⟩:=cx.vis.cells n hn
     rw[q] at h1;obtain rfl:=aI h1;exact h2)
   have a4r:∀a,Own env sc a→a≠C:=fun a h=>by obtain ⟨_,o,ho⟩:=rn cx.vis h;exact nC a o ho
   rw[ir bt]
   have core:cE (cS PW w) A (z0 t env v) (fun Z s3=>(∃m,s3.heap.Ns C m)∧∀h',AY C s3.heap h'→cE (cS PW w) A (AS UC) Q E {s3 with heap:=h'}) E s1:=by
    refine iW cx.a x1 v1 hb hk r' fun s2 pb v2 x2=>⟨?_,fun h' hs'=>bg ?_⟩
    ·obtain ⟨m,hm⟩:=hNs
     exact⟨m,zN hm fun o e=>pb.heap _ _ e hp fun q=>a4r _ q.own rfl⟩
    ·have k2:∀a o,s.heap.get? a=some o→a≠PT→¬Own env sc a→h'.get? a=some o:=fun a o e n1 n2=>hs'.extBut a o (nC a o e) (pb.heap a o (u1.heap a o e n1) n1 fun q=>n2 q.own)
     have Zc:YF (Own env sc) s {s2 with heap:=h'}:=⟨k2,fun t=>by obtain ⟨vs,e⟩:=pb.tab (u1.tab t);exact⟨vs,hs'.extBut _ _ (i7 hp) e⟩,fun g=>pb.gens (u1.gens g),pb.drawn.trans u1.drawn,pb.os.trans u1.os⟩
     have up3:Up (fun a=>X a∨a=C) X s2.heap h':=⟨fun a o e n=>hs'.extBut a o (fun q=>n (.inr q)) e,fun a o e h=>.inl h⟩
     refine hQ _ Zc ⟨cx.a,⟨cx.Yz.pt,Zc.tab cx.Yz.tab,fun a h=>?_⟩,cx.base.up (Zc.up cx.Yz.pt fun a h=>(rn cx.vis h).1),?_⟩
     ·obtain ⟨o,ho⟩:=x2.lt a (.inl h)
      obtain ⟨o0,ho0⟩:=cx.Yz.lt a h
      exact⟨o,hs'.extBut a o (nC a o0 ho0) ho⟩
     ·-- the names,with the block's place let go
      have a4q:∀a o,s2.heap.get? a=some o→(a=env.locals∨∃n,CF sc n∧env.cells.lookup n=some a)→a≠C:=fun a o e q=>by
       rcases q with rfl|⟨n,hn,q⟩
       ·obtain ⟨m,⟨o,_,_,ho,_⟩,_⟩:=cx.vis.loc;exact nC _ o ho
       ·obtain ⟨c,v,h1,_,_,_,⟨o,ho,_⟩,_⟩:=cx.vis.cells n hn
        rw[q] at h1;obtain rfl:=aI h1;exact nC _ o ho
      refine⟨v2.eqs,v2.kind,v2.glob,v2.bi,v2.neL,cx.vis.lx,?_,fun n hn=>?_,v2.inj⟩
      ·obtain ⟨m,hm,h2⟩:=v2.loc
       exact⟨m,zN hm fun o e=>hs'.extBut _ _ (a4q _ o e (.inl rfl)) e,fun n d e kn=>by obtain ⟨v,hv,r⟩:=h2 n d e kn;exact⟨v,hv,r.up up3 _ _⟩⟩
      ·obtain ⟨c,v,h1,h2,h3,h4,⟨o,ho,hd⟩,h5⟩:=v2.cells n hn
       have nc:=a4q c o ho (.inr ⟨n,hn,h1⟩)
       exact⟨c,v,h1,h2,h3,h4.resolve_right nc,⟨o,hs'.extBut _ _ nc ho,hd⟩,fun d e=>by obtain ⟨y,e',r⟩:=h5 d e;exact⟨y,e',r.up up3 _ _⟩⟩
   exact core
  |false=>
   rw[if_neg (by decide)]
   refine ah (hv.snd.ev.now _ _ fun v s1 u1 r=>?_)
   rw[cW bt he]
   refine ah (bg ?_)
   rw[ir bt]
   show cE _ A (do assignAll v [z0 t env];AS .next) Q E s1
   exact ah (qA (fin v s1 u1 r) (fun Z Z x=>bg x) fun Z Z x=>x)
 ·have hs':nY e=false:=by simpa using hs
  refine xD (hv.snd.ev.now _ _ fun v s1 u1 r=>?_) (mU hs' (some t) _) (cW bt he)
  rw[ir bt]
  exact fin v s1 u1 r
end
end
section
section
variable {w:gp}{k:Nat}{A:Around}{X X':Addr→Prop}{env:UI}{sc:Scope}{ρ:Yx}{s:aE}
noncomputable def Jc (kx vx:PySem.Expr)(ifs:List PySem.Expr)(c:Code)(Da:Addr)(env:UI):UM PySem.Fin:=
 bI ifs true env >>= fun ok=>if ok=true then(ku kx env >>= fun kv=>M1 [kv] (ku vx env) >>= fun vv=>GV {kx.pos with endLine:=vx.pos.endLine,endCol:=vx.pos.endCol} >>= fun Y=>M1 [kv,vv] (dictSet Da kv vv)) >>= fun Y=>TR c else TR c
theorem yI {ce:UI}{Da:Addr}{kx vx:PySem.Expr}{ifs:List PySem.Expr}{c:Code}{R:DO→aE→Prop}{C:aE→Prop}{b:Bool}{key:Str}{d:D}{l:KD}(m:Mx w k A X ce sc ρ [(Da,aj l)] s)(ht:fM w A (bI ifs true ce) b s)
  (he:b=true→aV w A X (ku kx ce) (.str key) s∧aV w A X (ku vx ce) d s) (hf:b=true→key∉l.map (fun x=>x.1)) (hl:l.length≤sizeLine) (hC:∀s2,YF (fun x=>x=Da) s s2→Mx w k A X ce sc ρ [(Da,aj (l++aL b [(key,d)]))] s2→C s2) :
  nG w A ce R c (Jc kx vx ifs c Da ce) C s:=by
 refine ah (ht s (Pu.refl _) _ _ fun s2 u2=>?_)
 cases b with
 |false=>exact bg ⟨rfl,hC s2 (.YB u2) (nK _▸m.pu u2)⟩
 |true=>
  refine ah (ah ((he rfl).1 s2 u2 _ _ fun y s3 u3 ry=>ah (fT ((he rfl).2 s3 (u2.trans u3) _ _ fun z s4 u4 rz=>ah (pV (fT ?_))))))
  obtain ⟨ty,rfl⟩:=ry
  exact FQ (YC:=[]) (m.pu ((u2.trans u3).trans u4)) (fun kvs hp hz h=>wpAny_dictSet_pairs (hsz:=hz) (EI PW w _ ty) hp h) rz hl fun s5 p5 m5=>bg ⟨rfl,hC s5 ((YF.YB ((u2.trans u3).trans u4)).trans p5) (pL (hf rfl)▸m5)⟩
noncomputable def G5 (w:gp)(k:Nat)(A:Around)(sc scope:Scope)(ρ:Yx)(t:PySem.Expr)(ifs:List PySem.Expr)(kx vx:PySem.Expr)(l:List D)(f:D→Bool×Str×D):Prop:=
 ∀d∈l,gk t d (inner scope ρ) fun ρ'=>∀X' cenv s',Cx w k A X' cenv (aG scope sc) ρ' s'→fM w A (bI ifs true cenv) (f d).1 s'∧((f d).1=true→aV w A X' (ku kx cenv) (.str (f d).2.1) s'∧aV w A X' (ku vx cenv) (f d).2.2 s')
theorem yH (cx:Cx w k A X env sc ρ s){kx vx target iter:PySem.Expr}{ifs:List PySem.Expr}{scope:Scope}{pos:UK}{l:List D}{f:D→Bool×Str×D}{E:bX→aE→Prop}{RR:bX→Addr→DO→aE→Prop}
  (hok:cO scope sc=true) (hn:bw scope (ak target))
  (src:bk w A X target (ku iter env) l s)
  (each:G5 w k A sc scope ρ target ifs kx vx l f)
  (hnd:((l.flatMap fun d=>aL (f d).1 [(f d).2]).map (fun x=>x.1)).Nodup)
  (hlen:l.length≤sizeLine)
  (hRR:∀acc C s',Pu s s'→(∃m,s'.heap.Ns C m)→s.heap.get? C=none→C≠PT→Rep w s'.heap (fun a=>X a∨a=C) (.dct ((l.flatMap fun d=>aL (f d).1 [(f d).2]).map (fun x=>x.1)) ((l.flatMap fun d=>aL (f d).1 [(f d).2]).map (fun x=>x.2))) acc→RR acc C (.ok .next) s') :
  cE (cS PW w) A (ku iter env) (fun x s₁=>cE (cS PW w) A (BQ x) (fun it s₂=>cE (cS PW w) A newDict (fun acc s₃=>
   cE (cS PW w) A (AB scope env.globals (dG env.cells scope.names []) [] env.qual none .none (some env)) (fun cenv s₄=>
    A8 (cS PW w) A (.compStart (.DictComp kx vx [⟨target,iter,ifs,0⟩] scope pos) 0 it acc {cenv with scope:=F6 scope env}) (RR acc cenv.locals) s₄) E s₃) E s₂) E s₁) E s:=by
 refine sW cx [] (acc:=fun done=>aj (done.flatMap fun d=>aL (f d).1 [(f d).2])) hok hn (fun x h=>nomatch h) src rfl (fun Y Y h=>l7 h) (fun e=>.dct _ _ [] rfl ⟨_,#[],0,e,⟨rfl,rfl,rfl⟩,rfl,fun Y he=>absurd he (Array.not_mem_empty Y),Pairs.nil,JO⟩ rfl aX.nil) (fun it acc env=>⟨⟨rfl,rfl⟩,rfl,rfl⟩) rfl rfl
  (body:=fun it Da env=>Jc kx vx ifs (.compLoop (.DictComp kx vx [⟨target,iter,ifs,0⟩] scope pos) 0 it (.ref Da) env) Da env) (fun it Da env=>compTurn_dict kx vx target iter ifs scope pos it Da env) (fun {done d r} e1=>?_) hRR
 obtain ⟨ρ',hb,hev⟩:=each d (e1▸jv _ ay)
 refine⟨ρ',hb,fun X' ce Da s1 R it C m hC=>yI m (hev X' ce s1 m.cx).1 (hev X' ce s1 m.cx).2 (fun hb1 h=>?_) (ai qu (ai (zG e1) hlen)) fun s2 p m=>hC s2 (p.mono fun a h=>.inr h) (nM▸m)⟩
 rw[e1,pT,g9,fk,hb1] at hnd
 exact(i8.mp hnd).2.2 _ h _ ay rfl
theorem pU (cx:Cx w k A X env sc ρ s){kx vx target iter:PySem.Expr}{ifs:List PySem.Expr}{scope:Scope}{pos:UK}{l:List D}{f:D→Bool×Str×D}{m:KD}(e:(l.flatMap fun d=>aL (f d).1 [(f d).2])=m)(hnd:(m.map (fun x=>x.1)).Nodup)(hlen:l.length≤sizeLine)
  (hok:cO scope sc=true) (hn:bw scope (ak target)) (ZF:cJ iter=false) (src:∀s',Pu s s'→bk w A X target (ku iter env) l s') (each:G5 w k A sc scope ρ target ifs kx vx l f) :
  Sto w A X (.DictComp kx vx [⟨target,iter,ifs,0⟩] scope pos) env (aj m) s:=e▸oV cx rfl rfl (fun Z=>rfl) rfl ZF hok fun s' E RR u h=>yH (cx.pu u) hok hn (src s' u) each (e▸hnd) hlen h
end
end
section
section
variable {w:gp}{k:Nat}{A:Around}{X X':Addr→Prop}{env:UI}{sc:Scope}{ρ:Yx}{s:aE}
theorem pP {n:Nat}(h:0<n):Lm (-1) n=some (n - 1):=by
 unfold Lm
 simp only[show((-1:Int)<0) from by decide,if_true]
 have:(-1+(n:Int)).toNat=n - 1:=by exact Yk h
 rw[if_pos (by simp;exact TF h),this]
theorem vV {x:Str}{i:Int}{j:Nat}{va vi:bX}(hj:j<x.length)(hsz:x.length≤sizeLine)(hi:Lm i x.length=some j)(hf:-(sizeLine:Int)≤i∧i≤sizeLine)(ra:Rep w s.heap X (.str x) va)(ri:Rep w s.heap X (.int i) vi):
  ItemOn w A X va vi (.str (strAt x j)) s:=by
 obtain ⟨t,rfl⟩:=ra
 obtain ⟨u,rfl⟩:=ri
 have hl:x.cps[j]?=some (x.cps.getD j 0):=by
  have:j<x.cps.size:=hj
  simp[Array.getD,this]
 rw[c9] at hf
 refine⟨"str",_,EX.lookup,rfl,fun Q E hQ=>PM (c:=x.cps.getD j 0) ?_ ?_ (hQ _ _ (Pu.toks _ _) eX)⟩
 ·rw[w9];exact⟨decide_eq_false (by exact Sx hf),decide_eq_false (by exact U6 hf)⟩
 ·rw[hi];exact hl
theorem Ha {a b d:D}{cs:List Prop}{va vi:bX}(h:Gx a b=some (d,cs))(hc:AllP cs)(ra:Rep w s.heap X a va)(rb:Rep w s.heap X b vi):ItemOn w A X va vi d s:=by
 have le:∀{n:Nat},n≤sizeLine→n<2 ^ 62:=fun h=>cK h (by rw[c9];decide)
 replace h:=bF h;rcases h with h|h
 ·replace h:=cC h;obtain ⟨l,rfl,h⟩:=h
  replace h:=cj h;obtain ⟨i,rfl,h⟩:=h
  split at h
  ·obtain ⟨x,hx,e⟩:=iF.mp h
   cases e
   exact jb (tl:=false) (le hc.1) (by assumption) hx ra rb
  ·exact YD h
 replace h:=bF h;rcases h with h|h
 ·replace h:=kJ h;obtain ⟨l,rfl,h⟩:=h
  replace h:=cj h;obtain ⟨i,rfl,h⟩:=h
  split at h
  ·obtain ⟨x,hx,e⟩:=iF.mp h
   cases e
   exact jb (tl:=true) (le hc.1) (by assumption) hx ra rb
  ·exact YD h
 replace h:=bF h;rcases h with h|h
 ·replace h:=bW h;obtain ⟨l,rfl,h⟩:=h
  replace h:=cj h;obtain ⟨i,rfl,h⟩:=h
  split at h
  ·obtain ⟨rfl,rfl⟩:=dQ (aI h)
   rename_i h0
   exact vV hc.1.1 hc.1.2 (gH h0 hc.1.1) (by have:=hc.1;exact PX h0 this) ra rb
  ·split at h
   ·rename_i h1
    subst h1
    obtain ⟨rfl,rfl⟩:=dQ (aI h)
    exact vV (Nat.sub_lt hc.1.1 OF) hc.1.2 (pP hc.1.1) (by have:=hc.1;exact RJ this) ra rb
   ·exact YD h
 ·replace h:=gZ h;obtain ⟨ks,vs,rfl,h⟩:=h
  replace h:=bW h;obtain ⟨x,rfl,h⟩:=h
  obtain ⟨rfl,rfl⟩:=dQ (aI h)
  obtain ⟨ax,kvs,rfl,hd,hs,hx,hk,hr⟩:=ra
  obtain ⟨t,rfl⟩:=rb
  subst hk
  obtain ⟨v,hv,rv⟩:=a0x hr hc.1
  exact⟨"dict",_,PySem.F.slot_dict_getitem.lookup,hd.typeIs,fun Q E hQ=>NH (EI PW w _ t) hd.mapOf hv (hQ _ _ (Pu.toks _ _) rv)⟩
theorem AllInt.get:∀{l:List D} {i:Nat} {d:D},AllInt l→l[i]?=some d→∃x,d=.int x
 | [],i,d,_,h=>by simp at h
 |a::l,0,d,h,e=>by simp at e;subst e;exact h.1
 |a::l,i+1,d,h,e=>h.2.get (by simpa using e)
theorem Z2.get:∀{l:List D} {i:Nat} {d:D},Z2 l→l[i]?=some d→∃x,d=.str x
 | [],i,d,_,h=>by simp at h
 |a::l,0,d,h,e=>by simp at e;subst e;exact h.1
 |a::l,i+1,d,h,e=>h.2.get (by simpa using e)
theorem qL {l:List D}{k:Int}{d:D}{va vi:bX}(h1:0≤k)(h2:k.toNat<l.length)(h4:l.length≤sizeLine)(e:l[k.toNat]?=some d)(ra:Rep w s.heap X (.lst l) va)(rb:Rep w s.heap X (.int k) vi):ItemOn w A X va vi d s:=
 jb (tl:=false) (cK h4 (by rw[c9];decide)) h1 e ra rb
theorem zc {a b d:D}{cs:List Prop}{va vi:bX}(h:yF a b=some (d,cs))(hc:AllP cs)(ra:Rep w s.heap X a va)(rb:Rep w s.heap X b vi):ItemOn w A X va vi d s:=by
 replace h:=cC h;obtain ⟨l,rfl,h⟩:=h
 replace h:=cj h;obtain ⟨k,rfl,h⟩:=h
 cases l with
 |nil=>exact YD h
 |cons y l=>
  have key:0≤k→k<(l.length+1:Nat)→k.toNat<(y::l).length:=fun h1 h2=>(Sa h1).mpr h2
  replace h:=bF h;rcases h with h|h
  ·replace h:=cj h;obtain ⟨i,rfl,h⟩:=h
   obtain ⟨rfl,rfl⟩:=dQ (aI h)
   obtain ⟨⟨h1,h2⟩,h3,h4,_⟩:=hc
   have hg:=c8 (key h1 h2)
   obtain ⟨x,hx⟩:=AllInt.get (l:=D.int i::l) ⟨⟨i,rfl⟩,h3⟩ hg
   refine qL h1 (key h1 h2) h4 ?_ ra rb
   rw[bq,hg,hx];rfl
  ·replace h:=bW h;obtain ⟨i,rfl,h⟩:=h
   obtain ⟨rfl,rfl⟩:=dQ (aI h)
   obtain ⟨⟨h1,h2⟩,h3,h4,_⟩:=hc
   have hg:=c8 (key h1 h2)
   obtain ⟨x,hx⟩:=Z2.get (l:=D.str i::l) ⟨⟨i,rfl⟩,h3⟩ hg
   refine qL h1 (key h1 h2) h4 ?_ ra rb
   rw[bq,hg,hx];rfl
end
end
section
section
variable {w:gp}{k:Nat}{A:Around}{X X':Addr→Prop}{env:UI}{sc:Scope}{ρ:Yx}{s:aE}
noncomputable def fv {β:Type}[Inhabited β](f:D→Option (Bool×β×List Prop))(d:D):Bool×β:=match f d with
 |some (b,x,_)=>(b,x)
 |none=>nE
theorem eU {β:Type}[Inhabited β]{f:D→Option (Bool×β×List Prop)}{l:List D}{r:List β}{cs:List Prop}(h:dw f l=some (r,cs))(hc:AllP cs):
  r=l.flatMap (fun d=>aL (fv f d).1 [(fv f d).2])∧∀d∈l,∃cs',f d=some ((fv f d).1,(fv f d).2,cs')∧AllP cs':=by
 induction l generalizing r cs with
 |nil=>
  cases (show some (([]:List β),([]:List Prop))=some (r,cs) from h)
  exact⟨rfl,fun Z h=>nomatch h⟩
 |cons d l ih=>
  replace h:(match f d with
   |some (b,x,cs)=>(match dw f l with
    |some (r,cs')=>some (aL b [x]++r,cs++cs')
    |none=>none)
   |none=>none)=some (r,cs):=h
  cases hf:f d with
  |none=>rw[hf] at h;exact YD h
  |some q=>
   rw[hf] at h
   cases ho:dw f l with
   |none=>rw[ho] at h;exact YD h
   |some q2=>
    rw[ho] at h
    obtain ⟨rfl,rfl⟩:=dQ (aI h)
    have hc:=AllP.append hc
    have hh:=ih ho hc.2
    have ef:fv f d=(q.1,q.2.1):=by unfold fv;rw[hf]
    rw[fk,ef,←hh.1]
    exact⟨rfl,fE.mpr ⟨⟨q.2.2,ef▸hf,hc.1⟩,hh.2⟩⟩
theorem a2k:∀{es:List PySem.Expr} {bs:List Bool} {s:aE},Iv (fun e b=>Snd w A X e env (.bool b) s) es bs→fM w A (bI es true env) (boolOf true bs) s:=by
 intro es bs s h
 induction h with
 |nil=>exact aW env
 |cons h1 h2 ih=>exact cD (h1.test _ rfl) ih
theorem gV {it:PySem.Expr}(h:(!cJ it)=true):cJ it=false:=(l6 _).mp h
theorem bu {t:PySem.Expr}{scope:Scope}(h:bH t scope=true):cP t=true∧bw scope (ak t):=by
 unfold bH at h
 simp only[j3,fR,B7,beq_iff_eq] at h
 exact h
theorem iY {t:PySem.Expr}{d:D}{ρ':Yx}(h:cZ t d ρ=some ρ'):bj t=true∨(cY t=true∧∃m,d=.tup m):=by
 rcases lG h with ⟨x,p⟩|⟨x,p,y,q,k,r,a,b⟩
 ·exact .inl rfl
 ·exact .inr ⟨rfl,_,rfl⟩
noncomputable def Src (w:gp)(A:Around)(X:Addr→Prop)(t it:PySem.Expr)(env:UI)(l:List D)(s:aE):Prop:=∀s',Pu s s'→bk w A X t (ku it env) l s'
theorem rQ (ha:Zv k A)(hX:Z6 X s){t it:PySem.Expr}{src:D}{l:List D}(he:aV w A X (ku it env) src s)(h:itemsOf t src=some l)(ht:cP t=true)(hb:∀d∈l,bj t=true∨(cY t=true∧∃m,d=.tup m)):Src w A X t it env l s:=by
 cases src with
 |lst l'=>
  obtain rfl:=aI h
  intro s' u
  refine qM ha (hX.pu u) (he s' u) ?_
  cases hn:bj t with
  |true=>exact .inl rfl
  |false=>exact .inr ⟨jk ht hn,fun d hd=>((hb d hd).resolve_left (by rw[hn];exact nV)).2⟩
 |dct ks vs=>
  obtain ⟨hn,h⟩:=dm h
  obtain rfl:=aI h
  exact fun s' u=>zg ha (hX.pu u) (he s' u) hn
 |_=>exact YD h
end
end
section
section
variable {w:gp}{k:Nat}{A:Around}{X X':Addr→Prop}{env:UI}{sc:Scope}{ρ:Yx}{s:aE}{elt t it t2 it2:PySem.Expr}{scope:Scope}{pos:UK}
noncomputable abbrev LC2 (elt t it t2 it2:PySem.Expr)(scope:Scope)(pos:UK):PySem.Expr:=.ListComp elt [⟨t,it,[],0⟩,⟨t2,it2,[],0⟩] scope pos
theorem Dj {Da:Addr}{done l:List D}(mx:Mx w k A X env sc ρ [(Da,.lst done)] s){f:D→D}{R:DO→aE→Prop}{E1:bX→aE→Prop}(hk:bw sc (ak t2))(hnew:∀x∈ak t2,ρ.lookup x=none)
  (src:Src w A X t2 it2 env l s) (each:∀d∈l,gk t2 d ρ fun ρ'=>∀X' s',Cx w k A X' env sc ρ' s'→aV w A X' (ku elt env) (f d) s') (hlen:done.length+l.length≤sizeLine)
  (hQ:∀s',YF (fun a=>mX env sc (ak t2) a∨a=Da) s s'→Mx w k A X env sc ρ [(Da,.lst (done++l.map f))] s'→R (.ok .next) s') :
  cE (cS PW w) A (ku it2 env) (fun x s₃=>cE (cS PW w) A (BQ x) (fun a4Y s₄=>A8 (cS PW w) A (.compStart (LC2 elt t it t2 it2 scope pos) 1 a4Y (.ref Da) env) R s₄) E1 s₃) E1 s:=by
 have hD:X Da:=mx.mu.x _ ay
 refine vJ mx (src s (Pu.refl _)) hk (O:=fun a=>mX env sc (ak t2) a∨a=Da) (fr:=[]) (fun a h=>.inl h) (fun a h=>h.elim (fun q=>mx.ZD q.own) fun q=>q▸hD) (fun a h=>nomatch h) (jE l (fun dn=>.lst (done++dn.map f)) ρ Da)
  (BD:=fun It=>nG w A env R (.compLoop (LC2 elt t it t2 it2 scope pos) 1 (.ref It) (.ref Da) env) (Gn elt [] (.compLoop (LC2 elt t it t2 it2 scope pos) 1 (.ref It) (.ref Da) env) Da env))    ⟨[],rfl,rfl,by rw[AZ,nK]⟩ (fun r YL YC i=>i.go (P:=fun ρ μ=>∀p∈μ,X p.1) fun dn Y p hp=>bS.mp hp▸hD) (fun {d r YL YC} i hd=>?_) (fun YL YC s' i=>?_)
  fun It s1 J self turn n h=>nJ ⟨rfl,rfl⟩ rfl rfl self (qt ⟨rfl,rfl⟩ rfl J turn n h)
 ·refine jE.go i ?_
  intro dn e1
  obtain ⟨ρ',hb,go⟩:=each d hd
  refine⟨ρ',hb,fun X' s4 It C hX p m hC=>qQ (b:=true) m (aW env) (fun Z=>go X' s4 m.cx) ?_ fun s5 p5 m5=>hC _ _ s5 ⟨dn++[d],e1.trans (G2 ..),rfl,by rw[g9,←ko];rfl⟩ (.YJ (p5.mono fun a h=>.inr h)) (m5.Zf fun n d e=>?_)⟩
  ·rw[fm,bP]
   exact ai (gS (zG e1) _) hlen
  ·exact(jo hb fun hm=>YD ((hnew n hm).symm.trans e)).trans e
 ·refine jE.go i ?_
  intro dn e1 p m
  rw[nK] at e1
  exact hQ _ p.pub (e1▸m)
theorem wj {t:PySem.Expr}{d:D}{ρ':Yx}(h:cZ t d ρ=some ρ'){n:Str}(hn:n∉ak t)(hl:ρ.lookup n=none):ρ'.lookup n=none:=(jo h hn).trans hl
noncomputable def J4 (w:gp)(k:Nat)(A:Around)(sc scope:Scope)(ρ:Yx)(t t2 it2 elt:PySem.Expr)(l:List D)(g:D→List D)(f:D→D→D):Prop:=
 ∀d∈l,gk t d (inner scope ρ) fun ρ'=>∀X' cenv s',Cx w k A X' cenv (aG scope sc) ρ' s'→Src w A X' t2 it2 cenv (g d) s'∧
   ∀d2∈g d,gk t2 d2 ρ' fun a1c=>∀X'' s'',Cx w k A X'' cenv (aG scope sc) a1c s''→aV w A X'' (ku elt cenv) (f d d2) s''
theorem wA (cx:Cx w k A X env sc ρ s){l:List D}{g:D→List D}{f:D→D→D}{E:bX→aE→Prop}{RR:bX→Addr→DO→aE→Prop}
  (hok:cO scope sc=true) (hn:bw scope (ak t)) (src:bk w A X t (ku it env) l s)
  (hn2:bw scope (ak t2)) (hap:∀x∈ak t2,x∉ak t) (a1K:cJ it2=false) (each:J4 w k A sc scope ρ t t2 it2 elt l g f) (hlen2:(l.flatMap fun d=>(g d).map (f d)).length≤sizeLine)
  (hRR:∀acc C s',Pu s s'→(∃m,s'.heap.Ns C m)→s.heap.get? C=none→C≠PT→Rep w s'.heap (fun a=>X a∨a=C) (.lst (l.flatMap fun d=>(g d).map (f d))) acc→RR acc C (.ok .next) s') :
  cE (cS PW w) A (ku it env) (fun x s₁=>cE (cS PW w) A (BQ x) (fun iv s₂=>cE (cS PW w) A (newList []) (fun acc s₃=>
   cE (cS PW w) A (AB scope env.globals (dG env.cells scope.names []) [] env.qual none .none (some env)) (fun cenv s₄=>
    A8 (cS PW w) A (.compStart (LC2 elt t it t2 it2 scope pos) 0 iv acc {cenv with scope:=F6 scope env}) (RR acc cenv.locals) s₄) E s₃) E s₂) E s₁) E s:=by
 refine sW cx (ak t2) (acc:=fun done=>.lst (done.flatMap fun d=>(g d).map (f d))) hok hn hn2 src rfl (fun Y Y h=>CH h) (fun e=>.lst _ _ rfl ⟨_,e⟩ aX.nil) (fun it acc env=>⟨⟨rfl,rfl⟩,rfl,rfl⟩) rfl rfl
  (body:=fun itv Da env=>ku it2 env >>= fun x=>GV it2.pos >>= fun Y=>MH it2 env x >>= fun x=>M1 [x] (BQ x) >>= fun i2=>runOwn (.compStart (LC2 elt t it t2 it2 scope pos) 1 i2 (.ref Da) env) env >>= fun Y=>TR (.compLoop (LC2 elt t it t2 it2 scope pos) 0 itv (.ref Da) env)) (fun it Da env=>rfl) (fun {done d r} e1=>?_) hRR
 obtain ⟨ρ',hb,hev⟩:=each d (e1▸jv _ ay)
 refine⟨ρ',hb,fun X' ce Da s1 R itv C m hC=>?_⟩
 have h2:=hev X' ce s1 m.cx
 have hk2:bw (aG scope sc) (ak t2):=fun x hx=>(hn2 x hx).imp (fun q=>du q (by intro h;cases h)) fun q=>du q (by intro h;cases h)
 have fl:(List.flatMap (fun d=>(g d).map (f d)) (done++[d]))=done.flatMap (fun d=>(g d).map (f d))++(g d).map (f d):=by rw[pT,fk,GA,nK]
 have inner:=Dj (R:=fun r s=>match r with
  | .ok Z=>C s
  | .error e=>EJ (cS PW w) A ce (KA (cS PW w) A ce fun e s'=>R (.error e) s') e s) (E1:=KA (cS PW w) A ce fun e s'=>R (.error e) s') (elt:=elt) (t:=t) (it:=it) (scope:=scope) (pos:=pos) (f:=f d) m hk2 (fun x hx=>?_) h2.1 h2.2 ?_ fun s2 p m2=>hC s2 p (fl▸m2)
 ·exact ah (qA inner (fun x s₃ h₃=>ah (pV (ah (C5 (lZ a1K _ x) (ah (fT (qA h₃ (fun i2 s₄ h₄=>ah (wpAny_runOwn (codeAny_mono h₄ fun r s₅ h₅=>by
   cases r with
   |ok f=>exact bg ⟨rfl,h₅⟩
   |error e=>exact h₅))) fun Y Y h'=>h'))))))) fun Y Y h'=>h')
 ·exact wj hb (hap x hx) (oq.mpr fun d e=>(hn2 x hx).elim (cA e).2.1 (cA e).2.2)
 ·rw[e1,G2,pT,fl,fm,fm,bP] at hlen2
  exact ai (f5 _ _) hlen2
theorem rR (cx:Cx w k A X env sc ρ s){l:List D}{g:D→List D}{f:D→D→D}(hok:cO scope sc=true)(hn:bw scope (ak t))(hn2:bw scope (ak t2))(hap:∀x∈ak t2,x∉ak t)(ZF:cJ it=false)(a1K:cJ it2=false)
  (src:Src w A X t it env l s) (each:J4 w k A sc scope ρ t t2 it2 elt l g f) (hlen2:(l.flatMap fun d=>(g d).map (f d)).length≤sizeLine):Sto w A X (LC2 elt t it t2 it2 scope pos) env (.lst (l.flatMap fun d=>(g d).map (f d))) s:=
 oV cx rfl rfl (fun Z=>rfl) rfl ZF hok fun s' E RR u h=>wA (cx.pu u) hok hn (src s' u) hn2 hap a1K each hlen2 h
end
end
section
section
variable {w:gp}{k:Nat}{A:Around}{X X':Addr→Prop}{env:UI}{sc:Scope}{ρ:Yx}{s:aE}
theorem oZ {c:Const}{kd:Nat}{pos:UK}{d:D}(h:(∃i,c=.int i∧d=.int i)∨(∃x,c=.str x∧d=.str x)∨(∃b,c=.bool b∧d=.bool b)):aV w A X (ku (.Constant c kd pos) env) d s:=by
 intro s' u Q E hQ
 rcases h with ⟨i,rfl,rfl⟩|⟨x,rfl,rfl⟩|⟨b,rfl,rfl⟩
 ·exact DZ (hQ _ _ (Pu.toks _ _) cI)
 ·exact wpAny_Constant_str (hQ _ _ (Pu.toks _ _) eX)
 ·exact wpAny_Constant_bool (hQ _ _ (Pu.refl _) ie)
theorem bB {e:PySem.Expr}{d:D}(h1:a02 e=true)(h2:nY e=false)(h:aV w A X (ku e env) d s):Sto w A X e env d s:=⟨rP h1 h,fun q=>by rw[h2] at q;exact noB q⟩
theorem nj {β:Type}[Inhabited β]{f:D→Option (Bool×β×List Prop)}{l:List D}{r:List β}{cs:List Prop}(h:dw f l=some (r,cs))(hc:AllP cs)(ht:∀d b x cs,f d=some (b,x,cs)→b=true):
  r=l.map (fun d=>(fv f d).2)∧∀d∈l,∃cs',f d=some (true,(fv f d).2,cs')∧AllP cs':=by
 obtain ⟨e,hall⟩:=eU h hc
 have hb:∀d∈l,(fv f d).1=true:=fun d hd=>by obtain ⟨cs',h1,_⟩:=hall d hd;exact ht _ _ _ _ h1
 refine⟨?_,fun d hd=>by obtain ⟨cs',h1,h2⟩:=hall d hd;exact⟨cs',by rw[hb d hd] at h1;exact h1,h2⟩⟩
 rw[e]
 clear e hall h
 induction l with
 |nil=>rfl
 |cons d l ih=>
  rw[fk,dc,ih (fun d hd=>hb d (bE _ hd)),hb d ay]
  rfl
noncomputable def f2 (f:D→Option (List D×List Prop))(d:D):List D:=match f d with
 |some (x,_)=>x
 |none=>[]
theorem mj {f:D→Option (List D×List Prop)}{l r:List D}{cs:List Prop}(h:fD f l=some (r,cs))(hc:AllP cs):r=l.flatMap (f2 f)∧∀d∈l,∃cs',f d=some (f2 f d,cs')∧AllP cs':=by
 induction l generalizing r cs with
 |nil=>
  cases (show some (([]:List D),([]:List Prop))=some (r,cs) from h)
  exact⟨rfl,fun Z h=>nomatch h⟩
 |cons d l ih=>
  replace h:(match f d with
   |some (x,cs)=>(match fD f l with
    |some (r,cs')=>some (x++r,cs++cs')
    |none=>none)
   |none=>none)=some (r,cs):=h
  cases hf:f d with
  |none=>rw[hf] at h;exact YD h
  |some q=>
   rw[hf] at h
   cases ho:fD f l with
   |none=>rw[ho] at h;exact YD h
   |some q2=>
    rw[ho] at h
    obtain ⟨rfl,rfl⟩:=dQ (aI h)
    have hc:=AllP.append hc
    have hh:=ih ho hc.2
    have ef:f2 f d=q.1:=by unfold f2;rw[hf]
    rw[fk,ef,←hh.1]
    exact⟨rfl,fE.mpr ⟨⟨q.2,ef▸hf,hc.1⟩,hh.2⟩⟩
variable {c:Hooks}
noncomputable def ZK {α:Type}(x:Option (α×List Prop))(P:α→Prop):Prop:=∀a cs,x=some (a,cs)→AllP cs→P a
section
variable {α β:Type}{P:α→Prop}{Q:β→Prop}
theorem ZZ:ZK none P:=fun Z Z h=>nomatch h
theorem iQ {a:α}(h:P a):ZK (some (a,[])) P:=fun Z Z e Z=>by obtain ⟨rfl,_⟩:=dQ (aI e);exact h
theorem Hn {x:Option α}(h:∀a,x=some a→P a):ZK (noC x) P:=fun Z Z e Z=>by
 cases x with
 |none=>exact YD e
 |some a=>obtain ⟨rfl,_⟩:=dQ (aI e);exact h _ rfl
theorem fC {b:Bool}{x:Option (α×List Prop)}(h:b=true→ZK x P):ZK (grd b x) P:=by
 cases b with
 |true=>exact h rfl
 |false=>exact ZZ
theorem iC {f:α→β}{x:Option (α×List Prop)}(h:ZK x fun a=>Q (f a)):ZK (uf f x) Q:=fun Z Z e hc=>by
 cases x with
 |none=>exact YD e
 |some p=>obtain ⟨rfl,rfl⟩:=dQ (aI e);exact h _ _ rfl hc
theorem qg {x:Option (α×List Prop)}{f:α→Option (β×List Prop)}{g:α→β→List Prop}{b:β}{cs:List Prop}(e:Gm g x f=some (b,cs)):∃a c1 c2,x=some (a,c1)∧f a=some (b,c2)∧cs=g a b++(c1++c2):=by
 cases x with
 |none=>exact YD e
 |some p=>
  replace e:(match f p.1 with
   |some (c,cs')=>some (c,g p.1 c++(p.2++cs'))
   |none=>none)=some (b,cs):=e
  cases hx:f p.1 with
  |none=>rw[hx] at e;exact YD e
  |some q=>
   rw[hx] at e
   obtain ⟨rfl,rfl⟩:=dQ (aI e)
   exact⟨_,_,_,rfl,hx,rfl⟩
theorem pI {x:Option (α×List Prop)}{f:α→Option (β×List Prop)}{g:α→β→List Prop}(h:ZK x P)(hf:∀a,P a→ZK (f a) fun b=>AllP (g a b)→Q b):ZK (Gm g x f) Q:=fun b cs e hc=>by
 obtain ⟨a,c1,c2,h1,h2,rfl⟩:=qg e
 have hc:=AllP.append hc
 have hd:=AllP.append hc.2
 exact hf _ (h _ _ h1 hd.1) _ _ h2 hd.2 hc.1
theorem Nv (x:Option (α×List Prop))(f:α→Option (β×List Prop)):bnd x f=Gm (fun Z Z=>[]) x f:=rfl
theorem bK {x:Option (α×List Prop)}{f:α→Option (β×List Prop)}(h:ZK x P)(hf:∀a,P a→ZK (f a) Q):ZK (bnd x f) Q:=
 Nv x f▸pI h fun a ha b cs e hc Z=>hf a ha b cs e hc
theorem qY {x:Option α}{f:α→Option (β×List Prop)}(h:∀a,x=some a→ZK (f a) Q):ZK (x.bind f) Q:=by
 cases x with
 |none=>exact ZZ
 |some a=>exact h a rfl
theorem dh {x:Option (α×List Prop)}{P':α→Prop}(h:ZK x P)(m:∀a,P a→P' a):ZK x P':=fun a cs e hc=>m a (h a cs e hc)
end
noncomputable def PS (w:gp)(k:Nat)(c:Hooks)(e:PySem.Expr):Prop:=∀{A:Around} {X:Addr→Prop} {env:UI} {sc:Scope} {ρ:Yx} {s:aE},Cx w k A X env sc ρ s→ZK (aZ c e sc ρ) fun d=>Sto w A X e env d s∧isStarred e=false
theorem dU {e:PySem.Expr}(h:∀sc ρ,aZ c e sc ρ=none):PS w k c e:=fun Z Z Z h' Z=>nomatch (h _ _).symm.trans h'
theorem a00:∀(es:List PySem.Expr),(∀e∈es,PS w k c e)→∀{A:Around} {X:Addr→Prop} {env:UI} {sc:Scope} {ρ:Yx} {s:aE},Cx w k A X env sc ρ s→
  ZK (o6 c es sc ρ) fun ds=>bO w A X es env ds s∧(∀e∈es,isStarred e=false)∧ds.length=es.length:=by
 intro es
 induction es with
 |nil=>exact fun Z Z Z Z Z Z Z Z=>iQ ⟨args_nil,fun Z h=>(nomatch h),rfl⟩
 |cons e es ih=>
  intro hp A X env sc ρ s cx
  exact bK (hp e ay cx) fun a ha=>iC (dh (ih (fun e h=>hp e (bE _ h)) cx) fun ds hd=>
   ⟨args_cons cx.Yz ha.2 ha.1.snd.ev hd.1,fE.mpr ⟨ha.2,hd.2.1⟩,congrArg PZ hd.2.2⟩)
theorem Cj {d:D}:ZK (Jd d) fun b=>d=.bool b:=fun b cs e Z=>by
 cases d with
 |bool x=>rw[(dQ (aI e)).1]
 |_=>exact YD e
theorem Ij {d:D}:ZK (W6 d) fun b=>d=.str b:=fun b cs e Z=>by
 cases d with
 |str x=>rw[(dQ (aI e)).1]
 |_=>exact YD e
theorem H8 {d:D}:ZK (Wf d) fun b=>∃i,b=some i∧d=.int i:=fun b cs e Z=>by
 cases d with
 |int x=>exact⟨x,(dQ (aI e)).1.symm,rfl⟩
 |_=>exact YD e
theorem Fd {d:D}:ZK (MN d) fun vs=>∃ks,d=.dct ks vs:=fun b cs e Z=>by
 cases d with
 |dct ks vs=>exact⟨ks,by rw[(dQ (aI e)).1]⟩
 |_=>exact YD e
theorem zR {d:D}:ZK (FJ d) fun b=>d=.order b:=fun b cs e Z=>by
 cases d with
 |order x=>rw[(dQ (aI e)).1]
 |_=>exact YD e
theorem zW (all:Bool):∀(es:List PySem.Expr),(∀e∈es,PS w k c e)→∀{A:Around} {X:Addr→Prop} {env:UI} {sc:Scope} {ρ:Yx} {s:aE},Cx w k A X env sc ρ s→
  ZK (IV c all es sc ρ) fun b=>∃bs,Iv (fun e b=>Snd w A X e env (.bool b) s) es bs∧b=boolOf all bs:=by
 intro es
 induction es with
 |nil=>exact fun Z Z Z Z Z Z Z Z=>iQ ⟨[],.nil,rfl⟩
 |cons e es ih=>
  intro hp A X env sc ρ s cx
  refine bK (P:=fun a=>Snd w A X e env (.bool a) s) (bK (hp e ay cx) fun d hd=>dh Cj fun a ha=>ha▸hd.1.snd) fun a ha=>iC (dh (ih (fun e h=>hp e (bE _ h)) cx) fun b hb=>?_)
  obtain ⟨bs,h3,rfl⟩:=hb
  exact⟨a::bs,.cons ha h3,by cases all<;>rfl⟩
theorem mz {e:Option PySem.Expr}(hp:∀x∈e,PS w k c x){A:Around}{X:Addr→Prop}{env:UI}{sc:Scope}{ρ:Yx}{s:aE}(cx:Cx w k A X env sc ρ s):ZK (vL c e sc ρ) fun i=>qb w A X e env i s:=by
 cases e with
 |none=>exact iQ trivial
 |some e=>
  refine bK (hp e rfl cx) fun d hd=>dh H8 fun b hb=>?_
  obtain ⟨i,rfl,rfl⟩:=hb
  exact hd.1.snd.ev
theorem Eb {v:Const}{kd:Nat}{p:UK}:PS w k c (.Constant v kd p):=by
 intro A X env sc ρ s cx
 cases v with
 |int i=>exact iQ ⟨bB rfl rfl (oZ (.inl ⟨_,rfl,rfl⟩)),rfl⟩
 |str i=>exact iQ ⟨bB rfl rfl (oZ (.inr (.inl ⟨_,rfl,rfl⟩))),rfl⟩
 |bool i=>exact iQ ⟨bB rfl rfl (oZ (.inr (.inr ⟨_,rfl,rfl⟩))),rfl⟩
 |_=>exact ZZ
theorem kY {x:Str}{p:UK}{A:Around}{X:Addr→Prop}{env:UI}{sc:Scope}{ρ:Yx}{s:aE}(cx:Cx w k A X env sc ρ s):ZK (pname sc ρ x) fun d=>aV w A X (ku (.Name x p) env) d s:=by
 refine fC fun hg=>Hn fun d h=>?_
 have hg:=(l6 _).mp hg
 have hd1:=(w9.mp hg).1
 have hd2:=(w9.mp hg).2
 cases hk:sc.names.lookup x with
 |none=>rw[hk] at h;exact YD h
 |some kd=>
  rw[hk] at h
  cases kd with
  |globalImplicit=>exact bZ cx hk h
  | «local»=>exact aK cx (.inl hk) h hd1 hd2
  |cell=>exact aK cx (.inr (.inl hk)) h hd1 hd2
  |free=>exact aK cx (.inr (.inr hk)) h hd1 hd2
  |_=>exact YD h
theorem HN {x:Str}{p:UK}:PS w k c (.Name x p):=fun cx=>dh (kY cx) fun Z h=>⟨bB rfl rfl h,rfl⟩
theorem vm {f:Str}{p:UK}{v:D}{A:Around}{X:Addr→Prop}{env:UI}{sc:Scope}{ρ:Yx}{s:aE}(cx:Cx w k A X env sc ρ s)(h:De sc f=some v):aV w A X (ku (.Name f p) env) v s:=
 bZ cx (of_decide_eq_true (dm h).1) (dm h).2
noncomputable def Par (w:gp)(k:Nat)(c:Hooks):PySem.Expr→Prop
 | .Call _ args _ _=>∀a∈args,PS w k c a
 | .Slice lo hi st _=>(∀e∈lo,PS w k c e)∧(∀e∈hi,PS w k c e)∧∀e∈st,PS w k c e
 | .BinOp l _ r _=>PS w k c l∧PS w k c r
 |_=>True
theorem Bq {d:D}{n:String}(h:tyOf d=some n):d=.val (.type n):=by
 cases d with
 |val v=>
  cases v with
  |type m=>rw[aI h]
  |_=>exact YD h
 |_=>exact YD h
theorem yL {ds l:List D}(h:Wb ds=some l):∃l',ds=[.lst l']∧l=ZP 0 l':=by
 rcases ds with _|⟨d,_|⟨_,_⟩⟩
 ·exact YD h
 ·cases d with
  |lst l'=>obtain rfl:=aI h;exact⟨l',rfl,rfl⟩
  |_=>exact YD h
 ·exact YD h
theorem Es {t:PySem.Expr}{f:Str}{fp p:UK}{args:List PySem.Expr}{ds l:List D}{A:Around}{X:Addr→Prop}{env:UI}{sc:Scope}{ρ:Yx}{s:aE}{v:D}(cx:Cx w k A X env sc ρ s)(hv:De sc f=some v)(h:Wa t v ds=some l)
  (b:bO w A X args env ds s∧(∀e∈args,isStarred e=false)∧ds.length=args.length):Src w A X t (.Call (.Name f fp) args [] p) env l s:=by
 obtain ⟨n,hn,h1⟩:=l8.mp h
 cases Bq hn
 have hf:=vm cx (p:=fp) hv
 have hnil:args=[]→ds=[]:=fun e=>oj.mp (b.2.2.trans (e▸rfl))
 intro s' u
 cases hr:n=="range" with
 |true=>
  rw[hr] at h1
  cases beq_iff_eq.mp hr
  exact wN (cx.pu u) (hf.pu u) (b.1.pu u) b.2.1 hnil (dm h1).2 (dm h1).1
 |false=>
  rw[hr] at h1
  have hg:=cy.mp (dm h1).1
  cases beq_iff_eq.mp hg.1
  obtain ⟨l',e1,rfl⟩:=yL (dm h1).2
  exact zf (cx.pu u) (hf.pu u) (b.1.pu u) b.2.1 hnil e1 hg.2
theorem HR {t it:PySem.Expr}(hp:Par w k c it){A:Around}{X:Addr→Prop}{env:UI}{sc:Scope}{ρ:Yx}{s:aE}(cx:Cx w k A X env sc ρ s):ZK (psrc c t it sc ρ) fun l=>Src w A X t it env l s:=by
 cases it with
 |Call f args kws p=>
  refine fC fun hk=>bK (a00 args hp cx) fun ds b=>?_
  cases NI.mp hk
  cases f with
  |Name f fp=>exact qY fun v hv=>Hn fun l hl=>Es cx hv hl b
  |Attribute o m ap=>
   refine fC fun hm=>qY fun o' ho=>?_
   have h1:=cy.mp hm
   have h2:=cy.mp h1.2
   have h3:=cy.mp h2.2
   obtain ⟨op,rfl⟩:=d9 ho
   cases oj.mp (of_decide_eq_true h1.1)
   refine bK (kY (p:=op) cx) fun d hd=>dh Fd fun vs hv=>?_
   obtain ⟨ks,rfl⟩:=hv
   exact fun s' u=>zj (cx.pu u) (hd.pu u) (beq_iff_eq.mp h2.1) h3.1 h3.2
  |_=>exact ZZ
 |_=>exact ZZ
theorem ji {t it:PySem.Expr}(hp:PS w k c it)(hq:Par w k c it){A:Around}{X:Addr→Prop}{env:UI}{sc:Scope}{ρ:Yx}{s:aE}(cx:Cx w k A X env sc ρ s)(ht:cP t=true):
  ZK (nu t (psrc c t it sc ρ) (aZ c it sc ρ)) fun l=>(∀d∈l,bj t=true∨(cY t=true∧∃m,d=.tup m))→Src w A X t it env l s:=fun l cs h hc hb=>by
 cases q0:psrc c t it sc ρ with
 |some x=>rw[q0] at h;obtain rfl:=aI h;exact HR hq cx _ _ q0 hc
 |none=>
  rw[q0] at h
  cases q:aZ c it sc ρ with
  |none=>rw[q] at h;exact YD h
  |some x=>
   rw[q] at h
   obtain ⟨l',hl,e⟩:=iF.mp h
   cases e
   exact rQ cx.a cx.Yz (hp cx _ _ q hc).1.snd.ev hl ht hb
theorem vO {l r:PySem.Expr}{op:II}{p:UK}(hl:PS w k c l)(hr:PS w k c r):PS w k c (.BinOp l op r p):=fun cx=>
 bK (hl cx) fun Z ha=>bK (hr cx) fun Z hb Z Z h hc=>⟨bB rfl rfl (aQ cx.Yz ha.1.snd.ev hb.1.snd.ev h hc),rfl⟩
theorem HQ {e:PySem.Expr}{op:UnaryOp}{p:UK}(he:PS w k c e):PS w k c (.UnaryOp op e p):=fun cx=>
 bK (he cx) fun Z ha Z Z h Z=>⟨bB (by cases op<;>first|rfl|exact YD h) rfl (CQ ha.1.snd.ev h),rfl⟩
theorem Ad {es:List PySem.Expr}{op:BoolOp}{p:UK}(he:∀e∈es,PS w k c e):PS w k c (.BoolOp op es p):=fun cx=>
 fC fun hne=>iC (dh (zW (op==.And) es he cx) fun b hb=>by
  obtain ⟨bs,h2,rfl⟩:=hb
  exact⟨⟨pQ (by simpa using hne) h2,fun q=>nomatch q⟩,rfl⟩)
theorem Ec {t b o:PySem.Expr}{p:UK}(ht:PS w k c t)(hb:PS w k c b)(ho:PS w k c o):PS w k c (.IfExp t b o p):=fun cx=>
 bK (ht cx) fun Z hx=>bK (hb cx) fun Z hy=>bK (ho cx) fun Z hz=>Hn fun Z h=>by
  obtain ⟨x',h1,h2⟩:=l8.mp h
  exact⟨⟨Ig hx.1.snd hy.1.snd hz.1.snd h1 h2,fun q=>nomatch q⟩,rfl⟩
theorem xm {l:PySem.Expr}{ops:List UD}{rs:List PySem.Expr}{p:UK}(hl:PS w k c l)(hr:∀r∈rs,PS w k c r):PS w k c (.Compare l ops rs p):=by
 rcases ops with _|⟨op,_|⟨_,_⟩⟩<;>rcases rs with _|⟨r,_|⟨_,_⟩⟩<;>first|exact dU fun Z Z=>rfl|skip
 exact fun cx=>bK (hl cx) fun Z ha=>bK (hr r ay cx) fun Z hb=>fC fun hm Z Z h hc=>⟨⟨aM cx.a cx.Yz ha.1.snd.ev hb.1.snd.ev h hc ((l6 _).mp hm),fun q=>nomatch q⟩,rfl⟩
theorem wD {v d:D}{ds:List D}{cs:List Prop}(h:dCall c v ds=some (d,cs)):(∃f,v=.val (.ref f)∧a0f.contains f=true∧c.fn f ds=some (d,cs))∨∃id,v=.val (.builtin id)∧c.bi id ds=some (d,cs):=by
 cases v with
 |val u=>
  cases u with
  |ref f=>exact .inl ⟨f,rfl,dm h⟩
  |builtin id=>exact .inr ⟨id,rfl,h⟩
  |_=>exact YD h
 |_=>exact YD h
theorem HF (H:au w c k){f:PySem.Expr}{args:List PySem.Expr}{kws:List Keyword}{p:UK}(ha:∀a∈args,PS w k c a):PS w k c (.Call f args kws p):=by
 intro A X env sc ρ s cx
 refine fC fun hk=>bK (a00 args ha cx) fun ds b=>?_
 cases NI.mp hk
 cases f with
 |Name f fp=>
  refine qY fun v hv d cs h hc=>?_
  have hnil:args=[]→ds=[]:=fun e=>oj.mp (b.2.2.trans (e▸rfl))
  have hf:=vm cx (p:=fp) hv
  refine⟨bB rfl rfl ?_,rfl⟩
  rcases wD h with ⟨a,rfl,hk,h⟩|⟨id,rfl,h⟩
  ·exact jr H cx hf b.1 b.2.1 hnil hk h hc
  ·exact gw H cx hf b.1 b.2.1 hnil h hc
 |Attribute v m ap=>
  refine qY fun o ho=>?_
  obtain ⟨op,rfl⟩:=d9 ho
  refine bK (kY (p:=op) cx) fun a hr=>fC fun hl d cs h hc=>?_
  have hl:=cy.mp hl
  exact⟨bB rfl rfl (H.me m a ds d cs h hc A X env sc ρ s cx o op args ap p hr b.1 b.2.1 hl.1 (of_decide_eq_true hl.2) b.2.2),rfl⟩
 |_=>exact ZZ
theorem HD {v:PySem.Expr}{x:Str}{p:UK}:PS w k c (.Attribute v x p):=by
 intro A X env sc ρ s cx
 refine qY fun o ho=>?_
 obtain ⟨op,rfl⟩:=d9 ho
 refine bK (kY (p:=op) cx) fun a hr=>fC fun hx=>dh zR fun sel hs=>?_
 subst hs
 cases beq_iff_eq.mp hx
 exact⟨bB rfl rfl (GK (C:=55) cx hr ⟨rfl,rfl⟩ fun h v r=>by obtain ⟨b,u,e,i,q⟩:=r;exact⟨b,u,e,i,q⟩),rfl⟩
theorem Ed {e:PySem.Expr}{lo hi st:Option PySem.Expr}{sp p:UK}(he:PS w k c e)(hp:Par w k c (.Slice lo hi st sp)):PS w k c (.Subscript e (.Slice lo hi st sp) p):=fun cx=>
 bK (he cx) fun Z ha=>bK (mz hp.1 cx) fun Z hl=>bK (mz hp.2.1 cx) fun Z hu=>bK (mz hp.2.2 cx) fun Z ht Z Z h hc=>
  ⟨bB rfl rfl (CP cx.Yz ha.1.snd.ev hl hu ht fun s' va vi i1 i2 i3 u' ra rs p1 p2 p3=>Aw (cx.Yz.pu u') h hc ra rs p1 p2 p3),rfl⟩
theorem Mm {e l r:PySem.Expr}{p p2:UK}(he:PS w k c e)(hp:Par w k c (.BinOp l .Mod r p)):PS w k c (.Subscript e (.BinOp l .Mod r p) p2):=fun cx=>
 bK (he cx) fun Z ha=>bK (vO (op:=.Mod) (p:=p) hp.1 hp.2 cx) fun Z hi Z Z h hc=>
  ⟨bB rfl rfl (eE cx.Yz ha.1.snd.ev hi.1.snd.ev (fun s' va vb u' ra rb=>zc h hc ra rb) (by intro p o v;cases p<;>rfl)),rfl⟩
noncomputable def Wh (e:PySem.Expr):Bool:=K2 e.ctorIdx 26
theorem Bf {i:PySem.Expr}(h:Wh i=false)(p:Bool)(o v:bX):C4 i p o v=match p with|true=>Ll (.builtin "lifetime.subscript" ⟨[o,v],[]⟩)|false=>Kn [o,v] (CM o v):=by
 cases i with
 |Slice=>cases h
 |_=>cases p<;>rfl
theorem Ae {e i:PySem.Expr}{p:UK}(he:PS w k c e)(hi:PS w k c i)(hs:∀sc ρ,aZ c (.Subscript e i p) sc ρ=bnd (aZ c e sc ρ) fun a=>bnd (aZ c i sc ρ) fun b=>Gx a b)(hn:Wh i=false):PS w k c (.Subscript e i p):=fun cx=>by
 rw[hs]
 exact bK (he cx) fun Z ha=>bK (hi cx) fun Z hb Z Z h hc=>⟨bB rfl rfl (eE cx.Yz ha.1.snd.ev hb.1.snd.ev (fun s' va vb u' ra rb=>Ha h hc ra rb) (Bf hn)),rfl⟩
theorem rB {e i:PySem.Expr}{p:UK}(he:PS w k c e)(hi:PS w k c i)(hp:Par w k c i):PS w k c (.Subscript e i p):=by
 cases i with
 |Slice lo hi' st sp=>exact Ed he hp
 |BinOp l op r p=>cases op with
  |Mod=>exact Mm he hp
  |_=>exact Ae he hi (fun Z Z=>rfl) rfl
 |_=>exact Ae he hi (fun Z Z=>rfl) rfl
theorem Ef {es:List PySem.Expr}{kd:Nat}{p:UK}(ha:∀a∈es,PS w k c a):PS w k c (.Tuple es kd p):=fun cx=>
 fC fun hl=>iC (dh (a00 es ha cx) fun ds b=>⟨bB rfl rfl (kh cx.Yz (b.2.2.symm▸of_decide_eq_true hl) b.1),rfl⟩)
theorem HJ {es:List PySem.Expr}{p:UK}(ha:∀a∈es,PS w k c a):PS w k c (.List es p):=fun cx=>
 fC fun hl=>iC (dh (a00 es ha cx) fun ds b=>⟨bB rfl rfl (ph cx.Yz (b.2.2.symm▸of_decide_eq_true hl) b.1),rfl⟩)
theorem HH {ks:List (Option PySem.Expr)}{vs:List PySem.Expr}{p:UK}:PS w k c (.Dict ks vs p):=by
 cases ks with
 |cons=>exact dU fun Z Z=>rfl
 |nil=>cases vs with
  |cons=>exact dU fun Z Z=>rfl
  |nil=>exact fun cx=>iQ ⟨bB rfl rfl (CG cx.Yz),rfl⟩
noncomputable def sG (w:gp)(k:Nat)(c:Hooks)(g:xA):Prop:=(PS w k c g.iter∧Par w k c g.iter)∧∀e∈g.ifs,PS w k c e
theorem zE {β:Type}{p1:Yx→Option (Bool×List Prop)}{p2:Yx→Option (β×List Prop)}{t:PySem.Expr}{ρ:Yx}{d:D}{b:Bool}{x:β}{cs:List Prop}{P1:Yx→Bool→Prop}{P2:Yx→β→Prop}(h:lcF p1 p2 t ρ d=some (b,x,cs))(hc:AllP cs)
  (h1:∀ρ',ZK (p1 ρ') (P1 ρ')) (h2:∀ρ',ZK (p2 ρ') (P2 ρ')):∃ρ',cZ t d ρ=some ρ'∧P1 ρ' b∧P2 ρ' x:=by
 unfold lcF at h
 cases hb:cZ t d ρ with
 |none=>rw[hb] at h;exact YD h
 |some ρ'=>
  rw[hb] at h
  replace h:(match bnd (p1 ρ') fun b=>uf (M0 b) (p2 ρ') with
   |some ((b,x),cs)=>some (b,x,cs)
   |none=>none)=some (b,x,cs):=h
  cases hq:bnd (p1 ρ') fun b=>uf (M0 b) (p2 ρ') with
  |none=>rw[hq] at h;exact YD h
  |some q=>
   rw[hq] at h
   cases h
   have r:=bK (Q:=fun y=>P1 ρ' y.1∧P2 ρ' y.2) (h1 ρ') (fun a ha=>iC (dh (h2 ρ') fun y hy=>⟨ha,hy⟩)) _ _ hq hc
   exact⟨ρ',rfl,r⟩
theorem vK {ifs:List PySem.Expr}(hg:∀e∈ifs,PS w k c e){A:Around}{sc:Scope}(ρ:Yx):ZK (IV c true ifs sc ρ) fun b=>∀X' cenv s',Cx w k A X' cenv sc ρ s'→fM w A (bI ifs true cenv) b s':=fun b cs e hc X' cenv s' cx=>by
 obtain ⟨bs,g1,rfl⟩:=zW true ifs hg cx b cs e hc
 exact a2k g1
theorem vN {e:PySem.Expr}(he:PS w k c e){A:Around}{sc:Scope}(ρ:Yx):ZK (aZ c e sc ρ) fun x=>∀X' cenv s',Cx w k A X' cenv sc ρ s'→aV w A X' (ku e cenv) x s':=fun x cs e hc X' cenv s' cx=>(he cx x cs e hc).1.snd.ev
theorem Mj {elt t it:PySem.Expr}{ifs:List PySem.Expr}{scope:Scope}{p:UK}(he:PS w k c elt)(hg:sG w k c ⟨t,it,ifs,0⟩):PS w k c (.ListComp elt [⟨t,it,ifs,0⟩] scope p):=by
 intro A X env sc ρ s cx
 refine fC fun hok=>?_
 have hok:=cy.mp hok
 have a0S:=cy.mp hok.2
 have ht:=bu a0S.1
 refine iC (pI (ji hg.1.1 hg.1.2 cx ht.1) fun items a1L l c2 h2 hc2 hlen=>?_)
 obtain ⟨rfl,hall⟩:=eU h2 hc2
 have each:=fun d hd=>(hall d hd).elim fun cs' h=>zE h.1 h.2 (vK (A:=A) hg.2) (vN (A:=A) he)
 have a2i:=a1L fun d hd=>(each d hd).elim fun Z h=>iY h.1
 exact⟨fZ cx hok.1 ht.2 (gV a0S.2) a2i (fun d hd=>(each d hd).elim fun ρ' h=>.mk ρ' h.1 fun X' cenv s' cx'=>av (h.2.1 X' cenv s' cx') fun Z=>h.2.2 X' cenv s' cx') hlen.1,rfl⟩
noncomputable def itF (p1:Yx→Option (List D×List Prop))(t:PySem.Expr)(ρ:Yx)(d:D):List D:=match cZ t d ρ with
 |some ρ'=>(match p1 ρ' with
  |some q=>q.1
  |none=>[])
 |none=>[]
noncomputable def elF (p2:Yx→R)(t t2:PySem.Expr)(ρ:Yx)(d d2:D):D:=match cZ t d ρ with
 |some ρ'=>(fv (lcF (fun Z=>some (true,[])) p2 t2 ρ') d2).2
 |none=>.none
theorem Dt {β:Type}{p2:Yx→Option (β×List Prop)}{t:PySem.Expr}{ρ:Yx}{d:D}{b:Bool}{x:β}{cs:List Prop}(h:lcF (fun Z=>some (true,[])) p2 t ρ d=some (b,x,cs)):b=true:=by
 unfold lcF at h
 cases hb:cZ t d ρ with
 |none=>rw[hb] at h;exact YD h
 |some ρ'=>
  rw[hb] at h
  replace h:(match bnd (some (true,[])) fun b=>uf (M0 b) (p2 ρ') with
   |some ((b,x),cs)=>some (b,x,cs)
   |none=>none)=some (b,x,cs):=h
  cases hq:p2 ρ' with
  |none=>rw[hq] at h;exact YD h
  |some q=>rw[hq] at h;obtain ⟨rfl,_⟩:=dQ (aI h);rfl
theorem zT {p1:Yx→Option (List D×List Prop)}{p2:Yx→R}{t t2:PySem.Expr}{ρ:Yx}{d:D}{x:List D}{cs:List Prop}{P1:Yx→List D→Prop}{P2:Yx→D→Prop}(h:outF p1 p2 t t2 ρ d=some (x,cs))(hc:AllP cs)
  (h1:∀ρ',ZK (p1 ρ') (P1 ρ')) (h2:∀ρ',ZK (p2 ρ') (P2 ρ')) :
  x=(itF p1 t ρ d).map (elF p2 t t2 ρ d)∧∃ρ',cZ t d ρ=some ρ'∧(itF p1 t ρ d).length≤sizeLine∧P1 ρ' (itF p1 t ρ d)∧∀d2∈itF p1 t ρ d,∃a1c,cZ t2 d2 ρ'=some a1c∧P2 a1c (elF p2 t t2 ρ d d2):=by
 unfold outF at h
 unfold itF elF
 cases hb:cZ t d ρ with
 |none=>rw[hb] at h;exact YD h
 |some ρ'=>
  rw[hb] at h
  obtain ⟨items,c1,c2,e1,e2,rfl⟩:=qg h
  have hc:=AllP.append hc
  have hd:=AllP.append hc.2
  obtain ⟨g1,g2⟩:=nj e2 hd.2 fun d b x cs h=>Dt h
  have p:=h1 ρ' _ _ e1 hd.1
  dsimp only
  rw[e1]
  refine⟨g1,ρ',rfl,hc.1.1,p,fun d2 hd2=>?_⟩
  obtain ⟨cs',q1,q2⟩:=g2 d2 hd2
  obtain ⟨a1c,r1,_,r2⟩:=zE (P1:=fun Z Z=>True) q1 q2 (fun Z Z Z Z Z=>trivial) h2
  exact⟨a1c,r1,r2⟩
theorem wJ {α β:Type}{l:List α}{f g:α→List β}(h:∀d∈l,f d=g d):l.flatMap f=l.flatMap g:=by
 induction l with
 |nil=>rfl
 |cons d l ih=>rw[fk,fk,h d ay,ih fun d' hd'=>h d' (bE _ hd')]
theorem Ml {elt t it t2 it2:PySem.Expr}{scope:Scope}{p:UK}(he:PS w k c elt)(hg:sG w k c ⟨t,it,[],0⟩)(hg2:sG w k c ⟨t2,it2,[],0⟩):PS w k c (.ListComp elt [⟨t,it,[],0⟩,⟨t2,it2,[],0⟩] scope p):=by
 intro A X env sc ρ s cx
 refine fC fun hok=>?_
 have hok:=cy.mp hok
 have a0S:=cy.mp hok.2
 have a2v:=cy.mp a0S.2
 have a3I:=cy.mp a2v.2
 have a3J:=cy.mp a3I.2
 have ht:=bu a0S.1
 have ht2:=bu a2v.1
 refine iC (pI (ji hg.1.1 hg.1.2 cx ht.1) fun items a1L l c2 h2 hc2 hlen=>?_)
 obtain ⟨rfl,hall⟩:=mj h2 hc2
 have each:=fun d hd=>(hall d hd).elim fun cs' h=>zT h.1 h.2 (fun ρ' l cs e hc X' cenv s' (cx':Cx w k A X' cenv (aG scope sc) ρ' s')=>ji hg2.1.1 hg2.1.2 cx' ht2.1 l cs e hc) (vN (A:=A) he)
 have a2i:=a1L fun d hd=>(each d hd).2.elim fun Z h=>iY h.1
 have el:items.flatMap (f2 (outF (fun ρ'=>nu t2 (psrc c t2 it2 (aG scope sc) ρ') (aZ c it2 (aG scope sc) ρ')) (fun ρ'=>aZ c elt (aG scope sc) ρ') t t2 (inner scope ρ)))=
   items.flatMap fun d=>(itF (fun ρ'=>nu t2 (psrc c t2 it2 (aG scope sc) ρ') (aZ c it2 (aG scope sc) ρ')) t (inner scope ρ) d).map (elF (fun ρ'=>aZ c elt (aG scope sc) ρ') t t2 (inner scope ρ) d):=wJ fun d hd=>(each d hd).1
 rw[el] at hlen ⊢
 have hap:∀x∈ak t2,x∉ak t:=fun x hx hx'=>by
  have:=fR.mp a3I.1 x hx
  rw[Co.mpr hx'] at this
  exact noB this
 exact⟨rR cx hok.1 ht.2 ht2.2 hap (gV a3J.1) (gV a3J.2) a2i (fun d hd=>(each d hd).2.elim fun ρ' h=>.mk ρ' h.1 fun X' cenv s' cx'=>av (h.2.2.1 X' cenv s' cx' fun d2 hd2=>(h.2.2.2 d2 hd2).elim fun Z h=>iY h.1) fun d2 hd2=>
  (h.2.2.2 d2 hd2).elim fun a1c h=>.mk a1c h.1 fun X'' s'' a4H=>h.2 X'' cenv s'' a4H) hlen.2.1,rfl⟩
theorem uv {elt:PySem.Expr}{gens:List xA}{scope:Scope}{p:UK}(he:PS w k c elt)(hg:∀g∈gens,sG w k c g):PS w k c (.ListComp elt gens scope p):=by
 rcases gens with _|⟨⟨t,it,ifs,(_|_)|_⟩,_|⟨⟨t2,it2,a3m,(_|_)|_⟩,_|⟨_,_⟩⟩⟩
 case cons.ofNat.zero.nil=>exact Mj he (hg _ ay)
 case cons.ofNat.zero.cons.ofNat.zero.nil=>
  cases ifs with
  |cons=>cases a3m<;>exact dU fun Z Z=>rfl
  |nil=>cases a3m with
   |cons=>exact dU fun Z Z=>rfl
   |nil=>exact Ml he (hg _ ay) (hg _ (bE _ ay))
 all_goals first|exact dU fun Z Z=>rfl|(cases ifs<;>exact dU fun Z Z=>rfl)|(cases ifs<;>cases a3m<;>exact dU fun Z Z=>rfl)
theorem Mi {kx vx t it:PySem.Expr}{ifs:List PySem.Expr}{scope:Scope}{p:UK}(hkx:PS w k c kx)(hvx:PS w k c vx)(hg:sG w k c ⟨t,it,ifs,0⟩):PS w k c (.DictComp kx vx [⟨t,it,ifs,0⟩] scope p):=by
 intro A X env sc ρ s cx
 refine fC fun hok=>?_
 have hok:=cy.mp hok
 have a0S:=cy.mp hok.2
 have a2v:=cy.mp a0S.2
 have ht:=bu a0S.1
 refine iC (pI (ji hg.1.1 hg.1.2 cx ht.1) fun items a1L l c2 h2 hc2 hlen=>?_)
 obtain ⟨rfl,hall⟩:=eU h2 hc2
 have two:∀ρ',ZK (bnd (bnd (aZ c kx (aG scope sc) ρ') W6) fun x=>uf (M0 x) (aZ c vx (aG scope sc) ρ')) fun y=>∀X' cenv s',Cx w k A X' cenv (aG scope sc) ρ' s'→aV w A X' (ku kx cenv) (.str y.1) s'∧aV w A X' (ku vx cenv) y.2 s':=fun ρ'=>
  bK (P:=fun x=>∀X' cenv s',Cx w k A X' cenv (aG scope sc) ρ' s'→aV w A X' (ku kx cenv) (.str x) s') (bK (vN hkx ρ') fun d hd=>dh Ij fun x hx=>hx▸hd) fun x hx=>iC (dh (vN hvx ρ') fun y hy X' cenv s' cx'=>⟨hx X' cenv s' cx',hy X' cenv s' cx'⟩)
 have each:=fun d hd=>(hall d hd).elim fun cs' h=>zE h.1 h.2 (vK (A:=A) hg.2) two
 have a2i:=a1L fun d hd=>(each d hd).elim fun Z h=>iY h.1
 exact⟨pU cx rfl hlen.2.1 hlen.1 hok.1 ht.2 (gV a2v.2) a2i fun d hd=>(each d hd).elim fun ρ' h=>.mk ρ' h.1 fun X' cenv s' cx'=>av (h.2.1 X' cenv s' cx') fun Z=>h.2.2 X' cenv s' cx',rfl⟩
theorem ut {kx vx:PySem.Expr}{gens:List xA}{scope:Scope}{p:UK}(hkx:PS w k c kx)(hvx:PS w k c vx)(hg:∀g∈gens,sG w k c g):PS w k c (.DictComp kx vx gens scope p):=by
 rcases gens with _|⟨⟨t,it,ifs,(_|_)|_⟩,_|⟨_,_⟩⟩
 case cons.ofNat.zero.nil=>exact Mi hkx hvx (hg _ ay)
 all_goals exact dU fun Z Z=>rfl
theorem vM (H:au w c k)(e:PySem.Expr):PS w k c e∧Par w k c e:=by
 have gens:∀{gs:List xA},(∀g∈gs,xo g<xo e)→(∀e',xo e'<xo e→PS w k c e'∧Par w k c e')→∀g∈gs,sG w k c g:=fun hs ih g hg=>by
  have h0:=hs g hg
  cases g with
  |mk t it ifs a=>
   have e0:xo (TL t it ifs a)=1+xo t+xo it+xo ifs+xo a:=O0 ..
   exact⟨ih it (by exact Qa h0 e0),fun x (hx:x∈ifs)=>(ih x (by have:=vt hx;exact Pq h0 e0 this)).1⟩
 have els:∀{es:List PySem.Expr},xo es<xo e→(∀e',xo e'<xo e→PS w k c e'∧Par w k c e')→∀x∈es,PS w k c x:=fun hs ih x hx=>(ih x (xw (vt hx) hs)).1
 have ops:∀{o:Option PySem.Expr},xo o<xo e→(∀e',xo e'<xo e→PS w k c e'∧Par w k c e')→∀x∈o,PS w k c x:=fun {o} hs ih x hx=>by
  cases o with
  |none=>exact YD hx
  |some y=>cases hx;exact(ih x (xw (by show xo x<1+xo x;exact Vo) hs)).1
 have ih:∀e',xo e'<xo e→PS w k c e'∧Par w k c e':=fun e' Z=>vM H e'
 cases e with
 |Constant=>exact⟨Eb,trivial⟩
 |Name=>exact⟨HN,trivial⟩
 |BinOp l op r p=>exact have hl:=ih l (by simp +arith);have hr:=ih r (by simp +arith);⟨vO hl.1 hr.1,hl.1,hr.1⟩
 |UnaryOp op e p=>exact⟨HQ (ih e (by simp +arith)).1,trivial⟩
 |BoolOp op es p=>exact⟨Ad (els (by simp +arith) ih),trivial⟩
 |IfExp a b o p=>exact⟨Ec (ih a (by simp +arith)).1 (ih b (by simp +arith)).1 (ih o (by simp +arith)).1,trivial⟩
 |Compare l os rs p=>exact⟨xm (ih l (by simp +arith)).1 (els (by simp +arith) ih),trivial⟩
 |Call f args kws p=>exact⟨HF H (els (by simp +arith) ih),els (by simp +arith) ih⟩
 |Attribute=>exact⟨HD,trivial⟩
 |Subscript e i p=>exact⟨rB (ih e (by simp +arith)).1 (ih i (by simp +arith)).1 (ih i (by simp +arith)).2,trivial⟩
 |Tuple es kd p=>exact⟨Ef (els (by simp +arith) ih),trivial⟩
 |List es p=>exact⟨HJ (els (by simp +arith) ih),trivial⟩
 |Dict=>exact⟨HH,trivial⟩
 |ListComp elt gs scope p=>exact⟨uv (ih elt (by simp +arith)).1 (gens (fun g hg=>by have:=vt hg;simp +arith;exact Qp this) ih),trivial⟩
 |DictComp kx vx gs scope p=>exact⟨ut (ih kx (by simp +arith)).1 (ih vx (by simp +arith)).1 (gens (fun g hg=>by have:=vt hg;simp +arith;exact PN this) ih),trivial⟩
 |Slice lo hi st p=>exact⟨dU fun Z Z=>rfl,ops (by simp +arith) ih,ops (by simp +arith) ih,ops (by simp +arith) ih⟩
 |_=>exact⟨dU fun Z Z=>rfl,trivial⟩
termination_by xo e
theorem bh (H:au w c k)(e:PySem.Expr){A:Around}{X:Addr→Prop}{env:UI}{sc:Scope}{ρ:Yx}{s:aE}{d:D}{cs:List Prop}(h:aZ c e sc ρ=some (d,cs))(hc:AllP cs)(cx:Cx w k A X env sc ρ s):
  Sto w A X e env d s∧isStarred e=false:=(vM H e).1 cx _ _ h hc
theorem az (H:au w c k)(t it:PySem.Expr){A:Around}{X:Addr→Prop}{env:UI}{sc:Scope}{ρ:Yx}{s:aE}{l:List D}{cs:List Prop}(h:nu t (psrc c t it sc ρ) (aZ c it sc ρ)=some (l,cs))(hc:AllP cs)(cx:Cx w k A X env sc ρ s)
  (ht:cP t=true) (hb:∀d∈l,bj t=true∨(cY t=true∧∃m,d=.tup m)):Src w A X t it env l s:=ji (vM H it).1 (vM H it).2 cx ht _ _ h hc hb
end
end
section
noncomputable def MF (t:PySem.Expr)(e:PySem.Expr)(sc:Scope):Bool:=bH t sc&&!cY e
theorem Be {ρ' ρ:Yx}(h:∀p∈ρ',ρ.lookup p.1=some p.2):Sub ρ' ρ:=fun n d e=>h (n,d) (mem_of_lookup e)
noncomputable def G4 (ρ:Yx):Yx→Prop
 | []=>True
 |p::l=>ρ.lookup p.1=some p.2∧G4 ρ l
theorem allAt {ρ:Yx}:∀{ρ':Yx},G4 ρ ρ'→Sub ρ' ρ
 | [],_=>Be fun Z h=>nomatch h
 |p::l,h=>fun n d e=>by
  rw[fF] at e
  cases hb:n==p.1 with
  |true=>rw[hb] at e;obtain rfl:=aI e;rw[beq_iff_eq.mp hb];exact h.1
  |false=>rw[hb] at e;exact allAt h.2 n d e
noncomputable def FN (t:PySem.Expr)(B:Yx→(Yx→Prop)→Prop):List D→Yx→(Yx→Prop)→Prop
 | [],ρ,post=>post ρ
 |d::l,ρ,post=>match cZ t d ρ with
  |some YL=>B YL fun Zq=>∃Zu,Sub Zu Zq∧FN t B l Zu post
  |none=>False
noncomputable def jP (T:Yx→R)(B:Yx→(Yx→Prop)→Prop):Nat→Yx→(Yx→Prop)→Prop
 | 0,_,_=>False
 |n+1,ρ,post=>match T ρ with
  |some (x,cs)=>match gh x with
   |some v=>AllP cs∧((v=true→B ρ fun Zq=>∃Zu,Sub Zu Zq∧jP T B n Zu post)∧(v=false→post ρ))
   |none=>False
  |none=>False
mutual
noncomputable def pw (c:Hooks)(fuel:Nat):Stmt→Scope→Yx→(Yx→Prop)→(D→Prop)→Prop
 | .Assign [t] e _,sc,ρ,post,ret=>if MF t e sc then match aZ c e sc ρ with
   |some (d,cs)=>match cZ t d ρ with
    |some ρ'=>AllP cs∧post ρ'
    |none=>False
   |none=>False
  else False
 | .AugAssign (.Name x p) op e _,sc,ρ,post,ret=>if bH (.Name x p) sc then match aZ c (.Name x p) sc ρ,aZ c e sc ρ with
   |some (a,cs),some (b,cs')=>match NQ op a b with
    |some (d,cs2)=>AllP (cs++(cs'++cs2))∧post ((x,d)::ρ)
    |none=>False
   |_,_=>False
  else False
 | .If t b o _,sc,ρ,post,ret=>match aZ c t sc ρ with
  |some (x,cs)=>match gh x with
   |some v=>AllP cs∧((v=true→pws c fuel b sc ρ post ret)∧(v=false→pws c fuel o sc ρ post ret))
   |none=>False
  |none=>False
 | .Return (some e) _,sc,ρ,post,ret=>match aZ c e sc ρ with
  |some (d,cs)=>AllP cs∧ret d
  |none=>False
 | .For t it body [] _,sc,ρ,post,ret=>if bH t sc&&!cJ it then match nu t (psrc c t it sc ρ) (aZ c it sc ρ) with
   |some (l,cs)=>AllP cs∧((bj t=true∨∀d∈l,∃m,d=.tup m)∧FN t (fun YL k=>pws c fuel body sc YL k ret) l ρ post)
   |none=>False
  else False
 | .While t body [] _,sc,ρ,post,ret=>jP (fun ρ=>aZ c t sc ρ) (fun YL k=>pws c fuel body sc YL k ret) fuel ρ post
 |_,_,_,_,_=>False
noncomputable def pws (c:Hooks)(fuel:Nat):List Stmt→Scope→Yx→(Yx→Prop)→(D→Prop)→Prop
 | [],sc,ρ,post,ret=>post ρ
 |st::r,sc,ρ,post,ret=>pw c fuel st sc ρ (fun ρ'=>pws c fuel r sc ρ' post ret) ret
end
section
variable {w:gp}{k:Nat}{A:Around}{X X':Addr→Prop}{env:UI}{sc:Scope}{ρ ρ':Yx}{s s':aE}
noncomputable def Fin (w:gp)(k:Nat)(A:Around)(X:Addr→Prop)(env:UI)(sc:Scope)(s:aE)(post:Yx→Prop)(ret:D→Prop):zh→aE→Prop
 | .next,s'=>∃ρ',post ρ'∧YF (Own env sc) s s'∧Cx w k A X env sc ρ' s'
 | .ret v,s'=>∃d,ret d∧YF (Own env sc) s s'∧Rep w s'.heap X d v
 |_,_=>False
theorem Fin.mono {post post':Yx→Prop}{ret ret':D→Prop}(hp:∀ρ,post ρ→post' ρ)(hr:∀d,ret d→ret' d):∀{f:zh} {s':aE},Fin w k A X env sc s post ret f s'→Fin w k A X env sc s post' ret' f s'
 | .next,_,⟨ρ',a,b⟩=>⟨ρ',hp _ a,b⟩
 | .ret v,_,⟨d,a,b⟩=>⟨d,hr _ a,b⟩
 | .brk,_,h=>h.elim
 | .cont,_,h=>h.elim
theorem Fin.trans {post:Yx→Prop}{ret:D→Prop}(p:YF (Own env sc) s s'):∀{f:zh} {s'':aE},Fin w k A X env sc s' post ret f s''→Fin w k A X env sc s post ret f s''
 | .next,_,⟨ρ',a,b,c⟩=>⟨ρ',a,p.trans b,c⟩
 | .ret v,_,⟨d,a,b,c⟩=>⟨d,a,p.trans b,c⟩
 | .brk,_,h=>h.elim
 | .cont,_,h=>h.elim
theorem JB (hX:Z6 X s){op:II}{a b d:D}{cs:List Prop}{va vb:bX}(h:NQ op a b=some (d,cs))(hc:AllP cs)
  (ra:Rep w s.heap X a va) (rb:Rep w s.heap X b vb):Ev w A X (S1 op va vb) d s:=by
 cases op with
 |Add=>
  replace h:=bF h;rcases h with h|h
  ·replace h:=cz h;obtain ⟨x,y,rfl,rfl,h⟩:=h
   obtain ⟨rfl,_⟩:=dQ (aI h);obtain ⟨t,rfl⟩:=ra;obtain ⟨u,rfl⟩:=rb
   exact .Zi fun Q E q=>IB q
  ·replace h:=jA h;obtain ⟨x,y,rfl,rfl,h⟩:=h
   obtain ⟨rfl,rfl⟩:=dQ (aI h);obtain ⟨t,rfl⟩:=ra;obtain ⟨u,rfl⟩:=rb
   exact .a1e fun Q E q=>Sp q hc.1
 |BitAnd=>
  replace h:=cz h;obtain ⟨x,y,rfl,rfl,h⟩:=h
  obtain ⟨rfl,_⟩:=dQ (aI h);obtain ⟨t,rfl⟩:=ra;obtain ⟨u,rfl⟩:=rb
  exact .Zi fun Q E q=>iand_int q
 |BitOr=>
  replace h:=cz h;obtain ⟨x,y,rfl,rfl,h⟩:=h
  obtain ⟨rfl,_⟩:=dQ (aI h);obtain ⟨t,rfl⟩:=ra;obtain ⟨u,rfl⟩:=rb
  exact .Zi fun Q E q=>ior_int q
 |LShift=>
  replace h:=cz h;obtain ⟨x,y,rfl,rfl,h⟩:=h
  obtain ⟨rfl,rfl⟩:=dQ (aI h);obtain ⟨t,rfl⟩:=ra;obtain ⟨u,rfl⟩:=rb
  exact .Zi fun Q E q=>ilshift_int_small hc.1.1 hc.1.2.1 hc.1.2.2 q
 |RShift=>
  replace h:=cz h;obtain ⟨x,y,rfl,rfl,h⟩:=h
  obtain ⟨rfl,rfl⟩:=dQ (aI h);obtain ⟨t,rfl⟩:=ra;obtain ⟨u,rfl⟩:=rb
  exact .Zi fun Q E q=>irshift_int hc.1 q
 |_=>exact Fw h
end
end
section
section
variable {w:gp}{k:Nat}{A:Around}{X X':Addr→Prop}{env:UI}{sc:Scope}{ρ ρ':Yx}{s s':aE}
theorem zJ (c:Cx w k A X env sc ρ s){x:Str}{d:D}(hk:LC sc x)(h:ρ.lookup x=some d){Q E:bX→aE→Prop}
  (hQ:∀v,Rep w s.heap X d v→Q v s):cE (cS PW w) A (loadName env x) Q E s:=by
 have hkf:env.scope.kind=.function:=by rw[c.vis.eqs];exact c.vis.kind
 have kx:∀y,sc.names.lookup x=y→env.kindOf x=y:=fun y e=>by unfold AV;rw[c.vis.eqs];exact e
 rcases hk with hk|hk
 ·obtain ⟨m,hn,hm⟩:=c.vis.loc
  obtain ⟨v,hv,r⟩:=hm _ _ h hk
  exact jS hkf (kx _ hk) hn hv (hQ _ r)
 ·obtain ⟨a,v,h1,_,_,_,h2,h3⟩:=c.vis.cells _ (.inl hk)
  obtain ⟨u,rfl,r⟩:=h3 d h
  exact D9 hkf (kx _ hk) h1 h2 (hQ _ r)
noncomputable def Nx (Q:zh→aE→Prop)(C:aE→Prop):zh→aE→Prop:=fun f s=>match f with
 | .next | .cont=>C s
 | .brk=>Q .next s
 | .ret v=>Q (.ret v) s
noncomputable def G6 (w:gp)(A:Around)(env:UI)(Q:zh→aE→Prop)(E:bX→aE→Prop)(body:List Stmt)(C:aE→Prop):aE→Prop:=
 cE (cS PW w) A (oz body env) (Nx Q C) (KA (cS PW w) A env fun e s'=>EJ (cS PW w) A env E e s')
theorem tH {μ:YX}(mx:Mx w k A X env sc ρ μ s){t:PySem.Expr}{tm:UM bX}{body:List Stmt}{l:List D}{Q:zh→aE→Prop}{E:bX→aE→Prop}{O:Addr→Prop}(fr:List Addr)
  (ht:bH t sc=true) (src:bk w A X t tm l s) (a4K:∀a,Own env sc a→O a) (hO:∀a,O a→X a) (hfr:∀a∈fr,X a) (I:List D→Yx→YX→Prop) (h0:I l ρ μ) (hI:∀r YL YC,I r YL YC→∀p∈YC,O p.1)
  (hB:∀{d r YL YC},I (d::r) YL YC→d∈l→gk t d YL fun Zq=>∀X' s1 C,(∀a,X a→X' a)→Z1 O fr s s1→Mx w k A X' env sc Zq YC s1→(∀Zu μ3 s2,I r Zu μ3→Z1 O fr s1 s2→Mx w k A X' env sc Zu μ3 s2→C s2)→G6 w A env Q E body C s1)
  (hQ:∀YL YC s1,I [] YL YC→Z1 O fr s s1→Mx w k A X env sc YL YC s1→Q .next s1):cE (cS PW w) A tm (fun x s₁=>cE (cS PW w) A (BQ x) (fun it s₂=>
   A8 (cS PW w) A (.forLoop t it body [] env) (fun r s'=>match r with | .ok f=>Q f s' | .error e=>EJ (cS PW w) A env E e s') s₂) E s₁) E s:=
 vJ mx src (bu ht).2 (O:=O) (fr:=fr) (fun a h=>a4K a h.own) hO hfr I h0 (fun r YL YC i p hp=>hO _ (hI r YL YC i p hp)) (BD:=fun It=>G6 w A env Q E body) (fun i hd=>let ⟨Zq,hb,go⟩:=hB i hd;⟨Zq,hb,fun X' s1 It C=>go X' s1 C⟩)
  (fun YL YC s1 i p m=>dS (hQ YL YC s1 i p m)) fun It s1 J self turn n h=>codeAny_forLoop_any J turn n h
theorem yW (cx:Cx w k A X env sc ρ s){t it:PySem.Expr}{body:List Stmt}{pos:UK}{l:List D}{post:Yx→Prop}{ret:D→Prop}{B:Yx→(Yx→Prop)→Prop}{Q:zh→aE→Prop}{E:bX→aE→Prop}
  (ht:bH t sc=true) (ZF:cJ it=false) (src:Src w A X t it env l s) (h:FN t B l ρ post)
  (hB:∀{X YL s1} {kk:Yx→Prop} {Q:zh→aE→Prop} {E:bX→aE→Prop},B YL kk→Cx w k A X env sc YL s1→(∀f s',Fin w k A X env sc s1 kk ret f s'→Q f s')→cE (cS PW w) A (oz body env) Q E s1)
  (hQ:∀f s',Fin w k A X env sc s post ret f s'→Q f s'):cE (cS PW w) A (Nn (.For t it body [] pos) env) Q E s:=by
 refine OB (tH (Mx.of cx) [] (O:=Own env sc) ht (src s (Pu.refl _)) (fun a h=>h) (fun a h=>(rn cx.vis h).1) (fun a h=>nomatch h) (fun r YL YC=>FN t B r YL post∧[]=YC) ⟨h,rfl⟩ (fun r YL YC i p hp=>nomatch i.2▸hp) (fun {d r YL YC} i hd=>?_) fun YL YC s1 i p m=>hQ _ _ ⟨YL,i.1,p.pub,m.cx⟩) (lZ ZF env)
 have h2:(match cZ t d YL with
   |some YL=>B YL fun Zq=>∃Zu,Sub Zu Zq∧FN t B r Zu post
   |none=>False):=i.1
 cases hb:cZ t d YL with
 |none=>rw[hb] at h2;exact h2.elim
 |some Zq=>
  rw[hb] at h2
  refine⟨Zq,hb,fun X' s1 C hX p m hC=>hB h2 m.cx fun f s2 hf=>?_⟩
  cases f with
  |next=>
   obtain ⟨Zu,⟨ρ4,hs,hp⟩,p3,c3⟩:=hf
   exact hC ρ4 _ s2 ⟨hp,i.2⟩ (.YJ p3) (i.2▸.of (c3.sub hs))
  |ret v=>
   obtain ⟨d,hr,p3,r3⟩:=hf
   exact hQ _ _ ⟨d,hr,p.pub.trans p3,r3.up ⟨fun Z Z e Z=>e,fun a Z Z h=>hX a h⟩ _ _⟩
  |brk=>exact hf.elim
  |cont=>exact hf.elim
inductive xV (w:gp)(k:Nat)(A:Around)(X:Addr→Prop)(env:UI)(sc:Scope)(μ:YX)(I:Nat→Yx→Prop)(s:aE)(m:Nat)(s':aE):Prop
 |mk (ρ:Yx) (i:I m ρ) (pb:YF (Own env sc) s s') (mx:Mx w k A X env sc ρ μ s')
theorem Br {μ:YX}(mx:Mx w k A X env sc ρ μ s){test:PySem.Expr}{body:List Stmt}{pos:UK}{Q:zh→aE→Prop}{E:bX→aE→Prop}(I:Nat→Yx→Prop){n:Nat}(h0:I n ρ)
  (turn:∀m YL s1 (C:aE→Prop),I m YL→YF (Own env sc) s s1→Mx w k A X env sc YL μ s1→(∀m' Zq s2,m'<m→I m' Zq→YF (Own env sc) s1 s2→Mx w k A X env sc Zq μ s2→C s2)→
   cE (cS PW w) A (isTrue test env (ku test env)) (fun b s₂=>if b then G6 w A env Q E body C s₂ else Q .next s₂) (KA (cS PW w) A env fun e s'=>EJ (cS PW w) A env E e s') s1) :
  cE (cS PW w) A (Nn (.While test body [] pos) env) Q E s:=by
 refine wpAny_While (MI (xV w k A X env sc μ I s) (fun m s' x=>?_) n ⟨ρ,h0,YF.refl _,mx⟩)
 obtain ⟨ρ',i,pb,m'⟩:=x
 refine qA (turn m ρ' s' (fun s2=>∃m2,m2<m∧xV w k A X env sc μ I s m2 s2) i pb m' fun m2 Zq s2 h i2 p2 mx2=>⟨m2,h,Zq,i2,pb.trans p2,mx2⟩) (fun b s2 h=>?_) fun Z Z e=>e
 cases b with
 |true=>exact h
 |false=>exact dS h
inductive WT (T:Yx→R)(B:Yx→(Yx→Prop)→Prop)(n:Nat)(ρ:Yx)(post:Yx→Prop):Prop
 |mk (x:D) (cs:List Prop) (v:Bool) (e1:T ρ=some (x,cs)) (e2:gh x=some v) (c:AllP cs) (h1:v=true→B ρ fun Zq=>∃Zu,Sub Zu Zq∧jP T B n Zu post) (h2:v=false→post ρ)
theorem Ag {T:Yx→R}{B:Yx→(Yx→Prop)→Prop}{post:Yx→Prop}:∀{n:Nat},jP T B n ρ post→∃m,n=m+1∧WT T B m ρ post:=by
 intro n h
 cases n with
 |zero=>exact h.elim
 |succ n=>
  refine⟨n,rfl,?_⟩
  replace h:(match T ρ with
   |some (x,cs)=>(match gh x with
    |some v=>AllP cs∧((v=true→B ρ fun Zq=>∃Zu,Sub Zu Zq∧jP T B n Zu post)∧(v=false→post ρ))
    |none=>False)
   |none=>False):=h
  cases e1:T ρ with
  |none=>rw[e1] at h;exact h.elim
  |some r=>
   rw[e1] at h
   replace h:(match gh r.1 with
    |some v=>AllP r.2∧((v=true→B ρ fun Zq=>∃Zu,Sub Zu Zq∧jP T B n Zu post)∧(v=false→post ρ))
    |none=>False):=h
   cases e2:gh r.1 with
   |none=>rw[e2] at h;exact h.elim
   |some v=>rw[e2] at h;exact⟨r.1,r.2,v,e1,e2,h.1,h.2.1,h.2.2⟩
theorem uL {c:Hooks}(H:au w c k){test:PySem.Expr}{body:List Stmt}{pos:UK}{ret:D→Prop}{B:Yx→(Yx→Prop)→Prop}{E:bX→aE→Prop}(fuel:Nat)(cx:Cx w k A X env sc ρ s){post:Yx→Prop}{Q:zh→aE→Prop}
  (h:jP (fun ρ=>aZ c test sc ρ) B fuel ρ post)
  (hB:∀{X YL s1} {kk:Yx→Prop} {Q:zh→aE→Prop} {E:bX→aE→Prop},B YL kk→Cx w k A X env sc YL s1→(∀f s',Fin w k A X env sc s1 kk ret f s'→Q f s')→cE (cS PW w) A (oz body env) Q E s1)
  (hQ:∀f s',Fin w k A X env sc s post ret f s'→Q f s'):cE (cS PW w) A (Nn (.While test body [] pos) env) Q E s:=by
 refine Br (Mx.of cx) (fun n ρ'=>jP (fun ρ=>aZ c test sc ρ) B n ρ' post) h fun m YL s1 C i p m1 hC=>?_
 obtain ⟨n,rfl,x,cs,v,he,hv,hc,h1,h2⟩:=Ag i
 refine((bh H test he hc m1.cx).1.snd.test v hv) s1 (Pu.refl _) _ _ fun s2 u2=>?_
 have p2:=p.trans (.YB u2)
 cases v with
 |true=>
  refine hB (h1 rfl) (m1.cx.pu u2) fun f s3 hf=>?_
  cases f with
  |next=>
   obtain ⟨Zq,⟨Zu,hs3,hp2⟩,p3,c3⟩:=hf
   exact hC n Zu s3 (AK _) hp2 ((YF.YB u2).trans p3) (.of (c3.sub hs3))
  |ret v=>
   obtain ⟨d,hr,p3,r3⟩:=hf
   exact hQ _ _ ⟨d,hr,p2.trans p3,r3⟩
  |brk=>exact hf.elim
  |cont=>exact hf.elim
 |false=>exact hQ _ _ ⟨YL,h2 rfl,p2,m1.cx.pu u2⟩
variable {c:Hooks}{fuel:Nat}
noncomputable def WS (w:gp)(k:Nat)(c:Hooks)(fuel:Nat)(st:Stmt):Prop:=∀⦃A:Around⦄ ⦃X:Addr→Prop⦄ ⦃env:UI⦄ ⦃sc:Scope⦄ ⦃ρ:Yx⦄ ⦃s:aE⦄ ⦃post:Yx→Prop⦄ ⦃ret:D→Prop⦄ ⦃Q:zh→aE→Prop⦄ ⦃E:bX→aE→Prop⦄,
 pw c fuel st sc ρ post ret→Cx w k A X env sc ρ s→(∀f s',Fin w k A X env sc s post ret f s'→Q f s')→cE (cS PW w) A (Nn st env) Q E s
theorem jD {st:Stmt}(h:∀sc ρ post ret,pw c fuel st sc ρ post ret=False):WS w k c fuel st:=fun Z Z Z Z Z Z Z Z Z Z h'=>qs ((h _ _ _ _).mp h')
noncomputable def WSs (w:gp)(k:Nat)(c:Hooks)(fuel:Nat)(ss:List Stmt):Prop:=∀⦃A:Around⦄ ⦃X:Addr→Prop⦄ ⦃env:UI⦄ ⦃sc:Scope⦄ ⦃ρ:Yx⦄ ⦃s:aE⦄ ⦃post:Yx→Prop⦄ ⦃ret:D→Prop⦄ ⦃Q:zh→aE→Prop⦄ ⦃E:bX→aE→Prop⦄,
 pws c fuel ss sc ρ post ret→Cx w k A X env sc ρ s→(∀f s',Fin w k A X env sc s post ret f s'→Q f s')→cE (cS PW w) A (oz ss env) Q E s
theorem a1j:∀(ss:List Stmt),(∀st∈ss,WS w k c fuel st)→WSs w k c fuel ss
 | [],_=>fun Z Z Z Z Z Z Z Z Z Z h cx hQ=>dS (hQ _ _ ⟨_,h,.refl _,cx⟩)
 |st::r,hp=>fun Z Z Z Z Z Z Z Z Z Z h cx hQ=>by
  refine AL (hp st ay h cx fun f s' hf=>?_)
  cases f with
  |next=>
   obtain ⟨ρ',hp',pb,c'⟩:=hf
   exact a1j r (fun st h=>hp st (bE _ h)) hp' c' fun f s'' hf'=>hQ f s'' (hf'.trans pb)
  |ret v=>exact hQ _ _ hf
  |brk=>exact hf.elim
  |cont=>exact hf.elim
theorem Bt (H:au w c k){ts:List PySem.Expr}{e:PySem.Expr}{p:UK}:WS w k c fuel (.Assign ts e p):=by
 rcases ts with _|⟨t,_|⟨_,_⟩⟩<;>first|exact jD fun Z Z Z Z=>rfl|skip
 intro A X env sc ρ s post ret Q E h cx hQ
 replace h:(if MF t e sc then match aZ c e sc ρ with
   |some (d,cs)=>match cZ t d ρ with
    |some ρ'=>AllP cs∧post ρ'
    |none=>False
   |none=>False
  else False):=h
 split at h
 ·rename_i hok
  have hok:=cy.mp hok
  have ht:=bu hok.1
  split at h
  ·rename_i he
   split at h
   ·rename_i hb
    exact mR cx hb ht.2 ht.1 ((l6 _).mp hok.2) (bh H e he h.1 cx).1 fun s' pb c'=>hQ _ _ ⟨_,h.2,pb,c'⟩
   ·exact h.elim
  ·exact h.elim
 ·exact h.elim
theorem name_val {x:Str}{p:UK}{a:D}{cs:List Prop}(h:aZ c (.Name x p) sc ρ=some (a,cs))(hk:LC sc x):ρ.lookup x=some a:=by
 replace h:=(dm (show pname sc ρ x=some (a,cs) from h)).2
 cases hn:JH (sc.names.lookup x) x ρ with
 |none=>rw[hn] at h;exact YD h
 |some d=>rw[hn] at h;obtain ⟨rfl,_⟩:=dQ (aI h);rcases hk with hk|hk<;>rw[hk] at hn<;>exact hn
set_option tactic.hygienic true in
set_option tactic.hygienic true in
theorem MP (H:au w c k){t:PySem.Expr}{op:II}{e:PySem.Expr}{p:UK}:WS w k c fuel (.AugAssign t op e p):=by
 cases t with
 |Name x xp=>
  intro A X env sc ρ s post ret Q E h cx hQ
  replace h:(if bH (.Name x xp) sc then match aZ c (.Name x xp) sc ρ,aZ c e sc ρ with
    |some (a,cs),some (b,cs')=>match NQ op a b with
     |some (d,cs2)=>AllP (cs++(cs'++cs2))∧post ((x,d)::ρ)
     |none=>False
    |_,_=>False
   else False):=h
  split at h
  ·rename_i hok
   have hk:=(bu hok).2 x ay
   split at h
   ·rename_i a cs b cs' h1 h2
    split at h
    ·rename_i d cs2 h3
     have q:=AllP.append h.1
     have q':=AllP.append q.2
     refine IX (zJ cx hk (name_val h1 hk) fun v rv=>?_)
     refine(bh H e h2 q'.1 cx).1.snd.ev s (Pu.refl _) _ _ fun v' s1 u1 rv'=>?_
     have c1:=cx.pu u1
     refine JB c1.Yz h3 q'.2 (rv.up (u1.up cx.Yz.pt) _ _) rv' _ _ fun r s2 u2 rr=>?_
     have c2:=c1.pu u2
     refine il c2.Yz c2.vis hk rr fun s3 p3 pb hp3 hX3 v3 x3=>?_
     have pb':YF (Own env sc) s2 s3:=pb.mono fun a e=>by subst e;exact hp3.elim (fun q=>.inl q.2) fun q=>.inr ⟨x,q⟩
     exact hQ _ _ ⟨_,h.2,(YF.YB (u1.trans u2)).trans pb',c2.a,x3,c2.base.up (pb'.up c2.Yz.pt fun a h=>(rn c2.vis h).1),v3⟩
    ·exact h.elim
   ·exact h.elim
  ·exact h.elim
 |_=>exact jD fun Z Z Z Z=>rfl
set_option tactic.hygienic true in
theorem W8 (H:au w c k){t:PySem.Expr}{b o:List Stmt}{p:UK}(hb:WSs w k c fuel b)(ho:WSs w k c fuel o):WS w k c fuel (.If t b o p):=by
 intro A X env sc ρ s post ret Q E h cx hQ
 replace h:(match aZ c t sc ρ with
  |some (x,cs)=>match gh x with
   |some v=>AllP cs∧((v=true→pws c fuel b sc ρ post ret)∧(v=false→pws c fuel o sc ρ post ret))
   |none=>False
  |none=>False):=h
 split at h
 ·rename_i he
  split at h
  ·rename_i v hv
   refine A0 (((bh H t he h.1 cx).1.snd.test v hv) s (Pu.refl _) _ _ fun s2 u2=>?_)
   have hQ':∀f s',Fin w k A X env sc s2 post ret f s'→Q f s':=fun f s' hf=>hQ f s' (hf.trans (.YB u2))
   cases v with
   |true=>exact hb (h.2.1 rfl) (cx.pu u2) hQ'
   |false=>exact ho (h.2.2 rfl) (cx.pu u2) hQ'
  ·exact h.elim
 ·exact h.elim
theorem Bu (H:au w c k){e:Option PySem.Expr}{p:UK}:WS w k c fuel (.Return e p):=by
 cases e with
 |none=>exact jD fun Z Z Z Z=>rfl
 |some e=>
  intro A X env sc ρ s post ret Q E h cx hQ
  replace h:(match aZ c e sc ρ with
   |some (d,cs)=>AllP cs∧ret d
   |none=>False):=h
  split at h
  ·rename_i he
   exact nk ((bh H e he h.1 cx).1.snd.ev s (Pu.refl _) _ _ fun v s1 u1 r=>hQ _ _ ⟨_,h.2,.YB u1,r⟩)
  ·exact h.elim
theorem MT (H:au w c k){t it:PySem.Expr}{b o:List Stmt}{p:UK}(hb:WSs w k c fuel b):WS w k c fuel (.For t it b o p):=by
 cases o with
 |cons=>exact jD fun Z Z Z Z=>rfl
 |nil=>
  intro A X env sc ρ s post ret Q E h cx hQ
  replace h:(if bH t sc&&!cJ it then match nu t (psrc c t it sc ρ) (aZ c it sc ρ) with
   |some (l,cs)=>AllP cs∧((bj t=true∨∀d∈l,∃m,d=.tup m)∧FN t (fun YL k=>pws c fuel b sc YL k ret) l ρ post)
   |none=>False
   else False):=h
  split at h
  ·rename_i hok
   have hok:=cy.mp hok
   split at h
   ·rename_i hs
    refine yW cx hok.1 ((l6 _).mp hok.2) (az H t it hs h.1 cx (bu hok.1).1 fun d hd=>?_) h.2.2 (fun h1 cx1 hQ1=>hb h1 cx1 hQ1) hQ
    rcases h.2.1 with hb|hb
    ·exact .inl hb
    ·cases hn:bj t with
     |true=>exact .inl rfl
     |false=>exact .inr ⟨jk (bu hok.1).1 hn,hb d hd⟩
   ·exact h.elim
  ·exact h.elim
theorem Ff (H:au w c k){t:PySem.Expr}{b o:List Stmt}{p:UK}(hb:WSs w k c fuel b):WS w k c fuel (.While t b o p):=by
 cases o with
 |cons=>exact jD fun Z Z Z Z=>rfl
 |nil=>exact fun Z Z Z Z Z Z Z Z Z Z h cx hQ=>uL H fuel cx h (fun h1 cx1 hQ1=>hb h1 cx1 hQ1) hQ
theorem Bs (H:au w c k)(st:Stmt):WS w k c fuel st:=by
 have ih:∀st',xo st'<xo st→WS w k c fuel st':=fun st' Z=>Bs H st'
 have els:∀{ss:List Stmt},xo ss<xo st→WSs w k c fuel ss:=fun hs=>a1j _ fun x hx=>ih x (xw (vt hx) hs)
 cases st with
 |Assign=>exact Bt H
 |AugAssign=>exact MP H
 |If t b o p=>exact W8 H (els (by simp +arith)) (els (by simp +arith))
 |Return=>exact Bu H
 |For t it b o p=>exact MT H (els (by simp +arith))
 |While t b o p=>exact Ff H (els (by simp +arith))
 |_=>exact jD fun Z Z Z Z=>rfl
termination_by xo st
theorem Eh (H:au w c k)(fuel:Nat)(st:Stmt){A:Around}{X:Addr→Prop}{env:UI}{sc:Scope}{ρ:Yx}{s:aE}{post:Yx→Prop}{ret:D→Prop}{Q:zh→aE→Prop}{E:bX→aE→Prop}
  (h:pw c fuel st sc ρ post ret) (cx:Cx w k A X env sc ρ s) (hQ:∀f s',Fin w k A X env sc s post ret f s'→Q f s'):cE (cS PW w) A (Nn st env) Q E s:=Bs H st h cx hQ
theorem Ah (H:au w c k)(fuel:Nat)(ss:List Stmt){A:Around}{X:Addr→Prop}{env:UI}{sc:Scope}{ρ:Yx}{s:aE}{post:Yx→Prop}{ret:D→Prop}{Q:zh→aE→Prop}{E:bX→aE→Prop}
  (h:pws c fuel ss sc ρ post ret) (cx:Cx w k A X env sc ρ s) (hQ:∀f s',Fin w k A X env sc s post ret f s'→Q f s'):cE (cS PW w) A (oz ss env) Q E s:=a1j ss (fun st Z=>Bs H st) h cx hQ
end
end
section
section
variable {w:gp}{k:Nat}{A:Around}{X X':Addr→Prop}{env:UI}{sc:Scope}{ρ ρ':Yx}{s s':aE}
noncomputable def W3 (sc:Scope)(ps:List Str):Bool:=
 sc.kind==.function&&(!sc.isGenerator&&(!sc.isCoroutine&&(decide ((sc.names.map (fun x=>x.1)).Nodup)&&(sc.names.all (fun p=>p.2 != .free)&&(decide ps.Nodup&&ps.all fun x=>sc.names.lookup x==some .local||sc.names.lookup x==some .cell)))))
section
variable {F:List (Str×bX)→(Str→Option bX)→Str→Option bX}{c:Str→Prop}(h0:∀m,F [] m=m)(h1:∀n v r m,c n→F ((n,v)::r) m=F r (fun y=>if y=n then some v else m y))(h2:∀n v r m,¬c n→F ((n,v)::r) m=F r m)
include h0 h1 h2
theorem Ce {n:Str}{ps:List Str}:∀{vs:List bX} {m:Str→Option bX},n∉ps→F (ps.zip vs) m n=m n:=by
 induction ps with
 |nil=>exact fun h=>congrFun (h0 _) n
 |cons p ps ih=>
  intro vs m h
  have hn:=List.ne_and_not_mem_of_not_mem_cons h
  cases vs with
  |nil=>exact congrFun (h0 _) n
  |cons v vs=>
   by_cases q:c p
   ·exact(congrFun (h1 p v _ m q) n).trans ((ih hn.2).trans (if_neg hn.1))
   ·exact(congrFun (h2 p v _ m q) n).trans (ih hn.2)
theorem xZ {h:Heap}{n:Str}{d:D}(hc:c n){ps:List Str}:∀{ds:List D} {vs:List bX} {m:Str→Option bX},ps.Nodup→aX w h X ds vs→(ps.zip ds).lookup n=some d→∃v,F (ps.zip vs) m n=some v∧Rep w h X d v:=by
 induction ps with
 |nil=>exact fun Z Z e=>YD e
 |cons p ps ih=>
  intro ds vs m hn r e
  have hn:=ja.mp hn
  cases ds with
  |nil=>exact YD e
  |cons d0 ds=>
   obtain ⟨v,t,rfl,r1,r2⟩:=r
   rw[BC,fF] at e
   rw[BC]
   cases q:n==p with
   |true=>
    rw[q] at e
    obtain rfl:=beq_iff_eq.mp q
    exact⟨v,(congrFun (h1 n v _ m hc) n).trans ((Ce h0 h1 h2 hn.1).trans (if_pos rfl)),aI e▸r1⟩
   |false=>
    rw[q] at e
    by_cases q:c p
    ·rw[h1 p v _ m q];exact ih hn.2 r2 e
    ·rw[h2 p v _ m q];exact ih hn.2 r2 e
end
theorem yc {kindOf:Str→Option NameKind}{h:Heap}{ps:List Str}{ds:List D}{vs:List bX}{m:Str→Option bX}(hn:ps.Nodup)(r:aX w h X ds vs){n:Str}{d:D}(e:(ps.zip ds).lookup n=some d):
  (kindOf n=some .local→∃v,bindL kindOf (ps.zip vs) m n=some v∧Rep w h X d v)∧(kindOf n≠some .local→∃v,bindC kindOf (ps.zip vs) m n=some v∧Rep w h X d v):=
 ⟨fun k=>xZ (c:=fun n=>kindOf n=some .local) (fun Z=>rfl) (fun n v r m q=>congrArg (bindL kindOf r) (if_pos q)) (fun n v r m q=>congrArg (bindL kindOf r) (if_neg q)) k hn r e,
  fun k=>xZ (c:=fun n=>kindOf n≠some .local) (fun Z=>rfl) (fun n v r m q=>congrArg (bindC kindOf r) (if_neg q)) (fun n v r m q=>congrArg (bindC kindOf r) (if_pos (Classical.not_not.mp q))) k hn r e⟩
structure Start (w:gp)(k:Nat)(A:Around)(X X':Addr→Prop)(env:UI)(sc:Scope)(ρ:Yx)(a:Addr)(s s1:aE):Prop where
 cx:Cx w k (A.deeper env) X' env sc ρ s1
 grow:∀a,X a→X' a
 sub:∀a o,s.heap.get? a=some o→X' a→X a
 pu:Pu s s1
 new:∀x,Pl env sc x→s.heap.get? x=none
 frame:env.frame=some env.locals
 code:∀o fd,s.heap.get? a=some o→o.data=.func fd→env.code=fd.code
noncomputable def WP (Q:bX→aE→Prop):zh→aE→Prop:=fun f s2=>Q (match f with | .ret v=>v|_=>.none) s2
noncomputable def zF (w:gp)(A:Around)(env:UI)(E:bX→aE→Prop):bX→aE→Prop:=fun e s2=>cE (cS PW w) A (leaving env e) (fun Z s3=>E e s3) (fun e' s3=>E e' s3) s2
theorem wu {a:Addr}{ps:List Str}{ds:List D}{vs:List bX}{s₁:aE}(hA:Zv (k+1) A)(hX:Z6 X s)(hb:Base w X s.heap)(hin:InCallC s env.locals (bindL env.kindOf (ps.zip vs) fun _=>none) env.cells (bindC env.kindOf (ps.zip vs) fun _=>none) s₁)
  (hk:sc.kind=.function) (a1S:∀n,sc.names.lookup n≠some .free) (hc:∀n,sc.names.lookup n=some .cell→(env.cells.lookup n).isSome=true) (hS:env.scope=sc) (hg:env.globals=mainGlobals) (hbi:env.builtins=A2) (hfr:env.frame=some env.locals)
  (hcode:∀o fd,s.heap.get? a=some o→o.data=.func fd→env.code=fd.code) (nd:ps.Nodup) (hl:ds.length=ps.length) (r:aX w s.heap X ds vs):Start w k A X (fun x=>X x∨Own env sc x) env sc (ps.zip ds) a s s₁:=by
 have u1:Pu s s₁:=by obtain ⟨hh,tk,es,hkeep⟩:=hin.done;exact es▸Pu.keep hkeep
 have hns:=hin.toInCall.ns
 have own:∀x,Own env sc x→s.heap.objs.size≤x∧∃o,s₁.heap.get? x=some o:=by
  rintro x (rfl|⟨n,q1,q2⟩)
  ·obtain ⟨o,_,_,ho,_⟩:=hns;exact⟨hin.toInCall.fresh,o,ho⟩
  ·exact⟨fz (cK hin.toInCall.fresh (hin.above n x (mem_of_lookup q2))),(hin.cell n x q2).imp fun o h=>h.1⟩
 have pl:∀x,Pl env sc x→Own env sc x:=fun x h=>h.imp id fun q=>q.imp fun n q=>⟨q.1.resolve_right (a1S n),q.2⟩
 have sub:∀x o,s.heap.get? x=some o→X x∨Own env sc x→X x:=fun x o e h=>h.elim id fun q=>absurd (eK e) (ow.mpr (own x q).1)
 have up:Up X (fun x=>X x∨Own env sc x) s.heap s₁.heap:=⟨fun x o e n=>u1.heap x o e fun q=>n (q▸hX.pt),sub⟩
 have bs:=fun m n d e=>yc (kindOf:=env.kindOf) (m:=m) (n:=n) (d:=d) nd (r.up up) e
 have ek:∀n,env.kindOf n=sc.names.lookup n:=fun n=>by unfold AV;rw[hS]
 refine⟨⟨⟨hA.handled,by have:=hA.depth;show A.depth+1+k≤900;exact Q7 this,by have:=hA.units;show A.units+3+8*k≤9000;exact Pk this⟩,⟨.inl hX.pt,u1.tab hX.tab,fun x h=>h.elim (fun q=>(hX.pu u1).lt x q) fun q=>(own x q).2⟩,hb.up up,?_⟩,fun Z h=>.inl h,sub,u1,fun x h=>(hX.big (own x (pl x h)).1).1,hfr,hcode⟩
 refine⟨hS,hk,hg,hbi,(hX.big hin.toInCall.fresh).2,.inr (.inl rfl),⟨_,hns,fun n d e kn=>((bs _) n d e).1 ((ek n).trans kn)⟩,fun n hn=>?_,fun n n' cc hn hn' q q'=>name_of_addr hin.apart (mem_of_lookup q) (mem_of_lookup q')⟩
 have hn:=hn.resolve_right (a1S n)
 obtain ⟨c,e⟩:=qE.mp (hc n hn)
 exact⟨c,_,e,(hX.big (own c (.inr ⟨n,hn,e⟩)).1).2,oQ (hin.above n c (mem_of_lookup e)),.inr (.inr ⟨n,hn,e⟩),hin.cell n c e,fun d e=>((bs _) n d e).2 (by rw[ek,hn];intro h;cases h)⟩
theorem dq {a:Addr}{params:Arguments}{body:List Stmt}{ps:List Str}(hA:Zv (k+1) A)(hX:Z6 X s)(hb:Base w X s.heap)(hf:Zd.lookup a=some (params,body,sc))(hs:W3 sc ps=true)
  {ds:List D} {vs:List bX} (hbind:∀fd:FuncData,fd.params=params→fd.defaults=.none→fd.kwdefaults=.none→NV fd ⟨vs,[]⟩=AS (ps.zip vs)) (hl:ds.length=ps.length) (r:aX w s.heap X ds vs) {Q E:bX→aE→Prop}
  (h:∀env X' s1,Start w k A X X' env sc (ps.zip ds) a s s1→cE (cS PW w) (A.deeper env) (oz body env) (WP Q) (zF w (A.deeper env) env E) s1):cE (cS PW w) A (call (.ref a) vs) Q E s:=by
 obtain ⟨o,fd,cc,oc,us,t,nx,h1,h3',h3,h4,h5,h6,h7,h8,h9,h10,h11,h12,h13,h14,h15,h16⟩:=hb.fns a _ hf
 have h6:fd.scope=sc:=h6
 have hs:=cy.mp hs
 have hs2:=cy.mp hs.2
 have hs3:=cy.mp hs2.2
 have hs4:=cy.mp hs3.2
 have hs5:=cy.mp hs4.2
 have hs6:=cy.mp hs5.2
 have sk:fd.scope.kind=.function:=h6▸beq_iff_eq.mp hs.1
 refine AW (codeAny_call_cells (body:=body) (binds:=ps.zip vs) (by have:=hA.depth;show _<1000;exact Qe this) h1 h3 hb.nolimit.2 ⟨cc,oc,us,t,h12,h14,h15,h16⟩ h5 (hbind fd h4 h9 h10) h8 (fun x hx=>?_) (fun s₁ hin=>?_) (h6▸(l6 _).mp hs3.1) (h6▸(l6 _).mp hs2.1) sk)
 ·rw[h6]
  exact(KW.mp (fR.mp hs6.2 _ (List.of_mem_zip (show(x.1,x.2)∈ps.zip vs from hx)).1)).imp beq_iff_eq.mp fun q=>⟨beq_iff_eq.mp q,E7 _ _ _ (.inl (beq_iff_eq.mp q))⟩
 ·exact h _ _ s₁ (wu hA hX hb hin (beq_iff_eq.mp hs.1) (fun n e=>noB ((bne_self_eq_false _).symm.trans (fR.mp hs5.1 _ (mem_of_lookup e)))) (fun n e=>E7 _ _ _ (.inl (h6▸e))) h6 h7 h11 rfl (fun o' fd' e1 e2=>congrArg FuncData.code (Data.func.inj (h3.symm.trans ((congrArg Obj.data (aI (h1.symm.trans e1))).trans e2)))) (of_decide_eq_true hs6.1) hl r)
theorem yh {c:Hooks}(H:au w c k){a:Addr}{params:Arguments}{body:List Stmt}{ps:List Str}(hA:Zv (k+1) A)(hX:Z6 X s)(hb:Base w X s.heap)(hf:Zd.lookup a=some (params,body,sc))(hs:W3 sc ps=true)
  {ds:List D} {vs:List bX} (hbind:∀fd:FuncData,fd.params=params→fd.defaults=.none→fd.kwdefaults=.none→NV fd ⟨vs,[]⟩=AS (ps.zip vs)) (hl:ds.length=ps.length) (r:aX w s.heap X ds vs) {fuel:Nat} {ret:D→Prop}
  (h:pws c fuel body sc (ps.zip ds) (fun Z=>ret .none) ret) {Q E:bX→aE→Prop} (hQ:∀d v s',ret d→Pu s s'→Rep w s'.heap X d v→Q v s'):cE (cS PW w) A (call (.ref a) vs) Q E s:=by
 refine dq hA hX hb hf hs hbind hl r fun env X' s1 st=>Ah H fuel body h st.cx fun f s2 hf=>?_
 have back:∀{s2:aE},YF (Own env sc) s1 s2→Pu s s2:=fun p=>p.pu st.pu fun x o q e=>YD ((st.new x q.pl).symm.trans e)
 cases f with
 |next=>
  obtain ⟨Zq,hr,p2,_⟩:=hf
  exact hQ .none _ _ hr (back p2) a2a
 |ret v=>
  obtain ⟨d,hr,p2,r2⟩:=hf
  exact hQ d _ _ hr (back p2) (r2.up ⟨fun Z Z e Z=>e,fun x Z Z h=>st.grow x h⟩ _ _)
 |brk=>exact hf.elim
 |cont=>exact hf.elim
end
end
section
noncomputable def keyOf:D→Int×Int
 | .tup (.int a::.int b::_)=>(a,b)
 |_=>(0,0)
noncomputable def keyLt (x y:Int×Int):Bool:=decide (x.1<y.1)||(decide (x.1=y.1)&&decide (x.2<y.2))
noncomputable def minD:List D→D
 | []=>.none
 |d::l=>l.foldl (fun b x=>if keyLt (keyOf x) (keyOf b) then x else b) d
noncomputable def Np (d:D):Prop:=∃a b x,d=.tup [.int a,.int b,x]
noncomputable def WR (l:List D):Prop:=l≠[]∧l.length≤1000∧(∀d∈l,Np d)∧(l.map keyOf).Nodup
noncomputable def bQ (x:Str):List D→Nat
 | []=>0
 |d::l=>if d.toStr=x then 0 else bQ x l+1
theorem Hf {α:Type}{vs:List α}(h:vs.length=1):∃a,vs=[a]:=by
 rcases vs with _|⟨a,_|⟨b,l⟩⟩<;>first|exact⟨_,rfl⟩|cases h
theorem xM {α:Type}{vs:List α}(h:vs.length=2):∃a b,vs=[a,b]:=by
 rcases vs with _|⟨a,_|⟨b,_|⟨c,l⟩⟩⟩<;>first|exact⟨_,_,rfl⟩|cases h
theorem Iw {α:Type}{vs:List α}(h:vs.length=3):∃a b c,vs=[a,b,c]:=by
 rcases vs with _|⟨a,_|⟨b,_|⟨c,_|⟨d,l⟩⟩⟩⟩<;>first|exact⟨_,_,_,rfl⟩|cases h
theorem Oq {α:Type}{vs:List α}(h:vs.length=5):∃a b c d e,vs=[a,b,c,d,e]:=by
 rcases vs with _|⟨a,_|⟨b,_|⟨c,_|⟨d,_|⟨e,_|⟨f,l⟩⟩⟩⟩⟩⟩<;>first|exact⟨_,_,_,_,_,rfl⟩|cases h
noncomputable def a1q:D→Bool
 | .val (.type t)=>t=="tuple"
 |_=>false
theorem qK {d:D}(h:a1q d=true):d=.val (.type "tuple"):=by
 cases d with
 |val v=>cases v with
  |type t=>rw[beq_iff_eq.mp (show(t=="tuple")=true from h)]
  |_=>exact noB h
 |_=>exact noB h
noncomputable def Aa (id:String)(ds:List D):R:=
 if id="len" then on1 ds fun d=>orE (d.onL fun l=>some (.int l.length,[l.length≤sizeLine])) (d.onS fun x=>some (.int x.length,[x.length≤sizeLine]))
 else if id="sum" then on1 ds fun d=>d.onL fun l=>some (.int (Za l),[AllInt l])
 else if id="isinstance" then on2 ds fun a b=>if a1q b then orE (a.onT fun Z=>some (.bool true,[])) (a.onI fun Z=>some (.bool false,[])) else none
 else none
section
variable {w:gp}{k:Nat}{A:Around}{X X':Addr→Prop}{env:UI}{sc:Scope}{ρ:Yx}{s:aE}
theorem a0n:∀{l:List D} {vs:List bX},AllInt l→aX w s.heap X l vs→∃xs:List (Int×UN),vs=xs.map (fun p=>.int p.1 p.2)∧xs.map (fun x=>x.1)=l.map D.toInt
 | [],vs,_,r=>by cases (show vs=[] from r);exact⟨[],rfl,rfl⟩
 |d::l,vs,h,r=>by
  obtain ⟨⟨i,rfl⟩,h2⟩:=h
  obtain ⟨v,t,rfl,r1,r2⟩:=r
  obtain ⟨tk,rfl⟩:=r1
  obtain ⟨xs,e1,e2⟩:=a0n h2 r2
  exact⟨(i,tk)::xs,by simp[e1],by simp[e2,D.toInt]⟩
theorem a0X:∀(xs:List (Int×UN)) (k:Nat),k≤xs.length→TZ (numAt xs.toArray) k=((xs.take k).map (fun x=>x.1)).sum:=by
 intro xs k hk
 induction k with
 |zero=>simp[TZ]
 |succ k ih=>
  have hlt:k<xs.length:=hk
  rw[TZ,ih (by exact xN hk),ME,g9,HT]
  congr 1
  have:xs[k]?=some xs[k]:=by simp[hlt]
  simp[this,numAt]
theorem a1t:∀l:List D,Za l=(l.map D.toInt).sum
 | []=>rfl
 |d::l=>by simp[Za,a1t l]
theorem Ab (id:String)(ds:List D)(d:D)(cs:List Prop)(h:Aa id ds=some (d,cs))(hc:AllP cs)(hA:Zv k A)(hX:Z6 X s){vs:List bX}(r:aX w s.heap X ds vs):Ev w A X (call (.builtin id) vs) d s:=by
 unfold Aa at h
 split at h
 ·rename_i e
  subst e
  replace h:=dI h;obtain ⟨x,rfl,h⟩:=h
  obtain ⟨v,t,rfl,r1,rfl⟩:=r
  replace h:=bF h;rcases h with h|h
  ·replace h:=cC h;obtain ⟨l,rfl,h⟩:=h
   obtain ⟨rfl,rfl⟩:=dQ (aI h)
   obtain ⟨a,us,rfl,⟨n,ho⟩,hx,hr⟩:=r1
   have hl:=hr.length
   rw[iS] at hl
   exact fun Q E hQ=>Sz ⟨_,ho,rfl,_,rfl⟩ (by have:=hc.1;rw[c9] at this;exact TV hl this) (hQ _ _ (Pu.toks _ _) (by exact hl▸cI))
  ·replace h:=bW h;obtain ⟨l,rfl,h⟩:=h
   obtain ⟨rfl,rfl⟩:=dQ (aI h)
   obtain ⟨tk,rfl⟩:=r1
   exact fun Q E hQ=>SA (by have:=hc.1;rw[c9] at this;exact Vn this) (hQ _ _ (Pu.toks _ _) cI)
 split at h
 ·rename_i e
  subst e
  replace h:=dI h;obtain ⟨x,rfl,h⟩:=h
  obtain ⟨v,t,rfl,r1,rfl⟩:=r
  replace h:=cC h;obtain ⟨l,rfl,h⟩:=h
  obtain ⟨rfl,rfl⟩:=dQ (aI h)
  obtain ⟨a,us,rfl,⟨n,ho⟩,hx,hr⟩:=r1
  obtain ⟨xs,e1,e2⟩:=a0n hc.1 hr
  have hus:us=intItems xs.toArray:=by
   apply AU
   rw[e1]
   simp[intItems]
  subst hus
  refine fun Q E hQ=>sum_intListG hA.handled ⟨_,ho,rfl,_,rfl⟩ fun h' tk t' hk=>?_
  have e:TZ (numAt xs.toArray) xs.toArray.size=Za l:=by
   rw[nh,a0X xs _ (gz _),GG,e2,a1t]
  rw[e]
  exact hQ _ _ (Pu.keep hk) cI
 split at h
 ·rename_i e
  subst e
  replace h:=eH h;obtain ⟨x,y,rfl,h⟩:=h
  obtain ⟨v,t,rfl,r1,v2,t2,rfl,r2,rfl⟩:=r
  split at h
  ·rename_i hy
   have hy:=qK hy
   subst hy
   subst r2
   replace h:=bF h;rcases h with h|h
   ·replace h:=kJ h;obtain ⟨l,rfl,h⟩:=h
    obtain ⟨rfl,_⟩:=dQ (aI h)
    obtain ⟨a,us,rfl,⟨n,ho⟩,hx,hr⟩:=r1
    exact fun Q E hQ=>OU (isinstance_true (Tx:="tuple") NJ F.sub_tuple_tuple) ⟨⟨_,ho,rfl⟩,hQ _ _ (Pu.refl _) ie⟩
   ·replace h:=cj h;obtain ⟨l,rfl,h⟩:=h
    obtain ⟨rfl,_⟩:=dQ (aI h)
    obtain ⟨tk,rfl⟩:=r1
    exact fun Q E hQ=>OU (isinstance_false_int (by decide) NJ F.sub_int_tuple) (hQ _ _ (Pu.toks _ _) ie)
  ·exact YD h
 ·exact YD h
end
end
section
section
variable {w:gp}{k:Nat}{A:Around}{X X':Addr→Prop}{env:UI}{sc:Scope}{ρ:Yx}{s:aE}
theorem GR {x y:Str}{o:Str}{p apos pos:UK}{es:List PySem.Expr}(cx:Cx w k A X env sc ρ s)(he:aV w A X (ku (.Name o p) env) (.str x) s)(ha:bO w A X es env [.str y] s)(hpl:∀e∈es,isStarred e=false)
  (hline:(apos.endLine==pos.line)=true) (hfew:es.length<30) (hne:es≠[]):aV w A X (ku (.Call (.Attribute (.Name o p) (af "find") apos) es [] pos) env) (.int (DS x y)) s:=by
 refine qI he cx.Yz ha hpl (fun e=>absurd e hne) hline hfew PySem.F.plainAttrs_str IC PySem.F.type_str_find (fun s va r=>?_) fun s' va vs u ra rs=>?_
 ·obtain ⟨t,rfl⟩:=r
  exact⟨rfl,fun b e=>by cases e⟩
 ·obtain ⟨t,rfl⟩:=ra
  obtain ⟨v,t1,rfl,r1,rfl⟩:=rs
  obtain ⟨t2,rfl⟩:=r1
  exact .Zi fun Q E q=>call_gives IC rfl PySem.F.entry_str_find (PySem.F.args_str_find_2 _ _) (gives_str_find x y t t2) q
theorem Z2.a2G:∀{l:List D} {vs:List bX},Z2 l→aX w s.heap X l vs→∀v∈vs,∃x t,v=.str x t
 | [],vs,_,r,v,hv=>by subst r;cases hv
 |d::l,vs,h,r,v,hv=>by
  obtain ⟨v0,t,rfl,r1,r2⟩:=r
  obtain ⟨⟨x,rfl⟩,h2⟩:=h
  rcases dP.mp hv with rfl|hv
  ·obtain ⟨tk,rfl⟩:=r1;exact⟨x,tk,rfl⟩
  ·exact Z2.a2G h2 r2 v hv
theorem lV {x:Str}:∀{l:List D} {vs:List bX},Z2 l→aX w s.heap X l vs→bQ x l<l.length→(∃t,vs[bQ x l]?=some (.str x t))∧∀m,m<bQ x l→∀y t,vs[m]?=some (.str y t)→y≠x
 | [],vs,_,r,h=>by simp[bQ] at h
 |d::l,vs,h,r,hlt=>by
  obtain ⟨v0,t,rfl,r1,r2⟩:=r
  obtain ⟨⟨z,rfl⟩,h2⟩:=h
  obtain ⟨tk,rfl⟩:=r1
  unfold bQ at hlt ⊢
  by_cases q:(D.str z).toStr=x
  ·have q':z=x:=q
   subst q'
   simp[D.toStr]
  ·rw[if_neg q] at hlt ⊢
   obtain ⟨g1,g2⟩:=lV (x:=x) h2 r2 (by simpa using hlt)
   refine⟨g1,fun m hm y t' e=>?_⟩
   cases m with
   |zero=>simp at e;rw[←e.1];exact q
   |succ m=>exact g2 m (by exact TX hm) y t' (by simpa using e)
theorem Di {l:List D}{x:Str}{o:Str}{p apos pos:UK}{es:List PySem.Expr}(cx:Cx w k A X env sc ρ s)(he:aV w A X (ku (.Name o p) env) (.lst l) s)(ha:bO w A X es env [.str x] s)(hpl:∀e∈es,isStarred e=false)
  (hline:(apos.endLine==pos.line)=true) (hfew:es.length<30) (hne:es≠[]) (h1:Z2 l) (h2:bQ x l<l.length) (h3:l.length≤sizeLine) :
  aV w A X (ku (.Call (.Attribute (.Name o p) (af "index") apos) es [] pos) env) (.int (bQ x l)) s:=by
 refine qI he cx.Yz ha hpl (fun e=>absurd e hne) hline hfew rq FE PySem.F.type_list_index (fun s va r=>?_) fun s' va vs u ra rs=>?_
 ·obtain ⟨a,us,rfl,⟨n,ho⟩,_⟩:=r
  exact⟨⟨_,ho,rfl⟩,fun b e=>by cases e;exact⟨_,ho,rfl⟩⟩
 ·obtain ⟨a,us,rfl,⟨n,ho⟩,hx,hr⟩:=ra
  obtain ⟨v,t1,rfl,r1,rfl⟩:=rs
  obtain ⟨t2,rfl⟩:=r1
  obtain ⟨⟨t3,g1⟩,g2⟩:=lV h1 hr h2
  have hstr:=Z2.a2G h1 hr
  have hj:bQ x l<us.size:=by have:=hr.length;rw[iS] at this;exact Su h2 this
  have hg1:us[bQ x l]=.str x t3:=by
   have:us[bQ x l]?=some (.str x t3):=by simpa using g1
   simpa [hj] using this
  let e:bX→Bool:=fun v=>match v with | .str y _=>y==x|_=>false
  refine .Zi fun Q E q=>call_meets FE ⟨_,ho,rfl⟩ PySem.F.entry_list_index (PySem.F.args_list_index_2 _ _)
   (PO a us n none #[] (.str x t2) e (bQ x l) hj (by rw[c9] at h3;exact Sd h2 h3) (by rw[hg1];simp[e]) (fun m hm hlt=>?_)) ⟨ho,fun y hy=>?_,q⟩
  ·obtain ⟨y,ty,hy⟩:=hstr us[m] (by simp)
   rw[hy]
   have:=g2 m hlt y ty (by simp[hm,hy])
   show(y==x)=false
   simpa using this
  ·obtain ⟨z,tz,rfl⟩:=hstr y (by simpa using hy)
   exact PR _ _ _ _
end
end
section
theorem a0z:PlainAttrs "re.Pattern":=
 ⟨⟨"object.__getattribute__",by rw[B8,vE];kernel_rfl,by decide +kernel⟩,by rw[B8,vE];kernel_rfl⟩
theorem a05:Manifest.owners.lookup (String.ofList ['n','r','e','t','t','a','P','.','e','r'].reverse)=some Manifest.sig_re_Pattern:=by kernel_rfl
theorem a0p:Slot "re.Pattern" "search" "re.Pattern.search":=
 .of (owner:="re.Pattern") (n:="search") (by rw[B8,vE];kernel_rfl) (by decide +kernel) (by decide +kernel) (by decide +kernel)
  (by first|exact .inl (by decide +kernel)|exact .inr (by decide +kernel)) (by rw[Pd];kernel_rfl)
theorem a1a:JE (.builtin "re.Pattern.search")=AS (.type "method_descriptor"):=by show builtinType _=_;rw[L4];kernel_rfl
theorem a0L:IJ TA "re.Pattern.search"=some A9.«re.Pattern.search»:=yi (by kernel_rfl)
theorem sO (a b:bX):RI "re.Pattern.search" ⟨[a,b],[]⟩:=by
 unfold RI;rw[signature?_of (id:="re.Pattern.search") (n:=['h','c','r','a','e','s']) (o:=['n','r','e','t','t','a','P','.','e','r']) (by kernel_rfl) a05];kernel_rfl
theorem a0i:Slot "re.Pattern" "sub" "re.Pattern.sub":=
 .of (owner:="re.Pattern") (n:="sub") (by rw[B8,vE];kernel_rfl) (by decide +kernel) (by decide +kernel) (by decide +kernel)
  (by first|exact .inl (by decide +kernel)|exact .inr (by decide +kernel)) (by rw[Pd];kernel_rfl)
theorem a1b:JE (.builtin "re.Pattern.sub")=AS (.type "method_descriptor"):=by show builtinType _=_;rw[L4];kernel_rfl
theorem entry_sub:IJ TA "re.Pattern.sub"=some A9.«re.Pattern.sub»:=yi (by kernel_rfl)
theorem a04:IJ TA "re.Pattern.sub.loop"=some A9.«re.Pattern.sub.loop»:=yi (by kernel_rfl)
theorem BP (a b c:bX):RI "re.Pattern.sub" ⟨[a,b,c],[]⟩:=by
 unfold RI;rw[signature?_of (id:="re.Pattern.sub") (n:=['b','u','s']) (o:=['n','r','e','t','t','a','P','.','e','r']) (by kernel_rfl) a05];kernel_rfl
end
section
open PySem.Builtin PySem.Builtin.Re
theorem ig {m:Sre.M}(h:m.outcome.isSome=true):∀n,m.runFor n=m
 | 0=>rfl
 |n+1=>(if_pos h:(if m.outcome.isSome=true then m else DT n m.step)=m)
theorem ZC:∀(a b:Nat) (m:Sre.M),m.runFor (a+b)=(m.runFor a).runFor b
 | 0,b,m=>by rw[Sb];rfl
 |a+1,b,m=>by
  rw[show a+1+b=(a+b)+1 from by exact U4]
  by_cases h:m.outcome.isSome=true
  ·rw[ig h,ig h,ig h]
  ·show(if m.outcome.isSome then m else DT (a+b) m.step)=DT b (if m.outcome.isSome then m else DT a m.step)
   rw[if_neg h,if_neg h,ZC a b]
theorem pM {m:Sre.M}{a b:Nat}(hab:a≤b)(h:(m.runFor a).outcome.isSome=true):m.runFor b=m.runFor a:=by
 rw[show b=a+(b - a) from by exact R9 hab,ZC,ig h]
section
variable {w:gp}{k:Nat}{A:Around}{X X':Addr→Prop}{env:UI}{sc:Scope}{ρ:Yx}{s:aE}{E:bX→aE→Prop}
theorem v8 {m:Sre.M}{n:Nat}{Q:Sre.M→aE→Prop}(h:(m.runFor n).outcome.isSome=true)(hQ:Q (m.runFor n) s):∀(turns:Nat) (m0:Sre.M) (j:Nat),m0=m.runFor j→n≤j+4*turns→0<turns→cE (cS PW w) A (reDrive turns m0) Q E s
 | 0,m0,j,_,_,h0=>by exact(VB h0).elim
 |turns+1,m0,j,e,hn,_=>by
  have e4:m0.runFor reTurnSteps=m.runFor (j+4):=by rw[e,ZC];rfl
  show cE (cS PW w) A (if(m0.runFor reTurnSteps).outcome.isSome then AS (m0.runFor reTurnSteps) else(rule "sre.turn" >>= fun Z=>reDrive turns (m0.runFor reTurnSteps))) Q E s
  rw[e4]
  by_cases hj:(m.runFor (j+4)).outcome.isSome=true
  ·rw[if_pos hj]
   have:m.runFor n=m.runFor (j+4):=by
    rcases Nat.le_total n (j+4) with q|q
    ·exact(pM q h).symm
    ·exact pM q hj
   rw[this] at hQ
   exact bg hQ
  ·rw[if_neg hj]
   have hlt:j+4<n:=by
    rcases MX (j+4) n with q|q
    ·exact q
    ·rw[pM q h] at hj;exact absurd h hj
   exact ah (yT (v8 h hQ turns _ (j+4) rfl (by exact RL hn) (by exact Rv hn hlt)))
theorem fW {m:Sre.M}{n:Nat}{Q:Option Sre.M→aE→Prop}(hn:n≤1000000000)(h:(m.runFor n).outcome=some .matched∧Q (some (m.runFor n)) s∨(m.runFor n).outcome=some .failed∧Q none s):cE (cS PW w) A (reRunToEnd m) Q E s:=by
 unfold reRunToEnd
 refine ah (v8 (n:=n) (by rcases h with h|h<;>rw[h.1]<;>rfl) ?_ (2 ^ 64) m 0 rfl (by exact Vg hn) (by decide))
 refine ah (wpAny_forIn_list _ (fun Z Z s'=>s'=s) _ (fun i rest b s' e=>?_) (fun b s' e=>?_) _ _ rfl)
 ·subst e
  split
  ·exact ah (yT (bg rfl))
  ·first
    |exact bg rfl
    |exact ah (bg (bg rfl))
 ·subst e
  rcases h with ⟨h1,h2⟩|⟨h1,h2⟩
  ·rw[h1];exact bg h2
  ·rw[h1];exact bg h2
theorem Bk {id f:String}{p:Addr}{code:List Nat}{x:Str}{t:UN}{Q:ReTarget→aE→Prop}(hp:gn X s.heap p code)
  (a3k:reNamed id f ["string","pos","endpos"] 1 [.str x t] []=AS [some (.str x t),none,none])
  (hsz:x.length≤sizeLine) (hQ:Q {pattern:=.ref p,string:=.str x t,code:=code.toArray,text:=x.cps,kind:=0,groups:=0,pos:=0,lim:=x.length} s) :
  cE (cS PW w) A (reTarget id f ⟨[.ref p,.str x t],[]⟩) Q E s:=by
 obtain ⟨o,fs,tt,items,n,nx,h1,h2,h3,h4,h5,h6,h7,h8,h9,h10⟩:=hp
 unfold reTarget
 show cE _ _ (reNamed id f ["string","pos","endpos"] 1 [.str x t] [] >>= _) _ _ _
 rw[a3k]
 refine ah (bg ?_)
 show cE _ _ (AS 0 >>= _) _ _ _
 refine ah (bg ?_)
 show cE _ _ (AS (2 ^ 63 - 1) >>= _) _ _ _
 refine ah (bg (ah (Pe h1 h4 ?_)))
 show cE _ _ (reTextOf (.str x t) >>= _) _ _ _
 refine ah (bg ?_)
 show cE _ _ _ _ _ _
 simp only[h10]
 refine ah (m:=reNoCollectionInside _ _) (bg ?_)
 rw[h5]
 refine ah (m:=reRawItems _) (ah (kr h7 rfl (bg ?_)))
 refine bg ?_
 have e:({pattern:=.ref p,string:=.str x t,code:=((KL (some items) #[]).map reRawOf).map (fun x=>x.toNat),text:=x.cps,kind:=0,groups:=reRawNat (fs.getD 2 .none),pos:=UO (0:Int).toNat x.cps.size,lim:=UO (2 ^ 63 - 1:Int).toNat x.cps.size}:ReTarget)=
   {pattern:=.ref p,string:=.str x t,code:=code.toArray,text:=x.cps,kind:=0,groups:=0,pos:=0,lim:=x.length}:=by
  have h8':((KL (some items) #[]).map reRawOf).map (fun x=>x.toNat)=code.toArray:=h8
  rw[h8',h9]
  have:UO (2 ^ 63 - 1:Int).toNat x.cps.size=x.length:=by
   have:x.cps.size≤sizeLine:=hsz
   rw[c9] at this
   show UO _ _=x.cps.size
   exact Ow this
  rw[this]
  simp
 exact e▸hQ
theorem uh {p:bX}{x:bX}{pos lim:Nat}{m:Sre.M}{Q:bX→aE→Prop}(hQ:∀o1 o2,o2.isFreed=false→o2.cls=.type "re.Match"→Q (.ref (s.heap.objs.size+1)) {s with heap:=(s.heap.push o1).push o2}):
  cE (cS PW w) A (reNewMatch p x 0 pos lim m) Q E s:=by
 unfold reNewMatch
 show cE _ _ (newTuple [y9 m.start,y9 m.handed] >>= _) _ _ _
 refine ah (JU ?_ (by simp[c9]))
 refine l7 ?_ (by show PF _≤sizeLine+2;rw[c9];simp)
 have e:((s.heap.push {cls:=.type "tuple",data:=.seq #[y9 m.start,y9 m.handed]}).objs.size)=s.heap.objs.size+1:=kq ..
 show Q (.ref ((s.heap.push _).objs.size)) _
 rw[show([y9 m.start,y9 m.handed]:List bX).toArray=#[y9 m.start,y9 m.handed] from rfl,e]
 exact hQ _ _ rfl rfl
noncomputable def dW (code:List Nat)(x:Str)(n:Nat):Option Bool:=match ((kT code.toArray x.cps 0 0 x.length false).runFor n).outcome with
 |some .matched=>some true
 |some .failed=>some false
 |_=>none
theorem uC {p:Addr}{code:List Nat}{x:Str}{n:Nat}{b:Bool}{t:UN}(hX:Z6 X s)(hp:gn X s.heap p code)(hsz:x.length≤sizeLine)(hn:n≤1000000000)(h:dW code x n=some b):
  Ev w A X (call (.builtin "re.Pattern.search") [.ref p,.str x t]) (.mat b) s:=by
 intro Q E hQ
 have hT:s.TypeIs (.ref p) "re.Pattern":=by obtain ⟨o,fs,tt,items,n,nx,h1,h2⟩:=hp;exact⟨o,h1,h2⟩
 refine kP a0p hT a0L ?_ (sO _ _)
 show cE _ _ (reTarget "re.Pattern.search" "search" ⟨[.ref p,.str x t],[]⟩ >>= _) _ _ _
 refine ah (Bk hp (by rfl) hsz ?_)
 show cE _ _ (reRunToEnd (kT code.toArray x.cps 0 0 x.length false) >>= _) _ _ _
 unfold dW at h
 split at h
 ·rename_i ho
  cases h
  refine ah (fW hn (.inl ⟨ho,?_⟩))
  refine ah (uh fun o1 o2 hf hc=>bg ?_)
  refine⟨_,rfl,hQ _ _ ((Pu.YK s o1).trans (Pu.YK _ o2)) ?_⟩
  have hx:¬X (s.heap.objs.size+1):=by
   have:=(hX.pu (Pu.YK s o1)).new
   rw[show({s with heap:=s.heap.push o1}:aE).heap.objs.size=s.heap.objs.size+1 from kq ..] at this
   exact this
  refine⟨_,o2,rfl,?_,hx,hc⟩
  have:=ck (s.heap.push o1) (o:=o2) hf
  rw[kq] at this
  exact this
 ·rename_i ho
  cases h
  refine ah (fW hn (.inr ⟨ho,?_⟩))
  exact bg ⟨_,rfl,hQ _ _ (Pu.refl _) rfl⟩
 ·exact YD h
end
end
section
open PySem.Builtin PySem.Builtin.Re
noncomputable def qd (code:List Nat)(x:Str)(start:Nat)(must:Bool):Option (Nat×Nat)→Prop
 |some (a,b)=>∃n,n≤1000000000∧((kT code.toArray x.cps 0 start x.length must).runFor n).outcome=some .matched∧((kT code.toArray x.cps 0 start x.length must).runFor n).start=a∧
   ((kT code.toArray x.cps 0 start x.length must).runFor n).handed=b
 |none=>∃n,n≤1000000000∧((kT code.toArray x.cps 0 start x.length must).runFor n).outcome=some .failed
noncomputable def iG (x:Str)(a b:Nat):Str:=⟨x.cps.extract a b⟩
inductive G7 (code:List Nat)(x r:Str):Nat→Bool→List Str→Prop
 |stop {start must}:qd code x start must none→G7 code x r start must (if start<x.length then [iG x start x.length] else [])
 |turn {start must a b rest}:qd code x start must (some (a,b))→G7 code x r b (b==a) rest→G7 code x r start must ((if start<a then [iG x start a] else [])++r::rest)
section
variable {w:gp}{k:Nat}{A:Around}{X X':Addr→Prop}{env:UI}{sc:Scope}{ρ:Yx}{s:aE}{E:bX→aE→Prop}
theorem pZ {p:Addr}{code:List Nat}{x:Str}{t:UN}{Q:ReTarget→aE→Prop}(hp:gn X s.heap p code)
  (hQ:Q {pattern:=.ref p,string:=.str x t,code:=code.toArray,text:=x.cps,kind:=0,groups:=0,pos:=0,lim:=x.length} s) :
  cE (cS PW w) A (reWholeTarget (.ref p) (.str x t)) Q E s:=by
 obtain ⟨o,fs,tt,items,n,nx,h1,h2,h3,h4,h5,h6,h7,h8,h9,h10⟩:=hp
 unfold reWholeTarget
 refine ah (Pe h1 h4 ?_)
 show cE _ _ (reTextOf (.str x t) >>= _) _ _ _
 refine ah (bg ?_)
 simp only[h10]
 refine ah (m:=reNoCollectionInside _ _) (bg ?_)
 rw[h5]
 refine ah (m:=reRawItems _) (ah (kr h7 rfl (bg ?_)))
 refine bg ?_
 have e:({pattern:=.ref p,string:=.str x t,code:=((KL (some items) #[]).map reRawOf).map (fun x=>x.toNat),text:=x.cps,kind:=0,groups:=reRawNat (fs.getD 2 .none),pos:=0,lim:=x.cps.size}:ReTarget)=
   {pattern:=.ref p,string:=.str x t,code:=code.toArray,text:=x.cps,kind:=0,groups:=0,pos:=0,lim:=x.length}:=by
  have h8':((KL (some items) #[]).map reRawOf).map (fun x=>x.toNat)=code.toArray:=h8
  rw[h8',h9];rfl
 exact e▸hQ
theorem jO {p:Addr}{code:List Nat}{x:Str}{t:UN}{start:Nat}{must:Bool}{r:Option (Nat×Nat)}{Q:Option Sre.M→aE→Prop}(h:qd code x start must r)
  (hQ:∀m:Option Sre.M,m.map (fun m=>(m.start,m.handed))=r→Q m s) :
  cE (cS PW w) A (reNextFound {pattern:=.ref p,string:=.str x t,code:=code.toArray,text:=x.cps,kind:=0,groups:=0,pos:=0,lim:=x.length} start must) Q E s:=by
 unfold reNextFound
 cases r with
 |none=>
  obtain ⟨n,hn,ho⟩:=h
  exact fW hn (.inr ⟨ho,hQ none rfl⟩)
 |some ab=>
  obtain ⟨a,b⟩:=ab
  obtain ⟨n,hn,ho,h1,h2⟩:=h
  exact fW hn (.inl ⟨ho,hQ (some _) (by simp[h1,h2])⟩)
theorem strs_snoc {vs:List bX}{ys:List Str}{y:Str}{t:UN}(h:KG vs ys):KG (vs++[.str y t]) (ys++[y]):=by
 induction h with
 |nil=>exact .cons y t .nil
 |cons z u _ ih=>exact .cons z u ih
theorem lg {vs:List bX}{ys:List Str}(h:KG vs ys):vs.length=ys.length:=by
 induction h with
 |nil=>rfl
 |cons z u _ ih=>exact congrArg PZ ih
theorem o7 {Da:Addr}{items:Array bX}{ys:List Str}{y:Str}{t:UN}{Q:Unit→aE→Prop}(hl:s.heap.PlainList Da items)(hs:KG items.toList ys)(hsz:items.size≤sizeLine)
  (hQ:∀h',h'.PlainList Da (items.push (.str y t))→KG (items.push (.str y t)).toList (ys++[y])→(∀a o,a≠Da→s.heap.get? a=some o→h'.get? a=some o)→Q () {s with heap:=h'}) :
  cE (cS PW w) A (Lu Da (·.push (.str y t))) Q E s:=by
 obtain ⟨n,ho⟩:=hl
 refine B9 ho rfl (hQ _ ⟨_,k8 _ ho rfl⟩ ?_ ?_) hsz (by simp;exact VD hsz)
 ·rw[MD];exact strs_snoc hs
 ·intro a o ne e
  rw[gg _ _ (i7 ne)];exact e
theorem qz {β:Type}{J:Unit→UM β}{x:Str}{a b:Nat}{Da:Addr}{items:Array bX}{ys:List Str}{Q:β→aE→Prop}(hx:x.length≤sizeLine)(hp:Da≠PT)(hl:s.heap.PlainList Da items)(hs:KG items.toList ys)(hsz:items.size≤sizeLine)
  (hQ:∀s' items',YF (fun x=>x=Da) s s'→s'.heap.PlainList Da items'→KG items'.toList (ys++if a<b then [iG x a b] else [])→cE (cS PW w) A (J ()) Q E s') :
  cE (cS PW w) A (if a<b then(do let y←reSlice x.cps 0 a b;let r←Lu Da (·.push y);J r) else J ()) Q E s:=by
 by_cases h:a<b
 ·rw[if_pos h]
  refine ah (m:=reSlice _ _ _ _) (wpAny_mkStr ?_ ?_)
  ·refine ah (o7 (s:={s with toks:=s.toks+1}) hl hs hsz fun h' hl' hs' hk=>?_)
   rw[if_pos h] at hQ
   exact hQ _ _ ⟨fun c o e Z z=>hk c o z e,fun Z9=>by obtain ⟨vs,e⟩:=Z9;exact⟨vs,hk _ _ (i7 hp) e⟩,id,rfl,rfl⟩ hl' hs'
  ·show(x.cps.extract a b).size≤sizeLine
   have:x.cps.size≤sizeLine:=hx
   rw[Array.size_extract];exact Yn hx this
 ·rw[if_neg h]
  rw[if_neg h,nK] at hQ
  exact hQ s items (YF.refl _) hl hs
theorem xF {p:Addr}{code:List Nat}{x r:Str}{t rt:UN}{Da:Addr}(hXp:Da≠PT)(hsz:x.length≤sizeLine){R:DO→aE→Prop}:∀{start:Nat} {must:Bool} {rest:List Str},G7 code x r start must rest→∀(s:aE) (n:Nat) (items:Array bX) (ys:List Str),
  gn (fun c=>c=Da∨c=PT) s.heap p code→s.heap.PlainList Da items→KG items.toList ys→((ys++rest).map (fun x=>x.length)).sum≤16777216→(ys++rest).length+4≤sizeLine→
  (∀tk s',YF (fun x=>x=Da) s s'→R (.ok (.ret (.str (NW Str.empty (ys++rest)) tk))) s')→
  ∀A,A8 (cS PW w) A (.builtin "re.Pattern.sub.loop" ⟨[.ref p,.str x t,.str r rt,y9 0,y9 0,y9 n,y9 start,y9 start,.bool must,.ref Da,.bool false],[]⟩) R s:=by
 intro start must rest hS
 induction hS with
 | @stop start must hf=>
  intro s n items ys hp hl hs hsum hlen hQ A
  refine wm a04 ?_
  show cE _ _ (reWholeTarget (.ref p) (.str x t) >>= _) _ _ _
  refine ah (pZ hp ?_)
  refine ah (m:=reLiteralCannotBeTurned _) (bg ?_)
  have e0:((start:Int)).toNat=start:=x7 start
  show cE _ _ ((reNextFound _ ((start:Int)).toNat must) >>= _) _ _ _
  rw[e0]
  refine ah (jO hf fun m hm=>?_)
  cases m with
  |some m=>cases hm
  |none=>
   have hsz2:items.size≤sizeLine:=by have:=lg hs;simp at hlen this ⊢;exact Qk this hlen
   refine qz hsz hXp hl hs hsz2 fun s' items' pb hl' hs'=>?_
   refine ah (m:=reSlice _ _ _ _) (wpAny_mkStr ?_ (by rw[c9];show(x.cps.extract 0 0).size≤_;simp))
   have e0:(⟨x.cps.extract 0 0⟩:Str)=Str.empty:=CC (by simp[Str.empty])
   show cE _ _ (GW (.ref Da) >>= _) _ _ _
   obtain ⟨nn,ho'⟩:=hl'
   refine ah (kr (s:={s' with toks:=s'.toks+1}) ho' rfl ?_)
   rw[e0]
   have pb':∀tk,YF (fun x=>x=Da) s {s' with toks:=tk}:=fun tk=>pb.trans (.YB (Pu.toks _ _))
   by_cases he:items'.isEmpty=true
   ·show cE _ _ (if items'.isEmpty=true then _ else _) _ _ _
    rw[if_pos he]
    have hnil:ys++(if start<x.length then [iG x start x.length] else [])=[]:=by
     have:=lg hs'
     rw[iS] at this
     have h0:items'.size=0:=by simpa [Array.isEmpty] using he
     exact oj.mp (this.symm.trans h0)
    rw[hnil] at hQ
    refine ah (bg (bg ?_))
    exact hQ _ _ (pb' _)
   ·show cE _ _ (if items'.isEmpty=true then _ else _) _ _ _
    rw[if_neg he]
    refine ah (RH (s:={s' with toks:=s'.toks+1}) ⟨_,ho',rfl,_,rfl⟩ hs' (by rw[show Str.empty.length=0 from rfl,Nat.mul_zero];exact hsum) fun t' kk=>bg ?_)
    exact hQ _ _ (pb' _)
 | @turn start must a b rest hf hr ih=>
  intro s n items ys hp hl hs hsum hlen hQ A
  refine wm a04 ?_
  show cE _ _ (reWholeTarget (.ref p) (.str x t) >>= _) _ _ _
  refine ah (pZ hp ?_)
  refine ah (m:=reLiteralCannotBeTurned _) (bg ?_)
  have e0:((start:Int)).toNat=start:=x7 start
  show cE _ _ ((reNextFound _ ((start:Int)).toNat must) >>= _) _ _ _
  rw[e0]
  refine ah (jO hf fun m hm=>?_)
  cases m with
  |none=>exact YD hm
  |some m=>
   simp only[zo,ES,LD] at hm
   obtain ⟨hm1,hm2⟩:=hm
   have a0R:=lg hs
   have hsz2:items.size≤sizeLine:=by simp at hlen a0R ⊢;exact Ox a0R hlen
   refine qz hsz hXp hl hs hsz2 fun s' items' pb hl' hs'=>?_
   rw[hm1] at hs'
   refine ah (bg ?_)
   have hsz3:items'.size≤sizeLine:=by
    have:=lg hs'
    simp at hlen a0R this ⊢
    split at this<;>simp at this<;>(first|exact Y8 a0R hsz2 hlen this|exact wZ a0R hsz2 this)
   refine ah (o7 hl' hs' hsz3 fun h' hl2 hs2 hk=>?_)
   have Zc:YF (fun x=>x=Da) s' {s' with heap:=h'}:=⟨fun c o e Z z=>hk c o z e,fun Z9=>by obtain ⟨vs,e⟩:=Z9;exact⟨vs,hk _ _ (i7 hXp) e⟩,id,rfl,rfl⟩
   have eq2:ys++(if start<a then [iG x start a] else [])++[r]++rest=ys++((if start<a then [iG x start a] else [])++r::rest):=by simp
   refine bg ⟨by kernel_rfl,?_⟩
   rw[hm2,hm1]
   refine ih _ (n+1) _ _ ?_ hl2 hs2 (by rw[eq2];exact hsum) (by rw[eq2];exact hlen) (fun tk s'' pb3=>by rw[eq2];exact hQ tk s'' (pb.trans (Zc.trans pb3))) _
   exact hp.up ⟨fun c o e z=>hk c o (fun q=>z (.inl q)) (pb.heap c o e (fun q=>z (.inr q)) fun q=>z (.inl q)),fun Z Z Z h=>h⟩
theorem a1n:IM (.type "str") "__call__"=AS none:=by rw[B8,vE];kernel_rfl
theorem vW {p:Addr}{code:List Nat}{x r:Str}{t rt:UN}{rest:List Str}(hX:Z6 X s)(hp:gn X s.heap p code)(hsz:x.length≤sizeLine)(hr:r.cps.contains 92=false)
  (hS:G7 code x r 0 false rest) (hsum:(rest.map (fun x=>x.length)).sum≤16777216) (hlen:rest.length+4≤sizeLine) :
  Ev w A X (call (.builtin "re.Pattern.sub") [.ref p,.str r rt,.str x t]) (.str (NW Str.empty rest)) s:=by
 intro Q E hQ
 obtain ⟨new,YZ⟩:=dg hX
 have hT:s.TypeIs (.ref p) "re.Pattern":=by obtain ⟨o,fs,tt,items,n,nx,h1,h2⟩:=hp;exact⟨o,h1,h2⟩
 refine AW (Au a0i.plain entry_sub (a0i.check _ _ _ _ _ _ _ _ hT (BP _ _ _) ?_))
 show cE _ _ (reNamed "re.Pattern.sub" "sub" ["repl","string","count"] 2 [.str r rt,.str x t] [] >>= _) _ _ _
 rw[show reNamed "re.Pattern.sub" "sub" ["repl","string","count"] 2 [.str r rt,.str x t] []=AS [some (.str r rt),some (.str x t),none] from by rfl]
 refine ah (bg ?_)
 show cE _ _ (AS 0 >>= _) _ _ _
 refine ah (bg ?_)
 refine ah (zv (T:="str") (v:=.str r rt) rfl a1n ?_)
 simp only[LV,fh,if_false]
 refine ah (m:=asStr? _) (bg ?_)
 refine ah (bg ?_)
 rw[hr]
 refine ah (bg ?_)
 refine ah (fT (pZ hp ?_))
 have u1:Pu s {s with heap:=s.heap.push {cls:=.type "list",data:=.seq ([]:List bX).toArray}}:=Pu.YK _ _
 have hl0:({s with heap:=s.heap.push {cls:=.type "list",data:=.seq ([]:List bX).toArray}}:aE).heap.PlainList s.heap.objs.size #[]:=⟨_,ck _ rfl⟩
 refine ah (CH (bg ⟨by kernel_rfl,?_⟩))
 have hpk:gn (fun c=>c=s.heap.objs.size∨c=PT) (s.heap.push {cls:=.type "list",data:=.seq ([]:List bX).toArray}) p code:=by
  obtain ⟨o,fs,tt,items,n,nx,h1,h2,h3,h4,h5,h6,h7,h8,h9,h10⟩:=hp
  exact⟨o,fs,tt,items,n,fun q=>q.elim (z6 h1) fun q=>nx (q▸hX.pt),b6 _ h1,h2,h3,h4,h5,fun q=>q.elim (z6 h7) fun q=>h6 (q▸hX.pt),b6 _ h7,h8,h9,h10⟩
 refine xF YZ hsz hS _ 0 #[] [] hpk hl0 .nil (hsum) (hlen) (fun tk s' pb=>?_) _
 refine hQ _ _ (pb.pu u1 fun a o e h=>?_) ?_
 ·subst e;exact YD (new.symm.trans h)
 ·rw[sq];exact eX
end
end
section
open PySem.Sre (ops)
noncomputable def S2 (t:Array Nat)(L s:Nat)(first:Bool)(seen:qq):Sre.M:=
 {code:=P2.toArray,text:=t,lim:=L,start:=s,lastStart:=L,pc:=5,pos:=s,handed:=s,outermost:=first,marks:=#[],frames:=[{wait:=.nextStart,pc:=5,pos:=s,outermost:=first}],weight:=1,seen:=seen}
noncomputable def cX (t:Array Nat)(s:Nat):Prop:=s=0∨t[s - 1]?.getD 0=10
section
variable {t:Array Nat}{L s:Nat}{first:Bool}{seen:qq}
theorem jg {m:Sre.M}(n:Nat)(h:m.outcome=none):m.runFor (n+1)=m.step.runFor n:=by
 show(if m.outcome.isSome then m else DT n m.step)=_
 rw[h];rfl
noncomputable def S2' (t:Array Nat)(L s pc pos:Nat)(first:Bool)(ans:Option Bool)(seen:qq):Sre.M:=
 {code:=P2.toArray,text:=t,lim:=L,start:=s,lastStart:=L,pc:=pc,pos:=pos,handed:=s,outermost:=first,marks:=#[],frames:=[{wait:=.nextStart,pc:=5,pos:=s,outermost:=first}],weight:=1,answer:=ans,seen:=seen}
noncomputable def S2z (t:Array Nat)(L s:Nat)(first:Bool)(seen:qq):Sre.M:=
 {code:=P2.toArray,text:=t,lim:=L,start:=s,lastStart:=L,pc:=5,pos:=s,handed:=s,outermost:=first,marks:=#[],frames:=[],weight:=0,answer:=some false,seen:=seen}
theorem a0Y:(S2 t L s first seen).step=if(s==0||t.getD (s - 1) 0==10)=true then S2' t L s 7 s first none ((seen.add 6).add 44) else S2' t L s 5 s first (some false) ((seen.add 6).add 44):=by kernel_rfl
theorem a1k:(S2' t L s 7 s first none seen).step=if s≥L then S2' t L s 7 s first (some false) (seen.add 16) else match t.getD s 0==46 with
  |true=>S2' t L s 9 (s+1) first none (seen.add 16)
  |false=>S2' t L s 7 s first (some false) (seen.add 16):=by kernel_rfl
theorem pN {pc:Nat}:(S2' t L s pc s first (some false) seen).step=if s<L then S2 t L (s+1) false seen else S2z t L s first seen:=by kernel_rfl
theorem a4t:((S2z t L s first seen).runFor 1).outcome=some .failed:=by kernel_rfl
theorem a3q:((S2' t L s 9 (s+1) first none seen).runFor 3).outcome=some .matched∧((S2' t L s 9 (s+1) first none seen).runFor 3).start=s∧((S2' t L s 9 (s+1) first none seen).runFor 3).handed=s+1:=by
 cases first
 ·exact⟨by kernel_rfl,by kernel_rfl,by kernel_rfl⟩
 ·exact⟨by kernel_rfl,by kernel_rfl,by kernel_rfl⟩
theorem a0a:(s==0||t.getD (s - 1) 0==10)=true↔cX t s:=by
 unfold cX
 rw[B7,beq_iff_eq,beq_iff_eq,gi]
theorem I5 (h:¬cX t s)(hs:s<L):(S2 t L s first seen).runFor 2=S2 t L (s+1) false ((seen.add 6).add 44):=by
 rw[jg _ rfl,a0Y,if_neg (mt a0a.mp h),jg _ rfl,pN,if_pos hs];rfl
theorem I4 (h:¬cX t L):((S2 t L L first seen).runFor 3).outcome=some .failed:=by
 rw[jg _ rfl,a0Y,if_neg (mt a0a.mp h),jg _ rfl,pN,if_neg (iE L)];exact a4t
theorem W2 (h:cX t s)(hd:t[s]?.getD 0≠46)(hs:s<L):(S2 t L s first seen).runFor 3=S2 t L (s+1) false (((seen.add 6).add 44).add 16):=by
 rw[jg _ rfl,a0Y,if_pos (a0a.mpr h),jg _ rfl,a1k,if_neg (we.mpr hs),gi,beq_eq_false_iff_ne.mpr hd]
 show(S2' t L s 7 s first (some false) _).runFor 1=_
 rw[jg _ rfl,pN,if_pos hs];rfl
theorem Ms (h:cX t L):((S2 t L L first seen).runFor 4).outcome=some .failed:=by
 rw[jg _ rfl,a0Y,if_pos (a0a.mpr h),jg _ rfl,a1k,if_pos (gz L),jg _ rfl,pN,if_neg (iE L)];exact a4t
theorem Mt (h:cX t s)(hd:t[s]?.getD 0=46)(hs:s<L):((S2 t L s first seen).runFor 5).outcome=some .matched∧((S2 t L s first seen).runFor 5).start=s∧((S2 t L s first seen).runFor 5).handed=s+1:=by
 rw[jg _ rfl,a0Y,if_pos (a0a.mpr h),jg _ rfl,a1k,if_neg (we.mpr hs),gi,beq_iff_eq.mpr hd]
 exact a3q
noncomputable def S2y (t:Array Nat)(L s:Nat):Sre.M:={code:=P2.toArray,text:=t,lim:=L,start:=s,pc:=5,pos:=s,handed:=s,marks:=#[],answer:=some false,seen:=({}:qq).add 14}
theorem a2T:kT P2.toArray t 0 s L false=if(decide (s>L)||decide (L - s<1))=true then S2y t L s else S2 t L s true (({}:qq).add 14):=by kernel_rfl
theorem vR (hs:s<L):kT P2.toArray t 0 s L false=S2 t L s true (({}:qq).add 14):=by
 rw[a2T,decide_eq_false (ow.mpr (fz hs)),decide_eq_false (ow.mpr (A4 hs))];rfl
theorem a2x:((kT P2.toArray t 0 L L false).runFor 1).outcome=some .failed:=by
 rw[a2T,decide_eq_true (show L - L<1 from by rw[Sk];exact OF),Sl];kernel_rfl
noncomputable def Dot (t:Array Nat)(s:Nat):Prop:=cX t s∧t[s]?.getD 0=46
theorem a1l:∀(k:Nat) (s:Nat) (first:Bool) (seen:qq),s+k=L→∀a,(s≤a∧(∀j,s≤j→j<a→¬Dot t j))→a≤L→
  (a=L→∃n,n≤3*k+5∧((S2 t L s first seen).runFor n).outcome=some .failed)∧
  (a<L→Dot t a→∃n,n≤3*k+5∧((S2 t L s first seen).runFor n).outcome=some .matched∧((S2 t L s first seen).runFor n).start=a∧((S2 t L s first seen).runFor n).handed=a+1)
 | 0,s,first,seen,hk,a,⟨h1,h2⟩,h3=>by
  have hs:s=L:=by exact DQ hk
  subst hs
  refine⟨fun Z=>?_,fun h=>by exact(U3 h1 h3 h).elim⟩
  by_cases hl:cX t s
  ·exact⟨4,by exact a4b,Ms hl⟩
  ·exact⟨3,by exact a4d,I4 hl⟩
 |k+1,s,first,seen,hk,a,⟨h1,h2⟩,h3=>by
  have hs:s<L:=by exact Hs hk
  rcases oi h1 with e|hlt
  ·subst e
   exact⟨fun q=>by exact(RX hk hs q).elim,fun Z hd=>⟨5,by exact Tv,Mt hd.1 hd.2 hs⟩⟩
  ·have nd:=h2 s (gz _) hlt
   have step:∃m seen',m≤3∧(S2 t L s first seen).runFor m=S2 t L (s+1) false seen':=by
    by_cases hl:cX t s
    ·exact⟨3,_,by exact a2K,W2 hl (fun q=>nd ⟨hl,q⟩) hs⟩
    ·exact⟨2,_,by exact a2J,I5 hl hs⟩
   obtain ⟨m,seen',hm,e⟩:=step
   obtain ⟨r1,r2⟩:=a1l k (s+1) false seen' (by exact M4 hk) a ⟨hlt,fun j hj=>h2 j (by exact VM hk hj)⟩ h3
   refine⟨fun q=>?_,fun q hd=>?_⟩
   ·obtain ⟨n,hn,ho⟩:=r1 q
    exact⟨m+n,by exact WK hm hn,by rw[ZC,e];exact ho⟩
   ·obtain ⟨n,hn,ho⟩:=r2 q hd
    exact⟨m+n,by exact WK hm hn,by rw[ZC,e];exact ho⟩
end
theorem tB {x:Str}{s:Nat}(hsz:x.length≤16777216)(hs:s≤x.length)(h:∀j,s≤j→j<x.length→¬Dot x.cps j):qd P2 x s false none:=by
 rcases oi hs with e|hlt
 ·rw[e];exact⟨1,by exact a1V,a2x⟩
 ·obtain ⟨n,hn,ho⟩:=(a1l (t:=x.cps) (L:=x.length) (x.length - s) s true (({}:qq).add 14) (by exact QR hlt) x.length ⟨hs,h⟩ (gz _)).1 rfl
  exact⟨n,by exact PL hsz hlt hn,by rw[vR hlt];exact ho⟩
theorem tD {x:Str}{s a:Nat}(hsz:x.length≤16777216)(hs:s≤a)(ha:a<x.length)(hd:Dot x.cps a)(h:∀j,s≤j→j<a→¬Dot x.cps j):qd P2 x s false (some (a,a+1)):=by
 obtain ⟨n,hn,ho⟩:=(a1l (t:=x.cps) (L:=x.length) (x.length - s) s true (({}:qq).add 14) (by exact Qh hs ha) a ⟨hs,h⟩ (by exact Le ha)).2 ha hd
 exact⟨n,by exact Pz hsz hn,by rw[vR (cK hs ha)];exact ho⟩
end
section
open PySem.Sre (ops)
noncomputable def S3 (t:Array Nat)(L s:Nat)(seen:qq):Sre.M:=
 {code:=P3.toArray,text:=t,lim:=L,start:=s,lastStart:=L,pc:=10,pos:=s,handed:=s,outermost:=true,marks:=#[],frames:=[{wait:=.nextStart,pc:=10,pos:=s,outermost:=true}],weight:=1,seen:=seen}
section
variable {t:Array Nat}{L s:Nat}{first:Bool}{seen:qq}
noncomputable def Q3 (t:Array Nat)(L s pc pos:Nat)(om:Bool)(fr:List Sre.Frame)(wt:Nat)(ans:Option Bool)(seen:qq):Sre.M:=
 {code:=P3.toArray,text:=t,lim:=L,start:=s,lastStart:=L,pc:=pc,pos:=pos,handed:=s,outermost:=om,marks:=#[],frames:=fr,weight:=wt,answer:=ans,seen:=seen}
noncomputable def fS (s:Nat):Sre.Frame:={wait:=.nextStart,pc:=10,pos:=s,outermost:=true}
noncomputable def fB (s pc:Nat):Sre.Frame:={wait:=.nextBranch,pc:=pc,pos:=s,outermost:=true}
noncomputable def fL (s:Nat):Sre.Frame:={wait:=.lookNot,pc:=26,pos:=s,outermost:=true}
noncomputable def Q3' (t:Array Nat)(L s pc pos h:Nat)(om:Bool)(fr:List Sre.Frame)(wt:Nat)(ans:Option Bool)(seen:qq):Sre.M:={Q3 t L s pc pos om fr wt ans seen with handed:=h}
theorem a2b:(S3 t L s seen).step=Q3 t L s 12 s true [fB s 11,fS s] 2 none (seen.add 7):=by kernel_rfl
theorem a2c:(Q3 t L s 12 s true [fB s 11,fS s] 2 none seen).step=if s≥L then Q3 t L s 12 s true [fB s 11,fS s] 2 (some false) (seen.add 16) else match t.getD s 0==13 with
  |true=>Q3 t L s 14 (s+1) true [fB s 11,fS s] 2 none (seen.add 16)
  |false=>Q3 t L s 12 s true [fB s 11,fS s] 2 (some false) (seen.add 16):=by kernel_rfl
theorem a2V:(Q3 t L s 14 (s+1) true [fB s 11,fS s] 2 none seen).step=if s+1≥L then Q3 t L s 14 (s+1) true [fB s 11,fS s] 2 (some false) (seen.add 16) else match t.getD (s+1) 0==10 with
  |true=>Q3 t L s 16 (s+2) true [fB s 11,fS s] 2 none (seen.add 16)
  |false=>Q3 t L s 14 (s+1) true [fB s 11,fS s] 2 (some false) (seen.add 16):=by kernel_rfl
theorem a3t:((Q3 t L s 16 (s+2) true [fB s 11,fS s] 2 none seen).runFor 5).outcome=some .matched∧((Q3 t L s 16 (s+2) true [fB s 11,fS s] 2 none seen).runFor 5).start=s∧((Q3 t L s 16 (s+2) true [fB s 11,fS s] 2 none seen).runFor 5).handed=s+2:=⟨by kernel_rfl,by kernel_rfl,by kernel_rfl⟩
theorem Al {pc pos:Nat}:(Q3 t L s pc pos true [fB s 11,fS s] 2 (some false) seen).step=Q3 t L s 19 s true [fB s 18,fS s] 2 none seen:=by kernel_rfl
theorem a2d:(Q3 t L s 19 s true [fB s 18,fS s] 2 none seen).step=if s≥L then Q3 t L s 19 s true [fB s 18,fS s] 2 (some false) (seen.add 16) else match t.getD s 0==10 with
  |true=>Q3 t L s 21 (s+1) true [fB s 18,fS s] 2 none (seen.add 16)
  |false=>Q3 t L s 19 s true [fB s 18,fS s] 2 (some false) (seen.add 16):=by kernel_rfl
theorem Mv {pc b:Nat}(h:pc=21∧b=18∨pc=32∧b=23):((Q3 t L s pc (s+1) true [fB s b,fS s] 2 none seen).runFor 5).outcome=some .matched∧((Q3 t L s pc (s+1) true [fB s b,fS s] 2 none seen).runFor 5).start=s∧((Q3 t L s pc (s+1) true [fB s b,fS s] 2 none seen).runFor 5).handed=s+1:=by
 rcases h with ⟨rfl,rfl⟩|⟨rfl,rfl⟩
 ·exact⟨by kernel_rfl,by kernel_rfl,by kernel_rfl⟩
 ·exact⟨by kernel_rfl,by kernel_rfl,by kernel_rfl⟩
theorem I6 {pc pos:Nat}:(Q3 t L s pc pos true [fB s 18,fS s] 2 (some false) seen).step=Q3 t L s 24 s true [fB s 23,fS s] 2 none seen:=by kernel_rfl
theorem a3r:(Q3 t L s 24 s true [fB s 23,fS s] 2 none seen).step=if s≥L then Q3 t L s 24 s true [fB s 23,fS s] 2 (some false) (seen.add 16) else match t.getD s 0==13 with
  |true=>Q3 t L s 26 (s+1) true [fB s 23,fS s] 2 none (seen.add 16)
  |false=>Q3 t L s 24 s true [fB s 23,fS s] 2 (some false) (seen.add 16):=by kernel_rfl
theorem a2y:(Q3 t L s 26 (s+1) true [fB s 23,fS s] 2 none seen).step=Q3' t L s 29 (s+1) (s+1) false [fL (s+1),fB s 23,fS s] 3 none (seen.add 5):=by kernel_rfl
theorem a3s:(Q3' t L s 29 (s+1) (s+1) false [fL (s+1),fB s 23,fS s] 3 none seen).step=if s+1≥L then Q3' t L s 29 (s+1) (s+1) false [fL (s+1),fB s 23,fS s] 3 (some false) (seen.add 16) else match t.getD (s+1) 0==10 with
  |true=>Q3' t L s 31 (s+2) (s+1) false [fL (s+1),fB s 23,fS s] 3 none (seen.add 16)
  |false=>Q3' t L s 29 (s+1) (s+1) false [fL (s+1),fB s 23,fS s] 3 (some false) (seen.add 16):=by kernel_rfl
theorem Mu {seen:qq}:((Q3' t L s 29 (s+1) (s+1) false [fL (s+1),fB s 23,fS s] 3 (some false) seen).runFor 6).outcome=some .matched∧((Q3' t L s 29 (s+1) (s+1) false [fL (s+1),fB s 23,fS s] 3 (some false) seen).runFor 6).start=s∧
  ((Q3' t L s 29 (s+1) (s+1) false [fL (s+1),fB s 23,fS s] 3 (some false) seen).runFor 6).handed=s+1:=⟨by kernel_rfl,by kernel_rfl,by kernel_rfl⟩
theorem I7 (hs:s+1<L)(h0:t[s]?.getD 0=13)(h1:t[s+1]?.getD 0=10):((S3 t L s seen).runFor 8).outcome=some .matched∧((S3 t L s seen).runFor 8).start=s∧((S3 t L s seen).runFor 8).handed=s+2:=by
 rw[jg _ rfl,a2b,jg _ rfl,a2c,if_neg (we.mpr (ER hs)),gi,beq_iff_eq.mpr h0]
 show((Q3 t L s 14 (s+1) true [fB s 11,fS s] 2 none _).runFor 6).outcome=_∧((Q3 t L s 14 (s+1) true [fB s 11,fS s] 2 none _).runFor 6).start=_∧((Q3 t L s 14 (s+1) true [fB s 11,fS s] 2 none _).runFor 6).handed=_
 rw[jg _ rfl,a2V,if_neg (we.mpr hs),gi,beq_iff_eq.mpr h1]
 exact a3t
theorem Mw (hs:s<L)(h:s+1≥L∨t[s]?.getD 0≠13∨t[s+1]?.getD 0≠10):∃seen' n,n≤4∧3≤n∧(t[s]?.getD 0=13→n=4)∧(t[s]?.getD 0≠13→n=3)∧(S3 t L s seen).runFor n=Q3 t L s 19 s true [fB s 18,fS s] 2 none seen':=by
 by_cases h0:t[s]?.getD 0=13
 ·refine⟨((seen.add 7).add 16).add 16,4,gz _,by decide,fun Z=>rfl,fun q=>absurd h0 q,?_⟩
  rw[jg _ rfl,a2b,jg _ rfl,a2c,if_neg (we.mpr hs),gi,beq_iff_eq.mpr h0]
  show(Q3 t L s 14 (s+1) true [fB s 11,fS s] 2 none _).runFor 2=_
  rw[jg _ rfl,a2V]
  by_cases hl:s+1≥L
  ·rw[if_pos hl,jg _ rfl,Al];rfl
  ·rw[if_neg hl,gi,beq_eq_false_iff_ne.mpr ((h.resolve_left hl).resolve_left fun q=>q h0)]
   show(Q3 t L s 14 (s+1) true [fB s 11,fS s] 2 (some false) _).runFor 1=_
   rw[jg _ rfl,Al];rfl
 ·refine⟨(seen.add 7).add 16,3,by decide,gz _,fun q=>absurd q h0,fun Z=>rfl,?_⟩
  rw[jg _ rfl,a2b,jg _ rfl,a2c,if_neg (we.mpr hs),gi,beq_eq_false_iff_ne.mpr h0]
  show(Q3 t L s 12 s true [fB s 11,fS s] 2 (some false) _).runFor 1=_
  rw[jg _ rfl,Al];rfl
theorem I8 (hs:s<L)(h0:t[s]?.getD 0=10):((S3 t L s seen).runFor 9).outcome=some .matched∧((S3 t L s seen).runFor 9).start=s∧((S3 t L s seen).runFor 9).handed=s+1:=by
 have n13:t[s]?.getD 0≠13:=by rw[h0];decide
 obtain ⟨seen',n,_,_,_,h3,e⟩:=Mw (seen:=seen) hs (.inr (.inl n13))
 cases h3 n13
 rw[show 9=3+6 from rfl,ZC,e,jg _ rfl,a2d,if_neg (we.mpr hs),gi,beq_iff_eq.mpr h0]
 exact Mv (.inl ⟨rfl,rfl⟩)
theorem Am (hs:s<L)(h0:t[s]?.getD 0=13)(h1:s+1≥L∨t[s+1]?.getD 0≠10):((S3 t L s seen).runFor 15).outcome=some .matched∧((S3 t L s seen).runFor 15).start=s∧((S3 t L s seen).runFor 15).handed=s+1:=by
 obtain ⟨seen',n,_,_,h3,_,e⟩:=Mw (seen:=seen) hs (h1.imp id .inr)
 cases h3 h0
 have n10:t[s]?.getD 0≠10:=by rw[h0];decide
 rw[show 15=4+11 from rfl,ZC,e,jg _ rfl,a2d,if_neg (we.mpr hs),gi,beq_eq_false_iff_ne.mpr n10]
 have key:∀seen,(Q3 t L s 19 s true [fB s 18,fS s] 2 (some false) seen).runFor 10=(Q3' t L s 29 (s+1) (s+1) false [fL (s+1),fB s 23,fS s] 3 (some false) (((seen.add 16).add 5).add 16)).runFor 6:=fun seen=>by
  rw[jg _ rfl,I6,jg _ rfl,a3r,if_neg (we.mpr hs),gi,beq_iff_eq.mpr h0]
  show(Q3 t L s 26 (s+1) true [fB s 23,fS s] 2 none _).runFor 8=_
  rw[jg _ rfl,a2y,jg _ rfl,a3s]
  by_cases hl:s+1≥L
  ·rw[if_pos hl]
  ·rw[if_neg hl,gi,beq_eq_false_iff_ne.mpr (h1.resolve_left hl)]
 show((Q3 t L s 19 s true [fB s 18,fS s] 2 (some false) _).runFor 10).outcome=_∧((Q3 t L s 19 s true [fB s 18,fS s] 2 (some false) _).runFor 10).start=_∧((Q3 t L s 19 s true [fB s 18,fS s] 2 (some false) _).runFor 10).handed=_
 rw[key]
 exact Mu
noncomputable def End (t:Array Nat)(s:Nat):Prop:=t[s]?.getD 0=10∨t[s]?.getD 0=13
theorem vp (c:Nat):EG P3.toArray c 36 5 true seen=if(c==10)=true then .ok (true,seen.add 16) else if(c==13)=true then .ok (true,(seen.add 16).add 16) else .ok (false,((seen.add 16).add 16).add 0):=by kernel_rfl
theorem za (c:Nat)(h:c=10∨c=13):∃seen',EG P3.toArray c 36 5 true seen=.ok (true,seen'):=by
 rw[vp]
 rcases h with rfl|rfl<;>exact⟨_,rfl⟩
theorem Dh (c:Nat)(h:¬(c=10∨c=13)):∃seen',EG P3.toArray c 36 5 true seen=.ok (false,seen'):=by
 rw[vp,if_neg (fun q=>h (.inl (beq_iff_eq.mp q))),if_neg (fun q=>h (.inr (beq_iff_eq.mp q)))]
 exact⟨_,rfl⟩
theorem Ga {m:Sre.M}{fuel s:Nat}(h:s≥m.lim):AD m (fuel+1) s seen=.ok (none,seen):=if_pos h
theorem Gb {m:Sre.M}{fuel s:Nat}{seen':qq}(h:¬s≥m.lim)(e:EG m.code (m.text.getD s 0) m.code.size 5 true seen=.ok (true,seen')):AD m (fuel+1) s seen=.ok (some s,seen'):=(if_neg h).trans (by rw[e])
theorem BK {m:Sre.M}{fuel s:Nat}{seen':qq}(h:¬s≥m.lim)(e:EG m.code (m.text.getD s 0) m.code.size 5 true seen=.ok (false,seen')):AD m (fuel+1) s seen=AD m fuel (s+1) seen':=(if_neg h).trans (by rw[e])
theorem iI (m:Sre.M)(hc:m.code=P3.toArray)(ht:m.text=t)(hl:m.lim=L):∀(fuel s:Nat) (seen:qq),L+1 - s≤fuel→s≤L→∀a,s≤a→a≤L→(∀j,s≤j→j<a→¬End t j)→
  (a=L→∃seen',AD m fuel s seen=.ok (none,seen'))∧(a<L→End t a→∃seen',AD m fuel s seen=.ok (some a,seen'))
 | 0,s,seen,hf,hs,a,h1,h2,h3=>by exact(Px hf hs h1).elim
 |fuel+1,s,seen,hf,hs,a,h1,h2,h3=>by
  rcases oi hs with e|hlt
  ·rw[Ga (hl▸ee e.symm)]
   subst e
   exact⟨fun Z=>⟨_,rfl⟩,fun h=>by exact(RD h1 hl h2 h).elim⟩
  ·have nl:¬s≥m.lim:=by rw[hl];exact Uh hlt
   have key:∀{b:Bool} {seen':qq},EG P3.toArray (t[s]?.getD 0) 36 5 true seen=.ok (b,seen')→EG m.code (m.text.getD s 0) m.code.size 5 true seen=.ok (b,seen'):=fun q=>by
    rw[hc,ht,gi];exact q
   rcases oi h1 with e|hlt2
   ·subst e
    refine⟨fun q=>by exact(Lq hlt q).elim,fun Z he=>?_⟩
    obtain ⟨seen',e⟩:=za (seen:=seen) _ he
    exact⟨_,Gb nl (key e)⟩
   ·obtain ⟨seen',e⟩:=Dh (seen:=seen) _ (h3 s (gz _) hlt2)
    rw[BK nl (key e)]
    exact iI m hc ht hl fuel (s+1) seen' (by exact Yo hf hlt) hlt a hlt2 h2 fun j hj=>h3 j (by exact xN hj)
noncomputable def M3 (t:Array Nat)(L s:Nat):Sre.M:={code:=P3.toArray,text:=t,lim:=L,start:=s,lastStart:=L,pc:=10,pos:=s,handed:=s,marks:=#[],seen:=({}:qq).add 14}
noncomputable def S3y (t:Array Nat)(L s:Nat):Sre.M:={code:=P3.toArray,text:=t,lim:=L,start:=s,pc:=10,pos:=s,handed:=s,marks:=#[],answer:=some false,seen:=({}:qq).add 14}
theorem a2U:kT P3.toArray t 0 s L false=if(decide (s>L)||decide (L - s<1))=true then S3y t L s else C7 (M3 t L s) s true:=by kernel_rfl
theorem a2z:((kT P3.toArray t 0 L L false).runFor 1).outcome=some .failed:=by
 rw[a2U,decide_eq_true (show L - L<1 from by rw[Sk];exact OF),Sl];kernel_rfl
theorem rJ (hs:s<L):kT P3.toArray t 0 s L false=C7 (M3 t L s) s true:=by
 rw[a2U,decide_eq_false (ow.mpr (fz hs)),decide_eq_false (ow.mpr (A4 hs))];rfl
theorem Fq (m:Sre.M)(hc:m.code=P3.toArray):m.hasFirstSet=true:=by
 unfold Sre.M.hasFirstSet;exact hc▸rfl
theorem I9 (hs:s<L)(h:∀j,s≤j→j<L→¬End t j):((kT P3.toArray t 0 s L false).runFor 1).outcome=some .failed:=by
 rw[rJ hs]
 unfold C7
 rw[Fq _ rfl]
 obtain ⟨seen',e⟩:=(iI (M3 t L s) rfl rfl rfl (L+1 - s) s (M3 t L s).seen (gz _) (fz hs) L (fz hs) (gz _) h).1 rfl
 simp only[xB,fh,if_false]
 rw[show(M3 t L s).lim=L from rfl,e]
 rfl
theorem Ek {a:Nat}(hs:s≤a)(ha:a<L)(he:End t a)(h:∀j,s≤j→j<a→¬End t j):∃seen,kT P3.toArray t 0 s L false=S3 t L a seen:=by
 rw[rJ (by exact TP hs ha)]
 unfold C7
 rw[Fq _ rfl]
 have hsL:s≤L:=by exact Tn hs ha
 have haL:a≤L:=by exact Le ha
 obtain ⟨seen',e⟩:=(iI (M3 t L s) rfl rfl rfl (L+1 - s) s (M3 t L s).seen (gz _) hsL a hs haL h).2 ha he
 simp only[xB,fh,if_false]
 rw[show(M3 t L s).lim=L from rfl,e]
 exact⟨seen',by kernel_rfl⟩
end
noncomputable def endAt (x:Str)(a:Nat):Nat:=if x.cps[a]?.getD 0=13∧a+1<x.length∧x.cps[a+1]?.getD 0=10 then a+2 else a+1
theorem tE {x:Str}{s:Nat}(hs:s≤x.length)(h:∀j,s≤j→j<x.length→¬End x.cps j):qd P3 x s false none:=by
 rcases oi hs with e|hlt
 ·rw[e];exact⟨1,by exact a1V,a2z⟩
 ·exact⟨1,by exact a1V,I9 hlt h⟩
theorem tG {x:Str}{s a:Nat}(hs:s≤a)(ha:a<x.length)(hd:End x.cps a)(h:∀j,s≤j→j<a→¬End x.cps j):qd P3 x s false (some (a,endAt x a)):=by
 obtain ⟨seen,e⟩:=Ek (t:=x.cps) (L:=x.length) hs ha hd h
 unfold qd
 rw[e]
 unfold endAt
 rcases hd with hd|hd
 ·rw[if_neg (by rw[hd];exact Vy)]
  exact⟨9,by exact a4e,I8 ha hd⟩
 ·by_cases h2:a+1<x.length
  ·by_cases h3:x.cps[a+1]?.getD 0=10
   ·rw[if_pos ⟨hd,h2,h3⟩]
    exact⟨8,by exact a3Z,I7 h2 hd h3⟩
   ·rw[if_neg (fun q=>h3 q.2.2)]
    exact⟨15,by exact a2L,Am ha hd (.inr h3)⟩
  ·rw[if_neg (fun q=>h2 q.2.1)]
   exact⟨15,by exact a2L,Am ha hd (.inl (ow.mp h2))⟩
end
section
noncomputable def YT:Bool→List Nat→List Nat
 |_,[]=>[]
 |b,c::r=>if b=true∧c=10 then YT false r else if c=10 then 13::10::YT false r else if c=13 then 13::10::YT true r else c::YT false r
noncomputable def crlf (l:List Nat):List Nat:=YT false l
noncomputable def YQ:Bool→List Nat→List Nat
 |_,[]=>[]
 |b,c::r=>if b=true∧c=46 then 46::46::YQ false r else c::YQ (c==10) r
noncomputable def sr (l:List Str):List Nat:=l.flatMap (fun x=>x.cps.toList)
theorem pA {P:Nat→Prop}(L:Nat):∀(k s:Nat),s+k=L→∃a,s≤a∧a≤L∧(∀j,s≤j→j<a→¬P j)∧(a=L∨P a)
 | 0,s,h=>⟨s,gz _,by exact Uz h,fun j h1 h2=>by exact(SQ h h1 h2).elim,.inl (by exact DQ h)⟩
 |k+1,s,h=>by
  by_cases p:P s
  ·exact⟨s,gz _,by exact Ln h,fun j h1 h2=>by exact(RQ h h1 h2).elim,.inr p⟩
  ·obtain ⟨a,h1,h2,h3,h4⟩:=pA (P:=P) L k (s+1) (by exact M4 h)
   exact⟨a,by exact VM h h1,h2,fun j j1 j2=>by
    rcases oi j1 with e|e
    ·exact e▸p
    ·exact h3 j e j2,h4⟩
section
variable {x:Str}
theorem fj {l:List Nat}{s:Nat}(h:s<l.length):l.drop s=l[s]::l.drop (s+1):=AG h
theorem fY (a b:Nat):(iG x a b).cps.toList=(x.cps.toList.drop a).take (b - a):=by
 unfold iG
 simp[Array.toList_extract,List.extract_eq_take_drop]
theorem j8 {s:Nat}(h:s<x.length):x.cps[s]?.getD 0=x.cps.toList[s]'(by simpa [kR] using h):=by
 have:s<x.cps.size:=h
 simp[this]
theorem yE (k:Nat):∀(s a:Nat),s+k=a→a≤x.length→(∀j,s≤j→j<a→¬End x.cps j)→crlf (x.cps.toList.drop s)=(x.cps.toList.drop s).take (a - s)++crlf (x.cps.toList.drop a):=by
 induction k with
 |zero=>
  intro s a h _ _;have:s=a:=by exact DQ h
  subst this;simp
 |succ k ih=>
  intro s a h hL hn
  have hs:s<x.length:=by exact Hv h hL
  have hl:s<x.cps.toList.length:=by simpa [kR] using hs
  have hne:=hn s (gz _) (by exact Hs h)
  unfold End at hne
  rw[j8 hs] at hne
  rw[fj hl,show a - s=(a - (s+1))+1 from by exact Xy h,L5,yk,←ih (s+1) a (by exact M4 h) hL fun j h1 h2=>hn j (by exact VM h h1) h2]
  unfold crlf
  rw[YT,if_neg (by simp),if_neg (fun q=>hne (.inl q)),if_neg (fun q=>hne (.inr q))]
theorem Cu {a:Nat}(ha:a<x.length)(he:End x.cps a):crlf (x.cps.toList.drop a)=[13,10]++crlf (x.cps.toList.drop (endAt x a)):=by
 have hl:a<x.cps.toList.length:=by simpa [kR] using ha
 unfold End at he
 have e0:=j8 (x:=x) ha
 rw[e0] at he
 unfold crlf
 rw[fj hl,YT,if_neg (by simp)]
 rcases he with he|he
 ·rw[show endAt x a=a+1 from by unfold endAt;rw[e0,he];exact if_neg (by exact Vx ha)]
  rw[if_pos he];rfl
 ·rw[if_neg (by rw[he];exact Vz ha),if_pos he]
  by_cases h2:a+1<x.length
  ·have hl2:a+1<x.cps.toList.length:=by simpa [kR] using h2
   have e1:=j8 (x:=x) h2
   by_cases h3:x.cps.toList[a+1]=10
   ·rw[show endAt x a=a+2 from by unfold endAt;rw[e0,e1];exact if_pos ⟨he,h2,h3⟩]
    rw[fj hl2,YT,if_pos ⟨rfl,h3⟩];rfl
   ·rw[show endAt x a=a+1 from by unfold endAt;rw[e0,e1];exact if_neg (fun q=>h3 q.2.2)]
    have key:∀(d:Nat) (r:List Nat),d≠10→YT true (d::r)=YT false (d::r):=fun d r hd=>by
     simp[YT,hd]
    rw[fj hl2,key _ _ h3];rfl
  ·have hd:x.cps.toList.drop (a+1)=[]:=sM (by simp[kR] at h2 ⊢;exact VF h2)
   rw[show endAt x a=a+1 from by unfold endAt;exact if_neg (fun q=>h2 q.2.1),hd];rfl
noncomputable def CRLF:Str:=af "\r\n"
theorem a0r:CRLF.cps.toList=[13,10]:=by decide +kernel
theorem a2W:∀(k s:Nat),x.length - s≤k→s≤x.length→∃rest,G7 P3 x CRLF s false rest∧sr rest=crlf (x.cps.toList.drop s)∧rest.length≤2*(x.length - s)+1
 |k,s,hk,hs=>by
  obtain ⟨a,h1,h2,h3,h4⟩:=pA (P:=fun j=>End x.cps j) x.length (x.length - s) s (by exact KJ hs)
  have skip:=yE (x:=x) (a - s) s a (by exact KJ h1) h2 h3
  rcases h4 with h4|h4
  ·subst h4
   refine⟨_,.stop (tE hs h3),?_,?_⟩
   ·rw[skip,show x.cps.toList.drop x.length=[] from sM (by simp[kR])]
    by_cases hlt:s<x.length
    ·rw[if_pos hlt];simp[sr,fY,crlf,YT]
    ·rw[if_neg hlt,show x.length - s=0 from by exact RC hs hlt];simp[sr,crlf,YT]
   ·split<;>simp
  ·rcases oi h2 with e|hlt
   ·exfalso
    subst e
    unfold End at h4
    simp[kR] at h4
   ·have hb:a<endAt x a∧endAt x a≤x.length:=by
     unfold endAt;split<;>(first|exact Ra (by assumption)|exact RM hlt)
    match k,hk with
    | 0,hk=>exact(WD hs h1 hlt hk).elim
    |k+1,hk=>
     obtain ⟨rest,r1,r2,r3⟩:=a2W k (endAt x a) (by exact Ye hs h1 hb hk) hb.2
     refine⟨_,.turn (tG h1 hlt h4 h3) (by rw[show(endAt x a==a)=false from by simp;exact Tc hb];exact r1),?_,?_⟩
     ·rw[skip,Cu hlt h4,←r2]
      unfold sr
      rw[pT,fk,a0r]
      congr 1
      split
      ·simp[fY]
      ·rw[show a - s=0 from by exact RC h1 (by assumption)];simp
     ·have:(if s<a then [iG x s a] else []).length≤1:=by split<;>simp
      rw[fm,i9]
      exact XK hs h1 hb r3 this
theorem yK (k:Nat):∀(s a:Nat),s+k=a→a≤x.length→(∀j,s≤j→j<a→¬Dot x.cps j)→∀b,(b=true↔cX x.cps s)→
  ∃b',(b'=true↔cX x.cps a)∧YQ b (x.cps.toList.drop s)=(x.cps.toList.drop s).take (a - s)++YQ b' (x.cps.toList.drop a):=by
 induction k with
 |zero=>
  intro s a h _ _ b hb;have:s=a:=by exact DQ h
  subst this;exact⟨b,hb,by simp⟩
 |succ k ih=>
  intro s a h hL hn b hb
  have hs:s<x.length:=by exact Hv h hL
  have hl:s<x.cps.toList.length:=by simpa [kR] using hs
  have hne:=hn s (gz _) (by exact Hs h)
  unfold Dot at hne
  have e0:=j8 (x:=x) hs
  rw[e0] at hne
  have hb2:((x.cps.toList[s]==10)=true↔cX x.cps (s+1)):=by
   unfold cX
   rw[show s+1 - 1=s from by exact Pr h hs,e0]
   simp
  obtain ⟨b',hb',e⟩:=ih (s+1) a (by exact Rp h hs) hL (fun j h1 h2=>hn j (by exact QV h hs h1) h2) _ hb2
  refine⟨b',hb',?_⟩
  rw[fj hl,show a - s=(a - (s+1))+1 from by exact Xq h hs,L5,yk,←e,YQ,if_neg (fun q=>hne ⟨hb.mp q.1,q.2⟩)]
noncomputable def DD:Str:=af ".."
theorem a3f:DD.cps.toList=[46,46]:=by decide +kernel
theorem MJ (hsz:x.length≤16777216):∀(k s:Nat),x.length - s≤k→s≤x.length→∀b,(b=true↔cX x.cps s)→∃rest,G7 P2 x DD s false rest∧sr rest=YQ b (x.cps.toList.drop s)∧rest.length≤2*(x.length - s)+1
 |k,s,hk,hs,b,hb=>by
  obtain ⟨a,h1,h2,h3,h4⟩:=pA (P:=fun j=>Dot x.cps j) x.length (x.length - s) s (by exact KJ hs)
  obtain ⟨b',hb',skip⟩:=yK (x:=x) (a - s) s a (by exact KJ h1) h2 h3 b hb
  rcases h4 with h4|h4
  ·subst h4
   refine⟨_,.stop (tB hsz hs h3),?_,?_⟩
   ·rw[skip,show x.cps.toList.drop x.length=[] from sM (by simp[kR])]
    have hd0:YQ b' []=[]:=by cases b'<;>rfl
    rw[hd0]
    by_cases hlt:s<x.length
    ·rw[if_pos hlt];simp[sr,fY]
    ·rw[if_neg hlt,show x.length - s=0 from by exact RC hs hlt];simp[sr]
   ·split<;>simp
  ·rcases oi h2 with e|hlt
   ·exfalso
    subst e
    unfold Dot at h4
    simp[kR] at h4
   ·have hl:a<x.cps.toList.length:=by simpa [kR] using hlt
    have e0:=j8 (x:=x) hlt
    have hd:=h4.2
    rw[e0] at hd
    match k,hk with
    | 0,hk=>exact(WD hs h1 hlt hk).elim
    |k+1,hk=>
     have hb2:(false=true↔cX x.cps (a+1)):=by
      unfold cX
      rw[show a+1 - 1=a from by exact PK hlt,e0,hd]
      simp
     obtain ⟨rest,r1,r2,r3⟩:=MJ hsz k (a+1) (by exact Wz hs h1 hlt hk) (by exact Te hlt) false hb2
     refine⟨_,.turn (tD hsz h1 hlt h4 h3) (by rw[show(a+1==a)=false from by simp];exact r1),?_,?_⟩
     ·have hdt:YQ b' (x.cps.toList.drop a)=46::46::YQ false (x.cps.toList.drop (a+1)):=by
       rw[fj hl,YQ,if_pos ⟨hb'.mpr h4.1,hd⟩]
      rw[skip,hdt,←r2]
      unfold sr
      rw[pT,fk,a3f]
      congr 1
      split
      ·simp[fY]
      ·rw[show a - s=0 from by exact Pg h1 hlt (by assumption)];simp
     ·have:(if s<a then [iG x s a] else []).length≤1:=by split<;>simp
      rw[fm,i9]
      exact XC hs h1 hlt r3 this
end
theorem vq (ys:List Str):(NW Str.empty ys).cps.toList=sr ys:=by
 have key:∀(l:List Str) (acc:Array Nat),(l.foldl (fun acc p=>acc++Str.empty.cps++p.cps) acc).toList=acc.toList++sr l:=by
  intro l
  induction l with
  |nil=>intro acc;simp[sr]
  |cons y l ih=>intro acc;rw[B6,ih];simp[sr,Str.empty]
 cases ys with
 |nil=>rfl
 |cons y l=>
  show(List.foldl (fun acc p=>acc++Str.empty.cps++p.cps) y.cps l).toList=_
  rw[key];simp[sr]
theorem Bg (ys:List Str):(ys.map (fun x=>x.length)).sum=(sr ys).length:=by
 induction ys with
 |nil=>rfl
 |cons y l ih=>first|(simp[sr,kR] at ih ⊢;done)|(simp[sr,kR] at ih ⊢;omega)
theorem a0b:∀(b:Bool) (l:List Nat),(YT b l).length≤2*l.length
 |_,[]=>by simp[YT]
 |b,c::r=>by
  have h1:=a0b false r
  have h2:=a0b true r
  rw[YT]
  split
  ·simp;exact SX h1
  ·split
   ·simp;exact Hp h1
   ·split
    ·simp;exact Hp h2
    ·simp;exact Kw h1
theorem a0c:∀(b:Bool) (l:List Nat),(YQ b l).length≤2*l.length
 |b,[]=>by cases b<;>simp[YQ]
 |b,c::r=>by
  have h1:=a0c false r
  have h2:=a0c (c==10) r
  rw[YQ]
  split
  ·simp;exact Hp h1
  ·simp;exact Kw h2
end
section
noncomputable def oW (x:Str):Str:=⟨(crlf x.cps.toList).toArray⟩
noncomputable def oX (x:Str):Str:=⟨(YQ true x.cps.toList).toArray⟩
noncomputable def onP (d:D)(a:Addr)(r:R):R:=match d with
 | .val (.ref b)=>if b=a then r else none
 |_=>none
theorem pK {d:D}{a:Addr}{f:R}{r:D×List Prop}(h:onP d a f=some r):d=.val (.ref a)∧f=some r:=by
 cases d with
 |val v=>cases v with
  |ref b=>
   have h:(if b=a then f else none)=some r:=h
   split at h
   ·rename_i e;exact⟨by rw[e],h⟩
   ·exact YD h
  |_=>exact YD h
 |_=>exact YD h
noncomputable def Ac (m:Str)(d:D)(ds:List D):R:=
 if m=af "find" then d.onS fun x=>on1 ds fun y=>y.onS fun y=>some (.int (DS x y),[])
 else if m=af "index" then d.onL fun l=>on1 ds fun x=>x.onS fun x=>some (.int (bQ x l),[Z2 l,bQ x l<l.length,l.length≤sizeLine])
 else if m=af "search" then onP d 78 (on1 ds fun x=>x.onS fun x=>some (.mat (dW P1 x 100000==some true),[x.length≤sizeLine,(dW P1 x 100000).isSome=true]))
 else if m=af "sub" then on2 ds fun r x=>ss r x fun r x=>orE (onP d 144 (if r=CRLF then some (.str (oW x),[x.length≤1000000]) else none)) (onP d 139 (if r=DD then some (.str (oX x),[x.length≤1000000]) else none))
 else none
section
variable {w:gp}{k:Nat}{A:Around}{X X':Addr→Prop}{env:UI}{sc:Scope}{ρ:Yx}{s:aE}
theorem jx {o:Str}{p apos pos:UK}{m:Str}{es:List PySem.Expr}{a:Addr}{code:List Nat}{d:D}{ds:List D}{id:String}(cx:Cx w k A X env sc ρ s)(hp:gn X s.heap a code)(he:aV w A X (ku (.Name o p) env) (.val (.ref a)) s)(ha:bO w A X es env ds s)
  (hpl:∀e∈es,isStarred e=false) (hnil:es=[]→ds=[]) (hline:(apos.endLine==pos.line)=true) (hfew:es.length<30) (slot:Slot "re.Pattern" m id) (hty:JE (.builtin id)=AS (.type "method_descriptor"))
  (h:∀s' vs,Pu s s'→aX w s'.heap X ds vs→Ev w A X (call (.builtin id) (.ref a::vs)) d s') :
  aV w A X (ku (.Call (.Attribute (.Name o p) m apos) es [] pos) env) d s:=by
 intro s' u Q E hQ
 refine k9 rfl ?_ hline ((he.pu u).now _ _ fun v s1 u1 r1=>?_)
 ·exact tV hpl hfew
 ·subst r1
  have hp1:=hp.up ((u.trans u1).up cx.Yz.pt)
  obtain ⟨ob,fs,tt,items,n,nx,h1,h2,h3⟩:=hp1
  refine⟨"re.Pattern",id,a0z,slot,hty,⟨ob,h1,h2⟩,fun b e=>by cases e;exact⟨ob,h1,h3⟩,iL (YH hpl) (bc ha hpl hnil s1 (u.trans u1) _ _ fun vs s2 u2 r2=>?_)⟩
  exact h s2 vs (u.trans (u1.trans u2)) r2 _ _ fun v' s3 u3 r3=>hQ _ _ (u1.trans (u2.trans u3)) r3
theorem Bd {x:Str}{t rt:UN}(hX:Z6 X s)(hp:gn X s.heap 144 P3)(hsz:x.length≤1000000):Ev w A X (call (.builtin "re.Pattern.sub") [.ref 144,.str CRLF rt,.str x t]) (.str (oW x)) s:=by
 obtain ⟨rest,h1,h2,h3⟩:=a2W (x:=x) x.length 0 (by exact Ku hsz) (by exact Lg hsz)
 have e:NW Str.empty rest=oW x:=CC (by unfold oW;rw[←yv,vq,h2];simp)
 rw[←e]
 refine vW hX hp (by rw[c9];exact Hz hsz) (by decide +kernel) h1 ?_ (by rw[c9];exact WF hsz h3)
 rw[Bg,h2]
 have:=a0b false x.cps.toList
 simp[crlf,kR] at this hsz ⊢
 exact Kp hsz this
theorem Bc {x:Str}{t rt:UN}(hX:Z6 X s)(hp:gn X s.heap 139 P2)(hsz:x.length≤1000000):Ev w A X (call (.builtin "re.Pattern.sub") [.ref 139,.str DD rt,.str x t]) (.str (oX x)) s:=by
 obtain ⟨rest,h1,h2,h3⟩:=MJ (x:=x) (by exact Hz hsz) x.length 0 (by exact Ku hsz) (by exact Lg hsz) true (by simp[cX])
 have e:NW Str.empty rest=oX x:=CC (by unfold oX;rw[←yv,vq,h2];simp)
 rw[←e]
 refine vW hX hp (by rw[c9];exact Hz hsz) (by decide +kernel) h1 ?_ (by rw[c9];exact WF hsz h3)
 rw[Bg,h2]
 have:=a0c true x.cps.toList
 simp[kR] at this hsz ⊢
 exact Kp hsz this
noncomputable def base0:Hooks:=⟨fun Z Z=>none,Ac,Aa⟩
theorem Ca {m:Str}{a:D}{ds:List D}{d:D}{cs:List Prop}(h:Ac m a ds=some (d,cs))(hc:AllP cs){o:Str}{p apos pos:UK}{args:List PySem.Expr}(cx:Cx w k A X env sc ρ s)(he:aV w A X (ku (.Name o p) env) a s)(ha:bO w A X args env ds s)
  (hpl:∀e∈args,isStarred e=false) (hline:(apos.endLine==pos.line)=true) (hfew:args.length<30) (hlen:ds.length=args.length):aV w A X (ku (.Call (.Attribute (.Name o p) m apos) args [] pos) env) d s:=by
 have hnil:args=[]→ds=[]:=fun e=>by subst e;exact oj.mp hlen
 have hne:∀{x:D} {l:List D},ds=x::l→args≠[]:=fun e q=>by rw[hnil q] at e;cases e
 unfold Ac at h
 split at h
 ·rename_i e
  subst e
  replace h:=bW h;obtain ⟨x,rfl,h⟩:=h
  replace h:=dI h;obtain ⟨y,rfl,h⟩:=h
  replace h:=bW h;obtain ⟨y,rfl,h⟩:=h
  obtain ⟨rfl,_⟩:=dQ (aI h)
  exact GR cx he ha hpl hline hfew (hne rfl)
 split at h
 ·rename_i e
  subst e
  replace h:=cC h;obtain ⟨x,rfl,h⟩:=h
  replace h:=dI h;obtain ⟨y,rfl,h⟩:=h
  replace h:=bW h;obtain ⟨y,rfl,h⟩:=h
  obtain ⟨rfl,rfl⟩:=dQ (aI h)
  exact Di cx he ha hpl hline hfew (hne rfl) hc.1 hc.2.1 hc.2.2.1
 split at h
 ·rename_i e
  subst e
  replace h:=pK h;obtain ⟨rfl,h⟩:=h
  replace h:=dI h;obtain ⟨y,rfl,h⟩:=h
  replace h:=bW h;obtain ⟨y,rfl,h⟩:=h
  obtain ⟨rfl,rfl⟩:=dQ (aI h)
  obtain ⟨b,hb⟩:=qE.mp hc.2.1
  refine jx cx cx.base.p1 he ha hpl hnil hline hfew a0p a1a fun s' vs u r=>?_
  have c':=cx.pu u
  obtain ⟨v,t,rfl,⟨tk,rfl⟩,rfl⟩:=r
  rw[hb,show(some b==some true)=b from by cases b<;>rfl]
  exact uC c'.Yz c'.base.p1 hc.1 (by decide) hb
 split at h
 ·rename_i e
  subst e
  replace h:=eH h;obtain ⟨x,y,rfl,h⟩:=h
  replace h:=jA h;obtain ⟨x,y,rfl,rfl,h⟩:=h
  replace h:=bF h;rcases h with h|h
  ·replace h:=pK h;obtain ⟨rfl,h⟩:=h
   split at h
   ·rename_i e
    subst e
    cases h
    refine jx cx cx.base.p3 he ha hpl hnil hline hfew a0i a1b fun s' vs u r=>?_
    obtain ⟨v,t,rfl,⟨tk,rfl⟩,v2,t2,rfl,⟨tk2,rfl⟩,rfl⟩:=r
    exact Bd (cx.pu u).Yz (cx.pu u).base.p3 hc.1
   ·exact YD h
  ·replace h:=pK h;obtain ⟨rfl,h⟩:=h
   split at h
   ·rename_i e
    subst e
    cases h
    refine jx cx cx.base.p2 he ha hpl hnil hline hfew a0i a1b fun s' vs u r=>?_
    obtain ⟨v,t,rfl,⟨tk,rfl⟩,v2,t2,rfl,⟨tk2,rfl⟩,rfl⟩:=r
    exact Bc (cx.pu u).Yz (cx.pu u).base.p2 hc.1
   ·exact YD h
 ·exact YD h
theorem Cd (w:gp):au w base0 0 where
 fn:=fun f ds d cs Z h=>by exact YD h
 bi:=fun id ds d cs h hc A X s vs hA hX hB r=>Ab id ds d cs h hc hA hX r
 me:=fun m a ds d cs h hc A X env sc ρ s cx o p args apos pos he ha hpl hline hfew hlen=>Ca h hc cx he ha hpl hline hfew hlen
noncomputable def Hooks.add (c:Hooks)(a:Addr)(form:List D→R):Hooks:={c with fn:=fun f ds=>if f=a then form ds else c.fn f ds}
theorem au.add {c:Hooks}{K:Nat}(H:au w c K)(a:Addr)(form:List D→R)
  (ok:∀ds d cs,form ds=some (d,cs)→AllP cs→∀A X s vs,Zv (K+1) A→Z6 X s→Base w X s.heap→aX w s.heap X ds vs→Ev w A X (call (.ref a) vs) d s):au w (c.add a form) (K+1) where
 fn:=fun f ds d cs hf h hc A X s vs hA hX hB r=>by
  unfold Hooks.add at h
  simp only at h
  split at h
  ·rename_i e
   subst e
   exact ok ds d cs h hc A X s vs hA hX hB r
  ·exact H.fn f ds d cs hf h hc A X s vs (hA.mono (by exact xd)) hX hB r
 bi:=fun id ds d cs h hc A X s vs hA=>H.bi id ds d cs h hc A X s vs (hA.mono (by exact xd))
 me:=fun m a ds d cs h hc A X env sc ρ s cx=>H.me m a ds d cs h hc A X env sc ρ s ⟨cx.a.mono (by exact xd),cx.Yz,cx.base,cx.vis⟩
end
end
section
noncomputable def NZ (n:String):Arguments×List Stmt×Scope:=(Ju (af n) PW.main.body).getD nE
noncomputable def bU (n:String):Arguments:=(NZ n).1
noncomputable def dZ (n:String):List Stmt:=(NZ n).2.1
noncomputable def cF (n:String):Scope:=(NZ n).2.2
noncomputable def psN (n:String):List Str:=(bU n).args.map (fun x=>x.arg)
theorem fQ {fd:FuncData}{n:String}(h1:fd.params=bU n)(h2:fd.defaults=.none)(h3:fd.kwdefaults=.none){vs:List bX}
  (h:∀fd:FuncData,NV {fd with params:=bU n,defaults:=.none,kwdefaults:=.none} ⟨vs,[]⟩=AS ((psN n).zip vs)):NV fd ⟨vs,[]⟩=AS ((psN n).zip vs):=by
 have:=h fd
 cases fd
 simp only at h1 h2 h3
 subst h1 h2 h3
 exact this
section
variable {w:gp}{k:Nat}
theorem au.addFn {c:Hooks}{K:Nat}(H:au w c K){a:Addr}{n:String}(hf:Zd.lookup a=some (bU n,dZ n,cF n))(hs:W3 (cF n) (psN n)=true)
  (hbind:∀(fd:FuncData) (vs:List bX),vs.length=(psN n).length→NV {fd with params:=bU n,defaults:=.none,kwdefaults:=.none} ⟨vs,[]⟩=AS ((psN n).zip vs)) (form:List D→R) (fuel:Nat)
  (ok:∀ds d cs,form ds=some (d,cs)→AllP cs→ds.length=(psN n).length∧pws c fuel (dZ n) (cF n) ((psN n).zip ds) (fun Z=>d=.none) (fun d'=>d'=d)):au w (c.add a form) (K+1):=
 H.add a form fun ds d cs h hc A X s vs hA hX hB r Q E hQ=>by
  obtain ⟨h1,h2⟩:=ok ds d cs h hc
  have hl:=r.length
  refine yh H hA hX hB hf hs (fun fd e1 e2 e3=>fQ e1 e2 e3 fun fd=>hbind fd vs (hl.trans h1)) h1 r (fuel:=fuel) (ret:=fun d'=>d'=d) ?_ fun d' v s' e u rr=>hQ v s' u (e▸rr)
  have e:(fun(_:Yx)=>D.none=d)=fun(_:Yx)=>d=.none:=by funext _;exact propext ⟨zk,zk⟩
  exact e▸h2
end
noncomputable def yX (ds:List D):R:=on2 ds fun a b=>ii a b fun a b=>some (.int (kB a b),[])
noncomputable def tO (ds:List D):R:=on2 ds fun a b=>ii a b fun a b=>some (.int (kL a b),[])
noncomputable def tR (ds:List D):R:=on2 ds fun a b=>ii a b fun a n=>some (.int (a*2 ^ n.toNat),[0≤n∧n≤1000000∧a.natAbs<2 ^ 64])
noncomputable def tU (ds:List D):R:=on2 ds fun a b=>ii a b fun a n=>some (.int (a.fdiv (2 ^ n.toNat)),[0≤n])
noncomputable def tQ (ds:List D):R:=on1 ds fun a=>a.onI fun a=>some (.int (gT a),[])
noncomputable def tM (ds:List D):R:=on2 ds fun a b=>ss a b fun a b=>some (.str (a++b),[a.length+b.length≤sizeLine])
noncomputable def lO (ds:List D):R:=on1 ds fun a=>a.onS fun a=>some (.str (oX (oW a)),[a.length≤500000])
theorem j9 {ds:List D}{f:Int→Int→R}{r:D×List Prop}(h:(on2 ds fun a b=>ii a b f)=some r):∃x y,ds=[.int x,.int y]∧f x y=some r:=by
 replace h:=eH h;obtain ⟨a,b,rfl,h⟩:=h
 replace h:=cz h;obtain ⟨x,y,rfl,rfl,h⟩:=h
 exact⟨x,y,rfl,h⟩
theorem uB {ds:List D}{f:Str→R}{r:D×List Prop}(h:(on1 ds fun a=>a.onS f)=some r):∃x,ds=[.str x]∧f x=some r:=by
 replace h:=dI h;obtain ⟨a,rfl,h⟩:=h
 replace h:=bW h;obtain ⟨x,rfl,h⟩:=h
 exact⟨x,rfl,h⟩
section
variable {w:gp}{c:Hooks}{K:Nat}
theorem JQ (H:au w c K):au w (c.add 127 yX) (K+1):=by
 refine H.addFn (n:="ior") (by kernel_rfl) (by decide +kernel) (fun fd vs hl=>?_) yX 0 fun ds d cs h hc=>?_
 ·obtain ⟨a,b,rfl⟩:=xM hl;rfl
 ·replace h:=j9 h;obtain ⟨x,y,rfl,h⟩:=h
  obtain ⟨rfl,_⟩:=dQ (aI h)
  exact⟨by rfl,av trivial (av trivial rfl)⟩
theorem Hk (H:au w c K):au w (c.add 113 tO) (K+1):=by
 refine H.addFn (n:="iand") (by kernel_rfl) (by decide +kernel) (fun fd vs hl=>?_) tO 0 fun ds d cs h hc=>?_
 ·obtain ⟨a,b,rfl⟩:=xM hl;rfl
 ·replace h:=j9 h;obtain ⟨x,y,rfl,h⟩:=h
  obtain ⟨rfl,_⟩:=dQ (aI h)
  exact⟨by rfl,av trivial (av trivial rfl)⟩
theorem Hl (H:au w c K):au w (c.add 120 tR) (K+1):=by
 refine H.addFn (n:="ilshift") (by kernel_rfl) (by decide +kernel) (fun fd vs hl=>?_) tR 0 fun ds d cs h hc=>?_
 ·obtain ⟨a,b,rfl⟩:=xM hl;rfl
 ·replace h:=j9 h;obtain ⟨x,y,rfl,h⟩:=h
  obtain ⟨rfl,rfl⟩:=dQ (aI h)
  exact⟨by rfl,av ⟨hc.1,trivial⟩ (av trivial rfl)⟩
theorem Hm (H:au w c K):au w (c.add 134 tU) (K+1):=by
 refine H.addFn (n:="irshift") (by kernel_rfl) (by decide +kernel) (fun fd vs hl=>?_) tU 0 fun ds d cs h hc=>?_
 ·obtain ⟨a,b,rfl⟩:=xM hl;rfl
 ·replace h:=j9 h;obtain ⟨x,y,rfl,h⟩:=h
  obtain ⟨rfl,rfl⟩:=dQ (aI h)
  exact⟨by rfl,av ⟨hc.1,trivial⟩ (av trivial rfl)⟩
theorem JP (H:au w c K):au w (c.add 99 tQ) (K+1):=by
 refine H.addFn (n:="inv") (by kernel_rfl) (by decide +kernel) (fun fd vs hl=>?_) tQ 0 fun ds d cs h hc=>?_
 ·obtain ⟨a,rfl⟩:=Hf hl;rfl
 ·replace h:=dI h;obtain ⟨a,rfl,h⟩:=h
  replace h:=cj h;obtain ⟨x,rfl,h⟩:=h
  obtain ⟨rfl,_⟩:=dQ (aI h)
  exact⟨by rfl,av trivial rfl⟩
theorem Hj (H:au w c K):au w (c.add 106 tM) (K+1):=by
 refine H.addFn (n:="iadd") (by kernel_rfl) (by decide +kernel) (fun fd vs hl=>?_) tM 0 fun ds d cs h hc=>?_
 ·obtain ⟨a,b,rfl⟩:=xM hl;rfl
 ·replace h:=eH h;obtain ⟨a,b,rfl,h⟩:=h
  replace h:=jA h;obtain ⟨x,y,rfl,rfl,h⟩:=h
  obtain ⟨rfl,rfl⟩:=dQ (aI h)
  exact⟨by rfl,av ⟨hc.1,trivial⟩ (av trivial rfl)⟩
theorem yz (x:Str):(oW x).length≤2*x.length:=by
 have:=a0b false x.cps.toList
 unfold oW crlf kR;simpa using this
theorem Jm (x:Str):(oX x).length≤2*x.length:=by
 have:=a0c true x.cps.toList
 unfold oX kR;simpa using this
end
end
section
theorem kW {t:PySem.Expr}{B:Yx→(Yx→Prop)→Prop}{post:Yx→Prop}(I:List D→Yx→Prop)(h0:∀ρ,I [] ρ→post ρ)
  (hs:∀d l ρ (kk:Yx→Prop),(∀ρ,I l ρ→kk ρ)→I (d::l) ρ→∃YL,cZ t d ρ=some YL∧B YL (fun Zq=>∃Zu,Sub Zu Zq∧kk Zu)):∀(l:List D) (ρ:Yx),I l ρ→FN t B l ρ post
 | [],ρ,h=>h0 _ h
 |d::l,ρ,h=>by
  obtain ⟨YL,h1,h2⟩:=hs d l ρ _ (fun ρ h=>kW I h0 hs l ρ h) h
  show(match cZ t d ρ with
   |some YL=>B YL fun Zq=>∃Zu,Sub Zu Zq∧FN t B l Zu post
   |none=>False)
  rw[h1]
  exact h2
noncomputable def lM (ds:List D):R:=on1 ds fun a=>a.onD fun ks vs=>some (.int (Za vs),[AllInt vs])
section
variable {w:gp}{c:Hooks}{K:Nat}
theorem Dw (H:au w c K):au w (c.add 73 lM) (K+1):=by
 refine H.addFn (n:="count_calls") (by kernel_rfl) (by decide +kernel) (fun fd vs hl=>?_) lM 0 fun ds d cs h hc=>?_
 ·obtain ⟨a,rfl⟩:=Hf hl;rfl
 ·replace h:=dI h;obtain ⟨a,rfl,h⟩:=h
  replace h:=gZ h;obtain ⟨ks,vs,rfl,h⟩:=h
  ·obtain ⟨rfl,rfl⟩:=dQ (aI h)
   refine⟨by rfl,av trivial (av trivial (av (.inl rfl) ?_))⟩
   refine kW (fun l ρ=>∃acc ρ0,ρ=(af "nc",.int acc)::ρ0∧acc+Za l=Za vs∧AllInt l) ?_ ?_ _ _ ⟨0,_,rfl,by simp,hc.1⟩
   ·rintro ρ ⟨acc,ρ0,rfl,e,_⟩
    have e:acc=Za vs:=by simpa [Za] using e
    subst e
    exact av trivial rfl
   ·rintro d l ρ kk hk ⟨acc,ρ0,rfl,e,⟨i,rfl⟩,hl⟩
    refine⟨_,rfl,?_⟩
    refine av trivial ⟨_,.refl,hk _ ⟨acc+i,_,rfl,?_,hl⟩⟩
    simp only[Za,D.toInt] at e ⊢
    exact Rj e
end
end
section
section
variable {w:gp}{k:Nat}{A:Around}{X X':Addr→Prop}{env:UI}{sc:Scope}{ρ:Yx}{s:aE}
theorem wH {o:Str}{p apos pos:UK}{es:List PySem.Expr}{sel d:D}{ds:List D}(cx:Cx w k A X env sc ρ s)(he:aV w A X (ku (.Name o p) env) (.order sel) s)(ha:bO w A X es env ds s)
  (hpl:∀e∈es,isStarred e=false) (hnil:es=[]→ds=[]) (hline:(apos.endLine==pos.line)=true) (hfew:es.length<30)
  (h:∀s' vs,Pu s s'→aX w s'.heap X (.order sel::ds) vs→Ev w A X (call (.ref 52) vs) d s') :
  aV w A X (ku (.Call (.Attribute (.Name o p) (af "compare") apos) es [] pos) env) d s:=by
 intro s' u Q E hQ
 have hpos:methodCallPos true (.Name o p) env apos pos=AS pos:=by unfold methodCallPos;simp[hline]
 have e:ku (.Call (.Attribute (.Name o p) (af "compare") apos) es [] pos) env=(do
   let ov←ku (.Name o p) env
   GV apos.atName
   methodCall (.Name o p) (af "compare") apos pos env ov (es.length+([]:List Keyword).length) (FU pos (zS es env)) (backToKw pos (keywordEach [] env))):=rfl
 rw[e]
 refine ah ((he.pu u).now _ _ fun v s1 u1 r1=>ah (pV ?_))
 have r1':=r1
 obtain ⟨a,x,rfl,⟨ox,dx,ens,n,h1,h2,h3,h4,h5,h6,h7,h8,h9,h10⟩,rs⟩:=r1
 have c1:=cx.pu (u.trans u1)
 obtain ⟨K,FK,KI,_⟩:=c1.base.a0s
 have I:Pc s1.heap a ox 55 (some (QY ens n)):=⟨h1,h2,h3,by rw[h4];exact h7⟩
 unfold methodCall
 rw[tV hpl hfew]
 refine ah (fT (method_fn KI I (OE FK.g55).1 (OE FK.g55).2 FK.c55 (beq_iff_eq.mp FK.f52) (by show(lookIn _ (QY ens n)).map _=_;rw[lookIn_dict,h9];rfl) ?_))
 refine ah (C5 hpos ?_)
 obtain ⟨o2,fd,f1,f2,f3⟩:=(cx.base.fns 52 _ (show Zd.lookup 52=some (bU "compare",dZ "compare",cF "compare") from by kernel_rfl)).here
 have hne:(52:Addr)≠PT:=by decide
 refine BH (bc ha hpl hnil s1 (u.trans u1) _ _ fun vs s2 u2 r2=>⟨⟨(u.trans (u1.trans u2)).heap _ _ f1 hne,f3⟩,?_⟩)
 exact h s2 (.ref a::vs) (u.trans (u1.trans u2)) (.cons (r1'.up (u2.up cx.Yz.pt) _ _) r2) _ _ fun v' s3 u3 r3=>hQ _ _ (u1.trans (u2.trans u3)) r3
end
end
section
noncomputable def su (w0 w1 n1 c1 n2 c2:Int):Int:=if c1<c2 then -w0 else if c1>c2 then w0 else if n1<n2 then -w1 else if n1>n2 then w1 else 0
noncomputable def iiT (d:D)(f:Int→Int→R):R:=d.onT fun l=>on2 l fun a b=>ii a b f
theorem kE {d:D}{f:Int→Int→R}{r:D×List Prop}(h:iiT d f=some r):∃x y,d=.tup [.int x,.int y]∧f x y=some r:=by
 replace h:=kJ h;obtain ⟨l,rfl,h⟩:=h
 replace h:=j9 h;obtain ⟨x,y,rfl,h⟩:=h
 exact⟨x,y,rfl,h⟩
noncomputable def iM (a:D)(ds:List D):R:=a.onL fun l=>on2 l fun p q=>iiT p fun i w0=>iiT q fun j w1=>if i=1 then if j=0 then on2 ds fun x y=>iiT x fun n1 c1=>iiT y fun n2 c2=>some (.int (su w0 w1 n1 c1 n2 c2),[]) else none else none
theorem jX {a:D}{ds:List D}{r:D×List Prop}(h:iM a ds=some r):∃w0 w1 n1 c1 n2 c2,a=.lst [.tup [.int 1,.int w0],.tup [.int 0,.int w1]]∧ds=[.tup [.int n1,.int c1],.tup [.int n2,.int c2]]∧r=(.int (su w0 w1 n1 c1 n2 c2),[]):=by
 replace h:=cC h;obtain ⟨l,rfl,h⟩:=h
 replace h:=eH h;obtain ⟨p,q,rfl,h⟩:=h
 replace h:=kE h;obtain ⟨i,w0,rfl,h⟩:=h
 replace h:=kE h;obtain ⟨j,w1,rfl,h⟩:=h
 split at h
 ·rename_i e
  subst e
  split at h
  ·rename_i e
   subst e
   replace h:=eH h;obtain ⟨x,y,rfl,h⟩:=h
   replace h:=kE h;obtain ⟨n1,c1,rfl,h⟩:=h
   replace h:=kE h;obtain ⟨n2,c2,rfl,h⟩:=h
   obtain rfl:=aI h
   exact⟨_,_,_,_,_,_,rfl,rfl,rfl⟩
  ·exact YD h
 ·exact YD h
noncomputable def onO (d:D)(f:D→R):R:=match d with
 | .order x=>f x
 |_=>none
theorem DW {a:D}{f:D→R}{r:D×List Prop}(h:onO a f=some r):∃x,a=.order x∧f x=some r:=by cases a<;>first|exact⟨_,rfl,h⟩|exact Fw h
noncomputable def Hooks.Zr (c:Hooks):Hooks:={c with me:=fun m a ds=>if m=af "compare" then onO a fun sel=>iM sel ds else c.me m a ds}
section
variable {w:gp}{c:Hooks}{K:Nat}
theorem sX {w0 w1 n1 c1 n2 c2:Int}:pws c 0 (dZ "compare") (cF "compare") ((psN "compare").zip [.order (.lst [.tup [.int 1,.int w0],.tup [.int 0,.int w1]]),.tup [.int n1,.int c1],.tup [.int n2,.int c2]]) (fun Z=>D.none=.int (su w0 w1 n1 c1 n2 c2)) (fun d'=>d'=.int (su w0 w1 n1 c1 n2 c2)):=by
 have sz:(2:Nat)≤sizeLine:=by rw[c9];exact a4m
 refine av trivial (av (.inr (by simp)) ?_)
 refine av ⟨sz,trivial⟩ (av ⟨sz,trivial⟩ (av trivial ⟨fun h=>?_,fun h=>?_⟩))
 ·have h:c1<c2:=of_decide_eq_true h
  exact av trivial (by unfold su;rw[if_pos h])
 have h:¬c1<c2:=of_decide_eq_false h
 refine av trivial ⟨fun h'=>?_,fun h'=>?_⟩
 ·have h':c1>c2:=of_decide_eq_true h'
  exact av trivial (by unfold su;rw[if_neg h,if_pos h'])
 have h':¬c1>c2:=of_decide_eq_false h'
 refine⟨_,.refl,?_⟩
 refine av ⟨sz,trivial⟩ (av ⟨sz,trivial⟩ (av trivial ⟨fun g=>?_,fun g=>?_⟩))
 ·have g:n1<n2:=of_decide_eq_true g
  exact av trivial (by unfold su;rw[if_neg h,if_neg h',if_pos g])
 have g:¬n1<n2:=of_decide_eq_false g
 refine av trivial ⟨fun g'=>?_,fun g'=>?_⟩
 ·have g':n1>n2:=of_decide_eq_true g'
  exact av trivial (by unfold su;rw[if_neg h,if_neg h',if_neg g,if_pos g'])
 have g':¬n1>n2:=of_decide_eq_false g'
 refine⟨_,.refl,?_⟩
 exact av trivial (by unfold su;rw[if_neg h,if_neg h',if_neg g,if_neg g'])
theorem wX (H:au w c K):au w c.Zr (K+1) where
 fn:=fun f ds d cs hf h hc A X s vs hA=>H.fn f ds d cs hf h hc A X s vs (hA.mono (C3 K))
 bi:=fun id ds d cs h hc A X s vs hA=>H.bi id ds d cs h hc A X s vs (hA.mono (C3 K))
 me:=fun m a ds d cs h hc A X env sc ρ s cx o p args apos pos he ha hpl hline hfew hlen=>by
  replace h:(if m=af "compare" then onO a fun sel=>iM sel ds else c.me m a ds)=some (d,cs):=h
  split at h
  ·rename_i hm
   subst hm
   replace h:=DW h;obtain ⟨sel,rfl,h⟩:=h
   replace h:=jX h;obtain ⟨w0,w1,n1,c1,n2,c2,rfl,rfl,h⟩:=h
   cases h
   refine wH cx he ha hpl (fun e=>by subst e;exact oj.mp hlen) hline hfew fun s' vs u r Q E hQ=>?_
   have c':=cx.pu u
   have hl:=r.length
   refine yh H cx.a c'.Yz c'.base (show Zd.lookup 52=some (bU "compare",dZ "compare",cF "compare") from by kernel_rfl) (ps:=psN "compare") (by decide +kernel) (fun fd e1 e2 e3=>fQ e1 e2 e3 fun fd=>?_) (by rfl) r sX fun d' v s'' e u' rr=>hQ v s'' u' (e▸rr)
   obtain ⟨a,b,d,rfl⟩:=Iw hl;rfl
  ·exact H.me m a ds d cs h hc A X env sc ρ s ⟨cx.a.mono (C3 K),cx.Yz,cx.base,cx.vis⟩ o p args apos pos he ha hpl hline hfew hlen
end
end
section
noncomputable def a07:Str:=af "."
noncomputable def Fv (t:Str):Bool:=!(dW P1 t 100000==some true)&&(!decide (t=af "")&&!(decide (strAt t 0=a07)||decide (strAt t (t.length - 1)=a07)))
noncomputable def Df (t:Str):Prop:=t.length≤sizeLine∧(dW P1 t 100000).isSome=true
noncomputable def lN (ds:List D):R:=on1 ds fun a=>a.onS fun t=>some (.bool (Fv t),[Df t])
noncomputable def gG (h:Str):Str:=RO h (some (DS h a07+1)) none
noncomputable def dD (h:Str):Str:=if DS h a07≥0 then if(Fv h&&(decide (DS (gG h) a07≥0)||decide (gG h=af "local")))=true then a07++gG h else h else h
noncomputable def lQ (ds:List D):R:=on1 ds fun a=>a.onS fun t=>some (.str (dD t),[Df t∧1+(gG t).length≤sizeLine])
section
variable {w:gp}{c:Hooks}{K:Nat}
theorem JN (H:au w c K)(hme:c.me=base0.Zr.me):au w (c.add 85 lN) (K+1):=by
 refine H.addFn (n:="is_HDN") (by kernel_rfl) (by decide +kernel) (fun fd vs hl=>?_) lN 0 fun ds d cs h hc=>?_
 ·obtain ⟨a,rfl⟩:=Hf hl;rfl
 ·replace h:=uB h;obtain ⟨t,rfl,h⟩:=h
  ·obtain ⟨rfl,rfl⟩:=dQ (aI h)
   obtain ⟨f,m,b⟩:=c
   subst hme
   have h1:=hc.1
   refine⟨by rfl,av ⟨h1.1,h1.2,trivial⟩ ⟨fun q=>?_,fun q=>?_⟩⟩
   ·exact av trivial (by simp[Fv,q])
   refine av trivial ⟨fun q1=>?_,fun q1=>?_⟩
   ·have q1:decide (t=af "")=true:=q1
    exact av trivial (by simp[Fv,q1])
   have q1:decide (t=af "")=false:=q1
   have hlen:0<t.length:=by
    rcases Nat.eq_zero_or_pos t.length with e|e
    ·exfalso
     have:t=af "":=CC (by have:t.cps=#[]:=qo e;exact this)
     rw[this] at q1
     simp at q1
    ·exact e
   refine av ⟨⟨hlen,h1.1⟩,⟨hlen,h1.1⟩,trivial⟩ ⟨fun q2=>?_,fun q2=>?_⟩
   ·have q2:(decide (strAt t 0=a07)||(decide (strAt t (t.length - 1)=a07)||false))=true:=q2
    rw[CI] at q2
    exact av trivial (by unfold Fv;rw[q2];simp)
   ·have q2:(decide (strAt t 0=a07)||(decide (strAt t (t.length - 1)=a07)||false))=false:=q2
    rw[CI] at q2
    exact av trivial (by unfold Fv;rw[q2,q,q1];simp)
theorem DG (H:au w (c.add 85 lN) K)(hme:c.me=base0.Zr.me):au w ((c.add 85 lN).add 92 lQ) (K+1):=by
 refine H.addFn (n:="reach") (by kernel_rfl) (by decide +kernel) (fun fd vs hl=>?_) lQ 0 fun ds d cs h hc=>?_
 ·obtain ⟨a,rfl⟩:=Hf hl;rfl
 ·replace h:=uB h;obtain ⟨t,rfl,h⟩:=h
  ·obtain ⟨rfl,rfl⟩:=dQ (aI h)
   obtain ⟨f,m,b⟩:=c
   subst hme
   have h1:=hc.1.1
   have h2:=hc.1.2
   refine⟨by rfl,av trivial (av trivial ⟨fun q=>?_,fun q=>?_⟩)⟩
   ·have q:DS t a07≥0:=of_decide_eq_true q
    refine av ⟨h1.1,trivial⟩ (av trivial (av ⟨h1,trivial⟩ ⟨fun q2=>?_,fun q2=>?_⟩))
    ·have q2:(Fv t&&((decide (DS (gG t) a07≥0)||(decide (gG t=af "local")||false))&&true))=true:=q2
     rw[CI,LF] at q2
     refine av ⟨h2,trivial⟩ ?_
     show D.str (a07++gG t)=_
     unfold dD;rw[if_pos q,if_pos q2]
    ·have q2:(Fv t&&((decide (DS (gG t) a07≥0)||(decide (gG t=af "local")||false))&&true))=false:=q2
     rw[CI,LF] at q2
     refine av trivial ?_
     show D.str t=_
     unfold dD;rw[if_pos q,if_neg (by rw[q2];simp)]
   ·have q:¬DS t a07≥0:=of_decide_eq_false q
    refine av trivial ?_
    show D.str t=_
    unfold dD;rw[if_neg q]
end
end
section
section
variable {w:gp}{c:Hooks}{K:Nat}
theorem Dy (H:au w c K)(hme:c.me=base0.Zr.me):au w (c.add 183 lO) (K+1):=by
 refine H.addFn (n:="quotedata") (by kernel_rfl) (by decide +kernel) (fun fd vs hl=>?_) lO 0 fun ds d cs h hc=>?_
 ·obtain ⟨a,rfl⟩:=Hf hl;rfl
 ·replace h:=uB h;obtain ⟨a,rfl,h⟩:=h
  ·obtain ⟨rfl,rfl⟩:=dQ (aI h)
   obtain ⟨f,m,b⟩:=c
   subst hme
   have h1:=hc.1
   have h2:=yz a
   exact⟨by rfl,av ⟨by exact Vq h1,by exact T6 h1 h2,trivial⟩ rfl⟩
end
noncomputable def T1:Hooks:=((((((((((base0.Zr).add 127 yX).add 113 tO).add 120 tR).add 134 tU).add 99 tQ).add 106 tM).add 183 lO).add 73 lM).add 85 lN).add 92 lQ
theorem G8 (w:gp):au w T1 11:=
 DG (JN (Dw (Dy (Hj (JP (Hm (Hl (Hk (JQ (wX (Cd w)))))))) rfl)) rfl) rfl
noncomputable def jR (names:List D):Int→List Str→Int
 |acc,[]=>acc
 |acc,k::ks=>jR names (kB acc (1*2 ^ (bQ k names:Int).toNat)) ks
noncomputable def yZ (ds:List D):R:=on2 ds fun a b=>a.onD fun ks vs=>b.onL fun names=>some (.tup [.int (jR names 0 ks),.int (Za vs)],[Z2 names,names.length≤1000,∀k∈ks,bQ k names<names.length,AllInt vs])
noncomputable def T2:Hooks:=T1.add 197 yZ
theorem BJ (w:gp):au w T2 12:=by
 refine(G8 w).addFn (n:="_law_row") (by kernel_rfl) (by decide +kernel) (fun fd vs hl=>?_) yZ 0 fun ds d cs h hc=>?_
 ·obtain ⟨a,b,rfl⟩:=xM hl;rfl
 ·replace h:=eH h;obtain ⟨a,b,rfl,h⟩:=h
  replace h:=gZ h;obtain ⟨ks,vs,rfl,h⟩:=h
  replace h:=cC h;obtain ⟨names,rfl,h⟩:=h
  ·obtain ⟨rfl,rfl⟩:=dQ (aI h)
   obtain ⟨h1,h2,h3,h4,_⟩:=hc
   refine⟨by rfl,av trivial (av trivial (av (.inl rfl) ?_))⟩
   refine kW (fun l ρ=>∃acc ks',ρ=[(af "number",.int acc),(af "told",.dct ks vs),(af "names",.lst names)]∧l=ks'.map .str∧jR names acc ks'=jR names 0 ks∧∀k∈ks',k∈ks) ?_ ?_ _ _ ⟨0,ks,rfl,rfl,rfl,fun Z h=>h⟩
   ·rintro ρ ⟨acc,ks',rfl,e,er,_⟩
    cases ks' with
    |nil=>
     rw[←er]
     exact av ⟨h4,trivial⟩ rfl
    |cons k ks'=>simp at e
   ·rintro d l ρ kk hkk ⟨acc,ks',rfl,e,er,hk⟩
    cases ks' with
    |nil=>simp at e
    |cons k ks'=>
     rw[dc,BA] at e
     obtain ⟨rfl,rfl⟩:=e
     refine⟨_,rfl,?_⟩
     have hi:=h3 k (hk k ay)
     refine av ⟨h1,hi,by rw[c9];exact LR h2,by exact Q4 h2 hi,trivial⟩ ⟨[(af "number",.int (kB acc (1*2 ^ (bQ k names:Int).toNat))),(af "told",.dct ks vs),(af "names",.lst names)],?_,hkk _ ⟨_,ks',rfl,rfl,er,fun x hx=>hk x (bE _ hx)⟩⟩
     exact Be (fE.mpr ⟨rfl,fE.mpr ⟨rfl,fE.mpr ⟨rfl,fun Z h=>nomatch h⟩⟩⟩)
end
section
end
section
section
variable {w:gp}{k:Nat}{A:Around}{X X':Addr→Prop}{env:UI}{sc:Scope}{ρ ρ':Yx}{s s':aE}{μ ZJ YC YM:YX}
noncomputable def dj (env:UI)(sc:Scope)(as:List Addr)(a:Addr):Prop:=Own env sc a∨a∈as
theorem Mx.a1Y (mx:Mx w k A X env sc ρ μ s){a:Addr}(h:dj env sc (μ.map (fun x=>x.1)) a):X a:=h.elim mx.ZD fun q=>by
 obtain ⟨p,hp,rfl⟩:=eg.mp q;exact mx.mu.x p hp
theorem Mx.a4C (mx:Mx w k A X env sc ρ μ s){a:Addr}(h:dj env sc (μ.map (fun x=>x.1)) a):∃o,s.heap.get? a=some o:=h.elim (fun q=>(mx.cx.places q.pl).2.2) fun q=>by
 obtain ⟨p,hp,rfl⟩:=eg.mp q;exact(mx.mu.at_ p hp).ex
theorem GZ (mx:Mx w k A X env sc ρ μ s){t:PySem.Expr}{tm:UM bX}{body:List Stmt}{l:List D}{Q:zh→aE→Prop}{E:bX→aE→Prop}{as:List Addr}(hm:μ.map (fun x=>x.1)=as)(I:List D→Yx→YX→Prop)
  (ht:bH t sc=true) (src:bk w A X t tm l s) (h0:I l ρ μ) (hI:∀r YL YC,I r YL YC→YC.map (fun x=>x.1)=as)
  (hB:∀{d r YL YC},I (d::r) YL YC→d∈l→gk t d YL fun Zq=>∀X' s1 (Q:zh→aE→Prop) (E:bX→aE→Prop),(∀a,X a→X' a)→Mx w k A X' env sc Zq YC s1→
   (∀Zu μ3 s2,I r Zu μ3→YF (dj env sc as) s1 s2→Mx w k A X' env sc Zu μ3 s2→Q .next s2)→cE (cS PW w) A (oz body env) Q E s1)
  (hQ:∀ρ' ZJ s',I [] ρ' ZJ→YF (dj env sc as) s s'→Mx w k A X env sc ρ' ZJ s'→Q .next s'):cE (cS PW w) A tm (fun x s₁=>cE (cS PW w) A (BQ x) (fun it s₂=>
   A8 (cS PW w) A (.forLoop t it body [] env) (fun r s'=>match r with | .ok f=>Q f s' | .error e=>EJ (cS PW w) A env E e s') s₂) E s₁) E s:=
 tH mx [] (O:=dj env sc as) ht src (fun a h=>.inl h) (fun a h=>mx.a1Y (hm.symm▸h)) (fun a h=>nomatch h) I h0 (fun r YL YC i p hp=>.inr (hI r YL YC i▸i6 hp))
  (fun i hd=>let ⟨Zq,hb,go⟩:=hB i hd;⟨Zq,hb,fun X' s1 C hX Z m hC=>go X' s1 _ _ hX m fun Zu μ3 s2 i p m=>hC Zu μ3 s2 i (.YJ p) m⟩) fun YL YC s1 i p m=>hQ YL YC s1 i p.pub m
theorem range_drop {n i:Nat}{dat:Nat→D}{d:D}{r:List D}(e:d::r=((jI n).map dat).drop i):i<n∧d=dat i∧r=((jI n).map dat).drop (i+1):=by
 rcases MX i n with h|h
 ·have hl:i<((jI n).map dat).length:=by rw[bP,C8];exact h
  rw[AG hl,AM,LW] at e
  exact⟨h,(F8 e).1,(F8 e).2⟩
 ·rw[sM (by rw[bP,C8];exact h)] at e
  cases e
inductive J6 (n:Nat)(dat:Nat→D)(V:Nat→Yx)(M:Nat→YX)(l:List D):Yx→YX→Prop
 |mk (i:Nat) (h:i≤n) (e:l=((jI n).map dat).drop i):J6 n dat V M l (V i) (M i)
theorem J6.fin {n:Nat}{dat:Nat→D}{V:Nat→Yx}{M:Nat→YX}{ρ:Yx}{μ:YX}(x:J6 n dat V M [] ρ μ):ρ=V n∧μ=M n:=by
 obtain ⟨i,h,e⟩:=x
 have:=congrArg CS e
 rw[NL,bP,C8] at this
 obtain rfl:=D4 h (I1 this.symm)
 exact⟨rfl,rfl⟩
theorem yV {n:Nat}{V:Nat→Yx}{M:Nat→YX}(dat:Nat→D)(B:Nat→Yx)(as:List Addr)(mx:Mx w k A X env sc (V 0) (M 0) s){t:PySem.Expr}{tm:UM bX}{body:List Stmt}{l:List D}{Q:zh→aE→Prop}{E:bX→aE→Prop}
  (ht:bH t sc=true) (src:bk w A X t tm l s) (hl:l=(jI n).map dat) (hM:∀i,(M i).map (fun x=>x.1)=as) (hb:∀i,cZ t (dat i) (V i)=some (B i))
  (hB:∀i,i<n→∀{X':Addr→Prop} {s1:aE} {Q:zh→aE→Prop} {E:bX→aE→Prop},Mx w k A X' env sc (B i) (M i) s1→(∀a,X a→X' a)→
   (∀s2,YF (dj env sc as) s1 s2→Mx w k A X' env sc (V (i+1)) (M (i+1)) s2→Q .next s2)→cE (cS PW w) A (oz body env) Q E s1)
  (hQ:∀s',YF (dj env sc as) s s'→Mx w k A X env sc (V n) (M n) s'→Q .next s'):cE (cS PW w) A tm (fun x s₁=>cE (cS PW w) A (BQ x) (fun it s₂=>
   A8 (cS PW w) A (.forLoop t it body [] env) (fun r s'=>match r with | .ok f=>Q f s' | .error e=>EJ (cS PW w) A env E e s') s₂) E s₁) E s:=
 GZ mx (hM 0) (J6 n dat V M) ht src ⟨0,qV _,hl⟩ (fun r YL YC x=>by cases x;exact hM _) (fun {d r YL YC} x hd=>by
  obtain ⟨i,hi,e1⟩:=x
  obtain ⟨hi,rfl,e2⟩:=range_drop e1
  exact⟨B i,hb i,fun X' s1 Q E hX m h=>hB i hi m hX fun s2 p m2=>h _ _ s2 ⟨i+1,hi,e2⟩ p m2⟩) fun YL YC s' x pb m=>by
   obtain ⟨rfl,rfl⟩:=x.fin
   exact hQ s' pb m
theorem jL {n:Nat}{V:Nat→Yx}{M:Nat→YX}(dat:Nat→D)(B:Nat→Yx)(as:List Addr)(mx:Mx w k A X env sc (V 0) (M 0) s){t it:PySem.Expr}{body:List Stmt}{pos:UK}{l:List D}{Q:zh→aE→Prop}{E:bX→aE→Prop}
  (ht:bH t sc=true) (ZF:cJ it=false) (src:Src w A X t it env l s) (hl:l=(jI n).map dat) (hM:∀i,(M i).map (fun x=>x.1)=as) (hb:∀i,cZ t (dat i) (V i)=some (B i))
  (hB:∀i,i<n→∀{X':Addr→Prop} {s1:aE} {Q:zh→aE→Prop} {E:bX→aE→Prop},Mx w k A X' env sc (B i) (M i) s1→(∀a,X a→X' a)→
   (∀s2,YF (dj env sc as) s1 s2→Mx w k A X' env sc (V (i+1)) (M (i+1)) s2→Q .next s2)→cE (cS PW w) A (oz body env) Q E s1)
  (hQ:∀s',YF (dj env sc as) s s'→Mx w k A X env sc (V n) (M n) s'→Q .next s'):cE (cS PW w) A (Nn (.For t it body [] pos) env) Q E s:=
 OB (yV dat B as mx ht (src s (Pu.refl _)) hl hM hb hB hQ) (lZ ZF env)
theorem fK {α:Type}{l:List α}{i:Nat}{d:α}(h:i<l.length):l.take (i+1)=l.take i++[l.getD i d]:=by
 rw[List.take_succ_eq_append_getElem h,bq,c8 h];rfl
end
end
section
section
variable {w:gp}{k:Nat}{A:Around}{X X':Addr→Prop}{env:UI}{sc:Scope}{ρ ρ':Yx}{s s':aE}{μ ZJ YC YM:YX}
theorem cV (mx:Mx w k A X env sc ρ μ s){x:Str}{d:D}{u:bX}{E:bX→aE→Prop}{Q:Unit→aE→Prop}(hk:LC sc x)(r:Rep w s.heap X d u)
  (hQ:∀s',YF (Own env sc) s s'→Mx w k A X env sc ((x,d)::ρ) μ s'→Q () s'):cE (cS PW w) A (Of env x u) Q E s:=by
 refine il mx.cx.Yz mx.cx.vis hk r fun s3 p3 pb hp3 hX3 v3 x3=>?_
 have pb':YF (Own env sc) s s3:=pb.mono fun a e=>by subst e;exact hp3.elim (fun q=>.inl q.2) fun q=>.inr ⟨x,q⟩
 exact hQ _ pb' (mx.step pb' ⟨mx.cx.a,x3,mx.cx.base.up (pb'.up mx.cx.Yz.pt fun a h=>mx.ZD h),v3⟩)
theorem j6 {pos:UK}{Q E:bX→aE→Prop}(h:Q (.ref s.heap.objs.size) {s with heap:=s.heap.push {cls:=.type "list",data:=.seq #[]}}):cE (cS PW w) A (ku (.List [] pos) env) Q E s:=
 Mc (kC ⟨by simp,by simpa using h⟩)
theorem pq {pos:UK}{Q E:bX→aE→Prop}(h:Q (.ref s.heap.objs.size) {s with heap:=s.heap.push {cls:=.type "dict",data:=.dict #[]}}):cE (cS PW w) A (ku (.Dict [] [] pos) env) Q E s:=
 NG h
noncomputable def uF (e:PySem.Expr):Bool:=!nY e&&!cY e
theorem fP {x:Str}{px pos:UK}{e:PySem.Expr}{Q:zh→aE→Prop}{E:bX→aE→Prop}(he:uF e=true)
  (h:cE (cS PW w) A (ku e env) (fun v s1=>cE (cS PW w) A (Of env x v) (fun Z=>Q .next) E s1) E s):cE (cS PW w) A (Nn (.Assign [.Name x px] e pos) env) Q E s:=by
 unfold uF at he
 simp only[j3,l6] at he
 refine xD (qA h (fun v s1 h1=>?_) fun Z Z e=>e) (mU he.1 (some (.Name x px)) pos.line) (cW rfl he.2)
 rw[ir rfl]
 exact kX h1
theorem iR (mx:Mx w k A X env sc ρ μ s){x:Str}{px lp pos:UK}{Q:zh→aE→Prop}{E:bX→aE→Prop}(hk:LC sc x)
  (hQ:∀a s',s.heap.get? a=none→YF (Own env sc) s s'→Mx w k A (fun b=>X b∨b=a) env sc ((x,.val (.ref a))::ρ) ((a,.lst [])::μ) s'→Q .next s') :
  cE (cS PW w) A (Nn (.Assign [.Name x px] (.List [] lp) pos) env) Q E s:=by
 obtain ⟨hn,hb⟩:=jw mx.cx.Yz
 refine fP rfl (j6 ?_)
 have u:Pu s {s with heap:=s.heap.push {cls:=.type "list",data:=.seq #[]}}:=Pu.YK _ _
 have m1:=mx.add u hn hb (d:=.lst []) (.lst _ #[] rfl ⟨_,ck _ rfl⟩ aX.nil)
 refine cV m1 hk cU fun s' pb m2=>hQ _ _ hn ((YF.YB u).trans pb) m2
theorem uE (mx:Mx w k A X env sc ρ μ s){x:Str}{px lp pos:UK}{Q:zh→aE→Prop}{E:bX→aE→Prop}(hk:LC sc x)
  (hQ:∀a s',s.heap.get? a=none→YF (Own env sc) s s'→Mx w k A (fun b=>X b∨b=a) env sc ((x,.val (.ref a))::ρ) ((a,.dct [] [])::μ) s'→Q .next s') :
  cE (cS PW w) A (Nn (.Assign [.Name x px] (.Dict [] [] lp) pos) env) Q E s:=by
 obtain ⟨hn,hb⟩:=jw mx.cx.Yz
 refine fP rfl (pq ?_)
 have u:Pu s {s with heap:=s.heap.push {cls:=.type "dict",data:=.dict #[]}}:=Pu.YK _ _
 have m1:=mx.add u hn hb (d:=.dct [] []) (.dct _ _ [] rfl (HP _) rfl aX.nil)
 refine cV m1 hk cU fun s' pb m2=>hQ _ _ hn ((YF.YB u).trans pb) m2
theorem mQ (mx:Mx w k A X env sc ρ (YC++(a,.lst l)::YM) s){x:Str}{p ap cp pos:UK}{e:PySem.Expr}{d:D}{Q:zh→aE→Prop}{E:bX→aE→Prop}(hx:aV w A X (ku (.Name x p) env) (.val (.ref a)) s)(he:aV w A X (ku e env) d s)
  (hst:isStarred e=false) (hline:(ap.endLine==cp.line)=true) (hl:l.length<sizeLine)
  (hQ:∀s',YF (dj env sc [a]) s s'→Mx w k A X env sc ρ (YC++(a,.lst (l++[d]))::YM) s'→Q .next s') :
  cE (cS PW w) A (Nn (.Expr (.Call (.Attribute (.Name x p) (af "append") ap) [e] [] cp) pos) env) Q E s:=by
 refine AE ?_ (by unfold CY;rw[mx.cx.vis.eqs,mx.cx.vis.kind];rfl) rfl
 refine k9 rfl ?_ hline (hx.now _ _ fun v s1 u1 r1=>?_)
 ·have h1:(FU cp (zS [e] env)).all (fun x=>!x.1)=true:=by
   rw[ao hst];rfl
  rw[h1];rfl
 ·subst r1
  have m1:=mx.pu u1
  obtain ⟨vs,⟨n,hp⟩,hr⟩:=(m1.mu.at_ _ mem_mid).l
  refine⟨"list",_,rq,x9,xe,⟨_,hp,rfl⟩,fun b e=>by cases e;exact⟨_,hp,rfl⟩,iL (YH fun e' h=>by simp at h;subst h;exact hst)
   (bc (args_cons mx.cx.Yz hst he args_nil) (fun e' h=>by simp at h;subst h;exact hst) (fun h=>by cases h) s1 u1 _ _ fun vs s2 u2 r2=>?_)⟩
  obtain ⟨v,t,rfl,r3,rfl⟩:=r2
  refine gq (m1.pu u2) r3 (fz hl) fun s' pb m'=>hQ _ ((YF.YB (u1.trans u2)).trans (pb.mono fun b e=>.inr (bS.mpr e))) m'
end
end
section
noncomputable def a08:List Str→List D→List D
 |k::ks,d::ds=>.tup [.str k,d]::a08 ks ds
 |_,_=>[]
section
variable {w:gp}{k:Nat}{A:Around}{X X':Addr→Prop}{env:UI}{sc:Scope}{ρ:Yx}{s:aE}
theorem a1i:∀(kvs:List (Str×bX)) (ds:List D) {h:Heap},aX w h X ds (kvs.map (fun x=>x.2))→∀(i:Nat) (d:D),(a08 (kvs.map (fun x=>x.1)) ds)[i]?=some d→∃key v x,kvs[i]?=some (key,v)∧d=.tup [.str key,x]∧Rep w h X x v
 := by
 intro kvs
 induction kvs with
 |nil=>intro ds h r i d e;exact YD e
 |cons p kvs ih=>
  intro ds h r i d e
  cases ds with
  |nil=>exact YD e
  |cons x ds=>
   obtain ⟨v',t,e1,r1,r2⟩:=r
   cases e1
   cases i with
   |zero=>exact⟨p.1,p.2,x,rfl,(aI e).symm,r1⟩
   |succ i=>exact ih ds r2 i d e
theorem a0y:∀(kvs:List (Str×bX)) (ds:List D),ds.length=kvs.length→(a08 (kvs.map (fun x=>x.1)) ds).length=kvs.length
 := by
 intro kvs
 induction kvs with
 |nil=>intro ds h;rfl
 |cons p kvs ih=>
  intro ds h
  cases ds with
  |nil=>exact h
  |cons x ds=>exact congrArg PZ (ih ds (N2 h))
theorem a03:IJ TA "dict_itemiterator.__iter__"=some A9.«dict_keyiterator.__iter__»:=
 entryFor_alias (id':="dict_keyiterator.__iter__") (by kernel_rfl) (by first|rfl|decide +kernel|(unfold String.splitOn;simp +decide [String.splitOnAux])) (by decide +kernel) (by kernel_rfl)
theorem mD {it d:Addr}{i n ep:Nat}{ok ov:bX}{Q E:bX→aE→Prop}(hit:IsItemIter s.heap it d i n ep ok ov)(h:Q (.ref it) s):cE (cS PW w) A (BQ (.ref it)) Q E s:=by
 have hT:s.TypeIs (.ref it) "dict_itemiterator":=⟨_,hit,rfl⟩
 refine wpAny_pyIter_slot hT AR (kP AR hT a03 ?_ (PySem.F.args_dict_itemiterator_iter_1 _))
 show cE _ _ (ret (.ref it)) _ _ s
 exact bg ⟨_,rfl,"dict_itemiterator",_,hT,PySem.F.slot_dict_itemiterator_next.lookup,h⟩
theorem zm (ha:Zv k A){target:PySem.Expr}{I a:Addr}{kvs:List (Str×bX)}{ds:List D}{ep:Nat}(hXI:X I)(hI:I≠PT)(hax:¬X a)(ht:cY target=true):
  Itr w A X target I (a08 (kvs.map (fun x=>x.1)) ds) [I] (fun i h=>(∃ok ov,IsItemIter h I a i kvs.length ep ok ov)∧h.DictAt (SK w) a kvs ep∧aX w h X ds (kvs.map (fun x=>x.2))) where
 ex:=fun i h st b hb=>by cases bS.mp hb;exact by obtain ⟨_,_,ho⟩:=st.1;exact⟨_,ho⟩
 YZ:=by simpa using i7 hI
 frame:=fun i h h' st u hf=>⟨by obtain ⟨ok,ov,ho⟩:=st.1;exact⟨ok,ov,hf I ay _ ho⟩,by obtain ⟨o,es,ho,r⟩:=st.2.1;exact⟨o,es,u.keep _ _ ho hax,r⟩,st.2.2.up u⟩
 item:=fun i s d Q E hd st hx hQ=>by
  obtain ⟨key,v,x,hkv,rfl,r⟩:=a1i kvs ds st.2.2 i d hd
  obtain ⟨ok,ov,hit⟩:=st.1
  have hne:a≠I:=fun e=>hax (e▸hXI)
  obtain ⟨new,YZ⟩:=dg hx
  refine wpAny_pyNext_items_item hit st.2.1 hkv fun kv h' hk hit' htup hsz hs'=>⟨_,rfl,?_⟩
  cases target<;>cases ht
  refine wpAny_letOwnedTupleGo_items hit' fun h2 hit2 hs2=>?_
  have k2:∀b o,b≠I→s.heap.get? b=some o→h2.get? b=some o:=fun b o n e=>hs2.extBut b o n (hs' b o n e)
  have nI:s.heap.objs.size≠I:=fun q=>by rw[q,hit] at new;cases new
  have pb:YF (fun x=>x∈[I]) s {s with heap:=h2}:=⟨fun b o e Z z=>k2 b o (by simpa using z) e,fun Z9=>by obtain ⟨vs,e⟩:=Z9;exact⟨vs,k2 _ _ (i7 hI) e⟩,id,rfl,rfl⟩
  have u:Up X X s.heap h2:=pb.up hx.pt (by simp[hXI])
  obtain ⟨t,rfl⟩:=KV hk
  refine hQ _ _ pb ?_ ⟨⟨_,_,hit2⟩,st.2.1.extBut (b:=I) (fun b o n e=>k2 b o n e) hne,st.2.2.up u⟩
  exact⟨_,_,rfl,⟨_,hs2.extBut _ _ nI htup⟩,hx.new,.cons eX (.one (r.up u _ _))⟩
 done:=fun s Q E st hQ=>by
  have hl:=st.2.2.length
  simp only[bP] at hl
  rw[a0y kvs ds hl.symm] at st
  obtain ⟨ok,ov,hit⟩:=st.1
  refine wpAny_pyNext_items_end ha.handled hit st.2.1 (by simp) fun h' he=>⟨rfl,hQ _ ?_⟩
  exact⟨fun b o e Z z=>he b o (by simpa using z) e,fun Z9=>by obtain ⟨vs,e⟩:=Z9;exact⟨vs,he _ _ (i7 hI) e⟩,id,rfl,rfl⟩
 self:=fun i s Q E st hQ=>by obtain ⟨ok,ov,hit⟩:=st.1;exact mD hit hQ
theorem nZ (cx:Cx w k A X env sc ρ s){o m:Str}{p apos pos:UK}{ks:List Str}{ds:List D}{target:PySem.Expr}(he:aV w A X (ku (.Name o p) env) (.dct ks ds) s)(hm:m=af "items")(hline:(apos.endLine==pos.line)=true)
  (ht:cY target=true):bk w A X target (ku (.Call (.Attribute (.Name o p) m apos) [] [] pos) env) (a08 ks ds) s:=by
 subst hm
 intro Q E hQ
 refine k9 rfl rfl hline (he.now _ _ fun v s1 u1 r1=>?_)
 obtain ⟨ax,kvs,rfl,hd,hsm,hax,rfl,hr⟩:=r1
 have c1:=cx.pu u1
 refine⟨"dict",_,BI,FF,PySem.F.type_dict_items,hd.typeIs,fun b e=>?_,iL rfl (AP ?_)⟩
 ·cases e;obtain ⟨o,ho,_,h2⟩:=jt hd;exact⟨o,ho,h2⟩
 refine N1 FF hd.typeIs PySem.F.entry_dict_items (PySem.F.args_dict_items_1 _) (meets_dict_items (SK w) ax (by simpa using hsm)) ⟨⟨kvs,hd⟩,?_⟩
 have u2:Pu s1 {s1 with heap:=s1.heap.push {cls:=.type "dict_items",data:=.fields #[.ref ax]}}:=Pu.YK _ _
 have hv:({s1 with heap:=s1.heap.push {cls:=.type "dict_items",data:=.fields #[.ref ax]}}:aE).heap.IsItemsView s1.heap.objs.size ax:=⟨_,ck _ rfl,rfl,rfl⟩
 obtain ⟨o,es,ep,ho,hr2⟩:=hd
 have nax:ax≠PT:=fun q=>hax (q▸cx.Yz.pt)
 show cE _ _ (BQ _) _ _ _
 have hat:({s1 with heap:=s1.heap.push {cls:=.type "dict_items",data:=.fields #[.ref ax]}}:aE).heap.DictAt (SK w) ax kvs ep:=⟨o,es,u2.heap _ _ ho nax,hr2⟩
 have hr3:=hr.up (u2.up cx.Yz.pt)
 revert hv hat hr3
 generalize ({s1 with heap:=s1.heap.push {cls:=.type "dict_items",data:=.fields #[.ref ax]}}:aE)=s2 at u2 ⊢
 intro hv hat hr3
 have c2:=c1.pu u2
 obtain ⟨new,YZ⟩:=dg c2.Yz
 have u12:=u1.trans u2
 refine wpAny_pyIter_items hv hat (hQ s2.heap.objs.size [s2.heap.objs.size] s2.heap _ (u12.trans (Pu.YK _ _)) (fun a o e n=>u12.heap a o e n) (fun a o e n=>b6 _ e) ?_ ?_)
 ·intro a ha
  simp at ha;subst ha
  exact⟨new,YZ,⟨_,ck _ rfl⟩⟩
 ·intro X' h1 h2 h3
  obtain ⟨o2,es2,ho2,a3l⟩:=hat
  refine⟨_,zm (ha:=cx.a) (a:=ax) (kvs:=kvs) (ep:=ep) (h3 _ ay) YZ (fun q=>hax (h2 _ _ ho2 q)) ht,fun h' hk=>⟨⟨_,_,hk _ _ (ck _ rfl) YZ⟩,⟨o2,es2,hk _ _ (b6 _ ho2) nax,a3l⟩,?_⟩⟩
  exact hr3.up ⟨fun a o e nx=>hk _ _ (b6 _ e) (fun q=>nx (q▸cx.Yz.pt)),h2⟩
end
end
section
section
variable {w:gp}{A:Around}{E:bX→aE→Prop}{s:aE}
theorem gD {it t:Addr}{i:Nat}{items:Array bX}{x:bX}{Q:bX→aE→Prop}(hit:s.heap.IsTupleIter it t i)(ht:s.heap.IsTuple t items)(hx:items[i]?=some x)
  (hQ:∀h',h'.IsTupleIter it t (i+1)→AY it s.heap h'→Q x {s with heap:=h'}):cE (cS PW w) A (kD (.ref it)) Q E s:=by
 obtain ⟨o,ho,hc,hd⟩:=id hit
 obtain ⟨ol,hol,_,nl,hdl⟩:=ht
 unfold kD
 refine ah (rj (name:=af "__next__") hit.typeIs pe (kP pe hit.typeIs BN ?_ (B3 _)))
 show cE _ _ (SD (.ref it) 0 >>= _) _ _ s
 refine ah (kc ho hd (x:=.ref t) rfl ?_)
 show cE _ _ (if(sf t==kG)=true then _ else _) _ _ s
 rw[if_neg (show¬((sf t==kG)=true) from nV)]
 show cE _ _ (SD (.ref it) 1 >>= _) _ _ s
 refine ah (kc ho hd (x:=.int i 0) rfl ?_)
 show cE _ _ (GW (.ref t) >>= _) _ _ s
 refine ah (kr hol hdl ?_)
 simp only[x7,hx]
 refine ah (AF ho hd (by simp) (bg ⟨x,rfl,bg (hQ _ ?_ (DA ..))⟩))
 exact⟨_,k8 _ ho (zC (qB hd _)),(Obj.cls_mapFields ..).trans hc,by
  rw[qB hd];simp[y9]⟩
theorem ni {it t:Addr}{i:Nat}{items:Array bX}{Q:bX→aE→Prop}(hh:A.handled=none)(hit:s.heap.IsTupleIter it t i)(ht:s.heap.IsTuple t items)(hx:items[i]?=none)
  (hE:∀h' e,SI it s.heap h'→(∃o,h'.get? e=some o∧o.cls=.type "StopIteration")→E (.ref e) {s with heap:=h'}):cE (cS PW w) A (kD (.ref it)) Q E s:=by
 obtain ⟨o,ho,hc,hd⟩:=id hit
 obtain ⟨ol,hol,_,nl,hdl⟩:=ht
 unfold kD
 refine ah (rj (name:=af "__next__") hit.typeIs pe (kP pe hit.typeIs BN ?_ (B3 _)))
 show cE _ _ (SD (.ref it) 0 >>= _) _ _ s
 refine ah (kc ho hd (x:=.ref t) rfl ?_)
 show cE _ _ (if(sf t==kG)=true then _ else _) _ _ s
 rw[if_neg (show¬((sf t==kG)=true) from nV)]
 show cE _ _ (SD (.ref it) 1 >>= _) _ _ s
 refine ah (kc ho hd (x:=.int i 0) rfl ?_)
 show cE _ _ (GW (.ref t) >>= _) _ _ s
 refine ah (kr hol hdl ?_)
 simp only[x7,hx]
 refine ah (yT (ah (AF ho hd (by simp) ?_)))
 show cE _ _ (newExc (.type "StopIteration") [] >>= _) _ _ _
 refine ah ?_
 simp only[newExc,newTuple]
 refine ah (l7 ?_ (by size_fits))
 refine ah (m:=Pf _ _) (C5 (a:=kG) (by first|rfl|(simp only[Pf];rfl)) ?_)
 refine l7 ?_ (by size_fits)
 simp only[raiseNew]
 refine ah (wpAny_handled ?_)
 first|rw[show A.in1.handled=none from hh]|rw[hh]
 refine ah (bg (wpAny_throw ?_))
 exact hE _ _ (((DA ..).extBut.push _).push _) ⟨_,ck _ rfl,rfl⟩
theorem nD {z TI TO i1 i2 l1 l2:Addr}{k1 k2:Nat}{xs ys:Array bX}{x y a b:bX}{Q:bX→aE→Prop}(D:NX z TI TO i1 i2 l1 l2)
  (hz:IP s.heap z TI TO .none) (hTI:zd s.heap TI (.ref i1) (.ref i2)) (hTO:zd s.heap TO a b)
  (h1:s.heap.IsTupleIter i1 l1 k1) (h2:s.heap.IsTupleIter i2 l2 k2) (hl1:s.heap.IsTuple l1 xs) (hl2:s.heap.IsTuple l2 ys) (hx:xs[k1]?=some x) (hy:ys[k2]?=some y)
  (hQ:∀h',IP h' z TI TO (y9 s.heap.objs.size)→zd h' TO x y→h'.IsTupleIter i1 l1 (k1+1)→h'.IsTupleIter i2 l2 (k2+1)→zd h' s.heap.objs.size x y→h'.objs.size=s.heap.objs.size+1→
   (∀c o,c≠z→c≠TO→c≠i1→c≠i2→s.heap.get? c=some o→h'.get? c=some o)→Q (.ref s.heap.objs.size) {s with heap:=h'}) :
  cE (cS PW w) A (A9.«zip.__next__» ⟨[.ref z],[]⟩) (fun fin s'=>∃v,fin=.done (.ret v)∧Q v s') E s:=by
 show cE _ _ (SD (.ref z) 2 >>= _) _ _ _
 refine ah (kc hz rfl (x:=.bool false) rfl ?_)
 show cE _ _ (SD (.ref z) 3 >>= _) _ _ _
 refine ah (kc hz rfl (x:=.ref TI) rfl ?_)
 refine ah (kr hTI rfl ?_)
 show cE _ _ (n9 (.ref z) >>= _) _ _ _
 refine ah ?_
 unfold n9
 refine ah (kc hz rfl (x:=.none) rfl (bg ?_))
 simp only[if_true]
 refine ah (yT ?_)
 refine ah (kc hz rfl (x:=.ref TO) rfl ?_)
 refine ah (ze hz (b9 rfl) fun h₁ hz₁ hs₁=>?_)
 replace hz₁:IP h₁ z TI TO .ellipsis:=hz₁
 refine ah ?_
 simp only[NN,OV,kK,E9]
 refine ah (ah (LG ?_))
 show cE _ _ (kD (.ref i1) >>= _) _ _ _
 refine ah (gD (h1.extBut hs₁.extBut D.i1z) (hl1.extBut hs₁.extBut D.l1z) hx fun h₂ h1₂ hs₂=>bg ?_)
 have hTO₂:zd h₂ TO a b:=hs₂.extBut _ _ D.TOi1 (hs₁.extBut _ _ D.TOz hTO)
 refine ah (kr hTO₂ rfl ?_)
 refine ah (IY hTO₂ fun h₃ hTO₃ hs₃=>?_)
 replace hTO₃:zd h₃ TO x b:=hTO₃
 refine ah (D3 (bg ?_))
 refine ah (ah (LG ?_))
 show cE _ _ (kD (.ref i2) >>= _) _ _ _
 refine ah (gD (((h2.extBut hs₁.extBut D.i2z).extBut hs₂.extBut D.i12.symm).extBut hs₃.extBut D.TOi2.symm)
  (((hl2.extBut hs₁.extBut D.l2z).extBut hs₂.extBut D.l2i1).extBut hs₃.extBut D.l2TO) hy fun h₄ h2₄ hs₄=>bg ?_)
 have hTO₄:zd h₄ TO x b:=hs₄.extBut _ _ D.TOi2 hTO₃
 refine ah (kr hTO₄ rfl ?_)
 refine ah (IY hTO₄ fun h₅ hTO₅ hs₅=>?_)
 replace hTO₅:zd h₅ TO x y:=hTO₅
 refine ah (D3 (bg (bg ?_)))
 refine ah (kr hTO₅ rfl ?_)
 refine ah (JU ?_)
 have hsz:h₅.objs.size=s.heap.objs.size:=by rw[hs₅.1,hs₄.1,hs₃.1,hs₂.1,hs₁.1]
 have hz₅:IP h₅ z TI TO .ellipsis:=hs₅.extBut _ _ D.TOz.symm (hs₄.extBut _ _ D.i2z.symm (hs₃.extBut _ _ D.TOz.symm (hs₂.extBut _ _ D.i1z.symm hz₁)))
 have hk₅:∀c o,c≠z→c≠TO→c≠i1→c≠i2→s.heap.get? c=some o→h₅.get? c=some o:=fun c o c1 c2 c3 c4 e=>
  hs₅.extBut _ _ c2 (hs₄.extBut _ _ c4 (hs₃.extBut _ _ c2 (hs₂.extBut _ _ c3 (hs₁.extBut _ _ c1 e))))
 have h1₅:h₅.IsTupleIter i1 l1 (k1+1):=((h1₂.extBut hs₃.extBut D.TOi1.symm).extBut hs₄.extBut D.i12).extBut hs₅.extBut D.TOi1.symm
 have h2₅:h₅.IsTupleIter i2 l2 (k2+1):=h2₄.extBut hs₅.extBut D.TOi2.symm
 have hzlt:z<h₅.objs.size:=eK hz₅
 show cE _ _ (AI (.ref z) (.ref h₅.objs.size) >>= _) _ _ _
 refine ah ?_
 unfold AI
 have hz₆:IP (h₅.push {cls:=.type "tuple",data:=.seq #[x,y]}) z TI TO .ellipsis:=b6 _ hz₅
 refine ah (ze hz₆ (b9 rfl) fun h₇ hz₇ hs₇=>?_)
 replace hz₇:IP h₇ z TI TO (y9 h₅.objs.size):=hz₇
 refine ze hz₇ (b9 rfl) fun h₈ hz₈ hs₈=>?_
 replace hz₈:IP h₈ z TI TO (y9 h₅.objs.size):=hz₈
 have up:∀c o,c≠z→h₅.get? c=some o→h₈.get? c=some o:=fun c o c1 e=>hs₈.extBut _ _ c1 (hs₇.extBut _ _ c1 (b6 _ e))
 have hT₈:zd h₈ h₅.objs.size x y:=hs₈.extBut _ _ (oQ hzlt) (hs₇.extBut _ _ (oQ hzlt) (ck _ rfl))
 have hz8:h₈.objs.size=h₅.objs.size+1:=by rw[hs₈.1,hs₇.1,kq]
 rw[hsz] at hz₈ hT₈ hz8
 refine bg ⟨_,rfl,?_⟩
 show Q (.ref h₅.objs.size) _
 rw[hsz]
 exact hQ h₈ hz₈ (up _ _ D.TOz hTO₅) (by obtain ⟨o,e,r⟩:=h1₅;exact⟨o,up _ o D.i1z e,r⟩) (by obtain ⟨o,e,r⟩:=h2₅;exact⟨o,up _ o D.i2z e,r⟩) hT₈ hz8 fun c o c1 c2 c3 c4 e=>up c o c1 (hk₅ c o c1 c2 c3 c4 e)
theorem q7 {z TI TO i1 i2 l1 l2:Addr}{k1:Nat}{xs:Array bX}{Q:PySem.Fin→aE→Prop}(hh:A.handled=none)(D:NX z TI TO i1 i2 l1 l2)
  (hz:IP s.heap z TI TO .none) (hTI:zd s.heap TI (.ref i1) (.ref i2)) {a b:bX} (hTO:zd s.heap TO a b)
  (h1:s.heap.IsTupleIter i1 l1 k1) (hl1:s.heap.IsTuple l1 xs) (hx:xs[k1]?=none)
  (hE:∀h' e,(∀c o,c≠z→c≠TO→c≠i1→c≠i2→s.heap.get? c=some o→h'.get? c=some o)→(∃o,h'.get? e=some o∧o.cls=.type "StopIteration")→E (.ref e) {s with heap:=h'}) :
  cE (cS PW w) A (A9.«zip.__next__» ⟨[.ref z],[]⟩) Q E s:=by
 show cE _ _ (SD (.ref z) 2 >>= _) _ _ _
 refine ah (kc hz rfl (x:=.bool false) rfl ?_)
 show cE _ _ (SD (.ref z) 3 >>= _) _ _ _
 refine ah (kc hz rfl (x:=.ref TI) rfl ?_)
 refine ah (kr hTI rfl ?_)
 show cE _ _ (n9 (.ref z) >>= _) _ _ _
 refine ah ?_
 unfold n9
 refine ah (kc hz rfl (x:=.none) rfl (bg ?_))
 simp only[if_true]
 refine ah (yT ?_)
 refine ah (kc hz rfl (x:=.ref TO) rfl ?_)
 refine ah (ze hz (b9 rfl) fun h₁ hz₁ hs₁=>?_)
 replace hz₁:IP h₁ z TI TO .ellipsis:=hz₁
 refine ah ?_
 simp only[NN,OV,kK,E9]
 refine ah (ah (LG ?_))
 show cE _ _ (kD (.ref i1) >>= _) _ _ _
 refine ah (ni hh (h1.extBut hs₁.extBut D.i1z) (hl1.extBut hs₁.extBut D.l1z) hx fun h₂ e hs₂ he=>?_)
 obtain ⟨oe,hoe,hce⟩:=he
 have hz₂:IP h₂ z TI TO .ellipsis:=hs₂ _ _ D.i1z.symm hz₁
 have hez:e≠z:=fun x=>by subst x;rw[hz₂] at hoe;obtain rfl:=aI hoe;simp at hce
 refine ze hz₂ (b9 rfl) fun h₃ Z hs₃=>hE h₃ e (fun c o c1 Z c3 Z x=>hs₃.extBut _ _ c1 (hs₂ _ _ c3 (hs₁.extBut _ _ c1 x))) ⟨oe,hs₃.extBut _ _ hez hoe,hce⟩
theorem jY {z TI TO i1 i2 l1 l2:Addr}{k1 k2:Nat}{xs ys:Array bX}{x y a b:bX}{Q:Option bX→aE→Prop}(D:NX z TI TO i1 i2 l1 l2)
  (hz:IP s.heap z TI TO .none) (hTI:zd s.heap TI (.ref i1) (.ref i2)) (hTO:zd s.heap TO a b)
  (h1:s.heap.IsTupleIter i1 l1 k1) (h2:s.heap.IsTupleIter i2 l2 k2) (hl1:s.heap.IsTuple l1 xs) (hl2:s.heap.IsTuple l2 ys) (hx:xs[k1]?=some x) (hy:ys[k2]?=some y)
  (hQ:∀h',IP h' z TI TO (y9 s.heap.objs.size)→zd h' TO x y→h'.IsTupleIter i1 l1 (k1+1)→h'.IsTupleIter i2 l2 (k2+1)→zd h' s.heap.objs.size x y→h'.objs.size=s.heap.objs.size+1→
   (∀c o,c≠z→c≠TO→c≠i1→c≠i2→s.heap.get? c=some o→h'.get? c=some o)→Q (some (.ref s.heap.objs.size)) {s with heap:=h'}) :
  cE (cS PW w) A (Ct (.ref z)) Q E s:=by
 have hT:s.TypeIs (.ref z) "zip":=⟨_,hz,rfl⟩
 unfold Ct
 exact ah (LH (rj (name:=af "__next__") hT zD
  (kP zD hT GO
   (nD D hz hTI hTO h1 h2 hl1 hl2 hx hy fun h' a1 a2 a3 a4 a5 a6 a7=>bg (hQ h' a1 a2 a3 a4 a5 a6 a7)) (FG _))))
theorem mF {z TI TO i1 i2 l1 l2:Addr}{k1:Nat}{xs:Array bX}{a b:bX}{Q:Option bX→aE→Prop}(hh:A.handled=none)(D:NX z TI TO i1 i2 l1 l2)
  (hz:IP s.heap z TI TO .none) (hTI:zd s.heap TI (.ref i1) (.ref i2)) (hTO:zd s.heap TO a b)
  (h1:s.heap.IsTupleIter i1 l1 k1) (hl1:s.heap.IsTuple l1 xs) (hx:xs[k1]?=none)
  (hQ:∀h',(∀c o,c≠z→c≠TO→c≠i1→c≠i2→s.heap.get? c=some o→h'.get? c=some o)→Q none {s with heap:=h'}):cE (cS PW w) A (Ct (.ref z)) Q E s:=by
 have hT:s.TypeIs (.ref z) "zip":=⟨_,hz,rfl⟩
 unfold Ct
 refine ah (LH (rj (name:=af "__next__") hT zD
  (kP zD hT GO (q7 hh D hz hTI hTO h1 hl1 hx fun h' e hk he=>?_) (FG _))))
 obtain ⟨o,ho,hc⟩:=he
 refine ah (GH (T:="StopIteration") (b:=true) ⟨o,ho,hc⟩ isSubtype_stop ?_)
 exact bg (hQ _ hk)
theorem xK (hh:A.handled=none)(z TI TO i1 i2 l1 l2:Addr)(D:NX z TI TO i1 i2 l1 l2)(xs ys:Array bX)(hsz:xs.size=ys.size):
  WalksU PW w A z [z,TI,TO,i1,i2,l1,l2] [z,TO,i1,i2] xs.size
   (fun i vals=>∃x y,xs[i]?=some x∧ys[i]?=some y∧vals=#[x,y])
   (fun i h=>IP h z TI TO .none∧zd h TI (.ref i1) (.ref i2)∧(∃a b,zd h TO a b)∧h.IsTupleIter i1 l1 i∧h.IsTupleIter i2 l2 i∧h.IsTuple l1 xs∧h.IsTuple l2 ys)
   (fun i T h=>IP h z TI TO (y9 T)∧zd h TI (.ref i1) (.ref i2)∧(∃a b,zd h TO a b)∧h.IsTupleIter i1 l1 (i+1)∧h.IsTupleIter i2 l2 (i+1)∧h.IsTuple l1 xs∧h.IsTuple l2 ys∧
    T≠z∧T≠TO∧T≠i1∧T≠i2) where
 sub:=fun c hc=>by simp at hc ⊢;rcases hc with rfl|rfl|rfl|rfl<;>simp
 frame:=fun i h h' hst hk=>by
  obtain ⟨hz,hTI,⟨a,b,hTO⟩,⟨o1,e1,r1⟩,⟨o2,e2,r2⟩,⟨p1,f1,t1⟩,⟨p2,f2,t2⟩⟩:=hst
  exact⟨hk z ay _ hz,hk TI (bE _ ay) _ hTI,⟨a,b,hk TO (.tail _ (.tail _ (.head _))) _ hTO⟩,⟨o1,hk i1 (by simp) _ e1,r1⟩,⟨o2,hk i2 (by simp) _ e2,r2⟩,⟨p1,hk l1 (by simp) _ f1,t1⟩,⟨p2,hk l2 (by simp) _ f2,t2⟩⟩
 item:=fun i s Q E hi hst hQ=>by
  obtain ⟨hz,hTI,⟨a,b,hTO⟩,h1,h2,hl1,hl2⟩:=hst
  have hiy:i<ys.size:=by exact Lx hsz hi
  refine jY D hz hTI hTO h1 h2 hl1 hl2 (mE hi) (mE hiy) fun h' a1 a2 a3 a4 a5 a6 hk=>?_
  have lt:∀{c o},s.heap.get? c=some o→s.heap.objs.size≠c:=fun e=>oQ (eK e)
  obtain ⟨p1,f1,t1⟩:=hl1
  obtain ⟨p2,f2,t2⟩:=hl2
  exact hQ s.heap.objs.size #[xs[i],ys[i]] h' s.toks ⟨_,_,mE hi,mE hiy,rfl⟩ ⟨_,a5,rfl,_,rfl⟩
   ⟨a1,hk _ _ D.TIz D.TITO D.TIi1 D.TIi2 hTI,⟨_,_,a2⟩,a3,a4,⟨p1,hk _ _ D.l1z D.l1TO D.l1i1 D.l1i2 f1,t1⟩,⟨p2,hk _ _ D.l2z D.l2TO D.l2i1 D.l2i2 f2,t2⟩,
    lt hz,lt hTO,(by obtain ⟨_,e,_⟩:=h1;exact lt e),(by obtain ⟨_,e,_⟩:=h2;exact lt e)⟩
   fun c o hc e=>hk c o (fun x=>hc (by simp[x])) (fun x=>hc (by simp[x])) (fun x=>hc (by simp[x])) (fun x=>hc (by simp[x])) e
 go:=fun elts k pos i T s Q E hm hQ=>by
  obtain ⟨hz,hTI,⟨a,b,hTO⟩,h1,h2,hl1,hl2,_⟩:=hm
  refine wpAny_letOwnedTupleGo_zip hz fun h' hz' hs'=>hQ h' ⟨hz',hs'.extBut _ _ D.TIz hTI,⟨a,b,hs'.extBut _ _ D.TOz hTO⟩,h1.extBut hs'.extBut D.i1z,h2.extBut hs'.extBut D.i2z,
   hl1.extBut hs'.extBut D.l1z,hl2.extBut hs'.extBut D.l2z⟩ fun c o hc e=>hs'.extBut _ _ (fun x=>hc (by simp[x])) e
 apart:=fun i T h hm hT=>by
  obtain ⟨_,_,_,_,_,_,_,t1,t2,t3,t4⟩:=hm
  simp at hT
  rcases hT with rfl|rfl|rfl|rfl
  ·exact t1 rfl
  ·exact t2 rfl
  ·exact t3 rfl
  ·exact t4 rfl
 done:=fun s Q E hst hQ=>by
  obtain ⟨hz,hTI,⟨a,b,hTO⟩,h1,h2,hl1,hl2⟩:=hst
  exact mF hh D hz hTI hTO h1 hl1 (Array.getElem?_eq_none (gz _)) fun h' hk=>hQ h' s.toks fun c o hc e=>
   hk c o (fun x=>hc (by simp[x])) (fun x=>hc (by simp[x])) (fun x=>hc (by simp[x])) (fun x=>hc (by simp[x])) e
 self:=fun i s Q E hst hQ=>NO hst.1 hQ
noncomputable abbrev zT1 (h:Heap)(l1:Addr):Heap:=h.push {cls:=.type "tuple_iterator",data:=.fields #[.ref l1,.int 0 0]}
noncomputable abbrev zT2 (h:Heap)(l1 l2:Addr):Heap:=(zT1 h l1).push {cls:=.type "tuple_iterator",data:=.fields #[.ref l2,.int 0 0]}
noncomputable abbrev zT3 (h:Heap)(l1 l2:Addr):Heap:=(zT2 h l1 l2).push {cls:=.type "tuple",data:=.seq #[.ref h.objs.size,.ref (zT1 h l1).objs.size]}
noncomputable abbrev zT4 (h:Heap)(l1 l2:Addr):Heap:=(zT3 h l1 l2).push {cls:=.type "tuple",data:=.seq #[.none,.none]}
noncomputable abbrev zT5 (h:Heap)(l1 l2:Addr):Heap:=(zT4 h l1 l2).push {cls:=.type "zip",data:=.fields #[.none,.bool false,.bool false,.ref (zT2 h l1 l2).objs.size,.ref (zT3 h l1 l2).objs.size]}
theorem wV (l1 l2:Addr)(xs ys:Array bX):
  Meets (A9.«zip.__new__» ⟨[.type "zip",.ref l1,.ref l2],[]⟩) (fun Z R s=>s.heap.IsTuple l1 xs∧s.heap.IsTuple l2 ys∧
   R (.ok (.ret (.ref (zT4 s.heap l1 l2).objs.size))) {s with heap:=zT5 s.heap l1 l2}):=
 .of_wp fun prog w A R s h=>by
  obtain ⟨hp,g,d,tk,os⟩:=s;obtain ⟨hl1,hl2,h⟩:=h
  have hsub:=sub_zip
  have hL1:Sm (SO ⟨hp,g,d,tk,os⟩) l1 xs:=hl1
  have hL2:Sm (SO ⟨hp.push {cls:=.type "tuple_iterator",data:=.fields #[.ref l1,.int 0 0]},g,d,tk,os⟩) l2 ys:=TH hl2 _
  wp_walk using LX hL1,LX hL2
  exact⟨_,rfl,h⟩
theorem yj {l1 l2:Addr}{xs ys:Array bX}{Q:bX→aE→Prop}(hl1:s.heap.IsTuple l1 xs)(hl2:s.heap.IsTuple l2 ys)
  (h:∀h',IP h' (s.heap.objs.size+4) (s.heap.objs.size+2) (s.heap.objs.size+3) .none→zd h' (s.heap.objs.size+2) (.ref s.heap.objs.size) (.ref (s.heap.objs.size+1))→
   zd h' (s.heap.objs.size+3) .none .none→h'.IsTupleIter s.heap.objs.size l1 0→h'.IsTupleIter (s.heap.objs.size+1) l2 0→h'.objs.size=s.heap.objs.size+5→
   (∀c o,s.heap.get? c=some o→h'.get? c=some o)→Q (.ref (s.heap.objs.size+4)) {s with heap:=h'}) :
  cE (cS PW w) A (call (.type "zip") [.ref l1,.ref l2]) Q E s:=by
 refine callType_new PySem.F.called_zip (by decide) (PySem.F.typeCall_zip_2 _ _) (PySem.F.newCall_zip_2 _ _) (fun obj=>PySem.F.args_object_init_3 obj _ _) PySem.F.entry_zip_new
  (wV l1 l2 xs ys) ⟨hl1,hl2,?_⟩
 have z1:(zT1 s.heap l1).objs.size=s.heap.objs.size+1:=kq ..
 have z2:(zT2 s.heap l1 l2).objs.size=s.heap.objs.size+2:=by rw[kq,z1]
 have z3:(zT3 s.heap l1 l2).objs.size=s.heap.objs.size+3:=by rw[kq,z2]
 have z4:(zT4 s.heap l1 l2).objs.size=s.heap.objs.size+4:=by rw[kq,z3]
 have z5:(zT5 s.heap l1 l2).objs.size=s.heap.objs.size+5:=by rw[kq,z4]
 have g5:(zT5 s.heap l1 l2).get? (zT4 s.heap l1 l2).objs.size=some _:=ck _ rfl
 have g4:(zT5 s.heap l1 l2).get? (zT3 s.heap l1 l2).objs.size=some _:=b6 _ (ck _ rfl)
 have g3:(zT5 s.heap l1 l2).get? (zT2 s.heap l1 l2).objs.size=some _:=b6 _ (b6 _ (ck _ rfl))
 have g2:(zT5 s.heap l1 l2).get? (zT1 s.heap l1).objs.size=some _:=b6 _ (b6 _ (b6 _ (ck _ rfl)))
 have g1:(zT5 s.heap l1 l2).get? s.heap.objs.size=some _:=b6 _ (b6 _ (b6 _ (b6 _ (ck _ rfl))))
 show _∧_
 rw[z2,z3,z4] at g5
 rw[z1,z2] at g3
 rw[z3] at g4
 rw[z1] at g2
 rw[z4]
 exact⟨⟨_,g5,rfl⟩,h _ g5 g3 g4 ⟨_,g1,rfl,rfl⟩ ⟨_,g2,rfl,rfl⟩ z5 fun c o x=>
  b6 _ (b6 _ (b6 _ (b6 _ (b6 _ x))))⟩
end
end
section
section
variable {w:gp}{k:Nat}{A:Around}{X X':Addr→Prop}{env:UI}{sc:Scope}{ρ ρ':Yx}{s s':aE}{μ ZJ YC YM:YX}
theorem gF {h:Heap}:∀{as:List Int} {vs:List bX},aX w h X (as.map .int) vs→vs.length=as.length∧∀(i:Nat) (v:bX),vs[i]?=some v→∃t,v=.int (as.getD i 0) t
 | [],vs,r=>by cases (show vs=[] from r);exact⟨rfl,fun i v h=>nomatch h⟩
 |a::as,vs,r=>by
  obtain ⟨v,t,rfl,r1,r2⟩:=r
  obtain ⟨tk,rfl⟩:=r1
  obtain ⟨h1,h2⟩:=gF r2
  refine⟨by simp[h1],fun i v hv=>?_⟩
  cases i with
  |zero=>simp at hv;subst hv;exact⟨tk,rfl⟩
  |succ i=>simpa using h2 i v (by simpa using hv)
theorem ints_rep {h:Heap}:∀{as:List Int} {vs:List bX},vs.length=as.length→(∀(i:Nat) (v:bX),vs[i]?=some v→∃t,v=.int (as.getD i 0) t)→aX w h X (as.map .int) vs
 | [],[],_,_=>aX.nil
 |a::as,v::vs,hl,hv=>by
  obtain ⟨t,rfl⟩:=hv 0 v (by rfl)
  exact .cons (cI) (ints_rep (by simpa using hl) fun i v e=>by simpa using hv (i+1) v (e))
 | [],_::_,h,_=>by simp at h
 |_::_,[],h,_=>by simp at h
theorem Dc (cx:Cx w k A X env sc ρ s)(hc:env.code=.ref 65){pos:UK}{qn:Str}{scope:Scope}{Q E:bX→aE→Prop}(hQ:∀c' s',Pu s s'→s'.gens=s.gens→Q c' s'):cE (cS PW w) A (genexprCode env pos qn scope) Q E s:=by
 obtain ⟨n66,n65,o,fd,oc,vc,file,tf,flags,tg,inF,text,tt,e1,e2,e3,e4,e5,e6,e7,e8,e9,e10,e11⟩:=cx.base.a0K
 obtain ⟨⟨ps,htr⟩,hp⟩:=cx.Yz.tab
 have g11:vc.getD 11 .none=.ref PT:=by
  rw[←nt] at e7
  rw[gi,←nt,e7];rfl
 have ic:s.heap.IsCode 65 PT ps:=⟨oc,vc,file,tf,flags,tg,inF,text,tt,_,e4,e6,g11,e8,e9,e10,e11,hp,rfl,htr,by decide⟩
 have ta:s.heap.TableAt 65 PT ps:=⟨⟨oc,vc,e4,e5,e6,e7⟩,hp⟩
 cases hcode:codeAmong pos ps.toList with
 |some c'=>exact wpAny_genexprCode_hit hc ic hcode (hQ _ _ (Pu.refl _) rfl)
 |none=>
  refine wpAny_genexprCodeX hc ic ta hcode fun c' h' tk hx Z Z ic' Z ta' Z=>hQ _ _ ⟨fun a o e n=>hx a o n e,fun Z=>?_,id,rfl,rfl⟩ rfl
  obtain ⟨_,_,_,_,_,_,_,_,_,_,_,_,_,_,_,_,_,_,_,htr',_⟩:=ic'
  exact⟨⟨_,htr'⟩,ta'.2⟩
theorem G3 {as:List Int}{vs:Array bX}(h:∀(i:Nat) (v:bX),vs.toList[i]?=some v→∃t,v=.int (as.getD i 0) t){i:Nat}{x:bX}(hx:vs[i]?=some x):∃t,x=.int (as.getD i 0) t:=h i x (by simpa using hx)
theorem yO {s0:aE}(cx0:Cx w (k+5) A X env sc ρ s0){X2:Addr→Prop}(hx0:Z6 X2 s0)(hc:env.code=.ref 65){e1 e2:PySem.Expr}{as bs:List Int}{xi xj tn zn:Str}{p1 p2 p3 p4 p5 p6 p7 p8 p9:UK}{kt:Nat}{scope:Scope}
  (htn:sc.names.lookup tn=some .globalImplicit∧cH tn=some (.val (.type "tuple"))) (hzn:sc.names.lookup zn=some .globalImplicit∧cH zn=some (.val (.type "zip")))
  (hsc:scope.kind=.function∧scope.isCoroutine=false∧(∀y∈scope.names,y.2≠.cell∧y.2≠.free)∧scope.names.lookup (".0":Str)=some NameKind.local∧scope.names.lookup xi=some .local∧scope.names.lookup xj=some .local∧xi≠xj∧(xi==af "__debug__")=false∧(xj==af "__debug__")=false)
  (hst:isStarred e1=false∧isStarred e2=false)
  (h1:aV w A X2 (ku e1 env) (.tup (as.map .int)) s0) (h2:aV w A X2 (ku e2 env) (.tup (bs.map .int)) s0) (hlen:as.length=bs.length) (hsz:as.length≤1000) :
  aV w A X (ku (.Call (.Name tn p1) [.GeneratorExp (.BinOp (.Name xi p2) .Add (.Name xj p3) p4) [⟨.Tuple [.Name xi p5,.Name xj p6] kt p7,.Call (.Name zn p8) [e1,e2] [] p9,[],0⟩] scope p10] [] p11) env) (.tup ((MY (·+·) as bs).map .int)) s0:=by
 intro s u0 Q E hQ0
 have cx:=cx0.pu u0
 have hx2:=hx0.pu u0
 replace h1:=h1.pu u0
 replace h2:=h2.pu u0
 have hQ:∀D s' vs,Pu s s'→s.heap.get? D=none→Nr s'.heap D vs→aX w s'.heap X ((MY (·+·) as bs).map .int) vs.toList→Q (.ref D) s':=fun D s' vs u n o r=>hQ0 _ _ u ⟨D,vs,rfl,o,fun h=>(cx.Yz.lt D h).elim fun o e=>YD (n.symm.trans e),r⟩
 obtain ⟨hk,hco,hnm,h0,hxi,hxj,hij,hdi,hdj⟩:=hsc
 have hh:=cx.a.handled
 have hclos:PG scope env=AS (dG env.cells scope.names []):=iZ fun n hn=>absurd rfl (hnm _ hn).2
 have hzf:=bZ cx (pos:=p8) hzn.1 hzn.2
 have htf:=bZ cx (pos:=p1) htn.1 htn.2
 refine kN (htf.now _ _ fun v s1 u1 r1=>?_)
 obtain rfl:=r1
 refine sP rfl ?_
 have cx1:=cx.pu u1
 show cE _ A (evalArgs (.type "tuple") true (FU p11 (zS [PySem.Expr.GeneratorExp _ _ _ _] env)) []) _ _ s1
 refine w4 ?_
 refine iX ?_ (ao (e:=.GeneratorExp _ _ _ _) rfl)
 refine wpAny_GeneratorExp_walksQTD hh hco hclos (fun y hy=>(hnm y hy).1) h0 hxi hxj hij hk (by have:=cx.a.depth;show A.depth<1000;exact Sy this) ?_ (fun x=>rfl)
 refine kN ((hzf.pu u1).now _ _ fun v s2 u2 r2=>?_)
 obtain rfl:=r2
 have u12:=u1.trans u2
 have args:bO w A X2 [e1,e2] env [.tup (as.map .int),.tup (bs.map .int)] s:=args_cons hx2 hst.1 h1 (args_cons hx2 hst.2 h2 args_nil)
 have hpl:∀e∈[e1,e2],isStarred e=false:=fun e he=>by
  simp at he;rcases he with rfl|rfl
  ·exact hst.1
  ·exact hst.2
 refine sP (YH hpl) (bc args hpl (fun h=>by cases h) s2 u12 _ _ fun vs s3 u3 r3=>?_)
 have u13:=u12.trans u3
 have cx3:=cx.pu u13
 obtain ⟨va,ta,rfl,ra,vb,tb,rfl,rb,rfl⟩:=r3
 obtain ⟨l1,xs,rfl,⟨nx,hl1⟩,hx1,rx⟩:=ra
 obtain ⟨l2,ys,rfl,⟨ny,hl2⟩,hx2,ry⟩:=rb
 obtain ⟨lx,gx⟩:=gF rx
 obtain ⟨ly,gy⟩:=gF ry
 have sx:xs.size=as.length:=by simpa using lx
 have sy:ys.size=bs.length:=by simpa using ly
 have t1:s3.heap.IsTuple l1 xs:=⟨_,hl1,rfl,_,rfl⟩
 have t2:s3.heap.IsTuple l2 ys:=⟨_,hl2,rfl,_,rfl⟩
 have a1:l1<s3.heap.objs.size:=eK hl1
 have a2:l2<s3.heap.objs.size:=eK hl2
 refine yj t1 t2 fun h4 hz hTI hTO hi1 hi2 a3K hk4=>?_
 have Dz:=zipApart_new a1 a2
 have u4:Pu s3 {s3 with heap:=h4}:=Pu.keep (n:=s3.toks) hk4
 generalize hs4:({s3 with heap:=h4}:aE)=s4 at u4 ⊢
 have eh4:s4.heap=h4:=by rw[←hs4]
 have u14:=u13.trans u4
 have cx4:=cx.pu u14
 rw[←eh4] at hz hTI hTO hi1 hi2 a3K hk4
 generalize hn0:s3.heap.objs.size=n0 at hz hTI hTO hi1 hi2 a3K Dz
 refine NO hz ?_
 refine⟨cx4.base.nolimit.2,Dc cx4 hc fun c' s5 u5 hg5=>?_⟩
 have u15:=u14.trans u5
 have cx5:=cx.pu u15
 obtain ⟨mgb,bm,ob,_,_,BM⟩:=cx5.base.bmod
 have a3G:env.globals=mainGlobals:=cx.vis.glob
 rw[←a3G] at BM
 refine wpAny_builtinsFor BM.ns BM.name BM.ne BM.obj BM.cls BM.dict BM.data ?_
 have a5p:∀a o,s4.heap.get? a=some o→(∀o',s4.heap.get? PT=some o'→o.cls≠o'.cls)→a≠PT:=fun a o e h q=>by subst q;exact h _ e rfl
 obtain ⟨⟨ps,_⟩,hpt⟩:=cx4.Yz.tab
 have a3y:∀a o,s4.heap.get? a=some o→o.cls≠.none→a≠PT:=fun a o e h q=>by subst q;rw[hpt] at e;obtain rfl:=aI e;exact h rfl
 have k5:∀a o,s4.heap.get? a=some o→o.cls≠.none→s5.heap.get? a=some o:=fun a o e h=>u5.heap a o e (a3y a o e h)
 have hl1':=hk4 _ _ hl1
 have hl2':=hk4 _ _ hl2
 have stz:IP s5.heap (n0+4) (n0+2) (n0+3) .none∧zd s5.heap (n0+2) (.ref n0) (.ref (n0+1))∧(∃a b,zd s5.heap (n0+3) a b)∧s5.heap.IsTupleIter n0 l1 0∧s5.heap.IsTupleIter (n0+1) l2 0∧s5.heap.IsTuple l1 xs∧s5.heap.IsTuple l2 ys:=by
  obtain ⟨o1,f1,c1,r1⟩:=hi1
  obtain ⟨o2,f2,c2,r2⟩:=hi2
  exact⟨k5 _ _ hz (by simp),k5 _ _ hTI (by simp),⟨_,_,k5 _ _ hTO (by simp)⟩,⟨o1,k5 _ _ f1 (by rw[c1];simp),c1,r1⟩,⟨o2,k5 _ _ f2 (by rw[c2];simp),c2,r2⟩,⟨_,k5 _ _ hl1' (by simp),rfl,_,rfl⟩,⟨_,k5 _ _ hl2' (by simp),rfl,_,rfl⟩⟩
 have szc:xs.size=ys.size:=by exact Pj hlen lx ly sx sy
 have a1R:∀a,a∈[n0+4,n0+3,n0,n0+1]→s3.heap.get? a=none:=fun a ha=>by
  cases e:s3.heap.get? a with
  |none=>rfl
  |some o=>
   have hl:(a:Nat)<s3.heap.objs.size:=eK e
   have hge:n0≤(a:Nat):=by
    simp only[dP,eu,or_false] at ha
    rcases ha with q|q|q|q<;>rw[q]<;>first|exact gz _|exact f5 _ _
   exact absurd hl (by rw[hn0];exact ow.mpr hge)
 refine⟨n0+4,[n0+4,n0+2,n0+3,n0,n0+1,l1,l2],[n0+4,n0+3,n0,n0+1],xs.size,_,_,_,fun Z=>true,fun i y=>i<as.length∧∃t,y=.int (as.getD i 0+bs.getD i 0) t,rfl,
  fun A' hA'=>xK hA' _ _ _ _ _ _ _ Dz xs ys szc,fun i vals hv=>by obtain ⟨x,y,_,_,e⟩:=hv;exact⟨x,y,e⟩,stz,fun b hb=>?_,cx5.base.nolimit.2,fun hm=>?_,fun href hhref=>⟨?_,?_⟩,fun a h₅ tk gs hgb hag hsz₅ hk₅ W hat=>?_⟩
 ·have l4:n0+4<s5.heap.objs.size:=eK stz.1
  have le:∀x:Nat,x≤n0+4→x<s5.heap.objs.size:=fun x h=>cK h l4
  simp only[dP,eu,or_false] at hb
  have a1':l1≤n0+4:=ai (fz (hn0▸a1)) (f5 _ _)
  have a2':l2≤n0+4:=ai (fz (hn0▸a2)) (f5 _ _)
  rcases hb with q|q|q|q|q|q|q<;>rw[q]<;>apply le
  ·exact gz _
  ·exact gS (by decide) _
  ·exact gS (by decide) _
  ·exact f5 _ _
  ·exact gS (by decide) _
  ·exact a1'
  ·exact a2'
 ·obtain ⟨⟨ps',_⟩,e⟩:=cx3.Yz.tab
  have h61:61<s3.heap.objs.size:=eK e
  have hns:s3.heap.get? cStatics=none:=a1R _ hm
  obtain ⟨m0,⟨o0,_,_,ho0,_⟩,_⟩:=cx3.base.nolimit.2
  rw[hns] at ho0;exact YD ho0
 ·intro A' E' i va vb t2' m₂ hA hD hU hP hn hma hmb hkp
  rw[E9]
  exact bg ⟨rfl,_,_,rfl,fun Z Z e=>e⟩
 ·intro A' E' i va vb t2' m₂ hA hD hU hP _ hn hma hmb hkp
  obtain ⟨x,y,hx,hy,e⟩:=hP
  obtain ⟨ex,ey⟩:va=x∧vb=y:=by simpa using congrArg Sn e
  subst ex ey
  obtain ⟨ti,rfl⟩:=G3 gx hx
  obtain ⟨tj,rfl⟩:=G3 gy hy
  have hlt:i<as.length:=by
   rw[←sx]
   exact(Array.getElem?_eq_some_iff.mp hx).1
  have kf:∀(x:Str),scope.names.lookup x=some .local→(genEnv scope (dG env.cells scope.names []) s5.heap.objs.size c' A2 env).kindOf x=some .local:=fun x e=>e
  have hkf:(genEnv scope (dG env.cells scope.names []) s5.heap.objs.size c' A2 env).scope.kind=.function:=hk
  refine wpAny_BinOp (A3 (jS hkf (kf _ hxi) hn hma ?_) hdi)
  refine A3 (jS hkf (kf _ hxj) hn hmb ?_) hdj
  exact P.add_int ⟨⟨hlt,_,rfl⟩,_,_,rfl,fun Z Z e=>e⟩
 ·-- the generator stands;the tuple of what it yields
  have u6:Pu s5 {s5 with heap:=h₅,toks:=tk,gens:=s5.gens.push gs}:=⟨fun b o e Z=>hk₅ b o e,fun Z9=>by obtain ⟨vs,e⟩:=Z9;exact⟨vs,hk₅ _ _ e⟩,fun hb=>hb.push hgb,rfl,rfl⟩
  refine kC (pos:=p11) (env:=env) ?_
  have u16:=u15.trans u6
  refine call_tuple_gen (hsz:=?_) W.in4_3 (fun i s' st=>st.1.typeIs) hat ?_ ay fun s7 acc hm hacc=>?_
  ·intro b hb
   show b<h₅.objs.size
   rw[hsz₅]
   rcases dP.mp hb with rfl|hb
   ·exact AK _
   ·rcases dP.mp hb with rfl|hb
    ·exact x6 hag
    ·exact x6 (xw (kQ.mp hb) hag)
  ·have hs5:s.heap.get? s5.heap.objs.size=none:=by
    cases e:s.heap.get? s5.heap.objs.size with
    |none=>rfl
    |some o=>
     by_cases q:s5.heap.objs.size=PT
     ·obtain ⟨vs',e'⟩:=cx5.Yz.tab
      rw[←q] at e'
      exact absurd (eK e') (iE _)
     ·exact absurd (eK (u15.heap _ _ e q)) (iE _)
   have a2F:∀b o,s.heap.get? b=some o→b≠PT→s7.heap.get? b=some o:=fun b o e n=>by
    refine hm.heap b o (fun hmem=>?_) (u16.heap b o e n)
    rcases dP.mp hmem with rfl|hmem
    ·rw[hs5] at e;exact YD e
    ·have e3:=u13.heap b o e n
     rw[a1R b hmem] at e3;exact YD e3
   have nwr:PT∉(s5.heap.objs.size::[n0+4,n0+3,n0,n0+1]):=fun hmem=>by
    obtain ⟨vs',e'⟩:=cx5.Yz.tab
    have l5:=eK e'
    obtain ⟨vs3,e3⟩:=cx3.Yz.tab
    rcases dP.mp hmem with q|hmem
    ·rw[q] at e';exact absurd (eK e') (iE _)
    ·rw[a1R _ hmem] at e3;exact YD e3
   have u7:Pu s {s7 with heap:=s7.heap.push {cls:=.type "tuple",data:=.seq acc}}:=by
    refine⟨fun b o e n=>b6 _ (a2F b o e n),fun ht=>?_,fun hb=>(F5.movedS (s':=s7) (u16.gens hb) hm:F5 s7.gens),hm.drawn.trans u16.drawn,hm.os.trans u16.os⟩
    obtain ⟨vs',e'⟩:=u16.tab ht
    exact⟨vs',b6 _ (hm.heap _ _ nwr e')⟩
   have hD:s.heap.get? s7.heap.objs.size=none:=by
    cases e:s.heap.get? s7.heap.objs.size with
    |none=>rfl
    |some o=>
     by_cases q:s7.heap.objs.size=PT
     ·obtain ⟨vs',e'⟩:=u16.tab cx.Yz.tab
      have:=eK (hm.heap _ _ nwr e')
      rw[←q] at this
      exact absurd this (iE _)
     ·exact absurd (eK (a2F _ _ e q)) (iE _)
   have hpass:passing (fun Z=>true) xs.size 0=jI xs.size:=by unfold passing;simp
   refine hQ _ _ acc u7 hD ⟨_,ck _ rfl⟩ (ints_rep ?_ fun j v hv=>?_)
   ·have:=hacc.1
    rw[hpass] at this
    simp at this ⊢
    exact XJ hlen lx ly sx sy this
   ·obtain ⟨i,hi,hlt,t,rfl⟩:=hacc.2 j v (by simpa using hv)
    rw[hpass] at hi
    have a4Q:i=j:=by
     have:=qa.mp hi
     obtain ⟨hj,e⟩:=this
     simp at e;exact e.symm
    subst a4Q
    refine⟨t,?_⟩
    have hb:i<bs.length:=by exact Yd hlen lx ly sx sy hlt
    congr 1
    simp[bq,List.getElem?_zipWith,hlt,hb]
  ·rw[c9]
   unfold passing
   have:=vF (fun Z=>true) ((jI xs.size).drop 0)
   simp at this ⊢
   exact Yj hlen hsz lx ly sx sy this
end
end
section
section
variable {w:gp}{k:Nat}{A:Around}{X X':Addr→Prop}{env:UI}{sc:Scope}{ρ ρ':Yx}{s s':aE}
noncomputable def Zy:Stmt→List Stmt
 | .For _ _ b _ _=>b
 |_=>[]
noncomputable def W4 (w:gp)(A:Around)(env:UI)(rest:List Stmt)(Q:zh→aE→Prop)(E:bX→aE→Prop):zh→aE→Prop:=fun f s'=>match f with
 | .next=>cE (cS PW w) A (oz rest env) Q E s'
 |f=>Q f s'
theorem aH {st:Stmt}{rest:List Stmt}{Q:zh→aE→Prop}{E:bX→aE→Prop}(h:cE (cS PW w) A (Nn st env) (W4 w A env rest Q E) E s):cE (cS PW w) A (oz (st::rest) env) Q E s:=AL h
variable {μ:YX}
theorem Start.back {a:Addr}{s1 s2:aE}{as:List Addr}(st:Start w k A X X' env sc ρ a s s1)(pb:YF (dj env sc as) s1 s2)(hn:∀x∈as,s.heap.get? x=none):Pu s s2:=
 pb.pu st.pu fun x o z e=>by
  rcases z with z|z
  ·rw[st.new x z.pl] at e;exact YD e
  ·rw[hn x z] at e;exact YD e
theorem ug (mx:Mx w k A X env sc ρ μ s){x:Str}{p:UK}{d:D}(hk:LC sc x)(h:ρ.lookup x=some d)
  (deb:(x==af "__debug__")=false) (ncd:(x==af "__classdict__")=false):aV w A X (ku (.Name x p) env) d s:=aK mx.cx (hk.imp id .inl) h deb ncd
theorem Mx.freeze {a:Addr}{d:D}{YC YM:YX}(mx:Mx w k A X env sc ρ (YC++(a,d)::YM) s){x:Str}(hx:ρ.lookup x=some (.val (.ref a))):Cx w k A (fun b=>X b∧b≠a) env sc ((x,d)::ρ) s:=by
 have hin:(a,d)∈YC++(a,d)::YM:=by simp
 have cx:=mx.cx
 have up:Up X (fun b=>X b∧b≠a) s.heap s.heap:=⟨fun Z Z e Z=>e,fun Z Z Z q=>q.1⟩
 have npl:=mx.mu.away _ hin
 have pl:∀b,Pl env sc b→X b∧b≠a:=fun b h=>⟨(cx.places h).1,fun q=>npl (q▸h)⟩
 have rep:Rep w s.heap (fun b=>X b∧b≠a) d (.ref a):=(mx.mu.at_ _ hin).rep (mx.mu.a3R hin) up fun q=>q.2 rfl
 refine⟨cx.a,⟨⟨cx.Yz.pt,i7 (mx.mu.YZ hin)⟩,cx.Yz.tab,fun b h=>cx.Yz.lt b h.1⟩,cx.base.up up,⟨cx.vis.eqs,cx.vis.kind,cx.vis.glob,cx.vis.bi,cx.vis.neL,pl _ (.inl rfl),?_,fun n hn=>?_,cx.vis.inj⟩⟩
 ·obtain ⟨m,hm,h2⟩:=cx.vis.loc
  refine⟨m,hm,fun n d' e kn=>?_⟩
  rw[fF] at e
  by_cases q:n=x
  ·subst q
   simp only[beq_self_eq_true] at e
   obtain rfl:=aI e
   obtain ⟨v,hv,r⟩:=h2 n _ hx kn
   obtain rfl:=r
   exact⟨_,hv,rep⟩
  ·rw[show(n==x)=false from by simpa using q] at e
   obtain ⟨v,hv,r⟩:=h2 n d' e kn
   exact⟨v,hv,r.up up _ _⟩
 ·obtain ⟨c,v,h1,h2,h3,h4,h5,h6⟩:=cx.vis.cells n hn
  refine⟨c,v,h1,h2,h3,pl _ (.inr ⟨n,hn,h1⟩),h5,fun d' e=>?_⟩
  rw[fF] at e
  by_cases q:n=x
  ·subst q
   simp only[beq_self_eq_true] at e
   obtain rfl:=aI e
   obtain ⟨u,hu,r⟩:=h6 _ hx
   obtain rfl:=r
   exact⟨_,hu,rep⟩
  ·rw[show(n==x)=false from by simpa using q] at e
   obtain ⟨u,hu,r⟩:=h6 d' e
   exact⟨u,hu,r.up up _ _⟩
theorem aa {H:Hooks}(hH:au w H k){e:PySem.Expr}{d:D}{cs:List Prop}(cx:Cx w k A X env sc ρ s)(h:aZ H e sc ρ=some (d,cs))(hc:AllP cs):aV w A X (ku e env) d s:=(bh hH e h hc cx).1.snd.ev
theorem dY {H:Hooks}(hH:au w H k){e:PySem.Expr}{d:D}{b:Bool}{cs:List Prop}(cx:Cx w k A X env sc ρ s)(h:aZ H e sc ρ=some (d,cs))(hb:gh d=some b)(hc:AllP cs):fM w A (isTrue e env (ku e env)) b s:=(bh hH e h hc cx).1.snd.test b hb
theorem Ii {H:Hooks}(hH:au w H k)(fuel:Nat)(mx:Mx w k A X env sc ρ μ s){st:Stmt}{post:Yx→Prop}{Q:zh→aE→Prop}{E:bX→aE→Prop}(h:pw H fuel st sc ρ post (fun Z=>False))
  (hQ:∀ρ' s',post ρ'→YF (Own env sc) s s'→Mx w k A X env sc ρ' μ s'→Q .next s'):cE (cS PW w) A (Nn st env) Q E s:=
 Eh hH fuel st h mx.cx fun f s' hf=>by
  cases f with
  |next=>obtain ⟨ρ',hp,pb,c'⟩:=hf;exact hQ ρ' s' hp pb (mx.step pb c')
  |ret v=>exact hf.elim fun Z h=>h.1.elim
  |brk=>exact hf.elim
  |cont=>exact hf.elim
end
end
section
section
variable {w:gp}{k:Nat}{A:Around}{X X':Addr→Prop}{env:UI}{sc:Scope}{ρ ρ':Yx}{s s':aE}{μ YC YM:YX}
theorem a0k:∀(m:KD),a08 (m.map (fun x=>x.1)) (m.map (fun x=>x.2))=m.map fun p=>.tup [.str p.1,p.2]
 | []=>rfl
 |p::m=>by simp only[dc,a08,a0k m]
theorem Jx {a:Addr}{m:KD}(mx:Mx w k A X env sc ρ (YC++(a,aj m)::YM) s){key:Str}{t:UN}{d:D}{Q E:bX→aE→Prop}(h:Zg m key=some d)
  (hQ:∀v n,Rep w s.heap X d v→Q v {s with toks:=n}):cE (cS PW w) A (CM (.ref a) (.str key t)) Q E s:=by
 have hin:(a,aj m)∈YC++(a,aj m)::YM:=by simp
 obtain ⟨kvs,hp,hk,hr⟩:=(mx.mu.at_ _ hin).d
 have:∀(m:KD) (kvs:List (Str×bX)),kvs.map (fun x=>x.1)=m.map (fun x=>x.1)→aX w s.heap X (m.map (fun x=>x.2)) (kvs.map (fun x=>x.2))→Zg m key=some d→∃v,GU kvs key=some v∧Rep w s.heap X d v:=by
  intro m
  induction m with
  |nil=>intro kvs _ _ h;exact YD h
  |cons p m ih=>
   intro kvs hk hr h
   cases kvs with
   |nil=>simp at hk
   |cons q kvs=>
    simp only[dc,BA] at hk
    obtain ⟨v',t,e,r1,r2⟩:=hr
    injection e with e1 e2
    subst e1 e2
    unfold Zg at h
    unfold GU
    rw[k6] at h ⊢
    rw[←hk.1] at h
    by_cases c:q.1=key
    ·simp only[c,decide_true,zo,ES] at h ⊢
     subst h
     exact⟨_,rfl,r1⟩
    ·simp only[c,decide_false] at h ⊢
     exact ih kvs hk.2 r2 h
 obtain ⟨v,hv,rv⟩:=this m kvs hk hr h
 exact NH (EI PW w _ t) hp.mapOf hv (hQ _ _ rv)
end
end
section
theorem jm (m:KD)(k:Str):(Zg m k).isSome=(m.map (fun x=>x.1)).contains k:=by
 induction m with
 |nil=>rfl
 |cons p m ih=>
  unfold Zg at ih ⊢
  rw[k6,dc,LO]
  by_cases c:p.1=k
  ·simp[c]
  ·rw[show(decide (p.1=k))=false from decide_eq_false c,show(k==p.1)=false from by simpa using i7 c]
   simpa using ih
theorem oM {m:KD}{k:Str}{d:D}(h:Zg m k=some d):(k,d)∈m:=by
 unfold Zg at h
 obtain ⟨p,hp,rfl⟩:=iF.mp h
 have h1:=List.find?_some hp
 have h2:=List.mem_of_find?_eq_some hp
 simp only[decide_eq_true_eq] at h1
 exact h1▸h2
theorem Eg {m:KD}{k:Str}{d:D}{p:Str×D}(h:p∈putD m k d):p∈m∨p.2=d:=by
 unfold putD at h
 split at h
 ·obtain ⟨q,hq,e⟩:=eg.mp h
  split at e
  ·exact .inr (by rw[←e])
  ·exact .inl (e▸hq)
 ·rcases eW.mp h with h|h
  ·exact .inl h
  ·simp at h;exact .inr (by rw[h])
theorem mC (m:KD)(k:Str)(d:D):(putD m k d).length≤m.length+1:=by
 unfold putD
 split<;>simp
theorem fu (k:Str):∀(m:KD),((m.map (fun x=>x.1)).zip (m.map (fun x=>x.2))).lookup k=Zg m k
 | []=>rfl
 |p::m=>by
  have ih:=fu k m
  unfold Zg at ih ⊢
  rw[dc,dc,BC,fF,k6]
  by_cases c:p.1=k
  ·simp[c]
  ·rw[show(decide (p.1=k))=false from decide_eq_false c,show(k==p.1)=false from by simpa using i7 c]
   exact ih
theorem gM {m:KD}{k:Str}{d:D}{p:Str×D}(h:p∈dX m k d):p∈m∨p.2=d∨∃o,(k,o)∈m∧p.2=a0E d o:=by
 unfold dX at h
 rcases Eg h with h|h
 ·exact .inl h
 ·cases e:Zg m k with
  |none=>rw[e] at h;exact .inr (.inl h)
  |some o=>rw[e] at h;exact .inr (.inr ⟨o,oM e,h⟩)
theorem Kinds.step {m:KD}{p:Str×D}{r:KD}(h:Kinds m (p::r)):Kinds (dX m p.1 p.2) r:=by
 rcases h with ⟨h1,h2⟩|⟨h1,h2⟩
 ·refine .inl ⟨fun q hq=>?_,fun q hq=>h2 q (bE _ hq)⟩
  obtain ⟨i,hi⟩:=h2 p ay
  rcases gM hq with h|h|⟨o,ho,h⟩
  ·exact h1 q h
  ·exact⟨i,h.trans hi⟩
  ·obtain ⟨j,hj⟩:=h1 _ ho
   refine⟨j+i,?_⟩
   rw[h,hi,show o=.int j from hj];rfl
 ·refine .inr ⟨fun q hq=>?_,fun q hq=>h2 q (bE _ hq)⟩
  obtain ⟨i,i',hi⟩:=h2 p ay
  rcases gM hq with h|h|⟨o,ho,h⟩
  ·exact h1 q h
  ·exact⟨i,i',h.trans hi⟩
  ·obtain ⟨j,j',hj⟩:=h1 _ ho
   refine⟨i+j,i'+j',?_⟩
   rw[h,hi,show o=.tup [.int j,.int j'] from hj];rfl
section
variable {w:gp}{k:Nat}{A:Around}{X X':Addr→Prop}{env:UI}{sc:Scope}{ρ ρ':Yx}{s s':aE}{μ YC YM:YX}
noncomputable abbrev nN:Str:=af "new_callers"
noncomputable abbrev nF:Str:=af "func"
noncomputable abbrev nC:Str:=af "caller"
noncomputable abbrev acB (a:Addr)(t s:KD):Yx:=[(nN,.val (.ref a)),(af "target",aj t),(af "source",aj s)]
theorem Eu {ρ ρ':Yx}(h:∀p∈ρ',ρ.lookup p.1=some p.2):Sub ρ' ρ:=Be h
theorem Az {a:Addr}{m:KD}(mx:Mx w k A X env sc ρ (YC++(a,aj m)::YM) s){e:PySem.Expr}{x y:Str}{p1 p2 p3 pos:UK}{d:D}{key:Str}{Q:zh→aE→Prop}{E:bX→aE→Prop}(he:aV w A X (ku e env) d s)(hx:aV w A X (ku (.Name x p1) env) (.val (.ref a)) s)
  (hy:aV w A X (ku (.Name y p2) env) (.str key) s) (hsw:swapsWith e (some (.Subscript (.Name x p1) (.Name y p2) p3)) pos.line env=AS false) (hl:m.length≤sizeLine)
  (hQ:∀s',YF (dj env sc [a]) s s'→Mx w k A X env sc ρ (YC++(a,aj (putD m key d))::YM) s'→Q .next s'):cE (cS PW w) A (Nn (.Assign [.Subscript (.Name x p1) (.Name y p2) p3] e pos) env) Q E s:=by
 refine wpAny_Assign_Subscript (he.now _ _ fun v s1 u1 r1=>(hx.pu u1).now _ _ fun v2 s2 u2 r2=>(hy.pu (u1.trans u2)).now _ _ fun v3 s3 u3 r3=>?_) hsw
 obtain ⟨t,rfl⟩:=r3
 have e2:v2=.ref a:=r2
 rw[e2]
 exact FW (mx.pu ((u1.trans u2).trans u3)) (r1.up ((u2.trans u3).up mx.cx.Yz.pt) _ _) hl fun s' pb m=>hQ s' ((YF.YB ((u1.trans u2).trans u3)).trans (pb.mono fun b q=>.inr (bS.mpr q))) m
theorem My {a:Addr}{m:KD}(mx:Mx w k A X env sc ρ (YC++(a,aj m)::YM) s){e:PySem.Expr}{x y:Str}{p1 p2 p3 pos:UK}{i j:Int}{key:Str}{Q:zh→aE→Prop}{E:bX→aE→Prop}(he:aV w A X (ku e env) (.int i) s)(hx:aV w A X (ku (.Name x p1) env) (.val (.ref a)) s)
  (hy:aV w A X (ku (.Name y p2) env) (.str key) s) (ho:Zg m key=some (.int j)) (hl:m.length≤sizeLine)
  (hQ:∀s',YF (dj env sc [a]) s s'→Mx w k A X env sc ρ (YC++(a,aj (putD m key (.int (j+i))))::YM) s'→Q .next s'):cE (cS PW w) A (Nn (.AugAssign (.Subscript (.Name x p1) (.Name y p2) p3) .Add e pos) env) Q E s:=by
 refine wpAny_AugAssign_Subscript (hx.now _ _ fun v1 s1 u1 r1=>(hy.pu u1).now _ _ fun v2 s2 u2 r2=>?_)
 obtain ⟨t,rfl⟩:=r2
 have e1:v1=.ref a:=r1
 rw[e1]
 refine Jx (mx.pu (u1.trans u2)) ho fun v3 n3 r3=>(he.pu ((u1.trans u2).trans (Pu.toks s2 n3))).now _ _ fun v4 s4 u4 r4=>?_
 obtain ⟨t3,rfl⟩:=r3
 obtain ⟨t4,rfl⟩:=r4
 have uu:=(((u1.trans u2).trans (Pu.toks s2 n3)).trans u4).trans (Pu.toks s4 (s4.toks+1))
 exact IB (FW (mx.pu uu) cI hl fun s' pb m=>hQ s' ((YF.YB uu).trans (pb.mono fun b q=>.inr (bS.mpr q))) m)
noncomputable abbrev scC:Scope:=cF "add_callers"
noncomputable def a2Y:List Stmt:=Zy ((dZ "add_callers").getD 2 nE)
noncomputable abbrev acV (p:Str×D)(a:Addr)(t s:KD):Yx:=(nC,p.2)::(nF,.str p.1)::acB a t s
noncomputable def Fi (m:KD)(d:D):Prop:=((∀q∈m,IsI q.2)∧IsI d)∨((∀q∈m,IsP q.2)∧IsP d)
set_option maxHeartbeats 4000000 in
theorem G9 (hH:au w T1 (k+6)){p:Str×D}{a:Addr}{t so m:KD}(mx:Mx w (k+6) A X env scC (acV p a t so) [(a,aj m)] s)(code:env.code=.ref 65)(hk:Fi m p.2)(ml:m.length≤sizeLine){Q:zh→aE→Prop}{E:bX→aE→Prop}
  (hQ:∀s',YF (dj env scC [a]) s s'→Mx w (k+6) A X env scC (acV p a t so) [(a,aj (dX m p.1 p.2))] s'→Q .next s'):cE (cS PW w) A (oz a2Y env) Q E s:=by
 have nm:∀{n x d},scC.names.lookup n=some .local→(acV p a t so).lookup n=some d→(n==af "__debug__")=false→(n==af "__classdict__")=false→aV w A X (ku (.Name n x) env) d s:=fun h1 h2 h3 h4=>aK mx.cx (.inl h1) h2 h3 h4
 have hC:=fun x=>nm (n:=nC) (x:=x) (by kernel_rfl) rfl (by decide +kernel) (by decide +kernel)
 have hF:=fun x=>nm (n:=nF) (x:=x) (by kernel_rfl) rfl (by decide +kernel) (by decide +kernel)
 have hN:=fun x=>nm (n:=nN) (x:=x) (by kernel_rfl) rfl (by decide +kernel) (by decide +kernel)
 have cf:=mx.freeze (YC:=[]) (x:=nN) rfl
 refine aH (A0 ((bh hH _ (d:=.bool ((m.map (fun x=>x.1)).contains p.1)) (cs:=[]) rfl trivial cf).1.snd.test _ rfl s (Pu.refl _) _ _ fun s1 u1=>?_))
 have m1:=mx.pu u1
 rw[←jm]
 cases ho:Zg m p.1 with
 |none=>
  have es:dX m p.1 p.2=putD m p.1 p.2:=by unfold dX;rw[ho]
  exact aH (Az (YC:=[]) m1 ((hC _).pu u1) ((hN _).pu u1) ((hF _).pu u1) rfl ml fun s2 p2 m2=>dS (dS (hQ s2 ((YF.YB u1).trans p2) (es▸m2))))
 |some o=>
  have es:dX m p.1 p.2=putD m p.1 (a0E p.2 o):=by unfold dX;rw[ho]
  have hom:=oM ho
  rcases hk with ⟨k1,i,hi⟩|⟨k1,i,i',hi⟩
  ·obtain ⟨j,hj⟩:=k1 _ hom
   obtain ⟨key,pd⟩:=p
   have hi:pd=.int i:=hi
   have hj:o=.int j:=hj
   subst hi hj
   refine aH (A0 ((bh hH _ (d:=.bool false) (cs:=[]) rfl trivial mx.cx).1.snd.test _ rfl s1 u1 _ _ fun s2 u2=>?_))
   have u12:=u1.trans u2
   exact aH (My (YC:=[]) (mx.pu u12) ((hC _).pu u12) ((hN _).pu u12) ((hF _).pu u12) ho ml fun s3 p3 m3=>dS (dS (dS (hQ s3 ((YF.YB u12).trans p3) (es▸m3)))))
  ·obtain ⟨j,j',hj⟩:=k1 _ hom
   obtain ⟨key,pd⟩:=p
   have hi:pd=.tup [.int i,.int i']:=hi
   have hj:o=.tup [.int j,.int j']:=hj
   subst hi hj
   refine aH (A0 ((bh hH _ (d:=.bool true) (cs:=[]) rfl trivial mx.cx).1.snd.test _ rfl s1 u1 _ _ fun s2 u2=>?_))
   have u12:=u1.trans u2
   have m2:=mx.pu u12
   have cf2:=cf.pu u12
   have he:(((m.map (fun x=>x.1)).zip (m.map (fun x=>x.2))).lookup key).getD .none=D.tup (List.map D.int [j,j']):=by rw[fu,ho];rfl
   refine aH (Az (YC:=[]) m2 (yO (k:=k+1) (as:=[i,i']) (bs:=[j,j']) m2.cx cf2.Yz code ⟨by kernel_rfl,by rfl⟩ ⟨by kernel_rfl,by rfl⟩ ⟨by rfl,by rfl,by decide +kernel,by decide +kernel,by decide +kernel,by decide +kernel,by decide +kernel,by decide +kernel,by decide +kernel⟩ ⟨rfl,rfl⟩
    (aK (d:=.tup [.int i,.int i']) cf2 (.inl (by kernel_rfl)) (by rfl) (by decide +kernel) (by decide +kernel)) ?_ rfl (b9 rfl)) ((hN _).pu u12) ((hF _).pu u12) rfl ml fun s3 p3 m3=>dS (dS (dS (hQ s3 ((YF.YB u12).trans p3) (es▸m3)))))
   rw[←he]
   exact aa hH cf2 (cs:=[key∈m.map (fun x=>x.1)]) rfl ⟨i6 (f:=zI) hom,trivial⟩
theorem map_getD {α β:Type}{f:α→β}{d:α}{l:List α}:l.map f=(jI l.length).map fun i=>f (l.getD i d):=by
 refine List.ext_getElem (by rw[bP,bP,C8]) fun i h1 h2=>?_
 rw[bP] at h1
 rw[AM,AM,LW,bq,c8 h1];rfl
theorem a1d:∀{r r' m:KD},aF m (r++r')=aF (aF m r) r':=by
 intro r
 induction r with
 |nil=>exact rfl
 |cons p r ih=>exact ih
theorem zy {r':KD}:∀{r m:KD},Kinds m (r++r')→Kinds (aF m r) r':=by
 intro r
 induction r with
 |nil=>exact fun h=>h
 |cons p r ih=>exact fun h=>ih h.step
theorem d8 (r:KD):∀(m:KD),(aF m r).length≤m.length+r.length:=by
 induction r with
 |nil=>exact fun Z=>gz _
 |cons p r ih=>
  intro m
  refine ai (ih _) ?_
  rw[i9,rS r.length 1,←CD]
  exact fq (mC ..) _
set_option maxHeartbeats 4000000 in
theorem xW (hH:au w T1 (k+6))(hA:Zv (k+7) A)(hX:Z6 X s)(hB:Base w X s.heap){t so:KD}{vs:List bX}(r:aX w s.heap X [aj t,aj so] vs)
  (hk:Kinds t so) (ht:(t.map (fun x=>x.1)).Nodup) (hl:t.length+so.length≤1000) {Q E:bX→aE→Prop}
  (hQ:∀b s',Pu s s'→s.heap.get? b=none→61<b→cB w s'.heap X b (aj (aF t so))→Q (.ref b) s'):cE (cS PW w) A (call (.ref 66) vs) Q E s:=by
 refine dq (k:=k+6) hA hX hB (show Zd.lookup 66=some (bU "add_callers",dZ "add_callers",cF "add_callers") from by kernel_rfl) (ps:=psN "add_callers") (by decide +kernel) (fun fd e1 e2 e3=>fQ e1 e2 e3 fun fd=>?_) rfl r fun env X' s1 st=>?_
 ·obtain ⟨a,b,h⟩:=xM (r.length (l:=[aj t,aj so]));exact h▸rfl
 refine aH (uE (sc:=scC) (Mx.of st.cx) (x:=nN) (.inl (by kernel_rfl)) fun a s2 hn2 Zc mx2=>?_)
 have code:env.code=.ref 65:=by
  obtain ⟨_,_,o,fd,_,_,_,_,_,_,_,_,_,e1,e2,e3⟩:=hB.a0K
  rw[st.code o fd e1 e2,e3]
 have dat:=fun m:KD=>map_getD (f:=fun p:Str×D=>D.tup [.str p.1,p.2]) (d:=nE) (l:=m)
 refine aH (jL (n:=t.length) (V:=fun Z=>acB a t so) (M:=fun i=>[(a,aj (t.take i))]) (fun i=>.tup [.str (t.getD i nE).1,(t.getD i nE).2]) (fun i=>acV (t.getD i nE) a t so) [a] mx2 (by kernel_rfl) (by kernel_rfl)
  (fun s' u=>nZ (mx2.cx.pu u) (aK (mx2.cx.pu u) (.inl (by kernel_rfl)) (by rfl) (by decide +kernel) (by decide +kernel)) rfl (by kernel_rfl) rfl) ((a0k t).trans (dat t)) (fun i=>rfl) (fun i=>rfl) (fun i hi {X3 s3 Q3 E3} m3 hX h=>?_) fun s3 pb3 mx3=>?_)
 ·have fresh:(t.getD i nE).1∉(t.take i).map (fun x=>x.1):=fun q=>by
   rw[←ID (i+1) t,fK (d:=nE) hi,g9,g9] at ht
   exact(i8.mp (i8.mp ht).1).2.2 _ q _ ay rfl
  have hl2:(t.take i).length≤sizeLine:=by rw[yb,c9];exact ai (AJ _ _) (ai (f5 _ _) (ai hl (by decide)))
  refine aH (Az (YC:=[]) m3 (aK (d:=(t.getD i nE).2) m3.cx (.inl (by kernel_rfl)) (by rfl) (by decide +kernel) (by decide +kernel)) (aK (d:=.val (.ref a)) m3.cx (.inl (by kernel_rfl)) (by rfl) (by decide +kernel) (by decide +kernel)) (aK (d:=.str (t.getD i nE).1) m3.cx (.inl (by kernel_rfl)) (by rfl) (by decide +kernel) (by decide +kernel)) rfl hl2 fun s4 p4 m4=>dS (h s4 p4 ?_))
  rw[pL fresh] at m4
  exact(fK (d:=nE) hi:t.take (i+1)=_)▸m4.Zf (Eu (fE.mpr ⟨rfl,fE.mpr ⟨rfl,fE.mpr ⟨rfl,by simp⟩⟩⟩))
 rw[GG] at mx3
 refine aH (jL (n:=so.length) (V:=fun Z=>acB a t so) (M:=fun i=>[(a,aj (aF t (so.take i)))]) (fun i=>.tup [.str (so.getD i nE).1,(so.getD i nE).2]) (fun i=>acV (so.getD i nE) a t so) [a] mx3 (by kernel_rfl) (by kernel_rfl)
  (fun s' u=>nZ (mx3.cx.pu u) (aK (mx3.cx.pu u) (.inl (by kernel_rfl)) (by rfl) (by decide +kernel) (by decide +kernel)) rfl (by kernel_rfl) rfl) ((a0k so).trans (dat so)) (fun i=>rfl) (fun i=>rfl) (fun i hi {X3 s4 Q3 E3} m4 hX h=>?_) fun s4 pb4 mx4=>?_)
 ·have ed:aF t (so.take (i+1))=dX (aF t (so.take i)) (so.getD i nE).1 (so.getD i nE).2:=by rw[fK (d:=nE) hi,a1d];rfl
  have hkk:Fi (aF t (so.take i)) (so.getD i nE).2:=by
   rw[←ID (i+1) so,fK (d:=nE) hi,ko] at hk
   exact(zy hk).imp (fun q=>⟨q.1,q.2 _ ay⟩) fun q=>⟨q.1,q.2 _ ay⟩
  have hl2:(aF t (so.take i)).length≤sizeLine:=ai (d8 _ _) (by rw[yb,c9];exact ai (gS (AJ _ _) _) (ai hl (by decide)))
  exact G9 hH m4 code hkk hl2 fun s5 p5 m5=>h s5 p5 (ed▸m5.Zf (Eu (fE.mpr ⟨rfl,fE.mpr ⟨rfl,fE.mpr ⟨rfl,by simp⟩⟩⟩)))
 rw[GG] at mx4
 refine aH (nk ((aK (d:=.val (.ref a)) mx4.cx (.inl (by kernel_rfl)) (by rfl) (by decide +kernel) (by decide +kernel)).now _ _ fun v s5 u5 r5=>?_))
 obtain rfl:=r5
 have mx5:=mx4.pu u5
 have hin:(a,aj (aF t so))∈[(a,aj (aF t so))]:=ay
 have na:s.heap.get? a=none:=oq.mpr fun o e=>YD (hn2.symm.trans (st.pu.heap a o e (mx5.mu.YZ hin)))
 have put:Pu s s5:=st.back (as:=[a]) (((Zc.mono fun b h=>.inl h).trans (pb3.trans pb4)).trans (.YB u5)) (fun x h=>bS.mp h▸na)
 exact hQ a s5 put na (mx5.mu.big _ hin) ((mx5.mu.at_ _ hin).up ⟨fun Z Z e Z=>e,fun b Z Z h=>.inl (st.grow b h)⟩ fun Z e=>e)
end
end
section
noncomputable def kdOf (ks:List Str)(ds:List D):KD:=ks.zip ds
noncomputable def vg (ds:List D):R:=on2 ds fun a b=>a.onD fun k1 d1=>b.onD fun k2 d2=>some (aj (aF (kdOf k1 d1) (kdOf k2 d2)),[k1.length=d1.length,k2.length=d2.length,Kinds (kdOf k1 d1) (kdOf k2 d2),k1.Nodup,k1.length+k2.length≤1000])
noncomputable def T3:Hooks:=T2.add 66 vg
section
variable {w:gp}{k:Nat}{A:Around}{X X':Addr→Prop}{s s':aE}
theorem qO {ks:List Str}{ds:List D}(h:ks.length=ds.length):aj (kdOf ks ds)=.dct ks ds∧(kdOf ks ds).map (fun x=>x.1)=ks∧(kdOf ks ds).length=ks.length:=by
 have e1:(kdOf ks ds).map (fun x=>x.1)=ks:=by
  unfold kdOf
  rw[show(fun p:Str×D=>p.1)=zI from rfl,List.map_fst_zip (by exact zP h)]
 have e2:(kdOf ks ds).map (fun x=>x.2)=ds:=by
  unfold kdOf
  rw[show(fun p:Str×D=>p.2)=Prod.snd from rfl,List.map_snd_zip (by exact V8 h)]
 exact⟨by unfold aj;rw[e1,e2],e1,by have:=congrArg CS e1;simpa using this⟩
theorem uz (hX:Z6 X s){b:Addr}{d:D}(hn:s.heap.get? b=none)(hb:61<b)(hm:cB w s'.heap X b d):Rep w s'.heap X d (.ref b):=by
 have nb:¬X b:=fun h=>by obtain ⟨o,ho⟩:=hX.lt b h;exact YD (hn.symm.trans ho)
 exact hm.rep (fun q=>absurd (q▸hb) (by decide)) ⟨fun Z Z e Z=>e,fun Z Z Z h=>h⟩ nb
theorem w7 (w:gp):au w T3 13:=by
 refine(BJ w).add 66 vg fun ds d cs h hc A X s vs hA hX hB r Q E hQ=>?_
 replace h:=eH h;obtain ⟨a,b,rfl,h⟩:=h
 replace h:=gZ h;obtain ⟨k1,d1,rfl,h⟩:=h
 replace h:=gZ h;obtain ⟨k2,d2,rfl,h⟩:=h
 ·obtain ⟨rfl,rfl⟩:=dQ (aI h)
  obtain ⟨l1,l2,hk,hn,hl,_⟩:=hc
  obtain ⟨e1,f1,g1⟩:=qO l1
  obtain ⟨e2,f2,g2⟩:=qO l2
  rw[←e1,←e2] at r
  refine xW (k:=6) ((G8 w).mono (by exact a4a)) hA hX hB r hk (by rw[f1];exact hn) (by exact PP l1 l2 hl g1 g2) fun b s' u hnb hb hm=>hQ _ _ u (uz hX hnb hb hm)
end
end
section
noncomputable abbrev H0:Heap:={}
noncomputable def iH (fr:List Addr)(h h':Heap):Prop:=∀a o,h.get? a=some o→h'.get? a=some o∨(a∈fr∧∃sl,h'.get? a=some {o with slots:=sl})
theorem iH.refl {fr:List Addr}{h:Heap}:iH fr h h:=fun Z Z e=>.inl e
theorem iH.trans {fr:List Addr}{h h' h'':Heap}(x:iH fr h h')(y:iH fr h' h''):iH fr h h'':=fun a o e=>by
 rcases x a o e with q|⟨m,sl,q⟩
 ·exact y a o q
 ·rcases y a _ q with r|⟨_,sl',r⟩
  ·exact .inr ⟨m,sl,r⟩
  ·exact .inr ⟨m,sl',r⟩
theorem iH.mono {fr fr':List Addr}{h h':Heap}(x:iH fr h h')(s:∀a∈fr,a∈fr'):iH fr' h h':=fun a o e=>(x a o e).imp id fun q=>⟨s a q.1,q.2⟩
theorem iH.of_keeps {fr:List Addr}{h h':Heap}(k:∀a o,h.get? a=some o→h'.get? a=some o):iH fr h h':=fun a o e=>.inl (k a o e)
noncomputable def frs (l:List UI):List Addr:=l.filterMap (fun x=>x.frame)
structure Fly (fr:List Addr)(h0:Heap)(e dx:Addr)(h:Heap):Prop where
 keep:iH fr h0 h
 new:h0.get? e=none
 exc:∃vs sl,h.get? e=some ⟨.ref 174,some dx,.fields vs,sl⟩∧3<vs.size∧(vs[1]?=some .none∨∃T oT ts,vs[1]?=some (.ref T)∧h0.get? T=none∧T≠e∧h.get? T=some oT∧oT.data=.fields ts∧3<ts.size∧ts[3]?=some .none)
section
variable {M:TM}{A:Around}{E:bX→aE→Prop}{s:aE}
theorem qG (a:Addr):H0.get? a=none:=by
 cases e:H0.get? a with
 |none=>rfl
 |some o=>exact absurd (eK e) (by trivial)
theorem qH {env:UI}{outer:List UI}{L e dx:Addr}{vs:Array bX}{sl:Array (Option bX)}{h0:Heap}{head:bX}{hadNext:Bool}{Q:Unit→aE→Prop}
  (hfr:A.frames=some (env::outer)) (hl:s.heap.FunFrames H0 (env::outer)) (hf:env.frame=some L) (keep:iH (frs (env::outer)) h0 s.heap) (new:h0.get? e=none)
  (he:s.heap.get? e=some ⟨.ref 174,some dx,.fields vs,sl⟩) (hsz:3<vs.size)
  (h:∀h',Fly (frs (env::outer)) h0 e dx h'→h'.FunFrames H0 (env::outer)→Q () {s with heap:=h'}) :
  cE M A (do let a←frameOf env;let pl←entryPlaceOf L hadNext;let b←L6 head a .none (y9 L) .none pl;setField (.ref e) 1 b) (fun Z s'=>cE M A (EH (.ref e) none) Q E s') E s:=by
 have hene:e∉(env::outer).filterMap (fun x=>x.frame):=fun hm=>by
  obtain ⟨_,o,ho,hnf⟩:=hl.mem hm
  rw[he] at ho;injection ho with ho;subst ho;exact hnf vs rfl
 refine ah (wpAny_frameOf_fun hfr hl hf fun h₁ hs₁=>?_)
 refine ah (wpAny_entryPlaceOf fun pl hpl=>?_)
 unfold L6 newFields
 refine ah (l7 ?_ (hpl.sizeOk5 _ _ _ _ _))
 have he₁:h₁.get? e=some ⟨.ref 174,some dx,.fields vs,sl⟩:=(hs₁.2.1 e hene).trans he
 generalize htb:({cls:=.type "traceback",dict:=none,data:=.fields ([head,.ref L,.none,y9 L,.none]++(if pl.isEmpty then gv 6 kG else pl)).toArray}:Obj)=tb
 have htd:tb.data=.fields ([head,.ref L,.none,y9 L,.none]++(if pl.isEmpty then gv 6 kG else pl)).toArray:=by rw[←htb]
 have he₂:=b6 (h:=h₁) tb he₁
 refine AF he₂ rfl (by show 1<vs.size;exact Lr hsz) ?_
 have hTe:h₁.objs.size≠e:=oQ (eK he₁)
 have hd₃:=qB (o:=⟨.ref 174,some dx,.fields vs,sl⟩) rfl (·.setIfInBounds 1 (sf h₁.objs.size))
 have he₃:=k8 (xC (·.setIfInBounds 1 (sf h₁.objs.size))) he₂ (zC hd₃)
 have hT₃:((h₁.push tb).update e (xC (·.setIfInBounds 1 (sf h₁.objs.size)))).get? h₁.objs.size=some tb:=
  (gg (h₁.push tb) (xC (·.setIfInBounds 1 (sf h₁.objs.size))) (i7 hTe)).trans (ck h₁ (by rw[←htb];rfl))
 have hsz1:1<vs.size:=by exact Lr hsz
 unfold EH
 refine ah (kc he₃ hd₃ (x:=.ref h₁.objs.size) (by simp[hsz1]) ?_)
 rw[if_pos (show(sf h₁.objs.size != kG)=true from by simp)]
 refine AF hT₃ htd (by simp only[nh,fm,i9,D8]<;>exact Lf) (h _ ?_ ?_)
 ·have a2E:∀b o,b≠e→h₁.get? b=some o→
    (((h₁.push tb).update e (xC (·.setIfInBounds 1 (sf h₁.objs.size)))).update h₁.objs.size (xC (·.setIfInBounds 3 ((none:Option Addr).elim kG fun f=>y9 f)))).get? b=some o:=fun b o hbe hb=>by
   have hbT:h₁.objs.size≠b:=oQ (eK hb)
   rw[gg _ _ hbT,gg _ _ (i7 hbe)]
   exact b6 _ hb
  have k1:iH (frs (env::outer)) h0 h₁:=keep.trans fun a o ea=>by
   by_cases q:a∈frs (env::outer)
   ·obtain ⟨sl',e'⟩:=hs₁.2.2 a o ea;exact .inr ⟨q,sl',e'⟩
   ·exact .inl ((hs₁.2.1 a q).trans ea)
  refine⟨fun a o ea=>?_,new,vs.setIfInBounds 1 (.ref h₁.objs.size),sl,?_,?_,.inr ⟨h₁.objs.size,tb.mapFields (·.setIfInBounds 3 .none),(([head,.ref L,.none,y9 L,.none]++(if pl.isEmpty then gv 6 kG else pl)).toArray).setIfInBounds 3 .none,?_,?_,hTe,
   k8 _ hT₃ (zC (qB htd _)),qB htd _,?_,?_⟩⟩
  ·have nae:a≠e:=fun q=>by rw[q,new] at ea;exact YD ea
   rcases k1 a o ea with q|⟨m,sl',q⟩
   ·exact .inl (a2E a o nae q)
   ·exact .inr ⟨m,sl',a2E a _ nae q⟩
  ·rw[gg _ _ hTe];exact he₃
  ·simp;exact VG hsz
  ·simp[hsz1]
  ·cases q:h0.get? h₁.objs.size with
   |none=>rfl
   |some o=>rcases k1 _ _ q with q|⟨_,_,q⟩<;>exact absurd (eK q) (iE _)
  ·simp only[Array.size_setIfInBounds,nh,fm,i9,D8];exact Lf
  ·first|(simp;done)|(rcases hpl with rfl|⟨_,_,_,_,_,_,_,rfl⟩<;>simp)
 ·refine hl.of_keeps fun b o hb hnf=>?_
  have nbe:b≠e:=fun q=>by rw[q,he] at hb;injection hb with hb;subst hb;exact hnf vs rfl
  obtain ⟨sl',hs⟩:=hs₁.2.2 b o hb
  have hbT:h₁.objs.size≠b:=oQ (eK hs)
  refine⟨({o with slots:=sl'}:Obj),?_,rfl⟩
  rw[gg _ _ hbT,gg _ _ (i7 nbe)]
  exact b6 _ hs
theorem vG {env:UI}{outer:List UI}{L e dx:Addr}{h0:Heap}{Q:Unit→aE→Prop}(hfr:A.frames=some (env::outer))(hl:s.heap.FunFrames H0 (env::outer))(hf:env.frame=some L)
  (F:Fly (frs (env::outer)) h0 e dx s.heap) (h:∀h',Fly (frs (env::outer)) h0 e dx h'→h'.FunFrames H0 (env::outer)→Q () {s with heap:=h'}) :
  cE M A (Lo (.ref e) env) (fun Z s'=>cE M A (EH (.ref e) none) Q E s') E s:=by
 obtain ⟨vs,sl,he,hsz,hv⟩:=F.exc
 unfold Lo
 simp only[hf]
 rcases hv with h1|⟨T,oT,ts,h1,hT0,hTe,hT,hdT,hts,h3⟩
 ·refine ah (kc he rfl h1 ?_)
  rw[if_neg (by decide)]
  exact qH hfr hl hf F.keep F.new he hsz h
 ·refine ah (kc he rfl h1 ?_)
  rw[if_pos (show(sf T != kG)=true from by simp)]
  refine ah (kc hT hdT h3 ?_)
  rw[if_neg (show¬((kG==y9 L)=true) from by simp[y9])]
  refine ah (AF hT hdT hts ?_)
  have other:∀b,b≠T→(s.heap.update T (xC (·.setIfInBounds 3 kG))).get? b=s.heap.get? b:=fun b hb=>gg _ _ (i7 hb)
  refine qH (s:={s with heap:=s.heap.update T (xC (·.setIfInBounds 3 kG))}) hfr (hl.of_keeps fun b o hb hnf=>⟨o,(other b fun q=>?_).trans hb,rfl⟩) hf (fun a o ea=>?_) F.new ((other e (i7 hTe)).trans he) hsz h
  ·rw[q,hT] at hb;injection hb with hb;subst hb;exact hnf ts hdT
  ·have naT:a≠T:=fun q=>by rw[q,hT0] at ea;exact YD ea
   rcases F.keep a o ea with q|⟨m,sl',q⟩
   ·exact .inl ((other a naT).trans q)
   ·exact .inr ⟨m,sl',(other a naT).trans q⟩
theorem wL {fr:List Addr}{l:List UI}{e dx:Addr}{h0:Heap}{Q:Unit→aE→Prop}(hl:s.heap.FunFrames H0 l)(F:Fly fr h0 e dx s.heap)(h:∀h',Fly fr h0 e dx h'→h'.FunFrames H0 l→Q () {s with heap:=h'}):
  cE M A (EH (.ref e) none) Q E s:=by
 obtain ⟨vs,sl,he,hsz,hv⟩:=F.exc
 unfold EH
 rcases hv with h1|⟨T,oT,ts,h1,hT0,hTe,hT,hdT,hts,h3⟩
 ·refine ah (kc he rfl h1 ?_)
  rw[if_neg (by decide)]
  exact bg (h _ F hl)
 ·refine ah (kc he rfl h1 ?_)
  rw[if_pos (show(sf T != kG)=true from by simp)]
  have other:∀b,b≠T→(s.heap.update T (xC (·.setIfInBounds 3 kG))).get? b=s.heap.get? b:=fun b hb=>gg _ _ (i7 hb)
  refine AF hT hdT hts (h _ ⟨fun a o ea=>?_,F.new,vs,sl,(other e (i7 hTe)).trans he,hsz,.inr ⟨T,_,_,h1,hT0,hTe,k8 _ hT (zC (qB hdT _)),qB hdT _,?_,?_⟩⟩ (hl.of_keeps fun b o hb hnf=>⟨o,(other b fun q=>?_).trans hb,rfl⟩))
  ·have naT:a≠T:=fun q=>by rw[q,hT0] at ea;exact YD ea
   rcases F.keep a o ea with q|⟨m,sl',q⟩
   ·exact .inl ((other a naT).trans q)
   ·exact .inr ⟨m,sl',(other a naT).trans q⟩
  ·simpa using hts
  ·simp[hts]
  ·rw[q,hT] at hb;injection hb with hb;subst hb;exact hnf ts hdT
end
end
section
section
variable {w:gp}{k:Nat}{A:Around}{X X':Addr→Prop}{env:UI}{sc:Scope}{ρ ρ':Yx}{s s':aE}{μ YC YM:YX}{h h':Heap}
theorem gY {e dx:Addr}{vs:Array bX}{sl:Array (Option bX)}{M:TM}(he:h.get? e=some ⟨.ref 174,some dx,.fields vs,sl⟩):AA M h (JE (.ref e)) (.ref 174):=(IL he).andThen .now
theorem qR {e dx:Addr}{vs:Array bX}{sl:Array (Option bX)}{M:TM}{base:bX}{b:Bool}(he:h.get? e=some ⟨.ref 174,some dx,.fields vs,sl⟩)(hs:AA M h (GY (.ref 174) base) b):AA M h (AX (.ref e) base) b:=(gY he).andThen hs
theorem uY {K:Cb}{C:Addr}(hc:Gr K C=true):∃od cd sl,K.lookup C=some ⟨.type "type",od,.cls cd,sl⟩:=((W9 K C).get hc).1
theorem xn {e dx:Addr}{vs:Array bX}{sl:Array (Option bX)}{x:UM bX}{Q:zh→aE→Prop}{E:bX→aE→Prop}(hh:A.handled=none)
  (h:cE (cS PW w) A x (fun v s1=>∃e dx vs sl K,v=.ref e∧jG K∧K.In s1.heap∧s1.heap.get? e=some ⟨.ref 174,some dx,.fields vs,sl⟩∧vs[1]?=some .none∧E (.ref e) s1) E s) :
  cE (cS PW w) A (S4 env (some x) none) Q E s:=by
 unfold S4
 refine ah (qA h (fun v s1 h1=>?_) fun Z Z x=>x)
 obtain ⟨e,dx,vs,sl,K,rfl,FK,KI,he,hv,hE⟩:=h1
 refine ah (bg ?_)
 have lb:AA (cS PW w) s1.heap (AX (.ref e) (.type "BaseException")) true:=qR he (AN KI FK.a1v)
 have l1:AA (cS PW w) s1.heap (So (.ref e)) false:=(IL he).andThen .now
 have lc:AA (cS PW w) s1.heap (isExcClass (.ref e)) false:=l1.andThen .now
 have lt:AA (cS PW w) s1.heap (JE (.ref e)) (.ref 174):=gY he
 obtain ⟨od,cd,a4v,a1v⟩:=uY FK.a3x
 have lm:AA (cS PW w) s1.heap (JE (.ref 174)) (.type "type"):=(IL (KI _ _ a1v)).andThen .now
 have lx:AA (cS PW w) s1.heap (excFromValue (.ref e) "exceptions must derive from BaseException") (.ref e):=lc.andThen (lb.andThen .now)
 have lr:AA (cS PW w) s1.heap (raisedInstance (.ref e)) (.ref e):=lt.andThen (lm.andThen .now)
 refine ah ((fT (lx.here ?_)))
 dsimp only
 refine ah (l1.here ?_)
 simp only[fh,if_false]
 refine ah (lr.here ?_)
 refine ah ?_
 ·unfold EH
  refine ah (kc he rfl hv ?_)
  rw[if_neg (by decide)]
  refine bg ?_
  exact wpAny_raiseNew_none hh hE
theorem Et {H:Hooks}(hH:au w H k)(cx:Cx w k A X env sc ρ s){cn:Str}{np cp pos:UK}{arg:PySem.Expr}{ks:List Str}{ds:List D}{cs:List Prop}{Q:zh→aE→Prop}{E:bX→aE→Prop}
  (hn:sc.names.lookup cn=some .globalImplicit∧cH cn=some (.val (.ref 174))) (ha:aZ H arg sc ρ=some (.dct ks ds,cs)) (hc:AllP cs) (hst:isStarred arg=false)
  (hE:∀e dx td vs s2 s',Pu s s2→Rep w s2.heap X (.dct ks ds) (.ref td)→s2.heap.get? e=none→s2.heap.get? dx=none→e≠dx→Pu s2 s'→(∀a o,s2.heap.get? a=some o→s'.heap.get? a=some o)→3<vs.size→vs[1]?=some .none→
   s'.heap.get? e=some ⟨.ref 174,some dx,.fields vs,#[]⟩→ExcAt s'.heap dx td→E (.ref e) s') :
  cE (cS PW w) A (Nn (.Raise (some (.Call (.Name cn np) [arg] [] cp)) none pos) env) Q E s:=by
 rw[arm_exec_Raise]
 refine ah (pV ?_)
 show cE _ A (S4 env (some (do let v←ku (.Call (.Name cn np) [arg] [] cp) env;GV pos;AS v)) none) Q E s
 refine xn (e:=0) (dx:=0) (vs:=#[]) (sl:=#[]) cx.a.handled (ah ?_)
 refine qA (Q:=fun v s1=>∃e dx vs sl K,v=.ref e∧jG K∧K.In s1.heap∧s1.heap.get? e=some ⟨.ref 174,some dx,.fields vs,sl⟩∧vs[1]?=some .none∧E (.ref e) s1) ?_ (fun v s1 h1=>ah (pV (bg h1))) fun Z Z x=>x
 refine kN ((bZ cx hn.1 hn.2).now _ _ fun v s1 u1 r1=>?_)
 obtain rfl:=r1
 have hpl:∀e∈[arg],isStarred e=false:=fun e he=>by obtain rfl:=bS.mp he;exact hst
 have args:bO w A X [arg] env [.dct ks ds] s:=args_cons cx.Yz hst (aa hH cx ha hc) args_nil
 refine callWith_of (P:=fun h=>∃K,jG K∧ML K h) ?_ (fun h Z9=>by obtain ⟨K,FK,KI⟩:=Z9;exact keeps_K FK.a4Z h KI) (bc args hpl (fun h=>by cases h) s1 u1 _ _ fun vs s2 u2 r2=>?_)
 ·rw[YH hpl];rfl
 ·have u12:=u1.trans u2
  have YW:=cx.pu u12
  obtain ⟨K,FK,KI,KX⟩:=YW.base.a0s
  refine⟨⟨K,FK,KI⟩,?_⟩
  obtain ⟨v,t,rfl,r3,rfl⟩:=r2
  have r3':=r3
  obtain ⟨td,kvs,rfl,_⟩:=r3
  have more:=YW.base.more s2 fun a o e Z=>e
  refine gR (by have:=cx.a.depth;exact Hu this) (by have:=cx.a.units;exact Hr this) ?_
  rw[cx.a.handled]
  refine more.make td _ _ fun e dx h' t' vs hk he hdx hne hat hsz hv1 hge=>?_
  have u3:Pu s2 ⟨h',s2.gens,s2.drawn,t',s2.os⟩:=Pu.keep (n:=t') hk
  have u13:=u12.trans u3
  have cx3:=cx.pu u13
  obtain ⟨K3,FK3,KI3,_⟩:=cx3.base.a0s
  exact⟨e,dx,vs,#[],K3,rfl,FK3,KI3,hge,hv1,hE e dx td vs s2 _ u12 r3' he hdx hne u3 hk hsz hv1 hge hat⟩
theorem wU {K:Cb}{e dx:Addr}{vs:Array bX}{sl:Array (Option bX)}{Q:Bool→aE→Prop}{E:bX→aE→Prop}(FK:jG K)(KI:K.In s.heap)(he:s.heap.get? e=some ⟨.ref 174,some dx,.fields vs,sl⟩)(hQ:Q true s):
  cE (cS PW w) A (excMatches (.ref e) (.ref 174)) Q E s:=by
 obtain ⟨od,cd,a4v,a1v⟩:=uY FK.a3x
 have lt:AA (cS PW w) s.heap (AX (.ref 174) (.type "tuple")) false:=N3 KI FK.a5n
 have l1:AA (cS PW w) s.heap (So (.ref 174)) true:=(IL (KI _ _ a1v)).andThen .now
 have lc:AA (cS PW w) s.heap (isExcClass (.ref 174)) true:=l1.andThen (AN KI FK.a1v)
 have lty:AA (cS PW w) s.heap (JE (.ref e)) (.ref 174):=gY he
 have ls:AA (cS PW w) s.heap (GY (.ref 174) (.ref 174)) true:=AN KI FK.a5m
 unfold excMatches
 refine ah (lt.here ?_)
 simp only[fh,if_false]
 refine ah (bg ?_)
 simp only[kK,E9]
 refine ah (ah (ah (lc.here ?_)))
 simp only[xB,fh,if_false]
 refine bg (bg ?_)
 refine ah (lty.here ?_)
 refine ah (ah (ah (ls.here ?_)))
 simp only[if_true]
 exact bg (bg (bg hQ))
end
end
section
section
variable {w:gp}{k:Nat}{A:Around}{X X':Addr→Prop}{env:UI}{outer:List UI}{sc:Scope}{ρ ρ':Yx}{s s' s'':aE}{μ ZJ YC YM:YX}{h h':Heap}{Z Z':Addr→Prop}{fr fr':List Addr}
theorem Jt {l:List UI}(k:∀L∈frs l,∀o,h.get? L=some o→(∀vs,o.data≠.fields vs)→∃o',h'.get? L=some o'∧o'.data=o.data)(hl:h.FunFrames H0 l):h'.FunFrames H0 l:=by
 induction l with
 |nil=>trivial
 |cons env rest ih=>
  obtain ⟨hk,⟨L,o,hf,hn,ho,hd⟩,hr⟩:=hl
  have e:frs (env::rest)=L::frs rest:=by unfold frs;rw[sA,hf]
  rw[e] at k
  obtain ⟨o',ho',hd'⟩:=k L ay o ho hd
  exact⟨hk,⟨L,o',hf,hn,ho',fun vs=>hd'▸hd vs⟩,ih (fun L' hL'=>k L' (bE _ hL')) hr⟩
structure Fx (w:gp)(k:Nat)(A:Around)(X:Addr→Prop)(env:UI)(sc:Scope)(ρ:Yx)(μ:YX)(outer:List UI)(s:aE):Prop where
 mx:Mx w k A X env sc ρ μ s
 frames:A.frames=some (env::outer)
 here:env.frame=some env.locals
 ff:s.heap.FunFrames H0 outer
 fx:∀L∈frs outer,X L∧L≠PT∧¬Pl env sc L
 ap:∀p∈μ,p.1∉frs outer
theorem Fx.stack (f:Fx w k A X env sc ρ μ outer s):frs (env::outer)=env.locals::frs outer:=by unfold frs;rw[sA,f.here]
theorem Fx.Zk (f:Fx w k A X env sc ρ μ outer s):∀L∈frs (env::outer),X L∧L≠PT:=fun L hL=>by
 rw[f.stack] at hL
 rcases dP.mp hL with rfl|hL
 ·exact⟨f.mx.cx.vis.lx,f.mx.cx.vis.neL⟩
 ·exact⟨(f.fx L hL).1,(f.fx L hL).2.1⟩
theorem Fx.ZR (f:Fx w k A X env sc ρ μ outer s):s.heap.FunFrames H0 (env::outer):=by
 obtain ⟨m,⟨o,_,_,ho,hd,_⟩,_⟩:=f.mx.cx.vis.loc
 exact⟨by rw[f.mx.cx.vis.eqs,f.mx.cx.vis.kind];decide,⟨env.locals,o,f.here,qG _,ho,fun vs q=>by rw[hd] at q;cases q⟩,f.ff⟩
theorem Fx.a0N (f:Fx w k A X env sc ρ μ outer s):∀p∈μ,p.1∉frs (env::outer):=fun p hp hm=>by
 rw[f.stack] at hm
 rcases dP.mp hm with q|q
 ·exact f.mx.mu.away p hp (.inl q)
 ·exact f.ap p hp q
theorem Fx.a4w (f:Fx w k A X env sc ρ μ outer s):∀L∈frs (env::outer),∃o,s.heap.get? L=some o:=fun L hL=>by obtain ⟨_,o,ho,_⟩:=f.ZR.mem hL;exact⟨o,ho⟩
theorem yQ (f:Fx w k A X env sc ρ μ outer s)(x:Z1 Z fr s s')(hz:∀L∈frs outer,¬Z L):s'.heap.FunFrames H0 outer:=
 Jt (fun L hL o ho hd=>by
  rcases x.heap L o ho (f.fx L hL).2.1 (hz L hL) with q|⟨_,sl,q⟩
  ·exact⟨o,q,rfl⟩
  ·exact⟨_,q,rfl⟩) f.ff
theorem Fx.of (f:Fx w k A X env sc ρ μ outer s)(x:Z1 (dj env sc (μ.map (fun x=>x.1))) fr s s')(m:Mx w k A X' env sc ρ' ZJ s')(hm:ZJ.map (fun x=>x.1)=μ.map (fun x=>x.1))(hX:∀a,X a→X' a):Fx w k A X' env sc ρ' ZJ outer s' where
 mx:=m
 frames:=f.frames
 here:=f.here
 ff:=yQ f x fun L hL z=>z.elim (fun q=>(f.fx L hL).2.2 q.pl) fun q=>by obtain ⟨p,hp,e⟩:=eg.mp q;exact f.ap p hp (e▸hL)
 fx:=fun L hL=>⟨hX L (f.fx L hL).1,(f.fx L hL).2⟩
 ap:=fun p hp=>by
  have:p.1∈μ.map (fun x=>x.1):=hm▸i6 (f:=zI) hp
  obtain ⟨q,hq,e⟩:=eg.mp this
  exact e▸f.ap q hq
theorem Fx.pu (f:Fx w k A X env sc ρ μ outer s)(u:Pu s s'):Fx w k A X env sc ρ μ outer s':=f.of (fr:=[]) (.YB u) (f.mx.pu u) rfl fun Y h=>h
theorem Fx.Zf (f:Fx w k A X env sc ρ μ outer s)(h:Sub ρ' ρ):Fx w k A X env sc ρ' μ outer s:=⟨f.mx.Zf h,f.frames,f.here,f.ff,f.fx,f.ap⟩
theorem Fx.a1y (f:Fx w k A X env sc ρ μ outer s)(h:MW ZJ μ):Fx w k A X env sc ρ ZJ outer s:=⟨f.mx.a1y h,f.frames,f.here,f.ff,f.fx,fun p hp=>f.ap p (h.subset hp)⟩
theorem Fx.step (f:Fx w k A X env sc ρ μ outer s)(pb:YF (Own env sc) s s')(m:Mx w k A X env sc ρ' μ s'):Fx w k A X env sc ρ' μ outer s':=f.of (fr:=[]) (.YJ (pb.mono fun a h=>.inl h)) m rfl fun Y h=>h
theorem Fx.turn {a:Addr}{d d':D}(f:Fx w k A X env sc ρ (YC++(a,d)::YM) outer s)(x:Z1 (fun x=>x=a) fr s s')(hf:∀L∈fr,L∈frs (env::outer))(hm:cB w s'.heap X a d'):Fx w k A X env sc ρ (YC++(a,d')::YM) outer s':=by
 have hx:=f.mx.mu.x _ mem_mid
 have xf:∀b∈fr,X b:=fun b hb=>(f.Zk b (hf b hb)).1
 have mu':=f.mx.mu.turn (x.up f.mx.cx.Yz.pt (fun b e=>e▸hx) xf) (fun p hp n o e=>(x.heap _ _ e (f.mx.mu.YZ hp) n).elim id fun q=>absurd (hf _ q.1) (f.a0N p hp)) hm
 exact f.of (fr:=fr) (x.mono (fun b e=>.inr (eg.mpr ⟨_,mem_mid,e.symm⟩)) fun Y h=>h) ⟨f.mx.cx.pus x (fun b e=>e▸⟨hx,f.mx.mu.away _ mem_mid,hm.ex⟩) xf,mu'⟩ (by rw[g9,g9];rfl) fun Y h=>h
end
end
section
section
variable {w:gp}{k:Nat}{A:Around}{X X':Addr→Prop}{env:UI}{outer:List UI}{sc:Scope}{ρ ρ':Yx}{s s' s'':aE}{μ ZJ YC YM:YX}{h h':Heap}{Z Z':Addr→Prop}{fr fr':List Addr}
theorem yU {n:Nat}{V:Nat→Yx}{M:Nat→YX}(dat:Nat→D)(B:Nat→Yx)(as:List Addr)(fx:Fx w k A X env sc (V 0) (M 0) outer s){t it:PySem.Expr}{body:List Stmt}{pos:UK}{l:List D}{Q:zh→aE→Prop}{E:bX→aE→Prop}
  (ht:bH t sc=true) (ZF:cJ it=false) (src:Src w A X t it env l s) (hl:l=(jI n).map dat) (hM:∀i,(M i).map (fun x=>x.1)=as) (hb:∀i,cZ t (dat i) (V i)=some (B i))
  (hB:∀i,i<n→∀{X':Addr→Prop} {s1:aE} {Q:zh→aE→Prop} {E:bX→aE→Prop},Fx w k A X' env sc (B i) (M i) outer s1→(∀a,X a→X' a)→
   (∀s2,Z1 (dj env sc as) (frs (env::outer)) s1 s2→Mx w k A X' env sc (V (i+1)) (M (i+1)) s2→Q .next s2)→cE (cS PW w) A (oz body env) Q E s1)
  (hQ:∀s',Z1 (dj env sc as) (frs (env::outer)) s s'→Fx w k A X env sc (V n) (M n) outer s'→Q .next s'):cE (cS PW w) A (Nn (.For t it body [] pos) env) Q E s:=by
 refine OB (tH fx.mx (frs (env::outer)) (O:=dj env sc as) ht (src s (Pu.refl _)) (fun a h=>.inl h) (fun a h=>fx.mx.a1Y (hM 0▸h)) (fun a h=>(fx.Zk a h).1) (J6 n dat V M) ⟨0,qV _,hl⟩ (fun r YL YC x p hp=>?_) (fun {d r YL YC} x hd=>?_) fun YL YC s1 x p m=>?_) (lZ ZF env)
 ·obtain ⟨i,Y,Y⟩:=x
  exact .inr (hM i▸i6 hp)
 ·obtain ⟨i,hi,e1⟩:=x
  obtain ⟨hi,rfl,e2⟩:=range_drop e1
  exact⟨B i,hb i,fun X' s1 C hX p m h=>hB i hi (fx.of (hM 0▸p) m ((hM i).trans (hM 0).symm) hX) hX fun s2 p2 m2=>h _ _ s2 ⟨i+1,hi,e2⟩ p2 m2⟩
 ·obtain ⟨rfl,rfl⟩:=x.fin
  exact hQ s1 p (fx.of (hM 0▸p) m ((hM n).trans (hM 0).symm) fun Y h=>h)
end
end
section
section
variable {w:gp}{k:Nat}{A A':Around}{X X':Addr→Prop}{env:UI}{outer:List UI}{sc:Scope}{ρ ρ':Yx}{s s' s'':aE}{μ ZJ YC YM:YX}{h h':Heap}{Z Z':Addr→Prop}{fr fr':List Addr}
theorem vf (c:Cx w k A X env sc ρ s){x:Str}{pos:UK}{d:D}(hk:LC sc x)(h:ρ.lookup x=some d)
  (deb:(x==af "__debug__")=false) {Q E:bX→aE→Prop} (hQ:∀v,Rep w s.heap X d v→Q v s):cE (cS PW w) A' (ku (.Name x pos) env) Q E s:=by
 have hkf:env.scope.kind=.function:=by rw[c.vis.eqs];exact c.vis.kind
 have kx:∀y,sc.names.lookup x=y→env.kindOf x=y:=fun y e=>by unfold AV;rw[c.vis.eqs];exact e
 refine A3 ?_ deb
 rcases hk with hk|hk
 ·obtain ⟨m,hn,hm⟩:=c.vis.loc
  obtain ⟨v,hv,r⟩:=hm _ _ h hk
  exact jS hkf (kx _ hk) hn hv (hQ _ r)
 ·obtain ⟨a,v,h1,_,_,_,h2,h3⟩:=c.vis.cells _ (.inl hk)
  obtain ⟨u,rfl,r⟩:=h3 d h
  exact D9 hkf (kx _ hk) h1 h2 (hQ _ r)
theorem CK (c:Cx w k A X env sc ρ s){x:Str}{pos:UK}{v:bX}(hk:sc.names.lookup x=some .globalImplicit)(h:Zo.lookup x=some v)(deb:(x==af "__debug__")=false){Q E:bX→aE→Prop}(hQ:Q v s):
  cE (cS PW w) A' (ku (.Name x pos) env) Q E s:=by
 have hkf:env.scope.kind=.function:=by rw[c.vis.eqs];exact c.vis.kind
 have hx:env.kindOf x=some .globalImplicit:=by unfold AV;rw[c.vis.eqs];exact hk
 obtain ⟨mg,t,_,hg,g1,g2,g3⟩:=c.base.g
 rw[←c.vis.glob] at hg
 exact sN hkf hx (BG hg (g1 _ (mem_of_lookup h)) hQ) deb
theorem Dd (c:Cx w k A X env sc ρ s){e dx td:Addr}{vs:Array bX}{sl:Array (Option bX)}(hh:A'.handled=some (.ref e))(hd:A'.depth≤900)(hu:A'.units≤9000)(he:s.heap.get? e=some ⟨.ref 174,some dx,.fields vs,sl⟩)(hat:ExcAt s.heap dx td){Q E:bX→aE→Prop}
  (hQ:∀n,Q (.ref td) {s with toks:=n}):cE (cS PW w) A' (getAttr (.ref e) (af "recipients") true) Q E s:=by
 obtain ⟨K,FK,KI,_⟩:=c.base.a0s
 unfold getAttr
 refine ah (N4 ?_)
 unfold getAttrBy
 refine fT (ah ((gY he) _ _ _ _ (fun Y Y e=>e) ?_))
 refine ah ((Cc KI FK.a4D) _ _ _ _ (fun Y Y e=>e) ?_)
 dsimp only
 rw[if_neg (by decide)]
 unfold getAttrByItsOwn
 refine ah (m:=hookBefore _) ?_
 show cE _ _ (IM (.ref 174) "__getattr__") _ _ _
 refine(Cc KI FK.a4E) _ _ _ _ (fun Y Y e=>e) ?_
 refine ah (LH (fT ?_))
 show cE _ _ (Po (.builtin "BaseException.__getattribute__") (.ref e) (.str (af "recipients") _)) _ _ _
 unfold Po
 refine ah (C5 (PySem.F.attr_Exception.ga.bind (.ref e)) ?_)
 have more:=c.base.more {s with toks:=s.toks+1} fun a o e Y=>e
 refine gR hd hu ?_
 rw[hh]
 exact more.attr e dx td vs sl s.toks _ _ he hat fun t'=>bg (hQ t')
end
end
section
section
variable {w:gp}{k:Nat}{A A':Around}{X X':Addr→Prop}{env:UI}{outer:List UI}{sc:Scope}{ρ ρ':Yx}{s s0 s1 s' s'':aE}{μ ZJ YC YM:YX}{h h':Heap}{Z Z':Addr→Prop}{fr fr':List Addr}
theorem uw {e dx:Addr}(F:Fly fr s0.heap e dx s1.heap)(hp:PT∉fr)(hg:s1.gens=s0.gens)(hd:s1.drawn=s0.drawn)(ho:s1.os=s0.os):Z1 (fun Y=>False) fr s0 s1:=
 ⟨fun a o e Y Y=>F.keep a o e,fun Z9=>by obtain ⟨vs,e⟩:=Z9;exact⟨vs,(F.keep _ _ e).elim id fun q=>absurd q.1 hp⟩,fun g=>hg▸g,hd,ho⟩
theorem Fx.none (f:Fx w k A X env sc ρ μ outer s)(x:Z1 (fun Y=>False) (frs (env::outer)) s s'):Fx w k A X env sc ρ μ outer s':=by
 have cx':Cx w k A X env sc ρ s':=f.mx.cx.pus x (fun Y h=>h.elim) fun b hb=>(f.Zk b hb).1
 have up:=x.up f.mx.cx.Yz.pt (fun Y h=>h.elim) fun b hb=>(f.Zk b hb).1
 refine f.of (fr:=frs (env::outer)) (x.mono (fun Y h=>h.elim) fun Y h=>h) ⟨cx',f.mx.mu.up up (fun Y h=>h) fun p hp o e=>?_⟩ rfl fun Y h=>h
 rcases x.heap _ _ e (f.mx.mu.YZ hp) id with q|⟨m,_⟩
 ·exact q
 ·exact absurd m (f.a0N p hp)
theorem ExcAt.keep {dx td:Addr}(x:ExcAt h dx td)(k:iH fr h h')(hn:dx∉fr):ExcAt h' dx td:=by
 obtain ⟨tk,hs,n,e⟩:=x
 exact⟨tk,hs,n,(k _ _ e).elim id fun q=>absurd q.1 hn⟩
noncomputable def Arg (w:gp)(k:Nat)(A:Around)(X:Addr→Prop)(env:UI)(sc:Scope)(n:Str)(arg:PySem.Expr)(d d':D):Prop:=
 ∀(A':Around) (ρ:Yx) (s:aE) (e dx td:Addr) (vs:Array bX) (sl:Array (Option bX)),A'.handled=some (.ref e)→A'.depth≤900→A'.units≤9000→Cx w k A X env sc ((n,.val (.ref e))::ρ) s→
  s.heap.get? e=some ⟨.ref 174,some dx,.fields vs,sl⟩→ExcAt s.heap dx td→Rep w s.heap X d (.ref td)→Ev w A' X (ku arg env) d' s
theorem uP {n:Str}{np pos:UK}{d:D}(hk:sc.names.lookup n=some .local)(deb:(n==af "__debug__")=false):Arg w k A X env sc n (.Attribute (.Name n np) (af "recipients") pos) d d:=by
 intro A' ρ s e dx td vs sl hh hd hu cx he hat rd Q E hQ
 refine OT (vf cx (d:=.val (.ref e)) (.inl hk) (by simp) deb fun v r=>?_)
 obtain rfl:=r
 exact Dd cx hh hd hu he hat fun t=>hQ _ _ (Pu.toks _ _) rd
theorem BL {n:Str}{np pos p2 p3:UK}{kd kt:Nat}{i:Int}{d:D}(hk:sc.names.lookup n=some .local)(deb:(n==af "__debug__")=false):
  Arg w k A X env sc n (.Tuple [.Constant (.int i) kd p2,.Attribute (.Name n np) (af "recipients") pos] kt p3) d (.tup [.int i,d]):=by
 intro A' ρ s e dx td vs sl hh hd hu cx he hat rd Q E hQ
 refine CU (iX ?_ (ao rfl))
 refine DZ (iX ?_ (ao rfl))
 have u1:Pu s {s with toks:=s.toks+1}:=Pu.toks _ _
 refine uP (k:=k) hk deb A' ρ _ e dx td vs sl hh hd hu (cx.pu u1) he hat (rd.up (u1.up cx.Yz.pt) _ _) _ _ fun v s2 u2 r2=>?_
 refine kC (pos:=p3) (env:=env) ⟨by rw[c9];simp,?_⟩
 have u12:=u1.trans u2
 refine hQ _ _ (u12.trans (Pu.YK _ _)) ?_
 exact⟨_,#[.int i s.toks,v],rfl,⟨_,ck _ rfl⟩,(cx.Yz.pu u12).new,aX.up dC [.int i,d] [.int i s.toks,v] (.cons cI (.one r2))⟩
theorem Ba (mx:Mx w k A X env sc ρ μ s){x:Str}{d:D}{u:bX}{E:bX→aE→Prop}{Q:Unit→aE→Prop}(hk:LC sc x)(r:Rep w s.heap X d u)
  (hQ:∀s',YF (Own env sc) s s'→Mx w k A X env sc ((x,d)::ρ) μ s'→Q () s'):cE (cS PW w) A' (Of env x u) Q E s:=by
 refine il mx.cx.Yz mx.cx.vis hk r fun s3 p3 pb hp3 hX3 v3 x3=>?_
 have pb':YF (Own env sc) s s3:=pb.mono fun a e=>by subst e;exact hp3.elim (fun q=>.inl q.2) fun q=>.inr ⟨x,q⟩
 exact hQ _ pb' (mx.step pb' ⟨mx.cx.a,x3,mx.cx.base.up (pb'.up mx.cx.Yz.pt fun a h=>mx.ZD h),v3⟩)
theorem uW {H:Hooks}{e dx td aY:Addr}{l:List D}{d d':D}{cn n y:Str}{np yp ap cp ep hp:UK}{arg:PySem.Expr}{Q:zh→aE→Prop}{E:bX→aE→Prop}
  (f0:Fx w k A X env sc ρ (YC++(aY,.lst l)::YM) outer s0) (fly:Fly (frs (env::outer)) s0.heap e dx s1.heap) (hg:s1.gens=s0.gens) (hd:s1.drawn=s0.drawn) (ho:s1.os=s0.os)
  (hat:ExcAt s0.heap dx td) (hdx:dx∉frs (env::outer)) (rd:Rep w s0.heap X d (.ref td)) (hl:l.length<sizeLine)
  (hcn:sc.names.lookup cn=some .globalImplicit∧Zo.lookup cn=some (.ref 174)∧(cn==af "__debug__")=false) (hkn:sc.names.lookup n=some .local) (a3M:ρ.lookup n=none)
  (hky:sc.names.lookup y=some .local∨sc.names.lookup y=some .cell) (a4X:ρ.lookup y=some (.val (.ref aY))) (hyd:(y==af "__debug__")=false) (hyn:y≠n) (hst:isStarred arg=false) (hline:(ap.endLine==cp.line)=true)
  (harg:Arg w k A X env sc n arg d d')
  (hQ:∀s'',Z1 (dj env sc [aY]) (frs (env::outer)) s0 s''→Fx w k A X env sc ρ (YC++(aY,.lst (l++[d']))::YM) outer s''→Q .next s'') :
  cE (cS PW w) A (Lo (.ref e) env) (fun Y s₂=>cE (cS PW w) A (EH (.ref e) none) (fun Y s₃=>
   cE (cS PW w) A (handleBy (.ref e) env [.ExceptHandler (some (.Name cn np)) (some n) [.Expr (.Call (.Attribute (.Name y yp) (af "append") ap) [arg] [] cp) ep] hp]) Q E s₃) E s₂) E s1:=by
 have ptn:PT∉frs (env::outer):=fun q=>(f0.Zk PT q).2 rfl
 have adA:A.depth≤900:=by have:=f0.mx.cx.a.depth;exact Hu this
 have auA:A.units≤9000:=by have:=f0.mx.cx.a.units;exact Hr this
 have f1:=f0.none (uw fly ptn hg hd ho)
 refine vG f0.frames f1.ZR f0.here fly fun h2 a2p ff2=>?_
 have p2:Z1 (fun Y=>False) (frs (env::outer)) s0 {s1 with heap:=h2}:=uw (s0:=s0) (s1:={s1 with heap:=h2}) a2p ptn hg hd ho
 generalize hs2:({s1 with heap:=h2}:aE)=s2 at p2
 have e2:h2=s2.heap:=by rw[←hs2]
 have f2:=f0.none p2
 rw[e2] at a2p ff2
 refine wpAny_handleBy_cons (codeAny_handlers_test ?_) (by intro q;cases q)
 refine CK f2.mx.cx hcn.1 hcn.2.1 hcn.2.2 ?_
 obtain ⟨K,FK,KI,_⟩:=f2.mx.cx.base.a0s
 obtain ⟨vs,sl,hge,hsz,hv⟩:=a2p.exc
 refine wU FK KI hge ?_
 refine codeAny_handlers_suite_as ?_
 refine wL (l:=env::outer) f2.ZR a2p fun h3 a2q ff3=>?_
 have p3:Z1 (fun Y=>False) (frs (env::outer)) s0 {s2 with heap:=h3}:=uw (s0:=s0) (s1:={s2 with heap:=h3}) a2q ptn (by rw[←hs2];exact hg) (by rw[←hs2];exact hd) (by rw[←hs2];exact ho)
 generalize hs3:({s2 with heap:=h3}:aE)=s3 at p3
 have e3:h3=s3.heap:=by rw[←hs3]
 rw[e3] at a2q ff3
 have f3:=f0.none p3
 have up3:=p3.up f0.mx.cx.Yz.pt (fun Y h=>h.elim) fun b hb=>(f0.Zk b hb).1
 obtain ⟨vs3,sl3,a4O,_,_⟩:=a2q.exc
 have hat3:=hat.keep a2q.keep hdx
 have rd3:=rd.up up3 _ _
 have a3j:¬Own env sc e:=fun q=>by
  obtain ⟨_,_,o,ho⟩:=f0.mx.cx.places q.pl
  rw[fly.new] at ho;exact YD ho
 have a4N:e≠PT:=fun q=>by
  obtain ⟨_,h⟩:=f0.mx.cx.Yz.tab
  rw[←q,fly.new] at h;exact YD h
 obtain ⟨tk0,hs0,n0,a3i⟩:=hat3
 have a2t:¬Own env sc dx:=fun q=>by
  rcases q with q|⟨nn,hn1,hn2⟩
  ·exact hdx (by rw[f0.stack,q];exact ay)
  ·obtain ⟨c,u,g1,_,_,_,⟨o,ho,hc⟩,_⟩:=f3.mx.cx.vis.cells nn (.inl hn1)
   rw[hn2] at g1;obtain rfl:=aI g1
   rw[a3i] at ho;obtain rfl:=aI ho;cases hc
 have a3F:dx≠PT:=fun q=>by
  obtain ⟨_,h⟩:=f3.mx.cx.Yz.tab
  rw[←q,a3i] at h;cases h
 refine Ba f3.mx (d:=.val (.ref e)) (.inl hkn) cU fun s4 pb4 m4=>?_
 have up4:Up X X s3.heap s4.heap:=pb4.up f3.mx.cx.Yz.pt fun b hb=>f3.mx.ZD hb
 have a4P:=pb4.heap _ _ a4O a4N a3j
 have a4L:ExcAt s4.heap dx td:=⟨tk0,hs0,n0,pb4.heap _ _ a3i a3F a2t⟩
 refine aH ?_
 refine AE ?_ (by unfold CY;rw[f0.mx.cx.vis.eqs,f0.mx.cx.vis.kind];rfl) rfl
 refine k9 rfl ?_ hline (vf m4.cx (d:=.val (.ref aY)) hky (by rw[fF,show(y==n)=false from by simpa using hyn];exact a4X) hyd fun v r=>?_)
 ·have h1:(FU cp (zS [arg] env)).all (fun x=>!x.1)=true:=by
   rw[ao hst];rfl
  rw[h1];rfl
 obtain rfl:=r
 have hin:(aY,D.lst l)∈YC++(aY,.lst l)::YM:=by simp
 obtain ⟨us,⟨nn,hpY⟩,hrY⟩:=(m4.mu.at_ _ hin).l
 refine⟨"list",_,rq,x9,xe,⟨_,hpY,rfl⟩,fun b e=>by cases e;exact⟨_,hpY,rfl⟩,iL (YH fun e' h=>by obtain rfl:=bS.mp h;exact hst) ?_⟩
 rw[ao hst]
 refine w4 ?_
 show cE _ _ (SE (FU cp ((false,ku arg env)::zS [] env))) _ _ _
 rw[←ao (es:=[]) hst]
 refine iX (e:=arg) (rest:=[]) (env:=env) ?_ (ao hst)
 refine harg (A.mark (some (.ref e))) ρ s4 e dx td vs3 sl3 rfl adA auA m4.cx a4P a4L (rd3.up up4 _ _) _ _ fun v5 s5 u5 r5=>?_
 refine kC (pos:=cp) (env:=env) ?_
 have m5:=m4.pu u5
 refine gq m5 r5 (fz hl) fun s6 pb6 m6=>?_
 refine dS ?_
 obtain ⟨m,hm,h2m⟩:=m6.cx.vis.loc
 have klo:env.kindOf n=some .local:=by unfold AV;rw[f0.mx.cx.vis.eqs];exact hkn
 refine wpAny_nameGoes_keeps klo hm (by rw[f0.mx.cx.vis.eqs,f0.mx.cx.vis.kind];rfl) fun h7 v7 hn7 hs7=>?_
 have hL:∀p∈YC++(aY,D.lst (l++[d']))::YM,p.1≠env.locals:=fun p hp q=>m6.mu.away p hp (.inl q)
 have pb7:YF (fun x=>x=env.locals) s6 {s6 with heap:=h7,toks:=s6.toks+1}:=.keep (fun a o z e=>hs7.extBut a o z e) (i7 m6.cx.vis.neL)
 have up7:Up X X s6.heap h7:=pb7.up m6.cx.Yz.pt fun a e=>e▸m6.cx.vis.lx
 have cx7:Cx w k A X env sc ρ {s6 with heap:=h7,toks:=s6.toks+1}:=by
  refine⟨m6.cx.a,⟨m6.cx.Yz.pt,pb7.tab m6.cx.Yz.tab,fun a ha=>?_⟩,m6.cx.base.up up7,?_⟩
  ·by_cases q:a=env.locals
   ·subst q;obtain ⟨o,_,_,ho,_⟩:=hn7;exact⟨o,ho⟩
   ·obtain ⟨o,ho⟩:=m6.cx.Yz.lt a ha;exact⟨o,hs7.extBut _ _ q ho⟩
  ·have v:=m6.cx.vis
   refine⟨v.eqs,v.kind,v.glob,v.bi,v.neL,v.lx,⟨_,hn7,fun x dd ex kx=>?_⟩,fun x hx=>?_,v.inj⟩
   ·have hxn:x≠n:=fun q=>by rw[q,a3M] at ex;exact YD ex
    obtain ⟨u,hu,ru⟩:=h2m x dd (by rw[fF,show(x==n)=false from by simpa using hxn];exact ex) kx
    exact⟨u,by simp[hxn,hu],ru.up up7 _ _⟩
   ·obtain ⟨c,u,h1,h2,h3,h4,⟨o,ho,hc⟩,h5⟩:=v.cells x hx
    refine⟨c,u,h1,h2,h3,h4,⟨o,hs7.extBut _ _ h3 ho,hc⟩,fun dd ex=>?_⟩
    have hxn:x≠n:=fun q=>by rw[q,a3M] at ex;exact YD ex
    obtain ⟨y',e',ry⟩:=h5 dd (by rw[fF,show(x==n)=false from by simpa using hxn];exact ex)
    exact⟨y',e',ry.up up7 _ _⟩
 have m7:Mx w k A X env sc ρ (YC++(aY,.lst (l++[d']))::YM) {s6 with heap:=h7,toks:=s6.toks+1}:=⟨cx7,m6.mu.up up7 (fun Y h=>h) fun p hp o e=>hs7.extBut _ _ (hL p hp) e⟩
 have whole:Z1 (dj env sc [aY]) (frs (env::outer)) s0 {s6 with heap:=h7,toks:=s6.toks+1}:=
  ((((p3.mono (fun Y h=>h.elim) fun Y h=>h).trans (.YJ (pb4.mono fun a h=>.inl h))).trans (.YB u5)).trans (.YJ (pb6.mono fun a h=>.inr (by rw[h];first|exact .head _|exact .tail _ (.head _)|exact .tail _ (.tail _ (.head _)))))).trans (.YJ (pb7.mono fun a h=>.inl (.inl h)))
 refine hQ _ whole (f0.of (fr:=frs (env::outer)) (whole.mono (fun a h=>h.imp id fun q=>by cases bS.mp q;simp) fun Y h=>h) m7 (by simp) fun Y h=>h)
end
end
section
section
variable {w:gp}{k:Nat}{A A':Around}{X X':Addr→Prop}{env:UI}{outer:List UI}{sc:Scope}{ρ ρ':Yx}{s s0 s1 s' s'':aE}{μ ZJ YC YM:YX}{h h':Heap}{E:bX→aE→Prop}
theorem a0A:seqSlot? (.type "list") (dunderI "add")=AS (some (.builtin "list.__iadd__")):=PySem.seqSlot_of BY.lookup (by decide +kernel)
theorem wM {a b:Addr}{xs ys:Array bX}{n:Nat}{Q:bX→aE→Prop}(hl:s.heap.PlainList a xs)(hb:s.heap.get? b=some {cls:=.type "list",data:=.seq ys n})(hne:a≠b)(hsz:xs.size+ys.size≤sizeLine)
  (hQ:∀h',h'.PlainList a (xs++ys)→AY a s.heap h'→Q (.ref a) {s with heap:=h'}):cE (cS PW w) A (S1 .Add (.ref a) (.ref b)) Q E s:=by
 obtain ⟨m,ho⟩:=hl
 have ta:s.TypeIs (.ref a) "list":=⟨_,ho,rfl⟩
 have tb:s.TypeIs (.ref b) "list":=⟨_,hb,rfl⟩
 unfold S1
 refine fT ?_
 have hfi:NR (.type "list") "add" (II.Add==.Add)=AS false:=by
  unfold NR
  show(IM (.type "list") (dunderI "add") >>= fun fi=>AS (fi.isSome&&!isSeqSlot fi))=AS false
  rw[BY.lookup]
  show(AS (LB (some (F9 "list.__iadd__"))&&!isSeqSlot (some (F9 "list.__iadd__"))):UM Bool)=AS false
  rw[show(LB (some (F9 "list.__iadd__"))&&!isSeqSlot (some (F9 "list.__iadd__")))=false from by decide +kernel]
 refine ah (MZ ta (ah (C5 hfi ?_)))
 show cE _ A (if false=true then _ else _) Q E s
 rw[if_neg nV]
 refine ah (wpAny_binaryOp1_none (nm:="add") ta tb noFill_list_add ?_)
 refine ah (C5 a0A ?_)
 refine ah (yT ?_)
 refine kP BY ta PySem.F.entry_list_iadd ?_ (PySem.F.args_list_iadd_2 _ _)
 show cE _ _ (DE (.ref a) (.ref b) (.ref a)) _ _ s
 unfold DE
 refine ah (MZ tb ?_)
 rw[if_pos (by simp)]
 refine ah (m:=GS _) ?_
 unfold GS
 refine ah (kr hb rfl (bg ?_))
 refine ah (ah (kr ho rfl (bg ?_)))
 have a3H:F1 (xs.size+ys.size)=false:=by
  unfold F1
  exact decide_eq_false (by exact Ul hsz)
 rw[if_neg (by rw[a3H];simp)]
 refine ah ?_
 show cE _ _ (Lu a (·++ys)) _ _ s
 refine B9 ho rfl (bg ⟨_,rfl,hQ _ ⟨_,IsL.update (n:=m) ho _⟩ (DA ..)⟩) (by exact Tf hsz) (by show(xs++ys).size≤_;rw[EO];exact Tu hsz)
end
end
section
section
variable {w:gp}{k:Nat}{A A':Around}{X X':Addr→Prop}{env:UI}{outer:List UI}{sc:Scope}{ρ ρ':Yx}{s s0 s1 s' s'':aE}{μ ZJ YC YM:YX}{h h':Heap}{E:bX→aE→Prop}
theorem Ev.a0e {t:UM bX}{i:Int}(x:aV w A X t (.int i) s):aV w A X' t (.int i) s:=fun s' u Q E hQ=>x s' u Q E fun v s'' u' r=>hQ v s'' u' (r)
theorem Ev.a3u {t:UM bX}{b:Bool}(x:aV w A X t (.bool b) s):aV w A X' t (.bool b) s:=fun s' u Q E hQ=>x s' u Q E fun v s'' u' r=>hQ v s'' u' (r)
theorem z8 (hA:Zv 20 A)(hX:Z6 X s)(hB:Base w X s.heap){aS:Addr}{L ds2:List D}(hx:X aS)(hb:61<aS)(hm:cB w s.heap X aS (.lst L)){v:bX}(r:Rep w s.heap X (.lst ds2) v)(hl:L.length+ds2.length≤1000)
  {Q:bX→aE→Prop} (hQ:∀s',YF (fun x=>x=aS) s s'→cB w s'.heap X aS (.lst (L++ds2))→Q (.ref aS) s'):cE (cS PW w) A (call (.ref 106) [.ref aS,v]) Q E s:=by
 have rr:aX w s.heap X [.val (.ref aS),.lst ds2] [.ref aS,v]:=.cons cU (.one r)
 refine dq (k:=19) hA hX hB (show Zd.lookup 106=some (bU "iadd",dZ "iadd",cF "iadd") from by kernel_rfl) (ps:=psN "iadd") (by decide +kernel) (fun fd e1 e2 e3=>fQ e1 e2 e3 fun fd=>rfl) rfl rr fun env X1 s1 st=>?_
 have ka:(cF "iadd").names.lookup (af "a")=some .local:=by kernel_rfl
 have kb:(cF "iadd").names.lookup (af "b")=some .local:=by kernel_rfl
 obtain ⟨oS,hoS⟩:=hm.ex
 have YZ:aS≠PT:=fun q=>by rw[q] at hb;exact absurd hb (by decide)
 have up1:Up X X1 s.heap s1.heap:=⟨fun a o e n=>st.pu.heap a o e fun q=>n (q▸hX.pt),st.sub⟩
 have mx:Mx w 19 (A.deeper env) X1 env (cF "iadd") ((psN "iadd").zip [.val (.ref aS),.lst ds2]) ([]++(aS,.lst L)::[]) s1:=
  ⟨st.cx,⟨fun p hp=>by simp at hp;subst hp;exact hm.up up1 fun o e=>st.pu.heap _ _ e YZ,fun p hp=>by simp at hp;subst hp;exact st.grow _ hx,fun p hp=>by simp at hp;subst hp;exact hb,fun p hp q=>(by simp at hp;subst hp;rw[st.new _ q] at hoS;exact YD hoS),by simp⟩⟩
 refine aH (IX (zJ mx.cx (d:=.val (.ref aS)) (.inl ka) (by rfl) fun v1 r1=>?_))
 obtain rfl:=r1
 refine(aK (d:=.lst ds2) mx.cx (.inl kb) (by rfl) (by decide +kernel) (by decide +kernel)).now _ _ fun v2 s2 u2 r2=>?_
 have mx2:=mx.pu u2
 have hin:(aS,D.lst L)∈([]++(aS,D.lst L)::[]):=ay
 obtain ⟨xs,hp,hr⟩:=(mx2.mu.at_ _ hin).l
 obtain ⟨b,ys,rfl,⟨n,hb2⟩,hxb,hrb⟩:=r2
 have lx:=hr.length
 have ly:=hrb.length
 rw[iS] at lx ly
 have hne:aS≠b:=fun q=>hxb (q▸mx2.mu.x _ hin)
 refine wM hp hb2 hne (by rw[c9];exact Rt hl lx ly) fun h3 hp3 hs3=>?_
 have pb3:YF (fun x=>x=aS) s2 {s2 with heap:=h3}:=⟨fun c o e Z z=>hs3.extBut c o z e,fun Z9=>by obtain ⟨vs,e⟩:=Z9;exact⟨vs,hs3.extBut _ _ (i7 YZ) e⟩,id,rfl,rfl⟩
 have up3:Up X1 X1 s2.heap h3:=pb3.up mx2.cx.Yz.pt fun c e=>e▸mx2.mu.x _ hin
 have mx3:Mx w 19 (A.deeper env) X1 env (cF "iadd") ((psN "iadd").zip [.val (.ref aS),.lst ds2]) ([]++(aS,.lst (L++ds2))::[]) {s2 with heap:=h3}:=
  mx2.turn pb3 (.lst _ _ rfl hp3 (by rw[L7];exact(hr.up up3).append (hrb.up up3)))
 refine cV mx3 (d:=.val (.ref aS)) (.inl ka) cU fun s4 pb4 mx4=>?_
 refine aH (nk ((aK (d:=.val (.ref aS)) mx4.cx (.inl ka) (by rfl) (by decide +kernel) (by decide +kernel)).now _ _ fun v5 s5 u5 r5=>?_))
 obtain rfl:=r5
 have mx5:=mx4.pu u5
 have whole:YF (fun a=>a=aS∨Pl env (cF "iadd") a) s1 s5:=(((YF.YB u2).trans (pb3.mono fun a e=>.inl e)).trans (pb4.mono fun a e=>.inr e.pl)).trans (.YB u5)
 refine hQ s5 (whole.a0I st.pu fun a o q e=>by rw[st.new a q] at e;exact YD e) ((mx5.mu.at_ (aS,.lst (L++ds2)) ay).up ⟨fun Z Z e Z=>e,fun a Z Z h=>st.grow a h⟩ fun Z e=>e)
theorem CJ (hX:Z6 X s){ke ve:PySem.Expr}{pos:UK}{key:Str}{i:Int}(hk:aV w A X (ku ke env) (.str key) s)(hv:aV w A X (ku ve env) (.int i) s):aV w A X (ku (.Dict [some ke] [ve] pos) env) (.dct [key] [.int i]) s:=by
 intro s' u Q E hQ
 have X1:=hX.pu u
 obtain ⟨new,big⟩:=jw X1
 have YZ:s'.heap.objs.size≠PT:=(dg X1).2
 refine wpAny_Dict_walk (knd:=SK w) (by rfl) (by rfl) (by simp) (b9 rfl) ?_
 have u1:Pu s' {s' with heap:=s'.heap.push {cls:=.type "dict",data:=.dict #[]}}:=Pu.YK _ _
 refine pairTrees_cons_walk ?_
 refine hk _ (u.trans u1) _ _ fun kv s2 u2 r2=>?_
 refine hv _ ((u.trans u1).trans u2) _ _ fun vv s3 u3 r3=>?_
 refine pairTrees_nil_walk ?_
 obtain ⟨t,rfl⟩:=r2
 have hd0:({s' with heap:=s'.heap.push {cls:=.type "dict",data:=.dict #[]}}:aE).heap.DictOf (SK w) s'.heap.objs.size []:=HP _
 have hd3:s3.heap.DictOf (SK w) s'.heap.objs.size []:=by
  obtain ⟨o,es,ep,ho,q⟩:=hd0
  exact⟨o,es,ep,(u2.trans u3).heap _ _ ho YZ,q⟩
 refine⟨[(key,vv)],⟨EI PW w key t,rfl,trivial⟩,hd3,fun h' hm hs=>?_⟩
 have e1:merged ([]:List (Str×bX)) [(key,vv)]=[(key,vv)]:=rfl
 rw[e1] at hm
 have u13:Pu s' s3:=(u1.trans u2).trans u3
 have u4:Pu s' {s3 with heap:=h',toks:=s3.toks+1}:=⟨fun a o e n=>hs.extBut a o (fun q=>by rw[q,new] at e;exact YD e) (u13.heap a o e n),fun ht=>by obtain ⟨vs,e⟩:=u13.tab ht;exact⟨vs,hs.extBut _ _ (i7 YZ) e⟩,u13.gens,u13.drawn,u13.os⟩
 have nX:¬X s'.heap.objs.size:=fun q=>by obtain ⟨o,ho⟩:=X1.lt _ q;exact YD (new.symm.trans ho)
 refine hQ _ _ u4 ?_
 refine⟨_,[(key,vv)],rfl,hm,fun q=>by rw[q] at big;exact absurd big (by decide),nX,rfl,.one (r3)⟩
theorem gJ (mx:Mx w k A X env sc ρ μ s){x:Str}{px lp pos:UK}{e:PySem.Expr}{d:D}{Q:zh→aE→Prop}(hk:LC sc x)(he:aV w A X (ku e env) d s)(hst:isStarred e=false)
  (hQ:∀a s',s.heap.get? a=none→YF (Own env sc) s s'→Mx w k A (fun b=>X b∨b=a) env sc ((x,.val (.ref a))::ρ) ((a,.lst [d])::μ) s'→Q .next s') :
  cE (cS PW w) A (Nn (.Assign [.Name x px] (.List [e] lp) pos) env) Q E s:=by
 refine fP rfl (Mc (iX (he.now _ _ fun v s1 u1 r1=>?_) (ao hst)))
 refine kC (pos:=lp) (env:=env) ⟨by rw[c9];simp,?_⟩
 have mx1:=mx.pu u1
 obtain ⟨hn,hb⟩:=jw mx1.cx.Yz
 have u:Pu s1 {s1 with heap:=s1.heap.push {cls:=.type "list",data:=.seq [v].toArray}}:=Pu.YK _ _
 have m1:=mx1.add u hn hb (d:=.lst [d]) (.lst _ #[v] rfl ⟨_,ck _ rfl⟩ (aX.one (r1.up ⟨fun a o e Z=>b6 _ e,fun a o e q=>q.elim id fun q=>YD (hn.symm.trans (q▸e))⟩ _ _)))
 have hn0:s.heap.get? s1.heap.objs.size=none:=by
  cases q:s.heap.get? s1.heap.objs.size with
  |none=>rfl
  |some o=>
   by_cases qp:s1.heap.objs.size=PT
   ·rw[qp] at hb;exact absurd hb (by decide)
   ·rw[u1.heap _ _ q qp] at hn;cases hn
 exact cV m1 hk cU fun s' pb m2=>hQ _ _ hn0 ((YF.YB (u1.trans u)).trans pb) m2
end
end
section
inductive Tr where
 |leaf (p:Nat)
 |node (p:Nat) (l r:Tr)
noncomputable def Tr.root:Tr→Nat
 | .leaf p=>p
 | .node p _ _=>p
noncomputable def Tr.kids:Tr→List Tr
 | .leaf _=>[]
 | .node _ l r=>[l,r]
noncomputable def Tr.ht:Tr→Nat
 | .leaf _=>0
 | .node _ l r=>max l.ht r.ht+1
noncomputable def Tr.size:Tr→Nat
 | .leaf _=>1
 | .node _ l r=>l.size+r.size+1
structure Wd where
 names:List Str
 reaches:List Str
 rows:List Str
 w0:Int
 w1:Int
 state:Int
section
variable (W:Wd)
noncomputable def eQ (p:Nat):Bool:=decide (kL (W.state.fdiv (2 ^ p)) 1=1)
noncomputable def nameAt (p:Nat):Str:=W.names.getD p Str.empty
noncomputable def bf (p:Nat)(c:Str):Str:=W.rows.getD p Str.empty++c
noncomputable def qS (x:Str):Str:=oX (oW x)
structure sE where
 ok:Bool
 told:KD
noncomputable def rowOf (m:KD):Int×Int:=(jR (W.names.map .str) 0 (m.map (fun x=>x.1)),Za (m.map (fun x=>x.2)))
noncomputable def wy (m m':KD):Int:=su W.w0 W.w1 (rowOf W m).1 (rowOf W m).2 (rowOf W m').1 (rowOf W m').2
noncomputable def lastOf (a b c:KD):Nat:=if wy W (if wy W a b<0 then b else a) c<0 then 2 else if wy W a b<0 then 1 else 0
noncomputable def Zn:List KD→List KD
 | [a,b,c]=>[a,b,c].eraseIdx (lastOf W a b c)
 |l=>l
noncomputable def dz (bit:Bool)(own:KD)(ks:List sE):List KD:=aL bit [own]++(ks.filter (fun x=>x.ok)).map (fun x=>x.told)
noncomputable def jZ (bit:Bool)(own:KD)(ks:List sE):List KD:=aL (!bit) [own]++(ks.filter (!·.ok)).map (fun x=>x.told)
noncomputable def combine (bit:Bool)(own:KD)(ks:List sE):sE:=
 ⟨decide ((dz bit own ks).length>(jZ bit own ks).length),(Zn W (if decide ((dz bit own ks).length>(jZ bit own ks).length)=true then dz bit own ks else jZ bit own ks)).foldl aF []⟩
noncomputable def ownOf (p:Nat)(c:Str):KD:=[(nameAt W p,.int (bf W p c).length)]
noncomputable def ask:Tr→Str→sE
 | .leaf p,c=>combine W (eQ W p) (ownOf W p c) []
 | .node p l r,c=>combine W (eQ W p) (ownOf W p c) [ask l (qS (bf W p c)),ask r (qS (bf W p c))]
noncomputable def Z0:Tr→Str→List D
 | .leaf p,c=>[.tup [.int p,.str (bf W p c)]]
 | .node p l r,c=>.tup [.int p,.str (bf W p c)]::(Z0 l (qS (bf W p c))++Z0 r (qS (bf W p c)))
theorem uR (t:Tr)(c:Str):ask W t c=combine W (eQ W t.root) (ownOf W t.root c) (t.kids.map fun k=>ask W k (qS (bf W t.root c))):=by cases t<;>rfl
theorem Ao (t:Tr)(c:Str):Z0 W t c=.tup [.int t.root,.str (bf W t.root c)]::t.kids.flatMap (fun k=>Z0 W k (qS (bf W t.root c))):=by cases t<;>simp[Z0,Tr.kids,Tr.root]
noncomputable def ZS:D:=.tup [.lst (W.names.map .str),.lst (W.reaches.map .str),.lst (W.rows.map .str),.order (.lst [.tup [.int 1,.int W.w0],.tup [.int 0,.int W.w1]])]
structure WOk:Prop where
 n:W.names.length=7
 re:W.reaches.length=7
 ro:W.rows.length=7
 nd:W.names.Nodup
 nl:∀x∈W.names,x.length≤1000
noncomputable def edge (p b:Nat):Prop:=W.reaches.getD b Str.empty=af "."++nameAt W p
noncomputable def Z7:Tr→Prop
 | .leaf p=>p<7∧∀b,b<7→¬edge W p b
 | .node p l r=>p<7∧l.root<r.root∧r.root<7∧(∀b,b<7→(edge W p b↔b=l.root∨b=r.root))∧Z7 l∧Z7 r
noncomputable def Zh:Tr→Str→Prop
 | .leaf p,c=>(bf W p c).length≤400000
 | .node p l r,c=>(bf W p c).length≤400000∧Zh l (qS (bf W p c))∧Zh r (qS (bf W p c))
end
section
variable {W:Wd}
theorem Z7.a0q {t:Tr}(h:Z7 W t):t.root<7:=by cases t<;>exact h.1
theorem Zh.here {t:Tr}{c:Str}(h:Zh W t c):(bf W t.root c).length≤400000:=by
 cases t
 ·exact h
 ·exact h.1
theorem Z7.kid {t k:Tr}(h:Z7 W t)(hk:k∈t.kids):Z7 W k:=by
 cases t with
 |leaf p=>cases hk
 |node p l r=>
  obtain ⟨_,_,_,_,h1,h2⟩:=h
  simp[Tr.kids] at hk
  rcases hk with rfl|rfl
  ·exact h1
  ·exact h2
theorem Zh.kid {t k:Tr}{c:Str}(h:Zh W t c)(hk:k∈t.kids):Zh W k (qS (bf W t.root c)):=by
 cases t with
 |leaf p=>cases hk
 |node p l r=>
  obtain ⟨_,h1,h2⟩:=h
  simp[Tr.kids] at hk
  rcases hk with rfl|rfl
  ·exact h1
  ·exact h2
theorem Tr.a0t {t k:Tr}(hk:k∈t.kids):k.ht+1≤t.ht:=by
 cases t with
 |leaf p=>cases hk
 |node p l r=>
  have e:(Tr.node p l r).ht=max l.ht r.ht+1:=rfl
  have hk:k∈[l,r]:=hk
  simp at hk
  rw[e]
  rcases hk with rfl|rfl<;>(first|exact R4|exact ul)
noncomputable def bT (t:Tr)(i:Nat):List Tr:=t.kids.filter fun k=>decide (k.root<i)
theorem zx (t:Tr):bT t 0=[]:=by unfold bT;simp
theorem Dq {t:Tr}(h:Z7 W t):bT t 7=t.kids:=by
 unfold bT
 rw[List.filter_eq_self]
 intro k hk
 simpa using (h.kid hk).a0q
theorem zu {t:Tr}(h:Z7 W t){i:Nat}(hi:i<7):(edge W t.root i∧∃k∈t.kids,k.root=i∧bT t (i+1)=bT t i++[k])∨(¬edge W t.root i∧bT t (i+1)=bT t i):=by
 cases t with
 |leaf p=>exact .inr ⟨h.2 i hi,rfl⟩
 |node p l r=>
  obtain ⟨_,hlr,hr,he,_,_⟩:=h
  have ek:(Tr.node p l r).kids=[l,r]:=rfl
  have er:(Tr.node p l r).root=p:=rfl
  unfold bT
  rw[ek,er]
  by_cases h1:i=l.root
  ·refine .inl ⟨(he i hi).mpr (.inl h1),l,ay,h1.symm,?_⟩
   subst h1
   have a1:¬r.root<l.root+1:=by exact Ug hlr
   have a2:¬r.root<l.root:=by exact UL hlr
   simp[a1,a2]
  ·by_cases h2:i=r.root
   ·refine .inl ⟨(he i hi).mpr (.inr h2),r,by simp,h2.symm,?_⟩
    subst h2
    have a1:l.root<r.root+1:=by exact Ud hlr
    simp[a1,hlr]
   ·refine .inr ⟨fun q=>((he i hi).mp q).elim h1 h2,?_⟩
    have e1:decide (l.root<i+1)=decide (l.root<i):=by simp;exact PJ hlr h1 h2
    have e2:decide (r.root<i+1)=decide (r.root<i):=by simp;exact R3 h2
    simp only[t9,List.filter_nil,e1,e2]
theorem yx (b:Bool)(x:KD):(aL b [x]).length≤1:=by cases b;exact qV 1;exact gz 1
theorem Bl (b:Bool)(own:KD)(ks:List sE):(dz b own ks).length≤ks.length+1∧(jZ b own ks).length≤ks.length+1:=by
 have key:∀(b:Bool) (f:sE→Bool),(aL b [own]++(ks.filter f).map (fun x=>x.told)).length≤ks.length+1:=fun b f=>by
  rw[fm,bP,rS];exact fy (vF f ks) (yx b own)
 exact⟨key _ _,key _ _⟩
theorem Bm (b:Bool)(own:KD){ks:List sE}(h:ks.length≤2):(dz b own ks).length≤3∧(jZ b own ks).length≤3:=
 ⟨ai (Bl b own ks).1 (gI h),ai (Bl b own ks).2 (gI h)⟩
structure Good (W:Wd)(n:Nat)(m:KD):Prop where
 nd:(m.map (fun x=>x.1)).Nodup
 ii:∀p∈m,IsI p.2
 at_:∀p∈m,p.1∈W.names
 len:m.length≤n
theorem rC (m:KD)(k:Str)(d:D)(h:(m.map (fun x=>x.1)).Nodup):((putD m k d).map (fun x=>x.1)).Nodup:=by
 unfold putD
 split
 ·have:(m.map (fun p=>if p.1=k then(p.1,d) else p)).map (fun x=>x.1)=m.map (fun x=>x.1):=by
   rw[kH]
   refine mT fun p Z=>?_
   simp only[Function.comp]
   split<;>rfl
  rw[this];exact h
 ·rename_i hn
  rw[g9,i8]
  refine⟨h,by simp,fun a ha b hb=>?_⟩
  simp at hb
  subst hb
  rintro rfl
  obtain ⟨p,hp,e⟩:=eg.mp ha
  exact hn (GI.mpr ⟨p,hp,by simpa using e⟩)
theorem HS {m:KD}{k:Str}{d:D}{p:Str×D}(h:p∈putD m k d):p.1=k∨p.1∈m.map (fun x=>x.1):=by
 unfold putD at h
 split at h
 ·obtain ⟨q,hq,e⟩:=eg.mp h
  refine .inr ?_
  have e1:p.1=q.1:=by split at e<;>rw[←e]
  exact e1▸eg.mpr ⟨q,hq,rfl⟩
 ·rcases eW.mp h with h|h
  ·exact .inr (i6 (f:=zI) h)
  ·simp at h;exact .inl (by rw[h])
theorem Good.step {n:Nat}{m:KD}(h:Good W n m){k:Str}{d:D}(hd:IsI d)(hk:k∈W.names):Good W (n+1) (dX m k d):=by
 refine⟨rC _ _ _ h.nd,fun p hp=>?_,fun p hp=>?_,ai (mC _ _ _) (by have:=h.len;exact Ui this)⟩
 ·rcases gM hp with q|q|⟨o,ho,q⟩
  ·exact h.ii p q
  ·rw[q];exact hd
  ·obtain ⟨i,hi⟩:=hd
   obtain ⟨j,hj⟩:=h.ii _ ho
   have hj:o=.int j:=hj
   exact⟨j+i,by rw[q,hi,hj];rfl⟩
 ·rcases HS hp with q|q
  ·rw[q];exact hk
  ·obtain ⟨p',hp',e⟩:=eg.mp q
   rw[←e];exact h.at_ p' hp'
theorem Good.merge {n:Nat}:∀{r m:KD},Good W n m→(∀p∈r,IsI p.2)→(∀p∈r,p.1∈W.names)→Good W (n+r.length) (aF m r)
 | [],m,h,_,_=>h
 |(k,d)::r,m,h,h1,h2=>by
  have:=Good.merge (n:=n+1) (r:=r) (h.step (h1 _ ay) (h2 _ ay)) (fun p hp=>h1 p (bE _ hp)) fun p hp=>h2 p (bE _ hp)
  have hl:(aF (dX m k d) r).length≤n+1+r.length:=this.len
  refine⟨this.nd,this.ii,this.at_,?_⟩
  show(aF (dX m k d) r).length≤_
  rw[i9]
  exact Ss hl
theorem Good.fold {n c:Nat}:∀{ps:List KD} {m:KD},Good W n m→(∀p∈ps,Good W c p)→Good W (n+c*ps.length) (ps.foldl aF m)
 | [],m,h,_=>h
 |p::ps,m,h,hp=>by
  have g:=hp p ay
  have h1:=h.merge g.ii g.at_
  have h1':Good W (n+c) (aF m p):=⟨h1.nd,h1.ii,h1.at_,by have:=h1.len;have:=g.len;exact RV (by assumption) this⟩
  have:=Good.fold h1' fun q hq=>hp q (bE _ hq)
  rw[B6]
  exact⟨this.nd,this.ii,this.at_,by have:=this.len;rw[i9,HL];exact RT this⟩
theorem qF {l:List KD}{m:KD}(h:m∈Zn W l):m∈l:=by
 unfold Zn at h
 split at h
 ·exact F2 h
 ·exact h
theorem qD (l:List KD):(Zn W l).length≤l.length:=by
 unfold Zn
 split
 ·exact List.length_eraseIdx_le ..
 ·exact gz _
end
end
section
section
variable {w:gp}{k:Nat}{A A':Around}{X X':Addr→Prop}{env:UI}{outer:List UI}{sc:Scope}{ρ ρ':Yx}{s s0 s1 s' s'' sk:aE}{μ ZJ YC YM:YX}{h h':Heap}{E:bX→aE→Prop}{Z:Addr→Prop}{fr:List Addr}
theorem cg (mx:Mx w k A X env sc ρ μ s){x:Str}{px pos:UK}{e:PySem.Expr}{d:D}{Q:zh→aE→Prop}(hk:LC sc x)(he:aV w A X (ku e env) d s)(hsw:uF e=true)
  (hQ:∀s',YF (Own env sc) s s'→Mx w k A X env sc ((x,d)::ρ) μ s'→Q .next s'):cE (cS PW w) A (Nn (.Assign [.Name x px] e pos) env) Q E s:=
 fP hsw (he.now _ _ fun v s1 u1 r1=>cV (mx.pu u1) hk r1 fun s' pb m=>hQ s' ((YF.YB u1).trans pb) m)
theorem xx (mx:Mx w k A X env sc ρ μ s){x1 x2 x3 x4 y:Str}{p1 p2 p3 p4 p5 p6 pos:UK}{kt:Nat}{d1 d2 d3 d4:D}{Q:zh→aE→Prop}(hk:bw sc [x1,x2,x3,x4])
  (he:aV w A X (ku (.Name y p6) env) (.tup [d1,d2,d3,d4]) s)
  (hQ:∀s',YF (Own env sc) s s'→Mx w k A X env sc ((x4,d4)::(x3,d3)::(x2,d2)::(x1,d1)::ρ) μ s'→Q .next s') :
  cE (cS PW w) A (Nn (.Assign [.Tuple [.Name x1 p1,.Name x2 p2,.Name x3 p3,.Name x4 p4] kt p5] (.Name y p6) pos) env) Q E s:=by
 refine xD (he.now _ _ fun v s1 u1 r1=>?_) rfl rfl
 show cE _ A (z0 (.Tuple [.Name x1 p1,.Name x2 p2,.Name x3 p3,.Name x4 p4] kt p5) env v) (fun Y=>Q .next) E s1
 have mx1:=mx.pu u1
 obtain ⟨T,vs,rfl,⟨n,hT⟩,hTx,hr⟩:=r1
 obtain ⟨v1,t1,e1,g1,v2,t2,e2,g2,v3,t3,e3,g3,v4,t4,e4,g4,rfl⟩:=hr
 subst e2 e3 e4
 have evs:vs=#[v1,v2,v3,v4]:=by apply AU;simpa using e1
 subst evs
 refine LS mx.cx.a.handled ⟨_,hT,rfl,_,rfl⟩ (by rfl) (by rfl) fun h' he=>?_
 have p0:Pu s1 {s1 with heap:=h'}:=⟨fun a o e Y=>he a o (fun q=>by rw[q] at e;exact iE _ (eK e)) e,fun Z9=>by obtain ⟨vs,e⟩:=Z9;exact⟨vs,he _ _ (fun q=>by rw[q] at e;exact iE _ (eK e)) e⟩,id,rfl,rfl⟩
 have m0:=mx1.pu p0
 show cE (cS PW w) A (LA [z0 (.Name x1 p1) env,z0 (.Name x2 p2) env,z0 (.Name x3 p3) env,z0 (.Name x4 p4) env] [v1,v2,v3,v4]) _ E _
 have pt:=mx.cx.Yz.pt
 refine ah (fT (kX (cV m0 (hk x1 ay) (g1.up (p0.up pt) _ _) fun sa pa ma=>?_)))
 have ua:=pa.up m0.cx.Yz.pt fun a h=>m0.ZD h
 refine ah (fT (kX (cV ma (hk x2 (bE _ ay)) ((g2.up (p0.up pt) _ _).up ua _ _) fun sb pb mb=>?_)))
 have ub:=pb.up ma.cx.Yz.pt fun a h=>ma.ZD h
 refine ah (fT (kX (cV mb (hk x3 (.tail _ (.tail _ (.head _)))) (((g3.up (p0.up pt) _ _).up ua _ _).up ub _ _) fun sc' pc mc=>?_)))
 have uc:=pc.up mb.cx.Yz.pt fun a h=>mb.ZD h
 refine ah (fT (kX (cV mc (hk x4 (by simp)) ((((g4.up (p0.up pt) _ _).up ua _ _).up ub _ _).up uc _ _) fun sd pd md=>?_)))
 exact bg (hQ sd (((((YF.YB (u1.trans p0)).trans pa).trans pb).trans pc).trans pd) md)
theorem b8 (cx:Cx w k A X env sc ρ s){e i:PySem.Expr}{pos:UK}{l:List D}{n:Nat}{d:D}(he:aV w A X (ku e env) (.lst l) s)(hi:aV w A X (ku i env) (.int n) s)(hl:l.length≤1000)(hd:l[n]?=some d)
  (hs:∀p o v,C4 i p o v=match p with|true=>Ll (.builtin "lifetime.subscript" ⟨[o,v],[]⟩)|false=>Kn [o,v] (CM o v)):aV w A X (ku (.Subscript e i pos) env) d s:=
 eE cx.Yz he hi (fun s' va vb u' ra rb=>jb (tl:=false) (l:=l) (by exact Lj hl) (by exact wY) (by simpa using hd) (ra) rb) hs
theorem aU {x:Str}{px:UK}:∀p o v,C4 (.Name x px) p o v=match p with|true=>Ll (.builtin "lifetime.subscript" ⟨[o,v],[]⟩)|false=>Kn [o,v] (CM o v):=by
 intro p o v;cases p<;>rfl
theorem Mz {a:Addr}{l:List D}(mx:Mx w k A X env sc ρ (YC++(a,.lst l)::YM) s){x y:Str}{p1 p2 p3 pos:UK}{n:Nat}{Q:zh→aE→Prop}(hx:aV w A X (ku (.Name x p1) env) (.val (.ref a)) s)(hy:aV w A X (ku (.Name y p2) env) (.int n) s)(hn:n<l.length)(hl:l.length≤1000)
  (hQ:∀s',YF (dj env sc [a]) s s'→Mx w k A X env sc ρ (YC++(a,.lst (l.eraseIdx n))::YM) s'→Q .next s'):cE (cS PW w) A (Nn (.Delete [.Subscript (.Name x p1) (.Name y p2) p3] pos) env) Q E s:=by
 refine wpAny_Delete (wpAny_deleteEach_cons (wpAny_delete_Subscript ?_))
 refine hx.now _ _ fun v1 s1 u1 r1=>?_
 obtain rfl:=r1
 refine(hy.pu u1).now _ _ fun v2 s2 u2 r2=>?_
 obtain ⟨t2,rfl⟩:=r2
 have m2:=mx.pu (u1.trans u2)
 have hin:(a,D.lst l)∈YC++(a,.lst l)::YM:=by simp
 obtain ⟨vs,hp,hr⟩:=(m2.mu.at_ _ hin).l
 have hlen:=hr.length
 rw[iS] at hlen
 refine wpAny_delItem_plain (k:=n) hp (by unfold P4;simp;exact RP hn hl hlen) (by rw[hlen];exact gH (by exact wY) (hn)) (fun h3 hp3 hs3=>?_) (by rw[c9];exact U0 hl hlen)
 have YZ:=m2.mu.YZ hin
 have pb:YF (fun x=>x=a) s2 {s2 with heap:=h3}:=⟨fun b o e Y z=>hs3.extBut b o z e,fun Z9=>by obtain ⟨vs,e⟩:=Z9;exact⟨vs,hs3.extBut _ _ (i7 YZ) e⟩,id,rfl,rfl⟩
 have up:Up X X s2.heap h3:=pb.up m2.cx.Yz.pt fun b e=>e▸m2.mu.x _ hin
 have key:∀(l:List D) (vs:List bX) (n:Nat),aX w h3 X l vs→aX w h3 X (l.eraseIdx n) (vs.eraseIdx n):=by
  intro l
  induction l with
  |nil=>intro vs n r;subst r;simpa using aX.nil
  |cons d l ih=>
   intro vs n r
   obtain ⟨v,t,rfl,r1,r2⟩:=r
   cases n with
   |zero=>simpa using r2
   |succ n=>simpa using aX.cons r1 (ih t n r2)
 have m3:=m2.turn pb (d':=.lst (l.eraseIdx n)) (.lst _ _ rfl hp3 (Array.toList_eraseIdxIfInBounds.symm▸key _ _ _ (hr.up up)))
 exact wpAny_deleteEach_nil (hQ _ ((YF.YB (u1.trans u2)).trans (pb.mono fun b e=>.inr (bS.mpr e))) m3)
theorem Mx.perm (mx:Mx w k A X env sc ρ μ s)(h:ZJ.Perm μ):Mx w k A X env sc ρ ZJ s:=
 ⟨mx.cx,⟨fun p hp=>mx.mu.at_ p (h.subset hp),fun p hp=>mx.mu.x p (h.subset hp),fun p hp=>mx.mu.big p (h.subset hp),fun p hp=>mx.mu.away p (h.subset hp),(h.map zI).nodup_iff.mpr mx.mu.nodup⟩⟩
theorem Fx.perm (f:Fx w k A X env sc ρ μ outer s)(h:ZJ.Perm μ):Fx w k A X env sc ρ ZJ outer s:=⟨f.mx.perm h,f.frames,f.here,f.ff,f.fx,fun p hp=>f.ap p (h.subset hp)⟩
theorem Fx.add {a:Addr}{d:D}(f:Fx w k A X env sc ρ μ outer s)(pb:YF (Own env sc) s s')(hn:s.heap.get? a=CR)(m:Mx w k A X' env sc ρ' ((a,d)::μ) s')(hX:∀a,X a→X' a):Fx w k A X' env sc ρ' ((a,d)::μ) outer s' where
 mx:=m
 frames:=f.frames
 here:=f.here
 ff:=yQ f (fr:=[]) (.YJ pb) fun L hL z=>(f.fx L hL).2.2 z.pl
 fx:=fun L hL=>⟨hX L (f.fx L hL).1,(f.fx L hL).2⟩
 ap:=fun p hp hL=>by
  rcases dP.mp hp with rfl|hp
  ·obtain ⟨_,o,ho,_⟩:=f.ff.mem hL
   rw[hn] at ho;exact YD ho
  ·exact f.ap p hp hL
theorem Ez {aS:Addr}(t:Z1 (fun x=>x=aS) (frs outer) s sk)(p:Z1 Z (frs (env::outer)) sk s')(hz:∀a,Z a→a=aS∨s.heap.get? a=none)(hL:s.heap.get? env.locals=none)(here:env.frame=some env.locals):Z1 (fun x=>x=aS) (frs outer) s s':=by
 have est:frs (env::outer)=env.locals::frs outer:=by unfold frs;rw[sA,here]
 refine⟨fun a o e n z=>?_,fun h=>p.tab (t.tab h),fun h=>p.gens (t.gens h),p.drawn.trans t.drawn,p.os.trans t.os⟩
 have nz:¬Z a:=fun q=>(hz a q).elim z fun q=>by exact YD (q.symm.trans e)
 have nL:a∈frs (env::outer)→a∈frs outer:=fun q=>by
  rw[est] at q
  rcases dP.mp q with q|q
  ·rw[q,hL] at e;exact YD e
  ·exact q
 rcases t.heap a o e n z with q|⟨m,sl,q⟩
 ·rcases p.heap a o q n nz with r|⟨m,sl,r⟩
  ·exact .inl r
  ·exact .inr ⟨nL m,sl,r⟩
 ·rcases p.heap a _ q n nz with r|⟨_,sl',r⟩
  ·exact .inr ⟨m,sl,r⟩
  ·exact .inr ⟨m,sl',r⟩
theorem W7 {aS a:Addr}(t:Z1 (fun x=>x=aS) fr s sk)(hn:sk.heap.get? a=none)(h1:a≠aS)(h2:a≠PT):s.heap.get? a=none:=by
 cases q:s.heap.get? a with
 |none=>rfl
 |some o=>rcases t.heap a o q h2 h1 with r|⟨_,_,r⟩<;>rw[hn] at r<;>exact YD r
end
end
section
noncomputable abbrev Zm:Scope:=cF "_law_ask"
noncomputable abbrev aT':Str:=af "took"
noncomputable abbrev aR':Str:=af "refused"
noncomputable abbrev aK':Str:=af "kept"
noncomputable abbrev aO':Str:=af "own"
noncomputable abbrev aNa:Str:=af "names"
noncomputable abbrev aRe:Str:=af "reaches"
noncomputable abbrev aRo:Str:=af "rows"
noncomputable abbrev aOr:Str:=af "order"
noncomputable abbrev aP':Str:=af "place"
noncomputable abbrev aCa:Str:=af "came"
noncomputable abbrev aSt:Str:=af "state"
noncomputable abbrev aSe:Str:=af "seen"
noncomputable abbrev aW':Str:=af "world"
noncomputable abbrev aB':Str:=af "below"
noncomputable abbrev Fz (W:Wd):D:=.order (.lst [.tup [.int 1,.int W.w0],.tup [.int 0,.int W.w1]])
noncomputable def ZW:List Stmt:=(dZ "_law_ask").drop 5
noncomputable abbrev WX (W:Wd)(p:Nat)(K:Str)(aS:Addr):Yx:=[(aK',.str K),(aOr,Fz W),(aRo,.lst (W.rows.map .str)),(aRe,.lst (W.reaches.map .str)),(aNa,.lst (W.names.map .str)),(aP',.int p),(aSt,.int W.state),(aSe,.val (.ref aS)),(aW',ZS W)]
noncomputable abbrev sS (W:Wd)(p:Nat)(K:Str)(aS aT aR:Addr):Yx:=(aR',.val (.ref aR))::(aT',.val (.ref aT))::WX W p K aS
theorem Wi {a b c:Str×D}:True:=trivial
section
variable {w:gp}{k n:Nat}{A:Around}{X X':Addr→Prop}{env:UI}{outer:List UI}{sc:Scope}{ρ ρ':Yx}{s s':aE}{W:Wd}
theorem Mq (h:WOk W){p:Nat}(hp:p<7):(W.rows.map D.str)[p]?=some (.str (W.rows.getD p Str.empty)):=by
 have:=h.ro
 rw[gu,bq,c8 (by exact om7 hp this)];rfl
theorem vC (h:WOk W){p:Nat}(hp:p<7):(W.names.map D.str)[p]?=some (.str (nameAt W p)):=by
 have:=h.n
 unfold nameAt
 rw[gu,bq,c8 (by exact om7 hp this)];rfl
theorem Ei (h:WOk W){p:Nat}(hp:p<7):(W.reaches.map D.str)[p]?=some (.str (W.reaches.getD p Str.empty)):=by
 have:=h.re
 rw[gu,bq,c8 (by exact om7 hp this)];rfl
theorem dM (cx:Cx w k A X env sc ρ s){f:Str}{fp pos:UK}{es:List PySem.Expr}{ds:List D}{a:Addr}{params:Arguments}{body:List Stmt}{sc':Scope}(hk:sc.names.lookup f=some .globalImplicit)(hg:cH f=some (.val (.ref a)))
  (hf:Zd.lookup a=some (params,body,sc')) (ha:bO w A X es env ds s) (hpl:∀e∈es,isStarred e=false) (hnil:es=[]→ds=[]) {Q E:bX→aE→Prop}
  (h:∀vs s',Pu s s'→aX w s'.heap X ds vs→cE (cS PW w) A (call (.ref a) vs) Q E s'):cE (cS PW w) A (ku (.Call (.Name f fp) es [] pos) env) Q E s:=by
 refine kN ((bZ cx hk hg).now _ _ fun v s1 u1 r1=>?_)
 subst r1
 obtain ⟨o,fd,h1,h2,h3⟩:=(cx.base.fns a _ hf).here
 have hne:a≠PT:=fun q=>(cx.base.fns a _ hf).nx (q▸cx.Yz.pt)
 exact BH (o:=o) (fd:=fd) (bc ha hpl hnil s1 u1 _ _ fun vs s2 u2 r2=>⟨⟨(u1.trans u2).heap _ _ h1 hne,h3⟩,h vs s2 (u1.trans u2) r2⟩)
theorem Nj {μ:YX}{aO:Addr}{v1 v2:bX}{d1 d2:D}{kt:Nat}{tp:UK}(mx:Mx w k A X env sc ρ μ s)(r1:Rep w s.heap X d1 v1)(r2:Rep w s.heap X d2 v2){Q E:bX→aE→Prop}
  (hQ:∀v s',Pu s s'→Rep w s'.heap X (.tup [d1,d2]) v→Q v s'):∀v,v=[v1,v2].toArray→Q (.ref s.heap.objs.size) {s with heap:=s.heap.push {cls:=.type "tuple",data:=.seq [v1,v2].toArray}}:=by
 intro _ _
 refine hQ _ _ (Pu.YK _ _) ?_
 exact⟨_,_,rfl,⟨_,ck _ rfl⟩,mx.cx.Yz.new,aX.up dC [d1,d2] [v1,v2] (.cons r1 (.one r2))⟩
theorem qT {μ:YX}(mx:Mx w k A X env sc ρ μ s){lp:UK}{Q E:bX→aE→Prop}(hQ:∀a s',s.heap.get? a=none→Pu s s'→Mx w k A (fun b=>X b∨b=a) env sc ρ ((a,.lst [])::μ) s'→Q (.ref a) s'):cE (cS PW w) A (ku (.List [] lp) env) Q E s:=by
 obtain ⟨hn,hb⟩:=jw mx.cx.Yz
 refine j6 ?_
 have u:Pu s {s with heap:=s.heap.push {cls:=.type "list",data:=.seq #[]}}:=Pu.YK _ _
 exact hQ _ _ hn u (mx.add u hn hb (d:=.lst []) (.lst _ #[] rfl ⟨_,ck _ rfl⟩ aX.nil))
theorem zU {μ:YX}(mx:Mx w k A X env sc ρ μ s){x:Str}{p lp tp:UK}{kt:Nat}{aO:Addr}{Q E:bX→aE→Prop}(hx:aV w A X (ku (.Name x p) env) (.val (.ref aO)) s)
  (hQ:∀a v s',s.heap.get? a=none→Pu s s'→Mx w k A (fun b=>X b∨b=a) env sc ρ ((a,.lst [])::μ) s'→Rep w s'.heap (fun b=>X b∨b=a) (.tup [.val (.ref aO),.val (.ref a)]) v→Q v s') :
  cE (cS PW w) A (ku (.Tuple [.Name x p,.List [] lp] kt tp) env) Q E s:=by
 refine CU (iX (hx.now _ _ fun v1 s1 u1 r1=>?_) (ao rfl))
 subst r1
 refine iX (qT (mx.pu u1) fun a s2 hn u2 mx2=>?_) (ao rfl)
 refine kC (pos:=tp) (env:=env) ⟨by rw[c9];simp,?_⟩
 have hn0:s.heap.get? a=none:=by
  cases q:s.heap.get? a with
  |none=>rfl
  |some o=>
   by_cases qp:a=PT
   ·exact absurd qp (mx2.mu.YZ ay)
   ·rw[u1.heap _ _ q qp] at hn;cases hn
 exact hQ a _ _ hn0 ((u1.trans u2).trans (Pu.YK _ _)) (mx2.pu (Pu.YK _ _)) (by
  exact⟨_,_,rfl,⟨_,ck _ rfl⟩,mx2.cx.Yz.new,aX.up dC [.val (.ref aO),.val (.ref a)] [.ref aO,.ref a] (.cons cU (.one cU))⟩)
theorem zV {μ:YX}(mx:Mx w k A X env sc ρ μ s){x:Str}{p lp tp:UK}{kt:Nat}{aO:Addr}{Q E:bX→aE→Prop}(hx:∀s' X',(∀a,X a→X' a)→Cx w k A X' env sc ρ s'→aV w A X' (ku (.Name x p) env) (.val (.ref aO)) s')
  (hQ:∀a v s',s.heap.get? a=none→Pu s s'→Mx w k A (fun b=>X b∨b=a) env sc ρ ((a,.lst [])::μ) s'→Rep w s'.heap (fun b=>X b∨b=a) (.tup [.val (.ref a),.val (.ref aO)]) v→Q v s') :
  cE (cS PW w) A (ku (.Tuple [.List [] lp,.Name x p] kt tp) env) Q E s:=by
 refine CU (iX (qT mx fun a s2 hn u2 mx2=>?_) (ao rfl))
 refine iX ((hx _ _ (fun Y h=>.inl h) mx2.cx).now _ _ fun v1 s1 u1 r1=>?_) (ao rfl)
 subst r1
 have mx1:=mx2.pu u1
 refine kC (pos:=tp) (env:=env) ⟨by rw[c9];simp,?_⟩
 exact hQ a _ _ hn ((u2.trans u1).trans (Pu.YK _ _)) (mx1.pu (Pu.YK _ _)) (by
  exact⟨_,_,rfl,⟨_,ck _ rfl⟩,mx1.cx.Yz.new,aX.up dC [.val (.ref a),.val (.ref aO)] [.ref a,.ref aO] (.cons cU (.one cU))⟩)
theorem lw {μ:YX}(mx:Mx w k A X env sc ρ μ s){x y:Str}{p1 p2 tp:UK}{kt:Nat}{d1 d2:D}{v:bX}{Q:Unit→aE→Prop}{E:bX→aE→Prop}(hk:∀z∈[x,y],sc.names.lookup z=some .local∨sc.names.lookup z=some .cell)(r:Rep w s.heap X (.tup [d1,d2]) v)
  (hQ:∀s',YF (Own env sc) s s'→Mx w k A X env sc ((y,d2)::(x,d1)::ρ) μ s'→Q () s'):cE (cS PW w) A (z0 (.Tuple [.Name x p1,.Name y p2] kt tp) env v) Q E s:=by
 refine iW mx.cx.a mx.cx.Yz mx.cx.vis (ρ':=(y,d2)::(x,d1)::ρ) rfl hk r fun s' pb v' x'=>?_
 have pb':YF (Own env sc) s s':=pb.mono fun a h=>h.own
 exact hQ s' pb' (mx.step pb' ⟨mx.cx.a,x',mx.cx.base.up (pb'.up mx.cx.Yz.pt fun a h=>mx.ZD h),v'⟩)
theorem cQ {Z:Addr→Prop}{fr:List Addr}{a:Addr}{s0:aE}(t:Z1 Z fr s0 s)(hn:s.heap.get? a=none)(h1:¬Z a)(h2:a≠PT):s0.heap.get? a=none:=by
 cases q:s0.heap.get? a with
 |none=>rfl
 |some o=>rcases t.heap a o q h2 h1 with r|⟨_,_,r⟩<;>rw[hn] at r<;>exact YD r
set_option maxHeartbeats 8000000 in
theorem BW (hA:Zv (30+n) A)(hX:Z6 X s)(hB:Base w X s.heap)(hfr:A.frames=some outer)(hff:s.heap.FunFrames H0 outer){aS:Addr}{L:List D}{p:Nat}{c:Str}{vs:List bX}
  (hfx:∀a∈frs outer,X a∧a≠PT∧a≠aS) (hxS:X aS) (hbS:61<aS) (hm:cB w s.heap X aS (.lst L)) (hL:L.length≤100) (hW:WOk W) (hp:p<7) (hc:(bf W p c).length≤400000)
  (r:aX w s.heap X [.int p,.str c,.int W.state,.val (.ref aS),ZS W] vs) {Q E:bX→aE→Prop}
  (h:∀env X2 aT aR s2,Fx w (29+n) (A.deeper env) X2 env Zm (sS W p (bf W p c) aS aT aR) [(aT,.lst ((dz (eQ W p) (ownOf W p c) []).map aj)),(aR,.lst ((jZ (eQ W p) (ownOf W p c) []).map aj)),(aS,.lst (L++[.tup [.int p,.str (bf W p c)]]))] outer s2→
   (∀a,X a→X2 a)→Z1 (fun x=>x=aS) (frs outer) s s2→(∀a,dj env Zm [aT,aR,aS] a→a=aS∨s.heap.get? a=none)→
   cE (cS PW w) (A.deeper env) (oz ZW env) (WP Q) (zF w (A.deeper env) env E) s2):cE (cS PW w) A (call (.ref 204) vs) Q E s:=by
 have hv:vs.length=5:=r.length
 have hA':Zv (29+n+1) A:=hA.mono (by exact JR)
 refine dq (k:=29+n) hA' hX hB (show Zd.lookup 204=some (bU "_law_ask",dZ "_law_ask",Zm) from by kernel_rfl) (ps:=psN "_law_ask") (by decide +kernel) (fun fd e1 e2 e3=>fQ e1 e2 e3 fun fd=>?_) rfl r fun env X1 s1 st=>?_
 ·obtain ⟨a,b,c,d,e,h⟩:=Oq hv;exact h▸rfl
 have hH:=(w7 w).mono (K':=29+n) (by exact M6)
 have kl:∀x∈[aT',aR',aK',aO',aNa,aRe,aRo,aOr,aP',aCa,aSt,aSe,aW',aB'],Zm.names.lookup x=some .local:=by
  intro x hx
  have hall:([aT',aR',aK',aO',aNa,aRe,aRo,aOr,aP',aCa,aSt,aSe,aW',aB'].all fun x=>decide (Zm.names.lookup x=some .local))=true:=by kernel_rfl
  simpa using fR.mp hall x hx
 have YZ:aS≠PT:=fun q=>by rw[q] at hbS;exact absurd hbS (by decide)
 obtain ⟨oS,hoS⟩:=hm.ex
 have up1:Up X X1 s.heap s1.heap:=⟨fun a o e n=>st.pu.heap a o e fun q=>n (q▸hX.pt),st.sub⟩
 have mx1:Mx w (29+n) (A.deeper env) X1 env Zm ((psN "_law_ask").zip [.int p,.str c,.int W.state,.val (.ref aS),ZS W]) [(aS,.lst L)] s1:=
  ⟨st.cx,⟨fun q hq=>by simp at hq;subst hq;exact hm.up up1 fun o e=>st.pu.heap _ _ e YZ,fun q hq=>by simp at hq;subst hq;exact st.grow _ hxS,fun q hq=>by simp at hq;subst hq;exact hbS,fun q hq z=>(by obtain rfl:=bS.mp hq;rw[st.new _ z] at hoS;exact YD hoS),by simp⟩⟩
 have nL:=st.new _ (Or.inl rfl)
 have fx1:Fx w (29+n) (A.deeper env) X1 env Zm ((psN "_law_ask").zip [.int p,.str c,.int W.state,.val (.ref aS),ZS W]) [(aS,.lst L)] outer s1:=
  {mx:=mx1
   frames:=by show A.frames.map (env::·)=_;rw[hfr];rfl
   here:=st.frame
   ff:=Jt (fun a ha o ho hd=>⟨o,st.pu.heap _ _ ho (hfx a ha).2.1,rfl⟩) hff
   fx:=fun a ha=>⟨st.grow _ (hfx a ha).1,(hfx a ha).2.1,fun z=>by
    obtain ⟨_,o,ho,_⟩:=hff.mem ha
    rw[st.new _ z] at ho;exact YD ho⟩
   ap:=fun q hq ha=>by obtain rfl:=bS.mp hq;exact(hfx _ ha).2.2 rfl}
 clear mx1
 refine aH (xx fx1.mx (fun x hx=>.inl (kl x ?_)) (d1:=.lst (W.names.map .str)) (d2:=.lst (W.reaches.map .str)) (d3:=.lst (W.rows.map .str)) (d4:=Fz W) (aK fx1.mx.cx (.inl (by kernel_rfl)) (by rfl) (by decide +kernel) (by decide +kernel)) fun s2 Zc mx2=>?_)
 ·simp only[dP,eu,or_false] at hx ⊢;rcases hx with rfl|rfl|rfl|rfl<;>simp
 have fx2:=fx1.step Zc mx2
 clear mx2
 refine aH (cg fx2.mx (d:=.str (bf W p c)) (.inl (by kernel_rfl)) ?_ (by kernel_rfl) fun s3 pb3 mx3=>?_)
 ·refine jr (a:=106) (ds:=[.str (W.rows.getD p Str.empty),.str c]) hH fx2.mx.cx (bZ fx2.mx.cx (by kernel_rfl) (by kernel_rfl)) (args_cons fx2.mx.cx.Yz rfl (b8 fx2.mx.cx (l:=W.rows.map .str) (n:=p) (aK fx2.mx.cx (.inl (by kernel_rfl)) (by rfl) (by decide +kernel) (by decide +kernel)) (aK fx2.mx.cx (.inl (by kernel_rfl)) (by rfl) (by decide +kernel) (by decide +kernel)) ?_ (Mq hW hp) aU)
   (args_cons fx2.mx.cx.Yz rfl (aK fx2.mx.cx (.inl (by kernel_rfl)) (by rfl) (by decide +kernel) (by decide +kernel)) args_nil)) ?_ (fun h=>by cases h) (by decide +kernel) rfl ?_
  ·rw[bP,hW.ro];exact a0h
  ·intro e he;simp only[dP,eu,or_false] at he;rcases he with rfl|rfl<;>rfl
  ·refine⟨?_,trivial⟩
   have e:(bf W p c).length=(W.rows.getD p Str.empty).length+c.length:=iO ..
   show(W.rows.getD p Str.empty).length+c.length≤sizeLine
   rw[c9];exact JS hc e
 have Zt:=fx2.step pb3 mx3
 clear mx3
 refine aH (AE ?_ (by unfold CY;rw[Zt.mx.cx.vis.eqs,Zt.mx.cx.vis.kind];rfl) rfl)
 refine dM Zt.mx.cx (a:=106) (params:=bU "iadd") (body:=dZ "iadd") (sc':=cF "iadd") (by kernel_rfl) (by kernel_rfl) (by kernel_rfl) (ds:=[.val (.ref aS),.lst [.tup [.int p,.str (bf W p c)]]])
  (args_cons Zt.mx.cx.Yz rfl (aK Zt.mx.cx (.inl (by kernel_rfl)) (by rfl) (by decide +kernel) (by decide +kernel)) (args_cons Zt.mx.cx.Yz rfl (aa hH Zt.mx.cx (cs:=[]) (by rfl) trivial) args_nil))
  (fun e he=>by simp only[dP,eu,or_false] at he;rcases he with rfl|rfl<;>rfl) (fun h=>by cases h) fun vs5 s5 u5 r5=>?_
 have fx5:=Zt.pu u5
 obtain ⟨va,ta,ea,ra,vb,tb,eb,rb,etb⟩:=r5
 subst ea eb etb
 subst ra
 have hin:(aS,D.lst L)∈[(aS,D.lst L)]:=ay
 refine z8 (A:=A.deeper env) (fx5.mx.cx.a.mono (by exact JT)) fx5.mx.cx.Yz fx5.mx.cx.base (fx5.mx.mu.x _ hin) hbS (fx5.mx.mu.at_ _ hin) rb (by simp;exact JV hL) fun s6 pb6 hm6=>?_
 have fx6:Fx w (29+n) (A.deeper env) X1 env Zm _ ([]++(aS,.lst (L++[.tup [.int p,.str (bf W p c)]]))::[]) outer s6:=Fx.turn (YC:=[]) (YM:=[]) (fr:=[]) fx5 (.YJ pb6) (fun Y h=>by cases h) hm6
 have p6:Z1 (dj env Zm [aS]) (frs outer) s1 s6:=.YJ ((((Zc.mono fun a h=>Or.inl h).trans (pb3.mono fun a h=>.inl h)).trans (.YB u5)).trans (pb6.mono fun a h=>.inr (by rw[h];first|exact .head _|exact .tail _ (.head _)|exact .tail _ (.tail _ (.head _)))))
 refine aH (gJ fx6.mx (d:=aj (ownOf W p c)) (.inl (by kernel_rfl)) (CJ fx6.mx.cx.Yz (b8 fx6.mx.cx (l:=W.names.map .str) (n:=p) (aK fx6.mx.cx (.inl (by kernel_rfl)) (by rfl) (by decide +kernel) (by decide +kernel)) (aK fx6.mx.cx (.inl (by kernel_rfl)) (by rfl) (by decide +kernel) (by decide +kernel)) ?_ (vC hW hp) aU)
  (aa hH fx6.mx.cx (cs:=[(bf W p c).length≤sizeLine]) (by rfl) ⟨?_,trivial⟩)) (by kernel_rfl) fun aO s7 hn7 pb7 mx7=>?_)
 ·rw[bP,hW.n];exact a0h
 ·rw[c9];exact JW hc
 have fx7:Fx w (29+n) (A.deeper env) (fun b=>X1 b∨b=aO) env Zm _ [(aO,.lst [aj (ownOf W p c)]),(aS,.lst (L++[.tup [.int p,.str (bf W p c)]]))] outer s7:=fx6.add pb7 hn7 mx7 fun Y h=>.inl h
 generalize hX2:(fun b=>X1 b∨b=aO)=X2 at fx7
 have g2:∀a,X1 a→X2 a:=fun a h=>by rw[←hX2];exact .inl h
 have big:∀{a:Addr},61<a→a≠PT:=fun h q=>by rw[q] at h;exact absurd h (by decide)
 have a3p:∀a,Own env Zm a→s.heap.get? a=none:=fun a h=>st.new a h.pl
 have mO:=fx7.mx.mu.away (aO,.lst [aj (ownOf W p c)]) ay
 have mS:=fx7.mx.mu.away (aS,.lst (L++[.tup [.int p,.str (bf W p c)]])) (.tail _ (.head _))
 have nOS:aO≠aS:=by have:=fx7.mx.mu.nodup;simp at this;exact this
 have nO:s.heap.get? aO=none:=by
  have q6:s1.heap.get? aO=none:=cQ p6 hn7 (fun z=>z.elim (fun q=>mO q.pl) fun q=>nOS (bS.mp q)) (big (fx7.mx.mu.big _ ay))
  exact cQ (.YB st.pu (Z:=fun Y=>False) (fr:=[])) q6 id (big (fx7.mx.mu.big _ ay))
 have p7:Z1 (dj env Zm [aS]) (frs outer) s1 s7:=p6.trans (.YJ (pb7.mono fun a h=>.inl h))
 refine aH (xD (OC ?_) rfl rfl)
 refine dY hH fx7.mx.cx (b:=eQ W p) (cs:=[(0:Int)≤p]) (by rfl) (by rfl) ⟨by exact Ni hp,trivial⟩ s7 (Pu.refl _) _ _ fun s8 u8=>?_
 have fx8:=fx7.pu u8
 have nN:∀{aN:Addr},s8.heap.get? aN=none→61<aN→aN≠aS→s.heap.get? aN=none:=fun {aN} h0 hb hne=>by
  have p8:Z1 (dj env Zm [aS]) (frs outer) s1 s8:=p7.trans (.YB u8)
  have hpl:¬Pl env Zm aN:=fun q=>by obtain ⟨_,_,o,ho⟩:=fx8.mx.cx.places q;exact YD (h0.symm.trans ho)
  have q6:s1.heap.get? aN=none:=cQ p8 h0 (fun z=>z.elim (fun q=>hpl q.pl) fun q=>hne (bS.mp q)) (big hb)
  exact cQ (.YB st.pu (Z:=fun Y=>False) (fr:=[])) q6 id (big hb)
 have tot:∀{s9 s10:aE},Pu s8 s9→YF (Own env Zm) s9 s10→Z1 (fun x=>x=aS) (frs outer) s s10:=fun u9 a0O=>by
  have q:Z1 (dj env Zm [aS]) (frs outer) s1 _:=((p7.trans (.YB u8)).trans (.YB u9)).trans (.YJ (a0O.mono fun a h=>.inl h))
  have q':Z1 (fun a=>a=aS∨Own env Zm a) (frs outer) s1 _:=q.mono (fun a h=>h.elim .inr fun h=>.inl (bS.mp h)) fun Y h=>h
  exact q'.a0I st.pu fun a o z e=>by rw[a3p a z] at e;exact YD e
 cases a3E:eQ W p with
 |true=>
  simp only[if_true]
  refine zU fx8.mx (aO:=aO) (aK fx8.mx.cx (.inl (by kernel_rfl)) (by rfl) (by decide +kernel) (by decide +kernel)) fun aN v s9 hn9 u9 mx9 r9=>?_
  show cE _ _ (z0 _ _ _) _ _ _
  have fx9:=fx8.add (.YB u9) hn9 mx9 fun Y h=>.inl h
  refine lw fx9.mx (fun z hz=>.inl (kl z ?_)) r9 fun s10 a0O a3n=>?_
  ·simp only[dP,eu,or_false] at hz ⊢;rcases hz with rfl|rfl<;>simp
  have a3g:=fx9.step a0O a3n
  have mb:=fx9.mx.mu.big _ ay
  have nd:=fx9.mx.mu.nodup
  simp only[dc,AZ,ja,dP,eu,or_false,not_or] at nd
  have h':=h env (fun b=>X2 b∨b=aN) aO aN s10
  rw[a3E,show(dz true (ownOf W p c) []).map aj=[aj (ownOf W p c)] from rfl,show(jZ true (ownOf W p c) []).map aj=[] from rfl] at h'
  refine h' ((((a3g.perm (.swap _ _ _)).Zf ?_))) (fun a hh=>.inl (g2 a (st.grow a hh))) (tot u9 a0O) fun a hz=>?_
  ·exact allAt (av rfl (av rfl (av rfl (av rfl (av rfl (av rfl (av rfl (av rfl (av rfl (av rfl (av rfl trivial)))))))))))
  ·rcases hz with hz|hz
   ·exact .inr (a3p a hz)
   ·simp only[dP,eu,or_false] at hz
    rcases hz with rfl|rfl|rfl
    ·exact .inr nO
    ·exact .inr (nN hn9 mb nd.1.2)
    ·exact .inl rfl
 |false=>
  simp only[fh,if_false]
  refine zV fx8.mx (aO:=aO) (fun s' X' Y cx=>aK cx (.inl (by kernel_rfl)) (by rfl) (by decide +kernel) (by decide +kernel)) fun aN v s9 hn9 u9 mx9 r9=>?_
  show cE _ _ (z0 _ _ _) _ _ _
  have fx9:=fx8.add (.YB u9) hn9 mx9 fun Y h=>.inl h
  refine lw fx9.mx (fun z hz=>.inl (kl z ?_)) r9 fun s10 a0O a3n=>?_
  ·simp only[dP,eu,or_false] at hz ⊢;rcases hz with rfl|rfl<;>simp
  have a3g:=fx9.step a0O a3n
  have mb:=fx9.mx.mu.big _ ay
  have nd:=fx9.mx.mu.nodup
  simp only[dc,AZ,ja,dP,eu,or_false,not_or] at nd
  have h':=h env (fun b=>X2 b∨b=aN) aN aO s10
  rw[a3E,show(dz false (ownOf W p c) []).map aj=[] from rfl,show(jZ false (ownOf W p c) []).map aj=[aj (ownOf W p c)] from rfl] at h'
  refine h' (a3g.Zf ?_) (fun a hh=>.inl (g2 a (st.grow a hh))) (tot u9 a0O) fun a hz=>?_
  ·exact allAt (av rfl (av rfl (av rfl (av rfl (av rfl (av rfl (av rfl (av rfl (av rfl (av rfl (av rfl trivial)))))))))))
  ·rcases hz with hz|hz
   ·exact .inr (a3p a hz)
   ·simp only[dP,eu,or_false] at hz
    rcases hz with rfl|rfl|rfl
    ·exact .inr (nN hn9 mb nd.1.2)
    ·exact .inr nO
    ·exact .inl rfl
end
end
section
noncomputable def WW (w:gp)(X:Addr→Prop)(aS:Addr)(fr:List Addr)(L:List D)(m:KD)(s:aE)(e:bX)(s':aE):Prop:=
 ∃e' dx td s0,e=.ref e'∧Z1 (fun x=>x=aS) fr s s0∧cB w s0.heap X aS (.lst L)∧ExcAt s0.heap dx td∧dx∉fr∧Rep w s0.heap X (aj m) (.ref td)∧Fly fr s0.heap e' dx s'.heap∧s'.gens=s0.gens∧s'.drawn=s0.drawn∧s'.os=s0.os
noncomputable def Bx (w:gp)(W:Wd)(t:Tr)(n:Nat):Prop:=
 ∀{A:Around} {X:Addr→Prop} {s:aE} {outer:List UI} {aS:Addr} {L:List D} {c:Str} {vs:List bX},Zv (30+n) A→Z6 X s→Base w X s.heap→A.frames=some outer→s.heap.FunFrames H0 outer→
  (∀a∈frs outer,X a∧a≠PT∧a≠aS)→X aS→61<aS→cB w s.heap X aS (.lst L)→L.length+t.size≤100→Zh W t c→
  aX w s.heap X [.int t.root,.str c,.int W.state,.val (.ref aS),ZS W] vs→∀{Q E:bX→aE→Prop},
  (∀v s',(ask W t c).ok=true→Z1 (fun x=>x=aS) (frs outer) s s'→cB w s'.heap X aS (.lst (L++Z0 W t c))→Rep w s'.heap X (aj (ask W t c).told) v→Q v s')→
  (∀e s',(ask W t c).ok=false→WW w X aS (frs outer) (L++Z0 W t c) (ask W t c).told s e s'→E e s')→cE (cS PW w) A (call (.ref 204) vs) Q E s
noncomputable def a0T:Stmt:=ZW.getD 0 nE
section
variable {w:gp}{k n:Nat}{A:Around}{X X':Addr→Prop}{env:UI}{outer:List UI}{sc:Scope}{ρ ρ':Yx}{s s':aE}{W:Wd}
theorem El (t:Tr)(c:Str):(Z0 W t c).length=t.size:=by
 induction t generalizing c with
 |leaf p=>rfl
 |node p l r h1 h2=>simp[Z0,Tr.size,h1,h2]
theorem oA (b:Bool)(o:KD)(ks:List sE)(r:sE):dz b o (ks++[r])=if r.ok then dz b o ks++[r.told] else dz b o ks:=by
 unfold dz
 cases h:r.ok<;>simp[h]
theorem rE (b:Bool)(o:KD)(ks:List sE)(r:sE):jZ b o (ks++[r])=if r.ok then jZ b o ks else jZ b o ks++[r.told]:=by
 unfold jZ
 cases h:r.ok<;>simp[h]
noncomputable def sizes (ks:List Tr):Nat:=(ks.map Tr.size).sum
theorem Av {l l':List Tr}(h:l.Sublist l'):sizes l≤sizes l':=by
 unfold sizes
 induction h with
 |slnil=>exact gz _
 |cons a _ ih=>simp only[dc,B5];exact KC ih
 |cons_cons a _ ih=>simp only[dc,B5];exact T9 ih
theorem CX (ks:List Tr)(c:Str):(ks.flatMap fun k=>Z0 W k c).length=sizes ks:=by
 unfold sizes
 induction ks with
 |nil=>rfl
 |cons a r ih=>simp[El,ih]
set_option maxHeartbeats 8000000 in
theorem BV {t:Tr}{K:Str}{aS aT aR:Addr}{b:Bool}{own:KD}{L1:List D}(hW:WOk W)(hT:Z7 W t)(fx:Fx w (29+n) A X env Zm (sS W t.root K aS aT aR) [(aT,.lst ((dz b own []).map aj)),(aR,.lst ((jZ b own []).map aj)),(aS,.lst L1)] outer s)
  (ih:∀k∈t.kids,∃n',n'+1≤n∧Bx w W k n') (hL:L1.length+sizes t.kids≤100) (hK:K.length≤400000) (hC:∀k∈t.kids,Zh W k (qS K)) {Q:zh→aE→Prop} {E:bX→aE→Prop}
  (hQ:∀s',Z1 (dj env Zm [aT,aR,aS]) (frs (env::outer)) s s'→
   Fx w (29+n) A X env Zm (sS W t.root K aS aT aR) [(aT,.lst ((dz b own (t.kids.map fun k=>ask W k (qS K))).map aj)),(aR,.lst ((jZ b own (t.kids.map fun k=>ask W k (qS K))).map aj)),(aS,.lst (L1++t.kids.flatMap fun k=>Z0 W k (qS K)))] outer s'→Q .next s') :
  cE (cS PW w) A (Nn a0T env) Q E s:=by
 have hH:=(w7 w).mono (K':=29+n) (by exact M6)
 let M:Nat→YX:=fun i=>[(aT,.lst ((dz b own ((bT t i).map fun k=>ask W k (qS K))).map aj)),(aR,.lst ((jZ b own ((bT t i).map fun k=>ask W k (qS K))).map aj)),(aS,.lst (L1++(bT t i).flatMap fun k=>Z0 W k (qS K)))]
 have fx0:Fx w (29+n) A X env Zm (sS W t.root K aS aT aR) (M 0) outer s:=by
  simp only[M];rw[zx];simpa using fx
 refine yU (n:=7) (V:=fun Z=>sS W t.root K aS aT aR) (M:=M) (fun i=>.int i) _ [aT,aR,aS] fx0
  (by kernel_rfl) (by kernel_rfl) (az hH _ _ (l:=bG 0 7) (cs:=[]) (by rfl) trivial fx.mx.cx (by kernel_rfl) (fun d Z=>.inl (by kernel_rfl))) (by rfl) (fun Z=>rfl) (fun Z=>rfl) (fun i hi7=>?_) fun s4 pb4 fx4=>?_
 ·intro X3 s1 Q3 E3 fx1 hXX hQ3
  have a4x:Sub (sS W t.root K aS aT aR) ((aB',D.int i)::sS W t.root K aS aT aR):=allAt (av rfl (av rfl (av rfl (av rfl (av rfl (av rfl (av rfl (av rfl (av rfl (av rfl (av rfl trivial)))))))))))
  have cx1:=fx1.mx.cx
  have hp:=hT.a0q
  have hnl:(nameAt W t.root).length≤1000:=hW.nl _ (by
   have:=hW.n
   unfold nameAt
   rw[bq,c8 (by exact om7 hp this)]
   exact kM _)
  refine aH (A0 ?_)
  refine(aM (op:=.Eq) (cs:=[]) (d:=.bool (decide (W.reaches.getD i Str.empty=af "."++nameAt W t.root))) cx1.a cx1.Yz (b8 cx1 (l:=W.reaches.map .str) (n:=i) (aK cx1 (.inl (by kernel_rfl)) (by rfl) (by decide +kernel) (by decide +kernel)) (aK cx1 (.inl (by kernel_rfl)) (by rfl) (by decide +kernel) (by decide +kernel)) (by rw[bP,hW.re];exact a0h) (Ei hW hi7) aU)
    (aQ (op:=.Add) (a:=.str (af ".")) (b:=.str (nameAt W t.root)) (d:=.str (af "."++nameAt W t.root)) (cs:=[(af ".").length+(nameAt W t.root).length≤sizeLine]) cx1.Yz (aa hH cx1 (cs:=[]) (by rfl) trivial)
     (b8 cx1 (l:=W.names.map .str) (n:=t.root) (aK cx1 (.inl (by kernel_rfl)) (by rfl) (by decide +kernel) (by decide +kernel)) (aK cx1 (.inl (by kernel_rfl)) (by rfl) (by decide +kernel) (by decide +kernel)) (by rw[bP,hW.n];exact a0h) (vC hW hp) aU) rfl ⟨by
      show 1+(nameAt W t.root).length≤_;rw[c9];exact S6 hnl,trivial⟩) rfl trivial (by kernel_rfl)).test _ rfl s1 (Pu.refl _) _ _ fun s2 u2=>?_
  have fx2:=fx1.pu u2
  rcases zu hT hi7 with ⟨he,kd,hkd,a1J,hto⟩|⟨he,hto⟩
  ·rw[show decide (W.reaches.getD i Str.empty=af "."++nameAt W t.root)=true from decide_eq_true he]
   simp only[if_true]
   subst a1J
   have YW:=fx2.mx.cx
   have hsum:sizes (bT t kd.root)+kd.size≤sizes t.kids:=by
    have h1:sizes (bT t (kd.root+1))=sizes (bT t kd.root)+kd.size:=by rw[hto];simp[sizes]
    have h2:sizes (bT t (kd.root+1))≤sizes t.kids:=by
     exact Av AQ
    exact KQ h1 h2
   have hk2:(bT t kd.root).length≤2:=by
    refine ai (vF ..) ?_
    cases t<;>simp[Tr.kids]
   have a4z:=Bl b own
   refine aH (NS ?_)
   refine aH (AE ?_ (by unfold CY;rw[YW.vis.eqs,YW.vis.kind];rfl) rfl)
   refine k9 rfl ?_ (by kernel_rfl) ((aK YW (d:=.val (.ref aT)) (.inl (by kernel_rfl)) (by rfl) (by decide +kernel) (by decide +kernel)).now _ _ fun v s3 u3 r3=>?_)
   ·rw[ao rfl];rfl
   obtain rfl:=r3
   have Zt:=fx2.pu u3
   obtain ⟨us,⟨nn,hpT⟩,hrT⟩:=(Zt.mx.mu.at_ (aT,.lst ((dz b own ((bT t kd.root).map fun k=>ask W k (qS K))).map aj)) ay).l
   refine⟨"list",_,rq,x9,xe,⟨_,hpT,rfl⟩,fun b e=>by cases e;exact⟨_,hpT,rfl⟩,iL (YH fun e' h=>by obtain rfl:=bS.mp h;rfl) ?_⟩
   rw[ao rfl]
   refine w4 ?_
   show cE _ _ (SE (FU _ ((false,ku _ env)::zS [] env))) _ _ _
   rw[←ao (es:=[]) rfl]
   refine iX ?_ (ao rfl)
   refine dM Zt.mx.cx (a:=204) (params:=bU "_law_ask") (body:=dZ "_law_ask") (sc':=Zm) (by kernel_rfl) (by kernel_rfl) (by kernel_rfl) (ds:=[.int kd.root,.str (qS K),.int W.state,.val (.ref aS),ZS W])
    (args_cons Zt.mx.cx.Yz rfl (aa hH Zt.mx.cx (cs:=[]) (by rfl) trivial) (args_cons Zt.mx.cx.Yz rfl (aa hH Zt.mx.cx (cs:=[K.length≤500000]) (by rfl) ⟨by exact Uy hK,trivial⟩)
     (args_cons Zt.mx.cx.Yz rfl (aa hH Zt.mx.cx (cs:=[]) (by rfl) trivial) (args_cons Zt.mx.cx.Yz rfl (aa hH Zt.mx.cx (cs:=[]) (by rfl) trivial) (args_cons Zt.mx.cx.Yz rfl (aa hH Zt.mx.cx (cs:=[]) (by rfl) trivial) args_nil)))))
    (fun e he=>by simp only[dP,eu,or_false] at he;rcases he with rfl|rfl|rfl|rfl|rfl<;>rfl) (fun h=>by cases h) fun vs4 s4 u4 r4=>?_
   have fx4:=Zt.pu u4
   obtain ⟨n',hn',hk⟩:=ih kd hkd
   have a2u:(aS,D.lst (L1++(bT t kd.root).flatMap fun k=>Z0 W k (qS K)))∈[(aT,D.lst ((dz b own ((bT t kd.root).map fun k=>ask W k (qS K))).map aj)),(aR,.lst ((jZ b own ((bT t kd.root).map fun k=>ask W k (qS K))).map aj)),(aS,.lst (L1++(bT t kd.root).flatMap fun k=>Z0 W k (qS K)))]:=by simp
   have hfin:∀{s9:aE} {lT lR:List D},lT=(dz b own ((bT t (kd.root+1)).map fun k=>ask W k (qS K))).map aj→lR=(jZ b own ((bT t (kd.root+1)).map fun k=>ask W k (qS K))).map aj→
     Z1 (dj env Zm [aT,aR,aS]) (frs (env::outer)) s4 s9→Mx w (29+n) A X3 env Zm ((aB',D.int kd.root)::sS W t.root K aS aT aR) [(aT,.lst lT),(aR,.lst lR),(aS,.lst ((L1++(bT t kd.root).flatMap fun k=>Z0 W k (qS K))++Z0 W kd (qS K)))] s9→Q3 .next s9:=by
    intro s9 lT lR eT eR p9 m9
    subst eT eR
    refine hQ3 s9 ((Z1.YB (u2.trans (u3.trans u4))).trans p9) ?_
    have m9:=m9.Zf a4x
    rw[ko,show Z0 W kd (qS K)=[kd].flatMap (fun k=>Z0 W k (qS K)) from by simp,←pT,←hto] at m9
    exact m9
   refine hk (A:=A) (fx4.mx.cx.a.mono (by exact QC hn')) fx4.mx.cx.Yz fx4.mx.cx.base fx4.frames fx4.ZR (fun a ha=>⟨(fx4.Zk a ha).1,(fx4.Zk a ha).2,fun q=>fx4.a0N _ a2u (by rw[q] at ha;exact ha)⟩) (fx4.mx.mu.x _ a2u) (fx4.mx.mu.big _ a2u) (fx4.mx.mu.at_ _ a2u)
    (by rw[fm,CX];exact Qz hL hsum) (hC kd hkd) r4 (fun v s5 hok p5 m5 r5=>?_) (fun e s5 hno hr=>?_)
   ·have fx5:=Fx.turn (YC:=[_,_]) (YM:=[]) fx4 p5 (fun L h=>h) m5
    refine kC ?_
    refine gq (YC:=[]) fx5.mx r5 ?_ fun s6 pb6 mx6=>?_
    ·have:=(a4z ((bT t kd.root).map fun k=>ask W k (qS K))).1
     rw[bP,c9];rw[bP] at this;exact fz (Wv hk2 this)
    refine dS (dS (dS (dS (hfin ?_ ?_ ((p5.mono (fun a h=>.inr (by rw[h];first|exact .head _|exact .tail _ (.head _)|exact .tail _ (.tail _ (.head _)))) fun Z h=>h).trans (.YJ (pb6.mono fun a h=>.inr (by rw[h];first|exact .head _|exact .tail _ (.head _)|exact .tail _ (.tail _ (.head _)))))) mx6))))
    ·rw[hto,g9,dc,AZ,oA,hok];simp
    ·rw[hto,g9,dc,AZ,rE,hok];simp
   ·obtain ⟨e',dx,td,s0,rfl,pS,mS,hat,hdx,rtd,fly,hg,hd,ho⟩:=hr
    have f0:=Fx.turn (YC:=[_,_]) (YM:=[]) fx4 pS (fun L h=>h) mS
    refine uW (H:=T3) (YC:=[_]) (YM:=[_]) f0 fly hg hd ho hat hdx rtd ?_ ⟨by kernel_rfl,by kernel_rfl,by decide +kernel⟩ (by kernel_rfl) (by rfl) (.inl (by kernel_rfl)) (by rfl) (by decide +kernel) (by decide +kernel) rfl (by kernel_rfl)
     (uP (by kernel_rfl) (by decide +kernel)) fun s6 p6 f6=>?_
    ·have:=(a4z ((bT t kd.root).map fun k=>ask W k (qS K))).2
     rw[bP,c9];rw[bP] at this;exact Wv hk2 this
    refine dS (dS (hfin ?_ ?_ ((pS.mono (fun a h=>.inr (by rw[h];first|exact .head _|exact .tail _ (.head _)|exact .tail _ (.tail _ (.head _)))) fun Z h=>h).trans (p6.mono (fun a h=>h.imp id fun h=>by simp at h;simp[h]) fun Z h=>h)) f6.mx))
    ·rw[hto,g9,dc,AZ,oA,hno];simp
    ·rw[hto,g9,dc,AZ,rE,hno];simp
  ·rw[show decide (W.reaches.getD i Str.empty=af "."++nameAt W t.root)=false from decide_eq_false he]
   simp only[fh,if_false]
   refine dS (dS (hQ3 s2 (.YB u2) (by simp only[M];rw[hto];exact fx2.mx.Zf a4x)))
 ·simp only[M] at fx4
  rw[Dq hT] at fx4
  exact hQ s4 pb4 fx4
end
end
section
noncomputable abbrev aTo:Str:=af "told"
noncomputable abbrev aPs:Str:=af "parts"
noncomputable abbrev aMo:Str:=af "most"
noncomputable abbrev aLa:Str:=af "last"
noncomputable def a0m:List Stmt:=ZW.drop 1
noncomputable def a0Q:List Stmt:=ZW.drop 4
section
variable {w:gp}{k n:Nat}{A:Around}{X X':Addr→Prop}{env:UI}{outer:List UI}{sc:Scope}{ρ ρ':Yx}{s s':aE}{W:Wd}{YC YM:YX}
theorem Mx.a0M {a:Addr}{d:D}(mx:Mx w k A X env sc ρ (YC++(a,d)::YM) s){x:Str}(hx:ρ.lookup x=some (.val (.ref a))):Mx w k A (fun b=>X b∧b≠a) env sc ((x,d)::ρ) (YC++YM) s:=by
 have m:=mx.mu.sub (ZJ:=YC++YM) (PU (List.sublist_cons_self _ _) _)
 have nd:=mx.mu.nodup
 refine⟨mx.freeze hx,⟨fun p hp=>(m.at_ p hp).up ⟨fun Z Z e Z=>e,fun Z Z Z h=>h.1⟩ fun Z e=>e,fun p hp=>⟨m.x p hp,fun q=>?_⟩,m.big,m.away,m.nodup⟩⟩
 rw[g9,dc,i8,ja] at nd
 rcases eW.mp hp with h|h
 ·exact nd.2.2 p.1 (i6 h) a ay q
 ·exact nd.2.1.1 (q▸(i6 (f:=zI) h:p.1∈YM.map zI))
theorem lW {h:Heap}:∀{ds:List D} {vs:List bX},aX w h X' ds vs→(∀d∈ds,IsI d)→aX w h X ds vs
 | [],_,r,_=>by subst r;exact .nil
 |d::ds,_,r,hi=>by
  obtain ⟨v,t,rfl,r1,r2⟩:=r
  obtain ⟨i,rfl⟩:=hi d ay
  obtain ⟨tk,rfl⟩:=r1
  exact .cons cI (lW r2 fun d hd=>hi d (bE _ hd))
theorem Cw {h:Heap}{m:KD}{v:bX}(r:Rep w h X' (aj m) v)(hi:∀p∈m,IsI p.2)(hn:∀a es,h.DictOf (SK w) a es→¬X' a→¬X a):Rep w h X (aj m) v:=by
 unfold aj at r ⊢
 obtain ⟨a,kvs,rfl,h1,h2,h3,h4,h5⟩:=r
 exact⟨a,kvs,rfl,h1,h2,hn a kvs h1 h3,h4,lW h5 fun d hd=>by obtain ⟨p,hp,rfl⟩:=eg.mp hd;exact hi p hp⟩
theorem Ge {aP aS:Addr}{b:Bool}{ds:List KD}{L2:List D}{N:Nat}{ρ:Yx}(hg:∀m∈ds,Good W N m)(hN:N*ds.length≤900)
  (mx:Mx w (29+n) A X env Zm ((aPs,.val (.ref aP))::(aMo,.bool b)::ρ) [(aP,.lst (ds.map aj)),(aS,.lst L2)] s) {Q:zh→aE→Prop} {E:bX→aE→Prop}
  (hQ:b=true→∀v s',YF (dj env Zm [aP,aS]) s s'→cB w s'.heap X aS (.lst L2)→Rep w s'.heap X (aj (ds.foldl aF [])) v→Q (.ret v) s')
  (hE:b=false→∀e dx td vs s2 s',YF (dj env Zm [aP,aS]) s s2→cB w s2.heap X aS (.lst L2)→Rep w s2.heap X (aj (ds.foldl aF [])) (.ref td)→s2.heap.get? e=none→s2.heap.get? dx=none→e≠dx→(∃o,s2.heap.get? env.locals=some o∧∀vs,o.data≠.fields vs)→Pu s2 s'→(∀a o,s2.heap.get? a=some o→s'.heap.get? a=some o)→
   3<vs.size→vs[1]?=some .none→s'.heap.get? e=some ⟨.ref 174,some dx,.fields vs,#[]⟩→ExcAt s'.heap dx td→E (.ref e) s') :
  cE (cS PW w) A (oz a0Q env) Q E s:=by
 have hH:=(w7 w).mono (K':=29+n) (by exact M6)
 have m1:=mx.a0M (YC:=[]) (x:=aPs) rfl
 generalize hX':(fun b=>X b∧b≠aP)=X' at m1
 have le:∀a,X' a→X a:=fun a h=>by rw[←hX'] at h;exact h.1
 have hin:(aS,D.lst L2)∈[]++[(aS,D.lst L2)]:=ay
 refine aH (cg m1 (x:=aTo) (d:=.dct [] []) (.inl (by kernel_rfl)) (aa hH m1.cx (cs:=[]) (by rfl) trivial) (by kernel_rfl) fun s2 Zc m2=>?_)
 let base:Yx:=[(aPs,.lst (ds.map aj)),(aMo,.bool b)]
 refine aH (Ii hH 0 (m2.Zf (ρ':=(aTo,aj [])::base) ?_) (post:=fun ρ'=>ρ'=(aTo,aj (ds.foldl aF []))::base) (av (by exact trivial) (av (.inl rfl) ?_)) fun Zu s3 a4W pb3 m3=>?_)
 ·exact allAt (av rfl (av rfl (av rfl trivial)))
 ·refine kW (fun l ρ=>∃acc r,ρ=(aTo,aj acc)::base∧l=r.map aj∧r.foldl aF acc=ds.foldl aF []∧Good W (N*ds.length - N*r.length) acc∧(∀m∈r,Good W N m)∧r.length≤ds.length) ?_ ?_ _ _ ⟨[],ds,rfl,rfl,rfl,⟨by simp,by simp,by simp,by simp⟩,hg,gz _⟩
  ·rintro ρ ⟨acc,r,rfl,e,er,_⟩
   cases r with
   |nil=>exact er▸rfl
   |cons m r=>simp at e
  ·rintro d l ρ kk hkk ⟨acc,r,rfl,e,er,ga,gr,hl⟩
   cases r with
   |nil=>simp at e
   |cons m r=>
    rw[dc,BA] at e
    obtain ⟨rfl,rfl⟩:=e
    refine⟨_,rfl,?_⟩
    have gm:=gr m ay
    have hlm:r.length+1≤ds.length:=by simpa using hl
    have hmul:N*r.length+N≤N*ds.length:=by
     have:=gE N hlm
     rw[HL] at this;exact this
    have e1:kdOf (acc.map (fun x=>x.1)) (acc.map (fun x=>x.2))=acc:=by unfold kdOf;simp[LI,N9]
    have e2:kdOf (m.map (fun x=>x.1)) (m.map (fun x=>x.2))=m:=by unfold kdOf;simp[LI,N9]
    have gl:=ga.len
    have gml:=gm.len
    have hgood:Good W (N*ds.length - N*r.length) (aF acc m):=by
     have g:=ga.merge gm.ii gm.at_
     refine⟨g.nd,g.ii,g.at_,ai g.len ?_⟩
     rw[i9,HL]
     exact Wy hmul gml
    refine av ⟨by simp,by simp,?_,?_,?_,trivial⟩ ⟨(aTo,aj (aF acc m))::base,?_,hkk _ ⟨aF acc m,r,rfl,rfl,er,hgood,fun x hx=>gr x (bE _ hx),by exact xN hlm⟩⟩
    ·rw[e1,e2];exact .inl ⟨ga.ii,gm.ii⟩
    ·exact ga.nd
    ·rw[bP,bP]
     have:N*ds.length - N*(m::r).length≤N*ds.length:=A1 _ _
     have h1:N≤N*ds.length:=by exact RK hmul
     rw[i9,HL] at gl
     exact XR hN hmul gl gml
    ·refine Eu (fE.mpr ⟨?_,?_⟩)
     ·show some (aj (aF (kdOf (acc.map (fun x=>x.1)) (acc.map (fun x=>x.2))) (kdOf (m.map (fun x=>x.1)) (m.map (fun x=>x.2)))))=some _
      rw[e1,e2]
     ·simp only[base,fE];exact⟨rfl,rfl,by simp⟩
 ·subst a4W
  have pbs:YF (dj env Zm [aP,aS]) s s3:=(Zc.trans pb3).mono fun a h=>.inl h
  refine aH (A0 ?_)
  refine dY hH m3.cx (b:=b) (cs:=[]) (by rfl) (by rfl) trivial s3 (Pu.refl _) _ _ fun s4 u4=>?_
  have m4:=m3.pu u4
  have a4J:Good W (N*ds.length) (ds.foldl aF []):=by
   have:=Good.fold (W:=W) (n:=0) (c:=N) (m:=[]) (ps:=ds) ⟨by simp,by simp,by simp,by simp⟩ hg
   simpa using this
  have YZ:=mx.mu.YZ (p:=(aP,.lst (ds.map aj))) ay
  have a5g:=fun q:Own env Zm aP=>mx.mu.away (aP,.lst (ds.map aj)) (by simp) q.pl
  obtain ⟨vsP,⟨nP,hoP⟩,_⟩:=(mx.mu.at_ (aP,.lst (ds.map aj)) (by simp)).l
  have flat:∀{s5:aE} {v:bX},Pu s4 s5→Rep w s5.heap X' (aj (ds.foldl aF [])) v→Rep w s5.heap X (aj (ds.foldl aF [])) v:=fun {s5 v} u5 r=>by
   refine Cw r a4J.ii fun a es hd hn hx=>hn ?_
   rw[←hX']
   refine⟨hx,fun q=>?_⟩
   subst q
   have ho:s5.heap.get? a=_:=(u4.trans u5).heap _ _ ((Zc.trans pb3).heap _ _ hoP YZ a5g) YZ
   obtain ⟨o,_,_,ho2,_,hd2,_⟩:=hd
   rw[ho] at ho2
   obtain rfl:=aI ho2
   cases hd2
  have mS:∀{s5:aE},Pu s4 s5→cB w s5.heap X aS (.lst L2):=fun {s5} u5=>by
   have m5:=(m4.pu u5).mu.at_ _ hin
   have m0:=mx.mu.at_ (aS,.lst L2) (bE _ ay)
   have up:Up X X s.heap s5.heap:=((((Zc.trans pb3).trans (.YB (u4.trans u5)))).up mx.cx.Yz.pt fun a h=>mx.ZD h)
   refine m0.up up fun o e=>?_
   exact(u4.trans u5).heap _ _ ((Zc.trans pb3).heap _ _ e (mx.mu.YZ (p:=(aS,.lst L2)) (by simp)) fun q=>mx.mu.away (aS,.lst L2) (bE _ ay) q.pl) (mx.mu.YZ (p:=(aS,.lst L2)) (by simp))
  cases b with
  |true=>
   simp only[if_true]
   refine aH (nk ((aa hH m4.cx (d:=aj (ds.foldl aF [])) (cs:=[]) (by rfl) trivial).now _ _ fun v s5 u5 r5=>?_))
   exact hQ rfl v s5 (pbs.trans (.YB (u4.trans u5))) (mS u5) (flat u5 r5)
  |false=>
   simp only[fh,if_false]
   refine dS (aH ?_)
   refine Et hH m4.cx ⟨by kernel_rfl,by kernel_rfl⟩ (cs:=[]) (ks:=(ds.foldl aF []).map (fun x=>x.1)) (ds:=(ds.foldl aF []).map (fun x=>x.2)) (by rfl) trivial (by rfl) fun e dx td vs s5 s6 u5 r5 h1 h2 h3 u6 h4 h5 h6 h7 h8=>?_
   exact hE rfl e dx td vs s5 s6 (pbs.trans (.YB (u4.trans u5))) (mS u5) (flat u5 r5) h1 h2 h3 (by
    obtain ⟨m,⟨o,_,_,ho,hd,_⟩,_⟩:=(m4.pu u5).cx.vis.loc
    exact⟨o,ho,fun vs q=>by rw[hd] at q;cases q⟩) u6 h4 h5 h6 h7 h8
end
end
section
noncomputable def a1u:List Stmt:=ZW.drop 3
section
variable {w:gp}{k n:Nat}{A:Around}{X X':Addr→Prop}{env:UI}{outer:List UI}{sc:Scope}{ρ ρ':Yx}{s s':aE}{W:Wd}{YC YM:YX}
noncomputable abbrev aKk:Str:=af "k"
theorem N7 {p:Nat}{K:Str}{aS aT aR:Addr}{ρ:Yx}(h:∀q∈sS W p K aS aT aR,ρ.lookup q.1=some q.2):Sub (sS W p K aS aT aR) ρ:=Eu h
theorem nH (l:List Str):Z2 (l.map D.str):=by
 induction l with
 |nil=>trivial
 |cons a l ih=>exact⟨⟨a,rfl⟩,ih⟩
theorem ZV:∀{l:List D},(∀d∈l,IsI d)→AllInt l
 | [],_=>trivial
 |d::l,h=>⟨h d ay,ZV fun x hx=>h x (bE _ hx)⟩
theorem z9 {x:Str}:∀{l:List Str},x∈l→bQ x (l.map D.str)<(l.map D.str).length
 |a::l,h=>by
  rw[dc,i9]
  show(if(D.str a).toStr=x then 0 else bQ x (l.map D.str)+1) < _
  split
  ·exact LK
  ·rename_i hne
   rcases dP.mp h with rfl|h
   ·exact absurd rfl hne
   ·have:=z9 h;exact Um this
noncomputable abbrev Row (names:List D)(m:KD):Prop:=Z2 names∧names.length≤1000∧(∀k∈m.map (fun x=>x.1),bQ k names<names.length)∧AllInt (m.map (fun x=>x.2))
theorem sY {names:List D}{x y:KD}{a b c:D}(h1:Row names x)(h2:Row names y):AllP
  ([]++([]++[]++[[a,b,c].length≤sizeLine]++([]++[])++[Z2 names,names.length≤1000,∀k∈x.map (fun x=>x.1),bQ k names<names.length,AllInt (x.map (fun x=>x.2))]++
   ([]++[]++[[a,b,c].length≤sizeLine]++([]++[])++[Z2 names,names.length≤1000,∀k∈y.map (fun x=>x.1),bQ k names<names.length,AllInt (y.map (fun x=>x.2))]++[]))++[]++[]++[]):=by
 have h3:[a,b,c].length≤sizeLine:=by rw[c9];simp
 exact av h3 (av h1.1 (av h1.2.1 (av h1.2.2.1 (av h1.2.2.2 (av h3 (av h2.1 (av h2.2.1 (av h2.2.2.1 (av h2.2.2.2 trivial)))))))))
set_option maxHeartbeats 8000000 in
theorem uQ {aP aS aT aR:Addr}{b:Bool}{ps:List KD}{L2:List D}{N p:Nat}{K:Str}(hW:WOk W)(hg:∀m∈ps,Good W N m)(hl:ps.length≤3)(hN:N≤300)
  (mx:Mx w (29+n) A X env Zm ((aPs,.val (.ref aP))::(aMo,.bool b)::sS W p K aS aT aR) [(aP,.lst (ps.map aj)),(aS,.lst L2)] s) {Q:zh→aE→Prop} {E:bX→aE→Prop}
  (hQ:b=true→∀v s',YF (dj env Zm [aP,aS]) s s'→cB w s'.heap X aS (.lst L2)→Rep w s'.heap X (aj ((Zn W ps).foldl aF [])) v→Q (.ret v) s')
  (hE:b=false→∀e dx td vs s2 s',YF (dj env Zm [aP,aS]) s s2→cB w s2.heap X aS (.lst L2)→Rep w s2.heap X (aj ((Zn W ps).foldl aF [])) (.ref td)→s2.heap.get? e=none→s2.heap.get? dx=none→e≠dx→(∃o,s2.heap.get? env.locals=some o∧∀vs,o.data≠.fields vs)→Pu s2 s'→(∀a o,s2.heap.get? a=some o→s'.heap.get? a=some o)→
   3<vs.size→vs[1]?=some .none→s'.heap.get? e=some ⟨.ref 174,some dx,.fields vs,#[]⟩→ExcAt s'.heap dx td→E (.ref e) s') :
  cE (cS PW w) A (oz a1u env) Q E s:=by
 have hH:=(w7 w).mono (K':=29+n) (by exact M6)
 have hlen:N*3≤900:=by exact Ua hN
 have fin:∀{s2:aE} {Zq:Yx},YF (dj env Zm [aP,aS]) s s2→Mx w (29+n) A X env Zm ((aPs,.val (.ref aP))::(aMo,.bool b)::Zq) [(aP,.lst ((Zn W ps).map aj)),(aS,.lst L2)] s2→cE (cS PW w) A (oz a0Q env) Q E s2:=fun {s2 Zq} Zc m2=>
  Ge (N:=N) (fun m hm=>hg m (qF hm)) (ai (gE N (ai (qD _) hl)) hlen) m2 (fun hb v s' pb=>hQ hb v s' (Zc.trans pb)) fun hb e dx td vs s3 s' pb=>hE hb e dx td vs s3 s' (Zc.trans pb)
 have cf:=mx.freeze (YC:=[]) (x:=aPs) rfl
 refine aH (A0 ?_)
 refine dY hH cf (b:=decide ((ps.map aj).length=(3:Int))) (cs:=[(ps.map aj).length≤sizeLine]) (by rfl) (by rfl) ⟨by rw[bP,c9];exact Hx hl,trivial⟩ s (Pu.refl _) _ _ fun s1 u1=>?_
 have m1:=mx.pu u1
 by_cases h3:ps.length=3
 ·rw[show decide (((ps.map aj).length:Int)=3)=true from decide_eq_true (by rw[bP,h3];rfl)]
  simp only[if_true]
  obtain ⟨ta,tb,tc,rfl⟩:=Iw h3
  have ga:=hg ta ay
  have gb:=hg tb (.tail _ (.head _))
  have gc:=hg tc (.tail _ (.tail _ (.head _)))
  refine aH (cg m1 (x:=aLa) (d:=.int 0) (.inl (by kernel_rfl)) (aa hH m1.cx (cs:=[]) (by rfl) trivial) (by kernel_rfl) fun s2 Zc m2=>?_)
  have a0J:∀{m:KD},Good W N m→Z2 (W.names.map D.str)∧(W.names.map D.str).length≤1000∧(∀k∈m.map (fun x=>x.1),bQ k (W.names.map D.str)<(W.names.map D.str).length)∧AllInt (m.map (fun x=>x.2)):=by
   intro m gm
   refine⟨nH _,by rw[bP,hW.n];exact a0h,fun k hk=>?_,ZV fun d hd=>?_⟩
   ·obtain ⟨q,hq,rfl⟩:=eg.mp hk
    exact z9 (gm.at_ q hq)
   ·obtain ⟨q,hq,rfl⟩:=eg.mp hd
    exact gm.ii q hq
  let R:Int→Yx:=fun i=>(aLa,.int i)::(aPs,.val (.ref aP))::(aMo,.bool b)::sS W p K aS aT aR
  let L:Nat→Int
   | 0=>0
   | 1=>if wy W ta tb<0 then 1 else 0
   |_=>lastOf W ta tb tc
  have after:∀{X3:Addr→Prop} {s3 s4:aE} {Q3:zh→aE→Prop} {E3:bX→aE→Prop} {p1 p2 p3:UK} {i q j:Int} {c:Bool},(if c=true then q else i)=j→Mx w (29+n) A X3 env Zm ((aKk,.int q)::R i) [(aP,.lst ([ta,tb,tc].map aj)),(aS,.lst L2)] s3→Pu s3 s4→
    (∀s5,YF (dj env Zm [aP,aS]) s3 s5→Mx w (29+n) A X3 env Zm (R j) [(aP,.lst ([ta,tb,tc].map aj)),(aS,.lst L2)] s5→Q3 .next s5)→
    if c=true then cE (cS PW w) A (oz [.Assign [.Name aLa p1] (.Name aKk p2) p3] env) (W4 w A env [] Q3 E3) E3 s4 else cE (cS PW w) A (oz [] env) (W4 w A env [] Q3 E3) E3 s4:=by
   intro X3 s3 s4 Q3 E3 p1 p2 p3 i q j c e m3 u4 hQ3
   have m4:=m3.pu u4
   have a4y:∀{i:Int} {ρ:Yx},G4 ρ (R i)→Sub (R i) ρ:=fun h=>allAt h
   cases c with
   |true=>
    obtain rfl:q=j:=e
    exact aH (cg m4 (x:=aLa) (d:=.int q) (.inl (by kernel_rfl)) (aa hH m4.cx (cs:=[]) (by rfl) trivial) (by kernel_rfl) fun s5 pb5 m5=>dS (dS (hQ3 s5 (((YF.YB u4).trans pb5).mono fun a h=>.inl h) (m5.Zf (a4y (av rfl (av rfl (av rfl (av rfl (av rfl (av rfl (av rfl (av rfl (av rfl (av rfl (av rfl (av rfl (av rfl (av rfl trivial)))))))))))))))))))
   |false=>
    obtain rfl:i=j:=e
    exact dS (dS (hQ3 s4 (.YB u4) (m4.Zf (a4y (av rfl (av rfl (av rfl (av rfl (av rfl (av rfl (av rfl (av rfl (av rfl (av rfl (av rfl (av rfl (av rfl (av rfl trivial))))))))))))))))))
  refine aH (jL (n:=2) (V:=fun i=>R (L i)) (M:=fun Z=>[(aP,.lst ([ta,tb,tc].map aj)),(aS,.lst L2)]) (fun i=>.int (i+1:Nat)) (fun i=>(aKk,.int (i+1:Nat))::R (L i)) [aP,aS] m2
   (by kernel_rfl) (by kernel_rfl) (az hH _ _ (l:=[.int 1,.int 2]) (cs:=[]) (by rfl) trivial m2.cx (by kernel_rfl) (fun d Z=>.inl (by kernel_rfl))) rfl (fun i=>rfl) (fun i=>rfl) (fun i hi {X3 s3 Q3 E3} m3 hX h=>?_) fun s4 pb4 m4=>?_)
  ·refine aH (A0 ?_)
   have hi:i=0∨i=1:=(F3.mp hi).imp (fun h=>JJ.mp h) id
   rcases hi with rfl|rfl
   ·have m3:Mx w (29+n) A X3 env Zm ((aKk,.int 1)::R 0) [(aP,.lst ([ta,tb,tc].map aj)),(aS,.lst L2)] s3:=m3
    exact dY hH (m3.freeze (YC:=[]) (x:=aPs) rfl) (b:=decide (wy W ta tb<0)) (by rfl) (by rfl) (sY (a0J ga) (a0J gb)) s3 (Pu.refl _) _ _ fun s4 u4=>after (j:=L 1) (by simp only[decide_eq_true_eq];rfl) m3 u4 h
   ·by_cases hc:wy W ta tb<0
    ·have m3:Mx w (29+n) A X3 env Zm ((aKk,.int 2)::R 1) [(aP,.lst ([ta,tb,tc].map aj)),(aS,.lst L2)] s3:=(if_pos hc:L 1=1)▸m3
     exact dY hH (m3.freeze (YC:=[]) (x:=aPs) rfl) (b:=decide (wy W tb tc<0)) (by rfl) (by rfl) (sY (a0J gb) (a0J gc)) s3 (Pu.refl _) _ _ fun s4 u4=>after (j:=L 2) (by show _=(lastOf W ta tb tc:Int);unfold lastOf;rw[if_pos hc,if_pos hc];simp only[decide_eq_true_eq];split<;>rfl) m3 u4 h
    ·have m3:Mx w (29+n) A X3 env Zm ((aKk,.int 2)::R 0) [(aP,.lst ([ta,tb,tc].map aj)),(aS,.lst L2)] s3:=(if_neg hc:L 1=0)▸m3
     exact dY hH (m3.freeze (YC:=[]) (x:=aPs) rfl) (b:=decide (wy W ta tc<0)) (by rfl) (by rfl) (sY (a0J ga) (a0J gc)) s3 (Pu.refl _) _ _ fun s4 u4=>after (j:=L 2) (by show _=(lastOf W ta tb tc:Int);unfold lastOf;rw[if_neg hc,if_neg hc];simp only[decide_eq_true_eq];split<;>rfl) m3 u4 h
  have hla:lastOf W ta tb tc<3:=by
   unfold lastOf
   repeat' split
   all_goals (first|exact a0U|exact a2H|exact a1T)
  refine aH (Mz (YC:=[]) (n:=lastOf W ta tb tc) m4 (aa hH m4.cx (cs:=[]) (by rfl) trivial) (aa hH m4.cx (cs:=[]) (by rfl) trivial) (hla) (b9 rfl) fun s5 pb5 m5=>?_)
  refine dS (fin (s2:=s5) (Zq:=sS W p K aS aT aR) ((((YF.YB u1).trans (Zc.mono fun a h=>.inl h)).trans pb4).trans (pb5.mono fun a h=>h.imp id fun h=>by simp at h;simp[h])) ?_)
  have e:([ta,tb,tc].map aj).eraseIdx (lastOf W ta tb tc)=(Zn W [ta,tb,tc]).map aj:=by
   show _=([ta,tb,tc].eraseIdx (lastOf W ta tb tc)).map aj
   generalize lastOf W ta tb tc=i at hla
   have:i=0∨i=1∨i=2:=by exact om6 hla
   rcases this with rfl|rfl|rfl<;>rfl
  rw[e] at m5
  exact m5.Zf (allAt (av rfl (av rfl (av rfl (av rfl (av rfl (av rfl (av rfl (av rfl (av rfl (av rfl (av rfl (av rfl (av rfl trivial))))))))))))))
 ·rw[show decide (((ps.map aj).length:Int)=3)=false from decide_eq_false (by rw[bP];exact Us h3)]
  simp only[fh,if_false]
  refine dS (fin (s2:=s1) (Zq:=sS W p K aS aT aR) (.YB u1) ?_)
  have e:Zn W ps=ps:=by
   unfold Zn
   split
   ·exact absurd rfl h3
   ·rfl
  rw[e]
  exact m1
end
end
section
section
variable {w:gp}{k n:Nat}{A:Around}{X X':Addr→Prop}{env:UI}{outer:List UI}{sc:Scope}{ρ ρ':Yx}{s s':aE}{W:Wd}{YC YM:YX}
theorem v9 {t b o:PySem.Expr}{pos:UK}{x:Bool}{d:D}(ht:fM w A (isTrue t env (ku t env)) x s)(hb:x=true→aV w A X (ku b env) d s)(ho:x=false→aV w A X (ku o env) d s):aV w A X (ku (.IfExp t b o pos) env) d s:=by
 intro s' u Q E hQ
 refine OC (ht s' u _ _ fun s'' u'=>?_)
 cases x with
 |true=>exact((hb rfl).pu (u.trans u')).now _ _ fun v s3 u3 r3=>hQ v s3 (u'.trans u3) r3
 |false=>exact((ho rfl).pu (u.trans u')).now _ _ fun v s3 u3 r3=>hQ v s3 (u'.trans u3) r3
set_option maxHeartbeats 8000000 in
theorem BX {aS aT aR:Addr}{tk rf:List KD}{L2:List D}{N p:Nat}{K:Str}{b:Bool}{told:KD}(hW:WOk W)(hg:∀m∈tk++rf,Good W N m)(hl1:tk.length≤3)(hl2:rf.length≤3)(hN:N≤300)
  (hb:b=decide (tk.length>rf.length)) (ht:told=(Zn W (if b then tk else rf)).foldl aF [])
  (mx:Mx w (29+n) A X env Zm (sS W p K aS aT aR) [(aT,.lst (tk.map aj)),(aR,.lst (rf.map aj)),(aS,.lst L2)] s) {Q:zh→aE→Prop} {E:bX→aE→Prop}
  (hQ:b=true→∀v s',YF (dj env Zm [aT,aR,aS]) s s'→cB w s'.heap X aS (.lst L2)→Rep w s'.heap X (aj told) v→Q (.ret v) s')
  (hE:b=false→∀e dx td vs s2 s',YF (dj env Zm [aT,aR,aS]) s s2→cB w s2.heap X aS (.lst L2)→Rep w s2.heap X (aj told) (.ref td)→s2.heap.get? e=none→s2.heap.get? dx=none→e≠dx→(∃o,s2.heap.get? env.locals=some o∧∀vs,o.data≠.fields vs)→Pu s2 s'→(∀a o,s2.heap.get? a=some o→s'.heap.get? a=some o)→
   3<vs.size→vs[1]?=some .none→s'.heap.get? e=some ⟨.ref 174,some dx,.fields vs,#[]⟩→ExcAt s'.heap dx td→E (.ref e) s') :
  cE (cS PW w) A (oz a0m env) Q E s:=by
 have hH:=(w7 w).mono (K':=29+n) (by exact M6)
 have cT:=mx.freeze (YC:=[]) (x:=aT') rfl
 have cR:=mx.freeze (YC:=[_]) (x:=aR') rfl
 have hll:∀l:List KD,l.length≤3→(l.map aj).length≤sizeLine:=fun l h=>by rw[bP,c9];exact Hx h
 have eb:decide (((tk.map aj).length:Int)>(rf.map aj).length)=b:=by
  rw[hb,bP,bP]
  exact decide_eq_decide.mpr (by exact UG)
 refine aH (cg mx (x:=aMo) (d:=.bool b) (.inl (by kernel_rfl)) (aM (op:=.Gt) (d:=.bool b) (a:=.int (tk.map aj).length) (b:=.int (rf.map aj).length) (cs:=[]) mx.cx.a mx.cx.Yz (Ev.a0e (aa hH cT (cs:=[(tk.map aj).length≤sizeLine]) (by rfl) ⟨hll _ hl1,trivial⟩))
  (Ev.a0e (aa hH cR (cs:=[(rf.map aj).length≤sizeLine]) (by rfl) ⟨hll _ hl2,trivial⟩)) (by rw[←eb];rfl) trivial (by kernel_rfl)).ev (by kernel_rfl) fun s1 ZG m1=>?_)
 cases b with
 |true=>
  refine aH (cg m1 (x:=aPs) (d:=.val (.ref aT)) (.inl (by kernel_rfl)) (v9 (x:=true) (dY hH m1.cx (cs:=[]) (by rfl) (by rfl) trivial) (fun Z=>aa hH m1.cx (cs:=[]) (by rfl) trivial) (fun h=>by cases h)) (by kernel_rfl) fun s2 Zc m2=>?_)
  have m3:=m2.a1y (ZJ:=[(aT,.lst (tk.map aj)),(aS,.lst L2)]) (by simp)
  have pbs:YF (dj env Zm [aT,aR,aS]) s s2:=(ZG.trans Zc).mono fun a h=>.inl h
  have wid:∀{a:Addr},dj env Zm [aT,aS] a→dj env Zm [aT,aR,aS] a:=fun h=>h.imp id fun h=>by simp at h ⊢;exact h.elim .inl fun h=>.inr (.inr h)
  subst ht
  exact uQ hW (fun m hm=>hg m (l9 _ hm)) hl1 hN m3 (fun h v s' pb=>hQ h v s' (pbs.trans (pb.mono fun Z h=>wid h))) fun h e dx td vs s3 s' pb=>hE h e dx td vs s3 s' (pbs.trans (pb.mono fun Z h=>wid h))
 |false=>
  refine aH (cg m1 (x:=aPs) (d:=.val (.ref aR)) (.inl (by kernel_rfl)) (v9 (x:=false) (dY hH m1.cx (cs:=[]) (by rfl) (by rfl) trivial) (fun h=>by exact noB h) (fun Z=>aa hH m1.cx (cs:=[]) (by rfl) trivial)) (by kernel_rfl) fun s2 Zc m2=>?_)
  have m3:=m2.a1y (ZJ:=[(aR,.lst (rf.map aj)),(aS,.lst L2)]) (by simp)
  have pbs:YF (dj env Zm [aT,aR,aS]) s s2:=(ZG.trans Zc).mono fun a h=>.inl h
  have wid:∀{a:Addr},dj env Zm [aR,aS] a→dj env Zm [aT,aR,aS] a:=fun h=>h.imp id fun h=>by simp at h ⊢;exact h.elim (fun h=>.inr (.inl h)) fun h=>.inr (.inr h)
  subst ht
  exact uQ hW (fun m hm=>hg m (jv _ hm)) hl2 hN m3 (fun h v s' pb=>hQ h v s' (pbs.trans (pb.mono fun Z h=>wid h))) fun h e dx td vs s3 s' pb=>hE h e dx td vs s3 s' (pbs.trans (pb.mono fun Z h=>wid h))
theorem BR (hW:WOk W):∀(t:Tr) (c:Str),Z7 W t→Good W (3 ^ t.ht) (ask W t c).told:=by
 intro t
 have own:∀p c,p<7→Good W 1 (ownOf W p c):=fun p c hp=>⟨by simp[ownOf],fun q hq=>by simp[ownOf] at hq;subst hq;exact⟨_,rfl⟩,fun q hq=>by
  simp[ownOf] at hq;subst hq
  have:=hW.n
  show nameAt W p∈_
  unfold nameAt
  rw[bq,c8 (by exact om7 hp this)]
  exact kM _,by simp[ownOf]⟩
 have comb:∀(bit:Bool) (o:KD) (ks:List sE) (N:Nat),1≤N→Good W 1 o→(∀k∈ks,Good W N k.told)→ks.length≤2→Good W (3*N) (combine W bit o ks).told:=by
  intro bit o ks N hN ho hk hl
  unfold combine
  simp only
  have hm:∀m,m∈dz bit o ks∨m∈jZ bit o ks→Good W N m:=by
   intro m hm
   have up:Good W N o:=⟨ho.nd,ho.ii,ho.at_,ai ho.len hN⟩
   simp only[dz,jZ,eW,eg,sD] at hm
   rcases hm with (h|⟨k,⟨h,_⟩,rfl⟩)|(h|⟨k,⟨h,_⟩,rfl⟩)
   ·cases bit<;>simp[aL] at h;subst h;exact up
   ·exact hk k h
   ·cases bit<;>simp[aL] at h;subst h;exact up
   ·exact hk k h
  have hlen:=Bm bit o hl
  generalize hps:(if decide ((dz bit o ks).length>(jZ bit o ks).length)=true then dz bit o ks else jZ bit o ks)=ps
  have h1:∀m∈ps,Good W N m:=fun m h=>hm m (by rw[←hps] at h;split at h;exact .inl h;exact .inr h)
  have h2:ps.length≤3:=by rw[←hps];split;exact hlen.1;exact hlen.2
  have g:=Good.fold (W:=W) (n:=0) (c:=N) (m:=[]) (ps:=Zn W ps) ⟨by simp,by simp,by simp,by simp⟩ fun m h=>h1 m (qF h)
  refine⟨g.nd,g.ii,g.at_,ai g.len ?_⟩
  have:=gE N (ai (qD (W:=W) ps) h2)
  exact Rz this
 induction t with
 |leaf p=>
  intro c hT
  have g:=comb (eQ W p) (ownOf W p c) [] 1 (by exact a2N) (own p c hT.1) (by simp) (by simp)
  have e:(combine W (eQ W p) (ownOf W p c) []).told.length≤1:=by
   unfold combine
   cases eQ W p<;>simp[dz,jZ,aL,Zn,ownOf,aF,dX,putD,Zg]
  exact⟨g.nd,g.ii,g.at_,e⟩
 |node p l r h1 h2=>
  intro c hT
  obtain ⟨hp,_,_,_,hl,hr⟩:=hT
  have:=comb (eQ W p) (ownOf W p c) [ask W l (qS (bf W p c)),ask W r (qS (bf W p c))] (3 ^ max l.ht r.ht) (Pp _ _ (by exact a0U)) (own p c hp) ?_ (b9 rfl)
  ·have e:3*3 ^ max l.ht r.ht=3 ^ (Tr.node p l r).ht:=by show _=3 ^ (max l.ht r.ht+1);rw[Nat.pow_succ,Nat.mul_comm]
   rw[←e]
   exact this
  ·intro k hk
   have pw:∀a b:Nat,a≤b→3 ^ a≤3 ^ b:=fun a b h=>lI (by exact a1U) h
   simp only[dP,eu,or_false] at hk
   rcases hk with rfl|rfl
   ·have g:=h1 (qS (bf W p c)) hl
    exact⟨g.nd,g.ii,g.at_,ai g.len (pw _ _ (HO _ _))⟩
   ·have g:=h2 (qS (bf W p c)) hr
    exact⟨g.nd,g.ii,g.at_,ai g.len (pw _ _ (FY _ _))⟩
end
end
section
section
variable {w:gp}{k n:Nat}{A:Around}{X X':Addr→Prop}{env:UI}{outer:List UI}{sc:Scope}{ρ ρ':Yx}{s s':aE}{W:Wd}{YC YM:YX}
theorem wz (bit:Bool)(o:KD)(ks:List sE){N:Nat}(ho:Good W N o)(hk:∀k∈ks,Good W N k.told)(hl:ks.length≤2):
  (∀m∈dz bit o ks++jZ bit o ks,Good W N m)∧(dz bit o ks).length≤3∧(jZ bit o ks).length≤3:=by
 refine⟨fun m hm=>?_,Bm bit o hl⟩
 rw[eW] at hm
 simp only[dz,jZ,eW,eg,sD] at hm
 rcases hm with (h|⟨k,⟨h,_⟩,rfl⟩)|(h|⟨k,⟨h,_⟩,rfl⟩)
 ·cases bit<;>simp[aL] at h;subst h;exact ho
 ·exact hk k h
 ·cases bit<;>simp[aL] at h;subst h;exact ho
 ·exact hk k h
theorem DX (hW:WOk W){p:Nat}{c:Str}(hp:p<7){N:Nat}(hN:1≤N):Good W N (ownOf W p c):=
 ⟨by simp[ownOf],fun q hq=>by simp[ownOf] at hq;subst hq;exact⟨_,rfl⟩,fun q hq=>by
  simp[ownOf] at hq;subst hq
  have:=hW.n
  show nameAt W p∈_
  unfold nameAt
  rw[bq,c8 (by exact om7 hp this)]
  exact kM _,by simp[ownOf];exact VH hN⟩
theorem rest_eq:ZW=a0T::a0m:=by kernel_rfl
set_option maxHeartbeats 8000000 in
theorem uT (hW:WOk W){t:Tr}(ih:∀k∈t.kids,∃n',n'+1≤n∧Bx w W k n')(hht:t.ht≤5)(hT:Z7 W t):Bx w W t n:=by
 intro A X s outer aS L c vs hA hX hB hfr hff hfx hxS hbS hm hL hC r Q E hQ hE
 have hsz:t.size=1+sizes t.kids:=by cases t<;>simp[Tr.size,Tr.kids,sizes];exact SN
 refine BW hA hX hB hfr hff hfx hxS hbS hm (by exact RN hL hsz) hW hT.a0q hC.here r fun env X2 aT aR s2 fx hXX p2 hnew=>?_
 rw[rest_eq]
 refine aH (BV hW hT fx ih (by rw[fm,IE];exact JX hL hsz) hC.here (fun k hk=>hC.kid hk) fun s3 p3 Zt=>?_)
 show cE (cS PW w) (A.deeper env) (oz a0m env) _ _ s3
 have hN1:1≤3 ^ t.ht:=Pp _ _ (by exact a0U)
 have hN:3 ^ t.ht≤300:=ai (lI (by exact a1U) hht) (by decide)
 obtain ⟨hg,hl1,hl2⟩:=wz (W:=W) (eQ W t.root) (ownOf W t.root c) (t.kids.map fun k=>ask W k (qS (bf W t.root c))) (N:=3 ^ t.ht) (DX hW hT.a0q hN1) (fun k hk=>by
   obtain ⟨kd,hkd,rfl⟩:=eg.mp hk
   have g:=BR hW kd (qS (bf W t.root c)) (hT.kid hkd)
   exact⟨g.nd,g.ii,g.at_,ai g.len (lI (by exact a1U) (by have:=Tr.a0t hkd;exact xN this))⟩) (by rw[bP];cases t<;>simp[Tr.kids])
 have eS:(L++[.tup [.int t.root,.str (bf W t.root c)]])++(t.kids.flatMap fun k=>Z0 W k (qS (bf W t.root c)))=L++Z0 W t c:=by rw[Ao,ko];rfl
 have inS:=Zt.mx.mu
 have nL:s.heap.get? env.locals=none:=(hnew env.locals (.inl (.inl rfl))).elim (fun q=>absurd (show Pl env Zm aS from .inl q.symm) (Zt.mx.mu.away _ (bE _ (bE _ ay)))) id
 have back:∀{h:Heap},Up X2 X h h:=⟨fun Z Z e Z=>e,fun a Z Z h=>hXX a h⟩
 have tot:∀{s4:aE},YF (dj env Zm [aT,aR,aS]) s3 s4→Z1 (fun x=>x=aS) (frs outer) s s4:=fun pb=>Ez p2 (p3.trans (.YJ pb)) hnew nL Zt.here
 refine BX (N:=3 ^ t.ht) (b:=(ask W t c).ok) (told:=(ask W t c).told) hW hg hl1 hl2 hN (by rw[uR];rfl) (by rw[uR];rfl) Zt.mx (fun hb v s4 pb hm4 r4=>?_) fun hb e dx td vs s4 s5 pb hm4 r4 h1 h2 h3 hfo u5 k5 h4 h5 h6 h7=>?_
 ·rw[eS] at hm4
  exact hQ v s4 hb (tot pb) (hm4.up back fun Z e=>e) (r4.up back _ _)
 ·rw[eS] at hm4
  obtain ⟨oL,hoL,hdL⟩:=hfo
  have t4:=tot pb
  have ff4:s4.heap.FunFrames H0 (env::outer):=⟨by rw[Zt.mx.cx.vis.eqs,Zt.mx.cx.vis.kind];decide,⟨env.locals,oL,Zt.here,qG _,hoL,hdL⟩,
   yQ Zt (.YJ pb (fr:=[])) fun L' hL' z=>z.elim (fun q=>(Zt.fx L' hL').2.2 q.pl) fun q=>by
    simp only[dP,eu,or_false] at q
    rcases q with rfl|rfl|rfl
    ·exact Zt.ap _ ay hL'
    ·exact Zt.ap _ (bE _ ay) hL'
    ·exact Zt.ap _ (bE _ (bE _ ay)) hL'⟩
  have ff5:s5.heap.FunFrames H0 (env::outer):=ff4.of_keeps fun b o hb Z=>⟨o,k5 b o hb,rfl⟩
  have xL:X2 env.locals:=Zt.mx.cx.vis.lx
  have neL:env.locals≠PT:=Zt.mx.cx.vis.neL
  have eL:e≠env.locals:=fun q=>by rw[q,hoL] at h1;cases h1
  have dL:dx≠env.locals:=fun q=>by rw[q,hoL] at h2;cases h2
  have lL:env.locals∉frs outer:=fun q=>by obtain ⟨_,o,ho,_⟩:=hff.mem q;rw[nL] at ho;exact YD ho
  obtain ⟨tb,htb⟩:=t4.tab hX.tab
  have ePT:e≠PT:=fun q=>by rw[q,htb] at h1;cases h1
  obtain ⟨oS,hoS⟩:=hm4.ex
  have eS':e≠aS:=fun q=>by rw[q,hoS] at h1;cases h1
  have hold:∀a o,s.heap.get? a=some o→a≠e∧a≠env.locals:=fun a o ho=>⟨fun q=>(by
   subst q
   rcases t4.heap a o ho ePT eS' with r|⟨_,_,r⟩<;>rw[h1] at r<;>exact YD r),fun q=>(by rw[q,nL] at ho;exact YD ho)⟩
  have hS:aS≠e∧aS≠env.locals:=⟨i7 eS',fun q=>absurd (show Pl env Zm aS from .inl q) (Zt.mx.mu.away _ (bE _ (bE _ ay)))⟩
  have hid:∀{a:Addr} {o:Obj},s5.heap.get? a=some o→a≠e∧a≠env.locals→(SG s5.heap [e,env.locals]).get? a=some o:=fun ho hn=>hideAll_get _ ho (by simpa using hn)
  unfold zF leaving
  refine ah (vG (h0:=SG s5.heap [e,env.locals]) Zt.frames ff5 Zt.here ⟨fun a o ho=>.inl (of_hideAll _ ho),hideAll_none _ ay,⟨vs,#[],h6,h4,.inl h5⟩⟩ fun h' F' ff'=>?_)
  have upS:Up X2 X s4.heap (SG s5.heap [e,env.locals]):=⟨fun a o ho nx=>hid (k5 a o ho) ⟨fun q=>(by rw[q,h1] at ho;exact YD ho),fun q=>nx (q▸xL)⟩,fun a Z Z h=>hXX a h⟩
  refine hE (.ref e) _ hb ⟨e,dx,td,{s5 with heap:=SG s5.heap [e,env.locals]},rfl,?_,?_,?_,?_,r4.up upS _ _,?_,rfl,rfl,rfl⟩
  ·refine⟨fun a o ho hp hs=>?_,fun Z=>?_,fun g=>u5.gens (t4.gens g),u5.drawn.trans t4.drawn,u5.os.trans t4.os⟩
   ·rcases t4.heap a o ho hp hs with r|⟨m,sl,r⟩
    ·exact .inl (hid (k5 _ _ r) (hold a o ho))
    ·exact .inr ⟨m,sl,hid (k5 _ _ r) (hold a o ho)⟩
   ·exact⟨tb,hid (k5 _ _ htb) ⟨i7 ePT,i7 neL⟩⟩
  ·exact hm4.up upS fun o ho=>hid (k5 _ _ ho) hS
  ·obtain ⟨tk,hs,nn,hd⟩:=h7
   exact⟨tk,hs,nn,hid hd ⟨i7 h3,dL⟩⟩
  ·intro q
   obtain ⟨_,o,ho,_⟩:=(show s4.heap.FunFrames H0 outer from ff4.2.2).mem q
   rw[h2] at ho;exact YD ho
  ·refine⟨fun a o ho=>?_,F'.new,F'.exc⟩
   rcases F'.keep a o ho with r|⟨m,sl,r⟩
   ·exact .inl r
   ·rw[Zt.stack] at m
    rcases dP.mp m with rfl|m
    ·rw[hideAll_none _ (bE _ ay)] at ho;exact YD ho
    ·exact .inr ⟨m,sl,r⟩
theorem BZ (hW:WOk W):∀(m:Nat) (t:Tr),t.ht≤m→m≤5→Z7 W t→Bx w W t m:=by
 intro m
 induction m with
 |zero=>
  intro t h0 h5 hT
  refine uT hW (fun k hk=>?_) (by exact Vm h0) hT
  have:=Tr.a0t hk
  exact(KH h0 this).elim
 |succ m ih=>
  intro t h0 h5 hT
  refine uT hW (fun k hk=>⟨m,gz _,ih k ?_ (by exact V7 h5) (hT.kid hk)⟩) (by exact Tp h0 h5) hT
  have:=Tr.a0t hk
  exact Kv h0 this
end
end
section
noncomputable def rO (x:Str):List D:=x.cps.toList.map fun c=>.str ⟨#[c]⟩
section
variable {w:gp}{k:Nat}{A:Around}{X X':Addr→Prop}{env:UI}{sc:Scope}{ρ:Yx}{s:aE}
theorem Hb (ha:Zv k A){target:PySem.Expr}{I:Addr}{x:Str}{t:UN}(hXI:X I)(hI:I≠PT)(ht:bj target=true):
  Itr w A X target I (rO x) [I] (fun i h=>h.IsStrIter I "str_ascii_iterator" x t i) where
 ex:=fun i h st b hb=>by cases bS.mp hb;exact by obtain ⟨o,ho,_⟩:=st;exact⟨o,ho⟩
 YZ:=by simpa using i7 hI
 frame:=fun i h h' st u hf=>by obtain ⟨o,ho,r⟩:=st;exact⟨o,hf I ay _ ho,r⟩
 item:=fun i s d Q E hd st hx hQ=>by
  have W:=Pw (prog:=PW) (w:=w) (A:=A) ha.handled I x t
  have hlt:i<x.cps.size:=by
   have:=(qa.mp hd).1
   simpa [rO] using this
  refine W.item i s _ _ hlt st fun v h' tk hP st' hk=>⟨v,rfl,?_⟩
  rw[JM ht]
  have pb:YF (fun x=>x∈[I]) s {s with heap:=h',toks:=tk}:=⟨fun b o e Z z=>hk b o z e,fun Z9=>by obtain ⟨vs,e⟩:=Z9;exact⟨vs,hk _ _ (by simpa using i7 hI) e⟩,id,rfl,rfl⟩
  refine bg (hQ v _ pb ?_ st')
  obtain ⟨c,u,hc,rfl⟩:=hP
  have hd':(x.cps.toList.map fun c=>D.str ⟨#[c]⟩)[i]?=some d:=hd
  rw[gu,nt,hc] at hd'
  obtain rfl:=aI hd'
  exact eX
 done:=fun s Q E st hQ=>by
  have W:=Pw (prog:=PW) (w:=w) (A:=A) ha.handled I x t
  have hl:(rO x).length=x.cps.size:=by simp[rO]
  rw[hl] at st
  refine W.done s _ _ st fun h' tk hk=>⟨rfl,hQ _ ?_⟩
  exact⟨fun b o e Z z=>hk b o z e,fun Z9=>by obtain ⟨vs,e⟩:=Z9;exact⟨vs,hk _ _ (by simpa using i7 hI) e⟩,id,rfl,rfl⟩
 self:=fun i s Q E st hQ=>wpAny_pyIter_striter_ascii st hQ
theorem Dk (ha:Zv k A)(hX:Z6 X s){target:PySem.Expr}{t:UM bX}{x:Str}(h:Ev w A X t (.str x) s)(hasc:x.cps.all (·<128)=true)(ht:bj target=true):bk w A X target t (rO x) s:=by
 intro Q E hQ
 refine h _ _ fun v s0 u0 r=>?_
 have X0:=hX.pu u0
 obtain ⟨tk,rfl⟩:=r
 obtain ⟨new,YZ⟩:=dg X0
 refine wpAny_pyIter_ascii hasc (hQ s0.heap.objs.size [s0.heap.objs.size] s0.heap _ (u0.trans (Pu.YK _ _)) (fun a o e n=>u0.heap a o e n) (fun a o e n=>b6 _ e) ?_ ?_)
 ·intro a ha
  obtain rfl:=bS.mp ha
  exact⟨new,YZ,⟨_,ck _ rfl⟩⟩
 ·intro X' h1 h2 h3
  exact⟨_,Hb (ha:=ha) (x:=x) (t:=tk) (h3 _ ay) YZ ht,fun h' hk=>⟨_,hk _ _ (ck _ rfl) YZ,rfl,rfl⟩⟩
end
end
section
structure TS where
 cell:Int
 nm:List Str
 ab:List Nat
 lv:List Nat
noncomputable def aq (l:List Nat):List D:=l.map fun(p:Nat)=>D.int (p:Int)
noncomputable def sgn (c:Nat):Str:=⟨#[c]⟩
noncomputable def TS.pick (s:TS):Nat:=(s.cell.fmod s.lv.length).toNat
noncomputable def TS.place (s:TS):Nat:=s.lv.getD s.pick 0
noncomputable def TS.name (s:TS)(c:Nat):Str:=sgn c++af "."++s.nm.getD s.place Str.empty
noncomputable def TS.turn (s:TS)(p:Nat×Nat):TS:=⟨s.cell.fdiv s.lv.length,s.nm++[s.name p.1,s.name p.2],s.ab++[s.place,s.place],s.lv.eraseIdx s.pick++[s.nm.length,s.nm.length+1]⟩
noncomputable def ts0 (cell:Int):TS:=⟨cell,[af "a.local"],[0],[0]⟩
noncomputable def lets:List (Nat×Nat):=[(98,99),(100,101),(102,103)]
noncomputable def eY (cell:Int):TS:=lets.foldl TS.turn (ts0 cell)
theorem picks {lv:List Nat}{p:Nat}(h:lv.length≤3)(hp:p<lv.length):nq (aq lv) none (some p) none=aq (lv.take p)∧nq (aq lv) (some (p+1)) none none=aq (lv.drop (p+1)):=by
 rcases lv with _|⟨a,_|⟨b,_|⟨c,_|⟨d,lv⟩⟩⟩⟩
 ·simp at hp
 ·have:p=0:=by simp at hp;exact hp
  subst this
  exact⟨rfl,rfl⟩
 ·have:p=0∨p=1:=by simp at hp;exact R0 hp
  rcases this with rfl|rfl
  ·refine⟨rfl,?_⟩
   show(C2 (ki (some 1) none none 2).1 (ki (some 1) none none 2).2.1 (ki (some 1) none none 2).2.2).filterMap ((aq [a,b])[·]?)=_
   rw[show C2 (ki (some 1) none none 2).1 (ki (some 1) none none 2).2.1 (ki (some 1) none none 2).2.2=[1] from by decide +kernel]
   rfl
  ·exact⟨rfl,rfl⟩
 ·have:p=0∨p=1∨p=2:=by simp at hp;exact om6 hp
  rcases this with rfl|rfl|rfl
  ·refine⟨rfl,?_⟩
   show(C2 (ki (some 1) none none 3).1 (ki (some 1) none none 3).2.1 (ki (some 1) none none 3).2.2).filterMap ((aq [a,b,c])[·]?)=_
   rw[show C2 (ki (some 1) none none 3).1 (ki (some 1) none none 3).2.1 (ki (some 1) none none 3).2.2=[1,2] from by decide +kernel]
   rfl
  ·refine⟨rfl,?_⟩
   show(C2 (ki (some 2) none none 3).1 (ki (some 2) none none 3).2.1 (ki (some 2) none none 3).2.2).filterMap ((aq [a,b,c])[·]?)=_
   rw[show C2 (ki (some 2) none none 3).1 (ki (some 2) none none 3).2.1 (ki (some 2) none none 3).2.2=[2] from by decide +kernel]
   rfl
  ·exact⟨rfl,rfl⟩
 ·exact absurd h (we.mpr (wh 4 lv.length))
structure q8 (s:TS)(i:Nat):Prop where
 lv:s.lv.length=i+1
 nm:s.nm.length=2*i+1
 ab:s.ab.length=2*i+1
 at_:∀p∈s.lv,p<s.nm.length
 nl:∀x∈s.nm,x.length≤2*i+10
theorem q8.a01 {s:TS}{i:Nat}(h:q8 s i):s.pick<s.lv.length:=by
 unfold TS.pick
 have:=h.lv
 have h1:(0:Int)<s.lv.length:=by exact Uu this
 have h2:=ia s.cell h1
 have h3:=k7 s.cell h1
 exact Qy this h3
theorem q8.a0V {s:TS}{i:Nat}(h:q8 s i):s.lv[s.pick]?=some s.place:=by
 unfold TS.place
 rw[bq,c8 h.a01];rfl
theorem q8.place_lt {s:TS}{i:Nat}(h:q8 s i):s.place<s.nm.length:=h.at_ _ (As h.a0V)
theorem q8.ug {s:TS}{i:Nat}(h:q8 s i):s.nm[s.place]?=some (s.nm.getD s.place Str.empty):=by
 rw[bq,c8 h.place_lt];rfl
theorem q8.a0u {s:TS}{i:Nat}(h:q8 s i)(c:Nat):(s.name c).length≤2*i+12:=by
 have:=h.nl _ (As h.ug)
 unfold TS.name
 rw[iO,iO]
 show 1+1+_≤_
 exact S7 this
theorem q8.turn {s:TS}{i:Nat}(h:q8 s i)(p:Nat×Nat):q8 (s.turn p) (i+1):=by
 have h1:=h.lv
 have h2:=h.nm
 have h3:=h.ab
 have h4:=h.a01
 refine⟨?_,?_,?_,fun q hq=>?_,fun x hx=>?_⟩
 ·simp[TS.turn,List.length_eraseIdx,h4];exact Qi h1
 ·simp[TS.turn];exact K7 h2
 ·simp[TS.turn];exact K7 h3
 ·simp only[TS.turn,eW,dP,eu,or_false] at hq
  simp only[TS.turn,fm,i9,D8]
  rcases hq with hq|rfl|rfl
  ·have:=h.at_ q (F2 hq);exact QK h2 this
  ·exact Vk
  ·exact Ly
 ·simp only[TS.turn,eW,dP,eu,or_false] at hx
  rcases hx with hx|rfl|rfl
  ·have:=h.nl x hx;exact Rq this
  ·exact ai (h.a0u _) (by exact Kz)
  ·exact ai (h.a0u _) (by exact Kz)
theorem oE (cell:Int):q8 (ts0 cell) 0:=⟨rfl,rfl,rfl,fun p hp=>by simp[ts0] at hp;subst hp;exact Nat.zero_lt_one,fun x hx=>by simp[ts0] at hx;subst hx;decide⟩
noncomputable abbrev scT:Scope:=cF "_law_tree"
noncomputable abbrev tC:Str:=af "cell"
noncomputable abbrev tN:Str:=af "names"
noncomputable abbrev tA:Str:=af "above"
noncomputable abbrev tL:Str:=af "leaves"
noncomputable abbrev tP:Str:=af "place"
noncomputable abbrev tK:Str:=af "pick"
noncomputable abbrev tLs:Str:=af "letters"
noncomputable abbrev tLt:Str:=af "letter"
noncomputable abbrev EY (s:TS)(aN aA:Addr):Yx:=[(tC,.int s.cell),(tN,.val (.ref aN)),(tA,.val (.ref aA)),(tL,.lst (aq s.lv))]
section
variable {w:gp}{k n:Nat}{A:Around}{X X':Addr→Prop}{env:UI}{outer:List UI}{sc:Scope}{ρ ρ':Yx}{s s':aE}{YC YM:YX}
theorem Ev.a1B {t:UM bX}{i:Str}(x:aV w A X t (.str i) s):aV w A X' t (.str i) s:=fun s' u Q E hQ=>x s' u Q E fun v s'' u' r=>hQ v s'' u' (r)
noncomputable def a2l:List Stmt:=Zy ((dZ "_law_tree").getD 3 nE)
set_option maxHeartbeats 8000000 in
theorem Bo {ts:TS}{i:Nat}(h:q8 ts i)(hi:i<3)(p:Nat×Nat)(hp:p.1<128∧p.2<128){aN aA:Addr}(mx:Mx w (12+n) A X env scT ((tLs,.str ⟨#[p.1,p.2]⟩)::EY ts aN aA) [(aN,.lst (ts.nm.map .str)),(aA,.lst (aq ts.ab))] s){Q:zh→aE→Prop}{E:bX→aE→Prop}
  (hQ:∀s',YF (dj env scT [aN,aA]) s s'→Mx w (12+n) A X env scT (EY (ts.turn p) aN aA) [(aN,.lst ((ts.turn p).nm.map .str)),(aA,.lst (aq (ts.turn p).ab))] s'→Q .next s') :
  cE (cS PW w) A (oz a2l env) Q E s:=by
 have hH:=(BJ w).mono (K':=12+n) (by exact Hw)
 have hlv:=h.lv
 have hll:(aq ts.lv).length=i+1:=by unfold aq;rw[bP,hlv]
 have hlen:(aq ts.lv).length≤sizeLine:=by rw[hll,c9];exact QL hi hlv hll
 have hpk:=h.a01
 have hz:((aq ts.lv).length:Int)≠0:=by rw[hll];exact QX hi hlv hll
 have e1:((ts.pick:Nat):Int)=ts.cell.fmod (aq ts.lv).length:=by
  have h1:(0:Int)<ts.lv.length:=by exact QM hi hlv hll
  have h2:=ia ts.cell h1
  unfold TS.pick aq
  rw[bP,AO h2]
 have a5d:Cv .Mod (.int ts.cell) (.int (aq ts.lv).length)=some (.int ts.pick,[]):=by
  show(if((aq ts.lv).length:Int)=0 then none else some (D.int (ts.cell.fmod (aq ts.lv).length),[]))=_
  rw[if_neg hz,←e1]
 have a4I:Cv .FloorDiv (.int ts.cell) (.int (aq ts.lv).length)=some (.int (ts.cell.fdiv ts.lv.length),[]):=by
  show(if((aq ts.lv).length:Int)=0 then none else if((aq ts.lv).length:Int).natAbs<1073741824 then some (D.int (ts.cell.fdiv (aq ts.lv).length),[]) else none)=_
  rw[if_neg hz,if_pos (by rw[hll];exact Ph hi hlv hll)]
  unfold aq;rw[bP]
 refine aH (cg mx (x:=tK) (d:=.int ts.pick) (.inl (by kernel_rfl)) (aQ mx.cx.Yz (aa hH mx.cx (cs:=[]) (by rfl) trivial) (aa hH mx.cx (cs:=[(aq ts.lv).length≤sizeLine]) (by rfl) ⟨hlen,trivial⟩) a5d trivial) (by kernel_rfl) fun s1 ZG m1=>?_)
 refine aH (cg m1 (x:=tC) (d:=.int (ts.cell.fdiv ts.lv.length)) (.inl (by kernel_rfl)) (aQ m1.cx.Yz (aa hH m1.cx (cs:=[]) (by rfl) trivial) (aa hH m1.cx (cs:=[(aq ts.lv).length≤sizeLine]) (by rfl) ⟨hlen,trivial⟩) a4I trivial) (by kernel_rfl) fun s2 Zc m2=>?_)
 refine aH (cg m2 (x:=tP) (d:=.int ts.place) (.inl (by kernel_rfl)) (b8 m2.cx (l:=aq ts.lv) (n:=ts.pick) (aK m2.cx (.inl (by kernel_rfl)) (by rfl) (by decide +kernel) (by decide +kernel)) (aK m2.cx (.inl (by kernel_rfl)) (by rfl) (by decide +kernel) (by decide +kernel)) (by rw[hll];exact JZ hi hlv hll) (by unfold aq;rw[gu,h.a0V];rfl) aU) (by kernel_rfl) fun s3 pb3 m3=>?_)
 have c3:=m3.freeze (YC:=[]) (x:=tN) (by rfl)
 have hnm:(ts.nm.map D.str).length≤sizeLine:=by rw[bP,h.nm,c9];exact Ql hi hlv hll
 obtain ⟨pk1,pk2⟩:=picks (by exact QT hi hlv hll) hpk
 have hl1:(aq (ts.lv.take ts.pick)).length≤3:=by unfold aq;rw[bP,yb];exact Yi hi hlv hll hpk e1
 have hl2:(aq (ts.lv.drop (ts.pick+1))).length≤3:=by unfold aq;rw[bP,NL];exact Y9 hi hlv hll hpk e1
 refine aH (cg m3 (x:=tL) (d:=.lst ((aq (ts.lv.take ts.pick)++aq (ts.lv.drop (ts.pick+1)))++[.int (ts.nm.map D.str).length,.int ((ts.nm.map D.str).length+1)])) (.inl (by kernel_rfl))
  (aQ (cs:=[(aq (ts.lv.take ts.pick)++aq (ts.lv.drop (ts.pick+1))).length+2≤sizeLine]) m3.cx.Yz (aQ (cs:=[(aq (ts.lv.take ts.pick)).length+(aq (ts.lv.drop (ts.pick+1))).length≤sizeLine]) m3.cx.Yz (aa hH m3.cx (d:=.lst (aq (ts.lv.take ts.pick))) (cs:=[(aq ts.lv).length≤sizeLine]) (by rw[←pk1];rfl) ⟨hlen,trivial⟩)
   (aa hH m3.cx (d:=.lst (aq (ts.lv.drop (ts.pick+1)))) (cs:=[(aq ts.lv).length≤sizeLine]) (by rw[←pk2];rfl) ⟨hlen,trivial⟩) rfl ⟨by rw[c9];exact Qf hl1 hl2,trivial⟩)
   (ph m3.cx.Yz (b9 rfl) (args_cons m3.cx.Yz rfl (Ev.a0e (aa hH c3 (cs:=[(ts.nm.map D.str).length≤sizeLine]) (by rfl) ⟨hnm,trivial⟩)) (args_cons m3.cx.Yz rfl (Ev.a0e (aa hH c3 (cs:=[(ts.nm.map D.str).length≤sizeLine]) (by rfl) ⟨hnm,trivial⟩)) args_nil))) rfl ⟨by rw[fm,c9];exact Q6 hl1 hl2,trivial⟩) (by kernel_rfl) fun s4 pb4 m4=>?_)
 have eL:(aq (ts.lv.take ts.pick)++aq (ts.lv.drop (ts.pick+1)))++[D.int (ts.nm.map D.str).length,.int ((ts.nm.map D.str).length+1)]=aq (ts.turn p).lv:=by
  show _=aq (ts.lv.eraseIdx ts.pick++[ts.nm.length,ts.nm.length+1])
  rw[List.eraseIdx_eq_take_drop_succ,bP]
  unfold aq
  simp
 rw[eL] at m4
 let B:Yx:=[(tP,.int ts.place),(tC,.int (ts.turn p).cell),(tN,.val (.ref aN)),(tA,.val (.ref aA)),(tL,.lst (aq (ts.turn p).lv)),(tLs,.str ⟨#[p.1,p.2]⟩)]
 have m5:=m4.Zf (ρ':=B) (allAt (av rfl (av rfl (av rfl (av rfl (av rfl (av rfl trivial)))))))
 refine aH (jL (n:=2) (V:=fun Z=>B) (M:=fun j=>[(aN,.lst ((ts.nm++[ts.name p.1,ts.name p.2].take j).map .str)),(aA,.lst (aq (ts.ab++[ts.place,ts.place].take j)))])
  (fun j=>.str (sgn ([p.1,p.2].getD j 0))) _ [aN,aA] (by simpa using m5)
  (by kernel_rfl) (by kernel_rfl) (fun s' u=>Dk m5.cx.a (m5.cx.Yz.pu u) ((aK m5.cx (.inl (by kernel_rfl)) (by rfl) (by decide +kernel) (by decide +kernel)) s' u) (by simp[hp.1,hp.2]) (by kernel_rfl)) (by rfl) (fun Z=>rfl) (fun Z=>rfl) (fun j hj2=>?_) fun s9 pb9 m9=>?_)
 ·intro X3 s6 Q3 E3 m6 hXX hQ3
  have hj:=fz hj2
  obtain ⟨hn2,hp2⟩:[ts.name p.1,ts.name p.2].take (j+1)=[ts.name p.1,ts.name p.2].take j++[ts.name ([p.1,p.2].getD j 0)]∧[ts.place,ts.place].take (j+1)=[ts.place,ts.place].take j++[ts.place]:=by
   rcases Nat.le_one_iff_eq_zero_or_eq_one.mp (kU hj2) with rfl|rfl<;>exact⟨rfl,rfl⟩
  generalize [p.1,p.2].getD j 0=c at m6 hn2
  have a2B:((ts.nm++[ts.name p.1,ts.name p.2].take j).map D.str).length≤1000:=by
   have:=h.nm
   rw[bP,fm,yb];exact om4 hi hlv hll hj hj2 this
  have a3D:(aq (ts.ab++[ts.place,ts.place].take j)).length≤1000:=by
   have:=h.ab
   unfold aq
   rw[bP,fm,yb];exact om4 hi hlv hll hj hj2 this
  have c6:=m6.freeze (YC:=[]) (x:=tN) (by rfl)
  have hname:=h.a0u c
  unfold TS.name at hname
  rw[iO,iO] at hname
  refine aH (mQ (YC:=[]) m6 (aa hH m6.cx (cs:=[]) (by rfl) trivial) (d:=.str (ts.name c)) (Ev.a1B (aQ (cs:=[(sgn c++af ".").length+(ts.nm.getD ts.place Str.empty).length≤sizeLine]) c6.Yz (aQ (cs:=[(sgn c).length+(af ".").length≤sizeLine]) c6.Yz (aa hH c6 (d:=.str (sgn c)) (cs:=[]) (by rfl) trivial) (aa hH c6 (d:=.str (af ".")) (cs:=[]) (by rfl) trivial) rfl ⟨by rw[c9];exact K5 hi hlv hll hname,trivial⟩)
   (b8 c6 (l:=(ts.nm++[ts.name p.1,ts.name p.2].take j).map .str) (n:=ts.place) (d:=.str (ts.nm.getD ts.place Str.empty)) (aK c6 (.inl (by kernel_rfl)) (by rfl) (by decide +kernel) (by decide +kernel)) (aK c6 (.inl (by kernel_rfl)) (by rfl) (by decide +kernel) (by decide +kernel)) a2B
    (by rw[gu,List.getElem?_append_left h.place_lt,h.ug];rfl) aU) rfl ⟨by rw[iO,c9];exact Ym hi hlv hll hname,trivial⟩)) (by kernel_rfl) (by kernel_rfl) (by rw[c9];exact Kf a2B) fun s7 pb7 m7=>?_)
  refine aH (mQ (YC:=[_]) m7 (aa hH m7.cx (cs:=[]) (by rfl) trivial) (d:=.int ts.place) (aa hH m7.cx (cs:=[]) (by rfl) trivial) (by kernel_rfl) (by kernel_rfl) (by rw[c9];exact Kf a3D) fun s8 pb8 m8=>?_)
  refine dS (hQ3 s8 ((pb7.mono fun a h=>h.imp id fun h=>by simp at h;simp[h]).trans (pb8.mono fun a h=>h.imp id fun h=>by simp at h;simp[h])) ?_)
  rw[hn2,hp2]
  have e2:aq (ts.ab++([ts.place,ts.place].take j++[ts.place]))=aq (ts.ab++[ts.place,ts.place].take j)++[D.int ts.place]:=by unfold aq;simp
  have e1:(ts.nm++([ts.name p.1,ts.name p.2].take j++[ts.name c])).map D.str=(ts.nm++[ts.name p.1,ts.name p.2].take j).map D.str++[D.str (ts.name c)]:=by simp
  rw[e1,e2]
  exact m8.Zf (allAt (av rfl (av rfl (av rfl (av rfl (av rfl (av rfl trivial)))))))
 ·refine dS (hQ s9 ((((ZG.trans (Zc.trans (pb3.trans pb4))).mono fun a h=>.inl h)).trans pb9) (m9.Zf ?_))
  exact allAt (av rfl (av rfl (av rfl (av rfl trivial))))
end
end
section
noncomputable def vh (ds:List D):R:=on1 ds fun a=>a.onI fun cell=>some (.tup [.lst ((eY cell).nm.map .str),.lst (aq (eY cell).ab)],[])
noncomputable def a3P:List D:=lets.map fun p=>.str ⟨#[p.1,p.2]⟩
section
variable {w:gp}{k n:Nat}{A:Around}{X X':Addr→Prop}{env:UI}{outer:List UI}{sc:Scope}{ρ ρ':Yx}{s s':aE}{YC YM:YX}
theorem Fb (cell:Int):∀i,i≤3→q8 ((lets.take i).foldl TS.turn (ts0 cell)) i
 | 0,_=>oE cell
 | 1,_=>(oE cell).turn _
 | 2,_=>((oE cell).turn _).turn _
 | 3,_=>(((oE cell).turn _).turn _).turn _
 |n+4,h=>by exact(Vs h).elim
theorem wO {i:Nat}(h:i<3):(lets.getD i (0,0)).1<128∧(lets.getD i (0,0)).2<128:=by
 rcases om6 h with rfl|rfl|rfl<;>decide
set_option maxHeartbeats 8000000 in
theorem Bp (hA:Zv (12+n+1) A)(hX:Z6 X s)(hB:Base w X s.heap){cell:Int}{vs:List bX}(r:aX w s.heap X [.int cell] vs):Ev w A X (call (.ref 190) vs) (.tup [.lst ((eY cell).nm.map .str),.lst (aq (eY cell).ab)]) s:=by
 intro Q E hQ
 have hv:vs.length=1:=r.length
 refine dq (k:=12+n) hA hX hB (show Zd.lookup 190=some (bU "_law_tree",dZ "_law_tree",scT) from by kernel_rfl) (ps:=psN "_law_tree") (by decide +kernel) (fun fd e1 e2 e3=>fQ e1 e2 e3 fun fd=>?_) rfl r fun env X1 s1 st=>?_
 ·obtain ⟨a,rfl⟩:=Hf hv;rfl
 have hH:=(BJ w).mono (K':=12+n) (by exact Hw)
 have m1:=Mx.of st.cx
 refine aH (gJ m1 (x:=tN) (d:=.str (af "a.local")) (.inl (by kernel_rfl)) (aa hH m1.cx (cs:=[]) (by rfl) trivial) (by kernel_rfl) fun aN s2 hn2 Zc m2=>?_)
 generalize hX2:(fun b=>X1 b∨b=aN)=X2 at m2
 refine aH (gJ m2 (x:=tA) (d:=.int 0) (.inl (by kernel_rfl)) (aa hH m2.cx (cs:=[]) (by rfl) trivial) (by kernel_rfl) fun aA s3 hn3 pb3 m3=>?_)
 generalize hX3:(fun b=>X2 b∨b=aA)=X3 at m3
 have gX:∀a,X a→X3 a:=fun a h=>by rw[←hX3,←hX2];exact .inl (.inl (st.grow a h))
 refine aH (cg m3 (x:=tL) (d:=.lst (aq [0])) (.inl (by kernel_rfl)) (aa hH m3.cx (cs:=[]) (by rfl) trivial) (by kernel_rfl) fun s4 pb4 m4=>?_)
 have m5:Mx w (12+n) (A.deeper env) X3 env scT (EY (ts0 cell) aN aA) [(aN,.lst ((ts0 cell).nm.map .str)),(aA,.lst (aq (ts0 cell).ab))] s4:=by
  have q:Mx w (12+n) (A.deeper env) X3 env scT _ [(aN,.lst ((ts0 cell).nm.map .str)),(aA,.lst (aq (ts0 cell).ab))] s4:=m4.perm (.swap _ _ _)
  exact q.Zf (allAt (av rfl (av rfl (av rfl (av rfl trivial)))))
 have bN:=m5.mu.big (aN,_) ay
 have bA:=m5.mu.big (aA,_) (bE _ ay)
 have nNA:aN≠aA:=by have:=m5.mu.nodup;simp at this;exact this
 have big:∀{a:Addr},61<a→a≠PT:=fun h q=>by rw[q] at h;exact absurd h (by decide)
 have awA:=m5.mu.away (aA,_) (bE _ ay)
 have nN:s.heap.get? aN=none:=cQ (.YB st.pu (Z:=fun Y=>False) (fr:=[])) hn2 id (big bN)
 have nA1:s1.heap.get? aA=none:=cQ (.YJ Zc (fr:=[])) hn3 (fun q=>awA q.pl) (big bA)
 have nA:s.heap.get? aA=none:=cQ (.YB st.pu (Z:=fun Y=>False) (fr:=[])) nA1 id (big bA)
 refine aH (jL (n:=3) (V:=fun i=>EY ((lets.take i).foldl TS.turn (ts0 cell)) aN aA) (M:=fun i=>[(aN,.lst (((lets.take i).foldl TS.turn (ts0 cell)).nm.map .str)),(aA,.lst (aq ((lets.take i).foldl TS.turn (ts0 cell)).ab))])
  (fun i=>.str ⟨#[(lets.getD i (0,0)).1,(lets.getD i (0,0)).2]⟩) _ [aN,aA] m5 (by kernel_rfl) (by kernel_rfl) (az hH _ _ (l:=a3P) (cs:=[]) (by rfl) trivial m5.cx (by kernel_rfl) (fun d Y=>.inl (by kernel_rfl))) (by rfl) (fun i=>rfl) (fun i=>rfl) (fun i hi3=>?_) fun s9 pb9 m9=>?_)
 ·intro X4 s6 Q3 E3 m6 hXX hQ3
  have ht:=fK (l:=lets) (d:=(0,0)) hi3
  refine Bo (Fb cell i (fz hi3)) hi3 _ (wO hi3) m6 fun s7 pb7 m7=>?_
  refine hQ3 s7 pb7 ?_
  rw[ht,MM];exact m7
 ·refine aH (nk ((aa hH m9.cx (d:=.tup [.val (.ref aN),.val (.ref aA)]) (cs:=[]) (by rfl) trivial).now _ _ fun v s10 u10 r10=>?_))
  have m10:=m9.pu u10
  have pbs:YF (dj env scT [aN,aA]) s1 s10:=(((Zc.mono fun a h=>.inl h).trans ((pb3.mono fun a h=>.inl h).trans (pb4.mono fun a h=>.inl h))).trans (pb9.mono fun a h=>h)).trans (.YB u10)
  have pu:Pu s s10:=st.back (as:=[aN,aA]) pbs (by simp only[fE];exact⟨nN,nA,by simp⟩)
  have down:Up X3 X s10.heap s10.heap:=⟨fun Y Y e Y=>e,fun a Y Y h=>gX a h⟩
  have rN:=uz hX nN bN ((m10.mu.at_ (aN,_) ay).up down fun Y e=>e)
  have rA:=uz hX nA bA ((m10.mu.at_ (aA,_) (bE _ ay)).up down fun Y e=>e)
  obtain ⟨T,us,rfl,hT,hTx,v1,t1,e1,rfl,v2,t2,e2,rfl,e3⟩:=r10
  subst e2 e3
  refine hQ _ s10 pu ?_
  refine⟨T,us,rfl,hT,fun q=>hTx (gX T q),?_⟩
  rw[e1]
  exact .cons rN (.one rA)
noncomputable def T4:Hooks:=T3.add 190 vh
theorem Nt (w:gp):au w T4 14:=by
 refine(w7 w).add 190 vh fun ds d cs h hc A X s vs hA hX hB r=>?_
 replace h:=dI h;obtain ⟨a,rfl,h⟩:=h
 replace h:=cj h;obtain ⟨c,rfl,h⟩:=h
 obtain ⟨rfl,_⟩:=dQ (aI h)
 exact Bp (n:=1) (hA.mono (by exact a4k)) hX hB r
end
end
section
noncomputable def iu (p:Nat):Str:=strAt (af "abcdefg") p
noncomputable def bC (d st:Int):Int:=if d>0 then d+st else 0
noncomputable def goL (ab:List Nat)(d:List Int):Nat→Nat→Str→Int→Str×Int
 | 0,_,acc,st=>(acc,st)
 |m+1,q,acc,st=>goL ab d m (ab.getD q 0) (acc++bL (af ".") (bC (d.getD (ab.getD q 0) 0) (st+1))++iu (ab.getD q 0)++af "\r\n") (st+1)
noncomputable def gO (ab:List Nat):Nat→Nat→Nat
 | 0,_=>0
 |f+1,q=>if q=0 then 0 else gO ab f (ab.getD q 0)+1
noncomputable def Way (ab:List Nat):Nat→Nat→Prop
 | 0,q=>q=0
 |m+1,q=>q≠0∧q<7∧Way ab m (ab.getD q 0)
theorem Way.steps {ab:List Nat}:∀{f m q:Nat},m≤f→Way ab m q→gO ab f q=m
 | 0,0,q,_,_=>rfl
 |f+1,0,q,_,h=>by have h:q=0:=h;subst h;rfl
 |f+1,m+1,q,hm,h=>by
  obtain ⟨h1,_,h2⟩:=h
  unfold gO
  rw[if_neg h1,Way.steps (by exact UW hm) h2]
noncomputable def dR (d:List Int)(e:List Str)(p:Nat):Str:=bL (af ".") (d.getD p 0)++iu p++e.getD p Str.empty
noncomputable def cL (tail:Str)(st:Int):Str:=if(decide (st>0)&&(!decide (tail=af "")&&true))=true then af "\r\n" else tail
noncomputable def gW (ab:List Nat)(d:List Int)(e:List Str)(tail:Str)(p:Nat):Str:=
 (goL ab d (gO ab 7 p) p (dR d e p) 0).1++bL (af ".") (goL ab d (gO ab 7 p) p (dR d e p) 0).2++af ".\r\n\r\nz"++cL tail (goL ab d (gO ab 7 p) p (dR d e p) 0).2
noncomputable def sI (ab:List Nat)(d:List Int)(e:List Str)(tail:Str)(p:Nat):Prop:=
 ab.length=7∧d.length=7∧e.length=7∧(∀x∈d,0≤x∧x≤3)∧(∀x∈e,x.length≤2)∧tail.length≤2∧p<7∧∃m,m≤6∧Way ab m p
noncomputable def mW (l:List D):List Nat:=l.map fun d=>d.toInt.toNat
noncomputable def on5 (l:List D)(f:D→D→D→D→D→R):R:=match l with
 | [a,b,c,d,e]=>f a b c d e
 |_=>none
theorem DR {l:List D}{f:D→D→D→D→D→R}{r:D×List Prop}(h:on5 l f=some r):∃a b c d e,l=[a,b,c,d,e]∧f a b c d e=some r:=by
 rcases l with _|⟨a,_|⟨b,_|⟨c,_|⟨d,_|⟨e,_|⟨x,l⟩⟩⟩⟩⟩⟩<;>first|exact⟨_,_,_,_,_,rfl,h⟩|exact Fw h
noncomputable def nW (ds:List D):R:=on5 ds fun p ab d e tail=>p.onI fun p=>ab.onL fun ab=>d.onL fun d=>e.onL fun e=>tail.onS fun tail=>
 some (.str (gW (mW ab) (d.map D.toInt) (e.map D.toStr) tail p.toNat),[0≤p∧ab=aq (mW ab)∧d=(d.map D.toInt).map .int∧e=(e.map D.toStr).map .str∧sI (mW ab) (d.map D.toInt) (e.map D.toStr) tail p.toNat])
section
variable {w:gp}{k n:Nat}{A:Around}{X X':Addr→Prop}{env:UI}{outer:List UI}{sc:Scope}{ρ ρ':Yx}{s s':aE}{μ YC YM:YX}
theorem Fe (mx:Mx w k A X env sc ρ μ s){test:PySem.Expr}{body:List Stmt}{pos:UK}{Q:zh→aE→Prop}{E:bX→aE→Prop}(I:Nat→Yx→Prop){n:Nat}(h0:I n ρ)
  (hT:∀m YL s1,I m YL→Mx w k A X env sc YL μ s1→fM w A (isTrue test env (ku test env)) (decide (m≠0)) s1)
  (hB:∀m YL s1 (Q:zh→aE→Prop) (E:bX→aE→Prop),I (m+1) YL→Mx w k A X env sc YL μ s1→(∀Zq s2,I m Zq→YF (Own env sc) s1 s2→Mx w k A X env sc Zq μ s2→Q .next s2)→cE (cS PW w) A (oz body env) Q E s1)
  (hQ:∀ρ' s',I 0 ρ'→YF (Own env sc) s s'→Mx w k A X env sc ρ' μ s'→Q .next s'):cE (cS PW w) A (Nn (.While test body [] pos) env) Q E s:=by
 refine wpAny_While ?_
 refine MI (fun m s'=>∃ρ',I m ρ'∧YF (Own env sc) s s'∧Mx w k A X env sc ρ' μ s') ?_ n ⟨ρ,h0,YF.refl _,mx⟩
 rintro m s' ⟨ρ',hi,pb,m'⟩
 refine hT m ρ' s' hi m' s' (Pu.refl _) _ _ fun s2 u2=>?_
 have m2:=m'.pu u2
 have p2:=pb.trans (.YB u2)
 cases m with
 |zero=>
  simp only[ne_eq,not_true_eq_false,decide_false,fh,if_false]
  exact dS (hQ ρ' s2 hi p2 m2)
 |succ m=>
  rw[show decide (m+1≠0)=true from decide_eq_true (G1 m)]
  simp only[if_true]
  exact hB m ρ' s2 _ _ hi m2 fun Zq s3 hi3 p3 m3=>⟨m,AK _,Zq,hi3,p2.trans p3,m3⟩
noncomputable abbrev scL:Scope:=cF "_law_letter"
noncomputable abbrev lP:Str:=af "place"
noncomputable abbrev lA:Str:=af "above"
noncomputable abbrev lD:Str:=af "dots"
noncomputable abbrev lE:Str:=af "ends"
noncomputable abbrev lT:Str:=af "tail"
noncomputable abbrev lL:Str:=af "letter"
noncomputable abbrev lS:Str:=af "steps"
noncomputable abbrev Wk (ab:List Nat)(d:List Int)(e:List Str)(tail:Str)(q:Nat)(acc:Str)(st:Int):Yx:=[(lL,.str acc),(lS,.int st),(lP,.int q),(lA,.lst (aq ab)),(lD,.lst (d.map .int)),(lE,.lst (e.map .str)),(lT,.str tail)]
theorem di (n:Int):(bL (af ".") n).length=n.toNat:=by
 unfold bL
 split
 ·have:n.toNat=0:=by exact Kq (by assumption)
  rw[this];rfl
 ·split
  ·rename_i h1 h2
   have h2:n=1:=by
    have l1:(af ".").length=1:=by decide +kernel
    simpa [l1] using h2
   subst h2;rfl
  ·have key:∀(k:Nat) (acc:Array Nat),((gv k (af ".").cps).foldl (·++·) acc).size=acc.size+k*(af ".").cps.size:=by
    intro k
    induction k with
    |zero=>intro acc;simp
    |succ k ih=>intro acc;rw[iP,B6,ih,EO,MV];exact VN
   show(PF _)=_
   rw[key]
   have:(af ".").cps.size=1:=by decide +kernel
   simp[this]
set_option maxHeartbeats 8000000 in
theorem tZ (hA:Zv (12+n+1) A)(hX:Z6 X s)(hB:Base w X s.heap){p:Nat}{ab:List Nat}{d:List Int}{e:List Str}{tail:Str}{vs:List bX}(h:sI ab d e tail p)
  (r:aX w s.heap X [.int p,.lst (aq ab),.lst (d.map .int),.lst (e.map .str),.str tail] vs):Ev w A X (call (.ref 211) vs) (.str (gW ab d e tail p)) s:=by
 intro Q E hQ
 have hv:vs.length=5:=r.length
 obtain ⟨h1,h2,h3,h4,h5,h6,h7,m,hm,a3L⟩:=h
 have est:gO ab 7 p=m:=a3L.steps (by exact Tt hm)
 unfold gW at hQ
 rw[est] at hQ
 refine dq (k:=12+n) hA hX hB (show Zd.lookup 211=some (bU "_law_letter",dZ "_law_letter",scL) from by kernel_rfl) (ps:=psN "_law_letter") (by decide +kernel) (fun fd e1 e2 e3=>fQ e1 e2 e3 fun fd=>?_) rfl r fun env X1 s1 st=>?_
 ·obtain ⟨a,b,c,d,e,h⟩:=Oq hv;rw[h];rfl
 have hH:=(BJ w).mono (K':=12+n) (by exact Hw)
 have m1:=Mx.of st.cx
 have hl1:(aq ab).length≤1000:=by unfold aq;rw[bP];exact DK h1
 have hl2:(d.map D.int).length≤1000:=by rw[bP];exact DK h2
 have hl3:(e.map D.str).length≤1000:=by rw[bP];exact DK h3
 have Zg:∀{q:Nat},q<7→(d.map D.int)[q]?=some (.int (d.getD q 0)):=fun {q} hq=>by rw[gu,bq,c8 (by exact om3 h2 hq)];rfl
 have atE:∀{q:Nat},q<7→(e.map D.str)[q]?=some (.str (e.getD q Str.empty)):=fun {q} hq=>by rw[gu,bq,c8 (by exact om3 h3 hq)];rfl
 have atA:∀{q:Nat},q<7→(aq ab)[q]?=some (.int (ab.getD q 0:Nat)):=fun {q} hq=>by unfold aq;rw[gu,bq,c8 (by exact om3 h1 hq)];rfl
 have dB:∀{q:Nat},q<7→0≤d.getD q 0∧d.getD q 0≤3:=fun {q} hq=>h4 _ (by rw[bq,c8 (by exact om3 h2 hq)];exact kM _)
 have eB:∀{q:Nat},q<7→(e.getD q Str.empty).length≤2:=fun {q} hq=>h5 _ (by rw[bq,c8 (by exact om3 h3 hq)];exact kM _)
 have l1:(af ".").length=1:=by decide +kernel
 have l2:(af "\r\n").length=2:=by decide +kernel
 have l3:(af "abcdefg").length=7:=by decide +kernel
 have lH:∀q,(iu q).length=1:=fun Z=>rfl
 refine aH (cg m1 (x:=lL) (d:=.str (dR d e p)) (.inl (by kernel_rfl)) (aQ (cs:=[(bL (af ".") (d.getD p 0)++iu p).length+(e.getD p Str.empty).length≤sizeLine]) m1.cx.Yz (aQ (cs:=[(bL (af ".") (d.getD p 0)).length+(iu p).length≤sizeLine]) m1.cx.Yz
   (aQ (a:=.str (af ".")) (b:=.int (d.getD p 0)) (cs:=[(af ".").length≤1000∧-1000≤d.getD p 0∧d.getD p 0≤1000]) m1.cx.Yz (aa hH m1.cx (cs:=[]) (by rfl) trivial)
    (b8 m1.cx (l:=d.map .int) (n:=p) (aK m1.cx (.inl (by kernel_rfl)) (by rfl) (by decide +kernel) (by decide +kernel)) (aK m1.cx (.inl (by kernel_rfl)) (by rfl) (by decide +kernel) (by decide +kernel)) hl2 (Zg h7) aU) rfl ⟨by have:=dB h7;rw[l1];exact WM this,trivial⟩)
   (aa hH m1.cx (d:=.str (iu p)) (cs:=[p<(af "abcdefg").length∧(af "abcdefg").length≤sizeLine]) (by rfl) ⟨by rw[l3,c9];exact RZ h7,trivial⟩) rfl ⟨by have:=dB h7;rw[di,lH,c9];exact Wu this,trivial⟩)
   (b8 m1.cx (l:=e.map .str) (n:=p) (aK m1.cx (.inl (by kernel_rfl)) (by rfl) (by decide +kernel) (by decide +kernel)) (aK m1.cx (.inl (by kernel_rfl)) (by rfl) (by decide +kernel) (by decide +kernel)) hl3 (atE h7) aU) rfl ⟨by have:=dB h7;have:=eB h7;rw[iO,di,lH,c9];exact Wq (by assumption) this,trivial⟩) (by kernel_rfl) fun s2 Zc m2=>?_)
 refine aH (cg m2 (x:=lS) (d:=.int 0) (.inl (by kernel_rfl)) (aa hH m2.cx (cs:=[]) (by rfl) trivial) (by kernel_rfl) fun s3 pb3 m3=>?_)
 have m4:Mx w (12+n) (A.deeper env) X1 env scL (Wk ab d e tail p (dR d e p) 0) [] s3:=m3.Zf (allAt (av rfl (av rfl (av rfl (av rfl (av rfl (av rfl (av rfl trivial))))))))
 have hl0:(dR d e p).length≤6:=by
  unfold dR
  have:=dB h7;have:=eB h7
  rw[iO,iO,di,lH];exact Wt (by assumption) this
 refine aH (Fe m4 (fun j ρ=>∃q acc st,ρ=Wk ab d e tail q acc st∧q<7∧Way ab j q∧j≤m∧st=(m - j:Nat)∧acc.length≤6+20*(m - j)∧goL ab d j q acc st=goL ab d m p (dR d e p) 0) (n:=m)
  ⟨p,_,_,rfl,h7,a3L,gz _,by simp,by exact Pb hl0,rfl⟩ ?_ ?_ ?_)
 ·rintro j YL s5 ⟨q,acc,st',rfl,hq,hw,hj,_⟩ m5
  refine dY hH m5.cx (d:=.bool (!decide ((q:Int)=0))) (cs:=[]) (by rfl) ?_ trivial
  show some _=some _
  congr 1
  cases j with
  |zero=>have:q=0:=hw;subst this;rfl
  |succ j=>
   have:q≠0:=hw.1
   have hq0:¬((q:Int)=0):=by exact Qm this
   rw[decide_eq_false hq0];rfl
 ·rintro j YL s5 Q2 E2 ⟨q,acc,st',rfl,hq,hw,hj,rfl,hal,hgo⟩ m5 hQ2
  obtain ⟨_,_,hw2⟩:=hw
  have hq2:ab.getD q 0<7:=by
   cases j with
   |zero=>have:ab.getD q 0=0:=hw2;exact LQ this
   |succ j=>exact hw2.2.1
  refine aH (cg m5 (x:=lP) (d:=.int (ab.getD q 0:Nat)) (.inl (by kernel_rfl)) (b8 m5.cx (l:=aq ab) (n:=q) (aK m5.cx (.inl (by kernel_rfl)) (by rfl) (by decide +kernel) (by decide +kernel)) (aK m5.cx (.inl (by kernel_rfl)) (by rfl) (by decide +kernel) (by decide +kernel)) hl1 (atA hq) aU) (by kernel_rfl) fun s6 pb6 m6=>?_)
  refine aH (cg m6 (x:=lS) (d:=.int (((m - (j+1):Nat):Int)+1)) (.inl (by kernel_rfl)) (aa hH m6.cx (cs:=[]) (by rfl) trivial) (by kernel_rfl) fun s7 pb7 m7=>?_)
  generalize hq':ab.getD q 0=q' at*
  have hdq:=dB hq2
  have hst:((m - (j+1):Nat):Int)+1=(m - j:Nat):=by exact Xe est hq hj (by assumption)
  rw[hst] at m7
  have a2A:∀px py pos,aV w (A.deeper env) X1 (ku (.Subscript (.Name lD px) (.Name lP py) pos) env) (.int (d.getD q' 0)) s7:=fun px py pos=>b8 m7.cx (l:=d.map .int) (n:=q') (aK m7.cx (.inl (by kernel_rfl)) (by rfl) (by decide +kernel) (by decide +kernel)) (aK m7.cx (.inl (by kernel_rfl)) (by rfl) (by decide +kernel) (by decide +kernel)) hl2 (Zg hq2) aU
  have hdf:0≤bC (d.getD q' 0) ((m - j:Nat):Int)∧bC (d.getD q' 0) ((m - j:Nat):Int)≤9:=by unfold bC;split<;>(first|exact om9 hm est hj hdq hst (by assumption)|exact a3V)
  have lD1:=di (bC (d.getD q' 0) ((m - j:Nat):Int))
  have la:(acc++bL (af ".") (bC (d.getD q' 0) ((m - j:Nat):Int))).length≤6+20*(m - (j+1))+9:=by rw[iO];exact Xg hal hst hdf lD1
  have lb:(acc++bL (af ".") (bC (d.getD q' 0) ((m - j:Nat):Int))++iu q').length≤6+20*(m - (j+1))+10:=by rw[iO,lH];exact Y7 hst la
  refine aH (cg m7 (x:=lL) (d:=.str (acc++bL (af ".") (bC (d.getD q' 0) ((m - j:Nat):Int))++iu q'++af "\r\n")) (.inl (by kernel_rfl))
   (aQ (cs:=[(acc++bL (af ".") (bC (d.getD q' 0) ((m - j:Nat):Int))++iu q').length+(af "\r\n").length≤sizeLine]) m7.cx.Yz
    (aQ (cs:=[(acc++bL (af ".") (bC (d.getD q' 0) ((m - j:Nat):Int))).length+(iu q').length≤sizeLine]) m7.cx.Yz
     (aQ (cs:=[acc.length+(bL (af ".") (bC (d.getD q' 0) ((m - j:Nat):Int))).length≤sizeLine]) m7.cx.Yz (aK m7.cx (.inl (by kernel_rfl)) (by rfl) (by decide +kernel) (by decide +kernel))
      (aQ (a:=.str (af ".")) (b:=.int (bC (d.getD q' 0) ((m - j:Nat):Int))) (cs:=[(af ".").length≤1000∧-1000≤bC (d.getD q' 0) ((m - j:Nat):Int)∧bC (d.getD q' 0) ((m - j:Nat):Int)≤1000]) m7.cx.Yz (aa hH m7.cx (cs:=[]) (by rfl) trivial)
       (v9 (x:=decide (d.getD q' 0>0)) ((aM (op:=.Gt) (cs:=[]) (d:=.bool (decide (d.getD q' 0>0))) m7.cx.a m7.cx.Yz (a2A _ _ _) (aa hH m7.cx (d:=.int 0) (cs:=[]) (by rfl) trivial) rfl trivial (by kernel_rfl)).test _ rfl)
        (fun hx=>by
         have e:bC (d.getD q' 0) ((m - j:Nat):Int)=d.getD q' 0+((m - j:Nat):Int):=if_pos (of_decide_eq_true hx)
         rw[e]
         exact aQ (cs:=[]) m7.cx.Yz (a2A _ _ _) (aa hH m7.cx (d:=.int ((m - j:Nat):Int)) (cs:=[]) (by rfl) trivial) rfl trivial)
        (fun hx=>by
         have e:bC (d.getD q' 0) ((m - j:Nat):Int)=0:=if_neg (of_decide_eq_false hx)
         rw[e]
         exact aa hH m7.cx (cs:=[]) (by rfl) trivial))
       rfl ⟨by rw[l1];exact Ou hdf,trivial⟩) rfl ⟨by rw[c9];exact om5 hm est hj hal hst hdf lD1,trivial⟩)
     (aa hH m7.cx (d:=.str (iu q')) (cs:=[q'<(af "abcdefg").length∧(af "abcdefg").length≤sizeLine]) (by rfl) ⟨by rw[l3,c9];exact Kc hq' hq2,trivial⟩) rfl ⟨by rw[lH,c9];exact Xi hm est hj hst la,trivial⟩)
    (aa hH m7.cx (d:=.str (af "\r\n")) (cs:=[]) (by rfl) trivial) rfl ⟨by rw[l2,c9];exact Xh hm est hj hst lb,trivial⟩) (by kernel_rfl) fun s8 pb8 m8=>?_)
  refine dS (hQ2 _ s8 ⟨q',acc++bL (af ".") (bC (d.getD q' 0) ((m - j:Nat):Int))++iu q'++af "\r\n",((m - j:Nat):Int),rfl,hq2,hw2,by exact PB est hj,rfl,?_,?_⟩ (pb6.trans (pb7.trans pb8)) (m8.Zf (allAt (av rfl (av rfl (av rfl (av rfl (av rfl (av rfl (av rfl trivial))))))))))
  ·rw[iO,l2];exact Y4 hst lb
  ·rw[←hgo]
   show _=goL ab d j (ab.getD q 0) (acc++bL (af ".") (bC (d.getD (ab.getD q 0) 0) (((m - (j+1):Nat):Int)+1))++iu (ab.getD q 0)++af "\r\n") (((m - (j+1):Nat):Int)+1)
   rw[hst,hq']
 ·rintro ρ5 s5 ⟨q,acc,st',rfl,hq,hw,hj,rfl,hal,hgo⟩ pb5 m5
  have e1:goL ab d m p (dR d e p) 0=(acc,((m - 0:Nat):Int)):=hgo.symm
  rw[e1] at hQ
  refine aH (nk ((aa hH m5.cx (d:=.str (acc++bL (af ".") ((m - 0:Nat):Int)++af ".\r\n\r\nz"++cL tail ((m - 0:Nat):Int))) (by rfl) ?_).now _ _ fun v s6 u6 r6=>?_))
  ·have lz:(af ".\r\n\r\nz").length=6:=by decide +kernel
   have lt:(cL tail ((m - 0:Nat):Int)).length≤2:=by
    unfold cL
    split
    ·exact ee l2
    ·exact h6
   have ls:=di ((m - 0:Nat):Int)
   have la:(acc++bL (af ".") ((m - 0:Nat):Int)).length≤200:=by rw[iO];exact Wo hm est hal ls
   have lb:(acc++bL (af ".") ((m - 0:Nat):Int)++af ".\r\n\r\nz").length≤210:=by rw[iO];exact P0 lz la
   exact av ⟨by rw[l1];exact a3W,by exact QD,by exact XQ hm est⟩ (av (by rw[c9];exact Xc hm est hal ls) (av (by rw[c9];exact Pa lz la) (av (show(acc++bL (af ".") ((m - 0:Nat):Int)++af ".\r\n\r\nz").length+(cL tail ((m - 0:Nat):Int)).length≤sizeLine from by rw[c9];exact Ov lt lb) trivial)))
  ·refine hQ v s6 (st.back (as:=[]) ((((Zc.trans pb3).trans pb5).mono fun a h=>.inl h).trans (.YB u6)) (by simp)) (r6)
end
noncomputable def T5:Hooks:=T4.add 211 nW
theorem eZ (w:gp):au w T5 15:=by
 refine(Nt w).add 211 nW fun ds d cs h hc A X s vs hA hX hB r=>?_
 replace h:=DR h;obtain ⟨p,ab,dd,e,tail,rfl,h⟩:=h
 replace h:=cj h;obtain ⟨p,rfl,h⟩:=h
 replace h:=cC h;obtain ⟨ab,rfl,h⟩:=h
 replace h:=cC h;obtain ⟨dd,rfl,h⟩:=h
 replace h:=cC h;obtain ⟨e,rfl,h⟩:=h
 replace h:=bW h;obtain ⟨tail,rfl,h⟩:=h
 ·obtain ⟨rfl,rfl⟩:=dQ (aI h)
  obtain ⟨⟨h0,h1,h2,h3,h4⟩,_⟩:=hc
  rw[h1,h2,h3,←AO h0] at r
  exact tZ (n:=2) (hA.mono (by exact a4f)) hX hB h4 r
end
section
section
variable {w:gp}{k n:Nat}{A:Around}{X X':Addr→Prop}{env:UI}{outer:List UI}{sc:Scope}{ρ ρ':Yx}{s s':aE}{μ YC YM:YX}{E:bX→aE→Prop}
theorem rY {l:Addr}{v1 v2:bX}{Q:Unit→aE→Prop}{t1 t2:Bool×(bX→UM Unit)}(hh:A.handled=none)(hl:s.heap.PlainList l #[v1,v2])(hstar:[t1,t2].findIdx? (fun x=>x.1)=none)
  (h:∀h',SI s.heap.objs.size s.heap h'→cE (cS PW w) A (LA [t1.2,t2.2] [v1,v2]) Q E {s with heap:=h'}):cE (cS PW w) A (unpack (.ref l) [t1,t2]) Q E s:=by
 obtain ⟨n0,ho⟩:=id hl
 have hne:l≠s.heap.objs.size:=xy (eK ho)
 unfold unpack
 rw[hstar]
 refine ah (fT ?_)
 show cE _ A (unpackItems (.ref l) 2 none) _ _ s
 unfold unpackItems
 refine ah ?_
 unfold notIterableAtAll
 refine ah (zv ⟨_,ho,rfl⟩ slot_list_iter.lookup ?_)
 refine bg ?_
 simp only[fh,if_false]
 refine ah (fT (EP hl.isList ?_))
 generalize hI:s.heap.objs.size=I at hne h ⊢
 have a1H:(s.heap.push {cls:=.type "list_iterator",data:=.fields #[.ref l,.int 0 0]}).IsListIter I l 0:=by rw[←hI];exact⟨_,ck _ rfl,rfl,rfl⟩
 have hl0:(s.heap.push {cls:=.type "list_iterator",data:=.fields #[.ref l,.int 0 0]}).PlainList l #[v1,v2]:=⟨n0,b6 _ ho⟩
 have k0:∀b o,s.heap.get? b=some o→(s.heap.push {cls:=.type "list_iterator",data:=.fields #[.ref l,.int 0 0]}).get? b=some o:=fun b o e=>b6 _ e
 generalize (s.heap.push {cls:=.type "list_iterator",data:=.fields #[.ref l,.int 0 0]})=h0 at a1H hl0 k0
 refine ah (fT ?_)
 show cE _ _ (do let it←Ct (.ref I);match it with|none=>AS []|some v=>do AS (v::(←M1 [v] (draw (.ref I) 1)))) _ _ _
 refine ah (sF a1H hl0.isList (x:=v1) rfl fun h1 hit1 hs1=>?_)
 refine ah (fT ?_)
 have hl1:h1.PlainList l #[v1,v2]:=by obtain ⟨m,hm⟩:=hl0;exact⟨m,hs1.extBut _ _ hne hm⟩
 show cE _ _ (do let it←Ct (.ref I);match it with|none=>AS []|some v=>do AS (v::(←M1 [v] (draw (.ref I) 0)))) _ _ _
 refine ah (sF hit1 hl1.isList (x:=v2) rfl fun h2 hit2 hs2=>?_)
 have hl2:h2.PlainList l #[v1,v2]:=by obtain ⟨m,hm⟩:=hl1;exact⟨m,hs2.extBut _ _ hne hm⟩
 refine ah (fT (bg (bg (bg ?_))))
 simp only[i9,D8]
 rw[if_neg (by exact a4l)]
 refine ah (fT (Cf hh hit2 hl2.isList rfl fun h3 he3=>?_))
 simp only[LV,fh,if_false]
 exact bg (h h3 fun b o hb e=>he3 b o hb (hs2.extBut b o hb (hs1.extBut b o hb (k0 b o e))))
end
end
section
noncomputable def kidsOf (ab:List Nat)(p:Nat):List Nat:=[1,2,3,4,5,6].filter fun k=>decide (ab.getD k 0=p)
noncomputable def Yy:Tr→List (List Nat)
 | .leaf p=>[[p]]
 | .node p l r=>(Yy l++Yy r).map (p::·)++(Yy l).flatMap fun a=>(Yy r).map fun b=>a++b
noncomputable def aJ (l:List (List Nat)):List D:=l.map fun o=>.lst (aq o)
noncomputable def Zz:D→List D
 | .lst l=>l
 |_=>[]
noncomputable def oH (ab:List Nat):Tr→Prop
 | .leaf p=>p<7∧kidsOf ab p=[]
 | .node p l r=>p<7∧kidsOf ab p=[l.root,r.root]∧oH ab l∧oH ab r
noncomputable def xU (w:gp)(ab:List Nat)(t:Tr)(n:Nat):Prop:=
 ∀{A:Around} {X:Addr→Prop} {s:aE} {vs:List bX},Zv (16+n) A→Z6 X s→Base w X s.heap→aX w s.heap X [.int t.root,.lst (aq ab)] vs→Ev w A X (call (.ref 216) vs) (.lst (aJ (Yy t))) s
theorem kZ (t:Tr):(Yy t).length+1≤2 ^ t.size:=by
 induction t with
 |leaf p=>simp[Yy,Tr.size]
 |node p l r h1 h2=>
  have e:(Yy (.node p l r)).length+1=((Yy l).length+1)*((Yy r).length+1):=by
   simp only[Yy,fm,bP,List.length_flatMap,List.map_const',List.sum_replicate_nat,Nat.add_mul,Nat.mul_add]
   exact QG
  rw[e]
  refine ai (E6 h1 h2) ?_
  rw[←Nat.pow_add]
  exact lI (by exact a0H) (by simp[Tr.size])
theorem fX (t:Tr):∀o∈Yy t,o.length≤t.size:=by
 induction t with
 |leaf p=>intro o h;simp[Yy] at h;subst h;simp[Tr.size]
 |node p l r h1 h2=>
  intro o h
  simp only[Yy,eW,eg,yy] at h
  simp only[Tr.size]
  rcases h with ⟨a,ha|ha,rfl⟩|⟨a,ha,b,hb,rfl⟩
  ·have:=h1 a ha;simp;exact Lp this
  ·have:=h2 a ha;simp;exact KC this
  ·have:=h1 a ha;have:=h2 b hb;simp;exact Rx (by assumption) this
theorem qP (ab:List Nat)(p:Nat):∀ks:List Nat,(aq ks).flatMap (fun d=>aL (decide (ab.getD d.toInt.toNat 0=p)&&true) [d])=aq (ks.filter fun k=>decide (ab.getD k 0=p))
 | []=>rfl
 |k::ks=>by
  have ih:=qP ab p ks
  unfold aq at ih ⊢
  rw[dc,fk,ih,t9]
  show aL (decide (ab.getD k 0=p)&&true) [D.int k]++_=_
  cases decide (ab.getD k 0=p)<;>rfl
theorem rK (p:Nat):∀L:List (List Nat),(aJ L).flatMap (fun d=>aL true [.lst (.int (p:Int)::Zz d)])=aJ (L.map (p::·))
 | []=>rfl
 |o::L=>by
  have ih:=rK p L
  unfold aJ at ih ⊢
  rw[dc,fk,ih];rfl
theorem jy (R:List (List Nat)):∀L:List (List Nat),(aJ L).flatMap (fun d=>(aJ R).map fun d2=>.lst (Zz d++Zz d2))=aJ (L.flatMap fun a=>R.map fun b=>a++b)
 | []=>rfl
 |o::L=>by
  have ih:=jy R L
  unfold aJ at ih ⊢
  rw[dc,fk,ih,fk,g9]
  congr 1
  rw[kH,kH]
  refine mT fun b Z=>?_
  show D.lst (aq o++aq b)=D.lst (aq (o++b))
  unfold aq;rw[g9]
theorem jh (b:List (List Nat)):∀a:List (List Nat),((aJ a).flatMap fun d=>(aJ b).map fun d2=>D.lst (Zz d++Zz d2)).length=a.length*b.length
 | []=>by simp[aJ]
 |o::a=>by
  have ih:=jh b a
  unfold aJ at ih ⊢
  rw[dc,fk,fm,ih,bP,bP,i9,MV,rS]
theorem fG {L:List (List Nat)}{d:D}(h:d∈aJ L):∃o∈L,d=.lst (aq o):=by
 obtain ⟨o,ho,rfl⟩:=eg.mp h;exact⟨o,ho,rfl⟩
noncomputable abbrev scS:Scope:=cF "_law_sets"
noncomputable abbrev sK:Str:=af "kids"
noncomputable abbrev sL:Str:=af "left"
noncomputable abbrev sR:Str:=af "right"
section
variable {w:gp}{k n:Nat}{A:Around}{X X':Addr→Prop}{env:UI}{outer:List UI}{sc:Scope}{ρ ρ':Yx}{s s':aE}{μ YC YM:YX}
theorem qe {μ:YX}(mx:Mx w k A X env sc ρ μ s){x y:Str}{p1 p2 tp:UK}{kt:Nat}{d1 d2:D}{v:bX}{Q:Unit→aE→Prop}{E:bX→aE→Prop}(hk:∀z∈[x,y],sc.names.lookup z=some .local∨sc.names.lookup z=some .cell)(r:Rep w s.heap X (.lst [d1,d2]) v)
  (hQ:∀s',YF (Own env sc) s s'→Mx w k A X env sc ((y,d2)::(x,d1)::ρ) μ s'→Q () s'):cE (cS PW w) A (z0 (.Tuple [.Name x p1,.Name y p2] kt tp) env v) Q E s:=by
 obtain ⟨T,vs,rfl,hT,hTx,hr⟩:=r
 obtain ⟨v1,t1,e1,g1,v2,t2,rfl,g2,rfl⟩:=hr
 have evs:vs=#[v1,v2]:=by apply AU;simpa using e1
 subst evs
 rw[arm_assign_Tuple]
 refine ah (pV ?_)
 show cE _ A (unpack (.ref T) [(false,z0 (.Name x p1) env),(false,z0 (.Name y p2) env)]) Q E s
 refine rY mx.cx.a.handled hT rfl fun h' he=>?_
 have p0:Pu s {s with heap:=h'}:=⟨fun a o e Z=>he a o (fun q=>by rw[q] at e;exact iE _ (eK e)) e,fun Z9=>by obtain ⟨vs,e⟩:=Z9;exact⟨vs,he _ _ (fun q=>by rw[q] at e;exact iE _ (eK e)) e⟩,id,rfl,rfl⟩
 have m0:=mx.pu p0
 have pt:=mx.cx.Yz.pt
 refine ah (fT (kX (cV m0 (hk x ay) (g1.up (p0.up pt) _ _) fun sa pa ma=>?_)))
 have ua:=pa.up m0.cx.Yz.pt fun a h=>m0.ZD h
 refine ah (fT (kX (cV ma (hk y (.tail _ (.head _))) ((g2.up (p0.up pt) _ _).up ua _ _) fun sb pb mb=>?_)))
 exact bg (hQ sb (((YF.YB p0).trans pa).trans pb) mb)
theorem gK (mx:Mx w k A X env sc ρ μ s){x:Str}{px pos:UK}{e:PySem.Expr}{d:D}{Q:zh→aE→Prop}{E:bX→aE→Prop}(hk:LC sc x)(he:cY e=false)(hv:Sto w A X e env d s)
  (hQ:∀s',YF (Own env sc) s s'→Mx w k A X env sc ((x,d)::ρ) μ s'→Q .next s'):cE (cS PW w) A (Nn (.Assign [.Name x px] e pos) env) Q E s:=
 mR mx.cx rfl (fun y hy=>bS.mp hy▸hk) rfl he hv fun s' pb c'=>hQ s' pb (mx.step pb c')
set_option maxHeartbeats 8000000 in
theorem rM {ab:List Nat}{t:Tr}(ih:∀kd∈t.kids,∃n',n'+1≤n∧xU w ab kd n')(hab:ab.length=7)(hfit:oH ab t)(hsz:t.size≤7):xU w ab t n:=by
 intro A X s vs hA hX hB rr Q E hQ
 have hv:vs.length=2:=rr.length
 have hA':Zv (15+n+1) A:=hA.mono (by exact TQ)
 refine dq (k:=15+n) hA' hX hB (show Zd.lookup 216=some (bU "_law_sets",dZ "_law_sets",scS) from by kernel_rfl) (ps:=psN "_law_sets") (by decide +kernel) (fun fd e1 e2 e3=>fQ e1 e2 e3 fun fd=>?_) rfl rr fun env X1 s1 st=>?_
 ·obtain ⟨a,b,h⟩:=xM hv;exact h▸rfl
 have hH:=(eZ w).mono (K':=15+n) (by exact Ux)
 have m1:=Mx.of st.cx
 have hp:t.root<7:=by cases t<;>exact hfit.1
 have a1p:kidsOf ab t.root=t.kids.map Tr.root:=by
  cases t with
  |leaf p=>exact hfit.2
  |node p l r=>exact hfit.2.1
 have a4S:(aq ab).length≤1000:=by unfold aq;rw[bP];exact DK hab
 have hat:∀{q:Nat},q<7→(aq ab)[q]?=some (.int (ab.getD q 0:Nat)):=fun {q} hq=>by unfold aq;rw[gu,bq,c8 (by exact om3 hab hq)];rfl
 refine aH (gK m1 (x:=sK) (d:=.lst (aq (kidsOf ab t.root))) (.inl (by kernel_rfl)) (by kernel_rfl) ?_ fun s2 Zc m2=>?_)
 ·have e0:(bG 1 6).flatMap (fun d=>aL (decide (ab.getD d.toInt.toNat 0=t.root)&&true) [d])=aq (kidsOf ab t.root):=qP ab t.root [1,2,3,4,5,6]
  rw[←e0]
  refine fZ (f:=fun d=>(decide (ab.getD d.toInt.toNat 0=t.root)&&true,d)) m1.cx (by kernel_rfl) (fun x hx=>?_) (by kernel_rfl) (az hH _ _ (l:=bG 1 6) (cs:=[]) (by rfl) trivial m1.cx (by kernel_rfl) (fun d Z=>.inl (by kernel_rfl))) (fun d hd=>⟨_,rfl,fun X' cenv s' cx=>⟨cD ?_ (aW _),fun Z=>?_⟩⟩) (by rw[c9];decide)
  ·have hx:x=af "k":=bS.mp hx
   subst hx
   exact .inl (by kernel_rfl)
  ·obtain ⟨i,hi1,hi7,rfl⟩:∃i:Nat,1≤i∧i<7∧d=.int i:=by
    have:d∈[D.int 1,.int 2,.int 3,.int 4,.int 5,.int 6]:=hd
    simp only[dP,eu,or_false] at this
    rcases this with h|h|h|h|h|h
    ·exact⟨1,by exact a2N,by exact a2O,h⟩
    ·exact⟨2,by exact a4g,by exact a2P,h⟩
    ·exact⟨3,by exact a2I,by exact a2Q,h⟩
    ·exact⟨4,by exact a4h,by exact a2R,h⟩
    ·exact⟨5,by exact a4i,by exact a2S,h⟩
    ·exact⟨6,by exact a4j,by exact a1W,h⟩
   have e1:decide (ab.getD ((D.int (i:Int)).toInt.toNat) 0=t.root)=decide (((ab.getD i 0:Nat):Int)=(t.root:Int)):=by
    show decide (ab.getD i 0=t.root)=_
    exact decide_eq_decide.mpr (by exact R1)
   show fM w _ _ (decide (ab.getD ((D.int (i:Int)).toInt.toNat) 0=t.root)) s'
   rw[e1]
   exact(aM (op:=.Eq) (cs:=[]) (d:=.bool (decide (((ab.getD i 0:Nat):Int)=(t.root:Int)))) cx.a cx.Yz (b8 cx (l:=aq ab) (n:=i) (aa hH cx (cs:=[]) (by rfl) trivial) (aa hH cx (cs:=[]) (by rfl) trivial) a4S (hat hi7) aU) (aa hH cx (d:=.int (t.root:Int)) (cs:=[]) (by rfl) trivial) rfl trivial (by kernel_rfl)).test _ rfl
  ·exact aa hH cx (cs:=[]) (by rfl) trivial
 rw[a1p] at m2
 cases t with
 |leaf p=>
  have m2:Mx w (15+n) (A.deeper env) X1 env scS ((sK,.lst [])::(psN "_law_sets").zip [.int p,.lst (aq ab)]) [] s2:=m2
  refine aH (A0 ?_)
  refine dY hH m2.cx (b:=true) (cs:=[dO (.lst []) (.lst [])]) (by rfl) (by rfl) ⟨⟨trivial,trivial,by decide,by decide⟩,trivial⟩ s2 (Pu.refl _) _ _ fun s3 u3=>?_
  simp only[if_true]
  have m3:=m2.pu u3
  refine aH (nk ((aa hH m3.cx (d:=.lst [.lst [.int p]]) (cs:=[]) (by rfl) trivial).now _ _ fun v s4 u4 r4=>?_))
  have pu:Pu s s4:=st.back (as:=[]) (((Zc.mono fun a h=>.inl h).trans (.YB u3)).trans (.YB u4)) (by simp)
  exact hQ v s4 pu (r4.up ⟨fun Z Z e Z=>e,fun a Z Z h=>st.grow a h⟩ _ _)
 |node p l r=>
  have m2:Mx w (15+n) (A.deeper env) X1 env scS ((sK,.lst [.int (l.root:Int),.int (r.root:Int)])::(psN "_law_sets").zip [.int p,.lst (aq ab)]) [] s2:=m2
  refine aH (A0 ?_)
  refine dY hH m2.cx (b:=false) (cs:=[dO (.lst [.int (l.root:Int),.int (r.root:Int)]) (.lst [])]) (by rfl) (by rfl) ⟨⟨⟨trivial,trivial,trivial⟩,trivial,b9 rfl,b9 rfl⟩,trivial⟩ s2 (Pu.refl _) _ _ fun s3 u3=>?_
  simp only[fh,if_false]
  have m3:=m2.pu u3
  refine dS ?_
  have hne:r.root≠l.root:=by
   have h0:(kidsOf ab p).Nodup:=LY AQ (by decide)
   rw[show kidsOf ab p=[l.root,r.root] from hfit.2.1] at h0
   simp at h0
   exact fun q=>h0 q.symm
  obtain ⟨nl,hnl,ihl⟩:=ih l (by simp[Tr.kids])
  obtain ⟨nr,hnr,ihr⟩:=ih r (by simp[Tr.kids])
  have e0:([D.int (l.root:Int),.int (r.root:Int)]).flatMap (fun d=>aL true [D.lst (aJ (if d.toInt=(l.root:Int) then Yy l else Yy r))])=[.lst (aJ (Yy l)),.lst (aJ (Yy r))]:=by
   have h1:¬((r.root:Int)=(l.root:Int)):=by exact WL hne
   show [D.lst (aJ (if(l.root:Int)=l.root then Yy l else Yy r))]++([D.lst (aJ (if(r.root:Int)=l.root then Yy l else Yy r))]++[])=_
   rw[if_pos rfl,if_neg h1];rfl
  refine aH (xD ?_ (by rfl) (by rfl))
  refine(aV.now (X:=X1) (d:=.lst [.lst (aJ (Yy l)),.lst (aJ (Yy r))]) ?_) _ _ fun v s4 u4 r4=>?_
  ·rw[←e0]
   refine bJ (f:=fun d=>(true,D.lst (aJ (if d.toInt=(l.root:Int) then Yy l else Yy r)))) m3.cx (by kernel_rfl) (fun x hx=>?_) (by kernel_rfl) (az hH _ _ (l:=[.int (l.root:Int),.int (r.root:Int)]) (cs:=[]) (by rfl) trivial m3.cx (by kernel_rfl) (fun d Z=>.inl (by kernel_rfl))) (fun d hd=>⟨_,rfl,fun X' cenv s' cx=>⟨aW _,fun Z=>?_⟩⟩) (by rw[c9];simp)
   ·have hx:x=af "kid":=bS.mp hx
    subst hx
    exact .inl (by kernel_rfl)
   ·intro s5 u5 Q5 E5 hQ5
    have cx5:=cx.pu u5
    refine dM cx5 (a:=216) (params:=bU "_law_sets") (body:=dZ "_law_sets") (sc':=scS) (by kernel_rfl) (by kernel_rfl) (by kernel_rfl) (ds:=[d,.lst (aq ab)]) (args_cons cx5.Yz rfl (aa hH cx5 (cs:=[]) (by rfl) trivial) (args_cons cx5.Yz rfl (aa hH cx5 (cs:=[]) (by rfl) trivial) args_nil))
     (fun e he=>by simp only[dP,eu,or_false] at he;rcases he with rfl|rfl<;>rfl) (fun h=>by cases h) fun vs s6 u6 r6=>?_
    have cx6:=cx5.pu u6
    simp only[dP,eu,or_false] at hd
    rcases hd with rfl|rfl
    ·refine ihl (cx6.a.mono (by exact Kh hnl)) cx6.Yz cx6.base r6 _ _ fun v7 s7 u7 r7=>hQ5 v7 s7 (u6.trans u7) ?_
     show Rep w s7.heap X' (D.lst (aJ (if(l.root:Int)=l.root then Yy l else Yy r))) v7
     rw[if_pos rfl];exact r7
    ·refine ihr (cx6.a.mono (by exact Kh hnr)) cx6.Yz cx6.base r6 _ _ fun v7 s7 u7 r7=>hQ5 v7 s7 (u6.trans u7) ?_
     show Rep w s7.heap X' (D.lst (aJ (if(r.root:Int)=l.root then Yy l else Yy r))) v7
     rw[if_neg (by exact WL hne)];exact r7
  show cE _ _ (z0 _ _ _) _ _ _
  have m4:=m3.pu u4
  refine qe m4 (fun z hz=>?_) r4 fun s5 pb5 m5=>?_
  ·simp only[dP,eu,or_false] at hz
   rcases hz with rfl|rfl
   ·exact .inl (by kernel_rfl)
   ·exact .inr (by kernel_rfl)
  have hl:=kZ l
  have hr:=kZ r
  have h7:(Tr.node p l r).size≤7:=hsz
  simp only[Tr.size] at h7
  have bl:2 ^ l.size≤2 ^ 7:=lI (by exact a0H) (by exact Ka h7)
  have br:2 ^ r.size≤2 ^ 7:=lI (by exact a0H) (by exact K8 h7)
  have dl:(aJ (Yy l)).length≤128:=by unfold aJ;rw[bP];exact IK hl bl
  have dr:(aJ (Yy r)).length≤128:=by unfold aJ;rw[bP];exact IK hr br
  have eA:aJ (Yy l)++aJ (Yy r)=aJ (Yy l++Yy r):=by unfold aJ;rw[g9]
  have a3O:=jh
  have hmul:(Yy l).length*(Yy r).length≤128*128:=E6 (by exact IK hl bl) (by exact IK hr br)
  refine aH (nk ((aQ (op:=.Add) (a:=.lst (aJ ((Yy l++Yy r).map (p::·)))) (b:=.lst (aJ ((Yy l).flatMap fun a=>(Yy r).map fun b=>a++b))) (d:=.lst (aJ ((Yy l++Yy r).map (p::·))++aJ ((Yy l).flatMap fun a=>(Yy r).map fun b=>a++b))) (cs:=[(aJ ((Yy l++Yy r).map (p::·))).length+(aJ ((Yy l).flatMap fun a=>(Yy r).map fun b=>a++b)).length≤sizeLine]) m5.cx.Yz ?_ ?_ rfl ⟨?_,trivial⟩).now _ _ fun v6 s6 u6 r6=>?_))
  ·rw[←rK,←eA]
   refine bJ (f:=fun d=>(true,D.lst (.int (p:Int)::Zz d))) m5.cx (by kernel_rfl) (fun x hx=>?_) (by kernel_rfl) (az hH _ _ (l:=aJ (Yy l)++aJ (Yy r)) (cs:=[(aJ (Yy l)).length+(aJ (Yy r)).length≤sizeLine]) (by rfl) ⟨by rw[c9];exact Ws dl dr,trivial⟩ m5.cx (by kernel_rfl) (fun d Z=>.inl (by kernel_rfl))) (fun d hd=>⟨_,rfl,fun X' cenv s' cx=>⟨aW _,fun Z=>?_⟩⟩) (by rw[fm,c9];exact Ws dl dr)
   ·have hx:x=af "one":=bS.mp hx
    subst hx
    exact .inl (by kernel_rfl)
   ·rw[eA] at hd
    obtain ⟨o,ho,rfl⟩:=fG hd
    have ol:o.length≤7:=by
     rcases eW.mp ho with ho|ho
     ·have:=fX l o ho;exact OJ h7 this
     ·have:=fX r o ho;exact Oz h7 this
    exact aa hH cx (cs:=[1+(aq o).length≤sizeLine]) (by rfl) ⟨by unfold aq;rw[bP,c9];exact Qw ol,trivial⟩
  ·rw[←jy]
   refine Sto.ev2 (rR (g:=fun Z=>aJ (Yy r)) (f:=fun d d2=>.lst (Zz d++Zz d2)) m5.cx (by kernel_rfl) (fun x hx=>?_) (fun x hx=>?_) (fun x hx=>?_) (by kernel_rfl) (by kernel_rfl) (az hH _ _ (l:=aJ (Yy l)) (cs:=[]) (by rfl) trivial m5.cx (by kernel_rfl) (fun d Z=>.inl (by kernel_rfl)))
    (fun d hd=>⟨_,rfl,fun X' cenv s' cx=>⟨az hH _ _ (l:=aJ (Yy r)) (cs:=[]) (by rfl) trivial cx (by kernel_rfl) (fun d Z=>.inl (by kernel_rfl)),fun d2 hd2=>⟨_,rfl,fun X'' s'' YW=>?_⟩⟩⟩) (by rw[a3O,c9];exact QZ hmul))
   ·have hx:x=af "one":=bS.mp hx
    subst hx
    exact .inl (by kernel_rfl)
   ·have hx:x=af "other":=bS.mp hx
    subst hx
    exact .inl (by kernel_rfl)
   ·have hx:x=af "other":=bS.mp hx
    subst hx
    decide +kernel
   ·obtain ⟨o,ho,rfl⟩:=fG hd
    obtain ⟨o2,ho2,rfl⟩:=fG hd2
    have:=fX l o ho
    have:=fX r o2 ho2
    exact aa hH YW (cs:=[(aq o).length+(aq o2).length≤sizeLine]) (by rfl) ⟨by unfold aq;rw[bP,bP,c9];exact Yp h7 (by assumption) this,trivial⟩
  ·unfold aJ
   have:=a3O (Yy r) (Yy l)
   rw[jy] at this
   unfold aJ at this
   rw[this,bP,bP,fm,c9]
   exact XD hl hr bl br hmul this
  ·have pu:Pu s s6:=st.back (as:=[]) (((((Zc.mono fun a h=>.inl h).trans (.YB u3)).trans (.YB u4)).trans (pb5.mono fun a h=>.inl h)).trans (.YB u6)) (by simp)
   have eF:aJ ((Yy l++Yy r).map (p::·))++aJ ((Yy l).flatMap fun a=>(Yy r).map fun b=>a++b)=aJ (Yy (.node p l r)):=by
    simp[aJ,Yy,g9]
   rw[eF] at r6
   exact hQ v6 s6 pu (r6.up ⟨fun Z Z e Z=>e,fun a Z Z h=>st.grow a h⟩ _ _)
theorem Aq {ab:List Nat}(hab:ab.length=7):∀(m:Nat) (t:Tr),t.ht≤m→t.size≤7→oH ab t→xU w ab t m:=by
 intro m
 induction m with
 |zero=>
  intro t h0 h7 hT
  refine rM (fun k hk=>?_) hab hT h7
  have:=Tr.a0t hk
  exact(KH h0 this).elim
 |succ m ih=>
  intro t h0 h7 hT
  refine rM (fun k hk=>⟨m,gz _,ih k ?_ ?_ ?_⟩) hab hT h7
  ·have:=Tr.a0t hk
   exact Kv h0 this
  ·cases t with
   |leaf p=>cases hk
   |node p l r=>
    simp only[Tr.kids,dP,eu,or_false] at hk
    simp only[Tr.size] at h7
    rcases hk with rfl|rfl<;>(first|exact K8 h7|exact Ka h7)
  ·cases t with
   |leaf p=>cases hk
   |node p l r=>
    simp only[Tr.kids,dP,eu,or_false] at hk
    obtain ⟨_,_,h1,h2⟩:=hT
    rcases hk with rfl|rfl
    ·exact h1
    ·exact h2
end
end
section
noncomputable def rI {α:Type}(b:Nat→Nat→Bool):KasT α→α
 | .ret a=>a
 | .ask i j k=>rI b (k (b i j))
noncomputable def okK {α:Type}(n:Nat)(b:Nat→Nat→Bool):KasT α→Bool
 | .ret _=>true
 | .ask i j k=>decide (i<n)&&(decide (j<n)&&(decide (i≠j)&&okK n b (k (b i j))))
theorem wp_run {α:Type}{n:Nat}{b:Nat→Nat→Bool}{cmp:Nat→Nat→(Bool→aE→Prop)→aE→Prop}{Q:α→aE→Prop}{s:aE}(hc:∀i j (C:Bool→aE→Prop),i<n→j<n→i≠j→C (b i j) s→cmp i j C s):
  ∀(t:KasT α),okK n b t=true→Q (rI b t) s→t.kasWp cmp Q s
 | .ret a,_,h=>h
 | .ask i j k,ho,h=>by
  have ho:=cy.mp ho
  have h1:=cy.mp ho.2
  have h2:=cy.mp h1.2
  exact hc i j _ (of_decide_eq_true ho.1) (of_decide_eq_true h1.1) (of_decide_eq_true h2.1) (wp_run hc (k (b i j)) h2.2 h)
section
variable {w:gp}{k n:Nat}{A:Around}{X X':Addr→Prop}{s s':aE}{E:bX→aE→Prop}
theorem ud {a:Addr}{vs:List bX}{n:Nat}{P:PySem.Fin→aE→Prop}{κ:SortKind}{b:Nat→Nat→Bool}(ho:s.heap.get? a=some (se "list" vs.toArray n))(h2:2≤vs.length)(h64:vs.length<64)
  (hk:∀(s':aE) (Q:SortKind→aE→Prop),(∀b o,b≠a→s.heap.get? b=some o→s'.heap.get? b=some o)→Q κ s'→cE (cS PW w) A (keyKind' vs.toArray) Q (fun Z Z=>False) s')
  (ha:∀(s':aE),(∀b o,b≠a→s.heap.get? b=some o→s'.heap.get? b=some o)→∀i j (C:Bool→aE→Prop),i<vs.length→j<vs.length→i≠j→C (b i j) s'→kas_ask PW w A κ vs i j C s')
  (hok:okK vs.length b (tF vs.length)=true) (hsz:(rI b (tF vs.length)).size=vs.length)
  (h:P (.done (.ret .none)) {s with heap:=CL s.heap a vs (HK ((rI b (tF vs.length)).toList.map fun i=>vs.getD i kG))}) :
  cE (cS PW w) A (A9.«list.sort» ⟨[.ref a],[]⟩) P E s:=by
 have ha':a<s.heap.objs.size:=eK ho
 obtain ⟨e1,ho1⟩:∃e1,(s.heap.update a (rX fun Z=>(#[]:Array bX))).get? a=some (se "list" #[] e1):=⟨_,HU ho fun Z=>#[]⟩
 have ho6:(((s.heap.update a (rX fun Z=>#[])).push (se "tuple" vs.toArray 0)).push (se "list" #[] 0)).get? a=some (se "list" #[] e1):=b6 _ (b6 _ ho1)
 have keep:∀b o,b≠a→s.heap.get? b=some o→(((s.heap.update a (rX fun Z=>#[])).push (se "tuple" vs.toArray 0)).push (se "list" #[] 0)).get? b=some o:=fun b o hb e=>
  b6 _ (b6 _ ((gg _ _ (i7 hb)).trans e))
 rw[list_sort_plain]
 refine ah (listItems_at ho rfl ?_)
 refine ah (listUpdate_at ho rfl ?_ (by rw[nh,c9];exact Ky h2 h64 hsz) (qV _))
 refine ah (seqEpoch_at ho1 rfl ?_)
 refine ah (JU ?_ (by show vs.length≤_;rw[c9];exact Ky h2 h64 hsz))
 refine ah (CH ?_ (qV _))
 refine fT ?_
 show cE (cS PW w) A _ P E {s with heap:=((s.heap.update a (rX fun Z=>(#[]:Array bX))).push (se "tuple" vs.toArray 0)).push (se "list" #[] 0)}
 dsimp only
 have hn2:¬vs.toArray.size<2:=by rw[nh];exact S9 h2 h64 hsz
 rw[if_neg hn2,if_neg hn2]
 refine ah (qA (hk _ (fun κ' s0=>κ'=κ∧s0={s with heap:=((s.heap.update a (rX fun Z=>(#[]:Array bX))).push (se "tuple" vs.toArray 0)).push (se "list" #[] 0)}) keep ⟨rfl,rfl⟩) (fun κ' s0 hk'=>?_) fun Z Z x=>x.elim)
 obtain ⟨rfl,rfl⟩:=hk'
 refine ah (qA (kat_run (Q:=fun st' s'=>s'={s with heap:=((s.heap.update a (rX fun Z=>(#[]:Array bX))).push (se "tuple" vs.toArray 0)).push (se "list" #[] 0)}∧arrOf st'=(rI b (tF vs.length)).map (kas_item (vs.toArray.zip vs.toArray))∧failedOf st'=none)
  (G:=fun p s'=>p=rI b (tF vs.length)∧s'={s with heap:=((s.heap.update a (rX fun Z=>(#[]:Array bX))).push (se "tuple" vs.toArray 0)).push (se "list" #[] 0)})
  rfl h2 h64 (fun p' st' s' a1 a2 a3 a4=>⟨a4.2,a4.1▸a2,a3⟩) (wp_run (ha _ keep) _ hok ⟨rfl,rfl⟩)) ?_ fun Z Z e=>e)
 rintro ⟨⟨⟩,st'⟩ s' ⟨rfl,har,hf⟩
 dsimp only
 have hout:=kat_snds rfl har
 have hs2:(HK ((rI b (tF vs.length)).toList.map fun i=>vs.getD i kG)).size=vs.length:=by rw[nh,bP,iS,hsz]
 rw[hout]
 refine ah (seqEpoch_at ho6 rfl ?_)
 refine ah (listUpdate_at ho6 rfl ?_ (qV _) (ai (ee hs2) (by rw[c9];exact R6 h2 h64 hsz hs2)))
 rw[hf]
 simp only[bne_self_eq_false,fh,if_false]
 exact bg h
end
end
section
noncomputable def cN (zs:List (Nat×Str)):List D:=zs.map fun z=>.tup [.int (z.1:Int),.str z.2]
noncomputable def ltZ (zs:List (Nat×Str))(i j:Nat):Bool:=decide (((zs.getD i (0,Str.empty)).1:Int)<((zs.getD j (0,Str.empty)).1:Int))
noncomputable def uD (zs:List (Nat×Str)):List (Nat×Str):=(rI (ltZ zs) (tF zs.length)).toList.map fun i=>zs.getD i (0,Str.empty)
structure uO (zs:List (Nat×Str)):Prop where
 l2:2≤zs.length
 l64:zs.length<64
 ok:okK zs.length (ltZ zs) (tF zs.length)=true
 sz:(rI (ltZ zs) (tF zs.length)).size=zs.length
 lt:∀i∈(rI (ltZ zs) (tF zs.length)).toList,i<zs.length
 ne:(zs.map (fun x=>x.1)).Nodup
section
variable {w:gp}{k n:Nat}{A:Around}{X X':Addr→Prop}{s s':aE}{h:Heap}
theorem a0v:∀{zs:List (Nat×Str)} {vs:List bX},aX w h X (cN zs) vs→∃fs,KatTups h vs fs∧(∀f∈fs,∃i t,f=.int i t)∧fs.length=vs.length
 | [],vs,r=>by
  cases (show vs=[] from r)
  exact⟨[],KatTups.nil,by simp,rfl⟩
 |z::zs,vs,r=>by
  obtain ⟨v,t,rfl,⟨T,us,rfl,⟨n,hT⟩,_,hr⟩,r2⟩:=r
  obtain ⟨v1,t1,e1,⟨tk,rfl⟩,_⟩:=hr
  obtain ⟨fs,h1,h2,h3⟩:=a0v (zs:=zs) r2
  refine⟨.int z.1 tk::fs,KatTups.cons hT rfl rfl (by rw[←nt,e1];rfl) h1,?_,by simp[h3]⟩
  intro f hf
  rcases dP.mp hf with rfl|hf
  ·exact⟨_,_,rfl⟩
  ·exact h2 f hf
theorem mq {zs:List (Nat×Str)}{vs:List bX}(r:aX w h X (cN zs) vs){i:Nat}(hi:i<zs.length):∃T us n tk v2,vs.getD i kG=.ref T∧h.get? T=some {cls:=.type "tuple",data:=.seq us n}∧us=#[.int ((zs.getD i (0,Str.empty)).1:Int) tk,v2]∧
  Rep w h X (.tup [.int ((zs.getD i (0,Str.empty)).1:Int),.str (zs.getD i (0,Str.empty)).2]) (.ref T):=by
 have e:(cN zs)[i]?=some (.tup [.int ((zs.getD i (0,Str.empty)).1:Int),.str (zs.getD i (0,Str.empty)).2]):=by
  unfold cN
  rw[gu,bq,c8 hi];rfl
 obtain ⟨v,hv,rv⟩:=r.get e
 have rv':=rv
 obtain ⟨T,us,rfl,⟨n,hT⟩,_,v1,t1,e1,⟨tk,rfl⟩,v2,t2,rfl,_,rfl⟩:=rv
 exact⟨T,us,n,tk,v2,by rw[bq,hv];rfl,hT,by apply AU;simpa using e1,rv'⟩
set_option maxHeartbeats 4000000 in
theorem sU (hX:Z6 X s){zs:List (Nat×Str)}(ok:uO zs){v:bX}(r:Rep w s.heap X (.lst (cN zs)) v):Ev w A X (call (.builtin "sorted") [v]) (.lst (cN (uD zs))) s:=by
 intro Q E hQ
 have r0:=r
 obtain ⟨l,us,rfl,⟨n0,hl⟩,hlx,hr⟩:=r
 generalize hvs:us.toList=vs at hr
 have eus:us=vs.toArray:=by rw[←hvs]
 subst eus
 have hlen:vs.length=zs.length:=by have:=hr.length;unfold cN at this;simpa using this
 obtain ⟨o2,o64,ook,osz,olt,one⟩:=ok
 rw[←hlen] at o2 o64 ook osz
 have hli:s.heap.IsList l vs.toArray:=⟨_,hl,rfl,n0,rfl⟩
 refine Calls.call_function_entry kind_sorted plain_sorted entry_sorted (args_sorted1 _) ?_
 unfold A9.«sorted»
 refine ah (m:=checkCount "sorted" 1 1 _) (bg ?_)
 refine ah (collect_list hli ?_ (by rw[c9];exact Kd hlen o2 o64 osz))
 refine ah (CH ?_ (by rw[c9];exact Kd hlen o2 o64 osz))
 have hsz:((s.heap.push (se "list" #[] 0)).update s.heap.objs.size (rX (·++vs.toArray))).objs.size=s.heap.objs.size+1:=by
  rw[Heap.size_update,size_push']
 have hoL:(((s.heap.push (se "list" #[] 0)).update s.heap.objs.size (rX (·++vs.toArray))).push (se "list" vs.toArray 0)).get? (s.heap.objs.size+1)=some (se "list" vs.toArray 0):=by
  rw[←hsz];exact ck _ rfl
 have keep:∀b o,s.heap.get? b=some o→(((s.heap.push (se "list" #[] 0)).update s.heap.objs.size (rX (·++vs.toArray))).push (se "list" vs.toArray 0)).get? b=some o:=fun b o q=>by
  have hlt:b<s.heap.objs.size:=eK q
  refine b6 _ ?_
  rw[gg _ _ (oQ hlt)]
  exact b6 _ q
 have nL:∀b o,s.heap.get? b=some o→b≠s.heap.objs.size+1:=fun b o q=>xy (x6 (eK q))
 show cE _ _ _ _ _ {s with heap:=((s.heap.push (se "list" #[] 0)).update s.heap.objs.size (rX (·++vs.toArray))).push (se "list" vs.toArray 0)}
 rw[hsz]
 have upS:∀{s':aE},(∀b o,b≠s.heap.objs.size+1→(((s.heap.push (se "list" #[] 0)).update s.heap.objs.size (rX (·++vs.toArray))).push (se "list" vs.toArray 0)).get? b=some o→s'.heap.get? b=some o)→Up X X s.heap s'.heap:=fun hk=>⟨fun a o e Z=>hk a o (nL a o e) (keep a o e),fun Z Z Z h=>h⟩
 refine ah (fT (kP slot_list_sort ⟨_,hoL,rfl⟩ entry_list_sort (ud (s:={s with heap:=((s.heap.push (se "list" #[] 0)).update s.heap.objs.size (rX (·++vs.toArray))).push (se "list" vs.toArray 0)}) (κ:=tuples' true) (b:=ltZ zs) hoL o2 o64 (fun s' Q' hk hq=>?_) (fun s' hk i j C hi hj hij hC=>?_) (by rw[hlen] at ook ⊢;exact ook) (by rw[hlen] at osz ⊢;exact osz) ⟨_,rfl,?_⟩) (args_list_sort _)))
 ·obtain ⟨fs,h1,h2,h3⟩:=a0v (hr.up (upS hk))
  refine kat_kind (T:=.type "int") h1 (by exact Qc hlen o2 o64 osz h3) (fun f hf=>?_) (by decide) ?_
  ·obtain ⟨i,t,rfl⟩:=h2 f hf
   exact .now
  ·exact hq
 ·have r':=hr.up (upS hk)
  obtain ⟨T,us,n,tk,v2,e1,e2,rfl,_⟩:=mq r' (i:=i) (by exact xO hlen osz hi)
  obtain ⟨T',us',n',tk',v2',e1',e2',rfl,_⟩:=mq r' (i:=j) (by exact xO hlen osz hj)
  unfold kas_ask
  rw[e1,e1']
  refine kat_lt e2 rfl e2' rfl (kat_cons (Cs ?_))
  have hne:(((zs.getD i (0,Str.empty)).1:Int)==((zs.getD j (0,Str.empty)).1:Int))=false:=by
   have hi':i<zs.length:=by exact xO hlen osz hi
   have hj':j<zs.length:=by exact xO hlen osz hj
   have key:∀a b,a<b→b<zs.length→((zs.getD a (0,Str.empty)).1:Int)≠((zs.getD b (0,Str.empty)).1:Int):=fun a b hab hb=>by
    have:=mP.mp one a b (by simp;exact Nh hlen osz hab hb) (by simpa using hb) hab
    rw[AM,AM] at this
    rw[bq,bq,c8 (by exact Nh hlen osz hab hb),c8 hb]
    intro q
    have q':((zs[a]'(by exact Nh hlen osz hab hb)).1:Int)=((zs[b]'hb).1:Int):=q
    exact this (Lv q')
   rcases Nat.lt_or_gt_of_ne hij with q|q
   ·simpa using key i j q hj'
   ·simpa using (key j i q hi').symm
  rw[hne]
  exact kat_no (oneLt_int hC)
 ·refine bg ⟨_,rfl,?_⟩
  generalize hH1:(((s.heap.push (se "list" #[] 0)).update s.heap.objs.size (rX (·++vs.toArray))).push (se "list" vs.toArray 0))=h1 at*
  generalize hO:HK ((rI (ltZ zs) (tF vs.length)).toList.map fun i=>vs.getD i kG)=out
  have hD:∃c,(CL h1 (s.heap.objs.size+1) vs out).get? (s.heap.objs.size+1)=some (se "list" out c):=by
   unfold CL
   have g1:=HU hoL fun Z=>(#[]:Array bX)
   have g2:=b6 (se "list" #[] 0) (b6 (se "tuple" vs.toArray 0) g1)
   exact⟨_,HU g2 fun Z=>out⟩
  have kp:∀b o,s.heap.get? b=some o→(CL h1 (s.heap.objs.size+1) vs out).get? b=some o:=fun b o e=>by
   have hb:=nL b o e
   unfold CL
   rw[gg _ _ (i7 hb)]
   refine b6 _ (b6 _ ?_)
   rw[gg _ _ (i7 hb)]
   exact keep b o e
  refine hQ _ _ (Pu.keep (n:=s.toks) kp) ?_
  have hr2:aX w (CL h1 (s.heap.objs.size+1) vs out) X (cN zs) vs:=hr.up ⟨fun a o e Z=>kp a o e,fun Z Z Z h=>h⟩
  refine⟨_,out,rfl,hD,fun q=>by obtain ⟨o,ho⟩:=hX.lt _ q;exact nL _ o ho rfl,?_⟩
  clear hD kp
  generalize CL h1 (s.heap.objs.size+1) vs out=hf at hr2 ⊢
  rw[←hO,hlen]
  unfold uD
  show aX w _ X (cN _) (List.map _ _)
  generalize (rI (ltZ zs) (tF zs.length)).toList=is at olt
  clear hO
  induction is with
  |nil=>exact aX.nil
  |cons i is ih=>
   obtain ⟨T,us,n,tk,v2,e1,_,_,rT⟩:=mq hr2 (i:=i) (olt i ay)
   unfold cN
   rw[dc,dc,dc,e1]
   exact aX.cons rT (ih fun j hj=>olt j (bE _ hj))
end
end
section
section
variable {w:gp}{k n:Nat}{A:Around}{X X':Addr→Prop}{s s':aE}{h:Heap}{E:bX→aE→Prop}
noncomputable def w6 (h:Heap)(v:bX)(x:Int×Int):Prop:=∃a t1 t2 z n,v=.ref a∧h.get? a=some {cls:=.type "tuple",data:=.seq #[.int x.1 t1,.int x.2 t2,z] n}
theorem MK {u v:bX}{x y:Int×Int}{Q:bX→aE→Prop}(ha:w6 s.heap u x)(hb:w6 s.heap v y)(hne:x≠y)(hu:A.units<cLine)(hQ:Q (.bool (keyLt x y)) s):cE (cS PW w) A (KO .Lt u v) Q E s:=by
 obtain ⟨a,t1,t2,z,n,rfl,ha⟩:=ha
 obtain ⟨b,u1,u2,z',m,rfl,hb⟩:=hb
 have hTa:s.TypeIs (.ref a) "tuple":=⟨_,ha,rfl⟩
 have hTb:s.TypeIs (.ref b) "tuple":=⟨_,hb,rfl⟩
 refine DF hTa hTb OW (kP OW hTa F.entry_tuple_lt ?_ (F.args_tuple_lt_2 _ _)) hu
 show cE _ _ (AX (.ref b) (.type "tuple") >>= _) _ _ s
 refine ah (GH hTb IF ?_)
 simp only[xB,fh,if_false]
 refine ah (BE ha rfl ?_)
 refine ah (BE hb rfl ?_)
 refine ah ?_
 show cE _ _ (TN [(CO x.1 t1,CO y.1 u1),(CO x.2 t2,CO y.2 u2),(z,z')] _ _) _ _ s
 rw[kK]
 refine ah (ah (Cs ?_))
 by_cases h1:x.1=y.1
 ·rw[show(x.1==y.1)=true from by simpa using h1]
  simp only[xB,fh,if_false]
  refine bg ?_
  show cE _ _ (TN [(CO x.2 t2,CO y.2 u2),(z,z')] _ _) _ _ s
  rw[kK]
  refine ah (ah (Cs ?_))
  have h2:x.2≠y.2:=fun q=>hne (To h1 q)
  rw[show(x.2==y.2)=false from by simpa using h2]
  simp only[PA,if_true]
  refine ah (yT (ah ?_))
  show cE _ _ (wc .Lt (.int x.2 t2) (.int y.2 u2)) _ _ s
  refine lt_int (ah (bg (bg ?_)))
  refine bg (bg ⟨_,rfl,by simp,?_⟩)
  have e:keyLt x y=decide (x.2<y.2):=by unfold keyLt;rw[decide_eq_false (by exact Un h1),decide_eq_true h1];rfl
  rw[e] at hQ
  exact hQ
 ·rw[show(x.1==y.1)=false from by simpa using h1]
  simp only[PA,if_true]
  refine ah (yT (ah ?_))
  show cE _ _ (wc .Lt (.int x.1 t1) (.int y.1 u1)) _ _ s
  refine lt_int (ah (bg (bg ?_)))
  refine bg (bg ⟨_,rfl,by simp,?_⟩)
  have e:keyLt x y=decide (x.1<y.1):=by unfold keyLt;rw[decide_eq_false h1];simp
  rw[e] at hQ
  exact hQ
noncomputable def cM (key:Nat→Int×Int):Nat→Nat
 | 0=>0
 |j+1=>if keyLt (key (j+1)) (key (cM key j)) then j+1 else cM key j
theorem dF (key:Nat→Int×Int):∀j,cM key j≤j
 | 0=>gz _
 |j+1=>by
  unfold cM
  split
  ·exact gz _
  ·exact EL (dF key j)
theorem Dv {h0:Heap}{I S l:Addr}{vs:Array bX}{key:Nat→Int×Int}(hh:A.handled=none)(hu:A.units+1<cLine)(hl:h0.PlainList l vs)(hlI:l≠I)(hlS:l≠S)(hIS:I≠S)
  (hkey:∀i (hi:i<vs.size),w6 h0 vs[i] (key i)) (hnI:h0.get? I=none) (hnS:h0.get? S=none) (hinj:∀i j,i<vs.size→j<vs.size→i≠j→key i≠key j) {R:DO→aE→Prop} :
  ∀(k j:Nat) (s:aE) (c:Nat) (hj:j<vs.size),vs.size - (j+1)=k→s.heap.IsListIter I l (j+1)→(∀b o,h0.get? b=some o→s.heap.get? b=some o)→
  s.heap.get? S=some {cls:=.type "list",dict:=none,data:=.seq #[vs[cM key j]'(cK (dF key j) hj),vs[cM key j]'(cK (dF key j) hj)] c,slots:=#[]}→
  (∀h' tk (hn:cM key (vs.size - 1)<vs.size),(∀b o,h0.get? b=some o→h'.get? b=some o)→R (.ok (.ret vs[cM key (vs.size - 1)])) {s with heap:=h',toks:=tk})→
  A8 (cS PW w) A (.builtin "min.loop" ⟨[.ref I,.none,.ref S],[]⟩) R s:=by
 have hname:(QO "min"++QO ".loop":String)="min.loop":=by decide
 have up:∀{h':Heap},(∀b o,h0.get? b=some o→h'.get? b=some o)→∀{v x},w6 h0 v x→w6 h' v x:=fun kp v x Z9=>by obtain ⟨a,t1,t2,z,n,e,ha⟩:=Z9;exact⟨a,t1,t2,z,n,e,kp _ _ ha⟩
 intro k
 induction k with
 |zero=>
  intro j s c hj hk hit kp hS hR
  have hin:j=vs.size - 1:=by exact Ot hj hk
  refine wm GL ?_
  rw[CB tw _]
  show cE _ A.in1 (GW (.ref S) >>= _) _ _ s
  refine ah (kr hS rfl ?_)
  show cE _ A.in1 (QU (Ct (.ref I)) _ >>= _) _ _ s
  have hl':s.heap.PlainList l vs:=by obtain ⟨m,hm⟩:=hl;exact⟨m,kp _ _ hm⟩
  refine ah (EA (Cf (by first|exact hh|simpa using hh) hit hl'.isList (by simp;exact Hy hin) fun h' he=>?_))
  have hS':=he S _ hIS.symm hS
  have kp':∀b o,h0.get? b=some o→h'.get? b=some o:=fun b o e=>he b o (fun q=>by rw[q,hnI] at e;exact YD e) (kp b o e)
  show cE _ A.in1 (Lu S (fun Z=>#[]) >>= _) _ _ _
  refine ah ?_
  refine B9 hS' rfl (ah (D3 (bg ?_)))
  subst hin
  exact hR _ s.toks (cK (dF key _) hj) fun b o e=>(gg _ _ (fun q:S=b=>by rw[←q,hnS] at e;exact YD e)).trans (kp' b o e)
 |succ k ih=>
  intro j s c hj hk hit kp hS hR
  have hlt:j+1<vs.size:=by exact Q8 hj hk
  refine wm GL ?_
  rw[CB tw _]
  show cE _ A.in1 (GW (.ref S) >>= _) _ _ s
  refine ah (kr hS rfl ?_)
  show cE _ A.in1 (QU (Ct (.ref I)) _ >>= _) _ _ s
  have hl':s.heap.PlainList l vs:=by obtain ⟨m,hm⟩:=hl;exact⟨m,kp _ _ hm⟩
  refine ah (EA (sF hit hl'.isList (x:=vs[j+1]) (by simp[hlt]) fun h' hit' hs'=>?_))
  have hS':=hs'.extBut S _ hIS.symm hS
  have kp':∀b o,h0.get? b=some o→h'.get? b=some o:=fun b o e=>hs'.extBut b o (fun q=>by rw[q,hnI] at e;exact YD e) (kp b o e)
  show cE _ A.in1 (QU (M1 [vs[j+1],vs[j+1]] (KO .Lt vs[j+1] _ >>= _)) _ >>= _) _ _ _
  refine ah (EA (fT (ah (MK (s:={s with heap:=h'}) (x:=key (j+1)) (y:=key (cM key j)) (up kp' (hkey _ hlt)) (up kp' (hkey _ _)) (hinj _ _ hlt (cK (dF key j) hj) (by have:=dF key j;exact Tq this)) hu ?_))))
  refine ah (fT (A6 ?_))
  refine ah (D3 (bg ?_))
  cases hb:keyLt (key (j+1)) (key (cM key j)) with
  |true=>
   simp only[if_true]
   refine ah ?_
   refine B9 hS' rfl (ah (D3 ?_))
   rw[hname]
   have eb:cM key (j+1)=j+1:=by rw[cM,if_pos hb]
   refine bg ⟨Fc tw _,ih (j+1) _ _ hlt (by exact Y6 hk hlt eb) ?_ (fun b o e=>(gg _ _ (fun q:S=b=>by rw[←q,hnS] at e;exact YD e)).trans (kp' b o e)) (by simp only[eb];exact k8 _ hS' rfl) fun h2 tk hn kp2=>hR h2 tk hn kp2⟩
   obtain ⟨o,ho,r⟩:=hit'
   exact⟨o,(gg _ _ hIS.symm).trans ho,r⟩
  |false=>
   simp only[fh,if_false]
   refine ah (D3 ?_)
   rw[hname]
   have eb:cM key (j+1)=cM key j:=by rw[cM,if_neg (by rw[hb];simp)]
   exact bg ⟨Fc tw _,ih (j+1) _ c hlt (by exact Yl hk hlt) hit' kp' (by simp only[eb];exact hS') fun h2 tk hn kp2=>hR h2 tk hn kp2⟩
theorem Ck (hA:Zv k A)(hX:Z6 X s){L:List D}{v:bX}(r:Rep w s.heap X (.lst L) v){key:Nat→Int×Int}(hL:0<L.length)(hlen:L.length≤1000)(hkey:∀i,i<L.length→∃z,L[i]?=some (.tup [.int (key i).1,.int (key i).2,z]))
  (hinj:∀i j,i<L.length→j<L.length→i≠j→key i≠key j):Ev w A X (call (.builtin "min") [v]) (L.getD (cM key (L.length - 1)) .none) s:=by
 intro Q E hQ
 obtain ⟨l,vs,rfl,hl,hlx,hr⟩:=r
 have hsz:vs.size=L.length:=by have:=hr.length;simpa using this
 have hname:(QO "min"++QO ".loop":String)="min.loop":=by decide
 have hu:A.units+1+1<cLine:=by have:=hA.units;unfold cLine;exact Rw this
 have hkey':∀i (hi:i<vs.size),w6 s.heap vs[i] (key i):=fun i hi=>by
  obtain ⟨z,hz⟩:=hkey i (by exact Lx hsz hi)
  obtain ⟨x,hx,rx⟩:=hr.get hz
  rw[nt,mE hi] at hx
  obtain rfl:=aI hx
  obtain ⟨a,us,e0,⟨n,ha⟩,_,v1,t1,e1,⟨k1,rfl⟩,v2,t2,rfl,⟨k2,rfl⟩,v3,t3,rfl,_,rfl⟩:=rx
  have e2:us=#[.int (key i).1 k1,.int (key i).2 k2,v3]:=by apply AU;simpa using e1
  exact⟨a,k1,k2,v3,n,e0,e2▸ha⟩
 obtain ⟨n0,ho⟩:=id hl
 have hlI:l≠s.heap.objs.size:=xy (eK ho)
 refine call_function_tree F.kind_min F.plain_min F.entry_min (F.args_min1 _) ?_
 show cE _ A.in1 (DH "min" ["key","default"] 0 ⟨[],[]⟩ >>= _) _ _ s
 refine ah (C5 (show DH "min" ["key","default"] 0 ⟨[],[]⟩=AS [none,none] from rfl) ?_)
 refine ah (bg ?_)
 refine ah (EP hl.isList ?_)
 have a1H:(s.heap.push {cls:=.type "list_iterator",data:=.fields #[.ref l,.int 0 0]}).IsListIter s.heap.objs.size l 0:=⟨_,ck _ rfl,rfl,rfl⟩
 have k0:∀b o,s.heap.get? b=some o→(s.heap.push {cls:=.type "list_iterator",data:=.fields #[.ref l,.int 0 0]}).get? b=some o:=fun b o e=>b6 _ e
 have hsz1:(s.heap.push {cls:=.type "list_iterator",data:=.fields #[.ref l,.int 0 0]}).objs.size=s.heap.objs.size+1:=size_push' _ _
 generalize (s.heap.push {cls:=.type "list_iterator",data:=.fields #[.ref l,.int 0 0]})=h1 at a1H k0 hsz1
 refine ah (l7 ?_)
 rw[hname]
 have hS0:(h1.push {cls:=.type "list",data:=.seq #[]}).get? h1.objs.size=some {cls:=.type "list",data:=.seq #[]}:=ck _ rfl
 have hit1:(h1.push {cls:=.type "list",data:=.seq #[]}).IsListIter s.heap.objs.size l 0:=by
  obtain ⟨o,ho,rr⟩:=a1H;exact⟨o,b6 _ ho,rr⟩
 have k1:∀b o,s.heap.get? b=some o→(h1.push {cls:=.type "list",data:=.seq #[]}).get? b=some o:=fun b o e=>b6 _ (k0 b o e)
 rw[hsz1] at hS0 ⊢
 show cE _ _ (AS _) _ _ {s with heap:=h1.push {cls:=.type "list",data:=.seq #[]}}
 generalize (h1.push {cls:=.type "list",data:=.seq #[]})=h2 at hS0 hit1 k1
 have nI:s.heap.get? s.heap.objs.size=none:=(dg hX).1
 have nS:s.heap.get? (s.heap.objs.size+1)=none:=by
  cases q:s.heap.get? (s.heap.objs.size+1) with
  |none=>rfl
  |some o=>exact absurd (ER (eK q)) (iE _)
 have hIS:s.heap.objs.size≠s.heap.objs.size+1:=(GB _).symm
 have h0v:0<vs.size:=by exact Tg hL hlen hsz
 refine bg ⟨Fc tw _,wm GL ?_⟩
 rw[CB tw _]
 show cE _ _ (GW (.ref (s.heap.objs.size+1)) >>= _) _ _ _
 refine ah (kr hS0 rfl ?_)
 show cE _ _ (QU (Ct (.ref s.heap.objs.size)) _ >>= _) _ _ _
 have hl2:h2.PlainList l vs:=⟨n0,k1 _ _ ho⟩
 refine ah (EA (sF hit1 hl2.isList (x:=vs[0]) (by simp[h0v]) fun h3 a4R hs3=>?_))
 have hS3:=hs3.extBut (s.heap.objs.size+1) _ hIS.symm hS0
 have k3:∀b o,s.heap.get? b=some o→h3.get? b=some o:=fun b o e=>hs3.extBut b o (fun q=>by rw[q,nI] at e;exact YD e) (k1 b o e)
 show cE _ _ (Lu (s.heap.objs.size+1) (fun Z=>#[vs[0],vs[0]]) >>= _) _ _ _
 refine ah ?_
 refine B9 hS3 rfl ?_
 rw[hname]
 refine bg ⟨Fc tw _,Dv (h0:=s.heap) (key:=key) (by simpa using hA.handled) (cK (by simp) hu) hl hlI (xy (x6 (eK ho))) hIS hkey' nI nS (fun i j hi hj=>hinj i j (by exact Lx hsz hi) (by exact Lx hsz hj)) _ 0 _ _ h0v rfl ?_ (fun b o e=>(gg _ _ (fun q:s.heap.objs.size+1=b=>by rw[←q,nS] at e;exact YD e)).trans (k3 b o e)) (k8 _ hS3 rfl) fun h4 tk hn k4=>?_⟩
 ·obtain ⟨o,ho,rr⟩:=a4R
  exact⟨o,(gg _ _ hIS.symm).trans ho,rr⟩
 ·refine hQ _ _ (Pu.keep (n:=tk) k4) ?_
  have hb:cM key (vs.size - 1)<L.length:=by exact Lx hsz hn
  have e:L[cM key (L.length - 1)]?=some (L.getD (cM key (L.length - 1)) .none):=by
   rw[bq,c8 (by exact hsz▸hn)];rfl
  obtain ⟨x,hx,rx⟩:=hr.get e
  rw[nt] at hx
  have:vs[cM key (vs.size - 1)]=x:=by
   rw[←hsz,mE hn] at hx;exact aI hx
  rw[this]
  exact rx.up ⟨fun a o e Z=>k4 a o e,fun Z Z Z h=>h⟩ _ _
end
end
section
structure gj (m1 m2:KD):Prop where
 len:m1.length=m2.length
 at_:∀p∈m1,Zg m2 p.1=some p.2
 can:∀p∈m1,a0j p.2∧p.2.py.depth≤64
section
variable {w:gp}{k n:Nat}{A:Around}{X X':Addr→Prop}{s s':aE}{h:Heap}{E:bX→aE→Prop}
theorem yM {d:D}{u v:bX}(hd:a0j d)(hp:d.py.depth≤64)(hu:A.units+64<cLine)(ru:Rep w s.heap X d u)(rv:Rep w s.heap X d v):SeqAt.EqAt A s u v true:=by
 obtain ⟨as,q1⟩:=fV d u hd ru
 obtain ⟨bs,q2⟩:=fV d v hd rv
 have:=SeqAt.eqAt_reads d.py d.py A s u v as bs q1 q2 (pn (cG hd hp)) (pn (cG hd hp)) (by rw[Nat.min_self];exact Sh hp hu)
 rw[EB _ (pn (cG hd hp))] at this
 exact this
theorem Mp {key:Str}{d:D}:∀{m:KD} {kvs:List (Str×bX)},kvs.map (fun x=>x.1)=m.map (fun x=>x.1)→aX w h X (m.map (fun x=>x.2)) (kvs.map (fun x=>x.2))→Zg m key=some d→∃v,GU kvs key=some v∧Rep w h X d v:=by
 intro m
 induction m with
 |nil=>intro kvs _ _ h;exact YD h
 |cons p m ih=>
  intro kvs hk hr h
  cases kvs with
  |nil=>simp at hk
  |cons q kvs=>
   simp only[dc,BA] at hk
   obtain ⟨v',t,e,r1,r2⟩:=hr
   cases (show q.2::kvs.map (fun x=>x.2)=v'::t from e)
   unfold Zg at h
   unfold GU
   rw[k6] at h ⊢
   rw[←hk.1] at h
   by_cases c:q.1=key
   ·simp only[c,decide_true,zo,ES] at h ⊢
    subst h
    exact⟨_,rfl,r1⟩
   ·simp only[c,decide_false] at h ⊢
    exact ih hk.2 r2 h
theorem z7 {m2:KD}{kb:List (Str×bX)}(hk:kb.map (fun x=>x.1)=m2.map (fun x=>x.1))(hb:aX w s.heap X (m2.map (fun x=>x.2)) (kb.map (fun x=>x.2)))(hu:A.units+64<cLine):∀{m1:KD} {ka:List (Str×bX)},ka.map (fun x=>x.1)=m1.map (fun x=>x.1)→aX w s.heap X (m1.map (fun x=>x.2)) (ka.map (fun x=>x.2))→
  (∀p∈m1,Zg m2 p.1=some p.2)→(∀p∈m1,a0j p.2∧p.2.py.depth≤64)→KeqHits A s kb ka true
 | [],ka,e,_,_,_=>by
  have:ka=[]:=by simpa using e
  subst this
  exact .nil
 |p::m1,ka,e,r,ha,hc=>by
  match ka,e with
  |q::ka,e=>
   rw[dc,dc,BA] at e
   obtain ⟨v,t,e2,r1,r2⟩:=r
   cases (show q.2::ka.map (fun x=>x.2)=v::t from e2)
   have ih:=z7 hk hb hu e.2 r2 (fun p hp=>ha p (bE _ hp)) fun p hp=>hc p (bE _ hp)
   obtain ⟨y,hy,ry⟩:=Mp (key:=q.1) hk hb (e.1▸ha p ay)
   have c:=hc p ay
   obtain ⟨qk,qv⟩:=q
   have:=KeqHits.hit (v:=qv) hy (yM c.1 c.2 hu r1 ry) ih
   exact this
theorem yG {m1 m2:KD}{va vb:bX}(al:gj m1 m2)(hu:A.units+100<cLine)(ra:Rep w s.heap X (aj m1) va)(rb:Rep w s.heap X (aj m2) vb):Ev w A X (wc .Eq va vb) (.bool true) s∧Ev w A X (wc .NotEq va vb) (.bool false) s:=by
 obtain ⟨a,ka,rfl,da,sa,_,ea,r1⟩:=ra
 obtain ⟨b,kb,rfl,db,sb,_,eb,r2⟩:=rb
 have la:ka.length=m1.length:=by have:=congrArg CS ea;simpa using this
 have lb:kb.length=m2.length:=by have:=congrArg CS eb;simpa using this
 have hl:(ka.length==kb.length)=true:=by rw[la,lb,al.len];simp
 have hits:ka.length=kb.length→KeqHits A.in1 s kb ka true:=fun Z=>z7 eb r2 (by simp;exact Ti hu) ea r1 al.at_ al.can
 constructor
 ·exact .Ze fun Q E q=>keq_eq (r:=true) (by simpa using sa) (by simpa using sb) da db (by exact La hu) hits (by rw[hl];exact q)
 ·exact .Ze fun Q E q=>keq_ne (r:=true) (by simpa using sa) (by simpa using sb) da db (by exact La hu) hits (by rw[hl];exact q)
theorem Gy {m1 m2:KD}{va vb:bX}(al:gj m1 m2)(hu:A.units+100<cLine)(ra:Rep w s.heap X (aj m1) va)(rb:Rep w s.heap X (aj m2) vb){Q:Bool→aE→Prop}(hQ:∀s',Pu s s'→Q true s'):cE (cS PW w) A (eqBool va vb) Q E s:=by
 have rc:=(yG al hu ra rb).1
 obtain ⟨a,ka,rfl,da,sa,_,ea,r1⟩:=ra
 obtain ⟨b,kb,rfl,db,sb,_,eb,r2⟩:=rb
 unfold eqBool
 refine fT ?_
 by_cases q:a=b
 ·subst q
  rw[if_pos (by simp)]
  exact ah (yT (bg (hQ s (Pu.refl s))))
 ·rw[if_neg (by simpa using q)]
  show cE _ _ (KO .Eq (.ref a) (.ref b) >>= truthOfDropped) _ _ s
  refine ah (rc _ _ fun v s' u r=>?_)
  obtain rfl:=r
  exact A6 (hQ s' u)
theorem HB {i:Int}{m1 m2:KD}{va vb:bX}(hA:Zv k A)(al:gj m1 m2)(hX:Z6 X s)(ra:Rep w s.heap X (.tup [.int i,aj m1]) va)(rb:Rep w s.heap X (.tup [.int i,aj m2]) vb):Ev w A X (wc .NotEq va vb) (.bool false) s:=by
 have hu0:=hA.units
 have hu:A.in1.units+100<cLine:=by simp;unfold cLine;exact S8 hu0
 obtain ⟨a,us,rfl,⟨n,ha⟩,_,v1,t1,e1,⟨k1,rfl⟩,v2,t2,rfl,d2,rfl⟩:=ra
 obtain ⟨b,vs,rfl,⟨m,hb⟩,_,w1,s1,f1,⟨k2,rfl⟩,w2,s2,rfl,g2,rfl⟩:=rb
 have e2:us=#[.int i k1,v2]:=by apply AU;simpa using e1
 have f2:vs=#[.int i k2,w2]:=by apply AU;simpa using f1
 subst e2 f2
 intro Q E hQ
 have hTa:s.TypeIs (.ref a) "tuple":=⟨_,ha,rfl⟩
 have hTb:s.TypeIs (.ref b) "tuple":=⟨_,hb,rfl⟩
 show cE _ A (KO .NotEq (.ref a) (.ref b)) Q E s
 refine DF hTa hTb OX (kP OX hTa F.entry_tuple_ne ?_ (F.args_tuple_ne_2 _ _)) (by unfold cLine;exact Th hu0)
 show cE _ _ (AX (.ref b) (.type "tuple") >>= _) _ _ s
 refine ah (GH hTb IF ?_)
 simp only[xB,fh,if_false]
 refine ah (BE ha rfl ?_)
 refine ah (BE hb rfl ?_)
 refine ah ?_
 show cE _ _ (TN [(CO i k1,CO i k2),(v2,w2)] _ _) _ _ s
 rw[kK]
 refine ah (ah (Cs ?_))
 rw[show(i==i)=true from by simp]
 simp only[xB,fh,if_false]
 refine bg ?_
 show cE _ _ (TN [(v2,w2)] _ _) _ _ s
 rw[kK]
 refine ah (ah (Gy al hu d2 g2 fun s' u=>?_))
 simp only[xB,fh,if_false]
 refine bg (bg ?_)
 exact bg ⟨.bool false,rfl,(by intro q;cases q),hQ _ _ u ie⟩
end
end
section
noncomputable abbrev Z4:Scope:=cF "law"
noncomputable def YG:List Stmt:=dZ "law"
noncomputable abbrev wCe:Str:=af "cells"
noncomputable abbrev wSc:Str:=af "script"
noncomputable abbrev wNa:Str:=af "names"
noncomputable abbrev wAb:Str:=af "above"
noncomputable abbrev wDo:Str:=af "dots"
noncomputable abbrev wEn:Str:=af "ends"
noncomputable abbrev wTa:Str:=af "tail"
noncomputable abbrev wRo:Str:=af "rows"
noncomputable abbrev wWa:Str:=af "ways"
noncomputable abbrev wOr:Str:=af "order"
noncomputable abbrev wRe:Str:=af "reaches"
noncomputable abbrev wLe:Str:=af "letters"
theorem o5 {α:Type}{l:List α}(h:Nat.ble l.length 1000=true):l.length≤sizeLine:=by
 rw[c9];exact ai (b9 h) (by decide)
theorem Iz {n:Nat}(h:Nat.ble n 1000=true):n≤sizeLine:=by
 rw[c9];exact ai (b9 h) (by decide)
structure LP where
 c0:Int
 c1:Int
 c2:Int
 c3:Int
 c4:Int
 c5:Int
 nm:List Str
 ab:List Nat
namespace LP
noncomputable def dot (P:LP)(k:Nat):Int:=(P.c1.fdiv (4 ^ k)).fmod 4
noncomputable def en (P:LP)(k:Nat):Str:=(([D.str (af "\n"),.str (af "\r"),.str (af "\r\n")]).getD ((P.c2.fdiv (3 ^ k)).fmod 3).toNat .none).toStr
noncomputable def tail (P:LP):Str:=(([D.str (af ""),.str (af "\r")]).getD ((P.c2.fdiv 2187).fmod 2).toNat .none).toStr
noncomputable def w0 (P:LP):Int:=(([D.int 1,.int (-1),.int 2,.int (-2)]).getD (P.c5.fmod 4).toNat .none).toInt
noncomputable def w1 (P:LP):Int:=(([D.int 1,.int (-1),.int 3,.int (-3)]).getD ((P.c5.fdiv 4).fmod 4).toNat .none).toInt
noncomputable def ds (P:LP):List Int:=[P.dot 0,P.dot 1,P.dot 2,P.dot 3,P.dot 4,P.dot 5,P.dot 6]
noncomputable def es (P:LP):List Str:=[P.en 0,P.en 1,P.en 2,P.en 3,P.en 4,P.en 5,P.en 6]
noncomputable def row (P:LP)(k:Nat):Str:=bL (af ".") (P.dot k)++strAt (P.nm.getD k Str.empty) 0++P.en k
noncomputable def rows (P:LP):List Str:=[P.row 0,P.row 1,P.row 2,P.row 3,P.row 4,P.row 5,P.row 6]
noncomputable def reach (P:LP)(k:Nat):Str:=dD (P.nm.getD k Str.empty)
noncomputable def reaches (P:LP):List Str:=[P.reach 0,P.reach 1,P.reach 2,P.reach 3,P.reach 4,P.reach 5,P.reach 6]
noncomputable def letter (P:LP)(k:Nat):Str:=gW P.ab P.ds P.es P.tail k
noncomputable def letters (P:LP):List Str:=[P.letter 0,P.letter 1,P.letter 2,P.letter 3,P.letter 4,P.letter 5,P.letter 6]
end LP
namespace LP
theorem t6 (P:LP)(k:Nat):0≤P.dot k∧P.dot k≤3:=by
 have h1:=ia (P.c1.fdiv (4 ^ k)) (show(0:Int)<4 by decide)
 have h2:=k7 (P.c1.fdiv (4 ^ k)) (show(0:Int)<4 by decide)
 unfold dot
 exact Tj h1 h2
theorem Fo (P:LP)(k:Nat):(P.en k).length≤2:=by
 unfold en
 have h1:=ia (P.c2.fdiv (3 ^ k)) (show(0:Int)<3 by decide)
 have h2:=k7 (P.c2.fdiv (3 ^ k)) (show(0:Int)<3 by decide)
 generalize (P.c2.fdiv (3 ^ k)).fmod 3=i at h1 h2
 have:i=0∨i=1∨i=2:=by exact K6 h1 h2
 rcases this with rfl|rfl|rfl<;>decide +kernel
theorem vZ (P:LP):P.tail.length≤1:=by
 unfold tail
 have h1:=ia (P.c2.fdiv 2187) (show(0:Int)<2 by decide)
 have h2:=k7 (P.c2.fdiv 2187) (show(0:Int)<2 by decide)
 generalize (P.c2.fdiv 2187).fmod 2=i at h1 h2
 have:i=0∨i=1:=by exact Ko h1 h2
 rcases this with rfl|rfl<;>decide +kernel
theorem VR (P:LP)(k:Nat):(af ".").length≤1000∧-1000≤P.dot k∧P.dot k≤1000:=by
 have:=P.t6 k
 have l1:(af ".").length=1:=by decide +kernel
 rw[l1];exact WM this
theorem VV (P:LP)(k:Nat)(x:Str)(i:Nat):(bL (af ".") (P.dot k)).length+(strAt x i).length≤sizeLine:=by
 have:=P.t6 k
 have e:(strAt x i).length=1:=rfl
 rw[di,e,c9];exact Wu this
theorem W0 (P:LP)(k:Nat)(x:Str)(i:Nat):(bL (af ".") (P.dot k)++strAt x i).length+(P.en k).length≤sizeLine:=by
 have:=P.t6 k
 have:=P.Fo k
 have e:(strAt x i).length=1:=rfl
 rw[iO,di,e,c9];exact Wq (by assumption) this
end LP
theorem nmc {x:Str}(h:0<x.length∧x.length≤100):iA 0<x.length∧x.length≤sizeLine:=⟨h.1,by rw[c9];exact Ve h⟩
theorem Ng {α:Type}{a b c d e f g:α}:[a,b,c,d,e,f,g].length≤sizeLine:=by rw[c9];simp
noncomputable abbrev lw0 (P:LP):Yx:=[(wAb,.lst (aq P.ab)),(wNa,.lst (P.nm.map .str)),(wCe,.lst [.int P.c0,.int P.c1,.int P.c2,.int P.c3,.int P.c4,.int P.c5])]
noncomputable abbrev lw1 (P:LP):Yx:=(wTa,.str P.tail)::(wEn,.lst (P.es.map .str))::(wDo,.lst (P.ds.map .int))::lw0 P
noncomputable abbrev lw2 (P:LP):Yx:=(wWa,.lst [.int P.w0,.int P.w1])::(wRo,.lst (P.rows.map .str))::lw1 P
noncomputable abbrev lw3 (P:LP):Yx:=(wOr,.order (.lst [.tup [.int 1,.int P.w0],.tup [.int 0,.int P.w1]]))::lw2 P
noncomputable abbrev lw4 (P:LP):Yx:=(wLe,.lst (P.letters.map .str))::(wRe,.lst (P.reaches.map .str))::lw3 P
section
variable {w:gp}{k n:Nat}{A:Around}{X X':Addr→Prop}{env:UI}{outer:List UI}{sc:Scope}{ρ ρ':Yx}{s s':aE}{μ YC YM:YX}{P:LP}
theorem a3v:(Z4.names.all fun p=>match p.2 with | .local=>true | .cell=>true | .globalImplicit=>true|_=>false)=true:=by kernel_rfl
noncomputable def loc (x:Str):Bool:=decide (Z4.names.lookup x=some .local)||decide (Z4.names.lookup x=some .cell)
theorem bD {x:Str}(h:loc x=true):LC Z4 x:=by
 unfold loc at h
 simpa using h
theorem dK {H:Hooks}(hH:au w H k)(mx:Mx w k A X env sc ρ μ s){x:Str}{px pos:UK}{e:PySem.Expr}{d:D}{cs:List Prop}{Q:zh→aE→Prop}{E:bX→aE→Prop}(hk:LC sc x)(he:cY e=false)
  (h:aZ H e sc ρ=some (d,cs)) (hc:AllP cs) (hQ:∀s',YF (Own env sc) s s'→Mx w k A X env sc ((x,d)::ρ) μ s'→Q .next s'):cE (cS PW w) A (Nn (.Assign [.Name x px] e pos) env) Q E s:=
 gK mx hk he (bh hH e h hc mx.cx).1 hQ
set_option maxHeartbeats 8000000 in
theorem O9 {n0 n1 n2 n3 n4 n5 n6:Str}{a0 a1 a2 a3 a4 a5 a6:Nat}(hnm:P.nm=[n0,n1,n2,n3,n4,n5,n6])(hab:P.ab=[a0,a1,a2,a3,a4,a5,a6])(mx:Mx w (40+n) A X env Z4 (lw0 P) [] s){Q:zh→aE→Prop}{E:bX→aE→Prop}{rest:List Stmt}(hr:rest=YG.drop 5)
  (hQ:∀s',YF (Own env Z4) s s'→Mx w (40+n) A X env Z4 (lw1 P) [] s'→cE (cS PW w) A (oz rest env) Q E s'):cE (cS PW w) A (oz (YG.drop 2) env) Q E s:=by
 obtain ⟨c0,c1,c2,c3,c4,c5,nm,ab⟩:=P
 have hnm:nm=_:=hnm
 have hab:ab=_:=hab
 subst hnm hab hr
 have hH:=(eZ w).mono (K':=40+n) (by exact pJ)
 refine aH (dK hH mx (x:=wDo) (d:=.lst ((LP.ds ⟨c0,c1,c2,c3,c4,c5,[n0,n1,n2,n3,n4,n5,n6],[a0,a1,a2,a3,a4,a5,a6]⟩).map .int)) (bD (by kernel_rfl)) (by kernel_rfl) (by rfl) ?_ fun s1 ZG m1=>?_)
 ·repeat' (first|exact trivial|exact Iz (by rfl)|exact ia _ (by decide)|exact k7 _ (by decide)|exact⟨_,rfl⟩|refine av ?_ ?_|decide)
 refine aH (dK hH m1 (x:=wEn) (d:=.lst ((LP.es ⟨c0,c1,c2,c3,c4,c5,[n0,n1,n2,n3,n4,n5,n6],[a0,a1,a2,a3,a4,a5,a6]⟩).map .str)) (bD (by kernel_rfl)) (by kernel_rfl) (by rfl) ?_ fun s2 Zc m2=>?_)
 ·repeat' (first|exact trivial|exact Iz (by rfl)|exact ia _ (by decide)|exact k7 _ (by decide)|exact⟨_,rfl⟩|refine av ?_ ?_|decide)
 refine aH (dK hH m2 (x:=wTa) (d:=.str (LP.tail ⟨c0,c1,c2,c3,c4,c5,[n0,n1,n2,n3,n4,n5,n6],[a0,a1,a2,a3,a4,a5,a6]⟩)) (bD (by kernel_rfl)) (by kernel_rfl) (by rfl) ?_ fun s3 pb3 m3=>?_)
 ·repeat' (first|exact trivial|exact Iz (by rfl)|exact ia _ (by decide)|exact k7 _ (by decide)|exact⟨_,rfl⟩|refine av ?_ ?_|decide)
 exact hQ s3 (ZG.trans (Zc.trans pb3)) m3
set_option maxHeartbeats 8000000 in
theorem Oa {n0 n1 n2 n3 n4 n5 n6:Str}{a0 a1 a2 a3 a4 a5 a6:Nat}(hnm:P.nm=[n0,n1,n2,n3,n4,n5,n6])(hab:P.ab=[a0,a1,a2,a3,a4,a5,a6])(hn:∀x∈P.nm,0<x.length∧x.length≤100)(mx:Mx w (40+n) A X env Z4 (lw1 P) [] s){Q:zh→aE→Prop}{E:bX→aE→Prop}{rest:List Stmt}(hr:rest=YG.drop 7)
  (hQ:∀s',YF (Own env Z4) s s'→Mx w (40+n) A X env Z4 (lw2 P) [] s'→cE (cS PW w) A (oz rest env) Q E s'):cE (cS PW w) A (oz (YG.drop 5) env) Q E s:=by
 obtain ⟨c0,c1,c2,c3,c4,c5,nm,ab⟩:=P
 have hnm:nm=_:=hnm
 have hab:ab=_:=hab
 subst hnm hab hr
 have hH:=(eZ w).mono (K':=40+n) (by exact pJ)
 simp only[fE] at hn
 refine aH (dK hH mx (x:=wRo) (d:=.lst ((LP.rows ⟨c0,c1,c2,c3,c4,c5,[n0,n1,n2,n3,n4,n5,n6],[a0,a1,a2,a3,a4,a5,a6]⟩).map .str)) (bD (by kernel_rfl)) (by kernel_rfl) (by rfl) ?_ fun s1 ZG m1=>?_)
 ·obtain ⟨h0,h1,h2,h3,h4,h5,h6,_⟩:=hn
  repeat' (first|exact LP.VR _ _|exact LP.VV _ _ _ _|exact LP.W0 _ _ _ _|exact nmc (by assumption)|exact Ng|exact trivial|refine av ?_ ?_)
 refine aH (dK hH m1 (x:=wWa) (d:=.lst [.int (LP.w0 ⟨c0,c1,c2,c3,c4,c5,[n0,n1,n2,n3,n4,n5,n6],[a0,a1,a2,a3,a4,a5,a6]⟩),.int (LP.w1 ⟨c0,c1,c2,c3,c4,c5,[n0,n1,n2,n3,n4,n5,n6],[a0,a1,a2,a3,a4,a5,a6]⟩)]) (bD (by kernel_rfl)) (by kernel_rfl) (by rfl) ?_ fun s2 Zc m2=>?_)
 ·repeat' (first|exact trivial|exact Iz (by rfl)|exact ia _ (by decide)|exact k7 _ (by decide)|exact⟨_,rfl⟩|refine av ?_ ?_|decide)
 exact hQ s2 (ZG.trans Zc) m2
end
end
section
section
variable {w:gp}{k n:Nat}{A:Around}{X X':Addr→Prop}{env:UI}{outer:List UI}{sc:Scope}{ρ ρ':Yx}{s s':aE}{μ YC YM:YX}{P:LP}
theorem CN {H:Hooks}(hH:au w H k)(cx:Cx w k A X env sc ρ s){cn:Str}{np cp:UK}{arg:PySem.Expr}{l:List D}{cs:List Prop}(hn:sc.names.lookup cn=some .globalImplicit∧cH cn=some (.val (.ref 55)))(ha:aZ H arg sc ρ=some (.lst l,cs))(hc:AllP cs)(hst:isStarred arg=false):
  aV w A X (ku (.Call (.Name cn np) [arg] [] cp) env) (.order (.lst l)) s:=by
 intro s' u Q E hQ
 have cx':=cx.pu u
 refine kN ((bZ cx' hn.1 hn.2).now _ _ fun v s1 u1 r1=>?_)
 obtain rfl:=r1
 have hpl:∀e∈[arg],isStarred e=false:=fun e he=>by obtain rfl:=bS.mp he;exact hst
 have args:bO w A X [arg] env [.lst l] s':=args_cons cx'.Yz hst (aa hH cx' ha hc) args_nil
 refine callWith_of (P:=fun h=>∃K,jG K∧ML K h) ?_ (fun h Z9=>by obtain ⟨K,FK,KI⟩:=Z9;exact keeps_K FK.k55 h KI) (bc args hpl (fun h=>by cases h) s1 u1 _ _ fun vs s2 u2 r2=>?_)
 ·rw[YH hpl];rfl
 ·have u12:=u1.trans u2
  have YW:=cx'.pu u12
  obtain ⟨K,FK,KI,KX⟩:=YW.base.a0s
  refine⟨⟨K,FK,KI⟩,?_⟩
  obtain ⟨v,t,rfl,r3,rfl⟩:=r2
  have r3':=r3
  obtain ⟨td,kvs,rfl,_⟩:=r3
  have more:=YW.base.more s2 fun a o e Z=>e
  refine gR (by have:=cx.a.depth;exact Hu this) (by have:=cx.a.units;exact Hr this) ?_
  rw[cx.a.handled]
  refine more.order td _ _ fun o h' t' hk hno hin=>?_
  have u3:Pu s2 ⟨h',s2.gens,s2.drawn,t',s2.os⟩:=Pu.keep (n:=t') hk
  refine hQ _ _ (u12.trans u3) ?_
  refine⟨o,.ref td,rfl,?_,r3'.up (u3.up cx.Yz.pt) _ _⟩
  obtain ⟨o',dx,es,n,g1,g2,g3,g4,g5,g6,g7,g8⟩:=hin
  exact⟨o',dx,es,n,g1,g2,g3,g4,fun q=>g5 (YW.Yz.lt _ q),fun q=>g6 (YW.Yz.lt _ q),g7,g8⟩
theorem jU (l:List Nat):mW (aq l)=l:=by
 unfold mW aq
 rw[kH]
 conv=>rhs;rw[←KP l]
 exact mT fun x Z=>rfl
theorem xG (l:List Int):(l.map D.int).map D.toInt=l:=by
 rw[kH]
 conv=>rhs;rw[←KP l]
 exact mT fun x Z=>rfl
theorem xH (l:List Str):(l.map D.str).map D.toStr=l:=by
 rw[kH]
 conv=>rhs;rw[←KP l]
 exact mT fun x Z=>rfl
theorem Hg (P:LP)(k:Nat)(h:sI P.ab P.ds P.es P.tail k):0≤(0+(k:Int))∧aq P.ab=aq (mW (aq P.ab))∧P.ds.map D.int=((P.ds.map D.int).map D.toInt).map .int∧P.es.map D.str=((P.es.map D.str).map D.toStr).map .str∧sI (mW (aq P.ab)) ((P.ds.map D.int).map D.toInt) ((P.es.map D.str).map D.toStr) P.tail (0+(k:Int)).toNat:=by
 rw[jU,xG,xH,HG,x7]
 exact⟨by exact wY,rfl,rfl,rfl,h⟩
set_option maxHeartbeats 8000000 in
theorem Ob {n0 n1 n2 n3 n4 n5 n6:Str}{a0 a1 a2 a3 a4 a5 a6:Nat}(hnm:P.nm=[n0,n1,n2,n3,n4,n5,n6])(hab:P.ab=[a0,a1,a2,a3,a4,a5,a6])(hre:∀x∈P.nm,Df x∧1+(gG x).length≤sizeLine)(hle:∀k,k<7→sI P.ab P.ds P.es P.tail k)(mx:Mx w (40+n) A X env Z4 (lw2 P) [] s){Q:zh→aE→Prop}{E:bX→aE→Prop}{rest:List Stmt}(hr:rest=YG.drop 10)
  (hQ:∀s',YF (Own env Z4) s s'→Mx w (40+n) A X env Z4 (lw4 P) [] s'→cE (cS PW w) A (oz rest env) Q E s'):cE (cS PW w) A (oz (YG.drop 7) env) Q E s:=by
 have hH:=(eZ w).mono (K':=40+n) (by exact pJ)
 subst hr
 refine aH (cg mx (x:=wOr) (d:=.order (.lst [.tup [.int 1,.int P.w0],.tup [.int 0,.int P.w1]])) (bD (by kernel_rfl)) (CN hH mx.cx ⟨by kernel_rfl,by kernel_rfl⟩ (by rfl) ?_ (by rfl)) (by kernel_rfl) fun s1 ZG m1=>?_)
 ·repeat' (first|exact trivial|exact Iz (by rfl)|refine av ?_ ?_|exact⟨_,rfl⟩|decide)
 obtain ⟨c0,c1,c2,c3,c4,c5,nm,ab⟩:=P
 have hnm:nm=_:=hnm
 have hab:ab=_:=hab
 subst hnm hab
 refine aH (dK hH m1 (x:=wRe) (d:=.lst ((LP.reaches ⟨c0,c1,c2,c3,c4,c5,[n0,n1,n2,n3,n4,n5,n6],[a0,a1,a2,a3,a4,a5,a6]⟩).map .str)) (bD (by kernel_rfl)) (by kernel_rfl) (by rfl) ?_ fun s2 Zc m2=>?_)
 ·simp only[fE] at hre
  obtain ⟨h0,h1,h2,h3,h4,h5,h6,_⟩:=hre
  repeat' (first|exact Ng|assumption|exact trivial|refine av ?_ ?_)
 refine aH (dK hH m2 (x:=wLe) (d:=.lst ((LP.letters ⟨c0,c1,c2,c3,c4,c5,[n0,n1,n2,n3,n4,n5,n6],[a0,a1,a2,a3,a4,a5,a6]⟩).map .str)) (bD (by kernel_rfl)) (by kernel_rfl) (by rfl) ?_ fun s3 pb3 m3=>?_)
 ·repeat' (first|exact Ng|exact Hg _ 0 (hle 0 (by decide))|exact Hg _ 1 (hle 1 (by decide))|exact Hg _ 2 (hle 2 (by decide))|exact Hg _ 3 (hle 3 (by decide))|exact Hg _ 4 (hle 4 (by decide))|exact Hg _ 5 (hle 5 (by decide))|exact Hg _ 6 (hle 6 (by decide))|exact trivial|refine av ?_ ?_)
 exact hQ s3 (ZG.trans (Zc.trans pb3)) m3
end
end
section
noncomputable abbrev wRn:Str:=af "runs"
noncomputable abbrev wSt:Str:=af "state"
noncomputable abbrev wSe:Str:=af "seen"
noncomputable def LP.W (P:LP)(st:Int):Wd:=⟨P.nm,P.reaches,P.rows,P.w0,P.w1,st⟩
noncomputable def LP.came (P:LP):Str:=af ".\r\n\r\nz"++P.tail
noncomputable def LP.states (P:LP):List Int:=[P.c3,gT P.c3,P.c4]
noncomputable def Bw (W:Wd)(t:Tr)(c:Str):D:=.tup [.int (if(ask W t c).ok then 1 else 0),aj (ask W t c).told]
noncomputable def LP.runs (P:LP)(t:Tr):List D:=P.states.map fun st=>Bw (P.W st) t P.came
noncomputable def LP.lets (P:LP):List (Nat×Str):=[(0,P.letter 0),(1,P.letter 1),(2,P.letter 2),(3,P.letter 3),(4,P.letter 4),(5,P.letter 5),(6,P.letter 6)]
structure xP (P:LP)(t:Tr):Prop where
 root:t.root=0
 ht:t.ht≤3
 size:t.size=7
 w:∀st,WOk (P.W st)
 tree:∀st,Z7 (P.W st) t
 text:∀st,Zh (P.W st) t P.came
 seen:∃zs,(∀st,Z0 (P.W st) t P.came=cN zs)∧uO zs∧uD zs=P.lets
 ok:∀k,k<7→tT (P.letter k)=true
noncomputable abbrev lw5 (P:LP)(aRn:Addr):Yx:=(wRn,.val (.ref aRn))::lw4 P
section
variable {w:gp}{k n:Nat}{A:Around}{X X':Addr→Prop}{env:UI}{outer:List UI}{sc:Scope}{ρ ρ':Yx}{s s' s'':aE}{μ YC YM:YX}{P:LP}{Z:Addr→Prop}{fr:List Addr}
theorem Z1.drop {a:Addr}(x:Z1 (fun b=>Z b∨b=a) fr s s')(hn:s.heap.get? a=none):Z1 Z fr s s':=
 ⟨fun b o e n z=>x.heap b o e n fun q=>q.elim z fun q=>(by subst q;exact YD (hn.symm.trans e)),x.tab,x.gens,x.drawn,x.os⟩
theorem yN (cx:Cx w k A X env sc ρ s){f:Str}{fp pos:UK}{e:PySem.Expr}{zs:List (Nat×Str)}(hk:sc.names.lookup f=some .globalImplicit)(hg:cH f=some (.val (.builtin "sorted")))(he:aV w A X (ku e env) (.lst (cN zs)) s)(hst:isStarred e=false)(ok:uO zs):
  aV w A X (ku (.Call (.Name f fp) [e] [] pos) env) (.lst (cN (uD zs))) s:=by
 intro s' u Q E hQ
 have cx':=cx.pu u
 refine kN ((bZ cx' hk hg).now _ _ fun v s1 u1 r1=>?_)
 obtain rfl:=r1
 have hpl:∀e'∈[e],isStarred e'=false:=fun e' h=>by simp at h;subst h;exact hst
 refine iL (YH hpl) (bc (args_cons cx'.Yz hst (he.pu u) args_nil) hpl (fun h=>by cases h) s1 u1 _ _ fun vs s2 u2 r2=>?_)
 obtain ⟨v,t,rfl,r3,rfl⟩:=r2
 exact sU (cx'.pu (u1.trans u2)).Yz ok r3 _ _ fun v3 s3 u3 r3=>hQ v3 s3 (u1.trans (u2.trans u3)) r3
theorem wR (P:LP)(h:∀k,k<7→tT (P.letter k)=true):rV (D.lst (cN P.lets)).py (D.lst (cN P.lets)).py=true∧dO (.lst (cN P.lets)) (.lst (cN P.lets)):=by
 have c:a0j (.lst (cN P.lets)):=⟨⟨trivial,h 0 (by decide),trivial⟩,⟨trivial,h 1 (by decide),trivial⟩,⟨trivial,h 2 (by decide),trivial⟩,⟨trivial,h 3 (by decide),trivial⟩,⟨trivial,h 4 (by decide),trivial⟩,⟨trivial,h 5 (by decide),trivial⟩,⟨trivial,h 6 (by decide),trivial⟩,trivial⟩
 have d:(D.lst (cN P.lets)).py.depth≤64:=b9 rfl
 exact⟨EB _ (pn (cG c d)),c,c,d,d⟩
noncomputable def a1s:List Stmt:=Zy (YG.getD 11 nE)
set_option maxHeartbeats 16000000 in
theorem Ej {t:Tr}{st:Int}{aRn:Addr}{done:List D}(F:xP P t)(hd:done.length≤3)(fx:Fx w (40+n) A X env Z4 ((wSt,.int st)::lw5 P aRn) [(aRn,.lst done)] outer s){Q:zh→aE→Prop}{E:bX→aE→Prop}
  (hQ:∀s',Z1 (dj env Z4 [aRn]) (frs (env::outer)) s s'→Mx w (40+n) A X env Z4 (lw5 P aRn) [(aRn,.lst (done++[Bw (P.W st) t P.came]))] s'→Q .next s'):cE (cS PW w) A (oz a1s env) Q E s:=by
 have hH:=(eZ w).mono (K':=40+n) (by exact pJ)
 obtain ⟨zs,hz1,hz2,hz3⟩:=F.seen
 refine aH (iR fx.mx (x:=wSe) (bD (by kernel_rfl)) fun aS s1 hn1 ZG m1=>?_)
 have fx1:=fx.add ZG hn1 m1 fun Y h=>.inl h
 generalize hX4:(fun b=>X b∨b=aS)=X4 at fx1
 have gX:∀a,X a→X4 a:=fun a h=>by rw[←hX4];exact .inl h
 have base0:=m1.cx.base
 clear m1
 have fin:∀s7,Mx w (40+n) A X4 env Z4 ((wSe,.val (.ref aS))::(wSt,.int st)::lw5 P aRn) [(aS,.lst (Z0 (P.W st) t P.came)),(aRn,.lst (done++[Bw (P.W st) t P.came]))] s7→Z1 (fun b=>dj env Z4 [aRn] b∨b=aS) (frs (env::outer)) s s7→cE (cS PW w) A (oz (a1s.drop 2) env) Q E s7:=by
  intro s7 m7 p7
  rw[hz1] at m7
  have c7:=m7.freeze (YC:=[]) (x:=wSe) (by rfl)
  obtain ⟨q1,q2⟩:=wR P F.ok
  have hcmp:Gw .NotEq (.lst (cN (uD zs))) (.lst (cN P.lets))=some (.bool false,[dO (.lst (cN P.lets)) (.lst (cN P.lets))]):=by
   rw[hz3]
   show some (D.bool (!PyData.eqv (D.lst (cN P.lets)).py (D.lst (cN P.lets)).py),_)=_
   rw[q1];rfl
  refine aH (A0 ?_)
  refine(aM (op:=.NotEq) (d:=.bool false) c7.a c7.Yz (yN c7 (by kernel_rfl) (by kernel_rfl) (aa hH c7 (d:=.lst (cN zs)) (cs:=[]) (by rfl) trivial) (by rfl) hz2) (aa hH c7 (d:=.lst (cN P.lets)) (by rfl) ?_) hcmp ⟨q2,trivial⟩ (by kernel_rfl)).test _ rfl s7 (Pu.refl _) _ _ fun s8 u8=>?_
  ·repeat' (first|exact Ng|exact trivial|refine av ?_ ?_)
  simp only[fh,if_false]
  have m8:=(m7.pu u8).a1y (ZJ:=[(aRn,.lst (done++[Bw (P.W st) t P.came]))]) (by simp)
  have m9:=m8.shrink fx.mx (by rfl) gX
  refine dS (dS (hQ s8 ((p7.trans (.YB u8)).drop hn1) (m9.Zf ?_)))
  exact allAt (av rfl (av rfl (av rfl (av rfl (av rfl (av rfl (av rfl (av rfl (av rfl (av rfl (av rfl (av rfl trivial))))))))))))
 refine aH (NS ?_)
 refine aH (AE ?_ (by unfold CY;rw[fx1.mx.cx.vis.eqs,fx1.mx.cx.vis.kind];rfl) rfl)
 refine k9 rfl ?_ (by kernel_rfl) ((aa hH fx1.mx.cx (d:=.val (.ref aRn)) (cs:=[]) (by rfl) trivial).now _ _ fun v s3 u3 r3=>?_)
 ·rw[ao rfl];rfl
 obtain rfl:=r3
 have Zt:=fx1.pu u3
 obtain ⟨us,⟨nn,hpR⟩,hrR⟩:=(Zt.mx.mu.at_ (aRn,.lst done) (.tail _ (.head _))).l
 refine⟨"list",_,rq,x9,xe,⟨_,hpR,rfl⟩,fun b e=>by cases e;exact⟨_,hpR,rfl⟩,iL (YH fun e' h=>by obtain rfl:=bS.mp h;rfl) ?_⟩
 rw[ao rfl]
 refine w4 ?_
 show cE _ _ (SE (FU _ ((false,ku _ env)::zS [] env))) _ _ _
 rw[←ao (es:=[]) rfl]
 refine iX ?_ (ao rfl)
 refine CU (iX ?_ (ao rfl))
 refine DZ (iX ?_ (ao rfl))
 have u3':Pu s3 {s3 with toks:=s3.toks+1}:=Pu.toks _ _
 have fx4:=Zt.pu u3'
 have cx4:=fx4.mx.cx
 refine dM cx4 (a:=204) (params:=bU "_law_ask") (body:=dZ "_law_ask") (sc':=Zm) (by kernel_rfl) (by kernel_rfl) (by kernel_rfl) (ds:=[.int t.root,.str P.came,.int (P.W st).state,.val (.ref aS),ZS (P.W st)])
  (args_cons cx4.Yz rfl (by rw[F.root];exact aa hH cx4 (cs:=[]) (by rfl) trivial) (args_cons cx4.Yz rfl (aa hH cx4 (d:=.str P.came) (cs:=[(af ".\r\n\r\nz").length+P.tail.length≤sizeLine]) (by rfl) ⟨?_,trivial⟩)
   (args_cons cx4.Yz rfl (aa hH cx4 (d:=.int st) (cs:=[]) (by rfl) trivial) (args_cons cx4.Yz rfl (aa hH cx4 (d:=.val (.ref aS)) (cs:=[]) (by rfl) trivial) (args_cons cx4.Yz rfl (aa hH cx4 (d:=ZS (P.W st)) (cs:=[]) (by rfl) trivial) args_nil)))))
  (fun e he=>by simp only[dP,eu,or_false] at he;rcases he with rfl|rfl|rfl|rfl|rfl<;>rfl) (fun h=>by cases h) fun vs5 s5 u5 r5=>?_
 ·have:=P.vZ
  have lz:(af ".\r\n\r\nz").length=6:=by decide +kernel
  rw[lz,c9];exact Uq this
 have fx5:=fx4.pu u5
 have hin:(aS,D.lst [])∈[(aS,D.lst []),(aRn,D.lst done)]:=ay
 have hsz:([]:List D).length+t.size≤100:=by rw[F.size];decide
 have p5:Z1 (fun b=>dj env Z4 [aRn] b∨b=aS) (frs (env::outer)) s s5:=.YJ ((ZG.mono fun a h=>.inl (.inl h)).trans (.YB (u3.trans (u3'.trans u5))))
 refine BZ (F.w st) 5 t (by have:=F.ht;exact UV this) (gz _) (F.tree st) (A:=A) (fx5.mx.cx.a.mono (by exact Uo)) fx5.mx.cx.Yz fx5.mx.cx.base fx5.frames fx5.ZR (fun a ha=>⟨(fx5.Zk a ha).1,(fx5.Zk a ha).2,fun q=>fx5.a0N _ hin (by rw[q] at ha;exact ha)⟩) (fx5.mx.mu.x _ hin) (fx5.mx.mu.big _ hin) (fx5.mx.mu.at_ _ hin)
  hsz (F.text st) r5 (fun v s6 hok p6 m6 r6=>?_) (fun e s6 hno hr=>?_)
 ·rw[sq] at m6
  have fx6:=Fx.turn (YC:=[]) (YM:=[_]) fx5 p6 (fun L h=>h) m6
  refine kC ⟨by rw[c9];simp,?_⟩
  have u7:Pu s6 {s6 with heap:=s6.heap.push {cls:=.type "tuple",data:=.seq [.int 1 s3.toks,v].toArray}}:=Pu.YK _ _
  refine kC ?_
  have fx7:=fx6.pu u7
  have rT:Rep w (s6.heap.push {cls:=.type "tuple",data:=.seq [.int 1 s3.toks,v].toArray}) X4 (Bw (P.W st) t P.came) (.ref s6.heap.objs.size):=by
   unfold Bw
   rw[if_pos hok]
   exact⟨_,#[.int 1 s3.toks,v],rfl,⟨_,ck _ rfl⟩,fx6.mx.cx.Yz.new,aX.up dC [.int 1,aj (ask (P.W st) t P.came).told] [.int 1 s3.toks,v] (.cons cI (.one r6))⟩
  refine gq (YC:=[_]) (YM:=[]) fx7.mx rT (fz (by rw[c9];exact KR hd)) fun s8 pb8 m8=>?_
  refine dS (dS (fin s8 m8 (((p5.trans (p6.mono (fun a h=>.inr h) fun Y h=>h)).trans (.YB u7)).trans (.YJ (pb8.mono fun a h=>.inl (.inr (by rw[h];first|exact .head _|exact .tail _ (.head _)|exact .tail _ (.tail _ (.head _)))))))))
 ·obtain ⟨e',dx,td,s0,rfl,pS,mS,hat,hdx,rtd,fly,hg,hd',ho⟩:=hr
  rw[sq] at mS
  have f0:=Fx.turn (YC:=[]) (YM:=[_]) fx5 pS (fun L h=>h) mS
  refine uW (H:=T5) (YC:=[_]) (YM:=[]) (d':=Bw (P.W st) t P.came) f0 fly hg hd' ho hat hdx rtd (by rw[c9];exact KR hd) ⟨by kernel_rfl,by kernel_rfl,by decide +kernel⟩ (by kernel_rfl) (by rfl) (bD (by kernel_rfl)) (by rfl) (by decide +kernel) (by decide +kernel) rfl (by kernel_rfl)
   (by unfold Bw;rw[if_neg (by rw[hno];simp)];exact BL (by kernel_rfl) (by decide +kernel)) fun s7 p7 f7=>?_
  exact fin s7 f7.mx ((p5.trans (pS.mono (fun a h=>.inr h) fun Y h=>h)).trans (p7.mono (fun a h=>.inl h) fun Y h=>h))
set_option maxHeartbeats 16000000 in
theorem Oc {t:Tr}(F:xP P t)(fx:Fx w (40+n) A X env Z4 (lw4 P) [] outer s){Q:zh→aE→Prop}{E:bX→aE→Prop}{rest:List Stmt}(hr:rest=YG.drop 12)
  (hQ:∀a X' s',s.heap.get? a=none→(∀b,X b→X' b)→Z1 (dj env Z4 [a]) (frs (env::outer)) s s'→Mx w (40+n) A X' env Z4 (lw5 P a) [(a,.lst (P.runs t))] s'→cE (cS PW w) A (oz rest env) Q E s'):cE (cS PW w) A (oz (YG.drop 10) env) Q E s:=by
 subst hr
 have hH:=(eZ w).mono (K':=40+n) (by exact pJ)
 refine aH (iR fx.mx (x:=wRn) (bD (by kernel_rfl)) fun aRn s1 hn1 ZG m1=>?_)
 have fx1:=fx.add ZG hn1 m1 fun Y h=>.inl h
 generalize hX4:(fun b=>X b∨b=aRn)=X4 at fx1
 have gX:∀a,X a→X4 a:=fun a h=>by rw[←hX4];exact .inl h
 clear m1
 refine aH (yU (n:=3) (V:=fun Z=>lw5 P aRn) (M:=fun i=>[(aRn,.lst ((P.states.take i).map fun st=>Bw (P.W st) t P.came))]) (fun i=>.int (P.states.getD i 0)) _ [aRn] fx1 (by kernel_rfl) (by kernel_rfl)
  (az hH _ _ (l:=P.states.map .int) (by rfl) ?_ fx1.mx.cx (by kernel_rfl) (fun d Y=>.inl (by kernel_rfl))) (by rfl) (fun Z=>rfl) (fun Z=>rfl) (fun i hi3=>?_) fun s4 p4 fx4=>?_)
 ·repeat' (first|exact trivial|exact Iz (by rfl)|refine av ?_ ?_|exact⟨_,rfl⟩|decide)
 ·intro X5 s2 Q3 E3 fx2 hXX hQ3
  have hl:((P.states.take i).map fun st=>Bw (P.W st) t P.came).length≤3:=by rw[bP];exact ai (L8 ..) (fz hi3)
  refine Ej F hl fx2 fun s3 p3 m3=>hQ3 s3 p3 ?_
  rw[fK (d:=0) (show i<P.states.length from hi3),g9]
  exact m3
 ·exact hQ aRn X4 s4 hn1 gX ((Z1.YJ (ZG.mono fun a h=>.inl h)).trans p4) fx4.mx
end
end
section
section
variable {w:gp}{k n:Nat}{A:Around}{X X':Addr→Prop}{env:UI}{outer:List UI}{sc:Scope}{ρ ρ':Yx}{s s' s'':aE}{μ YC YM:YX}{P:LP}
theorem qN (m:KD):kdOf (m.map (fun x=>x.1)) (m.map (fun x=>x.2))=m:=by unfold kdOf;simp[LI,N9]
theorem vU {a:Addr}{m:KD}(mx:Mx w k A X env sc ρ (YC++(a,aj m)::YM) s){x:Str}{px ap cp pos:UK}{Q:zh→aE→Prop}{E:bX→aE→Prop}(hx:aV w A X (ku (.Name x px) env) (.val (.ref a)) s)(hm:m.length≤1000)(hline:(ap.endLine==cp.line)=true)
  (hQ:∀s',YF (dj env sc [a]) s s'→Mx w k A X env sc ρ (YC++(a,aj [])::YM) s'→Q .next s') :
  cE (cS PW w) A (Nn (.Expr (.Call (.Attribute (.Name x px) (af "clear") ap) [] [] cp) pos) env) Q E s:=by
 refine AE ?_ (by unfold CY;rw[mx.cx.vis.eqs,mx.cx.vis.kind];rfl) rfl
 refine k9 rfl rfl hline (hx.now _ _ fun v s1 u1 r1=>?_)
 obtain rfl:=r1
 have m1:=mx.pu u1
 have hin:(a,aj m)∈YC++(a,aj m)::YM:=by simp
 obtain ⟨kvs,hd,hk,hr⟩:=(m1.mu.at_ _ hin).d
 have hlen:kvs.length=m.length:=by have:=congrArg CS hk;simpa using this
 refine⟨"dict",_,BI,FH,PySem.F.type_dict_clear,hd.typeIs,fun b e=>?_,iL rfl (AP ?_)⟩
 ·cases e;obtain ⟨o,ho,_,h2⟩:=jt hd;exact⟨o,ho,h2⟩
 refine N1 FH hd.typeIs PySem.F.entry_dict_clear (PySem.F.args_dict_clear_1 _) (meets_dict_clear (SK w) a) ⟨kvs,hd,by rw[hlen,c9];exact TY hm hlen,fun h' hmm hs=>?_⟩
 have YZ:=m1.mu.YZ hin
 have pb:YF (fun x=>x=a) s1 {s1 with heap:=h'}:=⟨fun b o e Z z=>hs.extBut b o z e,fun Z9=>by obtain ⟨vs,e⟩:=Z9;exact⟨vs,hs.extBut _ _ (i7 YZ) e⟩,id,rfl,rfl⟩
 exact hQ _ ((YF.YB u1).trans (pb.mono fun b e=>.inr (bS.mpr e))) (m1.turn pb (d':=aj []) (.dct _ _ [] rfl hmm rfl aX.nil))
theorem t8 (hH:au w T5 k)(cx:Cx w k A X env sc ρ s){f:Str}{fp pos:UK}{e1 e2:PySem.Expr}{m1 m2:KD}(hk:sc.names.lookup f=some .globalImplicit)(hg:cH f=some (.val (.ref 66)))(h1:aV w A X (ku e1 env) (aj m1) s)(h2:aV w A X (ku e2 env) (aj m2) s)
  (hs1:isStarred e1=false) (hs2:isStarred e2=false) (hkd:Kinds m1 m2) (hn:(m1.map (fun x=>x.1)).Nodup) (hl:m1.length+m2.length≤1000):aV w A X (ku (.Call (.Name f fp) [e1,e2] [] pos) env) (aj (aF m1 m2)) s:=by
 have e:T5.fn 66 [aj m1,aj m2]=some (aj (aF m1 m2),[(m1.map (fun x=>x.1)).length=(m1.map (fun x=>x.2)).length,(m2.map (fun x=>x.1)).length=(m2.map (fun x=>x.2)).length,Kinds m1 m2,(m1.map (fun x=>x.1)).Nodup,(m1.map (fun x=>x.1)).length+(m2.map (fun x=>x.1)).length≤1000]):=by
  show some (aj (aF (kdOf (m1.map (fun x=>x.1)) (m1.map (fun x=>x.2))) (kdOf (m2.map (fun x=>x.1)) (m2.map (fun x=>x.2)))),[_,_,Kinds (kdOf (m1.map (fun x=>x.1)) (m1.map (fun x=>x.2))) (kdOf (m2.map (fun x=>x.1)) (m2.map (fun x=>x.2))),_,_])=_
  rw[qN,qN]
 exact jr (a:=66) (ds:=[aj m1,aj m2]) hH cx (bZ cx hk hg) (args_cons cx.Yz hs1 h1 (args_cons cx.Yz hs2 h2 args_nil)) (fun e he=>by simp only[dP,eu,or_false] at he;rcases he with rfl|rfl<;>assumption) (fun h=>by cases h) (by decide +kernel) e
  ⟨by simp,by simp,hkd,hn,by simpa using hl,trivial⟩
end
end
section
noncomputable abbrev wBo:Str:=af "book"
noncomputable abbrev wPa:Str:=af "pairs"
noncomputable abbrev wTo:Str:=af "told"
noncomputable abbrev wKi:Str:=af "kind"
structure Zb where
 b1:Int
 m1:KD
 b2:Int
 m2:KD
 b3:Int
 m3:KD
noncomputable def Zb.runs (R:Zb):List D:=[.tup [.int R.b1,aj R.m1],.tup [.int R.b2,aj R.m2],.tup [.int R.b3,aj R.m3]]
noncomputable def Zb.tabs (R:Zb):List KD:=[R.m1,R.m2,R.m3]
noncomputable def Zb.book (R:Zb):KD:=aF (aF R.m1 R.m2) R.m3
noncomputable def rm (m:KD):KD:=m.map fun p=>(p.1,.tup [p.2,.int 1])
noncomputable def bM (ms:List KD):KD:=ms.foldl (fun acc m=>aF acc (rm m)) []
structure J8 (R:Zb):Prop where
 nd:∀m∈R.tabs,(m.map (fun x=>x.1)).Nodup
 ii:∀m∈R.tabs,∀p∈m,IsI p.2
 len:∀m∈R.tabs,m.length≤100
noncomputable abbrev lw6 (P:LP)(R:Zb):Yx:=(wRn,.lst R.runs)::lw4 P
noncomputable abbrev lw7 (P:LP)(R:Zb):Yx:=(wPa,aj (bM R.tabs))::(wBo,aj R.book)::lw6 P R
theorem Z5:∀(r m:KD),(m.map (fun x=>x.1)).Nodup→((aF m r).map (fun x=>x.1)).Nodup
 | [],m,h=>h
 |(k,d)::r,m,h=>Z5 r (dX m k d) (rC _ _ _ h)
theorem Zw:∀(r m:KD),(∀p∈m,IsI p.2)→(∀p∈r,IsI p.2)→∀p∈aF m r,IsI p.2
 | [],m,h,_=>h
 |(k,d)::r,m,h,hr=>by
  have:Kinds m ((k,d)::r):=.inl ⟨h,hr⟩
  have h2:=Kinds.step this
  refine Zw r (dX m k d) ?_ fun p hp=>hr p (bE _ hp)
  intro p hp
  obtain ⟨i,hi⟩:=hr (k,d) ay
  rcases gM hp with q|q|⟨o,ho,q⟩
  ·exact h p q
  ·exact⟨i,q.trans hi⟩
  ·obtain ⟨j,hj⟩:=h _ ho
   exact⟨j+i,by rw[q,show d=_ from hi,show o=.int j from hj];rfl⟩
theorem a0G:∀(r m:KD),(∀p∈m,IsP p.2)→(∀p∈r,IsP p.2)→∀p∈aF m r,IsP p.2
 | [],m,h,_=>h
 |(k,d)::r,m,h,hr=>by
  refine a0G r (dX m k d) ?_ fun p hp=>hr p (bE _ hp)
  intro p hp
  obtain ⟨i,i',hi⟩:=hr (k,d) ay
  rcases gM hp with q|q|⟨o,ho,q⟩
  ·exact h p q
  ·exact⟨i,i',q.trans hi⟩
  ·obtain ⟨j,j',hj⟩:=h _ ho
   exact⟨i+j,i'+j',by rw[q,show d=_ from hi,show o=.tup [.int j,.int j'] from hj];rfl⟩
theorem zQ {m:KD}(h:∀p∈m,IsI p.2):∀p∈rm m,IsP p.2:=by
 intro p hp
 obtain ⟨q,hq,rfl⟩:=eg.mp hp
 obtain ⟨i,hi⟩:=h q hq
 exact⟨i,1,by show D.tup [q.2,.int 1]=_;rw[hi]⟩
theorem jf (m:KD):(rm m).map (fun x=>x.1)=m.map (fun x=>x.1):=by unfold rm;rw[kH];rfl
theorem jH {m:KD}(h:(m.map (fun x=>x.1)).Nodup):∀{p:Str×D},p∈m→Zg m p.1=some p.2:=by
 induction m with
 |nil=>intro p hp;cases hp
 |cons q m ih=>
  intro p hp
  rw[dc,ja] at h
  unfold Zg
  rw[k6]
  rcases dP.mp hp with rfl|hp
  ·simp
  ·have:q.1≠p.1:=fun e=>h.1 (e▸i6 (f:=zI) hp)
   rw[show decide (q.1=p.1)=false from decide_eq_false this]
   exact ih h.2 hp
theorem vI {m:KD}(h:(m.map (fun x=>x.1)).Nodup):∀(m':KD),(∀p∈m',p∈m)→((m'.map (fun x=>x.1)).map D.str).flatMap (fun d=>aL true [(d.toStr,D.tup [(((m.map (fun x=>x.1)).zip (m.map (fun x=>x.2))).lookup d.toStr).getD .none,.int 1])])=rm m'
 | [],_=>rfl
 |p::m',hs=>by
  have ih:=vI h m' fun q hq=>hs q (bE _ hq)
  rw[dc,dc,fk,ih]
  show [(p.1,D.tup [(((m.map (fun x=>x.1)).zip (m.map (fun x=>x.2))).lookup p.1).getD .none,.int 1])]++rm m'=(p.1,.tup [p.2,.int 1])::rm m'
  rw[fu,jH h (hs p ay)]
  rfl
section
variable {w:gp}{k n:Nat}{A:Around}{X X':Addr→Prop}{env:UI}{outer:List UI}{sc:Scope}{ρ ρ':Yx}{s s' s'':aE}{μ YC YM:YX}{P:LP}{R:Zb}
theorem pg (cx:Cx w k A X env sc ρ s){kx vx target iter:PySem.Expr}{ifs:List PySem.Expr}{scope:Scope}{pos:UK}{l:List D}{f:D→Bool×Str×D}{m:KD}(e:(l.flatMap fun d=>aL (f d).1 [(f d).2])=m)(hnd:(m.map (fun x=>x.1)).Nodup)(hlen:l.length≤sizeLine)
  (hok:cO scope sc=true) (hn:bw scope (ak target)) (ZF:cJ iter=false) (src:Src w A X target iter env l s) (each:G5 w k A sc scope ρ target ifs kx vx l f) :
  aV w A X (ku (.DictComp kx vx [⟨target,iter,ifs,0⟩] scope pos) env) (aj m) s:=(pU cx e hnd hlen hok hn ZF src each).snd.ev
theorem um (hR:J8 R):∀i,i≤3→(∀p∈bM (R.tabs.take i),IsP p.2)∧((bM (R.tabs.take i)).map (fun x=>x.1)).Nodup∧(bM (R.tabs.take i)).length≤100*i:=by
 intro i
 induction i with
 |zero=>intro _;simp[bM]
 |succ i ih=>
  intro hi
  obtain ⟨h1,h2,h3⟩:=ih (by exact V9 hi)
  obtain ⟨m,hm,e⟩:∃m,m∈R.tabs∧R.tabs.take (i+1)=R.tabs.take i++[m]:=by
   have:i=0∨i=1∨i=2:=by exact Qs hi
   rcases this with rfl|rfl|rfl
   ·exact⟨R.m1,by simp[Zb.tabs],rfl⟩
   ·exact⟨R.m2,by simp[Zb.tabs],rfl⟩
   ·exact⟨R.m3,by simp[Zb.tabs],rfl⟩
  have ef:bM (R.tabs.take (i+1))=aF (bM (R.tabs.take i)) (rm m):=by unfold bM;rw[e,MM];rfl
  rw[ef]
  refine⟨a0G _ _ h1 (zQ (hR.ii m hm)),Z5 _ _ h2,ai (d8 _ _) ?_⟩
  have:=hR.len m hm
  have e2:(rm m).length=m.length:=by unfold rm;simp
  rw[e2];exact Qo h3 this e2
set_option maxHeartbeats 8000000 in
theorem Od (hR:J8 R)(mx:Mx w (40+n) A X env Z4 (lw6 P R) [] s){Q:zh→aE→Prop}{E:bX→aE→Prop}{rest:List Stmt}(hr:rest=YG.drop 15)
  (hQ:∀s',YF (Own env Z4) s s'→Mx w (40+n) A X env Z4 (lw7 P R) [] s'→cE (cS PW w) A (oz rest env) Q E s'):cE (cS PW w) A (oz (YG.drop 12) env) Q E s:=by
 subst hr
 have hH:=(eZ w).mono (K':=40+n) (by exact pJ)
 have i1:R.m1∈R.tabs:=by simp[Zb.tabs]
 have i2:R.m2∈R.tabs:=by simp[Zb.tabs]
 have i3:R.m3∈R.tabs:=by simp[Zb.tabs]
 have l1:=hR.len _ i1
 have l2:=hR.len _ i2
 have l3:=hR.len _ i3
 have l12:=d8 R.m2 R.m1
 have Iw:∀{a b c:D},[a,b,c].length≤sizeLine:=by intros;rw[c9];simp
 have xM:∀{a b:D},[a,b].length≤sizeLine:=by intros;rw[c9];simp
 refine aH (cg mx (x:=wBo) (d:=aj R.book) (bD (by kernel_rfl)) (t8 (m1:=aF R.m1 R.m2) (m2:=R.m3) hH mx.cx (by kernel_rfl) (by kernel_rfl)
  (t8 (m1:=R.m1) (m2:=R.m2) hH mx.cx (by kernel_rfl) (by kernel_rfl) (aa hH mx.cx (by rfl) ?_) (aa hH mx.cx (by rfl) ?_) (by rfl) (by rfl) (.inl ⟨hR.ii _ i1,hR.ii _ i2⟩) (hR.nd _ i1) (by exact Td l1 l2))
  (aa hH mx.cx (by rfl) ?_) (by rfl) (by rfl) (.inl ⟨Zw _ _ (hR.ii _ i1) (hR.ii _ i2),hR.ii _ i3⟩) (Z5 _ _ (hR.nd _ i1)) (by exact QB l1 l2 l3 l12)) (by kernel_rfl) fun s1 ZG m1=>?_)
 ·repeat' (first|exact Iw|exact xM|exact trivial|refine av ?_ ?_)
 ·repeat' (first|exact Iw|exact xM|exact trivial|refine av ?_ ?_)
 ·repeat' (first|exact Iw|exact xM|exact trivial|refine av ?_ ?_)
 refine aH (cg m1 (x:=wPa) (d:=aj []) (bD (by kernel_rfl)) (aa hH m1.cx (cs:=[]) (by rfl) trivial) (by kernel_rfl) fun s2 Zc m2=>?_)
 let B:Yx:=(wBo,aj R.book)::lw6 P R
 have a5c:∀{i:Nat},i<3→R.tabs.getD i []∈R.tabs∧bM (R.tabs.take (i+1))=aF (bM (R.tabs.take i)) (rm (R.tabs.getD i [])):=fun h=>by
  rcases om6 h with rfl|rfl|rfl
  ·exact⟨i1,rfl⟩
  ·exact⟨i2,rfl⟩
  ·exact⟨i3,rfl⟩
 refine aH (jL (n:=3) (V:=fun i=>(wPa,aj (bM (R.tabs.take i)))::B) (M:=fun Z=>[]) (fun i=>.tup [.int ([R.b1,R.b2,R.b3].getD i 0),aj (R.tabs.getD i [])]) _ [] m2 (by kernel_rfl) (by kernel_rfl)
  (az hH _ _ (l:=R.runs) (cs:=[]) (by rfl) trivial m2.cx (by kernel_rfl) (fun d hd=>.inr ⟨by kernel_rfl,by
   simp only[Zb.runs,dP,eu,or_false] at hd
   rcases hd with rfl|rfl|rfl<;>exact⟨_,rfl⟩⟩)) (by rfl) (fun Z=>rfl) (fun Z=>rfl) (fun i hi3=>?_) fun s4 pb4 m4=>?_)
 ·intro X3 s3 Q3 E3 m3 hXX hQ3
  obtain ⟨hm,hp⟩:=a5c hi3
  generalize R.tabs.getD i []=m at hm hp m3
  have hnd:=hR.nd m hm
  have hlm:=hR.len m hm
  obtain ⟨g1,g2,g3⟩:=um hR i (fz hi3)
  have hlo:(rm m).length=m.length:=by unfold rm;simp
  have e0:=vI hnd m fun p hp=>hp
  have ek':True:=trivial
  have ek:((((m.map (fun x=>x.1)).map D.str).flatMap (fun d=>aL true [(d.toStr,D.tup [(((m.map (fun x=>x.1)).zip (m.map (fun x=>x.2))).lookup d.toStr).getD .none,.int 1])])).map (fun x=>x.1)).Nodup:=by rw[e0,jf];exact hnd
  refine aH (cg m3 (x:=wPa) (d:=aj (aF (bM (R.tabs.take i)) (rm m))) (bD (by kernel_rfl)) (t8 hH m3.cx (by kernel_rfl) (by kernel_rfl) (aa hH m3.cx (cs:=[]) (by rfl) trivial) ?_ (by rfl) (by rfl) (.inr ⟨g1,zQ (hR.ii m hm)⟩) g2 (ai (fy (ai g3 (gE 100 (fz hi3))) (ai (ee hlo) hlm)) (by decide))) (by kernel_rfl) fun s4 pb4 m4=>?_)
  ·refine pg (l:=(m.map (fun x=>x.1)).map D.str) (f:=fun d=>(true,d.toStr,D.tup [(((m.map (fun x=>x.1)).zip (m.map (fun x=>x.2))).lookup d.toStr).getD .none,.int 1])) m3.cx e0 (by rw[jf];exact hnd) (by rw[bP,bP,c9];exact Rd hlm hlo) (by kernel_rfl) (fun x hx=>?_) (by kernel_rfl)
    (az hH _ _ (l:=(m.map (fun x=>x.1)).map .str) (cs:=[]) (by rfl) trivial m3.cx (by kernel_rfl) (fun d Z=>.inl (by kernel_rfl))) (fun d hd=>⟨_,rfl,fun X' cenv s' cx=>⟨aW _,fun Z=>?_⟩⟩)
   ·have hx:x=af "name":=bS.mp hx
    subst hx
    exact .inl (by kernel_rfl)
   ·obtain ⟨key,hkey,rfl⟩:=eg.mp hd
    exact⟨aa hH cx (cs:=[]) (by rfl) trivial,aa hH cx (by rfl) (by repeat' (first|exact hkey|exact trivial|refine av ?_ ?_))⟩
  ·refine dS (hQ3 s4 (pb4.mono fun a h=>.inl h) ?_)
   rw[hp]
   refine m4.Zf ?_
   exact allAt (av rfl (av rfl (av rfl (av rfl (av rfl (av rfl (av rfl (av rfl (av rfl (av rfl (av rfl (av rfl (av rfl (av rfl trivial))))))))))))))
 ·exact hQ s4 ((ZG.trans Zc).trans (pb4.mono fun a h=>h.elim id fun q=>by simp at q)) m4
end
end
section
noncomputable abbrev wSp:Str:=af "spare"
section
variable {w:gp}{k n:Nat}{A:Around}{X X':Addr→Prop}{env:UI}{outer:List UI}{sc:Scope}{ρ ρ':Yx}{s s' s'':aE}{μ YC YM:YX}{P:LP}{R:Zb}
theorem of_pure {α β:Type}{M:TM}{v:α}{f:α→UM β}{Q:β→aE→Prop}{E E':bX→aE→Prop}(h:cE M A (AS v) (fun x s1=>cE M A (f x) Q E s1) E' s):cE M A (f v) Q E s:=fun Γ p hΓ=>by
 have:=h Γ p hΓ
 simp only[UM.wp_pure'] at this
 exact this Γ p hΓ
theorem Hh {h:Heap}{a:Addr}{m:KD}(hm:cB w h X a (aj m))(hi:∀p∈m,IsI p.2):cB w h X' a (aj m):=by
 obtain ⟨kvs,h1,h2,h3⟩:=hm.d
 exact .dct _ _ kvs rfl h1 h2 (lW h3 fun d hd=>by obtain ⟨p,hp,rfl⟩:=eg.mp hd;exact hi p hp)
theorem vD (mx:Mx w (40+n) A X env sc ρ μ s){f:Str}{fp pos:UK}{e1 e2:PySem.Expr}{m1 m2:KD}{Q E:bX→aE→Prop}(hk:sc.names.lookup f=some .globalImplicit)(hg:cH f=some (.val (.ref 66)))(h1:aV w A X (ku e1 env) (aj m1) s)(h2:aV w A X (ku e2 env) (aj m2) s)
  (hs1:isStarred e1=false) (hs2:isStarred e2=false) (hi1:∀p∈m1,IsI p.2) (hi2:∀p∈m2,IsI p.2) (hn:(m1.map (fun x=>x.1)).Nodup) (hl:m1.length+m2.length≤1000)
  (hQ:∀b s',s.heap.get? b=none→Pu s s'→Mx w (40+n) A (fun a=>X a∨a=b) env sc ρ ((b,aj (aF m1 m2))::μ) s'→Q (.ref b) s'):cE (cS PW w) A (ku (.Call (.Name f fp) [e1,e2] [] pos) env) Q E s:=by
 refine dM mx.cx (a:=66) (params:=bU "add_callers") (body:=dZ "add_callers") (sc':=cF "add_callers") hk hg (by kernel_rfl) (ds:=[aj m1,aj m2]) (args_cons mx.cx.Yz hs1 h1 (args_cons mx.cx.Yz hs2 h2 args_nil)) (fun e he=>by simp only[dP,eu,or_false] at he;rcases he with rfl|rfl<;>assumption) (fun h=>by cases h) fun vs s1 u1 r1=>?_
 have m1':=mx.pu u1
 refine xW (k:=33+n) ((G8 w).mono (by exact Ue)) (m1'.cx.a.mono (by exact Uc)) m1'.cx.Yz m1'.cx.base r1 (.inl ⟨hi1,hi2⟩) hn hl fun b s2 u2 hnb hb hm=>?_
 have hn0:s.heap.get? b=none:=cQ (.YB u1 (Z:=fun Y=>False) (fr:=[])) hnb id (fun q=>by rw[q] at hb;exact absurd hb (by decide))
 exact hQ b s2 hn0 (u1.trans u2) (m1'.add u2 hnb hb (Hh hm (Zw _ _ hi1 hi2)))
set_option maxHeartbeats 8000000 in
theorem Oe (hR:J8 R)(mx:Mx w (40+n) A X env Z4 (lw7 P R) [] s){Q:zh→aE→Prop}{E:bX→aE→Prop}{rest:List Stmt}(hr:rest=YG.drop 16)
  (hQ:∀s',YF (Own env Z4) s s'→Mx w (40+n) A X env Z4 (lw7 P R) [] s'→cE (cS PW w) A (oz rest env) Q E s'):cE (cS PW w) A (oz (YG.drop 15) env) Q E s:=by
 subst hr
 have hH:=(eZ w).mono (K':=40+n) (by exact pJ)
 have i1:R.m1∈R.tabs:=by simp[Zb.tabs]
 have i2:R.m2∈R.tabs:=by simp[Zb.tabs]
 have i3:R.m3∈R.tabs:=by simp[Zb.tabs]
 have bi:∀p∈R.book,IsI p.2:=Zw _ _ (Zw _ _ (hR.ii _ i1) (hR.ii _ i2)) (hR.ii _ i3)
 have bn:(R.book.map (fun x=>x.1)).Nodup:=Z5 _ _ (Z5 _ _ (hR.nd _ i1))
 have bl:R.book.length≤300:=by
  have:=hR.len _ i1;have:=hR.len _ i2;have:=hR.len _ i3
  have h1:=d8 R.m2 R.m1
  have h2:=d8 R.m3 (aF R.m1 R.m2)
  unfold Zb.book;exact Q0 (by assumption) (by assumption) this h1 h2
 refine aH (OB ?_ (lZ (by kernel_rfl) env))
 refine Mc (iX ?_ (ao rfl))
 refine vD mx (m1:=[]) (m2:=R.book) (by kernel_rfl) (by kernel_rfl) (aa hH mx.cx (d:=aj []) (cs:=[]) (by rfl) trivial) (aa hH mx.cx (d:=aj R.book) (cs:=[]) (by rfl) trivial) (by rfl) (by rfl) (by simp) bi (by decide) (by simp;exact Lk bl) fun b1 s1 hn1 u1 m1=>?_
 refine iX ?_ (ao rfl)
 refine vD m1 (m1:=R.book) (m2:=[]) (by kernel_rfl) (by kernel_rfl) (aa hH m1.cx (d:=aj R.book) (cs:=[]) (by rfl) trivial) (aa hH m1.cx (d:=aj []) (cs:=[]) (by rfl) trivial) (by rfl) (by rfl) bi (by simp) bn (by simp;exact Lk bl) fun b2 s2 hn2 u2 m2=>?_
 refine kC ⟨by rw[c9];simp,?_⟩
 generalize hX2:(fun a=>(X a∨a=b1)∨a=b2)=X2 at m2
 have gX:∀a,X a→X2 a:=fun a h=>by rw[←hX2];exact .inl (.inl h)
 have u3:Pu s2 {s2 with heap:=s2.heap.push {cls:=.type "list",data:=.seq [.ref b1,.ref b2].toArray}}:=Pu.YK _ _
 have m3:=m2.pu u3
 have rL:Rep w (s2.heap.push {cls:=.type "list",data:=.seq [.ref b1,.ref b2].toArray}) X2 (.lst [.val (.ref b1),.val (.ref b2)]) (.ref s2.heap.objs.size):=by
  exact⟨_,#[.ref b1,.ref b2],rfl,⟨_,ck _ rfl⟩,m2.cx.Yz.new,aX.up dC [.val (.ref b1),.val (.ref b2)] [.ref b1,.ref b2] (.cons cU (.one cU))⟩
 have a4T:s.heap.get? b2=none:=cQ (.YB u1 (Z:=fun Y=>False) (fr:=[])) hn2 id (m2.mu.YZ (p:=(b2,_)) ay)
 have hm1:(aF [] R.book).length≤1000:=by have:=d8 R.book [];simp at this;exact KN bl this
 have hm2:(aF R.book []).length≤1000:=by have:=d8 [] R.book;simp at this;exact KN bl this
 let M:Nat→YX
  | 0=>[(b2,aj (aF R.book [])),(b1,aj (aF [] R.book))]
  | 1=>[(b2,aj (aF R.book [])),(b1,aj [])]
  |_=>[(b2,aj []),(b1,aj [])]
 let dat:Nat→D
  | 0=>.val (.ref b1)
  |_=>.val (.ref b2)
 refine of_pure (v:=sf s2.heap.objs.size) (yV (tm:=AS (sf s2.heap.objs.size)) (n:=2) (V:=fun Z=>lw7 P R) (M:=M) dat (fun i=>(af "spare",dat i)::lw7 P R) [b2,b1] m3 (l:=[.val (.ref b1),.val (.ref b2)])
  (by kernel_rfl) (qM m3.cx.a m3.cx.Yz (fun Q E hQ=>bg (hQ _ _ (Pu.refl _) rL)) (.inl (by kernel_rfl))) rfl (fun i=>by rcases i with _|_|i<;>rfl) (fun i=>rfl) (fun i hi {X3 s4 Q3 E3} m4 hXX hQ3=>?_) fun s5 pb5 m5=>?_)
 ·have hi:i=0∨i=1:=(F3.mp hi).imp (fun h=>JJ.mp h) id
  rcases hi with rfl|rfl
  ·refine aH (vU (YC:=[_]) (YM:=[]) m4 (aa hH m4.cx (cs:=[]) (by rfl) trivial) hm1 (by kernel_rfl) fun s6 pb6 m6=>?_)
   refine dS (hQ3 s6 (pb6.mono fun a h=>h.imp id fun h=>by simp at h;simp[h]) (m6.Zf ?_))
   exact allAt (av rfl (av rfl (av rfl (av rfl (av rfl (av rfl (av rfl (av rfl (av rfl (av rfl (av rfl (av rfl (av rfl (av rfl trivial))))))))))))))
  ·refine aH (vU (YC:=[]) (YM:=[_]) m4 (aa hH m4.cx (cs:=[]) (by rfl) trivial) hm2 (by kernel_rfl) fun s6 pb6 m6=>?_)
   refine dS (hQ3 s6 (pb6.mono fun a h=>h.imp id fun h=>by simp at h;simp[h]) (m6.Zf ?_))
   exact allAt (av rfl (av rfl (av rfl (av rfl (av rfl (av rfl (av rfl (av rfl (av rfl (av rfl (av rfl (av rfl (av rfl (av rfl trivial))))))))))))))
 ·have m6:Mx w (40+n) A X env Z4 (lw7 P R) [] s5:=(m5.a1y (ZJ:=[]) (List.nil_sublist _)).shrink mx rfl gX
  have a5o:=(u1.trans u2).trans u3
  refine hQ s5 (YF.a0I (Z:=Own env Z4) (Z':=fun a=>a=b1∨a=b2) a5o (pb5.mono fun a h=>h.imp id fun h=>by simp at h;exact h.symm) fun a o z e=>?_) m6
  rcases z with rfl|rfl
  ·rw[hn1] at e;exact YD e
  ·rw[a4T] at e;exact YD e
end
end
section
noncomputable abbrev wBi:Str:=af "bits"
noncomputable abbrev wSs:Str:=af "sets"
noncomputable def yd (c t:Int)(k:Nat):Int:=(c.fdiv (2 ^ k)+t).fmod 2
noncomputable def iK (c t:Int):List Int:=[yd c t 0,yd c t 1,yd c t 2,yd c t 3,yd c t 4,yd c t 5,yd c t 6]
noncomputable def LP.bits (P:LP):List (List Int):=[iK P.c3 0,iK P.c3 1,iK P.c4 0]
noncomputable abbrev Jb (P:LP):D:=.lst (P.bits.map fun r=>.lst (r.map .int))
noncomputable abbrev lw8 (P:LP)(R:Zb)(t:Tr):Yx:=(wSs,.lst (aJ (Yy t)))::(wBi,Jb P)::lw7 P R
section
variable {w:gp}{k n:Nat}{A:Around}{X X':Addr→Prop}{env:UI}{outer:List UI}{sc:Scope}{ρ ρ':Yx}{s s' s'':aE}{μ YC YM:YX}{P:LP}{R:Zb}
set_option maxHeartbeats 8000000 in
theorem Og {t:Tr}(a1J:t.root=0)(hht:t.ht≤3)(hsz:t.size≤7)(hfit:oH P.ab t)(hab:P.ab.length=7)(mx:Mx w (40+n) A X env Z4 (lw7 P R) [] s){Q:zh→aE→Prop}{E:bX→aE→Prop}{rest:List Stmt}(hr:rest=YG.drop 18)
  (hQ:∀s',YF (Own env Z4) s s'→Mx w (40+n) A X env Z4 (lw8 P R t) [] s'→cE (cS PW w) A (oz rest env) Q E s'):cE (cS PW w) A (oz (YG.drop 16) env) Q E s:=by
 subst hr
 have hH:=(eZ w).mono (K':=40+n) (by exact pJ)
 refine aH (dK hH mx (x:=wBi) (d:=Jb P) (bD (by kernel_rfl)) (by kernel_rfl) (by rfl) ?_ fun s1 ZG m1=>?_)
 ·repeat' (first|exact o5 (by rfl)|exact trivial|refine av ?_ ?_)
 refine aH (cg m1 (x:=wSs) (d:=.lst (aJ (Yy t))) (bD (by kernel_rfl)) ?_ (by kernel_rfl) fun s2 Zc m2=>?_)
 ·intro s' u Q E hQ
  have cx:=m1.cx.pu u
  refine dM cx (a:=216) (params:=bU "_law_sets") (body:=dZ "_law_sets") (sc':=scS) (by kernel_rfl) (by kernel_rfl) (by kernel_rfl) (ds:=[.int t.root,.lst (aq P.ab)]) (args_cons cx.Yz rfl (by rw[a1J];exact aa hH cx (cs:=[]) (by rfl) trivial) (args_cons cx.Yz rfl (aa hH cx (cs:=[]) (by rfl) trivial) args_nil))
   (fun e he=>by simp only[dP,eu,or_false] at he;rcases he with rfl|rfl<;>rfl) (fun h=>by cases h) fun vs s3 u3 r3=>?_
  have cx3:=cx.pu u3
  exact Aq hab 3 t hht hsz hfit (cx3.a.mono (by exact Ub)) cx3.Yz cx3.base r3 _ _ fun v s4 u4 r4=>hQ v s4 (u3.trans u4) r4
 exact hQ s2 (ZG.trans Zc) m2
end
end
section
noncomputable abbrev wDu:Str:=af "dues"
noncomputable abbrev wUp:Str:=af "ups"
noncomputable abbrev wDn:Str:=af "downs"
noncomputable abbrev wRk:Str:=af "ranks"
noncomputable abbrev wFi:Str:=af "first"
noncomputable abbrev wK:Str:=af "k"
namespace LP
noncomputable def beta (P:LP)(i p:Nat):Int:=(P.bits.getD i []).getD p 0
noncomputable def fits (P:LP)(i:Nat)(v:Int)(o:List Nat):Bool:=decide ((o.filter fun p=>decide (P.beta i p=v))=[])
noncomputable def sel (P:LP)(t:Tr)(i:Nat)(v:Int):List (List Nat):=(Yy t).filter (P.fits i v)
noncomputable def cu (P:LP)(t:Tr)(i:Nat):List (List Nat):=P.sel t i 0++P.sel t i 1
noncomputable def num (o:List Nat):Int:=(o.map fun p=>(2:Int) ^ p).sum
noncomputable def cost (P:LP)(o:List Nat):Int:=(o.map fun p=>((P.letter p).length:Int)).sum
noncomputable def rank (P:LP)(o:List Nat):D:=.tup [.int (num o),.int (P.cost o),.lst (aq o)]
noncomputable def key (P:LP)(o:List Nat):Int×Int:=(P.w0*P.cost o,P.w1*num o)
noncomputable def best (P:LP)(t:Tr)(i:Nat):List Nat:=(P.cu t i).getD (cM (fun j=>P.key ((P.cu t i).getD j [])) ((P.cu t i).length - 1)) []
noncomputable def FZ (P:LP)(o:List Nat):KD:=o.map fun p=>(P.nm.getD p Str.empty,.int (P.letter p).length)
noncomputable def due (P:LP)(o:List Nat):D:=.tup [.int (num o),.int (P.cost o)]
end LP
noncomputable def Zb.run (R:Zb)(i:Nat):Int×KD:=[(R.b1,R.m1),(R.b2,R.m2),(R.b3,R.m3)].getD i (0,[])
structure jF (P:LP)(R:Zb)(t:Tr):Prop where
 ne:∀i,i<3→P.cu t i≠[]
 inj:∀i,i<3→∀a b,a<(P.cu t i).length→b<(P.cu t i).length→a≠b→P.key ((P.cu t i).getD a [])≠P.key ((P.cu t i).getD b [])
 bit:∀i,i<3→(R.run i).1=if P.sel t i 0≠[] then 1 else 0
 tab:∀i,i<3→gj (R.run i).2 (P.FZ (P.best t i))
 lt:∀o∈Yy t,∀p∈o,p<7
 nd:∀o∈Yy t,o.Nodup
 size:t.size≤7
 nm:P.nm.length=7
 nmd:P.nm.Nodup
 ll:∀k,k<7→(P.letter k).length≤1000
theorem FT (l:List Nat):rV (D.lst (aq l)).py (D.lst []).py=decide (l=[]):=by
 cases l with
 |nil=>rfl
 |cons a l=>
  show rV (.list (pyL (aq (a::l)))) (.list [])=_
  rw[rV]
  rfl
theorem ZX:∀l:List Nat,a0P (aq l)
 | []=>trivial
 |a::l=>⟨trivial,ZX l⟩
theorem ZL:∀l:List Nat,qc (pyL (aq l))≤1
 | []=>by simp[aq,pyL,qc]
 |a::l=>by
  have:=ZL l
  unfold aq at this ⊢
  simp only[dc,pyL,qc,D.py]
  rw[PI]
  exact⟨by simp[uS],this⟩
theorem nT (l:List Nat):(D.lst (aq l)).py.depth≤64:=by
 have:=ZL l
 show uS (.list (pyL (aq l)))≤64
 simp only[uS]
 exact Ld this
noncomputable def unD (d:D):List Nat:=(Zz d).map fun x=>x.toInt.toNat
theorem iU (o:List Nat):unD (.lst (aq o))=o:=jU o
theorem pO (P:LP)(i:Nat)(v:Int):∀S:List (List Nat),(aJ S).flatMap (fun d=>aL (P.fits i v (unD d)&&true) [d])=aJ (S.filter (P.fits i v))
 | []=>rfl
 |o::S=>by
  have ih:=pO P i v S
  unfold aJ at ih ⊢
  rw[dc,fk,ih,t9,iU]
  cases P.fits i v o<;>rfl
theorem oN (P:LP)(i:Nat)(v:Int):∀o:List Nat,(aq o).flatMap (fun d=>aL (decide (P.beta i d.toInt.toNat=v)&&true) [d])=aq (o.filter fun p=>decide (P.beta i p=v))
 | []=>rfl
 |p::o=>by
  have ih:=oN P i v o
  unfold aq at ih ⊢
  rw[dc,fk,ih,t9]
  show aL (decide (P.beta i p=v)&&true) [D.int p]++_=_
  cases decide (P.beta i p=v)<;>rfl
theorem uV (P:LP){i:Nat}(hi:i<3):(P.bits.map fun r=>D.lst (r.map .int))[i]?=some (.lst ((P.bits.getD i []).map .int)):=by
 have:i=0∨i=1∨i=2:=by exact om6 hi
 rcases this with rfl|rfl|rfl<;>rfl
theorem oR (P:LP){i:Nat}(hi:i<3):(P.bits.getD i []).length=7:=by
 have:i=0∨i=1∨i=2:=by exact om6 hi
 rcases this with rfl|rfl|rfl<;>rfl
theorem ye (P:LP){i q:Nat}(hi:i<3)(hq:q<7):((P.bits.getD i []).map D.int)[q]?=some (.int (P.beta i q)):=by
 have:=oR P hi
 unfold LP.beta
 rw[gu,bq (l:=P.bits.getD i []),c8 (by exact om7 hq this)];rfl
section
variable {w:gp}{k n:Nat}{A:Around}{X X':Addr→Prop}{env:UI}{outer:List UI}{sc:Scope}{ρ ρ':Yx}{s s' s'':aE}{μ YC YM:YX}{P:LP}{R:Zb}
set_option maxHeartbeats 16000000 in
theorem GF {t:Tr}(F:jF P R t){i:Nat}(hi:i<3){aD:Addr}{dn:List D}(mx:Mx w (40+n) A X env Z4 ((wK,.int i)::(wDu,.val (.ref aD))::lw8 P R t) [(aD,.lst dn)] s){Q:zh→aE→Prop}{E:bX→aE→Prop}{rest body:List Stmt}(hb:body=Zy (YG.getD 19 nE))(hr:rest=body.drop 2)
  (hQ:∀s',YF (Own env Z4) s s'→Mx w (40+n) A X env Z4 ((wDn,.lst (aJ (P.sel t i 1)))::(wUp,.lst (aJ (P.sel t i 0)))::(wK,.int i)::(wDu,.val (.ref aD))::lw8 P R t) [(aD,.lst dn)] s'→cE (cS PW w) A (oz rest env) Q E s'):cE (cS PW w) A (oz body env) Q E s:=by
 have hH:=(eZ w).mono (K':=40+n) (by exact pJ)
 subst hr hb
 have hlS:(aJ (Yy t)).length≤sizeLine:=by
  have:=kZ t
  have h2:2 ^ t.size≤2 ^ 7:=lI (by exact a0H) F.size
  unfold aJ;rw[bP,c9];exact SM this h2
 have mx':Mx w (40+n) A X env Z4 ((wK,.int i)::(wDu,.val (.ref aD))::lw8 P R t) [(aD,.lst dn)] s∧True:=⟨mx,trivial⟩
 refine aH (gK mx (x:=wUp) (d:=.lst (aJ (P.sel t i 0))) (bD (by kernel_rfl)) (by kernel_rfl) ?_ fun s1 ZG m1=>?_)
 ·rw[show P.sel t i 0=(Yy t).filter (P.fits i 0) from rfl,←pO P i 0 (Yy t)]
  refine fZ (f:=fun d=>(P.fits i 0 (unD d)&&true,d)) mx.cx (by kernel_rfl) (fun x hx=>?_) (by kernel_rfl) (az hH _ _ (l:=aJ (Yy t)) (cs:=[]) (by rfl) trivial mx.cx (by kernel_rfl) (fun d Z=>.inl (by kernel_rfl))) (fun d hd=>⟨_,rfl,fun X' cenv s' cx=>⟨cD ?_ (aW _),fun Z=>?_⟩⟩) hlS
  ·have hx:x=af "one":=bS.mp hx
   subst hx
   exact .inl (by kernel_rfl)
  ·obtain ⟨o,ho,rfl⟩:=fG hd
   have hol:o.length≤7:=ai (fX t o ho) F.size
   rw[iU]
   unfold LP.fits
   refine(aM (op:=.Eq) (a:=.lst (aq (o.filter fun p=>decide (P.beta i p=0)))) (b:=.lst []) (d:=.bool (decide ((o.filter fun p=>decide (P.beta i p=0))=[]))) (cs:=[dO (.lst (aq (o.filter fun p=>decide (P.beta i p=0)))) (.lst [])]) cx.a cx.Yz ?_ (aa hH cx (d:=.lst []) (cs:=[]) (by rfl) trivial) ?_ ⟨⟨ZX _,trivial,nT _,by decide⟩,trivial⟩ (by kernel_rfl)).test _ rfl
   ·rw[←oN P i 0 o]
    refine bJ (f:=fun d=>(decide (P.beta i d.toInt.toNat=0)&&true,d)) cx (by kernel_rfl) (fun x hx=>?_) (by kernel_rfl) (az hH _ _ (l:=aq o) (cs:=[]) (by rfl) trivial cx (by kernel_rfl) (fun d Z=>.inl (by kernel_rfl))) (fun d hd=>⟨_,rfl,fun X'' a1A s'' YW=>⟨cD ?_ (aW _),fun Z=>?_⟩⟩) (by unfold aq;rw[bP,c9];exact M5 hol)
    ·have hx:x=af "p":=bS.mp hx
     subst hx
     exact .inl (by kernel_rfl)
    ·obtain ⟨q,hq,rfl⟩:=eg.mp hd
     have hq7:=F.lt o ho q hq
     exact(aM (op:=.Eq) (cs:=[]) (d:=.bool (decide (P.beta i q=0))) YW.a YW.Yz (b8 YW (l:=(P.bits.getD i []).map .int) (n:=q) (d:=.int (P.beta i q)) (b8 YW (l:=P.bits.map fun r=>.lst (r.map .int)) (n:=i) (d:=.lst ((P.bits.getD i []).map .int)) (aa hH YW (cs:=[]) (by rfl) trivial) (aa hH YW (cs:=[]) (by rfl) trivial) (by simp[LP.bits]) (uV P hi) aU) (aa hH YW (cs:=[]) (by rfl) trivial) (by rw[bP,oR P hi];exact a0h) (ye P hi hq7) aU) (aa hH YW (d:=.int 0) (cs:=[]) (by rfl) trivial) rfl trivial (by kernel_rfl)).test _ rfl
    ·exact aa hH YW (cs:=[]) (by rfl) trivial
   ·show some (D.bool (rV (D.lst (aq _)).py (D.lst []).py),_)=_
    rw[FT]
  ·exact aa hH cx (cs:=[]) (by rfl) trivial
 refine aH (gK m1 (x:=wDn) (d:=.lst (aJ (P.sel t i 1))) (bD (by kernel_rfl)) (by kernel_rfl) ?_ fun s2 Zc m2=>?_)
 ·rw[show P.sel t i 1=(Yy t).filter (P.fits i 1) from rfl,←pO P i 1 (Yy t)]
  refine fZ (f:=fun d=>(P.fits i 1 (unD d)&&true,d)) m1.cx (by kernel_rfl) (fun x hx=>?_) (by kernel_rfl) (az hH _ _ (l:=aJ (Yy t)) (cs:=[]) (by rfl) trivial m1.cx (by kernel_rfl) (fun d Z=>.inl (by kernel_rfl))) (fun d hd=>⟨_,rfl,fun X' cenv s' cx=>⟨cD ?_ (aW _),fun Z=>?_⟩⟩) hlS
  ·have hx:x=af "one":=bS.mp hx
   subst hx
   exact .inl (by kernel_rfl)
  ·obtain ⟨o,ho,rfl⟩:=fG hd
   have hol:o.length≤7:=ai (fX t o ho) F.size
   rw[iU]
   unfold LP.fits
   refine(aM (op:=.Eq) (a:=.lst (aq (o.filter fun p=>decide (P.beta i p=1)))) (b:=.lst []) (d:=.bool (decide ((o.filter fun p=>decide (P.beta i p=1))=[]))) (cs:=[dO (.lst (aq (o.filter fun p=>decide (P.beta i p=1)))) (.lst [])]) cx.a cx.Yz ?_ (aa hH cx (d:=.lst []) (cs:=[]) (by rfl) trivial) ?_ ⟨⟨ZX _,trivial,nT _,by decide⟩,trivial⟩ (by kernel_rfl)).test _ rfl
   ·rw[←oN P i 1 o]
    refine bJ (f:=fun d=>(decide (P.beta i d.toInt.toNat=1)&&true,d)) cx (by kernel_rfl) (fun x hx=>?_) (by kernel_rfl) (az hH _ _ (l:=aq o) (cs:=[]) (by rfl) trivial cx (by kernel_rfl) (fun d Z=>.inl (by kernel_rfl))) (fun d hd=>⟨_,rfl,fun X'' a1A s'' YW=>⟨cD ?_ (aW _),fun Z=>?_⟩⟩) (by unfold aq;rw[bP,c9];exact M5 hol)
    ·have hx:x=af "p":=bS.mp hx
     subst hx
     exact .inl (by kernel_rfl)
    ·obtain ⟨q,hq,rfl⟩:=eg.mp hd
     have hq7:=F.lt o ho q hq
     exact(aM (op:=.Eq) (cs:=[]) (d:=.bool (decide (P.beta i q=1))) YW.a YW.Yz (b8 YW (l:=(P.bits.getD i []).map .int) (n:=q) (d:=.int (P.beta i q)) (b8 YW (l:=P.bits.map fun r=>.lst (r.map .int)) (n:=i) (d:=.lst ((P.bits.getD i []).map .int)) (aa hH YW (cs:=[]) (by rfl) trivial) (aa hH YW (cs:=[]) (by rfl) trivial) (by simp[LP.bits]) (uV P hi) aU) (aa hH YW (cs:=[]) (by rfl) trivial) (by rw[bP,oR P hi];exact a0h) (ye P hi hq7) aU) (aa hH YW (d:=.int 1) (cs:=[]) (by rfl) trivial) rfl trivial (by kernel_rfl)).test _ rfl
    ·exact aa hH YW (cs:=[]) (by rfl) trivial
   ·show some (D.bool (rV (D.lst (aq _)).py (D.lst []).py),_)=_
    rw[FT]
  ·exact aa hH cx (cs:=[]) (by rfl) trivial
 exact hQ s2 (ZG.trans Zc) m2
end
end
section
section
variable {w:gp}{k n:Nat}{A:Around}{X X':Addr→Prop}{env:UI}{outer:List UI}{sc:Scope}{ρ ρ':Yx}{s s' s'':aE}{μ YC YM:YX}{P:LP}{R:Zb}
theorem pX (hX:Z6 X s){l r:PySem.Expr}{op:UD}{pos:UK}{a b:D}{x:Bool}(hl:aV w A X (ku l env) a s)(hr:aV w A X (ku r env) b s)
  (h:∀s' va vb,Pu s s'→Rep w s'.heap X a va→Rep w s'.heap X b vb→Ev w A X (wc op va vb) (.bool x) s') (hm:behindInMarks op r=false):Snd w A X (.Compare l [op] [r] pos) env (.bool x) s:=by
 have core:∀s',Pu s s'→∀(Q:bX→aE→Prop) (E:bX→aE→Prop),(∀v s'',Pu s' s''→Rep w s''.heap X (.bool x) v→Q v s'')→
   cE (cS PW w) A (ku l env) (fun a s₁=>cE (cS PW w) A (ku r env) (fun b s₂=>cE (cS PW w) A (wc op a b) Q E s₂) E s₁) E s':=by
  intro s' u Q E hQ
  refine(hl.pu u).now _ _ fun v s1 u1 r1=>(hr.pu (u.trans u1)).now _ _ fun v' s2 u2 r2=>?_
  exact h s2 v v' (u.trans (u1.trans u2)) (r1.up (u2.up hX.pt) _ _) r2 _ _ fun v'' s3 u3 r3=>hQ _ _ (u1.trans (u2.trans u3)) r3
 refine⟨fun s' u Q E hQ=>P8 (core s' u Q E hQ) hm,fun b hb s' u Q E hQ=>IA (core s' u _ E fun v s1 u1 r=>?_) hm⟩
 exact pY hb r (fun o a ho hc hq=>iT ho hc hq) (hQ _ u1)
theorem lK {H:Hooks}(hH:au w H k)(cx:Cx w k A X env sc ρ s){f:Str}{fp pos:UK}{e:PySem.Expr}{id:String}{a d:D}{cs:List Prop}(hk:sc.names.lookup f=some .globalImplicit)(hg:cH f=some (.val (.builtin id)))(he:aV w A X (ku e env) a s)(hst:isStarred e=false)(h:H.bi id [a]=some (d,cs))(hc:AllP cs):
  aV w A X (ku (.Call (.Name f fp) [e] [] pos) env) d s:=
 gw hH cx (bZ cx hk hg) (args_cons cx.Yz hst he args_nil) (fun e' h=>by simp at h;subst h;exact hst) (fun h=>by cases h) h hc
theorem Jr (cx:Cx w k A X env sc ρ s){f:Str}{fp pos:UK}{e:PySem.Expr}{L:List D}{key:Nat→Int×Int}(hk:sc.names.lookup f=some .globalImplicit)(hg:cH f=some (.val (.builtin "min")))(he:aV w A X (ku e env) (.lst L) s)(hst:isStarred e=false)
  (hL:0<L.length) (hlen:L.length≤1000) (hkey:∀i,i<L.length→∃z,L[i]?=some (.tup [.int (key i).1,.int (key i).2,z])) (hinj:∀i j,i<L.length→j<L.length→i≠j→key i≠key j):aV w A X (ku (.Call (.Name f fp) [e] [] pos) env) (L.getD (cM key (L.length - 1)) .none) s:=by
 intro s' u Q E hQ
 have cx':=cx.pu u
 refine kN ((bZ cx' hk hg).now _ _ fun v s1 u1 r1=>?_)
 obtain rfl:=r1
 have hpl:∀e'∈[e],isStarred e'=false:=fun e' h=>by simp at h;subst h;exact hst
 refine iL (YH hpl) (bc (args_cons cx'.Yz hst (he.pu u) args_nil) hpl (fun h=>by cases h) s1 u1 _ _ fun vs s2 u2 r2=>?_)
 obtain ⟨v,t,rfl,r3,rfl⟩:=r2
 exact Ck cx.a (cx'.pu (u1.trans u2)).Yz r3 hL hlen hkey hinj _ _ fun v3 s3 u3 r3=>hQ v3 s3 (u1.trans (u2.trans u3)) r3
theorem gP {c:Const}{kd:Nat}{px:UK}:∀p o v,C4 (.Constant c kd px) p o v=match p with|true=>Ll (.builtin "lifetime.subscript" ⟨[o,v],[]⟩)|false=>Kn [o,v] (CM o v):=by
 intro p o v;cases p<;>rfl
theorem vd (cx:Cx w k A X env sc ρ s){e i:PySem.Expr}{pos:UK}{l:List D}{n:Nat}{d:D}(he:aV w A X (ku e env) (.tup l) s)(hi:aV w A X (ku i env) (.int n) s)(hl:l.length≤1000)(hd:l[n]?=some d)
  (hs:∀p o v,C4 i p o v=match p with|true=>Ll (.builtin "lifetime.subscript" ⟨[o,v],[]⟩)|false=>Kn [o,v] (CM o v)):aV w A X (ku (.Subscript e i pos) env) d s:=
 eE cx.Yz he hi (fun s' va vb u' ra rb=>jb (tl:=true) (l:=l) (by exact Lj hl) (by exact wY) (by simpa using hd) (ra) rb) hs
theorem a0W:∀o:List Nat,(aq o).flatMap (fun d=>aL true [D.int (2 ^ d.toInt.toNat)])=o.map fun(p:Nat)=>D.int (2 ^ p)
 | []=>rfl
 |p::o=>by
  have ih:=a0W o
  unfold aq at ih ⊢
  rw[dc,fk,ih];rfl
theorem vz (P:LP):∀o:List Nat,(aq o).flatMap (fun d=>aL true [D.int (P.letter d.toInt.toNat).length])=o.map fun(p:Nat)=>D.int (P.letter p).length
 | []=>rfl
 |p::o=>by
  have ih:=vz P o
  unfold aq at ih ⊢
  rw[dc,fk,ih];rfl
theorem a0Z:∀o:List Nat,Za (o.map fun(p:Nat)=>D.int (2 ^ p))=LP.num o
 | []=>rfl
 |p::o=>by
  have ih:=a0Z o
  unfold LP.num at ih ⊢
  rw[dc,dc,B5,←ih];rfl
theorem vX (P:LP):∀o:List Nat,Za (o.map fun(p:Nat)=>D.int (P.letter p).length)=P.cost o
 | []=>rfl
 |p::o=>by
  have ih:=vX P o
  unfold LP.cost at ih ⊢
  rw[dc,dc,B5,←ih];rfl
theorem jl {α:Type}(f:α→Int):∀o:List α,AllInt (o.map fun p=>D.int (f p))
 | []=>trivial
 |p::o=>⟨⟨_,rfl⟩,jl f o⟩
theorem rD (P:LP):∀S:List (List Nat),(aJ S).flatMap (fun d=>aL true [P.rank (unD d)])=S.map P.rank
 | []=>rfl
 |o::S=>by
  have ih:=rD P S
  unfold aJ at ih ⊢
  rw[dc,fk,ih,iU];rfl
theorem ju (P:LP){q:Nat}(hq:q<7):(P.letters.map D.str)[q]?=some (.str (P.letter q)):=by
 have:q=0∨q=1∨q=2∨q=3∨q=4∨q=5∨q=6:=by exact om0 hq
 rcases this with rfl|rfl|rfl|rfl|rfl|rfl|rfl<;>rfl
end
end
section
namespace LP
theorem Ir (P:LP):P.w0=1∨P.w0=-1∨P.w0=2∨P.w0=-2:=by
 unfold w0
 have h1:=ia P.c5 (show(0:Int)<4 by decide)
 have h2:=k7 P.c5 (show(0:Int)<4 by decide)
 generalize P.c5.fmod 4=i at h1 h2
 have:i=0∨i=1∨i=2∨i=3:=by exact Wx h1 h2
 rcases this with rfl|rfl|rfl|rfl
 ·exact .inl rfl
 ·exact .inr (.inl rfl)
 ·exact .inr (.inr (.inl rfl))
 ·exact .inr (.inr (.inr rfl))
theorem Iu (P:LP):P.w1=1∨P.w1=-1∨P.w1=3∨P.w1=-3:=by
 unfold w1
 have h1:=ia (P.c5.fdiv 4) (show(0:Int)<4 by decide)
 have h2:=k7 (P.c5.fdiv 4) (show(0:Int)<4 by decide)
 generalize (P.c5.fdiv 4).fmod 4=i at h1 h2
 have:i=0∨i=1∨i=2∨i=3:=by exact Wx h1 h2
 rcases this with rfl|rfl|rfl|rfl
 ·exact .inl rfl
 ·exact .inr (.inl rfl)
 ·exact .inr (.inr (.inl rfl))
 ·exact .inr (.inr (.inr rfl))
theorem m0 (P:LP)(b:Int):QA P.w0 b:=.of_left (by rcases P.Ir with h|h|h|h<;>rw[h]<;>decide +kernel)
theorem m1 (P:LP)(b:Int):QA P.w1 b:=.of_left (by rcases P.Iu with h|h|h|h<;>rw[h]<;>decide +kernel)
noncomputable def keyed (P:LP)(o:List Nat):D:=.tup [.int (P.w0*P.cost o),.int (P.w1*num o),P.rank o]
end LP
noncomputable def unR:D→List Nat
 | .tup [_,_,d]=>unD d
 |_=>[]
theorem o4 (P:LP):∀S:List (List Nat),(S.map P.rank).flatMap (fun d=>aL true [P.keyed (unR d)])=S.map P.keyed
 | []=>rfl
 |o::S=>by
  have ih:=o4 P S
  rw[dc,fk,ih]
  show [P.keyed (unD (.lst (aq o)))]++_=_
  rw[iU];rfl
section
variable {w:gp}{k n:Nat}{A:Around}{X X':Addr→Prop}{env:UI}{outer:List UI}{sc:Scope}{ρ ρ':Yx}{s s' s'':aE}{μ YC YM:YX}{P:LP}{R:Zb}
noncomputable abbrev lwU (P:LP)(R:Zb)(t:Tr)(i:Nat)(aD:Addr):Yx:=(wDn,.lst (aJ (P.sel t i 1)))::(wUp,.lst (aJ (P.sel t i 0)))::(wK,.int i)::(wDu,.val (.ref aD))::lw8 P R t
noncomputable abbrev lwF (P:LP)(R:Zb)(t:Tr)(i:Nat)(aD:Addr):Yx:=(wFi,P.rank (P.best t i))::(wRk,.lst ((P.cu t i).map P.rank))::lwU P R t i aD
theorem qj {t:Tr}{i:Nat}{o:List Nat}(h:o∈P.cu t i):o∈Yy t:=by
 unfold LP.cu LP.sel at h
 rcases eW.mp h with h|h<;>exact(sD.mp h).1
theorem Cm {t:Tr}(F:jF P R t)(i:Nat):(P.cu t i).length≤256:=by
 have:=kZ t
 have h2:2 ^ t.size≤2 ^ 7:=lI (by exact a0H) F.size
 unfold LP.cu LP.sel
 rw[fm]
 have h3:=vF (P.fits i 0) (Yy t)
 have h4:=vF (P.fits i 1) (Yy t)
 exact Qt this h2 h3 h4
set_option maxHeartbeats 16000000 in
theorem Cy {t:Tr}(F:jF P R t){i:Nat}(hi:i<3){aD:Addr}{dn:List D}(mx:Mx w (40+n) A X env Z4 (lwU P R t i aD) [(aD,.lst dn)] s){Q:zh→aE→Prop}{E:bX→aE→Prop}{rest body:List Stmt}(hb:body=Zy (YG.getD 19 nE))(hr:rest=body.drop 4)
  (hQ:∀s',YF (Own env Z4) s s'→Mx w (40+n) A X env Z4 (lwF P R t i aD) [(aD,.lst dn)] s'→cE (cS PW w) A (oz rest env) Q E s'):cE (cS PW w) A (oz (body.drop 2) env) Q E s:=by
 have hH:=(eZ w).mono (K':=40+n) (by exact pJ)
 subst hr hb
 have hcl:=Cm F i
 have eA:aJ (P.sel t i 0)++aJ (P.sel t i 1)=aJ (P.cu t i):=by unfold aJ LP.cu;rw[g9]
 have hlS:(aJ (P.cu t i)).length≤256:=by unfold aJ;rw[bP];exact VJ hcl
 have hlA:(aJ (P.sel t i 0)).length+(aJ (P.sel t i 1)).length≤sizeLine:=by rw[←fm,eA,c9];exact V2 hlS
 refine aH (gK mx (x:=wRk) (d:=.lst ((P.cu t i).map P.rank)) (bD (by kernel_rfl)) (by kernel_rfl) ?_ fun s1 ZG m1=>?_)
 ·rw[←rD P (P.cu t i),←eA]
  refine fZ (f:=fun d=>(true,P.rank (unD d))) mx.cx (by kernel_rfl) (fun x hx=>?_) (by kernel_rfl) (az hH _ _ (l:=aJ (P.sel t i 0)++aJ (P.sel t i 1)) (cs:=[(aJ (P.sel t i 0)).length+(aJ (P.sel t i 1)).length≤sizeLine]) (by rfl) ⟨hlA,trivial⟩ mx.cx (by kernel_rfl) (fun d Z=>.inl (by kernel_rfl))) (fun d hd=>⟨_,rfl,fun X' cenv s' cx=>⟨aW _,fun Z=>?_⟩⟩) (by rw[fm];exact hlA)
  ·have hx:x=af "one":=bS.mp hx
   subst hx
   exact .inl (by kernel_rfl)
  ·rw[eA] at hd
   obtain ⟨o,ho,rfl⟩:=fG hd
   have ho':=qj ho
   have hol:o.length≤7:=ai (fX t o ho') F.size
   show aV _ _ _ _ (P.rank (unD (.lst (aq o)))) _
   rw[iU]
   have hlo:(aq o).length≤sizeLine:=by unfold aq;rw[bP,c9];exact M5 hol
   refine kh cx.Yz (b9 rfl) (args_cons cx.Yz (by rfl) ?_ (args_cons cx.Yz (by rfl) ?_ (args_cons cx.Yz (by rfl) (aa hH cx (d:=.lst (aq o)) (cs:=[]) (by rfl) trivial) args_nil)))
   ·refine lK (id:="sum") hH cx (a:=.lst (o.map fun(p:Nat)=>D.int (2 ^ p))) (cs:=[AllInt (o.map fun(p:Nat)=>D.int (2 ^ p))]) (by kernel_rfl) (by kernel_rfl) ?_ (by rfl) (by rw[←a0Z];rfl) ⟨jl _ o,trivial⟩
    rw[←a0W]
    refine bJ (f:=fun d=>(true,D.int (2 ^ d.toInt.toNat))) cx (by kernel_rfl) (fun x hx=>?_) (by kernel_rfl) (az hH _ _ (l:=aq o) (cs:=[]) (by rfl) trivial cx (by kernel_rfl) (fun d Z=>.inl (by kernel_rfl))) (fun d hd=>⟨_,rfl,fun X'' a1A s'' YW=>⟨aW _,fun Z=>?_⟩⟩) hlo
    ·have hx:x=af "p":=bS.mp hx
     subst hx
     exact .inl (by kernel_rfl)
    ·obtain ⟨q,hq,rfl⟩:=eg.mp hd
     have hq7:=F.lt o ho' q hq
     refine aQ (op:=.Pow) (a:=.int 2) (b:=.int q) (cs:=[]) YW.Yz (aa hH YW (cs:=[]) (by rfl) trivial) (aa hH YW (cs:=[]) (by rfl) trivial) ?_ trivial
     show(if((2:Int).natAbs<1000) then if(0:Int)≤(q:Int) then if(q:Int)≤1000 then some (D.int ((2:Int) ^ (q:Int).toNat),[]) else none else none else none)=_
     rw[if_pos (by decide),if_pos (by exact Ni hq7),if_pos (by exact Hq hq7)]
     rfl
   ·refine lK (id:="sum") hH cx (a:=.lst (o.map fun(p:Nat)=>D.int (P.letter p).length)) (cs:=[AllInt (o.map fun(p:Nat)=>D.int (P.letter p).length)]) (by kernel_rfl) (by kernel_rfl) ?_ (by rfl) (by rw[←vX];rfl) ⟨jl _ o,trivial⟩
    rw[←vz]
    refine bJ (f:=fun d=>(true,D.int (P.letter d.toInt.toNat).length)) cx (by kernel_rfl) (fun x hx=>?_) (by kernel_rfl) (az hH _ _ (l:=aq o) (cs:=[]) (by rfl) trivial cx (by kernel_rfl) (fun d Z=>.inl (by kernel_rfl))) (fun d hd=>⟨_,rfl,fun X'' a1A s'' YW=>⟨aW _,fun Z=>?_⟩⟩) hlo
    ·have hx:x=af "p":=bS.mp hx
     subst hx
     exact .inl (by kernel_rfl)
    ·obtain ⟨q,hq,rfl⟩:=eg.mp hd
     have hq7:=F.lt o ho' q hq
     have hll:=F.ll q hq7
     exact lK (id:="len") hH YW (a:=.str (P.letter q)) (cs:=[(P.letter q).length≤sizeLine]) (by kernel_rfl) (by kernel_rfl) (b8 YW (l:=P.letters.map .str) (n:=q) (aa hH YW (cs:=[]) (by rfl) trivial) (aa hH YW (cs:=[]) (by rfl) trivial) (by simp[LP.letters]) (ju P hq7) aU) (by rfl) (by rfl) ⟨by rw[c9];exact LR hll,trivial⟩
 have hL:(P.cu t i).length=((P.cu t i).map P.keyed).length:=by rw[bP]
 have hpos:0<(P.cu t i).length:=DB.mpr (F.ne i hi)
 have hbest:((P.cu t i).map P.keyed).getD (cM (fun j=>P.key ((P.cu t i).getD j [])) (((P.cu t i).map P.keyed).length - 1)) .none=P.keyed (P.best t i):=by
  have hb:cM (fun j=>P.key ((P.cu t i).getD j [])) ((P.cu t i).length - 1)<(P.cu t i).length:=cK (dF _ _) (by exact Py hcl hL hpos)
  rw[bP]
  unfold LP.best
  rw[bq,gu,bq,c8 hb];rfl
 have hlr:((P.cu t i).map P.rank).length≤sizeLine:=by rw[bP,c9];exact Rh hcl hL hpos
 refine aH (cg m1 (x:=wFi) (d:=P.rank (P.best t i)) (bD (by kernel_rfl)) (vd m1.cx (l:=[.int (P.w0*P.cost (P.best t i)),.int (P.w1*LP.num (P.best t i)),P.rank (P.best t i)]) (n:=2) ?_ (aa hH m1.cx (cs:=[]) (by rfl) trivial) (b9 rfl) rfl gP) (by kernel_rfl) fun s2 Zc m2=>?_)
 ·show aV w A X _ (P.keyed (P.best t i)) s1
  rw[←hbest]
  refine Jr m1.cx (L:=(P.cu t i).map P.keyed) (key:=fun j=>P.key ((P.cu t i).getD j [])) (by kernel_rfl) (by kernel_rfl) ?_ (by rfl) (by exact Rg hcl hL hpos) (by rw[←hL];exact Rk hcl hL hpos) (fun j hj=>?_) (fun a b ha hb hab=>F.inj i hi a b (by exact VK hL ha) (by exact VK hL hb) hab)
  ·rw[←o4]
   refine bJ (f:=fun d=>(true,P.keyed (unR d))) m1.cx (by kernel_rfl) (fun x hx=>?_) (by kernel_rfl) (az hH _ _ (l:=(P.cu t i).map P.rank) (cs:=[]) (by rfl) trivial m1.cx (by kernel_rfl) (fun d Z=>.inl (by kernel_rfl))) (fun d hd=>⟨_,rfl,fun X' cenv s' cx=>⟨aW _,fun Z=>?_⟩⟩) hlr
   ·have hx:x=af "one":=bS.mp hx
    subst hx
    exact .inl (by kernel_rfl)
   ·obtain ⟨o,ho,rfl⟩:=eg.mp hd
    have eo:unR (P.rank o)=o:=iU o
    show aV _ _ _ _ (P.keyed (unR (P.rank o))) _
    rw[eo]
    refine aa hH cx (d:=P.keyed o) (by rfl) ?_
    repeat' (first|exact LP.m0 _ _|exact LP.m1 _ _|exact o5 (by rfl)|exact trivial|refine av ?_ ?_)
  ·refine⟨P.rank ((P.cu t i).getD j []),?_⟩
   have hj':j<(P.cu t i).length:=by exact VK hL hj
   rw[gu,bq,c8 hj'];rfl
 exact hQ s2 (ZG.trans Zc) m2
end
end
section
theorem ux (S:List (List Nat)):rV (D.lst (aJ S)).py (D.lst []).py=decide (S=[]):=by
 cases S with
 |nil=>rfl
 |cons a l=>
  show rV (.list (pyL (aJ (a::l)))) (.list [])=_
  rw[rV]
  rfl
theorem a0C:∀S:List (List Nat),a0P (aJ S)
 | []=>trivial
 |a::l=>⟨ZX a,a0C l⟩
theorem a0o:∀S:List (List Nat),qc (pyL (aJ S))≤3
 | []=>by simp[aJ,pyL,qc]
 |a::l=>by
  have:=a0o l
  have h1:=ZL a
  unfold aJ at this ⊢
  simp only[dc,pyL,qc,D.py]
  rw[PI]
  exact⟨by simp only[uS];exact Uv h1,this⟩
theorem wF (S:List (List Nat)):(D.lst (aJ S)).py.depth≤64:=by
 have:=a0o S
 show uS (.list (pyL (aJ S)))≤64
 simp only[uS]
 exact V3 this
theorem vY (P:LP):∀o:List Nat,(aq o).flatMap (fun d=>aL true [(P.nm.getD d.toInt.toNat Str.empty,D.int (P.letter d.toInt.toNat).length)])=P.FZ o
 | []=>rfl
 |p::o=>by
  have ih:=vY P o
  unfold aq LP.FZ at ih ⊢
  rw[dc,fk,ih];rfl
theorem Ex (P:LP)(o:List Nat):(P.FZ o).map (fun x=>x.1)=o.map fun p=>P.nm.getD p Str.empty:=by unfold LP.FZ;rw[kH];rfl
theorem JL {P:LP}(hn:P.nm.length=7)(hd:P.nm.Nodup){a b:Nat}(ha:a<7)(hb:b<7)(h:P.nm.getD a Str.empty=P.nm.getD b Str.empty):a=b:=by
 rw[bq,bq,c8 (by exact om3 hn ha),c8 (by exact om3 hn hb)] at h
 have h:P.nm[a]'(by exact om3 hn ha)=P.nm[b]'(by exact om3 hn hb):=h
 rcases ET a b with q|q|q
 ·exact absurd h (mP.mp hd a b (by exact om3 hn ha) (by exact om3 hn hb) q)
 ·exact q
 ·exact absurd h.symm (mP.mp hd b a (by exact om3 hn hb) (by exact om3 hn ha) q)
theorem Bh {P:LP}(hn:P.nm.length=7)(hd:P.nm.Nodup){o:List Nat}(ho:o.Nodup)(hl:∀p∈o,p<7):((P.FZ o).map (fun x=>x.1)).Nodup:=by
 rw[Ex]
 unfold Me
 rw[C9]
 have ho':o.Pairwise (·≠·):=ho
 exact ho'.imp_of_mem fun {a b} ha hb hne q=>hne (JL hn hd (hl a ha) (hl b hb) q)
section
variable {w:gp}{k n:Nat}{A:Around}{X X':Addr→Prop}{env:UI}{outer:List UI}{sc:Scope}{ρ ρ':Yx}{s s' s'':aE}{μ YC YM:YX}{P:LP}{R:Zb}
theorem Gi {t:Tr}(F:jF P R t){i:Nat}(hi:i<3):P.best t i∈P.cu t i:=by
 have hpos:0<(P.cu t i).length:=DB.mpr (F.ne i hi)
 have hb:cM (fun j=>P.key ((P.cu t i).getD j [])) ((P.cu t i).length - 1)<(P.cu t i).length:=cK (dF _ _) (by exact Kr hpos)
 unfold LP.best
 rw[bq,c8 hb]
 exact kM hb
theorem Mr (R:Zb){i:Nat}(hi:i<3):R.runs[i]?=some (.tup [.int (R.run i).1,aj (R.run i).2]):=by
 have:i=0∨i=1∨i=2:=by exact om6 hi
 rcases this with rfl|rfl|rfl<;>rfl
set_option maxHeartbeats 16000000 in
theorem GC {t:Tr}(F:jF P R t){i:Nat}(hi:i<3){aD:Addr}{dn:List D}(hdn:dn.length≤3)(mx:Mx w (40+n) A X env Z4 (lwF P R t i aD) [(aD,.lst dn)] s){Q:zh→aE→Prop}{E:bX→aE→Prop}{body:List Stmt}(hb:body=Zy (YG.getD 19 nE))
  (hQ:∀s',YF (dj env Z4 [aD]) s s'→Mx w (40+n) A X env Z4 (lwF P R t i aD) [(aD,.lst (dn++[P.due (P.best t i)]))] s'→Q .next s'):cE (cS PW w) A (oz (body.drop 4) env) Q E s:=by
 have hH:=(eZ w).mono (K':=40+n) (by exact pJ)
 subst hb
 have a4M:=Gi F hi
 have hbs:=qj a4M
 have hol:(P.best t i).length≤7:=ai (fX t _ hbs) F.size
 have cx:=mx.cx
 have hif:∀b:Int,b=(if P.sel t i 0≠[] then 1 else 0)→True:=fun Z Z=>trivial
 refine aH (A0 ?_)
 refine(pX (op:=.NotEq) (x:=false) (a:=.tup [.int (R.run i).1,aj (R.run i).2]) (b:=.tup [.int (R.run i).1,aj (P.FZ (P.best t i))]) cx.Yz (b8 cx (l:=R.runs) (n:=i) (aa hH cx (cs:=[]) (by rfl) trivial) (aa hH cx (cs:=[]) (by rfl) trivial) (by simp[Zb.runs]) (Mr R hi) aU)
  (kh cx.Yz (b9 rfl) (args_cons cx.Yz (by rfl) ?_ (args_cons cx.Yz (by rfl) ?_ args_nil))) (fun s' va vb u ra rb=>HB cx.a (F.tab i hi) (cx.Yz.pu u) ra rb) (by kernel_rfl)).test _ rfl s (Pu.refl _) _ _ fun s1 u1=>?_
 ·rw[F.bit i hi]
  refine v9 (x:=decide (P.sel t i 0≠[])) ((aM (op:=.NotEq) (a:=.lst (aJ (P.sel t i 0))) (b:=.lst []) (d:=.bool (decide (P.sel t i 0≠[]))) (cs:=[dO (.lst (aJ (P.sel t i 0))) (.lst [])]) cx.a cx.Yz (aa hH cx (cs:=[]) (by rfl) trivial) (aa hH cx (d:=.lst []) (cs:=[]) (by rfl) trivial) ?_ ⟨⟨a0C _,trivial,wF _,by decide⟩,trivial⟩ (by kernel_rfl)).test _ rfl) (fun h=>?_) (fun h=>?_)
  ·show some (D.bool (!PyData.eqv (D.lst (aJ _)).py (D.lst []).py),_)=_
   rw[ux]
   congr 3
   by_cases q:P.sel t i 0=[]<;>simp[q]
  ·rw[if_pos (of_decide_eq_true h)]
   exact aa hH cx (cs:=[]) (by rfl) trivial
  ·rw[if_neg (of_decide_eq_false h)]
   exact aa hH cx (cs:=[]) (by rfl) trivial
 ·refine pg (l:=aq (P.best t i)) (f:=fun d=>(true,P.nm.getD d.toInt.toNat Str.empty,D.int (P.letter d.toInt.toNat).length)) cx (vY P _) (Bh F.nm F.nmd (F.nd _ hbs) (F.lt _ hbs)) (by unfold aq;rw[bP,c9];exact M5 hol) (by kernel_rfl) (fun x hx=>?_) (by kernel_rfl)
   (az hH _ _ (l:=aq (P.best t i)) (by rfl) ?_ cx (by kernel_rfl) (fun d Z=>.inl (by kernel_rfl))) (fun d hd=>⟨_,rfl,fun X' cenv s' YW=>⟨aW _,fun Z=>?_⟩⟩)
  ·have hx:x=af "p":=bS.mp hx
   subst hx
   exact .inl (by kernel_rfl)
  ·repeat' (first|exact o5 (by rfl)|exact trivial|refine av ?_ ?_)
  ·obtain ⟨q,hq,rfl⟩:=eg.mp hd
   have hq7:=F.lt _ hbs q hq
   have hll:=F.ll q hq7
   have hnm:(P.nm.map D.str)[q]?=some (.str (P.nm.getD q Str.empty)):=by
    rw[gu,bq,c8 (by rw[F.nm];exact hq7)];rfl
   exact⟨b8 YW (l:=P.nm.map .str) (n:=q) (aa hH YW (cs:=[]) (by rfl) trivial) (aa hH YW (cs:=[]) (by rfl) trivial) (by rw[bP,F.nm];exact a0h) hnm aU,
    lK (id:="len") hH YW (a:=.str (P.letter q)) (cs:=[(P.letter q).length≤sizeLine]) (by kernel_rfl) (by kernel_rfl) (b8 YW (l:=P.letters.map .str) (n:=q) (aa hH YW (cs:=[]) (by rfl) trivial) (aa hH YW (cs:=[]) (by rfl) trivial) (by simp[LP.letters]) (ju P hq7) aU) (by rfl) (by rfl) ⟨by rw[c9];exact LR hll,trivial⟩⟩
 simp only[fh,if_false]
 have m1:=mx.pu u1
 refine dS (aH (mQ (YC:=[]) m1 (aa hH m1.cx (cs:=[]) (by rfl) trivial) (d:=P.due (P.best t i)) (aa hH m1.cx (by rfl) ?_) (by kernel_rfl) (by kernel_rfl) (by rw[c9];exact cK hdn (by decide)) fun s2 Zc m2=>?_))
 ·repeat' (first|exact o5 (by rfl)|exact trivial|refine av ?_ ?_)
 exact dS (hQ s2 ((YF.YB u1).trans Zc) m2)
set_option maxHeartbeats 16000000 in
theorem Oh {t:Tr}(F:jF P R t)(mx:Mx w (40+n) A X env Z4 (lw8 P R t) [] s){Q:zh→aE→Prop}{E:bX→aE→Prop}{rest:List Stmt}(hr:rest=YG.drop 20)
  (hQ:∀s' X',YF (Own env Z4) s s'→Mx w (40+n) A X' env Z4 ((wDu,.lst [P.due (P.best t 0),P.due (P.best t 1),P.due (P.best t 2)])::lw8 P R t) [] s'→cE (cS PW w) A (oz rest env) Q E s'):cE (cS PW w) A (oz (YG.drop 18) env) Q E s:=by
 subst hr
 have hH:=(eZ w).mono (K':=40+n) (by exact pJ)
 refine aH (iR mx (x:=wDu) (bD (by kernel_rfl)) fun aD s1 hn1 ZG m1=>?_)
 generalize hX1:(fun b=>X b∨b=aD)=X1 at m1
 let ds:Nat→List D:=fun i=>[P.due (P.best t 0),P.due (P.best t 1),P.due (P.best t 2)].take i
 refine aH (jL (n:=3) (V:=fun Z=>(wDu,.val (.ref aD))::lw8 P R t) (M:=fun i=>[(aD,.lst (ds i))]) (fun i=>.int i) _ [aD] m1 (by kernel_rfl) (by kernel_rfl)
  (az hH _ _ (l:=bG 0 3) (cs:=[]) (by rfl) trivial m1.cx (by kernel_rfl) (fun d Z=>.inl (by kernel_rfl))) (by rfl) (fun Z=>rfl) (fun Z=>rfl) (fun i hi3=>?_) fun s4 pb4 m4=>?_)
 ·intro X3 s3 Q3 E3 m3 hXX hQ3
  have hd2:ds (i+1)=ds i++[P.due (P.best t i)]:=by rcases om6 hi3 with rfl|rfl|rfl<;>rfl
  have hdl:(ds i).length≤3:=ai (L8 ..) (fz hi3)
  refine GF F hi3 m3 rfl rfl fun s4 pb4 m4=>?_
  refine Cy F hi3 m4 rfl rfl fun s5 pb5 m5=>?_
  refine GC F hi3 hdl m5 rfl fun s6 pb6 m6=>?_
  refine hQ3 s6 (((pb4.trans pb5).mono fun a h=>.inl h).trans (pb6.mono fun a h=>h)) ?_
  rw[hd2]
  refine m6.Zf ?_
  exact allAt (av rfl (av rfl (av rfl (av rfl (av rfl (av rfl (av rfl (av rfl (av rfl (av rfl (av rfl (av rfl (av rfl (av rfl (av rfl (av rfl (av rfl trivial)))))))))))))))))
 ·have m5:=m4.a0M (YC:=[]) (x:=wDu) (by rfl)
  have pbs:YF (Own env Z4) s s4:=by
   have q:YF (fun b=>Own env Z4 b∨b=aD) s s4:=(ZG.mono fun a h=>.inl h).trans (pb4.mono fun a h=>h.imp id fun h=>bS.mp h)
   exact⟨fun a o e nn z=>q.heap a o e nn fun y=>y.elim z fun y=>(by subst y;exact YD (hn1.symm.trans e)),q.tab,q.gens,q.drawn,q.os⟩
  refine hQ s4 _ pbs (m5.Zf ?_)
  exact allAt (av rfl (av rfl (av rfl (av rfl (av rfl (av rfl (av rfl (av rfl (av rfl (av rfl (av rfl (av rfl (av rfl (av rfl (av rfl (av rfl (av rfl trivial)))))))))))))))))
end
end
section
noncomputable abbrev wOn:Str:=af "one"
noncomputable abbrev wOt:Str:=af "other"
noncomputable abbrev wSg:Str:=af "signs"
structure xT (P:LP)(R:Zb)(t:Tr):Prop where
 row:∀i,i<3→rowOf (P.W 0) (R.run i).2=(LP.num (P.best t i),P.cost (P.best t i))
 at_:∀i,i<3→∀p∈(R.run i).2,p.1∈P.nm
 ii:∀i,i<3→∀p∈(R.run i).2,IsI p.2
 nm:P.nm.length=7
noncomputable abbrev j5 (P:LP)(t:Tr):D:=.lst [P.due (P.best t 0),P.due (P.best t 1),P.due (P.best t 2)]
noncomputable abbrev lw9 (P:LP)(R:Zb)(t:Tr):Yx:=(wDu,j5 P t)::lw8 P R t
theorem GJ (P:LP)(t:Tr):rV (j5 P t).py (j5 P t).py=true∧dO (j5 P t) (j5 P t):=by
 have c:a0j (j5 P t):=⟨⟨trivial,trivial,trivial⟩,⟨trivial,trivial,trivial⟩,⟨trivial,trivial,trivial⟩,trivial⟩
 have d:(j5 P t).py.depth≤64:=b9 rfl
 exact⟨EB _ (pn (cG c d)),c,c,d,d⟩
section
variable {w:gp}{k n:Nat}{A:Around}{X X':Addr→Prop}{env:UI}{outer:List UI}{sc:Scope}{ρ ρ':Yx}{s s' s'':aE}{μ YC YM:YX}{P:LP}{R:Zb}
set_option maxHeartbeats 16000000 in
theorem Oi {t:Tr}(F:xT P R t)(mx:Mx w (40+n) A X env Z4 (lw9 P R t) [] s){Q:zh→aE→Prop}{E:bX→aE→Prop}{rest:List Stmt}(hr:rest=YG.drop 21)
  (hQ:∀s',Pu s s'→Mx w (40+n) A X env Z4 (lw9 P R t) [] s'→cE (cS PW w) A (oz rest env) Q E s'):cE (cS PW w) A (oz (YG.drop 20) env) Q E s:=by
 subst hr
 have hH:=(eZ w).mono (K':=40+n) (by exact pJ)
 have cx:=mx.cx
 have rw_:∀i,i<3→Row (P.nm.map D.str) (R.run i).2:=fun i hi=>⟨nH _,by rw[bP,F.nm];exact a0h,fun k hk=>by
   obtain ⟨q,hq,rfl⟩:=eg.mp hk
   exact z9 (F.at_ i hi q hq),ZV fun d hd=>by obtain ⟨q,hq,rfl⟩:=eg.mp hd;exact F.ii i hi q hq⟩
 have r0:=rw_ 0 (by decide)
 have r1:=rw_ 1 (by decide)
 have r2:=rw_ 2 (by decide)
 have e0:D.tup [.int (rowOf (P.W 0) (R.run 0).2).1,.int (rowOf (P.W 0) (R.run 0).2).2]=P.due (P.best t 0):=by rw[F.row 0 (by decide)];rfl
 have e1:D.tup [.int (rowOf (P.W 0) (R.run 1).2).1,.int (rowOf (P.W 0) (R.run 1).2).2]=P.due (P.best t 1):=by rw[F.row 1 (by decide)];rfl
 have e2:D.tup [.int (rowOf (P.W 0) (R.run 2).2).1,.int (rowOf (P.W 0) (R.run 2).2).2]=P.due (P.best t 2):=by rw[F.row 2 (by decide)];rfl
 obtain ⟨q1,q2⟩:=GJ P t
 refine aH (A0 ?_)
 refine(aM (op:=.NotEq) (a:=j5 P t) (b:=j5 P t) (d:=.bool false) (cs:=[dO (j5 P t) (j5 P t)]) cx.a cx.Yz ?_ (aa hH cx (cs:=[]) (by rfl) trivial) ?_ ⟨q2,trivial⟩ (by kernel_rfl)).test _ rfl s (Pu.refl _) _ _ fun s1 u1=>?_
 ·unfold j5
  rw[←e0,←e1,←e2]
  refine aa hH cx (by rfl) ?_
  repeat' (first|exact r0.1|exact r0.2.1|exact r0.2.2.1|exact r1.2.2.1|exact r2.2.2.1|exact r0.2.2.2|exact r1.2.2.2|exact r2.2.2.2|exact o5 (by rfl)|exact trivial|refine av ?_ ?_)
 ·show some (D.bool (!PyData.eqv (j5 P t).py (j5 P t).py),_)=_
  rw[q1];rfl
 simp only[fh,if_false]
 exact dS (hQ s1 u1 (mx.pu u1))
theorem Cq {w0 w1 n1 c1 n2 c2:Int}(h0:w0≠0)(h1:w1≠0):su w0 w1 n1 c1 n2 c2=if c1=c2 then(if n1=n2 then 0 else if n1>n2 then w1 else -w1) else if c1>c2 then w0 else -w0:=by
 unfold su
 have ng:∀{a b:Int},a<b→¬a>b:=fun h=>A7.mpr (tS h)
 rcases EU c1 c2 with h|h|h
 ·rw[if_pos h,if_neg (HE h),if_neg (ng h)]
 ·rw[h,if_neg (r8 _),if_neg (r8 _),if_pos rfl]
  rcases EU n1 n2 with h|h|h
  ·rw[if_pos h,if_neg (HE h),if_neg (ng h)]
  ·rw[h,if_neg (r8 _),if_neg (r8 _),if_pos rfl]
  ·rw[if_neg (ng h),if_pos h,if_neg (DU h),if_pos h]
 ·rw[if_neg (ng h),if_pos h,if_neg (DU h),if_pos h]
end
end
section
section
variable {w:gp}{k n:Nat}{A:Around}{X X':Addr→Prop}{env:UI}{outer:List UI}{sc:Scope}{ρ ρ':Yx}{s s' s'':aE}{μ YC YM:YX}{P:LP}{R:Zb}
noncomputable def iD (w0 w1 n1 c1 n2 c2:Int):List D:=aL (!decide (c1=c2)&&true) [D.int (if decide (c1>c2)=true then w0 else -w0)]++(aL (!decide (n1=n2)&&true) [D.int (if decide (n1>n2)=true then w1 else -w1)]++[])
noncomputable def a2f:List Stmt:=Zy (YG.getD 21 nE)
theorem En {w0 w1 n1 c1 n2 c2:Int}(hc:c1=c2)(hn:n1=n2):iD w0 w1 n1 c1 n2 c2=[]:=by
 unfold iD;rw[decide_eq_true hc,decide_eq_true hn];rfl
theorem Eo {w0 w1 n1 c1 n2 c2:Int}(hc:c1=c2)(hn:n1≠n2):iD w0 w1 n1 c1 n2 c2=[.int (if n1>n2 then w1 else -w1)]:=by
 unfold iD;rw[decide_eq_true hc,decide_eq_false hn]
 show [D.int (if decide (n1>n2)=true then w1 else -w1)]=_
 by_cases q:n1>n2<;>simp[q]
theorem Ie {w0 w1 n1 c1 n2 c2:Int}(hc:c1≠c2):∃l,iD w0 w1 n1 c1 n2 c2=.int (if c1>c2 then w0 else -w0)::l∧l.length≤1:=by
 unfold iD;rw[decide_eq_false hc]
 refine⟨aL (!decide (n1=n2)&&true) [D.int (if decide (n1>n2)=true then w1 else -w1)]++[],?_,?_⟩
 ·show [D.int (if decide (c1>c2)=true then w0 else -w0)]++_=_
  by_cases q:c1>c2<;>simp[q]
 ·cases (!decide (n1=n2)&&true)<;>simp[aL]
theorem LP.a4B (P:LP):P.w0≠0:=by rcases P.Ir with h|h|h|h<;>rw[h]<;>decide
theorem LP.a2X (P:LP):P.w1≠0:=by rcases P.Iu with h|h|h|h<;>rw[h]<;>decide
set_option maxHeartbeats 16000000 in
theorem Ar {t:Tr}{i j:Nat}(hij:(i=0∧j=1)∨(i=1∧j=2)∨(i=2∧j=0))(mx:Mx w (40+n) A X env Z4 ((wOt,.int j)::(wOn,.int i)::lw9 P R t) [] s){Q:zh→aE→Prop}{E:bX→aE→Prop}
  (hQ:∀s',YF (Own env Z4) s s'→Mx w (40+n) A X env Z4 (lw9 P R t) [] s'→Q .next s'):cE (cS PW w) A (oz a2f env) Q E s:=by
 have hH:=(eZ w).mono (K':=40+n) (by exact pJ)
 refine aH (gK mx (x:=wSg) (d:=.lst (iD P.w0 P.w1 (LP.num (P.best t i)) (P.cost (P.best t i)) (LP.num (P.best t j)) (P.cost (P.best t j)))) (bD (by kernel_rfl)) (by kernel_rfl) ?_ fun s1 ZG m1=>?_)
 ·rcases hij with ⟨rfl,rfl⟩|⟨rfl,rfl⟩|⟨rfl,rfl⟩
  all_goals
   refine(bh hH _ (by rfl) ?_ mx.cx).1
   repeat' (first|exact o5 (by rfl)|exact trivial|refine av ?_ ?_)
 refine aH (A0 ?_)
 have hs:=Cq (n1:=LP.num (P.best t i)) (c1:=P.cost (P.best t i)) (n2:=LP.num (P.best t j)) (c2:=P.cost (P.best t j)) P.a4B P.a2X
 have hget:(iD P.w0 P.w1 (LP.num (P.best t i)) (P.cost (P.best t i)) (LP.num (P.best t j)) (P.cost (P.best t j))++[D.int 0])[0]?=some (.int (su P.w0 P.w1 (LP.num (P.best t i)) (P.cost (P.best t i)) (LP.num (P.best t j)) (P.cost (P.best t j))))∧(iD P.w0 P.w1 (LP.num (P.best t i)) (P.cost (P.best t i)) (LP.num (P.best t j)) (P.cost (P.best t j))).length≤5:=by
  rw[hs]
  by_cases hc:P.cost (P.best t i)=P.cost (P.best t j)
  ·by_cases hn:LP.num (P.best t i)=LP.num (P.best t j)
   ·rw[En hc hn,if_pos hc,if_pos hn];exact⟨rfl,by simp⟩
   ·rw[Eo hc hn,if_pos hc,if_neg hn];exact⟨rfl,by simp⟩
  ·obtain ⟨l,e,hl⟩:=Ie (w0:=P.w0) (w1:=P.w1) (n1:=LP.num (P.best t i)) (n2:=LP.num (P.best t j)) hc
   rw[e,if_neg hc];exact⟨rfl,by simp;exact UJ hl⟩
 generalize hS:iD P.w0 P.w1 (LP.num (P.best t i)) (P.cost (P.best t i)) (LP.num (P.best t j)) (P.cost (P.best t j))=S at m1 hget
 obtain ⟨hg,hl⟩:=hget
 have hadd:Cv .Add (.lst S) (.lst [.int 0])=some (.lst (S++[.int 0]),[S.length+1≤sizeLine]):=rfl
 refine(aM (op:=.NotEq) (a:=.int (su P.w0 P.w1 (LP.num (P.best t i)) (P.cost (P.best t i)) (LP.num (P.best t j)) (P.cost (P.best t j)))) (b:=.int (su P.w0 P.w1 (LP.num (P.best t i)) (P.cost (P.best t i)) (LP.num (P.best t j)) (P.cost (P.best t j)))) (d:=.bool false) (cs:=[]) m1.cx.a m1.cx.Yz ?_
  (b8 m1.cx (l:=S++[.int 0]) (n:=0) (aQ (cs:=[S.length+1≤sizeLine]) m1.cx.Yz (aa hH m1.cx (d:=.lst S) (cs:=[]) (by rfl) trivial) (aa hH m1.cx (d:=.lst [.int 0]) (cs:=[]) (by rfl) trivial) hadd ⟨by rw[c9];exact Tw hl,trivial⟩) (aa hH m1.cx (cs:=[]) (by rfl) trivial) (by rw[fm,IE];exact Tz hl) hg gP) ?_ trivial (by kernel_rfl)).test _ rfl s1 (Pu.refl _) _ _ fun s2 u2=>?_
 ·rcases hij with ⟨rfl,rfl⟩|⟨rfl,rfl⟩|⟨rfl,rfl⟩
  all_goals
   refine aa hH m1.cx (by rfl) ?_
   repeat' (first|exact o5 (by rfl)|exact trivial|refine av ?_ ?_)
 ·show some (D.bool (!decide _),[])=_
  rw[decide_eq_true rfl];rfl
 simp only[fh,if_false]
 refine dS (dS (hQ s2 (ZG.trans (.YB u2)) ((m1.pu u2).Zf ?_)))
 exact allAt (av rfl (av rfl (av rfl (av rfl (av rfl (av rfl (av rfl (av rfl (av rfl (av rfl (av rfl (av rfl (av rfl (av rfl (av rfl (av rfl (av rfl trivial)))))))))))))))))
set_option maxHeartbeats 16000000 in
theorem Oj {t:Tr}(mx:Mx w (40+n) A X env Z4 (lw9 P R t) [] s){Q:zh→aE→Prop}{E:bX→aE→Prop}{rest:List Stmt}(hr:rest=YG.drop 22)
  (hQ:∀s',YF (Own env Z4) s s'→Mx w (40+n) A X env Z4 (lw9 P R t) [] s'→cE (cS PW w) A (oz rest env) Q E s'):cE (cS PW w) A (oz (YG.drop 21) env) Q E s:=by
 subst hr
 have hH:=(eZ w).mono (K':=40+n) (by exact pJ)
 let L:List D:=[.tup [.int 0,.int 1],.tup [.int 1,.int 2],.tup [.int 2,.int 0]]
 refine aH (jL (n:=3) (V:=fun Z=>lw9 P R t) (M:=fun Z=>[]) (fun i=>.tup [.int i,.int ((i+1) % 3:Nat)]) _ [] mx (by kernel_rfl) (by kernel_rfl)
  (az hH _ _ (l:=L) (cs:=[]) (by rfl) trivial mx.cx (by kernel_rfl) (fun d hd=>.inr ⟨by kernel_rfl,by
   simp only[L,dP,eu,or_false] at hd
   rcases hd with rfl|rfl|rfl<;>exact⟨_,rfl⟩⟩)) (by rfl) (fun Z=>rfl) (fun Z=>rfl) (fun i hi3=>?_) fun s4 pb4 m4=>?_)
 ·intro X3 s3 Q3 E3 m3 hXX hQ3
  exact Ar (j:=(i+1) % 3) (by rcases om6 hi3 with rfl|rfl|rfl<;>decide) m3 fun s4 pb4 m4=>hQ3 s4 (pb4.mono fun a h=>.inl h) m4
 ·exact hQ s4 (pb4.mono fun a h=>h.elim id fun q=>by simp at q) m4
end
end
section
noncomputable abbrev wTi:Str:=af "times"
noncomputable abbrev wDe:Str:=af "due"
noncomputable abbrev wBh:Str:=af "both"
noncomputable abbrev wSr:Str:=af "strange"
noncomputable def xJ (R:Zb)(x:Str):List D:=aL ((R.m1.map (fun x=>x.1)).contains x&&true) [aj R.m1]++(aL ((R.m2.map (fun x=>x.1)).contains x&&true) [aj R.m2]++(aL ((R.m3.map (fun x=>x.1)).contains x&&true) [aj R.m3]++[]))
noncomputable def tmD (R:Zb)(x:Str):Int:=(xJ R x).length
theorem rU (R:Zb)(x:Str):(xJ R x).length≤3:=by
 unfold xJ
 cases ((R.m1.map (fun x=>x.1)).contains x&&true)<;>cases ((R.m2.map (fun x=>x.1)).contains x&&true)<;>cases ((R.m3.map (fun x=>x.1)).contains x&&true)<;>simp[aL]
namespace LP
noncomputable def iV (P:LP)(p:Nat):Str:=P.nm.getD p Str.empty
noncomputable def tm (P:LP)(R:Zb)(p:Nat):Int:=tmD R (P.iV p)
noncomputable def mZ (P:LP)(R:Zb):KD:=(bG 0 7).flatMap fun d=>aL (decide (P.tm R d.toInt.toNat>0)&&true) [(P.iV d.toInt.toNat,D.tup [.int (P.tm R d.toInt.toNat*(P.letter d.toInt.toNat).length),.int (P.tm R d.toInt.toNat)])]
noncomputable def inB (P:LP)(R:Zb)(p:Nat):Bool:=(R.m1.map (fun x=>x.1)).contains (P.iV p)&&((R.m3.map (fun x=>x.1)).contains (P.iV p)&&true)
noncomputable def qi (P:LP)(R:Zb):List D:=(bG 0 7).flatMap fun d=>aL (P.inB R d.toInt.toNat&&true) [D.int (2 ^ d.toInt.toNat)]
noncomputable def xu (P:LP)(R:Zb):List D:=(bG 0 7).flatMap fun d=>aL (decide (P.tm R d.toInt.toNat>0)&&true) [D.int (2 ^ d.toInt.toNat)]
end LP
noncomputable abbrev lwT (P:LP)(R:Zb)(t:Tr):Yx:=(wTi,.lst (P.nm.map fun x=>.int (tmD R x)))::lw9 P R t
noncomputable abbrev lwD (P:LP)(R:Zb)(t:Tr):Yx:=(wDe,aj (P.mZ R))::lwT P R t
section
variable {w:gp}{k n:Nat}{A:Around}{X X':Addr→Prop}{env:UI}{outer:List UI}{sc:Scope}{ρ ρ':Yx}{s s' s'':aE}{μ YC YM:YX}{P:LP}{R:Zb}
theorem ou (R:Zb):∀l:List Str,(l.map D.str).flatMap (fun d=>aL true [D.int (tmD R d.toStr)])=l.map fun x=>D.int (tmD R x)
 | []=>rfl
 |x::l=>by
  have ih:=ou R l
  rw[dc,fk,ih];rfl
theorem qU (hn:P.nm.length=7){q:Nat}(hq:q<7):(P.nm.map D.str)[q]?=some (.str (P.iV q)):=by
 unfold LP.iV
 rw[gu,bq,c8 (by exact om3 hn hq)];rfl
theorem w5 (hn:P.nm.length=7){q:Nat}(hq:q<7):(P.nm.map fun x=>D.int (tmD R x))[q]?=some (.int (P.tm R q)):=by
 unfold LP.tm LP.iV
 rw[gu,bq,c8 (by exact om3 hn hq)];rfl
theorem mG {d:D}(h:d∈bG 0 7):∃q:Nat,q<7∧d=.int q:=by
 have:d∈[D.int 0,.int 1,.int 2,.int 3,.int 4,.int 5,.int 6]:=h
 simp only[dP,eu,or_false] at this
 rcases this with h|h|h|h|h|h|h
 ·exact⟨0,by exact a2M,h⟩
 ·exact⟨1,by exact a2O,h⟩
 ·exact⟨2,by exact a2P,h⟩
 ·exact⟨3,by exact a2Q,h⟩
 ·exact⟨4,by exact a2R,h⟩
 ·exact⟨5,by exact a2S,h⟩
 ·exact⟨6,by exact a1W,h⟩
set_option maxHeartbeats 16000000 in
theorem Ol {t:Tr}(hn:P.nm.length=7)(hll:∀k,k<7→(P.letter k).length≤1000)(hdn:((P.mZ R).map (fun x=>x.1)).Nodup)(mx:Mx w (40+n) A X env Z4 (lw9 P R t) [] s){Q:zh→aE→Prop}{E:bX→aE→Prop}{rest:List Stmt}(hr:rest=YG.drop 24)
  (hQ:∀s',YF (Own env Z4) s s'→Mx w (40+n) A X env Z4 (lwD P R t) [] s'→cE (cS PW w) A (oz rest env) Q E s'):cE (cS PW w) A (oz (YG.drop 22) env) Q E s:=by
 subst hr
 have hH:=(eZ w).mono (K':=40+n) (by exact pJ)
 have hnl:(P.nm.map D.str).length≤1000:=by rw[bP,hn];exact a0h
 have htl:(P.nm.map fun x=>D.int (tmD R x)).length≤1000:=by rw[bP,hn];exact a0h
 have h7:(bG 0 7).length≤sizeLine:=o5 (by rfl)
 refine aH (gK mx (x:=wTi) (d:=.lst (P.nm.map fun x=>.int (tmD R x))) (bD (by kernel_rfl)) (by kernel_rfl) ?_ fun s1 ZG m1=>?_)
 ·rw[←ou]
  refine fZ (f:=fun d=>(true,D.int (tmD R d.toStr))) mx.cx (by kernel_rfl) (fun x hx=>?_) (by kernel_rfl) (az hH _ _ (l:=P.nm.map .str) (cs:=[]) (by rfl) trivial mx.cx (by kernel_rfl) (fun d Z=>.inl (by kernel_rfl))) (fun d hd=>⟨_,rfl,fun X' cenv s' cx=>⟨aW _,fun Z=>?_⟩⟩) (by rw[c9];exact LR hnl)
  ·have hx:x=af "name":=bS.mp hx
   subst hx
   first|exact .inl (by decide +kernel)|exact .inr (by decide +kernel)
  ·obtain ⟨x,hx,rfl⟩:=eg.mp hd
   have h3:(xJ R x).length≤sizeLine:=by have:=rU R x;rw[c9];exact Hx this
   refine aa hH cx (d:=.int (tmD R x)) (by rfl) ?_
   repeat' (first|exact h3|exact o5 (by rfl)|exact trivial|refine av ?_ ?_)
 refine aH (gK m1 (x:=wDe) (d:=aj (P.mZ R)) (bD (by kernel_rfl)) (by kernel_rfl) ?_ fun s2 Zc m2=>hQ s2 (ZG.trans Zc) m2)
 refine pU (l:=bG 0 7) (f:=fun d=>(decide (P.tm R d.toInt.toNat>0)&&true,P.iV d.toInt.toNat,D.tup [.int (P.tm R d.toInt.toNat*(P.letter d.toInt.toNat).length),.int (P.tm R d.toInt.toNat)])) m1.cx rfl hdn h7 (by kernel_rfl) (fun x hx=>?_) (by kernel_rfl)
  (az hH _ _ (l:=bG 0 7) (cs:=[]) (by rfl) trivial m1.cx (by kernel_rfl) (fun d Z=>.inl (by kernel_rfl))) (fun d hd=>⟨_,rfl,fun X' cenv s' cx=>⟨cD ?_ (aW _),fun Z=>⟨?_,?_⟩⟩⟩)
 ·have hx:x=af "p":=bS.mp hx
  subst hx
  first|exact .inl (by decide +kernel)|exact .inr (by decide +kernel)
 ·obtain ⟨q,hq,rfl⟩:=mG hd
  exact(aM (op:=.Gt) (cs:=[]) (d:=.bool (decide (P.tm R q>0))) cx.a cx.Yz (b8 cx (l:=P.nm.map fun x=>.int (tmD R x)) (n:=q) (aa hH cx (cs:=[]) (by rfl) trivial) (aa hH cx (cs:=[]) (by rfl) trivial) htl (w5 hn hq) aU) (aa hH cx (d:=.int 0) (cs:=[]) (by rfl) trivial) rfl trivial (by kernel_rfl)).test _ rfl
 ·obtain ⟨q,hq,rfl⟩:=mG hd
  exact b8 cx (l:=P.nm.map .str) (n:=q) (aa hH cx (cs:=[]) (by rfl) trivial) (aa hH cx (cs:=[]) (by rfl) trivial) hnl (qU hn hq) aU
 ·obtain ⟨q,hq,rfl⟩:=mG hd
  have hl:=hll q hq
  have hti:∀{e i:PySem.Expr},True:=trivial
  refine kh cx.Yz (b9 rfl) (args_cons cx.Yz (by rfl) (aQ (op:=.Mult) (a:=.int (P.tm R q)) (b:=.int (P.letter q).length) (cs:=[QA (P.tm R q) (P.letter q).length]) cx.Yz (b8 cx (l:=P.nm.map fun x=>.int (tmD R x)) (n:=q) (aa hH cx (cs:=[]) (by rfl) trivial) (aa hH cx (cs:=[]) (by rfl) trivial) htl (w5 hn hq) aU)
    (lK (id:="len") hH cx (a:=.str (P.letter q)) (cs:=[(P.letter q).length≤sizeLine]) (by kernel_rfl) (by kernel_rfl) (b8 cx (l:=P.letters.map .str) (n:=q) (aa hH cx (cs:=[]) (by rfl) trivial) (aa hH cx (cs:=[]) (by rfl) trivial) (by simp[LP.letters]) (ju P hq) aU) (by rfl) (by rfl) ⟨by rw[c9];exact LR hl,trivial⟩) rfl ⟨?_,trivial⟩)
   (args_cons cx.Yz (by rfl) (b8 cx (l:=P.nm.map fun x=>.int (tmD R x)) (n:=q) (aa hH cx (cs:=[]) (by rfl) trivial) (aa hH cx (cs:=[]) (by rfl) trivial) htl (w5 hn hq) aU) args_nil))
  refine QA.of_left ?_
  have h3:=rU R (P.iV q)
  unfold LP.tm tmD
  generalize (xJ R (P.iV q)).length=z at h3
  have:z=0∨z=1∨z=2∨z=3:=by exact om1 h3
  rcases this with rfl|rfl|rfl|rfl<;>decide +kernel
end
end
section
noncomputable def ZQ:D→D
 | .tup (d::_)=>d
 |d=>d
noncomputable def LP.strange (P:LP):List Str:=[af "local",af "a.locals",af "a.slocal",af "."++P.iV 6,P.iV 6++af ".",P.iV 6++af ".7",P.iV 6++af ".77"]
noncomputable def LP.asked (P:LP):List Str:=P.strange++[P.iV 0,af "g.7.a.b7"]
noncomputable def LP.told (P:LP):List Str:=P.strange++[af ".local",af ".7.a.b7"]
noncomputable def LP.a0B (P:LP)(R:Zb):KD:=(P.mZ R).map fun p=>(p.1,ZQ p.2)
structure uN (P:LP)(R:Zb)(t:Tr):Prop where
 nm:P.nm.length=7
 n6:(P.iV 6).length≤100
 due:((P.mZ R).map (fun x=>x.1)).Nodup
 pairs:gj (bM R.tabs) (P.mZ R)
 book:gj R.book (P.a0B R)
 a4F:kL (LP.num (P.best t 0)) (LP.num (P.best t 2))=Za (P.qi R)
 a4G:kB (kB (LP.num (P.best t 0)) (LP.num (P.best t 1))) (LP.num (P.best t 2))=Za (P.xu R)
 far:∀x∈P.asked,Df x∧1+(gG x).length≤sizeLine
 tells:P.asked.map dD=P.told
 ok:∀x∈P.told,tT x=true
noncomputable abbrev lwB (P:LP)(R:Zb)(t:Tr):Yx:=(wBh,.int (Za (P.qi R)))::lwD P R t
noncomputable abbrev lwS (P:LP)(R:Zb)(t:Tr):Yx:=(wSr,.lst (P.strange.map .str))::lwB P R t
theorem a0w:∀l:List Str,(l.map D.str).flatMap (fun d=>aL true [D.str (dD d.toStr)])=(l.map dD).map D.str
 | []=>rfl
 |x::l=>by
  have ih:=a0w l
  rw[dc,fk,ih];rfl
theorem nU {m:KD}(h:(m.map (fun x=>x.1)).Nodup):∀(m':KD),(∀p∈m',p∈m)→((m'.map (fun x=>x.1)).map D.str).flatMap (fun d=>aL true [(d.toStr,ZQ ((((m.map (fun x=>x.1)).zip (m.map (fun x=>x.2))).lookup d.toStr).getD .none))])=m'.map fun p=>(p.1,ZQ p.2)
 | [],_=>rfl
 |p::m',hs=>by
  have ih:=nU h m' fun q hq=>hs q (bE _ hq)
  rw[dc,dc,fk,ih]
  show [(p.1,ZQ ((((m.map (fun x=>x.1)).zip (m.map (fun x=>x.2))).lookup p.1).getD .none))]++_=_
  rw[fu,jH h (hs p ay)]
  rfl
theorem Jp {P:LP}{R:Zb}{p:Str×D}(h:p∈P.mZ R):∃a b,p.2=.tup [.int a,.int b]:=by
 unfold LP.mZ at h
 obtain ⟨d,hd,hp⟩:=yy.mp h
 cases q:(decide (P.tm R d.toInt.toNat>0)&&true) with
 |true=>rw[q] at hp;simp only[aL,bS] at hp;exact⟨_,_,by rw[hp]⟩
 |false=>rw[q] at hp;simp[aL] at hp
theorem fO {α:Type}(c:α→Bool)(f:α→Int):∀l:List α,AllInt (l.flatMap fun d=>aL (c d) [D.int (f d)])
 | []=>trivial
 |d::l=>by
  rw[fk]
  cases c d with
  |true=>exact⟨⟨_,rfl⟩,fO c f l⟩
  |false=>exact fO c f l
section
variable {w:gp}{k n:Nat}{A:Around}{X X':Addr→Prop}{env:UI}{outer:List UI}{sc:Scope}{ρ ρ':Yx}{s s' s'':aE}{μ YC YM:YX}{P:LP}{R:Zb}
set_option maxHeartbeats 16000000 in
theorem Om {t:Tr}(F:uN P R t)(mx:Mx w (40+n) A X env Z4 (lwD P R t) [] s){Q:zh→aE→Prop}{E:bX→aE→Prop}{rest:List Stmt}(hr:rest=YG.drop 26)
  (hQ:∀s',YF (Own env Z4) s s'→Mx w (40+n) A X env Z4 (lwS P R t) [] s'→cE (cS PW w) A (oz rest env) Q E s'):cE (cS PW w) A (oz (YG.drop 24) env) Q E s:=by
 subst hr
 have hH:=(eZ w).mono (K':=40+n) (by exact pJ)
 have hnl:(P.nm.map D.str).length≤1000:=by rw[bP,F.nm];exact a0h
 have h7:(bG 0 7).length≤sizeLine:=o5 (by rfl)
 have h6:=F.n6
 have cx:=mx.cx
 refine aH (cg mx (x:=wBh) (d:=.int (Za (P.qi R))) (bD (by kernel_rfl)) (lK (id:="sum") hH cx (a:=.lst (P.qi R)) (cs:=[AllInt (P.qi R)]) (by kernel_rfl) (by kernel_rfl) ?_ (by rfl) (by rfl) ⟨fO _ _ _,trivial⟩) (by kernel_rfl) fun s1 ZG m1=>?_)
 ·refine bJ (l:=bG 0 7) (f:=fun d=>(P.inB R d.toInt.toNat&&true,D.int (2 ^ d.toInt.toNat))) cx (by kernel_rfl) (fun x hx=>?_) (by kernel_rfl) (az hH _ _ (l:=bG 0 7) (cs:=[]) (by rfl) trivial cx (by kernel_rfl) (fun d Z=>.inl (by kernel_rfl))) (fun d hd=>⟨_,rfl,fun X' cenv s' YW=>⟨cD ?_ (aW _),fun Z=>?_⟩⟩) h7
  ·have hx:x=af "p":=bS.mp hx
   subst hx
   first|exact .inl (by decide +kernel)|exact .inr (by decide +kernel)
  ·obtain ⟨q,hq,rfl⟩:=mG hd
   refine(pQ (bs:=[(R.m1.map (fun x=>x.1)).contains (P.iV q),(R.m3.map (fun x=>x.1)).contains (P.iV q)]) (by rfl) (.cons (aM (op:=.In) (a:=.str (P.iV q)) (b:=aj R.m1) (cs:=[]) YW.a YW.Yz (b8 YW (l:=P.nm.map .str) (n:=q) (aa hH YW (cs:=[]) (by rfl) trivial) (aa hH YW (cs:=[]) (by rfl) trivial) hnl (qU F.nm hq) aU) (aa hH YW (by rfl) ?_) rfl trivial (by kernel_rfl))
    (.cons (aM (op:=.In) (a:=.str (P.iV q)) (b:=aj R.m3) (cs:=[]) YW.a YW.Yz (b8 YW (l:=P.nm.map .str) (n:=q) (aa hH YW (cs:=[]) (by rfl) trivial) (aa hH YW (cs:=[]) (by rfl) trivial) hnl (qU F.nm hq) aU) (aa hH YW (by rfl) ?_) rfl trivial (by kernel_rfl)) .nil))).test _ rfl
   ·repeat' (first|exact o5 (by rfl)|exact trivial|refine av ?_ ?_)
   ·repeat' (first|exact o5 (by rfl)|exact trivial|refine av ?_ ?_)
  ·obtain ⟨q,hq,rfl⟩:=mG hd
   refine aQ (op:=.Pow) (a:=.int 2) (b:=.int q) (cs:=[]) YW.Yz (aa hH YW (cs:=[]) (by rfl) trivial) (aa hH YW (cs:=[]) (by rfl) trivial) ?_ trivial
   show(if((2:Int).natAbs<1000) then if(0:Int)≤(q:Int) then if(q:Int)≤1000 then some (D.int ((2:Int) ^ (q:Int).toNat),[]) else none else none else none)=_
   rw[if_pos (by decide),if_pos (by exact Ni hq),if_pos (by exact Hq hq)]
   rfl
 have c1:=m1.cx
 have at6:∀px p2 kd pos,aV w A X (ku (.Subscript (.Name wNa px) (.Constant (.int 6) kd p2) pos) env) (.str (P.iV 6)) s1:=fun px p2 kd pos=>b8 c1 (l:=P.nm.map .str) (n:=6) (aa hH c1 (cs:=[]) (by rfl) trivial) (aa hH c1 (cs:=[]) (by rfl) trivial) hnl (qU F.nm (by exact a1W)) gP
 have lL:∀x∈[af ".",af ".7",af ".77"],x.length≤3:=by decide +kernel
 have l1:=lL (af ".") ay
 have l2:=lL (af ".7") (bE _ ay)
 have l3:=lL (af ".77") (.tail _ (.tail _ (.head _)))
 refine aH (cg m1 (x:=wSr) (d:=.lst (P.strange.map .str)) (bD (by kernel_rfl)) (ph c1.Yz (by simp[LP.strange]) (args_cons c1.Yz (by rfl) (aa hH c1 (cs:=[]) (by rfl) trivial) (args_cons c1.Yz (by rfl) (aa hH c1 (cs:=[]) (by rfl) trivial) (args_cons c1.Yz (by rfl) (aa hH c1 (cs:=[]) (by rfl) trivial)
  (args_cons c1.Yz (by rfl) (aQ (op:=.Add) (a:=.str (af ".")) (b:=.str (P.iV 6)) (cs:=[(af ".").length+(P.iV 6).length≤sizeLine]) c1.Yz (aa hH c1 (cs:=[]) (by rfl) trivial) (at6 _ _ _ _) rfl ⟨by rw[c9];exact Ru h6 l1,trivial⟩)
  (args_cons c1.Yz (by rfl) (aQ (op:=.Add) (a:=.str (P.iV 6)) (b:=.str (af ".")) (cs:=[(P.iV 6).length+(af ".").length≤sizeLine]) c1.Yz (at6 _ _ _ _) (aa hH c1 (cs:=[]) (by rfl) trivial) rfl ⟨by rw[c9];exact VL h6 l1,trivial⟩)
  (args_cons c1.Yz (by rfl) (aQ (op:=.Add) (a:=.str (P.iV 6)) (b:=.str (af ".7")) (cs:=[(P.iV 6).length+(af ".7").length≤sizeLine]) c1.Yz (at6 _ _ _ _) (aa hH c1 (cs:=[]) (by rfl) trivial) rfl ⟨by rw[c9];exact VL h6 l2,trivial⟩)
  (args_cons c1.Yz (by rfl) (aQ (op:=.Add) (a:=.str (P.iV 6)) (b:=.str (af ".77")) (cs:=[(P.iV 6).length+(af ".77").length≤sizeLine]) c1.Yz (at6 _ _ _ _) (aa hH c1 (cs:=[]) (by rfl) trivial) rfl ⟨by rw[c9];exact VL h6 l3,trivial⟩)
  args_nil)))))))) (by kernel_rfl) fun s2 Zc m2=>?_)
 exact hQ s2 (ZG.trans Zc) m2
end
end
section
theorem Ik (l:List Str)(hlen:l.length≤20)(h:∀x∈l,tT x=true):rV (D.lst (l.map .str)).py (D.lst (l.map .str)).py=true∧dO (.lst (l.map .str)) (.lst (l.map .str)):=by
 have c:∀l:List Str,(∀x∈l,tT x=true)→a0P (l.map D.str):=by
  intro l
  induction l with
  |nil=>intro _;trivial
  |cons a l ih=>intro h;exact⟨h a ay,ih fun x hx=>h x (bE _ hx)⟩
 have dl:∀l:List Str,qc (pyL (l.map D.str))≤1:=by
  intro l
  induction l with
  |nil=>simp[pyL,qc]
  |cons a l ih=>
   simp only[dc,pyL,qc,D.py]
   rw[PI]
   exact⟨by simp[uS],ih⟩
 have d:(D.lst (l.map .str)).py.depth≤64:=by
  have:=dl l
  show uS (.list (pyL (l.map D.str)))≤64
  simp only[uS]
  exact Ld this
 have cc:a0j (.lst (l.map .str)):=c l h
 exact⟨EB _ (pn (cG cc d)),cc,cc,d,d⟩
theorem uZ {α β:Type}(c:α→Bool)(f:α→β):∀l:List α,(l.flatMap fun d=>aL (c d) [f d]).length≤l.length
 | []=>gz _
 |d::l=>by
  have ih:=uZ c f l
  rw[fk,fm,i9]
  have:(aL (c d) [f d]).length≤1:=by cases c d<;>simp[aL]
  exact XH ih this
section
variable {w:gp}{k n:Nat}{A:Around}{X X':Addr→Prop}{env:UI}{outer:List UI}{sc:Scope}{ρ ρ':Yx}{s s' s'':aE}{μ YC YM:YX}{P:LP}{R:Zb}
set_option maxHeartbeats 16000000 in
theorem Oo {t:Tr}(F:uN P R t)(mx:Mx w (40+n) A X env Z4 (lwS P R t) [] s){Q:zh→aE→Prop}{E:bX→aE→Prop}
  (hQ:∀s',Pu s s'→Q (.ret (.bool true)) s'):cE (cS PW w) A (oz (YG.drop 26) env) Q E s:=by
 have hH:=(eZ w).mono (K':=40+n) (by exact pJ)
 have hnl:(P.nm.map D.str).length≤1000:=by rw[bP,F.nm];exact a0h
 have h7:(bG 0 7).length≤sizeLine:=o5 (by rfl)
 have cx:=mx.cx
 have htl:(P.nm.map fun x=>D.int (tmD R x)).length≤1000:=by rw[bP,F.nm];exact a0h
 have hU:A.units+100<cLine:=by have:=cx.a.units;unfold cLine;exact R7 this
 have hdl:(P.mZ R).length≤7:=uZ _ _ (bG 0 7)
 obtain ⟨q1,q2⟩:=Ik P.told (by simp[LP.told,LP.strange]) F.ok
 refine aH (nk ((aV.now (X:=X) (d:=.bool true) (pQ (bs:=[true,true,true,true,true]) (by rfl) (.cons ?_ (.cons ?_ (.cons ?_ (.cons ?_ (.cons ?_ .nil)))))).ev) _ _ fun v s1 u1 r1=>?_))
 ·exact pX (op:=.Eq) (x:=true) (a:=aj (bM R.tabs)) (b:=aj (P.mZ R)) cx.Yz (aa hH cx (cs:=[]) (by rfl) trivial) (aa hH cx (cs:=[]) (by rfl) trivial) (fun s' va vb u ra rb=>(yG F.pairs hU ra rb).1) (by kernel_rfl)
 ·refine pX (op:=.Eq) (x:=true) (a:=aj R.book) (b:=aj (P.a0B R)) cx.Yz (aa hH cx (cs:=[]) (by rfl) trivial) ?_ (fun s' va vb u ra rb=>(yG F.book hU ra rb).1) (by kernel_rfl)
  have ek:((P.a0B R).map (fun x=>x.1)).Nodup:=by unfold LP.a0B;rw[kH];exact F.due
  refine pg (l:=((P.mZ R).map (fun x=>x.1)).map D.str) (f:=fun d=>(true,d.toStr,ZQ (((((P.mZ R).map (fun x=>x.1)).zip ((P.mZ R).map (fun x=>x.2))).lookup d.toStr).getD .none))) cx (nU F.due _ fun p hp=>hp) ek (by rw[bP,bP,c9];exact M5 hdl) (by kernel_rfl) (fun x hx=>?_) (by kernel_rfl)
   (az hH _ _ (l:=((P.mZ R).map (fun x=>x.1)).map .str) (cs:=[]) (by rfl) trivial cx (by kernel_rfl) (fun d Z=>.inl (by kernel_rfl))) (fun d hd=>⟨_,rfl,fun X' cenv s' YW=>⟨aW _,fun Z=>?_⟩⟩)
  ·have hx:x=af "name":=bS.mp hx
   subst hx
   first|exact .inl (by decide +kernel)|exact .inr (by decide +kernel)
  ·obtain ⟨key,hkey,rfl⟩:=eg.mp hd
   obtain ⟨p,hp,rfl⟩:=eg.mp hkey
   obtain ⟨a,b,hab⟩:=Jp hp
   have el:((((P.mZ R).map (fun x=>x.1)).zip ((P.mZ R).map (fun x=>x.2))).lookup p.1).getD .none=.tup [.int a,.int b]:=by
    rw[fu,jH F.due hp,hab];rfl
   refine⟨aa hH YW (cs:=[]) (by rfl) trivial,?_⟩
   show aV w A X' _ (ZQ (((((P.mZ R).map (fun x=>x.1)).zip ((P.mZ R).map (fun x=>x.2))).lookup p.1).getD .none)) s'
   rw[el]
   refine vd YW (l:=[.int a,.int b]) (n:=0) ?_ (aa hH YW (cs:=[]) (by rfl) trivial) (by simp) rfl gP
   rw[←el]
   exact aa hH YW (cs:=[p.1∈(P.mZ R).map (fun x=>x.1)]) (by rfl) ⟨hkey,trivial⟩
 ·refine aM (op:=.Eq) (a:=.int (kL (LP.num (P.best t 0)) (LP.num (P.best t 2)))) (b:=.int (Za (P.qi R))) (d:=.bool true) (cs:=[]) cx.a cx.Yz (aa hH cx (by rfl) ?_) (aa hH cx (cs:=[]) (by rfl) trivial) (by rw[F.a4F];show some (D.bool (decide _),[])=_;rw[decide_eq_true rfl]) trivial (by kernel_rfl)
  repeat' (first|exact o5 (by rfl)|exact trivial|refine av ?_ ?_)
 ·refine aM (op:=.Eq) (a:=.lst (P.told.map .str)) (b:=.lst (P.told.map .str)) (d:=.bool true) (cs:=[dO (.lst (P.told.map .str)) (.lst (P.told.map .str))]) cx.a cx.Yz ?_ (aQ (op:=.Add) (a:=.lst (P.strange.map .str)) (b:=.lst [.str (af ".local"),.str (af ".7.a.b7")]) (cs:=[(P.strange.map D.str).length+2≤sizeLine]) cx.Yz (aa hH cx (cs:=[]) (by rfl) trivial) (aa hH cx (cs:=[]) (by rfl) trivial) (by rfl) ⟨o5 (l:=[(),(),(),(),(),(),(),(),()]) (by rfl),trivial⟩) ?_ ⟨q2,trivial⟩ (by kernel_rfl)
  ·rw[←F.tells,←a0w]
   refine bJ (l:=P.asked.map D.str) (f:=fun d=>(true,D.str (dD d.toStr))) cx (by kernel_rfl) (fun x hx=>?_) (by kernel_rfl) (rQ (src:=.lst (P.asked.map .str)) cx.a cx.Yz (aQ (op:=.Add) (a:=.lst (P.strange.map .str)) (b:=.lst [.str (P.iV 0),.str (af "g.7.a.b7")]) (cs:=[(P.strange.map D.str).length+2≤sizeLine]) cx.Yz (aa hH cx (cs:=[]) (by rfl) trivial)
    (ph cx.Yz (by simp) (args_cons cx.Yz (by rfl) (b8 cx (l:=P.nm.map .str) (n:=0) (aa hH cx (cs:=[]) (by rfl) trivial) (aa hH cx (cs:=[]) (by rfl) trivial) hnl (qU F.nm (by exact a2M)) gP) (args_cons cx.Yz (by rfl) (aa hH cx (cs:=[]) (by rfl) trivial) args_nil))) (by rfl) ⟨o5 (l:=[(),(),(),(),(),(),(),(),()]) (by rfl),trivial⟩) rfl (by kernel_rfl) (fun d Z=>.inl (by kernel_rfl)))
    (fun d hd=>⟨_,rfl,fun X' cenv s' YW=>⟨aW _,fun Z=>?_⟩⟩) (o5 (by rfl))
   ·have hx:x=af "one":=bS.mp hx
    subst hx
    first|exact .inl (by decide +kernel)|exact .inr (by decide +kernel)
   ·obtain ⟨x,hx,rfl⟩:=eg.mp hd
    exact aa hH YW (d:=.str (dD x)) (cs:=[Df x∧1+(gG x).length≤sizeLine]) (by rfl) ⟨F.far x hx,trivial⟩
  ·show some (D.bool (rV (D.lst (P.told.map .str)).py (D.lst (P.told.map .str)).py),_)=_
   rw[q1]
 ·refine aM (op:=.Eq) (a:=.int (kB (kB (LP.num (P.best t 0)) (LP.num (P.best t 1))) (LP.num (P.best t 2)))) (b:=.int (Za (P.xu R))) (d:=.bool true) (cs:=[]) cx.a cx.Yz (aa hH cx (by rfl) ?_) (lK (id:="sum") hH cx (a:=.lst (P.xu R)) (cs:=[AllInt (P.xu R)]) (by kernel_rfl) (by kernel_rfl) ?_ (by rfl) (by rfl) ⟨fO _ _ _,trivial⟩) (by rw[F.a4G];show some (D.bool (decide _),[])=_;rw[decide_eq_true rfl]) trivial (by kernel_rfl)
  ·repeat' (first|exact o5 (by rfl)|exact trivial|refine av ?_ ?_)
  ·refine bJ (l:=bG 0 7) (f:=fun d=>(decide (P.tm R d.toInt.toNat>0)&&true,D.int (2 ^ d.toInt.toNat))) cx (by kernel_rfl) (fun x hx=>?_) (by kernel_rfl) (az hH _ _ (l:=bG 0 7) (cs:=[]) (by rfl) trivial cx (by kernel_rfl) (fun d Z=>.inl (by kernel_rfl))) (fun d hd=>⟨_,rfl,fun X' cenv s' YW=>⟨cD ?_ (aW _),fun Z=>?_⟩⟩) h7
   ·have hx:x=af "p":=bS.mp hx
    subst hx
    first|exact .inl (by decide +kernel)|exact .inr (by decide +kernel)
   ·obtain ⟨q,hq,rfl⟩:=mG hd
    exact(aM (op:=.Gt) (cs:=[]) (d:=.bool (decide (P.tm R q>0))) YW.a YW.Yz (b8 YW (l:=P.nm.map fun x=>.int (tmD R x)) (n:=q) (aa hH YW (cs:=[]) (by rfl) trivial) (aa hH YW (cs:=[]) (by rfl) trivial) htl (w5 F.nm hq) aU) (aa hH YW (d:=.int 0) (cs:=[]) (by rfl) trivial) rfl trivial (by kernel_rfl)).test _ rfl
   ·obtain ⟨q,hq,rfl⟩:=mG hd
    refine aQ (op:=.Pow) (a:=.int 2) (b:=.int q) (cs:=[]) YW.Yz (aa hH YW (cs:=[]) (by rfl) trivial) (aa hH YW (cs:=[]) (by rfl) trivial) ?_ trivial
    show(if((2:Int).natAbs<1000) then if(0:Int)≤(q:Int) then if(q:Int)≤1000 then some (D.int ((2:Int) ^ (q:Int).toNat),[]) else none else none else none)=_
    rw[if_pos (by decide),if_pos (by exact Ni hq),if_pos (by exact Hq hq)]
    rfl
 ·subst r1
  exact hQ s1 u1
end
end
section
noncomputable def jV (P:LP)(t:Tr):Zb:=⟨if(ask (P.W P.c3) t P.came).ok then 1 else 0,(ask (P.W P.c3) t P.came).told,if(ask (P.W (gT P.c3)) t P.came).ok then 1 else 0,(ask (P.W (gT P.c3)) t P.came).told,if(ask (P.W P.c4) t P.came).ok then 1 else 0,(ask (P.W P.c4) t P.came).told⟩
structure xR (P:LP)(t:Tr):Prop where
 nm:P.nm.length=7
 ab:P.ab.length=7
 nl:∀x∈P.nm,0<x.length∧x.length≤100
 far:∀x∈P.nm,Df x∧1+(gG x).length≤sizeLine
 lets:∀k,k<7→sI P.ab P.ds P.es P.tail k
 ll:∀k,k<7→(P.letter k).length≤1000
 ask:xP P t
 fit:oH P.ab t
 tabs:J8 (jV P t)
 due:jF P (jV P t) t
 row:xT P (jV P t) t
 fin:uN P (jV P t) t
noncomputable def cellAt (script:List Int)(k:Int):Int:=Za (nq (script.map .int) (some k) none (some 6))
noncomputable def vA (script:List Int):LP:=
 ⟨4+cellAt script 0,2514+cellAt script 1,939+cellAt script 2,109+cellAt script 3,82+cellAt script 4,1+cellAt script 5,(eY (4+cellAt script 0)).nm,(eY (4+cellAt script 0)).ab⟩
theorem DY (script:List Int)(a b c:Option Int):AllInt (nq (script.map .int) a b c):=by
 refine ZV fun d hd=>?_
 unfold nq at hd
 obtain ⟨i,_,hi⟩:=List.mem_filterMap.mp hd
 obtain ⟨z,hz,rfl⟩:=eg.mp (As hi)
 exact⟨z,rfl⟩
section
variable {w:gp}{k n:Nat}{A:Around}{X X':Addr→Prop}{env:UI}{outer:List UI}{sc:Scope}{ρ ρ':Yx}{s s' s'':aE}{μ YC YM:YX}{P:LP}{R:Zb}
theorem X7 {α:Type}{vs:List α}(h:vs.length=6):∃a b c d e f,vs=[a,b,c,d,e,f]:=by
 rcases vs with _|⟨a,vs⟩
 ·cases h
 obtain ⟨b,c,d,e,f,rfl⟩:=Oq (N2 h)
 exact⟨a,b,c,d,e,f,rfl⟩
theorem JF {α:Type}{l:List α}(h:l.length=7):∃a b c d e f g,l=[a,b,c,d,e,f,g]:=by
 rcases l with _|⟨a,l⟩
 ·cases h
 obtain ⟨b,c,d,e,f,g,rfl⟩:=X7 (N2 h)
 exact⟨a,b,c,d,e,f,g,rfl⟩
set_option maxHeartbeats 16000000 in
theorem zB (script:List Int)(hsl:script.length≤sizeLine)(mx:Mx w (40+n) A X env Z4 [(wSc,.lst (script.map .int))] [] s){Q:zh→aE→Prop}{E:bX→aE→Prop}{rest:List Stmt}(hr:rest=YG.drop 2)
  (hQ:∀s',YF (Own env Z4) s s'→Mx w (40+n) A X env Z4 (lw0 (vA script)) [] s'→cE (cS PW w) A (oz rest env) Q E s'):cE (cS PW w) A (oz YG env) Q E s:=by
 subst hr
 have hH:=(eZ w).mono (K':=40+n) (by exact pJ)
 refine aH (dK hH mx (x:=wCe) (d:=.lst [.int (vA script).c0,.int (vA script).c1,.int (vA script).c2,.int (vA script).c3,.int (vA script).c4,.int (vA script).c5]) (bD (by kernel_rfl)) (by kernel_rfl) (by rfl) ?_ fun s1 ZG m1=>?_)
 ·have hp:∀a b c,AllInt (nq (script.map D.int) a b c):=DY script
  have hl:(script.map D.int).length≤sizeLine:=by rw[bP];exact hsl
  repeat' (first|exact hp _ _ _|exact hl|exact o5 (by rfl)|exact trivial|refine av ?_ ?_)
 refine aH (mR m1.cx (d:=.tup [.lst ((vA script).nm.map .str),.lst (aq (vA script).ab)]) rfl (fun y hy=>?_) rfl rfl (bh hH _ (by rfl) ?_ m1.cx).1 fun s2 Zc c2=>?_)
 ·rcases dP.mp hy with rfl|hy
  ·exact bD (by kernel_rfl)
  ·cases bS.mp hy
   exact bD (by kernel_rfl)
 ·repeat' (first|exact o5 (by rfl)|exact trivial|refine av ?_ ?_)
 refine hQ s2 (ZG.trans Zc) ((m1.step Zc c2).Zf ?_)
 exact allAt (av rfl (av rfl (av rfl trivial)))
set_option maxHeartbeats 16000000 in
theorem Ds (hA:Zv (40+n+1) A)(hfr:A.frames=some [])(hX:Z6 X s)(hB:Base w X s.heap){script:List Int}(hsl:script.length≤sizeLine){vs:List bX}(r:aX w s.heap X [.lst (script.map .int)] vs){t:Tr}(F:xR (vA script) t){Q E:bX→aE→Prop}
  (hQ:∀s',Pu s s'→Q (.bool true) s'):cE (cS PW w) A (call (.ref 221) vs) Q E s:=by
 have hv:vs.length=1:=r.length
 refine dq (k:=40+n) hA hX hB (show Zd.lookup 221=some (bU "law",dZ "law",Z4) from by kernel_rfl) (ps:=psN "law") (by decide +kernel) (fun fd e1 e2 e3=>fQ e1 e2 e3 fun fd=>?_) rfl r fun env X1 s1 st=>?_
 ·obtain ⟨a,rfl⟩:=Hf hv;rfl
 obtain ⟨n0,n1,n2,n3,n4,n5,n6,hnm⟩:=JF F.nm
 obtain ⟨a0,a1,a2,a3,a4,a5,a6,hab⟩:=JF F.ab
 refine zB script hsl (Mx.of st.cx) rfl fun s2 Zc m2=>?_
 refine O9 hnm hab m2 rfl fun s3 pb3 m3=>?_
 refine Oa hnm hab F.nl m3 rfl fun s4 pb4 m4=>?_
 refine Ob hnm hab F.far F.lets m4 rfl fun s5 pb5 m5=>?_
 have p15:=((Zc.trans pb3).trans pb4).trans pb5
 have fx5:Fx w (40+n) (A.deeper env) X1 env Z4 (lw4 (vA script)) [] [] s5:=
  {mx:=m5
   frames:=by show A.frames.map (env::·)=_;rw[hfr];rfl
   here:=st.frame
   ff:=trivial
   fx:=fun a ha=>by cases ha
   ap:=fun p hp=>by cases hp}
 refine Oc F.ask fx5 rfl fun aR X2 s6 hn6 gX6 p6 m6=>?_
 have p16:Z1 (dj env Z4 [aR]) (frs [env]) s1 s6:=(Z1.YJ (p15.mono fun a h=>.inl h)).trans p6
 have bR:61<aR:=m6.mu.big (aR,_) ay
 have aw:=m6.mu.away (aR,_) ay
 have nR:s.heap.get? aR=none:=by
  have q1:s1.heap.get? aR=none:=cQ (.YJ p15 (fr:=[])) hn6 (fun q=>aw q.pl) (fun q=>by rw[q] at bR;exact absurd bR (by decide))
  exact cQ (.YB st.pu (Z:=fun Y=>False) (fr:=[])) q1 id (fun q=>by rw[q] at bR;exact absurd bR (by decide))
 have m7:=m6.a0M (YC:=[]) (x:=wRn) (by rfl)
 have m8:Mx w (40+n) (A.deeper env) _ env Z4 (lw6 (vA script) (jV (vA script) t)) [] s6:=m7.Zf (allAt (av rfl (av rfl (av rfl (av rfl (av rfl (av rfl (av rfl (av rfl (av rfl (av rfl (av rfl (av rfl trivial)))))))))))))
 refine Od F.tabs m8 rfl fun s9 pb9 m9=>?_
 refine Oe F.tabs m9 rfl fun s10 a0O m10=>?_
 refine Og F.ask.root F.ask.ht (ee F.ask.size) F.fit F.ab m10 rfl fun s11 a5h m11=>?_
 refine Oh F.due m11 rfl fun s12 X3 a5i m12=>?_
 refine Oi F.row m12 rfl fun s13 u13 m13=>?_
 refine Oj m13 rfl fun s14 a5j m14=>?_
 refine Ol F.nm F.ll F.fin.due m14 rfl fun s15 a5k m15=>?_
 refine Om F.fin m15 rfl fun s16 a5l m16=>?_
 refine Oo F.fin m16 fun s17 u17=>?_
 have pEnd:YF (Own env Z4) s6 s17:=((((((((pb9.trans a0O).trans a5h).trans a5i).trans (.YB u13)).trans a5j).trans a5k).trans a5l).trans (.YB u17))
 have a1Z:Z1 (dj env Z4 [aR]) (frs [env]) s1 s17:=p16.trans (.YJ (pEnd.mono fun a h=>.inl h))
 refine hQ s17 ⟨fun a o e ne=>?_,fun h=>a1Z.tab (st.pu.tab h),fun g=>a1Z.gens (st.pu.gens g),a1Z.drawn.trans st.pu.drawn,a1Z.os.trans st.pu.os⟩
 have e1:=st.pu.heap a o e ne
 rcases a1Z.heap a o e1 ne (fun z=>by
  rcases z with z|z
  ·rw[st.new a z.pl] at e;exact YD e
  ·cases bS.mp z;exact YD (nR.symm.trans e)) with q|⟨m,_⟩
 ·exact q
 ·have:a=env.locals:=by
   unfold frs at m
   rw[sA,st.frame] at m
   simpa using m
  subst this
  rw[st.new _ (.inl rfl)] at e;exact YD e
end
end
section
noncomputable def mkT (a b:Nat):Tr:=
 match a,b with
 | 0,0=>.node 0 (.node 1 (.leaf 3) (.leaf 4)) (.node 2 (.leaf 5) (.leaf 6))
 | 0,1=>.node 0 (.node 1 (.node 3 (.leaf 5) (.leaf 6)) (.leaf 4)) (.leaf 2)
 | 0,_=>.node 0 (.node 1 (.leaf 3) (.node 4 (.leaf 5) (.leaf 6))) (.leaf 2)
 |_,0=>.node 0 (.node 1 (.leaf 5) (.leaf 6)) (.node 2 (.leaf 3) (.leaf 4))
 |_,1=>.node 0 (.leaf 1) (.node 2 (.node 3 (.leaf 5) (.leaf 6)) (.leaf 4))
 |_,_=>.node 0 (.leaf 1) (.node 2 (.leaf 3) (.node 4 (.leaf 5) (.leaf 6)))
noncomputable def TS.turnAt (s:TS)(k:Nat)(p:Nat×Nat):TS:=
 ⟨0,s.nm++[sgn p.1++af "."++s.nm.getD (s.lv.getD k 0) Str.empty,sgn p.2++af "."++s.nm.getD (s.lv.getD k 0) Str.empty],s.ab++[s.lv.getD k 0,s.lv.getD k 0],s.lv.eraseIdx k++[s.nm.length,s.nm.length+1]⟩
noncomputable def mkS (a b:Nat):TS:=(((ts0 0).turnAt 0 (98,99)).turnAt a (100,101)).turnAt b (102,103)
theorem uK (s:TS)(p:Nat×Nat):(s.turn p).nm=(s.turnAt s.pick p).nm∧(s.turn p).ab=(s.turnAt s.pick p).ab∧(s.turn p).lv=(s.turnAt s.pick p).lv:=⟨rfl,rfl,rfl⟩
theorem gQ {s s':TS}(h1:s.nm=s'.nm)(h2:s.ab=s'.ab)(h3:s.lv=s'.lv)(k:Nat)(p:Nat×Nat):s.turnAt k p=s'.turnAt k p:=by
 unfold TS.turnAt;rw[h1,h2,h3]
theorem six (c:Int):∃a b,a<2∧b<3∧(eY c).nm=(mkS a b).nm∧(eY c).ab=(mkS a b).ab:=by
 have p0:(ts0 c).pick=0:=by
  have:=(oE c).a01
  have e:(ts0 c).lv.length=1:=rfl
  exact Sq this e
 have t1:=uK (ts0 c) (98,99)
 rw[p0] at t1
 have e1:(ts0 c).turnAt 0 (98,99)=(ts0 0).turnAt 0 (98,99):=gQ rfl rfl rfl _ _
 rw[e1] at t1
 generalize hs1:(ts0 c).turn (98,99)=s1 at t1
 have k1:q8 s1 1:=hs1▸(oE c).turn _
 have t2:=uK s1 (100,101)
 rw[gQ t1.1 t1.2.1 t1.2.2] at t2
 generalize hs2:s1.turn (100,101)=s2 at t2
 have k2:q8 s2 2:=hs2▸k1.turn _
 have t3:=uK s2 (102,103)
 rw[gQ t2.1 t2.2.1 t2.2.2] at t3
 refine⟨s1.pick,s2.pick,?_,?_,?_,?_⟩
 ·have:=k1.a01;have:=k1.lv;exact T7 (by assumption) this
 ·have:=k2.a01;have:=k2.lv;exact T8 (by assumption) this
 ·have e:eY c=s2.turn (102,103):=by rw[←hs2,←hs1];rfl
  rw[e];exact t3.1
 ·have e:eY c=s2.turn (102,103):=by rw[←hs2,←hs1];rfl
  rw[e];exact t3.2.1
noncomputable def jq (nm:List Str):Tr→Bool
 | .leaf p=>decide (p<7)&&(jI 7).all fun b=>decide (¬dD (nm.getD b Str.empty)=af "."++nm.getD p Str.empty)
 | .node p l r=>decide (p<7)&&(decide (l.root<r.root)&&(decide (r.root<7)&&(((jI 7).all fun b=>decide (dD (nm.getD b Str.empty)=af "."++nm.getD p Str.empty)==(decide (b=l.root)||decide (b=r.root)))&&(jq nm l&&jq nm r))))
noncomputable def yR (ab:List Nat):Tr→Bool
 | .leaf p=>decide (p<7)&&decide (kidsOf ab p=[])
 | .node p l r=>decide (p<7)&&(decide (kidsOf ab p=[l.root,r.root])&&(yR ab l&&yR ab r))
noncomputable def IW (ab:List Nat):Nat→Nat→Bool
 | 0,q=>decide (q=0)
 |m+1,q=>decide (q≠0)&&(decide (q<7)&&IW ab m (ab.getD q 0))
noncomputable def jj (nm:List Str):List Str:=[af "local",af "a.locals",af "a.slocal",af "."++nm.getD 6 Str.empty,nm.getD 6 Str.empty++af ".",nm.getD 6 Str.empty++af ".7",nm.getD 6 Str.empty++af ".77"]
noncomputable def Nb (x:Str):Bool:=decide (x.length≤1000)&&((dW P1 x 100000).isSome&&decide (1+(gG x).length≤1000))
noncomputable def NB (nm:List Str)(ab:List Nat)(t:Tr):Bool:=
 jq nm t&&(yR ab t&&(decide (nm.length=7)&&(decide (ab.length=7)&&(nm.all (fun x=>decide (0<x.length)&&decide (x.length≤100))&&(nm.all Nb&&
 ((jI 7).all (fun q=>IW ab 0 q||(IW ab 1 q||(IW ab 2 q||IW ab 3 q)))&&(decide nm.Nodup&&(decide (t.root=0)&&(decide (t.ht≤3)&&decide (t.size=7))))))))))
noncomputable def NK (t:Tr):Bool:=(Yy t).all (fun o=>decide o.Nodup&&(o.all (fun p=>decide (p<7))&&decide (o≠[])))&&decide ((Yy t).map LP.num).Nodup
noncomputable def NP (nm:List Str):Bool:=
 (jj nm++[nm.getD 0 Str.empty,af "g.7.a.b7"]).all Nb&&(decide ((jj nm++[nm.getD 0 Str.empty,af "g.7.a.b7"]).map dD=jj nm++[af ".local",af ".7.a.b7"])&&
 (jj nm++[af ".local",af ".7.a.b7"]).all fun x=>tT x)
noncomputable def Gq (a b:Nat):Bool:=NB (mkS a b).nm (mkS a b).ab (mkT a b)&&(NK (mkT a b)&&NP (mkS a b).nm)
theorem a2Z:Gq 0 0=true:=by kernel_rfl
theorem a3a:Gq 0 1=true:=by kernel_rfl
theorem a3b:Gq 0 2=true:=by kernel_rfl
theorem a3c:Gq 1 0=true:=by kernel_rfl
theorem a3d:Gq 1 1=true:=by kernel_rfl
theorem a3e:Gq 1 2=true:=by kernel_rfl
theorem xY {P:Nat→Prop}:∀a,a<0→P a:=fun a h=>absurd h (Nat.not_lt_zero a)
theorem jK {P:Nat→Prop}{n:Nat}(h:∀a,a<n→P a)(hn:P n):∀a,a<n+1→P a:=fun a ha=>(Nat.lt_or_eq_of_le (kU ha)).elim (h a) (fun e=>e▸hn)
theorem a2o:∀a,a<2→∀b,b<3→Gq a b=true:=
 jK (jK xY (jK (jK (jK xY a2Z) a3a) a3b)) (jK (jK (jK xY a3c) a3d) a3e)
theorem Je {a b:Nat}(ha:a<2)(hb:b<3):NB (mkS a b).nm (mkS a b).ab (mkT a b)=true∧NK (mkT a b)=true∧NP (mkS a b).nm=true:=by
 have h:=cy.mp (a2o a ha b hb)
 exact⟨h.1,cy.mp h.2⟩
end
section
section
variable {P:LP}
theorem o9 (P:LP){b:Nat}(hb:b<7):P.reaches.getD b Str.empty=dD (P.nm.getD b Str.empty):=by
 have:b=0∨b=1∨b=2∨b=3∨b=4∨b=5∨b=6:=by exact om0 hb
 rcases this with rfl|rfl|rfl|rfl|rfl|rfl|rfl<;>rfl
theorem uJ (P:LP)(st:Int):∀t:Tr,jq P.nm t=true→Z7 (P.W st) t
 | .leaf p,h=>by
  simp only[jq,j3,decide_eq_true_eq,fR,kQ] at h
  refine⟨h.1,fun b hb q=>h.2 b hb ?_⟩
  have q':P.reaches.getD b Str.empty=af "."++P.nm.getD p Str.empty:=q
  rw[o9 P hb] at q'
  exact q'
 | .node p l r,h=>by
  simp only[jq,j3,decide_eq_true_eq,fR,kQ,beq_iff_eq] at h
  obtain ⟨h1,h2,h3,h4,h5,h6⟩:=h
  refine⟨h1,h2,h3,fun b hb=>?_,uJ P st l h5,uJ P st r h6⟩
  have e:=h4 b hb
  show P.reaches.getD b Str.empty=af "."++P.nm.getD p Str.empty↔_
  rw[o9 P hb]
  have e2:decide (dD (P.nm.getD b Str.empty)=af "."++P.nm.getD p Str.empty)=decide (b=l.root∨b=r.root):=by rw[e];simp
  exact decide_eq_decide.mp e2
theorem yS (ab:List Nat):∀t:Tr,yR ab t=true→oH ab t
 | .leaf p,h=>by
  simp only[yR,j3,decide_eq_true_eq] at h
  exact h
 | .node p l r,h=>by
  have h:=cy.mp h
  have h2:=cy.mp h.2
  have h3:=cy.mp h2.2
  exact⟨of_decide_eq_true h.1,of_decide_eq_true h2.1,yS ab l h3.1,yS ab r h3.2⟩
theorem rZ (ab:List Nat):∀(m q:Nat),IW ab m q=true→Way ab m q
 | 0,q,h=>by
  exact of_decide_eq_true (p:=q=0) h
 |m+1,q,h=>by
  have h:=cy.mp h
  have h2:=cy.mp h.2
  exact⟨of_decide_eq_true h.1,of_decide_eq_true h2.1,rZ ab m _ h2.2⟩
structure eN (P:LP)(t:Tr):Prop where
 nm:P.nm.length=7
 ab:P.ab.length=7
 nl:∀x∈P.nm,0<x.length∧x.length≤100
 far:∀x∈P.nm,Df x∧1+(gG x).length≤sizeLine
 way:∀q,q<7→∃m,m≤3∧Way P.ab m q
 nd:P.nm.Nodup
 root:t.root=0
 ht:t.ht≤3
 size:t.size=7
 tree:∀st,Z7 (P.W st) t
 fit:oH P.ab t
 sets:∀o∈Yy t,o.Nodup∧(∀p∈o,p<7)∧o≠[]
 nums:((Yy t).map LP.num).Nodup
 asked:∀x∈P.asked,Df x∧1+(gG x).length≤sizeLine
 tells:P.asked.map dD=P.told
 ok:∀x∈P.told,tT x=true
theorem Fp {x:Str}(h:Nb x=true):Df x∧1+(gG x).length≤sizeLine:=by
 simp only[Nb,j3,decide_eq_true_eq] at h
 have le:∀{n:Nat},n≤1000→n≤sizeLine:=fun h=>by rw[c9];exact ai h (by decide)
 exact⟨⟨le h.1,h.2.1⟩,le h.2.2⟩
theorem Ip {a b:Nat}(ha:a<2)(hb:b<3)(hn:P.nm=(mkS a b).nm)(hab:P.ab=(mkS a b).ab):eN P (mkT a b):=by
 obtain ⟨h1,h2,h3⟩:=Je ha hb
 rw[←hn,←hab] at h1
 rw[←hn] at h3
 simp only[NB,j3,decide_eq_true_eq,fR,kQ,B7] at h1
 simp only[NK,j3,decide_eq_true_eq,fR] at h2
 simp only[NP,j3,decide_eq_true_eq,fR] at h3
 obtain ⟨e1,e2,e3,e4,e5,e6,e7,e8,e9,e10,e11⟩:=h1
 refine⟨e3,e4,e5,fun x hx=>Fp (e6 x hx),fun q hq=>?_,e8,e9,e10,e11,fun st=>uJ P st _ e1,yS _ _ e2,fun o ho=>⟨(h2.1 o ho).1,(h2.1 o ho).2.1,(h2.1 o ho).2.2⟩,h2.2,fun x hx=>Fp (h3.1 x hx),h3.2.1,h3.2.2⟩
 rcases e7 q hq with h|h|h|h
 ·exact⟨0,by exact a3S,rZ _ _ _ h⟩
 ·exact⟨1,by exact a2I,rZ _ _ _ h⟩
 ·exact⟨2,by exact a2J,rZ _ _ _ h⟩
 ·exact⟨3,by exact a2K,rZ _ _ _ h⟩
theorem oF {t:Tr}(F:eN P t)(st:Int):WOk (P.W st):=⟨F.nm,rfl,rfl,F.nd,fun x hx=>by have:=F.nl x hx;exact Vc this⟩
theorem Du {t:Tr}(F:eN P t){k:Nat}(hk:k<7):sI P.ab P.ds P.es P.tail k:=by
 obtain ⟨m,hm,hw⟩:=F.way k hk
 refine⟨F.ab,rfl,rfl,fun x hx=>?_,fun x hx=>?_,by have:=P.vZ;exact V5 this,hk,m,by exact Vl hm,hw⟩
 ·simp only[LP.ds,dP,eu,or_false] at hx
  rcases hx with rfl|rfl|rfl|rfl|rfl|rfl|rfl<;>exact P.t6 _
 ·simp only[LP.es,dP,eu,or_false] at hx
  rcases hx with rfl|rfl|rfl|rfl|rfl|rfl|rfl<;>exact P.Fo _
end
end
section
section
variable {W:Wd}{κ:Nat→Int}
noncomputable def bV (W:Wd)(κ:Nat→Int)(o:List Nat):KD:=o.map fun p=>(nameAt W p,D.int (κ p))
noncomputable def jW (κ:Nat→Int)(o:List Nat):Int:=(o.map κ).sum
theorem dN (hW:WOk W){a b:Nat}(ha:a<7)(hb:b<7)(h:nameAt W a=nameAt W b):a=b:=by
 have hn:=hW.n
 unfold nameAt at h
 rw[bq,bq,c8 (by exact om7 ha hn),c8 (by exact om7 hb hn)] at h
 have h:W.names[a]'(by exact om7 ha hn)=W.names[b]'(by exact om7 hb hn):=h
 rcases ET a b with q|q|q
 ·exact absurd h (mP.mp hW.nd a b (by exact Rr hb hn q) (by exact Rn ha hb hn q) q)
 ·exact q
 ·exact absurd h.symm (mP.mp hW.nd b a (by exact Rm ha hb hn q) (by exact om7 ha hn) q)
theorem fJ (o:List Nat):(bV W κ o).map (fun x=>x.1)=o.map (nameAt W):=by unfold bV;rw[kH];rfl
theorem jd (hW:WOk W):∀(b a:List Nat),(a++b).Nodup→(∀p∈a++b,p<7)→aF (bV W κ a) (bV W κ b)=bV W κ (a++b)
 | [],a,_,_=>by show bV W κ a=_;rw[nK]
 |p::b,a,hn,hl=>by
  have hnot:nameAt W p∉(bV W κ a).map (fun x=>x.1):=fun h=>by
   rw[fJ] at h
   obtain ⟨q,hq,e⟩:=eg.mp h
   have:q=p:=dN hW (hl q (l9 _ hq)) (hl p (jv _ ay)) e
   subst this
   exact(i8.mp hn).2.2 q hq q ay rfl
  have e1:dX (bV W κ a) (nameAt W p) (.int (κ p))=bV W κ (a++[p]):=by
   have hnone:Zg (bV W κ a) (nameAt W p)=none:=by
    cases q:Zg (bV W κ a) (nameAt W p) with
    |none=>rfl
    |some d=>exact absurd (i6 (f:=zI) (oM q)) hnot
   unfold dX
   rw[hnone,pL hnot]
   unfold bV
   rw[g9];rfl
  show aF (dX (bV W κ a) (nameAt W p) (.int (κ p))) (bV W κ b)=_
  rw[e1,jd hW b (a++[p]) (by rw[ko];exact hn) (by rw[ko];exact hl),ko]
  rfl
theorem vH (p:Nat)(o:List Nat):LP.num (p::o)=2 ^ p+LP.num o:=by unfold LP.num;rw[dc,B5]
theorem wW (a b:List Nat):LP.num (a++b)=LP.num a+LP.num b:=by unfold LP.num;rw[g9,HT]
theorem sZ (a b:List Nat):jW κ (a++b)=jW κ a+jW κ b:=by unfold jW;rw[g9,HT]
noncomputable def lJ (x p:Nat):Bool:=x / 2 ^ p % 2==1
theorem pow_step:((jI 128).all fun x=>(jI 7).all fun p=>lJ x p||(decide (kB (x:Int) (1*2 ^ ((p:Int)).toNat)=(x:Int)+2 ^ p)&&(decide (x+2 ^ p<128)&&(jI 7).all fun q=>lJ (x+2 ^ p) q==(lJ x q||decide (q=p)))))=true:=by kernel_rfl
theorem FP {x p:Nat}(hx:x<128)(hp:p<7)(hb:lJ x p=false):kB (x:Int) (1*2 ^ ((p:Int)).toNat)=(x:Int)+2 ^ p∧x+2 ^ p<128∧∀q,q<7→lJ (x+2 ^ p) q=(lJ x q||decide (q=p)):=by
 have h:=fR.mp (fR.mp pow_step x (kQ.mpr hx)) p (kQ.mpr hp)
 rw[hb,Bool.false_or] at h
 simp only[j3,decide_eq_true_eq,fR,kQ,beq_iff_eq] at h
 exact h
theorem a1r:∀(b a:List Nat) (x:Nat),x<128→(∀q,q<7→lJ x q=decide (q∈a))→(a++b).Nodup→(∀p∈b,p<7)→∃y:Nat,y<128∧(y:Int)=x+LP.num b∧(∀q,q<7→lJ y q=decide (q∈a++b))
 | [],a,x,hx,hb,_,_=>⟨x,hx,by simp[LP.num],by simpa using hb⟩
 |p::b,a,x,hx,hb,hn,hl=>by
  have hp:=hl p ay
  have hpa:p∉a:=fun h=>(i8.mp hn).2.2 p h p ay rfl
  have hf:lJ x p=false:=by rw[hb p hp];exact decide_eq_false hpa
  obtain ⟨_,h2,h3⟩:=FP hx hp hf
  obtain ⟨y,hy,e,hq⟩:=a1r b (a++[p]) (x+2 ^ p) h2 (fun q hq=>by rw[h3 q hq,hb q hq];simp) (by rw[ko];exact hn) fun q hq=>hl q (bE _ hq)
  refine⟨y,hy,?_,fun q hq'=>by rw[hq q hq',ko];rfl⟩
  rw[e,vH]
  push_cast
  exact Kl
end
end
section
section
variable {W:Wd}{κ:Nat→Int}
theorem a0g:∀{l:List Str},l.Nodup→∀{p:Nat} (hp:p<l.length),bQ l[p] (l.map D.str)=p
 |a::l,h,0,_=>by
  exact if_pos (show(D.str a).toStr=a from rfl)
 |a::l,h,p+1,hp=>by
  rw[ja] at h
  have hp':p<l.length:=by simpa using hp
  have ih:=a0g h.2 hp'
  show(if(D.str a).toStr=l[p] then 0 else bQ l[p] (l.map D.str)+1)=p+1
  rw[if_neg (show¬(D.str a).toStr=l[p] from fun q=>h.1 (by have q:a=l[p]:=q;rw[q];exact kM hp')),ih]
theorem Dg (hW:WOk W){p:Nat}(hp:p<7):bQ (nameAt W p) (W.names.map D.str)=p:=by
 have hn:=hW.n
 have:=a0g hW.nd (p:=p) (by exact om7 hp hn)
 unfold nameAt
 rw[bq,c8 (by exact RW hp hn this)]
 exact this
theorem rH (hW:WOk W):∀(b a:List Nat) (x:Nat),x<128→(∀q,q<7→lJ x q=decide (q∈a))→(a++b).Nodup→(∀p∈b,p<7)→jR (W.names.map D.str) (x:Int) (b.map (nameAt W))=x+LP.num b
 | [],a,x,_,_,_,_=>by simp[jR,LP.num]
 |p::b,a,x,hx,hb,hn,hl=>by
  have hp:=hl p ay
  have hpa:p∉a:=fun h=>(i8.mp hn).2.2 p h p ay rfl
  have hf:lJ x p=false:=by rw[hb p hp];exact decide_eq_false hpa
  obtain ⟨h1,h2,h3⟩:=FP hx hp hf
  show jR (W.names.map D.str) (kB (x:Int) (1*2 ^ ((bQ (nameAt W p) (W.names.map D.str):Nat):Int).toNat)) (b.map (nameAt W))=_
  rw[Dg hW hp,h1]
  have e:((x:Int)+2 ^ p)=((x+2 ^ p:Nat):Int):=by push_cast;rfl
  rw[e,rH hW b (a++[p]) (x+2 ^ p) h2 (fun q hq=>by rw[h3 q hq,hb q hq];simp) (by rw[ko];exact hn) (fun q hq=>hl q (bE _ hq)),vH]
  push_cast
  exact Kl
theorem a3w:∀q,q<7→lJ 0 q=decide (q∈([]:List Nat)):=by decide
theorem Ew (o:List Nat):Za ((bV W κ o).map (fun x=>x.2))=jW κ o:=by
 induction o with
 |nil=>rfl
 |cons p o ih=>
  unfold bV jW at ih ⊢
  rw[dc,dc,dc,B5,←ih];rfl
theorem uA (hW:WOk W){o:List Nat}(hn:o.Nodup)(hl:∀p∈o,p<7):rowOf W (bV W κ o)=(LP.num o,jW κ o):=by
 unfold rowOf
 rw[fJ,Ew]
 have:=rH hW o [] 0 (by decide) a3w (hn) hl
 rw[show((0:Nat):Int)=0 from rfl,HG] at this
 rw[this]
noncomputable def eG (w0 w1:Int)(κ:Nat→Int)(o:List Nat):Int×Int:=(w0*jW κ o,w1*LP.num o)
theorem lX {x y:Int×Int}:keyLt x y=true↔x.1<y.1∨(x.1=y.1∧x.2<y.2):=by
 unfold keyLt;simp
noncomputable def mY (x y:Int×Int):Int×Int:=(x.1+y.1,x.2+y.2)
theorem d7 (w0 w1:Int)(a b:List Nat):eG w0 w1 κ (a++b)=mY (eG w0 w1 κ a) (eG w0 w1 κ b):=by
 unfold eG mY;rw[sZ,wW,SP,SP]
theorem fU {a b:List Nat}(h:a.Perm b):LP.num a=LP.num b:=by
 unfold LP.num
 induction h with
 |nil=>rfl
 |cons x _ ih=>simp[ih]
 |swap x y l=>simp;exact Ke
 |trans _ _ h1 h2=>exact h1.trans h2
theorem qw {a b:List Nat}(h:a.Perm b):jW κ a=jW κ b:=by
 unfold jW
 induction h with
 |nil=>rfl
 |cons x _ ih=>simp[ih]
 |swap x y l=>simp;exact Ke
 |trans _ _ h1 h2=>exact h1.trans h2
theorem Dp (w0 w1:Int){a b:List Nat}(h:a.Perm b):eG w0 w1 κ a=eG w0 w1 κ b:=by
 unfold eG;rw[fU h,qw h]
theorem lev {w a b r:Int}{P:Prop}(hw:0<w∨w<0)(he:a=b→(r<0↔P)):(if a<b then -w else if a>b then w else r)<0↔(w*a<w*b∨(w*a=w*b∧P)):=by
 rcases EU a b with h|h|h
 ·rw[if_pos h]
  rcases hw with p|p
  ·exact iff_of_true (Int.neg_neg_of_pos p) (.inl (DL h p))
  ·have q:=DM h p
   exact iff_of_false (A7.mpr (tS (Int.neg_pos_of_neg p))) fun z=>z.elim (HM q) fun z=>DU q z.1
 ·subst h
  rw[if_neg (r8 _),if_neg (r8 _)]
  exact(he rfl).trans ⟨fun p=>.inr ⟨rfl,p⟩,fun z=>z.elim (fun z=>(r8 _ z).elim) fun z=>z.2⟩
 ·rw[if_neg (HM h),if_pos h]
  rcases hw with p|p
  ·have q:=DL h p
   exact iff_of_false (HM p) fun z=>z.elim (HM q) fun z=>DU q z.1
  ·exact iff_of_true p (.inl (DM h p))
theorem Gs {w0 w1:Int}(h0:w0=1∨w0=-1∨w0=2∨w0=-2)(h1:w1=1∨w1=-1∨w1=3∨w1=-3)(n1 c1 n2 c2:Int):su w0 w1 n1 c1 n2 c2<0↔keyLt (w0*c1,w1*n1) (w0*c2,w1*n2)=true:=by
 rw[lX]
 exact lev (by rcases h0 with rfl|rfl|rfl|rfl<;>decide) fun Z=>(lev (by rcases h1 with rfl|rfl|rfl|rfl<;>decide) fun Z=>iff_of_false (r8 0) id).trans ⟨fun z=>z.elim id fun z=>z.2.elim,.inl⟩
theorem jc (z x y:Int×Int):keyLt (mY z x) (mY z y)=keyLt x y:=by
 simp only[keyLt,mY,Int.add_lt_add_iff_left,Int.add_right_inj]
theorem pG (x y:Int×Int):mY x y=mY y x:=To (HC ..) (HC ..)
theorem tW (z x y:Int×Int):keyLt (mY x z) (mY y z)=keyLt x y:=by rw[pG x,pG y,jc]
theorem zz (z x y:Int×Int):keyLt (mY z x) (mY y z)=keyLt x y:=by rw[pG y,jc]
theorem Hc (z x y:Int×Int):keyLt (mY x z) (mY z y)=keyLt x y:=by rw[pG x,jc]
theorem jM (x:Int×Int):keyLt x x=false:=by
 simp only[keyLt,r8,decide_false,Bool.and_false,CI]
theorem Hd {x y:Int×Int}:keyLt y x=false↔x.1≤y.1∧(y.1=x.1→x.2≤y.2):=by
 rw[←Bool.not_eq_true,lX,not_or,A7,not_and,A7]
theorem lY {x y:Int×Int}(h:keyLt x y=true):keyLt y x=false:=by
 rw[Hd]
 rcases lX.mp h with h|⟨h1,h2⟩
 ·exact⟨tS h,fun e=>(DU h e).elim⟩
 ·exact⟨MU h1,fun Z=>tS h2⟩
theorem tX {x y z:Int×Int}(h1:keyLt y x=false)(h2:keyLt z y=false):keyLt z x=false:=by
 rw[Hd] at h1 h2 ⊢
 exact⟨kg h1.1 h2.1,fun e=>have q:=D5 (e▸h1.1:z.1≤y.1) h2.1;kg (h1.2 (q▸e)) (h2.2 q)⟩
theorem O8 {x y:Int×Int}(h1:keyLt x y=false)(h2:keyLt y x=false):x=y:=by
 rw[Hd] at h1 h2
 have e:=D5 h2.1 h1.1
 exact To e (D5 (h2.2 e.symm) (h1.2 e))
end
end
section
noncomputable def Z3:Tr→List Nat
 | .leaf p=>[p]
 | .node p l r=>p::(Z3 l++Z3 r)
noncomputable def lq (W:Wd)(κ:Nat→Int):Tr→Str→Prop
 | .leaf p,c=>((bf W p c).length:Int)=κ p
 | .node p l r,c=>((bf W p c).length:Int)=κ p∧lq W κ l (qS (bf W p c))∧lq W κ r (qS (bf W p c))
section
variable {W:Wd}{κ:Nat→Int}{w0 w1:Int}{bit:Nat→Bool}
structure Opt (bit:Nat→Bool)(key:List Nat→Int×Int)(t:Tr)(v:Bool)(O:List Nat):Prop where
 mem:∃o∈Yy t,o.Perm O
 all:∀p∈O,bit p=v
 least:∀o∈Yy t,(∀p∈o,bit p=v)→keyLt (key o) (key O)=false
 none:∀o∈Yy t,¬∀p∈o,bit p=!v
theorem Wj (w0 w1:Int)(p:Nat)(o:List Nat):eG w0 w1 κ (p::o)=mY (eG w0 w1 κ [p]) (eG w0 w1 κ o):=d7 w0 w1 [p] o
theorem vv {a v:Bool}(h:a≠v):v=!a:=by cases a<;>cases v<;>simp_all
theorem kO {p:Nat}{l r:Tr}{v v1 v2:Bool}{B C O:List Nat}(hl:Opt bit (eG w0 w1 κ) l v1 B)(hr:Opt bit (eG w0 w1 κ) r v2 C)
  (mem:∃o∈Yy (.node p l r),o.Perm O) (all:∀p∈O,bit p=v) (two:(bit p=v∧v1=v)∨(bit p=v∧v2=v)∨(v1=v∧v2=v))
  (h1:bit p=v→v1=v→keyLt (mY (eG w0 w1 κ [p]) (eG w0 w1 κ B)) (eG w0 w1 κ O)=false) (h2:bit p=v→v2=v→keyLt (mY (eG w0 w1 κ [p]) (eG w0 w1 κ C)) (eG w0 w1 κ O)=false)
  (h3:v1=v→v2=v→keyLt (mY (eG w0 w1 κ B) (eG w0 w1 κ C)) (eG w0 w1 κ O)=false):Opt bit (eG w0 w1 κ) (.node p l r) v O:=by
 have inl:∀{u:Bool} {a:List Nat},a∈Yy l→(∀q∈a,bit q=u)→v1=u:=fun {u a} ha hu=>by
  by_cases q:v1=u
  ·exact q
  ·exact absurd (fun x hx=>(hu x hx).trans (vv q)) (hl.none a ha)
 have inr:∀{u:Bool} {a:List Nat},a∈Yy r→(∀q∈a,bit q=u)→v2=u:=fun {u a} ha hu=>by
  by_cases q:v2=u
  ·exact q
  ·exact absurd (fun x hx=>(hu x hx).trans (vv q)) (hr.none a ha)
 have forms:∀{o:List Nat},o∈Yy (.node p l r)→(∃a∈Yy l,o=p::a)∨(∃a∈Yy r,o=p::a)∨(∃a∈Yy l,∃b∈Yy r,o=a++b):=fun {o} ho=>by
  simp only[Yy,eW,eg,yy] at ho
  rcases ho with ⟨a,ha|ha,rfl⟩|⟨a,ha,b,hb,rfl⟩
  ·exact .inl ⟨a,ha,rfl⟩
  ·exact .inr (.inl ⟨a,ha,rfl⟩)
  ·exact .inr (.inr ⟨a,ha,b,hb,rfl⟩)
 refine⟨mem,all,fun o ho hv=>?_,fun o ho hv=>?_⟩
 ·rcases forms ho with ⟨a,ha,rfl⟩|⟨a,ha,rfl⟩|⟨a,ha,b,hb,rfl⟩
  ·have e1:=hv p ay
   have e2:=inl ha fun q hq=>hv q (bE _ hq)
   have e3:=hl.least a ha fun q hq=>(hv q (bE _ hq)).trans e2.symm
   have e4:=h1 e1 e2
   rw[Wj]
   exact tX e4 ((jc ..).trans e3)
  ·have e1:=hv p ay
   have e2:=inr ha fun q hq=>hv q (bE _ hq)
   have e3:=hr.least a ha fun q hq=>(hv q (bE _ hq)).trans e2.symm
   have e4:=h2 e1 e2
   rw[Wj]
   exact tX e4 ((jc ..).trans e3)
  ·have e1:=inl ha fun q hq=>hv q (l9 _ hq)
   have e2:=inr hb fun q hq=>hv q (jv _ hq)
   have e3:=hl.least a ha fun q hq=>(hv q (l9 _ hq)).trans e1.symm
   have e5:=hr.least b hb fun q hq=>(hv q (jv _ hq)).trans e2.symm
   have e4:=h3 e1 e2
   rw[d7]
   exact tX (tX e4 ((tW ..).trans e3)) ((jc ..).trans e5)
 ·have nv:∀{x:Bool},x=v→x=!v→False:=fun {x} h1 h2=>by subst h1;cases x<;>simp at h2
  rcases forms ho with ⟨a,ha,rfl⟩|⟨a,ha,rfl⟩|⟨a,ha,b,hb,rfl⟩
  ·have e1:=hv p ay
   have e2:=inl ha fun q hq=>hv q (bE _ hq)
   rcases two with ⟨x,y⟩|⟨x,y⟩|⟨x,y⟩
   ·exact nv x e1
   ·exact nv x e1
   ·exact nv x e2
  ·have e1:=hv p ay
   have e2:=inr ha fun q hq=>hv q (bE _ hq)
   rcases two with ⟨x,y⟩|⟨x,y⟩|⟨x,y⟩
   ·exact nv x e1
   ·exact nv x e1
   ·exact nv y e2
  ·have e1:=inl ha fun q hq=>hv q (l9 _ hq)
   have e2:=inr hb fun q hq=>hv q (jv _ hq)
   rcases two with ⟨x,y⟩|⟨x,y⟩|⟨x,y⟩
   ·exact nv y e1
   ·exact nv y e2
   ·exact nv x e1
end
end
section
section
variable {W:Wd}{κ:Nat→Int}
theorem Zj:∀{t:Tr} {o:List Nat},o∈Yy t→∀p∈o,p∈Z3 t
 | .leaf p,o,h,q,hq=>by simp[Yy] at h;subst h;exact hq
 | .node p l r,o,h,q,hq=>by
  simp only[Yy,eW,eg,yy] at h
  simp only[Z3,dP,eW]
  rcases h with ⟨a,ha|ha,rfl⟩|⟨a,ha,b,hb,rfl⟩
  ·rcases dP.mp hq with rfl|hq
   ·exact .inl rfl
   ·exact .inr (.inl (Zj ha q hq))
  ·rcases dP.mp hq with rfl|hq
   ·exact .inl rfl
   ·exact .inr (.inr (Zj ha q hq))
  ·rcases eW.mp hq with hq|hq
   ·exact .inr (.inl (Zj ha q hq))
   ·exact .inr (.inr (Zj hb q hq))
theorem a0l:∀{t:Tr} {o:List Nat},(Z3 t).Nodup→o∈Yy t→o.Nodup
 | .leaf p,o,_,h=>by simp[Yy] at h;subst h;simp
 | .node p l r,o,hn,h=>by
  have h':=h
  simp only[Yy,eW,eg,yy] at h
  simp only[Z3,ja,eW,not_or,i8] at hn
  obtain ⟨⟨n1,n2⟩,n3,n4,n5⟩:=hn
  rcases h with ⟨a,ha|ha,rfl⟩|⟨a,ha,b,hb,rfl⟩
  ·exact ja.mpr ⟨fun q=>n1 (Zj ha p q),a0l n3 ha⟩
  ·exact ja.mpr ⟨fun q=>n2 (Zj ha p q),a0l n4 ha⟩
  ·exact i8.mpr ⟨a0l n3 ha,a0l n4 hb,fun x hx y hy=>n5 x (Zj ha x hx) y (Zj hb y hy)⟩
theorem n7 (hW:WOk W){a b:List Nat}(hn:(a++b).Nodup)(hl:∀p∈a++b,p<7):[bV W κ a,bV W κ b].foldl aF []=bV W κ (a++b):=by
 have e:=jd (κ:=κ) hW a [] (by rw[sq];exact(i8.mp hn).1) fun p hp=>hl p (l9 _ (by simpa using hp))
 show aF (aF [] (bV W κ a)) (bV W κ b)=_
 rw[show([]:KD)=bV W κ [] from rfl,e,sq]
 exact jd hW b a hn hl
theorem O5 (hW:WOk W){a:List Nat}(hn:a.Nodup)(hl:∀p∈a,p<7):[bV W κ a].foldl aF []=bV W κ a:=by
 have e:=jd (κ:=κ) hW a [] (by rw[sq];exact hn) fun p hp=>hl p (by simpa using hp)
 show aF [] (bV W κ a)=_
 rw[show([]:KD)=bV W κ [] from rfl,e,sq]
theorem oU (hW:WOk W)(h0:W.w0=1∨W.w0=-1∨W.w0=2∨W.w0=-2)(h1:W.w1=1∨W.w1=-1∨W.w1=3∨W.w1=-3){a b:List Nat}(na:a.Nodup)(la:∀p∈a,p<7)(nb:b.Nodup)(lb:∀p∈b,p<7):
  wy W (bV W κ a) (bV W κ b)<0↔keyLt (eG W.w0 W.w1 κ a) (eG W.w0 W.w1 κ b)=true:=by
 unfold wy
 rw[uA hW na la,uA hW nb lb]
 exact Gs h0 h1 _ _ _ _
theorem wG (hW:WOk W)(h0:W.w0=1∨W.w0=-1∨W.w0=2∨W.w0=-2)(h1:W.w1=1∨W.w1=-1∨W.w1=3∨W.w1=-3){a b c:List Nat}(hn:(a++(b++c)).Nodup)(hl:∀p∈a++(b++c),p<7):
  ∃O,(Zn W [bV W κ a,bV W κ b,bV W κ c]).foldl aF []=bV W κ O∧(O=a++b∨O=a++c∨O=b++c)∧
   keyLt (mY (eG W.w0 W.w1 κ a) (eG W.w0 W.w1 κ b)) (eG W.w0 W.w1 κ O)=false∧keyLt (mY (eG W.w0 W.w1 κ a) (eG W.w0 W.w1 κ c)) (eG W.w0 W.w1 κ O)=false∧keyLt (mY (eG W.w0 W.w1 κ b) (eG W.w0 W.w1 κ c)) (eG W.w0 W.w1 κ O)=false:=by
 rw[i8] at hn
 obtain ⟨na,nbc,nab⟩:=hn
 have a3Q:=nbc
 rw[i8] at a3Q
 obtain ⟨nb,nc,nbx⟩:=a3Q
 have la:∀p∈a,p<7:=fun p hp=>hl p (by simp[hp])
 have lb:∀p∈b,p<7:=fun p hp=>hl p (by simp[hp])
 have lc:∀p∈c,p<7:=fun p hp=>hl p (by simp[hp])
 have nAB:(a++b).Nodup:=i8.mpr ⟨na,nb,fun x hx y hy=>nab x hx y (l9 _ hy)⟩
 have nAC:(a++c).Nodup:=i8.mpr ⟨na,nc,fun x hx y hy=>nab x hx y (jv _ hy)⟩
 have lAB:∀p∈a++b,p<7:=fun p hp=>(eW.mp hp).elim (la p) (lb p)
 have lAC:∀p∈a++c,p<7:=fun p hp=>(eW.mp hp).elim (la p) (lc p)
 have lBC:∀p∈b++c,p<7:=fun p hp=>(eW.mp hp).elim (lb p) (lc p)
 have kab:=oU (κ:=κ) hW h0 h1 na la nb lb
 have kac:=oU (κ:=κ) hW h0 h1 na la nc lc
 have kbc:=oU (κ:=κ) hW h0 h1 nb lb nc lc
 have i0:([bV W κ a,bV W κ b,bV W κ c].eraseIdx 0)=[bV W κ b,bV W κ c]:=rfl
 show∃O,([bV W κ a,bV W κ b,bV W κ c].eraseIdx (lastOf W (bV W κ a) (bV W κ b) (bV W κ c))).foldl aF []=_∧_
 unfold lastOf
 by_cases hab:wy W (bV W κ a) (bV W κ b)<0
 ·rw[if_pos hab]
  have q1:=kab.mp hab
  by_cases hbc:wy W (bV W κ b) (bV W κ c)<0
  ·rw[if_pos hbc]
   have q2:=kbc.mp hbc
   refine⟨a++b,n7 hW nAB lAB,.inl rfl,?_⟩
   rw[d7]
   exact⟨jM _,(jc ..).trans (lY q2),(zz ..).trans (tX (lY q1) (lY q2))⟩
  ·rw[if_neg hbc,if_pos hab]
   have q2:=A5.mpr fun q=>hbc (kbc.mpr q)
   refine⟨a++c,n7 hW nAC lAC,.inr (.inl rfl),?_⟩
   rw[d7]
   exact⟨(jc ..).trans q2,jM _,(tW ..).trans (lY q1)⟩
 ·rw[if_neg hab]
  have q1:=A5.mpr fun q=>hab (kab.mpr q)
  by_cases hac:wy W (bV W κ a) (bV W κ c)<0
  ·rw[if_pos hac]
   have q2:=kac.mp hac
   refine⟨a++b,n7 hW nAB lAB,.inl rfl,?_⟩
   rw[d7]
   exact⟨jM _,(jc ..).trans (tX q1 (lY q2)),(zz ..).trans (lY q2)⟩
  ·rw[if_neg hac,if_neg hab]
   have q2:=A5.mpr fun q=>hac (kac.mpr q)
   refine⟨b++c,n7 hW nbc lBC,.inr (.inr rfl),?_⟩
   rw[d7]
   exact⟨(Hc ..).trans q2,(tW ..).trans q1,jM _⟩
end
end
section
section
variable {W:Wd}{κ:Nat→Int}
theorem maj (hW:WOk W)(h0:W.w0=1∨W.w0=-1∨W.w0=2∨W.w0=-2)(h1:W.w1=1∨W.w1=-1∨W.w1=3∨W.w1=-3):∀(t:Tr) (c:Str),(Z3 t).Nodup→(∀p∈Z3 t,p<7)→lq W κ t c→
  ∃O,(ask W t c).told=bV W κ O∧Opt (eQ W) (eG W.w0 W.w1 κ) t (ask W t c).ok O:=by
 intro t
 induction t with
 |leaf p=>
  intro c hn hl hc
  have hp:p<7:=hl p (by simp[Z3])
  have eo:ownOf W p c=bV W κ [p]:=by
   have hc:((bf W p c).length:Int)=κ p:=hc
   unfold ownOf bV;rw[hc];rfl
  have f1:=O5 (κ:=κ) hW (a:=[p]) (by trivial) (by simpa using hp)
  have e:(ask W (.leaf p) c).told=bV W κ [p]∧(ask W (.leaf p) c).ok=eQ W p:=by
   show(combine W (eQ W p) (ownOf W p c) []).told=_∧(combine W (eQ W p) (ownOf W p c) []).ok=_
   rw[eo]
   cases eQ W p with
   |true=>exact⟨f1,rfl⟩
   |false=>exact⟨f1,rfl⟩
  refine⟨[p],e.1,⟨⟨[p],by simp[Yy],List.Perm.refl _⟩,fun q hq=>by cases bS.mp hq;exact e.2.symm,fun o ho Z=>?_,fun o ho h=>?_⟩⟩
  ·have:o=[p]:=by simpa [Yy] using ho
   subst this
   exact jM _
  ·have:o=[p]:=by simpa [Yy] using ho
   subst this
   have:=h p ay
   rw[e.2] at this
   cases hb:eQ W p<;>rw[hb] at this<;>simp at this
 |node p l r ihl ihr=>
  intro c hn hl hc
  obtain ⟨hc0,hcl,hcr⟩:=hc
  have hn':=hn
  simp only[Z3,ja,eW,not_or,i8] at hn'
  obtain ⟨⟨np1,np2⟩,nl,nr,nlr⟩:=hn'
  have hp:p<7:=hl p (by simp[Z3])
  have ll:∀q∈Z3 l,q<7:=fun q hq=>hl q (by simp[Z3,hq])
  have lr:∀q∈Z3 r,q<7:=fun q hq=>hl q (by simp[Z3,hq])
  obtain ⟨B,eB,oB⟩:=ihl (qS (bf W p c)) nl ll hcl
  obtain ⟨C,eC,oC⟩:=ihr (qS (bf W p c)) nr lr hcr
  have eo:ownOf W p c=bV W κ [p]:=by
   unfold ownOf bV;rw[hc0];rfl
  obtain ⟨B0,hB0,pB⟩:=oB.mem
  obtain ⟨C0,hC0,pC⟩:=oC.mem
  have sB:∀q∈B,q∈Z3 l:=fun q hq=>Zj hB0 q (pB.symm.subset hq)
  have sC:∀q∈C,q∈Z3 r:=fun q hq=>Zj hC0 q (pC.symm.subset hq)
  have nB:B.Nodup:=(pB.nodup_iff).mp (a0l nl hB0)
  have nC:C.Nodup:=(pC.nodup_iff).mp (a0l nr hC0)
  have nBC:(B++C).Nodup:=i8.mpr ⟨nB,nC,fun x hx y hy=>nlr x (sB x hx) y (sC y hy)⟩
  have nAB:([p]++B).Nodup:=ja.mpr ⟨fun q=>np1 (sB p q),nB⟩
  have nAC:([p]++C).Nodup:=ja.mpr ⟨fun q=>np2 (sC p q),nC⟩
  have a5e:([p]++(B++C)).Nodup:=ja.mpr ⟨fun q=>(eW.mp (show p∈B++C from q)).elim (fun q=>np1 (sB p q)) fun q=>np2 (sC p q),nBC⟩
  have lB:∀q∈B,q<7:=fun q hq=>ll q (sB q hq)
  have lC:∀q∈C,q<7:=fun q hq=>lr q (sC q hq)
  have lBC:∀q∈B++C,q<7:=fun q hq=>(eW.mp hq).elim (lB q) (lC q)
  have lAB:∀q∈[p]++B,q<7:=fun q hq=>(eW.mp hq).elim (fun h=>by cases bS.mp h;exact hp) (lB q)
  have lAC:∀q∈[p]++C,q<7:=fun q hq=>(eW.mp hq).elim (fun h=>by cases bS.mp h;exact hp) (lC q)
  have a5b:∀q∈[p]++(B++C),q<7:=fun q hq=>(eW.mp hq).elim (fun h=>by cases bS.mp h;exact hp) (lBC q)
  have mAB:∃o∈Yy (.node p l r),o.Perm ([p]++B):=⟨p::B0,by simp only[Yy,eW,eg];exact .inl ⟨B0,.inl hB0,rfl⟩,PC p pB⟩
  have mAC:∃o∈Yy (.node p l r),o.Perm ([p]++C):=⟨p::C0,by simp only[Yy,eW,eg];exact .inl ⟨C0,.inr hC0,rfl⟩,PC p pC⟩
  have mBC:∃o∈Yy (.node p l r),o.Perm (B++C):=⟨B0++C0,by simp only[Yy,eW,yy,eg];exact .inr ⟨B0,hB0,C0,hC0,rfl⟩,List.Perm.append pB pC⟩
  have self:∀{a b:List Nat},keyLt (mY (eG W.w0 W.w1 κ a) (eG W.w0 W.w1 κ b)) (eG W.w0 W.w1 κ (a++b))=false:=by
   intro a b;rw[d7];exact jM _
  have eA:(ask W (.node p l r) c)=combine W (eQ W p) (bV W κ [p]) [⟨(ask W l (qS (bf W p c))).ok,bV W κ B⟩,⟨(ask W r (qS (bf W p c))).ok,bV W κ C⟩]:=by
   show combine W (eQ W p) (ownOf W p c) [ask W l (qS (bf W p c)),ask W r (qS (bf W p c))]=_
   rw[eo]
   have h1:ask W l (qS (bf W p c))=⟨(ask W l (qS (bf W p c))).ok,bV W κ B⟩:=by rw[←eB]
   have h2:ask W r (qS (bf W p c))=⟨(ask W r (qS (bf W p c))).ok,bV W κ C⟩:=by rw[←eC]
   rw[←h1,←h2]
  rw[eA]
  have aB:=oB.all
  have aC:=oC.all
  generalize (ask W l (qS (bf W p c))).ok=v1 at oB aB ⊢
  generalize (ask W r (qS (bf W p c))).ok=v2 at oC aC ⊢
  have three:∀v:Bool,eQ W p=v→v1=v→v2=v→∃O,(Zn W [bV W κ [p],bV W κ B,bV W κ C]).foldl aF []=bV W κ O∧Opt (eQ W) (eG W.w0 W.w1 κ) (.node p l r) v O:=by
   intro v e0 e1 e2
   obtain ⟨O,q1,q2,q3,q4,q5⟩:=wG (κ:=κ) hW h0 h1 a5e a5b
   have mO:∃o∈Yy (.node p l r),o.Perm O:=by rcases q2 with rfl|rfl|rfl<;>assumption
   have aO:∀q∈O,eQ W q=v:=by
    have hb:∀q∈B,eQ W q=v:=fun q hq=>(aB q hq).trans e1
    have hc:∀q∈C,eQ W q=v:=fun q hq=>(aC q hq).trans e2
    have ha:∀q∈[p],eQ W q=v:=fun q hq=>by cases bS.mp hq;exact e0
    rcases q2 with rfl|rfl|rfl<;>intro q hq<;>rcases eW.mp hq with h|h<;>first|exact ha q h|exact hb q h|exact hc q h
   exact⟨O,q1,kO oB oC mO aO (.inl ⟨e0,e1⟩) (fun Z Z=>q3) (fun Z Z=>q4) (fun Z Z=>q5)⟩
  have a1f:∀v:Bool,eQ W p=v→v1=v→v2=!v→Opt (eQ W) (eG W.w0 W.w1 κ) (.node p l r) v ([p]++B):=by
   intro v e0 e1 e2
   refine kO oB oC mAB (fun q hq=>?_) (.inl ⟨e0,e1⟩) (fun Z Z=>self) (fun Z h=>?_) (fun Z h=>?_)
   ·rcases eW.mp hq with h|h
    ·cases bS.mp h;exact e0
    ·exact(aB q h).trans e1
   ·rw[e2] at h;cases v<;>simp at h
   ·rw[e2] at h;cases v<;>simp at h
  have a1g:∀v:Bool,eQ W p=v→v2=v→v1=!v→Opt (eQ W) (eG W.w0 W.w1 κ) (.node p l r) v ([p]++C):=by
   intro v e0 e2 e1
   refine kO oB oC mAC (fun q hq=>?_) (.inr (.inl ⟨e0,e2⟩)) (fun Z h=>?_) (fun Z Z=>self) (fun h Z=>?_)
   ·rcases eW.mp hq with h|h
    ·cases bS.mp h;exact e0
    ·exact(aC q h).trans e2
   ·rw[e1] at h;cases v<;>simp at h
   ·rw[e1] at h;cases v<;>simp at h
  have a1h:∀v:Bool,v1=v→v2=v→eQ W p=!v→Opt (eQ W) (eG W.w0 W.w1 κ) (.node p l r) v (B++C):=by
   intro v e1 e2 e0
   refine kO oB oC mBC (fun q hq=>?_) (.inr (.inr ⟨e1,e2⟩)) (fun h Z=>?_) (fun h Z=>?_) (fun Z Z=>self)
   ·rcases eW.mp hq with h|h
    ·exact(aB q h).trans e1
    ·exact(aC q h).trans e2
   ·rw[e0] at h;cases v<;>simp at h
   ·rw[e0] at h;cases v<;>simp at h
  cases h:eQ W p<;>rw[h] at three a1f a1g a1h<;>cases v1<;>cases v2
  ·obtain ⟨O,a,b⟩:=three false rfl rfl rfl;exact⟨O,a,b⟩
  ·exact⟨_,n7 hW nAB lAB,a1f false rfl rfl rfl⟩
  ·exact⟨_,n7 hW nAC lAC,a1g false rfl rfl rfl⟩
  ·exact⟨_,n7 hW nBC lBC,a1h true rfl rfl rfl⟩
  ·exact⟨_,n7 hW nBC lBC,a1h false rfl rfl rfl⟩
  ·exact⟨_,n7 hW nAC lAC,a1g true rfl rfl rfl⟩
  ·exact⟨_,n7 hW nAB lAB,a1f true rfl rfl rfl⟩
  ·obtain ⟨O,a,b⟩:=three true rfl rfl rfl;exact⟨O,a,b⟩
end
end
section
theorem jn (key:Nat→Int×Int):∀j i,i≤j→keyLt (key i) (key (cM key j))=false
 | 0,i,h=>by
  cases Nat.le_zero.mp h
  exact jM _
 |j+1,i,h=>by
  unfold cM
  by_cases c:keyLt (key (j+1)) (key (cM key j))=true
  ·rw[if_pos c]
   by_cases e:i=j+1
   ·subst e;exact jM _
   ·exact tX (lY c) (jn key j i (by exact Ks h e))
  ·rw[if_neg c]
   by_cases e:i=j+1
   ·subst e;simpa using c
   ·exact jn key j i (by exact Ks h e)
noncomputable def LP.kap (P:LP)(p:Nat):Int:=(P.letter p).length
theorem N8 (P:LP)(o:List Nat):P.cost o=jW P.kap o:=rfl
theorem O7 (P:LP)(o:List Nat):P.key o=eG P.w0 P.w1 P.kap o:=rfl
theorem Im (P:LP)(st:Int)(o:List Nat):P.FZ o=bV (P.W st) P.kap o:=rfl
theorem wg {W:Wd}{κ:Nat→Int}(hW:WOk W){a b:List Nat}(h:a.Perm b)(hn:b.Nodup)(hl:∀p∈b,p<7):gj (bV W κ a) (bV W κ b):=by
 have hkeys:((bV W κ b).map (fun x=>x.1)).Nodup:=by
  rw[fJ]
  unfold Me
  rw[C9]
  have hn':b.Pairwise (·≠·):=hn
  exact hn'.imp_of_mem fun {x y} hx hy hne q=>hne (dN hW (hl x hx) (hl y hy) q)
 refine⟨by unfold bV;rw[bP,bP,h.length_eq],fun p hp=>?_,fun p hp=>?_⟩
 ·obtain ⟨q,hq,rfl⟩:=eg.mp hp
  exact jH hkeys (p:=(nameAt W q,.int (κ q))) (eg.mpr ⟨q,h.subset hq,rfl⟩)
 ·obtain ⟨q,hq,rfl⟩:=eg.mp hp
  exact⟨trivial,by simp[D.py,uS]⟩
end
section
theorem Gd (x:Int):kL x 1=x % 2:=by
 unfold kL
 by_cases h:0≤x
 ·rw[decide_eq_true h]
  show((x.toNat &&& (1:Int).toNat:Nat):Int)=_
  rw[show(1:Int).toNat=1 from rfl,LZ]
  exact XF h
 ·rw[decide_eq_false h]
  show(1:Int) - (((1:Int).toNat &&& (gT x).toNat:Nat):Int)=_
  rw[show(1:Int).toNat=1 from rfl,Nat.and_comm,LZ]
  unfold gT
  exact Xw h
theorem GX (x:Int):x.fmod 2=x % 2:=Int.fmod_eq_emod_of_nonneg x (by decide)
theorem kj (x:Int)(p:Nat):x.fdiv (2 ^ p)=x / 2 ^ p:=Int.fdiv_eq_ediv_of_nonneg x (tS (SR (show(0:Int)<2 by decide)))
theorem Hi (c:Int)(p:Nat):(gT c) / 2 ^ p=-(c / 2 ^ p) - 1:=by
 have hm:(0:Int)<2 ^ p:=SR (by decide)
 generalize (2:Int) ^ p=m at hm
 unfold gT
 have h1:=Int.mul_ediv_add_emod c m
 have h2:=Int.emod_nonneg c (show m≠0 by exact Vw hm)
 have h3:=Int.emod_lt_of_pos c hm
 have e:-c - 1=(m - 1 - c % m)+m*(-(c / m) - 1):=by
  rw[Int.mul_sub,Int.mul_neg,SH];exact Qu h1
 rw[e,Int.add_mul_ediv_left _ _ (by exact RG hm e:m≠0),Int.ediv_eq_zero_of_lt (by exact QQ h3 e) (by exact V4 h2)]
 exact Sv
noncomputable def LP.a09 (P:LP)(i:Nat):Int:=[P.c3,gT P.c3,P.c4].getD i 0
theorem uU (P:LP){i p:Nat}(hi:i<3)(hp:p<7):(eQ (P.W (P.a09 i)) p=true↔P.beta i p=1)∧(eQ (P.W (P.a09 i)) p=false↔P.beta i p=0):=by
 have hbv:∀c t:Int,∀q,q<7→(iK c t).getD q 0=yd c t q:=by
  intro c t q hq
  have:q=0∨q=1∨q=2∨q=3∨q=4∨q=5∨q=6:=by exact om0 hq
  rcases this with rfl|rfl|rfl|rfl|rfl|rfl|rfl<;>rfl
 have key:∀st:Int,eQ (P.W st) p=decide ((st / 2 ^ p) % 2=1):=by
  intro st
  show decide (kL (st.fdiv (2 ^ p)) 1=1)=_
  rw[kj,Gd]
 have:i=0∨i=1∨i=2:=by exact om6 hi
 rcases this with rfl|rfl|rfl
 ·have eb:P.beta 0 p=(P.c3 / 2 ^ p) % 2:=by
   show(iK P.c3 0).getD p 0=_
   rw[hbv _ _ _ hp];unfold yd;rw[kj,GX,MS]
  rw[key,eb]
  show(decide ((P.c3 / 2 ^ p) % 2=1)=true↔_)∧(decide ((P.c3 / 2 ^ p) % 2=1)=false↔_)
  rw[decide_eq_true_iff,decide_eq_false_iff_not]
  exact Wr
 ·have eb:P.beta 1 p=(P.c3 / 2 ^ p+1) % 2:=by
   show(iK P.c3 1).getD p 0=_
   rw[hbv _ _ _ hp];unfold yd;rw[kj,GX]
  rw[key,eb]
  show(decide ((gT P.c3 / 2 ^ p) % 2=1)=true↔_)∧(decide ((gT P.c3 / 2 ^ p) % 2=1)=false↔_)
  rw[Hi,decide_eq_true_iff,decide_eq_false_iff_not]
  exact Xv
 ·have eb:P.beta 2 p=(P.c4 / 2 ^ p) % 2:=by
   show(iK P.c4 0).getD p 0=_
   rw[hbv _ _ _ hp];unfold yd;rw[kj,GX,MS]
  rw[key,eb]
  show(decide ((P.c4 / 2 ^ p) % 2=1)=true↔_)∧(decide ((P.c4 / 2 ^ p) % 2=1)=false↔_)
  rw[decide_eq_true_iff,decide_eq_false_iff_not]
  exact Wr
end
section
section
variable {P:LP}{t:Tr}
theorem km (F:eN P t){i:Nat}(hi:i<3)(v:Bool){o:List Nat}(ho:o∈Yy t):P.fits i (if v then 0 else 1) o=true↔∀p∈o,eQ (P.W (P.a09 i)) p=v:=by
 have h7:=(F.sets o ho).2.1
 unfold LP.fits
 rw[decide_eq_true_iff,BU]
 constructor
 ·intro h p hp
  obtain ⟨b1,b2⟩:=uU P hi (h7 p hp)
  have:=h p hp
  cases v with
  |true=>
   cases hb:eQ (P.W (P.a09 i)) p with
   |true=>rfl
   |false=>exact absurd (decide_eq_true (b2.mp hb)) this
  |false=>
   cases hb:eQ (P.W (P.a09 i)) p with
   |false=>rfl
   |true=>exact absurd (decide_eq_true (b1.mp hb)) this
 ·intro h p hp q
  obtain ⟨b1,b2⟩:=uU P hi (h7 p hp)
  have hb:=h p hp
  cases v with
  |true=>have e:=b1.mp hb;have q:=of_decide_eq_true q;rw[e] at q;exact absurd q (by decide)
  |false=>have e:=b2.mp hb;have q:=of_decide_eq_true q;rw[e] at q;exact absurd q (by decide)
theorem Gp (F:eN P t){i:Nat}(hi:i<3){v:Bool}(hno:∀o∈Yy t,¬∀p∈o,eQ (P.W (P.a09 i)) p=!v):P.cu t i=(Yy t).filter (P.fits i (if v then 0 else 1))∧(P.sel t i 0≠[]↔(v=true∧P.cu t i≠[])):=by
 unfold LP.cu LP.sel
 cases v with
 |true=>
  have e:(Yy t).filter (P.fits i 1)=[]:=by
   rw[BU]
   intro o ho h
   exact hno o ho ((km F hi false ho).mp h)
  rw[e,nK]
  exact⟨rfl,by simp⟩
 |false=>
  have e:(Yy t).filter (P.fits i 0)=[]:=by
   rw[BU]
   intro o ho h
   exact hno o ho ((km F hi true ho).mp h)
  rw[e,sq]
  exact⟨rfl,by simp⟩
structure Met (P:LP)(t:Tr)(i:Nat)(ok:Bool)(told:KD):Prop where
 ne:P.cu t i≠[]
 inj:∀a b,a<(P.cu t i).length→b<(P.cu t i).length→a≠b→P.key ((P.cu t i).getD a [])≠P.key ((P.cu t i).getD b [])
 sel:P.sel t i 0≠[]↔ok=true
 told:∃O,told=bV (P.W (P.a09 i)) P.kap O∧O.Perm (P.best t i)
 best:P.best t i∈Yy t
 bit:∀p∈P.best t i,eQ (P.W (P.a09 i)) p=ok
theorem met (F:eN P t){i:Nat}(hi:i<3){ok:Bool}{O:List Nat}{told:KD}(eO:told=bV (P.W (P.a09 i)) P.kap O)(opt:Opt (eQ (P.W (P.a09 i))) (eG P.w0 P.w1 P.kap) t ok O):Met P t i ok told:=by
 obtain ⟨ec,es⟩:=Gp F hi opt.none
 obtain ⟨o0,ho0,p0⟩:=opt.mem
 have a1M:∀o,o∈P.cu t i↔o∈Yy t∧∀p∈o,eQ (P.W (P.a09 i)) p=ok:=fun o=>by
  rw[ec,sD]
  exact⟨fun h=>⟨h.1,(km F hi ok h.1).mp h.2⟩,fun h=>⟨h.1,(km F hi ok h.1).mpr h.2⟩⟩
 have c0:o0∈P.cu t i:=(a1M o0).mpr ⟨ho0,fun p hp=>opt.all p (p0.subset hp)⟩
 have ne:P.cu t i≠[]:=List.ne_nil_of_mem c0
 have nums:((P.cu t i).map LP.num).Nodup:=by
  rw[ec];exact F.nums.sublist (AQ.map _)
 have inj:∀a b,a<(P.cu t i).length→b<(P.cu t i).length→P.key ((P.cu t i).getD a [])=P.key ((P.cu t i).getD b [])→a=b:=by
  intro a b ha hb h
  have h2:P.w1*LP.num ((P.cu t i).getD a [])=P.w1*LP.num ((P.cu t i).getD b []):=congrArg Prod.snd h
  have h3:=Int.eq_of_mul_eq_mul_left P.a2X h2
  rw[bq,bq,c8 ha,c8 hb] at h3
  have h3:LP.num (P.cu t i)[a]=LP.num (P.cu t i)[b]:=h3
  have key:∀x y (hx:x<(P.cu t i).length) (hy:y<(P.cu t i).length),x<y→LP.num (P.cu t i)[x]≠LP.num (P.cu t i)[y]:=fun x y hx hy hxy=>by
   have:=mP.mp nums x y (by simpa using hx) (by simpa using hy) hxy
   simpa using this
  rcases ET a b with q|q|q
  ·exact absurd h3 (key a b ha hb q)
  ·exact q
  ·exact absurd h3.symm (key b a hb ha q)
 have hpos:0<(P.cu t i).length:=DB.mpr ne
 have hb:cM (fun j=>P.key ((P.cu t i).getD j [])) ((P.cu t i).length - 1)<(P.cu t i).length:=cK (dF _ _) (by exact Kr hpos)
 have hbest:P.best t i∈P.cu t i:=by
  unfold LP.best
  rw[bq,c8 hb]
  exact kM hb
 obtain ⟨j0,hj0,e0⟩:=List.getElem_of_mem c0
 have g0:(P.cu t i).getD j0 []=o0:=by rw[bq,c8 hj0,←e0];rfl
 have l1:=jn (fun j=>P.key ((P.cu t i).getD j [])) ((P.cu t i).length - 1) j0 (by exact QH hpos hj0)
 have l1:keyLt (P.key ((P.cu t i).getD j0 [])) (P.key (P.best t i))=false:=l1
 have bb:=(a1M _).mp hbest
 have l2:=opt.least _ bb.1 bb.2
 have ek:P.key o0=eG P.w0 P.w1 P.kap O:=Dp P.w0 P.w1 p0
 rw[←ek] at l2
 rw[g0] at l1
 have l2:keyLt (P.key (P.best t i)) (P.key o0)=false:=l2
 have eq:P.key o0=P.key (P.best t i):=O8 l1 l2
 have same:j0=cM (fun j=>P.key ((P.cu t i).getD j [])) ((P.cu t i).length - 1):=inj _ _ hj0 hb (by rw[g0];exact eq)
 have eo:o0=P.best t i:=by rw[←g0,same];rfl
 refine⟨ne,fun a b ha hb hab h=>hab (inj a b ha hb h),es.trans ⟨fun h=>h.1,fun h=>⟨h,ne⟩⟩,⟨O,eO,eo▸p0.symm⟩,bb.1,bb.2⟩
end
end
section
section
variable {P:LP}{t:Tr}
structure Grd (P:LP)(t:Tr):Prop where
 tree:eN P t
 nd:(Z3 t).Nodup
 lt:∀p∈Z3 t,p<7
 cost:∀st,lq (P.W st) P.kap t P.came
 ll:∀k,k<7→(P.letter k).length≤1000
noncomputable def iJ (P:LP)(t:Tr)(i:Nat):sE:=ask (P.W (P.a09 i)) t P.came
theorem mK (P:LP)(t:Tr){i:Nat}(hi:i<3):(jV P t).run i=(if(iJ P t i).ok then 1 else 0,(iJ P t i).told):=by
 have:i=0∨i=1∨i=2:=by exact om6 hi
 rcases this with rfl|rfl|rfl<;>rfl
theorem jN (G:Grd P t){i:Nat}(hi:i<3):Met P t i (iJ P t i).ok (iJ P t i).told:=by
 obtain ⟨O,eO,opt⟩:=maj (W:=P.W (P.a09 i)) (κ:=P.kap) (oF G.tree _) P.Ir P.Iu t P.came G.nd G.lt (G.cost _)
 exact met G.tree hi eO opt
theorem GD (G:Grd P t):jF P (jV P t) t where
 ne:=fun i hi=>(jN G hi).ne
 inj:=fun i hi=>(jN G hi).inj
 bit:=fun i hi=>by
  rw[mK P t hi]
  have s:=(jN G hi).sel
  by_cases h:(iJ P t i).ok=true
  ·rw[if_pos (s.mpr h)];simp[h]
  ·rw[if_neg fun q=>h (s.mp q)];simp[h]
 tab:=fun i hi=>by
  rw[mK P t hi]
  obtain ⟨O,e,p⟩:=(jN G hi).told
  have hb:=G.tree.sets _ (jN G hi).best
  show gj (iJ P t i).told _
  rw[e,Im P (P.a09 i)]
  exact wg (oF G.tree _) p hb.1 hb.2.1
 lt:=fun o ho=>(G.tree.sets o ho).2.1
 nd:=fun o ho=>(G.tree.sets o ho).1
 size:=ee G.tree.size
 nm:=G.tree.nm
 nmd:=G.tree.nd
 ll:=G.ll
theorem gf (G:Grd P t){i:Nat}(hi:i<3):∃O,(iJ P t i).told=bV (P.W (P.a09 i)) P.kap O∧O.Perm (P.best t i)∧O.Nodup∧(∀p∈O,p<7)∧O.length≤7:=by
 obtain ⟨O,e,p⟩:=(jN G hi).told
 have hb:=G.tree.sets _ (jN G hi).best
 refine⟨O,e,p,p.symm.nodup_iff.mp hb.1,fun q hq=>hb.2.1 q (p.subset hq),?_⟩
 rw[p.length_eq]
 exact ai (fX t _ (jN G hi).best) (ee G.tree.size)
theorem zL (G:Grd P t)(st:Int){q:Nat}(hq:q<7):nameAt (P.W st) q∈P.nm:=by
 have:=G.tree.nm
 show P.nm.getD q Str.empty∈P.nm
 rw[bq,c8 (by exact om7 hq this)]
 exact kM _
theorem I3 (G:Grd P t):xT P (jV P t) t where
 row:=fun i hi=>by
  rw[mK P t hi]
  obtain ⟨O,e,p,n,l,_⟩:=gf G hi
  show rowOf (P.W 0) (iJ P t i).told=_
  rw[e]
  have:=uA (W:=P.W 0) (κ:=P.kap) (oF G.tree 0) n l
  show rowOf (P.W 0) (bV (P.W 0) P.kap O)=_
  rw[this,fU p,qw p];rfl
 at_:=fun i hi x hx=>by
  rw[mK P t hi] at hx
  obtain ⟨O,e,p,n,l,_⟩:=gf G hi
  rw[show((if(iJ P t i).ok then(1:Int) else 0,(iJ P t i).told):Int×KD).2=(iJ P t i).told from rfl,e] at hx
  obtain ⟨q,hq,rfl⟩:=eg.mp hx
  exact zL G _ (l q hq)
 ii:=fun i hi x hx=>by
  rw[mK P t hi] at hx
  obtain ⟨O,e,p,n,l,_⟩:=gf G hi
  rw[show((if(iJ P t i).ok then(1:Int) else 0,(iJ P t i).told):Int×KD).2=(iJ P t i).told from rfl,e] at hx
  obtain ⟨q,hq,rfl⟩:=eg.mp hx
  exact⟨_,rfl⟩
 nm:=G.tree.nm
theorem uG (P:LP)(t:Tr){m:KD}(h:m∈(jV P t).tabs):∃i,i<3∧m=(iJ P t i).told:=by
 simp only[Zb.tabs,dP,eu,or_false] at h
 rcases h with rfl|rfl|rfl
 ·exact⟨0,by exact a0U,rfl⟩
 ·exact⟨1,by exact a1T,rfl⟩
 ·exact⟨2,by exact a2H,rfl⟩
theorem jC {W:Wd}{κ:Nat→Int}(hW:WOk W){b:List Nat}(hn:b.Nodup)(hl:∀p∈b,p<7):((bV W κ b).map (fun x=>x.1)).Nodup:=by
 rw[fJ]
 unfold Me
 rw[C9]
 have hn':b.Pairwise (·≠·):=hn
 exact hn'.imp_of_mem fun {x y} hx hy hne q=>hne (dN hW (hl x hx) (hl y hy) q)
theorem Ey (G:Grd P t):J8 (jV P t) where
 nd:=fun m hm=>by
  obtain ⟨i,hi,rfl⟩:=uG P t hm
  obtain ⟨O,e,p,n,l,_⟩:=gf G hi
  rw[e]
  exact jC (oF G.tree _) n l
 ii:=fun m hm x hx=>by
  obtain ⟨i,hi,rfl⟩:=uG P t hm
  obtain ⟨O,e,p,n,l,_⟩:=gf G hi
  rw[e] at hx
  obtain ⟨q,hq,rfl⟩:=eg.mp hx
  exact⟨_,rfl⟩
 len:=fun m hm=>by
  obtain ⟨i,hi,rfl⟩:=uG P t hm
  obtain ⟨O,e,p,n,l,h7⟩:=gf G hi
  rw[e];unfold bV;rw[bP];exact Vh h7
end
end
section
theorem gU {m:KD}{k:Str}:Zg m k=none↔k∉m.map (fun x=>x.1):=by
 have:=jm m k
 cases h:Zg m k with
 |none=>
  rw[h] at this
  have h2:(m.map (fun x=>x.1)).contains k=false:=by simpa using this.symm
  exact⟨fun Z q=>(by rw[Co.mpr q] at h2;cases h2),fun Z=>rfl⟩
 |some d=>
  rw[h] at this
  have h2:(m.map (fun x=>x.1)).contains k=true:=by simpa using this.symm
  exact⟨fun q=>(by cases q),fun q=>absurd (Co.mp h2) q⟩
theorem Gg (m:KD)(k k':Str)(d:D):Zg (putD m k d) k'=if k=k' then some d else Zg m k':=by
 unfold putD
 split
 ·rename_i h
  unfold Zg
  induction m with
  |nil=>simp at h
  |cons p m ih=>
   rw[dc,k6,k6]
   by_cases e:p.1=k
   ·subst e
    simp only[if_true]
    by_cases q:p.1=k'
    ·simp[q]
    ·simp only[q,decide_false,if_false]
     by_cases hm:m.any (fun x=>decide (x.1=p.1))=true
     ·have:=ih hm;rw[if_neg q] at this;exact this
     ·have:m.map (fun x=>if x.1=p.1 then(x.1,d) else x)=m:=by
       conv=>rhs;rw[←KP m]
       refine mT fun x hx=>?_
       have:¬x.1=p.1:=fun q=>hm (GI.mpr ⟨x,hx,by simpa using q⟩)
       rw[if_neg this];rfl
      rw[this]
   ·simp only[e,if_false]
    have hm:m.any (fun x=>decide (x.1=k))=true:=by
     rw[List.any_cons] at h
     simpa [e] using h
    by_cases q:p.1=k'
    ·have:¬k=k':=fun x=>e (q.trans x.symm)
     simp[q,this]
    ·simp only[q,decide_false]
     exact ih hm
 ·rename_i h
  unfold Zg
  rw[List.find?_append]
  by_cases q:k=k'
  ·subst q
   have:m.find? (fun p=>decide (p.1=k))=none:=by
    rw[List.find?_eq_none]
    intro x hx hxk
    exact h (GI.mpr ⟨x,hx,hxk⟩)
   simp[this]
  ·simp[q]
noncomputable def a1Q:Option D→Option D→Option D
 |some o,some d=>some (a0E d o)
 |some o,none=>some o
 |none,x=>x
theorem lF (k:Str):∀(r m:KD),(r.map (fun x=>x.1)).Nodup→Zg (aF m r) k=a1Q (Zg m k) (Zg r k)
 | [],m,_=>by
  show Zg m k=a1Q (Zg m k) none
  cases Zg m k<;>rfl
 |(k',d)::r,m,hn=>by
  rw[dc,ja] at hn
  show Zg (aF (dX m k' d) r) k=_
  rw[lF k r (dX m k' d) hn.2]
  unfold dX
  rw[Gg]
  by_cases h:k'=k
  ·subst h
   have hr:Zg r k'=none:=gU.mpr hn.1
   have hh:Zg ((k',d)::r) k'=some d:=by unfold Zg;rw[k6];simp
   rw[if_pos rfl,hr,hh]
   cases Zg m k'<;>rfl
  ·have hh:Zg ((k',d)::r) k=Zg r k:=by unfold Zg;rw[k6,show decide ((k',d).1=k)=false from decide_eq_false h]
   rw[if_neg h,hh]
theorem xX {W:Wd}{κ:Nat→Int}(hW:WOk W){o:List Nat}(hn:o.Nodup)(hl:∀p∈o,p<7){p:Nat}(hp:p<7):Zg (bV W κ o) (nameAt W p)=if p∈o then some (.int (κ p)) else none:=by
 by_cases h:p∈o
 ·rw[if_pos h]
  exact jH (jC hW hn hl) (p:=(nameAt W p,.int (κ p))) (eg.mpr ⟨p,h,rfl⟩)
 ·rw[if_neg h,gU,fJ]
  intro q
  obtain ⟨x,hx,e⟩:=eg.mp q
  exact h (dN hW (hl x hx) hp e▸hx)
theorem Gf (m:KD)(k:Str):Zg (rm m) k=(Zg m k).map fun d=>D.tup [d,.int 1]:=by
 induction m with
 |nil=>rfl
 |cons p m ih=>
  unfold Zg rm at ih ⊢
  rw[dc,k6,k6]
  by_cases h:p.1=k
  ·simp[h]
  ·simp only[h,decide_false]
   exact ih
end
section
structure Spec (W:Wd)(m:KD)(f:Nat→Option D):Prop where
 nd:(m.map (fun x=>x.1)).Nodup
 at_:∀k∈m.map (fun x=>x.1),∃p,p<7∧k=nameAt W p
 val:∀p,p<7→Zg m (nameAt W p)=f p
section
variable {W:Wd}{κ:Nat→Int}
theorem jJ {m:KD}{k:Str}{d:D}(h:Zg m k=some d):k∈m.map (fun x=>x.1):=i6 (f:=zI) (oM h)
theorem Spec.keys {m:KD}{f:Nat→Option D}(s:Spec W m f){k:Str}:k∈m.map (fun x=>x.1)↔∃p,p<7∧k=nameAt W p∧f p≠none:=by
 constructor
 ·intro h
  obtain ⟨p,hp,rfl⟩:=s.at_ k h
  exact⟨p,hp,rfl,fun q=>by rw[←s.val p hp,gU] at q;exact q h⟩
 ·rintro ⟨p,hp,rfl,hf⟩
  rw[←s.val p hp] at hf
  cases q:Zg m (nameAt W p) with
  |none=>exact absurd q hf
  |some d=>exact jJ q
theorem Spec.alike {m1 m2:KD}{f:Nat→Option D}(s1:Spec W m1 f)(s2:Spec W m2 f)(hc:∀p d,p<7→f p=some d→a0j d∧d.py.depth≤64):gj m1 m2:=by
 refine⟨?_,fun p hp=>?_,fun p hp=>?_⟩
 ·have:=(List.perm_ext_iff_of_nodup s1.nd s2.nd).mpr fun k=>s1.keys.trans s2.keys.symm
  simpa using this.length_eq
 ·obtain ⟨q,hq,e⟩:=s1.at_ p.1 (i6 (f:=zI) hp)
  have h1:=jH s1.nd hp
  rw[e] at h1 ⊢
  rw[s2.val q hq,←s1.val q hq];exact h1
 ·obtain ⟨q,hq,e⟩:=s1.at_ p.1 (i6 (f:=zI) hp)
  have h1:=jH s1.nd hp
  rw[e,s1.val q hq] at h1
  exact hc q _ hq h1
theorem a2h:Spec W [] (fun Z=>none):=⟨by decide,by simp,fun Z Z=>rfl⟩
theorem ik (hW:WOk W){o:List Nat}(hn:o.Nodup)(hl:∀p∈o,p<7):Spec W (bV W κ o) (fun p=>if p∈o then some (.int (κ p)) else none):=
 ⟨jC hW hn hl,fun k hk=>by
  rw[fJ] at hk
  obtain ⟨p,hp,rfl⟩:=eg.mp hk
  exact⟨p,hl p hp,rfl⟩,fun p hp=>xX hW hn hl hp⟩
theorem pR {m:KD}{f:Nat→Option D}(s:Spec W m f):Spec W (rm m) (fun p=>(f p).map fun d=>D.tup [d,.int 1]):=
 ⟨by rw[jf];exact s.nd,by rw[jf];exact s.at_,fun p hp=>by rw[Gf,s.val p hp]⟩
theorem fH {m r:KD}{f g:Nat→Option D}(s:Spec W m f)(s2:Spec W r g):Spec W (aF m r) (fun p=>a1Q (f p) (g p)):=by
 refine⟨Z5 _ _ s.nd,fun k hk=>?_,fun p hp=>by rw[lF _ _ _ s2.nd,s.val p hp,s2.val p hp]⟩
 by_cases h1:k∈m.map (fun x=>x.1)
 ·exact s.at_ k h1
 ·refine s2.at_ k ?_
  have e:Zg (aF m r) k≠none:=fun q=>(gU.mp q) hk
  rw[lF _ _ _ s2.nd,gU.mpr h1] at e
  cases q:Zg r k with
  |none=>rw[q] at e;exact absurd rfl e
  |some d=>exact jJ q
theorem Ay (hW:WOk W)(c:Nat→Bool)(v:Nat→D):Spec W ((bG 0 7).flatMap fun d=>aL (c d.toInt.toNat&&true) [(nameAt W d.toInt.toNat,v d.toInt.toNat)]) (fun p=>if c p then some (v p) else none):=by
 have e:(bG 0 7).flatMap (fun d=>aL (c d.toInt.toNat&&true) [(nameAt W d.toInt.toNat,v d.toInt.toNat)])=([0,1,2,3,4,5,6].filter c).map fun p=>(nameAt W p,v p):=by
  have key:∀l:List Nat,(aq l).flatMap (fun d=>aL (c d.toInt.toNat&&true) [(nameAt W d.toInt.toNat,v d.toInt.toNat)])=(l.filter c).map fun p=>(nameAt W p,v p):=by
   intro l
   induction l with
   |nil=>rfl
   |cons p l ih=>
    unfold aq at ih ⊢
    rw[dc,fk,ih,t9]
    show aL (c p&&true) [(nameAt W p,v p)]++_=_
    cases c p<;>rfl
  exact key [0,1,2,3,4,5,6]
 rw[e]
 have lt:∀p∈[0,1,2,3,4,5,6].filter c,p<7:=fun p hp=>by
  have:=(sD.mp hp).1
  simp at this;exact Qx this
 have nd:([0,1,2,3,4,5,6].filter c).Nodup:=LY AQ (by decide)
 have hk:((([0,1,2,3,4,5,6].filter c).map fun p=>(nameAt W p,v p)).map (fun x=>x.1)).Nodup:=by
  rw[kH]
  unfold Me
  rw[C9]
  have nd':([0,1,2,3,4,5,6].filter c).Pairwise (·≠·):=nd
  exact nd'.imp_of_mem fun {x y} hx hy hne q=>hne (dN hW (lt x hx) (lt y hy) q)
 refine⟨hk,fun k hk=>?_,fun p hp=>?_⟩
 ·rw[kH] at hk
  obtain ⟨p,hp,rfl⟩:=eg.mp hk
  exact⟨p,lt p hp,rfl⟩
 ·have hm:∀p,p<7→(p∈[0,1,2,3,4,5,6].filter c↔c p=true):=fun p hp=>by
   rw[sD]
   exact⟨fun h=>h.2,fun h=>⟨by simp;exact om0 hp,h⟩⟩
  by_cases h:c p=true
  ·rw[if_pos h]
   exact jH hk (p:=(nameAt W p,v p)) (eg.mpr ⟨p,(hm p hp).mpr h,rfl⟩)
  ·rw[if_neg h,gU,kH]
   intro q
   obtain ⟨x,hx,e⟩:=eg.mp q
   have:x=p:=dN hW (lt x hx) hp e
   subst this
   exact h ((hm x hp).mp hx)
end
end
section
theorem Er {W:Wd}{m:KD}{f:Nat→Option D}(s:Spec W m f)(g:D→D):Spec W (m.map fun p=>(p.1,g p.2)) (fun p=>(f p).map g):=by
 have hk:(m.map fun p=>(p.1,g p.2)).map (fun x=>x.1)=m.map (fun x=>x.1):=by rw[kH];rfl
 refine⟨by rw[hk];exact s.nd,by rw[hk];exact s.at_,fun p hp=>?_⟩
 rw[←s.val p hp]
 generalize nameAt W p=k
 induction m with
 |nil=>rfl
 |cons q m ih=>
  have ih':∀m:KD,Zg (m.map fun p=>(p.1,g p.2)) k=(Zg m k).map g:=by
   intro m
   induction m with
   |nil=>rfl
   |cons q m ih=>
    unfold Zg at ih ⊢
    rw[dc,k6,k6]
    by_cases h:q.1=k
    ·simp[h]
    ·simp only[h,decide_false]
     exact ih
  exact ih' _
section
variable {P:LP}{t:Tr}
noncomputable def inO (o:List Nat)(p:Nat):Int:=if p∈o then 1 else 0
structure oK (P:LP)(R:Zb)(o1 o2 o3:List Nat):Prop where
 w:WOk (P.W 0)
 e1:R.m1=bV (P.W 0) P.kap o1
 e2:R.m2=bV (P.W 0) P.kap o2
 e3:R.m3=bV (P.W 0) P.kap o3
 n1:o1.Nodup
 n2:o2.Nodup
 n3:o3.Nodup
 l1:∀p∈o1,p<7
 l2:∀p∈o2,p<7
 l3:∀p∈o3,p<7
variable {R:Zb}{o1 o2 o3:List Nat}
theorem mV {W:Wd}{κ:Nat→Int}(hW:WOk W){o:List Nat}(hn:o.Nodup)(hl:∀p∈o,p<7){p:Nat}(hp:p<7):((bV W κ o).map (fun x=>x.1)).contains (nameAt W p)=decide (p∈o):=by
 rw[←jm,xX hW hn hl hp]
 by_cases h:p∈o<;>simp[h]
theorem Io (T:oK P R o1 o2 o3){p:Nat}(hp:p<7):P.tm R p=inO o1 p+inO o2 p+inO o3 p:=by
 have c1:=mV (κ:=P.kap) T.w T.n1 T.l1 hp
 have c2:=mV (κ:=P.kap) T.w T.n2 T.l2 hp
 have c3:=mV (κ:=P.kap) T.w T.n3 T.l3 hp
 show tmD R (nameAt (P.W 0) p)=_
 unfold tmD xJ inO
 rw[T.e1,T.e2,T.e3,c1,c2,c3]
 by_cases h1:p∈o1<;>by_cases h2:p∈o2<;>by_cases h3:p∈o3<;>simp[h1,h2,h3,aL]
theorem oY (T:oK P R o1 o2 o3):Spec (P.W 0) (P.mZ R) (fun p=>if decide (P.tm R p>0) then some (D.tup [.int (P.tm R p*P.kap p),.int (P.tm R p)]) else none):=
 Ay T.w (fun p=>decide (P.tm R p>0)) (fun p=>D.tup [.int (P.tm R p*P.kap p),.int (P.tm R p)])
theorem xg (T:oK P R o1 o2 o3):Spec (P.W 0) (bM R.tabs) (fun p=>if decide (P.tm R p>0) then some (D.tup [.int (P.tm R p*P.kap p),.int (P.tm R p)]) else none):=by
 have s1:=pR (ik (κ:=P.kap) T.w T.n1 T.l1)
 have s2:=pR (ik (κ:=P.kap) T.w T.n2 T.l2)
 have s3:=pR (ik (κ:=P.kap) T.w T.n3 T.l3)
 rw[←T.e1] at s1
 rw[←T.e2] at s2
 rw[←T.e3] at s3
 have s:=fH (fH (fH a2h s1) s2) s3
 refine⟨s.nd,s.at_,fun p hp=>(s.val p hp).trans ?_⟩
 rw[Io T hp]
 unfold inO
 by_cases h1:p∈o1<;>by_cases h2:p∈o2<;>by_cases h3:p∈o3<;>simp[h1,h2,h3,a1Q,a0E,a1N,D.toInt]<;>(first|exact Ww|exact U8)
theorem yg (T:oK P R o1 o2 o3):Spec (P.W 0) R.book (fun p=>if decide (P.tm R p>0) then some (D.int (P.tm R p*P.kap p)) else none):=by
 have s1:=ik (κ:=P.kap) T.w T.n1 T.l1
 have s2:=ik (κ:=P.kap) T.w T.n2 T.l2
 have s3:=ik (κ:=P.kap) T.w T.n3 T.l3
 rw[←T.e1] at s1
 rw[←T.e2] at s2
 rw[←T.e3] at s3
 have s:=fH (fH s1 s2) s3
 refine⟨s.nd,s.at_,fun p hp=>(s.val p hp).trans ?_⟩
 rw[Io T hp]
 unfold inO
 by_cases h1:p∈o1<;>by_cases h2:p∈o2<;>by_cases h3:p∈o3<;>simp[h1,h2,h3,a1Q,a0E]<;>(first|exact Ww|exact U7)
theorem uo (T:oK P R o1 o2 o3):gj (bM R.tabs) (P.mZ R):=
 (xg T).alike (oY T) fun p d hp h=>by
  split at h
  ·obtain rfl:=aI h
   exact⟨⟨trivial,trivial,trivial⟩,b9 rfl⟩
  ·exact YD h
theorem wk (T:oK P R o1 o2 o3):gj R.book (P.a0B R):=by
 refine(yg T).alike (m2:=P.a0B R) ?_ fun p d hp h=>?_
 ·have s:=Er (oY T) ZQ
  refine⟨s.nd,s.at_,fun p hp=>(s.val p hp).trans ?_⟩
  by_cases h:P.tm R p>0<;>simp[h,ZQ]
 ·split at h
  ·obtain rfl:=aI h
   exact⟨trivial,b9 rfl⟩
  ·exact YD h
end
end
section
noncomputable def Il (c:Nat→Bool):Int:=Za ((bG 0 7).flatMap fun d=>aL (c d.toInt.toNat&&true) [D.int (2 ^ d.toInt.toNat)])
theorem oh {c c':Nat→Bool}(h:∀p,p<7→c p=c' p):Il c=Il c':=by
 unfold Il
 show Za (([D.int 0,.int 1,.int 2,.int 3,.int 4,.int 5,.int 6]).flatMap _)=Za (([D.int 0,.int 1,.int 2,.int 3,.int 4,.int 5,.int 6]).flatMap _)
 simp only[fk,GA]
 show Za (aL (c 0&&true) _++(aL (c 1&&true) _++(aL (c 2&&true) _++(aL (c 3&&true) _++(aL (c 4&&true) _++(aL (c 5&&true) _++(aL (c 6&&true) _++[])))))))=Za (aL (c' 0&&true) _++(aL (c' 1&&true) _++(aL (c' 2&&true) _++(aL (c' 3&&true) _++(aL (c' 4&&true) _++(aL (c' 5&&true) _++(aL (c' 6&&true) _++[])))))))
 rw[h 0 (by decide),h 1 (by decide),h 2 (by decide),h 3 (by decide),h 4 (by decide),h 5 (by decide),h 6 (by decide)]
theorem a2j:((jI 128).all fun x=>decide (Il (lJ x)=(x:Int)))=true:=by kernel_rfl
theorem f9 (x p:Nat):lJ x p=x.testBit p:=by
 rw[Nat.testBit_eq_decide_div_mod_eq]
 unfold lJ
 rw[OP]
 simp
theorem H9 (x y:Nat):kL (x:Int) y=((x &&& y:Nat):Int):=by
 unfold kL
 rw[decide_eq_true (show(0:Int)≤(x:Int) by exact wY),decide_eq_true (show(0:Int)≤(y:Int) by exact wY)]
 rfl
theorem JC (x y:Nat):kB (x:Int) y=((x |||y:Nat):Int):=by
 unfold kB kL
 have h:∀z:Nat,¬(0:Int)≤gT (z:Int):=fun z=>by unfold gT;exact Vv
 have e:∀z:Nat,(gT (gT (z:Int))).toNat=z:=fun z=>by unfold gT;exact PQ
 rw[decide_eq_false (h x),decide_eq_false (h y)]
 show gT (gT (((gT (gT (x:Int))).toNat |||(gT (gT (y:Int))).toNat:Nat):Int))=_
 rw[e,e]
 unfold gT
 exact UT
theorem oO {x y:Nat}(hx:x<128)(hy:y<128):kB (x:Int) y=((x |||y:Nat):Int)∧kL (x:Int) y=((x &&& y:Nat):Int)∧x |||y<128∧x &&& y<128∧∀p,p<7→lJ (x |||y) p=(lJ x p||lJ y p)∧lJ (x &&& y) p=(lJ x p&&lJ y p):=
 ⟨JC x y,H9 x y,Nat.or_lt_two_pow (n:=7) hx hy,Nat.and_lt_two_pow (n:=7) x hy,fun p Z=>⟨by rw[f9,f9,f9,Nat.testBit_or],by rw[f9,f9,f9,Nat.testBit_and]⟩⟩
theorem zM {x:Nat}(hx:x<128):Il (lJ x)=(x:Int):=by
 have h:=fR.mp a2j x (kQ.mpr hx)
 simpa using h
end
section
section
variable {P:LP}{t:Tr}{R:Zb}{o1 o2 o3:List Nat}
theorem qX {o:List Nat}(hn:o.Nodup)(hl:∀p∈o,p<7):∃y:Nat,y<128∧(y:Int)=LP.num o∧∀q,q<7→lJ y q=decide (q∈o):=by
 obtain ⟨y,h1,h2,h3⟩:=a1r o [] 0 (by decide) a3w (hn) hl
 exact⟨y,h1,by rw[h2];simp,fun q hq=>by rw[h3 q hq];simp⟩
theorem Cg (T:oK P R o1 o2 o3):kL (LP.num o1) (LP.num o3)=Za (P.qi R):=by
 obtain ⟨x,hx,ex,bx⟩:=qX T.n1 T.l1
 obtain ⟨y,hy,ey,bY⟩:=qX T.n3 T.l3
 obtain ⟨_,h2,_,h4,h5⟩:=oO hx hy
 rw[←ex,←ey,h2,←zM h4]
 refine Eq.trans (oh fun p hp=>?_) (show Il (P.inB R)=Za (P.qi R) from rfl)
 rw[(h5 p hp).2,bx p hp,bY p hp]
 have c1:=mV (κ:=P.kap) T.w T.n1 T.l1 hp
 have c3:=mV (κ:=P.kap) T.w T.n3 T.l3 hp
 show _=((R.m1.map (fun x=>x.1)).contains (nameAt (P.W 0) p)&&((R.m3.map (fun x=>x.1)).contains (nameAt (P.W 0) p)&&true))
 rw[T.e1,T.e3,c1,c3,LF]
theorem Ci (T:oK P R o1 o2 o3):kB (kB (LP.num o1) (LP.num o2)) (LP.num o3)=Za (P.xu R):=by
 obtain ⟨x,hx,ex,bx⟩:=qX T.n1 T.l1
 obtain ⟨y,hy,ey,bY⟩:=qX T.n2 T.l2
 obtain ⟨z,hz,ez,bz⟩:=qX T.n3 T.l3
 obtain ⟨h1,_,h3,_,h5⟩:=oO hx hy
 obtain ⟨g1,_,g3,_,g5⟩:=oO h3 hz
 rw[←ex,←ey,←ez,h1,g1,←zM g3]
 refine Eq.trans (oh fun p hp=>?_) (show Il (fun p=>decide (P.tm R p>0))=Za (P.xu R) from rfl)
 rw[(g5 p hp).1,(h5 p hp).1,bx p hp,bY p hp,bz p hp,Io T hp]
 unfold inO
 by_cases q1:p∈o1<;>by_cases q2:p∈o2<;>by_cases q3:p∈o3<;>simp[q1,q2,q3]
theorem GQ (G:Grd P t):uN P (jV P t) t:=by
 obtain ⟨o1,e1,p1,n1,l1,_⟩:=gf G (i:=0) (by decide)
 obtain ⟨o2,e2,p2,n2,l2,_⟩:=gf G (i:=1) (by decide)
 obtain ⟨o3,e3,p3,n3,l3,_⟩:=gf G (i:=2) (by decide)
 have T:oK P (jV P t) o1 o2 o3:=⟨oF G.tree 0,e1,e2,e3,n1,n2,n3,l1,l2,l3⟩
 refine⟨G.tree.nm,?_,(oY T).nd,uo T,wk T,?_,?_,G.tree.asked,G.tree.tells,G.tree.ok⟩
 ·exact(G.tree.nl _ (zL G 0 (q:=6) (by decide))).2
 ·rw[←fU p1,←fU p3];exact Cg T
 ·rw[←fU p1,←fU p2,←fU p3];exact Ci T
end
end
section
theorem nQ {c:Nat}(h1:c≠10)(h2:c≠13)(l:List Nat):crlf (c::l)=c::crlf l:=by
 unfold crlf
 rw[YT,if_neg (by simp),if_neg h1,if_neg h2]
theorem yD {l:List Nat}(h:l.head?≠some 10):YT true l=crlf l:=by
 cases l with
 |nil=>rfl
 |cons c l=>
  have hc:c≠10:=fun q=>h (by rw[q];rfl)
  unfold crlf
  simp[YT,hc]
theorem qx (n:Nat)(l:List Nat):crlf (gv n 46++l)=gv n 46++crlf l:=by
 induction n with
 |zero=>rfl
 |succ n ih=>rw[iP,yk,nQ (by decide) (by decide),ih];rfl
theorem yC {e rest:List Nat}(he:e=[10]∨e=[13]∨e=[13,10])(hr:rest.head?≠some 10):crlf (e++rest)=13::10::crlf rest:=by
 rcases he with rfl|rfl|rfl
 ·show YT false (10::rest)=_
  rw[YT];simp[crlf]
 ·show YT false (13::rest)=_
  rw[YT];simp[yD hr]
 ·show YT false (13::10::rest)=_
  rw[YT];simp[YT,crlf]
theorem qy {n h:Nat}{e rest:List Nat}(h1:h≠10)(h2:h≠13)(he:e=[10]∨e=[13]∨e=[13,10])(hr:rest.head?≠some 10):crlf (gv n 46++h::(e++rest))=gv n 46++h::13::10::crlf rest:=by
 rw[qx,nQ h1 h2,yC he hr]
theorem yJ (n:Nat)(l:List Nat):YQ false (gv n 46++l)=gv n 46++YQ false l:=by
 induction n with
 |zero=>rfl
 |succ n ih=>
  rw[iP,yk,YQ,if_neg (by decide)]
  show 46::YQ false _=_
  rw[ih];rfl
theorem qC {n h:Nat}{rest:List Nat}(h1:h≠10)(h2:h≠46):YQ true (gv n 46++h::13::10::rest)=gv (if n=0 then 0 else n+1) 46++h::13::10::YQ true rest:=by
 have tl:∀b,YQ b (h::13::10::rest)=h::13::10::YQ true rest:=fun b=>by
  rw[YQ,if_neg (fun q=>h2 q.2),show(h==10)=false from by simpa using h1]
  simp[YQ]
 cases n with
 |zero=>exact tl true
 |succ n=>
  rw[iP,yk,YQ,if_pos ⟨rfl,rfl⟩,yJ,tl]
  rw[if_neg (G1 n),iP,iP]
  rfl
theorem zA (n:Nat)(tl:List Nat)(ht:tl=[]∨tl=[13]∨tl=[13,10]):YQ true (crlf (gv (n+1) 46++[13,10,13,10,122]++tl))=gv (n+2) 46++[13,10,13,10,122]++(if tl=[] then [] else [13,10]):=by
 have e:crlf (gv (n+1) 46++[13,10,13,10,122]++tl)=gv (n+1) 46++([13,10,13,10,122]++(if tl=[] then [] else [13,10])):=by
  rw[ko,qx]
  congr 1
  rcases ht with rfl|rfl|rfl<;>simp[crlf,YT]
 rw[e,iP,yk,YQ,if_pos ⟨rfl,rfl⟩,yJ]
 rw[iP,iP]
 rcases ht with rfl|rfl|rfl<;>simp[YQ]
end
section
theorem Str.YS (a b:Str):(a++b).cps.toList=a.cps.toList++b.cps.toList:=by
 show(a.cps++b.cps).toList=_
 simp
theorem mul_list (n:Int):(bL (af ".") n).cps.toList=gv n.toNat 46:=by
 have c1:(af ".").cps.toList=[46]:=by decide +kernel
 unfold bL
 split
 ·have:n.toNat=0:=by exact Kq (by assumption)
  rw[this];rfl
 ·split
  ·rename_i h1 h2
   have h2:n=1:=by
    have l1:(af ".").length=1:=by decide +kernel
    simpa [l1] using h2
   subst h2;exact c1
  ·have key:∀(k:Nat) (acc:Array Nat),((gv k (af ".").cps).foldl (·++·) acc).toList=acc.toList++gv k 46:=by
    intro k
    induction k with
    |zero=>intro acc;simp
    |succ k ih=>intro acc;rw[iP,B6,ih,L7,c1,iP];simp
   show(Sn _)=_
   rw[key];rfl
noncomputable def hN (p:Nat):Nat:=[97,98,99,100,101,102,103].getD p 0
theorem lU (p:Nat)(hp:p<7):(iu p).cps.toList=[hN p]:=by
 have:p=0∨p=1∨p=2∨p=3∨p=4∨p=5∨p=6:=by exact om0 hp
 rcases this with rfl|rfl|rfl|rfl|rfl|rfl|rfl<;>decide +kernel
theorem H5 {p:Nat}(hp:p<7):hN p≠10∧hN p≠13∧hN p≠46:=by
 have:p=0∨p=1∨p=2∨p=3∨p=4∨p=5∨p=6:=by exact om0 hp
 rcases this with rfl|rfl|rfl|rfl|rfl|rfl|rfl<;>decide
noncomputable def tlN (tl:List Nat)(st:Nat):List Nat:=if 0<st∧tl≠[] then [13,10] else tl
noncomputable def ddN (d:List Int)(q st:Nat):Nat:=(bC (d.getD q 0) st).toNat
noncomputable def dJ (ab:List Nat)(d:List Int)(tl:List Nat):Nat→Nat→Nat→List Nat
 | 0,_,st=>gv (st+1) 46++[13,10,13,10,122]++tlN tl st
 |m+1,q,st=>gv (ddN d (ab.getD q 0) (st+1)) 46++hN (ab.getD q 0)::13::10::dJ ab d tl m (ab.getD q 0) (st+1)
theorem Bj (tail:Str)(st:Nat):(cL tail (st:Int)).cps.toList=tlN tail.cps.toList st:=by
 unfold cL tlN
 have e0:(af "").cps.toList=[]:=by decide +kernel
 have e:(tail=af "")↔tail.cps.toList=[]:=⟨fun h=>by rw[h,e0],fun h=>CC (by rw[←yv,h,e0])⟩
 have ec:(af "\r\n").cps.toList=[13,10]:=a0r
 by_cases h1:0<st
 ·by_cases h2:tail=af ""
  ·rw[if_neg (by simp[h2]),if_neg (fun q=>q.2 (e.mp h2))]
  ·rw[if_pos (by simp[h1,h2]),if_pos ⟨h1,fun q=>h2 (e.mpr q)⟩,ec]
 ·rw[if_neg (by simp[h1]),if_neg (fun q=>h1 q.1)]
theorem vo {ab:List Nat}{d:List Int}{tail:Str}:∀(m q:Nat) (acc:Str) (st:Nat),Way ab m q→ab.length=7→
  (goL ab d m q acc st).1.cps.toList++(bL (af ".") (goL ab d m q acc st).2).cps.toList++(af ".\r\n\r\nz").cps.toList++(cL tail (goL ab d m q acc st).2).cps.toList=acc.cps.toList++dJ ab d tail.cps.toList m q st
 | 0,q,acc,st,_,_=>by
  have ez:(af ".\r\n\r\nz").cps.toList=[46,13,10,13,10,122]:=by decide +kernel
  unfold goL dJ
  rw[mul_list,Bj,ez,List.replicate_succ']
  simp
 |m+1,q,acc,st,h,hl=>by
  obtain ⟨h0,h1,h2⟩:=h
  have hq:ab.getD q 0<7:=by
   cases m with
   |zero=>have:ab.getD q 0=0:=h2;exact LQ this
   |succ m=>exact h2.2.1
  have ec:(af "\r\n").cps.toList=[13,10]:=a0r
  unfold goL dJ
  have e:((st:Int)+1)=((st+1:Nat):Int):=rfl
  rw[e,vo m _ _ (st+1) h2 hl,Str.YS,Str.YS,Str.YS,mul_list,lU _ hq,ec]
  simp[ddN]
theorem tY {ab:List Nat}{d:List Int}{e:List Str}{tail:Str}{p m:Nat}(hm:m≤7)(h:Way ab m p)(hl:ab.length=7)(hp:p<7):
  (gW ab d e tail p).cps.toList=gv (d.getD p 0).toNat 46++hN p::((e.getD p Str.empty).cps.toList++dJ ab d tail.cps.toList m p 0):=by
 have est:gO ab 7 p=m:=h.steps hm
 unfold gW
 rw[est,Str.YS,Str.YS,Str.YS]
 have:=vo (d:=d) (tail:=tail) m p (dR d e p) 0 h hl
 rw[show((0:Nat):Int)=0 from rfl] at this
 rw[this]
 unfold dR
 rw[Str.YS,Str.YS,mul_list,lU p hp]
 simp
noncomputable def J9 (tl:List Nat):Prop:=tl=[]∨tl=[13]
theorem rF {ab:List Nat}{d:List Int}{tl:List Nat}(hl:ab.length=7):∀(m q st:Nat),Way ab m q→(dJ ab d tl m q st).head?≠some 10
 | 0,q,st,_=>by unfold dJ;rw[iP];simp
 |m+1,q,st,h=>by
  obtain ⟨h0,h1,h2⟩:=h
  have hq:ab.getD q 0<7:=by
   cases m with
   |zero=>have:ab.getD q 0=0:=h2;exact LQ this
   |succ m=>exact h2.2.1
  unfold dJ
  cases hn:ddN d (ab.getD q 0) (st+1) with
  |zero=>simpa using (H5 hq).1
  |succ n=>rw[iP];simp
theorem Gz {d:List Int}{q st:Nat}:(if ddN d q st=0 then 0 else ddN d q st+1)=ddN d q (st+1):=by
 unfold ddN bC
 by_cases h:d.getD q 0>0
 ·rw[if_pos h,if_pos h,if_neg (by exact Rc h)];exact XX h
 ·rw[if_neg h,if_neg h,if_pos (by rfl)];rfl
theorem rG {ab:List Nat}{d:List Int}{tl:List Nat}(hl:ab.length=7)(ht:J9 tl):∀(m q st:Nat),Way ab m q→YQ true (crlf (dJ ab d tl m q st))=dJ ab d tl m q (st+1)
 | 0,q,st,_=>by
  unfold dJ
  have htl:tlN tl st=[]∨tlN tl st=[13]∨tlN tl st=[13,10]:=by
   unfold tlN
   split
   ·exact .inr (.inr rfl)
   ·rcases ht with h|h
    ·exact .inl h
    ·exact .inr (.inl h)
  rw[zA st _ htl]
  congr 1
  unfold tlN
  rcases ht with rfl|rfl
  ·simp
  ·by_cases h:0<st<;>simp[h]
 |m+1,q,st,h=>by
  obtain ⟨h0,h1,h2⟩:=h
  have hq:ab.getD q 0<7:=by
   cases m with
   |zero=>have:ab.getD q 0=0:=h2;exact LQ this
   |succ m=>exact h2.2.1
  obtain ⟨n1,n2,n3⟩:=H5 hq
  unfold dJ
  have e:=qy (n:=ddN d (ab.getD q 0) (st+1)) (e:=[13,10]) n1 n2 (.inr (.inr rfl)) (rF (d:=d) (tl:=tl) hl m (ab.getD q 0) (st+1) h2)
  rw[show(13::10::dJ ab d tl m (ab.getD q 0) (st+1))=[13,10]++dJ ab d tl m (ab.getD q 0) (st+1) from rfl,e,qC n1 n3,rG hl ht m _ _ h2,Gz]
end
section
noncomputable def ltN (ps:List Nat)(i j:Nat):Bool:=decide (((ps.getD i 0:Nat):Int)<((ps.getD j 0:Nat):Int))
noncomputable def iw (f:Nat→Str)(ps:List Nat):List (Nat×Str):=ps.map fun p=>(p,f p)
theorem oG (f:Nat→Str)(ps:List Nat)(i:Nat):(iw f ps).getD i (0,Str.empty)=if i<ps.length then(ps.getD i 0,f (ps.getD i 0)) else(0,Str.empty):=by
 unfold iw
 by_cases h:i<ps.length
 ·rw[if_pos h,bq,bq,gu,c8 h];rfl
 ·rw[if_neg h,bq,Cn (by simpa using h)];rfl
theorem kI (f:Nat→Str)(ps:List Nat):ltZ (iw f ps)=ltN ps:=by
 funext i j
 have e:∀i,((iw f ps).getD i (0,Str.empty)).1=ps.getD i 0:=fun i=>by
  rw[oG]
  by_cases h:i<ps.length
  ·rw[if_pos h]
  ·rw[if_neg h,bq,Cn (by simpa using h)];rfl
 unfold ltZ ltN
 rw[e,e]
noncomputable def mL (ps:List Nat):Bool:=
 decide (ps.length=7)&&(okK 7 (ltN ps) (tF 7)&&(decide ((rI (ltN ps) (tF 7)).size=7)&&((rI (ltN ps) (tF 7)).toList.all (fun i=>decide (i<7))&&(decide ((rI (ltN ps) (tF 7)).toList.map (fun i=>ps.getD i 0)=[0,1,2,3,4,5,6])&&(decide ps.Nodup&&ps.all fun p=>decide (p<7))))))
theorem a2g:((jI 2).all fun a=>(jI 3).all fun b=>mL (Z3 (mkT a b)))=true:=by kernel_rfl
theorem Ih {a b:Nat}(ha:a<2)(hb:b<3):mL (Z3 (mkT a b))=true:=
 fR.mp (fR.mp a2g a (kQ.mpr ha)) b (kQ.mpr hb)
theorem Ax (f:Nat→Str){ps:List Nat}(h:mL ps=true):uO (iw f ps)∧uD (iw f ps)=iw f [0,1,2,3,4,5,6]:=by
 simp only[mL,j3,decide_eq_true_eq,fR] at h
 obtain ⟨h1,h2,h3,h4,h5,h6,h7⟩:=h
 have el:(iw f ps).length=7:=by unfold iw;rw[bP,h1]
 refine⟨⟨by exact Ut el,by exact Vd el,by rw[el,kI];exact h2,by rw[el,kI];exact h3,by rw[el,kI];exact h4,?_⟩,?_⟩
 ·unfold iw;rw[kH];simpa [Function.comp_def] using h6
 ·unfold uD
  rw[el,kI]
  have:(rI (ltN ps) (tF 7)).toList.map (fun i=>(iw f ps).getD i (0,Str.empty))=iw f ((rI (ltN ps) (tF 7)).toList.map fun i=>ps.getD i 0):=by
   unfold iw
   rw[kH]
   refine mT fun i hi=>?_
   have:=oG f ps i
   rw[if_pos (by have:=h4 i hi;exact om3 h1 this)] at this
   exact this
  rw[this,h5]
end
section
theorem a1I:((jI 2).all fun a=>(jI 3).all fun b=>(jI 7).all fun k=>decide (strAt ((mkS a b).nm.getD k Str.empty) 0=iu k))=true:=by kernel_rfl
theorem a4s:((jI 2).all fun a=>(jI 3).all fun b=>(jI 7).all fun k=>decide (k=0→(mkS a b).ab.getD k 0=0))=true:=by kernel_rfl
section
variable {P:LP}
theorem t7 (P:LP)(k:Nat):(P.en k).cps.toList=[10]∨(P.en k).cps.toList=[13]∨(P.en k).cps.toList=[13,10]:=by
 unfold LP.en
 have h1:=ia (P.c2.fdiv (3 ^ k)) (show(0:Int)<3 by decide)
 have h2:=k7 (P.c2.fdiv (3 ^ k)) (show(0:Int)<3 by decide)
 generalize (P.c2.fdiv (3 ^ k)).fmod 3=i at h1 h2
 have:i=0∨i=1∨i=2:=by exact K6 h1 h2
 rcases this with rfl|rfl|rfl
 ·exact .inl (by decide +kernel)
 ·exact .inr (.inl (by decide +kernel))
 ·exact .inr (.inr (by decide +kernel))
theorem uH (P:LP):J9 P.tail.cps.toList:=by
 unfold LP.tail J9
 have h1:=ia (P.c2.fdiv 2187) (show(0:Int)<2 by decide)
 have h2:=k7 (P.c2.fdiv 2187) (show(0:Int)<2 by decide)
 generalize (P.c2.fdiv 2187).fmod 2=i at h1 h2
 have:i=0∨i=1:=by exact Ko h1 h2
 rcases this with rfl|rfl
 ·exact .inl (by decide +kernel)
 ·exact .inr (by decide +kernel)
theorem Jo (P:LP){k:Nat}(hk:k<7):P.ds.getD k 0=P.dot k:=by
 have:k=0∨k=1∨k=2∨k=3∨k=4∨k=5∨k=6:=by exact om0 hk
 rcases this with rfl|rfl|rfl|rfl|rfl|rfl|rfl<;>rfl
theorem O1 (P:LP){k:Nat}(hk:k<7):P.es.getD k Str.empty=P.en k:=by
 have:k=0∨k=1∨k=2∨k=3∨k=4∨k=5∨k=6:=by exact om0 hk
 rcases this with rfl|rfl|rfl|rfl|rfl|rfl|rfl<;>rfl
theorem Ak (P:LP){k:Nat}(hk:k<7):P.rows.getD k Str.empty=P.row k:=by
 have:k=0∨k=1∨k=2∨k=3∨k=4∨k=5∨k=6:=by exact om0 hk
 rcases this with rfl|rfl|rfl|rfl|rfl|rfl|rfl<;>rfl
theorem gB (P:LP)(hab:P.ab.length=7){p m:Nat}(hm:m≤7)(h:Way P.ab m p)(hp:p<7):
  (P.letter p).cps.toList=gv (P.dot p).toNat 46++hN p::((P.en p).cps.toList++dJ P.ab P.ds P.tail.cps.toList m p 0):=by
 have e:=tY (d:=P.ds) (e:=P.es) (tail:=P.tail) hm h hab hp
 rw[Jo P hp,O1 P hp] at e
 exact e
structure lu (P:LP):Prop where
 ab:P.ab.length=7
 host:∀k,k<7→strAt (P.nm.getD k Str.empty) 0=iu k
theorem vQ (H:lu P){k:Nat}(hk:k<7):(P.row k).cps.toList=gv (P.dot k).toNat 46++hN k::(P.en k).cps.toList:=by
 unfold LP.row
 rw[Str.YS,Str.YS,mul_list,H.host k hk,lU k hk]
 simp
theorem zq (H:lu P)(st:Int):bf (P.W st) 0 P.came=P.letter 0:=by
 refine CC ?_
 rw[←yv,gB P H.ab (qV 7) (show Way P.ab 0 0 from rfl) (by decide)]
 unfold bf LP.came
 show((P.rows.getD 0 Str.empty)++(_++_)).cps.toList=_
 have ez:(af ".\r\n\r\nz").cps.toList=[46,13,10,13,10,122]:=by decide +kernel
 rw[Ak P (by decide),Str.YS,Str.YS,vQ H (by decide),ez]
 unfold dJ tlN
 simp
theorem HW (x:Str):(qS x).cps.toList=YQ true (crlf x.cps.toList):=by
 unfold qS oX oW
 simp
theorem vy (H:lu P)(st:Int){p c m:Nat}(hm:m<7)(h:Way P.ab m p)(hp:p<7)(hc:c<7)(hc0:c≠0)(hab:P.ab.getD c 0=p):bf (P.W st) c (qS (P.letter p))=P.letter c:=by
 refine CC ?_
 have hw:Way P.ab (m+1) c:=⟨hc0,hc,by rw[hab];exact h⟩
 rw[←yv,gB P H.ab (by exact V0 hm) hw hc]
 unfold bf
 show((P.rows.getD c Str.empty)++_).cps.toList=_
 rw[Ak P hc,Str.YS,vQ H hc,HW,gB P H.ab (by exact Va hm) h hp]
 obtain ⟨n1,n2,n3⟩:=H5 hp
 rw[qy n1 n2 (t7 P p) (rF H.ab m p 0 h),qC n1 n3,rG H.ab (uH P) m p 0 h]
 have ed:(if(P.dot p).toNat=0 then 0 else(P.dot p).toNat+1)=ddN P.ds p 1:=by
  have:=P.t6 p
  unfold ddN bC
  rw[Jo P hp]
  by_cases h0:P.dot p>0
  ·rw[if_neg (by exact Qq this h0),if_pos h0];exact XN this h0
  ·rw[if_pos (by exact Qg this h0),if_neg h0];rfl
 rw[ed]
 show _=_++hN c::(_++dJ P.ab P.ds P.tail.cps.toList (m+1) c 0)
 rw[dJ,hab]
 simp
theorem vB {ab:List Nat}{p c:Nat}(h:c∈kidsOf ab p):c<7∧c≠0∧ab.getD c 0=p:=by
 unfold kidsOf at h
 obtain ⟨h1,h2⟩:=sD.mp h
 refine⟨?_,?_,by simpa using h2⟩
 ·simp at h1;exact R2 h1
 ·simp at h1;exact QS h1
theorem pD (H:lu P)(st:Int):∀(t:Tr) (c:Str) (m:Nat),oH P.ab t→Way P.ab m t.root→m+t.ht<7→bf (P.W st) t.root c=P.letter t.root→(∀k,k<7→(P.letter k).length≤1000)→
  Zh (P.W st) t c∧lq (P.W st) P.kap t c∧Z0 (P.W st) t c=cN (iw P.letter (Z3 t))
 | .leaf p,c,m,hf,hw,hm,hk,ll=>by
  have hk:bf (P.W st) p c=P.letter p:=hk
  have hp:p<7:=hf.1
  have:=ll p hp
  unfold Zh lq Z0
  rw[hk]
  exact⟨by exact KZ this,rfl,rfl⟩
 | .node p l r,c,m,hf,hw,hm,hk,ll=>by
  have hk:bf (P.W st) p c=P.letter p:=hk
  have hw:Way P.ab m p:=hw
  obtain ⟨hp,a1p,hl,hr⟩:=hf
  have:=ll p hp
  have eh:(Tr.node p l r).ht=max l.ht r.ht+1:=rfl
  obtain ⟨l1,l2,l3⟩:=vB (ab:=P.ab) (p:=p) (c:=l.root) (by rw[a1p];simp)
  obtain ⟨r1,r2,r3⟩:=vB (ab:=P.ab) (p:=p) (c:=r.root) (by rw[a1p];simp)
  have gl:=pD H st l (qS (P.letter p)) (m+1) hl ⟨l2,l1,by rw[l3];exact hw⟩ (by exact Y5 hm eh l1 l2 r1 r2) (vy H st (by exact Kg hm eh) hw hp l1 l2 l3) ll
  have gr:=pD H st r (qS (P.letter p)) (m+1) hr ⟨r2,r1,by rw[r3];exact hw⟩ (by exact Y0 hm eh l1 l2 r1 r2) (vy H st (by exact Kg hm eh) hw hp r1 r2 r3) ll
  unfold Zh lq Z0
  rw[hk]
  refine⟨⟨by exact KZ this,gl.1,gr.1⟩,⟨rfl,gl.2.1,gr.2.1⟩,?_⟩
  rw[gl.2.2,gr.2.2]
  show _=cN (iw P.letter (p::(Z3 l++Z3 r)))
  unfold iw cN
  simp
end
end
section
section
variable {P:LP}
theorem vP {ab:List Nat}{d:List Int}{tl:List Nat}(ht:J9 tl)(hd:∀x∈d,x≤3):∀(m q st:Nat),m+st≤7→(dJ ab d tl m q st).length≤20*m+20
 | 0,q,st,h=>by
  have:(tlN tl st).length≤2:=by
   unfold tlN
   split
   ·simp
   ·rcases ht with h|h<;>simp[h]
  unfold dJ
  simp
  exact R8 h this
 |m+1,q,st,h=>by
  have:=vP (ab:=ab) ht hd m (ab.getD q 0) (st+1) (by exact Lw h)
  have e:ddN d (ab.getD q 0) (st+1)≤12:=by
   have hx:d.getD (ab.getD q 0) 0≤3:=by
    rw[bq]
    by_cases hl:ab.getD q 0<d.length
    ·rw[c8 hl];exact hd _ (kM _)
    ·rw[Cn (by exact TJ hl)];simp
   unfold ddN bC
   split<;>(first|exact OD h this hx (by assumption)|exact a3U)
  unfold dJ
  rw[fm,IG,i9,i9,i9]
  exact Qj this e
theorem Jy {p:Nat}(hp:p<7):hN p<0x110000:=by
 have:p=0∨p=1∨p=2∨p=3∨p=4∨p=5∨p=6:=by exact om0 hp
 rcases this with rfl|rfl|rfl|rfl|rfl|rfl|rfl<;>decide
theorem Aj {ab:List Nat}{d:List Int}{tl:List Nat}(ht:J9 tl)(hl:ab.length=7):∀(m q st:Nat),Way ab m q→∀x∈dJ ab d tl m q st,x<0x110000
 | 0,q,st,_,x,hx=>by
  unfold dJ tlN at hx
  simp only[eW,E0,dP,eu,or_false] at hx
  rcases hx with (⟨_,rfl⟩|rfl|rfl|rfl|rfl|rfl)|hx
  ·decide
  ·decide
  ·decide
  ·decide
  ·decide
  ·decide
  ·have:x=13∨x=10:=by
    split at hx
    ·simpa using hx
    ·rcases ht with h|h
     ·rw[h] at hx;cases hx
     ·rw[h] at hx;exact .inl (bS.mp hx)
   rcases this with rfl|rfl<;>decide
 |m+1,q,st,h,x,hx=>by
  obtain ⟨h0,h1,h2⟩:=h
  have hq:ab.getD q 0<7:=by
   cases m with
   |zero=>have:ab.getD q 0=0:=h2;exact LQ this
   |succ m=>exact h2.2.1
  unfold dJ at hx
  simp only[eW,E0,dP] at hx
  rcases hx with ⟨_,rfl⟩|rfl|rfl|rfl|hx
  ·decide
  ·exact Jy hq
  ·decide
  ·decide
  ·exact Aj ht hl m _ _ h2 x hx
theorem wQ {t:Tr}(F:eN P t){k:Nat}(hk:k<7):(P.letter k).length≤1000:=by
 obtain ⟨m,hm,hw⟩:=F.way k hk
 have e:=gB P F.ab (by exact Li hm) hw hk
 have:(P.letter k).length=(P.letter k).cps.toList.length:=by simp[kR]
 rw[this,e]
 have h1:=vP (ab:=P.ab) (d:=P.ds) (uH P) (fun x hx=>by
  simp only[LP.ds,dP,eu,or_false] at hx
  rcases hx with rfl|rfl|rfl|rfl|rfl|rfl|rfl<;>exact(P.t6 _).2) m k 0 (by exact Uw hm)
 have h2:=P.t6 k
 have h3:(P.en k).cps.toList.length≤2:=by rcases t7 P k with h|h|h<;>simp[h]
 rw[fm,i9,fm,IG]
 exact Yh hm h1 h2 h3
theorem zH {t:Tr}(F:eN P t){k:Nat}(hk:k<7):tT (P.letter k)=true:=by
 obtain ⟨m,hm,hw⟩:=F.way k hk
 have e:=gB P F.ab (by exact Li hm) hw hk
 unfold tT
 rw[←Array.all_toList,e,fR]
 intro x hx
 simp only[eW,E0,dP] at hx
 refine decide_eq_true ?_
 rcases hx with ⟨_,rfl⟩|rfl|hx|hx
 ·decide
 ·exact Jy hk
 ·rcases t7 P k with h|h|h<;>rw[h] at hx<;>simp at hx
  ·exact Vi hx
  ·exact Vj hx
  ·exact Ur hx
 ·exact Aj (uH P) F.ab m k 0 hw x hx
theorem H6 {a b:Nat}(ha:a<2)(hb:b<3)(hn:P.nm=(mkS a b).nm)(F:eN P (mkT a b)):lu P:=by
 refine⟨F.ab,fun k hk=>?_⟩
 rw[hn]
 have:=fR.mp (fR.mp (fR.mp a1I a (kQ.mpr ha)) b (kQ.mpr hb)) k (kQ.mpr hk)
 exact of_decide_eq_true this
theorem JD {a b:Nat}(ha:a<2)(hb:b<3)(hn:P.nm=(mkS a b).nm)(hab:P.ab=(mkS a b).ab):xR P (mkT a b):=by
 have F:=Ip ha hb hn hab
 have H:=H6 ha hb hn F
 have ll:∀k,k<7→(P.letter k).length≤1000:=fun k hk=>wQ F hk
 have K:=fun st=>pD H st (mkT a b) P.came 0 F.fit F.root (by have:=F.ht;exact Uk this) (by rw[F.root];exact zq H st) ll
 have hs:=Ih ha hb
 have hs':=hs
 simp only[mL,j3,decide_eq_true_eq,fR] at hs'
 obtain ⟨_,_,_,_,_,h6,h7⟩:=hs'
 have G:Grd P (mkT a b):=⟨F,h6,h7,fun st=>(K st).2.1,ll⟩
 obtain ⟨s1,s2⟩:=Ax P.letter hs
 exact⟨F.nm,F.ab,F.nl,F.far,fun k hk=>Du F hk,ll,⟨F.root,F.ht,F.size,fun st=>oF F st,F.tree,fun st=>(K st).1,⟨_,fun st=>(K st).2.2,s1,s2⟩,fun k hk=>zH F hk⟩,F.fit,Ey G,GD G,I3 G,GQ G⟩
theorem Dr (script:List Int):∃t,xR (vA script) t:=by
 obtain ⟨a,b,ha,hb,hn,hab⟩:=six (4+cellAt script 0)
 exact⟨mkT a b,JD ha hb hn hab⟩
end
end
section
open PySem PySem.W PySem.W.X PyProof.Rows
noncomputable abbrev cut (K:Frag):Frag:=K.filter fun p=>p.1 != 61
theorem Zx:∀(K:Frag) (a:Addr),(cut K).lookup a=if a=61 then none else K.lookup a
 | [],a=>by simp[cut]
 |(b,o)::K,a=>by
  have ih:=Zx K a
  unfold cut at ih ⊢
  rw[t9]
  by_cases hb:b=61
  ·subst hb
   rw[if_neg (by simp),ih]
   by_cases ha:a=61
   ·rw[if_pos ha,if_pos ha]
   ·rw[if_neg ha,if_neg ha,fF,show(a==61)=false from by simpa using ha]
  ·rw[if_pos (by simpa using hb),fF,fF]
   by_cases q:a=b
   ·subst q
    rw[if_neg hb];simp
   ·rw[show(a==b)=false from by simpa using q]
    exact ih
theorem Jk {K:Frag}{h:Heap}(X:K.In h):(cut K).In h:=fun a o e=>by
 rw[Zx] at e
 split at e
 ·exact YD e
 ·exact X a o e
theorem Jl {K:Frag}{a:Addr}{o:Obj}(e:(cut K).lookup a=some o):a≠61:=fun q=>by rw[Zx,if_pos q] at e;exact YD e
noncomputable def Nk (v:bX):Option {a // v=.ref a}:=by
 cases v<;>first|exact some ⟨_,rfl⟩|exact none
noncomputable def fdO (v:Data):Option {a // v=.func a}:=by
 cases v<;>first|exact some ⟨_,rfl⟩|exact none
noncomputable def vsO (v:Data):Option {a // v=.fields a}:=by
 cases v<;>first|exact some ⟨_,rfl⟩|exact none
noncomputable def sqO (v:Data):Option {a:Array bX×Nat // v=.seq a.1 a.2}:=by
 cases v<;>first|exact some ⟨(_,_),rfl⟩|exact none
noncomputable def W5 (v:bX):Option {a:Str×UN // v=.str a.1 a.2}:=by
 cases v<;>first|exact some ⟨(_,_),rfl⟩|exact none
noncomputable def Wg (v:bX):Option {a:Int×UN // v=.int a.1 a.2}:=by
 cases v<;>first|exact some ⟨(_,_),rfl⟩|exact none
noncomputable def Ny (v:bX):Option {a // v=.bool a}:=by
 cases v<;>first|exact some ⟨_,rfl⟩|exact none
theorem neT {a b:Nat}(h:(a != b)=true):¬a=b:=bne_iff_ne.mp h
inductive FnP (K:Frag)(f:Addr)(cl:bX)(fd:FuncData):Prop
 |mk (o:Obj) (c:Addr) (oc:Obj) (vs:Array bX) (t:UN) (nx:¬f=61) (e1:K.lookup f=some o) (e2:o.cls=cl) (e3:o.data=.func fd) (e12:fd.code=.ref c) (e13:¬c=61) (e14:K.lookup c=some oc) (e15:oc.data=.fields vs) (e16:vs[1]?=some (.str fd.qualname t))
noncomputable def O3 (K:Frag)(f:Addr):Option {r:bX×FuncData // FnP K f r.1 r.2}:=
 (yo (K.lookup f)).bind fun o=>(fdO o.1.data).bind fun fd=>(Nk fd.1.code).bind fun c=>(yo (K.lookup c.1)).bind fun oc=>(vsO oc.1.data).bind fun vs=>(yo vs.1[1]?).bind fun nm=>(W5 nm.1).bind fun x=>
 (sure (x.1.1==fd.1.qualname)).bind fun h=>(sure (f != 61)).bind fun h1=>(sure (c.1 != 61)).map fun h2=>
 ⟨(o.1.cls,fd.1),⟨o.1,c.1,oc.1,vs.1,x.1.2,neT h1.1,o.2,rfl,fd.2,c.2,neT h2.1,oc.2,vs.2,eqT (x:=x.1.1) (y:=fd.1.qualname) (P:=fun y=>vs.1[1]?=some (.str y x.1.2)) (nm.2.trans (congrArg some x.2)) h.1⟩⟩
noncomputable def Jw (K:Frag)(f:Addr):Option ((bX×Arguments×FuncBody×Scope)×(Addr×List (Str×Addr)×bX×bX×Addr)):=
 (O3 K f).map fun r=>((r.1.1,r.1.2.params,r.1.2.body,r.1.2.scope),(r.1.2.globals,r.1.2.closure,r.1.2.defaults,r.1.2.kwdefaults,r.1.2.builtins))
noncomputable def Jv (x:Arguments×List Stmt×Scope):(bX×Arguments×FuncBody×Scope)×(Addr×List (Str×Addr)×bX×bX×Addr):=
 ((.type "function",x.1,.stmts x.2.1,x.2.2),(mainGlobals,[],.none,.none,A2))
noncomputable def WN (K:Frag)(a:Addr)(code:List Nat):Option (PLift (∀h:Heap,K.In h→gn (fun x=>x=61) h a code)):=
 (yo (K.lookup a)).bind fun o=>(tyO o.1.cls).bind fun c=>(sure o.1.dict.isNone).bind fun d=>(vsO o.1.data).bind fun fs=>(Nk (fs.1.getD 5 .none)).bind fun t=>(yo (K.lookup t.1)).bind fun q=>(tyO q.1.cls).bind fun c'=>(sure q.1.dict.isNone).bind fun d'=>(sqO q.1.data).bind fun it=>(sure (q.1.slots.size==0)).bind fun sl=>
 (sure (c.1=="re.Pattern")).bind fun g1=>(sure (c'.1=="tuple")).bind fun g2=>(sure (a != 61)).bind fun g3=>(sure (t.1 != 61)).bind fun g4=>(sure (ED (fs.1.getD 2 .none)==0)).bind fun g5=>(sure (ED (fs.1.getD 6 .none)==0)).bind fun g6=>
 (sure ((it.1.1.map PV).map (fun x=>x.toNat)==code.toArray)).map fun g7=>
 ⟨fun h X=>⟨o.1,fs.1,t.1,it.1.1,it.1.2,neT g3.1,X _ _ o.2,eqT (P:=fun y=>o.1.cls=.type y) c.2 g1.1,EE.mp d.1,fs.2,t.2,neT g4.1,
  X _ _ (q.2.trans (congrArg some (Fy (eqT (P:=fun y=>q.1.cls=.type y) c'.2 g2.1) (EE.mp d'.1) it.2 (qo (beq_iff_eq.mp sl.1))))),beq_iff_eq.mp g7.1,beq_iff_eq.mp g5.1,beq_iff_eq.mp g6.1⟩⟩
noncomputable abbrev my (K:Frag)(a:Addr)(code:List Nat):Bool:=(WN K a code).isSome
theorem zX {K:Frag}{h:Heap}(X:K.In h){a:Addr}{code:List Nat}(e:my K a code=true):gn (fun x=>x=61) h a code:=((WN K a code).get e).1 h X
inductive J2 (K:Frag):Prop
 |mk (o:Obj) (fd:FuncData) (oc:Obj) (vc:Array bX) (file:Str) (tf:UN) (flags:Int) (tg:UN) (inF:Bool) (text:Int) (tt:UN) (e1:K.lookup 66=some o) (e2:o.data=.func fd) (e3:fd.code=.ref 65) (e4:K.lookup 65=some oc) (e5:oc.cls=.type "code") (e6:oc.data=.fields vc) (e7:vc[11]?=some (.ref PT))
  (e8:vc.getD 18 .none=.str file tf) (e9:vc.getD 7 .none=.int flags tg) (e10:vc.getD 9 .none=.bool inF) (e11:vc.getD 10 .none=.int text tt)
noncomputable def Jj (K:Frag):Option (PLift (J2 K)):=(yo (K.lookup 66)).bind fun o=>(fdO o.1.data).bind fun fd=>(Nk fd.1.code).bind fun c=>(yo (K.lookup 65)).bind fun oc=>(tyO oc.1.cls).bind fun t=>(vsO oc.1.data).bind fun vc=>(yo vc.1[11]?).bind fun v=>(Nk v.1).bind fun p=>
 (W5 (vc.1.getD 18 .none)).bind fun q=>(Wg (vc.1.getD 7 .none)).bind fun r=>(Ny (vc.1.getD 9 .none)).bind fun b=>(Wg (vc.1.getD 10 .none)).bind fun z=>(sure (c.1==65)).bind fun g1=>(sure (t.1=="code")).bind fun g2=>(sure (p.1==61)).map fun g3=>
 ⟨o.1,fd.1,oc.1,vc.1,q.1.1,q.1.2,r.1.1,r.1.2,b.1,z.1.1,z.1.2,o.2,fd.2,eqT (P:=fun y=>fd.1.code=.ref y) c.2 g1.1,oc.2,eqT (P:=fun y=>oc.1.cls=.type y) t.2 g2.1,vc.2,v.2.trans (congrArg some (eqT (P:=fun y=>v.1=.ref y) p.2 g3.1)),q.2,r.2,b.2,z.2⟩
noncomputable abbrev sV (K:Frag):Bool:=(Jj K).isSome
theorem code_at {K:Frag}(e:sV K=true):J2 K:=((Jj K).get e).1
noncomputable def Gu (K:Frag):Option {t // UH K mainGlobals (af "CRLF")=some (some (.str (af "\r\n") t))}:=
 (yo (UH K mainGlobals (af "CRLF"))).bind fun v=>(yo v.1).bind fun u=>(W5 u.1).bind fun x=>(sure (x.1.1==af "\r\n")).map fun g=>
 ⟨x.1.2,v.2.trans (congrArg some (u.2.trans (congrArg some (eqT (P:=fun y=>u.1=.str y x.1.2) x.2 g.1))))⟩
structure KFacts (K:Frag):Prop where
 a3B:Zo.map (fun p=>UH K mainGlobals p.1)=Zo.map fun p=>some (some p.2)
 crlf:(Gu K).isSome=true
 a5f:Z8.map (fun p=>UH K mainGlobals p.1)=Z8.map fun Z=>some none
 boot:Z8.map (fun p=>Na p.1)=Z8.map fun p=>some p.2
 own:Z8.all (fun p=>p.1 != af "__name__")=true
 fns:Zd.map (fun p=>Jw K p.1)=Zd.map fun p=>some (Jv p.2)
 a0s:jG (cut K)
 code:sV K=true
 p1:my K 78 P1=true
 p2:my K 139 P2=true
 p3:my K 144 P3=true
 tab:K.lookup 61=some (tableObj #[])
 law:UH K mainGlobals (af "law")=some (some (.ref 221))
theorem gC {α β:Type}{f g:α→β}:∀{l:List α},l.map f=l.map g→∀x∈l,f x=g x
 |y::l,e,x,hx=>by
  rw[dc,dc] at e
  injection e with e1 e2
  rcases dP.mp hx with rfl|hx
  ·exact e1
  ·exact gC e2 x hx
theorem iB {α:Type}:∀{l:List (Nat×α)} {n:Nat} {c:α},l.lookup n=some c→(n,c)∈l
 |(k,v)::r,n,c,h=>by
  rw[fF] at h
  cases hb:n==k with
  |true=>rw[hb] at h;obtain rfl:=aI h;rw[beq_iff_eq.mp hb];exact ay
  |false=>rw[hb] at h;exact bE _ (iB h)
theorem O4 {K:Frag}{h:Heap}(KX:K.In h)(F:KFacts K){f:Addr}{x:Arguments×List Stmt×Scope}(e:Zd.lookup f=some x):FnAt (fun x=>x=61) h f x.1 x.2.1 x.2.2:=by
 obtain ⟨⟨r,o,c,oc,vs,t,nx,e1,e2,e3,e12,e13,e14,e15,e16⟩,_,q⟩:=iF.mp (gC F.fns _ (iB e))
 exact⟨o,r.2,c,oc,vs,t,nx,KX _ _ e1,e2.trans (congrArg (fun x=>x.1.1) q),e3,congrArg (fun x=>x.1.2.1) q,congrArg (fun x=>x.1.2.2.1) q,congrArg (fun x=>x.1.2.2.2) q,congrArg (fun x=>x.2.1) q,congrArg (fun x=>x.2.2.1) q,congrArg (fun x=>x.2.2.2.1) q,congrArg (fun x=>x.2.2.2.2.1) q,congrArg (fun x=>x.2.2.2.2.2) q,e12,e13,KX _ _ e14,e15,e16⟩
end
section
open PySem PySem.W PySem.W.X PyProof.Rows
section
variable {w:gp}{s:aE}{K:Frag}{mg mb:Str→Option bX}
theorem Af (KX:K.In s.heap)(F:KFacts K):s.heap.get? 61=some (tableObj #[]):=KX _ _ F.tab
theorem N5 (KX:K.In s.heap)(F:KFacts K):Z6 (fun x=>x=61) s:=
 ⟨rfl,⟨⟨#[],trivial⟩,Af KX F⟩,fun a e=>⟨tableObj #[],e▸Af KX F⟩⟩
theorem Gh (KX:K.In s.heap)(F:KFacts K)(hb:s.heap.Ns A2 mb)(hn:s.heap.NoLimit)(hbb:∀x:Str,x≠"__name__"→mb x=Na x)
  (hm:∃bm ob,BMod s.heap mainGlobals mg bm ob) (more:∀s':aE,(∀a o,s.heap.get? a=some o→a≠61→s'.heap.get? a=some o)→By w s'):Base w (fun x=>x=61) s.heap:=by
 obtain ⟨bm,ob,M⟩:=hm
 have hg:=M.ns
 refine⟨?_,⟨mb,by decide,hb,fun p hp=>?_⟩,⟨by decide,hn⟩,fun f x e=>O4 KX F e,⟨cut K,F.a0s,Jk KX,fun a o e=>Jl e⟩,⟨mg,bm,ob,by decide,fun q=>?_,M⟩,?_,
  fun s' k=>more s' k,zX KX F.p1,zX KX F.p2,zX KX F.p3⟩
 ·let t:=(Gu K).get F.crlf
  exact⟨mg,t.1,by decide,hg,fun p hp=>mg_of KX hg (gC F.a3B p hp),mg_of KX hg t.2,fun p hp=>mg_none_of KX hg (gC F.a5f p hp)⟩
 ·have h1:=fR.mp F.own p hp
  simp only[bne_iff_ne,ne_eq] at h1
  exact(hbb _ h1).trans (gC F.boot p hp)
 ·have h1:=M.obj
  rw[q,Af KX F] at h1
  have h2:=M.cls
  obtain rfl:=aI h1
  cases h2
 ·obtain ⟨o,fd,oc,vc,file,tf,flags,tg,inF,text,tt,e1,e2,e3,e4,e5,e6,e7,e8,e9,e10,e11⟩:=code_at F.code
  exact⟨by decide,by decide,o,fd,oc,vc,file,tf,flags,tg,inF,text,tt,KX _ _ e1,e2,e3,KX _ _ e4,e5,e6,e7,e8,e9,e10,e11⟩
theorem Ho {s':aE}(KX:K.In s.heap)(F:KFacts K)(u:Pu s s'):OldK s.heap s'.heap:=by
 obtain ⟨⟨vs,_⟩,hv⟩:=u.tab ⟨⟨#[],trivial⟩,Af KX F⟩
 refine⟨fun b o e=>?_,fun b o e=>?_⟩
 ·by_cases hb:b=61
  ·subst hb
   rw[Af KX F] at e
   obtain rfl:=aI e
   obtain ⟨_,_,oc,vc,_,_,_,_,_,_,_,_,_,_,e4,e5,e6,e7,_⟩:=code_at F.code
   exact .inr (.inl ⟨⟨65,oc,vc,KX _ _ e4,e5,e6,e7⟩,rfl,#[],vs,rfl,by rw[Array.empty_append];exact hv⟩)
  ·exact .inl (u.heap b o e hb)
 ·by_cases hb:b=61
  ·subst hb;exact⟨_,hv⟩
  ·exact⟨o,u.heap b o e hb⟩
theorem zb {h:Heap}{X:Addr→Prop}{vs:List bX}{ns:List Int}(r:IntsAre vs ns):aX w h X (ns.map .int) vs:=by
 induction r with
 |nil=>exact .nil
 |cons n t _ ih=>exact .cons cI ih
theorem Cz {c:ClaimW}{cl:Str→Option Addr}{mean:ExcName→Option bX}{args:List WData}{s':aE}(KX:K.In s.heap)(F:KFacts K)(hg:F5 s.gens)(u:Pu s s')(hr:∀cls,c.raises args cls=false)(hp:c.post args (.bool true) args=true):
  GoodWG c cl mean args s (.ok (.ret (.bool true))) s':=
 ⟨.inl ⟨_,_,[],rfl,hr,ReadsW.bool true,hp,fun Z=>⟨JO,fun Z hm=>(nomatch hm)⟩⟩,Ho KX F u,u.os,u.gens hg⟩
end
end
section
open PySem PySem.W PySem.W.X PyProof.Rows
section
variable {w:gp}{s:aE}{K:Frag}{mg mb:Str→Option bX}
theorem J0 {h:Heap}{G:Prop}(KX:K.In h)(F:KFacts K)(k:KFacts K→G):G:=k F
theorem join (KX:K.In s.heap)(F:KFacts K)(hb:s.heap.Ns A2 mb)(hn:s.heap.NoLimit)(hbb:∀x:Str,x≠"__name__"→mb x=Na x)
  (hm:∃bm ob,BMod s.heap mainGlobals mg bm ob) (more:∀s':aE,(∀a o,s.heap.get? a=some o→a≠61→s'.heap.get? a=some o)→By w s') {a:Addr} (ha:a≠61) {its:List bX} {ns:List Int} (ho:s.heap.get? a=some {cls:=.type "list",data:=.seq its.toArray})
  (hi:IntsAre its ns) (hl:ns.length≤63) {Q E:bX→aE→Prop} (hQ:∀s',Pu s s'→Q (.bool true) s'):cE (cS PW w) callerA (call (.ref 221) [.ref a]) Q E s:=by
 obtain ⟨t,ht⟩:=Dr ns
 refine Ds (n:=0) ⟨rfl,by decide +kernel,by decide +kernel⟩ rfl (N5 KX F) (Gh KX F hb hn hbb hm more) (script:=ns) (by rw[c9];exact Vp hl) (.one ?_) ht hQ
 exact⟨a,its.toArray,rfl,⟨_,ho⟩,ha,by simpa using zb hi⟩
end
end
section
open PySem PySem.W PySem.W.X PySem.W.XRun PyProof.Rows
noncomputable def Jz (c:Str)(l:List Stmt):Option (Arguments×List Stmt×Scope):=l.findSome? fun s=>(clsOf s).bind fun x=>if x.1==c then Ft (af "__init__") x.2 else none
noncomputable def iy (c:String):Arguments×List Stmt×Scope:=(Jz (af c) PW.main.body).getD nE
noncomputable def a3N:Str:=⟨#[105,109,112,111,114,116,46,108,111,97,100,101,100,46,95,115,114,101]⟩
noncomputable def a2D:Str:=⟨#[119,97,116,99,104,101,100,46,105,109,112,111,114,116]⟩
noncomputable def a2C:Str:=⟨#[105,109,112,111,114,116,46,108,97,116,101,114,45,108,97,105,100,46,95,115,114,101]⟩
noncomputable def K11 (P:U1):Frag:=[
 (nat_lit 2,{cls:=.none,data:=.dict #[{hash:=fN P a3N,key:=.str a3N 183,val:=.bool true},{hash:=fN P (af "class._frozen_importlib.BuiltinImporter"),key:=.str (af "class._frozen_importlib.BuiltinImporter") 185,val:=.ref 14},{hash:=fN P a2D,key:=.str a2D 206,val:=.ref 18},{hash:=fN P (af "class._frozen_importlib.ModuleSpec"),key:=.str (af "class._frozen_importlib.ModuleSpec") 216,val:=.ref 22},{hash:=fN P (af "sys.modules.booked-epoch"),key:=.str (af "sys.modules.booked-epoch") 245,val:=.int 3 0},{hash:=fN P a2C,key:=.str a2C 270,val:=.bool true},{hash:=fN P (af "watched.library"),key:=.str (af "watched.library") 272,val:=.ref 27},{hash:=fN P (af "watched.library-objects"),key:=.str (af "watched.library-objects") 0,val:=.str (⟨⟨[12]⟩⟩:Str) 0},{hash:=fN P (af "watched.library-deep._sre"),key:=.str (af "watched.library-deep._sre") 273,val:=.str (⟨⟨[4,0,0,11,4,0,0,11,4,0,0,3,4,0,0,11,8,4,100,105,99,116,2]⟩⟩:Str) 0},{hash:=fN P (af "type.__subclasses__.OSError.0"),key:=.str (af "type.__subclasses__.OSError.0") 522,val:=.int 154 0},{hash:=fN P (af "type.__subclasses__.OSError.n"),key:=.str (af "type.__subclasses__.OSError.n") 523,val:=.int 1 0}] 11}),
 (nat_lit 44,{cls:=.type "code",data:=.fields #[.str (af "__init__") 296,.str (af "TupleComp.__init__") 297,.str (af "/claim/cut.py") 298,.int 5 0,.int 2 0,.int 0 0,.int 0 0,.int 3 0,.ref 39,.bool true,.int 276 0,.ref 40,.none,.ref 41,.ref 42,.ref 43,.int 301 0,.int 5 0,.str (af "/claim/cut.py") 302]}),
 (nat_lit 45,{cls:=.type "function",data:=.func {name:=(af "__init__"),qualname:=(af "TupleComp.__init__"),params:=(iy "TupleComp").1,body:=.stmts (iy "TupleComp").2.1,scope:=(iy "TupleComp").2.2,globals:=3,closure:=[],defaults:=.none,kwdefaults:=.none,pyModule:=.str (af "cpy313.pstats") 282,code:=.ref 44}}),
 (nat_lit 54,{cls:=.type "dict",data:=.dict #[{hash:=fN P (af "__module__"),key:=.str (af "__module__") 291,val:=.str (af "cpy313.pstats") 282},{hash:=fN P (af "__firstlineno__"),key:=.str (af "__firstlineno__") 295,val:=.int 3 294},{hash:=fN P (af "__init__"),key:=.str (af "__init__") 303,val:=.ref 45},{hash:=fN P (af "compare"),key:=.str (af "compare") 316,val:=.ref 52},{hash:=fN P (af "__static_attributes__"),key:=.str (af "__static_attributes__") 318,val:=.ref 53},{hash:=fN P (af "__dict__"),key:=.str (af "__dict__") 320,val:=.ref 56},{hash:=fN P (af "__weakref__"),key:=.str (af "__weakref__") 322,val:=.ref 57},{hash:=fN P (af "__doc__"),key:=.str (af "__doc__") 323,val:=.none}] 4}),
 (nat_lit 55,{cls:=.type "type",data:=.cls {name:=(af "TupleComp"),bases:=[.type "object"],mro:=[.ref 55,.type "object"],ns:=54,qualname:=(af "TupleComp")},slots:=#[none,none,some (.str (af "TupleComp") 284),some (.str (af "TupleComp") 292),some (.builtin "object.__new__"),some (.bool true)]}),
 (nat_lit 153,{cls:=.type "dict",data:=.dict #[{hash:=fN P (af "__module__"),key:=.str (af "__module__") 513,val:=.str (af "cpy313.smtplib") 444},{hash:=fN P (af "__firstlineno__"),key:=.str (af "__firstlineno__") 517,val:=.int 76 516},{hash:=fN P (af "__static_attributes__"),key:=.str (af "__static_attributes__") 518,val:=.ref 152},{hash:=fN P (af "__weakref__"),key:=.str (af "__weakref__") 520,val:=.ref 155},{hash:=fN P (af "__doc__"),key:=.str (af "__doc__") 521,val:=.none}] 3}),
 (nat_lit 154,{cls:=.type "type",data:=.cls {name:=(af "SMTPException"),bases:=[.type "OSError"],mro:=[.ref 154,.type "OSError",.type "Exception",.type "BaseException",.type "object"],ns:=153,qualname:=(af "SMTPException"),subclasses:=[.ref 174]},slots:=#[some (.ref 145),none,some (.str (af "SMTPException") 506),some (.str (af "SMTPException") 514),some (.builtin "OSError.__new__"),some (.bool true)]}),
 (nat_lit 170,{cls:=.type "code",data:=.fields #[.str (af "__init__") 538,.str (af "SMTPRecipientsRefused.__init__") 539,.str (af "/claim/cut.py") 540,.int 80 0,.int 2 0,.int 0 0,.int 0 0,.int 3 0,.ref 165,.bool true,.int 276 0,.ref 166,.none,.ref 167,.ref 168,.ref 169,.int 543 0,.int 80 0,.str (af "/claim/cut.py") 544]}),
 (nat_lit 171,{cls:=.type "function",data:=.func {name:=(af "__init__"),qualname:=(af "SMTPRecipientsRefused.__init__"),params:=(iy "SMTPRecipientsRefused").1,body:=.stmts (iy "SMTPRecipientsRefused").2.1,scope:=(iy "SMTPRecipientsRefused").2.2,globals:=3,closure:=[],defaults:=.none,kwdefaults:=.none,pyModule:=.str (af "cpy313.smtplib") 444,code:=.ref 170}}),
 (nat_lit 173,{cls:=.type "dict",data:=.dict #[{hash:=fN P (af "__module__"),key:=.str (af "__module__") 533,val:=.str (af "cpy313.smtplib") 444},{hash:=fN P (af "__firstlineno__"),key:=.str (af "__firstlineno__") 537,val:=.int 78 536},{hash:=fN P (af "__init__"),key:=.str (af "__init__") 545,val:=.ref 171},{hash:=fN P (af "__static_attributes__"),key:=.str (af "__static_attributes__") 548,val:=.ref 172},{hash:=fN P (af "__doc__"),key:=.str (af "__doc__") 549,val:=.none}] 2}),
 (nat_lit 174,{cls:=.type "type",data:=.cls {name:=(af "SMTPRecipientsRefused"),bases:=[.ref 154],mro:=[.ref 174,.ref 154,.type "OSError",.type "Exception",.type "BaseException",.type "object"],ns:=173,qualname:=(af "SMTPRecipientsRefused")},slots:=#[some (.ref 158),none,some (.str (af "SMTPRecipientsRefused") 526),some (.str (af "SMTPRecipientsRefused") 534),some (.builtin "OSError.__new__"),some (.bool true)]})]
noncomputable def q9 (K:Frag)(a:Addr):Obj:=(K.lookup a).getD ⟨.none,none,.plain,#[]⟩
noncomputable def fdOf (o:Obj):FuncData:=match o.data with
 | .func fd=>fd
 |_=>nE
theorem N6 {α:Type}{P:α→Prop}[DecidablePred P]{l:List α}(h:(l.all fun x=>decide (P x))=true):∀x∈l,P x:=fun x hx=>of_decide_eq_true (fR.mp h x hx)
noncomputable def yl (o:Obj):ClassData:=match o.data with
 | .cls c=>c
 |_=>nE
theorem Cp {o:Obj}{cd:ClassData}(e:o.data=.cls cd):∃oc od sl,o=⟨oc,od,.cls cd,sl⟩:=by
 obtain ⟨oc,od,dd,sl⟩:=o
 cases e
 exact⟨_,_,_,rfl⟩
theorem a1X:OG "OSError.__new__"=some .builtinFn:=by decide +kernel
theorem a1x:splitId "OSError.__new__"=some ("OSError","__new__"):=by decide +kernel
theorem a1w:IJ TA "OSError.__new__"=some A9.«OSError.__new__»:=yi (by kernel_rfl)
noncomputable def a4p:Manifest.Signature:=⟨.constructor,"*","OSError",.cls,[⟨"args",.varPos,false⟩]⟩
theorem a2w:Manifest.signature? "OSError.__new__"=some a4p:=by kernel_rfl
noncomputable def ZM:Obj:={cls:=.type "tuple",data:=.seq #[]}
noncomputable def gA (a:Addr):Obj:={cls:=.ref 174,data:=.fields (#[.ref a,.none,.none,.none,.bool false,.none]++Nc)}
theorem Mh {w:gp}{A:Around}{h:Heap}{g:Array NY}{d:UE}{t:Nat}{os:PY}{oc:bX}{od:Option Addr}{sl:Array (Option bX)}{cd:ClassData}{td:Addr}{R:DO→aE→Prop}
  (hC:h.get? 174=some ⟨oc,od,.cls cd,sl⟩) (e1:cd.abstract=false) (e2:cd.hasDel=false) (made:AA (cS PW w) h (OH (.ref 174)) (some "OSError.__new__")) (bas:AA (cS PW w) h (HV (.ref 174)) (.ref 174))
  (sub:AA (cS PW w) h (GY (.ref 174) (.type "OSError")) true) (hi:AA (cS PW w) h (IM (.ref 174) "__init__") (some (.ref 171)))
  (hq:R (.ok (.ret (.ref (h.objs.size+1)))) ⟨(h.push ZM).push (gA h.objs.size),g,d,t,os⟩) :
  A8 (cS PW w) A (.call (.builtin "OSError.__new__") ⟨[.ref 174,.ref td],[]⟩) R ⟨h,g,d,t,os⟩:=by
 refine codeAny_call_builtin_code (E4 _ (by decide +kernel)) ?_
 unfold checkBuiltinCall
 rw[a1X,a1x,a2w]
 have here:AA (cS PW w) h (Bind.madeHere "OSError.__new__" (.ref 174)) ():=bas.andThen (made.andThen (LJ (by simp only[zo,bne_self_eq_false,fh,if_false])))
 repeat lk
 refine wm a1w ?_
 unfold A9.«OSError.__new__»
 repeat lk
 refine nd_load (b6 _ (b6 _ hC)) ?_
 repeat lk
 rw[e2]
 repeat lk
 show R _ _
 rw[kq]
 exact hq
theorem JG {w:gp}{h:Heap}(KY:(K11 w.params).In h):AA (cS PW w) h (mroOf (.ref 174)) [.ref 174,.ref 154,.type "OSError",.type "Exception",.type "BaseException",.type "object"]:=(OI KY (cd:=yl (q9 (K11 w.params) 174)) (by kernel_rfl)).andThen (LJ (by kernel_rfl))
theorem zO {w:gp}{A:Around}{h:Heap}{g:Array NY}{d:UE}{t:Nat}{os:PY}(KY:(K11 w.params).In h){x:Addr}{ox:Obj}{nm:Str}{u:bX}{r:Option bX}(hx:h.get? x=some ox)(hc:ox.cls=.ref 174){Q:Unit→aE→Prop}{E:bX→aE→Prop}
  (hl:JA (K11 w.params) (.ref 174) nm=some r) (hr:AA (cS PW w) h (Nd r) r)
  (hq:∀A b tk,cE (cS PW w) A (match r with|some a=>B4 a (.ref x) u|none=>BO (.ref x) (.ref 174) (.str nm tk) nm u b)
   (fun fin s'=>match fin with|PySem.Fin.done (.ret _)=>Q () s'|_=>False) (fun e s'=>E e s') ⟨h,g,d,t+1,os⟩) :
  cE (cS PW w) A (setAttr (.ref x) nm u) Q E ⟨h,g,d,t,os⟩:=by
 have ty:AA (cS PW w) h (JE (.ref x)) (.ref 174):=(IL hx).andThen (by rw[hc];exact .now)
 refine ah (N4 (ah (ah (ah (ty _ _ _ _ (fun Z Z e=>e) (Cc KY (r:=some (.builtin "object.__setattr__")) (by kernel_rfl) _ _ _ _ (fun Z Z e=>e) (fT ?_)))))))
 rw[IZ.slot.bind]
 refine ah (bg (ah (AW ?_)))
 have SF:=IZ
 have sub:AA (cS PW w) h (AX (.ref x) (.type "object")) true:=ty.andThen (AN KY (by kernel_rfl))
 refine Au SF.slot.plain SF.entry (@Mk (cS PW w) _ _ _ "object.__setattr__" "object" "__setattr__" (.ref x) [.str nm t,u] [] _ SF.kind SF.split sub (SF.args (.ref x) (.str nm t) u) ?_)
 show cE _ _ (A9.«object.__setattr__» ⟨[.ref x,.str nm t,u],[]⟩) _ _ _
 rw[osa_eq,refuse_eq]
 refine ah (ah (ty.here (ah ((JG KY).here ?_))))
 rw[show refuseLoop (.ref x) "__setattr__" [.ref 174,.ref 154,.type "OSError",.type "Exception",.type "BaseException",.type "object"]=AS () from by kernel_rfl]
 refine bg (ah (ty.here (ah ((Cc KY hl).here (ah (hr.here ?_))))))
 refine qA (hq _ r.isSome t) (fun fin s' z=>?_) fun Z Z e=>e
 rcases fin with (v|_|_|_)|_<;>first|exact z.elim|exact bg (bg z)
noncomputable abbrev nmR:Str:=af "recipients"
noncomputable def Ai (P:U1)(tk:UN)(td:Addr):Obj:=⟨.type "dict",none,.dict #[⟨fN P nmR,.str nmR tk,.ref td⟩] 1,#[]⟩
theorem Ib {w:gp}{A:Around}{h:Heap}{g:Array NY}{d:UE}{t:Nat}{os:PY}(KY:(K11 w.params).In h){x tt td:Addr}(hx:h.get? x=some (gA tt)){Q:Unit→aE→Prop}{E:bX→aE→Prop}
  (hq:∀dx h' t' tk,(∀a o,h.get? a=some o→a≠x→h'.get? a=some o)→h.get? dx=none→h'.get? x=some {gA tt with dict:=some dx}→h'.get? dx=some (Ai w.params tk td)→Q () ⟨h',g,d,t',os⟩) :
  cE (cS PW w) A (setAttr (.ref x) nmR (.ref td)) Q E ⟨h,g,d,t,os⟩:=by
 refine zO KY hx rfl (r:=none) (by kernel_rfl) .now fun A b tk=>?_
 have cd:=OI (M:=cS PW w) KY (C:=174) (cd:=yl (q9 (K11 w.params) 174)) (by kernel_rfl)
 have hd:(yl (q9 (K11 w.params) 174)).hasDict=true:=by kernel_rfl
 show cE _ _ (BO (.ref x) (.ref 174) (.str nmR tk) nmR (.ref td) b) _ _ _
 refine ah (bg (ah (ah (JY hx (ah (cd.here ?_))))))
 rw[hd]
 have D0:(h.push {cls:=.type "dict",data:=.dict #[]}).get? h.objs.size=some {cls:=.type "dict",data:=.dict #[]}:=ck _ rfl
 have X0:=b6 {cls:=.type "dict",data:=.dict #[]} hx
 have nd:h.get? h.objs.size=none:=by
  cases q:h.get? h.objs.size with
  |none=>rfl
  |some o=>exact absurd (eK q) (iE _)
 have K0:∀a o,h.get? a=some o→(h.push {cls:=.type "dict",data:=.dict #[]}).get? a=some o:=fun a o e=>b6 _ e
 have hne:x≠h.objs.size:=xy (eK hx)
 refine ah (wpAny_alloc ?_)
 generalize (h.push {cls:=.type "dict",data:=.dict #[]})=h1 at D0 X0 K0 ⊢
 generalize h.objs.size=dx at D0 nd hne ⊢
 refine ah (wpAny_update X0 ?_)
 have X1:(h1.update x fun o=>{o with dict:=some dx}).get? x=some {gA tt with dict:=some dx}:=k8 _ X0 rfl
 have D1:=(xE h1 _ _ (fun o=>{o with dict:=some dx}) (i7 hne)).trans D0
 have K1:∀a o,h.get? a=some o→a≠x→(h1.update x fun o=>{o with dict:=some dx}).get? a=some o:=fun a o e q=>(xE h1 _ _ _ q).trans (K0 a o e)
 show cE _ _ (AS (some dx)) _ _ ⟨h1.update x fun o=>{o with dict:=some dx},g,d,t+1,os⟩
 generalize (h1.update x fun o=>{o with dict:=some dx})=h2 at X1 D1 K1 ⊢
 refine bg ?_
 show cE _ _ (Nl dx (bX.str nmR tk) nmR (sf td)) _ _ _
 refine ah (bg (ah ?_))
 unfold nsSet
 refine ah (ah (NF (bg (ah (N4 (ah (JY D1 ?_)))))))
 refine wpAny_updatePart D1 ?_
 have D2:(h2.update dx (SS nmR (fN w.params nmR) (.str nmR (t+1)) (.ref td))).get? dx=some (Ai w.params (t+1) td):=k8 _ D1 rfl
 have X2:=(xE h2 _ _ (SS nmR (fN w.params nmR) (.str nmR (t+1)) (.ref td)) hne).trans X1
 refine ah (wpAny_lookBehind D2 (pastItsLine_dict (b9 rfl)) (bg ?_))
 exact hq dx _ _ _ (fun a o e q=>(xE h2 _ _ _ fun z=>by rw[z,nd] at e;exact YD e).trans (K1 a o e q)) nd X2 D2
theorem a1F:IJ TA "getset_descriptor.__set__"=some A9.«getset_descriptor.__set__»:=yi (by kernel_rfl)
theorem H4 (a b c:bX):RI "getset_descriptor.__set__" ⟨[a,b,c],[]⟩:=by unfold RI;kernel_rfl
theorem a2s:OG "getset_descriptor.__set__"=some .slot:=by decide +kernel
theorem a1G:splitId "getset_descriptor.__set__"=some ("getset_descriptor","__set__"):=by decide +kernel
theorem a1z:IJ TA "BaseException.args#set"=some A9.«BaseException.args#set»:=yi (by kernel_rfl)
theorem a3h:".".intercalate ("BaseException.args".cutAt '.').dropLast="BaseException":=by
 have e0:"BaseException.args".cutAt '.'=["BaseException","args"]:=by first|rfl|decide +kernel
 rw[e0];decide +kernel
theorem Em {w:gp}{A:Around}{h:Heap}{g:Array NY}{d:UE}{t:Nat}{os:PY}(KY:(K11 w.params).In h){x tt dx ta:Addr}(hx:h.get? x=some {gA tt with dict:=some dx})(ht:∃vs,Nr h ta vs){Q:Unit→aE→Prop}{E:bX→aE→Prop}
  (hq:∀h' t' vs,(∀a o,h.get? a=some o→a≠x→h'.get? a=some o)→h'.get? x=some ⟨.ref 174,some dx,.fields vs,#[]⟩→3<vs.size→vs[1]?=some .none→Q () ⟨h',g,d,t',os⟩) :
  cE (cS PW w) A (setAttr (.ref x) "args" (.ref ta)) Q E ⟨h,g,d,t,os⟩:=by
 refine zO KY hx rfl (r:=some (.builtin "BaseException.args")) (by kernel_rfl) ((looks_takesIn KY (r:=true) (by kernel_rfl)).andThen .now) fun A b tk=>?_
 have S:=PySem.F.slot_gs_set
 have hT:=looks_typeIn (M:=cS PW w) KY (v:=.builtin "BaseException.args") (t:=.type "getset_descriptor") (by kernel_rfl)
 have sub:=N3 (M:=cS PW w) KY (v:=.builtin "BaseException.args") (base:=.type "getset_descriptor") (r:=true) (by kernel_rfl)
 show cE _ _ (B4 (.builtin "BaseException.args") (.ref x) (.ref ta)) _ _ _
 refine ah (yT (ah (fT (ah (ah (hT.here ((LJ S.lookup).here (fT ?_))))))))
 rw[S.bind]
 refine ah (bg (ah (AW ?_)))
 refine Au S.plain a1F (@Mk (cS PW w) _ _ _ "getset_descriptor.__set__" "getset_descriptor" "__set__" (.builtin "BaseException.args") [.ref x,.ref ta] [] _ a2s a1G sub (H4 _ _ _) ?_)
 have t1:AA (cS PW w) h (JE (.ref x)) (.ref 174):=(IL hx).andThen .now
 have s1:AA (cS PW w) h (GY (.ref 174) (.type (".".intercalate ("BaseException.args".cutAt '.').dropLast))) true:=by rw[a3h];exact AN KY (by kernel_rfl)
 unfold A9.«getset_descriptor.__set__» Lc FL F4 FO AX
 repeat lk
 refine⟨E4 _ (by decide +kernel),?_⟩
 rw[show("BaseException.args"++"#set":String)="BaseException.args#set" from by decide +kernel]
 refine wm a1z ?_
 show cE _ _ (call (.type "tuple") [.ref ta] >>= _) _ _ _
 obtain ⟨vs,n,hv⟩:=ht
 refine ah (call_tuple_same (items:=vs) ⟨_,hv,rfl,n,rfl⟩ ?_)
 have f0:=looks_field (M:=cS PW w) hx 0 (v:=.ref tt) rfl
 refine ah (ah (f0.here (ah ?_)))
 show cE _ _ (updateField x 0 (.ref ta)) _ _ _
 refine ah (wpAny_load hx (wpAny_update hx ?_))
 show cE _ _ (letGo [.ref tt]) _ _ _
 refine ah (fT (wpAny_point (bg ?_)))
 refine bg (bg (bg ?_))
 exact hq _ _ _ (fun a o e q=>(xE h _ _ _ q).trans e) (k8 _ hx rfl) (b9 rfl) rfl
noncomputable def O2 (P:U1):FuncData:=fdOf (q9 (K11 P) 171)
theorem CV {w:gp}{h h2:Heap}{g:Array NY}{d:UE}{t:Nat}{os:PY}(KY:(K11 w.params).In h)(hn:h.NoLimit)(k:∀b o,h.get? b=some o→h2.get? b=some o)(sz:h.objs.size≤h2.objs.size){x tt td:Addr}
  (hx:h2.get? x=some (gA tt)) (nx:h.get? x=none) {Q E:bX→aE→Prop}
  (hQ:∀e dx h' t' vs,(∀a o,h.get? a=some o→h'.get? a=some o)→h.get? e=none→h.get? dx=none→e≠dx→ExcAt h' dx td→3<vs.size→vs[1]?=some .none→
   h'.get? e=some ⟨.ref 174,some dx,.fields vs,#[]⟩→Q (.ref e) ⟨h',g,d,t',os⟩) :
  A8 (cS PW w) ((Fg none).under (.builtin "type.__call__" ⟨[.ref 174,.ref td],[]⟩)) (.call (.ref 171) ⟨[.ref x,.ref td],[]⟩) (InitBack x fun r s'=>match r with | .ok (.ret v)=>Q v s' | .ok _=>False | .error e=>E e s') ⟨h2,g,d,t,os⟩:=by
 refine NU (fd:=O2 w.params) (body:=(iy "SMTPRecipientsRefused").2.1) (binds:=[(af "self",.ref x),(nmR,.ref td)]) (of_decide_eq_true (by kernel_rfl)) (k _ _ (KY 171 (q9 (K11 w.params) 171) (by kernel_rfl))) (by kernel_rfl) (hn.keeps k)
  (codeRec_of (K:=K11 w.params) (KY.keeps k) (by kernel_rfl)) (by kernel_rfl) (.of_eq (by kernel_rfl)) (N6 (P:=fun(x:Str×NameKind)=>x.2≠.cell) (by kernel_rfl)) (N6 (by kernel_rfl)) (fun h1 ns hk=>?_) (by kernel_rfl) (by kernel_rfl) (by kernel_rfl)
 have hb:(iy "SMTPRecipientsRefused").2.1=[.Assign [.Attribute (.Name (af "self") ⟨81,8,81,12⟩) nmR ⟨81,8,81,23⟩] (.Name nmR ⟨81,26,81,36⟩) ⟨81,8,81,36⟩,
  .Assign [.Attribute (.Name (af "self") ⟨82,8,82,12⟩) (af "args") ⟨82,8,82,17⟩] (.Tuple [.Name nmR ⟨82,21,82,31⟩] 0 ⟨82,20,82,33⟩) ⟨82,8,82,33⟩]:=by kernel_rfl
 rw[hb]
 refine AL (xh (A3 (jS (by kernel_rfl) (by kernel_rfl) ns (v:=.ref td) (by kernel_rfl) (A3 (jS (by kernel_rfl) (by kernel_rfl) ns (v:=.ref x) (by kernel_rfl) ?_) (by kernel_rfl))) (by kernel_rfl)) (by kernel_rfl))
 have K1:∀b o,h.get? b=some o→h1.get? b=some o:=fun b o e=>hk b o (k b o e)
 have neL:∀{b o},h2.get? b=some o→b≠h2.objs.size:=fun e=>xy (eK e)
 refine Ib (KY.keeps K1) (hk _ _ hx) fun dx h3 t3 tk k3 nd x3 d3=>?_
 have nxk:∀{b o},h.get? b=some o→b≠x:=fun e q=>by rw[q,nx] at e;exact YD e
 have K3:∀b o,h.get? b=some o→h3.get? b=some o:=fun b o e=>k3 b o (K1 b o e) (nxk e)
 have ns3:=zN ns fun o e=>k3 _ o e (i7 (neL hx))
 show cE _ _ (oz _ _) _ _ ⟨h3,g,d,t3,os⟩
 refine AL (xh (CU (iX (A3 (jS (by kernel_rfl) (by kernel_rfl) ns3 (v:=.ref td) (by kernel_rfl) (kC ⟨b9 rfl,?_⟩)) (by kernel_rfl)) rfl)) (by kernel_rfl))
 have K4:∀b o,h3.get? b=some o→(h3.push {cls:=.type "tuple",data:=.seq #[.ref td]}).get? b=some o:=fun b o e=>b6 _ e
 have T4:(h3.push {cls:=.type "tuple",data:=.seq #[.ref td]}).get? h3.objs.size=some {cls:=.type "tuple",data:=.seq #[.ref td]}:=ck _ rfl
 show cE _ _ _ _ _ ⟨h3.push {cls:=.type "tuple",data:=.seq #[.ref td]},g,d,t3,os⟩
 generalize (h3.push {cls:=.type "tuple",data:=.seq #[.ref td]})=h4 at K4 T4 ⊢
 refine A3 (jS (by kernel_rfl) (by kernel_rfl) (zN ns3 fun o e=>K4 _ _ e) (v:=.ref x) (by kernel_rfl) ?_) (by kernel_rfl)
 refine Em (KY.keeps fun b o e=>K4 b o (K3 b o e)) (K4 _ _ x3) ⟨_,_,T4⟩ fun h5 t5 vs k5 x5 s5 v5=>?_
 have ndh:h.get? dx=none:=by
  cases q:h.get? dx with
  |none=>rfl
  |some o=>rw[K1 _ _ q] at nd;cases nd
 have hne:x≠dx:=fun q=>by rw[←q,hk _ _ hx] at nd;cases nd
 refine dS ⟨rfl,?_⟩
 exact hQ x dx h5 t5 vs (fun b o e=>k5 b o (K4 b o (K3 b o e)) (nxk e)) nx ndh hne ⟨tk,_,_,k5 _ _ (K4 _ _ d3) (i7 hne)⟩ s5 v5 x5
theorem CW {w:gp}{s:aE}(KY:(K11 w.params).In s.heap)(hn:s.heap.NoLimit)(td:Addr)(Q E:bX→aE→Prop)
  (hQ:∀e dx h' t' vs,(∀a o,s.heap.get? a=some o→h'.get? a=some o)→s.heap.get? e=none→s.heap.get? dx=none→e≠dx→ExcAt h' dx td→3<vs.size→vs[1]?=some .none→
   h'.get? e=some ⟨.ref 174,some dx,.fields vs,#[]⟩→Q (.ref e) ⟨h',s.gens,s.drawn,t',s.os⟩):cE (cS PW w) (Fg none) (call (.ref 174) [.ref td]) Q E s:=by
 obtain ⟨h,g,d,t,os⟩:=s
 have hC:=KY 174 (q9 (K11 w.params) 174) (by kernel_rfl)
 obtain ⟨oc,od,sl,ho⟩:=Cp (o:=q9 (K11 w.params) 174) (cd:=yl (q9 (K11 w.params) 174)) (by kernel_rfl)
 have e1:(yl (q9 (K11 w.params) 174)).abstract=false:=by kernel_rfl
 have e2:(yl (q9 (K11 w.params) 174)).hasDel=false:=by kernel_rfl
 have e4:(yl (q9 (K11 w.params) 174)).mro.isEmpty=false:=by kernel_rfl
 have e3:(sl.toList[4]?).join=some (.builtin "OSError.__new__"):=by
  have:((q9 (K11 w.params) 174).slots.toList[4]?).join=some (.builtin "OSError.__new__"):=by kernel_rfl
  rw[ho] at this;exact this
 have e5:(yl (q9 (K11 w.params) 174)).mro=.ref 174::(yl (q9 (K11 w.params) 174)).mro.tail:=by kernel_rfl
 have hm:AA (cS PW w) h (mroOf (.ref 174)) (yl (q9 (K11 w.params) 174)).mro:=(OI KY (by kernel_rfl)).andThen .now
 have self:AA (cS PW w) h (GY (.ref 174) (.ref 174)) true:=AN KY (by kernel_rfl)
 have base:AA (cS PW w) h (GY (.ref 174) (.type "OSError")) true:=AN KY (by kernel_rfl)
 have call:=looks_specialIn (M:=cS PW w) KY (v:=.ref 174) (name:="__call__") (r:=some (.builtin "type.__call__")) (by kernel_rfl)
 have typ:=N3 (M:=cS PW w) KY (v:=.ref 174) (base:=.type "type") (r:=true) (by kernel_rfl)
 have hi:=Cc (M:=cS PW w) KY (t:=.ref 174) (name:="__init__") (r:=some (.ref 171)) (by kernel_rfl)
 rw[ho] at hC
 generalize yl (q9 (K11 w.params) 174)=cd at*
 have made:AA (cS PW w) h (OH (.ref 174)) (some "OSError.__new__"):=by
  intro A Q E s k q
  unfold OH
  refine ah (hm A _ E s k ?_)
  rw[e5,kK]
  refine ah (ah (ah (ah (JY (k _ _ hC) (bg ?_)))))
  dsimp only
  rw[←nt,e3]
  exact bg (bg (bg q))
 have bas:AA (cS PW w) h (HV (.ref 174)) (.ref 174):=by
  intro A Q E s k q
  unfold HV
  refine ah (hm A _ E s k ?_)
  rw[e5,kK]
  exact ah (ah (ah (made A _ E s k (bg (bg (bg q))))))
 refine AW (OR ?_)
 show cE _ _ (callAny (.ref 174) _) _ _ _
 refine nd_load hC ?_
 show cE _ _ (MO (.ref 174) _) _ _ _
 unfold MO
 refine ah (call.at ?_)
 dsimp only
 rw[tc_bind]
 refine ah (bg (ah (bg ?_)))
 refine bg (a:=Fin.again (.call (.builtin "type.__call__") ⟨[.ref 174,.ref td],[]⟩)) (av rfl ?_)
 refine codeAny_call_builtin_at (E4 _ (by decide +kernel)) entry_typeCall (Mk tc_kind tc_split typ (tc_args _ _ _) ?_)
 unfold A9.«type.__call__»
 repeat lk
 rw[e4]
 repeat (first|with_reducible refine AW ?_|lk)
 refine Mh hC e1 e2 made bas base hi ?_
 have k:∀b o,h.get? b=some o→((h.push ZM).push (gA h.objs.size)).get? b=some o:=fun b o e=>b6 _ (b6 _ e)
 have hx:((h.push ZM).push (gA h.objs.size)).get? (h.objs.size+1)=some (gA h.objs.size):=by heap_get
 have nx:h.get? (h.objs.size+1)=none:=by
  cases q:h.get? (h.objs.size+1) with
  |none=>rfl
  |some o=>exact absurd (eK q) (ow.mpr (C3 _))
 have sz:h.objs.size≤((h.push ZM).push (gA h.objs.size)).objs.size:=by rw[kq,kq];exact f5 _ 2
 generalize ((h.push ZM).push (gA h.objs.size))=h2 at k sz hx ⊢
 generalize h.objs.size+1=x at hx nx ⊢
 generalize h.objs.size=tt at hx
 have t1:AA (cS PW w) h2 (JE (.ref x)) (.ref 174):=(IL hx).andThen .now
 have s1:=self.keeps k
 have i1:=hi.keeps k
 have b1:=(bind_fn (M:=cS PW w) KY (.ref x) (f:=171) (by kernel_rfl)).keeps k
 unfold AX callSpecial? specialOf
 repeat (first|with_reducible refine AW ?_|lk)
 refine codeAny_mono (R:=InitBack x fun r s'=>match r with | .ok (.ret v)=>Q v s' | .ok _=>False | .error e=>E e s') ?_ fun r s' z=>?_
 ·exact CV KY hn k sz hx nx hQ
 ·rcases r with e|(v|_|_|_)<;>first|exact z|exact z.elim|skip
  obtain ⟨rfl,z⟩:=z
  exact bg (bg z)
theorem a1D:plainId "BaseException.__getattribute__"=true:=by decide +kernel
theorem a2r:OG "BaseException.__getattribute__"=some .slot:=by decide +kernel
theorem a1E:splitId "BaseException.__getattribute__"=some ("BaseException","__getattribute__"):=by decide +kernel
theorem CT {w:gp}{s:aE}(KY:(K11 w.params).In s.heap)(e dx td:Addr)(vs:Array bX)(sl:Array (Option bX))(tk:UN)(Q E:bX→aE→Prop)(he:s.heap.get? e=some ⟨.ref 174,some dx,.fields vs,sl⟩)(hx:ExcAt s.heap dx td)
  (hQ:∀t',Q (.ref td) ⟨s.heap,s.gens,s.drawn,t',s.os⟩):cE (cS PW w) (Fg (some (.ref e))) (call (.builtin "BaseException.__getattribute__") [.ref e,.str (af "recipients") tk]) Q E s:=by
 obtain ⟨h,g,d,t,os⟩:=s
 obtain ⟨tk',hs,n,hd⟩:=hx
 have I:InstAt h e ⟨.ref 174,some dx,.fields vs,sl⟩ 174 (some ⟨.type "dict",none,.dict #[⟨hs,.str (af "recipients") tk',.ref td⟩] n,#[]⟩):=⟨he,rfl,rfl,hd⟩
 have L0:=I.type (M:=cS PW w)
 have L1:=looks_find (M:=cS PW w) KY I (name:=af "recipients") (r:=.value (.ref td)) (by kernel_rfl)
 have sub:AA (cS PW w) h (AX (.ref e) (.type "BaseException")) true:=L0.andThen (AN KY (by kernel_rfl))
 refine AW (Au a1D F.entry_bexc_ga (@Mk (cS PW w) _ _ _ "BaseException.__getattribute__" "BaseException" "__getattribute__" (.ref e) [.str (af "recipients") tk] [] _ a2r a1E sub (F.args_bexc_ga _ _) ?_))
 unfold A9.«object.__getattribute__»
 repeat lk
 exact hQ t
noncomputable def X6 (P:U1):FuncData:=fdOf (q9 (K11 P) 45)
noncomputable abbrev nmC:Str:=af "comp_select_list"
theorem yP {w:gp}{s:aE}(KY:(K11 w.params).In s.heap)(hn:s.heap.NoLimit)(v:Addr)(Q E:bX→aE→Prop)
  (hQ:∀o h' t',(∀a o,s.heap.get? a=some o→h'.get? a=some o)→s.heap.get? o=none→sH h' (fun a=>∃o,s.heap.get? a=some o) 55 o "comp_select_list" (.ref v)→Q (.ref o) ⟨h',s.gens,s.drawn,t',s.os⟩) :
  cE (cS PW w) (Fg none) (call (.ref 55) [.ref v]) Q E s:=by
 obtain ⟨h,g,d,t,os⟩:=s
 refine AW (make_core (makes_of KY (by kernel_rfl)) (Cc KY (r:=some (.ref 45)) (by kernel_rfl)) (fun self=>bind_fn KY self (by kernel_rfl)) (.inl rfl) ?_)
 have k:∀b o,h.get? b=some o→((h.push emptyDict).push (Mb 55 h.objs.size)).get? b=some o:=fun b o e=>b6 _ (b6 _ e)
 have hx:((h.push emptyDict).push (Mb 55 h.objs.size)).get? (h.objs.size+1)=some (Mb 55 h.objs.size):=by heap_get
 have hd:((h.push emptyDict).push (Mb 55 h.objs.size)).get? h.objs.size=some emptyDict:=by heap_get
 have nx:h.get? (h.objs.size+1)=none:=by
  cases q:h.get? (h.objs.size+1) with
  |none=>rfl
  |some o=>exact absurd (eK q) (ow.mpr (C3 _))
 have nd:h.get? h.objs.size=none:=by
  cases q:h.get? h.objs.size with
  |none=>rfl
  |some o=>exact absurd (eK q) (iE _)
 have sz:h.objs.size≤((h.push emptyDict).push (Mb 55 h.objs.size)).objs.size:=by rw[kq,kq];exact f5 _ 2
 have hne:h.objs.size+1≠h.objs.size:=GB _
 generalize ((h.push emptyDict).push (Mb 55 h.objs.size))=h2 at k sz hx hd ⊢
 generalize h.objs.size+1=x at hx nx hne ⊢
 generalize h.objs.size=dx at hx hd nd hne
 refine NU (fd:=X6 w.params) (body:=(iy "TupleComp").2.1) (binds:=[(af "self",.ref x),(nmC,.ref v)]) (of_decide_eq_true (by kernel_rfl)) (k _ _ (KY 45 (q9 (K11 w.params) 45) (by kernel_rfl))) (by kernel_rfl) (hn.keeps k)
  (codeRec_of (K:=K11 w.params) (KY.keeps k) (by kernel_rfl)) (by kernel_rfl) (.of_eq (by kernel_rfl)) (N6 (P:=fun(x:Str×NameKind)=>x.2≠.cell) (by kernel_rfl)) (N6 (by kernel_rfl)) (fun h1 ns hk=>?_) (by kernel_rfl) (by kernel_rfl) (by kernel_rfl)
 have hb:(iy "TupleComp").2.1=[.Assign [.Attribute (.Name (af "self") ⟨6,8,6,12⟩) nmC ⟨6,8,6,29⟩] (.Name nmC ⟨6,32,6,48⟩) ⟨6,8,6,48⟩]:=by kernel_rfl
 rw[hb]
 have nL:∀{b o},h2.get? b=some o→b≠h2.objs.size:=fun e=>xy (eK e)
 have F:Fr h h2.objs.size h1 _:=⟨ns,fun b o e=>hk b o (k b o e),sz⟩
 have N:News h h2.objs.size h1 [(x,Mb 55 dx),(dx,emptyDict)]:=fun p hp=>by
  rcases dP.mp hp with rfl|hp
  ·exact⟨hk _ _ hx,nL hx,nx⟩
  ·cases bS.mp hp
   exact⟨hk _ _ hd,nL hd,nd⟩
 refine AL (xh (A3 (jS (by kernel_rfl) (by kernel_rfl) ns (v:=.ref v) (by kernel_rfl) (A3 (jS (by kernel_rfl) (by kernel_rfl) ns (v:=.ref x) (by kernel_rfl) ?_) (by kernel_rfl))) (by kernel_rfl)) (by kernel_rfl))
 refine set_dict F KY N (InstAt.of_news N (.head _) (.tail _ (.head _))) rfl (by kernel_rfl) (by kernel_rfl) (by kernel_rfl) (by kernel_rfl) (by kernel_rfl) rfl (.tail hne (.head fun Z h=>nomatch h)) (b9 rfl) fun h' F' N'=>?_
 refine dS ⟨rfl,?_⟩
 have n1:=N' _ (.head _)
 have n2:=N' _ (.tail _ (.head _))
 refine hQ x h' _ F'.keep nx ⟨_,dx,_,_,n1.1,rfl,rfl,rfl,?_,?_,n2.1,by kernel_rfl,by kernel_rfl,rfl⟩
 ·rintro ⟨_,e⟩;rw[nx] at e;exact YD e
 ·rintro ⟨_,e⟩;rw[nd] at e;exact YD e
theorem Js {w:gp}{s:aE}(KY:(K11 w.params).In s.heap)(hn:s.heap.NoLimit):By w s:=⟨CW KY hn,CT KY,yP KY hn⟩
end
section
open PySem PySem.W PySem.W.X PyProof.Rows
noncomputable def asK:List Nat:=[61,3,52,51,66,65,73,72,85,84,92,91,99,98,106,105,113,112,120,119,127,126,134,133,183,182,190,189,197,196,204,203,211,210,216,215,221,220,78,77,139,138,144,143,55,54,45,174,173,171,154,153]
noncomputable def Wc (h:Heap):Frag:=asK.filterMap fun a=>(h.get? a).map fun o=>(a,o)
theorem CZ {h:Heap}:∀{as:List Nat},ML (as.filterMap fun a=>(h.get? a).map fun o=>(a,o)) h
 | [],a,o,e=>nomatch e
 |b::as,a,o,e=>by
  rw[sA] at e
  cases hb:h.get? b with
  |none=>rw[hb] at e;exact CZ a o e
  |some x=>
   rw[hb] at e
   simp only[zo,fF] at e
   by_cases q:a=b
   ·subst q
    simp only[beq_self_eq_true] at e
    exact hb.trans e
   ·rw[show(a==b)=false from by simpa using q] at e
    exact CZ a o e
noncomputable def Ia (K:Frag):=((plainGet K 55 "comp_select_list",hasDictIn K 55,JA K (.ref 55) "comp_select_list",JA K (.ref 55) "compare",makesIn K 55),(JA K (.ref 55) "__init__",isFn K (.ref 52),mroIn K 174 (.type "BaseException"),mroIn K 174 (.ref 174),instIn K (.ref 174) (.type "tuple")),
 (Gr K 174,TU K (.ref 174),TU K (.ref 55),JA K (.ref 174) "__getattribute__",JA K (.ref 174) "__getattr__"))
noncomputable def a2e:(Bool×Bool×Option (Option bX)×Option (Option bX)×Bool)×(Option (Option bX)×Bool×Option Bool×Option Bool×Option Bool)×(Bool×Bool×Bool×Option (Option bX)×Option (Option bX)):=
 ((true,true,some none,some (some (.ref 52)),true),(some (some (.ref 45)),true,some true,some true,some false),(true,true,true,some (some (.builtin "BaseException.__getattribute__")),some none))
theorem H3 {K:Frag}(h0:K.lookup PT=none)(e:Ia K=a2e):jG K:=by
 unfold Ia a2e at e
 simp only[LD] at e
 obtain ⟨⟨a1,a2,a3,a4,a5⟩,⟨b1,b2,b3,b4,b5⟩,c1,c2,c3,c4,c5⟩:=e
 exact⟨h0,a1,a2,a3,a4,a5,b1,b2,b3,b4,b5,c1,c2,c3,c4,c5⟩
noncomputable def Gv (K:Frag):Bool:=(Gu K).isSome
noncomputable def An (K:Frag):=((Zo.map (fun p=>UH K mainGlobals p.1),Gv K,Z8.map (fun p=>UH K mainGlobals p.1)),(Zd.map (fun p=>Jw K p.1),sV K,my K 78 P1,my K 139 P2,my K 144 P3),K.lookup 61,UH K mainGlobals (af "law"),Ia (cut K))
noncomputable def a1m:=((Zo.map (fun p=>some (some p.2)),true,Z8.map (fun Z=>some (none:Option bX))),(Zd.map (fun p=>some (Jv p.2)),true,true,true,true),some (tableObj #[]),some (some (sf 221)),a2e)
theorem zr {K:Frag}(e:An K=a1m):KFacts K:=by
 unfold An a1m at e
 simp only[LD] at e
 obtain ⟨⟨a1,a2,a3⟩,⟨b1,b2,b3,b4,b5⟩,c1,c2,c3⟩:=e
 exact⟨a1,a2,a3,by kernel_rfl,by kernel_rfl,b1,H3 (by rw[Zx];rfl) c3,b2,b3,b4,b5,c1,c2⟩
noncomputable def vw:Program:=view PW [0,30]
noncomputable def a1P:List Str:=PW.boundNames.filter fun n=>!(n==af "law")
noncomputable abbrev rwL:=PySem.Challenge.rw_xt0005_01.row
noncomputable abbrev xt (s:aE):Bool:=recOk (RowW.records rwL.toRowW) s
noncomputable def a11:List Nat:=[2,44,45,54,55,153,154,170,171,173,174]
noncomputable abbrev yf (s:aE):=(An (Wc s.heap),a11.map s.heap.get?)
noncomputable abbrev ya (w:gp):=(a1m,(K11 w.params).map fun p=>some p.2)
theorem left:LeftO PW vw a1P xt yf ya 3200:=fun w=>by
 first
 |delta openEnds fencedOpening topFrom
  rw[Fast.te10274390034422433532,Fast.te14289696077712309145,Fast.te14082659384304107361,Fast.te4187177175401517315,Fast.te14364793385576792824]
  kernel_rfl
 |kernel_rfl
end
section
open PySem PySem.W PySem.W.X PyProof.Rows
theorem a4u:PySem.Challenge.rw_xt0005_01.row.wellSaid=true:=by
 first
 |rw[DI]
  kernel_rfl
 |kernel_rfl
theorem said:PySem.Challenge.rw_xt0005_01.wellSaid=true:=by
 first
 |rw[Fast.te9446332074065402090]
  delta Fast.tw9446332074065402090
  rw[←Fast.te2368527892694137696,←DI,a4u]
  kernel_rfl
 |kernel_rfl
theorem a1O:(defOf vw PySem.Challenge.rw_xt0005_01.row.name).isSome=true:=by kernel_rfl
noncomputable def a3z:=((defOf vw PySem.Challenge.rw_xt0005_01.row.name).get a1O).1
noncomputable def a5a:=((defOf vw PySem.Challenge.rw_xt0005_01.row.name).get a1O).2
set_option maxHeartbeats 0 in
theorem tst:PySem.Challenge.rw_xt0005_01.Holds:=by
 w_on
 refine holds_law said fun a5s=>?_
 refine holds_openX (q:=vw) (loose:=a1P) (Xt:=xt) (XP:=fun Z Z=>True) (Yf:=yf) (Ya:=ya) (N:=3200) (d:=a3z) (kwd:=a5a) left (fun Z Z=>trivial) (fun Z Z Z Z Z=>trivial) (OO a1O).symm (by kernel_rfl) (by kernel_rfl) (fun s e=>recFacts_of e) (by rfl) (by first|assumption|decide +kernel) (by decide +kernel) ⟨rfl,rfl,rfl,rfl,rfl,by decide +kernel⟩ ?hw ?hc
 (case hw=>w_witness2)
 intro w s0 s1 mg mb G y fa o pm cd doc dV kV ho hd hcd hD hmg hg args vals as L hpre hlay hrd hwl hlo
 obtain ⟨y1,y2⟩:=dQ y
 have F:=zr y1
 have keep:=L.keeps
 have KX:(Wc s0.heap).In s1.heap:=CZ.keeps keep
 have KY:(K11 w.params).In s1.heap:=(Frag.in_of (as:=a11) (by kernel_rfl) y2).keeps keep
 refine Ground.open G ?_
 intro T B D TE TW
 wrow_args hpre hlay hrd hwl hlo
 obtain ⟨hat,hsz⟩:=script_at L
 rw[show a3z.name=af "law" from by kernel_rfl] at hmg
 have hfa:=(mg_of KX T.g F.law).symm.trans hmg
 cases hfa
 have h61:61<s0.heap.objs.size:=eK (CZ _ _ F.tab)
 refine join KX F T.b T.nolimit T.builtins (bmod_of_top T) (fun s' k=>Js (w:=w) (fun a o e=>k a o (KY a o e) fun q=>?ne) (T.nolimit.at fun o e=>k _ o e (by decide))) (fun q=>?na) (script_obj L (by assumption)) (by assumption) (qh.mp (A7.mp (by assumption))) fun s' u=>Cz KX F (F5.of_eq hg) u (fun Z=>rfl) ?post
 case ne=>
  subst q
  have h0:(K11 w.params).lookup 61=none:=by kernel_rfl
  rw[h0] at e;exact YD e
 case na=>exact absurd (hat.symm.trans q) (oQ h61)
 case post=>wrow_post
end
end Mine
theorem PySem.Challenge.cw_xt0005_01_holds : PySem.Challenge.rw_xt0005_01.Holds := by
  exact Mine.tst
