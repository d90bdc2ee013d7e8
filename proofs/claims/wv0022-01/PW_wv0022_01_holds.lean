import PyProof.Rows.All
import Wide.All
import OpenK.AllK
import Wide.FinOn
import Lean
import PySem.Challenge.RW_wv0022_01
open And renaming intro→akG
open Array renaming getD_eq_getD_getElem?→gT,length_toList→iS,toList_push→tQ,perm_iff_toList_perm→VJ,toList_extract→aj0,setIfInBounds→aj6,size_extract→akf,getD→akg,size_append→aku,replicate→akQ
open Bool renaming true→aj,false→an,and_eq_true_iff→bv,noConfusion→bB,and_eq_true→cj,eq_iff_iff→dm,not_eq_true'→fH,or_eq_true_iff→gP,false_ne_true→hK,or_eq_true→iu,true_and→jI,and_true→jJ,false_eq_true→rZ,or_false→Ef,false_and→VI,not_eq_false→akt,and_false→ak5
open Classical renaming not_not→mX,propDecidable→vW,byContradiction→WK,em→alA
open Decidable renaming not_and_iff_not_or_not→mW
open Eq renaming trans→ajZ
open ForInStep renaming yield→lO
open Int renaming ofNat→dW,ofNat_le→eR,lt_of_le_of_lt→ge,ofNat_lt→js,natCast_nonneg→lV,le_trans→mV,not_lt→nY,toNat_of_nonneg→pZ,lt_trans→qJ,le_of_lt→qK,toNat_natCast→Jp,max_eq_right→Mb,ofNat_sub→aew,fmod_nonneg_of_pos→ai9,lt_iff_le_and_ne→ajW,min_eq_left→akO,max_eq_left→akP
open Int.ofNat renaming inj→jH
open List renaming mem_cons→ax,getElem?_eq_getElem→aC,length_append→aE,getElem?_eq_some_iff→aG,getD_eq_getElem?_getD→aI,length_map→aL,length_cons→aS,all_eq_true→aT,mem_of_getElem?→aX,map_cons→aY,range→ba,mem_singleton→bh,mapM_cons→bj,toArray→bl,append_assoc→br,mem_map→bw,not_mem_nil→bA,size_toArray→bD,map_map→bF,mem_append→bU,eq_nil_of_length_eq_zero→b4,mem_map_of_mem→b7,getElem?_map→cm,length_nil→cu,mem_range→cA,pairwise_cons→cJ,getElem?_append_left→cZ,length_drop→da,lookup_cons→dr,drop_eq_nil_of_le→dz,map_congr_left→dN,replicate→dZ,mem_append_left→d6,getElem?_append_right→d7,map_append→d8,take_of_length_le→ef,length_take→eg,mem_append_right→eI,mem_filter→eQ,mem_cons_self→eV,mem_of_mem_drop→ff,nodup_nil→fG,foldl_cons→fP,drop_eq_getElem_cons→fU,getElem?_toArray→f8,zip_cons_cons→gb,mem_cons_of_mem→gv,getElem?_set_ne→gw,length_range→gD,append_nil→gJ,getElem?_set_self→gS,mem_of_mem_take→iD,getElem_mem→iY,drop_zero→iZ,length_filter_le→jM,getElem_map→kG,pairwise_iff_getElem→kK,nodup_cons→lN,mem_filterMap→lU,mem_iff_getElem?→nO,filter_cons→nX,map_drop→nZ,length_set→pN,map→rW,drop_drop→rX,take_add_one→tO,map_id→tP,map_take→ub,idxOf_lt_length_iff→uc,drop_length→vS,any_eq_true→vU,head?_drop→xl,drop_left'→xm,length_replicate→yX,idxOf_cons_self→A4,forall_mem_cons→A5,filterMap_cons→CQ,any_cons→Ee,rec→Jj,idxOf_append→Jk,foldl_append→Jl,findIdx_cons→Jm,casesOn→Jn,any_map→Jo,range'_succ→L8,isEmpty_iff→L9,cons_append→Ma,range'→NC,drop_append_of_le_length→ND,of_mem_zip→Qn,nil_append→Qo,forIn_cons→Qp,filter_map→Qq,getElem?_eq_none_iff→WI,sum_cons→aeu,drop_nil→aev,take_append_drop→ajC,singleton_append→ajD,mem_of_mem_head?→ajE,getElem?_eq_none→ajF,pairwise_append→ajT,lookup→ajU,length→ajV,getElem?_range→aj4,zip_nil_right→aka,getElem_range→akb,getElem?_drop→akc,findIdx?_cons→akd,push_toArray→akn,nodup_append→ako,flatMap_cons→akp,findIdx?_map→akq,take_length→akA,nodup_range→akB,mem_flatMap→akC,ext_getElem→akD,take_left'→akL,range_succ→akM,drop_left→ak2,take_nil→ak8
open List.Perm renaming refl→VG
open List.cons renaming injEq→akN
open Nat renaming le_of_eq→ac,le_of_not_lt→ak,sub_add_cancel→aw,le_refl→aD,le_add_of_sub_le→aF,le_antisymm→aK,le_trans→aM,lt_of_not_le→aZ,zero_le→bo,mod_lt→bx,zero_lt_succ→bL,sub_le→bO,lt_or_gt_of_ne→bX,sub_eq_zero_of_le→ct,le_total→de,lt_of_le_of_lt→dg,ne_of_lt→dk,min_le_right→dJ,lt_succ_self→fe,lt_irrefl→gj,min_le_left→gH,div_add_mod→gI,lt_of_lt_of_le→hJ,zero_add→iz,lt_succ_of_lt→iA,le_succ→iB,lt_trans→jr,min_eq_left→jD,le_add_left→jE,le_succ_of_le→jQ,min_eq_right→kF,add_le_add_left→kS,not_lt_zero→lM,pos_of_ne_zero→lS,exists_eq_add_of_le→mi,succ_le_succ→nV,not_lt→nW,mul_le_mul_right→pg,eq_zero_or_pos→rU,add_le_add→rV,le_of_lt_succ→tN,rec→Bf,succ_pos→Jf,sub_self→Jg,le_of_lt→Jh,add_comm→Ji,succ_ne_zero→L6,mod_eq_of_lt→L7,mul_add_mod→Ql,max_eq_left→Qm,add_assoc→aet,le_of_ble_eq_true→ajA,div_lt_iff_lt_mul→ajB,mul_two→ajR,add_lt_add_right→ajS,mul_le_mul_left→aj3,lt_trichotomy→akm,max_eq_right→akz,mul_le_mul→ak1
open Nat.succ renaming inj→alo
open Ne renaming symm→tM
open Option renaming some→aa,none→af,none→ah,bind_some→b6,bind_eq_some_iff→cP,bind→eZ,map→lR,some→mf,isNone_iff_eq_none→ti,map_some→akK,map_map→ak0
open Option.some renaming inj→xk
open Ordering renaming eq→pe,lt→ajP,gt→ajQ
open Prod renaming fst→akZ
open Prod.mk renaming inj→jn,injEq→ak7
open PyProof.Rows renaming args_cons→bT,args_nil→eH,spliced_more→iq,seqObj→kA,spliced_none→th,lt_int→CP,isTrue_plain→WH,IsTup→WJ,Subscript_→agF,subscriptTail→ai4,listUpdate_at→ai5,eq_str→aj2,seqEpoch_at→akv,SortKind→aml
open PyProof.Rows.Boot renaming int→alb,max→amn,round→amK,isinstance→aqz,str→aqX,min→aqY,len→aqZ,enumerate→aq0
open PySem renaming Shared→ai,Value→ao,Str→aq,model→az,wpAny→aA,Addr→aN,wpAny_pure→aO,wpAny_bind→aR,wpAny_mono→aV,World→bz,sizeLine_eq→bC,Around→b9,Heap→ca,Stmt→cy,intText?→cz,wpAny_with_toks→cM,Program→cO,callEnvC→dj,wpAny_loadPart'→du,compareOp→d9,eval→et,starEach→fF,wpAny_standAt→gF,wpAny_holding→gG,bootBuiltins→hZ,wpAny_Call_ofName→iW,Scope→jm,execs→jC,backTo→j4,wpAny_toks_of→kz,behindInMarks→kB,exec→kR,wpAny_loadName_local→lF,bindArgs→lG,wpAny_Tuple_spliced→mn,pyIter→mo,Result→mq,handleBy→mT,NameKind→mU,leftWithCleanup→mZ,wpAny_Call_method_lateS→nK,cellsFrom→nL,cLine→nM,wpAny_assign_Name→oY,PyData→pd,wpAny_storeName_local→pY,wpAny_execs_cons→qC,typeIs_str→qD,sliceRange→qE,numSeenOf→qF,call_meets→qG,assign→qH,wpAny_isInstance_val→rQ,callWith→rR,binaryOp→rS,isTrue→tc,wpAny_specialOf_val→tL,spliced→t9,setFlight→uu,wpAny_rule→vN,wpAny_Name→vO,sizeLine→vP,assignEach→vQ,Flow→vV,wpAny_truthy_bool→xf,codeAny→xg,wpAny_newList→yT,swappedStores→yU,wpAny_isInstance→AZ,noteFrame→A0,checkBuiltinCall→A2,ReadsAll→A3,DictEntry→A6,wpAny_specialOf→Ec,wpAny_execs_nil→Ed,codeAny_handlers_test→FP,builtinLookup_eq_fast→FQ,wpAny_of_eq→Jb,compEnvC→Jc,wpAny_loadName_cell→L2,wpAny_handleBy_cons→L3,codeAny_forLoop_any→L4,Ctx→L5,bindL→NB,Comprehension→NE,wpAny_load→Qg,typeOf→Qh,typeLookup→Qi,wpAny_typeOf→VC,wpAny_Return_some→VD,leaving→VE,Model→VF,wpAny_call_entry→aen,nsFind→aeo,mainGlobals→agB,leftWithCleanup_false_of_bare→agC,CmpOp→agH,typeLookup_type→ai3,letOwnedTupleGo→ai6,codeAny_builtin→ai7,getItem→ajv,callerA→ajw,wpAny_newFunctionEnv_cells→ajG,wpAny_is_plain→ajH,reprText→ajI,recursionLimit→ajJ,newFunctionEnv→ajK,evalArgs→ajL,bindC→ajM,wpAny_getItem_list_slice→aj7,wpAny_comprehension_free→aj8,swapsWithSole→aj9,plainId_quiet→aj',strValues→akh,slicePick→aki,numTextOf→akj,fromIndex→akk,argBest→akw,Params→aky,pythonCodeMadeTheCall→akH,wpAny_point→akR,wpAny_newFunctionEnv→akS,wpAny_field→akT,richCompare→akU,keywordEach→akV,entryFor→akY,wpAny_Assign_stores→ak6,wpAny_pyIter_tuple→alc,wpAny_getItem_list→ald,wpAny_List_spliced→ale,wpAny_Constant_int→alf
open PySem.Around renaming frames_deeper→gQ,under_plainId→r6
open PySem.AutoSeq1 renaming list_insert_list_int_val_1→an6,list_extend_list_tuple_0→an7
open PySem.Builtin.BaseException renaming bexcArgs→aey
open PySem.Builtin.Int renaming intBits→ala
open PySem.Builtin.Re renaming reRawNat→ak',reTurnSteps→alg
open PySem.Builtin.Str renaming strKind→eT,occurrences→gV
open PySem.Calls renaming docDef→fg,Constant_str→iL,Name_function_global→vR,call_function_entry→aj5,loadGlobal_builtin→amr
open PySem.Challenge renaming rw_wv0022_01→pM,pw_wv0022_01→Qk
open PySem.Data renaming noConfusion→gR
open PySem.Expr renaming noConfusion→b5,Name→alW
open PySem.F renaming called_int→pj,args_str_split_2→Qr,entry_str_split→VH,slot_str_getitem→aeq,slot_list_insert→aer,slot_list_extend→aes,slot_str_split→aex,slot_list_index→agD,plainAttrs_list→agE,plainAttrs_str→ai8,type_str_find→ajx,slot_str_find→ajy,slot_int_rmul→ajz,madeHere_int→ajX,conv_sub_int→ajY,excStr_Exception→alz
open PySem.Float64 renaming mul→cK,sub→gO,ofInt→il,isFinite→ir,ofFrac→jG,cmpInt→pi,cmp→rY,isInf→ake,div→ak3,ofInt_fits→aly,nearestOf→alN,truncOf→al5,isZero→amg,isNaN→amm,add→amJ
open PySem.Flt renaming toInt→aks
open PySem.Heap renaming get?_push_of_some→aQ,get?_push_size→bN,get?_none_of_le→cq,lt_size→dK,SameBut→dL,MadeExcOf→f9,get?_update_other→ie,size_push→jF,get?_update_self→p9,ExtBut→agG,FlyingW→akF,size_update→alV
open PySem.Heap.FunFrames renaming of_keeps→auW
open PySem.Heap.SameBut renaming update→Mc
open PySem.Heap.UpToSlots renaming of_keeps→akr
open PySem.NameKind renaming free→fS,cell→yW
open PySem.Obj renaming mapSeq→dH,data_mapSeq→al4
open PySem.P renaming iadd_int→akx
open PySem.PyData renaming eqv→bQ,canLayAll0→cg,canLay0→cV,depthAll→dv,depth→dG,int→eP,strOk→ic,tuple→ua,list→xj,bool→Je,keyHash→ajO,str→alk
open PySem.Sem renaming wp_mono→xi
open PySem.SeqAt renaming shaped→fj,canLay_of_shaped→pb,eqv_refl→Jd,EqAt→Qj,depth_of_shaped→akJ,eqAt_reads→alT
open PySem.SeqAt.EqAt renaming of_in1→alH
open PySem.SeqAt.Reads renaming unique→anl
open PySem.Sre renaming Seen→ky,Frame→uw,M→xh,forSearch→yV
open PySem.Sre.M renaming step→cf,stick→lH
open PySem.Str renaming ofString→ar,ofString→be
open PySem.StrLaws renaming occ_length_le→akI,occBody→alZ
open PySem.Txt renaming slice→c5,split→nN,find→oZ,find3→qI,replace→rT,join→ajN,mul→alG
open PySem.Value renaming none→fZ,int→aep,str→akl
open PySem.Value.ref renaming inj→amk
open PySem.W renaming Frag→ph,ReadsAllW→vX,exmOne→A1,hideAll→aj1,kas_rev→akW,findIn→akX
open PySem.W.KIN renaming str_trunc→akE,str_int→alt,str_idx→alu
open PySem.W.Looks renaming of_pure→amI
open PySem.W.ReadsAllW renaming casesOn→al0
open PySem.W.WData renaming layableAll→amc
set_option maxRecDepth 100000
set_option linter.all false
set_option Elab.async false
set_option bootstrap.genMatcherCode false
set_option genSizeOfSpec false
set_option genSizeOf false
set_option genInjectivity false
namespace Mine
local macro_rules
  | `(tactic| lia) => `(tactic| kernel_rfl)
theorem aP{c:Prop}{h:Decidable c}(q:c){α:Sort u}{t e:α}:ite c t e=t:=if_pos q
theorem aU{p:Prop}[Decidable p](h:p):decide p=true:=decide_eq_true h
theorem aW{p:Prop}[Decidable p](h:¬p):decide p=false:=decide_eq_false h
theorem bg{c:Prop}{h:Decidable c}(q:¬c){α:Sort u}{t e:α}:ite c t e=e:=if_neg q
theorem bG{p:Prop}[Decidable p](h:decide p=true):p:=of_decide_eq_true h
theorem bH{p:Prop}[Decidable p]:decide p=true↔p:=decide_eq_true_iff
theorem bV{a b:Prop}(h:a)(k:¬a):b:=absurd h k
theorem cw{α:Type u}[BEq α][LawfulBEq α]{a b:α}:a==b↔a=b:=beq_iff_eq
theorem c6{α:Type u}[BEq α][ReflBEq α](a:α):(a==a)=true:=beq_self_eq_true a
set_option backward.match.sparseCases false
set_option tactic.hygienic false
open PySem PySem.W PyProof.Rows PySem.Calls PySem.Spec
noncomputable abbrev di:OpenRow:=pM.row
noncomputable abbrev aJ(s:String):aq:=be s
structure wl  where
 name:aq
 params:Arguments
 body:List cy
 scope:jm
noncomputable def dc(k:Nat):wl:=match Qk.main.body[k]?with
 |some (.FunctionDef n p b _ _ _ sc _ _ _)=>⟨n,p,b,sc⟩
 |_=>⟨default,default,[],default⟩
structure FR  where
 k:Nat
 a:Nat
 l:Nat
 n:Nat
 t:Nat
 T:Nat
 b:Bool
 m:ao
noncomputable def FR.f(r:FR):Obj:={cls:=.type "function",data:=.func (fg (dc r.k).name (dc r.k).params (dc r.k).body (dc r.k).scope r.m (.ref (r.a-1)) .none)}
noncomputable def FR.v(r:FR):Array ao:=#[.str (dc r.k).name r.t,.str (dc r.k).name (r.t+1),.str (aJ "/claim/cut.py") (r.t+2),.int r.l 0,.int r.n 0,.int 0 0,.int 0 0,.int 3 0,.ref (bif r.b then r.a-4 else r.a-6),.bool aj,.int 276 0,.ref (bif r.b then r.a-3 else r.a-5),.none,bif r.b then .none else .ref (r.a-4),bif r.b then .none else .ref (r.a-3),.ref (r.a-2),.int r.T 0,.int r.l 0,.str (aJ "/claim/cut.py") (r.T+1)]
noncomputable def FR.c(r:FR):Obj:={cls:=.type "code",data:=.fields r.v}
noncomputable def en(P:aky)(s:String)(t:Nat)(v:ao):A6:=⟨ajO P (aJ s),.str (aJ s) t,v⟩
noncomputable def ecl(nm:String)(a q t:Nat)(r:Nat):Obj:={cls:=.type "type",data:=.cls {name:=aJ nm,bases:=[.ref 68],mro:=[.ref a,.ref 68,.type "Exception",.type "BaseException",.type "object"],ns:=a-1,qualname:=aJ nm},slots:=#[some (.ref r),ah,some (.str (aJ nm) t),some (.str (aJ nm) (t+8)),some (.builtin "Exception.__new__"),some (.bool aj)]}
noncomputable def md0:ao:=.str (aJ "cpy313.platform") 282
noncomputable def md1:ao:=.str (aJ "cpy313.colorsys") 373
noncomputable def md2:ao:=.str (aJ "cpy313.ftplib") 407
noncomputable def Th:ao:=.str (aJ "cpy313.xml.etree.ElementTree") 485
noncomputable def Kn:ao:=.str (aJ "law_wv0022_01") 529
noncomputable def UQ:FR:=⟨4,44,5,1,362,370,an,md0⟩
noncomputable def UP:FR:=⟨6,51,18,3,375,390,an,md1⟩
noncomputable def UO:FR:=⟨7,58,37,3,393,404,an,md1⟩
noncomputable def Nj:FR:=⟨12,102,65,2,461,471,an,md2⟩
noncomputable def Ni:FR:=⟨13,109,82,1,474,482,an,md2⟩
noncomputable def Nh:FR:=⟨16,123,102,1,494,498,an,Th⟩
noncomputable def Ng:FR:=⟨17,130,113,1,501,505,an,Th⟩
noncomputable def Nf:FR:=⟨18,137,132,1,508,512,an,Th⟩
noncomputable def Nd:FR:=⟨19,144,143,1,515,519,an,Th⟩
noncomputable def Nc:FR:=⟨20,151,156,1,522,526,an,Th⟩
noncomputable def Nb:FR:=⟨22,158,174,1,531,538,an,Kn⟩
noncomputable def Na:FR:=⟨23,163,179,1,541,544,aj,Kn⟩
noncomputable def M':FR:=⟨24,168,182,2,547,550,aj,Kn⟩
noncomputable def M9:FR:=⟨25,175,186,3,553,560,an,Kn⟩
noncomputable def M8:FR:=⟨26,180,195,4,563,566,aj,Kn⟩
noncomputable def M7:FR:=⟨27,185,231,1,569,572,aj,Kn⟩
noncomputable def M6:FR:=⟨28,190,236,3,575,578,aj,Kn⟩
noncomputable def M5:FR:=⟨29,195,244,1,581,584,aj,Kn⟩
noncomputable def M4:FR:=⟨30,202,267,1,587,591,an,Kn⟩
noncomputable def K0(P:aky):ph:=
 [(3,{cls:=.type "dict",data:=.dict #[en P "__name__" 165 (.str (aJ "law_wv0022_01") 529),en P "__doc__" 166 (.none),en P "__package__" 167 (.none),en P "__loader__" 168 (.builtin "__main__.__loader__#opaque"),en P "__spec__" 169 (.none),en P "__annotations__" 170 (.ref 6),en P "__builtins__" 171 (.ref 4),en P "__file__" 173 (.str (aJ "/claim/cut.py") 172),en P "__cached__" 174 (.none),en P "_sre" 275 (.ref 12),en P "_twin_re_1" 330 (.ref 36),en P "_ver_stages" 361 (.ref 37),en P "_comparable_version" 372 (.ref 44),en P "rgb_to_hsv" 392 (.ref 51),en P "hsv_to_rgb" 406 (.ref 58),en P "Error" 428 (.ref 68),en P "error_reply" 444 (.ref 81),en P "error_proto" 460 (.ref 93),en P "parse229" 473 (.ref 102),en P "parse257" 484 (.ref 109),en P "_raise_serialization_error" 493 (.ref 116),en P "_escape_cdata" 500 (.ref 123),en P "_escape_attrib" 507 (.ref 130),en P "_escape_attrib_html" 514 (.ref 137),en P "_escape_cdata_c14n" 521 (.ref 144),en P "_escape_attrib_c14n" 528 (.ref 151),en P "_law_deeds" 540 (.ref 158),en P "_law_hands" 546 (.ref 163),en P "_law_spelled" 552 (.ref 168),en P "_law_read" 562 (.ref 175),en P "_law_hear" 568 (.ref 180),en P "_law_due" 574 (.ref 185),en P "_law_whole" 580 (.ref 190),en P "_law_run" 586 (.ref 195),en P "law" 593 (.ref 202)] 35}),
  (37,{cls:=.type "dict",data:=.dict #[en P "dev" 331 (.int 10 332),en P "alpha" 333 (.int 20 334),en P "a" 335 (.int 20 336),en P "beta" 337 (.int 30 338),en P "b" 339 (.int 30 340),en P "c" 341 (.int 40 342),en P "RC" 343 (.int 50 344),en P "rc" 345 (.int 50 346),en P "pl" 347 (.int 200 348),en P "p" 349 (.int 200 350)] 10}),
  (36,{cls:=.type "re.Pattern",data:=Data.fields #[.str (aJ "([0-9]+|[._+-])") 285,.int 32 329,.int 1 0,.none,.none,.ref 35,.int 0 0]}),
  (35,{cls:=.type "tuple",data:=Data.seq #[.int 14 0,.int 4 0,.int 0 0,.int 1 0,.int 4294967295 0,.int 17 0,.int 0 0,.int 7 0,.int 14 0,.int 24 0,.int 10 0,.int 1 0,.int 4294967295 0,.int 13 0,.int 5 0,.int 22 0,.int 48 0,.int 57 0,.int 0 0,.int 1 0,.int 15 0,.int 17 0,.int 15 0,.int 13 0,.int 11 0,.int 9 0,.int 0 0,.int 26624 0,.int 2147483648 0,.int 0 0,.int 0 0,.int 0 0,.int 0 0,.int 0 0,.int 0 0,.int 15 0,.int 2 0,.int 0 0,.int 17 0,.int 1 0,.int 1 0]}),
  (67,{cls:=.type "dict",data:=.dict #[en P "__module__" 416 (.str (aJ "cpy313.ftplib") 407),en P "__firstlineno__" 420 (.int 59 419),en P "__static_attributes__" 421 (.ref 66),en P "__weakref__" 423 (.ref 69),en P "__doc__" 424 (.none)] 3}),
  (80,{cls:=.type "dict",data:=.dict #[en P "__module__" 436 (.str (aJ "cpy313.ftplib") 407),en P "__firstlineno__" 440 (.int 61 439),en P "__static_attributes__" 441 (.ref 79),en P "__doc__" 442 (.none)] 2}),
  (92,{cls:=.type "dict",data:=.dict #[en P "__module__" 452 (.str (aJ "cpy313.ftplib") 407),en P "__firstlineno__" 456 (.int 63 455),en P "__static_attributes__" 457 (.ref 91),en P "__doc__" 458 (.none)] 2}),
  (68,{cls:=.type "type",data:=Data.cls {name:=aJ "Error",bases:=[.type "Exception"],mro:=[.ref 68,.type "Exception",.type "BaseException",.type "object"],ns:=67,qualname:=aJ "Error",subclasses:=[.ref 81,.ref 93]},slots:=#[some (.ref 59),ah,some (.str (aJ "Error") 409),some (.str (aJ "Error") 417),some (.builtin "Exception.__new__"),some (.bool aj)]}),
  (81,ecl "error_reply" 81 0 429 72),
  (93,ecl "error_proto" 93 0 445 84)]++[UQ,UP,UO,Nj,Ni,Nh,Ng,Nf,Nd,Nc,Nb,Na,M',M9,M8,M7,M6,M5,M4].flatMap λr=>[(r.a,r.f),(r.a-1,r.c)]
noncomputable def Vm:List aN:=[3,37,36,35,67,80,92,68,81,93,44,43,51,50,58,57,102,101,109,108,123,122,130,129,137,136,144,143,151,150,158,157,163,162,168,167,175,174,180,179,185,184,190,189,195,194,202,201]
theorem e0(P:aky):Vm=(K0 P).map (·.1):=by lia
noncomputable abbrev Hk:Hook:=kHook K0 Vm e0
noncomputable def vw:cO:=PySem.W.view Qk [0,2,3,4,6,7,9,10,11,12,13,15,16,17,18,19,20,22,23,24,25,26,27,28,29,30]
noncomputable def B1:List aq:=[aJ "_twin_re_1",aJ "_ver_stages"]
noncomputable def Xt0(s:ai):Bool:=xlAt vw [] s&&recOk (RowW.records di.toRowW) s
theorem two{α β γ:Type}{o:Option α}{f:α->β}{g:α->γ}{x:β}{y:γ}(h1:o.map f=some x)(h2:o.map g=some y):o.map (λs=>(f s,g s))=some (x,y):=by
 cases o
 ·cases h1
 ·cases h1;cases h2;rfl
noncomputable def L1(b:Bool)(w:bz):Prop:=(fencedOpening treeTable di.prog w 3160).map (λfV=>(topFrom treeTable di.prog (w.withFollow "special-get-raises" b) 3160 fV).map λs=>(openSeen vw B1 (importedModules di.prog.main.body) Xt0 aj s,Hook.obs Hk s))=some (some (openGood vw B1,Hook.val Hk (w.withFollow "special-get-raises" b)))
set_option maxHeartbeats 0 in
theorem Tr(w:bz):L1 an w:=by unfold L1;lia
set_option maxHeartbeats 0 in
theorem Tq(w:bz):L1 aj w:=by unfold L1;lia
theorem Ts:LeftO di.prog vw B1 Xt0 (Hook.obs Hk) (Hook.val Hk) 3160:=LeftO.of_split "special-get-raises" λw=>two (Tr w) (Tq w)
theorem RH:pM.wellSaid=aj:=by
 iterate 18 refine look_both ?_ (by decide+kernel)
 unfold OpenRow.wellSaid
 iterate 2 refine look_both ?_ (by decide+kernel)
 decide+kernel
set_option backward.match.sparseCases true
set_option tactic.hygienic true
inductive sa where
 |k (n:Nat)|v (i:Nat)|p (a b:sa)|m (n:Nat) (a:sa)
inductive LC where
 |n|c (m:Nat) (a b:sa) (r:LC)
noncomputable def Tl(i:Nat):List Nat->Nat:=Bf (λl=>l.headD 0) (λ_ r l=>r l.tail) i
noncomputable def sa.den(l:List Nat)(e:sa):Nat:=sa.rec (λn=>n) (λi=>Tl i l) (λ_ _ x y=>x+y) (λn _ x=>n*x) e
noncomputable def LC.den(l:List Nat)(c:LC):Prop:=LC.rec False (λ_ a b _ r=>a.den l<=b.den l->r) c
noncomputable def E5(x:List Nat):List Nat->List Nat:=Jj (λy=>y) (λa _ r y=>(a+y.headD 0)::r y.tail) x
noncomputable def Hy(n:Nat)(x:List Nat):List Nat:=Jj [] (λa _ r=>n*a::r) x
noncomputable def Tk(i:Nat):List Nat:=Bf [1] (λ_ r=>0::r) i
noncomputable def sa.co(e:sa):List Nat:=sa.rec (λn=>[n]) (λi=>0::Tk i) (λ_ _ x y=>E5 x y) (λn _ x=>Hy n x) e
noncomputable def Ba(c:List Nat):List Nat->Nat:=Jj (λ_=>0) (λa _ r l=>a*l.headD 0+r l.tail) c
noncomputable def lle(x:List Nat):List Nat->Bool:=Jj (λ_=>aj) (λa _ r y=>Nat.ble a (y.headD 0)&&r y.tail) x
noncomputable def LC.NW(c:LC):List Nat:=LC.rec [] (λm a _ _ r=>E5 (Hy m a.co) r) c
noncomputable def LC.JO(c:LC):List Nat:=LC.rec [] (λm _ b _ r=>E5 (Hy m b.co) r) c
theorem z5(y l:List Nat):y.headD 0*l.headD 0+Ba y.tail l.tail=Ba y l:=by
 cases y
 ·exact Nat.zero_mul _
 ·rfl
theorem yl(x:List Nat):∀y l,Ba (E5 x y) l=Ba x l+Ba y l:=by
 induction x with
 |nil=>exact λy l=>(iz _).symm
 |cons a x ih=>exact λy l=>(congr (congrArg (·+·) (Nat.add_mul ..)) (ih _ _)).trans ((Nat.add_add_add_comm ..).trans (congrArg (λz=>(a*l.headD 0+Ba x l.tail)+z) (z5 y l)))
theorem Dp(n:Nat)(x:List Nat):∀l,Ba (Hy n x) l=n*Ba x l:=by
 induction x with
 |nil=>exact λl=>rfl
 |cons a x ih=>exact λl=>(congr (congrArg (·+·) (Nat.mul_assoc ..)) (ih _)).trans (Nat.mul_add ..).symm
theorem Kt(i:Nat):∀l,Ba (Tk i) l=Tl i l:=by
 induction i with
 |zero=>exact λl=>Nat.one_mul _
 |succ i ih=>exact λl=>(congr (congrArg (·+·) (Nat.zero_mul _)) (ih _)).trans (iz _)
theorem sa.PC(l:List Nat)(e:sa):Ba e.co (1::l)=e.den l:=by
 induction e with
 |k n=>exact Nat.mul_one n
 |v i=>exact(iz _).trans (Kt i l)
 |p a b x y=>exact(yl ..).trans (congr (congrArg _ x) y)
 |m n a x=>exact(Dp ..).trans (congrArg _ x)
theorem Ov(x:List Nat):∀y l,lle x y=aj->Ba x l<=Ba y l:=by
 induction x with
 |nil=>exact λ_ _ _=>bo _
 |cons a x ih=>exact λy l h=>z5 y l▸rV (pg _ (ajA (bv.mp h).1)) (ih _ _ (bv.mp h).2)
theorem ML(m q:Nat)(e:sa)(l:List Nat)(c:List Nat):Ba (E5 (Hy m e.co) c) (1::l)+q=Ba c (1::l)+(q+m*e.den l):=
 (congrArg (·+q) ((yl ..).trans (congrArg (·+_) ((Dp ..).trans (congrArg _ (e.PC l)))))).trans ((aet ..).trans ((Ji ..).trans (aet ..)))
theorem LC.sound(l:List Nat)(c:LC):∀x y,Ba c.JO (1::l)+y+1<=Ba c.NW (1::l)+x->x<=y->c.den l:=by
 induction c with
 |n=>exact λx y h k=>gj _ (hJ h (kS k 0))
 |c m a b r ih=>exact λx y h k q=>ih (x+m*a.den l) (y+m*b.den l) (ML m x a l r.NW▸ML m y b l r.JO▸h) (rV k (aj3 m q))
noncomputable def LC.FE(c:LC):Bool:=lle (E5 [1] c.JO) c.NW
theorem Hz(l:List Nat)(c:LC)(h:c.FE=aj):c.den l:=
 LC.sound l c 0 0 (aM (ac ((Ji _ 1).trans (yl [1] c.JO (1::l)).symm)) (Ov _ _ _ h)) (aD 0)
theorem eM(a:Nat)(c:LC)(h:c.FE=aj):c.den [a]:=Hz [a] c h
theorem dF(a b:Nat)(c:LC)(h:c.FE=aj):c.den [a,b]:=Hz [a,b] c h
theorem kg(a b d:Nat)(c:LC)(h:c.FE=aj):c.den [a,b,d]:=Hz [a,b,d] c h
theorem nk(a b d e:Nat)(c:LC)(h:c.FE=aj):c.den [a,b,d,e]:=Hz [a,b,d,e] c h
theorem E4(a b d e f:Nat)(c:LC)(h:c.FE=aj):c.den [a,b,d,e,f]:=Hz [a,b,d,e,f] c h
theorem yj(a b d e f g:Nat)(c:LC)(h:c.FE=aj):c.den [a,b,d,e,f,g]:=Hz [a,b,d,e,f,g] c h
noncomputable def LC.imp(l:List Nat)(P:Prop)(c:LC):Prop:=LC.rec P (λ_ a b _ r=>a.den l<=b.den l->r) c
theorem LC.OO(l:List Nat)(P:Prop)(c:LC):(¬P->c.den l)->c.imp l P:=by
 induction c with
 |n=>exact λh=>WK h
 |c m a b r ih=>exact λh q=>ih λn=>h n q
theorem lq(l:List Nat)(m:Nat)(X Y:sa)(c:LC)(h:(LC.c m (.p Y (.k 1)) X c).FE=aj):c.imp l (X.den l<=Y.den l):=c.OO l _ λn=>Hz l (.c m (.p Y (.k 1)) X c) h (aZ n)
theorem dD(a m:Nat)(X Y:sa)(c:LC)(h:(LC.c m (.p Y (.k 1)) X c).FE=aj):c.imp [a] (X.den [a]<=Y.den [a]):=lq [a] m X Y c h
theorem dp(a b m:Nat)(X Y:sa)(c:LC)(h:(LC.c m (.p Y (.k 1)) X c).FE=aj):c.imp [a,b] (X.den [a,b]<=Y.den [a,b]):=lq [a,b] m X Y c h
theorem fM(a b d m:Nat)(X Y:sa)(c:LC)(h:(LC.c m (.p Y (.k 1)) X c).FE=aj):c.imp [a,b,d] (X.den [a,b,d]<=Y.den [a,b,d]):=lq [a,b,d] m X Y c h
theorem tB(a b d e m:Nat)(X Y:sa)(c:LC)(h:(LC.c m (.p Y (.k 1)) X c).FE=aj):c.imp [a,b,d,e] (X.den [a,b,d,e]<=Y.den [a,b,d,e]):=lq [a,b,d,e] m X Y c h
theorem Ti(a b d e f m:Nat)(X Y:sa)(c:LC)(h:(LC.c m (.p Y (.k 1)) X c).FE=aj):c.imp [a,b,d,e,f] (X.den [a,b,d,e,f]<=Y.den [a,b,d,e,f]):=lq [a,b,d,e,f] m X Y c h
noncomputable abbrev V0:sa:=.v 0
noncomputable abbrev V1:sa:=.v 1
noncomputable abbrev V2:sa:=.v 2
noncomputable abbrev V3:sa:=.v 3
noncomputable abbrev V4:sa:=.v 4
noncomputable abbrev V5:sa:=.v 5
noncomputable abbrev K1:sa:=.k 1
noncomputable abbrev S1(a:sa):sa:=.p a K1
noncomputable abbrev D1(a b:sa)(r:LC):LC:=.c 1 a b r
noncomputable def orl(a:Nat)(s n:Nat):Prop:=Bf (λs=>a=s) (λ_ r s=>a=s\/r (s+1)) n s
theorem gX(a:Nat)(n:Nat):(s:Nat)->s<=a->a<=s+n->orl a s n:=by
 induction n with
 |zero=>exact λs h k=>aK k h
 |succ n ih=>
  exact λs h k=>(Nat.eq_or_lt_of_le h).elim (λq=>.inl q.symm) λq=>.inr (ih (s+1) q (aM k (ac (Nat.add_right_comm s n 1))))
theorem QG(m n:Nat)(h:m<=n):(m:Int)<=n:=eR.mpr h
theorem TO(m n:Nat)(h:(m:Int)<=n):m<=n:=eR.mp h
theorem QF(m n:Nat)(h:m<n):(m:Int)<n:=js.mpr h
theorem Ca(m n:Nat)(h:(m:Int)<n):m<n:=js.mp h
theorem TQ{a:Int}{n:Nat}(h:a.natAbs<n):-(n:Int)<=a/\a<n:=⟨Int.neg_le_of_neg_le (mV Int.le_natAbs (Int.natAbs_neg a▸eR.mpr (Jh h))),ge Int.le_natAbs (js.mpr h)⟩
theorem QE{a:Int}{n:Nat}(h:a.toNat<n):a<n:=ge (Int.self_le_toNat a) (js.mpr h)
theorem i63{a:Int}{n:Nat}(h:a<=n)(k:n<=100000000000):a<2^63:=ge h (js.mpr (dg k (by decide):n<2^63))
theorem EU{x p q:Nat}(h:(x+p)%24=(x+q)%24):p%24=q%24:=
 have e (r:Nat):((x+r)%24+23*x)%24=r%24:=(Nat.mod_add_mod _ _ _).trans ((congrArg (·%24) (aK (ak λq=>dF r x (D1 (.p (.p V0 (.m 24 V1)) K1) (.p (.p V1 V0) (.m 23 V1)) .n) rfl q) (ak λq=>dF x r (D1 (.p (.p (.p V0 V1) (.m 23 V0)) K1) (.p V1 (.m 24 V0)) .n) rfl q))).trans (Nat.add_mul_mod_self_left r 24 x))
 (e p).symm.trans ((congrArg (λz=>(z+23*x)%24) h).trans (e q))
theorem om3{a b c d:Nat}(h1:3*c+a=3*d+b)(h2:a<3)(h3:b<3):a=b:=(L7 h2).symm.trans (((Ql 3 c a).symm.trans ((congrArg (·%3) h1).trans (Ql 3 d b))).trans (L7 h3))
theorem TN(a b:Nat):((min a b:Nat):Int)=min (a:Int) b:=(de a b).elim (λh=>(congrArg dW (jD h)).trans (akO (eR.mpr h)).symm) (λh=>(congrArg dW (kF h)).trans (Int.min_eq_right (eR.mpr h)).symm)
theorem WO(a b:Nat):((max a b:Nat):Int)=max (a:Int) b:=(de a b).elim (λh=>(congrArg dW (akz h)).trans (Mb (eR.mpr h)).symm) (λh=>(congrArg dW (Qm h)).trans (akP (eR.mpr h)).symm)
theorem o0(h1:a<=1000):a<=10000:=dD a 1 V0 (.k 10000) (D1 V0 (.k 1000) .n) rfl h1
theorem o1{a:Nat}:¬(↑a:Int)<0:=λq=>eM a (D1 (S1 V0) (.k 0) .n) rfl (Ca (a) (0) q)
theorem o2(h1:a<=b):a<=b+1:=dp a b 1 V0 (S1 V1) (D1 V0 V1 .n) rfl h1
theorem o3(h1:a<1000):a<100000:=dD a 1 (S1 V0) (.k 100000) (D1 (S1 V0) (.k 1000) .n) rfl h1
theorem o4:0<=a+1:=dD a 1 (.k 0) (S1 V0) .n rfl
theorem o5(h1:a+(b+1)=c):a+1+b=c:=aK (fM a b c 1 (.p (S1 V0) V1) V2 (D1 (.p V0 (S1 V1)) V2 .n) rfl (ac h1)) (fM c a b 1 V0 (.p (S1 V1) V2) (D1 V0 (.p V1 (S1 V2)) .n) rfl (ac h1.symm))
theorem o6(h1:a+1<=b):a<=b:=dp a b 1 V0 V1 (D1 (S1 V0) V1 .n) rfl h1
theorem o7{a:Nat}:0<=(↑a:Int):=QG (0) (a) (dD a 1 (.k 0) V0 .n rfl)
theorem o8:a+1+b=a+(b+1):=aK (dp a b 1 (.p (S1 V0) V1) (.p V0 (S1 V1)) .n rfl) (dp a b 1 (.p V0 (S1 V1)) (.p (S1 V0) V1) .n rfl)
theorem o9(h1:b<a):a+1-(b+1)<a+1-b:=tB ((a+1)-b) ((a+1)-(b+1)) a b 1 (S1 V1) V0 (D1 (S1 V2) (.p V0 V3) (D1 (.p V1 (S1 V3)) (S1 V2) .n)) rfl (aF (aD ((a+1)-b))) (ac (aw (dp b a 1 (S1 V0) (S1 V1) (D1 (S1 V0) V1 .n) rfl h1)))
theorem o10(h1:a+(c+1)<=b):a<b:=fM a c b 1 (S1 V0) V2 (D1 (.p V0 (S1 V1)) V2 .n) rfl h1
theorem o11(h1:a+(c+1)<=b):a-1<b:=tB a c b (a-1) 1 (S1 V3) V2 (D1 (.p V0 (S1 V1)) V2 (D1 V3 V0 .n)) rfl h1 (bO a 1)
theorem V9(h1:a+(c+1)=b):a<b:=fM a c b 1 (S1 V0) V2 (D1 (.p V0 (S1 V1)) V2 .n) rfl (ac h1)
theorem V8(h1:a<3):a=0\/a=1\/a=2:=gX (a) 2 0 (bo _) (ak λq=>eM a (D1 (S1 V0) (.k 3) (D1 (.p (.k 2) K1) V0 .n)) rfl h1 q)
theorem V7(h1:a<2):a<=16777216:=dD a 1 V0 (.k 16777216) (D1 (S1 V0) (.k 2) .n) rfl h1
theorem V6:a<=a+1:=dD a 1 V0 (S1 V0) .n rfl
theorem VZ(h1:a<=7):a<=1000:=dD a 1 V0 (.k 1000) (D1 V0 (.k 7) .n) rfl h1
theorem o17{a b:Nat}:max 0 (min (↑a:Int) (↑b:Int))=(↑(min a b):Int):=(congrArg (max 0) (TN a b).symm).trans (Mb (lV _))
theorem VY{a b:Nat}(h1:¬b<=a):a<=b:=dp a b 1 V0 V1 (D1 (S1 V0) V1 .n) rfl (aZ h1)
theorem VX:a+1<=a+2:=dD a 1 (S1 V0) (.p V0 (.k 2)) .n rfl
theorem VW:a/36%3=0\/a/36%3=1\/a/36%3=2:=gX (a/36%3) 2 0 (bo _) (ak λq=>eM ((a/36)%3) (D1 (.p (.k 2) K1) V0 (D1 (S1 V0) (.k 3) .n)) rfl q (bx (y:=3) (a/36) (bL _)))
theorem VV(h1:a<=1000):a<=16777216:=dD a 1 V0 (.k 16777216) (D1 V0 (.k 1000) .n) rfl h1
theorem VU(h1:a=b)(h2:b<=100):a<=100:=dp a b 1 V0 (.k 100) (D1 V0 V1 (D1 V1 (.k 100) .n)) rfl (ac h1) h2
theorem VT(h1:a+1000*c+500<b):a+200<b:=fM a c b 1 (.p (.p V0 (.k 200)) K1) V2 (D1 (.p (.p (.p V0 (.m 1000 V1)) (.k 500)) K1) V2 .n) rfl h1
theorem o24(h1:a<5):a=0\/a=1\/a=2\/a=3\/a=4:=gX (a) 4 0 (bo _) (ak λq=>eM a (D1 (S1 V0) (.k 5) (D1 (.p (.k 4) K1) V0 .n)) rfl h1 q)
theorem VS(h1:a+(b+1)=c+1):a+1+b=c+1:=aK (fM a b c 1 (.p (S1 V0) V1) (S1 V2) (D1 (.p V0 (S1 V1)) (S1 V2) .n) rfl (ac h1)) (fM c a b 1 (S1 V0) (.p (S1 V1) V2) (D1 (S1 V0) (.p V1 (S1 V2)) .n) rfl (ac h1.symm))
theorem VR(h1:b-a=c+1):a<b:=aZ λq=>nk c (b-a) b a (D1 (S1 V0) V1 (D1 V2 V3 (D1 (.p V1 V3) V2 .n))) rfl (ac h1.symm) q (ac (aw (ak λq9=>((de (a) (b)).elim (λj60=>dF b a (D1 (S1 V0) V1 (D1 V1 V0 .n)) rfl q9 j60) (λj60=>dF c (b-a) (D1 (S1 V0) V1 (D1 V1 (.k 0) .n)) rfl (ac h1.symm) (ac (ct j60)))))))
theorem o29(h1:a+200<b):a<b:=dp a b 1 (S1 V0) V1 (D1 (.p (.p V0 (.k 200)) K1) V1 .n) rfl h1
theorem o30{a b:Nat}(h1:¬b<a):a<=b:=dp a b 1 V0 V1 (D1 V0 V1 .n) rfl (ak h1)
theorem o31(h1:a<7):a<=100:=dD a 1 V0 (.k 100) (D1 (S1 V0) (.k 7) .n) rfl h1
theorem o32(h1:a<=b):a+1<=b+1:=dp a b 1 (S1 V0) (S1 V1) (D1 V0 V1 .n) rfl h1
theorem o33{a b:Nat}(h1:a<b)(h2:a=b):False:=dF a b (D1 (S1 V0) V1 (D1 V1 V0 .n)) rfl h1 (ac h2.symm)
theorem o34:1<=a+1+1:=dD a 1 K1 (.p (S1 V0) K1) .n rfl
theorem Z'(h1:a<=10000):a<=16777216:=dD a 1 V0 (.k 16777216) (D1 V0 (.k 10000) .n) rfl h1
theorem Z9(h1:a<=b)(h2:b<=7):a<=7:=dp a b 1 V0 (.k 7) (D1 V0 V1 (D1 V1 (.k 7) .n)) rfl h1 h2
theorem Z2:a/8%3=0\/a/8%3=1\/a/8%3=2:=gX (a/8%3) 2 0 (bo _) (ak λq=>eM ((a/8)%3) (D1 (.p (.k 2) K1) V0 (D1 (S1 V0) (.k 3) .n)) rfl q (bx (y:=3) (a/8) (bL _)))
theorem ZV(h1:1<=a)(h2:a<=4):a=1\/a=2\/a=3\/a=4:=gX (a) 3 1 (ak λq=>eM a (D1 K1 V0 (D1 (S1 V0) K1 .n)) rfl h1 q) (ak λq=>eM a (D1 V0 (.k 4) (D1 (.p (.k 4) K1) V0 .n)) rfl h2 q)
theorem ZP(h1:a<=15):a-9<7:=aZ λq=>dF a (a-9) (D1 V0 (.k 15) (D1 (.k 7) V1 (D1 (.p V1 (.k 9)) V0 .n))) rfl h1 q (ac (aw (ak λq9=>((de (9) (a)).elim (λB6=>eM a (D1 (S1 V0) (.k 9) (D1 (.k 9) V0 .n)) rfl q9 B6) (λB6=>eM (a-9) (D1 (.k 7) V0 (D1 V0 (.k 0) .n)) rfl q (ac (ct B6)))))))
theorem ZK(h1:9<=a):9+(a-9)=a:=aK (dp a (a-9) 1 (.p (.k 9) V1) V0 (D1 (.p V1 (.k 9)) V0 .n) rfl (ac (aw (dD a 1 (.k 9) V0 (D1 (.k 9) V0 .n) rfl h1)))) (dp (a-9) a 1 V1 (.p (.k 9) V0) (D1 V1 (.p V0 (.k 9)) .n) rfl (aF (aD (a-9))))
theorem ZF(h1:a<=15):a<100000:=dD a 1 (S1 V0) (.k 100000) (D1 V0 (.k 15) .n) rfl h1
theorem Zy(h1:a=7):a<=7:=dD a 1 V0 (.k 7) (D1 V0 (.k 7) .n) rfl (ac h1)
theorem o43{a b:Int}(h1:b≠a)(h2:¬b<a):a<b:=ajW.mpr ⟨nY.mp h2,h1.symm⟩
theorem Zm(h1:a<64):a<=16777216:=dD a 1 V0 (.k 16777216) (D1 (S1 V0) (.k 64) .n) rfl h1
theorem Zd(h1:a+2*(b+1)<=1000):a<=1000:=dp a b 1 V0 (.k 1000) (D1 (.p V0 (.m 2 (S1 V1))) (.k 1000) .n) rfl h1
theorem o46(h1:a<b+1)(h2:c<a):a-1<b:=fM a b (a-1) 1 (S1 V2) V1 (D1 (S1 V0) (S1 V1) (D1 (S1 V2) V0 .n)) rfl h1 (ac (aw (dp c a 1 K1 V1 (D1 (S1 V0) V1 .n) rfl h2)))
theorem YU(h1:a<=150):a<=100000:=dD a 1 V0 (.k 100000) (D1 V0 (.k 150) .n) rfl h1
theorem YO(h1:a<=5000):a<=10000:=dD a 1 V0 (.k 10000) (D1 V0 (.k 5000) .n) rfl h1
theorem o49(h1:a+200<b):a+64<b:=dp a b 1 (.p (.p V0 (.k 64)) K1) V1 (D1 (.p (.p V0 (.k 200)) K1) V1 .n) rfl h1
theorem o50{a:Nat}(h1:a≠0):(↑a:Int)≠0:=λq=>eM a (D1 (.p (.k 0) K1) V0 (D1 V0 (.k 0) .n)) rfl (lS h1) (ac (jH (show dW (a)=dW (0)from q)))
theorem o51{a:Nat}(h1:a<7):(↑a:Int)<7:=QF (a) (7) (dD a 1 (S1 V0) (.k 7) (D1 (S1 V0) (.k 7) .n) rfl h1)
theorem o52{a:Nat}(h1:7<=a):¬(↑a:Int)<7:=λq=>eM a (D1 (.k 7) V0 (D1 (S1 V0) (.k 7) .n)) rfl h1 (Ca (a) (7) q)
theorem o53{a b c:Nat}(h1:a<c)(h2:c=b):a<b:=fM a c b 1 (S1 V0) V2 (D1 (S1 V0) V1 (D1 V1 V2 .n)) rfl h1 (ac h2)
theorem o54(h1:a-b=0)(h2:¬a<b):a=b:=aK (fM (a-b) b a 1 V2 V1 (D1 V0 (.k 0) (D1 V2 (.p V0 V1) .n)) rfl (ac h1) (aF (aD (a-b)))) (dp b a 1 V0 V1 (D1 V0 V1 .n) rfl (ak h2))
theorem o55(h1:a<=100):a<=1000:=dD a 1 V0 (.k 1000) (D1 V0 (.k 100) .n) rfl h1
theorem o56{a b:Nat}(h1:a<=b):a<=b:=dp a b 1 V0 V1 (D1 V0 V1 .n) rfl h1
theorem o57(h1:a<=1000):1+a<=16384:=dD a 1 (.p K1 V0) (.k 16384) (D1 V0 (.k 1000) .n) rfl h1
theorem o58(h1:c=a)(h2:c<=10000)(h3:d=b)(h4:d=e)(h5:e<=100):a+b<=16777216:=ak λq=>E4 a c b d e (D1 V0 V1 (D1 V1 (.k 10000) (D1 V2 V3 (D1 V3 V4 (D1 V4 (.k 100) (D1 (.p (.k 16777216) K1) (.p V0 V2) .n)))))) rfl (ac h1.symm) h2 (ac h3.symm) (ac h4) h5 q
theorem o59{a b:Nat}(h1:a<b):a≠b:=λq=>dF a b (D1 (S1 V0) V1 (D1 V1 V0 .n)) rfl h1 (ac q.symm)
theorem o60:1<=a+2:=dD a 1 K1 (.p V0 (.k 2)) .n rfl
theorem o61{a b c:Nat}(h1:a<c)(h2:c<b):a<b:=fM a c b 1 (S1 V0) V2 (D1 (S1 V0) V1 (D1 (S1 V1) V2 .n)) rfl h1 h2
theorem o62{a:Nat}:(max 0 (↑a:Int)).toNat=a:=by simp
theorem o63(h1:a+1<=b+1):a<=b:=dp a b 1 V0 V1 (D1 (S1 V0) (S1 V1) .n) rfl h1
theorem o64{a b:Nat}(h1:a<=b):a+(b-a)=b:=aK (fM b a (b-a) 1 (.p V1 V2) V0 (D1 (.p V2 V1) V0 .n) rfl (ac (aw (dp a b 1 V0 V1 (D1 V0 V1 .n) rfl h1)))) (fM a (b-a) b 1 V2 (.p V0 V1) (D1 V2 (.p V1 V0) .n) rfl (aF (aD (b-a))))
theorem o65{a b:Nat}(h1:a<b):¬(↑a:Int)>=(↑b:Int):=λq=>dF a b (D1 (S1 V0) V1 (D1 V1 V0 .n)) rfl h1 (TO (b) (a) q)
theorem o66{a b:Nat}(h1:a<b):(↑a:Int)<(↑b:Int):=QF (a) (b) (dp a b 1 (S1 V0) V1 (D1 (S1 V0) V1 .n) rfl h1)
theorem o67(h1:a+1<b+1):a<b:=dp a b 1 (S1 V0) V1 (D1 (.p (S1 V0) K1) (S1 V1) .n) rfl h1
theorem o68(h1:a<10000):a<100000:=dD a 1 (S1 V0) (.k 100000) (D1 (S1 V0) (.k 10000) .n) rfl h1
theorem o69(h1:a<=15):a<1000:=dD a 1 (S1 V0) (.k 1000) (D1 V0 (.k 15) .n) rfl h1
theorem o70:3≠4+a:=λq=>eM a (D1 (.p (.k 4) V0) (.k 3) .n) rfl (ac q.symm)
theorem o71(h1:a<3):8≠4+a:=λq=>eM a (D1 (S1 V0) (.k 3) (D1 (.k 8) (.p (.k 4) V0) .n)) rfl h1 (ac q)
theorem o72:a%4=0\/a%4=1\/a%4=2\/a%4=3:=gX (a%4) 3 0 (bo _) (ak λq=>eM (a%4) (D1 (.p (.k 3) K1) V0 (D1 (S1 V0) (.k 4) .n)) rfl q (bx (y:=4) a (bL _)))
theorem o73:a/4%2=0\/a/4%2=1:=gX (a/4%2) 1 0 (bo _) (ak λq=>eM ((a/4)%2) (D1 (.p K1 K1) V0 (D1 (S1 V0) (.k 2) .n)) rfl q (bx (y:=2) (a/4) (bL _)))
theorem o75{a b c:Nat}(h1:a<=c)(h2:c=b):a<=b:=fM a c b 1 V0 V2 (D1 V0 V1 (D1 V1 V2 .n)) rfl h1 (ac h2)
theorem o76(h1:a<=4):a<100000:=dD a 1 (S1 V0) (.k 100000) (D1 V0 (.k 4) .n) rfl h1
theorem o77(h1:a+(b+1)<=900):a<1000:=dp a b 1 (S1 V0) (.k 1000) (D1 (.p V0 (S1 V1)) (.k 900) .n) rfl h1
theorem o78(h1:a<2):a=0\/a=1:=gX (a) 1 0 (bo _) (ak λq=>eM a (D1 (S1 V0) (.k 2) (D1 (.p K1 K1) V0 .n)) rfl h1 q)
theorem o79(h1:a<100):a<100000:=dD a 1 (S1 V0) (.k 100000) (D1 (S1 V0) (.k 100) .n) rfl h1
theorem o80{a:Nat}:(↑a:Int)=0↔a=0:=by simp
theorem o81{a b c:Nat}(h1:a=c)(h2:c<b):a<b:=fM a c b 1 (S1 V0) V2 (D1 V0 V1 (D1 (S1 V1) V2 .n)) rfl (ac h1) h2
theorem o82(h1:a<=1):max (max 0 (max 0 0)+1) a<=1:=by simp_all
theorem o83(h1:a+1<=16777216):¬a+1+0>16777216:=λq=>eM a (D1 (S1 V0) (.k 16777216) (D1 (.p (.k 16777216) K1) (.p (S1 V0) (.k 0)) .n)) rfl h1 q
theorem o84{a b:Nat}(h1:b<a):¬(↑1:Int)>(↑a:Int)-(↑b:Int):=nY.mpr (Int.le_sub_right_of_add_le (Int.add_comm 1 ↑b▸eR.mpr h1))
theorem o85{a b:Nat}(h1:a<=100000):min 4294967295 ((↑a:Int)-(↑b:Int)).toNat=a-b:=(congrArg (min 4294967295) (Int.toNat_sub a b)).trans (kF (aM (bO a b) (aM h1 (by decide))))
theorem o86{a b:Nat}(h1:a<b):¬a>=b:=λq=>dF a b (D1 (S1 V0) V1 (D1 V1 V0 .n)) rfl h1 q
theorem o87(h1:a=1):a<=14:=dD a 1 V0 (.k 14) (D1 V0 K1 .n) rfl (ac h1)
theorem o88:a/3%4=0\/a/3%4=1\/a/3%4=2\/a/3%4=3:=gX (a/3%4) 3 0 (bo _) (ak λq=>eM ((a/3)%4) (D1 (.p (.k 3) K1) V0 (D1 (S1 V0) (.k 4) .n)) rfl q (bx (y:=4) (a/3) (bL _)))
theorem o89:a/12%3=0\/a/12%3=1\/a/12%3=2:=gX (a/12%3) 2 0 (bo _) (ak λq=>eM ((a/12)%3) (D1 (.p (.k 2) K1) V0 (D1 (S1 V0) (.k 3) .n)) rfl q (bx (y:=3) (a/12) (bL _)))
theorem o90{a b c:Nat}(h1:a<=c)(h2:b<=c):max a b<=c:=ak λq=>((de (a) (b)).elim (λOE=>kg b c (max a b) (D1 V0 V1 (D1 (S1 V1) V2 (D1 V2 V0 .n))) rfl h2 q (ac (akz OE))) (λOE=>kg a c (max a b) (D1 V0 V1 (D1 (S1 V1) V2 (D1 V2 V0 .n))) rfl h1 q (ac (Qm OE))))
theorem o91{a b:Nat}:(↑a:Int)=(↑b:Int)↔a=b:=⟨jH,congrArg dW⟩
theorem o92:3<100000:=lq [] 1 (.p (.k 3) K1) (.k 100000) .n rfl
theorem o94(h1:a+2*(b+1)<=1000):a+2+2*b<=1000:=dp a b 1 (.p (.p V0 (.k 2)) (.m 2 V1)) (.k 1000) (D1 (.p V0 (.m 2 (S1 V1))) (.k 1000) .n) rfl h1
theorem o95{a:Int}(h1:0<=a):¬a<0:=by simp_all
theorem o96{a:Int}{b:Nat}(h1:a.toNat<b)(h2:b<=16777216):a<2^63:=i63 (qK (QE h1)) (aM h2 (by decide))
theorem o97(h1:a<=100):a<=10000:=dD a 1 V0 (.k 10000) (D1 V0 (.k 100) .n) rfl h1
theorem o98(h1:a<b):a+1<=b:=dp a b 1 (S1 V0) V1 (D1 (S1 V0) V1 .n) rfl h1
theorem o99(h1:¬b<a):a-b=0:=aK (ak λq=>kg a b (a-b) (D1 V0 V1 (D1 (.p (.k 0) K1) V2 (D1 (.p V2 V1) V0 .n))) rfl (ak h1) q (ac (aw (ak λq9=>((de (b) (a)).elim (λB6=>dF a b (D1 (S1 V0) V1 (D1 V1 V0 .n)) rfl q9 B6) (λB6=>eM (a-b) (D1 (.p (.k 0) K1) V0 (D1 V0 (.k 0) .n)) rfl q (ac (ct B6)))))))) (ak λq=>eM (a-b) (D1 (S1 V0) (.k 0) .n) rfl q)
theorem Tf{a b:Nat}(h1:a<b):a+(b-a)=b:=aK (fM b a (b-a) 1 (.p V1 V2) V0 (D1 (.p V2 V1) V0 .n) rfl (ac (aw (dp a b 1 V0 V1 (D1 (S1 V0) V1 .n) rfl h1)))) (fM a (b-a) b 1 V2 (.p V0 V1) (D1 V2 (.p V1 V0) .n) rfl (aF (aD (b-a))))
theorem Te(h1:a<=7*(b-c)+11)(h2:b<=150):a<=4*400:=fM a (b-c) b 1 V0 (.m 4 (.k 400)) (D1 V0 (.p (.m 7 V1) (.k 11)) (.c 7 V2 (.k 150) (.c 7 V1 V2 .n))) rfl h1 h2 (bO b c)
theorem Td(h1:a+1<=16777216):¬a+1-(1+0)+1+0>16777216:=λq=>dF a ((a+1)-(1+0)) (D1 (S1 V0) (.k 16777216) (D1 (.p (.k 16777216) K1) (.p (S1 V1) (.k 0)) (D1 (.p V1 (.p K1 (.k 0))) (S1 V0) .n))) rfl h1 q (ac (aw (ak λq9=>eM a (D1 (.p (S1 V0) K1) (.p K1 (.k 0)) .n) rfl q9)))
theorem Tc(h1:a<b+1)(h2:¬a<b):a=b:=aK (dp a b 1 V0 V1 (D1 (S1 V0) (S1 V1) .n) rfl h1) (dp b a 1 V0 V1 (D1 V0 V1 .n) rfl (ak h2))
theorem Tb(h1:a<b)(h2:¬a=b-1):a<b-1:=aZ λq=>((bX h2).elim (λk0=>dF (b-1) a (D1 V0 V1 (D1 (S1 V1) V0 .n)) rfl q k0) (λk0=>kg a b (b-1) (D1 (S1 V0) V1 (D1 (S1 V2) V0 (D1 V1 (S1 V2) .n))) rfl h1 k0 (aF (aD (b-1)))))
theorem Ta(h1:1<=a):a-1<a:=dp a (a-1) 1 (S1 V1) V0 (D1 (S1 V1) V0 .n) rfl (ac (aw (dD a 1 K1 V0 (D1 K1 V0 .n) rfl h1)))
theorem S9:a<=a+(b+1):=dp a b 1 V0 (.p V0 (S1 V1)) .n rfl
theorem aco(h1:1<=a):a≠a-1:=λq=>dF a (a-1) (D1 V0 V1 (D1 (S1 V1) V0 .n)) rfl (ac q) (ac (aw (ak λq9=>eM a (D1 K1 V0 (D1 (S1 V0) K1 .n)) rfl h1 q9)))
theorem S8:1<=a+1:=dD a 1 K1 (S1 V0) .n rfl
theorem S7(h1:a+(b+1)<=c):a+1+b<=c:=fM a b c 1 (.p (S1 V0) V1) V2 (D1 (.p V0 (S1 V1)) V2 .n) rfl h1
theorem S6(h1:a<=b+1+c):a<=b+(c+1):=fM a b c 1 V0 (.p V1 (S1 V2)) (D1 V0 (.p (S1 V1) V2) .n) rfl h1
theorem S5{a b c:Nat}(h1:a<=c)(h2:c<=b):a<=b:=fM a c b 1 V0 V2 (D1 V0 V1 (D1 V1 V2 .n)) rfl h1 h2
theorem S4(h1:9<=a)(h2:b<3):a≠4+b:=λq=>dF a b (D1 (.k 9) V0 (D1 (S1 V1) (.k 3) (D1 V0 (.p (.k 4) V1) .n))) rfl h1 h2 (ac q)
theorem S3(h1:a<3):4+a<9:=dD a 1 (.p (.p (.k 4) V0) K1) (.k 9) (D1 (S1 V0) (.k 3) .n) rfl h1
theorem SZ(h1:9<=b)(h2:a<3):4+a<b:=dp b a 1 (.p (.p (.k 4) V1) K1) V0 (D1 (.k 9) V0 (D1 (S1 V1) (.k 3) .n)) rfl h1 h2
theorem SY(h1:a+0=b):¬a<b:=λq=>dF b a (D1 V0 (.p V1 (.k 0)) (D1 (S1 V1) V0 .n)) rfl (ac h1.symm) q
theorem SW(h1:¬1<=a):a=0:=aK (dD a 1 V0 (.k 0) (D1 (S1 V0) K1 .n) rfl (aZ h1)) (dD a 1 (.k 0) V0 .n rfl)
theorem SU(h1:a+1<=b):a<b:=dp a b 1 (S1 V0) V1 (D1 (S1 V0) V1 .n) rfl h1
theorem SS(h1:a+2*(b+1)<=2*(2*c+3)):a+2*b<=2*(2*c+3):=fM a b c 1 (.p V0 (.m 2 V1)) (.m 2 (.p (.m 2 V2) (.k 3))) (D1 (.p V0 (.m 2 (S1 V1))) (.m 2 (.p (.m 2 V2) (.k 3))) .n) rfl h1
theorem acm(h1:a<3)(h2:b<d)(h3:c+0=28)(h4:d<=7):7*(a+1)+b<c:=aZ λq=>nk a b d c (.c 7 (S1 V0) (.k 3) (D1 (S1 V1) V2 (D1 (.k 28) (.p V3 (.k 0)) (D1 V2 (.k 7) (D1 V3 (.p (.m 7 (S1 V0)) V1) .n))))) rfl h1 h2 (ac h3.symm) h4 q
theorem acl(h1:a+(b+1)=28):a/7-1<3:=aZ λq=>E4 a b ((a/7)-1) (a/7) (a%7) (D1 (.p V0 (S1 V1)) (.k 28) (.c 7 (.k 3) V2 (D1 (.p (.m 7 V3) V4) V0 (.c 7 (S1 V2) V3 .n)))) rfl (ac h1) q (ac (gI a 7)) (ac (aw (ak λq9=>dF ((a/7)-1) (a/7) (D1 (.k 3) V0 (D1 V0 V1 (D1 (S1 V1) K1 .n))) rfl q (bO (a/7) 1) q9)))
theorem ack(h1:7<=a)(h2:b<a%7):7*(a/7-1+1)+b<a:=Ti b (a%7) a ((a/7)-1) (a/7) 1 (.p (.p (.m 7 (S1 V3)) V0) K1) V2 (D1 (S1 V0) V1 (D1 (.p (.m 7 V4) V1) V2 (.c 7 (S1 V3) V4 .n))) rfl h2 (ac (gI a 7)) (ac (aw (fM a (a/7) (a%7) 7 K1 V1 (D1 (.k 7) V0 (D1 V0 (.p (.m 7 V1) V2) (D1 (S1 V2) (.k 7) .n))) rfl h1 (ac (gI a 7).symm) (bx (y:=7) a (bL _)))))
theorem acj(h1:a+(b+1)=28):a+1+b=28:=aK (dp a b 1 (.p (S1 V0) V1) (.k 28) (D1 (.p V0 (S1 V1)) (.k 28) .n) rfl (ac h1)) (dp a b 1 (.k 28) (.p (S1 V0) V1) (D1 (.k 28) (.p V0 (S1 V1)) .n) rfl (ac h1.symm))
theorem aci(h1:7*(c+1)+b=a)(h2:b<d)(h3:d<=7):a%7=b:=(congrArg (·%7) h1.symm).trans ((Ql 7 (c+1) b).trans (L7 (hJ h2 h3)))
theorem ach(h1:7*(b+1)+c=a)(h2:a%7=c):a/7-1=b:=aK (ak λq=>yj a b c (a%7) ((a/7)-1) (a/7) (D1 V0 (.p (.m 7 (S1 V1)) V2) (D1 V2 V3 (.c 7 (S1 V1) V4 (D1 (.p (.m 7 V5) V3) V0 (.c 7 (S1 V4) V5 .n))))) rfl (ac h1.symm) (ac h2.symm) q (ac (gI a 7)) (ac (aw (ak λq9=>E4 b c a (a%7) (a/7) (D1 (.p (.m 7 (S1 V0)) V1) V2 (D1 V3 V1 (D1 V2 (.p (.m 7 V4) V3) (.c 7 (S1 V4) K1 .n)))) rfl (ac h1) (ac h2) (ac (gI a 7).symm) q9)))) (ak λq=>yj b c a (a%7) ((a/7)-1) (a/7) (D1 (.p (.m 7 (S1 V0)) V1) V2 (D1 V3 V1 (.c 7 (S1 V4) V0 (D1 V2 (.p (.m 7 V5) V3) (.c 7 V5 (S1 V4) .n))))) rfl (ac h1) (ac h2) q (ac (gI a 7).symm) (aF (aD ((a/7)-1))))
theorem acg(h1:a%7=c)(h2:c<b):a%7<b:=fM (a%7) c b 1 (S1 V0) V2 (D1 V0 V1 (D1 (S1 V1) V2 .n)) rfl (ac h1) h2
theorem acf(h1:7*(a+1)+b<c+1)(h2:¬7*(a+1)+b=c):7*(a+1)+b<c:=aZ λq=>((bX h2).elim (λk0=>kg c a b (D1 V0 (.p (.m 7 (S1 V1)) V2) (D1 (.p (.p (.m 7 (S1 V1)) V2) K1) V0 .n)) rfl q k0) (λk0=>kg a b c (D1 (.p (.p (.m 7 (S1 V0)) V1) K1) (S1 V2) (D1 (S1 V2) (.p (.m 7 (S1 V0)) V1) .n)) rfl h1 k0))
theorem ace(h1:a+0=7):a+21=28:=aK (dD a 1 (.p V0 (.k 21)) (.k 28) (D1 (.p V0 (.k 0)) (.k 7) .n) rfl (ac h1)) (dD a 1 (.k 28) (.p V0 (.k 21)) (D1 (.k 7) (.p V0 (.k 0)) .n) rfl (ac h1.symm))
theorem acd(h1:7*(a+1)+b<c)(h2:c+0=7):False:=kg a b c (D1 (.p (.p (.m 7 (S1 V0)) V1) K1) V2 (D1 (.p V2 (.k 0)) (.k 7) .n)) rfl h1 (ac h2)
theorem acb:a+1+21=a+21+1:=aK (dD a 1 (.p (S1 V0) (.k 21)) (.p (.p V0 (.k 21)) K1) .n rfl) (dD a 1 (.p (.p V0 (.k 21)) K1) (.p (S1 V0) (.k 21)) .n rfl)
theorem aca(h1:a+(b+1)=7):a+1+b=7:=aK (dp a b 1 (.p (S1 V0) V1) (.k 7) (D1 (.p V0 (S1 V1)) (.k 7) .n) rfl (ac h1)) (dp a b 1 (.k 7) (.p (S1 V0) V1) (D1 (.k 7) (.p V0 (S1 V1)) .n) rfl (ac h1.symm))
theorem ab'(h1:a<b):a+min 0 0<b:=fM a b (min 0 0) 1 (.p (.p V0 V2) K1) V1 (D1 (S1 V0) V1 (D1 V2 (.k 0) .n)) rfl h1 (gH 0 0)
theorem ab9{a:Nat}(h1:a<1073741824):(↑a:Int).natAbs<1073741824:=by simp_all
theorem ab8(h1:a+1+1=b)(h2:b=c)(h3:c<2):False:=kg a b c (D1 (.p (S1 V0) K1) V1 (D1 V1 V2 (D1 (S1 V2) (.k 2) .n))) rfl (ac h1) (ac h2) h3
theorem ab7{a b c:Nat}(h1:b=c)(h2:c=a):a=b:=aK (fM c b a 1 V2 V1 (D1 V0 V1 (D1 V2 V0 .n)) rfl (ac h1.symm) (ac h2.symm)) (fM b c a 1 V0 V2 (D1 V0 V1 (D1 V1 V2 .n)) rfl (ac h1) (ac h2))
theorem ab6(h1:b+1<=a)(h2:c=d)(h3:d=a):a-(b+1)<c:=Ti d c a (a-(b+1)) b 1 (S1 V3) V1 (D1 V0 V1 (D1 V2 V0 (D1 (.p V3 (S1 V4)) V2 .n))) rfl (ac h2.symm) (ac h3.symm) (ac (aw (dp b a 1 (S1 V0) V1 (D1 (S1 V0) V1 .n) rfl h1)))
theorem ab5(h1:b+1<=a):a-(b+1)<a:=fM a (a-(b+1)) b 1 (S1 V1) V0 (D1 (.p V1 (S1 V2)) V0 .n) rfl (ac (aw (dp b a 1 (S1 V0) V1 (D1 (S1 V0) V1 .n) rfl h1)))
theorem ab4(h1:b+1<=a):a-(b+1)+1=a-b:=aK (tB (a-b) (a-(b+1)) a b 1 (S1 V1) V0 (D1 V2 (.p V0 V3) (D1 (.p V1 (S1 V3)) V2 .n)) rfl (aF (aD (a-b))) (ac (aw (dp b a 1 (S1 V0) V1 (D1 (S1 V0) V1 .n) rfl h1)))) (tB (a-(b+1)) (a-b) a b 1 V1 (S1 V0) (D1 V2 (.p V0 (S1 V3)) (D1 (.p V1 V3) V2 .n)) rfl (aF (aD (a-(b+1)))) (ac (aw (dp b a 1 V0 V1 (D1 (S1 V0) V1 .n) rfl h1))))
theorem ab3{a b c:Nat}(h1:b<c)(h2:¬(b<c/\b<a)):a<=b:=ak λq=>((mW.mp h2).elim (λk0=>dF b c (D1 (S1 V0) V1 (D1 V1 V0 .n)) rfl h1 (ak k0)) (λk0=>dF b a (D1 (S1 V0) V1 (D1 V1 V0 .n)) rfl q (ak k0)))
theorem ab2{a b:Nat}:(↑a:Int)<(↑b:Int)↔a<b:=by simp
theorem ab1{a b:Nat}{c:Prop}(h1:a<b/\c):a≠b:=dk h1.1
theorem ab0{a:Int}{b c:Nat}(h1:0<=a/\a<(↑c:Int))(h2:c=b):a<(↑b:Int):=by simp_all
theorem abZ{a:Int}{b c:Nat}(h1:a.toNat<b)(h2:b=c)(h3:c<=16777216):a<2^63:=i63 (qK (QE (h2▸h1))) (aM h3 (by decide))
theorem abY{a:Int}{b c:Nat}(h1:a.toNat<c)(h2:c=b):a<(↑b:Int):=QE (h2▸h1)
theorem abX{a:Int}{b c:Nat}(h1:0<=a/\a<=(↑c:Int))(h2:c=b):a<=(↑b:Int):=by simp_all
theorem abW{a:Int}{b c:Nat}(h1:c=b)(h2:c<=10000):min a.toNat b+(b-a.toNat+1)<=16777216:=aM (rV (aM (dJ _ _) (h1▸h2)) (nV (aM (bO _ _) (h1▸h2)))) (by decide)
theorem abV(h1:1<=b)(h2:b<=c+1):a<=a/\a<a+b/\a+b<=a+(c+1):=⟨dD a 1 V0 V0 .n rfl,⟨dp b a 1 (S1 V1) (.p V1 V0) (D1 K1 V0 .n) rfl h1,fM b c a 1 (.p V2 V0) (.p V2 (S1 V1)) (D1 V0 (S1 V1) .n) rfl h2⟩⟩
theorem abU:a<=a/\a<a+1/\a+1<=a+(b+1):=⟨dD a 1 V0 V0 .n rfl,⟨dD a 1 (S1 V0) (S1 V0) .n rfl,dp a b 1 (S1 V0) (.p V0 (S1 V1)) .n rfl⟩⟩
theorem abT(h1:a+1<=b/\b<c/\c<=a+1+d):a<=b/\b<c/\c<=a+(d+1):=⟨dp a b 1 V0 V1 (D1 (S1 V0) V1 .n) rfl h1.1,⟨dp b c 1 (S1 V0) V1 (D1 (S1 V0) V1 .n) rfl h1.2.1,fM c a d 1 V0 (.p V1 (S1 V2)) (D1 V0 (.p (S1 V1) V2) .n) rfl h1.2.2⟩⟩
theorem abS{a b c d:Nat}(h1:c<=d/\d<a/\a<=c+(b-c)):a<=b:=ak λq=>nk a c (b-c) b (D1 V0 (.p V1 V2) (D1 (S1 V3) V0 (D1 (.p V2 V1) V3 .n))) rfl h1.2.2 q (ac (aw (ak λq9=>((de (c) (b)).elim (λj0=>dF b c (D1 (S1 V0) V1 (D1 V1 V0 .n)) rfl q9 j0) (λj0=>nk c d a (b-c) (D1 V0 V1 (D1 (S1 V1) V2 (D1 V2 (.p V0 V3) (D1 V3 (.k 0) .n)))) rfl h1.1 h1.2.1 h1.2.2 (ac (ct j0)))))))
theorem abR{a b c:Nat}(h1:a<=c)(h2:b<=c-a):a+b<=c:=tB b (c-a) c a 1 (.p V3 V0) V2 (D1 V0 V1 (D1 (.p V1 V3) V2 .n)) rfl h2 (ac (aw (dp a c 1 V0 V1 (D1 V0 V1 .n) rfl h1)))
theorem abQ{a b c:Nat}(h1:a<=c)(h2:c=b):(↑a:Int)<=(↑b:Int):=QG (a) (b) (fM a c b 1 V0 V2 (D1 V0 V1 (D1 V1 V2 .n)) rfl h1 (ac h2))
theorem abO(h1:a<=1000):a-b+1<=16384:=dp a (a-b) 1 (S1 V1) (.k 16384) (D1 V0 (.k 1000) (D1 V1 V0 .n)) rfl h1 (bO a b)
theorem abN{a b c:Nat}(h1:a<b)(h2:c=b)(h3:c<=16777216):(↑a:Int)<2^63-1:=js.mpr (hJ h1 (aM (h2▸h3) (by decide)):a<9223372036854775807)
theorem abM(h1:b=c+(d+(e+1)))(h2:c=a):a<=b+1:=Ti c d e b a 1 V4 (S1 V3) (D1 (.p V0 (.p V1 (S1 V2))) V3 (D1 V4 V0 .n)) rfl (ac h1.symm) (ac h2.symm)
theorem abL(h1:b=c+d)(h2:c=a):a<=b+1:=tB c d b a 1 V3 (S1 V2) (D1 (.p V0 V1) V2 (D1 V3 V0 .n)) rfl (ac h1.symm) (ac h2.symm)
theorem abK{a b:Nat}(h1:¬a<=b):a+(b-a)=a:=aK (ak λq=>kg b a (b-a) (D1 (S1 V0) V1 (D1 (.p V2 V1) V0 .n)) rfl (aZ h1) (ac (aw (ak λq9=>((de (a) (b)).elim (λB6=>dF b a (D1 (S1 V0) V1 (D1 V1 V0 .n)) rfl (aZ h1) B6) (λB6=>dF a (b-a) (D1 (S1 V0) (.p V0 V1) (D1 V1 (.k 0) .n)) rfl q (ac (ct B6)))))))) (ak λq=>dF a (b-a) (D1 (.p (.p V0 V1) K1) V0 .n) rfl q)
theorem abJ{a b c:Nat}(h1:¬c<=a):min a b<=c:=fM a c (min a b) 1 V2 V1 (D1 (S1 V0) V1 (D1 V2 V0 .n)) rfl (aZ h1) (gH a b)
theorem abI:min (a+1) b<=a+1:=dp a (min (a+1) b) 1 V1 (S1 V0) (D1 V1 (S1 V0) .n) rfl (gH (a+1) b)
theorem abH{a b c:Nat}(h1:a<=b)(h2:b<c):a<=min b c:=ak λq=>((de (b) (c)).elim (λOE=>kg a b (min b c) (D1 V0 V1 (D1 (S1 V2) V0 (D1 V1 V2 .n))) rfl h1 q (ac (jD OE).symm)) (λOE=>dF b c (D1 (S1 V0) V1 (D1 V1 V0 .n)) rfl h2 OE))
theorem abG:0+a=a:=aK (dD a 1 (.p (.k 0) V0) V0 .n rfl) (dD a 1 V0 (.p (.k 0) V0) .n rfl)
theorem abF:¬1<1:=λq=>Hz [] (D1 (.p K1 K1) K1 .n) rfl q
theorem abE:¬2<1:=λq=>Hz [] (D1 (.p (.k 2) K1) K1 .n) rfl q
theorem abD:¬4<1:=λq=>Hz [] (D1 (.p (.k 4) K1) K1 .n) rfl q
theorem abC(h1:a<1):a=0:=aK (dD a 1 V0 (.k 0) (D1 (S1 V0) K1 .n) rfl h1) (dD a 1 (.k 0) V0 .n rfl)
theorem abB{a b:Nat}(h1:¬(↑b:Int)<(↑a:Int)):0=a-b:=aK (ak λq=>eM (a-b) (D1 (S1 V0) (.k 0) .n) rfl q) (ak λq=>kg a b (a-b) (D1 V0 V1 (D1 (.p (.k 0) K1) V2 (D1 (.p V2 V1) V0 .n))) rfl (ak λq7=>h1 (QF (b) (a) q7)) q (ac (aw (ak λq9=>((de (b) (a)).elim (λB6=>dF a b (D1 (S1 V0) V1 (D1 V1 V0 .n)) rfl q9 B6) (λB6=>eM (a-b) (D1 (.p (.k 0) K1) V0 (D1 V0 (.k 0) .n)) rfl q (ac (ct B6))))))))
theorem abA{a b:Nat}:((↑a:Int)+1*(↑b:Int)).toNat=a+b:=(congrArg Int.toNat (congrArg (λz:Int=>a+z) (Int.one_mul b))).trans (Jp (a+b))
theorem abz{a b c:Nat}(h1:b=c):min a b<=c:=fM b c (min a b) 1 V2 V1 (D1 V0 V1 (D1 V2 V0 .n)) rfl (ac h1) (dJ a b)
theorem aby{a b c d:Nat}(h1:b=d)(h2:¬c<=d):min a b<=c:=tB b d c (min a b) 1 V3 V2 (D1 V0 V1 (D1 (S1 V1) V2 (D1 V3 V0 .n))) rfl (ac h1) (aZ h2) (dJ a b)
theorem abx(h1:min b a-min c a=a):a<=b/\(c=0\/a=0):=⟨aM (ac h1.symm) (aM (bO _ _) (gH _ _)),(rU c).elim .inl λhc=>(rU a).elim .inr λha=>bV h1 (dk (dg (Nat.sub_le_sub_right (dJ b a) _) (Nat.sub_lt ha (Nat.lt_min.mpr ⟨hc,ha⟩))))⟩
theorem abw(h1:a<=b/\(c=0\/a=0)):a<=b:=by simp_all
theorem abv{a b:Nat}(h1:¬a<b):(↑a:Int)>=(↑b:Int):=QG (b) (a) (dp b a 1 V0 V1 (D1 V0 V1 .n) rfl (ak h1))
theorem abu{a b:Nat}(h1:b-a=0):¬(↑a:Int)<(↑b:Int):=λq=>kg (b-a) a b (D1 V0 (.k 0) (D1 (S1 V1) V2 (D1 V2 (.p V0 V1) .n))) rfl (ac h1) (Ca (a) (b) q) (aF (aD (b-a)))
theorem abt:a+2=a+1+1:=aK (dD a 1 (.p V0 (.k 2)) (.p (S1 V0) K1) .n rfl) (dD a 1 (.p (S1 V0) K1) (.p V0 (.k 2)) .n rfl)
theorem abr(h1:b<=2)(h2:c<=5)(h3:d<=2):a%3+b+(c+d+1)<=12:=tB b c d (a%3) 1 (.p (.p V3 V0) (.p (.p V1 V2) K1)) (.k 12) (D1 V0 (.k 2) (D1 V1 (.k 5) (D1 V2 (.k 2) (D1 (S1 V3) (.k 3) .n)))) rfl h1 h2 h3 (bx (y:=3) a (bL _))
theorem abq{a:Nat}(h1:a<4611686018427387904):(↑a:Int).natAbs<2^62:=by simp_all
theorem abp{a:Nat}:0<=(↑a:Int)+1:=QG (0) (a+1) (dD a 1 (.k 0) (S1 V0) .n rfl)
theorem abo(h1:b=d)(h2:d<=10000):min a b-(c+1)<=10000:=tB b d ((min a b)-(c+1)) (min a b) 1 V2 (.k 10000) (D1 V0 V1 (D1 V1 (.k 10000) (D1 V2 V3 (D1 V3 V0 .n)))) rfl (ac h1) h2 (bO (min a b) (c+1)) (dJ a b)
theorem abn:a+(b+1)+1=1+(a+(1+b)):=aK (dp a b 1 (.p (.p V0 (S1 V1)) K1) (.p K1 (.p V0 (.p K1 V1))) .n rfl) (dp a b 1 (.p K1 (.p V0 (.p K1 V1))) (.p (.p V0 (S1 V1)) K1) .n rfl)
theorem abm:a+1+b-1=a+b:=aK (fM a b ((a+1+b)-1) 1 V2 (.p V0 V1) (D1 (S1 V2) (.p (S1 V0) V1) .n) rfl (ac (aw (dp a b 1 K1 (.p (S1 V0) V1) .n rfl)))) (fM ((a+1+b)-1) a b 1 (.p V1 V2) V0 (D1 (.p (S1 V1) V2) (S1 V0) .n) rfl (aF (aD ((a+1+b)-1))))
theorem abl{a:Nat}(h1:a≠5):(↑a:Int)≠5:=λq=>((bX h1).elim (λk0=>eM a (D1 (.k 5) V0 (D1 (S1 V0) (.k 5) .n)) rfl (ac (jH (show dW (a)=dW (5)from q)).symm) k0) (λk0=>eM a (D1 V0 (.k 5) (D1 (.p (.k 5) K1) V0 .n)) rfl (ac (jH (show dW (a)=dW (5)from q))) k0))
theorem abk(h1:¬a≠5):3<a:=by simp_all
theorem abj(h1:a+1<=0):False:=eM a (D1 (S1 V0) (.k 0) .n) rfl h1
theorem abh:16-a<100000:=dD (16-a) 1 (S1 V0) (.k 100000) (D1 V0 (.k 16) .n) rfl (bO 16 a)
theorem abg{a:Nat}(h1:a<=16):16-(↑a:Int)=(↑(16-a):Int):=(aew h1).symm
theorem abf:0<=4:=lq [] 1 (.k 0) (.k 4) .n rfl
theorem abe{a:Nat}(h1:a<=15):(↑a:Int).natAbs<2^62:=dg h1 (by decide)
theorem abd(h1:a<24):a/4<6:=fM a (a/4) (a%4) 4 (S1 V1) (.k 6) (D1 (S1 V0) (.k 24) (D1 (.p (.m 4 V1) V2) V0 .n)) rfl h1 (ac (gI a 4))
theorem abc(h1:9<=a)(h2:a<=15):a=9\/a=10\/a=11\/a=12\/a=13\/a=14\/a=15:=gX (a) 6 9 (ak λq=>eM a (D1 (.k 9) V0 (D1 (S1 V0) (.k 9) .n)) rfl h1 q) (ak λq=>eM a (D1 V0 (.k 15) (D1 (.p (.k 15) K1) V0 .n)) rfl h2 q)
theorem abb{a b:Nat}:(↑a:Int)+(↑b:Int)=(↑(a+b):Int):=congrArg dW (show a+b=a+b from aK (dp a b 1 (.p V0 V1) (.p V0 V1) .n rfl) (dp a b 1 (.p V0 V1) (.p V0 V1) .n rfl))
theorem aba(h1:a<=100)(h2:c=16777216):a+(min 200 b-0)<=c:=ak λq=>nk a c ((min 200 b)-0) (min 200 b) (D1 V0 (.k 100) (D1 (.k 16777216) V1 (D1 (S1 V1) (.p V0 V2) (D1 V2 V3 (D1 V3 (.k 200) .n))))) rfl h1 (ac h2.symm) q (bO (min 200 b) 0) (gH 200 b)
theorem aa':a%2<100000:=dD (a%2) 1 (S1 V0) (.k 100000) (D1 (S1 V0) (.k 2) .n) rfl (bx (y:=2) a (bL _))
theorem aa9:a=b↔3*a+c=3*b+c:=⟨congrArg λx=>3*x+c,λh=>Nat.eq_of_mul_eq_mul_left (by decide) (Nat.add_right_cancel h)⟩
theorem aa8(h1:b<3)(h2:d<3)(h3:¬b=d):¬3*a+b=3*c+d:=λq=>h3 (om3 q h1 h2)
theorem aa7{a b:Nat}(h1:a=b):(↑a:Int)=(↑b:Int):=congrArg dW (show a=b from aK (dp a b 1 V0 V1 (D1 V0 V1 .n) rfl (ac h1)) (dp b a 1 V0 V1 (D1 V0 V1 .n) rfl (ac h1.symm)))
theorem aa6{a b:Nat}(h1:a<b):¬(↑a:Int)=(↑b:Int):=λq=>dF a b (D1 (S1 V0) V1 (D1 V1 V0 .n)) rfl h1 (ac (jH (show dW (a)=dW (b)from q)).symm)
theorem aa5{a b c d e f:Nat}(h1:a<b)(h2:c=e)(h3:d<f):((↑a:Int)<(↑b:Int)↔3*c+d<3*e+f):=by simp_all
theorem aa4{a b:Nat}(h1:b<a):¬(↑a:Int)=(↑b:Int):=λq=>dF b a (D1 (S1 V0) V1 (D1 V1 V0 .n)) rfl h1 (ac (jH (show dW (a)=dW (b)from q)))
theorem aa3{a b c d e f:Nat}(h1:b<a)(h2:c=e)(h3:d>f):((↑a:Int)<(↑b:Int)↔3*c+d<3*e+f):=⟨λh=>(aZ λq=>dF b a (D1 (S1 V0) V1 (D1 (S1 V1) V0 .n)) rfl (h1) (Ca _ _ h)),λh=>QF _ _ (aZ λq=>nk c d e f (D1 (.p (.p (.m 3 V0) V1) K1) (.p (.m 3 V2) V3) (.c 3 V2 V0 (D1 (S1 V3) V1 .n))) rfl (h) (ac (h2).symm) (h3))⟩
theorem aa2{a b:Nat}(h1:¬a=b):¬(↑a:Int)=(↑b:Int):=λq=>((bX h1).elim (λk0=>dF b a (D1 V0 V1 (D1 (S1 V1) V0 .n)) rfl (ac (jH (show dW (a)=dW (b)from q)).symm) k0) (λk0=>dF a b (D1 V0 V1 (D1 (S1 V1) V0 .n)) rfl (ac (jH (show dW (a)=dW (b)from q))) k0))
theorem aa1{a b c d:Nat}(h1:c<3)(h2:d<3)(h3:¬a=b):((↑a:Int)<(↑b:Int)↔3*a+c<3*b+d):=⟨λh=>(aZ λq=>nk c a b d (D1 (S1 V0) (.k 3) (.c 3 (S1 V1) V2 (D1 (.p (.m 3 V2) V3) (.p (.m 3 V1) V0) .n))) rfl (h1) (Ca _ _ h) q),λh=>QF _ _ ((Nat.lt_or_ge a b).elim id λq=>(aZ λq=>nk a c b d (D1 (.p (.p (.m 3 V0) V1) K1) (.p (.m 3 V2) V3) (D1 (S1 V3) (.k 3) (.c 3 (S1 V2) V0 .n))) rfl (h) (h2) (Nat.lt_of_le_of_ne q λe=>h3 e.symm)))⟩
theorem aa0(h1:3*b+c=a)(h2:b<=15)(h3:c<3):a-27<21:=aZ λq=>nk a b c (a-27) (D1 V0 (.p (.m 3 V1) V2) (.c 3 V1 (.k 15) (D1 (S1 V2) (.k 3) (D1 (.k 21) V3 (D1 (.p V3 (.k 27)) V0 .n))))) rfl (ac h1.symm) h2 h3 q (ac (aw (ak λq9=>((de (27) (a)).elim (λOG=>eM a (D1 (S1 V0) (.k 27) (D1 (.k 27) V0 .n)) rfl q9 OG) (λOG=>eM (a-27) (D1 (.k 21) V0 (D1 V0 (.k 0) .n)) rfl q (ac (ct OG)))))))
theorem aaZ(h1:3*b+c=a)(h2:9<=b):27+(a-27)=a:=aK (dp a (a-27) 1 (.p (.k 27) V1) V0 (D1 (.p V1 (.k 27)) V0 .n) rfl (ac (aw (fM b c a 1 (.k 27) V2 (D1 (.p (.m 3 V0) V1) V2 (.c 3 (.k 9) V0 .n)) rfl (ac h1) h2)))) (dp (a-27) a 1 V1 (.p (.k 27) V0) (D1 V1 (.p V0 (.k 27)) .n) rfl (aF (aD (a-27))))
theorem aaY(h1:a<24):a=0\/a=1\/a=2\/a=3\/a=4\/a=5\/a=6\/a=7\/a=8\/a=9\/a=10\/a=11\/a=12\/a=13\/a=14\/a=15\/a=16\/a=17\/a=18\/a=19\/a=20\/a=21\/a=22\/a=23:=gX (a) 23 0 (bo _) (ak λq=>eM a (D1 (S1 V0) (.k 24) (D1 (.p (.k 23) K1) V0 .n)) rfl h1 q)
theorem aaX(h1:1<=a):¬0+a<1:=λq=>eM a (D1 K1 V0 (D1 (.p (.p (.k 0) V0) K1) K1 .n)) rfl h1 q
theorem aaW:a/24%5=0\/a/24%5=1\/a/24%5=2\/a/24%5=3\/a/24%5=4:=gX (a/24%5) 4 0 (bo _) (ak λq=>eM ((a/24)%5) (D1 (.p (.k 4) K1) V0 (D1 (S1 V0) (.k 5) .n)) rfl q (bx (y:=5) (a/24) (bL _)))
theorem aaV:a%3=0\/a%3=1\/a%3=2:=gX (a%3) 2 0 (bo _) (ak λq=>eM (a%3) (D1 (.p (.k 2) K1) V0 (D1 (S1 V0) (.k 3) .n)) rfl q (bx (y:=3) a (bL _)))
theorem aaU(h1:b<=2):a%3+b<=16777216:=dp b (a%3) 1 (.p V1 V0) (.k 16777216) (D1 V0 (.k 2) (D1 (S1 V1) (.k 3) .n)) rfl h1 (bx (y:=3) a (bL _))
theorem aaT(h1:b<=2):a%3+b+(0+1)<=16777216:=dp b (a%3) 1 (.p (.p V1 V0) (.p (.k 0) K1)) (.k 16777216) (D1 V0 (.k 2) (D1 (S1 V1) (.k 3) .n)) rfl h1 (bx (y:=3) a (bL _))
theorem aaS(h1:b<=2)(h2:c<=5):a%3+b+(0+1)+c<=16777216:=fM b c (a%3) 1 (.p (.p (.p V2 V0) (.p (.k 0) K1)) V1) (.k 16777216) (D1 V0 (.k 2) (D1 V1 (.k 5) (D1 (S1 V2) (.k 3) .n))) rfl h1 h2 (bx (y:=3) a (bL _))
theorem aaR(h1:b<=2)(h2:c<=5)(h3:d<=2):a%3+b+(0+1)+c+d<=16777216:=tB b c d (a%3) 1 (.p (.p (.p (.p V3 V0) (.p (.k 0) K1)) V1) V2) (.k 16777216) (D1 V0 (.k 2) (D1 V1 (.k 5) (D1 V2 (.k 2) (D1 (S1 V3) (.k 3) .n)))) rfl h1 h2 h3 (bx (y:=3) a (bL _))
theorem aaQ{a b c:Nat}(h1:max a c<=b):a<=b:=fM (max a c) b a 1 V2 V1 (D1 V0 V1 (D1 V2 V0 .n)) rfl h1 (Nat.le_max_left a c)
theorem aaP{a b c:Nat}(h1:max c a<=b):a<=b:=fM (max c a) b a 1 V2 V1 (D1 V0 V1 (D1 V2 V0 .n)) rfl h1 (Nat.le_max_right c a)
theorem aaO(h1:a-b>0):1<=a-b:=dD (a-b) 1 K1 V0 (D1 (.p (.k 0) K1) V0 .n) rfl h1
theorem aaN(h1:9<=a):8<a:=dD a 1 (.p (.k 8) K1) V0 (D1 (.k 9) V0 .n) rfl h1
theorem aaM(h1:a<3):4+a≠8:=λq=>eM a (D1 (S1 V0) (.k 3) (D1 (.k 8) (.p (.k 4) V0) .n)) rfl h1 (ac q.symm)
theorem aaL(h1:a<3):a≠8:=λq=>eM a (D1 (S1 V0) (.k 3) (D1 (.k 8) V0 .n)) rfl h1 (ac q.symm)
theorem aaJ{a b c:Nat}(h1:a=c)(h2:b=c):a=b:=aK (fM a c b 1 V0 V2 (D1 V0 V1 (D1 V1 V2 .n)) rfl (ac h1) (ac h2.symm)) (fM c a b 1 V2 V1 (D1 V0 V1 (D1 V2 V0 .n)) rfl (ac h1.symm) (ac h2))
theorem aaI{a c d:Nat}{b:Prop}(h1:c<d)(h2:c=d):a=0\/b:=by simp_all
theorem aaH{a:Nat}{b:Prop}(h1:8<=a/\b):9<=1+a:=(Ji 1 a)▸nV h1.1
theorem aaG(h1:a=3*d+e)(h2:d<b)(h3:e<3):a<3*b+c:=Ti a d e b c 1 (S1 V0) (.p (.m 3 V3) V4) (D1 V0 (.p (.m 3 V1) V2) (.c 3 (S1 V1) V3 (D1 (S1 V2) (.k 3) .n))) rfl (ac h1) h2 h3
theorem aaF(h1:3*c+a=3*d+b)(h2:a<3)(h3:b<3):a=b:=om3 h1 h2 h3
theorem aaD(h1:3*a+b=3*c+d)(h2:3*a+b=3*e+f)(h3:e<c)(h4:f<3):False:=yj c d a b e f (D1 (.p (.m 3 V0) V1) (.p (.m 3 V2) V3) (D1 (.p (.m 3 V2) V3) (.p (.m 3 V4) V5) (.c 3 (S1 V4) V0 (D1 (S1 V5) (.k 3) .n)))) rfl (ac h1.symm) (ac h2) h3 h4
theorem aaC:0<=15:=lq [] 1 (.k 0) (.k 15) .n rfl
theorem aaB{a b:Int}(h1:a<b)(h2:b<a):False:=Int.lt_asymm h1 h2
theorem aaA:min (a+1) b+(b-(a+1)+1)=b+1:=aK (ak λq=>nk b (min (a+1) b) (b-(a+1)) a (D1 (.p (S1 V0) K1) (.p V1 (S1 V2)) (D1 V1 (S1 V3) (D1 (.p V2 (S1 V3)) V0 .n))) rfl q (gH (a+1) b) (ac (aw (ak λq9=>((de ((a+1)) (b)).elim (λj61=>dF b a (D1 (S1 V0) (S1 V1) (D1 (S1 V1) V0 .n)) rfl q9 j61) (λj61=>kg b (min (a+1) b) (b-(a+1)) (D1 (.p (S1 V0) K1) (.p V1 (S1 V2)) (D1 V1 V0 (D1 V2 (.k 0) .n))) rfl q (dJ (a+1) b) (ac (ct j61)))))))) (ak λq=>((de (a+1) (b)).elim (λOG=>nk (min (a+1) b) (b-(a+1)) b a (D1 (.p (.p V0 (S1 V1)) K1) (S1 V2) (D1 (S1 V3) V0 (D1 V2 (.p V1 (S1 V3)) .n))) rfl q (ac (jD OG).symm) (aF (aD (b-(a+1))))) (λOG=>kg (min (a+1) b) (b-(a+1)) b (D1 (.p (.p V0 (S1 V1)) K1) (S1 V2) (D1 V2 V0 .n)) rfl q (ac (kF OG).symm))))
theorem aaz(h1:a+(b+1)<=1000):a<=1000:=dp a b 1 V0 (.k 1000) (D1 (.p V0 (S1 V1)) (.k 1000) .n) rfl h1
theorem aax(h1:a<28):a/7-1<3:=aZ λq=>nk a ((a/7)-1) (a/7) (a%7) (D1 (S1 V0) (.k 28) (.c 7 (.k 3) V1 (D1 (.p (.m 7 V2) V3) V0 (.c 7 (S1 V1) V2 .n)))) rfl h1 q (ac (gI a 7)) (ac (aw (ak λq9=>dF ((a/7)-1) (a/7) (D1 (.k 3) V0 (D1 V0 V1 (D1 (S1 V1) K1 .n))) rfl q (bO (a/7) 1) q9)))
theorem aaw{a:Nat}(h1:7<=a):(↑(a/7):Int)-1=(↑(a/7-1):Int):=(aew (Nat.div_pos h1 (by decide))).symm
theorem aav(h1:a<=1048576)(h2:b<=(a+1)*14):a+b<=16777216:=aM (rV h1 (aM h2 (pg 14 (nV h1)))) (by decide)
theorem aau{a:Int}(h1:0<a):a-0=(↑a.toNat:Int):=(Int.sub_zero a).trans (pZ (qK h1)).symm
theorem aat{a:Int}(h1:¬0<a):0=(↑a.toNat:Int):=(congrArg dW (Int.toNat_of_nonpos (nY.mp h1))).symm
theorem aas{a:Int}(h1:0<=a):-2^62<=a:=mV (by decide) h1
theorem aar{a:Int}(h1:a<=1000):a<2^62:=ge h1 (by decide)
theorem aaq{a:Int}(h1:a<=1000):a.toNat<=16777216:=aM (Int.toNat_le.mpr h1) (by decide)
theorem aap(h1:a<=150):a<=5000:=dD a 1 V0 (.k 5000) (D1 V0 (.k 150) .n) rfl h1
theorem aan{a:Int}(h1:0<=a):-2^63<=a:=mV (by decide) h1
theorem aam{a:Int}{b:Nat}(h1:a.toNat<b):a<(↑b:Int):=QE h1
theorem aal{a:Int}{b c:Nat}(h1:0<=a)(h2:a.toNat<b)(h3:c=b)(h4:c<=16777216):-9223372036854775808<=a/\a<9223372036854775808:=⟨mV (by decide) h1,qJ (QE h2) (js.mpr (dg (h3▸h4) (by decide)))⟩
theorem aak{a:Int}{b c:Nat}(h1:a.toNat<c)(h2:b=c):a<(↑b:Int):=QE (h2▸h1)
theorem aaj{a b:Nat}:¬(↑(min a b):Int)<0:=λq=>eM (min a b) (D1 (S1 V0) (.k 0) .n) rfl (Ca (min a b) (0) q)
theorem aai{a b:Nat}:max 0 (min (↑a:Int) (↑b:Int))=max 0 (min (↑(min a b):Int) (↑b:Int)):=(congrArg (max 0) ((akO (eR.mpr (dJ a b))).trans (TN a b)).symm)
theorem aah:a%55296<1114112:=dD (a%55296) 1 (S1 V0) (.k 1114112) (D1 (S1 V0) (.k 55296) .n) rfl (bx (y:=55296) a (bL _))
theorem aag(h1:a<8):a=0\/a=1\/a=2\/a=3\/a=4\/a=5\/a=6\/a=7:=gX (a) 7 0 (bo _) (ak λq=>eM a (D1 (S1 V0) (.k 8) (D1 (.p (.k 7) K1) V0 .n)) rfl h1 q)
theorem aae{a b:Nat}:max (↑a:Int) (↑b:Int)=(↑(max a b):Int):=(WO a b).symm
theorem aad{a:Nat}:0<=(↑(a%55296):Int):=QG (0) (a%55296) (dD (a%55296) 1 (.k 0) V0 .n rfl)
theorem aac{a:Nat}:(↑(a%55296):Int)<=1114111:=QG (a%55296) (1114111) (dD (a%55296) 1 V0 (.k 1114111) (D1 (S1 V0) (.k 55296) .n) rfl (bx (y:=55296) a (bL _)))
theorem aab{a b:Nat}(h1:¬a<b):¬(↑a:Int)<(↑b:Int):=λq=>dF b a (D1 V0 V1 (D1 (S1 V1) V0 .n)) rfl (ak h1) (Ca (a) (b) q)
theorem aaa(h1:b%5=a):a=0\/a=1\/a=2\/a=3\/a=4:=gX (a) 4 0 (bo _) (ak λq=>dF a (b%5) (D1 V0 V1 (D1 (.p (.k 4) K1) V0 (D1 (S1 V1) (.k 5) .n))) rfl (ac h1.symm) q (bx (y:=5) b (bL _)))
theorem Z8(h1:(a/3+8*0)%24=(a/3+8*1)%24):0=1:=bV (EU h1) (by decide)
theorem Z7(h1:(a/3+8*0)%24=(a/3+8*2)%24):0=2:=bV (EU h1) (by decide)
theorem Z6(h1:(a/3+8*1)%24=(a/3+8*2)%24):1=2:=bV (EU h1) (by decide)
theorem Z5(h1:(a/3+8*1)%24=(a/3+8*0)%24):1=0:=bV (EU h1) (by decide)
theorem Z4(h1:(a/3+8*2)%24=(a/3+8*0)%24):2=0:=bV (EU h1) (by decide)
theorem Z3(h1:(a/3+8*2)%24=(a/3+8*1)%24):2=1:=bV (EU h1) (by decide)
theorem Z1{a b c d:Nat}(h1:c<d)(h2:c=d):a=b:=aK (ak λq=>dF c d (D1 (S1 V0) V1 (D1 V1 V0 .n)) rfl h1 (ac h2.symm)) (ak λq=>dF c d (D1 (S1 V0) V1 (D1 V1 V0 .n)) rfl h1 (ac h2.symm))
theorem Z0{a b c d:Nat}(h1:c<d)(h2:d=c):a=b:=aK (ak λq=>dF c d (D1 (S1 V0) V1 (D1 V1 V0 .n)) rfl h1 (ac h2)) (ak λq=>dF c d (D1 (S1 V0) V1 (D1 V1 V0 .n)) rfl h1 (ac h2))
theorem ZZ(h1:a<100):48+a/10<1114112:=fM a (a/10) (a%10) 1 (.p (.p (.k 48) V1) K1) (.k 1114112) (D1 (S1 V0) (.k 100) (D1 (.p (.m 10 V1) V2) V0 .n)) rfl h1 (ac (gI a 10))
theorem ZY:48+a%10<1114112:=dD (a%10) 1 (.p (.p (.k 48) V0) K1) (.k 1114112) (D1 (S1 V0) (.k 10) .n) rfl (bx (y:=10) a (bL _))
theorem ZX(h1:a<=29):3+(a-3)<=200:=dp a (a-3) 1 (.p (.k 3) V1) (.k 200) (D1 V0 (.k 29) (D1 V1 V0 .n)) rfl h1 (bO a 3)
theorem ZW:9<=200:=lq [] 1 (.k 9) (.k 200) .n rfl
theorem ZU(h1:a<=9):5+(a-1+(0+1))<=200:=dp a (a-1) 1 (.p (.k 5) (.p V1 (.p (.k 0) K1))) (.k 200) (D1 V0 (.k 9) (D1 V1 V0 .n)) rfl h1 (bO a 1)
theorem ZT:6<=200:=lq [] 1 (.k 6) (.k 200) .n rfl
theorem ZS:5+(a-(a-2)+(0+1)+1+1+1+1)<=200:=fM (a-(a-2)) a (a-2) 1 (.p (.k 5) (.p (.p (.p (.p (.p V0 (.p (.k 0) K1)) K1) K1) K1) K1)) (.k 200) (D1 V1 (.p V2 (.k 2)) (D1 (.p V0 V2) V1 .n)) rfl (aF (aD (a-2))) (ac (aw (dp (a-2) a 1 V0 V1 (D1 V0 V1 .n) rfl (bO a 2))))
theorem ZR:5+(0+1+1+1+1+1)<=200:=lq [] 1 (.p (.k 5) (.p (.p (.p (.p (.p (.k 0) K1) K1) K1) K1) K1)) (.k 200) .n rfl
theorem ZQ(h1:a<9):a=0\/a=1\/a=2\/a=3\/a=4\/a=5\/a=6\/a=7\/a=8:=gX (a) 8 0 (bo _) (ak λq=>eM a (D1 (S1 V0) (.k 9) (D1 (.p (.k 8) K1) V0 .n)) rfl h1 q)
theorem ZO:a+b+1=b+(a+1):=aK (dp b a 1 (.p (.p V1 V0) K1) (.p V0 (S1 V1)) .n rfl) (dp a b 1 (.p V1 (S1 V0)) (.p (.p V0 V1) K1) .n rfl)
theorem ZN:1+a=a+1:=aK (dD a 1 (.p K1 V0) (S1 V0) .n rfl) (dD a 1 (S1 V0) (.p K1 V0) .n rfl)
theorem ZM(h1:b<a):a-b=a-b-1+1:=aK (dp ((a-b)-1) (a-b) 1 V1 (S1 V0) (D1 V1 (S1 V0) .n) rfl (aF (aD ((a-b)-1)))) (dp (a-b) ((a-b)-1) 1 (S1 V1) V0 (D1 (S1 V1) V0 .n) rfl (ac (aw (fM b a (a-b) 1 K1 V2 (D1 (S1 V0) V1 (D1 V1 (.p V2 V0) .n)) rfl h1 (aF (aD (a-b)))))))
theorem ZL{a b c d e f:Nat}{g:Prop}(h1:((a<b/\c<=d)/\d+e<=f)/\g)(h2:e=1)(h3:¬d<f):False:=h3 (hJ (Nat.lt_add_of_pos_right (h2▸Nat.one_pos)) h1.1.2)
theorem ZJ(h1:a<=b+1):a+(b+1-a)=b+1:=aK (fM b a ((b+1)-a) 1 (.p V1 V2) (S1 V0) (D1 (.p V2 V1) (S1 V0) .n) rfl (ac (aw (dp a b 1 V0 (S1 V1) (D1 V0 (S1 V1) .n) rfl h1)))) (fM a ((b+1)-a) b 1 (S1 V2) (.p V0 V1) (D1 (S1 V2) (.p V1 V0) .n) rfl (aF (aD ((b+1)-a))))
theorem ZI:a+1+b=a+b+1:=aK (dp a b 1 (.p (S1 V0) V1) (.p (.p V0 V1) K1) .n rfl) (dp a b 1 (.p (.p V0 V1) K1) (.p (S1 V0) V1) .n rfl)
theorem ZH(h1:1<=0):False:=Hz [] (D1 K1 (.k 0) .n) rfl h1
theorem ZG(h1:4+a<=4*(0+1)):a=0:=aK (dD a 1 V0 (.k 0) (D1 (.p (.k 4) V0) (.m 4 (.p (.k 0) K1)) .n) rfl h1) (dD a 1 (.k 0) V0 .n rfl)
theorem ZE(h1:a=0\/a=1\/a=2):a<3:=h1.elim (λe=>e▸by decide) λq=>q.elim (λe=>e▸by decide) λe=>e▸by decide
theorem ZD{a:Int}{b:Nat}(h1:a<(↑b:Int))(h2:b<=16777216):a<2^63:=i63 (qK h1) (aM h2 (by decide))
theorem ZC{a:Int}{b:Nat}(h1:0<=a)(h2:a<=(↑b:Int))(h3:b<=16777216):-9223372036854775808<=a/\a<9223372036854775808:=⟨mV (by decide) h1,ge h2 (js.mpr (dg h3 (by decide)))⟩
theorem ZB{a:Int}{b:Nat}(h1:a<=(↑b:Int)):a.toNat<=b:=by simp_all
theorem ZA(h1:a<b):a<=b/\¬b-a=0:=⟨dp a b 1 V0 V1 (D1 (S1 V0) V1 .n) rfl h1,λq=>kg a b (b-a) (D1 (S1 V0) V1 (D1 V2 (.k 0) (D1 V1 (.p V2 V0) .n))) rfl h1 (ac q) (aF (aD (b-a)))⟩
theorem Zz(h1:¬b<a):a<b\/a-b=0:=by simp_all
theorem Zx:1<=4*400:=lq [] 1 K1 (.m 4 (.k 400)) .n rfl
theorem Zw{a b:Int}{c:Nat}(h1:c<c+0):a<b:=by simp at*
theorem Zv:0+a-1-b=a-1-b:=aK (ak λq=>yj ((a-1)-b) (((0+a)-1)-b) (a-1) b a ((0+a)-1) (D1 (S1 V0) V1 (D1 V2 (.p V0 V3) (D1 V4 (S1 V2) (D1 (.p V1 V3) V5 (D1 (S1 V5) (.p (.k 0) V4) .n))))) rfl q (aF (aD ((a-1)-b))) (aF (aD (a-1))) (ac (aw (ak λq9=>E4 a ((0+a)-1) ((a-1)-b) b (a-1) (D1 (.p (.k 0) V0) (S1 V1) (D1 (.p V2 V3) V4 (D1 (S1 V4) V0 (D1 (S1 V1) V3 .n)))) rfl (aF (aD ((0+a)-1))) (ac (aw (ak λq9=>((de (b) (((0+a)-1))).elim (λOD=>yj ((a-1)-b) (((0+a)-1)-b) a (a-1) ((0+a)-1) b (D1 (S1 V0) V1 (D1 V2 (S1 V3) (D1 V4 (.p (.k 0) V2) (D1 (S1 V3) V5 (D1 (.p V1 V5) V4 .n))))) rfl q (aF (aD (a-1))) (bO (0+a) 1) q9 (ac (aw OD))) (λOD=>dF ((a-1)-b) (((0+a)-1)-b) (D1 (S1 V0) V1 (D1 V1 (.k 0) .n)) rfl q (ac (ct OD))))))) (ac (aw (ak λq9=>nk ((a-1)-b) (((0+a)-1)-b) ((0+a)-1) a (D1 (S1 V0) V1 (D1 V1 V2 (D1 V2 (.p (.k 0) V3) (D1 (S1 V3) K1 .n)))) rfl q (bO ((0+a)-1) b) (bO (0+a) 1) q9))) q9))) (ac (aw (ak λq9=>nk ((a-1)-b) (((0+a)-1)-b) ((0+a)-1) a (D1 (S1 V0) V1 (D1 V1 V2 (D1 V2 (.p (.k 0) V3) (D1 (.p (.p (.k 0) V3) K1) K1 .n)))) rfl q (bO ((0+a)-1) b) (bO (0+a) 1) q9)))) (ak λq=>yj (((0+a)-1)-b) ((a-1)-b) ((0+a)-1) b a (a-1) (D1 (S1 V0) V1 (D1 V2 (.p V0 V3) (D1 (.p (.k 0) V4) (S1 V2) (D1 (.p V1 V3) V5 (D1 (S1 V5) V4 .n))))) rfl q (aF (aD (((0+a)-1)-b))) (aF (aD ((0+a)-1))) (ac (aw (ak λq9=>E4 a (a-1) (((0+a)-1)-b) b ((0+a)-1) (D1 V0 (S1 V1) (D1 (.p V2 V3) V4 (D1 (S1 V4) (.p (.k 0) V0) (D1 (S1 V1) V3 .n)))) rfl (aF (aD (a-1))) (ac (aw (ak λq9=>((de (b) ((a-1))).elim (λOD=>yj (((0+a)-1)-b) ((a-1)-b) a ((0+a)-1) (a-1) b (D1 (S1 V0) V1 (D1 (.p (.k 0) V2) (S1 V3) (D1 V4 V2 (D1 (S1 V3) V5 (D1 (.p V1 V5) V4 .n))))) rfl q (aF (aD ((0+a)-1))) (bO a 1) q9 (ac (aw OD))) (λOD=>dF (((0+a)-1)-b) ((a-1)-b) (D1 (S1 V0) V1 (D1 V1 (.k 0) .n)) rfl q (ac (ct OD))))))) (ac (aw (ak λq9=>nk (((0+a)-1)-b) ((a-1)-b) (a-1) a (D1 (S1 V0) V1 (D1 V1 V2 (D1 V2 V3 (D1 (.p (.p (.k 0) V3) K1) K1 .n)))) rfl q (bO (a-1) b) (bO a 1) q9))) q9))) (ac (aw (ak λq9=>nk (((0+a)-1)-b) ((a-1)-b) (a-1) a (D1 (S1 V0) V1 (D1 V1 V2 (D1 V2 V3 (D1 (S1 V3) K1 .n)))) rfl q (bO (a-1) b) (bO a 1) q9))))
theorem Zu(h1:b<a)(h2:c<b):a-1-b<a-1-c:=Ti c b ((a-1)-c) ((a-1)-b) (a-1) 1 (S1 V3) V2 (D1 (S1 V0) V1 (D1 V4 (.p V2 V0) (D1 (.p V3 V1) V4 .n))) rfl h2 (aF (aD ((a-1)-c))) (ac (aw (fM b a (a-1) 1 V0 V2 (D1 (S1 V0) V1 (D1 V1 (S1 V2) .n)) rfl h1 (aF (aD (a-1))))))
theorem Zt(h1:c<a):a-1-b<a:=fM a ((a-1)-b) (a-1) 1 (S1 V1) V0 (D1 V1 V2 (D1 (S1 V2) V0 .n)) rfl (bO (a-1) b) (ac (aw (dp c a 1 K1 V1 (D1 (S1 V0) V1 .n) rfl h1)))
theorem Zs(h1:a-c<=0)(h2:c<=b):a<=b:=tB (a-c) c b a 1 V3 V2 (D1 V0 (.k 0) (D1 V1 V2 (D1 V3 (.p V0 V1) .n))) rfl h1 h2 (aF (aD (a-c)))
theorem Zr(h1:b<=d)(h2:d<c)(h3:¬a>=b):(a+b)/2<c:=(ajB (by decide)).mpr (hJ (Nat.add_lt_add (jr (aZ h3) (dg h1 h2)) (dg h1 h2)) (ac (ajR c).symm))
theorem Zq(h1:¬a>=b):a<=(a+b)/2/\(a+b)/2<b:=⟨(Nat.le_div_iff_mul_le (by decide)).mpr (aM (ac (ajR a)) (kS (Nat.le_of_not_le h1) a)),(ajB (by decide)).mpr (hJ (ajS (aZ h1) b) (ac (ajR b).symm))⟩
theorem Zp(h1:b<=a/\a<d)(h2:d-b<=c+1):a-b<=c:=ak λq=>yj a d (d-b) c (a-b) b (D1 (S1 V0) V1 (D1 V2 (S1 V3) (D1 (S1 V3) V4 (D1 V1 (.p V2 V5) (D1 (.p V4 V5) V0 .n))))) rfl h1.2 h2 q (aF (aD (d-b))) (ac (aw (ak λq9=>dF b a (D1 V0 V1 (D1 (S1 V1) V0 .n)) rfl h1.1 q9)))
theorem Zo{a b:Nat}(h1:a<=b)(h2:¬b=a):a<b:=aZ λq=>((bX h2).elim (λk0=>dF a b (D1 V0 V1 (D1 (S1 V1) V0 .n)) rfl h1 k0) (λk0=>dF b a (D1 V0 V1 (D1 (S1 V1) V0 .n)) rfl q k0))
theorem Zn{a b:Int}(h1:a≠b)(h2:¬b<a):a<b:=ajW.mpr ⟨nY.mp h2,h1⟩
theorem Zl(h1:a-d<=c+1)(h2:d<=b/\b<a):a-(b+1)<=c:=ak λq=>yj (a-d) c d b (a-(b+1)) a (D1 V0 (S1 V1) (D1 V2 V3 (D1 (S1 V1) V4 (D1 V5 (.p V0 V2) (D1 (.p V4 (S1 V3)) V5 .n))))) rfl h1 h2.1 q (aF (aD (a-d))) (ac (aw (ak λq9=>dF b a (D1 (S1 V0) V1 (D1 (S1 V1) (S1 V0) .n)) rfl h2.2 q9)))
theorem Zk(h1:a<b+1)(h2:¬a=b):a<b:=aZ λq=>((bX h2).elim (λk0=>dF b a (D1 V0 V1 (D1 (S1 V1) V0 .n)) rfl q k0) (λk0=>dF a b (D1 (S1 V0) (S1 V1) (D1 (S1 V1) V0 .n)) rfl h1 k0))
theorem Zj{a b:Nat}:a-b<=a:=dp a (a-b) 1 V1 V0 (D1 V1 V0 .n) rfl (bO a b)
theorem Zi{a b:Nat}(h1:b<=a):a-(a-b)=b:=aK (tB b (a-(a-b)) a (a-b) 1 V1 V0 (D1 V2 (.p V3 V0) (D1 (.p V1 V3) V2 .n)) rfl (aF (aD (a-b))) (ac (aw (dp (a-b) a 1 V0 V1 (D1 V0 V1 .n) rfl (bO a b))))) (tB (a-(a-b)) b a (a-b) 1 V1 V0 (D1 V2 (.p V0 V3) (D1 (.p V3 V1) V2 .n)) rfl (aF (aD (a-(a-b)))) (ac (aw (dp b a 1 V0 V1 (D1 V0 V1 .n) rfl h1))))
theorem Zh{a:Int}{b c d:Nat}(h1:b<c)(h2:b=d)(h3:c=d):a<a:=by simp_all
theorem Zg(h1:c<b)(h2:c=a):a<=b-1:=tB c b a (b-1) 1 V2 V3 (D1 (S1 V0) V1 (D1 V2 V0 (D1 V1 (S1 V3) .n))) rfl h1 (ac h2.symm) (aF (aD (b-1)))
theorem Zf{a b:Int}{c d e f:Nat}(h1:c<d)(h2:c=e)(h3:d<f+1)(h4:¬(e<d/\d<=f)):a<b:=bV ⟨h2▸h1,tN h3⟩ h4
theorem Ze{a b:Int}{c d e f:Nat}(h1:c<d)(h2:d=e)(h3:e<c/\c<=f):a<b:=bV (h2▸h1) (Nat.lt_asymm h3.1)
theorem Zc(h1:a<b)(h2:c<a/\a<=d):a-1<b-1:=tB a b (b-1) (a-1) 1 (S1 V3) V2 (D1 (S1 V0) V1 (D1 V1 (S1 V2) (D1 (S1 V3) V0 .n))) rfl h1 (aF (aD (b-1))) (ac (aw (dp c a 1 K1 V1 (D1 (S1 V0) V1 .n) rfl h2.1)))
theorem Zb{a b:Int}{c d e f:Nat}(h1:c<d)(h2:d<e+1)(h3:f<c/\c<=e)(h4:¬(f<d/\d<=e)):a<b:=bV ⟨jr h3.1 h1,tN h2⟩ h4
theorem Za(h1:a<b)(h2:c<b/\b<=d)(h3:¬(c<a/\a<=d))(h4:¬a=c):a<b-1:=aZ λq=>((mW.mp h3).elim (λk0=>((bX h4).elim (λk1=>nk c b (b-1) a (D1 (S1 V0) V1 (D1 V2 V3 (D1 (S1 V3) V0 (D1 V1 (S1 V2) .n)))) rfl h2.1 q k1 (aF (aD (b-1)))) (λk1=>dF a c (D1 V0 V1 (D1 (S1 V1) V0 .n)) rfl (ak k0) k1))) (λk0=>((bX h4).elim (λk1=>kg a b d (D1 (S1 V0) V1 (D1 V1 V2 (D1 (S1 V2) V0 .n))) rfl h1 h2.2 (aZ k0)) (λk1=>kg a b d (D1 (S1 V0) V1 (D1 V1 V2 (D1 (S1 V2) V0 .n))) rfl h1 h2.2 (aZ k0)))))
theorem Y'(h1:a<b+1)(h2:c<=b)(h3:¬(c<a/\a<=b))(h4:¬a=c):a<b:=aZ λq=>((mW.mp h3).elim (λk0=>((bX h4).elim (λk1=>kg c b a (D1 V0 V1 (D1 V1 V2 (D1 (S1 V2) V0 .n))) rfl h2 q k1) (λk1=>dF a c (D1 V0 V1 (D1 (S1 V1) V0 .n)) rfl (ak k0) k1))) (λk0=>((bX h4).elim (λk1=>dF a b (D1 (S1 V0) (S1 V1) (D1 (S1 V1) V0 .n)) rfl h1 (aZ k0)) (λk1=>dF a b (D1 (S1 V0) (S1 V1) (D1 (S1 V1) V0 .n)) rfl h1 (aZ k0)))))
theorem Y9:a-0<=a:=dp a (a-0) 1 V1 V0 (D1 V1 V0 .n) rfl (bO a 0)
theorem Y8{a b:Int}{c:Nat}(h1:c<0):a<b:=by simp at*
theorem Y7{a b:Int}{c d:Nat}(h1:c<d)(h2:d<=c):a<b:=bV h2 (Nat.not_le_of_lt h1)
theorem Y6{a b:Int}{c d:Nat}(h1:c<1)(h2:d<c):a<b:=by simp_all
theorem Y5(h1:2<=a):1+(a-1)<=a:=dp a (a-1) 1 (.p K1 V1) V0 (D1 (S1 V1) V0 .n) rfl (ac (aw (dD a 1 K1 V0 (D1 (.k 2) V0 .n) rfl h1)))
theorem Y4(h1:a>1)(h2:a<=1+(b-1)):a-1<b:=tB a (b-1) b (a-1) 1 (S1 V3) V2 (D1 V0 (.p K1 V1) (D1 (S1 V1) V2 (D1 (S1 V3) V0 .n))) rfl h2 (ac (aw (fM a (b-1) b 1 K1 V2 (D1 (.p K1 K1) V0 (D1 V0 (.p K1 V1) (D1 V1 V2 .n))) rfl h1 h2 (bO b 1)))) (ac (aw (dD a 1 K1 V0 (D1 (.p K1 K1) V0 .n) rfl h1)))
theorem Y3(h1:a>1):0<a-1:=dp a (a-1) 1 (.p (.k 0) K1) V1 (D1 (.p K1 K1) V0 (D1 V0 (S1 V1) .n)) rfl h1 (aF (aD (a-1)))
theorem Y1(h1:a>1):a-1<a:=dp a (a-1) 1 (S1 V1) V0 (D1 (S1 V1) V0 .n) rfl (ac (aw (dD a 1 K1 V0 (D1 (.p K1 K1) V0 .n) rfl h1)))
theorem Y0(h1:2<=b)(h2:a<=1+(b-1)):a<=b:=fM a (b-1) b 1 V0 V2 (D1 V0 (.p K1 V1) (D1 (S1 V1) V2 .n)) rfl h2 (ac (aw (dD b 1 K1 V0 (D1 (.k 2) V0 .n) rfl h1)))
theorem YZ(h1:1<=a)(h2:¬a>1):a=1:=aK (ak h2) h1
theorem YY(h1:2<=a):1<1+(a-1):=dp a (a-1) 1 (.p K1 K1) (.p K1 V1) (D1 (.k 2) V0 (D1 V0 (S1 V1) .n)) rfl h1 (aF (aD (a-1)))
theorem YX(h1:a<b)(h2:b<2):a=0:=aK (dp a b 1 V0 (.k 0) (D1 (S1 V0) V1 (D1 (S1 V1) (.k 2) .n)) rfl h1 h2) (dD a 1 (.k 0) V0 .n rfl)
theorem YW(h1:0<a)(h2:a<2):a=1:=aK (dD a 1 V0 K1 (D1 (S1 V0) (.k 2) .n) rfl h2) (dD a 1 K1 V0 (D1 (.p (.k 0) K1) V0 .n) rfl h1)
theorem YV:1<=2:=lq [] 1 K1 (.k 2) .n rfl
theorem YT(h1:2<=a):2+(a-(1+1))<=a:=dp a (a-(1+1)) 1 (.p (.k 2) V1) V0 (D1 (.p V1 (.p K1 K1)) V0 .n) rfl (ac (aw (dD a 1 (.p K1 K1) V0 (D1 (.k 2) V0 .n) rfl h1)))
theorem YS(h1:2<=b)(h2:a<=2+(b-(1+1))):a<=b:=fM a (b-(1+1)) b 1 V0 V2 (D1 V0 (.p (.k 2) V1) (D1 (.p V1 (.p K1 K1)) V2 .n)) rfl h2 (ac (aw (dD b 1 (.p K1 K1) V0 (D1 (.k 2) V0 .n) rfl h1)))
theorem YR(h1:2<=b)(h2:a<=2+(b-(1+1))):a+(b-a)<=b:=fM b a (b-a) 1 (.p V1 V2) V0 (D1 (.p V2 V1) V0 .n) rfl (ac (aw (fM a (b-(1+1)) b 1 V0 V2 (D1 V0 (.p (.k 2) V1) (D1 (.p V1 (.p K1 K1)) V2 .n)) rfl h2 (ac (aw (dD b 1 (.p K1 K1) V0 (D1 (.k 2) V0 .n) rfl h1))))))
theorem YQ(h1:2<=b)(h2:a<=c+(b-c))(h3:c<=2+(b-(1+1))):a<=b:=ak λq=>nk a c (b-c) b (D1 V0 (.p V1 V2) (D1 (S1 V3) V0 (D1 (.p V2 V1) V3 .n))) rfl h2 q (ac (aw (ak λq9=>((de ((1+1)) (b)).elim (λj21=>kg c (b-(1+1)) b (D1 V0 (.p (.k 2) V1) (D1 (S1 V2) V0 (D1 (.p V1 (.p K1 K1)) V2 .n))) rfl h3 q9 (ac (aw j21))) (λj21=>kg b c (b-(1+1)) (D1 (.k 2) V0 (D1 V1 (.p (.k 2) V2) (D1 (S1 V0) V1 (D1 V2 (.k 0) .n)))) rfl h1 h3 q9 (ac (ct j21)))))))
theorem YN:3<9:=lq [] 1 (.p (.k 3) K1) (.k 9) .n rfl
theorem YM:7<9:=lq [] 1 (.p (.k 7) K1) (.k 9) .n rfl
theorem YL:8<9:=lq [] 1 (.p (.k 8) K1) (.k 9) .n rfl
theorem YK(h1:¬a=b):4+a≠4+b:=λq=>((bX h1).elim (λk0=>dF b a (D1 (.p (.k 4) V0) (.p (.k 4) V1) (D1 (S1 V1) V0 .n)) rfl (ac q.symm) k0) (λk0=>dF a b (D1 (.p (.k 4) V0) (.p (.k 4) V1) (D1 (S1 V1) V0 .n)) rfl (ac q) k0))
theorem YJ:a+b+0+c=a+(b+c):=aK (fM a b c 1 (.p (.p (.p V0 V1) (.k 0)) V2) (.p V0 (.p V1 V2)) .n rfl) (fM a b c 1 (.p V0 (.p V1 V2)) (.p (.p (.p V0 V1) (.k 0)) V2) .n rfl)
theorem YI(h1:a<=10000):¬0+a>16777216:=λq=>eM a (D1 V0 (.k 10000) (D1 (.p (.k 16777216) K1) (.p (.k 0) V0) .n)) rfl h1 q
theorem YH{a b:Nat}(h1:¬b<a):(↑1:Int)>(↑a:Int)-(↑b:Int):=ge (Int.sub_nonpos_of_le (eR.mpr (ak h1))) (by decide)
theorem YG:8<=7*0+11:=lq [] 1 (.k 8) (.p (.m 7 (.k 0)) (.k 11)) .n rfl
theorem YF(h1:b+(c+1)=a):a-b=c+1:=aK (tB a b c (a-b) 1 V3 (S1 V2) (D1 V0 (.p V1 (S1 V2)) (D1 (.p V3 V1) V0 .n)) rfl (ac h1.symm) (ac (aw (fM b c a 1 V0 V2 (D1 (.p V0 (S1 V1)) V2 .n) rfl (ac h1))))) (tB b c a (a-b) 1 (S1 V1) V3 (D1 (.p V0 (S1 V1)) V2 (D1 V2 (.p V3 V0) .n)) rfl (ac h1) (aF (aD (a-b))))
theorem YE{a b:Int}(h1:a>b):a=max b a:=(Mb (qK h1)).symm
theorem YD{a b:Int}(h1:¬b>a):a=max a b:=(akP (nY.mp h1)).symm
theorem YC{a b:Int}{c:Nat}(h1:a.natAbs<2^50)(h2:b.natAbs<=c):(a+b).natAbs<=c+2^50:=aM (Int.natAbs_add_le a b) (aM (rV (Jh h1) h2) (ac (Ji _ _)))
theorem YB{a:Nat}(h1:a<=16777216):¬(↑a:Int)>=2^63:=λq=>eM a (D1 V0 (.k 16777216) (D1 (.k 9223372036854775808) V0 .n)) rfl h1 (TO (9223372036854775808) (a) q)
theorem YA{a:Int}(h1:0<=a/\a<=1114111):0<=a/\a<=1114111:=by omega
theorem Yz(h1:b<=64):min a b<=64:=dp b (min a b) 1 V1 (.k 64) (D1 V0 (.k 64) (D1 V1 V0 .n)) rfl h1 (dJ a b)
theorem Yy{a:Int}{b:Nat}(h1:a.natAbs<=b)(h2:b<=64*2^50):-2^63<=a/\a<2^63:=TQ (n:=2^63) (dg (aM h1 h2) (by decide))
theorem Yx{a:Int}(h1:a.natAbs<2^50):-2^63<=a/\a<2^63:=TQ (n:=2^63) (jr h1 (by decide))
theorem Yw{a:Nat}(h1:a<=16777216):(↑a:Int)<2^63:=QF (a) (9223372036854775808) (aZ λq=>eM a (D1 V0 (.k 16777216) (D1 (.k 9223372036854775808) V0 .n)) rfl h1 q)
theorem Yv:0<=64:=lq [] 1 (.k 0) (.k 64) .n rfl
theorem Yu{a b c:Nat}:a+b+c=a+(c+b):=aK (fM a c b 1 (.p (.p V0 V2) V1) (.p V0 (.p V1 V2)) .n rfl) (fM a b c 1 (.p V0 (.p V2 V1)) (.p (.p V0 V1) V2) .n rfl)
theorem Yt{a:Int}(h1:¬a<1):1<=a.toNat:=Int.lt_toNat.mpr (nY.mp h1)
theorem Yr{a:Int}{b:Nat}(h1:b<=16/\a<=64/\0<=a):a.toNat<=64:=by simp_all
theorem Yq{a:Int}{b:Nat}(h1:b<=16/\a<=64/\0<=a):-9223372036854775808<=a/\a<9223372036854775808:=⟨mV (by decide) h1.2.2,ge h1.2.1 (by decide)⟩
theorem Yp{a:Int}(h1:¬a<1):0<a:=nY.mp h1
theorem Yo{a:Nat}{b c:Int}(h1:(↑a:Int)>b)(h2:a<=16/\c<=64/\0<=c)(h3:b>=(2^63-1)/64):False:=bV (ge h3 h1) (nY.mpr (mV (eR.mpr h2.1) (by decide)))
theorem Yn(h1:a<=8):a<=64:=dD a 1 V0 (.k 64) (D1 V0 (.k 8) .n) rfl h1
theorem Ym(h1:a+2*b<=2*(2*c+3))(h2:c<=5000):a<=16777215:=fM a b c 1 V0 (.k 16777215) (D1 (.p V0 (.m 2 V1)) (.m 2 (.p (.m 2 V2) (.k 3))) (.c 4 V2 (.k 5000) .n)) rfl h1 h2
theorem Yl:a+1+b+c=a+(b+1)+c:=aK (fM a b c 1 (.p (.p (S1 V0) V1) V2) (.p (.p V0 (S1 V1)) V2) .n rfl) (fM a b c 1 (.p (.p V0 (S1 V1)) V2) (.p (.p (S1 V0) V1) V2) .n rfl)
theorem Yk{a b c d:Nat}(h1:a<=a+b/\a+b<a+b+c/\a+b+c<=a+(d-a)):a+b+c<=d:=ak λq=>E4 a b c (d-a) d (D1 (.p (.p V0 V1) V2) (.p V0 V3) (D1 (S1 V4) (.p (.p V0 V1) V2) (D1 (.p V3 V0) V4 .n))) rfl h1.2.2 q (ac (aw (ak λq9=>((de (a) (d)).elim (λj0=>dF d a (D1 (S1 V0) V1 (D1 V1 V0 .n)) rfl q9 j0) (λj0=>nk a b c (d-a) (D1 (.p (.p V0 V1) K1) (.p (.p V0 V1) V2) (D1 (.p (.p V0 V1) V2) (.p V0 V3) (D1 V3 (.k 0) .n))) rfl h1.2.1 h1.2.2 (ac (ct j0)))))))
theorem Yj{a b:Nat}:a+b-a=b:=aK (fM b ((a+b)-a) a 1 V1 V0 (D1 (.p V1 V2) (.p V2 V0) .n) rfl (ac (aw (dp a b 1 V0 (.p V0 V1) .n rfl)))) (fM ((a+b)-a) b a 1 V1 V0 (D1 (.p V2 V1) (.p V0 V2) .n) rfl (aF (aD ((a+b)-a))))
theorem Yi{a b c:Nat}:a+b+c-(a+b)=c:=aK (tB c ((a+b+c)-(a+b)) a b 1 V1 V0 (D1 (.p V1 (.p V2 V3)) (.p (.p V2 V3) V0) .n) rfl (ac (aw (fM a b c 1 (.p V0 V1) (.p (.p V0 V1) V2) .n rfl)))) (tB ((a+b+c)-(a+b)) c a b 1 V1 V0 (D1 (.p (.p V2 V3) V1) (.p V0 (.p V2 V3)) .n) rfl (aF (aD ((a+b+c)-(a+b)))))
theorem Yh{a:Int}(h1:0<=a):a=(↑a.toNat:Int):=(pZ h1).symm
theorem Yg{a b c:Nat}{d:Int}(h1:a=c+d.toNat)(h2:c<b)(h3:d<1000000):a<b+1000000:=h1▸dg (kS (Int.toNat_le.mpr (qK h3)) c) (ajS h2 1000000)
theorem Ye:min 60 a<=60:=dD (min 60 a) 1 V0 (.k 60) (D1 V0 (.k 60) .n) rfl (gH 60 a)
theorem Yd{a b:Nat}(h1:a≠b)(h2:¬b<a):a<b:=aZ λq=>((bX h1).elim (λk0=>dF b a (D1 V0 V1 (D1 (S1 V1) V0 .n)) rfl q k0) (λk0=>dF a b (D1 V0 V1 (D1 (S1 V1) V0 .n)) rfl (ak h2) k0))
theorem Yc{a b:Nat}(h1:a<b)(h2:b<a):False:=dF a b (D1 (S1 V0) V1 (D1 (S1 V1) V0 .n)) rfl h1 h2
theorem Yb{a b:Nat}(h1:b≠a)(h2:¬b<a):a<b:=aZ λq=>((bX h1).elim (λk0=>dF a b (D1 V0 V1 (D1 (S1 V1) V0 .n)) rfl (ak h2) k0) (λk0=>dF b a (D1 V0 V1 (D1 (S1 V1) V0 .n)) rfl q k0))
theorem X'{a c:Nat}{b:Prop}(h1:c<c):a=0\/b:=by simp at*
theorem X9{a c d:Nat}{b:Prop}(h1:c<d)(h2:d<c):a=0\/b:=bV h1 (Nat.lt_asymm h2)
theorem X8{a b c:Nat}(h1:a<b)(h2:b<c)(h3:c=a):False:=kg a b c (D1 (S1 V0) V1 (D1 (S1 V1) V2 (D1 V2 V0 .n))) rfl h1 h2 (ac h3)
theorem X7(h1:a+1000*d+500<c)(h2:b<=d):a+1000*b+500<c:=tB a d c b 1 (.p (.p (.p V0 (.m 1000 V3)) (.k 500)) K1) V2 (D1 (.p (.p (.p V0 (.m 1000 V1)) (.k 500)) K1) V2 (.c 1000 V3 V1 .n)) rfl h1 h2
theorem X6{a:Nat}:¬(↑(a-2):Int)<0:=by simp
theorem X5{a:Nat}:max 0 (min (-2+(↑a:Int)) (↑a:Int))=max 0 (min (↑(a-2):Int) (↑a:Int)):=by
 rcases a with _|_|n
 ·rfl
 ·rfl
 ·exact congrArg (λz:Int=>max 0 (min z _)) ((congrArg (-2+·) (Int.add_comm n 2)).trans (Int.neg_add_cancel_left 2 n))
theorem X4(h1:a<=29):3+(a-3)<=16777216:=dp a (a-3) 1 (.p (.k 3) V1) (.k 16777216) (D1 V0 (.k 29) (D1 V1 V0 .n)) rfl h1 (bO a 3)
theorem X3(h1:a<=9):5+(a-1)<=16777216:=dp a (a-1) 1 (.p (.k 5) V1) (.k 16777216) (D1 V0 (.k 9) (D1 V1 V0 .n)) rfl h1 (bO a 1)
theorem X2(h1:a<=9):5+(a-1)+(0+1)<=16777216:=dp a (a-1) 1 (.p (.p (.k 5) V1) (.p (.k 0) K1)) (.k 16777216) (D1 V0 (.k 9) (D1 V1 V0 .n)) rfl h1 (bO a 1)
theorem X1:5+(0+1+1+1)+(0+1)+(a-(a-2))<=16777216:=fM (a-(a-2)) a (a-2) 1 (.p (.p (.p (.k 5) (.p (.p (.p (.k 0) K1) K1) K1)) (.p (.k 0) K1)) V0) (.k 16777216) (D1 V1 (.p V2 (.k 2)) (D1 (.p V0 V2) V1 .n)) rfl (aF (aD (a-2))) (ac (aw (dp (a-2) a 1 V0 V1 (D1 V0 V1 .n) rfl (bO a 2))))
theorem XZ:5+(0+1+1+1)+(0+1)+(a-(a-2))+(0+1)<=16777216:=fM (a-(a-2)) a (a-2) 1 (.p (.p (.p (.p (.k 5) (.p (.p (.p (.k 0) K1) K1) K1)) (.p (.k 0) K1)) V0) (.p (.k 0) K1)) (.k 16777216) (D1 V1 (.p V2 (.k 2)) (D1 (.p V0 V2) V1 .n)) rfl (aF (aD (a-2))) (ac (aw (dp (a-2) a 1 V0 V1 (D1 V0 V1 .n) rfl (bO a 2))))
theorem eA{P0 P1:Prop}{G:Prop}(h:P0/\P1)(k:∀(_:P0) (_:P1),G):G:=by obtain⟨a0,a1⟩:=h;exact k a0 a1
theorem eE{T0:Sort _}{P0:T0->Prop}{G:Prop}(h:∃x0,P0 x0)(k:∀(x0:T0) (_:P0 x0),G):G:=by obtain⟨a0,a1⟩:=h;exact k a0 a1
theorem yK{P0 P1 P2:Prop}{G:Prop}(h:P0/\P1/\P2)(k:∀(_:P0) (_:P1) (_:P2),G):G:=by obtain⟨a0,a1,a2⟩:=h;exact k a0 a1 a2
theorem cW{T0:Sort _}{P0 P1:T0->Prop}{G:Prop}(h:∃x0,P0 x0/\P1 x0)(k:∀(x0:T0) (_:P0 x0) (_:P1 x0),G):G:=by obtain⟨a0,a1,a2⟩:=h;exact k a0 a1 a2
theorem mO{T0:Sort _}{T1:Sort _}{P0:T0->T1->Prop}{G:Prop}(h:∃x0,∃x1,P0 x0 x1)(k:∀(x0:T0) (x1:T1) (_:P0 x0 x1),G):G:=by obtain⟨a0,a1,a2⟩:=h;exact k a0 a1 a2
theorem wg{P0 P1 P2 P3:Prop}{G:Prop}(h:P0/\P1/\P2/\P3)(k:∀(_:P0) (_:P1) (_:P2) (_:P3),G):G:=eA h λa0 h=>yK h (k a0)
theorem eN{T0:Sort _}{P0 P1 P2:T0->Prop}{G:Prop}(h:∃x0,P0 x0/\P1 x0/\P2 x0)(k:∀(x0:T0) (_:P0 x0) (_:P1 x0) (_:P2 x0),G):G:=eE h λa0 h=>yK h (k a0)
theorem iw{T0:Sort _}{T1:Sort _}{P0 P1:T0->T1->Prop}{G:Prop}(h:∃x0,∃x1,P0 x0 x1/\P1 x0 x1)(k:∀(x0:T0) (x1:T1) (_:P0 x0 x1) (_:P1 x0 x1),G):G:=eE h λa0 h=>cW h (k a0)
theorem wf{T0:Sort _}{T1:Sort _}{T2:Sort _}{P0:T0->T1->T2->Prop}{G:Prop}(h:∃x0,∃x1,∃x2,P0 x0 x1 x2)(k:∀(x0:T0) (x1:T1) (x2:T2) (_:P0 x0 x1 x2),G):G:=eE h λa0 h=>mO h (k a0)
theorem AC{P0 P1 P2 P3 P4:Prop}{G:Prop}(h:P0/\P1/\P2/\P3/\P4)(k:∀(_:P0) (_:P1) (_:P2) (_:P3) (_:P4),G):G:=yK h λa0 a1 h=>yK h (k a0 a1)
theorem Nm{T0:Sort _}{P0:Prop}{P1 P2 P3:T0->Prop}{G:Prop}(h:P0/\∃x0,P1 x0/\P2 x0/\P3 x0)(k:∀(_:P0) (x0:T0) (_:P1 x0) (_:P2 x0) (_:P3 x0),G):G:=eA h λa0 h=>eN h (k a0)
theorem w1{T0:Sort _}{P0 P1 P2 P3:T0->Prop}{G:Prop}(h:∃x0,P0 x0/\P1 x0/\P2 x0/\P3 x0)(k:∀(x0:T0) (_:P0 x0) (_:P1 x0) (_:P2 x0) (_:P3 x0),G):G:=cW h λa0 a1 h=>yK h (k a0 a1)
theorem kI{T0:Sort _}{T1:Sort _}{P0 P1:T0->Prop}{P2:T0->T1->Prop}{G:Prop}(h:∃x0,P0 x0/\P1 x0/\∃x1,P2 x0 x1)(k:∀(x0:T0) (_:P0 x0) (_:P1 x0) (x1:T1) (_:P2 x0 x1),G):G:=eN h λa0 a1 a2 h=>eE h (k a0 a1 a2)
theorem c3{T0:Sort _}{T1:Sort _}{P0 P1 P2:T0->T1->Prop}{G:Prop}(h:∃x0,∃x1,P0 x0 x1/\P1 x0 x1/\P2 x0 x1)(k:∀(x0:T0) (x1:T1) (_:P0 x0 x1) (_:P1 x0 x1) (_:P2 x0 x1),G):G:=mO h λa0 a1 h=>yK h (k a0 a1)
theorem Va{T0:Sort _}{T1:Sort _}{T2:Sort _}{P0:T0->T1->Prop}{P1:T0->T1->T2->Prop}{G:Prop}(h:∃x0,∃x1,P0 x0 x1/\∃x2,P1 x0 x1 x2)(k:∀(x0:T0) (x1:T1) (_:P0 x0 x1) (x2:T2) (_:P1 x0 x1 x2),G):G:=iw h λa0 a1 a2 h=>eE h (k a0 a1 a2)
theorem l7{T0:Sort _}{T1:Sort _}{T2:Sort _}{P0 P1:T0->T1->T2->Prop}{G:Prop}(h:∃x0,∃x1,∃x2,P0 x0 x1 x2/\P1 x0 x1 x2)(k:∀(x0:T0) (x1:T1) (x2:T2) (_:P0 x0 x1 x2) (_:P1 x0 x1 x2),G):G:=mO h λa0 a1 h=>cW h (k a0 a1)
theorem AB{T0:Sort _}{T1:Sort _}{T2:Sort _}{T3:Sort _}{P0:T0->T1->T2->T3->Prop}{G:Prop}(h:∃x0,∃x1,∃x2,∃x3,P0 x0 x1 x2 x3)(k:∀(x0:T0) (x1:T1) (x2:T2) (x3:T3) (_:P0 x0 x1 x2 x3),G):G:=mO h λa0 a1 h=>mO h (k a0 a1)
theorem Cv{T0:Sort _}{P0 P1 P2 P3 P4:T0->Prop}{G:Prop}(h:∃x0,P0 x0/\P1 x0/\P2 x0/\P3 x0/\P4 x0)(k:∀(x0:T0) (_:P0 x0) (_:P1 x0) (_:P2 x0) (_:P3 x0) (_:P4 x0),G):G:=cW h λa0 a1 h=>wg h (k a0 a1)
theorem cU{T0:Sort _}{T1:Sort _}{P0 P1 P2 P3:T0->T1->Prop}{G:Prop}(h:∃x0,∃x1,P0 x0 x1/\P1 x0 x1/\P2 x0 x1/\P3 x0 x1)(k:∀(x0:T0) (x1:T1) (_:P0 x0 x1) (_:P1 x0 x1) (_:P2 x0 x1) (_:P3 x0 x1),G):G:=mO h λa0 a1 h=>wg h (k a0 a1)
theorem Py{T0:Sort _}{T1:Sort _}{T2:Sort _}{P0:T0->T1->Prop}{P1 P2:T0->T1->T2->Prop}{G:Prop}(h:∃x0,∃x1,P0 x0 x1/\∃x2,P1 x0 x1 x2/\P2 x0 x1 x2)(k:∀(x0:T0) (x1:T1) (_:P0 x0 x1) (x2:T2) (_:P1 x0 x1 x2) (_:P2 x0 x1 x2),G):G:=iw h λa0 a1 a2 h=>cW h (k a0 a1 a2)
theorem gN{T0:Sort _}{T1:Sort _}{T2:Sort _}{P0 P1 P2:T0->T1->T2->Prop}{G:Prop}(h:∃x0,∃x1,∃x2,P0 x0 x1 x2/\P1 x0 x1 x2/\P2 x0 x1 x2)(k:∀(x0:T0) (x1:T1) (x2:T2) (_:P0 x0 x1 x2) (_:P1 x0 x1 x2) (_:P2 x0 x1 x2),G):G:=mO h λa0 a1 h=>eN h (k a0 a1)
theorem DT{P0 P1 P2 P3 P4 P5 P6:Prop}{G:Prop}(h:P0/\P1/\P2/\P3/\P4/\P5/\P6)(k:∀(_:P0) (_:P1) (_:P2) (_:P3) (_:P4) (_:P5) (_:P6),G):G:=wg h λa0 a1 a2 h=>wg h (k a0 a1 a2)
theorem j8{T0:Sort _}{T1:Sort _}{P0 P1 P2 P3 P4:T0->T1->Prop}{G:Prop}(h:∃x0,∃x1,P0 x0 x1/\P1 x0 x1/\P2 x0 x1/\P3 x0 x1/\P4 x0 x1)(k:∀(x0:T0) (x1:T1) (_:P0 x0 x1) (_:P1 x0 x1) (_:P2 x0 x1) (_:P3 x0 x1) (_:P4 x0 x1),G):G:=iw h λa0 a1 a2 h=>wg h (k a0 a1 a2)
theorem DS{T0:Sort _}{T1:Sort _}{T2:Sort _}{P0 P1:T0->T1->Prop}{P2 P3:T0->T1->T2->Prop}{G:Prop}(h:∃x0,∃x1,P0 x0 x1/\P1 x0 x1/\∃x2,P2 x0 x1 x2/\P3 x0 x1 x2)(k:∀(x0:T0) (x1:T1) (_:P0 x0 x1) (_:P1 x0 x1) (x2:T2) (_:P2 x0 x1 x2) (_:P3 x0 x1 x2),G):G:=c3 h λa0 a1 a2 a3 h=>cW h (k a0 a1 a2 a3)
theorem rK{T0:Sort _}{T1:Sort _}{T2:Sort _}{P0 P1 P2 P3:T0->T1->T2->Prop}{G:Prop}(h:∃x0,∃x1,∃x2,P0 x0 x1 x2/\P1 x0 x1 x2/\P2 x0 x1 x2/\P3 x0 x1 x2)(k:∀(x0:T0) (x1:T1) (x2:T2) (_:P0 x0 x1 x2) (_:P1 x0 x1 x2) (_:P2 x0 x1 x2) (_:P3 x0 x1 x2),G):G:=wf h λa0 a1 a2 h=>wg h (k a0 a1 a2)
theorem yJ{T0:Sort _}{T1:Sort _}{T2:Sort _}{T3:Sort _}{P0 P1 P2:T0->T1->T2->T3->Prop}{G:Prop}(h:∃x0,∃x1,∃x2,∃x3,P0 x0 x1 x2 x3/\P1 x0 x1 x2 x3/\P2 x0 x1 x2 x3)(k:∀(x0:T0) (x1:T1) (x2:T2) (x3:T3) (_:P0 x0 x1 x2 x3) (_:P1 x0 x1 x2 x3) (_:P2 x0 x1 x2 x3),G):G:=wf h λa0 a1 a2 h=>eN h (k a0 a1 a2)
theorem ly{T0:Sort _}{T1:Sort _}{T2:Sort _}{P0 P1 P2 P3 P4:T0->T1->T2->Prop}{G:Prop}(h:∃x0,∃x1,∃x2,P0 x0 x1 x2/\P1 x0 x1 x2/\P2 x0 x1 x2/\P3 x0 x1 x2/\P4 x0 x1 x2)(k:∀(x0:T0) (x1:T1) (x2:T2) (_:P0 x0 x1 x2) (_:P1 x0 x1 x2) (_:P2 x0 x1 x2) (_:P3 x0 x1 x2) (_:P4 x0 x1 x2),G):G:=wf h λa0 a1 a2 h=>AC h (k a0 a1 a2)
theorem sO{T0:Sort _}{T1:Sort _}{T2:Sort _}{T3:Sort _}{T4:Sort _}{P0:T0->T1->T2->Prop}{P1 P2:T0->T1->T2->T3->Prop}{P3:T0->T1->T2->T3->T4->Prop}{G:Prop}(h:∃x0,∃x1,∃x2,P0 x0 x1 x2/\∃x3,P1 x0 x1 x2 x3/\P2 x0 x1 x2 x3/\∃x4,P3 x0 x1 x2 x3 x4)(k:∀(x0:T0) (x1:T1) (x2:T2) (_:P0 x0 x1 x2) (x3:T3) (_:P1 x0 x1 x2 x3) (_:P2 x0 x1 x2 x3) (x4:T4) (_:P3 x0 x1 x2 x3 x4),G):G:=l7 h λa0 a1 a2 a3 h=>kI h (k a0 a1 a2 a3)
theorem kX{T0:Sort _}{T1:Sort _}{T2:Sort _}{T3:Sort _}{T4:Sort _}{T5:Sort _}{P0 P1 P2:T0->T1->T2->T3->T4->T5->Prop}{G:Prop}(h:∃x0,∃x1,∃x2,∃x3,∃x4,∃x5,P0 x0 x1 x2 x3 x4 x5/\P1 x0 x1 x2 x3 x4 x5/\P2 x0 x1 x2 x3 x4 x5)(k:∀(x0:T0) (x1:T1) (x2:T2) (x3:T3) (x4:T4) (x5:T5) (_:P0 x0 x1 x2 x3 x4 x5) (_:P1 x0 x1 x2 x3 x4 x5) (_:P2 x0 x1 x2 x3 x4 x5),G):G:=AB h λa0 a1 a2 a3 h=>c3 h (k a0 a1 a2 a3)
theorem qw{T0:Sort _}{T1:Sort _}{T2:Sort _}{T3:Sort _}{T4:Sort _}{T5:Sort _}{P0 P1 P2 P3:T0->T1->T2->T3->T4->T5->Prop}{G:Prop}(h:∃x0,∃x1,∃x2,∃x3,∃x4,∃x5,P0 x0 x1 x2 x3 x4 x5/\P1 x0 x1 x2 x3 x4 x5/\P2 x0 x1 x2 x3 x4 x5/\P3 x0 x1 x2 x3 x4 x5)(k:∀(x0:T0) (x1:T1) (x2:T2) (x3:T3) (x4:T4) (x5:T5) (_:P0 x0 x1 x2 x3 x4 x5) (_:P1 x0 x1 x2 x3 x4 x5) (_:P2 x0 x1 x2 x3 x4 x5) (_:P3 x0 x1 x2 x3 x4 x5),G):G:=AB h λa0 a1 a2 a3 h=>cU h (k a0 a1 a2 a3)
theorem oO{T0:Sort _}{T1:Sort _}{T2:Sort _}{T3:Sort _}{P0 P1 P2 P3 P4 P5 P6:T0->T1->T2->T3->Prop}{G:Prop}(h:∃x0,∃x1,∃x2,∃x3,P0 x0 x1 x2 x3/\P1 x0 x1 x2 x3/\P2 x0 x1 x2 x3/\P3 x0 x1 x2 x3/\P4 x0 x1 x2 x3/\P5 x0 x1 x2 x3/\P6 x0 x1 x2 x3)(k:∀(x0:T0) (x1:T1) (x2:T2) (x3:T3) (_:P0 x0 x1 x2 x3) (_:P1 x0 x1 x2 x3) (_:P2 x0 x1 x2 x3) (_:P3 x0 x1 x2 x3) (_:P4 x0 x1 x2 x3) (_:P5 x0 x1 x2 x3) (_:P6 x0 x1 x2 x3),G):G:=AB h λa0 a1 a2 a3 h=>DT h (k a0 a1 a2 a3)
theorem fQ{T0:Sort _}{T1:Sort _}{T2:Sort _}{T3:Sort _}{T4:Sort _}{T5:Sort _}{T6:Sort _}{P0 P1 P2 P3 P4 P5 P6 P7:T0->T1->T2->T3->Prop}{P8:T0->T1->T2->T3->T4->T5->T6->Prop}{G:Prop}(h:∃x0,∃x1,∃x2,∃x3,P0 x0 x1 x2 x3/\P1 x0 x1 x2 x3/\P2 x0 x1 x2 x3/\P3 x0 x1 x2 x3/\P4 x0 x1 x2 x3/\P5 x0 x1 x2 x3/\P6 x0 x1 x2 x3/\P7 x0 x1 x2 x3/\∃x4,∃x5,∃x6,P8 x0 x1 x2 x3 x4 x5 x6)(k:∀(x0:T0) (x1:T1) (x2:T2) (x3:T3) (_:P0 x0 x1 x2 x3) (_:P1 x0 x1 x2 x3) (_:P2 x0 x1 x2 x3) (_:P3 x0 x1 x2 x3) (_:P4 x0 x1 x2 x3) (_:P5 x0 x1 x2 x3) (_:P6 x0 x1 x2 x3) (_:P7 x0 x1 x2 x3) (x4:T4) (x5:T5) (x6:T6) (_:P8 x0 x1 x2 x3 x4 x5 x6),G):G:=by obtain⟨a0,a1,a2,a3,a4,a5,a6,a7,a8,a9,a10,a11,a12,a13,a14,a15⟩:=h;exact k a0 a1 a2 a3 a4 a5 a6 a7 a8 a9 a10 a11 a12 a13 a14 a15
theorem jW{T0:Sort _}{P0 P1:T0->Prop}(x0:T0)(q1:P0 x0)(q2:P1 x0):∃x0,P0 x0/\P1 x0:=⟨x0,q1,q2⟩
theorem Cb{T0:Sort _}{T1:Sort _}{P0:T0->T1->Prop}(x0:T0)(x1:T1)(q2:P0 x0 x1):∃x0,∃x1,P0 x0 x1:=⟨x0,x1,q2⟩
theorem acS{T0:Sort _}{P0:Prop}{P1 P2:T0->Prop}(q0:P0)(x0:T0)(q2:P1 x0)(q3:P2 x0):P0/\∃x0,P1 x0/\P2 x0:=⟨q0,x0,q2,q3⟩
theorem ml{T0:Sort _}{P0 P1 P2:T0->Prop}(x0:T0)(q1:P0 x0)(q2:P1 x0)(q3:P2 x0):∃x0,P0 x0/\P1 x0/\P2 x0:=⟨x0,q1,q2,q3⟩
theorem jp{T0:Sort _}{T1:Sort _}{P0 P1:T0->T1->Prop}(x0:T0)(x1:T1)(q2:P0 x0 x1)(q3:P1 x0 x1):∃x0,∃x1,P0 x0 x1/\P1 x0 x1:=⟨x0,x1,q2,q3⟩
theorem TS{T0:Sort _}{T1:Sort _}{T2:Sort _}{P0:T0->T1->T2->Prop}(x0:T0)(x1:T1)(x2:T2)(q3:P0 x0 x1 x2):∃x0,∃x1,∃x2,P0 x0 x1 x2:=⟨x0,x1,x2,q3⟩
theorem MQ{T0:Sort _}{P0:Prop}{P1 P2 P3:T0->Prop}(q0:P0)(x0:T0)(q2:P1 x0)(q3:P2 x0)(q4:P3 x0):P0/\∃x0,P1 x0/\P2 x0/\P3 x0:=⟨q0,x0,q2,q3,q4⟩
theorem Ab{T0:Sort _}{P0 P1 P2 P3:T0->Prop}(x0:T0)(q1:P0 x0)(q2:P1 x0)(q3:P2 x0)(q4:P3 x0):∃x0,P0 x0/\P1 x0/\P2 x0/\P3 x0:=⟨x0,q1,q2,q3,q4⟩
theorem MP{T0:Sort _}{T1:Sort _}{P0:T0->Prop}{P1 P2:T0->T1->Prop}(x0:T0)(q1:P0 x0)(x1:T1)(q3:P1 x0 x1)(q4:P2 x0 x1):∃x0,P0 x0/\∃x1,P1 x0 x1/\P2 x0 x1:=⟨x0,q1,x1,q3,q4⟩
theorem iM{T0:Sort _}{T1:Sort _}{P0 P1 P2:T0->T1->Prop}(x0:T0)(x1:T1)(q2:P0 x0 x1)(q3:P1 x0 x1)(q4:P2 x0 x1):∃x0,∃x1,P0 x0 x1/\P1 x0 x1/\P2 x0 x1:=⟨x0,x1,q2,q3,q4⟩
theorem TU{T0:Sort _}{T1:Sort _}{T2:Sort _}{P0:T0->T1->Prop}{P1:T0->T1->T2->Prop}(x0:T0)(x1:T1)(q2:P0 x0 x1)(x2:T2)(q4:P1 x0 x1 x2):∃x0,∃x1,P0 x0 x1/\∃x2,P1 x0 x1 x2:=⟨x0,x1,q2,x2,q4⟩
theorem rz{T0:Sort _}{T1:Sort _}{T2:Sort _}{P0 P1:T0->T1->T2->Prop}(x0:T0)(x1:T1)(x2:T2)(q3:P0 x0 x1 x2)(q4:P1 x0 x1 x2):∃x0,∃x1,∃x2,P0 x0 x1 x2/\P1 x0 x1 x2:=⟨x0,x1,x2,q3,q4⟩
theorem TR{T0:Sort _}{T1:Sort _}{T2:Sort _}{T3:Sort _}{P0:T0->T1->T2->T3->Prop}(x0:T0)(x1:T1)(x2:T2)(x3:T3)(q4:P0 x0 x1 x2 x3):∃x0,∃x1,∃x2,∃x3,P0 x0 x1 x2 x3:=⟨x0,x1,x2,x3,q4⟩
theorem HL{T0:Sort _}{T1:Sort _}{P0:Prop}{P1 P2 P3:T0->T1->Prop}(q0:P0)(x0:T0)(x1:T1)(q3:P1 x0 x1)(q4:P2 x0 x1)(q5:P3 x0 x1):P0/\∃x0,∃x1,P1 x0 x1/\P2 x0 x1/\P3 x0 x1:=⟨q0,x0,x1,q3,q4,q5⟩
theorem HK{T0:Sort _}{P0 P1 P2 P3 P4:T0->Prop}(x0:T0)(q1:P0 x0)(q2:P1 x0)(q3:P2 x0)(q4:P3 x0)(q5:P4 x0):∃x0,P0 x0/\P1 x0/\P2 x0/\P3 x0/\P4 x0:=⟨x0,q1,q2,q3,q4,q5⟩
theorem gM{T0:Sort _}{T1:Sort _}{P0 P1 P2 P3:T0->T1->Prop}(x0:T0)(x1:T1)(q2:P0 x0 x1)(q3:P1 x0 x1)(q4:P2 x0 x1)(q5:P3 x0 x1):∃x0,∃x1,P0 x0 x1/\P1 x0 x1/\P2 x0 x1/\P3 x0 x1:=⟨x0,x1,q2,q3,q4,q5⟩
theorem OR{T0:Sort _}{T1:Sort _}{T2:Sort _}{P0:T0->T1->Prop}{P1 P2:T0->T1->T2->Prop}(x0:T0)(x1:T1)(q2:P0 x0 x1)(x2:T2)(q4:P1 x0 x1 x2)(q5:P2 x0 x1 x2):∃x0,∃x1,P0 x0 x1/\∃x2,P1 x0 x1 x2/\P2 x0 x1 x2:=⟨x0,x1,q2,x2,q4,q5⟩
theorem vc{T0:Sort _}{T1:Sort _}{T2:Sort _}{P0 P1 P2:T0->T1->T2->Prop}(x0:T0)(x1:T1)(x2:T2)(q3:P0 x0 x1 x2)(q4:P1 x0 x1 x2)(q5:P2 x0 x1 x2):∃x0,∃x1,∃x2,P0 x0 x1 x2/\P1 x0 x1 x2/\P2 x0 x1 x2:=⟨x0,x1,x2,q3,q4,q5⟩
theorem rA{T0:Sort _}{T1:Sort _}{P0 P1 P2 P3 P4:T0->T1->Prop}(x0:T0)(x1:T1)(q2:P0 x0 x1)(q3:P1 x0 x1)(q4:P2 x0 x1)(q5:P3 x0 x1)(q6:P4 x0 x1):∃x0,∃x1,P0 x0 x1/\P1 x0 x1/\P2 x0 x1/\P3 x0 x1/\P4 x0 x1:=⟨x0,x1,q2,q3,q4,q5,q6⟩
theorem KJ{T0:Sort _}{T1:Sort _}{T2:Sort _}{P0 P1:T0->T1->Prop}{P2 P3:T0->T1->T2->Prop}(x0:T0)(x1:T1)(q2:P0 x0 x1)(q3:P1 x0 x1)(x2:T2)(q5:P2 x0 x1 x2)(q6:P3 x0 x1 x2):∃x0,∃x1,P0 x0 x1/\P1 x0 x1/\∃x2,P2 x0 x1 x2/\P3 x0 x1 x2:=⟨x0,x1,q2,q3,x2,q5,q6⟩
theorem KI{T0:Sort _}{T1:Sort _}{T2:Sort _}{T3:Sort _}{P0 P1 P2:T0->T1->T2->T3->Prop}(x0:T0)(x1:T1)(x2:T2)(x3:T3)(q4:P0 x0 x1 x2 x3)(q5:P1 x0 x1 x2 x3)(q6:P2 x0 x1 x2 x3):∃x0,∃x1,∃x2,∃x3,P0 x0 x1 x2 x3/\P1 x0 x1 x2 x3/\P2 x0 x1 x2 x3:=⟨x0,x1,x2,x3,q4,q5,q6⟩
theorem oJ{T0:Sort _}{T1:Sort _}{P0 P1 P2 P3 P4 P5:T0->T1->Prop}(x0:T0)(x1:T1)(q2:P0 x0 x1)(q3:P1 x0 x1)(q4:P2 x0 x1)(q5:P3 x0 x1)(q6:P4 x0 x1)(q7:P5 x0 x1):∃x0,∃x1,P0 x0 x1/\P1 x0 x1/\P2 x0 x1/\P3 x0 x1/\P4 x0 x1/\P5 x0 x1:=⟨x0,x1,q2,q3,q4,q5,q6,q7⟩
@[elab_as_elim] theorem am{α:Sort u}{a b:α}{M:α->Prop}(h:a=b)(k:M b):M a:=Eq.ndrec (motive:=M) k h.symm
@[elab_as_elim] theorem jj{α:Sort u}{a b:α}{M:α->Prop}(h:a=b)(k:M a):M b:=Eq.ndrec (motive:=M) k h
theorem kM{α:Type u}{x:Option α}{a b:α}(h:x=some a)(k:x=some b):a=b:=xk (h.symm.trans k)
variable{prog:cO}{A:b9}{env:Env}{ag:ca}{E:ao->ai->Prop}{mg mb:Str->Option ao}{ι Av:List aN}{bk:aN->Prop}
set_option backward.match.sparseCases false
set_option tactic.hygienic false
inductive V where
 |none|bool (b:Bool)|int (i:Int)|cY (x:UInt64)|str (s:Str)
 |tup (vs:List V)|lst (vs:List V)|loc (l:Nat)|obj (a:aN)
 |qo (vs:List V)
noncomputable abbrev Sg:=List (Str×V)
noncomputable abbrev St:=List (List V)
noncomputable def eO(x:Str):Sg->Option V
 |[]=>af
 |(y,v)::r=>if x=y then some v else eO x r
noncomputable def ee(x:Str)(v:V):Sg->Sg
 |[]=>[(x,v)]
 |(y,u)::r=>if x=y then(y,v)::r else(y,u)::ee x v r
noncomputable def EF(a:Int):Bool:=decide (a.natAbs<2^62)
noncomputable def dO(st:St):Nat->V->Option pd
 |_,.none=>some .none
 |_,.bool b=>some (.bool b)
 |_,.int i=>some (.int i)
 |_,.str s=>some (.str s)
 |n+1,.tup vs=>(vs.mapM (dO st n)).map .tuple
 |n+1,.lst vs=>(vs.mapM (dO st n)).map .list
 |n+1,.loc l=>match st[l]?with
  |some vs=>(vs.mapM (dO st n)).map .list
  |af=>af
 |_,_=>af
noncomputable def zc(n:Int):Bool:=decide (n.natAbs<2^62)
noncomputable def QD(x:UInt64):Bool:=!amg x
noncomputable def eX:Operator->V->V->Option V
 |.Add,.int a,.int b=>some (.int (a+b))
 |.Sub,.int a,.int b=>some (.int (a-b))
 |.Mult,.int a,.int b=>if EF a&&EF b then some (.int (a*b))else af
 |.FloorDiv,.int a,.int b=>if b≠0/\b.natAbs<1073741824 then some (.int (a.fdiv b))else af
 |.Mod,.int a,.int b=>if b≠0 then some (.int (a.fmod b))else af
 |.Pow,.int a,.int b=>if a=10/\b=6 then some (.int 1000000)else af
 |.Add,.cY a,.cY b=>some (.cY (amJ a b))
 |.Sub,.cY a,.cY b=>some (.cY (gO a b))
 |.Mult,.cY a,.cY b=>some (.cY (cK a b))
 |.Div,.cY a,.cY b=>if QD b then some (.cY (ak3 a b))else af
 |.Mod,.cY a,.cY b=>if QD b then some (.cY (Float64.divmod a b).2)else af
 |.Add,.cY a,.int n=>if zc n then some (.cY (amJ a (il n)))else af
 |.Sub,.cY a,.int n=>if zc n then some (.cY (gO a (il n)))else af
 |.Sub,.int n,.cY a=>if zc n then some (.cY (gO (il n) a))else af
 |.Mult,.cY a,.int n=>if zc n then some (.cY (cK a (il n)))else af
 |.Mult,.int n,.cY a=>if zc n then some (.cY (cK (il n) a))else af
 |.Div,.cY a,.int n=>if zc n&&QD (il n)then some (.cY (ak3 a (il n)))else af
 |.Div,.int n,.cY a=>if zc n&&QD a then some (.cY (ak3 (il n) a))else af
 |.Div,.int a,.int b=>if b≠0/\ake (jG (decide (a<0)!=decide (b<0)) a.natAbs b.natAbs)=an then some (.cY (jG (decide (a<0)!=decide (b<0)) a.natAbs b.natAbs))else af
 |.Add,.str a,.str b=>if a.length+b.length<=16777216 then some (.str (a++b))else af
 |.Add,.lst a,.lst b=>if a.length+b.length<=16384 then some (.lst (a++b))else af
 |.Add,.tup a,.tup b=>if a.length+b.length<=16384/\a≠[]/\b≠[]then some (.tup (a++b))else af
 |.Mult,.str a,.int n=>if a.length<=16/\n<=64/\0<=n then some (.str (alG a n))else af
 |.Mult,.lst a,.int n=>if n=3/\a.length=1 then some (.lst (a++a++a))else af
 |_,_,_=>af
noncomputable def bJ(d:pd):Bool:=fj d
noncomputable def eF(st:St):V->Option (List V)
 |.lst vs=>some vs
 |.loc l=>st[l]?
 |_=>af
noncomputable def Qt(st:St):V->V->Option Bool
 |.int a,.int b=>some (a==b)
 |.cY a,.cY b=>some (rY a b==some pe)
 |.cY a,.int n=>some (pi a n==some pe)
 |.int n,.cY a=>some (pi a n==some pe)
 |.str a,.str b=>some (a==b)
 |.bool a,.bool b=>some (a==b)
 |a,b=>match dO st 8 a,dO st 8 b with
  |some x,some y=>if bJ x&&bJ y then some (bQ x y)else af
  |_,_=>af
noncomputable def mH:List V->List V->Option Bool
 |.int a::r,.int b::q=>if a=b then mH r q else some (decide (a<b))
 |.str a::r,.str b::q=>if a=b then mH r q else af
 |[],[]=>some an
 |_,_=>af
noncomputable def Gf(st:St)(x:V):V->Option Bool
 |.str b=>match x with
  |.str a=>some (!(gV b a 0 b.length 1).isEmpty)
  |_=>af
 |y=>match eF st y,dO st 8 x with
  |some vs,some d=>match vs.mapM (dO st 8)with
   |some ds=>if bJ (.list ds)&&bJ d then some (ds.any λe=>bQ e d)else af
   |af=>af
  |_,_=>af
noncomputable def jy(st:St):agH->V->V->Option Bool
 |.Eq,.lst a,.lst []=>some a.isEmpty
 |.Eq,a,b=>Qt st a b
 |.NotEq,a,b=>(Qt st a b).map not
 |.Lt,.int a,.int b=>some (decide (a<b))
 |.GtE,.int a,.int b=>some (decide (a>=b))
 |.Lt,.lst a,.lst b=>if a.length<=64/\b.length<=64 then mH a b else af
 |.In,a,b=>Gf st a b
 |.NotIn,a,b=>(Gf st a b).map not
 |.Is,.none,.none=>some aj
 |.Is,.tup _,.none=>some an
 |.Is,.str _,.none=>some an
 |.IsNot,.none,.none=>some an
 |.IsNot,.str _,.none=>some aj
 |_,_,_=>af
noncomputable def ngt:V->V->Option Bool
 |.int a,.int b=>some (decide (a>b))
 |.cY a,.int n=>some (pi a n==some ajQ)
 |.int n,.cY a=>some (pi a n==some ajP)
 |.cY a,.cY b=>some (rY a b==some ajQ)
 |_,_=>af
noncomputable def nlt:V->V->Option Bool
 |.int a,.int b=>some (decide (a<b))
 |.cY a,.int n=>some (pi a n==some ajP)
 |.int n,.cY a=>some (pi a n==some ajQ)
 |.cY a,.cY b=>some (rY a b==some ajP)
 |_,_=>af
noncomputable def jO(a b:V):Option V:=(ngt b a).map λc=>if c then b else a
noncomputable def jN(a b:V):Option V:=(nlt b a).map λc=>if c then b else a
noncomputable def xD:V->Option Bool
 |.bool b=>some b
 |_=>af
noncomputable def qd(st:St):V->V->Option V
 |.str x,.int k=>if 0<=k then(x.cps[k.toNat]?).map λc=>.str ⟨#[c]⟩else af
 |.tup vs,.int k=>if 0<=k then vs[k.toNat]?else af
 |.lst vs,.int k=>if 0<=k then vs[k.toNat]?else af
 |.loc l,.int k=>if 0<=k then match st[l]?with
  |some vs=>vs[k.toNat]?
  |af=>af
  else af
 |_,_=>af
noncomputable def tE:Option V->Option (Option Int)
 |af=>some af
 |some (.int i)=>some (some i)
 |_=>af
noncomputable def HB(vs:List V):Option Int->Option Int->Option V
 |af,some j=>if 0<=j/\EF j=aj then some (.lst (vs.take j.toNat))else af
 |some i,af=>if 0<=i/\i<=vs.length then some (.lst (vs.drop i.toNat))else af
 |_,_=>af
noncomputable def xF(st:St)(v:V)(lo hi:Option Int):Option V:=
 match v with
 |.str x=>some (.str (c5 x lo hi))
 |.qo vs=>HB vs lo hi
 |v=>match eF st v with
  |some vs=>HB vs lo hi
  |af=>af
noncomputable def pP:List V->Option (List Int)
 |[]=>some []
 |.int i::r=>(pP r).map (i::·)
 |_=>af
noncomputable def tu:List V->Option (List Str)
 |[]=>some []
 |.str s::r=>(tu r).map (s::·)
 |_=>af
noncomputable def sf:V->Option (Int×Int)
 |.tup [.int a,.int b]=>some (a,b)
 |_=>af
noncomputable def xr(x:Int×Int):List (Int×Int)->List (Int×Int)
 |[]=>[x]
 |y::r=>if x.1<y.1 then x::y::r else y::xr x r
noncomputable def pU(l:List (Int×Int)):List (Int×Int):=l.foldr xr []
noncomputable def ij(p:Int×Int):V:=.tup [.int p.1,.int p.2]
noncomputable def sj(x:UInt64):Option Int:=if ir x then some (aks al5 x)else af
noncomputable def uR(x:UInt64):Option Int:=if ir x then some (aks alN x)else af
noncomputable def fk(st:St)(f:Str):List V->Option V
 |[.str x]=>
  if f=ar "len" then some (.int x.length)
  else if f=ar "str" then some (.str x)
  else if f=ar "int" then(if x.length<=640 then(cz x).map .int else af)
  else af
 |[.int i]=>
  if f=ar "str" then(if EF i then some (.str (ar (toString i)))else af)
  else if f=ar "chr" then(if 0<=i/\i<=1114111 then some (.str ⟨#[i.toNat]⟩)else af)
  else if f=ar "round" then some (.int i)
  else af
 |[.cY x]=>
  if f=ar "int" then(sj x).map .int
  else if f=ar "round" then(uR x).map .int
  else af
 |[v]=>match eF st v with
  |some vs=>
   if f=ar "len" then some (.int vs.length)
   else if f=ar "sum" then(pP vs).bind λns=>if(ns.all λn=>decide (n.natAbs<2^50))&&decide (ns.length<=64)then some (.int ns.sum)else af
   else if f=ar "max" then(pP vs).bind λns=>match ns with
    |[]=>af
    |n::r=>some (.int (r.foldl max n))
   else if f=ar "sorted" then(vs.mapM sf).bind λps=>if(ps.map (·.1)).Nodup/\ps.length<=7 then some (.lst ((pU ps).map ij))else af
   else af
  |af=>af
 |[.str x,.int b]=>
  if f=ar "int"/\b=10 then(if x.length<=640 then(cz x).map .int else af)
  else af
 |[a,b]=>
  if f=ar "max" then jO a b
  else if f=ar "min" then jN a b
  else af
 |[a,b,c]=>
  if f=ar "max" then(jO a b).bind λx=>jO x c
  else if f=ar "min" then(jN a b).bind λx=>jN x c
  else af
 |_=>af
noncomputable def lA:List Str:=[ar "len",ar "str",ar "chr",ar "round",ar "int",ar "sum",ar "max",ar "min",ar "sorted",ar "range",ar "enumerate",ar "isinstance",ar "tuple"]
noncomputable def nE(st:St)(o:V)(f:Str)(args:List V):Option V:=
 match o,args with
 |.str x,[.str y]=>
  if f=ar "find" then some (.int (oZ x y))
  else if f=ar "index" then(match gV x y 0 x.length 1 with|i::_=>some (.int i)|[]=>af)
  else if f=ar "split" then(if y.length≠0/\x.length<=10000 then some (.lst ((nN x y).map .str))else af)
  else af
 |.str x,[.str y,.int i]=>
  if f=ar "find" then(if 0<=i/\EF i=aj then some (.int (qI x y i))else af)
  else af
 |.str x,[v]=>
  if f=ar "join" then match eF st v with
   |some vs=>(tu vs).bind λys=>if JoinOk x ys then some (.str (ajN x ys))else af
   |af=>af
  else af
 |o,[x]=>
  if f=ar "index" then match eF st o,dO st 8 x with
   |some vs,some d=>match vs.mapM (dO st 8)with
    |some ds=>if bJ (.list ds)&&bJ d then(ds.findIdx? λe=>bQ e d).map λj=>.int j else af
    |af=>af
   |_,_=>af
  else af
 |_,_=>af
structure pD  where
 G:Str->Option V
 Fa:aN->List V->Option V
 Fm:aN->Str->List V->Option V
 Fs:aN->List V->St->Option (V×St)
 Rc:aN->Bool
noncomputable abbrev Sc:=List (Str×mU)
noncomputable def Gi:Const->Option V
 |.none=>some .none
 |.bool b=>some (.bool b)
 |.int i=>some (.int i)
 |.float x=>some (.cY x)
 |.str s=>if s.length<=1000 then some (.str s)else af
 |_=>af
noncomputable def fY(P:pD)(sc:Sc)(σ:Sg)(x:Str):Option V:=
 if x=ar "__debug__"\/x=ar "__classdict__" then af else
 match sc.lookup x with
 |some .local=>eO x σ
 |some .cell=>eO x σ
 |some .free=>eO x σ
 |some .globalImplicit=>P.G x
 |_=>af
noncomputable def ft:Expr->Bool
 |.Call _ _ _ _=>an
 |_=>aj
noncomputable def oQ:Str:=ar ".0"
noncomputable def qy(sc:Sc)(scope:jm)(x:Str):Bool:=
 decide (scope.kind=.function)&&decide (scope.names.lookup x=some .local)&&!scope.isGenerator&&!scope.isCoroutine&&
 scope.names.all λp=>match p.2 with
  |.local=>decide (p.1=x)||(decide (p.1=oQ)&&decide (scope.names.lookup oQ=some .local))
  |.free=>sc.lookup p.1=some .cell||sc.lookup p.1=some .free
  |.globalImplicit=>aj
  |_=>an
noncomputable def mR(f:V->Option (Option V)):List V->Option (List V)
 |[]=>some []
 |v::r=>(f v).bind λy=>(mR f r).map λys=>match y with
  |some y=>y::ys
  |af=>ys
noncomputable def kD(st:St):V->Option (List V)
 |.tup vs=>some vs
 |.str x=>if x.length<=10000 then some (x.cps.toList.map λc=>.str ⟨#[c]⟩)else af
 |v=>eF st v
noncomputable def oq(n:Nat):List V:=(ba n).map λ(k:Nat)=>V.int (k:Int)
mutual
noncomputable def ay(P:pD)(st:St):Nat->Sc->Sg->Expr->Option V
 |0,_,_,_=>af
 |n+1,sc,σ,e=>match e with
  |.Constant c _ _=>Gi c
  |.Name x _=>fY P sc σ x
  |.BinOp l op r _=>(ay P st n sc σ l).bind λa=>(ay P st n sc σ r).bind λb=>eX op a b
  |.UnaryOp op x _=>match op with
   |.USub=>(ay P st n sc σ x).bind λa=>match a with
    |.int i=>some (.int (-i))
    |_=>af
   |_=>af
  |.IfExp t b o _=>(bY P st n sc σ t).bind λc=>if c then ay P st n sc σ b else ay P st n sc σ o
  |.Compare l ops rs _=>match ops,rs with
   |[op],[r]=>if kB op r then af else(ay P st n sc σ l).bind λa=>(ay P st n sc σ r).bind λb=>(jy st op a b).map .bool
   |_,_=>af
  |.Tuple es _ _=>if es.length<=100 then(b3 P st n sc σ es).map .tup else af
  |.List es _=>if es.length<=100 then(b3 P st n sc σ es).map .lst else af
  |.Subscript v i _=>match i with
   |.Slice lo hi step _=>match step with
    |af=>(ay P st n sc σ v).bind λo=>(oU P st n sc σ lo).bind λa=>(oU P st n sc σ hi).bind λb=>
      (tE a).bind λa=>(tE b).bind λb=>xF st o a b
    |some _=>af
   |i=>(ay P st n sc σ v).bind λo=>(ay P st n sc σ i).bind λk=>qd st o k
  |.ListComp elt gens scope _=>match gens with
   |[g]=>match g.target with
    |.Name x _=>if g.is_async=0/\qy sc scope x=aj/\(eO oQ σ).isNone=aj then
      (g7 P st n sc σ g.iter).bind λitems=>(mR (λv=>
       (gx P st n scope.names ((x,v)::σ) g.ifs).bind λok=>
        if ok then(ay P st n scope.names ((x,v)::σ) elt).map some else some af) items).map .lst
      else af
    |_=>af
   |_=>af
  |.Call f args qm cp=>match qm with
   |[]=>match f with
    |.Attribute o m ap=>if !(ft o)||!(ap.endLine==cp.line)||!(decide (args.length<=10))then af else(ay P st n sc σ o).bind λov=>
     if m=ar "replace" then match args with
      |[.Constant (.str y) _ _,.Constant (.str z) _ _]=>match ov with
       |.str x=>if x.length<=1048576/\y.length<=14/\z.length<=14/\y≠z then some (.str (rT x y z))else af
       |_=>af
      |_=>af
     else(b3 P st n sc σ args).bind λvs=>match ov with
      |.obj a=>P.Fm a m vs
      |ov=>nE st ov m vs
    |.Name x _=>
     if x=ar "isinstance" then match args with
      |[e,.Name t _]=>if t=ar "tuple"/\sc.lookup x=some .globalImplicit/\sc.lookup t=some .globalImplicit then
        (ay P st n sc σ e).bind λv=>match v with
         |.tup _=>some (.bool aj)
         |_=>af
        else af
      |_=>af
     else match sc.lookup x,P.G x with
      |some .globalImplicit,af=>if x∈lA then(b3 P st n sc σ args).bind λvs=>fk st x vs else af
      |_,_=>(fY P sc σ x).bind λf=>(b3 P st n sc σ args).bind λvs=>match f with
       |.obj a=>P.Fa a vs
       |_=>af
    |.Subscript fa fb fc=>(ay P st n sc σ (.Subscript fa fb fc)).bind λfv=>(b3 P st n sc σ args).bind λvs=>match fv with
     |.obj a=>P.Fa a vs
     |_=>af
    |_=>af
   |_=>af
  |_=>af
noncomputable def oU(P:pD)(st:St):Nat->Sc->Sg->Option Expr->Option (Option V)
 |0,_,_,_=>af
 |n+1,sc,σ,e=>match e with
  |af=>some af
  |some e=>(ay P st n sc σ e).map some
noncomputable def b3(P:pD)(st:St):Nat->Sc->Sg->List Expr->Option (List V)
 |0,_,_,_=>af
 |n+1,sc,σ,es=>match es with
  |[]=>some []
  |e::r=>match e with
   |.Starred _ _=>af
   |e=>(ay P st n sc σ e).bind λv=>(b3 P st n sc σ r).map λvs=>v::vs
noncomputable def g7(P:pD)(st:St):Nat->Sc->Sg->Expr->Option (List V)
 |0,_,_,_=>af
 |n+1,sc,σ,e=>match e with
  |.Call (.Name x p) [a] [] p'=>
   if x=ar "range" then
    if sc.lookup x=some .globalImplicit then(ay P st n sc σ a).bind λv=>match v with
     |.int k=>if 0<=k/\k<=1000 then some (oq k.toNat)else af
     |_=>af
    else af
   else(ay P st n sc σ (.Call (.Name x p) [a] [] p')).bind (kD st)
  |e=>(ay P st n sc σ e).bind (kD st)
noncomputable def gx(P:pD)(st:St):Nat->Sc->Sg->List Expr->Option Bool
 |0,_,_,_=>af
 |n+1,sc,σ,es=>match es with
  |[]=>some aj
  |[e]=>bY P st n sc σ e
  |_=>af
noncomputable def bY(P:pD)(st:St):Nat->Sc->Sg->Expr->Option Bool
 |0,_,_,_=>af
 |n+1,sc,σ,e=>match e with
  |.UnaryOp .Not x _=>(bY P st n sc σ x).map not
  |.BoolOp op vs p=>match vs with
   |[]=>match op with
    |.And=>some aj
    |.Or=>some an
   |x::r=>(bY P st n sc σ x).bind λok=>match op with
    |.And=>if ok then bY P st n sc σ (.BoolOp op r p)else some an
    |.Or=>if ok then some aj else bY P st n sc σ (.BoolOp op r p)
  |.Compare l ops rs p=>match ops,rs with
   |[op],[r]=>if kB op r then af else(ay P st n sc σ l).bind λa=>(ay P st n sc σ r).bind λb=>jy st op a b
   |_,_=>af
  |.Name x p=>(ay P st n sc σ (.Name x p)).bind xD
  |.Call f args qm p=>(ay P st n sc σ (.Call f args qm p)).bind xD
  |_=>af
end
inductive Fl where
 |next|brk|ret (v:V)
 |exc (c:aN) (s:Str)
noncomputable abbrev ga:=Fl×Sg×St
mutual
noncomputable def fw(P:pD)(n:Nat)(sc:Sc)(σ:Sg):Nat->St->Expr->Option (V×St)
 |0,_,_=>af
 |k+1,st,e=>match e with
  |.List es _=>if es.length<=100 then(j1 P n sc σ k st es).map λa=>(.loc a.2.length,a.2++[a.1])else af
  |.Tuple es _ _=>if es.length<=100 then(j1 P n sc σ k st es).map λa=>(.tup a.1,a.2)else af
  |e=>(ay P st n sc σ e).map λv=>(v,st)
noncomputable def j1(P:pD)(n:Nat)(sc:Sc)(σ:Sg):Nat->St->List Expr->Option (List V×St)
 |0,_,_=>af
 |k+1,st,es=>match es with
  |[]=>some ([],st)
  |e::r=>match e with
   |.Starred _ _=>af
   |e=>(fw P n sc σ k st e).bind λa=>(j1 P n sc σ k a.2 r).map λb=>(a.1::b.1,b.2)
end
noncomputable def g4(sc:Sc)(x:Str):Bool:=sc.lookup x=some .local||sc.lookup x=some .cell
noncomputable def vG(sc:Sc):List Expr->List V->Sg->Option Sg
 |[],[],σ=>some σ
 |.Name x _::r,v::vs,σ=>if g4 sc x then vG sc r vs (ee x v σ)else af
 |_,_,_=>af
noncomputable def dq(sc:Sc)(t:Expr)(v:V)(σ:Sg):Option Sg:=match t with
 |.Name x _=>if g4 sc x then some (ee x v σ)else af
 |.Tuple ts _ _=>match v with
  |.tup vs=>if ts.length=vs.length/\ts.length<=20 then vG sc ts vs σ else af
  |_=>af
 |_=>af
noncomputable def pL(f:V->Sg->St->Option ga):List V->Sg->St->Option ga
 |[],σ,st=>some (.next,σ,st)
 |v::r,σ,st=>(f v σ st).bind λo=>match o.1 with
  |.next=>pL f r o.2.1 o.2.2
  |.brk=>some (.next,o.2)
  |.ret _=>some o
  |.exc _ _=>af
noncomputable def nw(t:Sg->St->Option Bool)(f:Sg->St->Option ga):Nat->Sg->St->Option ga
 |0,_,_=>af
 |k+1,σ,st=>(t σ st).bind λc=>if c then(f σ st).bind λo=>match o.1 with
   |.next=>nw t f k o.2.1 o.2.2
   |.brk=>some (.next,o.2)
   |.ret _=>some o
   |.exc _ _=>af
  else some (.next,σ,st)
noncomputable def wU(vs:List V)(k:Int)(v:V):Option (List V):=
 if 0<=k/\k<=vs.length then some (vs.take k.toNat++v::vs.drop k.toNat)else af
noncomputable def fX(st:St)(l:Nat)(vs:List V):St:=st.set l vs
inductive Md where
 |fixed (vs:List V)|live (l:Nat)|enum (vs:List V)
noncomputable def oN:Nat->List V->List V
 |_,[]=>[]
 |k,v::r=>.tup [.int (k:Int),v]::oN (k+1) r
noncomputable def wm(st:St):V->Option Md
 |.loc l=>some (.live l)
 |v=>(kD st v).map .fixed
noncomputable def nu(P:pD)(st:St)(n:Nat)(sc:Sc)(σ:Sg)(e:Expr):Option Md:=match e with
 |.Call (.Name x p) [a] [] p'=>
  if x=ar "enumerate" then
   if sc.lookup x=some .globalImplicit then(ay P st n sc σ a).bind λv=>match v with
    |.lst vs=>some (.enum vs)
    |_=>af
   else af
  else if x=ar "range" then(g7 P st n sc σ (.Call (.Name x p) [a] [] p')).map .fixed
  else(ay P st n sc σ (.Call (.Name x p) [a] [] p')).bind (wm st)
 |e=>(ay P st n sc σ e).bind (wm st)
noncomputable def oT(f:V->Sg->St->Option ga)(l:Nat):Nat->Nat->Sg->St->Option ga
 |0,_,_,_=>af
 |k+1,i,σ,st=>(st[l]?).bind λvs=>(vs[i]?).elim (some (.next,σ,st)) λv=>(f v σ st).bind λo=>match o.1 with
  |.next=>oT f l k (i+1) o.2.1 o.2.2
  |.brk=>some (.next,o.2)
  |.ret _=>some o
  |.exc _ _=>af
noncomputable def nsw(sc:Sc):Expr->Bool
 |.Name x _=>!(sc.lookup x==some .local)
 |_=>aj
noncomputable def oA(sc:Sc)(t e:Expr):Bool:=match t,e with
 |.Tuple ts _ _,.Tuple vs _ _=>!(ts.length==2||ts.length==3)||ts.any (nsw sc)
 |.List _ _,_=>an
 |_,_=>aj
mutual
noncomputable def bW(P:pD):Nat->Sc->Sg->St->List cy->Option ga
 |0,_,_,_,_=>af
 |n+1,sc,σ,st,ss=>match ss with
  |[]=>some (.next,σ,st)
  |s::r=>(bi P n sc σ st s).bind λo=>match o.1 with
   |.next=>bW P n sc o.2.1 o.2.2 r
   |_=>some o
noncomputable def bi(P:pD):Nat->Sc->Sg->St->cy->Option ga
 |0,_,_,_,_=>af
 |n+1,sc,σ,st,s=>match s with
  |.Assign ts e _=>match ts with
   |[t]=>match t with
    |.Subscript (.Name x _) i _=>(ay P st n sc σ e).bind λv=>(fY P sc σ x).bind λo=>(ay P st n sc σ i).bind λk=>match o,k with
     |.loc l,.int k=>match st[l]?with
      |some vs=>if 0<=k/\k<vs.length then some (.next,σ,fX st l (vs.set k.toNat v))else af
      |af=>af
     |_,_=>af
    |t=>match e with
     |.ListComp a b c d=>match t with
      |.Name x _=>if sc.lookup x=some .local||sc.lookup x=some .cell then(ay P st n sc σ (.ListComp a b c d)).map λv=>(.next,ee x v σ,st)else af
      |_=>af
     |.Call (.Name f p) args qm p'=>match(if args.length<=10/\qm.length=0 then(fY P sc σ f).bind λfv=>(b3 P st n sc σ args).bind λvs=>match fv with
        |.obj a=>P.Fs a vs st
        |_=>af
       else af)with
      |some o=>(dq sc t o.1 σ).map λcR=>(.next,cR,o.2)
      |af=>(ay P st n sc σ (.Call (.Name f p) args qm p')).bind λv=>(dq sc t v σ).map λcR=>(.next,cR,st)
     |e=>if oA sc t e then(fw P n sc σ n st e).bind λo=>(dq sc t o.1 σ).map λcR=>(.next,cR,o.2)else af
   |_=>af
  |.AugAssign t op e _=>match op with
   |.Add=>match t with
    |.Name x _=>(fY P sc σ x).bind λa=>(ay P st n sc σ e).bind λb=>match a,b with
     |.int a,.int b=>if g4 sc x then some (.next,ee x (.int (a+b)) σ,st)else af
     |_,_=>af
    |.Subscript (.Name x _) i _=>(fY P sc σ x).bind λo=>(ay P st n sc σ i).bind λk=>match o,k with
     |.loc l,.int k=>match st[l]?with
      |some vs=>if 0<=k then match vs[k.toNat]?with
       |some (.int a)=>(ay P st n sc σ e).bind λb=>match b with
        |.int b=>some (.next,σ,fX st l (vs.set k.toNat (.int (a+b))))
        |_=>af
       |_=>af
       else af
      |af=>af
     |_,_=>af
    |_=>af
   |_=>af
  |.Expr e _=>match e with
   |.Call (.Attribute o m ap) args [] cp=>if !(ft o)||!(ap.endLine==cp.line)then af else(ay P st n sc σ o).bind λov=>match ov with
    |.loc l=>match st[l]?with
     |some vs=>
      if vs.length<=10000 then
       if m=ar "append" then match args with
        |[a]=>(ay P st n sc σ a).map λv=>(.next,σ,fX st l (vs++[v]))
        |_=>af
       else if m=ar "extend" then match args with
        |[.Tuple es _ _]=>if es.length<=100/\1<=es.length then(b3 P st n sc σ es).map λus=>(.next,σ,fX st l (vs++us))else af
        |_=>af
       else if m=ar "insert" then match args with
        |[a,b]=>(ay P st n sc σ a).bind λk=>(fw P n sc σ n st b).bind λo=>match k with
         |.int k=>match o.2[l]?with
          |some vs=>if vs.length<=10000 then(wU vs k o.1).map λus=>(.next,σ,fX o.2 l us)else af
          |af=>af
         |_=>af
        |_=>af
       else af
      else af
     |af=>af
    |_=>af
   |_=>af
  |.If t b o _=>(bY P st n sc σ t).bind λc=>if c then bW P n sc σ st b else bW P n sc σ st o
  |.For t i b o _=>match o with
   |[]=>(nu P st n sc σ i).bind λit=>match it with
    |.fixed vs=>pL (λv σ st=>(dq sc t v σ).bind λcR=>bW P n sc cR st b) vs σ st
    |.enum vs=>match t with
     |.Tuple _ _ _=>pL (λv σ st=>(dq sc t v σ).bind λcR=>bW P n sc cR st b) (oN 0 vs) σ st
     |_=>af
    |.live l=>oT (λv σ st=>(dq sc t v σ).bind λcR=>bW P n sc cR st b) l 100000 0 σ st
   |_=>af
  |.While t b o _=>match o with
   |[]=>nw (λσ st=>bY P st n sc σ t) (λσ st=>bW P n sc σ st b) 100000 σ st
   |_=>af
  |.Return e _=>match e with
   |some e=>(ay P st n sc σ e).map λv=>(.ret v,σ,st)
   |af=>some (.ret .none,σ,st)
  |.Break _=>some (.brk,σ,st)
  |.Try b hs o f _=>match hs,o,f with
   |_::_,[],[]=>(bW P n sc σ st b).bind λout=>match out.1 with
    |.exc _ _=>af
    |_=>some out
   |_,_,_=>af
  |.Raise e c _=>match e,c with
   |some (.Call (.Name x _) [a] [] _),af=>(fY P sc σ x).bind λcv=>(ay P st n sc σ a).bind λv=>match cv,v with
    |.obj c,.str s=>if P.Rc c=aj then some (.exc c s,σ,st)else af
    |_,_=>af
   |_,_=>af
  |_=>af
end
variable{P:pD}{st:St}{sc:Sc}{σ:Sg}
noncomputable def eu(bk:aN->Prop)(h h':ca):Prop:=
 ∀b o,h.get? b=some o->h'.get? b=some o\/(bk b/\(∃es n,o.data=.dict es n)/\∃sl,h'.get? b=some {o with slots:=sl})
namespace eu
variable{h h' Fk:ca}
theorem refl(h:ca):eu bk h h:=λ_ _ e=>.inl e
theorem of_keep(k:∀b o,h.get? b=some o->h'.get? b=some o):eu bk h h':=λb o e=>.inl (k b o e)
theorem trans(x:eu bk h h')(y:eu bk h' Fk):eu bk h Fk:=by
 intro b o e;rcases x b o e with e1|⟨h1,⟨es,n,hd⟩,sl,e1⟩
 ·exact y b o e1
 ·rcases y b _ e1 with e2|⟨_,_,JW,e2⟩
  ·exact .inr ⟨h1,⟨es,n,hd⟩,sl,e2⟩
  ·exact .inr ⟨h1,⟨es,n,hd⟩,JW,e2⟩
theorem iI(x:eu bk h h')(e:h.get? b=some o)(hd:∀es n,o.data≠.dict es n):h'.get? b=some o:=by
 rcases x b o e with e1|⟨_,⟨es,n,q⟩,_⟩
 ·exact e1
 ·exact bV q (hd es n)
theorem wR(x:eu bk h h')(e:h.get? b=some o)(hb:¬bk b):h'.get? b=some o:=by
 rcases x b o e with e1|⟨q,_⟩
 ·exact e1
 ·exact bV q hb
theorem some(x:eu bk h h')(e:h.get? b=some o):∃o',h'.get? b=mf o'/\o'.data=o.data/\o'.cls=o.cls:=by
 rcases x b o e with e1|⟨_,_,sl,e1⟩
 ·exact ml o e1 rfl rfl
 ·exact ml _ e1 rfl rfl
theorem isList(x:eu bk h h')(l:h.IsList a jk):h'.IsList a jk:=
 kI l λo ho hc n hd=>⟨o,x.iI ho (λ_ _ q=>by rw[hd]at q;cases q),hc,n,hd⟩
theorem isTup(x:eu bk h h')(l:WJ h a jk):WJ h' a jk:=
 kI l λo ho hc n hd=>⟨o,x.iI ho (λ_ _ q=>by rw[hd]at q;cases q),hc,n,hd⟩
theorem iF(x:eu bk h h')(l:h.PlainList a jk):h'.PlainList a jk:=
 eE l λn ho=>⟨n,x.iI ho (λ_ _ q=>by exact gR q)⟩
theorem sI(x:eu bk h h')(l:h.IsCell a v):h'.IsCell a v:=
 cW l λo ho hd=>⟨o,x.iI ho (λ_ _ q=>by rw[hd]at q;cases q),hd⟩
theorem ns(x:eu bk h h')(l:h.Ns a m):h'.Ns a m:=by exact gN l λo es ep ho hd r=>eN (x.some ho) λo' l4 j7 _=>vc o' es ep l4 (j7.trans hd) r
theorem lt(x:eu bk h h')(e:h.get? b=mf o):b<h'.objs.size:=by exact cW (x.some e) λo' e' _=>dK e'
theorem wX(x:eu bk h h')(f:h.FunFrames base l):h'.FunFrames base l:=
 auW (λb o e _=>by refine eN (x.some e) λo' a b _=>?_;exact jW o' a b) f
theorem push(x:eu bk h h')(o:Obj):eu bk h (h'.push o):=x.trans (of_keep λ_ _ e=>aQ _ e)
end eu
mutual
inductive bZ (h:ca) (ι Av:List aN):V->ao->Prop
 |none:bZ h ι Av .none .none
 |bool (b):bZ h ι Av (.bool b) (.bool b)
 |int (i t):bZ h ι Av (.int i) (.int i t)
 |cY (x t):bZ h ι Av (.cY x) (.float x t)
 |str (s t):s.length<=16777216->bZ h ι Av (.str s) (.str s t)
 |tup {a vs ws}:WJ h a (bl ws)->a∉Av->ws.length<=16777216->bq h ι Av vs ws->bZ h ι Av (.tup vs) (.ref a)
 |lst {a vs ws}:h.PlainList a (bl ws)->a∉Av->ws.length<=16777216->bq h ι Av vs ws->bZ h ι Av (.lst vs) (.ref a)
 |loc {l a}:ι[l]?=some a->bZ h ι Av (.loc l) (.ref a)
 |obj (a):bZ h ι Av (.obj a) (.ref a)
 |qo {a vs ws}:h.IsList a (bl ws)->a∉Av->ws.length<=16777216->bq h ι Av vs ws->bZ h ι Av (.qo vs) (.ref a)
inductive bq (h:ca) (ι Av:List aN):List V->List ao->Prop
 |nil:bq h ι Av [] []
 |cons {v w vs ws}:bZ h ι Av v w->bq h ι Av vs ws->bq h ι Av (v::vs) (w::ws)
end
noncomputable def Vs(h:ca)(ι Av:List aN)(v:V)(w:ao):Prop:=
 V.casesOn (motive_1:=λ_=>Prop) v (w=.none) (λb=>w=.bool b) (λi=>∃t,w=.int i t) (λx=>∃t,w=.float x t) (λs=>∃t,w=.str s t/\s.length<=16777216)
  (λvs=>∃a ws,w=.ref a/\WJ h a (bl ws)/\a∉Av/\ws.length<=16777216/\bq h ι Av vs ws) (λvs=>∃a ws,w=.ref a/\h.PlainList a (bl ws)/\a∉Av/\ws.length<=16777216/\bq h ι Av vs ws)
  (λl=>∃a,w=.ref a/\ι[l]?=some a) (λa=>w=.ref a) (λvs=>∃a ws,w=.ref a/\h.IsList a (bl ws)/\a∉Av/\ws.length<=16777216/\bq h ι Av vs ws)
section
variable{h:ca}{x:ao}{v:V}
theorem bZ.inv(r:bZ h ι Av v x):Vs h ι Av v x:=
 bZ.casesOn (motive_1:=λv x _=>Vs h ι Av v x) r rfl (λ_=>rfl) (λ_ t=>⟨t,rfl⟩) (λ_ t=>⟨t,rfl⟩) (λ_ t z=>⟨t,rfl,z⟩)
  (λa b c d=>⟨_,_,rfl,a,b,c,d⟩) (λa b c d=>⟨_,_,rfl,a,b,c,d⟩) (λa=>⟨_,rfl,a⟩) (λ_=>rfl) (λa b c d=>⟨_,_,rfl,a,b,c,d⟩)
theorem bZ.i0(r:bZ h ι Av .none x):x=.none:=r.inv
theorem bZ.i1(r:bZ h ι Av (.bool b) x):x=.bool b:=r.inv
theorem bZ.i2(r:bZ h ι Av (.int i) x):∃t,x=.int i t:=r.inv
theorem bZ.i3{f}(r:bZ h ι Av (.cY f) x):∃t,x=.float f t:=r.inv
theorem bZ.i4{s}(r:bZ h ι Av (.str s) x):∃t,x=.str s t/\s.length<=16777216:=r.inv
theorem bZ.i5{vs}(r:bZ h ι Av (.tup vs) x):∃a ws,x=.ref a/\WJ h a (bl ws)/\a∉Av/\ws.length<=16777216/\bq h ι Av vs ws:=r.inv
theorem bZ.i6{vs}(r:bZ h ι Av (.lst vs) x):∃a ws,x=.ref a/\h.PlainList a (bl ws)/\a∉Av/\ws.length<=16777216/\bq h ι Av vs ws:=r.inv
theorem bZ.i7{l}(r:bZ h ι Av (.loc l) x):∃a,x=.ref a/\ι[l]?=some a:=r.inv
theorem bZ.i8{a}(r:bZ h ι Av (.obj a) x):x=.ref a:=r.inv
theorem bZ.i9{vs}(r:bZ h ι Av (.qo vs) x):∃a ws,x=.ref a/\h.IsList a (bl ws)/\a∉Av/\ws.length<=16777216/\bq h ι Av vs ws:=r.inv
@[elab_as_elim] theorem bZ.e0{G:ao->Prop}(r:bZ h ι Av .none x)(k:G .none):G x:=r.i0▸k
@[elab_as_elim] theorem bZ.e1{G:ao->Prop}(r:bZ h ι Av (.bool b) x)(k:G (.bool b)):G x:=r.i1▸k
@[elab_as_elim] theorem bZ.e2{G:ao->Prop}(r:bZ h ι Av (.int i) x)(k:∀t,G (.int i t)):G x:=r.i2.elim λt e=>e▸k t
@[elab_as_elim] theorem bZ.e3{f}{G:ao->Prop}(r:bZ h ι Av (.cY f) x)(k:∀t,G (.float f t)):G x:=r.i3.elim λt e=>e▸k t
@[elab_as_elim] theorem bZ.e4{s}{G:ao->Prop}(r:bZ h ι Av (.str s) x)(k:∀t,s.length<=16777216->G (.str s t)):G x:=r.i4.elim λt e=>e.1▸k t e.2
@[elab_as_elim] theorem bZ.e5{vs}{G:ao->Prop}(r:bZ h ι Av (.tup vs) x)(k:∀a ws,WJ h a (bl ws)->a∉Av->ws.length<=16777216->bq h ι Av vs ws->G (.ref a)):G x:=
 r.i5.elim λa q=>q.elim λws e=>e.1▸k a ws e.2.1 e.2.2.1 e.2.2.2.1 e.2.2.2.2
@[elab_as_elim] theorem bZ.e6{vs}{G:ao->Prop}(r:bZ h ι Av (.lst vs) x)(k:∀a ws,h.PlainList a (bl ws)->a∉Av->ws.length<=16777216->bq h ι Av vs ws->G (.ref a)):G x:=
 r.i6.elim λa q=>q.elim λws e=>e.1▸k a ws e.2.1 e.2.2.1 e.2.2.2.1 e.2.2.2.2
@[elab_as_elim] theorem bZ.e7{l}{G:ao->Prop}(r:bZ h ι Av (.loc l) x)(k:∀a,ι[l]?=some a->G (.ref a)):G x:=r.i7.elim λa e=>e.1▸k a e.2
@[elab_as_elim] theorem bZ.e8{a}{G:ao->Prop}(r:bZ h ι Av (.obj a) x)(k:G (.ref a)):G x:=r.i8▸k
@[elab_as_elim] theorem bZ.e9{vs}{G:ao->Prop}(r:bZ h ι Av (.qo vs) x)(k:∀a ws,h.IsList a (bl ws)->a∉Av->ws.length<=16777216->bq h ι Av vs ws->G (.ref a)):G x:=
 r.i9.elim λa q=>q.elim λws e=>e.1▸k a ws e.2.1 e.2.2.1 e.2.2.2.1 e.2.2.2.2
noncomputable def Nw(h:ca)(ι Av:List aN)(vs:List V)(ws:List ao):Prop:=
 Jn (motive:=λ_=>Prop) vs (ws=[]) (λv vs=>∃w kC,ws=w::kC/\bZ h ι Av v w/\bq h ι Av vs kC)
theorem bq.inv{vs ws}(r:bq h ι Av vs ws):Nw h ι Av vs ws:=bq.casesOn (motive_2:=λv x _=>Nw h ι Av v x) r rfl (λa b=>⟨_,_,rfl,a,b⟩)
theorem bq.i0{ws}(r:bq h ι Av [] ws):ws=[]:=r.inv
theorem bq.i1{v vs ws}(r:bq h ι Av (v::vs) ws):∃w kC,ws=w::kC/\bZ h ι Av v w/\bq h ι Av vs kC:=r.inv
@[elab_as_elim] theorem bq.e0{ws}{G:List ao->Prop}(r:bq h ι Av [] ws)(k:G []):G ws:=r.i0▸k
@[elab_as_elim] theorem bq.e1{v vs ws}{G:List ao->Prop}(r:bq h ι Av (v::vs) ws)(k:∀w kC,bZ h ι Av v w->bq h ι Av vs kC->G (w::kC)):G ws:=
 r.i1.elim λw q=>q.elim λkC e=>e.1▸k w kC e.2.1 e.2.2
end
section
variable{α β:Type}{a b:α}{P G:Prop}
theorem au(h:some a=some b):a=b:=xk h
theorem bM(e:ah=some a):P:=by cases e
theorem Ut{α β:Type}{Q:(α->β->Prop)->Prop}(L:α->β->Prop)(h:∀LI:α->β->Prop,(∀a b,LI a b->L a b)->(∀a b,L a b->LI a b)->Q LI):∃LI,Q LI:=⟨L,h L (λ_ _=>id) λ_ _=>id⟩
theorem Dy{α β:Type}{C:Prop}{Q:(α->β->Prop)->Prop}{b:β}(thm:∀I:α->β->Prop,Q I->∀n,I n b->C)(L:α->β->Prop)(n:α)(h0:L n b)(h:∀LI:α->β->Prop,(∀a b,LI a b->L a b)->(∀a b,L a b->LI a b)->Q LI):C:=thm L (h L (λ_ _=>id) λ_ _=>id) n h0
@[elab_as_elim] theorem Co{α:Sort u}{P:α->Prop}(x:α)(h:∀Q:α->Prop,(∀x,P x->Q x)->Q x):P x:=h P λ_=>id
theorem gen(h:∀G:Prop,(P->G)->G):P:=h P id
theorem ig{F:α->Prop}(h:some a=some b)(k:F b):F a:=au h▸k
theorem bK{f:α->Option β}{y:β}(h:x.bind f=some y)(k:∀a,x=some a->f a=some y->G):G:=by
 rcases x with _|a
 ·exact bM h
 ·exact k a rfl h
theorem fz{f:α->β}{y:β}(h:x.map f=some y)(k:∀a,x=some a->f a=y->G):G:=by
 rcases x with _|a
 ·exact bM h
 ·exact k a rfl (au h)
theorem cC{c:Prop}[d:Decidable c](h:(if c then x else ah)=some b)(k:c->x=some b->G):G:=by
 rcases d with d|d
 ·exact bM h
 ·exact k d h
theorem r9{c:Prop}[d:Decidable c](h:(if c then x else y)=some b)(k:c->x=some b->G)(k2:y=some b->G):G:=by
 rcases d with d|d
 ·exact k2 h
 ·exact k d h
theorem OP{c:Prop}[d:Decidable c](h:(if c then ah else x)=some b)(k:¬c->x=some b->G):G:=by
 rcases d with d|d
 ·exact k d h
 ·exact bM h
theorem Do{f:α->Option β}(e:[].mapM f=some us):us=[]:=by rw[List.mapM_nil]at e;exact(au e).symm
theorem Dn{f:α->Option β}(e:(a::r).mapM f=some us)(k:∀u q,f a=some u->r.mapM f=some q->us=u::q->G):G:=by rw[bj]at e;exact bK e λu hu e=>bK e λq hq e=>k u q hu hq (au e).symm
end
section
variable{h h':ca}{db df:List aN}{vs us:List V}{ws xs:List ao}{v:V}{w:ao}
structure D8(h h':ca)(ι db Av df:List aN):Prop where
 tup:∀a vs,WJ h a vs->a∉Av->WJ h' a vs/\a∉df
 lst:∀a vs,h.PlainList a vs->a∉Av->h'.PlainList a vs/\a∉df
 qo:∀a vs,h.IsList a vs->a∉Av->h'.IsList a vs/\a∉df
 loc:∀(l:Nat) a,ι[l]?=some a->db[l]?=some a
theorem bZ.map(m:D8 h h' ι db Av df)(r:bZ h ι Av v w):bZ h' db df v w:=
 bZ.rec (motive_1:=λv w _=>bZ h' db df v w) (motive_2:=λv w _=>bq h' db df v w) .none .bool .int .cY .str
  (λa b z _ i=>have q:=m.tup _ _ a b;.tup q.1 q.2 z i) (λa b z _ i=>have q:=m.lst _ _ a b;.lst q.1 q.2 z i) (λa=>.loc (m.loc _ _ a)) .obj (λa b z _ i=>have q:=m.qo _ _ a b;.qo q.1 q.2 z i)
  .nil (λ_ _ a b=>.cons a b) r
theorem bq.map(m:D8 h h' ι db Av df)(r:bq h ι Av vs ws):bq h' db df vs ws:=
 bq.rec (motive_1:=λv w _=>bZ h' db df v w) (motive_2:=λv w _=>bq h' db df v w) .none .bool .int .cY .str
  (λa b z _ i=>have q:=m.tup _ _ a b;.tup q.1 q.2 z i) (λa b z _ i=>have q:=m.lst _ _ a b;.lst q.1 q.2 z i) (λa=>.loc (m.loc _ _ a)) .obj (λa b z _ i=>have q:=m.qo _ _ a b;.qo q.1 q.2 z i)
  .nil (λ_ _ a b=>.cons a b) r
theorem eu.moves(x:eu bk h h'):D8 h h' ι ι Av Av:=⟨λ_ _ a b=>⟨x.isTup a,b⟩,λ_ _ a b=>⟨x.iF a,b⟩,λ_ _ a b=>⟨x.isList a,b⟩,λ_ _ a=>a⟩
theorem bZ.ext(x:eu bk h h')(r:bZ h ι Av v w):bZ h' ι Av v w:=r.map x.moves
theorem bq.ext(x:eu bk h h')(r:bq h ι Av vs ws):bq h' ι Av vs ws:=r.map x.moves
theorem bq.length(r:bq h ι Av vs ws):vs.length=ws.length:=by
 induction vs generalizing ws with
 |nil=>exact r.e0 rfl
 |cons v vs ih=>exact r.e1 λw kC _ b=>congrArg (·+1) (ih b)
theorem bq.append(r:bq h ι Av vs ws)(y:bq h ι Av us xs):bq h ι Av (vs++us) (ws++xs):=by
 induction vs generalizing ws with
 |nil=>exact r.e0 y
 |cons v vs ih=>exact r.e1 λw kC a b=>.cons a (ih b)
theorem bq.get(r:bq h ι Av vs ws){k:Nat}{v:V}(e:vs[k]?=some v):∃w,ws[k]?=some w/\bZ h ι Av v w:=by
 induction vs generalizing ws k with
 |nil=>exact bM e
 |cons u vs ih=>
  refine r.e1 λw kC a b=>?_;rcases k with _|k
  ·exact jW w rfl (au e▸a)
  ·exact ih b e
theorem bq.drop(r:bq h ι Av vs ws)(k:Nat):bq h ι Av (vs.drop k) (ws.drop k):=by
 induction vs generalizing ws k with
 |nil=>refine r.e0 ?_;refine am aev (am aev ?_);exact .nil
 |cons u vs ih=>
  refine r.e1 λw kC a b=>?_;rcases k with _|k
  ·exact .cons a b
  ·exact ih b k
theorem bq.take(r:bq h ι Av vs ws)(k:Nat):bq h ι Av (vs.take k) (ws.take k):=by
 induction vs generalizing ws k with
 |nil=>refine r.e0 ?_;refine am ak8 (am ak8 ?_);exact .nil
 |cons u vs ih=>
  refine r.e1 λw kC a b=>?_;rcases k with _|k
  ·exact .nil
  ·exact .cons a (ih b k)
end
noncomputable def JR(e:Expr):Bool:=Expr.casesOn (motive_1:=λ_=>Bool) e (λ_ _ _=>an) (λ_ _ _=>an) (λ_ _ _ _=>an) (λ_ _ _=>an) (λ_ _ _ _=>an) (λ_ _ _ _=>an) (λ_ _ _=>an) (λ_ _ _=>an) (λ_ _ _ _=>an) (λ_ _ _ _=>an) (λ_ _ _ _ _=>an) (λ_ _ _ _=>an) (λ_ _=>an) (λ_ _=>an) (λ_ _=>an) (λ_ _ _ _=>an) (λ_ _ _ _=>an) (λ_ _ _ _=>an) (λ_ _=>an) (λ_ _ _=>an) (λ_ _ _=>an) (λ_ _ _=>an) (λ_ _=>aj) (λ_ _=>an) (λ_ _=>an) (λ_ _ _=>an) (λ_ _ _ _=>an)
theorem zD(h:JR e=an)(x:Expr)(p:Pos):e≠.Starred x p:=λq=>by subst q;exact bB (show aj=an from h)
noncomputable def ja(bk:aN->Prop)(s s':ai):Prop:=∃h' k,s'={s with heap:=h',toks:=k}/\eu bk s.heap h'
namespace ja
variable{s s' g8:ai}
theorem refl(s:ai):ja bk s s:=⟨s.heap,s.toks,rfl,.refl _⟩
theorem trans(x:ja bk s s')(y:ja bk s' g8):ja bk s g8:=by refine iw x λh k fC e=>?_;subst fC;refine iw y λh' k' fC e'=>?_;subst fC;exact jp h' k' rfl (e.trans e')
theorem tok(k:Nat):ja bk s {s with toks:=k}:=⟨s.heap,k,rfl,.refl _⟩
theorem heap(x:ja bk s s'):eu bk s.heap s'.heap:=by refine iw x λh k fC e=>?_;subst fC;exact e
theorem push(o:Obj):ja bk s {s with heap:=s.heap.push o}:=⟨_,s.toks,rfl,.of_keep λ_ _ e=>aQ _ e⟩
theorem G9(o:Obj)(k:Nat):ja bk s {s with heap:=s.heap.push o,toks:=k}:=⟨_,k,rfl,.of_keep λ_ _ e=>aQ _ e⟩
theorem keep{k:Nat}(hk:∀b o,s.heap.get? b=some o->h'.get? b=some o):ja bk s {s with heap:=h',toks:=k}:=⟨_,k,rfl,.of_keep hk⟩
theorem Ds(hk:∀b o,s.heap.get? b=some o->h'.get? b=some o):ja bk s {s with heap:=h'}:=⟨_,s.toks,rfl,.of_keep hk⟩
end ja
noncomputable def ku(Av:List aN)(h:ca):Prop:=∀a∈Av,∃o,h.get? a=some o
theorem ku.new(x:ku Av h):h.objs.size∉Av:=λhm=>by exact eE (x _ hm) λo e=>gj _ (dK e)
theorem ku.none(x:ku Av h)(ha:h.get? a=af):a∉Av:=λhm=>by refine eE (x _ hm) λo e=>?_;rw[ha]at e;cases e
theorem ku.ext(x:ku Av h)(e:eu bk h h'):ku Av h':=λa ha=>by refine eE (x a ha) λo ho=>cW (e.some ho) λo' h1 _=>?_;exact⟨o',h1⟩
noncomputable abbrev eb(bk:aN->Prop)(ι Av:List aN)(s:ai)(Q:ao->ai->Prop)(v:V):Prop:=
 ∀w s',ja bk s s'->bZ s'.heap ι Av v w->Q w s'
section
variable{w:bz}{s:ai}{Q:ao->ai->Prop}
theorem ll(kH:ku Av h)(r:bq h ι Av vs ws)(hz:ws.length<=16777216):
  bZ (h.push {cls:=.type "tuple",data:=.seq ws.toArray}) ι Av (.tup vs) (.ref h.objs.size):=
 .tup ⟨_,bN _ rfl,rfl,_,rfl⟩ kH.new hz (r.ext (bk:=λ_=>False) (.of_keep λ_ _ e=>aQ _ e))
theorem jf(kH:ku Av h)(r:bq h ι Av vs ws)(hz:ws.length<=16777216):
  bZ (h.push {cls:=.type "list",data:=.seq ws.toArray}) ι Av (.lst vs) (.ref h.objs.size):=
 .lst ⟨_,bN _ rfl⟩ kH.new hz (r.ext (bk:=λ_=>False) (.of_keep λ_ _ e=>aQ _ e))
theorem GL(h:EF a=aj):ala a<=64:=by
 have h1:a.natAbs<2^62:=bG h;have:a.natAbs.log2<62:=by
  by_cases h0:a.natAbs=0
  ·rw[h0];decide
  ·exact(Nat.log2_lt h0).mpr h1
 unfold ala;split<;>(first|exact Yv|exact(dD _ 1 (S1 V0) (.k 64) (D1 (S1 V0) (.k 62) .n) rfl this))
theorem lk(h:zc n=aj):n.natAbs<2^1023:=
 hJ (bG h:n.natAbs<2^62) (Nat.pow_le_pow_right (by decide) (by decide))
theorem yh{vs ws:List ao}(hl:s.heap.IsList l vs.toArray)(hb:s.heap.IsList b ws.toArray)
  (h:Q (.ref s.heap.objs.size) {s with heap:=s.heap.push {cls:=.type "list",data:=.seq (vs++ws).toArray}})
  (hsz:vs.length+ws.length<=vP):aA (az prog w) A (rS .Add (.ref l) (.ref b)) Q E s:=by
 refine gen λGG fN=>?_;refine kI (id hl) λqN ho hc n hd=>?_;obtain⟨cls,dd,data,sl⟩:=qN;refine fN ?_;refine gen λGG fN=>?_;refine kI (id hb) λqN Cd DC n2 hd2=>?_;obtain⟨Vd,yM,data2,Jr⟩:=qN;refine fN ?_;simp only at hc hd DC hd2;subst hc hd DC hd2;have e:vs.toArray++ws.toArray=(vs++ws).toArray:=by simp
 refine concat_meets ⟨_,ho,rfl⟩ ⟨_,Cd,rfl⟩ noFill_list_add seq_list_add PySem.F.slot_list_add PySem.F.entry_list_add (PySem.F.args_list_add_2 _ _) (list_addW l b vs.toArray ws.toArray n n2 dd yM sl Jr (by simpa using hsz)) ⟨ho,Cd,?_⟩;exact am e h
theorem xJ(ht:WJ s.heap t vs.toArray)(hb:WJ s.heap b ws.toArray)(hv:vs≠[])(hw:ws≠[])
  (h:Q (.ref s.heap.objs.size) {s with heap:=s.heap.push {cls:=.type "tuple",data:=.seq (vs++ws).toArray}})
  (hsz:vs.length+ws.length<=vP):aA (az prog w) A (rS .Add (.ref t) (.ref b)) Q E s:=by
 refine gen λGG fN=>?_;refine kI (id ht) λqN ho hc n hd=>?_;obtain⟨cls,dd,data,sl⟩:=qN;refine fN ?_;refine gen λGG fN=>?_;refine kI (id hb) λqN Cd DC n2 hd2=>?_;obtain⟨Vd,yM,data2,Jr⟩:=qN;refine fN ?_;simp only at hc hd DC hd2;subst hc hd DC hd2;have e:vs.toArray++ws.toArray=(vs++ws).toArray:=by simp
 refine concat_meets ⟨_,ho,rfl⟩ ⟨_,Cd,rfl⟩ noFill_tuple_add seq_tuple_add PySem.F.slot_tuple_add PySem.F.entry_tuple_add (PySem.F.args_tuple_add_2 _ _)
  (tuple_addW2 t b vs.toArray ws.toArray n n2 dd yM sl Jr (by simpa using hv) (by simpa using hw) (by refine am bD (am bD ?_);exact hsz)) ⟨ho,Cd,?_⟩
 exact am e h
theorem v7{u:Tok}(hl:s.heap.IsList l [v].toArray)
  (h:Q (.ref s.heap.objs.size) {s with heap:=s.heap.push {cls:=.type "list",data:=.seq ([v]++[v]++[v]).toArray}}):
  aA (az prog w) A (rS .Mult (.ref l) (.int 3 u)) Q E s:=by
 refine gen λGG fN=>?_;refine kI (id hl) λqN ho hc n hd=>?_;obtain⟨cls,dd,data,sl⟩:=qN;refine fN ?_;simp only at hc hd;subst hc hd;refine wpAny_binaryOp_repeat_ref (T:="list") (U:="int") (by decide) ⟨_,ho,rfl⟩ (λs'=>typeIs_int s' 3 u) noFill_list_mul PySem.F.fills_int_mul ajz repeat_list PySem.F.slot_int_index.lookup
  (qG ajz (typeIs_int s 3 u) PySem.F.entry_int_rmul (PySem.F.args_int_rmul_2 _ _) (lm_int_rmul_list_any 3 u l [v].toArray n dd sl)
   ⟨ho,rfl,⟨_,ho,rfl⟩,qG PySem.F.slot_list_mul ⟨_,ho,rfl⟩ PySem.F.entry_list_mul (PySem.F.args_list_mul_2 _ _)
    (lm_list_mul_any l [v].toArray n dd sl 3 u (by decide) (by simp) (by simp[Builtin.List.listTooLong,vP]))
    ⟨ho,?_⟩⟩)
 exact h
theorem J5(x:Array Nat)(k:Nat):∀(iN:Array Nat),((dZ k x).foldl (·++·) iN).size=iN.size+k*x.size:=by
 induction k with
 |zero=>
  exact λiN=>by simp
 |succ k ih=>
  exact λiN=>by rw[List.replicate_succ,fP,ih,aku,Nat.succ_mul];exact Yu
theorem Kj(x:Str)(n:Int):(alG x n).length<=x.length*n.toNat:=by
 unfold alG;split
 ·exact bo _
 ·rename_i h0;split
  ·have:1<=n.toNat:=by exact Yt h0
   exact Nat.le_mul_of_pos_right _ this
  ·show((dZ n.toNat x.cps).foldl (·++·) #[]).size<=_;rw[J5];simp[Str.length,Nat.mul_comm]
theorem rp(k:eb bk ι Av s Q (.int v)):Q (.int v s.toks) {s with toks:=s.toks+1}:=k _ _ (.tok _) (.int _ _)
theorem mL(k:eb bk ι Av s Q (.cY v)):Q (.float v s.toks) {s with toks:=s.toks+1}:=k _ _ (.tok _) (.cY _ _)
theorem QS{k:Int}{x:Str}(h:x.length<=16/\k<=64/\0<=k):x.length*k.toNat<=16*64:=ak1 h.1 (Yr h)
theorem yf{x:Str}{k:Int}{t u:Tok}(h:x.length<=16/\k<=64/\0<=k)(hk:eb bk ι Av s Q (.str (alG x k))):aA (az prog w) A (rS .Mult (.str x t) (.int k u)) Q E s:=by
 refine SB.mul ⟨?_,?_,?_⟩ λt' tk=>hk _ _ (.tok _) (.str _ _ ?_)
 ·simp;exact Yq h
 ·intro h4 _ h5;have:(2^63-1:Int)/k>=(2^63-1:Int)/64:=by
   apply Int.le_ediv_of_mul_le (Yp h4);have:(2^63-1:Int)/64*k<=(2^63-1:Int)/64*64:=Int.mul_le_mul_of_nonneg_left h.2.1 (by decide);have h6:(2^63-1:Int)/64*64<=2^63-1:=by decide
   omega
  have h7:(2^63-1:Int)/64>=100:=by decide
  exact Yo h5 h this
 ·intro _ _;unfold Builtin.Str.tooLong;exact am bC (aW (Nat.not_le.mpr (dg (QS h) (by decide))))
 ·exact aM (Kj x k) (aM (QS h) (by decide))
theorem xI(h:a+b<=16384):a+b<=16777216:=aM h (by decide)
theorem Go(kH:ku Av s.heap)(h:eX .Add a b=some v)(ra:bZ s.heap ι Av a x)(rb:bZ s.heap ι Av b y)(k:eb bk ι Av s Q v):
  aA (az prog w) A (rS .Add x y) Q E s:=by
 refine gen λG bP=>?_;rcases a with _|_|i|i|i|i|i|_|_|_<;>first|exact bM h|(rcases b with _|_|j|j|j|j|j|_|_|_<;>try exact bM h)
 ·exact bP (ra.e2 λ_=>rb.e2 λ_=>PyProof.Rows.add_int (rp (ig h k)))
 ·exact cC h λhc h=>bP (ra.e3 λ_=>rb.e2 λ_=>PyProof.Rows.add_fi_fits (lk hc) (mL (ig h k)))
 ·exact bP (ra.e3 λ_=>rb.e3 λ_=>PyProof.Rows.add_float (mL (ig h k)))
 ·refine cC h λhc h=>bP (ra.e4 λ_ _=>rb.e4 λ_ _=>PyProof.Rows.add_str (λt' tk=>ig h k _ _ (.tok _) (.str _ _ ?_)) ?_)
  ·rw[Str.length_append];exact hc
  ·refine am bC ?_;exact hc
 ·refine cC h λhc h=>bP (ra.e5 λ_ _ la na za ra=>rb.e5 λ_ _ lb nb zb rb=>xJ la lb (λq=>hc.2.1 ?_) (λq=>hc.2.2 ?_) (ig h k _ _ (.push _) (ll kH (ra.append rb) ?_)) ?_)
  ·subst q;exact b4 ra.length
  ·subst q;exact b4 rb.length
  ·refine am aE (jj ra.length (jj rb.length ?_));exact xI hc.1
  ·refine am bC (jj ra.length (jj rb.length ?_));exact xI hc.1
 ·refine cC h λhc h=>bP (ra.e6 λ_ _ la na za ra=>rb.e6 λ_ _ lb nb zb rb=>yh la.isList lb.isList (ig h k _ _ (.push _) (jf kH (ra.append rb) ?_)) ?_)
  ·refine am aE (jj ra.length (jj rb.length ?_));exact xI hc
  ·refine am bC (jj ra.length (jj rb.length ?_));exact xI hc
theorem Gl(kH:ku Av s.heap)(h:eX .Mult a b=some v)(ra:bZ s.heap ι Av a x)(rb:bZ s.heap ι Av b y)(k:eb bk ι Av s Q v):
  aA (az prog w) A (rS .Mult x y) Q E s:=by
 refine gen λG bP=>?_;rcases a with _|_|i|i|i|i|i|_|_|_<;>first|exact bM h|(rcases b with _|_|j|j|j|j|j|_|_|_<;>try exact bM h)
 ·exact cC h λhc h=>bP (ra.e2 λ_=>rb.e2 λ_=>PyProof.Rows.mul_int (rp (ig h k)) (IntMulOk.of_left (GL (bv.mp hc).1)))
 ·exact cC h λhc h=>bP (ra.e2 λ_=>rb.e3 λ_=>PyProof.Rows.mul_if_fits (lk hc) (mL (ig h k)))
 ·exact cC h λhc h=>bP (ra.e3 λ_=>rb.e2 λ_=>PyProof.Rows.mul_fi_fits (lk hc) (mL (ig h k)))
 ·exact bP (ra.e3 λ_=>rb.e3 λ_=>PyProof.Rows.mul_float (mL (ig h k)))
 ·exact cC h λhc h=>bP (ra.e4 λ_ _=>rb.e2 λ_=>yf hc (ig h k))
 ·refine cC h λhc h=>bP (ra.e6 λl ws la na za ra=>rb.e2 λ_=>?_);have hn:ws.length=1:=ra.length.symm.trans hc.2;rcases ws with _|⟨u,_|⟨_,_⟩⟩
  ·exact bV hn (by decide)
  ·exact am hc.1 (v7 la.isList (ig h k _ _ (.push _) (jf kH ((ra.append ra).append ra) (show 3<=16777216 by decide))))
  ·exact bV (alo hn) (L6 _)
theorem Gk(h:eX .Sub a b=some v)(ra:bZ s.heap ι Av a x)(rb:bZ s.heap ι Av b y)(k:eb bk ι Av s Q v):
  aA (az prog w) A (rS .Sub x y) Q E s:=by
 refine gen λG bP=>?_;rcases a with _|_|i|i|i|i|i|_|_|_<;>first|exact bM h|(rcases b with _|_|j|j|j|j|j|_|_|_<;>try exact bM h)
 ·exact bP (ra.e2 λ_=>rb.e2 λ_=>PyProof.Rows.sub_int (rp (ig h k)))
 ·exact cC h λhc h=>bP (ra.e2 λ_=>rb.e3 λ_=>PyProof.Rows.sub_if_fits (lk hc) (mL (ig h k)))
 ·exact cC h λhc h=>bP (ra.e3 λ_=>rb.e2 λ_=>PyProof.Rows.sub_fi_fits (lk hc) (mL (ig h k)))
 ·exact bP (ra.e3 λ_=>rb.e3 λ_=>PyProof.Rows.sub_float (mL (ig h k)))
theorem Dl(h:QD x=aj):¬amg x=aj:=by simpa [QD]using h
theorem Gn(h:eX .Div a b=some v)(ra:bZ s.heap ι Av a x)(rb:bZ s.heap ι Av b y)(k:eb bk ι Av s Q v):
  aA (az prog w) A (rS .Div x y) Q E s:=by
 refine gen λG bP=>?_;rcases a with _|_|i|i|i|i|i|_|_|_<;>first|exact bM h|(rcases b with _|_|j|j|j|j|j|_|_|_<;>try exact bM h)
 ·refine cC h λhc h=>bP (ra.e2 λ_=>rb.e2 λ_=>AutoIntOps.truediv_2 ?_ ?_ (mL (ig h k)))
  ·simpa using hc.1
  ·simp[hc.2]
 ·exact cC h λhc h=>have q:=bv.mp hc;bP (ra.e2 λ_=>rb.e3 λ_=>AutoFloatOps.truediv_if_2 (aly (lk q.1)) (Dl q.2) (mL (ig h k)))
 ·exact cC h λhc h=>have q:=bv.mp hc;bP (ra.e3 λ_=>rb.e2 λ_=>AutoFloatOps.truediv_fi_2 (aly (lk q.1)) (Dl q.2) (mL (ig h k)))
 ·exact cC h λhc h=>bP (ra.e3 λ_=>rb.e3 λ_=>AutoFloatOps.truediv_1 (Dl hc) (mL (ig h k)))
theorem Gm(h:eX .Mod a b=some v)(ra:bZ s.heap ι Av a x)(rb:bZ s.heap ι Av b y)(k:eb bk ι Av s Q v):
  aA (az prog w) A (rS .Mod x y) Q E s:=by
 refine gen λG bP=>?_;rcases a with _|_|i|i|i|i|i|_|_|_<;>first|exact bM h|(rcases b with _|_|j|j|j|j|j|_|_|_<;>try exact bM h)
 ·exact cC h λhc h=>bP (ra.e2 λ_=>rb.e2 λ_=>PyProof.Rows.mod_int' hc (rp (ig h k)))
 ·exact cC h λhc h=>bP (ra.e3 λ_=>rb.e3 λ_=>AutoFloatOps.mod_1 (Dl hc) (mL (ig h k)))
theorem Bo(hh:A.handled=ah)(kH:ku Av s.heap)(h:eX op a b=some v)(ra:bZ s.heap ι Av a x)(rb:bZ s.heap ι Av b y)(k:eb bk ι Av s Q v):
  aA (az prog w) A (rS op x y) Q E s:=by
 refine gen λG bP=>?_;revert h;rcases op with _|_|_|_|_|_|_|_|_|_|_|_|_<;>try exact bM
 ·intro h;exact bP (Go kH h ra rb k)
 ·intro h;exact bP (Gk h ra rb k)
 ·intro h;exact bP (Gl kH h ra rb k)
 ·intro h;exact bP (Gn h ra rb k)
 ·intro h;exact bP (Gm h ra rb k)
 ·intro h;rcases a with _|_|i|i|i|i|i|_|_|_<;>first|exact bM h|(rcases b with _|_|j|j|j|j|j|_|_|_<;>try exact bM h)
  refine cC h λhc h=>bP (ra.e2 λ_=>rb.e2 λ_=>?_);refine am hc.1 (am hc.2 ?_);exact PyProof.Rows.pow_int (by decide) (by decide) (rp (ig h k))
 ·intro h;rcases a with _|_|i|i|i|i|i|_|_|_<;>first|exact bM h|(rcases b with _|_|j|j|j|j|j|_|_|_<;>try exact bM h)
  exact cC h λhc h=>bP (ra.e2 λ_=>rb.e2 λ_=>PyProof.Rows.floordiv_int hc.1 (rp (ig h k)) (.inl (PyProof.noPylong_small hc.2)))
end
structure kZ(ι Av:List aN)(st:St)(h:ca):Prop where
 av:ku Av h
 Bb:∀a∈ι,a∈Av
 nd:ι.Nodup
 len:ι.length=st.length
 at_:∀(l:Nat) (vs:List V),st[l]?=some vs->∃a ws,ι[l]?=some a/\h.PlainList a (bl ws)/\ws.length<=16777216/\bq h ι Av vs ws
theorem kZ.ext{st:St}{h h':ca}(x:kZ ι Av st h)(e:eu bk h h'):kZ ι Av st h':=
 ⟨x.av.ext e,x.Bb,x.nd,x.len,λl vs q=>by exact cU (x.at_ l vs q) λa ws h1 h2 h3 h4=>gM a ws h1 (e.iF h2) h3 (h4.ext e)⟩
section
variable{h:ca}
theorem kZ.listOf(S:kZ ι Av st h)(e:eF st v=some vs)(r:bZ h ι Av v w):
  ∃a ws,w=.ref a/\h.PlainList a (bl ws)/\ws.length<=16777216/\bq h ι Av vs ws:=by
 revert e;rcases v with _|_|_|_|_|_|us|l|_|_<;>try exact bM
 ·intro e;exact r.e6 λa ws b _ c d=>⟨a,ws,rfl,b,c,au e▸d⟩
 ·intro e;refine r.e7 λa q=>?_;exact iw (S.at_ l vs e) λa' ws h1 h2=>jp a ws rfl (au (h1.symm.trans q)▸h2)
theorem kf(st:St)(n:Nat)(ih:∀(v:V) (d:pd) (w:ao),dO st n v=some d->bZ h ι Av v w->∃as,Reads h w d as):
  ∀(vs:List V) (ds:List pd) (ws:List ao),vs.mapM (dO st n)=some ds->bq h ι Av vs ws->∃as,A3 h ws ds as:=by
 intro vs
 induction vs with
 |nil=>exact λds ws e r=>r.e0 (Do e▸⟨_,.nil⟩)
 |cons v vs ih2=>exact λds ws e r=>r.e1 λw kC r1 r2=>Dn e λd q hd hq e=>(ih v d w hd r1).elim λas a1=>(ih2 q kC hq r2).elim λbs b1=>⟨_,e▸A3.cons a1 b1⟩
theorem u6(b:h.PlainList a (bl ws))(q:∃as,A3 h ws ds as):∃as,Reads h (.ref a) (.list ds) as:=by exact eE q λas q=>kI b.isList λo ho hc k hd=>⟨_,reads_list_at ho hc hd (by simpa using q)⟩
theorem jS(S:kZ ι Av st h)(n:Nat):∀(v:V) (d:pd) (w:ao),dO st n v=some d->bZ h ι Av v w->∃as,Reads h w d as:=by
 induction n with
 |zero=>
  intro v d w e r;revert e;rcases v with _|_|_|_|_|_|_|_|_|_<;>try exact bM
  ·intro e;exact r.e0 (au e▸⟨_,.none⟩)
  ·intro e;exact r.e1 (au e▸⟨_,.bool _⟩)
  ·intro e;exact r.e2 λ_=>au e▸⟨_,.int _ _⟩
  ·intro e;exact r.e4 λ_ _=>au e▸⟨_,.str _ _⟩
 |succ n ih=>
  intro v d w e r;revert e;rcases v with _|_|_|_|_|vs|vs|l|_|_<;>try exact bM
  ·intro e;exact r.e0 (au e▸⟨_,.none⟩)
  ·intro e;exact r.e1 (au e▸⟨_,.bool _⟩)
  ·intro e;exact r.e2 λ_=>au e▸⟨_,.int _ _⟩
  ·intro e;exact r.e4 λ_ _=>au e▸⟨_,.str _ _⟩
  ·intro e;refine fz e λds hm e=>r.e5 λa ws b _ _ q=>?_;exact eE (kf st n ih vs ds ws hm q) λas q=>kI b λo ho hc k hd=>⟨as,e▸reads_tuple_at ho hc hd (by simpa using q)⟩
  ·intro e;exact fz e λds hm e=>r.e6 λa ws b _ _ q=>e▸u6 b (kf st n ih vs ds ws hm q)
  ·intro e;have key:∀o:Option (List V),st[l]?=o->(match o with|some vs=>(vs.mapM (dO st n)).map xj|ah=>ah)=some d->∃as,Reads h w d as:=λo hl e=>by
    rcases o with _|vs
    ·exact bM e
    ·exact cU (S.listOf (v:=.loc l) hl r) λa ws q1 h2 _ h4=>fz e λds hm e=>q1▸e▸u6 h2 (kf st n ih vs ds ws hm h4)
   exact key _ rfl e
end
section
variable{w:bz}{s:ai}{Q:ao->ai->Prop}
noncomputable def yI(h:ca)(d:pd)(y:ao):Bool:=@decide (∃e as,Reads h y e as/\e.canLay0=aj/\bQ e d=aj) (vW _)
theorem DR(r:Reads h y e as)(hl:e.canLay0=aj):yI h d y=bQ e d:=by
 unfold yI
 cases q:bQ e d with
 |true=>exact @aU _ (vW _) ⟨e,as,r,hl,q⟩
 |false=>
  refine @aW _ (vW _) ?_;intro qz;refine c3 qz λe' as' r' Ai q'=>?_;have:=anl e e' y as as' hl r r';subst this;rw[q]at q';cases q'
theorem nc(hs:fj (.list ds)=aj):cg ds=aj/\dv ds<=63:=by have h1:=pb hs;have h2:=akJ hs;refine⟨h1,?_⟩;have:dv ds+1<=64:=h2;exact(dD _ 1 V0 (.k 63) (D1 (S1 V0) (.k 64) .n) rfl this)
noncomputable def FN(h:ca)(ws:List ao)(ds:List pd):Prop:=
 Jn (motive:=λ_=>Prop) ds (ws=[]) λd ds=>∃w kC as bs,ws=w::kC/\Reads h w d as/\A3 h kC ds bs
theorem ReadsAll.inv(r:A3 h ws ds as):FN h ws ds:=by
 rcases r with _|⟨a,b⟩
 ·rfl
 ·exact KI _ _ _ _ rfl a b
theorem pT:∀{ws:List ao} {as:List aN},A3 h ws ds as->cg ds=aj->
  (∀(j:Nat) (e:pd) (y:ao),ds[j]?=some e->ws[j]?=some y->yI h d y=bQ e d)/\ws.any (yI h d)=ds.any λe=>bQ e d:=by
 induction ds with
 |nil=>exact λr _=>(show _=[]from ReadsAll.inv r)▸⟨λj e y q=>bM q,rfl⟩
 |cons e ds ih=>
  intro ws as r hl;refine yJ (ReadsAll.inv r) λy kC as bs q r1 r2=>eA (bv.mp (show(e.canLay0&&cg ds)=aj from hl)) λh1 h2=>?_;have i:=ih r2 h2;have q1:=DR (d:=d) r1 h1;refine am q (⟨λj e' y' a b=>?_,?_⟩)
  ·rcases j with _|j
   ·exact au a▸au b▸q1
   ·exact i.1 j e' y' a b
  ·exact am Ee (am Ee (am q1 (am i.2 rfl)))
theorem xq:∀{ws:List ao} {as:List aN},A3 h ws ds as->cg ds=aj->∀y∈ws,∃e bs,Reads h y e bs/\e.canLay0=aj:=by
 induction ds with
 |nil=>exact λr _ y hy=>nomatch((show _=[]from ReadsAll.inv r)▸hy)
 |cons e ds ih=>
  intro ws as r hl y hy;refine yJ (ReadsAll.inv r) λy' kC as bs q r1 r2=>eA (bv.mp (show(e.canLay0&&cg ds)=aj from hl)) λh1 h2=>?_;rcases ax.mp (q▸hy)with e1|hy
  ·exact jp e as (e1▸r1) h1
  ·exact ih r2 h2 y hy
theorem AA(r:A3 s.heap ws ds as)(rx:Reads s.heap x d bs)
  (hs:fj (.list ds)=aj) (hd:fj d=aj) (hu:A.units+100<nM):∀y∈ws,Qj A s y x (yI s.heap d y):=by
 intro y hy;exact iw (xq r (nc hs).1 y hy) λe cs re hl=>am (DR re hl) (alT e d A s y x cs bs re rx hl (pb hd) (dg (kS (aM (dJ _ _) (aM (akJ hd) (by decide))) _) hu))
end
section
open MeetsSeq MeetsSeq2 MeetsSeq3 SeqRoads2
open AutoSeq1 (wpAny_loadPart')
noncomputable def aeg(A:b9)(s:ai)(x y:ao)(c:Bool):Prop:=
 ∀(prog:cO) (w:bz) (E:ao->ai->Prop) (Q:ao->ai->Prop),Q (.bool c) s->aA (az prog w) A (akU .Lt x y) Q E s
inductive jl (A:b9) (s:ai) (xs ys:Array ao):Nat->Bool->Prop
 |stop (i):¬(i<xs.size/\i<ys.size)->jl A s xs ys i (decide (xs.size<ys.size))
 |diff (i) {x y c}:xs[i]?=some x->ys[i]?=some y->Qj A.in1 s x y an->aeg A.in1 s x y c->jl A s xs ys i c
 |same (i) {x y c}:xs[i]?=some x->ys[i]?=some y->Qj A.in1 s x y aj->jl A s xs ys (i+1) c->jl A s xs ys i c
set_option tactic.hygienic true in
theorem Kp(l b:aN)(items jV:Array ao)(n n2:Nat)(dd yM:Option aN)(sl Jr:Array (Option ao))(A:b9)(s:ai)(i:Nat)(c:Bool)(HQ:jl A s items jV i c)
  (prog:cO) (w:bz) (R:mq->ai->Prop) (hl:s.heap.get? l=some {cls:=.type "list",dict:=dd,data:=.seq items n,slots:=sl}) (hb:s.heap.get? b=some {cls:=.type "list",dict:=yM,data:=.seq jV n2,slots:=Jr})
  (h:R (.ok (.ret (.bool c))) s):xg (az prog w) A (.builtin "list.__eq__.loop" ⟨[.ref l,.ref b,rawInt i,rawInt 0],[]⟩) R s:=by
 induction HQ with
 |stop i hi=>
  refine ai7 entry_eq_loop (am (r6 plain_eq_loop _) ?_);obtain⟨hp,g,d,tk,os⟩:=s
  wp_walk using du hl,du hb
  by_cases h1:i<items.size
  ·have hi1:items[((i:Nat):Int).toNat]?=some items[i]:=by simp[h1]
   have hi2:jV[((i:Nat):Int).toNat]?=ah:=by simp;exact ab3 h1 hi
   refine am hi1 (am hi2 ?_)
   wp_walk using du hl,du hb
   exact h
  ·have hi1:items[((i:Nat):Int).toNat]?=ah:=by simp;exact o30 h1
   refine am hi1 ?_
   wp_walk using du hl,du hb
   exact h
 |diff i hx hy he hc=>
  rename_i x y c;refine ai7 entry_eq_loop (am (r6 plain_eq_loop _) ?_);have sJ:items[((i:Nat):Int).toNat]?=some x:=by simpa using hx
  have HM:jV[((i:Nat):Int).toNat]?=some y:=by simpa using hy
  obtain⟨hp,g,d,tk,os⟩:=s
  wp_walk using du hl,du hb
  refine am sJ (am HM ?_);refine aR (he prog w _ _ ?_)
  wp_walk using du hl,du hb
  refine am sJ (am HM ?_);refine aR (hc prog w _ _ ?_)
  wp_walk
  simpa using h
 |same i hx hy he hr ih=>
  rename_i x y c;refine ai7 entry_eq_loop (am (r6 plain_eq_loop _) ?_);have sJ:items[((i:Nat):Int).toNat]?=some x:=by simpa using hx
  have HM:jV[((i:Nat):Int).toNat]?=some y:=by simpa using hy
  obtain⟨hp,g,d,tk,os⟩:=s;have hcc:((i:Int)+1)=((i+1:Nat):Int):=by push_cast;rfl
  wp_walk using du hl,du hb
  refine am sJ (am HM ?_);refine aR (he prog w _ _ ?_)
  wp_walk
  exact am hcc (⟨aj' plain_eq_loop _,ih h⟩)
open AutoSeq1 (wpAny_loadPart')
theorem Ks(l b:aN)(items jV:Array ao)(n n2:Nat)(dd yM:Option aN)(sl Jr:Array (Option ao))(c:Bool):
  Meets (Builtin.«list.__lt__» ⟨[.ref l,.ref b],[]⟩)
   (λA R s=>s.heap.get? l=some {cls:=.type "list",dict:=dd,data:=.seq items n,slots:=sl}/\s.heap.get? b=some {cls:=.type "list",dict:=yM,data:=.seq jV n2,slots:=Jr}/\
    jl A s items jV 0 c/\R (.ok (.ret (.bool c))) s):=by
 intro prog w A R s h;obtain⟨hp,g,d,tk,os⟩:=s;refine wg h λhl hb hc h=>?_;have f3:=AutoSeq1.sub_list_list
 wp_walk using du hl,du hb
 exact⟨aj' plain_eq_loop _,Kp l b items jV n n2 dd yM sl Jr A _ 0 c hc prog w R hl hb h⟩
theorem jl.in1{A:b9}{s:ai}{xs ys:Array ao}{i:Nat}{c:Bool}(h:jl A.in1 s xs ys i c):jl A s xs ys i c:=by
 induction h with
 |stop i hi=>exact .stop i hi
 |diff i hx hy he hc=>exact .diff i hx hy (alH he) λprog w E Q hq=>wpAny_of_in1 (hc prog w E Q hq)
 |same i hx hy he _ ih=>exact .same i hx hy (alH he) ih
section
variable{w:bz}{s:ai}{Q:ao->ai->Prop}
theorem v6{l b:aN}{items jV:Array ao}{c:Bool}(hl:s.heap.IsList l items)(hb:s.heap.IsList b jV)(hu:A.units<nM)
  (hr:jl A.in1 s items jV 0 c) (h:Q (.bool c) s):aA (az prog w) A (d9 .Lt (.ref l) (.ref b)) Q E s:=by
 refine gen λGG fN=>?_;refine kI (id hl) λqN ho MZ n hd=>?_;obtain⟨cls,dd,data,sl⟩:=qN;refine fN ?_;refine gen λGG fN=>?_;refine kI (id hb) λqN Cd DC n2 hd2=>?_;obtain⟨Vd,yM,data2,Jr⟩:=qN;refine fN ?_;simp only at MZ hd DC hd2;subst MZ hd DC hd2;show aA (az prog w) A (akU .Lt (.ref l) (.ref b)) Q E s;refine richCompare_meets_room (op:=.Lt) ⟨_,ho,rfl⟩ ⟨_,Cd,rfl⟩ PySem.F.slot_list_lt PySem.F.entry_list_lt (PySem.F.args_list_lt_2 _ _) (Ks l b items jV n n2 dd yM sl Jr c)
  ⟨ho,Cd,hr.in1,show ao.bool c≠ao.notImplemented/\Q (.bool c) s from⟨(λx=>nomatch x),h⟩⟩ hu
end
end
section
variable{w:bz}{s:ai}{Q:ao->ai->Prop}
theorem Iz{s:ai}(a b:Int)(t u:Tok)(hu:A.units<nM):Qj A s (.int a t) (.int b u) (a==b):=by have:=alT (.int a) (.int b) A s (.int a t) (.int b u) _ _ (.int a t) (.int b u) rfl rfl (ab' hu);exact this
theorem Iy{s:ai}(a:Str)(t u:Tok):Qj A s (.str a t) (.str a u) aj:=λprog w E Q hq=>by
 unfold eqBool;refine gG (wpAny_ite_split (λ_=>?_) (λM1=>?_))
 ·exact aR (vN (aO hq))
 ·refine aR (show aA (az prog w) A (d9 .Eq (.str a t) (.str a u)) _ E s from aj2 ?_);rw[c6];exact xf hq
theorem uM{a c:Bool}(h:some a=some c)(k:Q (.bool c) s):Q (.bool a) s:=au h▸k
theorem Hw(hu:A.units+1<nM)(as:List V):∀(bs:List V) (xs ys:List ao) (c:Bool) (i:Nat) (X Y:List ao),X.length=i->Y.length=i->mH as bs=some c->bq s.heap ι Av as xs->bq s.heap ι Av bs ys->
  jl A s (X++xs).toArray (Y++ys).toArray i c:=by
 induction as with
 |nil=>
  intro bs xs ys c i X Y hX hY h ra rb;rcases bs with _|⟨b,bs⟩
  ·refine ra.e0 (rb.e0 ?_);have e:c=decide ((X++[]).toArray.size<(Y++[]).toArray.size):=by refine jj (au h) ?_;simp[hX,hY]
   exact am e (.stop i (by simp[hX]))
  ·exact bM h
 |cons a as ih=>
  intro bs xs ys c i X Y hX hY h ra rb;rcases bs with _|⟨b,bs⟩
  ·rcases a<;>exact bM h
  ·refine ra.e1 λx xs r1 ra=>rb.e1 λy ys r2 rb=>?_;have hx:(X++x::xs).toArray[i]?=some x:=by subst hX;simp
   have hy:(Y++y::ys).toArray[i]?=some y:=by refine jj hY ?_;simp
   have next:mH as bs=some c->jl A s (X++x::xs).toArray (Y++y::ys).toArray (i+1) c:=λhc=>by have:=ih bs xs ys c (i+1) (X++[x]) (Y++[y]) (by simp[hX]) (by simp[hY]) hc ra rb;simpa using this
   refine gen λG bP=>?_;rcases a with _|_|p|p|p|p|p|_|_|_<;>first|exact bM h|(rcases b with _|_|q|q|q|q|q|_|_|_<;>try exact bM h)
   ·refine bP (r1.e2 (G:=λx=>(X++x::xs).toArray[i]?=some x->(mH as bs=some c->jl A s (X++x::xs).toArray (Y++y::ys).toArray (i+1) c)->jl A s (X++x::xs).toArray (Y++y::ys).toArray i c) (λt hx=>r2.e2 (G:=λy=>(Y++y::ys).toArray[i]?=some y->(mH as bs=some c->jl A s (X++aep p t::xs).toArray (Y++y::ys).toArray (i+1) c)->jl A s (X++aep p t::xs).toArray (Y++y::ys).toArray i c) (λu hy next=>?_) hy) hx next)
    have hq:=Iz (A:=A.in1) (s:=s) p q t u hu;by_cases KQ:p=q
    ·replace hq:=(show(p==q)=aj from by rw[KQ];exact c6 q)▸hq;exact .same i hx hy hq (next ((aP KQ).symm.trans h))
    ·replace hq:=(show(p==q)=an from beq_false_of_ne KQ)▸hq;exact .diff i hx hy hq (au ((bg KQ).symm.trans h)▸λprog w E Q hq=>CP hq)
   ·refine cC h λKQ h=>bP (r1.e4 (G:=λx=>(X++x::xs).toArray[i]?=some x->(mH as bs=some c->jl A s (X++x::xs).toArray (Y++y::ys).toArray (i+1) c)->jl A s (X++x::xs).toArray (Y++y::ys).toArray i c) (λt _ hx=>r2.e4 (G:=λy=>(Y++y::ys).toArray[i]?=some y->(mH as bs=some c->jl A s (X++akl p t::xs).toArray (Y++y::ys).toArray (i+1) c)->jl A s (X++akl p t::xs).toArray (Y++y::ys).toArray i c) (λu _ hy next=>?_) hy) hx next)
    exact .same i hx hy (KQ▸Iy p _ _) (next h)
theorem DX(S:kZ ι Av st s.heap)(hu:A.units+200<nM){v:V}{vs:List V}{a:V}{c:Bool}{x y:ao}(hl:eF st v=some vs)(h:(match dO st 8 a with
  |some d=>match vs.mapM (dO st 8)with
   |some ds=>if bJ (.list ds)&&bJ d then some (ds.any λe=>bQ e d)else ah
   |none=>ah
  |none=>ah)=some c) (ra:bZ s.heap ι Av a x) (rb:bZ s.heap ι Av v y):
  (Q (.bool c) s->aA (az prog w) A (d9 .In x y) Q E s)/\(Q (.bool (!c)) s->aA (az prog w) A (d9 .NotIn x y) Q E s):=by
 cases hd:dO st 8 a with
 |none=>replace h:=hd▸h;exact bM h
 |some d=>
  replace h:=hd▸h;cases tH:vs.mapM (dO st 8)with
  |none=>replace h:=tH▸h;exact bM h
  |some ds=>
   replace h:=tH▸h;refine cC h λhc h=>eA (bv.mp hc) λh1 h2=>?_;refine cU (S.listOf hl rb) λl ws q hL _ rs=>eE (jS S 8 a d x hd ra) λas qa=>?_;refine eE (kf st 8 (jS S 8) vs ds ws tH rs) λbs qb=>?_;have he:=AA (A:=A.in1) qb qa h1 h2 (dg (kS (by decide:1+100<=200) A.units) hu);have e1:(bl ws).any (yI s.heap d)=c:=by refine am List.any_toArray (am ((pT qb (nc h1).1).2) ?_);exact au h
   exact q▸⟨λk=>SeqAt.in_listAt (yI s.heap d) hL.isList (λy hy=>he y (by simpa using hy)) (e1.symm▸k),λk=>SeqAt.notIn_listAt (yI s.heap d) hL.isList (λy hy=>he y (by simpa using hy)) (e1.symm▸k)⟩
theorem ww(S:kZ ι Av st s.heap)(hu:A.units+200<nM){a b:V}{c:Bool}{x y:ao}(h:Gf st a b=some c)(ra:bZ s.heap ι Av a x)(rb:bZ s.heap ι Av b y):
  (Q (.bool c) s->aA (az prog w) A (d9 .In x y) Q E s)/\(Q (.bool (!c)) s->aA (az prog w) A (d9 .NotIn x y) Q E s):=by
 refine gen λG bP=>?_;revert h;rcases b with _|_|_|_|q|_|vs|l|_|_<;>try exact bM
 ·intro h;rcases a with _|_|_|_|p|_|_|_|_|_<;>try exact bM h
  refine bP (ra.e4 λ_ _=>rb.e4 λ_ _=>?_);exact au h▸⟨λk=>PyProof.Rows.in_str k,λk=>PyProof.Rows.notIn_str k⟩
 ·intro h;refine bP (DX S hu (v:=.lst vs) rfl ?_ ra rb);refine .trans ?_ h;show _=match some vs,dO st 8 a with|some vs,some d=>_|_,_=>_;cases dO st 8 a<;>rfl
 ·intro h;cases hl:st[l]?with
  |none=>exact bM (show ah=some c from(by refine jj h ?_;show _=match st[l]?,dO st 8 a with|some vs,some d=>_|_,_=>_;exact am hl rfl))
  |some vs=>
   refine bP (DX S hu (v:=.loc l) hl ?_ ra rb);refine .trans ?_ h;show _=match st[l]?,dO st 8 a with|some vs,some d=>_|_,_=>_;refine am hl ?_;cases dO st 8 a<;>rfl
theorem DY(S:kZ ι Av st s.heap)(hu:A.units+200<nM){a b:V}{c:Bool}{x y:ao}(ra:bZ s.heap ι Av a x)(rb:bZ s.heap ι Av b y)(h:(match dO st 8 a,dO st 8 b with
  |some x,some y=>if bJ x&&bJ y then some (bQ x y)else ah
  |_,_=>ah)=some c):
  (Q (.bool c) s->aA (az prog w) A (d9 .Eq x y) Q E s)/\(Q (.bool (!c)) s->aA (az prog w) A (d9 .NotEq x y) Q E s):=by
 cases hd:dO st 8 a with
 |none=>replace h:=hd▸h;exact bM h
 |some d=>
  replace h:=hd▸h
  cases he:dO st 8 b with
  |none=>replace h:=he▸h;exact bM h
  |some e=>
   replace h:=he▸h;refine cC h λhc h=>eA (bv.mp hc) λh1 h2=>?_;refine eE (jS S 8 a d x hd ra) λas qa=>eE (jS S 8 b e y he rb) λbs qb=>?_;exact au h▸⟨λk=>eq_dataH qa qb h1 h2 (o49 hu) k,λk=>ne_dataH qa qb h1 h2 (o49 hu) k⟩
theorem wy(S:kZ ι Av st s.heap)(hu:A.units+200<nM){a b:V}{c:Bool}{x y:ao}(h:Qt st a b=some c)(ra:bZ s.heap ι Av a x)(rb:bZ s.heap ι Av b y):
  (Q (.bool c) s->aA (az prog w) A (d9 .Eq x y) Q E s)/\(Q (.bool (!c)) s->aA (az prog w) A (d9 .NotEq x y) Q E s):=by
 refine gen λG bP=>?_;rcases a with _|a|a|a|a|a|a|_|_|_<;>first|exact bP (DY S hu ra rb h)|(rcases b with _|b|b|b|b|b|b|_|_|_<;>try exact bP (DY S hu ra rb h))
 all_goals first
  |(refine bP (ra.e2 λ_=>rb.e3 λ_=>?_);exact au h▸⟨λk=>eq_if k,λk=>ne_if k⟩)
  |(refine bP (ra.e3 λ_=>rb.e2 λ_=>?_);exact au h▸⟨λk=>eq_fi k,λk=>ne_fi k⟩)
  |(refine bP (ra.e3 λ_=>rb.e3 λ_=>?_);exact au h▸⟨λk=>AutoFloatOps.eq_0 k,λk=>AutoFloatOps.ne_0 k⟩)
  |(refine bP (ra.e4 λ_ _=>rb.e4 λ_ _=>?_);exact au h▸⟨λk=>aj2 k,λk=>PyProof.Rows.ne_str k⟩)
theorem Az{l m:aN}{ws us:List ao}{vs:List V}(la:s.heap.PlainList l (bl ws))(lb:s.heap.PlainList m (bl us))(hu:A.units+200<nM)(rs:bq s.heap ι Av vs ws)(rt:bq s.heap ι Av [] us)(k:Q (.bool vs.isEmpty) s):
  aA (az prog w) A (d9 .Eq (.ref l) (.ref m)) Q E s:=by
 have e:=rt.i0;subst e;rcases vs with _|⟨v,vs⟩
 ·have e:=rs.i0;subst e;exact SeqAt.eq_listAt (e:=λ_=>aj) la.isList lb.isList (by simp) (o29 hu) (λj h1 _=>by simp at h1) k
 ·refine iw rs.i1 λ_ _ e _=>?_;subst e;exact SeqAt.eq_list_lengthsAt la.isList lb.isList (by simp) (o29 hu) k
theorem uG(S:kZ ι Av st s.heap)(hu:A.units+200<nM){op:agH}{a b:V}{c:Bool}{x y:ao}(h:jy st op a b=some c)(ra:bZ s.heap ι Av a x)(rb:bZ s.heap ι Av b y)(k:Q (.bool c) s):
  aA (az prog w) A (d9 op x y) Q E s:=by
 refine gen λG bP=>?_;revert h;rcases op with _|_|_|_|_|_|_|_|_|_<;>try exact bM
 ·intro h;have key:Qt st a b=some c->G:=λh=>bP ((wy S hu h ra rb).1 k);rcases a with _|a|a|a|a|a|a|_|_|_<;>try exact key h
  rcases b with _|b|b|b|b|b|b|_|_|_<;>try exact key h
  rcases b with _|_
  ·exact bP (ra.e6 λ_ _ la _ _ rs=>rb.e6 λ_ _ lb _ _ rt=>Az la lb hu rs rt (au h▸k))
  ·exact key h
 ·intro h;exact fz h λc' q e=>bP ((wy S hu q ra rb).2 (e▸k))
 ·intro h;rcases a with _|a|a|a|a|a|a|_|_|_<;>first|exact bM h|(rcases b with _|b|b|b|b|b|b|_|_|_<;>try exact bM h)
  ·exact bP (ra.e2 λ_=>rb.e2 λ_=>CP (uM h k))
  ·exact cC h λ_ h=>bP (ra.e6 λ_ _ la _ _ rs=>rb.e6 λ_ _ lb _ _ rt=>v6 la.isList lb.isList (o29 hu) (Hw (A:=A.in1) (by exact dp _ _ 1 (.p (.p (S1 V0) K1) K1) V1 (D1 (.p (.p V0 (.k 200)) K1) V1 .n) rfl hu) _ _ _ _ c 0 [] [] rfl rfl h rs rt) k)
 ·intro h;rcases a with _|a|a|a|a|a|a|_|_|_<;>first|exact bM h|(rcases b with _|b|b|b|b|b|b|_|_|_<;>try exact bM h)
  exact bP (ra.e2 λ_=>rb.e2 λ_=>PyProof.Rows.ge_int (uM h k))
 ·intro h;rcases a with _|a|a|a|a|a|a|_|_|_<;>first|exact bM h|(rcases b with _|b|b|b|b|b|b|_|_|_<;>try exact bM h)
  ·exact bP (ra.e0 (rb.e0 (ajH rfl (uM h k))))
  ·exact bP (ra.e4 λ_ _=>rb.e0 (ajH rfl (uM h k)))
  ·exact bP (ra.e5 λ_ _ _ _ _ _=>rb.e0 (ajH rfl (uM h k)))
 ·intro h;rcases a with _|a|a|a|a|a|a|_|_|_<;>first|exact bM h|(rcases b with _|b|b|b|b|b|b|_|_|_<;>try exact bM h)
  ·exact bP (ra.e0 (rb.e0 (wpAny_isNot_plain rfl (uM h k))))
  ·exact bP (ra.e4 λ_ _=>rb.e0 (wpAny_isNot_plain rfl (uM h k)))
 ·intro h;exact bP ((ww S hu h ra rb).1 k)
 ·intro h;exact fz h λc' q e=>bP ((ww S hu q ra rb).2 (e▸k))
end
section
variable{w:bz}{s:ai}{Q:ao->ai->Prop}
theorem tT(slice:Expr)(o i:ao):∃ops,subscripted slice an o i=operate ops (ajv o i):=by rcases slice with _|_|_|_|_|_|_|_|_|_|_|_|_|_|_|_|_|_|_|_|_|_|_|_|_|_|⟨_,_,p⟩<;>first|exact⟨_,rfl⟩|(rcases p with _|_<;>exact⟨_,rfl⟩)
theorem sk{value slice:Expr}{o i:ao}{T id:String}(hT:s.TypeIs o T)(hl:Qi (.type T) "__getitem__"=pure (some (.builtin id)))
  (hg:aA (az prog w) A (ajv o i) Q E s):aA (az prog w) A (ai4 value slice o i) Q E s:=by
 exact eE (tT slice o i) λops h=>tail_any hT hl hg h
theorem GP{k:Int}{n:Nat}(h0:0<=k)(h1:k<n):seqIndex? k n=some k.toNat:=by unfold seqIndex?;have:¬k<0:=o95 h0;simp only[this,if_false];rw[aP (by simp[h0,h1])]
theorem z4{a:aN}{ws:List ao}{vs:List V}{i:Int}{v:V}{u:Tok}(h0:0<=i)(ht:s.heap.PlainList a (bl ws))(hz:ws.length<=16777216)(rs:bq s.heap ι Av vs ws)(h:vs[i.toNat]?=some v)(k:eb bk ι Av s Q v):
  ∃T id,s.TypeIs (.ref a) T/\Qi (.type T) "__getitem__"=pure (some (.builtin id))/\aA (az prog w) A (ajv (.ref a) (.int i u)) Q E s:=by
 refine cW (rs.get h) λwv h1 h2=>?_;have gE:=(aG.mp h1).1;exact iM ("list") _ ht.isList.typeIs slot_list_getitem.lookup (ald ht.isList h0 (o96 gE hz) (by simpa using h1) (k _ _ (.refl _) h2))
theorem JF{a:aN}{ws:List ao}{vs:List V}{i:Int}{v:V}{u:Tok}(h0:0<=i)(ht:WJ s.heap a (bl ws))(hz:ws.length<=16777216)(rs:bq s.heap ι Av vs ws)(h:vs[i.toNat]?=some v)(k:eb bk ι Av s Q v):
  ∃T id,s.TypeIs (.ref a) T/\Qi (.type T) "__getitem__"=pure (some (.builtin id))/\aA (az prog w) A (ajv (.ref a) (.int i u)) Q E s:=by
 refine cW (rs.get h) λwv h1 h2=>?_;have gE:=(aG.mp h1).1;exact iM ("tuple") _ ht.typeIs slot_tuple_getitem.lookup (getItem_tuple ht (aan h0) (o96 gE hz) (GP h0 (by simp;exact aam gE)) (by simpa using h1) (k _ _ (.refl _) h2))
theorem Cn(S:kZ ι Av st s.heap){a b v:V}{x y:ao}(h:qd st a b=some v)(ra:bZ s.heap ι Av a x)(rb:bZ s.heap ι Av b y)(k:eb bk ι Av s Q v):
  ∃T id,s.TypeIs x T/\Qi (.type T) "__getitem__"=pure (some (.builtin id))/\aA (az prog w) A (ajv x y) Q E s:=by
 refine gen λG bP=>?_;revert h;rcases b with _|_|i|_|_|_|_|_|_|_<;>rcases a with _|_|_|_|x'|vs|vs|l|_|_<;>try exact bM
 ·intro h;refine cC h λh0 h=>fz h λc hx e=>bP (ra.e4 λt hs=>rb.e2 λu=>?_);have gE:i.toNat<x'.cps.size:=(Array.getElem?_eq_some_iff.mp hx).1;have hlen:x'.length=x'.cps.size:=rfl;refine iM ("str") _ (qD _ _ _) aeq.lookup (PyProof.Rows.getItem_str (c:=c) ?_ ?_ ((e▸k:eb bk ι Av s Q (.str ⟨#[c]⟩)) _ _ (.tok _) (.str _ _ (show 1<=16777216 by decide))))
  ·simp;exact aal h0 gE hlen hs
  ·refine am (GP h0 (aak gE hlen)) ?_;exact hx
 ·intro h;exact cC h λh0 h=>bP (ra.e5 λa ws ht hn hz rs=>rb.e2 λu=>JF h0 ht hz rs h k)
 ·intro h;exact cC h λh0 h=>bP (ra.e6 λa ws ht hn hz rs=>rb.e2 λu=>z4 h0 ht hz rs h k)
 ·intro h;refine cC h λh0 h=>bP (rb.e2 λu=>?_);have key:∀o,st[l]?=o->(match o with|some vs=>vs[i.toNat]?|ah=>ah)=some v->∃T id,s.TypeIs x T/\Qi (.type T) "__getitem__"=pure (some (.builtin id))/\aA (az prog w) A (ajv x (.int i u)) Q E s:=λo hl h=>by
   rcases o with _|vs
   ·exact bM h
   ·exact cU (S.listOf (v:=.loc l) hl ra) λa ws q ht hz rs=>q▸z4 h0 ht hz rs h k
  exact key _ rfl h
theorem Bm(S:kZ ι Av st s.heap){value slice:Expr}{a b v:V}{x y:ao}(h:qd st a b=some v)(ra:bZ s.heap ι Av a x)(rb:bZ s.heap ι Av b y)(k:eb bk ι Av s Q v):
  aA (az prog w) A (ai4 value slice x y) Q E s:=by
 exact c3 (Cn (prog:=prog) (w:=w) (A:=A) (E:=E) S h ra rb k) λT id h1 h2 h3=>sk h1 h2 h3
noncomputable def pC(i:Option Int)(w:ao):Prop:=∃l:Option (Int×Tok),w=partValue l/\i=l.map (·.1)
theorem wS{h:ca}{o:Option V}{i:Option Int}{w:ao}(r:match o with|ah=>w=.none|some v=>bZ h ι Av v w)(e:tE o=some i):pC i w:=by
 rcases o with _|v
 ·exact jW ah r ((au e).symm)
 ·revert e;rcases v with _|_|_|_|_|_|_|_|_|_<;>try exact bM
  intro e;exact(bZ.i2 r).elim λt q=>⟨some (_,t),q,(au e).symm⟩
theorem EQ(items:Array ao)(b:Nat):aki items ah (some b) ah=(items.toList.take b).toArray:=by
 have e:aki items ah (some (b:Int)) ah=aki items ah (some ((min b items.size:Nat):Int)) ah:=by unfold aki sliceBounds;simp only[Option.getD_none];have h1:¬((b:Int)<0):=o1;have h2:¬(((min b items.size:Nat):Int)<0):=aaj;simp only[h1,h2,if_false,show(1:Int)>0 by decide,if_true];have:max (0:Int) (min (b:Int) (items.size:Int))=max (0:Int) (min ((min b items.size:Nat):Int) (items.size:Int)):=aai;exact am this rfl
 refine am e (am (slicePick_upto items _ (dJ _ _)) ?_);congr 1;by_cases h:b<=items.size
 ·exact am (jD h) rfl
 ·exact am (kF (VY h)) (am (ef (by simp)) (am (ef (by simp;exact VY h)) rfl))
theorem ql{value:Expr}{p:Pos}{lo hi:Option Expr}{v:V}{i j:Option Int}{y z:ao}{a':aN}{vs:List V}{ws:List ao}(hA:ku Av s.heap)(h:HB vs i j=some v)(ht:s.heap.IsList a' (bl ws))(hz:ws.length<=16777216)(rs:bq s.heap ι Av vs ws)(ri:pC i y)(rj:pC j z)(k:eb bk ι Av s Q v):
  aA (az prog w) A (ai4 value (.Slice lo hi ah p) (.ref a') (.ref s.heap.objs.size)) Q E {s with heap:=s.heap.push {cls:=.type "slice",data:=.fields #[y,z,.none]}}:=by
 have xp:eu bk s.heap (s.heap.push {cls:=.type "slice",data:=.fields #[y,z,.none]}):=.of_keep λ_ _ e=>aQ _ e;have ht':=ht.push {cls:=.type "slice",data:=.fields #[y,z,.none]};have kH:=hA.ext xp;refine sk (T:="list") ht'.typeIs slot_list_getitem.lookup (cW ri λl q1 q2=>?_);refine cW rj λu q3 q4=>?_;subst q1 q2 q3 q4;rcases l with _|⟨a,t⟩<;>rcases u with _|⟨b,t'⟩<;>try exact bM h
 ·refine cC h λhc h=>?_;have⟨n,e⟩:∃n:Nat,b=(n:Int):=⟨b.toNat,(pZ hc.1).symm⟩;subst e;refine aj7 (st:=ah) ht' ⟨_,bN _ rfl,rfl,rfl⟩ .none (.int _ _) .none (by simp) ?_ (by refine am bC ?_;simpa using hz);rw[EQ];exact(au h▸k) _ _ (.trans (.push _) (.push _)) (by simpa using jf (ws:=ws.take n) kH (bq.ext xp (rs.take n)) (aM (by refine am eg ?_;exact dJ _ _) hz))
 ·refine cC h λhc h=>?_;have⟨n,e⟩:∃n:Nat,a=(n:Int):=⟨a.toNat,(pZ hc.1).symm⟩;subst e;refine aj7 (st:=ah) ht' ⟨_,bN _ rfl,rfl,rfl⟩ (.int _ _) .none .none (by simp) ?_ (by refine am bC ?_;simpa using hz);have e1:=rs.length;have hc:n<=vs.length:=eR.mp hc.2;refine am (slicePick_from _ n (by simp;exact o75 hc e1)) ?_;exact(au h▸k) _ _ (.trans (.push _) (.push _)) (by simpa using jf (ws:=ws.drop n) kH (bq.ext xp (rs.drop n)) (aM (by refine am da ?_;exact bO _ _) hz))
theorem xE(S:kZ ι Av st s.heap){value:Expr}{p:Pos}{lo hi:Option Expr}{a v:V}{i j:Option Int}{x y z:ao}(h:xF st a i j=some v)(ra:bZ s.heap ι Av a x)(ri:pC i y)(rj:pC j z)(k:eb bk ι Av s Q v):
  aA (az prog w) A (ai4 value (.Slice lo hi ah p) x (.ref s.heap.objs.size)) Q E {s with heap:=s.heap.push {cls:=.type "slice",data:=.fields #[y,z,.none]}}:=by
 refine gen λG bP=>?_;revert h;rcases a with _|_|_|_|x'|vs|vs|l|_|vs<;>try exact bM
 ·intro h;refine bP (ra.e4 λt hs=>sk (T:="str") (qD _ _ _) aeq.lookup ?_);refine cW ri λl q1 q2=>cW rj λu q3 q4=>?_;subst q1 q2 q3 q4;exact wpAny_getItem_str_slice (l:=l) (u:=u) (st:=ah) ⟨_,bN _ rfl,rfl,rfl⟩ rfl
   (post_val_or_str ⟨aM (Txt.slice_le x' _ _) (by refine am bC ?_;exact hs),λt' kk=>(au h▸k) _ _ (.G9 _ kk) (.str _ _ (aM (Txt.slice_le x' _ _) hs))⟩)
 ·intro h;exact bP (ra.e6 λa ws ht hn hz rs=>ql S.av h ht.isList hz rs ri rj k)
 ·intro h;have key:∀o,st[l]?=o->(match o with|some vs=>HB vs i j|ah=>ah)=some v->G:=λo hl h=>by
   rcases o with _|vs
   ·exact bM h
   ·refine cU (S.listOf (v:=.loc l) hl ra) λa ws q ht hz rs=>?_;subst q;exact bP (ql S.av h ht.isList hz rs ri rj k)
  exact key _ rfl h
 ·intro h;exact bP (ra.e9 λa ws ht hn hz rs=>ql S.av h ht hz rs ri rj k)
end
noncomputable def vL(v:V)(w:ao):Prop:=(∃i t,v=.int i/\w=.int i t)\/(∃x t,v=.cY x/\w=.float x t)
structure Vv(prog:cO)(w:bz)(op:agH)(g:V->V->Option Bool):Prop where
 num:∀{ι Av:List aN} {h:ca} {a b:V} {c:Bool} {x y:ao},g a b=some c->bZ h ι Av a x->bZ h ι Av b y->vL a x/\vL b y
 rule:∀{A:b9} {E:ao->ai->Prop} {s:ai} {Q:ao->ai->Prop} {a b:V} {x y:ao},vL a x->vL b y->Q (.bool ((g a b).getD an)) s->aA (az prog w) A (akU op x y) Q E s
section
variable{w:bz}{s:ai}{Q:ao->ai->Prop}
theorem tz{h:ca}{i:Int}{x:ao}(r:bZ h ι Av (.int i) x):vL (.int i) x:=.inl (r.i2.elim λt e=>⟨i,t,rfl,e⟩)
theorem tA{h:ca}{i:UInt64}{x:ao}(r:bZ h ι Av (.cY i) x):vL (.cY i) x:=.inr (r.i3.elim λt e=>⟨i,t,rfl,e⟩)
theorem SN:Vv prog w .Gt ngt where
 num:=λ{ι Av h a b c x y} e ra rb=>by rcases a with _|_|_|_|_|_|_|_|_|_<;>first|exact bM e|(rcases b with _|_|_|_|_|_|_|_|_|_<;>first|exact bM e|exact⟨tz ra,tz rb⟩|exact⟨tz ra,tA rb⟩|exact⟨tA ra,tz rb⟩|exact⟨tA ra,tA rb⟩)
 rule:=λ{A E s Q a b x y} ha hb k=>by
  rcases ha with⟨i,t,rfl,rfl⟩|⟨p,t,rfl,rfl⟩<;>rcases hb with⟨j,u,rfl,rfl⟩|⟨q,u,rfl,rfl⟩
  ·exact show aA (az prog w) A (d9 .Gt _ _) Q E s from PyProof.Rows.gt_int k
  ·exact show aA (az prog w) A (d9 .Gt _ _) Q E s from gt_if k
  ·exact show aA (az prog w) A (d9 .Gt _ _) Q E s from gt_fi k
  ·exact show aA (az prog w) A (d9 .Gt _ _) Q E s from AutoFloatOps.gt_0 k
theorem SM:Vv prog w .Lt nlt where
 num:=λ{ι Av h a b c x y} e ra rb=>by rcases a with _|_|_|_|_|_|_|_|_|_<;>first|exact bM e|(rcases b with _|_|_|_|_|_|_|_|_|_<;>first|exact bM e|exact⟨tz ra,tz rb⟩|exact⟨tz ra,tA rb⟩|exact⟨tA ra,tz rb⟩|exact⟨tA ra,tA rb⟩)
 rule:=λ{A E s Q a b x y} ha hb k=>by
  rcases ha with⟨i,t,rfl,rfl⟩|⟨p,t,rfl,rfl⟩<;>rcases hb with⟨j,u,rfl,rfl⟩|⟨q,u,rfl,rfl⟩
  ·exact show aA (az prog w) A (d9 .Lt _ _) Q E s from CP k
  ·exact show aA (az prog w) A (d9 .Lt _ _) Q E s from lt_if k
  ·exact show aA (az prog w) A (d9 .Lt _ _) Q E s from lt_fi k
  ·exact show aA (az prog w) A (d9 .Lt _ _) Q E s from AutoFloatOps.lt_0 k
noncomputable def Ia(vs:List V)(i:Nat):V:=vs.getD i .none
noncomputable def Ja(prog:cO)(w:bz)(A:b9)(op:agH)(Q:ao->ai->Prop)(it:ao)(bI:ai):Prop:=
 ∃I fp wr n P St bt,it=.ref I/\Walks prog w A.in1 I fp wr n P St/\St 0 bI.heap/\(∀b∈fp,b<bI.heap.objs.size)/\0<n/\CmpOf prog w A.in1 op P bt/\
  ∀v h' tk,P (akw bt (n-1)) v->(∀b o,b∉wr->bI.heap.get? b=some o->h'.get? b=some o)->Q v {bI with heap:=h',toks:=tk}
noncomputable def gB(g:V->V->Option Bool)(vs:List V)(i j:Nat):Bool:=(g (Ia vs i) (Ia vs j)).getD an
theorem xb{op:agH}{g:V->V->Option Bool}(og:Vv prog w op g)(hh:A.handled=ah){vs:List V}{l:List ao}(hl:0<l.length)(hn:∀(i:Nat) (y:ao),l[i]?=some y->vL (Ia vs i) y)
  (k:∀v h' tk,l[akw (gB g vs) (l.length-1)]?=some v->(∀d o,s.heap.get? d=some o->h'.get? d=some o)->Q v {s with heap:=h',toks:=tk}):
  aA (az prog w) A.in1 (mo (.ref s.heap.objs.size)) (Ja prog w A op Q) E {s with heap:=s.heap.push {cls:=.type "tuple",data:=.seq l.toArray}}:=by
 have hT:(s.heap.push {cls:=.type "tuple",data:=.seq l.toArray}).IsTuple s.heap.objs.size l.toArray:=⟨_,bN _ rfl,rfl,0,rfl⟩;refine alc hT ?_;have hsz:(s.heap.push {cls:=.type "tuple",data:=.seq l.toArray}).objs.size=s.heap.objs.size+1:=jF ..
 refine⟨_,[_,s.heap.objs.size],[_],_,_,_,gB g vs,rfl,Walks.tuple (A:=A.in1) hh _ s.heap.objs.size (by refine am hsz ?_;exact dk (fe _)) l.toArray,
  ⟨⟨_,bN _ rfl,rfl,rfl⟩,hT.push _⟩,λd hd=>?_,hl,λi j vi vj s Q E hi hj hQ=>og.rule (hn i vi (f8.symm.trans hi)) (hn j vj (f8.symm.trans hj)) hQ,λv h' tk hP hk=>k v h' tk (f8.symm.trans hP) λd o e=>hk d o (λhm=>?_) (aQ _ (aQ _ e))⟩
 ·show d<((s.heap.push _).push _).objs.size;rw[jF,hsz];rcases ax.mp hd with e|hd
  ·refine am e (am hsz ?_);exact fe _
  ·refine am (bh.mp hd) ?_;exact iA (fe _)
 ·have hz:=bh.mp hm;replace hz:=hsz▸hz;exact bV (hz▸dK e) (nW.mpr (iB _))
theorem wz{op:agH}{nm:String}{g:V->V->Option Bool}(og:Vv prog w op g){x y:ao}(cr:aA (az prog w) A.in1 (mo (.ref s.heap.objs.size)) (Ja prog w A op Q) E {s with heap:=s.heap.push {cls:=.type "tuple",data:=.seq #[x,y]}}->aA (az prog w) A (call (.builtin nm) [x,y]) Q E s)
  (hh:A.handled=ah) {a b v:V} (h:((g b a).map λc=>if c then b else a)=some v) (ra:bZ s.heap ι Av a x) (rb:bZ s.heap ι Av b y) (k:eb bk ι Av s Q v):aA (az prog w) A (call (.builtin nm) [x,y]) Q E s:=by
 refine fz h λc q e=>?_;have hn:=og.num q rb ra;refine cr (xb (l:=[x,y]) (vs:=[a,b]) og hh Nat.two_pos (λi z hz=>?_) λv' h' tk hv hk=>k _ _ (.keep hk) (bZ.ext (bk:=bk) (.of_keep hk) ?_))
 ·rcases i with _|_|i
  ·exact au hz▸hn.2
  ·exact au hz▸hn.1
  ·exact bM hz
 ·have e1:gB g [a,b] 1 0=c:=by show(g b a).getD an=c;refine am q ?_;rfl
  have hv:[x,y][if gB g [a,b] 1 0=aj then 1 else 0]?=some v':=hv;replace hv:=e1▸hv;rcases c with _|_
  ·exact e▸au hv▸ra
  ·exact e▸au hv▸rb
theorem tw{op:agH}{nm:String}{g:V->V->Option Bool}(og:Vv prog w op g){x y z:ao}(cr:aA (az prog w) A.in1 (mo (.ref s.heap.objs.size)) (Ja prog w A op Q) E {s with heap:=s.heap.push {cls:=.type "tuple",data:=.seq #[x,y,z]}}->aA (az prog w) A (call (.builtin nm) [x,y,z]) Q E s)
  (hh:A.handled=ah) {a b c v:V} (h:(((g b a).map λc=>if c then b else a).bind λm=>(g c m).map λd=>if d then c else m)=some v) (ra:bZ s.heap ι Av a x) (rb:bZ s.heap ι Av b y) (rc:bZ s.heap ι Av c z) (k:eb bk ι Av s Q v):aA (az prog w) A (call (.builtin nm) [x,y,z]) Q E s:=by
 refine bK h λm hm h=>fz hm λd q e=>fz h λf q2 e2=>?_;have hn:=og.num q rb ra;have key:∀(i:Nat) (hi:(if d=aj then 1 else 0)=i) (u:ao),Ia [a,b,c] i=m->[x,y,z][i]?=some u->bZ s.heap ι Av m u->aA (az prog w) A (call (.builtin nm) [x,y,z]) Q E s:=λi hi u hg hu rm=>by
  have hc:=og.num q2 rc rm;refine cr (xb (l:=[x,y,z]) (vs:=[a,b,c]) og hh (Jf 2) (λi z hz=>?_) λv' h' tk hv hk=>k _ _ (.keep hk) (bZ.ext (bk:=bk) (.of_keep hk) ?_))
  ·rcases i with _|_|_|i
   ·exact au hz▸hn.2
   ·exact au hz▸hn.1
   ·exact au hz▸hc.1
   ·exact bM hz
  ·have e1:gB g [a,b,c] 1 0=d:=by show(g b a).getD an=d;refine am q ?_;rfl
   have e3:gB g [a,b,c] 2 i=f:=by show(g c (Ia [a,b,c] i)).getD an=f;refine am hg (am q2 ?_);rfl
   have hv:[x,y,z][if gB g [a,b,c] 2 (if gB g [a,b,c] 1 0=aj then 1 else 0)=aj then 2 else(if gB g [a,b,c] 1 0=aj then 1 else 0)]?=some v':=hv;replace hv:=e3▸hi▸e1▸hv;rcases f with _|_
   ·exact e2▸au (hu.symm.trans hv)▸rm
   ·exact e2▸au hv▸rc
 rcases d with _|_
 ·exact key 0 rfl x e rfl (e▸ra)
 ·exact key 1 rfl y e rfl (e▸rb)
theorem B0(hh:A.handled=ah){a b v:V}{x y:ao}(h:jO a b=some v)(ra:bZ s.heap ι Av a x)(rb:bZ s.heap ι Av b y)(k:eb bk ι Av s Q v):aA (az prog w) A (call (.builtin "max") [x,y]) Q E s:=
 wz SN call_max_two hh h ra rb k
theorem BX(hh:A.handled=ah){a b v:V}{x y:ao}(h:jN a b=some v)(ra:bZ s.heap ι Av a x)(rb:bZ s.heap ι Av b y)(k:eb bk ι Av s Q v):aA (az prog w) A (call (.builtin "min") [x,y]) Q E s:=
 wz SM call_min_two hh h ra rb k
theorem BZ(hh:A.handled=ah){a b c v:V}{x y z:ao}(h:((jO a b).bind λm=>jO m c)=some v)(ra:bZ s.heap ι Av a x)(rb:bZ s.heap ι Av b y)(rc:bZ s.heap ι Av c z)(k:eb bk ι Av s Q v):aA (az prog w) A (call (.builtin "max") [x,y,z]) Q E s:=
 tw SN call_max_three hh h ra rb rc k
theorem BW(hh:A.handled=ah){a b c v:V}{x y z:ao}(h:((jN a b).bind λm=>jN m c)=some v)(ra:bZ s.heap ι Av a x)(rb:bZ s.heap ι Av b y)(rc:bZ s.heap ι Av c z)(k:eb bk ι Av s Q v):aA (az prog w) A (call (.builtin "min") [x,y,z]) Q E s:=
 tw SM call_min_three hh h ra rb rc k
end
section
open Builtin
theorem pn{α β:Type}{x:Option α}{f:α->Option β}{y:β}(h:x.bind f=some y):∃a,x=some a/\f a=some y:=by
 cases x with
 |none=>exact bM h
 |some a=>exact jW a rfl h
theorem zh{α β:Type}{x:Option α}{f:α->β}{y:β}(h:x.map f=some y):∃a,x=some a/\f a=y:=by
 cases x with
 |none=>cases h
 |some a=>exact jW a rfl (by cases au h;rfl)
set_option maxHeartbeats 4000000 in
theorem yA{x:aq}{u u':Tok}{n:Int}(hl:x.length<=640)(hn:cz x=some n):Gives (Builtin.«int.__new__» ⟨[.type "int",.str x u,.int 10 u'],[]⟩) (.int n):=
 .of_wp λM A E s Q h=>by
  obtain⟨hp,g,d,tk,os⟩:=s;have f1:=ajY;have f2:=ajX;have f3:=alt;have f4:=alu;have f5:=akE;have f6:Qh (.str x u)=pure (.type "str"):=rfl;have hs:(qF x).length<=640:=aM (seen_length x) hl;have hr:(int_private%"readNumeral") 0 10 (qF x)=(int_private%"Numeral.value") n/\((qF x).length==(akj x).length)=aj:=by
   rcases read0 x hs with⟨m,h1,h2,h3⟩|⟨h1,_⟩
   ·rw[hn]at h1
    injection h1 with h1
    subst h1;exact⟨h3,h2⟩
   ·rw[hn]at h1;cases h1
  have hk:=KIN.Hid.mk (akG hs hr);clear hs hr hl hn
  repeat (any_goals (first
   |assumption
   |((with_reducible show aA _ _ ((int_private%"intFromText") _ _ _) _ _ _);refine KIN.wp_text hk.out.1 hk.out.2.1 hk.out.2.2 ?_)
   |wp_step))
  all_goals first|exact jW _ rfl h|skip
section
variable{w:bz}{s:ai}{Q:ao->ai->Prop}{x:aq}{t u:Tok}{n:Int}
theorem n9(a b:ao):checkTypeCall "int" ⟨[a,b],[]⟩=pure ():=by lia
theorem pV(a b:ao):A2 "int.__new__" ⟨[.type "int",a,b],[]⟩=pure ():=by lia
theorem qc(o a b:ao):argsOk "object.__init__" (⟨[o,a,b],[]⟩:Args):=by lia
theorem CI{x y:ao}{S:PySem.Spec}{Q:ao->ai->Prop}(g:Meets (Builtin.«int.__new__» ⟨[.type "int",x,y],[]⟩) S)(h:S A.in1 (wants (λobj s₁=>s₁.TypeIs obj "int"/\Q obj s₁) E) s):
  aA (az prog w) A (call (.type "int") [x,y]) Q E s:=
 callType_new pj F.newNe_int (n9 x y) (pV x y) (λobj=>qc obj x y) F.entry_int_new g h
theorem AM(hn:cz x=some n)(hl:x.length<=640)(h:Q (.int n s.toks) {s with toks:=s.toks+1}):aA (az prog w) A (call (.type "int") [.str x t,.int 10 u]) Q E s:=
 CI (yA hl hn).meets (show(Made.int n).post _ s from⟨rfl,h⟩)
end
end
section
variable{w:bz}{s:ai}{Q:ao->ai->Prop}
theorem wu:∀{ns:List Int} {ws:List ao},pP vs=some ns->bq h ι Av vs ws->∃xs:List (Int×Tok),ws.toArray=intItems xs.toArray/\xs.map (·.1)=ns:=by
 induction vs with
 |nil=>exact λe r=>r.e0 ⟨[],by simp[intItems],au e⟩
 |cons v vs ih=>
  intro ns ws e r;revert e;rcases v with _|_|i|_|_|_|_|_|_|_<;>try exact bM
  intro e;refine fz e λms q e=>r.e1 λw kC r1 r2=>r1.e2 λt=>cW (ih q r2) λxs h1 h2=>?_;refine jW ((i,t)::xs) ?_ (by refine am aY (am h2 ?_);exact e);simp only[intItems,List.map_toArray,Array.mk.injEq]at h1⊢;simp[h1]
theorem wL(xs:List (Int×Tok))(i:Nat):numAt xs.toArray i=(xs.map (·.1)).getD i 0:=by simp[numAt,aI]
theorem AS(n:Int)(r:List Int)(f:Nat->Int)(hf:∀i,f i=(n::r).getD i 0):∀k,k<=r.length->f (akw (λi j=>decide (f i>f j)) k)=(r.take k).foldl max n
 |0,_=>by rw[hf];rfl
 |k+1,hk=>by
  have ih:=AS n r f hf k (o6 hk);have e:r.take (k+1)=r.take k++[r.getD k 0]:=by refine am tO ?_;have:k<r.length:=SU hk;simp[aI,this]
  refine am e (am Jl (jj ih ?_));have e2:f (k+1)=r.getD k 0:=by rw[hf];rfl
  show f (if decide (f (k+1)>f (akw _ k))=aj then k+1 else akw _ k)=max _ (r.getD k 0);refine jj e2 ?_;split
  ·rename_i h;have:=bG h;exact YE this
  ·rename_i h;have:¬_:=λq=>h (aU q);exact YD this
theorem se(f:Nat->Int)(ns:List Int)(hf:∀i,f i=ns.getD i 0):∀k,k<=ns.length->preSum f k=(ns.take k).sum
 |0,_=>by simp[preSum]
 |k+1,hk=>by have ih:=se f ns hf k (o6 hk);have:k<ns.length:=SU hk;refine am tO (am List.sum_append (jj ih ?_));simp[preSum,hf,aI,this]
theorem Es(ns:List Int):(∀n∈ns,n.natAbs<2^50)->ns.sum.natAbs<=ns.length*2^50:=by
 induction ns with
 |nil=>
  exact λ_=>by simp
 |cons n r ih=>
  exact λh=>by have:=ih λm hm=>h m (.tail _ hm);have h1:=h n (.head _);rw[aeu,aS,Nat.succ_mul];exact YC h1 this
noncomputable def qB(prog:cO)(w:bz)(A:b9)(E:ao->ai->Prop)(f:Str)(ws:List ao)(Q:ao->ai->Prop)(s:ai):Prop:=
 ∃c,hZ f=some c/\((∃a,c=.builtin a)\/(∃a,c=.type a))/\aA (az prog w) A (call c ws) Q E s
theorem Gs(hh:A.handled=ah)(h:(if f=ar "max" then jO a b else if f=ar "min" then jN a b else ah)=some v)
  (ra:bZ s.heap ι Av a x) (rb:bZ s.heap ι Av b y) (k:eb bk ι Av s Q v):qB prog w A E f [x,y] Q s:=
 r9 h (λe h=>e▸⟨_,amn,.inl ⟨_,rfl⟩,B0 hh h ra rb k⟩) λh=>cC h λe h=>e▸⟨_,aqY,.inl ⟨_,rfl⟩,BX hh h ra rb k⟩
theorem Bt(hh:A.handled=ah)(h:(if f=ar "max" then(jO a b).bind λx=>jO x c else if f=ar "min" then(jN a b).bind λx=>jN x c else ah)=some v)
  (ra:bZ s.heap ι Av a x) (rb:bZ s.heap ι Av b y) (rc:bZ s.heap ι Av c z) (k:eb bk ι Av s Q v):qB prog w A E f [x,y,z] Q s:=
 r9 h (λe h=>e▸⟨_,amn,.inl ⟨_,rfl⟩,BZ hh h ra rb rc k⟩) λh=>cC h λe h=>e▸⟨_,aqY,.inl ⟨_,rfl⟩,BW hh h ra rb rc k⟩
noncomputable def nB(prog:cO)(w:bz):Prop:=∀{bk:aN->Prop} {ι Av:List aN} {A:b9} {E:ao->ai->Prop} {s:ai} {Q:ao->ai->Prop} {a:aN} {vs:List V} {ws:List ao} {ps:List (Int×Int)},
 ku Av s.heap->s.heap.IsList a ws.toArray->bq s.heap ι Av vs ws->vs.mapM sf=some ps->(ps.map (·.1)).Nodup->ps.length<=7->A.handled=ah->A.units+200<nM->
 eb bk ι Av s Q (.lst ((pU ps).map ij))->aA (az prog w) A (call (.builtin "sorted") [.ref a]) Q E s
theorem wQ(h:EF a=aj):a.natAbs.log2<1920:=by
 have h1:a.natAbs<2^62:=bG h;by_cases h0:a.natAbs=0
 ·refine am h0 ?_;decide
 ·exact jr ((Nat.log2_lt h0).mpr h1) (by decide)
theorem Br(h:sj x=some i):ir x=aj/\aks al5 x=i:=cC h λq h=>⟨q,au h⟩
theorem BH(h:uR x=some i):ir x=aj/\aks alN x=i:=cC h λq h=>⟨q,au h⟩
theorem Iq(h:ir x=aj):amm x=aj->Flt.Throws "ValueError" E s:=λq=>by rcases Flt.three x with⟨hd,c⟩|⟨_,hd,c⟩|⟨sg,m,e,hd,c⟩<;>simp_all [ir,amm]
theorem DL(h:ir x=aj):ake x=aj->Flt.Throws "OverflowError" E s:=λq=>by rcases Flt.three x with⟨hd,c⟩|⟨_,hd,c⟩|⟨sg,m,e,hd,c⟩<;>simp_all [ir,ake]
theorem IM(hx:x.length<=16777216)(h:fk st f [.str x]=some v)(k:eb bk ι Av s Q v):qB prog w A E f [.str x t] Q s:=by
 refine r9 h (λe h=>e▸⟨_,aqZ,.inl ⟨_,rfl⟩,PyProof.Rows.len_str ?_ ((au h▸k) _ _ (.tok _) (.int _ _))⟩) λh=>r9 h (λe h=>e▸⟨_,aqX,.inr ⟨_,rfl⟩,P.str_of_str ((au h▸k) _ _ (.refl _) (.str _ _ hx))⟩)
  λh=>cC h λe h=>cC h λhl h=>fz h λi hi q=>e▸⟨_,alb,.inr ⟨_,rfl⟩,KIN.call_text hi hl ((q▸k) _ _ (.tok _) (.int _ _))⟩
 exact YB hx
theorem IN(h:fk st f [.int i]=some v)(k:eb bk ι Av s Q v):qB prog w A E f [.int i t] Q s:=by
 refine r9 h (λe h=>cC h λhs h=>e▸⟨_,aqX,.inr ⟨_,rfl⟩,P.str_of_int (wQ hs) ((au h▸k) _ _ (.tok _) (.str _ _ ?g1))⟩) λh=>r9 h (λe h=>cC h λhs h=>e▸⟨_,Boot.chr,.inl ⟨_,rfl⟩,P.chr_of_int ?g2 ((au h▸k) _ _ (.tok _) (.str _ _ ?g3))⟩)
  λh=>cC h λe h=>e▸⟨_,amK,.inl ⟨_,rfl⟩,call_round_int ((au h▸k) _ _ (.refl _) (.int _ _))⟩
 case g1=>have:=int_text_fits (wQ hs);replace this:=bC▸this;exact this
 case g2=>simp;exact YA hs
 case g3=>show 1<=16777216;decide
theorem IP(hh:A.handled=ah)(h:fk st f [.cY x]=some v)(k:eb bk ι Av s Q v):qB prog w A E f [.float x t] Q s:=by
 refine r9 h (λe h=>fz h λi q e2=>?_) λh=>cC h λe h=>fz h λi q e2=>?_
 ·refine eA (Br q) λh1 h2=>?_;exact e▸⟨_,alb,.inr ⟨_,rfl⟩,Flt.call_int_float3 hh (Iq h1) (DL h1) λ_=>by refine am h2 ?_;exact rp (e2▸k)⟩
 ·refine eA (BH q) λh1 h2=>?_;exact e▸⟨_,amK,.inl ⟨_,rfl⟩,Flt.call_round_float hh (Iq h1) (DL h1) λ_=>by refine am h2 ?_;exact rp (e2▸k)⟩
theorem Gx(hh:A.handled=ah)(hl:s.heap.IsList a ws.toArray)(q:pP vs=some ns)(rs:bq s.heap ι Av vs ws)(hc:((ns.all λn=>decide (n.natAbs<2^50))&&decide (ns.length<=64))=aj)(k:eb bk ι Av s Q (.int ns.sum)):
  aA (az prog w) A (call (.builtin "sum") [.ref a]) Q E s:=by
 refine cW (wu q rs) λps h1 h2=>eA (bv.mp hc) λha hb=>?_;have hb:=bG hb;have ha:∀n∈ns,n.natAbs<2^50:=λn hn=>bG (aT.mp ha n hn);replace hl:=h1▸hl;have hn:∀i,numAt ps.toArray i=ns.getD i 0:=λi=>by rw[wL,h2]
 have hlen:ps.length=ns.length:=by rw[<-h2,aL]
 have sm:∀m,m<=ns.length->InLong (preSum (numAt ps.toArray) m):=λm hm=>by refine am (se _ ns hn m hm) ?_;have h3:=Es (ns.take m) λn hn=>ha n (iD hn);have h4:(ns.take m).length*2^50<=64*2^50:=pg _ (by refine am eg ?_;exact Yz hb);unfold InLong;exact Yy h3 h4
 refine sum_intList hh hl (λj hj=>⟨?_,sm _ ?_⟩) λh' tk t' hk=>?_
 ·rw[hn];replace hj:=hlen▸bD▸hj;have h5:=ha (ns.getD j 0) (by refine am (aI) ?_;refine am (aC hj) ?_;exact iY hj);unfold InLong;exact Yx h5
 ·replace hj:=hlen▸bD▸hj;exact hj
 ·refine am (se _ ns hn _ (by rw[bD,hlen];exact aD _)) (am bD (am hlen (am akA ?_)));exact k _ _ (.keep hk) (.int _ _)
theorem Hv(hh:A.handled=ah)(hl:s.heap.IsList a ws.toArray)(q:pP vs=some (n::r))(rs:bq s.heap ι Av vs ws)(k:eb bk ι Av s Q (.int (r.foldl max n))):
  aA (az prog w) A (call (.builtin "max") [.ref a]) Q E s:=by
 refine cW (wu q rs) λps h1 h2=>?_;rw[h1]at hl;have hlen:ps.length=r.length+1:=by have:=congrArg ajV h2;simpa using this
 refine max_intList hh hl (by rw[bD,hlen];exact Jf _) λv' h' tk hv hk=>?_;refine eE (intItems_at hv) λt e=>?_;rw[e,AS n r (numAt ps.toArray) (λi=>by rw[wL,h2]) _ (by rw[bD,hlen];exact aD _),bD,hlen,Nat.add_sub_cancel,akA];exact k _ _ (.keep hk) (.int _ _)
theorem AN(SR:nB prog w)(kH:ku Av s.heap)(hh:A.handled=ah)(hu:A.units+200<nM)(hl:s.heap.IsList a ws.toArray)(hz:ws.length<=16777216)(rs:bq s.heap ι Av vs ws)
  (h:fk [] f [.lst vs]=some v) (k:eb bk ι Av s Q v):qB prog w A E f [.ref a] Q s:=by
 refine r9 h (λe h=>?_) λh=>r9 h (λe h=>bK h λns q h=>cC h λhc h=>e▸⟨_,Boot.sum,.inl ⟨_,rfl⟩,Gx hh hl q rs hc (au h▸k)⟩)
  λh=>r9 h (λe h=>bK h λns q h=>?_) λh=>cC h λe h=>bK h λps q h=>cC h λhc h=>e▸⟨_,Boot.sorted,.inl ⟨_,rfl⟩,SR kH hl rs q hc.1 hc.2 hh hu (au h▸k)⟩
 ·have el:=rs.length;refine e▸⟨_,aqZ,.inl ⟨_,rfl⟩,call_len_list hl (by refine am bD ?_;exact Yw hz) ?_⟩;refine am bD (jj el ?_);exact(au h▸k) _ _ (.tok _) (.int _ _)
 ·rcases ns with _|⟨n,r⟩
  ·exact bM h
  ·exact e▸⟨_,amn,.inl ⟨_,rfl⟩,Hv hh hl q rs (au h▸k)⟩
theorem zr(SR:nB prog w)(S:kZ ι Av st s.heap)(hh:A.handled=ah)(hu:A.units+200<nM)(h:fk st f vs=some v)(r:bq s.heap ι Av vs ws)(k:eb bk ι Av s Q v):
  qB prog w A E f ws Q s:=by
 refine gen λG bP=>?_;rcases vs with _|⟨a,_|⟨b,_|⟨c,_|⟨d,r⟩⟩⟩⟩
 ·exact bM h
 ·revert h;rcases a with _|_|i|x|x|_|vs|l|_|_<;>try exact bM
  ·intro h;exact bP (r.e1 λw kC r1 r2=>r2.e0 (r1.e2 λt=>IN h k))
  ·intro h;exact bP (r.e1 λw kC r1 r2=>r2.e0 (r1.e3 λt=>IP hh h k))
  ·intro h;exact bP (r.e1 λw kC r1 r2=>r2.e0 (r1.e4 λt hx=>IM hx h k))
  ·intro h;exact bP (r.e1 λw kC r1 r2=>r2.e0 (r1.e6 λa ws hl hn hz rs=>AN SR S.av hh hu hl.isList hz rs h k))
  ·intro h;have key:∀o,st[l]?=o->(match o with|some vs=>fk [] f [.lst vs]|ah=>ah)=some v->G:=λo hl h=>by
    rcases o with _|vs
    ·exact bM h
    ·refine bP (r.e1 λw kC r1 r2=>r2.e0 ?_);exact cU (S.listOf (v:=.loc l) hl r1) λa xs q hl hz rs=>q▸AN SR S.av hh hu hl.isList hz rs h k
   exact key _ rfl h
 ·have key:(if f=ar "max" then jO a b else if f=ar "min" then jN a b else ah)=some v->G:=λh=>bP (r.e1 λw kC r1 r2=>r2.e1 λw2 VL r2 r3=>r3.e0 (Gs hh h r1 r2 k));revert h;rcases a with _|_|_|_|x|_|_|_|_|_<;>try exact key
  intro h;revert h;rcases b with _|_|i|_|_|_|_|_|_|_<;>try exact key
  intro h;refine cC h λe h=>cC h λhl h=>fz h λi hi q=>bP (r.e1 λw kC r1 r2=>r2.e1 λw2 VL r2 r3=>r3.e0 (r1.e4 λt hx=>r2.e2 λu=>?_));exact e.1▸e.2▸⟨_,alb,.inr ⟨_,rfl⟩,AM hi hl ((q▸k) _ _ (.tok _) (.int _ _))⟩
 ·have key:(if f=ar "max" then(jO a b).bind λx=>jO x c else if f=ar "min" then(jN a b).bind λx=>jN x c else ah)=some v->G:=λh=>bP (r.e1 λw kC r1 r2=>r2.e1 λw2 VL r2 r3=>r3.e1 λw3 ws3 r3 r4=>r4.e0 (Bt hh h r1 r2 r3 k));revert h;rcases a with _|_|_|_|x|_|_|_|_|_<;>try exact key
  intro h;rcases b with _|_|_|_|_|_|_|_|_|_<;>exact key h
 ·revert h;rcases a with _|_|_|_|x|_|_|_|_|_<;>try exact bM
  intro h;rcases b with _|_|_|_|_|_|_|_|_|_<;>exact bM h
end
section
open Builtin Builtin.Str
theorem zG(x y:Str):∀p∈nN x y,p.length<=x.length:=by
 intro p hp;unfold nN at hp;split at hp
 ·refine am (bh.mp hp) ?_;exact aD _
 ·split at hp
  ·refine am (bh.mp hp) ?_;exact aD _
  ·unfold partsBetween at hp;refine cW (bw.mp hp) λqN _ fC=>?_;obtain⟨i,j⟩:=qN;subst fC;exact len_strSub x i j
theorem zI(x y:Str):(nN x y).length<=x.length+2:=by
 unfold nN;split
 ·exact o60
 ·split
  ·exact o60
  ·rw[len_partsBetween];have:=akI x y 0 x.length (x.length+1);exact(dp _ _ 1 (S1 V0) (.p V1 (.k 2)) (D1 V0 (S1 V1) .n) rfl this)
section
variable{w:bz}{s:ai}{Q:ao->ai->Prop}
theorem GB(l:List (Str×Tok)):(∀p∈l.map (·.1),p.length<=16777216)->bq h ι Av ((l.map (·.1)).map .str) (akh l):=by
 induction l with
 |nil=>
  exact λ_=>.nil
 |cons pq r ih=>
  rcases pq with⟨x,t⟩;exact λhl=>.cons (.str x t (hl x (.head _))) (ih λp hp=>hl p (.tail _ hp))
theorem Ej:∀{ys:List Str} {ws:List ao},tu vs=some ys->bq h ι Av vs ws->∃l:List (Str×Tok),ws=akh l/\l.map (·.1)=ys:=by
 induction vs with
 |nil=>exact λe r=>r.e0 ⟨[],rfl,au e⟩
 |cons v vs ih=>
  intro ys ws e r;revert e;rcases v with _|_|_|_|i|_|_|_|_|_<;>try exact bM
  intro e;refine fz e λms q e=>r.e1 λw kC r1 r2=>r1.e4 λt _=>cW (ih q r2) λxs h1 h2=>?_;exact jW ((i,t)::xs) (h1▸rfl) (by refine am aY (am h2 ?_);exact e)
theorem Sr(r:bq h ι Av [a] ws):∃w,ws=[w]/\bZ h ι Av a w:=r.e1 λw kC r1 r2=>r2.e0 ⟨w,rfl,r1⟩
theorem xo:∀{ws:List ao} {as:List aN},A3 h ws ds as->ws.length=ds.length:=by
 induction ds with
 |nil=>exact λr=>(show _=[]from ReadsAll.inv r)▸rfl
 |cons d ds ih=>
  intro ws as r;exact yJ (ReadsAll.inv r) λy kC as bs q r1 r2=>am q (am aS (am aS (am (ih r2) rfl)))
theorem By(kH:ku Av s.heap)(hy:y.length≠0)(hx:x.length<=10000)(k:eb bk ι Av s Q (.lst ((nN x y).map .str))):
  aA (az prog w) A (call (.builtin "str.split") [.str x t,.str y u]) Q E s:=by
 have hn:(partsBetween x (occurrences x y 0 x.length (x.length+1)) y.length).length<=vP:=by have e1:=akI x y 0 x.length (x.length+1);rw[len_partsBetween,bC];exact(dp _ _ 1 (S1 V0) (.k 16777216) (D1 V0 (S1 V1) (D1 V1 (.k 10000) .n)) rfl e1 hx)
 have HM:(y.length==0)=an:=by simpa using hy
 have bP:∀(l:List (Str×Tok)) (kk:Nat),l.map (·.1)=nN x y->Q (.ref s.heap.objs.size) {s with heap:=s.heap.push {cls:=.type "list",data:=.seq (akh l).toArray},toks:=kk}:=λl kk e=>by
  refine k _ _ (.G9 _ kk) ?_;rw[<-e];refine jf kH (GB l λp hp=>?_) ?_
  ·rw[e]at hp;have:=zG x y p hp;exact(dp _ _ 1 V0 (.k 16777216) (D1 V0 V1 (D1 V1 (.k 10000) .n)) rfl this hx)
  ·have:(l.map (·.1)).length<=x.length+2:=by rw[e];exact zI x y
   rw[aL]at this;unfold akh;rw[aL];exact(dp _ _ 1 V0 (.k 16777216) (D1 V0 (.p V1 (.k 2)) (D1 V1 (.k 10000) .n)) rfl this hx)
 cases h1:(decide (x.length<y.length)||decide (strKind x<strKind y))
 ·cases hf:(occurrences x y 0 x.length (x.length+1)).isEmpty
  ·refine qG aex (qD _ _ _) VH (Qr _ _) (meets_str_split_sep x y t u h1 HM hf (by rw[bC];exact Z' hx) hn) ?_;show wants Q E _ {s with toks:=_,heap:=s.heap.push {cls:=.type "list",data:=.seq (strsFrom s.toks (partsBetween x (occurrences x y 0 x.length (x.length+1)) y.length)).toArray}};rw[strsFrom_eq];exact bP (numbered s.toks _) _ ((numbered_texts _ _).trans ((bg (ne_true_of_eq_false h1)).trans (bg (ne_true_of_eq_false hf))).symm)
  ·exact qG aex (qD _ _ _) VH (Qr _ _) (meets_str_split_not_found x y t u h1 HM hf)
    (bP [(x,t)] s.toks ((bg (ne_true_of_eq_false h1)).trans (aP hf)).symm)
 ·exact qG aex (qD _ _ _) VH (Qr _ _) (meets_str_split_cannot_occur x y t u h1)
   (bP [(x,t)] s.toks (aP h1).symm)
theorem B9(S:kZ ι Av st s.heap)(hu:A.units+200<nM)(hl:s.heap.IsList l ws.toArray)(hz:ws.length<=16777216)(rs:bq s.heap ι Av vs ws)(tH:vs.mapM (dO st 8)=some ds)
  (hd:dO st 8 v=some d) (rx:bZ s.heap ι Av v x) (h1:bJ (.list ds)=aj) (h2:bJ d=aj) (hj:ds.findIdx? (λe=>bQ e d)=some j) (k:eb bk ι Av s Q (.int j)):
  aA (az prog w) A (call (.builtin "list.index") [.ref l,x]) Q E s:=by
 refine gen λGG fN=>?_;refine kI (id hl) λqN ho hc n hdt=>?_;obtain⟨cls,dd,data,sl⟩:=qN;refine fN ?_;simp only at hc hdt;subst hc hdt;refine eE (jS S 8 v d x hd rx) λas qa=>eE (kf st 8 (jS S 8) vs ds ws tH rs) λbs qb=>?_;have he:=AA (A:=A.in1) qb qa h1 h2 (by exact dp _ _ 1 (.p (.p (S1 V0) (.k 100)) K1) V1 (D1 (.p (.p V0 (.k 200)) K1) V1 .n) rfl hu);have hq:=(pT (d:=d) qb (nc h1).1).1;have hlen:=xo qb;obtain⟨O4,hit,hno⟩:=List.findIdx?_eq_some_iff_getElem.mp hj;refine qG agD ⟨_,ho,rfl⟩ PySem.F.entry_list_index (PySem.F.args_list_index_2 _ _)
  (SeqAt.list_indexAt l ws.toArray n dd sl x (yI s.heap d) j (by simpa [hlen]using O4) (abN O4 hlen hz) ?_ ?_) ⟨ho,λy hy=>he y (by simpa using hy),k _ _ (.tok _) (.int _ _)⟩
 ·exact am (hq j ds[j] _ (by simp[O4]) (by simp[hlen,O4])) hit
 ·intro m hm gE;have hml:m<ds.length:=o61 gE O4;refine am (hq m ds[m] _ (by simp[hml]) (by simp[hlen,hml])) ?_;have:=hno m gE;simpa using this
noncomputable def j3(prog:cO)(w:bz)(bk:aN->Prop)(ι Av:List aN)(st:St)(A:b9)(name:Str)(vs:List V)(v:V)(x:ao)(s:ai):Prop:=
 ∃T id,PlainAttrs T/\Slot T name id/\Qh (.builtin id)=pure (.type "method_descriptor")/\s.TypeIs x T/\(∀a,x=.ref a->∃ob,s.heap.get? a=some ob/\ob.dict=ah)/\
  ∀(s':ai) (ws:List ao) (E:ao->ai->Prop) (Q:ao->ai->Prop),eu bk s.heap s'.heap->bq s'.heap ι Av vs ws->eb bk ι Av s' Q v->aA (az prog w) A (call (.builtin id) (x::ws)) Q E s'
theorem oB{name:Str}{id:String}{vs:List V}(slot:Slot "str" name id)(ty:Qh (.builtin id)=pure (.type "method_descriptor"))
  (h:∀(s':ai) (ws:List ao) (E:ao->ai->Prop) (Q:ao->ai->Prop),eu bk s.heap s'.heap->bq s'.heap ι Av vs ws->eb bk ι Av s' Q v->aA (az prog w) A (call (.builtin id) (.str x t::ws)) Q E s'):
  j3 prog w bk ι Av st A name vs v (.str x t) s:=⟨"str",id,ai8,slot,ty,qD _ _ _,(λ_ e=>nomatch e),h⟩
theorem BY(S:kZ ι Av st s.heap)(hu:A.units+200<nM){o xv v:V}{x:ao}(hl:eF st o=some vs)
  (h:(match dO st 8 xv with
   |some d=>match vs.mapM (dO st 8)with
    |some ds=>if bJ (.list ds)&&bJ d then(ds.findIdx? λe=>bQ e d).map λj=>V.int j else ah
    |none=>ah
   |none=>ah)=some v) (ro:bZ s.heap ι Av o x):j3 prog w bk ι Av st A (ar "index") [xv] v x s:=by
 cases hd:dO st 8 xv with
 |none=>replace h:=hd▸h;exact bM h
 |some d=>
  replace h:=hd▸h;cases tH:vs.mapM (dO st 8)with
  |none=>replace h:=tH▸h;exact bM h
  |some ds=>
   replace h:=tH▸h;refine cC h λhc h=>fz h λj' Ur e=>bK Ur λj hj e2=>eA (bv.mp hc) λh1 h2=>?_;have⟨a,ws,q,⟨n,ho⟩,hz,rs⟩:=S.listOf hl ro;refine q▸⟨"list",_,agE,agD,PySem.F.type_list_index,⟨_,ho,rfl⟩,λb e=>amk e▸⟨_,ho,rfl⟩,λs' us E Q x' r' k=>?_⟩;exact r'.e1 λu VL r1 r2=>r2.e0 (B9 (S.ext x') hu (x'.iF ⟨n,ho⟩).isList hz (rs.ext x') tH hd r1 h1 h2 hj ((show V.int j=v from(congrArg V.int (au e2)).trans e)▸k))
theorem Kk(kH:ku Av s.heap)(h:nE [] (.str x) f [.str y]=some v):j3 prog w bk ι Av st A f [.str y] v (.str x t) s:=by
 refine r9 h (λe h=>e▸oB ajy ajx λs' ws E Q x' r k=>?_) λh=>r9 h (λe h=>e▸?_) λh=>cC h λe h=>cC h λhc h=>e▸oB PySem.F.slot_str_split PySem.F.type_str_split λs' ws E Q x' r k=>?_
 ·exact r.e1 λw kC r1 r2=>r2.e0 (r1.e4 λ_ _=>SC.find ((au h▸k) _ _ (.tok _) (.int _ _)))
 ·cases ho:gV x y 0 x.length 1 with
  |nil=>replace h:=ho▸h;exact bM h
  |cons i is=>
   replace h:=ho▸h;exact oB PySem.F.slot_str_index PySem.F.type_str_index λs' ws E Q x' r k=>r.e1 λw kC r1 r2=>r2.e0 (r1.e4 λ_ _=>SC.index ho ((au h▸k) _ _ (.tok _) (.int _ _)))
 ·exact r.e1 λw kC r1 r2=>r2.e0 (r1.e4 λ_ _=>By (kH.ext x') hc.1 hc.2 (au h▸k))
theorem E2(S:kZ ι Av st s.heap)(hl:eF st a=some vs)(h:((tu vs).bind λys=>if JoinOk x ys then some (.str (ajN x ys))else ah)=some v):
  j3 prog w bk ι Av st A (ar "join") [a] v (.str x t) s:=by
 refine bK h λys q h=>cC h λlJ h=>oB PySem.F.slot_str_join PySem.F.type_str_join λs' ws E Q x' r k=>r.e1 λw kC r1 r2=>r2.e0 (cU ((S.ext x').listOf hl r1) λa ws e hl hz rs=>?_);refine cW (Ej q rs) λl e2 hm=>?_;subst e e2;refine SC.join hl.isList hm lJ λt' kk=>(au h▸k) _ _ (.tok _) (.str _ _ ?_);have Ui:(!_)=aj:=lJ;rw[fH]at Ui;have:=joinFit_length Ui;rw[bC]at this;exact this
theorem Kl(h:(match eF st o,dO st 8 xv with
   |some vs,some d=>match vs.mapM (dO st 8)with
    |some ds=>if bJ (.list ds)&&bJ d then(ds.findIdx? λe=>bQ e d).map λj=>V.int j else ah
    |none=>ah
   |_,_=>ah)=some v) {G:Prop} (k:∀vs,eF st o=some vs->(match dO st 8 xv with
   |some d=>match vs.mapM (dO st 8)with
    |some ds=>if bJ (.list ds)&&bJ d then(ds.findIdx? λe=>bQ e d).map λj=>V.int j else ah
    |none=>ah
   |none=>ah)=some v->G):G:=by
 cases hl:eF st o with
 |none=>replace h:=hl▸h;exact bM h
 |some vs=>
  refine k vs hl (.trans ?_ h);refine am hl ?_;cases dO st 8 xv<;>rfl
theorem zp(S:kZ ι Av st s.heap)(hh:A.handled=ah)(hu:A.units+200<nM)(h:nE st o f vs=some v)(ro:bZ s.heap ι Av o x):
  j3 prog w bk ι Av st A f vs v x s:=by
 refine gen λG bP=>?_;rcases vs with _|⟨a,_|⟨b,_|⟨c,r⟩⟩⟩
 ·rcases o with _|_|_|_|x'|_|_|_|_|_<;>exact bM h
 ·have key:(if f=ar "index" then match eF st o,dO st 8 a with
   |some vs,some d=>match vs.mapM (dO st 8)with
    |some ds=>if bJ (.list ds)&&bJ d then(ds.findIdx? λe=>bQ e d).map λj=>V.int j else ah
    |none=>ah
   |_,_=>ah
   else ah)=some v->G:=λh=>cC h λe h=>Kl h λvs hl h=>bP (e▸BY S hu hl h ro)
  rcases o with _|_|_|_|x'|_|_|_|_|_
  case str=>
   have key:(if f=ar "join" then match eF st a with
    |some vs=>(tu vs).bind λys=>if JoinOk x' ys then some (.str (ajN x' ys))else ah
    |none=>ah
    else ah)=some v->G:=λh=>cC h λe h2=>by
     cases hl:eF st a with
     |none=>replace h2:=hl▸h2;exact bM h2
     |some us=>replace h2:=hl▸h2;exact bP (ro.e4 λt hx=>e▸E2 S hl h2)
   rcases a with _|_|_|_|y|_|_|_|_|_<;>first|exact key h|exact bP (ro.e4 λt hx=>Kk S.av h)
  all_goals exact key h
 ·revert h;rcases o with _|_|_|_|x'|_|_|_|_|_<;>try exact bM
  intro h;revert h;rcases a with _|_|_|_|y|_|_|_|_|_<;>try exact bM
  intro h;revert h;rcases b with _|_|i|_|_|_|_|_|_|_<;>try exact bM
  intro h;exact cC h λe h=>cC h λhc h=>bP (ro.e4 λt hx=>e▸oB ajy ajx λs' ws E Q x' r k=>r.e1 λw kC r1 r2=>r2.e1 λw2 VL r2 r3=>r3.e0 (r1.e4 λ_ _=>r2.e2 λ_=>SC.find3 ((au h▸k) _ _ (.tok _) (.int _ _))))
 ·revert h;rcases o with _|_|_|_|x'|_|_|_|_|_<;>try exact bM
  intro h;revert h;rcases a with _|_|_|_|y|_|_|_|_|_<;>try exact bM
  intro h;rcases b with _|_|i|_|_|_|_|_|_|_<;>exact bM h
end
end
noncomputable def CT:List String:=["enumerate","zip","dict_itemiterator","dict_reverseitemiterator","odict_iterator","itertools.zip_longest","itertools.pairwise"]
structure tR(prog:cO)(w:bz)(A:b9)(bk:aN->Prop)(ι Av:List aN)(vs:List V)(B:aN->Prop)(s₁:ai)(it:ao)(bI:ai):Prop where
 ex:∀C:Prop,(∀I fp P St,it=.ref I->Walks prog w A I fp [I] vs.length P St->St 0 bI.heap->(∀b∈fp,b<bI.heap.objs.size)->s₁.heap.objs.size<=I->(∀b∈fp,b=I\/(B b/\b<s₁.heap.objs.size))->
  (∀i h h',St i h->eu bk h h'->St i h')->(∀i x,P i x->∃v,vs[i]?=some v/\bZ s₁.heap ι Av v x)->(∀i h,St i h->∀G:Prop,(∀o fs T,h.get? I=some o->o.data=.fields fs->o.cls=.type T->CT.contains T=an->G)->G)->(∀b∈fp,b≠I->∀G:Prop,(∀o jk k,bI.heap.get? b=some o->o.data=.seq jk k->G)->G)->C)->C
 ext:ja bk s₁ bI
 Fp:vs.length<=16777216
section
variable{w:bz}{s:ai}{Q:ao->ai->Prop}
theorem C7{o:Obj}{St:Nat->ca->Prop}(rs:bq s.heap ι Av vs ws)(hz:ws.length<=16777216)(hB:B a)(ho:s.heap.get? a=some oa)(hd:oa.data=.seq ws.toArray k)
  (W:Walks prog w A s.heap.objs.size [s.heap.objs.size,a] [s.heap.objs.size] ws.toArray.size (λi x=>ws.toArray[i]?=some x) St) (h0:St 0 (s.heap.push o)) (hf:∀i h h',St i h->eu bk h h'->St i h')
  (hI:∀i h,St i h->∀G:Prop,(∀o fs T,h.get? s.heap.objs.size=some o->o.data=.fields fs->o.cls=.type T->CT.contains T=an->G)->G):tR prog w A bk ι Av vs B s (.ref s.heap.objs.size) {s with heap:=s.heap.push o}:=by
 have gE:=dK ho;have el:=rs.length;refine⟨λC g=>g s.heap.objs.size _ _ St rfl (am el (jj (bD (as:=ws)) W)) h0 (λb hb=>?_) (aD _) (λb hb=>?_) hf (λi x hx=>?_) hI λb hb lP G g=>?_,.push _,(by exact dp _ _ 1 V0 (.k 16777216) (D1 V0 V1 (D1 V1 (.k 16777216) .n)) rfl (ac el) hz)⟩
 ·show b<(s.heap.push _).objs.size;rw[jF];rcases ax.mp hb with e|hb
  ·exact e▸fe _
  ·exact am (bh.mp hb) (iA gE)
 ·rcases ax.mp hb with e|hb
  ·exact .inl e
  ·exact am (bh.mp hb) (.inr ⟨hB,gE⟩)
 ·replace hx:ws[i]?=some x:=f8▸hx;have hi:i<vs.length:=am el (aG.mp hx).1;refine cW (rs.get (k:=i) (v:=vs[i]) (aC hi)) λy h1 h2=>?_;cases kM hx h1;exact⟨vs[i],aC hi,h2⟩
 ·rcases ax.mp hb with e|hb
  ·exact bV e lP
  ·exact g oa _ k (am (bh.mp hb) (aQ _ ho)) hd
theorem zg{a:aN}(hh:A.handled=ah)(hl:s.heap.IsList a ws.toArray)(rs:bq s.heap ι Av vs ws)(hz:ws.length<=16777216)(hB:B a)
  (h:∀it bI,tR prog w A bk ι Av vs B s it bI->Q it bI):aA (az prog w) A (mo (.ref a)) Q E s:=by
 refine wpAny_pyIter_list hl ?_;have Dx:=hl;refine kI hl λoa ho _ k hd=>?_;exact h _ _ (C7 (St:=λi h=>h.IsListIter s.heap.objs.size a i/\h.IsList a ws.toArray) rs hz hB ho hd (Walks.list hh _ a (dk (dK ho)) _) ⟨⟨_,bN _ rfl,rfl,rfl⟩,Dx.push _⟩
  (λi h h' st x=>⟨eN st.1 λo ho hc hd=>⟨o,x.iI ho (λ_ _ q=>nomatch hd.symm.trans q),hc,hd⟩,x.isList st.2⟩) λi h st G g=>eN st.1 λo ho hc hd=>g o _ _ ho hd hc (by decide+kernel))
theorem JT{a:aN}(hh:A.handled=ah)(hl:WJ s.heap a ws.toArray)(rs:bq s.heap ι Av vs ws)(hz:ws.length<=16777216)(hB:B a)
  (h:∀it bI,tR prog w A bk ι Av vs B s it bI->Q it bI):aA (az prog w) A (mo (.ref a)) Q E s:=by
 refine alc hl ?_;have Dx:=hl;refine kI hl λoa ho _ k hd=>?_;exact h _ _ (C7 (St:=λi h=>h.IsTupleIter s.heap.objs.size a i/\h.IsTuple a ws.toArray) rs hz hB ho hd (Walks.tuple hh _ a (dk (dK ho)) _) ⟨⟨_,bN _ rfl,rfl,rfl⟩,cW Dx λo e r=>⟨o,aQ _ e,r⟩⟩
  (λi h h' st x=>⟨eN st.1 λo ho hc hd=>⟨o,x.iI ho (λ_ _ q=>nomatch hd.symm.trans q),hc,hd⟩,x.isTup st.2⟩) λi h st G g=>eN st.1 λo ho hc hd=>g o _ _ ho hd hc (by decide+kernel))
noncomputable def yO(x:Str):List V:=x.cps.toList.map λc=>.str ⟨#[c]⟩
theorem CF(x:Str):(yO x).length=x.cps.size:=(aL _).trans iS
theorem JU(hh:A.handled=ah)(hz:x.length<=16777216)
  (h:∀it bI,tR prog w A bk ι Av (yO x) B s it bI->Q it bI):aA (az prog w) A (mo (.str x t)) Q E s:=by
 have hlen:=CF x;have Fp:(yO x).length<=16777216:=by refine am hlen ?_;exact hz
 have items:∀i y,SignAt x i y->∃v,(yO x)[i]?=some v/\bZ s.heap ι Av v y:=by
  intro i y qz;refine iw qz λc u hc qq3=>?_;subst qq3;refine jW (.str ⟨#[c]⟩) ?_ (.str _ _ (by show 1<=16777216;decide));have uk:x.cps.toList[i]?=some c:=by simpa using hc
  show(x.cps.toList.map _)[i]?=_;refine am (cm) (am uk ?_);rfl
 have small:∀(o:Obj) b,b∈[s.heap.objs.size]->b<(s.heap.push o).objs.size:=λo b hb=>by rw[bh.mp hb,jF];exact fe _
 cases ha:x.cps.all (·<128)
 ·exact wpAny_pyIter_wide ha (h _ _ ⟨λC g=>g s.heap.objs.size [s.heap.objs.size] (SignAt x) (λi h=>h.IsStrIter s.heap.objs.size "str_iterator" x t i) rfl (am hlen (Walks.strWide hh _ x t)) ⟨_,bN _ rfl,rfl,rfl⟩ (small _) (aD _) (λb hb=>.inl (bh.mp hb)) (λi h h' st x=>eN st λo ho hc hd=>⟨o,x.iI ho (λ_ _ q=>nomatch hd.symm.trans q),hc,hd⟩) items (λi h st G g=>eN st λo ho hc hd=>g o _ _ ho hd hc (by decide+kernel)) λb hb lP=>bV (bh.mp hb) lP,.push _,Fp⟩)
 ·exact wpAny_pyIter_ascii ha (h _ _ ⟨λC g=>g s.heap.objs.size [s.heap.objs.size] (SignAt x) (λi h=>h.IsStrIter s.heap.objs.size "str_ascii_iterator" x t i) rfl (am hlen (Walks.strAscii hh _ x t)) ⟨_,bN _ rfl,rfl,rfl⟩ (small _) (aD _) (λb hb=>.inl (bh.mp hb)) (λi h h' st x=>eN st λo ho hc hd=>⟨o,x.iI ho (λ_ _ q=>nomatch hd.symm.trans q),hc,hd⟩) items (λi h st G g=>eN st λo ho hc hd=>g o _ _ ho hd hc (by decide+kernel)) λb hb lP=>bV (bh.mp hb) lP,.push _,Fp⟩)
theorem BN(n:Nat):(oq n).length=n:=(aL _).trans gD
theorem xO(hh:A.handled=ah)(h0:0<=k)(h1:k<=1000)(hr:IsRange s.heap r 0 k 1 t u v)
  (h:∀it bI,tR prog w A bk ι Av (oq k.toNat) B s it bI->Q it bI):aA (az prog w) A (mo (.ref r)) Q E s:=by
 have hlen:=BN k.toNat;have hsz:Builtin.Range.rangeSize 0 k 1=(k.toNat:Int):=(rangeSize_one ..).trans ((alA _).elim (λq=>(aP q).trans (aau q)) λq=>(bg q).trans (aat q));refine wpAny_pyIter_range hr (small_one (by decide) (by decide) (aas h0) (aar h1)) ?_;have W:=(LCg.range_walks (prog:=prog) (w:=w) (I:=s.heap.objs.size) hh 0 k.toNat).bound;replace W:=Eq.ndrec (motive:=λz=>Walks prog w A s.heap.objs.size [s.heap.objs.size] [s.heap.objs.size] z _ _) W hlen.symm;refine h _ _ ⟨λC g=>g s.heap.objs.size [s.heap.objs.size] _ _ rfl W ?_ (λb hb=>?_) (aD _) (λb hb=>.inl (bh.mp hb)) (λi h h' st x=>x.iI st (λ_ _ q=>gR q)) ?_ (λi h st G g=>g _ _ _ st rfl rfl (by decide+kernel)) λb hb lP=>bV (bh.mp hb) lP,.push _,am hlen (aaq h1)⟩
 ·show ca.get? _ _=some _;exact am hsz (bN _ rfl)
 ·refine am (bh.mp hb) ?_;show _<(ca.push _ _).objs.size;rw[jF];exact fe _
 ·refine λi x q=>q.2.elim λt e=>⟨.int i,?_,e▸am (congrArg (aep · t) (Int.zero_add (i:Int))) (.int _ _)⟩;show((ba _).map _)[i]?=_;rw[cm,aj4 (hlen▸q.1)];rfl
theorem Eg(hh:A.handled=ah)(h0:0<=k)(h1:k<=1000)
  (h:∀r s₁,ja bk s s₁->(∀E':ao->ai->Prop,∀Q':ao->ai->Prop,(∀it bI,tR prog w A bk ι Av (oq k.toNat) B s₁ it bI->Q' it bI)->aA (az prog w) A (mo r) Q' E' s₁)->Q r s₁):
  aA (az prog w) A (call (.type "range") [.int k t]) Q E s:=by
 refine call_range_1 (h _ _ (.G9 _ _) λE' Q' hQ=>?_);exact xO hh h0 h1 (IsRange.new ..) hQ
theorem qn(S:kZ ι Av st s.heap)(hh:A.handled=ah)(h:kD st v=some vs)(r:bZ s.heap ι Av v x)
  (k:∀it bI,tR prog w A bk ι Av vs (λb=>b∉Av\/∃l,v=.loc l/\ι[l]?=some b) s it bI->Q it bI):aA (az prog w) A (mo x) Q E s:=by
 revert h r k;rcases v with _|_|_|_|x|us|us|l|_|us<;>try exact λh=>bM h
 ·exact λh r k=>cC h λhx e=>bZ.e4 r λt hs=>JU hh hs (au e▸k)
 ·exact λh r k=>bZ.e5 r λa ws h1 h2 h3 h4=>JT hh h1 (au h▸h4) h3 (.inl h2) k
 ·exact λh r k=>bZ.e6 r λa ws h1 h2 h3 h4=>zg hh h1.isList (au h▸h4) h3 (.inl h2) k
 ·exact λh r k=>bZ.e7 r λa q=>cU (S.at_ l vs h) λa' ws h1 h2 h3 h4=>zg hh (kM q h1▸h2.isList) h4 h3 (.inr ⟨l,rfl,q⟩) k
end
section
variable{h h':ca}{df:List aN}
theorem zZ(k:∀a o,a∉Av->h.get? a=some o->(∃jk n,o.data=.seq jk n)->a∉df/\h'.get? a=some o):D8 h h' ι ι Av df:=
 ⟨λa _ x b=>x.elim λo y=>y.2.2.elim λn hd=>have q:=k a o b y.1 ⟨_,n,hd⟩;⟨⟨o,q.2,y.2.1,n,hd⟩,q.1⟩,
  λa _ x b=>x.elim λn ho=>have q:=k a _ b ho ⟨_,n,rfl⟩;⟨⟨n,q.2⟩,q.1⟩,
  λa _ x b=>x.elim λo y=>y.2.2.elim λn hd=>have q:=k a o b y.1 ⟨_,n,hd⟩;⟨⟨o,q.2,y.2.1,n,hd⟩,q.1⟩,λ_ _ e=>e⟩
theorem bZ.move(k:∀a o,a∉Av->h.get? a=some o->(∃jk n,o.data=.seq jk n)->a∉df/\h'.get? a=some o){v w}(r:bZ h ι Av v w):bZ h' ι df v w:=r.map (zZ k)
theorem bq.move(k:∀a o,a∉Av->h.get? a=some o->(∃jk n,o.data=.seq jk n)->a∉df/\h'.get? a=some o){v w}(r:bq h ι Av v w):bq h' ι df v w:=r.map (zZ k)
theorem bZ.mono(hs:∀a∈df,a∈Av){v w}(r:bZ h ι Av v w):bZ h ι df v w:=r.move λa _ ha e _=>⟨λhm=>ha (hs a hm),e⟩
theorem bq.mono(hs:∀a∈df,a∈Av){v w}(r:bq h ι Av v w):bq h ι df v w:=r.move λa _ ha e _=>⟨λhm=>ha (hs a hm),e⟩
theorem bZ.lift(hD:h.get? D=af){v w}(r:bZ h ι Av v w):bZ h ι (D::Av) v w:=r.move λa o ha e _=>⟨λhm=>by
 rcases ax.mp hm with rfl|hm
 ·rw[hD]at e;cases e
 ·exact ha hm,e⟩
theorem bq.lift(hD:h.get? D=af){v w}(r:bq h ι Av v w):bq h ι (D::Av) v w:=r.move λa o ha e _=>⟨λhm=>by
 rcases ax.mp hm with rfl|hm
 ·rw[hD]at e;cases e
 ·exact ha hm,e⟩
end
theorem eu.but(x:eu bk h h')(k:∀b o,b<h.objs.size->h'.get? b=mf o->Fk.get? b=mf o):eu bk h Fk:=λb o e=>by
 rcases x b o e with e1|⟨h1,h2,sl,e1⟩
 ·exact .inl (k b o (dK e) e1)
 ·exact .inr ⟨h1,h2,sl,k b _ (dK e) e1⟩
theorem ja.to{k:Nat}(x:ja bk s s')(hx:eu bk s.heap h):ja bk s {s' with heap:=h,toks:=k}:=x.elim λ_ q=>q.elim λ_ e=>⟨h,k,by rw[e.1],hx⟩
theorem eu.size(x:eu bk h h')(hb:h'.get? b=af):h.get? b=af:=by
 cases e:h.get? b with
 |none=>rfl
 |some o=>refine cW (x.some e) λo' e' _=>?_;rw[hb]at e';cases e'
noncomputable def dM(ag:ca):aN->Prop:=λb=>ag.get? b=ah
noncomputable def FD(h:ca)(l:List Env):Prop:=∀e∈l,∀L,e.frame=some L->∃o es n,h.get? L=some o/\o.data=.dict es n
theorem FD.ext(f:FD h l)(x:eu bk h h'):FD h' l:=λe he L hL=>by exact l7 (f e he L hL) λo es n h1 h2=>eN (x.some h1) λo' h3 h4 _=>rz o' es n h3 (h4.trans h2)
structure lf(ag:ca)(r n:Nat)(A:b9)(s:ai):Prop where
 hh:A.handled=ah
 dep:A.depth+r<=900
 A8:A.units+1000*r+500<nM
 fr:∃l,A.frames=some l/\s.heap.FunFrames ag l/\FD s.heap l
 tk:1<=s.toks
 kp:∀b o,ag.get? b=some o->s.heap.get? b=some o
theorem lf.ext(c:lf ag r n A s)(x:ja (dM ag) s s')(tk:1<=s'.toks):lf ag r n A s':=
 ⟨c.hh,c.dep,c.A8,(eN c.fr λl h1 h2 h3=>⟨l,h1,x.heap.wX h2,h3.ext x.heap⟩),tk,λb o e=>x.heap.wR (c.kp b o e) (λq=>by have q':ag.get? b=ah:=q;rw[e]at q';cases q')⟩
theorem lf.less(c:lf ag r n A s)(hm:m<=n):lf ag r m A s:=
 ⟨c.hh,c.dep,(by have:=c.A8;exact(fM _ _ _ 1 (.p (.p (.p V0 (.m 1000 V1)) (.k 500)) K1) V2 (D1 (.p (.p (.p V0 (.m 1000 V1)) (.k 500)) K1) V2 .n) rfl this)),c.fr,c.tk,c.kp⟩
theorem lf.any(c:lf ag r n A s):lf ag r m A s:=⟨c.hh,c.dep,c.A8,c.fr,c.tk,c.kp⟩
structure jP(ι Av:List aN)(env:Env)(sc:Sc)(σ:Sg)(h:ca):Prop where
 kind:env.scope.kind=.function
 gl:env.globals=agB
 bu:env.builtins=builtinsNs
 nm:∀x k,sc.lookup x=some k->env.kindOf x=some k\/(k=.free/\env.kindOf x=some .cell)
 loc:∃m,h.Ns env.locals m/\∀x v,sc.lookup x=some .local->eO x σ=some v->∃w,m x=some w/\bZ h ι Av v w
 sS:∀x,(sc.lookup x=some .cell\/sc.lookup x=some .free)->∃c im,env.cells.lookup x=some c/\h.IsCell c im
 D0:∀x v,(sc.lookup x=some .cell\/sc.lookup x=some .free)->eO x σ=some v->∃c w,env.cells.lookup x=some c/\h.IsCell c (some w)/\bZ h ι Av v w
theorem jP.ext(e:jP ι Av env sc σ h)(x:eu bk h h'):jP ι Av env sc σ h':=
 ⟨e.kind,e.gl,e.bu,e.nm,(cW e.loc λm h1 h2=>⟨m,x.ns h1,λy v a b=>cW (h2 y v a b) λw c d=>⟨w,c,d.ext x⟩⟩),(λy a=>iw (e.sS y a) λc im p q=>⟨c,im,p,x.sI q⟩),λy v a b=>c3 (e.D0 y v a b) λc w p q t=>⟨c,w,p,x.sI q,t.ext x⟩⟩
theorem jP.lift(e:jP ι Av env sc σ h)(hD:h.get? D=ah):jP ι (D::Av) env sc σ h:=
 ⟨e.kind,e.gl,e.bu,e.nm,(cW e.loc λm h1 h2=>⟨m,h1,λy v a b=>cW (h2 y v a b) λw c d=>⟨w,c,d.lift hD⟩⟩),e.sS,λy v a b=>c3 (e.D0 y v a b) λc w p q t=>⟨c,w,p,q,t.lift hD⟩⟩
theorem kZ.lift{ι Av:List aN}{st:St}{h h':ca}(S:kZ ι Av st h)(hD:h.get? D=ah)(x:eu bk h h')(ho:h'.get? D=some o):kZ ι (D::Av) st h':=
 ⟨λa ha=>by
  rcases ax.mp ha with rfl|ha
  ·exact⟨o,ho⟩
  ·exact S.av.ext x a ha,λa ha=>gv _ (S.Bb a ha),S.nd,S.len,λl vs q=>by
  exact cU (S.at_ l vs q) λa ws h1 h2 h3 h4=>gM a ws h1 (x.iF h2) h3 ((h4.lift hD).ext x)⟩
structure At(ag:ca)(r n:Nat)(ι Av:List aN)(st:St)(A:b9)(env:Env)(sc:Sc)(σ:Sg)(s:ai):Prop where
 c:lf ag r n A s
 S:kZ ι Av st s.heap
 e:jP ι Av env sc σ s.heap
theorem At.ext{ag:ca}{r n:Nat}{ι Av:List aN}{st:St}(a:At ag r n ι Av st A env sc σ s)(x:ja (dM ag) s s')(tk:1<=s'.toks):At ag r n ι Av st A env sc σ s':=
 ⟨a.c.ext x tk,a.S.ext x.heap,a.e.ext x.heap⟩
theorem At.any{ag:ca}{r n m:Nat}{ι Av:List aN}{st:St}(a:At ag r n ι Av st A env sc σ s):At ag r m ι Av st A env sc σ s:=⟨a.c.any,a.S,a.e⟩
theorem At.less{ag:ca}{r n m:Nat}{ι Av:List aN}{st:St}(a:At ag r n ι Av st A env sc σ s)(hm:m<=n):At ag r m ι Av st A env sc σ s:=⟨a.c.less hm,a.S,a.e⟩
noncomputable def Ev(prog:cO)(w:bz)(bk:aN->Prop)(ι Av:List aN)(A:b9)(t:Sem ao)(v:V)(s:ai):Prop:=
 aA (az prog w) A t (λx s'=>ja bk s s'/\1<=s'.toks/\bZ s'.heap ι Av v x) (λ_ _=>False) s
noncomputable def Et(prog:cO)(w:bz)(bk:aN->Prop)(A:b9)(t:Sem Bool)(c:Bool)(s:ai):Prop:=
 aA (az prog w) A t (λx s'=>ja bk s s'/\1<=s'.toks/\x=c) (λ_ _=>False) s
section
variable{w:bz}{s:ai}{Q:ao->ai->Prop}
theorem Ev.go(h:Ev prog w bk ι Av A t v s)(k:∀x s',ja bk s s'->1<=s'.toks->bZ s'.heap ι Av v x->Q x s'):aA (az prog w) A t Q E s:=
 aV h (λx s' q=>k x s' q.1 q.2.1 q.2.2) λ_ _ f=>f.elim
theorem Ev.of(tk:1<=s.toks)(h:∀Q:ao->ai->Prop,eb bk ι Av s Q v->aA (az prog w) A t Q (λ_ _=>False) s):Ev prog w bk ι Av A t v s:=
 aV (kz tk (h (λx s'=>ja bk s s'/\bZ s'.heap ι Av v x) λx s' a b=>⟨a,b⟩)) (λx s' q=>⟨q.2.1,q.1,q.2.2⟩) λ_ _ f=>f.2.elim
theorem Et.go{v:Bool}{Q:Bool->ai->Prop}(h:Et prog w bk A t v s)(k:∀s',ja bk s s'->1<=s'.toks->Q v s'):aA (az prog w) A t Q E s:=
 aV h (λx s' q=>by refine yK q λa b fC=>?_;subst fC;exact k s' a b) λ_ _ f=>f.elim
theorem Et.of(tk:1<=s.toks)(h:∀Q:Bool->ai->Prop,(∀s',ja bk s s'->Q v s')->aA (az prog w) A t Q (λ_ _=>False) s):Et prog w bk A t v s:=
 aV (kz tk (h (λx s'=>ja bk s s'/\x=v) λs' a=>⟨a,rfl⟩)) (λx s' q=>⟨q.2.1,q.1,q.2.2⟩) λ_ _ f=>f.2.elim
theorem CE(env:Env)(names:List (Str×mU)):∀(iN:List (Str×aN)),(∀p∈names,p.2=.free->∃c,env.cells.lookup p.1=some c)->(∀x c,iN.lookup x=some c->env.cells.lookup x=some c)->
  ∃cl,(forIn names iN λ(p:Str×mU) cs=>(if(p.2==.free)=aj then do let c<-cellOf env p.1;pure (lO ((p.1,c)::cs))else pure (lO cs):Sem _))=pure cl/\
   (∀x c,cl.lookup x=some c->env.cells.lookup x=some c)/\(∀x,((∃c,iN.lookup x=some c)\/(x,fS)∈names)->∃c,cl.lookup x=some c):=by
 induction names with
 |nil=>
  exact λiN _ ha=>⟨iN,rfl,ha,λx h=>h.elim id λq=>nomatch q⟩
 |cons pq r ih=>
  rcases pq with⟨n,k⟩;exact λiN hn ha=>by
   rw[Qp];by_cases hk:k=.free
   ·subst hk;refine eE (hn (n,.free) (.head _) rfl) λc hc=>?_;have vh:cellOf env n=pure c:=by unfold cellOf;rw[hc]
    refine eN (ih ((n,c)::iN) (λp hp=>hn p (.tail _ hp)) (λx d hx=>by
     rw[dr]at hx;split at hx
     ·rename_i q;have qq:=au hx;subst qq;rw[eq_of_beq q];exact hc
     ·exact ha x d hx)) λcl h1 h2 h3=>?_
    refine ml cl ?_ h2 (λx hx=>h3 x ?_)
    ·simp -iota only[c6,if_true,vh,pure_bind];exact h1
    ·rcases hx with⟨d,hd⟩|hx
     ·refine .inl ?_;rw[dr];split
      ·exact⟨_,rfl⟩
      ·exact⟨d,hd⟩
     ·rcases ax.mp hx with e|hx
      ·cases e;exact .inl ⟨c,by simp -iota [dr]⟩
      ·exact .inr hx
   ·refine eN (ih iN (λp hp=>hn p (.tail _ hp)) ha) λcl h1 h2 h3=>ml cl ?_ h2 (λx hx=>h3 x ?_)
    ·have:(k==fS)=an:=by simpa using hk
     simp -iota only[this,rZ,if_false,pure_bind];exact h1
    ·rcases hx with hx|hx
     ·exact .inl hx
     ·rcases ax.mp hx with e|hx
      ·cases e;exact bV rfl hk
      ·exact .inr hx
theorem CD(scope:jm)(env:Env)(hn:∀p∈scope.names,p.2=.free->∃c,env.cells.lookup p.1=some c):
  ∃cl,closureFor scope env=pure cl/\(∀x c,cl.lookup x=some c->env.cells.lookup x=some c)/\∀x,(x,fS)∈scope.names->∃c,cl.lookup x=some c:=by
 refine eN (CE env scope.names [] hn (λx c q=>by exact bM q)) λcl h1 h2 h3=>ml cl ?_ h2 (λx hx=>h3 x (.inr hx));show(forIn scope.names [] (λ(p:Str×mU) cs=>(if(p.2==.free)=aj then do let c<-cellOf env p.1;pure (lO ((p.1,c)::cs))else pure (lO cs):Sem _))>>=λcs=>pure cs)=pure cl
 refine am h1 ?_;rfl
end
section
variable{w:bz}{s₁ bI:ai}{Q:ao->ai->Prop}
noncomputable def I6(ifs:List Expr)(env:Env):Sem Bool:=
 forIn ifs aj λc r=>if r=aj then do let ok<-tc c env (et c env);pure (lO ok)else pure (lO r)
theorem Cy{elt iter:Expr}{px:Pos}{pos:Pos}
  {RR:ao->aN->mq->ai->Prop}
  (src:tR prog w A bk ι Av vs B s₁ it bI) (kH:ku Av s₁.heap) (lg:1<=bI.toks)
  (vh:∀y∈scope.names,y.2≠.cell) (pW:scope.kind=.function) (hx:scope.names.lookup x=some .local) (hf:mR f vs=some us)
  (body:∀D C m v xv y cG,s₁.heap.get? D=ah->ja bk s₁ cG->1<=cG.toks->(∃o,cG.heap.get? D=some o)->f v=some y->bZ cG.heap ι (D::Av) v xv->cG.heap.Ns C m->m x=some xv->
   aA (az prog w) A (I6 ifs (Jc scope cl C env)) (λok oh=>ja bk cG oh/\1<=oh.toks/\match y with
    |none=>ok=an
    |some u=>ok=aj/\Ev prog w bk ι (D::Av) A (et elt (Jc scope cl C env)) u oh) (λ_ _=>False) cG)
  (hRR:∀D C s' m' ys,ja bk s₁ s'->1<=s'.toks->s'.heap.Ns C m'->s₁.heap.objs.size<=C->s₁.heap.objs.size<=D->D≠C->s'.heap.PlainList D (bl ys)->bq s'.heap ι Av us ys->ys.length<=16777216->RR (.ref D) C (.ok .next) s'):
  aA (az prog w) A (newList []) (λiN cG=>aA (az prog w) A (ajK scope env.globals cl [] env.qual ah .none (some env)) (λIJ oh=>
   xg (az prog w) A (.compStart (.ListComp elt [⟨.Name x px,iter,ifs,0⟩] scope pos) 0 it iN {IJ with scope:=relabel scope env}) (RR iN IJ.locals) oh) E cG) E bI:=by
 have QY:=src.ext;have Fp:=src.Fp;refine src.ex _ λI fp P St hit W Ae Ux hIn hfb WA hP hI _=>?_;clear src;subst hit;have acX:=QY.heap;refine wpAny_newObj_type (akS vh (by intro y hy;simp at hy) (λgZ Ce yu=>?_) pW);dsimp only at Ce yu⊢;generalize bI.heap=h2 at*;generalize hH2:h2.push {cls:=.type "list",dict:=ah,data:=.seq ([]:List ao).toArray}=H2 at Ce yu⊢;have hC:H2.objs.size=h2.objs.size+1:=by rw[<-hH2,jF]
 have K6:h2.objs.size≠H2.objs.size:=by refine am hC ?_;exact dk (fe _)
 have Pn:s₁.heap.objs.size<=h2.objs.size:=by have Fh:=Ux I (W.sub I (bh.mpr rfl));exact aM hIn (Jh Fh)
 have below:∀b,b<h2.objs.size->b≠H2.objs.size/\b≠h2.objs.size:=λb hb=>⟨by refine am hC ?_;exact dk (iA hb),dk hb⟩;have hDf:h2.objs.size∉fp:=λhm=>gj _ (Ux _ hm);have hCf:H2.objs.size∉fp:=λhm=>by have:=Ux _ hm;replace this:=hC▸this;exact gj _ (Nat.lt_of_succ_lt this)
 have hIf:I∈fp:=W.sub I (bh.mpr rfl);have Fh:I<h2.objs.size:=Ux I hIf;have FS:∀b o,h2.get? b=some o->gZ.get? b=some o:=λb o e=>yu.extBut b o (below b (dK e)).1 (aQ _ (hH2▸aQ _ e));have adF:gZ.PlainList h2.objs.size (bl []):=⟨_,yu.extBut _ _ K6 (aQ _ (hH2▸bN _ rfl))⟩;have HO:St 0 gZ:=W.frame _ _ _ Ae λb _ o e=>FS b o e;have hD0:s₁.heap.get? h2.objs.size=ah:=cq Pn;have hC0:s₁.heap.objs.size<=H2.objs.size:=by refine am hC ?_;exact jQ Pn
 have Wi:eu bk s₁.heap gZ:=acX.trans (.of_keep FS);have loop:∀cG:ai,cG={bI with heap:=gZ,toks:=bI.toks+([]:List (Str×ao)).length}->
   xg (az prog w) A (.compLoop (.ListComp elt [⟨.Name x px,iter,ifs,0⟩] scope pos) 0 (.ref I) (.ref h2.objs.size) (Jc scope cl H2.objs.size env))
    (RR (.ref h2.objs.size) H2.objs.size) cG:=by
  intro cG e3;subst e3;have MG:∀i h o jk nn,St i h->h.get? I=some o->o.data=.seq jk nn->False:=λ_ _ _ _ _ st e q=>hI _ _ st _ λo' fs T l4 Uw _ _=>nomatch(kM e l4▸q).symm.trans Uw;refine Dy (λLI t n h=>codeAny_compLoop_tests LI t n h) (λk s'=>∀G:Prop,(∀i ys pQ C0 m',k=vs.length+1-i->i<=vs.length->ja bk s₁ s'->1<=s'.toks->St i s'.heap->s'.heap.Ns H2.objs.size m'->s'.heap.PlainList h2.objs.size (bl ys)->
    bq s'.heap ι (h2.objs.size::Av) pQ ys->mR f (vs.drop i)=some C0->pQ++C0=us->ys.length<=i->G)->G) (vs.length+1) (λ_ g=>g 0 [] [] us _ rfl (bo _) (QY.to Wi) lg HO Ce adF .nil hf rfl (aD _)) λLI FT BV=>?_
  intro k s' hz;refine FT _ _ hz _ λi ys pQ C0 m' hk hi x1 FX KO jq nS rs Ap tF Wh=>?_;have sJ:=x1.heap;have ne1:∀{b},b∈[I]->b=I:=λh=>bh.mp h;by_cases gE:i<vs.length
  ·refine cM (n:=1) FX (W.item i _ _ _ gE KO λv ip lg hPv yr lw nr=>?_);refine oY (pY (lookup_relabel_local hx) (jq.at' λo e=>lw _ o (λhm=>(below I Fh).1 (ne1 hm).symm) e) (λmK Dw Ad=>?_) (by simp[Jc,relabel,pW]));dsimp only at Dw Ad⊢;have HN:St (i+1) mK:=W.frame _ _ _ yr λb hb o e=>Ad.extBut b o (λq=>hCf ((show b=H2.objs.size from q)▸hb)) e;have OT:eu bk s₁.heap mK:=sJ.but λb o hb e=>Ad.extBut b o (λq=>nW.mpr hC0 ((show b=H2.objs.size from q)▸hb)) (lw b o (λhm=>nW.mpr hIn (ne1 hm▸hb)) e);have O2:mK.PlainList h2.objs.size (bl ys):=nS.elim λn ho=>⟨n,Ad.extBut _ _ K6 (lw _ _ (λhm=>(below I Fh).2 (ne1 hm).symm) ho)⟩;have rs3:bq mK ι (h2.objs.size::Av) pQ ys:=
    rs.move λa o ha e hd=>⟨ha,hd.elim λjk hd=>hd.elim λnn hd=>Ad.extBut a o (λq=>gN jq λo' es ep l4 j7 _=>nomatch(kM ((show a=H2.objs.size from q)▸e) l4▸hd).symm.trans j7) (lw a o (λhm=>MG _ _ _ _ _ KO (ne1 hm▸e) hd) e)⟩
   refine cW (hP i v hPv) λv' MS rv=>?_;have OU:vs.drop i=v'::vs.drop (i+1):=(aG.mp MS).elim λhl e=>e▸fU hl;replace Ap:=OU▸Ap;refine bK Ap λy hfv Ap=>fz Ap λQ8 hr Ap=>?_;have B:=body h2.objs.size H2.objs.size _ v' v y {s' with heap:=mK,toks:=lg+1} hD0 (x1.to OT) (jQ nr) (O2.elim λn e=>⟨_,e⟩) hfv ((rv.lift hD0).ext OT) Dw (aP rfl);refine aV B (λok oh acV=>?_) λ_ _ e=>e.elim;clear B;refine yK acV λNH Rd hy=>?_;have rB:=NH.heap;rcases y with _|u
   ·subst hy;exact⟨_,am hk (o9 gE),BV _ _ λ_ g=>g (i+1) ys pQ C0 _ rfl gE ((x1.to OT).trans NH) Rd (WA _ _ _ HN rB) (rB.ns Dw) (rB.iF O2) (rs3.ext rB) (hr.trans (congrArg some Ap)) tF (o2 Wh)⟩
   ·refine eA hy λSG ev=>?_;subst SG;refine ev.go λy agN QX Rb ry=>?_;have Ac:=QX.heap;refine eE (Ac.iF (rB.iF O2)) λnn ada=>?_;refine cM (n:=1) Rb (append_at (hsz:=by refine am bD (am bC ?_);exact(fM _ _ _ 1 V0 (.k 16777216) (D1 V0 V1 (D1 (S1 V1) V2 (D1 V2 (.k 16777216) .n))) rfl Wh gE Fp)) ada λacU Dv UJ Ra=>?_);have hx6:eu bk s₁.heap acU:=((OT.trans rB).trans Ac).but λb o hb e=>Dv.extBut b o (λq=>nW.mpr Pn (q▸hb)) e;exact⟨_,am hk (o9 gE),BV _ _ λ_ g=>g (i+1) (ys++[y]) (pQ++[u]) Q8 _ rfl gE ((((x1.to OT).trans NH).trans QX).to hx6) Ra (W.frame _ _ _ (WA _ _ _ (WA _ _ _ HN rB) Ac) λb hb o e=>Dv.extBut b o (λq=>hDf (q▸hb)) e) (((rB.trans Ac).ns Dw).sameBut Dv (tM K6)) ⟨_,by rw[UJ,akn]⟩
     (bq.move (λa o ha e hd=>⟨ha,Dv.extBut a o (λq=>ha (q▸eV)) e⟩) (bq.append (rs3.ext (rB.trans Ac)) (.cons ry .nil))) hr ((br ..).trans ((congrArg (pQ++·) Ap).trans tF)) (am aE (o32 Wh))⟩
  ·have ei:i=vs.length:=aK hi (nW.mp gE);subst ei;refine cM (n:=1) FX (W.done _ _ _ KO λip lg lw nr=>?_);replace Ap:=vS▸Ap;have ac1:pQ=us:=(gJ pQ).symm.trans ((congrArg (pQ++·) (au Ap)).trans tF);have OT:eu bk s₁.heap ip:=sJ.but λb o hb e=>lw b o (λhm=>nW.mpr hIn (ne1 hm▸hb)) e;refine hRR _ _ {s' with heap:=ip,toks:=lg} m' ys (x1.to OT) nr (jq.at' λo e=>lw _ o (λhm=>(below I Fh).1 (ne1 hm).symm) e) hC0 Pn K6 (nS.elim λn ho=>⟨n,lw _ _ (λhm=>(below I Fh).2 (ne1 hm).symm) ho⟩) ?_ (by exact dp _ _ 1 V0 (.k 16777216) (D1 V0 V1 (D1 V1 (.k 16777216) .n)) rfl Wh Fp);exact ac1▸bq.move (λa o ha e hd=>⟨λhm=>ha (gv _ hm),hd.elim λjk hd=>hd.elim λnn hd=>lw a o (λhm=>MG _ _ _ _ _ KO (ne1 hm▸e) hd) e⟩) rs
 exact codeAny_compStart_list (loop _ rfl) (W.self 0 _ _ _ HO (loop _ rfl))
end
noncomputable def yS(prog:cO)(w:bz)(ag:ca)(r:Nat)(Fa:aN->List V->Option V):Prop:=∀a vs v,Fa a vs=some v->
 (∃o fd,ag.get? a=some o/\o.data=.func fd)/\∀(ι Av:List aN) (A:b9) (s:ai) (ws:List ao) (E:ao->ai->Prop) (Q:ao->ai->Prop),lf ag r 0 A s->ku Av s.heap->bq s.heap ι Av vs ws->eb (dM ag) ι Av s Q v->aA (az prog w) A (call (.ref a) ws) Q E s
noncomputable def Vw(prog:cO)(w:bz)(ag:ca)(r:Nat)(Fm:aN->Str->List V->Option V):Prop:=∀a m vs v,Fm a m vs=some v->
 ∀(ι Av:List aN) (st:St) (A:b9) (s:ai),lf ag r 0 A s->kZ ι Av st s.heap->j3 prog w (dM ag) ι Av st A m vs v (.ref a) s
structure Wd(prog:cO)(w:bz)(ag:ca)(mg mb:Str->Option ao)(r:Nat)(P:pD):Prop where
 g:ag.Ns agB mg
 b:ag.Ns builtinsNs mb
 bu:∀x:Str,x≠"__name__"->mb x=hZ x
 gl:∀x v,P.G x=some v->∃a,v=.obj a/\mg x=some (.ref a)
 fre:∀x∈lA,mg x=ah
 fa:yS prog w ag r P.Fa
 fm:Vw prog w ag r P.Fm
 sr:nB prog w
theorem CJ(h:f∈lA):∃c,hZ f=some c/\((∃a,c=.builtin a)\/(∃a,c=.type a)):=by
 simp only[lA,ax,bA,or_false]at h;rcases h with rfl|rfl|rfl|rfl|rfl|rfl|rfl|rfl|rfl|rfl|rfl|rfl|rfl
 ·exact jW _ aqZ (.inl ⟨_,rfl⟩)
 ·exact jW _ aqX (.inr ⟨_,rfl⟩)
 ·exact jW _ Boot.chr (.inl ⟨_,rfl⟩)
 ·exact jW _ amK (.inl ⟨_,rfl⟩)
 ·exact jW _ alb (.inr ⟨_,rfl⟩)
 ·exact jW _ Boot.sum (.inl ⟨_,rfl⟩)
 ·exact jW _ amn (.inl ⟨_,rfl⟩)
 ·exact jW _ aqY (.inl ⟨_,rfl⟩)
 ·exact jW _ Boot.sorted (.inl ⟨_,rfl⟩)
 ·exact jW _ Boot.range (.inr ⟨_,rfl⟩)
 ·exact jW _ aq0 (.inr ⟨_,rfl⟩)
 ·exact jW _ aqz (.inl ⟨_,rfl⟩)
 ·exact jW _ Boot.tuple (.inr ⟨_,rfl⟩)
theorem FH(h:f∈lA):f≠ar "__name__"/\(f==ar "__debug__")=an:=by
 have:∀f∈lA,f≠ar "__name__"/\(f==ar "__debug__")=an:=by decide+kernel
 exact this f h
section
variable{w:bz}{r:Nat}{s:ai}{n:Nat}{Q:ao->ai->Prop}
theorem iG(W:Wd prog w ag mg mb r P)(a:At ag r n ι Av st A env sc σ s)(hx:x∈lA)(hc:hZ x=some c)(hs:sc.lookup x=some .globalImplicit)(k:Q c s):
  aA (az prog w) A (et (.Name x p) env) Q E s:=by
 refine eA (FH hx) λh1 h2=>?_;have hk:env.kindOf x=some .globalImplicit:=(a.e.nm x _ hs).elim id λq=>nomatch q.1;refine vR a.e.kind hk (amr (mg:=mg) (mb:=mb) (v:=c) ?_ (W.fre x hx) ?_ ?_ k) h2
 ·refine am a.e.gl ?_;exact W.g.keeps a.c.kp
 ·refine am a.e.bu ?_;exact W.b.keeps a.c.kp
 ·refine am (W.bu x h1) ?_;exact hc
theorem gY(W:Wd prog w ag mg mb r P)(a:At ag r n ι Av st A env sc σ s)(h:fY P sc σ x=some v)(k:eb (dM ag) ι Av s Q v):
  aA (az prog w) A (et (.Name x p) env) Q E s:=by
 refine OP h λhn h=>?_;have hd:(x==ar "__debug__")=an:=beq_false_of_ne λq=>hn (.inl q);have hc:(x==ar "__classdict__")=an:=beq_false_of_ne λq=>hn (.inr q);generalize hs:sc.lookup x=o at h;rcases o with _|o
 ·exact bM h
 cases o with
 |«local»=>
   refine cW a.e.loc λm h1 h2=>cW (h2 x v hs h) λwv h3 h4=>?_;have hk:env.kindOf x=some .local:=(a.e.nm x _ hs).elim id λq=>nomatch q.1;exact vO (lF a.e.kind hk h1 h3 (k _ _ (.refl _) h4)) hd
 |cell=>
   refine c3 (a.e.D0 x v (.inl hs) h) λc wv h1 h2 h3=>?_;have hk:env.kindOf x=some .cell:=(a.e.nm x _ hs).elim id λq=>nomatch q.1;exact vO (L2 a.e.kind hk h1 h2 (k _ _ (.refl _) h3)) hd
 |free=>
   refine c3 (a.e.D0 x v (.inr hs) h) λc wv h1 h2 h3=>?_;rcases a.e.nm x _ hs with hk|⟨_,hk⟩
   ·exact vO (wpAny_loadName_free a.e.kind hk h1 h2 (k _ _ (.refl _) h3) hc) hd
   ·exact vO (L2 a.e.kind hk h1 h2 (k _ _ (.refl _) h3)) hd
 |globalImplicit=>
   have hk:env.kindOf x=some .globalImplicit:=(a.e.nm x _ hs).elim id λq=>nomatch q.1;refine cW (W.gl x v h) λb or hb=>?_;subst or;refine vR a.e.kind hk (loadGlobal_global (mg:=mg) ?_ hb (k _ _ (.refl _) (.obj _))) hd;refine am a.e.gl ?_;exact W.g.keeps a.c.kp
 |_=>exact bM h
theorem AI(h:Gi c=some v)(k:eb (dM ag) ι Av s Q v):aA (az prog w) A (et (.Constant c kd p) env) Q E s:=by
 cases c with
 |none=>exact PyProof.Rows.Constant_none (k _ _ (.refl _) (au h▸.none))
 |bool b=>exact PyProof.Rows.Constant_bool (k _ _ (.refl _) (au h▸.bool _))
 |int i=>exact alf (k _ _ (.tok _) (au h▸.int _ _))
 |float x=>exact wpAny_Constant_float (k _ _ (.tok _) (au h▸.cY _ _))
 |str s=>exact cC h λhl h=>iL (k _ _ (.tok _) (au h▸.str _ _ (VV hl)))
 |_=>exact bM h
noncomputable def eB(args:List Expr):Prop:=∀env:Env,fF args env=args.map λe=>(an,et e env)
theorem eB.nil:eB []:=λ_=>rfl
theorem j5(h:∀x p,e≠.Starred x p):fF (e::rest) env=(an,et e env)::fF rest env:=by cases e<;>first|rfl|exact bV rfl (h _ _)
theorem eB.cons(h:∀x p,e≠.Starred x p)(hr:eB rest):eB (e::rest):=λenv=>by refine am (j5 h) (am (hr env) ?_);rfl
theorem eB.any(h:eB args)(pos:Pos)(env:Env):(j4 pos (fF args env)).any (·.1)=an:=by refine am (h env) ?_;unfold j4;rw[bF,Jo,List.any_eq_false];intro x _;simp
theorem eB.Fp(h:eB args)(pos:Pos)(env:Env)(hl:args.length<=10):((j4 pos (fF args env)).all (λx=>!x.1)&&(backToKw pos (akV [] env)).all (λx=>x.1.isSome)
   &&decide (args.length+([]:List Keyword).length+(if([]:List Keyword).isEmpty then 0 else 1)<30))=aj:=by
 refine am (h env) ?_;unfold j4;refine am bF (am List.all_map ?_);simp only[cj,decide_eq_true_eq,aT];refine⟨⟨λx _=>by simp,λx hx=>by cases hx⟩,?_⟩;simp;exact(dD _ 1 (S1 V0) (.k 30) (D1 V0 (.k 10) .n) rfl hl)
theorem kP(hn:eB args){f:ao}{Q:Args->ai->Prop}(h:aA (az prog w) A (t9 (j4 pos (fF args env))) (λvs s₁=>Q ⟨vs,[]⟩ s₁) E s):aA (az prog w) A (ajL f aj (j4 pos (fF args env)) []) Q E s:=by
 cases args with
 |nil=>
  show aA (az prog w) A (ajL f aj [] []) Q E s;unfold ajL;show aA (az prog w) A (t9 []>>=_) Q E s;refine aR (aV h (λvs s' h'=>?_) λ_ _ x=>x);exact aR (aO (gG (aR (aO (aR (aO (aO h')))))))
 |cons e rest=>
  have q:=hn env;rw[q]at h⊢;exact evalArgs_plain h
theorem g5(hc:(∃a,c=.builtin a)\/(∃a,c=.type a))(hn:eB args)
  (h:aA (az prog w) A (t9 (j4 pos (fF args env))) (λvs s₁=>aA (az prog w) A (call c (first++vs)) Q E s₁) E s):aA (az prog w) A (rR pos c first (j4 pos (fF args env)) []) Q E s:=by
 rcases hc with⟨a,rfl⟩|⟨a,rfl⟩
 ·exact PySem.Calls.callWith_builtin (hn.any pos env) (kP hn h)
 ·exact PyProof.Rows.callWith_type (hn.any pos env) (kP hn h)
theorem vC(hn:eB args)
  (h:aA (az prog w) A (t9 (j4 pos (fF args env))) (λvs s₁=>(s₁.heap.get? a=some o/\o.data=.func fd)/\aA (az prog w) A (call (.ref a) vs) Q E s₁) E s):aA (az prog w) A (rR pos (.ref a) [] (j4 pos (fF args env)) []) Q E s:=
 PySem.Calls.callWith_function (kP hn h)
end
noncomputable def I8(h:ca)(ι Av:List aN):Option V->ao->Prop
 |none,x=>x=.none
 |some v,x=>bZ h ι Av v x
structure pB(prog:cO)(w:bz)(ag:ca)(r:Nat)(P:pD)(n:Nat):Prop where
 ev:∀{ι Av:List aN} {st:St} {A:b9} {env:Env} {sc:Sc} {σ:Sg} {s:ai} {e:Expr} {v:V},ay P st n sc σ e=some v->At ag r n ι Av st A env sc σ s->Ev prog w (dM ag) ι Av A (et e env) v s
 evO:∀{ι Av:List aN} {st:St} {A:b9} {env:Env} {sc:Sc} {σ:Sg} {s:ai} {e:Option Expr} {o:Option V},oU P st n sc σ e=some o->At ag r n ι Av st A env sc σ s->
  aA (az prog w) A (evalPart e env) (λx s'=>ja (dM ag) s s'/\1<=s'.toks/\I8 s'.heap ι Av o x) (λ_ _=>False) s
 Ay:∀{ι Av:List aN} {st:St} {A:b9} {env:Env} {sc:Sc} {σ:Sg} {s:ai} {es:List Expr} {vs:List V},b3 P st n sc σ es=some vs->At ag r n ι Av st A env sc σ s->
  eB es/\vs.length=es.length/\∀pos,aA (az prog w) A (t9 (j4 pos (fF es env))) (λws s'=>ja (dM ag) s s'/\1<=s'.toks/\bq s'.heap ι Av vs ws) (λ_ _=>False) s
 it:∀{ι Av:List aN} {st:St} {A:b9} {env:Env} {sc:Sc} {σ:Sg} {s:ai} {e:Expr} {vs:List V},g7 P st n sc σ e=some vs->At ag r n ι Av st A env sc σ s->
  (∀a b c,e≠.Set a b c)/\aA (az prog w) A (et e env) (λxv s₁=>ja (dM ag) s s₁/\1<=s₁.toks/\∀Q':ao->ai->Prop,(∀it bI,tR prog w A (dM ag) ι Av vs (λ_=>True) s₁ it bI->Q' it bI)->aA (az prog w) A (mo xv) Q' (λ_ _=>False) s₁) (λ_ _=>False) s
 ts:∀{ι Av:List aN} {st:St} {A:b9} {env:Env} {sc:Sc} {σ:Sg} {s:ai} {es:List Expr} {b:Bool},gx P st n sc σ es=some b->At ag r n ι Av st A env sc σ s->Et prog w (dM ag) A (I6 es env) b s
 te:∀{ι Av:List aN} {st:St} {A:b9} {env:Env} {sc:Sc} {σ:Sg} {s:ai} {e:Expr} {b:Bool},bY P st n sc σ e=some b->At ag r n ι Av st A env sc σ s->
  ∀whole:Sem ao,(whole=et e env\/∃op vs p,e=.BoolOp op vs p)->Et prog w (dM ag) A (tc e env whole) b s
theorem tR.mono(x:tR prog w A bk ι Av vs B s₁ it bI)(h:∀b,B b->B' b):tR prog w A bk ι Av vs B' s₁ it bI:=
 ⟨λC k=>x.ex C λI fp P St a b c d e f=>k I fp P St a b c d e λq hq=>(f q hq).imp id λp=>⟨h q p.1,p.2⟩,x.ext,x.Fp⟩
section
variable{w:bz}{r:Nat}{s:ai}{n:Nat}{Q:ao->ai->Prop}
theorem bq.take1(r:bq h ι Av vs ws)(hl:vs.length<=100):ws.length<=16777216:=by refine jj r.length ?_;exact(dD _ 1 V0 (.k 16777216) (D1 V0 (.k 100) .n) rfl hl)
theorem pB.tX(H:pB prog w ag r P n)(h:b3 P st n sc σ es=some vs)(a:At ag r n ι Av st A env sc σ s){pos:Pos}{Q:List ao->ai->Prop}
  (k:∀ws s',ja (dM ag) s s'->1<=s'.toks->bq s'.heap ι Av vs ws->Q ws s'):aA (az prog w) A (t9 (j4 pos (fF es env))) Q E s:=
 aV ((H.Ay h a).2.2 pos) (λws s' q=>k ws s' q.1 q.2.1 q.2.2) λ_ _ f=>f.elim
theorem D2(W:Wd prog w ag mg mb r P)(H:pB prog w ag r P n)(g':b3 P st n sc σ args=some vs)(hf:P.Fa f vs=some v)(a:At ag r n ι Av st A env sc σ s)
  (k:eb (dM ag) ι Av s Q v):aA (az prog w) A (rR pos (.ref f) [] (j4 pos (fF args env)) []) Q E s:=by
 refine gen λGG fN=>?_;refine eA (W.fa f vs v hf) λqN hc=>?_;obtain⟨o,fd,ho,hd⟩:=qN;refine fN ?_;refine vC (o:=o) (fd:=fd) (H.Ay g' a).1 (H.tX g' a λws s' x tk rs=>?_);have a':=a.ext x tk;exact⟨⟨a'.c.kp _ _ ho,hd⟩,hc ι Av A s' ws E Q (a'.c.less (bo _)) a'.S.av rs λw' g8 x' r'=>k w' g8 (x.trans x') r'⟩
theorem I'(h:aA (az prog w) A (et (.Subscript a b c) env) (λf s₁=>aA (az prog w) A (rR pos f [] (j4 pos (fF args env)) []) Q E s₁) E s):
  aA (az prog w) A (et (.Call (.Subscript a b c) args [] pos) env) Q E s:=PyProof.Rows.Call_ h
theorem un(ho:ft o=aj)(m:Str):attributeBase o m env (et o env)=et o env:=by cases o<;>first|rfl|(exact bB ho)
theorem wO(ho:ft o=aj)(hl:(ap.endLine==pos.line)=aj)(UI:args.length<=10)
  (H:pB prog w ag r P n) (g':b3 P st n sc σ args=some vs) (Uz:ay P st n sc σ o=some ov) (a:At ag r n ι Av st A env sc σ s)
  (hm:∀x s₁,At ag r n ι Av st A env sc σ s₁->bZ s₁.heap ι Av ov x->j3 prog w (dM ag) ι Av st A m vs v x s₁) (k:eb (dM ag) ι Av s Q v):
  aA (az prog w) A (et (.Call (.Attribute o m ap) args [] pos) env) Q E s:=by
 have hn:=(H.Ay g' a).1;refine nK (un ho m) (hn.Fp pos env UI) hl ((H.ev Uz a).go λx s₁ x1 gg rx=>?_);have a1:=a.ext x1 gg;refine gen λGG fN=>?_;obtain⟨T,id,pa,sl,ty,hT,hd,hc⟩:=hm x s₁ a1 rx;refine fN ?_;refine oJ T id pa sl ty hT hd (g5 (.inl ⟨_,rfl⟩) hn (H.tX g' a1 λws s2 x2 po rs=>?_));exact hc s2 ws E Q x2.heap rs λw' g8 x' r'=>k w' g8 ((x1.trans x2).trans x') r'
theorem xX(ho:ft o=aj)(hl:(ap.endLine==pos.line)=aj)
  (H:pB prog w ag r P n) (Uz:ay P st n sc σ o=some (.str x)) (a:At ag r n ι Av st A env sc σ s) (hx:x.length<=1048576) (hy:y.length<=14) (hz:z.length<=14) (hyz:y≠z) (k:eb (dM ag) ι Av s Q (.str (rT x y z))):
  aA (az prog w) A (et (.Call (.Attribute o (ar "replace") ap) [.Constant (.str y) k1 p1,.Constant (.str z) k2 p2] [] pos) env) Q E s:=by
 have hn:eB [.Constant (.str y) k1 p1,.Constant (.str z) k2 p2]:=λ_=>rfl;refine nK (un ho _) (hn.Fp pos env (by simp)) hl ((H.ev Uz a).go λxv s₁ x1 gg rx=>?_)
 cases rx with
 |str _ t TY=>
 refine oJ ("str") _ ai8 PySem.F.slot_str_replace PySem.F.type_str_replace (qD _ _ _) (λ_ e=>nomatch e) (g5 (.inl ⟨_,rfl⟩) hn ?_);refine bT (iL (bT (iL (eH ?_))));refine SC.replaceW (Nat.pos_iff_ne_zero.mp gg) (L6 _) (dk (fe _)) (by simpa using hyz) hx hz λt' kk=>k _ _ (x1.trans (.tok _)) (.str _ _ ?_);have hb:x.length+(x.length+1)*z.length<=16777216:=by have h1:(x.length+1)*z.length<=(x.length+1)*14:=aj3 _ hz;exact aav hx h1
 unfold rT;split
 ·exact TY
 ·have:=fits_replaced y hb;rw[bC]at this;exact this
end
theorem eu.sameBut{bk:aN->Prop}{h h' Fk:ca}{C:aN}(x:eu bk h h')(hC:h.get? C=af)(hs:dL C h' Fk):eu bk h Fk:=λb o e=>by
 have hb:b≠C:=λq=>by replace e:=hC▸q▸e;exact bM e
 rcases x b o e with e1|⟨h1,h2,sl,e1⟩
 ·exact .inl (hs.extBut b o hb e1)
 ·exact .inr ⟨h1,h2,sl,hs.extBut b _ hb e1⟩
theorem oE{env:Env}:∀{names:List (Str×mU)} {x:Str} {k:mU},names.lookup x=some k->
  (names.map λ(n,k)=>if(k==fS&&env.scope.kind==.function&&env.kindOf n==some .cell)then(n,yW)else(n,k)).lookup x=some k\/
  (k=.free/\(names.map λ(n,k)=>if(k==fS&&env.scope.kind==.function&&env.kindOf n==some .cell)then(n,yW)else(n,k)).lookup x=some .cell)
 |[],_,_,h=>by simp at h
 |(n,k')::r,x,k,h=>by
  have ih:=@oE env r x k;show ajU x ((if(k'==fS&&env.scope.kind==.function&&env.kindOf n==some .cell)=aj then(n,yW)else(n,k'))::_)=_\/(k=.free/\ajU x ((if(k'==fS&&env.scope.kind==.function&&env.kindOf n==some .cell)=aj then(n,yW)else(n,k'))::_)=_)
  cases hx:x==n with
  |true=>
   simp only[dr,hx]at h;have qq:=au h;subst qq;by_cases hc:(k'==fS&&env.scope.kind==.function&&env.kindOf n==some .cell)=aj
   ·refine am (aP hc) ?_;simp only[cj]at hc;exact .inr ⟨eq_of_beq hc.1.1,by simp[dr,hx]⟩
   ·refine am (bg hc) ?_;exact .inl (by simp[dr,hx])
  |false=>
   simp only[dr,hx]at h;by_cases hc:(k'==fS&&env.scope.kind==.function&&env.kindOf n==some .cell)=aj
   ·refine am (aP hc) ?_;simp only[dr,hx];exact ih h
   ·refine am (bg hc) ?_;simp only[dr,hx];exact ih h
structure ta(sc:Sc)(scope:jm)(x:Str):Prop where
 kind:scope.kind=.function
 var:scope.names.lookup x=some .local
 all:∀p∈scope.names,(p.2=.local->(p.1=x\/p.1=oQ)/\scope.names.lookup p.1=some .local)/\(p.2=.free->sc.lookup p.1=some .cell\/sc.lookup p.1=some .free)/\(p.2=.local\/p.2=.free\/p.2=.globalImplicit)
theorem w6{sc:Sc}{scope:jm}{x:Str}(h:qy sc scope x=aj):ta sc scope x:=by
 unfold qy at h;simp only[cj,aT,decide_eq_true_eq]at h;obtain⟨⟨⟨⟨h1,h2⟩,_⟩,_⟩,h3⟩:=h;refine⟨h1,h2,λp hp=>?_⟩;have:=h3 p hp;obtain⟨n,k⟩:=p
 cases k with
 |«local»=>
  refine⟨λ_=>?_,λq=>(nomatch q),.inl rfl⟩;simp only[iu,cj,decide_eq_true_eq]at this;rcases this with rfl|⟨rfl,h4⟩
  ·exact⟨.inl rfl,h2⟩
  ·exact⟨.inr rfl,h4⟩
 |_=>simp at this<;>simp[this]
section
variable{w:bz}{r:Nat}{s:ai}{n:Nat}{Q:ao->ai->Prop}
theorem dw{β:Type}:∀{l:List (Str×β)} {x:Str} {k:β},l.lookup x=some k->(x,k)∈l
 |(n,b)::r,x,k,h=>by
  rw[dr]at h;split at h
  ·rename_i q;have qq:=au h;subst qq;rw[eq_of_beq q];exact .head _
  ·exact .tail _ (dw h)
theorem IE{scope:jm}{x:Str}{cl:List (Str×aN)}{C:aN}{h:ca}{m:Str->Option ao}{v:V}{xv:ao}(lJ:ta sc scope x)(M3:(eO oQ σ).isNone=aj)(e:jP ι Av env sc σ h)
  (yy:∀x c,cl.lookup x=some c->env.cells.lookup x=some c) (Al:∀x,(x,fS)∈scope.names->∃c,cl.lookup x=some c)
  (hn:h.Ns C m) (hm:m x=some xv) (rv:bZ h ι Av v xv):jP ι Av (Jc scope cl C env) scope.names ((x,v)::σ) h:=by
 refine⟨lJ.kind,e.gl,e.bu,λy k hy=>oE hy,⟨m,hn,λy u hy hu=>?_⟩,λy hy=>?_,λy u hy hu=>?_⟩
 ·rcases((lJ.all _ (dw hy)).1 rfl).1 with this|this
  ·have:y=x:=this;subst this;simp only[eO,if_true]at hu;have qq:=au hu;subst qq;exact jW xv hm rv
  ·have:y=oQ:=this;subst this;simp only[eO]at hu;split at hu
   ·rename_i q;have qq:=au hu;subst qq;exact jW xv (by rw[q];exact hm) rv
   ·rw[hu]at M3;cases M3
 ·rcases hy with hy|hy
  ·have:=(lJ.all _ (dw hy)).2.2;simp at this
  ·refine eE (Al y (dw hy)) λc' uk=>iw (e.sS y ((lJ.all _ (dw hy)).2.1 rfl)) λc im h1 h2=>?_;have:=yy y c' uk;cases kM h1 this;exact jp _ im uk h2
 ·rcases hy with hy|hy
  ·have:=(lJ.all _ (dw hy)).2.2;simp at this
  ·have hyx:y≠x:=λq=>by subst q;cases kM lJ.var hy
   simp only[eO,bg hyx]at hu;refine c3 (e.D0 y u ((lJ.all _ (dw hy)).2.1 rfl) hu) λc w' h1 h2 h3=>eE (Al y (dw hy)) λc' uk=>?_;have:=yy y c' uk;cases kM h1 this;exact iM c w' uk h2 h3
theorem rN{scope:jm}{x:Str}{h:ca}(lJ:ta sc scope x)(e:jP ι Av env sc σ h):∃cl,closureFor scope env=pure cl/\(∀x c,cl.lookup x=some c->env.cells.lookup x=some c)/\∀x,(x,fS)∈scope.names->∃c,cl.lookup x=some c:=
 CD scope env λp hp hf=>iw (e.sS p.1 ((lJ.all p hp).2.1 hf)) λc _ h _=>⟨c,h⟩
theorem w5(H:pB prog w ag r P n){elt iter:Expr}{x:Str}{px:Pos}{ifs:List Expr}{scope:jm}{cl:List (Str×aN)}{pos:Pos}{RR:ao->aN->mq->ai->Prop}{vs us:List V}
  (hit:g7 P st n sc σ iter=some vs) (lJ:ta sc scope x) (M3:(eO oQ σ).isNone=aj)
  (Ap:mR (λv=>(gx P st n scope.names ((x,v)::σ) ifs).bind λok=>if ok then(ay P st n scope.names ((x,v)::σ) elt).map some else some af) vs=some us)
  (a:At ag r n ι Av st A env sc σ s) (yy:∀x c,cl.lookup x=some c->env.cells.lookup x=some c) (Al:∀x,(x,fS)∈scope.names->∃c,cl.lookup x=some c)
  (hRR:∀D C s' m' ys,ja (dM ag) s s'->1<=s'.toks->s'.heap.Ns C m'->s.heap.get? C=ah->s.heap.get? D=ah->D≠C->s'.heap.PlainList D (bl ys)->bq s'.heap ι Av us ys->ys.length<=16777216->RR (.ref D) C (.ok .next) s'):
  aA (az prog w) A (et iter env) (λxv s₁=>aA (az prog w) A (mo xv) (λit bI=>aA (az prog w) A (newList []) (λiN cG=>aA (az prog w) A (ajK scope env.globals cl [] env.qual ah .none (some env)) (λIJ oh=>
   xg (az prog w) A (.compStart (.ListComp elt [⟨.Name x px,iter,ifs,0⟩] scope pos) 0 it iN {IJ with scope:=relabel scope env}) (RR iN IJ.locals) oh) E cG) E bI) E s₁) E s:=by
 refine aV (H.it hit a).2 (λxv s₁ q=>?_) λ_ _ f=>f.elim;refine yK q λx1 gg OY=>?_;have a1:=a.ext x1 gg;refine aV (kz gg (OY (λit bI=>tR prog w A (dM ag) ι Av vs (λ_=>True) s₁ it bI) λ_ _ z=>z)) (λit bI q=>?_) λ_ _ f=>f.2.elim;refine eA q λpo src=>?_;refine Cy src a1.S.av po (λy hy hc=>by have:=(lJ.all y hy).2.2;replace this:=hc▸this;simp at this) lJ.kind lJ.var Ap ?_ λD C s' m' ys x' zu hn hC hD K6 nS rs hl=>?_
 ·intro D C m v xv' y cG hD x3 Jq hDo hf rv hn hm;refine eE hDo λoD hDo=>?_;have ec:jP ι (D::Av) (Jc scope cl C env) scope.names ((x,v)::σ) cG.heap:=IE lJ M3 ((a1.e.lift hD).ext x3.heap) yy Al hn hm rv;have a3:At ag r n ι (D::Av) st A (Jc scope cl C env) scope.names ((x,v)::σ) cG:=⟨a1.c.ext x3 Jq,a1.S.lift hD x3.heap hDo,ec⟩
  cases Fb:gx P st n scope.names ((x,v)::σ) ifs with
  |none=>rw[Fb]at hf;cases hf
  |some ok=>
   replace hf:=Fb▸hf;simp only[b6]at hf;refine(H.ts Fb a3).go λoh x4 Rf=>⟨x4,Rf,?_⟩
   cases ok with
   |false=>have qq:=au hf;subst qq;rfl
   |true=>
    simp only[if_true]at hf
    cases hel:ay P st n scope.names ((x,v)::σ) elt with
    |none=>rw[hel]at hf;cases hf
    |some u=>
     rw[hel]at hf;cases hf;exact⟨rfl,H.ev hel (a3.ext x4 Rf)⟩
 ·exact hRR D C s' m' ys (x1.trans x') zu hn (x1.heap.size (cq hC)) (x1.heap.size (cq hD)) K6 nS rs hl
theorem ul{e:Expr}(h:∀a b c,e≠.Set a b c)(x:ao):foldedSetIterable e env x=pure x:=by cases e<;>first|rfl|exact bV rfl (h _ _ _)
theorem LA(H:pB prog w ag r P n){elt iter:Expr}{x:Str}{px:Pos}{ifs:List Expr}{scope:jm}{pos:Pos}{vs us:List V}
  (hit:g7 P st n sc σ iter=some vs) (lJ:ta sc scope x) (M3:(eO oQ σ).isNone=aj)
  (Ap:mR (λv=>(gx P st n scope.names ((x,v)::σ) ifs).bind λok=>if ok then(ay P st n scope.names ((x,v)::σ) elt).map some else some af) vs=some us)
  (a:At ag r n ι Av st A env sc σ s) (k:eb (dM ag) ι Av s Q (.lst us)):aA (az prog w) A (et (.ListComp elt [⟨.Name x px,iter,ifs,0⟩] scope pos) env) Q E s:=by
 refine eN (rN lJ a.e) λcl hc yy Al=>?_;rw[eval_ListComp];refine aj8 (use:=ah) rfl (λx=>ul (H.it hit a).1 x) hc lJ.kind (λy hy hl=>((lJ.all y hy).1 hl).2) (w5 (RR:=λiN C=>compPost (az prog w) A E ah Q iN C) H hit lJ M3 Ap a yy Al λD C s' m' ys x' zu hn hC hD K6 nS rs hl=>?_);refine jW m' hn (λh' v8=>?_);refine iw x' λh1 k1 fC hx=>?_;subst fC;refine k _ _ ⟨_,_,rfl,hx.sameBut hC v8⟩ (.lst ?_ ?_ hl ?_)
 ·exact eE nS λnn e=>⟨nn,v8.extBut _ _ K6 e⟩
 ·exact a.S.av.none hD
 ·refine rs.move λb o hb e hd=>⟨hb,v8.extBut b o (λq=>?_) e⟩;refine gN hn λo' es ep l4 j7 _=>mO hd λjk nn hd=>?_;replace e:=q▸e;cases kM e l4;rw[hd]at j7;cases j7
end
section
variable{w:bz}{r:Nat}{s:ai}{n:Nat}{Q:ao->ai->Prop}
theorem eb.tr(k:eb bk ι Av s Q v)(x:ja bk s s'):eb bk ι Av s' Q v:=λw g8 x' r=>k w g8 (x.trans x') r
theorem Ix(H:pB prog w ag r P n)(h:oU P st (n+1) sc σ e=some o)(a:At ag r n ι Av st A env sc σ s):
  aA (az prog w) A (evalPart e env) (λx s'=>ja (dM ag) s s'/\1<=s'.toks/\I8 s'.heap ι Av o x) (λ_ _=>False) s:=by
 rcases e with _|e
 ·exact au h▸aO ⟨.refl _,a.c.tk,rfl⟩
 ·exact fz h λv hv e=>e▸H.ev hv a
theorem Iw(H:pB prog w ag r P n)(h:b3 P st (n+1) sc σ es=some vs)(a:At ag r n ι Av st A env sc σ s):
  eB es/\vs.length=es.length/\∀pos,aA (az prog w) A (t9 (j4 pos (fF es env))) (λws s'=>ja (dM ag) s s'/\1<=s'.toks/\bq s'.heap ι Av vs ws) (λ_ _=>False) s:=by
 rcases es with _|⟨e,rest⟩
 ·exact au h▸⟨.nil,rfl,λpos=>aO ⟨.refl _,a.c.tk,.nil⟩⟩
 ·refine gen λG bP=>?_;have key:(∀x p,e≠.Starred x p)->((ay P st n sc σ e).bind λv=>(b3 P st n sc σ rest).map λvs=>v::vs)=some vs->G:=λhs h=>bK h λv hv h=>fz h λus tF e=>by have q:=H.Ay tF a;subst e;exact bP ⟨q.1.cons hs,congrArg (·+1) q.2.1,λpos=>bT ((H.ev hv a).go λx s1 x1 gg r1=>aV ((H.Ay tF (a.ext x1 gg)).2.2 pos) (λws s2 q=>⟨x1.trans q.1,q.2.1,.cons (r1.ext q.1.heap) q.2.2⟩) λ_ _ f=>f) (j5 hs)⟩
  rcases e with _|_|_|_|_|_|_|_|_|_|_|_|_|_|_|_|_|_|_|_|_|_|_|_|_|_|_<;>first|exact bM h|exact key (zD rfl) h
theorem JG(H:pB prog w ag r P n)(h:gx P st (n+1) sc σ es=some b)(a:At ag r n ι Av st A env sc σ s):Et prog w (dM ag) A (I6 es env) b s:=by
 rcases es with _|⟨e,_|_⟩
 ·exact au h▸wpAny_tests_nil ⟨.refl _,a.c.tk,rfl⟩
 ·exact wpAny_tests_one (H.te h a _ (.inl rfl))
 ·exact bM h
theorem IG(a:At ag r n ι Av st A env sc σ s)(h:jy st op x y=some c)(ra:bZ s.heap ι Av x p)(rb:bZ s.heap ι Av y q)(k:Q (.bool c) s):
  aA (az prog w) A (d9 op p q) Q E s:=uG a.S (by have:=a.c.A8;exact VT this) h ra rb k
theorem DP(H:pB prog w ag r P n)(h:((ay P st n sc σ e).bind xD)=some b)(a:At ag r n ι Av st A env sc σ s)(hw:whole=et e env\/∃op vs p,e=.BoolOp op vs p)(hb:∀op vs p,e≠.BoolOp op vs p)(hi:∀(Q:Bool->ai->Prop),aA (az prog w) A (et e env) (λx s'=>aA (az prog w) A (truthy x) Q (λ_ _=>False) s') (λ_ _=>False) s->aA (az prog w) A (tc e env (et e env)) Q (λ_ _=>False) s):Et prog w (dM ag) A (tc e env whole) b s:=by
 refine bK h λv hv h=>?_;have hw:whole=et e env:=hw.elim id λqz=>wf qz λ_ _ _ q=>(hb _ _ _ q).elim;refine am hw (Et.of a.c.tk λQ k=>hi Q ((H.ev hv a).go λy s1 x1 gg r1=>?_));revert h;rcases v with _|c|_|_|_|_|_|_|_|_<;>try exact bM
 intro h;exact am r1.i1 (xf (au h▸k _ x1))
theorem JM(H:pB prog w ag r P n)(h:bY P st (n+1) sc σ e=some b)(a:At ag r n ι Av st A env sc σ s)(whole:Sem ao)(hw:whole=et e env\/∃op vs p,e=.BoolOp op vs p):
  Et prog w (dM ag) A (tc e env whole) b s:=by
 revert hw;refine Co e λG bP=>?_;revert h;rcases e with⟨op,vs,p⟩|_|_|⟨op,x,p⟩|_|_|_|_|_|_|_|_|_|_|_|⟨l,ops,rs,p⟩|⟨f,args,qm,p⟩|_|_|_|_|_|_|⟨x,p⟩|_|_|_<;>try exact bM
 ·intro h;rcases vs with _|⟨x,rest⟩
  ·rcases op with _|_
   ·exact bP _ λhw=>(au h▸Et.of a.c.tk λQ k=>isTrue_and_nil (k _ (.refl _)))
   ·exact bP _ λhw=>(au h▸Et.of a.c.tk λQ k=>isTrue_or_nil (k _ (.refl _)))
  ·refine bK h λc hc h=>?_;rcases op with _|_
   ·refine bP _ λhw=>(Et.of a.c.tk λQ k=>isTrue_and ((H.te hc a _ (.inl rfl)).go λs1 x1 gg=>?_));rcases c with _|_
    ·have e:=au h;subst e;exact k s1 x1
    ·exact(H.te h (a.ext x1 gg) _ (.inr ⟨_,_,_,rfl⟩)).go λs2 x2 po=>k s2 (x1.trans x2)
   ·refine bP _ λhw=>(Et.of a.c.tk λQ k=>isTrue_or ((H.te hc a _ (.inl rfl)).go λs1 x1 gg=>?_));rcases c with _|_
    ·exact(H.te h (a.ext x1 gg) _ (.inr ⟨_,_,_,rfl⟩)).go λs2 x2 po=>k s2 (x1.trans x2)
    ·have e:=au h;subst e;exact k s1 x1
 ·intro h;rcases op with _|_|_|_<;>try exact bM h
  exact fz h λc hc e=>bP _ λhw=>(e▸Et.of a.c.tk λQ k=>isTrue_not ((H.te hc a _ (.inl rfl)).go λs1 x1 gg=>k s1 x1))
 ·intro h;rcases ops with _|⟨op,_|_⟩<;>rcases rs with _|⟨rr,_|_⟩<;>try exact bM h
  refine OP h λhm h=>bK h λu hu h=>bK h λv hv h=>bP _ λhw=>(Et.of a.c.tk λQ k=>wpAny_isTrue_Compare1 ((H.ev hu a).go λx s1 x1 gg r1=>(H.ev hv (a.ext x1 gg)).go λy s2 x2 po r2=>?_) (by simpa using hm));exact IG ((a.ext x1 gg).ext x2 po) h (r1.ext x2.heap) r2 (xf (k _ (x1.trans x2)))
 ·intro h;exact bP _ λhw=>(DP H h a hw nofun λQ=>WH)
 ·intro h;exact bP _ λhw=>(DP H h a hw nofun λQ=>WH)
theorem TL(H:pB prog w ag r P n)(hv:ay P st n sc σ e=some v)(hi:kD st v=some vs)(a:At ag r n ι Av st A env sc σ s):
  aA (az prog w) A (et e env) (λxv s₁=>ja (dM ag) s s₁/\1<=s₁.toks/\∀Q':ao->ai->Prop,(∀it bI,tR prog w A (dM ag) ι Av vs (λ_=>True) s₁ it bI->Q' it bI)->aA (az prog w) A (mo xv) Q' (λ_ _=>False) s₁) (λ_ _=>False) s:=
 (H.ev hv a).go λx s1 x1 gg r1=>⟨x1,gg,λQ' k=>qn (a.ext x1 gg).S a.c.hh hi r1 λit s2 src=>k it s2 (src.mono λ_ _=>trivial)⟩
theorem ya(h:ay P st n sc σ e=some v):∀a b c,e≠.Set a b c:=λa b c q=>by subst q;rcases n with _|n<;>exact bM h
theorem uT(W:Wd prog w ag mg mb r P)(H:pB prog w ag r P n)(hs:sc.lookup (ar "range")=some .globalImplicit)(hv:ay P st n sc σ e=some (.int k))(h0:0<=k/\k<=1000)(a:At ag r n ι Av st A env sc σ s)
  (hn:∀x p,e≠.Starred x p):
  aA (az prog w) A (et (.Call (.Name (ar "range") p) [e] [] p') env) (λxv s₁=>ja (dM ag) s s₁/\1<=s₁.toks/\∀Q':ao->ai->Prop,(∀it bI,tR prog w A (dM ag) ι Av (oq k.toNat) B s₁ it bI->Q' it bI)->aA (az prog w) A (mo xv) Q' (λ_ _=>False) s₁) (λ_ _=>False) s:=by
 refine iW (iG W a (by decide+kernel) Boot.range hs ?_);refine g5 (.inr ⟨_,rfl⟩) (eB.nil.cons hn) (bT ((H.ev hv a).go λx s1 x1 gg r1=>eH ?_) (j5 hn))
 cases r1 with
 |int _ t=>
  refine aV (kz gg (Eg (bk:=dM ag) (ι:=ι) (Av:=Av) (B:=B) (Q:=λr bI=>ja (dM ag) s1 bI/\∀Q':ao->ai->Prop,(∀it cG,tR prog w A (dM ag) ι Av (oq k.toNat) B bI it cG->Q' it cG)->aA (az prog w) A (mo r) Q' (λ_ _=>False) bI) (E:=λ_ _=>False) a.c.hh h0.1 h0.2 λr s2 x2 hk=>⟨x2,λQ' kk=>hk _ Q' kk⟩)) (λr s2 q=>⟨x1.trans q.2.1,q.1,q.2.2⟩) λ_ _ f=>f.2
theorem uf{G:Prop}(h:ay P st n sc σ (.Starred x p)=some v):G:=by rcases n with _|n<;>exact bM h
theorem HG(W:Wd prog w ag mg mb r P)(H:pB prog w ag r P n){p p':Pos}{vs:List V}(hx:x=ar "range")(h:(if sc.lookup x=some .globalImplicit then(ay P st n sc σ e).bind λv=>match v with
   |.int k=>if 0<=k/\k<=1000 then some (oq k.toNat)else ah
   |_=>ah
  else ah)=some vs) (a:At ag r n ι Av st A env sc σ s):
  aA (az prog w) A (et (.Call (.Name x p) [e] [] p') env) (λxv s₁=>ja (dM ag) s s₁/\1<=s₁.toks/\∀Q':ao->ai->Prop,(∀it bI,tR prog w A (dM ag) ι Av vs (λ_=>True) s₁ it bI->Q' it bI)->aA (az prog w) A (mo xv) Q' (λ_ _=>False) s₁) (λ_ _=>False) s:=by
 subst hx;refine cC h λhs h=>bK h λv hv h=>?_;revert h;rcases v with _|_|k|_|_|_|_|_|_|_<;>try exact bM
 intro h;exact cC h λhk h=>au h▸uT W H hs hv hk a λx p q=>uf (q▸hv)
theorem KC(W:Wd prog w ag mg mb r P)(H:pB prog w ag r P n)(h:g7 P st (n+1) sc σ e=some vs)(a:At ag r n ι Av st A env sc σ s):
  (∀a b c,e≠.Set a b c)/\aA (az prog w) A (et e env) (λxv s₁=>ja (dM ag) s s₁/\1<=s₁.toks/\∀Q':ao->ai->Prop,(∀it bI,tR prog w A (dM ag) ι Av vs (λ_=>True) s₁ it bI->Q' it bI)->aA (az prog w) A (mo xv) Q' (λ_ _=>False) s₁) (λ_ _=>False) s:=by
 refine gen λG bP=>?_;have key:((ay P st n sc σ e).bind (kD st))=some vs->G:=λh=>bK h λv hv h=>bP ⟨ya hv,TL H hv h a⟩;revert h;rcases e with _|_|_|_|_|_|_|_|_|_|_|_|_|_|_|_|⟨f,args,qm,p⟩|_|_|_|_|_|_|_|_|_|_<;>try exact key
 intro h;revert h;rcases f with _|_|_|_|_|_|_|_|_|_|_|_|_|_|_|_|_|_|_|_|_|_|_|⟨x,q⟩|_|_|_<;>try exact key
 intro h;rcases args with _|⟨b,_|_⟩<;>try exact key h
 rcases qm with _|_<;>try exact key h
 exact r9 h (λhx h=>bP ⟨nofun,HG W H hx h a⟩) key
end
section
variable{w:bz}{r:Nat}{s:ai}{n:Nat}{Q:ao->ai->Prop}
theorem NX(H:pB prog w ag r P n){v i:Expr}{p:Pos}{o k u:V}(ho:ay P st n sc σ v=some o)(hk:ay P st n sc σ i=some k)(h:qd st o k=some u)(a:At ag r n ι Av st A env sc σ s)(kk:eb (dM ag) ι Av s Q u):
  aA (az prog w) A (et (.Subscript v i p) env) Q E s:=
 agF ((H.ev ho a).go λx s1 x1 gg r1=>(H.ev hk (a.ext x1 gg)).go λy s2 x2 po r2=>Bm ((a.ext x1 gg).ext x2 po).S h (r1.ext x2.heap) r2 (kk.tr (x1.trans x2)))
theorem He{h h':ca}(x:eu (dM ag) h h'){o:Option V}{v:ao}(r:I8 h ι Av o v):I8 h' ι Av o v:=by
 rcases o with _|u
 ·exact r
 ·exact bZ.ext x r
theorem wJ{h:ca}{o:Option V}{v:ao}{i:Option Int}(r:I8 h ι Av o v)(e:tE o=some i):pC i v:=by
 rcases o with _|u
 ·exact wS (o:=ah) (h:=h) (ι:=ι) (Av:=Av) r e
 ·exact wS (o:=some u) (h:=h) (ι:=ι) (Av:=Av) r e
theorem GM(H:pB prog w ag r P n){v:Expr}{lo hi:Option Expr}{p q:Pos}{o u:V}{a' b':Option V}{i j:Option Int}(ho:ay P st n sc σ v=some o)(hl:oU P st n sc σ lo=some a')(hh:oU P st n sc σ hi=some b')
  (Fd:tE a'=some i) (hj:tE b'=some j) (h:xF st o i j=some u) (a:At ag r n ι Av st A env sc σ s) (kk:eb (dM ag) ι Av s Q u):
  aA (az prog w) A (et (.Subscript v (.Slice lo hi ah q) p) env) Q E s:=by
 refine agF ((H.ev ho a).go λx s1 x1 gg r1=>?_);have a1:=a.ext x1 gg;refine wpAny_Slice (aV (H.evO hl a1) (λl s2 q2=>?_) λ_ _ f=>f.elim);have a2:=a1.ext q2.1 q2.2.1;refine aV (H.evO hh a2) (λu' s3 q3=>?_) λ_ _ f=>f.elim;have a3:=a2.ext q3.1 q3.2.1;exact wpAny_evalPart_none (xE a3.S h (r1.ext (q2.1.trans q3.1).heap) (wJ (He q3.1.heap q2.2.2) Fd) (wJ q3.2.2 hj) (kk.tr ((x1.trans q2.1).trans q3.1)))
theorem E8(W:Wd prog w ag mg mb r P)(H:pB prog w ag r P n){e:Expr}{p q pos:Pos}{vs:List V}(hs:sc.lookup (ar "isinstance")=some .globalImplicit)(ht:sc.lookup (ar "tuple")=some .globalImplicit)
  (hv:ay P st n sc σ e=some (.tup vs)) (a:At ag r n ι Av st A env sc σ s) (k:eb (dM ag) ι Av s Q (.bool aj)):
  aA (az prog w) A (et (.Call (.Name (ar "isinstance") p) [e,.Name (ar "tuple") q] [] pos) env) Q E s:=by
 have hn:∀x p,e≠.Starred x p:=λx p q=>uf (q▸hv);refine iW (iG W a (by decide+kernel) aqz hs ?_);refine g5 (.inl ⟨_,rfl⟩) ((eB.nil.cons λ_ _ q=>by exact b5 q).cons hn) (bT ((H.ev hv a).go λx s1 x1 gg r1=>?_) (j5 hn));refine bT (iG W (a.ext x1 gg) (by decide+kernel) Boot.tuple ht (eH ?_));exact r1.e5 λ_ _ hT _ _ _=>IsiPair.tuple_tuple hT.choose_spec.1 hT.choose_spec.2.1 (k _ _ x1 (.bool _))
theorem BJ(H:pB prog w ag r P n){o:Expr}{ap cp:Pos}{args:List Expr}{ov v:V}{m:Str}(hm:m=ar "replace")(h1:ft o=aj)(h2:(ap.endLine==cp.line)=aj)
  (h:(match args with
   |[.Constant (.str y) _ _,.Constant (.str z) _ _]=>match ov with
    |.str x=>if x.length<=1048576/\y.length<=14/\z.length<=14/\y≠z then some (.str (rT x y z))else ah
    |_=>ah
   |_=>ah)=some v) (Fc:ay P st n sc σ o=some ov) (a:At ag r n ι Av st A env sc σ s) (k:eb (dM ag) ι Av s Q v):
  aA (az prog w) A (et (.Call (.Attribute o m ap) args [] cp) env) Q E s:=by
 refine gen λG bP=>?_;rcases args with _|⟨e,rr⟩
 ·exact bM h
 revert h;rcases e with _|_|_|_|_|_|_|_|_|_|_|_|_|_|_|_|_|_|_|⟨c,k1,p1⟩|_|_|_|_|_|_|_<;>try exact bM
 intro h;revert h;rcases c with _|_|_|_|_|y|_|_<;>try exact bM
 intro h;rcases rr with _|⟨e,rr⟩
 ·exact bM h
 revert h;rcases e with _|_|_|_|_|_|_|_|_|_|_|_|_|_|_|_|_|_|_|⟨c,k2,p2⟩|_|_|_|_|_|_|_<;>try exact bM
 intro h;revert h;rcases c with _|_|_|_|_|z|_|_<;>try exact bM
 intro h;rcases rr with _|_
 ·revert h;rcases ov with _|_|_|_|x|_|_|_|_|_<;>try exact bM
  intro h;exact cC h λhc h=>bP (hm▸xX h1 h2 H Fc a hc.1 hc.2.1 hc.2.2.1 hc.2.2.2 (au h▸k))
 ·exact bM h
theorem LP(W:Wd prog w ag mg mb r P)(H:pB prog w ag r P n){o:Expr}{ap cp:Pos}{args:List Expr}{v:V}{m:Str}(h:ay P st (n+1) sc σ (.Call (.Attribute o m ap) args [] cp)=some v)(a:At ag r n ι Av st A env sc σ s)(k:eb (dM ag) ι Av s Q v):
  aA (az prog w) A (et (.Call (.Attribute o m ap) args [] cp) env) Q E s:=by
 refine gen λG bP=>OP h λhc h=>bK h λov Fc h=>?_;simp only[iu,fH,not_or,akt]at hc;refine r9 h (λhm h=>bP (BJ H hm hc.1.1 hc.1.2 h Fc a k)) λh=>bK h λvs g' h=>?_;have key:nE st ov m vs=some v->G:=λh=>bP (wO hc.1.1 hc.1.2 (bG hc.2) H g' Fc a (λx s1 a1 r1=>zp a1.S a.c.hh (by have:=a.c.A8;exact VT this) h r1) k);revert h;rcases ov with _|_|_|_|_|_|_|_|_|_<;>try exact key
 intro h;exact bP (wO hc.1.1 hc.1.2 (bG hc.2) H g' Fc a (λx s1 a1 r1=>r1.e8 (W.fm _ _ _ _ h ι Av st A s1 (a1.c.less (bo _)) a1.S)) k)
theorem OI(W:Wd prog w ag mg mb r P)(H:pB prog w ag r P n){x:Str}{p cp:Pos}{args:List Expr}{v:V}(hx:x=ar "isinstance")
  (h:(match args with
   |[e,.Name t _]=>if t=ar "tuple"/\sc.lookup x=some .globalImplicit/\sc.lookup t=some .globalImplicit then
     (ay P st n sc σ e).bind λv=>match v with
      |.tup _=>some (.bool aj)
      |_=>ah
     else ah
   |_=>ah)=some v) (a:At ag r n ι Av st A env sc σ s) (k:eb (dM ag) ι Av s Q v):
  aA (az prog w) A (et (.Call (.Name x p) args [] cp) env) Q E s:=by
 refine gen λG bP=>?_;rcases args with _|⟨e,_|⟨e2,rr⟩⟩
 ·exact bM h
 ·exact bM h
 revert h;rcases e2 with _|_|_|_|_|_|_|_|_|_|_|_|_|_|_|_|_|_|_|_|_|_|_|⟨t,q⟩|_|_|_<;>try exact bM
 intro h;rcases rr with _|_
 ·refine cC h λhc h2=>bK h2 λu hu h3=>?_;revert h3;rcases u with _|_|_|_|_|us|_|_|_|_<;>try exact bM
  intro h3;refine yK hc λe1 q1 q2=>?_;clear h h2;subst hx e1;exact bP (E8 W H q1 q2 hu a (au h3▸k))
 ·exact bM h
theorem Il(W:Wd prog w ag mg mb r P)(H:pB prog w ag r P n){x:Str}{p cp:Pos}{args:List Expr}{v:V}
  (h:((fY P sc σ x).bind λf=>(b3 P st n sc σ args).bind λvs=>match f with
   |.obj a=>P.Fa a vs
   |_=>ah)=some v) (a:At ag r n ι Av st A env sc σ s) (k:eb (dM ag) ι Av s Q v):
  aA (az prog w) A (et (.Call (.Name x p) args [] cp) env) Q E s:=by
 refine gen λG bP=>bK h λf hf h=>bK h λvs g' h=>?_;revert h;rcases f with _|_|_|_|_|_|_|_|_|_<;>try exact bM
 intro h;exact bP (iW (cM (n:=1) a.c.tk (gY W a hf λw' s' x' r' zu=>r'.e8 (D2 W H g' h (a.ext x' zu) (k.tr x')))))
theorem Ht(W:Wd prog w ag mg mb r P)(H:pB prog w ag r P n){x:Str}{p cp:Pos}{args:List Expr}{v:V}(h:ay P st (n+1) sc σ (.Call (.Name x p) args [] cp)=some v)(a:At ag r n ι Av st A env sc σ s)(k:eb (dM ag) ι Av s Q v):
  aA (az prog w) A (et (.Call (.Name x p) args [] cp) env) Q E s:=by
 refine gen λG bP=>r9 h (λhx h=>bP (OI W H hx h a k)) λh=>?_;have key:∀(o:Option mU) (g:Option V),sc.lookup x=o->P.G x=g->(match o,g with
   |some .globalImplicit,ah=>if x∈lA then(b3 P st n sc σ args).bind λvs=>fk st x vs else ah
   |_,_=>(fY P sc σ x).bind λf=>(b3 P st n sc σ args).bind λvs=>match f with
    |.obj a=>P.Fa a vs
    |_=>ah)=some v->G:=λo g hs hg h=>by
  rcases o with _|o
  ·exact bP (Il W H h a k)
  ·rcases o with _|_|_|_|_|_<;>try exact bP (Il W H h a k)
   rcases g with _|g<;>try exact bP (Il W H h a k)
   refine cC h λhb h=>bK h λvs g' h=>cW (CJ hb) λc hc hty=>?_;refine bP (iW (iG W a hb hc hs (g5 hty (H.Ay g' a).1 (H.tX g' a λws s1 x1 gg rs=>?_))));refine eN (zr (E:=E) (Q:=Q) W.sr (a.ext x1 gg).S a.c.hh (by have:=a.c.A8;exact VT this) h rs (k.tr x1)) λc' uk _ hq=>?_;exact(au (uk.symm.trans hc))▸hq
 exact key _ _ rfl rfl h
theorem CH(W:Wd prog w ag mg mb r P)(H:pB prog w ag r P n){fa fb:Expr}{fc cp:Pos}{args:List Expr}{v:V}(h:ay P st (n+1) sc σ (.Call (.Subscript fa fb fc) args [] cp)=some v)(a:At ag r n ι Av st A env sc σ s)(k:eb (dM ag) ι Av s Q v):
  aA (az prog w) A (et (.Call (.Subscript fa fb fc) args [] cp) env) Q E s:=by
 refine gen λG bP=>bK h λf hf h=>bK h λvs g' h=>?_;revert h;rcases f with _|_|_|_|_|_|_|_|_|_<;>try exact bM
 intro h;exact bP (I' ((H.ev hf a).go λx s1 x1 gg r1=>r1.e8 (D2 W H g' h (a.ext x1 gg) (k.tr x1))))
theorem IF(H:pB prog w ag r P n){elt:Expr}{gens:List NE}{scope:jm}{p:Pos}{v:V}(h:ay P st (n+1) sc σ (.ListComp elt gens scope p)=some v)(a:At ag r n ι Av st A env sc σ s)(k:eb (dM ag) ι Av s Q v):
  aA (az prog w) A (et (.ListComp elt gens scope p) env) Q E s:=by
 refine gen λG bP=>?_;rcases gens with _|⟨⟨tg,it,ifs,asy⟩,_|_⟩
 ·exact bM h
 ·revert h;rcases tg with _|_|_|_|_|_|_|_|_|_|_|_|_|_|_|_|_|_|_|_|_|_|_|⟨x,q⟩|_|_|_<;>try exact bM
  intro h;refine cC h λhc h=>bK h λvs g' h=>fz h λus tF e=>?_;have h1:=hc.1;dsimp only at h1;subst h1;exact bP (LA H g' (w6 hc.2.1) hc.2.2 tF a (e▸k))
 ·exact bM h
theorem JP(H:pB prog w ag r P n){o i:Expr}{p:Pos}{v:V}(h:ay P st (n+1) sc σ (.Subscript o i p)=some v)(a:At ag r n ι Av st A env sc σ s)(k:eb (dM ag) ι Av s Q v):
  aA (az prog w) A (et (.Subscript o i p) env) Q E s:=by
 refine gen λG bP=>?_;have key:((ay P st n sc σ o).bind λo=>(ay P st n sc σ i).bind λk=>qd st o k)=some v->G:=λh=>bK h λo ho h=>bK h λu hu h=>bP (NX H ho hu h a k);revert h;rcases i with _|_|_|_|_|_|_|_|_|_|_|_|_|_|_|_|_|_|_|_|_|_|_|_|_|_|⟨lo,hi,step,q⟩<;>try exact key
 intro h;rcases step with _|_
 ·exact bK h λo ho h=>bK h λa' ha h=>bK h λb' hb h=>bK h λi hi h=>bK h λj hj h=>bP (GM H ho ha hb hi hj h a k)
 ·exact bM h
theorem Ln(W:Wd prog w ag mg mb r P)(H:pB prog w ag r P n){e:Expr}{v:V}(h:ay P st (n+1) sc σ e=some v)(a:At ag r n ι Av st A env sc σ s):Ev prog w (dM ag) ι Av A (et e env) v s:=by
 refine Ev.of a.c.tk λQ k=>Co e λG bP=>?_;revert h;rcases e with _|_|⟨l,op,rr,p⟩|⟨op,x,p⟩|_|⟨t,b,o,p⟩|_|_|⟨elt,gens,scope,p⟩|_|_|_|_|_|_|⟨l,ops,rs,p⟩|⟨f,args,qm,p⟩|_|_|⟨c,kk,p⟩|_|⟨o,i,p⟩|_|⟨x,p⟩|⟨es,p⟩|⟨es,kk,p⟩|_<;>try exact bM
 case BinOp=>
  intro h;exact bK h λx hx h=>bK h λy hy h=>bP _ (wpAny_BinOp ((H.ev hx a).go λp s1 x1 gg r1=>(H.ev hy (a.ext x1 gg)).go λq s2 x2 po r2=>Bo a.c.hh ((a.ext x1 gg).ext x2 po).S.av h (r1.ext x2.heap) r2 (k.tr (x1.trans x2))))
 case UnaryOp=>
  intro h;rcases op with _|_|_|_<;>try exact bM h
  refine bK h λx hx h=>?_;rcases x with _|_|i|_|_|_|_|_|_|_<;>try exact bM h
  exact bP _ (PyProof.Rows.UnaryOp_ ((H.ev hx a).go λp s1 x1 gg r1=>r1.e2 λ_=>PyProof.Rows.neg_int (rp (au h▸k.tr x1))))
 case IfExp=>
  intro h;refine bK h λc hc h=>bP _ (PyProof.Rows.IfExp_ ((H.te hc a _ (.inl rfl)).go λs1 x1 gg=>?_));rcases c with _|_
  ·exact(H.ev h (a.ext x1 gg)).go λp s2 x2 po r2=>k p s2 (x1.trans x2) r2
  ·exact(H.ev h (a.ext x1 gg)).go λp s2 x2 po r2=>k p s2 (x1.trans x2) r2
 case ListComp=>intro h;exact bP _ (IF H h a k)
 case Compare=>
  intro h;rcases ops with _|⟨op,_|_⟩<;>rcases rs with _|⟨rr,_|_⟩<;>try exact bM h
  exact OP h λhm h=>bK h λx hx h=>bK h λy hy h=>fz h λc hc e=>bP _ (wpAny_Compare1 ((H.ev hx a).go λp s1 x1 gg r1=>(H.ev hy (a.ext x1 gg)).go λq s2 x2 po r2=>IG ((a.ext x1 gg).ext x2 po) hc (r1.ext x2.heap) r2 ((e▸k) _ _ (x1.trans x2) (.bool _))) (by simpa using hm))
 case Call=>
  intro h;rcases qm with _|_
  ·rcases f with _|_|_|_|_|_|_|_|_|_|_|_|_|_|_|_|_|_|_|_|_|_|_|_|_|_|_<;>first|exact bM h|exact bP _ (LP W H h a k)|exact bP _ (Ht W H h a k)|exact bP _ (CH W H h a k)
  ·exact bM h
 case Constant=>intro h;exact bP _ (AI h k)
 case Subscript=>intro h;exact bP _ (JP H h a k)
 case Name=>intro h;exact bP _ (gY W a h k)
 case List=>
  intro h;refine cC h λhl h=>fz h λvs g' e=>bP _ (ale (H.tX g' a λws s1 x1 gg rs=>?_));have hz:=bq.take1 rs (by have:=(H.Ay g' a).2.1;exact VU this hl);exact⟨by refine am bC ?_;exact hz,(e▸k) _ _ (x1.trans (.push _)) (jf (a.ext x1 gg).S.av rs hz)⟩
 case Tuple=>
  intro h;refine cC h λhl h=>fz h λvs g' e=>bP _ (mn (H.tX g' a λws s1 x1 gg rs=>?_));have hz:=bq.take1 rs (by have:=(H.Ay g' a).2.1;exact VU this hl);exact⟨by refine am bC ?_;exact hz,(e▸k) _ _ (x1.trans (.push _)) (ll (a.ext x1 gg).S.av rs hz)⟩
theorem GK:pB prog w ag r P 0:=⟨λh _=>bM h,λh _=>bM h,λh _=>bM h,λh _=>bM h,λh _=>bM h,λh _=>bM h⟩
theorem r7(W:Wd prog w ag mg mb r P):∀n,pB prog w ag r P n
 |0=>GK
 |n+1=>by have H:=r7 W n;exact⟨λh a=>Ln W H h (a.less (iB n)),λh a=>Ix H h (a.less (iB n)),λh a=>Iw H h (a.less (iB n)),λh a=>KC W H h (a.less (iB n)),λh a=>JG H h (a.less (iB n)),λh a wh hw=>JM H h (a.less (iB n)) wh hw⟩
end
theorem lD(x y:Str)(v:V):∀σ:Sg,eO y (ee x v σ)=if y=x then some v else eO y σ
 |[]=>by unfold ee;simp only[eO]
 |(z,u)::r=>by
  unfold ee;by_cases MR:x=z
  ·refine am (aP MR) ?_;simp only[eO];subst MR;by_cases hy:y=x
   ·simp[hy]
   ·simp[hy]
  ·refine am (bg MR) ?_;simp only[eO];by_cases hy:y=z
   ·simp[hy,tM MR]
   ·refine am (bg hy) (am (bg hy) ?_);exact lD x y v r
theorem EZ{ι:List aN}(nd:ι.Nodup){i j:Nat}{a:aN}(hi:ι[i]?=some a)(hj:ι[j]?=some a):i=j:=by
 obtain⟨h1,e1⟩:=aG.mp hi;obtain⟨h2,e2⟩:=aG.mp hj;have p:=kK.mp nd;rcases akm i j with q|q|q
 ·exact bV (e1.trans e2.symm) (p i j h1 h2 q)
 ·exact q
 ·exact bV (e2.trans e1.symm) (p j i h2 h1 q)
section
variable{h:ca}{db:List aN}
theorem bZ.iota(k:∀(l:Nat) a,ι[l]?=mf a->db[l]?=mf a){v w}(r:bZ h ι Av v w):bZ h db Av v w:=r.map ⟨λ_ _ a b=>⟨a,b⟩,λ_ _ a b=>⟨a,b⟩,λ_ _ a b=>⟨a,b⟩,k⟩
theorem bq.iota(k:∀(l:Nat) a,ι[l]?=mf a->db[l]?=mf a){v w}(r:bq h ι Av v w):bq h db Av v w:=r.map ⟨λ_ _ a b=>⟨a,b⟩,λ_ _ a b=>⟨a,b⟩,λ_ _ a b=>⟨a,b⟩,k⟩
end
noncomputable def mY(env:Env):aN->Prop:=λb=>b=env.locals\/∃x,env.cells.lookup x=some b
structure fR(bk:aN->Prop)(X:aN->Prop)(ι Av:List aN)(s:ai)(db df:List aN)(s':ai):Prop where
 pre:∃r,db=ι++r
 sub:∀b∈Av,b∈df
 new:∀b∈df,b∈Av\/s.heap.get? b=ah
 v5:∀b∈db,b∈ι\/s.heap.get? b=ah
 ke:∀b o,s.heap.get? b=some o->b∉ι->¬X b->s'.heap.get? b=some o\/(bk b/\(∃es n,o.data=.dict es n)/\∃sl,s'.heap.get? b=some {o with slots:=sl})
 al:∀b o,s.heap.get? b=some o->∃o',s'.heap.get? b=some o'
 sh:∃h k,s'={s with heap:=h,toks:=k}
theorem fR.c7{bk:aN->Prop}{X:aN->Prop}{ι Av:List aN}{s s':ai}(x:ja bk s s'):fR bk X ι Av s ι Av s':=
 ⟨⟨[],by simp⟩,λ_ h=>h,λ_ h=>.inl h,λ_ h=>.inl h,λb o e _ _=>x.heap b o e,λb o e=>cW (x.heap.some e) λo' h _=>⟨o',h⟩,by refine iw x λh k e _=>?_;exact Cb h k e⟩
theorem fR.trans{bk:aN->Prop}{X:aN->Prop}{ι db QV Av df VB:List aN}{s s' g8:ai}(x:fR bk X ι Av s db df s')(y:fR bk X db df s' QV VB g8):fR bk X ι Av s QV VB g8:=by
 have wN:∀b,s'.heap.get? b=ah->s.heap.get? b=ah:=λb h=>by
  cases e:s.heap.get? b with
  |none=>rfl
  |some o=>refine eE (x.al b o e) λo' h'=>?_;rw[h]at h';cases h'
 refine⟨?_,λb h=>y.sub b (x.sub b h),λb h=>?_,λb h=>?_,λb o e hi hl=>?_,λb o e=>eE (x.al b o e) λo' h=>y.al b o' h,?_⟩
 ·refine eE x.pre λr or=>?_;subst or;refine eE y.pre λr' or=>?_;subst or;exact⟨r++r',by rw[br]⟩
 ·rcases y.new b h with h|h
  ·exact x.new b h
  ·exact .inr (wN b h)
 ·rcases y.v5 b h with h|h
  ·exact x.v5 b h
  ·exact .inr (wN b h)
 ·have Fd:b∉db:=λh=>by
   rcases x.v5 b h with h|h
   ·exact hi h
   ·rw[e]at h;cases h
  rcases x.ke b o e hi hl with e1|⟨h1,⟨es,n,hd⟩,sl,e1⟩
  ·exact y.ke b o e1 Fd hl
  ·rcases y.ke b _ e1 Fd hl with e2|⟨_,_,JW,e2⟩
   ·exact .inr ⟨h1,⟨es,n,hd⟩,sl,e2⟩
   ·exact .inr ⟨h1,⟨es,n,hd⟩,JW,e2⟩
 ·refine mO x.sh λh k fC=>?_;subst fC;refine mO y.sh λh' k' fC=>?_;subst fC;exact Cb h' k' rfl
theorem fR.mono{bk:aN->Prop}{X Y:aN->Prop}{ι db Av df:List aN}{s s':ai}(x:fR bk X ι Av s db df s')(h:∀b,X b->Y b):fR bk Y ι Av s db df s':=⟨x.pre,x.sub,x.new,x.v5,λb o e hi hl=>x.ke b o e hi λq=>hl (h b q),x.al,x.sh⟩
theorem fR.refl{bk:aN->Prop}{X:aN->Prop}{ι Av:List aN}(s:ai):fR bk X ι Av s ι Av s:=.c7 (.refl s)
theorem we{h h' base:ca}(k:∀b o,h.get? b=some o->(∀vs,o.data≠.fields vs)->∃o',h'.get? b=some o'/\∀vs,o'.data≠.fields vs){l:List Env}:h.FunFrames base l->h'.FunFrames base l:=by
 induction l with
 |nil=>exact λ_=>trivial
 |cons env rest IH=>exact λq=>q.2.1.elim λL q1=>q1.elim λo q2=>cW (k L o q2.2.2.1 q2.2.2.2) λo' h1 h2=>⟨q.1,⟨L,o',q2.1,q2.2.1,h1,h2⟩,IH q.2.2⟩
structure Fx(ag:ca)(r n:Nat)(ι Av:List aN)(st:St)(A:b9)(env:Env)(sc:Sc)(σ:Sg)(s:ai):Prop where
 a:At ag r n ι Av st A env sc σ s
 l0:ag.get? env.locals=ah
 c0:∀x c,env.cells.lookup x=some c->ag.get? c=ah
 i0:∀b∈ι,ag.get? b=ah
 ap:∀x y c,env.cells.lookup x=some c->env.cells.lookup y=some c->x=y
 cc:∀x c,env.cells.lookup x=some c->∃im,s.heap.IsCell c im
theorem Fx.ext{ag:ca}{r n:Nat}{ι Av:List aN}{st:St}{A:b9}{env:Env}{sc:Sc}{σ:Sg}{s s':ai}(f:Fx ag r n ι Av st A env sc σ s)(x:ja (dM ag) s s')(tk:1<=s'.toks):Fx ag r n ι Av st A env sc σ s':=
 ⟨f.a.ext x tk,f.l0,f.c0,f.i0,f.ap,λy c h=>eE (f.cc y c h) λim q=>⟨im,x.heap.sI q⟩⟩
theorem Fx.any{ag:ca}{r n m:Nat}{ι Av:List aN}{st:St}{A:b9}{env:Env}{sc:Sc}{σ:Sg}{s:ai}(f:Fx ag r n ι Av st A env sc σ s):Fx ag r m ι Av st A env sc σ s:=
 ⟨f.a.any,f.l0,f.c0,f.i0,f.ap,f.cc⟩
theorem Fx.less{ag:ca}{r n m:Nat}{ι Av:List aN}{st:St}{A:b9}{env:Env}{sc:Sc}{σ:Sg}{s:ai}(f:Fx ag r n ι Av st A env sc σ s)(hm:m<=n):Fx ag r m ι Av st A env sc σ s:=
 ⟨f.a.less hm,f.l0,f.c0,f.i0,f.ap,f.cc⟩
section
variable{r n:Nat}{s:ai}
theorem w9{h h':ca}{b c:aN}{v:Option ao}(hs:dL b h h')(hb:∀o,h.get? b=some o->∀u,o.data≠.cell u)(x:h.IsCell c v):h'.IsCell c v:=by refine cW x λo ho hd=>?_;exact jW o (hs.extBut c o (λq=>by subst q;exact hb o ho _ hd) ho) hd
theorem BS{h:ca}{L:aN}{m:Str->Option ao}(hn:h.Ns L m):∀o,h.get? L=some o->∀u,o.data≠.cell u:=λo e u q=>by refine gN hn λo' es ep l4 j7 _=>?_;cases kM e l4;rw[q]at j7;cases j7
theorem lf.chg{b:aN}{h':ca}{k:Nat}(c:lf ag r n A s)(hs:dL b s.heap h')(hb:ag.get? b=ah)(hnf:∃o',h'.get? b=some o'/\∀vs,o'.data≠.fields vs)(K2:∀o es n,s.heap.get? b=some o->o.data=.dict es n->∃o' es n,h'.get? b=some o'/\o'.data=.dict es n)(tk:1<=k):lf ag r n A {s with heap:=h',toks:=k}:=by
 refine⟨c.hh,c.dep,c.A8,?_,tk,λa o e=>hs.extBut a o (λq=>by replace e:=hb▸q▸e;exact bM e) (c.kp a o e)⟩;refine eN c.fr λl h1 h2 h3=>ml l h1 (we (λa o e hd=>?_) h2) (λe he L hL=>?_)
 ·by_cases q:a=b
  ·refine am q ?_;exact hnf
  ·exact jW o (hs.extBut a o q e) hd
 ·refine l7 (h3 e he L hL) λo es nn h4 h5=>?_;by_cases q:L=b
  ·subst q;exact K2 o es nn h4 h5
  ·exact rz o es nn (hs.extBut L o q h4) h5
theorem fR.chg{bk:aN->Prop}{b:aN}{h':ca}{k:Nat}(hs:dL b s.heap h')(hb:b∈ι\/mY env b)(hl:∃o',h'.get? b=some o'):fR bk (mY env) ι Av s ι Av {s with heap:=h',toks:=k}:=
 ⟨⟨[],by simp⟩,λ_ h=>h,λ_ h=>.inl h,λ_ h=>.inl h,λa o e h1 h2=>.inl (hs.extBut a o (λq=>by
  subst q;exact hb.elim h1 h2) e),λa o e=>by
  by_cases q:a=b
  ·refine am q ?_;exact hl
  ·exact⟨o,hs.extBut a o q e⟩,⟨_,_,rfl⟩⟩
theorem bZ.other{h h':ca}{b:aN}{v:V}{w:ao}(hs:dL b h h')(hb:∀o,h.get? b=some o->∀jk n,o.data≠.seq jk n)(r:bZ h ι Av v w):bZ h' ι Av v w:=
 r.move λa o ha e hd=>⟨ha,hs.extBut a o (λq=>by subst q;refine mO hd λjk n hd=>?_;exact hb o e jk n hd) e⟩
theorem bq.other{h h':ca}{b:aN}{v:List V}{w:List ao}(hs:dL b h h')(hb:∀o,h.get? b=some o->∀jk n,o.data≠.seq jk n)(r:bq h ι Av v w):bq h' ι Av v w:=
 r.move λa o ha e hd=>⟨ha,hs.extBut a o (λq=>by subst q;refine mO hd λjk n hd=>?_;exact hb o e jk n hd) e⟩
theorem kZ.other{h h':ca}{b:aN}(S:kZ ι Av st h)(hs:dL b h h')(hb:∀o,h.get? b=some o->∀jk n,o.data≠.seq jk n)(hl:∃o',h'.get? b=some o'):kZ ι Av st h':=
 ⟨λa ha=>by
  by_cases q:a=b
  ·refine am q ?_;exact hl
  ·refine eE (S.av a ha) λo e=>?_;exact⟨o,hs.extBut a o q e⟩,S.Bb,S.nd,S.len,λl vs q=>by
  refine gen λGG fN=>?_;refine cU (S.at_ l vs q) λa ws h1 F7 h3 h4=>?_;obtain⟨n,h2⟩:=F7;refine fN ?_;exact gM a ws h1 ⟨n,hs.extBut a _ (λq=>by subst q;exact hb _ h2 _ _ rfl) h2⟩ h3 (h4.other hs hb)⟩
theorem kW{h:ca}{L:aN}{m:Str->Option ao}(hn:h.Ns L m):∀o,h.get? L=some o->∀jk n,o.data≠.seq jk n:=λo e jk n q=>by refine gN hn λo' es ep l4 j7 _=>?_;cases kM e l4;rw[q]at j7;cases j7
theorem rk{h:ca}{L:aN}{m:Str->Option ao}(hn:h.Ns L m):∃o',h.get? L=some o'/\∀vs,o'.data≠.fields vs:=by refine gN hn λo' es ep l4 j7 _=>?_;exact jW o' l4 (λvs q=>by rw[q]at j7;cases j7)
theorem kr{h:ca}{c:aN}{v:Option ao}(hn:h.IsCell c v):∀o,h.get? c=some o->∀jk n,o.data≠.seq jk n:=λo e jk n q=>by refine cW hn λo' l4 j7=>?_;cases kM e l4;rw[q]at j7;cases j7
theorem AK{h:ca}{c:aN}{v:Option ao}(hn:h.IsCell c v):∃o',h.get? c=some o'/\∀vs,o'.data≠.fields vs:=by refine cW hn λo' l4 j7=>?_;exact jW o' l4 (λvs q=>by rw[q]at j7;cases j7)
theorem Fx.uQ{x:Str}{v:V}{w:ao}{m:Str->Option ao}{h':ca}{k:Nat}(f:Fx ag r n ι Av st A env sc σ s)(hx:sc.lookup x=some .local)(hn:s.heap.Ns env.locals m)
  (hm:∀y u,sc.lookup y=some .local->eO y σ=some u->∃w,m y=some w/\bZ s.heap ι Av u w) (rv:bZ s.heap ι Av v w)
  (jq:h'.Ns env.locals (λy=>if y=x then some w else m y)) (hs:dL env.locals s.heap h') (tk:1<=k):Fx ag r n ι Av st A env sc (ee x v σ) {s with heap:=h',toks:=k}:=by
 have nq:=kW hn;have no:=rk jq;have ne:=f.a.e;refine⟨⟨f.a.c.chg hs f.l0 no (λ_ _ _ _ _=>by refine gN jq λo' es ep l4 j7 _=>?_;exact rz o' es ep l4 j7) tk,f.a.S.other hs nq (cW no λo h _=>⟨o,h⟩),⟨ne.kind,ne.gl,ne.bu,ne.nm,⟨_,jq,λy u hy hu=>?_⟩,λy hy=>?_,λy u hy hu=>?_⟩⟩,f.l0,f.c0,f.i0,f.ap,λy c h=>eE (f.cc y c h) λim q=>⟨im,w9 hs (BS hn) q⟩⟩
 ·rw[lD]at hu;by_cases q:y=x
  ·cases kM (aP q) hu;exact jW w (by simp[q]) (rv.other hs nq)
  ·replace hu:=(bg q)▸hu;exact cW (hm y u hy hu) λw' h1 h2=>jW w' (by simp[q,h1]) (h2.other hs nq)
 ·refine iw (ne.sS y hy) λc im h1 h2=>jp c im h1 (h2.sameBut hs (λq=>?_));refine cW h2 λo ho hd=>gN hn λo' es ep l4 j7 _=>?_;replace ho:=l4▸q▸ho;have qq:=au ho;subst qq;rw[hd]at j7;cases j7
 ·have q:y≠x:=λq=>by subst q;replace hy:=hx▸hy;rcases hy with hy|hy<;>cases hy
  rw[lD,bg q]at hu;refine c3 (ne.D0 y u hy hu) λc w' h1 h2 h3=>iM c w' h1 (h2.sameBut hs (λq=>?_)) (h3.other hs nq);refine cW h2 λo ho hd=>gN hn λo' es ep l4 j7 _=>?_;replace ho:=l4▸q▸ho;have qq:=au ho;subst qq;rw[hd]at j7;cases j7
theorem Fx.setCell{x:Str}{v:V}{w:ao}{c:aN}{h':ca}{k:Nat}{im:Option ao}(f:Fx ag r n ι Av st A env sc σ s)(hx:sc.lookup x=some .cell)(hc:env.cells.lookup x=some c)(hn:s.heap.IsCell c im)(rv:bZ s.heap ι Av v w)
  (jq:h'.IsCell c (some w)) (hs:dL c s.heap h') (tk:1<=k):Fx ag r n ι Av st A env sc (ee x v σ) {s with heap:=h',toks:=k}:=by
 have nq:=kr hn;have no:=AK jq;have ne:=f.a.e;refine⟨⟨f.a.c.chg hs (f.c0 x c hc) no (λo es nn e1 e2=>by refine cW hn λo' l4 j7=>?_;cases kM e1 l4;rw[e2]at j7;cases j7) tk,f.a.S.other hs nq (cW no λo h _=>⟨o,h⟩),⟨ne.kind,ne.gl,ne.bu,ne.nm,?_,λy hy=>?_,λy u hy hu=>?_⟩⟩,f.l0,f.c0,f.i0,f.ap,λy c' h=>?_⟩
 ·refine cW ne.loc λm h1 h2=>jW m (h1.sameBut hs (λq=>?_)) (λy u hy hu=>?_)
  ·refine cW hn λo ho hd=>gN h1 λo' es ep l4 j7 _=>?_;replace l4:=ho▸q▸l4;have qq:=au l4;subst qq;rw[hd]at j7;cases j7
  ·have q:y≠x:=λq=>by subst q;cases kM hx hy
   rw[lD,bg q]at hu;exact cW (h2 y u hy hu) λw' h3 h4=>jW w' h3 (h4.other hs nq)
 ·refine iw (ne.sS y hy) λc' Bl h1 h2=>?_;by_cases q:c'=c
  ·subst q;exact jp c' _ h1 jq
  ·exact jp c' Bl h1 (h2.sameBut hs q)
 ·rw[lD]at hu;by_cases q:y=x
  ·cases kM (aP q) hu;subst q;exact iM c w hc jq (rv.other hs nq)
  ·replace hu:=(bg q)▸hu;exact c3 (ne.D0 y u hy hu) λc' w' h1 h2 h3=>iM c' w' h1 (h2.sameBut hs (λe=>q (f.ap y x c (e▸h1) hc))) (h3.other hs nq)
 ·refine eE (f.cc y c' h) λBl h2=>?_;by_cases q:c'=c
  ·subst q;exact⟨_,jq⟩
  ·exact⟨Bl,h2.sameBut hs q⟩
theorem Fx.qW{l:Nat}{a:aN}{ws:List ao}{vs:List V}{h':ca}{k:Nat}(f:Fx ag r n ι Av st A env sc σ s)(hl:ι[l]?=some a)(hs:dL a s.heap h')(jq:h'.PlainList a (bl ws))(hz:ws.length<=16777216)
  (rs:bq s.heap ι Av vs ws) (tk:1<=k):Fx ag r n ι Av (fX st l vs) A env sc σ {s with heap:=h',toks:=k}:=by
 have ha:a∈ι:=aX hl;have haA:a∈Av:=f.a.S.Bb a ha;have S:=f.a.S;have ne:=f.a.e;have mv:∀{v:V} {w:ao},bZ s.heap ι Av v w->bZ h' ι Av v w:=λr=>r.move λb o hb e _=>⟨hb,hs.extBut b o (λq=>hb (q▸haA)) e⟩;have Ki:∀{v:List V} {w:List ao},bq s.heap ι Av v w->bq h' ι Av v w:=λr=>r.move λb o hb e _=>⟨hb,hs.extBut b o (λq=>hb (q▸haA)) e⟩;refine eE jq λnn jq=>?_;have gE:l<ι.length:=(aG.mp hl).1;have aea:∃us oo,s.heap.get? a=some oo/\∃mm,oo.data=.seq us mm:=by
  have:l<st.length:=by refine jj S.len ?_;exact gE
  refine gen λGG fN=>?_;refine c3 (S.at_ l st[l] (by simp[this])) λa' kC h1 F7 _=>?_;obtain⟨n',h2⟩:=F7;refine fN ?_;cases kM hl h1;exact TU _ _ h2 _ rfl
 refine Va aea λus oo Ug mm Jv=>?_;refine⟨⟨f.a.c.chg hs (f.i0 a ha) ⟨_,jq,λ_ q=>by exact gR q⟩ (λo es nn e1 e2=>by cases kM e1 Ug;rw[e2]at Jv;cases Jv) tk,⟨λb hb=>?_,S.Bb,S.nd,by unfold fX;refine am pN ?_;exact S.len,λj Qw q=>?_⟩,⟨ne.kind,ne.gl,ne.bu,ne.nm,?_,λy hy=>?_,λy u hy hu=>?_⟩⟩,f.l0,f.c0,f.i0,f.ap,λy c h=>eE (f.cc y c h) λim q=>⟨im,w9 hs (λo e u q=>by cases kM Ug e;rw[Jv]at q;cases q) q⟩⟩
 ·by_cases q:b=a
  ·refine am q ?_;exact⟨_,jq⟩
  ·refine eE (S.av b hb) λo e=>?_;exact⟨o,hs.extBut b o q e⟩
 ·unfold fX at q;by_cases hj:j=l
  ·subst hj;replace q:=(gS (by rw[<-S.len];exact gE))▸q;have qq:=au q;subst qq;exact gM a ws hl ⟨nn,jq⟩ hz (Ki rs)
  ·replace q:=(gw (tM hj))▸q;refine gen λGG fN=>?_;refine cU (S.at_ j Qw q) λa' kC h1 F7 h3 h4=>?_;obtain⟨n',h2⟩:=F7;refine fN ?_;refine gM a' kC h1 ⟨n',hs.extBut a' _ (λe=>?_) h2⟩ h3 (Ki h4);replace h1:=e▸h1;exact hj (EZ S.nd h1 hl)
 ·refine cW ne.loc λm h1 h2=>jW m (h1.sameBut hs (λq=>?_)) (λy u hy hu=>cW (h2 y u hy hu) λw' h3 h4=>⟨w',h3,mv h4⟩);exact kW h1 oo (q▸Ug) _ _ Jv
 ·exact iw (ne.sS y hy) λc' Bl h1 h2=>jp c' Bl h1 (h2.sameBut hs λq=>kr h2 oo (q▸Ug) _ _ Jv)
 ·refine c3 (ne.D0 y u hy hu) λc' w' h1 h2 h3=>iM c' w' h1 (h2.sameBut hs (λq=>?_)) (mv h3);exact kr h2 oo (q▸Ug) _ _ Jv
theorem Fx.grow{vs:List V}{ws:List ao}(f:Fx ag r n ι Av st A env sc σ s)(rs:bq s.heap ι Av vs ws)(hz:ws.length<=16777216):
  Fx ag r n (ι++[s.heap.objs.size]) (s.heap.objs.size::Av) (st++[vs]) A env sc σ {s with heap:=s.heap.push {cls:=.type "list",data:=.seq ws.toArray}}:=by
 have f':=f.ext (.push {cls:=.type "list",data:=.seq ws.toArray}) f.a.c.tk;have hD:s.heap.get? s.heap.objs.size=ah:=cq (aD _);have up:eu (dM ag) s.heap (s.heap.push {cls:=.type "list",data:=.seq ws.toArray}):=.of_keep λ_ _ e=>aQ _ e;have io:∀(l:Nat) a,ι[l]?=some a->(ι++[s.heap.objs.size])[l]?=some a:=λl a e=>by refine am (cZ (aG.mp e).1) ?_;exact e
 have mv:∀{v:V} {w:ao},bZ s.heap ι Av v w->bZ (s.heap.push {cls:=.type "list",data:=.seq ws.toArray}) (ι++[s.heap.objs.size]) (s.heap.objs.size::Av) v w:=λr=>((r.lift hD).ext up).iota io;have Ki:∀{v:List V} {w:List ao},bq s.heap ι Av v w->bq (s.heap.push {cls:=.type "list",data:=.seq ws.toArray}) (ι++[s.heap.objs.size]) (s.heap.objs.size::Av) v w:=λr=>((r.lift hD).ext up).iota io;have ne:=f.a.e;have S:=f.a.S;have hDi:s.heap.objs.size∉ι:=λhm=>S.av.new (S.Bb _ hm);have sK:(s.heap.push {cls:=.type "list",data:=.seq ws.toArray}).get? s.heap.objs.size=some {cls:=.type "list",data:=.seq ws.toArray}:=bN _ rfl;refine⟨⟨f'.a.c,⟨λb hb=>?_,λb hb=>?_,?_,?_,λj us q=>?_⟩,⟨ne.kind,ne.gl,ne.bu,ne.nm,?_,(λy hy=>iw (ne.sS y hy) λc' Bl h1 h2=>⟨c',Bl,h1,up.sI h2⟩),λy u hy hu=>?_⟩⟩,f.l0,f.c0,λb hb=>?_,f.ap,λy c h=>eE (f.cc y c h) λim q=>⟨im,up.sI q⟩⟩
 ·rcases ax.mp hb with rfl|hb
  ·exact⟨_,sK⟩
  ·exact S.av.ext up b hb
 ·rcases bU.mp hb with hb|hb
  ·exact gv _ (S.Bb b hb)
  ·refine am (bh.mp hb) ?_;exact eV
 ·refine ako.mpr ⟨S.nd,lN.mpr ⟨by simp,fG⟩,λa ha b hb=>?_⟩;exact am (bh.mp hb) (λq=>hDi (q▸ha))
 ·refine am aE (am aE (am S.len ?_));rfl
 ·by_cases hj:j<st.length
  ·replace q:=(cZ hj)▸q;exact cU (S.at_ j us q) λa kC h1 h2 h3 h4=>gM a kC (io _ _ h1) (up.iF h2) h3 (Ki h4)
  ·replace q:=(d7 (ak hj))▸q;have:j=st.length:=by have:=(aG.mp q).1;simp at this;exact o54 this hj
   subst this;simp at q;subst q;refine gM _ ws ?_ ⟨_,sK⟩ hz (Ki rs);refine jj S.len (am (d7 (aD _)) ?_);simp
 ·exact cW ne.loc λm h1 h2=>jW m (up.ns h1) (λy u hy hu=>cW (h2 y u hy hu) λw' h3 h4=>⟨w',h3,mv h4⟩)
 ·exact c3 (ne.D0 y u hy hu) λc' w' h1 h2 h3=>iM c' w' h1 (up.sI h2) (mv h3)
 ·rcases bU.mp hb with hb|hb
  ·exact f.i0 b hb
  ·refine am (bh.mp hb) ?_
   cases e:ag.get? s.heap.objs.size with
   |none=>rfl
   |some o=>have:=f.a.c.kp _ o e;rw[hD]at this;cases this
theorem fR.grow{bk:aN->Prop}{X:aN->Prop}(o:Obj):fR bk X ι Av s (ι++[s.heap.objs.size]) (s.heap.objs.size::Av) {s with heap:=s.heap.push o}:=by
 have hD:s.heap.get? s.heap.objs.size=ah:=cq (aD _);refine⟨⟨_,rfl⟩,λ_ h=>gv _ h,λb hb=>?_,λb hb=>?_,λb o e _ _=>.inl (aQ _ e),λb o e=>⟨o,aQ _ e⟩,⟨_,_,rfl⟩⟩
 ·rcases ax.mp hb with rfl|hb
  ·exact .inr hD
  ·exact .inl hb
 ·rcases bU.mp hb with hb|hb
  ·exact .inl hb
  ·refine am (bh.mp hb) ?_;exact .inr hD
theorem fR.seq{bk:aN->Prop}{db df:List aN}{s':ai}(x:fR bk (mY env) ι Av s db df s')(f:Fx ag r n ι Av st A env sc σ s){a:aN}{o:Obj}(ha:a∉Av)(e:s.heap.get? a=some o)(hd:∃jk n,o.data=.seq jk n):a∉df/\s'.heap.get? a=some o:=by
 refine mO hd λjk nn hd=>⟨λh=>?_,?_⟩
 ·rcases x.new a h with h|h
  ·exact ha h
  ·rw[e]at h;cases h
 ·refine cW f.a.e.loc λm hn _=>?_;rcases x.ke a o e (λh=>ha (f.a.S.Bb a h)) (by
   rintro (q|⟨y,hy⟩)
   ·exact kW hn o (q▸e) _ _ hd
   ·exact eE (f.cc y a hy) λim hc=>kr hc o e _ _ hd)with h|⟨_,⟨es,k,j7⟩,_⟩
  ·exact h
  ·rw[hd]at j7;cases j7
theorem fR.io{bk:aN->Prop}{db df:List aN}{s':ai}(x:fR bk (mY env) ι Av s db df s')(l:Nat)(a:aN)(h:ι[l]?=some a):db[l]?=some a:=by refine eE x.pre λr or=>?_;subst or;refine am (cZ (aG.mp h).1) ?_;exact h
theorem bZ.fy{bk:aN->Prop}{db df:List aN}{s':ai}(x:fR bk (mY env) ι Av s db df s')(f:Fx ag r n ι Av st A env sc σ s){v:V}{w:ao}(q:bZ s.heap ι Av v w):bZ s'.heap db df v w:=
 (q.move λa o ha e hd=>x.seq f ha e hd).iota x.io
theorem bq.fy{bk:aN->Prop}{db df:List aN}{s':ai}(x:fR bk (mY env) ι Av s db df s')(f:Fx ag r n ι Av st A env sc σ s){v:List V}{w:List ao}(q:bq s.heap ι Av v w):bq s'.heap db df v w:=
 (q.move λa o ha e hd=>x.seq f ha e hd).iota x.io
end
section
variable{w:bz}{s:ai}
theorem sw{h:ca}{a:aN}{ws kC:List ao}{n:Nat}{f:Array ao->Array ao}(ho:h.get? a=some {cls:=.type "list",data:=.seq ws.toArray n})(e:f ws.toArray=kC.toArray):(h.update a (dH f)).PlainList a kC.toArray:=by have q:=PySem.IsL.update ho f;rw[e]at q;exact⟨_,q⟩
theorem zM{a:aN}{ws:List ao}{k:Int}{t:Tok}{v:ao}{Q:Unit->ai->Prop}(hl:s.heap.PlainList a ws.toArray)(h0:0<=k)(h1:k<ws.length)(hz:ws.length<=16777216)
  (h:∀h',dL a s.heap h'->h'.PlainList a (bl (ws.set k.toNat v))->Q () {s with heap:=h'}):aA (az prog w) A (setItem (.ref a) (.int k t) v) Q E s:=by
 refine eE hl λn ho=>ki_setAt ho h0 (ZD h1 hz) (by simpa using h1) (h _ (Mc ..) (sw ho (by simp)))
theorem AV{a:aN}{ws:List ao}{v:ao}{Q:ao->ai->Prop}(hl:s.heap.PlainList a ws.toArray)(hz:ws.length<=16777216)
  (h:∀h',dL a s.heap h'->h'.PlainList a (bl (ws++[v]))->Q .none {s with heap:=h'}):aA (az prog w) A (call (.builtin "list.append") [.ref a,v]) Q E s:=by
 refine eE hl λn ho=>?_;exact append_at (hsz:=by refine am bD ?_;refine am bC ?_;exact hz) ho λh' hs hD=>h h' hs ⟨_,by rw[hD,akn]⟩
theorem z8{a:aN}{ws:List ao}{k:Int}{t:Tok}{v:ao}{Q:ao->ai->Prop}(hl:s.heap.PlainList a ws.toArray)(h0:0<=k)(h1:k<=ws.length)(hz:ws.length<=16777216)
  (h:∀h',dL a s.heap h'->h'.PlainList a (bl (ws.take k.toNat++v::ws.drop k.toNat))->Q .none {s with heap:=h'}):aA (az prog w) A (call (.builtin "list.insert") [.ref a,.int k t,v]) Q E s:=by
 refine eE hl λn ho=>?_;refine qG aer ⟨_,ho,rfl⟩ PySem.F.entry_list_insert (PySem.F.args_list_insert_3 _ _ _)
  (an6 a _ n k t v (by unfold Builtin.List.listFitsIndex;simp;exact ZC h0 h1 hz) (by refine am bD (am bC ?_);exact hz)) ⟨ho,h _ (Mc ..) (sw ho ?_)⟩
 have e:(ws.toArray.extract 0 (if k<0 then(k+(ws.toArray.size:Int)).toNat else min k.toNat ws.toArray.size)).push v++ws.toArray.extract (if k<0 then(k+(ws.toArray.size:Int)).toNat else min k.toNat ws.toArray.size)=(ws.take k.toNat++v::ws.drop k.toNat).toArray:=by refine am (bg (o95 h0)) (am (jD (by rw[bD];exact ZB h1)) ?_);exact kl_ins_eq ws k.toNat v
 exact e
theorem Ax{a b:aN}{ws us:List ao}{Q:ao->ai->Prop}(hl:s.heap.PlainList a ws.toArray)(hb:s.heap.get? b=some {cls:=.type "tuple",data:=.seq us.toArray})(hz:ws.length+us.length<=16777216)
  (h:∀h',dL a s.heap h'->h'.PlainList a (bl (ws++us))->Q .none {s with heap:=h'}):aA (az prog w) A (call (.builtin "list.extend") [.ref a,.ref b]) Q E s:=by
 refine eE hl λn ho=>?_;have OS:ws.toArray.size+us.toArray.size<=vP:=by refine am bD (am bD (am bC ?_));exact hz
 refine qG aes ⟨_,ho,rfl⟩ PySem.F.entry_list_extend (PySem.F.args_list_extend_2 _ _)
  (an7 a _ n b us.toArray 0 (extend_door OS) (aM (Nat.le_add_right _ _) OS) (jQ OS)) ⟨ho,hb,h _ (Mc ..) (sw ho (by simp))⟩
end
theorem bq.set{h:ca}{ι Av:List aN}{vs:List V}{ws:List ao}(r:bq h ι Av vs ws)(k:Nat){v:V}{w:ao}(rv:bZ h ι Av v w):bq h ι Av (vs.set k v) (ws.set k w):=by
 induction vs generalizing ws k with
 |nil=>exact r.e0 .nil
 |cons u vs ih=>
  refine r.e1 λw' kC a b=>?_;rcases k with _|k
  ·exact .cons rv b
  ·exact .cons a (ih b k)
section
variable{w:bz}{r:Nat}{s:ai}{n:Nat}
theorem Ft(e:jP ι Av env sc σ s.heap):(env.scope.kind==.class||(env.scope.kind==.module&&env.locals !=env.globals))=an:=by refine am e.kind ?_;rfl
theorem kb{x:Str}{v:V}{u:ao}{Q:Unit->ai->Prop}(f:Fx ag r n ι Av st A env sc σ s)(rv:bZ s.heap ι Av v u)(hx:g4 sc x=aj)
  (k:∀s',Fx ag r n ι Av st A env sc (ee x v σ) s'->fR (dM ag) (mY env) ι Av s ι Av s'->Q () s'):aA (az prog w) A (storeName env x u) Q E s:=by
 unfold g4 at hx;simp only[iu,cw,decide_eq_true_eq]at hx;rcases hx with hx|hx
 ·have hk:env.kindOf x=some .local:=(f.a.e.nm x _ hx).elim id λq=>nomatch q.1;refine cW f.a.e.loc λm hn hm=>pY hk hn (λh' jq hs=>?_) (Ft f.a.e);exact k _ (f.uQ hx hn hm rv jq hs (jQ f.a.c.tk)) (.chg hs (.inr (.inl rfl)) (cW (rk jq) λo h _=>⟨o,h⟩))
 ·have hk:env.kindOf x=some .cell:=(f.a.e.nm x _ hx).elim id λq=>nomatch q.1;refine iw (f.a.e.sS x (.inl hx)) λc im hc hv=>wpAny_storeName_cell f.a.e.kind hk hc hv λh' MS hs=>?_;exact k _ (f.setCell hx hc hv rv MS hs f.a.c.tk) (.chg hs (.inr (.inr ⟨x,hc⟩)) (cW (AK MS) λo h _=>⟨o,h⟩))
theorem CL{t:Expr}{ts:List Expr}{vs:List V}{σ cR:Sg}{G:Prop}(h:vG sc (t::ts) vs σ=some cR)(k:∀x p v El,t=.Name x p->vs=v::El->g4 sc x=aj->vG sc ts El (ee x v σ)=some cR->G):G:=by
 revert h;rcases t with _|_|_|_|_|_|_|_|_|_|_|_|_|_|_|_|_|_|_|_|_|_|_|⟨x,p⟩|_|_|_<;>try exact bM
 intro h;rcases vs with _|⟨v,vs⟩
 ·exact bM h
 ·exact cC h λhc h=>k x p v vs rfl rfl hc h
theorem BQ(ts:List Expr):∀(vs:List V) (σ cR:Sg),vG sc ts vs σ=some cR->(vQ ts env).length=vs.length/\(vQ ts env).findIdx? (·.1)=ah:=by
 induction ts with
 |nil=>
  intro vs σ cR h;rcases vs with _|⟨v,vs⟩
  ·exact⟨rfl,rfl⟩
  ·exact bM h
 |cons t ts ih=>
  intro vs σ cR h;refine CL h λx p v El e1 e2 hc h2=>?_;subst e1 e2;refine eA (ih El _ _ h2) λh1 h2=>⟨congrArg (·+1) h1,?_⟩;show List.findIdx? _ ((an,qH (.Name x p) env)::vQ ts env)=ah;refine am (akd) ?_;simp[h2]
theorem BP(ts:List Expr):∀(vs:List V) (us:List ao) (σ cR:Sg) (s:ai) (Q:Unit->ai->Prop),vG sc ts vs σ=some cR->Fx ag r n ι Av st A env sc σ s->bq s.heap ι Av vs us->
  (∀s',Fx ag r n ι Av st A env sc cR s'->fR (dM ag) (mY env) ι Av s ι Av s'->Q () s')->aA (az prog w) A (assignInOrder ((vQ ts env).map (·.2)) us) Q E s:=by
 induction ts with
 |nil=>
  intro vs us σ cR s Q h f rs k;rcases vs with _|⟨v,vs⟩
  ·exact rs.e0 (aO (k _ (au h▸f) (.refl _)))
  ·exact bM h
 |cons t ts ih=>
  intro vs us σ cR s Q h f rs k;refine CL h λx p v El e1 e2 hx h2=>?_;subst e1 e2;refine rs.e1 λu Qw r1 r2=>?_;show aA (az prog w) A (assignInOrder (qH (.Name x p) env::(vQ ts env).map (·.2)) (u::Qw)) Q E s;exact aR (gG (oY (kb f r1 hx λs' f' fy=>ih El Qw _ _ s' Q h2 f' (r2.fy fy f) λg8 f'' nQ=>k g8 f'' (fy.trans nQ))))
theorem lC{t:Expr}{v:V}{u:ao}{cR:Sg}{Q:Unit->ai->Prop}(h:dq sc t v σ=some cR)(f:Fx ag r n ι Av st A env sc σ s)(rv:bZ s.heap ι Av v u)
  (k:∀s',Fx ag r n ι Av st A env sc cR s'->fR (dM ag) (mY env) ι Av s ι Av s'->Q () s'):aA (az prog w) A (qH t env u) Q E s:=by
 refine gen λG bP=>?_;revert h;rcases t with _|_|_|_|_|_|_|_|_|_|_|_|_|_|_|_|_|_|_|_|_|_|_|⟨x,p⟩|_|⟨ts,kk,p⟩|_<;>try exact bM
 ·intro h;exact cC h λhx h=>bP (oY (kb f rv hx (au h▸k)))
 ·intro h;rcases v with _|_|_|_|_|vs|_|_|_|_<;>try exact bM h
  refine cC h λhl h=>bP (rv.e5 λa ws hT _ hz rs=>?_);refine eA (BQ (env:=env) _ _ _ _ h) λh1 h2=>?_;refine wpAny_assign_Tuple f.a.c.hh hT (by refine am h1 (am rs.length ?_);simp) h2 λh' hx=>?_;have x1:ja (dM ag) s {s with heap:=h'}:=.Ds λb o e=>hx b o (dk (dK e)) e;exact BP _ _ _ _ _ _ _ h (f.ext x1 f.a.c.tk) (rs.ext x1.heap) λs' f' fy=>k s' f' ((fR.c7 x1).trans fy)
end
noncomputable def SV(prog:cO)(w:bz)(ag:ca)(r n:Nat)(ι Av:List aN)(A:b9)(env:Env)(sc:Sc)(σ:Sg)(t:Sem ao)(v:V)(eJ:St)(s:ai):Prop:=
 aA (az prog w) A t (λx s'=>∃db df,fR (dM ag) (mY env) ι Av s db df s'/\Fx ag r n db df eJ A env sc σ s'/\bZ s'.heap db df v x) (λ_ _=>False) s
noncomputable def SVs(prog:cO)(w:bz)(ag:ca)(r n:Nat)(ι Av:List aN)(A:b9)(env:Env)(sc:Sc)(σ:Sg)(t:Sem (List ao))(v:List V)(eJ:St)(s:ai):Prop:=
 aA (az prog w) A t (λx s'=>∃db df,fR (dM ag) (mY env) ι Av s db df s'/\Fx ag r n db df eJ A env sc σ s'/\bq s'.heap db df v x) (λ_ _=>False) s
section
variable{w:bz}{r:Nat}{s:ai}{n:Nat}
theorem IU{k:Nat}{e:Expr}{rest:List Expr}{o:List V×St}{G:Prop}(h:j1 P n sc σ (k+1) st (e::rest)=some o)(g:(∀x p,e≠.Starred x p)->∀v gA us jt,fw P n sc σ k st e=some (v,gA)->j1 P n sc σ k gA rest=some (us,jt)->(v::us,jt)=o->G):G:=by have key:(∀x p,e≠.Starred x p)->((fw P n sc σ k st e).bind λa=>(j1 P n sc σ k a.2 rest).map λb=>(a.1::b.1,b.2))=some o->G:=λhs h=>bK h λa ha h=>fz h λb hb e=>g hs a.1 a.2 b.1 b.2 ha hb e;rcases e with _|_|_|_|_|_|_|_|_|_|_|_|_|_|_|_|_|_|_|_|_|_|_|_|_|_|_<;>first|exact bM h|exact key (zD rfl) h
theorem C4(k:Nat):∀(st eJ:St) (es:List Expr) (vs:List V),j1 P n sc σ k st es=some (vs,eJ)->vs.length=es.length:=by
 induction k with
 |zero=>exact λst eJ es vs h=>bM h
 |succ k ih=>
  intro st eJ es vs h;rcases es with _|⟨e,rest⟩
  ·have e:=au h;exact(congrArg (·.1.length) e).symm
  ·exact IU h λ_ v gA us jt hv tF e=>(congrArg (·.1.length) e).symm.trans (congrArg (·+1) (ih _ _ _ _ tF))
theorem Gw(H:pB prog w ag r P n){eJ:St}{e:Expr}{v:V}(h:(ay P st n sc σ e).map (λv=>(v,st))=some (v,eJ))(f:Fx ag r n ι Av st A env sc σ s):SV prog w ag r n ι Av A env sc σ (et e env) v eJ s:=
 fz h λu hu e=>(jn e).1▸(jn e).2▸(H.ev hu f.a).go λx s' x' zu r'=>⟨ι,Av,.c7 x',f.ext x' zu,r'⟩
theorem JN{es:List Expr}{p:Pos}{us:List V}{gA:St}(hl:es.length<=100)(hlen:us.length=es.length)(hs:∀pos,SVs prog w ag r n ι Av A env sc σ (t9 (j4 pos (fF es env))) us gA s):SV prog w ag r n ι Av A env sc σ (et (.List es p) env) (.loc gA.length) (gA++[us]) s:=by refine ale (aV (hs _) (λws s1 q=>?_) λ_ _ f=>f.elim);refine c3 q λqM sd fy f1 rs=>?_;have hz:=bq.take1 rs (VU hlen hl);refine HL (by refine am bC ?_;exact hz) _ _ (fy.trans (.grow _)) (f1.grow rs hz) (.loc ?_);show(qM++[s1.heap.objs.size])[gA.length]?=_;refine jj f1.a.S.len (am (d7 (aD _)) ?_);simp -iota
theorem NV{es:List Expr}{kk:Nat}{p:Pos}{us:List V}{gA:St}(hl:es.length<=100)(hlen:us.length=es.length)(hs:∀pos,SVs prog w ag r n ι Av A env sc σ (t9 (j4 pos (fF es env))) us gA s):SV prog w ag r n ι Av A env sc σ (et (.Tuple es kk p) env) (.tup us) gA s:=by refine mn (aV (hs _) (λws s1 q=>?_) λ_ _ f=>f.elim);refine c3 q λqM sd fy f1 rs=>?_;have hz:=bq.take1 rs (VU hlen hl);exact HL (by refine am bC ?_;exact hz) qM sd (fy.trans (.c7 (.push _))) (f1.ext (.push _) f1.a.c.tk) (ll f1.a.S.av rs hz)
theorem zx(H:pB prog w ag r P n)(k:Nat):(∀{ι Av:List aN} {st eJ:St} {s:ai} {e:Expr} {v:V},fw P n sc σ k st e=some (v,eJ)->Fx ag r n ι Av st A env sc σ s->SV prog w ag r n ι Av A env sc σ (et e env) v eJ s)/\
  (∀{ι Av:List aN} {st eJ:St} {s:ai} {es:List Expr} {vs:List V},j1 P n sc σ k st es=some (vs,eJ)->Fx ag r n ι Av st A env sc σ s->∀pos,SVs prog w ag r n ι Av A env sc σ (t9 (j4 pos (fF es env))) vs eJ s):=by
 induction k with
 |zero=>exact⟨λh _=>bM h,λh _=>bM h⟩
 |succ k ih=>
  refine⟨λ{ι Av st eJ s e v} h f=>?_,λ{ι Av st eJ s es vs} h f pos=>?_⟩
  ·refine gen λG bP=>?_;have plain:(ay P st n sc σ e).map (λv=>(v,st))=some (v,eJ)->G:=λh=>bP (Gw H h f);rcases e with _|_|_|_|_|_|_|_|_|_|_|_|_|_|_|_|_|_|_|_|_|_|_|_|⟨es,p⟩|⟨es,kk,p⟩|_<;>try exact plain h
   ·exact cC h λhl h=>fz h λo tF e=>bP ((jn e).1▸(jn e).2▸JN hl (C4 _ _ _ _ _ tF) (ih.2 tF f))
   ·exact cC h λhl h=>fz h λo tF e=>bP ((jn e).1▸(jn e).2▸NV hl (C4 _ _ _ _ _ tF) (ih.2 tF f))
  ·rcases es with _|⟨e,rest⟩
   ·have e:=au h;exact(jn e).1▸(jn e).2▸aO ⟨ι,Av,.refl _,f,.nil⟩
   ·refine IU h λhs v gA us jt hv tF e=>(jn e).1▸(jn e).2▸bT (aV (ih.1 hv f) (λx s1 q=>?_) λ_ _ f=>f.elim) (j5 hs);refine c3 q λqM sd fy f1 r1=>aV (ih.2 tF f1 pos) (λws s2 q=>?_) λ_ _ f=>f;exact c3 q λQU VA lh f2 rs=>iM QU VA (fy.trans lh) f2 (.cons (r1.fy lh f1) rs)
end
set_option backward.match.sparseCases true
noncomputable def nC:aN->Prop:=λ_=>False
noncomputable def aeh(prog:cO)(w:bz)(ag:ca)(r:Nat)(Fs:aN->List V->St->Option (V×St)):Prop:=∀a vs st v eJ,Fs a vs st=some (v,eJ)->
 (∃o fd,ag.get? a=some o/\o.data=.func fd)/\∀(ι Av:List aN) (A:b9) (s:ai) (ws:List ao) (E:ao->ai->Prop) (Q:ao->ai->Prop),lf ag r 0 A s->kZ ι Av st s.heap->(∀b∈ι,ag.get? b=ah)->bq s.heap ι Av vs ws->
  (∀u s' db df,fR (dM ag) nC ι Av s db df s'->lf ag r 0 A s'->kZ db df eJ s'.heap->(∀b∈db,ag.get? b=ah)->bZ s'.heap db df v u->Q u s')->aA (az prog w) A (call (.ref a) ws) Q E s
noncomputable def Vr(prog:cO)(w:bz)(ag:ca)(Rc:aN->Bool):Prop:=∀c,Rc c=aj->∀(A:b9) (env:Env) (s:ai) (x:Str) (np Fw pos:Pos) (a:Expr) (Q:vV->ai->Prop) (E:ao->ai->Prop),A.handled=ah->(∀p q,a≠.Starred p q)->
 aA (az prog w) A (et (.Name x np) env) (λf s₁=>f=.ref c/\aA (az prog w) A (et a env) (λu bI=>(∀b o,ag.get? b=some o->bI.heap.get? b=some o)/\∀h' e,f9 bI.heap h' e (.ref c) [u]->E (.ref e) {bI with heap:=h'}) E s₁) E s->
 aA (az prog w) A (kR (.Raise (some (.Call (.Name x np) [a] [] Fw)) ah pos) env) Q E s
structure Wx(prog:cO)(w:bz)(ag:ca)(mg mb:Str->Option ao)(r:Nat)(P:pD):Prop where
 d:Wd prog w ag mg mb r P
 fs:aeh prog w ag r P.Fs
 rs:Vr prog w ag P.Rc
noncomputable def FlR(h:ca)(ι Av:List aN):Fl->vV->Prop
 |.next,f=>f=.next
 |.brk,f=>f=.brk
 |.ret v,f=>∃u,f=.ret u/\bZ h ι Av v u
 |.exc _ _,_=>False
noncomputable def jR(ag:ca)(r n:Nat)(ι Av:List aN)(A:b9)(env:Env)(sc:Sc)(out:ga)(s:ai)(f:vV)(s':ai):Prop:=
 ∃db df,fR (dM ag) (mY env) ι Av s db df s'/\Fx ag r n db df out.2.2 A env sc out.2.1 s'/\FlR s'.heap db df out.1 f
noncomputable def CN(ag:ca)(r n:Nat)(ι Av:List aN)(A:b9)(env:Env)(sc:Sc)(out:ga)(s:ai)(e:ao)(s':ai):Prop:=
 ∃c x t ea s₁,out.1=.exc c x/\e=.ref ea/\ja (dM ag) s s₁/\Fx ag r n ι Av out.2.2 A env sc out.2.1 s₁/\∃h',s'={s₁ with heap:=h'}/\f9 s₁.heap h' ea (.ref c) [.str x t]
noncomputable def SE(prog:cO)(w:bz)(ag:ca)(r n:Nat)(ι Av:List aN)(A:b9)(env:Env)(sc:Sc)(t:Sem vV)(out:ga)(s:ai):Prop:=
 aA (az prog w) A t (jR ag r n ι Av A env sc out s) (λe s'=>∃db df fV,fR (dM ag) (mY env) ι Av s db df fV/\CN ag r n db df A env sc out fV e s') s
theorem lf.of{ag:ca}{r n m:Nat}{A:b9}{s s':ai}(c:lf ag r m A s')(d:lf ag r n A s):lf ag r n A s':=⟨d.hh,d.dep,d.A8,c.fr,c.tk,c.kp⟩
section
variable{w:bz}{r:Nat}{s:ai}{n:Nat}
theorem hO{cR:Sg}{eJ:St}{db df:List aN}{s':ai}(x:fR (dM ag) (mY env) ι Av s db df s')(f:Fx ag r n db df eJ A env sc cR s'):jR ag r n ι Av A env sc (.next,cR,eJ) s .next s':=⟨db,df,x,f,rfl⟩
theorem kZ.MH(S:kZ ι Av st s.heap){C:aN}(h:∀a n,s.heap.get? C=some {cls:=.type "list",data:=.seq a n}->False):C∉ι:=λhm=>by
 refine eE (nO.mp hm) λl hl=>?_;have gE:l<st.length:=by refine jj S.len ?_;exact(aG.mp hl).1
 have⟨a',kC,h1,⟨n',h2⟩,_⟩:=S.at_ l st[l] (aC gE);exact h _ _ (au (h1.symm.trans hl)▸h2)
theorem fR.ns{bk X:aN->Prop}{db df:List aN}{s':ai}{L:aN}{m:Str->Option ao}(x:fR bk X ι Av s db df s')(hi:L∉ι)(hX:¬X L)(hn:s.heap.Ns L m):s'.heap.Ns L m:=by exact gN hn λo es ep ho hd rest=>(x.ke _ o ho hi hX).elim (λh=>⟨o,es,ep,h,hd,rest⟩) λ⟨_,_,sl,h⟩=>⟨_,es,ep,h,hd,rest⟩
theorem fR.cell{bk X:aN->Prop}{db df:List aN}{s':ai}{C:aN}{v:Option ao}(x:fR bk X ι Av s db df s')(hi:C∉ι)(hX:¬X C)(hn:s.heap.IsCell C v):s'.heap.IsCell C v:=by exact cW hn λo ho hd=>(x.ke _ o ho hi hX).elim (λh=>⟨o,h,hd⟩) λ⟨_,⟨es,k,j7⟩,_⟩=>nomatch hd.symm.trans j7
theorem Fx.after{eJ:St}{db df:List aN}{s':ai}(f:Fx ag r n ι Av st A env sc σ s)(x:fR (dM ag) nC ι Av s db df s')(c:lf ag r 0 A s')(S:kZ db df eJ s'.heap)(i0:∀b∈db,ag.get? b=ah):Fx ag r n db df eJ A env sc σ s':=by
 have x':fR (dM ag) (mY env) ι Av s db df s':=x.mono λ_ h=>h.elim;have ne:=f.a.e;have kn:∀{m},s.heap.Ns env.locals m->s'.heap.Ns env.locals m:=λ{m} hn=>x.ns (f.a.S.MH λa k e=>kW hn _ e _ _ rfl) id hn;have kc:∀{c v},s.heap.IsCell c v->s'.heap.IsCell c v:=λ{c v} hn=>x.cell (f.a.S.MH λa k e=>kr hn _ e _ _ rfl) id hn;refine⟨⟨c.of f.a.c,S,⟨ne.kind,ne.gl,ne.bu,ne.nm,?_,λy hy=>?_,λy u hy hu=>?_⟩⟩,f.l0,f.c0,i0,f.ap,λy c h=>(f.cc y c h).elim λim q=>⟨im,kc q⟩⟩
 ·exact cW ne.loc λm h1 h2=>jW m (kn h1) (λy u hy hu=>(h2 y u hy hu).elim λw' q=>⟨w',q.1,q.2.fy x' f⟩)
 ·exact iw (ne.sS y hy) λc' im h1 h2=>jp c' im h1 (kc h2)
 ·exact c3 (ne.D0 y u hy hu) λc' w' h1 h2 h3=>iM c' w' h1 (kc h2) (h3.fy x' f)
theorem LF(W:Wx prog w ag mg mb r P){g:aN}{fn:Str}{p pos:Pos}{args:List Expr}{vs:List V}{v:V}{eJ:St}(hg:fY P sc σ fn=some (.obj g))(g':b3 P st n sc σ args=some vs)(hf:P.Fs g vs st=some (v,eJ))(f:Fx ag r n ι Av st A env sc σ s){Q:ao->ai->Prop}
  (k:∀u s' db df,fR (dM ag) (mY env) ι Av s db df s'->Fx ag r n db df eJ A env sc σ s'->bZ s'.heap db df v u->Q u s'):aA (az prog w) A (et (.Call (.Name fn p) args [] pos) env) Q E s:=by
 have H:=r7 W.d n;refine iW (cM (n:=1) f.a.c.tk (gY W.d f.a hg λw' s0 x0 r0 Rg=>?_));refine r0.e8 ?_;have f0:=f.ext x0 Rg;have hc:=(W.fs g vs st v eJ hf).2;refine iw (W.fs g vs st v eJ hf).1 λo fd ho hd=>vC (o:=o) (fd:=fd) (H.Ay g' f0.a).1 (H.tX g' f0.a λws s1 x1 gg rs=>?_);have f1:=f0.ext x1 gg;refine⟨⟨f1.a.c.kp _ _ ho,hd⟩,hc ι Av A s1 ws E Q (f1.a.c.less (bo _)) f1.a.S f1.i0 rs λu s2 QU VA fy c2 S2 i2 r2=>?_⟩;exact k u s2 QU VA ((fR.c7 (x0.trans x1)).trans (fy.mono λ_ h=>h.elim)) (f1.after fy c2 S2 i2) r2
theorem Er{e:Expr}{a b:Expr}{c:Pos}{l:Nat}:swapsWith e (some (.Subscript a b c)) l env=pure an:=by rcases e with _|_|_|_|_|_|_|_|_|_|_|_|_|_|_|_|_|_|_|_|_|_|_|_|_|_|_<;>rfl
theorem nA{t:Expr}{v:V}{cR:Sg}(h:dq sc t v σ=some cR):(∃x p,t=.Name x p/\g4 sc x=aj)\/∃ts k p,t=.Tuple ts k p:=by
 revert h;rcases t with _|_|_|_|_|_|_|_|_|_|_|_|_|_|_|_|_|_|_|_|_|_|_|⟨x,p⟩|_|⟨ts,kk,p⟩|_<;>try exact bM
 ·intro h;exact cC h λhx _=>.inl ⟨_,_,rfl,hx⟩
 ·intro h;exact .inr ⟨_,_,_,rfl⟩
theorem NU{e:Expr}{t:Option Expr}{l:Nat}(hl:∀a b c d,e≠.ListComp a b c d)(Dx:∀a b c d,e≠.SetComp a b c d)(hl3:∀a b c d f,e≠.DictComp a b c d f):swapsWith e t l env=pure an:=by rcases e with _|_|_|_|_|_|_|_|_|_|_|_|_|_|_|_|_|_|_|_|_|_|_|_|_|_|_<;>first|rfl|exact(hl _ _ _ _ rfl).elim|exact(Dx _ _ _ _ rfl).elim|exact(hl3 _ _ _ _ _ rfl).elim
theorem nz{t e:Expr}{p:Pos}{v:V}{eJ:St}{cR:Sg}(hb:dq sc t v σ=some cR)(hl:∀a b c d,e≠.ListComp a b c d)(Dx:∀a b c d,e≠.SetComp a b c d)(hl3:∀a b c d f,e≠.DictComp a b c d f)(hw:yU [t] e env=pure ah)
  (he:SV prog w ag r n ι Av A env sc σ (et e env) v eJ s):SE prog w ag r n ι Av A env sc (kR (.Assign [t] e p) env) (.next,cR,eJ) s:=by
 refine ak6 (aV he (λu s1 q=>?_) λ_ _ f=>f.elim) (NU hl Dx hl3) hw;refine c3 q λqM sd fy f1 r1=>?_;have key:aA (az prog w) A (qH t env u) (λ_=>jR ag r n ι Av A env sc (.next,cR,eJ) s .next) (λe s'=>∃db df fV,fR (dM ag) (mY env) ι Av s db df fV/\CN ag r n db df A env sc (.next,cR,eJ) fV e s') s1:=
  lC hb f1 r1 λs2 f2 lh=>hO (fy.trans lh) f2
 rcases nA hb with⟨x,q,e,_⟩|⟨ts,k,q,e⟩<;>(subst e;exact key)
theorem Mq{e:Expr}{v:V}(H:pB prog w ag r P n)(h:ay P st n sc σ e=some v)(f:Fx ag r n ι Av st A env sc σ s):SV prog w ag r n ι Av A env sc σ (et e env) v st s:=
 (H.ev h f.a).go λx s' x' zu r'=>⟨ι,Av,.c7 x',f.ext x' zu,r'⟩
theorem uJ{t e:Expr}(h:∀a b c,e≠.Tuple a b c):yU [t] e env=pure ah:=by rcases t with _|_|_|_|_|_|_|_|_|_|_|_|_|_|_|_|_|_|_|_|_|_|_|_|_|_|_<;>first|rfl|(rcases e with _|_|_|_|_|_|_|_|_|_|_|_|_|_|_|_|_|_|_|_|_|_|_|_|_|_|_<;>first|rfl|exact(h _ _ _ rfl).elim)
theorem yG{α β:Type}{F:α->Option β}{a:α}{l:List α}(h:a∈l)(hF:F a=ah):(l.filterMap F).length<l.length:=by
 induction l with
 |nil=>exact nomatch h
 |cons b r ih=>
  have hle:=List.length_filterMap_le F r;rcases ax.mp h with e|h
  ·refine am CQ (jj e (am hF ?_));exact Nat.lt_succ_of_le hle
  ·refine am CQ ?_;rcases F b with _|c
   ·exact iA (ih h)
   ·exact Nat.succ_lt_succ (ih h)
theorem FM(ts:List Expr):∀(vs:List V) (σ cR:Sg) (x:Str) (p:Pos),vG sc ts vs σ=some cR->alW x p∈ts->g4 sc x=aj:=by
 induction ts with
 |nil=>exact λvs σ cR x p h hm=>nomatch hm
 |cons t ts ih=>
  intro vs σ cR x p h hm;refine CL h λy q v El e1 e2 hc h2=>?_;rcases ax.mp hm with e|hm
  ·have e:=(alW.inj (e.trans e1)).1;exact e▸hc
  ·exact ih El _ _ x p h2 hm
theorem G8{ts:List Expr}{k:Nat}{q:Pos}{v:V}{cR:Sg}{x:Str}{p:Pos}(hb:dq sc (.Tuple ts k q) v σ=some cR)(hm:alW x p∈ts):g4 sc x=aj:=by
 revert hb;rcases v with _|_|_|_|_|vs|_|_|_|_<;>try exact bM
 intro hb;exact cC hb λ_ h=>FM _ _ _ _ _ _ h hm
theorem EY{F6:Sg}(f:jP ι Av env sc F6 s.heap){x:Str}(hc:g4 sc x=aj)(hx:(!(sc.lookup x==some .local))=aj):env.kindOf x=some .cell:=by
 have hl:sc.lookup x=some .cell:=by
  rcases gP.mp hc with hc|hc
  ·exact bB ((fH _▸hx:(sc.lookup x==some .local)=an).symm.trans (cw.mpr (bG hc)))
  ·exact bG hc
 exact(f.nm x _ hl).elim id λq=>nomatch q.1
theorem KB{α:Type u}{c:Prop}[d:Decidable c]{x y z:α}(h1:c->x=z)(h2:¬c->y=z):(if c then x else y)=z:=by
 rcases d with d|d
 ·exact h2 d
 ·exact h1 d
theorem acL{α:Type u}{c:Prop}[d:Decidable c]{x y:α}(P:α->Prop)(h1:c->P x)(h2:¬c->P y):P (if c then x else y):=by
 rcases d with d|d
 ·exact h2 d
 ·exact h1 d
theorem TK{α:Type u}{β:Type v}{c:Prop}[d:Decidable c]{x y:α}(g:α->β){z:β}(h1:c->g x=z)(h2:¬c->g y=z):g (if c then x else y)=z:=by
 rcases d with d|d
 ·exact h2 d
 ·exact h1 d
theorem zw{t e:Expr}{v:V}{cR:Sg}{F6:Sg}(hb:dq sc t v σ=some cR)(h:oA sc t e=aj)(f:jP ι Av env sc F6 s.heap):yU [t] e env=pure ah:=by
 by_cases he:∃a b c,e=.Tuple a b c
 ·refine wf he λvs b c he=>?_;subst he;rcases nA hb with⟨x,q,e,_⟩|⟨ts,k,q,e⟩
  ·subst e;rfl
  ·subst e;replace h:(!(ts.length==2||ts.length==3)||ts.any (nsw sc))=aj:=h;rcases gP.mp h with h|h
   ·refine KB (λ_=>rfl) λn=>bV (gP.mpr (.inl (gP.mpr (.inl h)))) n
   ·refine cW (vU.mp h) λt ht hx=>?_;have hF:∀line,(match t with
      |.Name id pos=>if(env.kindOf id==some mU.local&&pos.line==line)=aj then some id else ah
      |_=>(ah:Option Str))=ah:=λline=>by
     have hp:∀x p,t=.Name x p->g4 sc x=aj:=λx p q=>G8 hb (q▸ht);rcases t with _|_|_|_|_|_|_|_|_|_|_|_|_|_|_|_|_|_|_|_|_|_|_|⟨x,p⟩|_|_|_<;>first|rfl|skip
     show(if(env.kindOf x==some mU.local&&p.line==line)=aj then some x else ah)=ah;refine am (EY f (hp x p rfl) hx) ?_;rfl
    exact KB (λ_=>rfl) λ_=>KB (λ_=>rfl) λ_=>KB (λ_=>rfl) λn=>bV (gP.mpr (.inl (bne_iff_ne.mpr (dk (yG ht (hF _)))))) n
 ·exact uJ λa b c q=>he ⟨a,b,c,q⟩
end
set_option backward.match.sparseCases false
theorem vo{h Fk h' base:ca}{C:aN}(hC:h.get? C=ah)(hs:dL C Fk h'){l:List Env}:h.FunFrames base l->Fk.FunFrames base l->h'.FunFrames base l:=by
 induction l with
 |nil=>exact λ_ _=>trivial
 |cons env rest ih=>
  intro x y;refine cU x.2.1 λL o hf _ ho _=>cU y.2.1 λL' o' Wu jq l4 j7=>?_;have e:=au (hf.symm.trans Wu);exact⟨y.1,⟨L',o',Wu,jq,hs.extBut L' o' (λq=>nomatch(hC.symm.trans (q▸e▸ho:h.get? C=some o))) l4,j7⟩,ih x.2.2 y.2.2⟩
section
variable{w:bz}{r:Nat}{s:ai}{n:Nat}
theorem Fx.drop{cR:Sg}{g8:ai}{C:aN}{m:Str->Option ao}{h':ca}(f:Fx ag r n ι Av st A env sc σ s)(g:Fx ag r n ι Av st A env sc cR g8)(hC:s.heap.get? C=ah)(hn:g8.heap.Ns C m)(hs:dL C g8.heap h'):
  Fx ag r n ι Av st A env sc cR {g8 with heap:=h'}:=by
 have nq:=kW hn;have kH:∀b∈Av,b≠C:=λb hb q=>by refine eE (f.a.S.av b hb) λo e=>?_;replace e:=hC▸q▸e;exact bM e
 have ne:=g.a.e;have hL:env.locals≠C:=λq=>by refine cW f.a.e.loc λm' hm _=>?_;refine l7 hm λo _ _ ho _=>?_;replace ho:=hC▸q▸ho;exact bM ho
 have hc:∀x c,env.cells.lookup x=some c->c≠C:=λx c h q=>by refine iw (f.cc x c h) λim o ho _=>?_;replace ho:=hC▸q▸ho;exact bM ho
 have mv:∀{v:V} {u:ao},bZ g8.heap ι Av v u->bZ h' ι Av v u:=λr=>r.other hs nq;have Ki:∀{v:List V} {u:List ao},bq g8.heap ι Av v u->bq h' ι Av v u:=λr=>r.other hs nq;refine⟨⟨⟨g.a.c.hh,g.a.c.dep,g.a.c.A8,?_,g.a.c.tk,λb o e=>hs.extBut b o (λq=>?_) (g.a.c.kp b o e)⟩,⟨λb hb=>?_,g.a.S.Bb,g.a.S.nd,g.a.S.len,λl vs q=>?_⟩,⟨ne.kind,ne.gl,ne.bu,ne.nm,?_,λy hy=>?_,λy u hy hu=>?_⟩⟩,g.l0,g.c0,g.i0,g.ap,λy c h=>?_⟩
 ·refine eN g.a.c.fr λl h1 h2 h5=>eN f.a.c.fr λl' h3 h4 h6=>?_;cases kM h1 h3;refine ml l h1 (vo hC hs h4 h2) (λe he L hL=>?_);refine l7 (h5 e he L hL) λo es nn e1 e2=>l7 (h6 e he L hL) λo2 _ _ e3 _=>?_;exact rz o es nn (hs.extBut L o (λq=>by subst q;rw[hC]at e3;cases e3) e1) e2
 ·have:=f.a.c.kp b o e;replace this:=hC▸q▸this;exact bM this
 ·exact eE (g.a.S.av b hb) λo e=>⟨o,hs.extBut b o (kH b hb) e⟩
 ·refine gen λGG fN=>?_;refine cU (g.a.S.at_ l vs q) λa ws h1 F7 h3 h4=>?_;obtain⟨k,h2⟩:=F7;refine fN ?_;exact gM a ws h1 ⟨k,hs.extBut a _ (kH a (g.a.S.Bb a (aX h1))) h2⟩ h3 (Ki h4)
 ·exact cW ne.loc λm' h1 h2=>jW m' (h1.sameBut hs hL) (λy u hy hu=>cW (h2 y u hy hu) λw' h3 h4=>⟨w',h3,mv h4⟩)
 ·exact iw (ne.sS y hy) λc im h1 h2=>jp c im h1 (h2.sameBut hs (hc y c h1))
 ·exact c3 (ne.D0 y u hy hu) λc w' h1 h2 h3=>iM c w' h1 (h2.sameBut hs (hc y c h1)) (mv h3)
 ·exact eE (g.cc y c h) λim h2=>⟨im,h2.sameBut hs (hc y c h)⟩
theorem fR.drop{bk:aN->Prop}{X:aN->Prop}{db df:List aN}{g8:ai}{C:aN}{h':ca}(x:fR bk X ι Av s db df g8)(hC:s.heap.get? C=ah)(hs:dL C g8.heap h'):fR bk X ι Av s db df {g8 with heap:=h'}:=by
 have ne:∀b o,s.heap.get? b=some o->b≠C:=λb o e q=>by replace e:=hC▸q▸e;exact bM e
 refine⟨x.pre,x.sub,x.new,x.v5,λb o e hi hl=>?_,λb o e=>?_,?_⟩
 ·rcases x.ke b o e hi hl with h|⟨h1,h2,sl,h⟩
  ·exact .inl (hs.extBut b o (ne b o e) h)
  ·exact .inr ⟨h1,h2,sl,hs.extBut b _ (ne b o e) h⟩
 ·exact eE (x.al b o e) λo' h=>⟨o',hs.extBut b o' (ne b o e) h⟩
 ·refine mO x.sh λh k fC=>?_;subst fC;exact Cb _ _ rfl
theorem Cx{elt:Expr}{gens:List NE}{scope:jm}{pos:Pos}{v:V}(h:ay P st n sc σ (.ListComp elt gens scope pos)=some v):
  ∃m x px iter ifs vs us,n=m+1/\gens=[⟨.Name x px,iter,ifs,0⟩]/\ta sc scope x/\(eO oQ σ).isNone=aj/\g7 P st m sc σ iter=some vs/\
   mR (λv=>(gx P st m scope.names ((x,v)::σ) ifs).bind λok=>if ok then(ay P st m scope.names ((x,v)::σ) elt).map some else some af) vs=some us/\v=.lst us:=by
 refine gen λG bP=>?_;rcases n with _|m
 ·exact bM h
 ·rcases gens with _|⟨⟨tg,it,ifs,asy⟩,_|_⟩
  ·exact bM h
  ·revert h;rcases tg with _|_|_|_|_|_|_|_|_|_|_|_|_|_|_|_|_|_|_|_|_|_|_|⟨x,q⟩|_|_|_<;>try exact bM
   intro h;refine cC h λhc h=>bK h λvs g' h=>fz h λus tF e=>?_;have h1:=hc.1;dsimp only at h1;subst h1;exact bP ⟨m,_,_,_,_,vs,us,rfl,rfl,w6 hc.2.1,hc.2.2,g',tF,e.symm⟩
  ·exact bM h
theorem AT(W:Wx prog w ag mg mb r P){y:Str}{py RF:Pos}{elt:Expr}{gens:List NE}{scope:jm}{pos:Pos}{v:V}(h:ay P st n sc σ (.ListComp elt gens scope pos)=some v)(hy:g4 sc y=aj)
  (f:Fx ag r n ι Av st A env sc σ s):SE prog w ag r n ι Av A env sc (kR (.Assign [.Name y py] (.ListComp elt gens scope pos) RF) env) (.next,ee y v σ,st) s:=by
 have hsw:∃b,swapsWith (.ListComp elt gens scope pos) (some (.Name y py)) RF.line env=pure b:=⟨_,rfl⟩;refine eE hsw λb hb=>?_
 cases b with
 |false=>
  have H:=r7 W.d n;refine ak6 (aV (Mq H h f) (λu s1 q=>?_) λ_ _ f=>f.elim) hb rfl;refine c3 q λqM sd fy f1 r1=>?_;show aA (az prog w) A (qH (.Name y py) env u) _ _ s1;exact oY (kb f1 r1 hy λs2 f2 lh=>hO (fy.trans lh) f2)
 |true=>
  refine gen λGG fN=>?_;obtain⟨m,x,px,iter,ifs,vs,us,rfl,rfl,lJ,M3,hit,Ap,rfl⟩:=Cx h;refine fN ?_;have H:=r7 W.d m;have a:=f.a.less (iB m);refine eN (rN lJ a.e) λcl hc yy Al=>am (exec_Assign_Name_used _ _ _ _ hb) (aR (gF (aR ?_)));show aA _ A (do let _<-comprehension (.ListComp elt [⟨.Name x px,iter,ifs,0⟩] scope pos) scope env _ (newList []) an (et iter env) (some (qH (.Name y py) env))) _ _ s
  refine aR (aV (aj8 (use:=some (qH (.Name y py) env)) (Q:=λ_ s'=>jR ag r (m+1) ι Av A env sc (.next,ee y (.lst us) σ,st) s .next s') rfl (λx=>ul (H.it hit a).1 x) hc lJ.kind (λy hy hl=>((lJ.all y hy).1 hl).2) ?_) (λ_ s' hq=>aO (aO hq)) λ_ _ e=>e)
  refine w5 (RR:=λiN C=>compPost (az prog w) A _ (some (qH (.Name y py) env)) _ iN C) H hit lJ M3 Ap a yy Al λD C s' m' ys x' zu hn hC hD K6 nS rs hl=>?_;have f':=f.ext x' zu;show aA _ A (qH (.Name y py) env (.ref D)) _ _ _;refine oY (kb f' (.lst nS (f.a.S.av.none hD) hl rs) hy λs2 f2 lh=>?_);have hC':s'.heap.Ns C m':=hn;have MX:s2.heap.Ns C m':=by
   refine gN (id hn) λo es ep ho hd rest=>?_;have hi:C∉ι:=λh=>by refine eE (f.a.S.av C (f.a.S.Bb C h)) λo' e=>?_;rw[hC]at e;cases e
   rcases lh.ke C o ho hi (by
    rintro (q|⟨z,hz⟩)
    ·refine cW f.a.e.loc λm1 Ju _=>?_;refine l7 Ju λo1 _ _ FY _=>?_;replace FY:=hC▸q.symm▸FY;exact bM FY
    ·refine iw (f.cc z C hz) λim o1 FY _=>?_;rw[hC]at FY;cases FY)with h|⟨_,_,sl,h⟩
   ·exact vc o es ep h hd rest
   ·exact vc _ es ep h hd rest
  refine jW m' MX (λh' v8=>?_);exact hO (((fR.c7 x').trans lh).drop hC v8) (f.drop f2 hC MX v8)
end
section
variable{w:bz}{r:Nat}{s:ai}{n:Nat}
theorem Fx.tC(f:Fx ag r n ι Av st A env sc σ s){l:Nat}{x:ao}{vs:List V}(hr:bZ s.heap ι Av (.loc l) x)(hl:st[l]?=some vs):
  ∃a ws,x=.ref a/\ι[l]?=some a/\s.heap.PlainList a (bl ws)/\ws.length<=16777216/\bq s.heap ι Av vs ws:=by
 cases hr with
 |loc q=>
  refine cU (f.a.S.at_ l vs hl) λa ws h1 h2 h3 h4=>?_;cases kM q h1;exact rA _ ws rfl q h2 h3 h4
theorem EX{e:Expr}{v:V}(h:ay P st n sc σ e=some v):∀a b c d,e≠.Slice a b c d:=λa b c d q=>by subst q;rcases n with _|n<;>exact bM h
theorem FL{i:Expr}(h:∀a b c d,i≠.Slice a b c d)(ov iv new:ao):augStore i ov iv new=(do holding [new,ov,iv] (setItem ov iv new);release [new,ov,iv] [];pure .next):=by cases i<;>first|rfl|exact bV rfl (h _ _ _ _)
theorem GO(W:Wx prog w ag mg mb r P){e i:Expr}{x:Str}{p q z:Pos}{v:V}{l:Nat}{k:Int}{vs:List V}(hv:ay P st n sc σ e=some v)(ho:fY P sc σ x=some (.loc l))(hk:ay P st n sc σ i=some (.int k))(hl:st[l]?=some vs)(h0:0<=k/\k<vs.length)
  (f:Fx ag r n ι Av st A env sc σ s):SE prog w ag r n ι Av A env sc (kR (.Assign [.Subscript (.Name x p) i q] e z) env) (.next,σ,fX st l (vs.set k.toNat v)) s:=by
 have H:=r7 W.d n;refine wpAny_Assign_Subscript ((H.ev hv f.a).go λu s1 x1 gg r1=>?_) Er;have f1:=f.ext x1 gg;refine cM (n:=1) gg (gY W.d f1.a ho λo s2 x2 r2 po=>?_);have f2:=f1.ext x2 po;refine(H.ev hk f2.a).go λkv s3 x3 Jq r3=>?_;have f3:=f2.ext x3 Jq;refine j8 (f3.tC (r2.ext x3.heap) hl) λa ws fC hi nS hz rs=>?_;subst fC;cases r3;have el:=rs.length;refine zM nS h0.1 (ab0 h0 el) hz λh' hs jq=>?_;exact hO ((fR.c7 ((x1.trans x2).trans x3)).trans (.chg hs (.inl (aX hi)) (eE jq λk e=>⟨_,e⟩))) (f3.qW hi hs jq (by refine am pN ?_;exact hz) (rs.set _ ((r1.ext x2.heap).ext x3.heap)) f3.a.c.tk)
theorem IV(W:Wx prog w ag mg mb r P){e:Expr}{x:Str}{p z:Pos}{a b:Int}(ho:fY P sc σ x=some (.int a))(hv:ay P st n sc σ e=some (.int b))(hx:g4 sc x=aj)(f:Fx ag r n ι Av st A env sc σ s):
  SE prog w ag r n ι Av A env sc (kR (.AugAssign (.Name x p) .Add e z) env) (.next,ee x (.int (a+b)) σ,st) s:=by
 have H:=r7 W.d n;refine wpAny_AugAssign_Name ?_;have ld:∀{Q:ao->ai->Prop} {E:ao->ai->Prop},(∀t,Q (.int a t) s)->aA (az prog w) A (loadName env x) Q E s:=λ{Q E} k=>by
  unfold fY at ho;split at ho
  ·exact bM ho
  ·unfold g4 at hx;simp only[iu,decide_eq_true_eq,cw]at hx;rcases hx with hs|hs
   ·replace ho:=hs▸ho;obtain⟨m,h1,h2⟩:=f.a.e.loc;obtain⟨wv,h3,h4⟩:=h2 x _ hs ho;have hk:env.kindOf x=some .local:=(f.a.e.nm x _ hs).elim id λq=>nomatch q.1;cases h4;exact lF f.a.e.kind hk h1 h3 (k _)
   ·replace ho:=hs▸ho;obtain⟨c,wv,h1,h2,h3⟩:=f.a.e.D0 x _ (.inl hs) ho;have hk:env.kindOf x=some .cell:=(f.a.e.nm x _ hs).elim id λq=>nomatch q.1;cases h3;exact L2 f.a.e.kind hk h1 h2 (k _)
 refine ld λt=>(H.ev hv f.a).go λu s1 x1 gg r1=>?_;cases r1;refine akx ?_;have f1:=f.ext (x1.trans (.tok (s1.toks+1))) (jE _ _);exact kb f1 (.int _ _) hx λs2 f2 lh=>hO ((fR.c7 (x1.trans (.tok _))).trans lh) f2
theorem LN(W:Wx prog w ag mg mb r P){e i:Expr}{x:Str}{p q z:Pos}{l:Nat}{k a b:Int}{vs:List V}(ho:fY P sc σ x=some (.loc l))(hk:ay P st n sc σ i=some (.int k))(hl:st[l]?=some vs)(h0:0<=k)(ha:vs[k.toNat]?=some (.int a))(hv:ay P st n sc σ e=some (.int b))
  (f:Fx ag r n ι Av st A env sc σ s):SE prog w ag r n ι Av A env sc (kR (.AugAssign (.Subscript (.Name x p) i q) .Add e z) env) (.next,σ,fX st l (vs.set k.toNat (.int (a+b)))) s:=by
 have H:=r7 W.d n;refine wpAny_AugAssign_SubscriptAny ?_ (FL (EX hk));refine cM (n:=1) f.a.c.tk (gY W.d f.a ho λo s2 x2 r2 po=>?_);have f2:=f.ext x2 po;refine(H.ev hk f2.a).go λkv s3 x3 Jq r3=>?_;have f3:=f2.ext x3 Jq;refine j8 (f3.tC (r2.ext x3.heap) hl) λa' ws fC hi nS hz rs=>?_;subst fC;have el:=rs.length;have gE:=(aG.mp ha).1;cases r3;refine cW (rs.get ha) λwv h1 h2=>?_;cases h2;refine ald nS.isList h0 (abZ gE el hz) (by simpa using h1) ((H.ev hv f3.a).go λu s4 x4 Rf r4=>?_);cases r4;refine akx ?_;have f5:=f3.ext (x4.trans (.tok (s4.toks+1))) (jE _ _);have x34:eu (dM ag) s3.heap s4.heap:=x4.heap;refine zM (x34.iF nS) h0 (abY gE el) hz λh' hs jq=>?_;exact hO ((fR.c7 (((x2.trans x3).trans x4).trans (.tok _))).trans (.chg hs (.inl (aX hi)) (eE jq λk e=>⟨_,e⟩))) (f5.qW hi hs jq (by refine am pN ?_;exact hz) ((rs.ext x34).set _ (.int _ _)) f5.a.c.tk)
theorem sE(W:Wx prog w ag mg mb r P){o:Expr}{m:Str}{id:String}{args:List Expr}{ap cp z:Pos}{l:Nat}{vs:List V}{out:ga}(slot:Slot "list" m id)(ty:Qh (.builtin id)=pure (.type "method_descriptor"))
  (ho:ay P st n sc σ o=some (.loc l)) (hl:st[l]?=some vs) (hc:ft o=aj) (vf:(ap.endLine==cp.line)=aj) (hn:eB args) (hlen:args.length<=10) (f:Fx ag r n ι Av st A env sc σ s)
  (k:∀a s1,ja (dM ag) s s1->Fx ag r n ι Av st A env sc σ s1->ι[l]?=some a->aA (az prog w) A (t9 (j4 cp (fF args env))) (λus s2=>aA (az prog w) A (call (.builtin id) (.ref a::us)) (λv s3=>v=.none/\jR ag r n ι Av A env sc out s .next s3) (λ_ _=>False) s2) (λ_ _=>False) s1):
  SE prog w ag r n ι Av A env sc (kR (.Expr (.Call (.Attribute o m ap) args [] cp) z) env) out s:=by
 have H:=r7 W.d n;refine wpAny_Expr ?_ (by unfold interactive;refine am f.a.e.kind ?_;rfl) rfl;refine nK (un hc m) (hn.Fp cp env hlen) vf ((H.ev ho f.a).go λx s1 x1 gg r1=>?_);have f1:=f.ext x1 gg;refine j8 (f1.tC r1 hl) λa ws fC hi nS hz rs=>?_;subst fC;refine eE nS λnn nS=>?_;refine oJ ("list") id agE slot ty ⟨_,nS,rfl⟩ (λb e=>by cases e;exact jW _ nS rfl) (g5 (.inl ⟨_,rfl⟩) hn (aV (k a s1 x1 f1 hi) (λus s2 q=>aV q (λv s3 q=>?_) λ_ _ f=>f.elim) λ_ _ f=>f.elim));obtain⟨rfl,q⟩:=q;exact q
theorem kL{e:Expr}{v:V}(h:ay P st n sc σ e=some v):∀x p,e≠.Starred x p:=λx p q=>uf (q▸h)
theorem zE{k:Nat}{e:Expr}{o:V×St}(h:fw P n sc σ k st e=some o):∀x p,e≠.Starred x p:=λx p q=>by
 subst q;rcases k with _|k
 ·exact bM h
 ·exact fz h λ_ h _=>uf h
theorem AU(W:Wx prog w ag mg mb r P){o e:Expr}{ap cp z:Pos}{l:Nat}{vs:List V}{v:V}
  (ho:ay P st n sc σ o=some (.loc l)) (hl:st[l]?=some vs) (hs:vs.length<=10000) (hc:ft o=aj) (vf:(ap.endLine==cp.line)=aj) (hv:ay P st n sc σ e=some v) (f:Fx ag r n ι Av st A env sc σ s):
  SE prog w ag r n ι Av A env sc (kR (.Expr (.Call (.Attribute o (ar "append") ap) [e] [] cp) z) env) (.next,σ,fX st l (vs++[v])) s:=by
 have H:=r7 W.d n;refine sE W PySem.F.slot_list_append PySem.F.type_list_append ho hl hc vf (eB.nil.cons (kL hv)) (by simp) f λa s1 x1 f1 hi=>bT ((H.ev hv f1.a).go λu s2 x2 po r2=>eH ?_) (j5 (kL hv));have f2:=f1.ext x2 po;refine j8 (f2.tC (.loc hi) hl) λa' ws e1 Fd nS hz rs=>?_;cases e1;have el:=rs.length;refine AV nS hz λh' v8 jq=>⟨rfl,?_⟩;exact hO ((fR.c7 (x1.trans x2)).trans (.chg v8 (.inl (aX hi)) (eE jq λk e=>⟨_,e⟩))) (f2.qW hi v8 jq (by refine am aE ?_;simp;exact(dp _ _ 1 V0 (.k 16777215) (D1 V0 V1 (D1 V1 (.k 10000) .n)) rfl (ac el.symm) hs)) (rs.append (.cons r2 .nil)) f2.a.c.tk)
theorem z7(W:Wx prog w ag mg mb r P){o e e2:Expr}{ap cp z:Pos}{l:Nat}{vs El us:List V}{v:V}{k:Int}{eJ:St}{fu:Nat}
  (ho:ay P st n sc σ o=some (.loc l)) (hl:st[l]?=some vs) (hc:ft o=aj) (vf:(ap.endLine==cp.line)=aj) (hk:ay P st n sc σ e=some (.int k)) (hv:fw P n sc σ fu st e2=some (v,eJ)) (Ai:eJ[l]?=some El) (hs:El.length<=10000) (sM:wU El k v=some us)
  (f:Fx ag r n ι Av st A env sc σ s):
  SE prog w ag r n ι Av A env sc (kR (.Expr (.Call (.Attribute o (ar "insert") ap) [e,e2] [] cp) z) env) (.next,σ,fX eJ l us) s:=by
 have H:=r7 W.d n;refine sE W aer PySem.F.type_list_insert ho hl hc vf ((eB.nil.cons (zE hv)).cons (kL hk)) (by simp) f λa s1 x1 f1 hi=>bT ((H.ev hk f1.a).go λu s2 x2 po r2=>?_) (j5 (kL hk));have f2:=f1.ext x2 po;refine bT (aV ((zx H fu).1 hv f2) (λy s3 q=>eH ?_) λ_ _ f=>f.elim) (j5 (zE hv));refine c3 q λWQ Av3 fy f3 r3=>j8 (f3.tC (.loc (fy.io _ _ hi)) Ai) λa' ws e1 Fd nS hz rs=>?_;cases e1;have el:=rs.length;cases r2;unfold wU at sM;split at sM
 ·rename_i h0;have qq:=au sM;subst qq;refine z8 nS h0.1 (abX h0 el) hz λh' v8 jq=>⟨rfl,?_⟩;have:=f3.qW Fd v8 jq (by refine am aE (am aS (am eg (am da ?_)));exact abW el hs) ((rs.take _).append (.cons r3 (rs.drop _))) f3.a.c.tk;exact hO (((fR.c7 (x1.trans x2)).trans fy).trans (.chg v8 (.inl (aX Fd)) (eE jq λk e=>⟨_,e⟩))) this
 ·exact bM sM
theorem Aw(W:Wx prog w ag mg mb r P){o:Expr}{es:List Expr}{tk:Nat}{tp ap cp z:Pos}{l:Nat}{vs us:List V}
  (ho:ay P st n sc σ o=some (.loc l)) (hl:st[l]?=some vs) (hs:vs.length<=10000) (hc:ft o=aj) (vf:(ap.endLine==cp.line)=aj) (OS:es.length<=100) (hv:b3 P st n sc σ es=some us) (f:Fx ag r n ι Av st A env sc σ s):
  SE prog w ag r n ι Av A env sc (kR (.Expr (.Call (.Attribute o (ar "extend") ap) [.Tuple es tk tp] [] cp) z) env) (.next,σ,fX st l (vs++us)) s:=by
 have H:=r7 W.d n;refine sE W aes PySem.F.type_list_extend ho hl hc vf (eB.nil.cons (by intro _ _ q;exact b5 q)) (by simp) f λa s1 x1 f1 hi=>?_;have hlen:=(H.Ay hv f1.a).2.1;refine bT (mn (H.tX hv f1.a λxs s2 x2 po rx=>?_));have MR:=rx.length;refine⟨by refine am bC ?_;exact(fM _ _ _ 1 V0 (.k 16777216) (D1 V0 V1 (D1 V1 V2 (D1 V2 (.k 100) .n))) rfl (ac MR.symm) (ac hlen) OS),eH ?_⟩;have x3:ja (dM ag) s2 {s2 with heap:=s2.heap.push {cls:=.type "tuple",data:=.seq xs.toArray}}:=.push _;have f2:=(f1.ext x2 po).ext x3 po;refine j8 (f2.tC (.loc hi) hl) λa' ws e1 Fd nS hz rs=>?_;cases e1;have el:=rs.length;refine Ax (us:=xs) nS (bN _ rfl) (o58 el hs MR hlen OS) λh' v8 jq=>⟨rfl,?_⟩;exact hO ((fR.c7 ((x1.trans x2).trans x3)).trans (.chg v8 (.inl (aX hi)) (eE jq λk e=>⟨_,e⟩))) (f2.qW hi v8 jq (by refine am aE ?_;exact o58 el hs MR hlen OS) (rs.append (rx.ext x3.heap)) f2.a.c.tk)
theorem BO(W:Wx prog w ag mg mb r P){x:Str}{np Fw pos:Pos}{a:Expr}{c:aN}{t:Str}(hnm:fY P sc σ x=some (.obj c))(hr:P.Rc c=aj)
  (hv:ay P st n sc σ a=some (.str t)) (f:Fx ag r n ι Av st A env sc σ s):
  SE prog w ag r n ι Av A env sc (kR (.Raise (some (.Call (.Name x np) [a] [] Fw)) ah pos) env) (.exc c t,σ,st) s:=by
 have H:=r7 W.d n;refine W.rs c hr A env s x np Fw pos a _ _ f.a.c.hh (kL hv) (cM (n:=1) f.a.c.tk (gY W.d f.a hnm λu s1 x1 r1 gg=>?_));cases r1;have f1:=f.ext x1 gg;refine⟨rfl,(H.ev hv f1.a).go λy s2 x2 po r2=>?_⟩;have f2:=f1.ext x2 po
 cases r2 with
 |str _ tt _=>
 refine⟨f2.a.c.kp,λh' e hm=>⟨ι,Av,s,.refl _,c,t,tt,e,s2,rfl,rfl,x1.trans x2,f2,h',rfl,hm⟩⟩
end
set_option backward.match.sparseCases true
structure VK(ag:ca)(A:b9)(env:Env)(C:aN):Prop where
 l:env.locals≠C
 c:∀x c,env.cells.lookup x=some c->c≠C
 z:ag.get? C=ah
 fr:∀l,A.frames=some l->∀e∈l,e.frame≠some C
theorem vm{h base:ca}{l:List Env}:h.FunFrames base l->∀e∈l,∃L o,e.frame=some L/\h.get? L=some o:=by
 induction l with
 |nil=>exact λ_ e hm=>nomatch hm
 |cons env rest ih=>
  intro x e hm;rcases ax.mp hm with q|hm
  ·exact cU x.2.1 λL o hf _ ho _=>jp L o (q▸hf) ho
  ·exact ih x.2.2 e hm
theorem vp{h h' base:ca}{C:aN->Prop}(hs:∀b o,¬C b->h.get? b=some o->h'.get? b=some o){l:List Env}:(∀e∈l,∀c,C c->e.frame≠some c)->h.FunFrames base l->h'.FunFrames base l:=by
 induction l with
 |nil=>exact λ_ _=>trivial
 |cons env rest ih=>
  intro hC x;exact cU x.2.1 λL o hf hn ho hd=>⟨x.1,⟨L,o,hf,hn,hs L o (λq=>hC env (.head _) L q hf) ho,hd⟩,ih (λe he=>hC e (.tail _ he)) x.2.2⟩
section
variable{w:bz}{r:Nat}{s:ai}{n:Nat}
theorem Fx.off{C:aN}(f:Fx ag r n ι Av st A env sc σ s)(hC:s.heap.get? C=ah):VK ag A env C:=by
 refine⟨λq=>?_,λx c h q=>?_,?_,λl hl e he q=>?_⟩
 ·refine cW f.a.e.loc λm' hm _=>?_;refine l7 hm λo _ _ ho _=>?_;replace ho:=hC▸q▸ho;exact bM ho
 ·refine iw (f.cc x c h) λim o ho _=>?_;replace ho:=hC▸q▸ho;exact bM ho
 ·cases e:ag.get? C with
  |none=>rfl
  |some o=>have:=f.a.c.kp C o e;rw[hC]at this;cases this
 ·refine eN f.a.c.fr λl' h1 h2 _=>?_;cases kM hl h1;refine iw (vm h2 e he) λL o hf ho=>?_;cases kM q hf;rw[hC]at ho;cases ho
theorem Fx.IR{C:aN->Prop}{h':ca}{k:Nat}(g:Fx ag r n ι Av st A env sc σ s)(of:∀c,C c->VK ag A env c)(kH:∀c,C c->c∉Av)(hq:∀c,C c->∀o,s.heap.get? c=some o->∀jk n,o.data≠.seq jk n)
  (hs:∀b o,¬C b->s.heap.get? b=some o->h'.get? b=some o) (tk:1<=k):Fx ag r n ι Av st A env sc σ {s with heap:=h',toks:=k}:=by
 have ne:=g.a.e;have mv:∀{v:V} {u:ao},bZ s.heap ι Av v u->bZ h' ι Av v u:=λr=>r.move λa o ha e hd=>⟨ha,hs a o (λq=>by refine mO hd λjk n hd=>?_;exact hq a q o e jk n hd) e⟩;have Ki:∀{v:List V} {u:List ao},bq s.heap ι Av v u->bq h' ι Av v u:=λr=>r.move λa o ha e hd=>⟨ha,hs a o (λq=>by refine mO hd λjk n hd=>?_;exact hq a q o e jk n hd) e⟩;refine⟨⟨⟨g.a.c.hh,g.a.c.dep,g.a.c.A8,?_,tk,λb o e=>hs b o (λq=>?_) (g.a.c.kp b o e)⟩,⟨λb hb=>?_,g.a.S.Bb,g.a.S.nd,g.a.S.len,λl vs q=>?_⟩,⟨ne.kind,ne.gl,ne.bu,ne.nm,?_,λy hy=>?_,λy u hy hu=>?_⟩⟩,g.l0,g.c0,g.i0,g.ap,λy c h=>?_⟩
 ·refine eN g.a.c.fr λl h1 h2 h3=>ml l h1 (vp hs (λe he c hc=>(of c hc).fr l h1 e he) h2) (λe he L hL=>?_);exact l7 (h3 e he L hL) λo es nn e1 e2=>rz o es nn (hs L o (λq=>(of L q).fr l h1 e he hL) e1) e2
 ·replace e:=((of b q).z)▸e;exact bM e
 ·exact eE (g.a.S.av b hb) λo e=>⟨o,hs b o (λq=>kH b q hb) e⟩
 ·refine gen λGG fN=>?_;refine cU (g.a.S.at_ l vs q) λa ws h1 F7 h3 h4=>?_;obtain⟨k,h2⟩:=F7;refine fN ?_;exact gM a ws h1 ⟨k,hs a _ (λq=>kH a q (g.a.S.Bb a (aX h1))) h2⟩ h3 (Ki h4)
 ·refine cW ne.loc λm' h1 h2=>jW m' ?_ (λy u hy hu=>cW (h2 y u hy hu) λw' h3 h4=>⟨w',h3,mv h4⟩);exact l7 h1 λo es ep ho rest=>rz o es ep (hs _ o (λq=>(of _ q).l rfl) ho) rest
 ·exact Py (ne.sS y hy) λc im h1 o h2 h3=>OR c im h1 o (hs c o (λq=>(of c q).c y c h1 rfl) h2) h3
 ·refine gen λGG fN=>?_;refine c3 (ne.D0 y u hy hu) λc w' h1 F7 h4=>?_;obtain⟨o,h2,h3⟩:=F7;refine fN ?_;exact iM c w' h1 ⟨o,hs c o (λq=>(of c q).c y c h1 rfl) h2,h3⟩ (mv h4)
 ·exact iw (g.cc y c h) λim o h2 h3=>jp im o (hs c o (λq=>(of c q).c y c h rfl) h2) h3
theorem Fx.but{C:aN}{h':ca}{k:Nat}(g:Fx ag r n ι Av st A env sc σ s)(of:VK ag A env C)(kH:C∉Av)(hq:∀o,s.heap.get? C=some o->∀jk n,o.data≠.seq jk n)(hs:agG C s.heap h')(tk:1<=k):Fx ag r n ι Av st A env sc σ {s with heap:=h',toks:=k}:=
 g.IR (C:=(·=C)) (λc q=>q▸of) (λc q=>q▸kH) (λc q=>q▸hq) (λb o hb e=>hs b o hb e) tk
theorem fR.IR{bk:aN->Prop}{X:aN->Prop}{db df:List aN}{g8:ai}{C:aN->Prop}{h':ca}{k:Nat}(x:fR bk X ι Av s db df g8)(hC:∀c,C c->s.heap.get? c=ah)(hs:∀b o,¬C b->g8.heap.get? b=some o->h'.get? b=some o):fR bk X ι Av s db df {g8 with heap:=h',toks:=k}:=by
 have ne:∀b o,s.heap.get? b=some o->¬C b:=λb o e q=>by rw[hC b q]at e;cases e
 refine⟨x.pre,x.sub,x.new,x.v5,λb o e hi hl=>?_,λb o e=>?_,?_⟩
 ·rcases x.ke b o e hi hl with h|⟨h1,h2,sl,h⟩
  ·exact .inl (hs b o (ne b o e) h)
  ·exact .inr ⟨h1,h2,sl,hs b _ (ne b o e) h⟩
 ·exact eE (x.al b o e) λo' h=>⟨o',hs b o' (ne b o e) h⟩
 ·refine mO x.sh λh k' fC=>?_;subst fC;exact Cb _ _ rfl
theorem fR.but{bk:aN->Prop}{X:aN->Prop}{db df:List aN}{g8:ai}{C:aN}{h':ca}{k:Nat}(x:fR bk X ι Av s db df g8)(hC:s.heap.get? C=ah)(hs:agG C g8.heap h'):fR bk X ι Av s db df {g8 with heap:=h',toks:=k}:=
 x.IR (C:=(·=C)) (λc q=>q▸hC) (λb o hb e=>hs b o hb e)
noncomputable abbrev xu(prog:cO)(w:bz)(ag:ca)(r n:Nat)(A:b9)(env:Env)(sc:Sc)(t:Expr)(b:List cy)(f:V->Sg->St->Option ga):Prop:=
 ∀(v:V) (u:ao) (σ:Sg) (st:St) (out:ga) (ι Av:List aN) (s:ai),f v σ st=some out->Fx ag r n ι Av st A env sc σ s->bZ s.heap ι Av v u->(∀c x,out.1≠.exc c x)->
  aA (az prog w) A (qH t env u) (λ_ s'=>aA (az prog w) A (jC b env) (jR ag r n ι Av A env sc out s) (λ_ _=>False) s') (λ_ _=>False) s
noncomputable def Vu(N:Sg->St->Prop)(o out:ga):Prop:=(o.1=.next/\N o.2.1 o.2.2)\/(o.1=.brk/\out=(.next,o.2))\/(∃u,o.1=.ret u/\out=o)
noncomputable def tn(g:Sg->St->Option ga)(o:ga):Option ga:=match o.1 with
 |.next=>g o.2.1 o.2.2
 |.brk=>some (.next,o.2)
 |.ret _=>some o
 |.exc _ _=>af
theorem qS{F:Option ga}{g:Sg->St->Option ga}{out:ga}(h:F.bind (tn g)=some out):∃o,F=some o/\(∀c x,o.1≠.exc c x)/\Vu (λσ st=>g σ st=some out) o out:=by
 refine bK h λo ho h=>⟨o,ho,?_⟩;clear ho;revert h;rcases o with⟨fl,o2⟩;rcases fl with _|_|u|⟨c,x⟩
 ·exact λh=>⟨λ_ _ q=>Fl.noConfusion q,.inl ⟨rfl,h⟩⟩
 ·exact λh=>⟨λ_ _ q=>Fl.noConfusion q,.inr (.inl ⟨rfl,(au h).symm⟩)⟩
 ·exact λh=>⟨λ_ _ q=>Fl.noConfusion q,.inr (.inr ⟨u,rfl,(au h).symm⟩)⟩
 ·exact bM
theorem qT{N:Sg->St->Prop}{o out:ga}{db df:List aN}{fl:vV}{s':ai}{R:mq->ai->Prop}{C:Prop}(hc:Vu N o out)(x:fR (dM ag) (mY env) ι Av s db df s')(f:Fx ag r n db df o.2.2 A env sc o.2.1 s')(lL:FlR s'.heap db df o.1 fl)
  (hR:∀fl s',jR ag r n ι Av A env sc out s fl s'->R (.ok fl) s') (k:N o.2.1 o.2.2->C):match(generalizing:=false) fl with
   |.next|.cont=>C
   |.brk=>R (.ok .next) s'
   |.ret v=>R (.ok (.ret v)) s':=by
 rcases hc with⟨h1,h2⟩|⟨h1,h2⟩|⟨u,h1,h2⟩
 ·rw[h1]at lL;have e:fl=.next:=lL
  subst e;exact k h2
 ·rw[h1]at lL;have e:fl=.brk:=lL;subst e;exact hR _ _ (h2▸⟨db,df,x,f,rfl⟩)
 ·subst h2;have hg:=lL;rw[h1]at lL;refine cW lL λuv e _=>?_;subst e;exact hR _ _ ⟨db,df,x,f,hg⟩
theorem tD{t:Expr}{I:aN}{x:ao}{o:Obj}{T:String}{s:ai}{Q:Unit->ai->Prop}(ho:s.heap.get? I=some o)(hc:o.cls=.type T)(hT:CT.contains T=an)(k:Q () s):aA (az prog w) A (ai6 t (.ref I) x) Q E s:=by
 have main:∀a,aA (az prog w) A (do
   let o<-load I
   match o.cls,o.data with
   |.type n,.fields vs=>
    if CT.contains n&&vs[0]?==some (rawInt a)then
     rule "for.unpacks-the-owned-tuple"
     updateField I 0 .none
   |_,_=>pure ():Sem Unit) Q E s:=λa=>by
  refine aR (Qg ho ?_);refine am hc ?_;cases hd:o.data<;>first|exact aO k|skip
  dsimp only;exact am hT (aO k)
 cases t<;>first|exact aO k|(cases x<;>first|exact aO k|exact main _)
theorem wP{X:(vV->ai->Prop)->ai->Prop}{t:Expr}{Bd:V->Sg->St->ga->Prop}{TT:List V->Sg->St->Prop}{vs:List V}{it:ao}{B:aN->Prop}{bI:ai}{out:ga}{R:mq->ai->Prop}(src:tR prog w A (dM ag) ι Av vs B s it bI)(hB:∀b,B b->b∉Av)(lg:1<=bI.toks)
  (fx:Fx ag r n ι Av st A env sc σ s) (hf:TT vs σ st) (mono:∀{Q Q':vV->ai->Prop} {s:ai},X Q s->(∀fl s',Q fl s'->Q' fl s')->X Q' s)
  (hTs:∀{v:V} {r:List V} {σ:Sg} {st:St},TT (v::r) σ st->∃o:ga,Bd v σ st o/\((o.1=.next/\TT r o.2.1 o.2.2)\/(o.1=.brk/\out=(.next,o.2))\/(∃u,o.1=.ret u/\out=o))) (hTz:∀{σ:Sg} {st:St},TT [] σ st->out=(.next,σ,st))
  (body:∀v x σ st o ι Av s,Bd v σ st o->Fx ag r n ι Av st A env sc σ s->bZ s.heap ι Av v x->aA (az prog w) A (qH t env x) (λ_ s₁=>X (λfl s'=>jR ag r n ι Av A env sc o s fl s') s₁) (λ_ _=>False) s)
  (hR:∀fl s',jR ag r n ι Av A env sc out s fl s'->R (.ok fl) s'):
  ∃LI:Nat->ai->Prop,LI (vs.length+1) bI/\∀k s',LI k s'->aA (az prog w) A (pyNext it) (λr s₁=>match r with
   |none=>R (.ok .next) s₁
   |some v=>aA (az prog w) A (ai6 t it v) (λ_ C2=>aA (az prog w) A (qH t env v) (λ_ bI=>X (λf cG=>match f with
      |.next|.cont=>∃m,m<k/\LI m cG
      |.brk=>R (.ok .next) cG
      |.ret v=>R (.ok (.ret v)) cG) bI) (λ_ _=>False) C2) (λ_ _=>False) s₁) (λ_ _=>False) s':=by
 have QY:=src.ext;refine src.ex _ λI fp P' St' hit W Ae Ux hIn hfb WA hP hI KT=>?_;clear src;have Jw:s.heap.get? I=ah:=cq hIn;have of:=fx.off Jw;have f2:=fx.ext QY lg;have Pi:I∉Av:=fx.a.S.av.none Jw;have hIf:I∈fp:=W.sub I (bh.mpr rfl);have hI2:bI.heap.get? I≠ah:=hI _ _ Ae _ λo fs T ho _ _ _ q=>nomatch ho.symm.trans q;refine Ut (λk s'=>∀G:Prop,(∀i yY y0 r8 oX,k=vs.length+1-i->i<=vs.length->fR (dM ag) (mY env) ι Av s r8 oX s'->Fx ag r n r8 oX y0 A env sc yY s'->St' i s'.heap->TT (vs.drop i) yY y0->
  (∀b∈oX,b∈Av\/bI.heap.get? b=ah)->(∀b o,bI.heap.get? b=some o->∃o',s'.heap.get? b=some o')->(∀b∈fp,b≠I->∀o,bI.heap.get? b=some o->s'.heap.get? b=some o)->G)->G) λLI FT BV=>⟨BV _ _ λ_ g=>g 0 σ st ι Av rfl (bo _) (.c7 QY) f2 Ae hf (λb h=>.inl h) (λb o e=>⟨o,e⟩) λb _ _ o e=>e,?_⟩
 intro k s' hz;refine FT _ _ hz _ λi yY y0 r8 oX hk hi fy fi OX qt hnw QL hkp=>?_;have MI:∀{Eb:List aN},(∀b∈Eb,b∈Av\/bI.heap.get? b=ah)->I∉Eb/\∀b∈fp,b≠I->b∉Eb:=λ{Eb} hw=>by
  refine⟨λh=>?_,λb hb Ao h=>?_⟩
  ·rcases hw I h with h|h
   ·exact Pi h
   ·exact hI2 h
  ·rcases hw b h with h|h
   ·rcases hfb b hb with q|⟨q,_⟩
    ·exact Ao q
    ·exact hB b q h
   ·exact KT b hb Ao _ λo jk k e _=>nomatch e.symm.trans h
 have M2:=(MI hnw).1;refine mO fy.sh λUu kk fC=>?_;subst fC;have QN:∀o,Uu.get? I=some o->∀jk n,o.data≠.seq jk n:=λo e jk n q=>by exact hI _ _ OX _ λo' fs T l4 Uw _ _=>nomatch(kM e l4▸q).symm.trans Uw
 subst hit;by_cases gE:i<vs.length
 ·refine cM (n:=1) fi.a.c.tk (W.item i _ _ _ gE OX λv ip lg hPv yr lw nr=>?_);dsimp only at nr lw⊢;have tG:agG I Uu ip:=λb o hb e=>lw b o (by simpa using hb) e;have Pv:=fi.but (h':=ip) of M2 QN tG nr;refine hI _ _ yr _ λoI fsI T Jt adx hT hTo=>tD Jt hT hTo ?_;refine cW (hP i v hPv) λv' MS rv=>?_;have OU:vs.drop i=v'::vs.drop (i+1):=by obtain⟨hl,e⟩:=aG.mp MS;rw[<-e];exact fU hl
  rw[OU]at qt;refine cW (hTs qt) λo ho Am=>?_;have lh:fR (dM ag) (mY env) ι Av s r8 oX {s with heap:=ip,toks:=lg}:=fy.but Jw tG;have rv2:bZ ip r8 oX v' v:=rv.fy lh fx;refine aV (body v' v yY y0 o r8 oX {s with heap:=ip,toks:=lg} ho Pv rv2) (λ_ cG mK=>mono mK λfl oh d=>?_) λ_ _ f=>f.elim;refine c3 d λNF Eb m9 f4 lL=>?_;have RD:=lh.trans m9;exact qT Am RD f4 lL hR λh2=>by
   have al2:∀b o,bI.heap.get? b=some o->∃o',ip.get? b=some o':=λb ob e=>by
    by_cases Ao:b=I
    ·exact⟨oI,Ao▸Jt⟩
    ·exact eE (QL b ob e) λo' e'=>⟨o',tG b o' Ao e'⟩
   have ade:∀b∈Eb,b∈Av\/bI.heap.get? b=ah:=λb h=>by
    rcases m9.new b h with h|h
    ·exact hnw b h
    ·cases e:bI.heap.get? b with
     |none=>exact .inr rfl
     |some ob=>refine eE (al2 b ob e) λo' e'=>?_;rw[h]at e';cases e'
   have MN:∀b∈fp,b≠I->∀ob,bI.heap.get? b=some ob->oh.heap.get? b=some ob:=λb hb Ao ob e=>by exact KT b hb Ao _ λo' jk kx l4 hd=>(m9.seq Pv ((MI hnw).2 b hb Ao) (tG b ob Ao (hkp b hb Ao ob e)) ⟨jk,kx,kM e l4▸hd⟩).2
   refine⟨vs.length+1-(i+1),am hk (o9 gE),BV _ _ λ_ g=>g (i+1) o.2.1 o.2.2 NF Eb rfl gE RD f4 (W.frame _ _ _ yr λb hb ob e=>?_) h2 ade (λb ob e=>?_) MN⟩
   ·by_cases Ao:b=I
    ·replace e:=Ao▸e;exact Ao▸(m9.ke I ob e (λh=>M2 (fi.a.S.Bb I h)) λq=>q.elim (λq=>of.l q.symm) λ⟨x,q⟩=>of.c x I q rfl).elim id λ⟨_,⟨es,kx,hd⟩,_⟩=>nomatch(kM Jt e▸adx).symm.trans hd
    ·exact KT b hb Ao _ λo' jk kx l4 hd=>MN b hb Ao ob (kM (tG b o' Ao (hkp b hb Ao o' l4)) e▸l4)
   ·exact(al2 b ob e).elim λo' e'=>m9.al b o' e'
 ·obtain rfl:i=vs.length:=aK hi (nW.mp gE);refine cM (n:=1) fi.a.c.tk (W.done _ _ _ OX λip lg lw nr=>?_);dsimp only at nr lw⊢;have tG:agG I Uu ip:=λb o hb e=>lw b o (by simpa using hb) e;replace qt:=vS▸qt;have e:=hTz qt;subst e;exact(hR _ _ ⟨r8,oX,fy.but Jw tG,fi.but of M2 QN tG nr,rfl⟩)
theorem wZ{t:Expr}{b:List cy}{f:V->Sg->St->Option ga}{vs:List V}{it:ao}{B:aN->Prop}{bI:ai}{out:ga}{R:mq->ai->Prop}(src:tR prog w A (dM ag) ι Av vs B s it bI)(hB:∀b,B b->b∉Av)(lg:1<=bI.toks)
  (fx:Fx ag r n ι Av st A env sc σ s) (hf:pL f vs σ st=some out) (body:xu prog w ag r n A env sc t b f)
  (hR:∀fl s',jR ag r n ι Av A env sc out s fl s'->R (.ok fl) s'):xg (az prog w) A (.forLoop t it b [] env) R bI:=
 (wP (X:=λQ s=>aA (az prog w) A (jC b env) Q (λ_ _=>False) s) (TT:=λvs σ st=>pL f vs σ st=some out) (Bd:=λv σ st o=>f v σ st=some o/\∀c x,o.1≠.exc c x) src hB lg fx hf
  (λh k=>aV h k λ_ _ f=>f) (λh=>(qS h).elim λo q=>⟨o,⟨q.1,q.2.1⟩,q.2.2⟩) (λh=>(au h).symm) (λv x σ st o ι Av s h fx rv=>body v x σ st o ι Av s h.1 fx rv h.2) hR).elim λLI q=>
  L4 LI (λk s' h=>aV (q.2 k s' h) (λo s₁ g=>by
   rcases o with _|v
   ·exact aO g
   ·exact aV g (λ_ bI g=>aV g (λ_ cG g=>aV g (λ_ _ g=>g) λ_ _ f=>f.elim) λ_ _ f=>f.elim) λ_ _ f=>f.elim) λ_ _ f=>f.elim) _ q.1
end
set_option backward.match.sparseCases false
section
variable{w:bz}{r:Nat}{s:ai}{n:Nat}
theorem Nl{α β:Type}{x:Option α}{d:Option β}{f:α->Option β}{y:β}{G:Prop}(h:x.elim d f=some y)(k1:x=ah->d=some y->G)(k2:∀a,x=some a->f a=some y->G):G:=by
 rcases x with _|a
 ·exact k1 rfl h
 ·exact k2 a rfl h
theorem Ih{t:Expr}{b:List cy}{f:V->Sg->St->Option ga}{l:Nat}{a:aN}{jw:Nat}{out:ga}{R:mq->ai->Prop}(hl:ι[l]?=some a)
  (fx:Fx ag r n ι Av st A env sc σ s) (hf:oT f l jw 0 σ st=some out) (body:xu prog w ag r n A env sc t b f)
  (hR:∀fl s',jR ag r n ι Av A env sc out s fl s'->R (.ok fl) s'):xg (az prog w) A (.forLoop t (.ref s.heap.objs.size) b [] env) R {s with heap:=s.heap.push {cls:=.type "list_iterator",data:=.fields #[.ref a,.int 0 0]}}:=by
 have Jw:s.heap.get? s.heap.objs.size=ah:=cq (aD _);generalize hIe:s.heap.objs.size=I at Jw⊢;have of:=fx.off Jw;have x2:ja (dM ag) s {s with heap:=s.heap.push {cls:=.type "list_iterator",data:=.fields #[.ref a,.int 0 0]}}:=.push _;have f2:=fx.ext x2 fx.a.c.tk;have Pi:I∉Av:=fx.a.S.av.none Jw;have adt:(s.heap.push {cls:=.type "list_iterator",data:=.fields #[.ref a,.int 0 0]}).IsListIter I a 0:=⟨_,hIe▸bN _ rfl,rfl,rfl⟩;refine Dy (λI t n h=>L4 I t n h) (λk s'=>∀G:Prop,(∀i yY y0 r8 oX,fR (dM ag) (mY env) ι Av s r8 oX s'->Fx ag r n r8 oX y0 A env sc yY s'->s'.heap.IsListIter I a i->oT f l k i yY y0=some out->I∉oX->G)->G) jw (λ_ g=>g 0 σ st ι Av (.c7 x2) f2 adt hf Pi) λLI FT BV=>?_;intro k s' hz;refine FT _ _ hz _ λi yY y0 r8 oX fy fi hit qt M2=>?_;have QN:∀o,s'.heap.get? I=some o->∀jk n,o.data≠.seq jk n:=λo e jk n q=>eN hit λo' l4 _ Uw=>nomatch(kM e l4▸q).symm.trans Uw;rcases k with _|k
 ·exact bM qt
 refine bK qt λvs Ae qt=>j8 (fi.tC (.loc (fy.io _ _ hl)) Ae) λa' ws e1 Fd nS hz rs=>?_;cases e1;refine Nl qt (λOU qt=>?_) λv' OU qt=>?_
 ·have hwn:(bl ws)[i]?=ah:=f8.trans (WI.mpr (by exact fM _ _ _ 1 V0 V2 (D1 V0 V1 (D1 V1 V2 .n)) rfl (ac rs.length.symm) (WI.mp OU)));exact wpAny_pyNext_list_end fx.a.c.hh hit nS.isList hwn λip tG=>aO (hR _ _ (au qt▸⟨r8,oX,fy.but Jw tG,fi.but of M2 QN tG fi.a.c.tk,rfl⟩))
 ·refine cW (rs.get OU) λu hu ru=>wpAny_pyNext_list_item hit nS.isList (x:=u) (f8.trans hu) λip O5 tG=>?_;have Pv:=fi.but (h':=ip) of M2 QN tG.extBut fi.a.c.tk;have adr:=O5;refine eN adr λoI Jt Wy UD=>tD Jt Wy (by decide+kernel) ?_;have lh:fR (dM ag) (mY env) ι Av s r8 oX {s' with heap:=ip,toks:=s'.toks}:=fy.but Jw tG.extBut;have ru2:bZ ip r8 oX v' u:=ru.move λa o ha e hd=>⟨ha,tG.extBut a o (λq=>hd.elim λjk hd=>hd.elim λn hd=>QN o (q▸e) jk n hd) e⟩;refine eN (qS qt) λo ho lP hc=>aV (body v' u yY y0 o r8 oX {s' with heap:=ip} ho Pv ru2 lP) (λ_ cG mK=>aV mK (λfl oh d=>?_) λ_ _ f=>f.elim) λ_ _ f=>f.elim;refine c3 d λNF Eb m9 f4 lL=>?_;exact qT hc (lh.trans m9) f4 lL hR λqt=>
   ⟨k,fe k,BV _ _ λ_ g=>g (i+1) o.2.1 o.2.2 NF Eb (lh.trans m9) f4 ((m9.ke I oI Jt (λh=>M2 (fi.a.S.Bb _ h)) λq=>q.elim (λq=>of.l q.symm) λ⟨x,q⟩=>of.c x _ q rfl).elim (λh=>⟨oI,h,Wy,UD⟩) λ⟨_,⟨es,kx,hd⟩,_⟩=>nomatch UD.symm.trans hd) qt
    λh=>(m9.new I h).elim M2 λh=>nomatch Jt.symm.trans h⟩
theorem zo{t:Expr}{b:List cy}{tf:Sg->St->Option Bool}{f:Sg->St->Option ga}{jw:Nat}{out:ga}{R:mq->ai->Prop}
  (fx:Fx ag r n ι Av st A env sc σ s) (hf:nw tf f jw σ st=some out)
  (test:∀σ st c ι Av s,tf σ st=some c->Fx ag r n ι Av st A env sc σ s->Et prog w (dM ag) A (tc t env (et t env)) c s)
  (body:∀σ st out ι Av s,f σ st=some out->Fx ag r n ι Av st A env sc σ s->(∀c x,out.1≠.exc c x)->aA (az prog w) A (jC b env) (jR ag r n ι Av A env sc out s) (λ_ _=>False) s)
  (hR:∀fl s',jR ag r n ι Av A env sc out s fl s'->R (.ok fl) s'):xg (az prog w) A (.whileLoop t b [] env) R s:=by
 refine Dy (λI t n h=>codeAny_whileLoop I t n h) (λk s'=>∀G:Prop,(∀yY y0 r8 oX,fR (dM ag) (mY env) ι Av s r8 oX s'->Fx ag r n r8 oX y0 A env sc yY s'->nw tf f k yY y0=some out->G)->G) jw (λ_ g=>g σ st ι Av (.refl s) fx hf) λLI FT BV=>?_;intro k s' hz;refine FT _ _ hz _ λyY y0 r8 oX fy fi qt=>?_;rcases k with _|k
 ·exact bM qt
 refine bK qt λc hc qt=>(test _ _ _ _ _ _ hc fi).go λs1 x1 gg=>?_;have f1:=fi.ext x1 gg;have GD:=fy.trans (.c7 x1);rcases c with _|_
 ·exact aO (hR _ _ (au qt▸⟨r8,oX,GD,f1,rfl⟩))
 ·refine eN (qS qt) λo ho lP hc=>aV (body _ _ _ _ _ _ ho f1 lP) (λfl oh d=>?_) λ_ _ f=>f.elim;exact c3 d λNF Eb m9 f4 lL=>qT hc (GD.trans m9) f4 lL hR λqt=>⟨k,fe k,BV _ _ λ_ g=>g o.2.1 o.2.2 NF Eb (GD.trans m9) f4 qt⟩
end
section
variable{w:bz}{r:Nat}{s:ai}{n:Nat}
theorem Ii{elts:List Expr}{x1:Nat}{pos:Pos}{b:List cy}{f:V->Sg->St->Option ga}{vs:List V}{ws:List ao}{l:aN}{out:ga}{R:mq->ai->Prop}(hl:s.heap.IsList l ws.toArray)(hlA:l∉Av)(rs:bq s.heap ι Av vs ws)(hz:ws.length<=16777216)
  (fx:Fx ag r n ι Av st A env sc σ s) (hf:pL f (oN 0 vs) σ st=some out) (body:xu prog w ag r n A env sc (.Tuple elts x1 pos) b f)
  (hR:∀fl s',jR ag r n ι Av A env sc out s fl s'->R (.ok fl) s') {E':ao->ai->Prop}:
  aA (az prog w) A (call (.type "enumerate") [.ref l]) (λx s₁=>aA (az prog w) A (mo x) (λit bI=>xg (az prog w) A (.forLoop (.Tuple elts x1 pos) it b [] env) R bI) E' s₁) E' s:=by
 refine call_enumerate_list hl λgZ he hit hsz hk=>wpAny_pyIter_enum he ?_;have HU:s.heap.get? s.heap.objs.size=ah:=cq (aD _);have UB:s.heap.get? (s.heap.objs.size+1)=ah:=cq (iB _);have lP:s.heap.objs.size+1≠s.heap.objs.size:=Nat.succ_ne_self _;have KW:l≠s.heap.objs.size/\l≠s.heap.objs.size+1:=by refine cW hl λo ho _=>?_;have:=dK ho;exact⟨dk this,dk (iA this)⟩
 generalize s.heap.objs.size=I at he hit HU UB lP KW⊢;generalize I+1=e at he UB lP KW⊢;have XY:=fx.off HU;have ofE:=fx.off UB;have x2:ja (dM ag) s {s with heap:=gZ}:=.Ds hk;have f2:=fx.ext x2 fx.a.c.tk;have hIA:I∉Av:=fx.a.S.av.none HU;have hEA:e∉Av:=fx.a.S.av.none UB;have el:=rs.length;refine Dy (λI t n h=>L4 I t n h) (λk s'=>∀G:Prop,(∀(i:Nat) (FS:ao) (yY:Sg) (y0:St) (r8 oX:List aN),k=vs.length+1-i->i<=vs.length->fR (dM ag) (mY env) ι Av s r8 oX s'->Fx ag r n r8 oX y0 A env sc yY s'->IsEnum s'.heap e I ((i:Nat):Int) FS->s'.heap.IsListIter I l i->s'.heap.IsList l ws.toArray->
  pL f (oN i (vs.drop i)) yY y0=some out->I∉oX->e∉oX->l∉oX->G)->G) (vs.length+1) (λ_ g=>g 0 .none σ st ι Av rfl (bo _) (.c7 x2) f2 he hit (hl.at (hk l)) hf hIA hEA hlA) λLI FT BV=>?_
 intro k s' hz;refine FT _ _ hz _ λi FS yY y0 r8 oX hk hi fy fi Ww O6 hli qt hI hE hL=>?_;have nI:∀o,s'.heap.get? I=some o->∀jk n,o.data≠.seq jk n:=λo x jk n q=>eN O6 λo' l4 _ j7=>nomatch(kM x l4▸q).symm.trans j7;by_cases gE:i<vs.length
 ·refine cW (rs.get (k:=i) (v:=vs[i]) (aC gE)) λxv hxv rxv=>?_;refine wpAny_pyNext_enum_item Ww O6 hli (f8.trans hxv) lP λh2 Uz ads Wk hz2 hk2=>?_;refine wpAny_letOwnedTupleGo_enum Uz λh3 he3 Wm=>?_;dsimp only at hk2 Wm⊢;have hks:∀b o,¬(b=e\/b=I)->s'.heap.get? b=some o->h3.get? b=some o:=λb o hb x=>Wm.extBut b o (λq=>hb (.inl q)) (hk2 b o (λq=>hb (.inl q)) (λq=>hb (.inr q)) x);have Pv:=fi.IR (h':=h3) (k:=s'.toks+1) (C:=λb=>b=e\/b=I) (λc hc=>hc.elim (λq=>q▸ofE) λq=>q▸XY) (λc hc=>hc.elim (λq=>q▸hE) λq=>q▸hI)
   (λc hc o x jk n q=>hc.elim (λe=>gR ((kM Ww (e▸x))▸q)) λe=>nI o (e▸x) jk n q) hks (jE _ _)
  have lh:fR (dM ag) (mY env) ι Av s r8 oX {s' with heap:=h3,toks:=s'.toks+1}:=fy.IR (C:=λb=>b=e\/b=I) (λc hc=>hc.elim (λq=>q▸UB) λq=>q▸HU) hks;have hae:s'.heap.objs.size≠e:=Nat.ne_of_gt (dK Ww);have ht3:=Wm.extBut _ _ hae Wk;have rt:bZ h3 r8 oX (.tup [.int (i:Int),vs[i]]) (.ref s'.heap.objs.size):=.tup (ws:=[.int i s'.toks,xv]) ⟨_,ht3,rfl,_,rfl⟩ fi.a.S.av.new (show 2<=16777216 by decide) (.cons (.int _ _) (.cons (rxv.fy lh fx) .nil));have hdr:oN i (vs.drop i)=.tup [.int (i:Int),vs[i]]::oN (i+1) (vs.drop (i+1)):=congrArg (oN i) (fU gE);replace qt:=hdr▸qt;refine eN (qS qt) λo ho hnx hc=>aV (body _ _ yY y0 o r8 oX {s' with heap:=h3,toks:=s'.toks+1} ho Pv rt hnx) (λ_ cG mK=>aV mK (λfl oh d=>?_) λ_ _ f=>f.elim) λ_ _ f=>f.elim;refine c3 d λNF Eb m9 f4 lL=>eN (ads.extBut Wm.extBut (tM lP)) λoI Jt Wy UD=>?_;have ex:∀{b o},h3.get? b=some o->b∉oX->b∉Eb:=λ{b o} e hb h=>(m9.new b h).elim hb λh=>nomatch e.symm.trans h;have ke:∀{b o},h3.get? b=some o->b∉oX->VK ag A env b->(∀es k,o.data≠.dict es k)->oh.heap.get? b=some o:=λ{b o} e hb of hd=>
   (m9.ke b o e (λh=>hb (fi.a.S.Bb b h)) λq=>q.elim (λq=>of.l q.symm) λ⟨x,q⟩=>of.c x b q rfl).elim id λ⟨_,⟨es,kx,j7⟩,_⟩=>bV j7 (hd _ _)
  refine qT hc (lh.trans m9) f4 lL hR λh2=>kI hli λol hol yy nl DB=>?_;have Uh:=hks l ol (λq=>q.elim KW.2 KW.1) hol;exact⟨vs.length+1-(i+1),am hk (o9 gE),BV _ _ λ_ g=>g (i+1) xv o.2.1 o.2.2 NF Eb rfl gE (lh.trans m9) f4 (ke he3 hE ofE λes k q=>gR q) ⟨oI,ke Jt hI XY (λes k q=>nomatch UD.symm.trans q),Wy,UD⟩ ⟨ol,(m9.seq Pv hL Uh ⟨_,_,DB⟩).2,yy,nl,DB⟩ h2 (ex Jt hI) (ex he3 hE) (ex Uh hL)⟩
 ·have ei:i=vs.length:=aK hi (nW.mp gE);subst ei;refine wpAny_pyNext_enum_end fx.a.c.hh Ww O6 hli (by simp[el]) λh2 tG=>?_;replace qt:=vS▸qt;exact aO (hR _ _ (au qt▸⟨r8,oX,fy.but HU tG,fi.but XY hI nI tG fi.a.c.tk,rfl⟩))
end
structure SX(prog:cO)(w:bz)(ag:ca)(r n:Nat)(P:pD)(m:Nat):Prop where
 ss:∀{ι Av:List aN} {st:St} {A:b9} {env:Env} {sc:Sc} {σ:Sg} {s:ai} {b:List cy} {out:ga},bW P m sc σ st b=some out->Fx ag r n ι Av st A env sc σ s->SE prog w ag r n ι Av A env sc (jC b env) out s
 s1:∀{ι Av:List aN} {st:St} {A:b9} {env:Env} {sc:Sc} {σ:Sg} {s:ai} {b:cy} {out:ga},bi P m sc σ st b=some out->Fx ag r n ι Av st A env sc σ s->SE prog w ag r n ι Av A env sc (kR b env) out s
section
variable{w:bz}{r:Nat}{s:ai}{n m:Nat}
theorem SE.calm{t:Sem vV}{out:ga}(h:SE prog w ag r n ι Av A env sc t out s)(lP:∀c x,out.1≠.exc c x){E:ao->ai->Prop}{Q:vV->ai->Prop}(k:∀fl s',jR ag r n ι Av A env sc out s fl s'->Q fl s'):aA (az prog w) A t Q E s:=
 aV h k λe s' q=>q.elim λ_ q=>q.elim λ_ q=>q.elim λ_ q=>q.2.elim λc q=>q.elim λx q=>q.elim λ_ q=>q.elim λ_ q=>q.elim λ_ q=>(lP c x q.1).elim
theorem jR.step{out:ga}{db df:List aN}{s' g8:ai}{fl:vV}(x:fR (dM ag) (mY env) ι Av s db df s')(d:jR ag r n db df A env sc out s' fl g8):jR ag r n ι Av A env sc out s fl g8:=
 d.elim λqM q=>q.elim λsd q=>⟨qM,sd,x.trans q.1,q.2⟩
theorem SE.from{t:Sem vV}{out:ga}{db df:List aN}{s':ai}(x:fR (dM ag) (mY env) ι Av s db df s')(h:SE prog w ag r n db df A env sc t out s'):aA (az prog w) A t (jR ag r n ι Av A env sc out s) (λe g8=>∃CW Ea fV,fR (dM ag) (mY env) ι Av s CW Ea fV/\CN ag r n CW Ea A env sc out fV e g8) s':=
 aV h (λfl g8 d=>d.step x) λe g8 q=>q.elim λCW q=>q.elim λEa q=>q.elim λfV q=>⟨CW,Ea,fV,x.trans q.1,q.2⟩
theorem SE.stop{rest:List cy}{b:cy}{o:ga}(q:SE prog w ag r n ι Av A env sc (kR b env) o s)(hn:o.1≠.next):SE prog w ag r n ι Av A env sc (jC (b::rest) env) o s:=by
 refine qC (aV q (λfl s1 d=>?_) λ_ _ e=>e);refine c3 d λqM sd fy f1 lL=>?_;rcases o with⟨_|_|v|⟨c,x⟩,o2⟩
 ·exact bV rfl hn
 ·rw[show fl=.brk from lL]at d⊢;exact d
 ·refine cW lL λu e _=>?_;rw[e]at d⊢;exact d
 ·exact lL.elim
theorem JS(X:SX prog w ag r n P m){b:List cy}{out:ga}(h:bW P (m+1) sc σ st b=some out)(f:Fx ag r n ι Av st A env sc σ s):SE prog w ag r n ι Av A env sc (jC b env) out s:=by
 rcases b with _|⟨b,rest⟩
 ·exact au h▸Ed ⟨ι,Av,.refl s,f,rfl⟩
 ·refine bK h λo ho h=>?_;have q:=X.s1 ho f;rcases o with⟨_|_|v|⟨c,x⟩,mj,gA⟩
  ·refine qC (q.calm (λ_ _ q=>Fl.noConfusion q) λfl s1 d=>?_);refine c3 d λqM sd fy f1 lL=>am (show fl=.next from lL) ?_
   exact SE.from fy (X.ss h f1)
  ·exact au h▸q.stop nofun
  ·exact au h▸q.stop nofun
  ·exact au h▸q.stop nofun
theorem um(X:SX prog w ag r n P m){t:Expr}{b:List cy}:xu prog w ag r n A env sc t b (λv σ st=>(dq sc t v σ).bind λcR=>bW P m sc cR st b):=
 λv u σ st out ι Av s h f rv lP=>bK h λcR hb h=>lC hb f rv λs1 f1 fy=>(X.ss h f1).calm lP λfl s2 d=>d.step fy
theorem zN(X:SX prog w ag r n P m)(H:pB prog w ag r P m){t i:Expr}{b:List cy}{z:Pos}{v:V}{run:Md}{out:ga}(hv:ay P st m sc σ i=some v)(hr:wm st v=some run)
  (h:(match run with
    |.fixed vs=>pL (λv σ st=>(dq sc t v σ).bind λcR=>bW P m sc cR st b) vs σ st
    |.enum vs=>ah
    |.live l=>oT (λv σ st=>(dq sc t v σ).bind λcR=>bW P m sc cR st b) l 100000 0 σ st)=some out) (f:Fx ag r n ι Av st A env sc σ s):
  SE prog w ag r n ι Av A env sc (kR (.For t i b [] z) env) out s:=by
 refine wpAny_For ((H.ev hv f.a.any).go λx s1 x1 gg r1=>?_) (λx=>ul (ya hv) x);have f1:=f.ext x1 gg;refine gen λG bP=>?_;have key:(∀l,v≠.loc l)->(kD st v).map Md.fixed=some run->G:=λhi hr=>fz hr λvs g' e=>bP (by subst e;exact aV (kz gg (qn (bk:=dM ag) (Q:=λit bI=>tR prog w A (dM ag) ι Av vs (λb=>b∉Av) s1 it bI) (E:=λ_ _=>False) f1.a.S f1.a.c.hh g' r1 λit bI src=>src.mono λb hb=>hb.elim id λq=>q.elim λ_ q=>(hi _ q.1).elim)) (λit bI q=>wZ q.2 (λ_ h=>h) q.1 f1 h (um X) λfl s' d=>d.step (.c7 x1)) λ_ _ f=>f.2.elim)
 rcases v with _|_|_|_|_|_|_|l|_|_<;>try exact key nofun hr
 have e:=au hr;subst e;refine bP (r1.e7 λa hl=>?_);have gE:l<st.length:=by refine jj f1.a.S.len ?_;exact(aG.mp hl).1
 refine cU (f1.tC (.loc hl) (aC gE)) λa' ws e1 _ nS _=>?_;have e1:=amk e1;subst e1;exact wpAny_pyIter_list nS.isList (Ih hl f1 h (um X) λfl s' d=>d.step (.c7 x1))
theorem BM(W:Wx prog w ag mg mb r P)(X:SX prog w ag r n P m){t a:Expr}{p p' z:Pos}{b:List cy}{vs:List V}{out:ga}(hv:g7 P st m sc σ (.Call (.Name (ar "range") p) [a] [] p')=some vs)
  (h:pL (λv σ st=>(dq sc t v σ).bind λcR=>bW P m sc cR st b) vs σ st=some out) (f:Fx ag r n ι Av st A env sc σ s):
  SE prog w ag r n ι Av A env sc (kR (.For t (.Call (.Name (ar "range") p) [a] [] p') b [] z) env) out s:=by
 refine gen λG bP=>?_;rcases m with _|m'
 ·exact bM hv
 ·refine cC hv λhs hv=>bK hv λu hu hv=>?_
  ·revert hv;rcases u with _|_|kk|_|_|_|_|_|_|_<;>try exact bM
   intro hv;refine cC hv λhk hv=>bP ?_;have e:=au hv;subst e;refine wpAny_For (aV (uT (B:=λ_=>False) W.d (r7 W.d m') hs hu hk f.a.any (kL hu)) (λx s1 q=>?_) λ_ _ f=>f.elim) (λx=>rfl);have f1:=f.ext q.1 q.2.1;exact aV (kz q.2.1 (q.2.2 (λit bI=>tR prog w A (dM ag) ι Av _ (λ_=>False) s1 it bI) λ_ _ z=>z)) (λit bI q2=>wZ q2.2 (λ_ h=>h.elim) q2.1 f1 h (um X) λfl s' d=>d.step (.c7 q.1)) λ_ _ f=>f.2.elim
theorem Fu(W:Wx prog w ag mg mb r P)(X:SX prog w ag r n P m){elts:List Expr}{x1:Nat}{tp:Pos}{a:Expr}{p p' z:Pos}{b:List cy}{vs:List V}{out:ga}(hs:sc.lookup (ar "enumerate")=some .globalImplicit)(hv:ay P st m sc σ a=some (.lst vs))
  (h:pL (λv σ st=>(dq sc (.Tuple elts x1 tp) v σ).bind λcR=>bW P m sc cR st b) (oN 0 vs) σ st=some out) (f:Fx ag r n ι Av st A env sc σ s):
  SE prog w ag r n ι Av A env sc (kR (.For (.Tuple elts x1 tp) (.Call (.Name (ar "enumerate") p) [a] [] p') b [] z) env) out s:=by
 have H:=r7 W.d m;refine wpAny_For (iW (iG W.d f.a (by decide+kernel) aq0 hs ?_)) (λx=>rfl);refine g5 (.inr ⟨_,rfl⟩) (eB.nil.cons (kL hv)) (bT ((H.ev hv f.a.any).go λx s1 x1 gg r1=>eH ?_) (j5 (kL hv)));exact r1.e6 λ_ _ nS hna hz rs=>Ii nS.isList hna rs hz (f.ext x1 gg) h (um X) λfl s' d=>d.step (.c7 x1)
end
section
variable{w:bz}{r:Nat}{s:ai}{n m:Nat}
theorem SE.any{n':Nat}{t:Sem vV}{out:ga}(h:SE prog w ag r n ι Av A env sc t out s):SE prog w ag r n' ι Av A env sc t out s:=
 aV h (λfl s' q=>q.elim λqM q=>q.elim λsd q=>⟨qM,sd,q.1,q.2.1.any,q.2.2⟩)
  λe s' q=>q.elim λqM q=>q.elim λsd q=>q.elim λfV q=>⟨qM,sd,fV,q.1,q.2.elim λc q=>q.elim λx q=>q.elim λt q=>q.elim λea q=>q.elim λs₁ q=>⟨c,x,t,ea,s₁,q.1,q.2.1,q.2.2.1,q.2.2.2.1.any,q.2.2.2.2⟩⟩
theorem l9{f:Expr}{args:List Expr}{qm:List Keyword}{p:Pos}{t:Expr}:yU [t] (.Call f args qm p) env=pure ah:=uJ nofun
noncomputable def ID(e:Expr):Bool:=Expr.casesOn (motive_1:=λ_=>Bool) e (λ_ _ _=>an) (λ_ _ _=>an) (λ_ _ _ _=>an) (λ_ _ _=>an) (λ_ _ _ _=>an) (λ_ _ _ _=>an) (λ_ _ _=>an) (λ_ _ _=>an) (λ_ _ _ _=>aj) (λ_ _ _ _=>aj) (λ_ _ _ _ _=>aj) (λ_ _ _ _=>an) (λ_ _=>an) (λ_ _=>an) (λ_ _=>an) (λ_ _ _ _=>an) (λ_ _ _ _=>an) (λ_ _ _ _=>an) (λ_ _=>an) (λ_ _ _=>an) (λ_ _ _=>an) (λ_ _ _=>an) (λ_ _=>an) (λ_ _=>an) (λ_ _=>an) (λ_ _ _=>an) (λ_ _ _ _=>an)
theorem zt{e:Expr}(h:ID e=an):(∀a b c d,e≠.ListComp a b c d)/\(∀a b c d,e≠.SetComp a b c d)/\(∀a b c d f,e≠.DictComp a b c d f):=
 ⟨λ_ _ _ _ q=>by subst q;exact bB (show aj=an from h),λ_ _ _ _ q=>by subst q;exact bB (show aj=an from h),λ_ _ _ _ _ q=>by subst q;exact bB (show aj=an from h)⟩
theorem Os{a b c d}{k:Nat}{o:V×St}{G:Prop}(h:fw P n sc σ k st (.SetComp a b c d)=some o):G:=by
 rcases k with _|k
 ·exact bM h
 ·exact fz h λu hu _=>by rcases n with _|n<;>exact bM hu
theorem no_dict{a b c d f}{k:Nat}{o:V×St}{G:Prop}(h:fw P n sc σ k st (.DictComp a b c d f)=some o):G:=by
 rcases k with _|k
 ·exact bM h
 ·exact fz h λu hu _=>by rcases n with _|n<;>exact bM hu
theorem vD{o:Option Sg}{eJ:St}{out:ga}{G:Prop}(h:(o.map λcR=>(Fl.next,cR,eJ))=some out)(k:∀cR,o=some cR->out=(.next,cR,eJ)->G):G:=fz h λcR ho e=>k cR ho e.symm
theorem IX(W:Wx prog w ag mg mb r P){t:Expr}{f:Str}{q cp p:Pos}{args:List Expr}{qm:List Keyword}{out:ga}
  (h:(match(if args.length<=10/\qm.length=0 then(fY P sc σ f).bind λfv=>(b3 P st m sc σ args).bind λvs=>match fv with
        |.obj a=>P.Fs a vs st
        |_=>ah
       else ah)with
      |some o=>(dq sc t o.1 σ).map λcR=>(Fl.next,cR,o.2)
      |none=>(ay P st m sc σ (.Call (.Name f q) args qm cp)).bind λv=>(dq sc t v σ).map λcR=>(.next,cR,st))=some out) (fx:Fx ag r n ι Av st A env sc σ s):
  SE prog w ag r n ι Av A env sc (kR (.Assign [t] (.Call (.Name f q) args qm cp) p) env) out s:=by
 have hu:=zt (e:=.Call (.Name f q) args qm cp) rfl;generalize ho:(if args.length<=10/\qm.length=0 then(fY P sc σ f).bind λfv=>(b3 P st m sc σ args).bind λvs=>match fv with
        |.obj a=>P.Fs a vs st
        |_=>ah
       else ah)=o at h
 rcases o with _|⟨v,eJ⟩
 ·refine bK h λv hv h=>vD h λcR hb e=>am e ?_;exact(nz (n:=m) hb hu.1 hu.2.1 hu.2.2 l9 (Mq (r7 W.d m) hv fx.any)).any
 ·refine vD h λcR hb e=>cC ho λhc ho=>bK ho λfv hfv ho=>bK ho λvs g' ho=>?_;revert ho;rcases fv with _|_|_|_|_|_|_|_|_|_<;>try exact bM
  intro ho;rw[b4 hc.2]at hu⊢;exact am e ((nz (n:=m) hb hu.1 hu.2.1 hu.2.2 l9 (LF (n:=m) W hfv g' ho fx.any λu s' db df fy f' r'=>⟨db,df,fy,f',r'⟩)).any)
theorem IW(W:Wx prog w ag mg mb r P){t:Expr}{a:Expr}{b:List NE}{c:jm}{d p:Pos}{out:ga}
  (h:(match t with
   |.Name x _=>if sc.lookup x=some .local||sc.lookup x=some .cell then(ay P st m sc σ (.ListComp a b c d)).map λv=>(Fl.next,ee x v σ,st)else ah
   |_=>ah)=some out) (fx:Fx ag r n ι Av st A env sc σ s):
  SE prog w ag r n ι Av A env sc (kR (.Assign [t] (.ListComp a b c d) p) env) out s:=by
 refine gen λG bP=>?_;revert h;rcases t with _|_|_|_|_|_|_|_|_|_|_|_|_|_|_|_|_|_|_|_|_|_|_|⟨x,q⟩|_|_|_<;>try exact bM
 intro h;exact cC h λhy h=>fz h λv hv e=>bP (e▸(AT (n:=m) W hv hy fx.any).any)
theorem xc(W:Wx prog w ag mg mb r P){t e:Expr}{p:Pos}{out:ga}
  (hk:(match e with
     |.ListComp a b c d=>match t with
      |.Name x _=>if sc.lookup x=some .local||sc.lookup x=some .cell then(ay P st m sc σ (.ListComp a b c d)).map λv=>(Fl.next,ee x v σ,st)else ah
      |_=>ah
     |.Call (.Name f p) args qm p'=>match(if args.length<=10/\qm.length=0 then(fY P sc σ f).bind λfv=>(b3 P st m sc σ args).bind λvs=>match fv with
        |.obj a=>P.Fs a vs st
        |_=>ah
       else ah)with
      |some o=>(dq sc t o.1 σ).map λcR=>(.next,cR,o.2)
      |none=>(ay P st m sc σ (.Call (.Name f p) args qm p')).bind λv=>(dq sc t v σ).map λcR=>(.next,cR,st)
     |e=>if oA sc t e then(fw P m sc σ m st e).bind λo=>(dq sc t o.1 σ).map λcR=>(.next,cR,o.2)else ah)=some out) (fx:Fx ag r n ι Av st A env sc σ s):
  SE prog w ag r n ι Av A env sc (kR (.Assign [t] e p) env) out s:=by
 refine gen λG bP=>?_;have key:ID e=an->(if oA sc t e then(fw P m sc σ m st e).bind λo=>(dq sc t o.1 σ).map λcR=>(Fl.next,cR,o.2)else ah)=some out->G:=λhc h=>cC h λhsw h=>bK h λo ho h=>vD h λcR hb e=>by subst e;exact yK (zt hc) λh1 h2 h3=>bP (nz (n:=m) hb h1 h2 h3 (zw (s:=s) hb hsw fx.a.e) ((zx (r7 W.d m) m).1 ho fx.any)).any
 rcases e with _|_|_|_|_|_|_|_|⟨a,b,c,d⟩|_|_|_|_|_|_|_|⟨f,args,qm,cp⟩|_|_|_|_|_|_|_|_|_|_<;>try exact key rfl hk
 case ListComp=>exact bP (IW W hk fx)
 case Call=>rcases f with _|_|_|_|_|_|_|_|_|_|_|_|_|_|_|_|_|_|_|_|_|_|_|_|_|_|_<;>first|exact key rfl hk|exact bP (IX W hk fx)
 case SetComp=>exact cC hk λ_ h=>bK h λo ho _=>Os ho
 case DictComp=>exact cC hk λ_ h=>bK h λo ho _=>no_dict ho
theorem LQ(W:Wx prog w ag mg mb r P){x:Str}{q q2 p:Pos}{i e:Expr}{out:ga}(h:bi P (m+1) sc σ st (.Assign [.Subscript (.Name x q) i q2] e p)=some out)(fx:Fx ag r n ι Av st A env sc σ s):
  SE prog w ag r n ι Av A env sc (kR (.Assign [.Subscript (.Name x q) i q2] e p) env) out s:=by
 refine gen λG bP=>bK h λv hv h=>bK h λo ho h=>bK h λk hk h=>?_;revert h;rcases o with _|_|_|_|_|_|_|l|_|_<;>try exact bM
 intro h;revert h;rcases k with _|_|k|_|_|_|_|_|_|_<;>try exact bM
 intro h;have key:∀o,st[l]?=o->(match o with|some vs=>if 0<=k/\k<vs.length then some (Fl.next,σ,fX st l (vs.set k.toNat v))else ah|ah=>ah)=some out->G:=λo hl h=>by
  rcases o with _|vs
  ·exact bM h
  ·exact cC h λh0 h=>bP (au h▸(GO (n:=m) W hv ho hk hl h0 fx.any).any)
 exact key _ rfl h
theorem LR(W:Wx prog w ag mg mb r P){ts:List Expr}{e:Expr}{p:Pos}{out:ga}(h:bi P (m+1) sc σ st (.Assign ts e p)=some out)(fx:Fx ag r n ι Av st A env sc σ s):
  SE prog w ag r n ι Av A env sc (kR (.Assign ts e p) env) out s:=by
 refine gen λG bP=>?_;rcases ts with _|⟨t,_|_⟩
 ·exact bM h
 ·rcases t with _|_|_|_|_|_|_|_|_|_|_|_|_|_|_|_|_|_|_|_|_|⟨o,i,q⟩|_|_|_|_|_<;>try exact bP (xc W h fx)
  rcases o with _|_|_|_|_|_|_|_|_|_|_|_|_|_|_|_|_|_|_|_|_|_|_|_|_|_|_<;>first|exact bP (xc W h fx)|exact bP (LQ W h fx)
 ·exact bM h
theorem LO(W:Wx prog w ag mg mb r P){t:Expr}{op:Operator}{e:Expr}{p:Pos}{out:ga}(h:bi P (m+1) sc σ st (.AugAssign t op e p)=some out)(fx:Fx ag r n ι Av st A env sc σ s):
  SE prog w ag r n ι Av A env sc (kR (.AugAssign t op e p) env) out s:=by
 refine Co op λG bP=>?_;revert h;rcases op with _|_|_|_|_|_|_|_|_|_|_|_|_<;>try exact bM
 refine λh=>bP _ ?_;clear bP;refine Co t λG bP=>?_;revert h;rcases t with _|_|_|_|_|_|_|_|_|_|_|_|_|_|_|_|_|_|_|_|_|⟨o,i,q2⟩|_|⟨x,q⟩|_|_|_<;>try exact bM
 ·intro h;rcases o with _|_|_|_|_|_|_|_|_|_|_|_|_|_|_|_|_|_|_|_|_|_|_|⟨x,q⟩|_|_|_<;>try exact bM h
  refine bK h λo ho h=>bK h λk hk h=>?_;rcases o with _|_|_|_|_|_|_|l|_|_<;>try exact bM h
  rcases k with _|_|k|_|_|_|_|_|_|_<;>try exact bM h
  have acH:∀vs (u:Option V),st[l]?=some vs->0<=k->vs[k.toNat]?=u->(match u with
    |some (.int a)=>(ay P st m sc σ e).bind λb=>match b with
     |.int b=>some (Fl.next,σ,fX st l (vs.set k.toNat (.int (a+b))))
     |_=>ah
    |_=>ah)=some out->G (.Subscript (.Name x q) i q2):=λvs u hl h0 ha h=>by
   rcases u with _|u
   ·exact bM h
   ·rcases u with _|_|a|_|_|_|_|_|_|_<;>try exact bM h
    refine bK h λb hb h=>?_;rcases b with _|_|b|_|_|_|_|_|_|_<;>try exact bM h
    exact bP _ (au h▸(LN (n:=m) W ho hk hl h0 ha hb fx.any).any)
  have key:∀o,st[l]?=o->(match o with
    |some vs=>if 0<=k then match vs[k.toNat]?with
     |some (.int a)=>(ay P st m sc σ e).bind λb=>match b with
      |.int b=>some (Fl.next,σ,fX st l (vs.set k.toNat (.int (a+b))))
      |_=>ah
     |_=>ah
     else ah
    |none=>ah)=some out->G (.Subscript (.Name x q) i q2):=λo hl h=>by
   rcases o with _|vs
   ·exact bM h
   ·exact cC h λh0 h=>acH vs _ hl h0 rfl h
  exact key _ rfl h
 ·intro h;refine bK h λa ha h=>bK h λb hb h=>?_;rcases a with _|_|a|_|_|_|_|_|_|_<;>try exact bM h
  rcases b with _|_|b|_|_|_|_|_|_|_<;>try exact bM h
  exact cC h λhx h=>bP _ (au h▸(IV (n:=m) W ha hb hx fx.any).any)
theorem Hu(W:Wx prog w ag mg mb r P){o:Expr}{me:Str}{ap cp p:Pos}{args:List Expr}{l:Nat}{vs:List V}{out:ga}(MZ:ft o=aj)(DC:(ap.endLine==cp.line)=aj)(Fc:ay P st m sc σ o=some (.loc l))(hl:st[l]?=some vs)(hs:vs.length<=10000)
  (h:(if me=ar "append" then match args with
        |[a]=>(ay P st m sc σ a).map λv=>(Fl.next,σ,fX st l (vs++[v]))
        |_=>ah
       else if me=ar "extend" then match args with
        |[.Tuple es _ _]=>if es.length<=100/\1<=es.length then(b3 P st m sc σ es).map λus=>(.next,σ,fX st l (vs++us))else ah
        |_=>ah
       else if me=ar "insert" then match args with
        |[a,b]=>(ay P st m sc σ a).bind λk=>(fw P m sc σ m st b).bind λo=>match k with
         |.int k=>match o.2[l]?with
          |some vs=>if vs.length<=10000 then(wU vs k o.1).map λus=>(.next,σ,fX o.2 l us)else ah
          |none=>ah
         |_=>ah
        |_=>ah
       else ah)=some out) (fx:Fx ag r n ι Av st A env sc σ s):
  SE prog w ag r n ι Av A env sc (kR (.Expr (.Call (.Attribute o me ap) args [] cp) p) env) out s:=by
 refine gen λG bP=>r9 h (λhm h=>?_) λh=>r9 h (λhm h=>?_) λh=>cC h λhm h=>?_
 ·rcases args with _|⟨a,_|_⟩
  ·exact bM h
  ·exact fz h λv hv e=>bP (hm▸e▸(AU (n:=m) W Fc hl hs MZ DC hv fx.any).any)
  ·exact bM h
 ·rcases args with _|⟨a,rr⟩
  ·exact bM h
  ·revert h;rcases a with _|_|_|_|_|_|_|_|_|_|_|_|_|_|_|_|_|_|_|_|_|_|_|_|_|⟨es,kk,q⟩|_<;>try exact bM
   intro h;rcases rr with _|_
   ·exact cC h λhz h=>fz h λus tF e=>bP (hm▸e▸(Aw (n:=m) W Fc hl hs MZ DC hz.1 tF fx.any).any)
   ·exact bM h
 ·rcases args with _|⟨a,_|⟨b,_|_⟩⟩
  ·exact bM h
  ·exact bM h
  ·refine bK h λk hk h=>bK h λo ho h=>?_;revert h;rcases k with _|_|k|_|_|_|_|_|_|_<;>try exact bM
   intro h;have key:∀u,o.2[l]?=u->(match u with|some vs=>if vs.length<=10000 then(wU vs k o.1).map λus=>(Fl.next,σ,fX o.2 l us)else ah|ah=>ah)=some out->G:=λu Ai h=>by
    rcases u with _|El
    ·exact bM h
    ·exact cC h λv8 h=>fz h λus tF e=>bP (hm▸e▸(z7 (n:=m) W Fc hl MZ DC hk (show _=some (o.1,o.2)from ho) Ai v8 tF fx.any).any)
   exact key _ rfl h
  ·exact bM h
theorem Iv(W:Wx prog w ag mg mb r P){e:Expr}{p:Pos}{out:ga}(h:bi P (m+1) sc σ st (.Expr e p)=some out)(fx:Fx ag r n ι Av st A env sc σ s):SE prog w ag r n ι Av A env sc (kR (.Expr e p) env) out s:=by
 refine Co e λG bP=>?_;revert h;rcases e with _|_|_|_|_|_|_|_|_|_|_|_|_|_|_|_|⟨f,args,qm,cp⟩|_|_|_|_|_|_|_|_|_|_<;>try exact bM
 intro h;revert h;rcases f with _|_|_|_|_|_|_|_|_|_|_|_|_|_|_|_|_|_|_|_|⟨o,me,ap⟩|_|_|_|_|_|_<;>try exact bM
 intro h;rcases qm with _|_
 ·refine OP h λhc h=>bK h λov Fc h=>?_;simp only[iu,fH,not_or,akt]at hc;revert h;rcases ov with _|_|_|_|_|_|_|l|_|_<;>try exact bM
  intro h;dsimp only at h;cases hl:st[l]?with
  |none=>rw[hl]at h;exact bM h
  |some vs=>rw[hl]at h;exact cC h λhs h=>bP _ (Hu W hc.1 hc.2 Fc hl hs h fx)
 ·exact bM h
theorem Lc(W:Wx prog w ag mg mb r P)(X:SX prog w ag r n P m){t i:Expr}{b:List cy}{z:Pos}{run:Md}{out:ga}
  (h:(match run with
     |.fixed vs=>pL (λv σ st=>(dq sc t v σ).bind λcR=>bW P m sc cR st b) vs σ st
     |.enum vs=>match t with
      |.Tuple _ _ _=>pL (λv σ st=>(dq sc t v σ).bind λcR=>bW P m sc cR st b) (oN 0 vs) σ st
      |_=>ah
     |.live l=>oT (λv σ st=>(dq sc t v σ).bind λcR=>bW P m sc cR st b) l 100000 0 σ st)=some out) (hr:(ay P st m sc σ i).bind (wm st)=some run) (fx:Fx ag r n ι Av st A env sc σ s):
  SE prog w ag r n ι Av A env sc (kR (.For t i b [] z) env) out s:=by
 refine gen λG bP=>bK hr λv hv hr=>?_;rcases run with vs|l|vs
 ·exact bP (zN X (r7 W.d m) hv hr h fx)
 ·exact bP (zN X (r7 W.d m) hv hr h fx)
 ·have no:∀{u:Option (List V)},u.map Md.fixed=some (.enum vs)->G:=λhr=>fz hr λ_ _ e=>Md.noConfusion e;rcases v with _|_|_|_|_|_|_|_|_|_<;>first|exact bM hr|exact no hr|exact Md.noConfusion (au hr)
theorem Ld(W:Wx prog w ag mg mb r P)(X:SX prog w ag r n P m){t i:Expr}{b o:List cy}{z:Pos}{out:ga}(h:bi P (m+1) sc σ st (.For t i b o z)=some out)(fx:Fx ag r n ι Av st A env sc σ s):
  SE prog w ag r n ι Av A env sc (kR (.For t i b o z) env) out s:=by
 rcases o with _|_
 ·refine bK h λrun hr h2=>?_;clear h;have key:∀i,(ay P st m sc σ i).bind (wm st)=some run->SE prog w ag r n ι Av A env sc (kR (.For t i b [] z) env) out s:=λi hr=>Lc W X h2 hr fx;revert hr;revert i;intro i;rcases i with _|_|_|_|_|_|_|_|_|_|_|_|_|_|_|_|⟨f,args,qm,cp⟩|_|_|_|_|_|_|_|_|_|_<;>try exact key _
  rcases f with _|_|_|_|_|_|_|_|_|_|_|_|_|_|_|_|_|_|_|_|_|_|_|⟨x,q⟩|_|_|_<;>try exact key _
  rcases args with _|⟨a,_|_⟩<;>try exact key _
  rcases qm with _|_<;>try exact key _
  intro hr;refine gen λG bP=>r9 hr (λhx hr=>cC hr λhs hr=>bK hr λv hv hr=>?_) λhr=>r9 hr (λhx hr=>fz hr λvs g' e=>?_) λhr=>bP (key _ hr)
  ·rcases v with _|_|_|_|_|_|vs|_|_|_<;>try exact bM hr
   have e:=au hr;subst hx e;revert h2;clear key;revert bP;revert t;intro t;rcases t with _|_|_|_|_|_|_|_|_|_|_|_|_|_|_|_|_|_|_|_|_|_|_|_|⟨es,kk,q⟩|_<;>try exact λ_=>bM
   exact λbP h=>bP (Fu W X hs hv h fx)
  ·subst hx e;exact bP (BM W X g' h2 fx)
 ·exact bM h
theorem JJ(X:SX prog w ag r n P m){b o f:List cy}{hs:List ExceptHandler}{p:Pos}{out:ga}(h:bi P (m+1) sc σ st (.Try b hs o f p)=some out)(fx:Fx ag r n ι Av st A env sc σ s):
  SE prog w ag r n ι Av A env sc (kR (.Try b hs o f p) env) out s:=by
 rcases hs with _|⟨hd,hs⟩
 ·exact bM h
 rcases o with _|_
 ·rcases f with _|_
  ·refine bK h λo ho h=>?_;have lP:(∀c x,o.1≠.exc c x)/\o=out:=by
    rcases o with⟨_|_|_|_,o2⟩
    ·exact⟨nofun,au h⟩
    ·exact⟨nofun,au h⟩
    ·exact⟨nofun,au h⟩
    ·exact bM h
   refine lP.2▸wpAny_Try_except ((X.ss ho fx).calm lP.1 λfl s' d=>?_);rcases fl with _|_|_|_<;>first|exact d|exact Ed d
  ·exact bM h
 ·rcases f with _|_<;>exact bM h
theorem EM(W:Wx prog w ag mg mb r P){e c:Option Expr}{p:Pos}{out:ga}(h:bi P (m+1) sc σ st (.Raise e c p)=some out)(fx:Fx ag r n ι Av st A env sc σ s):
  SE prog w ag r n ι Av A env sc (kR (.Raise e c p) env) out s:=by
 refine Co e λG bP=>?_;rcases e with _|e
 ·exact bM h
 revert h;rcases e with _|_|_|_|_|_|_|_|_|_|_|_|_|_|_|_|⟨f,args,qm,cp⟩|_|_|_|_|_|_|_|_|_|_<;>try exact bM
 intro h;revert h;rcases f with _|_|_|_|_|_|_|_|_|_|_|_|_|_|_|_|_|_|_|_|_|_|_|⟨x,q⟩|_|_|_<;>try exact bM
 intro h;rcases args with _|⟨a,_|_⟩<;>try exact bM h
 rcases qm with _|_<;>try exact bM h
 rcases c with _|c
 ·refine bK h λcv hcv h=>bK h λv hv h=>?_;revert h;rcases cv with _|_|_|_|_|_|_|_|cc|_<;>try exact bM
  intro h;revert h;rcases v with _|_|_|_|x|_|_|_|_|_<;>try exact bM
  intro h;exact cC h λhr h=>bP _ (au h▸(BO (n:=m) W hcv hr hv fx.any).any)
 ·exact bM h
theorem J0(W:Wx prog w ag mg mb r P)(X:SX prog w ag r n P m){b:cy}{out:ga}(h:bi P (m+1) sc σ st b=some out)(f:Fx ag r n ι Av st A env sc σ s):SE prog w ag r n ι Av A env sc (kR b env) out s:=by
 have H:=r7 W.d m;refine Co b λG bP=>?_;revert h;rcases b with _|_|_|⟨e,p⟩|_|_|_|_|_|_|_|⟨t,b,o,p⟩|⟨t,b,o,p⟩|_|_|_|_|_|_|_|_|_|_|_|_|_|_|_<;>try exact bM
 case Return=>
  intro h;rcases e with _|e
  ·exact bP _ (au h▸wpAny_Return_none ⟨ι,Av,.refl s,f,.none,rfl,.none⟩)
  ·exact fz h λv hv e=>bP _ (e▸VD ((H.ev hv f.a.any).go λx s1 x1 gg r1=>⟨ι,Av,.c7 x1,f.ext x1 gg,x,rfl,r1⟩))
 case Assign=>intro h;exact bP _ (LR W h f)
 case AugAssign=>intro h;exact bP _ (LO W h f)
 case For=>intro h;exact bP _ (Ld W X h f)
 case While=>
  intro h;rcases o with _|_
  ·exact bP _ (wpAny_While (zo f h (λσ st c ι Av s hc f=>H.te hc f.a.any _ (.inl rfl)) (λσ st out ι Av s ho f lP=>(X.ss ho f).calm lP λfl s' d=>d) λfl s' d=>d))
  ·exact bM h
 case If=>
  intro h;refine bK h λc hc h=>bP _ (wpAny_If ((H.te hc f.a.any _ (.inl rfl)).go λs1 x1 gg=>?_));rcases c with _|_
  ·exact SE.from (.c7 x1) (X.ss h (f.ext x1 gg))
  ·exact SE.from (.c7 x1) (X.ss h (f.ext x1 gg))
 case Raise=>intro h;exact bP _ (EM W h f)
 case Try=>intro h;exact bP _ (JJ X h f)
 case Expr=>intro h;exact bP _ (Iv W h f)
 case Break=>intro h;exact bP _ (au h▸wpAny_Break ⟨ι,Av,.refl s,f,rfl⟩)
theorem sx(W:Wx prog w ag mg mb r P):∀m,SX prog w ag r n P m
 |0=>⟨λh _=>bM h,λh _=>bM h⟩
 |m+1=>by have X:=sx W m;exact⟨λh f=>JS X h f,λh f=>J0 W X h f⟩
end
set_option backward.match.sparseCases true
noncomputable def Fz(v:V):Prop:=∀(h:ca) (ι db Av:List aN) (w:ao),bZ h ι Av v w->bZ h db Av v w
noncomputable def yR(vs:List V):Prop:=∀(h:ca) (ι db Av:List aN) (ws:List ao),bq h ι Av vs ws->bq h db Av vs ws
theorem Fz.none:Fz .none:=λ_ _ _ _ _ r=>by cases r;exact .none
theorem Fz.bool(b):Fz (.bool b):=λ_ _ _ _ _ r=>by cases r;exact .bool _
theorem Fz.int(b):Fz (.int b):=λ_ _ _ _ _ r=>by cases r;exact .int _ _
theorem Fz.cY(b):Fz (.cY b):=λ_ _ _ _ _ r=>by cases r;exact .cY _ _
theorem Fz.str(b):Fz (.str b):=λ_ _ _ _ _ r=>by cases r with|str _ _ h=>exact .str _ _ h
theorem Fz.obj(b):Fz (.obj b):=λ_ _ _ _ _ r=>by cases r;exact .obj _
theorem yR.nil:yR []:=λ_ _ _ _ _ r=>by cases r;exact .nil
theorem yR.cons(a:Fz v)(b:yR vs):yR (v::vs):=λ_ _ _ _ _ r=>by cases r with|cons x y=>exact .cons (a _ _ _ _ _ x) (b _ _ _ _ _ y)
theorem yR.of:∀{vs:List V},(∀v∈vs,Fz v)->yR vs
 |[],_=>.nil
 |_::_,h=>.cons (h _ (.head _)) (yR.of λv hv=>h v (.tail _ hv))
theorem Fz.tup(a:yR vs):Fz (.tup vs):=λ_ _ _ _ _ r=>by cases r with|tup x y z q=>exact .tup x y z (a _ _ _ _ _ q)
theorem Fz.lst(a:yR vs):Fz (.lst vs):=λ_ _ _ _ _ r=>by cases r with|lst x y z q=>exact .lst x y z (a _ _ _ _ _ q)
theorem Fz.qo(a:yR vs):Fz (.qo vs):=λ_ _ _ _ _ r=>by cases r with|qo x y z q=>exact .qo x y z (a _ _ _ _ _ q)
structure lE(ag:ca)(a:aN)(ps:List Str)(body:List cy)(scope:jm):Prop where
 ex:∃name params pm cd jd o,ag.get? a=some o/\o.data=.func (fg name params body scope pm cd jd)/\ag.CodeRec cd name/\∀ws:List ao,ws.length=ps.length->lG (fg name params body scope pm cd jd) ⟨ws,[]⟩=pure (ps.zip ws)
 co:scope.isCoroutine=an
 gen:scope.isGenerator=an
 kind:scope.kind=.function
 nd:ps.Nodup
 pk:∀p∈ps,scope.names.lookup p=some .local\/scope.names.lookup p=some .cell
 yb:∀p∈scope.names,p.2≠.free
theorem FI{K:Str->Option mU}(bs:List (Str×ao)):∀(m:Str->Option ao),x∉bs.map (·.1)->NB K bs m x=m x:=by
 induction bs with
 |nil=>
  exact λ_ _=>rfl
 |cons pq r ih=>
  rcases pq with⟨n,v⟩;exact λm h=>by
   simp only[aY,ax,not_or]at h;rw[NB,ih _ h.2];split
   ·simp[h.1]
   ·rfl
theorem FJ{K:Str->Option mU}(bs:List (Str×ao)):∀(m:Str->Option ao),x∉bs.map (·.1)->ajM K bs m x=m x:=by
 induction bs with
 |nil=>
  exact λ_ _=>rfl
 |cons pq r ih=>
  rcases pq with⟨n,v⟩;exact λm h=>by
   simp only[aY,ax,not_or]at h;rw[ajM,ih _ h.2];split
   ·rfl
   ·simp[h.1]
theorem xw:∀(ps:List Str) (ws:List ao) {x:Str},x∉ps->x∉(ps.zip ws).map (·.1)
 |[],_,_,_=>by simp
 |_::_,[],_,_=>by simp
 |p::ps,w::ws,x,h=>by simp only[ax,not_or]at h;simp only[gb,aY,ax,not_or];exact⟨h.1,xw ps ws h.2⟩
theorem AQ{K:Str->Option mU}{h:ca}(ps:List Str):∀(vs:List V) (ws:List ao) (m m':Str->Option ao),ps.Nodup->bq h ι Av vs ws->eO x (ps.zip vs)=some v->
  ∃w,bZ h ι Av v w/\(K x=some .local->NB K (ps.zip ws) m x=some w)/\(K x≠some .local->ajM K (ps.zip ws) m' x=some w):=by
 induction ps with
 |nil=>exact λ_ _ _ _ _ _ e=>bM e
 |cons p ps IH=>
  intro vs ws m m' nd r e;rcases vs with _|⟨v',vs⟩
  ·exact bM e
  refine bq.e1 r λw ws r1 r2=>?_;replace e:(if x=p then some v' else eO x (ps.zip vs))=some v:=e;rw[lN]at nd;by_cases hx:x=p
  ·rw[aP hx]at e;cases e;subst hx;refine ml w r1 (λhk=>?_) (λhk=>?_)
   ·rw[gb,NB,FI _ _ (xw ps ws nd.1),aP hk];simp
   ·rw[gb,ajM,FJ _ _ (xw ps ws nd.1),bg hk];simp
  ·rw[bg hx]at e;obtain⟨u,a,b,c⟩:=IH vs ws _ _ nd.2 r2 e;exact ml u a (λhk=>by rw[gb,NB];exact b hk) (λhk=>by rw[gb,ajM];exact c hk)
theorem FF(names:List (Str×mU)):∀(n:Nat) (iN:List (Str×aN)) (x:Str),(∃c,iN.lookup x=some c)->∃c,(nL n names iN).lookup x=some c:=by
 induction names with
 |nil=>
  exact λ_ _ _ h=>h
 |cons pq r ih=>
  rcases pq with⟨y,k⟩;exact λn iN x h=>by
   unfold nL;split
   ·refine ih _ _ x (am dr ?_);split
    ·exact⟨_,rfl⟩
    ·exact h
   ·exact ih _ _ x h
theorem kY:∀(names:List (Str×mU)) (n:Nat) (iN:List (Str×aN)) (x:Str),(x,yW)∈names->∃c,(nL n names iN).lookup x=some c
 |(y,k)::r,n,iN,x,h=>by
  unfold nL;rcases ax.mp h with e|h
  ·cases e;exact am (aP (by rfl)) (FF r _ _ _ ⟨n,by simp⟩)
  ·split
   ·exact kY r _ _ x h
   ·exact kY r _ _ x h
section
variable{w:bz}{r n:Nat}{s:ai}
theorem  IL
  (Af:A.depth<ajJ) (ho:s.heap.get? a=some o) (HY:o.data=.func fd) (iO:s.heap.NoLimit) (ze:s.heap.CodeRec fd.code fd.qualname)
  (An:fd.body=.stmts body) (rD:lG fd ⟨ux,[]⟩=pure binds) (Pc:fd.closure=[]) (FX:1<=s.toks)
  (pW:∀x∈binds,fd.scope.names.lookup x.1=some .local\/(fd.scope.names.lookup x.1=some .cell/\((nL (s.heap.objs.size+1) fd.scope.names []).lookup x.1).isSome=aj))
  (UE:fd.scope.isCoroutine=an) (HV:fd.scope.isGenerator=an) (hk:fd.scope.kind=.function)
  (h:∀s₁,1<=s₁.toks->InCallC s (dj fd s.heap.objs.size a).locals (NB (dj fd s.heap.objs.size a).kindOf binds λ_=>ah) (dj fd s.heap.objs.size a).cells (ajM (dj fd s.heap.objs.size a).kindOf binds λ_=>ah) s₁->
   aA (az prog w) (A.deeper (dj fd s.heap.objs.size a)) (jC body (dj fd s.heap.objs.size a)) (λf s'=>R (.ok (.ret (match f with|.ret v=>v|_=>.none))) s')
    (λe s'=>aA (az prog w) (A.deeper (dj fd s.heap.objs.size a)) (VE (dj fd s.heap.objs.size a) e) (λ_ g8=>R (.error e) g8) (λe' g8=>R (.error e') g8) s') s₁):
  xg (az prog w) A (.call (.ref a) ⟨ux,[]⟩) R s:=by
 refine codeAny_call_function Af ho HY UE HV An ze (am rD (am Pc ?_));refine aO (cM (n:=1) FX (ajG hk pW λenv he s' x zu=>?_));subst he;exact⟨iO.keeps x.toInCall.keep,codeAny_func (h s' zu x)⟩
structure D9(ag:ca)(r n:Nat)(ι Av:List aN)(st:St)(A:b9)(env:Env)(sc:Sc)(σ:Sg)(s s₁:ai):Prop where
 fx:Fx ag r n ι Av st (A.deeper env) env sc σ s₁
 facts:(env.frame=some env.locals/\s.heap.get? env.locals=ah/\eu (dM ag) s.heap s₁.heap/\(∃h k,s₁={s with heap:=h,toks:=k})/\env.qual=env.qual)
 back:∀db df s',fR (dM ag) (mY env) ι Av s₁ db df s'->fR (dM ag) nC ι Av s db df s'
theorem sQ{name:Str}{params:Arguments}{pm cd jd:ao}{a:aN}{ps:List Str}(D:lE ag a ps body scope)(c:lf ag (r+1) 0 A s)(S:kZ ι Av st s.heap)(i0:∀b∈ι,ag.get? b=ah)
  (rs:bq s.heap ι Av vs ws) (tk:1<=s₁.toks)
  (X:InCallC s (dj (fg name params body scope pm cd jd) s.heap.objs.size a).locals (NB (dj (fg name params body scope pm cd jd) s.heap.objs.size a).kindOf (ps.zip ws) λ_=>ah) (dj (fg name params body scope pm cd jd) s.heap.objs.size a).cells (ajM (dj (fg name params body scope pm cd jd) s.heap.objs.size a).kindOf (ps.zip ws) λ_=>ah) s₁):
  D9 ag r n ι Av st A (dj (fg name params body scope pm cd jd) s.heap.objs.size a) scope.names (ps.zip vs) s s₁:=by
 generalize wa:dj (fg name params body scope pm cd jd) s.heap.objs.size a=env at X⊢;have eL:env.locals=s.heap.objs.size:=by refine jj wa ?_;rfl
 have eS:env.scope=scope:=by refine jj wa ?_;rfl
 have eC:env.cells=nL (s.heap.objs.size+1) scope.names []:=by refine jj wa ?_;rfl
 have eK:env.kindOf=λx=>scope.names.lookup x:=by refine jj wa ?_;rfl
 obtain⟨⟨⟨gZ,k₁,e1⟩,ns,keep,fresh⟩,cell,apart,above⟩:=X;have hx:eu (dM ag) s.heap s₁.heap:=.of_keep keep;have H7:s.heap.get? env.locals=ah:=by refine am eL ?_;exact cq (aD _)
 have Pb:∀x c,env.cells.lookup x=some c->s.heap.get? c=ah:=λx c h=>cq (by have:=above x c (dw h);replace this:=eL▸this;exact Jh this)
 have z0:∀{b},s.heap.get? b=ah->ag.get? b=ah:=λ{b} h=>by
  cases e:ag.get? b with
  |none=>rfl
  |some o=>have:=c.kp b o e;rw[h]at this;cases this
 have fx:Fx ag r n ι Av st (A.deeper env) env scope.names (ps.zip vs) s₁:=by
  refine⟨⟨⟨c.hh,?_,?_,?_,tk,λb o e=>keep b o (c.kp b o e)⟩,S.ext hx,⟨?_,?_,?_,?_,⟨_,ns,λy u hy hu=>?_⟩,λy hy=>?_,λy u hy hu=>?_⟩⟩,z0 H7,λx c h=>z0 (Pb x c h),i0,λx y c h1 h2=>name_of_addr apart (dw h1) (dw h2),λx c h=>⟨_,cell x c h⟩⟩
  ·have:=c.dep;exact(dp _ _ 1 (.p (S1 V0) V1) (.k 900) (D1 (.p V0 (S1 V1)) (.k 900) .n) rfl this)
  ·have:=c.A8;exact(fM _ _ _ 1 (.p (.p (.p (.p V0 (.k 3)) (.m 1000 V1)) (.k 500)) K1) V2 (D1 (.p (.p (.p V0 (.m 1000 (S1 V1))) (.k 500)) K1) V2 .n) rfl this)
  ·refine eN c.fr λl h1 h2 h3=>?_;have Cf:env.frame=some s.heap.objs.size:=by refine jj wa ?_;rfl
   refine ml (env::l) (gQ h1) (.cons (by refine am eS (am D.kind ?_);decide) Cf (by refine jj eL ?_;exact ns) (by refine jj eL ?_;exact z0 H7) (hx.wX h2)) (λe he L hL=>?_);rcases ax.mp he with rfl|he
   ·cases kM Cf hL;refine gN ns λo es ep ho hd _=>?_;replace ho:=eL▸ho;exact rz o es ep ho hd
   ·exact h3.ext hx e he L hL
  ·refine am eS ?_;exact D.kind
  ·refine jj wa ?_;rfl
  ·refine jj wa ?_;rfl
  ·intro x k hk;left;refine am eK ?_;exact hk
  ·refine eN (AQ (K:=env.kindOf) ps vs ws (λ_=>ah) (λ_=>ah) D.nd rs hu) λwv h1 h2 _=>?_;exact jW wv (h2 (by refine am eK ?_;exact hy)) (h1.ext hx)
  ·rcases hy with hy|hy
   ·refine eE (kY scope.names (s.heap.objs.size+1) [] y (dw hy)) λc' uk=>?_;exact jp c' _ (by refine am eC ?_;exact uk) (cell y c' (by refine am eC ?_;exact uk))
   ·exact bV rfl (D.yb _ (dw hy))
  ·rcases hy with hy|hy
   ·refine eE (kY scope.names (s.heap.objs.size+1) [] y (dw hy)) λc' uk=>eN (AQ (K:=env.kindOf) ps vs ws (λ_=>ah) (λ_=>ah) D.nd rs hu) λwv h1 _ h3=>?_;have hk:env.kindOf y≠some .local:=by refine am eK ?_;intro q;cases kM hy q
    have vh:=cell y c' (by refine am eC ?_;exact uk);replace vh:=(h3 hk)▸vh;exact iM c' wv (by refine am eC ?_;exact uk) vh (h1.ext hx)
   ·exact bV rfl (D.yb _ (dw hy))
 refine⟨fx,⟨by refine am eL (jj wa ?_);rfl,H7,hx,⟨gZ,k₁,e1⟩,rfl⟩,λdb df s' fy=>?_⟩;have back:∀{b},s₁.heap.get? b=ah->s.heap.get? b=ah:=λ{b} h=>hx.size h;refine⟨fy.pre,fy.sub,λb h=>(fy.new b h).imp id back,λb h=>(fy.v5 b h).imp id back,λb o e hi _=>fy.ke b o (keep b o e) hi ?_,λb o e=>fy.al b o (keep b o e),?_⟩
 ·rintro (q|⟨x,q⟩)
  ·replace e:=H7▸q▸e;exact bM e
  ·rw[Pb x b q]at e;cases e
 ·refine mO fy.sh λh2 k2 fC=>?_;subst fC;exact am e1 (Cb h2 k2 rfl)
theorem DW{E:ao->ai->Prop}{Q:ao->ai->Prop}(D:lE ag a ps body scope)(iO:ag.NoLimit)(c:lf ag (r+1) 0 A s)(S:kZ ι Av st s.heap)(i0:∀b∈ι,ag.get? b=ah)
  (rs:bq s.heap ι Av vs ws) (hlen:vs.length=ps.length)
  (k:∀(env:Env) (s₁:ai),Fx ag r n ι Av st (A.deeper env) env scope.names (ps.zip vs) s₁->(env.frame=some env.locals/\s.heap.get? env.locals=ah/\eu (dM ag) s.heap s₁.heap/\(∃h k,s₁={s with heap:=h,toks:=k})/\env.qual=env.qual)->(∀db df s',fR (dM ag) (mY env) ι Av s₁ db df s'->fR (dM ag) nC ι Av s db df s')->
   aA (az prog w) (A.deeper env) (jC body env) (λf s'=>Q (match f with|.ret v=>v|_=>.none) s') (λe s'=>aA (az prog w) (A.deeper env) (VE env e) (λ_ g8=>E e g8) (λe' g8=>E e' g8) s') s₁):
  aA (az prog w) A (call (.ref a) ws) Q E s:=by
 refine qw D.ex λname params pm cd jd o ho hd ze rD=>?_;have zd:ws.length=ps.length:=by refine jj rs.length ?_;exact hlen
 refine wpAny_call (IL (fd:=fg name params body scope pm cd jd) (binds:=ps.zip ws) (by have:=c.dep;exact o77 this) (c.kp a o ho) hd (iO.keeps c.kp) (ze.keeps c.kp) rfl (rD ws zd) rfl c.tk (λx hx=>?_) D.co D.gen D.kind λs₁ tk X=>?_)
 ·have hp:x.1∈ps:=(Qn hx).1;rcases D.pk _ hp with h|h
  ·exact .inl h
  ·refine eE (kY scope.names (s.heap.objs.size+1) [] x.1 (dw h)) λc' uk=>?_;exact .inr ⟨h,by refine am uk ?_;rfl⟩
 ·have en:=sQ (n:=n) (vs:=vs) D c S i0 rs tk X;exact k _ s₁ en.fx en.facts en.back
theorem IB(D:lE ag a ps body scope):∀x∈ps.zip ws,scope.names.lookup x.1=some .local\/(scope.names.lookup x.1=some .cell/\((nL (s.heap.objs.size+1) scope.names []).lookup x.1).isSome=aj):=λx hx=>by
 have hp:x.1∈ps:=(Qn hx).1;rcases D.pk _ hp with h|h
 ·exact .inl h
 ·refine eE (kY scope.names (s.heap.objs.size+1) [] x.1 (dw h)) λc' uk=>?_;exact .inr ⟨h,by show((nL (s.heap.objs.size+1) scope.names []).lookup x.1).isSome=aj;refine am uk ?_;rfl⟩
theorem lf.back(c:lf ag (r+1) m A s)(d:lf ag r n (A.deeper env) s'):lf ag (r+1) m A s':=by refine⟨c.hh,c.dep,c.A8,?_,d.tk,d.kp⟩;refine cW c.fr λl h1 _=>eN d.fr λl' h2 h3 h4=>?_;have:(A.deeper env).frames=some (env::l):=gQ h1;cases kM this h2;exact ml l h1 h3.2.2 (λe he=>h4 e (.tail _ he))
noncomputable def Lq:Fl->Option V
 |.next=>some .none
 |.ret v=>some v
 |_=>af
theorem PA(W:Wx prog w ag mg mb r P)(D:lE ag a ps body scope)(iO:ag.NoLimit)(c:lf ag (r+1) 0 A s)(S:kZ ι Av st s.heap)(i0:∀b∈ι,ag.get? b=ah)
  (rs:bq s.heap ι Av vs ws) (hlen:vs.length=ps.length) (hx:bW P m scope.names (ps.zip vs) st body=some out) (hv:Lq out.1=some v)
  (k:∀u s' db df,fR (dM ag) nC ι Av s db df s'->lf ag (r+1) 0 A s'->kZ db df out.2.2 s'.heap->(∀b∈db,ag.get? b=ah)->bZ s'.heap db df v u->Q u s'):
  aA (az prog w) A (call (.ref a) ws) Q E s:=by
 refine DW (n:=0) D iO c S i0 rs hlen λenv s₁ fx _ back=>?_;refine((sx W m).ss hx fx).calm (λc x q=>by rw[q]at hv;cases hv) λfl s' d=>?_;refine c3 d λdb df fy f' lL=>?_;have nQ:=back db df s' fy;have c':=c.back f'.a.c
 cases h1:out.1 with
 |next=>
  rw[h1]at lL hv;cases (show fl=.next from lL)
  have qq:=au hv;subst qq;exact k _ _ db df nQ c' f'.a.S f'.i0 .none
 |ret u=>
  rw[h1]at lL hv;refine cW lL λuv or ru=>?_;subst or;have qq:=au hv;subst qq;exact k _ _ db df nQ c' f'.a.S f'.i0 ru
 |brk=>rw[h1]at hv;cases hv
 |exc c x=>rw[h1]at hv;cases hv
end
set_option backward.match.sparseCases false
structure mu(ag:ca)(A:b9)(s:ai)(cls:ao)(args:List ao)(ea:aN)(s':ai):Prop where
 sh:∃h k,s'={s with heap:=h,toks:=k}
 tk:1<=s'.toks
 ext:eu (dM ag) s.heap s'.heap
 fly:∃l B t,A.frames=some l/\akF B l ea cls (.ref t) s'.heap/\s'.heap.TupAt t args/\B.get? t=ah/\(∀b o,s.heap.get? b=some o->(∀e∈l,e.frame≠some b)->∃o',B.get? b=some o')
theorem vu{ag h h1 h2 B:ca}(x:eu (dM ag) h h1)(s1:B.StaysIn h1)(s2:B.StaysIn h2)(up:h1.UpToSlots h2)(hB:∀b o,h.get? b=some o->(∀e∈l,e.frame≠some b)->∃o',B.get? b=some o')
  (hF:h.FunFrames ag l) (hD:FD h l):eu (dM ag) h h2:=by
 intro b o e;by_cases hb:∀f∈l,f.frame≠some b
 ·refine eE (hB b o e hb) λo' e'=>?_;have e1:=s1 b o' e';have e2:=s2 b o' e';rcases x b o e with q|⟨n,d,sl,q⟩
  ·cases kM q e1;exact .inl e2
  ·cases kM q e1;exact .inr ⟨n,d,sl,e2⟩
 ·refine eE (Classical.not_forall.mp hb) λf hf=>eA (Classical.not_imp.mp hf) λhm hf=>?_;have hf:=mX.mp hf;refine l7 (hD f hm b hf) λo' es n e' hd=>?_;cases kM e e';have sK:dM ag b:=by have:b∈l.filterMap (·.frame):=lU.mpr ⟨f,hm,hf⟩;exact(hF.mem this).1
  rcases x b o e with q|⟨_,_,sl,q⟩
  ·obtain⟨JW,q'⟩:=up b o q λws z=>by rw[hd]at z;cases z
   exact .inr ⟨sK,⟨es,n,hd⟩,JW,q'⟩
  ·obtain⟨JW,q'⟩:=up b _ q λws z=>by replace z:=hd▸(show({o with slots:=sl}:Obj).data=o.data from rfl)▸z;exact gR z
   exact .inr ⟨sK,⟨es,n,hd⟩,JW,q'⟩
section
variable{w:bz}{r n:Nat}{s:ai}
theorem u7{env:Env}{s₁ s':ai}{ea:aN}{cls:ao}{args:List ao}{Q:Unit->ai->Prop}{E:ao->ai->Prop}{sc:Sc}{σ:Sg}(c:lf ag (r+1) m A s)(MY:env.frame=some env.locals)(H7:s.heap.get? env.locals=ah)
  (x:eu (dM ag) s.heap s₁.heap) (Wl:∃h k,s₁={s with heap:=h,toks:=k}) (f:Fx ag r n ι Av st (A.deeper env) env sc σ s₁) (he:∃h',s'={s₁ with heap:=h'}/\f9 s₁.heap h' ea cls args)
  (k:∀g8,mu ag A s cls args ea g8->Q () g8):aA (az prog w) (A.deeper env) (VE env (.ref ea)) Q E s':=by
 refine cW he λh' or hx=>?_;subst or;refine eN c.fr λl h1 hF hD=>?_;have Cf:(A.deeper env).frames=some (env::l):=gQ h1;refine eN f.a.c.fr λl' h2 hF' hD'=>?_;cases kM Cf h2;have sM:∀e∈(env::l),∀b,e.frame=some b->b∈(env::l).filterMap (·.frame):=λe he b hb=>lU.mpr ⟨e,he,hb⟩;refine wpAny_leaves_madeW (base:=aj1 s₁.heap ((env::l).filterMap (·.frame))) Cf MY (λb o q=>of_hideAll _ q) (funFrames_hide hF' sM) hx λFk t x1 x2 x3 x4=>k _ ?_;have hB:∀b o,s.heap.get? b=some o->(∀e∈l,e.frame≠some b)->∃o',(aj1 s₁.heap ((env::l).filterMap (·.frame))).get? b=some o':=λb o e hb=>by
  refine cW (x.some e) λo' e' _=>⟨o',hideAll_get _ e' λhm=>?_⟩;refine cW (lU.mp hm) λg hg Ws=>?_;rcases ax.mp hg with rfl|hg
  ·cases kM MY Ws;rw[H7]at e;cases e
  ·exact hb g hg Ws
 have up:s₁.heap.UpToSlots Fk:=(akr hx.keeps).trans x4;refine⟨?_,f.a.c.tk,vu x (λb o q=>of_hideAll _ q) x1.1 up hB hF hD,l,_,t,h1,x1,x2,x3,hB⟩;refine mO Wl λh kk fC=>?_;subst fC;exact Cb Fk kk rfl
theorem Ly(W:Wx prog w ag mg mb r P)(D:lE ag a ps body scope)(iO:ag.NoLimit)(c:lf ag (r+1) 0 A s)(kH:ku Av s.heap)
  (rs:bq s.heap ι Av vs ws) (La:yR vs) (hlen:vs.length=ps.length) (hx:bW P m scope.names (ps.zip vs) [] body=some out) (hv:out.1=.exc cc x)
  (k:∀ea t s',mu ag A s (.ref cc) [.str x t] ea s'->E (.ref ea) s'):
  aA (az prog w) A (call (.ref a) ws) Q E s:=by
 have S:kZ [] Av [] s.heap:=⟨kH,(λb hb=>by cases hb),fG,rfl,(λl vs q=>by cases l<;>cases q)⟩;refine DW (n:=0) D iO c S (λb hb=>by cases hb) (La _ _ _ _ _ rs) hlen λenv s₁ fx facts back=>AC facts λMY H7 Wi Wl _=>?_;refine aV ((sx W m).ss hx fx) (λfl s' d=>?_) λe s' d=>?_
 ·refine c3 d λdb df fy f' lL=>?_;rw[hv]at lL;exact lL.elim
 ·refine gen λGG fN=>?_;obtain⟨db,df,fV,fy,c',x',t,ea,bI,q,rfl,x2,f2,hm⟩:=d;refine fN ?_;rw[hv]at q;cases q;have nQ:=back db df bI (fy.trans (.c7 x2));have O7:eu (dM ag) s.heap bI.heap:=λb o e=>nQ.ke b o e (λh=>by cases h) (λh=>h);exact u7 c MY H7 O7 nQ.sh f2 hm λg8 fl=>k ea t g8 fl
end
section
variable{w:bz}{r n:Nat}{A':b9}{s:ai}{cls:ao}{args:List ao}{ea:aN}{s₁:ai}
theorem mu.up{B:ca}{l:List Env}{t:aN}{h':ca}(F:mu ag A s cls args ea s₁)(c:lf ag r n A s)(hl:A.frames=some l)(f1:akF B l ea cls (.ref t) s₁.heap)(ht:s₁.heap.TupAt t args)(hn:B.get? t=ah)
  (hB:∀b o,s.heap.get? b=some o->(∀e∈l,e.frame≠some b)->∃o',B.get? b=some o') (f2:akF B l ea cls (.ref t) h') (up:s₁.heap.UpToSlots h'):mu ag A s cls args ea {s₁ with heap:=h'}:=by
 refine eN c.fr λl' h1 hF hD=>?_;rw[hl]at h1;cases h1;refine⟨?_,F.tk,vu F.ext f1.1 f2.1 up hB hF hD,l,B,t,hl,f2,ht.of_slots up,hn,hB⟩;refine mO F.sh λh k fC=>?_;subst fC;exact Cb _ _ rfl
theorem AL{K:ai->Prop}{l:List Env}{L:aN}(F:mu ag A s cls args ea s₁)(c:lf ag r n A s)(Cf:A.frames=some (env::l))(hf:env.frame=some L)(k:∀cG,mu ag A s cls args ea cG->K cG):
  aA (az prog w) A (A0 (.ref ea) env) (λ_ bI=>aA (az prog w) A (uu (.ref ea) ah) (λ_ cG=>K cG) E bI) E s₁:=by
 refine ly F.fly λl' B t h1 f1 ht hn hB=>?_;rw[Cf]at h1;cases h1;exact wpAny_looks_onW Cf hf f1 λh4 held sm4=>wpAny_landsW held λh5 f5 Qy=>k _ (F.up c Cf f1 ht hn hB f5 (sm4.trans Qy))
theorem oS{K:ai->Prop}{FO:b9}(F:mu ag A s cls args ea s₁)(c:lf ag r n A s)(k:∀cG,mu ag A s cls args ea cG->K cG):aA (az prog w) FO (uu (.ref ea) ah) (λ_ cG=>K cG) E s₁:=by refine ly F.fly λl' B t h1 f1 ht hn hB=>lands_againW f1 λh5 f5 Qy=>?_;exact k _ (F.up c h1 f1 ht hn hB f5 Qy)
theorem mu.pR(F:mu ag A s cls args ea s₁):ja (dM ag) s s₁:=by refine mO F.sh λh k fC=>?_;subst fC;exact jp h k rfl F.ext
theorem mu.obj(F:mu ag A s cls args ea s₁):∃t oe ws,s₁.heap.get? ea=some oe/\oe.cls=cls/\oe.data=.fields ws/\ws[0]?=some (.ref t)/\s₁.heap.TupAt t args:=by refine rK F.fly λl B t _ f ht _=>cU f.first λoe ws a b c d=>?_;exact⟨t,oe,ws,a,b,c,d,ht⟩
end
set_option tactic.hygienic true
section
variable{w:bz}{s:ai}{K:ph}{ea C t:aN}
theorem lu{M:VF}{h:ca}{o:Obj}(ho:h.get? ea=some o):Looks M h (Qh (.ref ea)) o.cls:=(Looks.ld ho).andThen .now
open Builtin in
theorem JQ{oe:Obj}{ws:Array ao}{x:Str}{u:Tok}{Q:ao->ai->Prop}(X:K.In s.heap)(ho:s.heap.get? ea=some oe)(hc:oe.cls=.ref C)(hd:oe.data=.fields ws)(h0:ws[0]?=some (.ref t))(ht:s.heap.TupAt t [.str x u])
  (hs:akX K (.ref C) "__str__"=some (some (.builtin "BaseException.__str__"))) (hm:subIn K (.ref C) (.type "BaseException")=some aj) (hu:A.units+2<nM) (q:Q (.str x u) s):aA (az prog w) A (call (.type "str") [.ref ea]) Q E s:=by
 have LT:∀(M:VF),Looks M s.heap (Qh (.ref ea)) (.ref C):=λM=>by refine jj hc ?_;exact lu ho
 refine callType_new F.called_str (by decide) (F.typeCall_str_1 _) (F.newCall_str_1 _) (λobj=>F.args_object_init_2 obj _) F.entry_str_new
  (meets_str_new (S:=λA' R s'=>A'.units+1<nM/\s'=s/\R (.ok (.ret (.str x u))) s')
   λSI w' A' R s' hq=>?_)
  ⟨(show A.units+1+1<nM from hu),rfl,qD _ _ _,q⟩
 refine yK hq λMT or hr=>?_;subst or;unfold Builtin.Str.strOf;refine aR (m:=cRoomFor _ _) (wpAny_cRoomFor MT ?_);refine aR (m:=callSpecial? (.ref ea) (ar "__str__") _) (aR (aR ((LT _).here ((looks_findIn X hs).here (gG (aR ((amI (alz.str.bind _)).here (aR ?_))))))));refine aV (Q:=λv s₁=>v=.str x u/\s₁=s') (wpAny_call (codeAny_call_builtin alz.str.plain F.entry_bexc_str (check_slot (i:="BaseException.__str__") (owner:="BaseException") (n:="__str__") (by decide+kernel) (by decide+kernel) ((LT _).andThen (looks_subIn X hm)) (F.args_bexc_str _) ?_))) (λv s₁ h=>?_) λ_ _ z=>z
 ·unfold Builtin.«BaseException.__str__»;refine c3 ht λot k hto _ htd=>?_;have args:∀{A:b9} {Q:ao×List ao->ai->Prop} {E},Q (.ref t,[.str x u]) s'->aA (az SI w') A (aey (.ref ea)) Q E s':=λhq=>by unfold aey;exact aR (akT ho hd h0 (aR (wpAny_seqItems hto htd (aO hq))))
  repeat (first|with_reducible refine args ?_|wp_step)
  exact⟨rfl,rfl⟩
 ·refine eA h λSG or=>?_;subst SG;subst or;refine aO ?_
  repeat (first|wp_step)
  exact hr
end
set_option tactic.hygienic false
section
variable{w:bz}{r n:Nat}{FO:b9}{s:ai}{K:ph}{cls:ao}{args:List ao}{ea:aN}
theorem sC{Q:ao->ai->Prop}(W:Wd prog w ag mg mb r P)(e:jP ι Av env sc σ s.heap)(kp:∀b o,ag.get? b=some o->s.heap.get? b=some o){x:Str}{p:Pos}{v:ao}(hx:mg x=some v)(hs:sc.lookup x=some .globalImplicit)(hd:(x==ar "__debug__")=an)(k:Q v s):
  aA (az prog w) A (et (.Name x p) env) Q E s:=by
 have hk:env.kindOf x=some .globalImplicit:=(e.nm x _ hs).elim id λq=>nomatch q.1;refine vR e.kind hk (loadGlobal_global (mg:=mg) ?_ hx k) hd;refine am e.gl ?_;exact W.g.keeps kp
theorem sD{Q:ao->ai->Prop}(W:Wd prog w ag mg mb r P)(e:jP ι Av env sc σ s.heap)(kp:∀b o,ag.get? b=some o->s.heap.get? b=some o){x:Str}{p:Pos}{v:ao}(hx:mg x=ah)(hb:hZ x=some v)(hn:x≠"__name__")(hs:sc.lookup x=some .globalImplicit)(hd:(x==ar "__debug__")=an)(k:Q v s):
  aA (az prog w) A (et (.Name x p) env) Q E s:=by
 have hk:env.kindOf x=some .globalImplicit:=(e.nm x _ hs).elim id λq=>nomatch q.1;refine vR e.kind hk (amr (mg:=mg) (mb:=mb) (v:=v) ?_ hx ?_ ?_ k) hd
 ·refine am e.gl ?_;exact W.g.keeps kp
 ·refine am e.bu ?_;exact W.b.keeps kp
 ·refine am (W.bu x hn) ?_;exact hb
theorem K3{t:Expr}{name:Option Str}{body:List cy}{pos:Pos}{rest:List ExceptHandler}{Q:vV->ai->Prop}{c:ao}(ht:∀(A:b9) (E:ao->ai->Prop) (Q:ao->ai->Prop),Q c s->aA (az prog w) A (et t env) Q E s)(hx:Looks (az prog w) s.heap (excMatches (.ref ea) c) an)
  (k:aA (az prog w) A (mT (.ref ea) env rest) Q E s):aA (az prog w) A (mT (.ref ea) env (.ExceptHandler (some t) name body pos::rest)) Q E s:=by
 refine L3 (FP (ht _ _ _ (hx.here ?_))) (by intro q;cases q);exact k
theorem H1{t:Expr}{IQ:cy}{body:List cy}{pos:Pos}{rest:List ExceptHandler}{Q:vV->ai->Prop}{c:ao}(ht:∀(A:b9) (E:ao->ai->Prop) (Q:ao->ai->Prop),Q c s->aA (az prog w) A (et t env) Q E s)(hx:Looks (az prog w) s.heap (excMatches (.ref ea) c) aj)
  (k:∀E',aA (az prog w) (A.mark (some (.ref ea))) (uu (.ref ea) ah) (λ_ s₁=>aA (az prog w) (A.mark (some (.ref ea))) (jC (IQ::body) env) Q E' s₁) E' s):aA (az prog w) A (mT (.ref ea) env (.ExceptHandler (some t) ah (IQ::body) pos::rest)) Q E s:=by
 refine L3 (FP (ht _ _ _ (hx.here ?_))) (by intro q;cases q);refine codeAny_handlers_suite (k _)
theorem Ff{t:Expr}{IQ:cy}{n:Str}{body:List cy}{pos:Pos}{rest:List ExceptHandler}{Q:vV->ai->Prop}{c:ao}(ht:∀(A:b9) (E:ao->ai->Prop) (Q:ao->ai->Prop),Q c s->aA (az prog w) A (et t env) Q E s)(hx:Looks (az prog w) s.heap (excMatches (.ref ea) c) aj)
  (k:∀E' E'',aA (az prog w) (A.mark (some (.ref ea))) (uu (.ref ea) ah) (λ_ s₁=>aA (az prog w) (A.mark (some (.ref ea))) (storeName env n (.ref ea)) (λ_ bI=>aA (az prog w) (A.mark (some (.ref ea))) (jC (IQ::body) env)
   (λf cG=>aA (az prog w) A (do bindName env n .none;unbindBehindTheSuite env n pos) (λ_ oh=>Q f oh) E cG) E'' bI) E' s₁) E' s):aA (az prog w) A (mT (.ref ea) env (.ExceptHandler (some t) (some n) (IQ::body) pos::rest)) Q E s:=by
 refine L3 (FP (ht _ _ _ (hx.here ?_))) (by intro q;cases q);refine codeAny_handlers_suite_as (k _ _)
theorem qv(e:jP ι Av env sc σ s.heap):(env.scope.kind==.class||(env.scope.kind==.module&&env.locals !=env.globals))=an:=by refine am e.kind ?_;rfl
theorem Bu{tag x why:Str}{C:aN}{u:Tok}{p1 p2 p3 p4 p5 p6:Pos}{kk kd:Nat}{m:Str->Option ao}{Q:vV->ai->Prop}(W:Wd prog w ag mg mb r P)(X:K.In s.heap)(e:jP ι Av env sc σ s.heap)(kH:ku Av s.heap)(kp:∀b o,ag.get? b=some o->s.heap.get? b=some o)(FX:1<=s.toks)
  (hn:s.heap.Ns env.locals m) (hw:m why=some (.ref ea)) (TZ:env.kindOf why=some .local) (T7:(why==ar "__debug__")=an) (Ua:sc.lookup (ar "str")=some .globalImplicit) {oe:Obj} {ws:Array ao} {t:aN}
  (ho:s.heap.get? ea=some oe) (hc:oe.cls=.ref C) (hd:oe.data=.fields ws) (h0:ws[0]?=some (.ref t)) (ht:s.heap.TupAt t [.str x u])
  (hs:akX K (.ref C) "__str__"=some (some (.builtin "BaseException.__str__"))) (hm:subIn K (.ref C) (.type "BaseException")=some aj) (hu:A.units+2<nM) (KZ:tag.length<=1000) (Ul:x.length<=16777216)
  (k:∀v s',ja (dM ag) s s'->1<=s'.toks->bZ s'.heap ι Av (.tup [.str tag,.str x]) v->Q (.ret v) s'):
  aA (az prog w) A (jC [.Return (some (.Tuple [.Constant (.str tag) kd p1,.Call (.Name (ar "str") p2) [.Name why p3] [] p4] kk p5)) p6] env) Q E s:=by
 refine qC (VD (mn ?_));refine iq (iL ?_);refine iq ?_;have x1:ja (dM ag) s {s with toks:=s.toks+1}:=.tok _;have ac6:ar "str"∈lA:=by decide
 refine iW (sD (s:={s with toks:=s.toks+1}) W e kp (W.fre _ ac6) (v:=.type "str") (by decide) (by decide) Ua (by decide) ?_);refine g5 (.inr ⟨_,rfl⟩) (eB.cons (by intro a b q;exact b5 q) eB.nil) ?_;refine iq (vO (lF e.kind TZ hn hw ?_) T7);refine th (JQ (s:={s with toks:=s.toks+1}) X ho hc hd h0 ht hs hm hu ?_);refine th ?_;refine⟨by refine am bC ?_;simp,?_⟩;exact k _ _ (x1.trans (.push _)) (jQ FX) (ll kH (.cons (.str _ _ (VV KZ)) (.cons (.str _ _ Ul) .nil)) (by simp))
end
set_option backward.match.sparseCases true
structure QR(mg:Str->Option ao)(sc:Sc)(K:ph)(cn:Str)(c cls:ao)(b:Bool):Prop where
 gl:mg cn=some c
 sc:sc.lookup cn=some .globalImplicit
 dn:(cn==ar "__debug__")=an
 ex:A1 K cls c=some b
section
variable{w:bz}{r n:Nat}{s fV:ai}{K:ph}{cls:ao}{args:List ao}{ea:aN}
theorem EL{cn:Str}{c:ao}{np pos:Pos}{name:Option Str}{body:List cy}{rest:List ExceptHandler}{Q:vV->ai->Prop}(W:Wd prog w ag mg mb r P)(X0:K.In ag)(F:mu ag A fV cls args ea s)(f:Fx ag r n ι Av st A env sc σ fV)(H:QR mg sc K cn c cls an)
  (k:aA (az prog w) A (mT (.ref ea) env rest) Q E s):aA (az prog w) A (mT (.ref ea) env (.ExceptHandler (some (.Name cn np)) name body pos::rest)) Q E s:=by
 have fs:=f.ext F.pR F.tk;exact ly F.obj λt oe ws ho hc hd h0 ht=>K3 (c:=c) (λFO E Q q=>sC W fs.a.e fs.a.c.kp H.gl H.sc H.dn q) (exm_one (X0.keeps fs.a.c.kp) (hc▸lu ho) H.ex) k
theorem G2{cn tag x why:Str}{c:ao}{C:aN}{u:Tok}{np pos p1 p2 p3 p4 p5 p6:Pos}{kk kd:Nat}{rest:List ExceptHandler}{Q:vV->ai->Prop}(W:Wd prog w ag mg mb r P)(X0:K.In ag)(F:mu ag A fV (.ref C) [.str x u] ea s)(f:Fx ag r n ι Av st A env sc σ fV)(H:QR mg sc K cn c (.ref C) aj)
  (zd:sc.lookup why=some .local) (T7:(why==ar "__debug__")=an) (Ua:sc.lookup (ar "str")=some .globalImplicit)
  (hs:akX K (.ref C) "__str__"=some (some (.builtin "BaseException.__str__"))) (hm:subIn K (.ref C) (.type "BaseException")=some aj) (KZ:tag.length<=1000) (Ul:x.length<=16777216)
  (k:∀v s',fR (dM ag) (mY env) ι Av fV ι Av s'->bZ s'.heap ι Av (.tup [.str tag,.str x]) v->Q (.ret v) s'):
  aA (az prog w) A (mT (.ref ea) env (.ExceptHandler (some (.Name cn np)) (some why) [.Return (some (.Tuple [.Constant (.str tag) kd p1,.Call (.Name (ar "str") p2) [.Name why p3] [] p4] kk p5)) p6] pos::rest)) Q E s:=by
 have fs:=f.ext F.pR F.tk;refine ly F.obj λt oe ws ho hc hd h0 ht=>Ff (c:=c) (λFO E Q q=>sC W fs.a.e fs.a.c.kp H.gl H.sc H.dn q) (exm_one (X0.keeps fs.a.c.kp) (hc▸lu ho) H.ex) λE' E''=>?_;clear ho hc hd h0 ht;refine oS F f.a.c λcG t6=>?_;have f3:=f.ext t6.pR t6.tk;refine ly t6.obj λt oe ws ho hc hd h0 ht=>cW f3.a.e.loc λm hn QJ=>?_;have TZ:env.kindOf why=some .local:=(f3.a.e.nm why _ zd).elim id λq=>nomatch q.1;refine pY TZ hn (λh' jq vd=>?_) (qv f3.a.e);have f4:=f3.uQ zd hn QJ (.obj ea) jq vd (jQ f3.a.c.tk);have hea:ea≠env.locals:=λq=>by subst q;refine gN hn λo es ep e1 e2 _=>?_;cases kM ho e1;rw[hd]at e2;cases e2
 have FW:t≠env.locals:=λq=>by subst q;refine gN hn λo es ep e1 e2 _=>c3 ht λo' n' e3 _ e4=>?_;cases kM e1 e3;rw[e2]at e4;cases e4
 have ho4:=vd.extBut ea oe hea ho;have ht4:h'.TupAt t [.str x u]:=by exact c3 ht λo k1 e1 e2 e3=>iM o k1 (vd.extBut t o FW e1) e2 e3
 refine Bu (s:={cG with heap:=h',toks:=cG.toks+1}) W (X0.keeps f4.a.c.kp) f4.a.e f4.a.S.av f4.a.c.kp f4.a.c.tk jq (aP rfl) TZ T7 Ua ho4 hc hd h0 ht4 hs hm (by have:=f.a.c.A8;exact(fM _ _ _ 1 (.p (.p V0 (.k 2)) K1) V2 (D1 (.p (.p (.p V0 (.m 1000 V1)) (.k 500)) K1) V2 .n) rfl this)) KZ Ul λv s5 x5 tk5 r5=>?_;have f5:=f4.ext x5 tk5;refine cW f5.a.e.loc λm5 hn5 _=>wpAny_nameGoes TZ hn5 (qv f5.a.e) λh6 m6 hn6 hs6=>k v _ ?_ (bZ.other hs6 (kW hn5) r5);have c1:fR (dM ag) (mY env) ι Av cG ι Av {cG with heap:=h',toks:=cG.toks+1}:=.chg vd (.inr (.inl rfl)) (cW (rk jq) λo h _=>⟨o,h⟩);have c2:fR (dM ag) (mY env) ι Av s5 ι Av {s5 with heap:=h6,toks:=s5.toks+1}:=.chg hs6 (.inr (.inl rfl)) (cW (rk hn6) λo h _=>⟨o,h⟩);exact(fR.c7 t6.pR).trans (c1.trans ((fR.c7 x5).trans c2))
noncomputable def Qe(prog:cO)(w:bz)(ag:ca)(r:Nat)(a:aN)(vs:List V)(cls:ao)(AR:List ao->Prop):Prop:=
 (∃o fd,ag.get? a=some o/\o.data=.func fd)/\∀(ι Av:List aN) (A:b9) (s:ai) (ws:List ao) (E:ao->ai->Prop) (Q:ao->ai->Prop),lf ag r 0 A s->ku Av s.heap->bq s.heap ι Av vs ws->(∀ea args s',AR args->mu ag A s cls args ea s'->E (.ref ea) s')->aA (az prog w) A (call (.ref a) ws) Q E s
end
set_option backward.match.sparseCases false
noncomputable def kQ(prog:cO)(w:bz)(ag:ca)(r:Nat)(sc:Sc)(σ:Sg)(cls:ao)(AR:List ao->Prop)(tH:List ExceptHandler)(v:V):Prop:=
 ∀(n:Nat) (ι Av:List aN) (st:St) (A:b9) (env:Env) (fV s:ai) (ea:aN) (args:List ao) (E:ao->ai->Prop) (Q:vV->ai->Prop),AR args->mu ag A fV cls args ea s->Fx ag r n ι Av st A env sc σ fV->
  (∀u s',fR (dM ag) (mY env) ι Av fV ι Av s'->bZ s'.heap ι Av v u->Q (.ret u) s')->aA (az prog w) A (mT (.ref ea) env tH) Q E s
section
variable{w:bz}{r n:Nat}{s fV:ai}{K:ph}{cls c:ao}{AR:List ao->Prop}{v:V}
theorem nt{cn:Str}{np pos:Pos}{name:Option Str}{body:List cy}{rest:List ExceptHandler}(W:Wd prog w ag mg mb r P)(X0:K.In ag)(H:QR mg sc K cn c cls an)(R:kQ prog w ag r sc σ cls AR rest v):
  kQ prog w ag r sc σ cls AR (.ExceptHandler (some (.Name cn np)) name body pos::rest) v:=
 λn ι Av st A env fV s ea args E Q hA F f k=>EL W X0 F f H (R n ι Av st A env fV s ea args E Q hA F f k)
theorem vl{cn tag x why:Str}{C:aN}{np pos p1 p2 p3 p4 p5 p6:Pos}{kk kd:Nat}{rest:List ExceptHandler}(W:Wd prog w ag mg mb r P)(X0:K.In ag)(H:QR mg sc K cn c (.ref C) aj)
  (zd:sc.lookup why=some .local) (T7:(why==ar "__debug__")=an) (Ua:sc.lookup (ar "str")=some .globalImplicit)
  (hs:akX K (.ref C) "__str__"=some (some (.builtin "BaseException.__str__"))) (hm:subIn K (.ref C) (.type "BaseException")=some aj) (KZ:tag.length<=1000) (Ul:x.length<=16777216):
  kQ prog w ag r sc σ (.ref C) (λargs=>∃u,args=[.str x u]) (.ExceptHandler (some (.Name cn np)) (some why) [.Return (some (.Tuple [.Constant (.str tag) kd p1,.Call (.Name (ar "str") p2) [.Name why p3] [] p4] kk p5)) p6] pos::rest) (.tup [.str tag,.str x]):=
 λn ι Av st A env fV s ea args E Q hA F f k=>by obtain⟨u,rfl⟩:=hA;exact G2 W X0 F f H zd T7 Ua hs hm KZ Ul k
theorem wc{cn tag x:Str}{vx:V}{np pos p1 p2 p5 p6:Pos}{kk kd:Nat}{rest:List ExceptHandler}(W:Wd prog w ag mg mb r P)(X0:K.In ag)(Pb:cn∈([ar "ValueError"]:List Str))(KV:mg cn=ah)(hc:hZ cn=some c)(yy:sc.lookup cn=some .globalImplicit)(hex:A1 K cls c=some aj)
  (TY:sc.lookup x=some .local) (hxd:(x==ar "__debug__")=an) (hxv:eO x σ=some vx) (KZ:tag.length<=1000):
  kQ prog w ag r sc σ cls AR (.ExceptHandler (some (.Name cn np)) ah [.Return (some (.Tuple [.Constant (.str tag) kd p1,.Name x p2] kk p5)) p6] pos::rest) (.tup [.str tag,vx]):=
 λn ι Av st A env fV s ea args E Q hA F f k=>by
  have fs:=f.ext F.pR F.tk;refine ly F.obj λt oe ws ho Pd hd h0 ht=>?_;have hn1:cn≠"__name__":=by rcases ax.mp Pb with rfl|q;decide;cases q
  have MX:(cn==ar "__debug__")=an:=by rcases ax.mp Pb with rfl|q;decide;cases q
  refine H1 (c:=c) (λFO E Q q=>sD W fs.a.e fs.a.c.kp KV hc hn1 yy MX q) (exm_one (X0.keeps fs.a.c.kp) (Pd▸lu ho) hex) λE'=>oS F f.a.c λcG t6=>?_;have f3:=f.ext t6.pR t6.tk;refine cW f3.a.e.loc λm hn QJ=>cW (QJ x vx TY hxv) λu hu ru=>?_;have hxk:env.kindOf x=some .local:=(f3.a.e.nm x _ TY).elim id λq=>nomatch q.1;refine qC (VD (mn ?_));refine iq (iL ?_);refine iq (vO (lF (s:={cG with toks:=cG.toks+1}) f3.a.e.kind hxk hn hu ?_) hxd);refine th ?_;refine⟨by refine am bC ?_;simp,?_⟩;have x1:ja (dM ag) cG {cG with toks:=cG.toks+1}:=.tok _;refine k _ _ ((fR.c7 t6.pR).trans (.c7 (x1.trans (.push _)))) (ll f3.a.S.av (.cons (.str _ _ (VV KZ)) (.cons ru .nil)) (by simp))
theorem Cw{a:aN}{ps:List Str}{body:List cy}{scope:jm}{vs:List V}{m:Nat}{out:ga}{cc:aN}{x:Str}(W:Wx prog w ag mg mb r P)(D:lE ag a ps body scope)(iO:ag.NoLimit)
  (La:yR vs) (hlen:vs.length=ps.length) (hx:bW P m scope.names (ps.zip vs) [] body=some out) (hv:out.1=.exc cc x):Qe prog w ag (r+1) a vs (.ref cc) (λargs=>∃u,args=[.str x u]):=by
 refine⟨?_,λι Av A s ws E Q c kH rs k=>Ly W D iO c kH rs La hlen hx hv λea t s' F=>k ea _ s' ⟨t,rfl⟩ F⟩;exact kX D.ex λ_ _ _ _ _ o ho hd _=>jp o _ ho hd
end
section
variable{w:bz}
theorem So{B newId ON:String}{bm:List ao}(FB:ExcBaseFacts B newId ON bm){Rc:aN->Bool}(O:∀c,Rc c=aj->∃x,OwnCls x c bm newId mg ag):Vr prog w ag Rc:=by
 intro c hc A env s x np Fw pos a Q E hh Ae h;obtain⟨xn,O⟩:=O c hc;refine gen λGG fN=>?_;obtain⟨tl,N,nm,q,bs,hdct,sn,sub,ab,col,dd,k0,k1,k2,k3,k5,mN,hC,hN,hni,T⟩:=O.obj;refine fN ?_;have hn:eB [a]:=eB.cons Ae eB.nil;refine wpAny_Raise_call_subT (C:=c) (nm:=nm) (q:=q) (N:=N) (bs:=bs) (bm:=tl) (hdct:=hdct) (sn:=sn) (sub:=sub) (ab:=ab) (col:=col) (dd:=dd) (k0:=k0) (k1:=k1) (k2:=k2) (k3:=k3) (k5:=k5)
  FB (mN:=mN) (T.hasType FB.hasBase) hh (hn.any Fw env) hni (aV h (λf s₁ gZ=>⟨gZ.1,?_⟩) λ_ _ z=>z)
 refine kP hn (am (j5 Ae) ?_);refine PySem.Calls.spliced_cons (aV gZ.2 (λu bI ip=>PySem.Calls.spliced_nil ?_) λ_ _ z=>z);exact⟨rfl,by refine am bC ?_;simp,ip.1 _ _ hC,hN.keeps ip.1,T.keeps ip.1,ip.2⟩
end
mutual
noncomputable def vr:V->Bool
 |.loc _=>an
 |.tup vs=>jX vs
 |.lst vs=>jX vs
 |.qo vs=>jX vs
 |.none=>aj
 |.bool _=>aj
 |.int _=>aj
 |.cY _=>aj
 |.str _=>aj
 |.obj _=>aj
noncomputable def jX:List V->Bool
 |[]=>aj
 |v::r=>vr v&&jX r
end
mutual
theorem Cq:∀(v:V),vr v=aj->Fz v
 |.loc _,h=>by simp[vr]at h
 |.tup vs,h=>.tup (ik vs (by simpa [vr]using h))
 |.lst vs,h=>.lst (ik vs (by simpa [vr]using h))
 |.qo vs,h=>.qo (ik vs (by simpa [vr]using h))
 |.none,_=>.none
 |.bool _,_=>.bool _
 |.int _,_=>.int _
 |.cY _,_=>.cY _
 |.str _,_=>.str _
 |.obj _,_=>.obj _
theorem ik:∀(vs:List V),jX vs=aj->yR vs
 |[],_=>.nil
 |v::r,h=>by simp only[jX,cj]at h;exact .cons (Cq v h.1) (ik r h.2)
end
noncomputable def Cl(prog:cO)(w:bz)(ag:ca)(r:Nat)(a:aN)(vs:List V)(v:V):Prop:=
 (∃o fd,ag.get? a=some o/\o.data=.func fd)/\∀(ι Av:List aN) (A:b9) (s:ai) (ws:List ao) (E:ao->ai->Prop) (Q:ao->ai->Prop),lf ag r 0 A s->ku Av s.heap->bq s.heap ι Av vs ws->eb (dM ag) ι Av s Q v->aA (az prog w) A (call (.ref a) ws) Q E s
section
variable{w:bz}{r n:Nat}{s:ai}
theorem lf.low{r' m:Nat}(c:lf ag r' m A s)(h:r<=r'):lf ag r m A s:=
 ⟨c.hh,by have:=c.dep;exact(fM _ _ _ 1 (.p V0 V2) (.k 900) (D1 (.p V0 V1) (.k 900) (D1 V2 V1 .n)) rfl this h),by have:=c.A8;exact X7 this h,c.fr,c.tk,c.kp⟩
theorem Cl.up{r':Nat}{a:aN}{vs:List V}{v:V}(c:Cl prog w ag r a vs v)(h:r<=r'):Cl prog w ag r' a vs v:=
 ⟨c.1,λι Av A s ws E Q x=>c.2 ι Av A s ws E Q (x.low h)⟩
theorem yF{r':Nat}{Fa:aN->List V->Option V}(c:yS prog w ag r Fa)(h:r<=r'):yS prog w ag r' Fa:=
 λa vs v e=>Cl.up (c a vs v e) h
end
noncomputable def ek(st:St):Nat->V->Option V
 |0,_=>ah
 |k+1,v=>match v with
  |.loc l=>match st[l]?with
   |some vs=>(vs.mapM (ek st k)).map .lst
   |none=>ah
  |.tup vs=>(vs.mapM (ek st k)).map .tup
  |.lst vs=>(vs.mapM (ek st k)).map .lst
  |.qo vs=>(vs.mapM (ek st k)).map .qo
  |v=>some v
noncomputable def yC(st:St)(k:Nat):Sg->Option Sg
 |[]=>some []
 |(x,v)::r=>(ek st k v).bind λu=>(yC st k r).map λq=>(x,u)::q
section
variable{h:ca}
theorem pA{f:V->Option V}{vM:List aN}(hf:∀v v' w,f v=some v'->bZ h ι Av v w->bZ h [] vM v' w)(vs:List V):∀(us:List V) (ws:List ao),vs.mapM f=some us->bq h ι Av vs ws->bq h [] vM us ws:=by
 induction vs with
 |nil=>exact λus ws e r=>Do e▸bq.e0 r .nil
 |cons v vs ih=>exact λus ws e r=>Dn e λu q hu hq e=>e▸bq.e1 r λw ws a b=>.cons (hf v u _ hu a) (ih q _ hq b)
theorem Ar{vM:List aN}(S:kZ ι Av st h)(hs:∀b∈vM,b∈Av)(hi:∀a∈ι,a∉vM)(k:Nat):∀(v v':V) (w:ao),ek st k v=some v'->bZ h ι Av v w->bZ h [] vM v' w:=by
 induction k with
 |zero=>exact λ_ _ _ e _=>bM e
 |succ k ih=>
  intro v v' w e r;refine gen λG bP=>?_;rcases v with _|b|i|x|s|vs|vs|l|a|vs
  ·exact bP (au e▸bZ.e0 r .none)
  ·exact bP (au e▸bZ.e1 r (.bool _))
  ·exact bP (au e▸bZ.e2 r λt=>.int _ t)
  ·exact bP (au e▸bZ.e3 r λt=>.cY _ t)
  ·exact bP (au e▸bZ.e4 r λt hs=>.str _ t hs)
  ·exact fz e λus hu q=>bP (q▸bZ.e5 r λa ws b y z c=>.tup b (λq=>y (hs _ q)) z (pA ih _ _ _ hu c))
  ·exact fz e λus hu q=>bP (q▸bZ.e6 r λa ws b y z c=>.lst b (λq=>y (hs _ q)) z (pA ih _ _ _ hu c))
  ·revert e;show(match st[l]?with|some vs=>_|ah=>_)=_->G;generalize hv:st[l]?=o;rcases o with _|vs
   ·exact bM
   ·refine λe=>fz e λus hu q=>bP (q▸bZ.e7 r λa hl=>?_);refine cU (S.at_ _ _ hv) λa ws ha hp hz rs=>?_;cases kM hl ha;exact .lst hp (hi _ (aX hl)) hz (pA ih _ _ _ hu rs)
  ·exact bP (au e▸bZ.e8 r (.obj _))
  ·exact fz e λus hu q=>bP (q▸bZ.e9 r λa ws b y z c=>.qo b (λq=>y (hs _ q)) z (pA ih _ _ _ hu c))
theorem DJ(S:kZ ι Av st h)(k:Nat)(v v':V)(w:ao):ek st k v=some v'->bZ h ι Av v w->bZ h [] [] v' w:=Ar S (λ_ h=>bV h bA) (λ_ _=>bA) k v v' w
theorem wY{k:Nat}{x:Str}{v':V}(σ:Sg):∀(cR:Sg),yC st k σ=some cR->eO x cR=some v'->∃v,eO x σ=some v/\ek st k v=some v':=by
 induction σ with
 |nil=>
  exact λcR e q=>by cases e;cases q
 |cons pq r ih=>
  rcases pq with⟨y,v⟩;exact λcR e q=>by
   unfold yC at e;refine cW (pn e) λu hu e=>?_;refine cW (zh e) λq' hq fC=>?_;subst fC;simp only[eO]at q⊢;split
   ·rename_i KM;rw[aP KM]at q;cases q;exact jW v rfl hu
   ·rename_i KM;rw[bg KM]at q;exact ih q' hq q
end
section
variable{r n:Nat}{cR:Sg}{s:ai}
theorem Fx.freeze{k:Nat}(f:Fx ag r n ι Av st A env sc σ s)(e:yC st k σ=some cR):Fx ag r n [] [] [] A env sc cR s:=by
 refine⟨⟨f.a.c,⟨(λa ha=>by cases ha),(λb hb=>by cases hb),fG,rfl,(λl vs q=>by cases l<;>cases q)⟩,f.a.e.kind,f.a.e.gl,f.a.e.bu,f.a.e.nm,?_,f.a.e.sS,λx v hx hv=>?_⟩,f.l0,f.c0,(λb hb=>by cases hb),f.ap,f.cc⟩
 ·refine cW f.a.e.loc λm hn hm=>jW m hn (λx v hx hv=>?_);refine cW (wY _ _ e hv) λu hu hf=>cW (hm x u hx hu) λwv h1 h2=>?_;exact jW wv h1 (DJ f.a.S _ _ _ _ hf h2)
 ·refine cW (wY _ _ e hv) λu hu hf=>c3 (f.a.e.D0 x u hx hu) λc wv h1 h2 h3=>?_;exact iM c wv h1 h2 (DJ f.a.S _ _ _ _ hf h3)
end
section
variable{w:bz}{r n:Nat}{s:ai}
theorem fR.weak{bk:aN->Prop}{X:aN->Prop}{db df WQ Av3:List aN}{s s2 s3:ai}(x:fR bk X [] Av s db df s2)(y:fR bk X [] [] s2 WQ Av3 s3):fR bk X [] Av s [] Av s3:=by
 refine⟨⟨[],rfl⟩,λb h=>h,λb h=>.inl h,(λb h=>by cases h),λb o e hi hX=>?_,λb o e=>?_,?_⟩
 ·rcases x.ke b o e hi hX with e2|⟨hn,⟨es,nn,hd⟩,sl,e2⟩
  ·exact y.ke b o e2 hi hX
  ·rcases y.ke b _ e2 hi hX with e3|⟨_,_,JW,e3⟩
   ·exact .inr ⟨hn,⟨es,nn,hd⟩,sl,e3⟩
   ·exact .inr ⟨hn,⟨es,nn,hd⟩,JW,e3⟩
 ·exact eE (x.al b o e) λo' e'=>y.al b o' e'
 ·refine mO x.sh λh2 k2 q2=>mO y.sh λh3 k3 q3=>?_;exact Cb h3 k3 (am q3 (am q2 rfl))
end
section
open PySem.Builtin.Re
noncomputable def sP:Nat->xh->Option xh
 |0,_=>ah
 |k+1,m=>if(m.runFor alg).outcome.isSome then some (m.runFor alg)else sP k (m.runFor alg)
noncomputable def lx(m:xh):Option (Option xh):=(sP 400 m).bind λm=>match m.outcome with
 |some .matched=>some (some m)
 |some .failed=>some ah
 |_=>ah
section
variable{M:VF}{s:ai}
theorem AF:∀(k t:Nat) (m m':xh),k<=t->sP k m=some m'->Q m' s->aA M A (reDrive t m) Q E s
 |0,_,_,_,_,h,_=>by exact bM h
 |k+1,0,_,_,hk,_,_=>by exact(abj hk).elim
 |k+1,t+1,m,m',hk,h,q=>by
  unfold sP at h;unfold reDrive;split at h
  ·rename_i hs;have qq:=au h;subst qq;exact am (aP hs) (aO q)
  ·rename_i hs;exact am (bg hs) (aR (vN (AF k t _ m' (o63 hk) h q)))
theorem GU{α:Type}{f:α->PUnit->Sem (ForInStep PUnit)}(hf:∀a (Q:ForInStep PUnit->ai->Prop),Q (.yield ⟨⟩) s->aA M A (f a ⟨⟩) Q E s)(l:List α):Q ⟨⟩ s->aA M A (forIn l ⟨⟩ f) Q E s:=by
 induction l with
 |nil=>
  exact λq=>by refine am List.forIn_nil ?_;exact aO q
 |cons a l ih=>
  exact λq=>by rw[Qp];exact aR (hf a _ (ih q))
theorem Ig(h:lx m=some o)(q:Q o s):aA M A (reRunToEnd m) Q E s:=by
 unfold lx at h;refine cW (pn h) λm' h1 h2=>?_;unfold reRunToEnd;refine aR (AF 400 (2^64) m m' (by decide) h1 ?_);refine aR (GU (λi Q q=>?_) _ ?_)
 ·split
  ·exact aR (vN (aO q))
  ·exact aO q
 ·split at h2
  ·rename_i ho;have qq:=au h2;subst qq;refine am ho ?_;exact aO q
  ·rename_i ho;have qq:=au h2;subst qq;refine am ho ?_;exact aO q
  ·exact bM h2
end
end
section
open PySem.Builtin.Re
noncomputable def N4(code text:Array Nat)(k:Nat):Nat->Nat->Bool->Option (List Str):=
 Bf (λ_ _ _=>ah) (λ_ r start last rn=>(lx (yV code text 1 start text.size rn)).bind λo=>o.elim (some [⟨text.extract last text.size⟩]) λm=>
  if((2*(0+1-1):Nat):Int)>=m.lastmark then ah else(m.marks.getD (2*(0+1-1)) ah).bind λb=>(m.marks.getD (2*(0+1-1)+1) ah).bind λe=>
   if e<b then ah else(r m.handed m.handed (m.handed==m.start)).map λl=>⟨text.extract last m.start⟩::⟨text.extract b e⟩::l) k
noncomputable def VO(code:Array Nat)(x:Str):Option (List Str):=N4 code x.cps (2*x.cps.size+3) 0 0 an
noncomputable def bE:Array Nat:=#[14,4,0,1,4294967295,17,0,7,14,24,10,1,4294967295,13,5,22,48,57,0,1,15,17,15,13,11,9,0,26624,2147483648,0,0,0,0,0,0,15,2,0,17,1,1]
end
set_option tactic.hygienic true
section
open PySem.Builtin.Re
section
variable{w:bz}{s:ai}
theorem Iu{x:Array Nat}(i j:Nat):(x.extract i j).size<=x.size:=akf▸aM (bO _ _) (dJ _ _)
theorem uO{Q:ao->ai->Prop}{x:Array Nat}{b e:Nat}(hz:x.size<=10000)(q:Q (.str ⟨x.extract b e⟩ s.toks) {s with toks:=s.toks+1}):aA (az prog w) A (reSlice x 0 b e) Q E s:=
 wpAny_mkStr q (am bC (aM (Iu b e) (aM hz (by decide))))
theorem H'{Q:ao->ai->Prop}{t:ReTarget}{m:xh}{b e:Nat}{d:Sem ao}(hk:t.kind=0)(h1:¬((2*(0+1-1):Nat):Int)>=m.lastmark)(h2:m.marks.getD (2*(0+1-1)) ah=some b)(h3:m.marks.getD (2*(0+1-1)+1) ah=some e)(h4:¬e<b)(hz:t.text.size<=10000)
  (q:Q (.str ⟨t.text.extract b e⟩ s.toks) {s with toks:=s.toks+1}):aA (az prog w) A (reMachineGroup t m (0+1) d) Q E s:=by
 unfold reMachineGroup;refine am (bg h1) (am h2 (am h3 ?_));exact am (M:=λz=>aA (az prog w) A z Q E s) (bg h4) (hk▸uO hz q)
theorem OH{α:Type}{c:Prop}[d:Decidable c]{x y:Sem α}{Q:α->ai->Prop}(h1:c->aA (az prog w) A x Q E s)(h2:¬c->aA (az prog w) A y Q E s):aA (az prog w) A (if c then x else y) Q E s:=by
 rcases d with d|d
 ·exact h2 d
 ·exact h1 d
theorem nb{b:Bool}(h:¬(!b)=aj):b=aj:=by
 rcases b with _|_
 ·exact bV rfl h
 ·rfl
theorem nb'{b:Bool}(h:(!b)=aj):b=an:=by
 rcases b with _|_
 ·rfl
 ·exact h.symm
theorem Fn{β:Type}{f:Nat->β->Sem (ForInStep β)}{b:β}{Q:β->ai->Prop}(h:aA (az prog w) A (f 0 b) (λr s'=>match r with|.yield b'=>Q b' s'|.done b'=>Q b' s') E s):aA (az prog w) A (forIn (ba 1) b f) Q E s:=
 wpAny_forIn_list f (λl b' s'=>match l with|[]=>Q b' s'|_::_=>l=[0]/\aA (az prog w) A (f 0 b') (λr s'=>match r with|.yield b'=>Q b' s'|.done b'=>Q b' s') E s') Q (λx rest b s q=>by obtain⟨q1,q2⟩:=q;cases q1;exact q2) (λb s q=>q) [0] b ⟨rfl,h⟩
theorem Ct{α β:Type}{f:α->β->Sem (ForInStep β)}{l:List α}{b:β}{Q:β->ai->Prop}(I:List α->β->ai->Prop)(h0:I l b s)
  (h:∀LI:List α->β->ai->Prop,(∀l b s,LI l b s->I l b s)->(∀l b s,I l b s->LI l b s)->(∀x rest b s,LI (x::rest) b s->aA (az prog w) A (f x b) (λr s'=>match r with|.yield b'=>LI rest b' s'|.done b'=>Q b' s') E s)/\∀b s,LI [] b s->Q b s):
  aA (az prog w) A (forIn l b f) Q E s:=
 have x:=h I (λ_ _ _=>id) λ_ _ _=>id
 wpAny_forIn_list f I Q x.1 x.2 l b h0
theorem Ep{p:aN}{o:Obj}{fs:Array ao}{cd:aN}{x:Str}{u:Tok}{Q:ReTarget->ai->Prop}{oc:Obj}{cs:Array ao}{k:Nat}(ho:s.heap.get? p=some o)(hd:o.data=.fields fs)(hw:reRawNat (fs.getD 6 .none)=0)(hc:fs.getD 5 .none=.ref cd)
  (O3:s.heap.get? cd=some oc) (ze:oc.data=.seq cs k) (q:Q {pattern:=.ref p,string:=.str x u,code:=(cs.map reRawOf).map (·.toNat),text:=x.cps,kind:=0,groups:=reRawNat (fs.getD 2 .none),pos:=0,lim:=x.cps.size} s):aA (az prog w) A (reWholeTarget (.ref p) (.str x u)) Q E s:=by
 unfold reWholeTarget;refine aR (m:=fieldsOf (.ref p)) (aR (Qg ho (am hd (aO ?_))));refine aR (m:=reTextOf (.str x u)) (aR (aO (aO ?_)));dsimp -iota only;refine am hw (aR (m:=reNoCollectionInside (.str x u) 0) (aO ?_));refine aR (m:=reRawItems (fs.getD 5 fZ)) ?_;unfold reRawItems seqItems?;refine am hc (aR (aR (Qg O3 ?_)));exact am ze (aO (aO (aO q)))
open PySem.Builtin in
theorem zH{p:aN}{o:Obj}{fs:Array ao}{cd:aN}{x:Str}{u:Tok}{Q:Fin->ai->Prop}{code:Array Nat}{oc:Obj}{cs:Array ao}{k:Nat}(ho:s.heap.get? p=some o)(hd:o.data=.fields fs)(hw:reRawNat (fs.getD 6 .none)=0)(hg:reRawNat (fs.getD 2 .none)=1)(hc:fs.getD 5 .none=.ref cd)
  (O3:s.heap.get? cd=some oc) (ze:oc.data=.seq cs k) (H0:(cs.map reRawOf).map (·.toNat)=code) (hz:x.cps.size<=5000) {ys:List Str} (hs:VO code x=some ys)
  (q:∀ws k',(∀h,bq h ι Av (ys.map .str) ws)->s.toks<=k'->Q (.done (.ret (.ref s.heap.objs.size))) {s with heap:=s.heap.push {cls:=.type "list",data:=.seq ws.toArray},toks:=k'}):
  aA (az prog w) A (Builtin.«re.Pattern.split» ⟨[.ref p,.str x u],[]⟩) Q E s:=by
 refine aR (m:=reNamed _ _ _ _ _ _) (aO ?_);refine aR (m:=pure 0) (aO ?_);refine aR (Ep ho hd hw hc O3 ze ?_);rw[H0,hg];have hsz:∀i j,(x.cps.extract i j).size<=16777216:=λi j=>aM (Iu i j) (aM hz (by decide));refine aR (Ct (λ(rest:List Nat) (b:Array ao×Nat×Nat×Bool×Int×Bool) (s':ai)=>∀G:Prop,(∀zs NG k',ys=zs++NG->(∀h,bq h ι Av (zs.map .str) b.1.toList)->s'={s with toks:=k'}->s.toks<=k'->zs.length+2*rest.length<=2*(2*x.cps.size+3)->
  (b.2.2.2.2.2=aj->NG=[⟨x.cps.extract b.2.2.1 x.cps.size⟩])->(b.2.2.2.2.2=an->N4 code x.cps rest.length b.2.1 b.2.2.1 b.2.2.2.1=some NG)->G)->G)
  (λ_ g=>g [] ys s.toks rfl (λh=>.nil) rfl (aD _) (by rw[gD];exact ac (iz _)) (λq=>nomatch q) λ_=>gD (n:=2*x.cps.size+3)▸hs) λLI FT BV=>⟨λtn rest b s' hL=>?_,λb s' hL=>?_⟩)
 ·refine FT _ _ _ hL _ λzs NG k' e1 e2 e0 e3 e4 e5 e6=>?_;subst e0;refine OH (λho=>?_) λho=>?_
  ·refine aR (OH (λh=>nomatch h) λ_=>?_);refine bK (e6 (nb' ho)) λfo hf e=>Ig (m:=yV code x.cps 1 b.2.1 x.cps.size b.2.2.2.1) hf ?_;clear hf;rcases fo with _|m
   ·exact aO (BV _ _ _ λ_ g=>g zs NG k' e1 e2 rfl e3 (SS e4) (λ_=>(au e).symm) λq=>nomatch q)
   ·refine OP e λh1 e=>bK e λb0 h2 e=>bK e λe0 h3 e=>OP e λh4 e=>fz e λr hr er=>aR (uO (YO hz) ?_);refine aR (Fn (aR (H' rfl h1 h2 h3 h4 (YO hz) (aO ?_))));refine aO (BV _ _ _ λ_ g=>g (zs++[⟨x.cps.extract b.2.2.1 m.start⟩,⟨x.cps.extract b0 e0⟩]) r (k'+1+1) ?_ (λh=>?_) rfl (by exact dp _ _ 1 V0 (.p (S1 V1) K1) (D1 V0 V1 .n) rfl e3) (am aE (by exact fM _ _ _ 1 (.p (.p V0 (.k 2)) (.m 2 V1)) (.m 2 (.p (.m 2 V2) (.k 3))) (D1 (.p V0 (.m 2 (S1 V1))) (.m 2 (.p (.m 2 V2) (.k 3))) .n) rfl e4)) (λq=>nomatch(nb' ho).symm.trans q) λ_=>hr)
    ·exact e1.trans ((congrArg (zs++·) er.symm).trans (br zs [_,_] r).symm)
    ·show bq h ι Av _ ((b.1.push _).push _).toList;rw[tQ,tQ,br,d8];exact(e2 h).append (.cons (.str _ _ (hsz _ _)) (.cons (.str _ _ (hsz _ _)) .nil))
  ·exact aO (BV _ _ _ λ_ g=>g zs NG k' e1 e2 rfl e3 (SS e4) e5 λq=>nomatch(nb ho).symm.trans q)
 ·refine FT _ _ _ hL _ λzs NG k' e1 e2 e0 e3 e4 e5 e6=>?_;subst e0;refine OH (λho=>bM (e6 (nb' ho))) λho=>?_;have e5:=e5 (nb ho);refine aR (uO (YO hz) ?_);have hr:∀h,bq h ι Av (ys.map .str) (b.1.push (.str ⟨x.cps.extract b.2.2.1 x.cps.size⟩ k')).toList:=λh=>by rw[tQ,e1,e5,d8];exact(e2 h).append (.cons (.str _ _ (hsz _ _)) .nil)
  refine aR (yT (aO (q _ (k'+1) hr (o2 e3))) ?_);refine am bC (jj (hr s.heap).length ?_);rw[aL,e1,e5,aE];exact nV (Ym e4 hz)
end
end
set_option tactic.hygienic false
section
open PySem.Builtin.Re
theorem G4:PlainAttrs "re.Pattern":=
 ⟨⟨"object.__getattribute__",by rw[ai3,FQ];lia,by decide+kernel⟩,by rw[ai3,FQ];lia⟩
theorem Db:Slot "re.Pattern" "split" "re.Pattern.split":=
 .of (owner:="re.Pattern") (n:="split") (by rw[ai3,FQ];lia) (by decide+kernel) (by decide+kernel) (by decide+kernel)
  (by first|exact .inl (by decide+kernel)|exact .inr (by decide+kernel)) (by rw[isSubtype_type];lia)
theorem J7:Qh (.builtin "re.Pattern.split")=pure (.type "method_descriptor"):=by refine am builtinType_eq_fast ?_;lia
theorem G5:akY table "re.Pattern.split"=some Builtin.«re.Pattern.split»:=entryFor_of_tree (by lia)
theorem J8(a b:ao):argsOk "re.Pattern.split" ⟨[a,b],[]⟩:=by unfold argsOk;lia
structure Nx(ag:ca)(p:aN)(code:Array Nat):Prop where
 ex:∃o fs cd oc cs k,ag.get? p=some o/\o.cls=.type "re.Pattern"/\o.dict=ah/\o.data=.fields fs/\reRawNat (fs.getD 6 .none)=0/\reRawNat (fs.getD 2 .none)=1/\fs.getD 5 .none=.ref cd/\
  ag.get? cd=some oc/\oc.data=.seq cs k/\(cs.map reRawOf).map (·.toNat)=code
noncomputable def WF(p:aN)(code:Array Nat)(a:aN)(m:Str)(vs:List V):Option V:=match vs with
 |[.str x]=>if a=p/\m=ar "split"/\x.cps.size<=5000 then(VO code x).bind λys=>if ys.length<=16777216 then some (.lst (ys.map .str))else ah else ah
 |_=>ah
section
variable{w:bz}{r:Nat}
set_option tactic.hygienic true in
theorem Ps{code:Array Nat}(H:Nx ag p code):Vw prog w ag r (WF p code):=by
 intro a m vs v h ι Av st A s c S;revert h;rcases vs with _|⟨x,vs⟩
 ·exact bM
 rcases x with _|_|_|_|x|_|_|_|_|_<;>try exact bM
 rcases vs with _|_
 case cons=>exact bM
 refine λh=>cC h λhc h=>yK hc λSG or hz=>bK h λys hys h=>cC h λhl h5=>?_;subst SG;subst or;clear h;have qq:=au h5;subst qq;refine gen λGG fN=>?_;obtain⟨o,fs,cd,oc,cs,k,ho,yy,hdi,hd,h6,h2,h5,O3,ze,H0⟩:=H.ex;refine fN ?_;refine oJ ("re.Pattern") ("re.Pattern.split") G4 Db J7 ⟨o,c.kp _ _ ho,yy⟩ (λb e=>by cases e;exact jW o (c.kp _ _ ho) hdi) (λs' ws E Q x' rs k'=>?_);refine cW (Sr rs) λu or r1=>?_;subst or;cases r1;have kp:∀b o,ag.get? b=some o->s'.heap.get? b=some o:=λb o e=>x'.wR (c.kp b o e) (λq=>by have q':ag.get? b=ah:=q;rw[e]at q';cases q');have hT:s'.TypeIs (.ref a) "re.Pattern":=⟨o,kp _ _ ho,yy⟩;refine aen Db hT G5 (zH (ι:=ι) (Av:=Av) (kp _ _ ho) hd h6 h2 h5 (kp _ _ O3) ze H0 hz hys λws k2 hr hk=>⟨_,rfl,?_⟩) (J8 _ _);have zd:ws.length<=16777216:=by refine jj ((hr s'.heap).length) ?_;simpa using hl
 refine k' _ _ ⟨_,k2,rfl,.of_keep λ_ _ e=>aQ _ e⟩ (jf (S.ext x').av (hr _) zd)
end
end
section
open PySem.Builtin.Re
noncomputable abbrev iN(c:Nat)(seen:ky):Except String (Bool×ky):=Sre.accepts bE 13 c seen
noncomputable abbrev Vo(c:Nat)(seen:ky):Except String (Bool×ky):=Sre.accepts bE 23 c seen
section
variable{text:Array Nat}{lim st ls p hd wt:Nat}{ma om:Bool}{marks:Array (Option Nat)}{lm li:Int}{fr:List uw}{seen:ky}
theorem PZ(h:¬(48<=c/\c<=57)):∃s',iN c seen=.ok (an,s'):=by have e:iN c seen=(if(decide (48<=c)&&decide (c<=57))=aj then .ok (aj,seen.add 22)else .ok (!aj,(seen.add 22).add 0)):=rfl;refine am e (am (bg (by simpa using h)) ?_);exact⟨_,rfl⟩
theorem LZ(h:48<=c/\c<=57):∃s',iN c seen=.ok (aj,s'):=by have e:iN c seen=(if(decide (48<=c)&&decide (c<=57))=aj then .ok (aj,seen.add 22)else .ok (!aj,(seen.add 22).add 0)):=rfl;refine am e (am (aP (by simpa using h)) ?_);exact⟨_,rfl⟩
noncomputable def pH(c:Nat):Bool:=decide (c<256)&&(bE.getD (23+2+(1+c/32)) 0).testBit (c%32)
theorem I5:∃s',Vo c seen=.ok (pH c,s'):=by
 have e:Vo c seen=(if pH c=aj then .ok (aj,seen.add 9)else .ok (!aj,(seen.add 9).add 0)):=rfl;refine am e ?_
 cases h:pH c with
 |true=>exact⟨_,rfl⟩
 |false=>exact⟨_,rfl⟩
theorem C6:cf ⟨bE,text,lim,st,ls,an,ma,5,p,hd,om,marks,-1,li,#[],ah,fr,wt,ah,seen,ah⟩=
  ⟨bE,text,lim,st,ls,an,ma,7,p,hd,om,marks.setIfInBounds 0 (some p),0,li,#[],ah,fr,wt,ah,seen.add 17,ah⟩:=by
 rfl
noncomputable abbrev Fq(pc p:Nat)(om:Bool)(lm li:Int):uw:={wait:=.nextBranch,pc:=pc,pos:=p,outermost:=om,kept:={lastmark:=lm,lastindex:=li}}
noncomputable abbrev DN(p:Nat)(om:Bool):uw:={wait:=.nextStart,pc:=5,pos:=p,outermost:=om}
theorem C5(hw:wt+1<=16777216):cf ⟨bE,text,lim,st,ls,an,ma,7,p,hd,om,marks,lm,li,#[],ah,fr,wt,ah,seen,ah⟩=
  ⟨bE,text,lim,st,ls,an,ma,9,p,p,om,marks,lm,li,#[],ah,Fq 8 p om lm li::fr,wt+1,ah,seen.add 7,ah⟩:=by
 have e:cf ⟨bE,text,lim,st,ls,an,ma,7,p,hd,om,marks,lm,li,#[],ah,fr,wt,ah,seen,ah⟩=(if wt+1+0>16777216 then lH ⟨bE,text,lim,st,ls,an,ma,7,p,hd,om,marks,lm,li,#[],ah,fr,wt,ah,seen.add 7,ah⟩ "frames:memory" else
  ⟨bE,text,lim,st,ls,an,ma,9,p,p,om,marks,lm,li,#[],ah,Fq 8 p om lm li::fr,wt+1+0,ah,seen.add 7,ah⟩):=rfl
 exact am e (am (bg (o83 hw)) rfl)
noncomputable def jY(text:Array Nat)(n:Nat):Nat->Nat:=Bf (λ_=>0) (λ_ r p=>if 48<=text.getD p 0/\text.getD p 0<=57 then r (p+1)+1 else 0) n
theorem AG(h:48<=text.getD p 0/\text.getD p 0<=57):jY text (n+1) p=jY text n (p+1)+1:=aP h
theorem DV(h:¬(48<=text.getD p 0/\text.getD p 0<=57)):jY text (n+1) p=0:=bg h
theorem GT(n:Nat):∀(p f:Nat) (seen:ky),∃s',Sre.run bE text 13 n p f seen=.ok (f+jY text n p,s'):=by
 induction n with
 |zero=>
  exact λp f seen=>⟨seen,rfl⟩
 |succ n ih=>
  exact λp f seen=>by
   by_cases h:48<=text.getD p 0/\text.getD p 0<=57
   ·refine am (AG h) (eE (LZ (seen:=seen) h) λs1 e1=>?_);refine eE (ih (p+1) (f+1) s1) λs2 e2=>⟨s2,?_⟩;show(iN (text.getD p 0) seen>>=_)=_;refine am e1 ?_;show Sre.run bE text 13 n (p+1) (f+1) s1=_;refine am e2 ?_;congr 2;exact o8
   ·refine am (DV h) (eE (PZ (seen:=seen) h) λs1 e1=>?_);refine⟨s1,?_⟩;show(iN (text.getD p 0) seen>>=_)=_;refine am e1 ?_;rfl
noncomputable abbrev fGb(p:Nat)(n:Nat)(om:Bool)(lm li:Int):uw:={wait:=.giveBack,pc:=9,pos:=p,outermost:=om,count:=n,kept:={lastmark:=lm,lastindex:=li}}
theorem uK:cf ⟨bE,text,lim,st,ls,an,ma,9,p,hd,om,marks,lm,li,#[],ah,fr,wt,ah,seen,ah⟩=
  (if((1:Nat):Int)>((lim:Int)-p)then⟨bE,text,lim,st,ls,an,ma,9,p,hd,om,marks,lm,li,#[],ah,fr,wt,some an,seen.add 24,ah⟩else
   match Sre.run bE text 13 (min 4294967295 ((lim:Int)-p).toNat) p 0 ((seen.add 24).add 13)with
   |.error why=>lH ⟨bE,text,lim,st,ls,an,ma,9,p,hd,om,marks,lm,li,#[],ah,fr,wt,ah,seen.add 24,ah⟩ why
   |.ok (n,s')=>if n<1 then⟨bE,text,lim,st,ls,an,ma,9,p,hd,om,marks,lm,li,#[],ah,fr,wt,some an,s',ah⟩else
    (if wt+1+0>16777216 then lH ⟨bE,text,lim,st,ls,an,ma,9,p+n,hd,om,marks,lm,li,#[],ah,fr,wt,ah,s',ah⟩ "frames:memory" else
     ⟨bE,text,lim,st,ls,an,ma,20,p+n,p+n,om,marks,lm,li,#[],ah,fGb (p+n) n om lm li::fr,wt+1+0,ah,s',ah⟩)):=rfl
theorem zC(hp:p<lim)(hl:lim<=100000)(hc:jY text (lim-p) p=0):∃s',cf ⟨bE,text,lim,st,ls,an,ma,9,p,hd,om,marks,lm,li,#[],ah,fr,wt,ah,seen,ah⟩=
  ⟨bE,text,lim,st,ls,an,ma,9,p,hd,om,marks,lm,li,#[],ah,fr,wt,some an,s',ah⟩:=by
 refine am uK (am (bg (o84 hp)) (am (show min 4294967295 ((lim:Int)-p).toNat=lim-p by exact o85 hl) ?_));refine eE (GT (text:=text) (lim-p) p 0 ((seen.add 24).add 13)) λs' e=>am e ?_;dsimp only;exact am (aP (by exact dD _ 1 (.p (.p (.k 0) V0) K1) K1 (D1 V0 (.k 0) .n) rfl (ac hc))) (⟨_,rfl⟩)
theorem Ex(hp:p<lim)(hl:lim<=100000)(hw:wt+1<=16777216)(hc:1<=jY text (lim-p) p):∃s',cf ⟨bE,text,lim,st,ls,an,ma,9,p,hd,om,marks,lm,li,#[],ah,fr,wt,ah,seen,ah⟩=
  ⟨bE,text,lim,st,ls,an,ma,20,p+jY text (lim-p) p,p+jY text (lim-p) p,om,marks,lm,li,#[],ah,fGb (p+jY text (lim-p) p) (jY text (lim-p) p) om lm li::fr,wt+1,ah,s',ah⟩:=by
 rw[uK,bg (by exact o84 hp),show min 4294967295 ((lim:Int)-p).toNat=lim-p by exact o85 hl];refine eE (GT (text:=text) (lim-p) p 0 ((seen.add 24).add 13)) λs' e=>?_;rw[e];dsimp only;rw[bg (aaX hc),bg (o83 hw),iz];exact⟨_,rfl⟩
theorem Ez(hp:p<lim)(hc:pH (text.getD p 0)=an):∃s',cf ⟨bE,text,lim,st,ls,an,ma,23,p,hd,om,marks,lm,li,#[],ah,fr,wt,ah,seen,ah⟩=
  ⟨bE,text,lim,st,ls,an,ma,23,p,hd,om,marks,lm,li,#[],ah,fr,wt,some an,s',ah⟩:=by
 refine eE (I5 (c:=text.getD p 0) (seen:=seen.add 13)) λs' e'=>?_;have e:cf ⟨bE,text,lim,st,ls,an,ma,23,p,hd,om,marks,lm,li,#[],ah,fr,wt,ah,seen,ah⟩=(if p>=lim then⟨bE,text,lim,st,ls,an,ma,23,p,hd,om,marks,lm,li,#[],ah,fr,wt,some an,seen.add 13,ah⟩else
   match Vo (text.getD p 0) (seen.add 13)with
   |.error why=>lH ⟨bE,text,lim,st,ls,an,ma,23,p,hd,om,marks,lm,li,#[],ah,fr,wt,ah,seen.add 13,ah⟩ why
   |.ok (an,seen)=>⟨bE,text,lim,st,ls,an,ma,23,p,hd,om,marks,lm,li,#[],ah,fr,wt,some an,seen,ah⟩
   |.ok (aj,seen)=>⟨bE,text,lim,st,ls,an,ma,35,p+1,hd,om,marks,lm,li,#[],ah,fr,wt,ah,seen,ah⟩):=rfl
 refine am e (am (bg (o86 hp)) (am e' (am hc ?_)));exact⟨_,rfl⟩
theorem Bw(hp:p<lim)(hc:pH (text.getD p 0)=aj):∃s',cf ⟨bE,text,lim,st,ls,an,ma,23,p,hd,om,marks,lm,li,#[],ah,fr,wt,ah,seen,ah⟩=
  ⟨bE,text,lim,st,ls,an,ma,35,p+1,hd,om,marks,lm,li,#[],ah,fr,wt,ah,s',ah⟩:=by
 refine eE (I5 (c:=text.getD p 0) (seen:=seen.add 13)) λs' e'=>?_;have e:cf ⟨bE,text,lim,st,ls,an,ma,23,p,hd,om,marks,lm,li,#[],ah,fr,wt,ah,seen,ah⟩=(if p>=lim then⟨bE,text,lim,st,ls,an,ma,23,p,hd,om,marks,lm,li,#[],ah,fr,wt,some an,seen.add 13,ah⟩else
   match Vo (text.getD p 0) (seen.add 13)with
   |.error why=>lH ⟨bE,text,lim,st,ls,an,ma,23,p,hd,om,marks,lm,li,#[],ah,fr,wt,ah,seen.add 13,ah⟩ why
   |.ok (an,seen)=>⟨bE,text,lim,st,ls,an,ma,23,p,hd,om,marks,lm,li,#[],ah,fr,wt,some an,seen,ah⟩
   |.ok (aj,seen)=>⟨bE,text,lim,st,ls,an,ma,35,p+1,hd,om,marks,lm,li,#[],ah,fr,wt,ah,seen,ah⟩):=rfl
 refine am e (am (bg (o86 hp)) (am e' (am hc ?_)));exact⟨_,rfl⟩
end
end
set_option tactic.hygienic true
section
open PySem.Builtin.Re
section
variable{text:Array Nat}{lim st ls p q hd wt:Nat}{ma om EV:Bool}{marks:Array (Option Nat)}{lm li yi yk:Int}{fr:List uw}{seen:ky}{pc:Nat}
theorem xW(hw:wt+1<=16777216):cf ⟨bE,text,lim,st,ls,an,ma,pc,q,hd,EV,marks,yi,yk,#[],ah,Fq 8 p om lm li::fr,wt+1,some an,seen,ah⟩=
  ⟨bE,text,lim,st,ls,an,ma,23,p,p,om,marks,lm,li,#[],ah,Fq 22 p om lm li::fr,wt+1,ah,seen,ah⟩:=by
 have e:cf ⟨bE,text,lim,st,ls,an,ma,pc,q,hd,EV,marks,yi,yk,#[],ah,Fq 8 p om lm li::fr,wt+1,some an,seen,ah⟩=
  (if wt+1-(1+0)+1+0>16777216 then lH ⟨bE,text,lim,st,ls,an,ma,8,p,hd,om,marks,lm,li,#[],ah,fr,wt+1-(1+0),ah,seen,ah⟩ "frames:memory" else
   ⟨bE,text,lim,st,ls,an,ma,23,p,p,om,marks,lm,li,#[],ah,Fq 22 p om lm li::fr,wt+1-(1+0)+1+0,ah,seen,ah⟩):=rfl
 refine am e (am (bg (Td hw)) ?_);simp
theorem zP:cf ⟨bE,text,lim,st,ls,an,ma,pc,q,hd,EV,marks,yi,yk,#[],ah,Fq 22 p om lm li::fr,wt+1,some an,seen,ah⟩=
  ⟨bE,text,lim,st,ls,an,ma,22,p,hd,om,marks,lm,li,#[],ah,fr,wt,some an,seen,ah⟩:=by
 rfl
theorem G1(hp:p<ls)(hw:wt+1<=16777216):cf ⟨bE,text,lim,st,ls,an,ma,pc,q,hd,EV,marks,yi,yk,#[],ah,DN p om::fr,wt+1,some an,seen,ah⟩=
  ⟨bE,text,lim,p+1,ls,an,an,5,p+1,p+1,an,marks,-1,-1,#[],ah,DN (p+1) an::fr,wt+1,ah,seen,ah⟩:=by
 have e:cf ⟨bE,text,lim,st,ls,an,ma,pc,q,hd,EV,marks,yi,yk,#[],ah,DN p om::fr,wt+1,some an,seen,ah⟩=
  (if p<ls then(if wt+1-(1+0)+1+0>16777216 then lH ⟨bE,text,lim,p+1,ls,an,an,5,p+1,hd,om,marks,-1,-1,#[],ah,fr,wt+1-(1+0),ah,seen,ah⟩ "frames:memory" else
   ⟨bE,text,lim,p+1,ls,an,an,5,p+1,p+1,an,marks,-1,-1,#[],ah,DN (p+1) an::fr,wt+1-(1+0)+1+0,ah,seen,ah⟩)else
   ⟨bE,text,lim,st,ls,an,ma,5,p,hd,om,marks,yi,yk,#[],ah,fr,wt+1-(1+0),some an,seen,ah⟩):=rfl
 refine am e (am (aP hp) (am (bg (Td hw)) ?_));simp
theorem EH(hp:¬p<ls):cf ⟨bE,text,lim,st,ls,an,ma,pc,q,hd,EV,marks,yi,yk,#[],ah,DN p om::fr,wt+1,some an,seen,ah⟩=
  ⟨bE,text,lim,st,ls,an,ma,5,p,hd,om,marks,yi,yk,#[],ah,fr,wt,some an,seen,ah⟩:=by
 have e:cf ⟨bE,text,lim,st,ls,an,ma,pc,q,hd,EV,marks,yi,yk,#[],ah,DN p om::fr,wt+1,some an,seen,ah⟩=
  (if p<ls then(if wt+1-(1+0)+1+0>16777216 then lH ⟨bE,text,lim,p+1,ls,an,an,5,p+1,hd,om,marks,-1,-1,#[],ah,fr,wt+1-(1+0),ah,seen,ah⟩ "frames:memory" else
   ⟨bE,text,lim,p+1,ls,an,an,5,p+1,p+1,an,marks,-1,-1,#[],ah,DN (p+1) an::fr,wt+1-(1+0)+1+0,ah,seen,ah⟩)else
   ⟨bE,text,lim,st,ls,an,ma,5,p,hd,om,marks,yi,yk,#[],ah,fr,wt+1-(1+0),some an,seen,ah⟩):=rfl
 refine am e (am (bg hp) ?_);simp
theorem xV:cf ⟨bE,text,lim,st,ls,an,ma,pc,q,hd,om,marks,lm,li,#[],ah,[],wt,some b,seen,ah⟩=
  ⟨bE,text,lim,st,ls,an,ma,pc,q,hd,om,marks,lm,li,#[],ah,[],wt,some b,seen,some (if b then .matched else .failed)⟩:=rfl
theorem wG:cf ⟨bE,text,lim,st,ls,an,ma,pc,q,hd,EV,marks,yi,yk,#[],ah,Fq pc' p om lm li::fr,wt+1,some aj,seen,ah⟩=
  ⟨bE,text,lim,st,ls,an,ma,pc',p,hd,om,marks,yi,yk,#[],ah,fr,wt,some aj,seen,ah⟩:=rfl
theorem EI:cf ⟨bE,text,lim,st,ls,an,ma,pc,q,hd,EV,marks,yi,yk,#[],ah,fGb p n om lm li::fr,wt+1,some aj,seen,ah⟩=
  ⟨bE,text,lim,st,ls,an,ma,9,p,hd,om,marks,yi,yk,#[],ah,fr,wt,some aj,seen,ah⟩:=rfl
theorem wF:cf ⟨bE,text,lim,st,ls,an,ma,pc,q,hd,EV,marks,yi,yk,#[],ah,DN p om::fr,wt+1,some aj,seen,ah⟩=
  ⟨bE,text,lim,st,ls,an,ma,5,p,hd,om,marks,yi,yk,#[],ah,fr,wt,some aj,seen,ah⟩:=rfl
theorem N1:cf ⟨bE,text,lim,st,ls,an,ma,20,p,hd,om,marks,lm,li,#[],ah,fr,wt,ah,seen,ah⟩=
  ⟨bE,text,lim,st,ls,an,ma,38,p,hd,om,marks,lm,li,#[],ah,fr,wt,ah,seen.add 15,ah⟩:=rfl
theorem N0:cf ⟨bE,text,lim,st,ls,an,ma,35,p,hd,om,marks,lm,li,#[],ah,fr,wt,ah,seen,ah⟩=
  ⟨bE,text,lim,st,ls,an,ma,38,p,hd,om,marks,lm,li,#[],ah,fr,wt,ah,seen.add 15,ah⟩:=rfl
theorem GF:cf ⟨bE,text,lim,st,ls,an,ma,38,p,hd,om,marks,0,li,#[],ah,fr,wt,ah,seen,ah⟩=
  ⟨bE,text,lim,st,ls,an,ma,40,p,hd,om,marks.setIfInBounds 1 (some p),1,1,#[],ah,fr,wt,ah,seen.add 17,ah⟩:=by lia
theorem GE(h:p≠st):cf ⟨bE,text,lim,st,ls,an,ma,40,p,hd,om,marks,lm,li,#[],ah,fr,wt,ah,seen,ah⟩=
  ⟨bE,text,lim,st,ls,an,ma,40,p,p,om,marks,lm,li,#[],ah,fr,wt,some aj,seen.add 1,ah⟩:=by
 have e:cf ⟨bE,text,lim,st,ls,an,ma,40,p,hd,om,marks,lm,li,#[],ah,fr,wt,ah,seen,ah⟩=
  (if(om&&((an&&p !=lim)||(ma&&p==st)))=aj then⟨bE,text,lim,st,ls,an,ma,40,p,hd,om,marks,lm,li,#[],ah,fr,wt,some an,seen.add 1,ah⟩
   else⟨bE,text,lim,st,ls,an,ma,40,p,p,om,marks,lm,li,#[],ah,fr,wt,some aj,seen.add 1,ah⟩):=rfl
 exact am e (am (bg (by simp[h])) rfl)
end
end
section
open PySem.Builtin.Re
noncomputable def iter:Nat->xh->xh
 |0,m=>m
 |n+1,m=>iter n m.step
theorem zB{m:xh}(h:m.outcome.isSome=aj):m.step=m:=by unfold cf;exact am (aP h) rfl
theorem oF{m:xh}(h:m.outcome.isSome=aj):∀n,iter n m=m
 |0=>rfl
 |n+1=>by unfold iter;exact am (zB h) (am (oF h n) rfl)
theorem zO(n:Nat):∀(m:xh),m.runFor n=iter n m:=by
 induction n with
 |zero=>
  exact λm=>rfl
 |succ n ih=>
  exact λm=>by
   unfold xh.runFor iter;split
   ·rename_i h;rw[zB h,oF h]
   ·exact ih _
theorem oG(a:Nat):∀(b:Nat) (m:xh),iter (a+b) m=iter b (iter a m):=by
 induction a with
 |zero=>
  exact λb m=>by rw[iz];rfl
 |succ a ih=>
  exact λb m=>by refine am (show a+1+b=(a+b)+1 by exact ZI) ?_;exact ih b m.step
theorem qx(k:Nat):∀(j:Nat) (m:xh),(iter j m).outcome.isSome=aj->j<=4*k->1<=k->sP k m=some (iter j m):=by
 induction k with
 |zero=>
  exact λ_ _ _ _ h=>by exact(ZH h).elim
 |succ k ih=>
  exact λj m h hj _=>by
   unfold sP;have e:m.runFor alg=iter 4 m:=zO 4 m;refine am e ?_;split
   ·rename_i h4;congr 1;rcases de 4 j with q|q
    ·refine eE (mi q) λd or=>?_;subst or;rw[oG,oF h4]
    ·refine eE (mi q) λd hd=>?_;rw[hd,oG,oF h]
   ·rename_i h4;have h5:4<=j:=by
     rcases de 4 j with q|q
     ·exact q
     ·refine eE (mi q) λd hd=>?_;rw[hd,oG,oF h]at h4;exact bV h h4
    refine eE (mi h5) λd or=>?_;subst or;rw[oG]at h⊢;have hk:1<=k:=by
     rcases rU k with rfl|q
     ·have:d=0:=by exact ZG hj
      subst this;exact bV h h4
     ·exact q
    exact ih d _ h (by exact dp _ _ 1 V0 (.m 4 V1) (D1 (.p (.k 4) V0) (.m 4 (S1 V1)) .n) rfl hj) hk
end
section
open PySem.Builtin.Re
section
variable{text:Array Nat}{lim st ls p q hd wt:Nat}{ma om EV:Bool}{marks:Array (Option Nat)}{lm li yi yk:Int}{fr:List uw}{seen:ky}{pc:Nat}
noncomputable abbrev S0(text:Array Nat)(lim ls st p hd:Nat)(ma om:Bool)(marks:Array (Option Nat))(seen:ky):xh:=
 ⟨bE,text,lim,st,ls,an,ma,5,p,hd,om,marks,-1,-1,#[],ah,[DN p om],1,ah,seen,ah⟩
theorem NR(hp:p<lim)(hl:lim<=100000)(hls:p<ls)(h1:jY text (lim-p) p=0)(h2:pH (text.getD p 0)=an):
  ∃s',iter 7 (S0 text lim ls st p hd ma om marks seen)=S0 text lim ls (p+1) (p+1) (p+1) an an (marks.setIfInBounds 0 (some p)) s':=by
 refine eE (zC (text:=text) (lim:=lim) (st:=st) (ls:=ls) (p:=p) (hd:=p) (wt:=2) (ma:=ma) (om:=om) (marks:=marks.setIfInBounds 0 (some p)) (lm:=0) (li:=-1) (fr:=[Fq 8 p om 0 (-1),DN p om]) (seen:=(seen.add 17).add 7) hp hl h1) λs1 e1=>eE (Ez (text:=text) (lim:=lim) (st:=st) (ls:=ls) (p:=p) (hd:=p) (wt:=2) (ma:=ma) (om:=om) (marks:=marks.setIfInBounds 0 (some p)) (lm:=0) (li:=-1) (fr:=[Fq 22 p om 0 (-1),DN p om]) (seen:=s1) hp h2) λs2 e2=>?_;refine⟨s2,?_⟩;unfold iter S0;refine am C6 ?_;unfold iter;refine am (C5 (by decide)) ?_;unfold iter;refine am e1 ?_;unfold iter;refine am (xW (by decide)) ?_;unfold iter;refine am e2 ?_;unfold iter;refine am zP ?_;unfold iter;refine am (G1 hls (by decide)) ?_;rfl
end
end
section
open PySem.Builtin.Re
section
variable{text:Array Nat}{lim st ls p q hd wt:Nat}{ma om EV:Bool}{marks:Array (Option Nat)}{lm li yi yk:Int}{fr:List uw}{seen:ky}{pc:Nat}
structure WE(m:xh)(b e:Nat)(marks:Array (Option Nat)):Prop where
 out:m.outcome=some .matched
 st:m.start=b
 hd:m.handed=e
 lm:m.lastmark=1
 mks:m.marks=(marks.setIfInBounds 0 (some b)).setIfInBounds 1 (some e)
theorem Bq(hp:p<lim)(hl:lim<=100000)(h1:1<=jY text (lim-p) p):WE (iter 10 (S0 text lim ls p p hd ma om marks seen)) p (p+jY text (lim-p) p) marks:=by
 refine eE (Ex (text:=text) (lim:=lim) (st:=p) (ls:=ls) (p:=p) (hd:=p) (wt:=2) (ma:=ma) (om:=om) (marks:=marks.setIfInBounds 0 (some p)) (lm:=0) (li:=-1) (fr:=[Fq 8 p om 0 (-1),DN p om]) (seen:=(seen.add 17).add 7) hp hl (by decide) h1) λs1 e1=>?_;have key:iter 10 (S0 text lim ls p p hd ma om marks seen)=⟨bE,text,lim,p,ls,an,ma,5,p,p+jY text (lim-p) p,om,(marks.setIfInBounds 0 (some p)).setIfInBounds 1 (some (p+jY text (lim-p) p)),1,1,#[],ah,[],0,some aj,(((s1.add 15).add 17).add 1),some .matched⟩:=by unfold iter S0;refine am C6 ?_;unfold iter;refine am (C5 (by decide)) ?_;unfold iter;refine am e1 ?_;unfold iter;refine am N1 ?_;unfold iter;refine am GF ?_;unfold iter;refine am (GE (by exact λq=>dF _ _ (D1 K1 V0 (D1 (.p V1 V0) V1 .n)) rfl h1 (ac q))) ?_;unfold iter;refine am EI ?_;unfold iter;refine am wG ?_;unfold iter;refine am wF ?_;unfold iter;refine am xV ?_;rfl
 exact am key (⟨rfl,rfl,rfl,rfl,rfl⟩)
theorem JH(hp:p<lim)(hl:lim<=100000)(h1:jY text (lim-p) p=0)(h2:pH (text.getD p 0)=aj):WE (iter 11 (S0 text lim ls p p hd ma om marks seen)) p (p+1) marks:=by
 refine eE (zC (text:=text) (lim:=lim) (st:=p) (ls:=ls) (p:=p) (hd:=p) (wt:=2) (ma:=ma) (om:=om) (marks:=marks.setIfInBounds 0 (some p)) (lm:=0) (li:=-1) (fr:=[Fq 8 p om 0 (-1),DN p om]) (seen:=(seen.add 17).add 7) hp hl h1) λs1 e1=>eE (Bw (text:=text) (lim:=lim) (st:=p) (ls:=ls) (p:=p) (hd:=p) (wt:=2) (ma:=ma) (om:=om) (marks:=marks.setIfInBounds 0 (some p)) (lm:=0) (li:=-1) (fr:=[Fq 22 p om 0 (-1),DN p om]) (seen:=s1) hp h2) λs2 e2=>?_;have key:iter 11 (S0 text lim ls p p hd ma om marks seen)=⟨bE,text,lim,p,ls,an,ma,5,p,p+1,om,(marks.setIfInBounds 0 (some p)).setIfInBounds 1 (some (p+1)),1,1,#[],ah,[],0,some aj,(((s2.add 15).add 17).add 1),some .matched⟩:=by unfold iter S0;refine am C6 ?_;unfold iter;refine am (C5 (by decide)) ?_;unfold iter;refine am e1 ?_;unfold iter;refine am (xW (by decide)) ?_;unfold iter;refine am e2 ?_;unfold iter;refine am N0 ?_;unfold iter;refine am GF ?_;unfold iter;refine am (GE (by exact λq=>eM _ (D1 (S1 V0) V0 .n) rfl (ac q))) ?_;unfold iter;refine am wG ?_;unfold iter;refine am wF ?_;unfold iter;refine am xV ?_;rfl
 exact am key (⟨rfl,rfl,rfl,rfl,rfl⟩)
end
end
set_option tactic.hygienic false
section
open PySem.Builtin.Re
section
variable{text:Array Nat}{lim st ls p q hd wt:Nat}{ma om EV:Bool}{marks:Array (Option Nat)}{lm li yi yk:Int}{fr:List uw}{seen:ky}{pc:Nat}
theorem Ey(hp:¬p<lim):cf ⟨bE,text,lim,st,ls,an,ma,9,p,hd,om,marks,lm,li,#[],ah,fr,wt,ah,seen,ah⟩=
  ⟨bE,text,lim,st,ls,an,ma,9,p,hd,om,marks,lm,li,#[],ah,fr,wt,some an,seen.add 24,ah⟩:=by
 exact am uK (am (aP (YH hp)) rfl)
theorem Bx(hp:¬p<lim):cf ⟨bE,text,lim,st,ls,an,ma,23,p,hd,om,marks,lm,li,#[],ah,fr,wt,ah,seen,ah⟩=
  ⟨bE,text,lim,st,ls,an,ma,23,p,hd,om,marks,lm,li,#[],ah,fr,wt,some an,seen.add 13,ah⟩:=by
 have e:cf ⟨bE,text,lim,st,ls,an,ma,23,p,hd,om,marks,lm,li,#[],ah,fr,wt,ah,seen,ah⟩=(if p>=lim then⟨bE,text,lim,st,ls,an,ma,23,p,hd,om,marks,lm,li,#[],ah,fr,wt,some an,seen.add 13,ah⟩else
   match Vo (text.getD p 0) (seen.add 13)with
   |.error why=>lH ⟨bE,text,lim,st,ls,an,ma,23,p,hd,om,marks,lm,li,#[],ah,fr,wt,ah,seen.add 13,ah⟩ why
   |.ok (an,seen)=>⟨bE,text,lim,st,ls,an,ma,23,p,hd,om,marks,lm,li,#[],ah,fr,wt,some an,seen,ah⟩
   |.ok (aj,seen)=>⟨bE,text,lim,st,ls,an,ma,35,p+1,hd,om,marks,lm,li,#[],ah,fr,wt,ah,seen,ah⟩):=rfl
 exact am e (am (aP (by exact dp _ _ 1 V0 V1 (D1 V0 V1 .n) rfl (ak hp))) rfl)
theorem JI(hp:¬p<lim)(hls:¬p<ls):(iter 8 (S0 text lim ls st p hd ma om marks seen)).outcome=some .failed:=by unfold iter S0;refine am C6 ?_;unfold iter;refine am (C5 (by decide)) ?_;unfold iter;refine am (Ey hp) ?_;unfold iter;refine am (xW (by decide)) ?_;unfold iter;refine am (Bx hp) ?_;unfold iter;refine am zP ?_;unfold iter;refine am (EH hls) ?_;unfold iter;refine am xV ?_;rfl
end
noncomputable def nJ(text:Array Nat)(n:Nat):Nat->Option (Nat×Nat):=
 Bf (λ_=>ah) (λn r p=>if 1<=jY text (n+1) p then some (p,p+jY text (n+1) p)else if pH (text.getD p 0)=aj then some (p,p+1)else r (p+1)) n
theorem ye(h:1<=jY text (n+1) p):nJ text (n+1) p=some (p,p+jY text (n+1) p):=aP h
theorem yc(h:¬1<=jY text (n+1) p)(h2:pH (text.getD p 0)=aj):nJ text (n+1) p=some (p,p+1):=(bg h).trans (aP h2)
theorem yd(h:¬1<=jY text (n+1) p)(h2:¬pH (text.getD p 0)=aj):nJ text (n+1) p=nJ text n (p+1):=(bg h).trans (bg h2)
theorem BF(hl:lim<=150)(n:Nat):∀(p st hd:Nat) (ma om:Bool) (marks:Array (Option Nat)) (seen:ky),p+n=lim->st=p->marks.size=2->
  ∃j,j<=7*n+11/\match nJ text n p with
   |some (b,e)=>∃mk,mk.size=2/\WE (iter j (S0 text lim lim st p hd ma om marks seen)) b e mk
   |none=>(iter j (S0 text lim lim st p hd ma om marks seen)).outcome=some .failed:=by
 induction n with
 |zero=>
  exact λp st hd ma om marks seen hp _ _=>⟨8,YG,JI (SY hp) (SY hp)⟩
 |succ n ih=>
  exact λp st hd ma om marks seen hp Ae hmk=>by
   subst Ae;have hn:lim-st=n+1:=YF hp;by_cases h1:1<=jY text (n+1) st
   ·refine am (ye h1) (MP 10 (by exact dD _ 1 (.k 10) (.p (.m 7 (S1 V0)) (.k 11)) .n rfl) marks hmk ?_);have:=Bq (text:=text) (lim:=lim) (ls:=lim) (p:=st) (hd:=hd) (ma:=ma) (om:=om) (marks:=marks) (seen:=seen) (VR hn) (YU hl) (by refine am hn ?_;exact h1);replace this:=hn▸this;exact this
   ·by_cases h2:pH (text.getD st 0)=aj
    ·refine am (yc h1 h2) ?_;exact MP 11 (by exact dD _ 1 (.k 11) (.p (.m 7 (S1 V0)) (.k 11)) .n rfl) marks hmk (JH (VR hn) (YU hl) (by refine am hn ?_;exact SW h1) h2)
    ·refine am (yd h1 h2) ?_;refine eE (NR (text:=text) (lim:=lim) (ls:=lim) (st:=st) (p:=st) (hd:=hd) (ma:=ma) (om:=om) (marks:=marks) (seen:=seen) (VR hn) (YU hl) (VR hn) (by refine am hn ?_;exact SW h1) (by simpa using h2)) λs' e=>?_;obtain⟨j,hj,h⟩:=ih (st+1) (st+1) (st+1) an an (marks.setIfInBounds 0 (some st)) s' (o5 hp) rfl (by simpa using hmk);refine jW (7+j) (by exact dp _ _ 1 (.p (.k 7) V0) (.p (.m 7 (S1 V1)) (.k 11)) (D1 V0 (.p (.m 7 V1) (.k 11)) .n) rfl hj) ?_;rw[oG,e];exact h
end
set_option tactic.hygienic true
section
open PySem.Builtin.Re
theorem yE:∃m0:xh,m0.outcome=ah/\m0.frames=[]/\yV bE text 1 p lim rn=(if(decide (p>lim)||decide (lim-p<1))=aj then m0.say an else
  S0 text lim lim p p p rn aj (akQ 2 ah) ((({}:ky)).add 14)):=⟨_,rfl,rfl,rfl⟩
theorem Cs{rn:Bool}(hl:text.size<=150)(hp:p<=text.size):match nJ text (text.size-p) p with
  |some (b,e)=>∃m mk,mk.size=2/\WE m b e mk/\lx (yV bE text 1 p text.size rn)=some (some m)
  |none=>lx (yV bE text 1 p text.size rn)=some ah:=by
 refine eN (yE (text:=text) (p:=p) (lim:=text.size) (rn:=rn)) λm0 h1 h2 e=>am e ?_;by_cases hq:p<text.size
 ·refine am (bg (by simp -iota;exact ZA hq)) ?_;refine cW (BF (text:=text) hl (text.size-p) p p p rn aj (akQ 2 ah) (({}:ky).add 14) (Tf hq) rfl (by simp -iota)) λj hj h=>?_;split
  ·rename_i b e' hx;replace h:=hx▸h;refine cW h λmk hm H=>iM _ mk hm H ?_;unfold lx;rw[qx 400 j _ (by rw[H.out];rfl) (Te hj hl) (by decide),b6,H.out]
  ·rename_i hx;replace h:=hx▸h;unfold lx;rw[qx 400 j _ (by rw[h];rfl) (Te hj hl) (by decide),b6,h]
 ·refine am (aP (by simp -iota;exact Zz hq)) ?_;have hz:text.size-p=0:=o99 hq;refine am hz ?_;show lx (m0.say an)=some ah;have ho:(iter 1 (m0.say an)).outcome=some .failed:=by show(cf (m0.say an)).outcome=_;obtain⟨code,aeG,lim,start,lastStart,wholeText,mustAdvance,pc,pos,handed,outermost,marks,lastmark,lastindex,loops,inner,frames,weight,answer,seen,outcome⟩:=m0;dsimp -iota only at h1 h2;subst h1 h2;rfl
  unfold lx;rw[qx 400 1 _ (by rw[ho];rfl) Zx (by decide),b6,ho]
end
set_option tactic.hygienic false
section
open PySem.Builtin.Re
noncomputable def Kc(text:Array Nat)(k:Nat):Nat->Option (List Str):=
 Bf (λ_=>ah) (λ_ r p=>(nJ text (text.size-p) p).elim (some [⟨text.extract p text.size⟩]) λq=>(r q.2).map λl=>⟨text.extract p q.1⟩::⟨text.extract q.1 q.2⟩::l) k
theorem Lx(n:Nat):∀p,jY text n p<=n:=by
 induction n with
 |zero=>exact λ_=>aD _
 |succ n ih=>exact λp=>acL (·<=n+1) (λ_=>nV (ih _)) λ_=>bo _
theorem zY(n:Nat):∀(p b e:Nat),nJ text n p=some (b,e)->p<=b/\b<e/\e<=p+n:=by
 induction n with
 |zero=>exact λp b e h=>bM h
 |succ n ih=>
  intro p b e h;by_cases h1:1<=jY text (n+1) p
  ·cases kM h (ye h1);exact abV h1 (Lx _ _)
  ·by_cases h2:pH (text.getD p 0)=aj
   ·cases kM h (yc h1 h2);exact abU
   ·exact abT (ih _ _ _ ((yd h1 h2).symm.trans h))
theorem UN{mk:Array (Option Nat)}(h:mk.size=2):((mk.setIfInBounds 0 (some b)).setIfInBounds 1 (some e)).getD 0 ah=some b:=by simp[akg,aj6,h]
theorem UM{mk:Array (Option Nat)}(h:mk.size=2):((mk.setIfInBounds 0 (some b)).setIfInBounds 1 (some e)).getD 1 ah=some e:=by simp[akg,aj6,h]
theorem JV{text:Array Nat}(hl:text.size<=150)(k:Nat):∀(p:Nat) (rn:Bool),p<=text.size->N4 bE text k p p rn=Kc text k p:=by
 induction k with
 |zero=>exact λ_ _ _=>rfl
 |succ k ih=>
  intro p rn hp;have h:=Cs (text:=text) (p:=p) (rn:=rn) hl hp;show(lx _).bind _=(nJ text (text.size-p) p).elim _ _;have hi:=zY (text:=text) (text.size-p) p;generalize nJ text (text.size-p) p=x at h hi⊢;rcases x with _|⟨b,e⟩
  ·refine am (show lx _=some ah from h) ?_;rfl
  ·refine c3 h λm mk hm H e1=>?_;have sM:=hi _ _ rfl;have g0:m.marks.getD (2*(0+1-1)) ah=some b:=am H.mks (UN hm);have g1:m.marks.getD (2*(0+1-1)+1) ah=some e:=am H.mks (UM hm);refine am e1 ?_;show(if _ then ah else eZ _ _)=_;refine am (bg (by rw[H.lm];decide)) (am g0 ?_);show eZ _ _=_;refine am g1 ?_;show(if _ then ah else _)=_;exact am (bg (by exact λq=>dF _ _ (D1 (S1 V0) V1 (D1 (S1 V1) V0 .n)) rfl sM.2.1 q)) (am H.hd (am H.st (congrArg (lR λl=>(⟨text.extract p b⟩:Str)::⟨text.extract b e⟩::l) (ih e (e==b) (abS sM)))))
end
set_option tactic.hygienic true
section
open PySem.Builtin.Re
theorem N3(hl:x.cps.size<=150):VO bE x=Kc x.cps (2*x.cps.size+3) 0:=JV hl _ 0 an (bo _)
end
set_option tactic.hygienic false
noncomputable def iT{α:Type}(n:Nat)(t0:Nat->Nat->Bool)(t:KasT α):Option α:=KasT.rec (λa=>some a) (λi j _ r=>if i<n/\j<n then r (t0 i j)else ah) t
theorem E6{α β:Type}{t0:Nat->Nat->Bool}{g:α->KasT β}(t:KasT α):iT n t0 (t.bind g)=(iT n t0 t).bind λa=>iT n t0 (g a):=by
 induction t with
 |ret a=>rfl
 |ask i j k ih=>exact(alA (i<n/\j<n)).elim (λh=>(aP h).trans ((ih _).trans (congrArg (λo:Option α=>o.bind λa=>iT n t0 (g a)) (aP h).symm))) λh=>(bg h).trans (congrArg (λo:Option α=>o.bind λa=>iT n t0 (g a)) (bg h:iT n t0 (.ask i j k)=ah)).symm
theorem mI{α β:Type}{g:α->KasT β}{t:KasT α}{a:α}(h:iT n t0 t=some a):iT n t0 (t.bind g)=iT n t0 (g a):=(E6 t).trans (congrArg (λo:Option α=>o.bind λa=>iT n t0 (g a)) h)
theorem u8{α:Type}{n:Nat}{t0:Nat->Nat->Bool}{i j:Nat}{k:Bool->KasT α}(hi:i<n)(hj:j<n)(h:t0 i j=aj):iT n t0 (.ask i j k)=iT n t0 (k aj):=(aP ⟨hi,hj⟩).trans (congrArg (λb=>iT n t0 (k b)) h)
theorem B3{α:Type}{n:Nat}{t0:Nat->Nat->Bool}{i j:Nat}{k:Bool->KasT α}(hi:i<n)(hj:j<n)(h:t0 i j=an):iT n t0 (.ask i j k)=iT n t0 (k an):=(aP ⟨hi,hj⟩).trans (congrArg (λb=>iT n t0 (k b)) h)
theorem Kx{α:Type}{cmp:Nat->Nat->(Bool->ai->Prop)->ai->Prop}{Q:α->ai->Prop}{s:ai}(hc:∀i j C,i<n->j<n->C (t0 i j) s->cmp i j C s)
  (t:KasT α) (a:α):iT n t0 t=some a->Q a s->t.kasWp cmp Q s:=by
 induction t with
 |ret b=>exact λh q=>xk h▸q
 |ask i j k ih=>exact λh q=>cC h λrC h=>hc i j _ rC.1 rC.2 (ih _ h q)
section
variable{n:Nat}{f:Nat->Int}
noncomputable def KP(n:Nat)(p:Array Nat):Prop:=p.toList.Perm (ba n)
noncomputable def KF(f:Nat->Int)(p:Array Nat)(k:Nat):Int:=f (p.getD k 0)
noncomputable def KS(f:Nat->Int)(p:Array Nat)(k:Nat):Prop:=∀i j,i<j->j<k->KF f p i<KF f p j
noncomputable def KD(f:Nat->Int)(p:Array Nat)(k:Nat):Prop:=∀i j,i<j->j<k->KF f p j<KF f p i
noncomputable abbrev ym(f:Nat->Int)(i j:Nat):Bool:=decide (f i<f j)
theorem KP.size(h:KP n p):p.size=n:=(List.Perm.length_eq h).trans gD
theorem KP.at{p:Array Nat}(hi:i<p.size):p.getD i 0=p.toList[i]:=dif_pos hi
theorem KP.lt{p:Array Nat}(h:KP n p){i:Nat}(hi:i<n):p.getD i 0<n:=
 KP.at (h.size▸hi)▸cA.mp ((List.Perm.mem_iff h).mp (iY _))
theorem KP.inj{p:Array Nat}(h:KP n p)(hi:i<n)(hj:j<n)(lP:i≠j):p.getD i 0≠p.getD j 0:=by have pw:=kK.mp ((List.Perm.nodup_iff h).mpr akB);rw[KP.at (h.size▸hi),KP.at (h.size▸hj)];exact(bX lP).elim (λq=>pw i j _ _ q) λq=>(pw j i _ _ q).symm
theorem KP.ne(h:KP n p)(hd:∀a b,a<n->b<n->a≠b->f a≠f b)(hi:i<n)(hj:j<n)(lP:i≠j):KF f p i≠KF f p j:=hd _ _ (h.lt hi) (h.lt hj) (h.inj hi hj lP)
theorem KS.step{p:Array Nat}{m:Nat}(h:KS f p m)(h1:1<=m)(hl:KF f p (m-1)<KF f p m):KS f p (m+1):=λi j rC hj=>by
 by_cases Uq:j<m
 ·exact h i j rC Uq
 ·obtain rfl:j=m:=by exact Tc hj Uq
  by_cases hi:i=j-1
  ·subst hi;exact hl
  ·exact qJ (h i (j-1) (Tb rC hi) (Ta h1)) hl
theorem KD.step{p:Array Nat}{m:Nat}(h:KD f p m)(h1:1<=m)(hl:KF f p m<KF f p (m-1)):KD f p (m+1):=λi j rC hj=>by
 by_cases Uq:j<m
 ·exact h i j rC Uq
 ·obtain rfl:j=m:=by exact Tc hj Uq
  by_cases hi:i=j-1
  ·subst hi;exact hl
  ·exact qJ hl (h i (j-1) (Tb rC hi) (Ta h1))
theorem KP.no{p:Array Nat}(hp:KP n p)(hd:∀a b,a<n->b<n->a≠b->f a≠f b){m:Nat}{x:Nat}(h1:1<=m)(hn:m+(x+1)<=n)(hc:¬KF f p m<KF f p (m-1)):KF f p (m-1)<KF f p m:=
 o43 (hp.ne hd (i:=m) (j:=m-1) (o10 hn) (o11 hn) (aco h1)) hc
theorem MO(hd:∀a b,a<n->b<n->a≠b->f a≠f b){p:Array Nat}(hp:KP n p)(jw:Nat):∀(m:Nat),1<=m->m+jw<=n->KS f p m->
  ∃m',iT n (ym f) (kas_asc p jw m)=some m'/\m<=m'/\m'<=m+jw/\KS f p m'/\(m'<m+jw->KF f p m'<KF f p (m'-1)):=by
 induction jw with
 |zero=>
  exact λm _ _ h=>⟨m,rfl,aD _,aD _,h,λq=>Zw q⟩
 |succ jw ih=>
  exact λm h1 hn h=>by
   have e1:=hp.lt (o10 hn);have e2:=hp.lt (o11 hn);by_cases hc:KF f p m<KF f p (m-1)
   ·exact HK m (u8 e1 e2 (aU hc)) (aD _) S9 h (λ_=>hc)
   ·exact Cv (ih (m+1) S8 (S7 hn) (h.step h1 (hp.no hd h1 hn hc))) λm' a b c d g=>HK m' ((B3 e1 e2 (aW hc)).trans a) (o6 b) (S6 c) d (λq=>g (by exact fM _ _ _ 1 (S1 V0) (.p (S1 V1) V2) (D1 (S1 V0) (.p V1 (S1 V2)) .n) rfl q))
theorem OB(hd:∀a b,a<n->b<n->a≠b->f a≠f b){p:Array Nat}(hp:KP n p)(jw:Nat):∀(m:Nat),1<=m->m+jw<=n->KD f p m->
  ∃m',iT n (ym f) (kas_desc jw p m 0)=some (p,m',0)/\m<=m'/\m'<=m+jw/\KD f p m':=by
 induction jw with
 |zero=>
  exact λm _ _ h=>⟨m,rfl,aD _,aD _,h⟩
 |succ jw ih=>
  exact λm h1 hn h=>by
   have e1:=hp.lt (o10 hn);have e2:=hp.lt (o11 hn);by_cases hc:KF f p m<KF f p (m-1)
   ·exact w1 (ih (m+1) S8 (S7 hn) (h.step h1 hc)) λm' a b c d=>Ab m' ((u8 e1 e2 (aU hc)).trans a) (o6 b) (S6 c) d
   ·exact Ab m ((B3 e1 e2 (aW hc)).trans (u8 e2 e1 (aU (hp.no hd h1 hn hc)))) (aD _) S9 h
theorem TH(hp:KP n p)(hm:m<=n)(h:KD f p m):KP n (akW p 0 m)/\KS f (akW p 0 m) m:=by
 have pp:(akW p 0 m).Perm p:=mirror_perm _ _ _ _;refine⟨(VJ.mp pp).trans hp,λi j rC hj=>?_⟩;have hs:=hp.size;have e:∀k,k<m->KF f (akW p 0 m) k=KF f p (m-1-k):=λk hk=>by unfold KF akW;have:=getElem?_mirror_all (xs:=p) (i:=0) (j:=m) (by exact fM _ _ _ 1 V0 V2 (D1 V0 V1 (D1 V1 V2 .n)) rfl hm (ac hs.symm)) k;rw[Nat.sub_zero]at this;rw[gT,gT,Nat.sub_zero,this,aP ⟨bo _,hk⟩];congr 3;exact Zv
 rw[e i (o61 rC hj),e j hj];exact h _ _ (Zu hj rC) (Zt hj)
theorem Ky(hd:∀a b,a<n->b<n->a≠b->f a≠f b){p:Array Nat}(hp:KP n p){k:Nat}(hk:k<n)(jw:Nat):∀(l r:Nat),l<=r->r<=k->r-l<=jw->(∀i,i<l->KF f p i<KF f p k)->(∀i,r<=i->i<k->KF f p k<KF f p i)->KS f p k->
  ∃l',iT n (ym f) (kas_place p k jw l r)=some l'/\l'<=k/\(∀i,i<l'->KF f p i<KF f p k)/\(∀i,l'<=i->i<k->KF f p k<KF f p i):=by
 induction jw with
 |zero=>
  exact λl r h1 h2 h3 h4 h5 _=>⟨l,rfl,S5 h1 h2,h4,λi a b=>h5 i (Zs h3 a) b⟩
 |succ jw ih=>
  exact λl r h1 h2 h3 h4 h5 h6=>by
   by_cases Um:l>=r
   ·exact Ab l (congrArg (iT n _) (aP Um)) (S5 h1 h2) h4 (λi a b=>h5 i (by exact fM _ _ _ 1 V2 V1 (D1 V0 V1 (D1 V2 V0 .n)) rfl a Um) b)
   ·have yx:l<=(l+r)/2/\(l+r)/2<r:=by exact Zq Um
    have e0:kas_place p k (jw+1) l r=_:=bg Um;have e1:=congrArg (iT n (ym f)) e0;clear e0;have e2:=hp.lt (Zr h2 hk Um);generalize (l+r)/2=mid at yx e1 e2;by_cases hc:KF f p k<KF f p mid
    ·have e3:=e1.trans (u8 (hp.lt hk) e2 (aU hc));refine am e3 (ih l mid (by exact dp _ _ 1 V0 V1 (D1 V0 V1 .n) rfl yx.1) (by exact fM _ _ _ 1 V0 V2 (D1 (S1 V0) V1 (D1 V1 V2 .n)) rfl yx.2 h2) (Zp yx h3) h4 (λi a b=>?_) h6);by_cases Us:i=mid
     ·subst Us;exact hc
     ·exact qJ hc (h6 mid i (Zo a Us) b)
    ·have gE:KF f p mid<KF f p k:=by have:=hp.ne hd (i:=mid) (j:=k) (by exact tB _ _ _ _ 1 (S1 V2) V1 (D1 (S1 V0) V1 (D1 (S1 V2) V3 (D1 V3 V0 .n))) rfl hk yx.2 h2) hk (by exact λq=>kg _ _ _ (D1 (S1 V0) V1 (D1 V1 V2 (D1 V2 V0 .n))) rfl yx.2 h2 (ac q.symm));exact Zn this hc
     have e3:=e1.trans (B3 (hp.lt hk) e2 (aW hc));refine am e3 (ih (mid+1) r (by exact dp _ _ 1 (S1 V0) V1 (D1 (S1 V0) V1 .n) rfl yx.2) (o56 h2) (Zl h3 yx) (λi a=>?_) h5 h6);by_cases Us:i=mid
     ·subst Us;exact gE
     ·exact qJ (h6 i mid (Zk a Us) (by exact fM _ _ _ 1 (S1 V0) V2 (D1 (S1 V0) V1 (D1 V1 V2 .n)) rfl yx.2 h2)) gE
theorem HD(hp:KP n p)(hk:k<n)(hl:l<=k)(h1:∀i,i<l->KF f p i<KF f p k)(h2:∀i,l<=i->i<k->KF f p k<KF f p i)(h3:KS f p k):KP n (bubble p k (k-l))/\KS f (bubble p k (k-l)) (k+1):=by
 have pp:(bubble p k (k-l)).Perm p:=bubble_perm _ _ _;refine⟨(VJ.mp pp).trans hp,λi j rC hj=>?_⟩;have hs:=hp.size;have e:∀x,KF f (bubble p k (k-l)) x=if x=l then KF f p k else if l<x/\x<=k then KF f p (x-1)else KF f p x:=λx=>by
  unfold KF;have:=getElem?_bubble (xs:=p) (src:=k) (by exact fM _ _ _ 1 (S1 V0) V2 (D1 (S1 V0) V1 (D1 V1 V2 .n)) rfl hk (ac hs.symm)) (k-l) Zj x;replace this:=(show k-(k-l)=l by exact Zi hl)▸this;refine am (gT) (am this ?_);split
  ·exact am (gT) rfl
  ·split<;>rw[gT]
 refine am (e i) (am (e j) ?_)
 repeat' split
 all_goals first
  |(first|exact Zf rC (by assumption) hj (by assumption)|exact Zh rC (by assumption) (by assumption)|exact Ze rC (by assumption) (by assumption)|exact Zb rC hj (by assumption) (by assumption))
  |exact h2 _ (by(first|exact Zg rC (by assumption)|exact(dD _ 1 V0 V0 .n rfl))) (o46 hj rC)
  |exact h1 _ (o53 rC (by assumption))
  |exact h3 _ _ (by(first|exact(dp _ _ 1 (S1 V0) V1 (D1 (S1 V0) V1 .n) rfl rC)|exact Za rC (by assumption) (by assumption) (by assumption)|exact Zc rC (by assumption))) (by(first|exact Y' hj hl (by assumption) (by assumption)|exact o46 hj rC))
theorem TI(hd:∀a b,a<n->b<n->a≠b->f a≠f b)(jw:Nat):∀(k:Nat) (p:Array Nat),KP n p->k+jw=n->KS f p k->∃p',iT n (ym f) (kas_bin jw p k)=some p'/\KP n p'/\KS f p' n:=by
 induction jw with
 |zero=>
  exact λk p hp hk h=>⟨p,rfl,hp,by refine jj hk ?_;exact h⟩
 |succ jw ih=>
  exact λk p hp hk h=>by refine w1 (Ky hd hp (k:=k) (V9 hk) k 0 k (bo _) (aD _) Y9 (λi hi=>by exact Y8 hi) (λi a b=>by exact Y7 b a) h) λl a b c d=>am (mI a) ?_;exact eA (HD hp (V9 hk) b c d h) λQI v8=>ih (k+1) _ QI (o5 hk) v8
theorem OA(hd:∀a b,a<n->b<n->a≠b->f a≠f b)(h2:2<=n):∃p,iT n (ym f) (kas_sort n)=some p/\KP n p/\KS f p n:=by
 have Ag:KP n (bl (ba n)):=.refl _;show∃p,iT n (ym f) ((kas_count n (bl (ba n))).bind _)=some p/\_;generalize bl (ba n)=p at Ag⊢;have O0:KS f p 1:=λi j a b=>by exact Y6 b a
 refine Cv (MO hd Ag (n-1) 1 (aD _) (Y5 h2) O0) λm a b c d g=>?_;have key:∃m' p',iT n (ym f) (kas_count n p)=some (m',p')/\KP n p'/\1<=m'/\m'<=n/\KS f p' m':=by
  refine am (mI a) ?_;by_cases hmn:m=n
  ·subst hmn;exact rA m p (congrArg (iT m _) (aP (c6 m))) Ag b (aD _) d
  ·refine am (congrArg (iT n _) (bg λq=>hmn (cw.mp q))) ?_;by_cases Ju:m>1
   ·exact rA m p ((congrArg (iT n _) (aP Ju)).trans (u8 (Ag.lt (by exact dD _ 1 (.p (.k 0) K1) V0 (D1 (.k 2) V0 .n) rfl h2)) (Ag.lt (Y4 Ju c)) (aU (d 0 (m-1) (Y3 Ju) (Y1 Ju))))) Ag b (Y0 h2 c) d
   ·refine am (congrArg (iT n _) (bg Ju)) ?_;obtain rfl:m=1:=YZ b Ju;have h10:=g (YY h2);have hD2:KD f p 2:=λi j x y=>by obtain rfl:i=0:=YX x y;obtain rfl:j=1:=YW x y;exact h10
    refine w1 (OB hd Ag (n-(1+1)) 2 YV (YT h2) hD2) λm' a' b' c' d'=>eA (TH Ag (m:=m') (YS h2 c') d') λHS hs1=>?_;exact Cv (MO hd HS (n-m') m' (by exact dD _ 1 K1 V0 (D1 (.k 2) V0 .n) rfl b') (YR h2 c') hs1) λm2 a2 b2 c2 d2 _=>rA m2 _ ((mI a').trans (mI a2)) HS (by exact dp _ _ 1 K1 V1 (D1 (.k 2) V0 (D1 V0 V1 .n)) rfl b' b2) (YQ h2 c2 c') d2
 refine j8 key λm' p' e QI h1 hmn hs=>am (mI e) ?_;by_cases hm:m'<n
 ·refine am (congrArg (iT n _) (aP hm)) (am (Qm h1) ?_);exact TI hd (n-m') m' p' QI (Tf hm) hs
 ·exact ml p' (congrArg (iT n _) (bg hm)) QI (λi j x y=>hs i j x (by exact fM _ _ _ 1 (S1 V0) V2 (D1 (S1 V0) V1 (D1 V1 V2 .n)) rfl y (ak hm)))
end
set_option tactic.hygienic true
section
variable{w:bz}{s:ai}
theorem BB{a:aN}{vs:List ao}{n:Nat}{P:PySem.Fin->ai->Prop}(ho:s.heap.get? a=some (kA "list" vs.toArray n))(h2:vs.length<2)
  (h:∀h',(∀b o,b≠a->s.heap.get? b=some o->h'.get? b=some o)->h'.PlainList a vs.toArray->P (.done (.ret .none)) {s with heap:=h'}):
  aA (az prog w) A (Builtin.«list.sort» ⟨[.ref a],[]⟩) P E s:=by
 rw[list_sort_plain];have hsz:vs.toArray.size<2:=by refine am bD ?_;exact h2
 have iO:vs.toArray.size<=vP:=by rw[bC];exact V7 hsz
 refine aR (listItems_at ho rfl (aR (ai5 ho rfl ?_ iO (bo _))));have FY:=p9 (dH λ_=>(#[]:Array ao)) ho (by rfl);refine eE (al4 (o:=kA "list" vs.toArray n) rfl (λ_=>(#[]:Array ao))) λn1 O'=>?_;have others:∀b o,b≠a->s.heap.get? b=some o->(s.heap.update a (dH λ_=>(#[]:Array ao))).get? b=some o:=λb o hb e=>(ie _ _ (tM hb)).trans e;refine aR (akv FY O' (aR (wpAny_newTuple ?_ iO)));refine aR (yT ?_ (bo _));refine gG ?_;dsimp -iota only;refine am (aP hsz) (am (aP hsz) ?_);refine aR (aO ?_);rw[StateT.run_pure];refine aR (aO ?_);dsimp only;have Cd:∀{t1 t2:Obj},(((s.heap.update a (dH λ_=>(#[]:Array ao))).push t1).push t2).get? a=some (dH (λ_=>(#[]:Array ao)) (kA "list" vs.toArray n)):=λ{t1 t2}=>aQ _ (aQ _ FY);refine aR (akv Cd O' (aR (ai5 Cd O' ?_ (bo _) ?_)))
 ·simp -iota only[bne_self_eq_false,rZ,if_false];refine aO (h _ (λb o hb e=>(ie _ _ (tM hb)).trans (aQ _ (aQ _ (others b o hb e)))) ?_);have e:(arrOf (SortSt.mk' general' (vs.toArray.zip vs.toArray) #[] 7 ah)).map (·.2)=vs.toArray:=by show(vs.toArray.zip vs.toArray).map (·.2)=vs.toArray;apply Array.toList_inj.mp;simp -iota [List.map_snd_zip]
  exact am e (⟨_,p9 (dH λ_=>vs.toArray) Cd (by rfl)⟩)
 ·show((vs.toArray.zip vs.toArray).map (·.2)).size<=_;simp -iota;refine am bC ?_;exact(dD _ 1 V0 (.p (.k 16777216) K1) (D1 (S1 V0) (.k 2) .n) rfl h2)
theorem xQ{l:aN}{vs:List ao}{Q:ao->ai->Prop}(hl:s.heap.IsList l vs.toArray)(h2:vs.length<2)
  (h:∀D h',(∀b o,s.heap.get? b=some o->h'.get? b=some o)->s.heap.get? D=ah->h'.PlainList D vs.toArray->Q (.ref D) {s with heap:=h'}):
  aA (az prog w) A (call (.builtin "sorted") [.ref l]) Q E s:=by
 refine aj5 kind_sorted plain_sorted entry_sorted (args_sorted1 _) ?_;unfold Builtin.«sorted»;refine aR (m:=checkCount "sorted" 1 1 _) (aO ?_);refine aR (collect_list hl (aR (yT ?_ (by refine am bC ?_;exact V7 h2))) (by refine am bC ?_;exact V7 h2));have hz:((s.heap.push (kA "list" #[] 0)).update s.heap.objs.size (dH (·++vs.toArray))).objs.size=s.heap.objs.size+1:=by rw[alV,jF]
 have hD:(((s.heap.push (kA "list" #[] 0)).update s.heap.objs.size (dH (·++vs.toArray))).push (kA "list" vs.toArray 0)).get? (s.heap.objs.size+1)=some (kA "list" vs.toArray 0):=by refine jj hz ?_;exact bN _ rfl
 have keep:∀b o,s.heap.get? b=some o->(((s.heap.push (kA "list" #[] 0)).update s.heap.objs.size (dH (·++vs.toArray))).push (kA "list" vs.toArray 0)).get? b=some o:=λb o e=>by have hb:=dK e;exact aQ _ ((ie _ _ (tM (dk hb))).trans (aQ _ e))
 show aA _ _ _ _ _ {s with heap:=((s.heap.push (kA "list" #[] 0)).update s.heap.objs.size (dH (·++vs.toArray))).push (kA "list" vs.toArray 0)};refine am hz (aR (gG (aen slot_list_sort ⟨_,hD,rfl⟩ entry_list_sort (BB hD h2 λh' ho hp=>⟨_,rfl,aO ⟨_,rfl,?_⟩⟩) (args_list_sort _))));exact h _ h' (λb o e=>ho b o (dk (iA (dK e))) (keep b o e)) (cq (iB _)) hp
end
set_option tactic.hygienic false
theorem sy(x:Int×Int):∀l,(xr x l).Perm (x::l)
 |[]=>VG _
 |y::r=>by
  unfold xr;split
  ·exact VG _
  ·exact((sy x r).cons y).trans (List.Perm.swap x y r)
theorem qh:∀l,(pU l).Perm l
 |[]=>VG _
 |y::r=>(sy y (pU r)).trans ((qh r).cons y)
noncomputable def Vx(l:List (Int×Int)):Prop:=l.Pairwise λa b=>a.1<b.1
theorem Dg(x:Int×Int):∀l,Vx l->(∀y∈l,x.1≠y.1)->Vx (xr x l)
 |[],_,_=>List.pairwise_singleton _ _
 |y::r,h,lP=>by
  refine eA (cJ.mp h) λh1 h2=>?_;unfold xr;split
  ·rename_i gE;exact cJ.mpr ⟨λz hz=>by
    rcases ax.mp hz with rfl|hz
    ·exact gE
    ·exact qJ gE (h1 z hz),h⟩
  ·rename_i hge;have KM:=lP y (.head _);refine cJ.mpr ⟨λz hz=>?_,Dg x r h2 λz hz=>lP z (.tail _ hz)⟩;have:=(sy x r).mem_iff.mp hz;rcases ax.mp this with rfl|hz
   ·exact o43 KM hge
   ·exact h1 z hz
theorem zT:∀l:List (Int×Int),(l.map (·.1)).Nodup->Vx (pU l)
 |[],_=>List.Pairwise.nil
 |y::r,h=>by rw[aY,lN]at h;refine Dg y _ (zT r h.2) λz hz q=>h.1 ?_;rw[q];exact b7 ((qh r).mem_iff.mp hz)
theorem vv:∀l1 l2:List (Int×Int),Vx l1->Vx l2->l1.Perm l2->l1=l2
 |[],l2,_,_,h=>by exact am (List.nil_perm.mp h) rfl
 |a::r,[],_,_,h=>by have:=h.length_eq;simp at this
 |a::r,b::q,h1,h2,h=>by
  refine eA (cJ.mp h1) λa1 a2=>eA (cJ.mp h2) λb1 b2=>?_;have M1:a=b:=by
   rcases ax.mp (h.mem_iff.mp (eV (a:=a)))with e|hm
   ·exact e
   ·rcases ax.mp (h.mem_iff.mpr (eV (a:=b)))with e|hm'
    ·exact e.symm
    ·have x1:=b1 a hm;have x2:=a1 b hm';exact(aaB x1 x2).elim
  subst M1;exact am (vv r q a2 b2 (List.perm_cons a|>.mp h)) rfl
section
variable{w:bz}{s:ai}
theorem GJ{a:aN}{vs:List ao}{n:Nat}{P:PySem.Fin->ai->Prop}{f:Nat->Int}{κ:aml}(ho:s.heap.get? a=some (kA "list" vs.toArray n))(h2:2<=vs.length)(Pj:vs.length<64)
  (hd:∀x y,x<vs.length->y<vs.length->x≠y->f x≠f y)
  (pW:∀(s':ai) (Q:aml->ai->Prop),(∀b o,b≠a->s.heap.get? b=some o->s'.heap.get? b=some o)->Q κ s'->aA (az prog w) A (keyKind' vs.toArray) Q E s')
  (Pe:∀(s':ai) (i j:Nat) (Q:Bool->ai->Prop),(∀b o,b≠a->s.heap.get? b=some o->s'.heap.get? b=some o)->i<vs.length->j<vs.length->Q (decide (f i<f j)) s'->aA (az prog w) A (keyLt' κ (vs.getD i fZ) (vs.getD j fZ)) Q (λ_ _=>False) s')
  (h:∀p h',KP vs.length p->KS f p vs.length->(∀b o,b≠a->s.heap.get? b=some o->h'.get? b=some o)->h'.PlainList a (bl (p.toList.map λi=>vs.getD i fZ))->P (.done (.ret .none)) {s with heap:=h'}):
  aA (az prog w) A (Builtin.«list.sort» ⟨[.ref a],[]⟩) P E s:=by
 rw[list_sort_plain];have hsz:¬vs.toArray.size<2:=by refine am bD ?_;exact(λq=>eM _ (D1 (.k 2) V0 (D1 (S1 V0) (.k 2) .n)) rfl h2 q)
 have iO:vs.toArray.size<=vP:=by refine am bC ?_;refine am bD ?_;exact Zm Pj
 refine aR (listItems_at ho rfl (aR (ai5 ho rfl ?_ iO (bo _))));have FY:=p9 (dH λ_=>(#[]:Array ao)) ho (by rfl);refine eE (al4 (o:=kA "list" vs.toArray n) rfl (λ_=>(#[]:Array ao))) λn1 O'=>?_;have others:∀b o,b≠a->s.heap.get? b=some o->(s.heap.update a (dH λ_=>(#[]:Array ao))).get? b=some o:=λb o hb e=>(ie _ _ (tM hb)).trans e;refine aR (akv FY O' (aR (wpAny_newTuple ?_ iO)));refine aR (yT ?_ (bo _));refine gG (am (bg hsz) (am (bg hsz) ?_));have Cd:∀{t1 t2:Obj},(((s.heap.update a (dH λ_=>(#[]:Array ao))).push t1).push t2).get? a=some (dH (λ_=>(#[]:Array ao)) (kA "list" vs.toArray n)):=λ{t1 t2}=>aQ _ (aQ _ FY);have kp:∀{t1 t2:Obj} b o,b≠a->s.heap.get? b=some o->(((s.heap.update a (dH λ_=>(#[]:Array ao))).push t1).push t2).get? b=some o:=λ{t1 t2} b o hb e=>aQ _ (aQ _ (others b o hb e));refine aR (pW _ _ kp ?_);refine eN (OA (n:=vs.length) hd h2) λp HQ hp hs=>?_;have Wq:=Cd (t1:={cls:=.type "tuple",data:=.seq vs.toArray}) (t2:={cls:=.type "list",data:=.seq ([]:List ao).toArray});have kp3:=kp (t1:={cls:=.type "tuple",data:=.seq vs.toArray}) (t2:={cls:=.type "list",data:=.seq ([]:List ao).toArray});clear Cd kp;generalize hS:((s.heap.update a (dH λ_=>(#[]:Array ao))).push {cls:=.type "tuple",data:=.seq vs.toArray}).push {cls:=.type "list",data:=.seq ([]:List ao).toArray}=H at Wq kp3;have run:aA (az prog w) A ((sortRuns').run (SortSt.mk' κ (vs.toArray.zip vs.toArray) #[] 7 ah)) (λr s'=>∃q:Array Nat,q=p/\arrOf r.2=q.map (kas_item (vs.toArray.zip vs.toArray))/\failedOf r.2=ah/\s'={s with heap:=H}) E {s with heap:=H}:=
  kat_run (ks:=vs) (vs:=vs) (Q:=λeJ s'=>∃q:Array Nat,q=p/\arrOf eJ=q.map (kas_item (vs.toArray.zip vs.toArray))/\failedOf eJ=ah/\s'={s with heap:=H}) rfl h2 Pj (G:=λq s'=>q=p/\s'={s with heap:=H}) (λq eJ s' a1 a2 a3 a4=>⟨q,a4.1,a2,a3,a4.2⟩)
   (Kx (t0:=ym f) (λi j C hi hj hC=>Pe _ i j C kp3 hi hj hC) _ _ HQ ⟨rfl,rfl⟩)
 refine aR (aV run ?_ λ_ _ e=>e);rintro ⟨⟨⟩,eJ⟩ s' ⟨q,rfl,har,hf,rfl⟩;have KR:=kat_snds (ks:=vs) (vs:=vs) rfl har;refine aR (akv Wq O' (aR (ai5 Wq O' ?_ (bo _) ?_)))
 ·refine am hf ?_;simp only[bne_self_eq_false,rZ,if_false];refine aO (h q _ hp hs (λb o hb e=>(ie _ _ (tM hb)).trans (kp3 b o hb e)) ?_);exact am KR (⟨_,p9 (dH λ_=>bl (q.toList.map λi=>vs.getD i fZ)) Wq (by rfl)⟩)
 ·rw[KR,bD,aL,iS,hp.size,bC];exact(dD _ 1 V0 (.p (.k 16777216) K1) (D1 (S1 V0) (.k 64) .n) rfl Pj)
theorem Bz{l:aN}{vs:List ao}{Q:ao->ai->Prop}{f:Nat->Int}{κ:aml}(hl:s.heap.IsList l vs.toArray)(h2:2<=vs.length)(Pj:vs.length<64)
  (hd:∀x y,x<vs.length->y<vs.length->x≠y->f x≠f y)
  (pW:∀(A':b9) (s':ai) (Q:aml->ai->Prop) (E:ao->ai->Prop),(∀b o,s.heap.get? b=some o->s'.heap.get? b=some o)->Q κ s'->aA (az prog w) A' (keyKind' vs.toArray) Q E s')
  (Pe:∀(A':b9) (s':ai) (i j:Nat) (Q:Bool->ai->Prop),(∀b o,s.heap.get? b=some o->s'.heap.get? b=some o)->i<vs.length->j<vs.length->Q (decide (f i<f j)) s'->aA (az prog w) A' (keyLt' κ (vs.getD i fZ) (vs.getD j fZ)) Q (λ_ _=>False) s')
  (h:∀p D h',KP vs.length p->KS f p vs.length->(∀b o,s.heap.get? b=some o->h'.get? b=some o)->s.heap.get? D=ah->h'.PlainList D (bl (p.toList.map λi=>vs.getD i fZ))->Q (.ref D) {s with heap:=h'}):
  aA (az prog w) A (call (.builtin "sorted") [.ref l]) Q E s:=by
 refine aj5 kind_sorted plain_sorted entry_sorted (args_sorted1 _) ?_;unfold Builtin.«sorted»;refine aR (m:=checkCount "sorted" 1 1 _) (aO ?_);refine aR (collect_list hl (aR (yT ?_ (by refine am bC ?_;exact Zm Pj))) (by refine am bC ?_;exact Zm Pj));have hz:((s.heap.push (kA "list" #[] 0)).update s.heap.objs.size (dH (·++vs.toArray))).objs.size=s.heap.objs.size+1:=by rw[alV,jF]
 have hD:(((s.heap.push (kA "list" #[] 0)).update s.heap.objs.size (dH (·++vs.toArray))).push (kA "list" vs.toArray 0)).get? (s.heap.objs.size+1)=some (kA "list" vs.toArray 0):=by refine jj hz ?_;exact bN _ rfl
 have keep:∀b o,s.heap.get? b=some o->(((s.heap.push (kA "list" #[] 0)).update s.heap.objs.size (dH (·++vs.toArray))).push (kA "list" vs.toArray 0)).get? b=some o:=λb o e=>by have hb:=dK e;exact aQ _ ((ie _ _ (tM (dk hb))).trans (aQ _ e))
 have FS:∀b o,s.heap.get? b=some o->b≠s.heap.objs.size+1:=λb o e=>dk (iA (dK e));show aA _ _ _ _ _ {s with heap:=((s.heap.push (kA "list" #[] 0)).update s.heap.objs.size (dH (·++vs.toArray))).push (kA "list" vs.toArray 0)};refine am hz (aR (gG (aen slot_list_sort ⟨_,hD,rfl⟩ entry_list_sort (GJ hD h2 Pj hd (λs' Q k hq=>pW _ s' Q _ (λb o e=>k b o (FS b o e) (keep b o e)) hq) (λs' i j Q k hi hj hq=>Pe _ s' i j Q (λb o e=>k b o (FS b o e) (keep b o e)) hi hj hq) λp h' hp hs ho nS=>⟨_,rfl,aO ⟨_,rfl,?_⟩⟩) (args_list_sort _))));exact h p _ h' hp hs (λb o e=>ho b o (FS b o e) (keep b o e)) (cq (iB _)) nS
end
theorem gd{α:Type}{l:List α}{i:Nat}{d:α}(h:i<l.length):l.getD i d=l[i]:=by rw[aI,aC h];rfl
theorem gf{ps:List (Int×Int)}{z:Nat}(hz:z<ps.length):(ps.getD z (0,0)).1=(ps.map (·.1))[z]'(aL (as:=ps) _▸hz):=(congrArg akZ (gd hz)).trans (kG _).symm
theorem MJ{ps:List (Int×Int)}(nd:(ps.map (·.1)).Nodup){x y:Nat}(hx:x<ps.length)(hy:y<ps.length)(KM:x≠y):(ps.getD x (0,0)).1≠(ps.getD y (0,0)).1:=by have pw:=kK.mp nd;rw[gf hx,gf hy];exact(bX KM).elim (λc=>pw x y _ _ c) λc=>(pw y x _ _ c).symm
theorem ET{v:V}{p:Int×Int}(h:sf v=some p):v=ij p:=by
 revert h;rcases v with _|_|_|_|_|vs|_|_|_|_<;>try exact bM
 rcases vs with _|⟨a,vs⟩
 ·exact bM
 rcases a with _|_|a|_|_|_|_|_|_|_<;>try exact bM
 rcases vs with _|⟨b,vs⟩
 ·exact bM
 rcases b with _|_|b|_|_|_|_|_|_|_<;>try exact bM
 rcases vs with _|_
 ·exact λh=>au h▸rfl
 ·exact bM
theorem ES{h:ca}{ι Av:List aN}{vs:List V}:∀{ws:List ao} {ps:List (Int×Int)},bq h ι Av vs ws->vs.mapM sf=some ps->
  vs=ps.map ij/\∀i,i<ps.length->∃a t u,ws.getD i fZ=.ref a/\WJ h a #[.int (ps.getD i (0,0)).1 t,.int (ps.getD i (0,0)).2 u]:=by
 induction vs with
 |nil=>exact λ_ e=>Do e▸⟨rfl,λi hi=>bV hi (lM i)⟩
 |cons v vs ih=>
  intro ws ps r e;refine Dn e λp qs hp hq e=>?_;have hv:=ET hp;subst e hv;refine bq.e1 r λw kC r1 r2=>eA (ih r2 hq) λh1 h2=>⟨congrArg (ij p::·) h1,λi hi=>?_⟩;rcases i with _|i
  ·refine bZ.e5 r1 λa us hT _ _ rs=>?_;revert hT;refine bq.e1 rs λx us r3 rs=>bZ.e2 r3 λt=>?_;refine bq.e1 rs λy us r4 rs=>bZ.e2 r4 λu=>?_;exact bq.e0 rs λhT=>rz _ _ _ rfl hT
  ·exact h2 i (Nat.lt_of_succ_lt_succ hi)
theorem EJ{h:ca}{ι Av:List aN}{vs:List V}{ws:List ao}(r:bq h ι Av vs ws)(l:List Nat):(∀i∈l,i<vs.length)->bq h ι Av (l.map λi=>vs.getD i .none) (l.map λi=>ws.getD i fZ):=by
 induction l with
 |nil=>
  exact λ_=>.nil
 |cons i l ih=>
  exact λhl=>by
   have hi:=hl i (.head _);refine cW (r.get (k:=i) (v:=vs[i]) (aC hi)) λw h1 h2=>?_;refine .cons ?_ (ih λj hj=>hl j (.tail _ hj));have e:ws.getD i fZ=w:=by rw[aI,h1];rfl
   show bZ h ι Av (vs.getD i .none) (ws.getD i fZ);exact gd (d:=V.none) hi▸e▸h2
theorem zK(prog:cO)(w:bz):nB prog w:=by
 intro bk ι Av A E s Q a vs ws ps kH hl rs hps nd h7 hh hu k;have el:=rs.length;refine eA (ES rs hps) λg' hT=>?_;have hlen:ps.length=vs.length:=by rw[g',aL]
 by_cases h2:ws.length<2
 ·refine xQ hl h2 λD h' hk hD hp=>?_;have x:ja bk s {s with heap:=h'}:=.Ds hk;have hpv:(pU ps).map ij=vs:=by
   refine am g' ?_;rcases ps with _|⟨p,_|⟨q,r⟩⟩
   ·rfl
   ·rfl
   ·exact(ab8 hlen el h2).elim
  replace k:=hpv▸k;exact k _ _ x (.lst hp (kH.none hD) (V7 h2) (rs.ext x.heap))
 ·have hn:ws.length=ps.length:=by exact ab7 hlen el
  refine Bz (f:=λi=>(ps.getD i (0,0)).1) (κ:=tuples' aj) hl (by exact dD _ 1 (.k 2) V0 (D1 (.k 2) V0 .n) rfl (ak h2)) (by exact fM _ _ _ 1 (S1 V0) (.k 64) (D1 V0 V1 (D1 V1 V2 (D1 V2 (.k 7) .n))) rfl (ac el.symm) (ac hlen.symm) h7) (λx y hx hy KM q=>?_) (λA' s' Q E hk hq=>?_) (λA' s' i j Q hk hi hj hq=>?_) λp D h' hp hs hk hD nS=>?_
  ·exact MJ nd (hn▸hx) (hn▸hy) KM q
  ·have W9:∀(m:Nat),m<=ws.length->∃fs:List ao,fs.length=m/\KatTups s'.heap (ws.drop (ws.length-m)) fs/\∀v∈fs,∃i t,v=.int i t:=by
    intro m
    induction m with
    |zero=>exact λ_=>ml [] rfl (am (M:=λz=>KatTups s'.heap z []) vS .nil) λv hv=>nomatch hv
    |succ m ih=>
     intro hm;refine eN (ih (o6 hm)) λfs f1 f2 f3=>sO (hT (ws.length-(m+1)) (ab6 hm hlen el)) λa' t u e1 o ho hc nn hd=>?_;have gE:ws.length-(m+1)<ws.length:=ab5 hm;have e2:ws.drop (ws.length-(m+1))=ws.getD (ws.length-(m+1)) fZ::ws.drop (ws.length-m):=by refine am (fU gE) ?_;have:ws.length-(m+1)+1=ws.length-m:=ab4 hm;exact am this (congrArg (·::_) (gd gE).symm)
     refine ml (.int (ps.getD (ws.length-(m+1)) (0,0)).1 t::fs) (congrArg (·+1) f1) ?_ (λv hv=>?_)
     ·refine am e2 (am e1 ?_);exact .cons (hk _ _ ho) hc hd rfl f2
     ·rcases ax.mp hv with rfl|hv
      ·exact Cb _ _ rfl
      ·exact f3 v hv
   refine eN (W9 ws.length (aD _)) λfs f1 f2 f3=>?_;rw[Jg,iZ]at f2;refine kat_kind (T:=.type "int") f2 (by exact dp _ _ 1 (.p (.k 0) K1) V1 (D1 V0 V1 (D1 (.k 2) V0 .n)) rfl (ac f1.symm) (ak h2)) (λv hv=>?_) (by rfl) hq;refine mO (f3 v hv) λi t fC=>?_;subst fC;exact amI rfl
  ·rw[hn]at hi hj;refine sO (hT i hi) λx t1 t2 e1 ox hox hcx nx hdx=>sO (hT j hj) λy t3 t4 e2 oy hoy hcy ny hdy=>?_;refine am e1 (am e2 ?_);refine kat_lt (hk _ _ hox) hdx (hk _ _ hoy) hdy ?_;show KatLex prog w A' aj (decide (2<2)) Q [(_,_),(_,_)] 0 s';refine kat_cons (wpAny_eqBool_int ?_);by_cases rC:i=j
   ·subst rC;rw[e1]at e2;cases e2;cases kM hox hoy;rw[c6];refine kat_yes (kat_cons (wpAny_eqBool_int ?_));rw[c6];refine kat_yes (kat_nil ?_);have:decide ((ps.getD i (0,0)).1<(ps.getD i (0,0)).1)=an:=aW (Int.lt_irrefl _);replace hq:=this▸hq;exact hq
   ·have lP:((ps.getD i (0,0)).1==(ps.getD j (0,0)).1)=an:=by exact beq_false_of_ne (MJ nd hi hj rC)
    exact am lP (kat_no (oneLt_int hq))
  ·have x:ja bk s {s with heap:=h'}:=.Ds hk;rw[hn]at hp hs;have nT:∀i∈p.toList,i<vs.length:=λi hi=>by have:=hp.mem_iff.mp hi;exact jj hlen (cA.mp this)
   have rr:=EJ (rs.ext x.heap) p.toList nT;have KR:(p.toList.map λi=>vs.getD i .none)=(pU ps).map ij:=by
    have h1:(p.toList.map λi=>vs.getD i .none)=(p.toList.map λi=>ps.getD i (0,0)).map ij:=by refine am bF (dN λi hi=>?_);have Fd:=nT i hi;refine am g' ?_;show(ps.map ij).getD i .none=ij (ps.getD i (0,0));rw[aI,cm,gd (hlen▸Fd),aC (hlen▸Fd)];rfl
    refine am h1 ?_;congr 1;refine vv _ _ ?_ (zT ps nd) ?_
    ·refine kK.mpr λi j hi hj rC=>?_;have hsz:=hp.size;rw[aL]at hi hj;have:=hs i j rC (o53 hj hsz);unfold KF at this;rw[KP.at hi,KP.at hj]at this;rwa[kG,kG]
    ·have e0:((ba ps.length).map λi=>ps.getD i (0,0))=ps:=by refine akD (by rw[aL,gD]) λi h1 h2=>?_;rw[kG,akb,gd h2]
     have:=(List.Perm.map (λi=>ps.getD i (0,0)) hp);replace this:=e0▸this;exact this.trans (qh ps).symm
   replace rr:=KR▸rr;exact k _ _ x (.lst nS (kH.none hD) (by rw[aL,iS,hp.size];exact(dD _ 1 V0 (.k 16777216) (D1 V0 (.k 7) .n) rfl h7)) rr)
set_option backward.match.sparseCases true
noncomputable def AY(Γ:L5):Prop:=Γ.code.isCaller=aj\/(Γ.below.any λc=>c.1.isCaller)=aj
noncomputable def tK(Γ:L5):Prop:=(Γ.below.any λc=>c.1.isCaller)=aj
noncomputable def ed{α:Type}(M:VF)(A:b9)(t:Sem α)(Q:α->ai->Prop)(E:ao->ai->Prop)(s:ai):Prop:=
 ∀(Γ:L5) p,Γ.In A->AY Γ->Sem.wp M Γ t (λa _ s'=>Q a s') (λe _ s'=>E e s') p s
noncomputable def iV(M:VF)(A:b9)(c:Code)(R:mq->ai->Prop)(s:ai):Prop:=
 ∀(Γ:L5) p,Γ.code=c->Γ.Below A->tK Γ->wpCode M Γ R p s
section
variable{α β:Type}{M:VF}{s:ai}
theorem ed.of{t:Sem α}{Q:α->ai->Prop}(h:aA M A t Q E s):ed M A t Q E s:=λΓ p qr _=>h Γ p qr
theorem iV.of{c:Code}{R:mq->ai->Prop}(h:xg M A c R s):iV M A c R s:=λΓ p hc qr _=>h Γ p hc qr
theorem cD{t:Sem α}{Q Q':α->ai->Prop}{E':ao->ai->Prop}(h:ed M A t Q E s)(hQ:∀a s,Q a s->Q' a s)(hE:∀e s,E e s->E' e s):ed M A t Q' E' s:=
 λΓ p qr hc=>xi M Γ t (λa _ s=>hQ a s) (λe _ s=>hE e s) p s (h Γ p qr hc)
theorem Cz{c:Code}{R R':mq->ai->Prop}(h:iV M A c R s)(hR:∀r s,R r s->R' r s):iV M A c R' s:=
 λΓ p hc qr hk=>wpCode_mono hR (h Γ p hc qr hk)
theorem dE{m:Sem α}{f:α->Sem β}{Q:β->ai->Prop}(h:ed M A m (λa s'=>ed M A (f a) Q E s') E s):ed M A (m>>=f) Q E s:=λΓ p qr hc=>by rw[Sem.wp_bind'];exact xi M Γ m (λa p' s' h'=>h' Γ p' qr hc) (λ_ _ _ h'=>h') p s (h Γ p qr hc)
theorem cb{m:Sem α}{f:α->Sem β}{Q:β->ai->Prop}(h:aA M A m (λa s'=>ed M A (f a) Q E s') E s):ed M A (m>>=f) Q E s:=dE (.of h)
theorem n5{m:Sem α}{k:ao->Sem Unit}{Q:α->ai->Prop}(h:ed M A m Q (λe s'=>ed M A (k e) (λ_ g8=>E e g8) E s') s):ed M A (m.onRaise k) Q E s:=λΓ p qr hc=>by rw[Sem.wp_onRaise];exact xi M Γ m (λ_ _ _ h'=>h') (λe p' s' h'=>h' Γ p' qr hc) p s (h Γ p qr hc)
theorem zm{m:Sem α}{Q:Except ao α->ai->Prop}(h:ed M A m (λa=>Q (.ok a)) (λe=>Q (.error e)) s):ed M A m.attempt Q E s:=λΓ p qr hc=>by rw[Sem.wp_attempt];exact h Γ p qr hc
theorem gU{vs:List ao}{m:Sem α}{Q:α->ai->Prop}(h:ed M A m Q E s):ed M A (holding vs m) Q E s:=λΓ p qr hc=>by rw[Sem.wp_holding];exact h Γ p qr hc
theorem zl{vs:List ao}{m:Sem α}{Q:α->ai->Prop}(h:ed M A m Q E s):ed M A (m.keep vs) Q E s:=λΓ p qr hc=>by rw[Sem.wp_keep];exact h Γ p qr hc
theorem zj{t:Sem α}{Q:α->ai->Prop}{n:Nat}(hn:n<=s.toks)(h:ed M A t (λa s'=>n<=s'.toks->Q a s') (λe s'=>n<=s'.toks->E e s') s):ed M A t Q E s:=
 λΓ p qr hc=>xi M Γ t (λ_ _ _ x=>x.2 x.1) (λ_ _ _ x=>x.2 x.1) p s (Sem.wp_toks M Γ n t _ _ p s hn (h Γ p qr hc))
theorem l8{Γ:L5}{c:Code}{h:Option ao}{p:Pos}(hc:AY Γ):tK (Γ.enter c h p):=by show(((Γ.code,p)::Γ.below).any λc=>c.1.isCaller)=aj;rw[Ee,iu];exact hc
theorem JB{c:Code}{h:Option ao}{Q:vV->ai->Prop}(hc:iV M (A.mark h) c (λr s'=>match r with|.ok f=>Q f s'|.error e=>E e s') s)(hnb:h≠some byPass:=by intro x;cases x):ed M A (run c h) Q E s:=
 λΓ p qr hk=>by rw[Sem.wp_run];exact hc _ p rfl (qr.enter c h p hnb) (l8 hk)
theorem qQ{f:ao}{pos:List ao}{kw:List (Str×ao)}{Q:ao->ai->Prop}
  (hc:iV M A (.call f ⟨pos,kw⟩) (λr s'=>match r with|.ok (.ret v)=>Q v s'|.ok _=>False|.error e=>E e s') s):ed M A (call f pos kw) Q E s:=
 λΓ p qr hk=>by show Sem.wp M Γ (runValue _) _ _ p s;rw[Sem.wp_runValue];exact hc _ p rfl (qr.enter _ ah p (by intro x;exact bM x)) (l8 hk)
theorem hU{c:Code}{R:mq->ai->Prop}
  (h:ed M (A.under c) (M.den c) (λbP s'=>match bP with|.done f=>R (.ok f) s'|.again c'=>c'.quiet=aj/\iV M A c' R s') (λe s'=>R (.error e) s') s):iV M A c R s:=λΓ p hc qr hk=>by
 rw[wpCode_iff_wp,hc];refine xi M Γ _ (λbP p' s' h'=>?_) (λ_ _ _ h'=>h') p s (h Γ p (hc▸qr.in) (.inr hk))
 cases bP with
 |done f=>exact h'
 |again c'=>exact⟨h'.1,h'.2 (Γ.goto c') p' rfl (qr.goto c') hk⟩
theorem CA{c:Code}{R:mq->ai->Prop}(hq:c.quiet=aj)(I:Nat->ai->Prop)
  (turn:∀n s,I n s->ed M (A.under c) (M.den c) (λbP s'=>match bP with
    |.done f=>R (.ok f) s'
    |.again c'=>(c'=c/\∃m,m<n/\I m s')\/(c'.quiet=aj/\iV M A c' R s')) (λe s'=>R (.error e) s') s)
  (n:Nat) (h:I n s):iV M A c R s:=by
 induction n using Nat.strongRecOn generalizing s with
 |ind n ih=>
  refine hU (cD (turn n s h) (λbP s' hf=>?_) λ_ _ h'=>h')
  cases bP with
  |done f=>exact hf
  |again c'=>
   rcases hf with⟨rfl,m,hm,hI⟩|hf
   ·exact⟨hq,ih m hm hI⟩
   ·exact hf
theorem qP{own:List String}{e:ao}{Q:Unit->ai->Prop}(h:Q () s):ed M A (markTheRefusal own e) Q E s:=λΓ p qr hk=>by
 have adD:((((Γ.code,p)::Γ.below).map (·.1)).any Code.isCaller)=aj:=by refine am Jo ?_;show(((Γ.code,p)::Γ.below).any λc=>c.1.isCaller)=aj;rw[Ee,iu];exact hk
 have key:∀a b c:Bool,a=aj->(!a&&b&&c)=an:=by decide
 have hno:akH own (((Γ.code,p)::Γ.below).map (·.1))=an:=key _ _ _ adD;show Sem.wp M Γ (if akH own (((Γ.code,p)::Γ.below).map (·.1))=aj then _ else _) _ _ p s;exact am hno h
end
section
variable{M:VF}{s:ai}
theorem vY(h:Q .next s):ed M A (jC [] env) Q E s:=.of (Ed h)
theorem eW{st rest}(h:ed M A (kR st env) (λf s'=>match f with|.next=>ed M A (jC rest env) Q E s'|f=>Q f s') E s):
  ed M A (jC (st::rest) env) Q E s:=by
 rw[execs_cons];refine dE (cD h (λf s' h'=>?_) λ_ _ h'=>h');cases f<;>first|exact h'|exact .of (aO h')
theorem F'{test body orelse pos}(h:ed M A (tc test env (et test env)) (λb bI=>if b then ed M A (jC body env) Q E bI else ed M A (jC orelse env) Q E bI) E s):
  ed M A (kR (.If test body orelse pos) env) Q E s:=by
 rw[exec_If];refine cb (gF (dE (cD h (λb s' h'=>?_) λ_ _ x=>x)));cases b<;>exact h'
theorem uC{e pos}(h:ed M A (et e env) (λv=>Q (.ret v)) E s):ed M A (kR (.Return (some e) pos) env) Q E s:=by rw[exec_Return_some];exact cb (gF (dE (cD h (λv s' h'=>.of (aO h')) λ_ _ x=>x)))
theorem zk(h:aA M A m Q E s):ed M A (operate vs m) Q E s:=λΓ p qr hc=>by rw[Sem.wp_operate];exact h Γ p qr
theorem pG{l op r pos whole}
  (h:ed M A (et l env) (λa s₁=>aA M A (et r env) (λb bI=>aA M A (d9 op a b) (λc cG=>aA M A (truthy c) Q E cG) E bI) E s₁) E s)
  (hm:kB op r=an):ed M A (tc (.Compare l [op] [r] pos) env whole) Q E s:=by
 rw[isTrue_Compare1,markedBehindIn_of_false hm];refine dE (cD h (λa s₁ gZ=>?_) λ_ _ x=>x);refine dE (gU (.of (aV gZ (λb bI ip=>?_) λ_ _ x=>x)));refine cb (gF (dE (zk (aV ip (λc cG mK=>?_) λ_ _ x=>x))));exact gU (.of mK)
theorem pO{x rest pos whole}(h:ed M A (tc x env (et x env)) (λc s'=>if c then Q aj s' else ed M A (tc (.BoolOp .Or rest pos) env whole) Q E s') E s):
  ed M A (tc (.BoolOp .Or (x::rest) pos) env whole) Q E s:=by
 show ed M A (do
  match BoolOp.Or,<-tc x env (et x env)with
  |.And,an=>pure an
  |.Or,aj=>pure aj
  |_,_=>allTrue .Or rest env) Q E s
 refine dE (cD h (λc s' h'=>?_) λ_ _ x=>x)
 cases c with
 |false=>exact h'
 |true=>exact .of (aO h')
theorem  lX
  (h:ed M A (et value env) (λv s₁=>aA M A (assignAll v ((vQ targets env).map (·.2))) (λ_=>Q .next) E s₁) E s)
  (hs:aj9 targets value pos.line env=pure an) (hw:yU targets value env=pure ah):
  ed M A (kR (.Assign targets value pos) env) Q E s:=by
 rw[exec_Assign_arm];refine cb (gF ?_);refine am hs (cb (aO ?_));refine am (bg (by decide)) (dE (cD h (λv s₁ gZ=>?_) λ_ _ x=>x));refine am hw (cb (aO ?_));show ed M A (do assignAll v ((vQ targets env).map (·.2));pure .next) Q E s₁
 exact cb (aV gZ (λ_ _ x=>.of (aO x)) λ_ _ x=>x)
theorem  jb
  (h:aA M A (et (.Name x np) env) (λf s₁=>ed M A (rR pos f [] (j4 pos (fF args env)) (backToKw pos (akV keywords env))) Q E s₁) E s):
  ed M A (et (.Call (.Name x np) args keywords pos) env) Q E s:=by
 show ed M A (do rR pos (<-et (.Name x np) env) [] (j4 pos (fF args env)) (backToKw pos (akV keywords env))) Q E s
 exact cb h
theorem  m7
  (h:aA M A (ajL (.ref a) aj args []) (λx s₁=>(s₁.heap.get? a=some o/\o.data=.func fd)/\ed M A (call (.ref a) x.pos x.kw) Q E s₁) E s):
  ed M A (rR pos (.ref a) [] args []) Q E s:=by
 unfold rR;refine dE (gU (.of (aV h (λx s₁ gZ=>cb (gF ?_)) λ_ _ x=>x)));have tail:∀{t:Sem ao},ed M A t Q E s₁->ed M A (t>>=λr=>holding [r] point>>=λ_=>pure r) Q E s₁:=
  λht=>dE (cD ht (λr bI hr=>cb (gG (akR (.of (aO hr))))) λ_ _ x=>x)
 cases hs:args.any (·.1)<;>simp -iota only[List.any_nil,Ef]<;>
  refine cb (m:=keeperOf (.ref a)) ?_<;>unfold keeperOf<;>
  refine aR (Qg gZ.1.1 ?_)<;>rw[gZ.1.2]<;>refine aO ?_
 ·dsimp only;split
  ·exact tail gZ.2
  ·exact tail (by unfold callMarked;exact zl gZ.2)
 ·dsimp only;exact tail (by unfold callMarked;exact zl gZ.2)
theorem CZ{target iter body orelse pos}
  (h:aA M A (et iter env) (λx s₁=>aA M A (mo x) (λit bI=>iV M A (.forLoop target it body orelse env) (λr s'=>match r with|.ok f=>Q f s'|.error e=>False) bI) E s₁) E s)
  (hs:∀x,foldedSetIterable iter env x=pure x):ed M A (kR (.For target iter body orelse pos) env) Q E s:=by
 rw[exec_For];refine cb (gF (cb (aV h (λx s₁ gZ=>cb (Jb (hs x) ?_)) λ_ _ h'=>h')));refine cb (gF (cb (gG (aV gZ (λit bI ip=>?_) λ_ _ h'=>h'))));unfold runOwn;refine n5 (JB (Cz ip λr s' hr=>?_))
 cases r with
 |ok f=>exact hr
 |error e=>exact hr.elim
theorem  zi
  (h:ed M A body (λf s₁=>match f with|.next=>ed M A orelse Q E s₁|f=>Q f s₁)
   (λe s₁=>aA M A (A0 e env) (λ_ bI=>aA M A (uu e ah) (λ_ cG=>aA M A (mT e env (hd::hs)) Q E cG) E bI) E s₁) s):
  ed M A (tryStmt an body (hd::hs) orelse [] env) Q E s:=by
 unfold tryStmt;simp -iota only[List.isEmpty_nil,if_true,List.isEmpty_cons,VI,rZ,if_false];refine dE (zm (cD h (λf s₁ gZ=>?_) λe s₁ gZ=>?_))
 ·cases f<;>first|exact gZ|exact .of (aO gZ)
 ·exact cb (aV gZ (λ_ _ ip=>cb (aV ip (λ_ _ mK=>.of mK) λ_ _ x=>x)) λ_ _ x=>x)
end
section
variable{w:bz}{s:ai}{R:mq->ai->Prop}
theorem  CY
  (h:ed (az prog w) A (jC body env) (λf s₁=>match f with|.next=>ed (az prog w) A (jC orelse env) Q E s₁|f=>Q f s₁)
   (λe s₁=>aA (az prog w) A (A0 e env) (λ_ bI=>aA (az prog w) A (uu e ah) (λ_ cG=>aA (az prog w) A (mT e env (hd::hs)) Q E cG) E bI) E s₁) s):
  ed (az prog w) A (kR (.Try body (hd::hs) orelse [] pos) env) Q E s:=by
 rw[arm_exec_Try];exact cb (gF (zi h))
theorem wi{target it body env}(I:Nat->ai->Prop)
  (turn:∀n s,I n s->aA (az prog w) A (pyNext it) (λr s₁=>match r with
   |none=>aA (az prog w) A (jC [] env) (λf cG=>R (.ok f) cG) (λ_ _=>False) s₁
   |some v=>aA (az prog w) A (ai6 target it v) (λ_ C2=>
     aA (az prog w) A (qH target env v) (λ_ bI=>ed (az prog w) A (jC body env) (λf cG=>match f with
      |.next|.cont=>∃m,m<n/\I m cG
      |.brk=>R (.ok .next) cG
      |.ret v=>R (.ok (.ret v)) cG) (λ_ _=>False) bI) (λ_ _=>False) C2) (λ_ _=>False) s₁) (λ_ _=>False) s)
  (n:Nat) (h:I n s):iV (az prog w) A (.forLoop target it body [] env) R s:=by
 refine CA rfl I (λn s hI=>?_) n h;show ed _ A ((forTurn target it body [] env).onRaise (λx=>do A0 x env;theTreesLotGoes x)) _ _ s
 refine n5 (cD (E:=λ_ _=>False) ?_ (λ_ _ q=>q) λ_ _ f=>f.elim);simp -iota only[forTurn];refine cb (gF (cb (wpAny_onRaise (aV (turn n s hI) (λr s₁ gZ=>?_) λ_ _ h'=>h'.elim))))
 cases r with
 |none=>exact .of (aO (.inr ⟨rfl,.of (codeAny_block (aV gZ (λ_ _ q=>q) λ_ _ f=>f.elim))⟩))
 |some v=>
  refine cb (aV gZ (λ_ C2 TV=>?_) λ_ _ h'=>h');refine cb (aV TV (λ_ bI ip=>dE (cD ip (λf cG mK=>?_) λ_ _ h'=>h')) λ_ _ h'=>h')
  cases f with
  |next=>exact .of (aO (.inl ⟨rfl,mK⟩))
  |cont=>exact .of (aO (.inl ⟨rfl,mK⟩))
  |brk=>exact .of (aO mK)
  |ret v=>exact .of (aO mK)
theorem vA{body env}
  (h:ed (az prog w) (A.deeper env) (jC body env) (λf s'=>R (.ok (.ret (match f with|.ret v=>v|_=>.none))) s')
   (λe s'=>aA (az prog w) (A.deeper env) (VE env e) (λ_ g8=>R (.error e) g8) (λe' g8=>R (.error e') g8) s') s):
  iV (az prog w) A (.func body env) R s:=by
 refine hU ?_;show ed _ (A.deeper env) (do point;match<-(jC body env).onRaise (VE env)with|.ret v=>ret v|_=>ret .none) _ _ s
 refine cb (akR (dE (n5 (cD h (λf s' h'=>?_) λ_ _ h'=>.of h'))));cases f<;>exact .of (aO h')
theorem kJ(Af:A.depth<ajJ)(ho:s.heap.get? a=some o)
  (j7:o.data=.func fd) (UE:fd.scope.isCoroutine=an) (HV:fd.scope.isGenerator=an) (An:fd.body=.stmts body) (ze:s.heap.CodeRec fd.code fd.qualname)
  (h:aA (az prog w) A.in1 (lG fd args) (λbinds s₁=>
   aA (az prog w) A.in1 (ajK fd.scope fd.globals fd.closure binds (fd.qualname++".<locals>.") (some a) fd.code ah fd.builtins)
    (λenv bI=>bI.heap.NoLimit/\iV (az prog w) A (.func body env) R bI) (λe s'=>R (.error e) s') s₁) (λe s'=>R (.error e) s') s):
  iV (az prog w) A (.call (.ref a) args) R s:=by
 refine hU ?_;show ed _ A.in1 (callAny (.ref a) args) _ _ s;simp -iota only[callAny];refine cb (Qg ho ?_);refine gen λGG fN=>?_;obtain⟨c,oc,vs,tq,hc,O3,hdc,hq⟩:=ze;refine fN ?_;simp only[j7,callFunction,UE,HV,An,hc];rw[hc]at h;refine cb (m:=field (.ref c) 1) (akT O3 hdc hq (cb (aO ?_)));refine cb (aV h (λbinds s₁ gZ=>cb (aV gZ (λenv bI ip=>cb (wpAny_enterFrame ip.1 Af ?_)) λ_ _ h'=>h')) λ_ _ h'=>h');exact .of (aO (akG rfl ip.2))
theorem  FG
  (Af:A.depth<ajJ) (ho:s.heap.get? a=some o) (HY:o.data=.func fd) (iO:s.heap.NoLimit) (ze:s.heap.CodeRec fd.code fd.qualname)
  (An:fd.body=.stmts body) (rD:lG fd ⟨ux,[]⟩=pure binds) (Pc:fd.closure=[]) (FX:1<=s.toks)
  (pW:∀x∈binds,fd.scope.names.lookup x.1=some .local\/(fd.scope.names.lookup x.1=some .cell/\((nL (s.heap.objs.size+1) fd.scope.names []).lookup x.1).isSome=aj))
  (UE:fd.scope.isCoroutine=an) (HV:fd.scope.isGenerator=an) (hk:fd.scope.kind=.function)
  (h:∀s₁,1<=s₁.toks->InCallC s (dj fd s.heap.objs.size a).locals (NB (dj fd s.heap.objs.size a).kindOf binds λ_=>ah) (dj fd s.heap.objs.size a).cells (ajM (dj fd s.heap.objs.size a).kindOf binds λ_=>ah) s₁->
   ed (az prog w) (A.deeper (dj fd s.heap.objs.size a)) (jC body (dj fd s.heap.objs.size a)) (λf s'=>R (.ok (.ret (match f with|.ret v=>v|_=>.none))) s')
    (λe s'=>aA (az prog w) (A.deeper (dj fd s.heap.objs.size a)) (VE (dj fd s.heap.objs.size a) e) (λ_ g8=>R (.error e) g8) (λe' g8=>R (.error e') g8) s') s₁):
  iV (az prog w) A (.call (.ref a) ⟨ux,[]⟩) R s:=by
 refine kJ Af ho HY UE HV An ze (am rD (am Pc ?_));refine aO (cM (n:=1) FX (ajG hk pW λenv he s' x zu=>?_));subst he;exact⟨iO.keeps x.toInCall.keep,vA (h s' zu x)⟩
end
section
variable{w:bz}{r n:Nat}{s:ai}
theorem rM(D:lE ag a ps body scope)(iO:ag.NoLimit)(c:lf ag (r+1) 0 A s)(S:kZ ι Av st s.heap)(i0:∀b∈ι,ag.get? b=ah)
  (rs:bq s.heap ι Av vs ws) (hlen:vs.length=ps.length)
  (k:∀(env:Env) (s₁:ai),D9 ag r n ι Av st A env scope.names (ps.zip vs) s s₁->
   ed (az prog w) (A.deeper env) (jC body env) (λf s'=>Q (match f with|.ret v=>v|_=>.none) s') (λe s'=>aA (az prog w) (A.deeper env) (VE env e) (λ_ g8=>E e g8) (λe' g8=>E e' g8) s') s₁):
  ed (az prog w) A (call (.ref a) ws) Q E s:=by
 refine qw D.ex λname params pm cd jd o ho hd ze rD=>?_;have zd:ws.length=ps.length:=by refine jj rs.length ?_;exact hlen
 exact qQ (FG (fd:=fg name params body scope pm cd jd) (binds:=ps.zip ws) (by have:=c.dep;exact o77 this) (c.kp a o ho) hd (iO.keeps c.kp) (ze.keeps c.kp) rfl (rD ws zd) rfl c.tk (IB D) D.co D.gen D.kind
  λs₁ tk X=>k _ s₁ (sQ (n:=n) (vs:=vs) D c S i0 rs tk X))
end
set_option backward.match.sparseCases false
theorem U'{prog:cO}{w:bz}{t:Sem Fin}{s:ai}{R:mq->ai->Prop}(ac8:s.asleep)
  (h:ed (az prog w) ajw t (λbP s'=>∃f,bP=.done f/\(R (.ok f) s'/\mZ s'.gens=an)) (λe s'=>R (.error e) s'/\mZ s'.gens=an) s):
  ∃n r s' g8,schedN (denote table) prog w n (.single s ⟨t,.builtin "claim.caller" {},default,[]⟩)=.halted (outcomeOf r) s'/\runN (denote table) prog w n s ⟨t,.builtin "claim.caller" {},default,[]⟩=.halted (outcomeOf r) s'/\s'.forget=g8.forget/\R r g8:=by
 have h0:Sem.wp (az prog w) ⟨.builtin "claim.caller" {},ah,ah,[],ah⟩ t (Sem.finPost (az prog w) ⟨.builtin "claim.caller" {},ah,ah,[],ah⟩ λr s'=>R r s'/\mZ s'.gens=an)
   (λe _ s'=>R (.error e) s'/\mZ s'.gens=an) default s:=by
  refine xi _ _ t (λbP p' s' h'=>?_) (λ_ _ _ h'=>h') default s (h _ default caller_in (.inl rfl));refine cW h' λf or hf=>?_;subst or;exact hf
 refine gen λGG fN=>?_;obtain⟨n,r,s',g8,h1,h2,h3,h4⟩:=wp_halts_full ac8 h0;refine fN ?_;exact⟨n,r,g8,s',h1,h2,h3,h4⟩
noncomputable abbrev ut(fV:ai)(args:List WData)(s₁:ai):mq->ai->Prop:=GoodWG di.toRowW.claim (classAt fV.heap) (ExcName.means fV.heap) args s₁
noncomputable abbrev Nv(q:cO)(loose:List Str)(XP:(Str->Option ao)->ca->Prop)(YP:bz->ca->Prop)(d:DefRec)(Oz:List (Str×Expr)):Prop:=
 ∀(w:bz) (fV s₁:ai) (mg mb:Str->Option ao),Ground q loose [] XP w fV mg mb s₁.heap->YP w s₁.heap->∀(a:aN) (o:Obj) (pm cd jd dV kV:ao),s₁.heap.get? a=some o->
  o.data=.func {fg d.name d.params d.body d.scope pm cd jd with defaults:=dV,kwdefaults:=kV}->s₁.heap.CodeRec cd d.name->Dflts mg s₁.heap d.params Oz dV kV->mg d.name=some (.ref a)->s₁.gens=#[]->
  ∀(args:List WData) (ux:List ao) (as:List aN),di.toRowW.claim.pre args=aj->amc args=aj->vX [] (classAt fV.heap) s₁.heap ux args as->WellAll w.params s₁.heap ux args->(∀a∈as,(a==sysModules)=an)->
   ed (az di.prog w) ajw (PySem.call (.ref a) ux) (λv s'=>ut fV args s₁ (.ok (.ret v)) s') (λe s'=>ut fV args s₁ (.error e) s') s₁
theorem yw{q:cO}{loose:List Str}{Xt:ai->Bool}{XP:(Str->Option ao)->ca->Prop}{α:Type}{Yf:ai->α}{Ya:bz->α}{YP:bz->ca->Prop}{d:DefRec}{Oz:List (Str×Expr)}{N:Nat}
  (left:LeftO di.prog q loose Xt Yf Ya N) (hY:∀w s,Yf s=Ya w->YP w s.heap) (hYk:∀w h h',YP w h->(∀b o,h.get? b=some o->h'.get? b=some o)->YP w h')
  (hX:∀s,Xt s=aj->XP (s.heap.nsMap agB) s.heap) (hXk:∀mg h h',XP mg h->(∀b o,h.get? b=some o->h'.get? b=some o)->XP mg h')
  (O8:defOf q di.name=some (d,Oz)) (hp:di.prog.theDef di.name=some (d.params,d.body,d.scope)) (hk:kwWritten? d.params.kwonlyargs d.params.kw_defaults=some Oz) (hRf:∀s,Xt s=aj->RecFacts di.records s.heap) (hwr:(!di.writes||di.records.isEmpty)=aj)
  (k1:di.wellSaid=aj) (ok:(chainsOk q&&opensWell di.prog&&(frees di.toRowW&&di.within.isEmpty))=aj) (hb:di.prog.bare) (hw:di.toRowW.promised)
  (call:Nv q loose XP YP d Oz):di.Holds:=by
 have hch:chainsOk q=aj:=(bv.mp (bv.mp ok).1).1;have hop:opensWell di.prog=aj:=(bv.mp (bv.mp ok).1).2;refine⟨k1,hw,⟨hb,hop,rfl⟩,hw.witness,λw=>⟨(left.behind hX hch w).1,λs' v8=>?_⟩⟩;refine gen λGG fN=>?_;obtain⟨fV,hf,hg0,s,hT,hz,Dz,hg,G,y⟩:=(left.behind hX hch w).2 s' v8;refine fN ?_;refine⟨fV,hf,hg0,s,hT,λn hn=>?_,λx hx=>(nomatch hx),λx hx=>(nomatch hx),λargs v9 KY ord Uf=>?_⟩
 ·obtain rfl:n=di.name:=bh.mp hn;exact pinned_of_view hg G O8 hp hk
 ·have Dz:s.gens=#[]:=Array.eq_empty_of_size_eq_zero (cw.mp Dz);obtain⟨⟨vs,s₁⟩,Ah⟩:=Option.isSome_iff_exists.mp (layAllW_isSome (P:=w.params) (ord:=ord) G.has args di.args s (pre_splitW v9).1);have keeps:=layAllW_keeps _ _ _ Ah;have QL:=layAllW_rest _ _ _ Ah;refine eN (reads_layAllW Uf _ _ _ Ah KY s₁.heap (λ_ _ e=>e)) λas hrd sM hold=>?_;have L:Laid [] w s s₁ args vs as:=⟨⟨ord,Uf,Ah⟩,hrd,sM,hold,keeps,QL.1.trans Dz,QL.2.2.1⟩;have Qd:=G.keeps hXk keeps;refine gen λGG fN=>?_;obtain⟨a,o,pm,cd,jd,dV,kV,h1,h2,h3,h4,h5⟩:=Qd.fn O8;refine fN ?_;have walk:=call w s s₁ _ _ Qd (hYk _ _ _ (hY w s y) keeps) a o pm cd jd dV kV h2 h3 h4 h5 (defOf_name O8▸h1) L.gens args vs as v9 KY L.reads L.well (L.low G.low);have laid:∀{res s'},ut s args s₁ res s'->di.toRowW.claim.Ends s args vs s₁ res s'/\s'.os=s.os/\AllBare s'.gens:=λg=>g.laid (c:=di.toRowW.claim) rfl rfl (λ_ _=>ident_freeW (r:=di.toRowW) rfl rfl rfl _ _) L;have tree:ed (az di.prog w) ajw (callStub di.name vs).cur (λbP s'=>∃f,bP=.done f/\((di.toRowW.claim.Ends s args vs s₁ (.ok f) s'/\s'.os=s.os)/\mZ s'.gens=an))
    (λe s'=>(di.toRowW.claim.Ends s args vs s₁ (.error e) s'/\s'.os=s.os)/\mZ s'.gens=an) s₁:=by
   refine cb (wpAny_nsGet Qd.T.g ?_);refine am h1 (dE (cD walk (λv s' g=>.of (aO ?_)) λe s' g=>?_))
   ·exact yK (laid g) λe1 e2 e3=>ml _ rfl ⟨e1,e2⟩ (agC e3)
   ·exact yK (laid g) λe1 e2 e3=>⟨⟨e1,e2⟩,agC e3⟩
  refine gen λGG fN=>?_;obtain⟨k,r,s',g8,OZ,HQ,hfo,Am,hos⟩:=U' (prog:=di.prog) (w:=w) (t:=(callStub di.name vs).cur) (s:=s₁) (R:=λr s'=>di.toRowW.claim.Ends s args vs s₁ r s'/\s'.os=s.os) (ai.asleep_of_life QL.2.2.2 hz) tree;refine fN ?_;refine AC (ai.forget_eq hfo) λeh _ _ eo _=>?_;have Am:=Am.congr eh;have Uo:s'.heap.life=s.heap.life:=(runN_life _ _ _ HQ).trans QL.2.2.2;refine⟨vs,s₁,Ah,k,_,s',OZ,?_,(λ_ i x hx=>by replace hx:=Dz▸hx;simp at hx),(λq=>nomatch q),am Uo rfl,ai.rest_eq (eo.trans hos)⟩;rcases Am with⟨v,rfl,d1,d2,d3,d4,d5⟩|⟨e,ob,cls,rfl,d1,d2,d3,d4,d5⟩
  ·exact .inl ⟨v,rfl,d1,d2,d3,λb o y _=>d4 b o y,d5⟩
  ·exact .inr ⟨e,ob,cls,rfl,d1,d2,d3,d4,λb o y _=>d5 b o y⟩
inductive s9 (B:V->Sg->St->ga->Prop):List V->Sg->St->ga->Prop
 |nil {σ:Sg} {st:St}:s9 B [] σ st (.next,σ,st)
 |next {v:V} {r:List V} {σ:Sg} {st:St} {mj gA out}:B v σ st (.next,mj,gA)->s9 B r mj gA out->s9 B (v::r) σ st out
 |ret {v:V} {r:List V} {σ:Sg} {st:St} {u mj gA}:B v σ st (.ret u,mj,gA)->s9 B (v::r) σ st (.ret u,mj,gA)
theorem s9.out{B:V->Sg->St->ga->Prop}{v:V}{r:List V}{σ:Sg}{st:St}{out:ga}(h:s9 B (v::r) σ st out):
  ∃o,B v σ st o/\((o.1=.next/\s9 B r o.2.1 o.2.2 out)\/(o.1=.brk/\out=(.next,o.2))\/(∃u,o.1=.ret u/\out=o)):=by
 cases h with
 |next a b=>exact jW _ a (.inl ⟨rfl,b⟩)
 |ret a=>exact jW _ a (.inr (.inr ⟨_,rfl,rfl⟩))
section
variable{w:bz}{r n m:Nat}{s:ai}
noncomputable abbrev Vy(prog:cO)(w:bz)(ag:ca)(r n:Nat)(A:b9)(env:Env)(sc:Sc)(t:Expr)(b:List cy)(f:V->Sg->St->ga->Prop):Prop:=
 ∀(v:V) (u:ao) (σ:Sg) (st:St) (out:ga) (ι Av:List aN) (s:ai),f v σ st out->Fx ag r n ι Av st A env sc σ s->bZ s.heap ι Av v u->
  aA (az prog w) A (qH t env u) (λ_ s'=>ed (az prog w) A (jC b env) (jR ag r n ι Av A env sc out s) (λ_ _=>False) s') (λ_ _=>False) s
theorem vt{t:Expr}{b:List cy}{f:V->Sg->St->ga->Prop}{vs:List V}{it:ao}{B:aN->Prop}{bI:ai}{out:ga}{R:mq->ai->Prop}(src:tR prog w A (dM ag) ι Av vs B s it bI)(hB:∀b,B b->b∉Av)(lg:1<=bI.toks)
  (fx:Fx ag r n ι Av st A env sc σ s) (hf:s9 f vs σ st out) (body:Vy prog w ag r n A env sc t b f)
  (hR:∀fl s',jR ag r n ι Av A env sc out s fl s'->R (.ok fl) s'):iV (az prog w) A (.forLoop t it b [] env) R bI:=
 (wP (X:=λQ s=>ed (az prog w) A (jC b env) Q (λ_ _=>False) s) (TT:=λvs σ st=>s9 f vs σ st out) (Bd:=f) src hB lg fx hf
  (λh k=>cD h k λ_ _ f=>f) (λh=>h.out) (λh=>by cases h;rfl) (λv x σ st o ι Av s h fx rv=>body v x σ st o ι Av s h fx rv) hR).elim λLI q=>
  wi LI (λk s' h=>aV (q.2 k s' h) (λo s₁ g=>by
   rcases o with _|v
   ·exact aO g
   ·exact g) λ_ _ f=>f) _ q.1
noncomputable def I7(A:b9)(env:Env):Prop:=env.frame=some env.locals/\∃l,A.frames=some (env::l)
noncomputable def CS(prog:cO)(w:bz)(ag:ca)(r:Nat)(sc:Sc)(b:List cy)(σ:Sg)(st:St)(out:ga):Prop:=
 ∀(n:Nat) (ι Av:List aN) (A:b9) (env:Env) (s:ai),I7 A env->Fx ag r n ι Av st A env sc σ s->ed (az prog w) A (jC b env) (jR ag r n ι Av A env sc out s) (λ_ _=>False) s
noncomputable def C1(prog:cO)(w:bz)(ag:ca)(r:Nat)(sc:Sc)(b:cy)(σ:Sg)(st:St)(out:ga):Prop:=
 ∀(n:Nat) (ι Av:List aN) (A:b9) (env:Env) (s:ai),I7 A env->Fx ag r n ι Av st A env sc σ s->ed (az prog w) A (kR b env) (jR ag r n ι Av A env sc out s) (λ_ _=>False) s
theorem jR.from{out:ga}{db df:List aN}{s' g8:ai}{fl:vV}(x:fR (dM ag) (mY env) ι Av s db df s')(d:jR ag r n db df A env sc out s' fl g8):jR ag r n ι Av A env sc out s fl g8:=
 c3 d λqM sd y g q=>⟨qM,sd,x.trans y,g,q⟩
theorem CS.pure(W:Wx prog w ag mg mb r P){b:List cy}{out:ga}(h:bW P m sc σ st b=some out)(lP:∀c x,out.1≠.exc c x):CS prog w ag r sc b σ st out:=
 λn ι Av A env s ot f=>.of (((sx W m).ss h f).calm lP λfl s' d=>d)
theorem C1.pure(W:Wx prog w ag mg mb r P){b:cy}{out:ga}(h:bi P m sc σ st b=some out)(lP:∀c x,out.1≠.exc c x):C1 prog w ag r sc b σ st out:=
 λn ι Av A env s ot f=>.of (((sx W m).s1 h f).calm lP λfl s' d=>d)
theorem CS.nil:CS prog w ag r sc [] σ st (.next,σ,st):=λn ι Av A env s ot f=>vY ⟨ι,Av,.refl s,f,rfl⟩
theorem CS.cons{b:cy}{rest:List cy}{mj:Sg}{gA:St}{out:ga}(h:C1 prog w ag r sc b σ st (.next,mj,gA))(k:CS prog w ag r sc rest mj gA out):CS prog w ag r sc (b::rest) σ st out:=
 λn ι Av A env s ot f=>eW (cD (h n ι Av A env s ot f) (λfl s1 d=>by
  refine c3 d λqM sd x f1 lL=>?_;cases (show fl=.next from lL)
  exact cD (k n qM sd A env s1 ot f1) (λfl s2 d=>d.from x) λ_ _ z=>z) λ_ _ z=>z)
theorem CS.ret{b:cy}{rest:List cy}{mj:Sg}{gA:St}{u:V}(h:C1 prog w ag r sc b σ st (.ret u,mj,gA)):CS prog w ag r sc (b::rest) σ st (.ret u,mj,gA):=
 λn ι Av A env s ot f=>eW (cD (h n ι Av A env s ot f) (λfl s1 d=>by refine DS d λqM sd x f1 uv G6 ru=>?_;subst G6;exact KJ qM sd x f1 uv rfl ru) λ_ _ z=>z)
theorem CS.app(W:Wx prog w ag mg mb r P){rest:List cy}{out:ga}(m:Nat):∀(pre:List cy) {σ mj:Sg} {st gA:St},bW P m sc σ st pre=some (.next,mj,gA)->CS prog w ag r sc rest mj gA out->CS prog w ag r sc (pre++rest) σ st out:=by
 induction m with
 |zero=>exact λ_ _ _ _ _ h _=>bM h
 |succ m ih=>
  intro pre σ mj st gA h k;rcases pre with _|⟨b,pre⟩
  ·have e:=au h;cases e;exact k
  ·refine bK h λo ho h=>?_;rcases o with⟨fl,σ2,jt⟩;rcases fl with _|_|_|_
   ·exact CS.cons (C1.pure W ho (λ_ _ q=>by cases q)) (ih pre h k)
   all_goals (have e:=congrArg (·.1) (au h);cases e)
theorem C1.We(W:Wx prog w ag mg mb r P){t:Expr}{b o:List cy}{p:Pos}{c:Bool}{out:ga}(h:bY P st m sc σ t=some c)(k:CS prog w ag r sc (if c then b else o) σ st out):C1 prog w ag r sc (.If t b o p) σ st out:=
 λn ι Av A env s ot f=>F' (.of (((r7 W.d m).te h f.a.any _ (.inl rfl)).go λs1 x1 gg=>by
  have f1:=f.ext x1 gg
  cases c with
  |true=>exact cD (k n ι Av A env s1 ot f1) (λfl s2 d=>d.from (.c7 x1)) λ_ _ z=>z
  |false=>exact cD (k n ι Av A env s1 ot f1) (λfl s2 d=>d.from (.c7 x1)) λ_ _ z=>z))
noncomputable def AX(prog:cO)(w:bz)(ag:ca)(r:Nat)(a:aN)(vs:List V)(st:St)(v:V)(eJ:St):Prop:=
 (∃o fd,ag.get? a=some o/\o.data=.func fd)/\∀(ι Av:List aN) (A:b9) (s:ai) (ws:List ao) (E:ao->ai->Prop) (Q:ao->ai->Prop),lf ag r 0 A s->kZ ι Av st s.heap->(∀b∈ι,ag.get? b=ah)->bq s.heap ι Av vs ws->
  (∀u s' db df,fR (dM ag) nC ι Av s db df s'->lf ag r 0 A s'->kZ db df eJ s'.heap->(∀b∈db,ag.get? b=ah)->bZ s'.heap db df v u->Q u s')->ed (az prog w) A (call (.ref a) ws) Q E s
theorem AX.up{r':Nat}{a:aN}{vs:List V}{st eJ:St}{v:V}(c:AX prog w ag r a vs st v eJ)(h:r<=r'):AX prog w ag r' a vs st v eJ:=
 ⟨c.1,λι Av A s ws E Q x S i0 rs k=>c.2 ι Av A s ws E Q (x.low h) S i0 rs λu s' db df fy c'=>k u s' db df fy ⟨x.hh,x.dep,x.A8,c'.fr,c'.tk,c'.kp⟩⟩
theorem AO(W:Wd prog w ag mg mb r P){g:aN}{fn:Str}{p pos:Pos}{args:List Expr}{vs:List V}{v:V}{eJ:St}(hg:fY P sc σ fn=some (.obj g))(g':b3 P st m sc σ args=some vs)(hf:AX prog w ag r g vs st v eJ)(f:Fx ag r n ι Av st A env sc σ s){Q:ao->ai->Prop}
  (k:∀u s' db df,fR (dM ag) (mY env) ι Av s db df s'->Fx ag r n db df eJ A env sc σ s'->bZ s'.heap db df v u->Q u s'):ed (az prog w) A (et (.Call (.Name fn p) args [] pos) env) Q E s:=by
 have H:=r7 W m;refine jb (cM (n:=1) f.a.c.tk (gY W f.a hg λw' s0 x0 r0 Rg=>?_));cases r0;have f0:=f.ext x0 Rg;refine gen λGG fN=>?_;refine eA hf λqN hc=>?_;obtain⟨o,fd,ho,hd⟩:=qN;refine fN ?_;refine m7 (o:=o) (fd:=fd) (kP (H.Ay g' f0.a.any).1 (H.tX g' f0.a.any λws s1 x1 gg rs=>?_));have f1:=f0.ext x1 gg;refine⟨⟨f1.a.c.kp _ _ ho,hd⟩,hc ι Av A s1 ws E Q (f1.a.c.less (bo _)) f1.a.S f1.i0 rs λu s2 QU VA fy c2 S2 i2 r2=>?_⟩;exact k u s2 QU VA ((fR.c7 (x0.trans x1)).trans (fy.mono λ_ h=>h.elim)) (f1.after fy c2 S2 i2) r2
theorem C1.call(W:Wx prog w ag mg mb r P){t:Expr}{g:aN}{fn:Str}{p pos pos':Pos}{args:List Expr}{vs:List V}{v:V}{eJ:St}{cR:Sg}(hg:fY P sc σ fn=some (.obj g))(g':b3 P st m sc σ args=some vs)(hf:AX prog w ag r g vs st v eJ)(hb:dq sc t v σ=some cR):
  C1 prog w ag r sc (.Assign [t] (.Call (.Name fn p) args [] pos) pos') σ st (.next,cR,eJ):=λn ι Av A env s ot f=>by
 have HP:∀l,aj9 [t] (.Call (.Name fn p) args [] pos) l env=Pure.pure an:=λl=>rfl;refine lX (AO W.d hg g' hf f λu s1 qM sd fy f1 r1=>?_) (HP _) l9;have key:aA (az prog w) A (qH t env u) (λ_=>jR ag r n ι Av A env sc (.next,cR,eJ) s .next) (λ_ _=>False) s1:=
  lC hb f1 r1 λs2 f2 lh=>hO (fy.trans lh) f2
 rcases nA hb with⟨x,q,rfl,_⟩|⟨ts,k,q,rfl⟩<;>exact key
theorem C1.Ij(W:Wx prog w ag mg mb r P){t a:Expr}{p p' z:Pos}{b:List cy}{vs:List V}{out:ga}{B:V->Sg->St->ga->Prop}(hv:g7 P st (m+1) sc σ (.Call (.Name (ar "range") p) [a] [] p')=some vs)
  (h:s9 B vs σ st out) (hB:∀v σ st out,B v σ st out->∃cR,dq sc t v σ=some cR/\CS prog w ag r sc b cR st out):C1 prog w ag r sc (.For t (.Call (.Name (ar "range") p) [a] [] p') b [] z) σ st out:=λn ι Av A env s ot f=>by
 refine cC hv λhs hv=>bK hv λu hu hv=>?_;revert hv;rcases u with _|_|k|_|_|_|_|_|_|_<;>try exact bM
 refine λhv=>cC hv λhk hv=>?_;have qq:=au hv;subst qq;refine CZ (aV (uT (B:=λ_=>False) W.d (r7 W.d m) hs hu hk f.a.any (kL hu)) (λx s1 q=>?_) λ_ _ f=>f.elim) (λx=>rfl);refine yK q λx1 gg OY=>?_;have f1:=f.ext x1 gg;refine aV (kz gg (OY (λit bI=>tR prog w A (dM ag) ι Av _ (λ_=>False) s1 it bI) λ_ _ z=>z)) (λit bI q=>?_) λ_ _ f=>f.2.elim;refine vt q.2 (λ_ h=>h.elim) q.1 f1 h (λv u σ st out ι Av s hb f rv=>?_) λfl s' ⟨qM,sd,y,g,q⟩=>⟨qM,sd,(fR.c7 x1).trans y,g,q⟩;refine cW (hB v σ st out hb) λcR h1 h2=>?_;exact lC h1 f rv λs2 f2 fy=>cD (h2 n ι Av A env s2 ot f2) (λfl s3 d=>d.from fy) λ_ _ z=>z
theorem C1.Le(W:Wx prog w ag mg mb r P){t i:Expr}{z:Pos}{b:List cy}{vs:List V}{out:ga}{B:V->Sg->St->ga->Prop}(hv:ay P st m sc σ i=some (.lst vs))
  (h:s9 B vs σ st out) (hB:∀v σ st out,B v σ st out->∃cR,dq sc t v σ=some cR/\CS prog w ag r sc b cR st out):C1 prog w ag r sc (.For t i b [] z) σ st out:=λn ι Av A env s ot f=>by
 refine CZ (((r7 W.d m).ev hv f.a.any).go λx s1 x1 gg r1=>?_) (λx=>ul (ya hv) x);have f1:=f.ext x1 gg;refine aV (kz gg (qn (bk:=dM ag) (Q:=λit bI=>tR prog w A (dM ag) ι Av vs (λb=>b∉Av) s1 it bI) (E:=λ_ _=>False) f1.a.S f1.a.c.hh (v:=.lst vs) rfl r1 λit bI src=>src.mono λb hb=>hb.elim id λqz=>cW qz λ_ q _=>nomatch q)) (λit bI q=>?_) λ_ _ f=>f.2.elim;refine vt q.2 (λ_ h=>h) q.1 f1 h (λv u σ st out ι Av s hb f rv=>?_) λfl s' ⟨qM,sd,y,g,q⟩=>⟨qM,sd,(fR.c7 x1).trans y,g,q⟩;refine cW (hB v σ st out hb) λcR h1 h2=>?_;exact lC h1 f rv λs2 f2 fy=>cD (h2 n ι Av A env s2 ot f2) (λfl s3 d=>d.from fy) λ_ _ z=>z
theorem AX.def{a:aN}{ps:List Str}{body:List cy}{scope:jm}{vs:List V}{out:ga}{v:V}(D:lE ag a ps body scope)(iO:ag.NoLimit)(hlen:vs.length=ps.length)(hv:Lq out.1=some v)
  (h:CS prog w ag r scope.names body (ps.zip vs) st out):AX prog w ag (r+1) a vs st v out.2.2:=by
 refine⟨?_,λι Av A s ws E Q c S i0 rs k=>?_⟩
 ·refine kX D.ex λ_ _ _ _ _ o ho hd _=>?_;exact jp o _ ho hd
 ·refine rM (n:=0) D iO c S i0 rs hlen λenv s₁ en=>?_;refine cD (h 0 ι Av _ env s₁ ⟨en.facts.1,cW c.fr λl h1 _=>⟨l,gQ h1⟩⟩ en.fx) (λfl s' d=>?_) λ_ _ z=>z.elim;refine c3 d λdb df fy f' lL=>?_;have nQ:=en.back db df s' fy;have c':=c.back f'.a.c
  cases h1:out.1 with
  |next=>
   rw[h1]at lL hv;cases (show fl=.next from lL)
   have qq:=au hv;subst qq;exact k _ _ db df nQ c' f'.a.S f'.i0 .none
  |ret u=>
   rw[h1]at lL hv;refine cW lL λuv or ru=>?_;subst or;have qq:=au hv;subst qq;exact k _ _ db df nQ c' f'.a.S f'.i0 ru
  |brk=>rw[h1]at hv;cases hv
  |exc c x=>rw[h1]at hv;cases hv
end
section
open PySem.NumText
section
variable{α:Type}{M:VF}{s:ai}
theorem xB(h:aA M A T' (λ_ _=>True) (λ_ _=>True) s->aA M A T (λ_ _=>True) (λ_ _=>True) s)(e:T=T')(k:ed M A T' Q E s):ed M A T Q E s:=e▸k
theorem mw(h:Q a s):ed M A (pure a) Q E s:=.of (aO h)
theorem gn{c:Prop}[Decidable c](hc:decide c=aj)(h:ed M A a Q E s):ed M A (if c then a else b) Q E s:=by refine am (aP (bG hc)) ?_;exact h
theorem fL{c:Prop}[Decidable c](hc:decide c=an)(h:ed M A b Q E s):ed M A (if c then a else b) Q E s:=by refine am (bg (of_decide_eq_false hc)) ?_;exact h
end
theorem zQ(s:String)(c:Array Nat)(h:s.length<=100):((be s++(⟨c.extract 0 200⟩:aq):aq)).length<=vP:=by have e:((be s++(⟨c.extract 0 200⟩:aq):aq)).length=(be s).length+(c.extract 0 200).size:=aku;rw[e,PySem.ofString_length,akf];have:vP=16777216:=bC;exact aba h this
structure jh(x:aq):Prop where
 no:cz x=ah
 len:x.length<=640
 all:((qF x).length==(akj x).length)=aj
 rep:(ajI x).length<=1000
theorem jh.hidden(b:jh x):KIN.Hid ((qF x).length<=640/\(int_private%"readNumeral") 0 10 (qF x)=int_private%"Numeral.invalid"/\(ajI x).length<=1000):=by
 have hs:(qF x).length<=640:=aM (seen_length x) b.len;refine⟨hs,?_,b.rep⟩;rcases read0 x hs with⟨m,h1,_⟩|⟨_,h|⟨i,_,h⟩⟩
 ·rw[b.no]at h1;cases h1
 ·exact h
 ·exact bV b.all h
section
variable{w:bz}{s:ai}
set_option maxHeartbeats 400000 in
theorem mz{Q:ao->ai->Prop}{u:Tok}(hk:KIN.Hid ((text.takeWhile (·!=0)).length<=640/\(int_private%"readNumeral") 0 10 (text.takeWhile (·!=0))=int_private%"Numeral.invalid"/\(ajI x).length<=1000))(hh:A.handled=ah)
  (h:∀h' e m,f9 s.heap h' e (.type "ValueError") [m]->E (.ref e) {s with heap:=h',toks:=s.toks+1+1}):
  ed (az prog w) A ((int_private%"intFromText") (.str x u) text 10) Q E s:=by
 refine yK hk.out λhs hr hsz=>?_;clear hk
 repeat (first
  |((with_reducible refine ed.of ?_);(with_reducible show aA _ _ (pyRepr _) _ _ _);refine wpAny_pyRepr_str ?_ (by refine am bC ?_;exact VV hsz))
  |((with_reducible refine ed.of ?_);(with_reducible show aA _ _ (mkStr _) _ _ _);refine wpAny_mkStr ?_ (zQ _ _ (by decide+kernel)))
  |((with_reducible refine ed.of ?_);(with_reducible show aA _ _ (newExc _ _) _ _ _);refine wpAny_newExc_plain plainExc_ValueError ?_ (by refine am bC ?_;exact ajA rfl);intro h' e hm)
  |((with_reducible refine ed.of ?_);(with_reducible show aA _ _ (raiseNew _) _ _ _);refine wpAny_raiseNew_none hh ?_)
  |rw[hr]|(first|assumption|with_reducible refine dE ?_|with_reducible refine gU ?_|with_reducible refine qP ?_|with_reducible refine mw ?_|((with_reducible refine ed.of ?_);with_reducible first|refine vN ?_|refine Jb (by assumption) ?_|refine VC (by assumption) ?_|refine rQ (by assumption) (by assumption) ?_|refine AZ (by assumption) (by assumption) ?_|refine tL (by assumption) (by assumption) ?_|refine Ec (by assumption) (by assumption) ?_)|((with_reducible apply fL);focus (rfl;done))|((with_reducible apply gn);focus (rfl;done))|((with_reducible apply fL);focus (simp[*];done))|((with_reducible apply gn);focus (simp[*];done))|(refine xB (T':=?_) (λhw=>?_) ?_ ?_;(case refine_2=>(wp_delta;exact hw));(case refine_3=>rfl))))
 exact h _ _ _ hm.of
set_option maxHeartbeats 4000000 in
theorem xx{Q:Fin->ai->Prop}{u u':Tok}(b:jh x)(hh:A.handled=ah)
  (h:∀h' e m,f9 s.heap h' e (.type "ValueError") [m]->E (.ref e) {s with heap:=h',toks:=s.toks+1+1}):
  ed (az prog w) A (Builtin.«int.__new__» ⟨[.type "int",.str x u,.int 10 u'],[]⟩) Q E s:=by
 have hk:=b.hidden;clear b;have f1:=ajY;have f2:=ajX;have f3:=alt;have f4:=alu;have f5:=akE;have f6:Qh (.str x u)=pure (.type "str"):=rfl
 repeat (first
  |((with_reducible show ed _ _ ((int_private%"intFromText") _ _ _) _ _ _);exact mz hk hh h)
  |(first|assumption|with_reducible refine dE ?_|with_reducible refine gU ?_|with_reducible refine qP ?_|with_reducible refine mw ?_|((with_reducible refine ed.of ?_);with_reducible first|refine vN ?_|refine Jb (by assumption) ?_|refine VC (by assumption) ?_|refine rQ (by assumption) (by assumption) ?_|refine AZ (by assumption) (by assumption) ?_|refine tL (by assumption) (by assumption) ?_|refine Ec (by assumption) (by assumption) ?_)|((with_reducible apply fL);focus (rfl;done))|((with_reducible apply gn);focus (rfl;done))|((with_reducible apply fL);focus (simp[*];done))|((with_reducible apply gn);focus (simp[*];done))|(refine xB (T':=?_) (λhw=>?_) ?_ ?_;(case refine_2=>(wp_delta;exact hw));(case refine_3=>rfl))))
set_option maxHeartbeats 4000000 in
theorem xy{Q:Fin->ai->Prop}{u:Tok}(b:jh x)(hh:A.handled=ah)
  (h:∀h' e m,f9 s.heap h' e (.type "ValueError") [m]->E (.ref e) {s with heap:=h',toks:=s.toks+1+1}):
  ed (az prog w) A (Builtin.«int.__new__» ⟨[.type "int",.str x u],[]⟩) Q E s:=by
 have hk:=b.hidden;clear b;have f1:=ajY;have f2:=ajX;have f3:=alt;have f4:=alu;have f5:=akE;have f6:Qh (.str x u)=pure (.type "str"):=rfl
 repeat (first
  |((with_reducible show ed _ _ ((int_private%"intFromText") _ _ _) _ _ _);exact mz hk hh h)
  |(first|assumption|with_reducible refine dE ?_|with_reducible refine gU ?_|with_reducible refine qP ?_|with_reducible refine mw ?_|((with_reducible refine ed.of ?_);with_reducible first|refine vN ?_|refine Jb (by assumption) ?_|refine VC (by assumption) ?_|refine rQ (by assumption) (by assumption) ?_|refine AZ (by assumption) (by assumption) ?_|refine tL (by assumption) (by assumption) ?_|refine Ec (by assumption) (by assumption) ?_)|((with_reducible apply fL);focus (rfl;done))|((with_reducible apply gn);focus (rfl;done))|((with_reducible apply fL);focus (simp[*];done))|((with_reducible apply gn);focus (simp[*];done))|(refine xB (T':=?_) (λhw=>?_) ?_ ?_;(case refine_2=>(wp_delta;exact hw));(case refine_3=>rfl))))
theorem pX{id:String}{args:Args}(hb:akY table id=some b)
  (h:ed (az prog w) (A.under (.builtin id args)) (b args) (λbP s'=>match bP with|.done f=>R (.ok f) s'|.again c'=>c'.quiet=aj/\iV (az prog w) A c' R s') (λe s'=>R (.error e) s') s):iV (az prog w) A (.builtin id args) R s:=by
 refine hU ?_;show ed _ _ (match akY table id with|some b=>b args|ah=>unsupported ((withoutEnding? id "#data").getD id)) _ _ s;refine am hb ?_;exact h
theorem qA{id:String}{args:Args}(hq:plainId id=aj)(hb:akY table id=some b)(hc:A2 id args=pure ())
  (h:ed (az prog w) A.in1 (b args) (λbP s'=>match bP with|.done f=>R (.ok f) s'|.again c'=>c'.quiet=aj/\iV (az prog w) A c' R s') (λe s'=>R (.error e) s') s):iV (az prog w) A (.call (.builtin id) args) R s:=by
 refine hU ?_;show ed _ A.in1 (do A2 id args;again (.builtin id args)) _ _ s
 refine am hc ?_;refine cb (aO (mw (akG (aj' hq args) (pX hb ?_))));refine am (r6 hq args) ?_;exact h
set_option maxHeartbeats 4000000 in
theorem tm(hct:checkTypeCall "int" ⟨x::more,[]⟩=pure ())(Pb:A2 "int.__new__" ⟨.type "int"::x::more,[]⟩=pure ())
  (g:ed (az prog w) A.in1.in1 (Builtin.«int.__new__» ⟨.type "int"::x::more,[]⟩) (λ_ _=>False) E s):ed (az prog w) A (call (.type "int") (x::more)) Q E s:=by
 refine mO pj.mro λc tl ahO=>?_;have afZ:=pj.made;have aht:=pj.sub;refine qQ (hU ?_);show ed _ _ (callAny (.type "int") _) _ _ _;refine mw ⟨Code.quiet_builtin _ (by decide+kernel),pX F.entry_type_call ?_⟩;refine am (b9.under_plain (weight_type_call_type "int" (x::more) []) (units_type_call_type "int" (x::more) [])) ?_;have h1:=pj.notType;have h2:=pj.canCreate
 repeat (first
  |((with_reducible show ed _ _ (call _ _ _) _ _ _);refine qQ (qA pj.plain F.entry_int_new Pb (cD g (λ_ _ f=>f.elim) λ_ _ z=>z)))
  |(first|assumption|with_reducible refine dE ?_|with_reducible refine gU ?_|with_reducible refine qP ?_|with_reducible refine mw ?_|((with_reducible refine ed.of ?_);with_reducible first|refine vN ?_|refine Jb (by assumption) ?_|refine VC (by assumption) ?_|refine rQ (by assumption) (by assumption) ?_|refine AZ (by assumption) (by assumption) ?_|refine tL (by assumption) (by assumption) ?_|refine Ec (by assumption) (by assumption) ?_)|((with_reducible apply fL);focus (rfl;done))|((with_reducible apply gn);focus (rfl;done))|((with_reducible apply fL);focus (simp[*];done))|((with_reducible apply gn);focus (simp[*];done))|(refine xB (T':=?_) (λhw=>?_) ?_ ?_;(case refine_2=>(wp_delta;exact hw));(case refine_3=>rfl))))
theorem xz{Q:ao->ai->Prop}{u u':Tok}(b:jh x)(hh:A.handled=ah)(h:∀h' e m,f9 s.heap h' e (.type "ValueError") [m]->E (.ref e) {s with heap:=h',toks:=s.toks+1+1}):
  ed (az prog w) A (call (.type "int") [.str x u,.int 10 u']) Q E s:=
 tm (n9 _ _) (pV _ _) (xx b hh h)
theorem xA{Q:ao->ai->Prop}{u:Tok}(b:jh x)(hh:A.handled=ah)(h:∀h' e m,f9 s.heap h' e (.type "ValueError") [m]->E (.ref e) {s with heap:=h',toks:=s.toks+1+1}):
  ed (az prog w) A (call (.type "int") [.str x u]) Q E s:=
 tm (F.typeCall_int_1 _) (F.newCall_int_1 _) (xy b hh h)
end
end
section
variable{w:bz}{r n m:Nat}{s fV s₁:ai}{cls:ao}{args:List ao}{ea:aN}
theorem lW{M:VF}{pos:Pos}{T:String}{args:List (Bool×Sem ao)}{Q:ao->ai->Prop}(O1:args.any (·.1)=an)
  (h:aA M A (ajL (.type T) aj args []) (λa s₁=>ed M A (call (.type T) a.pos a.kw) Q E s₁) E s):ed M A (rR pos (.type T) [] args []) Q E s:=by
 unfold rR;refine dE (gU (.of (aV h (λa s₁ gZ=>cb (gF ?_)) λ_ _ x=>x)));simp -iota only[O1,List.any_nil,Ef];refine cb (aO ?_);exact dE (cD gZ (λr bI hr=>cb (gG (akR (.of (aO hr))))) λ_ _ x=>x)
theorem B8(W:Wd prog w ag mg mb r P){p pos:Pos}{es:List Expr}{x:aq}{Q:ao->ai->Prop}(hs:sc.lookup (be "int")=some .globalImplicit)(g':b3 P st m sc σ es=some [.str x]\/b3 P st m sc σ es=some [.str x,.int 10])(b:jh x)(at_:At ag r n ι Av st A env sc σ s)
  (k:∀s₁ h' ea mm,ja (dM ag) s s₁->1<=s₁.toks->f9 s₁.heap h' ea (.type "ValueError") [mm]->E (.ref ea) {s₁ with heap:=h',toks:=s₁.toks+1+1}):ed (az prog w) A (et (.Call (.Name (be "int") p) es [] pos) env) Q E s:=by
 have H:=r7 W m;refine jb (iG W at_ (by decide+kernel) alb hs ?_);rcases g' with g'|g'
 ·refine lW ((H.Ay g' at_.any).1.any pos env) (kP (H.Ay g' at_.any).1 (H.tX g' at_.any λws s1 x1 gg rs=>?_))
  cases rs with
  |cons r1 r2=>
  cases r2
  cases r1 with
  |str _ t hx=>exact xA b at_.c.hh λh' e mm hm=>k s1 h' e mm x1 gg hm
 ·refine lW ((H.Ay g' at_.any).1.any pos env) (kP (H.Ay g' at_.any).1 (H.tX g' at_.any λws s1 x1 gg rs=>?_))
  cases rs with
  |cons r1 r2=>
  cases r2 with
  |cons r2 r3=>
  cases r3
  cases r1 with
  |str _ t hx=>
  cases r2 with
  |int _ u=>exact xz b at_.c.hh λh' e mm hm=>k s1 h' e mm x1 gg hm
theorem CG{M:VF}{K:ai->Prop}{l:List Env}{L:aN}{h':ca}{tk:Nat}(c:lf ag r n A s₁)(Cf:A.frames=some (env::l))(hf:env.frame=some L)(hx:f9 s₁.heap h' ea cls args)(FX:1<=tk)(k:∀cG,mu ag A s₁ cls args ea cG->K cG):
  aA M A (A0 (.ref ea) env) (λ_ bI=>aA M A (uu (.ref ea) ah) (λ_ cG=>K cG) E bI) E {s₁ with heap:=h',toks:=tk}:=by
 refine eN c.fr λl' h1 hF hD=>?_;cases kM Cf h1;have sM:∀e∈(env::l),∀b,e.frame=some b->b∈(env::l).filterMap (·.frame):=λe he b hb=>lU.mpr ⟨e,he,hb⟩;have hkb:(aj1 s₁.heap ((env::l).filterMap (·.frame))).StaysIn s₁.heap:=λb o q=>of_hideAll _ q;refine eN hx.there λt he htn ht=>?_;have fresh:∀b,s₁.heap.get? b=ah->(aj1 s₁.heap ((env::l).filterMap (·.frame))).get? b=ah:=λb hb=>by
  cases hq:(aj1 s₁.heap ((env::l).filterMap (·.frame))).get? b with
  |none=>rfl
  |some o'=>have:=hkb b o' hq;rw[hb]at this;cases this
 unfold A0;simp -iota only[hf];refine aR (akT (x:=fZ) he rfl rfl ?_);refine am (bg (show¬((fZ !=fZ)=aj)from by decide)) ?_;refine wpAny_entryW (a0:=.ref t) Cf ((funFrames_hide hF sM).of_keeps λb o hb _=>⟨o,hx.keeps b o hb,rfl⟩) hf he (λb o hb=>hx.keeps b o (hkb b o hb)) (fresh ea hx.new) rfl (by show 1<6;decide) rfl λh2 hN=>?_;refine wg hN λk1 k2 k3 k4=>?_;refine wpAny_landsW (s:={heap:=h2,gens:=s₁.gens,drawn:=s₁.drawn,toks:=tk,os:=s₁.os}) ⟨k1,fresh ea hx.new,k2,k3⟩ λh5 f5 Qy=>k _ ?_;have up0:s₁.heap.UpToSlots h':=akr hx.keeps;have k4':h'.UpToSlots h2:=k4;have up:s₁.heap.UpToSlots h5:=(up0.trans k4').trans Qy;have hB:∀b o,s₁.heap.get? b=some o->(∀e∈(env::l),e.frame≠some b)->∃o',(aj1 s₁.heap ((env::l).filterMap (·.frame))).get? b=some o':=λb o e hb=>
  ⟨o,hideAll_get _ e λhm=>by refine cW (lU.mp hm) λg hg Ws=>?_;exact hb g hg Ws⟩
 refine⟨⟨h5,tk,rfl⟩,FX,vu (.refl _) hkb f5.1 up hB hF hD,env::l,_,t,Cf,f5,?_,fresh t htn,hB⟩;exact ca.TupAt.of_slots ⟨_,_,ht,rfl,rfl⟩ (k4'.trans Qy)
theorem zq{K:ph}{d:aN}{D:List (pd×pd)}{t v dn:aq}{x:aq}{k:Int}{en:aq}{np pos p1 p2 p3 p4 p5 p6 p7:Pos}{kd:Nat}{c:ao}{Q:vV->ai->Prop}(W:Wx prog w ag mg mb r P)(X0:K.In ag)(ot:I7 A env)
  (F:mu ag A fV cls args ea s) (f:Fx ag r n ι Av st A env sc σ fV) (Wv:en∈([be "ValueError"]:List aq)) (KV:mg en=ah) (hc:hZ en=some c) (yy:sc.lookup en=some .globalImplicit) (hex:A1 K cls c=some aj)
  (FW:sc.lookup t=some .local) (Wj:sc.lookup v=some .local) (hvd:(v==be "__debug__")=an) (hvv:eO v σ=some (.str x)) (hdg:mg dn=some (.ref d)) (tH:sc.lookup dn=some .globalImplicit) (K2:(dn==be "__debug__")=an)
  (T:StrTab prog w ag d D) (hl:(p4.endLine==p5.line)=aj) (hk:(lookup (.str x) D).getD (.int 0)=.int k)
  (q:∀s',fR (dM ag) (mY env) ι Av fV ι Av s'->Fx ag r n ι Av st A env sc (ee t (.int k) σ) s'->Q .next s'):
  aA (az prog w) A (mT (.ref ea) env [.ExceptHandler (some (.Name en np)) ah [.Assign [.Name t p1] (.Call (.Attribute (.Name dn p2) (be "get") p4) [.Name v p3,.Constant (.int 0) kd p7] [] p5) p6] pos]) Q E s:=by
 have fs:=f.ext F.pR F.tk;refine ly F.obj λtt oe ws ho Pd hd h0 ht=>?_;have hn1:en≠"__name__":=by rcases ax.mp Wv with rfl|q;decide;cases q
 have MX:(en==be "__debug__")=an:=by rcases ax.mp Wv with rfl|q;decide;cases q
 refine H1 (c:=c) (λFO E Q q=>sD W.d fs.a.e fs.a.c.kp KV hc hn1 yy MX q) (exm_one (X0.keeps fs.a.c.kp) (Pd▸lu ho) hex) λE'=>?_;refine oS F f.a.c λcG t6=>?_;have f3:=f.ext t6.pR t6.tk;refine cW f3.a.e.loc λmp hn QJ=>?_;refine cW (QJ v (.str x) Wj hvv) λu hu ru=>?_
 cases ru with
 |str _ tx TY=>
 have hvk:env.kindOf v=some .local:=(f3.a.e.nm v _ Wj).elim id λq=>nomatch q.1;have FX:env.kindOf t=some .local:=(f3.a.e.nm t _ FW).elim id λq=>nomatch q.1;have T3:StrTab prog w cG.heap d D:=T.keep f3.a.c.kp;refine cW T3.2 λMM Jv _=>?_;refine qC (wpAny_Assign_Name ?_);have MV:eB [alW v p3,Expr.Constant (.int 0) kd p7]:=λ_=>rfl;refine nK (un rfl _) (MV.Fp p5 env (by simp -iota)) hl (sC W.d f3.a.e f3.a.c.kp hdg tH K2 ?_);refine oJ ("dict") ("dict.get") PySem.F.plainAttrs_dict PySem.F.slot_dict_get PySem.F.type_dict_get Jv.typeIs Jv.mapOf.noDict (g5 (.inl ⟨_,rfl⟩) MV ?_);refine bT (vO (lF f3.a.e.kind hvk hn hu (bT (alf (eH ?_)))) hvd);refine call_get2_strTab (s:={cG with toks:=cG.toks+1}) (dd:=.int 0) (T3.keep λ_ _ e=>e) (.int 0 _) λrv hv=>?_;replace hv:=hk▸hv;obtain⟨tv,rfl⟩:∃tv,rv=.int k tv:=by cases hv cG.heap;exact⟨_,rfl⟩
 have f4:Fx ag r n ι Av st A env sc σ {cG with toks:=cG.toks+1+1}:=f3.ext (.tok _) o34;refine pY (s:={cG with toks:=cG.toks+1+1}) FX hn (λh' jq vd=>?_) (qv f4.a.e);have f5:=f4.uQ (k:=cG.toks+1+1+1) FW hn QJ (.int k tv) jq vd (by exact dD _ 1 K1 (.p (.p (S1 V0) K1) K1) .n rfl);refine Ed (q _ ?_ f5);have x2:ja (dM ag) cG {cG with toks:=cG.toks+1+1}:=.tok _;exact(fR.c7 (t6.pR.trans x2)).trans (.chg vd (.inr (.inl rfl)) (cW (rk jq) λo h _=>⟨o,h⟩))
end
noncomputable def sb(prog:cO)(w:bz)(ag:ca)(r:Nat)(a:aN)(vs:List V)(v:V):Prop:=
 (∃o fd,ag.get? a=some o/\o.data=.func fd)/\∀(ι Av:List aN) (A:b9) (s:ai) (ws:List ao) (E:ao->ai->Prop) (Q:ao->ai->Prop),lf ag r 0 A s->ku Av s.heap->bq s.heap ι Av vs ws->eb (dM ag) ι Av s Q v->ed (az prog w) A (call (.ref a) ws) Q E s
noncomputable def Nz(prog:cO)(w:bz)(ag:ca)(r:Nat)(a:aN)(vs:List V)(cls:ao)(AR:List ao->Prop):Prop:=
 (∃o fd,ag.get? a=some o/\o.data=.func fd)/\∀(ι Av:List aN) (A:b9) (s:ai) (ws:List ao) (E:ao->ai->Prop) (Q:ao->ai->Prop),lf ag r 0 A s->ku Av s.heap->bq s.heap ι Av vs ws->(∀ea args s',AR args->mu ag A s cls args ea s'->E (.ref ea) s')->ed (az prog w) A (call (.ref a) ws) Q E s
section
variable{w:bz}{r n m:Nat}{s fV s₁:ai}{cls:ao}{AR:List ao->Prop}{v:V}
theorem sb.up{r':Nat}{a:aN}{vs:List V}{v:V}(c:sb prog w ag r a vs v)(h:r<=r'):sb prog w ag r' a vs v:=⟨c.1,λι Av A s ws E Q x=>c.2 ι Av A s ws E Q (x.low h)⟩
theorem Qe.Qx{a:aN}{vs:List V}(c:Qe prog w ag r a vs cls AR):Nz prog w ag r a vs cls AR:=⟨c.1,λι Av A s ws E Q x av rs k=>.of (c.2 ι Av A s ws E Q x av rs k)⟩
theorem Nz.up{r':Nat}{a:aN}{vs:List V}(c:Nz prog w ag r a vs cls AR)(h:r<=r'):Nz prog w ag r' a vs cls AR:=⟨c.1,λι Av A s ws E Q x=>c.2 ι Av A s ws E Q (x.low h)⟩
theorem sb.Qx{a:aN}{vs:List V}{v:V}(c:sb prog w ag r a vs v):AX prog w ag r a vs st v st:=
 ⟨c.1,λι Av A s ws E Q x S i0 rs k=>by refine zj (n:=1) x.tk (c.2 ι Av A s ws _ _ x S.av rs λu s' x' r' tk=>?_);exact k u s' ι Av (.c7 x') (x.ext x' tk) (S.ext x'.heap) i0 r'⟩
theorem zU(W:Wx prog w ag mg mb r P){rest:List cy}{Q:vV->ai->Prop}(m:Nat):∀(pre:List cy) {ι Av:List aN} {st eJ:St} {σ cR:Sg} {s:ai},bW P m sc σ st pre=some (.next,cR,eJ)->Fx ag r n ι Av st A env sc σ s->
  (∀db df s',fR (dM ag) (mY env) ι Av s db df s'->Fx ag r n db df eJ A env sc cR s'->ed (az prog w) A (jC rest env) Q E s')->ed (az prog w) A (jC (pre++rest) env) Q E s:=by
 induction m with
 |zero=>exact λ_ _ _ _ _ _ _ _ h _ _=>bM h
 |succ m ih=>
  intro pre ι Av st eJ σ cR s h f k;refine gen λG bP=>?_;rcases pre with _|⟨b,pre⟩
  ·have e:=au h;cases e;exact bP (k ι Av s (.refl s) f)
  ·refine bK h λo ho h=>?_;rcases o with⟨fl,mj,gA⟩;rcases fl with _|_|_|_
   ·refine bP (eW (.of (((sx W m).s1 ho f).calm (λ_ _ q=>by cases q) λfl s1 d=>?_)));refine c3 d λqM sd fy f1 lL=>?_;cases (show fl=.next from lL)
    exact ih pre h f1 λdb df s' nQ f'=>k db df s' (fy.trans nQ) f'
   all_goals (have e:=congrArg (·.1) (au h);cases e)
theorem oH(W:Wx prog w ag mg mb r P){x:aq}{q1 q2 q3 q4:Pos}{v:aq}{es:List Expr}{Q:vV->ai->Prop}(hs:sc.lookup (be "int")=some .globalImplicit)(g':b3 P st m sc σ es=some [.str x]\/b3 P st m sc σ es=some [.str x,.int 10])(b:jh x)(at_:At ag r n ι Av st A env sc σ s)
  (k:∀s₁ h' ea mm,ja (dM ag) s s₁->1<=s₁.toks->f9 s₁.heap h' ea (.type "ValueError") [mm]->E (.ref ea) {s₁ with heap:=h',toks:=s₁.toks+1+1}):
  ed (az prog w) A (kR (.Assign [.Name v q1] (.Call (.Name (be "int") q2) es [] q3) q4) env) Q E s:=by
 have HP:∀l,aj9 [.Name v q1] (.Call (.Name (be "int") q2) es [] q3) l env=Pure.pure an:=λl=>rfl;exact lX (B8 W.d hs g' b at_ k) (HP _) l9
theorem C1.NS{K:ph}{d:aN}{D:List (pd×pd)}{t v dn x en:aq}{kk:Int}{q1 q2 q3 q4 q5 np pos p1 p2 p3 p4 p5 p6 p7:Pos}{kd:Nat}{c:ao}{es:List Expr}{more:List cy}(W:Wx prog w ag mg mb r P)(X0:K.In ag)
  (hs:sc.lookup (be "int")=some .globalImplicit) (g':b3 P st m sc σ es=some [.str x,.int 10]) (b:jh x)
  (Wv:en∈([be "ValueError"]:List aq)) (KV:mg en=ah) (hc:hZ en=some c) (yy:sc.lookup en=some .globalImplicit) (hex:A1 K (.type "ValueError") c=some aj)
  (FW:sc.lookup t=some .local) (Wj:sc.lookup v=some .local) (hvd:(v==be "__debug__")=an) (hvv:eO v σ=some (.str x)) (hdg:mg dn=some (.ref d)) (tH:sc.lookup dn=some .globalImplicit) (K2:(dn==be "__debug__")=an)
  (T:StrTab prog w ag d D) (hl:(p4.endLine==p5.line)=aj) (hk:(lookup (.str x) D).getD (.int 0)=.int kk):
  C1 prog w ag r sc (.Try (.Assign [.Name v q1] (.Call (.Name (be "int") q2) es [] q3) q4::more)
   [.ExceptHandler (some (.Name en np)) ah [.Assign [.Name t p1] (.Call (.Attribute (.Name dn p2) (be "get") p4) [.Name v p3,.Constant (.int 0) kd p7] [] p5) p6] pos] [] [] q5) σ st (.next,ee t (.int kk) σ,st):=
 λn ι Av A env s ot f=>by refine CY (eW (oH W hs (.inr g') b f.a λs1 h' ea mm x1 gg hm=>?_));refine eE ot.2 λl Cf=>?_;have f1:=f.ext x1 gg;refine CG f1.a.c Cf ot.1 hm o34 λs3 F=>?_;exact zq W X0 ot F f1 Wv KV hc yy hex FW Wj hvd hvv hdg tH K2 T hl hk λs' fy f'=>⟨ι,Av,(fR.c7 x1).trans fy,f',rfl⟩
theorem Lm{a:aN}{ps:List Str}{pre rest:List cy}{scope:jm}{vs:List V}{x v:aq}{q1 q2 q3 q4:Pos}{es:List Expr}{cR:Sg}{eJ:St}{m':Nat}(W:Wx prog w ag mg mb r P)
  (D:lE ag a ps (pre++.Assign [.Name v q1] (.Call (.Name (be "int") q2) es [] q3) q4::rest) scope) (iO:ag.NoLimit) (La:yR vs) (hlen:vs.length=ps.length) (hs:scope.names.lookup (be "int")=some .globalImplicit)
  (v9:bW P m scope.names (ps.zip vs) [] pre=some (.next,cR,eJ)) (g':b3 P eJ m' scope.names cR es=some [.str x]) (b:jh x):Nz prog w ag (r+1) a vs (.type "ValueError") (λ_=>True):=by
 refine⟨?_,λι Av A s ws E Q c kH rs k=>?_⟩
 ·refine kX D.ex λ_ _ _ _ _ o ho hd _=>?_;exact jp o _ ho hd
 ·have S:kZ [] Av [] s.heap:=⟨kH,(λb hb=>by cases hb),fG,rfl,(λl vs q=>by cases l<;>cases q)⟩;refine rM (n:=0) D iO c S (λb hb=>by cases hb) (La _ _ _ _ _ rs) hlen λenv s₁ en=>AC en.facts λMY H7 Wi Wl _=>?_;refine zU W m pre v9 en.fx λdb df s2 fy f2=>eW (oH W hs (.inl g') b f2.a λs3 h' ea mm x3 Jq hm=>?_);have f3:=f2.ext x3 Jq;have x4:ja (dM ag) s3 {s3 with toks:=s3.toks+1+1}:=.tok _;have f4:=f3.ext x4 o34;have nQ:=en.back db df _ (fy.trans (.c7 (x3.trans x4)));have O7:eu (dM ag) s.heap s3.heap:=λb o e=>nQ.ke b o e (λh=>by cases h) (λh=>h);exact u7 (s₁:={s3 with toks:=s3.toks+1+1}) c MY H7 O7 nQ.sh f4 ⟨h',rfl,hm⟩ λg8 fl=>k ea _ g8 trivial fl
theorem Ei{M:VF}{test body orelse pos}{Q:ao->ai->Prop}(h:ed M A (tc test env (et test env)) (λc bI=>if c then ed M A (et body env) Q E bI else ed M A (et orelse env) Q E bI) E s):ed M A (et (.IfExp test body orelse pos) env) Q E s:=by rw[eval_IfExp];refine dE (cD h (λc bI ip=>?_) λ_ _ x=>x);cases c<;>exact ip
theorem zR{a rd:aN}{ps:List Str}{scope:jm}{ws:List V}{c:Bool}{t b1 b2:Expr}{p1 p2 p3:Pos}{hd:ExceptHandler}{hs:List ExceptHandler}{x:Str}{p pos:Pos}{es:List Expr}{vs:List V}(W:Wx prog w ag mg mb r P)
  (D:lE ag a ps [.Try [.Return (some (.IfExp t b1 b2 p1)) p2] (hd::hs) [] [] p3] scope) (iO:ag.NoLimit) (fws:yR ws) (fv:Fz v) (hlen:ws.length=ps.length)
  (ht:bY P [] n scope.names (ps.zip ws) t=some c) (he:(if c=aj then b1 else b2)=.Call (.Name x p) es [] pos) (hx:fY P scope.names (ps.zip ws) x=some (.obj rd)) (g':b3 P [] n scope.names (ps.zip ws) es=some vs) (X:Nz prog w ag r rd vs cls AR)
  (H:kQ prog w ag r scope.names (ps.zip ws) cls AR (hd::hs) v):sb prog w ag (r+1) a ws v:=by
 refine⟨?_,λι Av A s us E Q cx kH rs k=>?_⟩
 ·refine kX D.ex λ_ _ _ _ _ o ho hd _=>?_;exact jp o _ ho hd
 ·have S:kZ [] Av [] s.heap:=⟨kH,(λb hb=>by cases hb),fG,rfl,(λl vs q=>by cases l<;>cases q)⟩;refine rM (n:=n) D iO cx S (λb hb=>by cases hb) (fws _ _ _ _ _ rs) hlen λenv s₁ en=>?_;refine AC en.facts λMY H7 Wi Wl _=>?_;refine eN cx.fr λl h1 _ _=>?_;have hl:=gQ (env:=env) h1;refine eW (CY (eW (uC (Ei (.of (((r7 W.d n).te ht en.fx.a _ (.inl rfl)).go λs1 x1 gg=>?_))))));have f1:=en.fx.ext x1 gg;have bP:∀(Qv:ao->ai->Prop) (Qf:vV->ai->Prop) (E':ao->ai->Prop) e,e=.Call (.Name x p) es [] pos->(∀u s',fR (dM ag) (mY env) [] Av s₁ [] Av s'->bZ s'.heap [] Av v u->Qf (.ret u) s')->ed (az prog w) (A.deeper env) (et e env) Qv
    (λe s₁=>aA (az prog w) (A.deeper env) (A0 e env) (λ_ bI=>aA (az prog w) (A.deeper env) (uu e ah) (λ_ cG=>aA (az prog w) (A.deeper env) (mT e env (hd::hs)) Qf E' cG) E' bI) E' s₁) s1:=λQv Qf E' e he kq=>by
   subst he;refine gen λGG fN=>?_;refine eA X λqN hc=>?_;obtain⟨o,fd,ho,K2⟩:=qN;refine fN ?_;refine jb (cM (n:=1) f1.a.c.tk (gY W.d f1.a hx λw' s' x' r' zu=>?_));cases r';have a1:=f1.a.ext x' zu;refine m7 (o:=o) (fd:=fd) (kP ((r7 W.d n).Ay g' a1).1 ((r7 W.d n).tX g' a1 λQw s2 x2 po rs2=>?_));have a2:=a1.ext x2 po;refine⟨⟨a2.c.kp _ _ ho,K2⟩,hc [] Av _ s2 Qw _ _ (a2.c.less (bo _)) a2.S.av rs2 λea args s3 hA F=>?_⟩;have f2:=(f1.ext x' zu).ext x2 po;refine AL F f2.a.c hl MY λs4 F4=>?_;exact H n [] Av [] _ env s2 s4 ea args _ _ hA F4 f2 λu s' fy ru=>kq u s' ((fR.c7 (x1.trans (x'.trans x2))).trans fy) ru
  have done:∀u s',fR (dM ag) (mY env) [] Av s₁ [] Av s'->bZ s'.heap [] Av v u->Q u s':=λu s' fy ru=>by
   have nQ:=en.back [] Av s' fy;have TX:ja (dM ag) s s':=by refine mO nQ.sh λh kk fC=>?_;subst fC;exact jp h kk rfl (λb o e=>nQ.ke b o e (λh=>by cases h) (λh=>h))
   exact k u s' TX (fv _ _ ι _ _ ru)
  cases c with
  |true=>exact bP _ _ _ b1 he done
  |false=>exact bP _ _ _ b2 he done
theorem Mj{fn:aq}{p pos p':Pos}{g:aN}{args:List Expr}{vs:List V}{op:agH}{re:Expr}{u:V}{b:Bool}{whole:Sem ao}{Q:Bool->ai->Prop}(W:Wx prog w ag mg mb r P)(f:Fx ag r n ι Av st A env sc σ s)(hg:fY P sc σ fn=some (.obj g))(g':b3 P st m sc σ args=some vs)(hf:sb prog w ag r g vs v)
  (hu:ay P st m sc σ re=some u) (hc:jy st op v u=some b) (hm:kB op re=an) (k:∀s',ja (dM ag) s s'->1<=s'.toks->Q b s'):
  ed (az prog w) A (tc (.Compare (.Call (.Name fn p) args [] pos) [op] [re] p') env whole) Q E s:=by
 have H:=r7 W.d m;refine pG (jb (cM (n:=1) f.a.c.tk (gY W.d f.a hg λw' s0 x0 r0 Rg=>?_))) hm;cases r0;have f0:=f.ext x0 Rg;refine gen λGG fN=>?_;refine eA hf λqN uk=>?_;obtain⟨o,fd,ho,hd⟩:=qN;refine fN ?_;refine m7 (o:=o) (fd:=fd) (kP (H.Ay g' f0.a.any).1 (H.tX g' f0.a.any λws s1 x1 gg rs=>?_));have f1:=f0.ext x1 gg;refine⟨⟨f1.a.c.kp _ _ ho,hd⟩,zj (n:=1) gg (uk ι Av A s1 ws _ _ (f1.a.c.less (bo _)) f1.a.S.av rs λy s2 x2 r2 po=>?_)⟩;have f2:=f1.ext x2 po;refine(H.ev hu f2.a.any).go λz s3 x3 Jq r3=>?_;have f3:=f2.ext x3 Jq;refine cM (n:=1) Jq (uG f3.a.S (by have:=f3.a.c.A8;exact VT this) hc (r2.ext x3.heap) r3 (λRf=>?_));exact xf (k _ ((x0.trans x1).trans (x2.trans x3)) Rf)
theorem C1.TP{f1 f2:aq}{g1 g2:aN}{q1 q2 q3 q4 q5 q6 q7 q8:Pos}{a1 a2:List Expr}{vs1 vs2:List V}{v1 v2 u1 u2:V}{e1 e2:Expr}{body orelse:List cy}{out:ga}(W:Wx prog w ag mg mb r P)
  (hg1:fY P sc σ f1=some (.obj g1)) (hv1:b3 P st m sc σ a1=some vs1) (hf1:sb prog w ag r g1 vs1 v1) (hu1:ay P st m sc σ e1=some u1) (MZ:jy st .NotEq v1 u1=some an) (Ju:kB .NotEq e1=an)
  (hg2:fY P sc σ f2=some (.obj g2)) (hv2:b3 P st m sc σ a2=some vs2) (hf2:sb prog w ag r g2 vs2 v2) (hu2:ay P st m sc σ e2=some u2) (DC:jy st .NotEq v2 u2=some an) (hm2:kB .NotEq e2=an)
  (k:CS prog w ag r sc orelse σ st out):
  C1 prog w ag r sc (.If (.BoolOp .Or [.Compare (.Call (.Name f1 q1) a1 [] q2) [.NotEq] [e1] q3,.Compare (.Call (.Name f2 q4) a2 [] q5) [.NotEq] [e2] q6] q7) body orelse q8) σ st out:=λn ι Av A env s ot f=>by
 refine F' (pO (Mj W f hg1 hv1 hf1 hu1 MZ Ju λs1 x1 gg=>?_));have fx1:=f.ext x1 gg;refine pO (Mj W fx1 hg2 hv2 hf2 hu2 DC hm2 λs2 x2 po=>?_);have fx2:=fx1.ext x2 po;refine .of (isTrue_or_nil ?_);exact cD (k n ι Av A env s2 ot fx2) (λfl s3 d=>d.from (.c7 (x1.trans x2))) λ_ _ z=>z
set_option tactic.hygienic true in
theorem sb.list{a:aN}{ps:List Str}{body:List cy}{scope:jm}{vs us:List V}{l:Nat}{cR:Sg}{eJ:St}(D:lE ag a ps body scope)(iO:ag.NoLimit)(La:yR vs)(hlen:vs.length=ps.length)(tF:eJ[l]?=some us)(fus:yR us)
  (h:CS prog w ag r scope.names body (ps.zip vs) [] (.ret (.loc l),cR,eJ)):sb prog w ag (r+1) a vs (.lst us):=by
 have C:=AX.def D iO hlen (v:=.loc l) rfl h;refine⟨C.1,λι Av A s ws E Q c kH rs k=>?_⟩;have S:kZ [] Av [] s.heap:=⟨kH,(λb hb=>by cases hb),fG,rfl,(λl vs q=>by cases l<;>cases q)⟩;refine C.2 [] Av A s ws E Q c S (λb hb=>by cases hb) (La _ _ _ _ _ rs) λu s' db df fy c' S' i' ru=>?_;have TX:ja (dM ag) s s':=by refine mO fy.sh λh kk fC=>?_;subst fC;exact jp h kk rfl (λb o e=>fy.ke b o e (λh=>by cases h) (λh=>h))
 refine k u s' TX ?_
 cases ru with
 |loc hi=>
  rename_i a';refine cU (S'.at_ l us tF) λb kC hb hp hz rs'=>?_;cases kM hi hb;have sK:s.heap.get? a'=ah:=(fy.v5 a' (aX hi)).elim (λq=>by cases q) id;have hna:a'∉Av:=λq=>by refine eE (kH _ q) λo e=>?_;rw[sK]at e;cases e
  exact .lst hp hna hz ((fus _ _ ι _ _ rs').mono fy.sub)
end
noncomputable def wl.ps(f:wl):List aq:=f.params.args.map (·.arg)
structure lQ(K:ph)(a c:aN)(f:wl):Prop where
 fn:∃pm jd,K.lookup a=some {cls:=.type "function",data:=.func (fg f.name f.params f.body f.scope pm (.ref c) jd)}
 cd:∃vs t,K.lookup c=some {cls:=.type "code",data:=.fields vs}/\vs[1]?=some (.str f.name t)
structure xe(f:wl):Prop where
 bind:∀(pm cd jd:ao) (ws:List ao),ws.length=f.ps.length->lG (fg f.name f.params f.body f.scope pm cd jd) ⟨ws,[]⟩=pure (f.ps.zip ws)
 co:f.scope.isCoroutine=an
 gen:f.scope.isGenerator=an
 kind:f.scope.kind=.function
 nd:f.ps.Nodup
 pk:∀p∈f.ps,f.scope.names.lookup p=some .local\/f.scope.names.lookup p=some .cell
 yb:∀p∈f.scope.names,p.2≠.free
theorem lQ.at{K:ph}{ag:ca}{a c:aN}{f:wl}(F:lQ K a c f)(X:K.In ag)(O:xe f):lE ag a f.ps f.body f.scope:=by refine mO F.fn λpm jd h1=>iw F.cd λvs t h2 h3=>?_;exact⟨⟨f.name,f.params,pm,.ref c,jd,_,X _ _ h1,rfl,⟨c,_,vs,t,rfl,X _ _ h2,rfl,h3⟩,λws h=>O.bind pm _ jd ws h⟩,O.co,O.gen,O.kind,O.nd,O.pk,O.yb⟩
theorem Ku{α:Type}{l:List α}{n:Nat}(h:l.length=n+1):∃a t,l=a::t/\t.length=n:=by
 rcases l with _|⟨a,t⟩
 ·exact Nat.noConfusion h
 ·exact⟨a,t,rfl,alo h⟩
theorem Kv{α:Type}{l:List α}(h:l.length=1):∃a,l=[a]:=(Ku h).elim λa q=>q.elim λ_ e=>⟨a,e.1.trans (congrArg _ (b4 e.2))⟩
theorem Tp{α:Type}{l:List α}(h:l.length=2):∃a b,l=[a,b]:=(Ku h).elim λa q=>q.elim λ_ e=>(Kv e.2).elim λb d=>⟨a,b,e.1.trans (congrArg _ d)⟩
theorem To{α:Type}{l:List α}(h:l.length=3):∃a b c,l=[a,b,c]:=(Ku h).elim λa q=>q.elim λ_ e=>(Tp e.2).elim λb q=>q.elim λc d=>⟨a,b,c,e.1.trans (congrArg _ d)⟩
theorem acF{α:Type}{l:List α}(h:l.length=4):∃a b c d,l=[a,b,c,d]:=(Ku h).elim λa q=>q.elim λ_ e=>(To e.2).elim λb q=>q.elim λc q=>q.elim λd f=>⟨a,b,c,d,e.1.trans (congrArg _ f)⟩
theorem nD{f:wl}{p1:aq}(h:f.ps=[p1])(hb:∀(pm cd jd:ao) (a:ao),lG (fg f.name f.params f.body f.scope pm cd jd) ⟨[a],[]⟩=pure [(p1,a)]):
  ∀(pm cd jd:ao) (ws:List ao),ws.length=f.ps.length->lG (fg f.name f.params f.body f.scope pm cd jd) ⟨ws,[]⟩=pure (f.ps.zip ws):=λpm cd jd ws hw=>by
 rw[h]at hw⊢;refine(Kv hw).elim λa q=>am q (hb pm cd jd a)
theorem Nr{f:wl}{p1 p2:aq}(h:f.ps=[p1,p2])(hb:∀(pm cd jd:ao) (a b:ao),lG (fg f.name f.params f.body f.scope pm cd jd) ⟨[a,b],[]⟩=pure [(p1,a),(p2,b)]):
  ∀(pm cd jd:ao) (ws:List ao),ws.length=f.ps.length->lG (fg f.name f.params f.body f.scope pm cd jd) ⟨ws,[]⟩=pure (f.ps.zip ws):=λpm cd jd ws hw=>by
 rw[h]at hw⊢;refine(Tp hw).elim λa q=>q.elim λb q=>am q (hb pm cd jd a b)
theorem D4{f:wl}{p1 p2 p3:aq}(h:f.ps=[p1,p2,p3])(hb:∀(pm cd jd:ao) (a b c:ao),lG (fg f.name f.params f.body f.scope pm cd jd) ⟨[a,b,c],[]⟩=pure [(p1,a),(p2,b),(p3,c)]):
  ∀(pm cd jd:ao) (ws:List ao),ws.length=f.ps.length->lG (fg f.name f.params f.body f.scope pm cd jd) ⟨ws,[]⟩=pure (f.ps.zip ws):=λpm cd jd ws hw=>by
 rw[h]at hw⊢;refine(To hw).elim λa q=>q.elim λb q=>q.elim λc q=>am q (hb pm cd jd a b c)
theorem Vk{f:wl}{p1 p2 p3 p4:aq}(h:f.ps=[p1,p2,p3,p4])(hb:∀(pm cd jd:ao) (a b c d:ao),lG (fg f.name f.params f.body f.scope pm cd jd) ⟨[a,b,c,d],[]⟩=pure [(p1,a),(p2,b),(p3,c),(p4,d)]):
  ∀(pm cd jd:ao) (ws:List ao),ws.length=f.ps.length->lG (fg f.name f.params f.body f.scope pm cd jd) ⟨ws,[]⟩=pure (f.ps.zip ws):=λpm cd jd ws hw=>by
 rw[h]at hw⊢;refine(acF hw).elim λa q=>q.elim λb q=>q.elim λc q=>q.elim λd q=>am q (hb pm cd jd a b c d)
theorem ok4:xe (dc 4):=⟨nD rfl (λ_ _ _ _=>by lia),by decide+kernel,by decide+kernel,by decide+kernel,by decide+kernel,by decide+kernel,by decide+kernel⟩
theorem ok6:xe (dc 6):=⟨D4 rfl (λ_ _ _ _ _ _=>by lia),by decide+kernel,by decide+kernel,by decide+kernel,by decide+kernel,by decide+kernel,by decide+kernel⟩
theorem ok7:xe (dc 7):=⟨D4 rfl (λ_ _ _ _ _ _=>by lia),by decide+kernel,by decide+kernel,by decide+kernel,by decide+kernel,by decide+kernel,by decide+kernel⟩
theorem Kb:xe (dc 12):=⟨Nr rfl (λ_ _ _ _ _=>by lia),by decide+kernel,by decide+kernel,by decide+kernel,by decide+kernel,by decide+kernel,by decide+kernel⟩
theorem SQ:xe (dc 13):=⟨nD rfl (λ_ _ _ _=>by lia),by decide+kernel,by decide+kernel,by decide+kernel,by decide+kernel,by decide+kernel,by decide+kernel⟩
theorem XX:xe (dc 16):=⟨nD rfl (λ_ _ _ _=>by lia),by decide+kernel,by decide+kernel,by decide+kernel,by decide+kernel,by decide+kernel,by decide+kernel⟩
theorem XW:xe (dc 17):=⟨nD rfl (λ_ _ _ _=>by lia),by decide+kernel,by decide+kernel,by decide+kernel,by decide+kernel,by decide+kernel,by decide+kernel⟩
theorem XV:xe (dc 18):=⟨nD rfl (λ_ _ _ _=>by lia),by decide+kernel,by decide+kernel,by decide+kernel,by decide+kernel,by decide+kernel,by decide+kernel⟩
theorem XU:xe (dc 19):=⟨nD rfl (λ_ _ _ _=>by lia),by decide+kernel,by decide+kernel,by decide+kernel,by decide+kernel,by decide+kernel,by decide+kernel⟩
theorem XT:xe (dc 20):=⟨nD rfl (λ_ _ _ _=>by lia),by decide+kernel,by decide+kernel,by decide+kernel,by decide+kernel,by decide+kernel,by decide+kernel⟩
theorem XS:xe (dc 22):=⟨nD rfl (λ_ _ _ _=>by lia),by decide+kernel,by decide+kernel,by decide+kernel,by decide+kernel,by decide+kernel,by decide+kernel⟩
theorem XR:xe (dc 23):=⟨nD rfl (λ_ _ _ _=>by lia),by decide+kernel,by decide+kernel,by decide+kernel,by decide+kernel,by decide+kernel,by decide+kernel⟩
theorem XQ:xe (dc 24):=⟨Nr rfl (λ_ _ _ _ _=>by lia),by decide+kernel,by decide+kernel,by decide+kernel,by decide+kernel,by decide+kernel,by decide+kernel⟩
theorem SP:xe (dc 25):=⟨D4 rfl (λ_ _ _ _ _ _=>by lia),by decide+kernel,by decide+kernel,by decide+kernel,by decide+kernel,by decide+kernel,by decide+kernel⟩
theorem Oo:xe (dc 26):=⟨Vk rfl (λ_ _ _ _ _ _ _=>by lia),by decide+kernel,by decide+kernel,by decide+kernel,by decide+kernel,by decide+kernel,by decide+kernel⟩
theorem XO:xe (dc 27):=⟨nD rfl (λ_ _ _ _=>by lia),by decide+kernel,by decide+kernel,by decide+kernel,by decide+kernel,by decide+kernel,by decide+kernel⟩
theorem XN:xe (dc 28):=⟨D4 rfl (λ_ _ _ _ _ _=>by lia),by decide+kernel,by decide+kernel,by decide+kernel,by decide+kernel,by decide+kernel,by decide+kernel⟩
theorem XM:xe (dc 29):=⟨nD rfl (λ_ _ _ _=>by lia),by decide+kernel,by decide+kernel,by decide+kernel,by decide+kernel,by decide+kernel,by decide+kernel⟩
theorem XK:xe (dc 30):=⟨nD rfl (λ_ _ _ _=>by lia),by decide+kernel,by decide+kernel,by decide+kernel,by decide+kernel,by decide+kernel,by decide+kernel⟩
noncomputable def yz:List (aq×aN):=[(aJ "_twin_re_1",36),(aJ "_ver_stages",37),(aJ "_comparable_version",44),(aJ "rgb_to_hsv",51),(aJ "hsv_to_rgb",58),(aJ "error_reply",81),(aJ "error_proto",93),(aJ "parse229",102),(aJ "parse257",109),
 (aJ "_escape_cdata",123),(aJ "_escape_attrib",130),(aJ "_escape_attrib_html",137),(aJ "_escape_cdata_c14n",144),(aJ "_escape_attrib_c14n",151),(aJ "_law_deeds",158),(aJ "_law_hands",163),(aJ "_law_spelled",168),(aJ "_law_read",175),(aJ "_law_hear",180),
 (aJ "_law_due",185),(aJ "_law_whole",190),(aJ "_law_run",195),(aJ "law",202)]
noncomputable def ud:List aq:=aJ "ValueError"::lA
noncomputable def Bn:List (aq×Int):=[(aJ "dev",10),(aJ "alpha",20),(aJ "a",20),(aJ "beta",30),(aJ "b",30),(aJ "c",40),(aJ "RC",50),(aJ "rc",50),(aJ "pl",200),(aJ "p",200)]
noncomputable def Gh:List (pd×pd):=Bn.map λp=>(alk p.1,eP p.2)
noncomputable def uy(es:Array A6):Bool:=es.toList.all λe=>match e.key with
 |.str _ _=>aj
 |_=>an
structure WP(K:ph)(P:aky):Prop where
 f44:lQ K 44 43 (dc 4)
 f51:lQ K 51 50 (dc 6)
 f58:lQ K 58 57 (dc 7)
 It:lQ K 102 101 (dc 12)
 Px:lQ K 109 108 (dc 13)
 U9:lQ K 123 122 (dc 16)
 U8:lQ K 130 129 (dc 17)
 U7:lQ K 137 136 (dc 18)
 U6:lQ K 144 143 (dc 19)
 U5:lQ K 151 150 (dc 20)
 U4:lQ K 158 157 (dc 22)
 U3:lQ K 163 162 (dc 23)
 U2:lQ K 168 167 (dc 24)
 Pw:lQ K 175 174 (dc 25)
 Ll:lQ K 180 179 (dc 26)
 U1:lQ K 185 184 (dc 27)
 U0:lQ K 190 189 (dc 28)
 UZ:lQ K 195 194 (dc 29)
 names:∃o es n,K.lookup 3=some o/\o.data=.dict es n/\(yz.all λp=>aeo es p.1==some (.ref p.2))=aj/\(ud.all λx=>aeo es x==ah)=aj
 pat:∃fs,K.lookup 36=some {cls:=.type "re.Pattern",data:=.fields fs}/\ak' (fs.getD 6 .none)=0/\ak' (fs.getD 2 .none)=1/\fs.getD 5 .none=.ref 35
 code:∃oc cs k,K.lookup 35=some oc/\oc.data=.seq cs k/\(cs.map Builtin.Re.reRawOf).map (·.toNat)=bE
 tS:∃es:List A6,K.lookup 37=some {cls:=.type "dict",data:=.dict es.toArray 10}/\es.map (λe=>(e.hash,e.key,e.val))=(Bn.zipIdx.map λp=>(ajO P p.1.1,akl p.1.1 (331+2*p.2),aep p.1.2 (332+2*p.2)))
 c81:∃nm q N bs bm hdct sn sub ab col dd k0 k1 k2 k3 k5 o es n,K.lookup 81=some (excClassObj nm q 81 N bs bm hdct sn sub ab col dd k0 k1 k2 k3 k5 "Exception.__new__")/\K.lookup N=some o/\o.data=.dict es n/\aeo es "__init__"=ah/\uy es=aj/\bm=[.ref 68,.type "Exception",.type "BaseException",.type "object"]
 c93:∃nm q N bs bm hdct sn sub ab col dd k0 k1 k2 k3 k5 o es n,K.lookup 93=some (excClassObj nm q 93 N bs bm hdct sn sub ab col dd k0 k1 k2 k3 k5 "Exception.__new__")/\K.lookup N=some o/\o.data=.dict es n/\aeo es "__init__"=ah/\uy es=aj/\bm=[.ref 68,.type "Exception",.type "BaseException",.type "object"]
 c68:∃cl dd cd sl o es n,K.lookup 68=some {cls:=cl,dict:=dd,data:=.cls cd,slots:=sl}/\K.lookup cd.ns=some o/\o.data=.dict es n/\aeo es "__init__"=ah/\uy es=aj
 h11:A1 K (.ref 81) (.ref 81)=some aj
 h21:A1 K (.ref 93) (.ref 81)=some an
 h22:A1 K (.ref 93) (.ref 93)=some aj
 h31:A1 K (.type "ValueError") (.ref 81)=some an
 WB:A1 K (.type "ValueError") (.ref 93)=some an
 h33:A1 K (.type "ValueError") (.type "ValueError")=some aj
 s1:akX K (.ref 81) "__str__"=some (some (.builtin "BaseException.__str__"))
 s2:akX K (.ref 93) "__str__"=some (some (.builtin "BaseException.__str__"))
 b1:subIn K (.ref 81) (.type "BaseException")=some aj
 b2:subIn K (.ref 93) (.type "BaseException")=some aj
structure Wo(K:ph)(w:bz)(ag:ca)(mg mb:aq->Option ao):Prop where
 X:K.In ag
 L:WP K w.params
 g:ag.Ns agB mg
 b:ag.Ns builtinsNs mb
 bu:∀x:aq,x≠"__name__"->mb x=hZ x
 lim:ag.NoLimit
noncomputable def G0(x:aq):Option V:=(yz.lookup x).map V.obj
noncomputable def MK(Fa:aN->List V->Option V):pD:=⟨G0,Fa,WF 36 bE,λ_ _ _=>ah,λc=>c==81||c==93⟩
noncomputable def gL:aN->List V->Option V:=λ_ _=>ah
noncomputable abbrev P0:pD:=MK gL
section
variable{K:ph}{w:bz}{r:Nat}
theorem MF{o:Obj}{es:Array A6}{n:Nat}{a:aN}{m:aq->Option ao}(hn:ag.Ns a m)(ho:ag.get? a=some o)(hd:o.data=.dict es n)(x:aq):m x=aeo es x:=by refine rK hn λo' es' ep l4 j7 _ hf=>?_;cases kM ho l4;rw[hd]at j7;cases j7;exact(hf x).symm
theorem Wo.name(O:Wo K w ag mg mb){x:aq}{a:aN}(h:(x,a)∈yz):mg x=some (.ref a):=by refine rK O.L.names λo es n ho hd h1 _=>am (MF O.g (O.X _ _ ho) hd x) ?_;have:=aT.mp h1 _ h;exact cw.mp this
theorem Wo.free(O:Wo K w ag mg mb){x:aq}(h:x∈ud):mg x=ah:=by refine rK O.L.names λo es n ho hd _ h1=>am (MF O.g (O.X _ _ ho) hd x) ?_;have:=aT.mp h1 _ h;exact cw.mp this
theorem uz{α β:Type}[BEq α][LawfulBEq α]{x:α}{b:β}:∀{l:List (α×β)},l.lookup x=some b->(x,b)∈l
 |[],h=>by cases h
 |(y,c)::l,h=>by
  rw[dr]at h;split at h
  ·rename_i e;cases au h;rw[eq_of_beq e];exact .head _
  ·exact .tail _ (uz h)
theorem Wo.pat(O:Wo K w ag mg mb):Nx ag 36 bE:=by refine w1 O.L.pat λfs h1 h2 h3 h4=>gN O.L.code λoc cs k h5 h6 h7=>?_;exact⟨_,fs,35,oc,cs,k,O.X _ _ h1,rfl,rfl,rfl,h2,h3,h4,O.X _ _ h5,h6,h7⟩
theorem sB{o:Obj}{es:Array A6}{n:Nat}{a:aN}{x:aq}(ho:ag.get? a=some o)(hd:o.data=.dict es n)(hs:StrKeys es)(hx:aeo es x=ah):∃m,ag.Ns a m/\m x=ah:=
 ⟨λy=>aeo es y,⟨o,es,n,ho,hd,hs,λ_=>rfl⟩,hx⟩
set_option tactic.hygienic true in
theorem oj{es:Array A6}(h:Mine.uy es=aj):StrKeys es:=λe he=>by
 have:=aT.mp h e (by simpa using he);split at this
 ·rename_i n t hk;exact Cb n t hk
 ·exact bB this
theorem Wo.own(O:Wo K w ag mg mb):∀c,(c==81||c==93)=aj->∃x,OwnCls x c [.type "Exception",.type "BaseException",.type "object"] "Exception.__new__" mg ag:=by
 have tail:OwnTail ag [.type "Exception",.type "BaseException",.type "object"] [.ref 68,.type "Exception",.type "BaseException",.type "object"]:=by refine gen λGG fN=>?_;obtain⟨cl,dd,cd,sl,o,es,n,h1,h2,h3,h4,h5⟩:=O.L.c68;refine fN ?_;exact cW (sB (O.X _ _ h2) h3 (oj h5) h4) λm hm hi=>.own (O.X _ _ h1) hm hi .base
 intro c hc;rcases gP.mp hc with hc|hc
 ·obtain rfl:=eq_of_beq hc;refine gen λGG fN=>?_;obtain⟨nm,q,N,bs,bm,hdct,sn,sub,ab,col,dd,k0,k1,k2,k3,k5,o,es,n,h1,h2,h3,h4,h5,rfl⟩:=O.L.c81;refine fN ?_;exact cW (sB (O.X _ _ h2) h3 (oj h5) h4) λm hm hi=>⟨aJ "error_reply",O.name (by simp[yz]),_,N,nm,q,bs,hdct,sn,sub,ab,col,dd,k0,k1,k2,k3,k5,m,O.X _ _ h1,hm,hi,tail⟩
 ·obtain rfl:=eq_of_beq hc;refine gen λGG fN=>?_;obtain⟨nm,q,N,bs,bm,hdct,sn,sub,ab,col,dd,k0,k1,k2,k3,k5,o,es,n,h1,h2,h3,h4,h5,rfl⟩:=O.L.c93;refine fN ?_;exact cW (sB (O.X _ _ h2) h3 (oj h5) h4) λm hm hi=>⟨aJ "error_proto",O.name (by simp[yz]),_,N,nm,q,bs,hdct,sn,sub,ab,col,dd,k0,k1,k2,k3,k5,m,O.X _ _ h1,hm,hi,tail⟩
theorem Wo.wx(O:Wo K w ag mg mb){Fa:aN->List V->Option V}(h:yS prog w ag r Fa):Wx prog w ag mg mb r (MK Fa)where
 d:={
  g:=O.g
  b:=O.b
  bu:=O.bu
  gl:=λx v hx=>by refine cW (zh hx) λa ha fC=>?_;subst fC;exact jW a rfl (O.name (uz ha))
  fre:=λx hx=>O.free (.tail _ hx)
  fa:=h
  fm:=Ps O.pat
  sr:=zK prog w}
 fs:=λa vs st v eJ q=>by exact bM q
 rs:=So PySem.F.excBase_Exception O.own
theorem Fo:yS prog w ag r gL:=λa vs v q=>by exact bM q
theorem Wo.pF(O:Wo K w ag mg mb):Wx prog w ag mg mb r P0:=O.wx Fo
theorem ER{P:bz}(tab:List (aq×Int)):∀(i:Nat) (es:List A6),es.map (λe=>(e.hash,e.key,e.val))=((tab.zipIdx i).map λp=>(ajO P.params p.1.1,akl p.1.1 (331+2*p.2),aep p.1.2 (332+2*p.2)))->
  (∀e∈es,∃k,(strKind prog P).is k e.key=aj/\e.hash=(strKind prog P).hash k)/\∃MM,Pairs (strKind prog P) es MM/\PyProof.V.FlatPairs alk MM (tab.map λp=>(alk p.1,eP p.2))/\MM.map (·.1)=tab.map (·.1):=by
 induction tab with
 |nil=>
  intro i es h;rcases es with _|_
  ·exact MQ (λe he=>bV he bA) ([]) .nil .nil rfl
  ·cases h
 |cons xn tab IH=>
  intro i es h;rcases xn with⟨x,n⟩;rcases es with _|⟨e,es⟩
  ·cases h
  simp only[List.zipIdx_cons,aY,akN,ak7]at h;obtain⟨⟨h1,h2,h3⟩,h4⟩:=h;refine Nm (IH (i+1) es h4) λk1 MM k2 k3 k4=>?_;have hk:(strKind prog P).is x e.key=aj:=by refine am h2 ?_;exact strKind_is prog P x _
  refine MQ (λe' he=>?_) ((x,.int n (332+2*i))::MM) (.cons hk h3 k2) (.cons (.int _ _) k3) (by simp[k4]);rcases ax.mp he with rfl|he
  ·exact jW x hk h1
  ·exact k1 e' he
theorem Wo.tS(O:Wo K w ag mg mb):StrTab prog w ag 37 Gh:=by refine cW O.L.tS λes h1 h2=>Nm (ER (prog:=prog) (P:=w) Bn 0 es h2) λk1 MM k2 k3 k4=>?_;refine acS (by decide+kernel) MM ⟨_,es.toArray,10,O.X _ _ h1,⟨rfl,rfl,rfl⟩,rfl,λe he=>k1 e (by simpa using he),by simpa using k2,?_⟩ k3;refine am k4 ?_;decide+kernel
end
section
variable{vM:List aN}{h:ca}
theorem Lb{f:V->Option V}(hf:∀v v',f v=some v'->vr v'=aj)(vs:List V):∀us:List V,vs.mapM f=some us->jX us=aj:=by
 induction vs with
 |nil=>exact λus e=>Do e▸rfl
 |cons v vs ih=>exact λus e=>Dn e λu q hu hq e=>e▸(bv.mpr ⟨hf v u hu,ih q hq⟩:(vr u&&jX q)=aj)
theorem Ie(k:Nat):∀(v v':V),ek st k v=some v'->vr v'=aj:=by
 induction k with
 |zero=>exact λ_ _ e=>bM e
 |succ k ih=>
  intro v v' e;have L:∀{vs us:List V},vs.mapM (ek st k)=some us->jX us=aj:=λh=>Lb ih _ _ h;rcases v with _|b|i|x|s|vs|vs|l|a|vs
  ·exact au e▸rfl
  ·exact au e▸rfl
  ·exact au e▸rfl
  ·exact au e▸rfl
  ·exact au e▸rfl
  ·exact fz e λus hu q=>q▸(L hu:vr (.tup us)=aj)
  ·exact fz e λus hu q=>q▸(L hu:vr (.lst us)=aj)
  ·revert e;show(match st[l]?with|some vs=>_|ah=>_)=_->_;generalize st[l]?=o;rcases o with _|vs
   ·exact bM
   ·exact λe=>fz e λus hu q=>q▸(L hu:vr (.lst us)=aj)
  ·exact au e▸rfl
  ·exact fz e λus hu q=>q▸(L hu:vr (.qo us)=aj)
end
noncomputable def J1(P:pD)(m:Nat)(ps:List aq)(sc:Sc)(body:List cy)(vs:List V):Option V:=
 if vs.length=ps.length/\jX vs=aj then(bW P m sc (ps.zip vs) [] body).bind λout=>(Lq out.1).bind (ek out.2.2 8)else ah
section
variable{w:bz}{r:Nat}
theorem ii{a:aN}{ps:List aq}{body:List cy}{scope:jm}{vs:List V}{v:V}{m:Nat}(W:Wx prog w ag mg mb r P)(D:lE ag a ps body scope)(iO:ag.NoLimit)(h:J1 P m ps scope.names body vs=some v):Cl prog w ag (r+1) a vs v:=by
 unfold J1 at h;split at h
 ·rename_i hc;refine cW (pn h) λout hx h=>cW (pn h) λv0 hv h=>?_;refine⟨?_,λι Av A s ws E Q c kH rs k=>?_⟩
  ·exact kX D.ex λ_ _ _ _ _ o ho hd _=>jp o _ ho hd
  ·have S:kZ [] Av [] s.heap:=⟨kH,(λb hb=>by cases hb),fG,rfl,(λl vs q=>by cases l<;>cases q)⟩;refine PA W D iO c S (λb hb=>by cases hb) (ik vs hc.2 _ _ _ _ _ rs) hc.1 hx hv λu s' db df fy c' S' i' ru=>?_;have TX:ja (dM ag) s s':=by refine mO fy.sh λh kk fC=>?_;subst fC;exact jp h kk rfl (λb o e=>fy.ke b o e (λh=>by cases h) (λh=>h))
   have hi:∀a'∈db,a'∉Av:=λa' ha q=>by have sK:s.heap.get? a'=ah:=(fy.v5 a' ha).elim (λq=>by cases q) id;refine eE (kH _ q) λo e=>?_;rw[sK]at e;cases e
   exact k u s' TX (Cq v (Ie _ _ _ h) _ _ _ _ _ (Ar S' fy.sub hi 8 v0 v u h ru))
 ·exact bM h
end
noncomputable def rg(k:Nat)(Fa:aN->List V->Option V)(vs:List V):Option V:=J1 (MK Fa) 60 (dc k).ps (dc k).scope.names (dc k).body vs
set_option tactic.hygienic true
set_option tactic.hygienic false
section
open Builtin.Str
noncomputable abbrev sg(x:aq):List Nat:=x.cps.toList
noncomputable abbrev mk(l:List Nat):aq:=⟨l.toArray⟩
theorem lp(x:aq):mk (sg x)=x:=by cases x;simp
theorem gp(l:List Nat):sg (mk l)=l:=by simp
theorem dX(x:aq):(sg x).length=x.length:=iS
theorem pu(h:sg x=sg y):x=y:=jj (lp x) (jj (lp y) (am h rfl))
theorem uP(x y:aq):sg (x++y)=sg x++sg y:=Array.toList_append
theorem PV(a b:List Nat):mk a++mk b=mk (a++b):=pu (by rw[uP,gp,gp,gp])
noncomputable def rh(c:Nat):Nat->Nat->List Nat->List Nat
 |0,_,_=>[]
 |_+1,_,[]=>[]
 |lim+1,i,x::r=>if x=c then i::rh c lim (i+1) r else rh c (lim+1) (i+1) r
theorem Op(s:aq)(c limit:Nat)(n:Nat):∀(lo free:Nat) (iN:Array Nat),lo+n=s.length+1->free<=lo->
  (forIn (NC lo n) (iN,free) (alZ s ⟨#[c]⟩ s.length limit)).run.fst.toList=iN.toList++rh c (limit-iN.size) lo ((sg s).drop lo):=by
 induction n with
 |zero=>
  exact λlo free iN hn _=>by have:(sg s).drop lo=[]:=dz (by rw[dX];exact(dp _ _ 1 V0 V1 (D1 (S1 V0) (.p V1 (.k 0)) .n) rfl (ac hn.symm)));refine am this ?_;cases h:limit-iN.size<;>simp[rh]
 |succ n IH=>
  exact λlo free iN hn hf=>by
   rw[L8,Qp];have key:=StrLaws.subAt_one s c lo;unfold alZ;by_cases Un:lo<s.length
   ·have gE:lo<(sg s).length:=by rw[dX];exact Un
    obtain⟨y,hy⟩:∃y,(sg s)[lo]?=some y:=⟨_,aC gE⟩;have hd:(sg s).drop lo=y::(sg s).drop (lo+1):=by replace hy:=(aC gE)▸hy;have qq:=au hy;subst qq;exact fU gE
    refine am hd ?_;by_cases hl:iN.size<limit
    ·have Ai:limit-iN.size=(limit-iN.size-1)+1:=by exact ZM hl
     by_cases hx:y=c
     ·have h1:=key.mpr (am hy (am hx rfl));refine am (aP ⟨⟨⟨hl,hf⟩,h1.1⟩,h1.2⟩) ?_;have ih:=IH (lo+1) (lo+1) (iN.push lo) (VS hn) (aD _);refine ih.trans ?_;rw[Ai,rh,aP hx,tQ,br,Array.size_push];simp only[ajD];congr 2
     ·have h1:¬(((iN.size<limit/\free<=lo)/\lo+(⟨#[c]⟩:aq).length<=s.length)/\subAt s ⟨#[c]⟩ lo=aj):=λh=>by have:=key.mp ⟨h.1.2,h.2⟩;replace this:=hy▸this;exact hx (xk this)
      refine am (bg h1) ?_;have ih:=IH (lo+1) free iN (VS hn) (o2 hf);refine ih.trans ?_;rw[Ai,rh,bg hx]
    ·have h1:¬(((iN.size<limit/\free<=lo)/\lo+(⟨#[c]⟩:aq).length<=s.length)/\subAt s ⟨#[c]⟩ lo=aj):=λh=>hl h.1.1.1;refine am (bg h1) ?_;have ih:=IH (lo+1) free iN (VS hn) (o2 hf);refine ih.trans ?_;have:limit-iN.size=0:=o99 hl;refine am this ?_;simp[rh]
   ·have h1:¬(((iN.size<limit/\free<=lo)/\lo+(⟨#[c]⟩:aq).length<=s.length)/\subAt s ⟨#[c]⟩ lo=aj):=λh=>by have:=h.1.2;have e:(⟨#[c]⟩:aq).length=1:=rfl;exact ZL h e Un
    refine am (bg h1) ?_;have ih:=IH (lo+1) free iN (VS hn) (o2 hf);refine ih.trans ?_;have e1:(sg s).drop lo=[]:=dz (by rw[dX];exact o30 Un);have e2:(sg s).drop (lo+1)=[]:=dz (by rw[dX];exact(dp _ _ 1 V0 (S1 V1) (D1 V0 V1 .n) rfl (ak Un)));refine am e1 (am e2 ?_);cases h:limit-iN.size<;>simp[rh]
theorem ni(s:aq)(c lo limit:Nat)(h:lo<=s.length+1):occurrences s ⟨#[c]⟩ lo s.length limit=rh c limit lo ((sg s).drop lo):=by rw[StrLaws.occ_eq];have:=Op s c limit (s.length+1-lo) lo lo #[] (ZJ h) (aD _);simpa using this
noncomputable def pK(c:Nat):Nat->List Nat->Option Nat
 |_,[]=>ah
 |i,x::r=>if x=c then some i else pK c (i+1) r
theorem rf(c:Nat)(l:List Nat):∀(i:Nat),rh c 1 i l=(pK c i l).toList:=by
 induction l with
 |nil=>
  exact λ_=>rfl
 |cons x r ih=>
  exact λi=>by
   unfold rh pK;split
   ·simp[rh]
   ·exact ih (i+1)
theorem wV(a:List Nat):∀(i:Nat) (b:List Nat),c∉a->pK c i (a++b)=pK c (i+a.length) b:=by
 induction a with
 |nil=>
  exact λi b _=>by simp
 |cons x a ih=>
  exact λi b h=>by simp only[ax,not_or]at h;show(if x=c then some i else pK c (i+1) (a++b))=_;exact am (bg (λq=>h.1 q.symm)) (am (ih (i+1) b h.2) (am aS (am (show i+1+a.length=i+(a.length+1) by exact o8) rfl)))
theorem wW(a:List Nat):∀(i:Nat),c∉a->pK c i a=ah:=by
 induction a with
 |nil=>
  exact λ_ _=>rfl
 |cons x a ih=>
  exact λi h=>by simp only[ax,not_or]at h;rw[pK];exact am (bg (λq=>h.1 q.symm)) (ih (i+1) h.2)
theorem DK(h:sg x=a++c::b)(ha:c∉a):oZ x ⟨#[c]⟩=(a.length:Int):=by unfold oZ;rw[ni _ _ _ _ o4,iZ,h,rf,wV a 0 _ ha];simp[pK]
theorem Lh(h:c∉sg x):oZ x ⟨#[c]⟩=-1:=by unfold oZ;rw[ni _ _ _ _ o4,iZ,rf,wW _ _ h];rfl
end
section
open Builtin.Str
theorem Ip{x:aq}{c k:Nat}{p a b:List Nat}(h:sg x=p++(a++c::b))(hk:p.length=k)(ha:c∉a):qI x ⟨#[c]⟩ (k:Int)=((k+a.length:Nat):Int):=by
 unfold qI;have hl:x.length=p.length+(a.length+(b.length+1)):=by rw[<-dX,h];simp
 have hi:akk x.length (k:Int)=k:=by unfold akk;rw[bg o1];exact o62
 rw[hi,ni _ _ _ _ (abM hl hk),h,<-hk,ak2,rf,wV a _ _ ha];simp[pK]
theorem Io{x:aq}{c k:Nat}{p a:List Nat}(h:sg x=p++a)(hk:p.length=k)(ha:c∉a):qI x ⟨#[c]⟩ (k:Int)=-1:=by
 unfold qI;have hl:x.length=p.length+a.length:=by rw[<-dX,h];simp
 have hi:akk x.length (k:Int)=k:=by unfold akk;rw[bg o1];exact o62
 rw[hi,ni _ _ _ _ (abL hl hk),h,<-hk,ak2,rf,wW _ _ ha];rfl
noncomputable def je(c:Nat):List Nat->List (List Nat)
 |[]=>[[]]
 |x::r=>if x=c then []::je c r else match je c r with
  |h::t=>(x::h)::t
  |[]=>[[x]]
theorem kT(c:Nat):∀l,∃h t,je c l=h::t
 |[]=>⟨[],[],rfl⟩
 |x::r=>by
  rw[je];refine mO (kT c r) λh t e=>?_;split
  ·exact Cb _ _ rfl
  ·refine am e ?_;exact Cb _ _ rfl
theorem wC{c:Nat}:∀{l:List Nat},c∉l->je c l=[l]
 |[],_=>rfl
 |x::r,h=>by simp only[ax,not_or]at h;rw[je];exact am (bg (λq=>h.1 q.symm)) (am (wC h.2) rfl)
noncomputable def wj(c:Nat):Nat->List Nat->List Nat
 |_,[]=>[]
 |i,x::r=>if x=c then i::wj c (i+1) r else wj c (i+1) r
theorem ow(c:Nat):∀(l:List Nat) (lim i:Nat),l.length<=lim->rh c lim i l=wj c i l
 |[],lim,i,_=>by cases lim<;>rfl
 |x::r,0,i,h=>by simp at h
 |x::r,lim+1,i,h=>by
  simp only[aS]at h;unfold rh wj;split
  ·exact am (ow c r lim (i+1) (o63 h)) rfl
  ·exact am (ow c r (lim+1) (i+1) (by exact dp _ _ 1 V0 (S1 V1) (D1 (S1 V0) (S1 V1) .n) rfl h)) rfl
theorem wA(s:aq)(i j:Nat):sg (strSub s i j)=((sg s).take j).drop i:=by
 unfold strSub;simp only[sg,aj0,List.extract_eq_take_drop];refine am List.take_drop ?_;by_cases h:i<=j
 ·exact am (show i+(j-i)=j by exact o64 h) rfl
 ·exact am (show i+(j-i)=i by exact abK h) (am (dz (by rw[eg];exact gH _ _)) (am (dz (by rw[eg];exact abJ h)) rfl))
theorem Hc(s:aq)(c:Nat)(l:List Nat):∀(i start:Nat) (h:List Nat) (t:List (List Nat)),(sg s).drop i=l->start<=i->i+l.length=s.length->je c l=h::t->
  (((start::(wj c i l).map (·+1)).zip (wj c i l++[s.length])).map λp=>strSub s p.1 p.2)=mk (((sg s).take i).drop start++h)::t.map mk:=by
 induction l with
 |nil=>
  exact λi start h t hd hs hl he=>by cases he;simp only[wj,List.map_nil,Qo,gb,aka,aY,gJ];congr 1;refine pu ?_;rw[wA,gp,<-hl];simp
 |cons x r IH=>
  exact λi start h t hd hs hl he=>by
   have j7:(sg s).drop (i+1)=r:=by refine jj rX ?_;refine am hd ?_;rfl
   have hi:(sg s)[i]?=some x:=by
    have:((sg s).drop i)[0]?=some x:=by rw[hd];rfl
    rw[akc]at this;exact this
   have gE:i<(sg s).length:=(aG.mp hi).1;have T9:(sg s).take (i+1)=(sg s).take i++[x]:=by refine am tO ?_;refine am hi ?_;rfl
   simp only[aS]at hl;rw[je]at he;rw[wj];by_cases hx:x=c
   ·rw[aP hx]at he⊢;cases he;refine mO (kT c r) λh2 t2 e2=>?_;have ih:=IH (i+1) (i+1) h2 t2 j7 (aD _) (o5 hl) e2;simp only[aY,Ma,gb];refine am ih ?_;refine am e2 ?_;simp only[gJ,aY];congr 1
    ·refine pu ?_;rw[wA,gp]
    ·congr 2;have:((sg s).take (i+1)).drop (i+1)=[]:=dz (by simp;exact abI);rw[this,Qo]
   ·rw[bg hx]at he⊢;refine mO (kT c r) λh2 t2 e2=>?_;rw[e2]at he;cases he;have ih:=IH (i+1) start h2 t j7 (o2 hs) (o5 hl) e2;rw[ih];congr 2;rw[T9,ND (by rw[eg];exact abH hs gE),br];rfl
theorem wH(s:aq)(c:Nat):partsBetween s (occurrences s ⟨#[c]⟩ 0 s.length (s.length+1)) 1=(je c (sg s)).map mk:=by refine am (ni _ _ _ _ o4) (am iZ (am (ow _ _ _ _ (by rw[dX];exact V6)) ?_));refine mO (kT c (sg s)) λh t e=>?_;have:=Hc s c (sg s) 0 0 h t rfl (aD _) (by rw[dX];exact abG) e;unfold partsBetween;refine am e ?_;simpa using this
theorem AW{c:Nat}(l:List Nat):∀(i:Nat),wj c i l=[]->c∉l:=by
 induction l with
 |nil=>
  exact λ_ _=>by simp
 |cons x r ih=>
  exact λi h=>by
   rw[wj]at h;split at h
   ·exact nomatch h
   ·rename_i hx;simp only[ax,not_or];exact⟨λq=>hx q.symm,ih (i+1) h⟩
theorem B4{c:Nat}(h:c<256)(x:aq):(decide (eT x<eT ⟨#[c]⟩))=an:=by
 have e:eT ⟨#[c]⟩=1:=by unfold eT;simp[h]
 refine am e ?_;unfold eT;refine aW ?_;split
 ·exact abF
 ·split<;>(first|exact abE|exact abD)
theorem ED{c:Nat}(hc:c<256)(x:aq):nN x ⟨#[c]⟩=(je c (sg x)).map mk:=by
 unfold nN;by_cases h0:x.length<1
 ·have hx:sg x=[]:=b4 (by rw[dX];exact abC h0);have:(decide (x.length<(⟨#[c]⟩:aq).length)||decide (eT x<eT ⟨#[c]⟩))=aj:=by rw[iu];left;exact aU h0
  refine am (aP this) (am hx ?_);show [x]=[mk []];rw[<-hx,lp]
 ·have:¬(decide (x.length<(⟨#[c]⟩:aq).length)||decide (eT x<eT ⟨#[c]⟩))=aj:=by rw[B4 hc,Ef,decide_eq_true_eq];exact h0
  refine am (bg this) ?_;split
  ·rename_i he;have UC:occurrences x ⟨#[c]⟩ 0 x.length (x.length+1)=[]:=L9.mp he;rw[ni _ _ _ _ o4,iZ,ow _ _ _ _ (by rw[dX];exact V6)]at UC;refine am (wC (AW _ _ UC)) ?_;simp[lp]
  ·exact wH x c
noncomputable def iE(c:Nat)(z:List Nat)(l:List Nat):List Nat:=l.flatMap λa=>if a=c then z else [a]
theorem DG(z:aq)(t:List (List Nat)):∀(iN:Array Nat),((t.map mk).foldl (λiN p=>iN++z.cps++p.cps) iN).toList=iN.toList++t.flatMap λp=>sg z++p:=by
 induction t with
 |nil=>
  exact λiN=>by simp
 |cons p t ih=>
  exact λiN=>by simp only[aY,fP];rw[ih];simp
theorem EC(c:Nat)(z:List Nat)(l:List Nat):∀(h:List Nat) (t:List (List Nat)),je c l=h::t->h++t.flatMap (λp=>z++p)=iE c z l:=by
 induction l with
 |nil=>
  exact λh t e=>by cases e;rfl
 |cons x r IH=>
  exact λh t e=>by
   rw[je]at e;refine mO (kT c r) λh2 t2 e2=>?_;have ih:=IH h2 t2 e2;unfold iE at ih⊢;refine am akp ?_;split at e
   ·rename_i hx;cases e;refine am e2 (am (aP hx) (jj ih ?_));simp
   ·rename_i hx;rw[e2]at e;cases e;refine am (bg hx) (jj ih ?_);simp
theorem ue{c:Nat}{z:List Nat}:∀{l:List Nat},c∉l->iE c z l=l
 |[],_=>rfl
 |x::r,h=>by simp only[ax,not_or]at h;have ih:=ue (z:=z) h.2;unfold iE at ih⊢;refine am akp (am (bg (λq=>h.1 q.symm)) (am ih ?_));rfl
theorem n4(x z:aq)(c:Nat):rT x ⟨#[c]⟩ z=mk (iE c (sg z) (sg x)):=by
 unfold rT;have hy:((⟨#[c]⟩:aq).length==0)=an:=rfl;rw[hy,VI,Ef];split
 ·rename_i he;have UC:occurrences x ⟨#[c]⟩ 0 x.length (x.length+1)=[]:=L9.mp he;rw[ni _ _ _ _ o4,iZ,ow _ _ _ _ (by rw[dX];exact V6)]at UC;rw[ue (AW _ _ UC),lp]
 ·have e1:(⟨#[c]⟩:aq).length=1:=rfl;rw[e1,wH];refine mO (kT c (sg x)) λh t e=>?_;rw[e];unfold glued;refine pu ?_;rw[gp,<-EC c (sg z) (sg x) h t e];show(List.foldl (λiN p=>iN++z.cps++p.cps) (mk h).cps (t.map mk)).toList=_;rw[DG]
theorem DD(x:aq)(c:Nat):(!(occurrences x ⟨#[c]⟩ 0 x.length 1).isEmpty)=decide (c∈sg x):=StrLaws.found_one x c
end
section
open Builtin.Str
theorem Eh(a b:Nat):qE (a:Int) (b:Int) 1=(ba (b-a)).map (a+·):=by
 unfold qE;refine am (aP (by decide)) ?_;have hc:((if(a:Int)<(b:Int)then((b:Int)-a+1-1)/1 else 0:Int)).toNat=b-a:=by split<;>simp<;>exact abB (by assumption)
 dsimp only;refine am hc (dN λk _=>?_);exact abA
theorem Im(l:List Nat)(a m:Nat)(f:Nat->Option Nat)(hf:∀i,f i=l[i]?):((ba m).map (a+·)).filterMap f=(l.drop a).take m:=by
 induction m with
 |zero=>simp
 |succ m ih=>
  refine am akM (am d8 (am List.filterMap_append (am ih (am tO (am (akc) ?_)))));simp only[aY,List.map_nil];rw[CQ,hf];cases l[a+m]?<;>simp
theorem ji(x:aq)(lo hi:Option Int)(a b:Nat)(ha:(lo=ah/\a=0)\/lo=some (a:Int))(hb:(hi=ah/\b=x.length)\/hi=some (b:Int)):c5 x lo hi=mk (((sg x).take b).drop a):=by
 have Aj:strSliceIndices lo hi 1 x.length=(ba (min b x.length-min a x.length)).map (min a x.length+·):=by
  rw[<-Eh];unfold strSliceIndices;rcases ha with⟨rfl,rfl⟩|rfl<;>rcases hb with⟨rfl,rfl⟩|rfl
  ·show qE 0 _ 1=_;simp
  ·show qE 0 (max 0 (min (if(b:Int)<0 then _ else _) _)) 1=_;refine am (bg o1) ?_;congr 1;exact o17
  ·show qE (max 0 (min (if(a:Int)<0 then _ else _) _)) _ 1=_;refine am (bg o1) ?_;congr 1
   ·exact o17
   ·simp
  ·show qE (max 0 (min (if(a:Int)<0 then _ else _) _)) (max 0 (min (if(b:Int)<0 then _ else _) _)) 1=_;refine am (bg o1) (am (bg o1) ?_);congr 1<;>exact o17
 have hfm:(strSliceIndices lo hi 1 x.length).filterMap (x.cps[·]?)=((sg x).take b).drop a:=by
  refine am Aj (am (Im (sg x) _ _ _ (λi=>by simp[sg])) ?_);have hlen:(sg x).length=x.length:=dX x;refine jj List.drop_take ?_;have e1:(sg x).take (min b x.length)=(sg x).take b:=by
   by_cases h2:b<=x.length
   ·exact am (jD h2) rfl
   ·exact am (kF (VY h2)) (am (ef (by exact dp _ _ 1 V0 V1 (D1 V0 V1 .n) rfl (ac hlen))) (am (ef (by exact fM _ _ _ 1 V0 V2 (D1 V0 V1 (D1 (S1 V1) V2 .n)) rfl (ac hlen) (aZ h2))) rfl))
  refine am e1 ?_;by_cases h1:a<=x.length
  ·exact am (jD h1) rfl
  ·exact am (kF (VY h1)) (am (dz (by rw[eg];exact abz hlen)) (am (dz (by rw[eg];exact aby hlen h1)) rfl))
 unfold c5;split
 ·rename_i hc;have uk:(strSliceIndices lo hi 1 x.length).length=x.length:=by simpa using hc
  rw[Aj,aL,gD]at uk;have h1:x.length<=b/\(a=0\/x.length=0):=abx uk;refine am (ef (by rw[dX];exact abw h1)) ?_;rcases h1.2 with rfl|h
  ·rw[iZ,lp]
  ·have h0:sg x=[]:=b4 (by rw[dX];exact h);rw[h0,aev,<-h0,lp]
 ·exact am hfm rfl
end
noncomputable def bd(k i:Nat):cy:=(dc k).body.getD i (.Pass default)
noncomputable abbrev bp(k:Nat):Sc:=(dc k).scope.names
noncomputable def gK:Expr:=.Constant .none 0 default
noncomputable def jo:cy->Expr
 |.If t _ _ _=>t
 |_=>gK
noncomputable def mr:cy->List cy
 |.If _ b _ _=>b
 |_=>[]
noncomputable def KG:cy->List cy
 |.If _ _ o _=>o
 |_=>[]
noncomputable def F5:cy->Bool
 |.If _ _ _ _=>aj
 |_=>an
section
variable{n:Nat}{mj:Sg}{gA:St}{s:cy}{r:List cy}{out:ga}
theorem ck{α β:Type}{x:Option α}{f:α->Option β}{a:α}{r:Option β}(h:x=some a)(k:f a=r):x.bind f=r:=by subst h;exact k
theorem kN{α β:Type}{x:Option α}{f:α->β}{a:α}{r:β}(h:x=some a)(k:f a=r):x.map f=some r:=by subst h;exact congrArg some k
theorem dY:bW P (n+1) sc σ st []=some (.next,σ,st):=rfl
theorem aB(h:bi P n sc σ st s=some (.next,mj,gA)):bW P (n+1) sc σ st (s::r)=bW P n sc mj gA r:=ck h rfl
theorem dS{fl:Fl}(h:bi P n sc σ st s=some (fl,mj,gA))(hf:fl≠.next):bW P (n+1) sc σ st (s::r)=some (fl,mj,gA):=by refine ck h ?_;rcases fl with _|_|_|_<;>first|rfl|exact bV rfl hf
theorem HH(hs:F5 s=aj):∃t b o p,s=.If t b o p:=by rcases s with _|_|_|_|_|_|_|_|_|_|_|_|_|_|_|_|_|_|_|_|_|_|_|_|_|_|_|_<;>first|exact(hK hs).elim|exact TR _ _ _ _ rfl
theorem xd{c:Bool}(hs:F5 s=aj)(h:bY P st n sc σ (jo s)=some c):bi P (n+1) sc σ st s=bW P n sc σ st (if c then mr s else KG s):=by refine AB (HH hs) λt b o p e=>?_;subst e;refine ck h ?_;rcases c with _|_<;>rfl
theorem eG(hs:F5 s=aj)(h:bY P st (n+1) sc σ (jo s)=some an)(ho:KG s=[]):bi P (n+2) sc σ st s=some (.next,σ,st):=by refine am (xd hs h) (am ho ?_);exact dY
theorem fJ(hs:F5 s=aj)(h:bY P st n sc σ (jo s)=some aj)(hb:bW P n sc σ st (mr s)=some out):bi P (n+1) sc σ st s=some out:=by refine am (xd hs h) ?_;exact hb
end
theorem on{k:Nat}{Fa:aN->List V->Option V}{vs:List V}{out:ga}{v0 v:V}(hl:vs.length=(dc k).ps.length)(hf:jX vs=aj)(h:bW (MK Fa) 60 (bp k) ((dc k).ps.zip vs) [] (dc k).body=some out)(hv:Lq out.1=some v0)(hz:ek out.2.2 8 v0=some v):rg k Fa vs=some v:=by unfold rg J1;refine am (aP ⟨hl,hf⟩) (am h ?_);simp only[b6,hv,hz]
noncomputable def Hp:Expr->Bool
 |.Slice _ _ _ _=>an
 |_=>aj
noncomputable def zV:Expr->Bool
 |.ListComp _ _ _ _=>an
 |.Call (.Name _ _) _ _ _=>an
 |_=>aj
section
variable{n:Nat}{mj:Sg}{gA:St}{e l r o:Expr}{a b u ov:V}{vs:List V}{c:Bool}{p q:Pos}{x m:aq}{args:List Expr}
theorem dt{op:agH}(he:e=.Compare l [op] [r] p)(hm:kB op r=an)(hl:ay P st n sc σ l=some a)(hr:ay P st n sc σ r=some b)(hc:jy st op a b=some c):bY P st (n+1) sc σ e=some c:=by subst he;exact(bg (ne_true_of_eq_false hm)).trans (ck hl (ck hr hc))
theorem I3{op:agH}(he:e=.Compare l [op] [r] p)(hm:kB op r=an)(hl:ay P st n sc σ l=some a)(hr:ay P st n sc σ r=some b)(hc:jy st op a b=some c):ay P st (n+1) sc σ e=some (.bool c):=by subst he;exact(bg (ne_true_of_eq_false hm)).trans (ck hl (ck hr (kN hc rfl)))
theorem cL(he:e=.Subscript l r p)(MV:Hp r=aj)(hl:ay P st n sc σ l=some a)(hr:ay P st n sc σ r=some b)(h:qd st a b=some u):ay P st (n+1) sc σ e=some u:=by subst he;rcases r with _|_|_|_|_|_|_|_|_|_|_|_|_|_|_|_|_|_|_|_|_|_|_|_|_|_|_<;>first|exact ck hl (ck hr h)|exact(hK MV).elim
theorem mQ{lo hi:Option Expr}{va vb:Option V}{ia ib:Option Int}(he:e=.Subscript l (.Slice lo hi ah q) p)(hl:ay P st n sc σ l=some a)(ha:oU P st n sc σ lo=some va)(hb:oU P st n sc σ hi=some vb)(hia:tE va=some ia)(hib:tE vb=some ib)
  (h:xF st a ia ib=some u):ay P st (n+1) sc σ e=some u:=by
 subst he;exact ck hl (ck ha (ck hb (ck hia (ck hib h))))
theorem bn{op:Operator}(he:e=.BinOp l op r p)(hl:ay P st n sc σ l=some a)(hr:ay P st n sc σ r=some b)(h:eX op a b=some u):ay P st (n+1) sc σ e=some u:=by subst he;exact ck hl (ck hr h)
theorem sZ{es:List Expr}{k:Nat}(he:e=.Tuple es k p)(hz:es.length<=100)(h:b3 P st n sc σ es=some vs):ay P st (n+1) sc σ e=some (.tup vs):=by subst he;exact(aP hz).trans (kN h rfl)
theorem I0{es:List Expr}(he:e=.List es p)(hz:es.length<=100)(h:b3 P st n sc σ es=some vs):ay P st (n+1) sc σ e=some (.lst vs):=by subst he;exact(aP hz).trans (kN h rfl)
theorem ci:b3 P st (n+1) sc σ []=some []:=rfl
theorem iy{es:List Expr}(hs:∀y z,e≠.Starred y z)(h:ay P st n sc σ e=some a)(k:b3 P st n sc σ es=some vs):b3 P st (n+1) sc σ (e::es)=some (a::vs):=by rcases e with _|_|_|_|_|_|_|_|_|_|_|_|_|_|_|_|_|_|_|_|_|_|_|_|_|_|_<;>first|exact ck h (kN k rfl)|exact(hs _ _ rfl).elim
theorem oV{t:Expr}(he:e=.IfExp t l r p)(ht:bY P st n sc σ t=some c)(h:ay P st n sc σ (if c then l else r)=some u):ay P st (n+1) sc σ e=some u:=by subst he;refine ck ht ?_;rcases c with _|_<;>exact h
theorem ui(h1:ft o=aj)(h2:(p.endLine==q.line)=aj)(h3:args.length<=10):¬(!(ft o)||!(p.endLine==q.line)||!(decide (args.length<=10)))=aj:=by refine am h1 (am h2 (am (aU h3) ?_));decide
theorem mc(he:e=.Call (.Attribute o m p) args [] q)(h1:ft o=aj)(h2:(p.endLine==q.line)=aj)(h3:args.length<=10)(hm:m≠be "replace")(ho:ay P st n sc σ o=some ov)(g':b3 P st n sc σ args=some vs)(Fc:∀z,ov≠.obj z)
  (h:nE st ov m vs=some u):ay P st (n+1) sc σ e=some u:=by
 subst he;refine(bg (ui h1 h2 h3)).trans (ck ho ((bg hm).trans (ck g' ?_)));rcases ov with _|_|_|_|_|_|_|_|_|_<;>first|exact h|exact(Fc _ rfl).elim
theorem IZ{z:aN}(he:e=.Call (.Attribute o m p) args [] q)(h1:ft o=aj)(h2:(p.endLine==q.line)=aj)(h3:args.length<=10)(hm:m≠be "replace")(ho:ay P st n sc σ o=some (.obj z))(g':b3 P st n sc σ args=some vs)
  (h:P.Fm z m vs=some u):ay P st (n+1) sc σ e=some u:=by
 subst he;exact(bg (ui h1 h2 h3)).trans (ck ho ((bg hm).trans (ck g' h)))
theorem gh(he:e=.Call (.Name x p) args [] q)(hx:x≠be "isinstance")(hs:sc.lookup x=some .globalImplicit)(hg:P.G x=ah)(hb:x∈lA)(g':b3 P st n sc σ args=some vs)(h:fk st x vs=some u):ay P st (n+1) sc σ e=some u:=by subst he;refine(bg hx).trans ?_;refine am hs (am hg ?_);exact(aP hb).trans (ck g' h)
theorem j2{z:aN}(he:e=.Call (.Name x p) args [] q)(hx:x≠be "isinstance")(hg:(P.G x).isSome=aj)(hn:fY P sc σ x=some (.obj z))(g':b3 P st n sc σ args=some vs)(h:P.Fa z vs=some u):ay P st (n+1) sc σ e=some u:=by
 subst he;refine(bg hx).trans ?_;have k:=ck hn (f:=λf=>(b3 P st n sc σ args).bind λvs=>match f with
  |.obj a=>P.Fa a vs
  |_=>ah) (ck g' h)
 generalize P.G x=g at hg⊢;generalize sc.lookup x=s at⊢;rcases g with _|g
 ·exact(hK hg).elim
 ·rcases s with _|_|_|_|_|_<;>exact k
theorem fK{elt it:Expr}{ifs:List Expr}{scope:jm}{items us:List V}(he:e=.ListComp elt [⟨.Name x q,it,ifs,0⟩] scope p)(lJ:qy sc scope x=aj)(h0:(eO oQ σ).isNone=aj)(hi:g7 P st n sc σ it=some items)
  (h:mR (λv=>(gx P st n scope.names ((x,v)::σ) ifs).bind λok=>if ok then(ay P st n scope.names ((x,v)::σ) elt).map some else some af) items=some us):ay P st (n+1) sc σ e=some (.lst us):=by
 subst he;exact(aP ⟨rfl,lJ,h0⟩).trans (ck hi (kN h rfl))
theorem jx{f:V->Option (Option V)}{g:V->V}(items:List V):(∀v∈items,f v=some (some (g v)))->mR f items=some (items.map g):=by
 induction items with
 |nil=>
  exact λ_=>rfl
 |cons v r ih=>
  exact λh=>by rw[mR];rw[h v (.head _),b6,ih λw hw=>h w (.tail _ hw)];rfl
theorem km{f:V->Option (Option V)}{g:V->V}{t:V->Bool}(items:List V):(∀v∈items,f v=some (if t v then some (g v)else ah))->mR f items=some ((items.filter t).map g):=by
 induction items with
 |nil=>
  exact λ_=>rfl
 |cons v r ih=>
  exact λh=>by rw[mR];rw[h v (.head _),b6,ih λw hw=>h w (.tail _ hw)];rw[nX];cases t v<;>rfl
theorem cQ{y:aq}{s:cy}(he:s=.Assign [.Name y p] e q)(hr:zV e=aj)(hs:oA sc (.Name y p) e=aj)(h:fw P n sc σ n st e=some (u,gA))(hp:g4 sc y=aj):bi P (n+1) sc σ st s=some (.next,ee y u σ,gA):=by
 subst he;have k:(if oA sc (.Name y p) e then(fw P n sc σ n st e).bind λo=>(dq sc (.Name y p) o.1 σ).map λcR=>(Fl.next,cR,o.2)else ah)=some (.next,ee y u σ,gA):=(aP hs).trans (ck h (kN (aP hp) rfl))
 rcases e with _|_|_|_|_|_|_|_|_|_|_|_|_|_|_|_|⟨f,args,qm,p'⟩|_|_|_|_|_|_|_|_|_|_<;>try first|exact k|exact(hK hr).elim
 rcases f with _|_|_|_|_|_|_|_|_|_|_|_|_|_|_|_|_|_|_|_|_|_|_|_|_|_|_<;>first|exact k|exact(hK hr).elim
end
theorem l3{st:St}{x:aq}{k c:Nat}(h:(sg x)[k]?=some c):qd st (.str x) (.int (k:Int))=some (.str ⟨#[c]⟩):=by
 show(if(0:Int)<=(k:Int)then(x.cps[(k:Int).toNat]?).map λc=>V.str ⟨#[c]⟩else ah)=_;refine am (aP o7) ?_;have:x.cps[(k:Int).toNat]?=some c:=by simpa [sg]using h
 refine am this ?_;rfl
theorem qU(a b:Nat):((⟨#[a]⟩:aq)==⟨#[b]⟩)=(a==b):=by
 rw[dm,cw,cw];constructor
 ·intro h;injection h with h;simpa using h
 ·rintro rfl;rfl
section
variable{x a:aq}{b:Int}{n:Nat}{l r c c2:Nat}{p0 p1 p2 p3 p4:List Nat}{e:Expr}{u:V}{m:Nat}
noncomputable def q0(x a:aq)(b:Int):Sg:=[(aJ "resp",.str x),(aJ "peer",.tup [.str a,.int b])]
noncomputable def q1(x a:aq)(b:Int)(l:Nat):Sg:=ee (aJ "left") (.int (l:Int)) (q0 x a b)
noncomputable def q3(x a:aq)(b:Int)(l r:Nat):Sg:=ee (aJ "right") (.int (r:Int)) (q1 x a b l)
noncomputable def q6(x a:aq)(b:Int)(l r:Nat)(ps:List (List Nat)):Sg:=ee (aJ "parts") (.lst (ps.map λp=>.str (mk p))) (q3 x a b l r)
noncomputable def q8(x a:aq)(b:Int)(l r:Nat)(ps:List (List Nat)):Sg:=ee (aJ "host") (.str a) (q6 x a b l r ps)
theorem sT:(dc 12).body=[bd 12 0,bd 12 1,bd 12 2,bd 12 3,bd 12 4,bd 12 5,bd 12 6,bd 12 7,bd 12 8,bd 12 9,bd 12 10]:=rfl
theorem Mo:bY P0 [] 58 (bp 12) (q0 x a b) (jo (bd 12 0))=some (!(c5 x ah (some 3)==aJ "229")):=rfl
theorem SF:bW P0 58 (bp 12) (q0 x a b) [] (mr (bd 12 0))=some (.exc 81 x,q0 x a b,[]):=rfl
theorem Sm(h:c5 x ah (some 3)=aJ "229"):bi P0 59 (bp 12) (q0 x a b) [] (bd 12 0)=some (.next,q0 x a b,[]):=
 eG rfl (Mo.trans (by rw[h,c6];rfl)) rfl
theorem Sl(h:oZ x (aJ "(")=(l:Int)):bi P0 58 (bp 12) (q0 x a b) [] (bd 12 1)=some (.next,q1 x a b l,[]):=by
 have:bi P0 58 (bp 12) (q0 x a b) [] (bd 12 1)=some (.next,ee (aJ "left") (.int (oZ x (aJ "("))) (q0 x a b),[]):=rfl
 refine am this (am h ?_);rfl
theorem Og(h:oZ x (aJ "(")=-1):bi P0 58 (bp 12) (q0 x a b) [] (bd 12 1)=some (.next,ee (aJ "left") (.int (-1)) (q0 x a b),[]):=by
 have:bi P0 58 (bp 12) (q0 x a b) [] (bd 12 1)=some (.next,ee (aJ "left") (.int (oZ x (aJ "("))) (q0 x a b),[]):=rfl
 exact am this (am h rfl)
theorem Mn{i:Int}:bY P0 [] 56 (bp 12) (ee (aJ "left") (.int i) (q0 x a b)) (jo (bd 12 2))=some (decide (i<0)):=rfl
theorem SD{i:Int}:bW P0 56 (bp 12) (ee (aJ "left") (.int i) (q0 x a b)) [] (mr (bd 12 2))=some (.exc 93 x,ee (aJ "left") (.int i) (q0 x a b),[]):=rfl
theorem MC:bi P0 57 (bp 12) (q1 x a b l) [] (bd 12 2)=some (.next,q1 x a b l,[]):=eG rfl (Mn.trans (am (aW o1) rfl)) rfl
theorem Of:bi P0 57 (bp 12) (ee (aJ "left") (.int (-1)) (q0 x a b)) [] (bd 12 2)=some (.exc 93 x,ee (aJ "left") (.int (-1)) (q0 x a b),[]):=fJ rfl (Mn.trans rfl) SD
end
theorem Dt(l:List Nat):∀(i k:Nat),pK c i l=some k->∃a b,l=a++c::b/\c∉a/\k=i+a.length:=by
 induction l with
 |nil=>
  exact λ_ _ h=>by exact bM h
 |cons x r ih=>
  exact λi k h=>by
   rw[pK]at h;split at h
   ·next e=>
    have qq:=au h;subst qq;subst e;exact iM ([]) r rfl (λq=>by cases q) rfl
   ·next e=>
    refine c3 (ih (i+1) k h) λa b fC ha XH=>?_;subst fC;subst XH;refine iM (x::a) b rfl ?_ (by simp only[aS];exact o8);simp only[ax,not_or];exact⟨λq=>e q.symm,ha⟩
theorem z'(l:List Nat):∀(i:Nat),pK c i l=ah->c∉l:=by
 induction l with
 |nil=>
  exact λ_ _=>λq=>by cases q
 |cons x r ih=>
  exact λi h=>by
   rw[pK]at h;split at h
   ·exact bM h.symm
   ·next e=>
    simp only[ax,not_or];exact⟨λq=>e q.symm,ih (i+1) h⟩
inductive Qb where
 |Da|uU|odd|parts (p:List Nat)
 deriving DecidableEq
noncomputable def v3(L:List Nat):Qb:=
 if L.take 3≠[50,50,57]then .Da else match pK 40 0 L with
 |none=>.uU
 |some l=>match pK 41 0 (L.drop (l+1))with
  |none=>.uU
  |some k=>
   let c:=L.getD (l+1) 0
   if c≠L.getD (l+k) 0 then .uU else if 256<=c then .odd else
   let ps:=je c ((L.take (l+1+k)).drop (l+1))
   if ps.length≠5 then .uU else .parts (ps.getD 3 [])
section
variable{x a:aq}{b:Int}{l r:Nat}{e:Expr}{u:V}{m n:Nat}
theorem LM{p q}(h:ay P st n sc σ (.Call o args p q)=some u):fw P n sc σ (m+1) st (.Call o args p q)=some (u,st):=by exact kN h rfl
theorem yP{p}(h:ay P st n sc σ (.Subscript o i p)=some u):fw P n sc σ (m+1) st (.Subscript o i p)=some (u,st):=by exact kN h rfl
theorem C8(h:l<4611686018427387904):EF (l:Int)=aj:=aU (abq h)
theorem Oe(hl:l<100000):bi P0 56 (bp 12) (q1 x a b l) [] (bd 12 3)=some (.next,ee (aJ "right") (.int (qI x (aJ ")") ((l:Int)+1))) (q1 x a b l),[]):=by
 refine cQ rfl rfl rfl (LM (mc (vs:=[.str (aJ ")"),.int ((l:Int)+1)]) (ov:=.str x) rfl rfl rfl (by decide) (by decide) (by lia) (by lia) (λz h=>by exact V.noConfusion h) ?_)) (by lia);have:nE [] (.str x) (aJ "find") [.str (aJ ")"),.int ((l:Int)+1)]=if 0<=((l:Int)+1)/\EF ((l:Int)+1)=aj then some (.int (qI x (aJ ")") ((l:Int)+1)))else ah:=by lia
 exact this.trans (aP ⟨abp,C8 (l:=l+1) (by exact dD _ 1 (.p (S1 V0) K1) (.k 4611686018427387904) (D1 (S1 V0) (.k 100000) .n) rfl hl)⟩)
theorem Mm:bY P0 [] 54 (bp 12) (ee (aJ "right") (.int i) (q1 x a b l)) (jo (bd 12 4))=some (decide (i<0)):=by lia
theorem SA:bW P0 54 (bp 12) (ee (aJ "right") (.int i) (q1 x a b l)) [] (mr (bd 12 4))=some (.exc 93 x,ee (aJ "right") (.int i) (q1 x a b l),[]):=by lia
theorem Sk:bi P0 55 (bp 12) (q3 x a b l r) [] (bd 12 4)=some (.next,q3 x a b l r,[]):=eG rfl (Mm.trans (am (aW o1) rfl)) rfl
theorem Od:bi P0 55 (bp 12) (ee (aJ "right") (.int (-1)) (q1 x a b l)) [] (bd 12 4)=some (.exc 93 x,ee (aJ "right") (.int (-1)) (q1 x a b l),[]):=fJ rfl (Mm.trans rfl) SA
theorem RC(hr:1<=r)(h1:(sg x)[l+1]?=some c)(h2:(sg x)[r-1]?=some d):bY P0 [] 53 (bp 12) (q3 x a b l r) (jo (bd 12 5))=some (!(c==d)):=by
 refine dt (e:=jo (bd 12 5)) rfl rfl (cL rfl rfl (a:=.str x) (b:=.int ((l+1:Nat):Int)) (by lia) (by lia) (l3 h1)) (cL rfl rfl (a:=.str x) (b:=.int ((r-1:Nat):Int)) (by lia) ?_ (l3 h2)) ?_
 ·rw[aew hr];lia
 ·show lR not (some (_==_))=_;rw[qU];rfl
theorem Sz:bW P0 53 (bp 12) (q3 x a b l r) [] (mr (bd 12 5))=some (.exc 93 x,q3 x a b l r,[]):=by lia
noncomputable def qp(x a:aq)(b:Int)(l r:Nat)(ps:List V):Sg:=ee (aJ "parts") (.lst ps) (q3 x a b l r)
theorem Sj(hc:c<256)(hx:x.length<=10000)(h1:(sg x)[l+1]?=some c):bi P0 53 (bp 12) (q3 x a b l r) [] (bd 12 6)=some (.next,qp x a b l r ((je c (((sg x).take r).drop (l+1))).map λp=>.str (mk p)),[]):=by
 refine cQ rfl rfl rfl (LM (mc (vs:=[.str ⟨#[c]⟩]) (ov:=.str (c5 x (some ((l:Int)+1)) (some (r:Int)))) rfl rfl rfl (by decide) (by decide) (by lia)
  (iy (λy z h=>by exact b5 h) (cL rfl rfl (a:=.str x) (b:=.int ((l+1:Nat):Int)) (by lia) (by lia) (l3 h1)) (by lia)) (λz h=>by exact V.noConfusion h) ?_)) (by lia)
 have:nE [] (.str (c5 x (some ((l:Int)+1)) (some (r:Int)))) (aJ "split") [.str ⟨#[c]⟩]=if(⟨#[c]⟩:aq).length≠0/\(c5 x (some ((l:Int)+1)) (some (r:Int))).length<=10000 then some (.lst ((nN (c5 x (some ((l:Int)+1)) (some (r:Int))) ⟨#[c]⟩).map .str))else ah:=by lia
 have hs:c5 x (some ((l:Int)+1)) (some (r:Int))=mk (((sg x).take r).drop (l+1)):=ji x _ _ (l+1) r (.inr rfl) (.inr rfl);refine this.trans ?_;rw[aP]
 ·rw[ED hc,hs,gp,bF];rfl
 ·refine⟨λh=>(by cases h),?_⟩;rw[hs,<-dX,gp];have:=dX x;simp only[da,eg];exact abo this hx
theorem RB:bY P0 [] 51 (bp 12) (qp x a b l r ps) (jo (bd 12 7))=some (!((ps.length:Int)==5)):=by lia
theorem Sy:bW P0 51 (bp 12) (qp x a b l r ps) [] (mr (bd 12 7))=some (.exc 93 x,qp x a b l r ps,[]):=by lia
theorem Si:bi P0 51 (bp 12) (qp x a b l r ps) [] (bd 12 8)=some (.next,ee (aJ "host") (.str a) (qp x a b l r ps),[]):=by lia
theorem N2(hx:sg x=L):x.length=L.length:=by rw[<-hx,dX]
noncomputable def Dd:List cy:=[bd 12 0,bd 12 1,bd 12 2,bd 12 3,bd 12 4,bd 12 5,bd 12 6,bd 12 7,bd 12 8]
noncomputable def Qa(x a:aq)(b:Int):Qb->Prop
 |.Da=>∃σ,bW P0 60 (bp 12) (q0 x a b) [] (dc 12).body=some (.exc 81 x,σ,[])
 |.uU=>∃σ,bW P0 60 (bp 12) (q0 x a b) [] (dc 12).body=some (.exc 93 x,σ,[])
 |.odd=>True
 |.parts p=>∃l r ps,(∀rest,bW P0 60 (bp 12) (q0 x a b) [] (Dd++rest)=bW P0 51 (bp 12) (ee (aJ "host") (.str a) (qp x a b l r ps)) [] rest)/\ps[3]?=some (V.str (mk p))
set_option tactic.hygienic true in
theorem xS(x a:aq)(b:Int)(L:List Nat)(hx:sg x=L)(hl:L.length<=10000):Qa x a b (v3 L):=by
 unfold v3;have h3:c5 x ah (some 3)=mk (L.take 3):=by refine am (ji x ah (some 3) 0 3 (.inl ⟨rfl,rfl⟩) (.inr rfl)) (am hx ?_);rfl
 split
 ·next h=>
  refine⟨q0 x a b,?_⟩;refine am sT (dS (fJ rfl (Mo.trans ?_) SF) (by simp));refine am h3 (congrArg some ?_);rw[fH];refine beq_eq_false_iff_ne.mpr λq=>h ?_;have:=congrArg sg q;rw[gp]at this;refine am this ?_;rfl
 ·next h=>
  have e3:c5 x ah (some 3)=aJ "229":=by refine am h3 (am (mX.mp h) ?_);rfl
  have s0:=Sm (a:=a) (b:=b) e3;split
  ·next h1=>
   refine⟨ee (aJ "left") (.int (-1)) (q0 x a b),?_⟩;refine am sT ?_;exact(aB s0).trans ((aB (Og (Lh (by refine am hx ?_;exact z' _ _ h1)))).trans (dS Of (by simp)))
  ·next l h1=>
   refine c3 (Dt _ _ _ h1) λA B e hA hk=>?_;rw[iz]at hk;subst hk;have hAl:A.length<10000:=by replace hl:=aS▸aE▸e▸hl;exact(dp _ _ 1 (S1 V0) (.k 10000) (D1 (.p V0 (S1 V1)) (.k 10000) .n) rfl hl)
   have s1:=Sl (a:=a) (b:=b) (DK (hx.trans e) hA);have s3:=Oe (x:=x) (a:=a) (b:=b) (l:=A.length) (o68 hAl);have hd:L.drop (A.length+1)=B:=by exact am e (am (show A++40::B=(A++[40])++B by simp) (am (xm (by simp)) rfl))
   have ex:sg x=(A++[40])++B:=by refine am hx (am e ?_);simp
   refine am hd ?_;split
   ·next h2=>
    have hf:qI x (aJ ")") ((A.length:Int)+1)=-1:=Io (c:=41) (p:=A++[40]) (k:=A.length+1) ex (by simp) (z' _ _ h2);replace s3:=hf▸s3;refine⟨ee (aJ "right") (.int (-1)) (q1 x a b A.length),?_⟩;exact am sT ((aB s0).trans ((aB s1).trans ((aB MC).trans ((aB s3).trans (dS Od (by simp))))))
   ·next k h2=>
    refine c3 (Dt _ _ _ h2) λC D e2 hC hk=>?_;rw[iz]at hk;subst hk;have hf:qI x (aJ ")") ((A.length:Int)+1)=((A.length+1+C.length:Nat):Int):=Ip (c:=41) (p:=A++[40]) (a:=C) (b:=D) (k:=A.length+1) (ex.trans (am e2 rfl)) (by simp) hC;replace s3:=hf▸s3;have hL:L.length=A.length+(1+(C.length+(1+D.length))):=by refine am e (am e2 ?_);simp;exact abn
    have g1:(sg x)[A.length+1]?=some (L.getD (A.length+1) 0):=by refine am hx (am (aI) (am (aC (by exact tB _ _ _ _ 1 (.p (S1 V0) K1) V3 (D1 (.p V0 (.p K1 (.p V1 (.p K1 V2)))) V3 .n) rfl (ac hL.symm))) ?_));rfl
    have g2:(sg x)[A.length+1+C.length-1]?=some (L.getD (A.length+C.length) 0):=by refine am hx (am (show A.length+1+C.length-1=A.length+C.length by exact abm) (am (aI) (am (aC (by exact tB _ _ _ _ 1 (.p (.p V0 V1) K1) V3 (D1 (.p V0 (.p K1 (.p V1 (.p K1 V2)))) V3 .n) rfl (ac hL.symm))) ?_)));rfl
    have t5:=RC (a:=a) (b:=b) (l:=A.length) (r:=A.length+1+C.length) (by exact dp _ _ 1 K1 (.p (S1 V0) V1) .n rfl) g1 g2;have go:∀{o:Option ga} {rest},bW P0 55 (bp 12) (q3 x a b A.length (A.length+1+C.length)) [] (bd 12 5::rest)=o->bW P0 60 (bp 12) (q0 x a b) [] (bd 12 0::bd 12 1::bd 12 2::bd 12 3::bd 12 4::bd 12 5::rest)=o:=λh=>
     (aB s0).trans ((aB s1).trans ((aB MC).trans ((aB s3).trans ((aB Sk).trans h))))
    dsimp only;split
    ·next h5=>
     refine⟨q3 x a b A.length (A.length+1+C.length),?_⟩;refine am sT ?_;exact go (dS (fJ rfl (t5.trans (by refine am (beq_eq_false_iff_ne.mpr h5) ?_;rfl)) Sz) (by simp))
    ·next h5=>
     have s5:bi P0 54 (bp 12) (q3 x a b A.length (A.length+1+C.length)) [] (bd 12 5)=some (.next,q3 x a b A.length (A.length+1+C.length),[]):=
      eG rfl (t5.trans (by rw[mX.mp h5,c6];rfl)) rfl
     split
     ·exact trivial
     ·next hc=>
      have s6:=Sj (a:=a) (b:=b) (l:=A.length) (r:=A.length+1+C.length) (by exact dD _ 1 (S1 V0) (.k 256) (D1 (S1 V0) (.k 256) .n) rfl (aZ hc)) (by refine am (N2 hx) ?_;exact hl) g1;replace s6:=hx▸s6;generalize je (L.getD (A.length+1) 0) ((L.take (A.length+1+C.length)).drop (A.length+1))=ps at*;have t7:=RB (x:=x) (a:=a) (b:=b) (l:=A.length) (r:=A.length+1+C.length) (ps:=ps.map λp=>V.str (mk p));split
      ·next h7=>
       refine⟨qp x a b A.length (A.length+1+C.length) (ps.map λp=>V.str (mk p)),?_⟩;refine am sT (go ((aB s5).trans ((aB s6).trans (dS (fJ rfl (t7.trans ?_) Sy) (by simp)))));refine congrArg some ?_;rw[fH,beq_eq_false_iff_ne,aL];exact abl h7
      ·next h7=>
       have s7:=eG (n:=50) rfl (t7.trans (by rw[aL,mX.mp h7];rfl)) rfl;refine rz A.length (A.length+1+C.length) _ (λrest=>go ((aB s5).trans ((aB s6).trans ((aB s7).trans (aB Si))))) ?_;have h7':=mX.mp h7;refine am (cm) (am (aI) (am (aC (abk h7)) ?_));rfl
end
section
variable{x a:aq}{b:Int}{l r:Nat}{e:Expr}{u:V}{m n:Nat}
theorem QT{α β:Type}{x:Option α}{f:α->β}{g r:β}(h:x=ah)(k:g=r):(match(generalizing:=false) x with|some o=>f o|ah=>g)=r:=by subst h;exact k
theorem Hf{α β:Type}{x:Option α}{f:α->β}{g r:β}{a:α}(h:x=some a)(k:f a=r):(match(generalizing:=false) x with|some o=>f o|ah=>g)=r:=by subst h;exact k
theorem DH{β:Type}{c:Prop}{d:Decidable c}{x:Option V}{y:Option (List V)}{F:aN->List V->Option β}(hF:∀a vs,F a vs=ah):(if c then x.bind λfv=>y.bind λvs=>match fv with|.obj a=>F a vs|_=>ah else ah)=ah:=by
 rcases d with d|d
 ·rfl
 ·rcases x with _|fv
  ·rfl
  ·rcases y with _|vs
   ·rfl
   ·rcases fv with _|_|_|_|_|_|_|_|_|_<;>first|rfl|exact hF _ _
set_option smartUnfolding false in
theorem rP{f y:aq}{p q q' q2:Pos}{s:cy}{args:List Expr}(he:s=.Assign [.Name y p] (.Call (.Name f q) args [] q') q2)(hF:∀a vs st,P.Fs a vs st=ah)(h:ay P st n sc σ (.Call (.Name f q) args [] q')=some u)(hp:g4 sc y=aj):bi P (n+1) sc σ st s=some (.next,ee y u σ,st):=by subst he;exact QT (DH λa vs=>hF a vs st) (ck h (f:=λv=>(dq sc (.Name y p) v σ).map λcR=>((.next,cR,st):ga)) (kN (aP hp) rfl))
noncomputable def p8(x a:aq)(b:Int)(l r:Nat)(ps:List V):Sg:=ee (aJ "host") (.str a) (qp x a b l r ps)
theorem j6{vs:List V}{k:Nat}(h:vs[k]?=some u):qd st (.lst vs) (.int (k:Int))=some u:=by show(if(0:Int)<=(k:Int)then vs[(k:Int).toNat]?else ah)=_;refine am (aP o7) ?_;exact h
theorem iJ{vs:List V}{k:Nat}(h:vs[k]?=some u):qd st (.tup vs) (.int (k:Int))=some u:=by show(if(0:Int)<=(k:Int)then vs[(k:Int).toNat]?else ah)=_;refine am (aP o7) ?_;exact h
theorem NP{x:aq}{k:Int}(hl:x.length<=640)(h:cz x=some k):fk st (aJ "int") [.str x]=some (.int k):=by
 have:fk st (aJ "int") [.str x]=if x.length<=640 then(cz x).map .int else ah:=by lia
 refine am this (am (aP hl) (am h ?_));rfl
noncomputable def Vn:List Expr:=match bd 12 9 with
 |.Assign _ (.Call _ es _ _) _=>es
 |_=>[]
theorem Mi{ps:List V}{p:aq}(h:ps[3]?=some (.str p)):b3 P0 [] 48 (bp 12) (p8 x a b l r ps) Vn=some [.str p]:=by refine iy (λy z h=>by exact b5 h) (cL rfl rfl (a:=.lst ps) (b:=.int ((3:Nat):Int)) (by lia) (by lia) (j6 h)) (by lia)
theorem Sh{ps:List V}{p:aq}{k:Int}(h:ps[3]?=some (.str p))(hl:p.length<=640)(hk:cz p=some k):bi P0 50 (bp 12) (p8 x a b l r ps) [] (bd 12 9)=some (.next,ee (aJ "port") (.int k) (p8 x a b l r ps),[]):=
 rP rfl (λ_ _ _=>rfl) (gh rfl (by decide) (by lia) (by lia) (by decide) (Mi h) (NP hl hk)) (by lia)
theorem Oh{ps:List V}{k:Int}:bi P0 49 (bp 12) (ee (aJ "port") (.int k) (p8 x a b l r ps)) [] (bd 12 10)=some (.ret (.tup [.str a,.int k]),ee (aJ "port") (.int k) (p8 x a b l r ps),[]):=by lia
theorem LH:(dc 12).body=Dd++[bd 12 9,bd 12 10]:=sT
theorem JL{L p:List Nat}{k:Int}(hx:sg x=L)(hl:L.length<=10000)(h:v3 L=.parts p)(hp:p.length<=640)(hk:cz (mk p)=some k):rg 12 gL [.str x,.tup [.str a,.int b]]=some (.tup [.str a,.int k]):=by have R:=xS x a b L hx hl;rw[h]at R;refine l7 R λl r ps R h3=>on (v0:=.tup [.str a,.int k]) rfl rfl (out:=(.ret (.tup [.str a,.int k]),ee (aJ "port") (.int k) (p8 x a b l r ps),[])) ?_ rfl rfl;show bW P0 60 (bp 12) (q0 x a b) [] (dc 12).body=_;rw[LH,R];exact(aB (Sh h3 (by rw[<-dX,gp];exact hp) hk)).trans (dS Oh (by simp))
end
noncomputable def w4(m:Nat)(xs zs ds:List Nat):List Nat:=m::(xs++(m::m::(zs++(ds++[m]))))
noncomputable def kj(c:List Nat):List Nat:=sg (aJ "229 a) at (")++(c++sg (aJ ") or (so)"))
noncomputable def sU(m:Nat)(c:List Nat):Nat->List Nat
 |0=>sg (aJ "227")++(kj c).drop 3
 |1=>sg (aJ "229 x272)")
 |2=>sg (aJ "229 (")++(c++[120])
 |3=>iE 41 [120,41] (kj c)
 |4=>sg (aJ "229 (")++(m::(c++[41]))
 |5=>sg (aJ "229 (")++(c.drop 1++[41])
 |6=>sg (aJ "229 ()")
 |7=>sg (aJ "229 (")++(m::m::m::120::(c.drop (c.length-2)++[41]))
 |_=>sg (aJ "229 (")++(m::m::m::m::[41])
noncomputable def gC:List Nat:=0::(ba 21).map (27+·)
noncomputable def dA(n:Nat):List Nat:=if n<10 then [48+n]else [48+n/10,48+n%10]
noncomputable def marks:List Nat:=[124,44,59,34]
noncomputable def xss:List (List Nat):=[[],[120]]
noncomputable def QW:List (List Nat):=[[],[43],[48,48]]
noncomputable def Dr(ds:List Nat):Nat->Qb
 |0=>.Da
 |7=>.parts (120::ds.drop (ds.length-1))
 |8=>.parts []
 |_=>.uU
noncomputable def yN(m n:Nat)(xs zs:List Nat):Bool:=
 let c:=w4 m xs zs (dA n)
 decide (v3 (kj c)=.parts (zs++dA n))&&(ba 9).all λk=>decide (v3 (sU m c k)=Dr (dA n) k)
set_option maxHeartbeats 4000000 in
theorem PW:(marks.all λm=>gC.all λn=>xss.all λxs=>QW.all λzs=>yN m n xs zs)=aj:=by lia
theorem OK:(gC.all λn=>QW.all λzs=>decide (cz (mk (zs++dA n))=some (n:Int)))=aj:=by lia
theorem NZ:(gC.all λn=>decide (be (toString (n:Int))=mk (dA n)))=aj:=by lia
noncomputable def rd:List Nat->List Nat
 |[]=>[]
 |34::34::r=>34::rd r
 |34::_=>[]
 |c::r=>c::rd r
theorem XE(r:List Nat):rd (34::34::r)=34::rd r:=rfl
theorem Su{c:Nat}(h:c≠34)(r:List Nat):rd (c::r)=c::rd r:=by
 conv=>lhs;unfold rd
 split<;>simp_all-iota
theorem Ss{r:List Nat}(h:r.head?≠some 34):rd (34::r)=[]:=by unfold rd;split<;>simp_all-iota
section
variable{x d:aq}{i n:Nat}{c c2:Nat}
theorem nU{P:pD}{sc:Sc}{σ:Sg}{u:V}{m n:Nat}{p}{op}{o i:Expr}(h:ay P st n sc σ (.BinOp o op i p)=some u):fw P n sc σ (m+1) st (.BinOp o op i p)=some (u,st):=by exact kN h rfl
noncomputable def g0(x:aq):Sg:=[(aJ "resp",.str x)]
noncomputable def g1(x d:aq)(i:Nat):Sg:=[(aJ "resp",.str x),(aJ "dirname",.str d),(aJ "i",.int (i:Int)),(aJ "n",.int x.length)]
noncomputable def g2(x d:aq)(i:Nat)(c:Nat):Sg:=[(aJ "resp",.str x),(aJ "dirname",.str d),(aJ "i",.int (i:Int)),(aJ "n",.int x.length),(aJ "c",.str ⟨#[c]⟩)]
theorem IS:(dc 13).body=[bd 13 0,bd 13 1,bd 13 2,bd 13 3,bd 13 4,bd 13 5,bd 13 6]:=by lia
theorem Ml:bY P0 [] 58 (bp 13) (g0 x) (jo (bd 13 0))=some (!(c5 x ah (some 3)==aJ "257")):=by lia
theorem Sx:bW P0 58 (bp 13) (g0 x) [] (mr (bd 13 0))=some (.exc 81 x,g0 x,[]):=by lia
theorem RA:bY P0 [] 57 (bp 13) (g0 x) (jo (bd 13 1))=some (!(c5 x (some 3) (some 5)==aJ " \"")):=by lia
theorem Sf:bi P0 57 (bp 13) (g0 x) [] (bd 13 2)=some (.next,ee (aJ "dirname") (.str (aJ "")) (g0 x),[]):=by lia
theorem Se:bi P0 56 (bp 13) (ee (aJ "dirname") (.str (aJ "")) (g0 x)) [] (bd 13 3)=some (.next,ee (aJ "i") (.int 5) (ee (aJ "dirname") (.str (aJ "")) (g0 x)),[]):=by lia
theorem Sd:bi P0 55 (bp 13) (ee (aJ "i") (.int 5) (ee (aJ "dirname") (.str (aJ "")) (g0 x))) [] (bd 13 4)=some (.next,g1 x (aJ "") 5,[]):=by lia
noncomputable def VM:Expr:=match bd 13 5 with
 |.While t _ _ _=>t
 |_=>gK
noncomputable def NK:List cy:=match bd 13 5 with
 |.While _ b _ _=>b
 |_=>[]
noncomputable def wb(k:Nat):cy:=NK.getD k (.Pass default)
theorem Bj:NK=[wb 0,wb 1,wb 2,wb 3]:=by lia
noncomputable def gi(x d:aq)(i:Nat):Option Nat->Sg
 |none=>g1 x d i
 |some c=>g2 x d i c
theorem wt{o:Option Nat}:bY P0 st 53 (bp 13) (gi x d i o) VM=some (decide ((i:Int)<x.length)):=by cases o<;>lia
theorem W2{o:Option Nat}(h:(sg x)[i]?=some c):bi P0 52 (bp 13) (gi x d i o) st (wb 0)=some (.next,g2 x d i c,st):=by
 have e:∀{o:Option Nat},ay P0 st 51 (bp 13) (gi x d i o) (match wb 0 with|.Assign _ e _=>e|_=>gK)=some (.str ⟨#[c]⟩):=λ{o}=>by refine cL rfl rfl (a:=.str x) (b:=.int (i:Int)) ?_ ?_ (l3 h)<;>(cases o<;>lia)
 cases o with
 |none=>exact cQ (σ:=g1 x d i) rfl rfl rfl (yP (e (o:=ah))) (by lia)
 |some c'=>exact(cQ (σ:=g2 x d i c') rfl rfl rfl (yP (e (o:=some c'))) (by lia)).trans (by lia)
theorem W1:bi P0 51 (bp 13) (g2 x d i c) st (wb 1)=some (.next,g2 x d (i+1) c,st):=by lia
theorem WR:bY P0 st 49 (bp 13) (g2 x d i c) (jo (wb 2))=some (⟨#[c]⟩==aJ "\""):=by lia
theorem wb3(h:d.length<10000):bi P0 49 (bp 13) (g2 x d i c) st (wb 3)=some (.next,g2 x (d++⟨#[c]⟩) i c,st):=by
 have e:ay P0 st 48 (bp 13) (g2 x d i c) (match wb 3 with|.Assign _ e _=>e|_=>gK)=some (.str (d++⟨#[c]⟩)):=by
  refine bn rfl (a:=.str d) (b:=.str ⟨#[c]⟩) (by lia) (by lia) ?_;have:eX .Add (.str d) (.str ⟨#[c]⟩)=if d.length+1<=16777216 then some (.str (d++⟨#[c]⟩))else ah:=by lia
  exact am this (am (aP (by exact dD _ 1 (S1 V0) (.k 16777216) (D1 (S1 V0) (.k 10000) .n) rfl h)) rfl)
 exact(cQ (σ:=g2 x d i c) rfl rfl rfl (nU e) (by lia)).trans (by lia)
section
variable{e:Expr}{r:List Expr}{p:Pos}{m:Nat}{b:Bool}
theorem uq(he:e=.BoolOp .Or (a::r) p)(h:bY P st m sc σ a=some aj):bY P st (m+1) sc σ e=some aj:=by subst he;exact ck h rfl
theorem j9(he:e=.BoolOp .Or (a::r) p)(h:bY P st m sc σ a=some an)(k:bY P st m sc σ (.BoolOp .Or r p)=some b):bY P st (m+1) sc σ e=some b:=by subst he;exact ck h k
theorem ur:bY P st (m+1) sc σ (.BoolOp .Or [] p)=some an:=rfl
theorem kt(he:e=.BoolOp .And (a::r) p)(h:bY P st m sc σ a=some an):bY P st (m+1) sc σ e=some an:=by subst he;exact ck h rfl
theorem gs(he:e=.BoolOp .And (a::r) p)(h:bY P st m sc σ a=some aj)(k:bY P st m sc σ (.BoolOp .And r p)=some b):bY P st (m+1) sc σ e=some b:=by subst he;exact ck h k
theorem rO:bY P st (m+1) sc σ (.BoolOp .And [] p)=some aj:=rfl
end
noncomputable def w2(k:Nat):cy:=(mr (wb 2)).getD k (.Pass default)
theorem Mf:mr (wb 2)=[w2 0,w2 1]:=by lia
theorem Ge{o:Option Nat}(h:(sg x)[i]?≠some 34):bY P0 st 47 (bp 13) (g2 x d i c) (jo (w2 0))=some aj:=by
 by_cases hi:i<x.length
 ·have e1:(sg x)[i]?=some ((sg x)[i]'(by rw[dX];exact hi)):=aC _
  refine j9 rfl (dt rfl rfl (a:=.int (i:Int)) (b:=.int x.length) (by lia) (by lia) (c:=an) ?_) (uq rfl (dt rfl rfl (cL rfl rfl (a:=.str x) (b:=.int (i:Int)) (by lia) (by lia) (l3 e1)) (b:=.str (aJ "\"")) (by lia) ?_))
  ·exact congrArg some (aW (o65 hi))
  ·show lR not (some (_==(⟨#[34]⟩:aq)))=_;rw[qU,beq_eq_false_iff_ne.mpr (λq=>h (by rw[e1,q]))];rfl
 ·refine uq rfl (dt rfl rfl (a:=.int (i:Int)) (b:=.int x.length) (by lia) (by lia) ?_);exact congrArg some (aU (abv hi))
theorem NL(h:(sg x)[i]?=some 34):bY P0 st 47 (bp 13) (g2 x d i c) (jo (w2 0))=some an:=by
 have hi:i<x.length:=by rw[<-dX];exact(aG.mp h).1
 refine j9 rfl (dt rfl rfl (a:=.int (i:Int)) (b:=.int x.length) (by lia) (by lia) (c:=an) (congrArg some (aW (o65 hi)))) (j9 rfl (dt rfl rfl (cL rfl rfl (a:=.str x) (b:=.int (i:Int)) (by lia) (by lia) (l3 h)) (b:=.str (aJ "\"")) (by lia) ?_) ur);show lR not (some (_==(⟨#[34]⟩:aq)))=_;rw[qU];rfl
theorem JE:bW P0 47 (bp 13) (g2 x d i c) st (mr (w2 0))=some (.brk,g2 x d i c,st):=by lia
theorem w21:bi P0 47 (bp 13) (g2 x d i c) st (w2 1)=some (.next,g2 x d (i+1) c,st):=by lia
theorem W0{o:Option Nat}(h:(sg x)[i]?=some c)(hc:c≠34)(hd:d.length<10000):bW P0 53 (bp 13) (gi x d i o) st NK=some (.next,g2 x (d++⟨#[c]⟩) (i+1) c,st):=by rw[Bj];refine(aB (W2 h)).trans ((aB W1).trans ((aB (eG rfl (WR.trans ?_) rfl)).trans ((aB (wb3 hd)).trans dY)));show some ((⟨#[c]⟩:aq)==⟨#[34]⟩)=_;rw[qU,beq_eq_false_iff_ne.mpr hc]
theorem WY{o:Option Nat}(h:(sg x)[i]?=some 34)(h2:(sg x)[i+1]?=some 34)(hd:d.length<10000):bW P0 53 (bp 13) (gi x d i o) st NK=some (.next,g2 x (d++⟨#[34]⟩) (i+2) 34,st):=by
 refine am Bj ((aB (W2 h)).trans ((aB W1).trans ((aB (fJ rfl (WR.trans rfl) (out:=(.next,g2 x d (i+2) 34,st)) ?_)).trans ((aB (wb3 hd)).trans dY))))
 exact am Mf ((aB (eG rfl (NL h2) rfl)).trans ((aB w21).trans dY))
theorem WZ{o:Option Nat}(h:(sg x)[i]?=some 34)(h2:(sg x)[i+1]?≠some 34):bW P0 53 (bp 13) (gi x d i o) st NK=some (.brk,g2 x d (i+1) 34,st):=by refine am Bj ((aB (W2 h)).trans ((aB W1).trans (dS (fJ rfl (WR.trans rfl) (out:=(.brk,g2 x d (i+1) 34,st)) ?_) (by simp))));exact am Mf (dS (fJ rfl (Ge (o:=o) h2) JE) (by simp))
theorem D7{t:Sg->St->Option Bool}{f:Sg->St->Option ga}{k:Nat}{σ mj:Sg}{st gA:St}(ht:t σ st=some aj)(hf:f σ st=some (.next,mj,gA)):nw t f (k+1) σ st=nw t f k mj gA:=ck ht (ck hf rfl)
theorem PQ{t:Sg->St->Option Bool}{f:Sg->St->Option ga}{k:Nat}{σ mj:Sg}{st gA:St}(ht:t σ st=some aj)(hf:f σ st=some (.brk,mj,gA)):nw t f (k+1) σ st=some (.next,mj,gA):=ck ht (ck hf rfl)
theorem B2:∀(k:Nat) (L:List Nat) (d:aq) (i:Nat) (o:Option Nat),(sg x).drop i=L->d.length+L.length<10000->L.length<k->
  ∃i' o',nw (λσ st=>bY P0 st 53 (bp 13) σ VM) (λσ st=>bW P0 53 (bp 13) σ st NK) k (gi x d i o) st=some (.next,gi x (mk (sg d++rd L)) i' o',st)
 |0,L,d,i,o,_,_,hk=>bV hk (by exact λq=>eM _ (D1 (S1 V0) (.k 0) .n) rfl q)
 |k+1,[],d,i,o,hL,hd,hk=>⟨i,o,by
  have hi:¬((i:Int)<x.length):=by have:=congrArg ajV hL;rw[da,dX]at this;simp at this;exact abu this
  refine ck (wt.trans (congrArg some (aW hi))) ?_;show some _=_;rw[show rd []=[]from rfl,gJ,lp]⟩
 |k+1,c::R,d,i,o,hL,hd,hk=>by
  have h1:(sg x)[i]?=some c:=by refine jj (xl) (am hL ?_);rfl
  have hi:(i:Int)<x.length:=by have:=(aG.mp h1).1;rw[dX]at this;exact o66 this
  have hR:(sg x).drop (i+1)=R:=by refine jj rX (am hL ?_);rfl
  simp only[aS]at hd hk;have ht:bY P0 st 53 (bp 13) (gi x d i o) VM=some aj:=wt.trans (congrArg some (aU hi));by_cases hc:c=34
  ·subst hc;by_cases h2:(sg x)[i+1]?=some 34
   ·cases R with
    |nil=>replace h2:=hR▸(xl).symm▸h2;exact bM h2
    |cons c' R'=>
     have:c'=34:=by replace h2:=hR▸(xl).symm▸h2;simpa using h2
     subst this;simp only[aS]at hd hk;refine mO (B2 k R' (d++⟨#[34]⟩) (i+2) (some 34) (by refine am (show i+2=(i+1)+1 by exact abt) (jj rX (am hR ?_));rfl) (by
      have:(d++(⟨#[34]⟩:aq)).length=d.length+1:=by rw[<-dX,uP,aE,dX];rfl
      exact(fM _ _ _ 1 (.p (.p V0 V2) K1) (.k 10000) (D1 V0 (S1 V1) (D1 (.p (.p V1 (.p (S1 V2) K1)) K1) (.k 10000) .n)) rfl (ac this) hd)) (by exact dp _ _ 1 (S1 V0) V1 (D1 (.p (.p (S1 V0) K1) K1) (S1 V1) .n) rfl hk)) λi' o' e=>?_
     refine Cb i' o' ((D7 ht (WY h1 h2 (by exact dp _ _ 1 (S1 V0) (.k 10000) (D1 (.p (.p V0 (.p (S1 V1) K1)) K1) (.k 10000) .n) rfl hd))).trans (e.trans ?_));rw[uP,br];rfl
   ·refine Cb (i+1) (some 34) ((PQ ht (WZ h1 h2)).trans ?_);rw[Ss (by rw[<-hR,xl];exact h2),gJ,lp];rfl
  ·refine mO (B2 k R (d++⟨#[c]⟩) (i+1) (some c) hR (by
    have:(d++(⟨#[c]⟩:aq)).length=d.length+1:=by rw[<-dX,uP,aE,dX];rfl
    exact(fM _ _ _ 1 (.p (.p V0 V2) K1) (.k 10000) (D1 V0 (S1 V1) (D1 (.p (.p V1 (S1 V2)) K1) (.k 10000) .n)) rfl (ac this) hd)) (o67 hk)) λi' o' e=>?_
   refine Cb i' o' ((D7 ht (W0 h1 hc (by exact dp _ _ 1 (S1 V0) (.k 10000) (D1 (.p (.p V0 (S1 V1)) K1) (.k 10000) .n) rfl hd))).trans (e.trans ?_));rw[uP,br,Su hc];rfl
theorem Sa{o:Option Nat}:bi P0 53 (bp 13) (gi x d i o) st (bd 13 6)=some (.ret (.str d),gi x d i o,st):=by cases o<;>lia
theorem Sb:bi P0 54 (bp 13) (g1 x d i) st (bd 13 5)=nw (λσ st=>bY P0 st 53 (bp 13) σ VM) (λσ st=>bW P0 53 (bp 13) σ st NK) 100000 (gi x d i ah) st:=by lia
theorem JK{L:List Nat}(h:sg x=sg (aJ "257 \"")++L)(hl:L.length<10000):rg 13 gL [.str x]=some (.str (mk (rd L))):=by
 have e0:c5 x ah (some 3)=aJ "257":=by refine am (ji x ah (some 3) 0 3 (.inl ⟨rfl,rfl⟩) (.inr rfl)) (am h ?_);rfl
 have e1:c5 x (some 3) (some 5)=aJ " \"":=by refine am (ji x (some 3) (some 5) 3 5 (.inr rfl) (.inr rfl)) (am h ?_);rfl
 refine mO (B2 (x:=x) (st:=[]) 100000 L (aJ "") 5 ah (by refine am h ?_;rfl) (by show 0+_<_;exact(dD _ 1 (.p (.p (.k 0) V0) K1) (.k 10000) (D1 (S1 V0) (.k 10000) .n) rfl hl)) (o68 hl)) λi' o' e=>?_
 refine on (v0:=.str (mk (rd L))) rfl rfl (out:=(.ret (.str (mk (rd L))),gi x (mk (rd L)) i' o',[])) ?_ rfl rfl;refine am IS ((aB (eG rfl (Ml.trans ?_) rfl)).trans ((aB (eG rfl (RA.trans ?_) rfl)).trans ((aB Sf).trans ((aB Se).trans ((aB Sd).trans ((aB (Sb.trans e)).trans (dS Sa (by simp))))))))
 ·rw[e0,c6];rfl
 ·rw[e1,c6];rfl
theorem LB(e0:c5 x ah (some 3)≠aJ "257"):bW P0 60 (bp 13) (g0 x) [] (dc 13).body=some (.exc 81 x,g0 x,[]):=by refine am IS (dS (fJ rfl (Ml.trans ?_) Sx) (by simp));refine am (beq_eq_false_iff_ne.mpr e0) ?_;rfl
end
noncomputable def gt(l:List Nat):Sg:=[(aJ "text",.str (mk l))]
theorem lv(l:List Nat):(mk l).length=l.length:=by rw[<-dX,gp]
section
variable{C Z:aq}{c n:Nat}{l:List Nat}
theorem sY{x:aq}{σ:Sg}{v:V}(hx:¬(x=be "__debug__"\/x=be "__classdict__"))(hs:sc.lookup x=some .local)(hv:eO x σ=some v):fY P sc σ x=some v:=by refine(bg hx).trans ?_;refine am hs ?_;exact hv
theorem dy{s:cy}{k1 k2 k3:Nat}{q1 q2 q3 q4 q5 q6 q7 q8 q9 q10 q11:Pos}(he:s=.If (.Compare (.Constant (.str C) k1 q1) [.In] [.Name (aJ "text") q2] q3) [.Assign [.Name (aJ "text") q4] (.Call (.Attribute (.Name (aJ "text") q5) (aJ "replace") q6) [.Constant (.str C) k2 q7,.Constant (.str Z) k3 q8] [] q9) q10] [] q11)
  (hC:C=⟨#[c]⟩) (hp:(q6.endLine==q9.line)=aj) (hs:sc.lookup (aJ "text")=some .local) (hz:Z.length<=14) (hcz:C≠Z) (hl:l.length<=1000000):bi P (n+7) sc (gt l) st s=some (.next,gt (iE c (sg Z) l),st):=by
 have Wr:C.length=1:=by refine am hC ?_;rfl
 have hv:∀m,ay P st (m+1) sc (gt l) (.Name (aJ "text") q2)=some (.str (mk l)):=λm=>by exact sY (by decide) hs rfl
 have MS:∀m q,ay P st (m+1) sc (gt l) (.Name (aJ "text") q)=some (.str (mk l)):=λm q=>by exact sY (by decide) hs rfl
 have hc:∀m,ay P st (m+1) sc (gt l) (.Constant (.str C) k1 q1)=some (.str C):=λm=>by exact aP ((by exact dD _ 1 V0 (.k 1000) (D1 V0 K1 .n) rfl (ac Wr)):C.length<=1000)
 have ht:bY P st (n+6) sc (gt l) (jo s)=some (decide (c∈l)):=by subst he;refine dt rfl rfl (hc _) (hv _) ?_;show Gf st (.str C) (.str (mk l))=_;unfold Gf;show some (!(gV (mk l) C 0 (mk l).length 1).isEmpty)=_;rw[hC,DD,gp]
 by_cases h:c∈l
 ·replace ht:=(aU h)▸ht;refine fJ (by refine am he ?_;rfl) ht ?_;subst he;refine(aB (mj:=gt (iE c (sg Z) l)) (gA:=st) ?_).trans dY;refine(cQ (u:=.str (mk (iE c (sg Z) l))) rfl rfl rfl (LM ?_) (by unfold g4;refine am hs ?_;rfl)).trans rfl;have e:=n4 (mk l) Z c;rw[<-hC,gp]at e;exact(bg (ui rfl hp (by show 2<=10;decide))).trans (ck (MS _ _) ((aP rfl).trans ((aP ⟨by rw[lv];exact(dD _ 1 V0 (.k 1048576) (D1 V0 (.k 1000000) .n) rfl hl),o87 Wr,hz,hcz⟩).trans (congrArg (λs=>some (V.str s)) e))))
 ·replace ht:=(aW h)▸ht;refine am (ue h) ?_;exact eG (by refine am he ?_;rfl) ht (by refine am he ?_;rfl)
theorem od{k:Nat}{b:List cy}{h:ExceptHandler}{hs:List ExceptHandler}{q:Pos}{vs:List V}{v:V}{cR:Sg}(he:(dc k).body=[.Try b (h::hs) [] [] q])(hl:vs.length=(dc k).ps.length)(hf:jX vs=aj)(hz:ek [] 8 v=some v)
  (hx:bW P0 58 (bp k) ((dc k).ps.zip vs) [] b=some (.ret v,cR,[])):rg k gL vs=some v:=by
 refine on (v0:=v) hl hf (out:=(.ret v,cR,[])) ?_ rfl hz;exact am he (dS (n:=59) (ck hx rfl) (λq=>Fl.noConfusion q))
theorem n0{s:cy}{q1 q2:Pos}(he:s=.Return (some (.Name (aJ "text") q1)) q2)(hs:sc.lookup (aJ "text")=some .local):bi P (n+3) sc (gt l) st s=some (.ret (.str (mk l)),gt l,st):=by subst he;exact kN (sY (by decide) hs rfl) rfl
end
theorem oi{c:Nat}{z:List Nat}:∀(l:List Nat),(iE c z l).length<=l.length*(1+z.length)
 |[]=>by simp -iota [iE]
 |a::r=>by have:=oi (c:=c) (z:=z) r;have e:iE c z (a::r)=(if a=c then z else [a])++iE c z r:=rfl;rw[e,aE,aS,Nat.add_mul,Nat.one_mul];split<;>simp<;>(first|exact(fM _ _ _ 1 (.p V2 V0) (.p V1 (.p K1 V2)) (D1 V0 V1 .n) rfl this)|exact(fM _ _ _ 1 (.p K1 V0) (.p V1 (.p K1 V2)) (D1 V0 V1 .n) rfl this))
noncomputable def ju:List (Nat×String)->List Nat->List Nat
 |[],l=>l
 |(c,z)::r,l=>ju r (iE c (sg (aJ z)) l)
noncomputable def sN(k:Nat):List (Nat×String):=match k with
 |0=>[(38,"&amp;"),(60,"&lt;"),(62,"&gt;")]
 |1=>[(38,"&amp;"),(60,"&lt;"),(62,"&gt;"),(34,"&quot;"),(13,"&#13;"),(10,"&#10;"),(9,"&#09;")]
 |2=>[(38,"&amp;"),(62,"&gt;"),(34,"&quot;")]
 |3=>[(38,"&amp;"),(60,"&lt;"),(62,"&gt;"),(13,"&#xD;")]
 |_=>[(38,"&amp;"),(60,"&lt;"),(34,"&quot;"),(9,"&#x9;"),(10,"&#xA;"),(13,"&#xD;")]
theorem lc{c k m:Nat}{z l:List Nat}(h:l.length<=m)(hz:z.length=k):(iE c z l).length<=m*(1+k):=by subst hz;exact aM (oi l) (pg _ h)
theorem ad3{l:List Nat}(h:l.length<=2):rg 16 gL [.str (mk l)]=some (.str (mk (ju (sN 0) l))):=by refine od (cR:=gt (ju (sN 0) l)) rfl rfl rfl rfl ((aB (n:=57) (dy (n:=50) (c:=38) rfl (by decide) (by decide) (by lia) (by decide) (by decide) (aM h (by decide)))).trans ?_);replace h:=lc (c:=38) (z:=sg (aJ "&amp;")) (k:=5) h (by lia);refine(aB (n:=56) (dy (n:=49) (c:=60) rfl (by decide) (by decide) (by lia) (by decide) (by decide) (aM h (by decide)))).trans ?_;replace h:=lc (c:=60) (z:=sg (aJ "&lt;")) (k:=4) h (by lia);refine(aB (n:=55) (dy (n:=48) (c:=62) rfl (by decide) (by decide) (by lia) (by decide) (by decide) (aM h (by decide)))).trans ?_;replace h:=lc (c:=62) (z:=sg (aJ "&gt;")) (k:=4) h (by lia);exact dS (n0 rfl (by lia)) (by simp -iota)
theorem ad2{l:List Nat}(h:l.length<=2):rg 17 gL [.str (mk l)]=some (.str (mk (ju (sN 1) l))):=by refine od (cR:=gt (ju (sN 1) l)) rfl rfl rfl rfl ((aB (n:=57) (dy (n:=50) (c:=38) rfl (by decide) (by decide) (by lia) (by decide) (by decide) (aM h (by decide)))).trans ?_);replace h:=lc (c:=38) (z:=sg (aJ "&amp;")) (k:=5) h (by lia);refine(aB (n:=56) (dy (n:=49) (c:=60) rfl (by decide) (by decide) (by lia) (by decide) (by decide) (aM h (by decide)))).trans ?_;replace h:=lc (c:=60) (z:=sg (aJ "&lt;")) (k:=4) h (by lia);refine(aB (n:=55) (dy (n:=48) (c:=62) rfl (by decide) (by decide) (by lia) (by decide) (by decide) (aM h (by decide)))).trans ?_;replace h:=lc (c:=62) (z:=sg (aJ "&gt;")) (k:=4) h (by lia);refine(aB (n:=54) (dy (n:=47) (c:=34) rfl (by decide) (by decide) (by lia) (by decide) (by decide) (aM h (by decide)))).trans ?_;replace h:=lc (c:=34) (z:=sg (aJ "&quot;")) (k:=6) h (by lia);refine(aB (n:=53) (dy (n:=46) (c:=13) rfl (by decide) (by decide) (by lia) (by decide) (by decide) (aM h (by decide)))).trans ?_;replace h:=lc (c:=13) (z:=sg (aJ "&#13;")) (k:=5) h (by lia);refine(aB (n:=52) (dy (n:=45) (c:=10) rfl (by decide) (by decide) (by lia) (by decide) (by decide) (aM h (by decide)))).trans ?_;replace h:=lc (c:=10) (z:=sg (aJ "&#10;")) (k:=5) h (by lia);refine(aB (n:=51) (dy (n:=44) (c:=9) rfl (by decide) (by decide) (by lia) (by decide) (by decide) (aM h (by decide)))).trans ?_;replace h:=lc (c:=9) (z:=sg (aJ "&#09;")) (k:=5) h (by lia);exact dS (n0 rfl (by lia)) (by simp -iota)
theorem ad1{l:List Nat}(h:l.length<=2):rg 18 gL [.str (mk l)]=some (.str (mk (ju (sN 2) l))):=by refine od (cR:=gt (ju (sN 2) l)) rfl rfl rfl rfl ((aB (n:=57) (dy (n:=50) (c:=38) rfl (by decide) (by decide) (by lia) (by decide) (by decide) (aM h (by decide)))).trans ?_);replace h:=lc (c:=38) (z:=sg (aJ "&amp;")) (k:=5) h (by lia);refine(aB (n:=56) (dy (n:=49) (c:=62) rfl (by decide) (by decide) (by lia) (by decide) (by decide) (aM h (by decide)))).trans ?_;replace h:=lc (c:=62) (z:=sg (aJ "&gt;")) (k:=4) h (by lia);refine(aB (n:=55) (dy (n:=48) (c:=34) rfl (by decide) (by decide) (by lia) (by decide) (by decide) (aM h (by decide)))).trans ?_;replace h:=lc (c:=34) (z:=sg (aJ "&quot;")) (k:=6) h (by lia);exact dS (n0 rfl (by lia)) (by simp -iota)
theorem ad0{l:List Nat}(h:l.length<=2):rg 19 gL [.str (mk l)]=some (.str (mk (ju (sN 3) l))):=by refine od (cR:=gt (ju (sN 3) l)) rfl rfl rfl rfl ((aB (n:=57) (dy (n:=50) (c:=38) rfl (by decide) (by decide) (by lia) (by decide) (by decide) (aM h (by decide)))).trans ?_);replace h:=lc (c:=38) (z:=sg (aJ "&amp;")) (k:=5) h (by lia);refine(aB (n:=56) (dy (n:=49) (c:=60) rfl (by decide) (by decide) (by lia) (by decide) (by decide) (aM h (by decide)))).trans ?_;replace h:=lc (c:=60) (z:=sg (aJ "&lt;")) (k:=4) h (by lia);refine(aB (n:=55) (dy (n:=48) (c:=62) rfl (by decide) (by decide) (by lia) (by decide) (by decide) (aM h (by decide)))).trans ?_;replace h:=lc (c:=62) (z:=sg (aJ "&gt;")) (k:=4) h (by lia);refine(aB (n:=54) (dy (n:=47) (c:=13) rfl (by decide) (by decide) (by lia) (by decide) (by decide) (aM h (by decide)))).trans ?_;replace h:=lc (c:=13) (z:=sg (aJ "&#xD;")) (k:=5) h (by lia);exact dS (n0 rfl (by lia)) (by simp -iota)
theorem adZ{l:List Nat}(h:l.length<=2):rg 20 gL [.str (mk l)]=some (.str (mk (ju (sN 4) l))):=by refine od (cR:=gt (ju (sN 4) l)) rfl rfl rfl rfl ((aB (n:=57) (dy (n:=50) (c:=38) rfl (by decide) (by decide) (by lia) (by decide) (by decide) (aM h (by decide)))).trans ?_);replace h:=lc (c:=38) (z:=sg (aJ "&amp;")) (k:=5) h (by lia);refine(aB (n:=56) (dy (n:=49) (c:=60) rfl (by decide) (by decide) (by lia) (by decide) (by decide) (aM h (by decide)))).trans ?_;replace h:=lc (c:=60) (z:=sg (aJ "&lt;")) (k:=4) h (by lia);refine(aB (n:=55) (dy (n:=48) (c:=34) rfl (by decide) (by decide) (by lia) (by decide) (by decide) (aM h (by decide)))).trans ?_;replace h:=lc (c:=34) (z:=sg (aJ "&quot;")) (k:=6) h (by lia);refine(aB (n:=54) (dy (n:=47) (c:=9) rfl (by decide) (by decide) (by lia) (by decide) (by decide) (aM h (by decide)))).trans ?_;replace h:=lc (c:=9) (z:=sg (aJ "&#x9;")) (k:=5) h (by lia);refine(aB (n:=53) (dy (n:=46) (c:=10) rfl (by decide) (by decide) (by lia) (by decide) (by decide) (aM h (by decide)))).trans ?_;replace h:=lc (c:=10) (z:=sg (aJ "&#xA;")) (k:=5) h (by lia);refine(aB (n:=52) (dy (n:=45) (c:=13) rfl (by decide) (by decide) (by lia) (by decide) (by decide) (aM h (by decide)))).trans ?_;replace h:=lc (c:=13) (z:=sg (aJ "&#xD;")) (k:=5) h (by lia);exact dS (n0 rfl (by lia)) (by simp -iota)
theorem GA(c:Nat)(z a b:List Nat):iE c z (a++b)=iE c z a++iE c z b:=List.flatMap_append
theorem Ew(t:List (Nat×String)):∀(a b:List Nat),ju t (a++b)=ju t a++ju t b:=by
 induction t with
 |nil=>
  exact λ_ _=>rfl
 |cons pq r ih=>
  rcases pq with⟨c,z⟩;exact λa b=>by unfold ju;rw[GA,ih]
theorem Eu(t:List (Nat×String)):ju t []=[]:=by
 induction t with
 |nil=>
  exact rfl
 |cons pq r ih=>
  rcases pq with⟨c,z⟩;exact ih
noncomputable def tU(k c:Nat):List Nat:=ju (sN k) [c]
theorem jT(k:Nat):∀l:List Nat,ju (sN k) l=l.flatMap (tU k)
 |[]=>Eu _
 |a::r=>by rw[show a::r=[a]++r from rfl,Ew,jT k r];rfl
theorem Gz{c a:Nat}{z:List Nat}(h:a≠c):iE c z [a]=[a]:=ue (by simp;exact λq=>h q.symm)
noncomputable def uL:List Nat:=[38,60,62,34,13,10,9]
theorem xP{k c:Nat}(h:c∉uL):tU k c=[c]:=by simp only[uL,ax,not_or]at h;obtain⟨h1,h2,h3,h4,h5,h6,h7,_⟩:=h;unfold tU sN;split<;>simp[ju,Gz, *]
noncomputable def BD(k:Nat):String:=match k with
 |0=>"&<>"
 |1=>"&<>\"\r\n\t"
 |2=>"&>\""
 |3=>"&<>\r"
 |_=>"&<\"\r\n\t"
noncomputable def acB(k:Nat):V:=.tup ((["amp","lt","gt","quot"]++(if k=1 then ["#13","#10","#09"]else ["#xD","#xA","#x9"])).map λs=>.str (aJ s))
noncomputable def sp0(l:List Nat)(k:Nat):Sg:=[(aJ "text",.str (mk l)),(aJ "pen",.int (k:Int))]
noncomputable def sp1(l:List Nat)(k:Nat):Sg:=[(aJ "text",.str (mk l)),(aJ "pen",.int (k:Int)),(aJ "signs",.str (aJ (BD k)))]
noncomputable def Mr(l:List Nat)(k:Nat):Sg:=[(aJ "text",.str (mk l)),(aJ "pen",.int (k:Int)),(aJ "signs",.str (aJ (BD k))),(aJ "names",acB k)]
theorem PJ:(dc 24).body=[bd 24 0,bd 24 1,bd 24 2]:=by lia
theorem rJ{p:Nat->Prop}(h0:p 0)(h1:p 1)(h2:p 2)(h3:p 3)(h4:p 4):∀k,k<5->p k
 |0,_=>h0
 |1,_=>h1
 |2,_=>h2
 |3,_=>h3
 |4,_=>h4
 |k+5,h=>bV h (by exact λq=>eM _ (D1 (.p (.p V0 (.k 5)) K1) (.k 5) .n) rfl q)
theorem R5(l:List Nat):∀k,k<5->bi P0 59 (bp 24) (sp0 l k) [] (bd 24 0)=some (.next,sp1 l k,[]):=rJ (by lia) (by lia) (by lia) (by lia) (by lia)
theorem R4(l:List Nat):∀k,k<5->bi P0 58 (bp 24) (sp1 l k) [] (bd 24 1)=some (.next,Mr l k,[]):=rJ (by lia) (by lia) (by lia) (by lia) (by lia)
noncomputable def cpE:Expr:=match bd 24 2 with
 |.Return (some (.Call _ [.ListComp e _ _ _] _ _)) _=>e
 |_=>gK
noncomputable def cpS:jm:=match bd 24 2 with
 |.Return (some (.Call _ [.ListComp _ _ s _] _ _)) _=>s
 |_=>default
noncomputable def RG(l:List Nat)(k c:Nat):Sg:=(aJ "sign",.str ⟨#[c]⟩)::Mr l k
theorem e24(l:List Nat)(k:Nat)(hk:k<5)(c:Nat):ay P0 [] 54 cpS.names (RG l k c) cpE=some (.str (mk (tU k c))):=by
 by_cases h:c∈uL
 ·simp only[uL,ax,bA,or_false]at h;revert k;rcases h with rfl|rfl|rfl|rfl|rfl|rfl|rfl<;>exact rJ (by lia) (by lia) (by lia) (by lia) (by lia)
 ·refine am (xP h) ?_;have hn:c∉sg (aJ (BD k)):=by have:∀k,k<5->∀x∈sg (aJ (BD k)),x∈uL:=rJ (by decide) (by decide) (by decide) (by decide) (by decide);exact λq=>h (this k hk c q)
  refine oV rfl (dt rfl rfl (a:=.str ⟨#[c]⟩) (b:=.str (aJ (BD k))) (c:=an) (by lia) (by lia) ?_) (by lia);show some (!(gV (aJ (BD k)) ⟨#[c]⟩ 0 (aJ (BD k)).length 1).isEmpty)=_;rw[DD,aW hn]
theorem HE(l:List (List Nat)):ajN (aJ "") (l.map mk)=mk l.flatten:=by
 cases l with
 |nil=>rfl
 |cons h t=>
  refine pu ?_;rw[gp];show(List.foldl (λiN p=>iN++(aJ "").cps++p.cps) (mk h).cps (t.map mk)).toList=_;rw[DG];show h++t.flatMap (λp=>[]++p)=h++t.flatten;simp[List.flatMap]
theorem B5(l:List (List Nat))(hs:l.flatten.length<=10000):JoinOk (aJ "") (l.map mk)=aj:=by
 have e:∀(l:List (List Nat)) (n:Nat),(l.map mk).foldl (λa (y:aq)=>a+y.length+(aJ "").length) n=n+l.flatten.length:=λl=>by
  induction l with
  |nil=>intro n;rfl
  |cons a r ih=>
   intro n;rw[aY,fP,ih,lv,List.flatten_cons,aE];show n+a.length+0+_=_;exact YJ
 show(!decide ((l.map mk).toArray.foldl (λa (y:aq)=>a+y.length+(aJ "").length) 0>16777216))=aj;rw[List.foldl_toArray,e,aW (YI hs)];rfl
theorem Ek(l:List (List Nat)):tu (l.map λp=>.str (mk p))=some (l.map mk):=by
 induction l with
 |nil=>rfl
 |cons a r ih=>
  show(tu (r.map λp=>.str (mk p))).map ((mk a)::·)=_;refine am ih ?_;rfl
theorem HF(st:St){l:List Nat}(hl:l.length<=10000):kD st (.str (mk l))=some (l.map λc=>.str ⟨#[c]⟩):=by show(if(mk l).length<=10000 then some ((mk l).cps.toList.map λc=>V.str ⟨#[c]⟩)else ah)=_;rw[aP (by rw[lv];exact hl)]
theorem R3(l:List Nat)(k:Nat)(hk:k<5)(hl:l.length<=2):bi P0 57 (bp 24) (Mr l k) [] (bd 24 2)=some (.ret (.str (mk (l.flatMap (tU k)))),Mr l k,[]):=by
 have hc:ay P0 [] 55 (bp 24) (Mr l k) (match bd 24 2 with|.Return (some (.Call _ [e] _ _)) _=>e|_=>gK)=some (.lst (l.map λc=>.str (mk (tU k c)))):=by
  have hit:g7 P0 [] 54 (bp 24) (Mr l k) (.Name (aJ "text") ⟨185,103,185,107⟩)=kD [] (.str (mk l)):=by lia
  refine fK rfl (by lia) (by lia) (hit.trans (HF [] (by exact dD _ 1 V0 (.k 10000) (D1 V0 (.k 2) .n) rfl hl))) ?_;rw[jx (g:=λv=>match v with|.str x=>.str (mk (tU k (x.cps.getD 0 0)))|v=>v)]
  ·refine am bF ?_;rfl
  ·intro v hv;refine cW (bw.mp hv) λc _ fC=>?_;subst fC;show(eZ (some aj) λok=>if ok=aj then(ay P0 [] 54 cpS.names (RG l k c) cpE).map some else some ah)=_;refine am (e24 l k hk c) ?_;rfl
 have hf:((l.map (tU k)).flatten).length<=10000:=by
  have h1:∀c,(tU k c).length<=6:=λc=>by
   by_cases h:c∈uL
   ·simp only[uL,ax,bA,or_false]at h;revert k;rcases h with rfl|rfl|rfl|rfl|rfl|rfl|rfl<;>exact rJ (λ_=>by decide) (λ_=>by decide) (λ_=>by decide) (λ_=>by decide) (λ_=>by decide)
   ·refine am (xP h) ?_;simp
  match l,hl with
  |[],_=>simp
  |[a],_=>
   have:=h1 a;simp;exact(dD _ 1 V0 (.k 10000) (D1 V0 (.k 6) .n) rfl this)
  |[a,b],_=>
   have:=h1 a;have:=h1 b;simp;exact(dp _ _ 1 (.p V0 V1) (.k 10000) (D1 V0 (.k 6) (D1 V1 (.k 6) .n)) rfl (by assumption) this)
 have hj:ay P0 [] 56 (bp 24) (Mr l k) (match bd 24 2 with|.Return (some e) _=>e|_=>gK)=some (.str (mk (l.flatMap (tU k)))):=by
  refine mc rfl rfl rfl (by decide) (by decide) (ov:=.str (aJ "")) (by lia) (iy (λy z h=>by exact b5 h) hc ci) (λz h=>by exact V.noConfusion h) ?_;have:∀vs:List V,nE [] (.str (aJ "")) (aJ "join") [.lst vs]=(tu vs).bind λys=>if JoinOk (aJ "") ys then some (.str (ajN (aJ "") ys))else ah:=λvs=>by lia
  refine(this _).trans ?_;have e:=Ek (l.map (tU k));replace e:=bF▸e;rw[show(λc=>V.str (mk (tU k c)))=(λp=>V.str (mk p))∘tU k from rfl,e,b6,aP (B5 _ hf),HE];rfl
 exact kN hj rfl
theorem Jz(l:List Nat)(k:Nat)(hk:k<5)(hl:l.length<=2):rg 24 gL [.str (mk l),.int (k:Int)]=some (.str (mk (l.flatMap (tU k)))):=by refine on (v0:=.str (mk (l.flatMap (tU k)))) rfl rfl (out:=(.ret (.str (mk (l.flatMap (tU k)))),Mr l k,[])) ?_ rfl rfl;exact am PJ ((aB (R5 l k hk)).trans ((aB (R4 l k hk)).trans (dS (R3 l k hk hl) (by simp))))
theorem qL{l:List Nat}(hl:l.length<=2):∀k,k<5->rg (16+k) gL [.str (mk l)]=some (.str (mk (l.flatMap (tU k)))):=
 rJ (by rw[ad3 hl,jT]) (by rw[ad2 hl,jT]) (by rw[ad1 hl,jT]) (by rw[ad0 hl,jT]) (by rw[adZ hl,jT])
noncomputable def iv(n:Nat):V:=.int (n:Int)
section
variable{gA:St}{n l k:Nat}{o a b:Expr}{m:aq}{u:V}{vs vs1:List V}
theorem Nu{p q:Pos}(h1:ft o=aj)(h2:(p.endLine==q.line)=aj):¬(!(ft o)||!(p.endLine==q.line))=aj:=by refine am h1 (am h2 ?_);decide
theorem OL(h:k<=vs.length):wU vs (k:Int) u=some (vs.take k++u::vs.drop k):=aP ⟨lV k,eR.mpr h⟩
set_option smartUnfolding false in
theorem sW{s:cy}(he:s=.Expr (.Call (.Attribute o m ap) [a,b] [] cp) q)(hm:m=aJ "insert")(h1:ft o=aj)(h2:(ap.endLine==cp.line)=aj)(ho:ay P st n sc σ o=some (.loc l))(Ae:st[l]?=some vs)(hl:vs.length<=10000)
  (ha:ay P st n sc σ a=some (.int (k:Int))) (hb:fw P n sc σ n st b=some (u,gA)) (ac7:gA[l]?=some vs1) (KZ:vs1.length<=10000) (hk:k<=vs1.length):bi P (n+1) sc σ st s=some (.next,σ,fX gA l (vs1.take k++u::vs1.drop k)):=by
 subst he hm;refine(bg (Nu h1 h2)).trans (ck ho (Hf Ae ((aP hl).trans ((bg (by decide)).trans ((bg (by decide)).trans ((aP rfl).trans (ck ha (ck hb (Hf ac7 ((aP KZ).trans (kN (OL hk) rfl)))))))))))
set_option smartUnfolding false in
theorem sX{s:cy}(he:s=.Expr (.Call (.Attribute o m ap) [a] [] cp) q)(hm:m=aJ "append")(h1:ft o=aj)(h2:(ap.endLine==cp.line)=aj)(ho:ay P st n sc σ o=some (.loc l))(Ae:st[l]?=some vs)(hl:vs.length<=10000)
  (ha:ay P st n sc σ a=some u):bi P (n+1) sc σ st s=some (.next,σ,fX st l (vs++[u])):=by
 subst he hm;exact(bg (Nu h1 h2)).trans (ck ho (Hf Ae ((aP hl).trans ((aP rfl).trans (kN ha rfl)))))
theorem PS(he:s=.For t i body [] q)(hi:nu P st n sc σ i=some (.fixed vs)):bi P (n+1) sc σ st s=pL (λv σ st=>(dq sc t v σ).bind λcR=>bW P n sc cR st body) vs σ st:=by subst he;exact ck hi rfl
end
theorem yp(st:St):∀D:List Nat,(D.map iv).mapM (dO st 8)=some (D.map λn:Nat=>eP (n:Int))
 |[]=>rfl
 |a::r=>by refine am aY (am bj (am (yp st r) ?_));rfl
theorem ki(D:List Nat):bJ (.list (D.map λn:Nat=>eP (n:Int)))=aj:=by have e:=ke_shaped_ints (D.map λn:Nat=>(n:Int));rw[bF]at e;exact e
theorem u9(p:Nat):bJ (.int (p:Int))=aj:=by simp[bJ,fj,cV,dG]
theorem DQ(a p:Nat):bQ (.int (a:Int)) (.int (p:Int))=(a==p):=by show((a:Int)==(p:Int))=_;rw[dm,cw,cw];exact o91
theorem rq{st:St}{o:V}{D:List Nat}{p:Nat}(ho:eF st o=some (D.map iv))(hp:p∈D)(hn:∀x,o≠.str x):nE st o (aJ "index") [iv p]=some (iv (D.idxOf p)):=by
 have h1:nE st o (aJ "index") [iv p]=match eF st o,dO st 8 (iv p)with
   |some vs,some d=>match vs.mapM (dO st 8)with
    |some ds=>if bJ (.list ds)&&bJ d then(ds.findIdx? λe=>bQ e d).map λj=>V.int j else af
    |af=>af
   |_,_=>af:=by
  cases o<;>first|(exact bV rfl (hn _))|lia
 refine am h1 ?_;refine am ho ?_;show(match(D.map iv).mapM (dO st 8)with
    |some ds=>if bJ (.list ds)&&bJ (.int (p:Int))then(ds.findIdx? λe=>bQ e (.int (p:Int))).map λj=>V.int j else af
    |af=>af)=_
 rw[yp];show(if bJ (.list (D.map λn:Nat=>eP (n:Int)))&&bJ (.int (p:Int))then((D.map λn:Nat=>eP (n:Int)).findIdx? λe=>bQ e (.int (p:Int))).map λj=>V.int j else af)=_;rw[ki,u9,akq];have:((λe=>bQ e (.int (p:Int)))∘λn:Nat=>eP (n:Int))=λa=>a==p:=funext λa=>DQ a p;rw[this];have:D.findIdx? (λa=>a==p)=some (D.idxOf p):=by have h:=List.findIdx?_eq_some_of_exists (xs:=D) (p:=λa=>a==p) ⟨p,hp,c6 p⟩;exact h
 rw[this];rfl
theorem yq{st:St}{o:V}{D:List Nat}{p:Nat}(ho:eF st o=some (D.map iv))(hn:∀x,o≠.str x):Gf st (iv p) o=some (decide (p∈D)):=by
 have h1:Gf st (iv p) o=match eF st o,dO st 8 (iv p)with
  |some vs,some d=>match vs.mapM (dO st 8)with
   |some ds=>if bJ (.list ds)&&bJ d then some (ds.any λe=>bQ e d)else af
   |af=>af
  |_,_=>af:=by
  cases o<;>first|(exact bV rfl (hn _))|lia
 refine am h1 ?_;refine am ho ?_;show(match(D.map iv).mapM (dO st 8)with
    |some ds=>if bJ (.list ds)&&bJ (.int (p:Int))then some (ds.any λe=>bQ e (.int (p:Int)))else af
    |af=>af)=_
 rw[yp];show(if bJ (.list (D.map λn:Nat=>eP (n:Int)))&&bJ (.int (p:Int))then some ((D.map λn:Nat=>eP (n:Int)).any λe=>bQ e (.int (p:Int)))else af)=_;rw[ki,u9,Jo];have:((λe=>bQ e (.int (p:Int)))∘λn:Nat=>eP (n:Int))=λa=>a==p:=funext λa=>DQ a p;rw[this,aP (by decide)];refine congrArg some ?_;rw[dm,vU,bH];constructor
 ·intro qz;refine cW qz λx h e=>?_;rw[cw]at e;exact e▸h
 ·intro h;exact jW p h (c6 p)
structure dh  where
 h:Nat
 c:Nat
 p:Nat
 t:Option (List Nat)
 deriving DecidableEq
noncomputable def tv:Option (List Nat)->V
 |none=>.none
 |some l=>.str (mk l)
noncomputable def cF(m:dh):V:=.tup [iv m.h,iv m.c,iv m.p,tv m.t]
noncomputable def num(m:dh):Nat:=3*m.c+m.h
noncomputable def np(m:dh):Nat×Nat:=(num m,m.p)
noncomputable def nR(x:Nat×Nat):List (Nat×Nat)->List (Nat×Nat)
 |[]=>[x]
 |y::r=>if x.1<y.1 then x::y::r else y::nR x r
noncomputable def g9(l:List (Nat×Nat)):List (Nat×Nat):=l.foldr nR []
noncomputable def ez(D:List Nat)(e:Nat×Nat):List Nat:=if e.2=0 then e.1::D else D.take (D.idxOf e.2+1)++e.1::D.drop (D.idxOf e.2+1)
noncomputable def ka(ms:List dh):List dh:=ms.filter λm=>m.t.isSome
noncomputable def vz(ms:List dh):List Nat:=(g9 ((ka ms).map np)).foldl ez []
noncomputable def F0:List (Nat×Nat)->List Nat->Prop
 |[],_=>True
 |e::r,D=>(e.2=0\/e.2∈D)/\F0 r (ez D e)
noncomputable def pr(e:Nat×Nat):Int×Int:=((e.1:Int),(e.2:Int))
theorem Df(x:Nat×Nat):∀l,xr (pr x) (l.map pr)=(nR x l).map pr
 |[]=>rfl
 |y::r=>by
  show(if(x.1:Int)<(y.1:Int)then pr x::pr y::r.map pr else pr y::xr (pr x) (r.map pr))=(if x.1<y.1 then x::y::r else y::nR x r).map pr;refine am (Df x r) ?_;by_cases h:x.1<y.1
  ·refine am (aP h) (am (aP (o66 h)) ?_);rfl
  ·refine am (bg h) (am (bg (aab h)) ?_);rfl
theorem zS:∀l:List (Nat×Nat),pU (l.map pr)=(g9 l).map pr
 |[]=>rfl
 |x::r=>by show xr (pr x) (pU (r.map pr))=(nR x (g9 r)).map pr;rw[zS r,Df]
theorem EE{st:St}(hl:l.length<=7)(hn:(l.map (·.1)).Nodup):fk st (aJ "sorted") [.lst (l.map λe=>ij (pr e))]=some (.lst ((g9 l).map λe=>ij (pr e))):=by
 have h:∀vs:List V,fk st (aJ "sorted") [.lst vs]=(vs.mapM sf).bind λps=>if(ps.map (·.1)).Nodup/\ps.length<=7 then some (.lst ((pU ps).map ij))else af:=λvs=>by lia
 have h2:∀l:List (Nat×Nat),(l.map λe=>ij (pr e)).mapM sf=some (l.map pr):=λl=>by
  induction l with
  |nil=>rfl
  |cons a r ih=>refine am aY (am bj (am ih ?_));rfl
 rw[h,h2,b6,aP,zS,bF]
 ·rfl
 ·refine⟨?_,by rw[aL];exact hl⟩;refine am bF ?_;have:(akZ∘pr:Nat×Nat->Int)=(λn:Nat=>(n:Int))∘akZ:=rfl;refine am this (jj bF ?_);exact hn.map _ (λa b h q=>h (by exact_mod_cast q))
noncomputable def sd0(ms:List dh):Sg:=[(aJ "messages",.lst (ms.map cF))]
noncomputable def N6(ms:List dh):Sg:=[(aJ "messages",.lst (ms.map cF)),(aJ "row",.loc 0)]
noncomputable def GQ(ms:List dh)(e:Nat×Nat):Sg:=[(aJ "messages",.lst (ms.map cF)),(aJ "row",.loc 0),(aJ "number",iv e.1),(aJ "port",iv e.2)]
noncomputable def N5(ms:List dh):Option (Nat×Nat)->Sg
 |none=>N6 ms
 |some e=>GQ ms e
theorem PG:(dc 27).body=[bd 27 0,bd 27 1,bd 27 2]:=by lia
noncomputable def TM:Expr:=match bd 27 1 with
 |.For _ i _ _ _=>i
 |_=>gK
noncomputable def Wb:List cy:=match bd 27 1 with
 |.For _ _ b _ _=>b
 |_=>[]
noncomputable def itT:Expr:=match bd 27 1 with
 |.For t _ _ _ _=>t
 |_=>gK
noncomputable def Wa:Expr:=match TM with
 |.Call _ [c] _ _=>c
 |_=>gK
noncomputable def icE:Expr:=match Wa with
 |.ListComp e _ _ _=>e
 |_=>gK
noncomputable def icS:jm:=match Wa with
 |.ListComp _ _ s _=>s
 |_=>default
noncomputable def icI:List Expr:=match Wa with
 |.ListComp _ [g] _ _=>g.ifs
 |_=>[]
theorem R1(ms:List dh):bi P0 59 (bp 27) (sd0 ms) [] (bd 27 0)=some (.next,N6 ms,[[]]):=by lia
noncomputable def kU(v:V):V:=match v with
 |.tup [.int h,.int c,.int p,_]=>.tup [.int (3*c+h),.int p]
 |v=>v
noncomputable def uj(v:V):Bool:=match v with
 |.tup [_,_,_,.none]=>an
 |_=>aj
theorem uN{n:Nat}(h:n<100000):EF (n:Int)=aj:=C8 (by exact dD _ 1 (S1 V0) (.k 4611686018427387904) (D1 (S1 V0) (.k 100000) .n) rfl h)
theorem qk{a b:Nat}(ha:a<100000)(hb:b<100000):eX .Mult (iv a) (iv b)=some (iv (a*b)):=by show(if EF (a:Int)&&EF (b:Int)then some (V.int ((a:Int)*(b:Int)))else ah)=_;refine am (uN ha) (am (uN hb) ?_);rfl
theorem c27(ms:List dh)(σ:Sg)(m:dh)(hc:m.c<1000):((gx P0 [[]] 54 icS.names ((aJ "one",cF m)::σ) icI).bind λok=>if ok then(ay P0 [[]] 54 icS.names ((aJ "one",cF m)::σ) icE).map some else some af)=some (if uj (cF m)then some (kU (cF m))else ah):=by
 obtain⟨h,c,p,t⟩:=m
 cases t with
 |none=>lia
 |some l=>
  have e:ay P0 [[]] 54 icS.names ((aJ "one",cF ⟨h,c,p,some l⟩)::σ) icE=some (kU (cF ⟨h,c,p,some l⟩)):=by refine(sZ (vs:=[.int (3*(c:Int)+(h:Int)),iv p]) rfl (by decide) (iy (λy z h=>by exact b5 h) (bn rfl (a:=iv (3*c)) (b:=iv h) (bn rfl (a:=iv 3) (b:=iv c) (by lia) (by lia) (qk o92 (by simp at hc;exact o3 hc))) (by lia) ?_) (by lia))).trans rfl;lia
  refine am e ?_;lia
theorem sF:∀ms:List dh,((ms.map cF).filter uj).map kU=((ka ms).map np).map λe=>ij (pr e)
 |[]=>rfl
 |⟨h,c,p,ah⟩::r=>sF r
 |⟨h,c,p,some l⟩::r=>by have ih:=sF r;show kU (cF ⟨h,c,p,some l⟩)::(((r.map cF).filter uj).map kU)=ij (pr (np ⟨h,c,p,some l⟩))::((ka r).map np).map λe=>ij (pr e);refine am ih ?_;rfl
theorem acN(ms:List dh)(hc:∀m∈ms,m.c<1000)(hl:ms.length<=7)(hn:(((ka ms).map np).map (·.1)).Nodup):nu P0 [[]] 57 (bp 27) (N6 ms) TM=some (.fixed ((g9 ((ka ms).map np)).map λe=>ij (pr e))):=by
 have h1:nu P0 [[]] 57 (bp 27) (N6 ms) TM=(ay P0 [[]] 57 (bp 27) (N6 ms) TM).bind (wm [[]]):=by lia
 have HZ:ay P0 [[]] 55 (bp 27) (N6 ms) Wa=some (.lst (((ka ms).map np).map λe=>ij (pr e))):=by
  refine(fK rfl (by lia) (by lia) (items:=ms.map cF) (us:=((ka ms).map np).map λe=>ij (pr e)) (by lia) ?_);rw[<-sF];exact km (g:=kU) (t:=uj) _ λv hv=>by refine cW (bw.mp hv) λm hm fC=>?_;subst fC;exact c27 ms _ m (hc m hm)
 have h2:ay P0 [[]] 57 (bp 27) (N6 ms) TM=some (.lst ((g9 ((ka ms).map np)).map λe=>ij (pr e))):=
  gh rfl (by decide) (by lia) (by lia) (by decide) (iy (λy z h=>by exact b5 h) HZ ci) (EE (by have:(ka ms).length<=ms.length:=jM _ _;rw[aL];exact Z9 this hl) hn)
 refine am h1 (am h2 ?_);rfl
theorem HJ{D:List Nat}(h:p∈D):D.idxOf p<D.length:=uc.mpr h
noncomputable def OM:Expr:=match Wb with
 |[.Expr (.Call _ [a,_] _ _) _]=>a
 |_=>gK
theorem b27(ms:List dh)(D:List Nat)(e:Nat×Nat)(h:e.2=0\/e.2∈D)(hl:D.length<=1000):bW P0 57 (bp 27) (GQ ms e) [D.map iv] Wb=some (.next,GQ ms e,[(ez D e).map iv]):=by
 have ht:∀c,decide (e.2=0)=c->bY P0 [D.map iv] 54 (bp 27) (GQ ms e) (match OM with|.IfExp t _ _ _=>t|_=>gK)=some c:=λc hc=>by refine dt rfl rfl (a:=iv e.2) (b:=.int 0) (by lia) (by lia) ?_;show some ((e.2:Int)==0)=_;refine jj hc (congrArg some ?_);rw[dm,cw,bH];exact o80
 have ho:ay P0 [D.map iv] 55 (bp 27) (GQ ms e) (.Name (aJ "row") ⟨197,8,197,11⟩)=some (.loc 0):=by lia
 by_cases h0:e.2=0
 ·have ha:ay P0 [D.map iv] 55 (bp 27) (GQ ms e) OM=some (.int ((0:Nat):Int)):=oV rfl (ht aj (aU h0)) (by lia);have hb:fw P0 55 (bp 27) (GQ ms e) 55 [D.map iv] (.Name (aJ "number") ⟨197,60,197,66⟩)=some (iv e.1,[D.map iv]):=by lia
  refine(aB (sW (l:=0) (u:=iv e.1) (gA:=[D.map iv]) (k:=0) (vs:=D.map iv) (vs1:=D.map iv) rfl rfl rfl (by decide) (by lia) rfl (by rw[aL];exact o0 hl) ha (by lia) rfl (by rw[aL];exact o0 hl) (bo _))).trans (dY.trans ?_);unfold ez;refine am (aP h0) ?_;rfl
 ·have hp:=h.resolve_left h0;have ha:ay P0 [D.map iv] 55 (bp 27) (GQ ms e) OM=some (.int ((D.idxOf e.2+1:Nat):Int)):=by refine oV rfl (ht an (aW h0)) (bn rfl (a:=iv (D.idxOf e.2)) (b:=.int 1) (mc rfl rfl rfl (by decide) (by decide) (ov:=.loc 0) (by lia) (iy (λy z h=>by exact b5 h) (a:=iv e.2) (by lia) ci) (λz h=>by exact V.noConfusion h) (rq rfl hp λx q=>by exact V.noConfusion q)) (by lia) rfl)
  refine(aB (sW (l:=0) (u:=iv e.1) (gA:=[D.map iv]) (k:=D.idxOf e.2+1) (vs:=D.map iv) (vs1:=D.map iv) rfl rfl rfl (by decide) (by lia) rfl (by rw[aL];exact o0 hl) ha (by lia) rfl (by rw[aL];exact o0 hl) (by rw[aL];exact HJ hp))).trans (dY.trans ?_);unfold ez;refine am (bg h0) ?_;show some (Fl.next,GQ ms e,[_])=some (Fl.next,GQ ms e,[_]);exact am d8 (am aY (am ub (am nZ rfl)))
theorem z9(D:List Nat)(e:Nat×Nat):(ez D e).length=D.length+1:=by
 unfold ez;split
 ·rfl
 ·simp only[aE,aS,eg,da];exact aaA
theorem US(ms:List dh)(es:List (Nat×Nat)):∀(D:List Nat) (o:Option (Nat×Nat)),F0 es D->D.length+es.length<=1000->
  ∃o',pL (λv σ st=>(dq (bp 27) itT v σ).bind λcR=>bW P0 57 (bp 27) cR st Wb) (es.map λe=>ij (pr e)) (N5 ms o) [D.map iv]=some (.next,N5 ms o',[(es.foldl ez D).map iv]):=by
 induction es with
 |nil=>
  exact λD o _ _=>⟨o,rfl⟩
 |cons e r ih=>
  exact λD o hf hl=>by
   simp only[aS]at hl;refine eE (ih (ez D e) (some e) hf.2 (by rw[z9];exact(dp _ _ 1 (.p (S1 V0) V1) (.k 1000) (D1 (.p V0 (S1 V1)) (.k 1000) .n) rfl hl))) λo' h=>?_;refine⟨o',?_⟩;have hb:dq (bp 27) itT (ij (pr e)) (N5 ms o)=some (GQ ms e):=by cases o<;>lia
   show((dq (bp 27) itT (ij (pr e)) (N5 ms o)).bind λcR=>bW P0 57 (bp 27) cR [D.map iv] Wb).bind _=_;rw[hb,b6,b27 ms D e hf.1 (aaz hl)];exact h
theorem RZ(ms:List dh)(o:Option (Nat×Nat))(vs:List V):bi P0 57 (bp 27) (N5 ms o) [vs] (bd 27 2)=some (.ret (.loc 0),N5 ms o,[vs]):=by cases o<;>lia
theorem rI(D:List Nat):∀(st:St) (k:Nat),(D.map iv).mapM (ek st (k+1))=some (D.map iv):=by
 induction D with
 |nil=>
  exact λ_ _=>rfl
 |cons a r ih=>
  exact λst k=>by rw[aY,bj,ih];rfl
theorem rH:∀ms:List dh,jX (ms.map cF)=aj
 |[]=>rfl
 |⟨h,c,p,ah⟩::r=>by have:=rH r;simp only[aY,jX,this,jJ];rfl
 |⟨h,c,p,some l⟩::r=>by have:=rH r;simp only[aY,jX,this,jJ];rfl
theorem yL(ms:List dh)(hc:∀m∈ms,m.c<1000)(hl:ms.length<=7)(hn:(((ka ms).map np).map (·.1)).Nodup)(hf:F0 (g9 ((ka ms).map np)) []):rg 27 gL [.lst (ms.map cF)]=some (.lst ((vz ms).map iv)):=by
 have hlen:(g9 ((ka ms).map np)).length<=1000:=by
  have h1:∀l:List (Nat×Nat),(g9 l).length=l.length:=λl=>by
   induction l with
   |nil=>rfl
   |cons x r ih=>
    have h2:∀l:List (Nat×Nat),(nR x l).length=l.length+1:=λl=>by
     induction l with
     |nil=>rfl
     |cons y q ih=>unfold nR;split<;>simp[*]
    show(nR x (g9 r)).length=_;rw[h2,ih];rfl
  have:(ka ms).length<=ms.length:=jM _ _;rw[h1,aL];exact(dp _ _ 1 V0 (.k 1000) (D1 V0 V1 (D1 V1 (.k 7) .n)) rfl this hl)
 refine eE (US ms _ [] ah hf (by simpa using hlen)) λo' h=>?_;refine on (v0:=.loc 0) (v:=.lst ((vz ms).map iv)) rfl (by show(jX (ms.map cF)&&aj)=aj;rw[rH];rfl) (out:=(.ret (.loc 0),N5 ms o',[(vz ms).map iv])) ?_ rfl ?_
 ·refine am PG ((aB (R1 ms)).trans ((aB (PS rfl (acN ms hc hl hn)|>.trans h)).trans (dS (RZ ms o' _) (by simp))))
 ·show(((vz ms).map iv).mapM (ek [(vz ms).map iv] 7)).map V.lst=_;rw[rI];rfl
theorem sV{P:pD}{n:Nat}{sc:Sc}{σ cR:Sg}{st gA:St}(he:s=.Assign [.Tuple ts k p] e q)(hr:zV e=aj)(hs:oA sc (.Tuple ts k p) e=aj)(h:fw P n sc σ n st e=some (u,gA))(hb:dq sc (.Tuple ts k p) u σ=some cR):bi P (n+1) sc σ st s=some (.next,cR,gA):=by
 subst he;have k:(if oA sc (.Tuple ts k p) e then(fw P n sc σ n st e).bind λo=>(dq sc (.Tuple ts k p) o.1 σ).map λcR=>(Fl.next,cR,o.2)else ah)=some (.next,cR,gA):=(aP hs).trans (ck h (kN hb rfl))
 rcases e with _|_|_|_|_|_|_|_|_|_|_|_|_|_|_|_|⟨f,args,qm,p'⟩|_|_|_|_|_|_|_|_|_|_<;>try first|exact k|exact(hK hr).elim
 rcases f with _|_|_|_|_|_|_|_|_|_|_|_|_|_|_|_|_|_|_|_|_|_|_|_|_|_|_<;>first|exact k|exact(hK hr).elim
structure bS  where
 w:V
 r:Nat
 dQ:Nat
 sh:Nat
 mC:Nat
noncomputable def dx(x:bS):V:=.tup [x.w,iv x.r,iv x.dQ,iv x.sh,iv x.mC]
noncomputable def Ny:aN->List V->Option V:=λa vs=>if a=168 then rg 24 gL vs else ah
noncomputable abbrev P1:pD:=MK Ny
noncomputable def FU(n:Nat)(ms:List dh)(hs:List bS):Sg:=[(aJ "number",iv n),(aJ "sent",.lst (ms.map cF)),(aJ "hands",.lst (hs.map dx))]
noncomputable def Xm(n:Nat)(ms:List dh)(hs:List bS)(m:dh):Sg:=FU n ms hs++[(aJ "hand",iv m.h),(aJ "count",iv m.c),(aJ "port",iv m.p),(aJ "piece",tv m.t)]
noncomputable def Mp(n:Nat)(ms:List dh)(hs:List bS)(m:dh)(x:bS)(s:Nat):Sg:=Xm n ms hs m++[(aJ "word",x.w),(aJ "rank",iv x.r),(aJ "hue",iv x.dQ),(aJ "share",iv s),(aJ "pen",iv x.mC)]
theorem PF:(dc 28).body=[bd 28 0,bd 28 1,bd 28 2,bd 28 3,bd 28 4,bd 28 5]:=by lia
noncomputable def w0E:Expr:=match bd 28 0 with
 |.Assign _ e _=>e
 |_=>gK
noncomputable def VN:Expr:=match w0E with
 |.Subscript e _ _=>e
 |_=>gK
noncomputable def Qs:List Expr:=match VN with
 |.ListComp _ [g] _ _=>g.ifs
 |_=>[]
noncomputable def Mg:jm:=match VN with
 |.ListComp _ _ s _=>s
 |_=>default
noncomputable def w0X:Expr:=match VN with
 |.ListComp e _ _ _=>e
 |_=>gK
noncomputable def CV(n:Nat)(v:V):Bool:=match v with
 |.tup [.int h,.int c,_,t]=>(match t with|.none=>an|_=>aj)&&(3*c+h==(n:Int))
 |_=>an
theorem pz(a b:Nat):((a:Int)==(b:Int))=(a==b):=by rw[dm,cw,cw];exact o91
theorem c28(n:Nat)(ms:List dh)(hs:List bS)(m:dh)(hc:m.c<1000):((gx P1 [] 56 Mg.names ((aJ "one",cF m)::FU n ms hs) Qs).bind λok=>if ok then(ay P1 [] 56 Mg.names ((aJ "one",cF m)::FU n ms hs) w0X).map some else some af)=some (if CV n (cF m)then some (id (cF m))else ah):=by
 obtain⟨h,c,p,t⟩:=m
 cases t with
 |none=>lia
 |some l=>
  have e:gx P1 [] 56 Mg.names ((aJ "one",cF ⟨h,c,p,some l⟩)::FU n ms hs) Qs=some (((3*c+h:Nat):Int)==(n:Int)):=by
   show bY P1 [] 55 Mg.names ((aJ "one",cF ⟨h,c,p,some l⟩)::FU n ms hs) (Qs.headD gK)=_;refine gs rfl (by lia) ?_;have:∀b,bY P1 [] 53 Mg.names ((aJ "one",cF ⟨h,c,p,some l⟩)::FU n ms hs) (match Qs with|[.BoolOp _ [_,x] _]=>x|_=>gK)=some b->bY P1 [] 54 Mg.names ((aJ "one",cF ⟨h,c,p,some l⟩)::FU n ms hs) (match Qs with|[.BoolOp o [_,x] q]=>.BoolOp o [x] q|_=>gK)=some b:=λb hb=>by
    cases b with
    |true=>exact gs rfl hb rO
    |false=>exact kt rfl hb
   refine this _ (dt rfl rfl (bn rfl (a:=iv (3*c)) (b:=iv h) (bn rfl (a:=iv 3) (b:=iv c) (by lia) (by lia) (qk o92 (by simp at hc;exact o3 hc))) (by lia) (u:=iv (3*c+h)) rfl) (b:=iv n) (by lia) rfl)
  rw[e];show(if(((3*c+h:Nat):Int)==(n:Int))=aj then _ else _)=some (if(aj&&(3*(c:Int)+(h:Int)==(n:Int)))=aj then _ else _);rw[jI];by_cases q:(((3*c+h:Nat):Int)==(n:Int))=aj
  ·refine am (aP q) ?_;refine am (aP q) ?_;lia
  ·refine am (bg q) ?_;refine am (bg q) ?_;rfl
theorem yg(n:Nat):∀ms:List dh,(ms.map cF).filter (CV n)=(ms.filter λm=>m.t.isSome&&(num m==n)).map cF
 |[]=>rfl
 |⟨h,c,p,ah⟩::r=>yg n r
 |⟨h,c,p,some l⟩::r=>by
  have ih:=yg n r;have e:CV n (cF ⟨h,c,p,some l⟩)=(num ⟨h,c,p,some l⟩==n):=by show(aj&&(3*(c:Int)+(h:Int)==(n:Int)))=_;rw[jI,<-pz];rfl
  refine am aY (am nX (am nX (am e ?_)));show(if(num ⟨h,c,p,some l⟩==n)=aj then _ else _)=rW cF (if(aj&&(num ⟨h,c,p,some l⟩==n))=aj then _ else _);rw[jI,ih];split<;>rfl
theorem RY(hc:∀m∈ms,m.c<1000)(hm:(ms.filter λm=>m.t.isSome&&(num m==n))=m::q):bi P1 59 (bp 28) (FU n ms hs) [] (bd 28 0)=some (.next,Xm n ms hs m,[]):=by
 have HZ:ay P1 [] 57 (bp 28) (FU n ms hs) VN=some (.lst ((m::q).map cF)):=by
  refine(fK rfl (by lia) (by lia) (items:=ms.map cF) (us:=(m::q).map cF) (by lia) ?_);rw[<-hm,<-yg];have:=km (g:=id) (t:=CV n) (ms.map cF) (f:=λv=>(gx P1 [] 56 Mg.names ((aJ "one",v)::FU n ms hs) Qs).bind λok=>if ok then(ay P1 [] 56 Mg.names ((aJ "one",v)::FU n ms hs) w0X).map some else some af) λv hv=>by refine cW (bw.mp hv) λm hm fC=>?_;subst fC;exact c28 n ms hs m (hc m hm)
  rw[tP]at this;exact this
 have he:ay P1 [] 58 (bp 28) (FU n ms hs) w0E=some (cF m):=cL rfl rfl HZ (b:=.int ((0:Nat):Int)) (by lia) (j6 rfl);exact sV rfl rfl rfl (yP he) (by lia)
noncomputable def wI(v:V):V:=match v with
 |.tup [_,_,p,t]=>.tup [t,p]
 |v=>v
noncomputable def MD:Option (List Nat)->pd
 |none=>.none
 |some l=>.str (mk l)
noncomputable def SO(t:Option (List Nat)):Prop:=∀l,t=some l->∀c∈l,c<1114112
theorem zA{l:List Nat}(h:∀c∈l,c<1114112):ic (mk l)=aj:=by show(mk l).cps.all (λc=>decide (c<0x110000))=aj;rw[Array.all_eq_true];intro i hi;exact aU (h _ (iY (l:=l) (by simpa using hi)))
theorem uX(st:St):∀ms:List dh,((ms.map cF).map wI).mapM (dO st 8)=some (ms.map λm=>ua [MD m.t,.int (m.p:Int)])
 |[]=>rfl
 |⟨h,c,p,ah⟩::r=>by refine am aY (am aY (am bj (am (uX st r) ?_)));rfl
 |⟨h,c,p,some l⟩::r=>by refine am aY (am aY (am bj (am (uX st r) ?_)));rfl
theorem sA:∀ms:List dh,(∀m∈ms,SO m.t)->cg (ms.map λm=>ua [MD m.t,.int (m.p:Int)])=aj/\dv (ms.map λm=>ua [MD m.t,.int (m.p:Int)])<=1
 |[],_=>⟨rfl,bo _⟩
 |⟨h,c,p,ah⟩::r,hk=>by refine eA (sA r λm hm=>hk m (.tail _ hm)) λh1 h2=>am aY ?_;generalize (r.map λm=>ua [MD m.t,.int (m.p:Int)])=q at h1 h2⊢;simp only[cg,cV,dv,dG,MD,h1,jJ];exact⟨trivial,o82 h2⟩
 |⟨h,c,p,some l⟩::r,hk=>by refine eA (sA r λm hm=>hk m (.tail _ hm)) λh1 h2=>am aY ?_;generalize (r.map λm=>ua [MD m.t,.int (m.p:Int)])=q at h1 h2⊢;simp only[cg,cV,dv,dG,MD,h1,jJ,zA (hk ⟨h,c,p,some l⟩ (.head _) l rfl)];exact⟨trivial,o82 h2⟩
noncomputable def mA(ms:List dh)(n:Nat):Bool:=ms.any λm=>m.t.isNone&&(m.p==n)
theorem Em{st:St}{ms:List dh}{n:Nat}(hk:∀m∈ms,SO m.t):Gf st (.tup [.none,iv n]) (.lst ((ms.map cF).map wI))=some (mA ms n):=by
 have h1:Gf st (.tup [.none,iv n]) (.lst ((ms.map cF).map wI))=match((ms.map cF).map wI).mapM (dO st 8)with
   |some ds=>if bJ (.list ds)&&bJ (.tuple [.none,.int (n:Int)])then some (ds.any λe=>bQ e (.tuple [.none,.int (n:Int)]))else af
   |af=>af:=by lia
 rw[h1,uX];dsimp only;refine eA (sA ms hk) λh2 h3=>?_;have hs:bJ (.list (ms.map λm=>ua [MD m.t,.int (m.p:Int)]))=aj:=by unfold bJ fj;simp only[cV,dG,h2,jI];exact aU (by exact dD _ 1 (S1 V0) (.k 64) (D1 V0 K1 .n) rfl h3)
 have tG:bJ (.tuple [.none,.int (n:Int)])=aj:=by unfold bJ fj;simp[cV,cg,dG,dv]
 rw[hs,tG,aP (by decide),Jo];refine congrArg some ?_;unfold mA;refine congrArg (λf=>ms.any f) (funext λm=>?_);obtain⟨h,c,p,t⟩:=m
 cases t with
 |none=>
  show bQ (.tuple [.none,.int (p:Int)]) (.tuple [.none,.int (n:Int)])=(aj&&(p==n));rw[jI,<-pz];show(aj&&(((p:Int)==n)&&aj))=_;simp
 |some l=>rfl
section
variable{n:Nat}{ms:List dh}{hs:List bS}{m:dh}{x:bS}{s:Nat}
theorem RX(hx:hs[m.h]?=some x):bi P1 58 (bp 28) (Xm n ms hs m) [] (bd 28 1)=some (.next,Mp n ms hs m x x.sh,[]):=by
 have h1:((hs.map dx)[m.h]?)=some (dx x):=by refine am (cm) (am hx ?_);rfl
 exact sV rfl rfl rfl (yP (cL rfl rfl (a:=.lst (hs.map dx)) (b:=iv m.h) (by lia) (by lia) (j6 h1))) (by lia)
theorem Mk(hk:∀m∈ms,SO m.t):bY P1 [] 56 (bp 28) (Mp n ms hs m x s) (jo (bd 28 2))=some (mA ms n):=by refine dt rfl (by lia) (a:=.tup [.none,iv n]) (b:=.lst ((ms.map cF).map wI)) (by lia) ?_ (Em hk);refine fK rfl (by lia) (by lia) (items:=ms.map cF) (us:=(ms.map cF).map wI) (by lia) (jx _ λv hv=>?_);refine cW (bw.mp hv) λm _ fC=>?_;subst fC;lia
theorem Sw:bW P1 56 (bp 28) (Mp n ms hs m x s) [] (mr (bd 28 2))=some (.next,Mp n ms hs m x 0,[]):=by lia
theorem RW(hk:∀m∈ms,SO m.t):bi P1 57 (bp 28) (Mp n ms hs m x s) [] (bd 28 2)=some (.next,Mp n ms hs m x (if mA ms n then 0 else s),[]):=by
 cases h:mA ms n with
 |true=>exact fJ rfl ((Mk hk).trans (am h rfl)) Sw
 |false=>exact eG rfl ((Mk hk).trans (am h rfl)) rfl
noncomputable def vy(dQ k:Nat):Nat:=min 4 (min ((dQ+24-8*k)%24) ((8*k+24-dQ)%24)-4)
noncomputable def oM(dQ:Nat):List Nat:=[vy dQ 0,vy dQ 1,vy dQ 2]
noncomputable def Xl(n:Nat)(ms:List dh)(hs:List bS)(m:dh)(x:bS)(s:Nat):Sg:=Mp n ms hs m x s++[(aJ "falls",.lst ((oM x.dQ).map iv))]
theorem xH{p:Nat->Prop}(h:p 0/\p 1/\p 2/\p 3/\p 4/\p 5/\p 6/\p 7/\p 8/\p 9/\p 10/\p 11/\p 12/\p 13/\p 14/\p 15/\p 16/\p 17/\p 18/\p 19/\p 20/\p 21/\p 22/\p 23)(k:Nat)(hk:k<24):p k:=by obtain⟨h0,h1,h2,h3,h4,h5,h6,h7,h8,h9,h10,h11,Pn,h13,h14,h15,h16,h17,h18,h19,h20,h21,h22,h23⟩:=h;have:k=0\/k=1\/k=2\/k=3\/k=4\/k=5\/k=6\/k=7\/k=8\/k=9\/k=10\/k=11\/k=12\/k=13\/k=14\/k=15\/k=16\/k=17\/k=18\/k=19\/k=20\/k=21\/k=22\/k=23:=aaY hk;rcases this with rfl|rfl|rfl|rfl|rfl|rfl|rfl|rfl|rfl|rfl|rfl|rfl|rfl|rfl|rfl|rfl|rfl|rfl|rfl|rfl|rfl|rfl|rfl|rfl<;>assumption
theorem RV(w:V)(r dQ sh mC:Nat)(hh:dQ<24):bi P1 56 (bp 28) (Mp n ms hs m ⟨w,r,dQ,sh,mC⟩ s) [] (bd 28 3)=some (.next,Xl n ms hs m ⟨w,r,dQ,sh,mC⟩ s,[]):=by revert dQ;refine xH ?_;refine⟨?_,?_,?_,?_,?_,?_,?_,?_,?_,?_,?_,?_,?_,?_,?_,?_,?_,?_,?_,?_,?_,?_,?_,?_⟩<;>lia
noncomputable def C3(n:Nat)(ms:List dh)(hs:List bS)(m:dh)(x:bS)(s:Nat):Sg:=Xl n ms hs m x s++[(aJ "stamp",.loc 0)]
noncomputable def fW(m:dh)(x:bS):List V:=[iv 100,iv m.c,iv x.r,x.w]
theorem RU:bi P1 55 (bp 28) (Xl n ms hs m x s) [] (bd 28 4)=some (.next,C3 n ms hs m x s,[fW m x]):=by lia
end
noncomputable def nP:V->V
 |.int i=>.str (aJ (toString i))
 |v=>v
noncomputable def xZ(w:V):Prop:=w=.int 1\/∃y,w=.str y
theorem n6{st:St}{n:Nat}(h:n<100000):fk st (aJ "str") [iv n]=some (nP (iv n)):=by
 have:fk st (aJ "str") [iv n]=if EF (n:Int)then some (.str (aJ (toString (n:Int))))else ah:=by lia
 refine am this (am (uN h) ?_);rfl
noncomputable def uA:Expr->Bool
 |.Starred _ _=>aj
 |_=>an
theorem ce{P:pD}{st:St}{n:Nat}{sc:Sc}{σ:Sg}{e:Expr}{es:List Expr}{a:V}{vs:List V}(hs:uA e=an)(h:ay P st n sc σ e=some a)(k:b3 P st n sc σ es=some vs):b3 P st (n+1) sc σ (e::es)=some (a::vs):=
 iy (λy z q=>by subst q;exact bB hs) h k
noncomputable def r5:List Expr:=match bd 28 5 with
 |.Return (some (.List es _)) _=>es
 |_=>[]
noncomputable def FV(k:Nat):Expr:=r5.getD k gK
theorem Sv:r5=[FV 0,FV 1,FV 2,FV 3,FV 4,FV 5,FV 6]:=by lia
noncomputable def cS(k:Nat):jm:=match FV k with
 |.ListComp _ _ s _=>s
 |_=>default
noncomputable def cX(k:Nat):Expr:=match FV k with
 |.ListComp e _ _ _=>e
 |_=>gK
section
variable{n:Nat}{ms:List dh}{hs:List bS}{m:dh}{x:bS}{s:Nat}{l:List Nat}
theorem GC{σ:Sg}{w:V}(hw:xZ w):ay P1 [fW m x] 47 (cS 3).names ((aJ "part",w)::σ) (cX 3)=some (nP w):=by rcases hw with rfl|⟨y,rfl⟩<;>lia
theorem sp{σ:Sg}{k:Nat}(hk:k<100000):ay P1 [fW m x] 47 (cS 3).names ((aJ "part",iv k)::σ) (cX 3)=some (nP (iv k)):=
 gh rfl (by decide) (by lia) (by lia) (by decide) (iy (λy z h=>by exact b5 h) (a:=iv k) (by lia) ci) (n6 hk)
theorem W6{q:pD}(hq:q=P1)(ht:m.t=some l)(hp:x.mC<5)(hl:l.length<=2):ay q [fW m x] 49 (bp 28) (C3 n ms hs m x s) (FV 2)=some (.str (mk (l.flatMap (tU x.mC)))):=by
 subst hq;refine j2 (z:=168) (vs:=[.str (mk l),iv x.mC]) rfl (by decide) (by lia) (by lia) (iy (λy z h=>by exact b5 h) (a:=V.str (mk l)) ?_ (iy (λy z h=>by exact b5 h) (a:=iv x.mC) (by lia) ci)) ?_
 ·obtain⟨h,c,p,t⟩:=m;cases ht;lia
 ·exact Jz l x.mC hp hl
theorem W5(hw:xZ x.w)(hc:m.c<1000)(hr:x.r<1000):ay P1 [fW m x] 48 (bp 28) (C3 n ms hs m x s) (FV 3)=some (.lst ((fW m x).map nP)):=by
 refine(fK rfl (by lia) (by lia) (items:=fW m x) (us:=(fW m x).map nP) (by lia) (jx _ λv hv=>?_));have e:ay P1 [fW m x] 47 (cS 3).names ((aJ "part",v)::C3 n ms hs m x s) (cX 3)=some (nP v):=by
  simp only[fW,ax,bA,or_false]at hv;rcases hv with rfl|rfl|rfl|rfl
  ·exact sp (by decide)
  ·exact sp (o3 hc)
  ·exact sp (o3 hr)
  ·exact GC hw
 show(eZ (some aj) λok=>if ok=aj then(ay P1 [fW m x] 47 (cS 3).names ((aJ "part",v)::C3 n ms hs m x s) (cX 3)).map some else some ah)=_;refine am e ?_;rfl
theorem Lj(dQ k:Nat):vy dQ k<=4:=gH _ _
theorem W4(hc:m.c<1000)(QH:s<=4):ay P1 [fW m x] 46 (bp 28) (C3 n ms hs m x s) (FV 5)=some (.lst ((oM x.dQ).map λf=>iv (m.c*(16-s*f)))):=by
 refine(fK rfl (by lia) (by lia) (items:=(oM x.dQ).map iv) (us:=(oM x.dQ).map λf=>iv (m.c*(16-s*f))) (by lia) ?_);have e:=jx (g:=λv=>match v with|.int f=>iv (m.c*(16-s*f.toNat))|v=>v) (f:=λv=>(gx P1 [fW m x] 45 (cS 5).names ((aJ "fall",v)::C3 n ms hs m x s) []).bind λok=>if ok then(ay P1 [fW m x] 45 (cS 5).names ((aJ "fall",v)::C3 n ms hs m x s) (cX 5)).map some else some af) ((oM x.dQ).map iv) λv hv=>by
  refine cW (bw.mp hv) λf hf fC=>?_;subst fC;have hf4:f<=4:=by simp only[oM,ax,bA,or_false]at hf;rcases hf with rfl|rfl|rfl<;>exact Lj _ _
  have h16:s*f<=16:=ak1 QH hf4;have e1:ay P1 [fW m x] 45 (cS 5).names ((aJ "fall",iv f)::C3 n ms hs m x s) (cX 5)=some (iv (m.c*(16-s*f))):=by refine bn rfl (a:=iv m.c) (b:=iv (16-s*f)) (by lia) (bn rfl (a:=iv 16) (b:=iv (s*f)) (by lia) (bn rfl (a:=iv s) (b:=iv f) (by lia) (by lia) (qk (o76 QH) (o76 hf4))) ?_) (qk (o3 hc) abh);show some (V.int (16-((s*f:Nat):Int)))=some (V.int ((16-s*f:Nat):Int));congr 2;exact abg h16
  show(eZ (some aj) λok=>if ok=aj then(ay P1 [fW m x] 45 (cS 5).names ((aJ "fall",iv f)::C3 n ms hs m x s) (cX 5)).map some else some ah)=_;rw[e1];rfl
 rw[bF]at e;exact e
noncomputable def Gd(n:Nat)(m:dh)(l:List Nat)(x:bS)(s:Nat):V:=.lst [iv n,.lst (fW m x),.str (mk (l.flatMap (tU x.mC))),.lst ((fW m x).map nP),.bool aj,.lst ((oM x.dQ).map λf=>iv (m.c*(16-s*f))),iv s]
noncomputable def xC(n:Nat)(m:dh)(l:List Nat)(x:bS)(s:Nat):V:=.lst [iv n,.loc 0,.str (mk (l.flatMap (tU x.mC))),.lst ((fW m x).map nP),.bool aj,.lst ((oM x.dQ).map λf=>iv (m.c*(16-s*f))),iv s]
theorem RT(ht:m.t=some l)(hp:x.mC<5)(hl:l.length<=2)(hw:xZ x.w)(hc:m.c<1000)(hr:x.r<1000)(QH:s<=4):bi P1 54 (bp 28) (C3 n ms hs m x s) [fW m x] (bd 28 5)=some (.ret (xC n m l x s),C3 n ms hs m x s,[fW m x]):=by
 have e:ay P1 [fW m x] 53 (bp 28) (C3 n ms hs m x s) (match bd 28 5 with|.Return (some e) _=>e|_=>gK)=some (xC n m l x s):=by refine I0 (es:=r5) rfl (by decide) (am Sv ?_);exact ce (by lia) (a:=iv n) (by lia) (ce (by lia) (a:=.loc 0) (by lia) (ce (by lia) (W6 rfl ht hp hl) (ce (by lia) (W5 hw hc hr) (ce (by lia) (a:=.bool aj) (by lia) (ce (by lia) (W4 hc QH) (ce (by lia) (a:=iv s) (by lia) ci))))))
 exact kN e rfl
end
theorem vq:∀hs:List bS,(∀x∈hs,xZ x.w)->jX (hs.map dx)=aj
 |[],_=>rfl
 |⟨w,r,dQ,sh,mC⟩::q,h=>by
  have ih:=vq q λx hx=>h x (.tail _ hx);have hw:vr w=aj:=by rcases h _ (.head _)with e|⟨y,e⟩<;>(have e:w=_:=e;subst e;rfl)
  show(vr (dx ⟨w,r,dQ,sh,mC⟩)&&jX (q.map dx))=aj;rw[ih,jJ];show(vr w&&aj)=aj;rw[hw];rfl
theorem Gc{n:Nat}{ms q:List dh}{hs:List bS}{m:dh}{l:List Nat}{x:bS}(hc:∀m∈ms,m.c<1000)(hk:∀m∈ms,SO m.t)(hm:(ms.filter λm=>m.t.isSome&&(num m==n))=m::q)(hx:hs[m.h]?=some x)(hW:∀x∈hs,xZ x.w)
  (ht:m.t=some l) (hl:l.length<=2) (hp:x.mC<5) (hh:x.dQ<24) (hr:x.r<1000) (h4:x.sh<=4):rg 28 Ny [iv n,.lst (ms.map cF),.lst (hs.map dx)]=some (Gd n m l x (if mA ms n then 0 else x.sh)):=by
 have hmm:m∈ms:=(eQ.mp (hm▸eV:m∈ms.filter λm=>m.t.isSome&&(num m==n))).1;have Du:x∈hs:=aX hx;have QH:(if mA ms n then 0 else x.sh)<=4:=by split<;>(first|exact(dD _ 1 V0 (.k 4) (D1 V0 (.k 4) .n) rfl h4)|exact abf)
 refine on (v0:=xC n m l x (if mA ms n then 0 else x.sh)) rfl ?_ (out:=(.ret (xC n m l x (if mA ms n then 0 else x.sh)),C3 n ms hs m x (if mA ms n then 0 else x.sh),[fW m x])) ?_ rfl ?_
 ·show(jX (ms.map cF)&&(jX (hs.map dx)&&aj))=aj;rw[rH,vq hs hW];rfl
 ·refine am PF ((aB (RY hc hm)).trans ((aB (RX hx)).trans ((aB (RW hk)).trans ((aB (RV x.w x.r x.dQ x.sh x.mC hh)).trans ((aB RU).trans (dS (RT ht hp hl (hW x Du) (hc m hmm) hr QH) (by simp)))))))
 ·rcases hW x Du with e|⟨y,e⟩
  ·obtain⟨w,r,dQ,sh,mC⟩:=x;cases e;lia
  ·obtain⟨w,r,dQ,sh,mC⟩:=x;cases e;lia
noncomputable abbrev uZ:UInt64:=0x3FF0000000000000
noncomputable abbrev sq:UInt64:=0x4018000000000000
noncomputable abbrev fO(n:Int):UInt64:=il n
noncomputable def hf(h:UInt64)(i:Int):UInt64:=gO (cK h sq) (fO i)
noncomputable def hp(s:UInt64)(v:Int):UInt64:=cK (fO v) (gO uZ s)
noncomputable def hq(s f:UInt64)(v:Int):UInt64:=cK (fO v) (gO uZ (cK s f))
noncomputable def ht(s f:UInt64)(v:Int):UInt64:=cK (fO v) (gO uZ (cK s (gO uZ f)))
noncomputable def uY(k:Nat)(s f:UInt64)(v:Int):List V:=match k with
  |0=>[.int v,.cY (ht s f v),.cY (hp s v)]
  |1=>[.cY (hq s f v),.int v,.cY (hp s v)]
  |2=>[.cY (hp s v),.int v,.cY (ht s f v)]
  |3=>[.cY (hp s v),.cY (hq s f v),.int v]
  |4=>[.cY (ht s f v),.cY (hp s v),.int v]
  |_=>[.int v,.cY (hp s v),.cY (hq s f v)]
theorem Vi:(dc 7).body=[bd 7 0,bd 7 1,bd 7 2,bd 7 3,bd 7 4,bd 7 5,bd 7 6,bd 7 7,bd 7 8,bd 7 9,bd 7 10,bd 7 11,bd 7 12]:=by lia
section
variable{h s:UInt64}{v i:Int}
noncomputable def h0(h s:UInt64)(v:Int):Sg:=[(aJ "h",.cY h),(aJ "s",.cY s),(aJ "v",.int v)]
noncomputable def h1(h s:UInt64)(v i:Int):Sg:=[(aJ "h",.cY h),(aJ "s",.cY s),(aJ "v",.int v),(aJ "i",.int i)]
noncomputable def h2(h s:UInt64)(v i:Int)(f:UInt64):Sg:=h1 h s v i++[(aJ "f",.cY f)]
noncomputable def h5(h s:UInt64)(v i:Int)(f:UInt64):Sg:=h2 h s v i f++[(aJ "p",.cY (hp s v)),(aJ "q",.cY (hq s f v)),(aJ "t",.cY (ht s f v))]
theorem Xj:bY P0 [] 58 (bp 7) (h0 h s v) (jo (bd 7 0))=some (rY s 0==some pe):=by lia
theorem Xx(hi:sj (cK h sq)=some i):bi P0 58 (bp 7) (h0 h s v) [] (bd 7 1)=some (.next,h1 h s v i,[]):=by
 have hv:fk [] (aJ "int") [.cY (cK h sq)]=some (.int i):=by
  have:fk [] (aJ "int") [.cY (cK h sq)]=(sj (cK h sq)).map .int:=by lia
  refine am this (am hi ?_);rfl
 exact rP rfl (λ_ _ _=>rfl) (gh rfl (by decide) (by lia) (by lia) (by decide) (iy (λy z h=>by exact b5 h) (a:=.cY (cK h sq)) (by lia) ci) hv) (by lia)
theorem Xw(hi:zc i=aj):bi P0 57 (bp 7) (h1 h s v i) [] (bd 7 2)=some (.next,h2 h s v i (hf h i),[]):=by refine(cQ (u:=.cY (hf h i)) rfl rfl rfl (nU (bn rfl (a:=.cY (cK h sq)) (b:=.int i) (by lia) (by lia) ?_)) (by lia)).trans (by lia);show(if zc i=aj then some (V.cY (gO (cK h sq) (fO i)))else ah)=_;refine am (aP hi) ?_;rfl
variable{f:UInt64}
theorem Ou(hv:zc v=aj)(x:UInt64):eX .Mult (.int v) (.cY x)=some (.cY (cK (fO v) x)):=by show(if zc v=aj then some (V.cY (cK (fO v) x))else ah)=_;exact am (aP hv) rfl
theorem Xv(hv:zc v=aj):bi P0 56 (bp 7) (h2 h s v i f) [] (bd 7 3)=some (.next,h2 h s v i f++[(aJ "p",.cY (hp s v))],[]):=
 (cQ (u:=.cY (hp s v)) rfl rfl rfl (nU (bn rfl (a:=.int v) (b:=.cY (gO uZ s)) (by lia) (by lia) (Ou hv _))) (by lia)).trans (by lia)
theorem Xu(hv:zc v=aj):bi P0 55 (bp 7) (h2 h s v i f++[(aJ "p",.cY (hp s v))]) [] (bd 7 4)=some (.next,h2 h s v i f++[(aJ "p",.cY (hp s v)),(aJ "q",.cY (hq s f v))],[]):=
 (cQ (u:=.cY (hq s f v)) rfl rfl rfl (nU (bn rfl (a:=.int v) (b:=.cY (gO uZ (cK s f))) (by lia) (by lia) (Ou hv _))) (by lia)).trans (by lia)
theorem Xs(hv:zc v=aj):bi P0 54 (bp 7) (h2 h s v i f++[(aJ "p",.cY (hp s v)),(aJ "q",.cY (hq s f v))]) [] (bd 7 5)=some (.next,h5 h s v i f,[]):=
 (cQ (u:=.cY (ht s f v)) rfl rfl rfl (nU (bn rfl (a:=.int v) (b:=.cY (gO uZ (cK s (gO uZ f)))) (by lia) (by lia) (Ou hv _))) (by lia)).trans (by lia)
theorem Xr:bi P0 53 (bp 7) (h5 h s v i f) [] (bd 7 6)=some (.next,h5 h s v (i.fmod 6) f,[]):=by lia
theorem N9(k:Nat)(hk:k<6):∃σ,bW P0 53 (bp 7) (h5 h s v (k:Int) f) [] [bd 7 7,bd 7 8,bd 7 9,bd 7 10,bd 7 11,bd 7 12]=some (.ret (.tup (uY k s f v)),σ,[]):=by
 rcases(gX k 5 0 (bo _) (tN hk):k=0\/k=1\/k=2\/k=3\/k=4\/k=5)with rfl|rfl|rfl|rfl|rfl|rfl
 ·exact⟨h5 h s v ((0:Nat):Int) f,by lia⟩
 ·exact⟨h5 h s v ((1:Nat):Int) f,by lia⟩
 ·exact⟨h5 h s v ((2:Nat):Int) f,by lia⟩
 ·exact⟨h5 h s v ((3:Nat):Int) f,by lia⟩
 ·exact⟨h5 h s v ((4:Nat):Int) f,by lia⟩
 ·exact⟨h5 h s v ((5:Nat):Int) f,by lia⟩
end
theorem OW{v i:Int}{k:Nat}(hs:(rY s 0==some pe)=an)(hi:sj (cK h sq)=some i)(ho:zc i=aj)(hv:zc v=aj)(Wu:hf h i=f)(hk:i.fmod 6=(k:Int))(hk6:k<6):rg 7 gL [.cY h,.cY s,.int v]=some (.tup (uY k s f v)):=by
 refine eE (N9 (h:=h) (s:=s) (v:=v) (f:=f) k hk6) λσ e=>on (v0:=.tup (uY k s f v)) rfl rfl (out:=(.ret (.tup (uY k s f v)),σ,[])) ?_ rfl ?_
 ·refine am Vi ((aB (eG rfl (Xj.trans (am hs rfl)) rfl)).trans ((aB (Xx hi)).trans ((aB (Xw ho)).trans ((aB (Xv hv)).trans ((aB (Xu hv)).trans ((aB (Xs hv)).trans ((aB Xr).trans ?_)))))));refine am hk (am Wu ?_);exact e
 ·rcases(gX k 5 0 (bo _) (tN hk6):k=0\/k=1\/k=2\/k=3\/k=4\/k=5)with rfl|rfl|rfl|rfl|rfl|rfl<;>rfl
theorem K8(h:UInt64)(v:V)(hv:(∃i,v=.int i)\/∃x,v=.cY x):rg 7 gL [.cY h,.int 0,v]=some (.tup [v,v,v]):=by rcases hv with⟨i,rfl⟩|⟨x,rfl⟩<;>lia
noncomputable def GZ(r g b:V):Option V:=
 ((jO r g).bind λx=>jO x b).bind λM=>
 ((jN r g).bind λx=>jN x b).bind λm=>
 (eX .Sub M m).bind λR=>
 (jy [] .Eq m M).bind λe=>
 if e=aj then some (.tup [.cY 0,.cY 0,M])else
 (eX .Div R M).bind λS=>
 (eX .Sub M r).bind λa=>(eX .Div a R).bind λrc=>
 (eX .Sub M g).bind λa=>(eX .Div a R).bind λgc=>
 (eX .Sub M b).bind λa=>(eX .Div a R).bind λbc=>
 (jy [] .Eq r M).bind λe1=>
 (if e1=aj then eX .Sub bc gc else(jy [] .Eq g M).bind λe2=>
  if e2=aj then(eX .Add (.cY 0x4000000000000000) rc).bind λx=>eX .Sub x bc
  else(eX .Add (.cY 0x4010000000000000) gc).bind λx=>eX .Sub x rc).bind λh=>
 (eX .Div h (.cY sq)).bind λx=>(eX .Mod x (.cY uZ)).bind λh'=>some (.tup [h',S,M])
theorem Np:(dc 6).body=[bd 6 0,bd 6 1,bd 6 2,bd 6 3,bd 6 4,bd 6 5,bd 6 6,bd 6 7,bd 6 8,bd 6 9,bd 6 10,bd 6 11]:=by lia
section
variable{r g b M m R S rc gc bc h u x a:V}{e:Bool}
noncomputable def c0(r g b:V):Sg:=[(aJ "r",r),(aJ "g",g),(aJ "b",b)]
noncomputable def c2(r g b M m:V):Sg:=c0 r g b++[(aJ "maxc",M),(aJ "minc",m)]
noncomputable def c4(r g b M m R:V):Sg:=c2 r g b M m++[(aJ "rangec",R),(aJ "v",M)]
noncomputable def c8(r g b M m R S rc gc bc:V):Sg:=c4 r g b M m R++[(aJ "s",S),(aJ "rc",rc),(aJ "gc",gc),(aJ "bc",bc)]
theorem acD:fk [] (aJ "max") [r,g,b]=(jO r g).bind λx=>jO x b:=by
 rcases r with _|_|_|_|_|_|_|_|_|_
 ·lia
 ·lia
 ·lia
 ·lia
 ·rcases g with _|_|_|_|_|_|_|_|_|_<;>lia
 ·lia
 ·lia
 ·lia
 ·lia
 ·lia
theorem acC:fk [] (aJ "min") [r,g,b]=(jN r g).bind λx=>jN x b:=by
 rcases r with _|_|_|_|_|_|_|_|_|_
 ·lia
 ·lia
 ·lia
 ·lia
 ·rcases g with _|_|_|_|_|_|_|_|_|_<;>lia
 ·lia
 ·lia
 ·lia
 ·lia
 ·lia
theorem RO(hM:((jO r g).bind λx=>jO x b)=some M):bi P0 59 (bp 6) (c0 r g b) [] (bd 6 0)=some (.next,c0 r g b++[(aJ "maxc",M)],[]):=by have hv:fk [] (aJ "max") [r,g,b]=some M:=acD.trans hM;exact(rP rfl (λ_ _ _=>rfl) (gh rfl (by decide) (by lia) (by lia) (by decide) (vs:=[r,g,b]) (by lia) hv) (by lia)).trans (by lia)
theorem RN(hM:((jN r g).bind λx=>jN x b)=some m):bi P0 58 (bp 6) (c0 r g b++[(aJ "maxc",M)]) [] (bd 6 1)=some (.next,c2 r g b M m,[]):=by have hv:fk [] (aJ "min") [r,g,b]=some m:=acC.trans hM;exact(rP rfl (λ_ _ _=>rfl) (gh rfl (by decide) (by lia) (by lia) (by decide) (vs:=[r,g,b]) (by lia) hv) (by lia)).trans (by lia)
theorem RK(hR:eX .Sub M m=some R):bi P0 57 (bp 6) (c2 r g b M m) [] (bd 6 2)=some (.next,c2 r g b M m++[(aJ "rangec",R)],[]):=
 (cQ rfl rfl rfl (nU (bn rfl (a:=M) (b:=m) (by lia) (by lia) hR)) (by lia)).trans (by lia)
theorem RJ:bi P0 56 (bp 6) (c2 r g b M m++[(aJ "rangec",R)]) [] (bd 6 3)=some (.next,c4 r g b M m R,[]):=by lia
theorem Rw(he:jy [] .Eq m M=some e):bY P0 [] 54 (bp 6) (c4 r g b M m R) (jo (bd 6 4))=some e:=dt rfl rfl (a:=m) (b:=M) (by lia) (by lia) he
theorem XF:bW P0 54 (bp 6) (c4 r g b M m R) [] (mr (bd 6 4))=some (.ret (.tup [.cY 0,.cY 0,M]),c4 r g b M m R,[]):=by lia
theorem XC(hS:eX .Div R M=some S):bi P0 54 (bp 6) (c4 r g b M m R) [] (bd 6 5)=some (.next,c4 r g b M m R++[(aJ "s",S)],[]):=
 (cQ rfl rfl rfl (nU (bn rfl (a:=R) (b:=M) (by lia) (by lia) hS)) (by lia)).trans (by lia)
theorem XB(h1:eX .Sub M r=some a)(h2:eX .Div a R=some rc):bi P0 53 (bp 6) (c4 r g b M m R++[(aJ "s",S)]) [] (bd 6 6)=some (.next,c4 r g b M m R++[(aJ "s",S),(aJ "rc",rc)],[]):=
 (cQ rfl rfl rfl (nU (bn rfl (a:=a) (b:=R) (bn rfl (a:=M) (b:=r) (by lia) (by lia) h1) (by lia) h2)) (by lia)).trans (by lia)
theorem XA(h1:eX .Sub M g=some a)(h2:eX .Div a R=some gc):bi P0 52 (bp 6) (c4 r g b M m R++[(aJ "s",S),(aJ "rc",rc)]) [] (bd 6 7)=some (.next,c4 r g b M m R++[(aJ "s",S),(aJ "rc",rc),(aJ "gc",gc)],[]):=
 (cQ rfl rfl rfl (nU (bn rfl (a:=a) (b:=R) (bn rfl (a:=M) (b:=g) (by lia) (by lia) h1) (by lia) h2)) (by lia)).trans (by lia)
theorem Xz(h1:eX .Sub M b=some a)(h2:eX .Div a R=some bc):bi P0 51 (bp 6) (c4 r g b M m R++[(aJ "s",S),(aJ "rc",rc),(aJ "gc",gc)]) [] (bd 6 8)=some (.next,c8 r g b M m R S rc gc bc,[]):=
 (cQ rfl rfl rfl (nU (bn rfl (a:=a) (b:=R) (bn rfl (a:=M) (b:=b) (by lia) (by lia) h1) (by lia) h2)) (by lia)).trans (by lia)
noncomputable def c9(r g b M m R S rc gc bc h:V):Sg:=c8 r g b M m R S rc gc bc++[(aJ "h",h)]
noncomputable def b91:cy:=(mr (bd 6 9)).getD 0 (.Pass default)
noncomputable def QQ:cy:=(KG (bd 6 9)).getD 0 (.Pass default)
noncomputable def b93:cy:=(mr QQ).getD 0 (.Pass default)
noncomputable def b94:cy:=(KG QQ).getD 0 (.Pass default)
theorem Xy(h1:jy [] .Eq r M=some e1)(h2:(if e1=aj then eX .Sub bc gc else(jy [] .Eq g M).bind λe2=>
  if e2=aj then(eX .Add (.cY 0x4000000000000000) rc).bind λx=>eX .Sub x bc
  else(eX .Add (.cY 0x4010000000000000) gc).bind λx=>eX .Sub x rc)=some h):bi P0 50 (bp 6) (c8 r g b M m R S rc gc bc) [] (bd 6 9)=some (.next,c9 r g b M m R S rc gc bc h,[]):=by
 have t1:bY P0 [] 49 (bp 6) (c8 r g b M m R S rc gc bc) (jo (bd 6 9))=some e1:=dt rfl rfl (a:=r) (b:=M) (by lia) (by lia) h1;refine am (xd rfl t1) ?_
 cases e1 with
 |true=>
  replace h2:=(aP rfl)▸h2;refine am (aP rfl) (am (show mr (bd 6 9)=[b91] by lia) ?_);exact(aB ((cQ rfl rfl rfl (nU (bn rfl (a:=bc) (b:=gc) (by lia) (by lia) h2)) (by lia)).trans (by lia))).trans dY
 |false=>
  rw[bg (by decide)]at h2;refine am (bg (by decide)) (am (show KG (bd 6 9)=[QQ] by lia) ?_);refine cW (cP.mp h2) λe2 he2 h3=>(aB (mj:=c9 r g b M m R S rc gc bc h) (gA:=[]) ?_).trans dY;have t2:bY P0 [] 47 (bp 6) (c8 r g b M m R S rc gc bc) (jo QQ)=some e2:=dt rfl rfl (a:=g) (b:=M) (by lia) (by lia) he2;refine am (xd rfl t2) ?_
  cases e2 with
  |true=>
   replace h3:=(aP rfl)▸h3;refine cW (cP.mp h3) λy hy h4=>am (aP rfl) (am (show mr QQ=[b93] by lia) ?_);exact(aB ((cQ rfl rfl rfl (nU (bn rfl (a:=y) (b:=bc) (bn rfl (a:=.cY 0x4000000000000000) (b:=rc) (by lia) (by lia) hy) (by lia) h4)) (by lia)).trans (by lia))).trans dY
  |false=>
   rw[bg (by decide)]at h3;refine cW (cP.mp h3) λy hy h4=>am (bg (by decide)) (am (show KG QQ=[b94] by lia) ?_);exact(aB ((cQ rfl rfl rfl (nU (bn rfl (a:=y) (b:=rc) (bn rfl (a:=.cY 0x4010000000000000) (b:=gc) (by lia) (by lia) hy) (by lia) h4)) (by lia)).trans (by lia))).trans dY
theorem RM(h1:eX .Div h (.cY sq)=some x)(h2:eX .Mod x (.cY uZ)=some u):bi P0 49 (bp 6) (c9 r g b M m R S rc gc bc h) [] (bd 6 10)=some (.next,c9 r g b M m R S rc gc bc u,[]):=
 (cQ rfl rfl rfl (nU (bn rfl (a:=x) (b:=.cY uZ) (bn rfl (a:=h) (b:=.cY sq) (by lia) (by lia) h1) (by lia) h2)) (by lia)).trans (by lia)
theorem RL:bi P0 48 (bp 6) (c9 r g b M m R S rc gc bc h) [] (bd 6 11)=some (.ret (.tup [h,S,M]),c9 r g b M m R S rc gc bc h,[]):=by lia
theorem BI(hp:GZ r g b=some u)(hz:ek [] 8 u=some u)(hf:jX [r,g,b]=aj):rg 6 gL [r,g,b]=some u:=by
 refine gen λG bP=>bK hp λM hM hp=>bK hp λm hm hp=>bK hp λR hR hp=>bK hp λe he hp=>?_
 cases e with
 |true=>
  refine bP (on (v0:=.tup [.cY 0,.cY 0,M]) rfl hf (out:=(.ret (.tup [.cY 0,.cY 0,M]),c4 r g b M m R,[])) ?_ rfl (au hp▸hz));exact am Np ((aB (RO hM)).trans ((aB (RN hm)).trans ((aB (RK hR)).trans ((aB RJ).trans (dS (fJ rfl (Rw he) XF) (λq=>Fl.noConfusion q))))))
 |false=>
  refine bK hp λS hS hp=>bK hp λa1 ha1 hp=>bK hp λrc hrc hp=>bK hp λa2 Pg hp=>bK hp λgc Wt hp=>bK hp λa3 ha3 hp=>bK hp λbc hbc hp=>bK hp λe1 he1 hp=>bK hp λh hh hp=>bK hp λx hx hp=>bK hp λh' Uu hp=>bP (on (v0:=.tup [h',S,M]) rfl hf (out:=(.ret (.tup [h',S,M]),c9 r g b M m R S rc gc bc h',[])) ?_ rfl (au hp▸hz));exact am Np ((aB (RO hM)).trans ((aB (RN hm)).trans ((aB (RK hR)).trans ((aB RJ).trans ((aB (eG rfl (Rw he) rfl)).trans ((aB (XC hS)).trans ((aB (XB ha1 hrc)).trans ((aB (XA Pg Wt)).trans ((aB (Xz ha3 hbc)).trans ((aB (Xy he1 hh)).trans ((aB (RM hx Uu)).trans (dS RL (λq=>Fl.noConfusion q)))))))))))))
end
noncomputable def Ph(dQ tb:Nat):UInt64:=jG an (dQ+24*tb) 24
noncomputable def RI(s:Nat):UInt64:=match s with
 |1=>0x3FD0000000000000
 |2=>0x3FE0000000000000
 |3=>0x3FE8000000000000
 |_=>0x3FF0000000000000
noncomputable def fOf(k:Nat):UInt64:=match k with
 |0=>0
 |1=>0x3FD0000000000000
 |2=>0x3FE0000000000000
 |_=>0x3FE8000000000000
theorem N8:([1,2,3,4].all λs=>RI s==jG an s 4&&!(rY (RI s) 0==some pe))=aj:=by lia
noncomputable def LD(dQ tb:Nat):Bool:=match sj (cK (Ph dQ tb) sq)with
 |some i=>zc i&&(hf (Ph dQ tb) i==fOf (dQ%4))&&(i.fmod 6==((dQ/4:Nat):Int))
 |none=>an
theorem aeb:((ba 24).all λdQ=>LD dQ 0&&LD dQ 1)=aj:=by lia
noncomputable def ou(dQ s c:Nat):List V:=uY (dQ/4) (RI s) (fOf (dQ%4)) c
noncomputable def Sq:V->Option Int
 |.int i=>some i
 |.cY x=>uR x
 |_=>ah
noncomputable def m4(n:Int)(v:V):Option Int:=(eX .Mult (.int n) v).bind Sq
noncomputable def isF:V->Bool
 |.cY _=>aj
 |_=>an
noncomputable def Wc(c:Nat):V->Bool
 |.int i=>i==c
 |.cY x=>x==fO c
 |_=>an
noncomputable def jZ(dQ s c:Nat):Bool:=match ou dQ s c with
 |[a,b,d]=>match GZ a b d with
  |some (.tup [h,t,M])=>isF h&&isF t&&Wc c M&&(m4 24 h==some (dQ:Int))&&(m4 4 t==some (s:Int))&&(Sq M==some (c:Int))&&
    (m4 16 a==some ((c*(16-s*vy dQ 0):Nat):Int))&&(m4 16 b==some ((c*(16-s*vy dQ 1):Nat):Int))&&(m4 16 d==some ((c*(16-s*vy dQ 2):Nat):Int))
  |_=>an
 |_=>an
theorem Xi:([1,2,3,4].all λs=>(ba 7).all λc=>jZ 0 s (9+c))=aj:=by lia
theorem Xh:([1,2,3,4].all λs=>(ba 7).all λc=>jZ 1 s (9+c))=aj:=by lia
theorem Xg:([1,2,3,4].all λs=>(ba 7).all λc=>jZ 2 s (9+c))=aj:=by lia
theorem Xf:([1,2,3,4].all λs=>(ba 7).all λc=>jZ 3 s (9+c))=aj:=by lia
theorem Xe:([1,2,3,4].all λs=>(ba 7).all λc=>jZ 4 s (9+c))=aj:=by lia
theorem Xd:([1,2,3,4].all λs=>(ba 7).all λc=>jZ 5 s (9+c))=aj:=by lia
theorem Xc:([1,2,3,4].all λs=>(ba 7).all λc=>jZ 6 s (9+c))=aj:=by lia
theorem Xb:([1,2,3,4].all λs=>(ba 7).all λc=>jZ 7 s (9+c))=aj:=by lia
theorem Xa:([1,2,3,4].all λs=>(ba 7).all λc=>jZ 8 s (9+c))=aj:=by lia
theorem W':([1,2,3,4].all λs=>(ba 7).all λc=>jZ 9 s (9+c))=aj:=by lia
theorem Rv:([1,2,3,4].all λs=>(ba 7).all λc=>jZ 10 s (9+c))=aj:=by lia
theorem Ru:([1,2,3,4].all λs=>(ba 7).all λc=>jZ 11 s (9+c))=aj:=by lia
theorem Rt:([1,2,3,4].all λs=>(ba 7).all λc=>jZ 12 s (9+c))=aj:=by lia
theorem Rs:([1,2,3,4].all λs=>(ba 7).all λc=>jZ 13 s (9+c))=aj:=by lia
theorem Rr:([1,2,3,4].all λs=>(ba 7).all λc=>jZ 14 s (9+c))=aj:=by lia
theorem Rq:([1,2,3,4].all λs=>(ba 7).all λc=>jZ 15 s (9+c))=aj:=by lia
theorem Rp:([1,2,3,4].all λs=>(ba 7).all λc=>jZ 16 s (9+c))=aj:=by lia
theorem Ro:([1,2,3,4].all λs=>(ba 7).all λc=>jZ 17 s (9+c))=aj:=by lia
theorem Rn:([1,2,3,4].all λs=>(ba 7).all λc=>jZ 18 s (9+c))=aj:=by lia
theorem Rm:([1,2,3,4].all λs=>(ba 7).all λc=>jZ 19 s (9+c))=aj:=by lia
theorem Rl:([1,2,3,4].all λs=>(ba 7).all λc=>jZ 20 s (9+c))=aj:=by lia
theorem Rk:([1,2,3,4].all λs=>(ba 7).all λc=>jZ 21 s (9+c))=aj:=by lia
theorem Rj:([1,2,3,4].all λs=>(ba 7).all λc=>jZ 22 s (9+c))=aj:=by lia
theorem Ri:([1,2,3,4].all λs=>(ba 7).all λc=>jZ 23 s (9+c))=aj:=by lia
theorem WM{dQ s c:Nat}(hh:dQ<24)(h1:1<=s)(h4:s<=4)(h9:9<=c)(hc:c<=15):jZ dQ s c=aj:=by
 have e:∀dQ,dQ<24->([1,2,3,4].all λs=>(ba 7).all λc=>jZ dQ s (9+c))=aj:=xH ⟨Xi,Xh,Xg,Xf,Xe,Xd,Xc,Xb,Xa,W',Rv,Ru,Rt,Rs,Rr,Rq,Rp,Ro,Rn,Rm,Rl,Rk,Rj,Ri⟩;have h:=aT.mp (aT.mp (e dQ hh) s (by have:s=1\/s=2\/s=3\/s=4:=ZV h1 h4;rcases this with rfl|rfl|rfl|rfl<;>simp)) (c-9) (cA.mpr (ZP hc))
 rwa[show 9+(c-9)=c by exact ZK h9]at h
theorem N7{s:Nat}(h1:1<=s)(h4:s<=4):RI s=jG an s 4/\(rY (RI s) 0==some pe)=an:=by
 have h:=aT.mp N8 s (by have:s=1\/s=2\/s=3\/s=4:=ZV h1 h4;rcases this with rfl|rfl|rfl|rfl<;>simp)
 rw[cj,cw,fH]at h;exact h
set_option tactic.hygienic true in
theorem Hd{dQ tb s c:Nat}(hh:dQ<24)(ht:tb<2)(h1:1<=s)(h4:s<=4)(hc:c<=15):rg 7 gL [.cY (Ph dQ tb),.cY (jG an s 4),.int (c:Int)]=some (.tup (ou dQ s c)):=by
 refine eA (N7 h1 h4) λe1 e2=>?_;have hF:LD dQ tb=aj:=by
  have h:=aT.mp aeb dQ (cA.mpr hh);rw[cj]at h;have:tb=0\/tb=1:=o78 ht;rcases this with rfl|rfl
  ·exact h.1
  ·exact h.2
 unfold LD at hF;split at hF
 ·next i hi=>
  rw[cj,cj,cw,cw]at hF;refine eA hF λqN h7=>?_;obtain⟨h5,h6⟩:=qN;exact jj e1 (OW e2 hi h5 (aU (abe hc)) h6 h7 (abd hh))
 ·exact bB hF
structure pE(dQ s c:Nat)(L:List V)(h t M:V):Prop where
 QA:rg 6 gL L=some (.tup [h,t,M])
 fh:isF h=aj
 m:Wc c M=aj
 sh:m4 4 t=some (s:Int)
 ln:L.length=3
 SL:L.mapM (m4 16)=some ((oM dQ).map λf=>((c*(16-s*f):Nat):Int))
theorem u3{n:Int}{v:V}{k:Int}(h:m4 n v=some k):vr v=aj:=by cases v<;>first|rfl|(exact bM h)
theorem yn{c:Nat}{v:V}(h:Wc c v=aj):v=.int c\/v=.cY (fO c):=by
 cases v<;>first|(exact bB h;done)|skip
 ·exact .inl (am (cw.mp h) rfl)
 ·exact .inr (am (cw.mp h) rfl)
set_option tactic.hygienic true in
theorem bf{G:Prop}:an=aj->G:=λh=>bB h
theorem Dh{dQ s c:Nat}(hh:dQ<24)(h1:1<=s)(h4:s<=4)(h9:9<=c)(hc:c<=15):∃h t M,pE dQ s c (ou dQ s c) h t M/\m4 24 h=some (dQ:Int)/\Sq M=some (c:Int):=by
 have h:=WM hh h1 h4 h9 hc;unfold jZ at h;refine gen λGG fN=>?_;revert h;generalize e:ou dQ s c=Z;rcases Z with _|⟨a,_|⟨b,_|⟨d,_|_⟩⟩⟩<;>try exact bf
 dsimp only;generalize e2:GZ a b d=Y;rcases Y with _|Y
 ·exact bf
 rcases Y with _|_|_|_|_|us|_|_|_|_<;>try exact bf
 rcases us with _|⟨h',_|⟨t,_|⟨M,_|_⟩⟩⟩<;>try exact bf
 intro h;simp only[cj,cw]at h;obtain⟨⟨⟨⟨⟨⟨⟨⟨k1,k2⟩,k3⟩,k4⟩,k5⟩,k6⟩,k7⟩,k8⟩,k9⟩:=h;refine fN ?_;refine vc h' t M ⟨?_,k1,k3,k5,?_,?_⟩ k4 k6
 ·refine am e (BI e2 ?_ ?_)
  ·rcases yn k3 with rfl|rfl<;>(cases h'<;>first|(exact bB k1;done)|(cases t<;>first|(exact bB k2;done)|rfl))
  ·show(vr a&&(vr b&&(vr d&&aj)))=aj;refine am (u3 k7) (am (u3 k8) (am (u3 k9) ?_));rfl
 ·refine am e ?_;rfl
 ·refine am e (am bj (am bj (am bj (am k7 (am k8 (am k9 ?_))))));rfl
theorem Mt{p:Nat->Prop}(h:p 9/\p 10/\p 11/\p 12/\p 13/\p 14/\p 15)(k:Nat)(h9:9<=k)(hk:k<=15):p k:=by refine DT h λh0 h1 h2 h3 h4 h5 h6=>?_;have:k=9\/k=10\/k=11\/k=12\/k=13\/k=14\/k=15:=abc h9 hk;rcases this with rfl|rfl|rfl|rfl|rfl|rfl|rfl<;>assumption
theorem UK:∀c,9<=c->c<=15->GZ (.int (c:Nat)) (.int (c:Nat)) (.int (c:Nat))=some (.tup [.cY 0,.cY 0,.int (c:Nat)])/\m4 16 (.int (c:Nat))=some ((c*16:Nat):Int):=
 Mt ⟨⟨by lia,by lia⟩,⟨by lia,by lia⟩,⟨by lia,by lia⟩,⟨by lia,by lia⟩,⟨by lia,by lia⟩,⟨by lia,by lia⟩,⟨by lia,by lia⟩⟩
theorem UL:∀c,9<=c->c<=15->GZ (.cY (fO (c:Nat))) (.cY (fO (c:Nat))) (.cY (fO (c:Nat)))=some (.tup [.cY 0,.cY 0,.cY (fO (c:Nat))])/\m4 16 (.cY (fO (c:Nat)))=some ((c*16:Nat):Int):=
 Mt ⟨⟨by lia,by lia⟩,⟨by lia,by lia⟩,⟨by lia,by lia⟩,⟨by lia,by lia⟩,⟨by lia,by lia⟩,⟨by lia,by lia⟩,⟨by lia,by lia⟩⟩
theorem Me:m4 4 (.cY 0)=some ((0:Nat):Int):=by lia
theorem nh{dQ c:Nat}{M:V}(h9:9<=c)(hc:c<=15)(hM:Wc c M=aj):pE dQ 0 c [M,M,M] (.cY 0) (.cY 0) M:=by
 rcases yn hM with rfl|rfl
 ·refine eA (UK c h9 hc) λe1 e2=>⟨BI e1 rfl rfl,rfl,hM,Me,rfl,?_⟩;refine am bj (am bj (am bj (am e2 ?_)));simp[oM]
 ·refine eA (UL c h9 hc) λe1 e2=>⟨BI e1 rfl rfl,rfl,hM,Me,rfl,?_⟩;refine am bj (am bj (am bj (am e2 ?_)));simp[oM]
theorem kl(t n:Nat):(t:Int).fmod (n:Int)=((t%n:Nat):Int):=(Int.ofNat_fmod t n).symm
theorem mM(t n:Nat):(t:Int).fdiv (n:Int)=((t/n:Nat):Int):=(Int.ofNat_fdiv t n).symm
noncomputable def wd(s:String):V:=.str (aJ s)
noncomputable def xU(r:Nat):List (V×Nat):=match r with
 |0=>[(wd "z",0),(wd "dev",10),(wd "a",20)]
 |1=>[(wd "alpha",20),(wd "b",30),(wd "c",40)]
 |2=>[(wd "beta",30),(wd "RC",50),(.int 1,100)]
 |3=>[(wd "rc",50),(.int 1,100),(wd "pl",200)]
 |_=>[(wd "dev",10),(.int 1,100),(wd "p",200)]
noncomputable def oK(r t:Nat):List bS:=match xU r with
 |[a,b,c]=>[⟨a.1,a.2,(t/3+8*0)%24,t/6%4+1,t/17%5⟩,⟨b.1,b.2,(t/3+8*1)%24,t/10%4+1,t/19%5⟩,⟨c.1,c.2,(t/3+8*2)%24,t/15%4+1,t/23%5⟩]
 |_=>[]
noncomputable def iK(t:Nat):List bS:=oK (t%5) t
noncomputable def BG(r:Nat):V:=.tup ((xU r).map λe=>.tup [e.1,iv e.2])
noncomputable def Xp(t:Nat):Sg:=[(aJ "total",iv t)]
noncomputable def Qz(r t:Nat):Sg:=[(aJ "total",iv t),(aJ "row",BG r)]
theorem PK:(dc 23).body=[bd 23 0,bd 23 1]:=by lia
noncomputable def e5E:Expr:=match bd 23 0 with
 |.Assign _ (.Subscript _ e _) _=>e
 |_=>gK
theorem e5(t:Nat):ay P0 [] 57 (bp 23) (Xp t) e5E=some (iv (t%5)):=by
 have:ay P0 [] 57 (bp 23) (Xp t) e5E=some (.int ((t:Int).fmod ((5:Nat):Int))):=by lia
 rw[this,kl];rfl
theorem R7(h:t%5=r)(hr:r<5):bi P0 59 (bp 23) (Xp t) [] (bd 23 0)=some (.next,Qz r t,[]):=by refine(cQ rfl rfl rfl (yP (cL rfl rfl (a:=.tup [BG 0,BG 1,BG 2,BG 3,BG 4]) (b:=iv (t%5)) (by lia) (e5 t) (iJ (u:=BG r) ?_))) (by lia)).trans (by lia);refine am h ?_;revert r;intro r _ hr;have:r=0\/r=1\/r=2\/r=3\/r=4:=aaa (by assumption);rcases this with rfl|rfl|rfl|rfl|rfl<;>rfl
noncomputable def T8(e:V×Nat)(t:Nat)(k d q:Nat):V:=.tup [e.1,iv e.2,.int (((t:Int).fdiv ((3:Nat):Int)+((8*k:Nat):Int)).fmod ((24:Nat):Int)),.int (((t:Int).fdiv (d:Int)).fmod ((4:Nat):Int)+1),.int (((t:Int).fdiv (q:Int)).fmod ((5:Nat):Int))]
noncomputable def Cj(r t:Nat):List V:=match xU r with
 |[a,b,c]=>[T8 a t 0 6 17,T8 b t 1 10 19,T8 c t 2 15 23]
 |_=>[]
theorem Cc(e:V×Nat)(t k d q:Nat):T8 e t k d q=dx ⟨e.1,e.2,(t/3+8*k)%24,t/d%4+1,t/q%5⟩:=by unfold T8 dx;rw[mM,mM,mM,<-Int.natCast_add,kl,kl,kl];rfl
set_option tactic.hygienic true in
theorem Fg(r t:Nat):Cj r t=(oK r t).map dx:=by
 unfold Cj oK;split
 ·next a b c e=>rw[Cc,Cc,Cc];rfl
 ·rfl
theorem Oc(t:Nat):∀r,r<5->bi P0 58 (bp 23) (Qz r t) [] (bd 23 1)=some (.ret (.lst (Cj r t)),Qz r t,[]):=rJ (by lia) (by lia) (by lia) (by lia) (by lia)
theorem R6(t:Nat)(r:Nat)(h:r<5):bi P0 58 (bp 23) (Qz r t) [] (bd 23 1)=some (.ret (.lst ((oK r t).map dx)),Qz r t,[]):=by rw[Oc t r h,Fg]
theorem H5(t:Nat):∀r,r<5->(∀x∈oK r t,xZ x.w):=by intro r hr x hx;have:∀s,xZ (wd s):=λs=>.inr ⟨_,rfl⟩;have h1:xZ (.int 1):=.inl rfl;have hr5:r=0\/r=1\/r=2\/r=3\/r=4:=o24 hr;rcases hr5 with rfl|rfl|rfl|rfl|rfl<;>(simp only[oK,xU,ax,bA,or_false]at hx;rcases hx with rfl|rfl|rfl<;>simp[this,h1])
theorem Cr(t:Nat):∀r,r<5->ek [] 8 (.lst ((oK r t).map dx))=some (.lst ((oK r t).map dx)):=rJ (by lia) (by lia) (by lia) (by lia) (by lia)
theorem H3(t:Nat):rg 23 gL [iv t]=some (.lst ((iK t).map dx)):=by have hr:t%5<5:=bx _ (by decide);refine on (v0:=.lst ((iK t).map dx)) rfl rfl (out:=(.ret (.lst ((iK t).map dx)),Qz (t%5) t,[])) ?_ rfl (Cr t _ hr);exact am PK ((aB (R7 rfl hr)).trans (dS (R6 t _ hr) (by simp)))
structure cH(hs:List bS):Prop where
 len:hs.length=3
 w:∀x∈hs,xZ x.w
 dQ:∀x∈hs,x.dQ<24
 s1:∀x∈hs,1<=x.sh
 s4:∀x∈hs,x.sh<=4
 mC:∀x∈hs,x.mC<5
 r:∀x∈hs,x.r<1000
 rise:∀(i j:Nat) (x y:bS),hs[i]?=some x->hs[j]?=some y->i<j->x.r<y.r
 ac2:∀(i j:Nat) (x y:bS),hs[i]?=some x->hs[j]?=some y->x.dQ=y.dQ->i=j
 words:∀x∈hs,∃r:Nat,r<5/\(x.w,x.r)∈xU r
theorem m3{P:bS->Prop}(x:P a)(y:P b)(z:P c):∀h∈[a,b,c],P h:=A5.mpr ⟨x,A5.mpr ⟨y,A5.mpr ⟨z,λ_ h=>bV h bA⟩⟩⟩
theorem i3{P:Nat->bS->Prop}(x:P 0 a)(y:P 1 b)(z:P 2 c)(i:Nat)(h:bS)(e:[a,b,c][i]?=some h):P i h:=by
 rcases i with _|_|_|i
 ·exact au e▸x
 ·exact au e▸y
 ·exact au e▸z
 ·exact bM e
theorem H4(t:Nat):cH (iK t):=by
 have hr:t%5<5:=bx _ (by decide);have W:∀r,r<5->∃a b c,xU r=[a,b,c]/\a.2<b.2/\b.2<c.2/\c.2<1000:=rJ ⟨_,_,_,rfl,by decide,by decide,by decide⟩ ⟨_,_,_,rfl,by decide,by decide,by decide⟩ ⟨_,_,_,rfl,by decide,by decide,by decide⟩ ⟨_,_,_,rfl,by decide,by decide,by decide⟩ ⟨_,_,_,rfl,by decide,by decide,by decide⟩;refine rK (W _ hr) λa b c e k1 k2 k3=>?_;have hW:=H5 t _ hr;have E:iK t=[⟨a.1,a.2,(t/3+8*0)%24,t/6%4+1,t/17%5⟩,⟨b.1,b.2,(t/3+8*1)%24,t/10%4+1,t/19%5⟩,⟨c.1,c.2,(t/3+8*2)%24,t/15%4+1,t/23%5⟩]:=by show(match xU (t%5)with|[a,b,c]=>_|_=>_)=_;exact am e rfl
 have hW:∀x∈iK t,xZ x.w:=hW;generalize iK t=H at E hW;subst E;have md:∀x:Nat,x%4+1<=4:=λx=>bx x (bL 3);have p1:∀x:Nat,1<=x+1:=λx=>jE 1 x;have m24:∀x:Nat,x%24<24:=λx=>bx x (bL 23);have m5:∀x:Nat,x%5<5:=λx=>bx x (bL 4);refine⟨rfl,hW,m3 (m24 _) (m24 _) (m24 _),m3 (p1 _) (p1 _) (p1 _),m3 (md _) (md _) (md _),m3 (m5 _) (m5 _) (m5 _),m3 (jr k1 (jr k2 k3)) (jr k2 k3) k3,?_,?_,?_⟩
 ·intro i j x y hx hy;refine i3 (P:=λi x=>i<j->x.r<y.r) ?_ ?_ ?_ i x hx
  ·exact i3 (P:=λj y=>0<j->a.2<y.r) (λh=>bV h (gj 0)) (λ_=>k1) (λ_=>jr k1 k2) j y hy
  ·exact i3 (P:=λj y=>1<j->b.2<y.r) (λh=>bV h (lM 1)) (λh=>bV h (gj 1)) (λ_=>k2) j y hy
  ·exact i3 (P:=λj y=>2<j->c.2<y.r) (λh=>bV h (lM 2)) (λh=>bV h (by decide)) (λh=>bV h (gj 2)) j y hy
 ·intro i j x y hx hy;refine i3 (P:=λi x=>x.dQ=y.dQ->i=j) ?_ ?_ ?_ i x hx
  ·exact i3 (P:=λj y=>(t/3+8*0)%24=y.dQ->0=j) (λ_=>rfl) (λh=>Z8 h) (λh=>Z7 h) j y hy
  ·exact i3 (P:=λj y=>(t/3+8*1)%24=y.dQ->1=j) (λh=>Z5 h) (λ_=>rfl) (λh=>Z6 h) j y hy
  ·exact i3 (P:=λj y=>(t/3+8*2)%24=y.dQ->2=j) (λh=>Z4 h) (λh=>Z3 h) (λ_=>rfl) j y hy
 ·refine m3 ⟨t%5,hr,?_⟩ ⟨t%5,hr,?_⟩ ⟨t%5,hr,?_⟩
  ·exact am e (eV)
  ·exact am e (gv _ eV)
  ·exact am e (gv _ (gv _ eV))
section
variable{n l k:Nat}{vs:List V}{x:aq}{i e:Expr}{a b:Int}{p q q2:Pos}
theorem XJ{α:Type}{x:Option V}{f:Int->Option α}{r:Option α}{a:Int}(h:x=some (.int a))(k:f a=r):(match(generalizing:=false) x with|some (.int a)=>f a|_=>ah)=r:=by subst h;exact k
set_option smartUnfolding false in
theorem PU{s:cy}(he:s=.AugAssign (.Subscript (.Name x p) i q) .Add e q2)(hx:fY P sc σ x=some (.loc l))(hi:ay P st n sc σ i=some (.int (k:Int)))(hl:st[l]?=some vs)(hk:vs[k]?=some (.int a))(hb:ay P st n sc σ e=some (.int b)):
  bi P (n+1) sc σ st s=some (.next,σ,fX st l (vs.set k (.int (a+b)))):=by
 subst he;exact ck hx (ck hi (Hf hl ((aP (lV k)).trans (XJ hk (ck hb rfl)))))
end
noncomputable def bases:List Nat:=[1585,12674,21477,33567,22465,8792,32853]
noncomputable def dd0(xs:List Int):Sg:=[(aJ "script",.qo (xs.map .int))]
noncomputable def dd1(xs:List Int):Sg:=[(aJ "script",.qo (xs.map .int)),(aJ "deeds",.loc 0)]
noncomputable def yM(xs:List Int)(k:Nat)(z:Int):Sg:=[(aJ "script",.qo (xs.map .int)),(aJ "deeds",.loc 0),(aJ "place",iv k),(aJ "number",.int z)]
noncomputable def PB(xs:List Int):Option (Nat×Int)->Sg
 |none=>dd1 xs
 |some e=>yM xs e.1 e.2
theorem PM:(dc 22).body=[bd 22 0,bd 22 1,bd 22 2]:=by lia
theorem R9(xs:List Int):bi P0 59 (bp 22) (dd0 xs) [] (bd 22 0)=some (.next,dd1 xs,[bases.map iv]):=by lia
noncomputable def dT:Expr:=match bd 22 1 with
 |.For t _ _ _ _=>t
 |_=>gK
noncomputable def dI:Expr:=match bd 22 1 with
 |.For _ i _ _ _=>i
 |_=>gK
noncomputable def dB:List cy:=match bd 22 1 with
 |.For _ _ b _ _=>b
 |_=>[]
theorem acO(xs:List Int)(st:St):nu P0 st 57 (bp 22) (dd1 xs) dI=some (.enum ((xs.map .int).take 60)):=by lia
theorem LU{P:pD}{n:Nat}{sc:Sc}{σ:Sg}{st:St}{s:cy}(he:s=.For (.Tuple ts kk pp) i body [] q)(hi:nu P st n sc σ i=some (.enum vs)):
  bi P (n+1) sc σ st s=pL (λv σ st=>(dq sc (.Tuple ts kk pp) v σ).bind λcR=>bW P n sc cR st body) (oN 0 vs) σ st:=by
 subst he;exact ck hi rfl
noncomputable def Lz(ds:List Nat)(k:Nat)(z:Int):List Nat:=ds.set (k%7) (ds.getD (k%7) 0+(z.fmod 1000000).toNat)
theorem b22(xs:List Int)(k:Nat)(z:Int)(ds:List Nat)(hd:ds.length=7):bW P0 57 (bp 22) (yM xs k z) [ds.map iv] dB=some (.next,yM xs k z,[(Lz ds k z).map iv]):=by
 have hk:k%7<ds.length:=by refine am hd ?_;exact bx _ (by decide)
 have h1:ay P0 [ds.map iv] 55 (bp 22) (yM xs k z) (match dB with|[.AugAssign (.Subscript _ i _) _ _ _]=>i|_=>gK)=some (.int ((k%7:Nat):Int)):=by
  have:ay P0 [ds.map iv] 55 (bp 22) (yM xs k z) (match dB with|[.AugAssign (.Subscript _ i _) _ _ _]=>i|_=>gK)=some (.int ((k:Int).fmod ((7:Nat):Int))):=by lia
  rw[this,kl]
 have h2:(ds.map iv)[k%7]?=some (.int ((ds.getD (k%7) 0:Nat):Int)):=by refine am (cm) (am (aI) (am (aC hk) ?_));rfl
 refine(aB (PU (l:=0) rfl (by lia) h1 rfl h2 (b:=z.fmod 1000000) (by lia))).trans (dY.trans ?_);have hz:z.fmod 1000000=((z.fmod 1000000).toNat:Int):=by have:=ai9 z (b:=1000000) (by decide);exact Yh this
 show some (Fl.next,yM xs k z,[(ds.map iv).set (k%7) (.int (((ds.getD (k%7) 0:Nat):Int)+z.fmod 1000000))])=some (Fl.next,yM xs k z,[(ds.set (k%7) (ds.getD (k%7) 0+(z.fmod 1000000).toNat)).map iv]);refine am List.map_set (am hz ?_);rfl
theorem UT(xs:List Int)(zs:List Int):∀(k:Nat) (ds:List Nat) (o:Option (Nat×Int)) (B:Nat),ds.length=7->(∀d∈ds,d<B)->
  ∃(o':Option (Nat×Int)) (Vb:List Nat),pL (λv σ st=>(dq (bp 22) dT v σ).bind λcR=>bW P0 57 (bp 22) cR st dB) (oN k (zs.map .int)) (PB xs o) [ds.map iv]=some (.next,PB xs o',[Vb.map iv])/\Vb.length=7/\∀d∈Vb,d<B+1000000*zs.length:=by
 induction zs with
 |nil=>
  exact λk ds o B hl hB=>⟨o,ds,rfl,hl,by simpa using hB⟩
 |cons z r ih=>
  exact λk ds o B hl hB=>by
   have hb:dq (bp 22) dT (.tup [.int (k:Int),.int z]) (PB xs o)=some (yM xs k z):=by cases o<;>lia
   have hk:k%7<ds.length:=by refine am hl ?_;exact bx _ (by decide)
   refine c3 (ih (k+1) (Lz ds k z) (some (k,z)) (B+1000000) (by unfold Lz;exact am pN (am hl rfl)) (λd hd=>by
    unfold Lz at hd;rcases List.mem_or_eq_of_mem_set hd with h|h
    ·have:=hB d h;exact(dp _ _ 1 (S1 V0) (.p V1 (.k 1000000)) (D1 (S1 V0) V1 .n) rfl this)
    ·have h1:ds.getD (k%7) 0<B:=by refine am (aI) (am (aC hk) ?_);exact hB _ (iY _)
     have h2:z.fmod 1000000<1000000:=Int.fmod_lt_of_pos z (by decide);have h3:=ai9 z (b:=1000000) (by decide);exact Yg h h1 h2)) λo' Vb h Ai hB'=>?_
   refine iM o' Vb ?_ Ai (λd hd=>by have:=hB' d hd;simp only[aS];exact(fM _ _ _ 1 (S1 V0) (.p V1 (.m 1000000 (S1 V2))) (D1 (S1 V0) (.p (.p V1 (.k 1000000)) (.m 1000000 V2)) .n) rfl this));show((dq (bp 22) dT (.tup [.int (k:Int),.int z]) (PB xs o)).bind λcR=>bW P0 57 (bp 22) cR [ds.map iv] dB).bind _=_;rw[hb,b6,b22 xs k z ds hl];exact h
theorem R8(xs:List Int)(o:Option (Nat×Int))(vs:List V):bi P0 57 (bp 22) (PB xs o) [vs] (bd 22 2)=some (.ret (.loc 0),PB xs o,[vs]):=by cases o<;>lia
theorem Ic(xs:List Int):jX [.qo (xs.map .int)]=aj:=by
 have:∀xs:List Int,jX (xs.map .int)=aj:=λxs=>by
  induction xs with
  |nil=>rfl
  |cons a r ih=>refine am ih ?_;rfl
 show(_&&aj)=aj
 first
  |rfl
  |(simp[vr,this])
theorem IC(xs:List Int):∃ds:List Nat,ds.length=7/\(∀d∈ds,d<100000000)/\rg 22 gL [.qo (xs.map .int)]=some (.lst (ds.map iv)):=by
 refine c3 (UT xs (xs.take 60) 0 bases ah 40000 rfl (by decide)) λo' ds h hl hB=>ml ds hl (λd hd=>?_) ?_
 ·have:=hB d hd;have h2:(xs.take 60).length<=60:=by refine am eg ?_;exact Ye
  exact(dp _ _ 1 (S1 V0) (.k 100000000) (D1 (S1 V0) (.p (.k 40000) (.m 1000000 V1)) (.c 1000000 V1 (.k 60) .n)) rfl this h2)
 ·refine on (v0:=.loc 0) rfl (Ic xs) (out:=(.ret (.loc 0),PB xs o',[ds.map iv])) ?_ rfl ?_
  ·refine am PM ?_;refine(aB (R9 xs)).trans ((aB ((LU rfl (acO xs _)).trans (by refine jj ub ?_;exact h))).trans (dS (R8 xs o' _) (by simp)))
  ·show((ds.map iv).mapM (ek [ds.map iv] 7)).map V.lst=_;rw[rI];rfl
noncomputable def AH(l:List Nat):Nat:=Jj 0 (λc _ r=>if 48<=c/\c<=57 then r+1 else 0) l
noncomputable def rl(l:List Nat):Option (Nat×Nat):=Jj ah (λc t r=>if 1<=AH (c::t)then some (0,AH (c::t))else if pH c=aj then some (0,1)else r.map λe=>(e.1+1,e.2)) l
noncomputable def E3(k:Nat):List Nat->Option (List (List Nat)):=
 Bf (λ_=>ah) (λ_ r l=>(rl l).elim (some [l]) λq=>(r (l.drop (q.1+q.2))).map λm=>l.take q.1::(l.drop q.1).take q.2::m) k
theorem Kg(h:1<=AH (c::t)):rl (c::t)=some (0,AH (c::t)):=aP h
theorem Ke(h:¬1<=AH (c::t))(h2:pH c=aj):rl (c::t)=some (0,1):=(bg h).trans (aP h2)
theorem Kf(h:¬1<=AH (c::t))(h2:¬pH c=aj):rl (c::t)=(rl t).map λe=>(e.1+1,e.2):=(bg h).trans (bg h2)
theorem DU{text:Array Nat}(h:p<text.size):text.toList.drop p=text.getD p 0::text.toList.drop (p+1):=by refine am (fU (by simpa using h)) ?_;simp[akg,h]
theorem AE{text:Array Nat}(h:p+0=text.size):text.toList.drop p=[]:=dz (iS▸ac h.symm)
theorem Fv{text:Array Nat}(n:Nat):∀p,p+n=text.size->jY text n p=AH (text.toList.drop p):=by
 induction n with
 |zero=>exact λp h=>(congrArg AH (AE h)).symm
 |succ n ih=>
  intro p h;refine am (DU (text:=text) (p:=p) (V9 h)) ?_;by_cases hc:48<=text.getD p 0/\text.getD p 0<=57
  ·exact(AG hc).trans ((congrArg (·+1) (ih (p+1) (o5 h))).trans (aP hc).symm)
  ·exact(DV hc).trans (bg hc).symm
theorem BU{text:Array Nat}(n:Nat):∀p,p+n=text.size->nJ text n p=(rl (text.toList.drop p)).map λe=>(p+e.1,p+e.1+e.2):=by
 induction n with
 |zero=>exact λp h=>am (AE h) rfl
 |succ n ih=>
  intro p h;have e1:=Fv (n+1) p h;rw[DU (text:=text) (p:=p) (V9 h)]at e1⊢;by_cases h1:1<=jY text (n+1) p
  ·rw[ye h1,Kg (e1▸h1),e1];rfl
  ·by_cases h2:pH (text.getD p 0)=aj
   ·rw[yc h1 h2,Ke (e1▸h1) h2];rfl
   ·rw[yd h1 h2,Kf (e1▸h1) h2,ih (p+1) (o5 h)];cases rl (text.toList.drop (p+1))with
    |none=>rfl
    |some e=>simp only[akK];congr 2<;>(first|exact Yl|exact o8)
theorem Cu(text:Array Nat)(p b:Nat):(⟨text.extract p b⟩:aq)=mk ((text.toList.drop p).take (b-p)):=pu (by rw[gp];show(text.extract p b).toList=_;rw[aj0])
theorem EW(k:Nat):∀p,p<=text.size->Kc text k p=(E3 k (text.toList.drop p)).map (rW mk):=by
 induction k with
 |zero=>exact λ_ _=>rfl
 |succ k ih=>
  intro p hp;have e:=BU (text:=text) (text.size-p) p (o64 hp);have hi:=zY (text:=text) (text.size-p) p;show(nJ text (text.size-p) p).elim _ _=lR _ ((rl (text.toList.drop p)).elim _ _);rw[e]at hi⊢;clear e;generalize rl (text.toList.drop p)=x at hi⊢;rcases x with _|⟨b,n⟩
  ·show some [_]=some [_];rw[Cu,ef (by rw[da,iS];exact aD _)]
  ·have sM:=hi _ _ rfl;have hb:p+b+n<=text.size:=Yk sM;show lR _ (Kc text k (p+b+n))=lR _ (lR _ (E3 k _));rw[ih (p+b+n) hb,ak0,ak0];refine congr (congrArg lR (funext λl=>?_)) (by rw[rX,aet]);show(⟨_⟩:aq)::⟨_⟩::_=mk _::mk _::_;rw[Cu,Cu,show p+b-p=b by exact Yj,show p+b+n-(p+b)=n by exact Yi,rX]
theorem GI(hl:l.length<=150):VO bE (mk l)=(E3 (2*l.length+3) l).map (rW mk):=by refine am (N3 (by simpa using hl)) (am (EW _ 0 (bo _)) ?_);simp
noncomputable def tV:List Nat:=[46,95,43,45]
noncomputable def nF:List (List Nat):=[[],[46],[45,95]]
noncomputable def cB:List String:=["z","dev","a","alpha","b","c","beta","RC","rc","pl","p","1"]
noncomputable def lj(z c s:Nat)(w t:List Nat):List Nat:=(dZ z 48++dA c)++(s::(w++t))
noncomputable def zL(p:List Nat):Bool:=p==[]||tV.any λs=>p==[s]
noncomputable def AJ(z c s:Nat)(w t:List Nat):Bool:=match E3 (2*(lj z c s w t).length+3) (lj z c s w t)with
 |some ps=>(ps.filter λp=>!zL p)==[dZ z 48++dA c,w]&&!((lj z c s w t).contains 32)
 |none=>an
theorem xN:((ba 3).all λz=>(ba 7).all λc=>tV.all λs=>nF.all λt=>((cB.drop 0).take 3).all λw=>AJ z (9+c) s (sg (aJ w)) t)=aj:=by lia
theorem xM:((ba 3).all λz=>(ba 7).all λc=>tV.all λs=>nF.all λt=>((cB.drop 3).take 3).all λw=>AJ z (9+c) s (sg (aJ w)) t)=aj:=by lia
theorem xL:((ba 3).all λz=>(ba 7).all λc=>tV.all λs=>nF.all λt=>((cB.drop 6).take 3).all λw=>AJ z (9+c) s (sg (aJ w)) t)=aj:=by lia
theorem xK:((ba 3).all λz=>(ba 7).all λc=>tV.all λs=>nF.all λt=>((cB.drop 9).take 3).all λw=>AJ z (9+c) s (sg (aJ w)) t)=aj:=by lia
theorem EA(hz:z<3)(h9:9<=c)(hc:c<=15)(hs:s∈tV)(ht:t∈nF)(hw:w∈cB):AJ z c s (sg (aJ w)) t=aj:=by
 have key:∀i,((ba 3).all λz=>(ba 7).all λc=>tV.all λs=>nF.all λt=>((cB.drop (3*i)).take 3).all λw=>AJ z (9+c) s (sg (aJ w)) t)=aj->w∈(cB.drop (3*i)).take 3->AJ z c s (sg (aJ w)) t=aj:=λi h hw=>by have h:=aT.mp (aT.mp (aT.mp (aT.mp (aT.mp h z (cA.mpr hz)) (c-9) (cA.mpr (ZP hc))) s hs) t ht) w hw;rwa[show 9+(c-9)=c by exact ZK h9]at h
 simp only[cB,ax,bA,or_false]at hw;rcases hw with rfl|rfl|rfl|rfl|rfl|rfl|rfl|rfl|rfl|rfl|rfl|rfl
 ·exact key 0 xN (by simp[cB])
 ·exact key 0 xN (by simp[cB])
 ·exact key 0 xN (by simp[cB])
 ·exact key 1 xM (by simp[cB])
 ·exact key 1 xM (by simp[cB])
 ·exact key 1 xM (by simp[cB])
 ·exact key 2 xL (by simp[cB])
 ·exact key 2 xL (by simp[cB])
 ·exact key 2 xL (by simp[cB])
 ·exact key 3 xK (by simp[cB])
 ·exact key 3 xK (by simp[cB])
 ·exact key 3 xK (by simp[cB])
noncomputable def y1(x:aq):Sg:=[(aJ "version",.str x),(aJ "component_re",.obj 36),(aJ "result",.loc 0)]
noncomputable def yo(x:aq):Option (V×Option V)->Sg
 |none=>y1 x
 |some (v,ah)=>y1 x++[(aJ "v",v)]
 |some (v,some t)=>y1 x++[(aJ "v",v),(aJ "t",t)]
noncomputable def yt:Option (V×Option V)->Option V
 |none=>ah
 |some e=>e.2
theorem Vj:(dc 4).body=[bd 4 0,bd 4 1,bd 4 2,bd 4 3]:=by lia
theorem RP(x:aq):bW P0 60 (bp 4) [(aJ "version",.str x)] [] [bd 4 0,bd 4 1]=some (.next,y1 x,[[]]):=by lia
noncomputable def vT:Expr:=match bd 4 2 with
 |.For t _ _ _ _=>t
 |_=>gK
noncomputable def vI:Expr:=match bd 4 2 with
 |.For _ i _ _ _=>i
 |_=>gK
noncomputable def vB:List cy:=match bd 4 2 with
 |.For _ _ b _ _=>b
 |_=>[]
noncomputable def Qu:cy:=vB.getD 0 (.Pass default)
noncomputable def vK(k:Nat):cy:=(mr Qu).getD k (.Pass default)
noncomputable def Js(p:List Nat):Bool:=!(gV (aJ "._+-") (mk p) 0 4 1).isEmpty
theorem Q7:vB=[Qu]:=by lia
theorem Mh:mr Qu=[vK 0,vK 1]:=by lia
noncomputable def yv(x:aq)(v:V)(t:Option V):Sg:=yo x (some (v,t))
theorem PO(x:aq)(v:V)(o:Option (V×Option V)):dq (bp 4) vT v (yo x o)=some (yv x v (yt o)):=by rcases o with _|⟨u,_|t⟩<;>lia
theorem Gp(x:aq)(p:List Nat)(t:Option V)(st:St):bY P0 st 57 (bp 4) (yv x (.str (mk p)) t) (jo Qu)=some (!(Js p)):=by cases t<;>lia
theorem WL{x:aq}{p:List Nat}{n:Int}{t:Option V}{st:St}(hl:p.length<=640)(hn:cz (mk p)=some n):bi P0 56 (bp 4) (yv x (.str (mk p)) t) st (vK 0)=some (.next,yv x (.int n) (some (.int 100)),st):=by
 have hv:fk st (aJ "int") [.str (mk p),.int 10]=some (.int n):=by
  have:fk st (aJ "int") [.str (mk p),.int 10]=if(mk p).length<=640 then(cz (mk p)).map .int else ah:=by lia
  refine am this (am (aP (by rw[lv];exact hl)) (am hn ?_));rfl
 have e:bW P0 55 (bp 4) (yv x (.str (mk p)) t) st (match vK 0 with|.Try b _ _ _ _=>b|_=>[])=some (.next,yv x (.int n) (some (.int 100)),st):=by refine(aB (rP rfl (λ_ _ _=>rfl) (gh (vs:=[.str (mk p),.int 10]) rfl (by decide) (by lia) (by lia) (by decide) (by cases t<;>lia) hv) (by lia))).trans ?_;cases t<;>lia
 exact ck e rfl
theorem Q6{x:aq}{v t:V}{res:List V}(hl:res.length<=10000):bi P0 55 (bp 4) (yv x v (some t)) [res] (vK 1)=some (.next,yv x v (some t),[res++[t,v]]):=by
 have:bi P0 55 (bp 4) (yv x v (some t)) [res] (vK 1)=if res.length<=10000 then some (.next,yv x v (some t),[res++[t,v]])else ah:=by lia
 exact am this (am (aP hl) rfl)
inductive xt:List Nat->List V->Prop
 |skip {p}:Js p=aj->xt p []
 |int {p n}:Js p=an->p.length<=640->cz (mk p)=some n->xt p [.int 100,.int n]
 |bad {p k}:Js p=an->jh (mk p)->(lookup (.str (mk p)) Gh).getD (.int 0)=.int k->xt p [.int k,.str (mk p)]
inductive wn:List (List Nat)->List V->Prop
 |nil:wn [] []
 |cons {p ps a b}:xt p a->wn ps b->wn (p::ps) (a++b)
section
variable{K:ph}{w:bz}{r:Nat}
noncomputable def BT(x:aq)(v:V)(σ:Sg)(st:St)(out:ga):Prop:=∃p o res,v=.str (mk p)/\σ=yo x o/\st=[res]/\res.length<=1000/\
 ((Js p=aj/\out=(.next,yv x (.str (mk p)) (yt o),[res]))\/(∃n,Js p=an/\p.length<=640/\cz (mk p)=some n/\out=(.next,yv x (.int n) (some (.int 100)),[res++[.int 100,.int n]]))\/
  (∃k,Js p=an/\jh (mk p)/\(lookup (.str (mk p)) Gh).getD (.int 0)=.int k/\out=(.next,yv x (.str (mk p)) (some (.int k)),[res++[.int k,.str (mk p)]])))
theorem W3(O:Wo K w ag mg mb){x:aq}{p:List Nat}{k:Int}{t:Option V}{st:St}(b:jh (mk p))(hk:(lookup (.str (mk p)) Gh).getD (.int 0)=.int k):C1 prog w ag r (bp 4) (vK 0) (yv x (.str (mk p)) t) st (.next,yv x (.str (mk p)) (some (.int k)),st):=by
 have hc:hZ (aJ "ValueError")=some (.type "ValueError"):=by lia
 have e:yv x (.str (mk p)) (some (.int k))=ee (aJ "t") (.int k) (yv x (.str (mk p)) t):=by cases t<;>lia
 refine am e ?_;exact C1.NS (m:=50) (P:=P0) O.pF O.X (by lia) (by cases t<;>lia) b (by simp) (O.free (by simp[ud])) hc (by lia) O.L.h33 (by lia) (by lia) (by lia) (by cases t<;>lia) (O.name (x:=aJ "_ver_stages") (by simp[yz])) (by lia) (by lia) O.tS (by lia) hk
theorem Vh(O:Wo K w ag mg mb){x:aq}(v:V)(σ:Sg)(st:St)(out:ga)(h:BT x v σ st out):∃cR,dq (bp 4) vT v σ=some cR/\CS prog w ag r (bp 4) vB cR st out:=by
 obtain⟨p,o,res,rfl,rfl,rfl,hl,h⟩:=h;refine⟨_,PO x _ o,?_⟩;refine am Q7 ?_;have hif:F5 Qu=aj:=by lia
 rcases h with⟨hq,rfl⟩|⟨n,hq,hp,hn,rfl⟩|⟨k,hq,hb,hk,rfl⟩
 ·refine CS.pure (m:=59) O.pF (P:=P0) ?_ (λc x h=>by exact Fl.noConfusion h);exact(aB (eG rfl ((Gp x p _ _).trans (by refine am hq ?_;rfl)) rfl)).trans dY
 ·refine CS.pure (m:=59) O.pF (P:=P0) ?_ (λc x h=>by exact Fl.noConfusion h);refine(aB (fJ rfl ((Gp x p _ _).trans (by refine am hq ?_;rfl)) (out:=(.next,yv x (.int n) (some (.int 100)),[res++[.int 100,.int n]])) ?_)).trans dY
  exact am Mh ((aB (WL hp hn)).trans ((aB (Q6 (o0 hl))).trans dY))
 ·refine .cons (C1.We (m:=57) (P:=P0) O.pF (c:=aj) ((Gp x p _ _).trans (by refine am hq ?_;rfl)) ?_) .nil;refine am (aP rfl) ?_;show CS prog w ag r (bp 4) (mr Qu) _ _ _;exact am Mh (.cons (W3 O hb hk) (.cons (.pure (P:=P0) O.pF (Q6 (o0 hl)) (λc x h=>by exact Fl.noConfusion h)) .nil))
set_option tactic.hygienic true in
theorem Ol{x:aq}{ps:List (List Nat)}{us:List V}(pp:wn ps us):∀(o:Option (V×Option V)) (res:List V),res.length+2*ps.length<=1000->∃o',s9 (BT x) (ps.map λp=>.str (mk p)) (yo x o) [res] (.next,yo x o',[res++us]):=by
 induction pp with
 |nil=>exact λo res _=>⟨o,by rw[gJ];exact .nil⟩
 |@cons p ps a b hp h IH=>
  intro o res hl;simp only[aS]at hl
  cases hp with
  |skip hq=>
   obtain⟨o',f⟩:=IH (some (.str (mk p),yt o)) res (by exact dp _ _ 1 (.p V0 (.m 2 V1)) (.k 1000) (D1 (.p V0 (.m 2 (S1 V1))) (.k 1000) .n) rfl hl);exact⟨o',.next ⟨p,o,res,rfl,rfl,rfl,Zd hl,.inl ⟨hq,rfl⟩⟩ f⟩
  |int hq Ai hn=>
   rename_i n;obtain⟨o',f⟩:=IH (some (.int n,some (.int 100))) (res++[.int 100,.int n]) (by simp;exact o94 hl);rw[br]at f;exact⟨o',.next ⟨p,o,res,rfl,rfl,rfl,Zd hl,.inr (.inl ⟨n,hq,Ai,hn,rfl⟩)⟩ f⟩
  |bad hq hb hk=>
   rename_i k;obtain⟨o',f⟩:=IH (some (.str (mk p),some (.int k))) (res++[.int k,.str (mk p)]) (by simp;exact o94 hl);rw[br]at f;exact⟨o',.next ⟨p,o,res,rfl,rfl,rfl,Zd hl,.inr (.inr ⟨k,hq,hb,hk,rfl⟩)⟩ f⟩
theorem XD(x:aq)(o:Option (V×Option V))(vs:List V)(st:St):bi P0 57 (bp 4) (yo x o) (vs::st) (bd 4 3)=some (.ret (.loc 0),yo x o,vs::st):=by rcases o with _|⟨u,_|t⟩<;>lia
theorem ad6(O:Wo K w ag mg mb){l:List Nat}{ps:List (List Nat)}{us:List V}(hl:l.length<=150)(hs:E3 (2*l.length+3) l=some ps)(hp:wn ps us)(hn:ps.length<=400)(fus:jX us=aj):sb prog w ag (r+1) 44 [.str (mk l)] (.lst us):=by
 refine eE (Ol (x:=mk l) hp ah [] (by simp;exact(dD _ 1 (.m 2 V0) (.k 1000) (.c 2 V0 (.k 400) .n) rfl hn))) λo' f=>?_;rw[Qo]at f;have D:=O.L.f44.at O.X ok4;have hit:ay P0 [[]] 50 (bp 4) (y1 (mk l)) vI=some (.lst (ps.map λp=>.str (mk p))):=by refine IZ (z:=36) rfl rfl rfl (by decide) (by decide) (by lia) (vs:=[.str (mk l)]) (by lia) ?_;show WF 36 bE 36 (aJ "split") [.str (mk l)]=_;unfold WF;dsimp only;rw[aP ⟨rfl,rfl,aap hl⟩,GI hl,hs];simp only[akK,b6];rw[aP (by rw[aL];exact(dD _ 1 V0 (.k 16777216) (D1 V0 (.k 400) .n) rfl hn)),bF];rfl
 refine sb.list (cR:=yo (mk l) o') (eJ:=[us]) (l:=0) D O.lim (ik _ rfl) rfl rfl (ik _ fus) ?_;show CS prog w ag r (bp 4) (dc 4).body [(aJ "version",.str (mk l))] [] _;rw[Vj,show [bd 4 0,bd 4 1,bd 4 2,bd 4 3]=[bd 4 0,bd 4 1]++[bd 4 2,bd 4 3]from rfl];refine CS.app (P:=P0) O.pF 60 _ (RP (mk l)) (.cons (mj:=yo (mk l) o') (gA:=[us]) ?_ (.ret (.pure (P:=P0) O.pF (XD _ _ _ _) (λc x h=>by cases h))));exact C1.Le (P:=P0) O.pF hit f (λv σ st out h=>Vh O v σ st out h)
end
theorem JX{p:List Nat}(h:zL p=aj):Js p=aj:=by
 unfold zL at h;rcases gP.mp h with h|h
 ·refine am (cw.mp h) ?_;lia
 ·refine cW (vU.mp h) λs hs e=>?_;refine am (cw.mp e) ?_;simp only[tV,ax,bA,or_false]at hs;rcases hs with rfl|rfl|rfl|rfl<;>lia
theorem uW:∀(ps:List (List Nat)) (fs:List (List Nat×List V)),(ps.filter λp=>!zL p)=fs.map (·.1)->(∀f∈fs,xt f.1 f.2)->wn ps (fs.flatMap (·.2))
 |[],[],_,_=>.nil
 |[],_::_,h,_=>by cases h
 |p::ps,fs,h,hf=>by
  replace h:=nX▸h
  cases hs:zL p with
  |true=>
   replace h:=hs▸h;exact .cons (.skip (JX hs)) (uW ps fs h hf)
  |false=>
   replace h:=hs▸h
   cases fs with
   |nil=>cases h
   |cons f fs=>
    rw[aP (by decide),aY,akN]at h;obtain⟨rfl,h⟩:=h;exact .cons (hf f (.head _)) (uW ps fs h λg hg=>hf g (.tail _ hg))
noncomputable def Ve(z c:Nat):Bool:=!(Js (dZ z 48++dA c))&&decide ((dZ z 48++dA c).length<=640)&&(cz (mk (dZ z 48++dA c))==some (c:Int))&&(aJ (toString (c:Int))==mk (dA c))
theorem aec:((ba 3).all λz=>(ba 7).all λc=>Ve z (9+c))=aj:=by lia
theorem DZ{z c:Nat}(hz:z<3)(h9:9<=c)(hc:c<=15):xt (dZ z 48++dA c) [.int 100,iv c]/\aJ (toString (c:Int))=mk (dA c):=by have h:=aT.mp (aT.mp aec z (cA.mpr hz)) (c-9) (cA.mpr (ZP hc));rw[show 9+(c-9)=c by exact ZK h9]at h;unfold Ve at h;simp only[cj,cw,fH,bH]at h;refine eA h λqN h4=>?_;obtain⟨⟨h1,h2⟩,h3⟩:=qN;exact⟨.int h1 h2 h3,h4⟩
theorem vF{w:String}{k:Int}(h0:Js (sg (aJ w))=an)(h1:cz (aJ w)=ah)(h2:(aJ w).length<=640)(h3:((qF (aJ w)).length==(akj (aJ w)).length)=aj)(h4:(ajI (aJ w)).length<=1000)(h5:(lookup (.str (aJ w)) Gh).getD (.int 0)=.int k):xt (sg (aJ w)) [.int k,wd w]:=by
 have e:wd w=.str (mk (sg (aJ w))):=by rw[lp];rfl
 have:=xt.bad (p:=sg (aJ w)) (k:=k) h0 (by rw[lp];exact⟨h1,h2,h3,h4⟩) (by rw[lp];exact h5);rwa[<-e]at this
structure gy(u:V)(k:Nat)(w:String):Prop where
 mem:w∈cB
 str:nP u=.str (aJ w)
 part:xt (sg (aJ w)) [iv k,u]
theorem WS:gy (wd "z") 0 "z":=⟨by simp[cB],rfl,vF (by lia) (by lia) (by decide+kernel) (by lia) (by decide+kernel) (by lia)⟩
theorem Ga:gy (wd "dev") 10 "dev":=⟨by simp[cB],rfl,vF (by lia) (by lia) (by decide+kernel) (by lia) (by decide+kernel) (by lia)⟩
theorem WW:gy (wd "a") 20 "a":=⟨by simp[cB],rfl,vF (by lia) (by lia) (by decide+kernel) (by lia) (by decide+kernel) (by lia)⟩
theorem Gb:gy (wd "alpha") 20 "alpha":=⟨by simp[cB],rfl,vF (by lia) (by lia) (by decide+kernel) (by lia) (by decide+kernel) (by lia)⟩
theorem WV:gy (wd "b") 30 "b":=⟨by simp[cB],rfl,vF (by lia) (by lia) (by decide+kernel) (by lia) (by decide+kernel) (by lia)⟩
theorem WU:gy (wd "c") 40 "c":=⟨by simp[cB],rfl,vF (by lia) (by lia) (by decide+kernel) (by lia) (by decide+kernel) (by lia)⟩
theorem JD:gy (wd "beta") 30 "beta":=⟨by simp[cB],rfl,vF (by lia) (by lia) (by decide+kernel) (by lia) (by decide+kernel) (by lia)⟩
theorem Q1:gy (wd "RC") 50 "RC":=⟨by simp[cB],rfl,vF (by lia) (by lia) (by decide+kernel) (by lia) (by decide+kernel) (by lia)⟩
theorem QZ:gy (wd "rc") 50 "rc":=⟨by simp[cB],rfl,vF (by lia) (by lia) (by decide+kernel) (by lia) (by decide+kernel) (by lia)⟩
theorem Q0:gy (wd "pl") 200 "pl":=⟨by simp[cB],rfl,vF (by lia) (by lia) (by decide+kernel) (by lia) (by decide+kernel) (by lia)⟩
theorem WT:gy (wd "p") 200 "p":=⟨by simp[cB],rfl,vF (by lia) (by lia) (by decide+kernel) (by lia) (by decide+kernel) (by lia)⟩
theorem NJ:gy (.int 1) 100 "1":=⟨by simp[cB],by lia,.int (n:=1) (by lia) (by decide+kernel) (by lia)⟩
theorem JC{u:V}{k r:Nat}(hr:r<5)(h:(u,k)∈xU r):∃w,gy u k w:=by
 have:r=0\/r=1\/r=2\/r=3\/r=4:=o24 hr;rcases this with rfl|rfl|rfl|rfl|rfl<;>(simp only[xU,ax,bA,or_false,ak7]at h;rcases h with⟨rfl,rfl⟩|⟨rfl,rfl⟩|⟨rfl,rfl⟩)
 ·exact⟨_,WS⟩
 ·exact⟨_,Ga⟩
 ·exact⟨_,WW⟩
 ·exact⟨_,Gb⟩
 ·exact⟨_,WV⟩
 ·exact⟨_,WU⟩
 ·exact⟨_,JD⟩
 ·exact⟨_,Q1⟩
 ·exact⟨_,NJ⟩
 ·exact⟨_,QZ⟩
 ·exact⟨_,NJ⟩
 ·exact⟨_,Q0⟩
 ·exact⟨_,Ga⟩
 ·exact⟨_,NJ⟩
 ·exact⟨_,WT⟩
theorem Hx(k:Nat):∀(l:List Nat) (ps:List (List Nat)),E3 k l=some ps->ps.length<=2*k+1:=by
 induction k with
 |zero=>
  exact λl ps h=>by exact bM h
 |succ k ih=>
  exact λl ps h=>Nl h (λ_ h=>au h▸jE 1 (2*(k+1))) λq _ h=>fz h λr hr e=>e▸(by exact dp _ _ 1 (.p (S1 V0) K1) (.p (.m 2 (S1 V1)) K1) (D1 V0 (.p (.m 2 V1) K1) .n) rfl (ih _ r hr))
section
variable{K:ph}{w:bz}{r:Nat}
set_option tactic.hygienic true in
theorem EB(O:Wo K w ag mg mb){u:V}{k z c s:Nat}{t:List Nat}{wo:String}(hw:gy u k wo)(hu:xZ u)(hz:z<3)(h9:9<=c)(hc:c<=15)(hs:s∈tV)(ht:t∈nF):
  sb prog w ag (r+1) 44 [.str (mk (lj z c s (sg (aJ wo)) t))] (.lst [iv 100,iv c,iv k,u])/\32∉lj z c s (sg (aJ wo)) t:=by
 have h:=EA hz h9 hc hs ht hw.mem;unfold AJ at h;split at h
 ·next ps e=>
  rw[cj,cw,fH]at h;have hp:=uW ps [(dZ z 48++dA c,[.int 100,iv c]),(sg (aJ wo),[iv k,u])] h.1 (λf hf=>by
   simp only[ax,bA,or_false]at hf;rcases hf with rfl|rfl
   ·exact(DZ hz h9 hc).1
   ·exact hw.part)
  have hlen:(lj z c s (sg (aJ wo)) t).length<=50:=by
   have h1:(sg (aJ wo)).length<=5:=by
    have:=hw.mem;have a:(cB.all λw=>decide ((sg (aJ w)).length<=5))=aj:=by lia
    exact bG (aT.mp a wo this)
   have h2:t.length<=2:=by
    have a:(nF.all λt=>decide (t.length<=2))=aj:=by lia
    exact bG (aT.mp a t ht)
   have h3:(dA c).length<=2:=by unfold dA;split<;>simp
   unfold lj;simp only[aE,aS,yX];exact(tB _ _ _ _ 1 (.p (.p V0 V1) (.p (.p V2 V3) K1)) (.k 50) (D1 (S1 V0) (.k 3) (D1 V1 (.k 2) (D1 V2 (.k 5) (D1 V3 (.k 2) .n)))) rfl hz h3 h1 h2)
  refine⟨ad6 O (by exact dD _ 1 V0 (.k 150) (D1 V0 (.k 50) .n) rfl hlen) e hp ?_ ?_,?_⟩
  ·have:=Hx _ _ _ e;exact(dp _ _ 1 V0 (.k 400) (D1 V0 (.p (.m 2 (.p (.m 2 V1) (.k 3))) K1) (.c 4 V1 (.k 50) .n)) rfl this hlen)
  ·rcases hu with rfl|⟨y,rfl⟩<;>rfl
  ·have:=h.2;intro q;rw[List.contains_iff_mem.mpr q]at this;cases this
 ·exact bB h
end
section
variable{K:ph}{w:bz}{r:Nat}
noncomputable def kh(k:String)(x:aq):V:=.tup [.str (aJ k),.str x]
theorem HT(O:Wo K w ag mg mb)(h:A1 K cls (.ref 81)=some b):QR mg (bp 25) K (aJ "error_reply") (.ref 81) cls b:=
 ⟨O.name (by simp -iota [yz]),by lia,by lia,h⟩
theorem MW(O:Wo K w ag mg mb)(h:A1 K cls (.ref 93)=some b):QR mg (bp 25) K (aJ "error_proto") (.ref 93) cls b:=
 ⟨O.name (by simp -iota [yz]),by lia,by lia,h⟩
noncomputable def VP(rd:aN)(x:aq)(p:V):Sg:=[(aJ "reader",.obj rd),(aJ "reply",.str x),(aJ "peer",p)]
noncomputable def VQ:List ExceptHandler:=match bd 25 0 with
 |.Try _ hs _ _ _=>hs
 |_=>[]
theorem DE(O:Wo K w ag mg mb){rd:aN}(hl:x.length<=10000):kQ prog w ag r (bp 25) (VP rd x p) (.ref 81) (λargs=>∃u,args=[.str x u]) VQ (kh "reply" x):=
 vl (P:=P0) O.pF.d O.X (HT O O.L.h11) (by lia) (by lia) (by lia) O.L.s1 O.L.b1 (by decide) (Z' hl)
theorem K5(O:Wo K w ag mg mb){rd:aN}(hl:x.length<=10000):kQ prog w ag r (bp 25) (VP rd x p) (.ref 93) (λargs=>∃u,args=[.str x u]) VQ (kh "proto" x):=
 nt (P:=P0) O.pF.d O.X (HT O O.L.h21) (vl (P:=P0) O.pF.d O.X (MW O O.L.h22) (by lia) (by lia) (by lia) O.L.s2 O.L.b2 (by decide) (Z' hl))
theorem K4(O:Wo K w ag mg mb){rd:aN}:kQ prog w ag r (bp 25) (VP rd x p) (.type "ValueError") (λ_=>True) VQ (kh "value" x):=by
 have hc:hZ (aJ "ValueError")=some (.type "ValueError"):=by lia
 exact nt (P:=P0) O.pF.d O.X (HT O O.L.h31) (nt (P:=P0) O.pF.d O.X (MW O O.L.WB) (wc (P:=P0) O.pF.d O.X (by simp -iota) (O.free (by simp -iota [ud])) hc (by lia) O.L.h33 (by lia) (by lia) (by lia) (by decide)))
theorem rfz:Fz (kh k x):=Cq _ rfl
theorem J6(O:Wo K w ag mg mb)(h:c5 x ah (some 3)≠aJ "257")(hl:x.length<=10000):sb prog w ag (r+2) 175 [.obj 109,.str x,.none] (kh "reply" x):=by have X:Nz prog w ag (r+1) 109 [.str x] (.ref 81) (λargs=>∃u,args=[.str x u]):=(Cw (m:=60) (vs:=[.str x]) (P:=P0) O.pF (O.L.Px.at O.X SQ) O.lim (ik _ rfl) rfl (LB h) rfl).Qx;exact zR (P:=P0) (n:=50) (c:=aj) O.pF (O.L.Pw.at O.X SP) O.lim (ik _ rfl) rfz rfl (by lia) rfl (by lia) (by lia) X (DE O hl)
variable{a:aq}{b:Int}
theorem xY(O:Wo K w ag mg mb)(X:Nz prog w ag (r+1) 102 [.str x,.tup [.str a,.int b]] cls AR)(H:kQ prog w ag (r+1) (bp 25) (VP 102 x (.tup [.str a,.int b])) cls AR VQ (kh k x)):sb prog w ag (r+2) 175 [.obj 102,.str x,.tup [.str a,.int b]] (kh k x):=
 zR (P:=P0) (n:=50) (c:=an) O.pF (O.L.Pw.at O.X SP) O.lim (ik _ rfl) rfz rfl (by lia) rfl (by lia) (by lia) X H
theorem BL(O:Wo K w ag mg mb)(hx:sg x=L)(hl:L.length<=10000)(h:v3 L=.Da):sb prog w ag (r+2) 175 [.obj 102,.str x,.tup [.str a,.int b]] (kh "reply" x):=by have R:=xS x a b L hx hl;rw[h]at R;refine eE R λσ e=>?_;exact xY O (Cw (m:=60) (vs:=[.str x,.tup [.str a,.int b]]) (P:=P0) O.pF (O.L.It.at O.X Kb) O.lim (ik _ rfl) rfl e rfl).Qx (DE O (by rw[<-dX,hx];exact hl))
theorem jU(O:Wo K w ag mg mb)(hx:sg x=L)(hl:L.length<=10000)(h:v3 L=.uU):sb prog w ag (r+2) 175 [.obj 102,.str x,.tup [.str a,.int b]] (kh "proto" x):=by have R:=xS x a b L hx hl;rw[h]at R;refine eE R λσ e=>?_;exact xY O (Cw (m:=60) (vs:=[.str x,.tup [.str a,.int b]]) (P:=P0) O.pF (O.L.It.at O.X Kb) O.lim (ik _ rfl) rfl e rfl).Qx (K5 O (by rw[<-dX,hx];exact hl))
theorem uS(O:Wo K w ag mg mb)(hx:sg x=L)(hl:L.length<=10000)(h:v3 L=.parts p)(hb:jh (mk p)):sb prog w ag (r+2) 175 [.obj 102,.str x,.tup [.str a,.int b]] (kh "value" x):=by
 have R:=xS x a b L hx hl;replace R:=h▸R;refine l7 R λl r' ps R h3=>xY O (AR:=λ_=>True) ?_ (K4 O);have D:=O.L.It.at O.X Kb;have v9:bW P0 60 (bp 12) (q0 x a b) [] Dd=some (.next,p8 x a b l r' ps,[]):=by have:=R [];rw[gJ]at this;refine am this ?_;exact dY
 exact Lm (P:=P0) (m:=60) (m':=48) (pre:=Dd) (rest:=[bd 12 10]) O.pF D O.lim (ik _ rfl) rfl (by lia) v9 (Mi h3) hb
end
noncomputable def FaH:aN->List V->Option V:=λa vs=>
 if a=51 then rg 6 gL vs else if a=58 then rg 7 gL vs else if a=102 then rg 12 gL vs else if a=109 then rg 13 gL vs
 else if a=123 then rg 16 gL vs else if a=130 then rg 17 gL vs else if a=137 then rg 18 gL vs else if a=144 then rg 19 gL vs else if a=151 then rg 20 gL vs else ah
noncomputable abbrev PH:pD:=MK FaH
theorem PI:(dc 26).body=[bd 26 0,bd 26 1,bd 26 2,bd 26 3,bd 26 4,bd 26 5,bd 26 6,bd 26 7,bd 26 8,bd 26 9,bd 26 10,bd 26 11,bd 26 12,bd 26 13,bd 26 14,bd 26 15,bd 26 16]:=by lia
section
variable{l T:Nat}{m:dh}{hs:List bS}{n a b:Nat}{e:Expr}{u:V}
theorem vJ(h:ay P st n sc σ e=some (.int ((T:Int).fmod (b:Int)))):ay P st n sc σ e=some (iv (T%b)):=by rw[h,kl];rfl
theorem tI(h:ay P st n sc σ e=some (.int (((T:Int).fdiv (a:Int)).fmod (b:Int)))):ay P st n sc σ e=some (iv (T/a%b)):=by rw[h,mM,kl];rfl
theorem ej(h:x.length+y.length<=16777216):eX .Add (.str (mk x)) (.str (mk y))=some (.str (mk (x++y))):=by have:eX .Add (.str (mk x)) (.str (mk y))=if(mk x).length+(mk y).length<=16777216 then some (.str (mk x++mk y))else ah:=rfl;rw[this,lv,lv,aP h,PV]
noncomputable def iR(s:cy):Expr:=match s with
 |.Assign _ e _=>e
 |_=>gK
noncomputable def Fj(l:Nat)(m:dh)(hs:List bS)(T:Nat):Sg:=[(aJ "row",.loc l),(aJ "message",cF m),(aJ "hands",.lst (hs.map dx)),(aJ "turn",iv T)]
noncomputable def Pm(l:Nat)(m:dh)(hs:List bS)(T:Nat):Sg:=Fj l m hs T++[(aJ "hand",iv m.h),(aJ "count",iv m.c),(aJ "port",iv m.p),(aJ "piece",tv m.t)]
noncomputable def nv(h:Nat):aq:=match h with
 |0=>aJ "red"
 |1=>aJ "green"
 |_=>aJ "blue"
noncomputable def Pl(l:Nat)(m:dh)(hs:List bS)(T:Nat):Sg:=Pm l m hs T++[(aJ "peer",.tup [.str (nv m.h),.int 21])]
noncomputable def dC(T:Nat):Nat:=marks.getD (T%4) 0
noncomputable def K7(l:Nat)(m:dh)(hs:List bS)(T:Nat):Sg:=Pl l m hs T++[(aJ "mark",.str ⟨#[dC T]⟩)]
theorem MB:bi PH 79 (bp 26) (Fj l m hs T) st (bd 26 0)=some (.next,Pm l m hs T,st):=by lia
theorem MA(hh:m.h<3):bi PH 78 (bp 26) (Pm l m hs T) st (bd 26 1)=some (.next,Pl l m hs T,st):=by
 obtain⟨h,c,p,t⟩:=m;have:h=0\/h=1\/h=2:=by simp at hh;exact V8 hh
 rcases this with rfl|rfl|rfl<;>lia
theorem Mz:bi PH 77 (bp 26) (Pl l m hs T) st (bd 26 2)=some (.next,K7 l m hs T,st):=by refine(cQ rfl rfl rfl (yP (cL rfl rfl (a:=.str (aJ "|,;\"")) (b:=iv (T%4)) (by lia) (vJ (by lia)) (l3 (c:=dC T) ?_))) (by lia)).trans (by lia);have:T%4=0\/T%4=1\/T%4=2\/T%4=3:=o72;unfold dC;rcases this with e|e|e|e<;>rw[e]<;>rfl
noncomputable def si(T:Nat):List Nat:=if T/4%2=0 then []else [120]
noncomputable def qO(T:Nat):List Nat:=QW.getD (T/8%3) []
theorem Ot:eX .Mult (.str (aJ "x")) (iv (T/4%2))=some (.str (mk (si T))):=by have:T/4%2=0\/T/4%2=1:=o73;unfold si;rcases this with e|e<;>rw[e]<;>lia
theorem OQ:qd st (.tup [.str (aJ ""),.str (aJ "+"),.str (aJ "00")]) (iv (T/8%3))=some (.str (mk (qO T))):=by refine iJ ?_;have:T/8%3=0\/T/8%3=1\/T/8%3=2:=Z2;unfold qO;rcases this with e|e|e<;>rw[e]<;>rfl
noncomputable def dU(T p:Nat):List Nat:=w4 (dC T) (si T) (qO T) (dA p)
noncomputable def Pk(l:Nat)(m:dh)(hs:List bS)(T:Nat):Sg:=K7 l m hs T++[(aJ "core",.str (mk (dU T m.p)))]
theorem rL(p:Nat):(dA p).length<=2:=by unfold dA;split<;>simp
theorem F8:(si T).length<=1:=by unfold si;split<;>simp
theorem Bi:(qO T).length<=2:=by unfold qO;have:T/8%3=0\/T/8%3=1\/T/8%3=2:=Z2;rcases this with e|e|e<;>rw[e]<;>decide
theorem My(hp:m.p∈gC):bi PH 76 (bp 26) (K7 l m hs T) st (bd 26 3)=some (.next,Pk l m hs T,st):=by
 have hd:nP (iv m.p)=.str (mk (dA m.p)):=congrArg V.str (bG (aT.mp NZ m.p hp));have HS:m.p<100000:=by
  have a:(gC.all λp=>decide (p<100000))=aj:=by lia
  exact bG (aT.mp a _ hp)
 have h1:=rL m.p;have h2:=F8 (T:=T);have h3:=Bi (T:=T);have e:ay PH st 75 (bp 26) (K7 l m hs T) (iR (bd 26 3))=some (.str (mk ((((([dC T]++si T)++[dC T,dC T])++qO T)++dA m.p)++[dC T]))):=by
  refine bn rfl (b:=.str (mk [dC T])) (bn rfl (b:=.str (mk (dA m.p))) (bn rfl (b:=.str (mk (qO T))) (bn rfl (b:=.str (mk [dC T,dC T])) (bn rfl (a:=.str (mk [dC T])) (b:=.str (mk (si T))) (by lia)
   (bn rfl (a:=.str (aJ "x")) (b:=iv (T/4%2)) (by lia) (tI (by lia)) Ot) (ej ?_)) (by lia) (ej ?_)) (cL rfl rfl (a:=.tup [.str (aJ ""),.str (aJ "+"),.str (aJ "00")]) (b:=iv (T/8%3)) (by lia) (tI (by lia)) OQ) (ej ?_))
   (gh rfl (by decide) (by lia) (by lia) (by decide) (vs:=[iv m.p]) (by lia) ((n6 HS).trans (am hd rfl))) (ej ?_)) (by lia) (ej ?_)
  all_goals (simp only[aE,aS,cu];(first|exact(dD _ 1 (.p (.p (.k 0) K1) V0) (.k 16777216) (D1 V0 K1 .n) rfl h2)|exact(fM _ _ _ 1 (.p (.p (.p (.p (.p (.k 0) K1) V0) (.p (.p (.k 0) K1) K1)) V1) V2) (.k 16777216) (D1 V0 K1 (D1 V1 (.k 2) (D1 V2 (.k 2) .n))) rfl h2 h3 h1)|exact(fM _ _ _ 1 (.p (.p (.p (.p (.p (.p (.k 0) K1) V0) (.p (.p (.k 0) K1) K1)) V1) V2) (.p (.k 0) K1)) (.k 16777216) (D1 V0 K1 (D1 V1 (.k 2) (D1 V2 (.k 2) .n))) rfl h2 h3 h1)|exact(dp _ _ 1 (.p (.p (.p (.p (.k 0) K1) V0) (.p (.p (.k 0) K1) K1)) V1) (.k 16777216) (D1 V0 K1 (D1 V1 (.k 2) .n)) rfl h2 h3)|exact(dD _ 1 (.p (.p (.p (.k 0) K1) V0) (.p (.p (.k 0) K1) K1)) (.k 16777216) (D1 V0 K1 .n) rfl h2)))
 refine(cQ rfl rfl rfl (nU e) (by lia)).trans ?_;have:(((([dC T]++si T)++[dC T,dC T])++qO T)++dA m.p)++[dC T]=dU T m.p:=by unfold dU w4;simp
 refine am this ?_;lia
end
section
open Builtin.Str
theorem BC(h:2<=x.length):c5 x (some (-2)) ah=mk ((sg x).drop (x.length-2)):=by
 have e:strSliceIndices (some (-2)) ah 1 x.length=strSliceIndices (some ((x.length-2:Nat):Int)) ah 1 x.length:=by unfold strSliceIndices;show qE (max 0 (min (if(-2:Int)<0 then _ else _) _)) _ 1=qE (max 0 (min (if((x.length-2:Nat):Int)<0 then _ else _) _)) _ 1;rw[aP (show(-2:Int)<0 by decide),bg (show¬((x.length-2:Nat):Int)<0 by exact X6)];congr 1;exact X5
 have:c5 x (some (-2)) ah=c5 x (some ((x.length-2:Nat):Int)) ah:=by unfold c5;exact am e rfl
 exact am this (am (ji x _ ah (x.length-2) x.length (.inr rfl) (.inl ⟨rfl,rfl⟩)) (am (ef (by rw[dX];exact aD _)) rfl))
theorem qg{n:Nat}:c5 x (some (n:Int)) ah=mk ((sg x).drop n):=by exact am (ji x _ ah n x.length (.inr rfl) (.inl ⟨rfl,rfl⟩)) (am (ef (by rw[dX];exact aD _)) rfl)
section
variable{l T:Nat}{m:dh}{hs:List bS}
noncomputable def oL(l:Nat)(m:dh)(hs:List bS)(T:Nat):Sg:=Pk l m hs T++[(aJ "good",.str (mk (kj (dU T m.p))))]
theorem lz(T p:Nat):(dU T p).length<=9:=by have h1:=rL p;have h2:=F8 (T:=T);have h3:=Bi (T:=T);unfold dU w4;simp only[aE,aS,cu];exact(fM _ _ _ 1 (.p (.p V0 (.p (.p (.p V1 (.p V2 (.p (.k 0) K1))) K1) K1)) K1) (.k 9) (D1 V0 K1 (D1 V1 (.k 2) (D1 V2 (.k 2) .n))) rfl h2 h3 h1)
theorem Fy(T p:Nat):4<=(dU T p).length:=by unfold dU w4;simp only[aE,aS,cu];exact(fM _ _ _ 1 (.k 4) (.p (.p V0 (.p (.p (.p V1 (.p V2 (.p (.k 0) K1))) K1) K1)) K1) .n rfl)
theorem gl:(sg (aJ "229 a) at (")).length=11:=by lia
theorem gr:(sg (aJ ") or (so)")).length=9:=by lia
theorem rG(T p:Nat):(kj (dU T p)).length<=29:=by have:=lz T p;unfold kj;refine am aE (am aE (am gl (am gr ?_)));exact(dD _ 1 (.p (.k 11) (.p V0 (.k 9))) (.k 29) (D1 V0 (.k 9) .n) rfl this)
theorem Mx:bi PH 75 (bp 26) (Pk l m hs T) st (bd 26 4)=some (.next,oL l m hs T,st):=by
 have h1:=lz T m.p;refine(cQ rfl rfl rfl (nU (bn rfl (b:=.str (mk (sg (aJ ") or (so)")))) (bn rfl (a:=.str (mk (sg (aJ "229 a) at (")))) (b:=.str (mk (dU T m.p))) (by lia) (by lia) (ej ?_)) (by lia) (ej ?_))) (by lia)).trans ?_
 ·refine am gl ?_;exact(dD _ 1 (.p (.k 11) V0) (.k 16777216) (D1 V0 (.k 9) .n) rfl h1)
 ·refine am aE (am gl (am gr ?_));exact(dD _ 1 (.p (.p (.k 11) V0) (.k 9)) (.k 16777216) (D1 V0 (.k 9) .n) rfl h1)
 ·rw[br];lia
noncomputable def Hr:List Expr:=match iR (bd 26 5)with
 |.Subscript (.Tuple es _ _) _ _=>es
 |_=>[]
noncomputable def v4(k:Nat):Expr:=Hr.getD k gK
theorem Hq:Hr=[v4 0,v4 1,v4 2,v4 3,v4 4,v4 5,v4 6,v4 7,v4 8]:=by lia
noncomputable def tj(k:Nat):String:=match k with
 |0=>"reply"
 |7=>"value"
 |8=>"value"
 |_=>"proto"
noncomputable def FK(T p k:Nat):V:=.str (mk (sU (dC T) (dU T p) k))
noncomputable def tZ(T p k:Nat):V:=.tup [FK T p k,.str (aJ (tj k))]
variable{n:Nat}
theorem mF(he:v4 k=.Tuple [a,b] kk p)(ha:uA a=an)(hb:uA b=an)(h1:ay PH st (n+2) (bp 26) (oL l m hs T) a=some (FK T m.p k))(h2:ay PH st (n+1) (bp 26) (oL l m hs T) b=some (.str (aJ (tj k)))):ay PH st (n+4) (bp 26) (oL l m hs T) (v4 k)=some (tZ T m.p k):=
 sZ he (by simp) (ce ha h1 (ce hb h2 ci))
theorem acz:ay PH st 70 (bp 26) (oL l m hs T) (v4 0)=some (tZ T m.p 0):=by
 have h1:=rG T m.p;refine mF (n:=66) rfl (by lia) (by lia) (bn rfl (a:=.str (mk (sg (aJ "227")))) (b:=.str (mk ((kj (dU T m.p)).drop 3))) (by lia) ?_ (ej ?_)) (by lia)
 ·refine mQ rfl (a:=.str (mk (kj (dU T m.p)))) (by lia) (va:=some (.int 3)) (vb:=ah) (by lia) (by lia) rfl rfl ?_;show some (V.str (c5 (mk (kj (dU T m.p))) (some ((3:Nat):Int)) ah))=_;rw[qg,gp]
 ·refine am da (am (show(sg (aJ "227")).length=3 by lia) ?_);exact X4 h1
theorem acy:ay PH st 69 (bp 26) (oL l m hs T) (v4 1)=some (tZ T m.p 1):=by lia
theorem tW:(sg (aJ "229 (")).length=5:=by lia
theorem acx:ay PH st 68 (bp 26) (oL l m hs T) (v4 2)=some (tZ T m.p 2):=by
 have h1:=lz T m.p;refine mF (n:=64) rfl (by lia) (by lia) (ajZ (bn rfl (b:=.str (mk [120])) (bn rfl (a:=.str (mk (sg (aJ "229 (")))) (b:=.str (mk (dU T m.p))) (by lia) (by lia) (ej ?_)) (by lia) (ej ?_)) ?_) (by lia)
 ·refine am tW ?_;exact(dD _ 1 (.p (.k 5) V0) (.k 16777216) (D1 V0 (.k 9) .n) rfl h1)
 ·refine am aE (am tW ?_);simp;exact(dD _ 1 (.p (.k 5) V0) (.k 16777215) (D1 V0 (.k 9) .n) rfl h1)
 ·rw[br];rfl
theorem acw:ay PH st 67 (bp 26) (oL l m hs T) (v4 3)=some (tZ T m.p 3):=by
 have h1:=rG T m.p;refine mF (n:=63) rfl (by lia) (by lia) ?_ (by lia);have e:ay PH st 65 (bp 26) (oL l m hs T) (match v4 3 with|.Tuple [a,_] _ _=>a|_=>gK)=if(mk (kj (dU T m.p))).length<=1048576/\(aJ ")").length<=14/\(aJ "x)").length<=14/\aJ ")"≠aJ "x)" then some (.str (rT (mk (kj (dU T m.p))) (aJ ")") (aJ "x)")))else ah:=by lia
 refine e.trans ?_;rw[aP ⟨by rw[lv];exact(dD _ 1 V0 (.k 1048576) (D1 V0 (.k 29) .n) rfl h1),by decide,by decide,by decide⟩];have:=n4 (mk (kj (dU T m.p))) (aJ "x)") 41;rw[gp]at this;exact congrArg (λx=>some (V.str x)) this
theorem acv:ay PH st 66 (bp 26) (oL l m hs T) (v4 4)=some (tZ T m.p 4):=by
 have h1:=lz T m.p;refine mF (n:=62) rfl (by lia) (by lia) (ajZ (bn rfl (b:=.str (mk [41])) (bn rfl (b:=.str (mk (dU T m.p))) (bn rfl (a:=.str (mk (sg (aJ "229 (")))) (b:=.str (mk [dC T])) (by lia) (by lia) (ej ?_)) (by lia) (ej ?_)) (by lia) (ej ?_)) ?_) (by lia)
 ·refine am tW ?_;simp
 ·refine am aE (am tW ?_);simp;exact(dD _ 1 (.p (.k 6) V0) (.k 16777216) (D1 V0 (.k 9) .n) rfl h1)
 ·simp only[aE,tW,aS,cu];exact(dD _ 1 (.p (.p (.p (.k 5) (.p (.k 0) K1)) V0) (.p (.k 0) K1)) (.k 16777216) (D1 V0 (.k 9) .n) rfl h1)
 ·rw[br,br];rfl
theorem acu:ay PH st 65 (bp 26) (oL l m hs T) (v4 5)=some (tZ T m.p 5):=by
 have h1:=lz T m.p;refine mF (n:=61) rfl (by lia) (by lia) (ajZ (bn rfl (b:=.str (mk [41])) (bn rfl (a:=.str (mk (sg (aJ "229 (")))) (b:=.str (mk ((dU T m.p).drop 1))) (by lia) ?_ (ej ?_)) (by lia) (ej ?_)) ?_) (by lia)
 ·refine mQ rfl (a:=.str (mk (dU T m.p))) (by lia) (va:=some (.int 1)) (vb:=ah) (by lia) (by lia) rfl rfl ?_;show some (V.str (c5 (mk (dU T m.p)) (some ((1:Nat):Int)) ah))=_;rw[qg,gp]
 ·refine am tW (am da ?_);exact X3 h1
 ·simp only[aE,tW,aS,cu,da];exact X2 h1
 ·rw[br];rfl
theorem act:ay PH st 64 (bp 26) (oL l m hs T) (v4 6)=some (tZ T m.p 6):=by lia
theorem acr:ay PH st 63 (bp 26) (oL l m hs T) (v4 7)=some (tZ T m.p 7):=by
 have h1:=lz T m.p;have h4:=Fy T m.p;refine mF (n:=59) rfl (by lia) (by lia) (ajZ (bn rfl (b:=.str (mk [41])) (bn rfl (b:=.str (mk ((dU T m.p).drop ((dU T m.p).length-2)))) (bn rfl (b:=.str (mk [120])) (bn rfl (a:=.str (mk (sg (aJ "229 (")))) (b:=.str (mk [dC T,dC T,dC T])) (by lia) (by lia) (ej ?_)) (by lia) (ej ?_)) ?_ (ej ?_)) (by lia) (ej ?_)) ?_) (by lia)
 ·refine am tW ?_;simp
 ·refine am aE (am tW ?_);simp
 ·refine mQ rfl (a:=.str (mk (dU T m.p))) (by lia) (va:=some (.int (-2))) (vb:=ah) (by lia) (by lia) rfl rfl ?_;show some (V.str (c5 (mk (dU T m.p)) (some (-2)) ah))=_;rw[BC (by rw[lv];exact(dD _ 1 (.k 2) V0 (D1 (.k 4) V0 .n) rfl h4)),gp,lv]
 ·simp only[aE,tW,aS,cu,da];exact X1
 ·simp only[aE,tW,aS,cu,da];exact XZ
 ·rw[br,br,br];rfl
theorem acq:ay PH st 62 (bp 26) (oL l m hs T) (v4 8)=some (tZ T m.p 8):=by lia
noncomputable def Fi(l:Nat)(m:dh)(hs:List bS)(T:Nat):Sg:=oL l m hs T++[(aJ "bad",FK T m.p (T/24%9)),(aJ "kind",.str (aJ (tj (T/24%9))))]
theorem Mw:bi PH 74 (bp 26) (oL l m hs T) st (bd 26 5)=some (.next,Fi l m hs T,st):=by
 have ht:ay PH st 72 (bp 26) (oL l m hs T) (match iR (bd 26 5)with|.Subscript e _ _=>e|_=>gK)=some (.tup ((ba 9).map (tZ T m.p))):=by refine sZ (es:=Hr) rfl (by decide) (am Hq ?_);exact ce (by lia) acz (ce (by lia) acy (ce (by lia) acx (ce (by lia) acw (ce (by lia) acv (ce (by lia) acu (ce (by lia) act (ce (by lia) acr (ce (by lia) acq ci))))))))
 refine sV rfl rfl rfl (yP (cL rfl rfl ht (b:=iv (T/24%9)) (tI (by lia)) (iJ (u:=tZ T m.p (T/24%9)) ?_))) (by lia);refine am (cm) (am (aj4 (bx _ (by decide))) ?_);rfl
end
end
section
variable{n:Nat}{e o:Expr}{u:V}{vs:List V}{z:aN}{args:List Expr}{p q:Pos}{fa fb:Expr}{fc:Pos}
theorem LY(he:e=.Call (.Subscript fa fb fc) args [] q)(hf:ay P st n sc σ (.Subscript fa fb fc)=some (.obj z))(g':b3 P st n sc σ args=some vs)(h:P.Fa z vs=some u):ay P st (n+1) sc σ e=some u:=by subst he;exact ck hf (ck g' h)
theorem LX{C Z:aq}{c:Nat}{L:List Nat}{k1 k2:Nat}{p1 p2:Pos}(he:e=.Call (.Attribute o (aJ "replace") p) [.Constant (.str C) k1 p1,.Constant (.str Z) k2 p2] [] q)(h1:ft o=aj)(h2:(p.endLine==q.line)=aj)(ho:ay P st n sc σ o=some (.str (mk L)))
  (hC:C=⟨#[c]⟩) (hl:L.length<=10000) (hz:Z.length<=14) (hcz:C≠Z):ay P st (n+1) sc σ e=some (.str (mk (iE c (sg Z) L))):=by
 subst he;have e:=n4 (mk L) Z c;rw[<-hC,gp]at e;have Wr:C.length=1:=by rw[hC];rfl
 exact(bg (ui h1 h2 (by show 2<=10;decide))).trans (ck ho ((aP rfl).trans ((aP ⟨by rw[lv];exact(dD _ 1 V0 (.k 1048576) (D1 V0 (.k 10000) .n) rfl hl),o87 Wr,hz,hcz⟩).trans (congrArg (λs=>some (V.str s)) e))))
end
section
variable{l T:Nat}{m:dh}{hs:List bS}{x:bS}{tl:List Nat}{wo:String}
noncomputable def l6(k:Nat):String:=match k with
 |0=>"257 is gone"
 |1=>"257"
 |2=>"257-\"9.a x\""
 |3=>"257 \"\" gone"
 |_=>"257 9.a \"x\""
noncomputable def Ck(l:Nat)(m:dh)(hs:List bS)(T:Nat)(f:aq):Sg:=Fi l m hs T++[(aJ "first",.str f)]
theorem Mv:bi PH 73 (bp 26) (Fi l m hs T) st (bd 26 6)=some (.next,Ck l m hs T (aJ (l6 (T/24%5))),st):=by refine(cQ rfl rfl rfl (yP (cL rfl rfl (a:=.tup [.str (aJ (l6 0)),.str (aJ (l6 1)),.str (aJ (l6 2)),.str (aJ (l6 3)),.str (aJ (l6 4))]) (b:=iv (T/24%5)) (by lia) (tI (by lia)) (iJ (u:=.str (aJ (l6 (T/24%5)))) ?_))) (by lia)).trans (by lia);have:T/24%5=0\/T/24%5=1\/T/24%5=2\/T/24%5=3\/T/24%5=4:=aaW;rcases this with e|e|e|e|e<;>rw[e]<;>rfl
noncomputable def w7(k:Nat):cy:=(mr (bd 26 7)).getD k (.Pass default)
theorem Q2:mr (bd 26 7)=[w7 0,w7 1,w7 2]:=by lia
theorem Oa{f:aq}(ht:m.t=ah):bi PH 72 (bp 26) (Ck l m hs T f) st (bd 26 7)=some (.next,Ck l m hs T f,st):=by obtain⟨h,c,p,t⟩:=m;cases ht;lia
theorem Rz{f:aq}(ht:m.t=some tl):bY PH st 71 (bp 26) (Ck l m hs T f) (jo (bd 26 7))=some aj:=by obtain⟨h,c,p,t⟩:=m;cases ht;lia
noncomputable def wr(x:bS)(tl:List Nat):List Nat:=tl.flatMap (tU x.mC)
noncomputable def H8(l:Nat)(m:dh)(hs:List bS)(T:Nat)(f:aq)(w:List Nat):Sg:=Fi l m hs T++[(aJ "first",.str f),(aJ "written",.str (mk w))]
noncomputable def Aq(l:Nat)(m:dh)(hs:List bS)(T:Nat)(f:aq)(w s:List Nat):Sg:=Fi l m hs T++[(aJ "first",.str f),(aJ "written",.str (mk w)),(aJ "stamp",.str (mk s))]
theorem H6{k:Nat}{v:V}(hx:hs[m.h]?=some x){e:Expr}{q q1 q2 q3 q4:Pos}{kd:Nat}{n:Nat}{σ:Sg}(he:e=.Subscript (.Subscript (.Name (aJ "hands") q1) (.Name (aJ "hand") q2) q3) (.Constant (.int (k:Int)) kd q4) q)(h1:∀n,ay PH st (n+1) (bp 26) σ (.Name (aJ "hands") q1)=some (.lst (hs.map dx)))
  (h2:∀n,ay PH st (n+1) (bp 26) σ (.Name (aJ "hand") q2)=some (iv m.h)) (hk:([x.w,iv x.r,iv x.dQ,iv x.sh,iv x.mC]:List V)[k]?=some v):ay PH st (n+3) (bp 26) σ e=some v:=
 cL he rfl (cL rfl rfl (h1 _) (h2 _) (j6 (u:=dx x) (by refine am (cm) (am hx ?_);rfl))) rfl (iJ hk)
theorem Lk{tl:List Nat}(h:tl.length<=2):∀k,k<5->FaH (123+7*k) [.str (mk tl)]=some (.str (mk (tl.flatMap (tU k)))):=
 rJ (qL h 0 (by decide)) (qL h 1 (by decide)) (qL h 2 (by decide)) (qL h 3 (by decide)) (qL h 4 (by decide))
theorem Q5{f:aq}(hx:hs[m.h]?=some x)(ht:m.t=some tl)(hl:tl.length<=2)(hp:x.mC<5):bi PH 70 (bp 26) (Ck l m hs T f) st (w7 0)=some (.next,H8 l m hs T f (wr x tl),st):=by
 have e:ay PH st 69 (bp 26) (Ck l m hs T f) (iR (w7 0))=some (.str (mk (wr x tl))):=by
  refine LY (z:=123+7*x.mC) (vs:=[.str (mk tl)]) rfl (cL rfl rfl (a:=.tup [.obj 123,.obj 130,.obj 137,.obj 144,.obj 151]) (b:=iv x.mC) (by lia) (H6 (k:=4) hx rfl (λn=>by lia) (λn=>by lia) rfl) (iJ ?_)) ?_ (Lk hl _ hp)
  ·generalize x.mC=k at hp;have:k=0\/k=1\/k=2\/k=3\/k=4:=o24 hp;rcases this with rfl|rfl|rfl|rfl|rfl<;>rfl
  ·obtain⟨h,c,p,t⟩:=m;cases ht;lia
 exact(cQ rfl rfl rfl (LM e) (by lia)).trans (by lia)
noncomputable def qX(T:Nat):Nat:=tV.getD (T/3%4) 0
noncomputable def m8(T:Nat):List Nat:=nF.getD (T/12%3) []
noncomputable def eY(T c:Nat)(wo:String):List Nat:=lj (T%3) c (qX T) (sg (aJ wo)) (m8 T)
theorem C':qX T∈tV:=by have:T/3%4=0\/T/3%4=1\/T/3%4=2\/T/3%4=3:=o88;unfold qX;rcases this with e|e|e|e<;>rw[e]<;>decide
theorem uI:m8 T∈nF:=by have:T/12%3=0\/T/12%3=1\/T/12%3=2:=o89;unfold m8;rcases this with e|e|e<;>rw[e]<;>decide
theorem zv:(m8 T).length<=2:=by
 have a:(nF.all λt=>decide (t.length<=2))=aj:=by lia
 exact bG (aT.mp a _ uI)
theorem zn(h:wo∈cB):(sg (aJ wo)).length<=5:=by
 have a:(cB.all λw=>decide ((sg (aJ w)).length<=5))=aj:=by lia
 exact bG (aT.mp a wo h)
theorem Tg:eX .Mult (.str (aJ "0")) (iv (T%3))=some (.str (mk (dZ (T%3) 48))):=by have:T%3=0\/T%3=1\/T%3=2:=aaV;rcases this with e|e|e<;>rw[e]<;>lia
theorem KH:qd st (.str (aJ "._+-")) (iv (T/3%4))=some (.str (mk [qX T])):=by refine l3 (c:=qX T) ?_;have:T/3%4=0\/T/3%4=1\/T/3%4=2\/T/3%4=3:=o88;unfold qX;rcases this with e|e|e|e<;>rw[e]<;>rfl
theorem HI:qd st (.tup [.str (aJ ""),.str (aJ "."),.str (aJ "-_")]) (iv (T/12%3))=some (.str (mk (m8 T))):=by refine iJ ?_;have:T/12%3=0\/T/12%3=1\/T/12%3=2:=o89;unfold m8;rcases this with e|e|e<;>rw[e]<;>rfl
theorem zz{u:V}(hu:xZ u):fk st (aJ "str") [u]=some (nP u):=by rcases hu with rfl|⟨y,rfl⟩<;>lia
theorem Q4{f:aq}{w:List Nat}{k:Nat}(hx:hs[m.h]?=some x)(hw:gy x.w k wo)(hu:xZ x.w)(h9:9<=m.c)(hc:m.c<=15):bi PH 69 (bp 26) (H8 l m hs T f w) st (w7 1)=some (.next,Aq l m hs T f w (eY T m.c wo),st):=by
 have hd:nP (iv m.c)=.str (mk (dA m.c)):=congrArg V.str (DZ (z:=0) (by decide) h9 hc).2;have h1:=rL m.c;have h2:=zv (T:=T);have h3:=zn hw.mem;have h4:T%3<3:=bx _ (by decide);have e:ay PH st 68 (bp 26) (H8 l m hs T f w) (iR (w7 1))=some (.str (mk ((((dZ (T%3) 48++dA m.c)++[qX T])++sg (aJ wo))++m8 T))):=by
  refine bn rfl (b:=.str (mk (m8 T))) (bn rfl (b:=.str (mk (sg (aJ wo)))) (bn rfl (b:=.str (mk [qX T])) (bn rfl (a:=.str (mk (dZ (T%3) 48))) (b:=.str (mk (dA m.c)))
   (bn rfl (a:=.str (aJ "0")) (b:=iv (T%3)) (by lia) (vJ (by lia)) Tg)
   (gh rfl (by decide) (by lia) (by lia) (by decide) (vs:=[iv m.c]) (by lia) ((n6 (ZF hc)).trans (am hd rfl))) (ej ?_))
   (cL rfl rfl (a:=.str (aJ "._+-")) (b:=iv (T/3%4)) (by lia) (tI (by lia)) KH) (ej ?_))
   (gh rfl (by decide) (by lia) (by lia) (by decide) (vs:=[x.w]) (ce (by lia) (H6 (k:=0) hx rfl (λn=>by lia) (λn=>by lia) rfl) ci) ((zz hu).trans (by rw[hw.str,lp]))) (ej ?_))
   (cL rfl rfl (a:=.tup [.str (aJ ""),.str (aJ "."),.str (aJ "-_")]) (b:=iv (T/12%3)) (by lia) (tI (by lia)) HI) (ej ?_)
  all_goals (simp only[aE,aS,cu,yX];(first|exact aaS h1 h3|exact aaT h1|exact aaU h1|exact aaR h1 h3 h2))
 refine(cQ rfl rfl rfl (nU e) (by lia)).trans ?_;have:((((dZ (T%3) 48++dA m.c)++[qX T])++sg (aJ wo))++m8 T)=eY T m.c wo:=by unfold eY lj;simp
 refine am this ?_;lia
end
theorem Ok(S:List Nat):∀(c:List Nat),(c=[]\/∃r,c=34::r/\r.head?≠some 34)->rd (iE 34 [34,34] S++c)=S:=by
 induction S with
 |nil=>
  exact λc h=>by
   rcases h with rfl|⟨r,rfl,h⟩
   ·rfl
   ·exact Ss h
 |cons a S IH=>
  exact λc h=>by
   have ih:=IH c h;have e:iE 34 [34,34] (a::S)=(if a=34 then [34,34]else [a])++iE 34 [34,34] S:=rfl;refine am e ?_;by_cases ha:a=34
   ·refine am (aP ha) (am ha ?_);show rd (34::34::(iE 34 [34,34] S++c))=_;rw[XE,ih]
   ·refine am (bg ha) ?_;show rd (a::(iE 34 [34,34] S++c))=_;rw[Su ha,ih]
theorem CU{st:St}(h:dO st 8 (.tup vs)=some d)(hs:bJ d=aj):jy st .NotEq (.tup vs) (.tup vs)=some an:=by
 show(Qt st (.tup vs) (.tup vs)).map not=_;have:Qt st (.tup vs) (.tup vs)=match dO st 8 (.tup vs),dO st 8 (.tup vs)with
  |some x,some y=>if bJ x&&bJ y then some (bQ x y)else af
  |_,_=>af:=rfl
 refine am this (am h ?_);dsimp only;refine am hs (am (aP (by decide)) (am (Jd d (pb hs)) ?_));rfl
noncomputable def QC(x:aq):Prop:=ic x=aj
theorem Dq{st:St}(hk:QC (aJ k))(hx:QC x):jy st .NotEq (kh k x) (kh k x)=some an:=by refine CU (d:=.tuple [.str (aJ k),.str x]) rfl ?_;unfold bJ fj;have h1:ic (aJ k)=aj:=hk;have h2:ic x=aj:=hx;simp[cV,cg,dG,dv,h1,h2]
theorem J'{st:St}(hx:QC x):jy st .NotEq (.tup [.str x,iv p]) (.tup [.str x,iv p])=some an:=by refine CU (d:=.tuple [.str x,.int (p:Int)]) rfl ?_;unfold bJ fj;have h2:ic x=aj:=hx;simp[cV,cg,dG,dv,h2]
section
variable{l T:Nat}{m:dh}{hs:List bS}{x:bS}{tl:List Nat}{wo:String}
noncomputable def jg(k:Nat):String:=match k with
 |0=>"\""
 |1=>"\" is \"it\""
 |_=>""
noncomputable def kE(T c:Nat)(wo:String)(w:List Nat):List Nat:=sg (aJ "257 \"")++(iE 34 [34,34] (eY T c wo++32::w)++sg (aJ (jg (T/36%3))))
theorem wB(h:wo∈cB):(eY T c wo).length<=12:=by have h1:=rL c;have h2:=zv (T:=T);have h3:=zn h;have h4:T%3<3:=bx _ (by decide);unfold eY lj;simp only[aE,aS,yX];exact abr h1 h3 h2
theorem F9(h:tl.length<=2)(hp:x.mC<5):(wr x tl).length<=12:=by
 have h1:∀c,(tU x.mC c).length<=6:=λc=>by
  by_cases h:c∈uL
  ·simp only[uL,ax,bA,or_false]at h;revert hp;generalize x.mC=k;revert k;rcases h with rfl|rfl|rfl|rfl|rfl|rfl|rfl<;>exact rJ (by decide) (by decide) (by decide) (by decide) (by decide)
  ·refine am (xP h) ?_;simp
 unfold wr
 match tl,h with
 |[],_=>simp
 |[a],_=>
  have:=h1 a;simp;exact(dD _ 1 V0 (.k 12) (D1 V0 (.k 6) .n) rfl this)
 |[a,b],_=>
  have:=h1 a;have:=h1 b;simp;exact(dp _ _ 1 (.p V0 V1) (.k 12) (D1 V0 (.k 6) (D1 V1 (.k 6) .n)) rfl (by assumption) this)
theorem FC:qd st (.tup [.str (aJ (jg 0)),.str (aJ (jg 1)),.str (aJ (jg 2))]) (iv (T/36%3))=some (.str (mk (sg (aJ (jg (T/36%3)))))):=by rw[lp];refine iJ ?_;have:T/36%3=0\/T/36%3=1\/T/36%3=2:=VW;rcases this with e|e|e<;>rw[e]<;>rfl
theorem w8:(sg (aJ (jg (T/36%3)))).length<=9:=by have:T/36%3=0\/T/36%3=1\/T/36%3=2:=VW;rcases this with e|e|e<;>rw[e]<;>decide+kernel
theorem w0(hw:wo∈cB)(hl:w.length<=12):(kE T c wo w).length<=200:=by have h1:=wB (T:=T) (c:=c) hw;have h2:=w8 (T:=T);have h3:=oi (c:=34) (z:=[34,34]) (eY T c wo++32::w);simp only[aE,aS,cu]at h3;unfold kE;refine am aE (am aE (am (show(sg (aJ "257 \"")).length=5 by lia) ?_));omega
theorem Q3(hw:wo∈cB)(hl:w.length<=12):bi PH 68 (bp 26) (Aq l m hs T f w (eY T m.c wo)) st (w7 2)=some (.next,Aq l m hs T (mk (kE T m.c wo w)) w (eY T m.c wo),st):=by
 have h1:=wB (T:=T) (c:=m.c) hw;have h2:=w8 (T:=T);have h3:=oi (c:=34) (z:=[34,34]) (eY T m.c wo++32::w);simp only[aE,aS,cu]at h3;have e:ay PH st 67 (bp 26) (Aq l m hs T f w (eY T m.c wo)) (iR (w7 2))=some (.str (mk ((sg (aJ "257 \"")++iE 34 [34,34] ((eY T m.c wo++[32])++w))++sg (aJ (jg (T/36%3)))))):=by
  refine bn rfl (b:=.str (mk (sg (aJ (jg (T/36%3)))))) (bn rfl (a:=.str (mk (sg (aJ "257 \"")))) (b:=.str (mk (iE 34 [34,34] ((eY T m.c wo++[32])++w)))) (by lia)
   (LX (c:=34) rfl rfl rfl (bn rfl (b:=.str (mk w)) (bn rfl (a:=.str (mk (eY T m.c wo))) (b:=.str (mk [32])) (by lia) (by lia) (ej ?_)) (by lia) (ej ?_)) (by decide) ?_ (by decide) (by decide)) (ej ?_))
   (cL rfl rfl (a:=.tup [.str (aJ (jg 0)),.str (aJ (jg 1)),.str (aJ (jg 2))]) (b:=iv (T/36%3)) (by lia) (tI (by lia)) FC) (ej ?_)
  all_goals (simp only[br,ajD,aE,aS,cu,show(sg (aJ "257 \"")).length=5 by lia];omega)
 refine(cQ rfl rfl rfl (nU e) (by lia)).trans ?_;have:(sg (aJ "257 \"")++iE 34 [34,34] ((eY T m.c wo++[32])++w))++sg (aJ (jg (T/36%3)))=kE T m.c wo w:=by unfold kE;simp
 refine am this ?_;lia
theorem N'(hx:hs[m.h]?=some x)(ht:m.t=some tl)(hl:tl.length<=2)(hp:x.mC<5)(hw:gy x.w k wo)(hu:xZ x.w)(h9:9<=m.c)(hc:m.c<=15):
  bi PH 72 (bp 26) (Ck l m hs T f) st (bd 26 7)=some (.next,Aq l m hs T (mk (kE T m.c wo (wr x tl))) (wr x tl) (eY T m.c wo),st):=by
 refine fJ rfl (Rz ht) (am Q2 ?_);exact(aB (Q5 hx ht hl hp)).trans ((aB (Q4 hx hw hu h9 hc)).trans ((aB (Q3 hw.mem (F9 hl hp))).trans dY))
end
noncomputable def nH(l:List Nat):Prop:=∀c∈l,c<1114112
theorem eD{a b:List Nat}(ha:nH a)(hb:nH b):nH (a++b):=λc h=>(bU.mp h).elim (ha c) (hb c)
theorem cT{a:Nat}{b:List Nat}(ha:a<1114112)(hb:nH b):nH (a::b):=λc h=>by
 rcases ax.mp h with rfl|h
 ·exact ha
 ·exact hb c h
theorem jc:nH []:=λc h=>by cases h
theorem u0{a:List Nat}(n:Nat)(ha:nH a):nH (a.drop n):=λc h=>ha c (ff h)
theorem Dk{c:Nat}{z l:List Nat}(hz:nH z)(hl:nH l):nH (iE c z l):=λd h=>by
 unfold iE at h;refine cW (akC.mp h) λa ha h=>?_;split at h
 ·exact hz d h
 ·refine am (bh.mp h) ?_;exact hl a ha
theorem fq{l:List Nat}(h:(l.all λc=>decide (c<1114112))=aj):nH l:=λc hc=>bG (aT.mp h c hc)
theorem Hm{l:List Nat}(h:nH l):QC (mk l):=zA h
section
variable{l T p k:Nat}{m:dh}{hs:List bS}
theorem z2:dC T∈marks:=by have:T%4=0\/T%4=1\/T%4=2\/T%4=3:=o72;unfold dC;rcases this with e|e|e|e<;>rw[e]<;>decide
theorem NI:si T∈xss:=by unfold si;split<;>decide
theorem Bh:qO T∈QW:=by have:T/8%3=0\/T/8%3=1\/T/8%3=2:=Z2;unfold qO;rcases this with e|e|e<;>rw[e]<;>decide
theorem qZ:dC T<1114112:=by
 have a:(marks.all λc=>decide (c<1114112))=aj:=by lia
 exact bG (aT.mp a _ z2)
theorem wK{p:Nat}(hp:p<100):nH (dA p):=by
 unfold dA;split
 ·exact cT (by exact dD _ 1 (.p (.p (.k 48) V0) K1) (.k 1114112) (D1 (S1 V0) (.k 10) .n) rfl (by assumption)) jc
 ·exact cT (ZZ hp) (cT ZY jc)
theorem De(hp:p∈gC):p<100:=by
 have a:(gC.all λp=>decide (p<100))=aj:=by lia
 exact bG (aT.mp a _ hp)
theorem Dj(hp:p∈gC):nH (dU T p):=by
 have hx:nH (si T):=by unfold si;split;exact jc;exact cT (by decide) jc
 have hz:nH (qO T):=by
  have a:(QW.all λz=>z.all λc=>decide (c<1114112))=aj:=by lia
  exact fq (aT.mp a _ Bh)
 unfold dU w4;exact cT qZ (eD hx (cT qZ (cT qZ (eD hz (eD (wK (De hp)) (cT qZ jc))))))
theorem Di(hp:p∈gC):nH (kj (dU T p)):=eD (fq (by lia)) (eD (Dj hp) (fq (by lia)))
theorem On(hp:p∈gC)(k:Nat):nH (sU (dC T) (dU T p) k):=by
 have H9:nH (sg (aJ "229 (")):=fq (by lia);have hc:=Dj (T:=T) hp;have hm:=qZ (T:=T);unfold sU;split
 ·exact eD (fq (by lia)) (u0 _ (Di hp))
 ·exact fq (by lia)
 ·exact eD H9 (eD hc (cT (by decide) jc))
 ·exact Dk (fq (by lia)) (Di hp)
 ·exact eD H9 (cT hm (eD hc (cT (by decide) jc)))
 ·exact eD H9 (eD (u0 _ hc) (cT (by decide) jc))
 ·exact fq (by lia)
 ·exact eD H9 (cT hm (cT hm (cT hm (cT (by decide) (eD (u0 _ hc) (cT (by decide) jc))))))
 ·exact eD H9 (cT hm (cT hm (cT hm (cT hm (cT (by decide) jc)))))
theorem II(hp:p∈gC):yN (dC T) p (si T) (qO T)=aj:=
 aT.mp (aT.mp (aT.mp (aT.mp PW _ z2) p hp) _ NI) _ Bh
theorem Cm(hp:p∈gC):v3 (kj (dU T p))=.parts (qO T++dA p):=by have h:=II (T:=T) hp;unfold yN at h;exact bG (bv.mp h).1
theorem IT(hp:p∈gC)(hk:k<9):v3 (sU (dC T) (dU T p) k)=Dr (dA p) k:=by have h:=II (T:=T) hp;unfold yN at h;exact bG (aT.mp (bv.mp h).2 k (cA.mpr hk))
theorem Gy{c:Nat}{l:List Nat}:(iE c [120,41] l).length<=3*l.length:=by have:=oi (c:=c) (z:=[120,41]) l;simp -iota only[aS,cu]at this;omega
theorem LJ:(sU (dC T) (dU T p) k).length<=200:=by
 have h1:=lz T p;have h2:=rG T p;have h3:=Gy (c:=41) (l:=kj (dU T p));have h0:(sg (aJ "227")).length=3:=by lia
 have h5:(sg (aJ "229 x272)")).length=9:=by lia
 have h6:(sg (aJ "229 ()")).length=6:=by lia
 unfold sU;split<;>(first|simp -iota only[aE,aS,cu,da,tW,h0,h5,h6]|skip)<;>(first|exact ZS|exact(dD _ 1 (.p (.k 5) (.p (.p V0 (.p (.k 0) K1)) K1)) (.k 200) (D1 V0 (.k 9) .n) rfl h1)|exact(dp _ _ 1 V0 (.k 200) (D1 V0 (.m 3 V1) (.c 3 V1 (.k 29) .n)) rfl h3 h2)|exact ZR|exact ZW|exact(dD _ 1 (.p (.k 5) (.p V0 (.p (.k 0) K1))) (.k 200) (D1 V0 (.k 9) .n) rfl h1)|exact ZU h1|exact ZT|exact ZX h2)
noncomputable def LK(x:aq):Bool:=(cz x).isNone&&decide (x.length<=640)&&((qF x).length==(akj x).length)&&decide ((ajI x).length<=1000)
theorem D6{x:aq}(h:LK x=aj):jh x:=by unfold LK at h;simp -iota only[cj,bH,ti]at h;obtain⟨⟨⟨h1,h2⟩,h3⟩,h4⟩:=h;exact⟨h1,h2,h3,h4⟩
theorem ad7:(gC.all λn=>LK (mk (120::(dA n).drop ((dA n).length-1))))=aj:=by lia
theorem ad8:LK (mk [])=aj:=by lia
theorem En{a:aq}{b:Int}(hp:p∈gC):rg 12 gL [.str (mk (kj (dU T p))),.tup [.str a,.int b]]=some (.tup [.str a,iv p]):=by have hi:cz (mk (qO T++dA p))=some (p:Int):=bG (aT.mp (aT.mp OK p hp) _ Bh);have h1:=rG T p;exact JL (gp _) (by exact dD _ 1 V0 (.k 10000) (D1 V0 (.k 29) .n) rfl h1) (Cm hp) (by have:=rL p;have:=Bi (T:=T);refine am aE ?_;exact(dp _ _ 1 (.p V0 V1) (.k 640) (D1 V0 (.k 2) (D1 V1 (.k 2) .n)) rfl this (by assumption))) hi
end
section
variable{K:ph}{w:bz}{r T p k:Nat}
theorem G3(O:Wo K w ag mg mb){a:aq}{b:Int}(hp:p∈gC)(hk:k<9):sb prog w ag (r+2) 175 [.obj 102,FK T p k,.tup [.str a,.int b]] (kh (tj k) (mk (sU (dC T) (dU T p) k))):=by
 have h:=IT (T:=T) hp hk;have hl:(sU (dC T) (dU T p) k).length<=10000:=by have:=LJ (T:=T) (p:=p) (k:=k);exact(dD _ 1 V0 (.k 10000) (D1 V0 (.k 200) .n) rfl this)
 have hx:sg (mk (sU (dC T) (dU T p) k))=sU (dC T) (dU T p) k:=gp _;have:k=0\/k=1\/k=2\/k=3\/k=4\/k=5\/k=6\/k=7\/k=8:=ZQ hk;rcases this with rfl|rfl|rfl|rfl|rfl|rfl|rfl|rfl|rfl
 ·exact BL O hx hl h
 ·exact jU O hx hl h
 ·exact jU O hx hl h
 ·exact jU O hx hl h
 ·exact jU O hx hl h
 ·exact jU O hx hl h
 ·exact jU O hx hl h
 ·exact uS O hx hl h (D6 (aT.mp ad7 p hp))
 ·exact uS O hx hl h (D6 ad8)
end
section
variable{K:ph}{w:bz}{r:Nat}
theorem UW(O:Wo K w ag mg mb):yS prog w ag (r+1) FaH:=λa vs v h=>by refine gen λG bP=>r9 h (λe h=>bP (am e (ii O.pF (O.L.f51.at O.X ok6) O.lim h))) λh=>?_;refine r9 h (λe h=>bP (am e (ii O.pF (O.L.f58.at O.X ok7) O.lim h))) λh=>r9 h (λe h=>bP (am e (ii O.pF (O.L.It.at O.X Kb) O.lim h))) λh=>?_;refine r9 h (λe h=>bP (am e (ii O.pF (O.L.Px.at O.X SQ) O.lim h))) λh=>r9 h (λe h=>bP (am e (ii O.pF (O.L.U9.at O.X XX) O.lim h))) λh=>?_;refine r9 h (λe h=>bP (am e (ii O.pF (O.L.U8.at O.X XW) O.lim h))) λh=>r9 h (λe h=>bP (am e (ii O.pF (O.L.U7.at O.X XV) O.lim h))) λh=>?_;refine r9 h (λe h=>bP (am e (ii O.pF (O.L.U6.at O.X XU) O.lim h))) λh=>r9 h (λe h=>bP (am e (ii O.pF (O.L.U5.at O.X XT) O.lim h))) λh=>?_;exact bM h
theorem yZ(O:Wo K w ag mg mb):Wx prog w ag mg mb (r+2) PH:=O.wx (yF (UW (r:=r) O) VX)
end
noncomputable abbrev Vp:=Option (List Nat×List Nat)
noncomputable def hz(l:Nat)(m:dh)(hs:List bS)(T:Nat)(f:aq)(o:Vp):Sg:=Fi l m hs T++(aJ "first",.str f)::(match o with
 |none=>[]
 |some e=>[(aJ "written",.str (mk e.1)),(aJ "stamp",.str (mk e.2))])
noncomputable def CC(e:Expr):Expr:=match e with
 |.Compare l _ _ _=>l
 |_=>gK
noncomputable def oR(e:Expr):Expr:=match e with
 |.Compare _ _ [r] _=>r
 |_=>gK
noncomputable def nG(e:Expr)(k:Nat):Expr:=match e with
 |.BoolOp _ es _=>es.getD k gK
 |_=>gK
noncomputable def ix(e:Expr):List Expr:=match e with
 |.Call _ es _ _=>es
 |_=>[]
section
variable{l T n:Nat}{m:dh}{hs:List bS}{x:bS}{f:aq}{o:Vp}{F:List Nat}
theorem Nn(hl:F.length<=200){e:Expr}(he:∃k q1 q2 q3,e=.BinOp (.Constant (.str (aJ "2")) k q1) .Add (.Name (aJ "first") q2) q3):ay PH st (n+2) (bp 26) (hz l m hs T (mk F) o) e=some (.str (mk (50::F))):=by refine AB he λk q1 q2 q3 XH=>?_;subst XH;refine bn rfl (a:=.str (mk [50])) (b:=.str (mk F)) (by lia) (by cases o<;>lia) (ej ?_);simp only[aS,cu];exact(dD _ 1 (.p (.p (.k 0) K1) V0) (.k 16777216) (D1 V0 (.k 200) .n) rfl hl)
noncomputable def t8:Expr:=jo (bd 26 8)
theorem aee(hl:F.length<=200):b3 PH st 60 (bp 26) (hz l m hs T (mk F) o) (ix (CC (nG t8 0)))=some [.obj 109,.str (mk (50::F)),.none]:=
 ce (a:=.obj 109) (by lia) (by cases o<;>lia) (ce (by lia) (Nn hl ⟨_,_,_,_,rfl⟩) (ce (by lia) (a:=.none) (by lia) ci))
theorem W8(hl:F.length<=200):ay PH st 60 (bp 26) (hz l m hs T (mk F) o) (oR (nG t8 0))=some (kh "reply" (mk (50::F))):=
 sZ rfl (by decide) (ce (by lia) (a:=.str (aJ "reply")) (by lia) (ce (by lia) (Nn hl ⟨_,_,_,_,rfl⟩) ci))
theorem aed:b3 PH st 60 (bp 26) (hz l m hs T f o) (ix (CC (nG t8 1)))=some [.obj 102,FK T m.p (T/24%9),.tup [.str (nv m.h),.int 21]]:=by cases o<;>lia
theorem W7:ay PH st 60 (bp 26) (hz l m hs T f o) (oR (nG t8 1))=some (kh (tj (T/24%9)) (mk (sU (dC T) (dU T m.p) (T/24%9)))):=by cases o<;>lia
theorem Hl(k:Nat):QC (aJ (tj k)):=by unfold tj;split<;>(show ic _=aj;decide+kernel)
variable{K:ph}{w:bz}{r:Nat}
theorem No(O:Wo K w ag mg mb)(hp:m.p∈gC)(hl:F.length<=200)(hF:F.take 2=[50,53])(hk:nH F):C1 prog w ag (r+2) (bp 26) (bd 26 8) (hz l m hs T (mk F) o) st (.next,hz l m hs T (mk F) o,st):=by
 have h1:sb prog w ag (r+2) 175 [.obj 109,.str (mk (50::F)),.none] (kh "reply" (mk (50::F))):=by
  refine J6 O ?_ (by rw[lv];simp only[aS];exact(dD _ 1 (S1 V0) (.k 10000) (D1 V0 (.k 200) .n) rfl hl));rw[ji _ ah (some 3) 0 3 (.inl ⟨rfl,rfl⟩) (.inr rfl),gp];intro q;have:=congrArg sg q;rw[gp,iZ]at this;have e:(50::F).take 3=50::F.take 2:=rfl;rw[e,hF]at this;revert this
  decide+kernel
 have h2:sb prog w ag (r+2) 175 [.obj 102,FK T m.p (T/24%9),.tup [.str (nv m.h),.int 21]] (kh (tj (T/24%9)) (mk (sU (dC T) (dU T m.p) (T/24%9)))):=G3 O hp (bx _ (by decide));exact C1.TP (P:=PH) (m:=60) (yZ O) (by cases o<;>lia) (aee hl) h1 (W8 hl) (Dq (show ic _=aj by decide+kernel) (Hm (cT (by decide) hk))) (by lia)
  (by cases o<;>lia) aed h2 W7 (Dq (Hl _) (Hm (On hp _))) (by lia) .nil
noncomputable def hy(l:Nat)(m:dh)(hs:List bS)(T:Nat)(f:aq)(o:Vp)(td:List Nat):Sg:=hz l m hs T f o++[(aJ "told",.str (mk td))]
noncomputable def hx(l:Nat)(m:dh)(hs:List bS)(T:Nat)(f:aq)(o:Vp)(td:List Nat):Sg:=hz l m hs T f o++[(aJ "told",.str (mk td)),(aJ "answer",.tup [.str (nv m.h),iv m.p])]
theorem Mu{td:List Nat}(h:rg 13 gL [.str f]=some (.str (mk td))):bi PH 69 (bp 26) (hz l m hs T f o) st (bd 26 9)=some (.next,hy l m hs T f o td,st):=
 (rP rfl (λ_ _ _=>rfl) (j2 (z:=109) (vs:=[.str f]) rfl (by decide) (by lia) (by lia) (by cases o<;>lia) h) (by lia)).trans (by cases o<;>lia)
theorem GS{td:List Nat}(hp:m.p∈gC):bi PH 68 (bp 26) (hy l m hs T f o td) st (bd 26 10)=some (.next,hx l m hs T f o td,st):=
 (rP rfl (λ_ _ _=>rfl) (j2 (z:=102) (vs:=[.str (mk (kj (dU T m.p))),.tup [.str (nv m.h),.int 21]]) rfl (by decide) (by lia) (by lia) (by cases o<;>lia) (En hp)) (by lia)).trans (by cases o<;>lia)
noncomputable def Xk:Expr:=jo (bd 26 11)
theorem FA(h:Nat):QC (nv h):=by unfold nv;split<;>(show ic _=aj;decide+kernel)
theorem GR{td:List Nat}(hp:m.p∈gC)(ht:(mk td==aJ "")=m.t.isNone):bi PH 67 (bp 26) (hx l m hs T f o td) st (bd 26 11)=some (.next,hx l m hs T f o td,st):=by
 have HS:m.p<100000:=by have:=De hp;exact o79 this
 refine eG rfl ?_ rfl;have s1:∀{e:Expr} {n},ay PH st (n+1) (bp 26) (hx l m hs T f o td) e=some (iv m.p)->b3 PH st (n+2) (bp 26) (hx l m hs T f o td) [e]=some [iv m.p]:=λ{e n} h=>by
  cases hs:uA e with
  |false=>exact ce hs h ci
  |true=>
   cases e<;>first|(exact bB hs;done)|skip
   exact bM h
 refine j9 rfl (dt (e:=nG Xk 0) rfl rfl (a:=.tup [.str (nv m.h),iv m.p]) (b:=.tup [.str (nv m.h),iv m.p]) (by cases o<;>lia) (by cases o<;>lia) (J' (FA _)))
  (j9 rfl (dt (e:=nG Xk 1) rfl rfl (gh rfl (by decide) (by lia) (by lia) (by decide) (s1 (n:=60) (by cases o<;>lia)) (n6 HS)) (gh rfl (by decide) (by lia) (by lia) (by decide) (s1 (n:=60) (by cases o<;>lia)) (n6 HS)) ?_)
  (j9 rfl (dt (e:=nG Xk 2) rfl (by lia) (a:=.bool (mk td==aJ "")) (b:=.bool m.t.isNone) (by cases o<;>lia) ?_ ?_) ur))
 ·show(some (aJ (toString (m.p:Int))==aJ (toString (m.p:Int)))).map not=_;rw[c6];rfl
 ·obtain⟨h,c,p,t⟩:=m;cases t<;>(cases o<;>lia)
 ·show(some ((mk td==aJ "")==m.t.isNone)).map not=_;rw[ht,c6];rfl
end
section
variable{n l k:Nat}{cR:Sg}{vs:List V}{x f:aq}{i e:Expr}{u:V}{p p' q q' q2 q3:Pos}{args ts:List Expr}{kk:Nat}
set_option smartUnfolding false in
theorem PT{s:cy}(he:s=.Assign [.Tuple ts kk p] (.Call (.Name f q) args [] q') q2)(hF:∀a vs st,P.Fs a vs st=ah)(h:ay P st n sc σ (.Call (.Name f q) args [] q')=some u)(hb:dq sc (.Tuple ts kk p) u σ=some cR):bi P (n+1) sc σ st s=some (.next,cR,st):=by subst he;exact QT (DH λa vs=>hF a vs st) (ck h (f:=λv=>(dq sc (.Tuple ts kk p) v σ).map λcR=>((.next,cR,st):ga)) (kN hb rfl))
set_option smartUnfolding false in
theorem IY{s:cy}(he:s=.Assign [.Subscript (.Name x q) i q3] e q2)(h:ay P st n sc σ e=some u)(hx:fY P sc σ x=some (.loc l))(hi:ay P st n sc σ i=some (.int (k:Int)))(hl:st[l]?=some vs)(hk:k<vs.length):bi P (n+1) sc σ st s=some (.next,σ,fX st l (vs.set k u)):=by subst he;exact ck h (ck hx (ck hi (Hf hl (aP ⟨lV k,js.mpr hk⟩))))
end
structure gz  where
 n:Nat
 tS:List V
 tx:List Nat
 pt:List V
 sh:Nat
noncomputable def iP(e:gz):List V:=[iv e.n,.lst e.tS,.str (mk e.tx),.tup e.pt,iv e.sh]
noncomputable def FZ(pt:List V):V:=match rg 6 gL pt with
 |some (.tup [_,_,M])=>M
 |_=>.none
noncomputable def DF(e:gz):gz:={e with pt:=[FZ e.pt,FZ e.pt,FZ e.pt],sh:=0}
noncomputable def fI(p:Nat)(e:gz):gz:=if e.n=p then DF e else e
noncomputable def oW(e:gz):Prop:=∃dQ c h t M,9<=c/\c<=15/\pE dQ e.sh c e.pt h t M
theorem oW.adR{e:gz}(g:oW e):oW (DF e):=by
 obtain⟨dQ,c,h,t,M,h9,hc,P⟩:=g;have:FZ e.pt=M:=by unfold FZ;exact am P.QA rfl
 refine⟨dQ,c,.cY 0,.cY 0,M,h9,hc,?_⟩;unfold DF;exact am this (nh h9 hc P.m)
theorem oW.Xn{e:gz}{p:Nat}(g:oW e):oW (fI p e):=by
 unfold fI;split
 ·exact g.adR
 ·exact g
section
variable{l T a:Nat}{m:dh}{hs:List bS}{f:aq}{e:gz}
noncomputable abbrev Lo:=Option (Nat×Option (V×V×V))
noncomputable def hw(l:Nat)(m:dh)(hs:List bS)(T:Nat)(f:aq)(o:Lo):Sg:=hx l m hs T f ah []++(match o with
 |none=>[]
 |some (a,ah)=>[(aJ "entry",.loc a)]
 |some (a,some (h,t,M))=>[(aJ "entry",.loc a),(aJ "hue",h),(aJ "share",t),(aJ "value",M)])
noncomputable def lT:Expr:=match(mr (bd 26 12))with
 |(.For t _ _ _ _)::_=>t
 |_=>gK
noncomputable def lB:List cy:=match(mr (bd 26 12))with
 |(.For _ _ b _ _)::_=>b
 |_=>[]
noncomputable def lI:cy:=lB.getD 0 (.Pass default)
noncomputable def lK(k:Nat):cy:=(mr lI).getD k (.Pass default)
theorem Tv:lB=[lI]:=by lia
theorem Tu:mr lI=[lK 0,lK 1,lK 2]:=by lia
noncomputable def nxt(a:Nat):Lo->Lo
 |some (_,some x)=>some (a,some x)
 |_=>some (a,ah)
theorem PN(o:Lo):dq (bp 26) lT (.loc a) (hw l m hs T f o)=some (hw l m hs T f (nxt a o)):=by rcases o with _|⟨b,_|⟨h,t,M⟩⟩<;>lia
noncomputable def nxo(o:Lo):Option (V×V×V):=match o with
 |some (_,some x)=>some x
 |_=>ah
theorem Oq(o:Lo):nxt a o=some (a,nxo o):=by rcases o with _|⟨b,_|x⟩<;>rfl
theorem Q9{o:Option (V×V×V)}(h:st[a]?=some (iP e)):bY PH st 62 (bp 26) (hw l m hs T f (some (a,o))) (jo lI)=some (decide (e.n=m.p)):=by
 refine dt rfl rfl (cL rfl rfl (a:=.loc a) (b:=.int ((0:Nat):Int)) (by rcases o with _|⟨h,t,M⟩<;>lia) (by lia) (u:=iv e.n) ?_) (b:=iv m.p) (by rcases o with _|⟨h,t,M⟩<;>lia) ?_
 ·show(if(0:Int)<=((0:Nat):Int)then match st[a]?with|some vs=>vs[((0:Nat):Int).toNat]?|ah=>ah else ah)=_;refine am (aP (by decide)) (am h ?_);rfl
 ·show some ((e.n:Int)==(m.p:Int))=_;rw[pz];refine congrArg some ?_;rw[dm,cw,bH]
theorem kO{vs:List V}{k:Nat}{u:V}(h:st[a]?=some vs)(hk:vs[k]?=some u):qd st (.loc a) (.int (k:Int))=some u:=by show(if(0:Int)<=(k:Int)then match st[a]?with|some vs=>vs[(k:Int).toNat]?|ah=>ah else ah)=_;refine am (aP o7) (am h ?_);exact hk
theorem sz{n:Nat}{E:Expr}{σ:Sg}{vs pt:List V}{k:Nat}{u:V}{q1 q2 q3 q4 q5:Pos}{k1 k2:Nat}(he:E=.Subscript (.Subscript (.Name (aJ "entry") q1) (.Constant (.int ((3:Nat):Int)) k1 q2) q3) (.Constant (.int (k:Int)) k2 q4) q5)
  (hn:∀n,ay PH st (n+1) (bp 26) σ (.Name (aJ "entry") q1)=some (.loc a)) (h:st[a]?=some vs) (h3:vs[3]?=some (.tup pt)) (hk:pt[k]?=some u):ay PH st (n+3) (bp 26) σ E=some u:=
 cL he rfl (cL rfl rfl (hn _) rfl (kO h h3)) rfl (iJ hk)
theorem Vg{o:Option (V×V×V)}(h:st[a]?=some (iP e))(g:oW e):∃o',bW PH 64 (bp 26) (hw l m hs T f (some (a,o))) st lB=some (.next,hw l m hs T f (some (a,o')),if e.n=m.p then st.set a (iP (fI m.p e))else st):=by
 refine am Tv ?_;by_cases hp:e.n=m.p
 ·obtain⟨dQ,c,h',t,M,h9,hc,Pt⟩:=g;have hM:FZ e.pt=M:=by unfold FZ;exact am Pt.QA rfl
  obtain⟨x,y,z,KL⟩:∃x y z,e.pt=[x,y,z]:=by
   have:=Pt.ln
   match e.pt,this with
   |[x,y,z],_=>exact⟨x,y,z,rfl⟩
  have G:=nh (dQ:=dQ) h9 hc Pt.m;refine⟨some (h',t,M),?_⟩;refine am (aP hp) ?_;refine(aB (fJ rfl ((Q9 h).trans (am (aU hp) rfl)) (out:=(.next,hw l m hs T f (some (a,some (h',t,M))),st.set a (iP (fI m.p e)))) ?_)).trans dY
  refine am Tu ?_;have hlen:a<st.length:=(aG.mp h).1;have hF:∃b,h'=.cY b:=by have:=Pt.fh;cases h'<;>first|exact⟨_,rfl⟩|exact bB this
  have e3:(iP e)[3]?=some (.tup e.pt):=rfl;have k0:bi PH 61 (bp 26) (hw l m hs T f (some (a,o))) st (lK 0)=some (.next,hw l m hs T f (some (a,some (h',t,M))),st):=by
   refine PT rfl (λ_ _ _=>rfl) (j2 (z:=51) (vs:=[x,y,z]) rfl (by decide) (by lia) (by lia) ?_ (u:=.tup [h',t,M]) (by refine am (show PH.Fa 51 [x,y,z]=rg 6 gL [x,y,z]from rfl) (jj KL ?_);exact Pt.QA)) (by rcases o with _|⟨h,t,M⟩<;>lia);have hn:∀n q,ay PH st (n+1) (bp 26) (hw l m hs T f (some (a,o))) (.Name (aJ "entry") q)=some (.loc a):=λn q=>by rcases o with _|⟨h,t,M⟩<;>lia
   exact ce rfl (sz (k:=0) rfl (λn=>hn n _) h e3 (by refine am KL ?_;rfl)) (ce rfl (sz (k:=1) rfl (λn=>hn n _) h e3 (by refine am KL ?_;rfl)) (ce rfl (sz (k:=2) rfl (λn=>hn n _) h e3 (by refine am KL ?_;rfl)) ci))
  have hn:∀(eJ:St) n q,ay PH eJ (n+1) (bp 26) (hw l m hs T f (some (a,some (h',t,M)))) (.Name (aJ "entry") q)=some (.loc a):=λeJ n q=>by lia
  have k1:bi PH 60 (bp 26) (hw l m hs T f (some (a,some (h',t,M)))) st (lK 1)=some (.next,hw l m hs T f (some (a,some (h',t,M))),fX st a ((iP e).set 3 (.tup [M,M,M]))):=by
   obtain⟨b,rfl⟩:=hF;refine IY rfl (j2 (z:=58) (vs:=[.cY b,.int 0,M]) rfl (by decide) (by lia) (by lia) (by lia) (u:=.tup [M,M,M]) (K8 b M ?_)) (by lia) (k:=3) (by lia) h (by show 3<5;decide);rcases yn Pt.m with rfl|rfl
   ·exact .inl ⟨_,rfl⟩
   ·exact .inr ⟨_,rfl⟩
  have h2:(fX st a ((iP e).set 3 (.tup [M,M,M])))[a]?=some ((iP e).set 3 (.tup [M,M,M])):=by unfold fX;exact am (gS hlen) rfl
  have k2:bi PH 59 (bp 26) (hw l m hs T f (some (a,some (h',t,M)))) (fX st a ((iP e).set 3 (.tup [M,M,M]))) (lK 2)=some (.next,hw l m hs T f (some (a,some (h',t,M))),fX (fX st a ((iP e).set 3 (.tup [M,M,M]))) a (((iP e).set 3 (.tup [M,M,M])).set 4 (.int 0))):=by have h3:((iP e).set 3 (.tup [M,M,M]))[3]?=some (.tup [M,M,M]):=rfl;refine IY rfl (gh rfl (by decide) (by lia) (by lia) (by decide) (ce rfl (bn rfl (a:=.int 4) (b:=.cY 0) (by lia) (cL rfl rfl (b:=.int ((1:Nat):Int)) (j2 (z:=51) (vs:=[M,M,M]) rfl (by decide) (by lia) (by lia) ?_ (u:=.tup [.cY 0,.cY 0,M]) G.QA) (by lia) (iJ rfl)) (u:=.cY (cK (il 4) 0)) (by lia)) ci) (by lia)) (by lia) (k:=4) (by lia) h2 (by show 4<5;decide);exact ce rfl (sz (k:=0) rfl (λn=>hn _ n _) h2 h3 rfl) (ce rfl (sz (k:=1) rfl (λn=>hn _ n _) h2 h3 rfl) (ce rfl (sz (k:=2) rfl (λn=>hn _ n _) h2 h3 rfl) ci))
  refine(aB k0).trans ((aB k1).trans ((aB k2).trans (dY.trans ?_)));unfold fX fI DF;rw[List.set_set,aP hp,hM];rfl
 ·refine⟨o,?_⟩;refine am (bg hp) ?_;exact(aB (eG rfl ((Q9 h).trans (am (aW hp) rfl)) rfl)).trans dY
end
structure gu(st:St)(l:Nat)(R:List (Nat×gz)):Prop where
 row:st[l]?=some (R.map λp=>.loc p.1)
 ent:∀p∈R,st[p.1]?=some (iP p.2)
 nd:(R.map (·.1)).Nodup
 out:l∉R.map (·.1)
noncomputable def jz(p:Nat)(R:List (Nat×gz)):List (Nat×gz):=R.map λq=>(q.1,fI p q.2)
theorem zy(p:Nat)(R:List (Nat×gz)):(jz p R).map (·.1)=R.map (·.1):=by unfold jz;refine am bF ?_;rfl
theorem Bv{p:Nat}{e:gz}(h:e.n≠p):fI p e=e:=bg h
section
variable{l T:Nat}{m:dh}{hs:List bS}{f:aq}
theorem LS{P:pD}{n l:Nat}{sc:Sc}{σ:Sg}{st:St}{s:cy}{t i:Expr}{body:List cy}{q:Pos}(he:s=.For t i body [] q)(hi:nu P st n sc σ i=some (.live l)):
  bi P (n+1) sc σ st s=oT (λv σ st=>(dq sc t v σ).bind λcR=>bW P n sc cR st body) l 100000 0 σ st:=by
 subst he;exact ck hi rfl
theorem P9{f:V->Sg->St->Option ga}{l K i:Nat}{σ:Sg}{st:St}{vs:List V}(h:st[l]?=some vs)(hi:vs[i]?=ah):oT f l (K+1) i σ st=some (.next,σ,st):=by show(st[l]?).bind _=_;rw[h];show(vs[i]?).elim _ _=_;rw[hi];rfl
theorem L0{f:V->Sg->St->Option ga}{l K i:Nat}{σ mj:Sg}{st gA:St}{vs:List V}{v:V}(h:st[l]?=some vs)(hi:vs[i]?=some v)(hf:f v σ st=some (.next,mj,gA)):oT f l (K+1) i σ st=oT f l K (i+1) mj gA:=by show(st[l]?).bind _=_;rw[h];show(vs[i]?).elim _ _=_;rw[hi];show(f v σ st).bind _=_;rw[hf];rfl
theorem Tj(B:List (Nat×gz)):∀(A:List (Nat×gz)) (K:Nat) (o:Lo) (st:St),gu st l (A++B)->(∀q∈B,oW q.2)->B.length<K->
  ∃(o':Lo) (eJ:St),oT (λv σ st=>(dq (bp 26) lT v σ).bind λcR=>bW PH 64 (bp 26) cR st lB) l K A.length (hw l m hs T f o) st=some (.next,hw l m hs T f o',eJ)/\gu eJ l (A++jz m.p B)/\eJ.length=st.length/\∀j,j∉B.map (·.1)->eJ[j]?=st[j]?:=by
 induction B with
 |nil=>
  intro A K o st R _ hk0;rcases K with _|K
  ·exact bV hk0 (lM _)
  exact gM o st (P9 R.row (ajF (by rw[aL,gJ];exact aD _))) R rfl (λ_ _=>rfl)
 |cons ae B IH=>
  intro A K o st R hg hk;rcases ae with⟨a,e⟩;rcases K with _|K
  ·exact bV hk (lM _)
  have ha:st[a]?=some (iP e):=R.ent (a,e) (by simp);refine eE (Vg (l:=l) (T:=T) (m:=m) (hs:=hs) (f:=f) (o:=nxo o) ha (hg (a,e) (.head _))) λo1 h1=>?_;have hla:l≠a:=λq=>R.out (by rw[q];simp);have hlen:a<st.length:=(aG.mp ha).1;have KT:=R.nd;rw[d8,aY]at KT;have Uj:∀q∈A++B,q.1≠a:=λq hq e'=>by
   rw[ako]at KT;refine yK KT λ_ h2 h3=>?_;rcases bU.mp hq with h|h
   ·exact h3 q.1 (b7 h) a (.head _) e'
   ·refine(lN.mp h2).1 ?_;have:=b7 (f:=(·.1)) h;rw[e']at this;exact this
  let jt:St:=if e.n=m.p then st.set a (iP (fI m.p e))else st;have KN:∀j,j≠a->jt[j]?=st[j]?:=λj hj=>by show(if e.n=m.p then st.set a (iP (fI m.p e))else st)[j]?=_;exact TK (λs:St=>s[j]?) (λ_=>gw (λq=>hj q.symm)) λ_=>rfl
  have Pg:jt[a]?=some (iP (fI m.p e)):=by show(if e.n=m.p then st.set a (iP (fI m.p e))else st)[a]?=_;exact TK (λs:St=>s[a]?) (λ_=>gS hlen) λh=>am (Bv h) ha
  have R2:gu jt l ((A++[(a,fI m.p e)])++B):=by
   refine⟨?_,?_,?_,?_⟩
   ·refine am (KN l hla) ?_;refine am R.row ?_;simp
   ·intro p hp;rw[br]at hp;rcases bU.mp hp with h|h
    ·rw[KN _ (Uj p (d6 _ h))];exact R.ent p (d6 _ h)
    ·rcases ax.mp h with rfl|h
     ·exact Pg
     ·rw[KN _ (Uj p (eI _ h))];exact R.ent p (eI _ (.tail _ h))
   ·have:=R.nd;simpa using this
   ·have:=R.out;simpa using this
  refine cU (IH (A++[(a,fI m.p e)]) K (some (a,o1)) jt R2 (λq hq=>hg q (.tail _ hq)) (by simp only[aS]at hk;exact o67 hk)) λo' eJ h2 R' Ai Ur=>?_;refine gM o' eJ ?_ ?_ ?_ ?_
  ·rw[aE]at h2;exact(L0 R.row (v:=.loc a) (by rw[cm,d7 (aD _),Jg];rfl) (by rw[PN,b6,Oq];exact h1)).trans h2
  ·have:(A++[(a,fI m.p e)])++jz m.p B=A++jz m.p ((a,e)::B):=by simp[jz]
   rw[<-this];exact R'
  ·rw[Ai];show(if e.n=m.p then st.set a (iP (fI m.p e))else st).length=_;split<;>simp
  ·intro j hj;rw[aY,ax,not_or]at hj;refine am (Ur j hj.2) ?_;refine am (KN j hj.1) ?_;rfl
variable{o:Vp}{td:List Nat}
theorem NT:bY PH st 65 (bp 26) (hx l m hs T f o td) (jo (bd 26 12))=some (mk td==aJ ""):=by cases o<;>lia
theorem JZ(h:(mk td==aJ "")=an):bi PH 66 (bp 26) (hx l m hs T f o td) st (bd 26 12)=some (.next,hx l m hs T f o td,st):=eG rfl (NT.trans (am h rfl)) rfl
noncomputable def l2(k:Nat):cy:=(mr (bd 26 12)).getD k (.Pass default)
theorem Tx:mr (bd 26 12)=[l2 0,l2 1]:=by lia
theorem JY{R:List (Nat×gz)}(hR:gu st l R)(hg:∀q∈R,oW q.2)(hk:R.length<1000):∃cR eJ,bi PH 67 (bp 26) (hx l m hs T f ah []) st (bd 26 12)=some (.ret (.bool aj),cR,eJ)/\gu eJ l (jz m.p R)/\eJ.length=st.length/\∀j,j∉R.map (·.1)->eJ[j]?=st[j]?:=by
 refine cU (Tj (T:=T) (m:=m) (hs:=hs) (f:=f) R [] 100000 ah st hR hg (o3 hk)) λo' eJ h1 R' Ai Ur=>gM (hw l m hs T f o') eJ ?_ R' Ai Ur;have ht:bY PH st 66 (bp 26) (hx l m hs T f ah []) (jo (bd 26 12))=some aj:=by lia
 refine fJ rfl ht (am Tx ?_);have hf:bi PH 65 (bp 26) (hx l m hs T f ah []) st (l2 0)=some (.next,hw l m hs T f o',eJ):=(LS (l:=l) rfl (by lia)).trans h1
 refine(aB hf).trans (dS ?_ (by simp));rcases o' with _|⟨b,_|⟨h,t,M⟩⟩<;>lia
end
noncomputable def tJ(hs:List bS)(e:gz):Prop:=∃(h c:Nat) (x:bS),hs[h]?=some x/\e.n=3*c+h/\e.tS=[iv 100,iv c,iv x.r,x.w]
noncomputable def jL(c:Nat)(x:bS):List V:=[iv 100,iv c,iv x.r,x.w]
theorem rE(H:cH hs)(hx:hs[h]?=some x):h<3:=by have:=(aG.mp hx).1;rwa[H.len]at this
noncomputable def QB:V->pd
 |.int i=>.int i
 |.str s=>.str s
 |_=>.none
theorem Gg(hu:xZ x.w)(st:St):dO st 8 (.lst (jL c x))=some (.list [.int 100,.int (c:Int),.int (x.r:Int),QB x.w]):=by obtain⟨w,r,dQ,sh,mC⟩:=x;rcases hu with rfl|⟨y,rfl⟩<;>rfl
set_option tactic.hygienic true in
theorem uD(hw:gy u k wo):cV (QB u)=aj/\dG (QB u)=0:=by
 have a:(cB.all λw=>ic (aJ w))=aj:=by lia
 have h:=aT.mp a wo hw.mem;have hs:=hw.str;cases u<;>first|exact⟨rfl,rfl⟩|skip
 rename_i s;cases hs;exact⟨h,rfl⟩
theorem uF{x:bS}{wo:String}(hw:gy x.w x.r wo):bJ (.list [.int 100,.int (c:Int),.int (x.r:Int),QB x.w])=aj:=by refine eA (uD hw) λh1 h2=>?_;unfold bJ fj;simp[cV,cg,dG,dv,h1,h2]
theorem cH.wo(H:cH hs){h:Nat}{x:bS}(hx:hs[h]?=some x):∃wo,gy x.w x.r wo:=by exact cW (H.words x (aX hx)) λr hr hm=>JC hr hm
theorem NN(H:cH hs){x x':bS}(hx:hs[h]?=some x)(sJ:hs[h']?=some x'){st:St}:jy st .Eq (.lst (jL c x)) (.lst (jL c' x'))=some (decide (3*c+h=3*c'+h')):=by
 refine eE (H.wo hx) λwo hw=>eE (H.wo sJ) λwo' hw'=>?_;have hu:=H.w x (aX hx);have MT:=H.w x' (aX sJ);have h3:=rE H hx;have h3':=rE H sJ;have e:jy st .Eq (.lst (jL c x)) (.lst (jL c' x'))=match dO st 8 (.lst (jL c x)),dO st 8 (.lst (jL c' x'))with
  |some x,some y=>if bJ x&&bJ y then some (bQ x y)else af
  |_,_=>af:=rfl
 rw[e,Gg hu,Gg MT];dsimp only;rw[uF hw,uF hw',aP (by decide)];refine congrArg some ?_;show(((100:Int)==100)&&(((c:Int)==c')&&(((x.r:Int)==x'.r)&&(bQ (QB x.w) (QB x'.w)&&aj))))=_;rw[pz,pz];by_cases hh:h=h'
 ·subst hh;rw[hx]at sJ;cases sJ;rw[Jd _ (uD hw).1,c6,c6,jI,jI,jJ,jJ,dm,cw,bH];exact aa9
 ·have hr:x.r≠x'.r:=by
   rcases bX hh with q|q
   ·have:=H.rise h h' x x' hx sJ q;exact o59 this
   ·have:=H.rise h' h x' x sJ hx q;exact(λq=>dF _ _ (D1 (S1 V0) V1 (D1 V1 V0 .n)) rfl this (ac q))
  rw[show(x.r==x'.r)=an from beq_eq_false_iff_ne.mpr hr,VI,ak5,ak5,eq_comm,decide_eq_false_iff_not];exact aa8 h3 h3' hh
theorem NM(H:cH hs){x x':bS}(hx:hs[h]?=some x)(sJ:hs[h']?=some x'){st:St}:jy st .Lt (.lst (jL c x)) (.lst (jL c' x'))=some (decide (3*c+h<3*c'+h')):=by
 have h3:=rE H hx;have h3':=rE H sJ;have hu:=H.w x (aX hx);have e:jy st .Lt (.lst (jL c x)) (.lst (jL c' x'))=mH (jL c x) (jL c' x'):=rfl;refine am e ?_;have e2:mH (jL c x) (jL c' x')=if(c:Int)=c' then(if(x.r:Int)=x'.r then mH [x.w] [x'.w]else some (decide ((x.r:Int)<x'.r)))else some (decide ((c:Int)<c')):=rfl;refine am e2 ?_;by_cases hc:c=c'
 ·refine am (aP (aa7 hc)) ?_;by_cases hh:h=h'
  ·subst hh;cases kM hx sJ;refine am (aP rfl) (am hc (am (aW (by exact λq=>dF _ _ (D1 (.p (.p (.m 3 V0) V1) K1) (.p (.m 3 V0) V1) .n) rfl q)) ?_));rcases hu with q|⟨y,q⟩
   ·refine am q ?_;rfl
   ·refine am q ?_;show(if y=y then mH [] []else ah)=_;refine am (aP rfl) ?_;rfl
  ·rcases bX hh with q|q
   ·have:=H.rise h h' x x' hx sJ q;refine am (bg (aa6 this)) (congrArg some ?_);rw[dm,bH,bH];exact aa5 this hc q
   ·have:=H.rise h' h x' x sJ hx q;refine am (bg (aa4 this)) (congrArg some ?_);rw[dm,bH,bH];exact aa3 this hc q
 ·refine am (bg (aa2 hc)) (congrArg some ?_);rw[dm,bH,bH];exact aa1 h3 h3' hc
section
variable{l T:Nat}{m:dh}{hs:List bS}{f:aq}{ws:List Nat×List Nat}{S W:List Nat}{x:bS}
noncomputable def OC(l:Nat)(m:dh)(hs:List bS)(T:Nat)(f:aq)(ws:List Nat×List Nat)(S W:List Nat):Sg:=hx l m hs T f (some ws) (S++32::W)++[(aJ "cut",iv S.length)]
noncomputable def sG(l:Nat)(m:dh)(hs:List bS)(T:Nat)(f:aq)(ws:List Nat×List Nat)(S W:List Nat)(x:bS):Sg:=OC l m hs T f ws S W++[(aJ "version",.lst (jL m.c x))]
theorem Ob(h:32∉S):bi PH 65 (bp 26) (hx l m hs T f (some ws) (S++32::W)) st (bd 26 13)=some (.next,OC l m hs T f ws S W,st):=by
 have:bi PH 65 (bp 26) (hx l m hs T f (some ws) (S++32::W)) st (bd 26 13)=some (.next,ee (aJ "cut") (.int (oZ (mk (S++32::W)) (aJ " "))) (hx l m hs T f (some ws) (S++32::W)),st):=by lia
 refine am this (am (show oZ (mk (S++32::W)) (aJ " ")=(S.length:Int)from DK (c:=32) (gp _) h) ?_);lia
variable{K:ph}{w:bz}{r:Nat}
theorem PD(O:Wo K w ag mg mb)(hc:sb prog w ag (r+1) 44 [.str (mk S)] (.lst (jL m.c x))):C1 prog w ag (r+2) (bp 26) (bd 26 14) (OC l m hs T f ws S W) st (.next,sG l m hs T f ws S W x,st):=by refine C1.call (P:=PH) (m:=60) (yZ O) (g:=44) (vs:=[.str (mk S)]) (v:=.lst (jL m.c x)) (by lia) (ce (by lia) ?_ ci) (sb.Qx (hc.up VX)) (by lia);refine mQ rfl (a:=.str (mk (S++32::W))) (by lia) (va:=ah) (vb:=some (iv S.length)) (by lia) (by lia) rfl rfl ?_;show some (V.str (c5 (mk (S++32::W)) ah (some (S.length:Int))))=_;rw[ji _ ah _ 0 S.length (.inl ⟨rfl,rfl⟩) (.inr rfl),gp,akL rfl];rfl
end
noncomputable def bR(R:List (Nat×gz)):List Nat:=R.map λq=>q.2.n
noncomputable def E1(st:St)(v:V):Nat:=match v with
 |.loc a=>match st[a]?with
  |some (.int n::_)=>n.toNat
  |_=>0
 |_=>0
theorem nj{st:St}{a:Nat}{e:gz}(h:st[a]?=some (iP e)):E1 st (.loc a)=e.n:=by unfold E1;dsimp only;refine am h ?_;rfl
section
variable{l T:Nat}{m:dh}{hs:List bS}{f:aq}{ws:List Nat×List Nat}{S W:List Nat}{x:bS}{R:List (Nat×gz)}
noncomputable def l5(k:Nat):cy:=(mr (bd 26 15)).getD k (.Pass default)
theorem Tw:mr (bd 26 15)=[l5 0,l5 1,l5 2,l5 3,l5 4,l5 5,l5 6]:=by lia
noncomputable def LG:Expr:=CC (jo (bd 26 15))
noncomputable def cI(e:Expr):List Expr:=match e with
 |.ListComp _ [g] _ _=>g.ifs
 |_=>[]
noncomputable def cE(e:Expr):Expr:=match e with
 |.ListComp e _ _ _=>e
 |_=>gK
noncomputable def cN(e:Expr):Sc:=match e with
 |.ListComp _ _ s _=>s.names
 |_=>[]
theorem Gv(H:cH hs)(hx:hs[m.h]?=some x)(hR:gu st l R)(ho:∀q∈R,tJ hs q.2):bY PH st 62 (bp 26) (sG l m hs T f ws S W x) (jo (bd 26 15))=some (decide (num m∉bR R)):=by
 have hc:ay PH st 61 (bp 26) (sG l m hs T f ws S W x) LG=some (.lst (((R.map λp=>V.loc p.1).filter λv=>decide (E1 st v=num m)).map id)):=by
  have hit:g7 PH st 60 (bp 26) (sG l m hs T f ws S W x) (.Name (aJ "row") ⟨223,31,223,34⟩)=st[l]?:=by lia
  refine fK rfl (by lia) (by lia) (hit.trans hR.row) (km _ λv hv=>?_);refine cW (bw.mp hv) λq hq fC=>?_;subst fC;have he:=hR.ent q hq;refine gN (ho q hq) λh c x' sJ hn OV=>?_;have ht:gx PH st 60 (cN LG) ((aJ "entry",.loc q.1)::sG l m hs T f ws S W x) (cI LG)=some (decide (E1 st (.loc q.1)=num m)):=by show bY PH st 59 (cN LG) ((aJ "entry",.loc q.1)::sG l m hs T f ws S W x) ((cI LG).headD gK)=_;refine dt rfl rfl (cL rfl rfl (a:=.loc q.1) (b:=.int ((1:Nat):Int)) (by lia) (by lia) (u:=.lst (jL c x')) (kO he (by rw[show(iP q.2)[1]?=some (.lst q.2.tS)from rfl,OV];rfl))) (b:=.lst (jL m.c x)) (by lia) ?_;rw[NN H sJ hx,nj he,hn];rfl
  show(gx PH st 60 (cN LG) ((aJ "entry",.loc q.1)::sG l m hs T f ws S W x) (cI LG)).bind (λok=>if ok=aj then(ay PH st 60 (cN LG) ((aJ "entry",.loc q.1)::sG l m hs T f ws S W x) (cE LG)).map some else some ah)=_;rw[ht,b6];by_cases hd:E1 st (.loc q.1)=num m
  ·rw[aU hd,aP rfl,aP rfl];lia
  ·rw[aW hd];rfl
 refine dt (b:=.lst []) rfl rfl hc (by lia) ?_;show some ((((R.map λp=>V.loc p.1).filter λv=>decide (E1 st v=num m)).map id).isEmpty)=_;refine congrArg some ?_;rw[tP,dm,bH,L9,List.filter_eq_nil_iff];constructor
 ·intro h hm;refine cW (bw.mp hm) λq hq e=>?_;exact h (.loc q.1) (b7 hq) (by rw[nj (hR.ent q hq)];exact aU e)
 ·intro h v hv hd;refine cW (bw.mp hv) λq hq fC=>?_;subst fC;rw[bH,nj (hR.ent q hq)]at hd;exact h (bw.mpr ⟨q,hq,hd⟩)
noncomputable def KA(l:Nat)(m:dh)(hs:List bS)(T:Nat)(f:aq)(ws:List Nat×List Nat)(S W:List Nat)(x:bS):Sg:=sG l m hs T f ws S W x++[(aJ "whose",dx x)]
noncomputable def OF(l:Nat)(m:dh)(hs:List bS)(T:Nat)(f:aq)(ws:List Nat×List Nat)(S W:List Nat)(x:bS)(pt:List V):Sg:=KA l m hs T f ws S W x++[(aJ "paint",.tup pt)]
noncomputable def B7(l:Nat)(m:dh)(hs:List bS)(T:Nat)(f:aq)(ws:List Nat×List Nat)(S W:List Nat)(x:bS)(pt:List V)(h t M:V):Sg:=OF l m hs T f ws S W x pt++[(aJ "tint",.tup [h,t,M])]
noncomputable def z6(l:Nat)(m:dh)(hs:List bS)(T:Nat)(f:aq)(ws:List Nat×List Nat)(S W:List Nat)(x:bS)(pt:List V)(h t M:V):Sg:=B7 l m hs T f ws S W x pt h t M++[(aJ "number",iv (num m))]
noncomputable def pI(l:Nat)(m:dh)(hs:List bS)(T:Nat)(f:aq)(ws:List Nat×List Nat)(S W:List Nat)(x:bS)(pt:List V)(h t M:V)(pl:Nat):Sg:=z6 l m hs T f ws S W x pt h t M++[(aJ "place",iv pl)]
theorem vk{k:Nat}{g:bS->Nat}{e:Expr}{σ:Sg}{n:Nat}{q1 q2 q3 q4 q5:Pos}{kk:Nat}{s:jm}(hg:∀x:bS,([x.w,iv x.r,iv x.dQ,iv x.sh,iv x.mC]:List V)[k]?=some (iv (g x)))
  (he:e=.ListComp (.Subscript (.Name (aJ "one") q1) (.Constant (.int (k:Int)) kk q2) q3) [⟨.Name (aJ "one") q4,.Name (aJ "hands") q5,[],0⟩] s p) (lJ:qy (bp 26) s (aJ "one")=aj) (O0:s.names.lookup (aJ "one")=some .local) (h0:(eO oQ σ).isNone=aj) (hi:g7 PH st (n+3) (bp 26) σ (.Name (aJ "hands") q5)=some (hs.map dx)):
  ay PH st (n+4) (bp 26) σ e=some (.lst ((hs.map g).map iv)):=by
 refine fK he lJ h0 hi ?_;rw[jx (g:=λv=>match v with|.tup vs=>vs.getD k .none|v=>v)]
 ·refine am bF (am bF ?_);refine congrArg some (dN λx _=>?_);show([x.w,iv x.r,iv x.dQ,iv x.sh,iv x.mC]:List V).getD k .none=iv (g x);rw[aI,hg];rfl
 ·intro v hv;refine cW (bw.mp hv) λx _ fC=>?_;subst fC;have hn:∀n,ay PH st (n+1) s.names ((aJ "one",dx x)::σ) (.Name (aJ "one") q1)=some (dx x):=λn=>by exact sY (by decide) O0 (aP rfl)
  have e1:ay PH st (n+3) s.names ((aJ "one",dx x)::σ) (.Subscript (.Name (aJ "one") q1) (.Constant (.int (k:Int)) kk q2) q3)=some (iv (g x)):=
   cL rfl rfl (hn _) rfl (iJ (hg x))
  show(eZ (some aj) λok=>if ok=aj then(ay PH st (n+3) s.names ((aJ "one",dx x)::σ) _).map some else some ah)=_;refine am e1 ?_;show some (some (iv (g x)))=some (some (([x.w,iv x.r,iv x.dQ,iv x.sh,iv x.mC]:List V).getD k .none));rw[aI,hg];rfl
theorem Aa{g:bS->Nat}(hx:hs[m.h]?=some x)(adu:∀(i:Nat) (y:bS),hs[i]?=some y->g y=g x->i=m.h):(hs.map g).idxOf (g x)=m.h:=by have hl:=(aG.mp hx).1;have hm:g x∈hs.map g:=b7 (aX hx);have hi:(hs.map g).idxOf (g x)<(hs.map g).length:=uc.mpr hm;have hg:=List.getElem_idxOf hi;rw[aL]at hi;exact adu _ hs[(hs.map g).idxOf (g x)] (aC hi) (by rw[kG]at hg;exact hg)
theorem TG(H:cH hs)(hx:hs[m.h]?=some x):bi PH 60 (bp 26) (sG l m hs T f ws S W x) st (l5 0)=some (.next,KA l m hs T f ws S W x,st):=by
 have Aj:(hs.map (·.r)).idxOf x.r=m.h:=Aa (g:=(·.r)) hx λi y hy e=>by
  rcases akm i m.h with q|q|q
  ·have:=H.rise i m.h y x hy hx q;exact Z1 this e
  ·exact q
  ·have:=H.rise m.h i x y hx hy q;exact Z0 this e
 refine(cQ rfl rfl rfl (yP (cL rfl rfl (a:=.lst (hs.map dx)) (b:=iv ((hs.map (·.r)).idxOf x.r)) (by lia) (mc rfl rfl rfl (by decide) (by decide) (ov:=.lst ((hs.map (·.r)).map iv)) (vk (k:=1) (λx=>rfl) rfl (by lia) (by lia) (by lia) (by lia)) (vs:=[iv x.r]) (by lia) (λz h=>by exact V.noConfusion h) (rq (D:=hs.map (·.r)) rfl (b7 (aX hx)) λx q=>by exact V.noConfusion q)) (u:=dx x) (j6 ?_))) (by lia)).trans (by lia);refine am Aj (am (cm) (am hx ?_));rfl
end
theorem Lw:∀dQ,dQ<24->eX .Div (iv (dQ+24*0)) (iv 24)=some (.cY (Ph dQ 0)):=
 xH ⟨by lia,by lia,by lia,by lia,by lia,by lia,by lia,by lia,by lia,by lia,by lia,by lia,by lia,by lia,by lia,by lia,by lia,by lia,by lia,by lia,by lia,by lia,by lia,by lia⟩
theorem Lv:∀dQ,dQ<24->eX .Div (iv (dQ+24*1)) (iv 24)=some (.cY (Ph dQ 1)):=
 xH ⟨by lia,by lia,by lia,by lia,by lia,by lia,by lia,by lia,by lia,by lia,by lia,by lia,by lia,by lia,by lia,by lia,by lia,by lia,by lia,by lia,by lia,by lia,by lia,by lia⟩
theorem Vc(hh:dQ<24)(ht:tb<2):eX .Div (iv (dQ+24*tb)) (iv 24)=some (.cY (Ph dQ tb)):=by
 have:tb=0\/tb=1:=o78 ht;rcases this with rfl|rfl
 ·exact Lw dQ hh
 ·exact Lv dQ hh
theorem ad4(h1:1<=s)(h4:s<=4):eX .Div (iv s) (iv 4)=some (.cY (jG an s 4)):=by have:s=1\/s=2\/s=3\/s=4:=ZV h1 h4;rcases this with rfl|rfl|rfl|rfl<;>lia
set_option tactic.hygienic true in
theorem qR{st:St}(h:Sq v=some k):fk st (aJ "round") [v]=some (.int k):=by
 cases v<;>first|(exact bM h;done)|skip
 ·have qq:=au h;subst qq;lia
 ·rename_i x;have:fk st (aJ "round") [.cY x]=(uR x).map .int:=by lia
  refine am this (am (show uR x=some k from h) ?_);rfl
section
variable{l T:Nat}{m:dh}{hs:List bS}{f:aq}{ws:List Nat×List Nat}{S W:List Nat}{x:bS}{pt:List V}{h t M:V}
theorem TF(H:cH hs)(hx:hs[m.h]?=some x)(hc:m.c<=15):bi PH 59 (bp 26) (KA l m hs T f ws S W x) st (l5 1)=some (.next,OF l m hs T f ws S W x (ou x.dQ x.sh m.c),st):=by
 have hm:=aX hx;have QO:=H.dQ x hm;have e0:b3 PH st 57 (bp 26) (KA l m hs T f ws S W x) (ix (iR (l5 1)))=some [.cY (Ph x.dQ (T%2)),.cY (jG an x.sh 4),.int (m.c:Int)]:=by
  refine ce (by lia) (bn rfl (a:=iv (x.dQ+24*(T%2))) (b:=iv 24) (bn rfl (a:=iv x.dQ) (b:=iv (24*(T%2))) (by lia) (bn rfl (a:=iv 24) (b:=iv (T%2)) (by lia) (vJ (by lia)) (qk (by decide) aa')) rfl) (by lia) (Vc QO (bx _ (by decide))))
   (ce (by lia) (bn rfl (a:=iv x.sh) (b:=iv 4) (by lia) (by lia) (ad4 (H.s1 x hm) (H.s4 x hm))) (ce (by lia) (a:=iv m.c) (by lia) ci))
 exact(rP rfl (λ_ _ _=>rfl) (j2 (z:=58) rfl (by decide) (by lia) (by lia) e0 (Hd QO (bx _ (by decide)) (H.s1 x hm) (H.s4 x hm) hc)) (by lia)).trans (by lia)
theorem TD{s:Nat}(P:pE x.dQ s m.c pt h t M):bi PH 58 (bp 26) (OF l m hs T f ws S W x pt) st (l5 2)=some (.next,B7 l m hs T f ws S W x pt h t M,st):=by
 obtain⟨a,b,d,rfl⟩:∃a b d,pt=[a,b,d]:=by
  have:=P.ln
  match pt,this with
  |[x,y,z],_=>exact TS x y z rfl
 exact(rP rfl (λ_ _ _=>rfl) (j2 (z:=51) (vs:=[a,b,d]) rfl (by decide) (by lia) (by lia) (by lia) P.QA) (by lia)).trans (by lia)
theorem TC(H:cH hs)(hx:hs[m.h]?=some x)(hc:m.c<=15)(QO:m4 24 h=some (x.dQ:Int))(hM:Sq M=some (m.c:Int)):bi PH 57 (bp 26) (B7 l m hs T f ws S W x pt h t M) st (l5 3)=some (.next,z6 l m hs T f ws S W x pt h t M,st):=by
 have Aj:(hs.map (·.dQ)).idxOf x.dQ=m.h:=Aa (g:=(·.dQ)) hx λi y hy e=>H.ac2 i m.h y x hy hx e;refine cW (cP.mp QO) λy hy hr=>?_;have e:ay PH st 56 (bp 26) (B7 l m hs T f ws S W x pt h t M) (iR (l5 3))=some (iv (num m)):=by
  refine oV rfl (c:=aj) (by lia) ?_;refine bn rfl (a:=iv (3*m.c)) (b:=iv ((hs.map (·.dQ)).idxOf x.dQ)) (bn rfl (a:=iv 3) (b:=iv m.c) (by lia) (gh rfl (by decide) (by lia) (by lia) (by decide) (vs:=[M]) (by lia) (qR hM)) (qk (by decide) (ZF hc)))
   (mc rfl rfl rfl (by decide) (by decide) (ov:=.lst ((hs.map (·.dQ)).map iv)) (vk (k:=2) (λx=>rfl) rfl (by lia) (by lia) (by lia) (by lia)) (ce (by lia) (gh rfl (by decide) (by lia) (by lia) (by decide) (ce (by lia) (bn rfl (a:=.int 24) (b:=h) (by lia) (by lia) hy) ci) (qR hr)) ci) (λz h=>by exact V.noConfusion h)
    (rq (D:=hs.map (·.dQ)) rfl (b7 (aX hx)) λx q=>by exact V.noConfusion q)) ?_
  refine am Aj ?_;rfl
 have ha:fw PH 56 (bp 26) (B7 l m hs T f ws S W x pt h t M) 56 st (iR (l5 3))=some (iv (num m),st):=by
  have:fw PH 56 (bp 26) (B7 l m hs T f ws S W x pt h t M) 56 st (iR (l5 3))=(ay PH st 56 (bp 26) (B7 l m hs T f ws S W x pt h t M) (iR (l5 3))).map λv=>(v,st):=by lia
  refine am this (am e ?_);rfl
 exact(cQ rfl rfl rfl ha (by lia)).trans (by lia)
variable{R:List (Nat×gz)}
theorem GW{s:jm}{q1 q2 q3 q4 q5 p:Pos}{kk:Nat}(hR:gu st l R)(he:e=.ListComp (.Subscript (.Name (aJ "entry") q1) (.Constant (.int ((0:Nat):Int)) kk q2) q3) [⟨.Name (aJ "entry") q4,.Name (aJ "row") q5,[],0⟩] s p)(lJ:qy (bp 26) s (aJ "entry")=aj)(O0:s.names.lookup (aJ "entry")=some .local)(h0:(eO oQ σ).isNone=aj)
  (hi:g7 PH st (n+3) (bp 26) σ (.Name (aJ "row") q5)=st[l]?):ay PH st (n+4) (bp 26) σ e=some (.lst ((bR R).map iv)):=by
 refine fK he lJ h0 (hi.trans hR.row) ?_;rw[jx (g:=λv=>iv (E1 st v))]
 ·unfold bR;refine am bF (am bF ?_);refine congrArg some (dN λq hq=>?_);show iv (E1 st (.loc q.1))=iv q.2.n;exact am (nj (hR.ent q hq)) rfl
 ·intro v hv;refine cW (bw.mp hv) λq hq fC=>?_;subst fC;have hn:∀n,ay PH st (n+1) s.names ((aJ "entry",.loc q.1)::σ) (.Name (aJ "entry") q1)=some (.loc q.1):=λn=>by exact sY (by decide) O0 (aP rfl)
  have e1:ay PH st (n+3) s.names ((aJ "entry",.loc q.1)::σ) (.Subscript (.Name (aJ "entry") q1) (.Constant (.int ((0:Nat):Int)) kk q2) q3)=some (iv q.2.n):=
   cL rfl rfl (hn _) rfl (kO (hR.ent q hq) rfl)
  show(eZ (some aj) λok=>if ok=aj then(ay PH st (n+3) s.names ((aJ "entry",.loc q.1)::σ) _).map some else some ah)=_;refine am e1 (am (nj (hR.ent q hq)) ?_);rfl
noncomputable def fD(D:List Nat)(p:Nat):Nat:=if p=0 then 0 else 1+D.idxOf p
theorem TB(hR:gu st l R)(hp:m.p=0\/m.p∈bR R):bi PH 56 (bp 26) (z6 l m hs T f ws S W x pt h t M) st (l5 4)=some (.next,pI l m hs T f ws S W x pt h t M (fD (bR R) m.p),st):=by
 have ht:∀c,decide (m.p=0)=c->bY PH st 54 (bp 26) (z6 l m hs T f ws S W x pt h t M) (match iR (l5 4)with|.IfExp t _ _ _=>t|_=>gK)=some c:=λc hc=>by refine dt rfl rfl (a:=iv m.p) (b:=.int 0) (by lia) (by lia) ?_;show some ((m.p:Int)==0)=_;refine jj hc (congrArg some ?_);rw[dm,cw,bH];exact o80
 have e:ay PH st 55 (bp 26) (z6 l m hs T f ws S W x pt h t M) (iR (l5 4))=some (iv (fD (bR R) m.p)):=by
  unfold fD;by_cases h0:m.p=0
  ·exact am (aP h0) (oV rfl (ht aj (aU h0)) (by lia))
  ·refine am (bg h0) (oV rfl (ht an (aW h0)) (bn rfl (a:=iv 1) (b:=iv ((bR R).idxOf m.p)) (by lia) (mc rfl rfl rfl (by decide) (by decide) (ov:=.lst ((bR R).map iv)) (GW hR rfl (by lia) (by lia) (by lia) (by lia)) (vs:=[iv m.p]) (by lia) (λz h=>by exact V.noConfusion h) (rq (D:=bR R) rfl (hp.resolve_left h0) λx q=>by exact V.noConfusion q)) rfl))
 have ha:fw PH 55 (bp 26) (z6 l m hs T f ws S W x pt h t M) 55 st (iR (l5 4))=some (iv (fD (bR R) m.p),st):=by
  have:fw PH 55 (bp 26) (z6 l m hs T f ws S W x pt h t M) 55 st (iR (l5 4))=(ay PH st 55 (bp 26) (z6 l m hs T f ws S W x pt h t M) (iR (l5 4))).map λv=>(v,st):=by lia
  refine am this (am e ?_);rfl
 exact(cQ rfl rfl rfl ha (by lia)).trans (by lia)
end
section
variable{n k:Nat}{gA jt:St}{x:aq}{e:Expr}{u:V}{us:List V}{es:List Expr}{a b:Int}{p q:Pos}
theorem LV{s:cy}(he:s=.AugAssign (.Name x p) .Add e q)(hx:fY P sc σ x=some (.int a))(hb:ay P st n sc σ e=some (.int b))(hc:g4 sc x=aj):bi P (n+1) sc σ st s=some (.next,ee x (.int (a+b)) σ,st):=by subst he;exact ck hx (ck hb (aP hc))
theorem LL(he:e=.List es p)(hz:es.length<=100)(h:j1 P n sc σ k st es=some (us,gA)):fw P n sc σ (k+1) st e=some (.loc gA.length,gA++[us]):=by subst he;exact(aP hz).trans (kN h rfl)
noncomputable def OJ:Expr->Bool
 |.List _ _=>aj
 |.Tuple _ _ _=>aj
 |_=>an
theorem iQ(hd:OJ e=an)(h:ay P st n sc σ e=some u):fw P n sc σ (k+1) st e=some (u,st):=by rcases e with _|_|_|_|_|_|_|_|_|_|_|_|_|_|_|_|_|_|_|_|_|_|_|_|_|_|_<;>first|exact kN h rfl|exact bB (show aj=an from hd)
theorem uo:j1 P n sc σ (k+1) st []=some ([],st):=rfl
theorem fE(hs:uA e=an)(h:fw P n sc σ k st e=some (u,gA))(h2:j1 P n sc σ k gA es=some (us,jt)):j1 P n sc σ (k+1) st (e::es)=some (u::us,jt):=by rcases e with _|_|_|_|_|_|_|_|_|_|_|_|_|_|_|_|_|_|_|_|_|_|_|_|_|_|_<;>first|exact ck h (kN h2 rfl)|exact bB (show aj=an from hs)
end
theorem AP(st:St):∀D:List Bool,(D.map V.bool).mapM (dO st 8)=some (D.map Je)
 |[]=>rfl
 |a::r=>by refine am aY (am bj (am (AP st r) ?_));rfl
theorem xa:∀D:List Bool,cg (D.map Je)=aj/\dv (D.map Je)=0
 |[]=>⟨rfl,rfl⟩
 |a::r=>by refine eA (xa r) λh1 h2=>?_;simp[cg,cV,dv,dG,h1,h2]
theorem E9{st:St}{D:List Bool}{k:Nat}(h:D.findIdx? (λb=>b==aj)=some k):nE st (.lst (D.map V.bool)) (aJ "index") [.bool aj]=some (iv k):=by
 have h1:nE st (.lst (D.map V.bool)) (aJ "index") [.bool aj]=match(D.map V.bool).mapM (dO st 8)with
    |some ds=>if bJ (.list ds)&&bJ (.bool aj)then(ds.findIdx? λe=>bQ e (.bool aj)).map λj=>V.int j else af
    |af=>af:=by lia
 rw[h1,AP];dsimp only;have hs:bJ (.list (D.map Je))=aj:=by refine eA (xa D) λa b=>?_;unfold bJ fj;simp[cV,dG,a,b]
 refine am hs (am (show bJ (.bool aj)=aj by simp[bJ,fj,cV,dG]) (am (aP (by decide)) (am (akq) ?_)));have:((λe=>bQ e (.bool aj))∘Je)=λb=>b==aj:=rfl;refine am this (am h ?_);rfl
theorem Li(D:List Nat)(n:Nat):(D.map (λd=>decide (d<n))++[aj]).findIdx? (λb=>b==aj)=some (D.findIdx λd=>decide (d<n)):=by
 induction D with
 |nil=>rfl
 |cons a r ih=>
  refine am aY (am Ma (am (akd) (am Jm (am ih ?_))));cases h:decide (a<n)<;>rfl
noncomputable def A9(D:List Nat)(n p:Nat):Nat:=fD D p+(D.drop (fD D p)).findIdx λd=>decide (d<n)
theorem D5{D:List Nat}{p:Nat}(h:p=0\/p∈D):fD D p<=D.length:=by
 unfold fD;split
 ·exact bo _
 ·next h0=>
  have:=HJ (h.resolve_left h0);exact(dp _ _ 1 (.p K1 V0) V1 (D1 (S1 V0) V1 .n) rfl this)
theorem SK{D:List Nat}{n p:Nat}(h:p=0\/p∈D):A9 D n p<=D.length:=by have h1:=D5 h;have h2:=List.findIdx_le_length (p:=λd=>decide (d<n)) (xs:=D.drop (fD D p));rw[da]at h2;unfold A9;exact abR h1 h2
section
variable{l T:Nat}{m:dh}{hs:List bS}{f:aq}{ws:List Nat×List Nat}{S W:List Nat}{x:bS}{pt:List V}{h t M:V}{R:List (Nat×gz)}
noncomputable def e5':Expr:=match l5 5 with
 |.AugAssign _ _ e _=>e
 |_=>gK
noncomputable def QP:Expr:=match e5' with
 |.Call (.Attribute (.BinOp c _ _ _) _ _) _ _ _=>c
 |_=>gK
noncomputable def Wg:Expr:=match QP with
 |.ListComp _ [g] _ _=>g.iter
 |_=>gK
theorem TA(H:cH hs)(hx:hs[m.h]?=some x)(hR:gu st l R)(ho:∀q∈R,tJ hs q.2)(hp:m.p=0\/m.p∈bR R)(hl:R.length<=1000):bi PH 55 (bp 26) (pI l m hs T f ws S W x pt h t M (fD (bR R) m.p)) st (l5 5)=some (.next,pI l m hs T f ws S W x pt h t M (A9 (bR R) (num m) m.p),st):=by
 have hb:=D5 hp;have hlen:(bR R).length=R.length:=by unfold bR;rw[aL]
 have hit:g7 PH st 50 (bp 26) (pI l m hs T f ws S W x pt h t M (fD (bR R) m.p)) Wg=some ((R.drop (fD (bR R) m.p)).map λq=>.loc q.1):=by
  have:g7 PH st 50 (bp 26) (pI l m hs T f ws S W x pt h t M (fD (bR R) m.p)) Wg=(ay PH st 49 (bp 26) (pI l m hs T f ws S W x pt h t M (fD (bR R) m.p)) Wg).bind (kD st):=by lia
  have e:ay PH st 49 (bp 26) (pI l m hs T f ws S W x pt h t M (fD (bR R) m.p)) Wg=some (.lst ((R.drop (fD (bR R) m.p)).map λq=>.loc q.1)):=by refine mQ rfl (a:=.loc l) (by lia) (va:=some (iv (fD (bR R) m.p))) (vb:=ah) (by lia) (by lia) rfl rfl ?_;show(match st[l]?with|some vs=>HB vs (some ((fD (bR R) m.p:Nat):Int)) ah|ah=>ah)=_;refine am hR.row ?_;show(if 0<=((fD (bR R) m.p:Nat):Int)/\((fD (bR R) m.p:Nat):Int)<=(R.map λp=>V.loc p.1).length then some (V.lst ((R.map λp=>V.loc p.1).drop ((fD (bR R) m.p:Nat):Int).toNat))else ah)=_;rw[aP ⟨o7,by rw[aL];exact abQ hb hlen⟩,Jp,nZ]
  refine am this (am e ?_);rfl
 have hc:ay PH st 51 (bp 26) (pI l m hs T f ws S W x pt h t M (fD (bR R) m.p)) QP=some (.lst (((bR R).drop (fD (bR R) m.p)).map λd=>.bool (decide (d<num m)))):=by
  refine fK rfl (by lia) (by lia) hit ?_;rw[jx (g:=λv=>.bool (decide (E1 st v<num m)))]
  ·unfold bR;refine jj nZ (am bF (am bF ?_));refine congrArg some (dN λq hq=>?_);show V.bool (decide (E1 st (.loc q.1)<num m))=V.bool (decide (q.2.n<num m));exact am (nj (hR.ent q (ff hq))) rfl
  ·intro v hv;refine cW (bw.mp hv) λq hq fC=>?_;subst fC;have hq:=ff hq;have he:=hR.ent q hq;refine gN (ho q hq) λh' c x' sJ hn OV=>?_;have e1:ay PH st 50 (cN QP) ((aJ "entry",.loc q.1)::pI l m hs T f ws S W x pt h t M (fD (bR R) m.p)) (cE QP)=some (.bool (decide (E1 st (.loc q.1)<num m))):=by refine I3 rfl rfl (cL rfl rfl (a:=.loc q.1) (b:=.int ((1:Nat):Int)) (by lia) (by lia) (u:=.lst (jL c x')) (kO he (by refine am (show(iP q.2)[1]?=some (.lst q.2.tS)from rfl) (am OV ?_);rfl))) (b:=.lst (jL m.c x)) (by lia) ?_;refine am (NM H sJ hx) (am (nj he) (am hn ?_));rfl
   show(eZ (some aj) λok=>if ok=aj then(ay PH st 50 (cN QP) ((aJ "entry",.loc q.1)::pI l m hs T f ws S W x pt h t M (fD (bR R) m.p)) (cE QP)).map some else some ah)=_;refine am e1 ?_;rfl
 have he:ay PH st 54 (bp 26) (pI l m hs T f ws S W x pt h t M (fD (bR R) m.p)) e5'=some (iv (((bR R).drop (fD (bR R) m.p)).findIdx λd=>decide (d<num m))):=by refine mc rfl rfl rfl (by decide) (by decide) (ov:=.lst ((((bR R).drop (fD (bR R) m.p)).map (λd=>decide (d<num m))++[aj]).map V.bool)) (bn rfl (b:=.lst [.bool aj]) hc (by lia) ?_) (vs:=[.bool aj]) (by lia) (λz h=>by exact V.noConfusion h) (E9 (Li _ _));show(if(((bR R).drop (fD (bR R) m.p)).map λd=>V.bool (decide (d<num m))).length+1<=16384 then some (V.lst ((((bR R).drop (fD (bR R) m.p)).map λd=>V.bool (decide (d<num m)))++[.bool aj]))else ah)=_;refine am (aP (by rw[aL,da,hlen];exact abO hl)) (am d8 (am bF ?_));rfl
 exact(LV rfl (a:=((fD (bR R) m.p:Nat):Int)) (by lia) he (by lia)).trans (by lia)
noncomputable def E0(m:dh)(x:bS)(W:List Nat)(pt:List V):gz:=⟨num m,jL m.c x,W,pt,x.sh⟩
noncomputable def vZ(R:List (Nat×gz))(k:Nat)(q:Nat×gz):List (Nat×gz):=R.take k++q::R.drop k
noncomputable def g6(k:Nat):Expr:=match l5 6 with
 |.Expr (.Call _ es _ _) _=>es.getD k gK
 |_=>gK
noncomputable def g6o:Expr:=match l5 6 with
 |.Expr (.Call (.Attribute o _ _) _ _ _) _=>o
 |_=>gK
noncomputable def g6p(k:Nat):Pos:=match l5 6 with
 |.Expr (.Call (.Attribute _ _ p) _ _ q) r=>[p,q,r].getD k default
 |_=>default
theorem l56:l5 6=.Expr (.Call (.Attribute g6o (aJ "insert") (g6p 0)) [g6 0,g6 1] [] (g6p 1)) (g6p 2):=by lia
theorem Tz(hR:gu st l R)(hl:R.length<=1000){k:Nat}(hk:k<=R.length)(ht:m4 4 t=some (x.sh:Int)):bi PH 54 (bp 26) (pI l m hs T f ws S W x pt h t M k) st (l5 6)=some (.next,pI l m hs T f ws S W x pt h t M k,(st++[iP (E0 m x W pt)]).set l ((R.map λp=>V.loc p.1).take k++.loc st.length::(R.map λp=>V.loc p.1).drop k)):=by
 refine cW (cP.mp ht) λy hy hr=>?_;have gE:l<st.length:=(aG.mp hR.row).1;have hb:fw PH 53 (bp 26) (pI l m hs T f ws S W x pt h t M k) 53 st (g6 1)=some (.loc st.length,st++[iP (E0 m x W pt)]):=by
  refine LL rfl (by decide) (fE (by lia) (iQ (by lia) (u:=iv (num m)) (by lia)) (fE (by lia) (iQ (by lia) (u:=.lst (jL m.c x)) (by lia)) (fE (by lia) (iQ (by lia) (u:=.str (mk W)) ?_) (fE (by lia) (iQ (by lia) (u:=.tup pt) (by lia)) (fE (by lia) (iQ (by lia) (u:=iv x.sh) ?_) uo)))))
  ·refine mQ rfl (a:=.str (mk (S++32::W))) (by lia) (va:=some (.int ((S.length+1:Nat):Int))) (vb:=ah) (by lia) (by lia) rfl rfl ?_;show some (V.str (c5 (mk (S++32::W)) (some ((S.length+1:Nat):Int)) ah))=_;rw[qg,gp,show S++32::W=(S++[32])++W by simp,xm (by simp)]
  ·exact gh rfl (by decide) (by lia) (by lia) (by decide) (ce (by lia) (bn rfl (a:=.int 4) (b:=t) (by lia) (by lia) hy) ci) (qR hr)
 refine(sW (l:=l) (k:=k) l56 rfl (by lia) (by lia) (by lia) hR.row (by rw[aL];exact o0 hl) (by lia) hb (vs1:=R.map λp=>V.loc p.1) ?_ (by rw[aL];exact o0 hl) (by rw[aL];exact hk));exact am (cZ gE) (am hR.row rfl)
theorem gu.put(hR:gu st l R){k:Nat}{e:gz}:gu ((st++[iP e]).set l ((R.map λp=>V.loc p.1).take k++.loc st.length::(R.map λp=>V.loc p.1).drop k)) l (vZ R k (st.length,e)):=by
 have gE:l<st.length:=(aG.mp hR.row).1;have hold:∀q∈R,q.1<st.length:=λq hq=>(aG.mp (hR.ent q hq)).1;have Uv:(vZ R k (st.length,e)).map (·.1)=(R.map (·.1)).take k++st.length::(R.map (·.1)).drop k:=by unfold vZ;exact am d8 (am aY (am ub (am nZ rfl)))
 have sK:st.length∉R.map (·.1):=λh=>by refine cW (bw.mp h) λq hq e=>?_;have:=hold q hq;exact o33 this e
 refine⟨?_,?_,?_,?_⟩
 ·refine am (gS (by simp;exact(dp _ _ 1 (S1 V0) (S1 V1) (D1 (S1 V0) V1 .n) rfl gE))) ?_;unfold vZ;exact am d8 (am aY (am ub (am nZ rfl)))
 ·intro q hq;have:q∈R\/q=(st.length,e):=by
   unfold vZ at hq;rcases bU.mp hq with h|h
   ·exact .inl (iD h)
   ·rcases ax.mp h with h|h
    ·exact .inr h
    ·exact .inl (ff h)
  rcases this with h|rfl
  ·have lP:l≠q.1:=λe=>hR.out (e▸b7 h);refine am (gw lP) (am (cZ (hold q h)) ?_);exact hR.ent q h
  ·have lP:l≠st.length:=by exact o59 gE
   rw[gw lP,d7 (aD _),Jg];rfl
 ·refine am Uv ?_;have hp:((R.map (·.1)).take k++st.length::(R.map (·.1)).drop k).Perm (st.length::R.map (·.1)):=by refine List.perm_middle.trans ?_;rw[ajC]
  exact hp.nodup_iff.mpr (lN.mpr ⟨sK,hR.nd⟩)
 ·refine am Uv ?_;intro h;rcases bU.mp h with h|h
  ·exact hR.out (iD h)
  ·rcases ax.mp h with h|h
   ·exact o33 gE h
   ·exact hR.out (ff h)
end
section
variable{l T:Nat}{m:dh}{hs:List bS}{x:bS}{tl:List Nat}{wo:String}{R:List (Nat×gz)}
theorem Ka(h:wo∈cB):nH (sg (aJ wo)):=by
 have a:(cB.all λw=>(sg (aJ w)).all λc=>decide (c<1114112))=aj:=by lia
 exact fq (aT.mp a wo h)
theorem Hg{c:Nat}(hc:c<100)(h:wo∈cB):nH (eY T c wo):=by
 have a:(nF.all λt=>t.all λc=>decide (c<1114112))=aj:=by lia
 have b:(tV.all λc=>decide (c<1114112))=aj:=by lia
 unfold eY lj;refine eD (eD (λc hc=>?_) (wK hc)) (cT (bG (aT.mp b _ C')) (eD (Ka h) (fq (aT.mp a _ uI))));refine am (List.eq_of_mem_replicate hc) ?_;decide
theorem Om{k c:Nat}(hk:k<5)(hc:c<1114112):nH (tU k c):=by
 by_cases h:c∈uL
 ·simp only[uL,ax,bA,or_false]at h;revert hk;rcases h with rfl|rfl|rfl|rfl|rfl|rfl|rfl<;>exact rJ (p:=λk=>nH (tU k _)) (fq (by lia)) (fq (by lia)) (fq (by lia)) (fq (by lia)) (fq (by lia)) k
 ·refine am (xP h) ?_;exact cT hc jc
theorem ME(hp:x.mC<5)(h:nH tl):nH (wr x tl):=λc hc=>by exact cW (akC.mp hc) λa ha h2=>Om hp (h a ha) c h2
theorem Hj:nH (sg (aJ (jg (T/36%3)))):=by have:T/36%3=0\/T/36%3=1\/T/36%3=2:=VW;rcases this with e|e|e<;>rw[e]<;>exact fq (by lia)
theorem Hh{c:Nat}{W:List Nat}(hc:c<100)(h:wo∈cB)(hW:nH W):nH (kE T c wo W):=
 eD (fq (by lia)) (eD (Dk (fq (by lia)) (eD (Hg hc h) (cT (by decide) hW))) Hj)
theorem Bs{c:Nat}{W:List Nat}(h:wo∈cB)(hl:W.length<=12):rg 13 gL [.str (mk (kE T c wo W))]=some (.str (mk (eY T c wo++32::W))):=by
 have h1:=w0 (T:=T) (c:=c) h hl;have e:rd (iE 34 [34,34] (eY T c wo++32::W)++sg (aJ (jg (T/36%3))))=eY T c wo++32::W:=by
  refine Ok _ _ ?_;have:T/36%3=0\/T/36%3=1\/T/36%3=2:=VW;rcases this with e|e|e<;>rw[e]
  ·exact .inr ⟨[],by decide+kernel,by decide⟩
  ·exact .inr ⟨[32,105,115,32,34,105,116,34],by decide+kernel,by decide⟩
  ·exact .inl (by decide+kernel)
 have:=JK (x:=mk (kE T c wo W)) (L:=iE 34 [34,34] (eY T c wo++32::W)++sg (aJ (jg (T/36%3)))) (gp _) (by unfold kE at h1;replace h1:=aE▸h1;exact(dp _ _ 1 (S1 V1) (.k 10000) (D1 (.p V0 V1) (.k 200) .n) rfl h1))
 exact am this (am e rfl)
theorem Eo:∀k,k<5->rg 13 gL [.str (aJ (l6 k))]=some (.str (mk [])):=rJ (by lia) (by lia) (by lia) (by lia) (by lia)
theorem K9:∀k,k<5->(sg (aJ (l6 k))).length<=200/\(sg (aJ (l6 k))).take 2=[50,53]/\((sg (aJ (l6 k))).all λc=>decide (c<1114112))=aj:=rJ (by decide+kernel) (by decide+kernel) (by decide+kernel) (by decide+kernel) (by decide+kernel)
noncomputable def Ha:List cy:=[bd 26 0,bd 26 1,bd 26 2,bd 26 3,bd 26 4,bd 26 5,bd 26 6,bd 26 7]
theorem EN{k:Nat}(hx:hs[m.h]?=some x)(hh:m.h<3)(hp:m.p∈gC)(ht:m.t=some tl)(hl:tl.length<=2)(Ue:x.mC<5)(hw:gy x.w k wo)(hu:xZ x.w)(h9:9<=m.c)(hc:m.c<=15):
  bW PH 80 (bp 26) (Fj l m hs T) st Ha=some (.next,hz l m hs T (mk (kE T m.c wo (wr x tl))) (some (wr x tl,eY T m.c wo)),st):=
 (aB MB).trans ((aB (MA hh)).trans ((aB Mz).trans ((aB (My hp)).trans ((aB Mx).trans ((aB Mw).trans ((aB Mv).trans ((aB (N' hx ht hl Ue hw hu h9 hc)).trans dY)))))))
theorem BR(hh:m.h<3)(hp:m.p∈gC)(ht:m.t=ah):bW PH 80 (bp 26) (Fj l m hs T) st Ha=some (.next,hz l m hs T (aJ (l6 (T/24%5))) ah,st):=
 (aB MB).trans ((aB (MA hh)).trans ((aB Mz).trans ((aB (My hp)).trans ((aB Mx).trans ((aB Mw).trans ((aB Mv).trans ((aB (Oa ht)).trans dY)))))))
theorem D3:(dc 26).body=Ha++[bd 26 8,bd 26 9,bd 26 10,bd 26 11,bd 26 12,bd 26 13,bd 26 14,bd 26 15,bd 26 16]:=PI
noncomputable def UA(l:Nat)(m:dh)(hs:List bS)(T:Nat):List V:=[.loc l,cF m,.lst (hs.map dx),iv T]
section
variable{K:ph}{w:bz}{r:Nat}
theorem Ak(O:Wo K w ag mg mb)(hh:m.h<3)(hp:m.p∈gC)(ht:m.t=ah)(hR:gu st l R)(hg:∀q∈R,oW q.2)(hl:R.length<1000):
  ∃eJ,AX prog w ag (r+3) 180 (UA l m hs T) st (.bool aj) eJ/\gu eJ l (jz m.p R)/\eJ.length=st.length/\∀j,j∉R.map (·.1)->eJ[j]?=st[j]?:=by
 have hk:T/24%5<5:=bx _ (by decide);refine yK (K9 _ hk) λg1 g2 g3=>cU (JY (T:=T) (m:=m) (hs:=hs) (f:=aJ (l6 (T/24%5))) hR hg hl) λcR eJ Pn R' Ai hj=>?_;refine Ab eJ ?_ R' Ai hj;refine AX.def (out:=(.ret (.bool aj),cR,eJ)) (O.L.Ll.at O.X Oo) O.lim rfl rfl ?_;show CS prog w ag (r+2) (bp 26) (dc 26).body (Fj l m hs T) st _;rw[D3];refine CS.app (P:=PH) (yZ O) 80 _ (BR hh hp ht) ?_;have c8:=No (l:=l) (T:=T) (m:=m) (hs:=hs) (st:=st) (F:=sg (aJ (l6 (T/24%5)))) (o:=ah) (r:=r) (prog:=prog) O hp g1 g2 (fq g3);rw[lp]at c8;refine .cons c8 (.cons (.pure (P:=PH) (yZ O) (Mu (Eo _ hk)) (λc x h=>by cases h)) (.cons (.pure (P:=PH) (yZ O) (GS hp) (λc x h=>by cases h)) (.cons (.pure (P:=PH) (yZ O) (GR hp ?_) (λc x h=>by cases h)) (.ret (.pure (P:=PH) (yZ O) Pn (λc x h=>by cases h))))));rw[ht];rfl
theorem vE(O:Wo K w ag mg mb)(H:cH hs)(hx:hs[m.h]?=some x)(hp:m.p∈gC)(ht:m.t=some tl)(hl:tl.length<=2)(lJ:nH tl)(h9:9<=m.c)(hc:m.c<=15):
  ∃f ws S,∀out,CS prog w ag (r+2) (bp 26) [bd 26 15,bd 26 16] (sG l m hs T f ws S (wr x tl) x) st out->CS prog w ag (r+2) (bp 26) (dc 26).body (Fj l m hs T) st out:=by
 have hm:=aX hx;have hh:=rE H hx;have Ue:=H.mC x hm;have hu:=H.w x hm;refine eE (H.wo hx) λwo hw=>eA (EB (r:=r) (prog:=prog) O hw hu (bx T (by decide:3>0)) h9 hc (C' (T:=T)) (uI (T:=T))) λadC WB=>?_;have zd:=F9 (x:=x) hl Ue;refine TS (mk (kE T m.c wo (wr x tl))) (wr x tl,eY T m.c wo) (eY T m.c wo) (λout k=>?_);refine am D3 (CS.app (P:=PH) (yZ O) 80 _ (EN hx hh hp ht hl Ue hw hu h9 hc) ?_);have lP:(mk (eY T m.c wo++32::wr x tl)==aJ "")=an:=by rw[beq_eq_false_iff_ne];intro q;have:=congrArg sg q;rw[gp]at this;have:=congrArg ajV this;replace this:=(show(sg (aJ "")).length=0 by rfl)▸aS▸aE▸this;exact(dF _ _ (D1 (.p V0 (S1 V1)) (.k 0) .n) rfl (ac this))
 refine .cons (No O hp (w0 hw.mem zd) rfl (Hh (by exact dD _ 1 (S1 V0) (.k 100) (D1 V0 (.k 15) .n) rfl hc) hw.mem (ME Ue lJ))) (.cons (.pure (P:=PH) (yZ O) (Mu (Bs hw.mem zd)) (λc x h=>by exact Fl.noConfusion h)) ?_);refine .cons (.pure (P:=PH) (yZ O) (GS hp) (λc x h=>by exact Fl.noConfusion h)) ?_;refine .cons (.pure (P:=PH) (yZ O) (GR hp (by refine am lP (am ht ?_);rfl)) (λc x h=>by exact Fl.noConfusion h)) ?_;refine .cons (.pure (P:=PH) (yZ O) (JZ lP) (λc x h=>by exact Fl.noConfusion h)) (.cons (.pure (P:=PH) (yZ O) (Ob WB) (λc x h=>by exact Fl.noConfusion h)) ?_);exact .cons (PD O adC) k
theorem HW(O:Wo K w ag mg mb)(H:cH hs)(hx:hs[m.h]?=some x)(hp:m.p∈gC)(ht:m.t=some tl)(hl:tl.length<=2)(lJ:nH tl)(h9:9<=m.c)(hc:m.c<=15)(hR:gu st l R)(ho:∀q∈R,tJ hs q.2)(sM:num m∈bR R):
  AX prog w ag (r+3) 180 (UA l m hs T) st (.bool aj) st:=by
 refine wf (vE (T:=T) (st:=st) (l:=l) (r:=r) (prog:=prog) O H hx hp ht hl lJ h9 hc) λf ws S k=>AX.def (out:=(.ret (.bool aj),sG l m hs T f ws S (wr x tl) x,st)) (O.L.Ll.at O.X Oo) O.lim rfl rfl (k _ ?_);refine .cons (.pure (P:=PH) (yZ O) (eG (n:=61) rfl ((Gv H hx hR ho).trans (am (aW (λq=>q sM)) rfl)) rfl) (λc x h=>by exact Fl.noConfusion h)) (.ret (.pure (m:=60) (P:=PH) (yZ O) (by lia) (λc x h=>by exact Fl.noConfusion h)))
noncomputable def zF(st:St)(l:Nat)(R:List (Nat×gz))(k:Nat)(e:gz):St:=(st++[iP e]).set l ((R.map λp=>V.loc p.1).take k++.loc st.length::(R.map λp=>V.loc p.1).drop k)
theorem HX(O:Wo K w ag mg mb)(H:cH hs)(hx:hs[m.h]?=some x)(hp:m.p∈gC)(ht:m.t=some tl)(hl:tl.length<=2)(lJ:nH tl)(h9:9<=m.c)(hc:m.c<=15)(hR:gu st l R)(ho:∀q∈R,tJ hs q.2)(Ub:R.length<=1000)
  (sM:num m∉bR R) (hpr:m.p=0\/m.p∈bR R):
  ∃eJ,AX prog w ag (r+3) 180 (UA l m hs T) st (.bool aj) eJ/\gu eJ l (vZ R (A9 (bR R) (num m) m.p) (st.length,E0 m x (wr x tl) (ou x.dQ x.sh m.c)))/\eJ.length=st.length+1/\∀j,j≠l->j<st.length->eJ[j]?=st[j]?:=by
 have hm:=aX hx;refine wf (vE (T:=T) (st:=st) (l:=l) (r:=r) (prog:=prog) O H hx hp ht hl lJ h9 hc) λf ws S k=>gN (Dh (H.dQ x hm) (H.s1 x hm) (H.s4 x hm) h9 hc) λh t M Pt QO hM=>?_;have hlen:(bR R).length=R.length:=by unfold bR;rw[aL]
 have hk:A9 (bR R) (num m) m.p<=R.length:=by have:=SK (n:=num m) hpr;exact o75 this hlen
 refine Ab (zF st l R (A9 (bR R) (num m) m.p) (E0 m x (wr x tl) (ou x.dQ x.sh m.c))) ?_ hR.put (by simp[zF]) (λj hj O4=>?_)
 ·refine AX.def (out:=(.ret (.bool aj),pI l m hs T f ws S (wr x tl) x (ou x.dQ x.sh m.c) h t M (A9 (bR R) (num m) m.p),zF st l R (A9 (bR R) (num m) m.p) (E0 m x (wr x tl) (ou x.dQ x.sh m.c)))) (O.L.Ll.at O.X Oo) O.lim rfl rfl (k _ ?_);have hif:bW PH 61 (bp 26) (sG l m hs T f ws S (wr x tl) x) st (mr (bd 26 15))=some (.next,pI l m hs T f ws S (wr x tl) x (ou x.dQ x.sh m.c) h t M (A9 (bR R) (num m) m.p),zF st l R (A9 (bR R) (num m) m.p) (E0 m x (wr x tl) (ou x.dQ x.sh m.c))):=by exact am Tw ((aB (TG H hx)).trans ((aB (TF H hx hc)).trans ((aB (TD Pt)).trans ((aB (TC H hx hc QO hM)).trans ((aB (TB hR hpr)).trans ((aB (TA H hx hR ho hpr Ub)).trans ((aB (Tz hR Ub hk Pt.sh)).trans dY)))))))
  refine .cons (C1.We (P:=PH) (m:=62) (c:=aj) (yZ O) ((Gv H hx hR ho).trans (am (aU sM) rfl)) (.pure (P:=PH) (yZ O) hif (λc x h=>by exact Fl.noConfusion h))) (.ret (.pure (m:=60) (P:=PH) (yZ O) (by lia) (λc x h=>by exact Fl.noConfusion h)))
 ·unfold zF;exact am (gw (λe=>hj e.symm)) (am (cZ O4) rfl)
end
end
theorem CK{st gA:St}{e:Expr}{us:List V}{es:List Expr}{p:Pos}(he:e=.Tuple es kk p)(hz:es.length<=100)(h:j1 P n sc σ k st es=some (us,gA)):fw P n sc σ (k+1) st e=some (.tup us,gA):=by subst he;exact(aP hz).trans (kN h rfl)
noncomputable def FaR:aN->List V->Option V:=λa vs=>if a=163 then rg 23 gL vs else if a=185 then rg 27 gL vs else if a=190 then rg 28 Ny vs else ah
noncomputable abbrev PR:pD:=MK FaR
noncomputable def Ms:V:=.tup (["&","<",">","\"","\t","\r","\n",""].map wd)
noncomputable def rb(ds:List Nat)(hs:List bS):Sg:=[(aJ "deeds",.lst (ds.map iv)),(aJ "hands",.lst (hs.map dx)),(aJ "rows",.loc 3),(aJ "heard",.loc 7),(aJ "sent",.loc 8),(aJ "signs",Ms)]
noncomputable def Kd:List aq:=[aJ "act",aJ "hand",aJ "which",aJ "turn",aJ "kind",aJ "pick",aJ "numbers",aJ "ready",aJ "piece",aJ "count",aJ "fine"]
noncomputable def rs(ds:List Nat)(hs:List bS)(vs:List V):Sg:=rb ds hs++Kd.zip vs
noncomputable def tl(o:Bool)(l:List V):List V:=if o then l else []
theorem PE:(dc 29).body=[bd 29 0,bd 29 1,bd 29 2,bd 29 3,bd 29 4]:=by lia
noncomputable def fT:Expr:=match bd 29 2 with
 |.For t _ _ _ _=>t
 |_=>gK
noncomputable def fB:List cy:=match bd 29 2 with
 |.For _ _ b _ _=>b
 |_=>[]
noncomputable def fb(k:Nat):cy:=fB.getD k (.Pass default)
theorem Ir:fB=[fb 0,fb 1,fb 2]:=by lia
noncomputable def fc(k:Nat):cy:=(mr (fb 1)).getD k (.Pass default)
theorem UY:mr (fb 1)=[fc 0,fc 1,fc 2,fc 3,fc 4]:=by lia
noncomputable def fd(k:Nat):cy:=(mr (fb 2)).getD k (.Pass default)
theorem Nk:mr (fb 2)=[fd 0,fd 1,fd 2]:=by lia
theorem uE:∀ds:List Nat,pP (ds.map iv)=some (ds.map λd:Nat=>(d:Int))
 |[]=>rfl
 |a::r=>by show(pP (r.map iv)).map ((a:Int)::·)=_;refine am (uE r) ?_;rfl
theorem CR:∀ds:List Nat,(ds.map λd:Nat=>(d:Int)).sum=((ds.sum:Nat):Int)
 |[]=>rfl
 |a::r=>by refine am aY (am aeu (am (CR r) (am aeu ?_)));exact abb
theorem Gj{st:St}{ds:List Nat}(hd:∀d∈ds,d<100000000)(hl:ds.length<=7):fk st (aJ "sum") [.lst (ds.map iv)]=some (iv ds.sum):=by
 have h:∀vs:List V,fk st (aJ "sum") [.lst vs]=(pP vs).bind λns=>if(ns.all λn=>decide (n.natAbs<2^50))&&decide (ns.length<=64)then some (.int ns.sum)else af:=λvs=>by lia
 rw[h,uE,b6,aP,CR];rfl;rw[cj,aT,bH,aL];refine⟨λn hn=>?_,(by exact dD _ 1 V0 (.k 64) (D1 V0 (.k 7) .n) rfl hl)⟩;refine cW (bw.mp hn) λd hdm fC=>?_;subst fC;have:=hd d hdm;refine aU ?_;show d<2^50;exact(aZ λq=>eM _ (D1 (S1 V0) (.k 100000000) (D1 (.k 1125899906842624) V0 .n)) rfl this q)
section
variable{ds:List Nat}{hs:List bS}{a:Nat}{o:Bool}{x1 x2 x3 x4 x5 x6 x7 x8 x9 ew eU:V}
noncomputable def r0(ds:List Nat):Sg:=[(aJ "deeds",.lst (ds.map iv))]
noncomputable def Nt(ds:List Nat)(hs:List bS):Sg:=[(aJ "deeds",.lst (ds.map iv)),(aJ "hands",.lst (hs.map dx)),(aJ "rows",.loc 3),(aJ "heard",.loc 7),(aJ "sent",.loc 8)]
noncomputable def GH:St:=[[],[],[],[.loc 0,.loc 1,.loc 2],[],[],[],[.loc 4,.loc 5,.loc 6],[]]
theorem Nq(v:V):dq (bp 29) fT v (rs ds hs (tl o [x1,x2,x3,x4,x5,x6,x7,x8,x9,ew,eU]))=some (rs ds hs (v::tl o [x2,x3,x4,x5,x6,x7,x8,x9,ew,eU])):=by cases o<;>lia
theorem f0(hd:∀d∈ds,d<100000000)(hl:ds.length<=7)(ha:a<100):bi PR 80 (bp 29) (rs ds hs (iv a::tl o [x2,x3,x4,x5,x6,x7,x8,x9,ew,eU])) st (fb 0)=some (.next,rs ds hs (iv a::.int ((a/7:Nat)-1)::iv (a%7)::iv (ds.sum+31*a)::tl o [x5,x6,x7,x8,x9,ew,eU]),st):=by
 have e0:∀n,ay PR st (n+4) (bp 29) (rs ds hs (iv a::tl o [x2,x3,x4,x5,x6,x7,x8,x9,ew,eU])) (match iR (fb 0)with|.Tuple (e::_) _ _=>e|_=>gK)=some (.int ((a/7:Nat)-1)):=λn=>by
  have:ay PR st (n+4) (bp 29) (rs ds hs (iv a::tl o [x2,x3,x4,x5,x6,x7,x8,x9,ew,eU])) (match iR (fb 0)with|.Tuple (e::_) _ _=>e|_=>gK)=some (.int ((a:Int).fdiv ((7:Nat):Int)-1)):=by cases o<;>lia
  rw[this,mM]
 have e1:∀n,ay PR st (n+4) (bp 29) (rs ds hs (iv a::tl o [x2,x3,x4,x5,x6,x7,x8,x9,ew,eU])) (match iR (fb 0)with|.Tuple [_,e,_] _ _=>e|_=>gK)=some (iv (a%7)):=λn=>vJ (by cases o<;>lia);have e2:∀n,ay PR st (n+6) (bp 29) (rs ds hs (iv a::tl o [x2,x3,x4,x5,x6,x7,x8,x9,ew,eU])) (match iR (fb 0)with|.Tuple [_,_,e] _ _=>e|_=>gK)=some (iv (ds.sum+31*a)):=λn=>
  bn rfl (a:=iv ds.sum) (b:=iv (31*a)) (gh rfl (by decide) (by lia) (by lia) (by decide) (ce (by lia) (a:=.lst (ds.map iv)) (by cases o<;>lia) ci) (Gj hd hl)) (bn rfl (a:=iv 31) (b:=iv a) (by lia) (by cases o<;>lia) (qk (by decide) (o79 ha))) rfl
 have UH:fw PR 79 (bp 29) (rs ds hs (iv a::tl o [x2,x3,x4,x5,x6,x7,x8,x9,ew,eU])) 79 st (iR (fb 0))=some (.tup [.int ((a/7:Nat)-1),iv (a%7),iv (ds.sum+31*a)],st):=by exact CK rfl (by decide) (fE (by lia) (iQ (by lia) (e0 _)) (fE (by lia) (iQ (by lia) (e1 _)) (fE (by lia) (iQ (by lia) (e2 _)) uo)))
 exact sV rfl rfl rfl UH (by cases o<;>lia)
end
theorem qe(hb:b≠0):eX .Mod (iv a) (iv b)=some (iv (a%b)):=by show(if(b:Int)≠0 then some (V.int ((a:Int).fmod (b:Int)))else ah)=_;rw[aP (o50 hb),kl];rfl
theorem xG(hb:b≠0)(hb2:b<1073741824):eX .FloorDiv (iv a) (iv b)=some (iv (a/b)):=by show(if(b:Int)≠0/\(b:Int).natAbs<1073741824 then some (V.int ((a:Int).fdiv (b:Int)))else ah)=_;rw[aP ⟨o50 hb,ab9 hb2⟩,mM];rfl
theorem yQ{P:pD}{n:Nat}{sc:Sc}{σ:Sg}{st:St}{s:cy}(he:s=.Assign [.Name y p] (.ListComp elt gens scope q') q)(hp:g4 sc y=aj)(h:ay P st n sc σ (.ListComp elt gens scope q')=some u):bi P (n+1) sc σ st s=some (.next,ee y u σ,st):=by subst he;exact(aP hp).trans (kN h rfl)
noncomputable def KE:Expr->Bool
 |.Call _ _ _ _=>aj
 |_=>an
noncomputable def pJ(e:Expr):Expr:=match e with
 |.ListComp _ [g] _ _=>g.iter
 |_=>gK
theorem CM{st:St}{e:Expr}{v:V}{vs:List V}(hc:KE e=an)(h:ay P st n sc σ e=some v)(hi:kD st v=some vs):g7 P st (n+1) sc σ e=some vs:=by rcases e with _|_|_|_|_|_|_|_|_|_|_|_|_|_|_|_|_|_|_|_|_|_|_|_|_|_|_<;>first|exact ck h hi|exact bB (show aj=an from hc)
theorem wD{P:pD}{n:Nat}{sc:Sc}{σ:Sg}{st:St}{l:Nat}{R:List (Nat×gz)}{e it:Expr}{s:jm}{q1 q2 q3 q4 p:Pos}{kk:Nat}(hR:gu st l R)(he:e=.ListComp (.Subscript (.Name (aJ "entry") q1) (.Constant (.int ((0:Nat):Int)) kk q2) q3) [⟨.Name (aJ "entry") q4,it,[],0⟩] s p)(lJ:qy sc s (aJ "entry")=aj)(O0:s.names.lookup (aJ "entry")=some .local)(h0:(eO oQ σ).isNone=aj)
  (hi:g7 P st (n+3) sc σ it=some (R.map λp=>.loc p.1)):ay P st (n+4) sc σ e=some (.lst ((bR R).map iv)):=by
 refine fK he lJ h0 hi ?_;rw[jx (g:=λv=>iv (E1 st v))]
 ·unfold bR;refine am bF (am bF ?_);refine congrArg some (dN λq hq=>?_);show iv (E1 st (.loc q.1))=iv q.2.n;exact am (nj (hR.ent q hq)) rfl
 ·intro v hv;refine cW (bw.mp hv) λq hq fC=>?_;subst fC;have hn:∀n,ay P st (n+1) s.names ((aJ "entry",.loc q.1)::σ) (.Name (aJ "entry") q1)=some (.loc q.1):=λn=>by exact sY (by decide) O0 (aP rfl)
  have e1:ay P st (n+3) s.names ((aJ "entry",.loc q.1)::σ) (.Subscript (.Name (aJ "entry") q1) (.Constant (.int ((0:Nat):Int)) kk q2) q3)=some (iv q.2.n):=
   cL rfl rfl (hn _) rfl (kO (hR.ent q hq) rfl)
  show(eZ (some aj) λok=>if ok=aj then(ay P st (n+3) s.names ((aJ "entry",.loc q.1)::σ) _).map some else some ah)=_;refine am e1 (am (nj (hR.ent q hq)) ?_);rfl
theorem F3{st:St}{D:List Nat}:jy st .NotEq (.lst (D.map iv)) (.lst [])=some (!D.isEmpty):=by
 have e:jy st .NotEq (.lst (D.map iv)) (.lst [])=(match(D.map iv).mapM (dO st 7)|>.map xj,some (xj [])with
  |some x,some y=>if bJ x&&bJ y then some (bQ x y)else af
  |_,_=>af).map not:=by lia
 have e2:(D.map iv).mapM (dO st 7)=some (D.map λn:Nat=>eP (n:Int)):=by
  induction D with
  |nil=>rfl
  |cons a r ih=>refine am aY ?_;refine am bj ?_;refine am (ih (by lia)) ?_;rfl
 refine am e ?_;refine am e2 ?_;show(if bJ (.list (D.map λn:Nat=>eP (n:Int)))&&bJ (.list [])then some (bQ (.list (D.map λn:Nat=>eP (n:Int))) (.list []))else ah).map not=_;rw[ki,show bJ (.list [])=aj by simp[bJ,fj,cV,cg,dG,dv],aP (by decide)];cases D<;>rfl
section
variable{ds:List Nat}{hs:List bS}{a d:Nat}{o:Bool}{x2 x3 x4 x5 x6 x7 x8 x9 ew eU:V}{h w t k p:Nat}{R:List (Nat×gz)}{aH:List dh}
theorem t1(ha:a<7){vs:List V}:bY PR st 78 (bp 29) (rs ds hs (iv a::x2::x3::x4::tl o [x5,x6,x7,x8,x9,ew,eU])) (jo (fb 1))=some aj:=by refine dt rfl rfl (a:=iv a) (b:=.int 7) (by cases o<;>lia) (by lia) ?_;show some (decide ((a:Int)<7))=_;exact am (aU (o51 ha)) rfl
theorem t1n(ha:7<=a):bY PR st 78 (bp 29) (rs ds hs (iv a::x2::x3::x4::tl o [x5,x6,x7,x8,x9,ew,eU])) (jo (fb 1))=some an:=by refine dt rfl rfl (a:=iv a) (b:=.int 7) (by cases o<;>lia) (by lia) ?_;show some (decide ((a:Int)<7))=_;exact am (aW (o52 ha)) rfl
noncomputable def tk(e:Expr)(k:Nat):Expr:=match e with
 |.Tuple es _ _=>es.getD k gK
 |_=>gK
theorem k0(hd:ds[a]?=some d):bi PR 77 (bp 29) (rs ds hs (iv a::x2::x3::x4::tl o [x5,x6,x7,x8,x9,ew,eU])) st (fc 0)=some (.next,rs ds hs (iv a::iv (d%3)::x3::iv (d/144)::iv (d/3%4)::iv (d/12%12)::tl o [x7,x8,x9,ew,eU]),st):=by
 have K2:(ds.map iv)[a]?=some (iv d):=by refine am (cm) (am hd ?_);rfl
 have QK:∀n q1 q2 q3,ay PR st (n+2) (bp 29) (rs ds hs (iv a::x2::x3::x4::tl o [x5,x6,x7,x8,x9,ew,eU])) (.Subscript (.Name (aJ "deeds") q1) (.Name (aJ "act") q2) q3)=some (iv d):=λn q1 q2 q3=>
  cL rfl rfl (a:=.lst (ds.map iv)) (b:=iv a) (by cases o<;>lia) (by cases o<;>lia) (j6 K2)
 have UH:fw PR 76 (bp 29) (rs ds hs (iv a::x2::x3::x4::tl o [x5,x6,x7,x8,x9,ew,eU])) 76 st (iR (fc 0))=some (.tup [iv (d%3),iv (d/3%4),iv (d/12%12),iv (d/144)],st):=
  CK (es:=[tk (iR (fc 0)) 0,tk (iR (fc 0)) 1,tk (iR (fc 0)) 2,tk (iR (fc 0)) 3]) rfl (by simp) (fE (by lia) (iQ (by lia) (bn rfl (b:=iv 3) (QK _ _ _ _) (by lia) (qe (by decide)))) (fE (by lia) (iQ (by lia) (bn rfl (b:=iv 4) (bn rfl (b:=iv 3) (QK _ _ _ _) (by lia) (xG (by decide) (by decide))) (by lia) (qe (by decide))))
   (fE (by lia) (iQ (by lia) (bn rfl (b:=iv 12) (bn rfl (b:=iv 12) (QK _ _ _ _) (by lia) (xG (by decide) (by decide))) (by lia) (qe (by decide)))) (fE (by lia) (iQ (by lia) (bn rfl (b:=iv 144) (QK _ _ _ _) (by lia) (xG (by decide) (by decide)))) uo))))
 exact sV rfl rfl rfl UH (by cases o<;>lia)
theorem xT(h3:st[3]?=some [.loc 0,.loc 1,.loc 2])(hh:h<3){q1 q2 q3:Pos}{σ:Sg}(he:e=.Subscript (.Name (aJ "rows") q1) (.Name (aJ "hand") q2) q3)(e1:∀n,ay PR st (n+1) (bp 29) σ (.Name (aJ "rows") q1)=some (.loc 3))(e2:∀n,ay PR st (n+1) (bp 29) σ (.Name (aJ "hand") q2)=some (iv h)):ay PR st (n+2) (bp 29) σ e=some (.loc h):=by refine cL he rfl (e1 _) (e2 _) (kO h3 ?_);have:h=0\/h=1\/h=2:=V8 hh;rcases this with rfl|rfl|rfl<;>rfl
theorem k1(h3:st[3]?=some [.loc 0,.loc 1,.loc 2])(hh:h<3)(hR:gu st h R):bi PR 76 (bp 29) (rs ds hs (iv a::iv h::x3::x4::x5::x6::tl o [x7,x8,x9,ew,eU])) st (fc 1)=some (.next,rs ds hs (iv a::iv h::x3::x4::x5::x6::.lst ((bR R).map iv)::tl o [x8,x9,ew,eU]),st):=by have e:ay PR st 73 (bp 29) (rs ds hs (iv a::iv h::x3::x4::x5::x6::tl o [x7,x8,x9,ew,eU])) (pJ (iR (fc 1)))=some (.loc h):=xT (n:=71) h3 hh rfl (λn=>by cases o<;>lia) (λn=>by cases o<;>lia);have hit:=CM (n:=73) (e:=pJ (iR (fc 1))) (by lia) e (vs:=R.map λp:Nat×gz=>V.loc p.1) hR.row;exact(yQ rfl (by lia) (wD (n:=71) hR rfl (by lia) (by lia) (by cases o<;>lia) hit)).trans (by cases o<;>lia)
end
theorem n7{st:St}(h:eF st v=some vs)(hn:∀x,v≠.str x)(MX:∀i,v≠.int i)(hn3:∀i,v≠.cY i):fk st (aJ "len") [v]=some (iv vs.length):=by
 have:fk st (aJ "len") [v]=match eF st v with
  |some vs=>some (.int vs.length)
  |none=>ah:=by
  cases v<;>first|(exact bV rfl (hn _))|(exact bV rfl (MX _))|(exact bV rfl (hn3 _))|lia
 refine am this (am h ?_);rfl
theorem vH{σ:Sg}{st:St}{e a:Expr}{p p':Pos}(he:e=.Call (.Name (aJ "range") p) [a] [] p')(hs:sc.lookup (aJ "range")=some .globalImplicit)(h:ay P st n sc σ a=some (iv k))(hk:k<=1000):g7 P st (n+1) sc σ e=some ((ba k).map iv):=by
 subst he;have q:g7 P st (n+1) sc σ (.Call (.Name (aJ "range") p) [a] [] p')=if sc.lookup (aJ "range")=some .globalImplicit then(ay P st n sc σ a).bind λv=>match v with
  |.int k=>if 0<=k/\k<=1000 then some (oq k.toNat)else ah
  |_=>ah else ah:=by lia
 exact q.trans ((aP hs).trans (ck h (aP (c:=0<=(k:Int)/\(k:Int)<=1000) ⟨lV k,eR.mpr hk⟩)))
noncomputable def Dc(aH:List dh)(k:Nat):Nat:=(aH[k]?.map (·.p)).getD 0
noncomputable def hV(aH:List dh)(D:List Nat):List Nat:=(ba aH.length).filter λk=>decide (Dc aH k∈0::D)
noncomputable def vn:V->Nat
 |.int i=>i.toNat
 |_=>0
section
variable{ds:List Nat}{hs:List bS}{a d:Nat}{o:Bool}{x2 x3 x4 x5 x6 x7 x8 x9 ew eU:V}{h w t k p kd pk:Nat}{D L:List Nat}{aH:List dh}
theorem BE{e:Expr}{sc:Sc}{q1 q2 q3:Pos}{nm:aq}(h8:st[8]?=some (aH.map cF))(hm:aH[k]?=some m)(he:e=.Subscript (.Name (aJ "sent") q1) (.Name nm q2) q3)(e1:∀n,ay PR st (n+1) sc σ (.Name (aJ "sent") q1)=some (.loc 8))(e2:∀n,ay PR st (n+1) sc σ (.Name nm q2)=some (iv k)):ay PR st (n+2) sc σ e=some (cF m):=
 cL he rfl (e1 _) (e2 _) (kO h8 (by refine am (cm) (am hm ?_);rfl))
theorem zf(hD:D.length<=1000):eX .Add (.lst [.int 0]) (.lst (D.map iv))=some (.lst ((0::D).map iv)):=by show(if [V.int 0].length+(D.map iv).length<=16384 then some (V.lst ([V.int 0]++D.map iv))else ah)=_;refine am (aP (by simp;exact o57 hD)) ?_;rfl
theorem k2(h8:st[8]?=some (aH.map cF))(hl:aH.length<=100)(hD:D.length<=1000):bi PR 75 (bp 29) (rs ds hs (iv a::x2::x3::x4::x5::x6::.lst (D.map iv)::tl o [x8,x9,ew,eU])) st (fc 2)=some (.next,rs ds hs (iv a::x2::x3::x4::x5::x6::.lst (D.map iv)::.lst ((hV aH D).map iv)::tl o [x9,ew,eU]),st):=by
 have hlen:ay PR st 72 (bp 29) (rs ds hs (iv a::x2::x3::x4::x5::x6::.lst (D.map iv)::tl o [x8,x9,ew,eU])) (match pJ (iR (fc 2))with|.Call _ [x] _ _=>x|_=>gK)=some (iv aH.length):=by refine gh rfl (by decide) (by lia) (by lia) (by decide) (ce (by lia) (a:=.loc 8) (by cases o<;>lia) ci) ((n7 (v:=.loc 8) h8 (λx q=>by exact V.noConfusion q) (λx q=>by exact V.noConfusion q) (λx q=>by exact V.noConfusion q)).trans ?_);rw[aL]
 have hit:=vH (P:=PR) (n:=72) (e:=pJ (iR (fc 2))) rfl (by lia) hlen (o55 hl);have hc:ay PR st 74 (bp 29) (rs ds hs (iv a::x2::x3::x4::x5::x6::.lst (D.map iv)::tl o [x8,x9,ew,eU])) (iR (fc 2))=some (.lst ((hV aH D).map iv)):=by
  refine fK rfl (by lia) (by cases o<;>lia) hit ?_;rw[km (g:=id) (t:=λv=>decide (Dc aH (vn v)∈0::D))]
  ·unfold hV;rw[Qq,tP];rfl
  ·intro v hv;refine cW (bw.mp hv) λk hk fC=>?_;subst fC;have hk:=cA.mp hk;have hm:aH[k]?=some aH[k]:=aC hk;have hp:Dc aH k=aH[k].p:=by unfold Dc;refine am hm ?_;rfl
   have ht:gx PR st 73 (cN (iR (fc 2))) ((aJ "k",iv k)::rs ds hs (iv a::x2::x3::x4::x5::x6::.lst (D.map iv)::tl o [x8,x9,ew,eU])) (cI (iR (fc 2)))=some (decide (Dc aH (vn (iv k))∈0::D)):=by show bY PR st 72 (cN (iR (fc 2))) ((aJ "k",iv k)::rs ds hs (iv a::x2::x3::x4::x5::x6::.lst (D.map iv)::tl o [x8,x9,ew,eU])) ((cI (iR (fc 2))).headD gK)=_;refine dt rfl (by lia) (cL rfl rfl (BE h8 hm rfl (λn=>by cases o<;>lia) (λn=>by lia)) (b:=.int ((2:Nat):Int)) (by lia) (iJ (u:=iv aH[k].p) rfl)) (bn rfl (a:=.lst [.int 0]) (b:=.lst (D.map iv)) (by lia) (by cases o<;>lia) (zf hD)) ?_;show Gf st (iv aH[k].p) (.lst ((0::D).map iv))=_;refine am (yq (D:=0::D) rfl (λx q=>by cases q)) (jj hp ?_);rfl
   show(gx PR st 73 (cN (iR (fc 2))) _ (cI (iR (fc 2)))).bind (λok=>if ok=aj then(ay PR st 73 (cN (iR (fc 2))) ((aJ "k",iv k)::rs ds hs (iv a::x2::x3::x4::x5::x6::.lst (D.map iv)::tl o [x8,x9,ew,eU])) (cE (iR (fc 2)))).map some else some ah)=_;rw[ht,b6];by_cases hd:Dc aH (vn (iv k))∈0::D
   ·rw[aU hd,aP rfl,aP rfl];lia
   ·rw[aW hd];rfl
 exact(yQ rfl (by lia) hc).trans (by cases o<;>lia)
noncomputable def lY(kd pk:Nat)(L:List Nat)(n:Nat):Nat:=if kd=3/\L≠[]then L.getD (pk%L.length) 0 else n
theorem yH:jy st .Eq (iv a) (iv b)=some (decide (a=b)):=by show some ((a:Int)==(b:Int))=_;rw[pz];refine congrArg some ?_;rw[dm,cw,bH]
noncomputable def Wf(e:Expr)(k:Nat):Expr:=match e with
 |.IfExp t b o _=>[t,b,o].getD k gK
 |_=>gK
theorem k3(h8:st[8]?=some (aH.map cF)):bi PR 74 (bp 29) (rs ds hs (iv a::x2::x3::x4::iv kd::iv pk::x7::.lst (L.map iv)::tl o [x9,ew,eU])) st (fc 3)=some (.next,rs ds hs (iv a::x2::iv (lY kd pk L aH.length)::x4::iv kd::iv pk::x7::.lst (L.map iv)::tl o [x9,ew,eU]),st):=by
 have ht1:bY PR st 71 (bp 29) (rs ds hs (iv a::x2::x3::x4::iv kd::iv pk::x7::.lst (L.map iv)::tl o [x9,ew,eU])) (nG (Wf (iR (fc 3)) 0) 0)=some (decide (kd=3)):=
  dt rfl rfl (a:=iv kd) (b:=iv 3) (by cases o<;>lia) (by lia) yH
 have Wk:bY PR st 70 (bp 29) (rs ds hs (iv a::x2::x3::x4::iv kd::iv pk::x7::.lst (L.map iv)::tl o [x9,ew,eU])) (nG (Wf (iR (fc 3)) 0) 1)=some (!L.isEmpty):=
  dt rfl rfl (a:=.lst (L.map iv)) (b:=.lst []) (by cases o<;>lia) (by lia) F3
 have e:ay PR st 73 (bp 29) (rs ds hs (iv a::x2::x3::x4::iv kd::iv pk::x7::.lst (L.map iv)::tl o [x9,ew,eU])) (iR (fc 3))=some (iv (lY kd pk L aH.length)):=by
  have hlen:∀n,ay PR st (n+3) (bp 29) (rs ds hs (iv a::x2::x3::x4::iv kd::iv pk::x7::.lst (L.map iv)::tl o [x9,ew,eU])) (Wf (iR (fc 3)) 2)=some (iv aH.length):=λn=>by refine gh rfl (by decide) (by lia) (by lia) (by decide) (ce (by lia) (a:=.loc 8) (by cases o<;>lia) ci) ((n7 (v:=.loc 8) h8 (λx q=>by exact V.noConfusion q) (λx q=>by exact V.noConfusion q) (λx q=>by exact V.noConfusion q)).trans ?_);rw[aL]
  unfold lY;by_cases hk:kd=3
  ·by_cases hL:L=[]
   ·refine am (bg (λq=>q.2 hL)) ?_;refine oV (c:=an) rfl (gs rfl (ht1.trans (am (aU hk) rfl)) (kt rfl (Wk.trans (by refine am hL ?_;rfl)))) (hlen _)
   ·refine am (aP ⟨hk,hL⟩) ?_;have ve:L.length≠0:=λq=>hL (b4 q);have gE:pk%L.length<L.length:=bx _ (lS ve);refine oV (c:=aj) rfl (gs rfl (ht1.trans (am (aU hk) rfl)) (gs rfl (Wk.trans (by cases L<;>first|exact bV rfl hL|rfl)) rO)) ?_
    refine cL rfl rfl (a:=.lst (L.map iv)) (b:=iv (pk%L.length)) (by cases o<;>lia) (bn rfl (a:=iv pk) (b:=iv L.length) (by cases o<;>lia) (gh rfl (by decide) (by lia) (by lia) (by decide) (ce (by lia) (a:=.lst (L.map iv)) (by cases o<;>lia) ci) ((n7 rfl (λx q=>by exact V.noConfusion q) (λx q=>by exact V.noConfusion q) (λx q=>by exact V.noConfusion q)).trans (by rw[aL]))) (qe ve)) (j6 ?_);refine am (cm) (am (aC gE) (am (aI) (am (aC gE) ?_)));rfl
  ·refine am (bg (λq=>hk q.1)) (oV (c:=an) rfl (kt rfl (ht1.trans (am (aW hk) rfl))) (hlen _))
 exact(cQ rfl rfl rfl (iQ (by lia) (n:=73) (k:=72) e) (by cases o<;>lia)).trans (by cases o<;>lia)
end
noncomputable def xR(k:Nat):List Nat:=match k with
 |0=>[38]
 |1=>[60]
 |2=>[62]
 |3=>[34]
 |4=>[9]
 |5=>[13]
 |6=>[10]
 |_=>[]
noncomputable def jv(kd t:Nat):List Nat:=if kd=1 then [t%55296]else xR (t%8)++xR (t/8%8)
theorem ug(k:Nat):(xR k).length<=1:=by unfold xR;split<;>simp
theorem GN(k:Nat):nH (xR k):=by unfold xR;split<;>exact fq (by lia)
theorem EP(kd t:Nat):(jv kd t).length<=2:=by
 unfold jv;split
 ·simp
 ·have:=ug (t%8);have:=ug (t/8%8);refine am aE ?_;exact(dp _ _ 1 (.p V0 V1) (.k 2) (D1 V0 K1 (D1 V1 K1 .n)) rfl (by assumption) this)
theorem Hb(kd t:Nat):nH (jv kd t):=by
 unfold jv;split
 ·exact cT aah jc
 ·exact eD (GN _) (GN _)
theorem C9{st:St}{k:Nat}(hk:k<8):qd st Ms (iv k)=some (.str (mk (xR k))):=by refine iJ ?_;have:k=0\/k=1\/k=2\/k=3\/k=4\/k=5\/k=6\/k=7:=aag hk;rcases this with rfl|rfl|rfl|rfl|rfl|rfl|rfl|rfl<;>rfl
noncomputable def ko(e:gz):Nat:=match e.tS with
 |[_,.int c,_,_]=>c.toNat
 |_=>0
theorem CB{hs:List bS}{e:gz}(h:tJ hs e):e.tS[1]?=some (iv (ko e)):=by refine gN h λh' c x _ _ hv=>?_;unfold ko;refine am hv ?_;rfl
noncomputable def Vf(st:St)(v:V):V:=match v with
 |.loc a=>match st[a]?with
  |some (_::.lst vs::_)=>vs.getD 1 .none
  |_=>.none
 |_=>.none
noncomputable def gm(R:List (Nat×gz)):Nat:=1+(R.map λq=>ko q.2).foldl max 8
theorem Ko(D:List Nat):∀(n:Nat),(D.map λd:Nat=>(d:Int)).foldl max (n:Int)=((D.foldl max n:Nat):Int):=by
 induction D with
 |nil=>
  exact λn=>rfl
 |cons a r ih=>
  exact λn=>by rw[aY,fP,fP,<-ih];congr 1;exact aae
theorem NO{st:St}{D:List Nat}{n:Nat}:fk st (aJ "max") [.lst ((n::D).map iv)]=some (iv (D.foldl max n)):=by
 have h:∀vs:List V,fk st (aJ "max") [.lst vs]=(pP vs).bind λns=>match ns with
    |[]=>af
    |n::r=>some (.int (r.foldl max n)):=λvs=>by lia
 rw[h,uE,b6];show some (V.int ((D.map λd:Nat=>(d:Int)).foldl max (n:Int)))=_;rw[Ko];rfl
section
variable{ds:List Nat}{hs:List bS}{a d:Nat}{o:Bool}{x2 x3 x4 x5 x6 x7 x8 x9 ew eU:V}{h w t k p kd pk:Nat}{D L:List Nat}{aH:List dh}{R:List (Nat×gz)}
noncomputable def b8(ds:List Nat)(hs:List bS)(a h w t kd pk:Nat)(D:List Nat)(x8:V)(o:Bool)(l:List V):Sg:=rs ds hs (iv a::iv h::iv w::iv t::iv kd::iv pk::.lst (D.map iv)::x8::tl o l)
theorem HA{n:Nat}(h8:st[8]?=some (aH.map cF)){e:Expr}{q1 q2 q3:Pos}(he:e=.Call (.Name (aJ "len") q1) [.Name (aJ "sent") q2] [] q3):ay PR st (n+3) (bp 29) (b8 ds hs a h w t kd pk D x8 o [x9,ew,eU]) e=some (iv aH.length):=by refine gh he (by decide) (by lia) (by lia) (by decide) (ce (by lia) (a:=.loc 8) (by cases o<;>lia) ci) ((n7 (v:=.loc 8) h8 (λx q=>by exact V.noConfusion q) (λx q=>by exact V.noConfusion q) (λx q=>by exact V.noConfusion q)).trans ?_);rw[aL]
theorem WX{n:Nat}(h8:st[8]?=some (aH.map cF)){e:Expr}{q1 q2 q3 q4 q5:Pos}(he:e=.Compare (.Name (aJ "which") q4) [.Eq] [.Call (.Name (aJ "len") q1) [.Name (aJ "sent") q2] [] q3] q5):bY PR st (n+4) (bp 29) (b8 ds hs a h w t kd pk D x8 o [x9,ew,eU]) e=some (decide (w=aH.length)):=
 dt he rfl (a:=iv w) (by cases o<;>lia) (HA h8 rfl) yH
noncomputable def e41:cy:=(mr (fc 4)).getD 0 (.Pass default)
noncomputable def WC:cy:=(KG (fc 4)).getD 0 (.Pass default)
noncomputable def Be(k:Nat):cy:=(mr WC).getD k (.Pass default)
theorem t4(h8:st[8]?=some (aH.map cF)):bY PR st 72 (bp 29) (b8 ds hs a h w t kd pk D x8 o [x9,ew,eU]) (jo (fc 4))=some (decide (w=aH.length/\kd=2/\D≠[])):=by
 have h1:=WX (n:=67) (ds:=ds) (hs:=hs) (a:=a) (h:=h) (w:=w) (t:=t) (kd:=kd) (pk:=pk) (D:=D) (x8:=x8) (o:=o) (x9:=x9) (ew:=ew) (eU:=eU) h8 (e:=nG (jo (fc 4)) 0) rfl;have h2:bY PR st 70 (bp 29) (b8 ds hs a h w t kd pk D x8 o [x9,ew,eU]) (nG (jo (fc 4)) 1)=some (decide (kd=2)):=dt rfl rfl (a:=iv kd) (b:=iv 2) (by cases o<;>lia) (by lia) yH;have h3:bY PR st 69 (bp 29) (b8 ds hs a h w t kd pk D x8 o [x9,ew,eU]) (nG (jo (fc 4)) 2)=some (!D.isEmpty):=dt rfl rfl (a:=.lst (D.map iv)) (b:=.lst []) (by cases o<;>lia) (by lia) F3;by_cases hw:w=aH.length
 ·by_cases hk:kd=2
  ·by_cases hD:D=[]
   ·refine am (aW (λq=>q.2.2 hD)) ?_;exact gs rfl (h1.trans (am (aU hw) rfl)) (gs rfl (h2.trans (am (aU hk) rfl)) (kt rfl (h3.trans (by refine am hD ?_;rfl))))
   ·refine am (aU ⟨hw,hk,hD⟩) ?_;exact gs rfl (h1.trans (am (aU hw) rfl)) (gs rfl (h2.trans (am (aU hk) rfl)) (gs rfl (h3.trans (by cases D<;>first|exact bV rfl hD|rfl)) rO))
  ·exact am (aW (λq=>hk q.2.1)) (gs rfl (h1.trans (am (aU hw) rfl)) (kt rfl (h2.trans (am (aW hk) rfl))))
 ·exact am (aW (λq=>hw q.1)) (kt rfl (h1.trans (am (aW hw) rfl)))
theorem TJ(h8:st[8]?=some (aH.map cF))(hw:w≠aH.length):bi PR 73 (bp 29) (b8 ds hs a h w t kd pk D x8 o [x9,ew,eU]) st (fc 4)=some (.next,b8 ds hs a h w t kd pk D x8 o [x9,ew,eU],st):=by refine am (xd rfl ((t4 h8).trans (by rw[aW (λq=>hw q.1)]))) (am (bg (by decide)) (am (show KG (fc 4)=[WC] by lia) ?_));exact(aB (eG rfl ((WX (n:=66) h8 rfl).trans (am (aW hw) rfl)) rfl)).trans dY
theorem E7(h8:st[8]?=some (aH.map cF))(hl:aH.length<=100)(hw:w=aH.length)(hk:kd=2)(hD:D≠[]):bi PR 73 (bp 29) (b8 ds hs a h w t kd pk D x8 o [x9,ew,eU]) st (fc 4)=some (.next,b8 ds hs a h w t kd pk D x8 o [x9,ew,eU],st.set 8 (rW cF (aH++[(⟨h,0,D.getD (pk%D.length) 0,ah⟩:dh)]))):=by
 have ve:D.length≠0:=λq=>hD (b4 q);have gE:pk%D.length<D.length:=bx _ (lS ve);refine fJ rfl ((t4 h8).trans (am (aU ⟨hw,hk,hD⟩) rfl)) (am (show mr (fc 4)=[e41] by lia) ?_);refine(aB (sX (l:=8) (vs:=aH.map cF) (u:=.tup [iv h,.int 0,iv (D.getD (pk%D.length) 0),.none]) (m:=aJ "append") rfl rfl rfl (by lia) (by cases o<;>lia) h8 (by rw[aL];exact o97 hl) ?_)).trans (dY.trans ?_)
 ·refine sZ rfl (by simp) (ce (by lia) (a:=iv h) (by cases o<;>lia) (ce (by lia) (a:=.int 0) (by lia) (ce (by lia) ?_ (ce (by lia) (a:=.none) (by lia) ci))));refine cL rfl rfl (a:=.lst (D.map iv)) (b:=iv (pk%D.length)) (by cases o<;>lia) (bn rfl (a:=iv pk) (b:=iv D.length) (by cases o<;>lia) (gh rfl (by decide) (by lia) (by lia) (by decide) (ce (by lia) (a:=.lst (D.map iv)) (by cases o<;>lia) ci) ((n7 rfl (λx q=>by exact V.noConfusion q) (λx q=>by exact V.noConfusion q) (λx q=>by exact V.noConfusion q)).trans (by rw[aL]))) (qe ve)) (j6 ?_);refine am (cm) (am (aC gE) (am (aI) (am (aC gE) ?_)));rfl
 ·show some (Fl.next,_,st.set 8 (aH.map cF++[_]))=_;refine am d8 ?_;rfl
theorem Pz:mr WC=[Be 0,Be 1,Be 2]:=by lia
noncomputable def PP(ds:List Nat)(hs:List bS)(a h w t kd pk:Nat)(D:List Nat)(x8 x9:V)(o:Bool)(l:List V):Sg:=rs ds hs (iv a::iv h::iv w::iv t::iv kd::iv pk::.lst (D.map iv)::x8::x9::tl o l)
noncomputable def Vl(ds:List Nat)(hs:List bS)(a h w t kd pk:Nat)(D:List Nat)(x8 x9 ew:V)(o:Bool)(l:List V):Sg:=rs ds hs (iv a::iv h::iv w::iv t::iv kd::iv pk::.lst (D.map iv)::x8::x9::ew::tl o l)
theorem p1:bi PR 69 (bp 29) (b8 ds hs a h w t kd pk D x8 o [x9,ew,eU]) st (Be 0)=some (.next,PP ds hs a h w t kd pk D x8 (.str (mk (jv kd t))) o [ew,eU],st):=by
 have ht:bY PR st 67 (bp 29) (b8 ds hs a h w t kd pk D x8 o [x9,ew,eU]) (Wf (iR (Be 0)) 0)=some (decide (kd=1)):=dt rfl rfl (a:=iv kd) (b:=iv 1) (by cases o<;>lia) (by lia) yH;have e:ay PR st 68 (bp 29) (b8 ds hs a h w t kd pk D x8 o [x9,ew,eU]) (iR (Be 0))=some (.str (mk (jv kd t))):=by
  unfold jv;by_cases hk:kd=1
  ·refine am (aP hk) (oV (c:=aj) rfl (ht.trans (am (aU hk) rfl)) ?_);refine gh rfl (by decide) (by lia) (by lia) (by decide) (ce (by lia) (bn rfl (a:=iv t) (b:=iv 55296) (by cases o<;>lia) (by lia) (qe (by decide))) ci) ?_;have hv:fk st (aJ "chr") [iv (t%55296)]=if 0<=((t%55296:Nat):Int)/\((t%55296:Nat):Int)<=1114111 then some (.str ⟨#[((t%55296:Nat):Int).toNat]⟩)else ah:=by lia
   rw[hv,aP ⟨aad,aac⟩,Jp]
  ·refine am (bg hk) (oV (c:=an) rfl (ht.trans (am (aW hk) rfl)) ?_);have l1:=ug (t%8);have l2:=ug (t/8%8);refine bn rfl (a:=.str (mk (xR (t%8)))) (b:=.str (mk (xR (t/8%8)))) (cL rfl rfl (a:=Ms) (b:=iv (t%8)) (by cases o<;>lia) (vJ (by cases o<;>lia)) (C9 (bx _ (by decide)))) (cL rfl rfl (a:=Ms) (b:=iv (t/8%8)) (by cases o<;>lia) (tI (by cases o<;>lia)) (C9 (bx _ (by decide)))) (ej (by exact dp _ _ 1 (.p V0 V1) (.k 16777216) (D1 V0 K1 (D1 V1 K1 .n)) rfl l1 l2))
 exact(cQ rfl rfl rfl (iQ (by lia) (n:=68) (k:=67) e) (by cases o<;>lia)).trans (by cases o<;>lia)
theorem p2(h3:st[3]?=some [.loc 0,.loc 1,.loc 2])(hh:h<3)(hR:gu st h R)(ho:∀q∈R,tJ hs q.2)(hl:R.length<=1000):bi PR 68 (bp 29) (PP ds hs a h w t kd pk D x8 x9 o [ew,eU]) st (Be 1)=some (.next,Vl ds hs a h w t kd pk D x8 x9 (iv (gm R)) o [eU],st):=by
 have hc:ay PR st 63 (bp 29) (PP ds hs a h w t kd pk D x8 x9 o [ew,eU]) (match iR (Be 1)with|.BinOp _ _ (.Call _ [.BinOp _ _ c _] _ _) _=>c|_=>gK)=some (.lst ((R.map λq:Nat×gz=>ko q.2).map iv)):=by
  have e:ay PR st 61 (bp 29) (PP ds hs a h w t kd pk D x8 x9 o [ew,eU]) (pJ (match iR (Be 1)with|.BinOp _ _ (.Call _ [.BinOp _ _ c _] _ _) _=>c|_=>gK))=some (.loc h):=xT (n:=59) h3 hh rfl (λn=>by cases o<;>lia) (λn=>by cases o<;>lia);have hit:=CM (n:=61) (e:=pJ (match iR (Be 1)with|.BinOp _ _ (.Call _ [.BinOp _ _ c _] _ _) _=>c|_=>gK)) (by lia) e (vs:=R.map λp:Nat×gz=>V.loc p.1) hR.row;refine fK rfl (by lia) (by cases o<;>lia) hit ?_;rw[jx (g:=Vf st)]
  ·refine am bF (am bF ?_);refine congrArg some (dN λq hq=>?_);show Vf st (.loc q.1)=iv (ko q.2);unfold Vf;dsimp only;refine am (hR.ent q hq) ?_;have:=CB (ho q hq);show q.2.tS.getD 1 .none=_;refine am (aI) (am this ?_);rfl
  ·intro v hv;refine cW (bw.mp hv) λq hq fC=>?_;subst fC;have hv2:Vf st (.loc q.1)=iv (ko q.2):=by unfold Vf;dsimp only;refine am (hR.ent q hq) ?_;have:=CB (ho q hq);show q.2.tS.getD 1 .none=_;refine am (aI) (am this ?_);rfl
   have e1:ay PR st 62 (cN (match iR (Be 1)with|.BinOp _ _ (.Call _ [.BinOp _ _ c _] _ _) _=>c|_=>gK)) ((aJ "entry",.loc q.1)::PP ds hs a h w t kd pk D x8 x9 o [ew,eU]) (cE (match iR (Be 1)with|.BinOp _ _ (.Call _ [.BinOp _ _ c _] _ _) _=>c|_=>gK))=some (iv (ko q.2)):=
    cL rfl rfl (cL rfl rfl (a:=.loc q.1) (b:=.int ((1:Nat):Int)) (by lia) (by lia) (kO (hR.ent q hq) (u:=.lst q.2.tS) rfl)) (b:=.int ((1:Nat):Int)) (by lia) (j6 (CB (ho q hq)))
   show(eZ (some aj) λok=>if ok=aj then(ay PR st 62 (cN (match iR (Be 1)with|.BinOp _ _ (.Call _ [.BinOp _ _ c _] _ _) _=>c|_=>gK)) ((aJ "entry",.loc q.1)::PP ds hs a h w t kd pk D x8 x9 o [ew,eU]) (cE (match iR (Be 1)with|.BinOp _ _ (.Call _ [.BinOp _ _ c _] _ _) _=>c|_=>gK))).map some else some ah)=_;refine am e1 (am hv2 ?_);rfl
 have e:ay PR st 67 (bp 29) (PP ds hs a h w t kd pk D x8 x9 o [ew,eU]) (iR (Be 1))=some (iv (gm R)):=by refine bn rfl (a:=iv 1) (b:=iv ((R.map λq:Nat×gz=>ko q.2).foldl max 8)) (by lia) (gh rfl (by decide) (by lia) (by lia) (by decide) (ce (by lia) (bn rfl (a:=.lst [iv 8]) (b:=.lst ((R.map λq:Nat×gz=>ko q.2).map iv)) (by lia) hc (u:=.lst ((8::R.map λq:Nat×gz=>ko q.2).map iv)) ?_) ci) NO) rfl;show(if [iv 8].length+((R.map λq:Nat×gz=>ko q.2).map iv).length<=16384 then some (V.lst ([iv 8]++(R.map λq:Nat×gz=>ko q.2).map iv))else ah)=_;refine am (aP (by simp;exact o57 hl)) ?_;rfl
 exact(cQ rfl rfl rfl (iQ (by lia) (n:=67) (k:=66) e) (by cases o<;>lia)).trans (by cases o<;>lia)
theorem p3(h8:st[8]?=some (aH.map cF))(hl:aH.length<=100)(hD:D.length<=1000){c:Nat}{tx:List Nat}:bi PR 67 (bp 29) (Vl ds hs a h w t kd pk D x8 (.str (mk tx)) (iv c) o [eU]) st (Be 2)=some (.next,Vl ds hs a h w t kd pk D x8 (.str (mk tx)) (iv c) o [eU],st.set 8 (rW cF (aH++[(⟨h,c,(0::D).getD (pk%(D.length+1)) 0,some tx⟩:dh)]))):=by
 have gE:pk%(D.length+1)<(0::D).length:=bx _ (Jf _);refine(sX (l:=8) (vs:=aH.map cF) (u:=.tup [iv h,iv c,iv ((0::D).getD (pk%(D.length+1)) 0),.str (mk tx)]) (m:=aJ "append") rfl rfl rfl (by lia) (by cases o<;>lia) h8 (by rw[aL];exact o97 hl) ?_).trans ?_
 ·refine sZ rfl (by simp) (ce (by lia) (a:=iv h) (by cases o<;>lia) (ce (by lia) (a:=iv c) (by cases o<;>lia) (ce (by lia) ?_ (ce (by lia) (a:=.str (mk tx)) (by cases o<;>lia) ci))));refine cL rfl rfl (a:=.lst ((0::D).map iv)) (b:=iv (pk%(D.length+1))) (bn rfl (a:=.lst [.int 0]) (b:=.lst (D.map iv)) (by lia) (by cases o<;>lia) (zf hD)) (bn rfl (a:=iv pk) (b:=iv (D.length+1)) (by cases o<;>lia) (bn rfl (a:=iv D.length) (b:=iv 1) (gh rfl (by decide) (by lia) (by lia) (by decide) (ce (by lia) (a:=.lst (D.map iv)) (by cases o<;>lia) ci) ((n7 rfl (λx q=>by exact V.noConfusion q) (λx q=>by exact V.noConfusion q) (λx q=>by exact V.noConfusion q)).trans (by rw[aL]))) (by lia) rfl) (qe (L6 _))) (j6 ?_);refine am (cm) (am (aC gE) (am (aI) (am (aC gE) ?_)));rfl
 ·show some (Fl.next,_,st.set 8 (aH.map cF++[_]))=_;refine am d8 ?_;rfl
theorem Kz(h8:st[8]?=some (aH.map cF))(MU:aH.length<=100)(hD:D.length<=1000)(h3:st[3]?=some [.loc 0,.loc 1,.loc 2])(hh:h<3)(hR:gu st h R)(ho:∀q∈R,tJ hs q.2)(hl:R.length<=1000)(hw:w=aH.length)(hn:¬(kd=2/\D≠[])):
  bi PR 73 (bp 29) (b8 ds hs a h w t kd pk D x8 o [x9,ew,eU]) st (fc 4)=some (.next,Vl ds hs a h w t kd pk D x8 (.str (mk (jv kd t))) (iv (gm R)) o [eU],st.set 8 (rW cF (aH++[(⟨h,gm R,(0::D).getD (pk%(D.length+1)) 0,some (jv kd t)⟩:dh)]))):=by
 refine am (xd rfl ((t4 h8).trans (by rw[aW (λq=>hn q.2)]))) (am (bg (by decide)) (am (show KG (fc 4)=[WC] by lia) ?_));refine(aB (fJ rfl ((WX (n:=66) h8 rfl).trans (am (aU hw) rfl)) (out:=(.next,Vl ds hs a h w t kd pk D x8 (.str (mk (jv kd t))) (iv (gm R)) o [eU],st.set 8 (rW cF (aH++[(⟨h,gm R,(0::D).getD (pk%(D.length+1)) 0,some (jv kd t)⟩:dh)])))) ?_)).trans dY
 exact am Pz ((aB p1).trans ((aB (p2 h3 hh hR ho hl)).trans ((aB (p3 h8 MU hD)).trans dY)))
end
theorem Kh{st:St}{D:List Nat}:jy st .NotEq (.lst (D.map iv)) (.lst (D.map iv))=some an:=by
 have e:jy st .NotEq (.lst (D.map iv)) (.lst (D.map iv))=(match(D.map iv).mapM (dO st 7)|>.map xj,(D.map iv).mapM (dO st 7)|>.map xj with
  |some x,some y=>if bJ x&&bJ y then some (bQ x y)else af
  |_,_=>af).map not:=by lia
 have e2:∀D:List Nat,(D.map iv).mapM (dO st 7)=some (D.map λn:Nat=>eP (n:Int)):=λD=>by
  induction D with
  |nil=>rfl
  |cons a r ih=>refine am aY (am bj (am ih ?_));rfl
 rw[e,e2];show(if bJ (.list (D.map λn:Nat=>eP (n:Int)))&&bJ (.list (D.map λn:Nat=>eP (n:Int)))then some (bQ (.list (D.map λn:Nat=>eP (n:Int))) (.list (D.map λn:Nat=>eP (n:Int))))else ah).map not=_;rw[ki,aP (by decide),Jd _ (pb (ki D))];rfl
noncomputable def dR(aH:List dh)(H:List Nat):List dh:=((ba aH.length).filter λk=>decide (k∈H)).map λk=>aH.getD k ⟨0,0,0,ah⟩
section
variable{ds:List Nat}{hs:List bS}{a d:Nat}{o:Bool}{x2 x3 x4 x5 x6 x7 x8 x9 ew eU:V}{h w t k p kd pk:Nat}{D L H:List Nat}{aH:List dh}{R:List (Nat×gz)}{m:dh}
noncomputable def z0(ds:List Nat)(hs:List bS)(a h w t:Nat)(x5 x6 x7 x8 x9 ew:V)(o:Bool)(eU:V):Sg:=rs ds hs (iv a::iv h::iv w::iv t::x5::x6::x7::x8::x9::ew::tl o [eU])
noncomputable def z1(ds:List Nat)(hs:List bS)(a h w t:Nat)(x5 x6 x7 x8 x9 ew eU:V):Sg:=rs ds hs [iv a,iv h,iv w,iv t,x5,x6,x7,x8,x9,ew,eU]
theorem vg{n:Nat}(h7:st[7]?=some [.loc 4,.loc 5,.loc 6])(hh:h<3){e:Expr}{q1 q2 q3:Pos}{σ:Sg}{sc:Sc}(he:e=.Subscript (.Name (aJ "heard") q1) (.Name (aJ "hand") q2) q3)(e1:∀n,ay PR st (n+1) sc σ (.Name (aJ "heard") q1)=some (.loc 7))(e2:∀n,ay PR st (n+1) sc σ (.Name (aJ "hand") q2)=some (iv h)):ay PR st (n+2) sc σ e=some (.loc (4+h)):=by refine cL he rfl (e1 _) (e2 _) (kO h7 ?_);have:h=0\/h=1\/h=2:=V8 hh;rcases this with rfl|rfl|rfl<;>rfl
theorem Rx(ha:a<7):bY PR st 77 (bp 29) (z0 ds hs a h w t x5 x6 x7 x8 x9 ew o eU) (jo (fb 2))=some aj:=by refine uq rfl (dt (e:=nG (jo (fb 2)) 0) rfl rfl (a:=iv a) (b:=.int 7) (by cases o<;>lia) (by lia) ?_);show some (decide ((a:Int)<7))=_;exact am (aU (o51 ha)) rfl
theorem Ry(ha:7<=a)(h7:st[7]?=some [.loc 4,.loc 5,.loc 6])(h8:st[8]?=some (aH.map cF))(hh:h<3)(hH:st[4+h]?=some (H.map iv)):bY PR st 77 (bp 29) (z0 ds hs a h w t x5 x6 x7 x8 x9 ew o eU) (jo (fb 2))=some (decide (w<aH.length/\w∉H)):=by
 have h1:bY PR st 76 (bp 29) (z0 ds hs a h w t x5 x6 x7 x8 x9 ew o eU) (nG (jo (fb 2)) 0)=some an:=by refine dt rfl rfl (a:=iv a) (b:=.int 7) (by cases o<;>lia) (by lia) ?_;show some (decide ((a:Int)<7))=_;exact am (aW (o52 ha)) rfl
 have h2:bY PR st 74 (bp 29) (z0 ds hs a h w t x5 x6 x7 x8 x9 ew o eU) (nG (nG (jo (fb 2)) 1) 0)=some (decide (w<aH.length)):=by refine dt rfl rfl (a:=iv w) (b:=iv aH.length) (by cases o<;>lia) (gh rfl (by decide) (by lia) (by lia) (by decide) (ce (by lia) (a:=.loc 8) (by cases o<;>lia) ci) ((n7 (v:=.loc 8) h8 (λx q=>by exact V.noConfusion q) (λx q=>by exact V.noConfusion q) (λx q=>by exact V.noConfusion q)).trans (by rw[aL]))) ?_;show some (decide ((w:Int)<(aH.length:Int)))=_;refine congrArg some ?_;rw[dm,bH,bH];exact ab2
 have h3:bY PR st 73 (bp 29) (z0 ds hs a h w t x5 x6 x7 x8 x9 ew o eU) (nG (nG (jo (fb 2)) 1) 1)=some (!decide (w∈H)):=by refine dt rfl rfl (a:=iv w) (b:=.loc (4+h)) (by cases o<;>lia) (vg h7 hh rfl (λn=>by cases o<;>lia) (λn=>by cases o<;>lia)) ?_;show(Gf st (iv w) (.loc (4+h))).map not=_;refine am (yq (o:=.loc (4+h)) hH (λx q=>by cases q)) ?_;rfl
 have hand:bY PR st 75 (bp 29) (z0 ds hs a h w t x5 x6 x7 x8 x9 ew o eU) (nG (jo (fb 2)) 1)=some (decide (w<aH.length/\w∉H)):=by
  by_cases hw:w<aH.length
  ·by_cases hm:w∈H
   ·refine am (aW (λq=>q.2 hm)) ?_;exact gs rfl (h2.trans (am (aU hw) rfl)) (kt rfl (h3.trans (by refine am (aU hm) ?_;rfl)))
   ·refine am (aU ⟨hw,hm⟩) ?_;exact gs rfl (h2.trans (am (aU hw) rfl)) (gs rfl (h3.trans (by refine am (aW hm) ?_;rfl)) rO)
  ·refine am (aW (λq=>hw q.1)) ?_;exact kt rfl (h2.trans (am (aW hw) rfl))
 refine j9 rfl h1 ?_;cases hd:decide (w<aH.length/\w∉H)with
 |true=>exact uq rfl (hand.trans (am hd rfl))
 |false=>exact j9 rfl (hand.trans (am hd rfl)) ur
theorem d0(h7:st[7]?=some [.loc 4,.loc 5,.loc 6])(hh:h<3)(hH:st[4+h]?=some (H.map iv))(hl:H.length<=1000):bi PR 76 (bp 29) (z0 ds hs a h w t x5 x6 x7 x8 x9 ew o eU) st (fd 0)=some (.next,z0 ds hs a h w t x5 x6 x7 x8 x9 ew o eU,st.set (4+h) ((H++[w]).map iv)):=by refine(sX (l:=4+h) (vs:=H.map iv) (u:=iv w) (m:=aJ "append") rfl rfl (by lia) (by lia) (vg h7 hh rfl (λn=>by cases o<;>lia) (λn=>by cases o<;>lia)) hH (by rw[aL];exact o0 hl) (by cases o<;>lia)).trans ?_;refine am d8 ?_;rfl
theorem a1(h3:st[3]?=some [.loc 0,.loc 1,.loc 2])(h8:st[8]?=some (aH.map cF))(hh:h<3)(hm:aH[w]?=some m):b3 PR st 70 (bp 29) (z0 ds hs a h w t x5 x6 x7 x8 x9 ew o eU) (ix (iR (fd 1)))=some (UA h m hs t):=
 ce (by lia) (xT h3 hh rfl (λn=>by cases o<;>lia) (λn=>by cases o<;>lia)) (ce (by lia) (BE h8 hm rfl (λn=>by cases o<;>lia) (λn=>by cases o<;>lia)) (ce (by lia) (a:=.lst (hs.map dx)) (by cases o<;>lia) (ce (by lia) (a:=iv t) (by cases o<;>lia) ci)))
theorem Ch(h8:st[8]?=some (aH.map cF))(MU:aH.length<=100)(h7:st[7]?=some [.loc 4,.loc 5,.loc 6])(hh:h<3)(hH:st[4+h]?=some (H.map iv)):ay PR st 70 (bp 29) (z1 ds hs a h w t x5 x6 x7 x8 x9 ew eU) ((ix (oR (nG (jo (fd 2)) 1))).headD gK)=some (.lst ((dR aH H).map cF)):=by
 have hlen:ay PR st 68 (bp 29) (z1 ds hs a h w t x5 x6 x7 x8 x9 ew eU) (match pJ ((ix (oR (nG (jo (fd 2)) 1))).headD gK)with|.Call _ [x] _ _=>x|_=>gK)=some (iv aH.length):=by refine gh rfl (by decide) (by lia) (by lia) (by decide) (ce (by lia) (a:=.loc 8) (by lia) ci) ((n7 (v:=.loc 8) h8 (λx q=>by exact V.noConfusion q) (λx q=>by exact V.noConfusion q) (λx q=>by exact V.noConfusion q)).trans ?_);rw[aL]
 have hit:=vH (P:=PR) (n:=68) (e:=pJ ((ix (oR (nG (jo (fd 2)) 1))).headD gK)) rfl (by lia) hlen (o55 MU);refine fK rfl (by lia) (by lia) hit ?_;rw[km (g:=λv=>cF (aH.getD (vn v) ⟨0,0,0,ah⟩)) (t:=λv=>decide (vn v∈H))]
 ·unfold dR;rw[Qq,bF,bF];rfl
 ·intro v hv;refine cW (bw.mp hv) λk hk fC=>?_;subst fC;have hk:=cA.mp hk;have hm:aH[k]?=some aH[k]:=aC hk;have ht:gx PR st 69 (cN ((ix (oR (nG (jo (fd 2)) 1))).headD gK)) ((aJ "k",iv k)::z1 ds hs a h w t x5 x6 x7 x8 x9 ew eU) (cI ((ix (oR (nG (jo (fd 2)) 1))).headD gK))=some (decide (vn (iv k)∈H)):=by show bY PR st 68 (cN ((ix (oR (nG (jo (fd 2)) 1))).headD gK)) ((aJ "k",iv k)::z1 ds hs a h w t x5 x6 x7 x8 x9 ew eU) ((cI ((ix (oR (nG (jo (fd 2)) 1))).headD gK)).headD gK)=_;exact dt rfl (by lia) (a:=iv k) (b:=.loc (4+h)) (by lia) (vg h7 hh rfl (λn=>by lia) (λn=>by lia)) (yq (o:=.loc (4+h)) hH (λx q=>by exact V.noConfusion q))
  show(gx PR st 69 (cN ((ix (oR (nG (jo (fd 2)) 1))).headD gK)) _ (cI ((ix (oR (nG (jo (fd 2)) 1))).headD gK))).bind (λok=>if ok=aj then(ay PR st 69 (cN ((ix (oR (nG (jo (fd 2)) 1))).headD gK)) ((aJ "k",iv k)::z1 ds hs a h w t x5 x6 x7 x8 x9 ew eU) (cE ((ix (oR (nG (jo (fd 2)) 1))).headD gK))).map some else some ah)=_;rw[ht,b6];have e1:ay PR st 69 (cN ((ix (oR (nG (jo (fd 2)) 1))).headD gK)) ((aJ "k",iv k)::z1 ds hs a h w t x5 x6 x7 x8 x9 ew eU) (cE ((ix (oR (nG (jo (fd 2)) 1))).headD gK))=some (cF aH[k]):=BE (n:=67) h8 hm rfl (λn=>by lia) (λn=>by lia);by_cases hd:vn (iv k)∈H
  ·rw[aU hd,aP rfl,aP rfl,e1];show some (some (cF aH[k]))=some (some (cF (aH.getD k _)));refine am (aI) ?_;refine am hm ?_;rfl
  ·rw[aW hd];rfl
theorem d2(h3:st[3]?=some [.loc 0,.loc 1,.loc 2])(h8:st[8]?=some (aH.map cF))(MU:aH.length<=100)(h7:st[7]?=some [.loc 4,.loc 5,.loc 6])(hh:h<3)(hH:st[4+h]?=some (H.map iv))(hR:gu st h R)
  (adz:rg 27 gL [.lst ((dR aH H).map cF)]=some (.lst ((bR R).map iv))):bi PR 74 (bp 29) (z1 ds hs a h w t x5 x6 x7 x8 x9 ew (.bool aj)) st (fd 2)=some (.next,z1 ds hs a h w t x5 x6 x7 x8 x9 ew (.bool aj),st):=by
 have hl:ay PR st 71 (bp 29) (z1 ds hs a h w t x5 x6 x7 x8 x9 ew (.bool aj)) (CC (nG (jo (fd 2)) 1))=some (.lst ((bR R).map iv)):=by have e:ay PR st 69 (bp 29) (z1 ds hs a h w t x5 x6 x7 x8 x9 ew (.bool aj)) (pJ (CC (nG (jo (fd 2)) 1)))=some (.loc h):=xT (n:=67) h3 hh rfl (λn=>by lia) (λn=>by lia);have hit:=CM (n:=69) (e:=pJ (CC (nG (jo (fd 2)) 1))) (by lia) e (vs:=R.map λp:Nat×gz=>V.loc p.1) hR.row;exact wD (n:=67) hR rfl (by lia) (by lia) (by lia) hit
 have hr:ay PR st 71 (bp 29) (z1 ds hs a h w t x5 x6 x7 x8 x9 ew (.bool aj)) (oR (nG (jo (fd 2)) 1))=some (.lst ((bR R).map iv)):=
  j2 (z:=185) rfl (by decide) (by lia) (by lia) (ce (n:=69) (by lia) (Ch h8 MU h7 hh hH) ci) adz
 refine eG rfl ?_ rfl;exact j9 (m:=72) (a:=nG (jo (fd 2)) 0) rfl (by lia) (j9 (m:=71) (a:=nG (jo (fd 2)) 1) rfl (dt rfl rfl hl hr Kh) ur)
end
section
variable{P R:List Nat}
theorem mJ(h:e.2=0\/e.2∈P):ez (P++R) e=ez P e++R:=by
 unfold ez;by_cases h0:e.2=0
 ·refine am (aP h0) (am (aP h0) ?_);rfl
 ·have hp:=h.resolve_left h0;have hi:=uc.mpr hp;refine am (bg h0) (am (bg h0) (am Jk (am (aP hp) (am (List.take_append_of_le_length (o98 hi)) (am (ND (o98 hi)) ?_)))));simp
theorem fA(h0:e.2≠0)(h:e.2∉P):ez (P++R) e=P++ez R e:=by unfold ez;rw[bg h0,bg h0,Jk,bg h,show R.idxOf e.2+P.length+1=P.length+(R.idxOf e.2+1) by exact ZO,List.take_length_add_append,List.drop_length_add_append];simp
theorem lr:a∈ez D e↔a=e.1\/a∈D:=by
 unfold ez;split
 ·rw[ax]
 ·rw[bU,ax];constructor
  ·rintro (h|h|h)
   ·exact .inr (iD h)
   ·exact .inl h
   ·exact .inr (ff h)
  ·rintro (h|h)
   ·exact .inr (.inl h)
   ·rw[<-ajC (D.idxOf e.2+1) D,bU]at h;exact h.elim .inl λh=>.inr (.inr h)
theorem wT(h0:e.2≠0):∀b∈(ez D e).head?,b=e.1/\D=[]\/b∈D.head?:=by
 unfold ez;refine am (bg h0) ?_
 cases D with
 |nil=>intro b hb;simp at hb;exact .inl ⟨hb.symm,rfl⟩
 |cons d D=>intro b hb;simp at hb;exact .inr (by simp[hb])
theorem zJ:∀{D:List Nat},p∈D->∃A B,D=A++p::B/\p∉A
 |d::D,h=>by
  by_cases e:p=d
  ·exact jp ([]) D (by refine am e ?_;rfl) (by simp)
  ·refine iw (zJ ((ax.mp h).resolve_left e)) λA B h1 h2=>?_;exact jp (d::A) B (by refine am h1 ?_;rfl) (by simp[e,h2])
structure wk(n p:Nat)(D D':List Nat)(Pf G Bk:List Nat):Prop where
 d:D=Pf++(G++Bk)
 d':D'=Pf++(G++n::Bk)
 pf:(p=0/\Pf=[])\/(p≠0/\∃A,Pf=A++[p]/\p∉A)
 g:∀a∈G,n<a
 b:∀a∈Bk.head?,a<n
 nn:n∉D
theorem wk.step(t:wk n p D D' Pf G Bk)(hy:n<y.1)(Wn:p<n)(hq:y.2=0\/y.2∈D):∃Vt G' Vz,wk n p (ez D y) (ez D' y) Vt G' Vz:=by
 obtain⟨rfl,rfl,Wp,hg,hb,hn⟩:=t;have jq:n∉ez (Pf++(G++Bk)) y:=λh=>by
  rcases lr.mp h with h|h
  ·exact o33 hy h
  ·exact hn h
 have hyn:y.2≠n\/y.2=0:=hq.elim .inr λh=>.inl λe=>hn (e▸h);have Wt:∀a∈y.1::G,n<a:=λa ha=>(ax.mp ha).elim (λe=>e▸hy) (hg a);rcases Wp with⟨Ag,rfl⟩|⟨Ag,A,rfl,hA⟩
 ·--p=0
  by_cases h0:y.2=0
  ·refine⟨[],y.1::G,Bk,?_,?_,.inl ⟨Ag,rfl⟩,Wt,hb,jq⟩
   ·unfold ez;refine am (aP h0) ?_;rfl
   ·unfold ez;refine am (aP h0) ?_;rfl
  ·have hm:y.2∈G\/y.2∈Bk:=bU.mp (by simpa using hq.resolve_left h0);by_cases hG:y.2∈G
   ·refine⟨[],ez G y,Bk,?_,?_,.inl ⟨Ag,rfl⟩,λa ha=>(lr.mp ha).elim (λe=>e▸hy) (hg a),hb,jq⟩
    ·exact mJ (.inr hG)
    ·exact mJ (.inr hG)
   ·have hB:=hm.resolve_left hG;refine⟨[],G,ez Bk y,?_,?_,.inl ⟨Ag,rfl⟩,hg,λa ha=>?_,jq⟩
    ·exact fA h0 hG
    ·show ez (G++n::Bk) y=G++n::ez Bk y;refine am (fA h0 hG) (am (show n::Bk=[n]++Bk from rfl) (am (fA h0 (by simp;exact hyn.resolve_right h0)) ?_));rfl
    ·rcases wT h0 a ha with⟨_,e⟩|h
     ·rw[e]at hB;cases hB
     ·exact hb a h
 ·by_cases hA':y.2=0\/y.2∈A
  ·have hyp:y.1≠p:=by exact λq=>kg _ _ _ (D1 (S1 V0) V1 (D1 (S1 V1) V2 (D1 V2 V0 .n))) rfl Wn hy (ac q)
   have e:∀X,ez ((A++[p])++X) y=(ez A y++[p])++X:=λX=>by rw[br,mJ hA',br]
   refine⟨ez A y++[p],G,Bk,e _,e _,.inr ⟨Ag,_,rfl,λh=>?_⟩,hg,hb,jq⟩;rcases lr.mp h with h|h
   ·exact(kg _ _ _ (D1 (S1 V0) V1 (D1 (S1 V2) V0 (D1 V1 V2 .n))) rfl hy Wn (ac h.symm))
   ·exact hA h
  ·have h0:y.2≠0:=λe=>hA' (.inl e);have hAn:y.2∉A:=λe=>hA' (.inr e);by_cases KQ:y.2=p
   ·have e:∀X,ez ((A++[p])++X) y=(A++[p])++(y.1::X):=λX=>by
     rw[br,fA h0 hAn];show A++ez (p::X) y=_;have:ez (p::X) y=p::y.1::X:=by unfold ez;refine am (bg h0) (am KQ (am A4 ?_));rfl
     refine am this ?_;simp
    exact⟨A++[p],y.1::G,Bk,e _,e _,.inr ⟨Ag,A,rfl,hA⟩,Wt,hb,jq⟩
   ·have QM:y.2∉A++[p]:=by simp[hAn,KQ]
    have hm:y.2∈G\/y.2∈Bk:=by
     have:=hq.resolve_left h0;simp only[bU]at this QM;rcases this with h|h
     ·exact bV h QM
     ·exact h
    by_cases hG:y.2∈G
    ·refine⟨A++[p],ez G y,Bk,?_,?_,.inr ⟨Ag,A,rfl,hA⟩,λa ha=>(lr.mp ha).elim (λe=>e▸hy) (hg a),hb,jq⟩
     ·exact am (fA h0 QM) (am (mJ (.inr hG)) rfl)
     ·exact am (fA h0 QM) (am (mJ (.inr hG)) rfl)
    ·have hB:=hm.resolve_left hG;refine⟨A++[p],G,ez Bk y,?_,?_,.inr ⟨Ag,A,rfl,hA⟩,hg,λa ha=>?_,jq⟩
     ·exact am (fA h0 QM) (am (fA h0 hG) rfl)
     ·refine am (fA h0 QM) (am (fA h0 hG) (am (show n::Bk=[n]++Bk from rfl) (am (fA h0 (by simp;exact hyn.resolve_right h0)) ?_)));rfl
     ·rcases wT h0 a ha with⟨_,e⟩|h
      ·rw[e]at hB;cases hB
      ·exact hb a h
theorem wk.fold(Wn:p<n)(ys:List (Nat×Nat)):∀(D D' Pf G Bk:List Nat),wk n p D D' Pf G Bk->(∀y∈ys,n<y.1)->F0 ys D->∃Vt G' Vz,wk n p (ys.foldl ez D) (ys.foldl ez D') Vt G' Vz:=by
 induction ys with
 |nil=>
  exact λD D' Pf G Bk t _ _=>⟨Pf,G,Bk,t⟩
 |cons y ys ih=>
  exact λD D' Pf G Bk t hy hf=>by exact wf (t.step (hy y (.head _)) Wn hf.1) λVt G' Vz t'=>ih _ _ _ _ _ t' (λz hz=>hy z (.tail _ hz)) hf.2
theorem wk.place(t:wk n p D D' Pf G Bk):D'=D.take (A9 D n p)++n::D.drop (A9 D n p):=by
 obtain⟨rfl,rfl,Wp,hg,hb,hn⟩:=t;have M0:fD (Pf++(G++Bk)) p=Pf.length:=by
  unfold fD;rcases Wp with⟨h0,rfl⟩|⟨h0,A,rfl,hA⟩
  ·refine am (aP h0) ?_;rfl
  ·rw[bg h0,br,Jk,bg hA];show 1+((p::(G++Bk)).idxOf p+A.length)=_;refine am A4 (am aE ?_);simp;exact ZN
 have Aj:(G++Bk).findIdx (λd=>decide (d<n))=G.length:=by
  clear Wp hn M0
  induction G with
  |nil=>
   cases Bk with
   |nil=>rfl
   |cons b Bk=>
    have:=hb b rfl;show List.findIdx _ (b::Bk)=0;refine am Jm (am (aU this) ?_);rfl
  |cons a G ih=>
   have:=hg a (.head _);refine am Ma (am Jm (am (aW (by exact λq=>dF _ _ (D1 (S1 V0) V1 (D1 (S1 V1) V0 .n)) rfl this q)) (am (ih λb hb=>hg b (.tail _ hb)) ?_)));rfl
 have nS:A9 (Pf++(G++Bk)) n p=(Pf++G).length:=by unfold A9;exact am M0 (am (xm rfl) (am Aj (am aE rfl)))
 refine am nS (am (show Pf++(G++Bk)=(Pf++G)++Bk by simp) (am (akL rfl) (am (xm rfl) ?_)));simp
theorem Bp(hD:∀a∈D,a<n)(hp:p=0\/p∈D)(hn:n∉D):∃Pf G Bk,wk n p D (ez D (n,p)) Pf G Bk:=by
 by_cases h0:p=0
 ·refine⟨[],[],D,rfl,?_,.inl ⟨h0,rfl⟩,(λa h=>by cases h),λa h=>hD a (ajE h),hn⟩;unfold ez;refine am (aP h0) ?_;rfl
 ·refine iw (zJ (hp.resolve_left h0)) λA B fC hA=>?_;subst fC;refine⟨A++[p],[],B,by simp,?_,.inr ⟨h0,A,rfl,hA⟩,(λa h=>by cases h),λa h=>hD a (eI _ (.tail _ (ajE h))),hn⟩;refine am (fA (e:=(n,p)) h0 hA) ?_;have:ez (p::B) (n,p)=p::n::B:=by unfold ez;refine am (bg h0) (am A4 ?_);rfl
  refine am this ?_;simp
end
section
theorem u4:∀{l:List (Nat×Nat)},a∈nR x l↔a=x\/a∈l
 |[]=>by simp[nR]
 |y::r=>by
  rw[nR];split
  ·simp
  ·rw[ax,u4,ax];constructor
   ·rintro (h|h|h)
    ·exact .inr (.inl h)
    ·exact .inl h
    ·exact .inr (.inr h)
   ·rintro (h|h|h)
    ·exact .inr (.inl h)
    ·exact .inl h
    ·exact .inr (.inr h)
theorem gk:∀{l:List (Nat×Nat)},a∈g9 l↔a∈l
 |[]=>Iff.rfl
 |x::r=>by show a∈nR x (g9 r)↔_;rw[u4,gk,ax]
noncomputable abbrev Up(l:List (Nat×Nat)):Prop:=l.Pairwise λa b=>a.1<b.1
theorem Dm:∀{l:List (Nat×Nat)},Up l->(∀y∈l,y.1≠x.1)->Up (nR x l)
 |[],_,_=>by simp[nR,Up]
 |y::r,h,hn=>by
  have h':=cJ.mp h;rw[nR];split
  ·next hx=>
   refine cJ.mpr ⟨λa ha=>?_,h⟩;rcases ax.mp ha with rfl|ha
   ·exact hx
   ·exact jr hx (h'.1 a ha)
  ·next hx=>
   refine cJ.mpr ⟨λa ha=>?_,Dm h'.2 λz hz=>hn z (.tail _ hz)⟩;rcases u4.mp ha with rfl|ha
   ·have:=hn y (.head _);exact Yd this hx
   ·exact h'.1 a ha
theorem mD:∀{l:List (Nat×Nat)},(l.map (·.1)).Nodup->Up (g9 l)
 |[],_=>.nil
 |x::r,h=>by rw[aY,lN]at h;refine Dm (mD h.2) λy hy e=>h.1 ?_;have hy:y∈r:=gk.mp hy;exact e▸b7 hy
theorem F1:∀{l l':List (Nat×Nat)},Up l->Up l'->(∀a,a∈l↔a∈l')->l=l'
 |[],[],_,_,_=>rfl
 |[],b::r',_,_,h=>bV ((h b).mpr (.head _)) (by simp)
 |a::r,[],_,_,h=>bV ((h a).mp (.head _)) (by simp)
 |a::r,b::r',h1,h2,h=>by
  have k1:=cJ.mp h1;have k2:=cJ.mp h2;have e:a=b:=by
   rcases ax.mp ((h a).mp (.head _))with e|ha
   ·exact e
   ·rcases ax.mp ((h b).mpr (.head _))with e|hb
    ·exact e.symm
    ·have:=k1.1 b hb;have:=k2.1 a ha;exact(Yc (by assumption) this).elim
  subst e;refine congrArg _ (F1 k1.2 k2.2 λx=>⟨λhx=>?_,λhx=>?_⟩)
  ·rcases ax.mp ((h x).mp (.tail _ hx))with e|q
   ·subst e;exact bV (k1.1 x hx) (gj _)
   ·exact q
  ·rcases ax.mp ((h x).mpr (.tail _ hx))with e|q
   ·subst e;exact bV (k2.1 x hx) (gj _)
   ·exact q
theorem Gq:∀{l:List (Nat×Nat)},Up l->(∀a∈l,a.1≠n)->∃A B,l=A++B/\(∀a∈A,a.1<n)/\∀b∈B,n<b.1
 |[],_,_=>⟨[],[],rfl,(λa h=>by cases h),λa h=>by cases h⟩
 |a::r,h,hn=>by
  have h':=cJ.mp h;by_cases ha:a.1<n
  ·refine c3 (Gq h'.2 λb hb=>hn b (.tail _ hb)) λA B e h1 h2=>?_;exact iM (a::A) B (by refine am e ?_;rfl) (λb hb=>(ax.mp hb).elim (λe=>e▸ha) (h1 b)) h2
  ·have:=hn a (.head _);exact iM ([]) (a::r) rfl (λa h=>by cases h) (λb hb=>by
    rcases ax.mp hb with rfl|hb
    ·exact Yb this ha
    ·have:=h'.1 b hb;exact(fM _ _ _ 1 (S1 V2) V1 (D1 (S1 V0) V1 (D1 V2 V0 .n)) rfl this (ak ha)))
variable{A B E E':List (Nat×Nat)}
theorem NQ(h:Up (A++B))(hA:∀a∈A,a.1<x.1)(hB:∀b∈B,x.1<b.1):Up (A++x::B):=by
 have h':=ajT.mp h;refine ajT.mpr ⟨h'.1,cJ.mpr ⟨hB,h'.2.1⟩,λa ha b hb=>?_⟩;rcases ax.mp hb with rfl|hb
 ·exact hA a ha
 ·exact h'.2.2 a ha b hb
theorem u5:∀{l:List (Nat×Nat)} {D:List Nat},a∈l.foldl ez D↔a∈D\/a∈l.map (·.1)
 |[],D=>by simp
 |e::r,D=>by
  rw[fP,u5,lr,aY,ax];constructor
  ·rintro ((h|h)|h)
   ·exact .inr (.inl h)
   ·exact .inl h
   ·exact .inr (.inr h)
  ·rintro (h|h|h)
   ·exact .inl (.inr h)
   ·exact .inl (.inl h)
   ·exact .inr h
noncomputable def CO(E:List (Nat×Nat)):Prop:=∀e∈E,e.2=0\/∃e'∈E,e'.1=e.2/\e'.1<e.1
theorem Pu(l:List (Nat×Nat)):∀(D:List Nat),Up l->(∀e∈l,e.2=0\/e.2∈D\/∃e'∈l,e'.1=e.2/\e'.1<e.1)->F0 l D:=by
 induction l with
 |nil=>
  exact λ_ _ _=>trivial
 |cons e r ih=>
  exact λD h hc=>by
   have h':=cJ.mp h;refine⟨?_,ih _ h'.2 λx hx=>?_⟩
   ·rcases hc e (.head _)with q|q|⟨e',h1,h2,h3⟩
    ·exact .inl q
    ·exact .inr q
    ·rcases ax.mp h1 with rfl|h1
     ·exact X' h3
     ·have:=h'.1 e' h1;exact X9 h3 this
   ·rcases hc x (.tail _ hx)with q|q|⟨e',h1,h2,h3⟩
    ·exact .inl q
    ·exact .inr (.inl (lr.mpr (.inr q)))
    ·rcases ax.mp h1 with rfl|h1
     ·exact .inr (.inl (lr.mpr (.inl h2.symm)))
     ·exact .inr (.inr ⟨e',h1,h2,h3⟩)
theorem Au(hn:(E.map (·.1)).Nodup)(hc:CO E):F0 (g9 E) []:=
 Pu _ _ (mD hn) λe he=>(hc e (gk.mp he)).elim .inl λqz=>cW qz λe' h1 h2=>.inr (.inr ⟨e',gk.mpr h1,h2⟩)
theorem Lg(A:List (Nat×Nat)):∀(B:List (Nat×Nat)) (D:List Nat),F0 (A++B) D↔F0 A D/\F0 B (A.foldl ez D):=by
 induction A with
 |nil=>
  exact λB D=>by simp[F0]
 |cons a A ih=>
  exact λB D=>by show(_/\F0 (A++B) _)↔(_/\F0 A _)/\_;rw[ih B];exact and_assoc.symm
theorem Lr(hn:(E.map (·.1)).Nodup)(jq:(E'.map (·.1)).Nodup)(hc:CO E)(hm:∀a,a∈E'↔a=x\/a∈E)(hx:∀e∈E,e.1≠x.1)(hp:x.2=0\/∃e∈E,e.1=x.2/\e.1<x.1)(h0:0<x.1):
  (g9 E').foldl ez []=((g9 E).foldl ez []).take (A9 ((g9 E).foldl ez []) x.1 x.2)++x.1::((g9 E).foldl ez []).drop (A9 ((g9 E).foldl ez []) x.1 x.2):=by
 have hu:=mD hn;refine c3 (Gq (n:=x.1) hu λa ha=>hx a (gk.mp ha)) λA B e hA hB=>?_;have e':g9 E'=A++x::B:=by
  refine F1 (mD jq) (NQ (e▸hu) hA hB) λa=>?_;rw[gk,hm];have:a∈E↔a∈A++B:=by rw[<-e,gk]
  rw[this,bU,bU,ax];constructor
  ·rintro (h|h|h)
   ·exact .inr (.inl h)
   ·exact .inl h
   ·exact .inr (.inr h)
  ·rintro (h|h|h)
   ·exact .inr (.inl h)
   ·exact .inl h
   ·exact .inr (.inr h)
 have Uy:=Au hn hc;rw[e,Lg]at Uy;have hmA:∀a,a∈A.foldl ez []↔a∈A.map (·.1):=λa=>by rw[u5];simp
 have gE:∀a∈A.foldl ez [],a<x.1:=λa ha=>by refine cW (bw.mp ((hmA a).mp ha)) λb hb fC=>?_;subst fC;exact hA b hb
 have hpx:x.2<x.1:=by
  rcases hp with h|⟨e1,_,h1,h2⟩
  ·exact(dp _ _ 1 (S1 V1) V0 (D1 (.p (.k 0) K1) V0 (D1 V1 (.k 0) .n)) rfl h0 (ac h))
  ·exact(fM _ _ _ 1 (S1 V2) V1 (D1 (S1 V0) V1 (D1 V2 V0 .n)) rfl h2 (ac h1.symm))
 have hpA:x.2=0\/x.2∈A.foldl ez []:=by
  rcases hp with h|⟨e1,h1,h2,h3⟩
  ·exact .inl h
  ·refine .inr ((hmA _).mpr ?_);have:e1∈A++B:=by rw[<-e,gk];exact h1
   rcases bU.mp this with q|q
   ·exact h2▸b7 q
   ·have:=hB e1 q;exact(X8 hpx this h2).elim
 refine wf (Bp gE hpA (λh=>gj _ (gE _ h))) λPf G Bk t=>wf (wk.fold hpx B _ _ _ _ _ t hB Uy.2) λVt G' Vz t'=>?_;refine am e' ?_;refine am e ?_;refine am Jl ?_;refine am Jl ?_;refine am fP ?_;exact t'.place
theorem AD(hn:(E.map (·.1)).Nodup)(jq:(E'.map (·.1)).Nodup)(hm:∀a,a∈E'↔a∈E):(g9 E').foldl ez []=(g9 E).foldl ez []:=by exact am (F1 (mD jq) (mD hn) λa=>by rw[gk,gk,hm]) rfl
end
noncomputable def V':dh:=⟨0,0,0,ah⟩
theorem mG:m∈dR aH H↔∃k,k∈H/\aH[k]?=some m:=by
 unfold dR;rw[bw];constructor
 ·rintro ⟨k,hk,rfl⟩;rw[eQ,cA,bH]at hk;exact jW k hk.2 (by rw[aI,aC hk.1];rfl)
 ·rintro ⟨k,hk,hm⟩;refine jW k ?_ (by refine am (aI) (am hm ?_);rfl);rw[eQ,cA,bH];exact⟨(aG.mp hm).1,hk⟩
noncomputable def ng(aH:List dh)(H:List Nat):List (Nat×Nat):=(ka (dR aH H)).map np
theorem iH:e∈ng aH H↔∃k m,k∈H/\aH[k]?=some m/\m.t.isSome=aj/\e=np m:=by
 unfold ng ka;rw[bw];constructor
 ·intro qz;refine cW qz λm hm fC=>?_;subst fC;rw[eQ]at hm;exact cW (mG.mp hm.1) λk hk h=>gM k m hk h hm.2 rfl
 ·intro qz;refine cU qz λk m hk h ht G6=>?_;subst G6;exact jW m (eQ.mpr ⟨mG.mpr ⟨k,hk,h⟩,ht⟩) rfl
noncomputable def Vq(aH:List dh):Prop:=∀(j k:Nat) (m m':dh),aH[j]?=some m->aH[k]?=some m'->m.t.isSome=aj->m'.t.isSome=aj->num m=num m'->j=k
theorem lZ(hu:Vq aH):((ng aH H).map (·.1)).Nodup:=by
 unfold ng ka dR;refine am Qq (am bF (am bF ?_));refine List.pairwise_map.mpr ?_;have KT:(((ba aH.length).filter λk=>decide (k∈H)).filter ((λm=>m.t.isSome)∘λk=>aH.getD k V')).Nodup:=(akB.filter _).filter _;refine List.Pairwise.imp_of_mem (λ{a b} ha hb M1 e=>M1 ?_) KT;rw[eQ,eQ,cA]at ha hb;have h1:aH[a]?=some (aH.getD a V'):=by refine am (aI) (am (aC ha.1.1) ?_);rfl
 have h2:aH[b]?=some (aH.getD b V'):=by refine am (aI) (am (aC hb.1.1) ?_);rfl
 exact hu a b _ _ h1 h2 ha.2 hb.2 e
theorem oP(aH:List dh)(H:List Nat):vz (dR aH H)=(g9 (ng aH H)).foldl ez []:=rfl
theorem Km:n∈vz (dR aH H)↔∃k m,k∈H/\aH[k]?=some m/\m.t.isSome=aj/\num m=n:=by
 rw[oP,u5,bw];constructor
 ·rintro (h|⟨e,he,rfl⟩)
  ·cases h
  ·refine cU (iH.mp (gk.mp he)) λk m h1 h2 h3 G6=>?_;subst G6;exact gM k m h1 h2 h3 rfl
 ·intro qz;refine cU qz λk m h1 h2 h3 G6=>?_;subst G6;exact .inr ⟨np m,gk.mpr (iH.mpr ⟨k,m,h1,h2,h3,rfl⟩),rfl⟩
theorem Cg(h:∀k∈H,k<aH.length):dR (aH++[m]) H=dR aH H:=by
 unfold dR;rw[aE,aS,cu,akM,List.filter_append];have:[aH.length].filter (λk=>decide (k∈H))=[]:=by refine am nX ?_;refine am (aW (λq=>gj _ (h _ q))) ?_;rfl
 rw[this,gJ];refine dN λk hk=>?_;rw[eQ,cA]at hk;refine am (aI) ?_;refine am (aI) ?_;refine am (cZ hk.1) ?_;rfl
theorem qf:mA (dR aH H) n=aj↔∃k m,k∈H/\aH[k]?=some m/\m.t=ah/\m.p=n:=by
 unfold mA;rw[vU];constructor
 ·intro qz;refine cW qz λm hm h=>?_;refine cW (mG.mp hm) λk hk e=>?_;rw[cj,cw,ti]at h;exact gM k m hk e h.1 h.2
 ·intro qz;refine cU qz λk m hk e h1 h2=>?_;refine jW m (mG.mpr ⟨k,hk,e⟩) ?_;rw[cj,cw,ti];exact⟨h1,h2⟩
structure mS(hs:List bS)(aH:List dh)(H:List Nat)(e:gz):Prop where
 ex:∃(k:Nat) (m:dh) (x:bS) (tl:List Nat),k∈H/\aH[k]?=some m/\m.t=some tl/\hs[m.h]?=some x/\e.n=num m/\e.tS=jL m.c x/\e.tx=wr x tl/\e.sh=(if mA (dR aH H) e.n=aj then 0 else x.sh)/\∃h t M,pE x.dQ e.sh m.c e.pt h t M
structure jK(hs:List bS)(st:St)(aH:List dh)(H:Nat->List Nat)(R:Nat->List (Nat×gz)):Prop where
 s3:st[3]?=some [.loc 0,.loc 1,.loc 2]
 s7:st[7]?=some [.loc 4,.loc 5,.loc 6]
 s8:st[8]?=some (aH.map cF)
 sH:∀i,i<3->st[4+i]?=some ((H i).map iv)
 sR:∀i,i<3->gu st i (R i)
 Jx:∀i,i<3->∀q∈R i,9<=q.1
 WD:∀i,i<3->∀j,j<3->i≠j->∀q∈R i,∀q'∈R j,q.1≠q'.1
 EG:aH.length<=7
 hlen:∀i,i<3->(H i).length<=100
 gE:∀i,i<3->∀k∈H i,k<aH.length
 mh:∀(k:Nat) (m:dh),aH[k]?=some m->m.h<3
 typ:∀(k:Nat) (m:dh),aH[k]?=some m->m.t.isSome=aj->9<=m.c/\m.c<=9+k/\(∀tl,m.t=some tl->tl.length<=2/\nH tl)/\(m.p=0\/m.p<num m)
 cnt:∀(k:Nat) (m:dh),aH[k]?=some m->m.c<=15
 Dc:∀(k:Nat) (m:dh),aH[k]?=some m->m.p=0\/∃(j:Nat) (m':dh),j<k/\aH[j]?=some m'/\m'.t.isSome=aj/\num m'=m.p
 RE:∀(k:Nat) (m:dh),aH[k]?=some m->m.t=ah->m.p≠0
 uniq:Vq aH
 pred:∀i,i<3->∀k∈H i,∀m,aH[k]?=some m->m.p=0\/∃(j:Nat) (m':dh),j∈H i/\aH[j]?=some m'/\m'.t.isSome=aj/\num m'=m.p
 Lu:∀i,i<3->bR (R i)=vz (dR aH (H i))
 ent:∀i,i<3->∀q∈R i,mS hs aH (H i) q.2
section
variable{hs:List bS}{aH:List dh}{H:Nat->List Nat}{R:Nat->List (Nat×gz)}{i:Nat}
theorem jK.IK(I:jK hs st aH H R)(hi:i<3):CO (ng aH (H i)):=λe he=>by
 refine cU (iH.mp he) λk m h1 h2 h3 G6=>?_;subst G6;rcases I.pred i hi k h1 m h2 with h|⟨j,m',h4,h5,h6,h7⟩
 ·exact .inl h
 ·by_cases h0:m.p=0
  ·exact .inl h0
  ·refine .inr ⟨np m',iH.mpr ⟨j,m',h4,h5,h6,rfl⟩,h7,?_⟩;have:=(I.typ k m h2 h3).2.2.2.resolve_left h0;show num m'<num m;exact o81 h7 this
theorem Gr(hh:m'.h<3)(h9:9<=m'.c)(hc:m'.c<=15)(h:num m'=p):p∈gC:=by unfold num at h;unfold gC;rw[ax,bw];refine .inr ⟨p-27,cA.mpr (aa0 h hc hh),aaZ h h9⟩
theorem jK.port(I:jK hs st aH H R){k:Nat}(hm:aH[k]?=some m):m.p∈gC:=by
 rcases I.Dc k m hm with h|⟨j,m',_,h2,h3,h4⟩
 ·refine am h ?_;exact eV
 ·have:=I.typ j m' h2 h3;exact Gr (I.mh j m' h2) this.1 (I.cnt j m' h2) h4
theorem jK.good(I:jK hs st aH H R)(hi:i<3):∀q∈R i,oW q.2:=λq hq=>by refine fQ ((I.ent i hi q hq).ex) λk m x tl _ h2 h3 _ _ _ _ _ h t M P=>?_;have:=I.typ k m h2 (by refine am h3 ?_;rfl);exact⟨x.dQ,m.c,h,t,M,this.1,I.cnt k m h2,P⟩
theorem jK.IA(I:jK hs st aH H R)(hi:i<3):∀q∈R i,tJ hs q.2:=λq hq=>by exact oO ((I.ent i hi q hq).ex) λk m x tl _ h2 h3 h4 h5 h6 _=>vc m.h m.c x h4 h5 h6
theorem jK.jA(I:jK hs st aH H R)(hi:i<3):n∈bR (R i)↔∃k m,k∈H i/\aH[k]?=some m/\m.t.isSome=aj/\num m=n:=by rw[I.Lu i hi,Km]
end
set_option tactic.hygienic true
noncomputable def uH{α:Type}(f:Nat->α)(i:Nat)(v:α):Nat->α:=λj=>if j=i then v else f j
theorem dP{α:Type}{f:Nat->α}{i:Nat}{v:α}:uH f i v i=v:=aP rfl
theorem gW{α:Type}{f:Nat->α}{i j:Nat}{v:α}(h:j≠i):uH f i v j=f j:=bg h
theorem gu.frame{st eJ:St}{l:Nat}{R:List (Nat×gz)}(hR:gu st l R)(h:eJ[l]?=st[l]?)(he:∀q∈R,eJ[q.1]?=st[q.1]?):gu eJ l R:=
 ⟨h.trans hR.row,λq hq=>(he q hq).trans (hR.ent q hq),hR.nd,hR.out⟩
section
variable{hs:List bS}{jt:St}{aH:List dh}{H:Nat->List Nat}{R:Nat->List (Nat×gz)}{i k:Nat}{m:dh}{R':List (Nat×gz)}
theorem jK.Tn(I:jK hs st aH H R):9<=st.length:=(aG.mp I.s8).1
theorem jK.GX(I:jK hs st aH H R)(hi:i<3){q:Nat×gz}(hq:q∈R i):q.1<st.length:=(aG.mp ((I.sR i hi).ent q hq)).1
noncomputable def oz(st:St)(H:Nat->List Nat)(i k:Nat):St:=st.set (4+i) ((H i++[k]).map iv)
theorem mE{j:Nat}(h:j≠4+i):(oz st H i k)[j]?=st[j]?:=by unfold oz;exact am (gw (λe=>h e.symm)) rfl
theorem jK.Ho(I:jK hs st aH H R)(hi:i<3):gu (oz st H i k) i (R i):=
 (I.sR i hi).frame (mE (by exact λq=>eM _ (D1 (.p (.k 4) V0) V0 .n) rfl (ac q.symm))) λq hq=>mE (by have:=I.Jx i hi q hq;exact S4 this hi)
theorem jK.after(I:jK hs st aH H R)(hi:i<3)(hm:aH[k]?=some m)(hp:m.p=0\/m.p∈bR (R i))(hl:(H i).length<100)(r1:gu jt i R')(r2:∀j,j≠i->j∉(R i).map (·.1)->j<st.length->jt[j]?=(oz st H i k)[j]?)
  (r3:∀q∈R',q.1∈(R i).map (·.1)\/q.1=st.length) (r4:bR R'=vz (dR aH (H i++[k]))) (r5:∀q∈R',mS hs aH (H i++[k]) q.2):jK hs jt aH (uH H i (H i++[k])) (uH R i R'):=by
 have h9:=I.Tn;have Jx:∀j,j<9->j∉(R i).map (·.1):=λj hj hq=>by refine cW (bw.mp hq) λq hq e=>?_;have:=I.Jx i hi q hq;exact(dF _ _ (D1 (.k 9) V0 (D1 V0 V1 (D1 (S1 V1) (.k 9) .n))) rfl this (ac e) hj)
 have keep:∀j,j≠i->j≠4+i->j<9->jt[j]?=st[j]?:=λj h1 h2 h3=>(r2 j h1 (Jx j h3) (by exact dp _ _ 1 (S1 V1) V0 (D1 (.k 9) V0 (D1 (S1 V1) (.k 9) .n)) rfl h9 h3)).trans (mE h2);refine⟨(keep 3 (by exact λq=>eM _ (D1 (S1 V0) (.k 3) (D1 (.k 3) V0 .n)) rfl hi (ac q)) o70 YN).trans I.s3,(keep 7 (by exact λq=>eM _ (D1 (S1 V0) (.k 3) (D1 (.k 7) V0 .n)) rfl hi (ac q)) (by exact λq=>eM _ (D1 (S1 V0) (.k 3) (D1 (.k 7) (.p (.k 4) V0) .n)) rfl hi (ac q)) YM).trans I.s7,(keep 8 (by exact λq=>eM _ (D1 (S1 V0) (.k 3) (D1 (.k 8) V0 .n)) rfl hi (ac q)) (o71 hi) YL).trans I.s8,λj hj=>?_,λj hj=>?_,λj hj q hq=>?_,λa ha b hb M1 q hq q' Bc=>?_,I.EG,λj hj=>?_,λj hj x hx=>?_,I.mh,I.typ,I.cnt,I.Dc,I.RE,I.uniq,λj hj x hx mx KU=>?_,λj hj=>?_,λj hj q hq=>?_⟩
 ·by_cases sL:j=i
  ·subst sL;refine am dP (am (r2 (4+j) (by exact λq=>eM _ (D1 (.p (.k 4) V0) V0 .n) rfl (ac q)) (Jx _ (S3 hj)) (SZ h9 hj)) ?_);unfold Mine.oz;exact am (gS (SZ h9 hj)) rfl
  ·refine am (gW sL) (am (keep (4+j) (by exact λq=>dF _ _ (D1 (S1 V0) (.k 3) (D1 (.p (.k 4) V1) V0 .n)) rfl hi (ac q)) (YK sL) (S3 hj)) ?_);exact I.sH j hj
 ·by_cases sL:j=i
  ·subst sL;refine am dP ?_;exact r1
  ·refine am (gW sL) ((I.sR j hj).frame (keep j sL (by exact λq=>dF _ _ (D1 (S1 V0) (.k 3) (D1 (.p (.k 4) V1) V0 .n)) rfl hj (ac q.symm)) (by exact dD _ 1 (S1 V0) (.k 9) (D1 (S1 V0) (.k 3) .n) rfl hj)) λq hq=>?_);have hq9:=I.Jx j hj q hq;refine(r2 q.1 (by exact λq=>dF _ _ (D1 (.k 9) V0 (D1 (S1 V1) (.k 3) (D1 V0 V1 .n))) rfl hq9 hi (ac q)) (λh=>?_) (I.GX hj hq)).trans (mE (S4 hq9 hi));exact cW (bw.mp h) λq' Bc e=>I.WD j hj i hi sL q hq q' Bc e.symm
 ·by_cases sL:j=i
  ·subst sL;replace hq:=dP▸hq;rcases r3 q hq with h|h
   ·refine cW (bw.mp h) λq' Bc e=>?_;have:=I.Jx j hj q' Bc;exact(dp _ _ 1 (.k 9) V1 (D1 (.k 9) V0 (D1 V0 V1 .n)) rfl this (ac e))
   ·exact(dp _ _ 1 (.k 9) V1 (D1 (.k 9) V0 (D1 V0 V1 .n)) rfl h9 (ac h.symm))
  ·replace hq:=(gW sL)▸hq;exact I.Jx j hj q hq
 ·have key:∀b,b<3->b≠i->∀q∈R',∀q'∈R b,q.1≠q'.1:=λb hb Wz q hq q' Bc e=>by
   rcases r3 q hq with h|h
   ·exact cW (bw.mp h) λq2 hq2 e2=>I.WD i hi b hb (λe=>Wz e.symm) q2 hq2 q' Bc (e2.trans e)
   ·have:=I.GX hb Bc;exact(kg _ _ _ (D1 (S1 V0) V1 (D1 V2 V0 (D1 V1 V2 .n))) rfl this (ac e) (ac h.symm))
  by_cases hai:a=i
  ·subst hai;replace hq:=dP▸hq;replace Bc:=(gW (λe=>M1 e.symm))▸Bc;exact key b hb (λe=>M1 e.symm) q hq q' Bc
  ·replace hq:=(gW hai)▸hq;by_cases Wz:b=i
   ·subst Wz;replace Bc:=dP▸Bc;exact λe=>key a ha hai q' Bc q hq e.symm
   ·replace Bc:=(gW Wz)▸Bc;exact I.WD a ha b hb M1 q hq q' Bc
 ·by_cases sL:j=i
  ·subst sL;refine am dP (am aE (am aS (am cu ?_)));exact(dD _ 1 (.p V0 (.p (.k 0) K1)) (.k 100) (D1 (S1 V0) (.k 100) .n) rfl hl)
  ·refine am (gW sL) ?_;exact I.hlen j hj
 ·by_cases sL:j=i
  ·subst sL;replace hx:=dP▸hx;rcases bU.mp hx with h|h
   ·exact I.gE j hj x h
   ·refine am (bh.mp h) ?_;exact(aG.mp hm).1
  ·replace hx:=(gW sL)▸hx;exact I.gE j hj x hx
 ·by_cases sL:j=i
  ·subst sL;rw[dP]at hx⊢;have FS:∀{p:Nat},(p=0\/∃(y:Nat) (m':dh),y∈H j/\aH[y]?=some m'/\m'.t.isSome=aj/\num m'=p)->(p=0\/∃(y:Nat) (m':dh),y∈H j++[k]/\aH[y]?=some m'/\m'.t.isSome=aj/\num m'=p):=λh=>h.imp id λqz=>iw qz λy m' h1 h2=>⟨y,m',d6 _ h1,h2⟩;rcases bU.mp hx with h|h
   ·exact FS (I.pred j hj x h mx KU)
   ·replace KU:=hm▸(bh.mp h)▸KU;have qq:=au KU;subst qq;exact FS (hp.imp id λh=>(I.jA hj).mp h)
  ·rw[gW sL]at hx⊢;exact I.pred j hj x hx mx KU
 ·by_cases sL:j=i
  ·subst sL;refine am dP (am dP ?_);exact r4
  ·refine am (gW sL) (am (gW sL) ?_);exact I.Lu j hj
 ·by_cases sL:j=i
  ·subst sL;rw[dP]at hq⊢;exact r5 q hq
  ·rw[gW sL]at hq⊢;exact I.ent j hj q hq
end
set_option tactic.hygienic false
theorem Ik(l:List (Nat×Nat)):∀(D:List Nat),(l.foldl ez D).length=D.length+l.length:=by
 induction l with
 |nil=>
  exact λD=>rfl
 |cons e r ih=>
  exact λD=>by rw[fP,ih,z9,aS];exact o8
theorem zX(x:Nat×Nat):∀l,(nR x l).length=l.length+1
 |[]=>rfl
 |y::r=>by
  rw[nR];split
  ·rfl
  ·exact am aS (am (zX x r) (am aS rfl))
theorem wM:∀l,(g9 l).length=l.length
 |[]=>rfl
 |x::r=>by show(nR x (g9 r)).length=_;rw[zX,wM r,aS]
theorem Ls:(vz (dR aH H)).length<=aH.length:=by rw[oP,Ik,wM];unfold ng ka dR;have h1:=jM (λm:dh=>m.t.isSome) (((ba aH.length).filter λk=>decide (k∈H)).map λk=>aH.getD k V');have h2:=jM (λk=>decide (k∈H)) (ba aH.length);rw[aL]at h1⊢;rw[gD]at h2;simp only[cu,iz];exact aM h1 h2
theorem qj(hm:aH[k]?=some m):e∈ng aH (H++[k])↔(m.t.isSome=aj/\e=np m)\/e∈ng aH H:=by
 rw[iH,iH];constructor
 ·intro qz;refine cU qz λj m' hj h1 h2 h3=>?_;rcases bU.mp hj with h|h
  ·exact .inr ⟨j,m',h,h1,h2,h3⟩
  ·replace h1:=hm▸(bh.mp h)▸h1;have qq:=au h1;subst qq;exact .inl ⟨h2,h3⟩
 ·rintro (⟨h2,h3⟩|⟨j,m',hj,h1,h2,h3⟩)
  ·exact gM k m (eI _ (.head _)) hm h2 h3
  ·exact gM j m' (d6 _ hj) h1 h2 h3
theorem so(hm:aH[k]?=some m):mA (dR aH (H++[k])) n=aj↔(m.t=ah/\m.p=n)\/mA (dR aH H) n=aj:=by
 rw[qf,qf];constructor
 ·intro qz;refine cU qz λj m' hj h1 h2 h3=>?_;rcases bU.mp hj with h|h
  ·exact .inr ⟨j,m',h,h1,h2,h3⟩
  ·replace h1:=hm▸(bh.mp h)▸h1;have qq:=au h1;subst qq;exact .inl ⟨h2,h3⟩
 ·rintro (⟨h2,h3⟩|⟨j,m',hj,h1,h2,h3⟩)
  ·exact gM k m (eI _ (.head _)) hm h2 h3
  ·exact gM j m' (d6 _ hj) h1 h2 h3
theorem zW(p:Nat)(R:List (Nat×gz)):bR (jz p R)=bR R:=by unfold bR jz;refine am bF (dN λq _=>?_);show(fI p q.2).n=q.2.n;unfold fI;split<;>rfl
theorem Hn(R:List (Nat×gz))(k:Nat)(q:Nat×gz):bR (vZ R k q)=(bR R).take k++q.2.n::(bR R).drop k:=by unfold bR vZ;exact am d8 (am aY (am ub (am nZ rfl)))
theorem mS.more(E:mS hs aH H e)(hm:aH[k]?=some m)(hn:¬(m.t=ah/\m.p=e.n)):mS hs aH (H++[k]) e:=by
 refine gen λGG fN=>?_;obtain⟨k0,m0,x,tl,h1,h2,h3,h4,h5,h6,h7,h8,h9⟩:=E.ex;refine fN ?_;refine⟨k0,m0,x,tl,d6 _ h1,h2,h3,h4,h5,h6,h7,?_,h9⟩;rw[h8];have:(mA (dR aH (H++[k])) e.n=aj)↔(mA (dR aH H) e.n=aj):=by rw[so hm];exact⟨λh=>h.resolve_left hn,.inr⟩
 by_cases hs:mA (dR aH H) e.n=aj
 ·exact am (aP hs) (am (aP (this.mpr hs)) rfl)
 ·exact am (bg hs) (am (bg (λh=>hs (this.mp h))) rfl)
section
variable{hs:List bS}{aH:List dh}{H:Nat->List Nat}{R:Nat->List (Nat×gz)}{i k T:Nat}{m:dh}
variable{K:ph}{w:bz}{r:Nat}
theorem jK.hand(I:jK hs st aH H R)(Hs:cH hs)(hm:aH[k]?=some m):∃x,hs[m.h]?=some x:=by have:=I.mh k m hm;exact⟨_,aC (by refine am Hs.len ?_;exact this)⟩
theorem jK.Oj(I:jK hs st aH H R)(hi:i<3):(R i).length<=7:=by have h1:=I.Lu i hi;have h2:=Ls (aH:=aH) (H:=H i);have h3:=I.EG;rw[<-h1]at h2;unfold bR at h2;rw[aL]at h2;exact Z9 h2 h3
theorem Fe(O:Wo K w ag mg mb)(Hs:cH hs)(I:jK hs st aH H R)(hi:i<3)(hm:aH[k]?=some m)(hp:m.p=0\/m.p∈bR (R i))(hl:(H i).length<100):
  ∃jt R',AX prog w ag (r+3) 180 (UA i m hs T) (oz st H i k) (.bool aj) jt/\jK hs jt aH (uH H i (H i++[k])) (uH R i R'):=by
 have hR:=I.Ho (k:=k) hi;have hlen:(oz st H i k).length=st.length:=by unfold oz;exact am pN rfl
 have Ub:=I.Oj hi;have HR:=I.port hm;have hn:=lZ (H:=H i) I.uniq;have jq:=lZ (H:=H i++[k]) I.uniq
 cases ht:m.t with
 |none=>
  refine w1 (Ak (r:=r) (prog:=prog) (hs:=hs) (T:=T) O (I.mh k m hm) HR ht hR (I.good hi) (by exact dD _ 1 (S1 V0) (.k 1000) (D1 V0 (.k 7) .n) rfl Ub)) λjt c r1 e1 e2=>jp jt (jz m.p (R i)) c (I.after hi hm hp hl r1 (λj _ h2 _=>e2 j h2) (λq hq=>.inl ?_) ?_ λq hq=>?_)
  ·rw[<-zy m.p (R i)];exact b7 hq
  ·rw[zW,I.Lu i hi,oP,oP];refine(AD hn jq λa=>?_).symm;rw[qj hm];exact⟨λh=>h.resolve_left (λq=>by replace q:=ht▸q;exact bB q.1),.inr⟩
  ·refine cW (bw.mp hq) λq0 hq0 fC=>?_;subst fC;have E:=I.ent i hi q0 hq0;show mS hs aH (H i++[k]) (fI m.p q0.2);unfold fI;by_cases he:q0.2.n=m.p
   ·refine am (aP he) (fQ E.ex λk0 m0 x tl h1 h2 h3 h4 h5 h6 h7 h8 h' t' M P=>?_);have hM:FZ q0.2.pt=M:=by unfold FZ;exact am P.QA rfl
    have h0:=I.typ k0 m0 h2 (by refine am h3 ?_;rfl);refine⟨k0,m0,x,tl,d6 _ h1,h2,h3,h4,h5,h6,h7,?_,.cY 0,.cY 0,M,?_⟩
    ·show 0=if mA (dR aH (H i++[k])) q0.2.n=aj then 0 else x.sh;exact am (aP ((so hm).mpr (.inl ⟨ht,he.symm⟩))) rfl
    ·show pE x.dQ 0 m0.c [FZ q0.2.pt,FZ q0.2.pt,FZ q0.2.pt] _ _ M;exact am hM (nh h0.1 (I.cnt k0 m0 h2) P.m)
   ·exact am (bg he) (E.more hm λq=>he q.2.symm)
 |some tl=>
  have Fb:m.t.isSome=aj:=by rw[ht];rfl
  refine wg (I.typ k m hm Fb) λh9 _ FW _=>eA (FW tl ht) λDx lJ=>?_;have hc:=I.cnt k m hm;refine eE (I.hand Hs hm) λx hx=>?_;have hnn:∀n,¬(m.t=ah/\m.p=n):=λn q=>by replace q:=ht▸q;exact bM q.1.symm
  by_cases sM:num m∈bR (R i)
  ·refine jp (oz st H i k) (R i) (HW O Hs hx HR ht Dx lJ h9 hc hR (I.IA hi) sM) (I.after hi hm hp hl hR (λ_ _ _ _=>rfl) (λq hq=>.inl (b7 hq)) ?_ λq hq=>(I.ent i hi q hq).more hm (hnn _));rw[I.Lu i hi,oP,oP];refine(AD hn jq λa=>?_).symm;rw[qj hm];refine⟨λh=>h.elim (λq=>?_) id,.inr⟩;refine cU ((I.jA hi).mp sM) λj m' h1 h2 h3 h4=>?_;have:=I.uniq j k m' m h2 hm h3 Fb h4;subst this;rw[hm]at h2;cases h2;exact iH.mpr ⟨j,m,h1,hm,Fb,q.2⟩
  ·refine w1 (HX (r:=r) (prog:=prog) (T:=T) O Hs hx HR ht Dx lJ h9 hc hR (I.IA hi) (VZ Ub) sM hp) λjt c r1 e1 e2=>?_;refine jp jt _ c (I.after hi hm hp hl r1 (λj h1 _ h3=>e2 j h1 (by refine am hlen ?_;exact h3)) (λq hq=>?_) ?_ λq hq=>?_)
   ·unfold vZ at hq;rcases bU.mp hq with h|h
    ·exact .inl (b7 (iD h))
    ·rcases ax.mp h with h|h
     ·refine am h ?_;refine am hlen ?_;exact .inr rfl
     ·exact .inl (b7 (ff h))
   ·rw[Hn,I.Lu i hi,oP,oP];have ve:0<num m:=by unfold num;exact(dp _ _ 1 (.p (.k 0) K1) (.p (.m 3 V0) V1) (D1 (.k 9) V0 .n) rfl h9)
    refine(Lr (x:=np m) hn jq (I.IK hi) (λa=>?_) (λe he q=>?_) ?_ ve).symm
    ·rw[qj hm];exact⟨λh=>h.imp (·.2) id,λh=>h.imp (λe=>⟨Fb,e⟩) id⟩
    ·refine cU (iH.mp he) λj m' h1 h2 h3 G6=>?_;subst G6;exact sM ((I.jA hi).mpr ⟨j,m',h1,h2,h3,q⟩)
    ·rcases hp with h|h
     ·exact .inl h
     ·refine cU ((I.jA hi).mp h) λj m' h1 h2 h3 h4=>?_;by_cases h0:m.p=0
      ·exact .inl h0
      ·refine .inr ⟨np m',iH.mpr ⟨j,m',h1,h2,h3,rfl⟩,h4,?_⟩;have:=(I.typ k m hm Fb).2.2.2.resolve_left h0;show num m'<num m;exact o81 h4 this
   ·have hold:∀q∈R i,mS hs aH (H i++[k]) q.2:=λq hq=>(I.ent i hi q hq).more hm (hnn _);unfold vZ at hq;rcases bU.mp hq with h|h
    ·exact hold q (iD h)
    ·rcases ax.mp h with h|h
     ·refine am h ?_;have Du:=aX hx;refine l7 (Dh (Hs.dQ x Du) (Hs.s1 x Du) (Hs.s4 x Du) h9 hc) λh' t' M P _=>⟨k,m,x,tl,eI _ (.head _),hm,ht,hx,rfl,rfl,rfl,?_,h',t',M,P⟩;show x.sh=if mA (dR aH (H i++[k])) (num m)=aj then 0 else x.sh;rw[bg];intro Ae;rcases(so hm).mp Ae with q|q
      ·exact hnn _ q
      ·refine cU (qf.mp q) λj m' h1 h2 h3 h4=>?_;rcases I.pred i hi j h1 m' h2 with e|⟨y,m2,h5,h6,h7,h8⟩
       ·exact I.RE j m' h2 h3 e
       ·exact sM ((I.jA hi).mpr ⟨y,m2,h5,h6,h7,h8.trans h4⟩)
     ·exact hold q (ff h)
end
theorem Kw(D:List Nat):∀(n:Nat),n<=D.foldl max n/\∀a∈D,a<=D.foldl max n:=by
 induction D with
 |nil=>
  exact λn=>⟨aD _,λa h=>by cases h⟩
 |cons b r ih=>
  exact λn=>by
   refine eA (ih (max n b)) λh1 h2=>am fP ?_;refine⟨aaQ h1,λa ha=>?_⟩;rcases ax.mp ha with rfl|ha
   ·exact aaP h1
   ·exact h2 a ha
theorem Lf(D:List Nat):∀(n B:Nat),n<=B->(∀a∈D,a<=B)->D.foldl max n<=B:=by
 induction D with
 |nil=>
  exact λn B h _=>h
 |cons b r ih=>
  exact λn B h hD=>by refine am fP ?_;exact ih _ B (by have:=hD b (.head _);exact o90 h this) λa ha=>hD a (.tail _ ha)
noncomputable def Qc(aH:List dh)(H:Nat->List Nat):Prop:=∀(k:Nat) (m:dh),aH[k]?=some m->k∈H m.h
structure I9(aH:List dh)(m:dh):Prop where
 h:m.h<3
 typ:m.t.isSome=aj->9<=m.c/\m.c<=9+aH.length/\(∀tl,m.t=some tl->tl.length<=2/\nH tl)/\(m.p=0\/m.p<num m)
 cnt:m.c<=15
 Dc:m.p=0\/∃(j:Nat) (m':dh),j<aH.length/\aH[j]?=some m'/\m'.t.isSome=aj/\num m'=m.p
 RE:m.t=ah->m.p≠0
 new:m.t.isSome=aj->∀(j:Nat) (m':dh),aH[j]?=some m'->m'.t.isSome=aj->num m'≠num m
theorem iU{aH:List dh}{m m':dh}{k:Nat}(h:(aH++[m])[k]?=some m'):(k<aH.length/\aH[k]?=some m')\/(k=aH.length/\m'=m):=by
 by_cases hk:k<aH.length
 ·replace h:=(cZ hk)▸h;exact .inl ⟨hk,h⟩
 ·replace h:=(d7 (o30 hk))▸h;have:k-aH.length=0:=by
   rcases rU (k-aH.length)with e|e
   ·exact e
   ·rw[ajF (by simp;exact aaO e)]at h;exact bM h
  rw[this]at h;cases h;exact .inr ⟨o54 this hk,rfl⟩
section
variable{hs:List bS}{aH:List dh}{H:Nat->List Nat}{R:Nat->List (Nat×gz)}{i k:Nat}{m:dh}
theorem qV{m':dh}(h:aH[k]?=some m'):(aH++[m])[k]?=some m':=by refine am (cZ (aG.mp h).1) ?_;exact h
theorem jK.send(I:jK hs st aH H R)(F:I9 aH m)(hl:aH.length<7):jK hs (st.set 8 (rW cF (aH++[m]))) (aH++[m]) H R:=by
 have h9:=I.Tn;have keep:∀j,j≠8->(st.set 8 (rW cF (aH++[m])))[j]?=st[j]?:=λj hj=>gw (λe=>hj e.symm);have hM:∀i,i<3->dR (aH++[m]) (H i)=dR aH (H i):=λi hi=>Cg (I.gE i hi);refine⟨(keep 3 (by decide)).trans I.s3,(keep 7 (by decide)).trans I.s7,gS (aaN h9),λj hj=>(keep _ (aaM hj)).trans (I.sH j hj),λj hj=>(I.sR j hj).frame (keep j (aaL hj)) λq hq=>keep _ (by have:=I.Jx j hj q hq;exact(λq=>eM _ (D1 (.k 9) V0 (D1 V0 (.k 8) .n)) rfl this (ac q))),I.Jx,I.WD,by simp;exact(dD _ 1 V0 (.k 6) (D1 (S1 V0) (.k 7) .n) rfl hl),I.hlen,λj hj x hx=>?_,λx mx h=>?_,λx mx h ht=>?_,λx mx h=>?_,λx mx h=>?_,λx mx h ht=>?_,λx y mx my hx hy h1 h2 e=>?_,λj hj x hx mx KU=>?_,λj hj=>?_,λj hj q hq=>?_⟩
 ·have:=I.gE j hj x hx;refine am aE ?_;exact(fM _ _ _ 1 (S1 V0) (.p V1 V2) (D1 (S1 V0) V1 .n) rfl this)
 ·rcases iU h with⟨_,h⟩|⟨_,rfl⟩
  ·exact I.mh x mx h
  ·exact F.h
 ·rcases iU h with⟨_,h⟩|⟨e,rfl⟩
  ·exact I.typ x mx h ht
  ·refine am e ?_;exact F.typ ht
 ·rcases iU h with⟨_,h⟩|⟨_,rfl⟩
  ·exact I.cnt x mx h
  ·exact F.cnt
 ·rcases iU h with⟨_,h⟩|⟨e,rfl⟩
  ·exact(I.Dc x mx h).imp id λqz=>c3 qz λj m' h1 h2 h3=>⟨j,m',h1,qV h2,h3⟩
  ·refine am e ?_;exact F.Dc.imp id λqz=>c3 qz λj m' h1 h2 h3=>⟨j,m',h1,qV h2,h3⟩
 ·rcases iU h with⟨_,h⟩|⟨_,rfl⟩
  ·exact I.RE x mx h ht
  ·exact F.RE ht
 ·rcases iU hx with⟨_,sJ⟩|⟨ex,e1⟩
  ·rcases iU hy with⟨_,HM⟩|⟨ey,e2⟩
   ·exact I.uniq x y mx my sJ HM h1 h2 e
   ·subst e2;exact bV e (F.new h2 x mx sJ h1)
  ·rcases iU hy with⟨_,HM⟩|⟨ey,e2⟩
   ·subst e1;exact bV e.symm (F.new h1 y my HM h2)
   ·exact aaJ ex ey
 ·have gE:=I.gE j hj x hx;rcases iU KU with⟨_,KU⟩|⟨e,_⟩
  ·exact(I.pred j hj x hx mx KU).imp id λqz=>c3 qz λy m' h1 h2 h3=>⟨y,m',h1,qV h2,h3⟩
  ·exact aaI gE e
 ·refine am (hM j hj) ?_;exact I.Lu j hj
 ·refine gen λGG fN=>?_;obtain⟨k0,m0,x,tl,h1,h2,h3,h4,h5,h6,h7,h8,h9⟩:=I.ent j hj q hq;refine fN ?_;exact⟨k0,m0,x,tl,h1,qV h2,h3,h4,h5,h6,h7,by refine am (hM j hj) ?_;exact h8,h9⟩
theorem jK.counts(I:jK hs st aH H R)(hi:i<3):∀q∈R i,∃k m,k∈H i/\aH[k]?=some m/\m.t.isSome=aj/\q.2.n=num m/\ko q.2=m.c:=λq hq=>by refine oO ((I.ent i hi q hq).ex) λk0 m0 x tl h1 h2 h3 h4 h5 h6 _=>?_;refine rA k0 m0 h1 h2 (by refine am h3 ?_;rfl) h5 ?_;unfold ko;refine am h6 ?_;rfl
theorem jK.As(I:jK hs st aH H R)(Ow:Qc aH H)(hi:i<3)(hl:aH.length<7){tl:List Nat}(h2:tl.length<=2)(lJ:nH tl){p:Nat}(hp:p=0\/p∈bR (R i)):I9 aH ⟨i,gm (R i),p,some tl⟩:=by
 have Uk:=Kw ((R i).map λq=>ko q.2) 8;have UF:=Lf ((R i).map λq=>ko q.2) 8 (8+aH.length) (by exact dD _ 1 (.k 8) (.p (.k 8) V0) .n rfl) (λa ha=>by refine cW (bw.mp ha) λq hq fC=>?_;subst fC;refine j8 (I.counts hi q hq) λk0 m0 h1 h2 h3 h4 h5=>?_;have:=(I.typ k0 m0 h2 h3).2.1;have:=(aG.mp h2).1;exact(tB _ _ _ _ 1 V0 (.p (.k 8) V3) (D1 V0 V1 (D1 V1 (.p (.k 9) V2) (D1 (S1 V2) V3 .n))) rfl (ac h5) (by assumption) this))
 have hle:∀n∈bR (R i),∃m0:dh,n=num m0/\m0.h<3/\m0.c<gm (R i):=λn hn=>by refine cW (bw.mp hn) λq hq fC=>?_;subst fC;refine j8 (I.counts hi q hq) λk0 m0 h1 h2 h3 h4 h5=>ml m0 h4 (I.mh k0 m0 h2) ?_;have:=Uk.2 (ko q.2) (b7 hq);unfold gm;exact(fM _ _ _ 1 (S1 V0) (.p K1 V2) (D1 V0 V1 (D1 V1 V2 .n)) rfl (ac h5.symm) this)
 refine⟨hi,λ_=>⟨?_,?_,?_,?_⟩,?_,?_,(λh=>by exact bM h.symm),λ_ j m' hj ht e=>?_⟩
 ·show 9<=gm (R i);unfold gm;exact aaH Uk
 ·show gm (R i)<=_;unfold gm;exact(dp _ _ 1 (.p K1 V0) (.p (.k 9) V1) (D1 V0 (.p (.k 8) V1) .n) rfl UF)
 ·intro t ht;have qq:=au ht;subst qq;exact⟨h2,lJ⟩
 ·refine hp.imp id λh=>eN (hle p h) λm0 e h1 h3=>?_;show p<3*gm (R i)+i;unfold num at e;exact aaG e h3 h1
 ·show gm (R i)<=15;unfold gm;exact(dp _ _ 1 (.p K1 V0) (.k 15) (D1 V0 (.p (.k 8) V1) (D1 (S1 V1) (.k 7) .n)) rfl UF hl)
 ·refine hp.imp id λh=>cU ((I.jA hi).mp h) λj m' h1 h2 h3 h4=>?_;exact gM j m' ((aG.mp h2).1) h2 h3 h4
 ·have hh:=I.mh j m' hj;have e':3*m'.c+m'.h=3*gm (R i)+i:=e;have hmi:m'.h=i:=aaF e' hh hi;have sM:num m'∈bR (R i):=(I.jA hi).mpr ⟨j,m',hmi▸Ow j m' hj,hj,ht,rfl⟩;refine eN (hle _ sM) λm0 e0 h1 h3=>?_;unfold num at e0;exact aaD e' e0 h3 h1
theorem jK.yD(I:jK hs st aH H R)(hi:i<3){p:Nat}(hp:p∈bR (R i)):I9 aH ⟨i,0,p,ah⟩:=by refine cU ((I.jA hi).mp hp) λj m' h1 h2 h3 h4=>⟨hi,(λh=>by exact bB h),aaC,.inr ⟨j,m',(aG.mp h2).1,h2,h3,h4⟩,λ_ e=>?_,λh=>by exact bB h⟩;have:=(I.typ j m' h2 h3).1;have e:p=0:=e;unfold num at h4;exact(kg _ _ _ (D1 (.p (.m 3 V0) V1) V2 (D1 (.k 9) V0 (D1 V2 (.k 0) .n))) rfl (ac h4) this (ac e))
end
section
variable{K:ph}{w:bz}{r:Nat}
theorem UX(O:Wo K w ag mg mb):yS prog w ag (r+1) Ny:=λa vs v h=>by
 unfold Ny at h;split at h
 ·rename_i e;subst e;exact ii O.pF (O.L.U2.at O.X XQ) O.lim h
 exact bM h
theorem UU(O:Wo K w ag mg mb):yS prog w ag (r+2) FaR:=λa vs v h=>by
 unfold FaR at h;split at h
 ·rename_i e;subst e;exact Cl.up (ii (r:=r) O.pF (O.L.U3.at O.X XR) O.lim h) VX
 split at h
 ·rename_i e;subst e;exact Cl.up (ii (r:=r) O.pF (O.L.U1.at O.X XO) O.lim h) VX
 split at h
 ·rename_i e;subst e;exact ii (O.wx (UX O)) (O.L.U0.at O.X XN) O.lim h
 exact bM h
theorem CX(O:Wo K w ag mg mb):Wx prog w ag mg mb (r+3) PR:=O.wx (yF (UU (r:=r) O) (by exact dD _ 1 (.p V0 (.k 2)) (.p V0 (.k 3)) .n rfl))
end
theorem Ci{aH:List dh}{H:List Nat}:(dR aH H).length<=aH.length:=by unfold dR;have h2:=jM (λk=>decide (k∈H)) (ba aH.length);rw[gD]at h2;rw[aL];exact h2
section
variable{ds:List Nat}{hs:List bS}{aH:List dh}{H:Nat->List Nat}{R:Nat->List (Nat×gz)}{a h k t i:Nat}{m:dh}{o:Bool}{x5 x6 x7 x8 x9 ew eU:V}
theorem jK.yL(I:jK hs st aH H R)(hi:i<3):rg 27 gL [.lst ((dR aH (H i)).map cF)]=some (.lst ((bR (R i)).map iv)):=by
 refine am (I.Lu i hi) (Mine.yL _ (λm hm=>?_) ?_ (lZ I.uniq) (Au (lZ I.uniq) (I.IK hi)))
 ·refine cW (mG.mp hm) λj _ hj=>?_;have:=I.cnt j m hj;exact o69 this
 ·have:=Ci (aH:=aH) (H:=H i);have:=I.EG;exact Z9 (by assumption) this
variable{K:ph}{w:bz}{r:Nat}
theorem DA(O:Wo K w ag mg mb)(Hs:cH hs)(I:jK hs st aH H R)(hh:h<3)(hm:aH[k]?=some m)(hp:m.p=0\/m.p∈bR (R h))(hl:(H h).length<100):
  ∃jt R',CS prog w ag (r+3) (bp 29) [fd 0,fd 1,fd 2] (z0 ds hs a h k t x5 x6 x7 x8 x9 ew o eU) st (.next,z1 ds hs a h k t x5 x6 x7 x8 x9 ew (.bool aj),jt)/\jK hs jt aH (uH H h (H h++[k])) (uH R h R'):=by
 refine iw (Fe (r:=r) (prog:=prog) (T:=t) O Hs I hh hm hp hl) λjt R' c I2=>jp jt R' ?_ I2;have d:=d0 (ds:=ds) (hs:=hs) (a:=a) (w:=k) (t:=t) (x5:=x5) (x6:=x6) (x7:=x7) (x8:=x8) (x9:=x9) (ew:=ew) (o:=o) (eU:=eU) I.s7 hh (I.sH h hh) (by exact dD _ 1 V0 (.k 1000) (D1 (S1 V0) (.k 100) .n) rfl hl);refine .cons (.pure (P:=PR) (CX O) d (λc x h=>by exact Fl.noConfusion h)) ?_;have n3:(oz st H h k)[3]?=some [.loc 0,.loc 1,.loc 2]:=(mE o70).trans I.s3;have n8:(oz st H h k)[8]?=some (aH.map cF):=(mE (o71 hh)).trans I.s8;refine .cons (mj:=z1 ds hs a h k t x5 x6 x7 x8 x9 ew (.bool aj)) (gA:=jt) (C1.call (P:=PR) (m:=70) (CX O) (g:=180) (v:=.bool aj) (by cases o<;>lia) (a1 n3 n8 hh hm) c (by cases o<;>lia)) ?_;have e1:uH H h (H h++[k]) h=H h++[k]:=dP;have e2:uH R h R' h=R':=dP;have hH:=I2.sH h hh;have hR:=I2.sR h hh;have hd:=I2.yL hh;rw[e1]at hH hd;rw[e2]at hR hd;exact .cons (.pure (P:=PR) (CX O) (d2 I2.s3 I2.s8 (by have:=I2.EG;exact(dD _ 1 V0 (.k 100) (D1 V0 (.k 7) .n) rfl this)) I2.s7 hh hH hR hd) (λc x h=>by exact Fl.noConfusion h)) .nil
end
section
variable{ds:List Nat}{hs:List bS}{aH:List dh}{H:Nat->List Nat}{R:Nat->List (Nat×gz)}{a d h k t i:Nat}{m:dh}{o:Bool}{x2 x3 x4 x5 x6 x7 x8 x9 ew eU:V}
variable{K:ph}{w:bz}{r:Nat}
noncomputable def jB(v:V):Prop:=∀st,ek st 8 v=some v
theorem gq{n:Nat}:jB (iv n):=λst=>rfl
theorem EO{x:aq}:jB (.str x):=λst=>rfl
theorem uV{b:Bool}:jB (.bool b):=λst=>rfl
theorem qi{D:List Nat}:jB (.lst (D.map iv)):=λst=>by show((D.map iv).mapM (ek st 7)).map V.lst=_;rw[rI];rfl
noncomputable def le:List V->Prop
 |[]=>True
 |v::r=>jB v/\le r
abbrev Ys:Type:=V×V×V×V×V×V×V×V×V×V
noncomputable def Ys.l(Y:Ys):List V:=[Y.1,Y.2.1,Y.2.2.1,Y.2.2.2.1,Y.2.2.2.2.1,Y.2.2.2.2.2.1,Y.2.2.2.2.2.2.1,Y.2.2.2.2.2.2.2.1,Y.2.2.2.2.2.2.2.2.1,Y.2.2.2.2.2.2.2.2.2]
theorem le.mem{l:List V}:le l->∀y∈l,jB y:=by
 induction l with
 |nil=>exact λ_ y h=>bV h bA
 |cons v r ih=>exact λp y h=>(ax.mp h).elim (λe=>e▸p.1) (ih p.2 y)
structure WG(hs:List bS)(st:St)(aH:List dh)(H:Nat->List Nat)(R:Nat->List (Nat×gz))(a:Nat):Prop where
 I:jK hs st aH H R
 own:Qc aH H
 n:aH.length<=a
 hn:∀i,i<3->(H i).length<=a
theorem DM(hn:∀i,i<3->(H i).length<=a){i j:Nat}:∀y,y<3->(uH H i (H i++[j]) y).length<=a+1:=λy hy=>by
 by_cases e:y=i
 ·refine am e (am dP (am aE ?_));have:=hn i (e▸hy);simp;exact o56 this
 ·refine am (gW e) ?_;have:=hn y hy;exact o2 this
theorem NA(I:jK hs st aH H R)(hi:i<3):(bR (R i)).length<=7:=by have:=I.Oj hi;unfold bR;rw[aL];exact this
theorem I4(I:jK hs st aH H R)(Ow:Qc aH H)(hl:aH.length<7)(hh:h<3)(kd pk t:Nat)(ho:o=an->aH=[]/\bR (R h)=[])(hx:o=aj->jB x9/\jB ew):
  ∃(pS:List dh) (wh:Nat) (m:dh) (y9 uB:V) (gA:St),
   bW PR 74 (bp 29) (b8 ds hs a h (lY kd pk (hV aH (bR (R h))) aH.length) t kd pk (bR (R h)) x8 o [x9,ew,eU]) st [fc 4]=some (.next,z0 ds hs a h wh t (iv kd) (iv pk) (.lst ((bR (R h)).map iv)) x8 y9 uB o eU,gA)/\
   jK hs gA pS H R/\pS[wh]?=some m/\(m.p=0\/m.p∈bR (R h))/\pS.length<=aH.length+1/\(∀k m',pS[k]?=some m'->k∈H m'.h\/(k=wh/\m'.h=h))/\jB y9/\jB uB:=by
 have hD:=NA I hh;by_cases hq:kd=3/\hV aH (bR (R h))≠[]
 ·have hw:lY kd pk (hV aH (bR (R h))) aH.length=(hV aH (bR (R h))).getD (pk%(hV aH (bR (R h))).length) 0:=aP hq;have ve:0<(hV aH (bR (R h))).length:=lS λq=>hq.2 (b4 q);have nT:lY kd pk (hV aH (bR (R h))) aH.length∈hV aH (bR (R h)):=by refine am hw (am (aI) (am (aC (bx _ ve)) ?_));exact iY _
  generalize lY kd pk (hV aH (bR (R h))) aH.length=wh at nT;unfold hV at nT;rw[eQ,cA,bH]at nT;have hm:aH[wh]?=some aH[wh]:=aC nT.1
  cases o with
  |false=>replace nT:=((ho rfl).1)▸nT;exact bV nT.1 (lM _)
  |true=>
   refine⟨aH,wh,_,x9,ew,st,(aB (TJ I.s8 (ab1 nT))).trans dY,I,hm,?_,V6,(λk m' hk=>.inl (Ow k m' hk)),hx rfl⟩;have h2:=nT.2;unfold Dc at h2;replace h2:=hm▸h2;exact ax.mp h2
 ·have hw:lY kd pk (hV aH (bR (R h))) aH.length=aH.length:=bg hq;have bP:∀{m:dh},m.h=h->∀k m',(aH++[m])[k]?=some m'->k∈H m'.h\/(k=aH.length/\m'.h=h):=λ{m} hmh k m' hk=>by
   rcases iU hk with⟨_,hk⟩|⟨e,rfl⟩
   ·exact .inl (Ow k m' hk)
   ·exact .inr ⟨e,hmh⟩
  have last:∀m:dh,(aH++[m])[aH.length]?=some m:=λm=>by rw[d7 (aD _),Jg];rfl
  refine am hw ?_;by_cases tG:kd=2/\bR (R h)≠[]
  ·have ve:0<(bR (R h)).length:=lS λq=>tG.2 (b4 q);have nT:(bR (R h)).getD (pk%(bR (R h)).length) 0∈bR (R h):=by refine am (aI) (am (aC (bx _ ve)) ?_);exact iY _
   cases o with
   |false=>exact bV (ho rfl).2 tG.2
   |true=>
    exact⟨_,aH.length,_,x9,ew,_,(aB (E7 I.s8 (o31 hl) rfl tG.1 tG.2)).trans dY,I.send (I.yD hh nT) hl,last _,.inr nT,by simp,bP rfl,hx rfl⟩
  ·have hp:(0::bR (R h)).getD (pk%((bR (R h)).length+1)) 0=0\/(0::bR (R h)).getD (pk%((bR (R h)).length+1)) 0∈bR (R h):=by
    have gE:pk%((bR (R h)).length+1)<(0::bR (R h)).length:=bx _ (Jf _);have:(0::bR (R h)).getD (pk%((bR (R h)).length+1)) 0∈0::bR (R h):=by refine am (aI) (am (aC gE) ?_);exact iY _
    exact ax.mp this
   exact⟨_,aH.length,_,_,_,_,(aB (Kz I.s8 (o31 hl) (VZ hD) I.s3 hh (I.sR h hh) (I.IA hh) (by have:=I.Oj hh;exact VZ this) rfl tG)).trans dY,I.send (I.As Ow hh hl (EP kd t) (Hb kd t) hp) hl,last _,hp,by simp,bP rfl,EO,gq⟩
end
section
variable{ds:List Nat}{hs:List bS}{aH:List dh}{H:Nat->List Nat}{R:Nat->List (Nat×gz)}{a d h k t i:Nat}{m:dh}{o:Bool}{x2 x3 x4 x5 x6 x7 x8 x9 ew eU:V}
variable{K:ph}{w:bz}{r:Nat}
theorem PX(O:Wo K w ag mg mb)(Hs:cH hs)(F:WG hs st aH H R a)(tH:∀d∈ds,d<100000000)(DB:ds.length=7)(ha:a<7)(ho:o=an->aH=[]/\∀i,i<3->bR (R i)=[])(hx:o=aj->jB x9/\jB ew):
  ∃(pS:List dh) (H2:Nat->List Nat) (R2:Nat->List (Nat×gz)) (jt:St) (Y:Ys),
   CS prog w ag (r+3) (bp 29) fB (rs ds hs (iv a::tl o [x2,x3,x4,x5,x6,x7,x8,x9,ew,eU])) st (.next,rs ds hs (iv a::tl aj (Ys.l Y)),jt)/\WG hs jt pS H2 R2 (a+1)/\le (Ys.l Y):=by
 have QK:a<ds.length:=dp _ _ 1 (S1 V0) V1 (D1 (S1 V0) (.k 7) (D1 (.k 7) V1 .n)) rfl ha (ac DB.symm);have hd:ds[a]?=some ds[a]:=aC QK;generalize ds[a]=d at hd;have hh:d%3<3:=bx _ (by decide);have I:=F.I;have hD:=NA I hh;have MU:aH.length<7:=by have:=F.n;exact(dp _ _ 1 (S1 V0) (.k 7) (D1 V0 V1 (D1 (S1 V1) (.k 7) .n)) rfl this ha)
 refine gen λGG fN=>?_;obtain⟨pS,wh,m,y9,uB,gA,e4,I1,hm,hp,Dx,adb,py9,XI⟩:=I4 (ds:=ds) (hs:=hs) (a:=a) (x8:=.lst ((hV aH (bR (R (d%3)))).map iv)) (x9:=x9) (ew:=ew) (eU:=eU) (o:=o) I F.own MU hh (d/3%4) (d/12%12) (d/144) (λe=>⟨(ho e).1,(ho e).2 _ hh⟩) hx;refine fN ?_;have hHl:(H (d%3)).length<100:=by have:=F.hn _ hh;exact(dp _ _ 1 (S1 V0) (.k 100) (D1 V0 V1 (D1 (S1 V1) (.k 7) .n)) rfl this ha)
 refine iw (DA (ds:=ds) (a:=a) (t:=d/144) (x5:=iv (d/3%4)) (x6:=iv (d/12%12)) (x7:=.lst ((bR (R (d%3))).map iv)) (x8:=.lst ((hV aH (bR (R (d%3)))).map iv)) (x9:=y9) (ew:=uB) (eU:=eU) (o:=o) (r:=r) (prog:=prog) O Hs I1 hh hm hp hHl) λjt R' c I2=>?_;refine⟨pS,_,_,jt,⟨iv (d%3),iv wh,iv (d/144),iv (d/3%4),iv (d/12%12),.lst ((bR (R (d%3))).map iv),.lst ((hV aH (bR (R (d%3)))).map iv),y9,uB,.bool aj⟩,?_,⟨I2,λk m' hk=>?_,by have:=F.n;exact(fM _ _ _ 1 V0 (S1 V2) (D1 V0 (S1 V1) (D1 V1 V2 .n)) rfl Dx this),DM F.hn⟩,gq,gq,gq,gq,gq,qi,qi,py9,XI,uV,trivial⟩
 ·refine am Ir (.cons (.pure (P:=PR) (CX O) (f0 tH (Zy DB) (by exact dD _ 1 (S1 V0) (.k 100) (D1 (S1 V0) (.k 7) .n) rfl ha)) (λc x h=>by exact Fl.noConfusion h)) ?_);have hC:bW PR 78 (bp 29) (rs ds hs (iv a::.int ((a/7:Nat)-1)::iv (a%7)::iv (ds.sum+31*a)::tl o [x5,x6,x7,x8,x9,ew,eU])) st (mr (fb 1))=some (.next,z0 ds hs a (d%3) wh (d/144) (iv (d/3%4)) (iv (d/12%12)) (.lst ((bR (R (d%3))).map iv)) (.lst ((hV aH (bR (R (d%3)))).map iv)) y9 uB o eU,gA):=by exact am UY ((aB (k0 hd)).trans ((aB (k1 I.s3 hh (I.sR _ hh))).trans ((aB (k2 I.s8 (o31 MU) (VZ hD))).trans ((aB (k3 I.s8)).trans e4))))
  refine .cons (.pure (P:=PR) (CX O) (fJ rfl (t1 ha (vs:=[])) hC) (λc x h=>by exact Fl.noConfusion h)) (.cons (C1.We (P:=PR) (m:=77) (c:=aj) (CX O) (Rx ha) ?_) .nil);refine am (aP rfl) ?_;show CS prog w ag (r+3) (bp 29) (mr (fb 2)) _ _ _;exact am Nk c
 ·rcases adb k m' hk with h|⟨e1,e2⟩
  ·by_cases e:m'.h=d%3
   ·refine am e (am dP ?_);exact d6 _ (e▸h)
   ·refine am (gW e) ?_;exact h
  ·refine am e2 (am dP (am e1 ?_));exact eI _ (.head _)
theorem PY(O:Wo K w ag mg mb)(Hs:cH hs)(I:jK hs st aH H R)(Fhn:∀i,i<3->(H i).length<=a)(tH:∀d∈ds,d<100000000)(DB:ds.length=7)(ha:7<=a)(Pg:a<28)(Ud:∀j,j<a%7->j<aH.length->j∈H (a/7-1))(hx:le [x2,x3,x4,x5,x6,x7,x8,x9,ew,eU]):
  ∃(H2:Nat->List Nat) (R2:Nat->List (Nat×gz)) (jt:St) (Y:Ys),
   CS prog w ag (r+3) (bp 29) fB (rs ds hs (iv a::tl aj [x2,x3,x4,x5,x6,x7,x8,x9,ew,eU])) st (.next,rs ds hs (iv a::tl aj (Ys.l Y)),jt)/\jK hs jt aH H2 R2/\(∀i,i<3->(H2 i).length<=a+1)/\(∀i j,j∈H i->j∈H2 i)/\(a%7<aH.length->a%7∈H2 (a/7-1))/\le (Ys.l Y):=by
 have px:le [x5,x6,x7,x8,x9,ew,eU]:=hx.2.2.2;have hh:a/7-1<3:=aax Pg;have eh:(.int ((a/7:Nat)-1):V)=iv (a/7-1):=by show V.int _=V.int _;congr 1;exact aaw ha
 have f:=f0 (o:=aj) (hs:=hs) (st:=st) (x2:=x2) (x3:=x3) (x4:=x4) (x5:=x5) (x6:=x6) (x7:=x7) (x8:=x8) (x9:=x9) (ew:=ew) (eU:=eU) tH (Zy DB) (show a<100 by exact dD _ 1 (S1 V0) (.k 100) (D1 (S1 V0) (.k 28) .n) rfl Pg);replace f:=eh▸f;have f1:bi PR 79 (bp 29) (rs ds hs (iv a::iv (a/7-1)::iv (a%7)::iv (ds.sum+31*a)::tl aj [x5,x6,x7,x8,x9,ew,eU])) st (fb 1)=some (.next,rs ds hs (iv a::iv (a/7-1)::iv (a%7)::iv (ds.sum+31*a)::tl aj [x5,x6,x7,x8,x9,ew,eU]),st):=eG rfl (t1n ha) rfl
 have ht:=Ry (ds:=ds) (hs:=hs) (a:=a) (t:=ds.sum+31*a) (w:=a%7) (x5:=x5) (x6:=x6) (x7:=x7) (x8:=x8) (x9:=x9) (ew:=ew) (eU:=eU) (o:=aj) ha I.s7 I.s8 hh (I.sH _ hh);by_cases hc:a%7<aH.length/\a%7∉H (a/7-1)
 ·have hm:aH[a%7]?=some aH[a%7]:=aC hc.1;have hp:aH[a%7].p=0\/aH[a%7].p∈bR (R (a/7-1)):=by exact(I.Dc _ _ hm).imp id λqz=>cU qz λj m' h1 h2 h3 h4=>(I.jA hh).mpr ⟨j,m',Ud j h1 (aG.mp h2).1,h2,h3,h4⟩
  have hHl:(H (a/7-1)).length<100:=by have:=Fhn _ hh;exact(dp _ _ 1 (S1 V0) (.k 100) (D1 V0 V1 (D1 (S1 V1) (.k 28) .n)) rfl this Pg)
  refine iw (DA (ds:=ds) (a:=a) (t:=ds.sum+31*a) (x5:=x5) (x6:=x6) (x7:=x7) (x8:=x8) (x9:=x9) (ew:=ew) (eU:=eU) (o:=aj) (r:=r) (prog:=prog) O Hs I hh hm hp hHl) λjt R' c I2=>⟨_,_,jt,⟨iv (a/7-1),iv (a%7),iv (ds.sum+31*a),x5,x6,x7,x8,x9,ew,.bool aj⟩,?_,I2,DM Fhn,λi j hj=>?_,λ_=>?_,gq,gq,gq,px.1,px.2.1,px.2.2.1,px.2.2.2.1,px.2.2.2.2.1,px.2.2.2.2.2.1,uV,trivial⟩
  ·refine am Ir (.cons (.pure (P:=PR) (CX O) f (λc x h=>by exact Fl.noConfusion h)) (.cons (.pure (P:=PR) (CX O) f1 (λc x h=>by exact Fl.noConfusion h)) (.cons (C1.We (P:=PR) (m:=77) (c:=aj) (CX O) (ht.trans (am (aU hc) rfl)) ?_) .nil)));refine am (aP rfl) ?_;show CS prog w ag (r+3) (bp 29) (mr (fb 2)) _ _ _;exact am Nk c
  ·by_cases e:i=a/7-1
   ·refine am e (am dP ?_);exact d6 _ (e▸hj)
   ·refine am (gW e) ?_;exact hj
  ·refine am dP ?_;exact eI _ (.head _)
 ·refine⟨H,R,st,⟨iv (a/7-1),iv (a%7),iv (ds.sum+31*a),x5,x6,x7,x8,x9,ew,eU⟩,?_,I,λi hi=>by have:=Fhn i hi;exact o2 this,λi j hj=>hj,(λh=>WK λq=>hc ⟨h,q⟩),gq,gq,gq,px⟩
  ·exact am Ir (.cons (.pure (P:=PR) (CX O) f (λc x h=>by exact Fl.noConfusion h)) (.cons (.pure (P:=PR) (CX O) f1 (λc x h=>by exact Fl.noConfusion h)) (.cons (.pure (P:=PR) (CX O) (eG rfl (ht.trans (am (aW hc) rfl)) rfl) (λc x h=>by exact Fl.noConfusion h)) .nil)))
end
section
variable{ds:List Nat}{hs:List bS}{aH:List dh}{H:Nat->List Nat}{R:Nat->List (Nat×gz)}{o:Bool}{x1 x2 x3 x4 x5 x6 x7 x8 x9 ew eU:V}
variable{K:ph}{w:bz}{r:Nat}
noncomputable def BA(prog:cO)(w:bz)(ag:ca)(r:Nat)(v:V)(σ:Sg)(st:St)(out:ga):Prop:=∃cR,dq (bp 29) fT v σ=some cR/\CS prog w ag (r+3) (bp 29) fB cR st out
noncomputable def Bg(prog:cO)(w:bz)(ag:ca)(r:Nat)(ds:List Nat)(hs:List bS)(vs:List V)(σ:Sg)(st:St):Prop:=
 ∃(aH:List dh) (H:Nat->List Nat) (R:Nat->List (Nat×gz)) (jt:St) (x:V) (Y:Ys),s9 (BA prog w ag r) vs σ st (.next,rs ds hs (tl aj (x::Ys.l Y)),jt)/\jK hs jt aH H R/\(∀i,i<3->∀j,j<aH.length->j∈H i)/\le (x::Ys.l Y)
theorem Bg.step(h:BA prog w ag r v σ st (.next,mj,gA))(E:Bg prog w ag r ds hs vs mj gA):Bg prog w ag r ds hs (v::vs) σ st:=by refine gen λGG fN=>?_;obtain⟨aH,H,R,jt,x,Y,f,I,h2⟩:=E;refine fN ?_;exact⟨aH,H,R,jt,x,Y,.next h f,I,h2⟩
theorem Kr(O:Wo K w ag mg mb)(Hs:cH hs)(tH:∀d∈ds,d<100000000)(DB:ds.length=7)(n:Nat):∀(a:Nat) (st:St) (H:Nat->List Nat) (R:Nat->List (Nat×gz)) (x:V) (Y:Ys),a+n=28->7<=a->jK hs st aH H R->(∀i,i<3->(H i).length<=a)->(∀i,i<3->∀j,j<aH.length->7*(i+1)+j<a->j∈H i)->le (x::Ys.l Y)->
  Bg prog w ag r ds hs ((NC a n).map iv) (rs ds hs (tl aj (x::Ys.l Y))) st:=by
 induction n with
 |zero=>exact λa st H R x Y hn ha I hl hd hx=>⟨aH,H,R,st,x,Y,.nil,I,(λi hi j hj=>hd i hi j hj (by have:=I.EG;exact acm hi hj hn this)),hx⟩
 |succ n ih=>
  intro a st H R x Y hn ha I hl hd hx;refine gen λGG fN=>?_;obtain⟨H2,R2,jt,Y2,c,I2,Dx,hk,sK,hy⟩:=PY (ds:=ds) (r:=r) (prog:=prog) O Hs I hl tH DB ha (by exact dp _ _ 1 (S1 V0) (.k 28) (D1 (.p V0 (S1 V1)) (.k 28) .n) rfl (ac hn)) (λj hj hjs=>hd (a/7-1) (acl hn) j hjs (ack ha hj)) hx.2;refine fN ?_;refine am L8 (am aY ?_);refine Bg.step (mj:=rs ds hs (tl aj (iv a::Ys.l Y2))) (gA:=jt) ⟨_,Nq (o:=aj) (iv a),c⟩ (ih (a+1) jt H2 R2 _ _ (acj hn) (by exact dD _ 1 (.k 7) (S1 V0) (D1 (.k 7) V0 .n) rfl ha) I2 Dx (λi hi j hj h=>?_) ⟨gq,hy⟩);by_cases e:7*(i+1)+j=a
  ·have hs7:=I.EG;have e1:a%7=j:=aci e hj hs7;have e2:a/7-1=i:=ach e e1;have:=sK (acg e1 hj);rwa[e1,e2]at this
  ·exact hk i j (hd i hi j hj (acf h e))
theorem Kq(O:Wo K w ag mg mb)(Hs:cH hs)(tH:∀d∈ds,d<100000000)(DB:ds.length=7)(n:Nat):∀(a:Nat) (o:Bool) (st:St) (aH:List dh) (H:Nat->List Nat) (R:Nat->List (Nat×gz)) (x:V) (Y:Ys),a+n=7->WG hs st aH H R a->(o=an->n≠0/\aH=[]/\∀i,i<3->bR (R i)=[])->(o=aj->le (x::Ys.l Y))->
  Bg prog w ag r ds hs ((NC a (n+21)).map iv) (rs ds hs (tl o (x::Ys.l Y))) st:=by
 induction n with
 |zero=>
  intro a o st aH H R x Y hn F ho hx
  cases o with
  |false=>exact bV rfl (ho rfl).1
  |true=>
   refine am (iz 21) ?_;exact Kr O Hs tH DB 21 a st H R x Y (ace hn) (by exact dD _ 1 (.k 7) V0 (D1 (.k 7) (.p V0 (.k 0)) .n) rfl (ac hn.symm)) F.I F.hn (λi hi j hj h=>by exact(acd h hn).elim) (hx rfl)
 |succ n ih=>
  intro a o st aH H R x Y hn F ho hx;refine gen λGG fN=>?_;obtain⟨pS,H2,R2,jt,Y2,c,F2,hy⟩:=PX (ds:=ds) (o:=o) (x2:=Y.1) (x3:=Y.2.1) (x4:=Y.2.2.1) (x5:=Y.2.2.2.1) (x6:=Y.2.2.2.2.1) (x7:=Y.2.2.2.2.2.1) (x8:=Y.2.2.2.2.2.2.1) (x9:=Y.2.2.2.2.2.2.2.1) (ew:=Y.2.2.2.2.2.2.2.2.1) (eU:=Y.2.2.2.2.2.2.2.2.2) (r:=r) (prog:=prog) O Hs F tH DB (by exact dp _ _ 1 (S1 V0) (.k 7) (D1 (.p V0 (S1 V1)) (.k 7) .n) rfl (ac hn)) (λe=>(ho e).2) (λe=>⟨(hx e).2.2.2.2.2.2.2.2.1,(hx e).2.2.2.2.2.2.2.2.2.1⟩);refine fN ?_;refine am (show n+1+21=(n+21)+1 by exact acb) (am L8 (am aY ?_));exact Bg.step (mj:=rs ds hs (tl aj (iv a::Ys.l Y2))) (gA:=jt) ⟨_,Nq (iv a),c⟩ (ih (a+1) aj jt pS H2 R2 _ _ (aca hn) F2 (λe=>by exact bB e) (λ_=>⟨gq,hy⟩))
theorem acQ:jK hs GH [] (λ_=>[]) (λ_=>[]):=by
 have three:∀{p:Nat->Prop},p 0->p 1->p 2->∀i,i<3->p i:=λ{p} h0 h1 h2 i hi=>by have:i=0\/i=1\/i=2:=V8 hi;rcases this with rfl|rfl|rfl<;>assumption
 refine⟨rfl,rfl,rfl,three rfl rfl rfl,λi hi=>⟨?_,(λq h=>by cases h),fG,(λh=>by cases h)⟩,(λi hi q h=>by cases h),(λi hi j hj rC q h=>by cases h),by decide,λi hi=>by simp,(λi hi k h=>by cases h),(λk m h=>by exact bM h),(λk m h=>by exact bM h),(λk m h=>by exact bM h),(λk m h=>by exact bM h),(λk m h=>by exact bM h),(λj k m m' h=>by exact bM h),(λi hi k h=>by cases h),λi hi=>rfl,(λi hi q h=>by cases h)⟩;revert i;exact three (p:=λi=>GH[i]?=some []) rfl rfl rfl
theorem adX:WG hs GH [] (λ_=>[]) (λ_=>[]) 0:=⟨acQ,(λk m h=>by exact bM h),aD _,λi hi=>aD _⟩
theorem UR(O:Wo K w ag mg mb)(Hs:cH hs)(tH:∀d∈ds,d<100000000)(DB:ds.length=7):
  ∃(aH:List dh) (H:Nat->List Nat) (R:Nat->List (Nat×gz)) (jt:St) (x:V) (Y:Ys),C1 prog w ag (r+3) (bp 29) (bd 29 2) (rs ds hs []) GH (.next,rs ds hs (x::Ys.l Y),jt)/\jK hs jt aH H R/\(∀i,i<3->∀j,j<aH.length->j∈H i)/\le (x::Ys.l Y):=by
 refine gen λGG fN=>?_;obtain⟨aH,H,R,jt,x,Y,f,I,h⟩:=Kq (prog:=prog) (r:=r) O Hs tH DB 7 0 an GH [] _ _ .none ⟨.none,.none,.none,.none,.none,.none,.none,.none,.none,.none⟩ rfl (adX (hs:=hs)) (λ_=>⟨by decide,rfl,λi hi=>rfl⟩) (λe=>by exact bB e);refine fN ?_;refine⟨aH,H,R,jt,x,Y,?_,I,h⟩;replace f:=(show(NC 0 (7+21))=ba 28 by rw[List.range_eq_range'])▸f;exact C1.Ij (P:=PR) (m:=50) (CX O) (vH (k:=28) rfl (by lia) (by lia) (by decide)) f (λv σ st out h=>h)
end
section
variable{w:bz}{r m m2:Nat}
theorem sb.vr{scope:jm}{vs:List V}{mj σ cR σ2:Sg}{gA st jt:St}{bb:Bool}(W:Wx prog w ag mg mb r P)(D:lE ag a ps (pre++b::rest) scope)(iO:ag.NoLimit)(La:yR vs)(hlen:vs.length=ps.length)
  (v9:bW P m scope.names (ps.zip vs) [] pre=some (.next,mj,gA)) (hb:C1 prog w ag r scope.names b mj gA (.next,σ,st)) (hz:yC st 8 σ=some cR) (Uc:bW P m2 scope.names cR [] rest=some (.ret (.bool bb),σ2,jt)):sb prog w ag (r+1) a vs (.bool bb):=by
 refine⟨?_,λι Av A s ws E Q c kH rs k=>?_⟩
 ·exact kX D.ex λ_ _ _ _ _ o ho hd _=>jp o _ ho hd
 ·have S:kZ [] Av [] s.heap:=⟨kH,(λb hb=>by cases hb),fG,rfl,(λl vs q=>by cases l<;>cases q)⟩;refine rM (n:=0) D iO c S (λb hb=>by cases hb) (La _ _ _ _ _ rs) hlen λenv s₁ en=>zU W m pre v9 en.fx λdb df s2 fy f2=>?_;refine eW (cD (hb 0 db df _ env s2 ⟨en.facts.1,cW c.fr λl h1 _=>⟨l,gQ h1⟩⟩ f2) (λfl s3 d=>?_) λ_ _ z=>z.elim);refine c3 d λqM sd GD f1 lL=>?_;cases (show fl=.next from lL)
  have f3:=f1.freeze hz;refine .of (((sx W m2).ss Uc f3).calm (λc x q=>by exact Fl.noConfusion q) λfl s4 d=>?_);refine DS d λWQ Av3 Xo f4 u lL ru=>?_;cases lL;cases ru;have b1:=en.back [] Av s4 ((fy.trans GD).weak Xo);refine k _ s4 ?_ (.bool _);refine mO b1.sh λhh kk q=>jp hh kk q (λb o e=>?_);have:=b1.ke b o e (λh=>by cases h) (λh=>h);replace this:=q▸this;exact this
end
theorem yB{α:Type}{a b:α->V}(l:List α):(∀x∈l,f (a x)=some (b x))->(l.map a).mapM f=some (l.map b):=by
 induction l with
 |nil=>
  exact λ_=>rfl
 |cons x l ih=>
  exact λh=>by refine am aY (am bj (am (h x (.head _)) (am (ih λy hy=>h y (.tail _ hy)) ?_)));rfl
theorem adT{st:St}(hw:xZ w):ek st (k+1) w=some w:=by rcases hw with rfl|⟨y,rfl⟩<;>rfl
theorem K'{st:St}(hw:xZ x.w):ek st (k+2) (dx x)=some (dx x):=by obtain⟨w,r,dQ,sh,mC⟩:=x;rcases hw with rfl|⟨y,rfl⟩<;>rfl
theorem Po{st:St}{k:Nat}(h:m4 n v=some i):ek st (k+1) v=some v:=by cases v<;>first|rfl|(exact bM h)
theorem z3(l:List V):∀(ks:List Int),l.mapM f=some ks->∀v∈l,∃k,f v=some k:=by
 induction l with
 |nil=>
  exact λ_ _ v hv=>by cases hv
 |cons a r ih=>
  exact λks h v hv=>by
   rw[bj]at h;refine cW (cP.mp h) λk hk h=>cW (cP.mp h) λq hq _=>?_;rcases ax.mp hv with rfl|hv
   ·exact⟨k,hk⟩
   ·exact ih q hq v hv
theorem Pp{st:St}(m:dh):ek st (k+2) (cF m)=some (cF m):=by obtain⟨h,c,p,t⟩:=m;cases t<;>rfl
section
variable{ds:List Nat}{hs:List bS}{aH:List dh}{H:Nat->List Nat}{R:Nat->List (Nat×gz)}{i:Nat}
theorem Pq{e:gz}(Hs:cH hs){Hi:List Nat}(E:mS hs aH Hi e):(iP e).mapM (ek st (k+3))=some (iP e):=by
 refine fQ E.ex λk0 m x tl h1 h2 h3 h4 h5 h6 h7 h8 h' t' M P=>?_;have hw:=Hs.w x (aX h4);have e1:ek st (k+3) (.lst e.tS)=some (.lst e.tS):=by refine am h6 ?_;show([iv 100,iv m.c,iv x.r,x.w].mapM (ek st (k+2))).map V.lst=_;refine am bj (am bj (am bj (am bj (am (adT hw) ?_))));rfl
 have e2:ek st (k+3) (.tup e.pt)=some (.tup e.pt):=by
  show(e.pt.mapM (ek st (k+2))).map V.tup=_;have:e.pt.mapM (ek st (k+2))=some e.pt:=by
   have:=yB (f:=ek st (k+2)) (a:=id) (b:=id) e.pt λv hv=>by exact eE (z3 _ _ P.SL v hv) λi hi=>Po hi
   rwa[tP]at this
  refine am this ?_;rfl
 unfold iP;refine am bj (am bj (am bj (am bj (am bj (am e1 (am e2 ?_))))));rfl
noncomputable def sv(R:List (Nat×gz)):V:=.lst (R.map λq=>.lst (iP q.2))
theorem Cp(Hs:cH hs)(I:jK hs st aH H R)(hi:i<3):ek st 7 (.loc i)=some (sv (R i)):=by
 have hR:=I.sR i hi;have:ek st 7 (.loc i)=(match st[i]?with|some vs=>(vs.mapM (ek st 6)).map V.lst|ah=>ah):=rfl;refine am this (am hR.row ?_);dsimp only;rw[yB (b:=λq:Nat×gz=>V.lst (iP q.2)) (R i) λq hq=>?_]
 ·rfl
 ·have e:ek st 6 (.loc q.1)=(match st[q.1]?with|some vs=>(vs.mapM (ek st 5)).map V.lst|ah=>ah):=rfl;refine am e (am (hR.ent q hq) ?_);dsimp only;refine am (Pq (k:=2) Hs (I.ent i hi q hq)) ?_;rfl
noncomputable def Oi(ds:List Nat)(hs:List bS)(R:Nat->List (Nat×gz))(H:Nat->List Nat)(aH:List dh)(ys:List V):Sg:=[(aJ "deeds",.lst (ds.map iv)),(aJ "hands",.lst (hs.map dx)),(aJ "rows",.lst [sv (R 0),sv (R 1),sv (R 2)]),(aJ "heard",.lst [.lst ((H 0).map iv),.lst ((H 1).map iv),.lst ((H 2).map iv)]),(aJ "sent",.lst (aH.map cF)),(aJ "signs",Ms)]++Kd.zip ys
theorem Ib:∀(ns:List aq) (ys:List V),(∀y∈ys,jB y)->yC st 8 (ns.zip ys)=some (ns.zip ys)
 |[],_,_=>rfl
 |_::_,[],_=>rfl
 |n::ns,y::ys,h=>by show(ek st 8 y).bind (λu=>(yC st 8 (ns.zip ys)).map λq=>(n,u)::q)=_;refine am (h y (.head _) st) (am (Ib ns ys λz hz=>h z (.tail _ hz)) ?_);rfl
theorem Pr(Hs:cH hs)(I:jK hs st aH H R){ys:List V}(hy:∀y∈ys,jB y):yC st 8 (rs ds hs ys)=some (Oi ds hs R H aH ys):=by
 have f1:ek st 8 (.lst (ds.map iv))=some (.lst (ds.map iv)):=qi st;have f2:ek st 8 (.lst (hs.map dx))=some (.lst (hs.map dx)):=by show((hs.map dx).mapM (ek st 7)).map V.lst=_;refine am (yB (b:=dx) hs λx hx=>K' (Hs.w x hx)) ?_;rfl
 have f3:ek st 8 (.loc 3)=some (.lst [sv (R 0),sv (R 1),sv (R 2)]):=by have:ek st 8 (.loc 3)=(match st[3]?with|some vs=>(vs.mapM (ek st 7)).map V.lst|ah=>ah):=rfl;refine am this (am I.s3 ?_);dsimp only;refine am bj (am bj (am bj (am (Cp Hs I (by decide)) (am (Cp Hs I (by decide)) (am (Cp Hs I (by decide)) ?_)))));rfl
 have h4:∀i,i<3->ek st 7 (.loc (4+i))=some (.lst ((H i).map iv)):=λi hi=>by have:ek st 7 (.loc (4+i))=(match st[4+i]?with|some vs=>(vs.mapM (ek st 6)).map V.lst|ah=>ah):=rfl;refine am this (am (I.sH i hi) ?_);dsimp only;rw[rI];rfl
 have f4:ek st 8 (.loc 7)=some (.lst [.lst ((H 0).map iv),.lst ((H 1).map iv),.lst ((H 2).map iv)]):=by have:ek st 8 (.loc 7)=(match st[7]?with|some vs=>(vs.mapM (ek st 7)).map V.lst|ah=>ah):=rfl;refine am this (am I.s7 ?_);dsimp only;refine am bj (am bj (am bj (am (h4 0 (by decide)) (am (h4 1 (by decide)) (am (h4 2 (by decide)) ?_)))));rfl
 have f5:ek st 8 (.loc 8)=some (.lst (aH.map cF)):=by have:ek st 8 (.loc 8)=(match st[8]?with|some vs=>(vs.mapM (ek st 7)).map V.lst|ah=>ah):=rfl;refine am this (am I.s8 ?_);dsimp only;refine am (yB (b:=cF) aH λm _=>Pp m) ?_;rfl
 have f6:ek st 8 Ms=some Ms:=rfl;have f7:=Ib (st:=st) Kd ys hy;show(ek st 8 (.lst (ds.map iv))).bind (λu=>((ek st 8 (.lst (hs.map dx))).bind λu=>((ek st 8 (.loc 3)).bind λu=>((ek st 8 (.loc 7)).bind λu=>((ek st 8 (.loc 8)).bind λu=>((ek st 8 Ms).bind λu=>(yC st 8 (Kd.zip ys)).map λq=>_::q).map λq=>_::q).map λq=>_::q).map λq=>_::q).map λq=>_::q).map λq=>_::q)=_;refine am f1 (am f2 (am f3 (am f4 (am f5 (am f6 (am f7 ?_))))));rfl
end
theorem qu(h:∀j,j<aH.length->j∈H):dR aH H=aH:=by unfold dR;rw[List.filter_eq_self.mpr λk hk=>aU (h k (cA.mp hk))];refine akD (by simp) λi h1 h2=>?_;rw[kG,akb,aI,aC h2];rfl
noncomputable def qY(pt:List V):List V:=pt.map λv=>.int ((m4 16 v).getD 0)
noncomputable def su(e:gz):V:=.lst [iv e.n,.lst e.tS,.str (mk e.tx),.lst (e.tS.map nP),.bool aj,.lst (qY e.pt),iv e.sh]
theorem wE:∀{pt:List V} {ks:List Int},pt.mapM (m4 16)=some ks->qY pt=ks.map .int
 |[],ks,h=>by have qq:=au h;subst qq;rfl
 |v::r,ks,h=>by rw[bj]at h;refine cW (cP.mp h) λk hk h=>cW (cP.mp h) λq hq h=>?_;have qq:=au h;subst qq;have:=wE hq;unfold qY at this⊢;refine am aY ?_;refine am this ?_;refine am hk ?_;rfl
section
variable{ds:List Nat}{hs:List bS}{aH:List dh}{H:Nat->List Nat}{R:Nat->List (Nat×gz)}{i:Nat}
theorem wq(Hs:cH hs)(I:jK hs st aH H R)(rF:∀j,j<aH.length->j∈Hi)(E:mS hs aH Hi e):rg 28 Ny [iv e.n,.lst (aH.map cF),.lst (hs.map dx)]=some (su e):=by
 refine fQ E.ex λk0 m x tl h1 h2 h3 h4 h5 h6 h7 h8 h' t' M P=>?_;replace h8:=(qu rF)▸h8;have Fb:m.t.isSome=aj:=by refine am h3 ?_;rfl
 have Du:=aX h4;obtain⟨q,hq⟩:∃q,(aH.filter λm=>m.t.isSome&&(num m==e.n))=m::q:=by
  have nT:m∈aH.filter λm=>m.t.isSome&&(num m==e.n):=eQ.mpr ⟨aX h2,by refine am Fb (am h5 ?_);simp⟩;cases hf:aH.filter λm=>m.t.isSome&&(num m==e.n)with
  |nil=>rw[hf]at nT;cases nT
  |cons a q=>
   refine⟨q,?_⟩;have ha:a∈aH.filter λm=>m.t.isSome&&(num m==e.n):=by refine am hf ?_;exact .head _
   rw[eQ,cj,cw]at ha;refine eE (nO.mp ha.1) λj hj=>?_;have:=I.uniq j k0 a m hj h2 ha.2.1 Fb (am ha.2.2 (am h5 rfl));subst this;cases kM h2 hj;rfl
 refine wg (I.typ k0 m h2 Fb) λh9 _ FW _=>?_;have w:=Gc (n:=e.n) (hs:=hs) (λm hm=>by
  refine eE (nO.mp hm) λj hj=>?_;have:=I.cnt j m hj;exact o69 this) (λm hm l hl c hc=>by
  refine eE (nO.mp hm) λj hj=>?_;exact((I.typ j m hj (by refine am hl ?_;rfl)).2.2.1 l hl).2 c hc) hq h4 Hs.w h3 (FW tl h3).1 (Hs.mC x Du) (Hs.dQ x Du) (Hs.r x Du) (Hs.s4 x Du)
 refine am w (jj h8 ?_);unfold Gd su;have SL:=P.SL;refine am (wE SL) (am h6 (am h7 (am bF ?_)));rfl
end
theorem mP{α:Type}{f:V->Option (Option V)}{a b:α->V}(l:List α):(∀x∈l,f (a x)=some (some (b x)))->mR f (l.map a)=some (l.map b):=by
 induction l with
 |nil=>
  exact λ_=>rfl
 |cons x r ih=>
  exact λh=>by exact am aY (ck (h x (.head _)) (kN (ih λy hy=>h y (.tail _ hy)) rfl))
theorem LW{P:pD}{n:Nat}{sc:Sc}{σ:Sg}{st:St}{e a:Expr}{x:aq}{p p':Pos}{v:V}{vs:List V}(he:e=.Call (.Name x p) [a] [] p')(hx:x≠aJ "range")(h:ay P st n sc σ e=some v)(hi:kD st v=some vs):g7 P st (n+1) sc σ e=some vs:=by subst he;exact(bg hx).trans (ck h hi)
section
variable{ds:List Nat}{hs:List bS}{aH:List dh}{H:Nat->List Nat}{R:Nat->List (Nat×gz)}{i:Nat}{y1 y2 y3 y4 y5 y6 y7 y8 y9 uB A7:V}
noncomputable def tY(R0:List (Nat×gz)):V:=.lst (R0.map λq=>su q.2)
noncomputable def J2(ds:List Nat)(hs:List bS)(R:Nat->List (Nat×gz))(H:Nat->List Nat)(aH:List dh)(ys:List V):Sg:=Oi ds hs R H aH ys++[(aJ "due",tY (R 0))]
theorem RS(Hs:cH hs)(I:jK hs st aH H R)(rF:∀i,i<3->∀j,j<aH.length->j∈H i):bi PR 60 (bp 29) (Oi ds hs R H aH [y1,y2,y3,y4,y5,y6,y7,y8,y9,uB,A7]) [] (bd 29 3)=some (.next,J2 ds hs R H aH [y1,y2,y3,y4,y5,y6,y7,y8,y9,uB,A7],[]):=by
 have h0:=I.yL (i:=0) (by decide);replace h0:=(qu (rF 0 (by decide)))▸h0;have UG:ay PR [] 57 (bp 29) (Oi ds hs R H aH [y1,y2,y3,y4,y5,y6,y7,y8,y9,uB,A7]) (pJ (iR (bd 29 3)))=some (.lst ((bR (R 0)).map iv)):=
  j2 (z:=185) (vs:=[.lst (aH.map cF)]) rfl (by decide) (by lia) (by lia) (by lia) h0
 have hit:=LW (n:=57) (e:=pJ (iR (bd 29 3))) rfl (by decide) UG (vs:=(R 0).map λq=>iv q.2.n) (by show some ((bR (R 0)).map iv)=_;unfold bR;refine am bF ?_;rfl)
 have hc:ay PR [] 59 (bp 29) (Oi ds hs R H aH [y1,y2,y3,y4,y5,y6,y7,y8,y9,uB,A7]) (iR (bd 29 3))=some (tY (R 0)):=by
  refine fK (us:=(R 0).map λq=>su q.2) rfl (by lia) (by lia) hit (mP (b:=λq=>su q.2) (R 0) λq hq=>?_);have e1:ay PR [] 58 (cN (iR (bd 29 3))) ((aJ "number",iv q.2.n)::Oi ds hs R H aH [y1,y2,y3,y4,y5,y6,y7,y8,y9,uB,A7]) (cE (iR (bd 29 3)))=some (su q.2):=
   j2 (z:=190) (vs:=[iv q.2.n,.lst (aH.map cF),.lst (hs.map dx)]) rfl (by decide) (by lia) (by lia) (by lia) (wq Hs I (rF 0 (by decide)) (I.ent 0 (by decide) q hq))
  show(eZ (some aj) λok=>if ok=aj then(ay PR [] 58 (cN (iR (bd 29 3))) ((aJ "number",iv q.2.n)::Oi ds hs R H aH [y1,y2,y3,y4,y5,y6,y7,y8,y9,uB,A7]) (cE (iR (bd 29 3)))).map some else some ah)=_;refine am e1 ?_;rfl
 exact(yQ rfl (by lia) hc).trans (by lia)
theorem GV(Hs:cH hs)(I:jK hs st aH H R)(rF:∀i,i<3->∀j,j<aH.length->j∈H i)(hi:i<3):V.lst ((R i).map λq=>su q.2)=tY (R 0):=by
 have key:∀i,i<3->((R i).map λq=>su q.2)=(vz aH).map λn=>(rg 28 Ny [iv n,.lst (aH.map cF),.lst (hs.map dx)]).getD .none:=λi hi=>by have hd:=I.Lu i hi;replace hd:=(qu (rF i hi))▸hd;refine jj hd ?_;unfold bR;refine am bF (dN λq hq=>?_);show su q.2=(rg 28 Ny [iv q.2.n,.lst (aH.map cF),.lst (hs.map dx)]).getD .none;refine am (wq Hs I (rF i hi) (I.ent i hi q hq)) ?_;rfl
 unfold tY;exact am (key i hi) (am (key 0 (by decide)) rfl)
end
noncomputable def XG:Expr:=match bd 29 4 with
 |.Return (some e) _=>e
 |_=>gK
noncomputable def oC:Expr:=CC XG
noncomputable def iC:Expr:=cE oC
noncomputable def iX(k:Nat):Expr:=match cE iC with
 |.BinOp _ _ (.List es _) _=>es.getD k gK
 |_=>gK
section
variable{ds:List Nat}{hs:List bS}{aH:List dh}{H:Nat->List Nat}{R:Nat->List (Nat×gz)}{i:Nat}{y1 y2 y3 y4 y5 y6 y7 y8 y9 uB A7:V}{e:gz}{rv:V}
noncomputable def DO(e:gz)(rv:V)(σ:Sg):Sg:=(aJ "entry",.lst (iP e))::(aJ "row",rv)::σ
theorem NY(Hs:cH hs)(Pa:∀(k:Nat) (m:dh),aH[k]?=some m->m.c<=15)(h0:(eO oQ σ).isNone=aj)(E:mS hs aH Hi e):ay PR [] 52 (cN iC) (DO e rv σ) (iX 0)=some (.lst (e.tS.map nP)):=by
 refine oO E.ex λk0 m x tl h1 h2 h3 h4 h5 h6 _=>?_;have hw:=Hs.w x (aX h4);have hit:g7 PR [] 51 (cN iC) (DO e rv σ) (pJ (iX 0))=some e.tS:=by lia
 refine fK rfl (by lia) h0 hit ?_;have key:∀v∈e.tS,fk [] (aJ "str") [v]=some (nP v):=λv hv=>by
  rw[h6]at hv;simp only[jL,ax,bA,or_false]at hv;have hxr:=Hs.r x (aX h4);rcases hv with rfl|rfl|rfl|rfl
  ·exact n6 (by decide)
  ·exact n6 (by have:=Pa k0 m h2;exact ZF this)
  ·exact n6 (o3 hxr)
  ·exact zz hw
 have:=mP (a:=id) (b:=nP) (f:=λv=>(gx PR [] 51 (cN (iX 0)) ((aJ "part",v)::DO e rv σ) []).bind λok=>if ok then(ay PR [] 51 (cN (iX 0)) ((aJ "part",v)::DO e rv σ) (cE (iX 0))).map some else some af) e.tS λv hv=>by have e1:ay PR [] 51 (cN (iX 0)) ((aJ "part",v)::DO e rv σ) (cE (iX 0))=some (nP v):=gh rfl (by decide) (by lia) (by lia) (by decide) (vs:=[v]) (by lia) (key v hv);show(eZ (some aj) λok=>if ok=aj then(ay PR [] 51 (cN (iX 0)) ((aJ "part",v)::DO e rv σ) (cE (iX 0))).map some else some ah)=_;rw[e1];rfl
 rw[tP]at this;exact this
theorem GY(h0:(eO oQ σ).isNone=aj)(E:mS hs aH Hi e):ay PR [] 50 (cN iC) (DO e rv σ) (iX 2)=some (.lst (qY e.pt)):=by
 refine fQ E.ex λk0 m x tl h1 h2 h3 h4 h5 h6 h7 h8 h' t' M P=>?_;have hit:g7 PR [] 49 (cN iC) (DO e rv σ) (pJ (iX 2))=some e.pt:=by lia
 refine fK rfl (by lia) h0 hit ?_;have:=mP (a:=id) (b:=λv=>V.int ((m4 16 v).getD 0)) (f:=λv=>(gx PR [] 49 (cN (iX 2)) ((aJ "part",v)::DO e rv σ) []).bind λok=>if ok then(ay PR [] 49 (cN (iX 2)) ((aJ "part",v)::DO e rv σ) (cE (iX 2))).map some else some af) e.pt λv hv=>by refine eE (z3 _ _ P.SL v hv) λk hk=>cW (cP.mp hk) λy hy hr=>?_;have e1:ay PR [] 49 (cN (iX 2)) ((aJ "part",v)::DO e rv σ) (cE (iX 2))=some (.int k):=gh rfl (by decide) (by lia) (by lia) (by decide) (ce (by lia) (bn rfl (a:=.int 16) (b:=v) (by lia) (by lia) hy) ci) (qR hr);show(eZ (some aj) λok=>if ok=aj then(ay PR [] 49 (cN (iX 2)) ((aJ "part",v)::DO e rv σ) (cE (iX 2))).map some else some ah)=some (some (V.int ((m4 16 v).getD 0)));refine am e1 ?_;refine am hk ?_;rfl
 rw[tP]at this;exact this
theorem Lp(Hs:cH hs)(Pa:∀(k:Nat) (m:dh),aH[k]?=some m->m.c<=15)(h0:(eO oQ σ).isNone=aj)(E:mS hs aH Hi e):ay PR [] 55 (cN iC) (DO e rv σ) (cE iC)=some (su e):=by refine bn rfl (a:=.lst [iv e.n,.lst e.tS,.str (mk e.tx)]) (b:=.lst [.lst (e.tS.map nP),.bool aj,.lst (qY e.pt),iv e.sh]) (by lia) (I0 (es:=[iX 0,iX 1,iX 2,iX 3]) rfl (by simp) ?_) (by lia);exact ce (by lia) (NY Hs Pa h0 E) (ce (by lia) (a:=.bool aj) (by lia) (ce (by lia) (GY h0 E) (ce (by lia) (a:=iv e.sh) (by lia) ci)))
theorem Sp(Hs:cH hs)(I:jK hs st aH H R)(hi:i<3)(h0:(eO oQ σ).isNone=aj):ay PR [] 56 (cN oC) ((aJ "row",sv (R i))::σ) iC=some (.lst ((R i).map λq=>su q.2)):=by
 have hit:g7 PR [] 55 (cN oC) ((aJ "row",sv (R i))::σ) (pJ iC)=some ((R i).map λq=>.lst (iP q.2)):=by lia
 refine fK rfl (by lia) h0 hit (mP (b:=λq:Nat×gz=>su q.2) (R i) λq hq=>?_);have e1:=Lp (rv:=sv (R i)) (σ:=σ) Hs I.cnt h0 (I.ent i hi q hq);show(eZ (some aj) λok=>if ok=aj then(ay PR [] 55 (cN iC) (DO q.2 (sv (R i)) σ) (cE iC)).map some else some ah)=_;refine am e1 ?_;rfl
theorem Ox(Hs:cH hs)(I:jK hs st aH H R)(rF:∀i,i<3->∀j,j<aH.length->j∈H i):ay PR [] 57 (bp 29) (J2 ds hs R H aH [y1,y2,y3,y4,y5,y6,y7,y8,y9,uB,A7]) oC=some (.lst [tY (R 0),tY (R 0),tY (R 0)]):=by
 have hit:g7 PR [] 56 (bp 29) (J2 ds hs R H aH [y1,y2,y3,y4,y5,y6,y7,y8,y9,uB,A7]) (pJ oC)=some ([0,1,2].map λi=>sv (R i)):=by lia
 refine fK rfl (by lia) (by lia) hit (mP (b:=λ_=>tY (R 0)) [0,1,2] λi hi=>?_);have hi3:i<3:=by simp only[ax,bA,or_false]at hi;exact ZE hi
 have e1:=Sp (σ:=J2 ds hs R H aH [y1,y2,y3,y4,y5,y6,y7,y8,y9,uB,A7]) Hs I hi3 (by lia);show(eZ (some aj) λok=>if ok=aj then(ay PR [] 56 (cN oC) ((aJ "row",sv (R i))::J2 ds hs R H aH [y1,y2,y3,y4,y5,y6,y7,y8,y9,uB,A7]) iC).map some else some ah)=_;refine am e1 (am (GV Hs I rF hi3) ?_);rfl
theorem J3:ay PR [] 57 (bp 29) (J2 ds hs R H aH [y1,y2,y3,y4,y5,y6,y7,y8,y9,uB,A7]) (oR XG)=some (.lst [tY (R 0),tY (R 0),tY (R 0)]):=by lia
end
theorem uh(s:String):ic (aJ s)=aj:=by
 show(be s).cps.all (λc=>decide (c<0x110000))=aj;rw[<-Array.all_toList,signs_ofString,aT];intro c hc;refine cW (bw.mp hc) λch _ fC=>?_;subst fC;refine aU ?_;have:=ch.valid;show ch.val.toNat<_;rcases this with h|⟨_,h⟩
 ·have h':ch.val.toNat<55296:=h;exact(dD _ 1 (S1 V0) (.k 1114112) (D1 (S1 V0) (.k 55296) .n) rfl h)
 ·exact h
noncomputable def Jy(k:Nat)(v:V):Prop:=∀st,∃d,dO st k v=some d/\d.canLay0=aj/\d.depth<=k
theorem nf{k:Nat}{i:Int}:Jy k (.int i):=λst=>⟨.int i,by cases k<;>rfl,by simp[cV],by simp[dG]⟩
theorem G7{k:Nat}{b:Bool}:Jy k (.bool b):=λst=>⟨.bool b,by cases k<;>rfl,by simp[cV],by simp[dG]⟩
theorem pv{k:Nat}{x:aq}(h:ic x=aj):Jy k (.str x):=λst=>⟨.str x,by cases k<;>rfl,by simp[cV,h],by simp[dG]⟩
theorem mB{k:Nat}{vs:List V}(h:∀v∈vs,Jy k v):Jy (k+1) (.lst vs):=λst=>by
 have key:∀vs:List V,(∀v∈vs,Jy k v)->∃ds,vs.mapM (dO st k)=some ds/\cg ds=aj/\dv ds<=k:=λvs=>by
  induction vs with
  |nil=>intro _;exact ml ([]) rfl rfl (bo _)
  |cons v r ih=>
   intro h;refine eN (h v (.head _) st) λd h1 h2 h3=>eN (ih λu hu=>h u (.tail _ hu)) λds h4 h5 h6=>?_;refine ml (d::ds) (by refine am bj (am h1 (am h4 ?_));rfl) (by simp[cg,h2,h5]) ?_;simp only[dv];exact o90 h3 h6
 refine eN (key vs h) λds h1 h2 h3=>?_;refine ml (.list ds) ?_ (by simp[cV,h2]) (by simp only[dG];exact o32 h3);show(vs.mapM (dO st k)).map xj=_;refine am h1 ?_;rfl
theorem JA{st:St}{a:V}{vs:List V}(h:Jy 8 (.lst (a::vs))):jy st .Eq (.lst (a::vs)) (.lst (a::vs))=some aj:=by
 refine eN (h st) λd h1 h2 h3=>?_;have e:jy st .Eq (.lst (a::vs)) (.lst (a::vs))=match dO st 8 (.lst (a::vs)),dO st 8 (.lst (a::vs))with
  |some x,some y=>if bJ x&&bJ y then some (bQ x y)else af
  |_,_=>af:=rfl
 have hs:bJ d=aj:=by unfold bJ fj;rw[h2,jI];exact aU (Yn h3)
 refine am e (am h1 ?_);dsimp only;exact am hs (am (aP (by decide)) (am (Jd d h2) rfl))
section
variable{ds:List Nat}{hs:List bS}{aH:List dh}{H:Nat->List Nat}{R:Nat->List (Nat×gz)}{i:Nat}{y1 y2 y3 y4 y5 y6 y7 y8 y9 uB A7:V}{e:gz}
theorem SH{k:Nat}{u:V}{n:Nat}{wo:String}(hw:gy u n wo)(hu:xZ u):Jy k u:=by
 have h:=(uD hw).1;rcases hu with rfl|⟨y,rfl⟩
 ·exact nf
 ·exact pv h
theorem J9(Hs:cH hs)(I:jK hs st aH H R){Hi:List Nat}(E:mS hs aH Hi e):Jy 6 (su e):=by
 refine fQ E.ex λk0 m x tl h1 h2 h3 h4 h5 h6 h7 h8 h' t' M P=>?_;have Du:=aX h4;refine eE (Hs.wo h4) λwo hw=>?_;have hu:=Hs.w x Du;have FW:=((I.typ k0 m h2 (by refine am h3 ?_;rfl)).2.2.1 tl h3).2;refine mB λv hv=>?_;simp only[ax,bA,or_false]at hv;rcases hv with rfl|rfl|rfl|rfl|rfl|rfl|rfl
 ·exact nf
 ·refine mB (k:=4) λv hv=>?_;replace hv:=h6▸hv;simp only[jL,ax,bA,or_false]at hv;rcases hv with rfl|rfl|rfl|rfl
  ·exact nf
  ·exact nf
  ·exact nf
  ·exact SH hw hu
 ·refine am h7 ?_;exact pv (Hm (ME (Hs.mC x Du) FW))
 ·refine mB (k:=4) λv hv=>?_;refine cW (bw.mp hv) λu MT fC=>?_;subst fC;replace MT:=h6▸MT;simp only[jL,ax,bA,or_false]at MT;rcases MT with rfl|rfl|rfl|rfl
  ·exact pv (uh _)
  ·exact pv (uh _)
  ·exact pv (uh _)
  ·refine am hw.str ?_;exact pv (uh _)
 ·exact G7
 ·refine mB (k:=4) λv hv=>?_;refine cW (bw.mp hv) λu _ fC=>?_;subst fC;exact nf
 ·exact nf
theorem RQ(Hs:cH hs)(I:jK hs st aH H R)(rF:∀i,i<3->∀j,j<aH.length->j∈H i):bi PR 59 (bp 29) (J2 ds hs R H aH [y1,y2,y3,y4,y5,y6,y7,y8,y9,uB,A7]) [] (bd 29 4)=some (.ret (.bool aj),J2 ds hs R H aH [y1,y2,y3,y4,y5,y6,y7,y8,y9,uB,A7],[]):=by
 have hd:Jy 7 (tY (R 0)):=mB λv hv=>by refine cW (bw.mp hv) λq hq fC=>?_;subst fC;exact J9 Hs I (I.ent 0 (by decide) q hq)
 have e:ay PR [] 58 (bp 29) (J2 ds hs R H aH [y1,y2,y3,y4,y5,y6,y7,y8,y9,uB,A7]) XG=some (.bool aj):=
  I3 rfl (by lia) (Ox Hs I rF) J3 (JA (mB λv hv=>by simp only[ax,bA,or_false]at hv;rcases hv with rfl|rfl|rfl<;>exact hd))
 exact kN e rfl
end
section
variable{ds:List Nat}{K:ph}{w:bz}{r:Nat}
theorem SJ(hd:∀d∈ds,d<100000000)(hl:ds.length=7):bW PR 70 (bp 29) [(aJ "deeds",.lst (ds.map iv))] [] [bd 29 0,bd 29 1]=some (.next,rs ds (iK ds.sum) [],GH):=by
 have e0:ay PR [] 68 (bp 29) [(aJ "deeds",.lst (ds.map iv))] (tk (iR (bd 29 0)) 0)=some (.lst ((iK ds.sum).map dx)):=
  j2 (z:=163) (vs:=[iv ds.sum]) rfl (by decide) (by lia) (by lia) (ce (by lia) (gh rfl (by decide) (by lia) (by lia) (by decide) (ce (by lia) (a:=.lst (ds.map iv)) (by lia) ci) (Gj hd (Zy hl))) ci) (H3 _)
 have UH:fw PR 68 (bp 29) [(aJ "deeds",.lst (ds.map iv))] 68 [] (iR (bd 29 0))=some (.tup [.lst ((iK ds.sum).map dx),.loc 3,.loc 7,.loc 8],GH):=
  CK (es:=[tk (iR (bd 29 0)) 0,tk (iR (bd 29 0)) 1,tk (iR (bd 29 0)) 2,tk (iR (bd 29 0)) 3]) rfl (by simp) (fE (by lia) (iQ (by lia) e0) (fE (gA:=[[],[],[],[.loc 0,.loc 1,.loc 2]]) (by lia) (u:=.loc 3) (by lia) (fE (gA:=[[],[],[],[.loc 0,.loc 1,.loc 2],[],[],[],[.loc 4,.loc 5,.loc 6]]) (by lia) (u:=.loc 7) (by lia) (fE (gA:=GH) (by lia) (u:=.loc 8) (by lia) uo))))
 have s0:bi PR 69 (bp 29) [(aJ "deeds",.lst (ds.map iv))] [] (bd 29 0)=some (.next,Nt ds (iK ds.sum),GH):=sV rfl rfl rfl UH (by lia)
 have s1:bi PR 68 (bp 29) (Nt ds (iK ds.sum)) GH (bd 29 1)=some (.next,rs ds (iK ds.sum) [],GH):=by lia
 exact(aB s0).trans ((aB s1).trans dY)
theorem DI:∀D:List Nat,jX (D.map iv)=aj
 |[]=>rfl
 |a::r=>by show(aj&&jX (r.map iv))=aj;refine am (DI r) ?_;rfl
theorem Sn(O:Wo K w ag mg mb)(hd:∀d∈ds,d<100000000)(hl:ds.length=7):sb prog w ag (r+4) 195 [.lst (ds.map iv)] (.bool aj):=by have Hs:=H4 ds.sum;refine gen λGG fN=>?_;obtain⟨aH,H,R,jt,x,Y,c,I,rF,hy⟩:=UR (prog:=prog) (r:=r) O Hs hd hl;refine fN ?_;have D:=O.L.UZ.at O.X XM;rw[show(dc 29).body=[bd 29 0,bd 29 1]++bd 29 2::[bd 29 3,bd 29 4]from PE]at D;refine sb.vr (P:=PR) (CX O) D O.lim (ik _ ?_) rfl (SJ hd hl) c (Pr Hs I hy.mem) (m2:=61) ((aB (RS Hs I rF)).trans (dS (RQ Hs I rF) (by simp)));show(jX (ds.map iv)&&aj)=aj;rw[jJ];exact DI ds
end
set_option tactic.hygienic true
noncomputable def FaL:aN->List V->Option V:=λa vs=>if a=158 then rg 22 gL vs else ah
noncomputable abbrev PL:pD:=MK FaL
section
variable{K:ph}{w:bz}{r:Nat}
theorem UV(O:Wo K w ag mg mb):yS prog w ag (r+1) FaL:=λa vs v h=>by
 unfold FaL at h;split at h
 ·rename_i e;subst e;exact ii O.pF (O.L.U4.at O.X XS) O.lim h
 exact bM h
theorem C1.J4{P:pD}{m r:Nat}{sc:Sc}{σ:Sg}{st eJ:St}(W:Wx prog w ag mg mb r P){g:aN}{fn:aq}{p pos pos':Pos}{args:List Expr}{vs:List V}{v:V}(hg:fY P sc σ fn=some (.obj g))(g':b3 P st m sc σ args=some vs)(hf:AX prog w ag r g vs st v eJ):
  C1 prog w ag r sc (.Return (some (.Call (.Name fn p) args [] pos)) pos') σ st (.ret v,σ,eJ):=λn ι Av A env s ot f=>
 uC (AO W.d hg g' hf f λu s1 qM sd fy f1 r1=>⟨qM,sd,fy,f1,u,rfl,r1⟩)
end
theorem HC{args:List WData}(h:di.toRowW.claim.pre args=aj):∃xs:List Int,args=[.list (xs.map .int)]:=by refine c3 (hasAllW_cons (pre_splitW (r:=di.toRowW) h).1) λd r fC h1 h2=>?_;subst fC;have:=hasAllW_nil h2;subst this;refine cW (hasW_list h1) λys or h3=>?_;subst or;refine eE (items_int h3) λxs or=>?_;subst or;exact⟨xs,rfl⟩
section
variable{R:WRecords}{cl:aq->Option aN}{h:ca}
theorem rdC{vs:List ao}{d:WData}{ds:List WData}{as:List aN}(r:vX R cl h vs (d::ds) as):∃v ws as1 as2,vs=v::ws/\ReadsW R cl h v d as1/\vX R cl h ws ds as2:=
 al0 (motive_2:=λvs ds _ _=>Jn (motive:=λ_=>Prop) ds True λd ds=>∃v ws as1 as2,vs=v::ws/\ReadsW R cl h v d as1/\vX R cl h ws ds as2) r trivial λa b=>⟨_,_,_,_,rfl,a,b⟩
theorem rdN{vs:List ao}{as:List aN}(r:vX R cl h vs [] as):vs=[]:=
 al0 (motive_2:=λvs ds _ _=>Jn (motive:=λ_=>Prop) ds (vs=[]) λ_ _=>True) r rfl λ_ _=>trivial
noncomputable def RdI(R:WRecords)(cl:aq->Option aN)(h:ca)(v:ao)(d:WData):Prop:=match d with
 |.int i=>∃t,v=.int i t
 |.list xs=>∃a o vs n as,v=.ref a/\h.get? a=some o/\o.cls=.type "list"/\o.data=.seq vs n/\vX R cl h vs.toList xs as
 |_=>True
theorem rdI{v:ao}{d:WData}{as:List aN}(r:ReadsW R cl h v d as):RdI R cl h v d:=by cases r<;>first|exact trivial|exact⟨_,rfl⟩|exact⟨_,_,_,_,_,rfl,‹_›,‹_›,‹_›,‹_›⟩
theorem BK{xs:List Int}:∀{vs:List ao} {as:List aN},vX R cl h vs (xs.map .int) as->bq h [] [] (xs.map .int) vs/\vs.length=xs.length:=by
 induction xs with
 |nil=>exact λr=>rdN r▸⟨.nil,rfl⟩
 |cons x xs ih=>
  intro vs as r;refine gen λG bP=>?_;obtain⟨v,ws,a1,a2,e,a,b⟩:=rdC r;exact eA (ih b) λr1 r2=>(rdI a).elim λt e2=>bP (e▸e2▸⟨.cons (.int _ _) r1,congrArg (·+1) r2⟩)
theorem EK{xs:List Int}{ux:List ao}{as:List aN}(hl:amc [.list (xs.map .int)]=aj)(r:vX R cl h ux [.list (xs.map .int)] as):bq h [] [] [.qo (xs.map .int)] ux:=by have hz:=length_le_of_layableW (layW_cons hl).1;rw[aL]at hz;refine gen λG bP=>?_;obtain⟨v,ws,a1,a2,e,a,b⟩:=rdC r;obtain⟨ad,o,vs,n,as',e2,h1,h2,h3,h4⟩:=rdI a;refine eA (BK h4) λr1 r2=>bP (e▸e2▸rdN b▸?_);exact .cons (.qo (ws:=vs.toList) ⟨o,h1,h2,n,h3⟩ bA (by exact dp _ _ 1 V0 (.k 16777216) (D1 V0 V1 (D1 V1 (.k 1048576) .n)) rfl (ac r2) hz) r1) .nil
end
section
variable{K:ph}{w:bz}{r:Nat}
theorem Oy(O:Wo K w ag mg mb)(xs:List Int):CS prog w ag (r+4) (bp 30) (dc 30).body [(aJ "script",.qo (xs.map .int))] [] (.ret (.bool aj),[(aJ "script",.qo (xs.map .int))],[]):=by
 refine eN (IC xs) λds hl hd O9=>?_;have W:Wx prog w ag mg mb (r+4) PL:=O.wx (yF (UV (r:=r) O) (by exact dD _ 1 (S1 V0) (.p V0 (.k 4)) .n rfl));have hb:(dc 30).body=[bd 30 0]:=by lia
 refine am hb (.ret (C1.J4 (P:=PL) (m:=50) W (g:=195) (vs:=[.lst (ds.map iv)]) (by lia) (ce (by lia) ?_ ci) (Sn (r:=r) O hd hl).Qx));exact j2 (z:=158) (vs:=[.qo (xs.map .int)]) rfl (by decide) (by lia) (by lia) (by lia) O9
theorem Gu{s:ai}{a:aN}{ps:List aq}{body:List cy}{scope:jm}{vs:List V}{ws:List ao}{E:ao->ai->Prop}{Q:ao->ai->Prop}{out:ga}(hs:ag=s.heap)(D:lE ag a ps body scope)(iO:ag.NoLimit)(hr:r<100)(hu:ajw.units+1000*(r+1)+500<nM)
  (hc:∀x∈scope.names,x.2≠.cell) (hnc:∀k,nL k scope.names []=[]) (hp:∀p∈ps,scope.names.lookup p=some .local) (hnz:ps.length=1) (rs:bq s.heap [] [] vs ws) (hlen:vs.length=ps.length) {v:V} (hv:out.1=.ret v) (h:CS prog w ag r scope.names body (ps.zip vs) [] out)
  (k:∀u s' db df,fR (dM ag) nC [] [] s db df s'->bZ s'.heap db df v u->Q u s'):ed (az prog w) ajw (call (.ref a) ws) Q E s:=by
 subst hs;refine qw D.ex λname params pm cd jd o ho hd ze rD=>?_;have zd:ws.length=ps.length:=by refine jj rs.length ?_;exact hlen
 refine qQ (kJ (by decide) ho hd D.co D.gen rfl ze ?_);refine am (rD ws zd) (aO (akS hc (λx hx=>hp _ (Qn hx).1) (λgZ MV hsb=>?_) D.kind));refine⟨iO.fresh _ hsb,vA ?_⟩;let s2:ai:={s with toks:=s.toks+1};have c:lf s.heap (r+1) 0 ajw s2:=⟨rfl,(by exact dD _ 1 (.p (.k 301) (S1 V0)) (.k 900) (D1 (S1 V0) (.k 100) .n) rfl hr),hu,⟨[],rfl,trivial,λ_ h=>nomatch h⟩,jE 1 _,λ_ _ e=>e⟩;have hzl:(ps.zip ws).length=1:=by rw[List.length_zip,zd,hnz];rfl
 have X:InCallC s2 (dj (fg name params body scope pm cd jd) s2.heap.objs.size a).locals (NB (dj (fg name params body scope pm cd jd) s2.heap.objs.size a).kindOf (ps.zip ws) λ_=>ah) (dj (fg name params body scope pm cd jd) s2.heap.objs.size a).cells (ajM (dj (fg name params body scope pm cd jd) s2.heap.objs.size a).kindOf (ps.zip ws) λ_=>ah) {s with heap:=gZ,toks:=s.toks+(ps.zip ws).length}:=by
  refine(Kv hnz).elim λp HS=>(Kv (zd.trans hnz)).elim λu hw1=>?_
  ·have QI:=hp p (HS▸.head _);refine am HS (am hw1 ?_);replace MV:=hw1▸HS▸MV;refine⟨⟨⟨gZ,_,rfl⟩,?_,λb o e=>hsb.extBut b o (dk (dK e)) (aQ _ e),aD _⟩,?_,?_,?_⟩
   ·have:(NB (dj (fg name params body scope pm cd jd) s2.heap.objs.size a).kindOf ([p].zip [u]) λ_=>ah)=λx=>ajU x ([p].zip [u]).reverse:=by
     funext x;have hk:(dj (fg name params body scope pm cd jd) s2.heap.objs.size a).kindOf p=some .local:=QI;rw[gb,aka,NB,NB,aP hk,List.reverse_singleton,dr];by_cases hx:x=p
     ·rw[aP hx,hx,c6]
     ·refine am (bg hx) (am (beq_false_of_ne hx) ?_);rfl
    refine am this ?_;exact MV
   all_goals (unfold dj;dsimp only[newEnv];rw[show(fg name params body scope pm cd jd).scope=scope from rfl,hnc])
   ·exact λ_ _ h=>nomatch h
   ·exact .nil
   ·exact λ_ _ h=>nomatch h
 have en:=sQ (n:=0) (vs:=vs) D c (st:=[]) ⟨(λ_ h=>by cases h),(λ_ h=>by cases h),fG,rfl,(λl vs q=>by cases l<;>cases q)⟩ (λ_ h=>by cases h) rs (by refine am hzl ?_;exact jE 1 _) X;have wa:dj (fg name params body scope pm cd jd) s2.heap.objs.size a=newEnv scope s.heap.objs.size (fg name params body scope pm cd jd).globals (fg name params body scope pm cd jd).closure ((fg name params body scope pm cd jd).qualname++".<locals>.") (some a) cd ah (fg name params body scope pm cd jd).builtins:=by unfold dj;rw[show(fg name params body scope pm cd jd).scope=scope from rfl,hnc];rfl
 replace en:=wa▸en;refine cD (h 0 [] [] _ _ _ ⟨en.facts.1,[],gQ rfl⟩ en.fx) (λfl s' d=>?_) λ_ _ z=>z.elim;refine c3 d λdb df fy f' lL=>?_;replace lL:=hv▸lL;refine cW lL λuv or ru=>?_;subst or;have x:=en.back db df s' fy;exact k _ _ db df ⟨x.pre,x.sub,x.new,x.v5,x.ke,x.al,x.sh⟩ ru
end
theorem Rh{q:cO}{loose:List aq}{XP:(aq->Option ao)->ca->Prop}{K:aky->ph}{Vm:List aN}{e0:∀P,Vm=(K P).map (·.1)}{d:DefRec}{Oz:List (aq×Expr)}{c:aN}(hd:d.name=aJ "law")(lay:∀P,WP (K P) P)(Tt:∀P,lQ (K P) 202 c (dc 30)):
  Nv q loose XP (kHook K Vm e0).says d Oz:=by
 intro w fV s₁ mg mb G Y fa o pm cd jd dV kV ho Jv ze hD KV hg args ux as v9 KY hrd zd Un;have KX:=kIn_of Y;refine Ground.open G ?_;intro T B D TE TW;have O:Wo (K w.params) w s₁.heap mg mb:=⟨KX,lay w.params,T.g,T.b,T.builtins,T.nolimit⟩;refine eE (HC v9) λxs or=>?_;subst or;have hfa:fa=202:=by replace KV:=hd▸KV;have:=O.name (x:=aJ "law") (a:=202) (by simp[yz]);cases kM KV this;rfl
 subst hfa;have rs:=EK KY hrd;refine cD (Gu (r:=4) rfl ((Tt w.params).at O.X XK) O.lim (by decide) (by decide) (by decide+kernel) (λ_=>by lia) (by decide+kernel) rfl rs rfl rfl (Oy (prog:=di.prog) (r:=0) O xs) (Q:=λv s'=>ut fV [.list (xs.map .int)] s₁ (.ok (.ret v)) s') (E:=λ_ _=>False) λu s' db df fy ru=>?_) (λ_ _ g=>g) λ_ _ f=>f.elim;cases ru;refine mO fy.sh λhh tk he=>?_;refine GoodW.toG ⟨.inl ⟨_,.bool aj,[],rfl,λ_=>rfl,.bool aj,?_,λ_=>⟨fG,λ_ h=>nomatch h⟩⟩,λb o e=>?_,am he rfl,by refine am he ?_;assumption⟩
 ·wrow_post
 ·rcases fy.ke b o e (λh=>nomatch h) (λh=>h)with h|⟨h,_⟩
  ·exact h
  ·have:s₁.heap.get? b=ah:=h;rw[this]at e;cases e
theorem FR.at{K:ph}(r:FR)(h1:K.lookup r.a=some r.f)(h2:K.lookup (r.a-1)=some r.c):lQ K r.a (r.a-1) (dc r.k):=⟨⟨r.m,.none,h1⟩,⟨r.v,r.t+1,h2,rfl⟩⟩
theorem WN(P:aky):WP (K0 P) P where
 f44:=FR.at UQ (by lia) (by lia)
 f51:=FR.at UP (by lia) (by lia)
 f58:=FR.at UO (by lia) (by lia)
 It:=FR.at Nj (by lia) (by lia)
 Px:=FR.at Ni (by lia) (by lia)
 U9:=FR.at Nh (by lia) (by lia)
 U8:=FR.at Ng (by lia) (by lia)
 U7:=FR.at Nf (by lia) (by lia)
 U6:=FR.at Nd (by lia) (by lia)
 U5:=FR.at Nc (by lia) (by lia)
 U4:=FR.at Nb (by lia) (by lia)
 U3:=FR.at Na (by lia) (by lia)
 U2:=FR.at M' (by lia) (by lia)
 Pw:=FR.at M9 (by lia) (by lia)
 Ll:=FR.at M8 (by lia) (by lia)
 U1:=FR.at M7 (by lia) (by lia)
 U0:=FR.at M6 (by lia) (by lia)
 UZ:=FR.at M5 (by lia) (by lia)
 names:=⟨_,_,_,rfl,rfl,by lia,by lia⟩
 pat:=⟨_,rfl,rfl,rfl,rfl⟩
 code:=⟨_,_,_,rfl,rfl,by lia⟩
 tS:=⟨[_,_,_,_,_,_,_,_,_,_],rfl,rfl⟩
 c81:=⟨_,_,_,_,_,_,_,_,_,_,_,_,_,_,_,_,_,_,_,rfl,rfl,rfl,by lia,by lia,rfl⟩
 c93:=⟨_,_,_,_,_,_,_,_,_,_,_,_,_,_,_,_,_,_,_,rfl,rfl,rfl,by lia,by lia,rfl⟩
 c68:=⟨_,_,_,_,_,_,_,rfl,rfl,rfl,by lia,by lia⟩
 h11:=by lia
 h21:=by lia
 h22:=by lia
 h31:=by lia
 WB:=by lia
 h33:=by lia
 s1:=by lia
 s2:=by lia
 b1:=by lia
 b2:=by lia
theorem whole:pM.Holds:=
 holds_law RH λXq=>yw Ts (Hook.of Hk) (Hook.keeps Hk) (λs e=>xl_of s (bv.mp e).1) XL.keeps (by rfl) (by rfl) (by rfl) (λs e=>recFacts_of (bv.mp e).2) rfl Xq (by decide+kernel) ⟨rfl,rfl,rfl,rfl,rfl,by decide+kernel⟩ ⟨[.list []],by decide+kernel,by decide+kernel⟩
  (Rh (c:=201) (by rfl) WN λP=>FR.at M4 (by lia) (by lia))
end Mine
theorem PySem.Challenge.cw_wv0022_01_holds : PySem.Challenge.rw_wv0022_01.Holds :=
 Mine.whole
