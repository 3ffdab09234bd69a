import PyProof.Rows.All
import Wide.All
import OpenK.AllK
import Wide.FinOn
import Lean
import PySem.Challenge.RW_dm0136_11
set_option maxHeartbeats 8000000
set_option backward.eqns.nonrecursive false
set_option compiler.extract_closed false
set_option genSizeOf false
set_option genSizeOfSpec false
set_option bootstrap.genMatcherCode false
set_option genInjectivity false
set_option autoImplicit false
set_option maxRecDepth 100000
set_option linter.unusedVariables false
set_option linter.unusedSimpArgs false
set_option Elab.async false
open Eq renaming substr→aab,subst→adg
open Option renaming some→aac,none→aam,isSome_iff_exists→afO,bind_eq_some_iff→afW,map_eq_some_iff→agk,elim→ahN,getD_some→ah0
open PySem renaming wpAny_bind→aad,Value→aaf,Shared→aah,Addr→aai,wpAny_pure→aak,wpAny→aao,wpAny_mono→aap,model→aar,Heap→aat,Around→aaE,wpAny_holding→aaN,call→aaT,rawInt→aaV,shownName→aaX,builtinLookup_eq_fast→aaZ,Program→aa0,sizeLine_eq→aa1,eval→abe,wpAny_rule→abf,Builtin→abg,wpAny_field→abj,typeLookup_type→abl,wpAny_callSpecial?_slot→abo,Comprehension→abs,starEach→abu,typeLookup→abx,World→abC,wpAny_loadPart'→abI,wpAny_standAt→abP,wpAny_newObj_type→ab0,foldedSetIterable→ab1,wpAny_call_entry→ab5,wpAny_seqItems→ab8,wpAny_of_eq→aci,Reads→aco,callEnvC→acq,isSubtype_type→acu,cLine→acw,spliced→acB,codeAny→acC,Stmt→acE,call_meets→acL,wpAny_letGo→acM,DefRec→acP,cellsFrom→acQ,codeAny_mono→acR,slot_listiter_next→acT,Scope→acU,codeAny_builtin→acX,wpAny_newList→ac0,plainId_quiet→ac2,wpAny_attempt→ac3,pyNext→ac4,wpAny_typeNameOf'→ac5,wpAny_tryCompare_declines→ac8,sliceBounds→adb,StrKeys→adc,wpAny_newTuple→add,wpAny_tryCatch→adf,codeAmong→adp,isSubtype→adq,assignEach→adr,wpAny_load→ads,typeIs_int→adu,wpAny_specialOf→ady,plainExc_TypeError→adA,wpAny_setField_rec→adB,richCompare→adC,richCompare_meets_room→adE,Model→adF,assign→adJ,Meets→adQ,clipAt→adW,comprehension→adY,backTo→ad9,bindName→aea,noteFrame→aeb,bootBuiltins→aed,wpAny_evalAll_cons→aee,wpAny_setField→aei,markedBehindIn_of_false→aek,pyIter→aer,wpAny_throw→aes,assignInOrder→aev,wpAny_onRaise→aew,IsRange→aeB,wpAny_storeName_local→aeC,field→aeH,Result→aeI,argsOk→aeJ,letOwnedTupleGo→aeQ,wpAny_newFunctionEnv→aeW,wpAny_updateSeq_pair→aeX,wpAny_Constant_bool→aeY,entry_listiter_next→ae0,newTuple→ae4,NameKind→ae5,callWith→ae6,firstArgMember→ae8,mainGlobals→afb,typeIs_none→afc,typeOf→afd,IsPair→afe,wpAny_Constant_int→afh,wpAny_pyIter_range→afj,args_listiter_next→afl,operate→afn,wpAny_truthy_bool→aft,wpAny_pyIter_list→afu,wpAny_cRoomFor_or→afv,builtinsNs→afy,unaryOp→afB,FuncData→afF,wpAny_typeOf→afI,wpAny_isInstance→afN,wpAny_comprehension_free→afR,wpAny_callSpecial?_none→afY,DictEntry→af0,compareOp→af1,swapsWith→af2,slicePick→af3,Fin→af4,seqItems?→af6,wpAny_operating→af9,wpAny_execs_nil→aga,codeAny_of_tree→agb,wpAny_updateSeq→agd,valueOrNone→agi,wpAny_pyIter_rangeiter→agn,truthy→ags,cmpInfo→agu,recursionLimit→agv,isSubtype_stop→agw,wpAny_intField→agx,exec_Assign_Name_used→agC,Operator→agH,sizeLine→agI,bindArgs→agJ,ReadsAll→agK,keeperOf→agN,cameBackBy→agO,wpAny_call→agP,typeIs_str→agR,callMarked→agS,tryCompare→agT,call_gives→agU,wpAny_loadName_local→agW,behindInMarks→ag0,swapsWithSole→ag1,swappedStores→ag2,frameOf→ag3,wpAny_loadName_cell→ag6,wpAny_loadName_free→ag7,TriplesOk→aha,wpAny_pyIter_tuple→ahj,slot_listiter_iter→ahl,cpsOfBytes_string→aht,wpAny_assign_Name→ahv,slot_list_setitem→ahx,wpAny_evalAll_nil→ahD,subscripted→ahL,evalArgs→ahO,compTurn→ahP,seqEpoch→ahQ,wpAny_forIn_list→ahY,checkBuiltinCall→ahZ,wpAny_Try_except→ah2,wpAny_pyIter_zip→ah4,bindL→ah8,bindC→ah9,sliceRange→aia,isTrue_Compare1→aie,theTreesLotGoes→aif,intKind→aio,notedBy→aip,getItem→aiq,setItem→air,evalOpt→ais,raiseErrorMade→aiB,eval_Subscript→aiC,wpAny_bindName→aiE,Arguments→aiL,updateSeq→aiN,wpAny_handled→aiQ,evalEach→aiX,setField→aiY,exec_For→ai0,compPost→ai1
open PySem.Str renaming ofString→aae
open String renaming reduceEq→aag
open PySem.Heap renaming get?_push_of_some→aaj,get?_push_size→aaA,get?_none_of_le→aaQ,get?_update_other→aa3,get?_update_self→aa4,size_update→abh,SameBut→abv,lt_size→abG,get?_update_ne→ab2,get?_push_ne→acf,ExtBut→ach,size_push→act
open Option.some renaming injEq→aal,inj→abH
open List renaming mem_singleton→aan,getElem?_concat_length→aaq,getElem?_append_left→aas,getElem?_set_ne→aau,getElem?_eq_getElem→aav,prefix_refl→aax,mem_cons→aay,length_set→aaz,range→aaF,size_toArray→aaH,not_mem_nil→aaJ,mem_of_getElem?→aaM,getD_eq_getElem?_getD→aaO,length_map→aaP,mem_cons_self→aaS,mem_cons_of_mem→aaU,getElem?_eq_some_iff→aaY,length_reverse→aba,mem_append→abd,mem_map→abk,eq_nil_of_length_eq_zero→abm,mem_iff_getElem?→abn,getElem?_map→abE,pairwise_append→abK,length_cons→abL,length_take→abM,getElem?_eq_none→abR,length_append→abT,all_eq_true→abV,dropLast_concat_getLast→aca,getElem?_cons_zero→acd,take_add_one→acg,toArray→ack,set_set→acl,getElem?_set_self→acm,map_append→acy,mem_append_left→acz,getElem_mem→acJ,take_length→acK,take_of_length_le→acO,pairwise_cons→acS,map_cons→ac1,mem_of_mem_take→ac6,getElem?_eq_none_iff→ac7,ne_nil_of_length_pos→ac9,mem_flatMap→adj,map_congr_left→ado,mem_filter→adw,forIn_cons→adx,prefix_append→adz,pairwise_map→adI,mem_append_right→adL,length_drop→adS,set_append_left→adV,filterMap_cons→ad1,take_succ_cons→ad2,nodup_cons→ad4,range_succ→ad6,getElem?_cons_succ→aej,length_range→aep,cons_append→aeA,getElem?_toArray→aeD,getElem?_reverse→aeE,filterMap_append→aeF,set_append_right→aeG,map_map→aeN,length_pos_iff→ae3,replicate→ae7,forIn_nil→ae9,mem_filterMap→afi,getElem?_append_right→afq,reverse_cons→afs,append_assoc→afw,drop_eq_getElem_cons→afz,map_reverse→afK,ext_getElem→afM,getElem?_take_of_lt→afV,append_nil→agg,drop_eq_nil_of_le→agr,take_zero→agz,set_getElem_self→agD,filterMap_eq_map→agE,getElem_reverse→agY,mem_iff_getElem→agZ,map_take→ag5,toList_toArray→ag8,mem_map_of_mem→ag9,filterMap_nil→ahk,forIn_toArray→ahm,getElem?_drop→ahp,filterMap_map→ahq,nodup_append→ahu,ext_getElem?→ahA,foldl_append→ahF,reverse_perm→ahG,map_snd_zip→ah1,isEmpty_nil→ah3,perm_middle→ah6,filter_cons→ah7,nodup_nil→aiA,mem_range→aiF,length→ajh
open Nat renaming le_refl→aaw,le_trans→aaB,zero_le→aaL,lt_of_le_of_lt→aa9,ne_of_lt→abp,lt_of_lt_of_le→aby,min_le_right→abB,le_of_eq→abQ,le_add_right→ab3,lt_succ_self→ab4,le_of_lt→adi,min_eq_left→adv,lt_succ_of_lt→adH,le_of_not_le→adR,not_lt→aeK,min_le_left→aeP,strongRecOn→aeR,add_le_add_right→aeU,add_left_cancel→ae2,lt_irrefl→afo,sub_le→afx,min_eq_right→afJ,le_succ→agh,two_pos→agj,le_mul_of_pos_left→ago,lt_of_sub_eq_succ→agA,zero_min→ahe,ne_of_gt→ahf,zero_lt_of_lt→ahs,lt_succ_of_le→ahz,lt_of_succ_lt→ahH,lt_of_not_le→ahU,le_of_not_lt→ahV,not_le_of_lt→ahW,le_add_left→aii,add_le_add→aiz,lt_trans→ai8,succ_pos→aja,lt_min→ajk
open PySem.Builtin.Range renaming rangeFitsLong→aaC,rangeSize→aaD,small→abq
open PySem.Obj renaming mapSeq→aaG,mapFields→abr,data_mapFields→abS,isFreed_of_fields→acY,cls_mapFields→aem
open PySem.Value renaming none→aaI,type→aaK,ref→ada,notImplemented→adT,bool→agQ,builtin→ag4,str→aiM
open Ne renaming symm→aaR
open Bool renaming false_eq_true→aaW,false_ne_true→abz,and_eq_true→abW,and_eq_true_iff→acA,not_false→adK,or_eq_true→age,not_eq_true'→ahE
open PyProof.Rows renaming listItems_at→aa2,seqObj→aa5,recsOf→abF,get?_update_seq→abJ,size_push'→abU,listUpdate_at→abY,sortedHeap→acx,reads_list_items→adk,seqEpoch_at→adD,reads_int_inv→adX,drecsOf→ad0,sortedAll→aec,readsAll_cons_inv→aeo,readsAll_nil_inv→aey,wpAny_call_entry_kw→ae1,slot_list_sort→afa,pairsOf→afE,arrOf→afZ,entry_list_sort→agf,bubble→agt,IsTup→agF,failedOf→agL,SortKind→agM,getMethod_list_of→ahw,reads_tuple_items→ahy,keyKind'→ahR,ksk_tree→ahS,ksk_rest→ahT,IntsAre→ait,tuples'→aiu,subscriptTail→aiR,callWith_type→aiU,getItem_tuple→aiV,tail_any→aiZ,general'→ai3,oneType'→ai4,isub_int→aji
open Int renaming toNat→aa6,ofNat_lt→aa7,le_trans→aa8,ofNat_le→abc,sub_nonneg_of_le→abt,natCast_nonneg→abw,not_lt→abD,le_sub_one_of_lt→abX,sub_pos_of_lt→abZ,lt_of_le_of_lt→ab6,le_of_lt→acj,eq_ofNat_of_zero_le→acF,toNat_of_nonpos→acH,zero_add→adh,toNat_of_nonneg→adn,toNat_natCast→adG,not_le→aeh,lt_trans→aeM,sub_le_sub_right→aeS,sub_nonpos_of_le→aeT,lt_of_lt_of_le→aff,emod_lt_of_pos→afg,add_assoc→afm,ofNat_inj→afp,add_zero→afG,lt_toNat→afH,le_antisymm→af7,emod_nonneg→af8,add_le_add_right→agV,mul_zero→ahc,le_of_eq→ahd,sub_add_cancel→ahi,add_mul→ahI,sub_sub→ahJ,mul_one→ahK,max_eq_right→ahX,natCast_mul→aic,sub_le_self→aid,ediv_nonneg→aig,natCast_add→aih,mul_nonneg→aiv,neg_le_neg→aiw,neg_lt_neg→aix,add_le_add→aiy,le_add_one→aiD,ofNat_sub→aiP,zero_mul→ai5,toNat_lt→ai6,ne_of_lt→ai7,sub_zero→ai9,ne_of_gt→ajc,ediv_one→ajd,mul_add→aje,mul_neg→ajf
open PySem.PyData renaming eqv→abb,canLayAll0→abO,depthAll→acW,eqvAll→adZ,list→aet,int→aeL,tuple→ahg,depth→ahh,strOk→ajb,none→ajg
open PySem.Builtin.SmallTypes renaming nextOf→abi,ownedTupleIsFree→acb,stopIteration→adm,ownedTupleHandOut→aef
open PySem.W renaming kas_desc→abA,kas_place→acs,kas_rev→acD,kas_sort→acI,kas_asc→acV,tabObj→ad8,kas_item→aex,kas_descPart→aeO,hideAll→afC,kas_bin→afD,kas_count→af5,Looks→agG,kas_tail3→ahb,kla_obj→ahr,hideAll_get→ahM
open PySem.Heap.SameBut renaming update→abN
open PySem.F renaming slot_longrange_iterator_next→ab7,slot_range_iterator_next→acr,plain_max_loop→acN,slot_zip_next→adM,args_longrange_iterator_next_1→ad3,entry_longrange_iterator_next→ad7,args_range_iterator_next_1→aeq,entry_range_iterator_next→aeu,slot_list_lt→aeV,slot_list_append→afQ,slot_int_le_refl→afS,slot_int_eq_refl→afT,args_zip_next_1→afX,args_list_lt_2→agm,entry_zip_next→agp,entry_max_loop→agq,sub_int_dict→agy,entry_list_lt→agB,plain_reversed_new→agX,slot_NoneType_ge→aho,plain_max→ahB,entry_max→ahC,kind_max→ah5,sub_int_tuple→aik,sub_dict_dict→ail,args_int_le_2→aim,slot_tuple_ge→ain,sub_int_list→aiG,entry_int_le→aiH,slot_list_ge→aiI,slot_dict_ge→aiJ,slot_dict_eq→aiK,slot_str_ge→aiT
open PySem.Around renaming under_plainId→ab9
open PySem.W.KasT renaming ret→ace,ask→ai2
open PySem.Builtin.List renaming listItems→acn,listUpdate→acG,listSubscript?→aiO
open Array renaming getElem?_eq_some_iff→acp,toList_inj→adl,toList_reverse→adU,toList_map→aez,length_toList→aeZ,toList_zip→afL,forIn_toList→ahn,getD→aib,size_push→aij,map_map→aiS
open PySem.Calls renaming docDef→acv,callWith_function→ael,Name_function_global→afr,call_function_entry→afA,call_len_list→aiW
open PySem.Builtin.Iterators_pickling renaming intField→acZ
open List.Perm renaming refl→ade,eq_of_pairwise→afU,swap→ajl
open PyProof.Rows.SortSt renaming mk'→adt
open PySem.Challenge renaming pw_dm0136_11→adN
open Pure renaming pure→adO
open PySem.Builtin.Builtins renaming bindParams→adP
open Array.Perm renaming refl→ad5
open Iff renaming rfl→aeg
open List.Pairwise renaming nil→aen,sublist→ajj
open WellFounded renaming fix_eq→afk,fix→agc
open PySem.AutoSeq1 renaming sub_tuple_tuple→afP,sub_list_list→agl
open PySem PySem.W PyProof.Rows
namespace Mine
section
noncomputable abbrev Po:=List Int
noncomputable def pV(c:List Nat):Po->Int
 | []=>0
 | k::p=>k+go c p
where go:List Nat->Po->Int
 | x::c,k::p=>k*x+go c p
 | _,_=>0
noncomputable def pA:Po->Po->Po
 | [],q=>q
 | a::p,q=>match q with
  | []=>a::p
  | b::q=>(a+b)::pA p q
noncomputable def pM(k:Int):Po->Po:=List.map (k * ·)
noncomputable def pE(i:Nat):Po:=0::(ae7 i 0++[1])
theorem o9(c:List Nat):pV.go c []=0:=by cases c<;>rfl
theorem KV(a b c d:Int):a+b+(c+d)=a+c+(b+d):=by(refine aab (afm ..) ?_;refine aab (afm ..) ?_;exact aab (Int.add_left_comm b c d) rfl)
theorem tN:∀(c:List Nat) (p q:Po),pV.go c (pA p q)=pV.go c p+pV.go c q
 | c,[],q=>by refine aab (o9 c) ?_;exact(adh _).symm
 | c,a::p,[]=>by refine aab (o9 c) ?_;exact(afG _).symm
 | [],a::p,b::q=>rfl
 | x::c,a::p,b::q=>by
  show(a+b)*x+pV.go c (pA p q)=(a*x+pV.go c p)+(b*x+pV.go c q)
  (refine aab (tN c p q) ?_;refine aab (ahI ..) ?_);exact KV ..
theorem lK(c:List Nat)(p q:Po):pV c (pA p q)=pV c p+pV c q:=by
 cases p with
 | nil=>exact(adh _).symm
 | cons a p=>
  cases q with
  | nil=>exact(afG _).symm
  | cons b q=>
   show(a+b)+pV.go c (pA p q)=_;refine aab (tN ..) ?_;exact KV ..
theorem tO(k:Int):∀(c:List Nat) (p:Po),pV.go c (pM k p)=k*pV.go c p
 | c,[]=>by show pV.go c []=_;(refine aab (o9 ..) ?_;exact(ahc ..).symm)
 | [],a::p=>(ahc k).symm
 | x::c,a::p=>by
  show k*a*x+pV.go c (pM k p)=k*(a*x+pV.go c p)
  (refine aab (tO k c p) ?_;refine aab (aje ..) ?_;exact aab (Int.mul_assoc ..) rfl)
theorem lM(k:Int)(c:List Nat)(p:Po):pV c (pM k p)=k*pV c p:=by
 cases p with
 | nil=>exact(ahc k).symm
 | cons a p=>show k*a+pV.go c (pM k p)=k*(a+pV.go c p);(refine aab (tO ..) ?_;exact(aje ..).symm)
theorem qC:∀(c:List Nat) (i:Nat),pV.go c (ae7 i 0++[1])=((c.getD i 0:Nat):Int)
 | [],i=>by cases i<;>rfl
 | x::c,0=>by show 1*(x:Int)+pV.go c []=_;refine aab (o9 ..) ?_;simp
 | x::c,i+1=>by
  show 0*(x:Int)+pV.go c (ae7 i 0++[1])=_
  (refine aab (qC c i) ?_;refine aab (ai5 ..) ?_;refine aab (adh ..) ?_);rfl
set_option genCtorIdx false in
inductive fz where
 | v (i:Nat) | k (n:Nat) | a (x y:fz) | s (x y:fz) | m (n:Nat) (x:fz) | r (x:fz) (n:Nat) | mn (x y:fz) | mx (x y:fz)
noncomputable def at':List Nat->Nat->Nat
 | [],_=>0
 | x::c,i=>match i with
  | 0=>x
  | i+1=>at' c i
noncomputable def fz.d(c:List Nat):fz->Nat
 | .v i=>at' c i
 | .k n=>n
 | .a x y=>x.d c+y.d c
 | .s x y=>x.d c-y.d c
 | .m n x=>n*x.d c
 | .r x n=>x.d c*n
 | .mn x y=>min (x.d c) (y.d c)
 | .mx x y=>max (x.d c) (y.d c)
set_option genCtorIdx false in
inductive LP where
 | le (x y:fz) | lt (x y:fz) | eq (x y:fz) | an (p q:LP) | or (p q:LP) | no (p:LP) | f
noncomputable def LP.d(c:List Nat):LP->Prop
 | .le x y=>x.d c<=y.d c
 | .lt x y=>x.d c<y.d c
 | .eq x y=>x.d c=y.d c
 | .an p q=>p.d c/\q.d c
 | .or p q=>p.d c\/q.d c
 | .no p => ¬p.d c
 | .f=>False
noncomputable def LP.i(c:List Nat):List LP->LP->Prop
 | [],g=>g.d c
 | h::u,g=>h.d c->LP.i c u g
noncomputable abbrev Al:=List (List Po×Po)
noncomputable def two(f:Po->Po->Al):Al->Al->Al:=λA B=>A.flatMap λx=>B.flatMap λy=>(f x.2 y.2).map λz=>(x.1++(y.1++z.1),z.2)
noncomputable def pS(p q:Po):Po:=pA p (pM (-1) q)
noncomputable def fz.t:fz->Al
 | .v i=>[([],pE i)]
 | .k n=>[([],[(n:Int)])]
 | .a x y=>two (λp q=>[([],pA p q)]) x.t y.t
 | .s x y=>two (λp q=>[([pS p q],pS p q),([pA (pS q p) [-1]],[])]) x.t y.t
 | .m n x=>x.t.map λz=>(z.1,pM n z.2)
 | .r x n=>x.t.map λz=>(z.1,pM n z.2)
 | .mn x y=>two (λp q=>[([pS q p],p),([pS p q],q)]) x.t y.t
 | .mx x y=>two (λp q=>[([pS q p],q),([pS p q],p)]) x.t y.t
noncomputable def Ok(c:List Nat)(l:List Po):Prop:= ∀p∈l,0<=pV c p
noncomputable def Is(c:List Nat)(A:Al)(n:Nat):Prop:= ∃z∈A,Ok c z.1/\pV c z.2=n
theorem Ok.app{c:List Nat}{l m:List Po}(x:Ok c l)(y:Ok c m):Ok c (l++m):=λp h=>(abd.mp h).elim (x p) (y p)
theorem Cn{c:List Nat}{f:Po->Po->Al}{A B:Al}{x y z:Nat}(a:Is c A x)(b:Is c B y)(h:∀p q,pV c p=x->pV c q=y->Is c (f p q) z):Is c (two f A B) z:=by
 obtain⟨u,C,D,G⟩:=a;obtain⟨w,J,ow,O⟩:=b;obtain⟨t,U,W,Y⟩:=h _ _ G O;exact⟨(u.1++(w.1++t.1),t.2),adj.mpr ⟨u,C,adj.mpr ⟨w,J,abk.mpr ⟨t,U,rfl⟩⟩⟩,D.app (ow.app W),Y⟩
theorem Is.one{c:List Nat}{p:Po}{n:Nat}(e:pV c p=n):Is c [([],p)] n:=⟨_,aaS,(λu h=>by cases h),e⟩
theorem Is.alt{c:List Nat}{p q:Po}{n:Nat}{A:Al}(h:0<=pV c p)(e:pV c q=n):Is c (([p],q)::A) n:=⟨_,aaS,λr hr=>by refine aab (aan.mp hr) ?_;exact h,e⟩
theorem Is.next{c:List Nat}{z:List Po×Po}{n:Nat}{A:Al}(h:Is c A n):Is c (z::A) n:=h.elim λw u=>⟨w,aaU _ u.1,u.2⟩
theorem dZ(c:List Nat)(p q:Po):pV c (pS p q)=pV c p-pV c q:=by unfold pS;(refine aab (lK ..) ?_;refine aab (lM ..) ?_;refine aab (Int.neg_one_mul ..) ?_);rfl
theorem KW:∀(c:List Nat) (i:Nat),at' c i=c.getD i 0
 | [],_=>rfl
 | _::_,0=>rfl
 | _::c,i+1=>KW c i
theorem fz.ok(c:List Nat):∀e:fz,Is c e.t (e.d c)
 | .v i=>Is.one (by show 0+pV.go c _=_;(refine aab (qC ..) ?_;refine aab (adh ..) ?_;rw[<- KW]);rfl)
 | .k n=>Is.one (by show(n:Int)+pV.go c []=_;(refine aab (o9 ..) ?_;refine aab (afG ..) ?_);rfl)
 | .a x y=>Cn (x.ok c) (y.ok c) λp q u B=>Is.one (by(refine aab (lK ..) ?_;refine aab u ?_;refine aab B ?_);rfl)
 | .s x y=>Cn (x.ok c) (y.ok c) λp q u B=>by
  show Is c _ (x.d c-y.d c)
  by_cases h:y.d c<=x.d c
  ·exact Is.alt (by(refine aab (dZ ..) ?_;refine aab u ?_;refine aab B ?_);exact abt (abc.mpr h)) (by(refine aab (dZ ..) ?_;refine aab u ?_;refine aab B ?_);exact(aiP h).symm)
  ·exact .next (Is.alt (by(refine aab (lK ..) ?_;refine aab (dZ ..) ?_;refine aab u ?_;refine aab B ?_);show 0<=_+(-1+pV.go c []);refine aab (o9 ..) ?_;exact abX (abZ (aa7.mpr (ahU h)))) (by refine aab (Nat.sub_eq_zero_of_le (adR h)) ?_;rfl))
 | .m n x=>by
  obtain⟨z,hz,o,e⟩:=x.ok c
  exact⟨_,abk.mpr ⟨z,hz,rfl⟩,o,by(refine aab (lM ..) ?_;refine aab e ?_);exact(aic ..).symm⟩
 | .r x n=>by
  obtain⟨z,hz,o,e⟩:=x.ok c
  exact⟨_,abk.mpr ⟨z,hz,rfl⟩,o,by(refine aab (lM ..) ?_;refine aab e ?_;refine aab (Int.mul_comm ..) ?_);exact(aic ..).symm⟩
 | .mn x y=>Cn (x.ok c) (y.ok c) λp q u B=>by
  show Is c _ (min (x.d c) (y.d c))
  by_cases h:x.d c<=y.d c
  ·exact Is.alt (by(refine aab (dZ ..) ?_;refine aab u ?_;refine aab B ?_);exact abt (abc.mpr h)) (by(refine aab u ?_;exact aab (adv h) rfl))
  ·exact .next (Is.alt (by(refine aab (dZ ..) ?_;refine aab u ?_;refine aab B ?_);exact abt (abc.mpr (adR h))) (by(refine aab B ?_;exact aab (afJ (adR h)) rfl)))
 | .mx x y=>Cn (x.ok c) (y.ok c) λp q u B=>by
  show Is c _ (max (x.d c) (y.d c))
  by_cases h:x.d c<=y.d c
  ·exact Is.alt (by(refine aab (dZ ..) ?_;refine aab u ?_;refine aab B ?_);exact abt (abc.mpr h)) (by(refine aab B ?_;exact aab (Nat.max_eq_right h) rfl))
  ·exact .next (Is.alt (by(refine aab (dZ ..) ?_;refine aab u ?_;refine aab B ?_);exact abt (abc.mpr (adR h))) (by(refine aab u ?_;exact aab (Nat.max_eq_left (adR h)) rfl)))
noncomputable abbrev kS:=List (List Po)
noncomputable def dA(A B:kS):kS:=A.flatMap λx=>B.map λy=>x++y
noncomputable def Di(c:List Nat)(A:kS):Prop:= ∃l∈A,Ok c l
noncomputable def fJ(f:Po->Po->kS)(A B:Al):kS:=A.flatMap λx=>B.flatMap λy=>(f x.2 y.2).map λz=>x.1++(y.1++z)
noncomputable def p1:Po:=[-1]
noncomputable def LP.t:Bool->LP->kS
 | true,.le x y=>fJ (λp q=>[[pS q p]]) x.t y.t
 | false,.le x y=>fJ (λp q=>[[pA (pS p q) p1]]) x.t y.t
 | true,.lt x y=>fJ (λp q=>[[pA (pS q p) p1]]) x.t y.t
 | false,.lt x y=>fJ (λp q=>[[pS p q]]) x.t y.t
 | true,.eq x y=>fJ (λp q=>[[pS p q,pS q p]]) x.t y.t
 | false,.eq x y=>fJ (λp q=>[[pA (pS p q) p1],[pA (pS q p) p1]]) x.t y.t
 | true,.an p q=>dA (p.t true) (q.t true)
 | false,.an p q=>p.t false++q.t false
 | true,.or p q=>p.t true++q.t true
 | false,.or p q=>dA (p.t false) (q.t false)
 | b,.no p=>p.t (!b)
 | true,.f=>[]
 | false,.f=>[[]]
theorem nU{c:List Nat}{A B:kS}(a:Di c A)(b:Di c B):Di c (dA A B):=by
 obtain⟨x,u,C⟩:=a;obtain⟨y,D,G⟩:=b;exact⟨x++y,adj.mpr ⟨x,u,abk.mpr ⟨y,D,rfl⟩⟩,C.app G⟩
theorem Di.l{c:List Nat}{A B:kS}(a:Di c A):Di c (A++B):=a.elim λl h=>⟨l,acz _ h.1,h.2⟩
theorem Di.r{c:List Nat}{A B:kS}(b:Di c B):Di c (A++B):=b.elim λl h=>⟨l,adL _ h.1,h.2⟩
theorem sK{c:List Nat}{f:Po->Po->kS}{A B:Al}{x y:Nat}(a:Is c A x)(b:Is c B y)(h:∀p q,pV c p=x->pV c q=y->Di c (f p q)):Di c (fJ f A B):=by
 obtain⟨u,C,D,G⟩:=a;obtain⟨w,J,ow,O⟩:=b;obtain⟨t,U,W⟩:=h _ _ G O;exact⟨u.1++(w.1++t),adj.mpr ⟨u,C,adj.mpr ⟨w,J,abk.mpr ⟨t,U,rfl⟩⟩⟩,D.app (ow.app W)⟩
theorem Di.one{c:List Nat}{p:Po}{A:kS}(h:0<=pV c p):Di c ([p]::A):=⟨_,aaS,λr hr=>by refine aab (aan.mp hr) ?_;exact h⟩
theorem nV(c:List Nat)(p:Po):pV c (pA p p1)=pV c p-1:=by refine aab (lK ..) ?_;show _+(-1+pV.go c [])=_;refine aab (o9 ..) ?_;rfl
theorem LP.ok(c:List Nat):∀p:LP,(p.d c->Di c (p.t true))/\(¬p.d c->Di c (p.t false))
 | .le x y=>⟨λh=>sK (x.ok c) (y.ok c) λp q u B=>Di.one (by(refine aab (dZ ..) ?_;refine aab u ?_;refine aab B ?_);exact abt (abc.mpr h)),
   λh=>sK (x.ok c) (y.ok c) λp q u B=>Di.one (by(refine aab (nV ..) ?_;refine aab (dZ ..) ?_;refine aab u ?_;refine aab B ?_);exact abX (abZ (aa7.mpr (ahU h))))⟩
 | .lt x y=>⟨λh=>sK (x.ok c) (y.ok c) λp q u B=>Di.one (by(refine aab (nV ..) ?_;refine aab (dZ ..) ?_;refine aab u ?_;refine aab B ?_);exact abX (abZ (aa7.mpr h))),
   λh=>sK (x.ok c) (y.ok c) λp q u B=>Di.one (by(refine aab (dZ ..) ?_;refine aab u ?_;refine aab B ?_);exact abt (abc.mpr (ahV h)))⟩
 | .eq x y=>⟨λh=>sK (x.ok c) (y.ok c) λp q u B=>⟨_,aaS,λr hr=>by
    have:x.d c=y.d c:=h;simp only[aay,aaJ,or_false] at hr
    rcases hr with rfl | rfl
    ·(refine aab (dZ ..) ?_;refine aab u ?_;refine aab B ?_);exact abt (abc.mpr (abQ this.symm))
    ·(refine aab (dZ ..) ?_;refine aab u ?_;refine aab B ?_);exact abt (abc.mpr (abQ this))⟩,
   λh=>sK (x.ok c) (y.ok c) λp q u B=>by
    have h:¬x.d c=y.d c:=h
    by_cases h2:x.d c<y.d c
    ·exact Di.r (A:=[_]) (Di.one (by(refine aab (nV ..) ?_;refine aab (dZ ..) ?_;refine aab u ?_;refine aab B ?_);exact abX (abZ (aa7.mpr h2))))
    ·exact Di.one (by(refine aab (nV ..) ?_;refine aab (dZ ..) ?_;refine aab u ?_;refine aab B ?_);exact abX (abZ (aa7.mpr (Nat.lt_of_le_of_ne (ahV h2) (aaR h)))))⟩
 | .an p q=>⟨λh=>nU ((p.ok c).1 h.1) ((q.ok c).1 h.2),λh=>by
   by_cases u:p.d c
   ·exact Di.r ((q.ok c).2 λB=>h ⟨u,B⟩)
   ·exact Di.l ((p.ok c).2 u)⟩
 | .or p q=>⟨λh=>h.elim (λh=>Di.l ((p.ok c).1 h)) λh=>Di.r ((q.ok c).1 h),λh=>nU ((p.ok c).2 λq=>h (.inl q)) ((q.ok c).2 λq=>h (.inr q))⟩
 | .no p=>⟨λh=>(p.ok c).2 h,λh=>(p.ok c).1 (Classical.byContradiction h)⟩
 | .f=>⟨λh=>h.elim,λC=>⟨[],aaS,λC h=>by cases h⟩⟩
noncomputable def co(i:Nat)(p:Po):Int:=p.getD (i+1) 0
noncomputable def Co:Int->Bool
 | .ofNat _=>false
 | .negSucc _=>true
noncomputable def KX:Int->Bool
 | .ofNat 0=>false
 | .ofNat (_+1)=>true
 | .negSucc _=>false
noncomputable def elim(i:Nat)(l:List Po):List Po :=
 let P:=l.filter λp=>KX (co i p)
 let N:=l.filter λp=>Co (co i p)
 (l.filter λp => !(KX (co i p)) && !(Co (co i p)))++P.flatMap λp=>N.map λq=>pA (pM (-(co i q)) p) (pM (co i p) q)
noncomputable def bad:Po->Bool
 | []=>false
 | k::p=>Co k&&p.all λx=>x==0
noncomputable def fm:Nat->List Po->Bool
 | 0,l=>l.any bad
 | i+1,l=>l.any bad||fm i (elim i l)
theorem Q7{c:List Nat}{i:Nat}{l:List Po}(h:Ok c l):Ok c (elim i l):=by
 intro p hp
 rcases abd.mp hp with hp | hp
 ·exact h p (adw.mp hp).1
 ·obtain⟨u,D,hp⟩:=adj.mp hp;obtain⟨w,G,rfl⟩:=abk.mp hp;obtain⟨J,B⟩:=adw.mp D;obtain⟨O,C⟩:=adw.mp G
  have a:0<=co i u:=by
   cases e:co i u with
   | ofNat n=>exact abw n
   | negSucc n=>rw[e] at B;cases B
  have b:0<=-(co i w):=by
   cases e:co i w with
   | ofNat n=>rw[e] at C;cases C
   | negSucc n=>exact abw (n+1)
  (refine aab (lK ..) ?_;refine aab (lM ..) ?_;refine aab (lM ..) ?_)
  exact Int.add_nonneg (aiv b (h u J)) (aiv a (h w O))
theorem Q8{c:List Nat}{p:Po}(h:bad p=true):¬0<=pV c p:=by
 cases p with
 | nil=>cases h
 | cons k p=>
  have h:=acA.mp (show(Co k&&p.all λx=>x==0)=true from h)
  have z:∀(c:List Nat) (q:Po),(q.all λx=>x==0)=true->pV.go c q=0:=by
   intro c q
   induction q generalizing c with
   | nil=>intro _;exact o9 c
   | cons a q B=>
    intro u
    cases c with
    | nil=>rfl
    | cons x c=>
     have u:=acA.mp (show((a==0)&&q.all λx=>x==0)=true from u)
     have:a=0:=by simpa using u.1
     subst this;show 0*(x:Int)+pV.go c q=0
     (refine aab (B c u.2) ?_;refine aab (ai5 ..) ?_);rfl
  show ¬0<=k+pV.go c p
  (refine aab (z c p h.2) ?_;refine aab (afG ..) ?_)
  cases k with
  | ofNat n=>cases h.1
  | negSucc n=>exact aeh.mpr (Int.negSucc_lt_zero n)
theorem Q9{c:List Nat}:∀(n:Nat) (l:List Po),fm n l=true->¬Ok c l:=by
 have any {l:List Po} (h:l.any bad=true):¬Ok c l:=λo=>by
  obtain⟨p,u,B⟩:=List.any_eq_true.mp h;exact Q8 B (o p u)
 intro n
 induction n with
 | zero=>exact λl h=>any h
 | succ n C=>
  intro l h o
  rcases Bool.or_eq_true_iff.mp (show(l.any bad||fm n (elim n l))=true from h) with h | h
  ·exact any h o
  ·exact C _ h (Q7 o)
noncomputable def nn:Nat->List Po
 | 0=>[]
 | n+1=>pE n::nn n
theorem KY(c:List Nat):∀n,Ok c (nn n)
 | 0=>λu h=>by cases h
 | n+1=>λp h=>by
  rcases aay.mp h with rfl | h
  ·show 0<=0+pV.go c _
   (refine aab (qC ..) ?_;refine aab (adh ..) ?_);exact abw _
  ·exact KY c n p h
noncomputable def EG(n:Nat)(g:LP):List LP->kS->Bool
 | [],D=>(dA D (g.t false)).all λl=>fm n (nn n++l)
 | h::u,D=>EG n g u (dA D (h.t true))
theorem KZ(n:Nat)(g:LP)(c:List Nat):∀(u:List LP) (D:kS),EG n g u D=true->Di c D->LP.i c u g
 | [],D,h,d=>Classical.byContradiction λq=>by
  obtain⟨l,B,o⟩:=nU d ((g.ok c).2 q);exact Q9 n _ (abV.mp h l B) ((KY c n).app o)
 | p::u,D,h,d=>λC=>KZ n g c u _ h (nU d ((p.ok c).1 C))
theorem aw(n:Nat)(u:List LP)(g:LP)(h:EG n g u [[]]=true)(c:List Nat):LP.i c u g:=KZ n g c u _ h ⟨[],aaS,λB h=>by cases h⟩
theorem bV(n x:Nat):n*(x / n)<=x:=Nat.mul_div_le x n
theorem bW(n x:Nat)(h:n.beq 0=false):x<n*(x / n)+n:=Nat.lt_mul_div_succ x (Nat.pos_of_ne_zero λe=>by rw[e] at h;cases h)
noncomputable abbrev v0:fz:= .v 0
noncomputable abbrev v1:fz:= .v 1
noncomputable abbrev v2:fz:= .v 2
noncomputable abbrev v3:fz:= .v 3
noncomputable abbrev v4:fz:= .v 4
noncomputable abbrev v5:fz:= .v 5
noncomputable abbrev k0:fz:= .k 0
noncomputable abbrev k1:fz:= .k 1
noncomputable abbrev k2:fz:= .k 2
noncomputable abbrev k3:fz:= .k 3
end/-! part ari -/
theorem tP{x y:Nat}:x<y+1->¬x<y->x=y:=aw 2 [.lt v0 (.a v1 k1),.no (.lt v0 v1)] (.eq v0 v1) rfl [x,y]
theorem EH{x:Int}{y:Nat}:aa6 x<y->¬x<0->0<=x/\x<(y:Int):=λa b=>⟨abD.mp b,(ai6 (abD.mp b)).mp a⟩
theorem Ra{x y:Nat}:¬(x-(y+1)<=x/\x<x):=aw 2 [] (.no (.an (.le (.s v0 (.a v1 k1)) v0) (.lt v0 v0))) rfl [x,y]
theorem Rb{x y z:Nat}:x-(y+1)<=z/\z<x->x-(y+1)+x-1-z<x:=aw 3 [.an (.le (.s v0 (.a v1 k1)) v2) (.lt v2 v0)] (.lt (.s (.s (.a (.s v0 (.a v1 k1)) v0) k1) v2) v0) rfl [x,y,z]
theorem Cp{x y z:Nat}:x+(y+1)=z->x+1+y=z:=aw 3 [.eq (.a v0 (.a v1 k1)) v2] (.eq (.a (.a v0 k1) v1) v2) rfl [x,y,z]
theorem K0{x:Nat}:¬x>0->x=0:=aw 1 [.no (.lt k0 v0)] (.eq v0 k0) rfl [x]
theorem Rc{x y z:Nat}:x+(z+1)=y->x+1<=y:=aw 3 [.eq (.a v0 (.a v2 k1)) v1] (.le (.a v0 k1) v1) rfl [x,y,z]
theorem Rd{x y:Nat}:x+1<=y->x+1+1<=y+1:=aw 2 [.le (.a v0 k1) v1] (.le (.a (.a v0 k1) k1) (.a v1 k1)) rfl [x,y]
theorem EI{x y z:Nat}:x<y+1-(z+1+1)->x<y-(z+1):=aw 3 [.lt v0 (.s (.a v1 k1) (.a (.a v2 k1) k1))] (.lt v0 (.s v1 (.a v2 k1))) rfl [x,y,z]
theorem EJ{x y z:Nat}:x+1-(y+1+1)<=z->x-(y+1)<=z:=aw 3 [.le (.s (.a v0 k1) (.a (.a v1 k1) k1)) v2] (.le (.s v0 (.a v1 k1)) v2) rfl [x,y,z]
theorem Re{x y z w u:Nat}:z+(w+1)=y->x<z+1-(u+1+1)->x<y:=aw 5 [.eq (.a v2 (.a v3 k1)) v1,.lt v0 (.s (.a v2 k1) (.a (.a v4 k1) k1))] (.lt v0 v1) rfl [x,y,z,w,u]
theorem Rf{x y z:Nat}:y<x+1-(z+1+1)->x-1<x:=aw 3 [.lt v1 (.s (.a v0 k1) (.a (.a v2 k1) k1))] (.lt (.s v0 k1) v0) rfl [x,y,z]
theorem Rg{x y:Nat}:y+1<=x->x-1<x:=aw 2 [.le (.a v1 k1) v0] (.lt (.s v0 k1) v0) rfl [x,y]
theorem way{x:Nat}:0<=x:=aw 1 [] (.le k0 v0) rfl [x]
theorem K1{x y z:Nat}:y<x->z<y->0+x-1-y<0+x-1-z:=aw 3 [.lt v1 v0,.lt v2 v1] (.lt (.s (.s (.a k0 v0) k1) v1) (.s (.s (.a k0 v0) k1) v2)) rfl [x,y,z]
theorem K2{x y z:Nat}:z<x->0+x-1-y<x:=aw 3 [.lt v2 v0] (.lt (.s (.s (.a k0 v0) k1) v1) v0) rfl [x,y,z]
theorem Rh{x y:Nat}:x<=y->x+(y-x)<=y:=aw 2 [.le v0 v1] (.le (.a v0 (.s v1 v0)) v1) rfl [x,y]
theorem Ri{x y:Nat}:1<=y->y<=x->1<=x:=aw 2 [.le k1 v1,.le v1 v0] (.le k1 v0) rfl [x,y]
theorem Rj{x y z:Nat}:x<=z+(y-z)->z<=y->x<=y:=aw 3 [.le v0 (.a v2 (.s v1 v2)),.le v2 v1] (.le v0 v1) rfl [x,y,z]
theorem Rk{x y:Nat}:x<y->x+1+(y-(x+1))=y:=aw 2 [.lt v0 v1] (.eq (.a (.a v0 k1) (.s v1 (.a v0 k1))) v1) rfl [x,y]
theorem K3{x y:Nat}:y+1<=x->1<=x:=aw 2 [.le (.a v1 k1) v0] (.le k1 v0) rfl [x,y]
theorem EK{x:Int}{y:Nat}: -(y:Int)<=x->x<0->0<=x+(y:Int)/\x+(y:Int)<(y:Int):=λa b=>⟨aa8 (ahd (Int.add_left_neg _).symm) (agV a _),aff (Int.add_lt_add_right b y) (ahd (adh _))⟩
theorem Rl{x:Nat}:1<=x->1+(x-1)<=x:=aw 1 [.le k1 v0] (.le (.a k1 (.s v0 k1)) v0) rfl [x]
theorem K4{x y:Nat}:x<1->y<x->False:=aw 2 [.lt v0 k1,.lt v1 v0] .f rfl [x,y]
theorem Rm{x y:Nat}:1<=y->x<=1+(y-1)->¬x=y->x<y:=aw 2 [.le k1 v1,.le v0 (.a k1 (.s v1 k1)),.no (.eq v0 v1)] (.lt v0 v1) rfl [x,y]
theorem Rn{x y:Nat}:x<y->x<1+(y-1):=aw 2 [.lt v0 v1] (.lt v0 (.a k1 (.s v1 k1))) rfl [x,y]
theorem Cq{x y:Nat}:x<y->x<=y:=aw 2 [.lt v0 v1] (.le v0 v1) rfl [x,y]
theorem qD{x y:Nat}:y<x->0<x:=aw 2 [.lt v1 v0] (.lt k0 v0) rfl [x,y]
theorem K5{x:Nat}:¬x=0->0<x:=aw 1 [.no (.eq v0 k0)] (.lt k0 v0) rfl [x]
theorem EL{x y:Nat}:x<y->x-1<y:=aw 2 [.lt v0 v1] (.lt (.s v0 k1) v1) rfl [x,y]
theorem Ro{x:Nat}:x>1->1<=x:=aw 1 [.lt k1 v0] (.le k1 v0) rfl [x]
theorem Rp{x:Nat}:¬(0<=x/\x<x):=aw 1 [] (.no (.an (.le k0 v0) (.lt v0 v0))) rfl [x]
theorem EM{x:Int}{y:Nat}:aa6 x<y->0<=x->y<=1000000->-1000000<=x/\x<1000000:=λa b c=>⟨aa8 (by decide) b,aff ((ai6 b).mp a) (abc.mpr c)⟩
theorem Rq{x y z:Nat}:x=z->z<y->x<y:=aw 3 [.eq v0 v2,.lt v2 v1] (.lt v0 v1) rfl [x,y,z]
theorem Rr{x y z:Nat}:x<z->0+x-1-y<z:=aw 3 [.lt v0 v2] (.lt (.s (.s (.a k0 v0) k1) v1) v2) rfl [x,y,z]
theorem Rs{x y:Nat}:y<x->0+x-1-y<x:=aw 2 [.lt v1 v0] (.lt (.s (.s (.a k0 v0) k1) v1) v0) rfl [x,y]
theorem Rt{x:Nat}:1<=x->¬x>1->x=1:=aw 1 [.le k1 v0,.no (.lt k1 v0)] (.eq v0 k1) rfl [x]
theorem Ru{x:Nat}:x<1->x=0:=aw 1 [.lt v0 k1] (.eq v0 k0) rfl [x]
theorem Rv{x y:Nat}:y-x<=0->x<=y->x=y:=aw 2 [.le (.s v1 v0) k0,.le v0 v1] (.eq v0 v1) rfl [x,y]
theorem Rw{x y:Nat}:x<=y->x≥y->x=y:=aw 2 [.le v0 v1,.le v1 v0] (.eq v0 v1) rfl [x,y]
theorem Rx{x y:Nat}:¬x≥y->x<=(x+y) / 2:=aw 3 [.le (.m 2 v2) (.a v0 v1),.lt (.a v0 v1) (.a (.m 2 v2) k2),.no (.le v1 v0)] (.le v0 v2) rfl [x,y,(x+y) / 2] (bV 2 (x+y)) (bW 2 (x+y) rfl)
theorem Ry{x y z:Nat}:y<=z->¬x≥y->(x+y) / 2<=z:=aw 4 [.le (.m 2 v3) (.a v0 v1),.lt (.a v0 v1) (.a (.m 2 v3) k2),.le v1 v2,.no (.le v1 v0)] (.le v3 v2) rfl [x,y,z,(x+y) / 2] (bV 2 (x+y)) (bW 2 (x+y) rfl)
theorem Rz{x y z:Nat}:y-x<=z+1->(x+y) / 2-x<=z:=aw 4 [.le (.m 2 v3) (.a v0 v1),.lt (.a v0 v1) (.a (.m 2 v3) k2),.le (.s v1 v0) (.a v2 k1)] (.le (.s v3 v0) v2) rfl [x,y,z,(x+y) / 2] (bV 2 (x+y)) (bW 2 (x+y) rfl)
theorem EN{x:Int}{y:Nat}: -(y:Int)<=x->y<=1000000->¬0<=x->-1000000<=x/\x<1000000:=λa b c=>⟨aa8 (aiw (abc.mpr b)) a,aeM (aeh.mp c) (by decide)⟩
theorem K6{x y z w u:Nat}:(x+y) / 2<=w->w<u->u<z->(x+y) / 2<z:=aw 6 [.le (.m 2 v5) (.a v0 v1),.lt (.a v0 v1) (.a (.m 2 v5) k2),.le v5 v3,.lt v3 v4,.lt v4 v2] (.lt v5 v2) rfl [x,y,z,w,u,(x+y) / 2] (bV 2 (x+y)) (bW 2 (x+y) rfl)
theorem RA{x y z:Nat}:(x+y) / 2<=z->¬z=(x+y) / 2->(x+y) / 2<z:=aw 4 [.le (.m 2 v3) (.a v0 v1),.lt (.a v0 v1) (.a (.m 2 v3) k2),.le v3 v2,.no (.eq v2 v3)] (.lt v3 v2) rfl [x,y,z,(x+y) / 2] (bV 2 (x+y)) (bW 2 (x+y) rfl)
theorem RB{x y:Nat}:¬x≥y->(x+y) / 2+1<=y:=aw 3 [.le (.m 2 v2) (.a v0 v1),.lt (.a v0 v1) (.a (.m 2 v2) k2),.no (.le v1 v0)] (.le (.a v2 k1) v1) rfl [x,y,(x+y) / 2] (bV 2 (x+y)) (bW 2 (x+y) rfl)
theorem RC{x y z:Nat}:x-y<=z+1->x-((y+x) / 2+1)<=z:=aw 4 [.le (.m 2 v3) (.a v1 v0),.lt (.a v1 v0) (.a (.m 2 v3) k2),.le (.s v0 v1) (.a v2 k1)] (.le (.s v0 (.a v3 k1)) v2) rfl [x,y,z,(y+x) / 2] (bV 2 (y+x)) (bW 2 (y+x) rfl)
theorem K7{x y z w u:Nat}:x<(z+w) / 2+1->w<=u->u<y->¬z≥w->x<y:=aw 6 [.le (.m 2 v5) (.a v2 v3),.lt (.a v2 v3) (.a (.m 2 v5) k2),.lt v0 (.a v5 k1),.le v3 v4,.lt v4 v1,.no (.le v3 v2)] (.lt v0 v1) rfl [x,y,z,w,u,(z+w) / 2] (bV 2 (z+w)) (bW 2 (z+w) rfl)
theorem K8{x y z w:Nat}:y<=w->w<z->¬x≥y->(x+y) / 2<z:=aw 5 [.le (.m 2 v4) (.a v0 v1),.lt (.a v0 v1) (.a (.m 2 v4) k2),.le v1 v3,.lt v3 v2,.no (.le v1 v0)] (.lt v4 v2) rfl [x,y,z,w,(x+y) / 2] (bV 2 (x+y)) (bW 2 (x+y) rfl)
theorem RD{x y z:Nat}:x<(y+z) / 2+1->¬x=(y+z) / 2->x<(y+z) / 2:=aw 4 [.le (.m 2 v3) (.a v1 v2),.lt (.a v1 v2) (.a (.m 2 v3) k2),.lt v0 (.a v3 k1),.no (.eq v0 v3)] (.lt v0 v3) rfl [x,y,z,(y+z) / 2] (bV 2 (y+z)) (bW 2 (y+z) rfl)
theorem RE{x y z:Nat}:y<=z->¬x≥y->(x+y) / 2<z:=aw 4 [.le (.m 2 v3) (.a v0 v1),.lt (.a v0 v1) (.a (.m 2 v3) k2),.le v1 v2,.no (.le v1 v0)] (.lt v3 v2) rfl [x,y,z,(x+y) / 2] (bV 2 (x+y)) (bW 2 (x+y) rfl)
theorem RF{x y:Nat}:x+0=y->x=y:=aw 2 [.eq (.a v0 k0) v1] (.eq v0 v1) rfl [x,y]
theorem RG{x:Nat}:x-0<=x:=aw 1 [] (.le (.s v0 k0) v0) rfl [x]
theorem tQ{x:Int}: -1000000<=x/\x<1000000->x<2^63:=λh=>aeM h.2 (by decide)
theorem EP{x:Nat}:x<0->False:=aw 1 [.lt v0 k0] .f rfl [x]
theorem RH{x y:Nat}:x<y->y<=x->False:=aw 2 [.lt v0 v1,.le v1 v0] .f rfl [x,y]
theorem RI{x y:Nat}:x-y<=x:=aw 2 [] (.le (.s v0 v1) v0) rfl [x,y]
theorem RJ{x y:Nat}:y<=x->x-(x-y)=y:=aw 2 [.le v1 v0] (.eq (.s v0 (.s v0 v1)) v1) rfl [x,y]
theorem RK{x y z:Nat}:z+1<=x->y<=z->¬x=y:=aw 3 [.le (.a v2 k1) v0,.le v1 v2] (.no (.eq v0 v1)) rfl [x,y,z]
theorem RL{x y z:Nat}:z+1<=y->¬(x<y/\y<=z):=aw 3 [.le (.a v2 k1) v1] (.no (.an (.lt v0 v1) (.le v1 v2))) rfl [x,y,z]
theorem RM{x y:Nat}:x=y->x<y+1:=aw 2 [.eq v0 v1] (.lt v0 (.a v1 k1)) rfl [x,y]
theorem RN{x y z:Nat}:z<x/\x<=y->x-1<y:=aw 3 [.an (.lt v2 v0) (.le v0 v1)] (.lt (.s v0 k1) v1) rfl [x,y,z]
theorem EQ{x y:Nat}:x<y->x<y+1:=aw 2 [.lt v0 v1] (.lt v0 (.a v1 k1)) rfl [x,y]
theorem K9{x y z:Nat}:x<y+1->z<=y->¬(z<x/\x<=y)->¬x=z->x<y:=aw 3 [.lt v0 (.a v1 k1),.le v2 v1,.no (.an (.lt v2 v0) (.le v0 v1)),.no (.eq v0 v2)] (.lt v0 v1) rfl [x,y,z]
theorem tR{x:Int}: -1000000<=x/\x<1000000->-(2^63)<=x:=λh=>aa8 (by decide) h.1
theorem Cr{x y:Nat}:x<y->¬x=y:=aw 2 [.lt v0 v1] (.no (.eq v0 v1)) rfl [x,y]
theorem RO{x y z:Nat}:y<x->¬(x<y/\y<=z):=aw 3 [.lt v1 v0] (.no (.an (.lt v0 v1) (.le v1 v2))) rfl [x,y,z]
theorem RP{x y z w u:Nat}:x<z->w<u+1->w=z->u<y->x<y:=aw 5 [.lt v0 v2,.lt v3 (.a v4 k1),.eq v3 v2,.lt v4 v1] (.lt v0 v1) rfl [x,y,z,w,u]
theorem RR{x y z w:Nat}:x<z->w<y+1->w=z->x<y:=aw 4 [.lt v0 v2,.lt v3 (.a v1 k1),.eq v3 v2] (.lt v0 v1) rfl [x,y,z,w]
theorem RS{x y z w:Nat}:z<y/\y<=w->x<z->x<y-1:=aw 4 [.an (.lt v2 v1) (.le v1 v3),.lt v0 v2] (.lt v0 (.s v1 k1)) rfl [x,y,z,w]
theorem ER{x y z:Nat}:x<y+1->z<x->x-1<y:=aw 3 [.lt v0 (.a v1 k1),.lt v2 v0] (.lt (.s v0 k1) v1) rfl [x,y,z]
theorem RT{x y z:Nat}:z<x->z=y->¬x=y:=aw 3 [.lt v2 v0,.eq v2 v1] (.no (.eq v0 v1)) rfl [x,y,z]
theorem La{x y z:Nat}:z<y->z=x->x<y:=aw 3 [.lt v2 v1,.eq v2 v0] (.lt v0 v1) rfl [x,y,z]
theorem Lb{x y:Nat}:x<y+1->x<=y:=aw 2 [.lt v0 (.a v1 k1)] (.le v0 v1) rfl [x,y]
theorem RU{x y z:Nat}:z<y->z=x->x<=y-1:=aw 3 [.lt v2 v1,.eq v2 v0] (.le v0 (.s v1 k1)) rfl [x,y,z]
theorem RV{x y:Nat}:¬y<x->¬y=x->x<y:=aw 2 [.no (.lt v1 v0),.no (.eq v1 v0)] (.lt v0 v1) rfl [x,y]
theorem RW{x y z:Nat}:x<z->z<y+1->x<=y:=aw 3 [.lt v0 v2,.lt v2 (.a v1 k1)] (.le v0 v1) rfl [x,y,z]
theorem RX{x y z:Nat}:z<x->¬z<y->¬x=y:=aw 3 [.lt v2 v0,.no (.lt v2 v1)] (.no (.eq v0 v1)) rfl [x,y,z]
theorem RY{x y z:Nat}:z<y->¬z<x->x<y:=aw 3 [.lt v2 v1,.no (.lt v2 v0)] (.lt v0 v1) rfl [x,y,z]
theorem RZ{x y z:Nat}:x<y->¬x<z->¬x=z->x-1<y-1:=aw 3 [.lt v0 v1,.no (.lt v0 v2),.no (.eq v0 v2)] (.lt (.s v0 k1) (.s v1 k1)) rfl [x,y,z]
theorem R0{x y:Nat}:y<0->x<0:=aw 2 [.lt v1 k0] (.lt v0 k0) rfl [x,y]
theorem R1{x:Nat}:1<=x->max x 1=x:=aw 1 [.le k1 v0] (.eq (.mx v0 k1) v0) rfl [x]
theorem R2{x y:Nat}:x<y->x+(y-x)=y:=aw 2 [.lt v0 v1] (.eq (.a v0 (.s v1 v0)) v1) rfl [x,y]
theorem R3{x y:Nat}:x<=y->¬x<y->x=y:=aw 2 [.le v0 v1,.no (.lt v0 v1)] (.eq v0 v1) rfl [x,y]
theorem ES{x y:Nat}:x<y->y<=1000000->(x:Int)<2^63:=λa b=>ab6 (abc.mpr (aaB (adi a) b)) (by decide)
theorem R4{x:Nat}:1<=x->0<x:=aw 1 [.le k1 v0] (.lt k0 v0) rfl [x]
theorem R5{x y z:Int}:y<=z->z<=x->¬x=z->¬x=y:=λa b c e=>c (af7 (e▸a) b)
theorem Lc{x:Nat}:x<64->x<=16777216:=aw 1 [.lt v0 (.k 64)] (.le v0 (.k 16777216)) rfl [x]
theorem R6{x:Nat}:2<=x->¬x<2:=aw 1 [.le k2 v0] (.no (.lt v0 k2)) rfl [x]
theorem ET{x y:Nat}:2<=y->x=y->2<=x:=aw 2 [.le k2 v1,.eq v0 v1] (.le k2 v0) rfl [x,y]
theorem R7{x y:Nat}:x=y->y<64->x<64:=aw 2 [.eq v0 v1,.lt v1 (.k 64)] (.lt v0 (.k 64)) rfl [x,y]
theorem R8{x:Nat}:2<=x->1<=x:=aw 1 [.le k2 v0] (.le k1 v0) rfl [x]
theorem R9{x:Nat}:x<64->x<=16777216+1:=aw 1 [.lt v0 (.k 64)] (.le v0 (.a (.k 16777216) k1)) rfl [x]
theorem Cs{x:Nat}:x<2->x<=16777216:=aw 1 [.lt v0 k2] (.le v0 (.k 16777216)) rfl [x]
theorem Ld{x:Nat}:x<2->x<=16777216+1:=aw 1 [.lt v0 k2] (.le v0 (.a (.k 16777216) k1)) rfl [x]
theorem Sa{x y z w:Nat}:min y z-x=w+1->x<y:=aw 4 [.eq (.s (.mn v1 v2) v0) (.a v3 k1)] (.lt v0 v1) rfl [x,y,z,w]
theorem Sb{x y z w:Nat}:min z y-x=w+1->x<y:=aw 4 [.eq (.s (.mn v2 v1) v0) (.a v3 k1)] (.lt v0 v1) rfl [x,y,z,w]
theorem Sc{x y z w:Nat}:min x y-z=w+1->min x y-(z+1)=w:=aw 4 [.eq (.s (.mn v0 v1) v2) (.a v3 k1)] (.eq (.s (.mn v0 v1) (.a v2 k1)) v3) rfl [x,y,z,w]
theorem qE{x y:Nat}:¬y<x->x<=y:=aw 2 [.no (.lt v1 v0)] (.le v0 v1) rfl [x,y]
theorem EU{x y z:Nat}:x<=z->y<=z->max x y<=z:=aw 3 [.le v0 v2,.le v1 v2] (.le (.mx v0 v1) v2) rfl [x,y,z]
theorem sL{x y:Nat}:y<x->(x-1) / 2<x:=aw 3 [.le (.m 2 v2) (.s v0 k1),.lt (.s v0 k1) (.a (.m 2 v2) k2),.lt v1 v0] (.lt v2 v0) rfl [x,y,(x-1) / 2] (bV 2 (x-1)) (bW 2 (x-1) rfl)
theorem Sd{x y z:Nat}:y<x->z<y->x-y<x-z:=aw 3 [.lt v1 v0,.lt v2 v1] (.lt (.s v0 v1) (.s v0 v2)) rfl [x,y,z]
theorem Se{x y:Nat}:y-x<=0->¬2*x+1<y:=aw 2 [.le (.s v1 v0) k0] (.no (.lt (.a (.m 2 v0) k1) v1)) rfl [x,y]
theorem kb1{x y z w:Nat}:x-w<=y+1->w<z->x<=y+z:=aw 4 [.le (.s v0 v3) (.a v1 k1),.lt v3 v2] (.le v0 (.a v1 v2)) rfl [x,y,z,w]
theorem Sf{x y z:Nat}:y-z<=0->z<y->x<y:=aw 3 [.le (.s v1 v2) k0,.lt v2 v1] (.lt v0 v1) rfl [x,y,z]
theorem qF{x y:Nat}:x<y->(x-1) / 2<y:=aw 3 [.le (.m 2 v2) (.s v0 k1),.lt (.s v0 k1) (.a (.m 2 v2) k2),.lt v0 v1] (.lt v2 v1) rfl [x,y,(x-1) / 2] (bV 2 (x-1)) (bW 2 (x-1) rfl)
theorem EV{x y:Nat}:y<x->x≠(x-1) / 2:=aw 3 [.le (.m 2 v2) (.s v0 k1),.lt (.s v0 k1) (.a (.m 2 v2) k2),.lt v1 v0] (.no (.eq v0 v2)) rfl [x,y,(x-1) / 2] (bV 2 (x-1)) (bW 2 (x-1) rfl)
theorem Le{x y:Nat}:x-y<=0->y<x->False:=aw 2 [.le (.s v0 v1) k0,.lt v1 v0] .f rfl [x,y]
theorem Ct{x y:Nat}:x<y->x≠y:=aw 2 [.lt v0 v1] (.no (.eq v0 v1)) rfl [x,y]
theorem Lf{x y:Nat}:x<y->y=x->False:=aw 2 [.lt v0 v1,.eq v1 v0] .f rfl [x,y]
theorem Sg{x y z:Nat}:x<=z->z<y->x<y:=aw 3 [.le v0 v2,.lt v2 v1] (.lt v0 v1) rfl [x,y,z]
theorem Sh{x y:Nat}:(y-1) / 2=x->0<y->x≠y:=aw 3 [.le (.m 2 v2) (.s v1 k1),.lt (.s v1 k1) (.a (.m 2 v2) k2),.eq v2 v0,.lt k0 v1] (.no (.eq v0 v1)) rfl [x,y,(y-1) / 2] (bV 2 (y-1)) (bW 2 (y-1) rfl)
theorem Si{x y:Nat}:y<(x-1) / 2->x≠((x-1) / 2-1) / 2:=aw 4 [.le (.m 2 v2) (.s v0 k1),.lt (.s v0 k1) (.a (.m 2 v2) k2),.le (.m 2 v3) (.s v2 k1),.lt (.s v2 k1) (.a (.m 2 v3) k2),.lt v1 v2] (.no (.eq v0 v3)) rfl [x,y,(x-1) / 2,(((x-1) / 2)-1) / 2] (bV 2 (x-1)) (bW 2 (x-1) rfl) (bV 2 (((x-1) / 2)-1)) (bW 2 (((x-1) / 2)-1) rfl)
theorem Sj{x y:Nat}:y<(x-1) / 2->0<(x-1) / 2:=aw 3 [.le (.m 2 v2) (.s v0 k1),.lt (.s v0 k1) (.a (.m 2 v2) k2),.lt v1 v2] (.lt k0 v2) rfl [x,y,(x-1) / 2] (bV 2 (x-1)) (bW 2 (x-1) rfl)
theorem Sk{x y z:Nat}:(z-1) / 2=(x-1) / 2->z<y->(x-1) / 2<y:=aw 5 [.le (.m 2 v3) (.s v2 k1),.lt (.s v2 k1) (.a (.m 2 v3) k2),.le (.m 2 v4) (.s v0 k1),.lt (.s v0 k1) (.a (.m 2 v4) k2),.eq v3 v4,.lt v2 v1] (.lt v4 v1) rfl [x,y,z,(z-1) / 2,(x-1) / 2] (bV 2 (z-1)) (bW 2 (z-1) rfl) (bV 2 (x-1)) (bW 2 (x-1) rfl)
theorem Sl{x y:Nat}:y<(x-1) / 2->(x-1) / 2≠x:=aw 3 [.le (.m 2 v2) (.s v0 k1),.lt (.s v0 k1) (.a (.m 2 v2) k2),.lt v1 v2] (.no (.eq v2 v0)) rfl [x,y,(x-1) / 2] (bV 2 (x-1)) (bW 2 (x-1) rfl)
theorem Sm{x y:Nat}:y<(x-1) / 2->((x-1) / 2-1) / 2≠x:=aw 4 [.le (.m 2 v2) (.s v0 k1),.lt (.s v0 k1) (.a (.m 2 v2) k2),.le (.m 2 v3) (.s v2 k1),.lt (.s v2 k1) (.a (.m 2 v3) k2),.lt v1 v2] (.no (.eq v3 v0)) rfl [x,y,(x-1) / 2,(((x-1) / 2)-1) / 2] (bV 2 (x-1)) (bW 2 (x-1) rfl) (bV 2 (((x-1) / 2)-1)) (bW 2 (((x-1) / 2)-1) rfl)
theorem Sn{x y z:Nat}:(y-1) / 2=(z-1) / 2->x<=((z-1) / 2-1) / 2->x<=(y-1) / 2:=aw 6 [.le (.m 2 v3) (.s v1 k1),.lt (.s v1 k1) (.a (.m 2 v3) k2),.le (.m 2 v4) (.s v2 k1),.lt (.s v2 k1) (.a (.m 2 v4) k2),.le (.m 2 v5) (.s v4 k1),.lt (.s v4 k1) (.a (.m 2 v5) k2),.eq v3 v4,.le v0 v5] (.le v0 v3) rfl [x,y,z,(y-1) / 2,(z-1) / 2,(((z-1) / 2)-1) / 2] (bV 2 (y-1)) (bW 2 (y-1) rfl) (bV 2 (z-1)) (bW 2 (z-1) rfl) (bV 2 (((z-1) / 2)-1)) (bW 2 (((z-1) / 2)-1) rfl)
theorem So{x y z:Nat}:(x-1) / 2=(y-1) / 2->z<(y-1) / 2->(x-1) / 2≠y:=aw 5 [.le (.m 2 v3) (.s v0 k1),.lt (.s v0 k1) (.a (.m 2 v3) k2),.le (.m 2 v4) (.s v1 k1),.lt (.s v1 k1) (.a (.m 2 v4) k2),.eq v3 v4,.lt v2 v4] (.no (.eq v3 v1)) rfl [x,y,z,(x-1) / 2,(y-1) / 2] (bV 2 (x-1)) (bW 2 (x-1) rfl) (bV 2 (y-1)) (bW 2 (y-1) rfl)
theorem Sp{x y z:Nat}:(z-1) / 2=(x-1) / 2->z<y->((x-1) / 2-1) / 2<y:=aw 6 [.le (.m 2 v3) (.s v2 k1),.lt (.s v2 k1) (.a (.m 2 v3) k2),.le (.m 2 v4) (.s v0 k1),.lt (.s v0 k1) (.a (.m 2 v4) k2),.le (.m 2 v5) (.s v4 k1),.lt (.s v4 k1) (.a (.m 2 v5) k2),.eq v3 v4,.lt v2 v1] (.lt v5 v1) rfl [x,y,z,(z-1) / 2,(x-1) / 2,(((x-1) / 2)-1) / 2] (bV 2 (z-1)) (bW 2 (z-1) rfl) (bV 2 (x-1)) (bW 2 (x-1) rfl) (bV 2 (((x-1) / 2)-1)) (bW 2 (((x-1) / 2)-1) rfl)
theorem tS{x y z w:Nat}:x+1000<w->z<=6->x+min y z<w:=aw 4 [.lt (.a v0 (.k 1000)) v3,.le v2 (.k 6)] (.lt (.a v0 (.mn v1 v2)) v3) rfl [x,y,z,w]
theorem Sq{x y z:Nat}:(y-1) / 2=(z-1) / 2->x<=(z-1) / 2->x<=(y-1) / 2:=aw 5 [.le (.m 2 v3) (.s v1 k1),.lt (.s v1 k1) (.a (.m 2 v3) k2),.le (.m 2 v4) (.s v2 k1),.lt (.s v2 k1) (.a (.m 2 v4) k2),.eq v3 v4,.le v0 v4] (.le v0 v3) rfl [x,y,z,(y-1) / 2,(z-1) / 2] (bV 2 (y-1)) (bW 2 (y-1) rfl) (bV 2 (z-1)) (bW 2 (z-1) rfl)
theorem Sr{x y z:Nat}:(x-1) / 2=(y-1) / 2->z<y->(x-1) / 2≠y:=aw 5 [.le (.m 2 v3) (.s v0 k1),.lt (.s v0 k1) (.a (.m 2 v3) k2),.le (.m 2 v4) (.s v1 k1),.lt (.s v1 k1) (.a (.m 2 v4) k2),.eq v3 v4,.lt v2 v1] (.no (.eq v3 v1)) rfl [x,y,z,(x-1) / 2,(y-1) / 2] (bV 2 (x-1)) (bW 2 (x-1) rfl) (bV 2 (y-1)) (bW 2 (y-1) rfl)
theorem Ss{x y z:Nat}:0<x->x=y->z<=(x-1) / 2->¬z<y->False:=aw 4 [.le (.m 2 v3) (.s v0 k1),.lt (.s v0 k1) (.a (.m 2 v3) k2),.lt k0 v0,.eq v0 v1,.le v2 v3,.no (.lt v2 v1)] .f rfl [x,y,z,(x-1) / 2] (bV 2 (x-1)) (bW 2 (x-1) rfl)
theorem Lg{x y:Nat}:(x-1) / 2=y->0<x->x=2*y+1\/x=2*y+2:=aw 3 [.le (.m 2 v2) (.s v0 k1),.lt (.s v0 k1) (.a (.m 2 v2) k2),.eq v2 v1,.lt k0 v0] (.or (.eq v0 (.a (.m 2 v1) k1)) (.eq v0 (.a (.m 2 v1) k2))) rfl [x,y,(x-1) / 2] (bV 2 (x-1)) (bW 2 (x-1) rfl)
theorem Su{x:Nat}:0<x->x≠(x-1) / 2:=aw 2 [.le (.m 2 v1) (.s v0 k1),.lt (.s v0 k1) (.a (.m 2 v1) k2),.lt k0 v0] (.no (.eq v0 v1)) rfl [x,(x-1) / 2] (bV 2 (x-1)) (bW 2 (x-1) rfl)
theorem Sv{x y:Nat}:0<y->x<=(y-1) / 2->x<y:=aw 3 [.le (.m 2 v2) (.s v1 k1),.lt (.s v1 k1) (.a (.m 2 v2) k2),.lt k0 v1,.le v0 v2] (.lt v0 v1) rfl [x,y,(y-1) / 2] (bV 2 (y-1)) (bW 2 (y-1) rfl)
theorem Sw{x y:Nat}:(x-1) / 2=y->(y-1) / 2≠x->0<x:=aw 4 [.le (.m 2 v2) (.s v0 k1),.lt (.s v0 k1) (.a (.m 2 v2) k2),.le (.m 2 v3) (.s v1 k1),.lt (.s v1 k1) (.a (.m 2 v3) k2),.eq v2 v1,.no (.eq v3 v0)] (.lt k0 v0) rfl [x,y,(x-1) / 2,(y-1) / 2] (bV 2 (x-1)) (bW 2 (x-1) rfl) (bV 2 (y-1)) (bW 2 (y-1) rfl)
theorem Sx{x y z:Nat}:(y-1) / 2=z->(z-1) / 2=x->0<y->x≠y:=aw 5 [.le (.m 2 v3) (.s v1 k1),.lt (.s v1 k1) (.a (.m 2 v3) k2),.le (.m 2 v4) (.s v2 k1),.lt (.s v2 k1) (.a (.m 2 v4) k2),.eq v3 v2,.eq v4 v0,.lt k0 v1] (.no (.eq v0 v1)) rfl [x,y,z,(y-1) / 2,(z-1) / 2] (bV 2 (y-1)) (bW 2 (y-1) rfl) (bV 2 (z-1)) (bW 2 (z-1) rfl)
theorem Sy{x y z:Nat}:(y-1) / 2=z->x<z->x<=(y-1) / 2:=aw 4 [.le (.m 2 v3) (.s v1 k1),.lt (.s v1 k1) (.a (.m 2 v3) k2),.eq v3 v2,.lt v0 v2] (.le v0 v3) rfl [x,y,z,(y-1) / 2] (bV 2 (y-1)) (bW 2 (y-1) rfl)
theorem Sz{x y z:Nat}:(x-1) / 2=z->(z-1) / 2=y->0<x->x≠y:=aw 5 [.le (.m 2 v3) (.s v0 k1),.lt (.s v0 k1) (.a (.m 2 v3) k2),.le (.m 2 v4) (.s v2 k1),.lt (.s v2 k1) (.a (.m 2 v4) k2),.eq v3 v2,.eq v4 v1,.lt k0 v0] (.no (.eq v0 v1)) rfl [x,y,z,(x-1) / 2,(z-1) / 2] (bV 2 (x-1)) (bW 2 (x-1) rfl) (bV 2 (z-1)) (bW 2 (z-1) rfl)
theorem tT{x y z:Nat}:min x y-z=0->min x y<=z:=aw 3 [.eq (.s (.mn v0 v1) v2) k0] (.le (.mn v0 v1) v2) rfl [x,y,z]
theorem SA{x y z w:Nat}:(x-1) / 2=z->(z-1) / 2=y->w<z->(x-1) / 2≠y:=aw 6 [.le (.m 2 v4) (.s v0 k1),.lt (.s v0 k1) (.a (.m 2 v4) k2),.le (.m 2 v5) (.s v2 k1),.lt (.s v2 k1) (.a (.m 2 v5) k2),.eq v4 v2,.eq v5 v1,.lt v3 v2] (.no (.eq v4 v1)) rfl [x,y,z,w,(x-1) / 2,(z-1) / 2] (bV 2 (x-1)) (bW 2 (x-1) rfl) (bV 2 (z-1)) (bW 2 (z-1) rfl)
theorem SD{x y:Nat}:(y-1) / 2≠x->x<=(y-1) / 2->x+1<=(y-1) / 2:=aw 3 [.le (.m 2 v2) (.s v1 k1),.lt (.s v1 k1) (.a (.m 2 v2) k2),.no (.eq v2 v0),.le v0 v2] (.le (.a v0 k1) v2) rfl [x,y,(y-1) / 2] (bV 2 (y-1)) (bW 2 (y-1) rfl)
theorem SE{x:Nat}:x<x->False:=aw 1 [.lt v0 v0] .f rfl [x]
theorem SF{x y z:Nat}:(x-1) / 2=y->0<x->x<z->¬2*y+1<z->False:=aw 4 [.le (.m 2 v3) (.s v0 k1),.lt (.s v0 k1) (.a (.m 2 v3) k2),.eq v3 v1,.lt k0 v0,.lt v0 v2,.no (.lt (.a (.m 2 v1) k1) v2)] .f rfl [x,y,z,(x-1) / 2] (bV 2 (x-1)) (bW 2 (x-1) rfl)
theorem EW{x y:Nat}:x+1<=y->x<y:=aw 2 [.le (.a v0 k1) v1] (.lt v0 v1) rfl [x,y]
theorem SG{x y:Nat}:x / 2<=(y-1) / 2->0<y->y<x->False:=aw 4 [.le (.m 2 v2) v0,.lt v0 (.a (.m 2 v2) k2),.le (.m 2 v3) (.s v1 k1),.lt (.s v1 k1) (.a (.m 2 v3) k2),.le v2 v3,.lt k0 v1,.lt v1 v0] .f rfl [x,y,x / 2,(y-1) / 2] (bV 2 x) (bW 2 x rfl) (bV 2 (y-1)) (bW 2 (y-1) rfl)
theorem SH{x:Nat}:¬x=0->(x-1) / 2<x:=aw 2 [.le (.m 2 v1) (.s v0 k1),.lt (.s v0 k1) (.a (.m 2 v1) k2),.no (.eq v0 k0)] (.lt v1 v0) rfl [x,(x-1) / 2] (bV 2 (x-1)) (bW 2 (x-1) rfl)
theorem Lh{x:Nat}:0<=(x-1) / 2:=aw 2 [.le (.m 2 v1) (.s v0 k1),.lt (.s v0 k1) (.a (.m 2 v1) k2)] (.le k0 v1) rfl [x,(x-1) / 2] (bV 2 (x-1)) (bW 2 (x-1) rfl)
theorem Li{x:Nat}:0<=(x:Int):=abw x
theorem Lj{x y z:Nat}:x<z->z<y+1->x<y:=aw 3 [.lt v0 v2,.lt v2 (.a v1 k1)] (.lt v0 v1) rfl [x,y,z]
theorem tU{x y z:Nat}:min x z-y=0->x<=y\/z<=y:=aw 3 [.eq (.s (.mn v0 v2) v1) k0] (.or (.le v0 v1) (.le v2 v1)) rfl [x,y,z]
theorem EX{x y:Nat}:x-y<0->False:=aw 2 [.lt (.s v0 v1) k0] .f rfl [x,y]
theorem EY{x y:Nat}:x<=y->¬x=y->x<y:=aw 2 [.le v0 v1,.no (.eq v0 v1)] (.lt v0 v1) rfl [x,y]
theorem Cu{x y:Nat}:x<=y->¬x=y->x+1<=y:=aw 2 [.le v0 v1,.no (.eq v0 v1)] (.le (.a v0 k1) v1) rfl [x,y]
theorem Cv{x y z:Nat}:x-y<z+1->y<=x->¬y=x->x-(y+1)<z:=aw 3 [.lt (.s v0 v1) (.a v2 k1),.le v1 v0,.no (.eq v1 v0)] (.lt (.s v0 (.a v1 k1)) v2) rfl [x,y,z]
theorem SI{x y:Nat}:x<y->y<=4000->x<4096:=aw 2 [.lt v0 v1,.le v1 (.k 4000)] (.lt v0 (.k 4096)) rfl [x,y]
theorem SJ{x y:Nat}:y<x->0<=(x:Int)-1:=λh=>abX (aa7.mpr (ahs h))
theorem SK{x y:Nat}:x<=4000->x-y<4096:=aw 2 [.le v0 (.k 4000)] (.lt (.s v0 v1) (.k 4096)) rfl [x,y]
theorem SM{x y z:Nat}:2*(x:Int)+1<(z:Int)->y=z->2*x+1<y:=λa b=>by subst b;exact aa7.mp a
theorem SN{x y z:Nat}:2*(x:Int)+1+1<(z:Int)->y=z->2*x+2<y:=λa b=>by subst b;exact aa7.mp a
theorem tV{x y z:Nat}:x<y->x<z->x<min y z:=aw 3 [.lt v0 v1,.lt v0 v2] (.lt v0 (.mn v1 v2)) rfl [x,y,z]
theorem SO{x:Nat}:2*(x:Int)+1=((2*x+1:Nat):Int):=rfl
theorem SQ{x:Nat}:2*(x:Int)+1+1=((2*x+2:Nat):Int):=rfl
theorem SR{x y z w u:Nat}:y<w->z=x-u->w=x->u<y->x-y<z:=aw 5 [.lt v1 v3,.eq v2 (.s v0 v4),.eq v3 v0,.lt v4 v1] (.lt (.s v0 v1) v2) rfl [x,y,z,w,u]
theorem SS{x y z:Nat}:2*x+1<z->z=y->2*(x:Int)+1<(y:Int):=λa b=>by subst b;exact aa7.mpr a
theorem Lk{x y:Nat}:x=y->y<=4000->x<=4000:=aw 2 [.eq v0 v1,.le v1 (.k 4000)] (.le v0 (.k 4000)) rfl [x,y]
theorem EZ{x:Int}: -1000000000<x/\x<1000000000->-(2^64)<x:=λh=>aeM (by decide) h.1
theorem SU{x:Nat}:x<=4000->x / 2-0<4096:=aw 2 [.le (.m 2 v1) v0,.lt v0 (.a (.m 2 v1) k2),.le v0 (.k 4000)] (.lt (.s v1 k0) (.k 4096)) rfl [x,x / 2] (bV 2 x) (bW 2 x rfl)
theorem SV{x:Nat}:¬x / 2<x / 2:=aw 2 [.le (.m 2 v1) v0,.lt v0 (.a (.m 2 v1) k2)] (.no (.lt v1 v1)) rfl [x,x / 2] (bV 2 x) (bW 2 x rfl)
theorem Ll{x y z:Nat}:y<x / 2->z=x->x / 2-y-1<z:=aw 4 [.le (.m 2 v3) v0,.lt v0 (.a (.m 2 v3) k2),.lt v1 v3,.eq v2 v0] (.lt (.s (.s v3 v1) k1) v2) rfl [x,y,z,x / 2] (bV 2 x) (bW 2 x rfl)
theorem SW{x y:Nat}:y<x / 2->x / 2-y=x / 2-(y+1)+1:=aw 3 [.le (.m 2 v2) v0,.lt v0 (.a (.m 2 v2) k2),.lt v1 v2] (.eq (.s v2 v1) (.a (.s v2 (.a v1 k1)) k1)) rfl [x,y,x / 2] (bV 2 x) (bW 2 x rfl)
theorem SX{x y z:Nat}:x=z->z<=y->x<=y:=aw 3 [.eq v0 v2,.le v2 v1] (.le v0 v1) rfl [x,y,z]
theorem SY{x:Nat}:¬x+3=x:=aw 1 [] (.no (.eq (.a v0 k3) v0)) rfl [x]
theorem S0{x:Nat}:¬x+3=x+1:=aw 1 [] (.no (.eq (.a v0 k3) (.a v0 k1))) rfl [x]
theorem S1{x:Nat}:¬x+3=x+2:=aw 1 [] (.no (.eq (.a v0 k3) (.a v0 k2))) rfl [x]
theorem S2{x:Nat}:¬x=x+1:=aw 1 [] (.no (.eq v0 (.a v0 k1))) rfl [x]
theorem S3{x:Nat}:¬x=x+2:=aw 1 [] (.no (.eq v0 (.a v0 k2))) rfl [x]
theorem E0{x:Int}: -1000000000<x/\x<1000000000->x<2^64:=λh=>aeM h.2 (by decide)
theorem S4{x:Nat}:¬x+1=x+2:=aw 1 [] (.no (.eq (.a v0 k1) (.a v0 k2))) rfl [x]
theorem S5{x y z:Nat}:x+(y+1)<z->x+y<z:=aw 3 [.lt (.a v0 (.a v1 k1)) v2] (.lt (.a v0 v1) v2) rfl [x,y,z]
theorem S6{x y z:Nat}:x+1000+10*(y+1)<z->x+1+1000+10*y<z:=aw 3 [.lt (.a (.a v0 (.k 1000)) (.m 10 (.a v1 k1))) v2] (.lt (.a (.a (.a v0 k1) (.k 1000)) (.m 10 v1)) v2) rfl [x,y,z]
theorem S7{x y z:Nat}:x+1000+10*(z+1)<y->x+1+1000<y:=aw 3 [.lt (.a (.a v0 (.k 1000)) (.m 10 (.a v2 k1))) v1] (.lt (.a (.a v0 k1) (.k 1000)) v1) rfl [x,y,z]
theorem S8{x y z w u:Nat}:x+1000+10*(u+1)<w->z<=6->x+1+min y z<w:=aw 5 [.lt (.a (.a v0 (.k 1000)) (.m 10 (.a v4 k1))) v3,.le v2 (.k 6)] (.lt (.a (.a v0 k1) (.mn v1 v2)) v3) rfl [x,y,z,w,u]
theorem S9{x y z w:Nat}:x+min z w<y->x<y:=aw 4 [.lt (.a v0 (.mn v2 v3)) v1] (.lt v0 v1) rfl [x,y,z,w]
theorem Tb{x y z:Nat}:x<z->z=y->x<y:=aw 3 [.lt v0 v2,.eq v2 v1] (.lt v0 v1) rfl [x,y,z]
theorem Tc{x:Nat}:2<=x->0<x:=aw 1 [.le k2 v0] (.lt k0 v0) rfl [x]
theorem tW{x:Nat}:x<=1000000->(x:Int)<2^63:=λh=>ab6 (abc.mpr h) (by decide)
theorem Td{x y:Nat}:x≠0->y=x->y<=4->x=1\/x=2\/x=3\/x=4:=aw 2 [.no (.eq v0 k0),.eq v1 v0,.le v1 (.k 4)] (.or (.eq v0 k1) (.or (.eq v0 k2) (.or (.eq v0 k3) (.eq v0 (.k 4))))) rfl [x,y]
theorem Te{x y z w:Nat}:x+7<w->y+1<=6->x+min y z<w:=aw 4 [.lt (.a v0 (.k 7)) v3,.le (.a v1 k1) (.k 6)] (.lt (.a v0 (.mn v1 v2)) v3) rfl [x,y,z,w]
theorem Tf{x y z w:Nat}:x+7<w->z<=6->x+min y z<w:=aw 4 [.lt (.a v0 (.k 7)) v3,.le v2 (.k 6)] (.lt (.a v0 (.mn v1 v2)) v3) rfl [x,y,z,w]
theorem Lm{x y z:Nat}:2<=y->x=z->z=y->0<x:=aw 3 [.le k2 v1,.eq v0 v2,.eq v2 v1] (.lt k0 v0) rfl [x,y,z]
theorem E1{x:Nat}:¬x<2->1<=x:=aw 1 [.no (.lt v0 k2)] (.le k1 v0) rfl [x]
theorem Tg{x y:Nat}:x=y->¬y<2->1<=x:=aw 2 [.eq v0 v1,.no (.lt v1 k2)] (.le k1 v0) rfl [x,y]
theorem tX{x y:Nat}:x=y->y<2->x<2:=aw 2 [.eq v0 v1,.lt v1 k2] (.lt v0 k2) rfl [x,y]
theorem E2{x:Nat}:¬x<2->2<=x:=aw 1 [.no (.lt v0 k2)] (.le k2 v0) rfl [x]
theorem E3{x y:Nat}:x=y->¬y<2->2<=x:=aw 2 [.eq v0 v1,.no (.lt v1 k2)] (.le k2 v0) rfl [x,y]
theorem Ln{x y z:Nat}:x=y->z<64->z=y->x<64:=aw 3 [.eq v0 v1,.lt v2 (.k 64),.eq v2 v1] (.lt v0 (.k 64)) rfl [x,y,z]
theorem E4{x:Nat}:x<1000000->x<=999999:=aw 1 [.lt v0 (.k 1000000)] (.le v0 (.k 999999)) rfl [x]
theorem Ti{x y z:Nat}:z+1000<y->x=z+1->x+7<y:=aw 3 [.lt (.a v2 (.k 1000)) v1,.eq v0 (.a v2 k1)] (.lt (.a v0 (.k 7)) v1) rfl [x,y,z]
theorem Lo{x y z w:Nat}:x=z->w<x->x-1-y<z:=aw 4 [.eq v0 v2,.lt v3 v0] (.lt (.s (.s v0 k1) v1) v2) rfl [x,y,z,w]
theorem Lp{x y z:Nat}:x=z->y<x->x-1-y<z:=aw 3 [.eq v0 v2,.lt v1 v0] (.lt (.s (.s v0 k1) v1) v2) rfl [x,y,z]
theorem Cw{x y z w:Nat}:x<z->y=w->z=w->x<y:=aw 4 [.lt v0 v2,.eq v1 v3,.eq v2 v3] (.lt v0 v1) rfl [x,y,z,w]
theorem E5{x y z:Nat}:x=z->y=z->x=y:=aw 3 [.eq v0 v2,.eq v1 v2] (.eq v0 v1) rfl [x,y,z]
theorem Tj{x y:Nat}:x+(y+1)<=100->x+1<=100:=aw 2 [.le (.a v0 (.a v1 k1)) (.k 100)] (.le (.a v0 k1) (.k 100)) rfl [x,y]
theorem Tk{x:Nat}:x+1<=100->x<=16777216:=aw 1 [.le (.a v0 k1) (.k 100)] (.le v0 (.k 16777216)) rfl [x]
theorem Tl{x:Nat}:x+1<=100->x+1<=16777216+1:=aw 1 [.le (.a v0 k1) (.k 100)] (.le (.a v0 k1) (.a (.k 16777216) k1)) rfl [x]
theorem Tm{x y:Nat}:x+(y+1)<=100->x+1+y<=100:=aw 2 [.le (.a v0 (.a v1 k1)) (.k 100)] (.le (.a (.a v0 k1) v1) (.k 100)) rfl [x,y]
theorem Tn{x y z:Nat}:x=z->¬y<z->x<=y:=aw 3 [.eq v0 v2,.no (.lt v1 v2)] (.le v0 v1) rfl [x,y,z]
theorem To{x:Nat}:x<=1000000->x<=16777216:=aw 1 [.le v0 (.k 1000000)] (.le v0 (.k 16777216)) rfl [x]
theorem tY{x y:Int}:y<x->0<=x-y-1:=λh=>abX (abZ h)
theorem Cx{x:Nat}:x<=100->x<=16777216:=aw 1 [.le v0 (.k 100)] (.le v0 (.k 16777216)) rfl [x]
theorem Tp{x y z:Nat}:x=y->z<64->z=y->x<=16777216:=aw 3 [.eq v0 v1,.lt v2 (.k 64),.eq v2 v1] (.le v0 (.k 16777216)) rfl [x,y,z]
theorem Tq{x y z w:Nat}:x=y->z<64->z=w->w=y->x<=16777216+1:=aw 4 [.eq v0 v1,.lt v2 (.k 64),.eq v2 v3,.eq v3 v1] (.le v0 (.a (.k 16777216) k1)) rfl [x,y,z,w]
theorem Tr{x y z w:Nat}:x=z->y=w->w=z->x<=y:=aw 4 [.eq v0 v2,.eq v1 v3,.eq v3 v2] (.le v0 v1) rfl [x,y,z,w]
theorem Ts{x y:Nat}:x=y->¬y<2->¬x<2:=aw 2 [.eq v0 v1,.no (.lt v1 k2)] (.no (.lt v0 k2)) rfl [x,y]
theorem Tt{x y z w:Nat}:x=w->y=z->w=z->min x y=z:=aw 4 [.eq v0 v3,.eq v1 v2,.eq v3 v2] (.eq (.mn v0 v1) v2) rfl [x,y,z,w]
theorem Tu{x y z:Nat}:y<64->y=z->z=x->x<64:=aw 3 [.lt v1 (.k 64),.eq v1 v2,.eq v2 v0] (.lt v0 (.k 64)) rfl [x,y,z]
theorem E6{x y z w:Nat}:x=z->y=w->z=w->x=y:=aw 4 [.eq v0 v2,.eq v1 v3,.eq v2 v3] (.eq v0 v1) rfl [x,y,z,w]
theorem Cy{x y z w:Nat}:x<z->y=w->w=z->x<y:=aw 4 [.lt v0 v2,.eq v1 v3,.eq v3 v2] (.lt v0 v1) rfl [x,y,z,w]
theorem Tv{x y z w u:Nat}:x=z->z=w->u<w->x-1-y<z:=aw 5 [.eq v0 v2,.eq v2 v3,.lt v4 v3] (.lt (.s (.s v0 k1) v1) v2) rfl [x,y,z,w,u]
theorem Tw{x y z w:Nat}:x=z->y<w->z=w->x-1-y<z:=aw 4 [.eq v0 v2,.lt v1 v3,.eq v2 v3] (.lt (.s (.s v0 k1) v1) v2) rfl [x,y,z,w]
theorem Lq{x y z:Nat}:x=z->z=y->x=y:=aw 3 [.eq v0 v2,.eq v2 v1] (.eq v0 v1) rfl [x,y,z]
theorem Tx{x y z:Nat}:x=y->z<64->z=y->x<=100:=aw 3 [.eq v0 v1,.lt v2 (.k 64),.eq v2 v1] (.le v0 (.k 100)) rfl [x,y,z]
theorem Tz{x y z:Nat}:z+1000<y->x=z+1+1->x+7<y:=aw 3 [.lt (.a v2 (.k 1000)) v1,.eq v0 (.a (.a v2 k1) k1)] (.lt (.a v0 (.k 7)) v1) rfl [x,y,z]
theorem TA{x y z w:Nat}:x=y->z<64->z=w->w=y->x<=100:=aw 4 [.eq v0 v1,.lt v2 (.k 64),.eq v2 v3,.eq v3 v1] (.le v0 (.k 100)) rfl [x,y,z,w]
theorem TB{x y z:Nat}:y<64->y=z->z=x->0+x<=100:=aw 3 [.lt v1 (.k 64),.eq v1 v2,.eq v2 v0] (.le (.a k0 v0) (.k 100)) rfl [x,y,z]
theorem TC{x y z:Nat}:z+1000<y->z=x->x+7<y:=aw 3 [.lt (.a v2 (.k 1000)) v1,.eq v2 v0] (.lt (.a v0 (.k 7)) v1) rfl [x,y,z]
theorem TD{x:Nat}:x<=1000->x<=16777216:=aw 1 [.le v0 (.k 1000)] (.le v0 (.k 16777216)) rfl [x]
theorem TF{x y:Int}:¬y<x->¬y=x->x<y:=λa b=>Int.lt_iff_le_and_ne.mpr ⟨abD.mp a,λe=>b e.symm⟩
theorem TG{x y:Nat}{z w:Int}:z<w\/w=z/\x<y->w<z\/z=w/\y<x->x=y:=λa b=>a.elim (λh=>b.elim (λk=>absurd h (abD.mpr (acj k))) λk=>absurd k.1 (ai7 h)) λh=>b.elim (λk=>absurd h.1 (ai7 k)) λk=>absurd h.2 (Nat.lt_asymm k.2)
theorem TH{x y z:Nat}:y<x->z<y->x-1-y<x-1-z:=aw 3 [.lt v1 v0,.lt v2 v1] (.lt (.s (.s v0 k1) v1) (.s (.s v0 k1) v2)) rfl [x,y,z]
theorem E7{x y z:Nat}:z<x->x-1-y<x:=aw 3 [.lt v2 v0] (.lt (.s (.s v0 k1) v1) v0) rfl [x,y,z]
theorem Lr{x y:Nat}:y<x->x-1-y<x:=aw 2 [.lt v1 v0] (.lt (.s (.s v0 k1) v1) v0) rfl [x,y]
theorem TJ{x y:Int}{z w:Nat}:x<y\/¬y<x/\¬x<y/\z<w->x<y\/y=x/\z<w:=λh=>h.imp_right λk=>⟨af7 (abD.mp k.2.1) (abD.mp k.1),k.2.2⟩
theorem TK{x y z w u v:Int}:x<y\/x=y/\z<w->x<y\/x=y/\(z<w\/z=w/\u<v):=λh=>h.imp_right λk=>⟨k.1,.inl k.2⟩
theorem TL{x y z w:Nat}:x=w->w=min y z->x=min y z/\w=min y z:=aw 4 [.eq v0 v3,.eq v3 (.mn v1 v2)] (.an (.eq v0 (.mn v1 v2)) (.eq v3 (.mn v1 v2))) rfl [x,y,z,w]
theorem TN{x y z:Int}:z<=x->¬z<y->¬x<y:=λa b c=>b (ab6 a c)
theorem E8{x y:Int}:x>y->0<=x-y-1:=λh=>abX (abZ h)
theorem TP{x y z:Nat}:x<=z->y=min x z->x<=y:=aw 3 [.le v0 v2,.eq v1 (.mn v0 v2)] (.le v0 v1) rfl [x,y,z]
theorem Ls{x y z:Nat}:x=min y z->x<=y:=aw 3 [.eq v0 (.mn v1 v2)] (.le v0 v1) rfl [x,y,z]
theorem TQ{x:Nat}:1<=(x-1) / 2->0≠x:=aw 2 [.le (.m 2 v1) (.s v0 k1),.lt (.s v0 k1) (.a (.m 2 v1) k2),.le k1 v1] (.no (.eq k0 v0)) rfl [x,(x-1) / 2] (bV 2 (x-1)) (bW 2 (x-1) rfl)
theorem TR{x:Nat}:1<=(x-1) / 2->0≠(x-1) / 2:=aw 2 [.le (.m 2 v1) (.s v0 k1),.lt (.s v0 k1) (.a (.m 2 v1) k2),.le k1 v1] (.no (.eq k0 v1)) rfl [x,(x-1) / 2] (bV 2 (x-1)) (bW 2 (x-1) rfl)
theorem TS{x y z w:Nat}:y+(z+1)=min x w->x<=w->x=y+(z+1):=aw 4 [.eq (.a v1 (.a v2 k1)) (.mn v0 v3),.le v0 v3] (.eq v0 (.a v1 (.a v2 k1))) rfl [x,y,z,w]
theorem TU{x y z w:Int}:z<w->¬y<x->x<y\/x=y/\z<w:=λa b=>(Int.lt_or_eq_of_le (abD.mp b)).imp_right λe=>⟨e,a⟩
theorem Lu{x y:Int}:x<y->x-1<y:=λh=>ab6 (aid x (by decide)) h
theorem TV{x:Int}:x-1<x:=Int.sub_lt_self x (by decide)
theorem Lv{x:Nat}:x / 2<=x:=aw 2 [.le (.m 2 v1) v0,.lt v0 (.a (.m 2 v1) k2)] (.le v1 v0) rfl [x,x / 2] (bV 2 x) (bW 2 x rfl)
theorem TX{x y:Int}{z w:Nat}:x<y\/y=x/\w<z->x<y\/x=y/\-(z:Int) < -(w:Int):=λh=>h.imp_right λk=>⟨k.1.symm,aix (aa7.mpr k.2)⟩
theorem E9{x:Int}:¬x>0->0<=-x:=λh=>Int.neg_nonneg_of_nonpos (abD.mp h)
theorem TY{x y:Nat}:y<x->-(x:Int) < -(y:Int):=λh=>aix (aa7.mpr h)
theorem TZ{x y z:Nat}:x=min z y->min x y=x:=aw 3 [.eq v0 (.mn v2 v1)] (.eq (.mn v0 v1) v0) rfl [x,y,z]
theorem Lw{x y:Nat}:x<y->x-0<y:=aw 2 [.lt v0 v1] (.lt (.s v0 k0) v1) rfl [x,y]
theorem T0{x y z:Nat}:x<=min y z->z<1000000->x<1000000:=aw 3 [.le v0 (.mn v1 v2),.lt v2 (.k 1000000)] (.lt v0 (.k 1000000)) rfl [x,y,z]
theorem Fa{x:Nat}:0<x->x≠0:=aw 1 [.lt k0 v0] (.no (.eq v0 k0)) rfl [x]
theorem T3{x y z:Int}: -100000<=y/\y<=100000->-100000<=z/\z<=100000->x<=y-z-1->x+1<=300000:=λa b c=>aa8 (agV (aa8 c (aeS (Int.sub_le_sub a.2 b.1) 1)) 1) (by decide)
theorem Lx{x:Int}: -100000<=x/\x<=100000->-1000000<=x/\x<=1000000:=λh=>⟨aa8 (by decide) h.1,aa8 h.2 (by decide)⟩
theorem T4{x:Int}:0<x/\x<=100000->-1000000<=x/\x<=1000000:=λh=>⟨aa8 (by decide) (acj h.1),aa8 h.2 (by decide)⟩
theorem T5{x:Int}:0<=x/\x<=300000->-1000000<=x/\x<=1000000:=λh=>⟨aa8 (by decide) h.1,aa8 h.2 (by decide)⟩
theorem T6{x:Int}:0<x/\x<=100000->x>0:=λh=>h.1
theorem Fb{x y:Nat}:y<x->0<(x:Int)-(y:Int):=λh=>abZ (aa7.mpr h)
theorem T7{x y:Int}: -100000<=x/\x<=100000->0<y/\y<=100000->-1000000<=x+(y-1)/\x+(y-1)<=1000000:=λa b=>⟨aa8 (by decide) (aiy a.1 (abt (show 1<=y from b.1))),aa8 (aiy a.2 (aeS b.2 1)) (by decide)⟩
theorem T8{x y:Nat}{z:Int}{w:Nat}:x=min (aa6 z) w->w<y->x<y:=λa b=>aa9 (aaB (abQ a) (abB ..)) b
theorem T9{x:Nat}{y:Int}{z:Nat}:z<aa6 y->z=min (aa6 y) x->(x:Int)<y:=λa b=>afH.mp (Nat.not_le.mp λh=>abp a (b.trans (adv h)))
theorem lN{x y:Nat}:x<y->x+1<=y:=aw 2 [.lt v0 v1] (.le (.a v0 k1) v1) rfl [x,y]
theorem Ua{x y:Nat}{z:Int}:y<aa6 z->y=min (aa6 z) x->x<=y:=λa b=>aeK.mp λh=>abp (ajk.mpr ⟨a,h⟩) b
theorem Ub{x:Int}{y z:Nat}:z=min (aa6 x) y->¬z<aa6 x->x<=(y:Int):=λa b=>Int.toNat_le.mp (aaB (aeK.mp b) (aaB (abQ a) (abB ..)))
theorem Uc{x y z:Nat}{w:Int}:x<z->z=min (aa6 w) y->x<y:=λa b=>aby a (aaB (abQ b) (abB ..))
theorem Ud{x:Nat}{y:Int}{z w:Nat}:x<z->z=min (aa6 y) w->x<aa6 y:=λa b=>aby a (aaB (abQ b) (aeP ..))
theorem Cz{x y:Nat}:y<x->x≠0:=aw 2 [.lt v1 v0] (.no (.eq v0 k0)) rfl [x,y]
theorem Ue{x y:Nat}:x<y->y<1000000->x<1000000:=aw 2 [.lt v0 v1,.lt v1 (.k 1000000)] (.lt v0 (.k 1000000)) rfl [x,y]
theorem Ly{x:Nat}:x<4000->x<4096:=aw 1 [.lt v0 (.k 4000)] (.lt v0 (.k 4096)) rfl [x]
theorem Lz{x:Nat}:x<4000->x<1000000:=aw 1 [.lt v0 (.k 4000)] (.lt v0 (.k 1000000)) rfl [x]
theorem Fc{x y z:Nat}:y<z->z<=x->x≠y:=aw 3 [.lt v1 v2,.le v2 v0] (.no (.eq v0 v1)) rfl [x,y,z]
theorem LA{x y z w:Nat}:min y z<64->x=min y z/\w=min y z->x<64:=aw 4 [.lt (.mn v1 v2) (.k 64),.an (.eq v0 (.mn v1 v2)) (.eq v3 (.mn v1 v2))] (.lt v0 (.k 64)) rfl [x,y,z,w]
theorem Fd{x y:Nat}:(x:Int)-((y+1:Nat):Int)=(x:Int)-(y:Int)-1:=(ahJ x y 1).symm
theorem LB{x y z:Nat}:0<y/\y<z->z<=x->¬x=0:=aw 3 [.an (.lt k0 v1) (.lt v1 v2),.le v2 v0] (.no (.eq v0 k0)) rfl [x,y,z]
theorem LC{x y z w:Nat}:min y z<64->w=min y z/\x=min y z->x<4000:=aw 4 [.lt (.mn v1 v2) (.k 64),.an (.eq v3 (.mn v1 v2)) (.eq v0 (.mn v1 v2))] (.lt v0 (.k 4000)) rfl [x,y,z,w]
theorem sM{x y z:Nat}:0<y/\y<z->z<=x->x≠y:=aw 3 [.an (.lt k0 v1) (.lt v1 v2),.le v2 v0] (.no (.eq v0 v1)) rfl [x,y,z]
theorem LD{x y z:Nat}:x+y<z->z<=x+y->False:=aw 3 [.lt (.a v0 v1) v2,.le v2 (.a v0 v1)] .f rfl [x,y,z]
theorem LF{x y z:Nat}:x+y<z->x+y<=z:=aw 3 [.lt (.a v0 v1) v2] (.le (.a v0 v1) v2) rfl [x,y,z]
theorem nW{x y:Nat}:0<x/\x<y->x≠0:=aw 2 [.an (.lt k0 v0) (.lt v0 v1)] (.no (.eq v0 k0)) rfl [x,y]
theorem kb2{x y z:Nat}:x<=y->x<=y+z:=aw 3 [.le v0 v1] (.le v0 (.a v1 v2)) rfl [x,y,z]
theorem Fe{x y z:Nat}:0<y/\y<z->z<=x->x≠0:=aw 3 [.an (.lt k0 v1) (.lt v1 v2),.le v2 v0] (.no (.eq v0 k0)) rfl [x,y,z]
theorem LG{x y z w u v:Nat}:x=min y (z+w)/\u=min y (z+w)->z+w<v->v<=1000->x<=4000:=aw 6 [.an (.eq v0 (.mn v1 (.a v2 v3))) (.eq v4 (.mn v1 (.a v2 v3))),.lt (.a v2 v3) v5,.le v5 (.k 1000)] (.le v0 (.k 4000)) rfl [x,y,z,w,u,v]
theorem LH{x y z:Nat}:x+y<z->x+y+1<=z:=aw 3 [.lt (.a v0 v1) v2] (.le (.a (.a v0 v1) k1) v2) rfl [x,y,z]
theorem Ff{x y:Nat}:¬y<x->(x:Int)-(y:Int)<=0:=λh=>aeT (abc.mpr (aeK.mp h))
theorem sN{x y z:Nat}:0<min x (y+z)->0<min x (y+z+1):=aw 3 [.lt k0 (.mn v0 (.a v1 v2))] (.lt k0 (.mn v0 (.a (.a v1 v2) k1))) rfl [x,y,z]
theorem LI{x y:Nat}:x<=1000->x-y-0<4096:=aw 2 [.le v0 (.k 1000)] (.lt (.s (.s v0 v1) k0) (.k 4096)) rfl [x,y]
theorem LJ{x y z:Nat}:x=min z y->x+(y-x)=y:=aw 3 [.eq v0 (.mn v2 v1)] (.eq (.a v0 (.s v1 v0)) v1) rfl [x,y,z]
theorem LK{x y z:Nat}:z<64->z=min x y->min x y<64:=aw 3 [.lt v2 (.k 64),.eq v2 (.mn v0 v1)] (.lt (.mn v0 v1) (.k 64)) rfl [x,y,z]
theorem LL{x y z:Nat}:0<x/\x<z->z<=y->x≠y:=aw 3 [.an (.lt k0 v0) (.lt v0 v2),.le v2 v1] (.no (.eq v0 v1)) rfl [x,y,z]
theorem Fg{x y z:Nat}:y<z-x->x+y<z:=aw 3 [.lt v1 (.s v2 v0)] (.lt (.a v0 v1) v2) rfl [x,y,z]
theorem LN{x y z w:Nat}:y=min x z->w<z-y->x<=y:=aw 4 [.eq v1 (.mn v0 v2),.lt v3 (.s v2 v1)] (.le v0 v1) rfl [x,y,z,w]
theorem LO{x y z:Nat}:z=min x y->z=0->min x y=0:=aw 3 [.eq v2 (.mn v0 v1),.eq v2 k0] (.eq (.mn v0 v1) k0) rfl [x,y,z]
theorem Fi{x:Nat}:x<=x+2:=aw 1 [] (.le v0 (.a v0 k2)) rfl [x]
theorem LQ{x y z:Nat}:x=min z y->x<=y:=aw 3 [.eq v0 (.mn v2 v1)] (.le v0 v1) rfl [x,y,z]
theorem LR{x y z w u:Nat}:y=min z w/\x=min z w->w=min z u->¬w=0->0<x:=aw 5 [.an (.eq v1 (.mn v2 v3)) (.eq v0 (.mn v2 v3)),.eq v3 (.mn v2 v4),.no (.eq v3 k0)] (.lt k0 v0) rfl [x,y,z,w,u]
theorem LS{x:Nat}:x<64->x<=4000:=aw 1 [.lt v0 (.k 64)] (.le v0 (.k 4000)) rfl [x]
theorem LU{x y z w:Nat}:x<z->z=min w y->x<y:=aw 4 [.lt v0 v2,.eq v2 (.mn v3 v1)] (.lt v0 v1) rfl [x,y,z,w]
theorem CA{x y z w u:Nat}:x=min y z/\w=min y z->z=min y u->¬z=0->0<x:=aw 5 [.an (.eq v0 (.mn v1 v2)) (.eq v3 (.mn v1 v2)),.eq v2 (.mn v1 v4),.no (.eq v2 k0)] (.lt k0 v0) rfl [x,y,z,w,u]
theorem LV{x y z:Nat}:x<z->y=min z x->x<=y+0:=aw 3 [.lt v0 v2,.eq v1 (.mn v2 v0)] (.le v0 (.a v1 k0)) rfl [x,y,z]
theorem LW{x y:Int}{z:Nat}: -(z:Int)<y->-x<=-(z:Int)->-x<y:=λa b=>ab6 b a
theorem Uf{x y z:Nat}:x+(y+1)<z->x+1+y<z:=aw 3 [.lt (.a v0 (.a v1 k1)) v2] (.lt (.a (.a v0 k1) v1) v2) rfl [x,y,z]
theorem lO{x:Nat}:x<=x+1:=aw 1 [] (.le v0 (.a v0 k1)) rfl [x]
theorem CB{x:Nat}:x<=1000->x<4096:=aw 1 [.le v0 (.k 1000)] (.lt v0 (.k 4096)) rfl [x]
theorem tZ{x:Nat}:x<=1000->x<1000000:=aw 1 [.le v0 (.k 1000)] (.lt v0 (.k 1000000)) rfl [x]
theorem Fj{x y z:Nat}:x-y<z+1->y<x->x-(y+1)<z:=aw 3 [.lt (.s v0 v1) (.a v2 k1),.lt v1 v0] (.lt (.s v0 (.a v1 k1)) v2) rfl [x,y,z]
theorem Ug{x:Nat}:x<=1000->x-0<4096:=aw 1 [.le v0 (.k 1000)] (.lt (.s v0 k0) (.k 4096)) rfl [x]
theorem Uh{x:Nat}:min 1 x<=1000000:=aw 1 [] (.le (.mn k1 v0) (.k 1000000)) rfl [x]
theorem Ui{x y:Nat}:x+1=min 1 y->x=0:=aw 2 [.eq (.a v0 k1) (.mn k1 v1)] (.eq v0 k0) rfl [x,y]
theorem LX{x y z:Nat}:x+z<=y->x<=y:=aw 3 [.le (.a v0 v2) v1] (.le v0 v1) rfl [x,y,z]
theorem Uj{x:Nat}{y:Int}:min (aa6 y) x<64->(x:Int)<=y->x<64:=λa b=>aa9 (Nat.le_min.mpr ⟨abc.mp (aa8 b (Int.self_le_toNat y)),aaw _⟩) a
theorem Uk{x:Int}{y:Nat}:(y:Int)<=x->x=((aa6 x:Nat):Int):=λh=>(adn (aa8 (abw _) h)).symm
theorem Fk{x:Nat}:x≠x+2:=aw 1 [] (.no (.eq v0 (.a v0 k2))) rfl [x]
theorem Fm{x:Nat}{y:Int}:y≠0/\x<1000000->x<1073741824:=λh=>ai8 h.2 (by decide)
theorem Fn{x:Int}: -1000000<=x/\x<=1000000->-(2^63)<=x/\x<2^63:=λh=>⟨aa8 (by decide) h.1,ab6 h.2 (by decide)⟩
theorem Ul{x y z:Nat}:y<z->z<=x->0<x:=aw 3 [.lt v1 v2,.le v2 v0] (.lt k0 v0) rfl [x,y,z]
theorem t0{x:Nat}:x<=50->x<=1000:=aw 1 [.le v0 (.k 50)] (.le v0 (.k 1000)) rfl [x]
theorem Fo{x:Int}:0<=x->¬x-1 > -1->0=x:=λa b=>af7 a (Int.le_of_add_le_add_right (show x + -1<=0 + -1 from abD.mp b))
theorem Um{x y z:Nat}:y<z->z<=x->x≠0:=aw 3 [.lt v1 v2,.le v2 v0] (.no (.eq v0 k0)) rfl [x,y,z]
theorem Un{x y z:Nat}:x+1000+10*(y+1)<z->x+3+1000+10*y<z:=aw 3 [.lt (.a (.a v0 (.k 1000)) (.m 10 (.a v1 k1))) v2] (.lt (.a (.a (.a v0 k3) (.k 1000)) (.m 10 v1)) v2) rfl [x,y,z]
theorem t4{x y z:Nat}:x+1000+10*z<y->x+1000<y:=aw 3 [.lt (.a (.a v0 (.k 1000)) (.m 10 v2)) v1] (.lt (.a v0 (.k 1000)) v1) rfl [x,y,z]
theorem Fp{x y z:Nat}:x=301->y<=600->z=1000->x+y<z:=aw 3 [.eq v0 (.k 301),.le v1 (.k 600),.eq v2 (.k 1000)] (.lt (.a v0 v1) v2) rfl [x,y,z]
theorem Fq{x y z:Nat}:x=4->y<=600->z=9900->x+1000+10*y<z:=aw 3 [.eq v0 (.k 4),.le v1 (.k 600),.eq v2 (.k 9900)] (.lt (.a (.a v0 (.k 1000)) (.m 10 v1)) v2) rfl [x,y,z]
theorem Fs{x:Nat}:x<=63->x<=1000000:=aw 1 [.le v0 (.k 63)] (.le v0 (.k 1000000)) rfl [x]
theorem hM{x y z:Nat}:x<z->z<y->x<y:=aw 3 [.lt v0 v2,.lt v2 v1] (.lt v0 v1) rfl [x,y,z]
theorem nX{x y z:Nat}:x<=z->z<=y->x<=y:=aw 3 [.le v0 v2,.le v2 v1] (.le v0 v1) rfl [x,y,z]
theorem Uo{x:Nat}:1<x->0<x:=aw 1 [.lt k1 v0] (.lt k0 v0) rfl [x]
theorem nY{x y z:Nat}:x<z->z<=y->x<y:=aw 3 [.lt v0 v2,.le v2 v1] (.lt v0 v1) rfl [x,y,z]
theorem Up{x y z:Nat}:x<z->z<=y->x≠y:=aw 3 [.lt v0 v2,.le v2 v1] (.no (.eq v0 v1)) rfl [x,y,z]
theorem Ft{x y z w:Nat}:z<=w->w<=y->¬(x<=y/\y<z):=aw 4 [.le v2 v3,.le v3 v1] (.no (.an (.le v0 v1) (.lt v1 v2))) rfl [x,y,z,w]
theorem Uq{x:Nat}:2<=x->x=x-2+2:=aw 1 [.le k2 v0] (.eq v0 (.a (.s v0 k2) k2)) rfl [x]
theorem Ur{x y z w:Nat}:x+w<z->y<=w->x+y<z:=aw 4 [.lt (.a v0 v3) v2,.le v1 v3] (.lt (.a v0 v1) v2) rfl [x,y,z,w]
theorem Fu{x y z w u:Nat}:x<=z/\z<y->y<=u->u<=w->x+y-1-z<w:=aw 5 [.an (.le v0 v2) (.lt v2 v1),.le v1 v4,.le v4 v3] (.lt (.s (.s (.a v0 v1) k1) v2) v3) rfl [x,y,z,w,u]
theorem Fv{x y z w:Nat}:x<=z/\z<y->y<=w->x+y-1-z<w:=aw 4 [.an (.le v0 v2) (.lt v2 v1),.le v1 v3] (.lt (.s (.s (.a v0 v1) k1) v2) v3) rfl [x,y,z,w]
theorem Fw{x y z:Nat}:x+(z+1)<=y->x<y:=aw 3 [.le (.a v0 (.a v2 k1)) v1] (.lt v0 v1) rfl [x,y,z]
theorem LY{x:Nat}:x<=100->x<4096:=aw 1 [.le v0 (.k 100)] (.lt v0 (.k 4096)) rfl [x]
theorem Fx{x y z:Nat}:x+(z+1)<=y->x-1<y:=aw 3 [.le (.a v0 (.a v2 k1)) v1] (.lt (.s v0 k1) v1) rfl [x,y,z]
theorem pa{x y:Nat}:0<y->y<=x->0<x:=aw 2 [.lt k0 v1,.le v1 v0] (.lt k0 v0) rfl [x,y]
theorem Fy{x:Nat}:1<=x->x-1<x:=aw 1 [.le k1 v0] (.lt (.s v0 k1) v0) rfl [x]
theorem Us{x y:Nat}:¬y<=x->x<=y:=aw 2 [.no (.le v1 v0)] (.le v0 v1) rfl [x,y]
theorem Ut{x y z:Nat}:min x y-z=min (x-z) (y-z):=aw 3 [] (.eq (.s (.mn v0 v1) v2) (.mn (.s v0 v2) (.s v1 v2))) rfl [x,y,z]
theorem Uu{x y:Nat}:¬y<=x->x<=min y x:=aw 2 [.no (.le v1 v0)] (.le v0 (.mn v1 v0)) rfl [x,y]
theorem Uv{x y z w:Nat}:x<z->z<=w->w<=y->x≠y:=aw 4 [.lt v0 v2,.le v2 v3,.le v3 v1] (.no (.eq v0 v1)) rfl [x,y,z,w]
theorem hS{x y z:Nat}:x<z->y=z->x<y:=aw 3 [.lt v0 v2,.eq v1 v2] (.lt v0 v1) rfl [x,y,z]
theorem LZ:(0:Int)<=(0:Int):=by decide
theorem Uw:¬-(1:Int)>(0:Int):=by decide
theorem Ux: -(1000000:Int)<=(0:Int)/\(0:Int)<=(1000000:Int):=by decide
theorem Uy: -(1000000:Int)<=(1:Int)/\(1:Int)<=(1000000:Int):=by decide
theorem Uz: -(1000000:Int)<=-(1:Int)/\-(1:Int)<=(1000000:Int):=by decide
theorem UA: -(1000000:Int)<=(0:Int)-(1:Int)/\(0:Int)-(1:Int)<=(1000000:Int):=by decide
theorem L0:0<=1:=aw 0 [] (.le k0 k1) rfl []
theorem L3: -(1000000000:Int)<(2:Int)/\(2:Int)<(1000000000:Int):=by decide
theorem Fz{x y z:Nat}:x+(z+1)<=y->x<=y:=aw 3 [.le (.a v0 (.a v2 k1)) v1] (.le v0 v1) rfl [x,y,z]
theorem sO:(0:Int)<(2:Int)/\(2:Int)<(1000000000:Int):=by decide
theorem L4:2<=5:=aw 0 [] (.le k2 (.k 5)) rfl []
theorem UB:(0:Int)<=(300000:Int):=by decide
theorem UC:(0:Int)<(1:Int):=by decide
theorem FA:2<=6:=aw 0 [] (.le k2 (.k 6)) rfl []
theorem t5:2<=1000000:=aw 0 [] (.le k2 (.k 1000000)) rfl []
theorem L5:3<=1000000:=aw 0 [] (.le k3 (.k 1000000)) rfl []
theorem UD:2<=2:=aw 0 [] (.le k2 k2) rfl []
theorem L6: -(100000:Int)<=(0:Int)/\(0:Int)<=(100000:Int):=by decide
theorem L7:(0:Int)<(1:Int)/\(1:Int)<=(100000:Int):=by decide
theorem t6{x y z w:Nat}:z+(w+1)<=y->x<z->x<y:=aw 4 [.le (.a v2 (.a v3 k1)) v1,.lt v0 v2] (.lt v0 v1) rfl [x,y,z,w]
theorem L8:(0:Int)<(3:Int)/\(3:Int)<(1000000000:Int):=by decide
theorem L9:(0:Int)<(4:Int)/\(4:Int)<(1000000000:Int):=by decide
theorem UE:(0:Int)<(6:Int)/\(6:Int)<(1000000000:Int):=by decide
theorem FC{x:Nat}{y:Int}{z w:Nat}:(0:Int)<y->z=aa6 y->w=min z x->w=0->x=0:=λa b c d=>Nat.eq_zero_of_not_pos λh=>abp (ajk.mpr ⟨b▸afH.mpr a,h⟩) (d.symm.trans c)
theorem Ma{x:Nat}{y:Int}:(0:Int)<y->x=aa6 y->0<x:=λa b=>b▸afH.mpr a
theorem Mb{x y:Nat}{z:Int}:x=aa6 z->¬(0:Int)<z->x<=y:=λa b=>by(refine aab a ?_;refine aab (acH (abD.mp b)) ?_);exact aaL _
theorem Mc{x:Int}{y z w:Nat}:y=aa6 x->z=min y w->¬z=0->(0:Int)<x:=λa b c=>aeh.mp λh=>c (by(refine aab b ?_;refine aab a ?_;refine aab (acH h) ?_;exact ahe ..))
theorem Md{x:Int}{y z w:Nat}:(0:Int)<x->y=min z w->z=aa6 x->-x<=-(y:Int):=λa b c=>aiw (aa8 (abc.mpr (b▸aeP z w)) (c▸ahd (adn (acj a))))
theorem FD{x y z w:Nat}:z+(w+1)<=y->x=z->x<y:=aw 4 [.le (.a v2 (.a v3 k1)) v1,.eq v0 v2] (.lt v0 v1) rfl [x,y,z,w]
theorem qG{x y:Nat}:x<y->¬x=y-1->x<y-1:=aw 2 [.lt v0 v1,.no (.eq v0 (.s v1 k1))] (.lt v0 (.s v1 k1)) rfl [x,y]
theorem UF{x y z w:Nat}:x+1000+10*w<z->y<=w->x+1000+10*y<z:=aw 4 [.lt (.a (.a v0 (.k 1000)) (.m 10 v3)) v2,.le v1 v3] (.lt (.a (.a v0 (.k 1000)) (.m 10 v1)) v2) rfl [x,y,z,w]
theorem t7{x y:Nat}:y<x->x-1<x:=aw 2 [.lt v1 v0] (.lt (.s v0 k1) v0) rfl [x,y]
theorem Me{x:Nat}:(x:Int)+(1:Int)=((x+1:Nat):Int):=rfl
theorem FE{x:Nat}:1<=x+1:=aw 1 [] (.le k1 (.a v0 k1)) rfl [x]
theorem UG{x:Int}:(0:Int)<=x->x=((aa6 x:Nat):Int):=λh=>(adn h).symm
theorem FF{x y z:Nat}:x+(y+1)<=z->x+1+y<=z:=aw 3 [.le (.a v0 (.a v1 k1)) v2] (.le (.a (.a v0 k1) v1) v2) rfl [x,y,z]
theorem Mf{x y:Nat}:y<x->(0:Int)<(x:Int)-(y:Int):=λh=>abZ (aa7.mpr h)
theorem UH{x y:Nat}:(x:Int)-((y+1:Nat):Int)=(x:Int)-(y:Int)-(1:Int):=(ahJ x y 1).symm
theorem UI{x y:Nat}:¬y<x->(x:Int)-(y:Int)<=(0:Int):=λh=>aeT (abc.mpr (aeK.mp h))
theorem UJ{x:Nat}:x<=100->x<=16777216+1:=λh=>aaB h (by decide)
theorem Mg{x y:Nat}:x+1000<y->x<y:=λh=>aa9 (ab3 ..) h
theorem UK{x:Int}:(0:Int) - -x-(1:Int)=x-(1:Int):=by(refine aab (Int.zero_sub ..) ?_;exact aab (Int.neg_neg ..) rfl)
theorem UL{x y:Int}:x=y-(1:Int)->aa6 (x+(1:Int))=aa6 y:=λh=>by(refine aab h ?_;exact aab (ahi ..) rfl)
theorem UM{x:Int}:¬(0:Int) > -x->aa6 (0:Int)=aa6 x:=λh=>(acH (Int.nonpos_of_neg_nonneg (abD.mp h))).symm
theorem iE{x y:Nat}:x+1<=y->x<=y:=aw 2 [.le (.a v0 k1) v1] (.le v0 v1) rfl [x,y]
theorem FG{x y z w:Nat}:y≠z/\y<w->w<=x->x≠y:=λh k e=>ahW h.2 (e▸k)
theorem UN{x y z w:Nat}:y≠z/\y<w->w<=x->x≠0:=λa b=>ahf (aby (ahs a.2) b)
theorem UO{x y z:Nat}:x<y->x<y+z:=λh=>aby h (ab3 ..)
theorem UP{x:Nat}{y:Int}:(x:Int)<=y->¬(0:Int)<y->x=0:=λa b=>Nat.eq_zero_of_le_zero (abc.mp (aa8 a (abD.mp b)))
theorem UQ{x y:Nat}:x=y->y<=1000->-(100000:Int)<=(x:Int)/\(x:Int)<=(100000:Int):=λa b=>⟨aa8 (by decide) (abw _),abc.mpr (aaB (abQ a) (aaB b (by decide)))⟩
theorem UR{x y:Nat}:y=x->x=aa6 ((y:Int)-(0:Int)):=λh=>by(refine aab (ai9 ..) ?_;refine aab h ?_);rfl
theorem US{x:Nat}:x<=100->x-0<4096:=λh=>aa9 h (by decide)
theorem UT{x y:Nat}:y<=100->min x y<=100:=λh=>aaB (abB ..) h
theorem UU{x:Nat}:x<=100->x<1000000:=λh=>aa9 h (by decide)
theorem UV{x y:Nat}:y<=100->min x y<=999999:=λh=>aaB (abB ..) (aaB h (by decide))
theorem FH{x y z:Nat}:x<=y+1+z->x<=y+(z+1):=aw 3 [.le v0 (.a (.a v1 k1) v2)] (.le v0 (.a v1 (.a v2 k1))) rfl [x,y,z]
theorem UW{x y:Nat}:y<=100->min x y+1+(y-x)<=1000000:=λh=>aaB (aiz (aiz (aaB (abB ..) h) (aaw 1)) (aaB (afx ..) h)) (by decide)
theorem UX{x y:Nat}:y<=100->min x y<=1000:=λh=>aaB (abB ..) (aaB h (by decide))
theorem CC{x:Nat}:x<=50->x<=100:=λh=>aaB h (by decide)
theorem Mh{x:Int}{y:Nat}:y<=50->min (aa6 x) y<64:=λh=>aa9 (abB ..) (aa9 h (by decide))
theorem UY{x:Int}{y:Nat}:¬(0:Int)<x->0=min (aa6 x) y:=λh=>by(refine aab (acH (abD.mp h)) ?_;exact(ahe ..).symm)
theorem UZ{x:Nat}{y:Int}:0=min (aa6 y) x->x<aa6 y->x=0:=λa b=>(a.trans (afJ (adi b))).symm
theorem U0{x:Int}{y:Nat}:((y+1:Nat):Int)<=x->(0:Int)<x:=λh=>aff (aa7.mpr (aja y)) h
theorem U1:0<4096:=by decide
theorem FI{x y z:Nat}:x<y+(z+1)->x<y+1+z:=aw 3 [.lt v0 (.a v1 (.a v2 k1))] (.lt v0 (.a (.a v1 k1) v2)) rfl [x,y,z]
theorem U2{x y:Nat}:x<=50->x-y<4096:=λh=>aa9 (aaB (afx ..) h) (by decide)
theorem U3{x y z:Nat}:y<=50->min x (y-z)<1000000:=λh=>aa9 (aaB (abB ..) (aaB (afx ..) h)) (by decide)
theorem U4{x y z:Nat}:0<y->y<=z->z<=x->0<x:=λa b c=>aby a (aaB b c)
theorem U5{x y:Nat}:x<=50->x-y<=1000:=λh=>aaB (afx ..) (aaB h (by decide))
theorem U6{x y:Nat}:y<=50->min x y<=1000:=λh=>aaB (abB ..) (aaB h (by decide))
theorem U7{x:Nat}:¬(x:Int)=(0:Int)->¬x=0:=λh e=>h (congrArg Int.ofNat e)
theorem U8{x:Int}{y:Nat}:y<=50->min (aa6 x) y<=1000:=λh=>aaB (abB ..) (aaB h (by decide))
theorem U9{x:Int}:x=(0:Int)\/x=(3:Int)/\0=0->x=(1:Int)\/x=(2:Int)->False:=by rintro(rfl | ⟨rfl,_⟩) (h | h)<;>exact absurd h (by decide)
theorem t8{x y z:Nat}:x<=z->y=z->x<=y:=aw 3 [.le v0 v2,.eq v1 v2] (.le v0 v1) rfl [x,y,z]
theorem Va:1<=1000000:=by decide
theorem Mi:(0:Int)<(5:Int)/\(5:Int)<(1000000000:Int):=by decide
theorem Vb{x:Int}:x%(5:Int)=(0:Int)\/x%(5:Int)=(1:Int)\/x%(5:Int)=(2:Int)\/x%(5:Int)=(3:Int)\/x%(5:Int)=(4:Int):=by obtain⟨n,e⟩:=acF (af8 x (by decide:(5:Int)≠0));have b:=afg x (by decide:(0:Int)<5);rw[e] at b ⊢;exact(by decide:∀n:Nat,n<5->(n:Int)=0\/(n:Int)=1\/(n:Int)=2\/(n:Int)=3\/(n:Int)=4) n (aa7.mp b)
theorem Vc{x:Nat}:¬((x+1:Nat):Int)<(1:Int):=abD.mpr (abc.mpr (aja x))
theorem Vd{x:Int}:x=(0:Int)\/x=(3:Int)/\1=0->x=(3:Int)->False:=λh e=>h.elim (λk=>absurd (k.symm.trans e) (by decide)) λk=>absurd k.2 (by decide)
theorem Ve{x:Int}{y:Nat}:¬(0:Int)<x->min (aa6 x) y=0:=λh=>by(refine aab (acH (abD.mp h)) ?_;exact ahe ..)
theorem Vf{x:Int}:x=(3:Int)->¬(x=(0:Int)\/x=(3:Int)/\0=0)->False:=λe h=>h (.inr ⟨e,rfl⟩)
theorem Vg{x:Int}:x%(3:Int)=(0:Int)\/x%(3:Int)=(1:Int)\/x%(3:Int)=(2:Int):=by obtain⟨n,e⟩:=acF (af8 x (by decide:(3:Int)≠0));have b:=afg x (by decide:(0:Int)<3);rw[e] at b ⊢;exact(by decide:∀n:Nat,n<3->(n:Int)=0\/(n:Int)=1\/(n:Int)=2) n (aa7.mp b)
theorem Vh{x:Int}:(0:Int)<=x/\x<(4:Int)->¬x=(1:Int)->¬x=(2:Int)->¬x=(3:Int)->x=(0:Int):=by intro h a b c;obtain⟨n,rfl⟩:=acF h.1;exact(by decide:∀n:Nat,n<4->¬(n:Int)=1->¬(n:Int)=2->¬(n:Int)=3->(n:Int)=0) n (aa7.mp h.2) a b c
theorem Vi:(0:Int)<(16:Int)/\(16:Int)<(1000000000:Int):=by decide
theorem FJ{x y z w:Nat}:x-(y+1)<=w->w<z->x-(y+1)<=z:=aw 4 [.le (.s v0 (.a v1 k1)) v3,.lt v3 v2] (.le (.s v0 (.a v1 k1)) v2) rfl [x,y,z,w]
theorem Vj{x y z w:Nat}:x<z->z<=w->w<=y->¬x=y:=λa b c e=>ahW a (e▸aaB b c)
theorem Vk{x:Int}:(0:Int)<=x%(4:Int)/\x%(4:Int)<(4:Int):=⟨af8 x (by decide),afg x (by decide)⟩
theorem Vl{x:Nat}:(x:Int)+(1:Int)+((x:Int)+(2:Int))%(5:Int)=((x+1+(x+2)%5:Nat):Int):=rfl
theorem Vm{x y:Nat}:min (x+1+(x+2)%5-(x+1)) y<=50:=aaB (aeP ..) (by refine aab (Nat.add_sub_cancel_left ..) ?_;exact aaB (adi (Nat.mod_lt _ (by decide))) (by decide))
theorem Vn:(0:Int)<(8:Int)/\(8:Int)<(1000000000:Int):=by decide
theorem Vo{x y z:Nat}:x=y->y<z->z<=100->x<1000000:=λa b c=>aa9 (abQ a) (ai8 b (aa9 c (by decide)))
theorem Vp{x:Nat}:x<=63->x<=999994:=λh=>aaB h (by decide)
theorem t9{x y z:Nat}:z<x->x-(y+1)<=x-(y+1)+x-1-z:=aw 3 [.lt v2 v0] (.le (.s v0 (.a v1 k1)) (.s (.s (.a (.s v0 (.a v1 k1)) v0) k1) v2)) rfl [x,y,z]
theorem Vq{x y:Nat}:x=y+6->y<=63->x<=100:=λa b=>aaB (abQ a) (aaB (aeU b 6) (by decide))
theorem Vr{x y:Nat}:x=y+6->y<=63->-(100000:Int)<=(x:Int)-(1:Int)/\(x:Int)-(1:Int)<=(100000:Int):=λa b=>⟨aa8 (by decide) (aeS (abw x) 1),aa8 (aid x (by decide)) (abc.mpr (aaB (abQ a) (aaB (aeU b 6) (by decide))))⟩
theorem Vs{x y:Nat}:x=y+6->y<=63->x-1-0<4096:=λa b=>aa9 (afx x 1) (aa9 (aaB (abQ a) (aeU b 6)) (by decide))
theorem Mj{x:Nat}:x-1=aa6 ((x:Int)-(1:Int)-(0:Int)):=by refine aab (ai9 ..) ?_;exact(Int.toNat_sub x 1).symm
theorem Mk{x:Int}:(0:Int)<=x/\x<(1000000:Int)->-(1000000:Int)<=x/\x<=(1000000:Int):=λh=>⟨aa8 (by decide) h.1,acj h.2⟩
theorem Vt{x:Int}:(0:Int)+(x-(1:Int))*(1:Int)=x-(1:Int):=by rw[adh,ahK]
theorem Vu{x:Nat}:(x:Int) / (2:Int)=((x / 2:Nat):Int):=rfl
theorem Vv{x:Nat}:x<=4000->(0:Int)<=((x / 2:Nat):Int)/\((x / 2:Nat):Int)<(1000000:Int):=λh=>⟨abw _,aa7.mpr (aa9 (Nat.div_le_self x 2) (aa9 h (by decide)))⟩
theorem Vw{x:Nat}:(0:Int)<=((x / 2:Nat):Int):=abw _
theorem FK{x y z w:Nat}:z<x->w<z->x-(y+1)+x-1-z<x-(y+1)+x-1-w:=aw 4 [.lt v2 v0,.lt v3 v2] (.lt (.s (.s (.a (.s v0 (.a v1 k1)) v0) k1) v2) (.s (.s (.a (.s v0 (.a v1 k1)) v0) k1) v3)) rfl [x,y,z,w]
theorem Ml{x y z:Nat}:x+(z+1)<y->x<y:=aw 3 [.lt (.a v0 (.a v2 k1)) v1] (.lt v0 v1) rfl [x,y,z]
theorem FL{x y z w:Nat}:x-(y+1)<=z->w<x->x-(y+1)+x-1-z<x:=aw 4 [.le (.s v0 (.a v1 k1)) v2,.lt v3 v0] (.lt (.s (.s (.a (.s v0 (.a v1 k1)) v0) k1) v2) v0) rfl [x,y,z,w]
theorem qH{x y z:Nat}:¬x-(y+1)<=z->¬(x-(y+1)<=z/\z<x):=aw 3 [.no (.le (.s v0 (.a v1 k1)) v2)] (.no (.an (.le (.s v0 (.a v1 k1)) v2) (.lt v2 v0))) rfl [x,y,z]
theorem ua{x y z:Nat}:¬y-(z+1)<=x->x<y-(z+1):=aw 3 [.no (.le (.s v1 (.a v2 k1)) v0)] (.lt v0 (.s v1 (.a v2 k1))) rfl [x,y,z]
theorem FM{x y z w:Nat}:x-(y+1)<=z->¬x-(y+1)<=w->x-(y+1)+x-1-z<x:=aw 4 [.le (.s v0 (.a v1 k1)) v2,.no (.le (.s v0 (.a v1 k1)) v3)] (.lt (.s (.s (.a (.s v0 (.a v1 k1)) v0) k1) v2) v0) rfl [x,y,z,w]
theorem FN{x y:Nat}:x<y-1->x<y-(0+1):=aw 2 [.lt v0 (.s v1 k1)] (.lt v0 (.s v1 (.a k0 k1))) rfl [x,y]
theorem FO{x y z:Nat}:x<z->z<y->x<y-(0+1):=aw 3 [.lt v0 v2,.lt v2 v1] (.lt v0 (.s v1 (.a k0 k1))) rfl [x,y,z]
theorem FP{x y:Nat}:¬y<x-1->x-(0+1)<=y:=aw 2 [.no (.lt v1 (.s v0 k1))] (.le (.s v0 (.a k0 k1)) v1) rfl [x,y]
theorem FQ{x:Nat}:0+1<=x+1:=aw 1 [] (.le (.a k0 k1) (.a v0 k1)) rfl [x]
theorem ub{x y:Nat}:x<y+1-(0+1)->x<y:=aw 2 [.lt v0 (.s (.a v1 k1) (.a k0 k1))] (.lt v0 v1) rfl [x,y]
theorem FR{x y:Nat}:y+1-(0+1)<=x->x<y+1->x=y:=aw 2 [.le (.s (.a v1 k1) (.a k0 k1)) v0,.lt v0 (.a v1 k1)] (.eq v0 v1) rfl [x,y]
theorem FS{x y z:Nat}:x+1-(0+1)<=y->y<z->z<x+1->False:=aw 3 [.le (.s (.a v0 k1) (.a k0 k1)) v1,.lt v1 v2,.lt v2 (.a v0 k1)] .f rfl [x,y,z]
theorem nZ{x y z:Nat}:x+(z+1)=y->x<y:=aw 3 [.eq (.a v0 (.a v2 k1)) v1] (.lt v0 v1) rfl [x,y,z]
theorem FT{x y z:Nat}:x+(z+1)=y->x-1<y:=aw 3 [.eq (.a v0 (.a v2 k1)) v1] (.lt (.s v0 k1) v1) rfl [x,y,z]
theorem FU{x y z w u:Nat}:z+(w+1)=y->x<z-(u+1)->x<y:=aw 5 [.eq (.a v2 (.a v3 k1)) v1,.lt v0 (.s v2 (.a v4 k1))] (.lt v0 v1) rfl [x,y,z,w,u]
theorem uc{x y:Nat}:x-(y+1)<=x-1:=aw 2 [] (.le (.s v0 (.a v1 k1)) (.s v0 k1)) rfl [x,y]
theorem FV{x y z:Nat}:y<x-(z+1)->x-1<x:=aw 3 [.lt v1 (.s v0 (.a v2 k1))] (.lt (.s v0 k1) v0) rfl [x,y,z]
theorem FW{x y z:Nat}:¬z<x-(y+1)->x-(y+1)<=z:=aw 3 [.no (.lt v2 (.s v0 (.a v1 k1)))] (.le (.s v0 (.a v1 k1)) v2) rfl [x,y,z]
theorem n0{x y z w:Nat}:z+(w+1)=y->x=z->x<y:=aw 4 [.eq (.a v2 (.a v3 k1)) v1,.eq v0 v2] (.lt v0 v1) rfl [x,y,z,w]
theorem qI{x y z w:Nat}:z+(w+1)=y->x<z->x<y:=aw 4 [.eq (.a v2 (.a v3 k1)) v1,.lt v0 v2] (.lt v0 v1) rfl [x,y,z,w]
theorem ud{x y z:Nat}:x+(z+1)=y->x<=y:=aw 3 [.eq (.a v0 (.a v2 k1)) v1] (.le v0 v1) rfl [x,y,z]
theorem FX{A B:Sort _}{P Q:Prop}{R S:A->B->Prop}(p:P)(q:Q)(a:A)(b:B)(r:R a b)(s:S a b):P/\Q/\∃a b,R a b/\S a b :=
 ⟨p,q,a,b,r,s⟩
theorem zi{A:Sort _}{P:Prop}{Q:A->Prop}(p:P)(a:A)(q:Q a):P/\∃a,Q a :=
 ⟨p,a,q⟩
theorem wn{A:Sort _}{P:Prop}{Q R:A->Prop}(p:P)(a:A)(q:Q a)(r:R a):P/\∃a,Q a/\R a :=
 ⟨p,a,q,r⟩
theorem sP{A:Sort _}{P:Prop}{Q R S:A->Prop}(p:P)(a:A)(q:Q a)(r:R a)(s:S a):P/\∃a,Q a/\R a/\S a :=
 ⟨p,a,q,r,s⟩
theorem pb{A B:Sort _}{P:Prop}{Q:A->B->Prop}(p:P)(a:A)(b:B)(q:Q a b):P/\∃a b,Q a b :=
 ⟨p,a,b,q⟩
theorem qJ{A B:Sort _}{P:Prop}{Q R:A->B->Prop}(p:P)(a:A)(b:B)(q:Q a b)(r:R a b):P/\∃a b,Q a b/\R a b :=
 ⟨p,a,b,q,r⟩
theorem ue{A B:Sort _}{P:Prop}{Q R S T:A->B->Prop}(p:P)(a:A)(b:B)(q:Q a b)(r:R a b)(s:S a b)(t:T a b):P/\∃a b,Q a b/\R a b/\S a b/\T a b :=
 ⟨p,a,b,q,r,s,t⟩
theorem FY{A B C:Sort _}{P:Prop}{Q:A->B->C->Prop}(p:P)(a:A)(b:B)(c:C)(q:Q a b c):P/\∃a b c,Q a b c :=
 ⟨p,a,b,c,q⟩
theorem FZ{A B C D:Sort _}{P:Prop}{Q R S T:A->B->C->D->Prop}(p:P)(a:A)(b:B)(c:C)(d:D)(q:Q a b c d)(r:R a b c d)(s:S a b c d)(t:T a b c d):P/\∃a b c d,Q a b c d/\R a b c d/\S a b c d/\T a b c d :=
 ⟨p,a,b,c,d,q,r,s,t⟩
theorem ja{A:Sort _}{P Q:A->Prop}(a:A)(p:P a)(q:Q a):∃a,P a/\Q a :=
 ⟨a,p,q⟩
theorem je{A:Sort _}{P Q R:A->Prop}(a:A)(p:P a)(q:Q a)(r:R a):∃a,P a/\Q a/\R a :=
 ⟨a,p,q,r⟩
theorem uf{A:Sort _}{P Q R S:A->Prop}(a:A)(p:P a)(q:Q a)(r:R a)(s:S a):∃a,P a/\Q a/\R a/\S a :=
 ⟨a,p,q,r,s⟩
theorem sQ{A:Sort _}{P Q R S T:A->Prop}(a:A)(p:P a)(q:Q a)(r:R a)(s:S a)(t:T a):∃a,P a/\Q a/\R a/\S a/\T a :=
 ⟨a,p,q,r,s,t⟩
theorem qr{A:Sort _}{P Q R S T U:A->Prop}(a:A)(p:P a)(q:Q a)(r:R a)(s:S a)(t:T a)(u:U a):∃a,P a/\Q a/\R a/\S a/\T a/\U a :=
 ⟨a,p,q,r,s,t,u⟩
theorem zj{A B C D E F:Sort _}{P Q R:A->Prop}{S T U V W X Y Z:A->B->C->D->E->F->Prop}(a:A)(p:P a)(q:Q a)(r:R a)(b:B)(c:C)(d:D)(e:E)(f:F)(s:S a b c d e f)(t:T a b c d e f)(u:U a b c d e f)(v:V a b c d e f)(w:W a b c d e f)(x:X a b c d e f)(y:Y a b c d e f)(z:Z a b c d e f):∃a,P a/\Q a/\R a/\∃b c d e f,S a b c d e f/\T a b c d e f/\U a b c d e f/\V a b c d e f/\W a b c d e f/\X a b c d e f/\Y a b c d e f/\Z a b c d e f :=
 ⟨a,p,q,r,b,c,d,e,f,s,t,u,v,w,x,y,z⟩
theorem CD{A B:Sort _}{P Q:A->Prop}{R:A->B->Prop}(a:A)(p:P a)(q:Q a)(b:B)(r:R a b):∃a,P a/\Q a/\∃b,R a b :=
 ⟨a,p,q,b,r⟩
theorem ug{A B C:Sort _}{P Q:A->Prop}{R:A->B->C->Prop}(a:A)(p:P a)(q:Q a)(b:B)(c:C)(r:R a b c):∃a,P a/\Q a/\∃b c,R a b c :=
 ⟨a,p,q,b,c,r⟩
theorem F0{A B:Sort _}{P:A->Prop}{Q:A->B->Prop}(a:A)(p:P a)(b:B)(q:Q a b):∃a,P a/\∃b,Q a b :=
 ⟨a,p,b,q⟩
theorem F1{A B C:Sort _}{P:A->Prop}{Q R S:A->B->C->Prop}(a:A)(p:P a)(b:B)(c:C)(q:Q a b c)(r:R a b c)(s:S a b c):∃a,P a/\∃b c,Q a b c/\R a b c/\S a b c :=
 ⟨a,p,b,c,q,r,s⟩
theorem j7{A B:Sort _}{P:A->B->Prop}(a:A)(b:B)(p:P a b):∃a b,P a b :=
 ⟨a,b,p⟩
theorem gf{A B:Sort _}{P Q:A->B->Prop}(a:A)(b:B)(p:P a b)(q:Q a b):∃a b,P a b/\Q a b :=
 ⟨a,b,p,q⟩
theorem ke{A B:Sort _}{P Q R:A->B->Prop}(a:A)(b:B)(p:P a b)(q:Q a b)(r:R a b):∃a b,P a b/\Q a b/\R a b :=
 ⟨a,b,p,q,r⟩
theorem wq{A B:Sort _}{P Q R S:A->B->Prop}(a:A)(b:B)(p:P a b)(q:Q a b)(r:R a b)(s:S a b):∃a b,P a b/\Q a b/\R a b/\S a b :=
 ⟨a,b,p,q,r,s⟩
theorem F2{A B:Sort _}{P Q R S T U V W X:A->B->Prop}(a:A)(b:B)(p:P a b)(q:Q a b)(r:R a b)(s:S a b)(t:T a b)(u:U a b)(v:V a b)(w:W a b)(x:X a b):∃a b,P a b/\Q a b/\R a b/\S a b/\T a b/\U a b/\V a b/\W a b/\X a b :=
 ⟨a,b,p,q,r,s,t,u,v,w,x⟩
theorem F3{A B C:Sort _}{P:A->B->C->Prop}(a:A)(b:B)(c:C)(p:P a b c):∃a b c,P a b c :=
 ⟨a,b,c,p⟩
theorem w7{A B C:Sort _}{P Q:A->B->C->Prop}(a:A)(b:B)(c:C)(p:P a b c)(q:Q a b c):∃a b c,P a b c/\Q a b c :=
 ⟨a,b,c,p,q⟩
theorem jv{A B C:Sort _}{P Q R:A->B->C->Prop}(a:A)(b:B)(c:C)(p:P a b c)(q:Q a b c)(r:R a b c):∃a b c,P a b c/\Q a b c/\R a b c :=
 ⟨a,b,c,p,q,r⟩
theorem ze{A B C:Sort _}{P Q R S:A->B->C->Prop}(a:A)(b:B)(c:C)(p:P a b c)(q:Q a b c)(r:R a b c)(s:S a b c):∃a b c,P a b c/\Q a b c/\R a b c/\S a b c :=
 ⟨a,b,c,p,q,r,s⟩
theorem gq{Y:Sort _}{Z:Sort _}{i9:Sort _}{kT:Sort _}{nw:Sort _}{ny:Sort _}{nz:Sort _}{nA:Sort _}{nB:Sort _}{P1:Y->Z->i9->Prop}{P2:Y->Z->i9->Prop}{P3:Y->Z->i9->Prop}{P4:Y->Z->i9->kT->Prop}{P5:Y->Z->i9->kT->Prop}{P6:Y->Z->i9->kT->Prop}{P7:Y->Z->i9->kT->nw->ny->nz->nA->nB->Prop}{P8:Y->Z->i9->kT->nw->ny->nz->nA->nB->Prop}{P9:Y->Z->i9->kT->nw->ny->nz->nA->nB->Prop}{Mm:Y->Z->i9->kT->nw->ny->nz->nA->nB->Prop}{Mn:Y->Z->i9->kT->nw->ny->nz->nA->nB->Prop}{Mo:Y->Z->i9->kT->nw->ny->nz->nA->nB->Prop}{Mp:Y->Z->i9->kT->nw->ny->nz->nA->nB->Prop}{Mq:Y->Z->i9->kT->nw->ny->nz->nA->nB->Prop}(u:Y)(B:Z)(C:i9)(p1:P1 u B C)(p2:P2 u B C)(p3:P3 u B C)(D:kT)(p4:P4 u B C D)(p5:P5 u B C D)(p6:P6 u B C D)(G:nw)(J:ny)(O:nz)(U:nA)(W:nB)(p7:P7 u B C D G J O U W)(p8:P8 u B C D G J O U W)(p9:P9 u B C D G J O U W)(Vx:Mm u B C D G J O U W)(Vy:Mn u B C D G J O U W)(uh:Mo u B C D G J O U W)(Vz:Mp u B C D G J O U W)(VA:Mq u B C D G J O U W):∃u:Y,∃B:Z,∃C:i9,P1 u B C/\P2 u B C/\P3 u B C/\∃D:kT,P4 u B C D/\P5 u B C D/\P6 u B C D/\∃G:nw,∃J:ny,∃O:nz,∃U:nA,∃W:nB,P7 u B C D G J O U W/\P8 u B C D G J O U W/\P9 u B C D G J O U W/\Mm u B C D G J O U W/\Mn u B C D G J O U W/\Mo u B C D G J O U W/\Mp u B C D G J O U W/\Mq u B C D G J O U W :=
 ⟨u,B,C,p1,p2,p3,D,p4,p5,p6,G,J,O,U,W,p7,p8,p9,Vx,Vy,uh,Vz,VA⟩
theorem CE{A B C D:Sort _}{P Q:A->B->C->D->Prop}(a:A)(b:B)(c:C)(d:D)(p:P a b c d)(q:Q a b c d):∃a b c d,P a b c d/\Q a b c d :=
 ⟨a,b,c,d,p,q⟩
theorem ui{A B C D:Sort _}{P Q R S:A->B->C->D->Prop}(a:A)(b:B)(c:C)(d:D)(p:P a b c d)(q:Q a b c d)(r:R a b c d)(s:S a b c d):∃a b c d,P a b c d/\Q a b c d/\R a b c d/\S a b c d :=
 ⟨a,b,c,d,p,q,r,s⟩
theorem qj{A B C D:Sort _}{P Q R S T:A->B->C->D->Prop}(a:A)(b:B)(c:C)(d:D)(p:P a b c d)(q:Q a b c d)(r:R a b c d)(s:S a b c d)(t:T a b c d):∃a b c d,P a b c d/\Q a b c d/\R a b c d/\S a b c d/\T a b c d :=
 ⟨a,b,c,d,p,q,r,s,t⟩
theorem ym{A B C D:Sort _}{P Q R S T U V W:A->B->C->D->Prop}(a:A)(b:B)(c:C)(d:D)(p:P a b c d)(q:Q a b c d)(r:R a b c d)(s:S a b c d)(t:T a b c d)(u:U a b c d)(v:V a b c d)(w:W a b c d):∃a b c d,P a b c d/\Q a b c d/\R a b c d/\S a b c d/\T a b c d/\U a b c d/\V a b c d/\W a b c d :=
 ⟨a,b,c,d,p,q,r,s,t,u,v,w⟩
theorem ye{P Q G:Prop}(h:P/\Q)(k:P->Q->G):G:=by
 obtain⟨p,q⟩:=h;exact k p q
theorem y5{P Q R G:Prop}(h:P/\Q/\R)(k:P->Q->R->G):G:=by
 obtain⟨p,q,r⟩:=h;exact k p q r
theorem kh{P Q R S G:Prop}(h:P/\Q/\R/\S)(k:P->Q->R->S->G):G:=by
 obtain⟨p,q,r,s⟩:=h;exact k p q r s
theorem CF{P Q R S T G:Prop}(h:P/\Q/\R/\S/\T)(k:P->Q->R->S->T->G):G:=by
 obtain⟨p,q,r,s,t⟩:=h;exact k p q r s t
theorem qn{A:Sort _}{P:Prop}{Q:A->Prop}{G:Prop}(h:P/\∃a,Q a)(k:P->∀a,Q a->G):G:=by
 obtain⟨p,b,q⟩:=h;exact k p b q
theorem uj{A:Sort _}{P:Prop}{Q R:A->Prop}{G:Prop}(h:P/\∃a,Q a/\R a)(k:P->∀a,Q a->R a->G):G:=by
 obtain⟨p,b,q,r⟩:=h;exact k p b q r
theorem CG{A:Sort _}{P:Prop}{Q R S:A->Prop}{G:Prop}(h:P/\∃a,Q a/\R a/\S a)(k:P->∀a,Q a->R a->S a->G):G:=by
 obtain⟨p,b,q,r,s⟩:=h;exact k p b q r s
theorem j0{A B:Sort _}{P:Prop}{Q R:A->B->Prop}{G:Prop}(h:P/\∃a b,Q a b/\R a b)(k:P->∀a b,Q a b->R a b->G):G:=by
 obtain⟨p,b,c,q,r⟩:=h;exact k p b c q r
theorem qz{A B:Sort _}{P:Prop}{Q R S:A->B->Prop}{G:Prop}(h:P/\∃a b,Q a b/\R a b/\S a b)(k:P->∀a b,Q a b->R a b->S a b->G):G:=by
 obtain⟨p,b,c,q,r,s⟩:=h;exact k p b c q r s
theorem F4{A B:Sort _}{P:Prop}{Q R S T:A->B->Prop}{G:Prop}(h:P/\∃a b,Q a b/\R a b/\S a b/\T a b)(k:P->∀a b,Q a b->R a b->S a b->T a b->G):G:=by
 obtain⟨p,b,c,q,r,s,t⟩:=h;exact k p b c q r s t
theorem zy{A B C D:Sort _}{P:Prop}{Q R S T:A->B->C->D->Prop}{G:Prop}(h:P/\∃a b c d,Q a b c d/\R a b c d/\S a b c d/\T a b c d)(k:P->∀a b c d,Q a b c d->R a b c d->S a b c d->T a b c d->G):G:=by
 obtain⟨p,b,c,d,e,q,r,s,t⟩:=h;exact k p b c d e q r s t
theorem xc{A:Sort _}{P:A->Prop}{G:Prop}(h:∃a,P a)(k:∀a,P a->G):G:=by
 obtain⟨b,p⟩:=h;exact k b p
theorem ya{A:Sort _}{P Q:A->Prop}{G:Prop}(h:∃a,P a/\Q a)(k:∀a,P a->Q a->G):G:=by
 obtain⟨b,p,q⟩:=h;exact k b p q
theorem xd{A:Sort _}{P Q R:A->Prop}{G:Prop}(h:∃a,P a/\Q a/\R a)(k:∀a,P a->Q a->R a->G):G:=by
 obtain⟨b,p,q,r⟩:=h;exact k b p q r
theorem we{A B C D E F:Sort _}{P Q R:A->Prop}{S T U V W X Y Z:A->B->C->D->E->F->Prop}{G:Prop}(h:∃a,P a/\Q a/\R a/\∃b c d e f,S a b c d e f/\T a b c d e f/\U a b c d e f/\V a b c d e f/\W a b c d e f/\X a b c d e f/\Y a b c d e f/\Z a b c d e f)(k:∀a,P a->Q a->R a->∀b c d e f,S a b c d e f->T a b c d e f->U a b c d e f->V a b c d e f->W a b c d e f->X a b c d e f->Y a b c d e f->Z a b c d e f->G):G:=by
 obtain⟨b,p,q,r,c,d,e,f,i,s,t,u,v,w,x,y,z⟩:=h;exact k b p q r c d e f i s t u v w x y z
theorem yj{A B:Sort _}{P Q:A->Prop}{R:A->B->Prop}{G:Prop}(h:∃a,P a/\Q a/\∃b,R a b)(k:∀a,P a->Q a->∀b,R a b->G):G:=by
 obtain⟨b,p,q,c,r⟩:=h;exact k b p q c r
theorem CH{A B:Sort _}{P Q:A->Prop}{R S:A->B->Prop}{G:Prop}(h:∃a,P a/\Q a/\∃b,R a b/\S a b)(k:∀a,P a->Q a->∀b,R a b->S a b->G):G:=by
 obtain⟨b,p,q,c,r,s⟩:=h;exact k b p q c r s
theorem uk{A B:Sort _}{P:A->Prop}{Q:A->B->Prop}{G:Prop}(h:∃a,P a/\∃b,Q a b)(k:∀a,P a->∀b,Q a b->G):G:=by
 obtain⟨b,p,c,q⟩:=h;exact k b p c q
theorem qq{A B:Sort _}{P:A->B->Prop}{G:Prop}(h:∃a b,P a b)(k:∀a b,P a b->G):G:=by
 obtain⟨b,c,p⟩:=h;exact k b c p
theorem xj{A B:Sort _}{P Q:A->B->Prop}{G:Prop}(h:∃a b,P a b/\Q a b)(k:∀a b,P a b->Q a b->G):G:=by
 obtain⟨b,c,p,q⟩:=h;exact k b c p q
theorem gc{A B:Sort _}{P Q R:A->B->Prop}{G:Prop}(h:∃a b,P a b/\Q a b/\R a b)(k:∀a b,P a b->Q a b->R a b->G):G:=by
 obtain⟨b,c,p,q,r⟩:=h;exact k b c p q r
theorem z8{A B:Sort _}{P Q R S:A->B->Prop}{G:Prop}(h:∃a b,P a b/\Q a b/\R a b/\S a b)(k:∀a b,P a b->Q a b->R a b->S a b->G):G:=by
 obtain⟨b,c,p,q,r,s⟩:=h;exact k b c p q r s
theorem F5{A B:Sort _}{P Q R S T:A->B->Prop}{G:Prop}(h:∃a b,P a b/\Q a b/\R a b/\S a b/\T a b)(k:∀a b,P a b->Q a b->R a b->S a b->T a b->G):G:=by
 obtain⟨b,c,p,q,r,s,t⟩:=h;exact k b c p q r s t
theorem F6{A B C:Sort _}{P:A->B->C->Prop}{G:Prop}(h:∃a b c,P a b c)(k:∀a b c,P a b c->G):G:=by
 obtain⟨b,c,d,p⟩:=h;exact k b c d p
theorem w0{A B C:Sort _}{P Q:A->B->C->Prop}{G:Prop}(h:∃a b c,P a b c/\Q a b c)(k:∀a b c,P a b c->Q a b c->G):G:=by
 obtain⟨b,c,d,p,q⟩:=h;exact k b c d p q
theorem yt{A B C:Sort _}{P Q R:A->B->C->Prop}{G:Prop}(h:∃a b c,P a b c/\Q a b c/\R a b c)(k:∀a b c,P a b c->Q a b c->R a b c->G):G:=by
 obtain⟨b,c,d,p,q,r⟩:=h;exact k b c d p q r
theorem gd{A B C:Sort _}{P Q R S:A->B->C->Prop}{G:Prop}(h:∃a b c,P a b c/\Q a b c/\R a b c/\S a b c)(k:∀a b c,P a b c->Q a b c->R a b c->S a b c->G):G:=by
 obtain⟨b,c,d,p,q,r,s⟩:=h;exact k b c d p q r s
theorem wl{A B C:Sort _}{P Q R S T:A->B->C->Prop}{G:Prop}(h:∃a b c,P a b c/\Q a b c/\R a b c/\S a b c/\T a b c)(k:∀a b c,P a b c->Q a b c->R a b c->S a b c->T a b c->G):G:=by
 obtain⟨b,c,d,p,q,r,s,t⟩:=h;exact k b c d p q r s t
theorem y8{A B C D:Sort _}{P Q:A->B->C->D->Prop}{G:Prop}(h:∃a b c d,P a b c d/\Q a b c d)(k:∀a b c d,P a b c d->Q a b c d->G):G:=by
 obtain⟨b,c,d,e,p,q⟩:=h;exact k b c d e p q
theorem gp{A B C D:Sort _}{P Q R S:A->B->C->D->Prop}{G:Prop}(h:∃a b c d,P a b c d/\Q a b c d/\R a b c d/\S a b c d)(k:∀a b c d,P a b c d->Q a b c d->R a b c d->S a b c d->G):G:=by
 obtain⟨b,c,d,e,p,q,r,s⟩:=h;exact k b c d e p q r s
theorem F7{A B C D:Sort _}{P Q R S T:A->B->C->D->Prop}{G:Prop}(h:∃a b c d,P a b c d/\Q a b c d/\R a b c d/\S a b c d/\T a b c d)(k:∀a b c d,P a b c d->Q a b c d->R a b c d->S a b c d->T a b c d->G):G:=by
 obtain⟨b,c,d,e,p,q,r,s,t⟩:=h;exact k b c d e p q r s t
theorem wrap{P:Prop}(h:∀G:Prop,(P->G)->G):P:=h P id
theorem VB{a i k:Nat}(h:a-i=k+1):a-(i+1)=k:=by(refine aab (Nat.sub_add_eq ..) ?_;refine aab h ?_;exact Nat.add_sub_cancel ..)
theorem VC{a b i k:Nat}(h:min a b-i=k+1):i<a:=aby (agA h) (aeP ..)
theorem VD{a b i k:Nat}(h:min a b-i=k+1):i<b:=aby (agA h) (abB ..)
theorem VE{k n:Nat}:(max 0 (min (k:Int) n)).toNat=min k n:=by
 rcases Nat.le_total k n with h | h
 ·simp only[adv h,Int.min_eq_left (abc.mpr h),ahX (abw k),adG]
 ·simp only[afJ h,Int.min_eq_right (abc.mpr h),ahX (abw n),adG]
section
inductive V where
 | none
 | bool (b:Bool)
 | int (i:Int)
 | str (x:Str)
 | tup (vs:List V)
 | obj (l:Nat)
 | fn (x:String)
 | ch (a b c:Int)
 | gN
 deriving Inhabited
inductive bn where
 | lst (vs:List V)
 | set (ns:List Int)
 | aP (l i:Nat) (d:Bool)
 | cX
 | tab
 | dD (k:Nat) (cK:List V)
 deriving Inhabited
noncomputable abbrev jb:=List bn
structure fK where
 args:aiL
 body:Expr
 scope:acU
 bX:List String
structure Exc where
 cls:String
 msg:Str
structure S where
 st:jb
 lo:String->Option V
set_option genInjectivity true in
inductive Res(σ α:Type) where
 | ok (a:α) (s:σ)
 | exc (e:Exc) (s:σ)
 | stuck
noncomputable abbrev M(α:Type):=S->Res S α
namespace M
variable{α β:Type}
@[simp] noncomputable def pure(a:α):M α:=λσ=>.ok a σ
@[simp] noncomputable def bind(m:M α)(f:α->M β):M β:=λσ=>match m σ with
 | .ok a aa=>f a aa
 | .exc e aa=>.exc e aa
 | .stuck=>.stuck
noncomputable instance:Monad M where
 pure:=M.pure
 bind:=M.bind
theorem ap(m:M α)(f:α->M β)(σ:S):(m >>= f) σ=(match m σ with
 | .ok a aa=>f a aa
 | .exc e aa=>.exc e aa
 | .stuck=>.stuck):=rfl
theorem fM{m:M α}{f:α->M β}{σ:S}(h:m σ = .stuck):(m >>= f) σ = .stuck:=by(refine aab (ap ..) ?_;exact aab h rfl)
theorem bZ{m:M α}{f:α->M β}{σ aa:S}{a:α}(h:m σ = .ok a aa):(m >>= f) σ=f a aa:=by(refine aab (ap ..) ?_;exact aab h rfl)
end M
noncomputable def stuck{α:Type}:M α:=λ_=>.stuck
structure ul(p:aa0)(mg mb:Str->Option aaf)(fN:Str)(dh:aai)(h:aat):Prop where
 g:h.Ns afb mg
 b:h.Ns afy mb
 nolimit:h.NoLimit
 fn:∀d∈abF p,∃a o pm code doc,mg d.name=aac (.ref a)/\h.get? a=aac o/\o.data = .func (acv d.name d.params d.body d.scope pm code doc)/\h.CodeRec code d.name/\(d.name=fN->∃c,code = .ref c/\CodeHd h c dh)
 VF:TopD p mg h
 builtins:∀x:Str,x ≠ "__name__" -> mb x=aed x
 bmain:∃bm ob,mg "__builtins__" = aac (.ref bm)/\bm≠afy/\h.get? bm=aac ob/\ob.cls = .type "module" /\ ob.dict=aac afy/\ob.data = .plain
structure aW where
 prog:aa0
 w:abC
 p:aa0
 mg:Str->Option aaf
 mb:Str->Option aaf
 base:aat
 os:OsState
 fN:Str
 bz:Str
 dh:aai
 cY:Nat->fK
 own:List aai
 top:ul p mg mb fN dh base
mutual
noncomputable def Rep(K:aW)(h:aat)(ρ:List aai):V->aaf->Prop
 | .none,w=>w = .none
 | .bool b,w=>w = .bool b
 | .int i,w => ∃t,w = .int i t
 | .str x,w => ∃t,w = .str x t
 | .tup vs,w=>vs.length<=1000000/\∃a ws,w = .ref a/\agF h a ws.toArray/\aj K h ρ vs ws/\a∉K.own
 | .obj l,w => ∃a,ρ[l]?=aac a/\w = .ref a
 | .fn x,w=>K.mg (aae x)=aac w/\∃a,w = .ref a
 | .ch a b c,w => ∃r t u v,w = .ref r/\aeB h r a b c t u v
 | .gN,w => ∃a o es n,w = .ref a/\h.get? a=aac o/\o.cls = .type "dict" /\ o.data = .dict es n/\¬adc es
noncomputable def aj(K:aW)(h:aat)(ρ:List aai):List V->List aaf->Prop
 | [],ws=>ws=[]
 | v::vs,ws => ∃x r,ws=x::r/\Rep K h ρ v x/\aj K h ρ vs r
end
noncomputable def j8(h:aat)(c:aai)(q:Str):Prop:= ∃o vs t,h.get? c=aac o/\o.cls = .type "code" /\ o.data = .fields vs/\vs[1]?=aac (.str q t)
noncomputable def j5(K:aW)(h:aat)(ρ:List aai)(cl:List (Str×aai)):List String->List V->Prop
 | [],vs=>vs=[]
 | x::xs,vs => ∃v r c w,vs=v::r/\cl.lookup (aae x)=aac c/\h.IsCell c (aac w)/\Rep K h ρ v w/\j5 K h ρ cl xs r
noncomputable def Mr(o:Obj):Prop:=(o.cls = .type "function" /\ ∃fd,o.data = .func fd)\/(o.cls = .type "object" /\ o.data = .plain)
noncomputable def qm(K:aW)(h:aat)(ρ:List aai):bn->aai->Prop
 | .cX,a => ∃o,h.get? a=aac o/\Mr o
 | .tab,a=>a=K.dh/\∃ps,h.get? a=aac (ad8 ps)/\aha ps.toList/\∀pos u,adp pos ps.toList=aac u->∃c,u = .ref c/\j8 h c K.bz
 | .dD k cK,a => ∃cl pm c B,h.get? a=aac (ahr (aae "<lambda>") K.bz (K.cY k).args (K.cY k).body (K.cY k).scope cl pm c B)/\j8 h c K.bz/\(∀x b,cl.lookup x=aac b->∃v,h.IsCell b v)/\j5 K h ρ cl (K.cY k).bX cK
 | .lst vs,a=>vs.length<=1000000/\∃ws n,IsL h a ws.toArray n/\aj K h ρ vs ws
 | .set ns,a=>ns.Nodup/\h.SetOf (aio K.prog K.w) a (λk=>decide (k∈ns)) ns.length
 | .aP l i d,a => ∃o,h.get? a=aac o/\o.cls = .type "list_iterator" /\ ∃vs,o.data = .fields vs/\if d=true then vs[0]?=aac .none else ∃b,ρ[l]?=aac b/\vs=#[.ref b,.int i 0]
structure GRel(K:aW)(st:jb)(ρ:List aai)(s:aah):Prop where
 gens:s.gens=#[]
 os:s.os=K.os
 base:∀b o,K.base.get? b=aac o->s.heap.get? b=aac o
 len:ρ.length=st.length
 cell:∀(l:Nat) (a:aai) (c:bn),ρ[l]?=aac a->st[l]?=aac c->qm K s.heap ρ c a
 nodup:ρ.Nodup
 above:∀(l:Nat) (a:aai),ρ[l]?=aac a->l≠0->K.base.get? a=aam
 own:∀a∈K.own,∃o,s.heap.get? a=aac o/\o.cls = .type "tuple" /\ ∃xs n,o.data = .seq xs n
noncomputable def VG(o:Obj):Prop:= ∃es n,o.data = .dict es n/\adc es
noncomputable def eC(o o':Obj):Prop:=o'=o\/VG o/\∃u,o'={o with slots:=u}
theorem eC.refl(o:Obj):eC o o:= .inl rfl
theorem eC.trans{o u B:Obj}(x:eC o u)(y:eC u B):eC o B:=by
 rcases x with rfl | ⟨d,C,rfl⟩
 ·exact y
 ·rcases y with rfl | ⟨_,D,rfl⟩
  ·exact .inr (zi d C rfl)
  ·exact .inr (zi d D rfl)
theorem eC.same{o o':Obj}(x:eC o o')(hd:∀es n,o.data = .dict es n->¬adc es):o'=o:=by
 rcases x with rfl | ⟨⟨es,n,d,k⟩,_⟩
 ·rfl
 ·exact absurd k (hd es n d)
theorem eC.data{o o':Obj}(x:eC o o'):o'.data=o.data/\o'.cls=o.cls/\o'.dict=o.dict:=by
 rcases x with rfl | ⟨_,u,rfl⟩<;>exact⟨rfl,rfl,rfl⟩
noncomputable def bQ(o:Obj):Prop:=(o.cls = .type "tuple" /\ ∃xs n,o.data = .seq xs n)\/((o.cls = .type "range" \/ o.cls = .type "code")/\∃vs,o.data = .fields vs)\/(o.cls = .type "dict" /\ ∃es n,o.data = .dict es n/\¬adc es)
structure Ext(mine ρ av:List aai)(h h':aat):Prop where
 pre:ρ <+: av
 alive:∀b o,h.get? b=aac o->∃o',h'.get? b=aac o'
 new:∀a∈av,a∈ρ\/h.get? a=aam
 keep:∀b o,h.get? b=aac o->b∉ρ->b∉mine->∃o',h'.get? b=aac o'/\eC o o'
 bu:∀b o,h.get? b=aac o->bQ o->h'.get? b=aac o
structure bd where
 env:Env
 A:aaE
 mine:List aai
 nh:Bool:=true
noncomputable def CI(env:Env)(h:aat)(x:Str)(w:aaf):Prop :=
 (env.kindOf x=aac .local/\∃m,h.Ns env.locals m/\m x=aac w)\/
 ((env.kindOf x=aac .cell\/env.kindOf x=aac .free)/\∃c,env.cells.lookup x=aac c/\h.IsCell c (aac w))
noncomputable def yu(K:aW)(h:aat)(l:List Env):Prop:= ∀env∈l,env.scope.kind≠.module/\∃L o es n,env.frame=aac L/\K.base.get? L=aam/\h.get? L=aac o/\o.data = .dict es n/\adc es
noncomputable def lQ(K:aW)(F:bd)(h:aat):Prop:= ∃B u,F.A.frames=aac (B::u)/\B.frame=F.env.frame/\yu K h (B::u)
theorem yu.next{K:aW}{h h':aat}{l:List Env}(x:yu K h l)(d:∀b o es n,(∃env∈l,env.frame=aac b)->h.get? b=aac o->o.data = .dict es n/\adc es->∃o' u B,h'.get? b=aac o'/\o'.data = .dict u B/\adc u):yu K h' l:=by
 intro env C;refine zy (x env C) λk L o es n f b g D=>?_;refine w0 (d L o es n ⟨env,C,f⟩ g D) λo' u B G J=>?_;exact(FZ k L o' u B f b G J)
theorem lQ.next{K:aW}{F:bd}{h h':aat}(x:lQ K F h)(d:∀b o es n,h.get? b=aac o->o.data = .dict es n/\adc es->∃o' u B,h'.get? b=aac o'/\o'.data = .dict u B/\adc u):lQ K F h':=by
 refine gc x λe l C D G=>?_
 try clear x
 exact(ke e l C D (G.next λb o es n J=>d b o es n))
theorem lQ.kept{K:aW}{F:bd}{h h':aat}(x:lQ K F h)(hk:∀b o,h.get? b=aac o->h'.get? b=aac o):lQ K F h':=x.next λb o es n g d=>(w7 o es n (hk b o g) d)
structure Rel(K:aW)(F:bd)(σ:S)(ρ:List aai)(s:aah):Prop extends GRel K σ.st ρ s where
 vars:∀x v,σ.lo x=aac v->∃w,CI F.env s.heap (aae x) w/\Rep K s.heap ρ v w
 loc:∃m,s.heap.Ns F.env.locals m
 bE:∀x c,F.env.cells.lookup x=aac c->∃v,s.heap.IsCell c v
 ao:∀a∈F.mine,K.base.get? a=aam/\∃o,s.heap.get? a=aac o
 aE:∀a∈F.mine,a∉ρ
 aJ:F.env.locals∈F.mine
 di:lQ K F s.heap
noncomputable def qK(n:Bool)(P:aaf->Prop)(e:Exc)(X:List aai)(v:aaf)(h:aat):Prop:=(e.cls ≠ "range" /\ e.cls ≠ "list_iterator" /\ e.cls ≠ "code")/\∃a t tok u vs,v = .ref a/\a∈X/\agF h t #[.str e.msg tok]/\
 h.get? a=aac u/\u.cls = .type e.cls/\u.data = .fields vs/\vs[0]?=aac (.ref t)/\
 ((n=false/\vs[1]?=aac .none)\/∃T B C D,T∈X/\T≠a/\vs[1]?=aac (.ref T)/\h.get? T=aac B/\B.data = .fields C/\B.cls = .type "traceback" /\ C[3]?=aac D/\P D)
noncomputable def Ms(_:bd)(_:aaf):Prop:=True
noncomputable def yo(n:Bool)(K:aW)(F:bd)(e:Exc)(h₀:aat)(v:aaf)(s:aah):Prop:= ∃X,(∀b∈X,h₀.get? b=aam)/\(∀b∈X,K.base.get? b=aam/\b∉F.mine)/\qK n (Ms F) e X v s.heap
noncomputable abbrev hU(K:aW)(F:bd)(e:Exc)(h₀:aat)(v:aaf)(s:aah):Prop:=yo false K F e h₀ v s
noncomputable abbrev CJ(K:aW)(F:bd)(e:Exc)(h₀:aat)(v:aaf)(s:aah):Prop:=yo true K F e h₀ v s
theorem yo.x{n:Bool}{K:aW}{F:bd}{e:Exc}{h₀:aat}{v:aaf}{s:aah}(x:yo n K F e h₀ v s):hU K F e h₀ v s:=by
 refine we x λX f g h0 a t tok u vs h1 h2 h4 h5 h6 h7 h8 h9=>?_
 try clear x
 refine(zj X f g h0 a t tok u vs h1 h2 h4 h5 h6 h7 h8 ?_)
 rcases h9 with⟨_,h⟩ | h
 ·exact .inl ⟨rfl,h⟩
 ·exact .inr h
noncomputable def Run{α β:Type}(K:aW)(F:bd)(t:Sem α)(R:aat->List aai->β->α->Prop)(out:Res S β)(ρ:List aai)(s:aah):Prop :=
 match out with
 | .stuck=>True
 | .ok b aa=>aao (aar K.prog K.w) F.A t (λa s' => ∃av,Rel K F aa av s'/\Ext F.mine ρ av s.heap s'.heap/\R s'.heap av b a) (λ_ _=>False) s
 | .exc e aa=>aao (aar K.prog K.w) F.A t (λ_ _=>False) (λv s' => ∃av,Rel K F aa av s'/\Ext F.mine ρ av s.heap s'.heap/\hU K F e s.heap v s') s
theorem Mt{α:Type}{M:adF}{A:aaE}{t:Sem α}{Q:α->aah->Prop}{E:aaf->aah->Prop}{s:aah}(h:∀B C,(∀a s',Q a s'->B a s')->(∀v s',E v s'->C v s')->aao M A t B C s):aao M A t Q E s:=h Q E (λu u q=>q) λu u q=>q
theorem Ext.refl(mine ρ:List aai)(h:aat):Ext mine ρ ρ h h :=
 ⟨aax _,λu o e=>⟨o,e⟩,λu B=>.inl B,λu o e u u=>(ja o e (.refl _)),λu u e u=>e⟩
theorem Ext.trans{mine ρ ai aC:List aai}{h aZ dU:aat}(x:Ext mine ρ ai h aZ)(y:Ext mine ai aC aZ dU):Ext mine ρ aC h dU where
 pre:=x.pre.trans y.pre
 alive:=λb o e=>by
  refine xc (x.alive b o e) λo1 e1=>?_;exact y.alive b o1 e1
 new:=λa ha=>by
  rcases y.new a ha with h1 | h1
  ·exact x.new a h1
  ·refine .inr ?_
   cases e:h.get? a with
   | none=>rfl
   | some o=>
    refine xc (x.alive a o e) λo1 e1=>?_;rw[h1] at e1;(injection e1)
 keep:=λb o e n1 n2=>by
  refine ya (x.keep b o e n1 n2) λo1 e1 l1=>?_
  have hn:b∉ai:=λhb=>by
   rcases x.new b hb with h1 | h1
   ·exact n1 h1
   ·rw[e] at h1;(injection h1)
  refine ya (y.keep b _ e1 hn n2) λo2 e2 l2=>?_;exact(ja o2 e2 (l1.trans l2))
 bu:=λb o e f=>y.bu b o (x.bu b o e f) f
theorem yo.up{n:Bool}{K:aW}{F:bd}{e:Exc}{mine ρ ai:List aai}{h aZ:aat}{v:aaf}{s:aah}(q:yo n K F e aZ v s)(x:Ext mine ρ ai h aZ):yo n K F e h v s:=by
 refine ya q λX f g=>?_
 try clear q
 refine(ja X (λb B=>?_) g)
 cases e:h.get? b with
 | none=>rfl
 | some o=>obtain⟨o',u⟩:=x.alive b o e;rw[f b B] at u;(injection u)
theorem aI{α:Type}{l u:List α}{i:Nat}{a:α}(h:l <+: u)(e:l[i]?=aac a):u[i]?=aac a:=by
 refine xc h λt B=>?_
 try clear h
 obtain rfl:=B;rw[aas]
 ·exact e
 ·exact(aaY.mp e).1
section
variable{K:aW}{h:aat}{ρ:List aai}
theorem Rep.bx{w:aaf}:Rep K h ρ .none w↔w = .none:=aeg
theorem Rep.dE{b:Bool}{w:aaf}:Rep K h ρ (.bool b) w↔w = .bool b:=aeg
theorem Rep.aH{i:Int}{w:aaf}:Rep K h ρ (.int i) w↔∃t,w = .int i t:=aeg
theorem Rep.dj{x:Str}{w:aaf}:Rep K h ρ (.str x) w↔∃t,w = .str x t:=aeg
theorem Rep.cV{vs:List V}{w:aaf}:Rep K h ρ (.tup vs) w↔vs.length<=1000000/\∃a ws,w = .ref a/\agF h a ws.toArray/\aj K h ρ vs ws/\a∉K.own:=aeg
theorem Rep.aN{l:Nat}{w:aaf}:Rep K h ρ (.obj l) w↔∃a,ρ[l]?=aac a/\w = .ref a:=aeg
theorem Rep.cW{a b c:Int}{w:aaf}:Rep K h ρ (.ch a b c) w↔∃r t u v,w = .ref r/\aeB h r a b c t u v:=aeg
theorem Rep.eD{w:aaf}:Rep K h ρ .gN w↔∃a o es n,w = .ref a/\h.get? a=aac o/\o.cls = .type "dict" /\ o.data = .dict es n/\¬adc es:=aeg
theorem aj.a7{ws:List aaf}:aj K h ρ [] ws↔ws=[]:=aeg
theorem aj.aG{v:V}{vs:List V}{ws:List aaf}:aj K h ρ (v::vs) ws↔∃x r,ws=x::r/\Rep K h ρ v x/\aj K h ρ vs r:=aeg
end
mutual
theorem Rep.bT{K:aW}{ρ av:List aai}{h h':aat}(G:ρ <+: av)(D:∀b o,h.get? b=aac o->bQ o->(o.cls = .type "tuple" -> b∉K.own)->h'.get? b=aac o):∀{v:V} {w:aaf},Rep K h ρ v w->Rep K h' av v w
 | .none,_,r=>r
 | .bool _,_,r=>r
 | .int _,_,r=>r
 | .str _,_,r=>r
 | .tup vs,w,r=>by
  refine wrap λC B=>?_;obtain⟨J,a,ws,e,t,r,q⟩:=Rep.cV.mp r;obtain⟨o,O,c,n,d⟩:=t;refine B ?_;clear B C;exact(ue J a ws e ⟨o,D _ _ O (.inl (pb c _ n d)) (λW=>q),c,n,d⟩ (aj.bT G D r) q)
 | .obj l,w,r=>by
  obtain⟨a,e,U⟩:=Rep.aN.mp r;exact(ja a (aI G e) U)
 | .fn _,_,r=>r
 | .ch _ _ _,_,r=>by
  refine wrap λC B=>?_;obtain⟨a,t,u,v,e,i⟩:=Rep.cW.mp r;refine B ?_;clear B C
  exact(CE a t u v e (D _ _ i (.inr (.inl (zi (.inl rfl) _ rfl))) (λq=>absurd (show aaK "range" = aaK "tuple" from q) (by decide))))
 | .gN,_,r=>by
  refine wrap λC B=>?_;obtain⟨a,o,es,n,e,g,c,d,k⟩:=Rep.eD.mp r;refine B ?_;clear B C
  exact(qj a o es n e (D _ _ g (.inr (.inr (qJ c es n d k))) (λq=>absurd (c.symm.trans q) (by decide))) c d k)
theorem aj.bT{K:aW}{ρ av:List aai}{h h':aat}(u:ρ <+: av)(B:∀b o,h.get? b=aac o->bQ o->(o.cls = .type "tuple" -> b∉K.own)->h'.get? b=aac o):∀{vs:List V} {ws:List aaf},aj K h ρ vs ws->aj K h' av vs ws
 | [],_,r=>r
 | v::vs,ws,r=>by
  refine wrap λD C=>?_;obtain⟨x,G,e,J,O⟩:=aj.aG.mp r;refine C ?_;clear C D;exact(ke x G e (Rep.bT u B J) (aj.bT u B O))
end
theorem Rep.br{K:aW}{ρ av:List aai}{h h':aat}(u:ρ <+: av)(B:∀b o,h.get? b=aac o->bQ o->h'.get? b=aac o){v:V}{w:aaf}(r:Rep K h ρ v w):Rep K h' av v w:=Rep.bT u (λb o e f C=>B b o e f) r
theorem aj.br{K:aW}{ρ av:List aai}{h h':aat}(u:ρ <+: av)(B:∀b o,h.get? b=aac o->bQ o->h'.get? b=aac o){vs:List V}{ws:List aaf}(r:aj K h ρ vs ws):aj K h' av vs ws:=aj.bT u (λb o e f C=>B b o e f) r
theorem Rep.mono{K:aW}{mine ρ av:List aai}{h h':aat}{v:V}{w:aaf}(r:Rep K h ρ v w)(x:Ext mine ρ av h h'):Rep K h' av v w:=Rep.br x.pre x.bu r
theorem aj.mono{K:aW}{mine ρ av:List aai}{h h':aat}{vs:List V}{ws:List aaf}(r:aj K h ρ vs ws)(x:Ext mine ρ av h h'):aj K h' av vs ws:=aj.br x.pre x.bu r
section
variable{K:aW}{h:aat}{ρ:List aai}
theorem Rep.fq{vs:List V}{w:aaf}(r:Rep K h ρ (.tup vs) w):vs.length<=1000000/\∃a ws,w = .ref a/\agF h a ws.toArray/\aj K h ρ vs ws:=by
 refine F4 (Rep.cV.mp r) λh1 a ws h2 h3 h4 u=>?_;exact⟨h1,a,ws,h2,h3,h4⟩
theorem Rep.int(i:Int)(t:Tok):Rep K h ρ (.int i) (.int i t):=Rep.aH.mpr ⟨t,rfl⟩
theorem Rep.str(x:Str)(t:Tok):Rep K h ρ (.str x) (.str x t):=Rep.dj.mpr ⟨t,rfl⟩
theorem Rep.bool(b:Bool):Rep K h ρ (.bool b) (.bool b):=Rep.dE.mpr rfl
theorem Rep.none:Rep K h ρ .none .none:=Rep.bx.mpr rfl
theorem aj.nil:aj K h ρ [] []:=aj.a7.mpr rfl
theorem aj.cons{v:V}{vs:List V}{w:aaf}{ws:List aaf}(u:Rep K h ρ v w)(B:aj K h ρ vs ws):aj K h ρ (v::vs) (w::ws):=aj.aG.mpr (ke w ws rfl u B)
theorem aj.length:∀{vs:List V} {ws:List aaf},aj K h ρ vs ws->ws.length=vs.length
 | [],_,r=>by refine aab (aj.a7.mp r) ?_;rfl
 | v::vs,ws,r=>by
  refine gc (aj.aG.mp r) λx C u D B=>?_;clear r;obtain rfl:=u
  simp[aj.length B]
theorem aj.append:∀{vs us:List V} {ws xs:List aaf},aj K h ρ vs ws->aj K h ρ us xs->aj K h ρ (vs++us) (ws++xs)
 | [],_,_,_,r,q=>by refine aab (aj.a7.mp r) ?_;exact q
 | v::vs,us,ws,xs,r,q=>by
  refine gc (aj.aG.mp r) λx D u B C=>?_;clear r;obtain rfl:=u;exact aj.cons B (aj.append C q)
theorem aj.get?: ∀{vs:List V} {ws:List aaf},aj K h ρ vs ws->∀{i:Nat} {v:V},vs[i]?=aac v->∃w,ws[i]?=aac w/\Rep K h ρ v w
 | [],_,_,i,v,e=>by simp at e
 | u::vs,ws,r,i,v,e=>by
  refine gc (aj.aG.mp r) λx G B C D=>?_;clear r;obtain rfl:=B
  cases i with
  | zero=>simp only[acd,aal] at e;subst e;exact(ja x (by simp) C)
  | succ i=>simp only[aej] at e ⊢;exact aj.get? D e
theorem aj.set:∀{vs:List V} {ws:List aaf},aj K h ρ vs ws->∀(i:Nat) {v:V} {w:aaf},Rep K h ρ v w->aj K h ρ (vs.set i v) (ws.set i w)
 | [],_,r,i,v,w,_=>by refine aab (aj.a7.mp r) ?_;exact aj.nil
 | u::vs,ws,r,i,v,w,q=>by
  refine gc (aj.aG.mp r) λx G C D B=>?_;clear r;obtain rfl:=C
  cases i with
  | zero=>exact aj.cons q B
  | succ i=>exact aj.cons D (aj.set B i q)
theorem aj.reverse{vs:List V}{ws:List aaf}(r:aj K h ρ vs ws):aj K h ρ vs.reverse ws.reverse:=by
 induction vs generalizing ws with
 | nil=>rw[aj.a7.mp r];exact aj.nil
 | cons v vs u=>
  refine gc (aj.aG.mp r) λx G B C D=>?_;clear r;obtain rfl:=B;simp only[afs,afs];exact(u D).append (aj.cons C aj.nil)
end
section
variable{K:aW}{F:bd}{α β γ δ:Type}
theorem Run.stuck{t:Sem α}{R:aat->List aai->β->α->Prop}{ρ:List aai}{s:aah}:Run K F t R (.stuck:Res S β) ρ s:=trivial
theorem Run.pure{a:α}{b:β}{σ:S}{R:aat->List aai->β->α->Prop}{ρ:List aai}{s:aah}(rel:Rel K F σ ρ s)(r:R s.heap ρ b a):
  Run K F (adO a) R (.ok b σ) ρ s:=aak (je ρ rel (Ext.refl ..) r)
theorem Run.bind{t:Sem α}{f:α->Sem γ}{R:aat->List aai->β->α->Prop}{G:aat->List aai->δ->γ->Prop}{m:M β}{k:β->M δ}{σ:S}{ρ:List aai}{s:aah}
  (h1:Run K F t R (m σ) ρ s)
  (h2:∀b aa av s' a,m σ = .ok b aa->Rel K F aa av s'->Ext F.mine ρ av s.heap s'.heap->R s'.heap av b a->Run K F (f a) G (k b aa) av s') :
  Run K F (t >>= f) G ((m >>= k) σ) ρ s:=by
 refine aab (M.ap ..) ?_
 cases e:m σ with
 | stuck=>trivial
 | exc x aa=>
  rw[e] at h1;exact aad (aap h1 (λu u h=>h.elim) λu u h=>h)
 | ok b aa=>
  rw[e] at h1;dsimp only;have key:∀{P:Prop} {O:Res S δ},k b aa=O->P->P:=λu p=>p
  cases J:k b aa with
  | stuck=>trivial
  | ok d U=>
   refine aad (aap h1 (λa s' h=>?_) λu u h=>h.elim);refine xd h λav rel x r=>?_
   try clear h
   have:=h2 b aa av s' a e rel x r;rw[J] at this
   exact aap this (λc dF h=>by refine xd h λgO B C D=>?_;try clear h;exact(je gO B (x.trans C) D)) λu u h=>h
  | exc y U=>
   refine aad (aap h1 (λa s' h=>?_) λu u h=>h.elim);refine xd h λav rel x r=>?_
   try clear h
   have:=h2 b aa av s' a e rel x r;rw[J] at this
   exact aap this (λu u h=>h) λc dF h=>by refine xd h λgO B C D=>?_;try clear h;exact(je gO B (x.trans C) (D.up x))
theorem Run.step{t:Sem α}{f:α->Sem γ}{u:aat->List aai->δ->γ->Prop}{out:Res S δ}{ρ:List aai}{s:aah}
  (h:∀(Q:α->aah->Prop) (E:aaf->aah->Prop),(∀a,Q a s)->aao (aar K.prog K.w) F.A t Q E s)
  (h2:∀a,Run K F (f a) u out ρ s):Run K F (t >>= f) u out ρ s:=by
 cases out with
 | stuck=>trivial
 | ok d aa=>exact aad (h _ _ λa=>h2 a)
 | exc y aa=>exact aad (h _ _ λa=>h2 a)
theorem Run.standAt{p:Pos}{f:Unit->Sem γ}{u:aat->List aai->δ->γ->Prop}{out:Res S δ}{ρ:List aai}{s:aah}(h2:Run K F (f ()) u out ρ s):
  Run K F (PySem.standAt p >>= f) u out ρ s:=Run.step (λB B h=>abP (h ())) λB=>h2
theorem Run.holding{vs:List aaf}{t:Sem α}{R:aat->List aai->β->α->Prop}{out:Res S β}{ρ:List aai}{s:aah}(h:Run K F t R out ρ s):Run K F (PySem.holding vs t) R out ρ s:=by
 cases out with
 | stuck=>trivial
 | ok d aa=>exact aaN h
 | exc y aa=>exact aaN h
theorem Run.operate{vs:List aaf}{t:Sem aaf}{R:aat->List aai->β->aaf->Prop}{out:Res S β}{ρ:List aai}{s:aah}(h:Run K F t R out ρ s):Run K F (afn vs t) R out ρ s:=by
 cases out with
 | stuck=>trivial
 | ok d aa=>exact af9 h
 | exc y aa=>exact af9 h
end
end
theorem CK{a b:String}(h:aae a=aae b):a=b:=by
 have h1:(cpsOfBytes 0 0 a.toByteArray.data.toList).toArray=(cpsOfBytes 0 0 b.toByteArray.data.toList).toArray:=congrArg Str.cps h;have h2:=congrArg Array.toList h1;rw[aht,aht] at h2
 have h3:a.toList.map Char.toNat=b.toList.map Char.toNat:=by simpa using h2
 have h4:a.toList=b.toList:=List.map_inj_right (λx y e=>Char.toNat_inj.mp e) |>.mp h3
 exact String.toList_inj.mp h4
noncomputable def w5(o:Obj):Prop:=(o.cls = .type "list" /\ ∃xs n,o.data = .seq xs n)\/(o.cls = .type "set" /\ ∃es n t,o.data = .set es n t)\/((o.cls = .type "list_iterator" \/ o.cls = .none)/\∃vs,o.data = .fields vs)\/Mr o
theorem j8.bT{h h':aat}{c:aai}{q:Str}{ow:List aai}(x:j8 h c q)(u:∀b o,h.get? b=aac o->bQ o->(o.cls = .type "tuple" -> b∉ow)->h'.get? b=aac o):j8 h' c q:=by
 refine gd x λo vs t e c d r=>?_
 try clear x
 exact(ze o vs t (u _ _ e (.inr (.inl (zi (.inr c) _ d))) (λq=>by rw[c] at q;exact absurd q (by decide))) c d r)
theorem j8.mono{h h':aat}{c:aai}{q:Str}(x:j8 h c q)(u:∀b o,h.get? b=aac o->bQ o->h'.get? b=aac o):j8 h' c q:=x.bT (ow:=[]) λb o e f B=>u b o e f
theorem j5.bT{K:aW}{h h':aat}{ρ av:List aai}{cl:List (Str×aai)}(u:ρ <+: av)(B:∀b o,h.get? b=aac o->bQ o->(o.cls = .type "tuple" -> b∉K.own)->h'.get? b=aac o)(C:∀c v,h.IsCell c v->h'.IsCell c v):∀{xs:List String} {vs:List V},j5 K h ρ cl xs vs->j5 K h' av cl xs vs
 | [],_,x=>x
 | _::_,_,⟨v,r,c,w,D,G,J,O,U⟩=>(qj v r c w D G (C c _ J) (Rep.bT u B O) (j5.bT u B C U))
noncomputable def sR(h:aat)(a:aai):Prop:= ∃o,h.get? a=aac o/\w5 o
theorem sR.n6{h:aat}{a:aai}{i:Array aaf}(x:h.IsList a i):sR h a:=by
 refine yj x λo e c n d=>?_
 try clear x
 exact(ja o e (.inl (pb c _ _ d)))
theorem qm.bT{K:aW}{h h':aat}{ρ av:List aai}{c:bn}{a:aai}(x:qm K h ρ c a)(C:ρ <+: av)(B:∀b o,h.get? b=aac o->bQ o->(o.cls = .type "tuple" -> b∉K.own)->h'.get? b=aac o)
  (u:∀o,h.get? a=aac o->w5 o->h'.get? a=aac o) (J:∀c v,h.IsCell c v->h'.IsCell c v):qm K h' av c a:=by
 cases c with
 | cX=>obtain⟨o,e,q⟩:=x;exact(ja o (u _ e (.inr (.inr (.inr q)))) q)
 | tab=>
  refine CG x λU ps e t q=>?_
  try clear x
  refine(sP U ps (u _ e (.inr (.inr (.inl (zi (.inr rfl) _ rfl))))) t (λpos W e=>?_));refine ya (q pos W e) λc D G=>?_;exact(ja c D (G.bT B))
 | dD k cK=>
  refine gp x λcl pm c Y e D G Z=>?_
  try clear x
  refine(ui cl pm c Y (u _ e (.inr (.inr (.inr (.inl (zi rfl _ rfl)))))) (D.bT B) (λx b e=>?_) (Z.bT C B J));refine xc (G x b e) λv q=>?_;exact⟨v,J b v q⟩
 | lst vs=>obtain⟨h0,ws,n,h1,h2⟩:=x;exact(qJ h0 ws n (u _ h1 (.inl (pb rfl _ _ rfl))) (aj.bT C B h2))
 | set ns=>obtain⟨h0,o,es,ep,t,e,c,d,r⟩:=x;exact(FZ h0 o es ep t (u _ e (.inr (.inl (FY c.1 _ _ _ d)))) c d r)
 | aP l i d=>
  refine CH x λo e c vs O r=>?_
  try clear x
  refine⟨o,u _ e (.inr (.inr (.inl (zi (.inl c) _ O)))),c,vs,O,?_⟩
  cases d with
  | true=>exact r
  | false=>obtain⟨b,q,r⟩:=r;exact(ja b (aI C q) r)
theorem qm.mono{K:aW}{h h':aat}{ρ av:List aai}{c:bn}{a:aai}(x:qm K h ρ c a)(u:ρ <+: av)(B:∀b o,h.get? b=aac o->bQ o->h'.get? b=aac o)
  (C:∀o,h.get? a=aac o->w5 o->h'.get? a=aac o) (D:∀c v,h.IsCell c v->h'.IsCell c v):qm K h' av c a:=x.bT u (λb o e f G=>B b o e f) C D
theorem CI.mono{env:Env}{h h':aat}{x:Str}{w:aaf}(v:CI env h x w)(B:∀m,h.Ns env.locals m->h'.Ns env.locals m)
  (C:∀c u,env.cells.lookup x=aac c->h.IsCell c (aac u)->h'.IsCell c (aac u)):CI env h' x w:=by
 rcases v with⟨k,m,n,e⟩ | ⟨k,c,e,n⟩
 ·exact .inl (wn k m (B m n) e)
 ·exact .inr (wn k c e (C c w e n))
section
variable{K:aW}{F:bd}{σ:S}{ρ av:List aai}{s s':aah}{mine:List aai}{h h':aat}
theorem jo(hk:∀b o,h.get? b=aac o->h'.get? b=aac o):∀b o,h.get? b=aac o->bQ o->h'.get? b=aac o:=λu u e u=>hk _ _ e
theorem Ext.kept(hk:∀b o,h.get? b=aac o->h'.get? b=aac o):Ext mine ρ ρ h h' :=
 ⟨aax _,λu o e=>⟨o,hk _ _ e⟩,λu B=>.inl B,λu o e u u=>(ja o (hk _ _ e) (.refl _)),jo hk⟩
theorem GRel.kept{st:jb}(rel:GRel K st ρ s)(hk:∀b o,s.heap.get? b=aac o->s'.heap.get? b=aac o)(hg:s'.gens=s.gens)(ho:s'.os=s.os):GRel K st ρ s' where
 gens:=hg.trans rel.gens
 os:=ho.trans rel.os
 base:=λb o e=>hk _ _ (rel.base b o e)
 len:=rel.len
 cell:=λl a c h1 h2=>(rel.cell l a c h1 h2).mono (aax _) (jo hk) (λzZ e zZ=>hk _ _ e) λzZ zZ n=>n.keeps hk
 nodup:=rel.nodup
 above:=rel.above
 own:=λa ha=>let⟨o,e,r⟩:=rel.own a ha;⟨o,hk _ _ e,r⟩
theorem Rel.kept(rel:Rel K F σ ρ s)(hk:∀b o,s.heap.get? b=aac o->s'.heap.get? b=aac o)(hg:s'.gens=s.gens)(ho:s'.os=s.os):Rel K F σ ρ s' where
 toGRel:=rel.toGRel.kept hk hg ho
 vars:=λx v e=>by
  refine ya (rel.vars x v e) λw h1 h2=>?_;exact(ja w (h1.mono (λm n=>n.keeps hk) (λc u zZ n=>n.keeps hk)) (Rep.br (aax _) (jo hk) h2))
 loc:=let⟨m,n⟩:=rel.loc;⟨m,n.keeps hk⟩
 bE:=λx c e=>let⟨v,n⟩:=rel.bE x c e;⟨v,n.keeps hk⟩
 ao:=λa ha=>let⟨h1,o,h2⟩:=rel.ao a ha;⟨h1,o,hk _ _ h2⟩
 aE:=rel.aE
 aJ:=rel.aJ
 di:=rel.di.kept hk
theorem Rel.tok(rel:Rel K F σ ρ s)(t:Nat):Rel K F σ ρ {s with toks:=t}:=rel.kept (λu u e=>e) rfl rfl
theorem Rel.push(rel:Rel K F σ ρ s)(o:Obj)(t:Nat):Rel K F σ ρ {s with heap:=s.heap.push o,toks:=t}:=rel.kept (λu u e=>aaj o e) rfl rfl
theorem Ext.push(o:Obj):Ext mine ρ ρ h (h.push o):=Ext.kept λu u e=>aaj o e
theorem GRel.alive{st:jb}(rel:GRel K st ρ s){a:aai}(D:a∈ρ):sR s.heap a:=by
 refine xc (abn.mp D) λl C=>?_;have h1:l<ρ.length:=(aaY.mp C).1;rw[rel.len] at h1;have h2:st[l]?=aac st[l]:=aav h1;have h3:=rel.cell l a _ C h2
 cases B:st[l] with
 | lst vs=>rw[B] at h3;refine j0 h3 λu ws n h4 u=>?_;try clear h3;exact(ja _ h4 (.inl (pb rfl _ _ rfl)))
 | set ns=>rw[B] at h3;refine zy h3 λu o es J t e c d u=>?_;try clear h3;exact(ja _ e (.inr (.inl (FY c.1 _ _ _ d))))
 | aP l i d=>rw[B] at h3;refine CH h3 λo e c vs G u=>?_;try clear h3;exact(ja _ e (.inr (.inr (.inl (zi (.inl c) _ G)))))
 | cX=>rw[B] at h3;refine ya h3 λo e q=>?_;try clear h3;exact(ja _ e (.inr (.inr (.inr q))))
 | tab=>rw[B] at h3;refine uj h3 λu ps e u=>?_;try clear h3;exact(ja _ e (.inr (.inr (.inl (zi (.inr rfl) _ rfl)))))
 | dD k cK=>rw[B] at h3;refine y8 h3 λcl pm c O e u=>?_;try clear h3;exact(ja _ e (.inr (.inr (.inr (.inl (zi rfl _ rfl))))))
theorem w5.bu{o:Obj}(c:w5 o)(f:bQ o):False:=by
 rcases c with⟨c,_⟩ | ⟨c,_⟩ | ⟨c | c,_⟩ | ⟨c,_⟩ | ⟨c,_⟩<;>rcases f with⟨f,_⟩ | ⟨f | f,_⟩ | ⟨f,_⟩<;>(rw[c] at f;exact absurd f (by decide))
theorem w5.dict{o:Obj}(c:w5 o){es:Array af0}{n:Nat}(f:o.data = .dict es n):False:=by
 rcases c with⟨_,_,_,c⟩ | ⟨_,_,_,_,c⟩ | ⟨_,_,c⟩ | ⟨_,_,c⟩ | ⟨_,c⟩<;>(rw[c] at f;(injection f))
theorem w5.cell{o:Obj}(c:w5 o){v:Option aaf}(f:o.data = .cell v):False:=by
 rcases c with⟨_,_,_,c⟩ | ⟨_,_,_,_,c⟩ | ⟨_,_,c⟩ | ⟨_,_,c⟩ | ⟨_,c⟩<;>(rw[c] at f;(injection f))
theorem F9{a b:aai}{o':Obj}(h1:sR h a)(u:h.get? b=aac o')(f:bQ o'):b≠a:=by
 rintro rfl
 refine ya h1 λo e c=>?_
 try clear h1
 rw[e] at u;cases u;exact c.bu f
theorem VN{o:Obj}(f:bQ o):∀es n,o.data = .dict es n->¬adc es:=by
 rintro es n d k
 rcases f with⟨_,_,_,f⟩ | ⟨_,_,f⟩ | ⟨_,_,_,f,q⟩<;>(rw[d] at f;cases f)
 exact q k
theorem VO{o:Obj}(f:bQ o):∀v,o.data≠.cell v:=by
 rintro v d
 rcases f with⟨_,_,_,f⟩ | ⟨_,_,f⟩ | ⟨_,_,_,f,_⟩<;>(rw[d] at f;(injection f))
theorem Mu{a b:aai}{m:Str->Option aaf}(h1:sR h a)(h2:h.Ns b m):b≠a:=by
 rintro rfl
 refine ya h1 λo e c=>?_
 try clear h1
 refine yt h2 λo' es D u B G=>?_
 try clear h2
 rw[e] at u;(injection u with C;subst C);exact c.dict B
theorem CL{a b:aai}{v:Option aaf}(h1:sR h a)(h2:h.IsCell b v):b≠a:=by
 rintro rfl
 refine ya h1 λo e c=>?_
 try clear h1
 refine ya h2 λo' u B=>?_
 try clear h2
 rw[e] at u;(injection u with C;subst C);exact c.cell B
theorem VP{a b:aai}{i:Array aaf}{o':Obj}(h1:h.IsList a i)(u:h.get? b=aac o')(f:bQ o'):b≠a:=F9 (.n6 h1) u f
theorem un{a b:aai}{o':Obj}{m:Str->Option aaf}(h1:h.Ns a m)(u:h.get? b=aac o')(f:bQ o'):b≠a:=by
 rintro rfl
 refine gd h1 λo es C e B k D=>?_
 try clear h1
 rw[e] at u;cases u;exact VN f _ _ B k
theorem VQ{a b:aai}{o':Obj}{v:Option aaf}(h1:h.IsCell a v)(u:h.get? b=aac o')(f:bQ o'):b≠a:=by
 rintro rfl
 refine ya h1 λo e B=>?_
 try clear h1
 rw[e] at u;cases u;exact VO f _ B
theorem qv{a b:aai}{v:Option aaf}{m:Str->Option aaf}(h1:h.IsCell a v)(h2:h.Ns b m):b≠a:=by
 rintro rfl
 refine yt h2 λo' es C u B D=>?_
 try clear h2
 refine ya h1 λo e d=>?_
 try clear h1
 rw[e] at u;cases u;rw[d] at B;(injection B)
theorem CM{α:Type}:∀{l:List α},l.Nodup->∀{i j:Nat} {a:α},l[i]?=aac a->l[j]?=aac a->i=j
 | [],_,i,j,a,h1,_=>by simp at h1
 | x::l,n,i,j,a,h1,h2=>by
  refine ye (ad4.mp n) λu B=>?_
  cases i with
  | zero=>
   cases j with
   | zero=>rfl
   | succ j=>
    simp only[acd,aal] at h1;subst h1
    exact absurd (aaM (by simpa using h2)) u
  | succ i=>
   cases j with
   | zero=>
    simp only[acd,aal] at h2;subst h2
    exact absurd (aaM (by simpa using h1)) u
   | succ j=>exact congrArg (· + 1) (CM B (by simpa using h1) (by simpa using h2))
theorem GRel.kU{st:jb}{l:Nat}{a:aai}{c:bn}(rel:GRel K st ρ s)(B:ρ[l]?=aac a)(Y:l≠0)(C:abv a s.heap s'.heap)
  (hL:qm K s'.heap ρ c a) (Z:∃o,s'.heap.get? a=aac o) (hg:s'.gens=s.gens) (ho:s'.os=s.os) :
  GRel K (st.set l c) ρ s'/\Ext mine ρ ρ s.heap s'.heap:=by
 have D:a∈ρ:=aaM B;have u:=rel.alive D;have O:∀b o,s.heap.get? b=aac o->bQ o->s'.heap.get? b=aac o:=λb o e f=>(C.2 b (F9 u e f)).trans e
 refine⟨⟨hg.trans rel.gens,ho.trans rel.os,?_,?_,?_,rel.nodup,rel.above,λa D=>let⟨o,e,r⟩:=rel.own a D;⟨o,O _ _ e (.inl r),r⟩⟩,?_⟩
 ·intro b o e
  have U:b≠a:=by rintro rfl;rw[rel.above l _ B Y] at e;(injection e)
  exact(C.2 b U).trans (rel.base b o e)
 ·simp only[rel.len,aaz]
 ·intro k b c h1 h2
  by_cases hk:k=l
  ·clear Y;subst hk
   rw[B] at h1;(injection h1 with W;subst W)
   have h3:k<st.length:=by refine adg rel.len ?_;exact(aaY.mp B).1
   rw[acm h3] at h2;(injection h2 with W;subst W)
   exact hL
  ·rw[aau (aaR hk)] at h2;have U:b≠a:=λe=>hk (CM rel.nodup (e▸h1) B);exact(rel.cell k b c h1 h2).mono (aax _) O (λG e G=>(C.2 b U).trans e) λG G n=>n.sameBut C (CL u n)
 ·refine⟨aax _,λb o e=>?_,λG J=>.inl J,λb o e n1 G=>(ja o ((C.2 b (λx=>n1 (x▸D))).trans e) (.refl _)),O⟩
  by_cases J:b=a
  ·clear B hL D u;subst J;exact Z
  ·exact⟨o,(C.2 b J).trans e⟩
theorem Rel.kU{l:Nat}{a:aai}{c:bn}(rel:Rel K F σ ρ s)(D:ρ[l]?=aac a)(J:l≠0)(C:abv a s.heap s'.heap)
  (hL:qm K s'.heap ρ c a) (O:∃o,s'.heap.get? a=aac o) (U:s'.gens=s.gens) (W:s'.os=s.os) :
  Rel K F {σ with st:=σ.st.set l c} ρ s'/\Ext F.mine ρ ρ s.heap s'.heap:=by
 refine ye (rel.toGRel.kU (mine:=F.mine) D J C hL O U W) λg x=>?_;have B:=rel.toGRel.alive (aaM D)
 refine⟨{toGRel:=g,vars:=?_,loc:=?_,bE:=?_,ao:=?_,aE:=rel.aE,aJ:=rel.aJ,di:=rel.di.next λb o es n g d=>⟨o,es,n,(C.2 b (by
   rintro rfl
   refine ya B λo' G Y=>?_
   try clear B
   rw[g] at G;(injection G with Z;subst Z);exact Y.dict d.1)).trans g,d⟩},x⟩
 ·intro y v e;refine ya (rel.vars y v e) λw h1 h2=>?_;exact(ja w (h1.mono (λm n=>n.sameBut C (Mu B n)) (λc u zZ n=>n.sameBut C (CL B n))) (h2.mono x))
 ·refine xc rel.loc λm n=>?_;exact⟨m,n.sameBut C (Mu B n)⟩
 ·intro y c e;refine xc (rel.bE y c e) λv n=>?_;exact⟨v,n.sameBut C (CL B n)⟩
 ·intro b hb;refine qn (rel.ao b hb) λh1 o h2=>?_;refine xc (x.alive b o h2) λo' h3=>?_;exact(zi h1 o' h3)
theorem Rel.upd{l n:Nat}{a:aai}{vs:List V}{ws:List aaf}(rel:Rel K F σ ρ s)(B:ρ[l]?=aac a)(D:l≠0)(C:abv a s.heap s'.heap)
  (hL:IsL s'.heap a ws.toArray n) (hr:aj K s.heap ρ vs ws) (G:vs.length<=1000000) (J:s'.gens=s.gens) (O:s'.os=s.os) :
  Rel K F {σ with st:=σ.st.set l (.lst vs)} ρ s'/\Ext F.mine ρ ρ s.heap s'.heap:=by
 have u:=rel.toGRel.alive (aaM B);exact rel.kU B D C ⟨G,ws,n,hL,aj.br (aax _) (λb o e f=>(C.2 b (F9 u e f)).trans e) hr⟩ ⟨_,hL⟩ J O
theorem Rel.eX{a:aai}{c:bn}(rel:Rel K F σ ρ s)(hk:∀b o,s.heap.get? b=aac o->s'.heap.get? b=aac o)(h0:s.heap.get? a=aam)
  (hL:qm K s'.heap ρ c a) (U:s'.gens=s.gens) (W:s'.os=s.os) :
  Rel K F {σ with st:=σ.st++[c]} (ρ++[a]) s'/\Ext F.mine ρ (ρ++[a]) s.heap s'.heap:=by
 have r:=rel.kept hk U W;have C:ρ <+: ρ++[a]:=adz _ _
 have J:a∉ρ:=λh=>by
  refine ya (rel.toGRel.alive h) λo e u=>?_;rw[h0] at e;(injection e)
 have x:Ext F.mine ρ (ρ++[a]) s.heap s'.heap:=by
  refine⟨C,λb o' e=>⟨o',hk _ _ e⟩,λb hb=>?_,λb o' e u u=>(ja o' (hk _ _ e) (.refl _)),jo hk⟩
  rcases abd.mp hb with hb | hb
  ·exact .inl hb
  ·simp only[aan] at hb;subst hb;exact .inr h0
 refine⟨{gens:=r.gens,os:=r.os,base:=r.base,len:=?_,cell:=?_,nodup:=?_,above:=?_,own:=r.own,vars:=?_,loc:=r.loc,bE:=r.bE,ao:=r.ao,aE:=?_,aJ:=r.aJ,di:=r.di},x⟩
 ·simp[rel.len]
 ·intro l b Y h1 h2;dsimp only at h2
  by_cases D:l<σ.st.length
  ·rw[aas (by refine aab rel.len ?_;exact D)] at h1
   rw[aas D] at h2;exact(rel.cell l b Y h1 h2).mono C (jo hk) (λu e u=>hk _ _ e) λu u n=>n.keeps hk
  ·have Z:l=σ.st.length:=by
    rcases aaY.mp h2 with⟨h3,_⟩
    simp at h3;exact tP h3 D
   clear D;subst Z
   rw[<- rel.len,aaq] at h1;(injection h1 with G;subst G)
   rw[aaq] at h2;(injection h2 with G;subst G)
   exact hL.mono C (λb o e u=>e) (λu e u=>e) λu u n=>n
 ·refine ahu.mpr ⟨rel.nodup,by simp,?_⟩
  intro b hb c hc;simp only[aan] at hc;subst hc
  rintro rfl
  exact J hb
 ·intro l b B cA
  by_cases O:l<ρ.length
  ·rw[aas O] at B;exact rel.above l b B cA
  ·have hb:b=a:=by
    rw[afq (by exact qE O)] at B
    have:=aaM B
    simpa using this
   clear hL J x B;subst hb
   cases e:K.base.get? b with
   | none=>rfl
   | some o'=>have:=rel.base _ _ e;rw[h0] at this;(injection this)
 ·intro y v e;refine ya (r.vars y v e) λw h1 h2=>?_;exact(ja w h1 (Rep.br C (λu u e u=>e) h2))
 ·intro b hb hc
  rcases abd.mp hc with hc | hc
  ·exact rel.aE b hb hc
  ·simp only[aan] at hc;subst hc;refine qn (rel.ao _ hb) λu o' e=>?_;rw[h0] at e;(injection e)
theorem Rel.newList{vs:List V}{ws:List aaf}{o:Obj}(rel:Rel K F σ ρ s)(u:o={cls:= .type "list",data:= .seq ws.toArray})(hr:aj K s.heap ρ vs ws)(B:vs.length<=1000000)(t:Nat):
  Rel K F {σ with st:=σ.st++[.lst vs]} (ρ++[s.heap.objs.size]) {s with heap:=s.heap.push o,toks:=t}/\Ext F.mine ρ (ρ++[s.heap.objs.size]) s.heap (s.heap.push o):=by
 subst u
 have hk:∀b o',s.heap.get? b=aac o'->(s.heap.push {cls:= .type "list",data:= .seq ws.toArray}).get? b=aac o':=λC C e=>aaj _ e
 exact rel.eX (s':={s with heap:=s.heap.push {cls:= .type "list",data:= .seq ws.toArray},toks:=t}) hk (aaQ (aaw _)) ⟨B,ws,0,aaA _ rfl,aj.br (aax _) (jo hk) hr⟩ rfl rfl
noncomputable def S.put(σ:S)(x:String)(v:V):S:={σ with lo:=λy=>if y=x then aac v else σ.lo y}
noncomputable def Gb:bn->bn
 | .dD _ _=>.cX
 | c=>c
noncomputable def kr(st:jb):jb:=st.map Gb
noncomputable def S.fA(σ:S)(x:String)(v:V):S:=⟨kr σ.st,λy=>if y=x then aac v else σ.lo y⟩
theorem Ext.eE{a:aai}(ha:a∈mine)(hs:abv a h h')(gG:∃o,h'.get? a=aac o)(ht:∀b o,h.get? b=aac o->bQ o->b≠a):Ext mine ρ ρ h h' where
 pre:=aax _
 alive:=λb o e=>by
  by_cases hb:b=a
  ·subst hb;exact gG
  ·exact⟨o,(hs.2 b hb).trans e⟩
 new:=λzZ hb=>.inl hb
 keep:=λb o e zZ n=>(ja o ((hs.2 b (λx=>n (x▸ha))).trans e) (.refl _))
 bu:=λb o e f=>(hs.2 b (ht b o e f)).trans e
theorem VR{st:jb}{l:Nat}:(kr st)[l]?=st[l]?.map Gb:=abE
theorem qm.qL{K:aW}{h h':aat}{ρ av:List aai}{c:bn}{a:aai}(x:qm K h ρ c a)(B:ρ <+: av)(C:∀b o,h.get? b=aac o->bQ o->h'.get? b=aac o)
  (u:∀o,h.get? a=aac o->w5 o->h'.get? a=aac o):qm K h' av (Gb c) a:=by
 cases c with
 | dD k cK=>obtain⟨cl,pm,c,Y,e,_⟩:=x;exact(ja _ (u _ e (.inr (.inr (.inr (.inl (zi rfl _ rfl)))))) (.inl (zi rfl _ rfl)))
 | cX=>obtain⟨o,e,q⟩:=x;exact(ja o (u _ e (.inr (.inr (.inr q)))) q)
 | tab=>
  refine CG x λG ps e t q=>?_
  try clear x
  refine(sP G ps (u _ e (.inr (.inr (.inl (zi (.inr rfl) _ rfl))))) t (λpos J e=>?_));refine ya (q pos J e) λc O U=>?_;exact(ja c O (U.mono C))
 | lst vs=>obtain⟨h0,ws,n,h1,h2⟩:=x;exact(qJ h0 ws n (u _ h1 (.inl (pb rfl _ _ rfl))) (aj.br B C h2))
 | set ns=>obtain⟨h0,o,es,W,t,e,c,d,r⟩:=x;exact(FZ h0 o es W t (u _ e (.inr (.inl (FY c.1 _ _ _ d)))) c d r)
 | aP l i d=>
  refine CH x λo e c vs D r=>?_
  try clear x
  refine⟨o,u _ e (.inr (.inr (.inl (zi (.inl c) _ D)))),c,vs,D,?_⟩
  cases d with
  | true=>exact r
  | false=>obtain⟨b,q,r⟩:=r;exact(ja b (aI B q) r)
theorem GRel.lS{st:jb}{a:aai}(rel:GRel K st ρ s)(hb:K.base.get? a=aam)(kC:a∉ρ)(hs:abv a s.heap s'.heap)(ht:∀b o,s.heap.get? b=aac o->bQ o->b≠a)
  (hg:s'.gens=s.gens) (ho:s'.os=s.os):GRel K (kr st) ρ s' where
 gens:=hg.trans rel.gens
 os:=ho.trans rel.os
 base:=λb o e=>(hs.2 b (by rintro rfl;rw[hb] at e;(injection e))).trans (rel.base b o e)
 len:=rel.len.trans (aaP _).symm
 cell:=λl b c h1 h2=>by
  have aA:b≠a:=λe=>kC (e▸aaM h1);rw[VR] at h2;refine ya (agk.mp h2) λc' e Gc=>?_;clear h2;obtain rfl:=Gc;exact(rel.cell l b c' h1 e).qL (aax _) (λd o e f=>(hs.2 d (ht d o e f)).trans e) λzZ e zZ=>(hs.2 b aA).trans e
 nodup:=rel.nodup
 above:=rel.above
 own:=λb hb=>let⟨o,e,r⟩:=rel.own b hb;⟨o,(hs.2 b (ht b o e (.inl r))).trans e,r⟩
theorem GRel.eE{st:jb}{a:aai}(rel:GRel K st ρ s)(hb:K.base.get? a=aam)(kC:a∉ρ)(hs:abv a s.heap s'.heap)(ht:∀b o,s.heap.get? b=aac o->bQ o->b≠a)
  (cf:∀c v,s.heap.IsCell c v->c≠a) (hg:s'.gens=s.gens) (ho:s'.os=s.os):GRel K st ρ s' where
 gens:=hg.trans rel.gens
 os:=ho.trans rel.os
 base:=λb o e=>(hs.2 b (by rintro rfl;rw[hb] at e;(injection e))).trans (rel.base b o e)
 len:=rel.len
 cell:=λl b c h1 h2=>by
  have aA:b≠a:=λe=>kC (e▸aaM h1);refine(rel.cell l b c h1 h2).mono (aax _) (λd o e f=>(hs.2 d (ht d o e f)).trans e) (λzZ e zZ=>(hs.2 b aA).trans e) λc v n=>n.sameBut hs (cf c v n)
 nodup:=rel.nodup
 above:=rel.above
 own:=λb hb=>let⟨o,e,r⟩:=rel.own b hb;⟨o,(hs.2 b (ht b o e (.inl r))).trans e,r⟩
theorem Rel.fO{x:String}{v:V}{w:aaf}{m:Str->Option aaf}(rel:Rel K F σ ρ s)(hk:F.env.kindOf (aae x)=aac .local)(C:s.heap.Ns F.env.locals m)
  (B:s'.heap.Ns F.env.locals (λy=>if y=aae x then aac w else m y)) (D:abv F.env.locals s.heap s'.heap) (hr:Rep K s.heap ρ v w)
  (hg:s'.gens=s.gens) (ho:s'.os=s.os):Rel K F (σ.put x v) ρ s'/\Ext F.mine ρ ρ s.heap s'.heap:=by
 have Z:∀b o,s.heap.get? b=aac o->bQ o->b≠F.env.locals:=λb o e f=>un C e f
 have gG:∃o,s'.heap.get? F.env.locals=aac o:=by refine w0 B λo G G e G=>?_;try clear B;exact⟨o,e⟩
 have ext:Ext F.mine ρ ρ s.heap s'.heap:=Ext.eE rel.aJ D gG Z
 have ly:lQ K F s'.heap:=rel.di.next λb o es n g d=>by
  by_cases O:b=F.env.locals
  ·subst O;refine gd B λo' pc hD g' d' k' G=>?_
   try clear B
   exact(jv o' _ _ g' d' k')
  ·exact(w7 o es n ((D.2 b O).trans g) d)
 refine⟨{toGRel:=rel.toGRel.eE (rel.ao _ rel.aJ).1 (rel.aE _ rel.aJ) D Z (λc v n q=>qv n C q.symm) hg ho,vars:=?_,loc:=⟨_,B⟩,bE:=?_,ao:=?_,aE:=rel.aE,aJ:=rel.aJ,di:=ly},ext⟩
 ·intro y u e
  by_cases U:y=x
  ·subst U;simp only[S.put,if_true,aal] at e;subst e
   exact(ja w (.inl (wn hk _ B (by simp))) (hr.mono ext))
  ·simp only[S.put,if_neg U] at e;refine ya (rel.vars y u e) λw' h1 h2=>?_;refine(ja w' ?_ (h2.mono ext))
   rcases h1 with⟨k1,m1,J,W⟩ | ⟨k1,c,W,J⟩
   ·refine .inl ⟨k1,_,B,?_⟩;have aA:¬aae y=aae x:=λq=>U (CK q);refine aab (if_neg aA) ?_;refine gd J λo1 kV mz g1 d1 G f1=>?_
    try clear J
    refine gd C λo2 KS KU g2 d2 G f2=>?_
    try clear C
    rw[g1] at g2;(injection g2 with Y;subst Y);rw[d1] at d2;(injection d2 with Y fP;subst Y fP)
    (rewrite[<- f2];refine aab (f1 ..) ?_);exact W
   ·exact .inr (wn k1 c W (J.sameBut D (λq=>qv J C q.symm)))
 ·intro y c e;refine xc (rel.bE y c e) λv' n=>?_;exact⟨v',n.sameBut D (λq=>qv n C q.symm)⟩
 ·intro b O;refine qn (rel.ao b O) λh1 o h2=>?_;refine xc (ext.alive b o h2) λo' h3=>?_;exact(zi h1 o' h3)
theorem Rel.setCell{x:String}{v:V}{w:aaf}{c:aai}{iF:Option aaf}(rel:Rel K F σ ρ s)(hk:F.env.kindOf (aae x)=aac .cell)(hc:F.env.cells.lookup (aae x)=aac c)(O:c∈F.mine)
  (qM:∀y,F.env.cells.lookup y=aac c->y=aae x) (h0:s.heap.IsCell c iF)
  (D:s'.heap.IsCell c (aac w)) (B:abv c s.heap s'.heap) (hr:Rep K s.heap ρ v w)
  (hg:s'.gens=s.gens) (ho:s'.os=s.os):Rel K F (σ.fA x v) ρ s'/\Ext F.mine ρ ρ s.heap s'.heap:=by
 have W:∀b o,s.heap.get? b=aac o->bQ o->b≠c:=λb o e f=>VQ h0 e f
 have gG:∃o,s'.heap.get? c=aac o:=by refine ya D λo e zZ=>?_;try clear D;exact⟨o,e⟩
 have ext:Ext F.mine ρ ρ s.heap s'.heap:=Ext.eE O B gG W
 refine⟨{toGRel:=rel.toGRel.lS (rel.ao _ O).1 (rel.aE _ O) B W hg ho,vars:=?_,loc:=?_,bE:=?_,ao:=?_,aE:=rel.aE,aJ:=rel.aJ,di:=rel.di.next λb o es n g d=>⟨o,es,n,(B.2 b (by
   rintro rfl
   refine ya h0 λo' Y Z=>?_
   try clear h0
   rw[g] at Y;(injection Y with aK;subst aK);rw[d.1] at Z;(injection Z))).trans g,d⟩},ext⟩
 ·intro y u e
  by_cases U:y=x
  ·subst U;simp only[S.fA,if_true,aal] at e;subst e;exact(ja w (.inr (wn (.inl hk) c hc D)) (hr.mono ext))
  ·simp only[S.fA,if_neg U] at e;refine ya (rel.vars y u e) λw' h1 h2=>?_;refine(ja w' ?_ (h2.mono ext))
   rcases h1 with⟨k1,m1,G,J⟩ | ⟨k1,C,J,G⟩
   ·exact .inl (wn k1 m1 (G.sameBut B (qv h0 G)) J)
   ·have aA:C≠c:=by rintro rfl;exact U (CK (qM _ J))
    exact .inr (wn k1 C J (G.sameBut B aA))
 ·refine xc rel.loc λm n=>?_;exact⟨m,n.sameBut B (qv h0 n)⟩
 ·intro y C e;refine xc (rel.bE y C e) λv' n=>?_
  by_cases Mv:C=c
  ·subst Mv;exact⟨_,D⟩
  ·exact⟨v',n.sameBut B Mv⟩
 ·intro b hb;refine qn (rel.ao b hb) λh1 o h2=>?_;refine xc (ext.alive b o h2) λo' h3=>?_;exact(zi h1 o' h3)
end
section
inductive Fl where
 | next | brk | cont
 | ret (v:V)
noncomputable def q0(K:aW)(h:aat)(ρ:List aai):Fl->Flow->Prop
 | .next,f=>f = .next
 | .brk,f=>f = .brk
 | .cont,f=>f = .cont
 | .ret v,f => ∃w,f = .ret w/\Rep K h ρ v w
noncomputable def aU(K:aW)(F:bd)(e:Expr)(m:M V):Prop:= ∀σ ρ s,Rel K F σ ρ s->Run K F (abe e F.env) (Rep K) (m σ) ρ s
noncomputable def iG(_:aat)(_:List aai)(b:Bool)(a:Bool):Prop:=a=b
noncomputable def fB(K:aW)(F:bd)(e:Expr)(m:M Bool):Prop:= ∀σ ρ s,Rel K F σ ρ s->Run K F (isTrue e F.env (abe e F.env)) iG (m σ) ρ s
noncomputable def dk(K:aW)(F:bd)(st:acE)(m:M Fl):Prop:= ∀σ ρ s,Rel K F σ ρ s->Run K F (exec st F.env) (q0 K) (m σ) ρ s
noncomputable def jj(K:aW)(F:bd)(st:List acE)(m:M Fl):Prop:= ∀σ ρ s,Rel K F σ ρ s->Run K F (execs st F.env) (q0 K) (m σ) ρ s
noncomputable def hV(_:aat)(_:List aai)(_:Unit)(_:Unit):Prop:=True
noncomputable def dz(K:aW)(F:bd)(e:Expr)(m:V->M Unit):Prop:= ∀σ ρ s v w,Rel K F σ ρ s->Rep K s.heap ρ v w->Run K F (adJ e F.env w) hV (m v σ) ρ s
structure aV(F:bd):Prop where
 kind:F.env.scope.kind = .function
 glob:F.env.globals=afb
 blt:F.env.builtins=afy
 hd:F.nh=true->F.A.handled=aam
 units:F.A.units+1000<acw
noncomputable def ah(x:String):M V:=λσ=>match σ.lo x with | some v=>.ok v σ | none=>.stuck
noncomputable def aR(x:String)(v:V):M Unit:=λσ=>.ok () (σ.put x v)
noncomputable def lU(x:String)(v:V):M Unit:=λσ=>.ok () (σ.fA x v)
variable{K:aW}{F:bd}
theorem Run.ok{α β:Type}{t:Sem α}{R:aat->List aai->β->α->Prop}{b:β}{aa:S}{ρ:List aai}{s:aah}
  (h:aao (aar K.prog K.w) F.A t (λa s' => ∃av,Rel K F aa av s'/\Ext F.mine ρ av s.heap s'.heap/\R s'.heap av b a) (λu u=>False) s):Run K F t R (.ok b aa) ρ s:=h
theorem za(B:aV F)(x:String)(pos:Pos)(hd:(aae x==("__debug__" : Str))=false:=by decide)(D:(aae x==("__classdict__" : Str))=false:=by decide):
  aU K F (.Name (aae x) pos) (ah x):=by
 intro σ ρ s rel;unfold ah
 cases e:σ.lo x with
 | none=>exact Run.stuck
 | some v=>
  dsimp only;refine ya (rel.vars x v e) λw h1 h2=>?_;refine Run.ok (wpAny_Name ?_ hd);have u:∃av,Rel K F σ av s/\Ext F.mine ρ av s.heap s.heap/\Rep K s.heap av v w:=⟨ρ,rel,Ext.refl ..,h2⟩
  rcases h1 with⟨k,m,n,G⟩ | ⟨k | k,c,C,n⟩
  ·exact agW B.kind k n G u
  ·exact ag6 B.kind k C n u
  ·exact ag7 B.kind k C n u D
theorem kz(k:Nat)(pos:Pos):aU K F (.Constant .none k pos) (pure .none):=λu ρ u rel=>Run.ok (wpAny_Constant_none ⟨ρ,rel,Ext.refl ..,Rep.none⟩)
theorem sS(b:Bool)(k:Nat)(pos:Pos):aU K F (.Constant (.bool b) k pos) (pure (.bool b)):=λu ρ u rel=>Run.ok (aeY ⟨ρ,rel,Ext.refl ..,Rep.bool b⟩)
theorem kc(i:Int)(k:Nat)(pos:Pos):aU K F (.Constant (.int i) k pos) (pure (.int i)):=λu ρ u rel=>Run.ok (afh ⟨ρ,rel.tok _,Ext.refl ..,Rep.int ..⟩)
theorem VS(x:Str)(k:Nat)(pos:Pos):aU K F (.Constant (.str x) k pos) (pure (.str x)):=λu ρ u rel=>Run.ok (wpAny_Constant_str ⟨ρ,rel.tok _,Ext.refl ..,Rep.str ..⟩)
noncomputable def qN(K:aW)(op:agH)(f:V->V->M V):Prop :=
 ∀F:bd,aV F->∀σ ρ s a b u B,Rel K F σ ρ s->Rep K s.heap ρ a u->Rep K s.heap ρ b B->Run K F (binaryOp op u B) (Rep K) (f a b σ) ρ s
noncomputable def n7(K:aW)(op:CmpOp)(f:V->V->M V):Prop :=
 ∀F:bd,aV F->∀σ ρ s a b u B,Rel K F σ ρ s->Rep K s.heap ρ a u->Rep K s.heap ρ b B->Run K F (af1 op u B) (Rep K) (f a b σ) ρ s
noncomputable def uq(K:aW)(op:UnaryOp)(f:V->M V):Prop :=
 ∀F:bd,aV F->∀σ ρ s a u,Rel K F σ ρ s->Rep K s.heap ρ a u->Run K F (afB op u) (Rep K) (f a σ) ρ s
noncomputable def qO(K:aW)(f:V->M Bool):Prop :=
 ∀F:bd,aV F->∀σ ρ s a u,Rel K F σ ρ s->Rep K s.heap ρ a u->Run K F (ags u) iG (f a σ) ρ s
theorem yf(C:aV F){op:agH}{f:V->V->M V}(D:qN K op f){l r:Expr}{u B:M V}(pos:Pos)(G:aU K F l u)(hr:aU K F r B):
  aU K F (.BinOp l op r pos) (do let a <- u;let b <- B;f a b):=by
 intro σ ρ s rel;simp only[eval_BinOp];refine Run.bind (G σ ρ s rel) λa J ai af O U W aL ra=>?_;refine Run.bind (Run.holding (hr J ai af W)) λb Y Z ay wb U aB aX rb=>?_;exact Run.standAt (Run.operate (D F C Y Z ay a b O wb aB (ra.mono aX) rb))
theorem Mw(B:aV F){op:UnaryOp}{f:V->M V}(C:uq K op f){l:Expr}{u:M V}(pos:Pos)(D:aU K F l u):
  aU K F (.UnaryOp op l pos) (do let a <- u;f a):=by
 intro σ ρ s rel
 show Run K F (do let v <- abe l F.env;standAt pos;holding [v] (afB op v)) (Rep K) _ ρ s
 refine Run.bind (D σ ρ s rel) λa G ai af J U O W ra=>?_;exact Run.standAt (Run.holding (C F B G ai af a J O ra))
theorem Gd(D:aV F){op:CmpOp}{f:V->V->M V}(G:n7 K op f){l r:Expr}{u B:M V}(pos:Pos)(J:aU K F l u)(hr:aU K F r B)
  (O:ag0 op r=false:=by rfl) :
  aU K F (.Compare l [op] [r] pos) (do let a <- u;let b <- B;f a b):=by
 intro σ ρ s rel
 have e:abe (.Compare l [op] [r] pos) F.env=(do let left <- abe l F.env;let C <- holding [left] (abe r F.env);standAt pos;operate [left,C] (af1 op left C)):=by
  simp only[eval_Compare1];exact aab (aek O) rfl
 refine aab e ?_;refine Run.bind (J σ ρ s rel) λa U ai af W Y Z aL ra=>?_;refine Run.bind (Run.holding (hr U ai af Z)) λb ar aC ay wb Y aB aX rb=>?_;exact Run.standAt (Run.operate (G F D ar aC ay a b W wb aB (ra.mono aX) rb))
theorem kf(u:aV F){op:CmpOp}{f:V->V->M V}(O:n7 K op f){B:V->M Bool}(U:qO K B){l r:Expr}{C D:M V}(pos:Pos)(W:aU K F l C)(hr:aU K F r D)
  (Y:ag0 op r=false:=by rfl) :
  fB K F (.Compare l [op] [r] pos) (do let a <- C;let b <- D;let c <- f a b;B c):=by
 intro σ ρ s rel
 have e:isTrue (.Compare l [op] [r] pos) F.env (abe (.Compare l [op] [r] pos) F.env)=(do let left <- abe l F.env;let G <- holding [left] (abe r F.env);standAt pos;let c <- operate [left,G] (af1 op left G);holding [c] (ags c)):=by
  simp only[aie];exact aab (aek Y) rfl
 refine aab e ?_;refine Run.bind (W σ ρ s rel) λa Z ai af wa J ae aL ra=>?_;refine Run.bind (Run.holding (hr Z ai af ae)) λb ar aC ay wb J aB aX rb=>?_;refine Run.standAt (Run.bind (Run.operate (O F u ar aC ay a b wa wb aB (ra.mono aX) rb)) λc aO bt bg wc J aY bR rc=>?_);exact Run.holding (U F u aO bt bg c wc aY rc)
theorem w8(B:aV F){u:V->M Bool}(C:qO K u){e:Expr}{m:M V}(D:aU K F e m)
  (hi:isTrue e F.env (abe e F.env)=(do let v <- abe e F.env;standAt e.pos;holding [v] (ags v)):=by rfl) :
  fB K F e (do let v <- m;u v):=by
 intro σ ρ s rel;refine aab hi ?_;refine Run.bind (D σ ρ s rel) λa G ai af J U O W ra=>?_;exact Run.standAt (Run.holding (C F B G ai af a J O ra))
theorem k8{e:Expr}{m:M Bool}(pos:Pos)(B:fB K F e m):fB K F (.UnaryOp .Not e pos) (do let b <- m;pure (!b)):=by
 intro σ ρ s rel
 show Run K F (do return !(<- isTrue e F.env (abe e F.env))) iG _ ρ s
 refine Run.bind (B σ ρ s rel) λb G ai af C J D O u=>?_;have:C=b:=u;clear u;subst this;exact Run.pure D rfl
noncomputable def qP(K:aW)(F:bd)(op:BoolOp)(es:List Expr)(m:M Bool):Prop:= ∀σ ρ s,Rel K F σ ρ s->Run K F (allTrue op es F.env) iG (m σ) ρ s
theorem CN:qP K F .And [] (pure true):=λu u u rel=>Run.pure rel rfl
theorem Mx:qP K F .Or [] (pure false):=λu u u rel=>Run.pure rel rfl
theorem xv{e:Expr}{es:List Expr}{m u:M Bool}(D:fB K F e m)(G:qP K F .And es u):qP K F .And (e::es) (do if(<- m)=true then u else pure false):=by
 intro σ ρ s rel
 show Run K F (do match BoolOp.And,<- isTrue e F.env (abe e F.env) with
  | .And,false=>pure false
  | .Or,true=>pure true
  | _,_=>allTrue .And es F.env) iG _ ρ s
 refine Run.bind (D σ ρ s rel) λb J ai af B U C W O=>?_;have:B=b:=O;subst this
 cases B with
 | false=>simp only[aaW,if_false];exact Run.pure C rfl
 | true=>simp only[if_true];exact G J ai af C
theorem CO{e:Expr}{es:List Expr}{m u:M Bool}(D:fB K F e m)(G:qP K F .Or es u):qP K F .Or (e::es) (do if(<- m)=true then pure true else u):=by
 intro σ ρ s rel
 show Run K F (do match BoolOp.Or,<- isTrue e F.env (abe e F.env) with
  | .And,false=>pure false
  | .Or,true=>pure true
  | _,_=>allTrue .Or es F.env) iG _ ρ s
 refine Run.bind (D σ ρ s rel) λb J ai af B U C W O=>?_;have:B=b:=O;subst this
 cases B with
 | false=>simp only[aaW,if_false];exact G J ai af C
 | true=>simp only[if_true];exact Run.pure C rfl
theorem y6{op:BoolOp}{es:List Expr}{m:M Bool}(pos:Pos)(h:qP K F op es m):fB K F (.BoolOp op es pos) m:=λσ ρ s rel=>h σ ρ s rel
noncomputable def sT(K:aW)(F:bd)(pos:Pos)(op:BoolOp)(es:List Expr)(m:M V):Prop:= ∀σ ρ s,Rel K F σ ρ s->Run K F (boolOp pos op (aiX es F.env)) (Rep K) (m σ) ρ s
theorem My{e:Expr}{m:M V}{pos:Pos}{op:BoolOp}(u:aU K F e m):sT K F pos op [e] m:=λσ ρ s rel=>u σ ρ s rel
theorem VT(O:aV F){B:V->M Bool}(U:qO K B){e u:Expr}{es:List Expr}{m C:M V}{pos:Pos}(W:aU K F e m)(Y:sT K F pos .And (u::es) C):
  sT K F pos .And (e::u::es) (do let v <- m;if(<- B v)=true then C else pure v):=by
 intro σ ρ s rel
 show Run K F (do
  let v <- abe e F.env
  standAt pos
  let t <- holding [v] (ags v)
  match BoolOp.And,t with
  | .And,false | .Or,true=>pure v
  | _,_=>boolOp pos .And (aiX (u::es) F.env)) (Rep K) _ ρ s
 refine Run.bind (W σ ρ s rel) λv Z ai af wv zZ ae aL D=>?_;refine Run.standAt (Run.bind (Run.holding (U F O Z ai af v wv ae D)) λb ar aC ay G zZ J aX rb=>?_);have:G=b:=rb;subst this
 cases G with
 | false=>simp only[aaW,if_false];exact Run.pure J (D.mono aX)
 | true=>simp only[if_true];exact Y ar aC ay J
theorem VU(O:aV F){B:V->M Bool}(U:qO K B){e u:Expr}{es:List Expr}{m C:M V}{pos:Pos}(W:aU K F e m)(Y:sT K F pos .Or (u::es) C):
  sT K F pos .Or (e::u::es) (do let v <- m;if(<- B v)=true then pure v else C):=by
 intro σ ρ s rel
 show Run K F (do
  let v <- abe e F.env
  standAt pos
  let t <- holding [v] (ags v)
  match BoolOp.Or,t with
  | .And,false | .Or,true=>pure v
  | _,_=>boolOp pos .Or (aiX (u::es) F.env)) (Rep K) _ ρ s
 refine Run.bind (W σ ρ s rel) λv Z ai af wv zZ ae aL D=>?_;refine Run.standAt (Run.bind (Run.holding (U F O Z ai af v wv ae D)) λb ar aC ay G zZ J aX rb=>?_);have:G=b:=rb;subst this
 cases G with
 | false=>simp only[aaW,if_false];exact Y ar aC ay J
 | true=>simp only[if_true];exact Run.pure J (D.mono aX)
theorem Mz{op:BoolOp}{es:List Expr}{m:M V}{pos:Pos}(h:sT K F pos op es m):aU K F (.BoolOp op es pos) m:=λσ ρ s rel=>h σ ρ s rel
theorem y3{test body u:Expr}{mt:M Bool}{mb B:M V}(pos:Pos)(J:fB K F test mt)(O:aU K F body mb)(U:aU K F u B):
  aU K F (.IfExp test body u pos) (do if(<- mt)=true then mb else B):=by
 intro σ ρ s rel
 show Run K F (do if <- isTrue test F.env (abe test F.env) then abe body F.env else abe u F.env) (Rep K) _ ρ s
 refine Run.bind (J σ ρ s rel) λb C ai af D Y G Z W=>?_;have:D=b:=W;subst this
 cases D with
 | false=>simp only[aaW,if_false];exact U C ai af G
 | true=>simp only[if_true];exact O C ai af G
noncomputable def lz(K:aW)(F:bd)(es:List Expr)(m:M (List V)):Prop:= ∀(pos:Pos) σ ρ s,Rel K F σ ρ s->Run K F (acB (ad9 pos (abu es F.env))) (aj K) (m σ) ρ s
theorem zd:lz K F [] (pure []):=λu u u u rel=>Run.pure rel aj.nil
theorem jm(x:Sem aaf)(u:List (Bool×Sem aaf)):acB ((false,x)::u)=(do let v <- x;let vs <- holding [v] (acB u);pure ([v]++vs)):=by
 rfl
theorem zb{e:Expr}{es:List Expr}{m:M V}{u:M (List V)}(B:aU K F e m)(C:lz K F es u)
  (D:abu (e::es) F.env=(false,abe e F.env)::abu es F.env:=by rfl):lz K F (e::es) (do let v <- m;let vs <- u;pure (v::vs)):=by
 intro pos σ ρ s rel;refine aab D ?_;show Run K F (acB ((false,abe e F.env)::ad9 pos (abu es F.env))) _ _ ρ s;refine aab (jm ..) ?_;refine Run.bind (B σ ρ s rel) λa G ai af Z J O aL ra=>?_;refine Run.bind (Run.holding (C pos G ai af O)) λb ar aC ay wb J U W Y=>?_;exact Run.pure U (aj.cons (ra.mono W) Y)
noncomputable def cB(vs:List V):M V:=λσ=>if vs.length<=1000000 then .ok (.obj σ.st.length) {σ with st:=σ.st++[.lst vs]} else .stuck
theorem ur{n:Nat}(h:n<=1000000):n<=agI:=by refine aab aa1 ?_;exact To h
theorem VV{σ:S}{ρ:List aai}{s:aah}{vs:List V}{ws:List aaf}(rel:Rel K F σ ρ s)(r:aj K s.heap ρ vs ws):Run K F (newList ws) (Rep K) (cB vs σ) ρ s:=by
 unfold cB
 by_cases u:vs.length<=1000000
 ·refine aab (if_pos u) ?_
  refine ye (rel.newList (o:={cls:= .type "list",data:= .seq ws.toArray}) rfl r u s.toks) λB x=>?_
  refine Run.ok (ac0 ⟨_,B,x,?_⟩ (ur (by refine aab r.length ?_;exact u)))
  refine Rep.aN.mpr (ja _ ?_ rfl);simp only[<- rel.len,aaq]
 ·refine aab (if_neg u) ?_;exact Run.stuck
theorem zo{es:List Expr}{u:M (List V)}(pos:Pos)(B:lz K F es u):aU K F (.List es pos) (do let vs <- u;cB vs):=by
 intro σ ρ s rel
 show Run K F (do standAt pos;newList (<- acB (ad9 pos (abu es F.env)))) (Rep K) _ ρ s
 refine Run.standAt (Run.bind (B pos σ ρ s rel) λa D ai af G J C O ra=>?_);exact VV C ra
theorem GRel.kD{st:jb}{ρ:List aai}{s:aah}{a:aai}(rel:GRel K st ρ s)(h:s.heap.objs.size<=a):a∉K.own:=λq=>by
 refine ya (rel.own a q) λo e u=>?_;exact absurd (abG e) (aeK.mpr h)
theorem VW{σ:S}{ρ:List aai}{s:aah}{vs:List V}{ws:List aaf}(rel:Rel K F σ ρ s)(r:aj K s.heap ρ vs ws)(u:vs.length<=1000000):Run K F (ae4 ws) (Rep K) (.ok (.tup vs) σ) ρ s:=by
 have x:Ext F.mine ρ ρ s.heap (s.heap.push {cls:= .type "tuple",data:= .seq ws.toArray}):=Ext.push _
 refine Run.ok (add ⟨ρ,rel.push _ s.toks,x,?_⟩ (ur (by refine aab r.length ?_;exact u)))
 exact Rep.cV.mpr (ue u _ ws rfl (IsTup.new _ _) (r.mono x) (rel.toGRel.kD (aaw _)))
noncomputable def lA(vs:List V):M V:=λσ=>if vs.length<=1000000 then .ok (.tup vs) σ else .stuck
theorem gv{es:List Expr}{u:M (List V)}(k:Nat)(pos:Pos)(B:lz K F es u):aU K F (.Tuple es k pos) (do let vs <- u;lA vs):=by
 intro σ ρ s rel
 show Run K F (do standAt pos;ae4 (<- acB (ad9 pos (abu es F.env)))) (Rep K) _ ρ s
 refine Run.standAt (Run.bind (B pos σ ρ s rel) λa D ai af G J C O ra=>?_);unfold lA
 split
 ·exact VW C ra ‹_›
 ·exact Run.stuck
theorem gk:jj K F [] (pure .next):=λu u u rel=>Run.pure rel rfl
noncomputable def aS(a b:M Fl):M Fl:=do
 match <- a with
 | .next=>b
 | f=>pure f
theorem zc{st:acE}{C:List acE}{m D:M Fl}(h:dk K F st m)(G:jj K F C D):jj K F (st::C) (aS m D):=by
 intro σ ρ s rel
 show Run K F (do match <- exec st F.env with | .next=>execs C F.env | f=>pure f) _ _ ρ s
 refine Run.bind (h σ ρ s rel) λf J ai af wf O u U B=>?_
 cases f with
 | next=>have:wf = .next:=B;subst this;exact G J ai af u
 | brk=>have:wf = .brk:=B;subst this;exact Run.pure u rfl
 | cont=>have:wf = .cont:=B;subst this;exact Run.pure u rfl
 | ret v=>obtain⟨w,e,r⟩:=B;subst e;exact Run.pure u ⟨w,rfl,r⟩
theorem kd{st:acE}{m:M Fl}(h:dk K F st m):jj K F [st] m:=by
 intro σ ρ s rel;have:=zc h gk σ ρ s rel
 have e:aS m (pure .next) σ=m σ:=by
  unfold aS;refine aab (M.ap ..) ?_
  cases m σ with
  | stuck=>rfl
  | exc x y=>rfl
  | ok f y=>cases f<;>rfl
 rw[e] at this;exact this
theorem VX(pos:Pos):dk K F (.Pass pos) (pure .next):=λu u u rel=>Run.standAt (Run.pure rel rfl)
theorem VY(pos:Pos):dk K F (.Break pos) (pure .brk):=λu u u rel=>Run.standAt (Run.pure rel rfl)
theorem VZ(pos:Pos):dk K F (.Continue pos) (pure .cont):=λu u u rel=>Run.standAt (Run.pure rel rfl)
theorem jh{e:Expr}{m:M V}(pos:Pos)(h:aU K F e m):dk K F (.Return (aac e) pos) (do let v <- m;pure (.ret v)):=by
 intro σ ρ s rel;simp only[exec_Return_some];exact Run.standAt (Run.bind (h σ ρ s rel) λv B ai af w C u D r=>Run.pure u ⟨w,rfl,r⟩)
theorem wm{test:Expr}{body u:List acE}{mt:M Bool}{mb B:M Fl}(pos:Pos)(J:fB K F test mt)(O:jj K F body mb)(U:jj K F u B):
  dk K F (.If test body u pos) (do if(<- mt)=true then mb else B):=by
 intro σ ρ s rel;simp only[exec_If];refine Run.standAt (Run.bind (J σ ρ s rel) λb C ai af D Y G Z W=>?_);have:D=b:=W;subst this
 cases D with
 | false=>simp only[aaW,if_false];exact U C ai af G
 | true=>simp only[if_true];exact O C ai af G
theorem V0(u:aV F):interactive F.env=false:=by
 unfold interactive;refine aab u.kind ?_;rfl
theorem V1{e:Expr}{pos:Pos}{v:aaf}{σ:S}{ρ:List aai}{s:aah}(rel:Rel K F σ ρ s):Run K F (dropValue e pos v) (q0 K) (.ok .next σ) ρ s :=
 Run.ok (wpAny_dropValue ⟨ρ,rel,Ext.refl ..,rfl⟩)
theorem zw(u:aV F){e:Expr}{m:M V}(pos:Pos)(h:aU K F e m)(B:af2 e aam pos.line F.env=pure false:=by rfl):
  dk K F (.Expr e pos) (do let _ <- m;pure .next):=by
 intro σ ρ s rel;refine aab (exec_Expr F.env e pos (V0 u) B) ?_;exact Run.standAt (Run.bind (h σ ρ s rel) λv D ai af w G C J r=>V1 C)
theorem yc(x:String)(pos:Pos)(B:aV F)(hk:F.env.kindOf (aae x)=aac .local):dz K F (.Name (aae x) pos) (λv=>aR x v):=by
 intro σ ρ s v w rel r;refine Run.ok (ahv ?_);refine xc rel.loc λm u=>?_
 refine aeC hk u (λh' C D=>?_) (by refine aab B.kind ?_;rfl)
 refine ye (rel.fO (s':={s with heap:=h',toks:=s.toks+1}) hk u C D r rfl rfl) λG J=>?_
 exact(je ρ G J trivial)
theorem V2(x:String)(pos:Pos)(B:aV F){c:aai}(hk:F.env.kindOf (aae x)=aac .cell)(u:F.env.cells.lookup (aae x)=aac c)(C:c∈F.mine)
  (D:∀y,F.env.cells.lookup y=aac c->y=aae x):dz K F (.Name (aae x) pos) (λv=>lU x v):=by
 intro σ ρ s v w rel r;refine Run.ok (ahv ?_);refine xc (rel.bE _ _ u) λW h0=>?_;refine wpAny_storeName_cell B.kind hk u h0 (λh' G J=>?_)
 refine ye (rel.setCell (s':={s with heap:=h'}) hk u C D h0 G J r rfl rfl) λO U=>?_
 exact(je ρ O U trivial)
theorem MA(env:Env)(u:List Expr)(B:Expr)(pos:Pos):exec (.Assign u B pos) env=(do
  standAt pos
  if <- ag1 u B pos.line env then do
   evalThenUse B env λv=>assignAll v ((adr u env).map (·.2))
   pure .next
  else do
   let v <- abe B env
   assignStores env v (<- ag2 u B env) ((adr u env).map (·.2))):=by rfl
theorem qQ{α β:Type}(a:α)(f:α->Sem β):(pure a >>= f)=f a:=rfl
theorem yd{t e:Expr}{mt:V->M Unit}{m:M V}(pos:Pos)(B:dz K F t mt)(h:aU K F e m)
  (C:af2 e (aac t) pos.line F.env=pure false:=by rfl) (D:ag2 [t] e F.env=pure aam:=by rfl)
  (G:adr [t] F.env=[(false,adJ t F.env)]:=by rfl) :
  dk K F (.Assign [t] e pos) (do let v <- m;mt v;pure .next):=by
 intro σ ρ s rel;refine aab (MA ..) ?_;refine Run.standAt ?_
 (refine aab (show ag1 [t] e pos.line F.env=pure false from C) ?_;refine aab (qQ ..) ?_;refine aab (if_neg abz) ?_)
 refine Run.bind (h σ ρ s rel) λv J ai af w u O W r=>?_
 (refine aab D ?_;refine aab G ?_;refine aab (qQ ..) ?_)
 show Run K F (do adJ t F.env w;(pure Flow.next:Sem Flow)) _ _ ai af
 exact Run.bind (B J ai af v w O r) λu Y Z ay u u U u u=>Run.pure U rfl
end
section
variable{K:aW}{F:bd}
noncomputable def QO{α β:Type}(K:aW)(F:bd)(R:aat->List aai->β->α->Prop)(out:Res S β)(ρ:List aai)(h:aat):α->aah->Prop :=
 λa s' => ∃b aa av,out = .ok b aa/\Rel K F aa av s'/\Ext F.mine ρ av h s'.heap/\R s'.heap av b a
noncomputable def EO{β:Type}(K:aW)(F:bd)(out:Res S β)(ρ:List aai)(h:aat):aaf->aah->Prop :=
 λv s' => ∃e aa av,out = .exc e aa/\Rel K F aa av s'/\Ext F.mine ρ av h s'.heap/\hU K F e h v s'
theorem Run.wp{α β:Type}{t:Sem α}{R:aat->List aai->β->α->Prop}{out:Res S β}{ρ:List aai}{s:aah}(h:Run K F t R out ρ s)(B:out≠.stuck):
  aao (aar K.prog K.w) F.A t (QO K F R out ρ s.heap) (EO K F out ρ s.heap) s:=by
 cases out with
 | stuck=>exact absurd rfl B
 | ok b aa=>exact aap h (λa s' ⟨av,h1,h2,h3⟩=>(ze b aa av rfl h1 h2 h3)) λu u h=>h.elim
 | exc e aa=>exact aap h (λu u h=>h.elim) λa s' ⟨av,h1,h2,h3⟩=>(ze e aa av rfl h1 h2 h3)
theorem Run.of_wp{α β:Type}{t:Sem α}{R:aat->List aai->β->α->Prop}{out:Res S β}{ρ:List aai}{s:aah}
  (h:out≠.stuck->aao (aar K.prog K.w) F.A t (QO K F R out ρ s.heap) (EO K F out ρ s.heap) s):Run K F t R out ρ s:=by
 cases out with
 | stuck=>trivial
 | ok b aa=>
  refine aap (h (by simp)) (λa s' B=>?_) λa s' C=>?_
  ·refine gd B λJ O av e h1 h2 h3=>?_
   try clear B;(injection e with D G;subst D G);exact(je av h1 h2 h3)
  ·refine w0 C λu u u e u=>?_
   try clear C;(injection e)
 | exc x aa=>
  refine aap (h (by simp)) (λa s' B=>?_) λa s' C=>?_
  ·refine w0 B λu u u e u=>?_
   try clear B;(injection e)
  ·refine gd C λJ O av e h1 h2 h3=>?_
   try clear C;(injection e with D G;subst D G);exact(je av h1 h2 h3)
theorem Run.fQ{α β γ:Type}{t:Sem α}{R:aat->List aai->β->α->Prop}{m:M β}{f:β->M γ}{σ:S}{out:Res S γ}{ρ au:List aai}{h₀:aat}{s:aah}{Q:α->aah->Prop}{E:aaf->aah->Prop}
  (r:Run K F t R (m σ) ρ s) (x:Ext F.mine au ρ h₀ s.heap) (B:out≠.stuck) (e:(m >>= f) σ=out) (C:∀{v s'},EO K F out au h₀ v s'->E v s')
  (k:∀b aa av a s',f b aa=out->Rel K F aa av s'->Ext F.mine ρ av s.heap s'.heap->Ext F.mine au av h₀ s'.heap->R s'.heap av b a->Q a s'):aao (aar K.prog K.w) F.A t Q E s:=by
 subst e;rw[M.ap] at B
 refine aap (r.wp λq=>B (by exact aab q rfl)) (λa s' u=>?_) λv s' u=>C ?_
 ·refine gd u λb aa av e rel y ra=>?_
  try clear u
  exact k b aa av a s' (M.bZ e).symm rel y (x.trans y) ra
 ·refine gd u λb aa av e rel y ra=>?_
  try clear u
  exact(ze b aa av (by(refine aab (M.ap ..) ?_;exact aab e rfl)) rel (x.trans y) (ra.up x))
theorem V3{e:aaf}{env env':Env}(h:env.frame=env'.frame):aeb e env=aeb e env':=by
 unfold aeb ag3;exact aab h rfl
theorem yu.Gf{h:aat}{l:List Env}(x:yu K h l):h.FunFrames K.base l:=by
 induction l with
 | nil=>trivial
 | cons env l u=>
  refine zy (x env aaS) λk L o es n f b g d=>?_
  exact⟨k,⟨L,o,f,b,g,λvs q=>by rw[d.1] at q;(injection q)⟩,u λe B=>x e (aaU _ B)⟩
theorem yu.eY{h:aat}{l:List Env}(x:yu K h l){b:aai}(u:b∈l.filterMap (·.frame)):K.base.get? b=aam/\∃o es n,h.get? b=aac o/\o.data = .dict es n/\adc es:=by
 refine ya (afi.mp u) λenv B f=>?_;refine zy (x env B) λk L o es n C bb g d=>?_;rw[C] at f;cases f;exact⟨bb,o,es,n,g,d⟩
noncomputable def kW(o:Obj):Prop:=o.cls = .type "range" \/ o.cls = .type "list_iterator" \/ o.cls = .type "code" \/ o.cls = .none
noncomputable def n8(h:aat)(b:aai):Prop:= ∃o vs,h.get? b=aac o/\o.data = .fields vs/\¬kW o
structure cL(K:aW)(F:bd)(X:List aai)(h h':aat):Prop where
 own:∀b∈X,K.base.get? b=aam/\b∉F.mine/\(h.get? b=aam\/n8 h b)
 keep:∀b o,b∉X->h.get? b=aac o->∃o',h'.get? b=aac o'/\eC o o'/\(K.base.get? b≠aam->o'=o)
 live:∀b∈X,∃o,h'.get? b=aac o
theorem cL.apart{X:List aai}{h h':aat}(x:cL K F X h h'){b:aai}{o:Obj}(g:h.get? b=aac o)(hd:(∀vs,o.data≠.fields vs)\/kW o):b∉X:=λu=>by
 rcases(x.own b u).2.2 with q | ⟨o',vs,q,d,c⟩
 ·rw[g] at q;(injection q)
 ·rw[g] at q;(injection q with B;subst B)
  rcases hd with hd | hd
  ·exact hd vs d
  ·exact c hd
theorem cL.same{X:List aai}{h h':aat}(x:cL K F X h h'){b:aai}{o:Obj}(g:h.get? b=aac o)(hd:(∀vs,o.data≠.fields vs)\/kW o)(u:∀es n,o.data = .dict es n->¬adc es):h'.get? b=aac o:=by
 refine xd (x.keep b o (x.apart g hd) g) λo' B l C=>?_
 (refine aab B ?_;exact aab (l.same u) rfl)
theorem cL.bu{X:List aai}{h h':aat}(x:cL K F X h h')(b:aai)(o:Obj)(g:h.get? b=aac o)(f:bQ o):h'.get? b=aac o:=by
 rcases f with⟨_,xs,n,d⟩ | ⟨c,vs,d⟩ | ⟨c,es,n,d,k⟩
 ·exact x.same g (.inl λvs q=>by rw[d] at q;(injection q)) λes n q=>by rw[d] at q;(injection q)
 ·exact x.same g (.inr (c.elim .inl λc=>.inr (.inr (.inl c)))) λes n q=>by rw[d] at q;(injection q)
 ·exact x.same g (.inl λvs q=>by rw[d] at q;(injection q)) λes n q=>by rw[d] at q;(injection q with u B;subst u B);exact k
theorem cL.cell{X:List aai}{h h':aat}(x:cL K F X h h'){c:aai}{v:Option aaf}(n:h.IsCell c v):h'.IsCell c v:=by
 refine ya n λo g d=>?_
 try clear n
 exact(ja o (x.same g (.inl λvs q=>by rw[d] at q;(injection q)) (λes n q=>by rw[d] at q;(injection q))) d)
theorem cL.base{X:List aai}{h h':aat}(x:cL K F X h h'){b:aai}{o:Obj}(u:K.base.get? b=aac o)(g:h.get? b=aac o):h'.get? b=aac o:=by
 have B:b∉X:=λq=>by have:=(x.own b q).1;rw[u] at this;(injection this)
 refine xd (x.keep b o B g) λo' C D q=>?_
 rw[C,q (by rw[u];exact λq=>by(injection q))]
theorem GRel.du{st:jb}{ρ:List aai}{s s':aah}{X:List aai}(rel:GRel K st ρ s)(x:cL K F X s.heap s'.heap)(hg:s'.gens=s.gens)(ho:s'.os=s.os):GRel K st ρ s' where
 gens:=hg.trans rel.gens
 os:=ho.trans rel.os
 base:=λb o e=>x.base e (rel.base b o e)
 len:=rel.len
 cell:=λl b c h1 h2=>by
  refine(rel.cell l b c h1 h2).mono (aax _) x.bu (λo y hc=>x.same y ?_ λes n q=>(hc.dict q).elim) λzZ zZ n=>x.cell n
  rcases hc with⟨_,_,_,d⟩ | ⟨_,_,_,_,d⟩ | ⟨c | c,_⟩ | ⟨_,_,d⟩ | ⟨_,d⟩
  ·exact .inl λvs q=>by rw[d] at q;(injection q)
  ·exact .inl λvs q=>by rw[d] at q;(injection q)
  ·exact .inr (.inr (.inl c))
  ·exact .inr (.inr (.inr (.inr c)))
  ·exact .inl λvs q=>by rw[d] at q;(injection q)
  ·exact .inl λvs q=>by rw[d] at q;(injection q)
 nodup:=rel.nodup
 above:=rel.above
 own:=λa ha=>let⟨o,e,r⟩:=rel.own a ha;⟨o,x.bu a o e (.inl r),r⟩
theorem Ext.du{ρ au X:List aai}{h h₀ h':aat}(y:Ext F.mine au ρ h₀ h)(x:cL K F X h h')(hf:∀b∈X,h₀.get? b=aam):Ext F.mine au ρ h₀ h' where
 pre:=y.pre
 alive:=λb o e=>by
  refine xc (y.alive b o e) λo' e'=>?_
  refine ya (x.keep b o' (λq=>by rw[hf b q] at e;(injection e)) e') λo2 e2 zZ=>?_
  exact⟨o2,e2⟩
 new:=y.new
 keep:=λb o e n1 n2=>by
  refine ya (y.keep b o e n1 n2) λo' e' l=>?_
  refine xd (x.keep b o' (λq=>by rw[hf b q] at e;(injection e)) e') λo2 e2 l2 zZ=>?_
  exact(ja o2 e2 (l.trans l2))
 bu:=λb o e f=>x.bu b o (y.bu b o e f) f
theorem Rel.du{σ:S}{ρ:List aai}{s s':aah}{X:List aai}(rel:Rel K F σ ρ s)(x:cL K F X s.heap s'.heap)(O:s'.gens=s.gens)(U:s'.os=s.os):Rel K F σ ρ s':=by
 have D:∀{a:aai} {m:Str->Option aaf},s.heap.Ns a m->s'.heap.Ns a m:=by
  intro a m n;refine gd n λo es W g d k f=>?_
  try clear n
  refine xd (x.keep a o (x.apart g (.inl λvs q=>by rw[d] at q;(injection q))) g) λo' B l C=>?_
  exact(ze o' es W B (l.data.1.trans d) k f)
 have G:∀{c:aai} {v:Option aaf},s.heap.IsCell c v->s'.heap.IsCell c v:=x.cell;refine {toGRel:=rel.toGRel.du x O U,vars:=?_,loc:=?_,bE:=?_,ao:=?_,aE:=rel.aE,aJ:=rel.aJ,di:=?_}
 ·intro y u e;refine ya (rel.vars y u e) λw h1 h2=>?_;exact(ja w (h1.mono (λm n=>D n) (λc u C n=>G n)) (Rep.br (aax _) x.bu h2))
 ·refine xc rel.loc λm n=>?_;exact⟨m,D n⟩
 ·intro y c e;refine xc (rel.bE y c e) λv n=>?_;exact⟨v,G n⟩
 ·intro b J;refine qn (rel.ao b J) λh1 o h2=>?_;refine ya (x.keep b o (λq=>(x.own b q).2.1 J) h2) λo' B C=>?_;exact(zi h1 o' B)
 ·refine rel.di.next λb o es n g d=>?_
  refine xd (x.keep b o (x.apart g (.inl λvs q=>by rw[d.1] at q;(injection q))) g) λo' B l C=>?_
  exact(jv o' es n B (l.data.1.trans d.1) d.2)
theorem V4{A:aaE}{s:aah}{D:Env}{u:List Env}{L a:aai}{U:Obj}{vs:Array aaf}{B:aaf}{fG:Bool}{Q:Unit->aah->Prop}{E:aaf->aah->Prop}
  (ly:A.frames=aac (D::u)) (W:yu K s.heap (D::u)) (hf:D.frame=aac L) (he:s.heap.get? a=aac U) (hd:U.data = .fields vs) (dW:1<vs.size)
  (h:∀h' T Z ts,s.heap.get? T=aam->h'.get? T=aac Z->Z.data = .fields ts->Z.cls = .type "traceback" -> ts[3]?=aac (aaV L)->T≠a->h'.get? a=aac (U.mapFields (·.setIfInBounds 1 (.ref T)))->
   (∀b o,b≠a->s.heap.get? b=aac o->∃o',h'.get? b=aac o'/\eC o o'/\(K.base.get? b≠aam->o'=o))->Q () {s with heap:=h'}) :
  aao (aar K.prog K.w) A (do let f <- ag3 D;let pl <- entryPlaceOf L fG;let b <- EntryCells.newEntry B f .none (aaV L) .none pl;aiY (.ref a) 1 b) Q E s:=by
 have Gg:a∉(D::u).filterMap (·.frame):=λC=>by
  refine wrap λG_ G=>?_;obtain⟨_,o,es,n,J,Y⟩:=W.eY C;refine G ?_;clear G G_
  rw[he] at J;(injection J with aK;subst aK);rw[hd] at Y;cases Y.1
 refine aad (wpAny_frameOf_fun ly W.Gf hf λaZ O=>?_);refine aad (wpAny_entryPlaceOf λpl dB=>?_);unfold EntryCells.newEntry newFields;refine aad (ab0 ?_ (dB.sizeOk5 _ _ _ _ _));have pe:aZ.get? a=aac U:=(O.2.1 a Gg).trans he
 have pf:=aaj (h:=aZ) {cls:= .type "traceback",dict:=aam,data:= .fields ([B,.ref L,.none,aaV L,.none]++(if pl.isEmpty then ae7 6 aaI else pl)).toArray} pe
 refine aei pf hd dW ?_;have jF:aZ.objs.size≠a:=ahf (abG pe);have ut:=abS hd (·.setIfInBounds 1 (ada aZ.objs.size))
 refine h _ aZ.objs.size _ _ (aaQ (by refine aab O.1 ?_;exact aaw _)) ((aa3 _ _ (aaR jF)).trans (aaA aZ rfl)) rfl rfl ?_ jF (aa4 _ pf (acY ut)) ?_
 ·first | (simp;done) | (rcases dB with rfl | ⟨_,_,_,_,_,_,_,rfl⟩<;>simp)
 ·intro b o nC g;refine xc (O.2.2 b o g) λsl g1=>?_
  refine(je ({o with slots:=sl}) ?_ ?_ ?_)
  ·refine aab (aa3 _ _ (aaR nC)) ?_;exact aaj _ g1
  ·by_cases C:b∈(D::u).filterMap (·.frame)
   ·refine wrap λG_ G=>?_;obtain⟨_,o',es,n,J,Y⟩:=W.eY C;refine G ?_;clear G G_
    rw[g] at J;(injection J with aK;subst aK)
    exact .inr (zi ⟨es,n,Y⟩ sl rfl)
   ·have:=O.2.1 b C;rw[g1,g] at this;exact .inl (abH this)
  ·intro hb;have C:b∉(D::u).filterMap (·.frame):=λC=>hb (W.eY C).1;have:=O.2.1 b C;rw[g1,g] at this;exact abH this
theorem yo.du{n:Bool}{e:Exc}{ρ au:List aai}{h₀:aat}{v:aaf}{s:aah}{σ:S}{Q:Unit->aah->Prop}{E:aaf->aah->Prop}(x:yo n K F e h₀ v s)(rel:Rel K F σ ρ s)(ext:Ext F.mine au ρ h₀ s.heap)
  (h:∀s',Rel K F σ ρ s'->Ext F.mine au ρ h₀ s'.heap->CJ K F e h₀ v s'->Q () s'):aao (aar K.prog K.w) F.A (aeb v F.env) Q E s:=by
 refine we x λX dm hX Y a t tok oe vs Gh lV ht C hc hd h0 cS=>?_
 try clear x
 obtain rfl:=Gh;refine gc rel.di λbN J ly MB qS=>?_;refine zy (qS bN aaS) λsU L oL hD nL hL MC kV mz=>?_
 have KS:F.env.frame=aac L:=by rw[<- MB];exact hL
 have uu:n8 s.heap a:=⟨oe,vs,C,hd,by unfold kW;refine aab hc ?_;exact λq=>q.elim (λq=>Y.1 (Value.type.inj q)) λq=>q.elim (λq=>Y.2.1 (Value.type.inj q)) λq=>q.elim (λq=>Y.2.2 (Value.type.inj q)) λq=>nomatch q⟩
 have dW:0<vs.size:=(acp.mp h0).1
 have qT:∀b,s.heap.get? b=aam->h₀.get? b=aam/\K.base.get? b=aam/\b∉F.mine:=by
  intro b hb;refine⟨?_,?_,?_⟩
  ·cases q:h₀.get? b with
   | none=>rfl
   | some o=>obtain⟨o',q'⟩:=ext.alive b o q;rw[hb] at q';(injection q')
  ·cases q:K.base.get? b with
   | none=>rfl
   | some o=>have:=rel.base b o q;rw[hb] at this;(injection this)
  ·intro q;refine qn (rel.ao b q) λO o g=>?_;rw[hb] at g;(injection g)
 have Gi:∀{h':aat},(∀o,bQ o->s.heap.get? t=aac o->h'.get? t=aac o)->agF h' t #[.str e.msg tok]:=by
  intro h' hh;refine yj ht λo g c n d=>?_
  try clear ht
  exact(CD o (hh o (.inl (pb c _ n d)) g) c n d)
 refine aab (V3 (env':=bN) MB.symm) ?_
 have Z:∀(af:aah) (B:List aai) (KU:vs.size>1),af.gens=s.gens->af.os=s.os->(∀b∈B,b∈X/\n8 s.heap b)->a∈B->af.heap.get? a=aac oe->(∀b∈B,∃o,af.heap.get? b=aac o)->(∀b o,b∉B->s.heap.get? b=aac o->af.heap.get? b=aac o)->
   (∀b,s.heap.get? b=aam->af.heap.get? b=aam)->(∀b,af.heap.get? b=aam->s.heap.get? b=aam)->yu K af.heap (bN::J)->∀(D:aaf) (fG:Bool),
   aao (aar K.prog K.w) F.A (do let f <- ag3 bN;let pl <- entryPlaceOf L fG;let b <- EntryCells.newEntry D f .none (aaV L) .none pl;aiY (.ref a) 1 b) Q E af:=by
  intro af B W Gj lW CP uv uw qU qV Gk lX Gl D fG;refine V4 ly Gl hL uw hd W λh' T oT ts hT CQ G pg ph jF sV lY=>?_;refine y5 (qT T (lX T hT)) λf1 f2 f3=>?_
  have dp:cL K F (T::B) s.heap h':=by
   refine⟨λb hb=>?_,λb o hb g=>?_,λb hb=>?_⟩
   ·rcases aay.mp hb with rfl | hb
    ·exact⟨f2,f3,.inl (lX _ hT)⟩
    ·exact⟨(hX b (CP b hb).1).1,(hX b (CP b hb).1).2,.inr (CP b hb).2⟩
   ·have lB:b∉B:=λq=>hb (aaU _ q);have nC:b≠a:=λq=>lB (q▸uv);exact lY b o nC (qV b o lB g)
   ·rcases aay.mp hb with rfl | hb
    ·exact⟨_,CQ⟩
    ·by_cases nC:b=a
     ·subst nC;exact⟨_,sV⟩
     ·refine xc (qU b hb) λo g=>?_;refine ya (lY b o nC g) λo' g' O=>?_;exact⟨o',g'⟩
  have ux:∀b∈T::B,h₀.get? b=aam:=by
   intro b hb
   rcases aay.mp hb with rfl | hb
   ·exact f1
   ·exact dm b (CP b hb).1
  refine h {af with heap:=h'} (rel.du dp Gj lW) (ext.du dp ux) ⟨T::B,ux,λb hb=>⟨(dp.own b hb).1,(dp.own b hb).2.1⟩,Y,a,t,tok,_,_,rfl,aaU _ uv,Gi λo f g=>dp.bu t o g f,sV,(aem ..).trans hc,abS hd _,?_,.inr (ym T oT ts (aaV L) aaS jF ?_ CQ G pg ph trivial)⟩
  ·rw[Array.getElem?_setIfInBounds_ne (by decide)];exact h0
  ·simp[W]
 unfold aeb;simp only[hL]
 rcases cS with⟨_,h1⟩ | ⟨T,oT,ts,fl,lZ,jF,h1,U,G,pg,ph,TE⟩
 ·have W:1<vs.size:=(acp.mp h1).1;refine aad (abj C hd h1 ?_)
  rw[if_neg (by decide)]
  exact Z s [a] W rfl rfl (λb hb=>by refine aab (aan.mp hb) ?_;exact⟨lV,uu⟩) (by simp) C (λb hb=>by refine aab (aan.mp hb) ?_;exact⟨_,C⟩) (λO O O g=>g) (λO g=>g) (λO g=>g) qS _ _
 ·have W:1<vs.size:=(acp.mp h1).1;have n9:3<ts.size:=(acp.mp ph).1;refine aad (abj C hd h1 ?_)
  refine aab (if_pos (show(ada T != aaI)=true from by simp)) ?_
  refine aad (abj U G ph ?_)
  by_cases hq:¬((fl==aaV L)=true)
  ·refine aab (if_neg hq) ?_;refine aad (aei U G n9 ?_);have u:∀b,b≠T->(s.heap.update T (abr (·.setIfInBounds 3 aaI))).get? b=s.heap.get? b:=λb hb=>aa3 _ _ (aaR hb);have fR:(s.heap.update T (abr (·.setIfInBounds 3 aaI))).get? T=aac (abr (·.setIfInBounds 3 aaI) oT):=aa4 _ U (acY (abS G _))
   have Gm:n8 s.heap T:=⟨oT,ts,U,G,by unfold kW;refine aab pg ?_;decide⟩
   refine Z {s with heap:=s.heap.update T (abr (·.setIfInBounds 3 aaI))} [a,T] W rfl rfl ?_ (by simp) ((u a (aaR jF)).trans C) ?_ ?_ ?_ ?_ ?_ _ _
   ·intro b hb;simp only[aay,aaJ,or_false] at hb
    rcases hb with rfl | rfl
    ·exact⟨lV,uu⟩
    ·exact⟨lZ,Gm⟩
   ·intro b hb;simp only[aay,aaJ,or_false] at hb
    rcases hb with rfl | rfl
    ·exact⟨_,(u _ (aaR jF)).trans C⟩
    ·exact⟨_,fR⟩
   ·intro b o hb g;simp only[aay,aaJ,or_false,not_or] at hb;exact(u b hb.2).trans g
   ·intro b hb
    have:b≠T:=λq=>by rw[q,U] at hb;(injection hb)
    exact(u b this).trans hb
   ·intro b hb
    have:b≠T:=λq=>by rw[q,fR] at hb;(injection hb)
    exact(u b this).symm.trans hb
   ·refine qS.next λb o es n O g d=>(w7 o es n ((u b λq=>?_).trans g) d)
    rw[q,U] at g;(injection g with aK;subst aK);rw[G] at d;cases d.1
  ·refine aab (if_pos (Decidable.not_not.mp hq)) ?_;exact aak (h s rel ext ⟨X,dm,hX,Y,a,t,tok,oe,vs,rfl,lV,ht,C,hc,hd,h0,.inr (ym T oT ts fl lZ jF h1 U G pg ph trivial)⟩)
theorem yo.d4{e:Exc}{ρ au:List aai}{h₀:aat}{v:aaf}{s:aah}{σ:S}{C:Option aai}{Q:Unit->aah->Prop}{E:aaf->aah->Prop}(x:CJ K F e h₀ v s)(rel:Rel K F σ ρ s)(ext:Ext F.mine au ρ h₀ s.heap)
  (h:∀s',Rel K F σ ρ s'->Ext F.mine au ρ h₀ s'.heap->(∃X,(∀b∈X,h₀.get? b=aam)/\(∀b∈X,K.base.get? b=aam/\b∉F.mine)/\qK true (λJ=>Ms F J/\(C=aam->J = .none)) e X v s'.heap)->Q () s'):aao (aar K.prog K.w) F.A (setFlight v C) Q E s:=by
 refine we x λX Y O d0 a t tok oe vs Gn lV Z ha hc hd h0 cS=>?_
 try clear x
 obtain rfl:=Gn
 rcases cS with⟨q,_⟩ | ⟨T,oT,ts,J,D,jF,h1,U,G,pg,ph,_⟩
 ·(injection q)
 have n9:3<ts.size:=(acp.mp ph).1;unfold setFlight;refine aad (abj ha hd h1 ?_)
 refine aab (if_pos (show(ada T != aaI)=true from by simp)) ?_
 refine aei U G n9 ?_;have u:∀b,b≠T->(s.heap.update T (abr (·.setIfInBounds 3 (C.elim .none λf=>aaV f)))).get? b=s.heap.get? b:=λb B=>aa3 _ _ (aaR B);have fR:(s.heap.update T (abr (·.setIfInBounds 3 (C.elim .none λf=>aaV f)))).get? T=aac (abr (·.setIfInBounds 3 (C.elim .none λf=>aaV f)) oT):=aa4 _ U (acY (abS G _))
 have W:cL K F [T] s.heap (s.heap.update T (abr (·.setIfInBounds 3 (C.elim .none λf=>aaV f)))):=by
  refine⟨λb B=>?_,λb o B g=>(je o ((u b (by simpa using B)).trans g) (.refl _) (λzZ=>rfl)),λb B=>?_⟩
  ·refine aab (aan.mp B) ?_
   exact⟨(O T D).1,(O T D).2,.inr (ke oT ts U G (by unfold kW;refine aab pg ?_;decide))⟩
  ·refine aab (aan.mp B) ?_;exact⟨_,fR⟩
 have V5:agF (s.heap.update T (abr (·.setIfInBounds 3 (C.elim .none λf=>aaV f)))) t #[.str e.msg tok]:=by
  refine yj Z λo g c n d=>?_
  try clear Z
  exact(CD o (W.bu t o g (.inl (pb c _ n d))) c n d)
 refine h {s with heap:=_} (rel.du W rfl rfl) (ext.du W λb B=>by refine aab (aan.mp B) ?_;exact Y T D)
  ⟨X,Y,O,d0,a,t,tok,oe,vs,rfl,lV,V5,(u a (aaR jF)).trans ha,hc,hd,h0,.inr ⟨T,_,_,C.elim .none (λf=>aaV f),D,jF,h1,fR,abS G _,(aem ..).trans pg,by simp[n9],trivial,?_⟩⟩
 rintro rfl;rfl
noncomputable def nD{β:Type}(K:aW)(F:bd)(out:Res S β)(ρ:List aai)(h:aat):aaf->aah->Prop :=
 λv s' => ∃e aa av,out = .exc e aa/\Rel K F aa av s'/\Ext F.mine ρ av h s'.heap/\CJ K F e h v s'
theorem nD.eo{β:Type}{out:Res S β}{ρ:List aai}{h:aat}{v:aaf}{s':aah}(x:nD K F out ρ h v s'):EO K F out ρ h v s':=by
 refine gd x ?_
 try clear x
 intro e aa av u rel ext x;exact(ze e aa av u rel ext x.x)
theorem EO.jG{β:Type}{out:Res S β}{ρ:List aai}{h:aat}{v:aaf}{s':aah}{E:aaf->aah->Prop}(x:EO K F out ρ h v s')(B:∀v dF,nD K F out ρ h v dF->E v dF):
  aip (aar K.prog K.w) F.A F.env E v s':=by
 refine gd x ?_
 try clear x
 intro e aa av C rel ext x;exact x.du rel ext λdF D u G=>B _ _ ⟨e,aa,av,C,D,u,G⟩
theorem nD.back{β:Type}{out:Res S β}{ρ:List aai}{h:aat}{v:aaf}{s':aah}(x:nD K F out ρ h v s'):
  agO (aar K.prog K.w) F.A F.env (EO K F out ρ h) v s':=by
 refine gd x ?_
 try clear x
 intro e aa av D rel ext x;have B:=x;refine we B λX dm hX d0 a t tok oe vs G lV ht J hc hd h0 O=>?_
 try clear B
 obtain rfl:=G
 rcases O with⟨q,_⟩ | ⟨T,oT,ts,fl,lZ,jF,h1,kE,iH,pg,ph,_⟩
 ·(injection q)
 refine aad (abj J hd h1 ?_)
 refine aab (if_neg (show ¬((ada T==aaI)=true) from by simp)) ?_
 refine(x.d4 rel ext λdF U u C=>?_);refine we C λW Y Z fH a' t' fS l7 lC q1 q2 q3 q4 q5 q6 q7 q8=>?_
 try clear C
 refine(gq e aa av D U u W Y Z fH a' t' fS l7 lC q1 q2 q3 q4 q5 q6 q7 ?_)
 rcases q8 with⟨q,_⟩ | ⟨T',l8,l9,mf,r1,r2,r3,r4,r5,r6,r7,r8⟩
 ·(injection q)
 ·exact .inr (ym T' l8 l9 mf r1 r2 r3 r4 r5 r6 r7 trivial)
noncomputable def g8(c:M Bool)(b:M Fl):Nat->M Fl
 | 0=>stuck
 | n+1=>do
  if(<- c)=true then
   match <- b with
   | .next=>g8 c b n
   | .cont=>g8 c b n
   | .brk=>pure .next
   | .ret v=>pure (.ret v)
  else pure .next
theorem MD{test:Expr}{body:List acE}{mt:M Bool}{mb:M Fl}(pos:Pos)(n:Nat)(ht:fB K F test mt)(hb:jj K F body mb):dk K F (.While test body [] pos) (g8 mt mb n):=by
 intro σ ρ s rel;refine Run.of_wp λB=>?_;refine wpAny_While ?_
 refine codeAny_whileLoop (R:=λr s'=>match r with | .ok f=>QO K F (q0 K) (g8 mt mb n σ) ρ s.heap f s' | .error e=>agO (aar K.prog K.w) F.A F.env (EO K F (g8 mt mb n σ) ρ s.heap) e s')
  (λk s' => ∃C ai,Rel K F C ai s'/\g8 mt mb k C=g8 mt mb n σ/\Ext F.mine ρ ai s.heap s'.heap) ?_ n ⟨σ,ρ,rel,rfl,Ext.refl ..⟩
 generalize g8 mt mb n σ=out at B ⊢
 rintro k af ⟨C,ai,ae,Z,aL⟩
 have u:∀{v:aaf} {s':aah},EO K F out ρ s.heap v s'->aip (aar K.prog K.w) F.A F.env (λe s'=>agO (aar K.prog K.w) F.A F.env (EO K F out ρ s.heap) e s') v s':=by
  intro v s' hx;exact hx.jG λY Y q=>q.back
 cases k with
 | zero=>exact absurd Z.symm B
 | succ k=>
  refine(ht C ai af ae).fQ aL B Z u λb ar aC a ay uy aB Y aX rb=>?_;have:a=b:=rb;subst this
  cases a with
  | false=>exact aga ⟨.next,ar,aC,uy.symm,aB,aX,rfl⟩
  | true=>
   refine(hb ar aC ay aB).fQ aX B uy u λf D G wf bg J O Y U W=>?_
   cases f with
   | next=>have:wf = .next:=W;subst this;exact(F1 k (ab4 _) D G O J U)
   | cont=>have:wf = .cont:=W;subst this;exact(F1 k (ab4 _) D G O J U)
   | brk=>have:wf = .brk:=W;subst this;exact(ze .next D G J.symm O U rfl)
   | ret v=>obtain⟨w,e,r⟩:=W;subst e;exact⟨.ret v,D,G,J.symm,O,U,w,rfl,r⟩
theorem MF{h h':aat}(x:ach h.objs.size h h'):∀b o,h.get? b=aac o->h'.get? b=aac o :=
 λb o e=>x b o (abp (abG e)) e
noncomputable def CR(K:aW)(F:bd)(es:List Expr)(m:List V->M Unit):Prop :=
 (∃n,(adr es F.env).length=n/\n=es.length/\(adr es F.env).findIdx? (·.1)=aam)/\
 ∀σ ρ s vs ws,Rel K F σ ρ s->aj K s.heap ρ vs ws->vs.length=es.length->Run K F (aev ((adr es F.env).map (·.2)) ws) hV (m vs σ) ρ s
theorem z9:CR K F [] (λu=>pure ()):=⟨⟨0,rfl,rfl,rfl⟩,λu u u u u rel u u=>Run.pure rel trivial⟩
noncomputable def gu(m:V->M Unit)(u:List V->M Unit):List V->M Unit
 | v::vs=>do m v;u vs
 | []=>stuck
theorem gh{e:Expr}{es:List Expr}{m:V->M Unit}{u:List V->M Unit}(h:dz K F e m)(G:CR K F es u)
  (B:adr (e::es) F.env=(false,adJ e F.env)::adr es F.env:=by rfl):CR K F (e::es) (gu m u):=by
 refine ye G λJ h4=>?_
 try clear G
 refine xd J λn h1 h2 h3=>?_
 try clear J
 refine⟨⟨n+1,by refine aab B ?_;simp[h1],by simp[h2],by(refine aab B ?_;refine aab (List.findIdx?_cons) ?_);simp[h3]⟩,?_⟩
 intro σ ρ s vs ws rel r O;refine aab B ?_
 cases vs with
 | nil=>exact Run.stuck
 | cons v vs=>
  refine gc (aj.aG.mp r) λx C U W Y=>?_;clear r;obtain rfl:=U
  show Run K F (do holding C (adJ e F.env x);aev ((adr es F.env).map (·.2)) C) hV ((do m v;u vs) σ) ρ s
  refine Run.bind (Run.holding (h σ ρ s v x rel W)) λD Z ai af D D ae aL D=>?_
  exact h4 Z ai af vs C ae (Y.mono aL) (by simpa using O)
noncomputable def qk(n:Nat)(m:List V->M Unit):V->M Unit
 | .tup vs=>if vs.length=n then m vs else stuck
 | _=>stuck
theorem w3(Y:aV F){es:List Expr}{m:List V->M Unit}(k:Nat)(pos:Pos)(U:CR K F es m)(Z:F.nh=true:=by rfl):dz K F (.Tuple es k pos) (qk es.length m):=by
 refine ye U λW h4=>?_
 try clear U
 refine xd W λn h1 h2 h3=>?_
 try clear W
 intro σ ρ s v w rel r
 cases v with
 | tup vs=>
  unfold qk;dsimp only
  by_cases u:vs.length=es.length
  ·refine aab (if_pos u) ?_;refine qz r.fq λzZ a ws Gq ht rl=>?_;clear r;obtain rfl:=Gq;refine Run.of_wp λaA=>?_
   refine wpAny_assign_Tuple (Y.hd Z) (items:=ws.toArray) ht (by simp only[h1,h2,aaH,rl.length,u]) h3 λh' hx=>?_
   have hk:=MF hx
   have bh:Rel K F σ ρ {s with heap:=h'}:=rel.kept hk rfl rfl
   have B:Ext F.mine ρ ρ s.heap h':=Ext.kept hk
   refine aap ((h4 σ ρ {s with heap:=h'} vs ws bh (rl.mono B) u).wp aA) ?_ ?_
   ·rintro b dF ⟨C,D,av,e,G,J,O⟩;exact(ze C D av e G (B.trans J) O)
   ·rintro b dF ⟨C,D,av,e,G,J,O⟩;exact(ze C D av e G (B.trans J) (O.up B))
  ·refine aab (if_neg u) ?_;exact Run.stuck
 | _=>exact Run.stuck
end
section
variable{K:aW}{F:bd}
section
variable{σ:S}{ρ au:List aai}{s s':aah}{mine:List aai}{h h₀ h':aat}{a:aai}{o:Obj}
noncomputable abbrev NF(c:aaf):Prop:=c≠.type "range" /\ c≠.type "code"
theorem zq{vs:Array aaf}{b:aai}{o':Obj}(B:h.get? a=aac o)(hd:o.data = .fields vs)(u:NF o.cls)(e:h.get? b=aac o')(f:bQ o'):b≠a:=by
 rintro rfl
 rw[B] at e;(injection e with C;subst C)
 rcases f with⟨_,_,_,f⟩ | ⟨f | f,_⟩ | ⟨_,_,_,f,_⟩
 ·rw[hd] at f;(injection f)
 ·exact u.1 f
 ·exact u.2 f
 ·rw[hd] at f;(injection f)
theorem MG{vs:Array aaf}{b:aai}{m:Str->Option aaf}(B:h.get? a=aac o)(hd:o.data = .fields vs)(e:h.Ns b m):b≠a:=by
 rintro rfl
 refine yt e λo' es D u d G=>?_
 try clear e
 rw[B] at u;(injection u with C;subst C);rw[hd] at d;(injection d)
theorem Gr{vs:Array aaf}{b:aai}{v:Option aaf}(B:h.get? a=aac o)(hd:o.data = .fields vs)(e:h.IsCell b v):b≠a:=by
 rintro rfl
 refine ya e λo' u d=>?_
 try clear e
 rw[B] at u;(injection u with C;subst C);rw[hd] at d;(injection d)
end
noncomputable def CS:List String:=["enumerate", "zip", "dict_itemiterator", "dict_reverseitemiterator", "odict_iterator", "itertools.zip_longest", "itertools.pairwise"]
theorem MH{target:Expr}{I:aai}{v:aaf}{s:aah}{o:Obj}{T:String}{Q:Unit->aah->Prop}{E:aaf->aah->Prop}(C:s.heap.get? I=aac o)(D:o.cls = .type T)
  (B:CS.contains T=false) (h:Q () s):aao (aar K.prog K.w) F.A (aeQ target (.ref I) v) Q E s:=by
 have key:∀{vs:Array aaf} {a:aai},o.data = .fields vs->(CS.contains T&&vs[0]? == aac (aaV a))=false:=by
  intro vs a _;refine aab B ?_;rfl
 have u:aao (aar K.prog K.w) F.A (do
  let(.ref r,.ref a):=(ada I,v) | return
  let o <- load r
  match o.cls,o.data with
  | .type n,.fields vs=>
   if CS.contains n&&vs[0]? == aac (aaV a) then
    rule "for.unpacks-the-owned-tuple"
    updateField r 0 .none
  | _,_=>pure ()) Q E s:=by
  cases v with
  | ref b=>
   refine aad (ads C ?_);refine aab D ?_
   cases hd:o.data<;>first | exact aak h | skip
   rename_i vs;dsimp only;refine aab B ?_;exact aak h
  | _=>exact aak h
 cases target<;>first | exact u | exact aak h
noncomputable def bO(u:S->Nat->Option (Option V))(t:V->M Unit)(b:M Fl):Nat->Nat->M Fl
 | 0,_=>stuck
 | n+1,i=>λσ=>match u σ i with
  | none=>.stuck
  | some aam=>.ok .next σ
  | some (aac v)=>(do
   t v
   match <- b with
   | .next=>bO u t b n (i+1)
   | .cont=>bO u t b n (i+1)
   | .brk=>pure .next
   | .ret v=>pure (.ret v)) σ
noncomputable def Iter(K:aW)(F:bd)(I:aai)(u:Nat->Obj->Prop)(B:S->Nat->Option (Option V))(ai:List aai)(aZ:aat):Prop :=
 (∀i o,u i o->∃vs T,o.data = .fields vs/\o.cls = .type T/\CS.contains T=false/\T ≠ "range" /\ T ≠ "code")/\
 (∀i o (s:aah) (A:aaE) (Q:aaf->aah->Prop) (E:aaf->aah->Prop),s.heap.get? I=aac o->u i o->Q (.ref I) s->aao (aar K.prog K.w) A (aer (.ref I)) Q E s)/\
 ∀σ ρ s i o,Rel K F σ ρ s->Ext F.mine ai ρ aZ s.heap->s.heap.get? I=aac o->u i o->
  match B σ i with
  | none=>True
  | some aam=>aao (aar K.prog K.w) F.A (ac4 (.ref I)) (λr s'=>r=aam/\ach I s.heap s'.heap/\s'.gens=s.gens/\s'.os=s.os) (λ_ _=>False) s
  | some (aac v)=>aao (aar K.prog K.w) F.A (ac4 (.ref I)) (λr s' => ∃w,r=aac w/\ach I s.heap s'.heap/\s'.gens=s.gens/\s'.os=s.os/\(∃o',s'.heap.get? I=aac o'/\u (i+1) o')/\Rep K s'.heap ρ v w) (λ_ _=>False) s
theorem V6{prog:aa0}{w:abC}{A:aaE}{s:aah}{R:aeI->aah->Prop}{target:Expr}{it:aaf}{body:List acE}{env:Env}(B:Flow->aah->Prop)(N:aaf->aah->Prop)(G:∀f s',B f s'->R (.ok f) s')
  (U:∀v s',N v s'->aip (aar prog w) A env (λe s'=>R (.error e) s') v s') (I:Nat->aah->Prop)
  (turn:∀n s,I n s->aao (aar prog w) A (ac4 it) (λr af=>match r with
   | none=>B .next af
   | some v=>aao (aar prog w) A (aeQ target it v) (λu J=>aao (aar prog w) A (adJ target env v) (λu O=>aao (aar prog w) A (execs body env) (λf C=>match f with
     | .next | .cont => ∃m,m<n/\I m C
     | .brk=>B .next C
     | .ret v=>B (.ret v) C) N O) N J) N af) N s)
  (n:Nat) (h:I n s):acC (aar prog w) A (.forLoop target it body [] env) R s:=by
 refine codeAny_loop' rfl I (λn s W=>?_) n h
 show aao _ _ ((forTurn target it body [] env).onRaise (λx=>do aeb x env;aif x)) _ _ s
 refine wpAny_noted (aap (E:=N) ?_ (λu u q=>q) U);unfold forTurn;refine aad (abP (aad (aew (aap (turn n s W) (λr af aZ=>?_) λu u h'=>abP h'))))
 cases r with
 | none=>exact aak (.inr ⟨rfl,codeAny_block (aga (G _ _ aZ))⟩)
 | some v=>
  refine aad (aap aZ (λu J Y=>?_) λu u h'=>h');refine aad (aap Y (λu O Z=>aad (aap Z (λf C D=>?_) λu u h'=>h')) λu u h'=>h')
  cases f with
  | next=>exact aak (.inl ⟨rfl,D⟩)
  | cont=>exact aak (.inl ⟨rfl,D⟩)
  | brk=>exact aak (G _ _ D)
  | ret v=>exact aak (G _ _ D)
theorem Gs(u:S->Nat->Option (Option V))(t:V->M Unit)(b:M Fl)(n i:Nat)(σ:S):bO u t b (n+1) i σ=(match u σ i with
  | none=>.stuck
  | some aam=>.ok .next σ
  | some (aac v)=>(do
   t v
   match <- b with
   | .next=>bO u t b n (i+1)
   | .cont=>bO u t b n (i+1)
   | .brk=>pure .next
   | .ret v=>pure (.ret v)) σ):=rfl
theorem V7(C:S->Nat->Option (Option V))(t:V->M Unit)(b:M Fl)(n i:Nat)(σ:S):bO C t b (n+1) i σ=(match C σ i with
  | none=>.stuck
  | some aam=>.ok .next σ
  | some (aac v)=>match t v σ with
   | .stuck=>.stuck
   | .exc e D=>.exc e D
   | .ok _ D=>match b D with
    | .ok .next B=>bO C t b n (i+1) B
    | .ok .cont B=>bO C t b n (i+1) B
    | .ok .brk B=>.ok .next B
    | .ok (.ret v) B=>.ok (.ret v) B
    | .exc e B=>.exc e B
    | .stuck=>.stuck):=by
 refine aab (Gs ..) ?_
 cases C σ i with
 | none=>rfl
 | some x=>
  cases x with
  | none=>rfl
  | some v=>
   dsimp only;refine aab (M.ap ..) ?_
   cases t v σ with
   | stuck=>rfl
   | exc e y=>rfl
   | ok u y=>
    dsimp only;refine aab (M.ap ..) ?_
    cases b y with
    | stuck=>rfl
    | exc e z=>rfl
    | ok f z=>cases f<;>rfl
noncomputable def og(g:M Fl):Fl->M Fl
 | .next=>g
 | .cont=>g
 | .brk=>pure .next
 | .ret v=>pure (.ret v)
end
section
variable{K:aW}{F:bd}
noncomputable def Hid(h:aat)(b:aai):Prop:= ∃o vs,h.get? b=aac o/\o.data = .fields vs/\NF o.cls
section
variable{σ:S}{ρ au av:List aai}{s s':aah}{mine fp:List aai}{h h₀ h':aat}
theorem GRel.jA{st:jb}(rel:GRel K st ρ s)(bk:∀a∈fp,a∉ρ)(hb:∀a∈fp,K.base.get? a=aam)(ho:∀a∈fp,Hid s.heap a)(hx:∀b o,b∉fp->s.heap.get? b=aac o->s'.heap.get? b=aac o)
  (hg:s'.gens=s.gens) (jI:s'.os=s.os):GRel K st ρ s' where
 gens:=hg.trans rel.gens
 os:=jI.trans rel.os
 base:=λb o' e=>hx b o' (λhm=>by rw[hb b hm] at e;(injection e)) (rel.base b o' e)
 len:=rel.len
 cell:=λl b c h1 h2=>by
  refine(rel.cell l b c h1 h2).mono (aax _) (λd o' e f=>hx d o' (λhm=>?_) e) (λo e zZ=>hx b o (λhm=>bk b hm (aaM h1)) e) λc v n=>?_
  ·refine gc (ho d hm) λo vs g d1 d2=>?_;exact zq g d1 d2 e f rfl
  ·have aA:c∉fp:=λq=>by refine gc (ho _ q) λo vs g d1 d2=>?_;exact Gr g d1 n rfl
   refine ya n λo' e' r=>?_
   try clear n
   exact(ja o' (hx _ _ aA e') r)
 nodup:=rel.nodup
 above:=rel.above
 own:=λb hb=>by
  refine ya (rel.own b hb) λo' e r=>?_;refine(ja o' (hx b o' (λq=>?_) e) r);refine gc (ho b q) λo vs g d1 d2=>?_;exact zq g d1 d2 e (.inl r) rfl
theorem Rel.jA(rel:Rel K F σ ρ s)(bk:∀a∈fp,a∉ρ)(hb:∀a∈fp,K.base.get? a=aam)(hm:∀a∈fp,a∉F.mine)(ho:∀a∈fp,Hid s.heap a)(hx:∀b o,b∉fp->s.heap.get? b=aac o->s'.heap.get? b=aac o)
  (hg:s'.gens=s.gens) (jI:s'.os=s.os):Rel K F σ ρ s' where
 toGRel:=rel.toGRel.jA bk hb ho hx hg jI
 vars:=λy u e=>by
  refine ya (rel.vars y u e) λw h1 h2=>?_;refine(ja w (h1.mono (λm n=>?_) (λc u zZ n=>?_)) (Rep.br (aax _) (λd o' e f=>hx d o' (λq=>?_) e) h2))
  ·have aA:F.env.locals∉fp:=λq=>by refine gc (ho _ q) λo vs g d1 d2=>?_;exact MG g d1 n rfl
   refine w0 n λo' es ep e' r=>?_
   try clear n
   exact(w7 o' es ep (hx _ _ aA e') r)
  ·have aA:c∉fp:=λq=>by refine gc (ho _ q) λo vs g d1 d2=>?_;exact Gr g d1 n rfl
   refine ya n λo' e' r=>?_
   try clear n
   exact(ja o' (hx _ _ aA e') r)
  ·refine gc (ho d q) λo vs g d1 d2=>?_;exact zq g d1 d2 e f rfl
 loc:=by
  refine xc rel.loc λm n=>?_
  have aA:F.env.locals∉fp:=λq=>by refine gc (ho _ q) λo vs g d1 d2=>?_;exact MG g d1 n rfl
  refine w0 n λo' es ep e' r=>?_
  try clear n
  exact(CE m o' es ep (hx _ _ aA e') r)
 bE:=λy c e=>by
  refine xc (rel.bE y c e) λv n=>?_
  have aA:c∉fp:=λq=>by refine gc (ho _ q) λo vs g d1 d2=>?_;exact Gr g d1 n rfl
  refine ya n λo' e' r=>?_
  try clear n
  exact(gf v o' (hx _ _ aA e') r)
 ao:=λb ft=>by
  refine qn (rel.ao b ft) λh1 o' h2=>?_;exact(zi h1 o' (hx b o' (λq=>hm b q ft) h2))
 aE:=rel.aE
 aJ:=rel.aJ
 di:=rel.di.next λb o es n g d=>⟨o,es,n,hx b o (λq=>by
  refine gc (ho b q) λo' vs g' d' zZ=>?_
  rw[g] at g';(injection g' with aK;subst aK);rw[d.1] at d';(injection d')) g,d⟩
theorem Ext.hidden(ho:∀a∈fp,Hid h a)(gG:∀a∈fp,∃o,h'.get? a=aac o)(hx:∀b o,b∉fp->h.get? b=aac o->h'.get? b=aac o):Ext (fp++mine) ρ ρ h h' where
 pre:=aax _
 alive:=λb o e=>by
  by_cases q:b∈fp
  ·exact gG b q
  ·exact⟨o,hx b o q e⟩
 new:=λzZ ha=>.inl ha
 keep:=λb o e zZ n2=>(ja o (hx b o (λq=>n2 (acz _ q)) e) (.refl _))
 bu:=λb o e f=>hx b o (λq=>by refine gc (ho b q) λo' vs g d1 d2=>?_;exact zq g d1 d2 e f rfl) e
structure bv(fp mine ρ av:List aai)(h h':aat):Prop where
 pre:ρ <+: av
 alive:∀b o,h.get? b=aac o->∃o',h'.get? b=aac o'
 new:∀a∈av,a∈ρ\/h.get? a=aam
 keep:∀b o,h.get? b=aac o->b∉ρ->b∉fp->b∉mine->∃o',h'.get? b=aac o'/\eC o o'
 bu:∀b o,h.get? b=aac o->bQ o->b∉fp->h'.get? b=aac o
theorem Ext.toF(x:Ext (fp++mine) ρ av h h'):bv fp mine ρ av h h' :=
 ⟨x.pre,x.alive,x.new,λb o e u B C=>x.keep b o e u λq=>(abd.mp q).elim B C,λb o e f D=>x.bu b o e f⟩
theorem Ext.hide(x:Ext mine au ρ h₀ h)(y:bv fp mine ρ av h h')(h0:∀a∈fp,h₀.get? a=aam):Ext mine au av h₀ h' where
 pre:=x.pre.trans y.pre
 alive:=λb o e=>by refine xc (x.alive b o e) λo1 e1=>?_;exact y.alive b o1 e1
 new:=λa ha=>by
  rcases y.new a ha with h1 | h1
  ·exact x.new a h1
  ·refine .inr ?_
   cases e:h₀.get? a with
   | none=>rfl
   | some o=>obtain⟨o1,e1⟩:=x.alive a o e;rw[h1] at e1;(injection e1)
 keep:=λb o e n1 n2=>by
  refine ya (x.keep b o e n1 n2) λo1 e1 l1=>?_
  have hn:b∉ρ:=λhb=>by
   rcases x.new b hb with h1 | h1
   ·exact n1 h1
   ·rw[e] at h1;(injection h1)
  refine ya (y.keep b _ e1 hn (λq=>by rw[h0 b q] at e;(injection e)) n2) λo2 e2 l2=>?_
  exact(ja o2 e2 (l1.trans l2))
 bu:=λb o e f=>y.bu b o (x.bu b o e f) f λq=>by rw[h0 b q] at e;(injection e)
end
theorem Ext.qW{ρ au mine fp:List aai}{h h₀ h':aat}(x:Ext mine au ρ h₀ h)(h0:∀a∈fp,h₀.get? a=aam)(hx:∀b o,b∉fp->h.get? b=aac o->h'.get? b=aac o):Ext mine au ρ h₀ h' where
 pre:=x.pre
 alive:=λb o' e=>by
  refine xc (x.alive b o' e) λo1 e1=>?_
  exact⟨o1,hx b o1 (λq=>by rw[h0 b q] at e;(injection e)) e1⟩
 new:=x.new
 keep:=λb o' e n1 n2=>by
  refine ya (x.keep b o' e n1 n2) λo1 e1 l1=>?_
  exact(ja o1 (hx b o1 (λq=>by rw[h0 b q] at e;(injection e)) e1) l1)
 bu:=λb o' e f=>hx b o' (λq=>by rw[h0 b q] at e;(injection e)) (x.bu b o' e f)
structure fT(K:aW)(F:bd)(target:Expr)(I:aai)(fp:List aai)(St:Nat->aat->Prop)(nx:Nat->M (Option V))(ai:List aai)(aZ:aat):Prop where
 jA:∀i h,St i h->∀b∈fp,∃o,h.get? b=aac o/\∀es n,o.data≠.dict es n
 hZ:∀h h',St 0 h->(∀b o,h.get? b=aac o->h'.get? b=aac o)->St 0 h'
 frame:∀i h h',St (i+1) h->(∀b∈fp,∀o,h.get? b=aac o->h'.get? b=aac o)->St (i+1) h'
 self:∀(s:aah) (A:aaE) (Q:aaf->aah->Prop) (E:aaf->aah->Prop),St 0 s.heap->Q (.ref I) s->aao (aar K.prog K.w) A (aer (.ref I)) Q E s
 step:∀σ ρ s i,Rel K F σ ρ s->Ext F.mine ai ρ aZ s.heap->(∀b∈fp,b∉ρ)->(∀b∈fp,b∉F.mine)->(∀b∈fp,K.base.get? b=aam)->St i s.heap->
  match nx i σ with
  | .stuck=>True
  | .exc _ _=>True
  | .ok aam aa=>aao (aar K.prog K.w) F.A (ac4 (.ref I)) (λr s'=>r=aam/\∃av,Rel K F aa av s'/\ρ <+: av/\∀au h₀,Ext F.mine au ρ h₀ s.heap->(∀b∈fp,h₀.get? b=aam)->Ext F.mine au av h₀ s'.heap) (λ_ _=>False) s
  | .ok (aac v) aa=>aao (aar K.prog K.w) F.A (ac4 (.ref I)) (λr s' => ∃w,r=aac w/\∀(Q:Unit->aah->Prop) (E:aaf->aah->Prop),
    (∀dF av,Rel K F aa av dF->bv fp F.mine ρ av s.heap dF.heap->St (i+1) dF.heap->Rep K dF.heap av v w->Q () dF)->aao (aar K.prog K.w) F.A (aeQ target (.ref I) w) Q E s') (λ_ _=>False) s
noncomputable def bo(nx:Nat->M (Option V))(t:V->M Unit)(b:M Fl):Nat->Nat->M Fl
 | 0,_=>stuck
 | n+1,i=>λσ=>match nx i σ with
  | .ok aam aa=>.ok .next aa
  | .ok (aac v) aa=>(do
   t v
   match <- b with
   | .next=>bo nx t b n (i+1)
   | .cont=>bo nx t b n (i+1)
   | .brk=>pure .next
   | .ret v=>pure (.ret v)) aa
  | _=>.stuck
theorem uC(nx:Nat->M (Option V))(t:V->M Unit)(b:M Fl)(n i:Nat)(σ:S):bo nx t b (n+1) i σ=(match nx i σ with
  | .ok aam aa=>.ok .next aa
  | .ok (aac v) aa=>(do
   t v
   match <- b with
   | .next=>bo nx t b n (i+1)
   | .cont=>bo nx t b n (i+1)
   | .brk=>pure .next
   | .ret v=>pure (.ret v)) aa
  | _=>.stuck):=rfl
theorem V8(nx:Nat->M (Option V))(t:V->M Unit)(b:M Fl)(n i:Nat)(σ:S):bo nx t b (n+1) i σ=(match nx i σ with
  | .stuck=>.stuck
  | .exc _ _=>.stuck
  | .ok aam aa=>.ok .next aa
  | .ok (aac v) aa=>match t v aa with
   | .stuck=>.stuck
   | .exc e C=>.exc e C
   | .ok _ C=>match b C with
    | .ok .next B=>bo nx t b n (i+1) B
    | .ok .cont B=>bo nx t b n (i+1) B
    | .ok .brk B=>.ok .next B
    | .ok (.ret v) B=>.ok (.ret v) B
    | .exc e B=>.exc e B
    | .stuck=>.stuck):=by
 refine aab (uC ..) ?_
 cases nx i σ with
 | stuck=>rfl
 | exc e y=>rfl
 | ok x aa=>
  cases x with
  | none=>rfl
  | some v=>
   dsimp only;refine aab (M.ap ..) ?_
   cases t v aa with
   | stuck=>rfl
   | exc e y=>rfl
   | ok u y=>
    dsimp only;refine aab (M.ap ..) ?_
    cases b y with
    | stuck=>rfl
    | exc e z=>rfl
    | ok f z=>cases f<;>rfl
noncomputable def CT(u:S->Nat->Option (Option V))(i:Nat):M (Option V):=λσ=>match u σ i with
 | none=>.stuck
 | some B=>.ok B σ
theorem Gu(B:S->Nat->Option (Option V))(t:V->M Unit)(b:M Fl):∀(n i:Nat) (σ:S),bo (CT B) t b n i σ=bO B t b n i σ
 | 0,_,_=>rfl
 | n+1,i,σ=>by
  (refine aab (V8 ..) ?_;refine aab (V7 ..) ?_)
  unfold CT
  cases B σ i with
  | none=>rfl
  | some C=>
   cases C with
   | none=>rfl
   | some v=>
    dsimp only
    cases t v σ with
    | stuck=>rfl
    | exc e y=>rfl
    | ok u y=>
     dsimp only
     cases b y with
     | stuck=>rfl
     | exc e z=>rfl
     | ok f z=>cases f<;>first | rfl | exact Gu B t b n (i+1) z
theorem Iter.g{target:Expr}{I:aai}{Src:Nat->Obj->Prop}{bH:S->Nat->Option (Option V)}{au:List aai}{h₀:aat}(hI:Iter K F I Src bH au h₀):
  fT K F target I [I] (λi h => ∃o,h.get? I=aac o/\Src i o) (CT bH) au h₀ where
 jA:=by
  rintro i h ⟨o,g,hs⟩ b hb
  refine wrap λG_ aM=>?_;obtain⟨vs,T,d,c,_,r⟩:=hI.1 i o hs;refine aM ?_;clear aM G_;refine aab (aan.mp hb) ?_
  exact(ja o g (λes n q=>by rw[d] at q;(injection q)))
 hZ:=by
  rintro h h' ⟨o,g,hs⟩ hk
  exact(ja o (hk I o g) hs)
 frame:=by
  rintro i h h' ⟨o,g,hs⟩ hk
  exact(ja o (hk I (by simp) o g) hs)
 self:=by
  rintro s A Q E ⟨o,g,hs⟩ q
  exact hI.2.1 0 o s A Q E g hs q
 step:=by
  rintro σ ρ s i rel x bk hm hb ⟨o,g,hs⟩
  have dJ:=hI.2.2 σ ρ s i o rel x g hs;refine wrap λG_ aM=>?_;obtain⟨vs,T,hd,hc,hT,hr⟩:=hI.1 i o hs;refine aM ?_;clear aM G_
  have hh:∀a∈[I],Hid s.heap a:=by
   intro a ha;refine aab (aan.mp ha) ?_
   exact(ke o vs g hd (by refine aab hc ?_;exact⟨λe=>hr.1 (by cases e;rfl),λe=>hr.2 (by cases e;rfl)⟩))
  unfold CT
  cases en:bH σ i with
  | none=>trivial
  | some ov=>
   rw[en] at dJ
   cases ov with
   | none=>
    refine aap dJ (λr ay h=>?_) λzZ zZ h=>h.elim;refine wrap λG_ aM=>?_;obtain⟨Gv,hx,hg,jI⟩:=h;refine aM ?_;clear aM G_;obtain rfl:=Gv
    have qX:∀b o,b∉[I]->s.heap.get? b=aac o->ay.heap.get? b=aac o:=λb o hb e=>hx b o (by simpa using hb) e
    exact(sP rfl ρ (rel.jA bk hb hm hh qX hg jI) (aax _) (λau h₀ x h0=>x.qW h0 qX))
   | some v=>
    refine aap dJ (λr ay h=>?_) λzZ zZ h=>h.elim;refine wrap λG_ aM=>?_;obtain⟨w,Gw,hx,hg,jI,Gx,rv⟩:=h;refine aM ?_;clear aM G_;obtain rfl:=Gw;obtain⟨lP,mj,dY⟩:=Gx;refine(ja w rfl (λQ E q=>?_));refine wrap λG_ aM=>?_;obtain⟨MI,V9,MJ,uD,uE,MK⟩:=hI.1 (i+1) lP dY;refine aM ?_;clear aM G_
    have qX:∀b o,b∉[I]->s.heap.get? b=aac o->ay.heap.get? b=aac o:=λb o hb e=>hx b o (by simpa using hb) e
    refine MH mj uD uE (q ay ρ (rel.jA bk hb hm hh qX hg jI) (Ext.hidden hh (λa ha=>by refine aab (aan.mp ha) ?_;exact⟨_,mj⟩) qX).toF ⟨lP,mj,dY⟩ rv)
theorem ML(nx:Nat->M (Option V))(t:V->M Unit)(b:M Fl)(n i:Nat)(σ:S):bo nx t b (n+1) i σ=(match nx i σ with
  | .ok aam aa=>.ok .next aa
  | .ok (aac v) aa=>(t v >>= λB=>b >>= og (bo nx t b n (i+1))) aa
  | _=>.stuck):=by
 have e:og (bo nx t b n (i+1))=λf=>(match f with
   | .next=>bo nx t b n (i+1)
   | .cont=>bo nx t b n (i+1)
   | .brk=>pure .next
   | .ret v=>pure (.ret v)):=by funext f;cases f<;>rfl
 (refine aab e ?_;exact uC ..)
 all_goals (cases nx i σ with
  | ok u y=>cases u<;>rfl
  | _=>rfl)
theorem MM{target:Expr}{body:List acE}{t:V->M Unit}{b:M Fl}(ht:dz K F target t)(B:jj K F body b){I:aai}{fp:List aai}{St:Nat->aat->Prop}{nx:Nat->M (Option V)}
  {σ:S} {ρ au:List aai} {s:aah} {h₀:aat} (U:fT K F target I fp St nx au h₀) (rel:Rel K F σ ρ s) (eZ:Ext F.mine au ρ h₀ s.heap) (h0:∀b∈fp,h₀.get? b=aam) (fU:∀b∈fp,K.base.get? b=aam)
  (oh:∀b∈fp,b∉F.mine) (bk:∀b∈fp,b∉ρ) (hs:St 0 s.heap) (n:Nat) (J:bo nx t b n 0 σ≠.stuck) :
  aao (aar K.prog K.w) F.A (runOwn (.forLoop target (.ref I) body [] F.env) F.env) (QO K F (q0 K) (bo nx t b n 0 σ) au h₀) (EO K F (bo nx t b n 0 σ) au h₀) s:=by
 refine wpAny_runOwn ?_
 refine V6 (R:=λr s'=>match r with | .ok f=>QO K F (q0 K) (bo nx t b n 0 σ) au h₀ f s' | .error e=>agO (aar K.prog K.w) F.A F.env (EO K F (bo nx t b n 0 σ) au h₀) e s')
  (QO K F (q0 K) (bo nx t b n 0 σ) au h₀) (EO K F (bo nx t b n 0 σ) au h₀) (λu u q=>q) (λu u hx=>hx.jG λu u q=>q.back)
  (λk s' => ∃O av i,Rel K F O av s'/\bo nx t b k i O=bo nx t b n 0 σ/\Ext F.mine au av h₀ s'.heap/\(∀b∈fp,b∉av)/\St i s'.heap) ?_ n
  ⟨σ,ρ,0,rel,rfl,eZ,bk,hs⟩
 generalize bo nx t b n 0 σ=out at J ⊢
 rintro k af ⟨O,av,i,ae,gQ,aL,fV,cM⟩
 cases k with
 | zero=>exact absurd gQ.symm J
 | succ k=>
  have G:(match nx i O with
   | .ok aam aa=>.ok .next aa
   | .ok (aac v) aa=>(t v >>= λu=>b >>= og (bo nx t b k (i+1))) aa
   | _=>.stuck:Res S Fl)=out:=gQ▸(ML ..).symm
  clear gQ;have dJ:=U.step O av af i ae aL fV oh fU cM
  cases en:nx i O with
  | stuck=>rw[en] at G;exact absurd G.symm J
  | exc x y=>rw[en] at G;exact absurd G.symm J
  | ok ov uF=>
   rw[en] at dJ G
   cases ov with
   | none=>
    refine aap dJ (λr ay h=>?_) λu u h=>h.elim;refine CG h λGy C r2 y1 y2=>?_
    try clear h
    obtain rfl:=Gy;exact(ze .next uF C G.symm r2 (y2 _ _ aL h0) rfl)
   | some v=>
    have D:∀{C W:List aai} {g Y:aat} {i:Nat},Ext F.mine C W g Y->(∀b∈fp,b∉C)->St (i+1) g->St (i+1) Y/\(∀b∈fp,b∉W):=by
     intro C W g Y i x hn e;refine⟨U.frame i g Y e λb B o ho=>?_,λb B gR=>?_⟩
     ·refine ya (U.jA (i+1) g e b B) λo1 Z d1=>?_;rw[Z] at ho;cases ho;refine ya (x.keep b o Z (hn b B) (oh b B)) λo' e' l=>?_
      (refine aab e' ?_;exact aab (l.same λes n q=>absurd q (d1 es n)) rfl)
     ·rcases x.new b gR with q | q
      ·exact hn b B q
      ·refine ya (U.jA (i+1) g e b B) λo1 Z d1=>?_;rw[Z] at q;(injection q)
    refine aap dJ (λr uG h=>?_) λu u h=>h.elim;obtain⟨w,rfl,h⟩:=h;refine h _ _ λay C aB kY dY rv=>?_
    have jJ:∀b∈fp,b∉C:=λb B gR=>by
     rcases kY.new b gR with q | q
     ·exact fV b B q
     ·refine ya (U.jA i _ cM b B) λo g u=>?_;rw[g] at q;(injection q)
    refine(ht uF C ay v w aB rv).fQ (aL.hide kY h0) J G id λu aO W u bg iI aY oi bR u=>?_;refine ye (D oi jJ dY) λmq jK=>?_;refine(B aO W bg aY).fQ bR J iI id λf fu fv wf d6 jL bA oj dK rf=>?_;refine ye (D oj jK mq) λiJ fW=>?_
    cases f with
    | next=>have:wf = .next:=rf;subst this;exact⟨k,ab4 _,fu,fv,i+1,bA,jL,dK,fW,iJ⟩
    | cont=>have:wf = .cont:=rf;subst this;exact⟨k,ab4 _,fu,fv,i+1,bA,jL,dK,fW,iJ⟩
    | brk=>have:wf = .brk:=rf;subst this;exact(ze .next fu fv jL.symm bA dK rfl)
    | ret v=>obtain⟨w,e,r⟩:=rf;subst e;exact⟨.ret v,fu,fv,jL.symm,bA,dK,w,rfl,r⟩
theorem CU{target:Expr}{body:List acE}{t:V->M Unit}{b:M Fl}(G:dz K F target t)(C:jj K F body b){I:aai}{u:Nat->Obj->Prop}{B:S->Nat->Option (Option V)}
  {σ:S} {ρ au:List aai} {s:aah} {h₀:aat} {o:Obj} (J:Iter K F I u B au h₀) (rel:Rel K F σ ρ s) (O:Ext F.mine au ρ h₀ s.heap) (h0:h₀.get? I=aam) (U:K.base.get? I=aam)
  (W:I∉F.mine) (Y:I∉ρ) (Z:s.heap.get? I=aac o) (hs:u 0 o) (n:Nat) (D:bO B t b n 0 σ≠.stuck) :
  aao (aar K.prog K.w) F.A (runOwn (.forLoop target (.ref I) body [] F.env) F.env) (QO K F (q0 K) (bO B t b n 0 σ) au h₀) (EO K F (bO B t b n 0 σ) au h₀) s:=by
 have e:=Gu B t b n 0 σ;rw[<- e] at D ⊢
 have key:∀{P:aai->Prop},P I->∀b∈[I],P b:=λh b C=>by refine aab (aan.mp C) ?_;exact h
 exact MM G C J.g rel O (key h0) (key U) (key W) (key Y) ⟨o,Z,hs⟩ n D
end
section
variable{K:aW}{F:bd}
theorem QO.up{α β:Type}{R:aat->List aai->β->α->Prop}{out:Res S β}{ρ av:List aai}{h h':aat}{a:α}{s:aah}(x:Ext F.mine ρ av h h')(q:QO K F R out av h' a s):QO K F R out ρ h a s:=by
 refine gd q λb σ gO e u B C=>?_
 try clear q;exact(ze b σ gO e u (x.trans B) C)
theorem EO.up{β:Type}{out:Res S β}{ρ av:List aai}{h h':aat}{a:aaf}{s:aah}(x:Ext F.mine ρ av h h')(q:EO K F out av h' a s):EO K F out ρ h a s:=by
 refine gd q λb σ gO e u B C=>?_
 try clear q;exact(ze b σ gO e u (x.trans B) (C.up x))
theorem Run.bq{α β δ:Type}{t:Sem α}{R:aat->List aai->β->α->Prop}{m:M β}{k:β->M δ}{σ:S}{ρ:List aai}{s:aah}{P:α->aah->Prop}
  (h1:Run K F t R (m σ) ρ s) (J:(m >>= k) σ≠.stuck)
  (h2:∀b aa av s' a,m σ = .ok b aa->(m >>= k) σ=k b aa->Rel K F aa av s'->Ext F.mine ρ av s.heap s'.heap->R s'.heap av b a->P a s') :
  aao (aar K.prog K.w) F.A t P (EO K F ((m >>= k) σ) ρ s.heap) s:=by
 cases e:m σ with
 | stuck=>exact absurd (by(refine aab (M.ap ..) ?_;exact aab e rfl)) J
 | ok b aa=>
  rw[e] at h1;have u:(m >>= k) σ=k b aa:=M.bZ e;exact aap h1 (λa s' ⟨av,B,C,D⟩=>h2 b aa av s' a e u B C D) λG G h=>h.elim
 | exc x aa=>
  rw[e] at h1
  have u:(m >>= k) σ = .exc x aa:=by(refine aab (M.ap ..) ?_;exact aab e rfl)
  exact aap h1 (λG G h=>h.elim) λv s' ⟨av,B,C,D⟩=>(ze x aa av u B C D)
noncomputable def bI(A:aaE)(n:Nat):Prop:=A.handled=aam/\A.depth+n<agv/\A.units+1000+10*n<acw
theorem bI.deeper{A:aaE}{n:Nat}(r:bI A (n+1))(env:Env):bI (A.deeper env) n:=by
 refine y5 r λh1 h2 h3=>?_
 try clear r
 refine⟨h1,?_,?_⟩
 ·show A.depth+1+n<_;exact Uf h2
 ·show A.units+3+1000+10*n<_;exact Un h3
theorem bI.le{A:aaE}{n k:Nat}(r:bI A n)(h:k<=n):bI A k:=⟨r.1,by have:=r.2.1;exact Ur this h,by have:=r.2.2;exact UF this h⟩
noncomputable abbrev bj:=List V->jb->Res jb V
noncomputable def ol(K:aW)(e:Exc)(h₀:aat)(v:aaf)(s:aah):Prop:= ∃X,(∀b∈X,h₀.get? b=aam)/\(∀b∈X,K.base.get? b=aam)/\qK true (λu=>u = .none) e X v s.heap
noncomputable def Gz(K:aW)(A:aaE)(h:aat):Prop:= ∃l,A.frames=aac l/\yu K h l
noncomputable def MN(K:aW)(A:aaE)(out:Res jb V)(ρ:List aai)(h:aat):aeI->aah->Prop:=λr s'=>
 (∃v am w av,out = .ok v am/\r = .ok (.ret w)/\GRel K am av s'/\Ext [] ρ av h s'.heap/\Rep K s'.heap av v w)\/
 (∃e am w av,out = .exc e am/\r = .error w/\GRel K am av s'/\Ext [] ρ av h s'.heap/\ol K e h w s')
noncomputable def CV(K:aW)(lvl:Nat)(f:aaf)(P:Args->List aaf->Prop)(g:bj):Prop :=
 ∀A,bI A lvl->∀st ρ s,GRel K st ρ s->Gz K A s.heap->∀args vs ws,P args ws->aj K s.heap ρ vs ws->g vs st≠.stuck->
  acC (aar K.prog K.w) A (.call f args) (MN K A (g vs st) ρ s.heap) s
noncomputable def GA(args:Args)(ws:List aaf):Prop:=args=⟨ws,[]⟩
noncomputable abbrev om(K:aW)(lvl:Nat)(f:aaf)(g:bj):Prop:=CV K lvl f GA g
noncomputable def wg(g:bj)(vs:List V):M V:=λσ=>match g vs σ.st with
 | .ok v st=>.ok v {σ with st:=st}
 | .exc e st=>.exc e {σ with st:=st}
 | .stuck=>.stuck
theorem z4{mine ρ av:List aai}{h h':aat}(x:Ext [] ρ av h h'):Ext mine ρ av h h':=⟨x.pre,x.alive,x.new,λb o e u B=>x.keep b o e u (by simp),x.bu⟩
theorem Rel.called{σ:S}{ρ av:List aai}{s s':aah}{am:jb}(rel:Rel K F σ ρ s)(g:GRel K am av s')(x:Ext [] ρ av s.heap s'.heap)(fk:aV F):Rel K F {σ with st:=am} av s':=by
 have J:∀{a:aai} {m:Str->Option aaf},s.heap.Ns a m->a∉ρ->s'.heap.Ns a m:=by
  intro a m n G;refine gd n λo es W e d k f=>?_
  try clear n
  refine ya (x.keep a o e G (by simp)) λo' B l=>?_
  exact(ze o' es W B (l.data.1.trans d) k f)
 have O:F.env.locals∉ρ:=rel.aE _ rel.aJ
 have U:∀{c:aai} {v:Option aaf},s.heap.IsCell c v->s'.heap.IsCell c v:=by
  intro c v n
  have G:c∉ρ:=λY=>by
   exact CL (rel.toGRel.alive Y) n rfl
  refine ya n λo e d=>?_
  try clear n
  refine ya (x.keep c o e G (by simp)) λo' B l=>?_
  exact(ja o' B (l.data.1.trans d))
 refine {toGRel:=g,vars:=?_,loc:=?_,bE:=?_,ao:=?_,aE:=?_,aJ:=rel.aJ,di:=rel.di.next λb o es n q d=>?_}
 ·intro y v e;refine ya (rel.vars y v e) λw h1 h2=>?_;exact(ja w (h1.mono (λm n=>J n O) (λc u Z n=>U n)) (h2.mono x))
 ·refine xc rel.loc λm n=>?_;exact⟨m,J n O⟩
 ·intro y c e;refine xc (rel.bE y c e) λv n=>?_;exact⟨v,U n⟩
 ·intro a D;refine qn (rel.ao a D) λh1 o h2=>?_;refine xc (x.alive a o h2) λo' h3=>?_;exact(zi h1 o' h3)
 ·intro a D C
  rcases x.new a C with h1 | h1
  ·exact rel.aE a D h1
  ·refine qn (rel.ao a D) λZ o h2=>?_;rw[h1] at h2;(injection h2)
 ·have C:b∉ρ:=λC=>by
   refine ya (rel.toGRel.alive C) λo' e c=>?_
   rw[q] at e;(injection e with aK;subst aK);exact c.dict d.1
  refine ya (x.keep b o q C (by simp)) λo' B l=>?_
  exact(jv o' es n B (l.data.1.trans d.1) d.2)
theorem ol.MO{e:Exc}{h₀:aat}{v:aaf}{s:aah}(x:ol K e h₀ v s)(B:∀a∈F.mine,∃o,h₀.get? a=aac o):hU K F e h₀ v s:=by
 refine we x λX f g C D G J O U W Y Z q4 q5 q6 q7 q8=>?_
 try clear x
 refine(zj X f (λb u=>⟨g b u,λq=>?_⟩) C D G J O U W Y Z q4 q5 q6 q7 ?_)
 ·refine xc (B b q) λo e=>?_;rw[f b u] at e;(injection e)
 ·rcases q8 with⟨q,_⟩ | ⟨T',l8,l9,mf,r1,r2,r3,r4,r5,r6,r7,r8⟩
  ·(injection q)
  ·exact .inr (ym T' l8 l9 mf r1 r2 r3 r4 r5 r6 r7 trivial)
theorem Rel.MP{σ:S}{ρ:List aai}{s:aah}(rel:Rel K F σ ρ s):Gz K F.A s.heap:=by
 refine gc rel.di λe l u C B=>?_;exact(ja _ u B)
theorem GB(C:aV F){f:aaf}{P:Args->List aaf->Prop}{g:bj}{lvl:Nat}(G:CV K lvl f P g)(hr:bI F.A lvl){σ:S}{ρ:List aai}{s:aah}{vs:List V}{ws pos:List aaf}{D:List (Str×aaf)}(rel:Rel K F σ ρ s)(r:aj K s.heap ρ vs ws)(J:P ⟨pos,D⟩ ws):
  Run K F (aaT f pos D) (Rep K) (wg g vs σ) ρ s:=by
 refine Run.of_wp λO=>?_
 have U:g vs σ.st≠.stuck:=by
  intro e;apply O;unfold wg;exact aab e rfl
 refine agP (acR (G F.A hr σ.st ρ s rel.toGRel rel.MP _ vs ws J r U) λr s' h=>?_)
 rcases h with⟨v,am,w,av,e,rfl,u,x,B⟩ | ⟨e,am,w,av,W,rfl,u,x,B⟩
 ·exact(ze v ({σ with st:=am}) av (by unfold wg;exact aab e rfl) (rel.called u x C) (z4 x) B)
 ·exact(ze e ({σ with st:=am}) av (by unfold wg;exact aab W rfl) (rel.called u x C) (z4 x) (B.MO λa Y=>(rel.ao a Y).2))
theorem MQ(u:aV F){f:aaf}{g:bj}{lvl:Nat}(B:om K lvl f g)(hr:bI F.A lvl){σ:S}{ρ:List aai}{s:aah}{vs:List V}{ws:List aaf}(rel:Rel K F σ ρ s)(r:aj K s.heap ρ vs ws):
  Run K F (aaT f ws) (Rep K) (wg g vs σ) ρ s:=GB u B hr rel r rfl
noncomputable def qd:List String->List V->String->Option V
 | x::xs,v::vs=>λy=>if y=x then aac v else qd xs vs y
 | _,_=>λ_=>aam
noncomputable def cZ(params:List String)(body:M Fl):bj:=λvs st=>
 if vs.length=params.length then
  match body ⟨st,qd params vs⟩ with
  | .ok (.ret v) aa=>.ok v aa.st
  | .ok _ aa=>.ok .none aa.st
  | .exc e aa=>.exc e aa.st
  | .stuck=>.stuck
 else .stuck
theorem CW{kindOf:Str->Option ae5}:∀(binds:List (Str×aaf)) (m:Str->Option aaf) {x:Str} {w:aaf},(binds.map (·.1)).Nodup->kindOf x=aac .local->
  ((x,w)∈binds->ah8 kindOf binds m x=aac w)/\(x∉binds.map (·.1)->ah8 kindOf binds m x=m x)
 | [],m,x,w,_,_=>⟨λh=>by simp at h,λD=>rfl⟩
 | (n,v)::r,m,x,w,B,hk=>by
  refine ye (ad4.mp B) λC u=>?_;refine⟨λh=>?_,λh=>?_⟩
  ·rcases aay.mp h with h | h
   ·cases h
    unfold ah8
    (refine aab ((CW r _ (w:=v) u hk).2 C) ?_;rw[if_pos hk]);simp
   ·unfold ah8;exact(CW r _ u hk).1 h
  ·have h1:x≠n:=λe=>h (by simp[e])
   have h2:x∉r.map (·.1):=λe=>h (aaU _ e);unfold ah8;refine aab ((CW r _ (w:=w) u hk).2 h2) ?_
   split
   ·exact if_neg h1
   ·rfl
theorem CX{kindOf:Str->Option ae5}:∀(binds:List (Str×aaf)) (m:Str->Option aaf) {x:Str} {w:aaf},(binds.map (·.1)).Nodup->kindOf x≠aac .local->
  ((x,w)∈binds->ah9 kindOf binds m x=aac w)/\(x∉binds.map (·.1)->ah9 kindOf binds m x=m x)
 | [],m,x,w,_,_=>⟨λh=>by simp at h,λD=>rfl⟩
 | (n,v)::r,m,x,w,B,hk=>by
  refine ye (ad4.mp B) λC u=>?_;refine⟨λh=>?_,λh=>?_⟩
  ·rcases aay.mp h with h | h
   ·cases h
    unfold ah9
    (refine aab ((CX r _ (w:=v) u hk).2 C) ?_;rw[if_neg hk]);simp
   ·unfold ah9;exact(CX r _ u hk).1 h
  ·have h1:x≠n:=λe=>h (by simp[e])
   have h2:x∉r.map (·.1):=λe=>h (aaU _ e);unfold ah9;refine aab ((CX r _ (w:=w) u hk).2 h2) ?_
   split
   ·rfl
   ·exact if_neg h1
theorem MR:∀{ps:List String} {vs:List V} {ws:List aaf} {h:aat} {ρ:List aai} {x:String} {v:V},aj K h ρ vs ws->qd ps vs x=aac v->
  ∃w,(aae x,w)∈(ps.map aae).zip ws/\Rep K h ρ v w
 | [],vs,ws,h,ρ,x,v,_,e=>by(injection e)
 | p::ps,[],ws,h,ρ,x,v,_,e=>by(injection e)
 | p::ps,u::vs,ws,h,ρ,x,v,r,e=>by
  refine gc (aj.aG.mp r) λw U C D G=>?_;obtain rfl:=C
  have e:(if x=p then aac u else qd ps vs x)=aac v:=e
  by_cases B:x=p
  ·rw[if_pos B] at e;(injection e with J;subst J);subst B
   exact(ja w (by simp) D)
  ·rw[if_neg B] at e;refine ya (MR G e) λO h1 h2=>?_
   exact(ja O (by simp only[ac1,List.zip_cons_cons];exact aaU _ h1) h2)
structure fw(K:aW)(fa:aai)(fd:afF)(body:List acE):Prop where
 obj:∃o,K.base.get? fa=aac o/\o.data = .func fd
 code:K.base.CodeRec fd.code fd.qualname
 body:fd.body = .stmts body
 dD:fd.closure=[]
 glob:fd.globals=afb
 blt:fd.builtins=afy
 co:fd.scope.isCoroutine=false
 gen:fd.scope.isGenerator=false
 kind:fd.scope.kind = .function
theorem MS{e:Exc}{ρ au:List aai}{h₀:aat}{v:aaf}{s:aah}{σ:S}{Q:Unit->aah->Prop}{E:aaf->aah->Prop}(x:hU K F e h₀ v s)(rel:Rel K F σ ρ s)(ext:Ext F.mine au ρ h₀ s.heap)
  (h:∀s',Rel K F σ ρ s'->Ext F.mine au ρ h₀ s'.heap->ol K e h₀ v s'->Q () s'):aao (aar K.prog K.w) F.A (leaving F.env v) Q E s:=by
 unfold leaving;refine aad (x.du rel ext λaf B C D=>?_);refine D.d4 B C λG J O u=>h G J O ?_;refine we u λU W Y Z a' t' fS l7 lC q1 q2 q3 q4 q5 q6 q7 q8=>?_
 try clear u
 refine(zj U W (λb hb=>(Y b hb).1) Z a' t' fS l7 lC q1 q2 q3 q4 q5 q6 q7 ?_)
 rcases q8 with⟨q,_⟩ | ⟨T',l8,l9,mf,r1,r2,r3,r4,r5,r6,r7,r8⟩
 ·(exfalso;exact nomatch q)
 ·exact .inr (ym T' l8 l9 mf r1 r2 r3 r4 r5 r6 r7 (r8.2 rfl))
noncomputable def GD(cells:List (Str×aai)):List aai:=cells.filterMap λx=>cells.lookup x.1
theorem Wa{cells:List (Str×aai)}{c:aai}(h:c∈GD cells):∃n,cells.lookup n=aac c:=by
 refine ya (afi.mp h) λx u e=>?_;exact⟨x.1,e⟩
theorem Wb{cells:List (Str×aai)}{x:Str}{c:aai}(h:cells.lookup x=aac c):c∈GD cells :=
 afi.mpr (ja (x,c) (mem_of_lookup h) h)
theorem GF:∀(names:List (Str×ae5)) (n:Nat) (acc:List (Str×aai)),(acc.Pairwise λx y=>x.2≠y.2)->(∀p∈acc,p.2<n)->((acQ n names acc).Pairwise λx y=>x.2≠y.2)
 | [],n,acc,h,_=>h
 | (B,k)::r,n,acc,h,u=>by
  unfold acQ
  split
  ·refine GF r (n+1) _ (acS.mpr ⟨λp hp=>?_,h⟩) ?_
   ·exact λe=>absurd (u p hp) (by rw[<- e];exact afo _)
   ·intro p hp
    rcases aay.mp hp with rfl | hp
    ·exact ab4 _
    ·exact adH (u p hp)
  ·exact GF r n acc h u
theorem Wc{names:List (Str×ae5)}{n:Nat}{x:Str}{c:aai}(h:(acQ n names []).lookup x=aac c):∀y,(acQ n names []).lookup y=aac c->y=x :=
 λy u=>name_of_addr (GF names n [] aen (by simp)) (mem_of_lookup u) (mem_of_lookup h)
noncomputable def qZ(fd:afF)(L fa:aai)(A:aaE):bd:=⟨acq fd L fa,A,L::GD (acQ (L+1) fd.scope.names []),true⟩
theorem Wd{prog:aa0}{w:abC}{A:aaE}{s:aah}{R:aeI->aah->Prop}{a:aai}{o:Obj}{fd:afF}{body:List acE}{args:Args}{binds:List (Str×aaf)}
  (B:A.depth<agv) (C:s.heap.get? a=aac o) (D:o.data = .func fd) (G:s.heap.NoLimit) (J:s.heap.CodeRec fd.code fd.qualname)
  (O:fd.body = .stmts body) (U:BindsTo s fd args binds) (W:fd.closure=[])
  (Y:∀x∈binds,fd.scope.names.lookup x.1=aac .local\/(fd.scope.names.lookup x.1=aac .cell/\((acQ (s.heap.objs.size+1) fd.scope.names []).lookup x.1).isSome=true))
  (h:∀af,InCallC s (acq fd s.heap.objs.size a).locals (ah8 (acq fd s.heap.objs.size a).kindOf binds λu=>aam) (acq fd s.heap.objs.size a).cells
    (ah9 (acq fd s.heap.objs.size a).kindOf binds λu=>aam) af->
   aao (aar prog w) (A.deeper (acq fd s.heap.objs.size a)) (execs body (acq fd s.heap.objs.size a)) (λf s'=>R (.ok (.ret (match f with | .ret v=>v | _=>.none))) s')
    (λe s'=>aao (aar prog w) (A.deeper (acq fd s.heap.objs.size a)) (leaving (acq fd s.heap.objs.size a) e) (λu dF=>R (.error e) dF) (λZ dF=>R (.error Z) dF) s') af)
  (oo:fd.scope.isCoroutine=false) (ia:fd.scope.isGenerator=false) (hk:fd.scope.kind = .function) :
  acC (aar prog w) A (.call (.ref a) args) R s:=by
 refine codeAny_call_function B C D oo ia O J (U _ _ _ _ ?_);refine aab W ?_;refine wpAny_newFunctionEnv_cells hk Y λenv he s' x=>?_;subst he;exact⟨G.keeps x.toInCall.keep,codeAny_func (h s' x)⟩
theorem MT{lvl:Nat}{fa:aai}{fd:afF}{body:List acE}{params:List String}{P:Args->List aaf->Prop}{mb:M Fl}(hd:fw K fa fd body)
  (oq:params.Nodup)
  (de:∀args (ws:List aaf) (s:aah),(∀b o,K.base.get? b=aac o->s.heap.get? b=aac o)->P args ws->ws.length=params.length->BindsTo s fd args ((params.map aae).zip ws))
  (cE:∀n,∀x∈params,fd.scope.names.lookup (aae x)=aac .local\/(fd.scope.names.lookup (aae x)=aac .cell/\((acQ n fd.scope.names []).lookup (aae x)).isSome=true))
  (D:∀L A,bI A lvl->jj K (qZ fd L fa A) body mb):CV K (lvl+1) (.ref fa) P (cZ params mb):=by
 intro A eF st ρ s g re args vs ws hP r aA
 have hl:vs.length=params.length:=by
  by_cases h:vs.length=params.length
  ·exact h
  ·exact absurd (by unfold cZ;exact if_neg h) aA
 have CY:ws.length=params.length:=r.length.trans hl;refine ya hd.obj λo ho gS=>?_
 have uJ:∀x∈(params.map aae).zip ws,∃p∈params,x.1=aae p:=by
  intro x O;have:=(List.of_mem_zip (a:=x.1) (b:=x.2) O).1;refine ya (abk.mp this) λp U e=>?_;exact(ja p U e.symm)
 have uK:(((params.map aae).zip ws).map (·.1)).Nodup:=by
  rw[List.map_fst_zip (by simp[CY])]
  have hD:∀l:List String,l.Nodup->(l.map aae).Nodup:=by
   intro l
   induction l with
   | nil=>intro _;exact aiA
   | cons a l ih=>
    intro Y;refine ye (ad4.mp Y) λa1 a2=>?_;refine ad4.mpr ⟨λhm=>?_,ih a2⟩;refine ya (abk.mp hm) λb D e=>?_;exact a1 (CK e▸D)
  exact hD params oq
 refine Wd (fd:=fd) (binds:=(params.map aae).zip ws) (by have:=eF.2.1;exact Ml this) (g.base fa o ho) gS (K.top.nolimit.keeps g.base) (hd.code.keeps g.base) hd.body (de args ws s g.base hP CY) hd.dD ?_ ?_ hd.co hd.gen hd.kind
 ·intro x O;refine ya (uJ x O) λp U e=>?_;refine aab e ?_;exact cE _ p U
 ·intro af X;have C:=X.toInCall.keep;refine xj X.done λaZ tk GI u=>?_;obtain rfl:=GI;have kF:=X.toInCall.fresh;have fresh:∀{a:aai},s.heap.objs.size<=a->s.heap.get? a=aam:=λha=>aaQ ha
  have pi:∀{a:aai},s.heap.get? a=aam->K.base.get? a=aam:=by
   intro a ha
   cases e:K.base.get? a with
   | none=>rfl
   | some o'=>have:=g.base a o' e;rw[ha] at this;(injection this)
  have d7:∀a∈(qZ fd s.heap.objs.size fa (A.deeper (acq fd s.heap.objs.size fa))).mine,s.heap.get? a=aam/\∃o',aZ.get? a=aac o':=by
   intro a ha
   rcases aay.mp ha with rfl | ha
   ·refine w0 X.toInCall.ns λo' u u e u=>?_;exact(zi (fresh kF) o' e)
   ·refine xc (Wa ha) λn Y=>?_;have h1:=X.above n a (mem_of_lookup Y);refine ya (X.cell n a Y) λo' e u=>?_;exact(zi (fresh (adi (aa9 kF h1))) o' e)
  have rel:Rel K (qZ fd s.heap.objs.size fa (A.deeper (acq fd s.heap.objs.size fa))) ⟨st,qd params vs⟩ ρ {s with heap:=aZ,toks:=tk}:=by
   refine {toGRel:=g.kept C rfl rfl,vars:=?_,loc:=⟨_,X.toInCall.ns⟩,bE:=λx c e=>⟨_,X.cell x c e⟩,ao:=?_,aE:=?_,aJ:=aaS,di:=?_}
   ·intro x v e;refine ya (MR r e) λw h1 h2=>?_;refine(ja w ?_ (Rep.br (aax _) (jo C) h2));refine ya (uJ _ h1) λp U ep=>?_;have O:x=p:=CK ep;subst O
    rcases cE (s.heap.objs.size+1) x U with hk | ⟨hk,jB⟩
    ·exact .inl (wn hk _ X.toInCall.ns ((CW _ _ uK hk).1 h1))
    ·refine xc (afO.mp jB) λc hc=>?_;refine .inr (wn (.inl hk) c hc ?_)
     have kC:(acq fd s.heap.objs.size fa).kindOf (aae x)≠aac .local:=by
      show fd.scope.names.lookup (aae x)≠aac .local;refine aab hk ?_;decide
     have:=X.cell _ c hc;rw[(CX _ _ uK kC).1 h1] at this;exact this
   ·intro a ha;refine ye (d7 a ha) λh1 h2=>?_;exact⟨pi h1,h2⟩
   ·intro a ha D;refine ye (d7 a ha) λh1 u=>?_;refine ya (g.alive D) λo' e u=>?_;rw[h1] at e;(injection e)
   ·refine ya re λl iL GJ=>?_
    try clear re
    refine(ke (acq fd s.heap.objs.size fa) l (by show A.frames.map _=_;refine aab iL ?_;rfl) rfl ?_)
    intro env he
    rcases aay.mp he with rfl | he
    ·refine gd X.toInCall.ns λo' es ep e1 d1 k1 u=>?_
     exact⟨by show fd.scope.kind≠_;refine aab hd.kind ?_;decide,s.heap.objs.size,o',_,_,rfl,pi (fresh (aaw _)),e1,d1,k1⟩
    ·exact GJ.next (λb o es n u q d=>(w7 o es n (C b o q) d)) env he
  have Z:=D s.heap.objs.size (A.deeper (acq fd s.heap.objs.size fa)) (eF.deeper _) _ ρ _ rel
  have up:∀{av:List aai} {h':aat},Ext (qZ fd s.heap.objs.size fa (A.deeper (acq fd s.heap.objs.size fa))).mine ρ av aZ h'->Ext [] ρ av s.heap h':=by
   intro av h' x;refine⟨x.pre,λb o' e=>x.alive b o' (C b o' e),λa ha=>?_,λb o' e n1 u=>x.keep b o' (C b o' e) n1 (λhm=>?_),λb o' e f=>x.bu b o' (C b o' e) f⟩
   ·rcases x.new a ha with h1 | h1
    ·exact .inl h1
    ·refine .inr ?_
     cases e:s.heap.get? a with
     | none=>rfl
     | some o'=>have:=C a o' e;rw[h1] at this;(injection this)
   ·have:=(d7 b hm).1;rw[e] at this;(injection this)
  have B:cZ params mb vs st=(match mb ⟨st,qd params vs⟩ with
   | .ok (.ret v) aa=>.ok v aa.st
   | .ok _ aa=>.ok .none aa.st
   | .exc e aa=>.exc e aa.st
   | .stuck=>.stuck):=by unfold cZ;exact if_pos hl
  cases em:mb ⟨st,qd params vs⟩ with
  | stuck=>rw[em] at B;exact absurd B aA
  | exc e aa=>
   rw[em] at Z;rw[em] at B;refine aap Z (λu u h=>h.elim) λv s' ⟨av,G,J,xr⟩=>?_;refine MS (K:=K) (F:=qZ fd s.heap.objs.size fa (A.deeper (acq fd s.heap.objs.size fa))) (σ:=aa) xr G J λay aB aX xo=>?_;refine ya xo λX' f' g'=>?_
   try clear xo
   have f2:∀b∈X',s.heap.get? b=aam:=by
    intro b D
    cases q:s.heap.get? b with
    | none=>rfl
    | some o'=>have:=C b o' q;rw[f' b D] at this;(injection this)
   exact .inr ⟨e,aa.st,v,av,B,rfl,aB.toGRel,up aX,X',f2,g'⟩
  | ok f aa=>
   rw[em] at Z B;refine aap Z (λwf s' ⟨av,G,J,W⟩=>?_) λu u h=>h.elim
   cases f with
   | ret v=>
    refine ya W λw GK rh=>?_
    try clear W
    obtain rfl:=GK;exact .inl (qj v aa.st w av B rfl G.toGRel (up J) rh)
   | next=>have:wf = .next:=W;subst this;exact .inl (qj .none aa.st .none av B rfl G.toGRel (up J) Rep.none)
   | brk=>have:wf = .brk:=W;subst this;exact .inl (qj .none aa.st .none av B rfl G.toGRel (up J) Rep.none)
   | cont=>have:wf = .cont:=W;subst this;exact .inl (qj .none aa.st .none av B rfl G.toGRel (up J) Rep.none)
theorem MU{lvl:Nat}{fa:aai}{fd:afF}{body:List acE}{params:List String}{mb:M Fl}(hd:fw K fa fd body)
  (u:params.Nodup)
  (B:∀ws:List aaf,ws.length=params.length->agJ fd ⟨ws,[]⟩=pure ((params.map aae).zip ws))
  (C:∀n,∀x∈params,fd.scope.names.lookup (aae x)=aac .local\/(fd.scope.names.lookup (aae x)=aac .cell/\((acQ n fd.scope.names []).lookup (aae x)).isSome=true))
  (D:∀L A,bI A lvl->jj K (qZ fd L fa A) body mb):om K (lvl+1) (.ref fa) (cZ params mb) :=
 MT hd u (λargs ws s O G J=>by refine aab (show args=_ from G) ?_;exact .of_eq (B ws J)) C D
end
section
variable{K:aW}{F:bd}
theorem GL{A:aaE}{s:aah}{σ:S}{ρ:List aai}{x:Str}{pos:Pos}{v:aaf}{Q:aaf->aah->Prop}{E:aaf->aah->Prop}(u:aV F)(rel:Rel K F σ ρ s)(B:F.env.kindOf x=aac .globalImplicit)
  (C:K.mg x=aac v) (h:Q v s) (hd:(x==("__debug__" : Str))=false:=by decide):aao (aar K.prog K.w) A (abe (.Name x pos) F.env) Q E s :=
 afr u.kind B (Calls.loadGlobal_global (mg:=K.mg) (by refine aab u.glob ?_;exact K.top.g.keeps rel.base) C h) hd
theorem yw{A:aaE}{s:aah}{σ:S}{ρ:List aai}{x:Str}{pos:Pos}{v:aaf}{Q:aaf->aah->Prop}{E:aaf->aah->Prop}(u:aV F)(rel:Rel K F σ ρ s)(B:F.env.kindOf x=aac .globalImplicit)
  (C:K.mg x=aam) (D:aed x=aac v) (h:Q v s) (G:x ≠ "__name__" :=by decide) (hd:(x==("__debug__" : Str))=false:=by decide):aao (aar K.prog K.w) A (abe (.Name x pos) F.env) Q E s :=
 afr u.kind B (Calls.loadGlobal_builtin (mg:=K.mg) (mb:=K.mb) (by refine aab u.glob ?_;exact K.top.g.keeps rel.base) C (by refine aab u.blt ?_;exact K.top.b.keeps rel.base) ((K.top.builtins x G).trans D) h) hd
theorem yq(pos:Pos)(l:List (Bool×Sem aaf)):(ad9 pos l).any (·.1)=l.any (·.1):=by
 unfold ad9;refine aab List.any_map ?_;rfl
theorem j6{A:aaE}{M:adF}{E:aaf->aah->Prop}{s:aah}{f:aaf}{args:List (Bool×Sem aaf)}{Q:Args->aah->Prop}(u:args.any (·.1)=false)
  (h:aao M A (acB args) (λvs s'=>Q ⟨vs,[]⟩ s') E s):aao M A (ahO f true args []) Q E s:=by
 cases args with
 | nil=>
  unfold ahO;show aao M A (acB [] >>= _) Q E s;refine aad (aap h (λvs s' h'=>aad (aak (aaN ?_))) λB B e=>e);exact aad (aak (aad (aak (aak h'))))
 | cons a r=>
  obtain⟨b,x⟩:=a
  have:b=false:=by
   rw[List.any_cons] at u
   cases b<;>simp_all
  clear u;subst this;exact Calls.evalArgs_plain h
theorem zr(x:Str)(u pos:Pos)(args:List Expr)(env:Env):abe (.Call (.Name x u) args [] pos) env=(do ae6 pos (<- abe (.Name x u) env) [] (ad9 pos (abu args env)) []):=rfl
theorem We(C:aV F){x:String}{O pos:Pos}{args:List Expr}{D:M (List V)}{fa:aai}{fd:afF}{body:List acE}{g:bj}{lvl:Nat}
  (U:F.env.kindOf (aae x)=aac .globalImplicit) (W:K.mg (aae x)=aac (.ref fa)) (hd:fw K fa fd body) (Y:om K lvl (.ref fa) g) (hr:bI F.A lvl) (Z:lz K F args D)
  (dB:(abu args F.env).any (·.1)=false:=by rfl) (oz:(aae x==("__debug__" : Str))=false:=by decide) :
  aU K F (.Call (.Name (aae x) O) args [] pos) (do let vs <- D;wg g vs):=by
 intro σ ρ s rel;refine Run.of_wp λu=>?_;simp only[zr];refine aad (GL C rel U W ?_ oz);refine ya hd.obj λo ho gS=>?_
 refine ael (o:=o) (fd:=fd) (j6 (by refine aab (yq ..) ?_;exact dB) ?_)
 refine Run.bq (Z pos σ ρ s rel) u λvs aa av s' ws e1 e2 G J rv=>⟨⟨G.base _ _ ho,gS⟩,?_⟩;rw[e2] at u ⊢;exact aap ((MQ C Y hr G rv).wp u) (λB B q=>q.up J) λB B q=>q.up J
noncomputable def w6(K:aW)(f:aaf)(g:List V->M V):Prop :=
 ∀F:bd,aV F->F.nh=true->∀σ ρ s vs ws,Rel K F σ ρ s->aj K s.heap ρ vs ws->Run K F (aaT f ws) (Rep K) (g vs σ) ρ s
noncomputable def uL:aaf->Bool
 | .builtin _=>true
 | .type _=>true
 | _=>false
theorem CZ{A:aaE}{M:adF}{E:aaf->aah->Prop}{s:aah}{pos:Pos}{f:aaf}{first:List aaf}{args:List (Bool×Sem aaf)}{Q:aaf->aah->Prop}(B:uL f=true)(u:args.any (·.1)=false)
  (h:aao M A (acB args) (λvs af=>aao M A (aaT f (first++vs)) Q E af) E s):aao M A (ae6 pos f first args []) Q E s:=by
 cases f with
 | builtin id=>exact Calls.callWith_builtin u (j6 u h)
 | type T=>exact aiU u (j6 u h)
 | _=>(injection B)
theorem yg(C:aV F){x:String}{J pos:Pos}{args:List Expr}{D:M (List V)}{f:aaf}{g:List V->M V}(O:uL f=true)
  (U:F.env.kindOf (aae x)=aac .globalImplicit) (W:K.mg (aae x)=aam) (Y:aed (aae x)=aac f) (Z:w6 K f g) (hs:lz K F args D)
  (dB:(abu args F.env).any (·.1)=false:=by rfl) (hn:aae x ≠ "__name__" :=by decide) (oz:(aae x==("__debug__" : Str))=false:=by decide) (bJ:F.nh=true:=by rfl) :
  aU K F (.Call (.Name (aae x) J) args [] pos) (do let vs <- D;g vs):=by
 intro σ ρ s rel;refine Run.of_wp λu=>?_;simp only[zr];refine aad (yw C rel U W Y ?_ hn oz)
 refine CZ O (by refine aab (yq ..) ?_;exact dB) ?_
 refine Run.bq (hs pos σ ρ s rel) u λvs aa av s' ws e1 e2 bh G rv=>?_;rw[e2] at u ⊢;exact aap ((Z F C bJ aa av s' vs ws bh rv).wp u) (λB B q=>q.up G) λB B q=>q.up G
noncomputable def cb:V->M Unit
 | .obj l=>λσ=>match σ.st[l]? with
  | some (.lst _)=>.ok () σ
  | _=>.stuck
 | _=>λ_=>.stuck
theorem sW{σ:S}{l:Nat}{us:List V}(h:σ.st[l]?=aac (.lst us)):cb (.obj l) σ = .ok () σ:=by
 show(match σ.st[l]? with | some (.lst _)=>Res.ok () σ | _=>.stuck)=_
 exact aab h rfl
theorem GN{σ aa:S}{l:Nat}{u:Unit}(h:cb (.obj l) σ = .ok u aa):∃us,σ.st[l]?=aac (.lst us):=by
 unfold cb at h;dsimp only at h
 cases e:σ.st[l]? with
 | none=>rw[e] at h;(injection h)
 | some c=>
  rw[e] at h
  cases c with
  | lst us=>exact⟨us,rfl⟩
  | set _=>(injection h)
  | aP _ _ _=>(injection h)
  | cX=>(injection h)
  | tab=>(injection h)
  | dD _ _=>(injection h)
noncomputable def MV(K:aW)(id:String)(g:V->List V->M V):Prop :=
 ∀F:bd,aV F->F.nh=true->∀σ ρ s o u vs ws,Rel K F σ ρ s->Rep K s.heap ρ o u->aj K s.heap ρ vs ws->Run K F (aaT (.builtin id) (u::ws)) (Rep K) (g o vs σ) ρ s
theorem Rel.list{σ:S}{ρ:List aai}{s:aah}{l:Nat}{w:aaf}{vs:List V}(rel:Rel K F σ ρ s)(hr:Rep K s.heap ρ (.obj l) w)(u:σ.st[l]?=aac (.lst vs)):
  ∃a ws n,w = .ref a/\ρ[l]?=aac a/\IsL s.heap a ws.toArray n/\aj K s.heap ρ vs ws/\vs.length<=1000000:=by
 refine ya (Rep.aN.mp hr) λa e B=>?_;clear hr;obtain rfl:=B;refine j0 (rel.cell l a _ e u) λh0 ws n h1 h2=>?_;exact⟨a,ws,n,rfl,e,h1,h2,h0⟩
theorem Wf(fk:aV F){o:Expr}{name:String}{id:String}{C pos:Pos}{args:List Expr}{Z:M V}{J:M (List V)}{g:V->List V->M V}(sX:Slot "list" (aae name) id)
  (Wg:afd (.builtin id)=pure (.type "method_descriptor")) (ho:aU K F o Z) (hs:lz K F args J) (hm:MV K id g) {pl:Sem Bool}
  (he:abe (.Call (.Attribute o (aae name) C) args [] pos) F.env=(do
   let G <- abe o F.env
   standAt C.atName
   let(f,first) <- holding [G] (getMethod G (aae name) pl)
   ae6 pos f first (ad9 pos (abu args F.env)) []):=by rfl)
  (dB:(abu args F.env).any (·.1)=false:=by rfl) (bJ:F.nh=true:=by rfl) :
  aU K F (.Call (.Attribute o (aae name) C) args [] pos) (do let G <- Z;cb G;let vs <- J;g G vs):=by
 intro σ ρ s rel;refine Run.of_wp λu=>?_;refine MethodCall_ (pl:=pl) ?_ he;refine Run.bq (ho σ ρ s rel) u λG O ai af wo e1 e2 ae U ro=>?_;rw[e2] at u ⊢
 cases G with
 | obj l=>
  cases D:O.st[l]? with
  | none=>exact absurd (by refine aab (M.ap ..) ?_;simp only[cb,D]) u
  | some c=>
   cases c with
   | set _=>exact absurd (by refine aab (M.ap ..) ?_;simp only[cb,D]) u
   | aP _ _ _=>exact absurd (by refine aab (M.ap ..) ?_;simp only[cb,D]) u
   | cX=>exact absurd (by refine aab (M.ap ..) ?_;simp only[cb,D]) u
   | tab=>exact absurd (by refine aab (M.ap ..) ?_;simp only[cb,D]) u
   | dD _ _=>exact absurd (by refine aab (M.ap ..) ?_;simp only[cb,D]) u
   | lst us=>
    refine wl (ae.list ro D) λa ws n GP bk hL hr B=>?_;obtain rfl:=GP;have e3:(cb (.obj l) >>= λB=>(J >>= λvs=>g (.obj l) vs)) O=(J >>= λvs=>g (.obj l) vs) O:=M.bZ (sW D);rw[e3] at u ⊢;refine ahw sX Wg hL.isList ⟨_,hL,rfl⟩ ?_
    refine CZ rfl (by refine aab (yq ..) ?_;exact dB) ?_
    refine aap (Run.bq (P:=λjH W=>aao (aar K.prog K.w) F.A (aaT (.builtin id) (.ref a::jH)) (QO K F (Rep K) ((J >>= λvs=>g (.obj l) vs) O) ai af.heap) (EO K F ((J >>= λvs=>g (.obj l) vs) O) ai af.heap) W) (hs pos O ai af ae) u ?_) (λB B q=>?_) (λB B q=>q.up U)
    ·intro vs ar aC W uM e4 e5 aB Y rv;rw[e5] at u ⊢;exact aap ((hm F fk bJ ar aC W (.obj l) (.ref a) vs uM aB (ro.mono Y) rv).wp u) (λB B q=>q.up Y) λB B q=>q.up Y
    ·exact aap q (λB B q=>q.up U) λB B q=>q.up U
 | _=>exact absurd (by refine aab (M.ap ..) ?_;dsimp only[cb]) u
end
section
variable{K:aW}{F:bd}
noncomputable def xh(h:aat)(cls:String)(msg:Str)(tk:Tok):aat:=(h.push {cls:= .type "tuple",data:= .seq #[.str msg tk]}).push {cls:= .type cls,data:= .fields #[.ref h.objs.size,.none,.none,.none,.bool false,.none]}
theorem qo{h:aat}{cls:String}{msg:Str}{tk:Tok}:∀b o,h.get? b=aac o->(xh h cls msg tk).get? b=aac o:=λb o e=>aaj _ (aaj _ e)
section
variable{M:adF}{A:aaE}{E:aaf->aah->Prop}{s:aah}
theorem uN{α:Type}{cls msg:String}{Q:α->aah->Prop}(u:PlainExc cls)(B:A.handled=aam)(C:(aae msg).length<=agI)
  (h:E (.ref (s.heap.objs.size+1)) {s with heap:=xh s.heap cls (aae msg) s.toks,toks:=s.toks+1}):aao M A (aiB cls msg:Sem α) Q E s:=by
 unfold aiB;refine aad (wpAny_mkStr (aad ?_) C);unfold newExc ae4;refine aad (ab0 ?_)
 refine aad (m:=ae8 _ _) (aci (a:=aaI) (by simp only[ae8,u.first];rfl) ?_)
 refine aab (u.own ..) ?_;refine ab0 ?_;unfold raiseNew;refine aad (aiQ ?_);refine aab B ?_
 first
  | refine aes ?_
  | refine aad (aak (aes ?_))
 have:(s.heap.push {cls:= .type "tuple",data:= .seq #[aiM (aae msg) s.toks]}).objs.size=s.heap.objs.size+1:=act ..
 rw[<- this] at h;exact h
end
theorem nE{σ:S}{ρ:List aai}{s:aah}{cls:String}{msg:Str}{tk:Tok}{n:Nat}(rel:Rel K F σ ρ s)(C:cls ≠ "range" /\ cls ≠ "list_iterator" /\ cls ≠ "code"):
  ∃av,Rel K F σ av {s with heap:=xh s.heap cls msg tk,toks:=n}/\Ext F.mine ρ av s.heap (xh s.heap cls msg tk)/\hU K F ⟨cls,msg⟩ s.heap (.ref (s.heap.objs.size+1)) {s with heap:=xh s.heap cls msg tk,toks:=n}:=by
 have h1:(s.heap.push {cls:= .type "tuple",data:= .seq #[aiM msg tk]}).objs.size=s.heap.objs.size+1:=act ..
 have u:s.heap.get? (s.heap.objs.size+1)=aam:=aaQ (agh _)
 have D:(xh s.heap cls msg tk).get? (s.heap.objs.size+1)=aac {cls:= .type cls,data:= .fields #[.ref s.heap.objs.size,.none,.none,.none,.bool false,.none]}:=by
  unfold xh
  have:=aaA (s.heap.push {cls:= .type "tuple",data:= .seq #[aiM msg tk]}) (o:={cls:= .type cls,data:= .fields #[.ref s.heap.objs.size,.none,.none,.none,.bool false,.none]}) rfl
  rw[h1] at this;exact this
 have G:agF (xh s.heap cls msg tk) s.heap.objs.size #[.str msg tk]:=⟨_,aaj _ (aaA _ rfl),rfl,0,rfl⟩
 refine⟨ρ,rel.kept qo rfl rfl,Ext.kept qo,[s.heap.objs.size+1],λb B=>by refine aab (aan.mp B) ?_;exact u,λb B=>?_,C,_,_,tk,_,_,rfl,by simp,G,D,rfl,rfl,rfl,.inl ⟨rfl,rfl⟩⟩
 refine aab (aan.mp B) ?_;refine⟨?_,λq=>?_⟩
 ·cases e:K.base.get? (s.heap.objs.size+1) with
  | none=>rfl
  | some o=>have:=rel.base _ _ e;rw[u] at this;(injection this)
 ·refine qn (rel.ao _ q) λJ o e=>?_;rw[u] at e;(injection e)
open PySem.SeqAt PySem.MeetsSeq PySem.MeetsSeq3 in
section
variable{A:aaE}{E:aaf->aah->Prop}{s:aah}
end
end
section
variable{K:aW}{F:bd}
noncomputable def ix(n:Nat)(k:Int):Option Nat:=if 0<=k then(if k.toNat<n then aac k.toNat else aam) else(if -(n:Int)<=k then aac (k+n).toNat else aam)
theorem Wh{n j:Nat}{k:Int}(h:ix n k=aac j):seqIndex? k n=aac j:=by
 unfold ix at h;unfold seqIndex?
 split at h
 ·split at h
  ·(injection h with u;subst u)
   have h1:¬k<0:=by exact abD.mpr (by assumption)
   simp only[h1,if_false]
   rw[if_pos (by simp only[abW,decide_eq_true_eq];exact EH (by assumption) h1)]
  ·(injection h)
 ·split at h
  ·(injection h with u;subst u)
   have h1:k<0:=by exact aeh.mp (by assumption)
   simp only[h1,if_true]
   rw[if_pos (by simp only[abW,decide_eq_true_eq];exact EK (by assumption) h1)]
  ·(injection h)
theorem MX{n j:Nat}{k:Int}(h:ix n k=aac j)(u:n<=1000000): -1000000<=k/\k<1000000:=by
 unfold ix at h
 split at h
 ·split at h
  ·exact EM (by assumption) (by assumption) u
  ·(injection h)
 ·split at h
  ·exact EN (by assumption) u (by assumption)
  ·(injection h)
noncomputable def b0:V->V->M V
 | .obj l,.int k=>λσ=>match σ.st[l]? with
  | some (.lst vs)=>match ix vs.length k with
   | some j=>match vs[j]? with
    | some v=>.ok v σ
    | none=>.stuck
   | none=>.stuck
  | _=>.stuck
 | .tup vs,.int k=>λσ=>match ix vs.length k with
  | some j=>match vs[j]? with
   | some v=>.ok v σ
   | none=>.stuck
  | none=>.stuck
 | _,_=>λ_=>.stuck
theorem Wi{A:aaE}{s:aah}{a:aai}{ws:List aaf}{k:Int}{t:Tok}{j:Nat}{x:aaf}{Q:aaf->aah->Prop}{E:aaf->aah->Prop}(B:s.heap.IsList a ws.toArray)(D:ws.length<=1000000)
  (hk:ix ws.length k=aac j) (C:ws[j]?=aac x) (h:Q x s):aao (aar K.prog K.w) A (aiq (.ref a) (.int k t)) Q E s:=by
 have hr:=MX hk D
 by_cases h0:0<=k
 ·refine wpAny_getItem_list B h0 (by exact tQ hr) ?_ h
  unfold ix at hk;rw[if_pos h0] at hk
  split at hk
  ·(injection hk with u;subst u);simpa using C
  ·(injection hk)
 ·unfold ix at hk;rw[if_neg h0] at hk
  split at hk
  ·(injection hk with u;subst u)
   refine wpAny_getItem_list_neg B (by exact aeh.mp h0) (by simpa using ‹_›) (by exact tR hr) ?_ h
   simpa using C
  ·(injection hk)
theorem gcd(fk:aV F){σ:S}{ρ:List aai}{s:aah}{a b:V}{U W:aaf}(rel:Rel K F σ ρ s)(ra:Rep K s.heap ρ a U)(C:Rep K s.heap ρ b W){B u:Expr}
  (Y:∀o i,ahL u false o i=afn [o,i] (aiq o i)):Run K F (aiR B u U W) (Rep K) (b0 a b σ) ρ s:=by
 cases a with
 | obj l=>
  cases b with
  | int k=>
   refine xc (Rep.aH.mp C) λt GQ=>?_;obtain rfl:=GQ;unfold b0;dsimp only
   cases hc:σ.st[l]? with
   | none=>exact Run.stuck
   | some c=>
    cases c with
    | set _=>exact Run.stuck
    | aP _ _ _=>exact Run.stuck
    | cX=>exact Run.stuck
    | tab=>exact Run.stuck
    | dD _ _=>exact Run.stuck
    | lst vs=>
     dsimp only;refine wl (rel.list ra hc) λad ws n GR bk hL hr D=>?_;obtain rfl:=GR
     cases hi:ix vs.length k with
     | none=>exact Run.stuck
     | some j=>
      dsimp only
      cases G:vs[j]? with
      | none=>exact Run.stuck
      | some v=>
       refine ya (hr.get? G) λw J O=>?_
       refine Run.ok (aiZ hL.isList.typeIs slot_list_getitem.lookup (Wi hL.isList (by refine aab hr.length ?_;exact D) (by refine aab hr.length ?_;exact hi) J ?_) (Y _ _))
       exact(je ρ rel (Ext.refl ..) O)
  | _=>exact Run.stuck
 | tup vs=>
  cases b with
  | int k=>
   refine xc (Rep.aH.mp C) λt GS=>?_;clear C;obtain rfl:=GS;refine qz ra.fq λD ad ws GU Z hr=>?_;clear ra;obtain rfl:=GU;unfold b0;dsimp only
   cases hi:ix vs.length k with
   | none=>exact Run.stuck
   | some j=>
    dsimp only
    cases G:vs[j]? with
    | none=>exact Run.stuck
    | some v=>
     refine ya (hr.get? G) λw J O=>?_;have MY:=MX hi D
     refine Run.ok (aiZ Z.typeIs slot_tuple_getitem.lookup (aiV Z (by exact tR MY) (by exact tQ MY) (j:=j) (by(refine aab aaH ?_;refine aab hr.length ?_);exact Wh hi) (by simpa using J) ?_) (Y _ _))
     exact(je ρ rel (Ext.refl ..) O)
  | _=>exact Run.stuck
 | _=>cases b<;>exact Run.stuck
theorem yi(G:aV F){B u:Expr}{C D:M V}(pos:Pos)(J:aU K F B C)(hi:aU K F u D)
  (O:∀o i,ahL u false o i=afn [o,i] (aiq o i):=by intro _ _;rfl) :
  aU K F (.Subscript B u pos) (do let o <- C;let i <- D;b0 o i):=by
 intro σ ρ s rel;simp only[aiC];refine Run.bind (J σ ρ s rel) λa U ai af wa W Y aL ra=>?_;refine Run.bind (Run.holding (hi U ai af Y)) λb ar aC ay wb W Z aX rb=>?_;exact Run.standAt (gcd G Z (ra.mono aX) rb O)
theorem Wj{A:aaE}{s:aah}{a:aai}{items:Array aaf}{n:Nat}{k:Int}{t:Tok}{v:aaf}{Q:Unit->aah->Prop}{E:aaf->aah->Prop}(u:IsL s.heap a items n)
  (h0:0<=k) (C:k<2^63) (G:k<items.size)
  (D:Q () {s with heap:=s.heap.update a (aaG (·.setIfInBounds k.toNat v))}) :
  aao (aar K.prog K.w) A (air (.ref a) (.int k t) v) Q E s:=by
 have B:s.TypeIs (.ref a) "list" :=⟨_,u,rfl⟩
 unfold air
 try with_reducible refine aaN ?_
 first | refine aad (aak ?_) | skip
 refine aad (wpAny_sequenceKey B (by decide) ?_)
 refine aad (abo (name:=aae "__setitem__") B ahx
  (ab5 ahx B entry_list_setitem ?_ (args_list_setitem _ _ _)))
 show aao _ _ (aiO (.int k t) >>= _) _ _ s;refine aad (wpAny_listSubscript_int (fitsIndex_of h0 C) ?_);clear C;refine xc (acF h0) λj J=>?_;clear h0;obtain rfl:=J
 have O:j<items.size:=by exact aa7.mp G
 have U:items[j]?=aac items[j]:=Array.getElem?_eq_getElem O;show aao _ _ ((seqItemAt a j >>= λr=>pure (r.map (j,·))) >>= _) _ _ s;refine aad (aad (wpAny_seqItemAt u rfl (aak ?_)));refine aab U ?_;show aao _ _ (setSeqItemAt a j v >>= _) _ _ s;refine aad (wpAny_setSeqItemAt u rfl ?_)
 first
  | exact aad (aak (aak (ja .none rfl (aak D))))
  | exact aak ⟨.none,rfl,aak D⟩
noncomputable def fc:V->V->V->M Unit
 | .obj l,.int k,v=>λσ=>match σ.st[l]? with
  | some (.lst vs)=>if l≠0/\0<=k/\k.toNat<vs.length then .ok () {σ with st:=σ.st.set l (.lst (vs.set k.toNat v))} else .stuck
  | _=>.stuck
 | _,_,_=>λ_=>.stuck
theorem Wk(fk:aV F){σ:S}{ρ:List aai}{s:aah}{a b v:V}{B C u:aaf}(rel:Rel K F σ ρ s)(ra:Rep K s.heap ρ a B)(D:Rep K s.heap ρ b C)(O:Rep K s.heap ρ v u):
  Run K F (air B C u) hV (fc a b v σ) ρ s:=by
 cases a with
 | obj l=>
  cases b with
  | int k=>
   refine xc (Rep.aH.mp D) λt U=>?_;obtain rfl:=U;unfold fc;dsimp only
   cases W:σ.st[l]? with
   | none=>exact Run.stuck
   | some c=>
    cases c with
    | set _=>exact Run.stuck
    | aP _ _ _=>exact Run.stuck
    | cX=>exact Run.stuck
    | tab=>exact Run.stuck
    | dD _ _=>exact Run.stuck
    | lst vs=>
     dsimp only;refine wl (rel.list ra W) λad ws n Y Z hL hr G=>?_;clear ra;obtain rfl:=Y
     by_cases hk:l≠0/\0<=k/\k.toNat<vs.length
     ·refine aab (if_pos hk) ?_;refine xc (acF hk.2.1) λj GY=>?_;clear D;obtain rfl:=GY
      have J:j<vs.length:=by simpa using hk.2.2
      refine Run.ok (Wj hL hk.2.1 (by exact ES J G) (by(refine aab aaH ?_;refine aab hr.length ?_);exact aa7.mpr J) ?_)
      obtain⟨bh,x'⟩:=rel.upd (s':={s with heap:=s.heap.update ad (aaG (·.setIfInBounds j u))}) (vs:=vs.set j v) (ws:=ws.set j u) (n:=n) Z hk.1 (abN ..) (by
       have:=hL.update (·.setIfInBounds j u)
       simpa using this) (hr.set j O) (by simpa using G) rfl rfl
      exact(je ρ bh x' trivial)
     ·refine aab (if_neg hk) ?_;exact Run.stuck
  | _=>exact Run.stuck
 | _=>exact Run.stuck
theorem Wl(o i:Expr)(pos:Pos)(env:Env)(w:aaf):adJ (.Subscript o i pos) env w=(do
  let u <- holding [w] (abe o env)
  let B <- holding [w,u] (abe i env)
  standAt pos
  holding [w,u,B] (air u B w)
  release (match i with | .Slice _ _ aam _=>[B,w,u] | _=>[w,u,B]) []):=rfl
theorem uP(O:aV F){o i:Expr}{D G:M V}(pos:Pos)(U:aU K F o D)(hi:aU K F i G):dz K F (.Subscript o i pos) (λv=>do let a <- D;let b <- G;fc a b v):=by
 intro σ ρ s v w rel W;refine aab (Wl ..) ?_;refine Run.bind (Run.holding (U σ ρ s rel)) λa Y ai af wa B Z aL ra=>?_;refine Run.bind (Run.holding (hi Y ai af Z)) λb C aC ay wb B aB J rb=>?_;refine Run.standAt ?_;have key:=Wk O aB (ra.mono J) rb ((W.mono aL).mono J)
 have e:fc a b v C=(fc a b v >>= λu=>(pure u:M Unit)) C:=by
  refine aab (M.ap ..) ?_;cases fc a b v C<;>rfl
 refine aab e ?_;refine Run.bind (Run.holding key) λu aO bt bg B B aY bR B=>?_;exact Run.ok (wpAny_release ⟨bt,aY,Ext.refl ..,trivial⟩)
end
section
variable{K:aW}{F:bd}
noncomputable def bw{α β:Type}(f:α->Option β):List α->Option (List β)
 | []=>aac []
 | a::r=>match f a,bw f r with
  | some b,aac bs=>aac (b::bs)
  | _,_=>aam
noncomputable def toD(st:jb):Nat->V->Option PyData
 | 0,_=>aam
 | n+1,v=>match v with
  | .none=>aac .none
  | .bool b=>aac (.bool b)
  | .int i=>aac (.int i)
  | .str x=>if ajb x then aac (.str x) else aam
  | .tup vs=>(bw (toD st n) vs).map .tuple
  | .obj l=>match st[l]? with
   | some (.lst vs)=>(bw (toD st n) vs).map .list
   | _=>aam
  | _=>aam
theorem C0{α β:Type}{f:α->Option β}{a:α}{r:List α}{l:List β}(h:bw f (a::r)=aac l):∃b bs,f a=aac b/\bw f r=aac bs/\l=b::bs:=by
 have h:(match f a,bw f r with | some b,aac bs=>aac (b::bs) | _,_=>aam)=aac l:=h
 cases h1:f a with
 | none=>rw[h1] at h;(injection h)
 | some b=>
  cases h2:bw f r with
  | none=>rw[h1,h2] at h;(injection h)
  | some bs=>rw[h1,h2] at h;(injection h with u;subst u);exact(ke b bs rfl rfl rfl)
theorem MZ{α β:Type}{f:α->Option β}{a:α}{r:List α}{b:β}{bs:List β}(h1:f a=aac b)(h2:bw f r=aac bs):bw f (a::r)=aac (b::bs):=by
 show(match f a,bw f r with | some b,aac bs=>aac (b::bs) | _,_=>aam)=_
 (refine aab h1 ?_;exact aab h2 rfl)
theorem GZ{h:aat}{ρ:List aai}{f:V->Option PyData}{n:Nat}
  (u:∀v w d,f v=aac d->Rep K h ρ v w->∃as,aco h w d as/\d.canLay0=true/\d.depth<=n):∀(vs:List V) (ws:List aaf) (ds:List PyData),bw f vs=aac ds->aj K h ρ vs ws->
  ∃as,agK h ws ds as/\abO ds=true/\acW ds<=n
 | [],ws,ds,e,r=>by
  (injection e with B;subst B)
  refine aab (aj.a7.mp r) ?_;exact(je ([]) .nil rfl (aaL _))
 | v::vs,ws,ds,e,r=>by
  refine gc (C0 e) λb bs C D G=>?_;obtain rfl:=G;refine gc (aj.aG.mp r) λw J O U W=>?_;obtain rfl:=O;refine xd (u v w b C U) λas Y Z q3=>?_;refine xd (GZ u vs J bs D W) λuQ p1 p2 p3=>?_;refine(je (as++uQ) (.cons Y p1) ?_ ?_)
  ·simp[abO,Z,p2]
  ·simp[acW];exact EU q3 p3
theorem jw{st:jb}{ρ:List aai}{s:aah}(g:GRel K st ρ s):∀(n:Nat) (v:V) (w:aaf) (d:PyData),toD st n v=aac d->Rep K s.heap ρ v w->
  ∃as,aco s.heap w d as/\d.canLay0=true/\d.depth<=n
 | 0,v,w,d,e,_=>by(injection e)
 | n+1,v,w,d,e,r=>by
  cases v with
  | none=>(injection e with u;subst u);refine aab (Rep.bx.mp r) ?_;exact(je ([]) .none rfl (aaL _))
  | bool b=>(injection e with u;subst u);refine aab (Rep.dE.mp r) ?_;exact(je ([]) (.bool b) rfl (aaL _))
  | int i=>(injection e with u;subst u);refine xc (Rep.aH.mp r) λt W=>?_;obtain rfl:=W;exact(je ([]) (.int i t) rfl (aaL _))
  | str x=>
   have e:(if ajb x=true then aac (PyData.str x) else aam)=aac d:=e
   by_cases D:ajb x=true
   ·rw[if_pos D] at e;(injection e with u;subst u);refine xc (Rep.dj.mp r) λt Y=>?_;obtain rfl:=Y;exact(je ([]) (.str x t) D (aaL _))
   ·rw[if_neg D] at e;(injection e)
  | tup vs=>
   have e:(bw (toD st n) vs).map ahg=aac d:=e
   cases C:bw (toD st n) vs with
   | none=>rw[C] at e;(injection e)
   | some ds=>
    rw[C] at e;(injection e with u;subst u)
    refine qz r.fq λZ a ws G4 U rl=>?_;obtain rfl:=G4;refine yj U λo h1 h2 k h3=>?_
    try clear U
    refine xd (GZ (K:=K) (n:=n) (λv w d e r=>jw g n v w d e r) vs ws ds C rl) λas G J O=>?_
    exact(je as (.tuple h1 h2 h3 (by simpa using G)) J (by simp[ahh];exact O))
  | obj l=>
   have e:(match st[l]? with | some (.lst vs)=>(bw (toD st n) vs).map aet | _=>aam)=aac d:=e
   cases B:st[l]? with
   | none=>rw[B] at e;(injection e)
   | some c=>
    cases c with
    | set _=>rw[B] at e;(injection e)
    | aP _ _ _=>rw[B] at e;(injection e)
    | cX=>rw[B] at e;(injection e)
    | tab=>rw[B] at e;(injection e)
    | dD _ _=>rw[B] at e;(injection e)
    | lst vs=>
     rw[B] at e;dsimp only at e
     cases C:bw (toD st n) vs with
     | none=>rw[C] at e;(injection e)
     | some ds=>
      rw[C] at e;(injection e with u;subst u)
      refine ya (Rep.aN.mp r) λa bk G5=>?_;obtain rfl:=G5;refine j0 (g.cell l a _ bk B) λZ ws k hL rl=>?_;refine xd (GZ (K:=K) (n:=n) (λv w d e r=>jw g n v w d e r) vs ws ds C rl) λas G J O=>?_
      exact(je (a::as) (.list hL rfl rfl (by simpa using G)) J (by simp[ahh];exact O))
  | fn x=>(injection e)
  | ch a b c=>(injection e)
  | gN=>(injection e)
noncomputable def eG(a b:V):M V:=λσ=>match toD σ.st 6 a,toD σ.st 6 b with
 | some d,aac u=>.ok (.bool (abb d u)) σ
 | _,_=>.stuck
noncomputable def G6(a b:V):M V:=λσ=>match toD σ.st 6 a,toD σ.st 6 b with
 | some d,aac u=>.ok (.bool (!PyData.eqv d u)) σ
 | _,_=>.stuck
theorem ju:n7 K .Eq eG:=by
 intro F u σ ρ s a b B C rel ra D;unfold eG
 cases G:toD σ.st 6 a with
 | none=>exact Run.stuck
 | some d=>
  cases J:toD σ.st 6 b with
  | none=>exact Run.stuck
  | some O=>
   refine xd (jw rel.toGRel 6 a B d G ra) λas U W p1=>?_;refine xd (jw rel.toGRel 6 b C O J D) λbs Y Z p2=>?_
   exact Run.ok (SeqAt.compareEq_reads U Y W Z (by have:=u.units;exact tS this p2) ⟨ρ,rel,Ext.refl ..,Rep.bool _⟩)
noncomputable def V.isNone:V->Bool
 | .none=>true
 | _=>false
noncomputable def oA:V->V->M V
 | v,.none=>λσ=>.ok (.bool v.isNone) σ
 | .int _,.obj _=>λσ=>.ok (.bool false) σ
 | .obj l,.obj k=>λσ=>.ok (.bool (decide (l=k))) σ
 | _,_=>λ_=>.stuck
noncomputable def pj:V->V->M V
 | v,.none=>λσ=>.ok (.bool (!v.isNone)) σ
 | .obj l,.obj k=>λσ=>.ok (.bool (!decide (l=k))) σ
 | _,_=>λ_=>.stuck
theorem M0{h:aat}{ρ:List aai}{v:V}{w:aaf}(r:Rep K h ρ v w):(w==aaI)=v.isNone:=by
 cases v with
 | none=>rw[Rep.bx.mp r];rfl
 | bool b=>rw[Rep.dE.mp r];rfl
 | int i=>obtain⟨t,rfl⟩:=Rep.aH.mp r;rfl
 | str x=>obtain⟨t,rfl⟩:=Rep.dj.mp r;rfl
 | tup vs=>obtain⟨_,a,ws,rfl,_⟩:=r.fq;rfl
 | obj l=>obtain⟨a,_,rfl⟩:=Rep.aN.mp r;rfl
 | fn x=>obtain⟨_,a,rfl⟩:=r;rfl
 | ch a b c=>obtain⟨a,_,_,_,rfl,_⟩:=Rep.cW.mp r;rfl
 | gN=>obtain⟨a,_,_,_,rfl,_⟩:=Rep.eD.mp r;rfl
theorem w5.noTuple{o:Obj}(c:w5 o):o.cls≠.type "tuple" :=by
 rcases c with⟨c,_⟩ | ⟨c,_⟩ | ⟨c | c,_⟩ | ⟨c,_⟩ | ⟨c,_⟩<;>rw[c]<;>decide
theorem G7:n7 K .Is oA:=by
 intro F fk σ ρ s a b wa wb rel ra B
 cases b with
 | none=>
  refine aab (Rep.bx.mp B) ?_
  have e:oA a .none σ = .ok (.bool a.isNone) σ:=by cases a<;>rfl
  refine aab e ?_;refine Run.ok (is_none ⟨ρ,rel,Ext.refl ..,?_⟩);refine aab (M0 ra) ?_;exact Rep.bool _
 | obj k=>
  cases a with
  | obj l=>
   refine ya (Rep.aN.mp ra) λx C G=>?_;obtain rfl:=G;refine ya (Rep.aN.mp B) λy u J=>?_;obtain rfl:=J;show Run K F _ (Rep K) (.ok (V.bool (decide (l=k))) σ) ρ s
   by_cases D:l=k
   ·subst D
    rw[C] at u;(injection u with O;subst O)
    refine Run.ok (wpAny_is_ref_self ⟨ρ,rel,Ext.refl ..,?_⟩);refine aab (decide_eq_true rfl) ?_;exact Rep.bool _
   ·have U:x≠y:=λe=>D (CM rel.nodup (e▸C) u);refine ya (rel.toGRel.alive (aaM C)) λox W Y=>?_;refine ya (rel.toGRel.alive (aaM u)) λoy Z cy=>?_;refine Run.ok (wpAny_is_ref_other U W Z Y.noTuple ⟨ρ,rel,Ext.refl ..,?_⟩);refine aab (decide_eq_false D) ?_;exact Rep.bool _
  | int i=>
   refine xc (Rep.aH.mp ra) λt Ha=>?_;clear ra;obtain rfl:=Ha;refine ya (Rep.aN.mp B) λy u Hb=>?_;clear B;obtain rfl:=Hb
   show Run K F (do return .bool (<- isSame (.int i t) (.ref y))) (Rep K) _ ρ s
   exact Run.ok (aad (aak (aak (je ρ rel (Ext.refl ..) (Rep.bool _)))))
  | _=>exact Run.stuck
 | _=>cases a<;>exact Run.stuck
theorem Hc:n7 K .IsNot pj:=by
 intro F fk σ ρ s a b wa wb rel ra D
 cases b with
 | none=>
  refine aab (Rep.bx.mp D) ?_
  have e:pj a .none σ = .ok (.bool (!a.isNone)) σ:=by cases a<;>rfl
  refine aab e ?_;refine Run.ok (isNot_none ⟨ρ,rel,Ext.refl ..,?_⟩);refine aab (M0 ra) ?_;exact Rep.bool _
 | obj k=>
  cases a with
  | obj l=>
   refine ya (Rep.aN.mp ra) λx B G=>?_;clear ra;obtain rfl:=G;refine ya (Rep.aN.mp D) λy u J=>?_;obtain rfl:=J;show Run K F _ (Rep K) (.ok (V.bool (!decide (l=k))) σ) ρ s
   by_cases C:l=k
   ·subst C
    rw[B] at u;(injection u with O;subst O)
    refine Run.ok (wpAny_isNot_ref_self ⟨ρ,rel,Ext.refl ..,?_⟩);refine aab (decide_eq_true rfl) ?_;exact Rep.bool _
   ·have U:x≠y:=λe=>C (CM rel.nodup (e▸B) u);refine ya (rel.toGRel.alive (aaM B)) λox W Y=>?_;refine ya (rel.toGRel.alive (aaM u)) λoy Z cy=>?_;refine Run.ok (wpAny_isNot_ref_other U W Z Y.noTuple ⟨ρ,rel,Ext.refl ..,?_⟩);refine aab (decide_eq_false C) ?_;exact Rep.bool _
  | _=>exact Run.stuck
 | _=>cases a<;>exact Run.stuck
noncomputable def dI:PyData->Option Int
 | .int i=>aac i
 | _=>aam
noncomputable def dL:PyData->Option (List PyData)
 | .list xs=>aac xs
 | _=>aam
noncomputable def dT:PyData->Option (List PyData)
 | .tuple xs=>aac xs
 | _=>aam
theorem M1{d:PyData}{i:Int}(h:dI d=aac i):d = .int i:=by
 cases d with
 | int j=>exact congrArg _ (abH h)
 | _=>(injection h)
theorem C3{d:PyData}{i:List PyData}(h:dL d=aac i):d = .list i:=by
 cases d with
 | list j=>exact congrArg _ (abH h)
 | _=>(injection h)
theorem M2{d:PyData}{i:List PyData}(h:dT d=aac i):d = .tuple i:=by
 cases d with
 | tuple j=>exact congrArg _ (abH h)
 | _=>(injection h)
noncomputable def fx(x y:PyData):Option Bool:=(dI x).bind λi=>(dI y).map λj=>decide (i<j)
theorem M3{x y:PyData}{r:Bool}(e:fx x y=aac r):∃i j,x = .int i/\y = .int j/\decide (i<j)=r:=by
 refine ya (afW.mp e) λi hi e=>?_;refine ya (agk.mp e) λj u e=>?_;exact(ke i j (M1 hi) (M1 u) e)
noncomputable def oB(f:PyData->PyData->Option Bool)(d:Bool):List PyData->List PyData->Option Bool
 | [],_=>aac d
 | x::xs,u=>match u with
  | []=>aac d
  | y::u=>if abb x y then oB f d xs u else f x y
noncomputable def C4(t:PyData->Option (List PyData))(f:List PyData->List PyData->Option Bool)(g:PyData->PyData->Option Bool)(x y:PyData):Option Bool:=match t x with
 | some xs=>(t y).bind (f xs)
 | none=>g x y
theorem Hf{t:PyData->Option (List PyData)}{f:List PyData->List PyData->Option Bool}{g:PyData->PyData->Option Bool}{x y:PyData}{r:Bool}(e:C4 t f g x y=aac r):(∃xs u,t x=aac xs/\t y=aac u/\f xs u=aac r)\/g x y=aac r:=by
 have e:(match t x with | some xs=>(t y).bind (f xs) | none=>g x y)=aac r:=e
 cases h:t x with
 | none=>rw[h] at e;exact .inr e
 | some xs=>rw[h] at e;refine ya (afW.mp e) λu B e=>?_;exact .inl (ke xs u rfl B e)
noncomputable def kG:PyData->PyData->Option Bool:=C4 dL (λxs u=>oB fx (decide (xs.length<u.length)) xs u) fx
noncomputable def dc:PyData->PyData->Option Bool:=C4 dT (λxs u=>oB kG (decide (xs.length<u.length)) xs u) kG
end
section
variable{K:aW}{F:bd}
open PySem.SeqAt PySem.MeetsSeq PySem.MeetsSeq3
noncomputable def fe(A:aaE)(s:aah)(y x:aaf)(b:Bool):Prop :=
 ∀(prog:aa0) (w:abC) (E:aaf->aah->Prop) (Q:aaf->aah->Prop),Q (.bool b) s->aao (aar prog w) A (adC .Lt y x) Q E s
noncomputable def oC(P:aaf->aaf->Bool->Prop)(A:aaE)(s:aah)(u:Bool):List (aaf×aaf)->Bool->Prop
 | [],r=>r=u
 | (x,y)::B,r => ∃e,EqAt A s x y e/\(if e=true then oC P A s u B r else P x y r)
noncomputable def sY(A:aaE)(s:aah)(u:Bool):List (aaf×aaf)->Bool->Prop:=oC (fe A s) A s u
theorem Wm(l b:aai)(items B:Array aaf)(n J:Nat)(O U:Option aai)(W Y:Array (Option aaf))(r:Bool):
  adQ (abg.«tuple.__lt__» ⟨[.ref l,.ref b],[]⟩)
   (λA R s=>s.heap.get? l=aac {cls:= .type "tuple",dict:=O,data:= .seq items n,slots:=W}/\s.heap.get? b=aac {cls:= .type "tuple",dict:=U,data:= .seq B J,slots:=Y}/\
    sY A.in1 s (decide (items.size<B.size)) (items.toList.zip B.toList) r/\R (.ok (.ret (.bool r))) s) :=
 .of_wp λprog w A R s h=>by
  obtain⟨G,g,d,tk,os⟩:=s;refine kh h ?_;try clear h;intro Z hb he h
  have f2:=afP
  wp_walk using abI Z,abI hb,ahY _ (λu b s'=>b.1=aam/\s'=⟨G,g,d,tk,os⟩/\sY A.in1 ⟨G,g,d,tk,os⟩ (decide (items.size<B.size)) u r) _
  case turn=>
   rintro⟨y,x⟩ u b s' ⟨D,rfl,e,rj,C⟩
   refine aad (rj prog w _ _ ?_)
   cases e with
   | true=>
    simp only[if_true] at C
    wp_walk
    exact⟨rfl,rfl,C⟩
   | false=>
    simp only[aaW,if_false] at C;simp only[adK,if_true];refine aad (abf (aad (C prog w _ _ ?_)))
    wp_walk
    exact(ja _ rfl h)
  case fin=>
   rintro⟨b1,b2⟩ s' ⟨D,rfl,Hg⟩
   simp only at D;subst D
   wp_walk
   have:r=decide (items.size<B.size):=Hg;refine(ja _ rfl ?_);rw[this] at h;exact h
  case h=>exact⟨rfl,rfl,he⟩
theorem Wn(l b:aai)(items u:Array aaf)(n Y:Nat)(Z gH:Option aai)(sl gI:Array (Option aaf))(r:Bool)(k:Nat):
  ∀i:Nat,min items.size u.size-i=k->adQ (abg.«list.__eq__.loop» ⟨[.ref l,.ref b,aaV i,aaV 0],[]⟩)
   (λA R s=>s.heap.get? l=aac {cls:= .type "list",dict:=Z,data:= .seq items n,slots:=sl}/\s.heap.get? b=aac {cls:= .type "list",dict:=gH,data:= .seq u Y,slots:=gI}/\
    sY A.in1 s (decide (items.size<u.size)) ((items.toList.zip u.toList).drop i) r/\R (.ok (.ret (.bool r))) s):=by
 induction k with
 | zero=>
  intro i hk prog w A R s h
  obtain⟨hp,g,d,tk,os⟩:=s;refine kh h ?_;try clear h;intro B C D h
  show aao _ _ (acn (.ref l) >>= _) _ _ _;refine aad (aa2 B rfl (aad (aa2 C rfl ?_)))
  have hd:(items.toList.zip u.toList).drop i=[]:=by simp;exact tT hk
  rw[hd] at D;have hr:r=decide (items.size<u.size):=D
  have Hh:items[((i:Nat):Int).toNat]?=aam\/u[((i:Nat):Int).toNat]?=aam:=by
   simp;exact tU hk
  rw[hr] at h
  rcases Hh with hi | hi
  ·refine aab hi ?_;exact aad (aa2 B rfl (aad (aa2 C rfl (aak h))))
  ·refine aab hi ?_
   cases items[((i:Nat):Int).toNat]? <;> exact aad (aa2 B rfl (aad (aa2 C rfl (aak h))))
 | succ k ih=>
  intro i hk prog w A R s h
  obtain⟨hp,g,d,tk,os⟩:=s;refine kh h ?_;try clear h;intro B C D h
  show aao _ _ (acn (.ref l) >>= _) _ _ _;refine aad (aa2 B rfl (aad (aa2 C rfl ?_)));have J:i<items.size:=VC hk;have O:i<u.size:=VD hk
  have U:items[((i:Nat):Int).toNat]?=aac items[i]:=by simp[J]
  have W:u[((i:Nat):Int).toNat]?=aac u[i]:=by simp[O]
  have hd:(items.toList.zip u.toList).drop i=(items[i],u[i])::(items.toList.zip u.toList).drop (i+1):=by
   rw[afz (by simp;exact tV J O)];simp
  have hc:((i:Int)+1)=((i+1:Nat):Int):=by push_cast;rfl
  rw[hd] at D;refine ya D λe rj G=>?_
  try clear D
  (refine aab U ?_;refine aab W ?_)
  refine aad (rj prog w _ _ ?_)
  cases e with
  | true=>
   simp only[if_true] at G
   wp_walk
   refine aab hc ?_
   exact⟨ac2 plain_eq_loop _,acX entry_eq_loop (by
    refine aab (ab9 plain_eq_loop _) ?_
    exact ih (i+1) (VB hk) prog w A R _ ⟨B,C,G,h⟩)⟩
  | false=>
   simp only[aaW,if_false] at G ⊢;refine aad (aa2 B rfl (aad (aa2 C rfl ?_)))
   (refine aab U ?_;refine aab W ?_)
   refine aad (G prog w _ _ ?_)
   wp_walk
   exact h
theorem M4(l b:aai)(items u:Array aaf)(n B:Nat)(C D:Option aai)(G J:Array (Option aaf))(r:Bool):
  adQ (abg.«list.__lt__» ⟨[.ref l,.ref b],[]⟩)
   (λA R s=>s.heap.get? l=aac {cls:= .type "list",dict:=C,data:= .seq items n,slots:=G}/\s.heap.get? b=aac {cls:= .type "list",dict:=D,data:= .seq u B,slots:=J}/\
    sY A.in1 s (decide (items.size<u.size)) (items.toList.zip u.toList) r/\R (.ok (.ret (.bool r))) s):=by
 intro prog w A R s h
 obtain⟨Y,g,d,tk,os⟩:=s;refine kh h ?_;try clear h;intro O U W h
 have Z:=agl
 wp_walk using abI O,abI U
 exact⟨ac2 plain_eq_loop _,acX entry_eq_loop (by
  refine aab (ab9 plain_eq_loop _) ?_
  exact Wn l b items u n B C D G J r _ 0 rfl prog w A R _ ⟨O,U,by simpa using W,h⟩)⟩
theorem fe.lists{A:aaE}{s:aah}{l b:aai}{items C:Array aaf}{r:Bool}(W:s.heap.IsList l items)(Y:s.heap.IsList b C)(Z:A.units<acw)
  (he:sY A.in1 s (decide (items.size<C.size)) (items.toList.zip C.toList) r):fe A s (.ref l) (.ref b) r:=λprog w E Q h=>by
 refine yj (id W) λHi G J n hd=>?_;refine wrap λD u=>?_;obtain⟨cls,dd,data,sl⟩:=Hi;refine u ?_;clear u D;refine yj (id Y) λHj O U n2 B=>?_;refine wrap λD u=>?_;obtain⟨oD,gH,data2,gI⟩:=Hj;refine u ?_;clear u D;simp only at J hd U B;subst J hd U B
 exact adE (op:= .Lt) ⟨_,G,rfl⟩ ⟨_,O,rfl⟩ aeV agB (agm _ _) (M4 l b items C n n2 dd gH sl gI r)
  ⟨G,O,he,show agQ r≠adT/\Q (.bool r) s from⟨(λx=>nomatch x),h⟩⟩ Z
theorem fe.tuples{A:aaE}{s:aah}{l b:aai}{items C:Array aaf}{r:Bool}(W:s.heap.IsTuple l items)(Y:s.heap.IsTuple b C)(Z:A.units<acw)
  (he:sY A.in1 s (decide (items.size<C.size)) (items.toList.zip C.toList) r):fe A s (.ref l) (.ref b) r:=λprog w E Q h=>by
 refine yj (id W) λHk G J n hd=>?_;refine wrap λD u=>?_;obtain⟨cls,dd,data,sl⟩:=Hk;refine u ?_;clear u D;refine yj (id Y) λHl O U n2 B=>?_;refine wrap λD u=>?_;obtain⟨oD,gH,data2,gI⟩:=Hl;refine u ?_;clear u D;simp only at J hd U B;subst J hd U B
 exact adE (op:= .Lt) ⟨_,G,rfl⟩ ⟨_,O,rfl⟩ PySem.F.slot_tuple_lt PySem.F.entry_tuple_lt (PySem.F.args_tuple_lt_2 _ _) (Wm l b items C n n2 dd gH sl gI r)
  ⟨G,O,he,show agQ r≠adT/\Q (.bool r) s from⟨(λx=>nomatch x),h⟩⟩ Z
theorem Hm{B C:PyData}{A:aaE}{s:aah}{a b:aaf}{as bs:List aai}{r:Bool}(ra:aco s.heap a B as)(D:aco s.heap b C bs)(e:fx B C=aac r):fe A s a b r:=by
 refine gc (M3 e) λi j G J O=>?_;obtain rfl:=G;obtain rfl:=J;obtain rfl:=O;refine ya (adX ra) λt U W=>?_;obtain rfl:=U;refine ya (adX D) λu Y W=>?_;obtain rfl:=Y;exact λprog w E Q h=>lt_int h
theorem C5{P:aaf->aaf->Bool->Prop}{f:PyData->PyData->Option Bool}{A:aaE}{s:aah}{r d:Bool}(Y:∀x y a b as bs,aco s.heap a x as->aco s.heap b y bs->x.canLay0=true->y.canLay0=true->A.units+min x.depth y.depth<acw->f x y=aac r->P a b r):∀(xs u:List PyData) (vs ws:List aaf) (as bs:List aai),agK s.heap vs xs as->agK s.heap ws u bs->abO xs=true->abO u=true->
  A.units+min (acW xs) (acW u)<acw->oB f d xs u=aac r->oC P A s d (vs.zip ws) r:=by
 intro xs
 induction xs with
 | nil=>
  intro u vs ws as bs ra J C D G e;refine ye (aey ra) λZ B=>?_;obtain rfl:=Z;exact(abH e).symm
 | cons x xs ih=>
  intro u vs ws as bs ra J C D G e;refine gp (aeo ra) λv vs B B Ht B O Hu=>?_;obtain rfl:=Ht
  cases u with
  | nil=>
   refine ye (aey J) λHv B=>?_;obtain rfl:=Hv;exact(abH e).symm
  | cons y u=>
   refine gp (aeo J) λw ws B B Hw B U Hx=>?_;obtain rfl:=Hw
   have C:=acA.mp (show(x.canLay0&&abO xs)=true from C)
   have D:=acA.mp (show(y.canLay0&&abO u)=true from D)
   refine(ja (abb x y) (eqAt_reads x y A s _ _ _ _ O U C.1 D.1 (room_head G)) ?_)
   have e:(if abb x y=true then oB f d xs u else f x y)=aac r:=e
   by_cases W:abb x y=true
   ·rw[if_pos W] at e ⊢;exact ih _ _ _ _ _ Hu Hx C.2 D.2 (room_tail G) e
   ·rw[if_neg W] at e ⊢;exact Y _ _ _ _ _ _ O U C.1 D.1 (room_head G) e
theorem Hy(u B:PyData){A:aaE}{s:aah}{a b:aaf}{as bs:List aai}{r:Bool}(ra:aco s.heap a u as)(C:aco s.heap b B bs)(O:u.canLay0=true)(U:B.canLay0=true)
  (G:A.units+min u.depth B.depth<acw) (e:kG u B=aac r):fe A s a b r:=by
 rcases Hf e with⟨xs,ys,h1,h2,e⟩ | e
 ·obtain rfl:=C3 h1;obtain rfl:=C3 h2;refine gd (adk ra) λa l bs W D Y rl=>?_;obtain rfl:=W;refine gd (adk C) λb m cs Z D hm J=>?_;obtain rfl:=Z;have q:=C5 (P:=fe A.in1 s) (A:=A.in1) (λx y a b as bs ra C D D D e=>Hm ra C e) _ _ _ _ _ _ rl J O U (room_in G) e;rw[<- ReadsAll.length _ _ _ rl,<- ReadsAll.length _ _ _ J] at q;exact fe.lists Y hm (room_here G) q
 ·exact Hm ra C e
theorem Wo(u B:PyData)(A:aaE)(s:aah)(a b:aaf)(as bs:List aai)(r:Bool)(ra:aco s.heap a u as)(D:aco s.heap b B bs)(G:u.canLay0=true)(J:B.canLay0=true)
  (C:A.units+min u.depth B.depth<acw) (e:dc u B=aac r):fe A s a b r:=by
 rcases Hf e with⟨xs,ys,h1,h2,e⟩ | e
 ·obtain rfl:=M2 h1;obtain rfl:=M2 h2;refine gc (ahy ra) λa l U W rl=>?_;obtain rfl:=U;refine gc (ahy D) λb m Y Z O=>?_;obtain rfl:=Y;have q:=C5 (P:=fe A.in1 s) (A:=A.in1) (λx y a b as bs ra D G J C e=>Hy x y ra D G J C e) _ _ _ _ _ _ rl O G J (room_in C) e;rw[<- ReadsAll.length _ _ _ rl,<- ReadsAll.length _ _ _ O] at q;exact fe.tuples W Z (room_here C) q
 ·exact Hy u B ra D G J C e
noncomputable def ltV(a b:V):M V:=λσ=>match toD σ.st 6 a,toD σ.st 6 b with
 | some d,aac u=>match dc d u with
  | some r=>.ok (.bool r) σ
  | none=>.stuck
 | _,_=>.stuck
theorem rn:n7 K .Lt ltV:=by
 intro F D σ ρ s a b B C rel ra G;unfold ltV
 cases J:toD σ.st 6 a with
 | none=>exact Run.stuck
 | some d=>
  cases O:toD σ.st 6 b with
  | none=>exact Run.stuck
  | some u=>
   refine xd (jw rel.toGRel 6 a B d J ra) λas U W p1=>?_;refine xd (jw rel.toGRel 6 b C u O G) λbs Y Z p2=>?_;have hu:=D.units;dsimp only
   cases e3:dc d u with
   | none=>exact Run.stuck
   | some r=>exact Run.ok (Wo d u F.A s B C as bs r U Y W Z (by exact tS hu p2) e3 K.prog K.w _ _ ⟨ρ,rel,Ext.refl ..,Rep.bool _⟩)
end
section
variable{K:aW}{F:bd}
noncomputable def dM:V->V->M V
 | .int a,.int b=>λσ=>.ok (.int (a+b)) σ
 | .obj l,.obj k=>λσ=>match σ.st[l]?,σ.st[k]? with
  | some (.lst xs),aac (.lst u)=>cB (xs++u) σ
  | _,_=>.stuck
 | _,_=>λ_=>.stuck
noncomputable def lh:V->V->M V
 | .int a,.int b=>λσ=>.ok (.int (a-b)) σ
 | _,_=>λ_=>.stuck
noncomputable def jM:V->V->M V
 | .int a,.int b=>λσ=>if -1000000000<a/\a<1000000000 then .ok (.int (a*b)) σ else .stuck
 | _,_=>λ_=>.stuck
noncomputable def oE:V->V->M V
 | .int a,.int b=>λσ=>if 0<b/\b<1000000000 then .ok (.int (a / b)) σ else .stuck
 | _,_=>λ_=>.stuck
noncomputable def kx:V->V->M V
 | .int a,.int b=>λσ=>if 0<b/\b<1000000000 then .ok (.int (a%b)) σ else .stuck
 | _,_=>λ_=>.stuck
noncomputable def my:V->V->M V
 | .int a,.int 1=>λσ=>if 0<=a then .ok (.int (a / 2)) σ else .stuck
 | _,_=>λ_=>.stuck
theorem jy:qN K .Add dM:=by
 intro F fk σ ρ s a b wa wb rel ra B
 cases a with
 | int i=>
  cases b with
  | int j=>
   refine xc (Rep.aH.mp ra) λt D=>?_;obtain rfl:=D;refine xc (Rep.aH.mp B) λu G=>?_;obtain rfl:=G;exact Run.ok (add_int ⟨ρ,rel.tok _,Ext.refl ..,Rep.int ..⟩)
  | _=>exact Run.stuck
 | obj l=>
  cases b with
  | obj k=>
   unfold dM;dsimp only
   cases J:σ.st[l]? with
   | none=>exact Run.stuck
   | some c=>
    cases c with
    | set _=>exact Run.stuck
    | aP _ _ _=>exact Run.stuck
    | cX=>exact Run.stuck
    | tab=>exact Run.stuck
    | dD _ _=>exact Run.stuck
    | lst xs=>
     cases hk:σ.st[k]? with
     | none=>exact Run.stuck
     | some O=>
      cases O with
      | set _=>exact Run.stuck
      | aP _ _ _=>exact Run.stuck
      | cX=>exact Run.stuck
      | tab=>exact Run.stuck
      | dD _ _=>exact Run.stuck
      | lst U=>
       dsimp only;refine wl (rel.list ra J) λx ws n W bk hL hr hn=>?_;clear ra;obtain rfl:=W;refine wl (rel.list B hk) λy us n' Y fY Z C HH=>?_;clear B;obtain rfl:=Y;unfold cB
       by_cases hz:(xs++U).length<=1000000
       ·refine aab (if_pos hz) ?_
        refine ye (rel.newList (o:={cls:= .type "list",data:= .seq (ws++us).toArray}) rfl (hr.append C) hz s.toks) λbh x'=>?_
        refine Run.ok (P.add_list hL Z ?_ (ur (by simp only[aaH,hr.length,C.length];simpa using hz)))
        refine aab (List.append_toArray ..) ?_;refine(je _ bh x' (Rep.aN.mpr (ja _ ?_ rfl)));simp only[<- rel.len,aaq]
       ·refine aab (if_neg hz) ?_;exact Run.stuck
  | _=>exact Run.stuck
 | _=>exact Run.stuck
theorem HI:qN K .Sub lh:=by
 intro F G σ ρ s a b J O rel ra B
 cases a with
 | int i=>
  cases b with
  | int j=>
   refine xc (Rep.aH.mp ra) λt C=>?_;clear ra;obtain rfl:=C;refine xc (Rep.aH.mp B) λu D=>?_;clear B;obtain rfl:=D;exact Run.ok (sub_int ⟨ρ,rel.tok _,Ext.refl ..,Rep.int ..⟩)
  | _=>exact Run.stuck
 | _=>exact Run.stuck
theorem M5:qN K .Mult jM:=by
 intro F G σ ρ s a b J O rel ra B
 cases a with
 | int i=>
  cases b with
  | int j=>
   refine xc (Rep.aH.mp ra) λt C=>?_;clear ra;obtain rfl:=C;refine xc (Rep.aH.mp B) λu D=>?_;clear B;obtain rfl:=D;unfold jM;dsimp only
   by_cases h : -1000000000<i/\i<1000000000
   ·refine aab (if_pos h) ?_
    exact Run.ok (mul_int ⟨ρ,rel.tok _,Ext.refl ..,Rep.int ..⟩ (IntMulOk.of_left (intBits_le_64 (by exact EZ h) (by exact E0 h))))
   ·refine aab (if_neg h) ?_;exact Run.stuck
  | _=>exact Run.stuck
 | _=>exact Run.stuck
theorem Wp{a b:Int}(h:0<b):a.fdiv b=a / b:=Int.fdiv_eq_ediv_of_nonneg _ (acj h)
theorem Wq{a b:Int}(h:0<b):a.fmod b=a%b:=Int.fmod_eq_emod_of_nonneg _ (acj h)
theorem C6:qN K .FloorDiv oE:=by
 intro F G σ ρ s a b J O rel ra B
 cases a with
 | int i=>
  cases b with
  | int j=>
   refine xc (Rep.aH.mp ra) λt C=>?_;clear ra;obtain rfl:=C;refine xc (Rep.aH.mp B) λu D=>?_;clear B;obtain rfl:=D;unfold oE;dsimp only
   by_cases h:0<j/\j<1000000000
   ·refine aab (if_pos h) ?_
    refine Run.ok (floordiv_int (ajc h.1) ⟨ρ,rel.tok _,Ext.refl ..,?_⟩ (Or.inl (PyProof.noPylong_small (aa7.mp (by rw[Int.natAbs_of_nonneg (acj h.1)];exact aeM h.2 (by decide))))))
    refine aab (Wp h.1) ?_;exact Rep.int ..
   ·refine aab (if_neg h) ?_;exact Run.stuck
  | _=>exact Run.stuck
 | _=>exact Run.stuck
theorem wu:qN K .Mod kx:=by
 intro F G σ ρ s a b J O rel ra B
 cases a with
 | int i=>
  cases b with
  | int j=>
   refine xc (Rep.aH.mp ra) λt C=>?_;clear ra;obtain rfl:=C;refine xc (Rep.aH.mp B) λu D=>?_;clear B;obtain rfl:=D;unfold kx;dsimp only
   by_cases h:0<j/\j<1000000000
   ·refine aab (if_pos h) ?_;refine Run.ok (mod_int' (ajc h.1) ⟨ρ,rel.tok _,Ext.refl ..,?_⟩);refine aab (Wq h.1) ?_;exact Rep.int ..
   ·refine aab (if_neg h) ?_;exact Run.stuck
  | _=>exact Run.stuck
 | _=>exact Run.stuck
theorem Wr:qN K .RShift my:=by
 intro F J σ ρ s a b O U rel ra B
 cases a with
 | int i=>
  cases b with
  | int j=>
   by_cases C:j=1
   ·subst C;refine xc (Rep.aH.mp ra) λt D=>?_;clear ra;obtain rfl:=D;refine xc (Rep.aH.mp B) λu G=>?_;clear B;obtain rfl:=G
    show Run K F _ (Rep K) (if 0<=i then .ok (V.int (i / 2)) σ else .stuck) ρ s
    by_cases h:0<=i
    ·refine aab (if_pos h) ?_;exact Run.ok (wpAny_rshift1_int h ⟨ρ,rel.tok _,Ext.refl ..,Rep.int ..⟩)
    ·refine aab (if_neg h) ?_;exact Run.stuck
   ·have:my (.int i) (.int j)=λW=>.stuck:=by
     funext σ
     show my (.int i) (.int j) σ=_
     match j,C with
     | 0,_=>rfl
     | 1,h=>exact absurd rfl h
     | (n+2:Nat),_=>rfl
     | Int.negSucc n,_=>rfl
    refine aab this ?_;exact Run.stuck
  | _=>exact Run.stuck
 | _=>exact Run.stuck
noncomputable def iM:V->M V
 | .int a=>λσ=>.ok (.int (-a)) σ
 | _=>λ_=>.stuck
theorem HT:uq K .USub iM:=by
 intro F u σ ρ s a B rel ra
 cases a with
 | int i=>obtain⟨t,rfl⟩:=Rep.aH.mp ra;exact Run.ok (neg_int ⟨ρ,rel.tok _,Ext.refl ..,Rep.int ..⟩)
 | _=>exact Run.stuck
noncomputable def Ws:V->V->M V
 | .int a,.int b=>λσ=>.ok (.bool (decide (a<=b))) σ
 | _,_=>λ_=>.stuck
noncomputable def uS:V->V->M V
 | .int a,.int b=>λσ=>.ok (.bool (decide (b<a))) σ
 | _,_=>λ_=>.stuck
noncomputable def C7:V->V->M V
 | .int a,.int b=>λσ=>.ok (.bool (decide (b<=a))) σ
 | _,_=>λ_=>.stuck
theorem HU:n7 K .Gt uS:=by
 intro F G σ ρ s a b J O rel ra B
 cases a with
 | int i=>
  cases b with
  | int j=>
   refine xc (Rep.aH.mp ra) λt C=>?_;clear ra;obtain rfl:=C;refine xc (Rep.aH.mp B) λu D=>?_;clear B;obtain rfl:=D;exact Run.ok (gt_int ⟨ρ,rel,Ext.refl ..,Rep.bool _⟩)
  | _=>exact Run.stuck
 | _=>exact Run.stuck
theorem Wt:n7 K .GtE C7:=by
 intro F G σ ρ s a b J O rel ra B
 cases a with
 | int i=>
  cases b with
  | int j=>
   refine xc (Rep.aH.mp ra) λt C=>?_;clear ra;obtain rfl:=C;refine xc (Rep.aH.mp B) λu D=>?_;clear B;obtain rfl:=D;exact Run.ok (ge_int ⟨ρ,rel,Ext.refl ..,Rep.bool _⟩)
  | _=>exact Run.stuck
 | _=>exact Run.stuck
noncomputable def bi:V->M Bool
 | .bool b=>λσ=>.ok b σ
 | .obj l=>λσ=>match σ.st[l]? with
  | some (.lst vs)=>.ok (!vs.isEmpty) σ
  | _=>.stuck
 | _=>λ_=>.stuck
theorem qf:qO K bi:=by
 intro F D σ ρ s a G rel ra
 cases a with
 | bool b=>rw[Rep.dE.mp ra];exact Run.ok (aft ⟨ρ,rel,Ext.refl ..,rfl⟩)
 | obj l=>
  unfold bi;dsimp only
  cases u:σ.st[l]? with
  | none=>exact Run.stuck
  | some c=>
   cases c with
   | set _=>exact Run.stuck
   | aP _ _ _=>exact Run.stuck
   | cX=>exact Run.stuck
   | tab=>exact Run.stuck
   | dD _ _=>exact Run.stuck
   | lst xs=>
    refine wl (rel.list ra u) λx ws n B J hL hr C=>?_;clear ra;obtain rfl:=B
    refine Run.ok (wpAny_truthy_list hL.isList (by(refine aab aaH ?_;refine aab hr.length ?_);exact tW C) ⟨ρ,rel.tok _,Ext.refl ..,?_⟩)
    show(!ws.toArray.isEmpty) = !xs.isEmpty;have:=hr.length
    cases ws<;>cases xs<;>simp_all
 | _=>exact Run.stuck
noncomputable def d8:List V->M V
 | [.obj l]=>λσ=>match σ.st[l]? with
  | some (.lst vs)=>.ok (.int vs.length) σ
  | _=>.stuck
 | _=>λ_=>.stuck
theorem jt:w6 K (.builtin "len") d8:=by
 intro F U W σ ρ s vs ws rel r
 rcases(show d8 vs σ = .stuck\/∃x,vs=[.obj x] by
  rcases vs with _ | ⟨v,_ | ⟨u,r⟩⟩
  ·exact .inl rfl
  ·cases v<;>first | exact .inl rfl | exact .inr ⟨_,rfl⟩
  ·cases v<;>exact .inl rfl) with h | ⟨l,rfl⟩
 ·refine aab h ?_;exact Run.stuck
 unfold d8;dsimp only
 ·refine gc (aj.aG.mp r) λw Y C B D=>?_;obtain rfl:=C;refine aab (aj.a7.mp D) ?_
  cases G:σ.st[l]? with
  | none=>exact Run.stuck
  | some c=>
   cases c with
   | set _=>exact Run.stuck
   | aP _ _ _=>exact Run.stuck
   | cX=>exact Run.stuck
   | tab=>exact Run.stuck
   | dD _ _=>exact Run.stuck
   | lst xs=>
    refine wl (rel.list B G) λx ws n J Z hL hr O=>?_;clear B r;obtain rfl:=J
    refine Run.ok (aiW hL.isList (by(refine aab aaH ?_;refine aab hr.length ?_);exact tW O) ⟨ρ,rel.tok _,Ext.refl ..,?_⟩)
    (refine aab aaH ?_;refine aab hr.length ?_);exact Rep.int ..
end
section
variable{K:aW}{F:bd}
noncomputable def iN(K:aW)(F:bd)(e:Option Expr)(m:M V):Prop:= ∀σ ρ s,Rel K F σ ρ s->Run K F (agi (ais e F.env)) (Rep K) (m σ) ρ s
theorem gj:iN K F aam (pure .none):=λu u u rel=>Run.pure rel Rep.none
theorem xz{e:Expr}{m:M V}(h:aU K F e m):iN K F (aac e) m:=h
noncomputable def Wu(K:aW)(h:aat)(ρ:List aai)(p:V×V×V)(w:aaf):Prop:= ∃ad u B C,w = .ref ad/\h.IsSliceOf ad u B C/\Rep K h ρ p.1 u/\Rep K h ρ p.2.1 B/\Rep K h ρ p.2.2 C
theorem Wv{lo hi st:Option Expr}{G J O:M V}(p:Pos)(h1:iN K F lo G)(h2:iN K F hi J)(h3:iN K F st O){σ:S}{ρ:List aai}{s:aah}(rel:Rel K F σ ρ s):
  Run K F (abe (.Slice lo hi st p) F.env) (Wu K) ((do let a <- G;let b <- J;let c <- O;pure (a,b,c):M (V×V×V)) σ) ρ s:=by
 show Run K F (do
  let l <- agi (ais lo F.env)
  let u <- holding [l] (agi (ais hi F.env))
  let s <- holding [l,u] (agi (ais st F.env))
  newFields "slice" [l,u,s]) _ _ ρ s
 refine Run.bind (h1 σ ρ s rel) λa ab ai af U W ae aL ra=>?_;refine Run.bind (Run.holding (h2 ab ai af ae)) λb ar aC ay Y W aB aX rb=>?_;refine Run.bind (Run.holding (h3 ar aC ay aB)) λc aO C D Z W aY bR rc=>?_
 have B:Ext F.mine C C D.heap (D.heap.push {cls:= .type "slice",data:= .fields #[U,Y,Z]}):=Ext.push _
 refine Run.ok (ab0 ⟨C,aY.push _ D.toks,B,?_⟩);exact(qj _ U Y Z rfl (Heap.IsSliceOf.new ..) (((ra.mono aX).mono bR).mono B) ((rb.mono bR).mono B) (rc.mono B))
noncomputable def lD:V->Option (Option Int)
 | .none=>aac aam
 | .int i=>aac (aac i)
 | _=>aam
theorem H2{h:aat}{ρ:List aai}{v:V}{w:aaf}{k:Option Int}(r:Rep K h ρ v w)(e:lD v=aac k):IsPart w k:=by
 cases v with
 | none=>rw[Rep.bx.mp r];(injection e with u;subst u);exact .none
 | int i=>obtain⟨t,rfl⟩:=Rep.aH.mp r;(injection e with u;subst u);exact .int i t
 | _=>(injection e)
noncomputable def rq{α:Type}(vs:List α)(lo hi st:Option Int):List α :=
 (aia (adb lo hi st vs.length).1 (adb lo hi st vs.length).2.1 (adb lo hi st vs.length).2.2).filterMap (vs[·]?)
theorem C8{h:aat}{ρ:List aai}{vs:List V}{ws:List aaf}(r:aj K h ρ vs ws):∀(is:List Nat),aj K h ρ (is.filterMap (vs[·]?)) (is.filterMap (ws[·]?))
 | []=>aj.nil
 | i::is=>by
  (refine aab ad1 ?_;refine aab ad1 ?_)
  cases e:vs[i]? with
  | none=>
   have:ws[i]?=aam:=by
    rw[ac7] at e ⊢;refine aab r.length ?_;exact e
   refine aab this ?_;exact C8 r is
  | some v=>
   refine ya (r.get? e) λw u q=>?_;refine aab u ?_;exact aj.cons q (C8 r is)
theorem Ww{vs:List V}{ws:List aaf}{h:aat}{ρ:List aai}(r:aj K h ρ vs ws)(lo hi st:Option Int):(rq vs lo hi st).length<=vs.length:=by
 have h1:=slicePick_size_le ws.toArray lo hi st
 have h2:(rq vs lo hi st).length=(af3 ws.toArray lo hi st).size:=by
  unfold af3;refine aab aaH ?_;have:=(C8 (K:=K) r (aia (adb lo hi st vs.length).1 (adb lo hi st vs.length).2.1 (adb lo hi st vs.length).2.2)).length
  (refine aab aaH ?_;refine aab r.length ?_)
  unfold rq;simp only[aeD];exact this.symm
 refine aab h2 ?_;refine aaB h1 ?_
 (refine aab aaH ?_;refine aab r.length ?_);exact aaw _
noncomputable def zp:V->V×V×V->M V
 | .obj l,(a,b,c)=>λσ=>match σ.st[l]?,lD a,lD b,lD c with
  | some (.lst vs),aac lo,aac hi,aac st=>if st=aac 0 then .stuck else .ok (.obj σ.st.length) {σ with st:=σ.st++[.lst (rq vs lo hi st)]}
  | _,_,_,_=>.stuck
 | _,_=>λ_=>.stuck
theorem ww(fk:aV F){u:Expr}{lo hi st:Option Expr}{U W Y Z:M V}(p pos:Pos)(hv:aU K F u U)(h1:iN K F lo W)(h2:iN K F hi Y)(h3:iN K F st Z){J:aaf->aaf->List aaf}
  (hs:∀o i,ahL (.Slice lo hi st p) false o i=afn (J o i) (aiq o i):=by intro _ _;rfl) :
  aU K F (.Subscript u (.Slice lo hi st p) pos) (do let o <- U;let i <- (do let a <- W;let b <- Y;let c <- Z;pure (a,b,c));zp o i):=by
 intro σ ρ s rel;simp only[aiC];refine Run.bind (hv σ ρ s rel) λa ab ai af wa zZ ae aL ra=>?_;refine Run.bind (Run.holding (Wv p h1 h2 h3 ae)) λb ar aC ay wb zZ O aX rb=>?_;refine Run.standAt ?_;show Run K F (aiR u (.Slice lo hi st p) wa wb) (Rep K) (zp a b ar) aC ay;obtain⟨b1,b2,b3⟩:=b;refine F7 rb λad va vb vc H3 sX r1 r2 r3=>?_
 try clear rb
 obtain rfl:=H3
 cases a with
 | obj l=>
  unfold zp;dsimp only
  cases hl:ar.st[l]? with
  | none=>exact Run.stuck
  | some c=>
   cases c with
   | set _=>exact Run.stuck
   | aP _ _ _=>exact Run.stuck
   | cX=>exact Run.stuck
   | tab=>exact Run.stuck
   | dD _ _=>exact Run.stuck
   | lst vs=>
    cases e1:lD b1 with
    | none=>exact Run.stuck
    | some C=>
     cases e2:lD b2 with
     | none=>exact Run.stuck
     | some D=>
      cases e3:lD b3 with
      | none=>exact Run.stuck
      | some B=>
       dsimp only
       by_cases h0:B=aac 0
       ·refine aab (if_pos h0) ?_;exact Run.stuck
       ·refine aab (if_neg h0) ?_;refine wl (O.list (ra.mono aX) hl) λx ws n H4 bk hL hr hn=>?_;clear ra;obtain rfl:=H4;have G:=Ww hr C D B
        have e:(af3 ws.toArray C D B)=((aia (adb C D B vs.length).1 (adb C D B vs.length).2.1 (adb C D B vs.length).2.2).filterMap (ws[·]?)).toArray:=by
         unfold af3
         (refine aab aaH ?_;refine aab hr.length ?_)
         simp only[aeD]
        refine ye (O.newList (o:={cls:= .type "list",data:= .seq (af3 ws.toArray C D B)}) (vs:=rq vs C D B) (by exact aab e rfl) (C8 hr _) (aaB G hn) ay.toks) λbh x'=>?_
        refine Run.ok (aiZ hL.isList.typeIs slot_list_getitem.lookup (wpAny_getItem_list_slice hL.isList sX (H2 r1 e1) (H2 r2 e2) (H2 r3 e3) h0 ?_ (ur (by(refine aab aaH ?_;refine aab hr.length ?_);exact hn))) (hs _ _))
        refine(je _ bh x' (Rep.aN.mpr (ja _ ?_ rfl)));simp only[<- O.len,aaq]
 | _=>exact Run.stuck
noncomputable def rs:V->List V->M V
 | .obj l,[v]=>λσ=>match σ.st[l]? with
  | some (.lst vs)=>if l≠0/\vs.length<1000000 then .ok .none {σ with st:=σ.st.set l (.lst (vs++[v]))} else .stuck
  | _=>.stuck
 | _,_=>λ_=>.stuck
theorem M6:MV K "list.append" rs:=by
 intro F fk bJ σ ρ s o wo vs ws rel B r
 rcases(show rs o vs σ = .stuck\/∃x v,o = .obj x/\vs=[v] by
  rcases vs with _ | ⟨v,_ | ⟨u,r⟩⟩
  ·cases o<;>exact .inl rfl
  ·cases o<;>first | exact .inl rfl | exact .inr (gf _ _ rfl rfl)
  ·cases o<;>exact .inl rfl) with h | ⟨l,v,rfl,rfl⟩
 ·refine aab h ?_;exact Run.stuck
 unfold rs;dsimp only
 ·refine gc (aj.aG.mp r) λw jH C D G=>?_;clear r;obtain rfl:=C;refine aab (aj.a7.mp G) ?_
  cases J:σ.st[l]? with
  | none=>exact Run.stuck
  | some c=>
   cases c with
   | set _=>exact Run.stuck
   | aP _ _ _=>exact Run.stuck
   | cX=>exact Run.stuck
   | tab=>exact Run.stuck
   | dD _ _=>exact Run.stuck
   | lst xs=>
    dsimp only;refine wl (rel.list B J) λx us n O U hL hr W=>?_;clear B;obtain rfl:=O
    by_cases hz:l≠0/\xs.length<1000000
    ·refine aab (if_pos hz) ?_
     refine Run.ok (acL afQ ⟨_,hL,rfl⟩ PySem.F.entry_list_append (PySem.F.args_list_append_2 _ _) (list_append x us.toArray n w (ur (by rw[aaH,hr.length];exact W))) ⟨hL,?_⟩)
     obtain⟨Y,Z⟩:=rel.upd (s':={s with heap:=s.heap.update x (aaG λy=>y.push w)}) (vs:=xs++[v]) (ws:=us++[w]) U hz.1 (abN ..) (by
      have:=hL.update (λy=>y.push w);rw[List.push_toArray] at this
      exact this) (hr.append (aj.cons D aj.nil)) (by have:=hz.2;simp;exact E4 this) rfl rfl
     exact(je ρ Y Z Rep.none)
    ·refine aab (if_neg hz) ?_;exact Run.stuck
end
section
variable{K:aW}{F:bd}
noncomputable def zl(a b c:Int):Nat:=(aaD a b c).toNat
noncomputable def kj:V->S->Nat->Option (Option V)
 | .obj l=>λσ i=>match σ.st[l]? with
  | some (.lst vs)=>aac vs[i]?
  | _=>aam
 | .tup vs=>λ_ i=>aac vs[i]?
 | .ch a b c=>λ_ i=>aac (if i<zl a b c then aac (.int (a+i*c)) else aam)
 | _=>λ_ _=>aam
noncomputable def km:V->M Unit
 | .obj l=>cb (.obj l)
 | .tup _=>λσ=>.ok () σ
 | .ch a b c=>λσ=>if abq a b c=true then .ok () σ else .stuck
 | _=>λ_=>.stuck
theorem M7(a b c:Int):0<=aaD a b c:=by
 unfold aaD
 split
 ·split
  ·have:=aig (a:=b-a-1) (b:=c) (by exact tY (by assumption)) (by exact acj (by assumption));exact aiD this
  ·exact LZ
 ·split
  ·have:=aig (a:=a-b-1) (b:= -c) (by exact E8 (by assumption)) (by exact E9 (by assumption));exact aiD this
  ·exact LZ
theorem s0(a b c:Int):((zl a b c:Nat):Int)=aaD a b c:=adn (M7 a b c)
theorem M8{au:List aai}{h₀:aat}{I a:aai}{l:Nat}(J:aV F)(O:F.nh=true)(U:au[l]?=aac a):
  Iter K F I (λi o=>o.cls = .type "list_iterator" /\ o.data = .fields #[.ref a,.int i 0]) (kj (.obj l)) au h₀:=by
 refine⟨λi o h=>(wq _ _ h.2 h.1 (by decide) (by decide)),λi o s A Q E e h q=>wpAny_pyIter_listiter ⟨o,e,h.1,h.2⟩ q,?_⟩
 intro σ ρ s i o rel x B u;have W:=aI x.pre U;unfold kj;dsimp only
 cases Y:σ.st[l]? with
 | none=>trivial
 | some c=>
  cases c with
  | set _=>trivial
  | aP _ _ _=>trivial
  | cX=>trivial
  | tab=>trivial
  | dD _ _=>trivial
  | lst vs=>
   dsimp only;refine j0 (rel.cell l a _ W Y) λzZ ws n hL hr=>?_
   cases C:vs[i]? with
   | none=>
    have D:ws.toArray[i]?=aam:=by
     have:ws[i]?=aam:=by simp only[ac7] at C ⊢;refine aab hr.length ?_;exact C
     simpa using this
    exact wpAny_pyNext_list_end (J.hd O) ⟨o,B,u.1,u.2⟩ hL.isList D λh' Z=>⟨rfl,Z,rfl,rfl⟩
   | some v=>
    refine ya (hr.get? C) λw D q=>?_
    refine wpAny_pyNext_list_item ⟨o,B,u.1,u.2⟩ hL.isList (by simpa using D) λh' hit G=>(qr w rfl G.extBut rfl rfl ?_ ?_)
    ·refine xd hit λo' e c d=>?_
     try clear hit;exact(je o' e c d)
    ·refine Rep.br (aax _) (λb o' e f=>G.extBut b o' ?_ e) q
     exact zq B u.2 (by refine aab u.1 ?_;decide) e f
theorem H7{au:List aai}{h₀:aat}{I:aai}{a b c:Int}(D:aV F)(G:F.nh=true):
  Iter K F I (λi o=>i<=zl a b c/\o={cls:= .type "range_iterator",dict:=aam,data:= .fields #[aaV (a+i*c),aaV ((zl a b c:Int)-i),aaV c],slots:= #[]}) (kj (.ch a b c)) au h₀:=by
 refine⟨λi o h=>by refine ye h λJ O=>?_;try clear h;obtain rfl:=O;exact(wq _ _ rfl rfl (by decide) (by decide)),λi o s A Q E e h q=>by refine ye h λJ U=>?_;try clear h;obtain rfl:=U;exact agn e q,?_⟩
 intro σ ρ s i o rel x B C;refine ye C λhi W=>?_
 try clear C
 obtain rfl:=W;unfold kj;dsimp only
 by_cases u:i<zl a b c
 ·refine aab (if_pos u) ?_;dsimp only
  refine wpAny_pyNext_range_item B (by exact Fb u) λh' hit Y=>(qr _ rfl Y.extBut rfl rfl ⟨_,hit,by exact lN u,?_⟩ (Rep.int ..))
  have Z:a+((i+1:Nat):Int)*c=a+(i:Int)*c+c:=by simp only[aih,ahI];simp[afm]
  have e2:((zl a b c:Nat):Int)-((i+1:Nat):Int)=(zl a b c:Int)-(i:Int)-1:=by exact Fd
  (refine aab Z ?_;exact aab e2 rfl)
 ·refine aab (if_neg u) ?_;dsimp only
  exact wpAny_pyNext_range_end (D.hd G) B (by exact Ff u) λh' hx=>⟨rfl,hx,rfl,rfl⟩
theorem M9{au:List aai}{h₀:aat}{I a:aai}{vs:List V}{ws:List aaf}(U:aV F)(W:F.nh=true)(G:agF h₀ a ws.toArray)(hr:aj K h₀ au vs ws):
  Iter K F I (λi o=>o.cls = .type "tuple_iterator" /\ o.data = .fields #[.ref a,.int i 0]) (kj (.tup vs)) au h₀:=by
 refine⟨λi o h=>(wq _ _ h.2 h.1 (by decide) (by decide)),λi o s A Q E e h q=>wpAny_pyIter_tupleiter ⟨o,e,h.1,h.2⟩ q,?_⟩
 intro σ ρ s i o rel x B u
 have J:s.heap.IsTuple a ws.toArray:=by
  refine yj G λo' e c n d=>?_
  try clear G
  exact(CD o' (x.bu a o' e (.inl (pb c _ n d))) c n d)
 have Y:=hr.mono x;unfold kj;dsimp only
 cases C:vs[i]? with
 | none=>
  have D:ws.toArray[i]?=aam:=by
   have:ws[i]?=aam:=by simp only[ac7] at C ⊢;refine aab hr.length ?_;exact C
   simpa using this
  exact wpAny_pyNext_tuple_end (U.hd W) ⟨o,B,u.1,u.2⟩ J D λh' Z=>⟨rfl,Z,rfl,rfl⟩
 | some v=>
  refine ya (Y.get? C) λw D q=>?_
  refine wpAny_pyNext_tuple_item ⟨o,B,u.1,u.2⟩ J (by simpa using D) λh' hit O=>(qr w rfl O.extBut rfl rfl ?_ ?_)
  ·refine xd hit λo' e c d=>?_
   try clear hit;exact(je o' e c d)
  ·refine Rep.br (aax _) (λb o' e f=>O.extBut b o' ?_ e) q
   exact zq B u.2 (by refine aab u.1 ?_;decide) e f
theorem uX{σ:S}{ρ:List aai}{s:aah}(rel:Rel K F σ ρ s):s.heap.get? s.heap.objs.size=aam/\K.base.get? s.heap.objs.size=aam/\s.heap.objs.size∉F.mine/\s.heap.objs.size∉ρ:=by
 have h0:s.heap.get? s.heap.objs.size=aam:=aaQ (aaw _);refine⟨h0,?_,?_,?_⟩
 ·cases e:K.base.get? s.heap.objs.size with
  | none=>rfl
  | some o=>have:=rel.base _ _ e;rw[h0] at this;(injection this)
 ·intro h;refine qn (rel.ao _ h) λu o e=>?_;rw[h0] at e;(injection e)
 ·intro h;refine ya (rel.toGRel.alive h) λo e u=>?_;rw[h0] at e;(injection e)
theorem Na(Y:aV F){target B:Expr}{body:List acE}{mi:M V}{t:V->M Unit}{b:M Fl}(pos:Pos)(n:Nat)(hi:aU K F B mi)(Z:dz K F target t)(hb:jj K F body b)
  (hs:∀x,ab1 B F.env x=pure x:=by intro _;rfl) (bJ:F.nh=true:=by rfl) :
  dk K F (.For target B body [] pos) (do let v <- mi;km v;bO (kj v) t b n 0):=by
 intro σ ρ s rel;refine aab (ai0 ..) ?_;refine Run.standAt (Run.bind (hi σ ρ s rel) λv C ai af w O G aL rv=>?_)
 (refine aab (hs w) ?_;refine aab (qQ ..) ?_)
 refine Run.standAt ?_;refine Run.of_wp λD=>?_;refine kh (uX G) λf0 f1 f2 f3=>?_
 have U:km v C = .ok () C/\(km v >>= λO=>bO (kj v) t b n 0) C=bO (kj v) t b n 0 C:=by
  have:km v C = .ok () C:=by
   cases v with
   | obj l=>
    show cb (.obj l) C=_
    cases hc:C.st[l]? with
    | none=>exact absurd (M.fM (by show cb (.obj l) C=_;unfold cb;dsimp only;exact aab hc rfl)) D
    | some c=>
     cases c with
     | lst us=>exact sW hc
     | _=>exact absurd (M.fM (by show cb (.obj l) C=_;unfold cb;dsimp only;exact aab hc rfl)) D
   | tup vs=>rfl
   | ch a J c=>
    unfold km
    by_cases W:abq a J c=true
    ·dsimp only;exact if_pos W
    ·exact absurd (M.fM (by unfold km;dsimp only;exact if_neg W)) D
   | _=>exact absurd (by refine aab (M.ap ..) ?_;rfl) D
  exact⟨this,M.bZ this⟩
 rw[U.2] at D ⊢
 cases v with
 | obj l=>
  refine ya (Rep.aN.mp rv) λa bk uY=>?_;obtain rfl:=uY;refine xc (GN U.1) λus pn=>?_;refine j0 (G.cell l a _ bk pn) λO ws n' mA O=>?_;have hL:=mA.isList;refine aad (aaN (afu hL ?_));exact CU Z hb (M8 Y bJ bk) (G.push _ af.toks) (Ext.push _) f0 f1 f2 f3 (aaA _ rfl) ⟨rfl,rfl⟩ n D
 | tup vs=>
  refine qz rv.fq λO a ws uZ u0 hr=>?_;obtain rfl:=uZ;refine aad (aaN (ahj u0 ?_));exact CU Z hb (M9 Y bJ u0 hr) (G.push _ af.toks) (Ext.push _) f0 f1 f2 f3 (aaA _ rfl) ⟨rfl,rfl⟩ n D
 | ch a J c=>
  refine y8 (Rep.cW.mp rv) λr t' u v' u4 hR=>?_;obtain rfl:=u4
  have W:abq a J c=true:=by
   by_cases h:abq a J c=true
   ·exact h
   ·have:=U.1;simp only[km,h] at this;(injection this)
  refine aad (aaN (afj hR W ?_));refine CU Z hb (H7 (a:=a) (b:=J) (c:=c) Y bJ) (G.push _ af.toks) (Ext.push _) f0 f1 f2 f3 (aaA _ rfl) ⟨aaL _,?_⟩ n D;refine aab (s0 ..) ?_;simp
 | _=>cases U.1
end
section
variable{K:aW}{F:bd}
theorem Wx{σ:S}{ρ:List aai}{s:aah}{v:V}{w:aaf}(rel:Rel K F σ ρ s)(J:Rep K s.heap ρ v w)(O:km v σ = .ok () σ):
  ∃(obj:Obj) (C:Nat->Obj->Prop),C 0 obj/\obj.isFreed=false/\(∀B:bd,aV B->B.nh=true->Iter K B s.heap.objs.size C (kj v) ρ s.heap)/\
   ∀(A:aaE) (Q:aaf->aah->Prop) (E:aaf->aah->Prop),Q (.ref s.heap.objs.size) {s with heap:=s.heap.push obj}->aao (aar K.prog K.w) A (aer w) Q E s:=by
 cases v with
 | obj l=>
  refine ya (Rep.aN.mp J) λa U Z=>?_;obtain rfl:=Z;refine xc (GN O) λus pn=>?_;refine j0 (rel.cell l a _ U pn) λW ws n' mA W=>?_;have hL:=mA.isList;exact(wq _ _ ⟨rfl,rfl⟩ rfl (λB D G=>M8 D G U) (λA Q E q=>afu hL q))
 | tup vs=>
  refine qz J.fq λW a ws u6 Y hr=>?_;obtain rfl:=u6;exact(wq _ _ ⟨rfl,rfl⟩ rfl (λB D G=>M9 D G Y hr) (λA Q E q=>ahj Y q))
 | ch a b c=>
  refine y8 (Rep.cW.mp J) λr t' u v' u7 hR=>?_;clear J;obtain rfl:=u7
  have bU:abq a b c=true:=by
   by_cases h:abq a b c=true
   ·exact h
   ·simp only[km,h] at O;(injection O)
  refine(wq _ _ ⟨aaL _,?_⟩ rfl (λB D G=>H7 (a:=a) (b:=b) (c:=c) D G) (λA Q E q=>afj hR bU q));refine aab (s0 ..) ?_;simp
 | _=>(injection O)
noncomputable def H8(env:Env):Option Expr->Sem Bool
 | none=>pure true
 | some c=>isTrue c env (abe c env)
noncomputable def u8(e:Expr)(d:Nat)(env:Env)(acc:aaf)(target:Expr)(test:Option Expr)(u:Sem Unit):Prop :=
 ∀(M:adF) (A:aaE) (Q:af4->aah->Prop) (E:aaf->aah->Prop) (s:aah) (it:aaf),
  aao M A (ac4 it) (λr af=>match r with
   | none=>Q (.done .next) af
   | some v=>aao M A (aeQ target it v) (λ_ C=>aao M A (adJ target env v) (λ_ D=>aao M A (H8 env test) (λok B=>
     if ok=true then aao M A u (λ_ G=>Q (.again (.compLoop e d it acc env)) G) E B else Q (.again (.compLoop e d it acc env)) B) E D) E C) E af) E s->
  aao M A (ahP e d it acc env) Q E s
noncomputable def H9(u:Expr)(env:Env)(acc:aaf):Sem Unit:=do let _ <- call (.builtin "list.append") [acc,<- abe u env]
theorem Wy{M:adF}{A:aaE}{E:aaf->aah->Prop}{s:aah}{env:Env}{P:Bool->aah->Prop}(u:List Expr)(test:Option Expr)(C:u=test.toList)(h:aao M A (H8 env test) P E s):
  aao M A (forIn u true λc B=>if B=true then do let ok <- isTrue c env (abe c env);pure (ForInStep.yield ok) else pure (ForInStep.yield B)) P E s:=by
 subst C
 cases test with
 | none=>exact h
 | some c=>
  show aao M A (forIn [c] true _) P E s;refine aab (adx ..) ?_;refine aad ?_;refine aab (if_pos rfl) ?_;refine aad (aap h (λb s' D=>aak ?_) λG G e=>e);dsimp only;simp only[ae9];exact aak D
theorem y9{gens:List abs}{d:Nat}{C target D:Expr}{B:List Expr}{test:Option Expr}{scope:acU}{pos:Pos}{env:Env}{acc:aaf}(J:gens[d]?=aac ⟨target,D,B,0⟩)(O:gens[d+1]?=aam)(U:B=test.toList):
  u8 (.ListComp C gens scope pos) d env acc target test (H9 C env acc):=by
 intro M A Q E s it h;unfold ahP;dsimp only;refine aab J ?_;dsimp only;refine aad (abP (aad ?_));refine aap h (λr af aZ=>?_) λu u e=>e
 cases r with
 | none=>exact aak aZ
 | some v=>
  refine aad (aap aZ (λu ay W=>aad (aap W (λu bg Y=>?_) λu u e=>e)) λu u e=>e);refine aad (Wy B test U (aap Y (λok d6 G=>?_) λu u e=>e))
  cases ok with
  | true=>
   rw[if_pos rfl] at G ⊢;refine aab O ?_;exact aad (aap G (λu fZ Z=>aak Z) λu u e=>e)
  | false=>
   rw[if_neg abz] at G ⊢;exact aak G
noncomputable def mB(K:aW)(F:bd)(l:Nat)(a:aai)(t:Sem Unit)(m:M Unit):Prop:= ∀σ ρ s,Rel K F σ ρ s->ρ[l]?=aac a->Run K F t hV (m σ) ρ s
noncomputable def zn(c:M Bool)(u:M Unit):M Fl:=do
 if(<- c)=true then do
  u
  pure .next
 else pure .next
noncomputable def s4(K:aW)(F:bd)(test:Option Expr)(c:M Bool):Prop:= ∀σ ρ s,Rel K F σ ρ s->Run K F (H8 F.env test) iG (c σ) ρ s
theorem wy:s4 K F aam (pure true):=λu u u rel=>Run.pure rel rfl
theorem Nc{e:Expr}{c:M Bool}(h:fB K F e c):s4 K F (aac e) c:=h
structure f4(ce:Expr)(gens:List abs):Prop where
 cl:clausesOf ce=gens
 loop:∀(prog:aa0) (w:abC) (A:aaE) (d:Nat) (it acc:aaf) (env:Env),(aar prog w).den (.compLoop ce d it acc env)=(ahP ce d it acc env).onRaise (λx=>do aeb x env;aif x)/\A.under (.compLoop ce d it acc env)=A
 start:∀(prog:aa0) (w:abC) (A:aaE) (d:Nat) (it acc:aaf) (env:Env),(aar prog w).den (.compStart ce d it acc env)=(compStart ce d it acc env).onRaise (λx=>do aeb x env;standAt theWindowsPlace)/\A.under (.compStart ce d it acc env)=A
theorem Ia{B:Expr}{gens:List abs}{scope:acU}{pos:Pos}:f4 (.ListComp B gens scope pos) gens:=⟨rfl,λu u u u u u u=>⟨rfl,rfl⟩,λu u u u u u u=>⟨rfl,rfl⟩⟩
theorem Nd{B:Expr}{gens:List abs}{scope:acU}{pos:Pos}:f4 (.SetComp B gens scope pos) gens:=⟨rfl,λu u u u u u u=>⟨rfl,rfl⟩,λu u u u u u u=>⟨rfl,rfl⟩⟩
theorem Wz{prog:aa0}{w:abC}{A:aaE}{s:aah}{R:aeI->aah->Prop}{ce:Expr}{gens:List abs}{d:Nat}{it acc:aaf}{env:Env}(B:f4 ce gens)(C:aah->Prop)(N:aaf->aah->Prop)(D:∀f s',C s'->R (.ok f) s')(G:∀v s',N v s'->aip (aar prog w) A env (λe s'=>R (.error e) s') v s')(I:Nat->aah->Prop)
  (turn:∀n s,I n s->aao (aar prog w) A (ahP ce d it acc env) (λu s'=>match u with
   | .done _=>C s'
   | .again J=>J = .compLoop ce d it acc env/\∃m,m<n/\I m s') N s)
  (n:Nat) (h:I n s):acC (aar prog w) A (.compLoop ce d it acc env) R s:=by
 refine codeAny_loop rfl I (λn s O=>?_) n h;show aao (aar prog w) (A.under (.compLoop ce d it acc env)) ((aar prog w).den (.compLoop ce d it acc env)) _ _ s
 (refine aab ((B.loop prog w A d it acc env).1) ?_;refine aab ((B.loop prog w A d it acc env).2) ?_)
 exact wpAny_noted (aap (turn n s O) (λu s' q=>by cases u with | done f=>exact D f s' q | again c=>exact q) G)
theorem M.fy{α β γ:Type}(m:M α)(f:α->M β)(g:β->M γ):(m >>= f) >>= g=m >>= λa=>f a >>= g:=by
 funext σ
 show(match (m >>= f) σ with | .ok a aa=>g a aa | .exc e aa=>.exc e aa | .stuck=>.stuck)=_
 (refine aab (M.ap ..) ?_;refine aab (M.ap ..) ?_)
 cases m σ<;>rfl
theorem WA(nx:Nat->M (Option V))(t:V->M Unit)(c:M Bool)(u:M Unit)(n i:Nat)(σ:S):bo nx t (zn c u) (n+1) i σ=(match nx i σ with
  | .ok aam aa=>.ok .next aa
  | .ok (aac v) aa=>(t v >>= λB=>c >>= λy=>bif y then(u >>= λB=>bo nx t (zn c u) n (i+1)) else bo nx t (zn c u) n (i+1)) aa
  | _=>.stuck):=by
 have e:∀g:Fl->M Fl,zn c u >>= g=c >>= λy=>bif y then(u >>= λB=>g .next) else g .next:=by
  intro g;unfold zn;refine aab (M.fy ..) ?_
  congr 1
  funext y
  cases y
  ·rfl
  ·show((u >>= λB=>pure .next) >>= g)=_;refine aab (M.fy ..) ?_
   rfl
 refine aab (uC ..) ?_
 cases nx i σ with
 | stuck=>rfl
 | exc _ _=>rfl
 | ok C y=>
  cases C with
  | none=>rfl
  | some v=>dsimp only;exact aab (e ..) rfl
theorem Nf{ce target:Expr}{gens:List abs}{d l:Nat}{a:aai}{test:Option Expr}{C:Sem Unit}{t:V->M Unit}{c:M Bool}{B:M Unit}
  (jC:f4 ce gens) (eH:u8 ce d F.env (.ref a) target test C)
  (ht:dz K F target t) (hc:s4 K F test c) (Y:mB K F l a C B) {I:aai} {fp:List aai} {St:Nat->aat->Prop} {nx:Nat->M (Option V)}
  {σ:S} {ρ au:List aai} {s:aah} {h₀:aat} (Z:fT K F target I fp St nx au h₀) (rel:Rel K F σ ρ s) (oF:ρ[l]?=aac a) (eZ:Ext F.mine au ρ h₀ s.heap) (h0:∀b∈fp,h₀.get? b=aam) (fU:∀b∈fp,K.base.get? b=aam)
  (oh:∀b∈fp,b∉F.mine) (bk:∀b∈fp,b∉ρ) (hs:St 0 s.heap) (n:Nat) (O:bo nx t (zn c B) n 0 σ≠.stuck) :
  acC (aar K.prog K.w) F.A (.compLoop ce d (.ref I) (.ref a) F.env) (λr s'=>match r with
   | .ok _ => ∃f aa av,bo nx t (zn c B) n 0 σ = .ok f aa/\Rel K F aa av s'/\Ext F.mine au av h₀ s'.heap/\av[l]?=aac a
   | .error v=>nD K F (bo nx t (zn c B) n 0 σ) au h₀ v s') s:=by
 refine Wz jC (λs' => ∃f aa av,bo nx t (zn c B) n 0 σ = .ok f aa/\Rel K F aa av s'/\Ext F.mine au av h₀ s'.heap/\av[l]?=aac a) (EO K F (bo nx t (zn c B) n 0 σ) au h₀) (λu u q=>q) (λu u hx=>hx.jG λu u q=>q) (λk s' => ∃W av i,Rel K F W av s'/\bo nx t (zn c B) k i W=bo nx t (zn c B) n 0 σ/\Ext F.mine au av h₀ s'.heap/\(∀b∈fp,b∉av)/\av[l]?=aac a/\St i s'.heap) ?_ n
  ⟨σ,ρ,0,rel,rfl,eZ,bk,oF,hs⟩
 generalize bo nx t (zn c B) n 0 σ=out at O ⊢
 rintro k af ⟨W,av,i,ae,gQ,aL,fV,mC,cM⟩
 cases k with
 | zero=>exact absurd gQ.symm O
 | succ k=>
  have U:(match nx i W with
   | .ok aam aa=>.ok .next aa
   | .ok (aac v) aa=>(t v >>= λu=>c >>= λy=>bif y then(B >>= λu=>bo nx t (zn c B) k (i+1)) else bo nx t (zn c B) k (i+1)) aa
   | _=>.stuck:Res S Fl)=out:=gQ▸(WA ..).symm
  clear gQ;have dJ:=Z.step W av af i ae aL fV oh fU cM;refine eH _ _ _ _ _ _ ?_
  cases en:nx i W with
  | stuck=>rw[en] at U;exact absurd U.symm O
  | exc x y=>rw[en] at U;exact absurd U.symm O
  | ok ov uF=>
   rw[en] at dJ U
   cases ov with
   | none=>
    refine aap dJ (λr ay h=>?_) λu u h=>h.elim;refine CG h λu9 J r2 y1 y2=>?_
    try clear h
    obtain rfl:=u9;exact(ze .next uF J U.symm r2 (y2 _ _ aL h0) (aI y1 mC))
   | some v=>
    have D:∀{J bt:List aai} {g g':aat} {i:Nat},Ext F.mine J bt g g'->(∀b∈fp,b∉J)->St (i+1) g->St (i+1) g'/\(∀b∈fp,b∉bt):=by
     intro J bt g g' i x hn e;refine⟨Z.frame i g g' e λb G o ho=>?_,λb G Y=>?_⟩
     ·refine ya (Z.jA (i+1) g e b G) λo1 g1 d1=>?_;rw[g1] at ho;cases ho;refine ya (x.keep b o g1 (hn b G) (oh b G)) λo' e' l=>?_
      (refine aab e' ?_;exact aab (l.same λes n q=>absurd q (d1 es n)) rfl)
     ·rcases x.new b Y with q | q
      ·exact hn b G q
      ·refine ya (Z.jA (i+1) g e b G) λo1 g1 d1=>?_;rw[g1] at q;(injection q)
    refine aap dJ (λr uG h=>?_) λu u h=>h.elim;obtain⟨w,rfl,h⟩:=h;refine h _ _ λay J aB kY dY rv=>?_
    have jJ:∀b∈fp,b∉J:=λb G Y=>by
     rcases kY.new b Y with q | q
     ·exact fV b G q
     ·refine ya (Z.jA i _ cM b G) λo g u=>?_;rw[g] at q;(injection q)
    refine(ht uF J ay v w aB rv).fQ (aL.hide kY h0) O U id λu aO bt u bg iI aY oi bR u=>?_;refine ye (D oi jJ dY) λmq jK=>?_;have rz:=aI oi.pre (aI kY.pre mC);refine(hc aO bt bg aY).fQ bR O iI id λb fu fv wb d6 jL bA oj dK rb=>?_;have:wb=b:=rb;subst this;refine ye (D oj jK mq) λiJ fW=>?_;have jN:=aI oj.pre rz
    cases wb with
    | false=>exact⟨rfl,k,ab4 _,fu,fv,i+1,bA,jL,dK,fW,jN,iJ⟩
    | true=>
     refine(Y fu fv d6 bA jN).fQ dK O jL id λu ve vf u fZ Ib rA vg Ic u=>?_;refine ye (D vg fW iJ) λvh rB=>?_;exact⟨rfl,k,ab4 _,ve,vf,i+1,rA,Ib,Ic,rB,aI vg.pre jN,vh⟩
theorem WB{ce target:Expr}{gens:List abs}{d l:Nat}{a:aai}{test:Option Expr}{u:Sem Unit}{t:V->M Unit}{c:M Bool}{C:M Unit}
  (J:f4 ce gens) (O:u8 ce d F.env (.ref a) target test u)
  (U:dz K F target t) (W:s4 K F test c) (Y:mB K F l a u C) {I:aai} {B:Nat->Obj->Prop} {D:S->Nat->Option (Option V)}
  {σ:S} {ρ au:List aai} {s:aah} {h₀:aat} {o:Obj} (Z:Iter K F I B D au h₀) (rel:Rel K F σ ρ s) (oF:ρ[l]?=aac a) (eZ:Ext F.mine au ρ h₀ s.heap) (h0:h₀.get? I=aam) (fU:K.base.get? I=aam)
  (oh:I∉F.mine) (bk:I∉ρ) (ho:s.heap.get? I=aac o) (hs:B 0 o) (n:Nat) (G:bO D t (zn c C) n 0 σ≠.stuck) :
  acC (aar K.prog K.w) F.A (.compLoop ce d (.ref I) (.ref a) F.env) (λr s'=>match r with
   | .ok _ => ∃f aa av,bO D t (zn c C) n 0 σ = .ok f aa/\Rel K F aa av s'/\Ext F.mine au av h₀ s'.heap/\av[l]?=aac a
   | .error v=>EO K F (bO D t (zn c C) n 0 σ) au h₀ v s') s:=by
 have key:∀{P:aai->Prop},P I->∀b∈[I],P b:=λh b hb=>by refine aab (aan.mp hb) ?_;exact h
 rw[<- Gu] at G ⊢
 exact acR (Nf J O U W Y Z.g rel oF eZ (key h0) (key fU) (key oh) (key bk) ⟨o,ho,hs⟩ n G) λr s' h=>by
  cases r with
  | ok f=>exact h
  | error v=>exact h.eo
theorem Ng{prog:aa0}{w:abC}{A:aaE}{s:aah}{R:aeI->aah->Prop}{ce target u:Expr}{B:List Expr}{gens:List abs}{d:Nat}{it acc:aaf}{env:Env}
  (D:gens[d]?=aac ⟨target,u,B,0⟩)
  (h0:acC (aar prog w) A (.compLoop ce d it acc env) R s)
  (h:∀(Q:aaf->aah->Prop) (E:aaf->aah->Prop),Q it s->aao (aar prog w) A (aer it) Q E s) (C:f4 ce gens:=by first | exact Ia | exact Nd) :
  acC (aar prog w) A (.compStart ce d it acc env) R s:=by
 refine agb ?_;show aao (aar prog w) (A.under (.compStart ce d it acc env)) ((aar prog w).den (.compStart ce d it acc env)) _ _ s
 (refine aab ((C.start prog w A d it acc env).1) ?_;refine aab ((C.start prog w A d it acc env).2) ?_)
 refine wpAny_notedAt ?_;unfold compStart
 (refine aab C.cl ?_;refine aab D ?_)
 show aao _ _ (ask >>= _) _ _ s;refine aad (wpAny_askSetting (wpAny_ite ?_))
 split
 ·first
   | exact aad (aak (aak (And.intro rfl h0)))
   | exact aak (And.intro rfl h0)
 ·refine aad (abf ?_);show aao _ _ (standAt u.pos >>= _) _ _ s;exact aad (abP (aad (h _ _ (aak (And.intro rfl h0)))))
noncomputable def qy(F:bd)(scope:acU)(cl:List (Str×aai))(C:aai):bd:=⟨compEnvC scope cl C F.env,F.A,[C],F.nh⟩
theorem aV.comp(u:aV F){scope:acU}{cl:List (Str×aai)}{C:aai}(hk:scope.kind = .function):aV (qy F scope cl C):=⟨hk,u.glob,u.blt,u.hd,u.units⟩
noncomputable def Nh(F:bd)(C:aai):Prop:= ∀l,F.A.frames=aac l->∀env∈l,env.frame≠aac C
theorem Rel.eI{σ:S}{ρ:List aai}{s:aah}{C:aai}(rel:Rel K F σ ρ s)(h:s.heap.get? C=aam):Nh F C:=by
 intro l u env G B;refine gc rel.di λe W J Y O=>?_
 rw[J] at u;(injection u with U;subst U)
 refine zy (O env G) λD L o es n f D g D=>?_;rw[f] at B;cases B;rw[h] at g;(injection g)
theorem Rel.f5{σ:S}{ρ:List aai}{s s':aah}{C:aai}{m:Str->Option aaf}(rel:Rel K F σ ρ s)(hb:K.base.get? C=aam)(hm:C∉F.mine)(bk:C∉ρ)(hn:s.heap.Ns C m)(hs:abv C s.heap s'.heap)
  (hg:s'.gens=s.gens) (ho:s'.os=s.os) (hC:Nh F C):Rel K F σ ρ s' where
 toGRel:=rel.toGRel.eE hb bk hs (λb o e f=>un hn e f) (λc v n q=>qv n hn q.symm) hg ho
 vars:=λy u e=>by
  refine ya (rel.vars y u e) λw h1 h2=>?_;refine(ja w (h1.mono (λm' n=>n.sameBut hs (λq=>hm (q▸rel.aJ))) (λc u zZ n=>n.sameBut hs (λq=>qv n hn q.symm))) ?_);exact Rep.br (aax _) (λb o e f=>(hs.2 b (un hn e f)).trans e) h2
 loc:=by refine xc rel.loc λm' n=>?_;exact⟨m',n.sameBut hs (λq=>hm (q▸rel.aJ))⟩
 bE:=λy c e=>by refine xc (rel.bE y c e) λv n=>?_;exact⟨v,n.sameBut hs (λq=>qv n hn q.symm)⟩
 ao:=λb ft=>by
  refine qn (rel.ao b ft) λh1 o h2=>?_;exact(zi h1 o ((hs.2 b (λq=>hm (q▸ft))).trans h2))
 aE:=rel.aE
 aJ:=rel.aJ
 di:=by
  refine gc rel.di λe l a1 a2 a3=>?_;refine(ke e l a1 a2 (a3.next λb o es n ly g d=>(w7 o es n ((hs.2 b ?_).trans g) d)));intro q;refine ya ly λenv he hf=>?_
  try clear ly
  exact hC _ a1 env he (q▸hf)
theorem Ext.f5{mine au ρ:List aai}{h₀ h h':aat}{C:aai}(x:Ext mine au ρ h₀ h)(h0:h₀.get? C=aam)(hs:abv C h h'):Ext mine au ρ h₀ h' where
 pre:=x.pre
 alive:=λb o e=>by
  refine xc (x.alive b o e) λo1 e1=>?_
  exact⟨o1,(hs.2 b (by rintro rfl;rw[h0] at e;(injection e))).trans e1⟩
 new:=x.new
 keep:=λb o e n1 n2=>by
  refine ya (x.keep b o e n1 n2) λo1 e1 l1=>?_
  exact(ja o1 ((hs.2 b (by rintro rfl;rw[h0] at e;(injection e))).trans e1) l1)
 bu:=λb o e f=>(hs.2 b (by rintro rfl;rw[h0] at e;(injection e))).trans (x.bu b o e f)
noncomputable def C9(K:aW)(F:bd)(ce:Expr)(d:Nat)(m:Nat->(S->Nat->Option (Option V))->M Unit):Prop :=
 ∀(l:Nat) (a:aai) (I:aai) (u:Nat->Obj->Prop) (B:S->Nat->Option (Option V)) σ ρ au s h₀ o,Iter K F I u B au h₀->Rel K F σ ρ s->ρ[l]?=aac a->Ext F.mine au ρ h₀ s.heap->h₀.get? I=aam->K.base.get? I=aam->
  I∉F.mine->I∉ρ->s.heap.get? I=aac o->u 0 o->m l B σ≠.stuck->
  acC (aar K.prog K.w) F.A (.compStart ce d (.ref I) (.ref a) F.env) (λr s'=>match r with
   | .ok _ => ∃aa av,m l B σ = .ok () aa/\Rel K F aa av s'/\Ext F.mine au av h₀ s'.heap/\av[l]?=aac a
   | .error v=>EO K F (m l B σ) au h₀ v s') s
noncomputable def y4(n:Nat)(t:V->M Unit)(c:M Bool)(u:M Unit)(B:S->Nat->Option (Option V)):M Unit:=do
 let _ <- bO B t (zn c u) n 0
 pure ()
theorem WC{n:Nat}{t:V->M Unit}{c:M Bool}{u:M Unit}{B:S->Nat->Option (Option V)}{σ:S}(h:y4 n t c u B σ≠.stuck):bO B t (zn c u) n 0 σ≠.stuck:=by
 intro e;apply h;unfold y4;(refine aab (M.ap ..) ?_;exact aab e rfl)
theorem vi{ce target B:Expr}{G:List Expr}{gens:List abs}{d:Nat}{test:Option Expr}{u:aaf->Sem Unit}{t:V->M Unit}{c:M Bool}{C:Nat->M Unit}(n:Nat)
  (hg:gens[d]?=aac ⟨target,B,G,0⟩)
  (eH:∀acc,u8 ce d F.env acc target test (u acc)) (ht:dz K F target t) (hc:s4 K F test c) (gR:∀l a,mB K F l a (u (.ref a)) (C l)) (U:f4 ce gens:=by first | exact Ia | exact Nd) :
  C9 K F ce d (λl D=>y4 n t c (C l) D):=by
 intro l a I hD D σ ρ au s h₀ o W rel oF eZ h0 hb hm bk Y Z aA;refine Ng hg ?_ (λQ E q=>W.2.1 0 o s _ Q E Y Z q) U;refine acR (WB U (eH _) ht hc (gR l a) W rel oF eZ h0 hb hm bk Y Z n (WC aA)) λr s' h=>?_
 cases r with
 | ok f=>
  refine gd h λf' aa av e J O r4=>?_
  try clear h
  exact(wq aa av (by show y4 n t c (C l) D σ=_;unfold y4;(refine aab (M.ap ..) ?_;refine aab e ?_);rfl) J O r4)
 | error v=>
  refine gd h λe aa av e1 J O r3=>?_
  try clear h
  exact(ze e aa av (by show y4 n t c (C l) D σ=_;unfold y4;(refine aab (M.ap ..) ?_;exact aab e1 rfl)) J O r3)
noncomputable def yn(l:Nat)(v:V):M Unit:=do
 let _ <- rs (.obj l) [v]
 pure ()
theorem gz(G:aV F){B:Expr}{D:M V}(J:aU K F B D)(l:Nat)(a:aai)(O:F.nh=true:=by rfl):mB K F l a (H9 B F.env (.ref a)) (do let v <- D;yn l v):=by
 intro σ ρ s rel U;unfold H9;refine Run.bind (J σ ρ s rel) λv W ai af w C Y Z rv=>?_;unfold yn;refine Run.bind (M6 F G O W ai af (.obj l) (.ref a) [v] [w] Y (Rep.aN.mpr (ja a (aI Z.pre U) rfl)) (aj.cons rv aj.nil)) λu ar aC ay C C aB aX C=>?_;exact Run.pure aB trivial
end
section
variable{K:aW}{F:bd}
noncomputable def xp(free:List String)(lo:String->Option V):String->Option V:=λx=>if x∈free then lo x else aam
noncomputable def Ni(K:aW)(u:Sem aaf)(B:bn):Prop:= ∀(A:aaE) (s:aah) (Q:aaf->aah->Prop) (E:aaf->aah->Prop),
 (∀o:Obj,o.isFreed=false->(∀h ρ a,h.get? a=aac o->qm K h ρ B a)->Q (.ref s.heap.objs.size) {s with heap:=s.heap.push o})->aao (aar K.prog K.w) A u Q E s
theorem Nj:Ni K (newList []) (.lst []):=λA s Q E h=>ac0 (h _ rfl λh ρ a e=>(qJ (aaL _) ([]) 0 e aj.nil)) (by simp[aa1])
noncomputable def qw(u:bn)(free:List String)(B:Nat->(S->Nat->Option (Option V))->M Unit)(v:V):M V:=λσ=>match km v σ with
 | .ok _ _=>match B σ.st.length (kj v) ⟨σ.st++[u],xp free σ.lo⟩ with
  | .ok _ aa=>.ok (.obj σ.st.length) ⟨aa.st,σ.lo⟩
  | .exc _ _=>.stuck
  | .stuck=>.stuck
 | _=>.stuck
noncomputable abbrev jn(free:List String)(mc:Nat->(S->Nat->Option (Option V))->M Unit)(v:V):M V:=qw (.lst []) free mc v
theorem WD{v:V}{σ:S}{u:Unit}{aa:S}(h:km v σ = .ok u aa):km v σ = .ok () σ:=by
 cases v with
 | obj l=>
  refine xc (GN (show cb (.obj l) σ = .ok u aa from h)) λus C=>?_
  exact sW C
 | tup vs=>rfl
 | ch a D c=>
  unfold km at h ⊢
  by_cases B:abq a D c=true
  ·simp only[B,if_true]
  ·simp only[B] at h;(injection h)
 | _=>(injection h)
structure d9(F:bd)(scope:acU)(cl:List (Str×aai))(free:List String):Prop where
 oG:closureFor scope F.env=pure cl
 kind:scope.kind = .function
 names:∀x∈scope.names,x.2 = .local->scope.names.lookup x.1=aac .local
 mD:∀x∈scope.names,x.2≠.cell
 free:∀x∈free,((relabel scope F.env).names.lookup (aae x)=aac .cell\/(relabel scope F.env).names.lookup (aae x)=aac .free)/\F.env.kindOf (aae x)≠aac .local/\
  ∀c,F.env.cells.lookup (aae x)=aac c->cl.lookup (aae x)=aac c
 cells:∀x c,cl.lookup x=aac c->F.env.cells.lookup x=aac c
theorem lQ.comp{h:aat}{scope:acU}{cl:List (Str×aai)}{C:aai}(x:lQ K F h):lQ K (qy F scope cl C) h:=x
theorem Rel.mE{scope:acU}{cl:List (Str×aai)}{free:List String}(U:d9 F scope cl free){st:jb}{lo:String->Option V}{ρ:List aai}{s s':aah}{C:aai}(rel:Rel K F ⟨st,lo⟩ ρ s)(Z:s.heap.objs.size=C)(G:∃m,s'.heap.Ns C m)
  (u:∀b o,s.heap.get? b=aac o->s'.heap.get? b=aac o) (hg:s'.gens=s.gens) (ho:s'.os=s.os):Rel K (qy F scope cl C) ⟨st,xp free lo⟩ ρ s':=by
 have W:s.heap.get? C=aam:=aaQ (abQ Z);refine {toGRel:=rel.toGRel.kept u hg ho,vars:=?_,loc:=G,bE:=?_,ao:=?_,aE:=?_,aJ:=aan.mpr rfl,di:=(rel.di.kept u).comp}
 ·intro x B e
  have e:(if x∈free then lo x else aam)=aac B:=e
  by_cases J:x∈free
  ·rw[if_pos J] at e;refine ya (rel.vars x B e) λw' h1 h2=>?_;refine(ja w' ?_ (Rep.br (aax _) (jo u) h2));refine y5 (U.free x J) λq1 q2 q3=>?_
   rcases h1 with⟨k1,_⟩ | ⟨k1,c,ec,n⟩
   ·exact absurd k1 q2
   ·exact .inr (wn q1 c (q3 c ec) (n.keeps u))
  ·rw[if_neg J] at e;(injection e)
 ·intro x c e;refine xc (rel.bE x c (U.cells x c e)) λB n=>?_;exact⟨B,n.keeps u⟩
 ·intro a O;refine aab (aan.mp O) ?_;refine y8 G λD o D D e D=>?_
  try clear G
  refine(zi ?_ o e)
  cases e:K.base.get? C with
  | none=>rfl
  | some o=>have:=rel.base _ _ e;rw[W] at this;(injection this)
 ·intro a O Y;rw[aan.mp O] at Y;refine ya (rel.toGRel.alive Y) λo e D=>?_;rw[W] at e;(injection e)
theorem Nk(fk:aV F){ce target D:Expr}{kV:List Expr}{gs:List abs}{scope:acU}{rD:Pos}{cl:List (Str×aai)}{free:List String}{mi:M V}{J:Nat->(S->Nat->Option (Option V))->M Unit}
  {G:bn} {na:Sem aaf} {use:Option (aaf->Sem Unit)} {Q:aaf->aah->Prop} {E:aaf->aah->Prop} (cf:clausesOf ce=⟨target,D,kV,0⟩::gs) (vj:Ni K na G) (hs:∀x,ab1 D F.env x=pure x) (U:d9 F scope cl free) (hi:aU K F D mi)
  (hc:∀C,C9 K (qy F scope cl C) ce 0 J) {σ:S} {ρ:List aai} {s:aah} (rel:Rel K F σ ρ s) (Y:(mi >>= qw G free J) σ≠.stuck) (bJ:F.nh=true)
  (hQ:∀v aa av s' w C m,(mi >>= qw G free J) σ = .ok v aa->Rel K F aa av s'->Ext F.mine ρ av s.heap s'.heap->Rep K s'.heap av v w->s'.heap.Ns C m->C∉F.mine->C∉av->K.base.get? C=aam->s.heap.get? C=aam->
   ai1 (aar K.prog K.w) F.A E use Q w C (.ok .next) s')
  (hE:∀v s',EO K F ((mi >>= qw G free J) σ) ρ s.heap v s'->E v s') :
  aao (aar K.prog K.w) F.A (adY ce scope F.env rD na false (abe D F.env) use) Q E s:=by
 refine afR (use:=use) cf hs U.oG U.kind U.names ?_
 refine aap (Run.bq (P:=λx af=>aao (aar K.prog K.w) F.A (aer x) (λit ay=>aao (aar K.prog K.w) F.A na (λacc bg=>
   aao (aar K.prog K.w) F.A (newFunctionEnv scope F.env.globals cl [] F.env.qual aam .none (aac F.env)) (λiO d6=>
    acC (aar K.prog K.w) F.A (.compStart ce 0 it acc {iO with scope:=relabel scope F.env}) (ai1 (aar K.prog K.w) F.A E use Q acc iO.locals) d6) E bg) E ay) E af)
  (hi σ ρ s rel) Y ?_) (λO O q=>q) (λv s' q=>hE v s' q)
 intro v B ai af w e1 e2 W aL rv;rw[e2] at Y hQ hE
 cases iy:km v B with
 | stuck=>exact absurd (by unfold qw;exact aab iy rfl) Y
 | exc e y=>exact absurd (by unfold qw;exact aab iy rfl) Y
 | ok u y=>
  have Ie:=WD iy
  have eT:qw G free J v B=(match J B.st.length (kj v) ⟨B.st++[G],xp free B.lo⟩ with
   | .ok _ aa=>.ok (.obj B.st.length) ⟨aa.st,B.lo⟩
   | .exc _ _=>.stuck
   | .stuck=>.stuck):=by unfold qw;exact aab iy rfl
  refine z8 (Wx W rv Ie) λobj mz mF ly s5 WE=>?_;refine kh (uX W) λf0 f1 f2 f3=>?_;refine WE _ _ _ ?_;have aB:=W.push obj af.toks;have aX:Ext F.mine ai ai af.heap (af.heap.push obj):=Ext.push obj;refine vj _ _ _ _ λoa re oH=>?_;have Db:∀b o',(af.heap.push obj).get? b=aac o'->((af.heap.push obj).push oa).get? b=aac o':=λO O e=>aaj _ e
  refine ye (aB.eX (c:=G) (s':={af with heap:=(af.heap.push obj).push oa}) Db (aaQ (aaw _)) (oH _ _ _ (aaA _ re)) rfl rfl) λaY bR=>?_
  refine aeW U.mD (by intro y hy;simp at hy) (λc6 dS cQ=>?_) U.kind
  dsimp only at dS cQ aY bR ⊢
  generalize hH:(af.heap.push obj).push oa=H at dS cQ aY bR ⊢
  have hI:(af.heap.push obj).objs.size=af.heap.objs.size+1:=act ..
  have hC:H.objs.size=af.heap.objs.size+2:=by(rewrite[<- hH];refine aab (act ..) ?_;exact aab hI rfl)
  generalize rC:H.objs.size=C at dS cQ hC ⊢
  have aQ:∀b o,H.get? b=aac o->c6.get? b=aac o:=λb o e=>(cQ.2 b (by refine adg rC ?_;exact abp (abG e))).trans (aaj _ e)
  have fC:af.heap.get? C=aam:=aaQ (by refine aab hC ?_;exact Fi)
  have bC:K.base.get? C=aam:=by
   cases e:K.base.get? C with
   | none=>rfl
   | some o=>have:=W.base _ _ e;rw[fC] at this;(injection this)
  have bA:Rel K (qy F scope cl C) ⟨B.st++[G],xp free B.lo⟩ (ai++[(af.heap.push obj).objs.size]) {af with heap:=c6,toks:=af.toks+0}:=aY.mE U rC ⟨_,dS⟩ aQ rfl rfl
  have dK:Ext [C] ai (ai++[(af.heap.push obj).objs.size]) af.heap c6:=by
   refine⟨adz _ _,λb o e=>⟨o,aQ b o (by rw[<- hH];exact aaj _ (aaj _ e))⟩,λa ha=>?_,λb o e O O=>(ja o (aQ b o (by rw[<- hH];exact aaj _ (aaj _ e))) (.refl _)),
    λb o e O=>aQ b o (by rw[<- hH];exact aaj _ (aaj _ e))⟩
   rcases abd.mp ha with ha | ha
   ·exact .inl ha
   ·have:=aan.mp ha;subst this
    exact .inr (aaQ (by refine aab hI ?_;exact lO))
  have WF:af.heap.objs.size≠C:=by refine aab hC ?_;exact Fk
  have fb:J B.st.length (kj v) ⟨B.st++[G],xp free B.lo⟩≠.stuck:=λe=>Y (by(refine aab eT ?_;exact aab e rfl))
  have hD:=hc C B.st.length (af.heap.push obj).objs.size af.heap.objs.size mz (kj v) ⟨B.st++[G],xp free B.lo⟩ (ai++[(af.heap.push obj).objs.size]) ai {af with heap:=c6,toks:=af.toks+0} af.heap obj
   (s5 _ (fk.comp U.kind) bJ) bA (by(rewrite[<- W.len];exact aaq)) dK f0 f1 (λh=>WF (aan.mp h))
   (λh=>by
    rcases abd.mp h with h | h
    ·exact f3 h
    ·have:=aan.mp h;rw[hI] at this;exact absurd this (abp (ab4 _)))
   (aQ _ _ (by rw[<- hH];exact aaj _ (aaA _ ly))) mF fb
  refine acR hD λr s' h=>?_
  cases r with
  | error v'=>
   refine gd h λx aa av em r1 Z r3=>?_
   try clear h
   have WG:J B.st.length (kj v) ⟨B.st++[G],xp free B.lo⟩ = .exc x aa:=em;rw[WG] at eT;exact absurd eT Y
  | ok f=>
   refine z8 h λaa av em r1 Z r4=>?_
   try clear h
   rw[em] at eT
   have xn:Ext [] ai av af.heap s'.heap:=⟨Z.pre,Z.alive,Z.new,λb o e n1 O=>Z.keep b o e n1 (λhm=>by have:=aan.mp hm;subst this;rw[fC] at e;(injection e)),Z.bu⟩
   have mG:=W.called r1.toGRel xn fk;refine xc r1.loc λm hm=>?_
   have s6:s.heap.get? C=aam:=by
    cases e:s.heap.get? C with
    | none=>rfl
    | some o=>obtain⟨o',e'⟩:=aL.alive _ _ e;rw[fC] at e';(injection e')
   have vl:C∉F.mine:=λh=>by
    refine qn (W.ao _ h) λO o e=>?_;rw[fC] at e;(injection e)
   have:=hQ (.obj B.st.length) ⟨aa.st,B.lo⟩ av s' (.ref (af.heap.push obj).objs.size) C m eT mG (aL.trans (z4 xn)) (Rep.aN.mpr (ja _ r4 rfl)) hm vl (r1.aE C (aan.mpr rfl)) bC s6
   cases use<;>exact this
theorem Dc(Z:aV F){B target u:Expr}{D:List Expr}{G:List abs}{scope:acU}{pos:Pos}{cl:List (Str×aai)}{free:List String}{U:M V}{W:Nat->(S->Nat->Option (Option V))->M Unit}
  (ck:d9 F scope cl free) (hi:aU K F u U)
  (hc:∀C,C9 K (qy F scope cl C) (.ListComp B (⟨target,u,D,0⟩::G) scope pos) 0 W) (hs:∀x,ab1 u F.env x=pure x:=by intro _;rfl) (bJ:F.nh=true:=by rfl) :
  aU K F (.ListComp B (⟨target,u,D,0⟩::G) scope pos) (U >>= jn free W):=by
 intro σ ρ s rel;refine Run.of_wp λaA=>?_;show aao _ _ (adY (.ListComp B (⟨target,u,D,0⟩::G) scope pos) scope F.env _ (newList []) false (abe u F.env) aam) _ _ s;refine Nk Z (use:=aam) rfl Nj hs ck hi hc rel aA bJ ?_ λzZ zZ q=>q;intro v aa av s' w C m e r1 x1 rv J q1 q2 q3 Y;exact(ja m J (λh' O=>(ze v aa av e (r1.f5 q3 q1 q2 J O rfl rfl (rel.eI Y)) (x1.f5 Y O) (Rep.br (aax _) (λb o e f=>(O.2 b (un J e f)).trans e) rv))))
theorem WH(fk:aV F){D target B:Expr}{G:List Expr}{Y:List abs}{scope:acU}{pos mH O:Pos}{cl:List (Str×aai)}{free:List String}{U:M V}{W:Nat->(S->Nat->Option (Option V))->M Unit}{x:String}{mt:V->M Unit}
  (ck:d9 F scope cl free) (ht:dz K F (.Name (aae x) O) mt) (hi:aU K F B U)
  (hc:∀C,C9 K (qy F scope cl C) (.ListComp D (⟨target,B,G,0⟩::Y) scope pos) 0 W)
  (qR:af2 (.ListComp D (⟨target,B,G,0⟩::Y) scope pos) (aac (.Name (aae x) O)) mH.line F.env=pure true:=by rfl)
  (hs:∀x,ab1 B F.env x=pure x:=by intro _;rfl) (bJ:F.nh=true:=by rfl) :
  dk K F (.Assign [.Name (aae x) O] (.ListComp D (⟨target,B,G,0⟩::Y) scope pos) mH) (do let v <- U >>= jn free W;mt v;pure .next):=by
 intro σ ρ s rel;refine aab (agC _ _ _ _ qR) ?_;refine Run.standAt ?_;refine Run.of_wp λZ=>?_
 have mI:(U >>= jn free W) σ≠.stuck:=λe=>Z (by(refine aab (M.ap ..) ?_;exact aab e rfl))
 refine aad ?_
 show aao _ _ (do let _ <- adY (.ListComp D (⟨target,B,G,0⟩::Y) scope pos) scope F.env _ (newList []) false (abe B F.env) (aac (adJ (.Name (aae x) O) F.env))) _ _ s
 refine aad (aap (Nk fk (use:=aac (adJ (.Name (aae x) O) F.env)) (Q:=λJ s'=>QO K F (q0 K) ((do let v <- U >>= jn free W;mt v;pure .next:M Fl) σ) ρ s.heap .next s') (E:=EO K F ((do let v <- U >>= jn free W;mt v;pure .next:M Fl) σ) ρ s.heap) rfl Nj hs ck hi hc rel mI bJ ?_ ?_)
  (λJ s' hq=>aak (aak hq)) λJ J e=>e)
 ·intro v aa av s' w C m e r1 x1 rv hm q1 q2 q3 q4
  have e2:(do let v <- U >>= jn free W;mt v;pure .next:M Fl) σ=(mt v >>= λJ=>(adO Fl.next:M Fl)) aa:=M.bZ e
  rw[e2] at Z ⊢;show aao _ _ (adJ (.Name (aae x) O) F.env w) _ _ s'
  refine aap (Run.bq (P:=λJ dF => ∃m,dF.heap.Ns C m/\∀h',abv C dF.heap h'->QO K F (q0 K) ((mt v >>= λJ=>(adO Fl.next:M Fl)) aa) ρ s.heap .next {dF with heap:=h'}) (ht aa av s' v w r1 rv) Z ?_) (λJ J q=>q) (λv dF q=>q.up x1)
  intro u ar aC ay _ e3 e4 aB aX _;refine aab e4 ?_;refine gd hm λo es ep g d k f=>?_
  try clear hm
  refine ya (aX.keep C o g q2 q1) λo' g' l=>?_
  have Ig:C∉aC:=λgR=>by
   rcases aX.new C gR with h1 | h1
   ·exact q2 h1
   ·rw[g] at h1;(injection h1)
  have po:ay.heap.Ns C m:=⟨o',es,ep,g',l.data.1.trans d,k,f⟩;exact(ja m po (λh' cQ=>(ze .next ar aC rfl (aB.f5 q3 q1 Ig po cQ rfl rfl (rel.eI q4)) ((x1.trans aX).f5 q4 cQ) rfl)))
 ·intro v s' q;refine gd q λe aa av e1 r1 r2 r3=>?_
  try clear q
  exact(ze e aa av (by(refine aab (M.ap ..) ?_;exact aab e1 rfl)) r1 r2 r3)
end
section
variable{K:aW}{F:bd}
noncomputable def ky:List V->M V
 | [.int n]=>pure (.ch 0 n 1)
 | [.int a,.int b]=>pure (.ch a b 1)
 | [.int a,.int b,.int c]=>if c≠0/\c.natAbs<1000000 then pure (.ch a b c) else stuck
 | _=>stuck
noncomputable def pq:List V->M V
 | [.int n]=>pure (.ch 0 n 1)
 | _=>stuck
theorem WI(a b c:Int):ky [.int a,.int b,.int c]=if c≠0/\c.natAbs<1000000 then pure (.ch a b c) else stuck:=rfl
theorem Ih:w6 K (.type "range") pq:=by
 intro F J O σ ρ s vs ws rel r
 rcases(show pq vs σ = .stuck\/∃n,vs=[.int n] by
  rcases vs with _ | ⟨v,_ | ⟨u,r⟩⟩
  ·exact .inl rfl
  ·cases v<;>first | exact .inl rfl | exact .inr ⟨_,rfl⟩
  ·cases v<;>exact .inl rfl) with h | ⟨n,rfl⟩
 ·refine aab h ?_;exact Run.stuck
 refine gc (aj.aG.mp r) λx U C B D=>?_;obtain rfl:=C;obtain rfl:=aj.a7.mp D;refine xc (Rep.aH.mp B) λt G=>?_;clear B r;obtain rfl:=G;exact Run.ok (call_range_1 ⟨ρ,rel.push _ _,Ext.push _,Rep.cW.mpr (CE _ _ _ _ rfl (IsRange.new ..))⟩)
theorem Nl:w6 K (.type "range") ky:=by
 intro F fk bJ σ ρ s vs ws rel r
 have B:∀(a b c:Int) (t u v:Tok) (tk:Nat),∃av,Rel K F σ av {s with heap:=s.heap.push {cls:= .type "range",data:= .fields #[.int a t,.int b u,.int c v]},toks:=tk}/\
   Ext F.mine ρ av s.heap (s.heap.push {cls:= .type "range",data:= .fields #[.int a t,.int b u,.int c v]})/\
   Rep K (s.heap.push {cls:= .type "range",data:= .fields #[.int a t,.int b u,.int c v]}) av (.ch a b c) (.ref s.heap.objs.size):=by
  intro a b c t u v tk;exact(je ρ (rel.push _ tk) (Ext.push _) (Rep.cW.mpr (CE _ t u v rfl (IsRange.new _ a b c t u v))))
 rcases(show ky vs σ = .stuck\/(∃n,vs=[.int n])\/(∃a b,vs=[.int a,.int b])\/∃a b c,vs=[.int a,.int b,.int c] by
  rcases vs with _ | ⟨v,vs⟩
  ·exact .inl rfl
  cases v with
  | int a=>
   rcases vs with _ | ⟨v,vs⟩
   ·exact .inr (.inl ⟨_,rfl⟩)
   cases v with
   | int b=>
    rcases vs with _ | ⟨v,_ | ⟨u,r⟩⟩
    ·exact .inr (.inr (.inl (j7 _ _ rfl)))
    ·cases v<;>first | exact .inl rfl | exact .inr (.inr (.inr (F3 _ _ _ rfl)))
    ·cases v<;>exact .inl rfl
   | _=>exact .inl rfl
  | _=>exact .inl rfl) with h | ⟨n,rfl⟩ | ⟨a,b,rfl⟩ | ⟨a,b,c,rfl⟩
 ·refine aab h ?_;exact Run.stuck
 ·refine gc (aj.aG.mp r) λx U Y C D=>?_;obtain rfl:=Y;obtain rfl:=aj.a7.mp D;refine xc (Rep.aH.mp C) λt Z=>?_;obtain rfl:=Z;exact Run.ok (call_range_1 (B ..))
 ·refine gc (aj.aG.mp r) λx U vq C D=>?_;obtain rfl:=vq;refine gc (aj.aG.mp D) λy vt vu G J=>?_;obtain rfl:=vu;obtain rfl:=aj.a7.mp J;refine xc (Rep.aH.mp C) λt vx=>?_;obtain rfl:=vx;refine xc (Rep.aH.mp G) λu vy=>?_;obtain rfl:=vy;exact Run.ok (call_range_2 (B ..))
 ·simp only[WI]
  by_cases O:c≠0/\c.natAbs<1000000
  ·refine aab (if_pos O) ?_;refine gc (aj.aG.mp r) λx U vz C D=>?_;obtain rfl:=vz;refine gc (aj.aG.mp D) λy vt vA G J=>?_;obtain rfl:=vA;refine gc (aj.aG.mp J) λz WJ vB W r6=>?_;obtain rfl:=vB;obtain rfl:=aj.a7.mp r6;refine xc (Rep.aH.mp C) λt vC=>?_;clear C;obtain rfl:=vC;refine xc (Rep.aH.mp G) λu vD=>?_;clear G;obtain rfl:=vD;refine xc (Rep.aH.mp W) λv vE=>?_;clear W J D r;obtain rfl:=vE
   exact Run.ok (call_range_3 O.1 (B ..) (.inl (PyProof.noPylong_small (by exact Fm O))))
  ·refine aab (if_neg O) ?_;exact Run.stuck
noncomputable def s7(a b c:Int):Bool:=aaC a&&aaC b&&aaC c&&aaC (-c)&&aaC (a-c)&&aaC (aaD a b c)
theorem WK(r:aai)(a b c:Int)(t u v:Tok)(B:¬(!(aaC a&&aaC b&&aaC c&&aaC (-c)&&aaC (a-c)&&aaC (aaD a b c)))=true):
  adQ (abg.«range.__reversed__» ⟨[.ref r],[]⟩) (λC R s=>s.heap.get? r=aac {cls:= .type "range",dict:=aam,data:= .fields #[.int a t,.int b u,.int c v],slots:= #[]}/\
   R (.ok (.ret (ada s.heap.objs.size))) {s with heap:=s.heap.push {cls:=aaK (if(aaC a&&aaC b&&aaC c&&aaC (-c)&&aaC (a-c)&&aaC (aaD a b c))=true then "range_iterator" else "longrange_iterator"),data:=Data.fields #[aaV (a+(aaD a b c-1)*c),aaV (aaD a b c),aaV (-c)]},toks:=s.toks}) :=
 .of_wp λprog w A R s h=>by obtain⟨D,g,d,tk,os⟩:=s;refine ye h ?_;try clear h;intro G h;wp_walk;exact(ja _ rfl h)
noncomputable def rE(a b c:Int):Obj:={cls:= .type "range_iterator",data:= .fields #[aaV (a+(aaD a b c-1)*c),aaV (aaD a b c),aaV (-c)]}
theorem WL:adq (.type "range_iterator") (.type "reversed")=pure false:=by rw[acu];kernel_rfl
section
variable{prog:aa0}{w:abC}{A:aaE}{E:aaf->aah->Prop}{s:aah}
theorem WM{r:aai}{a b c:Int}{t u v:Tok}{Q:aaf->aah->Prop}(hr:aeB s.heap r a b c t u v)(B:s7 a b c=true)
  (h:Q (.ref s.heap.objs.size) {s with heap:=s.heap.push (rE a b c)}):aao (aar prog w) A (call (.builtin "range.__reversed__") [.ref r]) Q E s:=by
 have C:s.TypeIs (.ref r) "range" :=⟨_,hr,rfl⟩
 unfold s7 at B
 refine acL F.slot_range_reversed C F.entry_range_reversed (F.args_range_reversed_1 _) (WK r a b c t u v (by rw[B];simp)) ⟨hr,?_⟩
 simp only[B,if_true];exact h
theorem WN{r:aai}{a b c:Int}{t u v:Tok}{Q₁:aaf->aah->Prop}(hr:aeB s.heap r a b c t u v)(B:s7 a b c=true)
  (h:Q₁ (.ref s.heap.objs.size) {s with heap:=s.heap.push (rE a b c)}) :
  acC (aar prog w) A (.call (.builtin "reversed.__new__") ⟨[.type "reversed",.ref r],[]⟩) (wants Q₁ E) s:=by
 have C:s.TypeIs (.ref r) "range" :=⟨_,hr,rfl⟩
 refine agb ?_
 show aao _ A.in1 (do ahZ "reversed.__new__" ⟨[.type "reversed",.ref r],[]⟩;again (.builtin "reversed.__new__" ⟨[.type "reversed",.ref r],[]⟩)) _ _ s
 refine aad (aci (F.newCall_reversed_1 _) (aak ⟨ac2 agX _,acX F.entry_reversed_new ?_⟩));refine aab (ab9 agX _) ?_;unfold abg.«reversed.__new__»;refine aad (aci (newClass_reversed _) ?_)
 try dsimp only
 refine aad (aci (a:=()) (by first | rfl | kernel_rfl) ?_)
 refine aad (aci (a:=()) (by first | rfl | kernel_rfl) ?_)
 try dsimp only
 refine aad (ady C F.slot_range_reversed.lookup ?_)
 try dsimp only
 refine aad (aci (F.slot_range_reversed.bind _) ?_)
 try dsimp only
 first
 | rw[if_neg (show ¬((ag4 "range.__reversed__" == aaI)=true) from abz)]
 | (show aao _ _ (if(ag4 "range.__reversed__" == aaI)=true then _ else _) _ _ _;rw[if_neg (show ¬((ag4 "range.__reversed__" == aaI)=true) from abz)])
 refine aad (abf ?_)
 refine aad (m:=runValue (.call (.builtin "range.__reversed__") ⟨[.ref r],[]⟩)) (show aao _ _ (call (.builtin "range.__reversed__") [.ref r]) _ _ _ from WM hr B ?_)
 first
 | exact aak h
 | exact aad (aak (aak h))
theorem WO{r:aai}{a b c:Int}{t u v:Tok}{Q:aaf->aah->Prop}(hr:aeB s.heap r a b c t u v)(B:s7 a b c=true)
  (h:Q (.ref s.heap.objs.size) {s with heap:=s.heap.push (rE a b c)}):aao (aar prog w) A (call (.type "reversed") [.ref r]) Q E s:=by
 refine callType_other (U:= "range_iterator") (Q₁:=λobj af=>obj = .ref s.heap.objs.size/\af={s with heap:=s.heap.push (rE a b c)}) (by decide +kernel) F.create_reversed ⟨_,_,F.mro_reversed⟩ F.made_reversed WL (F.typeCall_reversed_1 _) (WN hr B ⟨rfl,rfl⟩) ?_
 rintro obj af ⟨rfl,rfl⟩
 exact⟨⟨_,aaA _ rfl,rfl⟩,h⟩
end
noncomputable def f6:V->M V
 | .ch 0 b 1=>if 0<=b/\b<1000000 then pure (.ch (b-1) (-1) (-1)) else stuck
 | _=>stuck
theorem Ii(q:Int):f6 (.ch 0 q 1)=if 0<=q/\q<1000000 then pure (.ch (q-1) (-1) (-1)) else stuck:=rfl
theorem WP{v:V}(h:¬ ∃q,v = .ch 0 q 1):f6 v=stuck:=by
 cases v with
 | ch a q c=>
  match a,c,h with
  | 0,1,h=>exact absurd ⟨q,rfl⟩ h
  | 0,0,_=>rfl
  | 0,(n+2:Nat),_=>rfl
  | 0,Int.negSucc n,_=>rfl
  | (n+1:Nat),_,_=>rfl
  | Int.negSucc n,_,_=>rfl
 | _=>rfl
theorem xy{i:Int}(h : -1000000<=i/\i<=1000000):aaC i=true:=by
 unfold aaC;simp only[abW,decide_eq_true_eq];exact Fn h
theorem Nn{b:Int}(h:0<=b):aaD 0 b 1=b:=by
 refine aab (rangeSize_one ..) ?_;split<;>(first | lia | omega)
theorem No{b:Int}(h:0<=b):aaD (b-1) (-1) (-1)=b:=by
 unfold aaD
 rw[if_neg (by exact Uw)]
 split
 ·simp
 ·exact Fo h (by assumption)
theorem WQ(W:aV F){target arg:Expr}{body:List acE}{C:M V}{t:V->M Unit}{b:M Fl}{Y O:Pos}(pos:Pos)(n:Nat)(hx:F.env.kindOf (aae "reversed")=aac .globalImplicit)(hm:K.mg (aae "reversed")=aam)
  (ha:aU K F arg C) (ht:dz K F target t) (hb:jj K F body b)
  (dB:(abu [arg] F.env).any (·.1)=false:=by rfl) (cS:abu (arg::[]) F.env=(false,abe arg F.env)::abu [] F.env:=by rfl)
  (hs:∀x,ab1 (.Call (.Name (aae "reversed") Y) [arg] [] O) F.env x=pure x:=by intro _;rfl) (bJ:F.nh=true:=by rfl) :
  dk K F (.For target (.Call (.Name (aae "reversed") Y) [arg] [] O) body [] pos) (do let v <- C;let r <- f6 v;bO (kj r) t b n 0):=by
 intro σ ρ s rel;refine aab (ai0 ..) ?_;refine Run.standAt ?_;refine Run.of_wp λB=>?_;refine aad ?_;refine aab (zr ..) ?_
 refine aad (yw W rel hx hm (v:= .type "reversed") (by decide +kernel) ?_)
 refine CZ rfl (by refine aab (yq ..) ?_;exact dB) ?_
 have WR:lz K F [arg] (do let v <- C;let vs <- (pure []:M (List V));pure (v::vs)):=zb ha zd cS
 have WS:(do let v <- C;let r <- f6 v;bO (kj r) t b n 0:M Fl) σ=((do let v <- C;let vs <- (pure []:M (List V));pure (v::vs)) >>= λvs=>(match vs with | [v]=>(do let r <- f6 v;bO (kj r) t b n 0:M Fl) | _=>stuck)) σ:=by
  (refine aab (M.ap ..) ?_;refine aab (M.ap ..) ?_;refine aab (M.ap ..) ?_)
  cases C σ<;>rfl
 rw[WS] at B ⊢;refine Run.bq (WR O σ ρ s rel) B λvs J ai af ws e1 e2 Z aL rv=>?_;rw[e2] at B ⊢
 rcases vs with _ | ⟨v,_ | ⟨v2,vs⟩⟩
 ·exact absurd rfl B
 ·refine gc (aj.aG.mp rv) λw r' vF vG Ij=>?_;obtain rfl:=vF;obtain rfl:=aj.a7.mp Ij;dsimp only at B ⊢
  have hv:∃q,v = .ch 0 q 1/\(0<=q/\q<1000000):=by
   by_cases h:∃q,v = .ch 0 q 1
   ·refine xc h λq vH=>?_
    try clear h
    obtain rfl:=vH
    by_cases h:0<=q/\q<1000000
    ·exact(ja q rfl h)
    ·exact absurd (show(do let r <- f6 (.ch 0 q 1);bO (kj r) t b n 0:M Fl) J = .stuck by(refine aab (Ii ..) ?_;refine aab (if_neg h) ?_);rfl) B
   ·exact absurd (show(do let r <- f6 v;bO (kj r) t b n 0:M Fl) J = .stuck by refine aab (WP h) ?_;rfl) B
  refine ya hv λq vI D=>?_
  try clear hv
  obtain rfl:=vI
  have e3:(do let r <- f6 (.ch 0 q 1);bO (kj r) t b n 0:M Fl) J=bO (kj (.ch (q-1) (-1) (-1))) t b n 0 J:=by
   refine aab (M.ap ..) ?_;(refine aab (Ii ..) ?_;refine aab (if_pos D) ?_);rfl
  rw[e3] at B ⊢;refine y8 (Rep.cW.mp vG) λr t' u v' vJ hR=>?_;obtain rfl:=vJ
  have bU:s7 0 q 1=true:=by
   unfold s7;simp only[abW];refine aab (Nn D.1) ?_
   refine⟨⟨⟨⟨⟨xy (by exact Ux),xy (by exact Mk D)⟩,xy (by exact Uy)⟩,xy (by exact Uz)⟩,xy (by exact UA)⟩,xy (by exact Mk D)⟩
  show aao _ _ (aaT (.type "reversed") [.ref r]) _ _ af
  refine WO hR bU ?_;refine kh (uX Z) λf0 f1 f2 f3=>?_
  (refine aab (hs ..) ?_;refine aab (qQ ..) ?_)
  refine aad (abP ?_)
  have Ik:rE 0 q 1={cls:= .type "range_iterator",dict:=aam,data:= .fields #[aaV (q-1),aaV q,aaV (-1)],slots:= #[]}:=by
   unfold rE;refine aab (Nn D.1) ?_
   have:(0:Int)+(q-1)*1=q-1:=by exact Vt
   exact aab this rfl
  have vK:(af.heap.push (rE 0 q 1)).get? af.heap.objs.size=aac {cls:= .type "range_iterator",dict:=aam,data:= .fields #[aaV (q-1),aaV q,aaV (-1)],slots:= #[]}:=by
   (refine aab (aaA _ rfl) ?_;exact aab Ik rfl)
  refine aad (aaN (agn vK ?_))
  have G:((zl (q-1) (-1) (-1):Nat):Int)=q:=by(refine aab (s0 ..) ?_;exact No D.1)
  refine aap (CU ht hb (H7 (a:=q-1) (b:= -1) (c:= -1) W bJ) (Z.push _ af.toks) (Ext.push _) f0 f1 f2 f3 vK ⟨aaL _,?_⟩ n B) (λU U q=>q.up aL) λU U q=>q.up aL;refine aab G ?_;simp
 ·exact absurd rfl B
end
section
variable{K:aW}{F:bd}
theorem Rel.vL{σ:S}{ρ:List aai}{s s':aah}{vs:List V}{ws:List aaf}{a:aai}{n:Nat}(rel:Rel K F σ ρ s)(hk:∀b o,s.heap.get? b=aac o->s'.heap.get? b=aac o)(h0:s.heap.get? a=aam)
  (hL:IsL s'.heap a ws.toArray n) (hr:aj K s.heap ρ vs ws) (u:vs.length<=1000000) (B:s'.gens=s.gens) (C:s'.os=s.os) :
  Rel K F {σ with st:=σ.st++[.lst vs]} (ρ++[a]) s'/\Ext F.mine ρ (ρ++[a]) s.heap s'.heap :=
 rel.eX hk h0 ⟨u,ws,n,hL,aj.br (aax _) (jo hk) hr⟩ B C
theorem Il{h:aat}{ρ:List aai}:∀{ws:List aaf} {ns:List Int},ait ws ns->aj K h ρ (ns.map .int) ws
 | _,_,.nil=>aj.nil
 | _,_,.cons n t r=>aj.cons (Rep.int n t) (Il r)
end
section
variable{K:aW}{F:bd}
noncomputable def oI(p:aa0)(i:Nat):acP:=match p.main.body[i]? with
 | some (.FunctionDef name a b _ _ _ u _ _ pos)=>⟨name,a,b,u,pos⟩
 | _=>⟨aae "",{posonlyargs:=[],args:=[],vararg:=aam,kwonlyargs:=[],kw_defaults:=[],kwarg:=aam,defaults:=[]},[],{kind:= .function,names:=[],isGenerator:=false,isCoroutine:=false},⟨0,0,0,0⟩⟩
noncomputable def oJ(d:acP)(pm code doc:aaf)(L fa:aai)(A:aaE):bd:=qZ (acv d.name d.params d.body d.scope pm code doc) L fa A
theorem aV.def{d:acP}{pm code doc:aaf}{L fa:aai}{A:aaE}{n:Nat}(hr:bI A n)(hk:d.scope.kind = .function):aV (oJ d pm code doc L fa A) :=
 ⟨hk,rfl,rfl,λu=>hr.1,by have:=hr.2.2;show A.units+1000<acw;exact t4 this⟩
noncomputable def cN(K:aW)(x:String)(lvl:Nat)(g:bj):Prop:= ∃fa fd body,K.mg (aae x)=aac (.ref fa)/\fw K fa fd body/\om K lvl (.ref fa) g
theorem rF{l:List aaf}{n:Nat}(h:l.length=n+1):∃a t,l=a::t/\t.length=n:=by
 cases l with
 | nil=>(injection h)
 | cons a t=>exact(gf a t rfl (Nat.succ.inj h))
theorem rG{l:List aaf}(h:l.length=1):∃a,l=[a]:=by
 refine xj (rF h) λa t u h2=>?_;clear h;obtain rfl:=u
 exact⟨a,by rw[abm h2]⟩
theorem mK{l:List aaf}(h:l.length=2):∃a b,l=[a,b]:=by
 refine xj (rF h) λa t u h2=>?_;obtain rfl:=u;refine xc (rG h2) λb B=>?_;clear h2 h;obtain rfl:=B;exact(j7 a b rfl)
theorem vP{l:List aaf}(h:l.length=3):∃a b c,l=[a,b,c]:=by
 refine xj (rF h) λa t u h2=>?_;obtain rfl:=u;refine qq (mK h2) λb c B=>?_;clear h2 h;obtain rfl:=B;exact(F3 a b c rfl)
theorem rH{d:acP}{x:String}{params:List String}{lvl:Nat}{mb:M Fl}(hd:d∈abF K.p)(D:d.name=aae x)(u:d.scope.kind = .function)(G:d.scope.isCoroutine=false)(J:d.scope.isGenerator=false)(O:params.Nodup)
  (U:∀(pm code doc:aaf) (ws:List aaf),ws.length=params.length->agJ (acv d.name d.params d.body d.scope pm code doc) ⟨ws,[]⟩=pure ((params.map aae).zip ws))
  (W:∀n,∀y∈params,d.scope.names.lookup (aae y)=aac .local\/(d.scope.names.lookup (aae y)=aac .cell/\((acQ n d.scope.names []).lookup (aae y)).isSome=true))
  (Y:∀pm code doc L fa A,bI A lvl->aV (oJ d pm code doc L fa A)->jj K (oJ d pm code doc L fa A) d.body mb):cN K x (lvl+1) (cZ params mb):=by
 refine wrap λZ B=>?_;obtain⟨a,o,pm,code,doc,h1,h2,h3,h4,_⟩:=K.top.fn d hd;refine B ?_;clear B Z;have C:fw K a (acv d.name d.params d.body d.scope pm code doc) d.body:=⟨⟨o,h2,h3⟩,h4,rfl,rfl,rfl,rfl,G,J,u⟩
 refine(jv a _ d.body (by rw[<- D];exact h1) C ?_)
 exact MU C O (U pm code doc) W λL A hr=>Y pm code doc L a A hr (aV.def hr u)
theorem jk(C:aV F){x:String}{D pos:Pos}{args:List Expr}{u:M (List V)}{g:bj}{lvl:Nat}(B:cN K x lvl g)(hr:bI F.A lvl)
  (G:lz K F args u) (J:F.env.kindOf (aae x)=aac .globalImplicit:=by kernel_rfl)
  (O:(abu args F.env).any (·.1)=false:=by rfl) (U:(aae x==("__debug__" : Str))=false:=by decide) :
  aU K F (.Call (.Name (aae x) D) args [] pos) (do let vs <- u;wg g vs):=by
 refine yt B λfa fd body h1 h2 h3=>?_
 try clear B
 exact We C J h1 h2 h3 hr G O U
theorem Np{d:acP}{pm code doc:aaf}{L fa:aai}{A:aaE}(x:String)(pos:Pos)(B:aV (oJ d pm code doc L fa A)){c:aai}(hk:d.scope.names.lookup (aae x)=aac .cell)
  (u:(acQ (L+1) d.scope.names []).lookup (aae x)=aac c):dz K (oJ d pm code doc L fa A) (.Name (aae x) pos) (λv=>lU x v) :=
 V2 x pos B hk u (aaU _ (Wb u)) (Wc u)
end
section
variable{K:aW}{F:bd}
theorem Nq{P:Params}{h:aat}:∀{vs:List aaf} {ns:List Int},WellAll P h vs (ofPys (ns.map aeL))->ait vs ns
 | _,[],x=>by cases x;exact .nil
 | _,n::ns,x=>by
  cases x with
  | cons u B=>cases u;exact .cons n _ (Nq B)
theorem iP{P:Params}{h:aat}{a:aai}{ns:List Int}(x:Well P h (.ref a) (ofPy (aet (ns.map aeL)))):∃vs,IsL h a vs.toArray 0/\ait vs ns:=by
 cases x with
 | list e r=>exact(ja _ e (Nq r))
theorem WT{n:Nat}(h:n<=600):bI callerA n:=by
 refine⟨rfl,?_,?_⟩
 ·have h1:callerA.depth=301:=by decide +kernel
  have h2:agv=1000:=by decide +kernel
  exact Fp h1 h h2
 ·have h1:callerA.units=4:=rfl
  have h2:acw=9900:=by decide +kernel
  exact Fq h1 h h2
theorem j9{h:aat}{P:aai}(u:h.get? P=aac (ad8 #[])){b:aai}{o:Obj}(e:h.get? b=aac o)(B:o.cls≠.none\/o.data≠.fields #[]):(afC h [P]).get? b=aac o:=by
 refine ahM _ e λq=>?_;rw[aan.mp q,u] at e
 (injection e with C;subst C)
 exact B.elim (λq=>q rfl) λq=>q rfl
theorem Im{h:aat}{P a:aai}{m:Str->Option aaf}(u:h.get? P=aac (ad8 #[]))(n:h.Ns a m):(afC h [P]).Ns a m:=by
 refine yt n λo es B e d r=>?_
 try clear n
 exact(jv o es B (j9 u e (.inr (by refine aab d ?_;exact λq=>by(injection q)))) d r)
theorem Nr{h:aat}{P:aai}{u:aaf}{q:Str}(B:h.get? P=aac (ad8 #[]))(n:h.CodeRec u q):(afC h [P]).CodeRec u q:=by
 refine gp n λc o vs t C e d r=>?_
 try clear n
 refine(ui c o vs t C (j9 B e (.inr λq=>?_)) d r)
 rw[d] at q;(injection q with D;subst D);simp at r
theorem WU{p:aa0}{loose:List Str}{rI:ExcName->Option aaf}{mg mb:Str->Option aaf}{h:aat}(T:Top p loose rI mg mb h)(D:TopD p mg h){W:acP}(h₀:W∈abF p):
  ∃P c,h.get? P=aac (ad8 #[])/\h.TableAt c P #[]/\ul p mg mb W.name P (afC h [P]):=by
 refine wrap λC u=>?_;obtain⟨a,o,fd,c,P,h1,h2,h3,h4,h5,h6⟩:=T.tab W h₀;refine u ?_;clear u C;have B:=h6.2;refine⟨P,c,B,h6,Im B T.g,Im B T.b,?_,?_,?_,T.builtins,?_⟩
 ·refine ya T.nolimit λmc n e=>?_;exact(ja mc (Im B n) e)
 ·intro d hd;refine wrap λC u=>?_;obtain⟨Y,o',pm,code,doc,k1,k2,k3,Z⟩:=T.fn d hd;refine u ?_;clear u C
  refine⟨Y,o',pm,code,doc,k1,j9 B k2 (.inr (by refine aab k3 ?_;exact λq=>by(injection q))),k3,Nr B Z,λhn=>?_⟩
  rw[hn,h1] at k1
  (injection k1 with J;injection J with J;subst J)
  rw[h2] at k2;(injection k2 with J;subst J)
  rw[h3] at k3;have e:fd=acv d.name d.params d.body d.scope pm code doc:=Data.func.inj k3;clear h3;subst e;refine(ja c h4 ?_);refine wrap λC u=>?_;obtain⟨oc,vs,O,tf,G,tg,WV,U,tt,g1,g2,g3,r⟩:=CodeHd.of h5 h6;refine u ?_;clear u C
  exact⟨oc,vs,O,tf,G,tg,WV,U,tt,j9 B g1 (.inl (by refine aab g2 ?_;decide)),g2,g3,r⟩
 ·intro d hd;refine wrap λC u=>?_;obtain⟨Y,o',pm,code,doc,dV,k1,k2,k3,Z,k5⟩:=D d hd;refine u ?_;clear u C
  refine⟨Y,o',pm,code,doc,dV,k1,j9 B k2 (.inr (by refine aab k3 ?_;exact λq=>by(injection q))),k3,Nr B Z,?_⟩
  rcases k5 with k5 | ⟨q1,t,ot,vs,n,ds,q2,q3,q4,q5,q6⟩
  ·exact .inl k5
  ·exact .inr ⟨q1,t,ot,vs,n,ds,q2,q3,j9 B q4 (.inl (by refine aab q5 ?_;decide)),q5,q6⟩
 ·refine F5 T.bmain λbm ob b1 b2 b3 b4 r=>?_
  exact⟨bm,ob,b1,b2,j9 B b3 (.inl (by refine aab b4 ?_;decide)),b4,r⟩
theorem oK{prog:aa0}{w:abC}{p:aa0}{loose:List Str}{rI vS:ExcName->Option aaf}{mg mb:Str->Option aaf}{af:aah}{fa l:aai}{c:ClaimW}{cl:Str->Option aai}{args:List WData}{bz:Str}{cY:Nat->fK}
  (T:Top p loose rI mg mb af.heap) (D:TopD p mg af.heap) {U:acP} (h₀:U∈abF p) (hg:af.gens=#[]) {g:bj} {lvl:Nat} {ws:List aaf} {ns:List Int}
  (W:∀K:aW,K.p=p->K.mg=mg->K.fN=U.name->K.bz=bz->K.cY=cY->cN K "law" lvl g) (hl:lvl<=600) (vT:mg (aae "law")=aac (.ref fa))
  (hL:IsL af.heap l ws.toArray 0) (hI:ait ws ns) (hn:ns.length<=63) {am:jb} (jO:g [.obj 0] [.lst (ns.map .int),.tab] = .ok (.bool true) am) (ed:am[1]?=aac .tab)
  (rJ:∀cls,c.raises args cls=false) (vU:c.post args (.bool true) args=true) :
  acC (aar prog w) callerA (.call (.ref fa) ⟨[.ref l],[]⟩) (GoodWG c cl vS args af) af:=by
 refine gc (WU T D h₀) λP cP Y hT TM=>?_;have W:=W ⟨prog,w,p,mg,mb,afC af.heap [P],af.os,U.name,bz,P,cY,[],TM⟩ rfl rfl rfl rfl rfl;refine yt W λNt fd body h1 h2 h3=>?_
 try clear W
 have e:Nt=fa:=by
  have vV:mg (aae "law")=aac (.ref Nt):=h1
  rw[vT] at vV;(injection vV with B;injection B with B;subst B);rfl
 clear vT;subst e
 generalize C:(⟨prog,w,p,mg,mb,afC af.heap [P],af.os,U.name,bz,P,cY,[],TM⟩ : aW)=K at h2 h3
 have Z:K.base=afC af.heap [P]:=by rw[<- C]
 have ko:K.os=af.os:=by rw[<- C]
 have kt:K.dh=P:=by rw[<- C]
 have kn:K.own=[]:=by rw[<- C]
 have kp:K.prog=prog:=by rw[<- C]
 have kw:K.w=w:=by rw[<- C]
 clear C;subst kp kw
 have hD:ws.length=ns.length:=by
  have:=(Il (K:=K) (h:=af.heap) (ρ:=[]) hI).length
  simpa using this
 have Io:l≠P:=λq=>by
  have e:af.heap.get? l=_:=hL;rw[q,Y] at e;(exfalso;exact nomatch e)
 have gr:GRel K [.lst (ns.map .int),.tab] [l,P] af:=by
  refine⟨hg,ko.symm,λzZ zZ e=>of_hideAll [P] (by rw[<- Z];exact e),rfl,?_,by simp[Io],?_,λa ha=>by rw[kn] at ha;(exfalso;exact nomatch ha)⟩
  ·intro k a c' h4 h5
   match k with
   | 0=>
    simp only[acd,aal] at h4 h5;subst h4 h5
    exact(qJ (by simp;exact Fs hn) ws 0 hL (Il hI))
   | 1=>
    simp only[aej,acd,aal] at h4 h5;subst h4 h5
    exact(sP kt.symm (#[]) Y trivial (λpos cv e=>by(injection e)))
   | k+2=>simp at h4
  ·intro k a h4 h5
   match k with
   | 0=>exact absurd rfl h5
   | 1=>
    simp only[aej,acd,aal] at h4;subst h4;refine aab Z ?_
    exact hideAll_none _ (by simp)
   | k+2=>simp at h4
 have u:=h3 callerA (WT hl) _ [l,P] af gr ⟨[],rfl,λzZ h=>by(exfalso;exact nomatch h)⟩ _ [.obj 0] [.ref l] rfl (aj.cons (Rep.aN.mpr (ja l rfl rfl)) aj.nil) (by refine aab jO ?_;simp)
 refine acR u λr s' h=>?_
 rcases h with⟨v,dX,w1,av,J,rfl,G,x1,r1⟩ | ⟨e0,dX,w1,av,J,_⟩
 ·rw[jO] at J
  (injection J with B fP;subst B fP)
  refine aab (Rep.dE.mp r1) ?_;have rK:av[1]?=aac P:=aI x1.pre rfl;refine ya (G.alive (aaM rK)) λoP eP kV=>?_;refine⟨.inl ⟨_,.bool true,[],rfl,rJ,.bool true,vU,unshared_nil⟩,⟨λb o e=>?_,λb o e=>?_⟩,G.os.trans ko,.of_eq G.gens⟩
  ·by_cases O:b=P
   ·clear kt h1 Io gr u x1;subst O
    rw[Y] at e;(injection e with B;subst B)
    refine uj (G.cell 1 b _ rK ed) λzZ WW ef zZ=>?_
    exact .inr (.inl (FX hT.isCodeTable rfl (#[]) WW rfl (by refine aab ef ?_;simp)))
   ·exact .inl (G.base b o (by refine aab Z ?_;exact ahM _ e (by simpa using O)))
  ·by_cases O:b=P
   ·clear Y hT kt h1 Io gr u x1 rK;subst O;exact⟨_,eP⟩
   ·exact⟨o,G.base b o (by refine aab Z ?_;exact ahM _ e (by simpa using O))⟩
 ·rw[jO] at J;(injection J)
end
section
variable{K:aW}{F:bd}
noncomputable def rL:List String->List V->M Unit
 | x::xs,v::vs=>do aR x v;rL xs vs
 | _,_=>pure ()
noncomputable def rM(names:List String):V->M Unit
 | .tup vs=>if vs.length=names.length then rL names.reverse vs.reverse else stuck
 | _=>stuck
theorem Nu(D:aV F):∀(names:List String) (vs:List V) (ws:List aaf) (σ:S) (ρ:List aai) (s:aah),Rel K F σ ρ s->aj K s.heap ρ vs ws->vs.length=names.length->(∀x∈names,F.env.kindOf (aae x)=aac .local)->
  Run K F (aev (names.map λn=>aea F.env (aae n)) ws) hV (rL names vs σ) ρ s
 | [],vs,ws,σ,ρ,s,rel,r,u,_=>by
  cases vs with
  | nil=>rw[aj.a7.mp r];exact Run.pure rel trivial
  | cons v vs=>simp at u
 | x::xs,vs,ws,σ,ρ,s,rel,r,u,hk=>by
  cases vs with
  | nil=>simp at u
  | cons v vs=>
   refine gc (aj.aG.mp r) λw B O U W=>?_;clear r;obtain rfl:=O
   show Run K F (do holding B (aea F.env (aae x) w);aev (xs.map λn=>aea F.env (aae n)) B) hV ((do aR x v;rL xs vs:M Unit) σ) ρ s
   have h1:Run K F (aea F.env (aae x) w) hV (aR x v σ) ρ s:=by
    have G:=hk x aaS;refine Run.ok (aiE ?_);refine xc rel.loc λm J=>?_
    refine aeC G J (λh' Y Z=>?_) (by refine aab D.kind ?_;rfl)
    refine ye (rel.fO (s':={s with heap:=h',toks:=s.toks+1}) G J Y Z U rfl rfl) λbh x'=>?_
    exact(je ρ bh x' trivial)
   refine Run.bind (Run.holding h1) λC ab ai af C C ae aL C=>?_
   exact Nu D xs vs B ab ai af ae (W.mono aL) (by simpa using u) (λy hy=>hk y (aaU _ hy))
theorem Nw(U:aV F){es:List Expr}{e:Expr}{m:M V}(pos:Pos){k:Nat}{D:Pos}(names:List String)(h:aU K F e m)(hk:∀x∈names,F.env.kindOf (aae x)=aac .local)
  (Z:af2 e (aac (.Tuple es k D)) pos.line F.env=pure false:=by rfl) (qR:ag2 [.Tuple es k D] e F.env=pure (aac (names.map aae)):=by rfl) (bJ:F.nh=true:=by rfl) :
  dk K F (.Assign [.Tuple es k D] e pos) (do let v <- m;rM names v;pure .next):=by
 intro σ ρ s rel;refine aab (MA ..) ?_;refine Run.standAt ?_
 (refine aab (show ag1 [.Tuple es k D] e pos.line F.env=pure false from Z) ?_;refine aab (qQ ..) ?_;refine aab (if_neg abz) ?_)
 refine Run.bind (h σ ρ s rel) λv C ai af w B ae aL r=>?_
 (refine aab qR ?_;refine aab (qQ ..) ?_)
 show Run K F (do rule "assign.swapped-stores";let items <- unpackItems w (names.map aae).length aam;aev ((names.map aae).reverse.map λn=>aea F.env n) items.reverse;(pure Flow.next:Sem Flow)) _ _ ai af
 refine Run.of_wp λG=>?_
 cases v with
 | tup vs=>
  by_cases J:vs.length=names.length
  ·refine qz r.fq λB a ws vX ht rl=>?_;clear r;obtain rfl:=vX
   have e1:(rM names (.tup vs) >>= λB=>(adO Fl.next:M Fl)) C=(rL names.reverse vs.reverse >>= λB=>(adO Fl.next:M Fl)) C:=by
    (refine aab (M.ap ..) ?_;refine aab (M.ap ..) ?_);simp only[rM,if_pos J]
   rw[e1] at G ⊢;refine aad (abf (aad ?_))
   have hn:(names.map aae).length=ws.toArray.size:=by simp only[aaP,aaH,rl.length,J]
   refine aab hn ?_;refine unpackItems_tuple (U.hd bJ) ht λh' hx=>?_;have W:=MF hx
   have bh:Rel K F C ai {af with heap:=h'}:=ae.kept W rfl rfl
   have O:Ext F.mine ai ai af.heap h':=Ext.kept W
   have e2:(names.map aae).reverse.map (λn=>aea F.env n)=names.reverse.map λn=>aea F.env (aae n):=by
    (rewrite[<- afK];refine aab aeN ?_);rfl
   refine aab e2 ?_
   have key:=Nu U names.reverse vs.reverse ws.reverse C ai {af with heap:=h'} bh (rl.mono O).reverse (by simp[J]) (λy hy=>hk y (by simpa using hy))
   refine aad (aap (Run.bq (P:=λB Y=>aao (aar K.prog K.w) F.A (pure Flow.next) (QO K F (q0 K) ((rL names.reverse vs.reverse >>= λB=>(adO Fl.next:M Fl)) C) ai af.heap) (EO K F ((rL names.reverse vs.reverse >>= λB=>(adO Fl.next:M Fl)) C) ai af.heap) Y) key G ?_) (λB B q=>q) (λB B q=>q.up O));intro u ar aC Y _ _ e4 aB aX _;refine aab e4 ?_;exact aak (ze .next ar aC rfl aB (O.trans aX) rfl)
  ·exact absurd (by refine aab (M.ap ..) ?_;simp only[rM,if_neg J];rfl) G
 | _=>exact absurd (by refine aab (M.ap ..) ?_;rfl) G
end
section
variable{K:aW}{F:bd}
noncomputable def Nx(K:aW)(op:agH)(f:V->V->M V):Prop :=
 ∀F:bd,aV F->∀σ ρ s a b u B,Rel K F σ ρ s->Rep K s.heap ρ a u->Rep K s.heap ρ b B->Run K F (inplaceOp op u B) (Rep K) (f a b σ) ρ s
noncomputable def WX:V->V->M V
 | .int a,.int b=>λσ=>.ok (.int (a+b)) σ
 | .obj l,.obj k=>λσ=>if l=0 then .stuck else match σ.st[l]?,σ.st[k]? with
  | some (.lst xs),aac (.lst u)=>if(xs++u).length<=1000000 then .ok (.obj l) {σ with st:=σ.st.set l (.lst (xs++u))} else .stuck
  | _,_=>.stuck
 | _,_=>λ_=>.stuck
noncomputable def Dd:V->V->M V
 | .int a,.int b=>λσ=>.ok (.int (a-b)) σ
 | _,_=>λ_=>.stuck
theorem Ny:Nx K .Sub Dd:=by
 intro F G σ ρ s a b J O rel ra B
 cases a with
 | int i=>
  cases b with
  | int j=>
   refine xc (Rep.aH.mp ra) λt C=>?_;clear ra;obtain rfl:=C;refine xc (Rep.aH.mp B) λu D=>?_;clear B;obtain rfl:=D;exact Run.ok (aji ⟨ρ,rel.tok _,Ext.refl ..,Rep.int ..⟩)
  | _=>exact Run.stuck
 | _=>exact Run.stuck
theorem WY(x:Str)(C pos:Pos)(op:agH)(u:Expr)(env:Env):exec (.AugAssign (.Name x C) op u pos) env=(do
  standAt C
  let B <- loadName env x
  let v <- holding [B] (abe u env)
  standAt pos
  let new <- operate [B,v] (inplaceOp op B v)
  standAt C
  aea env x new
  pure .next):=rfl
theorem WZ(B:aV F)(x:String)(D:(aae x==("__classdict__" : Str))=false){σ:S}{ρ:List aai}{s:aah}(rel:Rel K F σ ρ s):Run K F (loadName F.env (aae x)) (Rep K) (ah x σ) ρ s:=by
 unfold ah
 cases e:σ.lo x with
 | none=>exact Run.stuck
 | some v=>
  dsimp only;refine ya (rel.vars x v e) λw h1 h2=>?_;have u:∃av,Rel K F σ av s/\Ext F.mine ρ av s.heap s.heap/\Rep K s.heap av v w:=⟨ρ,rel,Ext.refl ..,h2⟩
  rcases h1 with⟨k,m,n,G⟩ | ⟨k | k,c,C,n⟩
  ·exact Run.ok (agW B.kind k n G u)
  ·exact Run.ok (ag6 B.kind k C n u)
  ·exact Run.ok (ag7 B.kind k C n u D)
theorem Nz(B:aV F){op:agH}{f:V->V->M V}(O:Nx K op f)(x:String){U:Pos}{e:Expr}{m:M V}(pos:Pos)(hk:F.env.kindOf (aae x)=aac .local)(h:aU K F e m)
  (W:(aae x==("__classdict__" : Str))=false:=by decide) :
  dk K F (.AugAssign (.Name (aae x) U) op e pos) (do let a <- ah x;let b <- m;let c <- f a b;aR x c;pure .next):=by
 intro σ ρ s rel;simp only[WY];refine Run.standAt (Run.bind (WZ B x W rel) λa Y ai af Z u ae aL ra=>?_);refine Run.bind (Run.holding (h Y ai af ae)) λb ar aC ay wb u aB aX rb=>?_;refine Run.standAt (Run.bind (Run.operate (O F B ar aC ay a b Z wb aB (ra.mono aX) rb)) λc aO D C wc u G bR rc=>?_);refine Run.standAt ?_
 have h1:Run K F (aea F.env (aae x) wc) hV (aR x c aO) D C:=by
  refine Run.ok (aiE ?_);refine xc G.loc λmm J=>?_
  refine aeC hk J (λh' hn hs=>?_) (by refine aab B.kind ?_;rfl)
  refine ye (G.fO (s':={C with heap:=h',toks:=C.toks+1}) hk J hn hs rc rfl rfl) λbh x'=>?_
  exact(je D bh x' trivial)
 exact Run.bind h1 λu fu fv d6 u u bA u u=>Run.pure bA rfl
noncomputable def oM:List V->M V
 | [.int a,.int b]=>λσ=>.ok (.int (if b<a then b else a)) σ
 | _=>λ_=>.stuck
noncomputable def oN:List V->M V
 | [.int a,.int b]=>λσ=>.ok (.int (if b>a then b else a)) σ
 | _=>λ_=>.stuck
theorem W0:w6 K (.builtin "min") oM:=by
 intro F B C σ ρ s vs ws rel r
 rcases(show oM vs σ = .stuck\/∃a b,vs=[.int a,.int b] by
  cases vs with
  | nil=>exact .inl rfl
  | cons v t=>
   cases v with
   | int a=>
    cases t with
    | nil=>exact .inl rfl
    | cons u t=>
     cases u with
     | int b=>
      cases t with
      | nil=>exact .inr (j7 _ _ rfl)
      | cons _ _=>exact .inl rfl
     | _=>exact .inl rfl
   | _=>exact .inl rfl) with h | ⟨a,b,rfl⟩
 ·refine aab h ?_;exact Run.stuck
 ·refine gc (aj.aG.mp r) λx r' D G J=>?_;obtain rfl:=D;refine gc (aj.aG.mp J) λy vt O U W=>?_;obtain rfl:=O;obtain rfl:=aj.a7.mp W;refine xc (Rep.aH.mp G) λt Y=>?_;obtain rfl:=Y;refine xc (Rep.aH.mp U) λu Z=>?_;obtain rfl:=Z;refine Run.ok (min_two_ints (B.hd C) λh' tk hk=>(je ρ (rel.kept hk rfl rfl) (Ext.kept hk) ?_))
  split<;>exact Rep.int ..
theorem W1:w6 K (.builtin "max") oN:=by
 intro F B C σ ρ s vs ws rel r
 rcases(show oN vs σ = .stuck\/∃a b,vs=[.int a,.int b] by
  cases vs with
  | nil=>exact .inl rfl
  | cons v t=>
   cases v with
   | int a=>
    cases t with
    | nil=>exact .inl rfl
    | cons u t=>
     cases u with
     | int b=>
      cases t with
      | nil=>exact .inr (j7 _ _ rfl)
      | cons _ _=>exact .inl rfl
     | _=>exact .inl rfl
   | _=>exact .inl rfl) with h | ⟨a,b,rfl⟩
 ·refine aab h ?_;exact Run.stuck
 ·refine gc (aj.aG.mp r) λx r' D G J=>?_;obtain rfl:=D;refine gc (aj.aG.mp J) λy vt O U W=>?_;obtain rfl:=O;obtain rfl:=aj.a7.mp W;refine xc (Rep.aH.mp G) λt Y=>?_;obtain rfl:=Y;refine xc (Rep.aH.mp U) λu Z=>?_;obtain rfl:=Z;refine Run.ok (max_two_ints (B.hd C) λh' tk hk=>(je ρ (rel.kept hk rfl rfl) (Ext.kept hk) ?_))
  split<;>exact Rep.int ..
theorem De{k:Option ae5}(h:k=aac .cell):k≠aac .local:=by refine aab h ?_;decide
theorem Df{cells:List (Str×aai)}:∀p∈([]:List (Str×aai)),cells.lookup p.1=aac p.2:=by intro p u;(exfalso;exact nomatch u)
theorem wE{cells cl:List (Str×aai)}{x:Str}{a:aai}(h:cells.lookup x=aac a)(u:∀p∈cl,cells.lookup p.1=aac p.2):∀p∈(x,a)::cl,cells.lookup p.1=aac p.2:=by
 intro p hp
 rcases aay.mp hp with rfl | hp
 ·exact h
 ·exact u p hp
theorem Dg{cl cells:List (Str×aai)}(u:∀p∈cl,cells.lookup p.1=aac p.2):∀x c,cl.lookup x=aac c->cells.lookup x=aac c :=
 λx c h=>u (x,c) (mem_of_lookup h)
end
noncomputable def bc{α:Type}(ask:Nat->Nat->Bool):KasT α->α
 | .ret a=>a
 | .ask i j k=>bc ask (k (ask i j))
theorem s8{α β:Type}(ask:Nat->Nat->Bool)(f:α->KasT β):∀t:KasT α,bc ask (t.bind f)=bc ask (f (bc ask t))
 | .ret a=>rfl
 | .ask i j k=>by
  show bc ask ((k (ask i j)).bind f)=_;refine aab (s8 ask f (k (ask i j))) ?_;rfl
structure Ask(n:Nat)(ask:Nat->Nat->Bool):Prop where
 asymm:∀i j,i<n->j<n->ask i j=true->ask j i=false
 trans:∀i j k,i<n->j<n->k<n->ask j i=false->ask k j=false->ask k i=false
noncomputable def bf(ask:Nat->Nat->Bool)(i j:Nat):Prop:=ask i j=true\/(ask i j=false/\ask j i=false/\i<j)
section
variable{n:Nat}{ask:Nat->Nat->Bool}
theorem Ask.kI(A:Ask n ask){i j k:Nat}(hi:i<n)(u:j<n)(hk:k<n)(h1:ask i j=true)(h2:ask k j=false):ask i k=true:=by
 cases e:ask i k with
 | true=>rfl
 | false=>have:=A.trans j k i u hk hi h2 e;rw[h1] at this;(injection this)
theorem Ask.pt(A:Ask n ask){i j k:Nat}(hi:i<n)(u:j<n)(hk:k<n)(h1:ask j i=false)(h2:ask j k=true):ask i k=true:=by
 cases e:ask i k with
 | true=>rfl
 | false=>have:=A.trans k i j hk hi u e h1;rw[h2] at this;(injection this)
theorem bf.not(A:Ask n ask){i j:Nat}(hi:i<n)(u:j<n)(h:bf ask i j):ask j i=false:=by
 rcases h with h | h
 ·exact A.asymm i j hi u h
 ·exact h.2.1
theorem bf.trans(A:Ask n ask){i j k:Nat}(hi:i<n)(u:j<n)(hk:k<n)(h1:bf ask i j)(h2:bf ask j k):bf ask i k:=by
 rcases h1 with h1 | ⟨h1,B,C⟩
 ·exact .inl (A.kI hi u hk h1 (bf.not A u hk h2))
 ·rcases h2 with h2 | ⟨h2,D,G⟩
  ·exact .inl (A.pt hi u hk B h2)
  ·exact .inr ⟨A.trans k j i hk u hi h2 h1,A.trans i j k hi u hk B D,by exact hM C G⟩
noncomputable def ba(p:Array Nat)(k:Nat):Nat:=p.getD k 0
theorem w9(p:Array Nat)(k:Nat):ba p k=p[k]?.getD 0:=by
 unfold ba;by_cases h:k<p.size<;>simp[aib,h]
theorem q9{p:Array Nat}{i j:Nat}(u:j<=p.size)(k:Nat):ba (acD p i j) k=if i<=k/\k<j then ba p (i+j-1-k) else ba p k:=by
 refine aab (w9 ..) ?_;unfold acD;refine aab (getElem?_mirror_all u ..) ?_
 split<;>rw[w9]
theorem W2{p:Array Nat}{u d:Nat}(B:u<p.size)(hd:d<=u)(k:Nat):ba (agt p u d) k=if k=u-d then ba p u else if u-d<k/\k<=u then ba p (k-1) else ba p k:=by
 (refine aab (w9 ..) ?_;refine aab (getElem?_bubble B d hd ..) ?_)
 repeat' split
 all_goals rw[w9]
noncomputable def Fix(n:Nat)(p:Array Nat)(m:Nat):Prop:=p.size=n/\∀k,k<n->(m<=k->ba p k=k)/\(k<m->ba p k<m)
theorem Fix.up{p:Array Nat}{a m:Nat}(h:Fix n p a)(B:a<=m):Fix n p m :=
 ⟨h.1,λk hk=>⟨λu=>(h.2 k hk).1 (by exact nX B u),λu=>by
  by_cases C:k<a
  ·have:=(h.2 k hk).2 C;exact nY this B
  ·rw[(h.2 k hk).1 (by exact qE C)];exact u⟩⟩
theorem Fix.lt{p:Array Nat}{a k:Nat}(h:Fix n p a)(B:a<=n)(hk:k<n):ba p k<n:=by
 by_cases u:k<a
 ·have:=(h.2 k hk).2 u;exact nY this B
 ·rw[(h.2 k hk).1 (by exact qE u)];exact hk
theorem Fix.rev{p:Array Nat}{a i j:Nat}(h:Fix n p a)(C:a<=n)(u:j<=a):Fix n (acD p i j) a:=by
 refine⟨(kas_rev_size i j).trans h.1,λk hk=>?_⟩
 rw[q9 (by rw[h.1];exact nX u C)]
 refine⟨λB=>?_,λB=>?_⟩
 ·rw[if_neg (by exact Ft u B)];exact(h.2 k hk).1 B
 ·split
  ·exact(h.2 _ (by exact Fu (by assumption) u C)).2 (by exact Fv (by assumption) u)
  ·exact(h.2 k hk).2 B
noncomputable def SP(ask:Nat->Nat->Bool)(p:Array Nat)(m:Nat):Prop:= ∀i j,i<j->j<m->bf ask (ba p i) (ba p j)
noncomputable def DP(ask:Nat->Nat->Bool)(p:Array Nat)(m:Nat):Prop:= ∀i j,i<j->j<m->bf ask (ba p j) (ba p i)
theorem It(A:Ask n ask){p:Array Nat}:∀(f a:Nat),1<=a->a+f<=n->Fix n p a->SP ask p a->
  a<=bc ask (acV p f a)/\bc ask (acV p f a)<=a+f/\SP ask p (bc ask (acV p f a))/\
  (bc ask (acV p f a)<a+f->ask (ba p (bc ask (acV p f a))) (ba p (bc ask (acV p f a)-1))=true)
 | 0,a,_,_,_,B=>⟨aaw _,aaw _,B,λh=>absurd h (afo _)⟩
 | f+1,a,h1,u,D,B=>by
  show _<=bc ask (if ask (ba p a) (ba p (a-1))=true then ace a else acV p f (a+1))/\bc ask (if ask (ba p a) (ba p (a-1))=true then ace a else acV p f (a+1))<=_/\
   SP ask p (bc ask (if ask (ba p a) (ba p (a-1))=true then ace a else acV p f (a+1)))/\
   (bc ask (if ask (ba p a) (ba p (a-1))=true then ace a else acV p f (a+1))<_->ask (ba p (bc ask (if ask (ba p a) (ba p (a-1))=true then ace a else acV p f (a+1)))) (ba p (bc ask (if ask (ba p a) (ba p (a-1))=true then ace a else acV p f (a+1))-1))=true)
  by_cases C:ask (ba p a) (ba p (a-1))=true
  ·refine aab (if_pos C) ?_;exact⟨aaw _,ab3 _ _,B,λzZ=>C⟩
  ·refine aab (if_neg C) ?_
   have O:ask (ba p a) (ba p (a-1))=false:=by simpa using C
   have U:ba p a=a:=(D.2 a (by exact Fw u)).1 (aaw _)
   have el:ba p (a-1)<a:=(D.2 (a-1) (by exact Fx u)).2 (by exact Fy h1)
   have W:bf ask (ba p (a-1)) (ba p a):=by
    cases e:ask (ba p (a-1)) (ba p a) with
    | true=>exact .inl e
    | false=>exact .inr ⟨e,O,by exact hS el U⟩
   have W3:SP ask p (a+1):=by
    intro i j G Y
    by_cases J:j<a
    ·exact B i j G J
    ·have:j=a:=by exact tP Y J
     clear h1 C O Y J;subst this
     by_cases hi:i=j-1
     ·subst hi;exact W
     ·exact bf.trans A (D.lt (by exact Fz u) (by exact t6 u G)) (by exact t6 u el) (by exact FD u U) (B i (j-1) (by exact qG G hi) (by exact t7 el)) W
   refine wrap λG_ Z=>?_
   obtain⟨r1,r2,r3,r4⟩:=It A f (a+1) (by exact FE) (by exact FF u) (D.up (by exact lO)) W3
   refine Z ?_;clear Z G_
   exact⟨by exact iE r1,by exact FH r2,r3,λh=>r4 (by exact FI h)⟩
structure Dn(n:Nat)(ask:Nat->Nat->Bool)(p:Array Nat)(c q:Nat):Prop where
 fix:Fix n p c
 le:c<=n
 qc:q+1<=c
 one:∀i j,i<j->j<c-(q+1)->bf ask (ba p j) (ba p i)
 two:∀i j,i<c-(q+1)->c-(q+1)<=j->j<c->ask (ba p j) (ba p i)=true
 three:∀i j,c-(q+1)<=i->i<j->j<c->ba p i<ba p j/\ask (ba p i) (ba p j)=false/\ask (ba p j) (ba p i)=false
theorem Dn.turn{p:Array Nat}{c q:Nat}(A:Ask n ask)(h:Dn n ask p c q):Fix n (acD p (c-(q+1)) c) c/\DP ask (acD p (c-(q+1)) c) c:=by
 have D:=h.le;have W:=h.qc;have G:=h.fix.1;refine⟨h.fix.rev D (aaw _),λi j B u=>?_⟩
 rw[q9 (by exact t8 D G),q9 (by exact t8 D G)]
 by_cases hi:c-(q+1)<=i
 ·(refine aab (if_pos ⟨by exact FJ hi B,u⟩) ?_;refine aab (if_pos ⟨hi,by exact hM B u⟩) ?_)
  obtain⟨J,O,U⟩:=h.three (c-(q+1)+c-1-j) (c-(q+1)+c-1-i) (by exact t9 u) (by exact FK u B) (by exact FL hi u)
  exact .inr ⟨O,U,J⟩
 ·by_cases C:c-(q+1)<=j
  ·rw[if_pos ⟨C,u⟩,if_neg (by exact qH hi)]
   exact .inl (h.two i _ (by exact ua hi) (by exact t9 u) (by exact FM C hi))
  ·rw[if_neg (by exact qH C),if_neg (by exact qH hi)]
   exact h.one i j B (by exact ua C)
theorem Dn.flat{p:Array Nat}{c:Nat}(h:Dn n ask p c 0):DP ask p c:=by
 intro i j u B;have D:=h.qc
 by_cases C:j<c-1
 ·exact h.one i j u (by exact FN C)
 ·exact .inl (h.two i j (by exact FO u B) (by exact FP C) B)
theorem Dn.next{p:Array Nat}{c:Nat}(hF:Fix n p c)(hc:c<n)(hd:DP ask p c)(hx:∀i,i<c->ask (ba p c) (ba p i)=true):Dn n ask p (c+1) 0 where
 fix:=hF.up (by exact lO)
 le:=by exact lN hc
 qc:=by exact FQ
 one:=λi j dO hj=>hd i j dO (by exact ub hj)
 two:=λi j hi h1 h2=>by
  have:j=c:=by exact FR h1 h2
  clear hF hc hd
  subst this;exact hx i (by exact ub hi)
 three:=λi j h1 h2 h3=>by(exfalso;exact FS h1 h2 h3)
theorem Dh(A:Ask n ask):∀(f:Nat) (p:Array Nat) (c q:Nat),Dn n ask p c q->c+f=n->
  Dn n ask (bc ask (abA f p c q)).1 (bc ask (abA f p c q)).2.1 (bc ask (abA f p c q)).2.2/\c<=(bc ask (abA f p c q)).2.1
 | 0,p,c,q,h,_=>⟨h,aaw _⟩
 | f+1,p,c,q,h,u=>by
  have hq:=h.qc
  have G:ba p c=c:=(h.fix.2 c (by exact nZ u)).1 (aaw _)
  have C:ba p (c-1)<n:=h.fix.lt h.le (by exact FT u)
  have oO:∀i,i<c->ask (ba p i) (ba p (c-1))=false:=by
   intro i hi
   by_cases h1:i<c-(q+1)
   ·exact A.asymm _ _ C (h.fix.lt h.le (by exact FU u h1)) (h.two i (c-1) h1 (by exact uc) (by exact FV h1))
   ·by_cases h2:i=c-1
    ·subst h2
     cases e:ask (ba p (c-1)) (ba p (c-1)) with
     | false=>rfl
     | true=>have:=A.asymm _ _ C C e;rw[e] at this;(exfalso;exact nomatch this)
    ·exact(h.three i (c-1) (by exact FW h1) (by exact qG hi h2) (by exact t7 hi)).2.1
  have Y:bc ask (abA (f+1) p c q)=bc ask (if ask (ba p c) (ba p (c-1))=true then(if q>0 then abA f (acD p (c-(q+1)) c) (c+1) 0 else abA f p (c+1) 0)
    else .ask (ba p (c-1)) (ba p c) λd=>if d=true then .ret (p,c,q) else abA f p (c+1) (q+1)):=rfl
  refine aab Y ?_
  by_cases D:ask (ba p c) (ba p (c-1))=true
  ·refine aab (if_pos D) ?_
   have dN:∀i,i<c->ask (ba p c) (ba p i)=true:=λi hi=>A.kI (by exact n0 u G) C (h.fix.lt h.le (by exact qI u hi)) D (oO i hi)
   by_cases Z:q>0
   ·refine aab (if_pos Z) ?_;refine ye (h.turn A) λt1 t2=>?_
    have e2:ba (acD p (c-(q+1)) c) c=ba p c:=by rw[q9 (by rw[h.fix.1];exact ud u),if_neg (by exact Ra)]
    have hd:=Dn.next t1 (by exact nZ u) t2 (λi hi=>by
     rw[e2,q9 (by rw[h.fix.1];exact ud u)]
     split
     ·exact dN _ (by exact Rb (by assumption))
     ·exact dN i hi)
    obtain⟨J,O⟩:=Dh A f _ (c+1) 0 hd (by exact Cp u)
    exact⟨J,by exact iE O⟩
   ·refine aab (if_neg Z) ?_
    have:q=0:=by exact K0 Z
    clear Y Z;subst this
    obtain⟨J,O⟩:=Dh A f _ (c+1) 0 (Dn.next h.fix (by exact nZ u) h.flat dN) (by exact Cp u)
    exact⟨J,by exact iE O⟩
  ·refine aab (if_neg D) ?_
   have fH:ask (ba p c) (ba p (c-1))=false:=by simpa using D
   show Dn n ask (bc ask (if ask (ba p (c-1)) (ba p c)=true then ace (p,c,q) else abA f p (c+1) (q+1))).1 _ _/\_
   by_cases U:ask (ba p (c-1)) (ba p c)=true
   ·have e:bc ask (if ask (ba p (c-1)) (ba p c)=true then ace (p,c,q) else abA f p (c+1) (q+1))=(p,c,q):=by refine aab (if_pos U) ?_;rfl
    have W:bc ask (ai2 (ba p (c-1)) (ba p c) λd=>if d=true then ace (p,c,q) else abA f p (c+1) (q+1))=(p,c,q):=e
    (rewrite[e];refine aab W ?_)
    exact⟨h,aaw _⟩
   ·have ft:ask (ba p (c-1)) (ba p c)=false:=by simpa using U
    have e:bc ask (if ask (ba p (c-1)) (ba p c)=true then ace (p,c,q) else abA f p (c+1) (q+1))=bc ask (abA f p (c+1) (q+1)):=by exact aab (if_neg U) rfl
    have W:bc ask (ai2 (ba p (c-1)) (ba p c) λd=>if d=true then ace (p,c,q) else abA f p (c+1) (q+1))=bc ask (abA f p (c+1) (q+1)):=e
    (rewrite[e];refine aab W ?_)
    have hd:Dn n ask p (c+1) (q+1):=by
     refine⟨h.fix.up (by exact lO),by exact Rc u,by exact Rd hq,λi j dO B=>h.one i j dO (by exact EI B),λi j hi h1 h2=>?_,λi j h1 h2 h3=>?_⟩
     ·by_cases B:j<c
      ·exact h.two i j (by exact EI hi) (by exact EJ h1) B
      ·have:j=c:=by exact tP h2 B
       clear Y D U e W;subst this
       exact A.pt (by exact n0 u G) C (h.fix.lt h.le (by exact Re u hi)) ft (h.two i (j-1) (by exact EI hi) (by exact uc) (by exact Rf hi))
     ·by_cases B:j<c
      ·exact h.three i j (by exact EJ h1) h2 B
      ·have:j=c:=by exact tP h3 B
       clear Y D U e W h3 B;subst this
       have NA:ba p i<n:=h.fix.lt h.le (by exact qI u h2)
       refine⟨by refine aab G ?_;exact(h.fix.2 i (by exact qI u h2)).2 (by exact h2),?_,?_⟩
       ·-- ask p[i] p[c]=false: p[c]<=p[c-1]<=p[i]
        exact A.trans _ _ _ (by exact n0 u G) C NA ft (oO i (by exact h2))
       ·-- ask p[c] p[i]=false: p[i]<=p[c-1]<=p[c]
        by_cases lc:i=j-1
        ·subst lc;exact fH
        ·exact A.trans _ _ _ NA C (by exact n0 u G) (h.three i (j-1) (by exact EJ h1) (by exact qG h2 lc) (by exact Rg hq)).2.2 fH
    obtain⟨J,O⟩:=Dh A f p (c+1) (q+1) hd (by exact Cp u)
    exact⟨J,by exact iE O⟩
theorem k9(p:Array Nat)(i j:Nat):(acD p i j).Perm p:=mirror_perm ..
theorem wF:∀(f:Nat) (p:Array Nat) (c q:Nat),(bc ask (abA f p c q)).1.Perm p
 | 0,p,c,q=>ad5 _
 | f+1,p,c,q=>by
  have u:bc ask (abA (f+1) p c q)=bc ask (if ask (ba p c) (ba p (c-1))=true then(if q>0 then abA f (acD p (c-(q+1)) c) (c+1) 0 else abA f p (c+1) 0)
    else .ask (ba p (c-1)) (ba p c) λd=>if d=true then .ret (p,c,q) else abA f p (c+1) (q+1)):=rfl
  refine aab u ?_
  split
  ·split
   ·exact(wF f _ _ _).trans (k9 ..)
   ·exact wF f _ _ _
  ·have B:bc ask (ai2 (ba p (c-1)) (ba p c) λd=>if d=true then ace (p,c,q) else abA f p (c+1) (q+1))=bc ask (if ask (ba p (c-1)) (ba p c)=true then ace (p,c,q) else abA f p (c+1) (q+1)):=rfl
   refine aab B ?_
   split
   ·exact ad5 _
   ·exact wF f _ _ _
theorem DP.turn{p:Array Nat}{c:Nat}(h:DP ask p c)(B:c<=p.size):SP ask (acD p 0 c) c:=by
 intro i j C u
 (refine aab (q9 B ..) ?_;refine aab (q9 B ..) ?_;refine aab (if_pos ⟨by exact way,by exact hM C u⟩) ?_;refine aab (if_pos ⟨by exact way,u⟩) ?_)
 exact h _ _ (by exact K1 u C) (by exact K2 u)
theorem SP.turn{p:Array Nat}{c:Nat}(h:SP ask p c)(B:c<=p.size):DP ask (acD p 0 c) c:=by
 intro i j C u
 (refine aab (q9 B ..) ?_;refine aab (q9 B ..) ?_;refine aab (if_pos ⟨by exact way,u⟩) ?_;refine aab (if_pos ⟨by exact way,by exact hM C u⟩) ?_)
 exact h _ _ (by exact K1 u C) (by exact K2 u)
noncomputable def Good(n:Nat)(ask:Nat->Nat->Bool)(u:Array Nat)(r:Nat×Array Nat):Prop:=1<=r.1/\r.1<=n/\Fix n r.2 r.1/\SP ask r.2 r.1/\r.2.Perm u
theorem NB(A:Ask n ask){p:Array Nat}{c:Nat}(B:Fix n p c)(u:c<=n)(h1:1<=c)(hd:DP ask p c):Good n ask p (bc ask (ahb c n p)):=by
 unfold ahb;refine aab (s8 ..) ?_;have C:Fix n (acD p 0 c) c:=B.rev u (aaw _)
 obtain⟨D,G,J,O⟩:=It A (p:=acD p 0 c) (n-c) c h1 (by exact Rh u) C (hd.turn (by refine aab B.1 ?_;exact u))
 show Good n ask p (bc ask (acV (acD p 0 c) (n-c) c),acD p 0 c)
 exact⟨by dsimp only;exact Ri h1 D,by dsimp only;exact Rj G u,C.up D,J,k9 ..⟩
theorem NC(A:Ask n ask){p:Array Nat}{m:Nat}(hF:Fix n p m)(hm:m<n)(h1:1<=m)(hd:DP ask p m)(hx:∀i,i<m->ask (ba p m) (ba p i)=true):Good n ask p (bc ask (aeO m n p)):=by
 unfold aeO;refine aab (s8 ..) ?_
 obtain⟨u,C⟩:=Dh A (n-(m+1)) p (m+1) 0 (Dn.next hF hm hd hx) (by exact Rk hm)
 have D:=wF (ask:=ask) (n-(m+1)) p (m+1) 0
 generalize bc ask (abA (n-(m+1)) p (m+1) 0)=r at u C D ⊢
 obtain⟨p',c,q⟩:=r;dsimp only at u C D ⊢
 by_cases G:q>0
 ·refine aab (if_pos G) ?_;refine ye (u.turn A) λt1 t2=>?_;refine wrap λJ B=>?_
  obtain⟨O,U,W,Y,Z⟩:=NB A t1 u.le (by exact K3 C) t2
  refine B ?_;clear B J;exact⟨O,U,W,Y,Z.trans ((k9 ..).trans D)⟩
 ·refine aab (if_neg G) ?_
  have:q=0:=by exact K0 G
  clear G;subst this;refine wrap λJ B=>?_
  obtain⟨O,U,W,Y,Z⟩:=NB A u.fix u.le (by exact K3 C) u.flat
  refine B ?_;clear B J;exact⟨O,U,W,Y,Z.trans D⟩
theorem ND(A:Ask n ask){p:Array Nat}(O:1<=n)(G:Fix n p 1):Good n ask p (bc ask (af5 n p)):=by
 unfold af5;refine aab (s8 ..) ?_
 obtain⟨B,U,C,W⟩:=It A (p:=p) (n-1) 1 (aaw _) (by exact Rl O) G (λi j h1 h2=>by(exfalso;exact K4 h2 h1))
 generalize bc ask (acV p (n-1) 1)=m at B U C W ⊢
 by_cases J:m=n
 ·subst J
  rw[if_pos (by simp)]
  exact⟨O,aaw _,G.up B,C,ad5 _⟩
 ·rw[if_neg (by simpa using J)]
  have u:m<n:=by exact Rm O U J
  have hx:=W (by exact Rn u)
  have D:=G.up (m:=m) B;have em:ba p m=m:=(D.2 m u).1 (aaw _)
  have fx:∀k,k<n->ba p k<n:=λk hk=>D.lt (by exact Cq u) hk
  by_cases h1:m>1
  ·refine aab (if_pos h1) ?_
   show Good n ask p (bc ask (if ask (ba p 0) (ba p (m-1))=true then ace (m,p) else aeO m n (acD p 0 m)))
   by_cases Y:ask (ba p 0) (ba p (m-1))=true
   ·refine aab (if_pos Y) ?_;exact⟨B,adi u,D,C,ad5 _⟩
   ·refine aab (if_neg Y) ?_
    have ft:ask (ba p 0) (ba p (m-1))=false:=by simpa using Y
    have Z:m<=p.size:=by refine aab G.1 ?_;exact Cq u
    have hD:∀i,i<m->ask (ba p i) (ba p (m-1))=false:=by
     intro i hi
     have h0:ask (ba p i) (ba p 0)=false:=by
      by_cases NG:i=0
      ·subst NG
       cases e:ask (ba p 0) (ba p 0) with
       | false=>rfl
       | true=>have:=A.asymm _ _ (fx 0 (by exact qD u)) (fx 0 (by exact qD u)) e;rw[e] at this;(exfalso;exact nomatch this)
      ·exact bf.not A (fx 0 (by exact qD u)) (fx i (by exact hM hi u)) (C 0 i (by exact K5 NG) hi)
     exact A.trans _ _ _ (fx _ (by exact EL u)) (fx 0 (by exact qD u)) (fx i (by exact hM hi u)) ft h0
    obtain⟨g1,g2,g3,g4,g5⟩:=NC A (p:=acD p 0 m) (D.rev (by exact Cq u) (aaw _)) u (by exact Ro h1) (SP.turn C Z) (λi hi=>by
     rw[q9 Z,q9 Z,if_neg (by exact Rp),if_pos ⟨by exact way,hi⟩]
     exact A.kI (by exact Rq em u) (fx _ (by exact EL u)) (fx _ (by exact Rr u)) hx (hD _ (by exact Rs hi)))
    exact⟨g1,g2,g3,g4,g5.trans (k9 ..)⟩
  ·refine aab (if_neg h1) ?_
   have:m=1:=by exact Rt B h1
   clear B U C W J em;subst this
   exact NC A D u (aaw _) (λi j h1 h2=>by(exfalso;exact K4 h2 h1)) (λi hi=>by
    have:i=0:=by exact Ru hi
    clear hi
    subst this;exact hx)
theorem Iw(A:Ask n ask){p:Array Nat}{k:Nat}(hk:k<n)(J:Fix n p k)(G:SP ask p k):∀(f l r:Nat),l<=r->r<=k->r-l<=f->(∀i,i<l->ask (ba p k) (ba p i)=false)->(∀i,r<=i->i<k->ask (ba p k) (ba p i)=true)->
  bc ask (acs p k f l r)<=k/\(∀i,i<bc ask (acs p k f l r)->ask (ba p k) (ba p i)=false)/\(∀i,bc ask (acs p k f l r)<=i->i<k->ask (ba p k) (ba p i)=true)
 | 0,l,r,h1,h2,h3,h4,h5=>by
  have:l=r:=by exact Rv h3 h1
  subst this;exact⟨h2,h4,h5⟩
 | f+1,l,r,h1,h2,h3,h4,h5=>by
  have fx:∀i,i<n->ba p i<n:=λi hi=>J.lt (by exact Cq hk) hi
  have e:bc ask (acs p k (f+1) l r)=bc ask (if l≥r then ace l else if ask (ba p k) (ba p ((l+r) / 2))=true then acs p k f l ((l+r) / 2) else acs p k f ((l+r) / 2+1) r):=by
   show bc ask (if l≥r then ace l else .ask (p.getD k 0) (p.getD ((l+r) / 2) 0) λc=>if c=true then acs p k f l ((l+r) / 2) else acs p k f ((l+r) / 2+1) r)=_
   split<;>rfl
  refine aab e ?_
  by_cases u:l≥r
  ·refine aab (if_pos u) ?_
   have:l=r:=by exact Rw h1 u
   subst this;exact⟨h2,h4,h5⟩
  ·refine aab (if_neg u) ?_
   by_cases B:ask (ba p k) (ba p ((l+r) / 2))=true
   ·refine aab (if_pos B) ?_
    refine Iw A hk J G f l ((l+r) / 2) (by exact Rx u) (by exact Ry h2 u) (by exact Rz h3) h4 λi hi C=>?_
    by_cases D:i=(l+r) / 2
    ·subst D;exact B
    ·exact A.kI (fx k hk) (fx _ (by exact K6 hi C hk)) (fx i (by exact hM C hk)) B (bf.not A (fx _ (by exact K6 hi C hk)) (fx i (by exact hM C hk)) (G _ i (by exact RA hi D) C))
   ·refine aab (if_neg B) ?_
    have O:ask (ba p k) (ba p ((l+r) / 2))=false:=by simpa using B
    refine Iw A hk J G f ((l+r) / 2+1) r (by exact RB u) h2 (by exact RC h3) (λi hi=>?_) h5
    by_cases D:i=(l+r) / 2
    ·subst D;exact O
    ·exact A.trans _ _ _ (fx i (by exact K7 hi h2 hk u)) (fx _ (by exact K8 h2 hk u)) (fx k hk) (bf.not A (fx i (by exact K7 hi h2 hk u)) (fx _ (by exact K8 h2 hk u)) (G i _ (by exact RD hi D) (by exact RE h2 u))) O
theorem NH(A:Ask n ask):∀(f:Nat) (p:Array Nat) (k:Nat),k+f=n->Fix n p k->SP ask p k->Fix n (bc ask (afD f p k)) n/\SP ask (bc ask (afD f p k)) n/\(bc ask (afD f p k)).Perm p
 | 0,p,k,U,B,G=>by
  have:k=n:=by exact RF U
  subst this;exact⟨B,G,ad5 _⟩
 | f+1,p,k,U,B,G=>by
  have hk:k<n:=by exact nZ U
  (refine aab (show afD (f+1) p k=(acs p k k 0 k).bind (λl=>afD f (agt p k (k-l)) (k+1)) from rfl) ?_;refine aab (s8 ..) ?_)
  obtain⟨J,Y,Z⟩:=Iw A hk B G k 0 k (by exact way) (aaw _) (by exact RG) (λi hi=>by(exfalso;exact EP hi)) (λi h1 h2=>by(exfalso;exact RH h2 h1))
  generalize bc ask (acs p k k 0 k)=x at J Y Z ⊢
  have dW:=B.1;have ek:ba p k=k:=(B.2 k hk).1 (aaw _)
  have W:∀i,ba (agt p k (k-x)) i=if i=x then ba p k else if x<i/\i<=k then ba p (i-1) else ba p i:=by
   intro i
   rw[W2 (by exact hS hk dW) (by exact RI),show k-(k-x)=x by exact RJ J]
  have Dj:Fix n (agt p k (k-x)) (k+1):=by
   refine⟨(bubble_size ..).trans dW,λi hi=>?_⟩;refine aab (W ..) ?_;refine⟨λh=>?_,λh=>?_⟩
   ·rw[if_neg (by exact RK h J),if_neg (by exact RL h)];exact(B.2 i hi).1 (by exact iE h)
   ·split
    ·exact RM ek
    ·split
     ·have:=(B.2 (i-1) (by exact EL hi)).2 (by exact RN (by assumption));exact EQ this
     ·have:=(B.2 i hi).2 (by exact K9 h J (by assumption) (by assumption));exact EQ this
  have lj:SP ask (agt p k (k-x)) (k+1):=by
   intro i j u C
   (refine aab (W ..) ?_;refine aab (W ..) ?_)
   by_cases hi:i<x
   ·rw[if_neg (by exact Cr hi),if_neg (by exact RO hi)]
    by_cases O:j=x
    ·refine aab (if_pos O) ?_;have h1:=Y i hi
     cases e:ask (ba p i) (ba p k) with
     | true=>exact .inl e
     | false=>exact .inr ⟨e,h1,by refine aab ek ?_;exact(B.2 i (by exact RP hi C O hk)).2 (by exact RR hi C O)⟩
    ·refine aab (if_neg O) ?_
     split
     ·exact G i (j-1) (by exact RS (by assumption) hi) (by exact ER C u)
     ·exact G i j u (by exact K9 C J (by assumption) O)
   ·by_cases D:i=x
    ·rw[if_pos D,if_neg (by exact RT u D),if_pos ⟨by exact La u D,by exact Lb C⟩]
     exact .inl (Z (j-1) (by exact RU u D) (by exact ER C u))
    ·rw[if_neg D,if_pos ⟨by exact RV hi D,by exact RW u C⟩,if_neg (by exact RX u hi),if_pos ⟨by exact RY u hi,by exact Lb C⟩]
     exact G (i-1) (j-1) (by exact RZ u hi D) (by exact ER C u)
  obtain⟨q1,q2,q3⟩:=NH A f (agt p k (k-x)) (k+1) (by exact Cp U) Dj lj
  exact⟨q1,q2,q3.trans (bubble_perm ..)⟩
theorem NI(n:Nat):Fix n (ack (aaF n)) 0:=by
 refine⟨by simp,λk hk=>⟨λu=>?_,λh=>by exact R0 h⟩⟩
 refine aab (w9 ..) ?_;simp[hk]
theorem Iy(A:Ask n ask)(U:1<=n):(bc ask (acI n)).size=n/\(bc ask (acI n)).toList.Perm (aaF n)/\(bc ask (acI n)).toList.Pairwise (bf ask):=by
 unfold acI;refine aab (s8 ..) ?_;refine wrap λG_ W=>?_
 obtain⟨O,C,D,G,J⟩:=ND A (p:=ack (aaF n)) U ((NI n).up (by exact L0))
 refine W ?_;clear W G_
 generalize bc ask (af5 n (ack (aaF n)))=r at O C D G J ⊢
 obtain⟨m,p⟩:=r;dsimp only at O C D G J ⊢
 have u:∀q:Array Nat,Fix n q n->SP ask q n->q.Perm (ack (aaF n))->q.size=n/\q.toList.Perm (aaF n)/\q.toList.Pairwise (bf ask):=by
  intro q Y hs hp
  refine⟨Y.1,by simpa using hp.toList,?_⟩
  simp only[List.pairwise_iff_getElem];intro i j hi hj dO
  have rP:i<q.size:=by simpa using hi
  have Z:j<q.size:=by simpa using hj
  have:=hs i j dO (by refine adg Y.1 ?_;exact Z)
  rw[w9,w9] at this
  simpa [rP,Z] using this
 by_cases B:m<n
 ·refine aab (if_pos B) ?_
  have:max m 1=m:=by exact R1 O
  refine aab this ?_
  obtain⟨q1,q2,q3⟩:=NH A (n-m) p m (by exact R2 B) D G
  exact u _ q1 q2 (q3.trans J)
 ·refine aab (if_neg B) ?_
  have:m=n:=by exact R3 C B
  clear A U C B;subst this;exact u p D G J
end
noncomputable def gJ{α:Type}(n:Nat)(ask:Nat->Nat->Bool):KasT α->Prop
 | .ret _=>True
 | .ask i j k=>i<n/\j<n/\gJ n ask (k (ask i j))
theorem gJ.bind{α β:Type}{n:Nat}{ask:Nat->Nat->Bool}{f:α->KasT β}:∀{t:KasT α},gJ n ask t->gJ n ask (f (bc ask t))->gJ n ask (t.bind f)
 | .ret a,_,h=>h
 | .ask i j k,h,h'=>⟨h.1,h.2.1,gJ.bind h.2.2 h'⟩
theorem Iz{α:Type}{n:Nat}{u:Nat->Nat->(Bool->aah->Prop)->aah->Prop}{ask:Nat->Nat->Bool}{s:aah}{Q:α->aah->Prop}(B:∀i j C,i<n->j<n->C (ask i j) s->u i j C s):∀t:KasT α,gJ n ask t->Q (bc ask t) s->t.kasWp u Q s
 | .ret a,_,h=>h
 | .ask i j k,hk,h=>B i j _ hk.1 hk.2.1 (Iz B (k (ask i j)) hk.2.2 h)
section
variable{n:Nat}{ask:Nat->Nat->Bool}
noncomputable def mN(n:Nat)(p:Array Nat):Prop:= ∀k,ba p k<n
theorem mN.perm{p q:Array Nat}(h:mN n p)(u:q.Perm p):mN n q:=by
 intro k;refine aab (w9 ..) ?_
 by_cases hk:k<q.size
 ·have B:q[k]∈p:=u.mem_iff.mp (Array.getElem_mem hk);obtain⟨j,C,e⟩:=Array.mem_iff_getElem.mp B;have:=h j;rw[w9] at this;simp only[C,getElem?_pos,ah0] at this;simp only[hk,getElem?_pos,ah0];exact La this e
 ·have:=h p.size;rw[w9] at this
  simp at this
  simp[hk];exact this
theorem IA{p:Array Nat}(u:mN n p):∀f a,gJ n ask (acV p f a)
 | 0,_=>trivial
 | f+1,a=>by
  refine⟨u a,u (a-1),?_⟩;dsimp only
  split
  ·trivial
  ·exact IA u f (a+1)
theorem Dk:∀(f:Nat) (p:Array Nat) (c q:Nat),mN n p->gJ n ask (abA f p c q)
 | 0,_,_,_,_=>trivial
 | f+1,p,c,q,u=>by
  refine⟨u c,u (c-1),?_⟩;dsimp only
  split
  ·split
   ·exact Dk f _ _ _ (u.perm (k9 ..))
   ·exact Dk f _ _ _ u
  ·refine⟨u (c-1),u c,?_⟩;dsimp only
   split
   ·trivial
   ·exact Dk f _ _ _ u
theorem NJ{p:Array Nat}(u:mN n p)(c m:Nat):gJ n ask (ahb c m p):=by
 unfold ahb;exact gJ.bind (IA (u.perm (k9 ..)) _ _) trivial
theorem NK{p:Array Nat}(u:mN n p)(c m:Nat):gJ n ask (aeO c m p):=by
 unfold aeO;refine gJ.bind (Dk _ _ _ _ u) ?_;have B:=u.perm (wF (ask:=ask) (m-(c+1)) p (c+1) 0)
 split
 ·exact NJ (B.perm (k9 ..)) _ _
 ·exact NJ B _ _
theorem W4{p:Array Nat}(u:mN n p)(m:Nat):gJ n ask (af5 m p):=by
 unfold af5;refine gJ.bind (IA u _ _) ?_
 split
 ·trivial
 ·split
  ·refine⟨u 0,u _,?_⟩;dsimp only
   split
   ·trivial
   ·exact NK (u.perm (k9 ..)) _ _
  ·exact NK u _ _
theorem IB{p:Array Nat}(u:mN n p)(k:Nat):∀f l r,gJ n ask (acs p k f l r)
 | 0,_,_=>trivial
 | f+1,l,r=>by
  show gJ n ask (if l≥r then ace l else .ask (p.getD k 0) (p.getD ((l+r) / 2) 0) λc=>if c=true then acs p k f l ((l+r) / 2) else acs p k f ((l+r) / 2+1) r)
  split
  ·trivial
  ·refine⟨u k,u _,?_⟩;dsimp only
   split
   ·exact IB u k f _ _
   ·exact IB u k f _ _
theorem NL:∀(f:Nat) (p:Array Nat) (k:Nat),mN n p->gJ n ask (afD f p k)
 | 0,_,_,_=>trivial
 | f+1,p,k,u=>by
  show gJ n ask ((acs p k k 0 k).bind λl=>afD f (agt p k (k-l)) (k+1));exact gJ.bind (IB u k _ _ _) (NL f _ _ (u.perm (bubble_perm ..)))
theorem NM(A:Ask n ask)(u:1<=n):gJ n ask (acI n):=by
 have B:mN n (ack (aaF n)):=by
  intro k;refine aab (w9 ..) ?_
  by_cases hk:k<n<;>simp[hk]<;>exact R4 u
 unfold acI;refine gJ.bind (W4 B n) ?_;refine wrap λD C=>?_
 obtain⟨J,O,U,W,G⟩:=ND A (p:=ack (aaF n)) u ((NI n).up (by exact L0))
 refine C ?_;clear C D
 split
 ·exact NL _ _ _ (B.perm G)
 ·trivial
end
section
variable{prog:aa0}{w:abC}{A:aaE}{E:aaf->aah->Prop}{s:aah}
noncomputable def zg(h:aat)(a:aai)(vs:List aaf):aat:=((h.update a (aaG λ_ => #[])).push (aa5 "tuple" vs.toArray 0)).push (aa5 "list" #[] 0)
noncomputable def nG(ask:Nat->Nat->Bool)(vs:List aaf):List aaf:=(bc ask (acI vs.length)).toList.map λi=>vs.getD i aaI
noncomputable def wh(h:aat)(vs:List aaf):aat:=((h.push (aa5 "list" #[] 0)).update h.objs.size (aaG (· ++ vs.toArray))).push (aa5 "list" vs.toArray 0)
end
section
variable{K:aW}{F:bd}
noncomputable def cc:List Int->List Int->Bool
 | [],[]=>false
 | [],_::_=>true
 | _::_,[]=>false
 | a::as,b::bs=>if a=b then cc as bs else decide (a<b)
section
variable{prog:aa0}{w:abC}{A:aaE}{E:aaf->aah->Prop}{s:aah}
end
noncomputable def Dl(ask:Nat->Nat->Bool)(vs:List V):List V:=(bc ask (acI vs.length)).toList.map λi=>vs.getD i V.none
theorem NN{h:aat}{ρ:List aai}{vs:List V}{ws:List aaf}(r:aj K h ρ vs ws){i:Nat}(hi:i<vs.length):Rep K h ρ (vs.getD i V.none) (ws.getD i aaI):=by
 refine ya (r.get? (aav hi)) λw e q=>?_;have u:i<ws.length:=(aaY.mp e).1;simp only[aaO,aaO,e,aav hi];exact q
theorem NO{h:aat}{ρ:List aai}{vs:List V}{ws:List aaf}(r:aj K h ρ vs ws):∀is:List Nat,(∀i∈is,i<vs.length)->aj K h ρ (is.map λi=>vs.getD i V.none) (is.map λi=>ws.getD i aaI)
 | [],_=>aj.nil
 | i::is,hi=>aj.cons (NN r (hi i aaS)) (NO r is λj u=>hi j (aaU _ u))
theorem wt(a b:Int)(as bs:List Int):cc (a::as) (b::bs)=if a=b then cc as bs else decide (a<b):=rfl
theorem ta:cc [] []=false:=rfl
theorem wI:∀as bs:List Int,cc as bs=true->cc bs as=false
 | [],[],h=>by(exfalso;exact nomatch h)
 | [],_::_,_=>rfl
 | _::_,[],h=>by(injection h)
 | a::as,b::bs,h=>by
  rw[wt] at h ⊢
  by_cases u:a=b
  ·subst u;simp only[if_true] at h ⊢;exact wI as bs h
  ·rw[if_neg u] at h;refine aab (if_neg (aaR u)) ?_
   simp at h ⊢;exact acj h
theorem IC:∀as bs B:List Int,cc bs as=false->cc B bs=false->cc B as=false
 | [],[],[],_,_=>rfl
 | [],_::_,[],_,h=>by(injection h)
 | [],_,_::_,_,_=>rfl
 | _::_,[],_,h,_=>by(injection h)
 | _::_,_::_,[],_,h=>by(injection h)
 | a::as,b::bs,c::B,h1,h2=>by
  rw[wt] at h1 h2 ⊢
  by_cases C:b=a
  ·subst C;simp only[if_true] at h1
   by_cases u:c=b
   ·subst u;simp only[if_true] at h2 ⊢;exact IC as bs B h1 h2
   ·rw[if_neg u] at h2 ⊢;exact h2
  ·rw[if_neg C] at h1
   by_cases u:c=b
   ·subst u;refine aab (if_neg C) ?_;exact h1
   ·rw[if_neg u] at h2
    simp at h1 h2
    rw[if_neg (by exact R5 h1 h2 u)]
    simp;exact aa8 h1 h2
theorem W5{n:Nat}{ask:Nat->Nat->Bool}(A:Ask n ask)(u:1<=n):∀i∈(bc ask (acI n)).toList,i<n:=by
 intro i hi;have:=(Iy A u).2.1.mem_iff.mp hi
 simpa using this
theorem wJ{h:aat}{ws:List aaf}:∀b o,h.get? b=aac o->(zg (wh h ws) (h.objs.size+1) ws).get? b=aac o:=by
 intro b o e;have u:b<h.objs.size:=abG e;unfold zg wh;refine aaj _ (aaj _ ?_);rw[ab2 _ _ _ _ (abp (adH u))];refine aaj _ ?_;rw[ab2 _ _ _ _ (abp u)];exact aaj _ e
theorem W6{h:aat}{xs:List aaf}{out:Array aaf}:∀b o,h.get? b=aac o->(aec h xs out).get? b=aac o:=by
 intro b o e;have u:b<h.objs.size:=abG e;have C:b≠h.objs.size:=abp u;have B:b≠h.objs.size+1:=abp (adH u);unfold aec acx;rw[ab2 _ _ _ _ B];refine aaj _ (aaj _ ?_);rw[ab2 _ _ _ _ B];refine aaj _ ?_;rw[ab2 _ _ _ _ C];exact aaj _ e
theorem W7{h:aat}{xs:List aaf}{out:Array aaf}:∃m,IsL (aec h xs out) (h.objs.size+1) out m:=by
 have u:((h.push (aa5 "list" #[] 0)).update h.objs.size (aaG (· ++ xs.toArray))).objs.size=h.objs.size+1:=by
  (refine aab (abh ..) ?_;exact abU ..)
 have B:(((h.push (aa5 "list" #[] 0)).update h.objs.size (aaG (· ++ xs.toArray))).push (aa5 "list" xs.toArray 0)).get? (h.objs.size+1)=aac (aa5 "list" xs.toArray 0):=by
  rw[<- u];exact aaA _ rfl
 unfold aec acx;have h1:=abJ B (λC=>(#[]:Array aaf))
 exact⟨_,abJ (aaj (aa5 "list" #[] 0) (aaj (aa5 "tuple" xs.toArray 0) h1)) (λC=>out)⟩
end
section
variable{prog:aa0}{w:abC}{A:aaE}{E:aaf->aah->Prop}{s:aah}
theorem ID(a:aai):abg.«list.sort» ⟨[.ref a],[(aae "reverse",.bool true)]⟩=(do
  let items <- acn (.ref a)
  acG (.ref a) λD => #[]
  let B <- ahQ a
  let C <- ae4 items.toList
  let G <- newList []
  holding [C,G] do
   rule "list.sort.reverse"
   let kind <- if items.size<2 then pure ai3 else ahR items
   let((),s) <- (if items.size<2 then pure () else sortRuns').run (adt kind (items.zip items).reverse #[] 7 aam)
   let sorted:=(afZ s).map (·.2)
   let u:=(<- ahQ a) != B
   acG (.ref a) λD=>sorted.reverse
   if let aac e:=agL s then rule "list.sort.comparison-raised";throw e
   if u then rule "list.sort.modified";raiseError "ValueError" "list modified during sort"
   ret .none):=rfl
theorem NP(vs:List aaf):(vs.toArray.zip vs.toArray).reverse=afE vs.reverse:=by
 apply adl.mp
 refine aab (pairsOf_toList ..) ?_;simp only[adU,afL]
 apply afM
 ·simp
 ·intro i h1 h2
  simp[agY,List.getElem_zip]
theorem NQ{a:aai}{vs:List aaf}{n:Nat}{κ:agM}{ask:Nat->Nat->Bool}{P:af4->aah->Prop}(B:s.heap.get? a=aac (aa5 "list" vs.toArray n))(h2:2<=vs.length)(D:vs.length<64)
  (W8:∀Q:agM->aah->Prop,Q κ {s with heap:=zg s.heap a vs}->aao (aar prog w) A (ahR vs.toArray) Q E {s with heap:=zg s.heap a vs})
  (hA:Ask vs.length ask) (IE:∀i j (C:Bool->aah->Prop),i<vs.length->j<vs.length->C (ask i j) {s with heap:=zg s.heap a vs}->kas_ask prog w A κ vs.reverse i j C {s with heap:=zg s.heap a vs})
  (h:P (.done (.ret .none)) {s with heap:=acx s.heap a vs (nG ask vs.reverse).reverse.toArray}) :
  aao (aar prog w) A (abg.«list.sort» ⟨[.ref a],[(aae "reverse",.bool true)]⟩) P E s:=by
 refine aab (ID ..) ?_;have U:a<s.heap.objs.size:=abG B;refine aad (aa2 B rfl ?_)
 refine aad (abY B rfl ?_ (by simp only[aaH,aa1];exact Lc D) (aaL _))
 obtain⟨O,W⟩ : ∃O,(s.heap.update a (aaG λu=>(#[]:Array aaf))).get? a=aac (aa5 "list" #[] O):=⟨_,abJ B (λu => #[])⟩
 refine aad (adD W rfl ?_)
 refine aad (add ?_ (by show vs.length<=_;refine aab aa1 ?_;exact Lc D))
 refine aad (ac0 ?_ (aaL _));refine aaN ?_
 have Y:(zg s.heap a vs).get? a=aac (aa5 "list" #[] O):=by
  unfold zg
  rw[acf _ _ _ (by rw[abU,abh];exact abp (adH U)),acf _ _ _ (by rw[abh];exact abp U)]
  exact W
 show aao (aar prog w) A _ P E {s with heap:=zg s.heap a vs}
 dsimp only;refine aad (abf ?_)
 have Z:¬vs.toArray.size<2:=by refine aab aaH ?_;exact R6 h2
 (refine aab (if_neg Z) ?_;refine aab (if_neg Z) ?_)
 refine aad (W8 _ ?_);have J:vs.reverse.length=vs.length:=aba
 have IF:adt κ (vs.toArray.zip vs.toArray).reverse #[] 7 aam=kas_st κ (afE vs.reverse) (ack (aaF vs.reverse.length)):=by
  have e:=kas_range (afE vs.reverse);rw[pairsOf_size] at e;show adt κ _ #[] 7 aam=adt κ ((ack (aaF vs.reverse.length)).map (aex (afE vs.reverse))) #[] 7 aam
  (refine aab e ?_;exact aab (NP ..) rfl)
 have run:=kas_runs (prog:=prog) (w:=w) (A:=A) (κ:=κ) (it:=afE vs.reverse) (E:=E) (n:=vs.reverse.length) (s:={s with heap:=zg s.heap a vs}) (Q:=λu am s'=>s'={s with heap:=zg s.heap a vs}/\∃p:Array Nat,p=bc ask (acI vs.reverse.length)/\p.size=vs.reverse.length/\afZ am=p.map (aex (afE vs.reverse))/\agL am=aam)
  (G:=λp s'=>s'={s with heap:=zg s.heap a vs}/\p=bc ask (acI vs.reverse.length)) (by exact ET h2 J) (by exact R7 J D) (λp' am s' a1 a2 a3 a4=>⟨a4.1,p',a4.2,a1,a2,a3⟩)
  (Iz (n:=vs.length) (ask:=ask) (λi j C hi hj hC=>by have:=IE i j C hi hj hC;rw[kas_ask_eq] at this;exact this) _ (by refine aab J ?_;exact NM hA (by exact R8 h2)) ⟨rfl,rfl⟩)
 rw[<- IF] at run;refine aad (aap run ?_ λu u e=>e)
 rintro⟨⟨⟩,am⟩ s' ⟨rfl,p,rfl,hp,wL,hf⟩
 dsimp only
 have dC:((afZ am).map (·.2)).reverse=(nG ask vs.reverse).reverse.toArray:=by
  apply adl.mp
  (refine aab adU ?_;refine aab wL ?_;refine aab aiS ?_;refine aab aez ?_)
  congr 1
  exact ado λi u=>by show(aex (afE vs.reverse) i).2=_;exact aab (kas_item_eq ..) rfl
 refine aab dC ?_
 have dW:(nG ask vs.reverse).reverse.toArray.size=vs.length:=by(refine aab aaH ?_;refine aab aba ?_);unfold nG;(refine aab (aaP ..) ?_;refine aab aeZ ?_;refine aab hp ?_;exact J)
 refine aad (adD Y rfl ?_)
 refine aad (abY Y rfl ?_ (aaL _) (by(refine aab dW ?_;refine aab aa1 ?_);exact R9 D))
 refine aab hf ?_;simp only[bne_self_eq_false,aaW,if_false];exact aak h
theorem NR(a:aaf):aeJ "list.sort" ⟨[a],[(aae "reverse",.bool true)]⟩:=by unfold aeJ;kernel_rfl
end
section
variable{K:aW}{F:bd}
section
variable{prog:aa0}{w:abC}{A:aaE}{E:aaf->aah->Prop}{s:aah}
theorem NS{vs:List aaf}:((vs.toArray.zip vs.toArray).map (·.2))=vs.toArray:=by
 apply adl.mp
 simp only[aez,afL];exact ah1 (aaw _)
theorem NT(k:agM)(a:Array Keyed):afZ (adt k a #[] 7 aam)=a:=rfl
theorem Dm{vs:List aaf}(h:vs.length<2):vs.reverse=vs:=by
 rcases vs with _ | ⟨a,_ | ⟨b,l⟩⟩
 ·rfl
 ·rfl
 ·exact absurd h (by simp only[abL,abL];exact aeK.mpr (aii 2 _))
theorem NU{a:aai}{vs:List aaf}{n:Nat}{P:af4->aah->Prop}(u:s.heap.get? a=aac (aa5 "list" vs.toArray n))(h2:vs.length<2)
  (h:P (.done (.ret .none)) {s with heap:=acx s.heap a vs vs.toArray}) (D:List (Str×aaf)) (U:D=[]\/D=[(aae "reverse",.bool true)]) :
  aao (aar prog w) A (abg.«list.sort» ⟨[.ref a],D⟩) P E s:=by
 have O:a<s.heap.objs.size:=abG u
 obtain⟨G,J⟩ : ∃G,(s.heap.update a (aaG λW=>(#[]:Array aaf))).get? a=aac (aa5 "list" #[] G):=⟨_,abJ u (λW => #[])⟩
 have B:(zg s.heap a vs).get? a=aac (aa5 "list" #[] G):=by
  unfold zg
  rw[acf _ _ _ (by rw[abU,abh];exact abp (adH O)),acf _ _ _ (by rw[abh];exact abp O)]
  exact J
 have C:vs.toArray.size<2:=by refine aab aaH ?_;exact h2
 rcases U with rfl | rfl
 ·refine aab (list_sort_plain ..) ?_;refine aad (aa2 u rfl ?_)
  refine aad (abY u rfl ?_ (by(refine aab aaH ?_;refine aab aa1 ?_);exact Cs h2) (aaL _))
  refine aad (adD J rfl ?_)
  refine aad (add ?_ (by show vs.length<=_;refine aab aa1 ?_;exact Cs h2))
  refine aad (ac0 ?_ (aaL _));refine aaN ?_
  show aao (aar prog w) A _ P E {s with heap:=zg s.heap a vs}
  dsimp only
  (refine aab (if_pos C) ?_;refine aab (if_pos C) ?_)
  refine aad (aak ?_);refine aab (StateT.run_pure ..) ?_;refine aad (aak ?_);dsimp only;refine aab (NT ..) ?_;refine aab NS ?_;refine aad (adD B rfl ?_)
  refine aad (abY B rfl ?_ (aaL _) (by(refine aab aaH ?_;refine aab aa1 ?_);exact Ld h2))
  (refine aab (bne_self_eq_false ..) ?_;refine aab (if_neg abz) ?_)
  exact aak h
 ·refine aab (ID ..) ?_;refine aad (aa2 u rfl ?_)
  refine aad (abY u rfl ?_ (by(refine aab aaH ?_;refine aab aa1 ?_);exact Cs h2) (aaL _))
  refine aad (adD J rfl ?_)
  refine aad (add ?_ (by show vs.length<=_;refine aab aa1 ?_;exact Cs h2))
  refine aad (ac0 ?_ (aaL _));refine aaN ?_
  show aao (aar prog w) A _ P E {s with heap:=zg s.heap a vs}
  dsimp only;refine aad (abf ?_)
  (refine aab (if_pos C) ?_;refine aab (if_pos C) ?_)
  refine aad (aak ?_);refine aab (StateT.run_pure ..) ?_;refine aad (aak ?_);dsimp only
  have e:((vs.toArray.zip vs.toArray).reverse.map (·.2)).reverse=vs.toArray:=by
   (refine aab (NP ..) ?_;refine aab (Dm h2) ?_)
   show((vs.toArray.zip vs.toArray).map (·.2)).reverse=_;refine aab NS ?_
   apply adl.mp
   refine aab adU ?_;exact Dm h2
  refine aab (NT ..) ?_;refine aab e ?_;refine aad (adD B rfl ?_)
  refine aad (abY B rfl ?_ (aaL _) (by(refine aab aaH ?_;refine aab aa1 ?_);exact Ld h2))
  (refine aab (bne_self_eq_false ..) ?_;refine aab (if_neg abz) ?_)
  exact aak h
end
section
variable{prog:aa0}{w:abC}{A:aaE}{E:aaf->aah->Prop}{s:aah}
end
theorem rR{α:Type}{d:α}{xs:List α}{i:Nat}(h:i<xs.length):xs.reverse.getD i d=xs.getD (xs.length-1-i) d:=by
 simp[aaO,aeE h]
theorem NV(x:Str)(u pos:Pos)(args:List Expr)(B:List Keyword)(env:Env):abe (.Call (.Name x u) args B pos) env=(do ae6 pos (<- abe (.Name x u) env) [] (ad9 pos (abu args env)) (backToKw pos (keywordEach B env))):=rfl
end
section
variable{K:aW}{F:bd}
end
section
variable{K:aW}{F:bd}
open PySem.SeqAt PySem.MeetsSeq PySem.MeetsSeq3
noncomputable def IG(x y:PyData):Option Bool:=fx y x
noncomputable def te:PyData->PyData->Option Bool:=C4 dL (λxs u=>oB IG (decide (u.length<xs.length)) xs u) IG
noncomputable def ie(A:aaE)(s:aah)(y x:aaf)(b:Bool):Prop :=
 ∀(prog:aa0) (w:abC) (E:aaf->aah->Prop) (Q:aaf->aah->Prop),Q (.bool b) s->aao (aar prog w) A (adC .Gt y x) Q E s
noncomputable def th(A:aaE)(s:aah)(u:Bool):List (aaf×aaf)->Bool->Prop:=oC (ie A s) A s u
theorem Xa(l b:aai)(items B:Array aaf)(n J:Nat)(O U:Option aai)(W Y:Array (Option aaf))(r:Bool):
  adQ (abg.«tuple.__gt__» ⟨[.ref l,.ref b],[]⟩)
   (λA R s=>s.heap.get? l=aac {cls:= .type "tuple",dict:=O,data:= .seq items n,slots:=W}/\s.heap.get? b=aac {cls:= .type "tuple",dict:=U,data:= .seq B J,slots:=Y}/\
    th A.in1 s (decide (B.size<items.size)) (items.toList.zip B.toList) r/\R (.ok (.ret (.bool r))) s) :=
 .of_wp λprog w A R s h=>by
  obtain⟨G,g,d,tk,os⟩:=s;refine kh h ?_;try clear h;intro Z hb he h
  have f2:=afP
  wp_walk using abI Z,abI hb,ahY _ (λu b s'=>b.1=aam/\s'=⟨G,g,d,tk,os⟩/\th A.in1 ⟨G,g,d,tk,os⟩ (decide (B.size<items.size)) u r) _
  case turn=>
   rintro⟨y,x⟩ u b s' ⟨D,rfl,e,rj,C⟩
   refine aad (rj prog w _ _ ?_)
   cases e with
   | true=>
    simp only[if_true] at C
    wp_walk
    exact⟨rfl,rfl,C⟩
   | false=>
    simp only[aaW,if_false] at C;simp only[adK,if_true];refine aad (abf (aad (C prog w _ _ ?_)))
    wp_walk
    exact(ja _ rfl h)
  case fin=>
   rintro⟨b1,b2⟩ s' ⟨D,rfl,Hg⟩
   simp only at D;subst D
   wp_walk
   have:r=decide (B.size<items.size):=Hg;refine(ja _ rfl ?_);rw[this] at h;exact h
  case h=>exact⟨rfl,rfl,he⟩
theorem Xb(l b:aai)(items u:Array aaf)(n Y:Nat)(Z gH:Option aai)(sl gI:Array (Option aaf))(r:Bool)(k:Nat):
  ∀i:Nat,min items.size u.size-i=k->adQ (abg.«list.__eq__.loop» ⟨[.ref l,.ref b,aaV i,aaV 4],[]⟩)
   (λA R s=>s.heap.get? l=aac {cls:= .type "list",dict:=Z,data:= .seq items n,slots:=sl}/\s.heap.get? b=aac {cls:= .type "list",dict:=gH,data:= .seq u Y,slots:=gI}/\
    th A.in1 s (decide (u.size<items.size)) ((items.toList.zip u.toList).drop i) r/\R (.ok (.ret (.bool r))) s):=by
 induction k with
 | zero=>
  intro i hk prog w A R s h
  obtain⟨hp,g,d,tk,os⟩:=s;refine kh h ?_;try clear h;intro B C D h
  show aao _ _ (acn (.ref l) >>= _) _ _ _;refine aad (aa2 B rfl (aad (aa2 C rfl ?_)))
  have hd:(items.toList.zip u.toList).drop i=[]:=by simp;exact tT hk
  rw[hd] at D;have hr:r=decide (u.size<items.size):=D
  have Hh:items[((i:Nat):Int).toNat]?=aam\/u[((i:Nat):Int).toNat]?=aam:=by
   simp;exact tU hk
  rw[hr] at h
  rcases Hh with hi | hi
  ·refine aab hi ?_;exact aad (aa2 B rfl (aad (aa2 C rfl (aak h))))
  ·refine aab hi ?_
   cases items[((i:Nat):Int).toNat]? <;> exact aad (aa2 B rfl (aad (aa2 C rfl (aak h))))
 | succ k ih=>
  intro i hk prog w A R s h
  obtain⟨hp,g,d,tk,os⟩:=s;refine kh h ?_;try clear h;intro B C D h
  show aao _ _ (acn (.ref l) >>= _) _ _ _;refine aad (aa2 B rfl (aad (aa2 C rfl ?_)))
  have J:i<items.size:=by exact Sa hk
  have O:i<u.size:=by exact Sb hk
  have U:items[((i:Nat):Int).toNat]?=aac items[i]:=by simp[J]
  have W:u[((i:Nat):Int).toNat]?=aac u[i]:=by simp[O]
  have hd:(items.toList.zip u.toList).drop i=(items[i],u[i])::(items.toList.zip u.toList).drop (i+1):=by
   rw[afz (by simp;exact tV J O)];simp
  have hc:((i:Int)+1)=((i+1:Nat):Int):=by push_cast;rfl
  rw[hd] at D;refine ya D λe rj G=>?_
  try clear D
  (refine aab U ?_;refine aab W ?_)
  refine aad (rj prog w _ _ ?_)
  cases e with
  | true=>
   simp only[if_true] at G
   wp_walk
   refine aab hc ?_
   exact⟨ac2 plain_eq_loop _,acX entry_eq_loop (by
    refine aab (ab9 plain_eq_loop _) ?_
    exact ih (i+1) (by exact Sc hk) prog w A R _ ⟨B,C,G,h⟩)⟩
  | false=>
   simp only[aaW,if_false] at G ⊢;refine aad (aa2 B rfl (aad (aa2 C rfl ?_)))
   (refine aab U ?_;refine aab W ?_)
   refine aad (G prog w _ _ ?_)
   wp_walk
   exact h
theorem Xc(l b:aai)(items u:Array aaf)(n B:Nat)(C D:Option aai)(G J:Array (Option aaf))(r:Bool):
  adQ (abg.«list.__gt__» ⟨[.ref l,.ref b],[]⟩)
   (λA R s=>s.heap.get? l=aac {cls:= .type "list",dict:=C,data:= .seq items n,slots:=G}/\s.heap.get? b=aac {cls:= .type "list",dict:=D,data:= .seq u B,slots:=J}/\
    th A.in1 s (decide (u.size<items.size)) (items.toList.zip u.toList) r/\R (.ok (.ret (.bool r))) s):=by
 intro prog w A R s h
 obtain⟨Y,g,d,tk,os⟩:=s;refine kh h ?_;try clear h;intro O U W h
 have Z:=agl
 wp_walk using abI O,abI U
 exact⟨ac2 plain_eq_loop _,acX entry_eq_loop (by
  refine aab (ab9 plain_eq_loop _) ?_
  exact Xb l b items u n B C D G J r _ 0 rfl prog w A R _ ⟨O,U,by simpa using W,h⟩)⟩
theorem ie.lists{A:aaE}{s:aah}{l b:aai}{items C:Array aaf}{r:Bool}(W:s.heap.IsList l items)(Y:s.heap.IsList b C)(Z:A.units<acw)
  (he:th A.in1 s (decide (C.size<items.size)) (items.toList.zip C.toList) r):ie A s (.ref l) (.ref b) r:=λprog w E Q h=>by
 refine yj (id W) λwM G J n hd=>?_;refine wrap λD u=>?_;obtain⟨cls,dd,data,sl⟩:=wM;refine u ?_;clear u D;refine yj (id Y) λwN O U n2 B=>?_;refine wrap λD u=>?_;obtain⟨oD,gH,data2,gI⟩:=wN;refine u ?_;clear u D;simp only at J hd U B;subst J hd U B
 exact adE (op:= .Gt) ⟨_,G,rfl⟩ ⟨_,O,rfl⟩ PySem.F.slot_list_gt PySem.F.entry_list_gt (PySem.F.args_list_gt_2 _ _) (Xc l b items C n n2 dd gH sl gI r)
  ⟨G,O,he,show agQ r≠adT/\Q (.bool r) s from⟨(λx=>nomatch x),h⟩⟩ Z
theorem ie.tuples{A:aaE}{s:aah}{l b:aai}{items C:Array aaf}{r:Bool}(W:s.heap.IsTuple l items)(Y:s.heap.IsTuple b C)(Z:A.units<acw)
  (he:th A.in1 s (decide (C.size<items.size)) (items.toList.zip C.toList) r):ie A s (.ref l) (.ref b) r:=λprog w E Q h=>by
 refine yj (id W) λwO G J n hd=>?_;refine wrap λD u=>?_;obtain⟨cls,dd,data,sl⟩:=wO;refine u ?_;clear u D;refine yj (id Y) λwP O U n2 B=>?_;refine wrap λD u=>?_;obtain⟨oD,gH,data2,gI⟩:=wP;refine u ?_;clear u D;simp only at J hd U B;subst J hd U B
 exact adE (op:= .Gt) ⟨_,G,rfl⟩ ⟨_,O,rfl⟩ PySem.F.slot_tuple_gt PySem.F.entry_tuple_gt (PySem.F.args_tuple_gt_2 _ _) (Xa l b items C n n2 dd gH sl gI r)
  ⟨G,O,he,show agQ r≠adT/\Q (.bool r) s from⟨(λx=>nomatch x),h⟩⟩ Z
theorem NX{B C:PyData}{A:aaE}{s:aah}{a b:aaf}{as bs:List aai}{r:Bool}(ra:aco s.heap a B as)(D:aco s.heap b C bs)(e:IG B C=aac r):ie A s a b r:=by
 refine gc (M3 e) λi j G J O=>?_;obtain rfl:=G;obtain rfl:=J;obtain rfl:=O;refine ya (adX ra) λt U W=>?_;obtain rfl:=U;refine ya (adX D) λu Y W=>?_;obtain rfl:=Y;exact λprog w E Q h=>gt_int h
theorem Xd(u B:PyData)(A:aaE)(s:aah)(a b:aaf)(as bs:List aai)(r:Bool)(ra:aco s.heap a u as)(C:aco s.heap b B bs)(O:u.canLay0=true)(U:B.canLay0=true)
  (G:A.units+min u.depth B.depth<acw) (e:te u B=aac r):ie A s a b r:=by
 rcases Hf e with⟨xs,ys,h1,h2,e⟩ | e
 ·obtain rfl:=C3 h1;obtain rfl:=C3 h2;refine gd (adk ra) λa l bs W D Y rl=>?_;obtain rfl:=W;refine gd (adk C) λb m cs Z D hm J=>?_;obtain rfl:=Z;have q:=C5 (P:=ie A.in1 s) (A:=A.in1) (λx y a b as bs ra C D D D e=>NX ra C e) _ _ _ _ _ _ rl J O U (room_in G) e;rw[<- ReadsAll.length _ _ _ rl,<- ReadsAll.length _ _ _ J] at q;exact ie.lists Y hm (room_here G) q
 ·exact NX ra C e
end
section
variable{K:aW}{F:bd}
noncomputable def tj(u:PyData->PyData->Option Bool)(ds:List PyData):Bool:=ds.all λa=>ds.all λb=>(u a b).isSome
noncomputable def b9(u:PyData->PyData->Option Bool)(ds:List PyData)(i j:Nat):Bool:=match ds[i]?,ds[j]? with
 | some a,aac b=>(u a b).getD false
 | _,_=>false
theorem Xe{u:PyData->PyData->Option Bool}{ds:List PyData}{i j:Nat}{a b:PyData}(h:tj u ds=true)(h1:ds[i]?=aac a)(h2:ds[j]?=aac b):∃r,u a b=aac r:=by
 have:=(abV.mp ((abV.mp h) a (aaM h1))) b (aaM h2);exact afO.mp this
theorem NY{α β:Type}{f:α->Option β}:∀{vs:List α} {ds:List β} {i:Nat} {v:α},bw f vs=aac ds->vs[i]?=aac v->∃d,ds[i]?=aac d/\f v=aac d
 | [],_,_,_,_,h=>by simp at h
 | u::vs,ds,i,v,hd,h=>by
  refine gc (C0 hd) λd B C D G=>?_;obtain rfl:=G
  cases i with
  | zero=>simp at h;subst h;exact(ja d (by simp) C)
  | succ i=>
   refine ya (NY (i:=i) D (by simpa using h)) λJ h1 h2=>?_
   exact(ja J (by simpa using h1) h2)
section
variable{prog:aa0}{w:abC}{A:aaE}{R:aeI->aah->Prop}{I:aai}{fp wr:List aai}{n:Nat}{P:Nat->aaf->Prop}{St:Nat->aat->Prop}{h₀:aat}
end
section
variable{prog:aa0}{w:abC}{A:aaE}{E:aaf->aah->Prop}{s:aah}
end
section
variable{prog:aa0}{w:abC}{A:aaE}{R:aeI->aah->Prop}{I:aai}{fp wr:List aai}{n:Nat}{P:Nat->aaf->Prop}{St:Nat->aat->Prop}{h₀:aat}
end
section
variable{prog:aa0}{w:abC}{A:aaE}{E:aaf->aah->Prop}{s:aah}
end
end
section
variable{K:aW}{F:bd}
noncomputable def aW.adds(K:aW)(ow:List aai):aW:={K with own:=ow++K.own}
mutual
theorem Rep.adds{h:aat}{ρ:List aai}{ow:List aai}(h0:∀t∈ow,h.get? t=aam):∀{v:V} {w:aaf},Rep K h ρ v w->Rep (K.adds ow) h ρ v w
 | .none,_,r=>r
 | .bool _,_,r=>r
 | .int _,_,r=>r
 | .str _,_,r=>r
 | .tup vs,w,r=>by
  refine F4 (Rep.cV.mp r) λB a ws e t r q=>?_;refine Rep.cV.mpr (ue B a ws e t (aj.adds h0 r) (λhm=>?_))
  rcases abd.mp hm with hm | hm
  ·refine ya t λo u C=>?_
   try clear t
   rw[h0 a hm] at u;(injection u)
  ·exact q hm
 | .obj l,w,r=>r
 | .fn x,_,r=>r
 | .ch _ _ _,_,r=>r
 | .gN,_,r=>r
theorem aj.adds{h:aat}{ρ:List aai}{ow:List aai}(h0:∀t∈ow,h.get? t=aam):∀{vs:List V} {ws:List aaf},aj K h ρ vs ws->aj (K.adds ow) h ρ vs ws
 | [],_,r=>r
 | v::vs,ws,r=>by
  refine gc (aj.aG.mp r) λx u e B C=>?_;exact aj.aG.mpr (ke x u e (Rep.adds h0 B) (aj.adds h0 C))
end
mutual
theorem Rep.drop{h:aat}{ρ:List aai}{ow:List aai}:∀{v:V} {w:aaf},Rep (K.adds ow) h ρ v w->Rep K h ρ v w
 | .none,_,r=>r
 | .bool _,_,r=>r
 | .int _,_,r=>r
 | .str _,_,r=>r
 | .tup vs,w,r=>by
  refine F4 (Rep.cV.mp r) λu a ws e t r q=>?_;exact Rep.cV.mpr (ue u a ws e t (aj.drop' r) (λB=>q (adL _ B)))
 | .obj l,w,r=>r
 | .fn x,_,r=>r
 | .ch _ _ _,_,r=>r
 | .gN,_,r=>r
theorem aj.drop'{h:aat}{ρ:List aai}{ow:List aai}:∀{vs:List V} {ws:List aaf},aj (K.adds ow) h ρ vs ws->aj K h ρ vs ws
 | [],_,r=>r
 | v::vs,ws,r=>by
  refine gc (aj.aG.mp r) λx u e B C=>?_;exact aj.aG.mpr (ke x u e (Rep.drop B) (aj.drop' C))
end
theorem j5.map{K u:aW}{h:aat}{ρ:List aai}{cl:List (Str×aai)}(f:∀v w,Rep K h ρ v w->Rep u h ρ v w):∀{xs:List String} {vs:List V},j5 K h ρ cl xs vs->j5 u h ρ cl xs vs
 | [],_,x=>x
 | _::_,_,⟨v,r,c,w,B,C,D,G,J⟩=>(qj v r c w B C D (f _ _ G) (j5.map f J))
theorem qm.adds{h:aat}{ρ:List aai}{ow:List aai}(h0:∀t∈ow,h.get? t=aam){c:bn}{a:aai}(x:qm K h ρ c a):qm (K.adds ow) h ρ c a:=by
 cases c with
 | lst vs=>obtain⟨h1,ws,n,h2,h3⟩:=x;exact(qJ h1 ws n h2 (h3.adds h0))
 | dD k cK=>obtain⟨cl,pm,c,u,e,B,C,D⟩:=x;exact(ui cl pm c u e B C (D.map λG G r=>r.adds h0))
 | _=>exact x
theorem qm.drop{h:aat}{ρ:List aai}{ow:List aai}{c:bn}{a:aai}(x:qm (K.adds ow) h ρ c a):qm K h ρ c a:=by
 cases c with
 | lst vs=>obtain⟨h1,ws,n,h2,h3⟩:=x;exact(qJ h1 ws n h2 h3.drop')
 | dD k cK=>obtain⟨cl,pm,c,u,e,B,C,D⟩:=x;exact(ui cl pm c u e B C (D.map λG G r=>r.drop))
 | _=>exact x
theorem GRel.drop{st:jb}{ρ:List aai}{s:aah}{ow:List aai}(g:GRel (K.adds ow) st ρ s):GRel K st ρ s :=
 ⟨g.gens,g.os,g.base,g.len,λl a c h1 h2=>(g.cell l a c h1 h2).drop,g.nodup,g.above,λa u=>g.own a (adL _ u)⟩
theorem GRel.adds{st:jb}{ρ:List aai}{s s':aah}{ow:List aai}(g:GRel K st ρ s)(h0:∀t∈ow,s.heap.get? t=aam)(hk:∀b o,s.heap.get? b=aac o->s'.heap.get? b=aac o)
  (hg:s'.gens=s.gens) (ho:s'.os=s.os) (ht:∀t∈ow,∃o,s'.heap.get? t=aac o/\o.cls = .type "tuple" /\ ∃xs n,o.data = .seq xs n):GRel (K.adds ow) st ρ s' where
 gens:=hg.trans g.gens
 os:=ho.trans g.os
 base:=λb o e=>hk _ _ (g.base b o e)
 len:=g.len
 cell:=λl a c h1 h2=>((g.cell l a c h1 h2).adds h0).mono (aax _) (jo hk) (λzZ e zZ=>hk _ _ e) λzZ zZ n=>n.keeps hk
 nodup:=g.nodup
 above:=g.above
 own:=λa ha=>by
  rcases abd.mp ha with ha | ha
  ·exact ht a ha
  ·refine ya (g.own a ha) λo e r=>?_;exact(ja o (hk _ _ e) r)
theorem Rel.adds{σ:S}{ρ:List aai}{s s':aah}{ow:List aai}(r:Rel K F σ ρ s)(h0:∀t∈ow,s.heap.get? t=aam)(hk:∀b o,s.heap.get? b=aac o->s'.heap.get? b=aac o)
  (C:s'.gens=s.gens) (D:s'.os=s.os) (G:∀t∈ow,∃o,s'.heap.get? t=aac o/\o.cls = .type "tuple" /\ ∃xs n,o.data = .seq xs n):Rel (K.adds ow) F σ ρ s' :=
 have B:=r.kept hk C D
 {toGRel:=r.toGRel.adds h0 hk C D G
  vars:=λx v e=>by
   refine ya (r.vars x v e) λw h1 h2=>?_;exact(ja w (h1.mono (λm n=>n.keeps hk) (λc u J n=>n.keeps hk)) (Rep.br (aax _) (jo hk) (h2.adds h0)))
  loc:=B.loc,bE:=B.bE,ao:=B.ao,aE:=B.aE,aJ:=B.aJ,di:=B.di}
end
section
variable{K:aW}{F:bd}
noncomputable def yh(free:List String)(u:Nat->(Nat->M (Option V))->M Unit)(nx:Nat->M (Option V)):M V:=λσ=>match u σ.st.length nx ⟨σ.st++[.lst []],xp free σ.lo⟩ with
  | .ok _ aa=>.ok (.obj σ.st.length) ⟨aa.st,σ.lo⟩
  | .exc e aa=>.exc e ⟨aa.st,σ.lo⟩
  | .stuck=>.stuck
noncomputable def wY(K:aW)(F:bd)(target e:Expr)(B:M (Nat->M (Option V))):Prop:= ∀σ ρ s,Rel K F σ ρ s->B σ≠.stuck->
 aao (aar K.prog K.w) F.A (abe e F.env) (λx af=>aao (aar K.prog K.w) F.A (aer x) (λit C => ∃I nx D u ai fp St ow,it = .ref I/\B σ = .ok nx D/\Rel K F D ai u/\Ext F.mine ρ ai s.heap u.heap/\
  Rel (K.adds ow) F D ai C/\Ext [] ai ai u.heap C.heap/\(∀b∈fp,u.heap.get? b=aam)/\(∀G:bd,aV G->G.nh=true->fT (K.adds ow) G target I fp St nx ai u.heap)/\St 0 C.heap) (EO K F (B σ) ρ s.heap) af) (EO K F (B σ) ρ s.heap) s
noncomputable def Do(K:aW)(F:bd)(u target:Expr)(gens:List abs)(scope:acU)(pos:Pos)(d:Nat)(m:Nat->(Nat->M (Option V))->M Unit):Prop :=
 ∀(l:Nat) (a:aai) (I:aai) (fp:List aai) (St:Nat->aat->Prop) (nx:Nat->M (Option V)) σ ρ au s h₀,fT K F target I fp St nx au h₀->Rel K F σ ρ s->ρ[l]?=aac a->Ext F.mine au ρ h₀ s.heap->(∀b∈fp,h₀.get? b=aam)->(∀b∈fp,K.base.get? b=aam)->
  (∀b∈fp,b∉F.mine)->(∀b∈fp,b∉ρ)->St 0 s.heap->m l nx σ≠.stuck->
  acC (aar K.prog K.w) F.A (.compStart (.ListComp u gens scope pos) d (.ref I) (.ref a) F.env) (λr s'=>match r with
   | .ok _ => ∃aa av,m l nx σ = .ok () aa/\Rel K F aa av s'/\Ext F.mine au av h₀ s'.heap/\av[l]?=aac a
   | .error v=>nD K F (m l nx σ) au h₀ v s') s
noncomputable def xw(n:Nat)(t:V->M Unit)(c:M Bool)(u:M Unit)(nx:Nat->M (Option V)):M Unit:=do
 let _ <- bo nx t (zn c u) n 0
 pure ()
theorem IH{C target D:Expr}{G:List Expr}{gens:List abs}{scope:acU}{pos:Pos}{d:Nat}{test:Option Expr}{u:aaf->Sem Unit}{t:V->M Unit}{c:M Bool}{B:Nat->M Unit}(n:Nat)
  (Y:gens[d]?=aac ⟨target,D,G,0⟩)
  (Z:∀acc,u8 (.ListComp C gens scope pos) d F.env acc target test (u acc)) (ht:dz K F target t) (hc:s4 K F test c) (gR:∀l a,mB K F l a (u (.ref a)) (B l)) :
  Do K F C target gens scope pos d (λl nx=>xw n t c (B l) nx):=by
 intro l a I fp St nx σ ρ au s h₀ U rel oF eZ h0 hb hm bk W aA
 have fb:bo nx t (zn c (B l)) n 0 σ≠.stuck:=λe=>aA (by show xw n t c (B l) nx σ=_;unfold xw;(refine aab (M.ap ..) ?_;exact aab e rfl))
 refine Ng Y ?_ (λQ E q=>U.self s _ Q E W q);refine acR (Nf Ia (Z _) ht hc (gR l a) U rel oF eZ h0 hb hm bk W n fb) λr s' h=>?_
 cases r with
 | ok f=>
  refine gd h λf' aa av e J O r4=>?_
  try clear h
  exact(wq aa av (by show xw n t c (B l) nx σ=_;unfold xw;(refine aab (M.ap ..) ?_;refine aab e ?_);rfl) J O r4)
 | error v=>
  refine gd h λx aa av e J O r3=>?_
  try clear h
  exact(ze x aa av (by show xw n t c (B l) nx σ=_;unfold xw;(refine aab (M.ap ..) ?_;exact aab e rfl)) J O r3)
theorem nD.rS{β:Type}{out:Res S β}{ρ:List aai}{h:aat}{v:aaf}{s':aah}{C:Env}{E:aaf->aah->Prop}(x:nD K F out ρ h v s')(D:∀v s',EO K F out ρ h v s'->E v s'):
  aao (aar K.prog K.w) F.A (passOn "comprehension.variables-let-go" v C:Sem aaf) (λG G=>False) E s':=by
 refine gd x ?_
 try clear x
 intro e aa av J rel ext x;refine we (id x) λX dm hX d0 a t tok oe vs O lV ht U hc hd h0 W=>?_;obtain rfl:=O
 rcases W with⟨q,_⟩ | ⟨T,oT,ts,fl,lZ,jF,h1,_⟩
 ·(injection q)
 unfold PySem.passOn;refine aad (abj U hd h1 ?_)
 refine aab (if_neg (show ¬((ada T==aaI)=true) from by simp)) ?_
 refine aad (x.d4 rel ext λdF Y u B=>aes (D _ _ ?_));refine we B λZ f' g' fH a' t' fS l7 lC q1 q2 q3 q4 q5 q6 q7 q8=>?_
 try clear B
 refine(gq e aa av J Y u Z f' g' fH a' t' fS l7 lC q1 q2 q3 q4 q5 q6 q7 ?_)
 rcases q8 with⟨q,_⟩ | ⟨T',l8,l9,mf,r1,r2,r3,r4,r5,r6,r7,r8⟩
 ·(injection q)
 ·exact .inr (ym T' l8 l9 mf r1 r2 r3 r4 r5 r6 r7 trivial)
theorem NZ(fk:aV F){hD target B:Expr}{kV:List Expr}{gs:List abs}{scope:acU}{pos rD:Pos}{cl:List (Str×aai)}{free:List String}{mi:M (Nat->M (Option V))}{W:Nat->(Nat->M (Option V))->M Unit}
  {use:Option (aaf->Sem Unit)} {Q:aaf->aah->Prop} {E:aaf->aah->Prop} (hs:∀x,ab1 B F.env x=pure x) (Y:d9 F scope cl free) (hi:wY K F target B mi)
  (hc:∀ow C,Do (K.adds ow) (qy F scope cl C) hD target (⟨target,B,kV,0⟩::gs) scope pos 0 W) {σ:S} {ρ:List aai} {s:aah} (rel:Rel K F σ ρ s) (aA:(mi >>= yh free W) σ≠.stuck) (bJ:F.nh=true)
  (hQ:∀v aa av s' w C m,(mi >>= yh free W) σ = .ok v aa->Rel K F aa av s'->Ext F.mine ρ av s.heap s'.heap->Rep K s'.heap av v w->s'.heap.Ns C m->C∉F.mine->C∉av->K.base.get? C=aam->s.heap.get? C=aam->
   ai1 (aar K.prog K.w) F.A E use Q w C (.ok .next) s')
  (hE:∀v s',EO K F ((mi >>= yh free W) σ) ρ s.heap v s'->E v s') :
  aao (aar K.prog K.w) F.A (adY (.ListComp hD (⟨target,B,kV,0⟩::gs) scope pos) scope F.env rD (newList []) false (abe B F.env) use) Q E s:=by
 refine afR (use:=use) rfl hs Y.oG Y.kind Y.names ?_
 have II:mi σ≠.stuck:=λe=>aA (by(refine aab (M.ap ..) ?_;exact aab e rfl))
 have N0:∀v s',EO K F (mi σ) ρ s.heap v s'->E v s':=by
  rintro v s' ⟨x,aa,av,e1,Z,O,r3⟩
  exact hE v s' ⟨x,aa,av,by rw[M.ap,e1],Z,O,r3⟩
 refine aap (hi σ ρ s rel II) (λx af aZ=>aap aZ (λit J dU=>?_) N0) N0;refine wrap λG_ aM=>?_;obtain⟨I,nx,u,cD,ai,fp,St,ow,xA,e1,ee,aL,ae,dq,IJ,s5,mF⟩:=dU;refine aM ?_;clear aM G_;obtain rfl:=xA;have e2:(mi >>= yh free W) σ=yh free W nx u:=M.bZ e1;rw[e2] at aA hQ hE
 have eT:yh free W nx u=(match W u.st.length nx ⟨u.st++[.lst []],xp free u.lo⟩ with
   | .ok _ aa=>.ok (.obj u.st.length) ⟨aa.st,u.lo⟩
   | .exc e aa=>.exc e ⟨aa.st,u.lo⟩
   | .stuck=>.stuck):=rfl
 refine ac0 ?_ (by simp[aa1])
 refine ye (ae.newList (vs:=[]) (ws:=[]) (o:={cls:= .type "list",data:= .seq ([]:List aaf).toArray}) rfl aj.nil (by simp) J.toks) λaY bR=>?_
 refine aeW Y.mD (by intro y hy;simp at hy) (λc6 dS cQ=>?_) Y.kind
 dsimp only at dS cQ aY bR ⊢
 generalize hH:J.heap.push {cls:= .type "list",data:= .seq ([]:List aaf).toArray}=H at dS cQ aY bR ⊢
 have hC:H.objs.size=J.heap.objs.size+1:=by(rewrite[<- hH];exact act ..)
 generalize rC:H.objs.size=C at dS cQ hC ⊢
 have aQ:∀b o,H.get? b=aac o->c6.get? b=aac o:=λb o e=>(cQ.2 b (by refine adg rC ?_;exact abp (abG e))).trans (aaj _ e)
 have ig:∀b o,J.heap.get? b=aac o->c6.get? b=aac o:=λb o e=>aQ b o (by rw[<- hH];exact aaj _ e)
 have fC:J.heap.get? C=aam:=aaQ (by refine aab hC ?_;exact lO)
 have tm:cD.heap.get? C=aam:=by
  cases e:cD.heap.get? C with
  | none=>rfl
  | some o=>obtain⟨o',D⟩:=dq.alive _ _ e;rw[fC] at D;(injection D)
 have bC:K.base.get? C=aam:=by
  cases e:K.base.get? C with
  | none=>rfl
  | some o=>have:=ae.base _ _ e;rw[fC] at this;(injection this)
 have bA:Rel (K.adds ow) (qy F scope cl C) ⟨u.st++[.lst []],xp free u.lo⟩ (ai++[J.heap.objs.size]) {J with heap:=c6,toks:=J.toks+0}:=aY.mE Y rC ⟨_,dS⟩ aQ rfl rfl
 have dK:Ext [C] ai (ai++[J.heap.objs.size]) cD.heap c6:=by
  refine⟨dq.pre.trans (adz _ _),λb o e=>?_,λa ha=>?_,λb o e n1 n2=>?_,λb o e f=>ig b o (dq.bu b o e f)⟩
  ·refine xc (dq.alive b o e) λo' D=>?_;exact⟨o',ig b o' D⟩
  ·rcases abd.mp ha with ha | ha
   ·exact dq.new a ha
   ·have:=aan.mp ha;subst this;refine .inr ?_
    cases e:cD.heap.get? J.heap.objs.size with
    | none=>rfl
    | some o=>obtain⟨o',D⟩:=dq.alive _ _ e;exact absurd (abG D) (afo _)
  ·refine ya (dq.keep b o e n1 (by simp)) λo' D l=>?_
   exact(ja o' (ig b o' D) l)
 have fb:W u.st.length nx ⟨u.st++[.lst []],xp free u.lo⟩≠.stuck:=λe=>aA (by(refine aab eT ?_;exact aab e rfl))
 have lB:∀b∈fp,K.base.get? b=aam:=λb U=>by
  cases e:K.base.get? b with
  | none=>rfl
  | some o=>have:=ee.base _ _ e;rw[IJ b U] at this;(injection this)
 have Xf:∀b∈fp,b≠C:=λb U q=>by
  refine ya ((s5 _ (fk.comp Y.kind (cl:=cl) (C:=C)) bJ).jA 0 _ mF b U) λo g G=>?_;rw[q,fC] at g;(injection g)
 have ly:∀b∈fp,b∉ai++[J.heap.objs.size]:=λb U h=>by
  rcases abd.mp h with h | h
  ·refine ya (ee.toGRel.alive h) λo e G=>?_;rw[IJ b U] at e;(injection e)
  ·have:=aan.mp h;subst this;refine ya ((s5 _ (fk.comp Y.kind (cl:=cl) (C:=C)) bJ).jA 0 _ mF _ U) λo g G=>?_;exact absurd (abG g) (afo _)
 have mz:=hc ow C u.st.length J.heap.objs.size I fp St nx ⟨u.st++[.lst []],xp free u.lo⟩ (ai++[J.heap.objs.size]) ai {J with heap:=c6,toks:=J.toks+0} cD.heap
   (s5 _ (fk.comp Y.kind) bJ) bA (by(rewrite[<- ae.len];exact aaq)) dK IJ lB (λb U h=>Xf b U (aan.mp h)) ly
   ((s5 _ (fk.comp Y.kind (cl:=cl) (C:=C)) bJ).hZ _ _ mF λb o e=>ig b o e) fb
 refine acR mz λr s' h=>?_
 cases r with
 | error v'=>
  refine gd h λx aa av em Z O r3=>?_
  try clear h
  rw[em] at eT;refine we r3 λX xf xg d0 ax tx tok oe vs xB lV gY Xg hc hd h0 cS=>?_
  try clear r3
  obtain rfl:=xB
  have xn:Ext [] ai av cD.heap s'.heap:=⟨O.pre,O.alive,O.new,λb o e n1 G=>O.keep b o e n1 (λhm=>by have:=aan.mp hm;subst this;rw[tm] at e;(injection e)),O.bu⟩
  have mG:=ee.called Z.toGRel.drop xn fk;refine xc Z.loc λm hm=>?_
  have s6:s.heap.get? C=aam:=by
   cases e:s.heap.get? C with
   | none=>rfl
   | some o=>obtain⟨o',D⟩:=aL.alive _ _ e;rw[tm] at D;(injection D)
  have vl:C∉F.mine:=λh=>by
   refine qn (ee.ao _ h) λG o e=>?_;rw[tm] at e;(injection e)
  have go:∃m,s'.heap.Ns C m/\∀h',abv C s'.heap h'->∀iO:Env,iO.locals=C->aao (aar K.prog K.w) F.A (passOn "comprehension.variables-let-go" (.ref ax) iO:Sem aaf) (λG G=>False) E {s' with heap:=h'}:=by
   refine(ja m hm (λh' cQ iO G=>?_));have po:s'.heap.Ns C m:=hm;refine yt po λon es ep gn dn G=>?_
   try clear po
   have ne:∀{b:aai} {o:Obj} {d:Data},s'.heap.get? b=aac o->o.data=d->(∀es n,d≠.dict es n)->h'.get? b=aac o:=λ{b o d} g e IK=>(cQ.2 b (by rintro rfl;rw[gn] at g;(injection g with aK;subst aK);exact IK _ _ (e.symm.trans dn))).trans g
   have x:nD K F (yh free W nx u) ρ s.heap (.ref ax) {s' with heap:=h'}:=by
    refine(gq x ⟨aa.st,u.lo⟩ av eT (mG.f5 bC vl (Z.aE C (aan.mpr rfl)) hm cQ rfl rfl (rel.eI s6)) ((aL.trans (z4 xn)).f5 s6 cQ) X (λb U=>?_) (λb U=>⟨(xg b U).1,λq=>?_⟩) d0 ax tx tok oe vs rfl lV ?_ (ne Xg hd (λG G q=>by(injection q))) hc hd h0 ?_)
    ·cases e:s.heap.get? b with
     | none=>rfl
     | some o=>obtain⟨o',D⟩:=aL.alive _ _ e;rw[xf b U] at D;(injection D)
    ·refine qn (ee.ao _ q) λG o e=>?_;rw[xf b U] at e;(injection e)
    ·refine yj gY λo g c n d=>?_
     try clear gY
     exact(CD o (ne g d (λG G q=>by(injection q))) c n d)
    ·rcases cS with⟨q,_⟩ | ⟨T,oT,ts,fl,lZ,jF,h1,kE,iH,r⟩
     ·(exfalso;exact nomatch q)
     ·exact .inr ⟨T,oT,ts,fl,lZ,jF,h1,ne kE iH (λG G q=>by(injection q)),iH,r⟩
   exact x.rS hE
  cases use<;>exact go
 | ok f=>
  refine z8 h λaa av em Z O r4=>?_
  try clear h
  rw[em] at eT
  have xn:Ext [] ai av cD.heap s'.heap:=⟨O.pre,O.alive,O.new,λb o e n1 G=>O.keep b o e n1 (λhm=>by have:=aan.mp hm;subst this;rw[tm] at e;(injection e)),O.bu⟩
  have mG:=ee.called Z.toGRel.drop xn fk;refine xc Z.loc λm hm=>?_
  have s6:s.heap.get? C=aam:=by
   cases e:s.heap.get? C with
   | none=>rfl
   | some o=>obtain⟨o',D⟩:=aL.alive _ _ e;rw[tm] at D;(injection D)
  have vl:C∉F.mine:=λh=>by
   refine qn (ee.ao _ h) λG o e=>?_;rw[tm] at e;(injection e)
  have:=hQ (.obj u.st.length) ⟨aa.st,u.lo⟩ av s' (.ref J.heap.objs.size) C m eT mG (aL.trans (z4 xn)) (Rep.aN.mpr (ja _ r4 rfl)) hm vl (Z.aE C (aan.mpr rfl)) bC s6
  cases use<;>exact this
theorem Xh(Z:aV F){B target u:Expr}{D:List Expr}{G:List abs}{scope:acU}{pos:Pos}{cl:List (Str×aai)}{free:List String}{U:M (Nat->M (Option V))}{W:Nat->(Nat->M (Option V))->M Unit}
  (ck:d9 F scope cl free) (hi:wY K F target u U)
  (hc:∀ow C,Do (K.adds ow) (qy F scope cl C) B target (⟨target,u,D,0⟩::G) scope pos 0 W) (hs:∀x,ab1 u F.env x=pure x:=by intro _;rfl) (bJ:F.nh=true:=by rfl) :
  aU K F (.ListComp B (⟨target,u,D,0⟩::G) scope pos) (U >>= yh free W):=by
 intro σ ρ s rel;refine Run.of_wp λaA=>?_;show aao _ _ (adY (.ListComp B (⟨target,u,D,0⟩::G) scope pos) scope F.env _ (newList []) false (abe u F.env) aam) _ _ s;refine NZ Z (use:=aam) hs ck hi hc rel aA bJ ?_ λzZ zZ q=>q;intro v aa av s' w C m e r1 x1 rv J q1 q2 q3 Y;exact(ja m J (λh' O=>(ze v aa av e (r1.f5 q3 q1 q2 J O rfl rfl (rel.eI Y)) (x1.f5 Y O) (Rep.br (aax _) (λb o e f=>(O.2 b (un J e f)).trans e) rv))))
theorem N1(fk:aV F){D target B:Expr}{G:List Expr}{Y:List abs}{scope:acU}{pos mH O:Pos}{cl:List (Str×aai)}{free:List String}{U:M (Nat->M (Option V))}{W:Nat->(Nat->M (Option V))->M Unit}{x:String}{mt:V->M Unit}
  (ck:d9 F scope cl free) (ht:dz K F (.Name (aae x) O) mt) (hi:wY K F target B U)
  (hc:∀ow C,Do (K.adds ow) (qy F scope cl C) D target (⟨target,B,G,0⟩::Y) scope pos 0 W)
  (qR:af2 (.ListComp D (⟨target,B,G,0⟩::Y) scope pos) (aac (.Name (aae x) O)) mH.line F.env=pure true:=by rfl)
  (hs:∀x,ab1 B F.env x=pure x:=by intro _;rfl) (bJ:F.nh=true:=by rfl) :
  dk K F (.Assign [.Name (aae x) O] (.ListComp D (⟨target,B,G,0⟩::Y) scope pos) mH) (do let v <- U >>= yh free W;mt v;pure .next):=by
 intro σ ρ s rel;refine aab (agC _ _ _ _ qR) ?_;refine Run.standAt ?_;refine Run.of_wp λZ=>?_
 have mI:(U >>= yh free W) σ≠.stuck:=λe=>Z (by(refine aab (M.ap ..) ?_;exact aab e rfl))
 refine aad ?_
 show aao _ _ (do let _ <- adY (.ListComp D (⟨target,B,G,0⟩::Y) scope pos) scope F.env _ (newList []) false (abe B F.env) (aac (adJ (.Name (aae x) O) F.env))) _ _ s
 refine aad (aap (NZ fk (use:=aac (adJ (.Name (aae x) O) F.env)) (Q:=λJ s'=>QO K F (q0 K) ((do let v <- U >>= yh free W;mt v;pure .next:M Fl) σ) ρ s.heap .next s') (E:=EO K F ((do let v <- U >>= yh free W;mt v;pure .next:M Fl) σ) ρ s.heap) hs ck hi hc rel mI bJ ?_ ?_)
  (λJ s' hq=>aak (aak hq)) λJ J e=>e)
 ·intro v aa av s' w C m e r1 x1 rv hm q1 q2 q3 q4
  have e2:(do let v <- U >>= yh free W;mt v;pure .next:M Fl) σ=(mt v >>= λJ=>(adO Fl.next:M Fl)) aa:=M.bZ e
  rw[e2] at Z ⊢;show aao _ _ (adJ (.Name (aae x) O) F.env w) _ _ s'
  refine aap (Run.bq (P:=λJ dF => ∃m,dF.heap.Ns C m/\∀h',abv C dF.heap h'->QO K F (q0 K) ((mt v >>= λJ=>(adO Fl.next:M Fl)) aa) ρ s.heap .next {dF with heap:=h'}) (ht aa av s' v w r1 rv) Z ?_) (λJ J q=>q) (λv dF q=>q.up x1)
  intro u ar aC ay _ e3 e4 aB aX _;refine aab e4 ?_;refine gd hm λo es ep g d k f=>?_
  try clear hm
  refine ya (aX.keep C o g q2 q1) λo' g' l=>?_
  have Ig:C∉aC:=λgR=>by
   rcases aX.new C gR with h1 | h1
   ·exact q2 h1
   ·rw[g] at h1;(injection h1)
  have po:ay.heap.Ns C m:=⟨o',es,ep,g',l.data.1.trans d,k,f⟩;exact(ja m po (λh' cQ=>(ze .next ar aC rfl (aB.f5 q3 q1 Ig po cQ rfl rfl (rel.eI q4)) ((x1.trans aX).f5 q4 cQ) rfl)))
 ·intro v s' q;refine gd q λe aa av e1 r1 r2 r3=>?_
  try clear q
  exact(ze e aa av (by(refine aab (M.ap ..) ?_;exact aab e1 rfl)) r1 r2 r3)
end
section
variable{K:aW}{F:bd}
section
variable{prog:aa0}{w:abC}{A:aaE}{E:aaf->aah->Prop}{s:aah}
end
end
section
variable{K:aW}{F:bd}
noncomputable def Fh(F:bd)(v:aaf):bd:=⟨F.env,F.A.mark (aac v),F.mine,false⟩
theorem aV.h(u:aV F)(v:aaf):aV (Fh F v):=⟨u.kind,u.glob,u.blt,(λq=>by(injection q)),u.units⟩
theorem Rel.h{σ:S}{ρ:List aai}{s:aah}(rel:Rel K F σ ρ s)(v:aaf):Rel K (Fh F v) σ ρ s :=
 {toGRel:=rel.toGRel,vars:=rel.vars,loc:=rel.loc,bE:=rel.bE,ao:=rel.ao,aE:=rel.aE,aJ:=rel.aJ,di:=rel.di}
theorem Rel.N2{σ:S}{ρ:List aai}{s:aah}{v:aaf}(rel:Rel K (Fh F v) σ ρ s):Rel K F σ ρ s :=
 {toGRel:=rel.toGRel,vars:=rel.vars,loc:=rel.loc,bE:=rel.bE,ao:=rel.ao,aE:=rel.aE,aJ:=rel.aJ,di:=rel.di}
section
variable{P:aat->Prop}
end
end
section
variable{K:aW}{F:bd}
noncomputable def mP(body:M Fl)(h:Exc->M Fl):M Fl:=λσ=>match body σ with
 | .ok f aa=>.ok f aa
 | .exc e aa=>h e aa
 | .stuck=>.stuck
noncomputable def Dp(K:aW)(F:bd)(u:List ExceptHandler)(h:Exc->M Fl):Prop:= ∀e σ ρ au h₀ s v,Rel K F σ ρ s->Ext F.mine au ρ h₀ s.heap->CJ K F e h₀ v s->h e σ≠.stuck->
 aao (aar K.prog K.w) F.A (handleBy v F.env u) (QO K F (q0 K) (h e σ) au h₀) (EO K F (h e σ) au h₀) s
structure IL(T:String):Prop where
 exc:adq (.type T) (.type "BaseException")=pure true
 nt:adq (.type ((Manifest.find? T).elim "type" λx=>x.metatype)) (.type "tuple")=pure false
 self:adq (.type T) (.type T)=pure true
 ix : "IndexError" ≠ T->adq (.type "IndexError") (.type T)=pure false
 ty : "TypeError" ≠ T->adq (.type "TypeError") (.type T)=pure false
theorem qt:IL "TypeError" :=⟨by refine aab (acu ..) ?_;kernel_rfl,by refine aab (acu ..) ?_;kernel_rfl,by refine aab (acu ..) ?_;kernel_rfl,λu=>by refine aab (acu ..) ?_;kernel_rfl,λh=>absurd rfl h⟩
theorem Xi(fk:aV F){body:List acE}{h₀:ExceptHandler}{W:List ExceptHandler}{pos:Pos}{mb:M Fl}{Y:Exc->M Fl}(hb:jj K F body mb)(hh:Dp K F (h₀::W) Y):
  dk K F (.Try body (h₀::W) [] [] pos) (mP mb Y):=by
 intro σ ρ s rel;refine Run.of_wp λB=>?_;refine ah2 ?_;unfold mP at B ⊢;have G:=hb σ ρ s rel
 cases C:mb σ with
 | stuck=>rw[C] at B;exact absurd rfl B
 | ok f aa=>
  (try rw[C] at G);(try rw[C] at B);(try dsimp only at B ⊢)
  refine aap G (λwf af aZ=>?_) λJ J h=>h.elim;refine xd aZ λav O U D=>?_
  try clear aZ
  have u:QO K F (q0 K) (.ok f aa) ρ s.heap wf af:=⟨f,aa,av,rfl,O,U,D⟩
  cases f with
  | next=>have:wf = .next:=D;subst this;exact aga u
  | brk=>have:wf = .brk:=D;subst this;exact u
  | cont=>have:wf = .cont:=D;subst this;exact u
  | ret v=>obtain⟨w,e,r⟩:=id D;subst e;exact u
 | exc e aa=>
  (try rw[C] at G);(try rw[C] at B);(try dsimp only at B ⊢)
  refine aap G (λJ J h=>h.elim) λv af aZ=>?_;refine xd aZ λav O U xr=>?_
  try clear aZ
  refine xr.du O U λay aB aX xn=>?_;refine yo.d4 xn aB aX λbg aY bR Z=>?_;refine hh e aa av ρ s.heap bg v aY bR ?_ B;refine we Z λX' f' g' fH a' t' fS l7 lC q1 q2 q3 q4 q5 q6 q7 q8=>?_
  try clear Z
  refine(zj X' f' g' fH a' t' fS l7 lC q1 q2 q3 q4 q5 q6 q7 ?_)
  rcases q8 with⟨q,_⟩ | ⟨T',l8,l9,mf,r1,r2,r3,r4,r5,r6,r7,r8⟩
  ·(exfalso;exact nomatch q)
  ·exact .inr (ym T' l8 l9 mf r1 r2 r3 r4 r5 r6 r7 r8.1)
end
section
variable{K:aW}{F:bd}
end
section
variable{K:aW}{F:bd}
open PySem.SeqAt PySem.MeetsSeq PySem.MeetsSeq3
section
variable{prog:aa0}{w:abC}{A:aaE}{E:aaf->aah->Prop}{s:aah}
end
noncomputable def N3(K:aW)(op:CmpOp)(f:V->V->M V):Prop :=
 ∀F:bd,aV F->F.nh=true->∀σ ρ s a b u B,Rel K F σ ρ s->Rep K s.heap ρ a u->Rep K s.heap ρ b B->Run K F (af1 op u B) (Rep K) (f a b σ) ρ s
theorem Xj(u:aV F){op:CmpOp}{f:V->V->M V}(O:N3 K op f){B:V->M Bool}(U:qO K B){l r:Expr}{C D:M V}(pos:Pos)(W:aU K F l C)(hr:aU K F r D)
  (Y:ag0 op r=false:=by rfl) (Z:F.nh=true:=by rfl) :
  fB K F (.Compare l [op] [r] pos) (do let a <- C;let b <- D;let c <- f a b;B c):=by
 intro σ ρ s rel
 have e:isTrue (.Compare l [op] [r] pos) F.env (abe (.Compare l [op] [r] pos) F.env)=(do let left <- abe l F.env;let G <- holding [left] (abe r F.env);standAt pos;let c <- operate [left,G] (af1 op left G);holding [c] (ags c)):=by
  refine aab (aie ..) ?_;exact aab (aek Y) rfl
 refine aab e ?_;refine Run.bind (W σ ρ s rel) λa ab ai af wa J ae aL ra=>?_;refine Run.bind (Run.holding (hr ab ai af ae)) λb ar aC ay wb J aB aX rb=>?_;refine Run.standAt (Run.bind (Run.operate (O F u Z ar aC ay a b wa wb aB (ra.mono aX) rb)) λc aO bt bg wc J aY bR rc=>?_);exact Run.holding (U F u aO bt bg c wc aY rc)
end
section
variable{K:aW}{F:bd}
end
section
variable{K:aW}{F:bd}
end
section
variable{K:aW}{F:bd}
end
section
variable{α:Type}[Inhabited α]
noncomputable def bP(vs:List α)(i:Nat):α:=vs[i]?.getD default
theorem gm{vs:List α}{i:Nat}{x:α}(h:i<vs.length):bP (vs.set i x) i=x:=by
 unfold bP;refine aab (acm h) ?_;rfl
theorem gg{vs:List α}{i j:Nat}{x:α}(h:i≠j):bP (vs.set i x) j=bP vs j:=by
 unfold bP;exact aab (aau h) rfl
theorem xC{vs:List α}{i:Nat}(h:i<vs.length):vs[i]?=aac (bP vs i):=by
 unfold bP;refine aab (aav h) ?_;rfl
theorem Dq{vs:List α}{i:Nat}(h:i<vs.length):bP vs i=vs[i]:=by
 unfold bP;refine aab (aav h) ?_;rfl
theorem gi{vs:List α}{i:Nat}(h:i<vs.length):bP vs i∈vs:=by refine aab (Dq h) ?_;exact acJ h
noncomputable def sd(lt:α->α->Bool)(x:α)(start:Nat)(vs:List α)(pos:Nat):List α :=
 agc (C:=λ_:Nat=>List α->List α) Nat.lt_wfRel.wf (λpos u vs=>
  if h:start<pos then
   if lt x (bP vs ((pos-1) / 2))=true then u ((pos-1) / 2) (show(pos-1) / 2<pos by exact sL h) (vs.set pos (bP vs ((pos-1) / 2)))
   else vs.set pos x
  else vs.set pos x) pos vs
theorem Dr(lt:α->α->Bool)(x:α)(start:Nat)(vs:List α)(pos:Nat):sd lt x start vs pos =
  if h:start<pos then
   if lt x (bP vs ((pos-1) / 2))=true then sd lt x start (vs.set pos (bP vs ((pos-1) / 2))) ((pos-1) / 2)
   else vs.set pos x
  else vs.set pos x:=by
 conv=>lhs;unfold sd;rw[afk]
 rfl
noncomputable def eR(lt:α->α->Bool)(vs:List α)(pos:Nat):Nat :=
 if 2*pos+2<vs.length/\lt (bP vs (2*pos+1)) (bP vs (2*pos+2))=false then 2*pos+2 else 2*pos+1
theorem tp(lt:α->α->Bool)(vs:List α)(pos:Nat):pos<eR lt vs pos:=by
 unfold eR
 split
 ·exact ahz (Nat.le_succ_of_le (ago pos agj))
 ·exact ahz (ago pos agj)
theorem xD{lt:α->α->Bool}{vs:List α}{pos:Nat}(h:2*pos+1<vs.length):eR lt vs pos<vs.length:=by
 unfold eR
 split
 ·rename_i q;exact q.1
 ·exact h
theorem Xk(lt:α->α->Bool)(vs:List α)(pos:Nat):(eR lt vs pos-1) / 2=pos:=by
 unfold eR
 split
 ·show(2*pos+1) / 2=pos;rw[Nat.mul_add_div agj];rfl
 ·exact Nat.mul_div_cancel_left pos agj
theorem Xl{s k:Nat}(h:s<k):((k:Int)-1) / 2=(((k-1) / 2:Nat):Int):=by
 cases k with
 | zero=>cases h
 | succ m=>rw[show((m+1:Nat):Int)-1=m from Int.add_sub_cancel (m:Int) 1];rfl
theorem Xm{n i:Nat}(h:i<n):((n:Int)-1)+(i:Int)*(-1)=((n-i-1:Nat):Int):=by
 rw[Nat.sub_sub,aiP h,ajf,ahK];show(n:Int)-1-i=n-((i:Int)+1);rw[ahJ,Int.add_comm]
noncomputable def down(lt:α->α->Bool)(vs:List α)(pos:Nat):List α×Nat :=
 agc (C:=λ_:List α×Nat=>List α×Nat) (measure λp:List α×Nat=>p.1.length-p.2).wf (λp u=>
  if h:2*p.2+1<p.1.length then u (p.1.set p.2 (bP p.1 (eR lt p.1 p.2)),eR lt p.1 p.2) (show(p.1.set p.2 (bP p.1 (eR lt p.1 p.2))).length-eR lt p.1 p.2<p.1.length-p.2 by
   have:=tp lt p.1 p.2;have:=xD (lt:=lt) h
   refine aab aaz ?_;exact Sd this (by assumption)) else p) (vs,pos)
theorem tq(lt:α->α->Bool)(vs:List α)(pos:Nat):down lt vs pos=if h:2*pos+1<vs.length then down lt (vs.set pos (bP vs (eR lt vs pos))) (eR lt vs pos) else(vs,pos):=by
 conv=>lhs;unfold down;rw[afk]
 rfl
noncomputable def su(lt:α->α->Bool)(vs:List α)(pos:Nat):List α :=
 sd lt (bP vs pos) pos ((down lt vs pos).1.set (down lt vs pos).2 (bP vs pos)) (down lt vs pos).2
structure rT(P:α->Prop)(lt:α->α->Bool):Prop where
 asymm:∀a b,P a->P b->lt a b=true->lt b a=false
 trans:∀a b c,P a->P b->P c->lt b a=false->lt c b=false->lt c a=false
theorem Xn(lt:α->α->Bool)(x:α)(start:Nat):∀(pos:Nat) (vs:List α),(sd lt x start vs pos).length=vs.length:=by
 intro pos
 induction pos using aeR with
 | _ pos u=>
  intro vs;refine aab (Dr ..) ?_
  split
  ·split
   ·rw[u _ (by exact sL (by assumption))];simp
   ·simp
  ·simp
theorem N4(lt:α->α->Bool):∀(k:Nat) (vs:List α) (pos:Nat),vs.length-pos<=k->(down lt vs pos).1.length=vs.length:=by
 intro k
 induction k with
 | zero=>intro vs pos h;rw[tq,dif_neg (by exact Se h)]
 | succ k u=>
  intro vs pos h;refine aab (tq ..) ?_
  split
  ·rename_i B;have:=tp lt vs pos
   rw[u _ _ (by simp;exact kb1 h this)];simp
  ·rfl
theorem Xo(lt:α->α->Bool):∀(k:Nat) (vs:List α) (pos:Nat),vs.length-pos<=k->pos<vs.length->(down lt vs pos).2<vs.length:=by
 intro k
 induction k with
 | zero=>intro vs pos h h2;exact Sf h h2
 | succ k u=>
  intro vs pos h h2;refine aab (tq ..) ?_
  split
  ·rename_i B;have h3:=tp lt vs pos;have h4:=xD (lt:=lt) B
   have:=u (vs.set pos (bP vs (eR lt vs pos))) (eR lt vs pos) (by simp;exact kb1 h h3) (by simpa using h4)
   simpa using this
  ·exact h2
theorem IM(lt:α->α->Bool)(vs:List α)(pos:Nat):(su lt vs pos).length=vs.length:=by
 unfold su;(refine aab (Xn ..) ?_;refine aab aaz ?_;exact(N4 lt _ _ _ (aaw _)))
theorem N5{vs:List α}{i j:Nat}{x:α}(hi:i<vs.length)(u:j<vs.length)(B:i≠j):((vs.set i (bP vs j)).set j x).Perm (vs.set i x):=by
 have h:=List.set_set_perm (as:=vs.set i x) (i:=i) (j:=j) (by simpa using hi) (by simpa using u)
 have C:(vs.set i x)[j]'(by simpa using u)=bP vs j:=by
  (refine aab (List.getElem_set_ne B ..) ?_;exact(Dq u).symm)
 have D:(vs.set i x)[i]'(by simpa using hi)=x:=by exact List.getElem_set_self ..
 rw[C,D,acl] at h;exact h
theorem Xp(lt:α->α->Bool)(x:α)(start:Nat):∀(pos:Nat) (vs:List α),pos<vs.length->(sd lt x start vs pos).Perm (vs.set pos x):=by
 intro pos
 induction pos using aeR with
 | _ pos B=>
  intro vs u;refine aab (Dr ..) ?_
  split
  ·split
   ·refine(B _ (by exact sL (by assumption)) _ (by simp;exact qF u)).trans ?_
    exact N5 u (by exact qF u) (by exact EV (by assumption))
   ·exact ade _
  ·exact ade _
theorem Xq(lt:α->α->Bool)(x:α):∀(k:Nat) (vs:List α) (pos:Nat),vs.length-pos<=k->pos<vs.length->((down lt vs pos).1.set (down lt vs pos).2 x).Perm (vs.set pos x):=by
 intro k
 induction k with
 | zero=>intro vs pos h h2;(exfalso;exact Le h h2)
 | succ k u=>
  intro vs pos h h2;refine aab (tq ..) ?_
  split
  ·rename_i B;have h3:=tp lt vs pos;have h4:=xD (lt:=lt) B
   exact(u _ _ (by simp;exact kb1 h h3) (by simpa using h4)).trans (N5 h2 h4 (by exact Ct h3))
  ·exact ade _
theorem Xr{vs:List α}{i:Nat}:vs.set i (bP vs i)=vs:=by
 by_cases h:i<vs.length
 ·refine aab (Dq h) ?_;exact agD h
 ·exact List.set_eq_of_length_le (by exact qE h)
theorem Ds(lt:α->α->Bool)(vs:List α)(pos:Nat)(h:pos<vs.length):(su lt vs pos).Perm vs:=by
 unfold su;have h1:=Xo lt _ vs pos (aaw _) h;have h2:=N4 lt _ vs pos (aaw _)
 refine(Xp lt _ _ _ _ (by simp only[aaz,h2];exact h1)).trans ?_
 refine aab (acl ..) ?_;refine(Xq lt _ _ vs pos (aaw _) h).trans ?_;rw[Xr]
noncomputable def jx(lt:α->α->Bool)(s:Nat)(vs:List α):Prop:= ∀j,0<j->j<vs.length->s<=(j-1) / 2->lt (bP vs j) (bP vs ((j-1) / 2))=false
noncomputable def dP(s p:Nat):Prop:=agc (C:=λ_:Nat=>Prop) Nat.lt_wfRel.wf (λp u=>if h:s<p then u ((p-1) / 2) (show(p-1) / 2<p by exact sL h) else p=s) p
theorem Xs(s p:Nat):dP s p=if h:s<p then dP s ((p-1) / 2) else p=s:=by
 conv=>lhs;unfold dP;rw[afk]
 rfl
theorem Dt(s p:Nat):dP s p↔p=s\/(s<p/\dP s ((p-1) / 2)):=by
 refine aab (Xs ..) ?_
 split
 ·rename_i h
  exact⟨λx=>.inr ⟨h,x⟩,λx=>by
   rcases x with x | x
   ·(exfalso;exact Lf h x)
   ·exact x.2⟩
 ·rename_i h
  exact⟨λx=>.inl x,λx=>by
   rcases x with x | x
   ·exact x
   ·exact absurd x.1 h⟩
theorem dP.refl(s:Nat):dP s s:=by refine aab (propext (Dt ..)) ?_;exact .inl rfl
theorem dP.up{s p:Nat}(h:dP s p)(u:s<p):dP s ((p-1) / 2):=by
 rw[Dt] at h;rcases h with h | h
 ·(exfalso;exact Lf u h)
 ·exact h.2
theorem dP.le{s p:Nat}(h:dP s p):s<=p:=by
 rw[Dt] at h;rcases h with h | h<;>(first | lia | omega)
theorem dP.eR{s p c:Nat}(h:dP s p)(u:(c-1) / 2=p)(B:p<c):dP s c:=by
 refine aab (propext (Dt ..)) ?_;right;have:=h.le
 exact⟨by exact Sg this B,by refine aab u ?_;exact h⟩
structure jQ(lt:α->α->Bool)(s:Nat)(vs:List α)(pos:Nat):Prop where
 pair:∀j,0<j->j<vs.length->s<=(j-1) / 2->j≠pos->(j-1) / 2≠pos->lt (bP vs j) (bP vs ((j-1) / 2))=false
 skip:s<pos->∀j,0<j->j<vs.length->(j-1) / 2=pos->lt (bP vs j) (bP vs ((pos-1) / 2))=false
 desc:dP s pos
 lt:pos<vs.length
theorem jQ.set{lt:α->α->Bool}{s:Nat}{vs:List α}{pos:Nat}(h:jQ lt s vs pos)(x:α):jQ lt s (vs.set pos x) pos where
 pair:=λj h0 hl hs hj hp=>by
  rw[aaz] at hl
  (refine aab (gg (aaR hj)) ?_;refine aab (gg (aaR hp)) ?_);exact h.pair j h0 hl hs hj hp
 skip:=λhs j h0 hl hp=>by
  rw[aaz] at hl;have:=h.lt
  rw[gg (by exact Sh hp h0),gg (by exact EV hs)];exact h.skip hs j h0 hl hp
 desc:=h.desc
 lt:=by refine aab aaz ?_;exact h.lt
variable{P:α->Prop}{lt:α->α->Bool}
omit [Inhabited α] in
theorem rU{vs:List α}{i:Nat}{x:α}(h:∀a∈vs,P a)(B:P x):∀a∈vs.set i x,P a:=by
 intro a u
 rcases List.mem_or_eq_of_mem_set u with h1 | h1
 ·exact h a h1
 ·clear u;subst h1;exact B
theorem Xu(O:rT P lt)(x:α)(s:Nat)(hx:P x):∀(pos:Nat) (vs:List α),(∀a∈vs,P a)->jQ lt s vs pos->(∀j,0<j->j<vs.length->(j-1) / 2=pos->lt (bP vs j) x=false)->jx lt s (sd lt x s vs pos):=by
 intro pos
 induction pos using aeR with
 | _ pos ih=>
  intro vs hP D hb;have U:=D.lt;refine aab (Dr ..) ?_
  split
  ·rename_i J;have xE:s<=(pos-1) / 2:=(D.desc.up J).le
   have W:P (bP vs ((pos-1) / 2)):=hP _ (gi (by exact qF U))
   split
   ·rename_i bp
    refine ih _ (by exact sL J) _ (rU hP W) ⟨?_,?_,D.desc.up J,by simp;exact qF U⟩ ?_
    ·intro j h0 u Y hj G;rw[aaz] at u
     by_cases B:j=pos
     ·clear ih hj;subst B;exact absurd rfl G
     ·refine aab (gg (aaR B)) ?_
      by_cases C:(j-1) / 2=pos
      ·(refine aab C ?_;refine aab (gm U) ?_);exact D.skip J j h0 u C
      ·refine aab (gg (aaR C)) ?_;exact D.pair j h0 u Y B C
    ·intro Z j h0 u G;rw[aaz] at u;have N6:s<=((pos-1) / 2-1) / 2:=((D.desc.up J).up Z).le
     have hq:bP (vs.set pos (bP vs ((pos-1) / 2))) (((pos-1) / 2-1) / 2)=bP vs (((pos-1) / 2-1) / 2):=gg (by exact Si Z)
     refine aab hq ?_
     have pu:=D.pair ((pos-1) / 2) (by exact Sj Z) (by exact Sk G u) N6 (by exact Sl Z) (by exact Sm Z)
     by_cases B:j=pos
     ·clear ih hq;subst B;refine aab (gm U) ?_;exact pu
     ·refine aab (gg (aaR B)) ?_
      have h2:=D.pair j h0 u (by exact Sn G N6) B (by exact So G Z)
      rw[G] at h2
      exact O.trans _ _ _ (hP _ (gi (by exact Sp G u))) W (hP _ (gi u)) pu h2
    ·intro j h0 u G;rw[aaz] at u
     by_cases B:j=pos
     ·clear ih;subst B;refine aab (gm U) ?_;exact O.asymm _ _ hx W bp
     ·refine aab (gg (aaR B)) ?_
      have h2:=D.pair j h0 u (by exact Sq G xE) B (by exact Sr G J)
      rw[G] at h2;exact O.trans _ _ _ hx W (hP _ (gi u)) (O.asymm _ _ hx W bp) h2
   ·rename_i bp
    have mQ:lt x (bP vs ((pos-1) / 2))=false:=by simpa using bp
    intro j h0 u Y;rw[aaz] at u
    by_cases B:j=pos
    ·clear ih xE W bp
     subst B;rw[gm U,gg (by exact EV J)];exact mQ
    ·refine aab (gg (aaR B)) ?_
     by_cases C:(j-1) / 2=pos
     ·(refine aab C ?_;refine aab (gm U) ?_);exact hb j h0 u C
     ·refine aab (gg (aaR C)) ?_;exact D.pair j h0 u Y B C
  ·rename_i J;intro j h0 u Y;rw[aaz] at u;have Du:=D.desc.le
   by_cases B:j=pos
   ·(exfalso;exact Ss h0 B Y J)
   ·refine aab (gg (aaR B)) ?_
    by_cases C:(j-1) / 2=pos
    ·(refine aab C ?_;refine aab (gm U) ?_);exact hb j h0 u C
    ·refine aab (gg (aaR C)) ?_;exact D.pair j h0 u Y B C
theorem Xv(O:rT P lt){vs:List α}{pos j:Nat}(u:∀a∈vs,P a)(G:2*pos+1<vs.length)(h0:0<j)(B:j<vs.length)(C:(j-1) / 2=pos):lt (bP vs j) (bP vs (eR lt vs pos))=false:=by
 have refl:∀a,P a->lt a a=false:=λa D=>by
  cases e:lt a a with
  | false=>rfl
  | true=>have:=O.asymm a a D D e;rw[e] at this;(exfalso;exact nomatch this)
 unfold eR
 split
 ·rename_i h
  rcases(show j=2*pos+1\/j=2*pos+2 by exact Lg C h0) with rfl | rfl
  ·exact h.2
  ·exact refl _ (u _ (gi B))
 ·rename_i h
  rcases(show j=2*pos+1\/j=2*pos+2 by exact Lg C h0) with rfl | rfl
  ·exact refl _ (u _ (gi B))
  ·have:lt (bP vs (2*pos+1)) (bP vs (2*pos+2))=true:=by
    cases e:lt (bP vs (2*pos+1)) (bP vs (2*pos+2)) with
    | true=>rfl
    | false=>exact absurd ⟨B,e⟩ h
   exact O.asymm _ _ (u _ (gi G)) (u _ (gi B)) this
theorem Xw(O:rT P lt)(s:Nat):∀(k:Nat) (vs:List α) (pos:Nat),vs.length-pos<=k->(∀a∈vs,P a)->jQ lt s vs pos->
  jQ lt s (down lt vs pos).1 (down lt vs pos).2/\(∀a∈(down lt vs pos).1,P a)/\¬2*(down lt vs pos).2+1<(down lt vs pos).1.length:=by
 intro k
 induction k with
 | zero=>intro vs pos h D u;have:=u.lt;(exfalso;exact Le h this)
 | succ k ih=>
  intro vs pos h D u;refine aab (tq ..) ?_
  split
  ·rename_i G;have h3:=tp lt vs pos;have h4:=xD (lt:=lt) G;have h5:=Xk lt vs pos;have U:=u.lt;have Du:=u.desc.le
   refine ih _ _ (by simp;exact kb1 h h3) (rU D (D _ (gi h4))) ⟨?_,?_,u.desc.eR h5 h3,by simpa using h4⟩
   ·intro j h0 C Y hj B;rw[aaz] at C
    by_cases W:j=pos
    ·clear h h3 Du hj;subst W
     rw[gm U,gg (by exact Su h0)]
     exact u.skip (by exact Sv h0 Y) _ (by exact Sw h5 B) h4 h5
    ·refine aab (gg (aaR W)) ?_
     by_cases J:(j-1) / 2=pos
     ·(refine aab J ?_;refine aab (gm U) ?_);exact Xv O D G h0 C J
     ·refine aab (gg (aaR J)) ?_;exact u.pair j h0 C Y W J
   ·intro Z j h0 C B;rw[aaz] at C
    rw[h5,gm U,gg (by exact Sx B h5 h0)]
    have:=u.pair j h0 C (by exact Sy B Z) (by exact Sz B h5 h0) (by exact SA B h5 Z)
    rw[B] at this;exact this
  ·rename_i G;exact⟨u,D,G⟩
theorem N7(O:rT P lt)(vs:List α)(pos:Nat)(B:∀a∈vs,P a)(u:pos<vs.length)(J:jx lt (pos+1) vs):jx lt pos (su lt vs pos):=by
 have h0:jQ lt pos vs pos:=⟨λj h0 u U C W=>J j h0 u (by exact SD W U),λh=>by(exfalso;exact SE h),dP.refl _,u⟩
 refine y5 (Xw O pos _ vs pos (aaw _) B h0) λh1 h2 h3=>?_;unfold su;have D:P (bP vs pos):=B _ (gi u);refine Xu O _ _ D _ _ (rU h2 D) (h1.set _) ?_;intro j C G Y;rw[aaz] at G
 (exfalso;exact SF Y C G h3)
noncomputable def gT(lt:α->α->Bool):Nat->List α->List α
 | 0,vs=>vs
 | k+1,vs=>gT lt k (su lt vs k)
theorem N8(lt:α->α->Bool):∀(k:Nat) (vs:List α),k<=vs.length->(gT lt k vs).Perm vs
 | 0,vs,_=>ade _
 | k+1,vs,h=>(N8 lt k _ (by refine aab (IM ..) ?_;exact iE h)).trans (Ds lt vs k (by exact EW h))
theorem N9(O:rT P lt):∀(k:Nat) (vs:List α),k<=vs.length->(∀a∈vs,P a)->jx lt k vs->jx lt 0 (gT lt k vs)
 | 0,vs,_,_,h=>h
 | k+1,vs,hk,u,h=>N9 O k _ (by refine aab (IM ..) ?_;exact iE hk) (λa B=>u a ((Ds lt vs k (by exact EW hk)).mem_iff.mp B)) (N7 O vs k u (by exact EW hk) h)
theorem Xx(lt:α->α->Bool)(vs:List α):jx lt (vs.length / 2) vs:=by
 intro j h0 u B;(exfalso;exact SG B h0 u)
theorem Xy(O:rT P lt){vs:List α}(B:∀a∈vs,P a)(C:jx lt 0 vs):∀j,j<vs.length->lt (bP vs j) (bP vs 0)=false:=by
 intro j
 induction j using aeR with
 | _ j D=>
  intro u
  by_cases h0:j=0
  ·subst h0
   cases e:lt (bP vs 0) (bP vs 0) with
   | false=>rfl
   | true=>have:=O.asymm _ _ (B _ (gi u)) (B _ (gi u)) e;rw[e] at this;(exfalso;exact nomatch this)
  ·have h1:=D ((j-1) / 2) (by exact SH h0) (by exact qF u)
   have h2:=C j (by exact K5 h0) u (by exact Lh)
   exact O.trans _ _ _ (B _ (gi (by exact qD u))) (B _ (gi (by exact qF u))) (B _ (gi u)) h1 h2
noncomputable def xF(lt:α->α->Bool)(vs:List α)(x:α):List α:=sd lt x 0 (vs++[x]) vs.length
end
noncomputable def Oa:M Bool:=(do let a <- (ah "pos");let b <- (ah "startpos");let c <- uS a b;bi c)
noncomputable def Ob:M Fl:=(aS (do let v <- (do let a <- (do let a <- (ah "pos");let b <- (pure (V.int 1):M V);lh a b);let b <- (pure (V.int 1):M V);my a b);(λv=>aR "parentpos" v) v;pure .next:M Fl) (aS (do let v <- (do let o <- (ah "heap");let i <- (ah "parentpos");b0 o i);(λv=>aR "parent" v) v;pure .next:M Fl) (aS (do if(<- (do let a <- (ah "newitem");let b <- (ah "parent");let c <- ltV a b;bi c))=true then(aS (do let v <- (ah "parent");(λv=>do let a <- (ah "heap");let b <- (ah "pos");fc a b v) v;pure .next:M Fl) (aS (do let v <- (ah "parentpos");(λv=>aR "pos" v) v;pure .next:M Fl) (pure .cont:M Fl))) else(pure .next:M Fl):M Fl) (pure .brk:M Fl))))
noncomputable def IN:M Fl:=(aS (do let v <- (do let o <- (ah "heap");let i <- (ah "pos");b0 o i);(λv=>aR "newitem" v) v;pure .next:M Fl) (aS (g8 Oa Ob 4096) (do let v <- (ah "newitem");(λv=>do let a <- (ah "heap");let b <- (ah "pos");fc a b v) v;pure .next:M Fl)))
noncomputable def xG:bj:=cZ ["heap", "startpos", "pos"] IN
noncomputable def Oc:M Bool:=(do let a <- (ah "childpos");let b <- (ah "endpos");let c <- ltV a b;bi c)
noncomputable def Od:M Fl:=(aS (do let v <- (do let a <- (ah "childpos");let b <- (pure (V.int 1):M V);dM a b);(λv=>aR "rightpos" v) v;pure .next:M Fl) (aS (do if(<- (do if(<- (do let a <- (ah "rightpos");let b <- (ah "endpos");let c <- ltV a b;bi c))=true then(do if(<- (do let b <- (do let a <- (do let o <- (ah "heap");let i <- (ah "childpos");b0 o i);let b <- (do let o <- (ah "heap");let i <- (ah "rightpos");b0 o i);let c <- ltV a b;bi c);pure (!b)))=true then(pure true:M Bool) else pure false) else pure false))=true then(do let v <- (ah "rightpos");(λv=>aR "childpos" v) v;pure .next:M Fl) else(pure .next:M Fl):M Fl) (aS (do let v <- (do let o <- (ah "heap");let i <- (ah "childpos");b0 o i);(λv=>do let a <- (ah "heap");let b <- (ah "pos");fc a b v) v;pure .next:M Fl) (aS (do let v <- (ah "childpos");(λv=>aR "pos" v) v;pure .next:M Fl) (do let v <- (do let a <- (do let a <- (pure (V.int 2):M V);let b <- (ah "pos");jM a b);let b <- (pure (V.int 1):M V);dM a b);(λv=>aR "childpos" v) v;pure .next:M Fl)))))
noncomputable def IP:M Fl:=(aS (do let v <- (do let vs <- (do let v <- (ah "heap");let vs <- (pure []:M (List V));pure (v::vs));d8 vs);(λv=>aR "endpos" v) v;pure .next:M Fl) (aS (do let v <- (ah "pos");(λv=>aR "startpos" v) v;pure .next:M Fl) (aS (do let v <- (do let o <- (ah "heap");let i <- (ah "pos");b0 o i);(λv=>aR "newitem" v) v;pure .next:M Fl) (aS (do let v <- (do let a <- (do let a <- (pure (V.int 2):M V);let b <- (ah "pos");jM a b);let b <- (pure (V.int 1):M V);dM a b);(λv=>aR "childpos" v) v;pure .next:M Fl) (aS (g8 Oc Od 4096) (aS (do let v <- (ah "newitem");(λv=>do let a <- (ah "heap");let b <- (ah "pos");fc a b v) v;pure .next:M Fl) (do let _ <- (do let vs <- (do let v <- (ah "heap");let vs <- (do let v <- (ah "startpos");let vs <- (do let v <- (ah "pos");let vs <- (pure []:M (List V));pure (v::vs));pure (v::vs));pure (v::vs));wg xG vs);pure .next:M Fl)))))))
noncomputable def x9:bj:=cZ ["heap", "pos"] IP
noncomputable def IQ:M Fl:=(aS (do let v <- (do let o <- (ah "heap");let i <- (pure (V.int 0):M V);b0 o i);(λv=>aR "returnitem" v) v;pure .next:M Fl) (aS (do let v <- (ah "item");(λv=>do let a <- (ah "heap");let b <- (pure (V.int 0):M V);fc a b v) v;pure .next:M Fl) (aS (do let _ <- (do let vs <- (do let v <- (ah "heap");let vs <- (do let v <- (pure (V.int 0):M V);let vs <- (pure []:M (List V));pure (v::vs));pure (v::vs));wg x9 vs);pure .next:M Fl) (do let v <- (ah "returnitem");pure (.ret v):M Fl))))
noncomputable def z6:bj:=cZ ["heap", "item"] IQ
noncomputable def Oe:V->M Unit:=(λv=>aR "i" v)
noncomputable def Of:M Fl:=(do let _ <- (do let vs <- (do let v <- (ah "x");let vs <- (do let v <- (ah "i");let vs <- (pure []:M (List V));pure (v::vs));pure (v::vs));wg x9 vs);pure .next:M Fl)
noncomputable def IS:M Fl:=(aS (do let v <- (do let vs <- (do let v <- (ah "x");let vs <- (pure []:M (List V));pure (v::vs));d8 vs);(λv=>aR "n" v) v;pure .next:M Fl) (do let v <- (do let vs <- (do let v <- (do let a <- (ah "n");let b <- (pure (V.int 2):M V);oE a b);let vs <- (pure []:M (List V));pure (v::vs));pq vs);let r <- f6 v;bO (kj r) Oe Of 4096 0))
noncomputable def xH:bj:=cZ ["x"] IS
noncomputable def MW{α:Type}(m:M α)(σ:S)(Q:α->S->Prop):Prop:= ∃a aa,m σ = .ok a aa/\Q a aa
section
variable{α β:Type}{σ:S}
theorem MW.mono{m:M α}{Q u:α->S->Prop}(h:MW m σ Q)(k:∀a aa,Q a aa->u a aa):MW m σ u:=by
 refine xj h λa aa e q=>?_
 try clear h;exact(gf a aa e (k _ _ q))
theorem gb{m:S->Res S α}{Q:α->S->Prop}{a:α}{aa:S}(e:m σ = .ok a aa):MW m σ Q↔Q a aa:=by
 constructor
 ·rintro⟨D,G,u,q⟩;rw[e] at u;(injection u with B C;subst B C);exact q
 ·exact λq=>(gf a aa e q)
theorem yb{a:α}{Q:α->S->Prop}:MW (pure a:M α) σ Q↔Q a σ:=gb rfl
theorem qb{m:M α}{f:α->M β}{Q:β->S->Prop}:MW (m >>= f) σ Q↔MW m σ (λa aa=>MW (f a) aa Q):=by
 constructor
 ·rintro⟨b,aa,e,q⟩
  rw[M.ap] at e
  cases u:m σ with
  | ok a B=>rw[u] at e;exact⟨a,B,u,b,aa,e,q⟩
  | exc x y=>rw[u] at e;(injection e)
  | stuck=>rw[u] at e;(injection e)
 ·rintro⟨a,B,u,b,aa,e,q⟩
  exact(gf b aa (by(refine aab (M.ap ..) ?_;refine aab u ?_);exact e) q)
theorem yp{a b:M Fl}{Q:Fl->S->Prop}:MW (aS a b) σ Q↔MW a σ (λf aa=>match f with | .next=>MW b aa Q | .brk=>Q .brk aa | .cont=>Q .cont aa | .ret v=>Q (.ret v) aa):=by
 unfold aS;refine aab (propext (qb)) ?_
 constructor
 ·rintro⟨f,aa,e,q⟩
  refine(gf f aa e ?_)
  cases f<;>first | exact q | exact yb.mp q
 ·rintro⟨f,aa,e,q⟩
  refine(gf f aa e ?_)
  cases f<;>first | exact q | exact yb.mpr q
theorem jc{x:String}{Q:V->S->Prop}:MW (ah x) σ Q↔∃v,σ.lo x=aac v/\Q v σ:=by
 constructor
 ·rintro⟨a,aa,e,q⟩
  unfold ah at e
  cases h:σ.lo x with
  | none=>rw[h] at e;(injection e)
  | some v=>rw[h] at e;cases e;exact(ja _ rfl q)
 ·rintro⟨v,e,q⟩
  exact(gf v σ (by unfold ah;exact aab e rfl) q)
theorem qe{x:String}{v:V}{Q:Unit->S->Prop}:MW (aR x v) σ Q↔Q () (σ.put x v):=gb rfl
theorem ki{x:String}{v:V}:(σ.put x v).st=σ.st:=rfl
theorem qa{x y:String}{v:V}:(σ.put x v).lo y=if y=x then aac v else σ.lo y:=rfl
theorem Xz{a b:Int}{Q:V->S->Prop}:MW (lh (.int a) (.int b)) σ Q↔Q (.int (a-b)) σ:=gb rfl
theorem pw{a:Int}{Q:V->S->Prop}:MW (iM (.int a)) σ Q↔Q (.int (-a)) σ:=gb rfl
theorem yl{b:Bool}{Q:Bool->S->Prop}:MW (bi (.bool b)) σ Q↔Q b σ:=gb rfl
theorem XA{a b:Int}{Q:V->S->Prop}:MW (ltV (.int a) (.int b)) σ Q↔Q (.bool (decide (a<b))) σ:=by
 refine gb ?_
 rfl
theorem XB{a:Int}{Q:V->S->Prop}:MW (my (.int a) (.int 1)) σ Q↔0<=a/\Q (.int (a / 2)) σ:=by
 by_cases h:0<=a
 ·rw[gb (a:= .int (a / 2)) (aa:=σ) (by show(if 0<=a then Res.ok (V.int (a / 2)) σ else .stuck)=_;rw[if_pos h])];simp[h]
 ·constructor
  ·rintro⟨_,_,e,_⟩;have e:(if 0<=a then Res.ok (V.int (a / 2)) σ else .stuck)=_:=e;rw[if_neg h] at e;(injection e)
  ·exact λq=>absurd q.1 h
theorem Og{a b:Int}{Q:V->S->Prop}:MW (jM (.int a) (.int b)) σ Q↔(-1000000000<a/\a<1000000000)/\Q (.int (a*b)) σ:=by
 by_cases h : -1000000000<a/\a<1000000000
 ·rw[gb (a:= .int (a*b)) (aa:=σ) (by unfold jM;dsimp only;rw[if_pos h])];simp[h]
 ·constructor
  ·rintro⟨_,_,e,_⟩;unfold jM at e;dsimp only at e;rw[if_neg h] at e;(injection e)
  ·exact λq=>absurd q.1 h
theorem Dv{a b:Int}{Q:V->S->Prop}:MW (oE (.int a) (.int b)) σ Q↔(0<b/\b<1000000000)/\Q (.int (a / b)) σ:=by
 by_cases h:0<b/\b<1000000000
 ·rw[gb (a:= .int (a / b)) (aa:=σ) (by unfold oE;dsimp only;rw[if_pos h])];simp[h]
 ·constructor
  ·rintro⟨_,_,e,_⟩;unfold oE at e;dsimp only at e;rw[if_neg h] at e;(injection e)
  ·exact λq=>absurd q.1 h
theorem gy{a b:Int}{Q:V->S->Prop}:MW (kx (.int a) (.int b)) σ Q↔(0<b/\b<1000000000)/\Q (.int (a%b)) σ:=by
 by_cases h:0<b/\b<1000000000
 ·rw[gb (a:= .int (a%b)) (aa:=σ) (by unfold kx;dsimp only;rw[if_pos h])];simp[h]
 ·constructor
  ·rintro⟨_,_,e,_⟩;unfold kx at e;dsimp only at e;rw[if_neg h] at e;(injection e)
  ·exact λq=>absurd q.1 h
theorem oR{n j:Nat}:ix n (j:Int)=if j<n then aac j else aam:=by
 unfold ix;rw[if_pos (by exact Li)];simp
theorem zv{l:Nat}{k:Int}{vs:List V}{j:Nat}{v:V}{Q:V->S->Prop}(h:σ.st[l]?=aac (.lst vs))(hk:ix vs.length k=aac j)(u:vs[j]?=aac v):MW (b0 (.obj l) (.int k)) σ Q↔Q v σ:=by
 refine gb ?_;unfold b0;dsimp only;refine aab h ?_;dsimp only;refine aab hk ?_;dsimp only;exact aab u rfl
theorem Oh{vs:List V}{k:Int}{j:Nat}{v:V}{Q:V->S->Prop}(hk:ix vs.length k=aac j)(u:vs[j]?=aac v):MW (b0 (.tup vs) (.int k)) σ Q↔Q v σ:=by
 refine gb ?_;unfold b0;dsimp only;refine aab hk ?_;dsimp only;exact aab u rfl
theorem tz{l:Nat}{k:Int}{vs:List V}{v:V}{j:Nat}{Q:Unit->S->Prop}(h:σ.st[l]?=aac (.lst vs))(u:l≠0)(hk:k=j)(B:j<vs.length):
  MW (fc (.obj l) (.int k) v) σ Q↔Q () {σ with st:=σ.st.set l (.lst (vs.set j v))}:=by
 refine gb ?_;subst hk;unfold fc;dsimp only;refine aab h ?_;dsimp only
 (refine aab (adG ..) ?_;exact(if_pos ⟨u,by exact Li,B⟩))
theorem oS{l:Nat}{vs:List V}{Q:V->S->Prop}(h:σ.st[l]?=aac (.lst vs)):MW (d8 [.obj l]) σ Q↔Q (.int vs.length) σ:=by
 refine gb ?_;unfold d8;dsimp only;exact aab h rfl
theorem IU{l:Nat}{vs:List V}{Q:Bool->S->Prop}(h:σ.st[l]?=aac (.lst vs)):MW (bi (.obj l)) σ Q↔Q (!vs.isEmpty) σ:=by
 refine gb ?_;unfold bi;dsimp only;exact aab h rfl
theorem IV{l:Nat}{vs:List V}{Q:Unit->S->Prop}(h:σ.st[l]?=aac (.lst vs)):MW (cb (.obj l)) σ Q↔Q () σ:=gb (sW h)
theorem Oi{l:Nat}{vs:List V}{v:V}{Q:V->S->Prop}(h:σ.st[l]?=aac (.lst vs))(u:l≠0)(B:vs.length<1000000):MW (rs (.obj l) [v]) σ Q↔Q .none {σ with st:=σ.st.set l (.lst (vs++[v]))}:=by
 refine gb ?_;unfold rs;dsimp only;refine aab h ?_;dsimp only;exact(if_pos ⟨u,B⟩)
theorem IW{vs:List V}{Q:V->S->Prop}(u:vs.length<=1000000):MW (cB vs) σ Q↔Q (.obj σ.st.length) {σ with st:=σ.st++[.lst vs]}:=by
 refine gb ?_;simp only[cB,if_pos u]
theorem px{vs:List V}{Q:V->S->Prop}(u:vs.length<=1000000):MW (lA vs) σ Q↔Q (.tup vs) σ:=by
 refine gb ?_;simp only[lA,if_pos u]
theorem zk{g:bj}{vs:List V}{v:V}{am:jb}{Q:V->S->Prop}(h:g vs σ.st = .ok v am):MW (wg g vs) σ Q↔Q v {σ with st:=am}:=by
 refine gb ?_;unfold wg;exact aab h rfl
theorem Oj{c:M Bool}{b:M Fl}{Q:Fl->S->Prop}(I:Nat->S->Prop)
  (h:∀k σ,I k σ->MW c σ (λt D=>if t=true then MW b D (λf u=>match f with | .next => ∃j,j<k/\I j u | .cont => ∃j,j<k/\I j u | .brk=>Q .next u | .ret v=>Q (.ret v) u) else Q .next D)) :
  ∀(n k:Nat) (σ:S),k<n->I k σ->MW (g8 c b n) σ Q:=by
 intro n
 induction n with
 | zero=>intro k σ hk;(exfalso;exact EP hk)
 | succ n O=>
  intro k σ hk U;show MW (c >>= _) σ Q;refine aab (propext (qb)) ?_;refine(h k σ U).mono λt D B=>?_
  cases t with
  | false=>rw[if_neg abz] at B ⊢;exact yb.mpr B
  | true=>
   rw[if_pos rfl] at B ⊢;refine aab (propext (qb)) ?_;refine B.mono λf u C=>?_
   cases f with
   | next=>obtain⟨j,G,J⟩:=C;exact O j u (by exact Lj G hk) J
   | cont=>obtain⟨j,G,J⟩:=C;exact O j u (by exact Lj G hk) J
   | brk=>exact yb.mpr C
   | ret v=>exact yb.mpr C
theorem Dw{C:S->Nat->Option (Option V)}{t:V->M Unit}{b:M Fl}{Q:Fl->S->Prop}(N:Nat)(I:Nat->S->Prop)
  (U:∀σ,I N σ->C σ N=aac aam/\Q .next σ)
  (h:∀i σ,i<N->I i σ->∃v,C σ i=aac (aac v)/\MW (t v) σ (λW G=>MW b G (λf u=>match f with | .next=>I (i+1) u | .cont=>I (i+1) u | .brk=>Q .next u | .ret v=>Q (.ret v) u))) :
  ∀(n i:Nat) (σ:S),i<=N->N-i<n->I i σ->MW (bO C t b n i) σ Q:=by
 intro n
 induction n with
 | zero=>intro i σ _ hk;(exfalso;exact EX hk)
 | succ n J=>
  intro i σ hi hk O
  by_cases B:i=N
  ·subst B;refine ye (U σ O) λe q=>?_;refine(gf .next σ ?_ q)
   (refine aab (Gs ..) ?_;exact aab e rfl)
  ·obtain⟨v,e,Y⟩:=h i σ (by exact EY hi B) O
   have key:MW (do
    t v
    match <- b with
    | .next=>bO C t b n (i+1)
    | .cont=>bO C t b n (i+1)
    | .brk=>pure .next
    | .ret v=>pure (.ret v)) σ Q:=by
    refine aab (propext (qb)) ?_;refine Y.mono λW G h1=>?_;refine aab (propext (qb)) ?_;refine h1.mono λf u D=>?_
    cases f with
    | next=>exact J (i+1) u (by exact Cu hi B) (by exact Cv hk hi B) D
    | cont=>exact J (i+1) u (by exact Cu hi B) (by exact Cv hk hi B) D
    | brk=>exact yb.mpr D
    | ret v=>exact yb.mpr D
   refine xj key λa aa Z q=>?_
   try clear key
   refine(gf a aa ?_ q)
   (refine aab (Gs ..) ?_;refine aab e ?_);exact Z
end
section
variable{α β γ:Type}{σ:S}
theorem xI{m:M α}{f:α->M β}{g:β->M γ}{Q:γ->S->Prop}(k:MW (m >>= λa=>f a >>= g) σ Q):MW ((m >>= f) >>= g) σ Q :=
 qb.mpr (qb.mpr ((qb.mp k).mono λu u h=>qb.mp h))
theorem Ol{a:α}{f:α->M β}{Q:β->S->Prop}(k:MW (f a) σ Q):MW ((pure a:M α) >>= f) σ Q:=k
theorem xJ{c:Prop}[Decidable c]{a b:M α}{f:α->M β}{Q:β->S->Prop}(k:MW (if c then a >>= f else b >>= f) σ Q):MW ((if c then a else b) >>= f) σ Q:=by
 split at k
 ·rename_i h;refine aab (if_pos h) ?_;exact k
 ·rename_i h;refine aab (if_neg h) ?_;exact k
theorem w_t{a b:M α}{Q:α->S->Prop}(k:MW a σ Q):MW (if true=true then a else b) σ Q:=k
theorem w_f{a b:M α}{Q:α->S->Prop}(k:MW b σ Q):MW (if false=true then a else b) σ Q:=k
theorem Om{x:String}{v:V}{f:V->M β}{Q:β->S->Prop}(h:σ.lo x=aac v)(k:MW (f v) σ Q):MW (ah x >>= f) σ Q:=qb.mpr (jc.mpr (ja v h k))
theorem On{x:String}{v:V}{f:Unit->M β}{Q:β->S->Prop}(k:MW (f ()) (σ.put x v) Q):MW (aR x v >>= f) σ Q:=k
theorem Oo{a b:Int}{f:V->M β}{Q:β->S->Prop}(k:MW (f (.int (a+b))) σ Q):MW (dM (.int a) (.int b) >>= f) σ Q:=k
theorem Op{a b:Int}{f:V->M β}{Q:β->S->Prop}(k:MW (f (.int (a-b))) σ Q):MW (lh (.int a) (.int b) >>= f) σ Q:=k
theorem qep{a:Int}{f:V->M β}{Q:β->S->Prop}(k:MW (f (.int (-a))) σ Q):MW (iM (.int a) >>= f) σ Q:=k
theorem Oq{b:Bool}{f:Bool->M β}{Q:β->S->Prop}(k:MW (f b) σ Q):MW (bi (.bool b) >>= f) σ Q:=k
theorem w_lt{a b:Int}{f:V->M β}{Q:β->S->Prop}(k:MW (f (.bool (decide (a<b)))) σ Q):MW (ltV (.int a) (.int b) >>= f) σ Q:=qb.mpr (XA.mpr k)
theorem xK{a b:Int}{f:V->M β}{Q:β->S->Prop}(k:MW (f (.bool (decide (b<a)))) σ Q):MW (uS (.int a) (.int b) >>= f) σ Q:=k
theorem XC{a b:Int}{f:V->M β}{Q:β->S->Prop}(k:MW (f (.bool (decide (b<=a)))) σ Q):MW (C7 (.int a) (.int b) >>= f) σ Q:=k
theorem XD{a b:Int}{f:V->M β}{Q:β->S->Prop}(k:MW (f (.bool (decide (a<=b)))) σ Q):MW (Ws (.int a) (.int b) >>= f) σ Q:=k
theorem IY{m:M α}{f:α->M β}{Q:β->S->Prop}(k:MW m σ (λa aa=>MW (f a) aa Q)):MW (m >>= f) σ Q:=qb.mpr k
theorem gw{a b:M Fl}{Q:Fl->S->Prop}(k:MW a σ (λf aa=>match f with | .next=>MW b aa Q | .brk=>Q .brk aa | .cont=>Q .cont aa | .ret v=>Q (.ret v) aa)):MW (aS a b) σ Q:=yp.mpr k
theorem rV{a:α}{Q:α->S->Prop}(k:Q a σ):MW (pure a:M α) σ Q:=⟨a,σ,rfl,k⟩
theorem Ot{x:String}{v:V}{Q:Unit->S->Prop}(k:Q () (σ.put x v)):MW (aR x v) σ Q:=qe.mpr k
theorem Ou{b:Bool}{Q:Bool->S->Prop}(k:Q b σ):MW (bi (.bool b)) σ Q:=yl.mpr k
theorem kep{x:String}{v:V}{Q:V->S->Prop}(h:σ.lo x=aac v)(k:Q v σ):MW (ah x) σ Q:=jc.mpr (ja v h k)
end
theorem rW{params:List String}{body:M Fl}{vs:List V}{st am:jb}{v:V}(B:vs.length=params.length)
  (h:MW body ⟨st,qd params vs⟩ (λf aa=>(match f with | .ret u=>u | _=>.none)=v/\aa.st=am)):cZ params body vs st = .ok v am:=by
 refine gc h λf aa e h1 h2=>?_
 try clear h
 unfold cZ
 (refine aab (if_pos B) ?_;refine aab e ?_)
 subst h1 h2
 cases f<;>rfl
noncomputable def oU(st:jb)(l:Nat)(P:V->Prop)(lt:V->V->Bool):Prop :=
 ∀ws:List V,∀a b,P a->P b->∀lo,ltV a b ⟨st.set l (.lst ws),lo⟩ = .ok (.bool (lt a b)) ⟨st.set l (.lst ws),lo⟩
theorem zep{σ:S}{β:Type}{a b:Int}{f:V->M β}{Q:β->S->Prop}(k:MW (f (.int (a+b))) σ Q):MW (WX (.int a) (.int b) >>= f) σ Q:=k
theorem XE{σ:S}{β:Type}{a b:Int}{f:V->M β}{Q:β->S->Prop}(k:MW (f (.int (a-b))) σ Q):MW (Dd (.int a) (.int b) >>= f) σ Q:=k
theorem XF{σ:S}{β:Type}{n:Int}{f:V->M β}{Q:β->S->Prop}(k:MW (f (.ch 0 n 1)) σ Q):MW (pq [.int n] >>= f) σ Q:=k
theorem yep{σ:S}{β:Type}{n:Int}{f:V->M β}{Q:β->S->Prop}(k:MW (f (.ch 0 n 1)) σ Q):MW (ky [.int n] >>= f) σ Q:=k
theorem jep{σ:S}{β:Type}{a b:Int}{f:V->M β}{Q:β->S->Prop}(k:MW (f (.ch a b 1)) σ Q):MW (ky [.int a,.int b] >>= f) σ Q:=k
theorem XG{σ:S}{β:Type}{a b:Int}{f:V->M β}{Q:β->S->Prop}(k:MW (f (.int (if b<a then b else a))) σ Q):MW (oM [.int a,.int b] >>= f) σ Q:=k
noncomputable def xL(b:M Fl)(Q:Fl->S->Prop):Fl->S->Prop:=λf aa=>match f with
 | .next=>MW b aa Q
 | f=>Q f aa
theorem zf{σ:S}{a b:M Fl}{Q:Fl->S->Prop}(k:MW a σ (xL b Q)):MW (aS a b) σ Q:=by
 refine aab (propext (yp)) ?_;refine k.mono λf aa h=>?_
 cases f<;>exact h
theorem oV{σ:S}{b:M Fl}{Q:Fl->S->Prop}(k:MW b σ Q):xL b Q .next σ:=k
local macro_rules | `(tactic| walk_at "mx") => `(tactic| ((repeat (first | (with_reducible first | apply xI | apply Ol | apply On | apply Oq | apply Oo | apply Op | apply w_lt | apply xK | apply xJ | apply rV | apply Ot | apply Ou | apply w_eq) | ((with_reducible first | apply Om);· first | exact rfl | assumption)));try with_reducible apply IY))
section
variable{P:V->Prop}{lt:V->V->Bool}
theorem xM{st:jb}{l:Nat}{ws:List V}{c:bn}(h:st[l]?=aac c):(st.set l (.lst ws))[l]?=aac (.lst ws):=by
 rw[acm];exact(aaY.mp h).1
theorem IZ{st:jb}{l:Nat}{ws:List V}(h:st[l]?=aac (.lst ws)):st.set l (.lst ws)=st:=by
 refine xc (aaY.mp h) λh1 h2=>?_;rw[<- h2];exact agD h1
theorem Ov{st:jb}{l:Nat}{σ:S}{ws:List V}{a b:V}{Q:V->S->Prop}(h:oU st l P lt)(u:σ.st=st.set l (.lst ws))(B:P a)(C:P b):MW (ltV a b) σ Q↔Q (.bool (lt a b)) σ:=by
 refine gb ?_;obtain⟨D,lo⟩:=σ;dsimp only at u;subst u;exact h ws a b B C lo
theorem rX{l j:Nat}{k:Int}{vs:List V}{σ:S}{Q:V->S->Prop}(h:σ.st[l]?=aac (.lst vs))(hk:k=j)(u:j<vs.length)(q:Q (bP vs j) σ):MW (b0 (.obj l) (.int k)) σ Q:=by
 subst hk
 exact(zv h (by(refine aab oR ?_;exact if_pos u)) (xC u)).mpr q
structure XH(st:jb)(l s:Nat)(vs:List V)(x:V)(P:V->Prop)(lt:V->V->Bool)(out:List V)(k:Nat)(σ:S)(ws:List V):Prop where
 h1:σ.lo "heap" = aac (.obj l)
 h2:σ.lo "startpos" = aac (.int s)
 h3:σ.lo "newitem" = aac x
 h4:σ.lo "pos" = aac (.int (k:Nat))
 h5:σ.st=st.set l (.lst ws)
 h6:k<ws.length
 h7:∀a∈ws,P a
 h8:ws.length=vs.length
 h9:sd lt x s ws k=out
theorem XI{st:jb}{l:Nat}{vs:List V}{s p:Nat}(D:st[l]?=aac (.lst vs))(G:l≠0)(u:p<vs.length)(hn:vs.length<=4000)(Y:∀a∈vs,P a)(bp:oU st l P lt):
  xG [.obj l,.int s,.int p] st = .ok .none (st.set l (.lst (sd lt (bP vs p) s vs p))):=by
 refine rW rfl ?_
 generalize Z:sd lt (bP vs p) s vs p=out
 have I0:P (bP vs p):=Y _ (gi u);unfold IN
 apply gw
 walk_at "mx"
 refine rX (by exact D) rfl u ?_
 walk_at "mx"
 apply gw
 refine Oj (λk σ => ∃ws,XH st l s vs (bP vs p) P lt out k σ ws) ?_ 4096 p _ (by exact SI u hn) ⟨vs,rfl,rfl,rfl,rfl,(IZ D).symm,u,Y,rfl,Z⟩
 rintro k σ ⟨ws,h1,h2,h3,h4,h5,h6,h7,h8,h9⟩
 have B:σ.st[l]?=aac (.lst ws):=by refine aab h5 ?_;exact xM D
 clear Z
 have J:∀us,σ.st.set l (.lst us)=st.set l (.lst us):=λus=>by(refine aab h5 ?_;exact acl ..)
 rw[Dr] at h9;unfold Oa Ob
 walk_at "mx"
 split
 ·rename_i O
  have C:s<k:=by have:=of_decide_eq_true O;exact aa7.mp this
  have U:(k-1) / 2<ws.length:=by exact qF h6
  rw[dif_pos C] at h9
  apply gw
  walk_at "mx"
  refine XB.mpr ⟨by exact SJ C,?_⟩
  have ek:((k:Int)-1) / 2=(((k-1) / 2:Nat):Int):=Xl C;refine aab ek ?_
  walk_at "mx"
  apply gw
  walk_at "mx"
  refine rX (by exact B) rfl U ?_
  walk_at "mx"
  apply gw
  walk_at "mx"
  have Ow:P (bP ws ((k-1) / 2)):=h7 _ (gi U)
  refine(Ov bp (by exact h5) I0 Ow).mpr ?_
  walk_at "mx"
  split
  ·rename_i W;rw[if_pos W] at h9
   apply gw
   walk_at "mx"
   refine(tz (by exact B) G rfl h6).mpr ?_
   walk_at "mx"
   apply gw
   walk_at "mx"
   exact⟨(k-1) / 2,by exact sL C,ws.set k (bP ws ((k-1) / 2)),h1,h2,h3,rfl,J _,by refine aab aaz ?_;exact U,rU h7 Ow,by refine aab aaz ?_;exact h8,h9⟩
  ·rename_i W;rw[if_neg W] at h9
   walk_at "mx"
   refine(tz (by exact B) G rfl h6).mpr ?_
   walk_at "mx"
   exact⟨rfl,h9▸J _⟩
 ·rename_i O
  rw[dif_neg (by intro h;exact O (decide_eq_true (by exact aa7.mpr h)))] at h9
  walk_at "mx"
  refine(tz (by exact B) G rfl h6).mpr ?_
  walk_at "mx"
  exact⟨rfl,h9▸J _⟩
theorem oU.set{st:jb}{l:Nat}(h:oU st l P lt)(ws:List V):oU (st.set l (.lst ws)) l P lt:=by
 intro us a b u B lo;refine aab (acl ..) ?_;exact h us a b u B lo
structure XJ(st:jb)(l p:Nat)(vs:List V)(P:V->Prop)(lt:V->V->Bool)(out:List V×Nat)(k:Nat)(σ:S)(ws:List V)(q:Nat):Prop where
 h1:σ.lo "heap" = aac (.obj l)
 h2:σ.lo "endpos" = aac (.int vs.length)
 h3:σ.lo "startpos" = aac (.int p)
 h4:σ.lo "newitem" = aac (bP vs p)
 h5:σ.lo "pos" = aac (.int (q:Nat))
 h6:σ.lo "childpos" = aac (.int (2*(q:Int)+1))
 h7:σ.st=st.set l (.lst ws)
 h8:q<ws.length
 h9:∀a∈ws,P a
 py:ws.length=vs.length
 tA:down lt ws q=out
 xN:k=vs.length-q
theorem Ox{st:jb}{l:Nat}{vs:List V}{p:Nat}(u:st[l]?=aac (.lst vs))(J:l≠0)(O:p<vs.length)(Z:vs.length<=4000)(hP:∀a∈vs,P a)(bp:oU st l P lt):
  x9 [.obj l,.int p] st = .ok .none (st.set l (.lst (su lt vs p))):=by
 refine rW rfl ?_;unfold su
 generalize hO:down lt vs p=out
 have I0:P (bP vs p):=hP _ (gi O);unfold IP
 apply gw
 walk_at "mx"
 refine(oS (by exact u)).mpr ?_
 walk_at "mx"
 apply gw
 walk_at "mx"
 apply gw
 walk_at "mx"
 refine rX (by exact u) rfl O ?_
 walk_at "mx"
 apply gw
 walk_at "mx"
 refine Og.mpr ⟨by exact L3,?_⟩
 walk_at "mx"
 apply gw
 refine Oj (λk σ => ∃ws q,XJ st l p vs P lt out k σ ws q) ?_ 4096 (vs.length-p) _ (by exact SK Z) ⟨vs,p,rfl,rfl,rfl,rfl,rfl,rfl,(IZ u).symm,O,hP,rfl,hO,rfl⟩
 rintro k σ ⟨ws,q,h1,h2,h3,h4,h5,h6,h7,h8,h9,py,tA,xN⟩
 have B:σ.st[l]?=aac (.lst ws):=by refine aab h7 ?_;exact xM u
 have ci:∀us,σ.st.set l (.lst us)=st.set l (.lst us):=λus=>by(refine aab h7 ?_;exact acl ..)
 rw[tq] at tA;unfold Oc Od
 walk_at "mx"
 split
 ·rename_i U
  have D:2*q+1<ws.length:=by have:=of_decide_eq_true U;exact SM this py
  rw[dif_pos D] at tA;have gZ:=tp lt ws q;have G:=xD (lt:=lt) D
  apply gw
  walk_at "mx"
  apply gw
  refine MW.mono (Q:=λf aa=>f = .next/\aa.lo "heap" = aac (.obj l)/\aa.lo "endpos" = aac (.int vs.length)/\aa.lo "startpos" = aac (.int p)/\aa.lo "newitem" = aac (bP vs p)/\aa.lo "pos" = aac (.int (q:Nat))/\
   aa.st=σ.st/\aa.lo "childpos" = aac (.int ((eR lt ws q:Nat):Int))) ?_ ?_
  ·walk_at "mx"
   split
   ·rename_i hr
    have W:2*q+2<ws.length:=by have:=of_decide_eq_true hr;exact SN this py
    walk_at "mx"
    refine rX (j:=2*q+1) (by exact B) (by exact SO) D ?_
    walk_at "mx"
    refine rX (j:=2*q+2) (by exact B) (by exact SQ) W ?_
    walk_at "mx"
    refine(Ov bp (by exact h7) (h9 _ (gi D)) (h9 _ (gi W))).mpr ?_
    walk_at "mx"
    cases hb:lt (bP ws (2*q+1)) (bP ws (2*q+2)) with
    | true=>
     have C:eR lt ws q=2*q+1:=by unfold eR;rw[if_neg (by rw[hb];simp)]
     refine(F2 _ _ rfl rfl h1 h2 h3 h4 h5 rfl ?_);refine aab C ?_;exact h6
    | false=>
     have C:eR lt ws q=2*q+2:=by unfold eR;exact(if_pos ⟨W,hb⟩)
     refine(F2 _ _ rfl rfl h1 h2 h3 h4 h5 rfl ?_);refine aab C ?_;rfl
   ·rename_i hr
    have C:eR lt ws q=2*q+1:=by unfold eR;rw[if_neg (λh=>hr (decide_eq_true (aa7.mpr (py▸h.1))))]
    refine(F2 _ _ rfl rfl h1 h2 h3 h4 h5 rfl ?_);refine aab C ?_;exact h6
  ·clear h1 h2 h3 h4 h5 h6
   rintro f aa ⟨rfl,h1,h2,h3,h4,h5,Y,h6⟩
   apply gw
   walk_at "mx"
   refine rX (by refine aab Y ?_;exact B) rfl G ?_
   walk_at "mx"
   refine(tz (by refine aab Y ?_;exact B) J rfl h8).mpr ?_
   walk_at "mx"
   apply gw
   walk_at "mx"
   refine Og.mpr ⟨by exact L3,?_⟩
   walk_at "mx"
   exact⟨vs.length-eR lt ws q,by exact SR G xN py gZ,ws.set q (bP ws (eR lt ws q)),eR lt ws q,h1,h2,h3,h4,rfl,rfl,by show aa.st.set l _=_;refine aab Y ?_;exact ci _,by refine aab aaz ?_;exact G,rU h9 (h9 _ (gi G)),by refine aab aaz ?_;exact py,tA,rfl⟩
 ·rename_i U
  rw[dif_neg (λh=>U (decide_eq_true (by exact SS h py)))] at tA
  apply gw
  walk_at "mx"
  refine(tz (by exact B) J rfl h8).mpr ?_
  walk_at "mx"
  refine(zk (by
   show xG [.obj l,.int p,.int q] (σ.st.set l (.lst (ws.set q (bP vs p))))=_;rw[ci]
   exact XI (xM u) J (by refine aab aaz ?_;exact h8) (by refine aab aaz ?_;exact Lk py Z) (rU h9 I0) (bp.set _))).mpr ?_
  walk_at "mx"
  refine⟨rfl,?_⟩;show(st.set l _).set l _=_
  (refine aab (acl ..) ?_;refine aab (gm h8) ?_;rw[<- tA])
end
section
variable{P:V->Prop}{lt:V->V->Bool}
theorem Oy{st:jb}{l:Nat}{vs:List V}{x:V}(u:st[l]?=aac (.lst vs))(B:l≠0)(h0:0<vs.length)(C:vs.length<=4000)(D:∀a∈vs,P a)(G:P x)(J:oU st l P lt):
  z6 [.obj l,x] st = .ok (bP vs 0) (st.set l (.lst (su lt (vs.set 0 x) 0))):=by
 refine rW rfl ?_;unfold IQ;refine zf ?_
 walk_at "mx"
 refine rX (j:=0) (k:=0) (by exact u) rfl h0 ?_
 walk_at "mx"
 refine oV (zf ?_)
 walk_at "mx"
 refine(tz (j:=0) (by exact u) B rfl h0).mpr ?_
 walk_at "mx"
 refine oV (zf ?_)
 walk_at "mx"
 refine(zk (by
  show x9 [.obj l,.int ((0:Nat):Int)] (st.set l (.lst (vs.set 0 x)))=_
  exact Ox (xM u) B (by refine aab aaz ?_;exact h0) (by refine aab aaz ?_;exact C) (rU D G) (J.set _))).mpr ?_
 walk_at "mx"
 refine oV ?_
 walk_at "mx"
 exact⟨rfl,acl ..⟩
theorem XK{q:Int}(u:0<=q/\q<1000000):f6 (.ch 0 q 1)=pure (.ch (q-1) (-1) (-1)):=by(refine aab (Ii ..) ?_;exact if_pos u)
theorem I1(a b c:Int)(σ:S)(i:Nat):kj (.ch a b c) σ i=aac (if i<zl a b c then aac (.int (a+i*c)) else aam):=rfl
theorem Oz{st:jb}{l:Nat}{vs:List V}(C:st[l]?=aac (.lst vs))(G:l≠0)(D:vs.length<=4000)(J:∀a∈vs,P a)(O:oU st l P lt):
  xH [.obj l] st = .ok .none (st.set l (.lst (gT lt (vs.length / 2) vs))):=by
 refine rW rfl ?_
 generalize U:(λ(f:Fl) (aa:S)=>(match f with | .ret u=>u | _=>V.none)=V.none/\aa.st=st.set l (.lst (gT lt (vs.length / 2) vs)))=Q
 unfold IS;refine zf ?_
 have W:qd ["x"] [V.obj l] "x" = aac (.obj l):=rfl
 simp only[qb,jc,yb,qe,W,aal,exists_eq_left']
 refine(oS (by exact C)).mpr ?_
 refine oV ?_;simp only[qb,jc,yb,qa,if_true,aal,exists_eq_left',Dv]
 refine⟨by exact sO,?_⟩
 have e:((vs.length:Nat):Int) / 2=((vs.length / 2:Nat):Int):=by exact Vu
 refine aab e ?_
 have hr:f6 (.ch 0 ((vs.length / 2:Nat):Int) 1)=pure (.ch (((vs.length / 2:Nat):Int)-1) (-1) (-1)):=by
  exact XK (by exact Vv D)
 simp only[pq,yb,hr]
 have B:zl (((vs.length / 2:Nat):Int)-1) (-1) (-1)=vs.length / 2:=by
  have:=s0 (((vs.length / 2:Nat):Int)-1) (-1) (-1)
  rw[No (by exact Vw)] at this
  exact afp.mp this
 refine Dw (vs.length / 2) (λi σ => ∃ws,σ.lo "x" = aac (.obj l)/\σ.st=st.set l (.lst ws)/\(∀a∈ws,P a)/\ws.length=vs.length/\gT lt (vs.length / 2-i) ws=gT lt (vs.length / 2) vs) ?_ ?_ 4096 0 _ (aaL _) (by exact SU D)
  ⟨vs,rfl,(IZ C).symm,J,rfl,rfl⟩
 ·rintro σ ⟨ws,h1,h2,h3,h4,h5⟩
  refine⟨?_,?_⟩
  ·rw[I1,B,if_neg (by exact SV)]
  ·subst U;rw[Nat.sub_self] at h5
   exact⟨rfl,by(refine aab h2 ?_;rw[<- h5]);rfl⟩
 ·rintro i σ hi ⟨ws,h1,h2,h3,h4,h5⟩
  refine(ja (.int (((vs.length / 2-i-1:Nat):Int))) ?_ ?_)
  ·(refine aab (I1 ..) ?_;refine aab B ?_;refine aab (if_pos hi) ?_)
   have:(((vs.length / 2:Nat):Int)-1)+(i:Int)*(-1)=((vs.length / 2-i-1:Nat):Int):=Xm hi;exact aab this rfl
  ·unfold Oe Of;simp only[qb,jc,yb,qe,qa,h1,aag,if_true,if_false,aal,exists_eq_left']
   refine(zk (by
    show x9 [.obj l,.int ((vs.length / 2-i-1:Nat):Int)] σ.st=_;rw[h2]
    exact Ox (xM C) G (by exact Ll hi h4) (by exact Lk h4 D) h3 (O.set _))).mpr ?_
   refine(sQ (su lt ws (vs.length / 2-i-1)) ?_ ?_ ?_ (by refine aab (IM ..) ?_;exact h4) ?_)
   ·simp only[qa,aag,if_false];exact h1
   ·show(st.set l _).set l _=_;exact acl ..
   ·exact λa Y=>h3 a ((Ds lt ws _ (by exact Ll hi h4)).mem_iff.mp Y)
   ·refine adg h5 ?_
    have:vs.length / 2-i=(vs.length / 2-(i+1))+1:=by exact SW hi
    refine aab this ?_;rfl
end
section
variable{K:aW}{F:bd}
noncomputable def xO(x:Str)(args:Args)(ws:List aaf):Prop:= ∃a b c,ws=[a,b,c]/\(args=⟨[a,b,c],[]⟩\/(args=⟨[a,b],[]⟩/\c = .none)\/args=⟨[a,b],[(x,c)]⟩)
noncomputable def Dy(K:aW)(x:String)(k:Str)(lvl:Nat)(g:bj):Prop:= ∃fa fd body,K.mg (aae x)=aac (.ref fa)/\fw K fa fd body/\CV K lvl (.ref fa) (xO k) g
theorem XM{d:acP×List PyData}{x:String}{k:Str}{params:List String}{lvl:Nat}{mb:M Fl}(hd:d∈ad0 K.p)(G:litsOf? d.1.params.defaults=aac [ajg])(J:d.1.name=aae x)(u:d.1.scope.kind = .function)(O:d.1.scope.isCoroutine=false)(U:d.1.scope.isGenerator=false)(W:params.Nodup)
  (Y:∀(pm code doc:aaf) (T:aai) (args:Args) (ws:List aaf),xO k args ws->∃f:Option (Array aaf)->Sem (List (Str×aaf)),agJ {acv d.1.name d.1.params d.1.body d.1.scope pm code doc with defaults:= .ref T} args=af6 (.ref T) >>= f/\f (aac #[.none])=pure ((params.map aae).zip ws))
  (Z:∀n,∀y∈params,d.1.scope.names.lookup (aae y)=aac .local\/(d.1.scope.names.lookup (aae y)=aac .cell/\((acQ n d.1.scope.names []).lookup (aae y)).isSome=true))
  (hb:∀pm code doc L fa A,bI A lvl->aV (oJ d.1 pm code doc L fa A)->jj K (oJ d.1 pm code doc L fa A) d.1.body mb):Dy K x k (lvl+1) (cZ params mb):=by
 refine wrap λG_ B=>?_;obtain⟨a,o,pm,code,doc,dV,h1,h2,h3,h4,h5⟩:=K.top.VF d hd;refine B ?_;clear B G_;refine gp (h5.take1 G) λT oT n v1 xP hT XN C=>?_;clear h5;obtain rfl:=xP;refine ye (reads_none_inv C) λxQ zZ=>?_;clear C;obtain rfl:=xQ
 have D:fw K a {acv d.1.name d.1.params d.1.body d.1.scope pm code doc with defaults:= .ref T} d.1.body:=⟨⟨o,h2,h3⟩,h4,rfl,rfl,rfl,rfl,O,U,u⟩
 refine(jv a _ d.1.body (by rw[<- J];exact h1) D ?_)
 refine MT D W (λargs ws s hk hP zZ=>?_) Z λL A hr=>hb pm code doc L a A hr (aV.def hr u);refine ya (Y pm code doc T args ws hP) λf e1 e2=>?_;exact .of_defaults (items:= #[.none]) rfl (hk _ _ hT) XN e1 e2
noncomputable def I4(g:bj):List V->M V
 | [a,b]=>wg g [a,b,.none]
 | [a,b,c]=>wg g [a,b,c]
 | _=>stuck
theorem XO(D:aV F){x:String}{k:Str}{np pos:Pos}{args:List Expr}{Y:M (List V)}{g:bj}{lvl:Nat}(C:Dy K x k lvl g)(hr:bI F.A lvl)
  (hs:lz K F args Y) (hx:F.env.kindOf (aae x)=aac .globalImplicit:=by kernel_rfl)
  (dB:(abu args F.env).any (·.1)=false:=by rfl) (oz:(aae x==("__debug__" : Str))=false:=by decide) :
  aU K F (.Call (.Name (aae x) np) args [] pos) (do let vs <- Y;I4 g vs):=by
 refine yt C ?_
 try clear C
 intro fa fd body hg hd C;intro σ ρ s rel;refine Run.of_wp λB=>?_;simp only[zr];refine aad (GL D rel hx hg ?_ oz);refine ya hd.obj λo ho gS=>?_
 refine ael (o:=o) (fd:=fd) (j6 (by refine aab (yq ..) ?_;exact dB) ?_)
 refine Run.bq (hs pos σ ρ s rel) B λvs aa av s' ws e1 e2 G Z u=>⟨⟨G.base _ _ ho,gS⟩,?_⟩;rw[e2] at B ⊢
 have key:Run K F (aaT (.ref fa) ws) (Rep K) (I4 g vs aa) av s':=by
  rcases vs with _ | ⟨a,_ | ⟨b,_ | ⟨c,_ | ⟨d,r⟩⟩⟩⟩
  ·exact absurd rfl B
  ·exact absurd rfl B
  ·obtain⟨J,_,rfl,ra,u⟩:=aj.aG.mp u;obtain⟨O,_,rfl,U,u⟩:=aj.aG.mp u;obtain rfl:=aj.a7.mp u;exact GB D C hr G (aj.cons ra (aj.cons U (aj.cons Rep.none aj.nil))) ⟨J,O,.none,rfl,.inr (.inl ⟨rfl,rfl⟩)⟩
  ·obtain⟨J,_,rfl,ra,u⟩:=aj.aG.mp u;obtain⟨O,_,rfl,U,u⟩:=aj.aG.mp u;obtain⟨wc,_,rfl,rc,u⟩:=aj.aG.mp u;obtain rfl:=aj.a7.mp u;exact GB D C hr G (aj.cons ra (aj.cons U (aj.cons rc aj.nil))) ⟨J,O,wc,rfl,.inl rfl⟩
  ·exact absurd rfl B
 exact aap (key.wp B) (λW W q=>q.up Z) λW W q=>q.up Z
end
section
variable{K:aW}{F:bd}
noncomputable def xR(h:aat)(P:aai)(q:Str):Prop:= ∃ps,h.get? P=aac (ad8 ps)/\aha ps.toList/\∀pos u,adp pos ps.toList=aac u->∃c,u = .ref c/\j8 h c q
theorem XQ{pos:Pos}{B:aaf}{r:List aaf}(l:List aaf)(h:aha l)(e:adp pos (l++r)=aac B):adp pos l=aac B\/adp pos r=aac B:=by
 fun_induction aha l with
 | case1=>exact .inr e
 | case2 a t b u c D G=>
  simp only[aeA,adp] at e ⊢
  split at e
  ·rename_i C;refine aab (if_pos C) ?_;exact .inl e
  ·rename_i C;refine aab (if_neg C) ?_;exact G h e
 | case3=>exact h.elim
theorem XR{pos p:Pos}{u c:aaf}(e:adp pos [aaV p.line,aaV p.col,c]=aac u):u=c:=by
 simp only[aaV,adp] at e
 split at e
 ·exact(abH e).symm
 ·(injection e)
section
variable{M:adF}{A:aaE}{E:aaf->aah->Prop}{s:aah}{c P:aai}{env:Env}{q:Str}
theorem XS{pos:Pos}{u:Nat}{name:Str}{p:aiL}{scope:acU}{body:FuncBody}{Q:aaf->aah->Prop}(Y:env.code = .ref c)(C:CodeHd s.heap c P)(T:xR s.heap P q)
  (h:∀B h' tk,ach P s.heap h'->xR h' P q->j8 h' B q->s.heap.objs.size<=h'.objs.size->Q (.ref B) {s with heap:=h',toks:=tk}) :
  aao M A (functionCode env pos u name q p scope body) Q E s:=by
 refine xd (id T) λps O U hk=>?_
 cases W:adp pos ps.toList with
 | some Z=>
  refine ya (hk _ _ W) λB xS fH=>?_;obtain rfl:=xS;exact wpAny_functionCode_hit Y (C.code O U) W (h B s.heap s.toks (λD D D e=>e) T fH (aaw _))
 | none=>
  refine wpAny_functionCodeX Y (C.code O U) (C.tab O) W λB h' tk hx ii bp iR xT XT kZ=>?_;refine gp xT λhD oc vs t e2 Dz hd hv=>?_
  try clear xT
  (injection e2 with G;subst G)
  refine xd kZ λP' D D pz=>?_
  try clear kZ
  refine ye pz λpB D=>?_
  try clear pz
  refine gc pB λkV lC xU d0 D=>?_
  try clear pB
  rw[Dz] at xU;(injection xU with G;subst G)
  have oH:j8 h' B q:=⟨oc,vs,t,Dz,d0,hd,hv⟩
  have I5:∀{b:aai} {o:Obj},s.heap.get? b=aac o->o.cls = .type "code" -> b≠P:=by
   rintro b o e cf rfl
   rw[O] at e;(injection e with G;subst G);(injection cf)
  refine h B h' tk hx ⟨_,XT.2,?_,λJ Z e=>?_⟩ oH (aaB ii (adi bp))
  ·have:=TriplesOk_snoc pos.line pos.col (.ref B) ps.toList U
   simpa using this
  ·have e':adp J (ps.toList++[aaV pos.line,aaV pos.col,.ref B])=aac Z:=by
    simpa using e
   rcases XQ _ U e' with e1 | e1
   ·refine wrap λG_ aM=>?_;obtain⟨d,xV,od,vd,td,g1,g2,g3⟩:=hk _ _ e1;refine aM ?_;clear aM G_;clear e e';obtain rfl:=xV;exact⟨d,rfl,od,vd,td,hx _ _ (I5 g1 g2) g1,g2,g3⟩
   ·exact(ja B (XR e1) oH)
end
theorem Rel.rY{σ:S}{ρ:List aai}{s s':aah}(rel:Rel K F σ ρ s)(C:σ.st[1]?=aac bn.tab)(U:ach K.dh s.heap s'.heap)(D:xR s'.heap K.dh K.bz)(W:s'.gens=s.gens)(Y:s'.os=s.os):
  Rel K F σ ρ s'/\Ext F.mine ρ ρ s.heap s'.heap:=by
 obtain⟨a,G⟩ : ∃a,ρ[1]?=aac a:=by
  have h1:1<ρ.length:=by refine aab rel.len ?_;exact(aaY.mp C).1
  exact⟨_,aav h1⟩
 refine uj (rel.cell 1 a _ G C) λZ ps hP u=>?_;subst Z;refine ya (id D) λhD J u=>?_
 have XU:(s'.heap.update K.dh λu=>ad8 ps).get? K.dh=aac (ad8 ps):=aa4 _ J (by rfl)
 have hk:∀b o,s.heap.get? b=aac o->(s'.heap.update K.dh λu=>ad8 ps).get? b=aac o:=λb o e=>by
  by_cases B:b=K.dh
  ·subst B;rw[hP] at e;(injection e with aK;subst aK);exact XU
  ·refine aab (aa3 _ _ (aaR B)) ?_;exact U b o B e
 have r1:Rel K F σ ρ {s with heap:=s'.heap.update K.dh λu=>ad8 ps}:=rel.kept hk rfl rfl
 have x1:Ext F.mine ρ ρ s.heap (s'.heap.update K.dh λu=>ad8 ps):=Ext.kept hk;have cQ:abv K.dh (s'.heap.update K.dh λu=>ad8 ps) s'.heap:=⟨(abh ..).symm,λb B=>(aa3 _ _ (aaR B)).symm⟩
 refine ye (r1.kU (s':=s') G (by decide) cQ (c:= .tab) ⟨rfl,D⟩ ⟨_,J⟩ W Y) λO x2=>?_
 have e:σ.st.set 1 bn.tab=σ.st:=by
  refine ahA λi=>?_
  by_cases hi:i=1
  ·subst hi;refine aab (acm (aaY.mp C).1) ?_;exact C.symm
  ·exact(aau (aaR hi))
 rw[e] at O;exact⟨O,x1.trans x2⟩
structure xW(F:bd)(scope:acU)(cl:List (Str×aai))(bX:List String):Prop where
 oG:closureFor scope F.env=pure cl
 cells:∀x c,cl.lookup x=aac c->F.env.cells.lookup x=aac c
 bX:∀x∈bX,F.env.kindOf (aae x)≠aac .local/\∀c,F.env.cells.lookup (aae x)=aac c->cl.lookup (aae x)=aac c
theorem OB{σ:S}{ρ:List aai}{s:aah}{cl:List (Str×aai)}(rel:Rel K F σ ρ s):∀(bX:List String) (vs:List V),(∀x∈bX,F.env.kindOf (aae x)≠aac .local/\∀c,F.env.cells.lookup (aae x)=aac c->cl.lookup (aae x)=aac c)->
  bw σ.lo bX=aac vs->j5 K s.heap ρ cl bX vs
 | [],vs,_,e=>(abH e).symm
 | x::xs,vs,h,e=>by
  refine gc (C0 e) λv r u B C=>?_;clear e;obtain rfl:=C;refine ya (rel.vars x v u) λw h1 h2=>?_;refine ye (h x aaS) λD G=>?_
  rcases h1 with⟨k1,_⟩ | ⟨k1,c,J,n⟩
  ·exact absurd k1 D
  ·exact(qj v r c w rfl (G c J) n h2 (OB rel xs r (λy O=>h y (aaU _ O)) B))
noncomputable def oW(k:Nat)(bX:List String):M V:=λσ=>match σ.st[1]? with
 | some bn.tab=>match bw σ.lo bX with
  | some cK=>.ok (.obj σ.st.length) {σ with st:=σ.st++[.dD k cK]}
  | none=>.stuck
 | _=>.stuck
theorem XV(fk:aV F){k:Nat}{bX:List String}{args:aiL}{body:Expr}{scope:acU}{pos:Pos}{cl:List (Str×aai)}(hk:K.cY k=⟨args,body,scope,bX⟩)
  (Y:∃c,F.env.code = .ref c/\CodeHd K.base c K.dh) (hq:F.env.qual++aae "<lambda>" = K.bz) (ok:xW F scope cl bX)
  (I6:defaultsOf args F.env=([],[]):=by rfl):aU K F (.Lambda args body scope pos) (oW k bX):=by
 intro σ ρ s rel;refine Run.of_wp λu=>?_;unfold oW at u ⊢
 cases G:σ.st[1]? with
 | none=>rw[G] at u;exact absurd rfl u
 | some c1=>
  rw[G] at u
  cases c1<;>first | exact absurd rfl u | skip
  dsimp only at u ⊢
  cases Z:bw σ.lo bX with
  | none=>rw[Z] at u;exact absurd rfl u
  | some cK=>
   dsimp only;refine ya Y λc hc C=>?_
   try clear Y
   obtain⟨a,ha⟩ : ∃a,ρ[1]?=aac a:=by
    have h1:1<ρ.length:=by refine aab rel.len ?_;exact(aaY.mp G).1
    exact⟨_,aav h1⟩
   refine ye (rel.cell 1 a _ ha G) λe1 hT=>?_;subst e1;have hT:xR s.heap K.dh K.bz:=hT;refine wrap λG_ aM=>?_;obtain⟨bm,ob,b1,b2,b3,b4,b5,b6⟩:=K.top.bmain;refine aM ?_;clear aM G_
   have B:∀(aZ:aat) (D:aaf),(∀b o,s.heap.get? b=aac o->aZ.get? b=aac o)->s.heap.objs.size<=aZ.objs.size->
     aao (aar K.prog K.w) F.A (do
      let code <- functionCode F.env pos pos.line (aae "<lambda>") K.bz args scope (.expr body)
      let bl <- builtinsFor afb F.env.builtins
      let n <- nsGet afb "__name__"
      newObj (.type "function") (.func (kla_fn (aae "<lambda>") K.bz args body scope cl (n.getD .none) code D |> λfd=>{fd with builtins:=bl})))
      (QO K F (Rep K) (.ok (.obj σ.st.length) {σ with st:=σ.st++[.dD k cK]}) ρ s.heap) (EO K F (.ok (.obj σ.st.length) {σ with st:=σ.st++[.dD k cK]}:Res S V) ρ s.heap) {s with heap:=aZ}:=by
    intro aZ D gZ hD
    have U:Rel K F σ ρ {s with heap:=aZ}:=rel.kept gZ rfl rfl
    have xY:xR aZ K.dh K.bz:=by
     refine ye (U.cell 1 _ _ ha G) λW q=>?_;exact q
    refine aad (XS hc (C.keeps U.base) xY λJ h' tk hx CQ oH dW=>?_)
    refine ye (U.rY (s':={s with heap:=h',toks:=tk}) G hx CQ rfl rfl) λO aX=>?_
    have eZ:Ext F.mine ρ ρ s.heap h':=(Ext.kept gZ).trans aX;refine aad (wpAny_builtinsFor (K.top.g.keeps O.base) b1 b2 (O.base _ _ b3) b4 b5 b6 ?_);refine aad (wpAny_nsGet (K.top.g.keeps O.base) ?_)
    refine ab0 ?_ (by size_fits)
    have xF:∀b o,h'.get? b=aac o->(h'.push (ahr (aae "<lambda>") K.bz args body scope cl ((K.mg "__name__").getD .none) J D)).get? b=aac o:=λb o e=>aaj _ e
    have bR:Ext F.mine ρ ρ h' (h'.push (ahr (aae "<lambda>") K.bz args body scope cl ((K.mg "__name__").getD .none) J D)):=Ext.kept xF
    have aY:Rel K F σ ρ {s with heap:=h'.push (ahr (aae "<lambda>") K.bz args body scope cl ((K.mg "__name__").getD .none) J D),toks:=tk}:=O.kept xF rfl rfl
    obtain⟨bA,dK⟩:=O.eX (a:=h'.objs.size) (c:= .dD k cK) (s':={s with heap:=h'.push (ahr (aae "<lambda>") K.bz args body scope cl ((K.mg "__name__").getD .none) J D),toks:=tk}) xF (aaQ (aaw _))
     (by
      show ∃kV pm c mz,_;refine aab hk ?_;refine(ui cl _ J D (aaA _ rfl) ?_ (λx b e=>aY.bE x b (ok.cells x b e)) (OB aY bX cK ok.bX Z))
      exact oH.mono λb o e W=>xF b o e) rfl rfl
    exact(ze _ _ _ rfl bA (eZ.trans dK) (Rep.aN.mpr (ja _ (by rw[<- rel.len];exact aaq) rfl)))
   refine kla_eval I6 ?_;refine aab (makeFunction_eq ..) ?_;simp only[List.zip_nil_right,ahk,ah3,if_true,pure_bind];unfold makeTail
   (refine aab ok.oG ?_;refine aab fk.glob ?_;refine aab hq ?_)
   refine aad (aak ?_)
   cases cl with
   | nil=>
    simp only[ah3,if_true];refine aad (aak ?_);exact B s.heap .none (λW W e=>e) (aaw _)
   | cons q r=>
    simp only[List.isEmpty_cons,aaW,if_false];refine aad (wpAny_newTextTuple ?_)
    exact B _ _ (λb o e=>aaj _ e) (by refine aab (act ..) ?_;exact agh _)
end
section
variable{K:aW}{F:bd}
noncomputable def js(st:jb):V->Option String
 | .none=>aac "NoneType"
 | .int _=>aac "int"
 | .str _=>aac "str"
 | .tup _=>aac "tuple"
 | .gN=>aac "dict"
 | .obj l=>match st[l]? with
  | some (.lst _)=>aac "list"
  | _=>aam
 | _=>aam
inductive bS(s:aah):aaf->String->Prop where
 | none:bS s .none "NoneType"
 | int (i:Int) (t:Tok):bS s (.int i t) "int"
 | str (x:Str) (t:Tok):bS s (.str x t) "str"
 | tup {a:aai} {o:Obj} {xs:Array aaf} {n:Nat}:s.heap.get? a=aac o->o.cls = .type "tuple" -> o.data = .seq xs n->bS s (.ref a) "tuple"
 | list {a:aai} {o:Obj} {xs:Array aaf} {n:Nat}:s.heap.get? a=aac o->o.cls = .type "list" -> o.data = .seq xs n->bS s (.ref a) "list"
 | dict {a:aai} {o:Obj} {es:Array af0} {n:Nat}:s.heap.get? a=aac o->o.cls = .type "dict" -> o.data = .dict es n->bS s (.ref a) "dict"
theorem pC{st:jb}{ρ:List aai}{s:aah}(rel:GRel K st ρ s){v:V}{w:aaf}{T:String}(r:Rep K s.heap ρ v w)(e:js st v=aac T):bS s w T:=by
 cases v with
 | none=>(injection e with u;subst u);refine aab (Rep.bx.mp r) ?_;exact .none
 | int i=>(injection e with u;subst u);refine xc (Rep.aH.mp r) λt G=>?_;obtain rfl:=G;exact .int i t
 | str x=>(injection e with u;subst u);refine xc (Rep.dj.mp r) λt J=>?_;obtain rfl:=J;exact .str x t
 | tup vs=>
  (injection e with u;subst u)
  refine qz r.fq λB a ws O D B=>?_;obtain rfl:=O;refine yj D λo g c n d=>?_
  try clear D
  exact .tup g c d
 | gN=>
  (injection e with u;subst u)
  refine F7 (Rep.eD.mp r) λa o es n U g c d B=>?_;obtain rfl:=U;exact .dict g c d
 | obj l=>
  refine ya (Rep.aN.mp r) λa W Y=>?_;obtain rfl:=Y;unfold js at e;dsimp only at e
  cases C:st[l]? with
  | none=>rw[C] at e;(injection e)
  | some c=>
   rw[C] at e
   cases c with
   | lst us=>
    (injection e with u;subst u)
    refine j0 (rel.cell l a _ W C) λB ws n g B=>?_;exact .list g rfl rfl
   | _=>(injection e)
 | _=>(injection e)
theorem bS.is{s:aah}{w:aaf}{T:String}(k:bS s w T):s.TypeIs w T:=by
 cases k with
 | none=>exact afc s
 | int i t=>exact adu s i t
 | str x t=>exact agR s x t
 | tup g c d=>exact(ja _ g c)
 | list g c d=>exact(ja _ g c)
 | dict g c d=>exact(ja _ g c)
noncomputable def jl(T:String):String:=s!"'{T}' object is not callable"
theorem XW:abx (.type "int") "__call__" = pure aam:=by(refine aab (abl ..) ?_;rw[aaZ]);kernel_rfl
theorem XX:abx (.type "str") "__call__" = pure aam:=by(refine aab (abl ..) ?_;rw[aaZ]);kernel_rfl
theorem XY:abx (.type "list") "__call__" = pure aam:=by(refine aab (abl ..) ?_;rw[aaZ]);kernel_rfl
section
variable{prog:aa0}{w:abC}{A:aaE}{E:aaf->aah->Prop}{s:aah}
theorem I7{v:aaf}{T:String}{args:List aaf}{u:List (Str×aaf)}{Q:aaf->aah->Prop}(G:A.handled=aam)(k:bS s v T)(J:T = "int" \/ T = "str" \/ T = "list")
  (h:E (.ref (s.heap.objs.size+1)) {s with heap:=xh s.heap "TypeError" (aae (jl (aaX T))) s.toks,toks:=s.toks+1}):aao (aar prog w) A (aaT v args u) Q E s:=by
 have key:∀{α:Type} {R:α->aah->Prop} (B:(aaK T==aaK "builtin_function_or_method")=false) (C:(aae (jl (aaX T))).length<=1000),
   aao (aar prog w) A.in1 (do raiseError "TypeError" s!"'{← typeNameOf v}' object is not callable" : Sem α) R E s:=by
  intro α R B C;refine aad (ac5 k.is B ?_)
  exact uN (A:=A.in1) adA G (by refine aab aa1 ?_;exact aaB C (by decide)) h
 refine agP (agb ?_);show aao _ A.in1 (callAny v ⟨args,u⟩) _ _ s
 cases k with
 | int i t=>
  refine aad (ady (adu s i t) XW ?_)
  exact aad (abf (key (by decide) (by decide +kernel)))
 | str x t=>
  refine aad (ady (agR s x t) XX ?_)
  exact aad (abf (key (by decide) (by decide +kernel)))
 | list g c d=>
  rename_i o _ _;refine wrap λO D=>?_;obtain⟨cls,U,data,W⟩:=o;refine D ?_;clear D O
  (subst c);(subst d)
  refine aad (ads g ?_);refine aad (ady ⟨_,g,rfl⟩ XY ?_);refine aad (abf (aad (ads g ?_)))
  exact key (by decide) (by decide +kernel)
 | _=>exact absurd J (by decide)
theorem XZ{M:adF}{pos:Pos}{f:aaf}{args:List (Bool×Sem aaf)}{Q:aaf->aah->Prop}(D:args.any (·.1)=false)
  (h:aao M A (ahO f true args []) (λx af=>((∃a o fd,f = .ref a/\af.heap.get? a=aac o/\o.data = .func fd)\/∃T,bS af f T)/\aao M A (aaT f x.pos x.kw) Q E af) E s) :
  aao M A (ae6 pos f [] args []) Q E s:=by
 unfold ae6;refine aad (aaN (aap h (λx af aZ=>?_) λC C x=>x));refine ye aZ ?_
 try clear aZ
 intro G aZ
 have B:∀{t:Sem aaf},aao M A t Q E af->aao M A (t >>= λr=>holding [r] point >>= λC=>pure r) Q E af :=
  λJ=>aad (aap J (λr U hr=>aad (aaN (wpAny_point (aak hr)))) λC C x=>x)
 refine aad (abP ?_);refine aad (m:=agN f) ?_;refine aab D ?_
 have u:∀k:Keeper,k≠.boundFrame->aao M A (do
   let r <- match k,(false||([]:List (Option Str×Sem aaf)).any (·.1.isNone)) with
    | .frame,true=>agS starredCall f ([]++x.pos) x.kw
    | .frame,false=>if args.length+2*([]:List (Option Str×Sem aaf)).length>30 then aaT f ([]++x.pos) x.kw else agS plainCall f ([]++x.pos) x.kw
    | .boundFrame,false=>if args.length+2*([]:List (Option Str×Sem aaf)).length>30 then aaT f ([]++x.pos) x.kw else agS callOfAMethodObject f ([]++x.pos) x.kw
    | .machine,false=>aaT f ([]++x.pos) x.kw
    | _,_=>operate (f::(if(false||([]:List (Option Str×Sem aaf)).any (·.1.isNone))=true then([]++x.pos).reverse else([]++x.pos))++x.kw.map (·.2)) (aaT f ([]++x.pos) x.kw)
   holding [r] point
   pure r) Q E af:=by
  intro k hk
  refine aab (show(false||([]:List (Option Str×Sem aaf)).any (·.1.isNone))=false from rfl) ?_
  cases k with
  | frame=>
   dsimp only
   split<;>first
    | exact B aZ
    | exact B (by unfold agS;exact Calls.wpAny_keep aZ)
  | machine=>exact B aZ
  | caller=>exact B (af9 aZ)
  | boundFrame=>exact absurd rfl hk
 rcases G with⟨a,o,fd,rfl,O,hd⟩ | ⟨T,k⟩
 ·unfold agN;refine aad (ads O ?_);refine aab hd ?_
  exact aak (u .frame (by decide))
 ·cases k with
  | none=>exact aak (u .machine (by decide))
  | int=>exact aak (u .machine (by decide))
  | str=>exact aak (u .machine (by decide))
  | tup g c d=>unfold agN;refine aad (ads g ?_);refine aab d ?_;exact aak (u .caller (by decide))
  | list g c d=>unfold agN;refine aad (ads g ?_);refine aab d ?_;exact aak (u .caller (by decide))
  | dict g c d=>unfold agN;refine aad (ads g ?_);refine aab d ?_;exact aak (u .caller (by decide))
end
end
section
variable{K:aW}{F:bd}
noncomputable def yE(scope:acU)(q:Str)(L fa:aai)(u:aaf)(cl:List (Str×aai))(A:aaE):bd:=⟨envX q scope L fa u cl,A,[L],true⟩
noncomputable def rZ(p:String)(bX:List String)(mb:M V)(cK:List V):bj:=λvs st=>match vs with
 | [v]=>(match mb ⟨st,qd (p::bX) (v::cK)⟩ with
  | .ok v aa=>.ok v aa.st
  | .exc e aa=>.exc e aa.st
  | .stuck=>.stuck)
 | _=>.stuck
noncomputable def OC(K:aW)(lvl k:Nat)(g:List V->bj):Prop :=
 ∀A,bI A lvl->∀st ρ s,GRel K st ρ s->Gz K A s.heap->∀(l:Nat) (a:aai) (cK vs:List V) (ws:List aaf),st[l]?=aac (bn.dD k cK)->ρ[l]?=aac a->aj K s.heap ρ vs ws->g cK vs st≠.stuck->
  acC (aar K.prog K.w) A (.call (.ref a) ⟨ws,[]⟩) (MN K A (g cK vs st) ρ s.heap) s
noncomputable def ll(K:aW)(lvl:Nat)(LM:Nat->List V->bj):Prop:= ∀k,OC K lvl k (LM k)
theorem OD{h:aat}{ρ:List aai}{cl:List (Str×aai)}:∀{xs:List String} {vs:List V} {x:String} {v:V},j5 K h ρ cl xs vs->qd xs vs x=aac v->x∈xs/\∃c w,cl.lookup (aae x)=aac c/\h.IsCell c (aac w)/\Rep K h ρ v w
 | [],vs,x,v,_,e=>by simp[qd] at e
 | y::U,_,x,v,⟨u,r,c,w,C,D,G,J,O⟩,e=>by
  subst C;unfold qd at e
  by_cases B:x=y
  ·rw[if_pos B] at e;cases e;subst B;exact⟨aaS,c,w,D,G,J⟩
  ·rw[if_neg B] at e;refine ye (OD O e) λh1 h2=>?_;exact⟨aaU _ h1,h2⟩
theorem X0{lvl k:Nat}{r:fK}{p:String}{mb:M V}(hk:K.cY k=r)(oo:r.scope.isCoroutine=false)(ia:r.scope.isGenerator=false)(Z:r.scope.kind = .function)
  (dG:∀x∈r.scope.names,x.2≠.cell) (yF:r.scope.names.lookup (aae p)=aac .local) (aT:∀x∈r.bX,r.scope.names.lookup (aae x)=aac .free)
  (de:∀(pm U ct:aaf) (cl:List (Str×aai)) (w:aaf),agJ (kla_fn (aae "<lambda>") K.bz r.args r.body r.scope cl pm U ct) ⟨[w],[]⟩=pure [(aae p,w)])
  (C:∀L fa U cl A,bI A lvl->aV (yE r.scope K.bz L fa U cl A)->aU K (yE r.scope K.bz L fa U cl A) r.body mb):OC K (lvl+1) k (rZ p r.bX mb):=by
 intro A W st ρ s g re l a cK vs ws cS bk rv aA
 rcases vs with _ | ⟨O,_ | ⟨X1,vs⟩⟩
 ·exact absurd rfl aA
 case cons.cons=>exact absurd rfl aA
 refine gc (aj.aG.mp rv) λI8 jH yG X2 vG=>?_;obtain rfl:=yG;obtain rfl:=aj.a7.mp vG;refine gp (g.cell l a _ bk cS) λcl pm c ct ho oH yH mS=>?_;rw[hk] at ho mS;refine gd oH λoc vc tc Dz u X3 X4=>?_
 try clear oH
 refine kla_callFunE (by have:=W.2.1;exact Ml this) ho rfl oo ia rfl ⟨c,oc,vc,tc,rfl,Dz,X3,X4⟩ ?_
 refine aab (de ..) ?_
 refine aak (aeW dG (λx D=>by refine aab (aan.mp D) ?_;exact yF) (λaZ G cQ=>⟨(K.top.nolimit.keeps g.base).fresh _ cQ,?_⟩) Z)
 have B:∀b o,s.heap.get? b=aac o->aZ.get? b=aac o:=λb o e=>cQ.extBut b o (abp (abG e)) (aaj _ e);have fL:s.heap.get? s.heap.objs.size=aam:=aaQ (aaw _)
 have bL:K.base.get? s.heap.objs.size=aam:=by
  cases e:K.base.get? s.heap.objs.size with
  | none=>rfl
  | some o=>have:=g.base _ _ e;rw[fL] at this;(injection this)
 have fk:aV (yE r.scope K.bz s.heap.objs.size a (.ref c) cl (A.deeper (envX K.bz r.scope s.heap.objs.size a (.ref c) cl))):=⟨Z,rfl,rfl,λu=>W.1,by
  have:=(W.deeper (envX K.bz r.scope s.heap.objs.size a (.ref c) cl)).2.2;show(A.deeper _).units+1000<acw
  exact t4 this⟩
 have rel:Rel K (yE r.scope K.bz s.heap.objs.size a (.ref c) cl (A.deeper (envX K.bz r.scope s.heap.objs.size a (.ref c) cl))) ⟨st,qd (p::r.bX) (O::cK)⟩ ρ {s with heap:=aZ,toks:=s.toks+1}:=by
  refine {toGRel:=g.kept B rfl rfl,vars:=?_,loc:=⟨_,G⟩,bE:=λx b e=>?_,ao:=?_,aE:=?_,aJ:=aan.mpr rfl,di:=?_}
  ·intro x v e
   have e:(if x=p then aac O else qd r.bX cK x)=aac v:=e
   by_cases D:x=p
   ·rw[if_pos D] at e;(injection e with aK;subst aK);subst D
    exact(ja I8 (.inl (wn yF _ G (by simp))) (Rep.br (aax _) (jo B) X2))
   ·rw[if_neg D] at e;refine qz (OD mS e) λD b w h1 h2 h3=>?_;exact(ja w (.inr (wn (.inr (aT x D)) b h1 (h2.keeps B))) (Rep.br (aax _) (jo B) h3))
  ·refine xc (yH x b e) λv n=>?_;exact⟨v,n.keeps B⟩
  ·intro b C;obtain rfl:=aan.mp C;refine w0 G λo' u u e u=>?_
   try clear G
   exact(zi bL o' e)
  ·intro b C hc;obtain rfl:=aan.mp C;refine ya (g.alive hc) λo' e u=>?_;rw[fL] at e;(injection e)
  ·refine ya re λl iL GJ=>?_
   try clear re
   refine(ke (envX K.bz r.scope s.heap.objs.size a (.ref c) cl) l (by show A.frames.map _=_;refine aab iL ?_;rfl) rfl ?_)
   intro env he
   rcases aay.mp he with rfl | he
   ·refine gd G λo' es ep e1 d1 k1 u=>?_
    try clear G
    exact⟨by show r.scope.kind≠_;refine aab Z ?_;decide,s.heap.objs.size,o',_,_,rfl,bL,e1,d1,k1⟩
   ·exact GJ.next (λb o es n u q d=>(w7 o es n (B b o q) d)) env he
 have Y:=C s.heap.objs.size a (.ref c) cl (A.deeper (envX K.bz r.scope s.heap.objs.size a (.ref c) cl)) (W.deeper _) fk _ ρ _ rel
 have up:∀{av:List aai} {h':aat},Ext [s.heap.objs.size] ρ av aZ h'->Ext [] ρ av s.heap h':=by
  intro av h' x;refine⟨x.pre,λb o' e=>x.alive b o' (B b o' e),λa ha=>?_,λb o' e n1 u=>x.keep b o' (B b o' e) n1 (λhm=>?_),λb o' e f=>x.bu b o' (B b o' e) f⟩
  ·rcases x.new a ha with h1 | h1
   ·exact .inl h1
   ·refine .inr ?_
    cases e:s.heap.get? a with
    | none=>rfl
    | some o'=>have:=B a o' e;rw[h1] at this;(injection this)
  ·rw[aan.mp hm,fL] at e;(injection e)
 have J:rZ p r.bX mb cK [O] st=(match mb ⟨st,qd (p::r.bX) (O::cK)⟩ with
  | .ok v aa=>.ok v aa.st
  | .exc e aa=>.exc e aa.st
  | .stuck=>.stuck):=rfl
 refine kla_codeExpr ?_
 cases em:mb ⟨st,qd (p::r.bX) (O::cK)⟩ with
 | stuck=>rw[em] at J;exact absurd J aA
 | exc e aa=>
  rw[em] at Y J;refine aap Y (λu u h=>h.elim) λv s' ⟨av,bh,x',xr⟩=>?_;refine MS (K:=K) (F:=yE r.scope K.bz s.heap.objs.size a (.ref c) cl (A.deeper (envX K.bz r.scope s.heap.objs.size a (.ref c) cl))) (σ:=aa) xr bh x' λay aB aX xo=>?_;refine ya xo λX' f' g'=>?_
  try clear xo
  have f2:∀b∈X',s.heap.get? b=aam:=by
   intro b C
   cases q:s.heap.get? b with
   | none=>rfl
   | some o'=>have:=B b o' q;rw[f' b C] at this;(injection this)
  exact .inr ⟨e,aa.st,v,av,J,rfl,aB.toGRel,up aX,X',f2,g'⟩
 | ok v aa=>
  rw[em] at Y J;refine aap Y (λw s' ⟨av,bh,x',rh⟩=>?_) λu u h=>h.elim;exact .inl (qj v aa.st w av J rfl bh.toGRel (up x') rh)
noncomputable def zz(T:String):Exc:=⟨"TypeError",aae (jl (aaX T))⟩
noncomputable def cU(LM:Nat->List V->bj):V->List V->M V
 | .obj l,vs=>λσ=>match σ.st[l]? with
  | some (.dD k cK)=>wg (LM k cK) vs σ
  | some (.lst _)=>.exc (zz "list") σ
  | _=>.stuck
 | .int _,_=>λσ=>.exc (zz "int") σ
 | .str _,_=>λσ=>.exc (zz "str") σ
 | _,_=>stuck
theorem I9(D:aV F)(u:F.A.handled=aam){σ:S}{ρ:List aai}{s:aah}{f:V}{wf:aaf}{T:String}{ws:List aaf}(rel:Rel K F σ ρ s)(B:Rep K s.heap ρ f wf)(e:js σ.st f=aac T)(C:T = "int" \/ T = "str" \/ T = "list"):
  Run K F (aaT wf ws) (Rep K) (.exc (zz T) σ) ρ s:=I7 u (pC rel.toGRel B e) C (nE rel (by decide))
theorem yI(B:aV F){LM:Nat->List V->bj}{lvl:Nat}(O:ll K lvl LM)(hr:bI F.A lvl){σ:S}{ρ:List aai}{s:aah}{f:V}{wf:aaf}{vs:List V}{ws:List aaf}(rel:Rel K F σ ρ s)(D:Rep K s.heap ρ f wf)(r:aj K s.heap ρ vs ws):
  Run K F (aaT wf ws) (Rep K) (cU LM f vs σ) ρ s:=by
 cases f with
 | obj l=>
  cases u:σ.st[l]? with
  | none=>unfold cU;dsimp only;refine aab u ?_;exact Run.stuck
  | some c=>
   cases c with
   | dD k cK=>
    refine Run.of_wp λC=>?_;unfold cU at C ⊢;dsimp only at C ⊢;rw[u] at C;refine aab u ?_;dsimp only at C ⊢;refine ya (Rep.aN.mp D) λa U W=>?_;obtain rfl:=W
    have Y:LM k cK vs σ.st≠.stuck:=by
     intro e;apply C;unfold wg;exact aab e rfl
    refine agP (acR (O k F.A hr σ.st ρ s rel.toGRel rel.MP l a cK vs ws u U r Y) λr s' h=>?_)
    rcases h with⟨v,am,w,av,e,rfl,G,x,J⟩ | ⟨e,am,w,av,Z,rfl,G,x,J⟩
    ·exact(ze v ({σ with st:=am}) av (by unfold wg;exact aab e rfl) (rel.called G x B) (z4 x) J)
    ·exact(ze e ({σ with st:=am}) av (by unfold wg;exact aab Z rfl) (rel.called G x B) (z4 x) (J.MO λa ha=>(rel.ao a ha).2))
   | lst us=>
    unfold cU;dsimp only;refine aab u ?_
    exact I9 B hr.1 rel D (by unfold js;dsimp only;exact aab u rfl) (.inr (.inr rfl))
   | _=>unfold cU;dsimp only;refine aab u ?_;exact Run.stuck
 | int i=>exact I9 B hr.1 rel D rfl (.inl rfl)
 | str x=>exact I9 B hr.1 rel D rfl (.inr (.inl rfl))
 | _=>exact Run.stuck
theorem X5{σ:S}{ρ:List aai}{s:aah}{l k:Nat}{a:aai}{cK:List V}(rel:Rel K F σ ρ s)(u:ρ[l]?=aac a)(B:σ.st[l]?=aac (.dD k cK)):∃fd,s.heap.get? a=aac {cls:= .type "function",data:= .func fd}:=by
 refine y8 (rel.cell l a _ u B) λcl pm c C e D=>?_;exact⟨_,e⟩
theorem X6{LM:Nat->List V->bj}{σ:S}{ρ:List aai}{s:aah}{f:V}{wf:aaf}{vs:List V}(rel:Rel K F σ ρ s)(B:Rep K s.heap ρ f wf)(u:cU LM f vs σ≠.stuck):
  (∃a o fd,wf = .ref a/\s.heap.get? a=aac o/\o.data = .func fd)\/∃T,bS s wf T:=by
 cases f with
 | obj l=>
  unfold cU at u;dsimp only at u
  cases C:σ.st[l]? with
  | none=>rw[C] at u;exact absurd rfl u
  | some c=>
   cases c with
   | dD k cK=>
    refine ya (Rep.aN.mp B) λa D G=>?_;obtain rfl:=G;refine xc (X5 rel D C) λfd J=>?_;exact .inl (jv a _ fd rfl J rfl)
   | lst us=>exact .inr ⟨_,pC rel.toGRel B (by unfold js;dsimp only;exact aab C rfl)⟩
   | _=>rw[C] at u;exact absurd rfl u
 | int i=>exact .inr ⟨_,pC rel.toGRel B rfl⟩
 | str x=>exact .inr ⟨_,pC rel.toGRel B rfl⟩
 | _=>exact absurd rfl u
noncomputable def mT(_:V):M Unit:=λσ=>.ok () σ
theorem OE(U:aV F){LM:Nat->List V->bj}{lvl:Nat}(hf:ll K lvl LM)(hr:bI F.A lvl){x:String}{W pos:Pos}{arg:Expr}{D:M V}(ha:aU K F arg D)
  (Y:abu [arg] F.env=[(false,abe arg F.env)]:=by rfl) (hd:(aae x==("__debug__" : Str))=false:=by decide) (hc:(aae x==("__classdict__" : Str))=false:=by decide) :
  aU K F (.Call (.Name (aae x) W) [arg] [] pos) (do let f <- ah x;mT f;let v <- D;cU LM f [v]):=by
 intro σ ρ s rel;refine Run.of_wp λu=>?_;refine aab (zr ..) ?_;refine aad (Run.bq (za U x W hd hc σ ρ s rel) u λf C ai af wf e1 e2 ae J Z=>?_);rw[e2] at u ⊢
 rw[M.bZ (show mT f C = .ok () C from rfl)] at u ⊢
 have yL:(ad9 pos (abu [arg] F.env)).any (·.1)=false:=by(refine aab (yq ..) ?_;refine aab Y ?_);rfl
 refine XZ yL (j6 yL ?_);refine aab Y ?_;show aao _ _ (acB ((false,abe arg F.env)::[])) _ _ af;refine aab (jm ..) ?_
 refine aad (aap (Run.bq (P:=λO ay=>aao (aar K.prog K.w) F.A (do let vs <- holding [O] (acB []);pure ([O]++vs)) (λvs s'=>((∃a o fd,wf = .ref a/\s'.heap.get? a=aac o/\o.data = .func fd)\/∃T,bS s' wf T)/\aao (aar K.prog K.w) F.A (aaT wf vs) (QO K F (Rep K) ((D >>= λv=>cU LM f [v]) C) ρ s.heap) (EO K F ((D >>= λv=>cU LM f [v]) C) ρ s.heap) s') (EO K F ((D >>= λv=>cU LM f [v]) C) ρ s.heap) ay) (ha C ai af ae) u λv aO aC ay O e3 e4 aB G rv=>?_) (λB B q=>q) λB B q=>q.up J)
 rw[e4] at u ⊢;refine aad (aaN (aak (aak ⟨X6 aB (Z.mono G) u,?_⟩)));exact aap ((yI U hf hr aB (Z.mono G) (aj.cons rv aj.nil)).wp u) (λB B q=>(q.up G).up J) λB B q=>(q.up G).up J
end
section
variable{K:aW}{F:bd}
section
variable{prog:aa0}{w:abC}{A:aaE}{E:aaf->aah->Prop}{s:aah}
theorem g9{a:aai}{o:Obj}{Q:aaf->aah->Prop}(B:s.heap.get? a=aac o)(C:o.cls = .type "list_iterator")(h:Q (.ref a) s):aao (aar prog w) A (aer (.ref a)) Q E s:=by
 have u:s.TypeIs (.ref a) "list_iterator" :=⟨o,B,C⟩
 refine wpAny_pyIter_slot u ahl (ab5 ahl u entry_listiter_iter ?_ (args_listiter_iter _));show aao _ _ (ret (.ref a)) _ _ s
 exact aak (F1 _ rfl ("list_iterator") _ u slot_listiter_next.lookup h)
theorem DA{α:Type}{Q:α->aah->Prop}(u:A.handled=aam)
  (h:∀h' e,(∀b o,s.heap.get? b=aac o->h'.get? b=aac o)->(∃o,h'.get? e=aac o/\o.cls = .type "StopIteration")->E (.ref e) {s with heap:=h'}):aao (aar prog w) A (adm:Sem α) Q E s:=by
 unfold adm
 show aao _ _ (newExc (.type "StopIteration") [] >>= _) _ _ _
 refine aad ?_;simp only[newExc,ae4]
 refine aad (ab0 ?_ (by size_fits))
 refine aad (m:=ae8 _ _) (aci (a:=aaI) (by first | rfl | (simp only[ae8];rfl)) ?_)
 refine ab0 ?_ (by size_fits)
 dsimp only[raiseNew];refine aad (aiQ ?_);refine aab u ?_;refine aad (aak (aes ?_));exact h _ _ (λb o e=>aaj _ (aaj _ e)) ⟨_,aaA _ rfl,rfl⟩
end
noncomputable def qg(l:Nat):M (Option V):=λσ=>match σ.st[l]? with
 | some (.aP k i d)=>if l=0 then .stuck else if d=true then .ok aam σ else match σ.st[k]? with
  | some (.lst vs)=>match vs[i]? with
   | some v=>.ok (aac v) {σ with st:=σ.st.set l (.aP k (i+1) false)}
   | none=>.ok aam {σ with st:=σ.st.set l (.aP k i true)}
  | _=>.stuck
 | _=>.stuck
theorem tB{σ:S}{ρ:List aai}{s:aah}{l:Nat}{a:aai}{A:aaE}{E:aaf->aah->Prop}{Q:Option aaf->aah->Prop}(rel:Rel K F σ ρ s)(hh:A.handled=aam)(U:ρ[l]?=aac a):
  match qg l σ with
  | .ok (aac v) aa=>(∀w s',Rel K F aa ρ s'->Ext F.mine ρ ρ s.heap s'.heap->ach a s.heap s'.heap->Rep K s'.heap ρ v w->Q (aac w) s')->aao (aar K.prog K.w) A (callSpecial? (.ref a) "__next__") Q E s
  | .ok aam aa=>(∀e s',Rel K F aa ρ s'->Ext F.mine ρ ρ s.heap s'.heap->ach a s.heap s'.heap->(∃o,s'.heap.get? e=aac o/\o.cls = .type "StopIteration")->E (.ref e) s')->aao (aar K.prog K.w) A (callSpecial? (.ref a) "__next__") Q E s
  | _=>True:=by
 unfold qg
 cases hc:σ.st[l]? with
 | none=>trivial
 | some c=>
  cases c with
  | aP k i d=>
   dsimp only
   by_cases J:l=0
   ·refine aab (if_pos J) ?_;trivial
   refine aab (if_neg J) ?_;refine CH (rel.cell l a _ U hc) λo u W vs hd C=>?_
   have B:s.TypeIs (.ref a) "list_iterator" :=⟨o,u,W⟩
   cases d with
   | true=>
    refine aab (if_pos rfl) ?_;dsimp only;intro h;rw[if_pos rfl] at C
    refine abo (name:=aae "__next__") B acT (ab5 acT B ae0 ?_ (afl _))
    show aao _ _ (aeH (.ref a) 0 >>= _) _ _ s;refine aad (abj u hd C ?_)
    show aao _ _ (if(aaI==aaI)=true then _ else _) _ _ s
    refine aab (if_pos (show(aaI==aaI)=true from by decide)) ?_
    refine aad (abf (aad (DA (A:=A.in1) hh λh' e hk Y=>?_)))
    exact h e {s with heap:=h'} (rel.kept hk rfl rfl) (Ext.kept hk) (λb o zZ g=>hk b o g) Y
   | false=>
    rw[if_neg (by decide)]
    rw[if_neg (by decide)] at C
    refine ya C λb hb yM=>?_
    try clear C
    obtain rfl:=yM
    cases hk:σ.st[k]? with
    | none=>trivial
    | some c2=>
     cases c2 with
     | lst us=>
      dsimp only;refine j0 (rel.cell k b _ hb hk) λzZ ws n hL hr=>?_
      have jD:b≠a:=by
       rintro rfl
       have e:s.heap.get? b=_:=hL
       rw[u] at e;(injection e with aK;subst aK);(injection hd)
      cases Z:us[i]? with
      | none=>
       dsimp only;intro h
       have hw:ws.toArray[i]?=aam:=by
        have:=hr.length;simp only[aeD,ac7] at Z ⊢;exact SX this Z
       refine abo (name:=aae "__next__") B acT (ab5 acT B ae0 ?_ (afl _))
       show aao _ _ (aeH (.ref a) 0 >>= _) _ _ s;refine aad (abj u hd (x:= .ref b) rfl ?_)
       show aao _ _ (if(ada b==aaI)=true then _ else _) _ _ s
       refine aab (if_neg (show ¬((ada b==aaI)=true) from abz)) ?_
       show aao _ _ (aeH (.ref a) 1 >>= _) _ _ s;refine aad (abj u hd (x:= .int i 0) rfl ?_);show aao _ _ (af6 (.ref b) >>= _) _ _ s;refine aad (ab8 hL rfl ?_);simp only[adG,hw]
       refine aad (abf (aad (aei u hd (by simp) ?_)))
       have D:abv a s.heap (s.heap.update a (abr (·.setIfInBounds 0 aaI))):=abN ..;have G:(s.heap.update a (abr (·.setIfInBounds 0 aaI))).get? a=aac (abr (·.setIfInBounds 0 aaI) o):=aa4 _ u (acY (abS hd _))
       obtain⟨r1,O⟩:=rel.kU (c:= .aP k i true) (s':={s with heap:=s.heap.update a (abr (·.setIfInBounds 0 aaI))}) U J D
        ⟨_,G,(aem ..).trans W,_,abS hd _,by simp⟩ ⟨_,G⟩ rfl rfl
       refine DA (A:=A.in1) hh λh' e r0 Y=>?_
       exact h e {s with heap:=h'} (r1.kept r0 rfl rfl) (O.trans (Ext.kept r0)) (λb o nb g=>r0 b o (D.extBut b o nb g)) Y
      | some v=>
       dsimp only;intro h;refine ya (hr.get? Z) λx hx rx=>?_
       have hw:ws.toArray[i]?=aac x:=by simpa using hx
       refine abo (name:=aae "__next__") B acT (ab5 acT B ae0 ?_ (afl _))
       show aao _ _ (aeH (.ref a) 0 >>= _) _ _ s;refine aad (abj u hd (x:= .ref b) rfl ?_)
       show aao _ _ (if(ada b==aaI)=true then _ else _) _ _ s
       refine aab (if_neg (show ¬((ada b==aaI)=true) from abz)) ?_
       show aao _ _ (aeH (.ref a) 1 >>= _) _ _ s;refine aad (abj u hd (x:= .int i 0) rfl ?_);show aao _ _ (af6 (.ref b) >>= _) _ _ s;refine aad (ab8 hL rfl ?_);simp only[adG,hw]
       refine aad (aei u hd (by simp) ?_)
       have D:abv a s.heap (s.heap.update a (abr (·.setIfInBounds 1 (aaV (i+1))))):=abN ..;have G:(s.heap.update a (abr (·.setIfInBounds 1 (aaV (i+1))))).get? a=aac (abr (·.setIfInBounds 1 (aaV (i+1))) o):=aa4 _ u (acY (abS hd _))
       obtain⟨r1,O⟩:=rel.kU (c:= .aP k (i+1) false) (s':={s with heap:=s.heap.update a (abr (·.setIfInBounds 1 (aaV (i+1))))}) U J D
        ⟨_,G,(aem ..).trans W,_,abS hd _,by
         rw[if_neg (by decide)];exact(ja b hb (by simp[aaV]))⟩ ⟨_,G⟩ rfl rfl
       exact aak (ja _ rfl (h x _ r1 O D.extBut (rx.mono O)))
     | _=>trivial
  | _=>trivial
end
section
variable{K:aW}{F:bd}
noncomputable def lF:List V->M V
 | [.obj l]=>λσ=>match σ.st[l]? with
  | some (.lst _)=>.ok (.obj σ.st.length) {σ with st:=σ.st++[.aP l 0 false]}
  | some (.aP _ _ _)=>.ok (.obj l) σ
  | _=>.stuck
 | _=>stuck
theorem DB{prog:aa0}{w:abC}{A:aaE}{E:aaf->aah->Prop}{s:aah}{x:aaf}{Q:aaf->aah->Prop}(h:aao (aar prog w) A.in1 (aer x) Q E s):aao (aar prog w) A (aaT (.builtin "iter") [x]) Q E s:=by
 refine afA (by decide +kernel) (by decide +kernel) kdk_entry_iter (kdk_args_iter _) ?_
 unfold abg.«iter»;refine aad (aak ?_);exact aad (aap h (λv s' q=>aak (ja v rfl q)) λu u e=>e)
theorem OF:w6 K (.builtin "iter") lF:=by
 intro F fk bJ σ ρ s vs ws rel r
 have B:∀l,aj K s.heap ρ [.obj l] ws->Run K F (aaT (.builtin "iter") ws) (Rep K) (lF [.obj l] σ) ρ s:=by
  intro l r;unfold lF;refine gc (aj.aG.mp r) λx r' O C U=>?_;obtain rfl:=O;obtain rfl:=aj.a7.mp U;refine ya (Rep.aN.mp C) λa D W=>?_;obtain rfl:=W;dsimp only
  cases G:σ.st[l]? with
  | none=>exact Run.stuck
  | some c=>
   cases c with
   | lst us=>
    dsimp only;refine j0 (rel.cell l a _ D G) λJ ws n hL J=>?_;refine Run.ok (DB (afu hL.isList ?_))
    obtain⟨C,Y⟩:=rel.eX (a:=s.heap.objs.size) (c:= .aP l 0 false) (s':={s with heap:=s.heap.push {cls:= .type "list_iterator",data:= .fields #[.ref a,.int 0 0]}}) (λb o e=>aaj _ e) (aaQ (aaw _))
     ⟨_,aaA _ rfl,rfl,_,rfl,by rw[if_neg (by decide)];exact(ja a D rfl)⟩ rfl rfl
    exact(je _ C Y (Rep.aN.mpr (ja _ (by rw[<- rel.len];exact aaq) rfl)))
   | aP k i d=>
    dsimp only;refine xd (rel.cell l a _ D G) λo Z hc J=>?_;exact Run.ok (DB (g9 Z hc ⟨ρ,rel,Ext.refl ..,C⟩))
   | _=>exact Run.stuck
 cases vs with
 | nil=>exact Run.stuck
 | cons u t=>
  cases u with
  | obj l=>
   cases t with
   | nil=>exact B l r
   | cons _ _=>exact Run.stuck
  | _=>exact Run.stuck
theorem X7{l:Nat}{σ aa:S}{v:V}(h:qg l σ = .ok (aac v) aa):∃k i d,aa.st[l]?=aac (bn.aP k i d):=by
 unfold qg at h
 cases B:σ.st[l]? with
 | none=>rw[B] at h;(injection h)
 | some c=>
  rw[B] at h
  cases c with
  | aP k i d=>
   dsimp only at h
   split at h
   ·(injection h)
   ·split at h
    ·(exfalso;exact nomatch h)
    ·cases hk:σ.st[k]? with
     | none=>rw[hk] at h;(injection h)
     | some D=>
      rw[hk] at h
      cases D with
      | lst us=>
       dsimp only at h
       cases C:us[i]? with
       | none=>rw[C] at h;(exfalso;exact nomatch h)
       | some u=>
        rw[C] at h
        cases h
        exact(F3 k (i+1) false (acm (aaY.mp B).1))
      | _=>(injection h)
  | _=>(injection h)
theorem OG(fk:aV F)(bJ:F.nh=true){target:Expr}{a:aai}{l:Nat}{ai:List aai}{aZ:aat}(bk:ai[l]?=aac a):
  fT K F target a [] (λi h=>i=0->∃o,h.get? a=aac o/\o.cls = .type "list_iterator") (λzZ=>qg l) ai aZ where
 jA:=λi h zZ b hb=>by(exfalso;exact nomatch hb)
 hZ:=λh h' q hk zZ=>by refine ya (q rfl) λo e c=>?_;exact(ja o (hk a o e) c)
 frame:=λi h h' zZ zZ q=>by(injection q)
 self:=λs A Q E q h=>by refine ya (q rfl) λo e c=>?_;exact g9 e c h
 step:=by
  intro σ ρ s i rel x _ _ _ _;have fY:=aI x.pre bk
  cases en:qg l σ with
  | stuck=>trivial
  | exc e y=>trivial
  | ok ov aa=>
   cases ov with
   | none=>
    dsimp only
    have h:=tB (K:=K) (F:=F) (A:=F.A) (Q:=λr s'=>False) (E:=λe s' => ∃a',e = .ref a'/\Rel K F aa ρ s'/\Ext F.mine ρ ρ s.heap s'.heap/\∃o,s'.heap.get? a'=aac o/\o.cls = .type "StopIteration") rel (fk.hd bJ) fY
    rw[en] at h;unfold ac4;refine aad (ac3 (aap (h λe s' r' x' zZ he=>(uf e rfl r' x' he)) (λzZ zZ q=>q.elim) λe s' q=>?_));refine wrap λG_ aM=>?_;obtain⟨a',yP,r',x',o,ho,hc⟩:=q;refine aM ?_;clear aM G_;obtain rfl:=yP
    refine aad (afN (T:= "StopIteration") (b:=true) ⟨o,ho,hc⟩ agw ?_)
    exact aak (sP rfl ρ r' (aax _) (λau h₀ y zZ=>y.trans x'))
   | some v=>
    dsimp only;have h:=tB (K:=K) (F:=F) (A:=F.A) (Q:=λr s' => ∃w,r=aac w/\Rel K F aa ρ s'/\Ext F.mine ρ ρ s.heap s'.heap/\Rep K s'.heap ρ v w) (E:=λe s'=>False) rel (fk.hd bJ) fY;rw[en] at h;unfold ac4;refine aad (ac3 (aap (h λw s' r' x' zZ rv=>(uf w rfl r' x' rv)) (λr s' q=>?_) λe s' q=>q.elim));refine wrap λG_ aM=>?_;obtain⟨w,yQ,r',x',rv⟩:=q;refine aM ?_;clear aM G_;obtain rfl:=yQ;refine aak (ja w rfl (λQ E k=>?_));refine F6 (X7 en) λk1 i1 d1 hc=>?_;refine xd (r'.cell l a _ fY hc) λo ho cf zZ=>?_
    exact MH ho cf (by decide) (k s' ρ r' ⟨x'.pre,x'.alive,x'.new,λb o e n1 zZ n2=>x'.keep b o e n1 n2,λb o e f zZ=>x'.bu b o e f⟩ (λq=>by(injection q)) rv)
noncomputable def lm:V->M (Nat->M (Option V))
 | .obj l=>λσ=>match σ.st[l]? with
  | some (.aP _ _ _)=>.ok (λ_=>qg l) σ
  | _=>.stuck
 | _=>λ_=>.stuck
theorem OH(fk:aV F){target u:Expr}{body:List acE}{J:M V}{t:V->M Unit}{b:M Fl}(pos:Pos)(n:Nat)(hi:aU K F u J)(ht:dz K F target t)(hb:jj K F body b)
  (hs:∀x,ab1 u F.env x=pure x:=by intro _;rfl) (bJ:F.nh=true:=by rfl) :
  dk K F (.For target u body [] pos) (do let v <- J;let nx <- lm v;bo nx t b n 0):=by
 intro σ ρ s rel;simp only[ai0];refine Run.standAt (Run.bind (hi σ ρ s rel) λv G ai af w B O aL U=>?_)
 (refine aab (hs w) ?_;refine aab (qQ ..) ?_)
 refine Run.standAt ?_;refine Run.of_wp λC=>?_
 cases v with
 | obj l=>
  unfold lm at C ⊢
  cases D:G.st[l]? with
  | none=>exact absurd (by refine aab (M.ap ..) ?_;simp only[D]) C
  | some c=>
   cases c with
   | aP k i d=>
    refine ya (Rep.aN.mp U) λa W yR=>?_;clear U;obtain rfl:=yR;refine xd (O.cell l a _ W D) λo Y Z B=>?_
    have e:((λσ=>match σ.st[l]? with | some (.aP _ _ _)=>.ok (λB=>qg l) σ | _=>.stuck:M (Nat->M (Option V))) >>= λnx=>bo nx t b n 0) G=bo (λB=>qg l) t b n 0 G:=by
     refine aab (M.ap ..) ?_;exact aab D rfl
    rw[e] at C ⊢;refine aad (aaN (g9 Y Z ?_))
    exact MM ht hb (OG fk bJ W) O (Ext.refl ..) (λB h=>by(exfalso;exact nomatch h)) (λB h=>by(exfalso;exact nomatch h)) (λB h=>by(exfalso;exact nomatch h)) (λB h=>by(exfalso;exact nomatch h)) (λB=>(ja o Y Z)) n C
   | _=>exact absurd (by refine aab (M.ap ..) ?_;simp only[D]) C
 | _=>exact absurd rfl C
end
section
variable{K:aW}{F:bd}
section
variable{σ:S}{ρ:List aai}{s s':aah}{fp:List aai}
noncomputable def OI(h:aat)(b:aai):Prop:= ∃o,h.get? b=aac o/\o.cls = .type "list" /\ ∃xs n,o.data = .seq xs n
theorem Ja(g:GRel K σ.st ρ s)(D:∀a∈fp,Hid s.heap a\/a∈K.own\/OI s.heap a){b:aai}{o:Obj}(e:s.heap.get? b=aac o)(h:∀vs,o.data≠.fields vs)(h2:∀xs n,o.data≠.seq xs n):b∉fp:=λq=>by
 rcases D b q with⟨o',vs,u,d,_⟩ | q | ⟨o',u,_,xs,n,d⟩
 ·rw[e] at u;(injection u with B;subst B);exact h vs d
 ·refine wrap λG C=>?_;obtain⟨o',u,_,xs,n,d⟩:=g.own b q;refine C ?_;clear C G
  rw[e] at u;(injection u with B;subst B);exact h2 xs n d
 ·rw[e] at u;(injection u with B;subst B);exact h2 xs n d
theorem Rel.yS(rel:Rel K F σ ρ s)(bk:∀a∈fp,a∉ρ)(hb:∀a∈fp,K.base.get? a=aam)(hm:∀a∈fp,a∉F.mine)(G:∀a∈fp,Hid s.heap a\/a∈K.own\/OI s.heap a)(C:∀b o,b∉fp->s.heap.get? b=aac o->s'.heap.get? b=aac o)
  (hw:∀t∈K.own,t∈fp->∃o,s'.heap.get? t=aac o/\o.cls = .type "tuple" /\ ∃xs n,o.data = .seq xs n) (hg:s'.gens=s.gens) (jI:s'.os=s.os):Rel K F σ ρ s':=by
 have W:∀b o,s.heap.get? b=aac o->bQ o->(o.cls = .type "tuple" -> b∉K.own)->s'.heap.get? b=aac o:=λb o e f q=>by
  refine C b o (λJ=>?_) e
  rcases G b J with⟨o',vs,D,d1,d2⟩ | h | ⟨o',D,c,_⟩
  ·exact zq D d1 d2 e f rfl
  ·refine xd (rel.own b h) λo' D c B=>?_
   rw[e] at D;(injection D with O;subst O);exact q c h
  ·rw[e] at D;(injection D with O;subst O)
   rcases f with⟨f,_⟩ | ⟨f | f,_⟩ | ⟨f,_⟩<;>(rw[c] at f;exact absurd f (by decide))
 have U:∀c v,s.heap.IsCell c v->s'.heap.IsCell c v:=λc v n=>by
  refine ya n λo e d=>?_
  try clear n
  exact(ja o (C c o (Ja rel.toGRel G e (by refine aab d ?_;exact λB q=>by(injection q)) (by refine aab d ?_;exact λB B q=>by(injection q))) e) d)
 have Y:∀{a:aai} {m:Str->Option aaf},s.heap.Ns a m->s'.heap.Ns a m:=λ{a m} n=>by
  refine yt n λo es ep e d r=>?_
  try clear n
  exact(jv o es ep (C a o (Ja rel.toGRel G e (by refine aab d ?_;exact λB q=>by(injection q)) (by refine aab d ?_;exact λB B q=>by(injection q))) e) d r)
 refine {gens:=hg.trans rel.gens,os:=jI.trans rel.os,base:=λb o e=>C b o (λq=>by rw[hb b q] at e;(injection e)) (rel.base b o e),len:=rel.len,cell:=λl b c h1 h2=>?_,nodup:=rel.nodup,above:=rel.above,own:=λt Z=>?_,vars:=λy u e=>?_,loc:=?_,bE:=λy c e=>?_,ao:=λb ft=>?_,aE:=rel.aE,aJ:=rel.aJ,di:=rel.di.next λb o es n g d=>(w7 o es n (C b o (Ja rel.toGRel G g (by refine aab d.1 ?_;exact λB q=>by(injection q)) (by refine aab d.1 ?_;exact λB B q=>by(injection q))) g) d)}
 ·exact(rel.cell l b c h1 h2).bT (aax _) W (λo e B=>C b o (λq=>bk b q (aaM h1)) e) U
 ·by_cases J:t∈fp
  ·exact hw t Z J
  ·refine ya (rel.own t Z) λo e r=>?_;exact(ja o (C t o J e) r)
 ·refine ya (rel.vars y u e) λw h1 h2=>?_;exact(ja w (h1.mono (λm n=>Y n) (λc u B n=>U c _ n)) (Rep.bT (aax _) W h2))
 ·refine xc rel.loc λm n=>?_;exact⟨m,Y n⟩
 ·refine xc (rel.bE y c e) λv n=>?_;exact⟨v,U c v n⟩
 ·refine qn (rel.ao b ft) λh1 o h2=>?_;exact(zi h1 o (C b o (λq=>hm b q ft) h2))
end
section
variable{fp mine ρ av gO:List aai}{h h' DC:aat}
theorem bv.refl:bv fp mine ρ ρ h h:=⟨aax _,λu o e=>⟨o,e⟩,λu q=>.inl q,λu o e u u u=>(ja o e (.refl _)),λu u e u u=>e⟩
theorem bv.trans(x:bv fp mine ρ av h h')(y:bv fp mine av gO h' DC):bv fp mine ρ gO h DC where
 pre:=x.pre.trans y.pre
 alive:=λb o e=>by refine xc (x.alive b o e) λo1 e1=>?_;exact y.alive b o1 e1
 new:=λa ha=>by
  rcases y.new a ha with h1 | h1
  ·exact x.new a h1
  ·refine .inr ?_
   cases e:h.get? a with
   | none=>rfl
   | some o=>obtain⟨o1,e1⟩:=x.alive a o e;rw[h1] at e1;(injection e1)
 keep:=λb o e n1 n2 n3=>by
  refine ya (x.keep b o e n1 n2 n3) λo1 e1 l1=>?_
  have hn:b∉av:=λhb=>by
   rcases x.new b hb with h1 | h1
   ·exact n1 h1
   ·rw[e] at h1;(injection h1)
  refine ya (y.keep b _ e1 hn n2 n3) λo2 e2 l2=>?_;exact(ja o2 e2 (l1.trans l2))
 bu:=λb o e f n=>y.bu b o (x.bu b o e f n) f n
theorem bv.of(x:Ext mine ρ av h h'):bv fp mine ρ av h h':=⟨x.pre,x.alive,x.new,λb o e u B C=>x.keep b o e u C,λb o e f B=>x.bu b o e f⟩
theorem bv.step(gG:∀a∈fp,∃o,h'.get? a=aac o)(hx:∀b o,b∉fp->h.get? b=aac o->h'.get? b=aac o):bv fp mine ρ ρ h h' where
 pre:=aax _
 alive:=λb o e=>by
  by_cases q:b∈fp
  ·exact gG b q
  ·exact⟨o,hx b o q e⟩
 new:=λzZ q=>.inl q
 keep:=λb o e zZ n zZ=>(ja o (hx b o n e) (.refl _))
 bu:=λb o e zZ n=>hx b o n e
end
noncomputable def gx(a b c:Int)(l:Nat)(i:Nat):M (Option V):=λσ=>
 if i<zl a b c then(match qg l σ with
  | .ok (aac v) aa=>.ok (aac (.tup [.int (a+i*c),v])) aa
  | .ok aam aa=>.ok aam aa
  | _=>.stuck)
 else .ok aam σ
noncomputable def DD(T:String):Prop:=T = "range_iterator" \/ T = "longrange_iterator"
theorem DD.nf{T:String}(h:DD T):NF (.type T):=by rcases h with rfl | rfl<;>decide
noncomputable def g6(h:aat)(R:aai)(x left step:Int):Prop:= ∃T,DD T/\h.get? R=aac {cls:= .type T,dict:=aam,data:= .fields #[aaV x,aaV left,aaV step],slots:= #[]}
theorem g6.map{h h':aat}{R:aai}{x left step:Int}(r:g6 h R x left step)(f:∀o,h.get? R=aac o->h'.get? R=aac o):g6 h' R x left step:=by
 refine ya r λT u e=>?_
 try clear r
 exact(ja T u (f _ e))
noncomputable def X8(z R TI TO a:aai)(x y c:Int)(i:Nat)(f0:aaf)(h:aat):Prop :=
 IsZip h z TI TO f0/\afe h TI (.ref R) (.ref a)/\(∃p q,afe h TO p q)/\g6 h R (x+i*c) ((zl x y c:Int)-i) c
structure fg(z R TI TO:aai):Prop where
 zR:z≠R
 yT:z≠TI
 pF:z≠TO
 OJ:R≠TI
 yU:R≠TO
 TITO:TI≠TO
theorem X9(n:Nat):fg (n+3) n (n+1) (n+2):=⟨λh=>absurd (show n+3=n from h) (by exact SY),λh=>absurd (show n+3=n+1 from h) (by exact S0),λh=>absurd (show n+3=n+2 from h) (by exact S1),
 λh=>absurd (show n=n+1 from h) (by exact S2),λh=>absurd (show n=n+2 from h) (by exact S3),λh=>absurd (show n+1=n+2 from h) (by exact S4)⟩
structure cF(K:aW)(F:bd)(σ:S)(ρ ai:List aai)(af s:aah)(z R TI TO a:aai)(x left c:Int)(f0 p q:aaf):Prop where
 rel:Rel K F σ ρ s
 ext:bv [z,R,TI,TO] F.mine ai ρ af.heap s.heap
 zip:IsZip s.heap z TI TO f0
 ti:afe s.heap TI (.ref R) (.ref a)
 to:afe s.heap TO p q
 rg:g6 s.heap R x left c
 apart:∀b∈[z,R,TI,TO],b∉ρ/\b∉F.mine/\K.base.get? b=aam
 own:TI∈K.own/\TO∈K.own
theorem cF.next{σ:S}{ρ ai:List aai}{af s s':aah}{z R TI TO a:aai}{x left c:Int}{f0 p q:aaf}(D:fg z R TI TO)(Z:cF K F σ ρ ai af s z R TI TO a x left c f0 p q){W Y:Int}{OK p' q':aaf}
  (hz:IsZip s'.heap z TI TO OK) (C:afe s'.heap TI (.ref R) (.ref a)) (G:afe s'.heap TO p' q') (J:g6 s'.heap R W Y c)
  (hx:∀b o,b∉[z,R,TI,TO]->s.heap.get? b=aac o->s'.heap.get? b=aac o) (hg:s'.gens=s.gens) (jI:s'.os=s.os):cF K F σ ρ ai af s' z R TI TO a W Y c OK p' q':=by
 refine⟨Z.rel.yS (fp:=[z,R,TI,TO]) (λb u=>(Z.apart b u).1) (λb u=>(Z.apart b u).2.2) (λb u=>(Z.apart b u).2.1) (λb u=>?_) hx (λt ht u=>?_) hg jI,Z.ext.trans (bv.step (λb u=>?_) hx),hz,C,G,J,Z.apart,Z.own⟩
 ·simp only[aay,aaJ,or_false] at u
  rcases u with rfl | rfl | rfl | rfl
  ·exact .inl (ke _ _ Z.zip rfl (show NF (.type "zip") by decide))
  ·refine ya Z.rg λT O e=>?_;exact .inl (ke _ _ e rfl O.nf)
  ·exact .inr (.inl Z.own.1)
  ·exact .inr (.inl Z.own.2)
 ·refine wrap λG_ aM=>?_;obtain⟨o,e,c1,xs,n,d⟩:=Z.rel.own t ht;refine aM ?_;clear aM G_;simp only[aay,aaJ,or_false] at u
  rcases u with rfl | rfl | rfl | rfl
  ·have B:s.heap.get? t=_:=Z.zip
   rw[e] at B;(injection B with U;subst U);(injection d)
  ·refine ya Z.rg λT O B=>?_
   rw[e] at B;(injection B with U;subst U);(injection d)
  ·exact(ug _ C rfl _ _ rfl)
  ·exact(ug _ G rfl _ _ rfl)
 ·simp only[aay,aaJ,or_false] at u
  rcases u with rfl | rfl | rfl | rfl
  ·exact⟨_,hz⟩
  ·refine ya J λT O e=>?_
   try clear J
   exact⟨_,e⟩
  ·exact⟨_,C⟩
  ·exact⟨_,G⟩
theorem cF.it{σ aa:S}{ρ ai:List aai}{af s s':aah}{z R TI TO a:aai}{x left c:Int}{f0 p q:aaf}(Z:cF K F σ ρ ai af s z R TI TO a x left c f0 p q)(r:Rel K F aa ρ s')(y:Ext F.mine ρ ρ s.heap s'.heap)
  (u:ach a s.heap s'.heap) (C:a∈ρ):cF K F aa ρ ai af s' z R TI TO a x left c f0 p q:=by
 have B:∀b∈[z,R,TI,TO],b≠a:=λb u q=>(Z.apart b u).1 (q▸C)
 exact⟨r,Z.ext.trans (bv.of y),u _ _ (B z (by simp)) Z.zip,u _ _ (B TI (by simp)) Z.ti,u _ _ (B TO (by simp)) Z.to,Z.rg.map λo=>u _ o (B R (by simp)),Z.apart,Z.own⟩
theorem cF.kept{σ:S}{ρ ai:List aai}{af s s':aah}{z R TI TO a:aai}{x left c:Int}{f0 p q:aaf}(Z:cF K F σ ρ ai af s z R TI TO a x left c f0 p q)(hk:∀b o,s.heap.get? b=aac o->s'.heap.get? b=aac o)
  (u:s'.gens=s.gens) (B:s'.os=s.os):cF K F σ ρ ai af s' z R TI TO a x left c f0 p q :=
 ⟨Z.rel.kept hk u B,Z.ext.trans (bv.of (Ext.kept hk)),hk _ _ Z.zip,hk _ _ Z.ti,hk _ _ Z.to,Z.rg.map λo=>hk _ o,Z.apart,Z.own⟩
section
variable{prog:aa0}{w:abC}{A:aaE}{E:aaf->aah->Prop}{s:aah}
theorem Yb{α β γ:Type}{M:adF}{A:aaE}{m:Sem α}{f:α->Sem β}{g:β->Sem γ}{Q:γ->aah->Prop}{E:aaf->aah->Prop}{s:aah}(h:aao M A ((m >>= f) >>= g) Q E s):aao M A (m >>= λa=>f a >>= g) Q E s:=by
 rw[<- bind_assoc];exact h
theorem OL{R:aai}{x left c:Int}{Q:aaf->aah->Prop}(hit:g6 s.heap R x left c)(B:0<left)
  (C:∀h',g6 h' R (x+c) (left-1) c->abv R s.heap h'->Q (.int x s.toks) {s with heap:=h',toks:=s.toks+1}):aao (aar prog w) A (abi (.ref R)) Q E s:=by
 refine ya hit ?_
 try clear hit
 intro T D hit;have u:s.TypeIs (.ref R) T:=⟨_,hit,rfl⟩;unfold abi
 rcases D with rfl | rfl
 ·exact aad (abo (name:=aae "__next__") u acr
   (acL acr u aeu (aeq _) (AutoRange.range_iterator___next___range_iterator_1 R x left c (by exact aeh.mpr B)) ⟨hit,aak (C _ ⟨_,.inl rfl,aa4 _ (aa4 _ hit rfl) rfl⟩ ((abN ..).trans (abN ..)))⟩))
 ·exact aad (abo (name:=aae "__next__") u ab7
   (acL ab7 u ad7 (ad3 _) (AutoLong.next_1 R x left c (by exact aeh.mpr B)) ⟨hit,aak (C _ ⟨_,.inr rfl,aa4 _ (aa4 _ hit rfl) rfl⟩ ((abN ..).trans (abN ..)))⟩))
theorem Yc{R:aai}{x left c:Int}{Q:aaf->aah->Prop}(C:A.handled=aam)(hit:g6 s.heap R x left c)(D:left<=0)
  (G:∀h' e,(∀b o,s.heap.get? b=aac o->h'.get? b=aac o)->(∃o,h'.get? e=aac o/\o.cls = .type "StopIteration")->E (.ref e) {s with heap:=h'}):aao (aar prog w) A (abi (.ref R)) Q E s:=by
 refine ya hit ?_
 try clear hit
 intro T O hit;have B:s.TypeIs (.ref R) T:=⟨_,hit,rfl⟩;unfold abi
 rcases O with rfl | rfl
 ·refine aad (abo (name:=aae "__next__") B acr
   (ab5 acr B aeu ?_ (aeq _)))
  show aao _ _ (aeH (.ref R) 0 >>= _) _ _ s;refine aad (abj hit rfl (x:=aaV x) rfl ?_);show aao _ _ (aeH (.ref R) 1 >>= _) _ _ s;refine aad (abj hit rfl (x:=aaV left) rfl ?_);show aao _ _ (aeH (.ref R) 2 >>= _) _ _ s;refine aad (abj hit rfl (x:=aaV c) rfl ?_)
  show aao _ _ (if left<=0 then _ else _) _ _ s
  refine aab (if_pos D) ?_;exact aad (abf (aad (DA (A:=A.in1) C G)))
 ·refine aad (abo (name:=aae "__next__") B ab7
   (ab5 ab7 B ad7 ?_ (ad3 _)))
  show aao _ _ (bound "longrange_iterator.__next__" ⟨[.ref R],[]⟩ >>= _) _ _ s
  refine aab (bound_longnext ..) ?_;refine aad (aak ?_);show aao _ _ (acZ _ (.ref R) 0 >>= _) _ _ s;refine aad (agx hit rfl rfl ?_);show aao _ _ (acZ _ (.ref R) 1 >>= _) _ _ s;refine aad (agx hit rfl rfl ?_);show aao _ _ (acZ _ (.ref R) 2 >>= _) _ _ s;refine aad (agx hit rfl rfl ?_)
  show aao _ _ (if left<=0 then _ else _) _ _ s
  refine aab (if_pos D) ?_;refine aad (abf ?_);have J:=DA (α:=PUnit) (A:=A.in1) (prog:=prog) (w:=w) (Q:=λu u=>False) C G;unfold adm at J;exact Yb (aad (aap J (λu u q=>q.elim) λu u q=>q))
end
theorem nJ{z R TI TO b:aai}(h:b∉[z,R,TI,TO]):b≠z/\b≠R/\b≠TI/\b≠TO:=by
 simp only[aay,aaJ,or_false,not_or] at h;exact h
section
variable{σ aa:S}{ρ ai:List aai}{af s:aah}{z R TI TO a:aai}{l:Nat}{x left c:Int}{p q:aaf}{A:aaE}{E:aaf->aah->Prop}
theorem Yd{β γ:Type}{M:adF}{A:aaE}{x y:β}{b:γ}{f:β->γ->Sem (ForInStep γ)}{Q:γ->aah->Prop}{E:aaf->aah->Prop}{s:aah}(P:aah->Prop)(h1:aao M A (f x b) (λr s'=>r = .yield b/\P s') E s)(h2:∀s',P s'->aao M A (f y b) (λr s'=>r = .yield b/\Q b s') E s'):aao M A (forIn [x,y] b f) Q E s:=by
 refine aab (adx ..) ?_;refine aad (aap h1 (λr s' h=>?_) λu u h=>h);refine ye h λB C=>?_
 try clear h
 obtain rfl:=B;show aao M A (forIn [y] b f) Q E s';refine aab (adx ..) ?_;refine aad (aap (h2 s' C) (λr s' h=>?_) λu u h=>h);refine ye h λD G=>?_
 try clear h
 obtain rfl:=D;show aao M A (forIn [] b f) Q E s';refine aab ae9 ?_;exact aak G
theorem Ye(D:fg z R TI TO)(hh:A.handled=aam)(bk:ρ[l]?=aac a){v:V}(en:qg l σ = .ok (aac v) aa)(f8:0<left)(Z:cF K F σ ρ ai af s z R TI TO a x left c .none p q):
  aao (aar K.prog K.w) A (abg.«zip.__next__» ⟨[.ref z],[]⟩) (λhD s' => ∃w,hD = .done (.ret w)/\∃T p' q',w = .ref T/\cF K F aa ρ ai af s' z R TI TO a (x+c) (left-1) c (aaV T) p' q'/\Rep K s'.heap ρ (.tup [.int x,v]) (.ref T)) E s:=by
 refine Mt λQ' E' hQ C=>?_;show aao _ _ (aeH (.ref z) 2 >>= _) _ _ _;refine aad (abj Z.zip rfl (x:= .bool false) rfl ?_);show aao _ _ (aeH (.ref z) 3 >>= _) _ _ _;refine aad (abj Z.zip rfl (x:= .ref TI) rfl ?_);refine aad (ab8 Z.ti rfl ?_);show aao _ _ (acb (.ref z) >>= _) _ _ _;refine aad ?_;unfold acb;refine aad (abj Z.zip rfl (x:= .none) rfl (aak ?_));simp only[if_true];refine aad (abf ?_);refine aad (abj Z.zip rfl (x:= .ref TO) rfl ?_)
 refine aad (adB Z.zip (by simp) λaZ mU cM=>?_)
 have cG:∀b o,b≠z->s.heap.get? b=aac o->aZ.get? b=aac o:=λb o n e=>(cM.2 b n).trans e
 have U:cF K F σ ρ ai af {s with heap:=aZ} z R TI TO a x left c .ellipsis p q :=
  Z.next D mU (cG _ _ D.yT.symm Z.ti) (cG _ _ D.pF.symm Z.to) (Z.rg.map λo=>cG _ o D.zR.symm) (λb o n e=>cG b o (nJ n).1 e) rfl rfl
 refine aad (aap (Q:=λr s'=>r=(aam,())/\∃w,cF K F aa ρ ai af s' z R TI TO a (x+c) (left-1) c .ellipsis (.int x s.toks) w/\Rep K s'.heap ρ v w) (Yd (λs'=>cF K F σ ρ ai af s' z R TI TO a (x+c) (left-1) c .ellipsis (.int x s.toks) q) ?_ λbg fE=>?_) (λr G h=>?_) λC C h=>h)
 ·refine aad (aew ?_);show aao _ _ (abi (.ref R) >>= _) _ _ _;refine aad (OL U.rg f8 λdU mV dY=>aak ?_);have cH:∀b o,b≠R->aZ.get? b=aac o->dU.get? b=aac o:=λb o n e=>(dY.2 b n).trans e
  have O:=U.next (s':={s with heap:=dU,toks:=s.toks+1}) D (cH _ _ D.zR U.zip) (cH _ _ D.OJ.symm U.ti) (cH _ _ D.yU.symm U.to) mV (λb o n e=>cH b o (nJ n).2.1 e) rfl rfl
  refine aad (ab8 O.to rfl ?_);refine aad (aeX O.to λdH jR iT=>?_);have bB:∀b o,b≠TO->dU.get? b=aac o->dH.get? b=aac o:=λb o n e=>(iT.2 b n).trans e;exact aad (acM (aak ⟨rfl,O.next D (bB _ _ D.pF O.zip) (bB _ _ D.TITO O.ti) jR (O.rg.map λo=>bB _ o D.yU) (λb o n e=>bB b o (nJ n).2.2.2 e) rfl rfl⟩))
 ·refine aad (aew ?_);show aao _ _ (abi (.ref a) >>= _) _ _ _;refine aad ?_;unfold abi;refine aad ?_
  have key:=tB (K:=K) (F:=F) (σ:=σ) (ρ:=ρ) (s:=bg) (l:=l) (a:=a) (A:=A)
   (Q:=λr s' => ∃w,r=aac w/\cF K F aa ρ ai af s' z R TI TO a (x+c) (left-1) c .ellipsis (.int x s.toks) q/\Rep K s'.heap ρ v w) (E:=λC C=>False) fE.rel hh bk
  rw[en] at key;refine aap (key λw s' r' x' hb rv=>(je w rfl (fE.it r' x' hb (aaM bk)) rv)) (λr d6 B=>?_) λC C B=>B.elim;refine xd B λw yX u rv=>?_
  try clear B
  obtain rfl:=yX;refine aak (aak ?_);refine aad (ab8 u.to rfl ?_);refine aad (aeX u.to λry r9 yY=>?_);have W:∀b o,b≠TO->d6.heap.get? b=aac o->ry.get? b=aac o:=λb o n e=>(yY.2 b n).trans e;refine aad (acM (aak ⟨rfl,rfl,w,u.next D (W _ _ D.pF u.zip) (W _ _ D.TITO u.ti) r9 (u.rg.map λo=>W _ o D.yU) (λb o n e=>W b o (nJ n).2.2.2 e) rfl rfl,?_⟩));refine rv.bT (aax _) λb o e f g=>W b o (λB=>?_) e;subst B;refine xd (u.rel.toGRel.own b u.own.2) λo' e' c' C=>?_
  rw[e] at e';(injection e' with aK;subst aK)
  exact g c' u.own.2
 refine uj h λyZ w sa zA=>?_
 try clear h
 obtain rfl:=yZ;refine aad (ab8 sa.to rfl ?_);refine aad (add ?_)
 have J:=sa.kept (s':={G with heap:=G.heap.push {cls:= .type "tuple",data:= .seq #[.int x s.toks,w]}}) (λb o e=>aaj _ e) rfl rfl
 have rt:Rep K (G.heap.push {cls:= .type "tuple",data:= .seq #[.int x s.toks,w]}) ρ (.tup [.int x,v]) (.ref G.heap.objs.size) :=
  Rep.cV.mpr (ue (Nat.le_of_ble_eq_true rfl) _ ([.int x s.toks,w]) rfl ⟨_,aaA _ rfl,rfl,0,rfl⟩ (aj.cons (Rep.int _ _) (aj.cons (zA.mono (Ext.push (mine:=[]) _)) aj.nil)) (sa.rel.toGRel.kD (aaw _)))
 generalize G.heap.push {cls:= .type "tuple",data:= .seq #[.int x s.toks,w]}=H at J rt ⊢
 show aao _ _ (aef (.ref z) (.ref G.heap.objs.size) >>= _) _ _ _;refine aad ?_;unfold aef
 refine aad (adB J.zip (by simp) λJc zB zC=>?_)
 have se:IsZip Jc z TI TO (aaV G.heap.objs.size):=zB
 refine adB se (by simp) λJd zD zE=>?_
 have Y:∀b o,b≠z->H.get? b=aac o->Jd.get? b=aac o:=λb o n e=>(zE.2 b n).trans ((zC.2 b n).trans e);refine aak (hQ _ _ ⟨_,rfl,_,_,_,rfl,J.next D zD (Y _ _ D.yT.symm J.ti) (Y _ _ D.pF.symm J.to) (J.rg.map λo=>Y _ o D.zR.symm) (λb o n e=>Y b o (nJ n).1 e) rfl rfl,?_⟩);refine rt.br (aax _) λb o e f=>Y b o (λB=>?_) e;subst B
 exact zq J.zip rfl (show NF (.type "zip") by decide) e f rfl
theorem Yg(D:fg z R TI TO)(hh:A.handled=aam)(bk:ρ[l]?=aac a)(dQ:(left<=0/\aa=σ)\/(0<left/\qg l σ = .ok aam aa))(Z:cF K F σ ρ ai af s z R TI TO a x left c .none p q){Q:af4->aah->Prop}
  (hE:∀e s',Rel K F aa ρ s'->bv [z,R,TI,TO] F.mine ai ρ af.heap s'.heap->(∃o,s'.heap.get? e=aac o/\o.cls = .type "StopIteration")->E (.ref e) s') :
  aao (aar K.prog K.w) A (abg.«zip.__next__» ⟨[.ref z],[]⟩) Q E s:=by
 show aao _ _ (aeH (.ref z) 2 >>= _) _ _ _;refine aad (abj Z.zip rfl (x:= .bool false) rfl ?_);show aao _ _ (aeH (.ref z) 3 >>= _) _ _ _;refine aad (abj Z.zip rfl (x:= .ref TI) rfl ?_);refine aad (ab8 Z.ti rfl ?_);show aao _ _ (acb (.ref z) >>= _) _ _ _;refine aad ?_;unfold acb;refine aad (abj Z.zip rfl (x:= .none) rfl (aak ?_));simp only[if_true];refine aad (abf ?_);refine aad (abj Z.zip rfl (x:= .ref TO) rfl ?_)
 refine aad (adB Z.zip (by simp) λaZ mU cM=>?_)
 have cG:∀b o,b≠z->s.heap.get? b=aac o->aZ.get? b=aac o:=λb o n e=>(cM.2 b n).trans e
 have B:cF K F σ ρ ai af {s with heap:=aZ} z R TI TO a x left c .ellipsis p q :=
  Z.next D mU (cG _ _ D.yT.symm Z.ti) (cG _ _ D.pF.symm Z.to) (Z.rg.map λo=>cG _ o D.zR.symm) (λb o n e=>cG b o (nJ n).1 e) rfl rfl
 refine aad ?_;simp only[List.zipIdx_cons,List.zipIdx_nil,adx,ae9]
 have U:∀(e:aai) (s':aah) (W hJ:Int) (p' q':aaf),cF K F aa ρ ai af s' z R TI TO a W hJ c .ellipsis p' q'->(∃o,s'.heap.get? e=aac o/\o.cls = .type "StopIteration")->aao (aar K.prog K.w) A (aiY (.ref z) 0 .none) (λzZ dF=>E (.ref e) dF) E s':=by
  intro e s' W hJ p' q' C u;refine ya u λoe Je jC=>?_
  try clear u
  have Yh:e≠z:=λG=>by
   have J:s'.heap.get? z=_:=C.zip
   rw[G,J] at Je;(injection Je with aK;subst aK);exact absurd (show aaK "zip" = .type "StopIteration" from jC) (by decide)
  refine adB C.zip (by simp) λzF zG zH=>?_
  have Y:∀b o,b≠z->s'.heap.get? b=aac o->zF.get? b=aac o:=λb o n e=>(zH.2 b n).trans e
  have zI:cF K F aa ρ ai af {s' with heap:=zF} z R TI TO a W hJ c .none p' q' :=
   C.next D zG (Y _ _ D.yT.symm C.ti) (Y _ _ D.pF.symm C.to) (C.rg.map λo=>Y _ o D.zR.symm) (λb o n e=>Y b o (nJ n).1 e) rfl rfl
  exact hE e _ zI.rel zI.ext ⟨oe,Y _ _ Yh Je,jC⟩
 refine aad (aad (aew ?_));show aao _ _ (abi (.ref R) >>= _) _ _ _
 rcases dQ with⟨hl,rfl⟩ | ⟨hl,en⟩
 ·exact aad (Yc hh B.rg hl λh' e hk u=>U e _ _ _ _ _ (B.kept (s':={s with heap:=h'}) hk rfl rfl) u)
 ·refine aad (OL B.rg hl λdU mV dY=>aak ?_);have cH:∀b o,b≠R->aZ.get? b=aac o->dU.get? b=aac o:=λb o n e=>(dY.2 b n).trans e
  have O:cF K F σ ρ ai af {s with heap:=dU,toks:=s.toks+1} z R TI TO a (x+c) (left-1) c .ellipsis p q :=
   B.next D (cH _ _ D.zR B.zip) (cH _ _ D.OJ.symm B.ti) (cH _ _ D.yU.symm B.to) mV (λb o n e=>cH b o (nJ n).2.1 e) rfl rfl
  refine aad (ab8 O.to rfl ?_);refine aad (aeX O.to λdH jR iT=>?_);have oX:afe dH TO (.int x s.toks) q:=jR;have bB:∀b o,b≠TO->dU.get? b=aac o->dH.get? b=aac o:=λb o n e=>(iT.2 b n).trans e
  have fE:cF K F σ ρ ai af {s with heap:=dH,toks:=s.toks+1} z R TI TO a (x+c) (left-1) c .ellipsis (.int x s.toks) q :=
   O.next D (bB _ _ D.pF O.zip) (bB _ _ D.TITO O.ti) oX (O.rg.map λo=>bB _ o D.yU) (λb o n e=>bB b o (nJ n).2.2.2 e) rfl rfl
  refine aad (acM (aak ?_));refine aad (aad (aew ?_));show aao _ _ (abi (.ref a) >>= _) _ _ _;refine aad ?_;unfold abi;refine aad ?_
  have key:=tB (K:=K) (F:=F) (σ:=σ) (ρ:=ρ) (s:={s with heap:=dH,toks:=s.toks+1}) (l:=l) (a:=a) (A:=A)
   (Q:=λr s'=>False) (E:=λe s' => ∃J,e = .ref J/\cF K F aa ρ ai af s' z R TI TO a (x+c) (left-1) c .ellipsis (.int x s.toks) q/\∃o,s'.heap.get? J=aac o/\o.cls = .type "StopIteration") fE.rel hh bk
  rw[en] at key;refine aap (key λe s' r' W hb u=>(je e rfl (fE.it r' W hb (aaM bk)) u)) (λzZ zZ G=>G.elim) λe d6 G=>?_;refine xd G λJ zJ f9 u=>?_
  try clear G
  obtain rfl:=zJ;exact U J d6 _ _ _ _ f9 u
end
theorem Yi(fk:aV F)(bJ:F.nh=true){z R TI TO a:aai}{l:Nat}{x y c:Int}{ai:List aai}{aZ:aat}{elts:List Expr}{k:Nat}{pos:Pos}(D:fg z R TI TO)(bk:ai[l]?=aac a)(Jf:TI∈K.own/\TO∈K.own):
  fT K F (.Tuple elts k pos) z [z,R,TI,TO] (λi h=>i<=zl x y c/\X8 z R TI TO a x y c i .none h) (gx x y c l) ai aZ where
 jA:=by
  rintro i h ⟨_,hz,kK,⟨p,q,eH⟩,hR⟩ b hb
  simp only[aay,aaJ,or_false] at hb
  rcases hb with rfl | rfl | rfl | rfl
  ·exact(ja _ hz (λes n q=>by(injection q)))
  ·refine ya hR λT hT e=>?_
   try clear hR
   exact(ja _ e (λes n q=>by(injection q)))
  ·exact(ja _ kK (λes n q=>by(injection q)))
  ·exact(ja _ eH (λes n q=>by(injection q)))
 hZ:=by
  rintro h h' ⟨hi,hz,kK,⟨p,q,eH⟩,hR⟩ hk
  exact⟨hi,hk _ _ hz,hk _ _ kK,⟨p,q,hk _ _ eH⟩,hR.map λo=>hk _ o⟩
 frame:=by
  rintro i h h' ⟨hi,hz,kK,⟨p,q,eH⟩,hR⟩ hk
  exact⟨hi,hk z (by simp) _ hz,hk TI (by simp) _ kK,⟨p,q,hk TO (by simp) _ eH⟩,hR.map λo=>hk R (by simp) o⟩
 self:=by
  rintro s A Q E ⟨_,hz,_⟩ q
  exact ah4 hz q
 step:=by
  rintro σ ρ s i rel xx Jg Yj Yk ⟨hi,hz,kK,⟨p,q,eH⟩,hR⟩
  have fY:=aI xx.pre bk
  have Z:cF K F σ ρ ρ s s z R TI TO a (x+i*c) ((zl x y c:Int)-i) c .none p q :=
   ⟨rel,bv.refl,hz,kK,eH,hR,λb hb=>⟨Jg b hb,Yj b hb,Yk b hb⟩,Jf⟩
  have hT:s.TypeIs (.ref z) "zip" :=⟨_,hz,rfl⟩
  have stop:∀aa,(((zl x y c:Int)-i<=0/\aa=σ)\/(0<(zl x y c:Int)-i/\qg l σ = .ok aam aa))->aao (aar K.prog K.w) F.A (ac4 (.ref z)) (λr s'=>r=aam/\∃av,Rel K F aa av s'/\ρ <+: av/\∀au h₀,Ext F.mine au ρ h₀ s.heap->(∀b∈[z,R,TI,TO],h₀.get? b=aam)->Ext F.mine au av h₀ s'.heap) (λzZ zZ=>False) s:=by
   intro aa dQ;unfold ac4
   refine aad (ac3 (abo (name:=aae "__next__") hT adM
    (ab5 adM hT agp (Yg (A:=F.A.in1) D (fk.hd bJ) fY dQ Z λe s' r' x' he=>?_) (afX _))))
   refine ya he λo ho hc=>?_
   try clear he
   refine aad (afN (T:= "StopIteration") (b:=true) ⟨o,ho,hc⟩ agw ?_)
   exact aak (sP rfl ρ r' (aax _) (λau h₀ w h0=>w.hide x' h0))
  unfold gx
  by_cases bp:i<zl x y c
  ·refine aab (if_pos bp) ?_
   cases en:qg l σ with
   | stuck=>trivial
   | exc e w=>trivial
   | ok ov aa=>
    cases ov with
    | none=>exact stop aa (.inr ⟨by exact Mf bp,en⟩)
    | some v=>
     dsimp only;unfold ac4
     refine aad (ac3 (abo (name:=aae "__next__") hT adM
      (ab5 adM hT agp (aap (Ye (A:=F.A.in1) D (fk.hd bJ) fY en (by exact Mf bp) Z) ?_ λzZ zZ e=>e) (afX _))))
     rintro fin ay ⟨w,rfl,T,p',q',rfl,df,rt⟩
     refine(ja _ rfl (aak (ja _ rfl (λQ E k=>?_))));refine wpAny_letOwnedTupleGo_zip df.zip λdH zK iT=>?_;have bB:∀b o,b≠z->ay.heap.get? b=aac o->dH.get? b=aac o:=λb o n e=>(iT.2 b n).trans e
     have fE:cF K F aa ρ ρ s {ay with heap:=dH} z R TI TO a (x+i*c+c) ((zl x y c:Int)-i-1) c .none p' q' :=
      df.next D zK (bB _ _ D.yT.symm df.ti) (bB _ _ D.pF.symm df.to) (df.rg.map λo=>bB _ o D.zR.symm) (λb o n e=>bB b o (nJ n).1 e) rfl rfl
     refine k {ay with heap:=dH} ρ fE.rel fE.ext ⟨bp,fE.zip,fE.ti,⟨_,_,fE.to⟩,?_⟩ ?_
     ·have e1:x+((i+1:Nat):Int)*c=x+(i:Int)*c+c:=by(refine aab (aih ..) ?_;refine aab (ahI ..) ?_);simp[afm]
      have e2:((zl x y c:Nat):Int)-((i+1:Nat):Int)=(zl x y c:Int)-(i:Int)-1:=by exact UH
      (refine aab e1 ?_;refine aab e2 ?_);exact fE.rg
     ·exact rt.br (aax _) λb o e f=>bB b o (λhq=>by
       subst hq
       exact zq df.zip rfl (show NF (.type "zip") by decide) e f rfl) e
  ·refine aab (if_neg bp) ?_
   exact stop σ (.inl ⟨by exact UI bp,rfl⟩)
section
variable{prog:aa0}{w:abC}{A:aaE}{E:aaf->aah->Prop}{s:aah}
noncomputable abbrev tC(x y c:Int):String:=if abq x y c=true then "range_iterator" else "longrange_iterator"
noncomputable abbrev DE(h:aat)(x y c:Int):aat:=h.push {cls:= .type (tC x y c),data:= .fields #[aaV x,aaV (aaD x y c),aaV c]}
noncomputable abbrev DF(h:aat)(x y c:Int)(a:aai):aat:=(DE h x y c).push {cls:= .type "tuple",data:= .seq #[.ref h.objs.size,.ref a]}
noncomputable abbrev DG(h:aat)(x y c:Int)(a:aai):aat:=(DF h x y c a).push {cls:= .type "tuple",data:= .seq #[.none,.none]}
noncomputable abbrev zL(h:aat)(x y c:Int)(a:aai):aat:=(DG h x y c a).push {cls:= .type "zip",data:= .fields #[.none,.bool false,.bool false,.ref (DE h x y c).objs.size,.ref (DF h x y c a).objs.size]}
theorem Yl{r:aai}{x y c:Int}{t u v:Tok}{Q:aaf->aah->Prop}(hr:aeB s.heap r x y c t u v)
  (B:Q (.ref s.heap.objs.size) {s with heap:=s.heap.push {cls:= .type (tC x y c),data:= .fields #[aaV x,aaV (aaD x y c),aaV c]}}):aao (aar prog w) A (aer (.ref r)) Q E s:=by
 unfold tC at B
 cases C:abq x y c with
 | true=>rw[if_pos C] at B;exact afj hr C B
 | false=>rw[if_neg (by refine aab C ?_;decide)] at B;exact wpAny_pyIter_longrange hr C B
theorem Ym(x y c:Int):DD (tC x y c):=by
 unfold tC
 split
 ·exact .inl rfl
 ·exact .inr rfl
theorem Yn(r a:aai)(x y c:Int)(t u v:Tok):
  adQ (abg.«zip.__new__» ⟨[.type "zip",.ref r,.ref a],[]⟩) (λJ R s=>aeB s.heap r x y c t u v/\(∃o,s.heap.get? a=aac o/\o.cls = .type "list_iterator")/\
   R (.ok (.ret (.ref (DG s.heap x y c a).objs.size))) {s with heap:=zL s.heap x y c a}) :=
 .of_wp λprog w A R s h=>by
  obtain⟨B,g,d,tk,os⟩:=s;refine y5 h ?_;try clear h;intro hr C h;refine ya C λo D G=>?_;try clear C
  have O:=sub_zip;have h1:aeB (Shared.heap ⟨B,g,d,tk,os⟩) r x y c t u v:=hr;have h2:(Shared.heap ⟨B.push {cls:= .type (tC x y c),data:= .fields #[aaV x,aaV (aaD x y c),aaV c]},g,d,tk,os⟩).get? a=aac o:=aaj _ D
  wp_walk using Yl h1,g9 h2 G
  exact(ja _ rfl h)
theorem Yo{r a:aai}{x y c:Int}{t u v:Tok}{Q:aaf->aah->Prop}(hr:aeB s.heap r x y c t u v)(U:∃o,s.heap.get? a=aac o/\o.cls = .type "list_iterator")
  (h:∀h',IsZip h' (s.heap.objs.size+3) (s.heap.objs.size+1) (s.heap.objs.size+2) .none->afe h' (s.heap.objs.size+1) (.ref s.heap.objs.size) (.ref a)->afe h' (s.heap.objs.size+2) .none .none->
   g6 h' s.heap.objs.size x (aaD x y c) c->(∀b o,s.heap.get? b=aac o->h'.get? b=aac o)->Q (.ref (s.heap.objs.size+3)) {s with heap:=h'}) :
  aao (aar prog w) A (aaT (.type "zip") [.ref r,.ref a]) Q E s:=by
 refine callType_new PySem.F.called_zip (by decide) (PySem.F.typeCall_zip_2 _ _) (PySem.F.newCall_zip_2 _ _) (λobj=>PySem.F.args_object_init_3 obj _ _) PySem.F.entry_zip_new (Yn r a x y c t u v) ⟨hr,U,?_⟩
 have B:(DE s.heap x y c).objs.size=s.heap.objs.size+1:=act ..
 have C:(DF s.heap x y c a).objs.size=s.heap.objs.size+2:=by(refine aab (act ..) ?_;exact aab B rfl)
 have G:(DG s.heap x y c a).objs.size=s.heap.objs.size+3:=by(refine aab (act ..) ?_;exact aab C rfl)
 have D:(zL s.heap x y c a).get? (DG s.heap x y c a).objs.size=aac _:=aaA _ rfl;have J:(zL s.heap x y c a).get? (DF s.heap x y c a).objs.size=aac _:=aaj _ (aaA _ rfl);have O:(zL s.heap x y c a).get? (DE s.heap x y c).objs.size=aac _:=aaj _ (aaj _ (aaA _ rfl));have W:(zL s.heap x y c a).get? s.heap.objs.size=aac _:=aaj _ (aaj _ (aaj _ (aaA _ rfl)));show _/\_;rw[B,C,G] at D;rw[C] at J;rw[B] at O;refine aab G ?_;exact⟨⟨_,D,rfl⟩,h _ D O J ⟨_,Ym x y c,W⟩ λb o e=>aaj _ (aaj _ (aaj _ (aaj _ e)))⟩
end
noncomputable def nK:V->V->M (Nat->M (Option V))
 | .ch a b c,v=>match v with
  | .obj l=>λσ=>match σ.st[l]? with
   | some (.aP _ _ _)=>.ok (gx a b c l) σ
   | _=>.stuck
  | _=>stuck
 | _,_=>stuck
theorem Yp{G:Prop}{u B:V}{σ:S}(h:nK u B σ≠.stuck)(q:∀a b c l k i d,u = .ch a b c->B = .obj l->σ.st[l]?=aac (.aP k i d)->G):G:=by
 cases u with
 | ch a b c=>
  cases B with
  | obj l=>
   have h:(match σ.st[l]? with | some (.aP _ _ _)=>Res.ok (gx a b c l) σ | _=>.stuck)≠.stuck:=h
   cases C:σ.st[l]? with
   | none=>rw[C] at h;exact(h rfl).elim
   | some D=>
    cases D with
    | aP k i d=>exact q a b c l k i d rfl rfl C
    | _=>rw[C] at h;exact(h rfl).elim
  | _=>exact(h rfl).elim
 | _=>exact(h rfl).elim
theorem Yq{u B:V}{σ:S}{a b c:Int}{l k i:Nat}{d:Bool}(h1:u = .ch a b c)(h2:B = .obj l)(C:σ.st[l]?=aac (.aP k i d)):nK u B σ = .ok (gx a b c l) σ:=by
 (refine aab h1 ?_;refine aab h2 ?_);unfold nK;dsimp only;exact aab C rfl
theorem OM(fk:aV F){C G:Expr}{m1 m2:M V}{np mJ pos:Pos}{J:List Expr}{k:Nat}(hx:F.env.kindOf (aae "zip")=aac .globalImplicit)(hm:K.mg (aae "zip")=aam)
  (h1:aU K F C m1) (h2:aU K F G m2) (cS:abu [C,G] F.env=[(false,abe C F.env),(false,abe G F.env)]:=by rfl) :
  wY K F (.Tuple J k pos) (.Call (.Name (aae "zip") np) [C,G] [] mJ) (do let r <- m1;let v <- m2;nK r v):=by
 intro σ ρ s rel O;refine aab (zr ..) ?_
 refine aad (yw fk rel hx hm (v:= .type "zip") (by decide +kernel) ?_)
 refine CZ rfl (by(refine aab (yq ..) ?_;refine aab cS ?_);rfl) ?_
 refine aab cS ?_;show aao _ _ (acB ((false,abe C F.env)::(false,abe G F.env)::[])) _ _ s;refine aab (jm ..) ?_;refine aad (Run.bq (h1 σ ρ s rel) O λvr ab ai af wr q1 q2 ae aL rr=>?_);rw[q2] at O ⊢;refine aab (jm ..) ?_;refine aad (aaN (aad ?_))
 refine aap (Run.bq (P:=λW B=>aao (aar K.prog K.w) F.A (do let vs <- holding [W] (acB []);pure ([W]++vs)) _ _ B) (h2 ab ai af ae) O λvb ar aC B W q3 q4 aB aX rb=>?_) (λY Y q=>q) λY Y q=>q.up aL
 rw[q4] at O ⊢;refine aad (aaN (aak (aak (aak ?_))))
 show aao _ _ (aaT (.type "zip") [wr,W]) _ _ B
 have Yr:=rr.mono aX;refine Yp O λa b c l k2 i2 d2 ON OO hc=>?_;refine aab (Yq ON OO hc) ?_;refine y8 (Rep.cW.mp (ON▸Yr)) λr t u v zM hR=>?_;obtain rfl:=zM;refine ya (Rep.aN.mp (OO▸rb)) λad bk zN=>?_;obtain rfl:=zN;refine xd (aB.cell l ad _ bk hc) λo ho cf Y=>?_;refine Yo hR ⟨o,ho,cf⟩ λh' hz kK eH Ys hk=>?_;refine ah4 hz ?_;have fr:∀{b:aai},B.heap.objs.size<=b->B.heap.get? b=aam:=λZ=>aaQ Z;have D:fg (B.heap.objs.size+3) B.heap.objs.size (B.heap.objs.size+1) (B.heap.objs.size+2):=X9 _
 refine⟨B.heap.objs.size+3,gx a b c l,ar,B,aC,[B.heap.objs.size+3,B.heap.objs.size,B.heap.objs.size+1,B.heap.objs.size+2],_,[B.heap.objs.size+1,B.heap.objs.size+2],rfl,rfl,aB,aL.trans aX,
  aB.adds (s':={B with heap:=h'}) (λt U=>?_) hk rfl rfl (λt U=>?_),Ext.kept hk,λb Z=>?_,λF' Jh sf=>Yi (x:=a) (y:=b) (c:=c) Jh sf D bk ⟨by show _∈_++_;simp,by show _∈_++_;simp⟩,⟨aaL _,hz,kK,⟨_,_,eH⟩,?_⟩⟩
 ·simp only[aay,aaJ,or_false] at U
  rcases U with rfl | rfl<;>exact fr (ab3 ..)
 ·simp only[aay,aaJ,or_false] at U
  rcases U with rfl | rfl
  ·exact(ug _ kK rfl _ _ rfl)
  ·exact(ug _ eH rfl _ _ rfl)
 ·simp only[aay,aaJ,or_false] at Z
  rcases Z with rfl | rfl | rfl | rfl<;>first | exact fr (aaw _) | exact fr (ab3 ..)
 ·refine aab (s0 ..) ?_
  simpa using Ys
end
section
variable{K:aW}{F:bd}
theorem OP:mroOf (.type "object")=pure [.type "object"]:=by rw[mroOf_type];kernel_rfl
theorem Yt:abx (.type "object") "__new__" = pure (aac (.builtin "object.__new__")):=by(refine aab (abl ..) ?_;rw[aaZ]);kernel_rfl
theorem OQ:TypeCalled "object" "object.__new__" "object.__init__" :=
 ⟨by decide +kernel,by decide +kernel,⟨_,_,OP⟩,madeBy_type OP Yt (by decide +kernel),by decide +kernel,by rw[acu];kernel_rfl,PySem.F.slot_object_init⟩
theorem Yu:Bind.madeHere "object.__new__" (.type "object")=pure ():=by
 unfold Bind.madeHere
 have e:Bind.staticBase (.type "object")=pure (.type "object"):=by first | rfl | kernel_rfl
 rw[e];simp only[pure_bind,OQ.made]
 first | rfl | kernel_rfl | (simp;rfl)
theorem Yv:adQ (abg.«object.__new__» ⟨[.type "object"],[]⟩) (λu R s=>R (.ok (.ret (.ref s.heap.objs.size))) {s with heap:=s.heap.push {cls:= .type "object",data:= .plain}}) :=
 .of_wp λprog w A R s h=>by
  have B:=Yu
  have h1:typeHasDict (.type "object")=false:=by decide +kernel
  have h2:diesByItsTypesDel "object" = false:=by decide +kernel
  repeat (any_goals (first | assumption | wp_step))
  exact(ja _ rfl h)
theorem Yw(obj:aaf):adQ (abg.«object.__init__» ⟨[obj],[]⟩) (λu R s=>R (.ok (.ret .none)) s):= .of_wp λprog w A R s h=>aak (ja _ rfl h)
theorem Yx(a:aaf):aeJ "object.__init__" ⟨[a],[]⟩:=by
 unfold aeJ;rw[signature?_of (id:= "object.__init__") (n:=['_','_','t','i','n','i','_','_']) (o:=['t','c','e','j','b','o']) (by kernel_rfl) PySem.F.owner_object];kernel_rfl
theorem Yy{prog:aa0}{w:abC}{A:aaE}{E:aaf->aah->Prop}{s:aah}{Q:aaf->aah->Prop}(h:Q (.ref s.heap.objs.size) {s with heap:=s.heap.push {cls:= .type "object",data:= .plain}}):
  aao (aar prog w) A (aaT (.type "object") []) Q E s:=by
 refine callType_meets (Q₁:=λobj af=>af.TypeIs obj "object" /\ Q obj af) OQ (by kernel_rfl) (by kernel_rfl) (entryFor_of_tree (by kernel_rfl)) PySem.F.entry_object_init Yv ?_ λobj af u=>⟨u.1,Yx obj,_,Yw obj,rfl,u.2⟩
 exact⟨⟨_,aaA _ rfl,rfl⟩,h⟩
noncomputable def zO:List V->M V
 | []=>λσ=>.ok (.obj σ.st.length) {σ with st:=σ.st++[.cX]}
 | _=>stuck
theorem Yz:w6 K (.type "object") zO:=by
 intro F C D σ ρ s vs ws rel r
 cases vs with
 | cons _ _=>exact Run.stuck
 | nil=>
  obtain rfl:=aj.a7.mp r
  obtain⟨u,B⟩:=rel.eX (a:=s.heap.objs.size) (c:= .cX) (s':={s with heap:=s.heap.push {cls:= .type "object",data:= .plain}}) (λb o e=>aaj _ e) (aaQ (aaw _))
   ⟨_,aaA _ rfl,.inr ⟨rfl,rfl⟩⟩ rfl rfl
  exact Run.ok (Yy ⟨_,u,B,Rep.aN.mpr (ja _ (by rw[<- rel.len];exact aaq) rfl)⟩)
theorem OS(C:aV F){x:String}{pos:Pos}{lvl:Nat}{g:bj}(u:cN K x lvl g)(D:F.env.kindOf (aae x)=aac .globalImplicit:=by kernel_rfl)(G:(aae x==("__debug__" : Str))=false:=by decide):
  aU K F (.Name (aae x) pos) (pure (.fn x)):=by
 refine w0 u λfa fd body B J=>?_
 try clear u
 intro σ ρ s rel;refine Run.ok (GL C rel D B ⟨ρ,rel,Ext.refl ..,?_⟩ G);exact And.intro B (Exists.intro fa rfl)
noncomputable def zP(f:String):V->M Unit
 | .fn x=>λσ=>if x=f then .ok () σ else .stuck
 | _=>stuck
theorem OT(W:aV F){n f:String}{Y pos:Pos}{args:List Expr}{D:M (List V)}{g:bj}{lvl:Nat}(G:cN K f lvl g)(hr:bI F.A lvl)(hs:lz K F args D)
  (dB:(abu args F.env).any (·.1)=false:=by rfl) (hd:(aae n==("__debug__" : Str))=false:=by decide) (hc:(aae n==("__classdict__" : Str))=false:=by decide) :
  aU K F (.Call (.Name (aae n) Y) args [] pos) (do let v <- ah n;zP f v;let vs <- D;wg g vs):=by
 refine yt G ?_
 try clear G
 intro fa fd body hg YA G;intro σ ρ s rel;refine Run.of_wp λu=>?_;simp only[zr];refine aad (Run.bq (za W n Y hd hc σ ρ s rel) u λv C ai af wv e1 Z ae J O=>?_);rw[Z] at u ⊢
 cases v with
 | fn x=>
  by_cases hx:x=f
  ·clear Z;subst hx
   have e3:(zP x (.fn x) >>= λB=>(D >>= λvs=>wg g vs)) C=(D >>= λvs=>wg g vs) C:=M.bZ (by show(if x=x then Res.ok () C else .stuck)=Res.ok () C;exact if_pos rfl)
   rw[e3] at u ⊢;simp only[Rep] at O;refine qn O λOU a zQ=>?_
   try clear O
   obtain rfl:=zQ
   rw[hg] at OU;(injection OU with U;injection U with U;subst U)
   refine ya YA.obj λo ho gS=>?_
   refine ael (o:=o) (fd:=fd) (j6 (by refine aab (yq ..) ?_;exact dB) ?_)
   refine aap (Run.bq (P:=λws ay=>(ay.heap.get? fa=aac o/\o.data = .func fd)/\aao (aar K.prog K.w) F.A (aaT (.ref fa) ([]++ws)) _ _ ay) (hs pos C ai af ae) u λvs aa av s' ws q1 q2 bh x' YB=>⟨⟨bh.base _ _ ho,gS⟩,?_⟩) (λB B q=>q) λB B q=>q.up J;rw[q2] at u ⊢;exact aap ((MQ W G hr bh YB).wp u) (λB B q=>(q.up x').up J) λB B q=>(q.up x').up J
  ·exact absurd (by refine aab (M.ap ..) ?_;simp only[zP,hx,if_false]) u
 | _=>exact absurd rfl u
end
section
variable{K:aW}{F:bd}
noncomputable def bd.in1(F:bd):bd:=⟨F.env,F.A.in1,F.mine,F.nh⟩
theorem Rel.in1{σ:S}{ρ:List aai}{s:aah}(r:Rel K F σ ρ s):Rel K F.in1 σ ρ s :=
 {toGRel:=r.toGRel,vars:=r.vars,loc:=r.loc,bE:=r.bE,ao:=r.ao,aE:=r.aE,aJ:=r.aJ,di:=r.di}
theorem Rel.iU{σ:S}{ρ:List aai}{s:aah}(r:Rel K F.in1 σ ρ s):Rel K F σ ρ s :=
 {toGRel:=r.toGRel,vars:=r.vars,loc:=r.loc,bE:=r.bE,ao:=r.ao,aE:=r.aE,aJ:=r.aJ,di:=r.di}
theorem bI.in1{A:aaE}{n:Nat}(r:bI A (n+1)):bI A.in1 n:=⟨r.1,by have:=r.2.1;show A.depth+n<_;exact S5 this,by have:=r.2.2;show A.units+1+1000+10*n<_;exact S6 this⟩
theorem aV.in1(u:aV F){n:Nat}(r:bI F.A (n+1)):aV F.in1:=⟨u.kind,u.glob,u.blt,λB=>r.1,by have:=r.2.2;show F.A.units+1+1000<_;exact S7 this⟩
theorem OV{σ:S}{ρ:List aai}{s:aah}{l:Nat}{a:aai}{A:aaE}(rel:Rel K F σ ρ s)(J:A.handled=aam)(O:ρ[l]?=aac a):
  match qg l σ with
  | .ok (aac v) aa=>aao (aar K.prog K.w) A (ac4 (.ref a)) (λr s' => ∃w,r=aac w/\Rel K F aa ρ s'/\Ext F.mine ρ ρ s.heap s'.heap/\ach a s.heap s'.heap/\Rep K s'.heap ρ v w) (λu u=>False) s
  | .ok aam aa=>aao (aar K.prog K.w) A (ac4 (.ref a)) (λr s'=>r=aam/\Rel K F aa ρ s'/\Ext F.mine ρ ρ s.heap s'.heap/\ach a s.heap s'.heap) (λu u=>False) s
  | _=>True:=by
 cases U:qg l σ with
 | stuck=>trivial
 | exc e y=>trivial
 | ok Y aa=>
  cases Y with
  | none=>
   dsimp only
   have h:=tB (K:=K) (F:=F) (A:=A) (Q:=λr s'=>False) (E:=λe s' => ∃G,e = .ref G/\Rel K F aa ρ s'/\Ext F.mine ρ ρ s.heap s'.heap/\ach a s.heap s'.heap/\∃o,s'.heap.get? G=aac o/\o.cls = .type "StopIteration") rel J O
   rw[U] at h;unfold ac4;refine aad (ac3 (aap (h λe s' B C D Z=>(sQ e rfl B C D Z)) (λu u q=>q.elim) λe s' q=>?_));refine wrap λG_ W=>?_;obtain⟨G,zS,B,C,D,o,ho,hc⟩:=q;refine W ?_;clear W G_;obtain rfl:=zS
   refine aad (afN (T:= "StopIteration") (b:=true) ⟨o,ho,hc⟩ agw ?_)
   exact aak ⟨rfl,B,C,D⟩
  | some v=>
   dsimp only;have h:=tB (K:=K) (F:=F) (A:=A) (Q:=λr s' => ∃w,r=aac w/\Rel K F aa ρ s'/\Ext F.mine ρ ρ s.heap s'.heap/\ach a s.heap s'.heap/\Rep K s'.heap ρ v w) (E:=λe s'=>False) rel J O;rw[U] at h;unfold ac4;refine aad (ac3 (aap (h λw s' B C D rv=>(sQ w rfl B C D rv)) (λr s' q=>?_) λe s' q=>q.elim));obtain⟨w,rfl,q⟩:=q;exact aak (ja w rfl q)
noncomputable def gtB(a b:V):M Bool:=λσ=>match toD σ.st 6 a,toD σ.st 6 b with
 | some d,aac u=>match te d u with
  | some r=>.ok r σ
  | none=>.stuck
 | _,_=>.stuck
noncomputable def w4(LM:Nat->List V->bj):V->V->M V
 | .none,it=>pure it
 | k,it=>cU LM k [it]
noncomputable def z7(LM:Nat->List V->bj)(l:Nat)(k:V):Nat->Option (V×V)->M (Option V)
 | 0,_=>stuck
 | n+1,u=>λσ=>match qg l σ with
  | .ok aam aa=>.ok (u.map (·.1)) aa
  | .ok (aac it) aa=>(match w4 LM k it aa with
   | .ok val B=>(match u with
    | none=>z7 LM l k n (aac (it,val)) B
    | some b=>(match gtB val b.2 B with
     | .ok r C=>z7 LM l k n (if r=true then aac (it,val) else u) C
     | _=>.stuck))
   | _=>.stuck)
  | _=>.stuck
theorem OW(LM:Nat->List V->bj)(l:Nat)(k:V)(n:Nat)(u:Option (V×V))(σ:S):z7 LM l k (n+1) u σ=(match qg l σ with
  | .ok aam aa=>.ok (u.map (·.1)) aa
  | .ok (aac it) aa=>(match w4 LM k it aa with
   | .ok val B=>(match u with
    | none=>z7 LM l k n (aac (it,val)) B
    | some b=>(match gtB val b.2 B with
     | .ok r C=>z7 LM l k n (if r=true then aac (it,val) else u) C
     | _=>.stuck))
   | _=>.stuck)
  | _=>.stuck):=rfl
noncomputable def sg(K:aW)(h:aat)(ρ:List aai):Option (V×V)->Array aaf->Prop
 | none,xs=>xs=#[]
 | some b,xs => ∃u B,xs=#[u,B]/\Rep K h ρ b.1 u/\Rep K h ρ b.2 B
noncomputable abbrev eS(h:aat)(B:aai)(xs:Array aaf)(c:Nat):Prop:=h.get? B=aac {cls:= .type "list",dict:=aam,data:= .seq xs c,slots:= #[]}
theorem Ext.cj{mine ρ av:List aai}{h h':aat}{B:aai}{xs:Array aaf}{c:Nat}(x:Ext mine ρ av h h')(u:eS h B xs c)(C:B∉ρ)(G:B∉mine):eS h' B xs c/\B∉av:=by
 refine ya (x.keep B _ u C G) λo' D l=>?_
 refine⟨by rw[l.same λes n q=>by cases q] at D;exact D,λq=>?_⟩
 rcases x.new B q with h1 | h1
 ·exact C h1
 ·rw[u] at h1;(injection h1)
theorem sg.mono{h h':aat}{ρ av:List aai}{b:Option (V×V)}{xs:Array aaf}(x:sg K h ρ b xs)(f:∀v w,Rep K h ρ v w->Rep K h' av v w):sg K h' av b xs:=by
 cases b with
 | none=>exact x
 | some b=>obtain⟨u,B,e,C,D⟩:=x;exact(ke u B e (f _ _ C) (f _ _ D))
theorem Rel.dx{σ:S}{ρ:List aai}{s s':aah}{B:aai}{xs:Array aaf}{c:Nat}(rel:Rel K F σ ρ s)(G:eS s.heap B xs c)(J:B∉ρ)(O:B∉F.mine)(U:K.base.get? B=aam)(W:∀b o,b≠B->s.heap.get? b=aac o->s'.heap.get? b=aac o)
  (Y:s'.gens=s.gens) (Z:s'.os=s.os):Rel K F σ ρ s':=by
 have aA:∀t∈K.own,t≠B:=λt C q=>by
  refine xd (rel.own t C) λo e c' zZ=>?_;have e':s.heap.get? B=_:=G
  rw[q,e'] at e;(injection e with aK;subst aK);exact absurd (show aaK "list" = aaK "tuple" from c') (by decide)
 exact rel.yS (fp:=[B]) (λa u=>by refine aab (aan.mp u) ?_;exact J) (λa u=>by refine aab (aan.mp u) ?_;exact U) (λa u=>by refine aab (aan.mp u) ?_;exact O)
  (λa u=>by refine aab (aan.mp u) ?_;exact .inr (.inr (ug _ G rfl _ _ rfl))) (λb o D e=>W b o (λq=>D (by refine aab q ?_;simp)) e) (λt C D=>absurd (aan.mp D) (aA t C)) Y Z
theorem zT{h h':aat}{ρ:List aai}{B:aai}{xs:Array aaf}{c:Nat}(u:eS h B xs c)(C:∀b o,b≠B->h.get? b=aac o->h'.get? b=aac o){v:V}{w:aaf}(r:Rep K h ρ v w):Rep K h' ρ v w :=
 r.br (aax _) λb o e f=>C b o (λq=>by
  have D:h.get? B=_:=u
  rw[q,D] at e;(injection e with G;subst G)
  rcases f with⟨f,_⟩ | ⟨f | f,_⟩ | ⟨f,_⟩
  ·exact absurd (show aaK "list" = aaK "tuple" from f) (by decide)
  ·exact absurd (show aaK "list" = aaK "range" from f) (by decide)
  ·exact absurd (show aaK "list" = aaK "code" from f) (by decide)
  ·exact absurd (show aaK "list" = aaK "dict" from f) (by decide)) e
noncomputable def OX(K:aW)(h:aat)(ρ:List aai)(wd:aaf):Option V->aaf->Prop
 | some v,w=>Rep K h ρ v w
 | none,w=>w=wd
noncomputable def DH(K:aW)(F:bd)(out:Res S (Option V))(au:List aai)(h₀:aat)(B:aai)(wd:aaf):aeI->aah->Prop:=λr s'=>match out with
 | .ok u aa => ∃av w,r = .ok (.ret w)/\Rel K F aa av s'/\bv [B] F.mine au av h₀ s'.heap/\OX K s'.heap av wd u w
 | _=>True
theorem YC(C:aV F){LM:Nat->List V->bj}{lvl:Nat}(D:ll K lvl LM)(hr:bI F.A lvl){σ:S}{ρ:List aai}{s:aah}{k it:V}{wk w:aaf}(rel:Rel K F σ ρ s)(u:Rep K s.heap ρ k wk)(B:Rep K s.heap ρ it w):
  Run K F (match wk with | .none=>pure w | _=>aaT wk [w]) (Rep K) (w4 LM k it σ) ρ s:=by
 cases k with
 | none=>rw[Rep.bx.mp u];exact Run.pure rel B
 | obj l=>
  refine ya (Rep.aN.mp u) λa U G=>?_;obtain rfl:=G;exact yI C D hr rel u (aj.cons B aj.nil)
 | int i=>
  refine xc (Rep.aH.mp u) λt J=>?_;obtain rfl:=J;exact yI C D hr rel u (aj.cons B aj.nil)
 | str x=>
  refine xc (Rep.dj.mp u) λt O=>?_;obtain rfl:=O;exact yI C D hr rel u (aj.cons B aj.nil)
 | _=>exact Run.stuck
section
variable{LM:Nat->List V->bj}{lvl l:Nat}{k:V}{a B:aai}{wk wd:aaf}{au:List aai}{h₀:aat}
theorem OY{γ:Type}(Z:aV F)(hf:ll K lvl LM)(hr:bI F.A (lvl+1)){it val:V}{w:aaf}{J O:S}{ρ:List aai}{af:aah}(U:Rel K F.in1 J ρ af)(D:Rep K af.heap ρ k wk)(W:Rep K af.heap ρ it w)(G:w4 LM k it J = .ok val O)
  {cont:aaf->Sem γ} {hd:aaf->Sem aaf} {Q:γ->aah->Prop} {E:aaf->aah->Prop}
  (h:∀C u B,Rel K F.in1 O B u->Ext F.in1.mine ρ B af.heap u.heap->Rep K u.heap B val C->aao (aar K.prog K.w) F.in1.A (cont C) Q E u) :
  aao (aar K.prog K.w) F.in1.A (match wk with
   | .none=>pure w >>= λv=>cont v
   | _=>tryCatch (holding [w] (aaT wk [w])) hd >>= λv=>cont v) Q E af:=by
 have hk:=YC (K:=K) (F:=F.in1) (Z.in1 hr) hf hr.in1 U D W;rw[G] at hk
 cases k with
 | none=>
  refine aab (Rep.bx.mp D) ?_;have Y:=Res.ok.inj G;rw[<- Y.1,<- Y.2] at h;exact aad (aak (h w af ρ U (Ext.refl ..) W))
 | obj lk=>
  refine ya (Rep.aN.mp D) λak hD e=>?_;rw[e] at hk ⊢;exact aad (adf (aaN (aap hk (λC u hq=>hq.elim λB q=>h C u B q.1 q.2.1 q.2.2) λzZ zZ q=>q.elim)))
 | _=>(injection G)
theorem OZ(n2:B∉F.mine)(n3:K.base.get? B=aam){it val:V}{w D:aaf}{Y:S}{u:aah}{C:List aai}{Z:Array aaf}{O:Nat}{Q:Unit->aah->Prop}{E:aaf->aah->Prop}(q1:Rel K F.in1 Y C u)(q2:bv [B] F.mine au C h₀ u.heap)(q3:Rep K u.heap C k wk)
  (q4:Rep K u.heap C it w) (q5:Rep K u.heap C val D) (G:eS u.heap B Z O) (dW:Z.size<=agI) (q7:B∉C)
  (hQ:∀J ij,Rel K F.in1 Y C J->bv [B] F.mine au C h₀ J.heap->Rep K J.heap C k wk->eS J.heap B #[w,D] ij->sg K J.heap C (aac (it,val)) #[w,D]->Q () J) :
  aao (aar K.prog K.w) F.in1.A (aiN B λzZ => #[w,D]) Q E u:=by
 have U:∀b o,b≠B->u.heap.get? b=aac o->(u.heap.update B (aaG λzZ => #[w,D])).get? b=aac o:=λb o W g=>(aa3 _ _ (aaR W)).trans g
 refine agd (hz:=dW) G rfl (hQ _ _ (Rel.dx (F:=F.in1) (s':={u with heap:=u.heap.update B (aaG λzZ => #[w,D])}) q1 G q7 n2 n3 U rfl rfl) ?_ (zT G U q3) (aa4 _ G rfl) ⟨w,D,rfl,zT G U q4,zT G U q5⟩)
 exact q2.trans (bv.step (λb hb=>by refine aab (aan.mp hb) ?_;exact⟨_,aa4 _ G rfl⟩) λb o W g=>U b o (λq=>W (by refine aab q ?_;simp)) g)
theorem YD{γ:Type}(hr:bI F.A (lvl+1))(n2:B∉F.mine)(n3:K.base.get? B=aam){it val b2:V}{w O wi U:aaf}{ar:S}{D:aah}{C:List aai}{W:Nat}{Y Z:PyData}{r3:Bool}(q1:Rel K F.in1 ar C D)(q2:bv [B] F.mine au C h₀ D.heap)(q3:Rep K D.heap C k wk)
  (q4:Rep K D.heap C it w) (q5:Rep K D.heap C val O) (ro:Rep K D.heap C b2 U) (q6:eS D.heap B #[wi,U] W) (q7:B∉C) (d1:toD ar.st 6 val=aac Y) (d2:toD ar.st 6 b2=aac Z) (d3:te Y Z=aac r3)
  {C1 C2:Sem γ} {hd:aaf->Sem Bool} {H L1 L2:List aaf} {Q:γ->aah->Prop} {E:aaf->aah->Prop}
  (h1:r3=true->∀J ij,Rel K F.in1 ar C J->bv [B] F.mine au C h₀ J.heap->Rep K J.heap C k wk->eS J.heap B #[w,O] ij->sg K J.heap C (aac (it,val)) #[w,O]->aao (aar K.prog K.w) F.in1.A C1 Q E J)
  (h2:r3=false->aao (aar K.prog K.w) F.in1.A C2 Q E D) :
  aao (aar K.prog K.w) F.in1.A (do
   let G <- tryCatch (holding H (do
    let u <- adC .Gt O U
    let hD <- holding [u] (ags u)
    letGo [u]
    pure hD)) hd
   if G=true then(aiN B (λzZ => #[w,O]) >>= λzZ=>letGo L1 >>= λzZ=>C1) else(letGo L2 >>= λzZ=>C2)) Q E D:=by
 refine xd (jw q1.toGRel 6 val O Y d1 q5) λas t1 c1 p1=>?_;refine xd (jw q1.toGRel 6 b2 U Z d2 ro) λbs t2 c2 p2=>?_;have hu:=hr.2.2
 have YE:F.in1.A.units+min Y.depth Z.depth<acw:=by show F.A.units+1+_<_;exact S8 hu p2
 refine aad (adf (aaN (aad (Xd Y Z F.in1.A D O U as bs r3 t1 t2 c1 c2 YE d3 K.prog K.w _ _ ?_))));refine aad (aaN (aft ?_));refine aad (acM (aak ?_))
 cases r3 with
 | true=>exact aad (OZ n2 n3 q1 q2 q3 q4 q5 q6 (by refine aab aa1 ?_;show(2:Nat)<=_;decide) q7 λJ ij p1 p2 p3 p4 p5=>aad (acM (h1 rfl J ij p1 p2 p3 p4 p5)))
 | false=>exact aad (acM (h2 rfl))
theorem YF{v u:V}{σ aa:S}{r:Bool}(e:gtB v u σ = .ok r aa):∃B C,toD σ.st 6 v=aac B/\toD σ.st 6 u=aac C/\te B C=aac r/\aa=σ:=by
 unfold gtB at e
 cases D:toD σ.st 6 v with
 | none=>rw[D] at e;(injection e)
 | some B=>
  cases J:toD σ.st 6 u with
  | none=>rw[D,J] at e;(injection e)
  | some C=>
   rw[D,J] at e;dsimp only at e
   cases G:te B C with
   | none=>rw[G] at e;(injection e)
   | some O=>rw[G] at e;cases e;exact(wq B C rfl rfl G rfl)
theorem YG(fk:aV F)(hf:ll K lvl LM)(hr:bI F.A (lvl+1))(Z:B∉F.mine)(n3:K.base.get? B=aam):∀(n:Nat) (u:Option (V×V)) (σ:S) (ρ:List aai) (s:aah) (xs:Array aaf) (c:Nat) (ov:Option V) (gB:S),
  z7 LM l k n u σ = .ok ov gB->Rel K F σ ρ s->bv [B] F.mine au ρ h₀ s.heap->ρ[l]?=aac a->Rep K s.heap ρ k wk->eS s.heap B xs c->sg K s.heap ρ u xs->B∉ρ->
  acC (aar K.prog K.w) F.A (.builtin "max.loop" ⟨[.ref a,wk,.ref B],[(aae "default",wd)]⟩) (DH K F (.ok ov gB) au h₀ B wd) s:=by
 have iV:(toString "max" ++ toString ".loop" : String) = "max.loop" :=by decide
 intro n
 induction n with
 | zero=>intro u σ ρ s xs c ov gB e;(injection e)
 | succ n ih=>
  intro u σ ρ s xs c ov gB e rel x0 bk rk hB rb n1;rw[OW] at e;refine acX agq ?_;refine aab (ab9 acN _) ?_;show aao _ F.in1.A (af6 (.ref B) >>= _) _ _ s;refine Mt λQ' E' hQ G=>?_;have mW:∀f s',DH K F (.ok ov gB) au h₀ B wd (.ok f) s'->Q' (.done f) s':=λf s' h=>hQ (.done f) s' h
  have dQ:∀(W:S) (J:aah) (D:List aai) (gA:Array aaf) (O:Nat) (fI:Option (V×V)),z7 LM l k n fI W = .ok ov gB->Rel K F.in1 W D J->bv [B] F.mine au D h₀ J.heap->D[l]?=aac a->Rep K J.heap D k wk->eS J.heap B gA O->sg K J.heap D fI gA->B∉D->
    aao (aar K.prog K.w) F.in1.A (again (.builtin (toString "max" ++ toString ".loop") ⟨[.ref a,wk,.ref B],[(aae "default",wd)]⟩)) Q' E' J:=by
   intro W J D gA O fI q1 q2 q3 q4 q5 q6 q7 q8;refine aab iV ?_;exact aak (hQ (.again _) _ ⟨ac2 acN _,ih fI W D J gA O ov gB q1 q2.iU q3 q4 q5 q6 q7 q8⟩)
  clear hQ ih;refine aad (ab8 hB rfl ?_);show aao _ F.in1.A (tryCatch (ac4 (.ref a)) _ >>= _) _ _ s
  have hn:=OV (K:=K) (F:=F.in1) (A:=F.in1.A) rel.in1 (show F.A.handled=aam from hr.1) bk
  cases en:qg l σ with
  | stuck=>rw[en] at e;(injection e)
  | exc _ _=>rw[en] at e;(injection e)
  | ok Jj ab=>
   rw[en] at e hn;clear en
   cases Jj with
   | none=>
    dsimp only at e hn;refine aad (adf (aap hn (λr af hq=>?_) λG G q=>q.elim));clear hn dQ;refine kh hq λzX r1 x1 lB=>?_
    try clear hq
    obtain rfl:=zX;have U:Ext F.mine ρ ρ s.heap af.heap:=x1;refine ye (U.cj hB n1 Z) λY G=>?_;have kH:=rb.mono λG G r=>r.mono U;have x3:=x0.trans (bv.of U);clear rb x1 hB x0 U rel rk lB
    cases u with
    | none=>
     have e:=Res.ok.inj e
     refine aab (show xs=#[] from kH) ?_
     exact aad (abf (aak (mW _ _ ⟨ρ,wd,rfl,by rw[<- e.2];exact r1.iU,x3,by rw[<- e.1];rfl⟩)))
    | some b=>
     have e:=Res.ok.inj e;refine gc kH λwi wv zY ri rv=>?_
     try clear kH
     obtain rfl:=zY;dsimp only;have aQ:∀b o,b≠B->af.heap.get? b=aac o->(af.heap.update B (aaG λG => #[])).get? b=aac o:=λb o nb g=>(aa3 _ _ (aaR nb)).trans g;refine aad (agd Y rfl (aad (acM (aak (mW _ _ ⟨ρ,wi,rfl,?_,?_,?_⟩)))))
     ·rw[<- e.2];exact r1.iU.dx (s':={af with heap:=af.heap.update B (aaG λG => #[])}) Y n1 Z n3 aQ rfl rfl
     ·exact x3.trans (bv.step (λb hb=>by refine aab (aan.mp hb) ?_;exact⟨_,aa4 _ Y rfl⟩) λb o nb g=>aQ b o (λq=>nb (by refine aab q ?_;simp)) g)
     ·rw[<- e.1];exact zT Y aQ ri
   | some it=>
    dsimp only at e hn;refine aad (adf (aap hn (λr af hq=>?_) λG G q=>q.elim));clear hn mW;refine wrap λG_ aM=>?_;obtain⟨w,Aa,r1,x1,lB,Ab⟩:=hq;refine aM ?_;clear aM G_;obtain rfl:=Aa;have U:Ext F.mine ρ ρ s.heap af.heap:=x1;refine ye (U.cj hB n1 Z) λY G=>?_;have kH:=rb.mono λG G r=>r.mono U;have x3:=x0.trans (bv.of U);have sh:=rk.mono U;clear rb x1 hB x0 U rel rk lB
    cases ek:w4 LM k it ab with
    | stuck=>rw[ek] at e;cases e
    | exc _ _=>rw[ek] at e;(injection e)
    | ok val W=>
     rw[ek] at e;dsimp only at e
     cases u with
     | none=>
      rw[show xs=#[] from kH] at Y ⊢
      dsimp only at e;refine OY fk hf hr r1 sh Ab ek λwv J D r2 C rv=>?_;refine ye (C.cj Y n1 Z) λjU oZ=>?_
      exact aad (OZ Z n3 r2 (x3.trans (bv.of C)) (sh.mono C) (Ab.mono C) rv jU (by refine aab aa1 ?_;exact aaL _) oZ λbg ij p1 p2 p3 p4 p5=>dQ W bg D _ ij _ e p1 p2 (aI C.pre bk) p3 p4 p5 oZ)
     | some b=>
      refine gc kH λwi wo Ac ri ro=>?_
      try clear kH
      obtain rfl:=Ac;dsimp only at e
      cases eg:gtB val b.2 W with
      | stuck=>rw[eg] at e;(injection e)
      | exc _ _=>rw[eg] at e;(injection e)
      | ok rr aO=>
       rw[eg] at e;dsimp only at e;refine z8 (YF eg) λdv dw d1 d2 d3 h3=>?_;rw[h3] at e;clear eg h3;refine OY fk hf hr r1 sh Ab ek λwv J D r2 C rv=>?_;refine ye (C.cj Y n1 Z) λjU oZ=>?_
       exact YD hr Z n3 r2 (x3.trans (bv.of C)) (sh.mono C) (Ab.mono C) rv (ro.mono C) jU oZ d1 d2 d3
        (λJk bg ij p1 p2 p3 p4 p5=>dQ W bg D _ ij _ (by rw[if_pos Jk] at e;exact e) p1 p2 (aI C.pre bk) p3 p4 p5 oZ)
        (λJk=>dQ W J D _ _ (aac b) (by rw[if_neg (by refine aab Jk ?_;decide)] at e;exact e) r2 (x3.trans (bv.of C)) (aI C.pre bk) (sh.mono C) jU ⟨wi,wo,rfl,ri.mono C,ro.mono C⟩ oZ)
end
theorem yo.dx{n:Bool}{e:Exc}{h₀:aat}{v:aaf}{s s':aah}{B:aai}{xs:Array aaf}{c:Nat}(x:yo n K F e h₀ v s)(U:eS s.heap B xs c)(hk:∀b o,b≠B->s.heap.get? b=aac o->s'.heap.get? b=aac o):yo n K F e h₀ v s':=by
 refine we x λX f g h0 a t tok W vs h1 h2 C h5 h6 h7 h8 h9=>?_
 try clear x
 refine yj C λo k1 k2 m k3=>?_
 try clear C
 have D:s.heap.get? B=_:=U
 have ne:∀{b:aai} {o:Obj} {G:Array aaf},s.heap.get? b=aac o->o.data = .fields G->b≠B:=by
  rintro b o G e d rfl
  rw[D] at e;(injection e with u;subst u);(injection d)
 have nt:t≠B:=by
  rintro rfl
  rw[D] at k1;(injection k1 with u;subst u)
  exact absurd (show aaK "list" = aaK "tuple" from k2) (by decide)
 refine(zj X f g h0 a t tok W vs h1 h2 ⟨o,hk _ _ nt k1,k2,m,k3⟩ (hk _ _ (ne h5 h7) h5) h6 h7 h8 ?_)
 rcases h9 with h | ⟨T,Y,Z,fl,q1,q2,q3,J,O,q6⟩
 ·exact .inl h
 ·exact .inr ⟨T,Y,Z,fl,q1,q2,q3,hk _ _ (ne J O) J,O,q6⟩
end
section
variable{K:aW}{F:bd}
theorem O1{prog:aa0}{w:abC}{A:aaE}{E:aaf->aah->Prop}{s:aah}{id:String}{b:abg}{args:List aaf}{u:List (Str×aaf)}{Q:aaf->aah->Prop}(hk:builtinKind id=aam)(O:plainId id=true)
  (U:entryFor table id=aac b) (B:aeJ id ⟨args,u⟩)
  (G:aao (aar prog w) A.in1 (b ⟨args,u⟩) (λC s'=>match C with
   | .done f=>(match (Except.ok f:aeI) with | .ok (.ret v)=>Q v s' | .ok _=>False | .error e=>E e s')
   | .again J=>J.quiet=true/\acC (aar prog w) A J (λr s'=>match r with | .ok (.ret v)=>Q v s' | .ok _=>False | .error e=>E e s') s') E s):aao (aar prog w) A (aaT (.builtin id) args u) Q E s:=by
 refine agP (codeAny_call_builtin O U ?_);unfold ahZ;refine aab hk ?_
 cases W:Manifest.signature? id with
 | none=>exact aak G
 | some D=>
  have Y:Bind.checkArgs id D ⟨args,u⟩=pure ():=by unfold aeJ at B;rw[W] at B;exact B
  dsimp only;refine aab Y ?_;exact aak G
noncomputable def xi(st:jb):V->Option String
 | .int _=>aac "int"
 | .str _=>aac "str"
 | .obj l=>match st[l]? with
  | some (.lst _)=>aac "list"
  | _=>aam
 | _=>aam
theorem Jm{st:jb}{k:V}{T:String}(h:xi st k=aac T):js st k=aac T/\(T = "int" \/ T = "str" \/ T = "list"):=by
 cases k with
 | int i=>(injection h with u;subst u);exact⟨rfl,.inl rfl⟩
 | str x=>(injection h with u;subst u);exact⟨rfl,.inr (.inl rfl)⟩
 | obj l=>
  unfold xi at h;dsimp only at h;unfold js;dsimp only
  cases B:st[l]? with
  | none=>rw[B] at h;(injection h)
  | some c=>
   rw[B] at h
   cases c with
   | lst us=>(injection h with u;subst u);exact⟨rfl,.inr (.inr rfl)⟩
   | _=>(injection h)
 | _=>(injection h)
noncomputable def Ad(l:Nat)(d:V)(T:String):M V:=λσ=>match qg l σ with
 | .ok aam aa=>.ok d aa
 | .ok (aac _) aa=>.exc (zz T) aa
 | _=>.stuck
noncomputable def ik(LM:Nat->List V->bj):V->V->V->M V
 | .obj l,d,k=>λσ=>match σ.st[l]? with
  | some (.aP _ _ _)=>(match xi σ.st k with
   | some T=>Ad l d T σ
   | none=>(match z7 LM l k 4096 aam σ with
    | .ok (aac v) aa=>.ok v aa
    | .ok aam aa=>.ok d aa
    | _=>.stuck))
  | _=>.stuck
 | _,_,_=>stuck
theorem O2(d k:aaf):adP "max" ["key", "default"] 0 ⟨[],[(aae "default",d),(aae "key",k)]⟩=pure [aac k,aac d]:=by rfl
theorem O3(a d k:aaf):aeJ "max" ⟨[a],[(aae "default",d),(aae "key",k)]⟩:=by
 unfold aeJ;kernel_rfl
theorem YH(hr:F.A.handled=aam){l:Nat}{T:String}{σ:S}{ρ:List aai}{s:aah}{k:V}{wk wd:aaf}{a B:aai}{c:Nat}{R:aeI->aah->Prop}(rel:Rel K F σ ρ s)(Z:Rep K s.heap ρ k wk)(bk:ρ[l]?=aac a)(hT:T = "int" \/ T = "str" \/ T = "list")
  (G:∀aa v,qg l σ = .ok (aac v) aa->js aa.st k=aac T) (hB:eS s.heap B #[] c) (n1:B∉ρ) (n2:B∉F.mine) (n3:K.base.get? B=aam)
  (h1:∀aa s',qg l σ = .ok aam aa->Rel K F aa ρ s'->Ext F.mine ρ ρ s.heap s'.heap->R (.ok (.ret wd)) s')
  (h2:∀v aa e s',qg l σ = .ok (aac v) aa->Rel K F aa ρ s'->bv [B] F.mine ρ ρ s.heap s'.heap->hU K F (zz T) s.heap e s'->R (.error e) s') (aA:∃o aa,qg l σ = .ok o aa) :
  acC (aar K.prog K.w) F.A (.builtin "max.loop" ⟨[.ref a,wk,.ref B],[(aae "default",wd)]⟩) R s:=by
 refine acX agq ?_;refine aab (ab9 acN _) ?_;show aao _ F.in1.A (af6 (.ref B) >>= _) _ _ s;refine aad (ab8 hB rfl ?_);show aao _ F.in1.A (tryCatch (ac4 (.ref a)) _ >>= _) _ _ s
 have hn:=OV (K:=K) (F:=F.in1) (A:=F.in1.A) rel.in1 (show F.A.handled=aam from hr) bk
 refine qq aA λJj u C=>?_
 try clear aA
 rw[C] at hn
 cases Jj with
 | none=>
  refine aad (adf (aap hn (λr af hq=>?_) λD D q=>q.elim));refine kh hq λAe J x1 D=>?_
  try clear hq
  obtain rfl:=Ae;exact aad (abf (aak (h1 u af C J.iU x1)))
 | some it=>
  refine aad (adf (aap hn (λr af hq=>?_) λD D q=>q.elim));refine wrap λG_ aM=>?_;obtain⟨w,Af,J,x1,_,Ab⟩:=hq;refine aM ?_;clear aM G_;obtain rfl:=Af;have jT:Ext F.mine ρ ρ s.heap af.heap:=x1;refine ye (jT.cj hB n1 n2) λiW D=>?_;have sh:=Z.mono jT;have kk:=pC J.toGRel sh (G u it C)
  have key:∀{γ:Type} {cont:aaf->Sem γ} {Q:γ->aah->Prop} {E:aaf->aah->Prop},(∀e s',Rel K F u ρ s'->bv [B] F.mine ρ ρ s.heap s'.heap->hU K F (zz T) s.heap e s'->E e s')->
    aao (aar K.prog K.w) F.in1.A (tryCatch (holding [w] (aaT wk [w])) (λe=>do aiN B λD => #[];letGo ([w]++(#[]:Array aaf).toList.reverse) [e];throw e) >>= cont) Q E af:=by
   intro γ cont Q E hE
   refine aad (adf (aaN (I7 (show F.in1.A.handled=aam from hr) kk hT ?_)))
   refine xd (nE (F:=F) (cls:= "TypeError") (msg:=aae (jl (aaX T))) (tk:=af.toks) (n:=af.toks+1) J.iU (by decide)) λav fJ x2 xr=>?_
   have jU:eS (xh af.heap "TypeError" (aae (jl (aaX T))) af.toks) B #[] c:=qo _ _ iW
   have fY:Rel K F u ρ {af with heap:=xh af.heap "TypeError" (aae (jl (aaX T))) af.toks,toks:=af.toks+1}:=J.iU.kept qo rfl rfl
   have aQ:∀b o,b≠B->(xh af.heap "TypeError" (aae (jl (aaX T))) af.toks).get? b=aac o->((xh af.heap "TypeError" (aae (jl (aaX T))) af.toks).update B (aaG λD => #[])).get? b=aac o:=λb o nb g=>(aa3 _ _ (aaR nb)).trans g
   refine aad (agd jU rfl (aad (acM (aes (hE _ _ ?_ ?_ ?_)))))
   ·exact fY.dx (s':={af with heap:=(xh af.heap "TypeError" (aae (jl (aaX T))) af.toks).update B (aaG λD => #[]),toks:=af.toks+1}) jU n1 n2 n3 aQ rfl rfl
   ·exact(bv.of (jT.trans (Ext.kept qo))).trans (bv.step (λb hb=>by refine aab (aan.mp hb) ?_;exact⟨_,aa4 _ jU rfl⟩) λb o nb g=>aQ b o (λq=>nb (by refine aab q ?_;simp)) g)
   ·exact(yo.dx xr jU aQ).up jT
  cases k with
  | int i=>
   refine xc (Rep.aH.mp Z) λt Ag=>?_;obtain rfl:=Ag;exact key λe s' O U W=>h2 it u e s' C O U W
  | str x=>
   refine xc (Rep.dj.mp Z) λt Ah=>?_;obtain rfl:=Ah;exact key λe s' O U W=>h2 it u e s' C O U W
  | obj lk=>
   refine ya (Rep.aN.mp Z) λt D Ai=>?_;obtain rfl:=Ai;exact key λe s' O U W=>h2 it u e s' C O U W
  | none=>have:=G u it C;(injection this with Y;subst Y);exact absurd hT (by decide)
  | tup vs=>have:=G u it C;(injection this with Y;subst Y);exact absurd hT (by decide)
  | gN=>have:=G u it C;(injection this with Y;subst Y);exact absurd hT (by decide)
  | _=>have:=G u it C;(injection this)
theorem YI{l:Nat}{o:Option V}{σ aa:S}(h:qg l σ = .ok o aa){j:Nat}(D:j≠l):aa.st[j]?=σ.st[j]?:=by
 unfold qg at h
 cases h1:σ.st[l]? with
 | none=>rw[h1] at h;(injection h)
 | some c=>
  rw[h1] at h
  cases c with
  | aP k i d=>
   dsimp only at h
   by_cases G:l=0
   ·rw[if_pos G] at h;(injection h)
   rw[if_neg G] at h
   cases d with
   | true=>(injection h with B C;subst B C);rfl
   | false=>
    cases h2:σ.st[k]? with
    | none=>rw[h2] at h;(injection h)
    | some J=>
     rw[h2] at h
     cases J with
     | lst us=>
      dsimp only at h
      cases h3:us[i]? with
      | none=>rw[h3] at h;(injection h with B C;subst B C);exact aau (aaR D)
      | some u=>rw[h3] at h;(injection h with B C;subst B C);exact aau (aaR D)
     | _=>(injection h)
  | _=>(injection h)
theorem YJ{l:Nat}{o:Option V}{σ aa:S}{k:V}{T:String}(h:qg l σ = .ok o aa){k2 u:Nat}{B:Bool}(C:σ.st[l]?=aac (.aP k2 u B))(hk:xi σ.st k=aac T):xi aa.st k=aac T:=by
 cases k with
 | obj lk=>
  have D:lk≠l:=by
   rintro rfl
   unfold xi at hk;dsimp only at hk;rw[C] at hk;(injection hk)
  unfold xi at hk ⊢;dsimp only at hk ⊢;refine aab (YI h D) ?_;exact hk
 | _=>exact hk
theorem YK(fk:aV F)(Z:F.A.handled=aam){σ:S}{ρ:List aai}{s:aah}{l k2 i2:Nat}{d2:Bool}{T:String}{d k:V}{wd wk:aaf}{a:aai}(rel:Rel K F σ ρ s)(O:ρ[l]?=aac a)(U:σ.st[l]?=aac (.aP k2 i2 d2))(W:xi σ.st k=aac T)(rd:Rep K s.heap ρ d wd)(rk:Rep K s.heap ρ k wk):
  Run K F (aaT (.builtin "max") [.ref a] [(aae "default",wd),(aae "key",wk)]) (Rep K) (Ad l d T σ) ρ s:=by
 have iV:(toString "max" ++ toString ".loop" : String) = "max.loop" :=by decide
 refine xd (rel.cell l a _ O U) λo ho cf zZ=>?_;have YL:=(Jm W).2
 have Y:∀b o,s.heap.get? b=aac o->b∉[s.heap.objs.size]:=λb o e q=>by
  rw[aan.mp q,aaQ (aaw _)] at e;(injection e)
 have C:∀{Q:aaf->aah->Prop} {E:aaf->aah->Prop},(∃o aa,qg l σ = .ok o aa)->(∀aa s',qg l σ = .ok aam aa->Rel K F aa ρ s'->Ext F.mine ρ ρ s.heap s'.heap->Q wd s')->
   (∀v aa e s',qg l σ = .ok (aac v) aa->Rel K F aa ρ s'->Ext F.mine ρ ρ s.heap s'.heap->hU K F (zz T) s.heap e s'->E e s')->
   aao (aar K.prog K.w) F.A (aaT (.builtin "max") [.ref a] [(aae "default",wd),(aae "key",wk)]) Q E s:=by
  intro Q E aA h1 h2;refine O1 ah5 ahB ahC (O3 _ _ _) ?_
  show aao _ F.A.in1 (adP "max" ["key", "default"] 0 ⟨[],[(aae "default",wd),(aae "key",wk)]⟩ >>= _) _ _ s
  refine aad (aci (O2 wd wk) ?_);refine aad (aak ?_);refine aad (g9 ho cf ?_)
  refine aad (ab0 ?_ (by size_fits))
  refine kh (uX rel) λf0 f1 f2 f3=>?_
  have hk:∀b o,s.heap.get? b=aac o->(s.heap.push {cls:= .type "list",data:= .seq #[]}).get? b=aac o:=λb o e=>aaj _ e
  have G:Ext F.mine ρ ρ s.heap (s.heap.push {cls:= .type "list",data:= .seq #[]}):=Ext.kept hk
  refine aab iV ?_;refine aak ⟨ac2 acN _,YH (c:=0) Z (rel.push _ s.toks) (rk.mono G) O YL (λaa v u=>(Jm (YJ u U W)).1) (aaA _ rfl) f3 f2 f1 (λaa s' u r x=>h1 aa s' u r (G.trans x)) (λv aa e s' u r x J=>?_) aA⟩;have D:=(bv.of (fp:=[s.heap.objs.size]) G).trans x;exact h2 v aa e s' u r ⟨D.pre,D.alive,D.new,λb o e n1 n2=>D.keep b o e n1 (Y b o e) n2,λb o e f=>D.bu b o e f (Y b o e)⟩ (J.up G)
 unfold Ad
 cases u:qg l σ with
 | stuck=>exact Run.stuck
 | exc _ _=>exact Run.stuck
 | ok ov il=>
  cases ov with
  | none=>
   refine Run.ok (C ⟨_,_,u⟩ (λaa s' B r x=>?_) λv aa e s' B r x J=>?_)
   ·rw[u] at B;cases B;exact(je ρ r x (rd.mono x))
   ·rw[u] at B;(exfalso;exact nomatch B)
  | some v=>
   show aao _ _ _ _ _ _;refine C ⟨_,_,u⟩ (λaa s' B r x=>?_) λv aa e s' B r x J=>?_
   ·rw[u] at B;(exfalso;exact nomatch B)
   ·rw[u] at B;cases B;exact(je ρ r x J)
theorem YM(Z:aV F){LM:Nat->List V->bj}{lvl:Nat}(hf:ll K lvl LM)(hr:bI F.A (lvl+1)){σ:S}{ρ:List aai}{s:aah}{v d k:V}{wv wd wk:aaf}(rel:Rel K F σ ρ s)(rv:Rep K s.heap ρ v wv)(rd:Rep K s.heap ρ d wd)(rk:Rep K s.heap ρ k wk):
  Run K F (aaT (.builtin "max") [wv] [(aae "default",wd),(aae "key",wk)]) (Rep K) (ik LM v d k σ) ρ s:=by
 have iV:(toString "max" ++ toString ".loop" : String) = "max.loop" :=by decide
 cases v with
 | obj l=>
  unfold ik;dsimp only
  cases hc:σ.st[l]? with
  | none=>exact Run.stuck
  | some c=>
   cases c with
   | aP k2 i2 d2=>
    dsimp only;refine ya (Rep.aN.mp rv) λa W Ak=>?_;obtain rfl:=Ak;refine xd (rel.cell l a _ W hc) λo ho cf D=>?_
    cases DI:xi σ.st k with
    | some T=>exact YK Z hr.1 rel W hc DI rd rk
    | none=>
    dsimp only
    cases em:z7 LM l k 4096 aam σ with
    | stuck=>exact Run.stuck
    | exc _ _=>exact Run.stuck
    | ok G U=>
     have C:aao (aar K.prog K.w) F.A (aaT (.builtin "max") [.ref a] [(aae "default",wd),(aae "key",wk)]) (λw s'=>DH K F (.ok G U) ρ s.heap s.heap.objs.size wd (.ok (.ret w)) s') (λD D=>False) s:=by
      refine O1 ah5 ahB ahC (O3 _ _ _) ?_
      show aao _ F.A.in1 (adP "max" ["key", "default"] 0 ⟨[],[(aae "default",wd),(aae "key",wk)]⟩ >>= _) _ _ s
      refine aad (aci (O2 wd wk) ?_);refine aad (aak ?_);refine aad (g9 ho cf ?_)
      refine aad (ab0 ?_ (by size_fits))
      refine kh (uX rel) λf0 f1 f2 f3=>?_
      have hk:∀b o,s.heap.get? b=aac o->(s.heap.push {cls:= .type "list",data:= .seq #[]}).get? b=aac o:=λb o e=>aaj _ e
      have x1:Ext F.mine ρ ρ s.heap (s.heap.push {cls:= .type "list",data:= .seq #[]}):=Ext.kept hk
      refine aab iV ?_;refine aak ⟨ac2 acN _,acR (YG (au:=ρ) (h₀:=s.heap) Z hf hr f2 f1 4096 aam σ ρ _ #[] 0 G U em (rel.push _ s.toks) (bv.of x1) W (rk.mono x1) (aaA _ rfl) rfl f3) λr s' h=>?_⟩;obtain⟨av,w,rfl,h⟩:=h;exact(gf av w rfl h)
     have J:∀w s',DH K F (.ok G U) ρ s.heap s.heap.objs.size wd (.ok (.ret w)) s'->∃av,Rel K F U av s'/\Ext F.mine ρ av s.heap s'.heap/\OX K s'.heap av wd G w:=by
      rintro w s' ⟨av,w',e,O,B,h'⟩
      (injection e with Y;injection Y with Y;subst Y)
      have Aj:∀b o,s.heap.get? b=aac o->b∉[s.heap.objs.size]:=λb o e q=>by
       rw[aan.mp q,aaQ (aaw _)] at e;(injection e)
      exact(je av O ⟨B.pre,B.alive,B.new,λb o e n1 n2=>B.keep b o e n1 (Aj b o e) n2,λb o e f=>B.bu b o e f (Aj b o e)⟩ h')
     cases G with
     | some u=>
      refine Run.ok (aap C (λw s' h=>?_) λD D h=>h);refine xd (J w s' h) λav O B h'=>?_;exact(je av O B h')
     | none=>
      refine Run.ok (aap C (λw s' h=>?_) λD D h=>h);refine xd (J w s' h) λav O B h'=>?_;have h':w=wd:=h';refine aab h' ?_;exact(je av O B (rd.mono B))
   | _=>exact Run.stuck
 | _=>exact Run.stuck
theorem YN(W:aV F){LM:Nat->List V->bj}{lvl:Nat}(hf:ll K lvl LM)(hr:bI F.A (lvl+1)){np pos p1 p2:Pos}{e d k:Expr}{Y Z mk:M V}(hx:F.env.kindOf (aae "max")=aac .globalImplicit)(hm:K.mg (aae "max")=aam)
  (he:aU K F e Y) (hd:aU K F d Z) (hk:aU K F k mk) (O:abu (e::[]) F.env=(false,abe e F.env)::abu [] F.env:=by rfl) :
  aU K F (.Call (.Name (aae "max") np) [e] [⟨aac (aae "default"),d,p1⟩,⟨aac (aae "key"),k,p2⟩] pos) (do let v <- Y;let a <- Z;let b <- mk;ik LM v a b):=by
 intro σ ρ s rel;refine Run.of_wp λB=>?_;simp only[NV]
 refine aad (yw W rel hx hm (v:= .builtin "max") (by decide +kernel) ?_)
 refine callWith_kw ?_ (by refine aab O ?_;rfl) (by(refine aab (yq ..) ?_;refine aab O ?_);rfl)
 refine aab O ?_;show aao _ _ (acB ((false,abe e F.env)::[])) _ _ s;refine aab (jm ..) ?_;refine aad (Run.bq (he σ ρ s rel) B λvv ab ai af wv e1 e2 ae C rv=>?_);rw[e2] at B ⊢;refine aad (aaN (aak (aak ?_)))
 show aao _ _ (evalAll [(do let v <- abe d F.env;standAt pos;pure v),(do let v <- abe k F.env;standAt pos;pure v)]) _ _ af
 refine aee (aad ?_)
 refine aap (Run.bq (P:=λU D=>aao (aar K.prog K.w) F.A (do standAt pos;pure U) _ _ D) (hd ab ai af ae) B λvd ar aC ay wd e3 e4 aB G rd=>?_) (λu u q=>q) λu u q=>q.up C
 rw[e4] at B ⊢;refine aad (abP (aak ?_));refine aee (aad ?_)
 refine aap (Run.bq (P:=λU D=>aao (aar K.prog K.w) F.A (do standAt pos;pure U) _ _ D) (hk ar aC ay aB) B λvk aO bt D wk e5 e6 aY J rk=>?_) (λu u q=>q) λu u q=>(q.up G).up C
 rw[e6] at B ⊢;refine aad (abP (aak (ahD ?_)));have key:=YM (F:=F) W hf hr aY ((rv.mono G).mono J) (rd.mono J) rk;exact aap (key.wp B) (λu u q=>((q.up J).up G).up C) λu u q=>((q.up J).up G).up C
end
open PySem PySem.W PyProof.Rows PySem.SeqAt
section
variable{K:aW}{F:bd}
noncomputable def bK:PyData->Nat
 | .int _=>1
 | .list _=>2
 | .tuple (.int _::_)=>3
 | .tuple (.list _::_)=>4
 | _=>0
noncomputable def tD:List PyData->Bool
 | []=>true
 | d::r=>bK d != 0&&r.all λe=>bK e==bK d
theorem YO{ds:List PyData}(h:tD ds=true):∃c,c≠0/\∀d∈ds,bK d=c:=by
 cases ds with
 | nil=>exact(ja 1 (by decide) (λd hd=>by simp at hd))
 | cons d r=>
  unfold tD at h;simp only[abW,bne_iff_ne,ne_eq,abV,beq_iff_eq] at h;refine(ja (bK d) h.1 (λe he=>?_))
  rcases aay.mp he with rfl | he
  ·rfl
  ·exact h.2 e he
theorem DJ{d:PyData}(h:bK d=1):∃i,d = .int i:=by
 cases d with
 | int i=>exact⟨i,rfl⟩
 | tuple xs=>cases xs with
  | nil=>(injection h)
  | cons z u=>cases z<;>cases h
 | _=>(exfalso;exact nomatch h)
theorem DK{d:PyData}(h:bK d=2):∃xs,d = .list xs:=by
 cases d with
 | list i=>exact⟨i,rfl⟩
 | tuple xs=>cases xs with
  | nil=>(injection h)
  | cons z u=>cases z<;>cases h
 | _=>(exfalso;exact nomatch h)
section
variable{prog:aa0}{w:abC}{A:aaE}{E:aaf->aah->Prop}{s:aah}
theorem YQ{x y:PyData}(h:bK x=1\/bK x=2):dc x y=kG x y:=by
 rcases h with h | h
 ·refine xc (DJ h) λi u=>?_;obtain rfl:=u;rfl
 ·refine xc (DK h) λi B=>?_;obtain rfl:=B;rfl
theorem O4{x y:PyData}{a b:aaf}{as bs:List aai}{r:Bool}{Q:Bool->aah->Prop}(ra:aco s.heap a x as)(D:aco s.heap b y bs)(Z:x.canLay0=true)(hb:y.canLay0=true)(O:A.units+min x.depth y.depth<acw)(e:kG x y=aac r)
  (hk:(bK x=1/\bK y=1)\/(bK x=2/\bK y=2)) (h:Q r s):aao (aar prog w) A (oneLt' true a b) Q E s:=by
 rcases hk with⟨h1,h2⟩ | ⟨h1,h2⟩
 ·refine xc (DJ h1) λi Ao=>?_;obtain rfl:=Ao;refine xc (DJ h2) λj Ap=>?_;obtain rfl:=Ap;refine ya (adX ra) λt Aq B=>?_;obtain rfl:=Aq;refine ya (adX D) λu Ar B=>?_;obtain rfl:=Ar;have e:decide (i<j)=r:=abH e;exact oneLt_int (e▸h)
 ·refine xc (DK h1) λxs As=>?_;obtain rfl:=As;refine xc (DK h2) λys At=>?_;obtain rfl:=At;refine gd (adk ra) λa l bs Au B U rl=>?_;obtain rfl:=Au;refine gd (adk D) λb m cs Av B W Y=>?_;obtain rfl:=Av;have q:=C5 (P:=fe A.in1 s) (A:=A.in1) (λx y a b as bs ra D B B B e=>Hm ra D e) _ _ _ _ _ _ rl Y Z hb (room_in O) e;rw[<- ReadsAll.length _ _ _ rl,<- ReadsAll.length _ _ _ Y] at q;refine yj U λAw G q2 B q3=>?_
  try clear U
  refine wrap λJ C=>?_;obtain⟨cls,dd,data,sl⟩:=Aw;refine C ?_;clear C J;refine yj W λAx k1 k2 B k3=>?_
  try clear W
  refine wrap λJ C=>?_;obtain⟨oD,gH,data2,gI⟩:=Ax;refine C ?_;clear C J
  (subst q2)
  (subst q3)
  (subst k2)
  (subst k3)
  (refine aab (oneLt'_eq ..) ?_;refine aab (if_pos rfl) ?_)
  refine aad (afv (.inr (by exact S9 O)) ?_)
  exact aad (wpAny_callSpecialIfBound?_slot (T:= "list") ⟨_,G,rfl⟩ aeV (acL aeV ⟨_,G,rfl⟩ agB (agm _ _) (M4 _ _ _ _ _ _ _ _ _ _ r) ⟨G,k1,q,aft h⟩))
theorem YR:∀(xs u:List PyData) (A:aaE) (s:aah) (vs ws:List aaf) (as bs:List aai) (r B:Bool) (i:Nat) (Q:Bool->aah->Prop),agK s.heap vs xs as->agK s.heap ws u bs->abO xs=true->abO u=true->
  A.units+min (acW xs) (acW u)<acw->oB kG B xs u=aac r->
  (i=0->∀x xr y yr,xs=x::xr->u=y::yr->(bK x=1/\bK y=1)\/(bK x=2/\bK y=2))->Q r s->KatLex prog w A true B Q (vs.zip ws) i s:=by
 intro xs
 induction xs with
 | nil=>
  intro u A s vs ws as bs r B i Q ra U C D O e hi J;refine ye (aey ra) λAy G=>?_;obtain rfl:=Ay;exact kat_nil ((abH e)▸J)
 | cons x xs ih=>
  intro u A s vs ws as bs r B i Q ra U C D O e hi J;refine gp (aeo ra) λv vs G G Az G W Hu=>?_;obtain rfl:=Az
  cases u with
  | nil=>
   refine ye (aey U) λAA G=>?_;obtain rfl:=AA;exact kat_nil ((abH e)▸J)
  | cons y u=>
   refine gp (aeo U) λw ws G G AB G Y Hx=>?_;obtain rfl:=AB
   have C:=acA.mp (show(x.canLay0&&abO xs)=true from C)
   have D:=acA.mp (show(y.canLay0&&abO u)=true from D)
   refine kat_cons (eqAt_reads x y A s _ _ _ _ W Y C.1 D.1 (room_head O) prog _ _ _ ?_)
   have e:(if abb x y=true then oB kG B xs u else kG x y)=aac r:=e
   cases Z:abb x y with
   | true=>
    rw[Z,if_pos rfl] at e;exact kat_yes (ih u A s _ _ _ _ r B (i+1) Q Hu Hx C.2 D.2 (room_tail O) e (λh=>absurd h (Nat.succ_ne_zero i)) J)
   | false=>
    rw[Z,if_neg abz] at e;refine kat_no ?_
    by_cases h0:i=0
    ·subst h0;exact O4 W Y C.1 D.1 (room_head O) e (hi rfl x xs y u rfl rfl) J
    ·refine aab (show(true&&i==0)=false by simpa using h0) ?_
     exact kat_one _ _ (Hy x y W Y C.1 D.1 (room_head O) e prog _ _ _ J)
end
theorem DL{d:PyData}(h:bK d=3):∃i r,d = .tuple (.int i::r):=by
 cases d with
 | tuple xs=>cases xs with
  | nil=>(injection h)
  | cons z u=>cases z<;>first | (cases h;done) | exact(j7 _ _ rfl)
 | _=>(exfalso;exact nomatch h)
theorem DM{d:PyData}(h:bK d=4):∃i r,d = .tuple (.list i::r):=by
 cases d with
 | tuple xs=>cases xs with
  | nil=>(injection h)
  | cons z u=>cases z<;>first | (cases h;done) | exact(j7 _ _ rfl)
 | _=>(exfalso;exact nomatch h)
theorem O5{M:adF}{h:aat}{a:aai}{o:Obj}{T:aaf}(e:h.get? a=aac o)(u:o.cls=T):agG M h (afd (.ref a)) T:=by
 have:agG M h (afd (.ref a)) o.cls:=(Looks.ld e).andThen .now
 rwa [u] at this
theorem O6{h:aat}{ws:List aaf}{T:aaf}(H:∀v∈ws,∃a o xs n f,v = .ref a/\h.get? a=aac o/\o.cls = .type "tuple" /\ o.data = .seq xs n/\xs[0]?=aac f/\(∀M:adF,agG M h (afd f) T)):
  ∃u,KatTups h ws u/\u.length=ws.length/\∀v∈u,∀M:adF,agG M h (afd v) T:=by
 induction ws with
 | nil=>exact(je ([]) KatTups.nil rfl (λv hv=>by simp at hv))
 | cons v ws C=>
  refine xd (C λv hv=>H v (aaU _ hv)) λu k1 k2 k3=>?_;refine wrap λD B=>?_;obtain⟨a,o,xs,n,f,G,J,O,U,W,Y⟩:=H v aaS;refine B ?_;clear B D;clear H;obtain rfl:=G
  exact⟨f::u,KatTups.cons J O U W k1,by simp[k2],λv hv=>by
   rcases aay.mp hv with rfl | hv
   ·exact Y
   ·exact k3 v hv⟩
theorem O7{h:aat}{v:aaf}{B:PyData}{C:List PyData}{as:List aai}{T:aaf}(D:aco h v (.tuple (B::C)) as)(k:∀y G,aco h y B G->∀M:adF,agG M h (afd y) T):
  ∃a o xs n f,v = .ref a/\h.get? a=aac o/\o.cls = .type "tuple" /\ o.data = .seq xs n/\xs[0]?=aac f/\(∀M:adF,agG M h (afd f) T):=by
 cases D with
 | tuple k1 k2 k3 u=>
  rename_i l o items n
  cases hi:items.toList with
  | nil=>rw[hi] at u;(exfalso;exact nomatch u)
  | cons y O=>
   rw[hi] at u
   cases u with
   | cons J U=>
    refine⟨_,_,_,_,y,rfl,k1,k2,k3,?_,k y _ J⟩
    have:items.toList[0]?=aac y:=by refine aab hi ?_;rfl
    simpa using this
theorem YS{h:aat}{v:aaf}{d:PyData}{as:List aai}(B:aco h v d as)(u:bK d=3):∃a o xs n f,v = .ref a/\h.get? a=aac o/\o.cls = .type "tuple" /\ o.data = .seq xs n/\xs[0]?=aac f/\(∀M:adF,agG M h (afd f) (.type "int")):=by
 refine qq (DL u) λi D C=>?_;clear u;obtain rfl:=C
 exact O7 B λy G r M=>by
  cases r with
  | int _ t=>exact .now
theorem YT{h:aat}{v:aaf}{d:PyData}{as:List aai}(B:aco h v d as)(u:bK d=4):∃a o xs n f,v = .ref a/\h.get? a=aac o/\o.cls = .type "tuple" /\ o.data = .seq xs n/\xs[0]?=aac f/\(∀M:adF,agG M h (afd f) (.type "list")):=by
 refine qq (DM u) λi J C=>?_;clear u;obtain rfl:=C
 exact O7 B λy O r M=>by
  cases r with
  | list D G U W=>exact O5 D G
theorem O8{d:PyData}(h:bK d=3\/bK d=4):∃xs,d = .tuple xs:=by
 rcases h with h | h
 ·refine qq (DL h) λu B h=>?_;exact⟨_,h⟩
 ·refine qq (DM h) λu B h=>?_;exact⟨_,h⟩
theorem YU{s:aah}{a b:PyData}{W Y:aaf}{as bs:List aai}{Z:Bool}{A:aaE}{C:Bool->aah->Prop}(hu:A.units+7<acw)(e:dc a b=aac Z)(p1:aco s.heap W a as)(p2:a.canLay0=true)(D:a.depth<=6)
  (q1:aco s.heap Y b bs) (q2:b.canLay0=true) {c:Nat} (G:bK a=c) (J:bK b=c) (O:c=3\/c=4) (hC:C Z s):aao (aar K.prog K.w) A (keyLt' (aiu true) W Y) C (λzZ zZ=>False) s:=by
 refine xc (O8 (d:=a) (by refine aab G ?_;exact O)) λU AG=>?_
 obtain rfl:=AG
 refine xc (O8 (d:=b) (by refine aab J ?_;exact O)) λxb AH=>?_
 obtain rfl:=AH;have e:oB kG (decide (U.length<xb.length)) U xb=aac _:=e
 cases p1 with
 | tuple h1 h2 h3 h4=>
  cases q1 with
  | tuple k1 k2 k3 k4=>
   rw[<- ReadsAll.length _ _ _ h4,<- ReadsAll.length _ _ _ k4] at e;refine kat_lt (s:=s) h1 h3 k1 k3 (YR _ _ A s _ _ _ _ _ _ 0 C h4 k4 p2 q2 ?_ e (λzZ x xr y yr u B=>?_) hC)
   ·have D:acW U+1<=6:=by simpa [ahh] using D
    exact Te hu D
   ·subst u B
    rcases O with h | h
    ·refine qq (DL (G.trans h)) λi' r' u=>?_;refine qq (DL (J.trans h)) λj' vt B=>?_;simp only[PyData.tuple.injEq,List.cons.injEq] at u B
     exact .inl ⟨by refine aab u.1 ?_;rfl,by refine aab B.1 ?_;rfl⟩
    ·refine qq (DM (G.trans h)) λi' r' u=>?_;refine qq (DM (J.trans h)) λj' vt B=>?_;simp only[PyData.tuple.injEq,List.cons.injEq] at u B
     exact .inr ⟨by refine aab u.1 ?_;rfl,by refine aab B.1 ?_;rfl⟩
theorem Jn{AI:jb}{us:List V}{xs:List aaf}{ds:List PyData}{ρ:List aai}{s:aah}(g:GRel K AI ρ s)(r:aj K s.heap ρ us xs)(h2:2<=us.length)(hd:bw (toD AI 6) us=aac ds)(hs:tD ds=true)(dN:tj dc ds=true):
  ∃κ:agM,(∀A E (Q:agM->aah->Prop),Q κ s->aao (aar K.prog K.w) A (ahR xs.toArray) Q E s)/\
   ∀(A:aaE) (i j:Nat) (C:Bool->aah->Prop),A.units+7<acw->i<us.length->j<us.length->C (b9 dc ds i j) s->aao (aar K.prog K.w) A (keyLt' κ (xs.getD i aaI) (xs.getD j aaI)) C (λzZ zZ=>False) s:=by
 refine ya (YO hs) λc Nm hc=>?_;have c7:xs.length=us.length:=r.length
 have read:∀i,i<us.length->∃d as,ds[i]?=aac d/\aco s.heap (xs.getD i aaI) d as/\d.canLay0=true/\d.depth<=6/\bK d=c:=by
  intro i hi;refine ya (NY (i:=i) (v:=us[i]) hd (aav hi)) λd e1 e2=>?_;have r1:=NN r hi;rw[aaO,aav hi] at r1;refine xd (jw g 6 _ _ d e2 r1) λas u G q3=>?_;exact⟨d,as,e1,u,G,q3,hc d (aaM e1)⟩
 have mem:∀v∈xs,∃d as,aco s.heap v d as/\bK d=c:=by
  intro v B;obtain⟨i,hi,AJ⟩:=agZ.mp B;obtain rfl:=AJ;refine wrap λZ J=>?_
  obtain⟨d,as,_,u,_,_,Y⟩:=read i (by exact Tb hi c7)
  refine J ?_;clear J Z;rw[aaO,aav hi] at u;exact(gf d as u Y)
 have two:∀i j,i<us.length->j<us.length->∃a b as bs,dc a b=aac (b9 dc ds i j)/\aco s.heap (xs.getD i aaI) a as/\a.canLay0=true/\a.depth<=6/\bK a=c/\aco s.heap (xs.getD j aaI) b bs/\b.canLay0=true/\b.depth<=6/\bK b=c:=by
  intro i j hi D;refine F5 (read i hi) λa as e1 p1 p2 p3 p4=>?_;refine F5 (read j D) λb bs e2 u G q3 Y=>?_;refine xc (Xe dN e1 e2) λx hx=>?_;refine⟨a,b,as,bs,?_,p1,p2,p3,p4,u,G,q3,Y⟩;unfold b9
  (refine aab e1 ?_;refine aab e2 ?_);dsimp only;refine aab hx ?_;rfl
 have Jo:c=1\/c=2\/c=3\/c=4:=by
  refine wrap λZ J=>?_
  obtain⟨d,_,_,_,_,_,q⟩:=read 0 (by exact Tc h2)
  refine J ?_;clear J Z
  have hD:∀d,bK d<=4:=by
   intro d
   cases d with
   | tuple xs=>cases xs with
    | nil=>exact aaL _
    | cons z zs=>cases z<;>exact of_decide_eq_true rfl
   | _=>exact of_decide_eq_true rfl
  have:=hD d;exact Td Nm q this
 have pI:∀(A:aaE) (i j:Nat) (C:Bool->aah->Prop),A.units+7<acw->i<us.length->j<us.length->C (b9 dc ds i j) s->(c=3\/c=4)->aao (aar K.prog K.w) A (keyLt' (aiu true) (xs.getD i aaI) (xs.getD j aaI)) C (λzZ zZ=>False) s:=by
  intro A i j C O hi D U AF;refine wrap λZ J=>?_;obtain⟨a,b,as,bs,e,p1,p2,p3,p4,u,G,q3,Y⟩:=two i j hi D;refine J ?_;clear J Z;exact YU O e p1 p2 p3 u G p4 Y AF U
 have W:∀(A:aaE) (i j:Nat) (C:Bool->aah->Prop),A.units+7<acw->i<us.length->j<us.length->C (b9 dc ds i j) s->(c=1\/c=2)->aao (aar K.prog K.w) A (keyLt' ai4 (xs.getD i aaI) (xs.getD j aaI)) C (λzZ zZ=>False) s:=by
  intro A i j C O hi D U xN;refine wrap λZ J=>?_;obtain⟨a,b,as,bs,e,p1,p2,p3,p4,u,G,q3,Y⟩:=two i j hi D;refine J ?_;clear J Z;simp only[keyLt'_oneType]
  refine O4 p1 u p2 G (by exact Tf O q3) ((YQ (y:=b) (by refine aab p4 ?_;exact xN)).symm.trans e) ?_ U
  rcases xN with h | h
  ·exact .inl ⟨p4.trans h,Y.trans h⟩
  ·exact .inr ⟨p4.trans h,Y.trans h⟩
 rcases Jo with h | h | h | h
 ·refine(ja ai4 (λA E Q q=>?_) (λA i j C O hi D U=>W A i j C O hi D U (.inl h)))
  refine kas_kind (s:=s) (T:= .type "int") (by exact ET h2 c7) (λv B=>?_) (by decide) (by decide) q
  refine xj (mem v B) λd as u G=>?_;refine xc (DJ (G.trans h)) λi AK=>?_;obtain rfl:=AK
  cases u with
  | int _ t=>exact .now
 ·refine(ja ai4 (λA E Q q=>?_) (λA i j C O hi D U=>W A i j C O hi D U (.inr h)))
  refine kas_kind (s:=s) (T:= .type "list") (by exact ET h2 c7) (λv B=>?_) (by decide) (by decide) q
  refine xj (mem v B) λd as u G=>?_;refine xc (DK (G.trans h)) λi AL=>?_;clear G;obtain rfl:=AL
  cases u with
  | list k1 k2 k3 k4=>exact O5 k1 k2
 ·refine(ja (aiu true) (λA E Q q=>?_) (λA i j C O hi D U=>pI A i j C O hi D U (.inl h)))
  refine xd (O6 (h:=s.heap) (ws:=xs) (T:= .type "int") λv B=>(mem v B).elim λd q=>q.elim λas q=>YS q.1 (q.2.trans h)) λfs k1 k2 k3=>?_
  exact kat_kind (s:=s) (T:= .type "int") k1 (by exact Lm h2 k2 c7) (λv B=>k3 v B _) (by decide) q
 ·refine(ja (aiu true) (λA E Q q=>?_) (λA i j C O hi D U=>pI A i j C O hi D U (.inr h)))
  refine xd (O6 (h:=s.heap) (ws:=xs) (T:= .type "list") λv B=>(mem v B).elim λd q=>q.elim λas q=>YT q.1 (q.2.trans h)) λfs k1 k2 k3=>?_
  exact kat_kind (s:=s) (T:= .type "list") k1 (by exact Lm h2 k2 c7) (λv B=>k3 v B _) (by decide) q
noncomputable def mY(n:Nat)(ask:Nat->Nat->Bool):Bool:=(aaF n).all λi=>(aaF n).all λj=>(!ask i j || !ask j i)&&(aaF n).all λk=>(ask j i||ask k j || !ask k i)
theorem YV{n:Nat}{ask:Nat->Nat->Bool}(h:mY n ask=true):Ask n ask:=by
 unfold mY at h;simp only[abV,aiF,abW,age,ahE] at h;refine⟨λi j hi u e=>?_,λi j k hi u hk B C=>?_⟩
 ·rcases(h i hi j u).1 with h | h
  ·rw[e] at h;(injection h)
  ·exact h
 ·rcases(h i hi j u).2 k hk with(h | h) | h
  ·rw[B] at h;(injection h)
  ·rw[C] at h;(injection h)
  ·exact h
theorem YW{n:Nat}{ask:Nat->Nat->Bool}(A:Ask n ask):mY n ask=true:=by
 unfold mY;simp only[abV,aiF,abW,age,ahE];intro i hi j u;refine⟨?_,λk hk=>?_⟩
 ·cases e:ask i j with
  | false=>exact .inl rfl
  | true=>exact .inr (A.asymm i j hi u e)
 ·cases B:ask j i with
  | true=>exact .inl (.inl rfl)
  | false=>
   cases C:ask k j with
   | true=>exact .inl (.inr rfl)
   | false=>exact .inr (A.trans i j k hi u hk B C)
noncomputable def iX(ds:List PyData):Bool:=tD ds&&tj dc ds&&mY ds.length (b9 dc ds.reverse)&&decide (ds.length<64)
noncomputable def cq(ds:List PyData)(vs:List V):List V:=if vs.length<2 then vs else(Dl (b9 dc ds.reverse) vs.reverse).reverse
theorem wx{ds:List PyData}{i j:Nat}(hi:i<ds.length)(u:j<ds.length):b9 dc ds.reverse i j=b9 dc ds (ds.length-1-i) (ds.length-1-j):=by
 unfold b9
 (refine aab (aeE hi) ?_;exact aab (aeE u) rfl)
theorem DN{α β:Type}{f:α->Option β}:∀{vs:List α} {ds:List β},bw f vs=aac ds->ds.length=vs.length
 | [],ds,h=>by(injection h with u;subst u);rfl
 | v::vs,ds,h=>by
  refine gc (C0 h) λb bs C h2 B=>?_;clear h;obtain rfl:=B;simp only[abL,abL,DN h2]
end
section
variable{K:aW}{F:bd}
theorem YX{h:aat}{a:aai}{ws:List aaf}:∀b o,b≠a->h.get? b=aac o->(zg h a ws).get? b=aac o:=by
 intro b o u e;unfold zg;refine aaj _ (aaj _ ?_);refine aab (ab2 _ _ _ _ u) ?_;exact e
theorem YY{h:aat}{a:aai}{ws:List aaf}{out:Array aaf}(Y:a<h.objs.size):abv a ((h.push (aa5 "tuple" ws.toArray 0)).push (aa5 "list" #[] 0)) (acx h a ws out):=by
 unfold acx;refine⟨?_,λb G=>?_⟩
 ·simp only[abh,abU,abU,abh,abU,abU]
 ·rw[ab2 _ _ _ _ G]
  by_cases h1:b=h.objs.size+1
  ·subst h1
   have C:((h.update a (aaG λu => #[])).push (aa5 "tuple" ws.toArray 0)).objs.size=h.objs.size+1:=by rw[abU,abh]
   have D:(h.push (aa5 "tuple" ws.toArray 0)).objs.size=h.objs.size+1:=abU ..
   have B:=aaA ((h.update a (aaG λu => #[])).push (aa5 "tuple" ws.toArray 0)) (o:=aa5 "list" #[] 0) rfl
   have J:=aaA (h.push (aa5 "tuple" ws.toArray 0)) (o:=aa5 "list" #[] 0) rfl
   rw[C] at B;rw[D] at J;simp only[B,J]
  ·have C:((h.update a (aaG λu => #[])).push (aa5 "tuple" ws.toArray 0)).objs.size=h.objs.size+1:=by rw[abU,abh]
   have D:(h.push (aa5 "tuple" ws.toArray 0)).objs.size=h.objs.size+1:=abU ..
   have O:=acf ((h.update a (aaG λu => #[])).push (aa5 "tuple" ws.toArray 0)) b (aa5 "list" #[] 0) (by simp only[C];exact h1)
   have U:=acf (h.push (aa5 "tuple" ws.toArray 0)) b (aa5 "list" #[] 0) (by rw[D];exact h1)
   simp only[O,U]
   by_cases h2:b=h.objs.size
   ·clear h1 O U;subst h2
    have B:=aaA (h.update a (aaG λu => #[])) (o:=aa5 "tuple" ws.toArray 0) rfl
    rw[abh] at B;rw[B,aaA _ rfl]
   ·have W:=acf (h.update a (aaG λu => #[])) b (aa5 "tuple" ws.toArray 0) (by rw[abh];exact h2)
    simp only[W,acf h b _ h2,ab2 _ _ _ _ G]
theorem YZ{h:aat}{a:aai}{xs:List aaf}{out:Array aaf}{n:Nat}(u:h.get? a=aac (aa5 "list" xs.toArray n)):∃m,IsL (acx h a xs out) a out m:=by
 unfold acx;have h1:=abJ u (λB=>(#[]:Array aaf))
 exact⟨_,abJ (aaj (aa5 "list" #[] 0) (aaj (aa5 "tuple" xs.toArray 0) h1)) (λB=>out)⟩
theorem tE{ds:List PyData}(h:iX ds=true):tD ds=true/\tj dc ds=true/\Ask ds.length (b9 dc ds.reverse)/\ds.length<64:=by
 unfold iX at h;simp only[abW,decide_eq_true_eq] at h;exact⟨h.1.1.1,h.1.1.2,YV h.1.2,h.2⟩
theorem Jp{ds:List PyData}{vs:List V}(h:iX ds=true)(C:ds.length=vs.length):(cq ds vs).length=vs.length:=by
 unfold cq
 split
 ·rfl
 ·refine kh (tE h) λu u B u=>?_;refine aab aba ?_;unfold Dl
  (refine aab (aaP ..) ?_;refine aab aeZ ?_;refine aab aba ?_)
  rw[C] at B
  exact(Iy B (by exact E1 (by assumption))).1
theorem Jq{h:aat}{ρ:List aai}{ds:List PyData}{us:List V}{xs:List aaf}(ok:iX ds=true)(u:ds.length=us.length)(h2:¬us.length<2)(hr:aj K h ρ us xs):aj K h ρ (cq ds us) (nG (b9 dc ds.reverse) xs.reverse).reverse:=by
 unfold cq;refine aab (if_neg h2) ?_;refine aj.reverse ?_;refine kh (tE ok) λB B D B=>?_;have G:xs.length=us.length:=hr.length
 have C:=W5 D (by exact Tg u h2)
 unfold Dl nG
 (refine aab aba ?_;refine aab aba ?_;refine aab G ?_)
 rw[u] at C
 exact NO hr.reverse _ (λi hi=>by refine aab aba ?_;exact C i hi)
noncomputable def qu:V->M V
 | .obj l=>λσ=>if l=0 then .stuck else match σ.st[l]? with
  | some (.lst vs)=>(match bw (toD (σ.st.set l (.lst [])) 6) vs with
   | some ds=>if iX ds=true then .ok .none {σ with st:=σ.st.set l (.lst (cq ds vs))} else .stuck
   | none=>.stuck)
  | _=>.stuck
 | _=>λ_=>.stuck
theorem Y0(fk:aV F){σ:S}{ρ:List aai}{s:aah}{o:V}{U:aaf}(rel:Rel K F σ ρ s)(ro:Rep K s.heap ρ o U):
  Run K F (aaT (.builtin "list.sort") [U] [(aae "reverse",.bool true)]) (Rep K) (qu o σ) ρ s:=by
 cases o with
 | obj l=>
  unfold qu;dsimp only
  by_cases J:l=0
  ·refine aab (if_pos J) ?_;exact Run.stuck
  refine aab (if_neg J) ?_
  cases hl:σ.st[l]? with
  | none=>exact Run.stuck
  | some c=>
   cases c with
   | lst us=>
    dsimp only
    cases hd:bw (toD (σ.st.set l (.lst [])) 6) us with
    | none=>exact Run.stuck
    | some ds=>
     dsimp only
     by_cases ok:iX ds=true
     ·refine aab (if_pos ok) ?_;refine kh (tE ok) λhs dN hA bY=>?_;have B:ds.length=us.length:=DN hd;refine wl (rel.list ro hl) λa xs n AN W hL hr hn=>?_;obtain rfl:=AN;have u:xs.length=us.length:=hr.length;have ha:a<s.heap.objs.size:=abG hL
      have D:∀(out:List aaf),aj K s.heap ρ (cq ds us) out->∃av,Rel K F {σ with st:=σ.st.set l (.lst (cq ds us))} av {s with heap:=acx s.heap a xs out.toArray}/\
        Ext F.mine ρ av s.heap (acx s.heap a xs out.toArray)/\Rep K (acx s.heap a xs out.toArray) av .none .none:=by
       intro out mZ;refine xc (YZ (xs:=xs) (out:=out.toArray) hL) λm hm=>?_
       have hk:∀b o,s.heap.get? b=aac o->((s.heap.push (aa5 "tuple" xs.toArray 0)).push (aa5 "list" #[] 0)).get? b=aac o:=λb o e=>aaj _ (aaj _ e)
       have im:Rel K F σ ρ {s with heap:=(s.heap.push (aa5 "tuple" xs.toArray 0)).push (aa5 "list" #[] 0)}:=rel.kept hk rfl rfl
       refine ye (im.upd (s':={s with heap:=acx s.heap a xs out.toArray}) W J (YY ha) (n:=m) hm (aj.br (aax _) (jo hk) mZ) (by refine aab (Jp ok B) ?_;exact hn) rfl rfl) λbh x'=>?_
       exact(je ρ bh ((Ext.kept hk).trans x') Rep.none)
      by_cases G:us.length<2
      ·have e:cq ds us=us:=by unfold cq;exact if_pos G
       exact Run.ok (ae1 afa ⟨_,hL,rfl⟩ agf (NU hL (by exact tX u G) ⟨_,rfl,D xs (by rw[e];exact hr)⟩ _ (.inr rfl)) (NR _))
      ·have Jr:aj K (zg s.heap a xs) ρ us xs:=by
        refine aj.br (aax _) (λb o e f=>YX b o ?_ e) hr
        rintro rfl
        exact absurd rfl (VP hL.isList e f)
       have m4:Rel K F {σ with st:=σ.st.set l (.lst [])} ρ {s with heap:=zg s.heap a xs}:=by
        refine ye (rel.upd (s':={s with heap:=s.heap.update a (aaG λY=>(#[]:Array aaf))}) (vs:=[]) (ws:=[]) W J (abN ..) (abJ hL (λY=>(#[]:Array aaf))) aj.nil (aaL _) rfl rfl) λr1 Y=>?_
        exact r1.kept (s':={s with heap:=zg s.heap a xs}) (λb o e=>aaj _ (aaj _ e)) rfl rfl
       obtain⟨κ,k1,k2⟩:=Jn m4.toGRel Jr (by exact E2 G) hd hs dN
       have hu:=fk.units;have DO:F.A.in1.units=F.A.units+1:=rfl
       refine Run.ok (ae1 afa ⟨_,hL,rfl⟩ agf (NQ (κ:=κ) (ask:=b9 dc ds.reverse) hL (by exact E3 u G) (by exact Ln u bY B) (λQ q=>k1 _ _ Q q) (by rw[u,<- B];exact hA) (λi j C hi O Z=>?_) ⟨_,rfl,D _ (Jq ok B G hr)⟩) (NR _))
       unfold kas_ask
       (refine aab (rR hi) ?_;refine aab (rR O) ?_)
       refine k2 _ _ _ C (by exact Ti hu DO) (by exact Lo u O) (by exact Lp u O) ?_
       rw[wx (by exact Cw hi B u) (by exact Cw O B u),show ds.length=xs.length by exact E5 B u] at Z
       exact Z
     ·refine aab (if_neg ok) ?_;exact Run.stuck
   | _=>exact Run.stuck
 | _=>exact Run.stuck
theorem O9(fk:aV F){o:Expr}{u pos O U:Pos}{W:M V}{k:Nat}(ho:aU K F o W){pl:Sem Bool}
  (he:abe (.Call (.Attribute o (aae "sort") u) [] [⟨aac (aae "reverse"),.Constant (.bool true) k U,O⟩] pos) F.env=(do
   let B <- abe o F.env
   standAt u.atName
   let(f,first) <- holding [B] (getMethod B (aae "sort") pl)
   ae6 pos f first (ad9 pos (abu [] F.env)) (backToKw pos (keywordEach [⟨aac (aae "reverse"),.Constant (.bool true) k U,O⟩] F.env))):=by rfl) :
  aU K F (.Call (.Attribute o (aae "sort") u) [] [⟨aac (aae "reverse"),.Constant (.bool true) k U,O⟩] pos) (do let B <- W;cb B;qu B):=by
 intro σ ρ s rel;refine Run.of_wp λC=>?_;refine aab he ?_;refine aad ?_;refine Run.bq (ho σ ρ s rel) C λB J ai af wo e1 Y Z aL ro=>?_;rw[Y] at C ⊢
 have cf:∃l us,B = .obj l/\J.st[l]?=aac (.lst us):=by
  cases B with
  | obj l=>
   cases D:J.st[l]? with
   | none=>exact absurd (by refine aab (M.ap ..) ?_;simp only[cb,D]) C
   | some c=>
    cases c with
    | lst us=>exact(gf l us rfl D)
    | _=>exact absurd (by refine aab (M.ap ..) ?_;simp only[cb,D]) C
  | _=>exact absurd (by refine aab (M.ap ..) ?_;dsimp only[cb]) C
 refine xj cf λl us AO D=>?_
 try clear cf
 clear e1 Y;obtain rfl:=AO;refine wl (Z.list ro D) λa ws n AP bk hL hr G=>?_;obtain rfl:=AP;have e3:(cb (.obj l) >>= λG=>qu (.obj l)) J=qu (.obj l) J:=M.bZ (sW D);rw[e3] at C ⊢;refine aad (abP (aad (aaN ?_)));refine ahw afa PySem.F.type_list_sort hL.isList ⟨_,hL,rfl⟩ ?_;refine callWith_builtin_kwB rfl rfl ?_;unfold ahO;refine aad (aak (aad (aak ?_)));refine aaN ?_
 rw[if_pos (by rfl)]
 refine aad (kws_cons (aeY (kws_nil ?_)));refine aad (aak (aak ?_));exact aap ((Y0 fk Z ro).wp C) (λG G q=>q.up aL) λG G q=>q.up aL
end
section
variable{K:aW}{F:bd}
theorem Rel.adopt{σ:S}{ρ:List aai}{s:aah}{a:aai}{c:bn}(r:Rel K F σ ρ s)(O:a∉ρ)(W:a∉F.mine)(Y:K.base.get? a=aam)(hL:qm K s.heap ρ c a):Rel K F {σ with st:=σ.st++[c]} (ρ++[a]) s:=by
 have G:ρ <+: ρ++[a]:=adz _ _;refine {gens:=r.gens,os:=r.os,base:=r.base,len:=?_,cell:=?_,nodup:=?_,above:=?_,own:=r.own,vars:=?_,loc:=r.loc,bE:=r.bE,ao:=r.ao,aE:=?_,aJ:=r.aJ,di:=r.di}
 ·simp[r.len]
 ·intro l b Z h1 h2;dsimp only at h2
  by_cases D:l<σ.st.length
  ·rw[aas (by refine aab r.len ?_;exact D)] at h1
   rw[aas D] at h2;exact(r.cell l b Z h1 h2).mono G (λb o e u=>e) (λu e u=>e) λu u n=>n
  ·have Ga:l=σ.st.length:=by
    rcases aaY.mp h2 with⟨h3,_⟩
    simp at h3;exact tP h3 D
   clear D;subst Ga
   rw[<- r.len,aaq] at h1;(injection h1 with J;subst J)
   rw[aaq] at h2;(injection h2 with J;subst J)
   exact hL.mono G (λb o e u=>e) (λu e u=>e) λu u n=>n
 ·refine ahu.mpr ⟨r.nodup,by simp,?_⟩
  intro b B c hc;simp only[aan] at hc;subst hc
  rintro rfl
  exact O B
 ·intro l b C cA
  by_cases U:l<ρ.length
  ·rw[aas U] at C;exact r.above l b C cA
  ·have B:b=a:=by
    rw[afq (by exact qE U)] at C
    have:=aaM C
    simpa using this
   clear O hL C;subst B;exact Y
 ·intro y v e;refine ya (r.vars y v e) λw h1 h2=>?_;exact(ja w h1 (Rep.br G (λu u e u=>e) h2))
 ·intro b B hc
  rcases abd.mp hc with hc | hc
  ·exact r.aE b B hc
  ·simp only[aan] at hc;subst hc;exact W B
noncomputable def y7(kM:V->M V):List V->M (List V)
 | []=>pure []
 | v::vs=>λσ=>match kM v σ with
  | .ok u B=>(match y7 kM vs B with
   | .ok us C=>.ok (u::us) C
   | _=>.stuck)
  | _=>.stuck
section
variable{prog:aa0}{w:abC}{A:aaE}{E:aaf->aah->Prop}{s:aah}
theorem Y1{G:bd}{kM:V->M V}{f:V}{wf:aaf}{B L:aai}{au:List aai}{h₀:aat}{e1:Nat}{us:List V}{xs:List aaf}
  (c8:∀σ ρ s v w,Rel K G σ ρ s->Rep K s.heap ρ f wf->Rep K s.heap ρ v w->Run K G (aaT wf [w]) (Rep K) (kM v σ) ρ s) (n2:B∉G.mine) (n3:K.base.get? B=aam) (m2:L∉G.mine) (DQ:B≠L)
  {body:aaf->PUnit->Sem (ForInStep PUnit)} {Q:PUnit->aah->Prop} {E:aaf->aah->Prop}
  (hb:∀x (s:aah) (R':ForInStep PUnit->aah->Prop),aao (aar K.prog K.w) G.A (aaT wf [x]) (λk s'=>aao (aar K.prog K.w) G.A (acG (.ref B) (·.push k)) (λzZ dF=>R' (.yield ⟨⟩) dF) E s') (λzZ zZ=>False) s->aao (aar K.prog K.w) G.A (body x ⟨⟩) R' E s) :
  ∀(vs:List V) (ws:List aaf) (σ:S) (ρ:List aai) (s:aah) (D:Array aaf) (c:Nat) (W ks:List V) (O:S),y7 kM vs σ = .ok ks O->Rel K G σ ρ s->bv [B] G.mine au ρ h₀ s.heap->Rep K s.heap ρ f wf->aj K s.heap ρ vs ws->
   eS s.heap B D c->aj K s.heap ρ W D.toList->B∉ρ->eS s.heap L #[] e1->L∉ρ->D.size+vs.length<=100->aj K s.heap ρ us xs->
   (∀av s' pJ c',Rel K G O av s'->bv [B] G.mine au av h₀ s'.heap->eS s'.heap B pJ c'->aj K s'.heap av (W++ks) pJ.toList->B∉av->eS s'.heap L #[] e1->L∉av->aj K s'.heap av us xs->Q ⟨⟩ s')->
   aao (aar K.prog K.w) G.A (forIn ws PUnit.unit body) Q E s:=by
 intro vs
 induction vs with
 | nil=>
  intro ws σ ρ s D c W ks O e rel x rf rv hB rk n1 hL m1 Y ru hQ;obtain rfl:=aj.a7.mp rv
  (injection e with aK fP;subst aK fP)
  refine aab ae9 ?_
  exact aak (hQ ρ s D c rel x hB (by refine aab (agg ..) ?_;exact rk) n1 hL m1 ru)
 | cons v vs ih=>
  intro ws σ ρ s D c W ks O e rel x rf rv hB rk n1 hL m1 Y ru hQ;refine gc (aj.aG.mp rv) λw ws AQ vG Ij=>?_;obtain rfl:=AQ
  have e:(match kM v σ with
   | .ok u il=>(match y7 kM vs il with
    | .ok us ln=>.ok (u::us) ln
    | _=>.stuck)
   | _=>.stuck)=Res.ok ks O:=e
  cases si:kM v σ with
  | stuck=>rw[si] at e;(injection e)
  | exc _ _=>rw[si] at e;(injection e)
  | ok u il=>
   rw[si] at e;dsimp only at e
   cases e2:y7 kM vs il with
   | stuck=>rw[e2] at e;(injection e)
   | exc _ _=>rw[e2] at e;(injection e)
   | ok Y2 ln=>
    rw[e2] at e
    cases e
    refine aab (adx ..) ?_;have hr:=c8 σ ρ s v w rel rf vG;rw[si] at hr;refine aad (hb _ _ _ (aap hr (λk C h=>?_) λzZ zZ q=>q.elim));refine xd h λZ im J Y3=>?_
    try clear h
    refine ye (J.cj hB n1 n2) λU oZ=>?_;refine ye (J.cj hL m1 m2) λtF Y4=>?_
    have hY:D.size+1<=100:=by simp only[abL] at Y;exact Tj Y
    have aQ:∀b o,b≠B->C.heap.get? b=aac o->(C.heap.update B (aaG (·.push k))).get? b=aac o:=λb o nb g=>(aa3 _ _ (aaR nb)).trans g
    refine abY U rfl ?_ (by refine aab aa1 ?_;exact Tk hY) (aaB (abQ (aij ..)) (by refine aab aa1 ?_;exact Tl hY))
    have rp:∀{v w},Rep K C.heap Z v w->Rep K (C.heap.update B (aaG (·.push k))) Z v w:=λr=>zT U aQ r
    have Js:∀{vs ws},aj K C.heap Z vs ws->aj K (C.heap.update B (aaG (·.push k))) Z vs ws:=by
     intro vs ws r;refine aj.br (aax _) (λb o e f=>?_) r;refine aQ b o (λq=>?_) e;have e':C.heap.get? B=_:=U
     rw[q,e'] at e;(injection e with aK;subst aK)
     rcases f with⟨f,_⟩ | ⟨f | f,_⟩ | ⟨f,_⟩
     ·exact absurd (show aaK "list" = aaK "tuple" from f) (by decide)
     ·exact absurd (show aaK "list" = aaK "range" from f) (by decide)
     ·exact absurd (show aaK "list" = aaK "code" from f) (by decide)
     ·exact absurd (show aaK "list" = aaK "dict" from f) (by decide)
    show aao _ _ (forIn ws PUnit.unit body) _ _ _
    refine ih ws il Z {C with heap:=C.heap.update B (aaG (·.push k))} (D.push k) _ (W++[u]) Y2 O e2 (Rel.dx im U oZ n2 n3 aQ rfl rfl) ?_ (rp (rf.mono J)) (Js (Ij.mono J)) (abJ U (·.push k)) ?_ oZ (aQ L _ (aaR DQ) tF) Y4 ?_ (Js (ru.mono J)) ?_
    ·exact(x.trans (bv.of J)).trans (bv.step (λb hb=>by refine aab (aan.mp hb) ?_;exact⟨_,abJ U (·.push k)⟩) λb o nb g=>aQ b o (λq=>nb (by refine aab q ?_;simp)) g)
    ·refine aab Array.toList_push ?_;exact aj.append (Js (rk.mono J)) (aj.cons (rp Y3) aj.nil)
    ·refine aab (aij ..) ?_;simp only[abL] at Y;exact Tm Y
    ·intro av s' pJ c' p1 p2 p3 p4 p5 p6 p7 p8
     exact hQ av s' pJ c' p1 p2 p3 (by rw[afw] at p4;exact p4) p5 p6 p7 p8
end
theorem Y5{α:Type}(a:Array α)(d:α){i:Nat}(h:i<a.size):a.getD i d=a[i]:=by simp[aib,h]
theorem Y6{α:Type}(a:Array α)(d:α){i:Nat}(h:¬i<a.size):a.getD i d=d:=by simp[aib,h]
theorem Jt{ks vs:List aaf}(h:ks.length=vs.length)(i:Nat):aex (ks.toArray.zip vs.toArray).reverse i=(ks.reverse.getD i aaI,vs.reverse.getD i aaI):=by
 have hz:(ks.toArray.zip vs.toArray).reverse.size=vs.length:=by simp[h]
 unfold aex
 by_cases hi:i<vs.length
 ·have e:(ks.toArray.zip vs.toArray).reverse.getD i (aaI,aaI)=(ks.toArray.zip vs.toArray).reverse[i]'(by refine aab hz ?_;exact hi):=Y5 _ _ (by refine aab hz ?_;exact hi)
  rw[e,aaO,aaO,aav (by rw[aba];exact hS hi h),aav (by rw[aba];exact hi)]
  simp[agY,h]
 ·have e:(ks.toArray.zip vs.toArray).reverse.getD i (aaI,aaI)=(aaI,aaI):=Y6 _ _ (by refine aab hz ?_;exact hi)
  rw[e,aaO,aaO,abR (by rw[aba];exact Tn h hi),abR (by rw[aba];exact qE hi)]
  rfl
end
section
variable{K:aW}{F:bd}
section
variable{prog:aa0}{w:abC}{A:aaE}{E:aaf->aah->Prop}{s:aah}
theorem Pa{l:aai}{vs:List aaf}{B:List (Str×aaf)}{Q:aaf->aah->Prop}(J:s.heap.IsList l vs.toArray)(D:vs.length<=100)(O:aeJ "sorted" ⟨[.ref l],B⟩)(U:∀x,aeJ "list.sort" ⟨[.ref x],B⟩)
  (h:aao (aar prog w) A.in1.in1 (abg.«list.sort» ⟨[.ref (s.heap.objs.size+1)],B⟩) (λu s' => ∃v,u = .done (.ret v)/\Q (.ref (s.heap.objs.size+1)) s') E {s with heap:=wh s.heap vs}) :
  aao (aar prog w) A (call (.builtin "sorted") [.ref l] B) Q E s:=by
 refine call_function_entry_kw kind_sorted plain_sorted entry_sorted O ?_;unfold abg.«sorted»
 refine aad (m:=checkCount "sorted" 1 1 _) (aak ?_)
 refine aad (collect_list J ?_ (by refine aab aa1 ?_;exact Cx D))
 refine aad (ac0 ?_ (by refine aab aa1 ?_;exact Cx D))
 have G:((s.heap.push (aa5 "list" #[] 0)).update s.heap.objs.size (aaG (· ++ vs.toArray))).objs.size=s.heap.objs.size+1:=by
  (refine aab (abh ..) ?_;exact abU ..)
 have W:(wh s.heap vs).get? (s.heap.objs.size+1)=aac (aa5 "list" vs.toArray 0):=by
  unfold wh;rw[<- G];exact aaA _ rfl
 show aao _ _ _ _ _ {s with heap:=wh s.heap vs}
 refine aab G ?_;refine aad (aaN (ae1 afa ⟨_,W,rfl⟩ agf (aap h (λu s' C=>?_) λY Y q=>q) (U _)));obtain⟨v,rfl,C⟩:=C;exact(ja v rfl (aak (ja _ rfl C)))
theorem Y7(a:aai):abg.«list.sort» ⟨[.ref a],[(aae "key",.none),(aae "reverse",.bool true)]⟩=(do
  let items <- acn (.ref a)
  acG (.ref a) λD => #[]
  let B <- ahQ a
  let C <- ae4 items.toList
  let G <- newList []
  holding [C,G] do
   rule "list.sort.reverse"
   let kind <- if items.size<2 then pure ai3 else ahR items
   let((),s) <- (if items.size<2 then pure () else sortRuns').run (adt kind (items.zip items).reverse #[] 7 aam)
   let sorted:=(afZ s).map (·.2)
   let u:=(<- ahQ a) != B
   acG (.ref a) λD=>sorted.reverse
   if let aac e:=agL s then rule "list.sort.comparison-raised";throw e
   if u then rule "list.sort.modified";raiseError "ValueError" "list modified during sort"
   ret .none):=rfl
theorem Y8(a:aai):abg.«list.sort» ⟨[.ref a],[(aae "key",.none),(aae "reverse",.bool true)]⟩=abg.«list.sort» ⟨[.ref a],[(aae "reverse",.bool true)]⟩ :=
 (Y7 a).trans (ID a).symm
end
noncomputable def sj(wk:aaf):List (Str×aaf):=[(aae "key",wk),(aae "reverse",.bool true)]
noncomputable def AS:V->Bool
 | .none=>true
 | .obj _=>true
 | .int _=>true
 | .str _=>true
 | _=>false
noncomputable def DS(st:jb)(k:V):List V->Option String
 | []=>aam
 | _::_=>xi st k
noncomputable def qx(LM:Nat->List V->bj):V->V->M V
 | .obj l,k=>λσ=>if AS k=false then .stuck else match σ.st[l]? with
  | some (.lst vs)=>(match DS σ.st k vs with
   | some T=>if vs.length<=100 then .exc (zz T) σ else .stuck
   | none=>(match y7 (w4 LM k) vs σ with
    | .ok ks u=>(match bw (toD u.st 6) ks with
     | some ds=>if iX ds=true then .ok (.obj u.st.length) {u with st:=u.st++[.lst (cq ds vs)]} else .stuck
     | none=>.stuck)
    | _=>.stuck))
  | _=>.stuck
 | _,_=>stuck
theorem Pb(LM:Nat->List V->bj):∀(vs:List V) (σ:S),y7 (w4 LM .none) vs σ = .ok vs σ
 | [],σ=>rfl
 | v::vs,σ=>by
  show(match (pure v:M V) σ with
   | .ok u C=>(match y7 (w4 LM .none) vs C with
    | .ok us B=>Res.ok (u::us) B
    | _=>.stuck)
   | _=>.stuck)=_
  show(match y7 (w4 LM .none) vs σ with
    | .ok us B=>Res.ok (v::us) B
    | _=>.stuck)=_
  exact aab (Pb LM vs σ) rfl
theorem Pc{kM:V->M V}:∀{vs:List V} {ks:List V} {σ C:S},y7 kM vs σ = .ok ks C->ks.length=vs.length
 | [],ks,σ,C,h=>by(injection h with G J;subst G J);rfl
 | v::vs,ks,σ,C,h=>by
  unfold y7 at h
  cases D:kM v σ with
  | stuck=>rw[D] at h;(injection h)
  | exc _ _=>rw[D] at h;(injection h)
  | ok u O=>
   rw[D] at h;dsimp only at h
   cases B:y7 kM vs O with
   | stuck=>rw[B] at h;(injection h)
   | exc _ _=>rw[B] at h;(injection h)
   | ok us U=>
    rw[B] at h;cases h;simp only[abL,abL,Pc B]
theorem Y9{G:bd}{L B:aai}{e1 c:Nat}{us:List V}{xs:List aaf}{kvs:List V}{ks:List aaf}{ds:List PyData}{σ:S}{ρ:List aai}{s:aah}{P:af4->aah->Prop}{E:aaf->aah->Prop}
  (rel:Rel K G σ ρ s) (hB:eS s.heap B ks.toArray c) (n1:B∉ρ) (n2:B∉G.mine) (n3:K.base.get? B=aam) (hL:eS s.heap L #[] e1) (m1:L∉ρ) (m2:L∉G.mine) (m3:K.base.get? L=aam) (DQ:B≠L)
  (rk:aj K s.heap ρ kvs ks) (ru:aj K s.heap ρ us xs) (u:kvs.length=us.length) (hd:bw (toD σ.st 6) kvs=aac ds) (ok:iX ds=true) (hu:G.A.units+7<acw)
  (h:∀out s' c',Rel K G σ ρ s'->(∀b o,b≠B->b≠L->s.heap.get? b=aac o->s'.heap.get? b=aac o)->(∃o,s'.heap.get? B=aac o)->eS s'.heap L (ack out) c'->aj K s'.heap ρ (cq ds us) out->P (.done (.ret .none)) s') :
  aao (aar K.prog K.w) G.A (ksk_end L true xs.toArray e1 (.ref B) ks.toArray) P E s:=by
 refine kh (tE ok) λhs dN hA bY=>?_;have Y:ds.length=kvs.length:=DN hd;have J:xs.length=us.length:=ru.length;have U:ks.length=kvs.length:=rk.length
 have Z:∀(st:SortSt) (D:List aaf),(afZ st).map (·.2)=D.toArray->agL st=aam->D.length=us.length->aj K s.heap ρ (cq ds us) D.reverse->aao (aar K.prog K.w) G.A (ksk_tail L true e1 (.ref B) st) P E s:=by
  intro st D wL hf Za mZ;unfold ksk_tail
  try dsimp only
  have gZ:∀b o,b≠B->s.heap.get? b=aac o->(s.heap.update B (aaG λO=>(#[]:Array aaf))).get? b=aac o:=λb o nb g=>(aa3 _ _ (aaR nb)).trans g
  have r1:Rel K G σ ρ {s with heap:=s.heap.update B (aaG λO=>(#[]:Array aaf))}:=Rel.dx rel hB n1 n2 n3 gZ rfl rfl
  have tF:=gZ L _ (aaR DQ) hL
  refine aad (abY hB rfl ?_ (by(refine aab aaH ?_;refine aab aa1 ?_);exact Tp U bY Y) (aaL _))
  refine aad (acM ?_);refine aad (adD tF rfl ?_)
  have ho:(if true=true then((afZ st).map (·.2)).reverse else(afZ st).map (·.2))=D.reverse.toArray:=by
   (refine aab (if_pos rfl) ?_;refine aab wL ?_)
   simp
  refine aab ho ?_
  refine aad (abY tF rfl ?_ (aaL _) (by(refine aab aaH ?_;refine aab aba ?_;refine aab aa1 ?_);exact Tq Za bY Y u))
  refine aab hf ?_;simp only[bne_self_eq_false,aaW,if_false];have jB:∀b o,b≠L->(s.heap.update B (aaG λO=>(#[]:Array aaf))).get? b=aac o->((s.heap.update B (aaG λO=>(#[]:Array aaf))).update L (aaG λO=>D.reverse.toArray)).get? b=aac o:=λb o nb g=>(aa3 _ _ (aaR nb)).trans g
  have r2:Rel K G σ ρ {s with heap:=(s.heap.update B (aaG λO=>(#[]:Array aaf))).update L (aaG λO=>D.reverse.toArray)}:=Rel.dx r1 tF m1 m2 m3 jB rfl rfl
  refine aak (h D.reverse _ _ r2 (λb o b1 b2 e=>jB b o b2 (gZ b o b1 e)) ⟨_,jB B _ DQ (abJ hB λO => #[])⟩ (abJ tF λO=>D.reverse.toArray) ?_);refine aj.br (aax _) (λb o e f=>?_) mZ
  have bad:∀{xs:Array aaf} {n:Nat},¬bQ {cls:= .type "list",dict:=aam,data:= .seq xs n,slots:= #[]}:=by
   intro xs n f
   rcases f with⟨f,_⟩ | ⟨f | f,_⟩ | ⟨f,_⟩
   ·exact absurd (show aaK "list" = aaK "tuple" from f) (by decide)
   ·exact absurd (show aaK "list" = aaK "range" from f) (by decide)
   ·exact absurd (show aaK "list" = aaK "code" from f) (by decide)
   ·exact absurd (show aaK "list" = aaK "dict" from f) (by decide)
  refine jB b o (λq=>?_) (gZ b o (λq=>?_) e)
  ·have e':s.heap.get? L=_:=hL
   rw[q,e'] at e;(injection e with aK;subst aK);exact bad f
  ·have e':s.heap.get? B=_:=hB
   rw[q,e'] at e;(injection e with aK;subst aK);exact bad f
 unfold ksk_end
 try dsimp only
 refine aab (if_pos rfl) ?_;refine aad (abf ?_)
 by_cases W:us.length<2
 ·have m5:xs.toArray.size<2:=by refine aab aaH ?_;exact tX J W
  (refine aab (if_pos m5) ?_;refine aab (if_pos m5) ?_)
  refine aad (aak ?_);refine aab (StateT.run_pure ..) ?_;refine aad (aak ?_)
  try dsimp only
  refine Z (adt ai3 (if true=true then(ks.toArray.zip xs.toArray).reverse else ks.toArray.zip xs.toArray) #[] 7 aam) xs ?_ rfl J ?_
  ·show((if true=true then(ks.toArray.zip xs.toArray).reverse else ks.toArray.zip xs.toArray)).map (·.2)=_
   refine aab (if_pos rfl) ?_
   have e:xs.reverse=xs:=Dm (by exact tX J W)
   apply adl.mp
   rw[aez,adU,afL,afK,ah1 (by simp;exact Tr J U u)]
   exact e
  ·have e:cq ds us=us:=by unfold cq;exact if_pos W
   rw[e,Dm (by exact tX J W)];exact ru
 ·have m5:¬xs.toArray.size<2:=by refine aab aaH ?_;exact Ts J W
  (refine aab (if_neg m5) ?_;refine aab (if_neg m5) ?_)
  obtain⟨κ,k1,k2⟩:=Jn rel.toGRel rk (by exact E3 u W) hd hs dN
  refine aad (k1 _ _ _ ?_)
  have Zb:(ks.toArray.zip xs.toArray).reverse.size=us.length:=by simp;exact Tt U J u
  have IF:adt κ (if true=true then(ks.toArray.zip xs.toArray).reverse else ks.toArray.zip xs.toArray) #[] 7 aam=kas_st κ (ks.toArray.zip xs.toArray).reverse (ack (aaF us.length)):=by
   have e:=kas_range (ks.toArray.zip xs.toArray).reverse;rw[Zb] at e;show _=adt κ ((ack (aaF us.length)).map (aex (ks.toArray.zip xs.toArray).reverse)) #[] 7 aam
   (refine aab e ?_;exact aab (if_pos rfl) rfl)
  have run:=kas_runs (prog:=K.prog) (w:=K.w) (A:=G.A) (κ:=κ) (it:=(ks.toArray.zip xs.toArray).reverse) (E:=E) (n:=us.length) (s:=s) (Q:=λO am s'=>s'=s/\∃p:Array Nat,p=bc (b9 dc ds.reverse) (acI us.length)/\p.size=us.length/\afZ am=p.map (aex (ks.toArray.zip xs.toArray).reverse)/\agL am=aam)
   (G:=λp s'=>s'=s/\p=bc (b9 dc ds.reverse) (acI us.length)) (by exact E2 W) (by exact Tu bY Y u) (λp' am s' a1 a2 a3 a4=>⟨a4.1,p',a4.2,a1,a2,a3⟩)
   (Iz (n:=us.length) (ask:=b9 dc ds.reverse) (λi j C hi hj hC=>by
    unfold kas_cmp
    rw[Jt (by exact E6 U J u),Jt (by exact E6 U J u)]
    dsimp only
    rw[rR (by exact Cy hi U u),rR (by exact Cy hj U u)]
    refine k2 _ _ _ C hu (by exact Tv U u hj) (by exact Tw U hj u) ?_
    rw[wx (by exact Cy hi Y u) (by exact Cy hj Y u),show ds.length=ks.length by exact E5 Y U] at hC
    exact hC) _ (by rw[Y,u] at hA;exact NM hA (by exact E1 W)) ⟨rfl,rfl⟩)
  rw[<- IF] at run;refine aad (aap run ?_ λO O e=>e)
  rintro⟨⟨⟩,am⟩ s' ⟨rfl,p,Pd,hp,wL,hf⟩
  dsimp only;refine Z am (nG (b9 dc ds.reverse) xs.reverse) ?_ hf ?_ ?_
  ·apply adl.mp
   (refine aab wL ?_;refine aab aiS ?_;refine aab aez ?_)
   show _=nG _ _;unfold nG
   (refine aab aba ?_;refine aab J ?_;refine aab Pd ?_)
   exact ado λi O=>by show(aex (ks.toArray.zip xs.toArray).reverse i).2=_;rw[Jt (by exact E6 U J u)]
  ·unfold nG
   (refine aab (aaP ..) ?_;refine aab aeZ ?_;refine aab aba ?_;refine aab J ?_;rewrite[<- Pd];exact hp)
  ·exact Jq ok (by exact Lq Y u) W ru
end
section
variable{K:aW}{F:bd}
theorem Zc(u:aV F){LM:Nat->List V->bj}{lvl:Nat}(B:ll K lvl LM)(hr:bI F.A lvl){k:V}(hk:k≠.none){wf:aaf}(σ:S)(ρ:List aai)(s:aah)(v:V)(w:aaf)(rel:Rel K F σ ρ s)(C:Rep K s.heap ρ k wf)(D:Rep K s.heap ρ v w):
  Run K F (aaT wf [w]) (Rep K) (w4 LM k v σ) ρ s:=by
 have e:w4 LM k v σ=cU LM k [v] σ:=by cases k<;>first | rfl | exact absurd rfl hk
 refine aab e ?_;exact yI u B hr rel C (aj.cons D aj.nil)
theorem Pe{h:aat}{ρ:List aai}{k:V}{wk:aaf}(u:Rep K h ρ k wk)(hk:k≠.none)(B:¬AS k=false)(a:aai):abg.«list.sort» ⟨[.ref a],sj wk⟩=ahS a wk true:=by
 cases k with
 | none=>exact absurd rfl hk
 | obj lk=>obtain⟨q,_,rfl⟩:=Rep.aN.mp u;exact ksk_t2 q a true
 | int i=>obtain⟨t,rfl⟩:=Rep.aH.mp u;rfl
 | str x=>obtain⟨t,rfl⟩:=Rep.dj.mp u;rfl
 | _=>exact absurd rfl B
theorem Pf(fk:aV F){σ:S}{ρ:List aai}{s:aah}{wk:aaf}{xs:List aaf}{a:aai}{Q:aaf->aah->Prop}{E:aaf->aah->Prop}(hL:s.heap.IsList a xs.toArray)(B:xs.length<=100)(W:∀a,abg.«list.sort» ⟨[.ref a],sj wk⟩=ahS a wk true)
  (h:∀u h',h'=zg (wh s.heap xs) (s.heap.objs.size+1) xs->eS h' (s.heap.objs.size+3) #[] 0->eS h' (s.heap.objs.size+1) #[] u->
   aao (aar K.prog K.w) F.A.in1.in1 (ahT (s.heap.objs.size+1) wk true xs.toArray u (.ref (s.heap.objs.size+3))) (λC s' => ∃v,C = .done (.ret v)/\Q (.ref (s.heap.objs.size+1)) s') E {s with heap:=h'}) :
  aao (aar K.prog K.w) F.A (aaT (.builtin "sorted") [.ref a] (sj wk)) Q E s:=by
 have J:((s.heap.push (aa5 "list" #[] 0)).update s.heap.objs.size (aaG (· ++ xs.toArray))).objs.size=s.heap.objs.size+1:=by
  (refine aab (abh ..) ?_;exact abU ..)
 have D:(wh s.heap xs).get? (s.heap.objs.size+1)=aac (aa5 "list" xs.toArray 0):=by
  unfold wh;rw[<- J];exact aaA _ rfl
 refine Pa hL B (ksk_s2 _ _ _) (λx=>ksk_l2 _ _ _) ?_;refine aab (W ..) ?_;unfold ahS
 obtain⟨u,O⟩ : ∃u,((wh s.heap xs).update (s.heap.objs.size+1) (aaG λG=>(#[]:Array aaf))).get? (s.heap.objs.size+1)=aac (aa5 "list" #[] u):=⟨_,abJ D λG => #[]⟩
 refine aad (aa2 D rfl ?_)
 refine aad (abY D rfl ?_ (by(refine aab aaH ?_;refine aab aa1 ?_);exact Cx B) (aaL _))
 refine aad (adD O rfl ?_)
 refine aad (add ?_ (by show xs.length<=_;refine aab aa1 ?_;exact Cx B))
 refine aad (ac0 ?_ (aaL _));refine aaN ?_
 have Y:(wh s.heap xs).objs.size=s.heap.objs.size+2:=by unfold wh;(refine aab (abU ..) ?_;exact aab J rfl)
 have U:(((wh s.heap xs).update (s.heap.objs.size+1) (aaG λG=>(#[]:Array aaf))).push (aa5 "tuple" xs.toArray 0)).objs.size=s.heap.objs.size+3:=by(refine aab (abU ..) ?_;refine aab (abh ..) ?_;exact aab Y rfl)
 have Z:eS (zg (wh s.heap xs) (s.heap.objs.size+1) xs) (s.heap.objs.size+3) #[] 0:=by
  unfold zg eS;rw[<- U];exact aaA _ rfl
 have sn:eS (zg (wh s.heap xs) (s.heap.objs.size+1) xs) (s.heap.objs.size+1) #[] u:=by
  unfold zg eS;exact aaj _ (aaj _ O)
 show aao _ F.A.in1.in1 (ahT (s.heap.objs.size+1) wk true xs.toArray u (.ref (((wh s.heap xs).update (s.heap.objs.size+1) (aaG λG=>(#[]:Array aaf))).push (aa5 "tuple" xs.toArray 0)).objs.size)) _ _ {s with heap:=zg (wh s.heap xs) (s.heap.objs.size+1) xs}
 rw[U];exact h u _ rfl Z sn
theorem Zd(fk:aV F)(hh:F.A.handled=aam){σ:S}{ρ:List aai}{s:aah}{k:V}{wk:aaf}{T:String}{x:aaf}{r:List aaf}{a:aai}(rel:Rel K F σ ρ s)(rk:Rep K s.heap ρ k wk)(hL:s.heap.IsList a (x::r).toArray)(Z:(x::r).length<=100)
  (Ju:∀a,abg.«list.sort» ⟨[.ref a],sj wk⟩=ahS a wk true) (kJ:js σ.st k=aac T) (hT:T = "int" \/ T = "str" \/ T = "list"):Run K F (aaT (.builtin "sorted") [.ref a] (sj wk)) (Rep K) (.exc (zz T) σ) ρ s:=by
 show aao _ _ _ _ _ _;refine Pf fk (σ:=σ) (ρ:=ρ) hL Z Ju λe1 h' eh hB MC=>?_
 have J:∀b o,s.heap.get? b=aac o->h'.get? b=aac o:=λb o e=>by rw[eh];exact wJ b o e
 clear eh;have C:∀k,s.heap.get? (s.heap.objs.size+k)=aam:=λk=>aaQ (ab3 _ _)
 have jV:∀k,K.base.get? (s.heap.objs.size+k)=aam:=λk=>by
  cases e:K.base.get? (s.heap.objs.size+k) with
  | none=>rfl
  | some o=>have:=rel.base _ _ e;rw[C k] at this;(injection this)
 have iZ:∀k,s.heap.objs.size+k∉F.mine:=λk h=>by
  refine qn (rel.ao _ h) λu o e=>?_;rw[C k] at e;(injection e)
 have m6:∀k,s.heap.objs.size+k∉ρ:=λk h=>by
  refine ya (rel.toGRel.alive h) λo e u=>?_;rw[C k] at e;(injection e)
 have O:Rel K F σ ρ {s with heap:=h'}:=rel.kept J rfl rfl
 have x1:Ext F.mine ρ ρ s.heap h':=Ext.kept J;unfold ahT;refine aad (abf ?_)
 first
  | rw[ahm]
  | (rw[<- ahn];simp only[ag8])
 refine aab (adx ..) ?_
 refine aad (aad (aad (ac3 (I7 (show F.A.in1.in1.handled=aam from hh) (pC O.toGRel (rk.mono x1) kJ) hT ?_))))
 refine xd (nE (F:=F) (cls:= "TypeError") (msg:=aae (jl (aaX T))) (tk:=s.toks) (n:=s.toks+1) O (by decide)) λav u u xr=>?_
 have fJ:Rel K F σ ρ {s with heap:=xh h' "TypeError" (aae (jl (aaX T))) s.toks,toks:=s.toks+1}:=O.kept qo rfl rfl
 have x2:∀b o,s.heap.get? b=aac o->(xh h' "TypeError" (aae (jl (aaX T))) s.toks).get? b=aac o:=λb o e=>qo _ _ (J b o e)
 have D:eS (xh h' "TypeError" (aae (jl (aaX T))) s.toks) (s.heap.objs.size+3) #[] 0:=qo _ _ hB
 have Ph:eS (xh h' "TypeError" (aae (jl (aaX T))) s.toks) (s.heap.objs.size+1) #[] e1:=qo _ _ MC
 generalize xh h' "TypeError" (aae (jl (aaX T))) s.toks=B at fJ x2 D Ph xr ⊢
 have G:∀b o,b≠s.heap.objs.size+3->B.get? b=aac o->(B.update (s.heap.objs.size+3) (aaG λu=>(#[]:Array aaf))).get? b=aac o:=λb o U g=>(aa3 _ _ (aaR U)).trans g
 have Jv:Rel K F σ ρ {s with heap:=B.update (s.heap.objs.size+3) (aaG λu=>(#[]:Array aaf)),toks:=s.toks+1}:=fJ.dx D (m6 3) (iZ 3) (jV 3) G rfl rfl
 have W:=G _ _ (λh=>absurd (ae2 h) (by decide)) Ph
 have Y:∀b o,b≠s.heap.objs.size+1->(B.update (s.heap.objs.size+3) (aaG λu=>(#[]:Array aaf))).get? b=aac o->((B.update (s.heap.objs.size+3) (aaG λu=>(#[]:Array aaf))).update (s.heap.objs.size+1) (aaG λu=>(x::r).toArray)).get? b=aac o:=λb o U g=>(aa3 _ _ (aaR U)).trans g;refine aad (abf (aad (aa2 D rfl ?_)));refine aad (abY D rfl ?_ (aaL _) (aaL _));refine aad (acM ?_)
 refine aad (abY W rfl ?_ (aaL _) (by(refine aab aaH ?_;refine aab aa1 ?_);exact UJ Z))
 have Jy:=Jv.dx (s':={s with heap:=(B.update (s.heap.objs.size+3) (aaG λu=>(#[]:Array aaf))).update (s.heap.objs.size+1) (aaG λu=>(x::r).toArray),toks:=s.toks+1}) W (m6 1) (iZ 1) (jV 1) Y rfl rfl
 have Ze:=yo.dx (s':={s with heap:=B.update (s.heap.objs.size+3) (aaG λu=>(#[]:Array aaf)),toks:=s.toks+1}) xr D G
 have Zf:=yo.dx (s':={s with heap:=(B.update (s.heap.objs.size+3) (aaG λu=>(#[]:Array aaf))).update (s.heap.objs.size+1) (aaG λu=>(x::r).toArray),toks:=s.toks+1}) Ze W Y
 refine aes ⟨ρ,Jy,Ext.kept λb o e=>?_,Zf.up x1⟩
 exact Y b o (λq=>by rw[q,C 1] at e;(injection e)) (G b o (λq=>by rw[q,C 3] at e;(injection e)) (x2 b o e))
theorem Zg(fk:aV F){LM:Nat->List V->bj}{lvl:Nat}(hf:ll K lvl LM)(hr:bI F.A (lvl+2)){σ:S}{ρ:List aai}{s:aah}{v k:V}{wv wk:aaf}(rel:Rel K F σ ρ s)(rv:Rep K s.heap ρ v wv)(Y:Rep K s.heap ρ k wk):
  Run K F (aaT (.builtin "sorted") [wv] (sj wk)) (Rep K) (qx LM v k σ) ρ s:=by
 cases v with
 | obj l=>
  unfold qx;dsimp only
  by_cases lE:AS k=false
  ·refine aab (if_pos lE) ?_;exact Run.stuck
  refine aab (if_neg lE) ?_
  cases hl:σ.st[l]? with
  | none=>exact Run.stuck
  | some c=>
   cases c with
   | lst us=>
    dsimp only;refine wl (rel.list rv hl) λa xs n AT bk hL U hn=>?_;obtain rfl:=AT;have D:xs.length=us.length:=U.length
    cases nC:DS σ.st k us with
    | some T=>
     dsimp only
     by_cases sp:us.length<=100
     ·refine aab (if_pos sp) ?_
      cases us with
      | nil=>(injection nC)
      | cons u us=>
       refine gc (aj.aG.mp U) λx r AU O O=>?_;obtain rfl:=AU;refine ye (Jm nC) λgZ jB=>?_
       exact Zd fk hr.1 rel Y hL.isList (by refine aab D ?_;exact sp) (Pe Y (by rintro rfl;(injection nC)) lE) gZ jB
     ·refine aab (if_neg sp) ?_;exact Run.stuck
    | none=>
    dsimp only
    cases ek:y7 (w4 LM k) us σ with
    | stuck=>exact Run.stuck
    | exc _ _=>exact Run.stuck
    | ok kvs il=>
     dsimp only
     cases hd:bw (toD il.st 6) kvs with
     | none=>exact Run.stuck
     | some ds=>
      dsimp only
      by_cases ok:iX ds=true
      ·refine aab (if_pos ok) ?_;refine kh (tE ok) λhs dN hA bY=>?_;have eV:kvs.length=us.length:=Pc ek;have J:ds.length=kvs.length:=DN hd
       have dW:((s.heap.push (aa5 "list" #[] 0)).update s.heap.objs.size (aaG (· ++ xs.toArray))).objs.size=s.heap.objs.size+1:=by
        (refine aab (abh ..) ?_;exact abU ..)
       have nH:(wh s.heap xs).get? (s.heap.objs.size+1)=aac (aa5 "list" xs.toArray 0):=by
        unfold wh;rw[<- dW];exact aaA _ rfl
       by_cases o0:k = .none
       ·subst o0;obtain rfl:=Rep.bx.mp Y;rw[Pb] at ek
        (injection ek with aK fP;subst aK fP)
        have Z:∀(out:List aaf),aj K s.heap ρ (cq ds us) out->∃av,Rel K F {σ with st:=σ.st++[.lst (cq ds us)]} av {s with heap:=aec s.heap xs out.toArray}/\
          Ext F.mine ρ av s.heap (aec s.heap xs out.toArray)/\Rep K (aec s.heap xs out.toArray) av (.obj σ.st.length) (.ref (s.heap.objs.size+1)):=by
         intro out mZ;refine xc (W7 (h:=s.heap) (xs:=xs) (out:=out.toArray)) λm hm=>?_
         refine ye (rel.vL (s':={s with heap:=aec s.heap xs out.toArray}) W6 (aaQ (agh _)) (n:=m) hm mZ (by refine aab (Jp ok J) ?_;exact hn) rfl rfl) λbh x'=>?_
         exact(je _ bh x' (Rep.aN.mpr (ja _ (by(rewrite[<- rel.len];exact aaq)) rfl)))
        refine Run.ok (Pa hL.isList (by exact Tx D bY J) (ksk_s2 _ _ _) (λx=>ksk_l2 _ _ _) ?_)
        unfold sj;refine aab (Y8 ..) ?_
        by_cases bU:us.length<2
        ·have e:cq ds us=us:=by unfold cq;exact if_pos bU
         exact NU (s:={s with heap:=wh s.heap xs}) nH (by exact tX D bU) ⟨_,rfl,Z xs (by refine aab e ?_;exact U)⟩ _ (.inr rfl)
        ·have Jr:aj K (zg (wh s.heap xs) (s.heap.objs.size+1) xs) ρ us xs:=aj.br (aax _) (λb o e O=>wJ b o e) U
         have m4:Rel K F σ ρ {s with heap:=zg (wh s.heap xs) (s.heap.objs.size+1) xs}:=rel.kept (λb o e=>wJ b o e) rfl rfl
         obtain⟨κ,k1,k2⟩:=Jn m4.toGRel Jr (by exact E2 bU) hd hs dN
         have hu:=fk.units;have DO:F.A.in1.in1.units=F.A.units+1+1:=rfl
         refine NQ (s:={s with heap:=wh s.heap xs}) (κ:=κ) (ask:=b9 dc ds.reverse) nH (by exact E3 D bU) (by exact Ln D bY J) (λQ q=>k1 _ _ Q q) (by(refine aab D ?_;rw[<- J]);exact hA) (λi j C hi hj hC=>?_) ⟨_,rfl,Z _ (Jq ok J bU U)⟩
         unfold kas_ask
         (refine aab (rR hi) ?_;refine aab (rR hj) ?_)
         refine k2 _ _ _ C (by exact Tz hu DO) (by exact Lo D hj) (by exact Lp D hj) ?_
         rw[wx (by exact Cw hi J D) (by exact Cw hj J D),show ds.length=xs.length by exact E5 J D] at hC
         exact hC
       ·refine Run.ok (Pf fk (σ:=σ) (ρ:=ρ) hL.isList (by exact TA D bY J eV) (Pe Y o0 lE) λe1 h' eh sk sn=>?_)
        subst eh;have nM:∀k,s.heap.get? (s.heap.objs.size+k)=aam:=λk=>aaQ (ab3 _ _)
        have jV:∀k,K.base.get? (s.heap.objs.size+k)=aam:=λk=>by
         cases e:K.base.get? (s.heap.objs.size+k) with
         | none=>rfl
         | some o=>have:=rel.base _ _ e;rw[nM k] at this;cases this
        have iZ:∀k,s.heap.objs.size+k∉F.mine:=λk h=>by
         refine qn (rel.ao _ h) λO o e=>?_;rw[nM k] at e;cases e
        have m6:∀k,s.heap.objs.size+k∉ρ:=λk h=>by
         refine ya (rel.toGRel.alive h) λo e O=>?_;rw[nM k] at e;cases e
        have m4:Rel K F σ ρ {s with heap:=zg (wh s.heap xs) (s.heap.objs.size+1) xs}:=rel.kept (λb o e=>wJ b o e) rfl rfl
        have xm:Ext F.mine ρ ρ s.heap (zg (wh s.heap xs) (s.heap.objs.size+1) xs):=Ext.kept λb o e=>wJ b o e;have AV:=hr.in1;have Zh:=fk.in1 hr;have Pj:=Zh.in1 AV;have hu:=Pj.units;have DO:F.A.in1.in1.units=F.A.units+1+1:=rfl;unfold ahT;refine aad (abf ?_)
        first
         | rw[ahm]
         | (rw[<- ahn];simp only[ag8])
        refine aad (Y1 (G:=F.in1.in1) (B:=s.heap.objs.size+3) (L:=s.heap.objs.size+1) (au:=ρ) (h₀:=s.heap) (kM:=w4 LM k) (f:=k) (wf:=wk) (us:=us) (xs:=xs)
         (λσ ρ s v w r rf rv=>Zc Pj hf AV.in1 o0 σ ρ s v w r rf rv) (iZ 3) (jV 3) (iZ 1) (λh=>absurd (ae2 h) (by decide)) (λx s R' h=>?_) us xs σ ρ {s with heap:=zg (wh s.heap xs) (s.heap.objs.size+1) xs} #[] 0 [] kvs il ek m4.in1.in1 (bv.of xm) (Y.mono xm) (U.mono xm) sk aj.nil (m6 3) sn (m6 1) (by show 0+us.length<=100;exact TB bY J eV) (U.mono xm) ?_)
        ·refine aad (ac3 (aap h (λk s' h'=>?_) λO O q=>q.elim));dsimp only;refine aad ?_;refine aap h' (λO dF DC=>?_) λO O e=>e;exact aak DC
        ·intro av s' pJ c' p1 p2 p3 p4 p5 p6 p7 p8;refine aad (aa2 p3 rfl ?_)
         have Zi:pJ=pJ.toList.toArray:=by simp
         rw[Zi] at p3 ⊢
         refine Y9 (G:=F.in1.in1) (ks:=pJ.toList) (kvs:=kvs) (ds:=ds) p1 p3 p5 (iZ 3) (jV 3) p6 p7 (iZ 1) (jV 1) (λh=>absurd (ae2 h) (by decide)) (by simpa using p4) p8 eV hd ok (by show F.A.in1.in1.units+7<_;have:F.in1.in1.A.units=F.A.in1.in1.units:=rfl;exact TC hu this) ?_
         intro out dF Zj r1 Jz Zk Zl JA
         refine⟨_,rfl,av++[s.heap.objs.size+1],Rel.adopt r1.iU.iU p7 (iZ 1) (jV 1) ⟨by rw[Jp ok (by exact Lq J eV)];exact hn,out,Zj,Zl,JA⟩,?_,?_⟩
         ·have JB:∀b o,s.heap.get? b=aac o->b≠s.heap.objs.size+3/\b≠s.heap.objs.size+1:=λb o e=>by
           have:=abG e;exact⟨abp (aby this (ab3 _ _)),abp (aby this (ab3 _ _))⟩
          refine⟨p2.pre.trans (adz _ _),λb o e=>?_,λb hb=>?_,λb o e m1 m2=>?_,λb o e f=>?_⟩
          ·refine ye (JB b o e) λW n2=>?_;refine xc (p2.alive b o e) λo1 e1=>?_;exact⟨o1,Jz b o1 W n2 e1⟩
          ·rcases abd.mp hb with hb | hb
           ·exact p2.new b hb
           ·refine aab (aan.mp hb) ?_;exact .inr (nM 1)
          ·refine ye (JB b o e) λW n2=>?_
           refine ya (p2.keep b o e m1 (by simpa using W) m2) λo1 e1 k1=>?_
           exact(ja o1 (Jz b o1 W n2 e1) k1)
          ·refine ye (JB b o e) λW n2=>?_
           exact Jz b o W n2 (p2.bu b o e f (by simpa using W))
         ·exact Rep.aN.mpr (ja _ (by(rewrite[<- p1.len];exact aaq)) rfl)
      ·refine aab (if_neg ok) ?_;exact Run.stuck
   | _=>exact Run.stuck
 | _=>exact Run.stuck
theorem Zm(J:aV F){LM:Nat->List V->bj}{lvl:Nat}(Z:ll K lvl LM)(hr:bI F.A (lvl+2)){np pos p1 p2 O:Pos}{e k:Expr}{U W:M V}{Y:Nat}(hx:F.env.kindOf (aae "sorted")=aac .globalImplicit)(hm:K.mg (aae "sorted")=aam)
  (he:aU K F e U) (hk:aU K F k W) (C:abu (e::[]) F.env=(false,abe e F.env)::abu [] F.env:=by rfl) :
  aU K F (.Call (.Name (aae "sorted") np) [e] [⟨aac (aae "key"),k,p1⟩,⟨aac (aae "reverse"),.Constant (.bool true) Y O,p2⟩] pos) (do let v <- U;let b <- W;qx LM v b):=by
 intro σ ρ s rel;refine Run.of_wp λB=>?_;simp only[NV]
 refine aad (yw J rel hx hm (v:= .builtin "sorted") (by decide +kernel) ?_)
 refine callWith_kw ?_ (by refine aab C ?_;rfl) (by(refine aab (yq ..) ?_;refine aab C ?_);rfl)
 refine aab C ?_;show aao _ _ (acB ((false,abe e F.env)::[])) _ _ s;refine aab (jm ..) ?_;refine aad (Run.bq (he σ ρ s rel) B λvv ab ai af wv e1 e2 ae D rv=>?_);rw[e2] at B ⊢;refine aad (aaN (aak (aak ?_)))
 show aao _ _ (evalAll [(do let v <- abe k F.env;standAt pos;pure v),(do let v <- abe (.Constant (.bool true) Y O) F.env;standAt pos;pure v)]) _ _ af
 refine aee (aad ?_)
 refine aap (Run.bq (P:=λwc bg=>aao (aar K.prog K.w) F.A (do standAt pos;pure wc) _ _ bg) (hk ab ai af ae) B λvk ar aC ay wk e3 e4 aB G rk=>?_) (λu u q=>q) λu u q=>q.up D
 rw[e4] at B ⊢;refine aad (abP (aak ?_));refine aee (aad (aeY ?_));refine aad (abP (aak (ahD ?_)));have key:=Zg (F:=F) J Z hr aB (rv.mono G) rk;exact aap (key.wp B) (λu u q=>(q.up G).up D) λu u q=>(q.up G).up D
end
section
variable{K:aW}{F:bd}
noncomputable def ku(T:String):String:=s!"object of type '{T}' has no len()"
theorem Zn:abx (.type "list_iterator") "__len__" = pure aam:=by(refine aab (abl ..) ?_;rw[aaZ]);kernel_rfl
theorem Zo:abx (.type "int") "__len__" = pure aam:=by(refine aab (abl ..) ?_;rw[aaZ]);kernel_rfl
theorem Zp:abx (.type "NoneType") "__len__" = pure aam:=by(refine aab (abl ..) ?_;refine aab aaZ ?_);kernel_rfl
theorem JC{prog:aa0}{w:abC}{A:aaE}{E:aaf->aah->Prop}{s:aah}{v:aaf}{T:String}{Q:aaf->aah->Prop}(B:A.handled=aam)(u:s.TypeIs v T)(C:abx (.type T) "__len__" = pure aam)
  (D:(aaK T==aaK "builtin_function_or_method")=false) (G:(aae (ku (aaX T))).length<=agI)
  (h:E (.ref (s.heap.objs.size+1)) {s with heap:=xh s.heap "TypeError" (aae (ku (aaX T))) s.toks,toks:=s.toks+1}):aao (aar prog w) A (aaT (.builtin "len") [v]) Q E s:=by
 refine afA PySem.kind_len PySem.plain_len PySem.entry_len (PySem.args_len1 _) ?_;unfold abg.«len»
 refine aad (m:=oneArg "len" ⟨[v],[]⟩) (aak ?_)
 refine aad (afY u C ?_);dsimp only;refine aad (abf (aad (ac5 u D ?_)));exact uN (A:=A.in1) adA B G h
noncomputable def lG:V->M V
 | .obj l=>λσ=>match σ.st[l]? with
  | some (.lst vs)=>.ok (.int vs.length) σ
  | some (.aP _ _ _)=>.exc ⟨"TypeError",aae (ku (aaX "list_iterator"))⟩ σ
  | _=>.stuck
 | .int _=>λσ=>.exc ⟨"TypeError",aae (ku (aaX "int"))⟩ σ
 | .none=>λσ=>.exc ⟨"TypeError",aae (ku (aaX "NoneType"))⟩ σ
 | _=>λ_=>.stuck
noncomputable def dR(vs:List V):M V:=match vs with
 | [v]=>lG v
 | _=>λ_=>.stuck
theorem JD(T:String)(h:(aae (ku (aaX T))).length<=1000):(aae (ku (aaX T))).length<=agI:=by refine aab aa1 ?_;exact TD h
theorem Zq:w6 K (.builtin "len") dR:=by
 intro F C D σ ρ s vs ws rel r
 cases vs with
 | nil=>exact Run.stuck
 | cons v t=>
  cases t with
  | cons _ _=>exact Run.stuck
  | nil=>
   cases v with
   | obj l=>
    cases G:σ.st[l]? with
    | none=>unfold dR lG;dsimp only;refine aab G ?_;exact Run.stuck
    | some c=>
     unfold dR lG;dsimp only;refine aab G ?_
     cases c with
     | lst us=>
      have h:=jt F C D σ ρ s _ ws rel r;unfold d8 at h;dsimp only at h;rw[G] at h;exact h
     | aP k i d=>
      refine gc (aj.aG.mp r) λx J O u B=>?_;obtain rfl:=O;obtain rfl:=aj.a7.mp B;refine ya (Rep.aN.mp u) λa U W=>?_;obtain rfl:=W;refine xd (rel.cell l a _ U G) λo Y Z zZ=>?_
      exact JC (T:= "list_iterator") (v:= .ref a) (s:=s) (C.hd D) ⟨o,Y,Z⟩ Zn (by decide) (JD _ (by decide +kernel)) (nE rel (by decide))
     | _=>exact Run.stuck
   | int i=>
    refine gc (aj.aG.mp r) λx J AY u B=>?_;obtain rfl:=AY;obtain rfl:=aj.a7.mp B;refine xc (Rep.aH.mp u) λt AZ=>?_;obtain rfl:=AZ
    exact JC (T:= "int") (C.hd D) (adu s _ t) Zo (by decide) (JD _ (by decide +kernel)) (nE rel (by decide))
   | none=>
    refine gc (aj.aG.mp r) λx J A0 u B=>?_;obtain rfl:=A0;obtain rfl:=aj.a7.mp B;obtain rfl:=Rep.bx.mp u
    exact JC (T:= "NoneType") (v:= .none) (s:=s) (C.hd D) (by first | rfl | exact afc s) Zp (by decide) (JD _ (by decide +kernel)) (nE rel (by decide))
   | _=>exact Run.stuck
end
section
variable{K:aW}{F:bd}
noncomputable def o4(body:M Fl)(h:Exc->M Fl)(u:M Fl):M Fl:=λσ=>match body σ with
 | .ok .next aa=>u aa
 | .ok f aa=>.ok f aa
 | .exc e aa=>h e aa
 | .stuck=>.stuck
noncomputable def nN(u:M Fl):Exc->M Fl:=λe σ=>if e.cls = "TypeError" then(match u σ with
  | .ok f aa=>.ok f aa
  | _=>.stuck) else .stuck
theorem Zr:adq (.type "AttributeError") (.type "BaseException")=pure true:=by refine aab (acu ..) ?_;kernel_rfl
theorem Zs:adq (.type ((Manifest.find? "AttributeError").elim "type" λx=>x.metatype)) (.type "tuple")=pure false:=by rw[acu];kernel_rfl
theorem Zt:adq (.type "TypeError") (.type "AttributeError")=pure false:=by refine aab (acu ..) ?_;kernel_rfl
theorem yo.kept{n:Bool}{e:Exc}{h₀:aat}{v:aaf}{s s':aah}(x:yo n K F e h₀ v s)(hk:∀b o,s.heap.get? b=aac o->s'.heap.get? b=aac o):yo n K F e h₀ v s':=by
 refine we x λX f g h0 a t tok B vs h1 h2 u h5 h6 h7 h8 h9=>?_
 try clear x
 refine yj u λo k1 k2 m k3=>?_
 try clear u
 refine(zj X f g h0 a t tok B vs h1 h2 ⟨o,hk _ _ k1,k2,m,k3⟩ (hk _ _ h5) h6 h7 h8 ?_)
 rcases h9 with h | ⟨T,C,D,G,J,O,U,W,Y⟩
 ·exact .inl h
 ·exact .inr (qj T C D G J O U (hk _ _ W) Y)
theorem Zu(U:aV F){D G J pos:Pos}{kk:Nat}{W:acE}{Y:List acE}{O:M Fl}
  (JG:F.env.kindOf (aae "TypeError")=aac .globalImplicit) (JH:K.mg (aae "TypeError")=aam) (lB:aed (aae "TypeError")=aac (.type "TypeError"))
  (Zv:F.env.kindOf (aae "AttributeError")=aac .globalImplicit) (Zw:K.mg (aae "AttributeError")=aam) (A1:aed (aae "AttributeError")=aac (.type "AttributeError"))
  (hs:∀v,jj K (Fh F v) (W::Y) O) :
  Dp K F [.ExceptHandler (aac (.Tuple [.Name (aae "TypeError") D,.Name (aae "AttributeError") G] kk J)) aam (W::Y) pos] (nN O):=by
 intro e σ ρ au h₀ s v rel ext x u;have Z:=x;refine we Z λX dm hX d0 a t tok oe vs A2 lV ht ha hc hd h0 cS=>?_
 try clear Z
 obtain rfl:=A2;unfold nN at u ⊢
 by_cases B:e.cls = "TypeError"
 ·rw[if_pos B] at u ⊢
  refine wpAny_handleBy_tup2 (X:=e.cls) (T1:= "TypeError") (T2:= "AttributeError") (b1:=true) (b2:=false) qt.exc qt.nt Zr Zs (by refine aab B ?_;exact qt.self) (by refine aab B ?_;exact Zt) ?_
  show aao _ (Fh F (.ref a)).A (do standAt J;ae4 (<- acB (ad9 J (abu [.Name (aae "TypeError") D,.Name (aae "AttributeError") G] F.env)))) _ _ s
  refine aad (abP (aad ?_))
  show aao _ _ (acB ((false,abe (.Name (aae "TypeError") D) F.env)::(false,abe (.Name (aae "AttributeError") G) F.env)::[])) _ _ s
  refine aab (jm ..) ?_
  refine aad (yw (F:=Fh F (.ref a)) (U.h _) (rel.h _) JG JH lB ?_ (by decide) (by decide))
  refine aad (aaN ?_);refine aab (jm ..) ?_
  refine aad (yw (F:=Fh F (.ref a)) (U.h _) (rel.h _) Zv Zw A1 ?_ (by decide) (by decide))
  refine aad (aaN (aak (aak (aak ?_))))
  have hk:∀b o,s.heap.get? b=aac o->(s.heap.push {cls:= .type "tuple",data:= .seq #[.type "TypeError",.type "AttributeError"]}).get? b=aac o:=λb o e=>aaj _ e
  refine add ?_ (by refine aab aa1 ?_;decide)
  refine(uf _ rfl (IsTup.new _ _) ⟨oe,hk _ _ ha,hc⟩ ?_)
  rw[if_pos (by rfl)]
  have im:Rel K F σ ρ {s with heap:=s.heap.push {cls:= .type "tuple",data:= .seq #[.type "TypeError",.type "AttributeError"]}}:=rel.kept hk rfl rfl
  refine yo.d4 (F:=Fh F (.ref a)) (e:=e) (au:=au) (h₀:=h₀) (s:={s with heap:=s.heap.push {cls:= .type "tuple",data:= .seq #[.type "TypeError",.type "AttributeError"]}}) (yo.kept x hk) (im.h _) (ext.trans (Ext.kept hk)) λay aB fX aX=>?_
  have ca:=hs (.ref a) σ ρ ay aB
  cases C:O σ with
  | stuck=>rw[C] at u;exact absurd rfl u
  | exc y z=>rw[C] at u;exact absurd rfl u
  | ok f aa=>
   (try rw[C] at ca);(try rw[C] at u);(try dsimp only at u ⊢)
   refine aap ca (λwf d6 c6=>?_) λzZ zZ h=>h.elim;refine xd c6 λav bA dK rf=>?_
   try clear c6
   exact(ze f aa av rfl bA.N2 (fX.trans dK) rf)
 ·rw[if_neg B] at u;exact absurd rfl u
theorem Zx(fk:aV F){body U:List acE}{h₀:ExceptHandler}{W:List ExceptHandler}{pos:Pos}{mb Y:M Fl}{Z:Exc->M Fl}(hb:jj K F body mb)(hh:Dp K F (h₀::W) Z)(he:jj K F U Y):
  dk K F (.Try body (h₀::W) U [] pos) (o4 mb Z Y):=by
 intro σ ρ s rel;refine Run.of_wp λu=>?_;refine ah2 ?_;unfold o4 at u ⊢;have O:=hb σ ρ s rel
 cases J:mb σ with
 | stuck=>rw[J] at u;exact absurd rfl u
 | ok f aa=>
  (try rw[J] at O);(try rw[J] at u);(try dsimp only at u ⊢)
  refine aap O (λwf af aZ=>?_) λB B h=>h.elim;refine xd aZ λav G C D=>?_
  try clear aZ
  cases f with
  | next=>
   have:wf = .next:=D;subst this;dsimp only at u ⊢;exact aap ((he aa av af G).wp u) (λB B q=>q.up C) λB B q=>q.up C
  | brk=>have:wf = .brk:=D;subst this;exact(ze _ aa av rfl G C D)
  | cont=>have:wf = .cont:=D;subst this;exact(ze _ aa av rfl G C D)
  | ret v=>obtain⟨w,e,r⟩:=id D;subst e;exact(ze _ aa av rfl G C D)
 | exc e aa=>
  (try rw[J] at O);(try rw[J] at u);(try dsimp only at u ⊢)
  refine aap O (λB B h=>h.elim) λv af aZ=>?_;refine xd aZ λav G C xr=>?_
  try clear aZ
  refine xr.du G C λay aB aX xn=>?_;refine yo.d4 xn aB aX λbg aY bR xf=>?_;refine hh e aa av ρ s.heap bg v aY bR ?_ u;refine we xf λX' f' g' fH a' t' fS l7 lC q1 q2 q3 q4 q5 q6 q7 q8=>?_
  try clear xf
  refine(zj X' f' g' fH a' t' fS l7 lC q1 q2 q3 q4 q5 q6 q7 ?_)
  rcases q8 with⟨q,_⟩ | ⟨T',l8,l9,mf,r1,r2,r3,r4,r5,r6,r7,r8⟩
  ·(exfalso;exact nomatch q)
  ·exact .inr (ym T' l8 l9 mf r1 r2 r3 r4 r5 r6 r7 r8.1)
end
section
variable{K:aW}
theorem Zy{d:acP}{x:String}{params:List String}{lvl:Nat}{mb:M Fl}(hd:d∈abF K.p)(D:d.name=aae x)(u:d.scope.kind = .function)(G:d.scope.isCoroutine=false)(J:d.scope.isGenerator=false)(O:params.Nodup)(U:d.name=K.fN)
  (W:∀(pm code doc:aaf) (ws:List aaf),ws.length=params.length->agJ (acv d.name d.params d.body d.scope pm code doc) ⟨ws,[]⟩=pure ((params.map aae).zip ws))
  (Y:∀n,∀y∈params,d.scope.names.lookup (aae y)=aac .local\/(d.scope.names.lookup (aae y)=aac .cell/\((acQ n d.scope.names []).lookup (aae y)).isSome=true))
  (Z:∀pm code doc L fa A,(∃c,code = .ref c/\CodeHd K.base c K.dh)->bI A lvl->aV (oJ d pm code doc L fa A)->jj K (oJ d pm code doc L fa A) d.body mb):cN K x (lvl+1) (cZ params mb):=by
 refine wrap λG_ B=>?_;obtain⟨a,o,pm,code,doc,h1,h2,h3,h4,h5⟩:=K.top.fn d hd;refine B ?_;clear B G_;have C:fw K a (acv d.name d.params d.body d.scope pm code doc) d.body:=⟨⟨o,h2,h3⟩,h4,rfl,rfl,rfl,rfl,G,J,u⟩
 refine(jv a _ d.body (by rw[<- D];exact h1) C ?_)
 exact MU C O (W pm code doc) Y λL A hr=>Z pm code doc L a A (h5 U) hr (aV.def hr u)
noncomputable def Zz(l:List (Str×ae5)):Bool:=l.all λx=>match x.2 with
 | .cell=>false
 | _=>true
theorem ZA{l:List (Str×ae5)}(h:Zz l=true):∀x∈l,x.2≠.cell:=by
 intro x u e;have:=(abV.mp h) x u;rw[e] at this
 (injection this)
noncomputable def A3(l:List acE)(i:Nat):acE:=l.getD i (.Pass ⟨0,0,0,0⟩)
noncomputable def ZB:acE->List acE
 | .For _ _ b _ _=>b
 | .While _ b _ _=>b
 | _=>[]
noncomputable def sq:Expr:= .Constant .none 0 ⟨0,0,0,0⟩
noncomputable def ZC:acE->Expr
 | .Assign _ e _=>e
 | .Return (aac e) _=>e
 | _=>sq
noncomputable def ZD:Expr->Expr
 | .IfExp _ _ e _=>e
 | _=>sq
noncomputable def Pk(bX:List String):Expr->fK
 | .Lambda a b u _=>⟨a,b,u,bX⟩
 | e=>⟨{posonlyargs:=[],args:=[],vararg:=aam,kwonlyargs:=[],kw_defaults:=[],kwarg:=aam,defaults:=[]},e,{kind:= .function,names:=[],isGenerator:=false,isCoroutine:=false},bX⟩
end
section
variable{K:aW}{F:bd}
end
section
variable{K:aW}{F:bd}
section
variable{prog:aa0}{w:abC}{A:aaE}{E:aaf->aah->Prop}{s:aah}
noncomputable def A4(a:String):String:=s!"'{">="}' not supported between instances of '{a}' and '{shownName "int"}'"
theorem A5{a:aaf}{i:Int}{t:Tok}{u G:String}{Q:aaf->aah->Prop}(J:A.handled=aam)(C:s.TypeIs a u)
  (O:(aaK u != aaK "int")=true) (U:adq (.type "int") (.type u)=pure false) (h1:Slot u (agu .GtE).2.1 G)
  (W:(aaK u==aaK "builtin_function_or_method")=false)
  (Y:∀B:aaf->aah->Prop,B .notImplemented s->aao (aar prog w) A (call (.builtin G) [a,.int i t]) B E s)
  (Z:∀B:aaf->aah->Prop,B .notImplemented s->aao (aar prog w) A (call (.builtin "int.__le__") [.int i t,a]) B E s)
  (hr:A.units<acw) (hw:(aae (A4 (aaX u))).length<=1000)
  (h:E (.ref (s.heap.objs.size+1)) {s with heap:=xh s.heap "TypeError" (aae (A4 (aaX u))) s.toks,toks:=s.toks+1}):aao (aar prog w) A (adC .GtE a (.int i t)) Q E s:=by
 have D:s.TypeIs (.int i t) "int" :=adu s i t
 have h2:Slot "int" (agu .GtE).2.2 "int.__le__" :=afS
 rcases hi:agu CmpOp.GtE with⟨sym,f,r⟩
 have hs:sym = ">=" :=by have:=congrArg Prod.fst hi;exact this.symm
 subst hs;rw[hi] at h1 h2;simp only[adC,hi,C.oneThing_none]
 try with_reducible refine aaN ?_
 refine aad (afv (.inr hr) ?_);refine aad (afI C (aad (afI D ?_)));simp only[O,if_true];refine aad (aci U ?_);simp only[aaW,if_false,adK,if_true];refine aad (m:=agT a _ _) (ac8 C h1 (Y _ ⟨rfl,?_⟩));refine aad (m:=agT _ _ a) (ac8 D h2 (Z _ ⟨rfl,?_⟩))
 refine aad (abf (aad (ac5 C W (aad (ac5 D (by decide) ?_)))))
 exact uN adA J (by refine aab aa1 ?_;exact aaB hw (by decide)) h
theorem ZF(i:Int)(t:Tok):Gives (abg.«int.__le__» ⟨[.int i t,.none],[]⟩) (.val .notImplemented) :=
 .of_wp λM A E s Q h=>by obtain⟨u,g,d,tk,os⟩:=s;wp_walk;exact(ja _ rfl h)
theorem ZG(i:Int)(t:Tok)(x:Str)(u:Tok):Gives (abg.«int.__le__» ⟨[.int i t,.str x u],[]⟩) (.val .notImplemented) :=
 .of_wp λM A E s Q h=>by obtain⟨B,g,d,tk,os⟩:=s;wp_walk;exact(ja _ rfl h)
theorem ZH(i:Int)(t:Tok)(l:aai)(c:aaf)(u:Data)(B:Option aai)(C:Array (Option aaf))(hd:(∃xs n,u = .seq xs n)\/∃es n,u = .dict es n):
  adQ (abg.«int.__le__» ⟨[.int i t,.ref l],[]⟩) (λG R s=>s.heap.get? l=aac {cls:=c,dict:=B,data:=u,slots:=C}/\R (.ok (.ret .notImplemented)) s):=by
 rcases hd with⟨xs,n,rfl⟩ | ⟨es,n,rfl⟩ <;>
 exact .of_wp λprog w A R s h=>by obtain⟨J,g,d,tk,os⟩:=s;refine ye h ?_;try clear h;intro D h;wp_walk using ads D;exact(ja _ rfl h)
theorem ZI(i:Int)(t:Tok):Gives (abg.«NoneType.__ge__» ⟨[.none,.int i t],[]⟩) (.val .notImplemented) :=
 .of_wp λM A E s Q h=>by obtain⟨u,g,d,tk,os⟩:=s;wp_walk;exact(ja _ rfl h)
theorem ZJ(i:Int)(t:Tok)(x:Str)(u:Tok):Gives (abg.«str.__ge__» ⟨[.str x u,.int i t],[]⟩) (.val .notImplemented) :=
 .of_wp λM A E s Q h=>by obtain⟨B,g,d,tk,os⟩:=s;wp_walk;exact(ja _ rfl h)
theorem ZK(i:Int)(t:Tok)(l:aai)(items:Array aaf)(n:Nat)(u:Option aai)(B:Array (Option aaf)):
  adQ (abg.«tuple.__ge__» ⟨[.ref l,.int i t],[]⟩) (λD R s=>s.heap.get? l=aac {cls:= .type "tuple",dict:=u,data:= .seq items n,slots:=B}/\R (.ok (.ret .notImplemented)) s) :=
 .of_wp λprog w A R s h=>by obtain⟨G,g,d,tk,os⟩:=s;refine ye h ?_;try clear h;intro C h;have J:=aik;wp_walk using abI C;exact(ja _ rfl h)
theorem ZL(i:Int)(t:Tok)(l:aai)(items:Array aaf)(n:Nat)(u:Option aai)(B:Array (Option aaf)):
  adQ (abg.«list.__ge__» ⟨[.ref l,.int i t],[]⟩) (λD R s=>s.heap.get? l=aac {cls:= .type "list",dict:=u,data:= .seq items n,slots:=B}/\R (.ok (.ret .notImplemented)) s) :=
 .of_wp λprog w A R s h=>by obtain⟨G,g,d,tk,os⟩:=s;refine ye h ?_;try clear h;intro C h;have J:=aiG;wp_walk using abI C;exact(ja _ rfl h)
theorem ZM(i:Int)(t:Tok)(l:aai)(es:Array af0)(n:Nat)(u:Option aai)(B:Array (Option aaf)):
  adQ (abg.«dict.__ge__» ⟨[.ref l,.int i t],[]⟩) (λD R s=>s.heap.get? l=aac {cls:= .type "dict",dict:=u,data:= .dict es n,slots:=B}/\R (.ok (.ret .notImplemented)) s) :=
 .of_wp λprog w A R s h=>by obtain⟨G,g,d,tk,os⟩:=s;refine ye h ?_;try clear h;intro C h;have J:=ail;wp_walk using abI C;exact(ja _ rfl h)
theorem ZN(i:Int)(t:Tok)(l:aai)(es:Array af0)(n:Nat)(u:Option aai)(B:Array (Option aaf)):
  adQ (abg.«dict.__eq__» ⟨[.ref l,.int i t],[]⟩) (λD R s=>s.heap.get? l=aac {cls:= .type "dict",dict:=u,data:= .dict es n,slots:=B}/\R (.ok (.ret .notImplemented)) s) :=
 .of_wp λprog w A R s h=>by obtain⟨G,g,d,tk,os⟩:=s;refine ye h ?_;try clear h;intro C h;have J:=ail;have O:=agy;wp_walk using abI C;exact(ja _ rfl h)
theorem ZO(i:Int)(t:Tok)(l:aai)(c:aaf)(u:Data)(B:Option aai)(C:Array (Option aaf))(hd:(∃xs n,u = .seq xs n)\/∃es n,u = .dict es n):
  adQ (abg.«int.__eq__» ⟨[.int i t,.ref l],[]⟩) (λG R s=>s.heap.get? l=aac {cls:=c,dict:=B,data:=u,slots:=C}/\R (.ok (.ret .notImplemented)) s):=by
 rcases hd with⟨xs,n,rfl⟩ | ⟨es,n,rfl⟩ <;>
 exact .of_wp λprog w A R s h=>by obtain⟨J,g,d,tk,os⟩:=s;refine ye h ?_;try clear h;intro D h;wp_walk using ads D;exact(ja _ rfl h)
theorem ZP{a:aaf}{i:Int}{t:Tok}{T:String}{Q:aaf->aah->Prop}(D:A.handled=aam)(k:bS s a T)(Y:T ≠ "int")(hr:A.units<acw)
  (h:E (.ref (s.heap.objs.size+1)) {s with heap:=xh s.heap "TypeError" (aae (A4 (aaX T))) s.toks,toks:=s.toks+1}):aao (aar prog w) A (adC .GtE a (.int i t)) Q E s:=by
 have J:∀O:aaf->aah->Prop,∀{l:aai} {o:Obj},s.heap.get? l=aac o->((∃xs n,o.data = .seq xs n)\/∃es n,o.data = .dict es n)->O .notImplemented s->aao (aar prog w) A (call (.builtin "int.__le__") [.int i t,.ref l]) O E s:=by
  intro O l o g hd B;exact acL afS (adu s i t) PySem.F.entry_int_le (PySem.F.args_int_le_2 _ _) (ZH i t l o.cls o.data o.dict o.slots hd) ⟨g,B⟩
 cases k with
 | none=>
  exact A5 D (afc s) (by decide) F.sub_int_NoneType aho (by decide) (λ_ B=>agU aho (afc s) F.entry_NoneType_ge (F.args_NoneType_ge_2 _ _) (ZI i t) B)
   (λ_ B=>agU afS (adu s i t) aiH (aim _ _) (ZF i t) B) hr (by decide +kernel) h
 | int=>exact absurd rfl Y
 | str x u=>
  exact A5 D (agR s x u) (by decide) F.sub_int_str aiT (by decide) (λ_ B=>agU aiT (agR s x u) F.entry_str_ge (F.args_str_ge_2 _ _) (ZJ i t x u) B)
   (λ_ B=>agU afS (adu s i t) aiH (aim _ _) (ZG i t x u) B) hr (by decide +kernel) h
 | tup g c d=>
  rename_i o _ _;refine wrap λG C=>?_;obtain⟨cls,U,data,W⟩:=o;refine C ?_;clear C G
  (subst c);(subst d)
  exact A5 D ⟨_,g,rfl⟩ (by decide) aik ain (by decide) (λ_ B=>acL ain ⟨_,g,rfl⟩ F.entry_tuple_ge (F.args_tuple_ge_2 _ _) (ZK i t _ _ _ _ _) ⟨g,B⟩)
   (λ_ B=>J _ g (.inl (j7 _ _ rfl)) B) hr (by decide +kernel) h
 | list g c d=>
  rename_i o _ _;refine wrap λG C=>?_;obtain⟨cls,U,data,W⟩:=o;refine C ?_;clear C G
  (subst c);(subst d)
  exact A5 D ⟨_,g,rfl⟩ (by decide) aiG aiI (by decide) (λ_ B=>acL aiI ⟨_,g,rfl⟩ F.entry_list_ge (F.args_list_ge_2 _ _) (ZL i t _ _ _ _ _) ⟨g,B⟩)
   (λ_ B=>J _ g (.inl (j7 _ _ rfl)) B) hr (by decide +kernel) h
 | dict g c d=>
  rename_i o _ _;refine wrap λG C=>?_;obtain⟨cls,U,data,W⟩:=o;refine C ?_;clear C G
  (subst c);(subst d)
  exact A5 D ⟨_,g,rfl⟩ (by decide) agy aiJ (by decide) (λ_ B=>acL aiJ ⟨_,g,rfl⟩ F.entry_dict_ge (F.args_dict_ge_2 _ _) (ZM i t _ _ _ _ _) ⟨g,B⟩)
   (λ_ B=>J _ g (.inr (j7 _ _ rfl)) B) hr (by decide +kernel) h
end
noncomputable def sr(a b:V):M V:=match b with
 | .int _=>λσ=>match js σ.st a with
  | some T=>if T = "int" then C7 a b σ else .exc ⟨"TypeError",aae (A4 (aaX T))⟩ σ
  | none=>.stuck
 | _=>stuck
theorem ZQ:N3 K .GtE sr:=by
 intro F u nh σ ρ s a b D G rel ra C
 cases b with
 | int i=>
  unfold sr;dsimp only
  cases J:js σ.st a with
  | none=>exact Run.stuck
  | some T=>
   dsimp only
   by_cases B:T = "int"
   ·refine aab (if_pos B) ?_;exact Wt F u σ ρ s a _ D G rel ra C
   ·refine aab (if_neg B) ?_;refine xc (Rep.aH.mp C) λt O=>?_;obtain rfl:=O;have U:=u.units
    exact ZP (u.hd nh) (pC rel.toGRel ra J) B (by exact Mg U) (nE rel (by decide))
 | _=>exact Run.stuck
noncomputable def lp(a b:V):M V:=match a,b with
 | .gN,.int _=>λσ=>.ok (.bool false) σ
 | _,_=>eG a b
theorem ZR{prog:aa0}{w:abC}{A:aaE}{E:aaf->aah->Prop}{s:aah}{a:aai}{o:Obj}{es:Array af0}{n:Nat}{i:Int}{t:Tok}{Q:aaf->aah->Prop}(g:s.heap.get? a=aac o)(c:o.cls = .type "dict")(d:o.data = .dict es n)
  (hr:A.units<acw) (h:Q (.bool false) s):aao (aar prog w) A (adC .Eq (.ref a) (.int i t)) Q E s:=by
 refine wrap λJ G=>?_;obtain⟨cls,Y,data,Z⟩:=o;refine G ?_;clear G J
 (subst c);(subst d)
 have B:s.TypeIs (.ref a) "dict" :=⟨_,g,rfl⟩
 have C:s.TypeIs (.int i t) "int" :=adu s i t
 have h1:Slot "dict" (agu .Eq).2.1 "dict.__eq__" :=aiK
 have h2:Slot "int" (agu .Eq).2.2 "int.__eq__" :=afT
 have O:∀u:aaf->aah->Prop,u .notImplemented s->aao (aar prog w) A (call (.builtin "dict.__eq__") [.ref a,.int i t]) u E s:=λU D=>acL aiK B F.entry_dict_eq (F.args_dict_eq_2 _ _) (ZN i t _ _ _ _ _) ⟨g,D⟩
 have W:∀u:aaf->aah->Prop,u .notImplemented s->aao (aar prog w) A (call (.builtin "int.__eq__") [.int i t,.ref a]) u E s:=λU D=>acL afT C PySem.F.entry_int_eq (PySem.F.args_int_eq_2 _ _) (ZO i t a _ _ _ _ (.inr (j7 _ _ rfl))) ⟨g,D⟩
 rcases hi:agu CmpOp.Eq with⟨sym,f,r⟩
 rw[hi] at h1 h2;simp only[adC,hi,B.oneThing_none]
 try with_reducible refine aaN ?_
 refine aad (afv (.inr hr) ?_);refine aad (afI B (aad (afI C ?_)))
 simp only[show(aaK "dict" != aaK "int")=true by decide,if_true]
 refine aad (aci agy ?_);simp only[aaW,if_false,adK,if_true];refine aad (m:=agT _ _ _) (ac8 B h1 (O _ ⟨rfl,?_⟩));refine aad (m:=agT _ _ _) (ac8 C h2 (W _ ⟨rfl,?_⟩));refine aad (abf ?_)
 exact aad (aci (a:=false) (show isSame (.ref a) (.int i t)=pure false from rfl) (aak h))
theorem ZS:n7 K .Eq lp:=by
 intro F u σ ρ s a b C D rel ra B;have base:=ju (K:=K) F u σ ρ s a b C D rel ra B
 cases a with
 | gN=>
  cases b with
  | int i=>
   refine F7 (Rep.eD.mp ra) λa o es n G g c d U=>?_;obtain rfl:=G;refine xc (Rep.aH.mp B) λt J=>?_;obtain rfl:=J;have O:=u.units
   exact Run.ok (ZR g c d (by exact Mg O) ⟨ρ,rel,Ext.refl ..,Rep.bool _⟩)
  | _=>exact base
 | _=>exact base
noncomputable def DV(T:String):String:=s!"bad operand type for unary {"-"}: '{T}'"
theorem ZT:abx (.type "NoneType") "__neg__" = pure aam:=by(refine aab (abl ..) ?_;refine aab aaZ ?_);kernel_rfl
theorem ZU:abx (.type "str") "__neg__" = pure aam:=by(refine aab (abl ..) ?_;rw[aaZ]);kernel_rfl
theorem ZV:abx (.type "tuple") "__neg__" = pure aam:=by(refine aab (abl ..) ?_;rw[aaZ]);kernel_rfl
theorem ZW:abx (.type "list") "__neg__" = pure aam:=by(refine aab (abl ..) ?_;rw[aaZ]);kernel_rfl
theorem ZX:abx (.type "dict") "__neg__" = pure aam:=by(refine aab (abl ..) ?_;rw[aaZ]);kernel_rfl
theorem ZY{prog:aa0}{w:abC}{A:aaE}{E:aaf->aah->Prop}{s:aah}{v:aaf}{T:String}{Q:aaf->aah->Prop}(G:A.handled=aam)(k:bS s v T)(J:T ≠ "int")
  (h:E (.ref (s.heap.objs.size+1)) {s with heap:=xh s.heap "TypeError" (aae (DV (aaX T))) s.toks,toks:=s.toks+1}):aao (aar prog w) A (afB .USub v) Q E s:=by
 have key:∀(B:abx (.type T) "__neg__" = pure aam) (C:(aaK T==aaK "builtin_function_or_method")=false) (D:(aae (DV (aaX T))).length<=1000),aao (aar prog w) A (afB .USub v) Q E s:=by
  intro B C D;unfold afB;refine aaN ?_;refine aad (afY k.is B ?_);dsimp only;refine aad (ac5 k.is C ?_)
  exact uN adA G (by refine aab aa1 ?_;exact aaB D (by decide)) h
 cases k with
 | none=>exact key ZT (by decide) (by decide +kernel)
 | int=>exact absurd rfl J
 | str x u=>exact key ZU (by decide) (by decide +kernel)
 | tup=>exact key ZV (by decide) (by decide +kernel)
 | list=>exact key ZW (by decide) (by decide +kernel)
 | dict=>exact key ZX (by decide) (by decide +kernel)
noncomputable def ev(a:V):M V:=λσ=>match js σ.st a with
 | some T=>if T = "int" then iM a σ else .exc ⟨"TypeError",aae (DV (aaX T))⟩ σ
 | none=>.stuck
end
section
variable{K:aW}{F:bd}
theorem ZZ:∀F:bd,aV F->F.nh=true->∀σ ρ s a u,Rel K F σ ρ s->Rep K s.heap ρ a u->Run K F (afB .USub u) (Rep K) (ev a σ) ρ s:=by
 intro F C nh σ ρ s a u rel ra;unfold ev
 cases D:js σ.st a with
 | none=>exact Run.stuck
 | some T=>
  dsimp only
  by_cases B:T = "int"
  ·refine aab (if_pos B) ?_;exact HT F C σ ρ s a u rel ra
  ·refine aab (if_neg B) ?_
   exact ZY (C.hd nh) (pC rel.toGRel ra D) B (nE rel (by decide))
theorem DW(B:aV F){l:Expr}{u:M V}(pos:Pos)(C:aU K F l u)(D:F.nh=true:=by rfl):aU K F (.UnaryOp .USub l pos) (do let a <- u;ev a):=by
 intro σ ρ s rel
 show Run K F (do let v <- abe l F.env;standAt pos;holding [v] (afB .USub v)) (Rep K) _ ρ s
 refine Run.bind (C σ ρ s rel) λa G ai af J U O W ra=>?_;exact Run.standAt (Run.holding (ZZ F B D G ai af a J O ra))
noncomputable def DX(T:String):String:=s!"'{T}' object is not iterable"
theorem Z0:abx (.type "int") "__iter__" = pure aam:=by(refine aab (abl ..) ?_;rw[aaZ]);kernel_rfl
theorem Z1:abx (.type "NoneType") "__iter__" = pure aam:=by(refine aab (abl ..) ?_;refine aab aaZ ?_);kernel_rfl
theorem Z2:abx (.type "int") "__getitem__" = pure aam:=by(refine aab (abl ..) ?_;rw[aaZ]);kernel_rfl
theorem Z3:abx (.type "NoneType") "__getitem__" = pure aam:=by(refine aab (abl ..) ?_;refine aab aaZ ?_);kernel_rfl
theorem kcj{prog:aa0}{w:abC}{A:aaE}{E:aaf->aah->Prop}{s:aah}{v:aaf}{T:String}{Q:aaf->aah->Prop}(B:A.handled=aam)(u:s.TypeIs v T)(h1:abx (.type T) "__iter__" = pure aam)(h2:abx (.type T) "__getitem__" = pure aam)
  (C:(aaK T==aaK "builtin_function_or_method")=false) (D:(aae (DX (aaX T))).length<=1000)
  (h:E (.ref (s.heap.objs.size+1)) {s with heap:=xh s.heap "TypeError" (aae (DX (aaX T))) s.toks,toks:=s.toks+1}):aao (aar prog w) A (aer v) Q E s:=by
 unfold aer;refine aad (ady u h1 ?_);dsimp only;refine aad (ady u h2 ?_);dsimp only;refine aad (abf (aad (ac5 u C ?_)))
 exact uN adA B (by refine aab aa1 ?_;exact aaB D (by decide)) h
noncomputable def jp:List V->M V
 | [.int _]=>λσ=>.exc ⟨"TypeError",aae (DX (aaX "int"))⟩ σ
 | [.none]=>λσ=>.exc ⟨"TypeError",aae (DX (aaX "NoneType"))⟩ σ
 | vs=>lF vs
theorem JI:w6 K (.builtin "iter") jp:=by
 intro F B C σ ρ s vs ws rel r;have base:=OF (K:=K) F B C σ ρ s vs ws rel r
 rcases vs with _ | ⟨v,_ | ⟨u,vs⟩⟩
 ·exact base
 ·cases v with
  | int i=>
   refine gc (aj.aG.mp r) λx J O D G=>?_;obtain rfl:=O;obtain rfl:=aj.a7.mp G;refine xc (Rep.aH.mp D) λt U=>?_;obtain rfl:=U
   exact DB (kcj (A:=F.A.in1) (B.hd C) (adu s i t) Z0 Z2 (by decide) (by decide +kernel) (nE rel (by decide)))
  | none=>
   refine gc (aj.aG.mp r) λx J W D G=>?_;obtain rfl:=W;obtain rfl:=aj.a7.mp G;obtain rfl:=Rep.bx.mp D
   exact DB (kcj (A:=F.A.in1) (B.hd C) (afc s) Z1 Z3 (by decide) (by decide +kernel) (nE rel (by decide)))
  | _=>exact base
 ·refine aab (show jp (v::u::vs)=lF (v::u::vs) by cases v<;>rfl) ?_;exact base
theorem Z4(Y:aV F){Z pos:Pos}{G:acE}{J:List acE}{C:M Fl}
  (JG:F.env.kindOf (aae "TypeError")=aac .globalImplicit) (JH:K.mg (aae "TypeError")=aam) (lB:aed (aae "TypeError")=aac (.type "TypeError"))
  (hs:∀v,jj K (Fh F v) (G::J) C) :
  Dp K F [.ExceptHandler (aac (.Name (aae "TypeError") Z)) aam (G::J) pos] (nN C):=by
 intro e σ ρ au h₀ s v rel ext x u;have O:=x;refine we O λX dm hX d0 a t tok oe vs Bc lV ht ha hc hd h0 cS=>?_
 try clear O
 obtain rfl:=Bc;unfold nN at u ⊢
 by_cases D:e.cls = "TypeError"
 ·rw[if_pos D] at u ⊢
  refine wpAny_handleBy_builtin (X:=e.cls) (T:= "TypeError") (b:=true) qt.exc qt.nt (by refine aab D ?_;exact qt.self) ?_
  refine yw (F:=Fh F (.ref a)) (Y.h _) (rel.h _) JG JH lB ⟨rfl,⟨oe,ha,hc⟩,?_⟩ (by decide) (by decide)
  refine aab (if_pos rfl) ?_;refine yo.d4 (F:=Fh F (.ref a)) (e:=e) (au:=au) (h₀:=h₀) x (rel.h _) ext λay aB fX aX=>?_;have U:=hs (.ref a) σ ρ ay aB
  cases B:C σ with
  | stuck=>rw[B] at u;exact absurd rfl u
  | exc y z=>rw[B] at u;exact absurd rfl u
  | ok f aa=>
   (try rw[B] at U);(try rw[B] at u);(try dsimp only at u ⊢)
   refine aap U (λwf d6 W=>?_) λzZ zZ h=>h.elim;refine xd W λav bA dK rf=>?_
   try clear W
   exact(ze f aa av rfl bA.N2 (fX.trans dK) rf)
 ·rw[if_neg D] at u;exact absurd rfl u
theorem Z5(fk:aV F){target e:Expr}{m:M V}(h:aU K F e m):wY K F target e (do let v <- m;lm v):=by
 intro σ ρ s rel u;refine aap (Run.bq (h σ ρ s rel) u λv J ai af w e1 Y D Z rv=>?_) (λB B q=>q) λB B q=>q;rw[Y] at u ⊢;unfold lm at u ⊢
 cases v with
 | obj l=>
  dsimp only at u ⊢
  cases C:J.st[l]? with
  | none=>rw[C] at u;exact absurd rfl u
  | some c=>
   cases c with
   | aP k i d=>
    rw[C] at u;dsimp only at u ⊢;refine ya (Rep.aN.mp rv) λa O Bd=>?_;obtain rfl:=Bd;refine xd (D.cell l a _ O C) λo U W B=>?_
    refine g9 U W ⟨a,λB=>qg l,J,af,ai,[],λi h=>i=0->∃o,h.get? a=aac o/\o.cls = .type "list_iterator",[],rfl,rfl,D,Z,?_,Ext.refl ..,?_,?_,λB=>(ja o U W)⟩
    ·exact D.adds (λt G=>by(exfalso;exact nomatch G)) (λB B e=>e) rfl rfl (λt G=>by(exfalso;exact nomatch G))
    ·intro b hb;(exfalso;exact nomatch hb)
    ·intro F' Jh sf;exact OG Jh sf O
   | _=>rw[C] at u;exact absurd rfl u
 | _=>exact absurd rfl u
end
section
variable{K:aW}{F:bd}
theorem Z6{prog:aa0}{w:abC}{h:aat}{a:aai}{i:Int}{v:aaf}(d:h.DictOf (aio prog w) a [(i,v)]):∃o es n,h.get? a=aac o/\o.cls = .type "dict" /\ o.data = .dict es n/\¬adc es:=by
 refine wrap λD u=>?_;obtain⟨o,es,G,g,B,hd,hk,C,_⟩:=d;refine u ?_;clear u D;refine ye B λc U=>?_
 try clear B
 refine(ze o es G g c hd (λJ=>?_))
 generalize O:es.toList=l at C
 cases C with
 | cons h1 _ _=>
  refine qq (J _ (Array.mem_toList_iff.mp (by rw[O];exact aaS))) λn t e=>?_
  rw[e] at h1
  (injection h1)
@[irreducible] noncomputable def m8:M V:=pure .gN
theorem Pm:m8=pure .gN:=by delta m8;rfl
theorem Z7(i j:Int)(k1 k2:Nat)(p1 B pos:Pos):aU K F (.Dict [aac (.Constant (.int i) k1 p1)] [.Constant (.int j) k2 B] pos) m8:=by
 refine aab Pm ?_;intro σ ρ s rel
 have hk:∀b o,s.heap.get? b=aac o->(s.heap.push {cls:= .type "dict",data:= .dict #[]}).get? b=aac o:=λb o e=>aaj _ e
 refine Run.ok (wpAny_Dict_walk (knd:=aio K.prog K.w) rfl rfl (by simp) (aii 1 14) (pairTrees_cons_walk (afh (afh (pairTrees_nil_walk ⟨[(i,_)],⟨by simp[aio,Value.isInt],rfl,trivial⟩,?_,λh' hd C=>?_⟩)))))
 ·exact⟨_,#[],0,aaA _ rfl,⟨rfl,rfl,rfl⟩,rfl,(by intro e D;simp at D),.nil,aiA⟩
 ·have u:∀b o,s.heap.get? b=aac o->h'.get? b=aac o:=λb o e=>(C.2 b (abp (abG e))).trans (hk b o e);refine gd (Z6 (i:=i) hd) λo es n g c d k=>?_;exact(je ρ (rel.kept u rfl rfl) (Ext.kept u) (Rep.eD.mpr (qj _ o es n rfl g c d k)))
noncomputable def ss:V->M Bool
 | .none=>λσ=>.ok false σ
 | v=>bi v
theorem Z8:qO K ss:=by
 intro F B σ ρ s a C rel ra;have base:=qf (K:=K) F B σ ρ s a C rel ra
 cases a with
 | none=>rw[Rep.bx.mp ra];exact Run.ok (λu u u=>(⟨ρ,rel,Ext.refl ..,rfl⟩ : ∃av,Rel K F σ av s/\Ext F.mine ρ av s.heap s.heap/\iG s.heap av false false))
 | _=>exact base
theorem Pn{x y:Str}(h:y=x){k:Nat}{pos:Pos}:aU K F (.Constant (.str y) k pos) (pure (.str x)):=h▸VS y k pos
end
noncomputable def Z9(LM:Nat->List V->bj):V->M Unit:=(qk 3 (gu (λv=>aR "k" v) (gu (λv=>aR "order" v) (gu (λv=>aR "elem" v) (λ_=>pure ())))))
noncomputable def gbz(LM:Nat->List V->bj):M Bool:=(pure true:M Bool)
noncomputable def zb0(LM:Nat->List V->bj)(l:Nat):M Unit:=(do let v <- (ah "elem");yn l v)
noncomputable def xcg(LM:Nat->List V->bj)(l:Nat)(u:S->Nat->Option (Option V)):M Unit:=y4 4096 (Z9 LM) (gbz LM) (zb0 LM l) u
noncomputable def DY(LM:Nat->List V->bj):M Fl:=(do let v <- ((ah "result") >>= jn [] (xcg LM));pure (.ret v):M Fl)
noncomputable def Pp(LM:Nat->List V->bj):M Fl:=(do let a <- ah "order";let b <- (pure (V.int 1):M V);let c <- Dd a b;aR "order" c;pure .next:M Fl)
noncomputable def Pq(LM:Nat->List V->bj):M Fl:=(aS (do let v <- (do let o <- (ah "result");let i <- (pure (V.int 0):M V);b0 o i);(qk 3 (gu (λv=>aR "top" v) (gu (λv=>aR "_order" v) (gu (λv=>aR "_elem" v) (λ_=>pure ()))))) v;pure .next:M Fl) (Pp LM))
noncomputable def Pr(LM:Nat->List V->bj):M Fl:=(do if(<- (do let a <- (ah "top");let b <- (ah "k");let c <- ltV a b;bi c))=true then(aS (do let _ <- (do let v <- ah "_heapreplace";zP "heapreplace" v;let vs <- (do let v <- (ah "result");let vs <- (do let v <- (do let vs <- (do let v <- (ah "k");let vs <- (do let v <- (ah "order");let vs <- (do let v <- (ah "elem");let vs <- (pure []:M (List V));pure (v::vs));pure (v::vs));pure (v::vs));lA vs);let vs <- (pure []:M (List V));pure (v::vs));pure (v::vs));wg z6 vs);pure .next:M Fl) (Pq LM)) else(pure .next:M Fl):M Fl)
noncomputable def JJ(LM:Nat->List V->bj):V->M Unit:=(λv=>aR "elem" v)
noncomputable def JK(LM:Nat->List V->bj):M Fl:=(aS (do let v <- (do let f <- ah "key";mT f;let v <- (ah "elem");cU LM f [v]);(λv=>aR "k" v) v;pure .next:M Fl) (Pr LM))
noncomputable def DZ(LM:Nat->List V->bj):M Fl:=(aS (do let _ <- (do let u <- (ah "result");cb u;qu u);pure .next:M Fl) (DY LM))
noncomputable def JL(LM:Nat->List V->bj):M Fl:=(aS (do let v <- (ah "it");let nx <- lm v;bo nx (JJ LM) (JK LM) 4096 0) (DZ LM))
noncomputable def Ps(LM:Nat->List V->bj):M Fl:=(aS (do let v <- (pure (V.fn "heapreplace"):M V);(λv=>aR "_heapreplace" v) v;pure .next:M Fl) (JL LM))
noncomputable def Pt(LM:Nat->List V->bj):M Fl:=(aS (do let v <- (do let a <- (ah "n");ev a);(λv=>aR "order" v) v;pure .next:M Fl) (Ps LM))
noncomputable def Pu(LM:Nat->List V->bj):M Fl:=(aS (do let v <- (do let o <- (do let o <- (ah "result");let i <- (pure (V.int 0):M V);b0 o i);let i <- (pure (V.int 0):M V);b0 o i);(λv=>aR "top" v) v;pure .next:M Fl) (Pt LM))
noncomputable def Pw(LM:Nat->List V->bj):M Fl:=(aS (do let _ <- (do let vs <- (do let v <- (ah "result");let vs <- (pure []:M (List V));pure (v::vs));wg xH vs);pure .next:M Fl) (Pu LM))
noncomputable def JM(LM:Nat->List V->bj):V->M Unit:=(qk 2 (gu (λv=>aR "i" v) (gu (λv=>aR "elem" v) (λ_=>pure ()))))
noncomputable def kbr(LM:Nat->List V->bj):M Bool:=(pure true:M Bool)
noncomputable def JN(LM:Nat->List V->bj)(l:Nat):M Unit:=(do let v <- (do let vs <- (do let v <- (do let f <- ah "key";mT f;let v <- (ah "elem");cU LM f [v]);let vs <- (do let v <- (ah "i");let vs <- (do let v <- (ah "elem");let vs <- (pure []:M (List V));pure (v::vs));pure (v::vs));pure (v::vs));lA vs);yn l v)
noncomputable def Px(LM:Nat->List V->bj)(l:Nat)(nx:Nat->M (Option V)):M Unit:=xw 4096 (JM LM) (kbr LM) (JN LM l) nx
noncomputable def D0(LM:Nat->List V->bj):M Fl:=(aS (do if(<- (do let b <- (do let v <- (ah "result");bi v);pure (!b)))=true then(do let v <- (ah "result");pure (.ret v):M Fl) else(pure .next:M Fl):M Fl) (Pw LM))
noncomputable def yz(LM:Nat->List V->bj):M Fl:=(aS (do let v <- ((do let r <- (do let vs <- (do let v <- (pure (V.int 0):M V);let vs <- (do let v <- (do let a <- (ah "n");ev a);let vs <- (do let v <- (do let a <- (pure (V.int 1):M V);iM a);let vs <- (pure []:M (List V));pure (v::vs));pure (v::vs));pure (v::vs));ky vs);let v <- (ah "it");nK r v) >>= yh ["key"] (Px LM));(λv=>aR "result" v) v;pure .next:M Fl) (D0 LM))
noncomputable def xbr(LM:Nat->List V->bj):V->M Unit:=(qk 2 (gu (λv=>aR "elem" v) (gu (λv=>aR "order" v) (λ_=>pure ()))))
noncomputable def gbr(LM:Nat->List V->bj):M Bool:=(pure true:M Bool)
noncomputable def zbs(LM:Nat->List V->bj)(l:Nat):M Unit:=(do let v <- (ah "elem");yn l v)
noncomputable def jca(LM:Nat->List V->bj)(l:Nat)(u:S->Nat->Option (Option V)):M Unit:=y4 4096 (xbr LM) (gbr LM) (zbs LM l) u
noncomputable def D1(LM:Nat->List V->bj):M Fl:=(do let v <- ((ah "result") >>= jn [] (jca LM));pure (.ret v):M Fl)
noncomputable def Py(LM:Nat->List V->bj):M Fl:=(do let a <- ah "order";let b <- (pure (V.int 1):M V);let c <- Dd a b;aR "order" c;pure .next:M Fl)
noncomputable def Pz(LM:Nat->List V->bj):M Fl:=(aS (do let v <- (do let o <- (ah "result");let i <- (pure (V.int 0):M V);b0 o i);(qk 2 (gu (λv=>aR "top" v) (gu (λv=>aR "_order" v) (λ_=>pure ())))) v;pure .next:M Fl) (Py LM))
noncomputable def JO(LM:Nat->List V->bj):V->M Unit:=(λv=>aR "elem" v)
noncomputable def JP(LM:Nat->List V->bj):M Fl:=(do if(<- (do let a <- (ah "top");let b <- (ah "elem");let c <- ltV a b;bi c))=true then(aS (do let _ <- (do let v <- ah "_heapreplace";zP "heapreplace" v;let vs <- (do let v <- (ah "result");let vs <- (do let v <- (do let vs <- (do let v <- (ah "elem");let vs <- (do let v <- (ah "order");let vs <- (pure []:M (List V));pure (v::vs));pure (v::vs));lA vs);let vs <- (pure []:M (List V));pure (v::vs));pure (v::vs));wg z6 vs);pure .next:M Fl) (Pz LM)) else(pure .next:M Fl):M Fl)
noncomputable def D2(LM:Nat->List V->bj):M Fl:=(aS (do let _ <- (do let u <- (ah "result");cb u;qu u);pure .next:M Fl) (D1 LM))
noncomputable def JQ(LM:Nat->List V->bj):M Fl:=(aS (do let v <- (ah "it");let nx <- lm v;bo nx (JO LM) (JP LM) 4096 0) (D2 LM))
noncomputable def PA(LM:Nat->List V->bj):M Fl:=(aS (do let v <- (pure (V.fn "heapreplace"):M V);(λv=>aR "_heapreplace" v) v;pure .next:M Fl) (JQ LM))
noncomputable def PB(LM:Nat->List V->bj):M Fl:=(aS (do let v <- (do let a <- (ah "n");ev a);(λv=>aR "order" v) v;pure .next:M Fl) (PA LM))
noncomputable def PC(LM:Nat->List V->bj):M Fl:=(aS (do let v <- (do let o <- (do let o <- (ah "result");let i <- (pure (V.int 0):M V);b0 o i);let i <- (pure (V.int 0):M V);b0 o i);(λv=>aR "top" v) v;pure .next:M Fl) (PB LM))
noncomputable def PD(LM:Nat->List V->bj):M Fl:=(aS (do let _ <- (do let vs <- (do let v <- (ah "result");let vs <- (pure []:M (List V));pure (v::vs));wg xH vs);pure .next:M Fl) (PC LM))
noncomputable def PE(LM:Nat->List V->bj):V->M Unit:=(qk 2 (gu (λv=>aR "i" v) (gu (λv=>aR "elem" v) (λ_=>pure ()))))
noncomputable def ybs(LM:Nat->List V->bj):M Bool:=(pure true:M Bool)
noncomputable def jbs(LM:Nat->List V->bj)(l:Nat):M Unit:=(do let v <- (do let vs <- (do let v <- (ah "elem");let vs <- (do let v <- (ah "i");let vs <- (pure []:M (List V));pure (v::vs));pure (v::vs));lA vs);yn l v)
noncomputable def wca(LM:Nat->List V->bj)(l:Nat)(nx:Nat->M (Option V)):M Unit:=xw 4096 (PE LM) (ybs LM) (jbs LM l) nx
noncomputable def JR(LM:Nat->List V->bj):M Fl:=(aS (do if(<- (do let b <- (do let v <- (ah "result");bi v);pure (!b)))=true then(do let v <- (ah "result");pure (.ret v):M Fl) else(pure .next:M Fl):M Fl) (PD LM))
noncomputable def D3(LM:Nat->List V->bj):M Fl:=(aS (do let v <- ((do let r <- (do let vs <- (do let v <- (pure (V.int 0):M V);let vs <- (do let v <- (do let a <- (ah "n");ev a);let vs <- (do let v <- (do let a <- (pure (V.int 1):M V);iM a);let vs <- (pure []:M (List V));pure (v::vs));pure (v::vs));pure (v::vs));ky vs);let v <- (ah "it");nK r v) >>= yh [] (wca LM));(λv=>aR "result" v) v;pure .next:M Fl) (JR LM))
noncomputable def jz(LM:Nat->List V->bj):M Fl:=(aS (do let v <- (do let vs <- (do let v <- (ah "iterable");let vs <- (pure []:M (List V));pure (v::vs));jp vs);(λv=>aR "it" v) v;pure .next:M Fl) (yz LM))
noncomputable def JS(LM:Nat->List V->bj):M Fl:=(do let v <- (do let vs <- (do let v <- (ah "iterable");let vs <- (pure []:M (List V));pure (v::vs));dR vs);(λv=>aR "size" v) v;pure .next:M Fl)
noncomputable def wbs(LM:Nat->List V->bj):M Fl:=(pure .next:M Fl)
noncomputable def xt(LM:Nat->List V->bj):M Fl:=(do if(<- (do let a <- (ah "n");let b <- (ah "size");let c <- sr a b;bi c))=true then(do let v <- (do let o <- (do let v <- (ah "iterable");let b <- (ah "key");qx LM v b);let i <- (do let a <- (pure V.none:M V);let b <- (ah "n");let c <- (pure V.none:M V);pure (a,b,c));zp o i);pure (.ret v):M Fl) else(pure .next:M Fl):M Fl)
noncomputable def ji(LM:Nat->List V->bj):M Fl:=(aS (do if(<- (do let a <- (ah "key");let b <- (pure V.none:M V);let c <- oA a b;bi c))=true then(aS (do let v <- (do let vs <- (do let v <- (ah "iterable");let vs <- (pure []:M (List V));pure (v::vs));jp vs);(λv=>aR "it" v) v;pure .next:M Fl) (D3 LM)) else(pure .next:M Fl):M Fl) (jz LM))
noncomputable def JT(LM:Nat->List V->bj):M Fl:=(do let v <- (do if(<- (do let a <- (ah "result");let b <- (ah "sentinel");let c <- oA a b;bi c))=true then(do let vs <- (pure []:M (List V));cB vs) else(do let vs <- (do let v <- (ah "result");let vs <- (pure []:M (List V));pure (v::vs));cB vs));pure (.ret v):M Fl)
noncomputable def D4(LM:Nat->List V->bj):M Fl:=(aS (do let v <- (do let v <- (ah "it");let a <- (ah "sentinel");let b <- (ah "key");ik LM v a b);(λv=>aR "result" v) v;pure .next:M Fl) (JT LM))
noncomputable def kq(LM:Nat->List V->bj):M Fl:=(aS (do let v <- (do let vs <- (pure []:M (List V));zO vs);(λv=>aR "sentinel" v) v;pure .next:M Fl) (D4 LM))
noncomputable def qp(LM:Nat->List V->bj):M Fl:=(aS (o4 (JS LM) (nN (wbs LM)) (xt LM)) (ji LM))
noncomputable def xl(LM:Nat->List V->bj):M Fl:=(aS (do if(<- (do let a <- (ah "n");let b <- (pure (V.int 1):M V);let c <- lp a b;bi c))=true then(aS (do let v <- (do let vs <- (do let v <- (ah "iterable");let vs <- (pure []:M (List V));pure (v::vs));jp vs);(λv=>aR "it" v) v;pure .next:M Fl) (kq LM)) else(pure .next:M Fl):M Fl) (qp LM))
noncomputable def zt(LM:Nat->List V->bj):bj:=cZ ["n", "iterable", "key"] (xl LM)
noncomputable abbrev gK:aa0:=adN
noncomputable def bF:List String:=["AttributeError", "TypeError", "iter", "len", "max", "min", "object", "range", "reversed", "sorted", "zip"]
noncomputable def Be:acP:=oI gK 10
noncomputable def bz:Str:=aae "law.<locals>.<lambda>"
noncomputable def cY:Nat->fK
 | 0=>Pk ["asked"] (ZD (ZC (A3 (ZB (A3 Be.body 2)) 5)))
 | _=>Pk [] sq
noncomputable def Bf:M V:=(do let v <- (do let u <- (ah "asked");cb u;let vs <- (do let v <- (ah "thing");let vs <- (pure []:M (List V));pure (v::vs));rs u vs);if(<- ss v)=true then pure v else(do let o <- (ah "thing");let i <- (pure (V.int 0):M V);b0 o i))
noncomputable def LM:Nat->List V->bj
 | 0=>rZ "thing" ["asked"] Bf
 | _=>λ_ _ _=>.stuck
theorem xdq{K:aW}(C:K.cY=cY)(J:K.bz=bz)(O:∀x∈bF,K.mg (aae x)=aam):ll K 1 LM:=by
 intro k
 match k with
 | 0=>
  refine X0 (lvl:=0) (r:=cY 0) (p:= "thing") (mb:=Bf) (by exact aab C rfl) (by kernel_rfl) (by kernel_rfl) (by kernel_rfl) (ZA (by kernel_rfl)) (by kernel_rfl) (by intro x B;replace B:x∈["asked"]:=B;simp only[aay,aaJ,or_false] at B;rcases B with rfl<;>kernel_rfl) (λpm D U cl w=>by rfl) λL fa D cl A hr u=>?_
  exact(Mz (VU u Z8 (Wf u afQ PySem.F.type_list_append (za u "asked" _) (zb (za u "thing" _) zd) M6) (My (yi u _ (za u "thing" _) (kc 0 _ _)))))
 | k+1=>intro A _ st ρ s _ _ l a cK vs ws _ _ _ G;exact absurd rfl G
noncomputable def gcq:acP:=oI gK 3
theorem qbs{K:aW}(C:∀d∈abF gK,d∈abF K.p)(G:∀x∈bF,K.mg (aae x)=aam):cN K "_siftdown" 1 xG:=by
 refine rH (d:=gcq) (lvl:=0) (C _ (abn.mpr ⟨2,by kernel_rfl⟩)) (by kernel_rfl) (by kernel_rfl) (by kernel_rfl) (by kernel_rfl) (by decide) ?_ ?_ ?_
 ·intro pm code doc ws h;refine F6 (vP h) λJ O U D=>?_;obtain rfl:=D
  rfl
 ·intro n y B;simp only[aay,aaJ,or_false] at B
  rcases B with rfl | rfl | rfl
  ·exact .inl (by kernel_rfl)
  ·exact .inl (by kernel_rfl)
  ·exact .inl (by kernel_rfl)
 ·intro pm code doc L fa A hr u;show jj K _ _ IN
  exact(zc (yd _ (yc "newitem" _ u (by kernel_rfl)) (yi u _ (za u "heap" _) (za u "pos" _))) (zc (MD _ 4096 (kf u HU qf _ (za u "pos" _) (za u "startpos" _)) (zc (yd _ (yc "parentpos" _ u (by kernel_rfl)) (yf u Wr _ (yf u HI _ (za u "pos" _) (kc 1 _ _)) (kc 1 _ _))) (zc (yd _ (yc "parent" _ u (by kernel_rfl)) (yi u _ (za u "heap" _) (za u "parentpos" _))) (zc (wm _ (kf u rn qf _ (za u "newitem" _) (za u "parent" _)) (zc (yd _ (uP u _ (za u "heap" _) (za u "pos" _)) (za u "parent" _)) (zc (yd _ (yc "pos" _ u (by kernel_rfl)) (za u "parentpos" _)) (kd (VZ _)))) gk) (kd (VY _)))))) (kd (yd _ (uP u _ (za u "heap" _) (za u "pos" _)) (za u "newitem" _)))))
noncomputable def wc5:acP:=oI gK 4
theorem qca{K:aW}(C:∀d∈abF gK,d∈abF K.p)(D:∀x∈bF,K.mg (aae x)=aam)(G:cN K "_siftdown" 1 xG):cN K "_siftup" 2 x9:=by
 refine rH (d:=wc5) (lvl:=1) (C _ (abn.mpr ⟨3,by kernel_rfl⟩)) (by kernel_rfl) (by kernel_rfl) (by kernel_rfl) (by kernel_rfl) (by decide) ?_ ?_ ?_
 ·intro pm code doc ws h;refine qq (mK h) λO U J=>?_;obtain rfl:=J
  rfl
 ·intro n y B;simp only[aay,aaJ,or_false] at B
  rcases B with rfl | rfl
  ·exact .inl (by kernel_rfl)
  ·exact .inl (by kernel_rfl)
 ·intro pm code doc L fa A hr u;show jj K _ _ IP
  exact(zc (yd _ (yc "endpos" _ u (by kernel_rfl)) (yg u rfl (by kernel_rfl) (D "len" (by decide)) (by kernel_rfl) jt (zb (za u "heap" _) zd))) (zc (yd _ (yc "startpos" _ u (by kernel_rfl)) (za u "pos" _)) (zc (yd _ (yc "newitem" _ u (by kernel_rfl)) (yi u _ (za u "heap" _) (za u "pos" _))) (zc (yd _ (yc "childpos" _ u (by kernel_rfl)) (yf u jy _ (yf u M5 _ (kc 2 _ _) (za u "pos" _)) (kc 1 _ _))) (zc (MD _ 4096 (kf u rn qf _ (za u "childpos" _) (za u "endpos" _)) (zc (yd _ (yc "rightpos" _ u (by kernel_rfl)) (yf u jy _ (za u "childpos" _) (kc 1 _ _))) (zc (wm _ (y6 _ (xv (kf u rn qf _ (za u "rightpos" _) (za u "endpos" _)) (xv (k8 _ (kf u rn qf _ (yi u _ (za u "heap" _) (za u "childpos" _)) (yi u _ (za u "heap" _) (za u "rightpos" _)))) CN))) (kd (yd _ (yc "childpos" _ u (by kernel_rfl)) (za u "rightpos" _))) gk) (zc (yd _ (uP u _ (za u "heap" _) (za u "pos" _)) (yi u _ (za u "heap" _) (za u "childpos" _))) (zc (yd _ (yc "pos" _ u (by kernel_rfl)) (za u "childpos" _)) (kd (yd _ (yc "childpos" _ u (by kernel_rfl)) (yf u jy _ (yf u M5 _ (kc 2 _ _) (za u "pos" _)) (kc 1 _ _))))))))) (zc (yd _ (uP u _ (za u "heap" _) (za u "pos" _)) (za u "newitem" _)) (kd (zw u _ (jk u G (hr.le (by decide)) (zb (za u "heap" _) (zb (za u "startpos" _) (zb (za u "pos" _) zd))))))))))))
noncomputable def yb0:acP:=oI gK 1
theorem zbe{K:aW}(C:∀d∈abF gK,d∈abF K.p)(J:∀x∈bF,K.mg (aae x)=aam)(D:cN K "_siftup" 2 x9):cN K "heapreplace" 3 z6:=by
 refine rH (d:=yb0) (lvl:=2) (C _ (abn.mpr ⟨0,by kernel_rfl⟩)) (by kernel_rfl) (by kernel_rfl) (by kernel_rfl) (by kernel_rfl) (by decide) ?_ ?_ ?_
 ·intro pm code doc ws h;refine qq (mK h) λO U G=>?_;obtain rfl:=G
  rfl
 ·intro n y B;simp only[aay,aaJ,or_false] at B
  rcases B with rfl | rfl
  ·exact .inl (by kernel_rfl)
  ·exact .inl (by kernel_rfl)
 ·intro pm code doc L fa A hr u;show jj K _ _ IQ
  exact(zc (yd _ (yc "returnitem" _ u (by kernel_rfl)) (yi u _ (za u "heap" _) (kc 0 _ _))) (zc (yd _ (uP u _ (za u "heap" _) (kc 0 _ _)) (za u "item" _)) (zc (zw u _ (jk u D (hr.le (by decide)) (zb (za u "heap" _) (zb (kc 0 _ _) zd)))) (kd (jh _ (za u "returnitem" _))))))
noncomputable def xcy:acP:=oI gK 2
theorem jb0{K:aW}(D:∀d∈abF gK,d∈abF K.p)(B:∀x∈bF,K.mg (aae x)=aam)(G:cN K "_siftup" 2 x9):cN K "heapify" 3 xH:=by
 refine rH (d:=xcy) (lvl:=2) (D _ (abn.mpr ⟨1,by kernel_rfl⟩)) (by kernel_rfl) (by kernel_rfl) (by kernel_rfl) (by kernel_rfl) (by decide) ?_ ?_ ?_
 ·intro pm code doc ws h;refine xc (rG h) λO J=>?_;obtain rfl:=J
  rfl
 ·intro n y C;simp only[aay,aaJ,or_false] at C;subst C
  ·exact .inl (by kernel_rfl)
 ·intro pm code doc L fa A hr u;show jj K _ _ IS
  exact(zc (yd _ (yc "n" _ u (by kernel_rfl)) (yg u rfl (by kernel_rfl) (B "len" (by decide)) (by kernel_rfl) jt (zb (za u "x" _) zd))) (kd (WQ u _ 4096 (by kernel_rfl) (B "reversed" (by decide)) (yg u rfl (by kernel_rfl) (B "range" (by decide)) (by kernel_rfl) Ih (zb (yf u C6 _ (za u "n" _) (kc 2 _ _)) zd)) (yc "i" _ u (by kernel_rfl)) (kd (zw u _ (jk u G (hr.le (by decide)) (zb (za u "x" _) (zb (za u "i" _) zd))))))))
noncomputable def zcr:acP:=oI gK 5
theorem kbs{K:aW}(W:∀d∈ad0 gK,d∈ad0 K.p)(B:∀x∈bF,K.mg (aae x)=aam)(G:∀ow,ll (K.adds ow) 1 LM)(O:cN K "heapify" 3 xH)(J:cN K "heapreplace" 3 z6):Dy K "nlargest" (aae "key") 5 (zt LM):=by
 refine XM (d:=(zcr,[ajg])) (lvl:=4) (W _ (abn.mpr ⟨0,by kernel_rfl⟩)) (by kernel_rfl) (by kernel_rfl) (by kernel_rfl) (by kernel_rfl) (by kernel_rfl) (by decide) ?_ ?_ ?_
 ·intro pm code doc T args ws h;obtain⟨a,b,c,rfl,h⟩:=h
  rcases h with rfl | ⟨rfl,rfl⟩ | rfl
  all_goals exact(ja _ rfl rfl)
 ·intro n y U;simp only[aay,aaJ,or_false] at U
  rcases U with rfl | rfl | rfl
  ·exact .inl (by kernel_rfl)
  ·exact .inl (by kernel_rfl)
  ·exact .inr ⟨by kernel_rfl,rfl⟩
 ·intro pm code doc L fa A hr u;show jj K _ _ (xl LM)
  exact(zc (wm _ (kf u ZS qf _ (za u "n" _) (kc 1 _ _)) (zc (yd _ (yc "it" _ u (by kernel_rfl)) (yg u rfl (by kernel_rfl) (B "iter" (by decide)) (by kernel_rfl) JI (zb (za u "iterable" _) zd))) (zc (yd _ (yc "sentinel" _ u (by kernel_rfl)) (yg u rfl (by kernel_rfl) (B "object" (by decide)) (by kernel_rfl) Yz zd)) (zc (yd _ (yc "result" _ u (by kernel_rfl)) (YN u (G []) (hr.le (by decide)) (by kernel_rfl) (B "max" (by decide)) (za u "it" _) (za u "sentinel" _) (za u "key" _))) (kd (jh _ (y3 _ (kf u G7 qf _ (za u "result" _) (za u "sentinel" _)) (zo _ zd) (zo _ (zb (za u "result" _) zd)))))))) gk) (zc (Zx u (kd (yd _ (yc "size" _ u (by kernel_rfl)) (yg u rfl (by kernel_rfl) (B "len" (by decide)) (by kernel_rfl) Zq (zb (za u "iterable" _) zd)))) (Zu u (by kernel_rfl) (B "TypeError" (by decide)) (by kernel_rfl) (by kernel_rfl) (B "AttributeError" (by decide)) (by kernel_rfl) (λv=>(kd (VX _)))) (kd (wm _ (Xj u ZQ qf _ (za u "n" _) (za u "size" _)) (kd (jh _ (ww u _ _ (Zm u (G []) (hr.le (by decide)) (by kernel_rfl) (B "sorted" (by decide)) (za u "iterable" _) (za u "key" _)) gj (xz (za u "n" _)) gj))) gk))) (zc (wm _ (kf u G7 qf _ (za u "key" _) (kz _ _)) (zc (yd _ (yc "it" _ u (by kernel_rfl)) (yg u rfl (by kernel_rfl) (B "iter" (by decide)) (by kernel_rfl) JI (zb (za u "iterable" _) zd))) (zc (N1 u ⟨rfl,rfl,by decide +kernel,by decide +kernel,(by intro x D;(exfalso;exact nomatch D)),(by intro x c h;(injection h))⟩ (yc "result" _ u (by kernel_rfl)) (OM u (by kernel_rfl) (B "zip" (by decide)) (yg u rfl (by kernel_rfl) (B "range" (by decide)) (by kernel_rfl) Nl (zb (kc 0 _ _) (zb (DW u _ (za u "n" _)) (zb (Mw u HT _ (kc 1 _ _)) zd)))) (za u "it" _)) (λow C=>IH 4096 rfl (λacc=>y9 rfl rfl (test:=aam) rfl) (w3 (aV.comp u rfl) _ _ (gh (yc "i" _ (aV.comp u rfl) (by kernel_rfl)) (gh (yc "elem" _ (aV.comp u rfl) (by kernel_rfl)) z9))) wy (λl a=>gz (aV.comp u rfl) (gv _ _ (zb (za (aV.comp u rfl) "elem" _) (zb (za (aV.comp u rfl) "i" _) zd))) l a))) (zc (wm _ (k8 _ (w8 u qf (za u "result" _))) (kd (jh _ (za u "result" _))) gk) (zc (zw u _ (jk u O (hr.le (by decide)) (zb (za u "result" _) zd))) (zc (yd _ (yc "top" _ u (by kernel_rfl)) (yi u _ (yi u _ (za u "result" _) (kc 0 _ _)) (kc 0 _ _))) (zc (yd _ (yc "order" _ u (by kernel_rfl)) (DW u _ (za u "n" _))) (zc (yd _ (yc "_heapreplace" _ u (by kernel_rfl)) (OS u J)) (zc (OH u _ 4096 (za u "it" _) (yc "elem" _ u (by kernel_rfl)) (kd (wm _ (kf u rn qf _ (za u "top" _) (za u "elem" _)) (zc (zw u _ (OT u J (hr.le (by decide)) (zb (za u "result" _) (zb (gv _ _ (zb (za u "elem" _) (zb (za u "order" _) zd))) zd)))) (zc (yd _ (w3 u _ _ (gh (yc "top" _ u (by kernel_rfl)) (gh (yc "_order" _ u (by kernel_rfl)) z9))) (yi u _ (za u "result" _) (kc 0 _ _))) (kd (Nz u Ny "order" _ (by kernel_rfl) (kc 1 _ _))))) gk))) (zc (zw u _ (O9 u (za u "result" _))) (kd (jh _ (Dc u ⟨rfl,rfl,by decide +kernel,by decide +kernel,(by intro x D;(exfalso;exact nomatch D)),(by intro x c h;(injection h))⟩ (za u "result" _) (λC=>vi 4096 rfl (λacc=>y9 rfl rfl (test:=aam) rfl) (w3 (aV.comp u rfl) _ _ (gh (yc "elem" _ (aV.comp u rfl) (by kernel_rfl)) (gh (yc "order" _ (aV.comp u rfl) (by kernel_rfl)) z9))) wy (λl a=>gz (aV.comp u rfl) (za (aV.comp u rfl) "elem" _) l a)))))))))))))) gk) (zc (yd _ (yc "it" _ u (by kernel_rfl)) (yg u rfl (by kernel_rfl) (B "iter" (by decide)) (by kernel_rfl) JI (zb (za u "iterable" _) zd))) (zc (N1 u ⟨rfl,rfl,by decide +kernel,by decide +kernel,(by intro x D;simp only[aay,aaJ,or_false] at D;rcases D with rfl<;>exact⟨by first | exact .inl (by rfl) | exact .inr (by rfl),De (by kernel_rfl),λc h=>h⟩),(Dg (wE rfl Df))⟩ (yc "result" _ u (by kernel_rfl)) (OM u (by kernel_rfl) (B "zip" (by decide)) (yg u rfl (by kernel_rfl) (B "range" (by decide)) (by kernel_rfl) Nl (zb (kc 0 _ _) (zb (DW u _ (za u "n" _)) (zb (Mw u HT _ (kc 1 _ _)) zd)))) (za u "it" _)) (λow C=>IH 4096 rfl (λacc=>y9 rfl rfl (test:=aam) rfl) (w3 (aV.comp u rfl) _ _ (gh (yc "i" _ (aV.comp u rfl) (by kernel_rfl)) (gh (yc "elem" _ (aV.comp u rfl) (by kernel_rfl)) z9))) wy (λl a=>gz (aV.comp u rfl) (gv _ _ (zb (OE (aV.comp u rfl) (G ow) (hr.le (by decide)) (za (aV.comp u rfl) "elem" _)) (zb (za (aV.comp u rfl) "i" _) (zb (za (aV.comp u rfl) "elem" _) zd)))) l a))) (zc (wm _ (k8 _ (w8 u qf (za u "result" _))) (kd (jh _ (za u "result" _))) gk) (zc (zw u _ (jk u O (hr.le (by decide)) (zb (za u "result" _) zd))) (zc (yd _ (yc "top" _ u (by kernel_rfl)) (yi u _ (yi u _ (za u "result" _) (kc 0 _ _)) (kc 0 _ _))) (zc (yd _ (yc "order" _ u (by kernel_rfl)) (DW u _ (za u "n" _))) (zc (yd _ (yc "_heapreplace" _ u (by kernel_rfl)) (OS u J)) (zc (OH u _ 4096 (za u "it" _) (yc "elem" _ u (by kernel_rfl)) (zc (yd _ (yc "k" _ u (by kernel_rfl)) (OE u (G []) (hr.le (by decide)) (za u "elem" _))) (kd (wm _ (kf u rn qf _ (za u "top" _) (za u "k" _)) (zc (zw u _ (OT u J (hr.le (by decide)) (zb (za u "result" _) (zb (gv _ _ (zb (za u "k" _) (zb (za u "order" _) (zb (za u "elem" _) zd)))) zd)))) (zc (yd _ (w3 u _ _ (gh (yc "top" _ u (by kernel_rfl)) (gh (yc "_order" _ u (by kernel_rfl)) (gh (yc "_elem" _ u (by kernel_rfl)) z9)))) (yi u _ (za u "result" _) (kc 0 _ _))) (kd (Nz u Ny "order" _ (by kernel_rfl) (kc 1 _ _))))) gk)))) (zc (zw u _ (O9 u (za u "result" _))) (kd (jh _ (Dc u ⟨rfl,rfl,by decide +kernel,by decide +kernel,(by intro x D;(exfalso;exact nomatch D)),(by intro x c h;(injection h))⟩ (za u "result" _) (λC=>vi 4096 rfl (λacc=>y9 rfl rfl (test:=aam) rfl) (w3 (aV.comp u rfl) _ _ (gh (yc "k" _ (aV.comp u rfl) (by kernel_rfl)) (gh (yc "order" _ (aV.comp u rfl) (by kernel_rfl)) (gh (yc "elem" _ (aV.comp u rfl) (by kernel_rfl)) z9)))) wy (λl a=>gz (aV.comp u rfl) (za (aV.comp u rfl) "elem" _) l a)))))))))))))))))
noncomputable def JV:V->M Unit:=(λv=>aR "one" v)
noncomputable def JW:M Bool:=(do let b <- (do let a <- (ah "one");let b <- (ah "thing");let c <- ltV a b;bi c);pure (!b))
noncomputable def kca(l:Nat):M Unit:=(do let v <- (ah "one");yn l v)
noncomputable def ycr(l:Nat)(u:S->Nat->Option (Option V)):M Unit:=y4 4096 JV JW (kca l) u
noncomputable def PF:M Fl:=(do let v <- (do let a <- (do let a <- (do let o <- (ah "few");let i <- (do let a <- (pure V.none:M V);let b <- (ah "ahead");let c <- (pure V.none:M V);pure (a,b,c));zp o i);let b <- (do let vs <- (do let v <- (ah "thing");let vs <- (pure []:M (List V));pure (v::vs));cB vs);dM a b);let b <- (do let o <- (ah "few");let i <- (do let a <- (ah "ahead");let b <- (pure V.none:M V);let c <- (pure V.none:M V);pure (a,b,c));zp o i);dM a b);(λv=>aR "few" v) v;pure .next:M Fl)
noncomputable def PG:V->M Unit:=(λv=>lU "thing" v)
noncomputable def PH:M Fl:=(aS (do let v <- (do let vs <- (do let v <- ((ah "few") >>= jn ["thing"] ycr);let vs <- (pure []:M (List V));pure (v::vs));d8 vs);(λv=>aR "ahead" v) v;pure .next:M Fl) PF)
noncomputable def PI:M Fl:=(do let v <- (do let o <- (ah "few");let i <- (do let a <- (pure V.none:M V);let b <- (do let vs <- (do let v <- (ah "wish");let vs <- (do let v <- (pure (V.int 0):M V);let vs <- (pure []:M (List V));pure (v::vs));pure (v::vs));oN vs);let c <- (pure V.none:M V);pure (a,b,c));zp o i);pure (.ret v):M Fl)
noncomputable def PJ:M Fl:=(aS (do let v <- (ah "row");km v;bO (kj v) PG PH 4096 0) PI)
noncomputable def JX:M Fl:=(aS (do let v <- (do let vs <- (pure []:M (List V));cB vs);(λv=>aR "few" v) v;pure .next:M Fl) PJ)
noncomputable def Bk:bj:=cZ ["wish", "row"] JX
noncomputable def gcy:acP:=oI gK 7
theorem wb0{K:aW}(J:∀d∈abF gK,d∈abF K.p)(B:∀x∈bF,K.mg (aae x)=aam):cN K "_law_few" 1 Bk:=by
 refine rH (d:=gcy) (lvl:=0) (J _ (abn.mpr ⟨4,by kernel_rfl⟩)) (by kernel_rfl) (by kernel_rfl) (by kernel_rfl) (by kernel_rfl) (by decide) ?_ ?_ ?_
 ·intro pm code doc ws h;refine qq (mK h) λU W O=>?_;obtain rfl:=O
  rfl
 ·intro n y D;simp only[aay,aaJ,or_false] at D
  rcases D with rfl | rfl
  ·exact .inl (by kernel_rfl)
  ·exact .inl (by kernel_rfl)
 ·intro pm code doc L fa A hr u;show jj K _ _ JX
  exact(zc (yd _ (yc "few" _ u (by kernel_rfl)) (zo _ zd)) (zc (Na u _ 4096 (za u "row" _) (Np "thing" _ u (by kernel_rfl) rfl) (zc (yd _ (yc "ahead" _ u (by kernel_rfl)) (yg u rfl (by kernel_rfl) (B "len" (by decide)) (by kernel_rfl) jt (zb (Dc u ⟨rfl,rfl,by decide +kernel,by decide +kernel,(by intro x G;simp only[aay,aaJ,or_false] at G;rcases G with rfl<;>exact⟨by first | exact .inl (by rfl) | exact .inr (by rfl),De (by kernel_rfl),λc h=>h⟩),(Dg (wE rfl Df))⟩ (za u "few" _) (λC=>vi 4096 rfl (λacc=>y9 rfl rfl (test:=(aac _)) rfl) (yc "one" _ (aV.comp u rfl) (by kernel_rfl)) (Nc (k8 _ (kf (aV.comp u rfl) rn qf _ (za (aV.comp u rfl) "one" _) (za (aV.comp u rfl) "thing" _)))) (λl a=>gz (aV.comp u rfl) (za (aV.comp u rfl) "one" _) l a))) zd))) (kd (yd _ (yc "few" _ u (by kernel_rfl)) (yf u jy _ (yf u jy _ (ww u _ _ (za u "few" _) gj (xz (za u "ahead" _)) gj) (zo _ (zb (za u "thing" _) zd))) (ww u _ _ (za u "few" _) (xz (za u "ahead" _)) gj gj)))))) (kd (jh _ (ww u _ _ (za u "few" _) gj (xz (yg u rfl (by kernel_rfl) (B "max" (by decide)) (by kernel_rfl) W1 (zb (za u "wish" _) (zb (kc 0 _ _) zd)))) gj)))))
noncomputable def yv:M Fl:=(do let v <- (do let vs <- (do let v <- (ah "wish");let vs <- (do let v <- (ah "given");let vs <- (do let v <- (ah "key");let vs <- (pure []:M (List V));pure (v::vs));pure (v::vs));pure (v::vs));I4 (zt LM) vs);pure (.ret v):M Fl)
noncomputable def qb0:M Fl:=(do let v <- (pure V.none:M V);pure (.ret v):M Fl)
noncomputable def D5:M Fl:=(mP yv (nN qb0))
noncomputable def wj:bj:=cZ ["wish", "given", "key"] D5
noncomputable def jcr:acP:=oI gK 8
theorem xbs{K:aW}(C:∀d∈abF gK,d∈abF K.p)(D:∀x∈bF,K.mg (aae x)=aam)(G:Dy K "nlargest" (aae "key") 5 (zt LM)):cN K "_law_call" 6 wj:=by
 refine rH (d:=jcr) (lvl:=5) (C _ (abn.mpr ⟨5,by kernel_rfl⟩)) (by kernel_rfl) (by kernel_rfl) (by kernel_rfl) (by kernel_rfl) (by decide) ?_ ?_ ?_
 ·intro pm code doc ws h;refine F6 (vP h) λO U W J=>?_;obtain rfl:=J
  rfl
 ·intro n y B;simp only[aay,aaJ,or_false] at B
  rcases B with rfl | rfl | rfl
  ·exact .inl (by kernel_rfl)
  ·exact .inl (by kernel_rfl)
  ·exact .inl (by kernel_rfl)
 ·intro pm code doc L fa A hr u;show jj K _ _ D5
  exact(kd (Xi u (kd (jh _ (XO u G (hr.le (by decide)) (zb (za u "wish" _) (zb (za u "given" _) (zb (za u "key" _) zd)))))) (Z4 u (by kernel_rfl) (D "TypeError" (by decide)) (by kernel_rfl) (λv=>(kd (jh _ (kz _ _)))))))
noncomputable def JY:V->M Unit:=(λv=>aR "k" v)
noncomputable def JZ:M Bool:=(do let a <- (do let o <- (ah "one");let i <- (ah "k");b0 o i);let b <- (do let o <- (ah "other");let i <- (ah "k");b0 o i);let c <- pj a b;bi c)
noncomputable def kb0(l:Nat):M Unit:=(do let v <- (ah "k");yn l v)
noncomputable def gcg(l:Nat)(u:S->Nat->Option (Option V)):M Unit:=y4 4096 JY JZ (kb0 l) u
noncomputable def J0:M Fl:=(do let v <- (do let v <- (do let a <- (do let vs <- (do let v <- (ah "one");let vs <- (pure []:M (List V));pure (v::vs));d8 vs);let b <- (do let vs <- (do let v <- (ah "other");let vs <- (pure []:M (List V));pure (v::vs));d8 vs);eG a b);if(<- bi v)=true then(do let a <- ((do let vs <- (do let v <- (do let vs <- (do let v <- (ah "one");let vs <- (pure []:M (List V));pure (v::vs));d8 vs);let vs <- (pure []:M (List V));pure (v::vs));pq vs) >>= jn ["one", "other"] gcg);let b <- (do let vs <- (pure []:M (List V));cB vs);eG a b) else pure v);pure (.ret v):M Fl)
noncomputable def jq:bj:=cZ ["one", "other"] J0
noncomputable def wcr:acP:=oI gK 9
theorem gbs{K:aW}(J:∀d∈abF gK,d∈abF K.p)(B:∀x∈bF,K.mg (aae x)=aam):cN K "_law_same" 1 jq:=by
 refine rH (d:=wcr) (lvl:=0) (J _ (abn.mpr ⟨6,by kernel_rfl⟩)) (by kernel_rfl) (by kernel_rfl) (by kernel_rfl) (by kernel_rfl) (by decide) ?_ ?_ ?_
 ·intro pm code doc ws h;refine qq (mK h) λU W O=>?_;obtain rfl:=O
  rfl
 ·intro n y D;simp only[aay,aaJ,or_false] at D
  rcases D with rfl | rfl
  ·exact .inr ⟨by kernel_rfl,rfl⟩
  ·exact .inr ⟨by kernel_rfl,rfl⟩
 ·intro pm code doc L fa A hr u;show jj K _ _ J0
  exact(kd (jh _ (Mz (VT u qf (Gd u ju _ (yg u rfl (by kernel_rfl) (B "len" (by decide)) (by kernel_rfl) jt (zb (za u "one" _) zd)) (yg u rfl (by kernel_rfl) (B "len" (by decide)) (by kernel_rfl) jt (zb (za u "other" _) zd))) (My (Gd u ju _ (Dc u ⟨rfl,rfl,by decide +kernel,by decide +kernel,(by intro x G;simp only[aay,aaJ,or_false] at G;rcases G with rfl | rfl<;>exact⟨by first | exact .inl (by rfl) | exact .inr (by rfl),De (by kernel_rfl),λc h=>h⟩),(Dg (wE rfl (wE rfl Df)))⟩ (yg u rfl (by kernel_rfl) (B "range" (by decide)) (by kernel_rfl) Ih (zb (yg u rfl (by kernel_rfl) (B "len" (by decide)) (by kernel_rfl) jt (zb (za u "one" _) zd)) zd)) (λC=>vi 4096 rfl (λacc=>y9 rfl rfl (test:=(aac _)) rfl) (yc "k" _ (aV.comp u rfl) (by kernel_rfl)) (Nc (kf (aV.comp u rfl) Hc qf _ (yi (aV.comp u rfl) _ (za (aV.comp u rfl) "one" _) (za (aV.comp u rfl) "k" _)) (yi (aV.comp u rfl) _ (za (aV.comp u rfl) "other" _) (za (aV.comp u rfl) "k" _)))) (λl a=>gz (aV.comp u rfl) (za (aV.comp u rfl) "k" _) l a))) (zo _ zd)))))))
noncomputable def PK:V->M Unit:=(λv=>aR "thing" v)
noncomputable def PL:M Bool:=(pure true:M Bool)
noncomputable def PM(l:Nat):M Unit:=(do let v <- (ah "thing");yn l v)
noncomputable def J1(l:Nat)(nx:Nat->M (Option V)):M Unit:=xw 4096 PK PL (PM l) nx
noncomputable def J2:M Fl:=(do if(<- (do let b <- (do let v <- (do let vs <- (do let v <- (ah "row");let vs <- (do let v <- (ah "kept");let vs <- (pure []:M (List V));pure (v::vs));pure (v::vs));wg jq vs);bi v);pure (!b)))=true then(do let v <- (pure (V.bool false):M V);pure (.ret v):M Fl) else(pure .next:M Fl):M Fl)
noncomputable def J3:M Fl:=(aS (do if(<- (do if(<- (do let v <- (ah "stream");bi v))=true then(do if(<- (do let b <- (do let v <- (do let vs <- (do let v <- ((do let v <- (ah "given");lm v) >>= yh [] J1);let vs <- (do let v <- (do let o <- (ah "kept");let i <- (do let a <- (ah "taken");let b <- (pure V.none:M V);let c <- (pure V.none:M V);pure (a,b,c));zp o i);let vs <- (pure []:M (List V));pure (v::vs));pure (v::vs));wg jq vs);bi v);pure (!b)))=true then(pure true:M Bool) else pure false) else pure false))=true then(do let v <- (pure (V.bool false):M V);pure (.ret v):M Fl) else(pure .next:M Fl):M Fl) J2)
noncomputable def J4:M Fl:=(aS (do if(<- (do let b <- (do let v <- (do let vs <- (do let v <- (ah "asked");let vs <- (do let v <- (do if(<- (do if(<- (do let a <- (ah "fault");let b <- (pure (V.int 0):M V);let c <- eG a b;bi c))=true then(do if(<- (do let a <- (ah "key");let b <- (pure V.none:M V);let c <- pj a b;bi c))=true then(pure true:M Bool) else pure false) else pure false))=true then(do let o <- (ah "row");let i <- (do let a <- (pure V.none:M V);let b <- (ah "taken");let c <- (pure V.none:M V);pure (a,b,c));zp o i) else(do let vs <- (pure []:M (List V));cB vs));let vs <- (pure []:M (List V));pure (v::vs));pure (v::vs));wg jq vs);bi v);pure (!b)))=true then(do let v <- (pure (V.bool false):M V);pure (.ret v):M Fl) else(pure .next:M Fl):M Fl) J3)
noncomputable def D6:M Fl:=(do let v <- (do if(<- (do let a <- (ah "wish");let b <- (pure (V.int 0):M V);let c <- uS a b;bi c))=true then(do let vs <- (do let v <- (pure (V.int 1):M V);let vs <- (do let v <- (do let vs <- (do let v <- (ah "row");let vs <- (pure []:M (List V));pure (v::vs));d8 vs);let vs <- (pure []:M (List V));pure (v::vs));pure (v::vs));oM vs) else(pure (V.int 0):M V));(λv=>aR "taken" v) v;pure .next:M Fl)
noncomputable def PN:M Fl:=(do let v <- (do if(<- (do let a <- (ah "wish");let b <- (pure (V.int 0):M V);let c <- uS a b;bi c))=true then(do let vs <- (do let v <- (ah "row");let vs <- (pure []:M (List V));pure (v::vs));d8 vs) else(pure (V.int 0):M V));(λv=>aR "taken" v) v;pure .next:M Fl)
noncomputable def m9:M Fl:=(aS (do if(<- (do if(<- (do let a <- (ah "fault");let b <- (pure (V.int 0):M V);let c <- eG a b;bi c))=true then pure true else(do if(<- (do if(<- (do let a <- (ah "fault");let b <- (pure (V.int 3):M V);let c <- eG a b;bi c))=true then(do if(<- (do let a <- (ah "taken");let b <- (pure (V.int 0):M V);let c <- eG a b;bi c))=true then(pure true:M Bool) else pure false) else pure false))=true then pure true else(pure false:M Bool))))=true then(do if(<- (do if(<- (do let a <- (ah "told");let b <- (pure V.none:M V);let c <- oA a b;bi c))=true then pure true else(do if(<- (do let b <- (do let v <- (do let vs <- (do let v <- (ah "told");let vs <- (do let v <- (do let vs <- (do let v <- (ah "wish");let vs <- (do let v <- (ah "row");let vs <- (pure []:M (List V));pure (v::vs));pure (v::vs));wg Bk vs);let vs <- (pure []:M (List V));pure (v::vs));pure (v::vs));wg jq vs);bi v);pure (!b)))=true then pure true else(pure false:M Bool))))=true then(do let v <- (pure (V.bool false):M V);pure (.ret v):M Fl) else(pure .next:M Fl):M Fl) else(do if(<- (do let a <- (ah "told");let b <- (pure V.none:M V);let c <- pj a b;bi c))=true then(do let v <- (pure (V.bool false):M V);pure (.ret v):M Fl) else(pure .next:M Fl):M Fl):M Fl) J4)
noncomputable def J5:M Fl:=(aS (do if(<- (do let a <- (ah "fault");let b <- (pure (V.int 1):M V);let c <- eG a b;bi c))=true then(do let v <- (do let vs <- (do let v <- (do let o <- (do let vs <- (do let v <- (pure V.none:M V);let vs <- (do let v <- (pure (V.str (aae "2")):M V);let vs <- (do let v <- (do let vs <- (do let v <- (pure (V.int 2):M V);let vs <- (pure []:M (List V));pure (v::vs));cB vs);let vs <- (do let v <- (do let vs <- (do let v <- (pure (V.int 2):M V);let vs <- (pure []:M (List V));pure (v::vs));lA vs);let vs <- (do let v <- m8;let vs <- (pure []:M (List V));pure (v::vs));pure (v::vs));pure (v::vs));pure (v::vs));pure (v::vs));cB vs);let i <- (do let a <- (ah "y");let b <- (pure (V.int 5):M V);kx a b);b0 o i);let vs <- (do let v <- (ah "given");let vs <- (do let v <- (ah "key");let vs <- (pure []:M (List V));pure (v::vs));pure (v::vs));pure (v::vs));wg wj vs);(λv=>aR "told" v) v;pure .next:M Fl) else(do if(<- (do let a <- (ah "fault");let b <- (pure (V.int 2):M V);let c <- eG a b;bi c))=true then(do let v <- (do let vs <- (do let v <- (ah "wish");let vs <- (do let v <- (do if(<- (do let a <- (do let a <- (ah "y");let b <- (pure (V.int 2):M V);kx a b);let b <- (pure (V.int 1):M V);let c <- eG a b;bi c))=true then(ah "y") else(pure V.none:M V));let vs <- (do let v <- (ah "key");let vs <- (pure []:M (List V));pure (v::vs));pure (v::vs));pure (v::vs));wg wj vs);(λv=>aR "told" v) v;pure .next:M Fl) else(do if(<- (do let a <- (ah "fault");let b <- (pure (V.int 3):M V);let c <- eG a b;bi c))=true then(aS (do let v <- (do let vs <- (do let v <- (ah "wish");let vs <- (do let v <- (ah "given");let vs <- (do let v <- (do let o <- (do let vs <- (do let v <- (pure (V.int 7):M V);let vs <- (do let v <- (pure (V.str (aae "k")):M V);let vs <- (do let v <- (do let vs <- (pure []:M (List V));cB vs);let vs <- (pure []:M (List V));pure (v::vs));pure (v::vs));pure (v::vs));cB vs);let i <- (do let a <- (ah "y");let b <- (pure (V.int 3):M V);kx a b);b0 o i);let vs <- (pure []:M (List V));pure (v::vs));pure (v::vs));pure (v::vs));wg wj vs);(λv=>aR "told" v) v;pure .next:M Fl) D6) else(aS (do let v <- (do let vs <- (do let v <- (ah "wish");let vs <- (do let v <- (ah "given");let vs <- (do let v <- (ah "key");let vs <- (pure []:M (List V));pure (v::vs));pure (v::vs));pure (v::vs));wg wj vs);(λv=>aR "told" v) v;pure .next:M Fl) PN):M Fl):M Fl):M Fl) m9)
noncomputable def J6:M Fl:=(aS (do let v <- (pure (V.int 0):M V);(λv=>aR "taken" v) v;pure .next:M Fl) J5)
noncomputable def D7:M Fl:=(aS (do let v <- (do if(<- (do let v <- (ah "stream");bi v))=true then(do let vs <- (do let v <- (ah "row");let vs <- (pure []:M (List V));pure (v::vs));lF vs) else(ah "row"));(λv=>aR "given" v) v;pure .next:M Fl) J6)
noncomputable def J7:M Fl:=(aS (do let v <- (do if(<- (do let a <- (do let a <- (do let a <- (ah "x");let b <- (pure (V.int 16):M V);oE a b);let b <- (pure (V.int 2):M V);kx a b);let b <- (pure (V.int 1):M V);let c <- eG a b;bi c))=true then(pure V.none:M V) else(oW 0 ["asked"]));(λv=>aR "key" v) v;pure .next:M Fl) D7)
noncomputable def J8:M Fl:=(aS (do let v <- (do let vs <- (do let v <- (do let o <- (ah "row");let i <- (do let a <- (pure V.none:M V);let b <- (pure V.none:M V);let c <- (pure V.none:M V);pure (a,b,c));zp o i);let vs <- (do let v <- (do let vs <- (pure []:M (List V));cB vs);let vs <- (pure []:M (List V));pure (v::vs));pure (v::vs));lA vs);(qk 2 (gu (λv=>aR "kept" v) (gu (λv=>lU "asked" v) (λ_=>pure ())))) v;pure .next:M Fl) J7)
noncomputable def J9:M Fl:=(aS (do let v <- (do let o <- (ah "things");let i <- (do let a <- (do let a <- (ah "j");let b <- (pure (V.int 1):M V);dM a b);let b <- (do let a <- (do let a <- (ah "j");let b <- (pure (V.int 1):M V);dM a b);let b <- (do let a <- (do let a <- (ah "j");let b <- (pure (V.int 2):M V);dM a b);let b <- (pure (V.int 5):M V);kx a b);dM a b);let c <- (pure V.none:M V);pure (a,b,c));zp o i);(λv=>aR "row" v) v;pure .next:M Fl) J8)
noncomputable def PO:M Fl:=(aS (do let v <- (do if(<- (do let a <- (do let a <- (do let a <- (ah "x");let b <- (pure (V.int 8):M V);oE a b);let b <- (pure (V.int 2):M V);kx a b);let b <- (pure (V.int 1):M V);let c <- eG a b;bi c))=true then(ah "y") else(do let a <- (do let a <- (ah "y");let b <- (pure (V.int 6):M V);kx a b);let b <- (pure (V.int 1):M V);lh a b));(λv=>aR "wish" v) v;pure .next:M Fl) J9)
noncomputable def PP:M Fl:=(aS (do let v <- (do let vs <- (do let v <- (do let a <- (ah "x");let b <- (pure (V.int 4):M V);kx a b);let vs <- (do let v <- (do let a <- (do let a <- (do let a <- (ah "x");let b <- (pure (V.int 4):M V);oE a b);let b <- (pure (V.int 2):M V);kx a b);let b <- (pure (V.int 1):M V);eG a b);let vs <- (pure []:M (List V));pure (v::vs));pure (v::vs));lA vs);rM ["fault", "stream"] v;pure .next:M Fl) PO)
noncomputable def PQ:V->M Unit:=(λv=>aR "j" v)
noncomputable def Ka:M Fl:=(aS (do let v <- (do let vs <- (do let v <- (do let o <- (ah "numbers");let i <- (ah "j");b0 o i);let vs <- (do let v <- (do let o <- (ah "numbers");let i <- (do let a <- (ah "j");let b <- (pure (V.int 1):M V);dM a b);b0 o i);let vs <- (pure []:M (List V));pure (v::vs));pure (v::vs));lA vs);rM ["x", "y"] v;pure .next:M Fl) PP)
noncomputable def PR:M Fl:=(do let v <- (pure (V.bool true):M V);pure (.ret v):M Fl)
noncomputable def PS:V->M Unit:=(λv=>aR "x" v)
noncomputable def PT:M Bool:=(pure true:M Bool)
noncomputable def PU(l:Nat):M Unit:=(do let v <- (do let vs <- (do let v <- (do if(<- (do let a <- (do let a <- (ah "x");let b <- (pure (V.int 2):M V);kx a b);let b <- (pure (V.int 1):M V);let c <- eG a b;bi c))=true then(ah "x") else(do let a <- (ah "x");let b <- (pure (V.int 3):M V);kx a b));let vs <- (pure []:M (List V));pure (v::vs));cB vs);yn l v)
noncomputable def Kb(l:Nat)(u:S->Nat->Option (Option V)):M Unit:=y4 4096 PS PT (PU l) u
noncomputable def PW:M Fl:=(aS (do let v <- (do let vs <- (do let v <- (do let a <- (do let vs <- (do let v <- (ah "numbers");let vs <- (pure []:M (List V));pure (v::vs));d8 vs);let b <- (pure (V.int 1):M V);lh a b);let vs <- (pure []:M (List V));pure (v::vs));pq vs);km v;bO (kj v) PQ Ka 4096 0) PR)
noncomputable def PX:M Fl:=(aS (do let v <- ((ah "numbers") >>= jn [] Kb);(λv=>aR "things" v) v;pure .next:M Fl) PW)
noncomputable def Kc:M Fl:=(aS (do let v <- (do let a <- (ah "script");let b <- (do let vs <- (do let v <- (pure (V.int 4):M V);let vs <- (do let v <- (pure (V.int 3):M V);let vs <- (do let v <- (pure (V.int 2):M V);let vs <- (do let v <- (pure (V.int 7):M V);let vs <- (do let v <- (pure (V.int 1):M V);let vs <- (do let v <- (pure (V.int 8):M V);let vs <- (pure []:M (List V));pure (v::vs));pure (v::vs));pure (v::vs));pure (v::vs));pure (v::vs));pure (v::vs));cB vs);dM a b);(λv=>aR "numbers" v) v;pure .next:M Fl) PX)
noncomputable def Bo:bj:=cZ ["script"] Kc
theorem ycz{K:aW}(U:∀d∈abF gK,d∈abF K.p)(D:∀x∈bF,K.mg (aae x)=aam)(W:K.cY=cY)(Y:K.bz=bz)(Z:K.fN=Be.name)(G:cN K "_law_call" 6 wj)(fj:cN K "_law_few" 1 Bk)(J:cN K "_law_same" 1 jq):cN K "law" 7 Bo:=by
 refine Zy (d:=Be) (lvl:=6) (U _ (abn.mpr ⟨7,by kernel_rfl⟩)) (by kernel_rfl) (by kernel_rfl) (by kernel_rfl) (by kernel_rfl) (by decide) Z.symm ?_ ?_ ?_
 ·intro pm code doc ws h;refine xc (rG h) λa0 Bp=>?_;obtain rfl:=Bp
  rfl
 ·intro n y O;simp only[aay,aaJ,or_false] at O;subst O
  ·exact .inl (by kernel_rfl)
 ·intro pm code doc L fa A iR hr u;show jj K _ _ Kc
  exact(zc (yd _ (yc "numbers" _ u (by kernel_rfl)) (yf u jy _ (za u "script" _) (zo _ (zb (kc 4 _ _) (zb (kc 3 _ _) (zb (kc 2 _ _) (zb (kc 7 _ _) (zb (kc 1 _ _) (zb (kc 8 _ _) zd))))))))) (zc (WH u ⟨rfl,rfl,by decide +kernel,by decide +kernel,(by intro x B;(exfalso;exact nomatch B)),(by intro x c h;(injection h))⟩ (yc "things" _ u (by kernel_rfl)) (za u "numbers" _) (λC=>vi 4096 rfl (λacc=>y9 rfl rfl (test:=aam) rfl) (yc "x" _ (aV.comp u rfl) (by kernel_rfl)) wy (λl a=>gz (aV.comp u rfl) (zo _ (zb (y3 _ (kf (aV.comp u rfl) ju qf _ (yf (aV.comp u rfl) wu _ (za (aV.comp u rfl) "x" _) (kc 2 _ _)) (kc 1 _ _)) (za (aV.comp u rfl) "x" _) (yf (aV.comp u rfl) wu _ (za (aV.comp u rfl) "x" _) (kc 3 _ _))) zd)) l a))) (zc (Na u _ 4096 (yg u rfl (by kernel_rfl) (D "range" (by decide)) (by kernel_rfl) Ih (zb (yf u HI _ (yg u rfl (by kernel_rfl) (D "len" (by decide)) (by kernel_rfl) jt (zb (za u "numbers" _) zd)) (kc 1 _ _)) zd)) (yc "j" _ u (by kernel_rfl)) (zc (Nw u _ ["x", "y"] (gv _ _ (zb (yi u _ (za u "numbers" _) (za u "j" _)) (zb (yi u _ (za u "numbers" _) (yf u jy _ (za u "j" _) (kc 1 _ _))) zd))) (by intro x B;simp only[aay,aaJ,or_false] at B;rcases B with rfl | rfl<;>kernel_rfl)) (zc (Nw u _ ["fault", "stream"] (gv _ _ (zb (yf u wu _ (za u "x" _) (kc 4 _ _)) (zb (Gd u ju _ (yf u wu _ (yf u C6 _ (za u "x" _) (kc 4 _ _)) (kc 2 _ _)) (kc 1 _ _)) zd))) (by intro x B;simp only[aay,aaJ,or_false] at B;rcases B with rfl | rfl<;>kernel_rfl)) (zc (yd _ (yc "wish" _ u (by kernel_rfl)) (y3 _ (kf u ju qf _ (yf u wu _ (yf u C6 _ (za u "x" _) (kc 8 _ _)) (kc 2 _ _)) (kc 1 _ _)) (za u "y" _) (yf u HI _ (yf u wu _ (za u "y" _) (kc 6 _ _)) (kc 1 _ _)))) (zc (yd _ (yc "row" _ u (by kernel_rfl)) (ww u _ _ (za u "things" _) (xz (yf u jy _ (za u "j" _) (kc 1 _ _))) (xz (yf u jy _ (yf u jy _ (za u "j" _) (kc 1 _ _)) (yf u wu _ (yf u jy _ (za u "j" _) (kc 2 _ _)) (kc 5 _ _)))) gj)) (zc (yd _ (w3 u _ _ (gh (yc "kept" _ u (by kernel_rfl)) (gh (Np "asked" _ u (by kernel_rfl) rfl) z9))) (gv _ _ (zb (ww u _ _ (za u "row" _) gj gj gj) (zb (zo _ zd) zd)))) (zc (yd _ (yc "key" _ u (by kernel_rfl)) (y3 _ (kf u ju qf _ (yf u wu _ (yf u C6 _ (za u "x" _) (kc 16 _ _)) (kc 2 _ _)) (kc 1 _ _)) (kz _ _) (XV u (k:=0) (bX:=["asked"]) (by rw[W];kernel_rfl) iR (by rw[Y];kernel_rfl) ⟨rfl,(Dg (wE rfl Df)),(by intro x B;simp only[aay,aaJ,or_false] at B;rcases B with rfl<;>exact⟨De (by kernel_rfl),λc h=>h⟩)⟩))) (zc (yd _ (yc "given" _ u (by kernel_rfl)) (y3 _ (w8 u qf (za u "stream" _)) (yg u rfl (by kernel_rfl) (D "iter" (by decide)) (by kernel_rfl) OF (zb (za u "row" _) zd)) (za u "row" _))) (zc (yd _ (yc "taken" _ u (by kernel_rfl)) (kc 0 _ _)) (zc (wm _ (kf u ju qf _ (za u "fault" _) (kc 1 _ _)) (kd (yd _ (yc "told" _ u (by kernel_rfl)) (jk u G (hr.le (by decide)) (zb (yi u _ (zo _ (zb (kz _ _) (zb (Pn (by kernel_rfl)) (zb (zo _ (zb (kc 2 _ _) zd)) (zb (gv _ _ (zb (kc 2 _ _) zd)) (zb (Z7 2 2 _ _ _ _ _) zd)))))) (yf u wu _ (za u "y" _) (kc 5 _ _))) (zb (za u "given" _) (zb (za u "key" _) zd)))))) (kd (wm _ (kf u ju qf _ (za u "fault" _) (kc 2 _ _)) (kd (yd _ (yc "told" _ u (by kernel_rfl)) (jk u G (hr.le (by decide)) (zb (za u "wish" _) (zb (y3 _ (kf u ju qf _ (yf u wu _ (za u "y" _) (kc 2 _ _)) (kc 1 _ _)) (za u "y" _) (kz _ _)) (zb (za u "key" _) zd)))))) (kd (wm _ (kf u ju qf _ (za u "fault" _) (kc 3 _ _)) (zc (yd _ (yc "told" _ u (by kernel_rfl)) (jk u G (hr.le (by decide)) (zb (za u "wish" _) (zb (za u "given" _) (zb (yi u _ (zo _ (zb (kc 7 _ _) (zb (Pn (by kernel_rfl)) (zb (zo _ zd) zd)))) (yf u wu _ (za u "y" _) (kc 3 _ _))) zd))))) (kd (yd _ (yc "taken" _ u (by kernel_rfl)) (y3 _ (kf u HU qf _ (za u "wish" _) (kc 0 _ _)) (yg u rfl (by kernel_rfl) (D "min" (by decide)) (by kernel_rfl) W0 (zb (kc 1 _ _) (zb (yg u rfl (by kernel_rfl) (D "len" (by decide)) (by kernel_rfl) jt (zb (za u "row" _) zd)) zd))) (kc 0 _ _))))) (zc (yd _ (yc "told" _ u (by kernel_rfl)) (jk u G (hr.le (by decide)) (zb (za u "wish" _) (zb (za u "given" _) (zb (za u "key" _) zd))))) (kd (yd _ (yc "taken" _ u (by kernel_rfl)) (y3 _ (kf u HU qf _ (za u "wish" _) (kc 0 _ _)) (yg u rfl (by kernel_rfl) (D "len" (by decide)) (by kernel_rfl) jt (zb (za u "row" _) zd)) (kc 0 _ _)))))))))) (zc (wm _ (y6 _ (CO (kf u ju qf _ (za u "fault" _) (kc 0 _ _)) (CO (y6 _ (xv (kf u ju qf _ (za u "fault" _) (kc 3 _ _)) (xv (kf u ju qf _ (za u "taken" _) (kc 0 _ _)) CN))) Mx))) (kd (wm _ (y6 _ (CO (kf u G7 qf _ (za u "told" _) (kz _ _)) (CO (k8 _ (w8 u qf (jk u J (hr.le (by decide)) (zb (za u "told" _) (zb (jk u fj (hr.le (by decide)) (zb (za u "wish" _) (zb (za u "row" _) zd))) zd))))) Mx))) (kd (jh _ (sS false _ _))) gk)) (kd (wm _ (kf u Hc qf _ (za u "told" _) (kz _ _)) (kd (jh _ (sS false _ _))) gk))) (zc (wm _ (k8 _ (w8 u qf (jk u J (hr.le (by decide)) (zb (za u "asked" _) (zb (y3 _ (y6 _ (xv (kf u ju qf _ (za u "fault" _) (kc 0 _ _)) (xv (kf u Hc qf _ (za u "key" _) (kz _ _)) CN))) (ww u _ _ (za u "row" _) gj (xz (za u "taken" _)) gj) (zo _ zd)) zd))))) (kd (jh _ (sS false _ _))) gk) (zc (wm _ (y6 _ (xv (w8 u qf (za u "stream" _)) (xv (k8 _ (w8 u qf (jk u J (hr.le (by decide)) (zb (Xh u ⟨rfl,rfl,by decide +kernel,by decide +kernel,(by intro x B;(exfalso;exact nomatch B)),(by intro x c h;(injection h))⟩ (Z5 u (za u "given" _)) (λow C=>IH 4096 rfl (λacc=>y9 rfl rfl (test:=aam) rfl) (yc "thing" _ (aV.comp u rfl) (by kernel_rfl)) wy (λl a=>gz (aV.comp u rfl) (za (aV.comp u rfl) "thing" _) l a))) (zb (ww u _ _ (za u "kept" _) (xz (za u "taken" _)) gj gj) zd))))) CN))) (kd (jh _ (sS false _ _))) gk) (kd (wm _ (k8 _ (w8 u qf (jk u J (hr.le (by decide)) (zb (za u "row" _) (zb (za u "kept" _) zd))))) (kd (jh _ (sS false _ _))) gk))))))))))))))) (kd (jh _ (sS true _ _))))))
theorem o5{K:aW}(B:∀d∈abF gK,d∈abF K.p)(J:∀d∈ad0 gK,d∈ad0 K.p)(u:∀x∈bF,K.mg (aae x)=aam)(C:K.cY=cY)(D:K.bz=bz)(O:K.fN=Be.name):cN K "law" 7 Bo:=by
 have U:∀ow,ll (K.adds ow) 1 LM:=λow=>xdq C D u;have W:=qbs B u;have G:=qca B u W;have Y:=zbe B u G;have Z:=jb0 B u G;have fi:=kbs J u U Z Y;have fj:=wb0 B u;have cm:=xbs B u fi;have cn:=gbs B u;have jO:=ycz B u C D O cm fj cn;exact jO
theorem qc5{α:Type}{P:List α->Prop}(h0:P [])(h1:∀l x,P l->P (l++[x]))(l:List α):P l:=by
 have key:∀m:List α,P m.reverse:=by
  intro m
  induction m with
  | nil=>exact h0
  | cons x m u=>rw[afs];exact h1 _ _ u
 have:=key l.reverse
 rwa [List.reverse_reverse] at this
section
variable{α β:Type}(val:α->Int)
noncomputable def cr(x:α):List α->List α
 | []=>[x]
 | y::r=>if val y<val x then x::y::r else y::cr x r
noncomputable def lH(a l:List α):List α:=l.foldl (λb x=>cr val x b) a
noncomputable def jg(l:List α):List α:=lH val [] l
noncomputable def jf(n:Nat)(l:List α):List α:=l.foldl (λb x=>(cr val x b).take n) []
noncomputable def xq(b:List α):Prop:=b.Pairwise λa c=>val c<=val a
noncomputable def iB(c:α)(b:List α):List α:=b.filter λy => !decide (val y<val c)
noncomputable def fF(c:α)(b:List α):List α:=b.filter λy=>decide (val y<val c)
variable{val}
theorem PY(x:α):cr val x []=[x]:=rfl
theorem z0(x y:α)(r:List α):cr val x (y::r)=if val y<val x then x::y::r else y::cr val x r:=rfl
theorem jcz(a:List α):lH val a []=a:=rfl
theorem D8(a:List α)(x:α)(l:List α):lH val a (x::l)=lH val (cr val x a) l:=rfl
theorem kcr(a l:List α)(x:α):lH val a (l++[x])=cr val x (lH val a l):=by unfold lH;refine aab ahF ?_;rfl
theorem D9(l:List α)(x:α):jg val (l++[x])=cr val x (jg val l):=kcr ..
theorem Ea(n:Nat)(l:List α)(x:α):jf val n (l++[x])=(cr val x (jf val n l)).take n:=by unfold jf;refine aab ahF ?_;rfl
theorem PZ(x:α):∀b:List α,(cr val x b).Perm (x::b)
 | []=>ade _
 | y::r=>by
  refine aab (z0 ..) ?_
  split
  ·exact ade _
  ·exact((PZ x r).cons y).trans (ajl ..)
theorem P0:∀(l a:List α),(lH val a l).Perm (a++l)
 | [],a=>by rw[jcz,agg]
 | x::l,a=>by
  simp only[D8];refine(P0 l _).trans (((PZ x a).append_right l).trans ?_);simp only[aeA];exact ah6.symm
theorem ql(l:List α):(jg val l).Perm l:=P0 l []
theorem Kd(l:List α):(jg val l).length=l.length:=(ql l).length_eq
theorem Ke(f:β->α)(x:β):∀b:List β,(cr (λy=>val (f y)) x b).map f=cr val (f x) (b.map f)
 | []=>rfl
 | y::r=>by
  simp only[z0,ac1,z0]
  split
  ·rfl
  ·(refine aab ac1 ?_;exact aab (Ke f x r) rfl)
theorem Qa(f:β->α):∀(l a:List β),(lH (λy=>val (f y)) a l).map f=lH val (a.map f) (l.map f)
 | [],a=>rfl
 | x::l,a=>by simp only[D8,ac1,D8,Qa f l,Ke]
theorem Qb(f:β->α)(l:List β):(jg (λy=>val (f y)) l).map f=jg val (l.map f):=Qa f l []
theorem Qc(x:α):∀(n:Nat) (b:List α),(cr val x (b.take n)).take n=(cr val x b).take n
 | 0,b=>by simp
 | n+1,[]=>by simp
 | n+1,y::r=>by
  (refine aab ad2 ?_;refine aab (z0 ..) ?_;refine aab (z0 ..) ?_)
  split
  ·simp only[ad2]
   cases n with
   | zero=>rfl
   | succ n=>simp only[ad2,List.take_take,adv (agh n)]
  ·simp only[ad2];exact aab (Qc x n r) rfl
theorem z5(n:Nat)(l:List α):jf val n l=(jg val l).take n:=by
 have key:∀(m:List α) (a b:List α),a=b.take n->m.foldl (λb x=>(cr val x b).take n) a=(lH val b m).take n:=by
  intro m
  induction m with
  | nil=>intro a b e;exact e
  | cons x m u=>
   intro a b e;simp only[List.foldl_cons,D8]
   exact u _ _ (by(refine aab e ?_;exact Qc ..))
 exact key l [] [] (by simp)
theorem wcz{n:Nat}{l:List α}(h:l.length<=n):jf val n l=jg val l:=by
 rw[z5,acO (by rw[Kd];exact h)]
theorem xu(n:Nat)(l:List α):(jf val n l).length=min n l.length:=by simp only[z5,abM,Kd]
theorem xq.split{b:List α}(h:xq val b)(c:α):b=iB val c b++fF val c b:=by
 induction b with
 | nil=>rfl
 | cons y r C=>
  have hr:=(acS.mp h).2;have h1:=(acS.mp h).1;unfold iB fF at C ⊢
  by_cases u:val y<val c
  ·have e:r.filter (λy => !decide (val y<val c))=[]:=by
    simp only[List.filter_eq_nil_iff];intro a B;have:=h1 a B
    have:val a<val c:=by exact ab6 this u
    simp[this]
   have D:r.filter (λy=>decide (val y<val c))=r:=by
    simp only[List.filter_eq_self];intro a B;have:=h1 a B
    have:val a<val c:=by exact ab6 this u
    simp[this]
   simp[u,e,D]
  ·have:=C hr;simp only[ah7,u,decide_false,adK,if_true,aaW,if_false,aeA];rw[<- this]
theorem Kf{c:α}:∀{g:List α} (r:List α),(∀y∈g,¬val y<val c)->cr val c (g++r)=g++cr val c r
 | [],r,_=>rfl
 | y::g,r,h=>by
  refine aab aeA ?_
  show(if val y<val c then c::y::(g++r) else y::cr val c (g++r))=_
  (refine aab (if_neg (h y aaS)) ?_;refine aab (Kf r λz hz=>h z (aaU _ hz)) ?_)
  rfl
theorem zdm{c:α}{r:List α}(h:∀y∈r,val y<val c):cr val c r=c::r:=by
 cases r with
 | nil=>rfl
 | cons y r=>show(if val y<val c then _ else _)=_;exact(if_pos (h y aaS))
theorem Bq{c y:α}{b:List α}(h:y∈iB val c b):y∈b/\¬val y<val c:=by
 have:=adw.mp h
 exact⟨this.1,by simpa using this.2⟩
theorem Br{c y:α}{b:List α}(h:y∈fF val c b):y∈b/\val y<val c:=by
 have:=adw.mp h
 exact⟨this.1,by simpa using this.2⟩
theorem xq.io{b:List α}(h:xq val b)(c:α):cr val c b=iB val c b++c::fF val c b:=by
 conv=>lhs;rw[h.split c]
 rw[Kf _ λy u=>(Bq u).2,zdm λy u=>(Br u).2]
theorem xq.ins{b:List α}(h:xq val b)(c:α):xq val (cr val c b):=by
 refine aab (h.io c) ?_
 have h0:xq val (iB val c b++fF val c b):=by refine adg (h.split c) ?_;exact h
 refine y5 (abK.mp h0) λh1 h2 h3=>?_;refine abK.mpr ⟨h1,acS.mpr ⟨λy B=>?_,h2⟩,λa u d hd=>?_⟩
 ·have:=(Br B).2;exact acj this
 ·rcases aay.mp hd with rfl | hd
  ·have:=(Bq u).2;exact abD.mp this
  ·exact h3 a u d hd
theorem Qd:∀{l a:List α},xq val a->xq val (lH val a l)
 | [],a,h=>h
 | x::l,a,h=>Qd (l:=l) (h.ins x)
theorem Eb(l:List α):xq val (jg val l):=Qd aen
theorem xq.take{b:List α}(h:xq val b)(n:Nat):xq val (b.take n):=ajj (List.take_sublist ..) h
theorem Qe(n:Nat)(l:List α):xq val (jf val n l):=by refine aab (z5 ..) ?_;exact(Eb l).take n
theorem xq.code{b:List α}(h:xq val b)(c:α):b.take (iB val c b).length++[c]++b.drop (iB val c b).length=cr val c b:=by
 refine aab (h.io c) ?_
 conv=>lhs;rw[h.split c]
 have e:iB val c (iB val c b++fF val c b)=iB val c b:=by rw[<- h.split c]
 rw[e]
 simp
theorem Kg(v:Nat->Int):∀n:Nat,(jg v (aaF n)).Pairwise λi j=>v j<v i\/(v i=v j/\i<j)
 | 0=>aen
 | n+1=>by
  have C:=Kg v n;simp only[ad6,D9,(Eb _).io n]
  have h0:(iB v n (jg v (aaF n))++fF v n (jg v (aaF n))).Pairwise λi j=>v j<v i\/(v i=v j/\i<j):=by refine adg ((Eb _).split n) ?_;exact C
  refine y5 (abK.mp h0) λh1 h2 h3=>?_;refine abK.mpr ⟨h1,acS.mpr ⟨λy D=>.inl (Br D).2,h2⟩,λa u d hd=>?_⟩
  rcases aay.mp hd with rfl | hd
  ·refine ye (Bq u) λG J=>?_
   have:a<d:=by
    have:=(ql (val:=v) (aaF d)).mem_iff.mp G
    simpa using this
   by_cases B:v a=v d
   ·exact .inr ⟨B,this⟩
   ·exact .inl (by exact TF J B)
  ·exact h3 a u d hd
theorem Kh{l:List α}{d:α}:l=(aaF l.length).map λi=>l.getD i d:=by
 apply afM
 ·simp
 ·intro i h1 h2
  simp[aaO,h1]
theorem Qf(l:List α)(d:α):jg val l=(jg (λi=>val (l.getD i d)) (aaF l.length)).map λi=>l.getD i d:=by
 simp only[Qb (val:=val) (λi=>l.getD i d),<- Kh]
theorem zch{v:Nat->Int}{n:Nat}{q:List Nat}(u:q.Perm (aaF n))(B:q.Pairwise λi j=>v j<v i\/(v i=v j/\i<j)):q=jg v (aaF n):=by
 refine afU (le:=λi j=>v j<v i\/(v i=v j/\i<j)) (λa b C C h1 h2=>?_) B (Kg v n) (u.trans (ql _).symm);exact TG h1 h2
end
theorem Qg{ds:List PyData}{vs:List V}(ok:iX ds=true)(B:ds.length=vs.length):∃q:List Nat,q.Perm (aaF vs.length)/\cq ds vs=q.map (λi=>vs.getD i V.none)/\
  q.Pairwise λi j=>b9 dc ds j i=true\/(b9 dc ds i j=false/\b9 dc ds j i=false/\i<j):=by
 refine kh (tE ok) λO O U O=>?_;unfold cq
 by_cases h2:vs.length<2
 ·refine aab (if_pos h2) ?_;refine(je (aaF vs.length) (ade _) Kh ?_)
  match vs,h2 with
  | [],_=>exact aen
  | [a],_=>exact List.pairwise_singleton ..
 ·refine aab (if_neg h2) ?_;rw[B] at U
  obtain⟨Z,C,W⟩:=Iy U (by exact E1 h2)
  unfold Dl;refine aab aba ?_
  generalize (bc (b9 dc ds.reverse) (acI vs.length)).toList=p at C W
  have u:∀i∈p,i<vs.length:=λi hi=>by simpa using C.mem_iff.mp hi
  refine(je ((p.map λi=>vs.length-1-i).reverse) ?_ ?_ ?_)
  ·refine(ahG _).trans ((C.map _).trans ?_)
   have e:(aaF vs.length).map (λi=>vs.length-1-i)=(aaF vs.length).reverse:=by
    apply afM
    ·simp
    ·intro i h1 h2
     simp at h1 ⊢
   refine aab e ?_;exact ahG _
  ·(refine aab afK ?_;refine aab aeN ?_)
   congr 1
   refine ado λi hi=>?_;exact rR (u i hi)
  ·simp only[List.pairwise_reverse,adI];refine W.imp_of_mem λ{a b} D G h=>?_
   have J:=wx (ds:=ds) (i:=a) (j:=b) (by have:=u a D;exact hS this B) (by have:=u b G;exact hS this B)
   have Y:=wx (ds:=ds) (i:=b) (j:=a) (by have:=u b G;exact hS this B) (by have:=u a D;exact hS this B)
   rw[B] at J Y;have:=u a D;have:=u b G
   rcases h with h | ⟨h1,h2,h3⟩
   ·exact .inl (by rw[<- J];exact h)
   ·exact .inr ⟨by rw[<- Y];exact h2,by rw[<- J];exact h1,by exact TH this h3⟩
theorem gdq{ds:List PyData}(G:tD ds=true)(J:tj dc ds=true)(B:Ask ds.length (b9 dc ds))(O:ds.length<64):iX ds=true:=by
 unfold iX
 (refine aab G ?_;refine aab J ?_;rw[YW])
 ·simpa using O
 ·refine⟨λi j hi u e=>?_,λi j k hi u hk C D=>?_⟩
  ·rw[wx hi u] at e;refine aab (wx u hi) ?_
   exact B.asymm _ _ (by exact E7 u) (by exact Lr u) e
  ·rw[wx u hi] at C;rw[wx hk u] at D;refine aab (wx hk hi) ?_
   exact B.trans _ _ _ (by exact E7 hk) (by exact E7 hk) (by exact Lr hk) C D
theorem Ec{us:List V}{i:Nat}(h:i<us.length):us.getD i V.none∈us:=by
 (refine aab (aaO) ?_;refine aab (aav h) ?_);exact acJ h
theorem xcr{ds:List PyData}{vs:List V}{val:V->Int}(ok:iX ds=true)(D:ds.length=vs.length)(h:∀i j,i<vs.length->j<vs.length->b9 dc ds i j=decide (val (vs.getD i .none)<val (vs.getD j .none))):
  cq ds vs=jg val vs:=by
 refine xd (Qg ok D) λq u G J=>?_
 (refine aab G ?_;refine aab (Qf vs V.none) ?_;rw[zch (v:=λi=>val (vs.getD i V.none)) u])
 refine J.imp_of_mem λ{a b} O U h'=>?_
 have B:a<vs.length:=by simpa using u.mem_iff.mp O
 have C:b<vs.length:=by simpa using u.mem_iff.mp U
 rw[h a b B C,h b a C B] at h';simp only[decide_eq_true_eq,decide_eq_false_iff_not] at h';exact TJ h'
theorem ych{ds:List PyData}{vs ws:List V}{dec:V->List Int}(ok:iX ds=true)(C:ds.length=vs.length)(h:∀i j,i<vs.length->j<vs.length->b9 dc ds i j=cc (dec (vs.getD i .none)) (dec (vs.getD j .none)))
  (G:vs.Perm ws) (J:ws.Pairwise λa b=>cc (dec b) (dec a)=true):cq ds vs=ws:=by
 refine xd (Qg ok C) λq D O q3=>?_
 have U:(cq ds vs).Perm vs:=by
  refine aab O ?_
  conv=>rhs;rw[Kh (l:=vs) (d:=V.none)]
  exact D.map _
 have Bs:(cq ds vs).Pairwise λa b=>cc (dec a) (dec b)=false:=by
  rw[O,adI];refine q3.imp_of_mem λ{a b} u B h'=>?_
  have W:a<vs.length:=by simpa using D.mem_iff.mp u
  have Y:b<vs.length:=by simpa using D.mem_iff.mp B
  rw[h a b W Y,h b a Y W] at h'
  rcases h' with h' | h'
  ·exact wI _ _ h'
  ·exact h'.1
 refine afU (le:=λa b=>cc (dec a) (dec b)=false) (λa b u B h1 h2=>?_) Bs (J.imp λh=>wI _ _ h) (U.trans G)
 by_cases Z:a=b
 ·exact Z
 ·exfalso;have sV:a∈ws:=(U.trans G).mem_iff.mp u
  have key:∀(l:List V),l.Pairwise (λa b=>cc (dec b) (dec a)=true)->∀a∈l,∀b∈l,a≠b->cc (dec a) (dec b)=true\/cc (dec b) (dec a)=true:=by
   intro l C
   induction C with
   | nil=>intro a u;(exfalso;exact nomatch u)
   | cons h1 _ ih=>
    intro a u b B aA
    rcases aay.mp u with rfl | DR
    ·rcases aay.mp B with rfl | A1
     ·exact absurd rfl aA
     ·exact .inr (h1 b A1)
    ·rcases aay.mp B with rfl | A1
     ·exact .inl (h1 a DR)
     ·exact ih a DR b A1 aA
  rcases key ws J a sV b B Z with h3 | h3
  ·rw[h1] at h3;(injection h3)
  ·rw[h2] at h3;(injection h3)
structure EntOk(val tv:V->Int)(ent:V->Int->V)(dec:V->List Int):Prop where
 Bt:∀x o,dec (ent x o)=[val x,o,tv x]
noncomputable def ip(dec:V->List Int)(a b:V):Bool:=cc (dec a) (dec b)
theorem sv(P:V->Prop)(dec:V->List Int):rT P (ip dec):=⟨λa b u u h=>wI _ _ h,λa b c u u u h1 h2=>IC _ _ _ h1 h2⟩
noncomputable def Bu(val:V->Int)(p q:V×Int):Prop:=val q.1<val p.1\/(val q.1=val p.1/\q.2<p.2)
section
variable{val tv:V->Int}{ent:V->Int->V}{dec:V->List Int}
theorem xen{a b c u B C:Int}:cc [a,b,c] [u,B,C]=true↔a<u\/(a=u/\(b<B\/(b=B/\c<C))):=by
 (refine aab (wt ..) ?_;refine aab (wt ..) ?_;refine aab (wt ..) ?_;refine aab ta ?_)
 by_cases h1:a=u<;>by_cases h2:b=B<;>by_cases h3:c=C<;>simp[h1,h2,h3]
theorem EntOk.Qh(E:EntOk val tv ent dec){p q:V×Int}(h:Bu val p q):cc (dec (ent q.1 q.2)) (dec (ent p.1 p.2))=true:=by
 (refine aab (E.Bt ..) ?_;refine aab (E.Bt ..) ?_;refine aab (propext (xen)) ?_)
 unfold Bu at h;exact TK h
structure cI(val:V->Int)(ent:V->Int->V)(dec:V->List Int)(items:List V)(n m:Nat)(H:List V)(o:Int)(L:List (V×Int)):Prop where
 perm:H.Perm (L.map λp=>ent p.1 p.2)
 tG:L.Pairwise (Bu val)
 ord:∀p∈L,o<p.2
 gU:L.map (·.1)=jf val n (items.take m)
 heap:jx (ip dec) 0 H
theorem cI.len{items:List V}{n m:Nat}{H:List V}{o:Int}{L:List (V×Int)}(h:cI val ent dec items n m H o L)(u:m<=items.length):H.length=min n m/\L.length=min n m:=by
 have h1:=h.perm.length_eq;rw[aaP] at h1;have h2:=congrArg ajh h.gU;rw[aaP,xu,abM,adv u] at h2;exact TL h1 h2
theorem cI.items{items:List V}{n m:Nat}{H:List V}{o:Int}{L:List (V×Int)}(h:cI val ent dec items n m H o L):∀p∈L,p.1∈items:=by
 intro p u
 have:p.1∈jf val n (items.take m):=by rw[<- h.gU];exact ag9 u
 rw[z5] at this;have:=(ql _).mem_iff.mp (ac6 this);exact ac6 this
theorem cI.mem{items:List V}{n m:Nat}{H:List V}{o:Int}{L:List (V×Int)}(h:cI val ent dec items n m H o L):∀a∈H,∃x∈items,∃o,a=ent x o:=by
 intro a u;refine ya (abk.mp (h.perm.mem_iff.mp u)) λp B C=>?_;clear u;obtain rfl:=C;exact(F0 p.1 (h.items p B) p.2 rfl)
theorem cI.top{items:List V}{n m:Nat}{H:List V}{o:Int}{L:List (V×Int)}(E:EntOk val tv ent dec)(h:cI val ent dec items n m H o L){cJ:List (V×Int)}{z:V×Int}(hL:L=cJ++[z]):bP H 0=ent z.1 z.2:=by
 have C:0<H.length:=by(refine aab h.perm.length_eq ?_;refine aab (aaP ..) ?_;refine aab hL ?_);simp
 have D:=Xy (sv (λu=>True) dec) (λu u=>trivial) h.heap;have h0:bP H 0∈H:=gi C;refine ya (abk.mp (h.perm.mem_iff.mp h0)) λp G e=>?_;rw[<- e];subst hL
 rcases abd.mp G with iC | iC
 ·exfalso;have J:=(abK.mp h.tG).2.2 p iC z (aan.mpr rfl);have hz:ent z.1 z.2∈H:=h.perm.mem_iff.mpr (ag9 (f:=λp:V×Int=>ent p.1 p.2) (adL _ (aan.mpr rfl)));obtain⟨j,B,O⟩:=agZ.mp hz;have h2:=D j B;rw[Dq B,O,<- e] at h2;have h3:=E.Qh J;unfold ip at h2;rw[h3] at h2;(injection h2)
 ·exact aab (aan.mp iC) rfl
theorem cI.Bw{items:List V}{n m:Nat}{H:List V}{o:Int}{L:List (V×Int)}(h:cI val ent dec items n m H o L)(B:m<items.length)(D:n<=m){cJ:List (V×Int)}{z:V×Int}(hL:L=cJ++[z])(C:¬val z.1<val items[m]):cI val ent dec items n (m+1) H o L:=by
 refine⟨h.perm,h.tG,h.ord,?_,h.heap⟩
 have e:items.take (m+1)=items.take m++[items[m]]:=by(refine aab acg ?_;refine aab (aav B) ?_);rfl
 have u:=(h.len (adi B)).2;simp only[e,Ea,<- h.gU]
 have hd:xq val (L.map (·.1)):=by refine aab h.gU ?_;exact Qe ..
 have G:∀y∈L.map (·.1),¬val y<val items[m]:=by
  intro y hy;clear h;subst hL;rw[acy] at hy hd
  rcases abd.mp hy with hy | hy
  ·have:=(abK.mp hd).2.2 y hy z.1 (by simp)
   exact TN this C
  ·simp at hy;subst hy;exact C
 have:=Kf (val:=val) (c:=items[m]) (g:=L.map (·.1)) [] G;rw[agg,PY] at this
 rw[this,List.take_append_of_le_length (by rw[aaP];exact TP D u),acO (by rw[aaP];exact Ls u)]
theorem zcc{lt:V->V->Bool}{H:List V}{e:V}(h:jx lt 0 H):jx lt 1 (H.set 0 e):=by
 intro j h0 u B;rw[aaz] at u
 rw[gg (by exact TQ B),gg (by exact TR B)]
 exact h j h0 u (by exact Lh)
theorem cI.step{items:List V}{n m:Nat}{H:List V}{o:Int}{L:List (V×Int)}(h:cI val ent dec items n m H o L)(E:EntOk val tv ent dec)(Z:m<items.length)(hn:n<=m){cJ:List (V×Int)}{z:V×Int}(hL:L=cJ++[z])(hx:val z.1<val items[m]):
  ∃L',cI val ent dec items n (m+1) (su (ip dec) (H.set 0 (ent items[m] o)) 0) (o-1) L':=by
 have e:items.take (m+1)=items.take m++[items[m]]:=by(refine aab acg ?_;refine aab (aav Z) ?_);rfl
 have u:=h.len (adi Z)
 have hv:xq (λp:V×Int=>val p.1) L:=by
  have:xq val (L.map (·.1)):=by refine aab h.gU ?_;exact Qe ..
  exact adI.mp this
 have eO:=h.top E hL;have G:=hv.io (items[m],o)
 have J:fF (λp:V×Int=>val p.1) (items[m],o) L≠[]:=by
  intro q
  have:z∈fF (λp:V×Int=>val p.1) (items[m],o) L:=adw.mpr ⟨by refine aab hL ?_;simp,by simpa using hx⟩
  rw[q] at this;(exfalso;exact nomatch this)
 have D:=hv.split (items[m],o)
 generalize hA:iB (λp:V×Int=>val p.1) (items[m],o) L=A at G D
 generalize hB:fF (λp:V×Int=>val p.1) (items[m],o) L=B at G D J
 have Qi:∃C,B=C++[z]/\cJ=A++C:=by
  have hb:=aca J;rw[D,<- hb,<- afw] at hL;have:=List.append_inj' hL rfl;refine(ja B.dropLast ?_ this.1.symm);have h2:=this.2;simp only[List.cons.injEq,and_true] at h2;rw[<- h2];exact hb.symm
 refine ya Qi λC Bx Qj=>?_
 try clear Qi
 clear J;obtain rfl:=Bx
 have kL:(cr (λp:V×Int=>val p.1) (items[m],o) L).take n=A++(items[m],o)::C:=by
  have hl:n=(A++(items[m],o)::C).length:=by
   have:=u.2;rw[hL,Qj] at this
   simp at this ⊢;exact TS this hn
  (refine aab G ?_;refine aab (show A++(items[m],o)::(C++[z])=(A++(items[m],o)::C)++[z] by simp) ?_;rw[hl,List.take_left'])
  rfl
 have O:0<H.length:=by simp only[u.1,<- u.2,hL];simp
 refine⟨A++(items[m],o)::C,?_,?_,?_,?_,?_⟩
 ·refine(Ds _ _ 0 (by rw[aaz];exact O)).trans ?_
  obtain⟨h0,r,rfl⟩ : ∃h0 r,H=h0::r:=by
   cases H with
   | nil=>simp at O
   | cons a r=>exact(j7 a r rfl)
  have e0:h0=ent z.1 z.2:=eO;simp only[List.set_cons_zero];have hp:=h.perm;rw[hL,Qj,e0] at hp
  have ff:(ent z.1 z.2::r).Perm (ent z.1 z.2::(A++C).map λp=>ent p.1 p.2):=hp.trans (by
   rw[acy]
   exact List.perm_append_comm)
  have U:=(List.perm_cons _).mp ff;refine(U.cons _).trans ?_;rw[acy,acy,ac1];exact ah6.symm
 ·have hs:=h.tG;rw[D,<- afw] at hs;have lj:=(abK.mp hs).1;refine y5 (abK.mp lj) λs1 s2 s3=>?_;refine abK.mpr ⟨s1,acS.mpr ⟨λq hq=>?_,s2⟩,λp hp q hq=>?_⟩
  ·have W:q∈fF (λp:V×Int=>val p.1) (items[m],o) L:=by rw[hB];exact acz _ hq
   exact .inl (Br W).2
  ·rcases aay.mp hq with rfl | hq
   ·have Y:p∈iB (λp:V×Int=>val p.1) (items[m],o) L:=by rw[hA];exact hp
    refine ye (Bq Y) λm1 m2=>?_;have:=h.ord p m1;unfold Bu;dsimp only at m2 ⊢;exact TU this m2
   ·exact s3 p hp q hq
 ·intro p hp
  rcases abd.mp hp with hp | hp
  ·have Y:p∈iB (λp:V×Int=>val p.1) (items[m],o) L:=by rw[hA];exact hp
   have:=h.ord p (Bq Y).1;exact Lu this
  ·rcases aay.mp hp with rfl | hp
   ·show o-1<o;exact TV
   ·have W:p∈fF (λp:V×Int=>val p.1) (items[m],o) L:=by rw[hB];exact acz _ hp
    have:=h.ord p (Br W).1;exact Lu this
 ·simp only[e,Ea,<- h.gU,<- kL,ag5,Ke (val:=val) (λp:V×Int=>p.1)]
 ·exact N7 (sv (λzZ=>True) dec) _ 0 (λzZ zZ=>trivial) (by rw[aaz];exact O) (zcc h.heap)
theorem cI.start{items:List V}{n N:Nat}(E:EntOk val tv ent dec)(D:N=min n items.length):
  ∃L,cI val ent dec items n N (gT (ip dec) (N / 2) ((aaF N).map λj=>ent (items.getD j .none) (-(j:Int)))) (-(N:Int)) L:=by
 refine⟨(jg (λj=>val ((items.take N).getD j .none)) (aaF N)).map λj=>(items.getD j .none,-(j:Int)),?_,?_,?_,?_,?_⟩
 ·refine(N8 _ _ _ (by simp;exact Lv)).trans ?_
  refine aab aeN ?_;exact((ql _).map _).symm
 ·simp only[adI];refine(Kg _ N).imp_of_mem λ{i j} hi B h=>?_
  have W:i<N:=by simpa using(ql _).mem_iff.mp hi
  have C:j<N:=by simpa using(ql _).mem_iff.mp B
  have G:∀i,i<N->(items.take N).getD i V.none=items.getD i .none:=by
   intro i hi
   (refine aab (aaO) ?_;refine aab (afV hi) ?_;exact aaO)
  rw[G i W,G j C] at h;unfold Bu;dsimp only;exact TX h
 ·intro p J;refine ya (abk.mp J) λj B Y=>?_;clear J;obtain rfl:=Y
  have:j<N:=by simpa using(ql _).mem_iff.mp B
  show -(N:Int) < -(j:Int);exact TY this
 ·have O:(items.take N).length=N:=by refine aab abM ?_;exact TZ D
  rw[wcz (by rw[O];exact Ls D),Qf (items.take N) V.none,O,aeN]
  refine ado λj B=>?_
  have C:j<N:=by simpa using(ql _).mem_iff.mp B
  show items.getD j .none=_
  (refine aab (aaO) ?_;refine aab (aaO) ?_;exact aab (afV C) rfl)
 ·have u:((aaF N).map λj=>ent (items.getD j .none) (-(j:Int))).length=N:=by simp
  refine N9 (sv (λU=>True) dec) _ _ (by refine aab u ?_;exact Lv) (λU U=>trivial) ?_
  have:=Xx (ip dec) ((aaF N).map λj=>ent (items.getD j .none) (-(j:Int)));rw[u] at this;exact this
end
noncomputable def eW(b:Bool)(t:Int):PyData:=if b=true then .list [.int t] else .int t
theorem tH(i j:Int):abb (.int i) (.int j)=decide (i=j):=by
 simp only[abb];first | rfl | (by_cases h:i=j<;>simp[h])
theorem Qk(b:Bool)(t u:Int):abb (eW b t) (eW b u)=decide (t=u):=by
 cases b with
 | false=>exact tH t u
 | true=>
  show abb (.list [.int t]) (.list [.int u])=_;simp only[abb,adZ,Bool.and_true]
  by_cases h:t=u<;>simp[h]
theorem Kj(b:Bool)(t u:Int):kG (eW b t) (eW b u)=aac (decide (t<u)):=by
 cases b with
 | false=>rfl
 | true=>
  show(if abb (.int t) (.int u)=true then aac (decide (1<1)) else aac (decide (t<u)))=_
  refine aab (tH ..) ?_
  by_cases h:t=u<;>simp[h]
theorem Ql(b:Bool)(t u:Int):dc (eW b t) (eW b u)=aac (decide (t<u)):=by
 cases b with
 | false=>rfl
 | true=>exact Kj true t u
theorem zeo(b:Bool)(t u o p:Int):dc (.tuple [eW b t,.int o]) (.tuple [eW b u,.int p])=aac (cc [t,o,t] [u,p,u]):=by
 show(if abb (eW b t) (eW b u)=true then(if abb (.int o) (.int p)=true then aac (decide (2<2)) else aac (decide (o<p))) else kG (eW b t) (eW b u))=_
 (refine aab (Qk ..) ?_;refine aab (tH ..) ?_;refine aab (Kj ..) ?_)
 by_cases h:t=u
 ·by_cases h2:o=p<;>simp[h,h2,wt,ta]
 ·simp[h,wt,ta]
theorem yeo(b:Bool)(k B t u o p:Int):dc (.tuple [.int k,.int o,eW b t]) (.tuple [.int B,.int p,eW b u])=aac (cc [k,o,t] [B,p,u]):=by
 show(if abb (.int k) (.int B)=true then(if abb (.int o) (.int p)=true then(if abb (eW b t) (eW b u)=true then aac (decide (3<3)) else kG (eW b t) (eW b u)) else aac (decide (o<p))) else aac (decide (k<B)))=_
 (refine aab (Qk ..) ?_;refine aab (tH ..) ?_;refine aab (tH ..) ?_;refine aab (Kj ..) ?_)
 by_cases h:k=B
 ·by_cases h2:o=p
  ·by_cases h3:t=u<;>simp[h,h2,h3,wt,ta]
  ·simp[h,h2,wt,ta]
 ·simp[h,wt,ta]
theorem Ed{α β:Type}{f:α->Option β}{g:α->β}:∀{l:List α},(∀a∈l,f a=aac (g a))->bw f l=aac (l.map g)
 | [],_=>rfl
 | a::l,h=>by
  unfold bw
  (refine aab (h a aaS) ?_;refine aab (Ed λb u=>h b (aaU _ u)) ?_)
  rfl
theorem zdr{l:List V}{g:V->PyData}{i j:Nat}(hi:i<l.length)(u:j<l.length):b9 dc (l.map g) i j=(dc (g (l.getD i .none)) (g (l.getD j .none))).getD false:=by
 have e:∀k,k<l.length->(l.map g)[k]?=aac (g (l.getD k .none)):=λk hk=>by
  (refine aab (abE) ?_;refine aab (aaO) ?_;refine aab (aav hk) ?_);rfl
 unfold b9
 (refine aab (e i hi) ?_;exact aab (e j u) rfl)
theorem Qm{l:List V}{g:V->PyData}{dec:V->List Int}{c:Nat}(O:c≠0)(h1:∀a∈l,bK (g a)=c)(h2:∀a∈l,∀b∈l,dc (g a) (g b)=aac (cc (dec a) (dec b)))(U:l.length<64):
  iX (l.map g)=true/\∀i j,i<l.length->j<l.length->b9 dc (l.map g) i j=cc (dec (l.getD i .none)) (dec (l.getD j .none)):=by
 have u:∀i j,i<l.length->j<l.length->b9 dc (l.map g) i j=cc (dec (l.getD i .none)) (dec (l.getD j .none)):=by
  intro i j hi B
  (refine aab (zdr hi B) ?_;refine aab (h2 _ (Ec hi) _ (Ec B)) ?_);rfl
 refine⟨gdq ?_ ?_ ?_ (by refine aab (aaP ..) ?_;exact U),u⟩
 ·cases l with
  | nil=>rfl
  | cons a l=>
   show(bK (g a) != 0&&(l.map g).all λe=>bK e==bK (g a))=true
   (refine aab (h1 a aaS) ?_;refine aab (abW ..) ?_)
   refine⟨by simpa using O,?_⟩
   (refine aab List.all_map ?_;refine aab (propext (abV)) ?_)
   intro b u
   simpa using h1 b (aaU _ u)
 ·unfold tj;refine aab (propext (abV)) ?_;intro x C;simp only[abV];intro y D;refine ya (abk.mp C) λa W Y=>?_;clear C;obtain rfl:=Y;refine ya (abk.mp D) λb Z BA=>?_;clear D;obtain rfl:=BA;refine aab (h2 a W b Z) ?_;rfl
 ·refine aab (aaP ..) ?_;refine⟨λi j hi B e=>?_,λi j k hi B hk G J=>?_⟩
  ·rw[u i j hi B] at e;refine aab (u j i B hi) ?_;exact wI _ _ e
  ·rw[u j i B hi] at G;rw[u k j hk B] at J;refine aab (u k i hk hi) ?_;exact IC _ _ _ G J
theorem Qn{a b:Int}:cc [a] [b]=decide (a<b):=by
 unfold cc cc
 by_cases h:a=b
 ·subst h;simp
 ·simp[h]
noncomputable def cu(x:V)(o:Int):V:= .tup [x,.int o]
noncomputable def cw(val:V->Int)(x:V)(o:Int):V:= .tup [.int (val x),.int o,x]
noncomputable def BB:V->Int
 | .int i=>i
 | _=>0
noncomputable def lr:V->List V
 | .tup vs=>vs
 | _=>[]
noncomputable def gV(tv:V->Int)(v:V):List Int:=[tv ((lr v).getD 0 .none),BB ((lr v).getD 1 .none),tv ((lr v).getD 0 .none)]
noncomputable def gW(val tv:V->Int)(v:V):List Int:=[val ((lr v).getD 2 .none),BB ((lr v).getD 1 .none),tv ((lr v).getD 2 .none)]
theorem BC(tv:V->Int):EntOk tv tv cu (gV tv):=⟨λu u=>rfl⟩
theorem BD(val tv:V->Int):EntOk val tv (cw val) (gW val tv):=⟨λu u=>rfl⟩
noncomputable def sx(b:Bool)(tv:V->Int):V->PyData
 | .tup [x,.int o]=>.tuple [eW b (tv x),.int o]
 | _=>.none
noncomputable def sy(b:Bool)(val tv:V->Int):V->PyData
 | .tup [_,.int o,x]=>.tuple [.int (val x),.int o,eW b (tv x)]
 | _=>.none
noncomputable def fo(st:jb)(b:Bool)(tv:V->Int)(x:V):Prop:= ∀n,2<=n->toD st n x=aac (eW b (tv x))
theorem kc5{st:jb}{b:Bool}{tv:V->Int}{x:V}{o:Int}(h:fo st b tv x):toD st 6 (cu x o)=aac (sx b tv (cu x o)):=by
 show(bw (toD st 5) [x,.int o]).map ahg=_;unfold bw
 rw[h 5 (by exact L4)]
 rfl
theorem xc5{st:jb}{b:Bool}{val tv:V->Int}{x:V}{o:Int}(h:fo st b tv x):toD st 6 (cw val x o)=aac (sy b val tv (cw val x o)):=by
 show(bw (toD st 5) [.int (val x),.int o,x]).map ahg=_;unfold bw bw bw
 rw[h 5 (by exact L4)]
 rfl
structure nc(val tv:V->Int)(ent:V->Int->V)(dec:V->List Int)(dat:V->PyData)(b:Bool):Prop extends EntOk val tv ent dec where
 cls:∃c,c≠0/\∀x o,bK (dat (ent x o))=c
 lt:∀x o y p,dc (dat (ent x o)) (dat (ent y p))=aac (cc (dec (ent x o)) (dec (ent y p)))
 toD:∀(st:jb) x o,fo st b tv x->toD st 6 (ent x o)=aac (dat (ent x o))
theorem Ee(b:Bool)(tv:V->Int):nc tv tv cu (gV tv) (sx b tv) b where
 toEntOk:=BC tv
 cls:=by
  cases b with
  | true=>exact(ja 4 (by decide) (λzZ zZ=>rfl))
  | false=>exact(ja 3 (by decide) (λzZ zZ=>rfl))
 lt:=λx o y p=>zeo b _ _ _ _
 toD:=λst x o h=>kc5 h
theorem Ef(b:Bool)(val tv:V->Int):nc val tv (cw val) (gW val tv) (sy b val tv) b where
 toEntOk:=BD val tv
 cls:=⟨3,by decide,λzZ zZ=>rfl⟩
 lt:=λx o y p=>yeo b _ _ _ _ _ _
 toD:=λst x o h=>xc5 h
section
variable{val tv:V->Int}{ent:V->Int->V}{dec:V->List Int}{dat:V->PyData}{b:Bool}
theorem nc.kN(E:nc val tv ent dec dat b){st:jb}{r:Nat}{items:List V}(h:∀x∈items,∀ws,fo (st.set r (.lst ws)) b tv x):oU st r (λa => ∃x∈items,∃o,a=ent x o) (ip dec):=by
 rintro ws _ _ ⟨x,u,o,rfl⟩ ⟨y,B,p,rfl⟩ lo
 unfold ltV
 (refine aab (E.toD _ x o (h x u ws)) ?_;refine aab (E.toD _ y p (h y B ws)) ?_)
 dsimp only;refine aab (E.lt ..) ?_
 rfl
theorem cI.sorted{items:List V}{n m:Nat}{H:List V}{o:Int}{L:List (V×Int)}(h:cI val ent dec items n m H o L)(E:nc val tv ent dec dat b)(D:H.length<64):iX (H.map dat)=true/\cq (H.map dat) H=L.map λp=>ent p.1 p.2:=by
 refine ya E.cls λc G J=>?_
 obtain⟨k1,k2⟩:=Qm (l:=H) (g:=dat) (dec:=dec) G (λa u=>by refine uk (h.mem a u) λx C o O=>?_;obtain rfl:=O;exact J x o) (λa u b B=>by
  refine uk (h.mem a u) λx C o U=>?_;clear u;obtain rfl:=U;refine uk (h.mem b B) λy C p W=>?_;obtain rfl:=W
  exact E.lt x o y p) D
 refine⟨k1,ych k1 (by exact aaP ..) k2 h.perm ?_⟩
 simp only[adI];exact h.tG.imp λB=>E.Qh B
theorem jcc{items:List V}{g:V->PyData}{val:V->Int}{bb:Bool}(u:∀x∈items,g x=eW bb (val x))(C:items.length<64):iX (items.map g)=true/\cq (items.map g) items=jg val items:=by
 obtain⟨k1,k2⟩:=Qm (l:=items) (g:=g) (dec:=λx=>[val x]) (c:=bK (eW bb 0)) (by cases bb<;>decide) (λa B=>by rw[u a B];cases bb<;>rfl) (λa B b D=>by
  simp only[u a B,u b D,Ql,Qn]) C
 refine⟨k1,xcr k1 (by exact aaP ..) λi j hi G=>?_⟩
 (refine aab (k2 i j hi G) ?_;exact Qn)
end
section
variable{σ:S}
theorem Eg{st:jb}{n:Nat}{i:Int}:toD st (n+1) (.int i)=aac (.int i):=rfl
theorem Qo{st:jb}{n:Nat}:∀ns:List Int,bw (toD st (n+1)) (ns.map V.int)=aac (ns.map aeL)
 | []=>rfl
 | a::ns=>by
  exact MZ (f:=toD st (n+1)) (a:=V.int a) rfl (Qo ns)
theorem Qp{st:jb}{n l:Nat}{ns:List Int}(h:st[l]?=aac (.lst (ns.map V.int))):toD st (n+2) (.obj l)=aac (.list (ns.map aeL)):=by
 show(match st[l]? with | some (.lst vs)=>(bw (toD st (n+1)) vs).map aet | _=>aam)=_
 refine aab h ?_;exact congrArg (Option.map aet) (Qo ns)
theorem Qq:∀as bs:List Int,adZ (as.map aeL) (bs.map aeL)=decide (as=bs)
 | [],[]=>by simp[adZ]
 | [],_::_=>by simp[adZ]
 | _::_,[]=>by simp[adZ]
 | a::as,b::bs=>by
  simp only[ac1,adZ,Qq as bs,abb]
  by_cases h:a=b
  ·subst h;simp
  ·simp[h]
theorem ydr{l k:Nat}{as bs:List Int}{Q:V->S->Prop}(h1:σ.st[l]?=aac (.lst (as.map V.int)))(h2:σ.st[k]?=aac (.lst (bs.map V.int))):MW (eG (.obj l) (.obj k)) σ Q↔Q (.bool (decide (as=bs))) σ:=by
 refine gb ?_;unfold eG
 (refine aab (Qp h1) ?_;refine aab (Qp h2) ?_)
 simp only[abb,Qq]
theorem tI{a b:Int}{Q:V->S->Prop}:MW (eG (.int a) (.int b)) σ Q↔Q (.bool (decide (a=b))) σ:=by
 refine gb ?_;unfold eG
 (refine aab Eg ?_;refine aab Eg ?_)
 simp only[abb]
 rfl
theorem jdr{a b:Int}{Q:V->S->Prop}:MW (G6 (.int a) (.int b)) σ Q↔Q (.bool (!decide (a=b))) σ:=by
 refine gb ?_;unfold G6
 (refine aab Eg ?_;refine aab Eg ?_)
 simp only[abb]
 rfl
theorem zx{v:V}{Q:V->S->Prop}:MW (oA v .none) σ Q↔Q (.bool v.isNone) σ:=by
 refine gb ?_
 cases v<;>rfl
theorem Qr{v:V}{Q:V->S->Prop}:MW (pj v .none) σ Q↔Q (.bool (!v.isNone)) σ:=by
 refine gb ?_
 cases v<;>rfl
theorem xcz{l k:Nat}{Q:V->S->Prop}:MW (pj (.obj l) (.obj k)) σ Q↔Q (.bool (!decide (l=k))) σ:=gb rfl
theorem ydm{l k:Nat}{as bs:List V}{Q:V->S->Prop}(h1:σ.st[l]?=aac (.lst as))(h2:σ.st[k]?=aac (.lst bs))(u:(as++bs).length<=1000000):
  MW (dM (.obj l) (.obj k)) σ Q↔Q (.obj σ.st.length) {σ with st:=σ.st++[.lst (as++bs)]}:=by
 refine gb ?_;unfold dM;dsimp only
 (refine aab h1 ?_;refine aab h2 ?_)
 dsimp only;unfold cB;exact if_pos u
theorem gcr{α:Type}(vs:List α)(lo hi:Option Int):rq vs lo hi aam=(vs.drop (lo.elim 0 (adW vs.length))).take (hi.elim vs.length (adW vs.length)-lo.elim 0 (adW vs.length)):=by
 unfold rq;refine aab (sliceBounds_plain ..) ?_;dsimp only;refine aab (sliceRange_one ..) ?_
 generalize lo.elim 0 (adW vs.length)=a
 generalize hi.elim vs.length (adW vs.length)-a=n
 induction n generalizing a with
 | zero=>simp
 | succ n u=>
  simp only[ad6,acy,aeF,u];simp only[ac1,List.map_nil,ad1,ahk]
  (refine aab acg ?_;refine aab (ahp) ?_)
  cases vs[a+n]? <;> rfl
theorem gc5{l:Nat}{vs:List V}{a b:V}{lo hi:Option Int}{Q:V->S->Prop}(h:σ.st[l]?=aac (.lst vs))(u:lD a=aac lo)(B:lD b=aac hi):
  MW (zp (.obj l) (a,b,.none)) σ Q↔Q (.obj σ.st.length) {σ with st:=σ.st++[.lst ((vs.drop (lo.elim 0 (adW vs.length))).take (hi.elim vs.length (adW vs.length)-lo.elim 0 (adW vs.length)))]}:=by
 refine gb ?_;have C:lD V.none=aac aam:=rfl;unfold zp;dsimp only
 (refine aab h ?_;refine aab u ?_;refine aab B ?_;refine aab C ?_)
 dsimp only
 rw[if_neg (by simp),gcr]
end
section
variable{β:Type}{σ:S}
theorem w_eq{a b:Int}{f:V->M β}{Q:β->S->Prop}(k:MW (f (.bool (decide (a=b)))) σ Q):MW (eG (.int a) (.int b) >>= f) σ Q:=qb.mpr (tI.mpr k)
theorem w_ne{a b:Int}{f:V->M β}{Q:β->S->Prop}(k:MW (f (.bool (!decide (a=b)))) σ Q):MW (G6 (.int a) (.int b) >>= f) σ Q:=qb.mpr (jdr.mpr k)
end
noncomputable def aD(L:List Nat)(st am:jb):Prop:=st.length<=am.length/\∀k,k<st.length->k∉L->am[k]?=st[k]?
theorem jd{st:jb}{l:Nat}{c:bn}(h:st[l]?=aac c):l<st.length:=(aaY.mp h).1
theorem aD.refl(L:List Nat)(st:jb):aD L st st:=⟨aaw _,λu u u=>rfl⟩
theorem aD.trans{L:List Nat}{a b c:jb}(x:aD L a b)(y:aD L b c):aD L a c :=
 ⟨aaB x.1 y.1,λk hk u=>(y.2 k (aby hk x.1) u).trans (x.2 k hk u)⟩
theorem aD.get{L:List Nat}{a b:jb}{k:Nat}{c:bn}(x:aD L a b)(h:a[k]?=aac c)(hk:k∉L):b[k]?=aac c:=(x.2 k (jd h) hk).trans h
theorem aD.bD{a b:jb}{k:Nat}{c:bn}(x:aD [] a b)(h:a[k]?=aac c):b[k]?=aac c:=x.get h (by simp)
theorem aD.mono{L u:List Nat}{a b:jb}(x:aD L a b)(h:∀k∈L,k∈u):aD u a b:=⟨x.1,λk hk B=>x.2 k hk λq=>B (h k q)⟩
theorem aD.nil{L:List Nat}{a b:jb}(x:aD [] a b):aD L a b:=x.mono (by simp)
theorem aD.app(L:List Nat)(st xs:jb):aD L st (st++xs):=⟨by simp,λk hk u=>aas hk⟩
theorem aD.set{L:List Nat}{st:jb}{l:Nat}{c:bn}(h:l∈L):aD L st (st.set l c) :=
 ⟨by simp,λk hk u=>aau (by rintro rfl;exact u h)⟩
theorem qh{st:jb}{l:Nat}{c:bn}(h:l<st.length):(st.set l c)[l]?=aac c:=acm h
section
variable{σ:S}
theorem jr{vs:List V}{Q:V->S->Prop}(u:vs.length<=1000000)(h:∀k am,aD [] σ.st am->σ.st.length<=k->am[k]?=aac (.lst vs)->Q (.obj k) ⟨am,σ.lo⟩):MW (cB vs) σ Q :=
 (IW u).mpr (h _ _ (aD.app ..) (aaw _) aaq)
theorem Kk{l k:Nat}{as bs:List V}{Q:V->S->Prop}(h1:σ.st[l]?=aac (.lst as))(h2:σ.st[k]?=aac (.lst bs))(u:(as++bs).length<=1000000)
  (h:∀k am,aD [] σ.st am->σ.st.length<=k->am[k]?=aac (.lst (as++bs))->Q (.obj k) ⟨am,σ.lo⟩):MW (dM (.obj l) (.obj k)) σ Q :=
 (ydm h1 h2 u).mpr (h _ _ (aD.app ..) (aaw _) aaq)
theorem Eh{l:Nat}{vs:List V}{a b:V}{lo hi:Option Int}{ws:List V}{Q:V->S->Prop}(u:σ.st[l]?=aac (.lst vs))(B:lD a=aac lo)(C:lD b=aac hi)
  (D:(vs.drop (lo.elim 0 (adW vs.length))).take (hi.elim vs.length (adW vs.length)-lo.elim 0 (adW vs.length))=ws)
  (h:∀k am,aD [] σ.st am->σ.st.length<=k->am[k]?=aac (.lst ws)->Q (.obj k) ⟨am,σ.lo⟩):MW (zp (.obj l) (a,b,.none)) σ Q:=by
 subst D;exact(gc5 u B C).mpr (h _ _ (aD.app ..) (aaw _) aaq)
end
theorem tJ{params:List String}{body:M Fl}{vs:List V}{st:jb}{R:V->jb->Prop}(B:vs.length=params.length)
  (h:MW body ⟨st,qd params vs⟩ (λf aa=>R (match f with | .ret u=>u | _=>.none) aa.st)):∃v am,cZ params body vs st = .ok v am/\R v am:=by
 refine xj h λf aa e h1=>?_
 try clear h
 exact(gf _ _ (rW B ⟨f,aa,e,rfl,rfl⟩) h1)
theorem Kl{n k:Nat}:adW n (k:Int)=min k n:=by
 unfold adW;refine aab (if_neg (abD.mpr (abw k))) ?_;exact VE
theorem Qs{α:Type}(vs:List α)(a b:Nat):(vs.drop (min a vs.length)).take (min b vs.length-min a vs.length)=(vs.drop a).take (b-a):=by
 by_cases h:a<=vs.length
 ·refine aab (adv h) ?_
  conv=>rhs;rw[List.take_eq_take_min]
  rw[adS]
  congr 1;exact Ut
 ·rw[agr (show vs.length<=min a vs.length by exact Uu h),agr (show vs.length<=a by exact Us h)];simp
theorem zcs{α:Type}(vs:List α)(a:Nat):(vs.drop (min a vs.length)).take (vs.length-min a vs.length)=vs.drop a:=by
 have:=Qs vs a vs.length;rw[Nat.min_self] at this
 rw[this,acO (by simp)]
section
variable{σ:S}
theorem wdr{l:Nat}{vs:List V}{x y:Int}{Q:V->S->Prop}(a b:Nat)(u:σ.st[l]?=aac (.lst vs))(B:x=a)(C:y=b)
  (h:∀k am,aD [] σ.st am->σ.st.length<=k->am[k]?=aac (.lst ((vs.drop a).take (b-a)))->Q (.obj k) ⟨am,σ.lo⟩):MW (zp (.obj l) (.int x,.int y,.none)) σ Q:=by
 subst B C;refine Eh (lo:=aac (a:Int)) (hi:=aac (b:Int)) u rfl rfl ?_ h;simp only[ahN,Kl];exact Qs vs a b
theorem Qt{l:Nat}{vs:List V}{x:Int}{Q:V->S->Prop}(a:Nat)(u:σ.st[l]?=aac (.lst vs))(B:x=a)
  (h:∀k am,aD [] σ.st am->σ.st.length<=k->am[k]?=aac (.lst (vs.drop a))->Q (.obj k) ⟨am,σ.lo⟩):MW (zp (.obj l) (.int x,.none,.none)) σ Q:=by
 subst B;refine Eh (lo:=aac (a:Int)) (hi:=aam) u rfl rfl ?_ h;simp only[ahN,Kl];exact zcs vs a
theorem BH{l:Nat}{vs:List V}{y:Int}{Q:V->S->Prop}(b:Nat)(u:σ.st[l]?=aac (.lst vs))(B:y=b)
  (h:∀k am,aD [] σ.st am->σ.st.length<=k->am[k]?=aac (.lst (vs.take b))->Q (.obj k) ⟨am,σ.lo⟩):MW (zp (.obj l) (.none,.int y,.none)) σ Q:=by
 subst B;refine Eh (lo:=aam) (hi:=aac (b:Int)) u rfl rfl ?_ h;simp only[ahN,Kl]
 simp
theorem qdr{l:Nat}{vs:List V}{Q:V->S->Prop}(u:σ.st[l]?=aac (.lst vs))
  (h:∀k am,aD [] σ.st am->σ.st.length<=k->am[k]?=aac (.lst vs)->Q (.obj k) ⟨am,σ.lo⟩):MW (zp (.obj l) (.none,.none,.none)) σ Q:=by
 refine Eh (lo:=aam) (hi:=aam) u rfl rfl ?_ h
 simp
end
section
variable{σ:S}
end
theorem Qu{C:S->Nat->Option (Option V)}{t:V->M Unit}{c:M Bool}{G:M Unit}{Q:Unit->S->Prop}(N:Nat)(I:Nat->S->Prop)
  (J:∀σ,I N σ->C σ N=aac aam/\Q () σ)
  (h:∀i σ,i<N->I i σ->∃v,C σ i=aac (aac v)/\MW (t v) σ (λu O=>MW c O (λb D=>if b=true then MW G D (λu U=>I (i+1) U) else I (i+1) D)))
  (n:Nat) (σ:S) (W:N<n) (h0:I 0 σ):MW (y4 n t c G C) σ Q:=by
 unfold y4;simp only[qb]
 refine Dw (Q:=λu aa=>MW (pure ()) aa Q) N I (λσ B=>⟨(J σ B).1,yb.mpr (J σ B).2⟩) ?_ n 0 σ (aaL _) (by exact Lw W) h0
 intro i σ hi B;refine ya (h i σ hi B) λv e Y=>?_;refine(ja v e (Y.mono λu O h1=>?_));unfold zn;simp only[qb];refine h1.mono λb D h2=>?_
 cases b with
 | true=>
  simp only[if_true] at h2 ⊢;simp only[qb];exact h2.mono λu U h3=>yb.mpr h3
 | false=>
  simp only[aaW,if_false] at h2 ⊢;exact yb.mpr h2
theorem Qv{free:List String}{B:Nat->(S->Nat->Option (Option V))->M Unit}{v:V}{σ:S}{Q:V->S->Prop}(C:km v σ = .ok () σ)
  (h:MW (B σ.st.length (kj v)) ⟨σ.st++[.lst []],xp free σ.lo⟩ (λD aa=>Q (.obj σ.st.length) ⟨aa.st,σ.lo⟩)):MW (jn free B v) σ Q:=by
 refine xj h λu aa e q=>?_
 try clear h
 refine(gf (.obj σ.st.length) ⟨aa.st,σ.lo⟩ ?_ q);unfold jn qw;refine aab C ?_;dsimp only;exact aab e rfl
noncomputable def pO(st am:jb):Prop:= ∀k,k<st.length->am[k]?=st[k]?
theorem Ei{l:Nat}{vs:List V}{v:V}{σ:S}{Q:Unit->S->Prop}(h:σ.st[l]?=aac (.lst vs))(u:l≠0)(B:vs.length<1000000)(q:Q () ⟨σ.st.set l (.lst (vs++[v])),σ.lo⟩):MW (yn l v) σ Q:=by
 unfold yn;simp only[qb];exact(Oi h u B).mpr (yb.mpr q)
theorem Ej{free:List String}{U:Nat->(S->Nat->Option (Option V))->M Unit}{t:V->M Unit}{c:M Bool}{e:M V}{n:Nat}{v0:V}{us:List V}{σ:S}{Q:V->S->Prop}(g:V->Option V)
  (Km:∀l W,U l W=y4 n t c (do let v <- e;yn l v) W)
  (iy:km v0 σ = .ok () σ) (h0:0<σ.st.length) (Y:∀aa i,pO σ.st aa.st->kj v0 aa i=aac us[i]?) (hn:us.length<n) (mO:us.length<1000000)
  (h:∀v∈us,∀aa,pO σ.st aa.st->(∀x∈free,aa.lo x=σ.lo x)->MW (t v) aa (λzZ B=>B.st=aa.st/\(∀x∈free,B.lo x=aa.lo x)/\
   MW c B (λb Z=>Z=B/\(match g v with | none=>b=false | some w=>b=true/\MW e B (λu J=>u=w/\J=B)))))
  (q:∀k am,aD [] σ.st am->σ.st.length<=k->am[k]?=aac (.lst (us.filterMap g))->Q (.obj k) ⟨am,σ.lo⟩):MW (jn free U v0) σ Q:=by
 refine Qv iy ?_;refine aab (Km ..) ?_
 refine Qu us.length (λi aa=>aa.st=σ.st++[.lst ((us.take i).filterMap g)]/\∀x∈free,aa.lo x=σ.lo x) ?_ ?_ n _ hn ⟨by simp,λx C=>by simp only[xp,if_pos C]⟩
 ·rintro aa ⟨D,_⟩
  refine⟨?_,?_⟩
  ·rw[Y aa _ (by rw[D];intro k hk;exact aas hk)];simp
  ·(refine aab D ?_;refine aab acK ?_)
   exact q _ _ (aD.app ..) (aaw _) aaq
 ·rintro i aa hi ⟨D,O⟩
  have o6:pO σ.st aa.st:=by refine aab D ?_;intro k hk;exact aas hk
  refine(ja (us[i]) (by(refine aab (Y aa i o6) ?_;exact aab (aav hi) rfl)) ?_)
  refine(h us[i] (acJ hi) aa o6 O).mono λzZ B h1=>?_;refine y5 h1 λe3 e4 h2=>?_
  try clear h1
  refine h2.mono λb Z h3=>?_;obtain⟨rfl,h3⟩:=h3
  have kL:us.take (i+1)=us.take i++[us[i]]:=by(refine aab acg ?_;refine aab (aav hi) ?_);rfl
  cases G:g us[i] with
  | none=>
   rw[G] at h3;simp only at h3;subst h3;simp only[aaW,if_false];refine⟨?_,λx C=>(e4 x C).trans (O x C)⟩
   (refine aab e3 ?_;refine aab D ?_;refine aab kL ?_;refine aab aeF ?_)
   simp[G]
  | some w=>
   rw[G] at h3;refine ye h3 λBI h4=>?_
   try clear h3
   obtain rfl:=BI;simp only[if_true];refine aab (propext (qb)) ?_;refine h4.mono λu J h5=>?_;refine ye h5 λBJ BK=>?_
   try clear h5
   obtain rfl:=BJ;clear h2 h4;obtain rfl:=BK
   have bp:((us.take i).filterMap g).length<1000000:=by
    have h6:=List.length_filterMap_le g (us.take i);rw[abM] at h6;exact T0 h6 mO
   have cS:J.st=σ.st++[.lst ((us.take i).filterMap g)]:=e3.trans D
   refine Ei (by refine aab cS ?_;exact aaq) (by exact Fa h0) bp ⟨?_,λx C=>(e4 x C).trans (O x C)⟩
   dsimp only
   (refine aab cS ?_;refine aab kL ?_;refine aab aeF ?_;refine aab (aeG _ _ (aaw _)) ?_)
   simp[G]
theorem sz{l:Nat}{vs:List V}{st:jb}(h:st[l]?=aac (.lst vs)):∀(aa:S) i,pO st aa.st->kj (.obj l) aa i=aac vs[i]?:=by
 intro aa i u;have:aa.st[l]?=aac (.lst vs):=(u l (jd h)).trans h
 show(match aa.st[l]? with | some (.lst vs)=>aac vs[i]? | _=>aam)=_
 exact aab this rfl
theorem Qx{a b c:Int}{σ:S}(h:abq a b c=true):km (.ch a b c) σ = .ok () σ:=by simp only[km,h,if_true]
theorem BL{l:Nat}{vs:List V}{σ:S}(h:σ.st[l]?=aac (.lst vs)):km (.obj l) σ = .ok () σ:=sW h
section
variable{σ:S}
theorem Qy{n:Nat}{m:List V->M Unit}{vs:List V}{Q:Unit->S->Prop}(h:vs.length=n):MW (qk n m (.tup vs)) σ Q↔MW (m vs) σ Q:=by
 unfold qk;dsimp only;rw[if_pos h]
theorem tK{m:List V->M Unit}{a b:V}{Q:Unit->S->Prop}:MW (qk 2 m (.tup [a,b])) σ Q↔MW (m [a,b]) σ Q:=Qy rfl
theorem Qz{m:List V->M Unit}{a b c:V}{Q:Unit->S->Prop}:MW (qk 3 m (.tup [a,b,c])) σ Q↔MW (m [a,b,c]) σ Q:=Qy rfl
theorem yk{m:V->M Unit}{u:List V->M Unit}{v:V}{vs:List V}{Q:Unit->S->Prop}:MW (gu m u (v::vs)) σ Q↔MW (m v) σ (λB aa=>MW (u vs) aa Q):=by
 show MW (m v >>= λB=>u vs) σ Q↔_;exact qb
end
theorem QA{a b c:Int}(u:0<c):aaD a b c=if a<b then(b-a-1) / c+1 else 0:=by
 unfold aaD;exact if_pos u
theorem QB{a b c:Int}(C : -100000<=a/\a<=100000)(B : -100000<=b/\b<=100000)(u:0<c/\c<=100000):abq a b c=true:=by
 have hz:0<=aaD a b c/\aaD a b c<=300000:=by
  refine⟨M7 a b c,?_⟩;refine aab (QA u.1) ?_
  split
  ·have:=Int.ediv_le_self (a:=b-a-1) c (by exact tY (by assumption))
   exact T3 B C this
  ·exact UB
 unfold abq;simp only[abW]
 refine⟨⟨⟨⟨xy (by exact Lx C),xy (by exact Lx B)⟩,xy (by exact T4 u)⟩,xy (by exact T5 hz)⟩,?_⟩
 refine aab (age ..) ?_
 right
 rw[if_pos (by exact T6 u)]
 exact xy (by exact T7 B u)
theorem Kn{a b:Int}{n:Nat}(σ:S)(i:Nat)(B:n=(b-a).toNat):kj (.ch a b 1) σ i=aac ((aaF n).map λ(j:Nat)=>V.int (a+j))[i]?:=by
 simp only[I1];have h1:=s0 a b 1
 rw[QA (by exact UC)] at h1
 have:zl a b 1=n:=by
  by_cases u:a<b
  ·rw[if_pos u,ajd,ahi] at h1
   exact afp.mp (h1.trans (by rw[B,adn (abt (acj u))]))
  ·rw[if_neg u] at h1;rw[B,acH (aeT (abD.mp u))];exact afp.mp h1
 refine aab this ?_
 by_cases hi:i<n
 ·refine aab (if_pos hi) ?_;simp[hi]
 ·rw[if_neg hi,abR (by simp;exact qE hi)]
section
variable{σ:S}
end
section
variable{σ:S}
end
section
variable{σ:S}
end
theorem Ko{nx:Nat->M (Option V)}{t:V->M Unit}{b:M Fl}{Q:Fl->S->Prop}(N:Nat)(I:Nat->S->Prop)
  (Y:∀σ,I N σ->MW (nx N) σ (λo aa=>o=aam/\Q .next aa))
  (h:∀i σ,i<N->I i σ->MW (nx i) σ (λo D => ∃v,o=aac v/\MW (t v) D (λZ J=>MW b J (λf u=>match f with | .next=>I (i+1) u | .cont=>I (i+1) u | .brk=>Q .next u | .ret v=>Q (.ret v) u)))) :
  ∀(n i:Nat) (σ:S),i<=N->N-i<n->I i σ->MW (bo nx t b n i) σ Q:=by
 intro n
 induction n with
 | zero=>intro i σ _ hk;(exfalso;exact EX hk)
 | succ n O=>
  intro i σ hi hk U
  by_cases B:i=N
  ·subst B;refine gc (Y σ U) λo aa e BM q=>?_;obtain rfl:=BM;refine(gf .next aa ?_ q)
   (refine aab (uC ..) ?_;exact aab e rfl)
  ·refine wrap λG_ W=>?_
   obtain⟨o,D,e,v,G,hw⟩:=h i σ (by exact EY hi B) U
   refine W ?_;clear W G_;obtain rfl:=G
   have key:MW (do
    t v
    match <- b with
    | .next=>bo nx t b n (i+1)
    | .cont=>bo nx t b n (i+1)
    | .brk=>pure .next
    | .ret v=>pure (.ret v)) D Q:=by
    refine aab (propext (qb)) ?_;refine hw.mono λZ J h1=>?_;refine aab (propext (qb)) ?_;refine h1.mono λf u C=>?_
    cases f with
    | next=>exact O (i+1) u (by exact Cu hi B) (by exact Cv hk hi B) C
    | cont=>exact O (i+1) u (by exact Cu hi B) (by exact Cv hk hi B) C
    | brk=>exact yb.mpr C
    | ret v=>exact yb.mpr C
   refine xj key λa aa e2 q=>?_
   try clear key
   refine(gf a aa ?_ q)
   (refine aab (uC ..) ?_;refine aab e ?_);exact e2
theorem Kp{nx:Nat->M (Option V)}{t:V->M Unit}{c:M Bool}{D:M Unit}{Q:Unit->S->Prop}(N:Nat)(I:Nat->S->Prop)
  (U:∀σ,I N σ->MW (nx N) σ (λo aa=>o=aam/\Q () aa))
  (h:∀i σ,i<N->I i σ->MW (nx i) σ (λo G => ∃v,o=aac v/\MW (t v) G (λu J=>MW c J (λb B=>if b=true then MW D B (λu O=>I (i+1) O) else I (i+1) B))))
  (n:Nat) (σ:S) (W:N<n) (h0:I 0 σ):MW (xw n t c D nx) σ Q:=by
 unfold xw;simp only[qb]
 refine Ko (Q:=λu aa=>MW (pure ()) aa Q) N I (λσ C=>(U σ C).mono λo aa h=>⟨h.1,yb.mpr h.2⟩) ?_ n 0 σ (aaL _) (by exact Lw W) h0
 intro i σ hi C;refine(h i σ hi C).mono λo G h0=>?_;refine ya h0 λv Y Z=>?_
 try clear h0
 obtain rfl:=Y;refine(ja v rfl (Z.mono λu J h1=>?_));unfold zn;simp only[qb];refine h1.mono λb B h2=>?_
 cases b with
 | true=>
  simp only[if_true] at h2 ⊢;simp only[qb];exact h2.mono λu O h3=>yb.mpr h3
 | false=>
  simp only[aaW,if_false] at h2 ⊢;exact yb.mpr h2
theorem QC{free:List String}{B:Nat->(Nat->M (Option V))->M Unit}{nx:Nat->M (Option V)}{σ:S}{Q:V->S->Prop}
  (h:MW (B σ.st.length nx) ⟨σ.st++[.lst []],xp free σ.lo⟩ (λC aa=>Q (.obj σ.st.length) ⟨aa.st,σ.lo⟩)):MW (yh free B nx) σ Q:=by
 refine xj h λu aa e q=>?_
 try clear h
 refine(gf (.obj σ.st.length) ⟨aa.st,σ.lo⟩ ?_ q);unfold yh;exact aab e rfl
theorem QD{σ:S}{β:Type}{a b:Int}{f:V->M β}{Q:β->S->Prop}(k:MW (f (.bool (decide (a=b)))) σ Q):MW (lp (.int a) (.int b) >>= f) σ Q:=w_eq k
theorem jdm{σ:S}{a b:Int}:sr (.int a) (.int b) σ=C7 (.int a) (.int b) σ:=by
 unfold sr js;dsimp only;exact if_pos rfl
theorem QE{σ:S}{a:Int}:ev (.int a) σ = .ok (.int (-a)) σ:=by
 unfold ev js;dsimp only;refine aab (if_pos rfl) ?_;rfl
theorem jeo{σ:S}{β:Type}{a b:Int}{f:V->M β}{Q:β->S->Prop}(k:MW (f (.bool (decide (b<=a)))) σ Q):MW (sr (.int a) (.int b) >>= f) σ Q:=qb.mpr ((gb (by refine aab jdm ?_;rfl)).mpr k)
theorem wep{σ:S}{β:Type}{a:Int}{f:V->M β}{Q:β->S->Prop}(k:MW (f (.int (-a))) σ Q):MW (ev (.int a) >>= f) σ Q:=qb.mpr ((gb QE).mpr k)
theorem pP{σ:S}{a:Int}{Q:V->S->Prop}:MW (ev (.int a)) σ Q↔Q (.int (-a)) σ:=gb QE
section
variable{σ:S}{l k0 j:Nat}{items:List V}
theorem sA(u:σ.st[l]?=aac (.aP k0 j false))(hk:σ.st[k0]?=aac (.lst items))(B:l≠0)(C:j<items.length):qg l σ = .ok (aac items[j]) ⟨σ.st.set l (.aP k0 (j+1) false),σ.lo⟩:=by
 unfold qg;refine aab u ?_;dsimp only
 rw[if_neg B,if_neg (by decide),hk]
 dsimp only;exact aab (aav C) rfl
theorem gap(u:σ.st[l]?=aac (.aP k0 j false))(hk:σ.st[k0]?=aac (.lst items))(B:l≠0)(C:items.length<=j):qg l σ = .ok aam ⟨σ.st.set l (.aP k0 j true),σ.lo⟩:=by
 unfold qg;refine aab u ?_;dsimp only
 rw[if_neg B,if_neg (by decide),hk]
 dsimp only;exact aab (abR C) rfl
theorem Kq(u:σ.st[l]?=aac (.aP k0 j true))(B:l≠0):qg l σ = .ok aam σ:=by
 unfold qg;refine aab u ?_;dsimp only
 (refine aab (if_neg B) ?_;exact if_pos rfl)
theorem Ek(n:Int):zl 0 (-n) (-1)=n.toNat:=by
 unfold zl aaD
 rw[if_neg (by decide)]
 split
 ·have:(0 - -n-1) / -(-1)=n-1:=by
   (refine aab (show(-(-1):Int)=1 by decide) ?_;rw[ajd]);exact UK
  exact UL this
 ·exact UM (by assumption)
noncomputable def zh(nt:Bool)(aq:Nat)(us:List V)(st:jb):jb:=if nt=true then st.set aq (.lst us) else st
noncomputable def zm(nt:Bool)(aq:Nat)(us:List V)(st:jb):Prop:=nt=true->st[aq]?=aac (.lst us)
section
variable{nt:Bool}{aq:Nat}{us vs:List V}{st:jb}
theorem BO:(zh nt aq us st).length=st.length:=by unfold zh;split<;>simp
theorem Kr{k:Nat}(h:nt=true->k≠aq):(zh nt aq us st)[k]?=st[k]?:=by
 unfold zh
 split
 ·rename_i e;exact aau (aaR (h e))
 ·rfl
theorem El(h:nt=true->aq<st.length):zm nt aq us (zh nt aq us st):=λe=>by
 unfold zh;refine aab (if_pos e) ?_;exact qh (h e)
theorem QF:zh nt aq us (zh nt aq vs st)=zh nt aq us st:=by
 unfold zh;split<;>simp
theorem yc0{xs:jb}(h:nt=true->aq<st.length):zh nt aq us (st++xs)=zh nt aq us st++xs:=by
 unfold zh
 split
 ·rename_i e;exact adV _ _ (h e)
 ·rfl
theorem QG{l:Nat}{c:bn}(h:nt=true->aq≠l):(zh nt aq us st).set l c=zh nt aq us (st.set l c):=by
 unfold zh
 split
 ·rename_i e;exact List.set_comm _ _ (h e)
 ·rfl
theorem Em{l:Nat}{c:bn}(h:st[l]?=aac c):st.set l c=st:=by
 refine ahA λi=>?_
 by_cases hi:i=l
 ·subst hi;refine aab (qh (jd h)) ?_;exact h.symm
 ·exact(aau (aaR hi))
theorem QH(h:zm nt aq us st):zh nt aq us st=st:=by
 unfold zh
 split
 ·rename_i e;exact Em (h e)
 ·rfl
theorem QI{L:List Nat}{az:jb}(x:aD L az st)(h:nt=true->aq∈L):aD L az (zh nt aq us st):=by
 unfold zh
 split
 ·rename_i e
  exact⟨by refine aab aaz ?_;exact x.1,λk hk u=>by rw[aau (by rintro rfl;exact u (h e))];exact x.2 k hk u⟩
 ·exact x
end
theorem Ks{free:List String}{mc:Nat->(Nat->M (Option V))->M Unit}{t:V->M Unit}{e:M V}{n N:Nat}{nI:Int}{Q:V->S->Prop}{L:List Nat}(nt:Bool)(aq:Nat)(g:Nat->V->V)
  (Km:∀l nx,mc l nx=xw n t (pure true) (do let v <- e;yn l v) nx) (O:σ.st[l]?=aac (.aP k0 0 false)) (hk:σ.st[k0]?=aac (.lst items)) (cA:l≠0) (eV:k0≠l) (U:N=min nI.toNat items.length)
  (hn:items.length<n) (mO:items.length<1000000) (hL:l∈L/\(nt=true->aq∈L)) (W:nt=true->aq≠l/\aq≠k0/\σ.st[aq]?=aac (.lst []))
  (h:∀(i:Nat) v,i<N->items[i]?=aac v->∀aa,(∀x∈free,aa.lo x=σ.lo x)->aD L σ.st aa.st->zm nt aq (items.take i) aa.st->MW (t (.tup [.int (-(i:Int)),v])) aa (λzZ Y=>Y.st=aa.st/\(∀x∈free,Y.lo x=aa.lo x)/\MW e Y (λu aO=>u=g i v/\aO.st=zh nt aq (items.take (i+1)) Y.st/\∀x∈free,aO.lo x=Y.lo x)))
  (q:∀am,aD L σ.st am->am[σ.st.length]?=aac (.lst ((aaF N).map λi=>g i (items.getD i .none)))->am[l]?=aac (.aP k0 N (decide (items.length<nI.toNat)))->zm nt aq (items.take N) am->Q (.obj σ.st.length) ⟨am,σ.lo⟩) :
  MW (nK (.ch 0 (-nI) (-1)) (.obj l) >>= yh free mc) σ Q:=by
 refine aab (propext (qb)) ?_
 refine(gb (a:=gx 0 (-nI) (-1) l) (aa:=σ) (by simp only[nK,O])).mpr ?_
 refine QC ?_;refine aab (Km ..) ?_;have ls:=jd O;have nF:=jd hk;have gG:nt=true->aq≠l:=λe=>(W e).1
 have G:∀{c:bn},nt=true->aq<(σ.st.set l c).length:=λ{c} e=>by refine aab aaz ?_;exact jd (W e).2.2
 generalize hB:(λ(d:Bool) (i:Nat)=>zh nt aq (items.take i) (σ.st.set l (.aP k0 i d)))=B
 have C:∀d i,B d i=zh nt aq (items.take i) (σ.st.set l (.aP k0 i d)):=λd i=>by rw[<- hB]
 clear hB
 have D:∀d i,(B d i).length=σ.st.length:=λd i=>by(refine aab (C ..) ?_;refine aab BO ?_;exact aaz)
 have hD:∀d J i j,zh nt aq (items.take j) ((B d i).set l (.aP k0 j J))=B J j:=λd J i j=>by
  (refine aab (C ..) ?_;refine aab (C ..) ?_;refine aab (QG gG) ?_;refine aab QF ?_;exact aab (acl ..) rfl)
 have kV:∀d J i,(B d i).set l (.aP k0 i J)=B J i:=λd J i=>by
  (refine aab (C ..) ?_;refine aab (C ..) ?_;refine aab (QG gG) ?_;exact aab (acl ..) rfl)
 have base:∀(d:Bool) (i:Nat) (r:List V),(B d i++[bn.lst r])[l]?=aac (.aP k0 i d)/\(B d i++[bn.lst r])[k0]?=aac (.lst items)/\(B d i++[bn.lst r])[σ.st.length]?=aac (.lst r)/\aD L σ.st (B d i++[bn.lst r])/\zm nt aq (items.take i) (B d i++[bn.lst r]):=by
  intro d i r;refine⟨?_,?_,?_,?_,λe=>?_⟩
  ·rw[aas (by rw[D];exact ls),C,Kr (λe=>aaR (gG e)),qh ls]
  ·rw[aas (by rw[D];exact nF),C,Kr (λe=>aaR (W e).2.1),aau (aaR eV)];exact hk
  ·rw[<- D d i];exact aaq
  ·refine aD.trans ?_ (aD.app ..);refine aab (C ..) ?_;exact QI (aD.set hL.1) hL.2
  ·rw[aas (by rw[D];exact jd (W e).2.2),C]
   exact El G e
 refine Kp N (λi aa=>aa.st=B false i++[.lst ((aaF i).map λi=>g i (items.getD i .none))]/\∀x∈free,aa.lo x=σ.lo x) ?_ ?_ n _ (by exact T8 U hn) ⟨?_,λx hx=>by simp only[xp,if_pos hx]⟩
 ·rintro aa ⟨e1,_⟩
  refine CF (base false N ((aaF N).map λi=>g i (items.getD i .none))) λb1 b2 b3 Z b5=>?_;rw[<- e1] at b1 b2 b3 Z b5
  by_cases G:N<nI.toNat
  ·have hd:decide (items.length<nI.toNat)=true:=by simp;exact T9 G U
   rw[hd] at q
   have e2:gx 0 (-nI) (-1) l N aa = .ok aam ⟨aa.st.set l (.aP k0 N true),aa.lo⟩:=by
    unfold gx
    rw[Ek,if_pos G,gap b1 b2 cA (by exact Ua G U)]
   refine(gb e2).mpr ⟨rfl,?_⟩;refine CF (base true N ((aaF N).map λi=>g i (items.getD i .none))) λc1 c2 c3 c4 c5=>?_
   have e3:aa.st.set l (.aP k0 N true)=B true N++[.lst ((aaF N).map λi=>g i (items.getD i .none))]:=by
    rw[e1,adV _ _ (by rw[D];exact ls),kV]
   show Q _ ⟨aa.st.set l (.aP k0 N true),σ.lo⟩;refine aab e3 ?_;exact q _ c4 c3 c1 c5
  ·have hd:decide (items.length<nI.toNat)=false:=by simp;exact Ub U G
   rw[hd] at q
   have e2:gx 0 (-nI) (-1) l N aa = .ok aam aa:=by
    unfold gx
    (refine aab (Ek ..) ?_;exact if_neg G)
   exact(gb e2).mpr ⟨rfl,q _ Z b3 b1 b5⟩
 ·rintro i aa hi ⟨e1,si⟩
  refine CF (base false i ((aaF i).map λi=>g i (items.getD i .none))) λb1 b2 b3 Z b5=>?_;rw[<- e1] at b1 b2 b3 Z b5
  have lc:i<items.length:=by exact Uc hi U
  have e2:gx 0 (-nI) (-1) l i aa = .ok (aac (.tup [.int (-(i:Int)),items[i]])) ⟨aa.st.set l (.aP k0 (i+1) false),aa.lo⟩:=by
   unfold gx
   rw[Ek,if_pos (by exact Ud hi U),sA b1 b2 cA lc]
   dsimp only
   have:(0:Int)+(i:Int) * -1 = -(i:Int):=by rw[adh,ajf,ahK]
   exact aab this rfl
  refine(gb e2).mpr (ja _ rfl ?_);refine CF (base false (i+1) ((aaF i).map λi=>g i (items.getD i .none))) λc1 c2 c3 c4 c5=>?_
  have e3:zh nt aq (items.take (i+1)) (aa.st.set l (.aP k0 (i+1) false))=B false (i+1)++[.lst ((aaF i).map λi=>g i (items.getD i .none))]:=by
   rw[e1,adV _ _ (by rw[D];exact ls),yc0 (λe=>by rw[aaz,D];exact jd (W e).2.2),hD]
  refine(h i items[i] hi (aav lc) ⟨aa.st.set l (.aP k0 (i+1) false),aa.lo⟩ si ?_ λe=>?_).mono λzZ Y h1=>?_
  ·show aD L σ.st (aa.st.set _ _)
   exact⟨by refine aab aaz ?_;exact Z.1,λk hk O=>by rw[aau (by rintro rfl;exact O hL.1)];exact Z.2 k hk O⟩
  ·show(aa.st.set _ _)[aq]?=_;refine aab (aau (aaR (gG e))) ?_;exact b5 e
  refine y5 h1 λe4 e5 h2=>?_
  try clear h1
  (refine aab (propext (yb)) ?_;refine aab (if_pos rfl) ?_;refine aab (propext (qb)) ?_)
  refine h2.mono λu aO h3=>?_;refine y5 h3 λBP e6 e7=>?_
  try clear h3
  obtain rfl:=BP
  have cS:aO.st=B false (i+1)++[.lst ((aaF i).map λi=>g i (items.getD i .none))]:=by(refine aab e6 ?_;refine aab e4 ?_);exact e3
  refine Ei (by rw[cS];exact c3) (by exact Cz nF) (by simp;exact Ue lc mO) ⟨?_,λx hx=>(e7 x hx).trans ((e5 x hx).trans (si x hx))⟩
  dsimp only;refine aab cS ?_
  have ci:∀(A:jb) (c d:bn),(A++[c]).set A.length d=A++[d]:=λA c d=>by refine aab (aeG _ _ (aaw _)) ?_;simp
  (rewrite[<- D false (i+1)];refine aab (ci ..) ?_;refine aab ad6 ?_;refine aab acy ?_)
  simp[aav lc]
 ·show σ.st++[bn.lst []]=_
  (refine aab (C ..) ?_;refine aab (Em O) ?_;refine aab agz ?_;refine aab (QH λe=>(W e).2.2) ?_);rfl
end
section
variable{LM:Nat->List V->bj}
noncomputable def i4(l:Nat)(st:jb)(out:List V)(it:bn)(f:Fl)(aa:S):Prop:= ∃r,f = .ret (.obj r)/\st.length<=r/\aa.st[r]?=aac (.lst out)/\aD [l] st aa.st/\aa.st[l]?=aac it
noncomputable def BQ:V->Option V
 | .tup [x,.int _]=>aac x
 | _=>aam
theorem Kt{σ:S}{r:Nat}{L:List (V×Int)}(h0:σ.lo "result" = aac (.obj r))(hr:σ.st[r]?=aac (.lst (L.map λp=>cu p.1 p.2)))(u:L.length<4000){Q:Fl->S->Prop}
  (q:∀k am,aD [] σ.st am->σ.st.length<=k->am[k]?=aac (.lst (L.map (·.1)))->Q (.ret (.obj k)) ⟨am,σ.lo⟩):MW (D1 LM) σ Q:=by
 unfold D1
 (refine aab (propext (qb)) ?_;refine aab (propext (qb)) ?_;refine aab (propext (jc)) ?_)
 refine(ja _ h0 ?_)
 refine Ej (us:=L.map λp=>cu p.1 p.2) (n:=4096) BQ (λB B=>rfl) (BL hr) (by have:=jd hr;exact qD this) (sz hr) (by refine aab (aaP ..) ?_;exact Ly u) (by refine aab (aaP ..) ?_;exact Lz u) ?_ ?_
 ·intro v C aa _ _;refine ya (abk.mp C) λp J D=>?_;obtain rfl:=D;show MW (qk 2 _ (.tup [p.1,.int p.2])) aa _
  (refine aab (propext (tK)) ?_;refine aab (propext (yk)) ?_;refine aab (propext (qe)) ?_;refine aab (propext (yk)) ?_;refine aab (propext (qe)) ?_;refine aab (propext (yb)) ?_)
  refine⟨rfl,λx G=>(by(exfalso;exact nomatch G)),?_⟩
  show MW (pure true:M Bool) _ _;refine aab (propext (yb)) ?_;refine⟨rfl,rfl,?_⟩;refine aab (propext (jc)) ?_;exact(je p.1 rfl rfl rfl)
 ·intro k am h1 h2 h3;refine aab (propext (yb)) ?_;refine q k am h1 h2 ?_;refine aab h3 ?_
  congr 2
  refine aab ahq ?_
  have:(BQ ∘ λp:V×Int=>cu p.1 p.2)=λp=>aac p.1:=by funext p;rfl
  (refine aab this ?_;refine aab (show(λp:V×Int=>aac p.1)=aac ∘ (λp:V×Int=>p.1) from rfl) ?_;exact aab agE rfl)
structure nd(l k0:Nat)(az:jb)(items:List V)(b:Bool)(tv:V->Int):Prop where
 len:0<l/\l<az.length
 ng:k0≠l
 k0:az[k0]?=aac (.lst items)
 el:∀am,aD [l] az am->∀x∈items,fo am b tv x
 small:items.length<=1000
theorem aD.bG{L:List Nat}{a b:jb}{r:Nat}{c:bn}(x:aD L a b)(h:a.length<=r):aD L a (b.set r c) :=
 ⟨by refine aab aaz ?_;exact x.1,λk hk u=>by rw[aau (by exact Fc hk h)];exact x.2 k hk u⟩
theorem aD.setIn{L:List Nat}{a b:jb}{r:Nat}{c:bn}(x:aD L a b)(h:r∈L):aD L a (b.set r c) :=
 ⟨by refine aab aaz ?_;exact x.1,λk hk u=>by rw[aau (by rintro rfl;exact u h)];exact x.2 k hk u⟩
theorem Ku{σ:S}{r l k0:Nat}{az:jb}{items:List V}{b:Bool}{tv:V->Int}{n:Nat}{H:List V}{o:Int}{L:List (V×Int)}{it:bn}(C:nd l k0 az items b tv)
  (I:cI tv cu (gV tv) items n items.length H o L) (h0:σ.lo "result" = aac (.obj r)) (hr:σ.st[r]?=aac (.lst H)) (B:az.length<=r) (D:aD [l] az σ.st) (hit:σ.st[l]?=aac it) (G:min n items.length<64) :
  MW (D2 LM) σ (i4 l az (jf tv n items) it):=by
 have u:=I.len (aaw _);have J:=C.len;unfold D2;refine aab (propext (yp)) ?_
 (refine aab (propext (qb)) ?_;refine aab (propext (qb)) ?_;refine aab (propext (jc)) ?_)
 refine(ja _ h0 ?_)
 (refine aab (propext (qb)) ?_;refine aab (propext (IV hr)) ?_)
 obtain⟨k1,k2⟩:=I.sorted (Ee b tv) (by exact LA G u)
 have hd:bw (toD (σ.st.set r (.lst [])) 6) H=aac (H.map (sx b tv)):=Ed λa O=>by
  refine uk (I.mem a O) λx Y o Z=>?_;clear O;obtain rfl:=Z;exact(Ee b tv).toD _ x o (C.el _ (D.bG B) x Y)
 have e:qu (.obj r) σ = .ok .none {σ with st:=σ.st.set r (.lst (L.map λp=>cu p.1 p.2))}:=by
  unfold qu;dsimp only
  rw[if_neg (by exact LB J B),hr]
  dsimp only;refine aab hd ?_;dsimp only
  (refine aab (if_pos k1) ?_;exact aab k2 rfl)
 refine(gb e).mpr ?_;refine aab (propext (yb)) ?_;show MW (D1 LM) ⟨σ.st.set r (.lst (L.map λp=>cu p.1 p.2)),σ.lo⟩ _
 refine Kt (σ:=⟨σ.st.set r (.lst (L.map λp=>cu p.1 p.2)),σ.lo⟩) (r:=r) (L:=L) h0 (qh (jd hr)) (by exact LC G u) λk am U W q3=>?_
 have p1:aD [l] az (σ.st.set r (.lst (L.map λp=>cu p.1 p.2))):=D.bG B;refine(sQ k rfl ?_ ?_ (p1.trans U.nil) ?_)
 ·have h1:=D.1;rw[aaz] at W;exact nX h1 W
 ·simp only[q3,I.gU,acK]
 ·refine U.bD ?_;show(σ.st.set r _)[l]?=_
  rw[aau (by exact sM J B)];exact hit
structure kO(l k0 r:Nat)(az:jb)(items:List V)(tv:V->Int)(n N i:Nat)(σ:S):Prop where
 jX:aD [l] az σ.st
 res:σ.lo "result" = aac (.obj r)
 hr:σ.lo "_heapreplace" = aac (.fn "heapreplace")
 it:∃d,σ.st[l]?=aac (.aP k0 (N+i) d)/\(d=true->items.length<=N+i)
 inv:∃H o L,cI tv cu (gV tv) items n (N+i) H o L/\σ.st[r]?=aac (.lst H)/\σ.lo "order" = aac (.int o)/\∃cJ z,L=cJ++[z]/\σ.lo "top" = aac z.1
theorem QJ{st:jb}{lo:String->Option V}{b:Bool}{tv:V->Int}{x y:V}(u:fo st b tv x)(B:fo st b tv y):ltV x y ⟨st,lo⟩ = .ok (.bool (decide (tv x<tv y))) ⟨st,lo⟩:=by
 unfold ltV
 rw[u 6 (by exact FA),B 6 (by exact FA)]
 dsimp only;exact aab (Ql ..) rfl
theorem Kv{σ:S}{r l k0 i N n:Nat}{az:jb}{items:List V}{b:Bool}{tv:V->Int}(C:nd l k0 az items b tv)(W:az.length<=r)(hN:N=min n items.length)(hi:N+i<items.length)(hn:n<=N)(h:kO l k0 r az items tv n N i σ):
  MW (qg l) σ (λo dy => ∃v,o=aac v/\MW (JO LM v) dy (λzZ ab=>MW (JP LM) ab (λf ar=>f = .next/\kO l k0 r az items tv n N (i+1) ar))):=by
 refine wrap λG_ aM=>?_;obtain⟨hp,D,G,pR,H,o,L,I,hH,J,cJ,z,hL,eO⟩:=h;refine aM ?_;clear aM G_;refine ya pR λd hit kX=>?_
 try clear pR
 have cf:=C.len
 have hd:d=false:=by
  cases d with
  | false=>rfl
  | true=>have:=kX rfl;(exfalso;exact LD hi this)
 clear kX;subst hd
 have hk:σ.st[k0]?=aac (.lst items):=hp.get C.k0 (by simp[C.ng])
 have u:=I.len (by exact LF hi)
 refine(gb (sA hit hk (by exact nW cf) hi)).mpr (ja _ rfl ?_)
 have O:aD [l] az (σ.st.set l (.aP k0 (N+i+1) false)):=hp.setIn (aan.mpr rfl)
 have jE:r≠l:=by exact sM cf W
 have sB:(σ.st.set l (.aP k0 (N+i+1) false))[r]?=aac (.lst H):=by refine aab (aau (aaR jE)) ?_;exact hH
 have ic:(σ.st.set l (.aP k0 (N+i+1) false))[l]?=aac (.aP k0 (N+i+1) false):=qh (jd hit);have Y:items[N+i]∈items:=acJ hi
 have hz:z.1∈items:=I.items z (by refine aab hL ?_;simp)
 unfold JO;refine aab (propext (qe)) ?_;unfold JP;simp only[qb,jc,qa,ki,aag,if_true,if_false,aal,exists_eq_left',eO];refine(gb (QJ (C.el _ O _ hz) (C.el _ O _ Y))).mpr ?_;refine aab (propext (yl)) ?_
 by_cases Z:tv z.1<tv items[N+i]
 ·(refine aab (decide_eq_true Z) ?_;refine aab (if_pos rfl) ?_;refine aab (propext (yp)) ?_)
  simp only[qb,jc,yb,qa,ki,aag,if_true,if_false,aal,exists_eq_left',G,D,J]
  refine(gb (by show(if "heapreplace" = "heapreplace" then Res.ok () _ else .stuck)=_;exact if_pos rfl)).mpr ?_
  simp only[qa,ki,aag,if_true,if_false,aal,exists_eq_left',G,D,J]
  refine(px (vs:=[items[N+i],.int o]) (by show 2<=_;exact t5)).mpr ?_
  obtain⟨U,I'⟩:=I.step (BC tv) hi (by exact kb2 hn) hL Z
  have eQ:=Oy (l:=r) (x:=cu items[N+i] o) (P:=λa => ∃x∈items,∃o,a=cu x o) (lt:=ip (gV tv)) sB (by exact Fe cf W) (by(refine aab u.1 ?_;refine adg u.2 ?_;refine aab hL ?_);simp) (by have:=C.small;exact LG u hi this) I.mem ⟨_,Y,o,rfl⟩
   ((Ee b tv).kN λx Y ws=>C.el _ (O.bG W) x Y)
  refine(zk eQ).mpr ?_
  have gC:=I'.len (by exact LH hi)
  have lu:0<min n (N+i):=by(refine adg u.2 ?_;refine aab hL ?_);simp
  have aA:0<U.length:=by refine aab gC.2 ?_;exact sN lu
  obtain⟨jY,B,mA⟩ : ∃jY B,U=jY++[B]:=⟨U.dropLast,U.getLast (ac9 aA),(aca _).symm⟩;have nj:=I'.top (BC tv) mA;have ci:((σ.st.set l (.aP k0 (N+i+1) false)).set r (.lst (su (ip (gV tv)) (H.set 0 (cu items[N+i] o)) 0)))[r]?=aac (.lst (su (ip (gV tv)) (H.set 0 (cu items[N+i] o)) 0)):=qh (jd sB)
  have gD:(su (ip (gV tv)) (H.set 0 (cu items[N+i] o)) 0)[0]?=aac (cu B.1 B.2):=by
   rw[xC (by rw[gC.1];exact sN lu),nj]
  unfold Pz Py;refine aab (propext (yp)) ?_;simp only[qb,jc,yb,qa,ki,aag,if_true,if_false,aal,exists_eq_left',G,D,J]
  refine(zv (j:=0) ci (by rw[show(0:Int)=((0:Nat):Int) from rfl,oR,if_pos (by rw[gC.1];exact sN lu)]) gD).mpr ?_
  show MW (qk 2 _ (.tup [B.1,.int B.2])) _ _
  (refine aab (propext (tK)) ?_;refine aab (propext (yk)) ?_;refine aab (propext (qe)) ?_;refine aab (propext (yk)) ?_;refine aab (propext (qe)) ?_;refine aab (propext (yb)) ?_)
  simp only[qb,jc,qe,yb,qa,ki,aag,if_true,if_false,aal,exists_eq_left',G,D,J]
  refine(gb (a:= .int (o-1)) (by rfl)).mpr ?_
  refine⟨trivial,?_,?_,?_,?_,?_⟩
  ·exact O.bG W
  ·simp only[qa,aag,if_false];exact D
  ·simp only[qa,aag,if_false];exact G
  ·refine(ja false ?_ (λq=>by(injection q)))
   show((σ.st.set l _).set r _)[l]?=_;refine aab (aau jE) ?_;exact ic
  ·exact⟨_,o-1,U,I',ci,by simp only[qa,if_true],jY,B,mA,by simp only[qa,aag,if_false,if_true]⟩
 ·rw[decide_eq_false Z,if_neg (by decide),yb]
  refine⟨rfl,O,?_,?_,⟨false,ic,λq=>by(injection q)⟩,H,o,L,I.Bw hi (by exact kb2 hn) hL Z,sB,?_,cJ,z,hL,?_⟩
  ·simp only[qa,aag,if_false];exact D
  ·simp only[qa,aag,if_false];exact G
  ·simp only[qa,aag,if_false];exact J
  ·simp only[qa,aag,if_false];exact eO
end
section
variable{LM:Nat->List V->bj}
theorem Kw{σ:S}{r l k0 N n:Nat}{az:jb}{items:List V}{b:Bool}{tv:V->Int}(C:nd l k0 az items b tv)(D:az.length<=r)(B:N=min n items.length)(bY:N<64)(dr:σ.lo "it" = aac (.obj l))(h:kO l k0 r az items tv n N 0 σ):
  MW (JQ LM) σ (i4 l az (jf tv n items) (.aP k0 items.length true)):=by
 have G:=C.len;unfold JQ;refine aab (propext (yp)) ?_;simp only[qb,jc,dr,aal,exists_eq_left'];refine ya h.it λd hit U=>?_
 have e:lm (.obj l) σ = .ok (λU=>qg l) σ:=by unfold lm;dsimp only;exact aab hit rfl
 refine(gb e).mpr ?_;have bU:=C.small
 refine Ko (items.length-N) (λi σ=>kO l k0 r az items tv n N i σ) ?_ ?_ 4096 0 _ (aaL _) (by exact LI bU) h
 ·intro aa h';refine wrap λG_ W=>?_;obtain⟨J,cC,ni,Y,H,o,L,I,Z,ho,cJ,z,hL,eO⟩:=h';refine W ?_;clear W G_;refine ya Y λd hit kX=>?_
  try clear Y
  have eN:N+(items.length-N)=items.length:=by exact LJ B
  rw[eN] at hit I kX
  have u:∀am,aD [l] az am->am[r]?=aac (.lst H)->am[l]?=aac (.aP k0 items.length true)->MW (D2 LM) ⟨am,aa.lo⟩ (i4 l az (jf tv n items) (.aP k0 items.length true)):=by
   intro am q1 q2 q3
   exact Ku (σ:=⟨am,aa.lo⟩) C I cC q2 D q1 q3 (by exact LK bY B)
  cases d with
  | true=>
   exact(gb (Kq hit (by exact nW G))).mpr ⟨rfl,u aa.st J Z hit⟩
  | false=>
   have hk:aa.st[k0]?=aac (.lst items):=J.get C.k0 (by simp[C.ng])
   refine(gb (gap hit hk (by exact nW G) (aaw _))).mpr ⟨rfl,u _ (J.setIn (aan.mpr rfl)) ?_ (qh (jd hit))⟩
   rw[aau (by exact LL G D)];exact Z
 ·intro i aa hi h'
  refine(Kv (LM:=LM) C D B (by exact Fg hi) (by exact LN B hi) h').mono λo dy O=>?_
  obtain⟨v,rfl,O⟩:=O;refine(ja v rfl (O.mono λU ab h1=>h1.mono λf ar h2=>?_));obtain⟨rfl,h2⟩:=h2;exact h2
theorem Kx{σ:S}{r l k0 N n:Nat}{nI:Int}{az:jb}{items:List V}{b d:Bool}{tv:V->Int}(C:nd l k0 az items b tv)(G:az.length<=r)(J:n=nI.toNat)(B:N=min n items.length)(bY:N<64)(dr:σ.lo "it" = aac (.obj l))(gL:σ.lo "n" = aac (.int nI))
  (O:σ.lo "result" = aac (.obj r)) (U:aD [l] az σ.st) (hr:σ.st[r]?=aac (.lst ((aaF N).map λi=>cu (items.getD i .none) (-(i:Int))))) (hit:σ.st[l]?=aac (.aP k0 N d)) (hd:d=decide (items.length<n)) :
  MW (JR LM) σ (i4 l az (jf tv n items) (if 0<nI then .aP k0 items.length true else .aP k0 0 false)):=by
 have cf:=C.len;have bU:=C.small;unfold JR;refine aab (propext (yp)) ?_;simp only[qb,jc,O,aal,exists_eq_left'];refine(IU hr).mpr ?_;simp only[yb]
 by_cases D:N=0
 ·have e:(!(!((aaF N).map λi=>cu (items.getD i .none) (-(i:Int))).isEmpty))=true:=by refine aab D ?_;rfl
  (refine aab e ?_;refine aab (if_pos rfl) ?_)
  simp only[qb,jc,O,aal,exists_eq_left',yb]
  have et:jf tv n items=[]:=abm (by refine aab (xu ..) ?_;exact LO B D)
  refine(sQ r rfl G (by(refine aab hr ?_;refine aab D ?_;refine aab et ?_);rfl) U ?_)
  (refine aab hit ?_;refine aab hd ?_;refine aab D ?_)
  by_cases h0:0<nI
  ·refine aab (if_pos h0) ?_
   have h1:items.length=0:=by exact FC h0 J B D
   refine aab h1 ?_
   have:decide (0<n)=true:=by simp;exact Ma h0 J
   exact aab this rfl
  ·refine aab (if_neg h0) ?_
   have:decide (items.length<n)=false:=by simp;exact Mb J h0
   exact aab this rfl
 ·have e:(!(!((aaF N).map λi=>cu (items.getD i .none) (-(i:Int))).isEmpty))=false:=by
   cases N with
   | zero=>exact absurd rfl D
   | succ k=>rw[ad6];simp
  rw[e,if_neg (by decide),yb]
  dsimp only
  have h0:0<nI:=by exact Mc J B D
  refine aab (if_pos h0) ?_;refine xc (cI.start (items:=items) (n:=n) (N:=N) (BC tv) B) λL I=>?_
  have u:=I.len (by exact LQ B)
  obtain⟨cJ,z,hL⟩ : ∃cJ z,L=cJ++[z]:=⟨L.dropLast,L.getLast (ac9 (by exact LR u B D)),(aca _).symm⟩
  have eO:=I.top (BC tv) hL;unfold PD;refine aab (propext (yp)) ?_;simp only[qb,jc,O,aal,exists_eq_left',yb]
  have eQ:=Oz (l:=r) (st:=σ.st) (P:=λa => ∃x∈items,∃o,a=cu x o) (lt:=ip (gV tv)) hr (by exact Fe cf G) (by(refine aab (aaP ..) ?_;refine aab aep ?_);exact LS bY) (λa ha=>by
    refine ya (abk.mp ha) λi hi BU=>?_;obtain rfl:=BU
    have:i<N:=by simpa using hi
    refine(F0 _ ?_ _ rfl)
    exact Ec (by exact LU this B)) ((Ee b tv).kN λx hx ws=>C.el _ (U.bG G) x hx)
  rw[aaP,aep] at eQ;refine(zk eQ).mpr ?_
  generalize hH:gT (ip (gV tv)) (N / 2) ((aaF N).map λi=>cu (items.getD i .none) (-(i:Int)))=H at I u eO ⊢
  have ci:(σ.st.set r (.lst H))[r]?=aac (.lst H):=qh (jd hr)
  have gD:H[0]?=aac (cu z.1 z.2):=by rw[xC (by exact CA u B D),eO]
  unfold PC;refine aab (propext (yp)) ?_;simp only[qb,jc,O,aal,exists_eq_left',yb]
  refine(zv (j:=0) ci (by rw[show(0:Int)=((0:Nat):Int) from rfl,oR,if_pos (by exact CA u B D)]) gD).mpr ?_
  refine(Oh (vs:=[z.1,.int z.2]) (j:=0) rfl rfl).mpr ?_;refine aab (propext (qe)) ?_;unfold PB;refine aab (propext (yp)) ?_;simp only[qb,jc,qe,yb,qa,ki,aag,if_true,if_false,aal,exists_eq_left',gL,pw,pP];unfold PA;refine aab (propext (yp)) ?_;simp only[qb,jc,qe,yb,qa,ki,aag,if_true,if_false,aal,exists_eq_left',gL,pw,pP]
  refine Kw C G B bY (by simp only[qa,aag,if_false];exact dr) ⟨U.bG G,?_,?_,⟨d,?_,?_⟩,H,-nI,L,?_,ci,?_,cJ,z,hL,?_⟩
  ·simp only[qa,aag,if_false];exact O
  ·simp only[qa,aag,if_false,if_true]
  ·show(σ.st.set r _)[l]?=_
   rw[aau (by exact sM cf G)];exact hit
  ·intro q;rw[hd] at q
   have:items.length<n:=by simpa using q
   exact LV this B
  ·-- W Y is Z all: nI KU be kV mz N KS W items end first
   have hD : -nI<=-(N:Int):=by exact Md h0 B J
   exact⟨I.perm,I.tG,λp U=>by have:=I.ord p U;exact LW this hD,I.gU,I.heap⟩
  ·simp only[qa,aag,if_false,if_true]
  ·simp only[qa,aag,if_false,if_true]
theorem Ky{σ:S}{l k0:Nat}{nI:Int}{items:List V}{b:Bool}{tv:V->Int}(C:nd l k0 σ.st items b tv)(J:min nI.toNat items.length<64)(u:σ.lo "it" = aac (.obj l))(D:σ.lo "n" = aac (.int nI))(hit:σ.st[l]?=aac (.aP k0 0 false)):
  MW (D3 LM) σ (i4 l σ.st (jf tv nI.toNat items) (if 0<nI then .aP k0 items.length true else .aP k0 0 false)):=by
 have O:=C.len;have G:=C.small;unfold D3;refine aab (propext (yp)) ?_;simp only[qb,jc,yb,pw,pP,u,D,aal,exists_eq_left']
 have U:ky [.int 0,.int (-nI),.int (-1)]=pure (.ch 0 (-nI) (-1)):=by
  show(if(-1:Int)≠0/\(-1:Int).natAbs<1000000 then pure (V.ch 0 (-nI) (-1)) else stuck)=_
  rw[if_pos (by decide)]
 refine aab U ?_;simp only[yb];refine(ja _ u ?_)
 refine qb.mp (Ks (L:=[l]) false 0 (t:=PE LM) (n:=4096) (N:=min nI.toNat items.length) (λi v=>cu v (-(i:Int))) (λW W=>rfl) hit C.k0 (by exact nW O) C.ng rfl (by exact CB G) (by exact tZ G) ⟨aan.mpr rfl,λe=>by(injection e)⟩ (λe=>by(injection e)) ?_ ?_)
 ·intro i v _ hv aa _ _ _;show MW (qk 2 _ (.tup [.int (-(i:Int)),v])) aa _
  (refine aab (propext (tK)) ?_;refine aab (propext (yk)) ?_;refine aab (propext (qe)) ?_;refine aab (propext (yk)) ?_;refine aab (propext (qe)) ?_;refine aab (propext (yb)) ?_)
  refine⟨rfl,λx B=>(by(exfalso;exact nomatch B)),?_⟩
  simp only[qb,jc,qe,yb,qa,ki,aag,if_true,if_false,aal,exists_eq_left']
  refine(px (vs:=[v,.int (-(i:Int))]) (by show 2<=_;exact t5)).mpr ⟨rfl,rfl,λx B=>(by(exfalso;exact nomatch B))⟩
 ·intro am Y Z q3 _;refine aab (propext (qe)) ?_
  exact Kx (d:=decide (items.length<nI.toNat)) C (aaw _) rfl rfl J (by simp only[qa,aag,if_false];exact u) (by simp only[qa,aag,if_false];exact D) (by simp only[qa,if_true]) Y Z q3 rfl
end
local macro_rules | `(tactic| walk_at "mz") => `(tactic| ((repeat (first | (with_reducible first | apply zf | apply oV | apply xI | apply Ol | apply On | apply Oq | apply Oo | apply Op | apply XE | apply w_lt | apply xK | apply w_eq | apply QD | apply jeo | apply XF | apply XG | apply xJ | apply rV | apply Ot | apply Ou) | ((with_reducible first | apply Om);· first | exact rfl | assumption)));try with_reducible apply IY))
section
variable{LM:Nat->List V->bj}
noncomputable def nk(l aq:Nat)(st:jb)(out:List V)(it:bn)(us:List V)(f:Fl)(aa:S):Prop:= ∃r,f = .ret (.obj r)/\st.length<=r/\aa.st[r]?=aac (.lst out)/\aD [l,aq] st aa.st/\aa.st[l]?=aac it/\aa.st[aq]?=aac (.lst us)
structure iw(LM:Nat->List V->bj)(l k0 lk aq:Nat)(az:jb)(items:List V)(b:Bool)(val tv:V->Int):Prop where
 len:0<l/\l<az.length
 ng:k0≠l/\k0≠aq
 k0:az[k0]?=aac (.lst items)
 el:∀am,aD [l,aq] az am->∀x∈items,fo am b tv x
 small:items.length<=1000
 pU:aq≠l/\aq<az.length
 key:∃i cK,az[lk]?=aac (.dD i cK)/\lk≠l/\lk≠aq/\∀am j x,aD [l,aq] az am->items[j]?=aac x->am[aq]?=aac (.lst (items.take j))->LM i cK [x] am = .ok (.int (val x)) (am.set aq (.lst (items.take (j+1))))
section
variable{l k0 lk aq:Nat}{az:jb}{items:List V}{b:Bool}{val tv:V->Int}
theorem iw.QK(C:iw LM l k0 lk aq az items b val tv):k0∉[l,aq]:=by simpa using C.ng
theorem iw.run(C:iw LM l k0 lk aq az items b val tv){st:jb}{lo:String->Option V}(u:aD [l,aq] az st){j:Nat}{x:V}(B:items[j]?=aac x)(D:st[aq]?=aac (.lst (items.take j))):cU LM (.obj lk) [x] ⟨st,lo⟩ = .ok (.int (val x)) ⟨st.set aq (.lst (items.take (j+1))),lo⟩:=by
 refine z8 C.key λi cK h1 h2 G h3=>?_;unfold cU;dsimp only
 rw[u.get h1 (by simp[h2,G])]
 dsimp only;unfold wg;exact aab (h3 st j x u B D) rfl
end
noncomputable def QL:V->Option V
 | .tup vs=>vs[2]?
 | _=>aam
theorem sK2{σ:S}{r:Nat}{val:V->Int}{L:List (V×Int)}(h0:σ.lo "result" = aac (.obj r))(hr:σ.st[r]?=aac (.lst (L.map λp=>cw val p.1 p.2)))(u:L.length<4000){Q:Fl->S->Prop}
  (q:∀k am,aD [] σ.st am->σ.st.length<=k->am[k]?=aac (.lst (L.map (·.1)))->Q (.ret (.obj k)) ⟨am,σ.lo⟩):MW (DY LM) σ Q:=by
 unfold DY
 (refine aab (propext (qb)) ?_;refine aab (propext (qb)) ?_;refine aab (propext (jc)) ?_)
 refine(ja _ h0 ?_)
 refine Ej (us:=L.map λp=>cw val p.1 p.2) (n:=4096) QL (λB B=>rfl) (BL hr) (by have:=jd hr;exact qD this) (sz hr) (by refine aab (aaP ..) ?_;exact Ly u) (by refine aab (aaP ..) ?_;exact Lz u) ?_ ?_
 ·intro v C aa _ _;refine ya (abk.mp C) λp J D=>?_;obtain rfl:=D;show MW (qk 3 _ (.tup [.int (val p.1),.int p.2,p.1])) aa _
  (refine aab (propext (Qz)) ?_;refine aab (propext (yk)) ?_;refine aab (propext (qe)) ?_;refine aab (propext (yk)) ?_;refine aab (propext (qe)) ?_;refine aab (propext (yk)) ?_;refine aab (propext (qe)) ?_;refine aab (propext (yb)) ?_)
  refine⟨rfl,λx G=>(by(exfalso;exact nomatch G)),?_⟩
  show MW (pure true:M Bool) _ _;refine aab (propext (yb)) ?_;refine⟨rfl,rfl,?_⟩;refine aab (propext (jc)) ?_;exact(je p.1 rfl rfl rfl)
 ·intro k am h1 h2 h3;refine aab (propext (yb)) ?_;refine q k am h1 h2 ?_;refine aab h3 ?_
  congr 2
  refine aab ahq ?_
  have:(QL ∘ λp:V×Int=>cw val p.1 p.2)=λp=>aac p.1:=by funext p;rfl
  (refine aab this ?_;refine aab (show(λp:V×Int=>aac p.1)=aac ∘ (λp:V×Int=>p.1) from rfl) ?_;exact aab agE rfl)
theorem sK7{σ:S}{r l k0 lk aq:Nat}{az:jb}{items:List V}{b:Bool}{val tv:V->Int}{n:Nat}{H:List V}{o:Int}{L:List (V×Int)}{it:bn}(C:iw LM l k0 lk aq az items b val tv)
  (I:cI val (cw val) (gW val tv) items n items.length H o L) (h0:σ.lo "result" = aac (.obj r)) (hr:σ.st[r]?=aac (.lst H)) (B:az.length<=r) (D:aD [l,aq] az σ.st) {us:List V} (hit:σ.st[l]?=aac it) (W:σ.st[aq]?=aac (.lst us)) (J:min n items.length<64) :
  MW (DZ LM) σ (nk l aq az (jf val n items) it us):=by
 have Y:=C.pU;have u:=I.len (aaw _);have O:=C.len;unfold DZ;refine zf ?_
 (refine aab (propext (qb)) ?_;refine aab (propext (qb)) ?_;refine aab (propext (jc)) ?_)
 refine(ja _ h0 ?_)
 (refine aab (propext (qb)) ?_;refine aab (propext (IV hr)) ?_)
 obtain⟨k1,k2⟩:=I.sorted (Ef b val tv) (by exact LA J u)
 have hd:bw (toD (σ.st.set r (.lst [])) 6) H=aac (H.map (sy b val tv)):=Ed λa Z=>by
  refine uk (I.mem a Z) λx hx o BW=>?_;obtain rfl:=BW;exact(Ef b val tv).toD _ x o (C.el _ (D.bG B) x hx)
 have e:qu (.obj r) σ = .ok .none {σ with st:=σ.st.set r (.lst (L.map λp=>cw val p.1 p.2))}:=by
  unfold qu
  try dsimp only
  rw[if_neg (by exact LB O B),hr]
  try dsimp only
  refine aab hd ?_
  try dsimp only
  (refine aab (if_pos k1) ?_;exact aab k2 rfl)
 refine(gb e).mpr ?_
 walk_at "mz"
 show MW (DY LM) ⟨σ.st.set r (.lst (L.map λp=>cw val p.1 p.2)),σ.lo⟩ _
 refine sK2 (σ:=⟨σ.st.set r (.lst (L.map λp=>cw val p.1 p.2)),σ.lo⟩) (r:=r) (L:=L) h0 (qh (jd hr)) (by exact LC J u) λk am G U q3=>?_
 have p1:aD [l,aq] az (σ.st.set r (.lst (L.map λp=>cw val p.1 p.2))):=D.bG B;refine(qr k rfl ?_ ?_ (p1.trans G.nil) ?_ ?_)
 ·have h1:=D.1;rw[aaz] at U;exact nX h1 U
 ·(refine aab q3 ?_;refine aab I.gU ?_;exact aab acK rfl)
 ·refine G.bD ?_;show(σ.st.set r _)[l]?=_
  rw[aau (by exact sM O B)];exact hit
 ·refine G.bD ?_;show(σ.st.set r _)[aq]?=_
  rw[aau (by exact FG Y B)];exact W
structure kP(l k0 lk aq r:Nat)(az:jb)(items:List V)(val tv:V->Int)(n N i:Nat)(σ:S):Prop where
 jX:aD [l,aq] az σ.st
 res:σ.lo "result" = aac (.obj r)
 hr:σ.lo "_heapreplace" = aac (.fn "heapreplace")
 hk:σ.lo "key" = aac (.obj lk)
 it:∃d,σ.st[l]?=aac (.aP k0 (N+i) d)/\(d=true->items.length<=N+i)
 log:σ.st[aq]?=aac (.lst (items.take (N+i)))
 inv:∃H o L,cI val (cw val) (gW val tv) items n (N+i) H o L/\σ.st[r]?=aac (.lst H)/\σ.lo "order" = aac (.int o)/\∃cJ z,L=cJ++[z]/\σ.lo "top" = aac (.int (val z.1))
theorem sK6{σ:S}{r l k0 lk aq i N n:Nat}{az:jb}{items:List V}{b:Bool}{val tv:V->Int}(C:iw LM l k0 lk aq az items b val tv)(G:az.length<=r)(hN:N=min n items.length)(hi:N+i<items.length)(hn:n<=N)(h:kP l k0 lk aq r az items val tv n N i σ):
  MW (qg l) σ (λo dy => ∃v,o=aac v/\MW (JJ LM v) dy (λzZ ab=>MW (JK LM) ab (λf ar=>f = .next/\kP l k0 lk aq r az items val tv n N (i+1) ar))):=by
 refine wrap λG_ aM=>?_;obtain⟨hp,cC,ni,c8,pW,eA,H,o,L,I,hH,ho,cJ,z,hL,eO⟩:=h;refine aM ?_;clear aM G_;refine ya pW λd hit kX=>?_
 try clear pW
 have cf:=C.len
 have hd:d=false:=by
  cases d with
  | false=>rfl
  | true=>have:=kX rfl;(exfalso;exact LD hi this)
 subst hd;have hk:σ.st[k0]?=aac (.lst items):=hp.get C.k0 C.QK
 have u:=I.len (by exact LF hi)
 refine(gb (sA hit hk (by exact nW cf) hi)).mpr (ja _ rfl ?_)
 have U:=C.pU
 have jZ:aD [l,aq] az (σ.st.set l (.aP k0 (N+i+1) false)):=hp.setIn (by simp)
 have pX:(σ.st.set l (.aP k0 (N+i+1) false))[aq]?=aac (.lst (items.take (N+i))):=by refine aab (aau (aaR U.1)) ?_;exact eA
 have jE:r≠l:=by exact sM cf G
 have BX:r≠aq:=by exact FG U G
 have Y:items[N+i]∈items:=acJ hi;have ca:∀lo,cU LM (.obj lk) [items[N+i]] ⟨σ.st.set l (.aP k0 (N+i+1) false),lo⟩ = .ok (.int (val items[N+i])) ⟨(σ.st.set l (.aP k0 (N+i+1) false)).set aq (.lst (items.take (N+i+1))),lo⟩:=λlo=>C.run jZ (aav hi) pX
 generalize J:(σ.st.set l (.aP k0 (N+i+1) false)).set aq (.lst (items.take (N+i+1)))=D at ca
 have Z:aD [l,aq] az D:=by refine adg J ?_;exact jZ.setIn (by simp)
 have sB:D[r]?=aac (.lst H):=by(rewrite[<- J];refine aab (aau (aaR BX)) ?_;refine aab (aau (aaR jE)) ?_);exact hH
 have ic:D[l]?=aac (.aP k0 (N+i+1) false):=by(rewrite[<- J];refine aab (aau U.1) ?_);exact qh (jd hit)
 have pY:D[aq]?=aac (.lst (items.take (N+i+1))):=by rw[<- J];exact qh (jd pX)
 clear J;unfold JJ
 walk_at "mz"
 unfold JK;refine zf ?_
 walk_at "mz"
 refine(gb (a:=()) rfl).mpr ?_
 walk_at "mz"
 walk_at "mz"
 refine(gb (ca _)).mpr ?_
 walk_at "mz"
 unfold Pr
 walk_at "mz"
 by_cases W:val z.1<val items[N+i]
 ·(refine aab (decide_eq_true W) ?_;refine aab (if_pos rfl) ?_)
  walk_at "mz"
  refine(gb (by show(if "heapreplace" = "heapreplace" then Res.ok () _ else .stuck)=_;exact if_pos rfl)).mpr ?_
  walk_at "mz"
  walk_at "mz"
  refine(px (vs:=[.int (val items[N+i]),.int o,items[N+i]]) (by show 3<=_;exact L5)).mpr ?_
  walk_at "mz"
  obtain⟨O,I'⟩:=I.step (BD val tv) hi (by exact kb2 hn) hL W
  have eQ:=Oy (l:=r) (x:=cw val items[N+i] o) (P:=λa => ∃x∈items,∃o,a=cw val x o) (lt:=ip (gW val tv)) sB (by exact UN U G) (by(refine aab u.1 ?_;refine adg u.2 ?_;refine aab hL ?_);simp) (by have:=C.small;exact LG u hi this) I.mem ⟨_,Y,o,rfl⟩
   ((Ef b val tv).kN λx Y ws=>C.el _ (Z.bG G) x Y)
  refine(zk eQ).mpr ?_
  walk_at "mz"
  have gC:=I'.len (by exact LH hi)
  have lu:0<min n (N+i):=by(refine adg u.2 ?_;refine aab hL ?_);simp
  have aA:0<O.length:=by refine aab gC.2 ?_;exact sN lu
  obtain⟨jY,B,mA⟩ : ∃jY B,O=jY++[B]:=⟨O.dropLast,O.getLast (ac9 aA),(aca _).symm⟩;have nj:=I'.top (BD val tv) mA;have ci:(D.set r (.lst (su (ip (gW val tv)) (H.set 0 (cw val items[N+i] o)) 0)))[r]?=aac (.lst (su (ip (gW val tv)) (H.set 0 (cw val items[N+i] o)) 0)):=qh (jd sB)
  have gD:(su (ip (gW val tv)) (H.set 0 (cw val items[N+i] o)) 0)[0]?=aac (cw val B.1 B.2):=by
   rw[xC (by rw[gC.1];exact sN lu),nj]
  unfold Pq Pp;refine zf ?_
  walk_at "mz"
  refine(zv (j:=0) ci (by rw[show(0:Int)=((0:Nat):Int) from rfl,oR,if_pos (by rw[gC.1];exact sN lu)]) gD).mpr ?_
  walk_at "mz"
  show MW (qk 3 _ (.tup [.int (val B.1),.int B.2,B.1])) _ _
  (refine aab (propext (Qz)) ?_;refine aab (propext (yk)) ?_;refine aab (propext (qe)) ?_;refine aab (propext (yk)) ?_;refine aab (propext (qe)) ?_;refine aab (propext (yk)) ?_;refine aab (propext (qe)) ?_;refine aab (propext (yb)) ?_)
  walk_at "mz"
  refine⟨rfl,?_,?_,?_,?_,?_,?_,?_⟩
  ·exact Z.bG G
  ·simp only[qa,aag,if_false];exact cC
  ·simp only[qa,aag,if_false];exact ni
  ·simp only[qa,aag,if_false];exact c8
  ·refine(ja false ?_ (λq=>by(injection q)))
   show(D.set r _)[l]?=_;refine aab (aau jE) ?_;exact ic
  ·show(D.set r _)[aq]?=_;refine aab (aau BX) ?_;exact pY
  ·exact⟨_,o-1,O,I',ci,by simp only[qa,if_true],jY,B,mA,by simp only[qa,aag,if_false,if_true]⟩
 ·rw[decide_eq_false W,if_neg (by decide),yb]
  refine⟨rfl,Z,?_,?_,?_,⟨false,ic,λq=>by(injection q)⟩,pY,H,o,L,I.Bw hi (by exact kb2 hn) hL W,sB,?_,cJ,z,hL,?_⟩
  ·simp only[qa,aag,if_false];exact cC
  ·simp only[qa,aag,if_false];exact ni
  ·simp only[qa,aag,if_false];exact c8
  ·simp only[qa,aag,if_false];exact ho
  ·simp only[qa,aag,if_false];exact eO
theorem sK8{σ:S}{r l k0 lk aq N n:Nat}{az:jb}{items:List V}{b:Bool}{val tv:V->Int}(C:iw LM l k0 lk aq az items b val tv)(G:az.length<=r)(B:N=min n items.length)(bY:N<64)(dr:σ.lo "it" = aac (.obj l))(h:kP l k0 lk aq r az items val tv n N 0 σ):
  MW (JL LM) σ (nk l aq az (jf val n items) (.aP k0 items.length true) items):=by
 have J:=C.len;unfold JL;refine zf ?_;simp only[qb,jc,dr,aal,exists_eq_left'];refine ya h.it λd hit W=>?_
 have e:lm (.obj l) σ = .ok (λW=>qg l) σ:=by unfold lm;dsimp only;exact aab hit rfl
 refine(gb e).mpr ?_
 walk_at "mz"
 have bU:=C.small
 refine Ko (items.length-N) (λi σ=>kP l k0 lk aq r az items val tv n N i σ) ?_ ?_ 4096 0 _ (aaL _) (by exact LI bU) h
 ·intro aa h';refine wrap λG_ Y=>?_;obtain⟨O,cC,ni,c8,Z,D,H,o,L,I,hH,ho,cJ,z,hL,eO⟩:=h';refine Y ?_;clear Y G_;refine ya Z λd hit kX=>?_
  try clear Z
  have eN:N+(items.length-N)=items.length:=by exact LJ B
  rw[eN] at hit I kX D;rw[acK] at D;have iu:=C.pU
  have u:∀am,aD [l,aq] az am->am[r]?=aac (.lst H)->am[l]?=aac (.aP k0 items.length true)->am[aq]?=aac (.lst items)->MW (DZ LM) ⟨am,aa.lo⟩ (nk l aq az (jf val n items) (.aP k0 items.length true) items):=by
   intro am q1 q2 q3 q4
   exact sK7 (σ:=⟨am,aa.lo⟩) C I cC q2 G q1 q3 q4 (by exact LK bY B)
  cases d with
  | true=>
   exact(gb (Kq hit (by exact nW J))).mpr ⟨rfl,u aa.st O hH hit D⟩
  | false=>
   have hk:aa.st[k0]?=aac (.lst items):=O.get C.k0 C.QK
   refine(gb (gap hit hk (by exact nW J) (aaw _))).mpr ⟨rfl,u _ (O.setIn (by simp)) ?_ (qh (jd hit)) ?_⟩
   ·rw[aau (by exact LL J G)];exact hH
   ·refine aab (aau (aaR iu.1)) ?_;exact D
 ·intro i aa hi h'
  refine(sK6 C G B (by exact Fg hi) (by exact LN B hi) h').mono λo dy U=>?_
  obtain⟨v,rfl,U⟩:=U;refine(ja v rfl (U.mono λW ab h1=>h1.mono λf ar h2=>?_));obtain⟨rfl,h2⟩:=h2;exact h2
theorem Kz{σ:S}{r l k0 lk aq N n:Nat}{nI:Int}{az:jb}{items:List V}{b d:Bool}{val tv:V->Int}(C:iw LM l k0 lk aq az items b val tv)(G:az.length<=r)(J:n=nI.toNat)(B:N=min n items.length)(Z:N<64)(dr:σ.lo "it" = aac (.obj l))(gL:σ.lo "n" = aac (.int nI))(c8:σ.lo "key" = aac (.obj lk))
  (O:σ.lo "result" = aac (.obj r)) (U:aD [l,aq] az σ.st) (hr:σ.st[r]?=aac (.lst ((aaF N).map λi=>cw val (items.getD i .none) (-(i:Int))))) (hit:σ.st[l]?=aac (.aP k0 N d)) (eA:σ.st[aq]?=aac (.lst (items.take N))) (hd:d=decide (items.length<n)) :
  MW (D0 LM) σ (nk l aq az (jf val n items) (if 0<nI then .aP k0 items.length true else .aP k0 0 false) (if 0<nI then items else[])):=by
 have iu:=C.pU;have cf:=C.len;have bU:=C.small;unfold D0;refine zf ?_;simp only[qb,jc,O,aal,exists_eq_left'];refine(IU hr).mpr ?_
 walk_at "mz"
 walk_at "mz"
 by_cases D:N=0
 ·have e:(!(!((aaF N).map λi=>cw val (items.getD i .none) (-(i:Int))).isEmpty))=true:=by refine aab D ?_;rfl
  (refine aab e ?_;refine aab (if_pos rfl) ?_)
  simp only[qb,jc,O,aal,exists_eq_left',yb]
  have et:jf val n items=[]:=abm (by refine aab (xu ..) ?_;exact LO B D)
  have W:σ.st[aq]?=aac (.lst (if 0<nI then items else[])):=by
   (refine aab eA ?_;refine aab D ?_;refine aab agz ?_)
   by_cases h0:0<nI
   ·(refine aab (if_pos h0) ?_;exact aab (abm (show items.length=0 by exact FC h0 J B D)) rfl)
   ·exact aab (if_neg h0) rfl
  refine(qr r rfl G (by(refine aab hr ?_;refine aab D ?_;refine aab et ?_);rfl) U ?_ W)
  (refine aab hit ?_;refine aab hd ?_;refine aab D ?_)
  by_cases h0:0<nI
  ·refine aab (if_pos h0) ?_
   have h1:items.length=0:=by exact FC h0 J B D
   refine aab h1 ?_
   have:decide (0<n)=true:=by simp;exact Ma h0 J
   exact aab this rfl
  ·refine aab (if_neg h0) ?_
   have:decide (items.length<n)=false:=by simp;exact Mb J h0
   exact aab this rfl
 ·have e:(!(!((aaF N).map λi=>cw val (items.getD i .none) (-(i:Int))).isEmpty))=false:=by
   cases N with
   | zero=>exact absurd rfl D
   | succ k=>rw[ad6];simp
  rw[e,if_neg (by decide),yb]
  try dsimp only
  have h0:0<nI:=by exact Mc J B D
  (refine aab (if_pos h0) ?_;refine aab (if_pos h0) ?_)
  refine xc (cI.start (items:=items) (n:=n) (N:=N) (BD val tv) B) λL I=>?_
  have u:=I.len (by exact LQ B)
  obtain⟨cJ,z,hL⟩ : ∃cJ z,L=cJ++[z]:=⟨L.dropLast,L.getLast (ac9 (by exact LR u B D)),(aca _).symm⟩
  have eO:=I.top (BD val tv) hL;unfold Pw;refine zf ?_;simp only[qb,jc,O,aal,exists_eq_left',yb]
  have eQ:=Oz (l:=r) (st:=σ.st) (P:=λa => ∃x∈items,∃o,a=cw val x o) (lt:=ip (gW val tv)) hr (by exact Fe cf G) (by(refine aab (aaP ..) ?_;refine aab aep ?_);exact LS Z) (λa ha=>by
    refine ya (abk.mp ha) λi hi BY=>?_;obtain rfl:=BY
    have:i<N:=by simpa using hi
    refine(F0 _ ?_ _ rfl)
    exact Ec (by exact LU this B)) ((Ef b val tv).kN λx hx ws=>C.el _ (U.bG G) x hx)
  rw[aaP,aep] at eQ;refine(zk eQ).mpr ?_
  walk_at "mz"
  generalize hH:gT (ip (gW val tv)) (N / 2) ((aaF N).map λi=>cw val (items.getD i .none) (-(i:Int)))=H at I u eO ⊢
  have ci:(σ.st.set r (.lst H))[r]?=aac (.lst H):=qh (jd hr)
  have gD:H[0]?=aac (cw val z.1 z.2):=by rw[xC (by exact CA u B D),eO]
  unfold Pu;refine zf ?_;simp only[qb,jc,O,aal,exists_eq_left',yb]
  refine(zv (j:=0) ci (by rw[show(0:Int)=((0:Nat):Int) from rfl,oR,if_pos (by exact CA u B D)]) gD).mpr ?_
  walk_at "mz"
  refine(Oh (vs:=[.int (val z.1),.int z.2,z.1]) (j:=0) rfl rfl).mpr ?_
  walk_at "mz"
  walk_at "mz"
  unfold Pt;refine zf ?_;simp only[qb,jc,qe,yb,qa,ki,aag,if_true,if_false,aal,exists_eq_left',gL,pw,pP];unfold Ps;refine zf ?_;simp only[qb,jc,qe,yb,qa,ki,aag,if_true,if_false,aal,exists_eq_left',gL,pw,pP]
  refine sK8 C G B Z (by simp only[qa,aag,if_false];exact dr) ⟨U.bG G,?_,?_,?_,⟨d,?_,?_⟩,(by show(σ.st.set r _)[aq]?=_;rw[aau (by exact FG iu G)];exact eA),H,-nI,L,?_,ci,?_,cJ,z,hL,?_⟩
  ·simp only[qa,aag,if_false];exact O
  ·simp only[qa,aag,if_false,if_true]
  ·simp only[qa,aag,if_false];exact c8
  ·show(σ.st.set r _)[l]?=_
   rw[aau (by exact sM cf G)];exact hit
  ·intro q;rw[hd] at q
   have:items.length<n:=by simpa using q
   exact LV this B
  ·have Y : -nI<=-(N:Int):=by exact Md h0 B J
   exact⟨I.perm,I.tG,λp U=>by have:=I.ord p U;exact LW this Y,I.gU,I.heap⟩
  ·simp only[qa,aag,if_false,if_true]
  ·simp only[qa,aag,if_false,if_true]
theorem KA{σ:S}{l k0 lk aq:Nat}{nI:Int}{items:List V}{b:Bool}{val tv:V->Int}(C:iw LM l k0 lk aq σ.st items b val tv)(W:min nI.toNat items.length<64)(u:σ.lo "it" = aac (.obj l))(G:σ.lo "n" = aac (.int nI))(J:σ.lo "key" = aac (.obj lk))(hit:σ.st[l]?=aac (.aP k0 0 false))(Y:σ.st[aq]?=aac (.lst [])):
  MW (yz LM) σ (nk l aq σ.st (jf val nI.toNat items) (if 0<nI then .aP k0 items.length true else .aP k0 0 false) (if 0<nI then items else[])):=by
 have Z:=C.pU;have cf:=C.len;have O:=C.small;unfold yz;refine aab (propext (yp)) ?_;simp only[qb,jc,yb,pw,pP,u,G,aal,exists_eq_left']
 have er:ky [.int 0,.int (-nI),.int (-1)]=pure (.ch 0 (-nI) (-1)):=by
  show(if(-1:Int)≠0/\(-1:Int).natAbs<1000000 then pure (V.ch 0 (-nI) (-1)) else stuck)=_
  rw[if_pos (by decide)]
 refine aab er ?_;simp only[yb];refine(ja _ u ?_)
 refine qb.mp (Ks (L:=[l,aq]) true aq (free:=["key"]) (t:=JM LM) (n:=4096) (N:=min nI.toNat items.length) (λi v=>cw val v (-(i:Int))) (λB B=>rfl) hit C.k0 (by exact nW cf) C.ng.1 rfl (by exact CB O) (by exact tZ O) ⟨by simp,λB=>by simp⟩ (λB=>⟨Z.1,aaR C.ng.2,Y⟩) ?_ ?_)
 ·intro i v _ hv aa nP hp vj;show MW (qk 2 _ (.tup [.int (-(i:Int)),v])) aa _
  have D:aa.lo "key" = aac (.obj lk):=(nP "key" (by simp)).trans J
  (refine aab (propext (tK)) ?_;refine aab (propext (yk)) ?_;refine aab (propext (qe)) ?_;refine aab (propext (yk)) ?_;refine aab (propext (qe)) ?_;refine aab (propext (yb)) ?_)
  refine⟨rfl,λx U=>?_,?_⟩
  ·refine aab (aan.mp U) ?_;simp only[qa,aag,if_false]
  simp only[qb,jc,qe,yb,qa,ki,aag,if_true,if_false,aal,exists_eq_left',D];refine(gb (a:=()) rfl).mpr ?_;simp only[qb,jc,qe,yb,qa,ki,aag,if_true,if_false,aal,exists_eq_left',D];refine(gb (C.run hp hv (vj rfl))).mpr ?_;simp only[qb,jc,qe,yb,qa,ki,aag,if_true,if_false,aal,exists_eq_left',D]
  exact(px (vs:=[.int (val v),.int (-(i:Int)),v]) (by show 3<=_;exact L5)).mpr ⟨rfl,by unfold zh;rw[if_pos rfl],λx U=>rfl⟩
 ·intro am q1 q2 q3 q4;refine aab (propext (qe)) ?_
  exact Kz (d:=decide (items.length<nI.toNat)) C (aaw _) rfl rfl W (by simp only[qa,aag,if_false];exact u) (by simp only[qa,aag,if_false];exact G) (by simp only[qa,aag,if_false];exact J) (by simp only[qa,if_true]) q1 q2 q3 (q4 rfl) rfl
end
section
variable{LM:Nat->List V->bj}
theorem kdr(b:Bool)(t u:Int):te (eW b t) (eW b u)=aac (decide (u<t)):=by
 cases b with
 | false=>rfl
 | true=>
  show(if abb (.int t) (.int u)=true then aac (decide (1<1)) else aac (decide (u<t)))=_
  refine aab (tH ..) ?_
  by_cases h:t=u<;>simp[h]
structure gX(LM:Nat->List V->bj)(L:List Nat)(az:jb)(items:List V)(val:V->Int)(k:V)(kv:V->V)(bb nt:Bool)(aq:Nat):Prop where
 isk:AS k=true
 bad:∀am,aD L az am->xi am k=aam
 KD:nt=true->aq∈L/\aq<az.length
 run:∀am lo j x,aD L az am->items[j]?=aac x->zm nt aq (items.take j) am->w4 LM k x ⟨am,lo⟩ = .ok (kv x) ⟨zh nt aq (items.take (j+1)) am,lo⟩
 dat:∀am,aD L az am->∀x∈items,toD am 6 (kv x)=aac (eW bb (val x))
noncomputable def i5(LM:Nat->List V->bj)(L:List Nat)(az:jb)(items:List V)(tv:V->Int)(k:V)(val:V->Int)(nt:Bool)(aq:Nat):Prop :=
 (k = .none/\val=tv/\nt=false)\/∃lk i cK,k = .obj lk/\az[lk]?=aac (.dD i cK)/\lk∉L/\nt=true/\aq∈L/\aq<az.length/\∀am j x,aD L az am->items[j]?=aac x->am[aq]?=aac (.lst (items.take j))->LM i cK [x] am = .ok (.int (val x)) (am.set aq (.lst (items.take (j+1))))
theorem i5.c{L:List Nat}{az:jb}{items:List V}{b nt:Bool}{aq:Nat}{tv val:V->Int}{k:V}(h:i5 LM L az items tv k val nt aq)(D:∀am,aD L az am->∀x∈items,fo am b tv x):∃kv bb,gX LM L az items val k kv bb nt aq:=by
 rcases h with⟨rfl,rfl,rfl⟩ | ⟨lk,i,cK,rfl,h1,h2,rfl,h3,h4,h5⟩
 ·exact⟨λx=>x,b,rfl,λu u=>rfl,(λe=>by(injection e)),λu u u u u u u=>rfl,λam B x C=>D am B x C 6 (by exact FA)⟩
 ·refine⟨λx=>.int (val x),false,rfl,λam B=>?_,λu=>⟨h3,h4⟩,λam lo j x B C G=>?_,λu u u u=>rfl⟩
  ·unfold xi;dsimp only;exact aab (B.get h1 h2) rfl
  ·show cU LM (.obj lk) [x] ⟨am,lo⟩=_;unfold cU zh;dsimp only
   (refine aab (B.get h1 h2) ?_;refine aab (if_pos rfl) ?_)
   dsimp only;unfold wg;exact aab (h5 am j x B C (G rfl)) rfl
section
variable{L:List Nat}{az:jb}{items:List V}{val:V->Int}{k:V}{kv:V->V}{bb nt:Bool}{aq:Nat}
theorem gX.jX(C:gX LM L az items val k kv bb nt aq){st:jb}{us:List V}(u:aD L az st):aD L az (zh nt aq us st):=QI u λe=>(C.KD e).1
theorem gX.lt(C:gX LM L az items val k kv bb nt aq){st:jb}(u:aD L az st)(e:nt=true):aq<st.length:=aby (C.KD e).2 u.1
theorem gX.gt(C:gX LM L az items val k kv bb nt aq){st:jb}{lo:String->Option V}(u:aD L az st){x y:V}(B:x∈items)(D:y∈items):gtB (kv x) (kv y) ⟨st,lo⟩ = .ok (decide (val y<val x)) ⟨st,lo⟩:=by
 unfold gtB
 (refine aab (C.dat st u x B) ?_;refine aab (C.dat st u y D) ?_)
 dsimp only;exact aab (kdr ..) rfl
theorem gX.keys(C:gX LM L az items val k kv bb nt aq){lo:String->Option V}:∀(us:List V) (j:Nat) (st:jb),items.drop j=us->aD L az st->zm nt aq (items.take j) st->y7 (w4 LM k) us ⟨st,lo⟩ = .ok (us.map kv) ⟨zh nt aq items st,lo⟩
 | [],j,st,e,_,u=>by
  have:items.take j=items:=acO (List.drop_eq_nil_iff.mp e);rw[this] at u;refine aab (QH u) ?_;rfl
 | x::us,j,st,e,B,u=>by
  have D:items[j]?=aac x:=by(rewrite[<- List.head?_drop];refine aab e ?_);rfl
  have hd:items.drop (j+1)=us:=by(rewrite[<- List.drop_drop];refine aab e ?_);rfl
  unfold y7;refine aab (C.run st lo j x B D u) ?_;dsimp only
  (refine aab (C.keys us (j+1) _ hd (C.jX B) (El (C.lt B))) ?_;refine aab QF ?_)
  rfl
theorem ycs(l:List V)(x z:V)(h:jf val 1 l=[z]):jf val 1 (l++[x])=[if val z<val x then x else z]:=by
 simp only[Ea,h,z0,PY]
 split<;>rfl
theorem zc6{l k0:Nat}(C:gX LM L az items val k kv bb nt aq)(cA:l≠0)(QM:l∈L)(eV:k0∉L)(Z:nt=true->aq≠l)(sU:az[k0]?=aac (.lst items))(lo:String->Option V):∀(f j:Nat) (u:Option (V×V)) (st:jb),items.length-j<f->j<=items.length->aD L az st->st[l]?=aac (.aP k0 j false)->zm nt aq (items.take j) st->
  (∀b,u=aac b->b.1∈items/\b.2=kv b.1)->jf val 1 (items.take j)=(u.map (·.1)).toList->∃am,z7 LM l k f u ⟨st,lo⟩ = .ok (jf val 1 items).head? ⟨am,lo⟩/\aD L az am/\am[l]?=aac (.aP k0 items.length true)/\zm nt aq items am:=by
 intro f
 induction f with
 | zero=>intro j u st D;(exfalso;exact EX D)
 | succ f ih=>
  intro j u st D hj hp hit hq hb O;have hk:st[k0]?=aac (.lst items):=hp.get sU eV;refine aab (OW ..) ?_
  by_cases tw:j=items.length
  ·subst tw;refine aab (gap (σ:=⟨st,lo⟩) hit hk cA (aaw _)) ?_;dsimp only;rw[acK] at O hq;refine(uf _ ?_ (hp.setIn QM) (qh (jd hit)) (λe=>?_))
   ·refine aab O ?_
    cases u<;>rfl
   ·refine aab (aau (aaR (Z e))) ?_;exact hq e
  ·have B:j<items.length:=by exact EY hj tw
   refine aab (sA (σ:=⟨st,lo⟩) hit hk cA B) ?_;dsimp only;have jZ:aD L az (st.set l (.aP k0 (j+1) false)):=hp.setIn QM
   have jP:zm nt aq (items.take j) (st.set l (.aP k0 (j+1) false)):=λe=>by refine aab (aau (aaR (Z e))) ?_;exact hq e
   have hx:items[j]∈items:=acJ B;refine aab (C.run _ lo j _ jZ (aav B) jP) ?_;have G:=C.jX (us:=items.take (j+1)) jZ;have U:zm nt aq (items.take (j+1)) (zh nt aq (items.take (j+1)) (st.set l (.aP k0 (j+1) false))):=El (C.lt jZ)
   have W:(zh nt aq (items.take (j+1)) (st.set l (.aP k0 (j+1) false)))[l]?=aac (.aP k0 (j+1) false):=by
    refine aab (Kr λe=>aaR (Z e)) ?_;exact qh (jd hit)
   generalize zh nt aq (items.take (j+1)) (st.set l (.aP k0 (j+1) false))=dX at G U W
   dsimp only
   have i6:items.take (j+1)=items.take j++[items[j]]:=by(refine aab acg ?_;refine aab (aav B) ?_);rfl
   cases u with
   | none=>
    dsimp only
    exact ih (j+1) (aac (items[j],kv items[j])) _ (by exact Fj D B) (by exact lN B) G W U (λb e=>by(injection e with aK;subst aK);exact⟨hx,rfl⟩) (by
     have h0:jf val 1 (items.take j)=[]:=O
     (refine aab i6 ?_;refine aab (Ea ..) ?_;refine aab h0 ?_);rfl)
   | some z=>
    refine ye (hb z rfl) λhD kV=>?_;dsimp only
    (refine aab kV ?_;refine aab (C.gt G hx hD) ?_)
    dsimp only;have J:=ycs (val:=val) (items.take j) items[j] z.1 O;rw[<- i6] at J
    by_cases Y:val z.1<val items[j]
    ·(refine aab (decide_eq_true Y) ?_;refine aab (if_pos rfl) ?_)
     rw[if_pos Y] at J
     exact ih (j+1) (aac (items[j],kv items[j])) _ (by exact Fj D B) (by exact lN B) G W U (λb e=>by(injection e with aK;subst aK);exact⟨hx,rfl⟩) J
    ·rw[decide_eq_false Y,if_neg (by decide)]
     rw[if_neg Y] at J
     exact ih (j+1) (aac z) _ (by exact Fj D B) (by exact lN B) G W U hb J
end
end
section
variable{LM:Nat->List V->bj}
theorem wdm{st:jb}{b:Bool}{tv:V->Int}{x:V}{s:Nat}{σ:S}(h:fo st b tv x)(u:st.length<=s):oA x (.obj s) σ = .ok (.bool false) σ:=by
 have h2:=h 2 (by exact UD)
 cases x with
 | int i=>rfl
 | obj t=>
  have B:t≠s:=by
   rintro rfl
   have:st[t]?=aam:=abR u;unfold toD at h2;dsimp only at h2;rw[this] at h2;(injection h2)
  show Res.ok (V.bool (decide (t=s))) σ=_;exact aab (decide_eq_false B) rfl
 | none=>cases b<;>cases h2
 | bool _=>cases b<;>cases h2
 | str y=>
  exfalso;unfold toD at h2;dsimp only at h2
  split at h2<;>cases b<;>cases h2
 | tup vs=>
  exfalso;unfold toD at h2;dsimp only at h2
  cases e:bw (toD st 1) vs with
  | none=>rw[e] at h2;(injection h2)
  | some d=>rw[e] at h2;cases b<;>cases h2
 | fn _=>(injection h2)
 | ch _ _ _=>(injection h2)
 | gN=>(injection h2)
noncomputable def nq(L:List Nat)(nt:Bool)(aq l:Nat)(st:jb)(out:List V)(it:bn)(us:List V)(f:Fl)(aa:S):Prop:= ∃r,f = .ret (.obj r)/\st.length<=r/\aa.st[r]?=aac (.lst out)/\aD L st aa.st/\aa.st[l]?=aac it/\zm nt aq us aa.st
structure lv(L:List Nat)(nt:Bool)(aq l k0:Nat)(az:jb)(items:List V)(b:Bool)(tv:V->Int):Prop where
 hL:L=if nt=true then[l,aq] else[l]
 len:0<l/\l<az.length
 ng:k0∉L
 k0:az[k0]?=aac (.lst items)
 el:∀am,aD L az am->∀x∈items,fo am b tv x
 small:items.length<=1000
 pU:nt=true->aq≠l
 log:zm nt aq [] az
theorem lv.lL{L:List Nat}{nt:Bool}{aq l k0:Nat}{az:jb}{items:List V}{b:Bool}{tv:V->Int}(C:lv L nt aq l k0 az items b tv):l∈L:=by
 refine aab C.hL ?_;cases nt<;>simp
theorem B0{σ:S}{L:List Nat}{nt:Bool}{aq l k0:Nat}{items:List V}{b:Bool}{tv val:V->Int}{k:V}(C:lv L nt aq l k0 σ.st items b tv)(K:i5 LM L σ.st items tv k val nt aq)(dr:σ.lo "it" = aac (.obj l))(c8:σ.lo "key" = aac k)(hit:σ.st[l]?=aac (.aP k0 0 false)):
  MW (kq LM) σ (nq L nt aq l σ.st (jf val 1 items) (.aP k0 items.length true) items):=by
 have U:=C.len;have bU:=C.small;refine qq (K.c C.el) λkv bb O=>?_;unfold kq;refine zf ?_
 walk_at "mz"
 refine(gb (a:=V.obj σ.st.length) (aa:=⟨σ.st++[.cX],σ.lo⟩) rfl).mpr ?_
 walk_at "mz"
 walk_at "mz"
 have W:aD L σ.st (σ.st++[bn.cX]):=aD.app ..
 have Y:(σ.st++[bn.cX])[l]?=aac (.aP k0 0 false):=by refine aab (aas U.2) ?_;exact hit
 unfold D4;refine zf ?_
 walk_at "mz"
 obtain⟨am,e1,Z,e3,e4⟩:=zc6 O (by exact nW U) C.lL C.ng C.pU C.k0 (λy=>if y = "sentinel" then aac (V.obj σ.st.length) else σ.lo y) 4096 0 aam (σ.st++[.cX]) (by exact Ug bU) (by exact way) W Y (λe=>by refine aab (aas (O.KD e).2) ?_;exact C.log e) (λb e=>by(injection e)) rfl
 have D:σ.st.length<=am.length:=Z.1
 have em:∀v,((jf val 1 items).head?.getD (V.obj σ.st.length))=v->ik LM (.obj l) (.obj σ.st.length) k (⟨σ.st++[.cX],λy=>if y = "sentinel" then aac (V.obj σ.st.length) else σ.lo y⟩ : S) = .ok v ⟨am,λy=>if y = "sentinel" then aac (V.obj σ.st.length) else σ.lo y⟩:=by
  intro v J;unfold ik
  try dsimp only
  refine aab Y ?_
  try dsimp only
  refine aab (O.bad _ W) ?_
  try dsimp only
  refine aab e1 ?_
  cases hh:(jf val 1 items).head? with
  | none=>rw[hh] at J;dsimp only;rw[<- J];rfl
  | some u=>rw[hh] at J;dsimp only;rw[<- J];rfl
 refine(gb (em _ rfl)).mpr ?_
 walk_at "mz"
 walk_at "mz"
 unfold JT
 walk_at "mz"
 have G:∀(out:List V) (lo:String->Option V),jf val 1 items=out->MW (cB out) ⟨am,lo⟩ (λv aa=>nq L nt aq l σ.st (jf val 1 items) (.aP k0 items.length true) items (.ret v) aa):=by
  intro out lo ho
  have nP:out.length<=1000000:=by(rewrite[<- ho];refine aab (xu ..) ?_);exact Uh
  refine(IW nP).mpr (qr am.length rfl D ?_ (Z.trans (aD.app ..)) ?_ (λe=>?_))
  ·show(am++[bn.lst out])[am.length]?=_
   (refine aab (aaq) ?_;exact aab ho rfl)
  ·show(am++[bn.lst out])[l]?=_;refine aab (aas (jd e3)) ?_;exact e3
  ·show(am++[bn.lst out])[aq]?=_;refine aab (aas (jd (e4 e))) ?_;exact e4 e
 cases B:jf val 1 items with
 | nil=>
  have:([]:List V).head?.getD (V.obj σ.st.length)=V.obj σ.st.length:=rfl;refine aab this ?_
  refine(gb (a:=V.bool true) (by show Res.ok (V.bool (decide _)) _=_;exact aab (decide_eq_true rfl) rfl)).mpr ?_
  walk_at "mz"
  refine aab (if_pos rfl) ?_
  walk_at "mz"
  have:=G [] (λy=>if y = "result" then aac (.obj σ.st.length) else if y = "sentinel" then aac (V.obj σ.st.length) else σ.lo y) B
  rw[B] at this;exact this.mono λv aa h=>rV h
 | cons z r=>
  have hr:r=[]:=by
   have:=xu (val:=val) 1 items;rw[B] at this
   simp at this
   exact abm (by exact Ui this)
  subst hr;have:([z]:List V).head?.getD (V.obj σ.st.length)=z:=rfl;refine aab this ?_
  have hz:z∈items:=by
   have h1:z∈jf val 1 items:=by refine aab B ?_;simp
   rw[z5] at h1;exact(ql _).mem_iff.mp (ac6 h1)
  refine(gb (wdm (C.el σ.st (aD.refl ..) z hz) (aaw _))).mpr ?_
  walk_at "mz"
  rw[if_neg (by decide)]
  walk_at "mz"
  have:=G [z] (λy=>if y = "result" then aac z else if y = "sentinel" then aac (V.obj σ.st.length) else σ.lo y) B
  rw[B] at this;exact this.mono λv aa h=>rV h
theorem KE{b e:M Fl}{u:Exc->M Fl}{σ aa:S}{Q:Fl->S->Prop}(h:b σ = .ok .next aa)(k:MW e aa Q):MW (o4 b u e) σ Q:=by
 refine xj k λf B C q=>?_
 try clear k
 exact(gf f B (by unfold o4;refine aab h ?_;exact C) q)
theorem KG{b e:M Fl}{u:Exc->M Fl}{x:Exc}{σ aa:S}{Q:Fl->S->Prop}(h:b σ = .exc x aa)(k:MW (u x) aa Q):MW (o4 b u e) σ Q:=by
 refine xj k λf B C q=>?_
 try clear k
 exact(gf f B (by unfold o4;refine aab h ?_;exact C) q)
theorem QN{σ:S}{L:List Nat}{nt:Bool}{aq l k0:Nat}{v:V}{nI:Int}{items:List V}{b:Bool}{tv val:V->Int}{k:V}{a9:jb}(u:jp [v] σ = .ok (.obj l) ⟨a9,σ.lo⟩)(C:lv L nt aq l k0 a9 items b tv)(K:i5 LM L a9 items tv k val nt aq)(B:min nI.toNat items.length<64)
  (J:σ.lo "iterable" = aac v) (D:σ.lo "n" = aac (.int nI)) (G:σ.lo "key" = aac k) (hit:a9[l]?=aac (.aP k0 0 false)) :
  MW (ji LM) σ (nq L nt aq l a9 (jf val nI.toNat items) (if 0<nI then .aP k0 items.length true else .aP k0 0 false) (if 0<nI then items else[])):=by
 unfold ji;refine zf ?_
 walk_at "mz"
 rcases K with⟨rfl,rfl,rfl⟩ | ⟨lk,i,cK,rfl,h1,h2,rfl,h3,h4,h5⟩
 ·refine zx.mpr ?_
  refine aab (show V.none.isNone=true from rfl) ?_
  walk_at "mz"
  refine aab (if_pos rfl) ?_
  walk_at "mz"
  refine(gb u).mpr ?_
  walk_at "mz"
  walk_at "mz"
  have hL:L=[l]:=C.hL;subst hL
  refine(Ky (σ:=(⟨a9,σ.lo⟩ : S).put "it" (.obj l)) ⟨C.len,by simpa using C.ng,C.k0,C.el,C.small⟩ B (by simp only[qa,if_true]) (by simp only[qa,aag,if_false];exact D) hit).mono λf aa h=>?_
  obtain⟨r,rfl,h⟩:=h
  exact(qr r rfl h.1 h.2.1 h.2.2.1 h.2.2.2 (λe=>by(injection e)))
 ·refine zx.mpr ?_
  refine aab (show(V.obj lk).isNone=false from rfl) ?_
  walk_at "mz"
  rw[if_neg (by decide)]
  walk_at "mz"
  unfold jz;refine zf ?_
  walk_at "mz"
  refine(gb u).mpr ?_
  walk_at "mz"
  walk_at "mz"
  have hL:L=[l,aq]:=C.hL;subst hL
  refine(KA (σ:=(⟨a9,σ.lo⟩ : S).put "it" (.obj l)) (lk:=lk) ⟨C.len,by simpa using C.ng,C.k0,C.el,C.small,⟨C.pU rfl,h4⟩,i,cK,h1,λe=>h2 (by simp[e]),λe=>h2 (by simp[e]),h5⟩ B (by simp only[qa,if_true]) (by simp only[qa,aag,if_false];exact D) (by simp only[qa,aag,if_false];exact G) hit (C.log rfl)).mono λf aa h=>?_
  obtain⟨r,rfl,h⟩:=h;exact(qr r rfl h.1 h.2.1 h.2.2.1 h.2.2.2.1 (λO=>h.2.2.2.2))
end
section
variable{LM:Nat->List V->bj}
theorem Ep{L:List Nat}{st am:jb}{c:bn}(h:aD (st.length::L) (st++[c]) am):aD L st am:=by
 have h1:=h.1;rw[abT,List.length_singleton] at h1
 refine⟨by exact iE h1,λk hk u=>?_⟩
 rw[h.2 k (by rw[abT];simp;exact EQ hk) (by simp only[aay,not_or];exact⟨by exact Cr hk,u⟩),aas hk]
theorem p0{σ:S}{v:V}(B:σ.lo "iterable" = aac v):JS LM σ=(match dR [v] σ with | .ok u aa=>.ok .next (aa.put "size" u) | .exc e aa=>.exc e aa | .stuck=>.stuck):=by
 have C:ah "iterable" σ = .ok v σ:=by unfold ah;exact aab B rfl
 unfold JS;simp only[M.ap,C]
 refine aab (show((pure []:M (List V)) σ)=Res.ok [] σ from rfl) ?_
 dsimp only
 refine aab (show((pure (v::[]):M (List V)) σ)=Res.ok [v] σ from rfl) ?_
 dsimp only
 cases dR [v] σ<;>rfl
theorem xb0{st:jb}{L:List Nat}{nt:Bool}{aq l k0:Nat}{nI:Int}{items:List V}{b:Bool}{tv val:V->Int}{k:V}(C:lv L nt aq l k0 st items b tv)(K:i5 LM L st items tv k val nt aq)(D:min nI.toNat items.length<64)(hit:st[l]?=aac (.aP k0 0 false)):
  ∃r am,zt LM [.int nI,.obj l,k] st = .ok (.obj r) am/\st.length<=r/\am[r]?=aac (.lst (jf val nI.toNat items))/\aD L st am/\am[l]?=aac (if 0<nI then .aP k0 items.length true else .aP k0 0 false)/\zm nt aq (if 0<nI then items else[]) am:=by
 obtain⟨v,am,e,r,rfl,h⟩:=tJ (params:=["n", "iterable", "key"]) (body:=xl LM) (vs:=[.int nI,.obj l,k]) (st:=st) (R:=λv am => ∃r,v = .obj r/\st.length<=r/\am[r]?=aac (.lst (jf val nI.toNat items))/\aD L st am/\am[l]?=aac (if 0<nI then .aP k0 items.length true else .aP k0 0 false)/\zm nt aq (if 0<nI then items else[]) am) rfl (by
  have B:∀lo,jp [.obj l] ⟨st,lo⟩ = .ok (.obj l) ⟨st,lo⟩:=by
   intro lo;unfold jp lF;dsimp only;exact aab hit rfl
  have out:∀{f:Fl} {aa:S},nq L nt aq l st (jf val nI.toNat items) (if 0<nI then .aP k0 items.length true else .aP k0 0 false) (if 0<nI then items else[]) f aa->∃r,(match f with | .ret u=>u | _=>.none)=V.obj r/\st.length<=r/\aa.st[r]?=aac (.lst (jf val nI.toNat items))/\aD L st aa.st/\aa.st[l]?=aac (if 0<nI then .aP k0 items.length true else .aP k0 0 false)/\zm nt aq (if 0<nI then items else[]) aa.st:=by
   rintro f aa ⟨r,rfl,h⟩
   exact(ja r rfl h)
  unfold xl;refine zf ?_
  walk_at "mz"
  by_cases h1:nI=1
  ·subst h1
   (refine aab (decide_eq_true rfl) ?_;refine aab (if_pos rfl) ?_)
   walk_at "mz"
   refine(gb (B _)).mpr ?_
   walk_at "mz"
   walk_at "mz"
   have:=B0 (LM:=LM) (σ:=(⟨st,qd ["n", "iterable", "key"] [.int 1,.obj l,k]⟩ : S).put "it" (.obj l)) C K (by simp only[qa,if_true]) (by simp only[qa,qd,aag,if_false,if_true]) hit
   refine this.mono λf aa h=>?_
   have h2:=out (f:=f) (aa:=aa) (by rw[if_pos (by decide),if_pos (by decide)];exact h)
   refine ya h λr G J=>?_
   try clear h
   obtain rfl:=G;exact h2
  ·rw[decide_eq_false h1,if_neg (by decide)]
   walk_at "mz"
   unfold qp;refine zf ?_
   refine KG (x:=⟨"TypeError",aae (ku (aaX "list_iterator"))⟩) (aa:=⟨st,qd ["n", "iterable", "key"] [.int nI,.obj l,k]⟩) ?_ ?_
   ·rw[p0 (v:= .obj l) (by simp only[qd,aag,if_false,if_true])]
    unfold dR lG
    try dsimp only
    exact aab hit rfl
   ·refine(gb (a:=Fl.next) (aa:=⟨st,qd ["n", "iterable", "key"] [.int nI,.obj l,k]⟩) (by unfold nN;refine aab (if_pos rfl) ?_;rfl)).mpr ?_
    try dsimp only
    exact(QN (σ:=⟨st,qd ["n", "iterable", "key"] [.int nI,.obj l,k]⟩) (v:= .obj l) (B _) C K D (by simp only[qd,aag,if_false,if_true]) (by simp only[qd,if_true]) (by simp only[qd,aag,if_false,if_true]) hit).mono λf aa h=>out h)
 exact(gf r am e h)
theorem gb0{st:jb}{L:List Nat}{nt:Bool}{aq li:Nat}{nI:Int}{items:List V}{b:Bool}{tv val:V->Int}{k:V}(hL:L=if nt=true then[aq] else[])(h0:0<st.length)(D:st[li]?=aac (.lst items))(O:li∉L)(En:∀am,aD L st am->∀x∈items,fo am b tv x)(bU:items.length<=1000)
  (K:i5 LM L st items tv k val nt aq) (U:zm nt aq [] st) (bY:min nI.toNat items.length<64) :
  ∃r am,zt LM [.int nI,.obj li,k] st = .ok (.obj r) am/\st.length<=r/\am[r]?=aac (.lst (jf val nI.toNat items))/\aD L st am/\zm nt aq (if 0<nI then items else[]) am:=by
 have ls:=jd D;have J:nt=true->aq<st.length:=λe=>jd (U e)
 obtain⟨v,am,e,r,rfl,h⟩:=tJ (params:=["n", "iterable", "key"]) (body:=xl LM) (vs:=[.int nI,.obj li,k]) (st:=st) (R:=λv am => ∃r,v = .obj r/\st.length<=r/\am[r]?=aac (.lst (jf val nI.toNat items))/\aD L st am/\zm nt aq (if 0<nI then items else[]) am) rfl (by
  have cO:∀lo,jp [.obj li] ⟨st,lo⟩ = .ok (.obj st.length) ⟨st++[.aP li 0 false],lo⟩:=by
   intro lo;unfold jp lF;dsimp only;exact aab D rfl
  have hit:(st++[bn.aP li 0 false])[st.length]?=aac (.aP li 0 false):=aaq
  have C:lv (st.length::L) nt aq st.length li (st++[.aP li 0 false]) items b tv :=
   ⟨by refine aab hL ?_;cases nt<;>rfl,⟨h0,by simp⟩,by simp only[aay,not_or];exact⟨by exact Cr ls,O⟩,by refine aab (aas ls) ?_;exact D,λam W=>En am (Ep W),bU,λe=>by have:=J e;exact Ct this,λe=>by refine aab (aas (J e)) ?_;exact U e⟩
  have K':i5 LM (st.length::L) (st++[.aP li 0 false]) items tv k val nt aq:=by
   rcases K with h | ⟨lk,i,cK,h1,h2,h3,h4,h5,h6,h7⟩
   ·exact .inl h
   ·have:=jd h2
    exact .inr ⟨lk,i,cK,h1,by refine aab (aas this) ?_;exact h2,by simp only[aay,not_or];exact⟨by exact Cr this,h3⟩,h4,aaU _ h5,by refine aab abT ?_;exact UO h6,λam j x W=>h7 am j x (Ep W)⟩
  have out:∀{f:Fl} {aa:S} {it:bn} {vs:List V} {us:List V},vs=jf val nI.toNat items->us=(if 0<nI then items else[])->nq (st.length::L) nt aq st.length (st++[.aP li 0 false]) vs it us f aa->∃r,(match f with | .ret u=>u | _=>.none)=V.obj r/\st.length<=r/\aa.st[r]?=aac (.lst (jf val nI.toNat items))/\aD L st aa.st/\zm nt aq (if 0<nI then items else[]) aa.st:=by
   rintro f aa it vs us rfl rfl ⟨r,rfl,h1,h2,h3,_,h4⟩
   exact(sQ r rfl (by rw[abT] at h1;exact LX h1) h2 (Ep h3) h4)
  unfold xl;refine zf ?_
  walk_at "mz"
  by_cases h1:nI=1
  ·subst h1
   (refine aab (decide_eq_true rfl) ?_;refine aab (if_pos rfl) ?_)
   walk_at "mz"
   refine(gb (cO _)).mpr ?_
   walk_at "mz"
   walk_at "mz"
   have:=B0 (LM:=LM) (σ:=(⟨st++[.aP li 0 false],qd ["n", "iterable", "key"] [.int 1,.obj li,k]⟩ : S).put "it" (.obj st.length)) C K' (by simp only[qa,if_true]) (by simp only[qa,qd,aag,if_false,if_true]) hit
   refine this.mono λf aa h=>?_
   have h2:=out (f:=f) (aa:=aa) (by rfl) (by rw[if_pos (by decide)]) h
   refine ya h λr B2 zZ=>?_
   try clear h
   obtain rfl:=B2;exact h2
  ·rw[decide_eq_false h1,if_neg (by decide)]
   walk_at "mz"
   unfold qp;refine zf ?_
   refine KE (aa:=(⟨st,qd ["n", "iterable", "key"] [.int nI,.obj li,k]⟩ : S).put "size" (.int items.length)) ?_ ?_
   ·rw[p0 (v:= .obj li) (by simp only[qd,aag,if_false,if_true])]
    unfold dR lG
    try dsimp only
    exact aab D rfl
   ·unfold xt
    walk_at "mz"
    by_cases G:(items.length:Int)<=nI
    ·(refine aab (decide_eq_true G) ?_;refine aab (if_pos rfl) ?_)
     walk_at "mz"
     refine qq (K.c En) λkv bb B=>?_
     have gS:bw (toD (zh nt aq items st) 6) (items.map kv)=aac ((items.map kv).map λw=>(toD (zh nt aq items st) 6 w).getD .none):=Ed λa ha=>by
      refine ya (abk.mp ha) λx Y B3=>?_;obtain rfl:=B3;refine aab (B.dat _ (B.jX (aD.refl ..)) x Y) ?_;rfl
     have Du:(items.map kv).map (λw=>(toD (zh nt aq items st) 6 w).getD .none)=items.map λx=>eW bb (val x):=by
      refine aab aeN ?_;refine ado λx Y=>?_;show(toD (zh nt aq items st) 6 (kv x)).getD .none=_;refine aab (B.dat _ (B.jX (aD.refl ..)) x Y) ?_;rfl
     rw[Du] at gS
     obtain⟨o1,o2⟩:=jcc (items:=items) (g:=λx=>eW bb (val x)) (val:=val) (bb:=bb) (λzZ zZ=>rfl) (by exact Uj bY G)
     have jP:zm nt aq (items.take 0) st:=U;have nQ:aD L st (zh nt aq items st):=B.jX (aD.refl ..)
     have es:∀lo,qx LM (.obj li) k ⟨st,lo⟩ = .ok (.obj st.length) ⟨zh nt aq items st++[.lst (jg val items)],lo⟩:=by
      intro lo;unfold qx
      try dsimp only
      rw[B.isk,if_neg (by decide),D]
      try dsimp only
      refine aab (show DS st k items=aam by cases items with | nil=>rfl | cons _ _=>exact B.bad st (aD.refl ..)) ?_
      try dsimp only
      refine aab (B.keys items 0 st rfl (aD.refl ..) jP) ?_
      try dsimp only
      refine aab gS ?_
      try dsimp only
      (refine aab (if_pos o1) ?_;refine aab o2 ?_;exact aab BO rfl)
     refine(gb (es _)).mpr ?_
     walk_at "mz"
     walk_at "mz"
     refine BH (vs:=jg val items) nI.toNat (by rw[<- BO (nt:=nt) (aq:=aq) (us:=items) (st:=st)];exact aaq) (by exact Uk G) λk' am q1 Z q3=>?_
     have uw:=nQ.trans (aD.app L (zh nt aq items st) [.lst (jg val items)])
     refine rV ⟨k',rfl,by dsimp only at Z;rw[abT,BO] at Z;exact LX Z,?_,uw.trans q1.nil,λe=>?_⟩
     ·(refine aab q3 ?_;exact aab (z5 ..) rfl)
     ·refine q1.bD ?_;show(zh nt aq items st++[bn.lst (jg val items)])[aq]?=_
      rw[aas (by rw[BO];exact J e),El J e]
      by_cases hn:0<nI
      ·exact aab (if_pos hn) rfl
      ·(refine aab (if_neg hn) ?_;exact aab (abm (show items.length=0 by exact UP G hn)) rfl)
    ·rw[decide_eq_false G,if_neg (by decide)]
     walk_at "mz"
     exact(QN (σ:=(⟨st,qd ["n", "iterable", "key"] [.int nI,.obj li,k]⟩ : S).put "size" (.int items.length)) (v:= .obj li) (cO _) C K' bY (by simp only[qa,qd,aag,if_false,if_true]) (by simp only[qa,qd,aag,if_false,if_true]) (by simp only[qa,qd,aag,if_false,if_true]) hit).mono λf aa h=>out rfl rfl h)
 exact(gf r am e h)
end
noncomputable def KH(c:bn):Prop:=c = .tab\/∃vs,c = .lst vs
noncomputable def PV(L:List Nat)(st am:jb):Prop:=st.length<=am.length/\∀k c,k∉L->KH c->st[k]?=aac c->am[k]?=aac c
theorem PV.refl(L:List Nat)(st:jb):PV L st st:=⟨aaw _,λu u u u e=>e⟩
theorem PV.of{L:List Nat}{a b:jb}(x:aD L a b):PV L a b:=⟨x.1,λk c hk u e=>x.get e hk⟩
theorem PV.trans{L:List Nat}{a b c:jb}(x:PV L a b)(y:PV L b c):PV L a c:=⟨aaB x.1 y.1,λk d hk hd e=>y.2 k d hk hd (x.2 k d hk hd e)⟩
theorem PV.lst{L:List Nat}{a b:jb}{k:Nat}{vs:List V}(x:PV L a b)(hk:k∉L)(e:a[k]?=aac (.lst vs)):b[k]?=aac (.lst vs):=x.2 k _ hk (.inr ⟨vs,rfl⟩) e
theorem PV.eB{a b:jb}{k:Nat}{vs:List V}(x:PV [] a b)(e:a[k]?=aac (.lst vs)):b[k]?=aac (.lst vs):=x.lst (by simp) e
theorem PV.sC{a b:jb}(x:PV [] a b)(e:a[1]?=aac bn.tab):b[1]?=aac bn.tab:=x.2 1 _ (by simp) (.inl rfl) e
theorem PV.mono{L u:List Nat}{a b:jb}(x:PV L a b)(h:∀k∈L,k∈u):PV u a b:=⟨x.1,λk c hk=>x.2 k c λq=>hk (h k q)⟩
theorem PV.nil{L:List Nat}{a b:jb}(x:PV [] a b):PV L a b:=x.mono (by simp)
theorem PV.kill(st:jb):PV [] st (kr st):=by
 refine⟨by unfold kr;simp,λk c B u e=>?_⟩
 unfold kr
 (refine aab (abE) ?_;refine aab e ?_)
 rcases u with rfl | ⟨vs,rfl⟩<;>rfl
theorem gcc(st:jb):(kr st).length=st.length:=by unfold kr;simp
theorem QP{α:Type}{v w:α->Int}{x:α}:∀{b:List α},v x=w x->(∀y∈b,v y=w y)->cr v x b=cr w x b
 | [],_,_=>rfl
 | y::r,u,h=>by
  simp only[z0,z0,u,h y aaS,QP u λz hz=>h z (aaU _ hz)]
theorem zcd{α:Type}{v w:α->Int}(l:List α):(∀y∈l,v y=w y)->jg v l=jg w l:=by
 refine qc5 (P:=λl=>(∀y∈l,v y=w y)->jg v l=jg w l) (λC=>rfl) (λl x B h=>?_) l;have h1:=B λy u=>h y (acz _ u);simp only[D9,D9,<- h1]
 exact QP (h x (by simp)) λy u=>h y (acz _ ((ql _).mem_iff.mp u))
theorem QQ{σ:S}{x:String}{v:V}{Q:Unit->S->Prop}:MW (lU x v) σ Q↔Q () (σ.fA x v):=gb rfl
theorem zu{σ:S}{x y:String}{v:V}:(σ.fA x v).lo y=if y=x then aac v else σ.lo y:=rfl
noncomputable abbrev Th:=Nat×Int
noncomputable def a8(ps:List Th):List V:=ps.map λp=>V.obj p.1
noncomputable def Row(st:jb)(k:Nat)(ps:List Th):Prop:=st[k]?=aac (.lst (a8 ps))
noncomputable def gM(st:jb)(ps:List Th):Prop:= ∀p∈ps,st[p.1]?=aac (.lst [.int p.2])
theorem gM.mono{a b:jb}{ps:List Th}(x:PV [] a b)(h:gM a ps):gM b ps:=λp u=>x.eB (h p u)
noncomputable def yx(st:jb):V->Int
 | .obj t=>match st[t]? with
  | some (.lst [.int a])=>a
  | _=>0
 | _=>0
theorem B4{st:jb}{ps:List Th}(h:gM st ps):∀p∈ps,yx st (.obj p.1)=p.2:=by
 intro p u;unfold yx;dsimp only;exact aab (h p u) rfl
theorem QR{st:jb}{ps:List Th}(h:gM st ps)(n:Nat):jf (yx st) n (a8 ps)=a8 (jf (·.2) n ps):=by
 (refine aab (z5 ..) ?_;refine aab (z5 ..) ?_)
 unfold a8;rw[<- Qb (val:=yx st) (λp:Th=>V.obj p.1),<- ag5];exact aab (zcd (w:=λp:Th=>p.2) ps (B4 h)) rfl
theorem Er{st:jb}{ps:List Th}(h:gM st ps){am:jb}(B:∀p∈ps,am[p.1]?=st[p.1]?):∀x∈a8 ps,fo am true (yx st) x:=by
 intro x C n D;refine ya (abk.mp C) λp u G=>?_;obtain rfl:=G
 obtain⟨m,rfl⟩ : ∃m,n=m+2:=⟨n-2,by exact Uq D⟩
 show(match am[p.1]? with | some (.lst vs)=>(bw (toD am (m+1)) vs).map aet | _=>aam)=_
 (refine aab (B p u) ?_;refine aab (h p u) ?_;refine aab (B4 h p u) ?_)
 rfl
theorem Es(a b:List Th):a8 (a++b)=a8 a++a8 b:=acy
theorem xe(a:List Th):(a8 a).length=a.length:=aaP ..
theorem Et(a:List Th)(n:Nat):(a8 a).take n=a8 (a.take n):=(ag5 ..).symm
theorem KI(a:List Th)(n:Nat):(a8 a).drop n=a8 (a.drop n):=(List.map_drop ..).symm
theorem jcs{st:jb}{ps:List Th}(h:gM st ps){c:Th}:((a8 ps).filterMap λv=>if yx st v<c.2 then aam else aac v).length=(iB (λp:Th=>p.2) c ps).length:=by
 have key:∀u:List Th,(∀q∈u,yx st (.obj q.1)=q.2)->((a8 u).filterMap λv=>if yx st v<c.2 then aam else aac v).length=(iB (λp:Th=>p.2) c u).length:=by
  intro u
  induction u with
  | nil=>intro _;rfl
  | cons q u D=>
   intro B;have:=D λr hr=>B r (aaU _ hr);unfold a8 iB at this ⊢
   (refine aab ac1 ?_;refine aab ad1 ?_;refine aab ah7 ?_;refine aab (B q aaS) ?_)
   by_cases C:q.2<c.2
   ·simp only[C,if_true,decide_true,Bool.not_true,aaW,if_false];exact this
   ·simp only[C,if_false,decide_false,adK,if_true,abL];exact congrArg (· + 1) this
 exact key ps (B4 h)
theorem Eu{st:jb}{a b:Nat}{ps:List Th}(h0:0<st.length)(u:Row st a ps)(D:Row st b ps)(G:ps.length<=1000):
  ∃v am,jq [.obj a,.obj b] st = .ok v am/\v = .bool true/\aD [] st am:=by
 have B:(a8 ps).length=ps.length:=xe ps;unfold jq
 refine tJ (params:=["one", "other"]) (vs:=[.obj a,.obj b]) (R:=λv am=>v = .bool true/\aD [] st am) (by rfl) ?_
 unfold J0
 walk_at "mz"
 refine(oS (by exact u)).mpr ?_
 walk_at "mz"
 refine(oS (by exact D)).mpr ?_
 walk_at "mz"
 (refine aab (decide_eq_true rfl) ?_;refine aab (if_pos rfl) ?_)
 walk_at "mz"
 refine(oS (by exact u)).mpr ?_
 walk_at "mz"
 refine Ej (us:=(aaF ps.length).map λ(i:Nat)=>V.int (i:Int)) (n:=4096) (t:=JY) (c:=JZ) (e:=ah "k") (λC=>aam) (λC C=>rfl)
  (Qx (QB (by exact L6) (by exact UQ B G) (by exact L7))) (by exact h0) ?_ (by simp;exact CB G) (by simp;exact tZ G) ?_ ?_
 ·intro aa i _
  have:=Kn (a:=0) (b:=((a8 ps).length:Int)) (n:=ps.length) aa i (by exact UR B)
  refine aab this ?_
  simp
 ·intro v hv aa U W;refine ya (abk.mp hv) λi hi B6=>?_;obtain rfl:=B6
  have J:i<ps.length:=by simpa using hi
  unfold JY JZ
  have l1:aa.lo "one" = aac (.obj a):=(W "one" (by simp)).trans rfl
  have l2:aa.lo "other" = aac (.obj b):=(W "other" (by simp)).trans rfl
  have s1:aa.st[a]?=aac (.lst (a8 ps)):=(U a (jd u)).trans u;have s2:aa.st[b]?=aac (.lst (a8 ps)):=(U b (jd D)).trans D
  have hk:(a8 ps)[i]?=aac (.obj ps[i].1):=by unfold a8;(refine aab (abE) ?_;refine aab (aav J) ?_);rfl
  refine aab (propext (qe)) ?_;refine⟨rfl,?_,?_⟩
  ·intro x Y;simp only[aay,aaJ,or_false] at Y
   rcases Y with rfl | rfl<;>simp only[qa,aag,if_false]
  have hD:(aa.put "k" (.int (i:Int))).lo "one" = aac (.obj a):=l1
  have kV:(aa.put "k" (.int (i:Int))).lo "other" = aac (.obj b):=l2
  walk_at "mz"
  refine(zv (by exact s1) (j:=i) (by rw[oR,if_pos (by exact hS J B)]) hk).mpr ?_
  walk_at "mz"
  refine(zv (by exact s2) (j:=i) (by rw[oR,if_pos (by exact hS J B)]) hk).mpr ?_
  walk_at "mz"
  refine aab (propext (xcz)) ?_
  walk_at "mz"
  simp
 ·intro k dX p1 f1 g1
  walk_at "mz"
  refine jr (by simp) λk2 cg Z f2 g2=>?_
  have O:dX[k]?=aac (.lst []):=by
   refine aab g1 ?_
   congr 2
   exact List.filterMap_eq_nil_iff.mpr λC C=>rfl
  walk_at "mz"
  refine(ydr (as:=[]) (bs:=[]) (by exact Z.bD O) (by exact g2)).mpr ?_
  walk_at "mz"
  exact⟨by simp,p1.trans Z⟩
theorem yc6{σ:S}{a b:Int}{Q:V->S->Prop}:MW (oN [.int a,.int b]) σ Q↔Q (.int (if a<b then b else a)) σ:=gb rfl
noncomputable def IT(a b:jb):Prop:= ∀(j k i:Nat) (d:Bool),a[j]?=aac (.aP k i d)->b[j]?=aac (.aP k i d)
theorem IT.of{a b:jb}(x:aD [] a b):IT a b:=λu u u u e=>x.bD e
theorem IT.trans{a b c:jb}(x:IT a b)(y:IT b c):IT a c:=λj k i d e=>y j k i d (x j k i d e)
theorem IT.kill(st:jb):IT st (kr st):=λj k i d e=>by
 unfold kr
 (refine aab (abE) ?_;refine aab e ?_)
 rfl
theorem weo{st:jb}{k:Nat}{ps:List Th}{w:Int}(h0:0<st.length)(hr:Row st k ps)(ht:gM st ps)(hn:ps.length<=100):
  ∃v am,Bk [.int w,.obj k] st = .ok v am/\∃r,v = .obj r/\Row am r (jf (·.2) w.toNat ps)/\PV [] st am/\IT st am:=by
 unfold Bk
 refine tJ (params:=["wish", "row"]) (vs:=[.int w,.obj k]) (R:=λv am => ∃r,v = .obj r/\Row am r (jf (·.2) w.toNat ps)/\PV [] st am/\IT st am) (by rfl) ?_
 unfold JX;refine zf ?_
 walk_at "mz"
 refine jr (by simp) λk1 dX p1 f1 g1=>?_
 walk_at "mz"
 unfold PJ;refine zf ?_
 walk_at "mz"
 dsimp only at p1 f1;have AV:Row dX k ps:=p1.bD hr
 refine(gb (BL (by exact AV))).mpr ?_
 refine Dw ps.length (λi σ=>σ.lo "wish" = aac (.int w)/\PV [] st σ.st/\IT st σ.st/\∃f,σ.lo "few" = aac (.obj f)/\Row σ.st f (jg (λp:Th=>p.2) (ps.take i))) ?_ ?_ 4096 0 _ (aaL _) (by exact US hn) ⟨by simp only[qa,qd,aag,if_false,if_true],PV.of p1,IT.of p1,k1,by simp only[qa,if_true],g1⟩
 ·rintro σ ⟨l1,G,i1,f,l2,hf⟩
  have KJ:Row σ.st k ps:=G.eB hr
  refine⟨by rw[sz (by exact KJ) σ _ (λk hk=>rfl),abR (by refine aab (xe ..) ?_;exact aaw _)],?_⟩
  unfold PI
  walk_at "mz"
  refine yc6.mpr ?_
  walk_at "mz"
  refine BH w.toNat (by exact hf) (by split<;>(first | lia | omega)) λk2 C D q2 q3=>?_
  walk_at "mz"
  refine(uf k2 rfl ?_ (G.trans (PV.of D)) (i1.trans (IT.of D)));unfold Row
  (refine aab q3 ?_;refine aab (Et ..) ?_;refine aab (z5 ..) ?_;exact aab acK rfl)
 ·rintro i σ hi ⟨l1,G,i1,f,l2,hf⟩
  have KJ:Row σ.st k ps:=G.eB hr
  have hD:(a8 ps)[i]?=aac (.obj ps[i].1):=by unfold a8;(refine aab (abE) ?_;refine aab (aav hi) ?_);rfl
  refine(ja (.obj ps[i].1) (by rw[sz (by exact KJ) σ _ (λk hk=>rfl),hD]) ?_)
  unfold PG;refine aab (propext (QQ)) ?_;have xk:PV [] σ.st (kr σ.st):=PV.kill σ.st;have J:=G.trans xk;have i2:=i1.trans (IT.kill σ.st);have O:Row (kr σ.st) f (jg (λp:Th=>p.2) (ps.take i)):=xk.eB hf
  have cA:0<(kr σ.st).length:=by have:=J.1;exact pa h0 this
  have sD:gM (kr σ.st) ps:=ht.mono J;have oY:∀p∈jg (λp:Th=>p.2) (ps.take i),p∈ps:=λp B=>ac6 ((ql _).mem_iff.mp B);have U:gM (kr σ.st) (jg (λp:Th=>p.2) (ps.take i)):=λp B=>sD p (oY p B)
  have W:(jg (λp:Th=>p.2) (ps.take i)).length<=100:=by(refine aab (Kd ..) ?_;refine aab abM ?_);exact UT hn
  have m1:(σ.fA "thing" (.obj ps[i].1)).lo "wish" = aac (.int w):=by simp only[zu,aag,if_false];exact l1
  have m2:(σ.fA "thing" (.obj ps[i].1)).lo "few" = aac (.obj f):=by simp only[zu,aag,if_false];exact l2
  have m3:(σ.fA "thing" (.obj ps[i].1)).lo "thing" = aac (.obj ps[i].1):=by simp only[zu,if_true]
  have m0:(σ.fA "thing" (.obj ps[i].1)).st=kr σ.st:=rfl
  generalize σ.fA "thing" (.obj ps[i].1)=u at m0 m1 m2 m3
  rw[<- m0] at J i2 O cA sD U;clear m0;unfold PH;refine zf ?_
  walk_at "mz"
  refine Ej (us:=a8 (jg (λp:Th=>p.2) (ps.take i))) (n:=4096) (t:=JV) (c:=JW) (e:=ah "one") (λv=>if yx u.st v<ps[i].2 then aam else aac v) (λzZ zZ=>rfl) (BL (by exact O)) (by exact cA) (sz (by exact O)) (by refine aab (xe ..) ?_;exact LY W) (by refine aab (xe ..) ?_;exact UU W) ?_ ?_
  ·intro v hv aa o6 nP;have ag:pO u.st aa.st:=o6
   have kG:aa.lo "thing" = aac (.obj ps[i].1):=(nP "thing" (by simp)).trans m3
   have e1:=Er U (am:=aa.st) (λp B=>ag p.1 (jd (U p B))) v hv
   have sE:gM u.st [ps[i]]:=λp B=>by refine aab (aan.mp B) ?_;exact sD _ (acJ hi)
   have e2:=Er sE (am:=aa.st) (λp B=>ag p.1 (jd (sE p B))) (.obj ps[i].1) (by simp[a8])
   have e3:yx u.st (.obj ps[i].1)=ps[i].2:=B4 sE ps[i] (by simp)
   unfold JV JW;refine aab (propext (qe)) ?_
   refine⟨rfl,λx hx=>by refine aab (aan.mp hx) ?_;simp only[qa,aag,if_false],?_⟩
   have KS:(aa.put "one" v).lo "thing" = aac (.obj ps[i].1):=kG
   walk_at "mz"
   refine(gb (QJ e1 e2)).mpr ?_
   walk_at "mz"
   refine aab e3 ?_;refine⟨rfl,?_⟩
   by_cases Y:yx u.st v<ps[i].2
   ·refine aab (if_pos Y) ?_;simp[Y]
   ·refine aab (if_neg Y) ?_
    refine⟨by simp[Y],?_⟩
    exact jc.mpr (je v rfl rfl rfl)
  ·intro k2 C D q2 q3
   walk_at "mz"
   refine(oS (by exact q3)).mpr ?_
   walk_at "mz"
   refine aab (jcs U (c:=ps[i])) ?_
   generalize hG:(iB (λp:Th=>p.2) ps[i] (jg (λp:Th=>p.2) (ps.take i))).length=g
   have n1:((⟨C,u.lo⟩ : S).put "ahead" (.int (g:Int))).lo "few" = aac (.obj f):=m2
   have n2:((⟨C,u.lo⟩ : S).put "ahead" (.int (g:Int))).lo "thing" = aac (.obj ps[i].1):=m3
   have n3:((⟨C,u.lo⟩ : S).put "ahead" (.int (g:Int))).lo "wish" = aac (.int w):=m1
   have n4:((⟨C,u.lo⟩ : S).put "ahead" (.int (g:Int))).lo "ahead" = aac (.int (g:Int)):=rfl
   have n5:((⟨C,u.lo⟩ : S).put "ahead" (.int (g:Int))).st=C:=rfl
   generalize (⟨C,u.lo⟩ : S).put "ahead" (.int (g:Int))=υ at n1 n2 n3 n4 n5
   obtain⟨mz,KU⟩:=υ
   (subst n5)
   dsimp only at n1 n2 n3 n4;unfold PF;have b2:=D.bD O
   walk_at "mz"
   refine BH g (by exact b2) rfl λk3 QS r1 r2 r3=>?_
   walk_at "mz"
   refine jr (by simp) λk4 TE s1 s2 s3=>?_
   walk_at "mz"
   refine Kk (by exact s1.bD r3) (by exact s3) (by(refine aab abT ?_;refine aab abM ?_;refine aab (xe ..) ?_);simp;exact UV W) λk5 kV t1 t2 t3=>?_
   walk_at "mz"
   dsimp only at r1 s1 t1;have KL:aD [] _ kV:=(r1.trans s1).trans t1
   refine Qt g (by exact KL.bD b2) rfl λk6 TW Z u2 u3=>?_
   walk_at "mz"
   dsimp only at Z u2
   refine Kk (by exact Z.bD t3) (by exact u3) (by simp only[abT,abM,adS,xe];simp;exact UW W) λk7 Xt v1 v2 v3=>?_
   walk_at "mz"
   dsimp only at v1 v2
   have hb:(a8 (jg (λp:Th=>p.2) (ps.take i))).take g++[V.obj ps[i].1]++(a8 (jg (λp:Th=>p.2) (ps.take i))).drop g=a8 (jg (λp:Th=>p.2) (ps.take (i+1))):=by
    (refine aab acg ?_;refine aab (aav hi) ?_)
    show _=a8 (jg _ (ps.take i++[ps[i]]))
    (refine aab (D9 ..) ?_;rewrite[<- (Eb (ps.take i)).code ps[i]];refine aab hG ?_;refine aab (Et ..) ?_;refine aab (KI ..) ?_;refine aab (Es ..) ?_;refine aab (Es ..) ?_)
    rfl
   rw[hb] at v3
   refine⟨n3,?_,i2.trans (IT.of (((D.trans KL).trans Z).trans v1)),k7,by simp only[qa,if_true],v3⟩
   exact J.trans (PV.of (((D.trans KL).trans Z).trans v1))
theorem qeo{st:jb}{aq t:Nat}{a:Int}{us:List V}(u:st[aq]?=aac (.lst us))(B:aq≠0)(C:us.length<=1000)(D:st[t]?=aac (.lst [.int a]))(G:t≠aq):LM 0 [.obj aq] [.obj t] st = .ok (.int a) (st.set aq (.lst (us++[.obj t]))):=by
 have key:MW Bf ⟨st,qd ["thing", "asked"] [.obj t,.obj aq]⟩ (λv aa=>v = .int a/\aa.st=st.set aq (.lst (us++[.obj t]))):=by
  unfold Bf;simp only[qb,jc,yb,qd,qa,ki,aag,if_true,if_false,aal,exists_eq_left']
  rw[IV (by exact u)]
  simp only[qb,jc,yb,qd,qa,ki,aag,if_true,if_false,aal,exists_eq_left']
  refine(Oi (vs:=us) (by exact u) B (by exact tZ C)).mpr ?_
  refine(gb (m:=ss V.none) (a:=false) (aa:=⟨st.set aq (.lst (us++[V.obj t])),qd ["thing", "asked"] [V.obj t,V.obj aq]⟩) rfl).mpr ?_
  rw[if_neg (by decide)]
  simp only[qb,jc,yb,qd,qa,ki,aag,if_true,if_false,aal,exists_eq_left']
  exact(zv (vs:=[.int a]) (j:=0) (by show(st.set aq _)[t]?=_;refine aab (aau (aaR G)) ?_;exact D) rfl rfl).mpr ⟨rfl,rfl⟩
 refine gc key λv aa e J h=>?_
 try clear key
 obtain rfl:=J
 show(match Bf ⟨st,qd ["thing", "asked"] [.obj t,.obj aq]⟩ with
  | .ok v aa=>Res.ok v aa.st
  | .exc e aa=>.exc e aa.st
  | .stuck=>.stuck)=_
 (refine aab e ?_;rw[<- h])
noncomputable def sF(st:jb)(k:V)(aq:Nat):Prop:=k = .none\/∃u,k = .obj u/\st[u]?=aac (.dD 0 [.obj aq])
noncomputable def tL(st:jb)(g:V)(rl gl:Nat)(sb:Bool):Prop:=(sb=false/\g = .obj rl)\/(sb=true/\g = .obj gl/\0<gl/\st[gl]?=aac (.aP rl 0 false))
structure nR(st am:jb)(rl aq gl tk:Nat)(ps us:List Th)(sb:Bool):Prop where
 pv:PV [aq] st am
 log:am[aq]?=aac (.lst (a8 us))
 it:sb=true->∃j d,am[gl]?=aac (.aP rl j d)/\(d=false->j=tk)/\(d=true->ps.length<=tk)
theorem PV.but{L:List Nat}{a b:jb}{l k0 i:Nat}{d:Bool}(x:PV (l::L) a b)(h:a[l]?=aac (.aP k0 i d)):PV L a b:=by
 refine⟨x.1,λk c hk u e=>x.2 k c ?_ u e⟩;intro q
 rcases aay.mp q with rfl | q
 ·rw[h] at e;(injection e with B;subst B)
  rcases u with u | ⟨_,u⟩<;>cases u
 ·exact hk q
theorem KN{w g k v:V}{st am:jb}(h:zt LM [w,g,k] st = .ok v am):wj [w,g,k] st = .ok v am:=by
 unfold wj;refine rW rfl ?_;unfold D5
 have e:MW yv ⟨st,qd ["wish", "given", "key"] [w,g,k]⟩ (λf aa=>f = .ret v/\aa.st=am):=by
  unfold yv;simp only[qb,jc,yb,qd,qa,ki,aag,if_true,if_false,aal,exists_eq_left']
  exact(zk (σ:=⟨st,qd ["wish", "given", "key"] [w,g,k]⟩) h).mpr ⟨rfl,rfl⟩
 obtain⟨f,aa,e,rfl,h2⟩:=e
 exact(ke (.ret v) aa (by unfold mP;exact aab e rfl) rfl h2)
theorem tM{st:jb}{ps:List Th}(B:gM st ps){aq:Nat}(u:st[aq]?=aac (.lst [])):∀p∈ps,p.1≠aq:=by
 rintro p C rfl
 rw[B p C] at u;(exfalso;exact nomatch u)
theorem QT{st:jb}{ps:List Th}(B:gM st ps){l k0 i:Nat}{d:Bool}(u:st[l]?=aac (.aP k0 i d)):∀p∈ps,p.1≠l:=by
 rintro p C rfl
 rw[B p C] at u;(exfalso;exact nomatch u)
theorem QU{st:jb}{k:V}{aq:Nat}{ps:List Th}{L:List Nat}(O:sF st k aq)(G:gM st ps)(J:st[aq]?=aac (.lst []))(U:aq≠0)(W:ps.length<=100)(hL:∀p∈ps,p.1∉L)(Y:k≠.none->aq∈L)(Z:∀B,k = .obj B->B∉L):
  i5 LM L st (a8 ps) (yx st) k (yx st) (!k.isNone) aq:=by
 rcases O with rfl | ⟨B,rfl,B8⟩
 ·exact .inl ⟨rfl,rfl,rfl⟩
 ·refine .inr ⟨B,0,[.obj aq],rfl,B8,Z B rfl,rfl,Y (by simp),jd J,λam j x hp u hl=>?_⟩
  unfold a8 at u;rw[abE] at u
  cases C:ps[j]? with
  | none=>rw[C] at u;(injection u)
  | some p=>
   rw[C] at u
   (injection u with aK;subst aK)
   have D:p∈ps:=aaM C;have tw:j<ps.length:=(aaY.mp C).1
   rw[B4 G p D,qeo hl U (by rw[abM,xe];exact UX W) (hp.get (G p D) (hL p D)) (tM G J p D)]
   congr 3
   refine aab acg ?_;unfold a8
   (refine aab (abE) ?_;refine aab C ?_)
   rfl
theorem kc0{st:jb}{g k:V}{rl aq gl:Nat}{ps:List Th}{w:Int}{sb:Bool}(h0:0<st.length)(hr:Row st rl ps)(u:gM st ps)(O:ps.length<=50)(B:st[aq]?=aac (.lst []))(jP:aq≠0)(BX:rl≠aq)(Y:sF st k aq)(hG:tL st g rl gl sb):
  ∃r am,wj [.int w,g,k] st = .ok (.obj r) am/\Row am r (jf (·.2) w.toNat ps)/\nR st am rl aq gl (if 0<w then ps.length else 0) ps (if k.isNone=true then[] else ps.take (if 0<w then ps.length else 0)) sb:=by
 have pn:∀{am:jb},(k.isNone=true->am[aq]?=aac (.lst []))->zm (!k.isNone) aq (if 0<w then a8 ps else[]) am->am[aq]?=aac (.lst (a8 (if k.isNone=true then[] else ps.take (if 0<w then ps.length else 0)))):=by
  intro am h1 h2
  by_cases hk:k.isNone=true
  ·(refine aab (if_pos hk) ?_;refine aab (h1 hk) ?_);rfl
  ·rw[if_neg hk,h2 (by simpa using hk)]
   by_cases D:0<w
   ·(refine aab (if_pos D) ?_;refine aab (if_pos D) ?_;exact aab acK rfl)
   ·(refine aab (if_neg D) ?_;refine aab (if_neg D) ?_;refine aab agz ?_);rfl
 have Z:∀C,k = .obj C->C≠aq/\(∀j d,st[C]?≠aac (.aP rl j d)):=by
  intro C e
  rcases Y with rfl | ⟨c,rfl,hc⟩
  ·(injection e)
  ·cases e
   refine⟨?_,λj d q=>by rw[hc] at q;(exfalso;exact nomatch q)⟩
   rintro rfl
   rw[hc] at B;(exfalso;exact nomatch B)
 have QV:(!k.isNone)=true->k≠.none:=by rintro h rfl;(injection h)
 rcases hG with⟨rfl,rfl⟩ | ⟨rfl,rfl,lJ,G⟩
 ·obtain⟨r,am,e,h1,h2,h3,h4⟩:=gb0 (LM:=LM) (st:=st) (L:=if(!k.isNone)=true then[aq] else[]) (nt:= !k.isNone) (aq:=aq) (li:=rl) (nI:=w) (items:=a8 ps) (b:=true) (tv:=yx st) (val:=yx st) (k:=k) rfl h0 hr (by split<;>simp[BX])
   (λam J=>Er u λp U=>J.2 p.1 (jd (u p U)) (by split<;>simp[tM u B p U])) (by rw[xe];exact t0 O)
   (QU Y u B jP (by exact CC O) (by intro p J;split<;>simp[tM u B p J]) (λh=>by rw[if_pos (by cases k<;>first | rfl | exact absurd rfl h)];simp) (λC e=>by split<;>simp[(Z C e).1])) (λW=>B) (by rw[xe];exact Mh O)
  refine(ke r am (KN e) (by unfold Row;(refine aab h2 ?_;exact aab (QR u ..) rfl)) ⟨(PV.of h3).mono (by split<;>simp),pn (λhk=>?_) h4,λh=>by(injection h)⟩)
  exact h3.get B (by rw[if_neg (by simp[hk])];simp)
 ·have Ez:gl≠aq:=by rintro rfl;rw[G] at B;(exfalso;exact nomatch B)
  have B9:rl≠gl:=by rintro rfl;rw[show st[rl]?=_ from hr] at G;(exfalso;exact nomatch G)
  have sG:=jd G
  obtain⟨r,am,e,h1,h2,h3,h4,h5⟩:=xb0 (LM:=LM) (st:=st) (L:=if(!k.isNone)=true then[gl,aq] else[gl]) (nt:= !k.isNone) (aq:=aq) (l:=gl) (k0:=rl) (nI:=w) (items:=a8 ps) (b:=true) (tv:=yx st) (val:=yx st) (k:=k)
   ⟨rfl,⟨lJ,sG⟩,by split<;>simp[B9,BX],hr,λam J=>Er u λp U=>J.2 p.1 (jd (u p U)) (by split<;>simp[tM u B p U,QT u G p U]),by rw[xe];exact t0 O,λW=>aaR Ez,λW=>B⟩
   (QU Y u B jP (by exact CC O) (by intro p J;split<;>simp[tM u B p J,QT u G p J]) (λh=>by rw[if_pos (by cases k<;>first | rfl | exact absurd rfl h)];simp) (λC e=>by
    have hD:C≠gl:=by rintro rfl;exact(Z C e).2 0 false G
    split<;>simp[(Z C e).1,hD])) (by rw[xe];exact Mh O) G
  have kV:PV [aq] st am:=PV.but (l:=gl) ((PV.of h3).mono (by split<;>simp)) G
  refine(ke r am (KN e) (by unfold Row;(refine aab h2 ?_;exact aab (QR u ..) rfl)) ⟨kV,pn (λhk=>?_) h5,λW=>?_⟩)
  ·exact h3.get B (by rw[if_neg (by simp[hk])];simp[aaR Ez])
  ·by_cases D:0<w
   ·rw[if_pos D] at h4;refine aab (if_pos D) ?_
    exact(ke _ _ h4 (λh=>by(injection h)) (λW=>aaw _))
   ·rw[if_neg D] at h4;refine aab (if_neg D) ?_
    exact(ke _ _ h4 (λW=>rfl) (λh=>by(injection h)))
noncomputable def ME{α:Type}(m:M α)(σ:S)(Q:Exc->S->Prop):Prop:= ∃e aa,m σ = .exc e aa/\Q e aa
section
variable{α β:Type}{σ:S}{Q:Exc->S->Prop}
theorem qi{m:M α}{f:α->M β}(h:MW m σ (λa aa=>ME (f a) aa Q)):ME (m >>= f) σ Q:=by
 refine wrap λB u=>?_;obtain⟨a,aa,e,x,C,D,q⟩:=h;refine u ?_;clear u B
 exact(gf x C (by refine aab (M.bZ e) ?_;exact D) q)
theorem kg{m:M α}{f:α->M β}(h:ME m σ Q):ME (m >>= f) σ Q:=by
 refine xj h λx aa e q=>?_
 try clear h
 exact(gf x aa (by(refine aab (M.ap ..) ?_;exact aab e rfl)) q)
theorem nr{a b:M Fl}(h:MW a σ (λf aa=>f = .next/\ME b aa Q)):ME (aS a b) σ Q:=by
 unfold aS;refine qi (h.mono λf aa h=>?_);obtain⟨rfl,h⟩:=h;exact h
theorem wz{a b:M Fl}(h:ME a σ Q):ME (aS a b) σ Q:=kg h
theorem sH{m:M α}{e:Exc}{aa:S}(h:m σ = .exc e aa)(q:Q e aa):ME m σ Q:=⟨e,aa,h,q⟩
theorem ME.mono{m:M α}{R:Exc->S->Prop}(h:ME m σ Q)(f:∀e aa,Q e aa->R e aa):ME m σ R:=by
 refine xj h ?_
 try clear h
 intro e aa h q;exact(gf e aa h (f _ _ q))
theorem QW{b e:M Fl}{u:Exc->M Fl}{aa:S}(h:b σ = .ok .next aa)(k:ME e aa Q):ME (o4 b u e) σ Q:=by
 refine xj k λx B C q=>?_
 try clear k
 exact(gf x B (by unfold o4;refine aab h ?_;exact C) q)
end
noncomputable def NE(w g k:V)(st:jb)(Q:jb->Prop):Prop:= ∃e am,zt LM [w,g,k] st = .exc e am/\e.cls = "TypeError" /\ Q am
theorem NE.of{w g k:V}{st:jb}{Q:jb->Prop}(h:ME (xl LM) ⟨st,qd ["n", "iterable", "key"] [w,g,k]⟩ (λe aa=>e.cls = "TypeError" /\ Q aa.st)):NE w g k st Q:=by
 refine gc h λe aa h1 h2 h3=>?_
 try clear h
 refine(ke e aa.st ?_ h2 h3);unfold zt cZ
 (refine aab (if_pos (show[w,g,k].length=["n", "iterable", "key"].length from rfl)) ?_;exact aab h1 rfl)
theorem NE.call{w g k:V}{st:jb}{Q:jb->Prop}(h:NE w g k st Q):∃am,wj [w,g,k] st = .ok .none am/\Q am:=by
 refine gc h λe am h1 h2 h3=>?_
 try clear h
 refine(ja am ?_ h3);unfold wj;refine rW rfl ?_;unfold D5
 have B:yv ⟨st,qd ["wish", "given", "key"] [w,g,k]⟩ = .exc e ⟨am,qd ["wish", "given", "key"] [w,g,k]⟩:=by
  have:ME yv ⟨st,qd ["wish", "given", "key"] [w,g,k]⟩ (λu aa=>u=e/\aa=⟨am,qd ["wish", "given", "key"] [w,g,k]⟩):=by
   unfold yv
   refine kg (qi (m:=(do let v <- ah "wish";let vs <- (do let v <- ah "given";let vs <- (do let v <- ah "key";let vs <- (pure []:M (List V));pure (v::vs));pure (v::vs));pure (v::vs))) ?_)
   simp only[qb,jc,yb,qd,qa,ki,aag,if_true,if_false,aal,exists_eq_left'];refine(ke e _ ?_ rfl rfl);show wg (zt LM) [w,g,k] _=_;unfold wg;exact aab h1 rfl
  refine gc this λu aa q C D=>?_
  try clear this
  obtain rfl:=C;obtain rfl:=D;exact q
 refine(ke (.ret .none) ⟨am,qd ["wish", "given", "key"] [w,g,k]⟩ ?_ rfl rfl)
 unfold mP;refine aab B ?_;dsimp only;unfold nN;refine aab (if_pos h2) ?_
 rfl
theorem KO{w g k:V}{st:jb}{Q:Exc->S->Prop}(h1:∀lo,lp w (.int 1) ⟨st,lo⟩ = .ok (.bool false) ⟨st,lo⟩)(h:ME (qp LM) ⟨st,qd ["n", "iterable", "key"] [w,g,k]⟩ Q):ME (xl LM) ⟨st,qd ["n", "iterable", "key"] [w,g,k]⟩ Q:=by
 unfold xl;refine nr ?_;simp only[qb,jc,yb,qd,qa,ki,aag,if_true,if_false,aal,exists_eq_left'];refine(gb (h1 _)).mpr ?_
 rw[yl,if_neg (by decide),yb]
 exact⟨by first | rfl | trivial,h⟩
theorem QX{g k:V}{st:jb}{Q:Exc->S->Prop}(h:ME (do let v <- jp [g];aR "it" v;pure .next:M Fl) ⟨st,qd ["n", "iterable", "key"] [.int 1,g,k]⟩ Q\/∃v am,jp [g] ⟨st,qd ["n", "iterable", "key"] [.int 1,g,k]⟩ = .ok v ⟨am,qd ["n", "iterable", "key"] [.int 1,g,k]⟩/\ME (kq LM) ((⟨am,qd ["n", "iterable", "key"] [.int 1,g,k]⟩ : S).put "it" v) Q):ME (xl LM) ⟨st,qd ["n", "iterable", "key"] [.int 1,g,k]⟩ Q:=by
 unfold xl
 refine wz (qi (m:=(do let a <- ah "n";let b <- (pure (V.int 1):M V);let c <- lp a b;bi c)) ?_)
 simp only[qb,jc,yb,qd,qa,ki,aag,if_true,if_false,aal,exists_eq_left']
 refine(gb (m:=lp (.int 1) (.int 1)) (a:= .bool true) (aa:=⟨st,qd ["n", "iterable", "key"] [.int 1,g,k]⟩) rfl).mpr ?_
 (refine aab (propext (yl)) ?_;refine aab (if_pos rfl) ?_)
 rcases h with h | ⟨v,am,e,h⟩
 ·refine wz (kg ?_)
  refine qi (m:=(do let v <- ah "iterable";let vs <- (pure []:M (List V));pure (v::vs))) ?_
  simp only[qb,jc,yb,qd,qa,ki,aag,if_true,if_false,aal,exists_eq_left'];refine xj h λx aa e q=>?_
  try clear h
  rw[M.ap] at e
  cases u:jp [g] ⟨st,qd ["n", "iterable", "key"] [.int 1,g,k]⟩ with
  | stuck=>rw[u] at e;(injection e)
  | ok a b=>rw[u] at e;(injection e)
  | exc a b=>rw[u] at e;cases e;exact(gf x aa u q)
 ·refine nr ?_;simp only[qb,jc,yb,qd,qa,ki,aag,if_true,if_false,aal,exists_eq_left'];refine(gb e).mpr ?_;refine aab (propext (qe)) ?_
  exact⟨by first | rfl | trivial,h⟩
theorem KP{w g k:V}{st:jb}{x:Exc}{Q:Exc->S->Prop}(u:x.cls = "TypeError")(B:∀lo,dR [g] ⟨st,lo⟩ = .exc x ⟨st,lo⟩)(h:ME (ji LM) ⟨st,qd ["n", "iterable", "key"] [w,g,k]⟩ Q):ME (qp LM) ⟨st,qd ["n", "iterable", "key"] [w,g,k]⟩ Q:=by
 unfold qp
 refine nr (KG (x:=x) (aa:=⟨st,qd ["n", "iterable", "key"] [w,g,k]⟩) ?_ ?_)
 ·rw[p0 (v:=g) (by simp only[qd,aag,if_false,if_true]),B]
 ·refine(gb (a:=Fl.next) (aa:=⟨st,qd ["n", "iterable", "key"] [w,g,k]⟩) (by unfold nN;refine aab (if_pos u) ?_;rfl)).mpr ⟨by first | rfl | trivial,h⟩
theorem jc6{σ:S}{g k:V}{x:Exc}{Q:Exc->S->Prop}(B:σ.lo "iterable" = aac g)(hk:σ.lo "key" = aac k)(hi:jp [g] σ = .exc x σ)(q:Q x σ):ME (ji LM) σ Q:=by
 unfold ji
 have it:∀{r:M Fl},ME (aS (do let v <- (do let vs <- (do let v <- (ah "iterable");let vs <- (pure []:M (List V));pure (v::vs));jp vs);(λv=>aR "it" v) v;pure .next:M Fl) r) σ Q:=by
  intro r
  refine wz (kg (qi (m:=(do let v <- ah "iterable";let vs <- (pure []:M (List V));pure (v::vs))) ?_))
  simp only[qb,jc,yb,B,aal,exists_eq_left'];exact sH hi q
 by_cases u:k.isNone=true
 ·refine wz (qi (m:=(do let a <- ah "key";let b <- (pure V.none:M V);let c <- oA a b;bi c)) ?_)
  simp only[qb,jc,yb,hk,aal,exists_eq_left',zx,u,yl]
  first | rw[if_pos rfl] | rw[if_pos trivial]
  exact it
 ·refine nr ?_;simp only[qb,jc,yb,hk,aal,exists_eq_left',zx,yl]
  (refine aab (if_neg u) ?_;refine aab (propext (yb)) ?_)
  refine⟨by first | rfl | trivial,?_⟩
  unfold jz;exact it
theorem qdm{w:Int}{g k:V}{st:jb}(D:(∃i,g = .int i)\/g = .none):NE (.int w) g k st (λam=>am=st):=by
 have hit:∃x:Exc,x.cls = "TypeError" /\ ∀σ,jp [g] σ = .exc x σ:=by
  rcases D with⟨i,rfl⟩ | rfl
  ·exact(ja _ rfl (λB=>rfl))
  ·exact(ja _ rfl (λB=>rfl))
 have u:∃x:Exc,x.cls = "TypeError" /\ ∀σ,dR [g] σ = .exc x σ:=by
  rcases D with⟨i,rfl⟩ | rfl
  ·exact(ja _ rfl (λB=>rfl))
  ·exact(ja _ rfl (λB=>rfl))
 refine ya hit λx G hi=>?_
 try clear hit
 refine ya u λy J O=>?_
 try clear u
 refine NE.of ?_
 by_cases h1:w=1
 ·subst h1;exact QX (.inl (kg (sH (hi _) ⟨G,rfl⟩)))
 ·refine KO (λlo=>?_) (KP J (λlo=>O _) (jc6 (g:=g) (k:=k) (by simp only[qd,aag,if_false,if_true]) (by simp only[qd,aag,if_false,if_true]) (hi _) ⟨G,rfl⟩))
  refine gc (QD (σ:=⟨st,lo⟩) (a:=w) (b:=1) (f:=pure) (Q:=λv aa=>v = .bool false/\aa=⟨st,lo⟩) (yb.mpr ⟨by rw[decide_eq_false h1],rfl⟩)) λa aa e U W=>?_
  rw[M.ap] at e
  cases C:lp (.int w) (.int 1) ⟨st,lo⟩ with
  | stuck=>rw[C] at e;(injection e)
  | exc a b=>rw[C] at e;(injection e)
  | ok a b=>rw[C] at e;cases e;(refine aab U ?_;exact aab W rfl)
theorem wc6{w g k:V}{st:jb}{T:String}{rl gl:Nat}{ps:List Th}{sb:Bool}(hr:Row st rl ps)(B:∀lo,lp w (.int 1) ⟨st,lo⟩ = .ok (.bool false) ⟨st,lo⟩)(hk:js st w=aac T)(C:T ≠ "int")(O:tL st g rl gl sb):NE w g k st (λam=>am=st):=by
 have U:∀lo,ev w ⟨st,lo⟩ = .exc ⟨"TypeError",aae (DV (aaX T))⟩ ⟨st,lo⟩:=by
  intro lo;unfold ev;dsimp only;refine aab hk ?_;dsimp only;exact if_neg C
 refine NE.of (KO B ?_)
 rcases O with⟨rfl,rfl⟩ | ⟨rfl,rfl,W,D⟩
 ·unfold qp
  refine wz (QW (aa:=(⟨st,qd ["n", "iterable", "key"] [w,.obj rl,k]⟩ : S).put "size" (.int (a8 ps).length)) ?_ ?_)
  ·rw[p0 (v:= .obj rl) (by simp only[qd,aag,if_false,if_true])]
   unfold dR lG
   try dsimp only
   exact aab (show st[rl]?=_ from hr) rfl
  ·unfold xt
   refine kg (qi (m:=ah "n") (jc.mpr (ja w (by simp only[qa,qd,aag,if_false,if_true]) ?_)))
   refine qi (m:=ah "size") (jc.mpr (ja (.int (a8 ps).length) (by simp only[qa,if_true]) (kg ?_)))
   refine sH (e:=⟨"TypeError",aae (A4 (aaX T))⟩) (aa:=(⟨st,qd ["n", "iterable", "key"] [w,.obj rl,k]⟩ : S).put "size" (.int (a8 ps).length)) ?_ ⟨rfl,rfl⟩
   unfold sr;dsimp only
   refine aab (show js ((⟨st,qd ["n", "iterable", "key"] [w,.obj rl,k]⟩ : S).put "size" (.int (a8 ps).length)).st w=aac T from hk) ?_
   dsimp only;exact if_neg C
 ·refine KP (x:=⟨"TypeError",aae (ku (aaX "list_iterator"))⟩) rfl (λlo=>?_) ?_
  ·unfold dR lG
   try dsimp only
   exact aab D rfl
  ·have G:∀lo,jp [.obj gl] ⟨st,lo⟩ = .ok (.obj gl) ⟨st,lo⟩:=by
    intro lo;unfold jp lF;dsimp only;exact aab D rfl
   have rg:∀(u:S),u.st=st->u.lo "n" = aac w->ME (do let vs <- (do let v <- (pure (V.int 0):M V);let vs <- (do let v <- (do let a <- (ah "n");ev a);let vs <- (do let v <- (do let a <- (pure (V.int 1):M V);iM a);let vs <- (pure []:M (List V));pure (v::vs));pure (v::vs));pure (v::vs));ky vs) u (λe aa=>e.cls = "TypeError" /\ aa.st=st):=by
    intro u h1 h2;obtain⟨Y,lo⟩:=u
    (subst h1)
    refine kg (qi (m:=(pure (V.int 0):M V)) (yb.mpr (kg (kg (qi (m:=ah "n") (jc.mpr (ja w h2 ?_)))))))
    exact sH (U lo) ⟨rfl,rfl⟩
   unfold ji
   by_cases J:k.isNone=true
   ·refine wz (qi (m:=(do let a <- ah "key";let b <- (pure V.none:M V);let c <- oA a b;bi c)) ?_)
    simp only[qb,jc,yb,qd,aag,if_false,if_true,aal,exists_eq_left',zx,J,yl]
    first | rw[if_pos rfl] | rw[if_pos trivial] | skip
    refine nr ?_;simp only[qb,jc,yb,qd,aag,if_false,if_true,aal,exists_eq_left'];refine(gb (G _)).mpr ?_;refine aab (propext (qe)) ?_
    refine⟨by first | rfl | trivial,?_⟩
    unfold D3
    exact wz (kg (kg (kg (rg _ rfl (by simp only[qa,aag,if_false,if_true])))))
   ·refine nr ?_;simp only[qb,jc,yb,qd,aag,if_false,if_true,aal,exists_eq_left',zx,yl]
    (refine aab (if_neg J) ?_;refine aab (propext (yb)) ?_)
    refine⟨by first | rfl | trivial,?_⟩
    unfold jz;refine nr ?_;simp only[qb,jc,yb,qd,aag,if_false,if_true,aal,exists_eq_left'];refine(gb (G _)).mpr ?_;refine aab (propext (qe)) ?_
    refine⟨by first | rfl | trivial,?_⟩
    unfold yz
    exact wz (kg (kg (kg (rg _ rfl (by simp only[qa,aag,if_false,if_true])))))
theorem qc6{st:jb}{k:V}{T:String}(h:xi st k=aac T)(vs:List V)(lo:String->Option V):cU LM k vs ⟨st,lo⟩ = .exc (zz T) ⟨st,lo⟩:=by
 cases k with
 | int i=>(injection h with u;subst u);rfl
 | str x=>(injection h with u;subst u);rfl
 | obj l=>
  unfold xi at h;dsimp only at h;unfold cU;dsimp only
  cases B:st[l]? with
  | none=>rw[B] at h;(injection h)
  | some c=>
   rw[B] at h
   cases c with
   | lst us=>(injection h with u;subst u);rfl
   | _=>(injection h)
 | _=>(injection h)
theorem EA{st:jb}{k:V}{T:String}(h:xi st k=aac T):¬k.isNone=true/\AS k=true:=by
 cases k<;>first | exact⟨by decide,rfl⟩ | (cases h;done) | exact⟨λh=>(by(injection h)),rfl⟩
theorem EB{L:List Nat}{st am:jb}{k:V}{T:String}(h:xi st k=aac T)(x:aD L st am)(hL:∀l,k = .obj l->l∉L):xi am k=aac T:=by
 cases k with
 | obj l=>
  unfold xi at h ⊢;dsimp only at h ⊢
  cases u:st[l]? with
  | none=>rw[u] at h;(injection h)
  | some c=>rw[u] at h;refine aab (x.get u (hL l rfl)) ?_;exact h
 | _=>exact h
theorem kdm{nx:Nat->M (Option V)}{t:V->M Unit}{b:M Fl}{n i:Nat}{σ aa:S}{v:V}{Q:Exc->S->Prop}(h:nx i σ = .ok (aac v) aa)(k:MW (t v) aa (λu B=>ME b B Q)):ME (bo nx t b (n+1) i) σ Q:=by
 refine xj (qi (f:=λu=>b >>= og (bo nx t b n (i+1))) (k.mono λu B h=>kg h)) λe C D G=>?_
 exact(gf e C (by(refine aab (ML ..) ?_;refine aab h ?_);exact D) G)
theorem jcd{free:List String}{u:Nat->(Nat->M (Option V))->M Unit}{nx:Nat->M (Option V)}{σ:S}{Q:Exc->S->Prop}
  (h:ME (u σ.st.length nx) ⟨σ.st++[.lst []],xp free σ.lo⟩ (λe aa=>Q e ⟨aa.st,σ.lo⟩)):ME (yh free u nx) σ Q:=by
 refine xj h λe aa B C=>?_
 try clear h
 refine(gf e ⟨aa.st,σ.lo⟩ ?_ C);unfold yh;exact aab B rfl
structure kB(a9:jb)(l k0:Nat)(items:List V)(k:V)(T:String):Prop where
 hit:a9[l]?=aac (.aP k0 0 false)
 hk:a9[k0]?=aac (.lst items)
 l0:l≠0
 kl:k0≠l
 small:items.length<=1000
 bad:xi a9 k=aac T
theorem kB.ne{a9:jb}{l k0:Nat}{items:List V}{k:V}{T:String}(I:kB a9 l k0 items k T):∀j,k = .obj j->j∉[l]:=by
 rintro j rfl q
 rw[aan] at q;have:=I.bad;unfold xi at this;dsimp only at this;rw[q,I.hit] at this;(injection this)
theorem xdm{σ:S}{v k:V}{w:Int}{T:String}{a9:jb}{l k0:Nat}{items:List V}(U:jp [v] σ = .ok (.obj l) ⟨a9,σ.lo⟩)(I:kB a9 l k0 items k T)(W:σ.lo "iterable" = aac v)(Y:σ.lo "n" = aac (.int w))(D:σ.lo "key" = aac k)(Z:0<w)(aA:items≠[]):
  ME (ji LM) σ (λe aa=>e.cls = "TypeError" /\ aD [l] a9 aa.st/\aa.st[l]?=aac (.aP k0 1 false)):=by
 have ls:=jd I.hit;have hp:0<items.length:=ae3.mpr aA;unfold ji;refine nr ?_;simp only[qb,jc,yb,D,aal,exists_eq_left',zx,yl]
 (refine aab (if_neg (EA I.bad).1) ?_;refine aab (propext (yb)) ?_)
 refine⟨by first | rfl | trivial,?_⟩
 unfold jz;refine nr ?_;simp only[qb,jc,yb,W,aal,exists_eq_left'];refine(gb U).mpr ?_;refine aab (propext (qe)) ?_
 refine⟨by first | rfl | trivial,?_⟩
 unfold yz
 refine wz (kg (qi (m:=(do let r <- (do let vs <- (do let v <- (pure (V.int 0):M V);let vs <- (do let v <- (do let a <- (ah "n");ev a);let vs <- (do let v <- (do let a <- (pure (V.int 1):M V);iM a);let vs <- (pure []:M (List V));pure (v::vs));pure (v::vs));pure (v::vs));ky vs);let v <- (ah "it");nK r v)) ?_))
 have G:((⟨a9,σ.lo⟩ : S).put "it" (.obj l)).lo "n" = aac (.int w):=by simp only[qa,aag,if_false];exact Y
 have C:((⟨a9,σ.lo⟩ : S).put "it" (.obj l)).lo "it" = aac (.obj l):=by simp only[qa,if_true]
 have J:((⟨a9,σ.lo⟩ : S).put "it" (.obj l)).lo "key" = aac k:=by simp only[qa,aag,if_false];exact D
 have B:((⟨a9,σ.lo⟩ : S).put "it" (.obj l)).st=a9:=rfl
 generalize (⟨a9,σ.lo⟩ : S).put "it" (.obj l)=u at G C J B
 simp only[qb,jc,yb,pw,pP,G,C,aal,exists_eq_left']
 have er:ky [.int 0,.int (-w),.int (-1)]=pure (.ch 0 (-w) (-1)):=by
  show(if(-1:Int)≠0/\(-1:Int).natAbs<1000000 then pure (V.ch 0 (-w) (-1)) else stuck)=_
  rw[if_pos (by decide)]
 refine aab er ?_;simp only[yb];refine(ja _ C ?_)
 refine(gb (a:=gx 0 (-w) (-1) l) (aa:=u) (by simp only[nK,B,I.hit])).mpr ?_
 refine jcd ?_;unfold Px xw;refine kg ?_
 have b1:(u.st++[bn.lst []])[l]?=aac (.aP k0 0 false):=by rw[aas (by rw[B];exact ls),B];exact I.hit
 have b2:(u.st++[bn.lst []])[k0]?=aac (.lst items):=by rw[aas (by rw[B];exact jd I.hk),B];exact I.hk
 have en:gx 0 (-w) (-1) l 0 ⟨u.st++[bn.lst []],xp ["key"] u.lo⟩ = .ok (aac (.tup [.int 0,items[0]])) ⟨(u.st++[bn.lst []]).set l (.aP k0 1 false),xp ["key"] u.lo⟩:=by
  unfold gx
  rw[Ek,if_pos (by exact afH.mpr Z),sA (σ:=⟨u.st++[bn.lst []],xp ["key"] u.lo⟩) b1 b2 I.l0 hp]
  rfl
 refine kdm en ?_
 have O:aD [l] a9 ((u.st++[bn.lst []]).set l (.aP k0 1 false)):=by
  refine aab B ?_;exact(aD.app ..).setIn (by simp)
 show MW (qk 2 _ (.tup [.int 0,items[0]])) _ _
 (refine aab (propext (tK)) ?_;refine aab (propext (yk)) ?_;refine aab (propext (qe)) ?_;refine aab (propext (yk)) ?_;refine aab (propext (qe)) ?_;refine aab (propext (yb)) ?_)
 unfold zn;refine qi (yb.mpr ?_);show ME (JN LM u.st.length >>= _) _ _;refine kg ?_;unfold JN
 refine kg (kg (kg (qi (m:=ah "key") (jc.mpr (ja k ?_ ?_)))))
 ·simp only[qa,aag,if_false]
  show xp ["key"] u.lo "key" = _
  unfold xp
  rw[if_pos (by simp)];exact J
 ·refine qi (m:=mT k) ((gb (a:=()) rfl).mpr (qi (m:=ah "elem") (jc.mpr (ja (items[0]) (by simp only[qa,if_true]) ?_))))
  refine sH (aa:=⟨(u.st++[bn.lst []]).set l (.aP k0 1 false),_⟩) (qc6 (EB I.bad O I.ne) _ _) ⟨rfl,O,qh (jd b1)⟩
theorem kc6{σ:S}{v k:V}{w:Int}{T:String}{a9:jb}{l k0:Nat}{items:List V}(U:jp [v] σ = .ok (.obj l) ⟨a9,σ.lo⟩)(I:kB a9 l k0 items k T)(W:σ.lo "iterable" = aac v)(Y:σ.lo "n" = aac (.int w))(Z:σ.lo "key" = aac k)(hw:¬(0<w/\items≠[])):
  MW (ji LM) σ (λf aa => ∃d,i4 l a9 [] (.aP k0 0 d) f aa/\(d=true->items=[])):=by
 have ls:=jd I.hit
 have G:0=min w.toNat items.length:=by
  by_cases h:0<w
  ·have:items=[]:=by
    cases items with
    | nil=>rfl
    | cons a r=>exact absurd ⟨h,by simp⟩ hw
   refine aab this ?_;simp
  ·exact UY h
 unfold ji;refine zf ?_;simp only[qb,jc,yb,Z,aal,exists_eq_left',zx,yl]
 (refine aab (if_neg (EA I.bad).1) ?_;refine aab (propext (yb)) ?_)
 refine oV ?_;unfold jz;refine zf ?_;simp only[qb,jc,yb,W,aal,exists_eq_left'];refine(gb U).mpr ?_;refine aab (propext (qe)) ?_;refine oV ?_;unfold yz;refine zf ?_
 have J:((⟨a9,σ.lo⟩ : S).put "it" (.obj l)).lo "n" = aac (.int w):=by simp only[qa,aag,if_false];exact Y
 have C:((⟨a9,σ.lo⟩ : S).put "it" (.obj l)).lo "it" = aac (.obj l):=by simp only[qa,if_true]
 have u:((⟨a9,σ.lo⟩ : S).put "it" (.obj l)).st=a9:=rfl
 generalize (⟨a9,σ.lo⟩ : S).put "it" (.obj l)=B at J C u
 simp only[qb,jc,yb,pw,pP,J,C,aal,exists_eq_left']
 have er:ky [.int 0,.int (-w),.int (-1)]=pure (.ch 0 (-w) (-1)):=by
  show(if(-1:Int)≠0/\(-1:Int).natAbs<1000000 then pure (V.ch 0 (-w) (-1)) else stuck)=_
  rw[if_pos (by decide)]
 refine aab er ?_;simp only[yb];refine(ja _ C ?_)
 refine qb.mp (Ks (L:=[l]) false 0 (free:=["key"]) (t:=JM LM) (n:=4096) (N:=0) (λi v=>v) (λzZ zZ=>rfl) (by refine aab u ?_;exact I.hit) (by refine aab u ?_;exact I.hk) I.l0 I.kl G (by have:=I.small;exact CB this) (by have:=I.small;exact tZ this) ⟨by simp,λe=>by(injection e)⟩ (λe=>by(injection e)) (λi v hi=>absurd hi (Nat.not_lt_zero i)) ?_)
 intro am O D q3 _;rw[u] at O D;refine aab (propext (qe)) ?_;refine oV ?_;unfold D0;refine zf ?_
 have hr:((⟨am,B.lo⟩ : S).put "result" (.obj B.st.length)).lo "result" = aac (.obj B.st.length):=by simp only[qa,if_true]
 simp only[qb,jc,hr,aal,exists_eq_left']
 refine(IU (vs:=[]) (by show am[B.st.length]?=_;refine aab u ?_;exact D)).mpr ?_
 rw[yb,if_pos (by decide)]
 simp only[qb,jc,hr,aal,exists_eq_left',yb]
 refine(ja _ ⟨B.st.length,rfl,by refine aab u ?_;exact aaw _,by show am[B.st.length]?=_;refine aab u ?_;exact D,O,q3⟩ (λhd=>?_))
 have IK:items.length<w.toNat:=by simpa using hd
 exact abm (by exact UZ G IK)
theorem gdm{σ:S}{k:V}{T:String}{l k0:Nat}{items:List V}(I:kB σ.st l k0 items k T)(C:σ.lo "it" = aac (.obj l))(D:σ.lo "key" = aac k)(G:items≠[]):
  ME (kq LM) σ (λe aa=>e.cls = "TypeError" /\ aD [l] σ.st aa.st/\aa.st[l]?=aac (.aP k0 1 false)):=by
 have J:0<items.length:=ae3.mpr G;unfold kq;refine nr ?_;simp only[qb,jc,yb];refine(gb (a:=V.obj σ.st.length) (aa:=⟨σ.st++[bn.cX],σ.lo⟩) rfl).mpr ?_;refine aab (propext (qe)) ?_
 refine⟨by first | rfl | trivial,?_⟩
 unfold D4;have B:aD [l] σ.st (σ.st++[bn.cX]):=aD.app ..
 have u:(σ.st++[bn.cX])[l]?=aac (.aP k0 0 false):=by refine aab (aas (jd I.hit)) ?_;exact I.hit
 have O:(σ.st++[bn.cX])[k0]?=aac (.lst items):=by refine aab (aas (jd I.hk)) ?_;exact I.hk
 refine wz (kg (qi (m:=ah "it") (jc.mpr (ja _ (by simp only[qa,aag,if_false];exact C) ?_))))
 refine qi (m:=ah "sentinel") (jc.mpr (ja _ (by simp only[qa,if_true];rfl) ?_))
 refine qi (m:=ah "key") (jc.mpr (ja k (by simp only[qa,aag,if_false];exact D) ?_))
 refine sH (e:=zz T) (aa:=⟨(σ.st++[bn.cX]).set l (.aP k0 1 false),((⟨σ.st++[bn.cX],σ.lo⟩ : S).put "sentinel" (.obj σ.st.length)).lo⟩) ?_ ⟨rfl,B.setIn (by simp),qh (jd u)⟩
 unfold ik;dsimp only
 refine aab (show((⟨σ.st++[bn.cX],σ.lo⟩ : S).put "sentinel" (.obj σ.st.length)).st[l]?=_ from u) ?_
 dsimp only
 refine aab (show xi ((⟨σ.st++[bn.cX],σ.lo⟩ : S).put "sentinel" (.obj σ.st.length)).st k=aac T from EB I.bad B I.ne) ?_
 dsimp only;unfold Ad
 refine aab (sA (σ:=(⟨σ.st++[bn.cX],σ.lo⟩ : S).put "sentinel" (.obj σ.st.length)) u O I.l0 J) ?_
 rfl
theorem xc6{σ:S}{k:V}{T:String}{l k0:Nat}(I:kB σ.st l k0 [] k T)(J:σ.lo "it" = aac (.obj l))(O:σ.lo "key" = aac k):
  MW (kq LM) σ (i4 l σ.st [] (.aP k0 0 true)):=by
 unfold kq;refine zf ?_
 walk_at "mz"
 refine(gb (a:=V.obj σ.st.length) (aa:=⟨σ.st++[bn.cX],σ.lo⟩) rfl).mpr ?_
 walk_at "mz"
 walk_at "mz"
 have B:aD [l] σ.st (σ.st++[bn.cX]):=aD.app ..
 have u:(σ.st++[bn.cX])[l]?=aac (.aP k0 0 false):=by refine aab (aas (jd I.hit)) ?_;exact I.hit
 have D:(σ.st++[bn.cX])[k0]?=aac (.lst []):=by refine aab (aas (jd I.hk)) ?_;exact I.hk
 unfold D4;refine zf ?_
 walk_at "mz"
 have C:aD [l] σ.st ((σ.st++[bn.cX]).set l (.aP k0 0 true)):=B.setIn (by simp)
 have G:ik LM (.obj l) (.obj σ.st.length) k (⟨σ.st++[bn.cX],λy=>if y = "sentinel" then aac (V.obj σ.st.length) else σ.lo y⟩ : S) = .ok (.obj σ.st.length) ⟨(σ.st++[bn.cX]).set l (.aP k0 0 true),λy=>if y = "sentinel" then aac (V.obj σ.st.length) else σ.lo y⟩:=by
  unfold ik
  try dsimp only
  refine aab u ?_
  try dsimp only
  refine aab (EB I.bad B I.ne) ?_
  try dsimp only
  unfold Ad
  exact aab (gap (σ:=⟨σ.st++[bn.cX],λy=>if y = "sentinel" then aac (V.obj σ.st.length) else σ.lo y⟩) u D I.l0 (aaw _)) rfl
 refine(gb G).mpr ?_
 walk_at "mz"
 walk_at "mz"
 unfold JT
 walk_at "mz"
 refine(gb (a:=V.bool true) (by show Res.ok (V.bool (decide _)) _=_;exact aab (decide_eq_true rfl) rfl)).mpr ?_
 walk_at "mz"
 refine aab (if_pos rfl) ?_
 walk_at "mz"
 refine(IW (by simp)).mpr (rV ⟨((σ.st++[bn.cX]).set l (.aP k0 0 true)).length,rfl,C.1,aaq,C.trans (aD.app ..),?_⟩)
 show((σ.st++[bn.cX]).set l (.aP k0 0 true)++[bn.lst []])[l]?=_
 rw[aas (by rw[aaz];exact jd u)]
 exact qh (jd u)
theorem QZ{st:jb}{g k:V}{rl aq gl:Nat}{ps:List Th}{sb:Bool}{T:String}(h0:0<st.length)(hr:Row st rl ps)(G:ps.length<=50)(C:st[aq]?=aac (.lst []))(U:tL st g rl gl sb)(hk:xi st k=aac T):
  ∃l a9,(∀lo,jp [g] ⟨st,lo⟩ = .ok (.obj l) ⟨a9,lo⟩)/\kB a9 l rl (a8 ps) k T/\aD [] st a9/\
   ∀am tk j d,aD [l] a9 am->am[l]?=aac (.aP rl j d)->(d=false->j=tk)->(d=true->ps.length<=tk)->nR st am rl aq gl tk ps [] sb:=by
 rcases U with⟨rfl,rfl⟩ | ⟨rfl,rfl,W,u⟩
 ·have J:=jd hr;have D:aD [] st (st++[bn.aP rl 0 false]):=aD.app ..
  refine(wq st.length (st++[.aP rl 0 false]) (λlo=>?_) ⟨aaq,D.bD hr,by exact Cz J,by exact Ct J,by refine aab (xe ..) ?_;exact t0 G,EB hk D (λB B=>by simp)⟩ D (λam tk j d x B B B=>?_))
  ·unfold jp lF;dsimp only;exact aab (show st[rl]?=_ from hr) rfl
  ·have O:aD [] st am:=Ep x
   exact⟨(PV.of O).nil,O.bD C,λh=>by(injection h)⟩
 ·have Y:rl≠gl:=by rintro rfl;rw[show st[rl]?=_ from hr] at u;(exfalso;exact nomatch u)
  have Z:aq≠gl:=by rintro rfl;rw[u] at C;(exfalso;exact nomatch C)
  refine(wq gl st (λlo=>?_) ⟨u,hr,by exact Fa W,Y,by refine aab (xe ..) ?_;exact t0 G,hk⟩ (aD.refl ..) (λam tk j d x hx h1 h2=>?_))
  ·unfold jp lF;dsimp only;exact aab u rfl
  ·exact⟨(PV.but (PV.of x) u).nil,x.get C (by simpa using Z),λB=>(ke j d hx h1 h2)⟩
theorem xdr{w:Int}(h:w≠1)(σ:S):lp (.int w) (.int 1) σ = .ok (.bool false) σ:=by
 have u:lp (.int w) (.int 1) σ=eG (.int w) (.int 1) σ:=rfl;refine gc ((tI (σ:=σ) (a:=w) (b:=1) (Q:=λv aa=>v = .bool (decide (w=1))/\aa=σ)).mpr ⟨rfl,rfl⟩) λa aa e B C=>?_
 (refine aab u ?_;refine aab e ?_;refine aab B ?_;refine aab C ?_;exact aab (decide_eq_false h) rfl)
theorem zdn{st:jb}{g k:V}{rl aq gl:Nat}{ps:List Th}{sb:Bool}{T:String}{w:Int}(h0:0<st.length)(hr:Row st rl ps)(G:ps.length<=50)(J:st[aq]?=aac (.lst []))(B:tL st g rl gl sb)(hk:xi st k=aac T)(W:0<w)(Y:ps≠[]):
  NE (.int w) g k st (λam=>nR st am rl aq gl 1 ps [] sb):=by
 refine z8 (QZ h0 hr G J B hk) λl a9 hi I hp Z=>?_
 have C:a8 ps≠[]:=by intro q;exact Y (List.map_eq_nil_iff.mp q)
 have u:∀(e:Exc) (aa:S),(e.cls = "TypeError" /\ aD [l] a9 aa.st/\aa.st[l]?=aac (.aP rl 1 false))->e.cls = "TypeError" /\ nR st aa.st rl aq gl 1 ps [] sb:=λe aa ⟨q1,q2,q3⟩=>⟨q1,Z _ 1 1 false q2 q3 (λzZ=>rfl) (λh=>by(injection h))⟩
 refine NE.of ?_
 by_cases h1:w=1
 ·subst h1;refine QX (.inr (gf (.obj l) a9 (hi _) ?_))
  exact(gdm (σ:=(⟨a9,qd ["n", "iterable", "key"] [.int 1,g,k]⟩ : S).put "it" (.obj l)) I (by simp only[qa,if_true]) (by simp only[qa,qd,aag,if_false,if_true]) C).mono u
 ·refine KO (λlo=>?_) ?_
  ·exact xdr h1 _
  have O:∀σ:S,σ.st=st->σ.lo "iterable" = aac g->σ.lo "n" = aac (.int w)->σ.lo "key" = aac k->ME (ji LM) σ (λe aa=>e.cls = "TypeError" /\ nR st aa.st rl aq gl 1 ps [] sb):=by
   intro σ D e2 e3 e4;obtain⟨QY,lo⟩:=σ
   (subst D)
   exact(xdm (hi lo) I e2 e3 e4 W C).mono u
  have hD:=B
  rcases B with⟨rfl,rfl⟩ | ⟨rfl,rfl,lJ,hg⟩
  ·unfold qp
   by_cases U:(ps.length:Int)<=w
   ·refine wz (QW (aa:=(⟨st,qd ["n", "iterable", "key"] [.int w,.obj rl,k]⟩ : S).put "size" (.int (a8 ps).length)) ?_ ?_)
    ·rw[p0 (v:= .obj rl) (by simp only[qd,aag,if_false,if_true])]
     unfold dR lG
     try dsimp only
     exact aab (show st[rl]?=_ from hr) rfl
    ·unfold xt;refine qi ?_
     walk_at "mz"
     (refine aab (xe ..) ?_;refine aab (decide_eq_true U) ?_)
     refine aab (if_pos rfl) ?_
     refine kg (kg (qi (m:=ah "iterable") (jc.mpr (ja (.obj rl) (by simp only[qa,qd,aag,if_false,if_true]) ?_))))
     refine qi (m:=ah "key") (jc.mpr (ja k (by simp only[qa,qd,aag,if_false,if_true]) ?_))
     have hz:∀σ:S,σ.st=st->qx LM (.obj rl) k σ = .exc (zz T) σ:=by
      intro σ D;unfold qx
      try dsimp only
      rw[(EA hk).2,if_neg (by decide),D,show st[rl]?=_ from hr]
      try dsimp only
      have hb:DS st k (a8 ps)=aac T:=by
       cases ff:a8 ps with
       | nil=>exact absurd ff C
       | cons a r=>exact hk
      refine aab hb ?_
      try dsimp only
      rw[if_pos (by rw[xe];exact CC G)]
     exact sH (hz _ rfl) ⟨rfl,PV.refl ..,J,λh=>by(injection h)⟩
   ·refine nr (KE (aa:=(⟨st,qd ["n", "iterable", "key"] [.int w,.obj rl,k]⟩ : S).put "size" (.int (a8 ps).length)) ?_ ?_)
    ·rw[p0 (v:= .obj rl) (by simp only[qd,aag,if_false,if_true])]
     unfold dR lG
     try dsimp only
     exact aab (show st[rl]?=_ from hr) rfl
    ·unfold xt
     walk_at "mz"
     rw[xe,decide_eq_false U,if_neg (by decide)]
     walk_at "mz"
     refine⟨by first | rfl | trivial,O _ rfl ?_ ?_ ?_⟩<;>simp only[qa,qd,aag,if_false,if_true]
  ·refine KP (x:=⟨"TypeError",aae (ku (aaX "list_iterator"))⟩) rfl (λlo=>?_) (O _ rfl ?_ ?_ ?_)
   ·unfold dR lG
    try dsimp only
    exact aab hg rfl
   all_goals simp only[qd,aag,if_false,if_true]
theorem gc6{st:jb}{g k:V}{rl aq gl:Nat}{ps:List Th}{sb:Bool}{T:String}{w:Int}(h0:0<st.length)(hr:Row st rl ps)(hn:ps.length<=50)(O:st[aq]?=aac (.lst []))(U:tL st g rl gl sb)(hk:xi st k=aac T)(hw:¬(0<w/\ps≠[])):
  ∃r am,wj [.int w,g,k] st = .ok (.obj r) am/\Row am r []/\nR st am rl aq gl 0 ps [] sb:=by
 refine z8 (QZ h0 hr hn O U hk) λl a9 hi I hp hA=>?_
 have G:¬(0<w/\a8 ps≠[]):=λ⟨a,b⟩=>hw ⟨a,λq=>b (by refine aab q ?_;rfl)⟩
 have C:∀{f:Fl} {aa:S} {d:Bool},i4 l a9 [] (.aP rl 0 d) f aa->(d=true->a8 ps=[])->∃r,(match f with | .ret u=>u | _=>.none)=V.obj r/\Row aa.st r []/\nR st aa.st rl aq gl 0 ps [] sb:=by
  rintro f aa d ⟨r,rfl,h1,h2,h3,h4⟩ hd
  exact(je r rfl h2 (hA _ 0 0 d h3 h4 (λW=>rfl) (λe=>by have:=congrArg ajh (hd e);rw[xe] at this;exact abQ this)))
 obtain⟨v,am,e,r,rfl,h⟩:=tJ (params:=["n", "iterable", "key"]) (body:=xl LM) (vs:=[.int w,g,k]) (st:=st) (R:=λv am => ∃r,v = .obj r/\Row am r []/\nR st am rl aq gl 0 ps [] sb) rfl (by
  unfold xl;refine zf ?_
  walk_at "mz"
  by_cases h1:w=1
  ·subst h1
   (refine aab (decide_eq_true rfl) ?_;refine aab (if_pos rfl) ?_)
   walk_at "mz"
   refine(gb (hi _)).mpr ?_
   walk_at "mz"
   walk_at "mz"
   have D:a8 ps=[]:=by
    cases J:a8 ps with
    | nil=>rfl
    | cons a b=>exact absurd ⟨by decide,by refine aab J ?_;simp⟩ G
   have Y:=I;rw[D] at Y
   have:=xc6 (σ:=(⟨a9,qd ["n", "iterable", "key"] [.int 1,g,k]⟩ : S).put "it" (.obj l)) Y (by simp only[qa,if_true]) (by simp only[qa,qd,aag,if_false,if_true])
   refine this.mono λf aa h=>?_;have h2:=C (f:=f) (aa:=aa) (d:=true) h (λW=>D);refine ya h λr Cd W=>?_
   try clear h
   obtain rfl:=Cd;exact h2
  ·rw[decide_eq_false h1,if_neg (by decide)]
   walk_at "mz"
   have Z:∀σ:S,σ.st=st->σ.lo "iterable" = aac g->σ.lo "n" = aac (.int w)->σ.lo "key" = aac k->MW (ji LM) σ (λf aa => ∃r,(match f with | .ret u=>u | _=>.none)=V.obj r/\Row aa.st r []/\nR st aa.st rl aq gl 0 ps [] sb):=by
    intro σ e1 e2 e3 e4;obtain⟨QY,lo⟩:=σ
    (subst e1)
    refine(kc6 (hi lo) I e2 e3 e4 G).mono λf aa h=>?_;refine ya h ?_
    try clear h
    intro d h hd;exact C h hd
   unfold qp;refine zf ?_
   rcases U with⟨rfl,rfl⟩ | ⟨rfl,rfl,lJ,hg⟩
   ·refine KE (aa:=(⟨st,qd ["n", "iterable", "key"] [.int w,.obj rl,k]⟩ : S).put "size" (.int (a8 ps).length)) ?_ ?_
    ·rw[p0 (v:= .obj rl) (by simp only[qd,aag,if_false,if_true])]
     unfold dR lG
     try dsimp only
     exact aab (show st[rl]?=_ from hr) rfl
    ·unfold xt
     walk_at "mz"
     by_cases B:((a8 ps).length:Int)<=w
     ·(refine aab (decide_eq_true B) ?_;refine aab (if_pos rfl) ?_)
      walk_at "mz"
      have D:a8 ps=[]:=by
       cases J:a8 ps with
       | nil=>rfl
       | cons a b=>rw[J] at B G;exact absurd ⟨by simp only[abL] at B;exact U0 B,by simp⟩ G
      have cR:st[rl]?=aac (.lst []):=by rw[<- D];exact hr
      have es:∀lo,qx LM (.obj rl) k ⟨st,lo⟩ = .ok (.obj st.length) ⟨st++[.lst []],lo⟩:=by
       intro lo;unfold qx
       try dsimp only
       rw[(EA hk).2,if_neg (by decide),cR]
       rfl
      refine(gb (es _)).mpr ?_
      walk_at "mz"
      walk_at "mz"
      refine BH (vs:=[]) w.toNat (by exact aaq) (by rw[D] at B;simp at B;exact UG B) λk' am q1 q2 q3=>?_
      have x':aD [] st am:=(aD.app ..).trans q1
      exact rV ⟨k',rfl,by unfold Row;(refine aab q3 ?_;refine aab List.take_nil ?_);rfl,⟨(PV.of x').nil,x'.bD O,λh=>by(injection h)⟩⟩
     ·rw[decide_eq_false B,if_neg (by decide)]
      walk_at "mz"
      refine Z _ rfl ?_ ?_ ?_<;>simp only[qa,qd,aag,if_false,if_true]
   ·refine KG (x:=⟨"TypeError",aae (ku (aaX "list_iterator"))⟩) (aa:=⟨st,qd ["n", "iterable", "key"] [.int w,.obj gl,k]⟩) ?_ ?_
    ·rw[p0 (v:= .obj gl) (by simp only[qd,aag,if_false,if_true])]
     unfold dR lG
     try dsimp only
     exact aab hg rfl
    ·refine(gb (a:=Fl.next) (aa:=⟨st,qd ["n", "iterable", "key"] [.int w,.obj gl,k]⟩) (by unfold nN;refine aab (if_pos rfl) ?_;rfl)).mpr ?_
     try dsimp only
     refine Z _ rfl ?_ ?_ ?_<;>simp only[qd,aag,if_false,if_true])
 exact(gf r am (KN e) h)
structure nS(σ:S)(nl tl rl kl al:Nat)(y w f:Int)(sb:Bool)(k g:V):Prop where
 num:σ.lo "numbers" = aac (.obj nl)
 Ce:σ.lo "things" = aac (.obj tl)
 yy:σ.lo "y" = aac (.int y)
 lw:σ.lo "wish" = aac (.int w)
 fault:σ.lo "fault" = aac (.int f)
 stream:σ.lo "stream" = aac (.bool sb)
 row:σ.lo "row" = aac (.obj rl)
 kept:σ.lo "kept" = aac (.obj kl)
 asked:σ.lo "asked" = aac (.obj al)
 key:σ.lo "key" = aac k
 given:σ.lo "given" = aac g
theorem nS.put{σ:S}{nl tl rl kl al:Nat}{y w f:Int}{sb:Bool}{k g v:V}{x:String}(T:nS σ nl tl rl kl al y w f sb k g)(u:x = "told" \/ x = "taken"){am:jb}:nS ((⟨am,σ.lo⟩ : S).put x v) nl tl rl kl al y w f sb k g:=by
 rcases u with rfl | rfl<;>exact⟨T.num,T.Ce,T.yy,T.lw,T.fault,T.stream,T.row,T.kept,T.asked,T.key,T.given⟩
theorem ydn{σ:S}{gl rl j tk:Nat}{d:Bool}{ps:List Th}{Q:V->S->Prop}(Z:σ.lo "given" = aac (.obj gl))(hit:σ.st[gl]?=aac (.aP rl j d))(hr:Row σ.st rl ps)(J:gl≠0)(U:ps.length<=50)(h1:d=false->j=tk)(h2:d=true->ps.length<=tk)(W:tk<=ps.length)
  (q:∀k am,aD [gl] σ.st am->Row am k (ps.drop tk)->Q (.obj k) ⟨am,σ.lo⟩):MW ((do let v <- (ah "given");lm v) >>= yh [] J1) σ Q:=by
 have D:=jd hit
 have B9:rl≠gl:=by rintro rfl;rw[show σ.st[rl]?=_ from hr] at hit;(exfalso;exact nomatch hit)
 simp only[qb,jc,Z,aal,exists_eq_left']
 refine(gb (a:=λzZ=>qg gl) (aa:=σ) (by unfold lm;dsimp only;exact aab hit rfl)).mpr ?_
 refine QC ?_;unfold J1
 have base:∀{c:bn} {r:List V},((σ.st.set gl c)++[bn.lst r])[gl]?=aac c/\((σ.st.set gl c)++[bn.lst r])[rl]?=aac (.lst (a8 ps))/\((σ.st.set gl c)++[bn.lst r])[σ.st.length]?=aac (.lst r)/\aD [gl] σ.st ((σ.st.set gl c)++[bn.lst r]):=by
  intro c r;refine⟨?_,?_,?_,?_⟩
  ·rw[aas (by rw[aaz];exact D),qh D]
  ·rw[aas (by rw[aaz];exact jd hr),aau (aaR B9)];exact hr
  ·rw[<- aaz (as:=σ.st) (i:=gl) (a:=c)];exact aaq
  ·exact(aD.set (aan.mpr rfl)).trans (aD.app ..)
 cases d with
 | true=>
  have ht:tk=ps.length:=by have:=h2 rfl;exact Nat.le_antisymm W this
  refine Kp 0 (λi aa=>aa.st=σ.st.set gl (.aP rl j true)++[.lst []]) ?_ ?_ 4096 _ (by exact U1) (by show σ.st++_=_;exact aab (Em hit) rfl)
  ·intro aa u;refine kh (base (c:= .aP rl j true) (r:=[])) λb1 b2 B C=>?_;rw[<- u] at b1 b2 B C;refine(gb (Kq b1 J)).mpr ⟨rfl,q _ _ C ?_⟩;unfold Row
   (refine aab B ?_;refine aab ht ?_;refine aab List.drop_length ?_);rfl
  ·intro i aa hi;(exfalso;exact EP hi)
 | false=>
  have hj:j=tk:=h1 rfl;subst hj
  refine Kp (ps.length-j) (λi aa=>aa.st=σ.st.set gl (.aP rl (j+i) false)++[.lst (a8 ((ps.drop j).take i))]) ?_ ?_ 4096 _ (by exact U2 U) (by show σ.st++_=_;(refine aab (Nat.add_zero ..) ?_;refine aab (Em hit) ?_);rfl)
  ·intro aa u
   have ej:j+(ps.length-j)=ps.length:=by exact Nat.add_sub_of_le W
   rw[ej] at u;refine kh (base (c:= .aP rl ps.length false) (r:=a8 ((ps.drop j).take (ps.length-j)))) λb1 b2 B C=>?_;rw[<- u] at b1 b2 B C
   refine(gb (gap b1 b2 J (by refine aab (xe ..) ?_;exact aaw _))).mpr ⟨rfl,q _ _ (C.setIn (by simp)) ?_⟩
   unfold Row;show(aa.st.set gl _)[σ.st.length]?=_
   rw[aau (by exact Ct D),B,acO (by rw[adS];exact aaw _)]
  ·intro i aa hi u;refine kh (base (c:= .aP rl (j+i) false) (r:=a8 ((ps.drop j).take i))) λb1 b2 B C=>?_;rw[<- u] at b1 b2 B C
   have O:j+i<ps.length:=by exact Fg hi
   have hv:(a8 ps)[j+i]'(by refine aab (xe ..) ?_;exact O) = .obj ps[j+i].1:=by unfold a8;exact List.getElem_map ..
   refine(gb (sA b1 b2 J (by refine aab (xe ..) ?_;exact O))).mpr (ja _ rfl ?_)
   refine aab hv ?_;unfold PK PL PM
   (refine aab (propext (qe)) ?_;refine aab (propext (yb)) ?_;refine aab (if_pos rfl) ?_;refine aab (propext (qb)) ?_;refine aab (propext (jc)) ?_)
   refine(ja _ (by simp only[qa,if_true];rfl) ?_)
   have Y:aa.st.set gl (.aP rl (j+i+1) false)=σ.st.set gl (.aP rl (j+(i+1)) false)++[.lst (a8 ((ps.drop j).take i))]:=by
    rw[u,adV _ _ (by rw[aaz];exact D),acl];rfl
   refine Ei (vs:=a8 ((ps.drop j).take i)) (by show(aa.st.set gl _)[σ.st.length]?=_;refine aab Y ?_;exact(base (c:= .aP rl (j+(i+1)) false)).2.2.1) (by exact Cz D) (by(refine aab (xe ..) ?_;refine aab abM ?_;refine aab adS ?_);exact U3 U) ?_
   show(aa.st.set gl (.aP rl (j+i+1) false)).set σ.st.length _=_;refine aab Y ?_
   have ci:∀(A:jb) (c d:bn),(A++[c]).set A.length d=A++[d]:=λA c d=>by refine aab (aeG _ _ (aaw _)) ?_;simp
   have G:σ.st.length=(σ.st.set gl (.aP rl (j+(i+1)) false)).length:=(aaz ..).symm
   (refine aab G ?_;refine aab (ci ..) ?_;refine aab acg ?_;refine aab (ahp) ?_;refine aab (aav O) ?_;refine aab (Es ..) ?_)
   rfl
theorem Q0{σ:S}{nl tl rl kl al:Nat}{y w f:Int}{sb:Bool}{k g:V}{ps:List Th}(h0:0<σ.st.length)(L:nS σ nl tl rl kl al y w f sb k g)(hr:Row σ.st rl ps)(hk:Row σ.st kl ps)(C:ps.length<=50):
  MW J2 σ (λf aa=>f = .next/\aa.lo "numbers" = aac (.obj nl)/\aa.lo "things" = aac (.obj tl)/\PV [] σ.st aa.st):=by
 have D:=L.row;have G:=L.kept;unfold J2;refine wrap λJ B=>?_
 obtain⟨v,am,e,u,p⟩:=Eu h0 hr hk (by exact t0 C)
 refine B ?_;clear B J;obtain rfl:=u;simp only[qb,jc,yb,D,G,aal,exists_eq_left'];refine(zk e).mpr ?_;refine aab (propext (yl)) ?_
 show MW (if(!true)=true then _ else _) _ _
 rw[if_neg (by decide),yb]
 exact⟨rfl,L.num,L.Ce,PV.of p⟩
theorem keo{σ:S}{nl tl rl kl al gl tk:Nat}{y w f:Int}{sb:Bool}{k g:V}{ps:List Th}(h0:0<σ.st.length)(L:nS σ nl tl rl kl al y w f sb k g)(hr:Row σ.st rl ps)(hk:Row σ.st kl ps)(u:ps.length<=50)(Y:tk<=ps.length)(Z:σ.lo "taken" = aac (.int tk))
  (hg:sb=true->g = .obj gl/\gl≠0/\∃j d,σ.st[gl]?=aac (.aP rl j d)/\(d=false->j=tk)/\(d=true->ps.length<=tk)) :
  MW J3 σ (λf aa=>f = .next/\aa.lo "numbers" = aac (.obj nl)/\aa.lo "things" = aac (.obj tl)/\PV [] σ.st aa.st):=by
 have G:=L.stream;have l2:=L.kept;unfold J3;refine aab (propext (yp)) ?_
 cases sb with
 | false=>
  simp only[qb,jc,yb,G,aal,exists_eq_left',yl]
  rw[if_neg (by decide),yb,if_neg (by decide),yb]
  exact Q0 h0 L hr hk u
 | true=>
  refine wrap λG_ J=>?_;obtain⟨Gj,lJ,j,d,hit,h1,h2⟩:=hg rfl;refine J ?_;clear J G_
  have lg:σ.lo "given" = aac (.obj gl):=by rw[<- Gj];exact L.given
  (refine aab (propext (qb)) ?_;refine aab (propext (qb)) ?_;refine aab (propext (qb)) ?_;refine aab (propext (jc)) ?_)
  refine(ja _ G ?_)
  (refine aab (propext (yl)) ?_;refine aab (if_pos rfl) ?_;refine aab (propext (qb)) ?_;refine aab (propext (qb)) ?_;refine aab (propext (qb)) ?_;refine aab (propext (qb)) ?_;refine aab (propext (qb)) ?_)
  refine ydn lg hit hr lJ u h1 h2 Y λk1 O p1 r1=>?_
  have eV:kl≠gl:=by rintro rfl;rw[show σ.st[kl]?=_ from hk] at hit;(exfalso;exact nomatch hit)
  have jE:rl≠gl:=by rintro rfl;rw[show σ.st[rl]?=_ from hr] at hit;(exfalso;exact nomatch hit)
  have gZ:Row O kl ps:=p1.get hk (by simpa using eV)
  have AV:Row O rl ps:=p1.get hr (by simpa using jE)
  simp only[qb,jc,yb,l2,Z,aal,exists_eq_left']
  refine Qt tk (by exact gZ) rfl λk2 cg B q2 U=>?_
  rw[KI] at U
  have W:0<cg.length:=by have:=p1.1;have:=B.1;dsimp only at *;exact U4 h0 (by assumption) this
  obtain⟨v,am,e,rfl,p⟩:=Eu W (B.bD r1) U (by refine aab adS ?_;exact U5 u)
  refine(zk e).mpr ?_;refine aab (propext (yl)) ?_
  show MW (if(!true)=true then _ else _) _ _
  rw[if_neg (by decide),yb,if_neg (by decide),yb]
  dsimp only at B;have C:PV [] σ.st am:=(PV.but (PV.of p1) hit).trans (PV.of (B.trans p))
  have D:0<am.length:=by have:=p.1;exact pa W this
  refine(Q0 (σ:=⟨am,σ.lo⟩) D ⟨L.num,L.Ce,L.yy,L.lw,L.fault,L.stream,L.row,L.kept,L.asked,L.key,L.given⟩ (C.eB hr) (C.eB hk) u).mono λf aa h=>?_;exact⟨h.1,h.2.1,h.2.2.1,C.trans h.2.2.2⟩
theorem Q1{σ:S}{nl tl rl kl al gl tk:Nat}{y w f:Int}{sb:Bool}{k g:V}{ps:List Th}(h0:0<σ.st.length)(L:nS σ nl tl rl kl al y w f sb k g)(hr:Row σ.st rl ps)(hk:Row σ.st kl ps)(Z:ps.length<=50)(i6:tk<=ps.length)(gY:σ.lo "taken" = aac (.int tk))
  (ha:Row σ.st al (if f=0/\¬k.isNone=true then ps.take tk else[]))
  (hg:sb=true->g = .obj gl/\gl≠0/\∃j d,σ.st[gl]?=aac (.aP rl j d)/\(d=false->j=tk)/\(d=true->ps.length<=tk)) :
  MW J4 σ (λf aa=>f = .next/\aa.lo "numbers" = aac (.obj nl)/\aa.lo "things" = aac (.obj tl)/\PV [] σ.st aa.st):=by
 have l1:=L.asked;have l2:=L.fault;have l3:=L.key;have W:=L.row
 have D:∀k2 u,aD [] σ.st u->Row u k2 (if f=0/\¬k.isNone=true then ps.take tk else[])->MW (wg jq [.obj al,.obj k2]) ⟨u,σ.lo⟩ (λv aa=>MW (bi v) aa (λb G=>b=true/\G.lo=σ.lo/\aD [] σ.st G.st)):=by
  intro k2 u B C
  have Y:0<u.length:=by have:=B.1;exact pa h0 this
  have J:(if f=0/\¬k.isNone=true then ps.take tk else[]).length<=1000:=by
   split
   ·refine aab abM ?_;exact U6 Z
   ·exact aaL _
  refine gc (Eu Y (B.bD ha) C J) λv am e Cf p=>?_;obtain rfl:=Cf;refine(zk e).mpr ?_;refine aab (propext (yl)) ?_;exact⟨rfl,rfl,B.trans p⟩
 have go:MW (do let b <- (do let v <- (do let vs <- (do let v <- (ah "asked");let vs <- (do let v <- (do if(<- (do if(<- (do let a <- (ah "fault");let b <- (pure (V.int 0):M V);let c <- eG a b;bi c))=true then(do if(<- (do let a <- (ah "key");let b <- (pure V.none:M V);let c <- pj a b;bi c))=true then(pure true:M Bool) else pure false) else pure false))=true then(do let o <- (ah "row");let i <- (do let a <- (pure V.none:M V);let b <- (ah "taken");let c <- (pure V.none:M V);pure (a,b,c));zp o i) else(do let vs <- (pure []:M (List V));cB vs));let vs <- (pure []:M (List V));pure (v::vs));pure (v::vs));wg jq vs);bi v);pure (!b)) σ (λb aa=>b=false/\aa.lo=σ.lo/\aD [] σ.st aa.st):=by
  simp only[qb,jc,yb,l1,l2,l3,W,aal,exists_eq_left',tI,yl]
  by_cases U:f=0
  ·(refine aab (decide_eq_true U) ?_;refine aab (if_pos rfl) ?_)
   simp only[qb,jc,yb,l1,l2,l3,W,aal,exists_eq_left',Qr,yl]
   by_cases O:k.isNone=true
   ·rw[O,if_neg (by decide),yb,if_neg (by decide)]
    simp only[qb,jc,yb]
    refine jr (by simp) λk2 u B zZ C=>?_
    refine(D k2 u B (by refine aab (if_neg (λh=>h.2 O)) ?_;exact C)).mono λv aa h=>h.mono λb G h=>⟨by refine aab h.1 ?_;rfl,h.2⟩
   ·rw[Bool.not_eq_true] at O
    rw[O,if_pos (by decide),yb,if_pos rfl]
    simp only[qb,jc,yb,W,gY,aal,exists_eq_left']
    refine BH tk (by exact hr) rfl λk2 u B zZ C=>?_
    rw[Et] at C
    refine(D k2 u B (by refine aab (if_pos ⟨U,by rw[O];decide⟩) ?_;exact C)).mono λv aa h=>h.mono λb G h=>⟨by refine aab h.1 ?_;rfl,h.2⟩
  ·rw[decide_eq_false U,if_neg (by decide),yb,if_neg (by decide)]
   simp only[qb,jc,yb]
   refine jr (by simp) λk2 u B zZ C=>?_
   refine(D k2 u B (by refine aab (if_neg (λh=>U h.1)) ?_;exact C)).mono λv aa h=>h.mono λb G h=>⟨by refine aab h.1 ?_;rfl,h.2⟩
 unfold J4
 (refine aab (propext (yp)) ?_;refine aab (propext (qb)) ?_)
 refine go.mono λb aa h=>?_;refine y5 h λCg e1 p=>?_
 try clear h
 obtain rfl:=Cg
 rw[if_neg (by decide),yb]
 obtain⟨am,hD⟩:=aa
 cases e1
 dsimp only at p ⊢
 have Y:0<am.length:=by have:=p.1;exact pa h0 this
 refine(keo (σ:=⟨am,σ.lo⟩) (gl:=gl) (tk:=tk) Y ⟨L.num,L.Ce,L.yy,L.lw,L.fault,L.stream,L.row,L.kept,L.asked,L.key,L.given⟩ (p.bD hr) (p.bD hk) Z i6 gY (λh=>?_)).mono λf aa h=>⟨h.1,h.2.1,h.2.2.1,(PV.of p).trans h.2.2.2⟩;refine wrap λG_ aM=>?_;obtain⟨q1,q2,j,d,q3,q4⟩:=hg h;refine aM ?_;clear aM G_;exact(FX q1 q2 j d (p.bD q3) q4)
theorem xeo{σ:S}{nl tl rl kl al gl tk:Nat}{y w f:Int}{sb:Bool}{k g told:V}{ps:List Th}(h0:0<σ.st.length)(L:nS σ nl tl rl kl al y w f sb k g)(hr:Row σ.st rl ps)(hk:Row σ.st kl ps)(ht:gM σ.st ps)(J:ps.length<=50)(i6:tk<=ps.length)(u:σ.lo "taken" = aac (.int tk))(O:σ.lo "told" = aac told)
  (ha:Row σ.st al (if f=0/\¬k.isNone=true then ps.take tk else[]))
  (hg:sb=true->g = .obj gl/\gl≠0/\∃j d,σ.st[gl]?=aac (.aP rl j d)/\(d=false->j=tk)/\(d=true->ps.length<=tk))
  (B:(f=0\/(f=3/\tk=0))->∃r,told = .obj r/\Row σ.st r (jf (·.2) w.toNat ps)) (bad:¬(f=0\/(f=3/\tk=0))->told = .none) :
  MW m9 σ (λf aa=>f = .next/\aa.lo "numbers" = aac (.obj nl)/\aa.lo "things" = aac (.obj tl)/\PV [] σ.st aa.st):=by
 have Y:=L.fault;have l2:=L.lw;have l3:=L.row
 have cond:MW (do if(<- (do let a <- (ah "fault");let b <- (pure (V.int 0):M V);let c <- eG a b;bi c))=true then pure true else(do if(<- (do if(<- (do let a <- (ah "fault");let b <- (pure (V.int 3):M V);let c <- eG a b;bi c))=true then(do if(<- (do let a <- (ah "taken");let b <- (pure (V.int 0):M V);let c <- eG a b;bi c))=true then(pure true:M Bool) else pure false) else pure false))=true then pure true else(pure false:M Bool))) σ (λb aa=>b=decide (f=0\/(f=3/\tk=0))/\aa=σ):=by
  simp only[qb,jc,yb,Y,u,aal,exists_eq_left',tI,yl]
  by_cases U:f=0
  ·(refine aab (decide_eq_true U) ?_;refine aab (if_pos rfl) ?_;refine aab (propext (yb)) ?_)
   exact⟨by simp[U],rfl⟩
  ·rw[decide_eq_false U,if_neg (by decide)]
   simp only[qb,jc,yb,Y,u,aal,exists_eq_left',tI,yl]
   by_cases C:f=3
   ·(refine aab (decide_eq_true C) ?_;refine aab (if_pos rfl) ?_)
    simp only[qb,jc,yb,Y,u,aal,exists_eq_left',tI,yl]
    by_cases h3:(tk:Int)=0
    ·(refine aab (decide_eq_true h3) ?_;refine aab (if_pos rfl) ?_;refine aab (propext (yb)) ?_;refine aab (if_pos rfl) ?_;refine aab (propext (yb)) ?_)
     exact⟨by simp[C];exact afp.mp h3,rfl⟩
    ·rw[decide_eq_false h3,if_neg (by decide),yb,if_neg (by decide),yb]
     exact⟨by simp[C];exact U7 h3,rfl⟩
   ·rw[decide_eq_false C,if_neg (by decide),yb,if_neg (by decide),yb]
    exact⟨by simp[U,C],rfl⟩
 unfold m9
 (refine aab (propext (yp)) ?_;refine aab (propext (qb)) ?_)
 refine cond.mono λb aa h=>?_;refine ye h λhb Z=>?_
 try clear h
 (refine aab hb ?_;refine aab Z ?_)
 by_cases W:f=0\/(f=3/\tk=0)
 ·(refine aab (decide_eq_true W) ?_;refine aab (if_pos rfl) ?_)
  refine ya (B W) λr Ci JA=>?_;obtain rfl:=Ci;simp only[qb,jc,yb,O,aal,exists_eq_left',zx,yl]
  rw[show(V.obj r).isNone=false from rfl,if_neg (by decide)]
  simp only[qb,jc,yb,O,l2,l3,aal,exists_eq_left'];refine wrap λG_ D=>?_
  obtain⟨v,dX,e1,r1,hD,q1,x1,i1⟩:=weo (w:=w) h0 hr ht (by exact CC J)
  refine D ?_;clear D G_;obtain rfl:=hD;refine(zk e1).mpr ?_
  have kV:0<dX.length:=by have:=x1.1;exact pa h0 this
  obtain⟨v,cg,e2,rfl,p2⟩:=Eu kV (x1.eB JA) q1 (by refine aab (xu ..) ?_;exact U8 J)
  refine(zk e2).mpr ?_;refine aab (propext (yl)) ?_
  show MW (if(!true)=true then _ else _) _ _
  rw[if_neg (by decide),yb,if_neg (by decide),yb]
  dsimp only;have G:PV [] σ.st cg:=x1.trans (PV.of p2)
  have qA:0<cg.length:=by have:=G.1;exact pa h0 this
  refine(Q1 (σ:=⟨cg,σ.lo⟩) (gl:=gl) (tk:=tk) qA ⟨L.num,L.Ce,L.yy,L.lw,L.fault,L.stream,L.row,L.kept,L.asked,L.key,L.given⟩ (G.eB hr) (G.eB hk) J i6 u (G.eB ha) (λh=>?_)).mono λf aa h=>⟨h.1,h.2.1,h.2.2.1,G.trans h.2.2.2⟩;refine wrap λG_ D=>?_;obtain⟨q1,q2,j,d,q3,q4⟩:=hg h;refine D ?_;clear D G_;exact(FX q1 q2 j d (p2.bD (i1 _ _ _ _ q3)) q4)
 ·rw[decide_eq_false W,if_neg (by decide)]
  rw[bad W] at O;simp only[qb,jc,yb,O,aal,exists_eq_left',Qr,yl]
  rw[show(!V.none.isNone)=false from rfl,if_neg (by decide),yb]
  exact Q1 h0 L hr hk J i6 u ha hg
theorem jdn{σ:S}{Q:V->S->Prop}:MW m8 σ Q↔Q .gN σ:=by(refine aab Pm ?_;exact yb)
structure nT(st:jb)(rl kl al gl:Nat)(ps:List Th)(sb:Bool)(k g:V):Prop where
 h0:0<st.length
 row:Row st rl ps
 kept:Row st kl ps
 sI:gM st ps
 log:st[al]?=aac (.lst [])
 Cj:al≠0
 ra:rl≠al
 ka:kl≠al
 key:sF st k al
 o8:tL st g rl gl sb
 small:ps.length<=50
theorem nT.mono{st am:jb}{rl kl al gl:Nat}{ps:List Th}{sb:Bool}{k g:V}(C:nT st rl kl al gl ps sb k g)(p:aD [] st am):nT am rl kl al gl ps sb k g where
 h0:=by have:=p.1;have:=C.h0;exact pa this (by assumption)
 row:=p.bD C.row
 kept:=p.bD C.kept
 sI:=C.sI.mono (PV.of p)
 log:=p.bD C.log
 Cj:=C.Cj
 ra:=C.ra
 ka:=C.ka
 key:=by
  rcases C.key with h | ⟨ck,h1,h2⟩
  ·exact .inl h
  ·exact .inr (ja ck h1 (p.bD h2))
 o8:=by
  rcases C.o8 with h | ⟨h1,h2,h3,h4⟩
  ·exact .inl h
  ·exact .inr ⟨h1,h2,h3,p.bD h4⟩
 small:=C.small
noncomputable abbrev Fin(nl tl al:Nat)(st:jb)(f:Fl)(aa:S):Prop:=f = .next/\aa.lo "numbers" = aac (.obj nl)/\aa.lo "things" = aac (.obj tl)/\PV [al] st aa.st
theorem EE{u:S}{st:jb}{nl tl rl kl al gl tk:Nat}{y w f:Int}{sb:Bool}{k g told:V}{ps us:List Th}(L:nS u nl tl rl kl al y w f sb k g)(C:nT st rl kl al gl ps sb k g)(A:nR st u.st rl al gl tk ps us sb)(G:us=if f=0/\¬k.isNone=true then ps.take tk else[])(J:tk<=ps.length)
  (O:u.lo "taken" = aac (.int tk)) (U:u.lo "told" = aac told)
  (B:(f=0\/(f=3/\tk=0))->∃r,told = .obj r/\Row u.st r (jf (·.2) w.toNat ps)) (bad:¬(f=0\/(f=3/\tk=0))->told = .none) :
  MW m9 u (Fin nl tl al st):=by
 have W:∀p∈ps,p.1≠al:=tM C.sI C.log
 refine(xeo (gl:=gl) (tk:=tk) (by have:=A.pv.1;have:=C.h0;exact pa this (by assumption)) L (A.pv.lst (by simpa using C.ra) C.row) (A.pv.lst (by simpa using C.ka) C.kept) (λp D=>A.pv.lst (by simpa using W p D) (C.sI p D)) C.small J O U (by unfold Row;rw[<- G];exact A.log) (λh=>?_) B bad).mono λf aa h=>⟨h.1,h.2.1,h.2.2.1,A.pv.trans h.2.2.2.nil⟩
 rcases C.o8 with⟨q,_⟩ | ⟨_,Y,Z,_⟩
 ·rw[h] at q;(injection q)
 ·exact⟨Y,by exact Fa Z,A.it h⟩
theorem Q2{σ:S}{am st:jb}{nl tl rl kl al gl:Nat}{y w f:Int}{sb:Bool}{k g:V}{ps:List Th}(L:nS σ nl tl rl kl al y w f sb k g)(C:nT am rl kl al gl ps sb k g)(u:PV [al] st am)(B:f=1\/f=2)(D:σ.lo "taken" = aac (.int 0)):MW m9 ((⟨am,σ.lo⟩ : S).put "told" .none) (Fin nl tl al st):=by
 refine(EE (st:=am) (tk:=0) (gl:=gl) (us:=[]) (told:= .none) (L.put (.inl rfl)) C ⟨PV.refl ..,C.log,λh=>?_⟩ (by rw[if_neg (by(first | lia | omega))]) (aaL _) (by simp only[qa,aag,if_false];exact D) (by simp only[qa,if_true]) (λh=>by(exfalso;exact U9 h B)) (λG=>rfl)).mono λf aa h=>⟨h.1,h.2.1,h.2.2.1,u.trans h.2.2.2⟩
 rcases C.o8 with⟨q,_⟩ | ⟨_,_,_,q⟩
 ·rw[h] at q;(injection q)
 ·exact(ke 0 false q (λG=>rfl) (λh=>by(injection h)))
theorem wdn{st:jb}{a:Nat}(u:st[a]?=aac (.lst [.int 2])){v:V}(B:v = .none\/v = .str (aae "2")\/v = .obj a\/v = .tup [.int 2]\/v = .gN):(∀lo,lp v (.int 1) ⟨st,lo⟩ = .ok (.bool false) ⟨st,lo⟩)/\∃T,js st v=aac T/\T ≠ "int" :=by
 have key:∀(d:PyData) (lo:String->Option V),toD st 6 v=aac d->v≠.gN->abb d (.int 1)=false->lp v (.int 1) ⟨st,lo⟩ = .ok (.bool false) ⟨st,lo⟩:=by
  intro d lo h1 h2 h3
  have e:lp v (.int 1) ⟨st,lo⟩=eG v (.int 1) ⟨st,lo⟩:=by
   cases v<;>first | rfl | exact absurd rfl h2
  refine aab e ?_;unfold eG;dsimp only
  (refine aab h1 ?_;refine aab (show toD st 6 (.int 1)=aac (.int 1) from rfl) ?_)
  dsimp only;exact aab h3 rfl
 rcases B with rfl | rfl | rfl | rfl | rfl
 ·exact(wn (λlo=>key .none lo rfl (by simp) (by simp[abb])) _ rfl (by decide))
 ·exact(wn (λlo=>key (.str (aae "2")) lo (by unfold toD;dsimp only;rw[if_pos (by decide +kernel)]) (by simp) (by simp[abb])) _ rfl (by decide))
 ·refine(wn (λlo=>key (.list [.int 2]) lo ?_ (by simp) (by simp[abb])) ("list") ?_ (by decide))
  ·show(match st[a]? with | some (.lst vs)=>(bw (toD st 5) vs).map aet | _=>aam)=_
   refine aab u ?_;rfl
  ·unfold js;dsimp only;exact aab u rfl
 ·exact(wn (λlo=>key (.tuple [.int 2]) lo rfl (by simp) (by simp[abb])) _ rfl (by decide))
 ·exact(wn (λlo=>rfl) _ rfl (by decide))
theorem gdr{st:jb}{a:Nat}(u:st[a]?=aac (.lst [])){v:V}(B:v = .int 7\/v = .str (aae "k")\/v = .obj a):∃T,xi st v=aac T:=by
 rcases B with rfl | rfl | rfl
 ·exact⟨_,rfl⟩
 ·exact⟨_,rfl⟩
 ·exact⟨"list",by unfold xi;dsimp only;rw[u]⟩
theorem geo{σ:S}{nl tl rl kl al gl:Nat}{y w f:Int}{sb:Bool}{k g:V}{ps:List Th}(L:nS σ nl tl rl kl al y w f sb k g)(C:nT σ.st rl kl al gl ps sb k g)(hf:0<=f/\f<4)(gY:σ.lo "taken" = aac (.int 0)):MW J5 σ (Fin nl tl al σ.st):=by
 have l1:=L.fault;have l2:=L.yy;have l3:=L.given;have l4:=L.key;have l5:=L.lw;have l6:=L.row;unfold J5;refine zf ?_
 walk_at "mz"
 by_cases f1:f=1
 ·(refine aab (decide_eq_true f1) ?_;refine aab (if_pos rfl) ?_)
  have B:∀(v:V) (J:jb) (a:Nat),aD [] σ.st J->J[a]?=aac (.lst [.int 2])->(v = .none\/v = .str (aae "2")\/v = .obj a\/v = .tup [.int 2]\/v = .gN)->MW (wg wj [v,g,k]) ⟨J,σ.lo⟩ (λu aa=>MW m9 (aa.put "told" u) (Fin nl tl al σ.st)):=by
   intro v J a O ha U;have D:=C.mono O;refine uj (wdn ha U) λh1 T h2 h3=>?_;refine ya ((wc6 (g:=g) (k:=k) D.row h1 h2 h3 D.o8).call) λam e Ck=>?_;obtain rfl:=Ck;refine(zk e).mpr ?_;exact Q2 (σ:=σ) L D (PV.of O).nil (.inl f1) gY
  walk_at "mz"
  refine jr (by simp) λa dX p1 Y g1=>?_
  walk_at "mz"
  refine(px (vs:=[.int 2]) (by show 1<=_;exact Va)).mpr ?_
  walk_at "mz"
  refine jdn.mpr ?_
  walk_at "mz"
  refine jr (by simp) λb J O Y g2=>?_
  dsimp only at p1 O
  walk_at "mz"
  refine gy.mpr ⟨by exact Mi,?_⟩
  have h5:y%5=0\/y%5=1\/y%5=2\/y%5=3\/y%5=4:=by exact Vb
  have ga:=O.bD g1;have uh:=p1.trans O
  obtain⟨j,v,hj,U,hc⟩ : ∃j v,ix 5 (y%5)=aac j/\[V.none,.str (aae "2"),.obj a,.tup [.int 2],.gN][j]?=aac v/\(v = .none\/v = .str (aae "2")\/v = .obj a\/v = .tup [.int 2]\/v = .gN):=by
   rcases h5 with h | h | h | h | h<;>rw[h]
   ·exact(ke 0 _ rfl rfl (.inl rfl))
   ·exact(ke 1 _ rfl rfl (.inr (.inl rfl)))
   ·exact(ke 2 _ rfl rfl (.inr (.inr (.inl rfl))))
   ·exact(ke 3 _ rfl rfl (.inr (.inr (.inr (.inl rfl)))))
   ·exact(ke 4 _ rfl rfl (.inr (.inr (.inr (.inr rfl)))))
  refine qb.mpr ((zv (by exact g2) (by exact hj) (by exact U)).mpr ?_)
  walk_at "mz"
  refine(B v J a uh ga hc).mono λu aa h=>?_
  walk_at "mz"
  exact h
 rw[decide_eq_false f1,if_neg (by decide)]
 walk_at "mz"
 by_cases f2:f=2
 ·(refine aab (decide_eq_true f2) ?_;refine aab (if_pos rfl) ?_)
  have B:∀v:V,((∃i,v = .int i)\/v = .none)->MW (wg wj [.int w,v,k]) σ (λu aa=>MW m9 (aa.put "told" u) (Fin nl tl al σ.st)):=by
   intro v U;refine ya ((qdm (w:=w) (k:=k) (st:=σ.st) U).call) λam e Cm=>?_;obtain rfl:=Cm;refine(zk e).mpr ?_;exact Q2 (σ:=σ) L C (PV.refl ..) (.inr f2) gY
  walk_at "mz"
  refine gy.mpr ⟨by exact sO,?_⟩
  walk_at "mz"
  by_cases hy:y%2=1
  ·(refine aab (decide_eq_true hy) ?_;refine aab (if_pos rfl) ?_)
   walk_at "mz"
   refine(B _ (.inl ⟨_,rfl⟩)).mono λu aa h=>?_
   walk_at "mz"
   exact h
  ·rw[decide_eq_false hy,if_neg (by decide)]
   walk_at "mz"
   refine(B _ (.inr rfl)).mono λu aa h=>?_
   walk_at "mz"
   exact h
 rw[decide_eq_false f2,if_neg (by decide)]
 walk_at "mz"
 by_cases W:f=3
 ·(refine aab (decide_eq_true W) ?_;refine aab (if_pos rfl) ?_)
  refine zf ?_
  have B:∀(v:V) (J:jb) (a:Nat),aD [] σ.st J->J[a]?=aac (.lst [])->(v = .int 7\/v = .str (aae "k")\/v = .obj a)->MW (wg wj [.int w,g,v]) ⟨J,σ.lo⟩ (λu aa=>MW D6 (aa.put "told" u) (λf cz=>f = .next/\MW m9 cz (Fin nl tl al σ.st))):=by
   intro v J a O ha U;have D:=C.mono O;refine xc (gdr ha U) λT hT=>?_
   have cnt:∀(am:jb) (u:V) (tk:Nat),Row am rl ps->tk=(if 0<w/\ps≠[] then 1 else 0)->MW m9 (((⟨am,σ.lo⟩ : S).put "told" u).put "taken" (.int tk)) (Fin nl tl al σ.st)->MW D6 ((⟨am,σ.lo⟩ : S).put "told" u) (λf cz=>f = .next/\MW m9 cz (Fin nl tl al σ.st)):=by
    intro am u tk hr i6 h
    have m1:((⟨am,σ.lo⟩ : S).put "told" u).lo "wish" = aac (.int w):=by simp only[qa,aag,if_false];exact l5
    have m2:((⟨am,σ.lo⟩ : S).put "told" u).lo "row" = aac (.obj rl):=by simp only[qa,aag,if_false];exact l6
    have Z:((⟨am,σ.lo⟩ : S).put "told" u).st=am:=rfl
    generalize (⟨am,σ.lo⟩ : S).put "told" u=τ at m1 m2 Z h
    unfold D6
    walk_at "mz"
    by_cases G:0<w
    ·(refine aab (decide_eq_true G) ?_;refine aab (if_pos rfl) ?_)
     walk_at "mz"
     refine(oS (vs:=a8 ps) (by refine aab Z ?_;exact hr)).mpr ?_
     walk_at "mz"
     refine⟨rfl,?_⟩
     have e:(if((a8 ps).length:Int)<1 then((a8 ps).length:Int) else 1)=(tk:Int):=by
      (refine aab i6 ?_;refine aab (xe ..) ?_)
      cases ps with
      | nil=>simp
      | cons a r=>rw[if_neg (by simp only[abL];exact Vc),if_pos ⟨G,by simp⟩];rfl
     refine aab e ?_;exact h
    ·rw[decide_eq_false G,if_neg (by decide)]
     walk_at "mz"
     refine⟨rfl,?_⟩
     have e:(0:Int)=(tk:Int):=by(refine aab i6 ?_;refine aab (if_neg (λh=>G h.1)) ?_);rfl
     refine aab e ?_;exact h
   have EF:∀(am:jb),PV [al] J am->Row am rl ps:=λam x=>x.lst (by simpa using C.ra) D.row
   by_cases G:0<w/\ps≠[]
   ·refine ya ((zdn D.h0 D.row D.small D.log D.o8 hT G.1 G.2).call) λam e A=>?_;refine(zk e).mpr ?_
    refine cnt am .none 1 (EF _ A.pv) (by exact(if_pos G).symm) ?_
    refine(EE (st:=J) (tk:=1) (gl:=gl) (us:=[]) (told:= .none) ((L.put (v:= .none) (.inl rfl) (am:=am)).put (.inr rfl) (am:=am)) D A (by rw[if_neg (λh=>absurd (h.1.symm.trans W) (by decide))]) (ae3.mpr G.2) (by simp only[qa,if_true]) (by simp only[qa,aag,if_false,if_true]) (λh=>by(exfalso;exact Vd h W)) (λY=>rfl)).mono λf aa h=>⟨h.1,h.2.1,h.2.2.1,(PV.of O).nil.trans h.2.2.2⟩
   ·refine gc (gc6 D.h0 D.row D.small D.log D.o8 hT G) λr am e hr A=>?_;refine(zk e).mpr ?_
    refine cnt am (.obj r) 0 (EF _ A.pv) (by exact(if_neg G).symm) ?_
    have hD:jf (λp:Th=>p.2) w.toNat ps=[]:=by
     apply abm
     refine aab (xu ..) ?_
     by_cases h:0<w
     ·have:ps=[]:=by
       cases ps with
       | nil=>rfl
       | cons a r=>exact absurd ⟨h,by simp⟩ G
      refine aab this ?_;simp
     ·exact Ve h
    refine(EE (st:=J) (tk:=0) (gl:=gl) (us:=[]) (told:= .obj r) ((L.put (v:= .obj r) (.inl rfl) (am:=am)).put (.inr rfl) (am:=am)) D A (by rw[if_neg (λh=>absurd (h.1.symm.trans W) (by decide))]) (aaL _) (by simp only[qa,if_true]) (by simp only[qa,aag,if_false,if_true]) (λY=>(ja r rfl (by rw[hD];exact hr))) (λh=>by(exfalso;exact Vf W h))).mono λf aa h=>⟨h.1,h.2.1,h.2.2.1,(PV.of O).nil.trans h.2.2.2⟩
  walk_at "mz"
  refine jr (by simp) λa dX p1 Y g1=>?_
  walk_at "mz"
  refine jr (by simp) λb J O Y g2=>?_
  dsimp only at p1 O
  walk_at "mz"
  refine gy.mpr ⟨by exact L8,?_⟩
  have h5:y%3=0\/y%3=1\/y%3=2:=by exact Vg
  have ga:=O.bD g1;have uh:=p1.trans O
  obtain⟨j,v,hj,U,hc⟩ : ∃j v,ix 3 (y%3)=aac j/\[V.int 7,.str (aae "k"),.obj a][j]?=aac v/\(v = .int 7\/v = .str (aae "k")\/v = .obj a):=by
   rcases h5 with h | h | h<;>rw[h]
   ·exact(ke 0 _ rfl rfl (.inl rfl))
   ·exact(ke 1 _ rfl rfl (.inr (.inl rfl)))
   ·exact(ke 2 _ rfl rfl (.inr (.inr rfl)))
  refine qb.mpr ((zv (by exact g2) (by exact hj) (by exact U)).mpr ?_)
  walk_at "mz"
  refine(B v J a uh ga hc).mono λu aa h=>?_
  walk_at "mz"
  exact h.mono λf cz h=>by refine aab h.1 ?_;exact oV h.2
 rw[decide_eq_false W,if_neg (by decide)]
 have f0:f=0:=by exact Vh hf f1 f2 W
 refine zf ?_
 walk_at "mz"
 refine gc (kc0 (w:=w) C.h0 C.row C.sI C.small C.log C.Cj C.ra C.key C.o8) λr am e hr A=>?_;refine(zk e).mpr ?_
 walk_at "mz"
 have jE:Row am rl ps:=A.pv.lst (by simpa using C.ra) C.row
 have B:MW m9 (((⟨am,σ.lo⟩ : S).put "told" (.obj r)).put "taken" (.int ((if 0<w then ps.length else 0:Nat):Int))) (Fin nl tl al σ.st):=by
  refine EE (st:=σ.st) (tk:=if 0<w then ps.length else 0) (gl:=gl) (told:= .obj r) ((L.put (v:= .obj r) (.inl rfl) (am:=am)).put (.inr rfl) (am:=am)) C A ?_ (by split;exact aaw _;exact aaL _) (by simp only[qa,if_true]) (by simp only[qa,aag,if_false,if_true]) (λY=>(ja r rfl hr)) (λh=>absurd (.inl f0) h)
  by_cases hk:k.isNone=true
  ·(refine aab (if_pos hk) ?_;exact(if_neg (λh=>h.2 hk)).symm)
  ·refine aab (if_neg hk) ?_;exact(if_pos ⟨f0,hk⟩).symm
 have m1:((⟨am,σ.lo⟩ : S).put "told" (.obj r)).lo "wish" = aac (.int w):=by simp only[qa,aag,if_false];exact l5
 have m2:((⟨am,σ.lo⟩ : S).put "told" (.obj r)).lo "row" = aac (.obj rl):=by simp only[qa,aag,if_false];exact l6
 have Z:((⟨am,σ.lo⟩ : S).put "told" (.obj r)).st=am:=rfl
 generalize (⟨am,σ.lo⟩ : S).put "told" (.obj r)=τ at m1 m2 Z B
 unfold PN
 walk_at "mz"
 by_cases G:0<w
 ·(refine aab (decide_eq_true G) ?_;refine aab (if_pos rfl) ?_)
  rw[if_pos G] at B
  walk_at "mz"
  refine(oS (vs:=a8 ps) (by refine aab Z ?_;exact jE)).mpr ?_
  walk_at "mz"
  refine aab (xe ..) ?_;exact B
 ·rw[decide_eq_false G,if_neg (by decide)]
  rw[if_neg G] at B
  walk_at "mz"
  exact B
theorem Q3{σ:S}{x y:String}{v w:V}{Q:Unit->S->Prop}:MW (rM [x,y] (.tup [v,w])) σ Q↔Q () ((σ.put y w).put x v):=gb rfl
noncomputable abbrev sJ(nl tl:Nat)(st:jb)(f:Fl)(aa:S):Prop:=f = .next/\aa.lo "numbers" = aac (.obj nl)/\aa.lo "things" = aac (.obj tl)/\PV [] st aa.st
theorem zds{σ:S}{nl tl rl kl al:Nat}{y w f:Int}{sb:Bool}{k:V}{ps:List Th}(G:σ.lo "numbers" = aac (.obj nl))(J:σ.lo "things" = aac (.obj tl))(O:σ.lo "y" = aac (.int y))(U:σ.lo "wish" = aac (.int w))(W:σ.lo "fault" = aac (.int f))
  (Y:σ.lo "stream" = aac (.bool sb)) (Z:σ.lo "row" = aac (.obj rl)) (e8:σ.lo "kept" = aac (.obj kl)) (e9:σ.lo "asked" = aac (.obj al)) (B:σ.lo "key" = aac k)
  (C:nT σ.st rl kl al 0 ps false k (.obj rl)) (hf:0<=f/\f<4):MW D7 σ (Fin nl tl al σ.st):=by
 have D:∀(am:jb) (g:V) (gl:Nat),aD [] σ.st am->nT am rl kl al gl ps sb k g->MW J6 ((⟨am,σ.lo⟩ : S).put "given" g) (Fin nl tl al σ.st):=by
  intro am g gl p C2;unfold J6;refine zf ?_
  walk_at "mz"
  refine(geo (σ:=((⟨am,σ.lo⟩ : S).put "given" g).put "taken" (.int 0)) ⟨(by simp only[qa,aag,if_true,if_false];exact G),(by simp only[qa,aag,if_true,if_false];exact J),(by simp only[qa,aag,if_true,if_false];exact O),(by simp only[qa,aag,if_true,if_false];exact U),(by simp only[qa,aag,if_true,if_false];exact W),(by simp only[qa,aag,if_true,if_false];exact Y),(by simp only[qa,aag,if_true,if_false];exact Z),(by simp only[qa,aag,if_true,if_false];exact e8),(by simp only[qa,aag,if_true,if_false];exact e9),(by simp only[qa,aag,if_true,if_false];exact B),(by simp only[qa,aag,if_true,if_false])⟩ C2 hf (by simp only[qa,aag,if_true,if_false])).mono λf aa h=>⟨h.1,h.2.1,h.2.2.1,(PV.of p).nil.trans h.2.2.2⟩
 unfold D7;refine zf ?_
 walk_at "mz"
 cases sb with
 | true=>
  refine aab (if_pos rfl) ?_
  walk_at "mz"
  refine(gb (a:=V.obj σ.st.length) (aa:=⟨σ.st++[.aP rl 0 false],σ.lo⟩) (by unfold lF;dsimp only;exact aab (show σ.st[rl]?=_ from C.row) rfl)).mpr ?_
  walk_at "mz"
  have u:=C.mono (show aD [] σ.st (σ.st++[bn.aP rl 0 false]) from aD.app ..)
  exact D _ _ σ.st.length (aD.app ..) ⟨u.h0,u.row,u.kept,u.sI,u.log,u.Cj,u.ra,u.ka,u.key,.inr ⟨rfl,rfl,C.h0,aaq⟩,u.small⟩
 | false=>
  rw[if_neg (by decide)]
  walk_at "mz"
  exact D σ.st _ 0 (aD.refl ..) C
theorem yds{σ:S}{nl tl rl kl al:Nat}{x y w f:Int}{sb:Bool}{ps:List Th}(e0:σ.lo "x" = aac (.int x))(G:σ.lo "numbers" = aac (.obj nl))(J:σ.lo "things" = aac (.obj tl))(O:σ.lo "y" = aac (.int y))(U:σ.lo "wish" = aac (.int w))(W:σ.lo "fault" = aac (.int f))
  (Y:σ.lo "stream" = aac (.bool sb)) (Z:σ.lo "row" = aac (.obj rl)) (e8:σ.lo "kept" = aac (.obj kl)) (B:σ.lo "asked" = aac (.obj al)) (tab:σ.st[1]?=aac bn.tab)
  (C:nT σ.st rl kl al 0 ps false .none (.obj rl)) (hf:0<=f/\f<4):MW J7 σ (Fin nl tl al σ.st):=by
 have D:∀(am:jb) (k:V),aD [] σ.st am->nT am rl kl al 0 ps false k (.obj rl)->MW D7 ((⟨am,σ.lo⟩ : S).put "key" k) (Fin nl tl al σ.st):=by
  intro am k p C2
  refine(zds (σ:=(⟨am,σ.lo⟩ : S).put "key" k) (by simp only[qa,aag,if_true,if_false];exact G) (by simp only[qa,aag,if_true,if_false];exact J) (by simp only[qa,aag,if_true,if_false];exact O) (by simp only[qa,aag,if_true,if_false];exact U) (by simp only[qa,aag,if_true,if_false];exact W) (by simp only[qa,aag,if_true,if_false];exact Y) (by simp only[qa,aag,if_true,if_false];exact Z) (by simp only[qa,aag,if_true,if_false];exact e8) (by simp only[qa,aag,if_true,if_false];exact B) (by simp only[qa,aag,if_true,if_false]) C2 hf).mono λf aa h=>⟨h.1,h.2.1,h.2.2.1,(PV.of p).nil.trans h.2.2.2⟩
 unfold J7;refine zf ?_
 walk_at "mz"
 refine Dv.mpr ⟨by exact Vi,?_⟩
 walk_at "mz"
 refine gy.mpr ⟨by exact sO,?_⟩
 walk_at "mz"
 by_cases h:x / 16%2=1
 ·(refine aab (decide_eq_true h) ?_;refine aab (if_pos rfl) ?_)
  walk_at "mz"
  exact D σ.st _ (aD.refl ..) C
 ·rw[decide_eq_false h,if_neg (by decide)]
  refine IY ?_;refine(gb (a:=V.obj σ.st.length) (aa:=⟨σ.st++[.dD 0 [.obj al]],σ.lo⟩) ?_).mpr ?_
  ·unfold oW;refine aab tab ?_;dsimp only
   exact aab (show bw σ.lo ["asked"]=aac [.obj al] from MZ B rfl) rfl
  walk_at "mz"
  have u:=C.mono (show aD [] σ.st (σ.st++[bn.dD 0 [.obj al]]) from aD.app ..)
  exact D _ _ (aD.app ..) ⟨u.h0,u.row,u.kept,u.sI,u.log,u.Cj,u.ra,u.ka,.inr (ja _ rfl (aaq)),u.o8,u.small⟩
theorem jds{σ:S}{nl tl rl:Nat}{x y w f:Int}{sb:Bool}{ps:List Th}(W:σ.lo "x" = aac (.int x))(Y:σ.lo "numbers" = aac (.obj nl))(Z:σ.lo "things" = aac (.obj tl))(e3:σ.lo "y" = aac (.int y))(e4:σ.lo "wish" = aac (.int w))(e5:σ.lo "fault" = aac (.int f))
  (e6:σ.lo "stream" = aac (.bool sb)) (e7:σ.lo "row" = aac (.obj rl)) (tab:σ.st[1]?=aac bn.tab) (hr:Row σ.st rl ps) (ht:gM σ.st ps) (hn:ps.length<=50) (hf:0<=f/\f<4):MW J8 σ (sJ nl tl σ.st):=by
 unfold J8;refine zf ?_
 walk_at "mz"
 refine qdr (by exact hr) λkl dX p1 f1 J=>?_
 walk_at "mz"
 refine jr (by simp) λal u D B g2=>?_
 dsimp only at p1 f1 D B
 walk_at "mz"
 refine(px (by show 2<=_;exact t5)).mpr ?_
 refine qb.mpr (tK.mpr (yk.mpr (qe.mpr (yk.mpr (QQ.mpr ?_)))))
 walk_at "mz"
 have h1:=jd tab;have jE:=jd hr;have G:=jd J;have O:=p1.1;have C:PV [] σ.st (kr u):=(PV.of (p1.trans D)).trans (PV.kill u)
 refine(yds (σ:=((⟨u,σ.lo⟩ : S).put "kept" (.obj kl)).fA "asked" (.obj al)) (x:=x) (kl:=kl) (ps:=ps) (by simp only[zu,qa,aag,if_true,if_false];exact W) (by simp only[zu,qa,aag,if_true,if_false];exact Y) (by simp only[zu,qa,aag,if_true,if_false];exact Z) (by simp only[zu,qa,aag,if_true,if_false];exact e3) (by simp only[zu,qa,aag,if_true,if_false];exact e4) (by simp only[zu,qa,aag,if_true,if_false];exact e5) (by simp only[zu,qa,aag,if_true,if_false];exact e6) (by simp only[zu,qa,aag,if_true,if_false];exact e7) (by simp only[zu,qa,aag,if_true,if_false]) (by simp only[zu,if_true]) (C.sC tab)
  ⟨?_,C.eB hr,(PV.kill u).eB (D.bD J),ht.mono C,(PV.kill u).eB g2,by exact Um G B,by exact Uv jE O B,by exact Up G B,.inl rfl,.inl ⟨rfl,rfl⟩,hn⟩ hf).mono λf aa h=>⟨h.1,h.2.1,h.2.2.1,?_⟩
 ·show 0<(kr u).length;refine aab (gcc ..) ?_;have:=D.1;exact Ul G this
 ·have h4:PV [al] (kr u) aa.st:=h.2.2.2
  refine⟨aaB C.1 h4.1,λk c zZ U e=>h4.2 k c ?_ U (C.2 k c (by simp) U e)⟩
  have:=jd e;refine aab (propext (aan)) ?_;exact Vj this O B
theorem qdn{σ:S}{nl tl j:Nat}{nums:List Int}{T:List Th}(e1:σ.lo "numbers" = aac (.obj nl))(e2:σ.lo "things" = aac (.obj tl))(e3:σ.lo "j" = aac (.int j))(tab:σ.st[1]?=aac bn.tab)(C:σ.st[nl]?=aac (.lst (nums.map V.int)))
  (hr:Row σ.st tl T) (G:gM σ.st T) (D:j+1<nums.length):MW Ka σ (sJ nl tl σ.st):=by
 obtain⟨x,hx⟩ : ∃x,nums[j]?=aac x:=⟨_,aav (by exact ahH D)⟩
 obtain⟨y,hy⟩ : ∃y,nums[j+1]?=aac y:=⟨_,aav D⟩;unfold Ka;refine zf ?_
 walk_at "mz"
 refine(zv (v:= .int x) (j:=j) (by exact C) (by rw[oR,if_pos (by rw[aaP];exact ahH D)]) (by(refine aab (abE) ?_;refine aab hx ?_);rfl)).mpr ?_
 walk_at "mz"
 refine(zv (v:= .int y) (j:=j+1) (by exact C) (by rw[show(j:Int)+1=((j+1:Nat):Int) by exact Me,oR,if_pos (by rw[aaP];exact D)]) (by(refine aab (abE) ?_;refine aab hy ?_);rfl)).mpr ?_
 walk_at "mz"
 refine(px (by show 2<=_;exact t5)).mpr ?_
 refine qb.mpr (Q3.mpr ?_)
 walk_at "mz"
 have J:((σ.put "y" (.int y)).put "x" (.int x)).lo "x" = aac (.int x):=(by simp only[qa,aag,if_true,if_false])
 have O:((σ.put "y" (.int y)).put "x" (.int x)).lo "y" = aac (.int y):=(by simp only[qa,aag,if_true,if_false])
 have U:((σ.put "y" (.int y)).put "x" (.int x)).lo "numbers" = aac (.obj nl):=(by simp only[qa,aag,if_true,if_false];exact e1)
 have W:((σ.put "y" (.int y)).put "x" (.int x)).lo "things" = aac (.obj tl):=(by simp only[qa,aag,if_true,if_false];exact e2)
 have Y:((σ.put "y" (.int y)).put "x" (.int x)).lo "j" = aac (.int j):=(by simp only[qa,aag,if_true,if_false];exact e3)
 have Z:((σ.put "y" (.int y)).put "x" (.int x)).st=σ.st:=rfl
 generalize (σ.put "y" (.int y)).put "x" (.int x)=u at J O U W Y Z
 obtain⟨st,lo1⟩:=σ;dsimp only at Z tab C hr G ⊢;subst Z;clear e1 e2 e3;unfold PP;refine zf ?_
 walk_at "mz"
 refine gy.mpr ⟨by exact L9,?_⟩
 walk_at "mz"
 refine Dv.mpr ⟨by exact L9,?_⟩
 walk_at "mz"
 refine gy.mpr ⟨by exact sO,?_⟩
 walk_at "mz"
 refine(px (by show 2<=_;exact t5)).mpr ?_
 refine qb.mpr (Q3.mpr ?_)
 walk_at "mz"
 generalize decide (x / 4%2=1)=sb
 have hf:0<=x%4/\x%4<4:=by exact Vk
 generalize x%4=f at hf
 unfold PO;refine zf ?_
 have b1:((u.put "stream" (.bool sb)).put "fault" (.int f)).lo "x" = aac (.int x):=(by simp only[qa,aag,if_true,if_false];exact J)
 have b2:((u.put "stream" (.bool sb)).put "fault" (.int f)).lo "y" = aac (.int y):=(by simp only[qa,aag,if_true,if_false];exact O)
 have b3:((u.put "stream" (.bool sb)).put "fault" (.int f)).lo "numbers" = aac (.obj nl):=(by simp only[qa,aag,if_true,if_false];exact U)
 have b4:((u.put "stream" (.bool sb)).put "fault" (.int f)).lo "things" = aac (.obj tl):=(by simp only[qa,aag,if_true,if_false];exact W)
 have b5:((u.put "stream" (.bool sb)).put "fault" (.int f)).lo "j" = aac (.int j):=(by simp only[qa,aag,if_true,if_false];exact Y)
 have b6:((u.put "stream" (.bool sb)).put "fault" (.int f)).st=u.st:=rfl
 have b7:((u.put "stream" (.bool sb)).put "fault" (.int f)).lo "stream" = aac (.bool sb):=(by simp only[qa,aag,if_true,if_false])
 have b8:((u.put "stream" (.bool sb)).put "fault" (.int f)).lo "fault" = aac (.int f):=(by simp only[qa,aag,if_true,if_false])
 generalize (u.put "stream" (.bool sb)).put "fault" (.int f)=B at b1 b2 b3 b4 b5 b6 b7 b8
 obtain⟨st,hD⟩:=u;dsimp only at b6 tab C hr G ⊢;subst b6;clear J O U W Y
 have go:∀w:Int,MW J9 (B.put "wish" (.int w)) (sJ nl tl B.st):=by
  intro w
  have c5:(B.put "wish" (.int w)).lo "j" = aac (.int j):=(by simp only[qa,aag,if_true,if_false];exact b5)
  have c4:(B.put "wish" (.int w)).lo "things" = aac (.obj tl):=(by simp only[qa,aag,if_true,if_false];exact b4)
  unfold J9;refine zf ?_
  walk_at "mz"
  refine gy.mpr ⟨by exact Mi,?_⟩
  walk_at "mz"
  refine wdr (j+1) (j+1+(j+2)%5) (by exact hr) (by exact Me) (by exact Vl) λrl dX p1 f1 g1=>?_
  dsimp only[ki] at p1 f1
  walk_at "mz"
  rw[KI,Et] at g1
  refine(jds (σ:=(⟨dX,(B.put "wish" (.int w)).lo⟩ : S).put "row" (.obj rl)) (rl:=rl) (x:=x) (y:=y) (w:=w) (f:=f) (sb:=sb) (by simp only[qa,aag,if_true,if_false];exact b1) (by simp only[qa,aag,if_true,if_false];exact b3) (by simp only[qa,aag,if_true,if_false];exact b4) (by simp only[qa,aag,if_true,if_false];exact b2) (by simp only[qa,aag,if_true,if_false]) (by simp only[qa,aag,if_true,if_false];exact b8) (by simp only[qa,aag,if_true,if_false];exact b7) (by simp only[qa,aag,if_true,if_false]) (p1.bD tab) g1 ?_ ?_ hf).mono λf aa h=>⟨h.1,h.2.1,h.2.2.1,(PV.of p1).trans h.2.2.2⟩
  ·exact λp hp=>p1.bD (G p (List.mem_of_mem_drop (ac6 hp)))
  ·refine aab abM ?_;exact Vm
 walk_at "mz"
 refine Dv.mpr ⟨by exact Vn,?_⟩
 walk_at "mz"
 refine gy.mpr ⟨by exact sO,?_⟩
 walk_at "mz"
 by_cases h:x / 8%2=1
 ·(refine aab (decide_eq_true h) ?_;refine aab (if_pos rfl) ?_)
  walk_at "mz"
  exact go y
 ·rw[decide_eq_false h,if_neg (by decide)]
  walk_at "mz"
  refine gy.mpr ⟨by exact UE,?_⟩
  walk_at "mz"
  exact go _
theorem yc1{σ:S}{nl:Nat}{nums:List Int}{Q:V->S->Prop}(B:σ.st[nl]?=aac (.lst (nums.map V.int)))(O:nums.length<=100)(h0:0<σ.st.length)
  (q:∀k am T,aD [] σ.st am->Row am k T->gM am T->T.length=nums.length->Q (.obj k) ⟨am,σ.lo⟩):MW (jn [] Kb (.obj nl)) σ Q:=by
 have kC:=jd B
 refine Qv (BL (by exact B)) ?_
 unfold Kb
 have keep:∀{am:jb},σ.st.length<am.length/\pO σ.st am->aD [] σ.st am:=λh=>⟨by(first | lia | omega),λk hk zZ=>h.2 k hk⟩
 refine Qu nums.length (λi aa => ∃T:List Th,T.length=i/\Row aa.st σ.st.length T/\gM aa.st T/\(∀p∈T,p.1≠σ.st.length)/\σ.st.length<aa.st.length/\pO σ.st aa.st) ?_ ?_ 4096 _ (by exact LY O)
  ⟨[],rfl,aaq,(λp h=>by(exfalso;exact nomatch h)),(λp h=>by(exfalso;exact nomatch h)),by refine aab abT ?_;exact ab4 _,λk hk=>aas hk⟩
 ·rintro aa ⟨T,C,r,t,_,h1,h2⟩
  refine⟨by rw[sz (by exact(keep ⟨h1,h2⟩).bD B) aa _ (λk hk=>rfl),abR (by refine aab (aaP ..) ?_;exact aaw _)],q _ _ T (keep ⟨h1,h2⟩) r t C⟩
 ·rintro i aa hi ⟨T,C,r,t,U,h1,h2⟩
  refine(ja (.int nums[i]) (by rw[sz (by exact(keep ⟨h1,h2⟩).bD B) aa _ (λk hk=>rfl),abE,aav hi];rfl) ?_)
  unfold PS PT PU
  (refine aab (propext (qe)) ?_;refine aab (propext (yb)) ?_;refine aab (if_pos rfl) ?_)
  have W:(aa.put "x" (.int nums[i])).lo "x" = aac (.int nums[i]):=(by simp only[qa,aag,if_true,if_false])
  have G:(aa.put "x" (.int nums[i])).st=aa.st:=rfl
  generalize aa.put "x" (.int nums[i])=τ at W G
  generalize nums[i]=x at W
  rw[<- G] at r t h1 h2;clear G
  have Y:∀a:Int,MW (cB [.int a]) τ (λv aa=>MW (yn σ.st.length v) aa (λzZ D => ∃T:List Th,T.length=i+1/\Row D.st σ.st.length T/\gM D.st T/\(∀p∈T,p.1≠σ.st.length)/\σ.st.length<D.st.length/\pO σ.st D.st)):=by
   intro a
   refine jr (by simp) λk u p1 Z g1=>?_
   refine Ei (vs:=a8 T) (by exact p1.bD r) (by exact Cz kC) (by refine aab (xe ..) ?_;exact Vo C hi O) ?_
   have iL:=p1.1
   refine(qr (T++[(k,a)]) (by(refine aab abT ?_;refine aab C ?_);rfl) ?_ ?_ ?_ ?_ ?_)
   ·show(u.set σ.st.length _)[σ.st.length]?=_
    rw[qh (by exact nY h1 iL),Es];rfl
   ·intro p hp
    have:p.1≠σ.st.length/\u[p.1]?=aac (.lst [.int p.2]):=by
     rcases abd.mp hp with hp | hp
     ·exact⟨U p hp,p1.bD (t p hp)⟩
     ·refine aab (aan.mp hp) ?_;exact⟨by show k≠_;exact Fc h1 Z,g1⟩
    show(u.set σ.st.length _)[p.1]?=_;refine aab (aau (aaR this.1)) ?_;exact this.2
   ·intro p hp
    rcases abd.mp hp with hp | hp
    ·exact U p hp
    ·refine aab (aan.mp hp) ?_;show k≠_;exact Fc h1 Z
   ·show _<(u.set _ _).length;refine aab aaz ?_;exact nY h1 iL
   ·intro j J;show(u.set σ.st.length _)[j]?=_
    rw[aau (by exact ahf J),p1.2 j (by exact hM J h1) (by simp)]
    exact h2 j J
  walk_at "mz"
  refine gy.mpr ⟨by exact sO,?_⟩
  walk_at "mz"
  by_cases h:x%2=1
  ·(refine aab (decide_eq_true h) ?_;refine aab (if_pos rfl) ?_)
   walk_at "mz"
   exact Y _
  ·rw[decide_eq_false h,if_neg (by decide)]
   walk_at "mz"
   refine gy.mpr ⟨by exact L8,?_⟩
   walk_at "mz"
   exact Y _
theorem nu(ns:List Int)(u:ns.length<=63):∃am,Bo [.obj 0] [.lst (ns.map .int),.tab] = .ok (.bool true) am/\am[1]?=aac bn.tab:=by
 suffices h:∃v am,Bo [.obj 0] [.lst (ns.map .int),.tab] = .ok v am/\v = .bool true/\am[1]?=aac bn.tab by
  obtain⟨v,am,e,rfl,h⟩:=h;exact(ja am e h)
 unfold Bo
 refine tJ (params:=["script"]) (vs:=[.obj 0]) (R:=λv am=>v = .bool true/\am[1]?=aac bn.tab) (by rfl) ?_
 unfold Kc;refine aab (propext (yp)) ?_;simp only[qb,jc,yb,qd,aag,if_true,if_false,aal,exists_eq_left']
 refine jr (by simp) λk1 G p1 f1 g1=>?_
 have g0:G[0]?=aac (.lst (ns.map V.int)):=p1.bD rfl;have gt:G[1]?=aac bn.tab:=p1.bD rfl
 refine Kk (by exact g0) (by exact g1) (by simp;exact Vp u) λnl B J f2 g2=>?_
 dsimp only at J f2
 generalize O:ns++[4,3,2,7,1,8]=nums
 have U:B[nl]?=aac (.lst (nums.map V.int)):=by(refine aab g2 ?_;rewrite[<- O];refine aab acy ?_);rfl
 have C:nums.length=ns.length+6:=by rw[<- O];simp
 refine aab (propext (qe)) ?_;have W:B[1]?=aac bn.tab:=J.bD gt;unfold PX;refine aab (propext (yp)) ?_;simp only[qb,jc,yb,qa,ki,aag,if_true,if_false,aal,exists_eq_left']
 refine yc1 (by exact U) (by exact Vq C u) (by have:=jd W;show 0<B.length;exact Uo this) λtl QS T D r3 t3 hT=>?_
 dsimp only[ki] at D;refine aab (propext (qe)) ?_;have Y:=D.bD U;have Z:=D.bD W;unfold PW;refine aab (propext (yp)) ?_;simp only[qb,jc,yb,qa,ki,aag,if_true,if_false,aal,exists_eq_left']
 refine(oS (by exact Y)).mpr ?_
 simp only[Xz,pq,yb];refine aab (aaP ..) ?_
 refine(gb (Qx (QB (by exact L6) (by exact Vr C u) (by exact L7)))).mpr ?_
 refine Dw (nums.length-1) (λi σ=>σ.lo "numbers" = aac (.obj nl)/\σ.lo "things" = aac (.obj tl)/\PV [] QS σ.st) ?_ ?_ 4096 0 _ (aaL _) (by exact Vs C u) ⟨(by simp only[qa,aag,if_true,if_false]),(by simp only[qa,aag,if_true,if_false]),PV.refl ..⟩
 ·rintro σ ⟨l1,l2,x⟩
  refine⟨by rw[Kn (a:=0) (b:=(nums.length:Int)-1) (n:=nums.length-1) σ _ (by exact Mj),abR (by simp)],?_⟩
  dsimp only;unfold PR;simp only[qb,yb];exact⟨trivial,x.sC Z⟩
 ·rintro i σ hi ⟨l1,l2,x⟩
  refine(ja (.int i) (by rw[Kn (a:=0) (b:=(nums.length:Int)-1) (n:=nums.length-1) σ _ (by exact Mj)];simp[hi]) ?_)
  unfold PQ;refine aab (propext (qe)) ?_
  refine(qdn (σ:=σ.put "j" (.int i)) (nl:=nl) (tl:=tl) (j:=i) (nums:=nums) (T:=T) (by simp only[qa,aag,if_true,if_false];exact l1) (by simp only[qa,aag,if_true,if_false];exact l2) (by simp only[qa,aag,if_true,if_false]) (x.sC Z) (x.eB Y) (x.eB r3) (t3.mono x) (by exact Nat.add_lt_of_lt_sub hi)).mono λf aa h=>?_
  refine aab h.1 ?_;exact⟨h.2.1,h.2.2.1,x.trans h.2.2.2⟩
noncomputable def vw:aa0:=view adN [0,1,2,3,4,5,6,7,8,9,10]
noncomputable abbrev lo:List Str:=[aae "nlargest"]
theorem left:LeftO adN vw lo (λs=>xlAt vw [] s&&recOk (PySem.Challenge.rw_dm0136_11.row.toRowW.records) s) (Hook.obs Hook.none) (Hook.val Hook.none) 3000:=λw=>by
 kernel_rfl
theorem kdn{p q:aa0}(e:abF p=abF q):∀d∈abF p,d∈abF q:=e▸λu h=>h
theorem zc7{p q:aa0}(e:ad0 p=ad0 q):∀d∈ad0 p,d∈ad0 q:=e▸λu h=>h
theorem kR:∀d∈abF gK,d∈abF vw:=kdn (by kernel_rfl)
theorem nv:∀d∈ad0 gK,d∈ad0 vw:=zc7 (by kernel_rfl)
theorem lx:Be∈abF vw:=kR _ (abn.mpr ⟨7,by kernel_rfl⟩)
end Mine
open PySem PySem.W PyProof.Rows
set_option Elab.async false
set_option maxRecDepth 100000
set_option maxHeartbeats 8000000
theorem PySem.Challenge.cw_dm0136_11_holds : PySem.Challenge.rw_dm0136_11.Holds := by
 refine holds_law (by kernel_rfl) fun said => ?_
 refine holds_open (q := Mine.vw) (loose := Mine.lo) (Xt := fun s => xlAt Mine.vw [] s && recOk (RowW.records PySem.Challenge.rw_dm0136_11.row.toRowW) s) (XP := XL Mine.vw []) (Yf := Hook.obs Hook.none) (Ya := Hook.val Hook.none) (YP := Hook.says Hook.none) (N := 3000) Mine.left (Hook.of Hook.none) (Hook.keeps Hook.none) (fun s e => xl_of s (Bool.and_eq_true_iff.mp e).1) XL.keeps (by rfl) (by rfl) (by rfl) (fun s e => recFacts_of (Bool.and_eq_true_iff.mp e).2) (by rfl) (by first | assumption | decide +kernel) (by decide +kernel) ⟨rfl, rfl, rfl, rfl, rfl, by decide +kernel⟩ ?hw ?hc
 case hw => w_witness2
 intro w s₀ af mg mb G Y fa o pm cd doc dV kV ho hd GH hD vT hg args vals as gP KS hrd CY nP
 refine Ground.open G ?_
 intro T B D TE TW
 wrow_args gP KS hrd CY nP
 rename_i ns _ _ _ _ _ _ _ l _ _ _ _ w1 _ _ _ hn _
 have KU : mg (Str.ofString "law") = some (.ref fa) := vT
 clear hD GH hd ho vT B TE TW G Y
 refine enter_call ?_
 obtain ⟨vs, hL, hI⟩ := Mine.iP w1
 have HH : ns.length ≤ 63 := by omega
 obtain ⟨am, jO, ed⟩ := Mine.nu ns HH
 refine Mine.oK T D Mine.lx hg (bz := Mine.bz) (cY := Mine.cY) (fun K e1 e2 e3 e4 e5 => Mine.o5 (K := K) ?_ ?_ ?_ e5 e4 e3) (by decide) KU hL hI HH jO ed ?_ ?_
 ·refine Eq.substr e1 ?_; exact Mine.kR
 ·refine Eq.substr e1 ?_; exact Mine.nv
 ·intro x hx
  refine Eq.substr e2 ?_
  show mg (Str.ofString x) = none
  simp only [Mine.bF, List.mem_cons, List.not_mem_nil, or_false] at hx
  rcases hx with rfl | rfl | rfl | rfl | rfl | rfl | rfl | rfl | rfl | rfl | rfl <;> exact T.free _ (by decide +kernel) (by decide +kernel) (by decide +kernel) (by decide +kernel) (by decide +kernel)
 ·exact raisesW_false (by wrow_none_raised)
 ·wrow_post
