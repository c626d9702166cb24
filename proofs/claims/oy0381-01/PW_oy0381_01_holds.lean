import PyProof.Rows.All
import Wide.All
import OpenK.AllK
import Wide.FinOn
import PySem.Challenge.RW_oy0381_01
set_option Elab.async false
set_option maxRecDepth 1000000
set_option maxHeartbeats 0
set_option linter.unusedVariables false
set_option linter.all false
set_option genSizeOf false
set_option genSizeOfSpec false
set_option bootstrap.genMatcherCode false
set_option tactic.hygienic false
namespace Mine
open And renaming intro→iL
open Array renaming getD→lu,getElem?_eq_getElem→oy,eraseIdxIfInBounds→oS,perm_iff_toList_perm→pf,getD_eq_getD_getElem?→qw,mem_toList_iff→rq
open Bool renaming false_eq_true→cG,or_eq_true→cZ,and_eq_true→eI,and_eq_true_iff→eJ,false_ne_true→l6,and_true→nz,or_eq_false_iff→nV,eq_false_iff→oI,not_eq_true'→qN,false_and→rC
open ForInStep renaming yield→qp
open Function renaming comp_def→j9
open Int renaming le_trans→aY,le_of_lt→bI,le_refl→fw,mul_le_mul→fR,ofNat→gV,le_antisymm→iu,fmod_nonneg_of_pos→iD,ofNat_lt→iO,add_le_add_left→iQ,mul_add→iR,mul_assoc→iT,ofNat_le→iU,le_of_eq→iW,fmod_lt_of_pos→je,lt_of_le_of_lt→jw,toNat_of_nonneg→jy,add_comm→jH,not_lt→jR,toNat_natCast→kq,add_mul→kB,sub_sub→kK,mul_comm→kP,neg_le_neg_iff→lW,toNat→mh,add_nonneg→ml,pow_succ→mr,mul_one→oj,lt_trans→oC,toNat_sub→oU,max_eq_right→oV,fdiv_eq_ediv_of_nonneg→oZ,le_add_of_nonneg_right→pd,natCast_nonneg→qb,ofNat_sub→qc,natAbs_of_nonneg→qf,natAbs_natCast→qo,add_sub_cancel→qy,add_le_add→qK,toNat_lt→qT,fmod_eq_emod_of_nonneg→rz
open LT renaming lt→dM
open List renaming append_assoc→ak,getElem?_set_self→az,mem_cons→aA,mem_map→aE,getElem?_set_ne→aF,length_append→aI,getElem?_append_right→aK,length_map→aM,length_set→aP,getElem?_eq_getElem→aQ,getElem?_append_left→aR,length_cons→aS,mem_singleton→aU,map_map→aX,mem_cons_self→aZ,mem_cons_of_mem→ba,range→bq,getElem?_map→bu,mem_of_getElem?→bx,map_cons→bD,not_mem_nil→bH,getElem?_eq_none_iff→bM,set_set→bQ,mem_append→bV,set_append_right→bY,size_toArray→bZ,nodup_cons→cq,set_append_left→cA,pairwise_iff_getElem→cK,append_nil→cO,getElem?_eq_some_iff→cQ,length_nil→cS,mem_range→dc,zip_cons_cons→dx,toArray→dD,mem_filter→dE,map_append→dF,length_take→dO,map_id→dW,mem_map_of_mem→dZ,all_eq_true→d0,lookup_cons→eg,drop_eq_getElem_cons→ez,getElem_mem→eL,length→eZ,getElem?_eq_none→e9,mem_append_left→fb,drop_zero→fh,foldl_cons→fN,getElem?_take_of_lt→fW,mem_iff_getElem?→gj,getD_eq_getElem?_getD→gB,pairwise_cons→gE,prefix_append→gF,nil_append→gG,countP_cons→gJ,filter_eq_self→gM,map_congr_left→gN,forIn_cons→gP,find?_cons→gQ,length_drop→gY,lookup→gZ,take_succ_cons→hH,length_singleton→hZ,prefix_refl→il,drop_drop→ip,mem_flatMap→iB,getElem?_zip_eq_some→iS,forIn_nil→i7,any_cons→jd,mem_append_right→jf,length_range→ji,range_succ→jl,take_add_one→ju,drop_left→jv,nodup_range→jD,take_length→jE,of_mem_zip→jG,ext_getElem?→jK,map→jM,nil_prefix→jU,eq_of_mem_replicate→jZ,eq_nil_of_length_eq_zero→j7,drop_eq_nil_of_le→ki,length_pos_iff→ky,pairwise_append→kU,perm_append_singleton→k9,set_getElem_self→lh,mem_of_mem_erase→lq,pairwise_map→lQ,getElem?_drop→l5,nodup_nil→l9,pairwise_singleton→me,filter_map→mf,foldl_append→mv,head?_eq_getElem?→mz,take_sublist→mC,getElem?_range→mP,prefix_concat_iff→mX,drop_length→m5,lt_irrefl→nk,flatMap_cons→nq,Pairwise→nu,set_comm→nD,length_filter_le→nJ,take_prefix→nX,take_of_length_le→oE,filter_cons→oJ,getElem?_dropLast→oM,filter_append→oQ,length_erase_of_mem→oX,zipIdx_nil→pC,not_lt→pE,zipIdx_cons→pG,prefix_of_prefix_length_le→pI,lookup_append→pN,sum_cons→pP,reverse_cons→pV,cons_beq_cons→pZ,eraseIdx_length_sub_one→qd,prefix_nil→qk,any_eq_true→qu,mem_reverse→qC,cons_append→qE,getElem?_set→qJ,take_left→qQ,getLast?_eq_some_getLast→qR,perm_cons_erase→qS,length_eraseIdx→qU,getElem?_of_mem→qZ,headD_cons→rf,replicate→rj,mem_filterMap→rm,eq_nil_or_concat→ry
open List.Pairwise renaming nil→mw
open List.Perm renaming refl→eP,pairwise_iff→jC,swap→jJ
open Nat renaming le_trans→aj,le_refl→ar,ne_of_lt→ax,lt_of_lt_of_le→aC,le_of_eq→aJ,le_of_lt→bp,ne_of_gt→br,lt_succ_self→bB,le_of_not_lt→bC,not_lt→bG,lt_succ_of_lt→bJ,zero_le→bK,lt_of_le_of_lt→bN,le_succ→bX,le_add_right→cp,add_le_add_left→cx,mul_le_mul_left→cy,add_right_comm→cR,le_of_lt_succ→de,sub_lt→dh,lt_trans→dj,lt_of_not_le→dB,one_pos→dC,add_sub_cancel'→dG,succ_le_succ→dP,sub_le→dS,sub_self→eO,add_le_add_right→eQ,beq→eW,min_le_left→eY,lt_irrefl→ff,not_lt_of_le→fm,add_le_add→fu,sub_add_cancel→fA,lt_of_lt_of_eq→fD,add_comm→fH,lt_succ_of_le→fK,add→fY,lt_of_le_of_ne→gw,le_antisymm→ir,le_mul_of_pos_left→iM,le_pred_of_lt→jk,le_of_sub_eq_zero→jQ,min_le_right→jT,sub_le_of_le_add→jW,sub_sub→j5,le_add_left→j8,cast→kj,lt_trichotomy→kZ,sub_pos_of_lt→l0,div_lt_of_lt_mul→md,succ_ne_zero→mu,le_succ_of_le→mA,add_le_of_le_sub'→nv,div_le_self→n8,le_of_not_le→oq,sub_lt_sub_right→oG,add_lt_add_right→ph,add_left_cancel→pn,mul_succ→pH,pos_of_ne_zero→pO,lt_of_sub_pos→ql,not_le_of_lt→qn,sub_eq_zero_of_le→qz,pow_le_pow_right→qG,add_lt_add_left→qL,succ_pos→q9,add_assoc→rd,min_eq_right→rg,le_total→rk,min_eq_left→rn
open Nat.succ renaming inj→nh
open Ne renaming symm→aq
open Option renaming map_eq_some_iff→ig,bind_eq_some_iff→mS
open Option.some renaming inj→ay,injEq→iK
open Prod.mk renaming injEq→rD
open PyProof.Rows renaming seqObj→bh,pickNums→ef,tail_any→fJ,MethodCall_→fU,spliced_more→f5,assignInOrder_cons→gq,spliced_none→hM,Subscript_→hY,size_push'→jx,assignInOrder_nil→lp,evalArgs_nil3→lr,add_str→ma,assign_Tuple→mx,eqBool_str→n9,gt_int→pD,lt_str→pJ,lt_int→rB
open PyProof.Rows.SortSt renaming mk'→rx
open PySem renaming Value→aa,wpAny_bind→ab,Shared→af,wpAny→ag,model→ah,wpAny_pure→ai,Around→au,World→aw,Program→aD,execs→aG,Params→aL,Scope→aO,Builtin→aT,starEach→aV,NameKind→aW,strValues→bc,codeAny→bA,backTo→bE,callEnv→bF,callEnvC→bO,rawInt→bP,OsState→bR,pyNext→cf,IsPair→cg,standAt→cj,DictEntry→cB,again→cC,sizeLine_eq→cD,wpAny_holding→cH,CmpOp→cI,strKind→cJ,assign→cL,wpAny_field→cT,mem_upTo→cU,Operator→cV,sizeLine→cX,FuncData→da,wpAny_call→dg,wpAny_mono→dm,wpAny_standAt→dq,Model→dv,swapsWith→dw,IsZip→dy,wpAny_call_entry→dA,bindArgs→dH,Source→dJ,mainGlobals→dK,compareOp→dQ,Result→dR,getMethod→dT,cellsFrom→dU,bindL→dX,Setting→dY,holding→eh,treeTable→et,field→ey,codeAny_of_tree→eN,wpAny_seqItems→fa,numsOf→fc,wpAny_callSpecial?_slot→fg,wpAny_rule→fj,callWith→fk,nsFind→fx,wpAny_newObj_type→fy,getItem→fz,compEnvC→fC,codeAny_builtin→fE,getAttr→fG,compTurn→fL,argsOk→fM,foldedSetIterable→fP,builtinsNs→fQ,wpAny_Constant_str→fS,wpAny_of_eq→fZ,letOwnedTupleGo→f6,subscripted→gc,sysModules→gi,binaryOp→gn,wpAny_isInstance→gx,wpAny_loadName_local→gy,partValue→gA,operate→gC,compPost→gD,noteFrame→gH,wpAny_Name→gI,theTreesLotGoes→gK,newExc→gL,firstArgMember→gO,isSubtype_type→gR,wpAny_noted→gT,specialOf→gU,entryFor→hV,wpAny_pyIter_list→ie,wpAny_specialOf→iw,codeAny_call_def→ix,backToKw→iz,Comprehension→iA,spliced→iC,wpAny_Return_some→iG,wpAny_letGo→iH,BindsTo→iI,updateSeq→iJ,callAny→iN,ZipApart→iP,entryFor_of_fast→iV,inplaceOp→iY,wpAny_newTuple→i8,wpAny_setField_rec→ja,wpAny_newList→jb,slot_listiter_next→jh,keywordEach→jm,wpAny_setField→jq,wpAny_updateSeq→jr,wpAny_onRaise→jB,newTuple→jF,evalPart_none→jP,isSubtype→jV,wpAny_If→jY,wpAny_alloc→j0,recursionLimit→kc,behindInMarks→kg,wpAny_attempt→kr,wpAny_Slice→kH,slot_list_getitem→kJ,plainId_quiet→kO,entryFor_of_tree→kY,wpAny_getItem_list_slice→k7,isSubtype_stop→ly,wpAny_execs_nil→lG,wpAny_load→lK,call_meets→lY,wpAny_Assign_Name→l7,comprehension→mi,firstIterPos→mj,closureFor→mm,isInstance→mq,typeLookup_type→mF,wpAny_comprehension_free→mO,assignEach→mQ,typeIs_str→m8,wpAny_throw→m9,wpAny_BinOp→nj,wpAny_handled→nr,builtinLookup_eq_fast→om,codeAny_call_cells→ox,wpAny_isOneOf_valiter→oK,wpAny_isTrue_Compare1→oT,getMethod_builtin→pF,slot_list_setitem→pK,codeAny_call_builtin_code→pX,wpAny_truthy_bool→qg,wpAny_assign_Name→qh,wpAny_pyIter_values→qq,checkBuiltinCall→qr,type_list_append→qt,entry_listiter_next→qx,slot_list_append→qB,wpAny_updateSeq_pair→qD,wpAny_newFunctionEnv→qI,wpAny_pyIter_listiter→qV,wpAny_callSpecial?_none→qX,richCompare_meets_room→rp,args_listiter_next→rt,wpAny_Constant_none→rG
open PySem.Around renaming under_plainId→iX,frames_deeper→mc
open PySem.Bind renaming madeBy→n6,madeHere→ra
open PySem.Builtin renaming bitAnd→gS,bitOr→kS
open PySem.Builtin.Deque renaming clear→pQ
open PySem.Builtin.Int renaming intBits→jg,intTooBig→pS
open PySem.Builtin.List renaming listExtendWith→ic,listSameRef→jL,listItems→jS,listLengthHint→qa,listUpdate→qP
open PySem.Builtin.SmallTypes renaming nextOf→iZ,ownedTupleIsFree→kQ,ownedTupleHandOut→oH
open PySem.Builtin.Str renaming strSliceIndices→kz
open PySem.Builtin.Tuple renaming tupleCompareSizes→pY
open PySem.Calls renaming evalArgs_plain→eE,Name_function_global→g7,loadGlobal_global→jN,call_function_entry→pb,loadGlobal_builtin→q6
open PySem.Challenge renaming rw_oy0381_01→g6
open PySem.ClassData renaming mk→n7
open PySem.Code renaming builtin→jX,quiet_builtin→nG
open PySem.ExcName renaming means→pT
open PySem.F renaming plain_extend_loop→gX,slot_dict_values→jA,slot_zip_next→kD,slot_list_pop→mn,type_dict_values→my,entry_extend_loop→og,entry_list_ne→oF,slot_dict_valueiterator_next→oO,slot_list_ne→oR,type_list_append→oW,entry_list_init→pg,args_list_ne_2→pj,slot_range_iterator_next→pA,slot_list_append→pB,typeCall_list_1→pU,slot_list_extend→pW,entry_list_pop→qe,type_list_extend→qm,args_list_init_2→qF,entry_zip_next→qO,slot_tuple_lt→rb,args_zip_next_1→rl
open PySem.Heap renaming lt_size→aH,get?_push_size→bj,get?_push_of_some→bT,size_push→cF,get?_push_ne→cW,SameBut→du,ExtBut→eX,size_update→fp,hide_ne→fq,get?_none_of_le→g8,get?_update_self→j6,get?_update_ne→kh,of_hide→mV,hide_size→qW,IsList→ri
open PySem.Heap.IsSliceOf renaming new→l8
open PySem.Heap.SameBut renaming update→ik
open PySem.Manifest renaming find?→rh
open PySem.NameKind renaming cell→fV,free→gh
open PySem.Obj renaming mapSeq→bo,data_mapFields→jz,mapFields→km,cls_mapFields→oY,isFreed_of_fields→qH
open PySem.P renaming truthy_str→qY
open PySem.PyData renaming keyHash→pR
open PySem.Sem renaming wp→fF
open PySem.SeqAt.EqAt renaming str_str→rF
open PySem.Shared renaming heap→qM
open PySem.Str renaming ofString→aB,length→di
open PySem.Txt renaming slice→jn,replace→kG
open PySem.Value renaming ref→dz,type→dN,none→eM,str→fX,isStr→kf,isStrOf→qA
open PySem.W renaming itemOf→ae,findIn→bf,listOf→bU,emptyDict→bW,kas_asc→cP,callWith_of→cY,heapOf→dI,Looks→eC,instObj→eD,piecesOf→eR,takerIn→eU,absHeap→e8,kas_place→f7,SharedT→f9,hasDictIn→gW,handedIn→g9,plainGet→ij,KatTups→iq,segRun_of→iE,kas_rev→iF,segRunT→i9,piece_app→jc,kas_desc→jI,kas_count→jO,kas_sort→ko,behindTheImports→kM,looks_findIn→k8,kas_descPart→mU
open PySem.W.Fast renaming te14364793385576792824→ft,te10110043849684766642→iy,te12563942051412417395→jj
open PySem.W.KasT renaming ret→hX
open PySem.W.Looks renaming of_peek→cM,of_pure→mY
open PySem.W.OpenLaw renaming row→q8
open PySem.W.OpenRow renaming toRowW→ro
open PySem.Walks renaming list→ny
open PySem.callAny renaming viaDunder→q7
open PySem PySem.W PyProof.Rows PySem.Calls
open List (append_assoc mem_cons getElem?_set_self mem_map getElem?_set_ne length_append getElem?_append_right getElem?_append_left length_map length_set length_cons getElem?_eq_getElem mem_singleton mem_cons_self map_map not_mem_nil mem_cons_of_mem nodup_cons getElem?_map mem_of_getElem? map_cons set_set size_toArray set_append_right mem_append set_append_left pairwise_iff_getElem length_nil append_nil)
open Nat (le_refl ne_of_lt lt_of_lt_of_le le_trans le_of_lt lt_succ_self not_lt)
open Heap (lt_size get?_push_size get?_push_of_some size_push get?_push_ne)
section
set_option backward.match.sparseCases false
noncomputable def L (l:List Nat):Str:=⟨l.toArray⟩
noncomputable def S:List String→Nat→String
 | [],_=>""
 | a::_,0=>a
 | _::r,n+1=>S r n
noncomputable def Px:List Nat→Nat→Nat
 | [],_=>0
 | a::_,0=>a
 | _::r,n+1=>Px r n
noncomputable def dec:Nat→Nat→List Nat
 | 0,_=>[]
 | k+1,n=>cond (eW n 0) [] (fY (Nat.mod n 100) 31::dec k (Nat.div n 100))
noncomputable def xS:List Nat:=[6464707866796464,8479748577748667,64646880696464,6464707266766866816464,64648370696680776464,6464687081846464,646484846677686469777486676464,64648583808178746464,846766,777766,907966,7474688466,797467,85797480817666708367,7077676677776668,837368,70777481788068,83858566777069,837469,698078877469,77668770,68708970,856678838071,83858566857072,84776667807772,83858566846673,73846673,897073,6974,8586817974,70687966858479748474,84846677686786848474,83708574,8370857466,797077,847766688077,896678,797478,85897079,8589707966,856880,698380,888081,8579748381,83817083,6979868083,83858566857084,697085838084,788684,84836687,70798047,8474848174777738,6970857970787077817842858047,7084776639,70868353,77808067,88707487908380787078,906683836670859067,8470859067,6980738570788484667768,89707781788068,85687469,708566837078867970,837085777471,8566807771,857084797091808371,9085837081808381,857974,85847477,816678,856870756780,7072796683,6970848370877083,857084,7068747784,698073857078687485668584,838584,8370818684,7077818685,70819085,817491,646472866770696464,79807485817068893870846635,818680834079807485817068893870846635,798074858170688938,85748938838085668370797040,8581868383708579426983668067907044,85748938787085849052,838083833868748570787385748334,8380838338798074858370848434,8380838338708586677483858534,8380838338837071718635,8380838338394838,8380838338858380817842,8380838338818676808045,8380838338908380787046,838083833870786647,83808383385248,8380838338706879708370717051,838083833870787485798651,798074856683708542687990843481808552,79807485668370854281808552,8380838338896685799052,8380838338787085849052,838083833870819053,83808383387086776655,72797479836656,838083833885797480497279748566807739,83808383388880777183708748,8380838338798074847487743780837059,727974798366568470859035,727974798366567980748566687083817037,727974798366567279746980687938,72797479836656708386858639,72797479836656858380817842,72797479836656798074856668708381703772797469797049,727974798366567068838680847051,7279747983665670787485798651,72797479836656896685799052,7279747983665670698068747954,7279747983665683708454,838083833848427279747668807735,8380838338848470688083496977747336,838083833879807485687079798036,838083833884858474893870777439,8380838338697986803985804770777439,83808383386970858186838370857942,8380838338908380856870837437348442,838083833890838085687083743734858047,838083833879807484847478837049,838083833881867680804584847068808349,838083833885868070787453,83808383387980748566857970697942,838083833885868179427085707781788068794264,83808383388970697942,8380838338907044,83808383386979868039858047707786698046,83808383386970857970787077817842858047,8380838338798074856691747766797439798073859049,8380838338798074848386687051,8380838338776668804569798680677954,838083833870698068747954,838083833870817449797076808335,83808383386970858380673479807485687079798036,83808383386970848671705179807485687079798036,8380838338857084705179807485687079798036,8380838338676653,838083833870698068703770698068747954,838083833870698068793870698068747954,838083833870856677847966835370698068747954,8186808340798074858170688938,83808383388579707879808374877938,83808383384842,79708180,85748682,85748970,857372748390818068,84857469708368,70847970687477,81777073,6464797466786464,70838464,847980748568707777806864,708384641569706966807715858380817874,837085838081784279748577748635156774778583808178746479709180837164158484667768,8583808178741569707368856688,68708152707786698046156774778583808178746479709180837164158484667768,736880817014697076808067158470778669807815849084,70838464156974667714837085667715858380817874,908366836774771569707368856688,8485687075678014908366836774771569707368856688,0,70838464158170706914908366836774771569707368856688,0,8479807485687077778068641569706966807715858380817874,84798074856870777780686415697069796677158470778669807815849084,847980748568707777806864156974667714837085667715858380817874,847980748568707777806864158170706914908366836774771569707368856688,0,646484798074856685807979666464,646484797485777486676464,6464707774716464,90811585866816787466776816,64646970736866686464,7086827069,3170778669807829,0,7085667781787085,7091748470698068857072,69708466688474647474688466,697084666884746470698068747986,83708880778085647474688466,837088807780856470698068747986,3642403446,3859425238374836,533438493851573446,524954485140573446,135340184676645018570836870520190670119171719142426261801106809018573727483908180360119151915190138515201,64647077866980786464,6774778583808178746479709180837164,646480797079747785848374716464,47424042514864,7974148577748667,687081846469797471,70778669807864708566708368,7077866980786468708970,7069806864857072,70688386808464857072,70726676686681648474,7077866980786469668077,646484708586677483858566646874856685846464,6464856874696464,6464717083766670886464,837085838081784279748577748635,0,0,70786679,837069668077,797472748380,708566858464837069668077,8479807485666880776473688366708464707786698078678684,84707786698078678684646970917477667485747974798664,83858566707774716485708464,69707368666864,72797491747766748574797464,6464857479746464,6464838170836464,646482706464,697073686668,857970836681,798074856668807764846673,6464738466736464,68708152707786698046,0,0,848579707870777064857986806864,8568746985778666717069,838085668370857464708682706964,8380856683708574647084837087708364708682706964,837085857072707781868564,8568743769708370698348,1715838083833852481564648470848466776867868464641570819085,7915838083833852481564648470848466776867868464641570819085,8074,7777668864,7384868181667073,81808181667073,7068667781708381667073,798880698571748464,81868571748464,85797483668764708483668164,18647083647974888564,70687970738864,897069797464,7980748566837081486970858380818186847954,708466354842,7084663548426970837071718635,70846635484285897053,76,81667073,78708574,828166707315201820908168,85777085846677,78708574798386857083,8480818583668584,848081,78708574887079,848081857970836681,848081697970,8480816977747368,8480818573727483,8380856683708574,67,776687,84746915201820908168,6214161513273012063388616360,79,85667388,646470786679776686826464,64648870796464,847768,84728366,847283668876,6464887079646415708466354842,48428470859035,807464,766870736864644842847085903564,7079747764644842847085903564,697084807768,7084807768,646483708579706464,6464857489706464,7077676669667083,7077676685748388,7077676676707084,908585668474,7384867771,807970777471,736866857069,7086776687857072,837071718667857072,77777085,76707084,7085666879868385,69667083,1869667083,8085797469667083,188085797469667083,7079747769667083,847079747769667083,6464837085746464,6464858970796464,7085748388,84707974777085748388,71777084,84708590676477667485747974,64648574797464641548428470859035,76687073686464,766870736864641548428470859035,8574787477,8583668584,81808584,74,707974776464,7079747764641548428470859035,6970848077681548428470859035,70848077681548428470859035,6464837085797064641548428470859035,64648574897064641548428470859035,70776766696670831548428470859035,70776766857483881548428470859035,70776766767070841548428470859035,9085856684741548428470859035,73848677711548428470859035,8079707774711548428470859035,7368668570691548428470859035,70867766878570721548428470859035,8370717186678570721548428470859035,777770851548428470859035,706879707388,767070841548428470859035,70917484,70856668798683851548428470859035,696670831548428470859035,18696670831548428470859035,837071718667,80857974696670831548428470859035,1880857974696670831548428470859035,70797477696670831548428470859035,8470797477696670831548428470859035,64648370857464641548428470859035,70797477,64648589707964641548428470859035,70857483881548428470859035,8470797477,847079747770857483881548428470859035,64648381708364641548428470859035,7186676464,8480816464,4842727974838552,697085667784796683856464484272797483855264,76687073686464484272797483855264,8580696476687073686464484272797483855264,707974776464484272797483855264,7279748370717186676470797477,8470797477887079,7279746980687970,848380838370,0,70867766876477667485747974,70797477887079,6464857479746464154842727974838552,84,697085667784796683856464,697085667784796683856464154842727974838552,76687073686464154842727974838552,8580696476687073686464,8580696476687073686464154842727974838552,858668,75,697970,707974776464154842727974838552,697084807768154842727974838552,7279748370717186676470797477154842727974838552,8470797477887079154842727974838552,7279746980687970154842727974838552,848380838370154842727974838552,7084807768154842727974838552,646483708579706464154842727974838552,6464857489706464154842727974838552,7077676669667083154842727974838552,7077676685748388154842727974838552,7077676676707084154842727974838552,908585668474154842727974838552,7384867771154842727974838552,807970777471154842727974838552,736866857069154842727974838552,7086776687857072154842727974838552,77777085154842727974838552,76707084154842727974838552,7085666879868385154842727974838552,69667083154842727974838552,7079747769667083154842727974838552,85797473,847079747769667083154842727974838552,6464837085746464154842727974838552,6464858970796464154842727974838552,78,718667,7085748388154842727974838552,84707974777085748388154842727974838552,6464838170836464154842727974838552,707974778870796464,897077738415201820908168,6979747664,73856681847164,84708190856472836664766870736864,8467668474,79748075,738566816479748075,70786679837469,8970777384,89,85,73856681158480,7078667968798671,66,81,817084,73856681,69667073,8483667368647980748566868568798681,79707680856473848681,7068838680846473848681,70688386808464818081,797076808564857072,79707680856469667083,76808073706883868084,837069667077648380838370,7866708385847974,707774717974,8974848081,6464857479746464158970777384,8483667368647980748566868568798681158970777384,768085,79707680856473848681158970777384,786670838584887079,70777471887079,7068838680846473848681158970777384,70688386808464818081158970777384,886683,68708184,797076808564857072158970777384,697085808682,708566858469708166688470,8366736885897079,857786847083,79707680856469667083158970777384,76808073706883868084158970777384,807970797477,837069667077648380838370158970777384,6464837085746464158970777384,7970768085,6464858970796464158970777384,848366736864798074856686856879868164,848366736864766866677384868164,84837085797078788068,7286677069,718070,708166688470,84708580868269708166688470,766866858470777471,7668666773848681,847085808682,706883868084,7085668584,70686681847085747388,85747781846470686681847085747388,848366736869838088,18176418252017908064886677,8574778184,89707773846479748075,707166847986646979747164,7085808682,8485708568806488667764,8573727470886488667764,85848374716488667764,85847074876670736488667764,83707385806488667764,858480786488667764,848574716488667764,8586686488667764,886677,8485797078788068,897077,69796678788068648574778184,837067788679,848570856880,69838088,84857372747088,8479838685,857372747088,837085857077,85897085,8469838088,847068667781,84857471]
noncomputable def p (n:Nat):List Nat:=(dec 71 n).length::dec 71 n
noncomputable def ap:List Nat→List Nat→List Nat
 | [],m=>m
 | a::l,m=>a::ap l m
noncomputable def fl:List (List Nat)→List Nat
 | []=>[]
 | l::r=>ap l (fl r)
noncomputable def xR (n:Nat):List (Nat×List (List Nat))→List Nat
 | []=>dec 54 (Px xS n)
 | (a,l)::r=>cond (eW a n) (fl l) (xR n r)
noncomputable def xQ:List (Nat×List (List Nat)):=[(171,[[12,30]]),(173,[[4,0,0,11,4,0,0,11,4,0,0,3,4,0,0,11,8],p 85687469,[2]]),(178,[[4,0,0,29,4,0,0,29,4,0,0,3,4,0,0,29,8],p 85687469,[2]]),(214,[[6,189],p 64647077866980786464,[6,186],p 6774778583808178746479709180837164,[6,190],p 646480797079747785848374716464,[4,187,0,971,6,191],p 64646880696464,p 647970918083716421,[105,109,112,111,114,116,108,105,98,46,66,117,105,108,116,105,110,73,109,112,111,114,116,101,114,46,95,95,100,111,99,95,95,58,115,116,114,35,111,112,97,113,117,101,6,192],p 47424042514864,[6,188],p 7974148577748667,[6,193],p 687081846469797471,p 647970918083716419,[105,109,112,111,114,116,108,105,98,46,66,117,105,108,116,105,110,73,109,112,111,114,116,101,114,46,102,105,110,100,95,115,112,101,99,35,111,112,97,113,117,101,6,194],p 70778669807864708566708368,p 647970918083716423,[105,109,112,111,114,116,108,105,98,46,66,117,105,108,116,105,110,73,109,112,111,114,116,101,114,46,99,114,101,97,116,101,95,109,111,100,117,108,101,35,111,112,97,113,117,101,6,195],p 7077866980786468708970,p 647970918083716421,[105,109,112,111,114,116,108,105,98,46,66,117,105,108,116,105,110,73,109,112,111,114,116,101,114,46,101,120,101,99,95,109,111,100,117,108,101,35,111,112,97,113,117,101,6,196],p 7069806864857072,p 647970918083716418,[105,109,112,111,114,116,108,105,98,46,66,117,105,108,116,105,110,73,109,112,111,114,116,101,114,46,103,101,116,95,99,111,100,101,35,111,112,97,113,117,101,6,197],p 70688386808464857072,p 647970918083716420,[105,109,112,111,114,116,108,105,98,46,66,117,105,108,116,105,110,73,109,112,111,114,116,101,114,46,103,101,116,95,115,111,117,114,99,101,35,111,112,97,113,117,101,6,198],p 70726676686681648474,p 647970918083716420,[105,109,112,111,114,116,108,105,98,46,66,117,105,108,116,105,110,73,109,112,111,114,116,101,114,46,105,115,95,112,97,99,107,97,103,101,35,111,112,97,113,117,101,6,199],p 7077866980786469668077,p 647970918083716421,[105,109,112,111,114,116,108,105,98,46,66,117,105,108,116,105,110,73,109,112,111,114,116,101,114,46,108,111,97,100,95,109,111,100,117,108,101,35,111,112,97,113,117,101,6,200],p 646484708586677483858566646874856685846464,[4,0,0,15,6,202],p 6464856874696464,[4,0,0,16,6,204],p 6464717083766670886464,[4,0,0,17]]),(215,[[6,227],p 64647077866980786464,[6,217],p 6774778583808178746479709180837164,[6,228],p 646480797079747785848374716464,[4,218,0,562,6,229],p 64646880696464,p 647970918083716416,[105,109,112,111,114,116,108,105,98,46,77,111,100,117,108,101,83,112,101,99,46,95,95,100,111,99,95,95,58,115,116,114,35,111,112,97,113,117,101,6,230],p 6464857479746464,p 647970918083716413,[105,109,112,111,114,116,108,105,98,46,77,111,100,117,108,101,83,112,101,99,46,95,95,105,110,105,116,95,95,35,111,112,97,113,117,101,6,231],p 6464838170836464,p 647970918083716413,[105,109,112,111,114,116,108,105,98,46,77,111,100,117,108,101,83,112,101,99,46,95,95,114,101,112,114,95,95,35,111,112,97,113,117,101,6,232],p 646482706464,p 647970918083716411,[105,109,112,111,114,116,108,105,98,46,77,111,100,117,108,101,83,112,101,99,46,95,95,101,113,95,95,35,111,112,97,113,117,101,6,233],p 697073686668,p 647970918083716411,[105,109,112,111,114,116,108,105,98,46,77,111,100,117,108,101,83,112,101,99,46,99,97,99,104,101,100,35,111,112,97,113,117,101,6,234],p 857970836681,p 647970918083716411,[105,109,112,111,114,116,108,105,98,46,77,111,100,117,108,101,83,112,101,99,46,112,97,114,101,110,116,35,111,112,97,113,117,101,6,235],p 798074856668807764846673,p 647970918083716417,[105,109,112,111,114,116,108,105,98,46,77,111,100,117,108,101,83,112,101,99,46,104,97,115,95,108,111,99,97,116,105,111,110,35,111,112,97,113,117,101,6,236],p 646484708586677483858566646874856685846464,[4,0,0,23,6,238],p 6464856874696464,[4,0,0,24,6,240],p 6464717083766670886464,[4,0,0,25,6,241],p 6464738466736464,[0]]),(233,[[6,247],p 6464707866796464,[6,246],p 70838464,[6,248],p 64646880696464,[0,6,250],p 6464707266766866816464,[6,249,0,6,251],p 64648370696680776464,[4,0,0,14,6,252],p 6464687081846464,[4,0,0,26,6,253],p 70777481788068,[9],p 707774817880681570838464,[6,254],p 7085667781787085,[9],p 70856677817870851570838464,[6,255],p 7091748470698068857072,[9],p 70917484706980688570721570838464,[6,256],p 69708466688474647474688466,[9],p 697084666884746474746884661570838464,[6,257],p 697084666884746470698068747986,[9],p 6970846668847464706980687479861570838464,[6,258],p 83708880778085647474688466,[9],p 837088807780856474746884661570838464,[6,259],p 837088807780856470698068747986,[9],p 8370888077808564706980687479861570838464,[6,261],p 3642403446,[4,260,0,20230612,6,263],p 3859425238374836,[4,262,0,4,6,265],p 533438493851573446,[4,264,0,4294967295,6,267],p 524954485140573446,[4,266,0,1073741823,6,269],p 857372748390818068,[6,268],p 135340184676645018570836870520190670119171719142426261801106809018573727483908180360119151915190138515201]),(234,[[6,296],p 6464707866796464,[6,295],p 847980748568707777806864,[6,297],p 64646880696464,[9],p 70868266818004838584276464688069646415847980748568707777806864,[6,299],p 6464707266766866816464,[6,298,0,6,300],p 64648370696680776464,[4,0,0,14,6,301],p 6464687081846464,[4,0,0,33,6,302],p 848579707870777064857986806864,[9],p 84857970787077706485798680686415847980748568707777806864,[6,303],p 7086827069,[8],p 7086827069158479807485687077778068,[6,304],p 8568746985778666717069,[8],p 8568746985778666717069158479807485687077778068,[6,305],p 838085668370857464708682706964,[8],p 838085668370857464708682706964158479807485687077778068,[6,306],p 8380856683708574647084837087708364708682706964,p 8568707777806804,[105,111,110,115,46,95,100,101,113,117,101,95,114,101,118,101,114,115,101,95,105,116,101,114,97,116,111,114,6,307],p 837085857072707781868564,[8],p 837085857072707781868564158479807485687077778068,[6,308],p 8568743769708370698348,[8],p 8568743769708370698348158479807485687077778068]),(368,[[10]])]
noncomputable def X (n:Nat):Str:=L (xR n xQ)
noncomputable def nb:List Stmt→Nat→Stmt
 | [],_=>.Pass default
 | a::_,0=>a
 | _::r,n+1=>nb r n
noncomputable def vP (p:aD) (i:Nat):Stmt:=nb p.main.body i
noncomputable def Py:Stmt→List Stmt
 | .ClassDef _ _ _ b ..=>b
 | _=>[]
noncomputable def zg (p:aD) (i j:Nat):Stmt:=nb (Py (vP p i)) j
noncomputable def fBody:Stmt→List Stmt
 | .FunctionDef _ _ b ..=>b
 | _=>[]
noncomputable def fArgs:Stmt→Arguments
 | .FunctionDef _ a ..=>a
 | _=>⟨[],[],none,[],[],none,[]⟩
noncomputable def fScope:Stmt→aO
 | .FunctionDef _ _ _ _ _ _ s ..=>s
 | _=>⟨.function,[],false,false,[]⟩
noncomputable abbrev pw:aD:=PySem.Challenge.pw_oy0381_01
noncomputable abbrev D:=List String→aL→Obj
namespace HD
noncomputable def r (a:Nat):aa:=.ref a
noncomputable def i (i:Int) (t:Nat):aa:=.int i t
noncomputable def j (i:Int):aa:=.int i 0
noncomputable def s (n t:Nat):aa:=.str (X n) t
noncomputable def y (t:List String) (n:Nat):aa:=.type (S t n)
noncomputable def b (t:List String) (n:Nat):aa:=.builtin (S t n)
noncomputable def n:aa:=.none
noncomputable def T:aa:=.bool true
noncomputable def F:aa:=.bool false
noncomputable def D (P:aL) (n t:Nat) (v:aa):cB:=⟨pR P (X n),.str (X n) t,v⟩
noncomputable def d (P:aL) (n t a:Nat):cB:=D P n t (r a)
noncomputable def ob (c:aa) (d:Option Nat) (x:Data):Obj:=⟨c,d,x,#[]⟩
noncomputable def Q (l:List aa) (n:Nat):Data:=.seq l.toArray n
noncomputable def C (l:List cB) (n:Nat):Data:=.dict l.toArray n
noncomputable def K (l:List aa):Data:=.fields l.toArray
noncomputable def z:Obj:=ob .none none (K [])
noncomputable def U (t:List String) (l:List aa):Obj:=ob (y t 71) none (Q l 0)
noncomputable def E (t:List String):Obj:=U t []
noncomputable def V (t:List String) (c:Nat) (l:List aa):Obj:=ob (y t c) none (K l)
noncomputable def H (t:List String) (l:List cB) (n:Nat):Obj:=ob (y t 0) none (C l n)
noncomputable def nm:Nat→List Nat→List aa
 | _,[]=>[]
 | k,a::l=>s a k::nm (Nat.succ k) l
noncomputable def q (t:List String) (k:Nat) (l:List Nat):Obj:=U t (nm k l)
noncomputable def tr (x:Nat):List (Nat×Nat)→List aa
 | []=>[]
 | (a,c)::l=>j a::j x::r c::tr x l
noncomputable def w (x:Nat) (l:List (Nat×Nat)):Obj:=ob .none none (K (tr x l))
noncomputable def R (t:List String) (c e m k:Nat):Obj:=⟨y t 154,none,.plain,[some (r c),some (r 3),some (r e),none,some (s m k),none,some (r 0)].toArray⟩
noncomputable def c (t:List String) (m k l a:Nat):Obj:=V t 153 [s m k,s m (k+1),s 182 (k+2),j l,j 0,j 0,j 0,j 0,r a,F,j 318,r (a+1),n,n,n,n,j (k+3:Nat),j l,s 182 (k+4)]
noncomputable def Cl (t:List String) (n:Nat) (b m:List aa) (a:Nat) (sub:List aa) (x:List (Option aa)):Obj:=⟨y t 72,none,.cls (n7 (X n) b m a (X n) true [] sub false none false),x.toArray⟩
noncomputable def cl (t:List String) (n:Nat) (b m:List aa) (a:Nat) (sub:List aa) (x:Option aa) (k1 k2:Nat) (v:aa):Obj:=Cl t n b m a sub [x,none,some (s n k1),some (s n k2),some v,some T]
noncomputable def fd (st:Stmt) (n q g:Nat) (d m c:aa):Data:=.func ⟨X n,X q,fArgs st,.stmts (fBody st),fScope st,g,[],d,.none,.none,m,none,c,.none,0⟩
noncomputable def fo (t:List String) (st:Stmt) (n q:Nat) (d:aa) (m k c:Nat):Obj:=ob (y t 192) none (fd st n q 3 d (s m k) (r c))
noncomputable def co (t:List String) (n q k l c1 c2 c3 c4 a h e:Nat) (v w:aa):Obj:=V t 153 [s n k,s q (k+1),s 182 (k+2),j l,j c1,j c2,j c3,j c4,r a,T,j 318,r (a+1),.none,v,w,r h,j e,j l,s 182 (e+1)]
noncomputable def A (i:Nat):Stmt:=vP pw i
noncomputable def B (i j:Nat):Stmt:=zg pw i j
noncomputable def len:List Nat→Nat
 | []=>0
 | _::l=>Nat.succ (len l)
noncomputable def G (t:List String) (m mk:Nat) (st:Stmt) (n q:Nat) (df:aa) (a k l c1 c2 c3 c4:Nat) (ns:List Nat) (z:List Obj):List Obj:=E t::HD.z::HD.q t (k+3) ns::E t::ob .none none (fd st n q 0 .none .none .none)::co t n q k l c1 c2 c3 c4 a (a+4) (fY (fY k 3) (len ns)) (r (a+2)) (r (a+3))::fo t st n q df m mk (a+5)::z
noncomputable def g (t:List String) (m mk:Nat) (st:Stmt) (n q:Nat) (df:aa) (a k l c1 c2 c3 c4:Nat) (z:List Obj):List Obj:=E t::HD.z::ob .none none (fd st n q 0 .none .none .none)::co t n q k l c1 c2 c3 c4 a (a+2) (k+3) .none .none::fo t st n q df m mk (a+3)::z
noncomputable abbrev CC:=List String→aL→List Obj
noncomputable def Gk (t:List String):=G t 243 435
noncomputable def gk (t:List String):=g t 243 435
noncomputable def Gl (t:List String):=G t 413 1151
noncomputable def gl (t:List String):=g t 413 1151
noncomputable def Gm (t:List String):=G t 479 1319
noncomputable def gm (t:List String):=g t 479 1319
noncomputable def Go (t:List String):=G t 424 1092
noncomputable def go (t:List String):=g t 424 1092
noncomputable def Gp (t:List String):=G t 261 331
noncomputable def gp (t:List String):=g t 261 331
noncomputable def e3 (t:List String) (P:aL):List cB:=[D P 2 166 n,D P 3 167 n,D P 4 168 (b t 150),D P 5 169 n,d P 179 170 6,d P 180 171 4,D P 181 173 (s 182 172),D P 183 174 n,d P 161 275 12,D P 184 317 (y t 151),d P 244 330 44,d P 245 340 51,d P 246 349 58,d P 247 358 65,d P 248 370 72,d P 249 383 79,d P 250 394 86,d P 251 434 91,d P 252 444 98,d P 253 452 105,d P 254 474 115,d P 255 506 135,d P 256 524 150,d P 257 542 162,d P 284 804 392,d P 359 1091 639,d P 414 1102 648,d P 415 1111 655,d P 416 1121 662,d P 417 1128 669,d P 418 1139 793,d P 419 1140 676,d P 420 1150 683,d P 421 1291 774,d P 480 1301 786,d P 481 1309 793,d P 482 1311 794,d P 483 1318 801,d P 484 1328 808,d P 485 1339 815,d P 486 1345 820,d P 487 1351 825,d P 488 1357 830,d P 489 1363 835,d P 490 1369 840,d P 491 1379 847,d P 492 1385 852]
noncomputable def p3 (t:List String) (P:aL) (m:Nat) (x:cB) (k:Nat):Obj:=H t (x::(e3 t P).take m) k
noncomputable def o3 (t:List String) (P:aL):Obj:=H t (D P 0 165 (s 479 1319)::e3 t P) 48
noncomputable def Pz:List (Nat×Nat):=[(3,43),(7,50),(10,57),(18,64),(23,71),(34,78),(49,85),(59,97),(64,104),(71,111),(73,124),(80,146),(82,158),(84,170),(254,400),(460,647),(481,654),(486,661),(491,668),(494,675),(515,682),(524,689),(776,785),(784,792),(788,800),(795,807),(801,814),(806,819),(816,824),(823,829),(834,834),(845,839),(847,846),(855,851)]
noncomputable def Xz:Obj:=w 0 Pz
noncomputable def c0:CC:=fun t P=>H t [D P 0 1 (s 1 160),D P 2 2 (b t 1),D P 3 3 (b t 2),D P 4 4 (b t 3),D P 5 5 (b t 4),D P 6 6 (b t 5),D P 7 7 (b t 6),D P 8 8 (b t 7),D P 9 9 (b t 8),D P 10 10 (b t 9),D P 11 11 (b t 10),D P 12 12 (b t 11),D P 13 13 (b t 12),D P 14 14 (b t 13),D P 15 15 (b t 14),D P 16 16 (b t 15),D P 17 17 (b t 16),D P 18 18 (b t 17),D P 19 19 (b t 18),D P 20 20 (b t 19),D P 21 21 (b t 20),D P 22 22 (b t 21),D P 23 23 (b t 22),D P 24 24 (b t 23),D P 25 25 (b t 24),D P 26 26 (b t 25),D P 27 27 (b t 26),D P 28 28 (b t 27),D P 29 29 (b t 28),D P 30 30 (b t 29),D P 31 31 (b t 30),D P 32 32 (b t 31),D P 33 33 (b t 32),D P 34 34 (b t 33),D P 35 35 (b t 34),D P 36 36 (b t 35),D P 37 37 (b t 36),D P 38 38 (b t 37),D P 39 39 (b t 38),D P 40 40 (b t 39),D P 41 41 (b t 40),D P 42 42 (b t 41),D P 43 43 (b t 42),D P 44 44 (b t 43),D P 45 45 (b t 44),D P 46 46 (b t 45),D P 47 47 (b t 46),D P 48 48 (b t 47),D P 49 49 (b t 48),D P 50 50 n,D P 51 51 .ellipsis,D P 52 52 .notImplemented,D P 53 53 F,D P 54 54 T,D P 55 55 (y t 49),D P 56 56 (y t 50),D P 57 57 (y t 51),D P 58 58 (y t 52),D P 59 59 (y t 53),D P 60 60 (y t 54),D P 61 61 (y t 0),D P 62 62 (y t 55),D P 63 63 (y t 56),D P 64 64 (y t 57),D P 65 65 (y t 58),D P 66 66 (y t 59),D P 67 67 (y t 60),D P 68 68 (y t 61),D P 69 69 (y t 62),D P 70 70 (y t 63),D P 71 71 (y t 64),D P 72 72 (y t 65),D P 73 73 (y t 66),D P 74 74 (y t 67),D P 75 75 (y t 68),D P 76 76 (y t 69),D P 77 77 (y t 70),D P 78 78 (y t 71),D P 79 79 (y t 72),D P 80 80 (y t 73),D P 81 81 T,D P 82 82 (y t 74),D P 83 83 (y t 75),D P 84 84 (y t 76),D P 85 85 (y t 77),D P 86 86 (y t 78),D P 87 87 (y t 79),D P 88 88 (y t 80),D P 89 89 (y t 81),D P 90 90 (y t 82),D P 91 91 (y t 83),D P 92 92 (y t 84),D P 93 93 (y t 85),D P 94 94 (y t 86),D P 95 95 (y t 87),D P 96 96 (y t 88),D P 97 97 (y t 89),D P 98 98 (y t 90),D P 99 99 (y t 91),D P 100 100 (y t 92),D P 101 101 (y t 93),D P 102 102 (y t 94),D P 103 103 (y t 95),D P 104 104 (y t 96),D P 105 105 (y t 97),D P 106 106 (y t 98),D P 107 107 (y t 99),D P 108 108 (y t 100),D P 109 109 (y t 101),D P 110 110 (y t 102),D P 111 111 (y t 103),D P 112 112 (y t 104),D P 113 113 (y t 105),D P 114 114 (y t 106),D P 115 115 (y t 107),D P 116 116 (y t 108),D P 117 117 (y t 109),D P 118 118 (y t 110),D P 119 119 (y t 111),D P 120 120 (y t 112),D P 121 121 (y t 113),D P 122 122 (y t 114),D P 123 123 (y t 115),D P 124 124 (y t 116),D P 125 125 (y t 117),D P 126 126 (y t 118),D P 127 127 (y t 119),D P 128 128 (y t 120),D P 129 129 (y t 121),D P 130 130 (y t 122),D P 131 131 (y t 123),D P 132 132 (y t 124),D P 133 133 (y t 125),D P 134 134 (y t 126),D P 135 135 (y t 127),D P 136 136 (y t 128),D P 137 137 (y t 129),D P 138 138 (y t 130),D P 139 139 (y t 131),D P 140 140 (y t 132),D P 141 141 (y t 133),D P 142 142 (y t 134),D P 143 143 (y t 135),D P 144 144 (y t 136),D P 145 145 (y t 137),D P 146 146 (y t 138),D P 147 147 (y t 139),D P 148 148 (y t 140),D P 149 149 (y t 141),D P 150 150 (y t 142),D P 151 151 (y t 89),D P 152 152 (y t 89),D P 153 153 (b t 143),D P 154 154 (b t 144),D P 155 155 (b t 145),D P 156 156 (b t 146),D P 157 157 (b t 147),D P 158 158 (b t 148),D P 159 159 (b t 149)] 159::H t [d P 1 162 4,d P 160 163 5,d P 161 244 12,d P 162 292 30] 4::ob .none none (C [D P 163 183 T,d P 164 185 14,d P 165 206 18,d P 166 216 22,D P 167 245 (i 4 0),D P 168 270 T,d P 169 272 27,D P 170 0 (s 171 0),D P 172 273 (s 173 0),D P 174 280 T,D P 175 294 T,D P 176 309 T,D P 177 311 (s 178 0),D P 241 471 (i 115 0),D P 242 472 (i 1 0)] 15)::o3 t P::ob (y t 152) (some 0) .plain::ob (y t 152) (some 3) .plain::H t [] 0::E t::z::V t 153 [s 185 176,s 185 177,s 182 178,j 1,j 0,j 0,j 0,j 0,r 7,F,j 175,r 8,n,n,n,n,j 179,j 1,s 182 180]::R t 9 3 160 164::H t [D P 0 247 (s 161 246),D P 2 248 n,D P 3 250 (s 186 249),D P 4 251 (b t 155),D P 5 252 (b t 156),D P 16 253 (b t 157),D P 187 254 (b t 158),D P 188 255 (b t 159),D P 189 256 (b t 160),D P 190 257 (b t 161),D P 191 258 (b t 162),D P 192 259 (b t 163),D P 193 261 (i 20230612 260),D P 194 263 (i 4 262),D P 195 265 (i 4294967295 264),D P 196 267 (i 1073741823 266),D P 156 269 (s 197 268)] 17::ob (y t 152) (some 11) .plain::H t [D P 198 189 (s 199 186),D P 200 190 (i 971 187),D P 2 191 (b t 164),D P 201 192 (s 202 188),D P 203 193 (b t 165),D P 204 194 (b t 166),D P 205 195 (b t 167),D P 206 196 (b t 168),D P 207 197 (b t 169),D P 208 198 (b t 170),D P 209 199 (b t 171),d P 210 200 15,d P 211 202 16,d P 212 204 17] 14::Cl t 213 [y t 63] [r 14,y t 63] 13 [] []::E t::V t 172 [s 211 201,r 14,b t 173,b t 174]::V t 172 [s 212 203,r 14,b t 175,n]::ob .none none (Q [j 13,s 214 0,T,T,s 186 205,j 21,s 215 0,T,T,s 186 242] 1)::ob (y t 61) none (Q [] 0)::H t [D P 216 208 (s 161 207),d P 217 209 14,D P 218 210 (s 202 184),D P 219 211 n,D P 220 212 n,d P 221 213 19,D P 222 214 F,D P 223 215 n,D P 224 243 F] 9::H t [D P 198 227 (s 199 217),D P 200 228 (i 562 218),D P 2 229 (b t 176),D P 225 230 (b t 177),D P 226 231 (b t 178),D P 227 232 (b t 179),D P 228 233 (b t 180),D P 229 234 (b t 181),D P 230 235 (b t 182),d P 210 236 23,d P 211 238 24,d P 212 240 25,D P 231 241 n] 13::Cl t 232 [y t 63] [r 22,y t 63] 21 [] []::q t 219 [223,222,221,217,219,216,218,220]::V t 172 [s 211 237,r 22,b t 173,b t 174]::V t 172 [s 212 239,r 22,b t 175,n]::ob (r 22) (some 20) .plain::ob .none none (Q [j 11,s 233 0,T,F,s 161 271,j 29,s 234 0,T,F,s 162 310] 1)::q t 277 [184]::H t [D P 0 296 (s 162 295),D P 2 297 (b t 183),D P 3 299 (s 186 298),D P 4 300 (b t 184),D P 5 301 (b t 185),D P 235 302 (b t 186),D P 184 303 (y t 151),D P 236 304 (y t 187),D P 237 305 (b t 188),D P 238 306 (b t 189),D P 239 307 (y t 190),D P 240 308 (y t 191)] 12::ob (y t 152) (some 29) .plain::ob (y t 61) none (Q [] 0)::H t [D P 216 283 (s 162 282),d P 217 284 14,D P 218 285 (s 202 281),D P 219 286 n,D P 220 287 n,d P 221 288 31,D P 222 289 F,D P 223 290 n,D P 224 291 F] 9::ob (r 22) (some 32) .plain::[]
noncomputable def c1:CC:=fun t P=>E t::Xz::c t 185 319 1 34::R t 36 3 160 164::G t 160 164 (A 2) 244 244 n 38 324 3 1 0 0 3 [258] (Gp t (A 4) 245 245 n 45 333 7 2 0 0 3 [259,260] (Gp t (A 5) 246 246 n 52 341 10 1 0 0 3 [259,262,263] (Gp t (A 6) 247 247 n 59 350 18 2 0 0 3 [259,260,263] (Gp t (A 7) 248 248 n 66 359 23 3 0 0 3 [259,264,265,266,267,229] ([])))))
noncomputable def c2:CC:=fun t P=>Gp t (A 8) 249 249 n 73 371 34 2 0 0 3 [259,265,268,264,266,269,270] (G t 274 384 (A 10) 250 250 n 80 386 49 1 0 0 3 [271,272,273] (ob (y t 61) none (Q [i 14 398,i 17 399,i 4 400,i 1 401,i 1 402,i 21 403,i 9 404,i 0 405,i 604043296 406,i 1 407,i 0 408,i 0 409,i 0 410,i 0 411,i 0 412,i 8 413,i 4 414,i 0 415,i 13 416,i 14 417,i 21 418,i 9 419,i 0 420,i 604043296 421,i 1 422,i 0 423,i 0 424,i 0 425,i 0 426,i 0 427,i 8 428,i 4 429,i 0 430,i 1 431] 0)::H t [] 0::U t [n]::U t [j 14,j 17,j 4,j 1,j 1,j 21,j 9,j 0,j 604043296,j 1,j 0,j 0,j 0,j 0,j 0,j 8,j 4,j 0,j 13,j 14,j 21,j 9,j 0,j 604043296,j 1,j 0,j 0,j 0,j 0,j 0,j 8,j 4,j 0,j 1]::V t 193 [s 275 396,i 256 433,j 0,n,n,r 90,j 0]::Gk t (A 13) 252 252 n 92 437 59 2 0 0 3 [276,277] (Gk t (A 14) 253 253 n 99 445 64 2 0 0 3 [276,277] (U t [y t 89,y t 97]::[]))))
noncomputable def c3:CC:=fun t P=>V t 194 [b t 195,y t 72]::H t [D P 198 460 (s 243 465),D P 278 462 (s 254 461),D P 200 464 (i 71 463),d P 210 467 113] 4::E t::z::c t 254 455 71 109::R t 111 108 243 435::E t::H t [D P 198 460 (s 243 465),D P 200 464 (i 71 463),d P 210 467 113,d P 212 469 116,D P 2 470 n] 3::cl t 254 [y t 89,y t 97] [r 115,y t 89,y t 97,y t 76,y t 74,y t 63] 114 [] (some (r 106)) 453 461 (b t 196)::V t 172 [s 212 468,r 115,b t 175,n]::V t 70 [r 115,r 115,r 115]::V t 194 [b t 197,r 115]::E t::V t 194 [b t 195,y t 72]::H t [D P 198 482 (s 243 487),D P 278 484 (s 255 483),D P 200 486 (i 73 485),d P 279 497 132,d P 210 498 133] 5::E t::w 4 [(76,131)]::c t 255 477 73 122::R t 124 121 243 435::Gk t (B 16 1) 279 283 n 126 489 76 1 1 0 15 [280,281,282] (E t::H t [D P 198 482 (s 243 487),D P 200 486 (i 73 485),d P 279 497 136,d P 210 498 133,d P 211 501 137,d P 212 503 138,D P 2 504 n] 4::cl t 255 [y t 63] [r 135,y t 63] 134 [r 150,r 162] none 475 483 n::V t 68 [r 132]::V t 172 [s 211 500,r 135,b t 173,b t 174]::V t 172 [s 212 502,r 135,b t 175,n]::V t 70 [r 135,r 135,r 135]::V t 194 [b t 197,r 135]::[])
noncomputable def c4:CC:=fun t P=>U t [r 135]::V t 194 [b t 195,y t 72]::H t [D P 198 514 (s 243 519),D P 278 516 (s 256 515),D P 200 518 (i 80 517),d P 210 521 148] 4::E t::z::c t 256 509 80 144::R t 146 143 243 435::E t::H t [D P 198 514 (s 243 519),D P 200 518 (i 80 517),d P 210 521 148,D P 2 522 n] 2::cl t 256 [r 135] [r 150,r 135,y t 63] 149 [r 392] (some (r 141)) 507 515 n::V t 70 [r 150,r 150,r 150]::V t 194 [b t 197,r 150]::U t [r 135]::V t 194 [b t 195,y t 72]::H t [D P 198 532 (s 243 537),D P 278 534 (s 257 533),D P 200 536 (i 82 535),d P 210 539 160] 4::E t::z::c t 257 527 82 156::R t 158 155 243 435::E t::H t [D P 198 532 (s 243 537),D P 200 536 (i 82 535),d P 210 539 160,D P 2 540 n] 2::cl t 257 [r 135] [r 162,r 135,y t 63] 161 [r 639] (some (r 153)) 525 533 n::V t 70 [r 162,r 162,r 162]::V t 194 [b t 197,r 162]::U t [r 150]::V t 194 [b t 195,y t 72]::H t [D P 198 550 (s 285 555),D P 278 552 (s 284 551),D P 200 554 (i 84 553),d P 225 564 179,d P 286 571 186,d P 287 582 193,d P 288 590 201,d P 289 597 208,d P 290 604 215,d P 291 612 222,d P 292 619 229,d P 293 626 236,d P 294 633 243,d P 295 640 250,d P 296 647 257,d P 297 654 264,d P 298 661 271,d P 299 668 278,d P 300 675 285,d P 301 682 292,d P 302 692 300,d P 303 700 308,d P 304 712 316,d P 305 722 324,d P 306 732 331,d P 307 740 338,d P 308 750 346,d P 309 758 354,d P 310 765 361,d P 311 773 368,d P 312 783 375,d P 313 791 382,d P 226 798 389,d P 210 801 390] 34::E t::w 4 [(87,178),(93,185),(97,192),(111,199),(114,207),(117,214),(121,221),(124,228),(128,235),(132,242),(136,249),(140,256),(143,263),(146,270),(149,277),(152,284),(155,291),(159,299),(176,307),(179,315),(193,323),(196,330),(210,337),(213,345),(220,353),(223,360),(226,367),(233,374),(249,381),(252,388)]::c t 284 545 84 168::R t 170 167 243 435::U t [n]::Gk t (B 19 1) 225 316 (r 172) 173 557 87 2 0 0 3 [314,315] ([])
noncomputable def c5:CC:=fun t P=>Gk t (B 19 2) 317 318 n 180 565 93 1 0 0 3 [314] (Gk t (B 19 3) 323 324 n 187 572 97 2 0 0 3 [314,319,320,321,322] (Gk t (B 19 4) 288 325 n 194 583 110 1 0 0 3 [314] (V t 59 [r 200,n,n,n,s 288 590,F]::Gk t (B 19 5) 289 326 n 202 591 114 1 0 0 3 [314] (Gk t (B 19 6) 290 327 n 209 598 117 1 0 0 3 [314] ([])))))
noncomputable def c6:CC:=fun t P=>Gk t (B 19 7) 291 328 n 216 605 121 1 0 0 7 [314,281] (Gk t (B 19 8) 292 329 n 223 613 124 1 0 0 3 [314] (Gk t (B 19 9) 293 330 n 230 620 128 1 0 0 3 [314] (Gk t (B 19 10) 294 331 n 237 627 132 1 0 0 3 [314] (Gk t (B 19 11) 295 332 n 244 634 136 1 0 0 3 [314] ([])))))
noncomputable def c7:CC:=fun t P=>Gk t (B 19 12) 296 333 n 251 641 140 1 0 0 3 [314] (Gk t (B 19 13) 297 334 n 258 648 143 1 0 0 3 [314] (Gk t (B 19 14) 298 335 n 265 655 146 1 0 0 3 [314] (Gk t (B 19 15) 299 336 n 272 662 149 1 0 0 3 [314] (Gk t (B 19 16) 300 337 n 279 669 152 1 0 0 3 [314] ([])))))
noncomputable def c8:CC:=fun t P=>Gk t (B 19 17) 301 338 n 286 676 155 1 0 0 3 [314] (U t [i 0 683]::Gk t (B 19 18) 302 340 (r 293) 294 684 159 3 3 0 3 [314,265,339] (U t [n]::Gk t (B 19 19) 303 342 (r 301) 302 693 176 2 2 0 3 [314,341] (U t [(i (-1) 702)]::Gk t (B 19 20) 304 343 (r 309) 310 703 179 2 2 0 3 [314,341,320,321] (U t [(i (-1) 714)]::Gk t (B 19 21) 305 344 (r 317) 318 715 193 2 2 0 3 [314,341] ([])))))
noncomputable def c9:CC:=fun t P=>Gk t (B 19 22) 306 346 n 325 723 196 2 2 0 3 [314,345,320,276] (Gk t (B 19 23) 307 347 n 332 733 210 2 2 0 3 [314,345] (U t [(i (-1) 742)]::Gk t (B 19 24) 308 348 (r 339) 340 743 213 2 2 0 3 [314,341] (U t [n]::Gk t (B 19 25) 309 349 (r 347) 348 751 220 2 2 0 3 [314,341] (Gk t (B 19 26) 310 350 n 355 759 223 1 0 0 3 [314] ([])))))
noncomputable def XA:CC:=fun t P=>Gk t (B 19 27) 311 352 n 362 766 226 1 0 0 3 [314,351] (Gk t (B 19 28) 312 353 n 369 774 233 2 2 0 3 [314,272,276,320] (Gk t (B 19 29) 313 355 n 376 784 249 2 2 0 3 [314,354] (Gk t (B 19 30) 226 356 n 383 792 252 1 0 0 3 [314] (q t 799 [357,358]::H t [D P 198 550 (s 285 555),D P 200 554 (i 84 553),d P 225 564 179,d P 286 571 186,d P 287 582 193,d P 288 590 201,d P 289 597 208,d P 290 604 215,d P 291 612 222,d P 292 619 229,d P 293 626 236,d P 294 633 243,d P 295 640 250,d P 296 647 257,d P 297 654 264,d P 298 661 271,d P 299 668 278,d P 300 675 285,d P 301 682 292,d P 302 692 300,d P 303 700 308,d P 304 712 316,d P 305 722 324,d P 306 732 331,d P 307 740 338,d P 308 750 346,d P 309 758 354,d P 310 765 361,d P 311 773 368,d P 312 783 375,d P 313 791 382,d P 226 798 389,d P 210 801 390,D P 2 802 n] 2::cl t 284 [r 150] [r 392,r 150,r 135,y t 63] 391 [] (some (r 165)) 543 551 n::V t 70 [r 392,r 392,r 392]::V t 194 [b t 197,r 392]::U t [r 162]::[]))))
noncomputable def XB:CC:=fun t P=>V t 194 [b t 195,y t 72]::H t [D P 198 812 (s 285 817),D P 278 814 (s 359 813),D P 200 816 (i 254 815),d P 225 829 409,d P 360 838 416,d P 361 845 423,d P 362 852 430,d P 363 867 437,d P 288 875 445,d P 364 883 453,d P 365 891 461,d P 366 899 469,d P 367 907 477,d P 289 914 484,d P 290 921 491,d P 291 929 498,d P 292 936 505,d P 293 943 512,d P 294 950 519,d P 295 957 526,d P 296 964 533,d P 297 971 540,d P 298 978 547,d P 299 985 554,d P 301 992 561,d P 302 1002 569,d P 303 1010 577,d P 304 1022 585,d P 308 1032 593,d P 309 1042 601,d P 310 1049 608,d P 311 1057 615,d P 312 1069 622,d P 313 1077 629,d P 226 1084 636,d P 210 1088 637] 36::E t::w 4 [(257,408),(270,415),(278,422),(282,429),(286,436),(319,443),(323,451),(327,459),(331,467),(335,475),(338,483),(341,490),(345,497),(348,504),(352,511),(356,518),(360,525),(364,532),(367,539),(370,546),(373,553),(376,560),(380,568),(397,576),(400,584),(414,592),(421,600),(424,607),(428,614),(435,621),(454,628),(457,635)]::c t 359 807 254 398::R t 400 397 243 435::q t 819 [186,368]::Gk t (B 20 1) 225 371 (r 402) 403 821 257 3 0 0 3 [314,369,370] (Gk t (B 20 2) 373 374 n 410 830 270 2 0 0 3 [314,372,370] (Gk t (B 20 3) 317 375 n 417 839 278 1 0 0 3 [314] (Gk t (B 20 4) 376 377 n 424 846 282 1 0 0 3 [314] ([]))))
noncomputable def XC:CC:=fun t P=>Gk t (B 20 5) 323 381 n 431 853 286 2 0 0 3 [314,319,320,321,378,370,322,379,380] (Gk t (B 20 6) 288 382 n 438 868 318 1 0 0 3 [314] (V t 59 [r 444,n,n,n,s 288 875,F]::Gk t (B 20 7) 364 383 n 446 876 322 1 0 0 3 [314] (V t 59 [r 452,n,n,n,s 364 883,F]::Gk t (B 20 8) 365 384 n 454 884 326 1 0 0 3 [314] (V t 59 [r 460,n,n,n,s 365 891,F]::Gk t (B 20 9) 366 385 n 462 892 330 1 0 0 3 [314] ([])))))
noncomputable def XD:CC:=fun t P=>V t 59 [r 468,n,n,n,s 366 899,F]::Gk t (B 20 10) 367 386 n 470 900 334 1 0 0 3 [314] (V t 59 [r 476,n,n,n,s 367 907,F]::Gk t (B 20 11) 289 387 n 478 908 338 1 0 0 3 [314] (Gk t (B 20 12) 290 388 n 485 915 341 1 0 0 3 [314] (Gk t (B 20 13) 291 389 n 492 922 345 1 0 0 7 [314,281] (Gk t (B 20 14) 292 390 n 499 930 348 1 0 0 3 [314] ([])))))
noncomputable def Pb:CC:=fun t P=>Gk t (B 20 15) 293 391 n 506 937 352 1 0 0 3 [314] (Gk t (B 20 16) 294 392 n 513 944 356 1 0 0 3 [314] (Gk t (B 20 17) 295 393 n 520 951 360 1 0 0 3 [314] (Gk t (B 20 18) 296 394 n 527 958 364 1 0 0 3 [314] (Gk t (B 20 19) 297 395 n 534 965 367 1 0 0 3 [314] ([])))))
noncomputable def Tf:CC:=fun t P=>Gk t (B 20 20) 298 396 n 541 972 370 1 0 0 3 [314] (Gk t (B 20 21) 299 397 n 548 979 373 1 0 0 3 [314] (Gk t (B 20 22) 301 398 n 555 986 376 1 0 0 3 [314] (U t [i 0 993]::Gk t (B 20 23) 302 399 (r 562) 563 994 380 3 3 0 3 [314,265,339] (U t [n]::Gk t (B 20 24) 303 400 (r 570) 571 1003 397 2 2 0 3 [314,265] ([])))))
noncomputable def PA:CC:=fun t P=>U t [(i (-1) 1012)]::Gk t (B 20 25) 304 401 (r 578) 579 1013 400 2 2 0 3 [314,341,320,321] (U t [(i (-1) 1024)]::Gk t (B 20 26) 308 402 (r 586) 587 1025 414 2 2 0 3 [314,341] (U t [(i (-1) 1034)]::Gk t (B 20 27) 309 404 (r 594) 595 1035 421 2 2 0 3 [314,403] (Gk t (B 20 28) 310 405 n 602 1043 424 1 0 0 3 [314] (Gk t (B 20 29) 311 406 n 609 1050 428 1 0 0 3 [314,351] ([])))))
noncomputable def XE:CC:=fun t P=>Gk t (B 20 30) 312 409 n 616 1058 435 2 2 0 3 [314,372,276,407,320,408] (Gk t (B 20 31) 313 410 n 623 1070 454 2 2 0 3 [314,354] (Gk t (B 20 32) 226 411 n 630 1078 457 1 0 0 3 [314] (q t 1085 [357,412,358]::H t [D P 198 812 (s 285 817),D P 200 816 (i 254 815),d P 225 829 409,d P 360 838 416,d P 361 845 423,d P 362 852 430,d P 363 867 437,d P 288 875 445,d P 364 883 453,d P 365 891 461,d P 366 899 469,d P 367 907 477,d P 289 914 484,d P 290 921 491,d P 291 929 498,d P 292 936 505,d P 293 943 512,d P 294 950 519,d P 295 957 526,d P 296 964 533,d P 297 971 540,d P 298 978 547,d P 299 985 554,d P 301 992 561,d P 302 1002 569,d P 303 1010 577,d P 304 1022 585,d P 308 1032 593,d P 309 1042 601,d P 310 1049 608,d P 311 1057 615,d P 312 1069 622,d P 313 1077 629,d P 226 1084 636,d P 210 1088 637,D P 2 1089 n] 2::cl t 359 [r 162] [r 639,r 162,r 135,y t 63] 638 [] (some (r 395)) 805 813 n::V t 70 [r 639,r 639,r 639]::V t 194 [b t 197,r 639]::Go t (A 22) 414 414 n 642 1094 460 2 0 0 3 [216,422,423] (Go t (A 23) 415 415 n 649 1103 481 2 0 0 3 [216,422,258] ([])))))
noncomputable def XF:CC:=fun t P=>Go t (A 24) 416 416 n 656 1112 486 1 0 0 7 [425,281,372,258] (Go t (A 25) 417 417 n 663 1122 491 1 0 0 3 [372] (Go t (A 26) 418 418 n 670 1129 494 1 0 0 7 [426,427,272,428,429] (Go t (A 28) 420 420 n 677 1141 515 1 0 0 3 [427,428,322,430] (E t::V t 194 [b t 195,y t 72]::H t [D P 198 1160 (s 413 1151),D P 278 1162 (s 421 1161),D P 200 1164 (i 524 1163),d P 225 1176 698,d P 431 1184 706,d P 432 1192 713,d P 433 1201 721,d P 434 1208 728,d P 435 1220 735,d P 436 1231 742,d P 437 1239 749,d P 438 1248 757,d P 310 1255 764,d P 311 1263 771,d P 210 1284 772] 15::E t::w 4 [(526,697),(568,704),(571,712),(574,720),(587,727),(594,734),(621,741),(758,748),(765,756),(768,763),(771,770)]::c t 421 1155 524 687::[]))))
noncomputable def PB:CC:=fun t P=>R t 689 686 413 1151::U t [n,n,F,F]::Gl t (B 30 0) 225 442 (r 691) 692 1165 526 5 0 0 3 [314,439,440,441,431,423] (Gl t (B 30 1) 431 443 n 699 1177 567 1 0 0 3 [314] (V t 59 [r 705,n,n,n,s 431 1184,F]::Gl t (B 30 2) 432 445 n 707 1185 571 2 0 0 3 [314,444] (U t [n]::Gl t (B 30 3) 433 448 (r 714) 715 1193 574 3 0 0 3 [314,446,447] (Gl t (B 30 4) 434 449 n 722 1202 587 1 0 0 3 [314] ([])))))
noncomputable def XG:CC:=fun t P=>Gl t (B 30 5) 435 452 n 729 1209 594 1 0 0 3 [314,444,450,451,447,446] (Gl t (B 30 6) 436 457 n 736 1221 621 1 0 0 3 [314,453,454,455,456] (Gl t (B 30 7) 437 458 n 743 1232 758 2 0 0 3 [314,447] (U t [n,n]::Gl t (B 30 8) 438 460 (r 750) 751 1240 765 3 0 0 3 [314,440,459] (Gl t (B 30 9) 310 461 n 758 1249 768 1 0 0 3 [314] ([])))))
noncomputable def Tg:CC:=fun t P=>Gl t (B 30 10) 311 463 n 765 1256 771 1 0 0 3 [314,462] (q t 1264 [464,465,466,467,468,469,470,471,440,439,459,441,472,473,474,475,462,476,477,478]::H t [D P 198 1160 (s 413 1151),D P 200 1164 (i 524 1163),d P 225 1176 698,d P 431 1184 706,d P 432 1192 713,d P 433 1201 721,d P 434 1208 728,d P 435 1220 735,d P 436 1231 742,d P 437 1239 749,d P 438 1248 757,d P 310 1255 764,d P 311 1263 771,d P 210 1284 772,d P 211 1286 775,d P 212 1288 776,D P 2 1289 n] 4::cl t 421 [y t 63] [r 774,y t 63] 773 [] none 1153 1161 (b t 198)::V t 172 [s 211 1285,r 774,b t 173,b t 174]::V t 172 [s 212 1287,r 774,b t 175,n]::V t 70 [r 774,r 774,r 774]::V t 194 [b t 197,r 774]::U t [F,T]::Gl t (A 31) 480 480 (r 779) 780 1292 776 3 0 0 3 [372,493,441,494] (Gl t (A 32) 418 418 n 787 1302 784 1 0 0 3 [495] (V t 194 [b t 199,r 91]::Gl t (A 35) 483 483 n 795 1312 788 1 0 0 3 [372] ([]))))
noncomputable def Th:CC:=fun t P=>Gm t (A 37) 484 484 n 802 1321 795 1 0 0 3 [496,497] (Gm t (A 38) 485 485 n 809 1329 801 3 0 0 3 [498,499,500,501,502] (gm t (A 39) 486 486 n 816 1340 806 2 0 0 3 (gm t (A 40) 487 487 n 821 1346 816 2 0 0 3 (gm t (A 41) 488 488 n 826 1352 823 3 0 0 3 (gm t (A 42) 489 489 n 831 1358 834 2 0 0 3 ([]))))))
noncomputable def Ti:CC:=fun t P=>gm t (A 43) 490 490 n 836 1364 845 2 0 0 3 (Gm t (A 44) 491 491 n 841 1370 847 2 0 0 3 [503,504,505,506] (gm t (A 45) 492 492 n 848 1380 855 1 0 0 3 ([])))
noncomputable def ch:List (Nat×CC):=[(34,c0),(73,c1),(107,c2),(141,c3),(180,c4),(216,c5),(251,c6),(286,c7),(325,c8),(362,c9),(396,XA),(431,XB),(469,XC),(506,XD),(541,Pb),(578,Tf),(616,PA),(656,XE),(690,XF),(729,PB),(765,XG),(802,Tg),(836,Th),(853,Ti)]
noncomputable def nO:List Obj→Nat→Obj
 | [],_=>z
 | a::_,0=>a
 | _::r,n+1=>nO r n
noncomputable def pk (t:List String) (P:aL) (i:Nat):List (Nat×CC)→Nat→Obj
 | [],_=>z
 | (n,c)::r,b=>cond (Nat.blt i n) (nO (c t P) (Nat.sub i b)) (pk t P i r n)
noncomputable def fin (i:Nat):Mine.D:=fun t P=>pk t P i ch 0
noncomputable def has (i:Nat):List (Nat×Mine.D)→Bool
 | []=>false
 | (a,_)::r=>cond (eW a i) true (has i r)
noncomputable def lk (i:Nat):List (Nat×Mine.D)→Mine.D
 | []=>fin i
 | (a,o)::r=>cond (eW a i) o (lk i r)
noncomputable def PC:Mine.D:=fun t P=>ob .none none (C [D P 163 183 T,d P 164 185 14,d P 165 206 18,d P 166 216 22,D P 167 245 (i 4 0),D P 168 270 T,d P 169 272 27,D P 170 0 (s 171 0),D P 172 273 (s 173 0),D P 174 280 T,D P 175 294 T,D P 176 309 T,D P 177 311 (s 178 0)] 13)
noncomputable def PD:Mine.D:=fun t P=>p3 t P 10 (D P 0 165 (s 160 164)) 11
noncomputable def PE:Mine.D:=fun t P=>z
noncomputable def PF:Mine.D:=fun t P=>p3 t P 24 (D P 0 165 (s 243 435)) 25
noncomputable def Nf:Mine.D:=fun t P=>w 0 (Pz.take 13)
noncomputable def JT:Mine.D:=fun t P=>cl t 256 [r 135] [r 150,r 135,y t 63] 149 [] (some (r 141)) 507 515 n
noncomputable def EC:Mine.D:=fun t P=>cl t 257 [r 135] [r 162,r 135,y t 63] 161 [] (some (r 153)) 525 533 n
noncomputable def PG:Mine.D:=fun t P=>p3 t P 25 (D P 0 165 (s 243 435)) 26
noncomputable def Ng:Mine.D:=fun t P=>w 0 (Pz.take 14)
noncomputable def PH:Mine.D:=fun t P=>p3 t P 26 (D P 0 165 (s 243 435)) 27
noncomputable def Nh:Mine.D:=fun t P=>w 0 (Pz.take 15)
noncomputable def PI:Mine.D:=fun t P=>H t [D P 0 165 (s 413 1151),D P 2 166 n,D P 3 167 n,D P 4 168 (b t 150),D P 5 169 n,d P 179 170 6,d P 180 171 4,D P 181 173 (s 182 172),D P 183 174 n,d P 161 275 12,D P 184 317 (y t 151),d P 244 330 44,d P 245 340 51,d P 246 349 58,d P 247 358 65,d P 248 370 72,d P 249 383 79,d P 250 394 86,d P 251 434 91,d P 252 444 98,d P 253 452 105,d P 254 474 115,d P 255 506 135,d P 256 524 150,d P 257 542 162,d P 284 804 392,d P 359 1091 639,d P 414 1102 648,d P 415 1111 655,d P 416 1121 662,d P 417 1128 669,d P 418 1139 676,d P 419 1140 676,d P 420 1150 683,d P 421 1291 774] 35
noncomputable def Ni:Mine.D:=fun t P=>w 0 (Pz.take 22)
noncomputable def vv (n:Nat):List (Nat×Mine.D):=cond (eW n 779) [(3,PI),(35,Ni)] (cond (eW n 642) [(3,PH),(35,Nh)] (cond (eW n 395) [(3,PG),(35,Ng),(162,EC)] (cond (eW n 165) [(3,PF),(35,Nf),(150,JT),(162,EC)] (cond (eW n 38) [(2,PC),(3,PD),(35,PE)] (cond (eW n 34) [(2,PC),(3,PD)] ([]))))))
noncomputable def G6 (b:Nat→List String→aL→Nat→BT) (s s2 n:Nat) (t:List String) (P:aL) (i:Nat):BT:=@Bool.rec (fun _=>BT) .nil (@Bool.rec (fun _=>BT) (.node (fin i t P) (b n t P (fY i s)) (b n t P (fY i s2))) (.node (lk i (vv n) t P) (b n t P (fY i s)) (b n t P (fY i s2))) (has i (vv n))) (Nat.blt i n)
noncomputable def b0 (_:Nat) (_:List String) (_:aL) (_:Nat):BT:=.nil
noncomputable def b1 (n:Nat) (t:List String) (P:aL) (i:Nat):BT:=G6 b0 1024 2048 n t P i
noncomputable def b2 (n:Nat) (t:List String) (P:aL) (i:Nat):BT:=G6 b1 512 1024 n t P i
noncomputable def b3 (n:Nat) (t:List String) (P:aL) (i:Nat):BT:=G6 b2 256 512 n t P i
noncomputable def b4 (n:Nat) (t:List String) (P:aL) (i:Nat):BT:=G6 b3 128 256 n t P i
noncomputable def b5 (n:Nat) (t:List String) (P:aL) (i:Nat):BT:=G6 b4 64 128 n t P i
noncomputable def b6 (n:Nat) (t:List String) (P:aL) (i:Nat):BT:=G6 b5 32 64 n t P i
noncomputable def b7 (n:Nat) (t:List String) (P:aL) (i:Nat):BT:=G6 b6 16 32 n t P i
noncomputable def b8 (n:Nat) (t:List String) (P:aL) (i:Nat):BT:=G6 b7 8 16 n t P i
noncomputable def b9 (n:Nat) (t:List String) (P:aL) (i:Nat):BT:=G6 b8 4 8 n t P i
noncomputable def XH (n:Nat) (t:List String) (P:aL) (i:Nat):BT:=G6 b9 2 4 n t P i
noncomputable def Tj (n:Nat) (t:List String) (P:aL) (i:Nat):BT:=G6 XH 1 2 n t P i
noncomputable def tree (n:Nat) (t:List String) (P:aL):BT:=Tj n t P 0
end HD
noncomputable def yZ:List String→aL→BT:=HD.tree 34
noncomputable def PJ:List String→aL→BT:=HD.tree 38
noncomputable def Nj:List String→aL→BT:=HD.tree 165
noncomputable def Nk:List String→aL→BT:=HD.tree 395
noncomputable def Nl:List String→aL→BT:=HD.tree 642
noncomputable def Nm:List String→aL→BT:=HD.tree 779
noncomputable def Du:List String→aL→BT:=HD.tree 853
noncomputable def PK (t:List String) (w:aw) (os:bR):f9:=⟨yZ t w.params,34,{},#[],{},318,os⟩
noncomputable def JU (t:List String) (w:aw) (os:bR):f9:=⟨PJ t w.params,38,{},#[],{},324,os⟩
noncomputable def Mw (t:List String) (w:aw) (os:bR):f9:=⟨Nj t w.params,165,{},#[],{},543,os⟩
noncomputable def Mx (t:List String) (w:aw) (os:bR):f9:=⟨Nk t w.params,395,{},#[],{},805,os⟩
noncomputable def My (t:List String) (w:aw) (os:bR):f9:=⟨Nl t w.params,642,{},#[],{},1092,os⟩
noncomputable def Mz (t:List String) (w:aw) (os:bR):f9:=⟨Nm t w.params,779,{},#[],{},1292,os⟩
noncomputable def ED (t:List String) (w:aw) (os:bR):f9:=⟨Du t w.params,853,{},#[],{},1386,os⟩
noncomputable def PL:D:=HD.fin 0
noncomputable def Tk:D:=HD.fin 1
noncomputable def JV:D:=fun t _=>HD.fo t (vP pw 14) 253 253 .none 243 435 104
noncomputable def JW:D:=fun t _=>HD.fo t (zg pw 16 1) 279 283 .none 243 435 131
noncomputable def PM:D:=HD.fin 2
noncomputable def Nn:D:=fun t _=>HD.fo t (vP pw 4) 245 245 .none 261 331 50
noncomputable def No:D:=fun t _=>HD.fo t (vP pw 5) 246 246 .none 261 331 57
noncomputable def Np:D:=fun t _=>HD.fo t (vP pw 6) 247 247 .none 261 331 64
noncomputable def Nq:D:=fun t _=>HD.fo t (vP pw 7) 248 248 .none 261 331 71
noncomputable def Nr:D:=fun t _=>HD.fo t (vP pw 8) 249 249 .none 261 331 78
noncomputable def Nt:D:=fun t _=>HD.fo t (vP pw 10) 250 250 .none 274 384 85
noncomputable def JX:D:=fun t _=>HD.fo t (zg pw 20 1) 225 371 (HD.r 402) 243 435 408
noncomputable def JY:D:=fun t _=>HD.fo t (zg pw 20 2) 373 374 .none 243 435 415
noncomputable def JZ:D:=fun t _=>HD.fo t (zg pw 20 3) 317 375 .none 243 435 422
noncomputable def J0:D:=fun t _=>HD.fo t (zg pw 20 25) 304 401 (HD.r 578) 243 435 584
noncomputable def J1:D:=fun t P=>Obj.mk (HD.y t 72) none (.cls (n7 (X 359) [(HD.r 162)] [(HD.r 639),(HD.r 162),(HD.r 135),(HD.y t 63)] 638 (X 359) true [] [] false none false)) (dD [(some (HD.r 395)),none,(some (HD.s 359 805)),(some (HD.s 359 813)),(some .none),(some (.bool true))])
noncomputable def J2:D:=fun t _=>HD.fo t (zg pw 30 0) 225 442 (HD.r 691) 413 1151 697
noncomputable def J4:D:=fun t _=>HD.fo t (zg pw 30 1) 431 443 .none 413 1151 704
noncomputable def J5:D:=fun t _=>HD.fo t (zg pw 30 5) 435 452 .none 413 1151 734
noncomputable def J6:D:=fun t _=>HD.fo t (zg pw 30 6) 436 457 .none 413 1151 741
noncomputable def J7:D:=fun t _=>HD.fo t (zg pw 30 9) 310 461 .none 413 1151 763
noncomputable def EE:D:=fun t _=>HD.fo t (zg pw 30 10) 311 463 .none 413 1151 770
noncomputable def AK:D:=HD.fin 3
noncomputable def J8:D:=fun t _=>HD.fo t (vP pw 31) 480 480 (HD.r 779) 413 1151 785
noncomputable def J9:D:=fun t P=>HD.ob .none none (HD.K [])
noncomputable def Bs:D:=fun t P=>HD.ob (HD.y t 153) none (HD.K [(HD.s 418 1302),(HD.s 418 1303),(HD.s 182 1304),(HD.i 784 0),(HD.i 1 0),(HD.i 0 0),(HD.i 0 0),(HD.i 3 0),(HD.r 787),(.bool true),(HD.i 318 0),(HD.r 788),.none,(HD.r 789),(HD.r 790),(HD.r 791),(HD.i 1306 0),(HD.i 784 0),(HD.s 182 1307)])
noncomputable def Ka:D:=fun t _=>HD.fo t (vP pw 32) 418 418 .none 413 1151 792
noncomputable def Kb:D:=fun t _=>HD.fo t (vP pw 35) 483 483 .none 413 1151 800
noncomputable def Kc:D:=fun t _=>HD.fo t (vP pw 37) 484 484 .none 479 1319 807
noncomputable def Kd:D:=fun t _=>HD.fo t (vP pw 38) 485 485 .none 479 1319 814
noncomputable def Ke:D:=fun t _=>HD.fo t (vP pw 39) 486 486 .none 479 1319 819
noncomputable def Kf:D:=fun t _=>HD.fo t (vP pw 40) 487 487 .none 479 1319 824
noncomputable def Kg:D:=fun t _=>HD.fo t (vP pw 41) 488 488 .none 479 1319 829
noncomputable def Kh:D:=fun t _=>HD.fo t (vP pw 42) 489 489 .none 479 1319 834
noncomputable def Ki:D:=fun t _=>HD.fo t (vP pw 43) 490 490 .none 479 1319 839
noncomputable def Kj:D:=fun t _=>HD.fo t (vP pw 44) 491 491 .none 479 1319 846
noncomputable def Kk:D:=fun t _=>HD.fo t (vP pw 45) 492 492 .none 479 1319 851
noncomputable def tw:List String:=["dict","builtins.__doc__:str#opaque","builtins.__package__:str#opaque","builtins.__loader__:shared#opaque","builtins.__spec__#opaque","__build_class__","__import__","abs","all","any","ascii","bin","breakpoint","callable","chr","compile","delattr","dir","divmod","eval","exec","format","getattr","globals","hasattr","hash","hex","id","input","isinstance","issubclass","iter","aiter","len","locals","max","min","next","anext","oct","ord","pow","print","repr","round","setattr","sorted","sum","vars","bool","memoryview","bytearray","bytes","classmethod","complex","enumerate","filter","float","frozenset","property","int","list","map","object","range","reversed","set","slice","staticmethod","str","super","tuple","type","zip","BaseException","BaseExceptionGroup","Exception","GeneratorExit","KeyboardInterrupt","SystemExit","ArithmeticError","AssertionError","AttributeError","BufferError","EOFError","ImportError","LookupError","MemoryError","NameError","OSError","ReferenceError","RuntimeError","StopAsyncIteration","StopIteration","SyntaxError","SystemError","TypeError","ValueError","Warning","FloatingPointError","OverflowError","ZeroDivisionError","BytesWarning","DeprecationWarning","EncodingWarning","FutureWarning","ImportWarning","PendingDeprecationWarning","ResourceWarning","RuntimeWarning","SyntaxWarning","UnicodeWarning","UserWarning","BlockingIOError","ChildProcessError","ConnectionError","FileExistsError","FileNotFoundError","InterruptedError","IsADirectoryError","NotADirectoryError","PermissionError","ProcessLookupError","TimeoutError","IndentationError","_IncompleteInputError","IndexError","KeyError","ModuleNotFoundError","NotImplementedError","PythonFinalizationError","RecursionError","UnboundLocalError","UnicodeError","BrokenPipeError","ConnectionAbortedError","ConnectionRefusedError","ConnectionResetError","TabError","UnicodeDecodeError","UnicodeEncodeError","UnicodeTranslateError","ExceptionGroup","open","builtins.quit#opaque","builtins.exit#opaque","builtins.copyright#opaque","builtins.credits#opaque","builtins.license#opaque","builtins.help#opaque","__main__.__loader__#opaque","collections.deque","module","code","frame","off-the-table:_sre.__loader__:shared#opaque","off-the-table:_sre.__spec__:shared#opaque","_sre.compile","off-the-table:_sre.template:shared#opaque","off-the-table:_sre.getcodesize:shared#opaque","off-the-table:_sre.ascii_iscased:shared#opaque","off-the-table:_sre.unicode_iscased:shared#opaque","off-the-table:_sre.ascii_tolower:shared#opaque","off-the-table:_sre.unicode_tolower:shared#opaque","_frozen_importlib.BuiltinImporter.__doc__:str#opaque","_frozen_importlib.BuiltinImporter.find_spec#opaque","_frozen_importlib.BuiltinImporter.create_module#opaque","_frozen_importlib.BuiltinImporter.exec_module#opaque","_frozen_importlib.BuiltinImporter.get_code#opaque","_frozen_importlib.BuiltinImporter.get_source#opaque","_frozen_importlib.BuiltinImporter.is_package#opaque","_frozen_importlib.BuiltinImporter.load_module#opaque","getset_descriptor","function.__dict__","function.__dict__#set","ExceptionGroup.__weakref__","_frozen_importlib.ModuleSpec.__doc__:str#opaque","_frozen_importlib.ModuleSpec.__init__#opaque","_frozen_importlib.ModuleSpec.__repr__#opaque","_frozen_importlib.ModuleSpec.__eq__#opaque","_frozen_importlib.ModuleSpec.cached#opaque","_frozen_importlib.ModuleSpec.parent#opaque","_frozen_importlib.ModuleSpec.has_location#opaque","off-the-table:_collections.__doc__:shared#opaque","off-the-table:_collections.__loader__:shared#opaque","off-the-table:_collections.__spec__:shared#opaque","_collections._count_elements","collections.defaultdict","off-the-table:_collections._deque_iterator:shared#opaque","off-the-table:_collections._deque_reverse_iterator:shared#opaque","collections._tuplegetter","collections.OrderedDict","function","re.Pattern","builtin_function_or_method","type.__prepare__","OSError.__new__","object.__init_subclass__","object.__new__","re.Pattern.search"]
noncomputable def XI:List String:=[PySem.W.SL.s14018661285674007319x4,"builtins.__doc__:str#opaque","builtins.__package__:str#opaque","builtins.__loader__:shared#opaque",PySem.W.SL.s11665532747177232413x24,PySem.W.SL.s15183661809925369436x15,PySem.W.SL.s13915890719876406383x10,PySem.W.SL.s13459172003223722735x3,PySem.W.SL.s10557405761357834076x3,PySem.W.SL.s4233737765568776869x3,PySem.W.SL.s2508922471967985374x5,PySem.W.SL.s15574269061696679450x3,PySem.W.SL.s6016482663378992977x10,PySem.W.SL.s5596568736180474577x8,PySem.W.SL.s2839554839881490554x3,PySem.W.SL.s725004073602090463x7,PySem.W.SL.s9436932552931045734x7,PySem.W.SL.s2754603736356183583x3,PySem.W.SL.s15185746759980889043x6,PySem.W.SL.s8192189862530294059x4,PySem.W.SL.s7038307821325472102x4,PySem.W.SL.s5662562618415449548x6,PySem.W.SL.s15281542589158584767x7,PySem.W.SL.s17651547275483570877x7,PySem.W.SL.s4036449017235975746x7,PySem.W.SL.s8879979712987360175x4,PySem.W.SL.s1801250619170735830x3,PySem.W.SL.s17659931425627118568x2,PySem.W.SL.s6063217899685152688x5,PySem.W.SL.s8008927332132565319x10,PySem.W.SL.s3544116645089599534x10,PySem.W.SL.s13761710972054866084x4,PySem.W.SL.s12896375587409280029x5,PySem.W.SL.s13014049009108672802x3,PySem.W.SL.s13935586738268321596x6,PySem.W.SL.s8200498257699607233x3,PySem.W.SL.s14114244577727609259x3,PySem.W.SL.s1499430450269397089x4,PySem.W.SL.s8755793994789770505x5,PySem.W.SL.s15725212667919936108x3,PySem.W.SL.s15791221867095933363x3,PySem.W.SL.s81309575031448614x3,PySem.W.SL.s8069831620301644142x5,PySem.W.SL.s10061844253413749634x4,PySem.W.SL.s9496514870978017513x5,PySem.W.SL.s8899691144933366716x7,PySem.W.SL.s15201008993051130160x6,PySem.W.SL.s741896355592496720x3,PySem.W.SL.s17925004256654032244x4,PySem.W.SL.s11695548795398191787x4,PySem.W.SL.s4156966113859768872x10,PySem.W.SL.s9501651726347032510x9,PySem.W.SL.s15722918466584999320x5,PySem.W.SL.s591115383303110208x11,PySem.W.SL.s15721156781594690315x7,PySem.W.SL.s14340494229221121180x9,PySem.W.SL.s13429844117177748173x6,PySem.W.SL.s16463266125957815391x5,PySem.W.SL.s4922535414793169389x9,PySem.W.SL.s8101838861749082086x8,PySem.W.SL.s7066276694103001551x3,PySem.W.SL.s9222952809800978799x4,PySem.W.SL.s462964344163437139x3,PySem.W.SL.s2742458400755230247x6,PySem.W.SL.s1438033511350832697x5,PySem.W.SL.s14365286008749172514x8,PySem.W.SL.s3642769012341782148x3,PySem.W.SL.s4674234679698826739x5,PySem.W.SL.s16656946322747308186x12,PySem.W.SL.s10796804682411823810x3,PySem.W.SL.s4290257624100764138x5,PySem.W.SL.s2766695959194262286x5,PySem.W.SL.s17162191345867700912x4,PySem.W.SL.s14339709457334898076x3,PySem.W.SL.s4278001404047624695x13,PySem.W.SL.s6585700554429387442x18,PySem.W.SL.s5946037652744460706x9,PySem.W.SL.s7410770068591931388x13,PySem.W.SL.s11817881795495490833x17,PySem.W.SL.s15679963881808890155x10,PySem.W.SL.s3871700062485845797x15,PySem.W.SL.s7689518266570723881x14,PySem.W.SL.s9001593270443806431x14,PySem.W.SL.s6882542574934516792x11,PySem.W.SL.s14403400214490484960x8,PySem.W.SL.s14457978657717015782x11,PySem.W.SL.s1753610191782819921x11,PySem.W.SL.s14119380538032626715x11,PySem.W.SL.s11437920000406562045x9,PySem.W.SL.s10852414792293593619x7,PySem.W.SL.s14816307405966870543x14,PySem.W.SL.s8682627914449686677x12,PySem.W.SL.s4428170145600203450x18,PySem.W.SL.s5991306692159431302x13,PySem.W.SL.s16067994140765818257x11,PySem.W.SL.s2327743974964600596x11,PySem.W.SL.s2804747833354056582x9,PySem.W.SL.s6070975301684473832x10,PySem.W.SL.s14270485950484850486x7,PySem.W.SL.s12041534306414923332x18,PySem.W.SL.s2531307568338490285x13,PySem.W.SL.s631175304937289666x17,PySem.W.SL.s5144983644357021410x12,PySem.W.SL.s18039099521571816885x18,PySem.W.SL.s6011586214260557989x15,PySem.W.SL.s5430567037509283100x13,PySem.W.SL.s8117915138073963741x13,PySem.W.SL.s3423317712779056401x25,PySem.W.SL.s2007317383269046180x15,PySem.W.SL.s17481586968713580700x14,PySem.W.SL.s2450899226349176912x13,PySem.W.SL.s16626165730633575011x14,PySem.W.SL.s14288496050688921416x11,PySem.W.SL.s5735081916595925998x15,PySem.W.SL.s3865607918536308442x17,PySem.W.SL.s13337502604062700212x15,PySem.W.SL.s13114017843053701147x15,PySem.W.SL.s17467278006356818441x17,PySem.W.SL.s17722149559621369488x16,PySem.W.SL.s7855274175708717672x17,PySem.W.SL.s13351283678309829046x18,PySem.W.SL.s6668348653404991179x15,PySem.W.SL.s12913350958174193794x18,PySem.W.SL.s16115879512475548326x12,PySem.W.SL.s15920661018069861047x16,PySem.W.SL.s10779130036587390575x21,PySem.W.SL.s7801419657504700863x10,PySem.W.SL.s1688129525768580628x8,PySem.W.SL.s1031832959479892071x19,PySem.W.SL.s8991790508128307865x19,PySem.W.SL.s14539662485746970245x23,PySem.W.SL.s11643622729373238714x14,PySem.W.SL.s3386828779285465597x17,PySem.W.SL.s13042696260734638735x12,PySem.W.SL.s18239426817015966623x15,PySem.W.SL.s1270395311379034370x22,PySem.W.SL.s10696252587037064777x22,PySem.W.SL.s7852717498200857586x20,PySem.W.SL.s6377248116197321094x8,PySem.W.SL.s3834378056692298002x18,PySem.W.SL.s17586630440231065808x18,PySem.W.SL.s15234114252648025395x21,PySem.W.SL.s8496462677383758984x14,PySem.W.SL.s16789243406116112673x4,PySem.W.SL.s14400166428656793546x20,PySem.W.SL.s5857708277339239366x20,"builtins.copyright#opaque","builtins.credits#opaque","builtins.license#opaque",PySem.W.SL.s7804999707787243718x20,PySem.W.SL.s7097527257260152453x26,PySem.W.SL.s5314052453082223887x17,PySem.W.SL.s6658869562736209489x6,PySem.W.SL.s5856160107412720595x4,PySem.W.SL.s658472552662922059x5,"off-the-table:_sre.__loader__:shared#opaque","off-the-table:_sre.__spec__:shared#opaque",PySem.W.SL.s492968859115322481x12,"off-the-table:_sre.template:shared#opaque","off-the-table:_sre.getcodesize:shared#opaque","off-the-table:_sre.ascii_iscased:shared#opaque","off-the-table:_sre.unicode_iscased:shared#opaque","off-the-table:_sre.ascii_tolower:shared#opaque","off-the-table:_sre.unicode_tolower:shared#opaque","_frozen_importlib.BuiltinImporter.__doc__:str#opaque","_frozen_importlib.BuiltinImporter.find_spec#opaque","_frozen_importlib.BuiltinImporter.create_module#opaque","_frozen_importlib.BuiltinImporter.exec_module#opaque","_frozen_importlib.BuiltinImporter.get_code#opaque","_frozen_importlib.BuiltinImporter.get_source#opaque","_frozen_importlib.BuiltinImporter.is_package#opaque","_frozen_importlib.BuiltinImporter.load_module#opaque",PySem.W.SL.s14755015743595814543x17,PySem.W.SL.s6511155373996960695x17,PySem.W.SL.s12411053484034534018x21,PySem.W.SL.s10220274742760427390x26,"_frozen_importlib.ModuleSpec.__doc__:str#opaque","_frozen_importlib.ModuleSpec.__init__#opaque","_frozen_importlib.ModuleSpec.__repr__#opaque","_frozen_importlib.ModuleSpec.__eq__#opaque","_frozen_importlib.ModuleSpec.cached#opaque","_frozen_importlib.ModuleSpec.parent#opaque","_frozen_importlib.ModuleSpec.has_location#opaque","off-the-table:_collections.__doc__:shared#opaque","off-the-table:_collections.__loader__:shared#opaque","off-the-table:_collections.__spec__:shared#opaque",PySem.W.SL.s5957113450721151568x28,PySem.W.SL.s9278979716766391425x23,"off-the-table:_collections._deque_iterator:shared#opaque","off-the-table:_collections._deque_reverse_iterator:shared#opaque",PySem.W.SL.s13209474081997913071x24,PySem.W.SL.s8302156878143849030x23,PySem.W.SL.s7174869446012820540x8,PySem.W.SL.s12171344214640291687x10,PySem.W.SL.s11030030927630378310x26,PySem.W.SL.s10062305145149207511x16,PySem.W.SL.s2438369993680799366x15,PySem.W.SL.s4860613602091757760x24,PySem.W.SL.s11443829558043349243x14,PySem.W.SL.s9858327723941210770x17]
theorem vk:tw=XI:=by kernel_rfl
end
variable {an:aD} {w:aw} {P:aL} {am:Heap} {d:Nat}
theorem lU (k:Nat) {a b:Nat} (h:a≤b):a+k≤b+k:=eQ h k
theorem lD (k:Nat) {a b:Nat} (h:a+k≤b+k):a≤b:=Nat.le_of_add_le_add_right h
theorem lR (k:Nat) {a b:Nat} (h:a≤b):a≤b+k:=aj h (cp b k)
theorem lT {a b c:Nat} (h:a≤b) (g:b≤c):a≤c:=aj h g
theorem lE {a b:Nat} (h:a=b):a≤b:=aJ h
theorem lS {a b:Nat} (h:a=b):b≤a:=aJ h.symm
theorem lN {a b:Nat} (h:¬ a < b):b≤a:=bC h
theorem lM {a b:Nat} (h:¬ a≤b):b+1≤a:=dB h
theorem lP {a:Nat} (h:a≠0):1≤a:=pO h
theorem lA {a b:Nat} (h:a≤b) (g:b≤a):a=b:=ir h g
theorem lX {a b:Nat} {p:Prop} (h:a≤b) (g:b+1≤a):p:=absurd h (qn g)
theorem lF {a b:Nat} (g:a≤b):¬ b < a:=fm g
theorem lL {a b:Nat} (g:a+1≤b):a≠b:=ax g
theorem lH {a b:Nat} (g:b+1≤a):a≠b:=br g
theorem lC {a b:Nat} (g:a≤b) (h:a≠b):a+1≤b:=gw g h
theorem lB {a b:Nat} (g:a≤b) (h:b≠a):a+1≤b:=gw g h.symm
theorem lI {a b:Nat}:a≤a+b:=cp a b
theorem lJ {a b:Nat}:b≤a+b:=j8 b a
theorem lV {a b:Nat}:a - b≤a:=dS a b
theorem lZ {a:Nat}:0≤a:=bK a
theorem lO {a:Nat}:a≤a:=ar a
theorem nA (n:Nat):0+n=n:=Nat.zero_add n
theorem nB (a b:Nat):a+b - a=b:=Nat.add_sub_cancel_left ..
theorem nC (r:Nat):((r+1:Nat):Int) - 1=r:=qy (r:Int) 1
theorem nE (i:Nat):¬ (i:Int) < 0:=jR.mpr (qb i)
theorem nF (v:Nat):(0:Int)≤v:=qb v
theorem nH {n k:Nat} {m:Int} (h:n≤k) (d:(k:Int) < m:=by decide):(n:Int) < m:=jw (iU.mpr h) d
theorem nK {n k:Nat} {m:Int} (h:n≤k) (d:(k:Int)≤m:=by decide):(n:Int)≤m:=aY (iU.mpr h) d
theorem nI {n k m:Nat} (h:n≤k) (d:k≤m:=by decide):n≤m:=aj h d
theorem nL {a j:Nat} (h:a≤j):j=a+(j - a):=(dG h).symm
theorem nM {N:Nat} (h:0 < N):1+(N - 1)≤N:=aJ (dG h)
theorem nN {i r T:Nat} (h:i+(r+1)=T):i+1+r=T:=(cR i 1 r).trans h
theorem nO {i r T:Nat} (h:i+(r+1)≤T):i+1+r≤T:=aj (aJ (cR i 1 r)) h
theorem nP {i r T:Nat} (h:i+(r+1)≤T):i < T:=aj (dP (cp i r)) h
theorem nQ {i r T:Nat} (h:i+(r+1)=T):i < T:=nP (aJ h)
theorem nR (p:Nat):p≠2 * p+1:=ax (fK (iM p (by decide)))
theorem XJ (p:Nat):p≠2 * p+2:=ax (bJ (fK (iM p (by decide))))
theorem nS {j:Nat} (h:0 < j):(j - 1) / 2 < j:=bN (n8 _ _) (dh h (by decide))
theorem nT {j n:Nat} (h:0 < j) (g:j < n):(j - 1) / 2 < n:=dj (nS h) g
theorem nU {j:Nat} (h:0 < j):(j - 1) / 2≠j:=ax (nS h)
theorem nW {c p:Nat} (h:c=2 * p+1∨c=2 * p+2):(c - 1) / 2=p:=h.elim (fun e=>e▸Nat.mul_div_cancel_left p (by decide)) (fun e=>e▸Nat.mul_add_div (by decide) p 1)
theorem XK {c p:Nat} (h:c=2 * p+1∨c=2 * p+2):p < c:=h.elim (fun e=>e▸fK (iM p (by decide))) (fun e=>e▸bJ (fK (iM p (by decide))))
theorem nY {a b:Nat} (h:a≤b):(b:Int) - a=((b - a:Nat):Int):=(qc h).symm
theorem nZ {n l r:Nat} (h:n < l+r) (g:l≤n):n - l < r:=Nat.sub_lt_left_of_lt_add g h
theorem mB {a b:Nat} (h:0 < a) (g:a≤b):a - 1 < b:=aC (dh h (by decide)) g
theorem mD {a:Nat} (h:0 < a):a≠a - 1:=br (dh h (by decide))
theorem mE {i j:Nat} (h:i < j) (g:0 < i):i - 1 < j - 1:=oG g h
theorem mG {l r n:Nat} (h:l < r) (g:r≤n):(l+r) / 2 < n:=aC (md (fD (ph h r) (Nat.two_mul r).symm)) g
theorem mH {l r:Nat} (h:l < r):(l+r) / 2 < r:=md (fD (ph h r) (Nat.two_mul r).symm)
theorem mI {l r:Nat} (h:l < r):l≤(l+r) / 2:=(Nat.le_div_iff_mul_le (by decide)).mpr (aj (aJ (Nat.mul_two l)) (cx (bp h) l))
theorem mJ {a b:Nat} (h:a≤b):max 0 (min (a:Int) b)=a:=(congrArg (max 0) (Int.min_eq_left (iU.mpr h))).trans (oV (nF a))
theorem mK {a b:Nat} (h:a < b):(a:Int) < b:=iO.mpr h
theorem mL {a b:Nat} (h:a≤b):(a:Int)≤b:=iU.mpr h
theorem mM {a b:Nat} (h:¬ a < b):¬ (a:Int) < b:=fun q=>h (iO.mp q)
theorem mN {a b:Nat} (h:(a:Int) < b):a < b:=iO.mp h
theorem mR {a b c:Nat} (h:a+b=c):a≤c:=aj (cp a b) (aJ h)
theorem mT {a b c:Nat} (h:a+b≤c):a≤c:=aj (cp a b) h
theorem mW {n:Nat} (h:1≤n):max n 1=n:=Nat.max_eq_left h
theorem mZ {a b:Int} (h:¬ a < b):b≤a:=jR.mp h
theorem oA {a b:Int} (h:¬ a≤b):b < a:=Int.not_le.mp h
theorem oB {i n m:Nat} (h:i < m):n+i < n+m:=qL h n
theorem oD {x n:Nat} (h:x≤n):n - x+x=n:=fA h
theorem pL {α} {a b:α} {l:List α}:b∈a::b::l:=.tail _ (.head _)
theorem pM {α} {a b c:α} {l:List α}:c∈a::b::c::l:=.tail _ (.tail _ (.head _))
theorem zA {a b:Nat} (h:a < b):0 < b:=bN (bK a) h
theorem zB {a b:Nat} (h:0 < a) (g:(a - 1) / 2=b):a=2 * b+1∨a=2 * b+2:=have E:a=2 * b+(a - 1) % 2+1:=(fA h).symm.trans (congrArg (·+1) ((Nat.div_add_mod (a - 1) 2).symm.trans (congrArg (2 * ·+(a - 1) % 2) g)));(Nat.mod_two_eq_zero_or_one (a - 1)).elim (fun e=>.inl (E.trans (congrArg (2 * b+·+1) e))) (fun e=>.inr (E.trans (congrArg (2 * b+·+1) e)))
theorem zT {c k b:Nat}:((c:Int) - k - b).toNat=c - k - b:=(congrArg mh (kK c k b)).trans ((oU c (k+b)).trans (j5 c k b).symm)
theorem zU {a b c:Nat} (h:a+b < c):(c:Int) - 1 - a - b=((c - 1 - a - b:Nat):Int):=((congrArg (· - (b:Int)) (kK c 1 a)).trans (kK c (1+a) b)).trans ((nY (b:=c) (a:=1+a+b) (aj (aJ ((rd 1 a b).trans (fH 1 (a+b)))) h)).trans (congrArg kj (by rw [j5,j5,rd])))
theorem zC {a b n:Nat} (h:a+100 * (b+1)+100 < n):a+3+100 * b+100 < n:=bN (eQ (aj (aJ (cR a 3 (100 * b))) (cx (by decide:3≤100) (a+100 * b))) 100) h
theorem zD {a b n:Nat} (h:a+8 * (b+1)+8 < n):a+1+8 * b+8 < n:=bN (eQ (aj (aJ (cR a 1 (8 * b))) (cx (by decide:1≤8) (a+8 * b))) 8) h
theorem zE {a:Nat} (h:a < 3):a=0∨a=1∨a=2:=(by decide:∀ a,a < 3→a=0∨a=1∨a=2) a h
theorem VL {a b:Nat} (h0:1≤a) (h1:¬1=a) (h2:b≤1+1+(a - (1+1))):b≤a:=aj h2 (aJ (dG (gw h0 h1)))
theorem VM {a b:Nat} (h0:1≤a) (h1:¬1=a) (h2:b≤1+1+(a - (1+1))):b+(a - b)≤a:=aJ (dG (VL h0 h1 h2))
theorem PN {a b:Nat} (h0:¬a≤b):max 0 (min (↑a:Int) (↑b:Int))=(↑b:Int):=(congrArg (max 0) (Int.min_eq_right (mL (oq h0)))).trans (oV (nF b))
theorem Tl {a b c:Nat} (h0:a≤b) (h1:a≤c) (h2:b - a=c - a):b=c:=(fA h0).symm.trans ((congrArg (·+a) h2).trans (fA h1))
theorem Tm {a b c:Nat} (h0:a≤5 * b) (h1:c≤5):c+a≤5 * (b+1):=aj (fu h1 h0) (aJ (fH 5 (5 * b)))
theorem Tn {a b c:Nat} (h0:a≤17) (h1:b≤17 * c):a+b≤17 * (c+1):=aj (fu h0 h1) (aJ (fH 17 (17 * c)))
theorem To {m:Nat} {a b c:Nat} (h0:a+8 * (b+2)+8 < m) (h1:c≤a+1+1):c+10 < m:=bN (aj (eQ h1 10) (cx (j8 12 (8 * b+12)) a)) h0
theorem PO {a b c d e:Nat} (h0:a≤3) (h1:b+(c+1)=a) (h2:d≤b) (h3:e≤1):d+e≤1000000:=aj (fu (aj h2 (aj (mR h1) h0)) h3) (by decide)
theorem Nu {a:Nat} (h0:a≤3):a=0∨a=1∨a=2∨a=3:=(by decide:∀ a,a < 4→a=0∨a=1∨a=2∨a=3) a (fK h0)
theorem Tp {a:Nat} (h0:1≤a) (h1:a≤3):a=0∨a=1∨a=2∨a=3:=(by decide:∀ a,a < 4→a=0∨a=1∨a=2∨a=3) a (fK h1)
theorem Tq {a b:Nat} {P:Prop} (h0:0 < a) (h1:0 < b) (h2:(b - 1) / 2=a) (h3:b < a+1):P:=absurd (h2▸nS h1:a < b) (fm (de h3))
theorem Tr {a b:Nat} {P:Prop} (h0:0 < a) (h1:(a - 1) / 2=b) (h2:a < b+1):P:=absurd (h1▸nS h0:b < a) (fm (de h2))
theorem PP {a b:Nat} (h0:0 < a) (h1:(a - 1) / 2=b):a≠b:=fun e=>ax (nS h0) (h1.trans e.symm)
theorem Ts {a b c d:Nat} (h0:a≤b+(c+1)) (h1:d=2 * b+1∨d=2 * b+2):a≤d+c:=aj h0 (aj (aJ (cR b 1 c).symm) (eQ (XK h1) c))
theorem PQ {a b:Nat} (h0:0 < a) (h1:a≠2 * b+1) (h2:(a - 1) / 2=b):a=2 * b+2:=(zB h0 h2).resolve_left h1
theorem PR {a b c d:Nat} {P:Prop} (h0:a≤2 * b+1) (h1:a=c) (h2:0 < d) (h3:(d - 1) / 2=b) (h4:d < a):P:=absurd h3 (ax (md (aC (dh h2 dC) (de (aC h4 h0)))))
theorem Tt {a:Nat} (h0:61≤a) (h1:a≤67):a=61∨a=62∨a=63∨a=64∨a=65∨a=66∨a=67:=(by decide:∀ a,a < 68→61≤a→a=61∨a=62∨a=63∨a=64∨a=65∨a=66∨a=67) a (fK h1) h0
theorem Tu {a b c:Nat} (h0:a≤b) (h1:¬a < b) (h2:c < b) (h3:min c a=a):False:=h1 (bN (aj (aJ h3.symm) (eY c a)) h2)
theorem XM {a b c:Nat} (h0:a≤b+1) (h1:c+(b+1)≤100000) (h2:63 < a):1+c≤1000000:=aj (aJ (fH 1 c)) (aj (cx (dP (bK b)) c) (aj h1 (by decide)))
theorem PS {a:Int} (h0:1≤a) (h1:a≤2 ^ 102):0≤a∧a≤2 ^ 206:=⟨bI h0,aY h1 (by decide)⟩
theorem Tv {a b c:Nat} (h0:a+b < c):((↑c:Int) - 1 - (↑a:Int) - (↑b:Int)).toNat=c - 1 - a - b:=(congrArg (fun x:Int=>(x - b).toNat) (kK c 1 a)).trans ((zT (k:=1+a)).trans (congrArg (· - b) (j5 c 1 a).symm))
theorem Tw {a b c:Nat} (h0:a+b < c) (h1:((↑c:Int) - 1 - (↑a:Int) - (↑b:Int)).toNat=c - 1 - a - b):((↑c:Int) - 1 - ((↑c:Int) - 1 - (↑a:Int) - (↑b:Int))).toNat=c - 1 - (c - 1 - a - b):=(congrArg (fun x:Int=>((c:Int) - 1 - x).toNat) (zU h0)).trans (zT (k:=1))
theorem Ty {a b c d:Nat} (h0:a+(b+1)=c) (h1:d+10 * (b+1)≤100) (h2:(↑c:Int) - (↑a:Int)=(↑(c - a):Int)):d+(c - a)≤1000:=aj (cx (aj (jW (aJ (h0.symm.trans (fH _ _)))) (iM (b+1) (by decide))) d) (aj h1 (by decide))
theorem Tz {a b c:Nat} (h0:a≤900) (h1:b=a - c) (h2:b≠0):c+b≤1000:=aj (aJ ((congrArg (c+·) h1).trans (dG (bp (Nat.lt_of_sub_ne_zero (h1▸h2)))))) (aj h0 (by decide))
theorem TA {a:Nat}:min 3 a+(0+1+1+1 - a)=3:=(fH _ _).trans (Nat.sub_add_min_cancel 3 a)
theorem TB {a b c:Nat} (h0:a+3 * (b+1)≤10000) (h1:c≤2):a+c+3 * b≤10000:=aj (aj (aJ (cR a c (3 * b))) (cx (aj h1 (by decide:2≤3)) (a+3 * b))) h0
theorem TC {a b c d e:Nat} (h0:a+b=c) (h1:d - a=b+e) (h2:1≤b):c≤d:=aj (aJ h0.symm) (nv (bp (ql (aC h2 (aj (cp b e) (aJ h1.symm))))) (aj (cp b e) (aJ h1.symm)))
theorem VN {a b:Nat} (h0:a - b=0) (h1:b≤a):b=a:=ir h1 (jQ h0)
theorem TD {a b c:Nat} (h0:a - b=c+1) (h1:b≤a) (h2:b < a):a - (b+1)=c:=congrArg Nat.pred h0
theorem VO {a b c:Nat} {P:Prop} (h0:a - b=c+1) (h1:b≤a) (h2:a≤b):P:=absurd (h0.symm.trans (qz h2)) (mu c)
theorem XN {a b c:Nat} (h0:a+b≤8) (h1:c≤b) (h2:c < b):a+min c b≤8:=aj (cx (aj (eY _ _) h1) a) h0
theorem XO {a b:Nat} (h0:a≤3):(↑(a - b):Int)≤64:=nK (aj (dS a b) h0)
theorem VP {m:Nat} {a b:Nat} (h0:a+8 * (b+1)+8 < m):a < m:=bN (aj (cp a _) (cp _ 8)) h0
theorem XQ {a b c:Nat} (h0:a < min b c):a < b:=aC h0 (eY _ _)
theorem VQ {a b c d:Nat} (h0:a=b+c) (h1:d < c):b+d < a:=fD (qL h1 b) h0.symm
theorem VR {a b:Nat} (h0:a < b) (h1:1≤b) (h2:¬a=b - 1):a < b - 1:=gw (jk h0) h2
theorem XR {a b c:Nat} (h0:a≤b+1+c) (h1:a < b+(c+1)):a < b+1+c:=fD h1 (cR b c 1)
theorem VS {a:Nat} (h0:1≤a) (h1:¬1=a):1 < 1+(a - 1):=fD (gw h0 h1) (dG h0).symm
theorem XS {a b c:Nat} (h0:a≤b) (h1:¬a≤c):(c+a) / 2≤b:=bp (mG (dB h1) h0)
theorem Sb {a b c d:Nat} (h0:a < b) (h1:c≤a) (h2:¬c≤d):(d+c) / 2 < b:=mG (dB h2) (bp (bN h1 h0))
theorem z9 {a:Nat} {b:Int} (h0:-(↑a:Int)≤b∧-1000000 < b):-2 ^ 63≤b:=aY (by decide) (bI h0.2)
theorem zG {x:Int} (a:0≤x) (b:x < 3):1≤(1+x).toNat∧(1+x).toNat≤3∧1+x=((1+x).toNat:Int):=⟨(Int.le_toNat (ml (by decide) a)).mpr (pd a),Int.toNat_le.mpr (aY (iW (jH 1 x)) b),(jy (ml (by decide) a)).symm⟩
theorem zH {a b c d:Int} (h:a+b≤c):d+(a+(b+0))≤d+c:=iQ (aY (iW (congrArg (a+·) (Int.add_zero b))) h) d
theorem zI {a b c d:Int} (h:a+b≤c):d+(b+(a+0))≤d+c:=zH (aY (iW (jH b a)) h)
theorem zJ {a b c d e f g i j:Int} (h:a+b+c=d) (k:e+f+g=i):e+a+(f+b+(g+c+j))=i+j+d:=by lia
theorem zK {a b c d e:Nat} (h:a≤900) (g:b+c=b+1+d+1) (k:c+e=a - b):b+c≤1000 :=
 have L:c≤a - b:=mR k
 have hc:0 < c:=pO fun q=>absurd g (ax (q▸fK (aj (bX b) (cp (b+1) d))))
 aj (nv (bp (ql (aC hc L))) L) (aj h (by decide))
theorem zL {a d n:Nat} (h:a≤3) (g:d=2 * a+1) (k:7≤n:=by decide):d≤n:=aj (aJ g) (aj (dP (cy 2 h)) k)
theorem zM {a b n:Nat} (h:a+100 * (b+1)+100 < n):a+1+100 * b+100 < n:=bN (eQ (eQ (cx (by decide:1≤3) a) (100 * b)) 100) (zC h)
theorem zN {a b c d:Nat} (h:¬ a < b) (g:c≠d) (k:d < b) (e:min c a=min d a):False :=
 have l:=aC k (bC h)
 have q:=e.trans (rn (bp l))
 (rk c a).elim (fun r=>g ((rn r).symm.trans q)) fun r=>br l ((rg r).symm.trans q)
theorem zO {a:Int} (h:0≤a) (g:a < 3):a=0∨a=1∨a=2 :=
 have e:=(jy h).symm
 (zE ((qT h).mpr g)).imp (fun q=>e.trans (congrArg kj q)) fun r=>r.imp (fun q=>e.trans (congrArg kj q)) fun q=>e.trans (congrArg kj q)
theorem vm {P Q:Prop} (h0:P) (h1:Q):P∧Q:=⟨h0,h1⟩
theorem sS {P Q R:Prop} (h0:P) (h1:Q) (h2:R):P∧Q∧R:=⟨h0,h1,h2⟩
theorem FE {P Q R S:Prop} (h0:P) (h1:Q) (h2:R) (h3:S):P∧Q∧R∧S:=⟨h0,h1,h2,h3⟩
theorem XT {P Q R S T:Prop} (h0:P) (h1:Q) (h2:R) (h3:S) (h4:T):P∧Q∧R∧S∧T:=⟨h0,h1,h2,h3,h4⟩
theorem XU {P Q R S T U:Prop} (h0:P) (h1:Q) (h2:R) (h3:S) (h4:T) (h5:U):P∧Q∧R∧S∧T∧U:=⟨h0,h1,h2,h3,h4,h5⟩
theorem XV {P Q R S T U V:Prop} (h0:P) (h1:Q) (h2:R) (h3:S) (h4:T) (h5:U) (h6:V):P∧Q∧R∧S∧T∧U∧V:=⟨h0,h1,h2,h3,h4,h5,h6⟩
theorem Au {A0:Sort _} {P:A0→Prop} (x0:A0) (h0:P x0):∃ x0,P x0:=⟨x0,h0⟩
theorem i12 {A0:Sort _} {P Q:A0→Prop} (x0:A0) (h0:P x0) (h1:Q x0):∃ x0,P x0∧Q x0:=⟨x0,h0,h1⟩
theorem sN {A0:Sort _} {P Q R:A0→Prop} (x0:A0) (h0:P x0) (h1:Q x0) (h2:R x0):∃ x0,P x0∧Q x0∧R x0:=⟨x0,h0,h1,h2⟩
theorem Kl {A0:Sort _} {P Q R S:A0→Prop} (x0:A0) (h0:P x0) (h1:Q x0) (h2:R x0) (h3:S x0):∃ x0,P x0∧Q x0∧R x0∧S x0:=⟨x0,h0,h1,h2,h3⟩
theorem Sc {A0:Sort _} {P Q R S T:A0→Prop} (x0:A0) (h0:P x0) (h1:Q x0) (h2:R x0) (h3:S x0) (h4:T x0):∃ x0,P x0∧Q x0∧R x0∧S x0∧T x0:=⟨x0,h0,h1,h2,h3,h4⟩
theorem Km {A0:Sort _} {A1:Sort _} {P:A0→A1→Prop} (x0:A0) (x1:A1) (h0:P x0 x1):∃ x0 x1,P x0 x1:=⟨x0,x1,h0⟩
theorem tW {A0:Sort _} {A1:Sort _} {P Q:A0→A1→Prop} (x0:A0) (x1:A1) (h0:P x0 x1) (h1:Q x0 x1):∃ x0 x1,P x0 x1∧Q x0 x1:=⟨x0,x1,h0,h1⟩
theorem Do {A0:Sort _} {A1:Sort _} {P Q R:A0→A1→Prop} (x0:A0) (x1:A1) (h0:P x0 x1) (h1:Q x0 x1) (h2:R x0 x1):∃ x0 x1,P x0 x1∧Q x0 x1∧R x0 x1:=⟨x0,x1,h0,h1,h2⟩
theorem Nv {A0:Sort _} {A1:Sort _} {P Q R S:A0→A1→Prop} (x0:A0) (x1:A1) (h0:P x0 x1) (h1:Q x0 x1) (h2:R x0 x1) (h3:S x0 x1):∃ x0 x1,P x0 x1∧Q x0 x1∧R x0 x1∧S x0 x1:=⟨x0,x1,h0,h1,h2,h3⟩
theorem Kn {A0:Sort _} {A1:Sort _} {P Q R S T:A0→A1→Prop} (x0:A0) (x1:A1) (h0:P x0 x1) (h1:Q x0 x1) (h2:R x0 x1) (h3:S x0 x1) (h4:T x0 x1):∃ x0 x1,P x0 x1∧Q x0 x1∧R x0 x1∧S x0 x1∧T x0 x1:=⟨x0,x1,h0,h1,h2,h3,h4⟩
theorem Pc {A0:Sort _} {A1:Sort _} {P Q R S T U:A0→A1→Prop} (x0:A0) (x1:A1) (h0:P x0 x1) (h1:Q x0 x1) (h2:R x0 x1) (h3:S x0 x1) (h4:T x0 x1) (h5:U x0 x1):∃ x0 x1,P x0 x1∧Q x0 x1∧R x0 x1∧S x0 x1∧T x0 x1∧U x0 x1:=⟨x0,x1,h0,h1,h2,h3,h4,h5⟩
theorem Ko {A0:Sort _} {A1:Sort _} {A2:Sort _} {P:A0→A1→A2→Prop} (x0:A0) (x1:A1) (x2:A2) (h0:P x0 x1 x2):∃ x0 x1 x2,P x0 x1 x2:=⟨x0,x1,x2,h0⟩
theorem Nw {A0:Sort _} {A1:Sort _} {A2:Sort _} {P Q:A0→A1→A2→Prop} (x0:A0) (x1:A1) (x2:A2) (h0:P x0 x1 x2) (h1:Q x0 x1 x2):∃ x0 x1 x2,P x0 x1 x2∧Q x0 x1 x2:=⟨x0,x1,x2,h0,h1⟩
theorem VT {A0:Sort _} {A1:Sort _} {A2:Sort _} {P Q R:A0→A1→A2→Prop} (x0:A0) (x1:A1) (x2:A2) (h0:P x0 x1 x2) (h1:Q x0 x1 x2) (h2:R x0 x1 x2):∃ x0 x1 x2,P x0 x1 x2∧Q x0 x1 x2∧R x0 x1 x2:=⟨x0,x1,x2,h0,h1,h2⟩
theorem Sd {A0:Sort _} {A1:Sort _} {A2:Sort _} {P Q R S:A0→A1→A2→Prop} (x0:A0) (x1:A1) (x2:A2) (h0:P x0 x1 x2) (h1:Q x0 x1 x2) (h2:R x0 x1 x2) (h3:S x0 x1 x2):∃ x0 x1 x2,P x0 x1 x2∧Q x0 x1 x2∧R x0 x1 x2∧S x0 x1 x2:=⟨x0,x1,x2,h0,h1,h2,h3⟩
theorem TE {A0:Sort _} {A1:Sort _} {A2:Sort _} {P Q R S T:A0→A1→A2→Prop} (x0:A0) (x1:A1) (x2:A2) (h0:P x0 x1 x2) (h1:Q x0 x1 x2) (h2:R x0 x1 x2) (h3:S x0 x1 x2) (h4:T x0 x1 x2):∃ x0 x1 x2,P x0 x1 x2∧Q x0 x1 x2∧R x0 x1 x2∧S x0 x1 x2∧T x0 x1 x2:=⟨x0,x1,x2,h0,h1,h2,h3,h4⟩
theorem Kp {A0:Sort _} {A1:Sort _} {A2:Sort _} {P Q R S T U:A0→A1→A2→Prop} (x0:A0) (x1:A1) (x2:A2) (h0:P x0 x1 x2) (h1:Q x0 x1 x2) (h2:R x0 x1 x2) (h3:S x0 x1 x2) (h4:T x0 x1 x2) (h5:U x0 x1 x2):∃ x0 x1 x2,P x0 x1 x2∧Q x0 x1 x2∧R x0 x1 x2∧S x0 x1 x2∧T x0 x1 x2∧U x0 x1 x2:=⟨x0,x1,x2,h0,h1,h2,h3,h4,h5⟩
theorem VU {A0:Sort _} {A1:Sort _} {A2:Sort _} {P Q R S T U V:A0→A1→A2→Prop} (x0:A0) (x1:A1) (x2:A2) (h0:P x0 x1 x2) (h1:Q x0 x1 x2) (h2:R x0 x1 x2) (h3:S x0 x1 x2) (h4:T x0 x1 x2) (h5:U x0 x1 x2) (h6:V x0 x1 x2):∃ x0 x1 x2,P x0 x1 x2∧Q x0 x1 x2∧R x0 x1 x2∧S x0 x1 x2∧T x0 x1 x2∧U x0 x1 x2∧V x0 x1 x2:=⟨x0,x1,x2,h0,h1,h2,h3,h4,h5,h6⟩
theorem TF {A0:Sort _} {A1:Sort _} {A2:Sort _} {A3:Sort _} {P Q:A0→A1→A2→A3→Prop} (x0:A0) (x1:A1) (x2:A2) (x3:A3) (h0:P x0 x1 x2 x3) (h1:Q x0 x1 x2 x3):∃ x0 x1 x2 x3,P x0 x1 x2 x3∧Q x0 x1 x2 x3:=⟨x0,x1,x2,x3,h0,h1⟩
theorem PT {A0:Sort _} {A1:Sort _} {A2:Sort _} {A3:Sort _} {P Q R:A0→A1→A2→A3→Prop} (x0:A0) (x1:A1) (x2:A2) (x3:A3) (h0:P x0 x1 x2 x3) (h1:Q x0 x1 x2 x3) (h2:R x0 x1 x2 x3):∃ x0 x1 x2 x3,P x0 x1 x2 x3∧Q x0 x1 x2 x3∧R x0 x1 x2 x3:=⟨x0,x1,x2,x3,h0,h1,h2⟩
theorem JL {A0:Sort _} {A1:Sort _} {A2:Sort _} {A3:Sort _} {P Q R S:A0→A1→A2→A3→Prop} (x0:A0) (x1:A1) (x2:A2) (x3:A3) (h0:P x0 x1 x2 x3) (h1:Q x0 x1 x2 x3) (h2:R x0 x1 x2 x3) (h3:S x0 x1 x2 x3):∃ x0 x1 x2 x3,P x0 x1 x2 x3∧Q x0 x1 x2 x3∧R x0 x1 x2 x3∧S x0 x1 x2 x3:=⟨x0,x1,x2,x3,h0,h1,h2,h3⟩
theorem PU {A0:Sort _} {A1:Sort _} {A2:Sort _} {A3:Sort _} {P Q R S T:A0→A1→A2→A3→Prop} (x0:A0) (x1:A1) (x2:A2) (x3:A3) (h0:P x0 x1 x2 x3) (h1:Q x0 x1 x2 x3) (h2:R x0 x1 x2 x3) (h3:S x0 x1 x2 x3) (h4:T x0 x1 x2 x3):∃ x0 x1 x2 x3,P x0 x1 x2 x3∧Q x0 x1 x2 x3∧R x0 x1 x2 x3∧S x0 x1 x2 x3∧T x0 x1 x2 x3:=⟨x0,x1,x2,x3,h0,h1,h2,h3,h4⟩
theorem Se {A0:Sort _} {A1:Sort _} {A2:Sort _} {A3:Sort _} {P Q R S T U:A0→A1→A2→A3→Prop} (x0:A0) (x1:A1) (x2:A2) (x3:A3) (h0:P x0 x1 x2 x3) (h1:Q x0 x1 x2 x3) (h2:R x0 x1 x2 x3) (h3:S x0 x1 x2 x3) (h4:T x0 x1 x2 x3) (h5:U x0 x1 x2 x3):∃ x0 x1 x2 x3,P x0 x1 x2 x3∧Q x0 x1 x2 x3∧R x0 x1 x2 x3∧S x0 x1 x2 x3∧T x0 x1 x2 x3∧U x0 x1 x2 x3:=⟨x0,x1,x2,x3,h0,h1,h2,h3,h4,h5⟩
theorem XW {A0:Sort _} {A1:Sort _} {A2:Sort _} {A3:Sort _} {A4:Sort _} {A5:Sort _} {P Q:A0→A1→A2→A3→A4→A5→Prop} (x0:A0) (x1:A1) (x2:A2) (x3:A3) (x4:A4) (x5:A5) (h0:P x0 x1 x2 x3 x4 x5) (h1:Q x0 x1 x2 x3 x4 x5):∃ x0 x1 x2 x3 x4 x5,P x0 x1 x2 x3 x4 x5∧Q x0 x1 x2 x3 x4 x5:=⟨x0,x1,x2,x3,x4,x5,h0,h1⟩
theorem Pd {a b c d e f:Nat} (h:[a,b,c,d,e,f].Nodup):(¬a=b∧¬a=c∧¬a=d∧¬a=e∧¬a=f)∧(¬b=c∧¬b=d∧¬b=e∧¬b=f)∧(¬c=d∧¬c=e∧¬c=f)∧(¬d=e∧¬d=f)∧¬e=f∧¬False∧([]:List Nat).Nodup:=by simp only [cq,aA,bH,or_false,not_or] at h;exact h
theorem PV {a b c d e f g:Nat}:[a,b,c,d,e,f,g].Nodup↔(¬a=b∧¬a=c∧¬a=d∧¬a=e∧¬a=f∧¬a=g)∧(¬b=c∧¬b=d∧¬b=e∧¬b=f∧¬b=g)∧(¬c=d∧¬c=e∧¬c=f∧¬c=g)∧(¬d=e∧¬d=f∧¬d=g)∧(¬e=f∧¬e=g)∧¬f=g∧¬False∧([]:List Nat).Nodup:=by simp only [cq,aA,bH,or_false,not_or]
theorem oN {N i j:Nat} (h:i≠j):N+i≠N+j:=fun e=>h (pn e)
theorem oP {N i l:Nat} (h:l < N):N+i≠l:=br (aC h (cp N i))
theorem XX {N l k:Nat} (g:l < k) (h:k < N):[N+2,N+2+1,N,N+1,l,k,N+4].Nodup :=
 have q:=dj g h
 PV.mpr ⟨⟨oN (i:=2) (j:=3) (by decide),oN (i:=2) (j:=0) (by decide),oN (i:=2) (j:=1) (by decide),oP (i:=2) q,oP (i:=2) h,oN (i:=2) (j:=4) (by decide)⟩,⟨oN (i:=3) (j:=0) (by decide),oN (i:=3) (j:=1) (by decide),oP (i:=3) q,oP (i:=3) h,oN (i:=3) (j:=4) (by decide)⟩,⟨oN (i:=0) (j:=1) (by decide),oP (i:=0) q,oP (i:=0) h,oN (i:=0) (j:=4) (by decide)⟩,⟨oP (i:=1) q,oP (i:=1) h,oN (i:=1) (j:=4) (by decide)⟩,⟨ax g,aq (oP (i:=4) q)⟩,aq (oP (i:=4) h),id,l9⟩
theorem tX {c:Prop} {_:Decidable c} {A B:Prop} (h:c) (a:A):if c then A else B:=(if_pos h).symm▸a
theorem so {c:Prop} {_:Decidable c} {A B:Prop} (h:¬ c) (a:B):if c then A else B:=(if_neg h).symm▸a
theorem rK {β:Type _} {l:List β} {i:Nat} {a:β} (h:l[i]?=some a):i < l.length:=(cQ.mp h).1
inductive AV where
 | none
 | bool (b:Bool)
 | int (i:Int)
 | str (s:List Nat)
 | tup (vs:List AV)
 | ref (k:Nat)
 | con (v:aa)
inductive AO where
 | list (vs:List AV)
 | cell (v:Option AV)
 | inst (C:Addr) (d:Nat)
 | ns (as:List (Str×AV))
 | dict (es:List (List Nat×AV))
 | iter (l:Nat) (i:Nat)
 | zz
 | raw (b:Nat) (p:(Nat→Addr)→Obj→Prop)
 | s9
noncomputable abbrev AH:=List AO
noncomputable abbrev sv (vs:List aa) (e:Nat):Obj:={cls:=.type "tuple",data:=.seq vs.toArray e}
mutual
inductive pp (h:Heap) (α:Nat→Addr) (n:Nat):AV→aa→Prop
 | none:pp h α n .none .none
 | bool (b:Bool):pp h α n (.bool b) (.bool b)
 | int (i:Int) (t:Tok):pp h α n (.int i) (.int i t)
 | str (s:List Nat) (t:Tok):pp h α n (.str s) (.str ⟨s.toArray⟩ t)
 | tup {a:Addr} {vs:List aa} {MA:List AV} {e:Nat}:h.get? a=some (sv vs e)→(∀ k < n,a≠α k)→po h α n MA vs→pp h α n (.tup MA) (.ref a)
 | ref {k:Nat}:k < n→pp h α n (.ref k) (.ref (α k))
 | con (v:aa):pp h α n (.con v) v
inductive po (h:Heap) (α:Nat→Addr) (n:Nat):List AV→List aa→Prop
 | nil:po h α n [] []
 | cons {a:AV} {v:aa} {as:List AV} {vs:List aa}:pp h α n a v→po h α n as vs→po h α n (a::as) (v::vs)
end
@[elab_as_elim] theorem Bt {β:Type _} {C:List β→Prop} {vs:List β} (h:vs.length=1) (k:∀ a,C [a]):C vs:=by obtain ⟨a,rfl⟩:=List.length_eq_one_iff.mp h;exact k a
@[elab_as_elim] theorem zh {β:Type _} {C:List β→Prop} {vs:List β} (h:vs.length=2) (k:∀ a b,C [a,b]):C vs:=by
 cases vs with
 | nil=>cases h
 | cons a r=>exact Bt (C:=fun r=>C (a::r)) (nh h) fun b=>k a b
@[elab_as_elim] theorem G7 {β:Type _} {C:List β→Prop} {vs:List β} (h:vs.length=3) (k:∀ a b c,C [a,b,c]):C vs:=by
 cases vs with
 | nil=>cases h
 | cons a r=>exact zh (C:=fun r=>C (a::r)) (nh h) fun b c=>k a b c
theorem uH {β:Type _} {p:Prop} {c:β} (e:(none:Option β)=some c):p:=nomatch e
section
variable {h:Heap} {α:Nat→Addr} {n:Nat} {v:aa} {C:aa→Prop}
@[elab_as_elim] theorem pp.none_ (V:pp h α n .none v) (k:C .none):C v:=by cases V;exact k
@[elab_as_elim] theorem pp.G8 {b:Bool} (V:pp h α n (.bool b) v) (k:C (.bool b)):C v:=by cases V;exact k
@[elab_as_elim] theorem pp.tI {i:Int} (V:pp h α n (.int i) v) (k:∀ t,C (.int i t)):C v:=by cases V;exact k _
@[elab_as_elim] theorem pp.ub {l:List Nat} (V:pp h α n (.str l) v) (k:∀ t,C (.str ⟨l.toArray⟩ t)):C v:=by cases V;exact k _
@[elab_as_elim] theorem pp.sO {k:Nat} (V:pp h α n (.ref k) v) (c:k < n→C (.ref (α k))):C v:=by cases V;exact c ‹_›
@[elab_as_elim] theorem pp.FF {MA:List AV} (V:pp h α n (.tup MA) v) (c:∀ (a:Addr) (vs:List aa) (e:Nat),h.get? a=some (sv vs e)→(∀ k < n,a≠α k)→po h α n MA vs→C (.ref a)):C v:=by
 cases V with | tup g ne V=>exact c _ _ _ g ne V
@[elab_as_elim] theorem po.t0 {vs:List aa} {D:List aa→Prop} (V:po h α n [] vs) (c:D []):D vs:=by cases V;exact c
@[elab_as_elim] theorem po.se {a:AV} {as:List AV} {vs:List aa} {D:List aa→Prop} (V:po h α n (a::as) vs) (c:∀ v us,pp h α n a v→po h α n as us→D (v::us)):D vs:=by
 cases V with | cons x V=>exact c _ _ x V
@[elab_as_elim] theorem pp.Ce {u:aa} (V:pp h α n (.con u) v) (k:C u):C v:=by cases V;exact k
end
structure Ext (L:Addr) (α dL : Nat→Addr) (n n' : Nat) (h h' : Heap):Prop where
 al:∀ k < n,dL k=α k
 le:n≤n'
 size:h.objs.size≤h'.objs.size
 keep:∀ b o,h.get? b=some o→b≠L→(∀ k < n,b≠α k)→h'.get? b=some o
 new:∀ k,n≤k→k < n'→h.objs.size≤dL k
theorem Ext.refl {L:Addr} {α:Nat→Addr} {n:Nat} {h:Heap}:Ext L α α n n h h:=⟨fun _ _=>rfl,ar _,ar _,fun _ _ e _ _=>e,fun k a b=>absurd b (bG.mpr a)⟩
theorem Ext.trans {L:Addr} {α dL vT : Nat→Addr} {n n' PW : Nat} {h h' PX : Heap} (x:Ext L α dL n n' h h') (y:Ext L dL vT n' PW h' PX):Ext L α vT n PW h PX:=by
 refine ⟨fun k hk=>(y.al k (aC hk x.le)).trans (x.al k hk),aj x.le y.le,aj x.size y.size,fun b o e hL hb=>?_,fun k h1 h2=>?_⟩
 ·refine y.keep b o (x.keep b o e hL hb) hL fun k hk=>?_
  by_cases hn:k < n
  ·rw [x.al k hn];exact hb k hn
  ·exact ax (aC (aH e) (x.new k (bC hn) hk))
 ·by_cases hn:k < n'
  ·rw [y.al k hn];exact x.new k h1 hn
  ·exact aj x.size (y.new k (bC hn) h2)
theorem pp.ext {L:Addr} {α dL : Nat→Addr} {n n' : Nat} {h h' : Heap} (x:Ext L α dL n n' h h') (hL:∀ vs e,h.get? L≠some (sv vs e)) {a:AV} {v:aa} (r:pp h α n a v):pp h' dL n' a v :=
 pp.rec (motive_1:=fun a v _=>pp h' dL n' a v) (motive_2:=fun as vs _=>po h' dL n' as vs) .none .bool .int .str
  (fun {a _ _ _} e ne _ r=>.tup (x.keep a _ e (fun z=>hL _ _ (z▸e)) ne) (fun k hk=>if hn:k < n then x.al k hn▸ne k hn else ax (aC (aH e) (x.new k (bC hn) hk))) r)
  (fun {k} hk=>x.al k hk▸.ref (aC hk x.le)) .con .nil (fun _ _ a r=>.cons a r) r
theorem po.imp {h h' : Heap} {α dL : Nat→Addr} {n n' : Nat} (f:∀ {a:AV} {v:aa},pp h α n a v→pp h' dL n' a v) {as:List AV} {vs:List aa} (r:po h α n as vs):po h' dL n' as vs:=by
 induction as generalizing vs with
 | nil=>cases r;exact .nil
 | cons a as ih=>cases r with | cons x r=>exact .cons (f x) (ih r)
theorem po.ext {L:Addr} {α dL : Nat→Addr} {n n' : Nat} {h h' : Heap} (x:Ext L α dL n n' h h') (hL:∀ vs e,h.get? L≠some (sv vs e)) {as:List AV} {vs:List aa} (r:po h α n as vs):po h' dL n' as vs :=
 r.imp fun a=>a.ext x hL
section
variable {h:Heap} {α:Nat→Addr} {n:Nat}
theorem po.length {as:List AV} {vs:List aa} (r:po h α n as vs):vs.length=as.length:=by
 induction as generalizing vs with
 | nil=>cases r;rfl
 | cons a as ih=>cases r with | cons x r=>exact congrArg (·+1) (ih r)
theorem po.get {as:List AV} {vs:List aa} (r:po h α n as vs) {i:Nat} {a:AV} (e:as[i]?=some a):∃ v,vs[i]?=some v∧pp h α n a v:=by
 induction as generalizing vs i with
 | nil=>exact uH e
 | cons b as ih=>cases r with | cons x r=>cases i with
  | zero=>exact ay e▸(i12 _ rfl x)
  | succ i=>exact ih r e
theorem po.append {as bs:List AV} {vs us:List aa} (r:po h α n as vs) (y:po h α n bs us):po h α n (as++bs) (vs++us):=by
 induction as generalizing vs with
 | nil=>cases r;exact y
 | cons a as ih=>cases r with | cons x r=>exact .cons x (ih r)
theorem po.set {a:AV} {v:aa} (x:pp h α n a v) {as:List AV} {vs:List aa} (r:po h α n as vs) (i:Nat):po h α n (as.set i a) (vs.set i v):=by
 induction as generalizing vs i with
 | nil=>cases r;exact .nil
 | cons b as ih=>cases r with | cons y r=>cases i with
  | zero=>exact .cons x r
  | succ i=>exact .cons y (ih r i)
theorem po.drop {as:List AV} {vs:List aa} (r:po h α n as vs) (i:Nat):po h α n (as.drop i) (vs.drop i):=by
 induction i generalizing as vs with
 | zero=>exact r
 | succ i ih=>cases r with
  | nil=>exact .nil
  | cons x r=>exact ih r
theorem po.take {as:List AV} {vs:List aa} (r:po h α n as vs) (i:Nat):po h α n (as.take i) (vs.take i):=by
 induction i generalizing as vs with
 | zero=>exact .nil
 | succ i ih=>cases r with
  | nil=>exact .nil
  | cons x r=>exact .cons x (ih r)
end
inductive ci where
 | loc (o:Option AV)
 | sG (k:Nat)
 | rc
noncomputable def tP (h:Heap) (α:Nat→Addr) (n:Nat) (a:Addr):AO→Prop
 | .list vs=>∃ xC e,h.get? a=some (listOf (dD xC) e)∧po h α n vs xC
 | .cell o=>∃ ob cv,h.get? a=some ob∧ob.data=.cell cv∧∀ av,o=some av→∃ v,cv=some v∧pp h α n av v
 | .inst C d=>d < n∧h.get? a=some (eD C (α d))
 | .ns as=>∃ es e,h.get? a=some (dictOf es e)∧(∀ x av,(x,av)∈as→∃ v,getL x es=some (some v)∧pp h α n av v)∧(∀ x,x∉as.map (·.1)→getL x es=some none)∧es.length=as.length
 | .dict es=>∃ XY e,h.get? a=some (dictOf XY e)∧False
 | .iter l i=>l < n∧h.IsListIter a (α l) i
 | .zz=>False
 | .raw b p=>b≤n∧(∀ dL,(∀ k < b,dL k=α k)→p dL=p α)∧∃ o,h.get? a=some o∧p α o
 | .s9=>a < h.objs.size
structure Inv (am:Heap) (L:Addr) (m:Str→Option aa) (α:Nat→Addr) (H:AH) (h:Heap):Prop where
 fr:Fr am L h m
 low:∀ k < H.length,am.get? (α k)=none∧α k≠L
 inj:∀ i j,i < H.length→j < H.length→α i=α j→i=j
 obj:∀ (k:Nat) (o:AO),H[k]?=some o→tP h α H.length (α k) o
theorem ne_old {a b:Addr} {o:Obj} (ha:am.get? a=none) (e:am.get? b=some o):b≠a:=fun q=>by rw [q,ha] at e;cases e
theorem Inv.kt {L:Addr} {m:Str→Option aa} {α:Nat→Addr} {H:AH} {h:Heap} (x:Inv am L m α H h):∀ vs e,h.get? L≠some (sv vs e):=by
 intro vs e q
 obtain ⟨o,es,ep,ho,hd,_⟩:=x.fr.ns
 rw [q] at ho
 cases ho
 cases hd
noncomputable def vQ (m:Str→Option aa) (h:Heap) (α:Nat→Addr) (n:Nat) (nm:List Str) (ρ:List ci):Prop :=
 ∀ (i:Nat) (x:Str) (av:AV),nm[i]?=some x→ρ[i]?=some (.loc (some av))→∃ v,m x=some v∧pp h α n av v
structure u8 (be:Env) (L:Addr) (α:Nat→Addr) (n:Nat) (nm:List Str) (ρ:List ci):Prop where
 kind:be.scope.kind=.function
 loc:be.locals=L
 rc:be.globals=dK
 blt:be.builtins=fQ
 slots:∀ (i:Nat) (x:Str) (s:ci),nm[i]?=some x→ρ[i]?=some s→match s with
  | .loc _=>be.kindOf x=some .local
  | .sG k=>k < n∧be.kindOf x=some .cell∧be.cells.lookup x=some (α k)
  | .rc=>be.kindOf x=some .globalImplicit
structure rM (s s' : af):Prop where
 os:s'.os=s.os
 gens:AllBare s.gens→AllBare s'.gens
theorem rM.refl {s:af}:rM s s:=⟨rfl,id⟩
theorem rM.trans {s s' Pe : af} (x:rM s s') (y:rM s' Pe):rM s Pe:=⟨y.os.trans x.os,fun z=>y.gens (x.gens z)⟩
structure td (A:au) (d:Nat):Prop where
 handled:A.handled=none
 depth:A.depth+8 * d+8 < kc
 units:A.units+100 * d+100 < cLine
noncomputable def EX (an:aD) (w:aw) (am:Heap) (d:Nat) (nm:List Str) (ρ:List ci) (H:AH) (T:Env→Sem aa) (R:AV→AH→Prop):Prop :=
 ∀ (be:Env) (A:au) (L:Addr) (m:Str→Option aa) (α:Nat→Addr) (s:af) (Q E:aa→af→Prop),
  td A d→u8 be L α H.length nm ρ→Inv am L m α H s.heap→vQ m s.heap α H.length nm ρ →
  (∀ av v dL H' s',R av H'→Ext L α dL H.length H'.length s.heap s'.heap→Inv am L m dL H' s'.heap→pp s'.heap dL H'.length av v→rM s s'→Q v s') →
  ag (ah an w) A (T be) Q E s
section
variable {nm:List Str} {ρ:List ci} {H:AH} {R:AV→AH→Prop}
theorem vQ.ext {L:Addr} {m:Str→Option aa} {α dL : Nat→Addr} {n n' : Nat} {h h' : Heap} (D:vQ m h α n nm ρ) (x:Ext L α dL n n' h h') (hL:∀ vs e,h.get? L≠some (sv vs e)):vQ m h' dL n' nm ρ :=
 fun i y av a b=>let ⟨v,hv,r⟩:=D i y av a b;(i12 v hv (r.ext x hL))
theorem u8.ext {be:Env} {L:Addr} {α dL : Nat→Addr} {n n' : Nat} {h h' : Heap} (S:u8 be L α n nm ρ) (x:Ext L α dL n n' h h'):u8 be L dL n' nm ρ:=by
 refine ⟨S.kind,S.loc,S.rc,S.blt,fun i y s a b=>?_⟩
 have z:=S.slots i y s a b
 cases s with
 | loc o=>exact z
 | sG k=>exact (sS (aC z.1 x.le) z.2.1 (by rw [x.al k z.1];exact z.2.2))
 | rc=>exact z
theorem EX.then {T:Env→Sem aa} {R:AV→AH→Prop} (h1:EX an w am d nm ρ H T R) {be:Env} {A:au} {L:Addr} {m:Str→Option aa} {α:Nat→Addr} {s:af} {Q E:aa→af→Prop}
  (hr:td A d) (S:u8 be L α H.length nm ρ) (I:Inv am L m α H s.heap) (D:vQ m s.heap α H.length nm ρ)
  (k:∀ av v dL H' s',R av H'→Ext L α dL H.length H'.length s.heap s'.heap→Inv am L m dL H' s'.heap→pp s'.heap dL H'.length av v→rM s s'→u8 be L dL H'.length nm ρ→vQ m s'.heap dL H'.length nm ρ→Q v s') :
  ag (ah an w) A (T be) Q E s :=
 h1 be A L m α s Q E hr S I D fun av v dL H' s' r x I' V Z=>k av v dL H' s' r x I' V Z (S.ext x) (D.ext x I.kt)
theorem EX.mono {T:Env→Sem aa} {R R' : AV→AH→Prop} (h1:EX an w am d nm ρ H T R) (h:∀ a H',R a H'→R' a H'):EX an w am d nm ρ H T R' :=
 fun be A L m α s Q E hr S I D k=>h1 be A L m α s Q E hr S I D fun av v dL H' s' r=>k av v dL H' s' (h av H' r)
theorem f8 {i:Int} {k:Nat} {pos:Pos} (h:R (.int i) H):EX an w am d nm ρ H (fun be=>eval (.Constant (.int i) k pos) be) R :=
 fun be A L m α s Q E hr S I D k=>wpAny_Constant_int (k _ _ α H _ h Ext.refl I (.int i _) ⟨rfl,id⟩)
noncomputable def kE (an:aD) (w:aw) (am:Heap) (d:Nat) (nm:List Str) (ρ:List ci) (r:Expr) (K:AV→AV→AH→Prop):AV→AH→Prop:=fun a H1=>EX an w am d nm ρ H1 (fun be=>eval r be) (K a)
theorem Nx {i:Nat} {x:Str} {pos:Pos} {av:AV} (hx:nm[i]?=some x) (hv:ρ[i]?=some (.loc (some av))) (hd:(x == ("__debug__" : Str))=false) (h:R av H) :
  EX an w am d nm ρ H (fun be=>eval (.Name x pos) be) R:=fun be A L m α s Q E hr S I D k=>by
 obtain ⟨v,hm,V⟩:=D i x av hx hv
 exact gI (gy S.kind (S.slots i x _ hx hv) (S.loc▸I.fr.ns) hm (k av v α H s h Ext.refl I V rM.refl)) hd
theorem Ny {i j:Nat} {x:Str} {pos:Pos} {av:AV} (hx:nm[i]?=some x) (hv:ρ[i]?=some (.sG j)) (hj:H[j]?=some (.cell (some av))) (hd:(x == ("__debug__" : Str))=false) (h:R av H) :
  EX an w am d nm ρ H (fun be=>eval (.Name x pos) be) R:=fun be A L m α s Q E hr S I D k=>by
 obtain ⟨_,hk,hl⟩:=S.slots i x _ hx hv
 obtain ⟨ob,cv,ho,JM,Pf⟩:=I.obj j _ hj
 obtain ⟨v,rfl,V⟩:=Pf av rfl
 exact gI (wpAny_loadName_cell S.kind hk hl (i12 ob ho JM) (k av v α H s h Ext.refl I V rM.refl)) hd
noncomputable def GL (am:Heap) (x:Str) (v:aa):Prop:=∃ mg mb,am.Ns dK mg∧am.Ns fQ mb∧(mg x=some v∨(mg x=none∧mb x=some v))
theorem Nz {i:Nat} {x:Str} {pos:Pos} {v:aa} (hx:nm[i]?=some x) (hv:ρ[i]?=some .rc) (g:GL am x v) (hd:(x == ("__debug__" : Str))=false) (h:R (.con v) H) :
  EX an w am d nm ρ H (fun be=>eval (.Name x pos) be) R:=fun be A L m α s Q E hr S I D k=>by
 have kd:=S.slots i x _ hx hv
 obtain ⟨mg,mb,hg,hb,h1 | ⟨h1,h2⟩⟩:=g
 ·exact g7 S.kind kd (jN (by rw [S.rc];exact hg.keeps I.fr.keep) h1 (k _ v α H s h Ext.refl I (.con v) rM.refl)) hd
 ·exact g7 S.kind kd (q6 (by rw [S.rc];exact hg.keeps I.fr.keep) h1 (by rw [S.blt];exact hb.keeps I.fr.keep) h2 (k _ v α H s h Ext.refl I (.con v) rM.refl)) hd
theorem lm (i:Nat) {x:Str} {pos:Pos} {av:AV} (hx:nm[i]?=some x) (hv:ρ[i]?=some (.loc (some av))) (h:R av H) (hd:(x == ("__debug__" : Str))=false:=by decide +kernel) :
  EX an w am d nm ρ H (fun be=>eval (.Name x pos) be) R:=Nx hx hv hd h
theorem uh (i:Nat) {j:Nat} {x:Str} {pos:Pos} {av:AV} (hx:nm[i]?=some x) (hv:ρ[i]?=some (.sG j)) (hj:H[j]?=some (.cell (some av))) (h:R av H) (hd:(x == ("__debug__" : Str))=false:=by decide +kernel) :
  EX an w am d nm ρ H (fun be=>eval (.Name x pos) be) R:=Ny hx hv hj hd h
theorem ti (i:Nat) {x:Str} {pos:Pos} {v:aa} (hx:nm[i]?=some x) (hv:ρ[i]?=some .rc) (g:GL am x v) (h:R (.con v) H) (hd:(x == ("__debug__" : Str))=false:=by decide +kernel) :
  EX an w am d nm ρ H (fun be=>eval (.Name x pos) be) R:=Nz hx hv g hd h
theorem NA {l r:Expr} {op:cV} {pos:Pos} (h:EX an w am d nm ρ H (fun be=>eval l be) (fun a H1=>EX an w am d nm ρ H1 (fun be=>eval r be) (fun b H2 =>
   ∀ (A:au) (L:Addr) (m:Str→Option aa) (α:Nat→Addr) (s:af) (Q E:aa→af→Prop) (v u:aa),td A d→Inv am L m α H2 s.heap→pp s.heap α H2.length a v→pp s.heap α H2.length b u →
    (∀ av x dL H' s',R av H'→Ext L α dL H2.length H'.length s.heap s'.heap→Inv am L m dL H' s'.heap→pp s'.heap dL H'.length av x→rM s s'→Q x s')→ag (ah an w) A (gn op v u) Q E s))) :
  EX an w am d nm ρ H (fun be=>eval (.BinOp l op r pos) be) R:=fun be A L m α s Q E hr S I D k=>by
 refine nj (h.then hr S I D fun a v rS H1 s1 h1 x1 I1 V1 Z1 S1 D1=>?_)
 refine h1.then hr S1 I1 D1 fun b u sP H2 s2 h2 x2 I2 V2 Z2 S2 D2=>?_
 exact h2 A L m sP s2 Q E v u hr I2 (V1.ext x2 I1.kt) V2 fun av x dL H' s' r x3 I3 V3 Z3=>k av x dL H' s' r ((x1.trans x2).trans x3) I3 V3 ((Z1.trans Z2).trans Z3)
end
section
set_option backward.match.sparseCases false
section
variable (an:aD) (w:aw) (am:Heap) (d:Nat)
noncomputable def FG (H:AH) (a:AV) (T:aa→Sem aa) (R:AV→AH→Prop):Prop :=
 ∀ (A:au) (L:Addr) (m:Str→Option aa) (α:Nat→Addr) (s:af) (Q E:aa→af→Prop) (v:aa),td A d→Inv am L m α H s.heap→pp s.heap α H.length a v →
  (∀ av x dL H' s',R av H'→Ext L α dL H.length H'.length s.heap s'.heap→Inv am L m dL H' s'.heap→pp s'.heap dL H'.length av x→rM s s'→Q x s')→ag (ah an w) A (T v) Q E s
noncomputable def y0 (H:AH) (a b:AV) (T:aa→aa→Sem aa) (R:AV→AH→Prop):Prop :=
 ∀ (A:au) (L:Addr) (m:Str→Option aa) (α:Nat→Addr) (s:af) (Q E:aa→af→Prop) (v u:aa),td A d→Inv am L m α H s.heap→pp s.heap α H.length a v→pp s.heap α H.length b u →
  (∀ av x dL H' s',R av H'→Ext L α dL H.length H'.length s.heap s'.heap→Inv am L m dL H' s'.heap→pp s'.heap dL H'.length av x→rM s s'→Q x s')→ag (ah an w) A (T v u) Q E s
end
noncomputable abbrev Is (x:AV) (H:AH):AV→AH→Prop:=fun y H'=>y=x∧H'=H
noncomputable def small (i:Int):Bool:=decide (i.natAbs < 2 ^ 900)
theorem xq {i:Int} (h:small i=true):jg i≤901:=by
 have h:=of_decide_eq_true h
 unfold jg
 split
 ·exact lR 901 lO
 ·rename_i hz
  have PY : i.natAbs≠0:=by simpa using hz
  have:=(Nat.log2_lt PY).mpr h
  exact lR 1 this
theorem PZ {i j:Int} (hi:small i=true) (hj:small j=true):IntMulOk i j:=by
 have a:=xq hi
 have b:=xq hj
 unfold IntMulOk
 have e:pS (jg i+jg j)=false:=by
  unfold pS
  simp
  unfold bitsLine
  lia
 rw [e];simp
theorem Kq {i j:Int} (hi:small i=true) (h1:0≤j) (h2:j≤64):(jg i:Int) * j≤2 ^ 27:=by
 have:=xq hi
 refine aY (fR (iU.mpr this) h2 h1 (nF _)) (by decide)
noncomputable def G9 (op:cV) (i j:Int) (H:AH):Option (AV×AH) :=
 match op with
 | .Add=>some (.int (i+j),H)
 | .Sub=>some (.int (i - j),H)
 | .Mult=>if small i && small j then some (.int (i * j),H) else none
 | .FloorDiv=>if j≠0∧j.natAbs < 1073741824 then some (.int (i.fdiv j),H) else none
 | .Mod=>if j≠0 then some (.int (i.fmod j),H) else none
 | .Pow=>if small i∧0≤j∧j≤64 then some (.int (i ^ j.toNat),H) else none
 | .RShift=>if 0≤j then some (.int (i.fdiv (2 ^ j.toNat)),H) else none
 | .BitAnd=>some (.int (gS i j),H)
 | .BitOr=>some (.int (kS i j),H)
 | .LShift=>if 0≤j∧j≤1000000∧i.natAbs < 2 ^ 64 then some (.int (i * 2 ^ j.toNat),H) else none
 | _=>none
noncomputable def P5 (op:cV) (x y:List Nat) (H:AH):Option (AV×AH) :=
 match op with
 | .Add=>if x.length+y.length≤1000000 then some (.str (x++y),H) else none
 | _=>none
noncomputable def P6 (op:cV) (a b:Nat) (H:AH):Option (AV×AH) :=
 match op with
 | .Add=>match H[a]? with
  | some (.list xs)=>match H[b]? with
   | some (.list ys)=>if xs.length+ys.length≤1000000 then some (.ref H.length,H++[.list (xs++ys)]) else none
   | _=>none
  | _=>none
 | _=>none
noncomputable def sH (op:cV) (a b:AV) (H:AH):Option (AV×AH) :=
 match a with
 | .int i=>match b with
  | .int j=>G9 op i j H
  | _=>none
 | .str x=>match b with
  | .str y=>P5 op x y H
  | _=>none
 | .ref k=>match b with
  | .ref l=>P6 op k l H
  | _=>none
 | _=>none
theorem uX {β:Type _} {p:Prop} {_:Decidable p} {a b:β} (e:(if p then some a else none)=some b):p∧a=b:=by
 by_cases h:p
 ·rw [if_pos h] at e
  exact ⟨h,ay e⟩
 ·rw [if_neg h] at e
  cases e
section
variable {H H' : AH} {x:AV}
theorem xj {op:cV} {i j z:Int} (e:(AV.int z,H)=(x,H')) (h:∀ (A:au) (s:af) (Q:aa→af→Prop) (E:aa→af→Prop) (t u:Tok),(∀ t k,Q (.int z t) {s with toks:=k})→ag (ah an w) A (gn op (.int i t) (.int j u)) Q E s) :
  y0 an w am d H (.int i) (.int j) (gn op) (Is x H'):=by
 cases e
 intro A L m α s Q E v u hr I V U k
 refine V.tI fun _=>U.tI fun _=>?_
 exact h _ _ _ _ _ _ fun t k'=>k _ _ α _ {s with toks:=k'} ⟨rfl,rfl⟩ Ext.refl I (.int _ _) ⟨rfl,id⟩
theorem Ha {op:cV} {i j:Int} (e:sH op (.int i) (.int j) H=some (x,H')):y0 an w am d H (.int i) (.int j) (gn op) (Is x H'):=by
 cases op with
 | Add=>exact xj (ay e) fun _ _ _ _ _ _ k=>PyProof.Rows.add_int (k _ _)
 | Sub=>exact xj (ay e) fun _ _ _ _ _ _ k=>PyProof.Rows.sub_int (k _ _)
 | BitAnd=>exact xj (ay e) fun _ _ _ _ _ _ k=>PyProof.Rows.and_int (k _ _)
 | BitOr=>exact xj (ay e) fun _ _ _ _ _ _ k=>PyProof.Rows.or_int (k _ _)
 | Mult =>
  dsimp only [sH,G9] at e
  obtain ⟨g,e⟩:=uX e
  exact xj e fun _ _ _ _ _ _ k=>PyProof.Rows.mul_int (k _ _) (PZ (eJ.mp g).1 (eJ.mp g).2)
 | FloorDiv =>
  obtain ⟨g,e⟩:=uX e
  exact xj e fun _ _ _ _ _ _ k=>PyProof.Rows.floordiv_int g.1 (k _ _) (.inl (PyProof.noPylong_small g.2))
 | Mod =>
  obtain ⟨g,e⟩:=uX e
  exact xj e fun _ _ _ _ _ _ k=>PyProof.Rows.mod_int' g (k _ _)
 | Pow =>
  dsimp only [sH,G9] at e
  obtain ⟨g,e⟩:=uX e
  exact xj e fun _ _ _ _ _ _ k=>PyProof.Rows.pow_int g.2.1 (Kq g.1 g.2.1 g.2.2) (k _ _)
 | RShift =>
  obtain ⟨g,e⟩:=uX e
  exact xj e fun _ _ _ _ _ _ k=>PyProof.Rows.rshift_int g (k _ _)
 | LShift =>
  obtain ⟨g,e⟩:=uX e
  exact xj e fun _ _ _ _ _ _ k=>PyProof.Rows.lshift_int_small g.1 g.2.1 g.2.2 (k _ _)
 | _=>exact uH e
theorem wN (x y:List Nat):(⟨x.toArray⟩ : Str)++⟨y.toArray⟩=⟨(x++y).toArray⟩:=by
 refine (?_:Str.append _ _=_)
 simp [Str.append]
theorem xE {op:cV} {a b:List Nat} (e:sH op (.str a) (.str b) H=some (x,H')):y0 an w am d H (.str a) (.str b) (gn op) (Is x H'):=by
 cases op with
 | Add =>
  obtain ⟨g,e⟩:=uX e
  cases e
  intro A L m α s Q E v u hr I V U k
  refine V.ub fun _=>U.ub fun _=>?_
  refine ma (fun t' tk=>?_) (by simp only [di,bZ];unfold cX;exact nI g)
  rw [wN]
  exact k _ _ α _ _ ⟨rfl,rfl⟩ Ext.refl I (.str _ _) ⟨rfl,id⟩
 | _=>exact uH e
end
end
section
variable {am h h' : Heap} {L:Addr} {m m' : Str→Option aa} {α dL : Nat→Addr} {n n' : Nat} {H H' : AH}
theorem tP.lt {a:Addr} {o:AO} (r:tP h α n a o):a < h.objs.size:=by
 cases o with
 | list vs=>obtain ⟨_,_,e,_⟩:=r;exact aH e
 | cell v=>obtain ⟨_,_,e,_⟩:=r;exact aH e
 | inst C d=>exact aH r.2
 | ns as=>obtain ⟨_,_,e,_⟩:=r;exact aH e
 | dict es=>obtain ⟨_,_,_,z⟩:=r;exact z.elim
 | iter l i=>obtain ⟨_,o,e,_⟩:=r;exact aH e
 | zz=>exact r.elim
 | raw b p=>obtain ⟨_,_,o,e,_⟩:=r;exact aH e
 | s9=>exact r
theorem tP.ext {a:Addr} {o:AO} (r:tP h α n a o) (x:Ext L α dL n n' h h') (hL:∀ vs e,h.get? L≠some (sv vs e)) (k:∀ ob,h.get? a=some ob→h'.get? a=some ob):tP h' dL n' a o:=by
 cases o with
 | list vs=>obtain ⟨xC,e,g,V⟩:=r;exact (tW xC e (k _ g) (V.ext x hL))
 | cell v=>obtain ⟨ob,cv,g,d,z⟩:=r;exact (Do ob cv (k _ g) d (fun av q=>let ⟨u,a,b⟩:=z av q;(i12 u a (b.ext x hL))))
 | inst C d=>exact ⟨aC r.1 x.le,by rw [x.al d r.1];exact k _ r.2⟩
 | ns as=>obtain ⟨es,e,g,z,y⟩:=r;exact (Do es e (k _ g) (fun q av hq=>let ⟨u,a,b⟩:=z q av hq;(i12 u a (b.ext x hL))) y)
 | dict es=>obtain ⟨_,_,_,z⟩:=r;exact z.elim
 | iter l i=>exact ⟨aC r.1 x.le,by rw [x.al l r.1];exact r.2.at k⟩
 | zz=>exact r.elim
 | raw b p =>
  have e:p dL=p α:=r.2.1 dL fun i hi=>x.al i (aC hi r.1)
  obtain ⟨h1,h2,o,g,z⟩:=r
  refine (sS (aj h1 x.le) (fun β Dp=>?_) (i12 o (k _ g) (by rw [e];exact z)))
  rw [e]
  exact h2 β fun i hi=>(Dp i hi).trans (x.al i (aC hi h1))
 | s9=>exact aC r x.size
theorem Inv.lt (I:Inv am L m α H h) {k:Nat} (hk:k < H.length):α k < h.objs.size:=(I.obj k _ (aQ hk)).lt
theorem Inv.wl (I:Inv am L m α H h):L < h.objs.size:=I.fr.ns.lt
theorem Inv.other (I:Inv am L m α H h) (x:Ext L α dL H.length n' h h') {k:Nat} {o:AO} (e:H[k]?=some o) (same:h'.get? (α k)=h.get? (α k)):tP h' dL n' (dL k) o:=by
 have hk:k < H.length:=(rK e)
 rw [x.al k hk]
 exact (I.obj k o e).ext x I.kt fun ob q=>same.trans q
noncomputable def put (α:Nat→Addr) (k:Nat) (a:Addr):Nat→Addr:=fun i=>if i=k then a else α i
theorem nn (α:Nat→Addr) (k:Nat) (a:Addr):put α k a k=a:=if_pos rfl
theorem r8 (α:Nat→Addr) {k i:Nat} (a:Addr) (h:i≠k):put α k a i=α i:=if_neg h
theorem tf (α:Nat→Addr) (n:Nat) (h:Heap) (L:Addr) (o:Obj):Ext L α (put α n h.objs.size) n (n+1) h (h.push o):=by
 refine ⟨fun k hk=>r8 _ _ (ax hk),bX _,by rw [cF];exact bX _,fun b ob e _ _=>bT _ e,fun k h1 h2=>?_⟩
 have:k=n:=ir (de h2) h1
 subst this
 rw [nn]
 exact ar _
theorem Inv.push (I:Inv am L m α H h) {o:Obj} {ao:AO} (r:tP (h.push o) (put α H.length h.objs.size) (H.length+1) h.objs.size ao):Inv am L m (put α H.length h.objs.size) (H++[ao]) (h.push o):=by
 have x:=tf α H.length h L o
 have hl:(H++[ao]).length=H.length+1:=by simp
 refine ⟨I.fr.push o,fun k hk=>?_,fun i j hi hj e=>?_,fun k o' e=>?_⟩
 ·by_cases q:k=H.length
  ·subst q
   rw [nn]
   exact ⟨g8 (aj I.fr.above (bp I.wl)),br I.wl⟩
  ·rw [r8 _ _ q]
   exact I.low k (lC (lD 1 (lT hk (lE hl))) q)
 ·by_cases qi:i=H.length <;> by_cases qj:j=H.length
  ·exact lA (lT (lE qi) (lS qj)) (lT (lE qj) (lS qi))
  ·subst qi
   rw [nn,r8 _ _ qj] at e
   exact absurd (I.lt (k:=j) (lC (lD 1 (lT hj (lE hl))) qj)) (by rw [← e];exact ff _)
  ·subst qj
   rw [nn,r8 _ _ qi] at e
   exact absurd (I.lt (k:=i) (lC (lD 1 (lT hi (lE hl))) qi)) (by rw [e];exact ff _)
  ·rw [r8 _ _ qi,r8 _ _ qj] at e
   exact I.inj i j (lC (lD 1 (lT hi (lE hl))) qi) (lC (lD 1 (lT hj (lE hl))) qj) e
 ·rw [hl]
  by_cases q:k < H.length
  ·rw [aR q] at e
   exact I.other x e (cW _ _ _ (ax (I.lt q)))
  ·have hk:k=H.length:=by
    have:=(rK e)
    exact lA (lD 1 (lT this (lE hl))) (lN q)
   subst hk
   rw [aK (ar _)] at e
   simp at e
   subst e
   rw [nn]
   exact r
theorem vr (α:Nat→Addr) (n:Nat) (h:Heap) (L:Addr) (o:Obj):Ext L α α n n h (h.push o) :=
 ⟨fun _ _=>rfl,ar _,by rw [cF];exact bX _,fun b ob e _ _=>bT _ e,fun k h1 h2=>absurd h2 (bG.mpr h1)⟩
theorem Inv.same (I:Inv am L m α H h) (x:Ext L α α H.length H.length h h') (F:Fr am L h' m') (k:∀ i < H.length,h'.get? (α i)=h.get? (α i)):Inv am L m' α H h' :=
 ⟨F,I.low,I.inj,fun i _ e=>I.other x e (k i (rK e))⟩
theorem vc (I:Inv am L m α H h) {k:Nat} (hk:k < H.length) (s:du (α k) h h'):Ext L α α H.length H.length h h' :=
 ⟨fun _ _=>rfl,ar _,aJ s.1.symm,fun b o e _ hb=>(s.2 b (hb k hk)).trans e,fun _ h1 h2=>absurd h2 (bG.mpr h1)⟩
theorem Fr.upd (F:Fr am L h m) {a:Addr} (hL:a≠L) (ha:am.get? a=none) (s:du a h h'):Fr am L h' m :=
 ⟨F.ns.sameBut s (aq hL),fun b o e=>(s.2 b (ne_old ha e)).trans (F.keep b o e),F.above⟩
theorem Inv.upd (I:Inv am L m α H h) {k:Nat} (hk:k < H.length) (s:du (α k) h h') {ao:AO} (r:tP h' α H.length (α k) ao):Inv am L m α (H.set k ao) h':=by
 have x:=vc I hk s
 have l:=I.low k hk
 refine ⟨Fr.upd I.fr l.2 l.1 s,fun i hi=>I.low i (by simpa using hi),fun i j hi hj=>I.inj i j (by simpa using hi) (by simpa using hj),fun i o e=>?_⟩
 rw [aP]
 by_cases q:i=k
 ·subst q
  rw [az hk] at e
  cases e
  exact r
 ·rw [aF (aq q)] at e
  exact I.other x e (s.2 _ fun z=>q (I.inj i k (rK e) hk z))
theorem xF (s:du L h h'):Ext L α α n n h h' :=
 ⟨fun _ _=>rfl,ar _,aJ s.1.symm,fun b o e hb _=>(s.2 b hb).trans e,fun _ h1 h2=>absurd h2 (bG.mpr h1)⟩
theorem Inv.name (I:Inv am L m α H h) (hn:h'.Ns L m') (s:du L h h'):Inv am L m' α H h' :=
 I.same (xF s) (I.fr.set hn s) fun i hi=>s.2 _ (I.low i hi).2
end
section
set_option tactic.hygienic true
noncomputable def GT (an:aD) (w:aw) (am:Heap) (d:Nat) (nm:List Str) (ρ:List ci) (H:AH) (es:List Expr) (R:List AV→AH→Prop):Prop :=
 ∀ (be:Env) (A:au) (L:Addr) (m:Str→Option aa) (α:Nat→Addr) (s:af) (pos:Pos) (Q:List aa→af→Prop) (E:aa→af→Prop),
  td A d→u8 be L α H.length nm ρ→Inv am L m α H s.heap→vQ m s.heap α H.length nm ρ →
  (∀ MA vs dL H' s',R MA H'→Ext L α dL H.length H'.length s.heap s'.heap→Inv am L m dL H' s'.heap→po s'.heap dL H'.length MA vs→rM s s'→Q vs s') →
  ag (ah an w) A (iC (bE pos (aV es be))) Q E s
noncomputable def XZ (R:List AV→AH→Prop) (a:AV):List AV→AH→Prop:=fun as H2=>R (a::as) H2
noncomputable def kX (an:aD) (w:aw) (am:Heap) (d:Nat) (nm:List Str) (ρ:List ci) (es:List Expr) (R:List AV→AH→Prop):AV→AH→Prop:=fun a H1=>GT an w am d nm ρ H1 es (XZ R a)
noncomputable def kL (R:AV→AH→Prop):List AV→AH→Prop:=fun as H1=>as.length≤1000000∧R (.ref H1.length) (H1++[.list as])
noncomputable def X0 (R:AV→AH→Prop):List AV→AH→Prop:=fun as H1=>as.length≤1000000∧R (.tup as) H1
noncomputable def X4 (an:aD) (w:aw) (am:Heap) (d:Nat) (op:cV) (R:AV→AH→Prop):AV→AV→AH→Prop:=fun a b H2=>y0 an w am d H2 a b (gn op) R
noncomputable def VW (an:aD) (w:aw) (am:Heap) (d:Nat) (op:cI) (R:AV→AH→Prop):AV→AV→AH→Prop:=fun a b H2=>y0 an w am d H2 a b (dQ op) R
noncomputable def X5 (an:aD) (w:aw) (am:Heap) (d:Nat) (op:UnaryOp) (R:AV→AH→Prop):AV→AH→Prop:=fun a H1=>FG an w am d H1 a (unaryOp op) R
section
variable {nm:List Str} {ρ:List ci} {H:AH} {R:AV→AH→Prop}
theorem cr {R:List AV→AH→Prop} (h:R [] H):GT an w am d nm ρ H [] R:=fun be A L m α s pos Q E hr S I D k =>
 hM (k [] [] α H s h Ext.refl I .nil rM.refl)
theorem bi {e:Expr} {es:List Expr} {R:List AV→AH→Prop} (h:EX an w am d nm ρ H (fun be=>eval e be) (kX an w am d nm ρ es R))
  (he:∀ be,aV (e::es) be=(false,eval e be)::aV es be:=by intro _;rfl):GT an w am d nm ρ H (e::es) R:=fun be A L m α s pos Q E hr S I D k=>by
 refine f5 (h.then hr S I D fun a v rS H1 s1 h1 x1 I1 V1 Z1 S1 D1=>?_) (he be)
 exact h1 be A L m rS s1 pos _ E hr S1 I1 D1 fun as vs sP H2 s2 r x2 I2 V2 Z2=>k (a::as) (v::vs) sP H2 s2 r (x1.trans x2) I2 (.cons (V1.ext x2 I1.kt) V2) (Z1.trans Z2)
theorem ss {k:Nat} {pos:Pos} (h:R .none H):EX an w am d nm ρ H (fun be=>eval (.Constant .none k pos) be) R :=
 fun be A L m α s Q E hr S I D k=>rG (k _ _ α H _ h Ext.refl I .none rM.refl)
theorem wP {b:Bool} {k:Nat} {pos:Pos} (h:R (.bool b) H):EX an w am d nm ρ H (fun be=>eval (.Constant (.bool b) k pos) be) R :=
 fun be A L m α s Q E hr S I D k=>wpAny_Constant_bool (k _ _ α H _ h Ext.refl I (.bool b) rM.refl)
theorem pu {x:Str} {l:List Nat} {k:Nat} {pos:Pos} (hx:x=⟨l.toArray⟩) (h:R (.str l) H):EX an w am d nm ρ H (fun be=>eval (.Constant (.str x) k pos) be) R :=
 fun be A L m α s Q E hr S I D k=>fS (by subst hx;exact k _ _ α H _ h Ext.refl I (.str l _) ⟨rfl,id⟩)
theorem uc {l r:Expr} {op:cV} {pos:Pos} (h:EX an w am d nm ρ H (fun be=>eval l be) (kE an w am d nm ρ r (X4 an w am d op R))) :
  EX an w am d nm ρ H (fun be=>eval (.BinOp l op r pos) be) R:=NA h
theorem vt {x:Expr} {op:UnaryOp} {pos:Pos} (h:EX an w am d nm ρ H (fun be=>eval x be) (X5 an w am d op R)) :
  EX an w am d nm ρ H (fun be=>eval (.UnaryOp op x pos) be) R:=fun be A L m α s Q E hr S I D k=>by
 refine wpAny_UnaryOp (h.then hr S I D fun a v rS H1 s1 h1 x1 I1 V1 Z1 S1 D1=>?_)
 exact h1 A L m rS s1 Q E v hr I1 V1 fun av x dL H' s' r x3 I3 V3 Z3=>k av x dL H' s' r (x1.trans x3) I3 V3 (Z1.trans Z3)
theorem Dv {l r:Expr} {op:cI} {pos:Pos} (h:EX an w am d nm ρ H (fun be=>eval l be) (kE an w am d nm ρ r (VW an w am d op R)))
  (hm:kg op r=false:=by rfl):EX an w am d nm ρ H (fun be=>eval (.Compare l [op] [r] pos) be) R:=fun be A L m α s Q E hr S I D k=>by
 refine wpAny_Compare1 (h.then hr S I D fun a v rS H1 s1 h1 x1 I1 V1 Z1 S1 D1=>?_) hm
 refine h1.then hr S1 I1 D1 fun b u sP H2 s2 h2 x2 I2 V2 Z2 S2 D2=>?_
 exact h2 A L m sP s2 Q E v u hr I2 (V1.ext x2 I1.kt) V2 fun av x dL H' s' r x3 I3 V3 Z3=>k av x dL H' s' r ((x1.trans x2).trans x3) I3 V3 ((Z1.trans Z2).trans Z3)
theorem sB {es:List Expr} {pos:Pos} (h:GT an w am d nm ρ H es (kL R)) :
  EX an w am d nm ρ H (fun be=>eval (.List es pos) be) R:=fun be A L m α s Q E hr S I D k=>by
 refine List_ (h be A L m α s pos _ E hr S I D fun as vs rS H1 s1 h1 x1 I1 V1 Z1=>?_)
 have h9:=h1.1
 refine jb ?_ (by rw [V1.length];unfold cX;exact nI h9)
 have x2:=tf rS H1.length s1.heap L {cls:=.type "list",data:=.seq vs.toArray}
 have I2:=I1.push (o:={cls:=.type "list",data:=.seq vs.toArray}) (ao:=.list as) (tW vs 0 (bj _ rfl) (V1.ext x2 I1.kt))
 have hl:(H1++[AO.list as]).length=H1.length+1:=by simp
 refine k _ _ _ _ _ h1.2 (hl▸x1.trans x2) I2 ?_ (Z1.trans ⟨rfl,id⟩)
 have:pp (s1.heap.push {cls:=.type "list",data:=.seq vs.toArray}) (put rS H1.length s1.heap.objs.size) (H1++[AO.list as]).length (.ref H1.length) (.ref (put rS H1.length s1.heap.objs.size H1.length)):=.ref (by rw [hl];exact bB _)
 rwa [nn] at this
theorem vn {es:List Expr} {j:Nat} {pos:Pos} (h:GT an w am d nm ρ H es (X0 R)) :
  EX an w am d nm ρ H (fun be=>eval (.Tuple es j pos) be) R:=fun be A L m α s Q E hr S I D k=>by
 refine Tuple_ (h be A L m α s pos _ E hr S I D fun as vs rS H1 s1 h1 x1 I1 V1 Z1=>?_)
 have h9:=h1.1
 refine i8 ?_ (by rw [V1.length];unfold cX;exact nI h9)
 have x2:=vr rS H1.length s1.heap L {cls:=.type "tuple",data:=.seq vs.toArray}
 have I2:Inv am L m rS H1 (s1.heap.push {cls:=.type "tuple",data:=.seq vs.toArray}):=I1.same x2 (I1.fr.push _) fun i hi=>by
  refine (cW _ _ _ (ax (I1.lt hi)))
 exact k _ _ _ _ _ h1.2 (x1.trans x2) I2 (.tup (e:=0) (bj _ rfl) (fun i hi=>br (I1.lt hi)) (V1.ext x2 I1.kt)) (Z1.trans ⟨rfl,id⟩)
end
end
section
set_option backward.match.sparseCases false
noncomputable def Sf (x y:List Nat):Bool:=!(aT.Str.occurrences ⟨x.toArray⟩ ⟨y.toArray⟩ 0 (⟨x.toArray⟩ : Str).length 1).isEmpty
noncomputable def vU:AV→AH→Option Bool
 | .none,_=>some false
 | .bool b,_=>some b
 | .int i,_=>some (i != 0)
 | .str s,_=>if s.length≤1000000 then some (!s.isEmpty) else none
 | .ref k,H=>match H[k]? with
  | some (.list vs)=>if vs.length≤1000000 then some (!vs.isEmpty) else none
  | _=>none
 | _,_=>none
noncomputable def isNone:AV→Bool
 | .none=>true
 | _=>false
noncomputable def P7:cI→Int→Int→Option Bool
 | .Lt,i,j=>some (decide (i < j))
 | .LtE,i,j=>some (decide (i≤j))
 | .Gt,i,j=>some (decide (j < i))
 | .GtE,i,j=>some (decide (j≤i))
 | .Eq,i,j=>some (i == j)
 | .NotEq,i,j=>some (i != j)
 | _,_,_=>none
noncomputable def P8:cI→List Nat→List Nat→Option Bool
 | .Eq,x,y=>some (x == y)
 | .NotEq,x,y=>some (x != y)
 | .In,y,x=>some (Sf x y)
 | .NotIn,y,x=>some (!Sf x y)
 | _,_,_=>none
noncomputable def isStr:AV→Bool
 | .str _=>true
 | _=>false
noncomputable def Cf:AV→Bool
 | .con _=>true
 | _=>false
noncomputable def NB (op:cI) (a:AV):Option Bool :=
 match op with
 | .Is=>if Cf a then none else some (isNone a)
 | .IsNot=>if Cf a then none else some (!isNone a)
 | .Eq=>if isStr a then some false else if isNone a then some true else none
 | .NotEq=>if isStr a then some true else if isNone a then some false else none
 | _=>none
noncomputable def P9 (op:cI) (u v:aa):Option Bool :=
 match op,u,v with
 | .IsNot,.type a,.type b=>some (!(dN a == dN b))
 | _,_,_=>none
noncomputable def Qa:cI→Option Bool
 | .Eq=>some false
 | .NotEq=>some true
 | _=>none
noncomputable def vd (op:cI) (a b:AV):Option Bool :=
 match b with
 | .none=>NB op a
 | .int j=>match a with
  | .int i=>P7 op i j
  | _=>none
 | .str y=>match a with
  | .str x=>P8 op x y
  | .none=>Qa op
  | _=>none
 | .con v=>match a with
  | .con u=>P9 op u v
  | _=>none
 | _=>none
inductive wf:cI→AV→AV→Bool→Prop
 | lt {i j:Int}:wf .Lt (.int i) (.int j) (decide (i < j))
 | le {i j:Int}:wf .LtE (.int i) (.int j) (decide (i≤j))
 | gt {i j:Int}:wf .Gt (.int i) (.int j) (decide (j < i))
 | ge {i j:Int}:wf .GtE (.int i) (.int j) (decide (j≤i))
 | eq {i j:Int}:wf .Eq (.int i) (.int j) (i == j)
 | ne {i j:Int}:wf .NotEq (.int i) (.int j) (i != j)
 | eqs {x y:List Nat}:wf .Eq (.str x) (.str y) (x == y)
 | VX {x y:List Nat}:wf .NotEq (.str x) (.str y) (x != y)
 | ins {x y:List Nat}:wf .In (.str y) (.str x) (Sf x y)
 | VY {x y:List Nat}:wf .NotIn (.str y) (.str x) (!Sf x y)
 | eqns {x:List Nat}:wf .Eq .none (.str x) false
 | Qb {x:List Nat}:wf .NotEq .none (.str x) true
 | VZ {a:AV} {c:Bool}:NB .Eq a=some c→wf .Eq a .none c
 | V7 {a:AV} {c:Bool}:NB .NotEq a=some c→wf .NotEq a .none c
 | is {a:AV}:Cf a=false→wf .Is a .none (isNone a)
 | V8 {a:AV}:Cf a=false→wf .IsNot a .none (!isNone a)
 | tt {a b}:wf .IsNot (.con (.type a)) (.con (.type b)) (!(dN a == dN b))
theorem xG {β:Type _} {p:Bool} {a b:β} (e:(if p=true then none else some a)=some b):p=false∧a=b:=by
 cases p with
 | true=>exact uH e
 | false=>exact ⟨rfl,ay e⟩
theorem TG {op:cI} {c:Bool} {a b:AV} (e:vd op a b=some c):wf op a b c:=by
 cases b with
 | none=>cases op with
  | Is=>exact (xG e).2▸.is (xG e).1
  | IsNot=>exact (xG e).2▸.V8 (xG e).1
  | Eq=>exact .VZ e
  | NotEq=>exact .V7 e
  | _=>exact uH e
 | int j=>cases a with
  | int i=>cases op with
   | Lt=>exact ay e▸.lt
   | LtE=>exact ay e▸.le
   | Gt=>exact ay e▸.gt
   | GtE=>exact ay e▸.ge
   | Eq=>exact ay e▸.eq
   | NotEq=>exact ay e▸.ne
   | _=>exact uH e
  | _=>exact uH e
 | str y=>cases a with
  | str i=>cases op with
   | Eq=>exact ay e▸.eqs
   | NotEq=>exact ay e▸.VX
   | In=>exact ay e▸.ins
   | NotIn=>exact ay e▸.VY
   | _=>exact uH e
  | none=>cases op with
   | Eq=>exact ay e▸.eqns
   | NotEq=>exact ay e▸.Qb
   | _=>exact uH e
  | _=>exact uH e
 | con v=>cases a with
  | con u =>
   cases op with
   | IsNot =>
    cases u with
    | type x =>
     cases v with
     | type y=>exact ay e▸.tt
     | _=>exact uH e
    | _=>exact uH e
   | _=>exact uH e
  | _=>exact uH e
 | _=>exact uH e
theorem str_beq (x y:List Nat):((⟨x.toArray⟩ : Str) == ⟨y.toArray⟩)=(x == y):=by
 rw [← toList_beq]
theorem Kr (x y:List Nat):((⟨x.toArray⟩ : Str) != ⟨y.toArray⟩)=(x != y):=by
 simp only [bne,str_beq]
noncomputable def EB (an:aD) (w:aw) (am:Heap) (d:Nat) (nm:List Str) (ρ:List ci) (H:AH) (T:Env→Sem Bool) (R:Bool→AH→Prop):Prop :=
 ∀ (be:Env) (A:au) (L:Addr) (m:Str→Option aa) (α:Nat→Addr) (s:af) (Q:Bool→af→Prop) (E:aa→af→Prop),
  td A d→u8 be L α H.length nm ρ→Inv am L m α H s.heap→vQ m s.heap α H.length nm ρ →
  (∀ b dL H' s',R b H'→Ext L α dL H.length H'.length s.heap s'.heap→Inv am L m dL H' s'.heap→rM s s'→Q b s')→ag (ah an w) A (T be) Q E s
noncomputable abbrev AL (e:Expr):Env→Sem Bool:=fun be=>isTrue e be (eval e be)
section
variable {nm:List Str} {ρ:List ci} {H H' : AH} {x:AV} {R:AV→AH→Prop}
set_option tactic.hygienic true in
theorem Cg {a:AV} {b:Bool} (e:vU a H=some b) {A:au} {L:Addr} {m:Str→Option aa} {α:Nat→Addr} {s:af} {Q:Bool→af→Prop} {E:aa→af→Prop} {v:aa}
  (I:Inv am L m α H s.heap) (V:pp s.heap α H.length a v) (k:∀ tk,Q b {s with toks:=tk}):ag (ah an w) A (truthy v) Q E s:=by
 cases V with
 | none=>cases e;exact truthy_none (k s.toks)
 | bool c=>cases e;exact qg (k s.toks)
 | int i t=>cases e;exact truthy_int (k s.toks)
 | str l t =>
  simp only [vU] at e
  split at e
  ·rename_i g
   obtain rfl:=ay e
   have hl:((⟨l.toArray⟩ : Str).length:Int)=(l.length:Int):=by simp [di]
   refine qY (by rw [hl];lia) ?_
   have:(((⟨l.toArray⟩ : Str).length:Int) != 0)=!l.isEmpty:=by
    rw [hl]
    cases l with
    | nil=>rfl
    | cons a r=>simp only [aS,List.isEmpty_cons,Bool.not_false];simp;lia
   rw [this]
   exact k _
  ·exact uH e
 | tup=>exact uH e
 | ref hk =>
  rename_i j
  simp only [vU] at e
  split at e
  ·rename_i vs q
   split at e
   ·rename_i g
    obtain rfl:=ay e
    obtain ⟨xC,n,ho,hv⟩:=I.obj j _ q
    have hl:=hv.length
    refine wpAny_truthy_list (items:=xC.toArray) (sN _ ho rfl (Au n rfl)) (by simp only [bZ];exact nH (aj (aJ hl) g)) ?_
    have:(!xC.toArray.isEmpty)=!vs.isEmpty:=by
     cases hv <;> simp
    rw [this]
    exact k _
   ·exact uH e
  ·exact uH e
 | con=>exact uH e
theorem wm {op:cI} {a b:AV} {c:Bool} (h:∀ (A:au) (α:Nat→Addr) (s:af) (Q:aa→af→Prop) (E:aa→af→Prop) (v u:aa),pp s.heap α H.length a v→pp s.heap α H.length b u→Q (.bool c) s→ag (ah an w) A (dQ op v u) Q E s) :
  y0 an w am d H a b (dQ op) (Is (.bool c) H):=fun A L m α s Q E v u hr I V U k=>h A α s Q E v u V U (k _ _ α H _ ⟨rfl,rfl⟩ Ext.refl I (.bool c) ⟨rfl,id⟩)
theorem pp.V9 {h:Heap} {α:Nat→Addr} {n:Nat} {a:AV} {v:aa} (V:pp h α n a v) (e:Cf a=false):isNone a=(v == .none):=by
 cases V <;> first | rfl | cases e
theorem Bu {op:cI} {a b:AV} {c:Bool} (e:vd op a b=some c):y0 an w am d H a b (dQ op) (Is (.bool c) H):=by
 replace e:=TG e
 cases e with
 | lt=>exact wm fun _ _ _ _ _ _ _ V U k=>V.tI fun _=>U.tI fun _=>rB k
 | le=>exact wm fun _ _ _ _ _ _ _ V U k=>V.tI fun _=>U.tI fun _=>PyProof.Rows.le_int k
 | gt=>exact wm fun _ _ _ _ _ _ _ V U k=>V.tI fun _=>U.tI fun _=>pD k
 | ge=>exact wm fun _ _ _ _ _ _ _ V U k=>V.tI fun _=>U.tI fun _=>PyProof.Rows.ge_int k
 | eq=>exact wm fun _ _ _ _ _ _ _ V U k=>V.tI fun _=>U.tI fun _=>PyProof.Rows.eq_int k
 | ne=>exact wm fun _ _ _ _ _ _ _ V U k=>V.tI fun _=>U.tI fun _=>PyProof.Rows.ne_int k
 | eqs=>exact wm fun _ _ _ _ _ _ _ V U k=>V.ub fun _=>U.ub fun _=>PyProof.Rows.eq_str ((str_beq _ _).symm▸k)
 | VX=>exact wm fun _ _ _ _ _ _ _ V U k=>V.ub fun _=>U.ub fun _=>PyProof.Rows.ne_str ((Kr _ _).symm▸k)
 | ins=>exact wm fun _ _ _ _ _ _ _ V U k=>V.ub fun _=>U.ub fun _=>PyProof.Rows.in_str k
 | VY=>exact wm fun _ _ _ _ _ _ _ V U k=>V.ub fun _=>U.ub fun _=>PyProof.Rows.notIn_str k
 | eqns=>exact wm fun _ _ _ _ _ _ _ V U k=>V.none_ (U.ub fun _=>PySem.EqNone.eq_none_str k)
 | Qb=>exact wm fun _ _ _ _ _ _ _ V U k=>V.none_ (U.ub fun _=>PySem.EqNone.ne_none_str k)
 | @VZ a c e =>
  refine wm fun _ _ _ _ _ _ _ V U k=>U.none_ ?_
  cases a with
  | none=>exact V.none_ (PySem.EqNone.eq_none_none ((ay e).symm▸k))
  | str=>exact V.ub fun _=>PySem.EqNone.eq_str_none ((ay e).symm▸k)
  | _=>exact uH e
 | @V7 a c e =>
  refine wm fun _ _ _ _ _ _ _ V U k=>U.none_ ?_
  cases a with
  | none=>exact V.none_ (PySem.EqNone.ne_none_none ((ay e).symm▸k))
  | str=>exact V.ub fun _=>PySem.EqNone.ne_str_none ((ay e).symm▸k)
  | _=>exact uH e
 | tt=>exact wm fun _ _ _ _ _ _ _ V U k=>V.Ce (U.Ce (isnot_type k))
 | is h=>exact wm fun _ _ _ _ _ _ _ V U k=>U.none_ (is_none_gen (pp.V9 V h▸k))
 | V8 h=>exact wm fun _ _ _ _ _ _ _ V U k=>U.none_ (isnot_none_gen (pp.V9 V h▸k))
end
end
section
variable {nm:List Str} {ρ:List ci} {H:AH} {R:Bool→AH→Prop}
theorem EB.mono {T:Env→Sem Bool} {R R' : Bool→AH→Prop} (h1:EB an w am d nm ρ H T R) (h:∀ a H',R a H'→R' a H'):EB an w am d nm ρ H T R' :=
 fun be A L m α s Q E hr S I D k=>h1 be A L m α s Q E hr S I D fun av dL H' s' r=>k av dL H' s' (h av H' r)
theorem EB.then {T:Env→Sem Bool} (h1:EB an w am d nm ρ H T R) {be:Env} {A:au} {L:Addr} {m:Str→Option aa} {α:Nat→Addr} {s:af} {Q:Bool→af→Prop} {E:aa→af→Prop}
  (hr:td A d) (S:u8 be L α H.length nm ρ) (I:Inv am L m α H s.heap) (D:vQ m s.heap α H.length nm ρ)
  (k:∀ b dL H' s',R b H'→Ext L α dL H.length H'.length s.heap s'.heap→Inv am L m dL H' s'.heap→rM s s'→u8 be L dL H'.length nm ρ→vQ m s'.heap dL H'.length nm ρ→Q b s') :
  ag (ah an w) A (T be) Q E s :=
 h1 be A L m α s Q E hr S I D fun b dL H' s' r x I' Z=>k b dL H' s' r x I' Z (S.ext x) (D.ext x I.kt)
noncomputable def kT (R:Bool→AH→Prop):AV→AH→Prop:=fun a H1=>∃ t,vU a H1=some t∧R t H1
theorem kT.mk {R:Bool→AH→Prop} {a:AV} {H:AH} (t:Bool) (e:vU a H=some t) (r:R t H):kT R a H:=(i12 t e r)
noncomputable def X6 (an:aD) (w:aw) (am:Heap) (d:Nat) (nm:List Str) (ρ:List ci) (rest:List Expr) (pos:Pos) (R:Bool→AH→Prop):Bool→AH→Prop:=fun b H1=>if b=true then EB an w am d nm ρ H1 (AL (.BoolOp .And rest pos)) R else R false H1
noncomputable def X7 (an:aD) (w:aw) (am:Heap) (d:Nat) (nm:List Str) (ρ:List ci) (rest:List Expr) (pos:Pos) (R:Bool→AH→Prop):Bool→AH→Prop:=fun b H1=>if b=true then R true H1 else EB an w am d nm ρ H1 (AL (.BoolOp .Or rest pos)) R
noncomputable def Pg (R:Bool→AH→Prop):Bool→AH→Prop:=fun b H'=>R (!b) H'
theorem Pg.t {R:Bool→AH→Prop} {H:AH} (h:R false H):Pg R true H:=h
theorem Pg.f {R:Bool→AH→Prop} {H:AH} (h:R true H):Pg R false H:=h
theorem ud {x:Expr} {pos:Pos} (h:EB an w am d nm ρ H (AL x) (Pg R)):EB an w am d nm ρ H (AL (.UnaryOp .Not x pos)) R :=
 fun be A L m α s Q E hr S I D k=>isTrue_not (h be A L m α s _ E hr S I D fun b dL H' s' r=>k (!b) dL H' s' r)
theorem xH {pos:Pos} (h:R true H):EB an w am d nm ρ H (AL (.BoolOp .And [] pos)) R:=fun be A L m α s Q E hr S I D k=>isTrue_and_nil (k _ α H s h Ext.refl I rM.refl)
theorem yw {pos:Pos} (h:R false H):EB an w am d nm ρ H (AL (.BoolOp .Or [] pos)) R:=fun be A L m α s Q E hr S I D k=>isTrue_or_nil (k _ α H s h Ext.refl I rM.refl)
theorem r9 {x:Expr} {rest:List Expr} {pos:Pos} (h:EB an w am d nm ρ H (AL x) (X6 an w am d nm ρ rest pos R)) :
  EB an w am d nm ρ H (AL (.BoolOp .And (x::rest) pos)) R:=fun be A L m α s Q E hr S I D k=>by
 refine isTrue_and (h.then hr S I D fun b rS H1 s1 h1 x1 I1 Z1 S1 D1=>?_)
 cases b with
 | false=>simp only [cG,if_false] at h1 ⊢;exact k _ rS H1 s1 h1 x1 I1 Z1
 | true =>
  simp only [if_true] at h1 ⊢
  exact h1.then hr S1 I1 D1 fun b sP H2 s2 r x2 I2 Z2 _ _=>k b sP H2 s2 r (x1.trans x2) I2 (Z1.trans Z2)
theorem vw {x:Expr} {rest:List Expr} {pos:Pos} (h:EB an w am d nm ρ H (AL x) (X7 an w am d nm ρ rest pos R)) :
  EB an w am d nm ρ H (AL (.BoolOp .Or (x::rest) pos)) R:=fun be A L m α s Q E hr S I D k=>by
 refine isTrue_or (h.then hr S I D fun b rS H1 s1 h1 x1 I1 Z1 S1 D1=>?_)
 cases b with
 | true=>simp only [if_true] at h1 ⊢;exact k _ rS H1 s1 h1 x1 I1 Z1
 | false =>
  simp only [cG,if_false] at h1 ⊢
  exact h1.then hr S1 I1 D1 fun b sP H2 s2 r x2 I2 Z2 _ _=>k b sP H2 s2 r (x1.trans x2) I2 (Z1.trans Z2)
theorem uj {l r:Expr} {op:cI} {pos:Pos} (h:EX an w am d nm ρ H (fun be=>eval l be) (kE an w am d nm ρ r (VW an w am d op (kT R))))
  (hm:kg op r=false:=by rfl):EB an w am d nm ρ H (AL (.Compare l [op] [r] pos)) R:=fun be A L m α s Q E hr S I D k=>by
 refine oT (h.then hr S I D fun a v rS H1 s1 h1 x1 I1 V1 Z1 S1 D1=>?_) hm
 refine h1.then hr S1 I1 D1 fun b u sP H2 s2 h2 x2 I2 V2 Z2 S2 D2=>?_
 refine h2 A L m sP s2 _ E v u hr I2 (V1.ext x2 I1.kt) V2 fun c x sQ H3 s3 r x3 I3 V3 Z3=>?_
 obtain ⟨t,ht,hR⟩:=r
 exact Cg ht I3 V3 fun tk=>k t sQ H3 _ hR ((x1.trans x2).trans x3) I3 (((Z1.trans Z2).trans Z3).trans ⟨rfl,id⟩)
theorem rN {e:Expr} (h:EX an w am d nm ρ H (fun be=>eval e be) (kT R))
  (he:∀ be,isTrue e be (eval e be)=(do let v ← eval e be;cj e.pos;eh [v] (truthy v)):=by intro _;rfl):EB an w am d nm ρ H (AL e) R:=fun be A L m α s Q E hr S I D k=>by
 refine isTrue_plain (h.then hr S I D fun a v rS H1 s1 h1 x1 I1 V1 Z1 S1 D1=>?_) (he be)
 obtain ⟨t,ht,hR⟩:=h1
 exact Cg ht I1 V1 fun tk=>k t rS H1 _ hR x1 I1 (Z1.trans ⟨rfl,id⟩)
end
inductive AF where
 | next | brk | cont
 | ret (v:AV)
inductive Ch (h:Heap) (α:Nat→Addr) (n:Nat):AF→Flow→Prop
 | next:Ch h α n .next .next
 | brk:Ch h α n .brk .brk
 | cont:Ch h α n .cont .cont
 | ret {a:AV} {v:aa}:pp h α n a v→Ch h α n (.ret a) (.ret v)
noncomputable def ST (an:aD) (w:aw) (am:Heap) (d:Nat) (nm:List Str) (ρ:List ci) (H:AH) (T:Env→Sem Flow) (R:AF→List ci→AH→Prop):Prop :=
 ∀ (be:Env) (A:au) (L:Addr) (m:Str→Option aa) (α:Nat→Addr) (s:af) (Q:Flow→af→Prop) (E:aa→af→Prop),
  td A d→u8 be L α H.length nm ρ→Inv am L m α H s.heap→vQ m s.heap α H.length nm ρ →
  (∀ f fl ρ' m' dL H' s',R f ρ' H'→Ext L α dL H.length H'.length s.heap s'.heap→Inv am L m' dL H' s'.heap→u8 be L dL H'.length nm ρ'→vQ m' s'.heap dL H'.length nm ρ'→Ch s'.heap dL H'.length f fl→rM s s'→Q fl s') →
  ag (ah an w) A (T be) Q E s
noncomputable def kI (an:aD) (w:aw) (am:Heap) (d:Nat) (nm:List Str) (ρ:List ci) (b o:List Stmt) (R:AF→List ci→AH→Prop):Bool→AH→Prop:=fun c H1=>if c=true then ST an w am d nm ρ H1 (fun be=>aG b be) R else ST an w am d nm ρ H1 (fun be=>aG o be) R
noncomputable def kC (an:aD) (w:aw) (am:Heap) (d:Nat) (nm:List Str) (rest:List Stmt) (R:AF→List ci→AH→Prop):AF→List ci→AH→Prop:=fun f sZ H1=>match f with | .next=>ST an w am d nm sZ H1 (fun be=>aG rest be) R | f=>R f sZ H1
noncomputable def kR (ρ:List ci) (R:AF→List ci→AH→Prop):AV→AH→Prop:=fun a H1=>R (.ret a) ρ H1
noncomputable def kN (ρ:List ci) (R:AF→List ci→AH→Prop):AV→AH→Prop:=fun _ H1=>R .next ρ H1
noncomputable abbrev NC (R:AV→AH→Prop):AF→List ci→AH→Prop:=fun f _ H'=>match f with | .ret a=>R a H' | .next=>R .none H' | _=>False
section
variable {nm:List Str} {ρ:List ci} {H:AH} {R:AF→List ci→AH→Prop}
theorem ST.mono {T:Env→Sem Flow} {R R' : AF→List ci→AH→Prop} (h1:ST an w am d nm ρ H T R) (h:∀ f ρ' H',R f ρ' H'→R' f ρ' H'):ST an w am d nm ρ H T R' :=
 fun be A L m α s Q E hr S I D k=>h1 be A L m α s Q E hr S I D fun f fl ρ' m' dL H' s' r=>k f fl ρ' m' dL H' s' (h f ρ' H' r)
theorem ev (h:R .next ρ H):ST an w am d nm ρ H (fun be=>aG [] be) R:=fun be A L m α s Q E hr S I D k=>lG (k .next .next ρ m α H s h Ext.refl I S D .next rM.refl)
theorem bd {st:Stmt} {rest:List Stmt} (h:ST an w am d nm ρ H (fun be=>exec st be) (kC an w am d nm rest R)) :
  ST an w am d nm ρ H (fun be=>aG (st::rest) be) R:=fun be A L m α s Q E hr S I D k=>by
 refine (?_:ag (ah an w) A (do match ← exec st be with | .next=>aG rest be | f=>pure f) Q E s)
 refine ab (h be A L m α s _ E hr S I D fun f fl sZ m1 rS H1 s1 r x1 I1 S1 D1 F1 Z1=>?_)
 cases F1 with
 | next=>exact r be A L m1 rS s1 Q E hr S1 I1 D1 fun f fl wn m2 sP H2 s2 r2 x2 I2 S2 D2 F2 Z2=>k f fl wn m2 sP H2 s2 r2 (x1.trans x2) I2 S2 D2 F2 (Z1.trans Z2)
 | brk=>exact ai (k _ _ sZ m1 rS H1 s1 r x1 I1 S1 D1 .brk Z1)
 | cont=>exact ai (k _ _ sZ m1 rS H1 s1 r x1 I1 S1 D1 .cont Z1)
 | ret V=>exact ai (k _ _ sZ m1 rS H1 s1 r x1 I1 S1 D1 (.ret V) Z1)
theorem sF {e:Expr} {pos:Pos} (h:EX an w am d nm ρ H (fun be=>eval e be) (kR ρ R)):ST an w am d nm ρ H (fun be=>exec (.Return (some e) pos) be) R :=
 fun be A L m α s Q E hr S I D k=>iG (h.then hr S I D fun a v rS H1 s1 r x1 I1 V1 Z1 S1 D1=>k _ _ ρ m rS H1 s1 r x1 I1 S1 D1 (.ret V1) Z1)
theorem te {e:Expr} {pos:Pos} (h:EX an w am d nm ρ H (fun be=>eval e be) (kN ρ R)) (hs:∀ be,dw e none pos.line be=pure false:=by intro _;rfl):ST an w am d nm ρ H (fun be=>exec (.Expr e pos) be) R :=
 fun be A L m α s Q E hr S I D k=>wpAny_Expr_any (h.then hr S I D fun a v rS H1 s1 r x1 I1 V1 Z1 S1 D1=>k _ _ ρ m rS H1 s1 r x1 I1 S1 D1 .next Z1) (by unfold interactive;rw [S.kind];rfl) (hs be)
theorem xI {pos:Pos} (h:R .brk ρ H):ST an w am d nm ρ H (fun be=>exec (.Break pos) be) R:=fun be A L m α s Q E hr S I D k=>wpAny_Break (k _ _ ρ m α H s h Ext.refl I S D .brk rM.refl)
theorem Ci {pos:Pos} (h:R .cont ρ H):ST an w am d nm ρ H (fun be=>exec (.Continue pos) be) R:=fun be A L m α s Q E hr S I D k=>wpAny_Continue (k _ _ ρ m α H s h Ext.refl I S D .cont rM.refl)
theorem m0 {t:Expr} {b o:List Stmt} {pos:Pos} (h:EB an w am d nm ρ H (AL t) (kI an w am d nm ρ b o R)) :
  ST an w am d nm ρ H (fun be=>exec (.If t b o pos) be) R:=fun be A L m α s Q E hr S I D k=>by
 refine jY (h.then hr S I D fun c rS H1 s1 h1 x1 I1 Z1 S1 D1=>?_)
 cases c with
 | true=>simp only [if_true] at h1 ⊢;exact h1 be A L m rS s1 Q E hr S1 I1 D1 fun f fl wn m2 sP H2 s2 r2 x2 I2 S2 D2 F2 Z2=>k f fl wn m2 sP H2 s2 r2 (x1.trans x2) I2 S2 D2 F2 (Z1.trans Z2)
 | false=>simp only [cG,if_false] at h1 ⊢;exact h1 be A L m rS s1 Q E hr S1 I1 D1 fun f fl wn m2 sP H2 s2 r2 x2 I2 S2 D2 F2 Z2=>k f fl wn m2 sP H2 s2 r2 (x1.trans x2) I2 S2 D2 F2 (Z1.trans Z2)
end
section
set_option backward.match.sparseCases false
noncomputable def FH (ρ:List ci) (H:AH) (i:Nat) (a:AV):Option (List ci×AH):=match ρ[i]? with
 | some (.loc _)=>some (ρ.set i (.loc (some a)),H)
 | some (.sG j)=>match H[j]? with
  | some (.cell _)=>some (ρ,H.set j (.cell (some a)))
  | _=>none
 | _=>none
section
variable {nm:List Str} {ρ ρ' : List ci} {H H' : AH} {R:AF→List ci→AH→Prop}
theorem Hb {nm:List Str} (hn:nm.Nodup) {i j:Nat} {x:Str} (hi:nm[i]?=some x) (hj:nm[j]?=some x):i=j:=by
 obtain ⟨li,ei⟩:=cQ.mp hi
 obtain ⟨lj,ej⟩:=cQ.mp hj
 rcases kZ i j with h | h | h
 ·exact absurd (ei.trans ej.symm) ((cK.mp hn) i j li lj h)
 ·exact h
 ·exact absurd (ej.trans ei.symm) ((cK.mp hn) j i lj li h)
set_option tactic.hygienic true in
theorem vy {i:Nat} {x:Str} {a:AV} (e:FH ρ H i a=some (ρ',H')) (hx:nm[i]?=some x) (hn:nm.Nodup) {be:Env} {A:au} {L:Addr} {m:Str→Option aa} {α:Nat→Addr} {s:af} {v:aa} {Q:Unit→af→Prop} {E:aa→af→Prop}
  (S:u8 be L α H.length nm ρ) (I:Inv am L m α H s.heap) (D:vQ m s.heap α H.length nm ρ) (V:pp s.heap α H.length a v)
  (k:∀ m' s',Ext L α α H.length H'.length s.heap s'.heap→Inv am L m' α H' s'.heap→u8 be L α H'.length nm ρ'→vQ m' s'.heap α H'.length nm ρ'→rM s s'→Q () s') :
  ag (ah an w) A (storeName be x v) Q E s:=by
 unfold FH at e
 split at e
 ·rename_i o q
  simp only [iK,rD] at e
  obtain ⟨rfl,rfl⟩:=e
  have kd:=S.slots i x _ hx q
  refine wpAny_storeName_local kd (S.loc▸I.fr.ns) (fun h' xk hs=>?_) (by rw [S.kind];rfl)
  rw [S.loc] at xk hs
  have xt:Ext L α α H.length H.length s.heap h':=xF hs
  refine k _ {s with heap:=h',toks:=s.toks+1} xt (I.name xk hs) ⟨S.kind,S.loc,S.rc,S.blt,fun j y sl a b=>?_⟩ (fun j y av a b=>?_) ⟨rfl,id⟩
  ·by_cases z:i=j
   ·subst z
    have hl:=(rK q)
    rw [az hl] at b
    obtain rfl:=ay b
    rw [hx] at a
    obtain rfl:=ay a
    exact kd
   ·rw [aF z] at b
    exact S.slots j y sl a b
  ·by_cases z:i=j
   ·subst z
    have hl:=(rK q)
    rw [az hl] at b
    simp only [iK,ci.loc.injEq] at b
    subst b
    rw [hx] at a
    obtain rfl:=ay a
    exact (i12 v (if_pos rfl) (V.ext xt I.kt))
   ·rw [aF z] at b
    obtain ⟨u,hu,U⟩:=D j y av a b
    have ne:y≠x:=fun e=>z (Hb hn hx (e▸a))
    exact (i12 u ((if_neg ne).trans hu) (U.ext xt I.kt))
 ·rename_i j q
  split at e
  ·rename_i cv hj
   simp only [iK,rD] at e
   obtain ⟨rfl,rfl⟩:=e
   obtain ⟨wo,kd,hl⟩:=S.slots i x _ hx q
   obtain ⟨ob,c0,ho,hd,_⟩:=I.obj j _ hj
   refine wpAny_storeName_cell S.kind kd hl (i12 ob ho hd) fun h' hc hs=>?_
   have mo:(H.set j (AO.cell (some a))).length=H.length:=aP
   have xt:Ext L α α H.length H.length s.heap h':=vc I wo hs
   obtain ⟨o',MB,JM⟩:=hc
   have I':=I.upd wo hs (ao:=.cell (some a)) (Do o' (some v) MB JM (fun av z=>by cases z;exact (i12 v rfl (V.ext xt I.kt))))
   exact k m {s with heap:=h'} (mo.symm▸xt) I' (mo.symm▸S.ext xt) (mo.symm▸D.ext xt I.kt) ⟨rfl,id⟩
  ·exact uH e
 ·exact uH e
noncomputable def kA (ρ:List ci) (i:Nat) (R:AF→List ci→AH→Prop):AV→AH→Prop:=fun a H1=>∃ ρ' H2,FH ρ H1 i a=some (ρ',H2)∧R .next ρ' H2
theorem kA.mk {ρ ρ' : List ci} {i:Nat} {R:AF→List ci→AH→Prop} {a:AV} {H H' : AH} (e:FH ρ H i a=some (ρ',H')) (r:R .next ρ' H'):kA ρ i R a H:=(tW _ _ e r)
theorem yx {i:Nat} {x:Str} {e:Expr} {p' pos:Pos} (hx:nm[i]?=some x) (hn:nm.Nodup) (h:EX an w am d nm ρ H (fun be=>eval e be) (kA ρ i R))
  (hs:∀ be,dw e (some (.Name x p')) pos.line be=pure false:=by intro _;rfl):ST an w am d nm ρ H (fun be=>exec (.Assign [.Name x p'] e pos) be) R:=fun be A L m α s Q E hr S I D k=>by
 refine l7 (h.then hr S I D fun a v rS H1 s1 h1 x1 I1 V1 Z1 S1 D1=>?_) (hs be)
 obtain ⟨ρ',H2,e2,r⟩:=h1
 exact vy e2 hx hn S1 I1 D1 V1 fun m' s' x2 I2 S2 D2 Z2=>k _ _ ρ' m' rS H2 s' r (x1.trans x2) I2 S2 D2 .next (Z1.trans Z2)
theorem t6 (i:Nat) {x:Str} {e:Expr} {p' pos:Pos} (hx:nm[i]?=some x) (h:EX an w am d nm ρ H (fun be=>eval e be) (kA ρ i R)) (hn:nm.Nodup:=by decide +kernel)
  (hs:∀ be,dw e (some (.Name x p')) pos.line be=pure false:=by intro _;rfl):ST an w am d nm ρ H (fun be=>exec (.Assign [.Name x p'] e pos) be) R:=yx hx hn h hs
end
end
noncomputable def FN (an:aD) (w:aw) (am:Heap) (d:Nat) (f:aa) (H:AH) (args:List AV) (kw:List Str) (R:AV→AH→Prop):Prop :=
 ∀ (A:au) (L:Addr) (m:Str→Option aa) (α:Nat→Addr) (s:af) (Q E:aa→af→Prop) (vs:List aa),td A d→Inv am L m α H s.heap→po s.heap α H.length args vs →
  (∀ av x dL H' s',R av H'→Ext L α dL H.length H'.length s.heap s'.heap→Inv am L m dL H' s'.heap→pp s'.heap dL H'.length av x→rM s s'→Q x s') →
  ag (ah an w) A (call f (vs.take (vs.length - kw.length)) (kw.zip (vs.drop (vs.length - kw.length)))) Q E s
theorem FN.mono {f:aa} {H:AH} {args:List AV} {kw:List Str} {R R' : AV→AH→Prop} (h1:FN an w am d f H args kw R) (h:∀ a H',R a H'→R' a H'):FN an w am d f H args kw R' :=
 fun A L m α s Q E vs hr I V k=>h1 A L m α s Q E vs hr I V fun av x dL H' s' r=>k av x dL H' s' (h av H' r)
noncomputable def FC (an:aD) (w:aw) (am:Heap) (d:Nat) (f:aa) (H:AH) (args:List AV) (kw:List Str) (R:AV→AH→Prop):Prop :=
 ∀ (A:au) (L:Addr) (m:Str→Option aa) (α:Nat→Addr) (s:af) (Q E:aa→af→Prop) (vs:List aa),td A d→Inv am L m α H s.heap→po s.heap α H.length args vs →
  (∀ av x dL H' s',R av H'→Ext L α dL H.length H'.length s.heap s'.heap→Inv am L m dL H' s'.heap→pp s'.heap dL H'.length av x→rM s s'→Q x s') →
  bA (ah an w) A (.call f ⟨vs.take (vs.length - kw.length),kw.zip (vs.drop (vs.length - kw.length))⟩) (fun r s'=>match r with | .ok (.ret v)=>Q v s' | .ok _=>False | .error e=>E e s') s
theorem FC.fn {f:aa} {H:AH} {args:List AV} {kw:List Str} {R:AV→AH→Prop} (h:FC an w am d f H args kw R):FN an w am d f H args kw R :=
 fun A L m α s Q E vs hr I V k=>dg (h A L m α s Q E vs hr I V k)
theorem zF:∀ {ks:List Str} {vs:List aa} {i:Nat} {x:Str} {v:aa},ks.Nodup→ks[i]?=some x→vs[i]?=some v→(ks.zip vs).reverse.lookup x=some v:=by
 intro v_
 induction v_ with
 | nil =>
  intro xJ MC x v n e1 e2
  simp at e1
 | cons k ks sg =>
  intro xJ MC x v n e1 e2
  cases xJ with
  | nil =>
   simp at e2
  | cons u vs =>
   cases MC with
   | zero =>
    simp at e1 e2
    subst e1 e2
    rw [dx,pV,pN]
    have:(ks.zip vs).reverse.lookup k=none:=by
     rw [List.lookup_eq_none_iff]
     intro p hp
     have hp:=qC.mp hp
     have:=(jG hp).1
     simp only [bne_iff_ne,ne_eq]
     intro q
     exact (cq.mp n).1 (q▸this)
    rw [this]
    simp
   | succ i =>
    rw [dx,pV,pN,sg (cq.mp n).2 (by simpa using e1) (by simpa using e2)]
    rfl
noncomputable def vV (args:List AV) (more g:Nat):List ci:=args.map (fun a=>.loc (some a))++(rj more (.loc none)++rj g .rc)
theorem FI {args:List AV} {more g i:Nat} {av:AV} (e:(vV args more g)[i]?=some (.loc (some av))):args[i]?=some av:=by
 unfold vV at e
 by_cases h:i < args.length
 ·rw [aR (by simpa using h),bu] at e
  cases q:args[i]? with
  | none=>rw [q] at e;cases e
  | some a=>rw [q] at e;simp at e;rw [e]
 ·rw [aK (by simpa using bC h)] at e
  have:=bx e
  rcases bV.mp this with q | q
  ·cases jZ q
  ·cases jZ q
theorem Cj {args:List AV} {more g i:Nat} {sl:ci} (e:(vV args more g)[i]?=some sl):(i < args.length+more∧∃ o,sl=.loc o)∨(args.length+more≤i∧sl=.rc):=by
 unfold vV at e
 by_cases h:i < args.length
 ·rw [aR (by simpa using h)] at e
  obtain ⟨a,_,rfl⟩:=aE.mp (bx e)
  exact .inl (vm (lT h lI) (Au _ rfl))
 ·rw [aK (by simpa using bC h)] at e
  simp only [aM] at e
  by_cases q:i - args.length < more
  ·rw [aR (by simpa using q)] at e
   exact .inl (vm (by lia) (Au _ (jZ (bx e))))
  ·rw [aK (by simpa using bC q)] at e
   exact .inr ⟨nv (bC h) (bC q),jZ (bx e)⟩
structure Ck (am:Heap) (f:Addr) (fd:da) (body:List Stmt) (ps nl ng:List Str):Prop where
 at_:∃ o,am.get? f=some o∧o.data=.func fd
 nolimit:am.NoLimit
 code:am.CodeRec fd.code fd.qualname
 body:fd.body=.stmts body
 wq:∀ x∈fd.scope.names,x.2≠.cell
 co:fd.scope.isCoroutine=false
 gen:fd.scope.isGenerator=false
 kind:fd.scope.kind=.function
 rc:fd.globals=dK
 blt:fd.builtins=fQ
 nodup:(ps++(nl++ng)).Nodup
 locals:∀ x∈ps++nl,fd.scope.names.lookup x=some .local
 xl:∀ x∈ng,fd.scope.names.lookup x=some .globalImplicit
section
variable {ps nl ng:List Str} {H:AH} {R:AV→AH→Prop}
theorem EF {f:Addr} {fd:da} {body:List Stmt} {args full:List AV} {kw:List Str} (F:Ck am f fd body ps nl ng) (hl:full.length=ps.length)
  (bind:∀ (s:af) (vs:List aa) (h:Heap) (α:Nat→Addr) (n:Nat),po h α n args vs→(∀ b o,am.get? b=some o→s.heap.get? b=some o)→∃ us,iI s fd ⟨vs.take (vs.length - kw.length),kw.zip (vs.drop (vs.length - kw.length))⟩ (ps.zip us)∧po h α n full us)
  (h:ST an w am d (ps++(nl++ng)) (vV full nl.length ng.length) H (fun be=>aG body be) (NC R)) :
  FC an w am (d+1) (.ref f) H args kw R:=by
 intro A L m α s Q E vs hr I V k
 obtain ⟨o,ho,hd⟩:=F.at_
 have keep:=I.fr.keep
 obtain ⟨us,hb,V⟩:=bind s vs _ _ _ V keep
 have lv:=V.length
 refine (ix (binds:=ps.zip us) (by have:=hr.depth;exact lD 8 (lR 8 (lT (lU 9 lI) this))) (keep _ _ ho) hd (F.nolimit.keeps keep) (F.code.keeps keep) F.body hb F.wq
  (fun x hx=>?_) (fun rJ xk hk=>?_) F.co F.gen F.kind)
 ·exact F.locals x.1 (fb _ (jG hx).1)
 ·have tO:s.heap.objs.size < rJ.objs.size:=xk.lt
  have x0:Ext L α α H.length H.length s.heap rJ:=⟨fun _ _=>rfl,ar _,bp tO,fun b o e _ _=>hk b o e,fun _ a b=>absurd b (bG.mpr a)⟩
  have F1:Fr am s.heap.objs.size rJ (fun x=>(ps.zip us).reverse.lookup x):=⟨xk,fun b o e=>hk b o (keep b o e),aj I.fr.above (bp I.wl)⟩
  have I1:Inv am s.heap.objs.size (fun x=>(ps.zip us).reverse.lookup x) α H rJ:=by
   refine ⟨F1,fun i hi=>⟨(I.low i hi).1,ax (I.lt hi)⟩,I.inj,fun i oo e=>?_⟩
   have hi:i < H.length:=(rK e)
   exact (I.obj i oo e).ext x0 I.kt fun ob q=>hk _ _ q
  have S1:u8 (bF fd s.heap.objs.size f) s.heap.objs.size α H.length (ps++(nl++ng)) (vV full nl.length ng.length):=by
   refine ⟨F.kind,rfl,F.rc,F.blt,fun i x sl a b=>?_⟩
   rcases Cj b with ⟨lt,o,rfl⟩ | ⟨ge,rfl⟩
   ·refine F.locals x ?_
    rw [← ak,aR (by rw [aI];exact hl▸lt)] at a
    exact bx a
   ·refine F.xl x ?_
    rw [← ak,aK (by rw [aI];exact hl▸ge)] at a
    exact bx a
  have D1:vQ (fun x=>(ps.zip us).reverse.lookup x) rJ α H.length (ps++(nl++ng)) (vV full nl.length ng.length):=by
   intro i x av a b
   have MD:=FI b
   obtain ⟨v,hv,r⟩:=V.get MD
   have hi:i < ps.length:=by have:=(rK MD);exact lT this (lE hl)
   have Sg:ps[i]?=some x:=by rw [aR hi] at a;exact a
   exact (i12 v (zF (List.nodup_append.mp F.nodup).1 Sg hv) (r.ext x0 I.kt))
  refine h _ _ _ _ _ {s with heap:=rJ,toks:=s.toks+(ps.zip us).length} _ _ ⟨hr.handled,?_,?_⟩ S1 I1 D1 fun fl Wa ρ' m' dL H' s' r x1 I2 S2 D2 FR Z=>?_
  ·refine (?_:A.depth+1+8 * d+8 < _);have:=hr.depth;exact zD this
  ·refine (?_:A.units+3+100 * d+100 < _);have:=hr.units;exact zC this
  ·have xx:Ext L α dL H.length H'.length s.heap s'.heap:=by
    refine ⟨x1.al,x1.le,aj (bp tO) x1.size,fun b o e hb uG=>x1.keep b o (hk b o e) (ax (aH e)) uG,fun k a b=>aj (bp tO) (x1.new k a b)⟩
   have ll:=I.wl
   obtain ⟨oL,es,ep,hL,r1⟩:=I.fr.ns
   have Qc : s'.heap.get? L=some oL:=x1.keep L oL (hk L oL hL) (ax ll) fun i hi=>aq (I.low i hi).2
   have I3:Inv am L m dL H' s'.heap:=by
    refine ⟨⟨(Nw oL es ep Qc r1),I2.fr.keep,I.fr.above⟩,fun i hi=>⟨(I2.low i hi).1,?_⟩,I2.inj,I2.obj⟩
    by_cases q:i < H.length
    ·rw [x1.al i q];exact (I.low i q).2
    ·have:=x1.new i (bC q) hi
     exact br (aC ll (aj (bp tO) this))
   cases FR with
   | next=>exact k .none .none dL H' s' r xx I3 .none ⟨Z.os,Z.gens⟩
   | ret W=>exact k _ _ dL H' s' r xx I3 W ⟨Z.os,Z.gens⟩
   | brk=>exact r.elim
   | cont=>exact r.elim
theorem uN {f:Addr} {fd:da} {body:List Stmt} {args:List AV} {kw:List Str} (F:Ck am f fd body ps nl ng) (hl:args.length=ps.length)
  (bind:∀ (s:af) (vs:List aa),vs.length=args.length→(∀ b o,am.get? b=some o→s.heap.get? b=some o)→iI s fd ⟨vs.take (vs.length - kw.length),kw.zip (vs.drop (vs.length - kw.length))⟩ (ps.zip vs))
  (h:ST an w am d (ps++(nl++ng)) (vV args nl.length ng.length) H (fun be=>aG body be) (NC R)) :
  FN an w am (d+1) (.ref f) H args kw R:=(EF F hl (fun s vs _ _ _ V keep=>(i12 vs (bind s vs V.length keep) V)) h).fn
end
noncomputable def KP (M:dv) (am:Heap) (f:aa):Prop:=∀ h:Heap,(∀ b o,am.get? b=some o→h.get? b=some o)→∃ k,(k=Keeper.frame∨k=Keeper.machine∨k=Keeper.boundFrame)∧eC M h (keeperOf f) k
theorem tC {M:dv} {am:Heap} {f:aa} {K:Frag} (X:K.In am) (e:keepIn K f=true):KP M am f:=fun h k=>keeps_K e h (X.keeps k)
theorem nw {M:dv} {am:Heap} {id:String}:KP M am (.builtin id):=fun _ _=>(i12 .machine (.inr (.inl rfl)) (mY rfl))
theorem sJ {M:dv} {am:Heap} {T:String}:KP M am (.type T):=fun _ _=>(i12 .machine (.inr (.inl rfl)) (mY rfl))
section
variable {nm:List Str} {ρ:List ci} {H:AH} {R:AV→AH→Prop}
theorem FN.pos {f:aa} {as:List AV} (h:FN an w am d f H as [] R) {A:au} {L:Addr} {m:Str→Option aa} {α:Nat→Addr} {s:af} {Q E:aa→af→Prop} {vs:List aa} (hr:td A d) (I:Inv am L m α H s.heap) (V:po s.heap α H.length as vs)
  (k:∀ av x dL H' s',R av H'→Ext L α dL H.length H'.length s.heap s'.heap→Inv am L m dL H' s'.heap→pp s'.heap dL H'.length av x→rM s s'→Q x s'):ag (ah an w) A (call f vs) Q E s:=by
 have:=h A L m α s Q E vs hr I V k
 simpa using this
noncomputable def kF (an:aD) (w:aw) (am:Heap) (d:Nat) (fv:aa) (R:AV→AH→Prop):List AV→AH→Prop:=fun as H2=>FN an w am d fv H2 as [] R
noncomputable def TH (an:aD) (w:aw) (am:Heap) (d:Nat) (nm:List Str) (ρ:List ci) (es:List Expr) (R:AV→AH→Prop):AV→AH→Prop:=fun f H1=>∃ fv,f=.con fv∧KP (ah an w) am fv∧GT an w am d nm ρ H1 es (kF an w am d fv R)
noncomputable def TJ (an:aD) (w:aw) (am:Heap) (d:Nat) (R:AV→AH→Prop):AV→AH→Prop:=fun f H1=>∃ fv,f=.con fv∧KP (ah an w) am fv∧FN an w am d fv H1 [] [] R
theorem TH.mk {nm:List Str} {ρ:List ci} {es:List Expr} {R:AV→AH→Prop} {fv:aa} {H:AH} (k:KP (ah an w) am fv) (r:GT an w am d nm ρ H es (kF an w am d fv R)):TH an w am d nm ρ es R (.con fv) H:=(sN _ rfl k r)
theorem TJ.mk {R:AV→AH→Prop} {fv:aa} {H:AH} (k:KP (ah an w) am fv) (r:FN an w am d fv H [] [] R):TJ an w am d R (.con fv) H:=(sN _ rfl k r)
theorem Cm {fe:Expr} {pos:Pos} (h:EX an w am d nm ρ H (fun be=>eval fe be) (TJ an w am d R))
  (he:∀ be,eval (.Call fe [] [] pos) be=(do fk pos (← eval fe be) [] (bE pos (aV [] be)) (iz pos (jm [] be))):=by intro _;rfl) :
  EX an w am d nm ρ H (fun be=>eval (.Call fe [] [] pos) be) R:=fun be A L m α s Q E hr S I D k=>by
 refine Call_ (h.then hr S I D fun a v rS H1 s1 h1 x1 I1 V1 Z1 S1 D1=>?_) (he be)
 obtain ⟨fv,rfl,kp,fn⟩:=h1
 refine V1.Ce ?_
 refine cY (P:=fun h=>∀ b o,am.get? b=some o→h.get? b=some o) rfl kp (lr ⟨I1.fr.keep,?_⟩)
 exact fn.pos hr I1 .nil fun av x dL H' s' r x2 I2 V2 Z2=>k av x dL H' s' r (x1.trans x2) I2 V2 (Z1.trans Z2)
theorem io {fe e:Expr} {rest:List Expr} {pos:Pos} (h:EX an w am d nm ρ H (fun be=>eval fe be) (TH an w am d nm ρ (e::rest) R))
  (he:∀ be,eval (.Call fe (e::rest) [] pos) be=(do fk pos (← eval fe be) [] (bE pos (aV (e::rest) be)) (iz pos (jm [] be))):=by intro _;rfl)
  (hs:∀ be,aV (e::rest) be=(false,eval e be)::aV rest be:=by intro _;rfl)
  (hp:∀ be,(bE pos (aV rest be)).any (·.1)=false:=by intro _;rfl) :
  EX an w am d nm ρ H (fun be=>eval (.Call fe (e::rest) [] pos) be) R:=fun be A L m α s Q E hr S I D k=>by
 refine Call_ (h.then hr S I D fun a v rS H1 s1 h1 x1 I1 V1 Z1 S1 D1=>?_) (he be)
 obtain ⟨fv,rfl,kp,fn⟩:=h1
 cases V1
 have key:ag (ah an w) A (iC (bE pos (aV (e::rest) be))) (fun vs s'=>(∀ b o,am.get? b=some o→s'.heap.get? b=some o)∧ag (ah an w) A (call v ([]++vs)) Q E s') E s1 :=
  fn be A L m rS s1 pos _ E hr S1 I1 D1 fun as vs sP H2 s2 r x2 I2 V2 Z2=>⟨I2.fr.keep,r.pos hr I2 V2 fun av x dL H' s' r x3 I3 V3 Z3=>k av x dL H' s' r ((x1.trans x2).trans x3) I3 V3 ((Z1.trans Z2).trans Z3)⟩
 rw [hs be] at key ⊢
 exact cY (P:=fun h=>∀ b o,am.get? b=some o→h.get? b=some o) (by refine (?_:((false || (bE pos (aV rest be)).any (·.1)) || false)=false);rw [hp be];rfl) kp (eE key)
end
section
set_option backward.match.sparseCases false
noncomputable def idx (i:Int) (n:Nat):Option Nat:=if 0≤i then (if i < n∧i < 1000000 then some i.toNat else none) else if -(n:Int)≤i∧-1000000 < i then some (i+n).toNat else none
theorem Bv {i:Int} {n j:Nat} (e:idx i n=some j):seqIndex? i n=some j∧-(2 ^ 63)≤i∧i < 2 ^ 63:=by
 unfold idx at e
 split at e
 ·split at e
  ·rename_i a b
   cases e
   exact (sS (seqIndex_of a b.1) (by lia) (aY b.2 (by decide)))
  ·cases e
 ·split at e
  ·rename_i a b
   cases e
   exact (sS (PySem.seqIndex_neg (oA a) b.1) (z9 b) (by lia))
  ·cases e
noncomputable def Qd (o:Option AO) (i:Int):Option AV :=
 match o with
 | some (.list xs)=>(idx i xs.length).bind (xs[·]?)
 | _=>none
noncomputable def sT (a i:AV) (H:AH):Option AV :=
 match i with
 | .int i=>match a with
  | .ref k=>match H[k]? with
   | some (.list xs)=>(idx i xs.length).bind (xs[·]?)
   | _=>none
  | .tup xs=>(idx i xs.length).bind (xs[·]?)
  | .str s=>(idx i s.length).bind fun j=>s[j]?.map fun c=>.str [c]
  | _=>none
 | _=>none
theorem xK {k:Nat} {i:Int} {H:AH} {xs:List AV} (h:H[k]?=some (.list xs)):sT (.ref k) (.int i) H=(idx i xs.length).bind fun j=>xs[j]?:=by
 refine (?_:(match H[k]? with | some (.list xs)=>(idx i xs.length).bind fun x=>xs[x]? | _=>none)=_)
 rw [h]
theorem FJ {o:Option AO} {i:Int} {x:AV} (e:Qd o i=some x):∃ xs,o=some (.list xs)∧(idx i xs.length).bind (xs[·]?)=some x:=by
 cases o with
 | none=>exact uH e
 | some o=>cases o with
  | list xs=>exact (i12 xs rfl e)
  | _=>exact uH e
section
variable {nm:List Str} {ρ:List ci} {H:AH} {R:AV→AH→Prop}
theorem Inv.isList {L:Addr} {m:Str→Option aa} {α:Nat→Addr} {h:Heap} (I:Inv am L m α H h) {k:Nat} {xs:List AV} (e:H[k]?=some (.list xs)):∃ vs n,h.get? (α k)=some (listOf (dD vs) n)∧h.IsList (α k) vs.toArray∧po h α H.length xs vs:=by
 obtain ⟨vs,n,g,V⟩:=I.obj k _ e
 exact (Do vs n g (sN _ g rfl (Au n rfl)) V)
theorem zP {A:au} {E:aa→af→Prop} {s:af} {l:Addr} {vs:List aa} {i:Int} {t:Tok} {j:Nat} {x:aa} {Q:aa→af→Prop} (hl:s.heap.IsList l vs.toArray) (e:idx i vs.length=some j) (hx:vs[j]?=some x) (h:Q x s) :
  ag (ah an w) A (fz (.ref l) (.int i t)) Q E s:=by
 unfold idx at e
 split at e
 ·split at e
  ·rename_i a b
   cases e
   exact wpAny_getItem_list hl a (aY b.2 (by decide)) (by simpa using hx) h
  ·cases e
 ·split at e
  ·rename_i a b
   cases e
   exact wpAny_getItem_list_neg hl (oA a) (by simpa using b.1) (z9 b) (by simpa using hx) h
  ·cases e
theorem rM.tok {s:af} {n:Nat}:rM s {s with toks:=n}:=⟨rfl,id⟩
theorem Kt {a i x:AV} (e:sT a i H=some x) {value slice:Expr} (hs:∀ o i,∃ ops,gc slice false o i=gC ops (fz o i)):y0 an w am d H a i (subscriptTail value slice) (Is x H):=by
 intro A L m α s Q E v u hr I V U k
 cases i with
 | int i =>
  refine U.tI fun t=>?_
  cases a with
  | ref kk =>
   obtain ⟨xs,hk,e⟩:=FJ (o:=H[kk]?) e
   obtain ⟨j,e1,e2⟩:=mS.mp e
   obtain ⟨vs,n,g,hl,VV⟩:=I.isList hk
   obtain ⟨y,hy,Y⟩:=VV.get e2
   have hs:=hs v
   revert hs
   refine V.sO fun _ hs=>?_
   obtain ⟨ops,hs⟩:=hs _
   exact fJ hl.typeIs kJ.lookup (zP hl (VV.length▸e1) hy (k _ _ α _ _ ⟨rfl,rfl⟩ Ext.refl I Y rM.refl)) hs
  | tup xs =>
   refine V.FF fun _ _ _ g ne VV=>?_
   rename_i ad vs en
   obtain ⟨ops,hs⟩:=hs (.ref ad) (.int i t)
   obtain ⟨j,e1,e2⟩:=mS.mp e
   obtain ⟨y,hy,Y⟩:=VV.get e2
   have q:=Bv e1
   have ht:IsTup s.heap ad vs.toArray:=(sN _ g rfl (Au _ rfl))
   exact fJ ht.typeIs slot_tuple_getitem.lookup (getItem_tuple ht q.2.1 q.2.2 (by simpa [VV.length] using q.1) (by simpa using hy) (k _ _ α _ _ ⟨rfl,rfl⟩ Ext.refl I Y rM.refl)) hs
  | str st =>
   refine V.ub fun t2=>?_
   obtain ⟨ops,hs⟩:=hs (.str ⟨st.toArray⟩ t2) (.int i t)
   obtain ⟨j,e1,e2⟩:=mS.mp e
   obtain ⟨c,hc,e3⟩:=ig.mp e2
   subst e3
   have q:=Bv e1
   refine fJ (m8 s _ _) slot_str_getitem.lookup (getItem_str (c:=c) (by simp only [nV,decide_eq_false_iff_not];lia) ?_ (k _ _ α _ _ ⟨rfl,rfl⟩ Ext.refl I (.str [c] _) rM.tok)) hs
   simp [di,q.1,hc]
  | _=>exact uH e
 | _=>exact uH e
noncomputable def NE (R:AV→AH→Prop):AV→AV→AH→Prop:=fun a i H2=>∃ x,sT a i H2=some x∧R x H2
theorem NE.mk {R:AV→AH→Prop} {a i:AV} {H:AH} (x:AV) (e:sT a i H=some x) (r:R x H):NE R a i H:=(i12 x e r)
theorem rR {value slice:Expr} {pos:Pos} (h:EX an w am d nm ρ H (fun be=>eval value be) (kE an w am d nm ρ slice (NE R)))
  (hs:∀ o i,∃ ops,gc slice false o i=gC ops (fz o i):=by intro _ _;with_unfolding_all exact ⟨_,rfl⟩) :
  EX an w am d nm ρ H (fun be=>eval (.Subscript value slice pos) be) R:=fun be A L m α s Q E hr S I D k=>by
 refine hY (h.then hr S I D fun a v rS H1 s1 h1 x1 I1 V1 Z1 S1 D1=>?_)
 refine h1.then hr S1 I1 D1 fun b u sP H2 s2 h2 x2 I2 V2 Z2 S2 D2=>?_
 obtain ⟨x,e,r⟩:=h2
 exact Kt e hs A L m sP s2 Q E v u hr I2 (V1.ext x2 I1.kt) V2 fun av y dL H' s' r' x3 I3 V3 Z3=>k av y dL H' s' (r'.1▸r'.2▸r) ((x1.trans x2).trans x3) I3 V3 ((Z1.trans Z2).trans Z3)
end
end
noncomputable def SC (an:aD) (w:aw) (am:Heap) (d:Nat) (nm:List Str) (ρ:List ci) (H:AH) (c:Env→Code) (R:AF→List ci→AH→Prop):Prop :=
 ∀ (be:Env) (A:au) (L:Addr) (m:Str→Option aa) (α:Nat→Addr) (s:af) (Q:dR→af→Prop),
  td A d→u8 be L α H.length nm ρ→Inv am L m α H s.heap→vQ m s.heap α H.length nm ρ →
  (∀ f fl ρ' m' dL H' s',R f ρ' H'→Ext L α dL H.length H'.length s.heap s'.heap→Inv am L m' dL H' s'.heap→u8 be L dL H'.length nm ρ'→vQ m' s'.heap dL H'.length nm ρ'→Ch s'.heap dL H'.length f fl→rM s s'→Q (.ok fl) s') →
  bA (ah an w) A (c be) Q s
noncomputable def kW (an:aD) (w:aw) (am:Heap) (d:Nat) (nm:List Str) (t:Expr) (b o:List Stmt) (R:AF→List ci→AH→Prop):AF→List ci→AH→Prop:=fun f sZ H2=>match f with
   | .next=>SC an w am d nm sZ H2 (fun be=>.whileLoop t b o be) R
   | .cont=>SC an w am d nm sZ H2 (fun be=>.whileLoop t b o be) R
   | .brk=>R .next sZ H2
   | .ret v=>R (.ret v) sZ H2
noncomputable def X8 (an:aD) (w:aw) (am:Heap) (d:Nat) (nm:List Str) (ρ:List ci) (t:Expr) (b o:List Stmt) (R:AF→List ci→AH→Prop):Bool→AH→Prop:=fun c H1=>if c=true then ST an w am d nm ρ H1 (fun be=>aG b be) (kW an w am d nm t b o R) else ST an w am d nm ρ H1 (fun be=>aG o be) R
section
variable {nm:List Str} {ρ:List ci} {H:AH} {R:AF→List ci→AH→Prop}
theorem SC.mono {c:Env→Code} {R R' : AF→List ci→AH→Prop} (h1:SC an w am d nm ρ H c R) (h:∀ f ρ' H',R f ρ' H'→R' f ρ' H'):SC an w am d nm ρ H c R' :=
 fun be A L m α s Q hr S I D k=>h1 be A L m α s Q hr S I D fun f fl ρ' m' dL H' s' r=>k f fl ρ' m' dL H' s' (h f ρ' H' r)
theorem tu {t:Expr} {b o:List Stmt} (h:EB an w am d nm ρ H (AL t) (X8 an w am d nm ρ t b o R)):SC an w am d nm ρ H (fun be=>.whileLoop t b o be) R:=by
 intro be A L m α s Q hr S I D k
 refine eN ?_
 refine (?_:ag _ A ((whileTurn t b o be).onRaise (fun x=>do gH x be;gK x)) _ _ s)
 refine gT ?_
 unfold whileTurn
 refine ab (h.then hr S I D fun c rS H1 s1 h1 x1 I1 Z1 S1 D1=>?_)
 cases c with
 | false =>
  simp -iota only [cG,if_false] at h1 ⊢
  exact ab (h1 be A L m rS s1 _ _ hr S1 I1 D1 fun f fl wn m2 sP H2 s2 r2 x2 I2 S2 D2 F2 Z2=>ai (k f fl wn m2 sP H2 s2 r2 (x1.trans x2) I2 S2 D2 F2 (Z1.trans Z2)))
 | true =>
  simp -iota only [if_true] at h1 ⊢
  refine ab (h1 be A L m rS s1 _ _ hr S1 I1 D1 fun f fl wn m2 sP H2 s2 r2 x2 I2 S2 D2 F2 Z2=>?_)
  have cC (q:SC an w am d nm wn H2 (fun be=>.whileLoop t b o be) R):bA (ah an w) A (.whileLoop t b o be) Q s2 :=
   q be A L m2 sP s2 Q hr S2 I2 D2 fun f fl Dq m3 sQ H3 s3 r3 x3 I3 S3 D3 F3 Z3=>k f fl Dq m3 sQ H3 s3 r3 ((x1.trans x2).trans x3) I3 S3 D3 F3 ((Z1.trans Z2).trans Z3)
  cases F2 with
  | next=>exact ai ⟨rfl,cC r2⟩
  | cont=>exact ai ⟨rfl,cC r2⟩
  | brk=>exact ai (k _ _ wn m2 sP H2 s2 r2 (x1.trans x2) I2 S2 D2 .next (Z1.trans Z2))
  | ret V=>exact ai (k _ _ wn m2 sP H2 s2 r2 (x1.trans x2) I2 S2 D2 (.ret V) (Z1.trans Z2))
theorem uB {t:Expr} {b o:List Stmt} {pos:Pos} (h:SC an w am d nm ρ H (fun be=>.whileLoop t b o be) R):ST an w am d nm ρ H (fun be=>exec (.While t b o pos) be) R :=
 fun be A L m α s Q E hr S I D k=>wpAny_While (h be A L m α s _ hr S I D fun f fl ρ' m' dL H' s' r x I' S' D' F Z=>k f fl ρ' m' dL H' s' r x I' S' D' F Z)
end
section
set_option tactic.hygienic true
section
variable {A:au} {E:aa→af→Prop} {s:af}
theorem Ku {a b:Addr} {ia ib:Int} {ta tb tx ty:Tok} {x y:Str} {Q:aa→af→Prop} (ha:IsTup s.heap a #[.int ia ta,.str x tx]) (hb:IsTup s.heap b #[.int ib tb,.str y ty]) (hu:A.units+10 < cLine)
  (h:Q (.bool (decide (ia < ib) || (ia == ib && decide (x.cps.toList < y.cps.toList)))) s):ag (ah an w) A (dQ .Lt (.ref a) (.ref b)) Q E s:=by
 refine (?_:ag _ _ (richCompare .Lt (.ref a) (.ref b)) Q E s)
 refine wpAny_richCompare_same_room ha.typeIs hb.typeIs rb (dA rb ha.typeIs PySem.F.entry_tuple_lt ?_ (PySem.F.args_tuple_lt_2 _ _)) (lD 10 (lR 10 hu))
 unfold aT.«tuple.__lt__»
 k_delta "compare"
 dsimp only
 refine ab (fZ (a:=(.ref a,[.ref b])) rfl ?_)
 dsimp only
 refine ab (gx (T:="tuple") (b:=true) hb.typeIs ?_ ?_)
 ·kernel_rfl
 ·rw [if_neg (by simp)]
  refine ab (tupleItemsOf_ (s:=s) ha (ab (tupleItemsOf_ (s:=s) hb ?_)))
  refine ab ?_
  simp only [dx,List.zip_nil_right]
  rw [gP]
  refine ab (ab (wpAny_eqBool_int ?_))
  by_cases e:ia=ib
  ·subst e
   rw [beq_self_eq_true] at h ⊢
   rw [if_neg (by simp)]
   refine ai ?_
   dsimp only
   rw [gP]
   refine ab (ab (n9 ?_))
   by_cases e2:x=y
   ·subst e2
    rw [beq_self_eq_true,if_neg (by simp)]
    refine ai ?_
    dsimp only
    rw [i7]
    refine ai (ai (sN _ rfl (by simp [pY]) ?_))
    have z:¬ (x.cps.toList < x.cps.toList):=nk _
    simpa [z,pY] using h
   ·rw [if_pos (by simpa using e2)]
    refine ab (fj (ab (pJ (A:=A.in1) ?_)))
    refine ab (ai (ai (ai ?_)))
    refine ai (sN _ rfl (by simp) ?_)
    simpa using h
  ·have e' : (ia == ib)=false:=by simpa using e
   rw [e'] at h ⊢
   rw [if_pos (by simp)]
   refine ab (fj (ab (rB (A:=A.in1) ?_)))
   refine ab (ai (ai (ai ?_)))
   refine ai (sN _ rfl (by simp) ?_)
   simpa using h
end
end
section
variable {nm:List Str} {ρ:List ci} {H:AH} {R:AV→AH→Prop}
theorem Hc {i j:Int} {x y:List Nat}:y0 an w am d H (.tup [.int i,.str x]) (.tup [.int j,.str y]) (dQ .Lt) (Is (.bool (decide (i < j) || (i == j && decide (x < y)))) H):=by
 intro A L m α s Q E v u hr I V U k
 refine V.FF fun _ _ _ g1 n1 V=>U.FF fun _ _ _ g2 n2 U=>?_
 revert g1
 refine V.se fun _ _ a V=>V.se fun _ _ b V=>V.t0 (a.tI fun _=>b.ub fun _=>?_)
 revert g2
 refine U.se fun _ _ a U=>U.se fun _ _ b U=>U.t0 (a.tI fun _=>b.ub fun _ g2 g1=>?_)
 exact Ku (s:=s) (sN _ g1 rfl (Au _ rfl)) (sN _ g2 rfl (Au _ rfl)) (by have:=hr.units;exact lD 90 (lR 90 (lT (lU 101 lI) this))) (k _ _ α _ _ ⟨rfl,rfl⟩ Ext.refl I (.bool _) rM.refl)
noncomputable def Sh (an:aD) (w:aw) (am:Heap) (d:Nat) (name:Str) (id:String) (a:AV) (H1:AH):Prop:=∀ (A:au) (L:Addr) (m:Str→Option aa) (α:Nat→Addr) (s:af) (v:aa) (pl:Sem Bool) (Q:aa×List aa→af→Prop) (E:aa→af→Prop),Inv am L m α H1 s.heap→pp s.heap α H1.length a v→Q (.builtin id,[v]) s→ag (ah an w) A (dT v name pl) Q E s
noncomputable def Wb (an:aD) (w:aw) (am:Heap) (d:Nat) (id:String) (a:AV) (R:AV→AH→Prop):List AV→AH→Prop:=fun as H2=>FN an w am d (.builtin id) H2 (a::as) [] R
noncomputable def TK (an:aD) (w:aw) (am:Heap) (d:Nat) (nm:List Str) (ρ:List ci) (name:Str) (es:List Expr) (R:AV→AH→Prop):AV→AH→Prop:=fun a H1=>∃ id:String,Sh an w am d name id a H1∧GT an w am d nm ρ H1 es (Wb an w am d id a R)
noncomputable def TL (an:aD) (w:aw) (am:Heap) (d:Nat) (name:Str) (R:AV→AH→Prop):AV→AH→Prop:=fun a H1=>∃ id:String,Sh an w am d name id a H1∧FN an w am d (.builtin id) H1 [a] [] R
theorem TK.mk {nm:List Str} {ρ:List ci} {name:Str} {es:List Expr} {R:AV→AH→Prop} {a:AV} {H:AH} (id:String) (g:Sh an w am d name id a H) (r:GT an w am d nm ρ H es (Wb an w am d id a R)):TK an w am d nm ρ name es R a H:=(i12 id g r)
theorem TL.mk {name:Str} {R:AV→AH→Prop} {a:AV} {H:AH} (id:String) (g:Sh an w am d name id a H) (r:FN an w am d (.builtin id) H [a] [] R):TL an w am d name R a H:=(i12 id g r)
theorem uu {o e:Expr} {rest:List Expr} {name:Str} {apos pos:Pos} {pl:Env→Sem Bool} (h:EX an w am d nm ρ H (fun be=>eval o be) (TK an w am d nm ρ name (e::rest) R))
  (he:∀ be,eval (.Call (.Attribute o name apos) (e::rest) [] pos) be=(do
   let ov ← eval o be
   cj apos.atName
   let (f,first) ← eh [ov] (dT ov name (pl be))
   fk pos f first (bE pos (aV (e::rest) be)) []):=by intro _;rfl)
  (hs:∀ be,aV (e::rest) be=(false,eval e be)::aV rest be:=by intro _;rfl)
  (hp:∀ be,(bE pos (aV rest be)).any (·.1)=false:=by intro _;rfl) :
  EX an w am d nm ρ H (fun be=>eval (.Call (.Attribute o name apos) (e::rest) [] pos) be) R:=fun be A L m α s Q E hr S I D k=>by
 refine fU (h.then hr S I D fun a v rS H1 s1 h1 x1 I1 V1 Z1 S1 D1=>?_) (he be)
 obtain ⟨id,gm,hx⟩:=h1
 refine gm A L m rS s1 v _ _ E I1 V1 ?_
 have key:ag (ah an w) A (iC (bE pos (aV (e::rest) be))) (fun vs s'=>(∀ b o,am.get? b=some o→s'.heap.get? b=some o)∧ag (ah an w) A (call (.builtin id) ([v]++vs)) Q E s') E s1 :=
  hx be A L m rS s1 pos _ E hr S1 I1 D1 fun as vs sP H2 s2 r x2 I2 V2 Z2=>⟨I2.fr.keep,r.pos hr I2 (.cons (V1.ext x2 I1.kt) V2) fun av x dL H' s' r x3 I3 V3 Z3=>k av x dL H' s' r ((x1.trans x2).trans x3) I3 V3 ((Z1.trans Z2).trans Z3)⟩
 skip
 rw [hs be] at key ⊢
 exact cY (P:=fun h=>∀ b o,am.get? b=some o→h.get? b=some o) (by refine (?_:((false || (bE pos (aV rest be)).any (·.1)) || false)=false);rw [hp be];rfl) nw (eE key)
theorem xL {o:Expr} {name:Str} {apos pos:Pos} {pl:Env→Sem Bool} (h:EX an w am d nm ρ H (fun be=>eval o be) (TL an w am d name R))
  (he:∀ be,eval (.Call (.Attribute o name apos) [] [] pos) be=(do
   let ov ← eval o be
   cj apos.atName
   let (f,first) ← eh [ov] (dT ov name (pl be))
   fk pos f first (bE pos (aV [] be)) []):=by intro _;rfl) :
  EX an w am d nm ρ H (fun be=>eval (.Call (.Attribute o name apos) [] [] pos) be) R:=fun be A L m α s Q E hr S I D k=>by
 refine fU (h.then hr S I D fun a v rS H1 s1 h1 x1 I1 V1 Z1 S1 D1=>?_) (he be)
 obtain ⟨id,gm,fn⟩:=h1
 refine gm A L m rS s1 v _ _ E I1 V1 ?_
 refine cY (P:=fun h=>∀ b o,am.get? b=some o→h.get? b=some o) rfl nw (lr ⟨I1.fr.keep,?_⟩)
 exact fn.pos hr I1 (.cons V1 .nil) fun av x dL H' s' r x2 I2 V2 Z2=>k av x dL H' s' r (x1.trans x2) I2 V2 (Z1.trans Z2)
theorem uO {name:Str} {id:String} {k:Nat} {xs:List AV} (slot:Slot "list" name id) (TM:typeOf (.builtin id)=pure (.type "method_descriptor")) (hk:H[k]?=some (.list xs)) :
  ∀ (A:au) (L:Addr) (m:Str→Option aa) (α:Nat→Addr) (s:af) (v:aa) (pl:Sem Bool) (Q:aa×List aa→af→Prop) (E:aa→af→Prop),Inv am L m α H s.heap→pp s.heap α H.length (.ref k) v→Q (.builtin id,[v]) s→ag (ah an w) A (dT v name pl) Q E s:=by
 intro A L m α s v pl Q E I V hq
 cases V
 obtain ⟨vs,n,g,hl,VV⟩:=I.isList hk
 exact pF hl.typeIs PySem.F.plainAttrs_list slot TM (fun a e=>by cases e;exact (i12 _ g rfl)) hq
set_option tactic.hygienic true in
theorem uT {k:Nat} {xs:List AV} {a:AV} (hk:H[k]?=some (.list xs)) (hz:xs.length≤1000000):FN an w am d (.builtin "list.append") H [.ref k,a] [] (Is .none (H.set k (.list (xs++[a])))):=by
 intro A L m α s Q E vs hr I V c
 refine V.se fun _ _ b V=>?_
 refine V.se fun _ _ u V=>?_
 cases V
 cases b
 rename_i x sj
 obtain ⟨vs,n,g,hl,VV⟩:=I.isList hk
 refine wpAny_list_append_plain ⟨n,g⟩ (fun h' hp hs=>?_) (by rw [bZ,VV.length];unfold cX;exact nI hz)
 have xt:Ext L α α H.length H.length s.heap h':=vc I sj hs
 have mo:(H.set k (AO.list (xs++[a]))).length=H.length:=aP
 obtain ⟨n',e'⟩:=hp
 refine c .none .none α _ {s with heap:=h'} ⟨rfl,rfl⟩ (mo.symm▸xt) (I.upd sj hs (ao:=.list (xs++[a])) (tW (vs++[x]) n' ?_ ((VV.append (.cons u .nil)).ext xt I.kt))) .none ⟨rfl,id⟩
 rw [e']
 simp [bU]
end
section
set_option backward.match.sparseCases false
section
variable {nm:List Str} {ρ:List ci} {H:AH} {R:AV→AH→Prop}
theorem Heap.EG {h:Heap} {a:Addr} {f:Obj→Obj}:du a h (h.update a f):=ik ..
theorem po.eraseIdx {h:Heap} {α:Nat→Addr} {n:Nat} {as:List AV} {vs:List aa} (V:po h α n as vs) (i:Nat):po h α n (as.eraseIdx i) (vs.eraseIdx i):=by
 induction as generalizing vs i with
 | nil=>exact V.t0 .nil
 | cons a as ih =>
  refine V.se fun v us y r=>?_
  cases i with
  | zero=>exact r
  | succ i=>exact .cons y (ih r i)
theorem Cn {h:Heap} {a:Addr} {its Hd : Array aa} {n:Nat} {f:Array aa→Array aa} (g:h.get? a=some (bU its n)) (e:f its=Hd):∃ n',(h.update a (bo f)).get? a=some (bU Hd n'):=by
 subst e
 obtain ⟨n',z⟩ : ∃ n',bo f (bU its n)=bU (f its) n':=⟨_,rfl⟩
 refine ⟨n',?_⟩
 rw [j6 _ g (by rw [z];rfl),z]
theorem Inv.turn {L:Addr} {m:Str→Option aa} {α:Nat→Addr} {h:Heap} (I:Inv am L m α H h) {k:Nat} {xs ys:List AV} {vs us:List aa} {n:Nat} {f:Array aa→Array aa} (hk:H[k]?=some (.list xs)) (g:h.get? (α k)=some (bU vs.toArray n)) (e:f vs.toArray=us.toArray) (U:po h α H.length ys us) :
  Ext L α α H.length (H.set k (.list ys)).length h (h.update (α k) (bo f))∧Inv am L m α (H.set k (.list ys)) (h.update (α k) (bo f)):=by
 have sj:k < H.length:=(rK hk)
 have xt:Ext L α α H.length H.length h (h.update (α k) (bo f)):=vc I sj Heap.EG
 have mo:(H.set k (AO.list ys)).length=H.length:=aP
 obtain ⟨n',e'⟩:=Cn g e
 exact ⟨mo.symm▸xt,I.upd sj Heap.EG (ao:=.list ys) (tW us n' e' (U.ext xt I.kt))⟩
theorem NF {k:Nat} {xs:List AV} {a:AV} (hk:H[k]?=some (.list xs)) (hl:xs.getLast?=some a) (hz:xs.length≤1000000):FN an w am d (.builtin "list.pop") H [.ref k] [] (Is a (H.set k (.list xs.dropLast))):=by
 intro A L m α s Q E vs hr I V c
 refine V.se fun _ _ b V=>?_
 refine V.t0 ?_
 refine b.sO fun _=>?_
 rename_i sj
 obtain ⟨vs,n,g,AM,VV⟩:=I.isList hk
 rw [List.getLast?_eq_getElem?] at hl
 obtain ⟨y,hy,Y⟩:=VV.get hl
 have mo:=VV.length
 have er:vs.toArray.eraseIdxIfInBounds (vs.length - 1)=vs.dropLast.toArray:=by
  have lt:vs.length - 1 < vs.length:=by have:=(rK hy);exact mo▸this
  simp [oS,lt]
 obtain ⟨xt,I'⟩:=I.turn hk g (f:=fun xs=>xs.eraseIdxIfInBounds (vs.length - 1)) (ys:=xs.dropLast) (us:=vs.dropLast) er (by rw [← qd,← qd,mo];exact VV.eraseIdx _)
 refine lY mn (i12 _ g rfl) qe (PySem.F.args_list_pop_1 _) (MeetsSeq.list_pop_last (α k) vs.toArray n y (by simpa [mo] using hy) (by rw [bZ,mo];unfold cX;exact nI hz)) ⟨g,?_⟩
 exact c _ _ α _ _ ⟨rfl,rfl⟩ xt I' (Y.ext xt I.kt) ⟨rfl,id⟩
theorem xr {k:Nat} {xs:List AV} (hk:H[k]?=some (.list xs)) (hz:xs.length≤1000000):FN an w am d (.builtin "len") H [.ref k] [] (Is (.int xs.length) H):=by
 intro A L m α s Q E vs hr I V c
 refine V.se fun _ _ b V=>?_
 refine V.t0 ?_
 refine b.sO fun _=>?_
 obtain ⟨vs,n,g,AM,VV⟩:=I.isList hk
 have mo:=VV.length
 refine call_len_list AM (by rw [bZ,mo];exact nH hz) ?_
 rw [bZ,mo]
 exact c (.int xs.length) _ α _ _ ⟨rfl,rfl⟩ Ext.refl I (.int _ _) ⟨rfl,id⟩
end
section
variable {nm:List Str} {ρ:List ci} {H:AH} {R:AF→List ci→AH→Prop}
theorem yy {A:au} {E:aa→af→Prop} {s:af} {l:Addr} {items:Array aa} {n:Nat} {k:Int} {t:Tok} {v:aa} {Q:Unit→af→Prop} (ho:s.heap.get? l=some (bU items n)) (h0:0≤k) (Qe:k < 2 ^ 63) (hn:k < items.size)
  (hQ:Q () {s with heap:=s.heap.update l (bo (·.setIfInBounds k.toNat v))}):ag (ah an w) A (setItem (.ref l) (.int k t) v) Q E s:=by
 have hT:s.TypeIs (.ref l) "list":=(i12 _ ho rfl)
 unfold setItem
 try with_reducible refine cH ?_
 first | refine ab (ai ?_) | skip
 refine ab (wpAny_sequenceKey hT (by decide) ?_)
 refine ab (fg (name:="__setitem__") hT pK (dA pK hT entry_list_setitem ?_ (args_list_setitem _ _ _)))
 refine (?_:ag _ _ (aT.List.listSubscript? (.int k t) >>= _) _ _ s)
 refine ab (wpAny_listSubscript_int (fitsIndex_of h0 Qe) ?_)
 clear Qe
 obtain ⟨j,rfl⟩:=Int.eq_ofNat_of_zero_le h0
 have hj:j < items.size:=mN hn
 refine (?_:ag _ _ ((seqItemAt l j >>= fun r=>pure (r.map (j,·))) >>= _) _ _ s)
 refine ab (ab (wpAny_seqItemAt ho rfl (ai ?_)))
 rw [show items[j]?=some items[j] from oy hj]
 refine (?_:ag _ _ (setSeqItemAt l j v >>= _) _ _ s)
 refine ab (wpAny_setSeqItemAt ho rfl ?_)
 first
  | exact ab (ai (ai (i12 .none rfl (ai hQ))))
  | exact ai ⟨.none,rfl,ai hQ⟩
noncomputable def Kv (a i x:AV) (H:AH):Option AH:=match a,i with
 | .ref k,.int i=>match H[k]? with
  | some (.list xs)=>if 0≤i∧i < xs.length∧xs.length≤1000000 then some (H.set k (.list (xs.set i.toNat x))) else none
  | _=>none
 | _,_=>none
noncomputable def TN (ρ:List ci) (R:AF→List ci→AH→Prop) (x a:AV):AV→AH→Prop:=fun j H3=>∃ H4,Kv a j x H3=some H4∧R .next ρ H4
noncomputable def X9 (an:aD) (w:aw) (am:Heap) (d:Nat) (nm:List Str) (ρ:List ci) (i:Expr) (R:AF→List ci→AH→Prop) (x:AV):AV→AH→Prop:=fun a H2=>EX an w am d nm ρ H2 (fun be=>eval i be) (TN ρ R x a)
noncomputable def Yb (an:aD) (w:aw) (am:Heap) (d:Nat) (nm:List Str) (ρ:List ci) (o i:Expr) (R:AF→List ci→AH→Prop):AV→AH→Prop:=fun x H1=>EX an w am d nm ρ H1 (fun be=>eval o be) (X9 an w am d nm ρ i R x)
theorem TN.mk {R:AF→List ci→AH→Prop} {ρ:List ci} {x a j:AV} {H:AH} (H4:AH) (e:Kv a j x H=some H4) (r:R .next ρ H4):TN ρ R x a j H:=(i12 H4 e r)
set_option tactic.hygienic true in
theorem yz {o i e:Expr} {p' pos:Pos} (h:EX an w am d nm ρ H (fun be=>eval e be) (Yb an w am d nm ρ o i R))
  (hs:∀ be,dw e (some (.Subscript o i p')) pos.line be=pure false:=by intro _;rfl):ST an w am d nm ρ H (fun be=>exec (.Assign [.Subscript o i p'] e pos) be) R:=fun be A L m α s Q E hr S I D k=>by
 refine wpAny_Assign_Subscript (h.then hr S I D fun x v rS H1 s1 h1 x1 I1 V1 Z1 S1 D1=>?_) (hs be)
 refine h1.then hr S1 I1 D1 fun a u sP H2 s2 h2 x2 I2 V2 Z2 S2 D2=>?_
 refine h2.then hr S2 I2 D2 fun j t sQ H3 s3 h3 x3 I3 V3 Z3 S3 D3=>?_
 obtain ⟨H4,e4,r⟩:=h3
 have He:=(V1.ext x2 I1.kt).ext x3 I2.kt
 have Kw:=V2.ext x3 I2.kt
 unfold Kv at e4
 split at e4
 ·rename_i kk ii
  split at e4
  ·rename_i xs hk
   split at e4
   ·rename_i q
    obtain rfl:=ay e4
    refine Kw.sO fun _=>?_
    rename_i sj _
    refine V3.tI fun _=>?_
    obtain ⟨vs,n,g,AM,VV⟩:=I3.isList hk
    have mo:=VV.length
    obtain ⟨xt,I4⟩:=I3.turn hk g (f:=fun xs=>xs.setIfInBounds ii.toNat v) (ys:=xs.set ii.toNat x) (us:=vs.set ii.toNat v) (by simp) (po.set He VV _)
    refine yy (n:=n) g q.1 (oC q.2.1 (nH q.2.2)) (by simp;exact mo▸q.2.1) ?_
    exact k .next .next ρ m sQ _ _ r (((x1.trans x2).trans x3).trans xt) I4 (S3.ext xt) (D3.ext xt I3.kt) .next (((Z1.trans Z2).trans Z3).trans ⟨rfl,id⟩)
   ·exact uH e4
  ·exact uH e4
 ·exact uH e4
end
end
section
variable {nm:List Str} {ρ:List ci} {H:AH} {R:AV→AH→Prop} {RB:Bool→AH→Prop}
theorem y0.mono {a b:AV} {T:aa→aa→Sem aa} {R R' : AV→AH→Prop} (h1:y0 an w am d H a b T R) (h:∀ a H',R a H'→R' a H'):y0 an w am d H a b T R' :=
 fun A L m α s Q E v u hr I V U k=>h1 A L m α s Q E v u hr I V U fun av x dL H' s' r=>k av x dL H' s' (h av H' r)
theorem y0.to {a b x:AV} {H' : AH} {T:aa→aa→Sem aa} {R' : AV→AH→Prop} (h1:y0 an w am d H a b T (Is x H')) (h:R' x H'):y0 an w am d H a b T R' :=
 h1.mono fun _ _ e=>e.1▸e.2▸h
noncomputable def NG (op:cI) (R:Bool→AH→Prop):AV→AV→AH→Prop:=fun a b H2=>∃ c,vd op a b=some c∧R c H2
noncomputable def NH (op:cV) (R:AV→AH→Prop):AV→AV→AH→Prop:=fun a b H2=>∃ i j x H3,a=.int i∧b=.int j∧sH op (.int i) (.int j) H2=some (x,H3)∧R x H3
theorem NG.mk {op:cI} {R:Bool→AH→Prop} {a b:AV} {H:AH} (c:Bool) (e:vd op a b=some c) (r:R c H):NG op R a b H:=(i12 c e r)
theorem NH.mk {op:cV} {R:AV→AH→Prop} {i j:Int} {x:AV} {H H' : AH} (e:sH op (.int i) (.int j) H=some (x,H')) (r:R x H'):NH op R (.int i) (.int j) H:=(JL _ _ _ _ rfl rfl e r)
theorem dl {l r:Expr} {op:cI} {pos:Pos} (h:EX an w am d nm ρ H (fun be=>eval l be) (kE an w am d nm ρ r (NG op RB)))
  (hm:kg op r=false:=by rfl):EB an w am d nm ρ H (AL (.Compare l [op] [r] pos)) RB :=
 uj (h.mono fun _ _ h1=>h1.mono fun _ _ ⟨c,e,r⟩=>(Bu e).to (i12 c rfl r)) hm
theorem Hf {l r:Expr} {pos:Pos} (h:EX an w am d nm ρ H (fun be=>eval l be) (fun a H1=>EX an w am d nm ρ H1 (fun be=>eval r be) (fun b H2=>∃ i x j y,a=.tup [.int i,.str x]∧b=.tup [.int j,.str y]∧RB (decide (i < j) || (i == j && decide (x < y))) H2)))
  (hm:kg .Lt r=false:=by rfl):EB an w am d nm ρ H (AL (.Compare l [.Lt] [r] pos)) RB :=
 uj (h.mono fun _ _ h1=>h1.mono fun _ _ q=>q.elim fun _ q=>q.elim fun _ q=>q.elim fun _ q=>q.elim fun _ q=>q.1▸q.2.1▸Hc.to (i12 _ rfl q.2.2)) hm
theorem pc {l r:Expr} {op:cV} {pos:Pos} (h:EX an w am d nm ρ H (fun be=>eval l be) (kE an w am d nm ρ r (NH op R))) :
  EX an w am d nm ρ H (fun be=>eval (.BinOp l op r pos) be) R :=
 uc (h.mono fun _ _ h1=>h1.mono fun _ _ q=>q.elim fun _ q=>q.elim fun _ q=>q.elim fun _ q=>q.elim fun _ q=>q.1▸q.2.1▸(Ha q.2.2.1).to q.2.2.2)
end
section
set_option backward.match.sparseCases false
section
variable {nm:List Str} {ρ:List ci} {H:AH} {R:AV→AH→Prop}
noncomputable def vW:AV→Option (Option Nat)
 | .none=>some none
 | .int i=>if 0≤i then some (some i.toNat) else none
 | _=>none
noncomputable def rV {β:Type} (xs:List β):Option Nat→Option Nat→List β
 | none,none=>xs
 | some a,none=>xs.drop a
 | none,some b=>xs.take b
 | some a,some b=>(xs.drop a).take (b - a)
theorem po.pick {h:Heap} {α:Nat→Addr} {n:Nat} {as:List AV} {vs:List aa} (r:po h α n as vs) (a b:Option Nat):po h α n (rV as a b) (rV vs a b):=by
 cases a <;> cases b
 ·exact r
 ·exact r.take _
 ·exact r.drop _
 ·exact (r.drop _).take _
noncomputable def EP (an:aD) (w:aw) (am:Heap) (d:Nat) (nm:List Str) (ρ:List ci) (H:AH) (e:Option Expr) (R:AV→AH→Prop):Prop:=EX an w am d nm ρ H (fun be=>evalPart e be) R
theorem ve (h:R .none H):EP an w am d nm ρ H none R:=fun be A L m α s Q E hr S I D k=>ai (k .none .none α H s h Ext.refl I .none rM.refl)
theorem uv {e:Expr} (h:EX an w am d nm ρ H (fun be=>eval e be) R):EP an w am d nm ρ H (some e) R:=h
theorem y5 (vs:List aa):∀ (a b:Option Nat),(∀ x y,a=some x→b=some y→x≤y∧y≤vs.length)→slicePick vs.toArray (a.map gV) (b.map gV) none=(rV vs a b).toArray
 | none,none,_=>by simpa [rV] using slicePick_all vs.toArray
 | some a,none,_=>by simpa [rV] using slicePick_from' vs.toArray a
 | none,some b,_=>by simpa [rV] using slicePick_upto' vs.toArray b
 | some a,some b,h=>by simpa [rV] using slicePick_run vs.toArray a b (by simpa using (h a b rfl rfl).2) (h a b rfl rfl).1
set_option tactic.hygienic true in
theorem yA {a:AV} {o:Option Nat} {h:Heap} {α:Nat→Addr} {n:Nat} {v:aa} (e:vW a=some o) (V:pp h α n a v):IsPart v (o.map gV):=by
 unfold vW at e
 split at e
 ·refine V.none_ ?_;cases e;exact .none
 ·refine V.tI fun _=>?_
  split at e
  ·rename_i i t g
   cases e
   have:i=gV i.toNat:=(jy g).symm
   rw [Option.map_some,← this]
   exact .int i t
  ·cases e
 ·cases e
theorem xM {value:Expr} {lo hi:Option Expr} {p pos:Pos} (h:EX an w am d nm ρ H (fun be=>eval value be) (fun a H1=>EP an w am d nm ρ H1 lo (fun i H2=>EP an w am d nm ρ H2 hi (fun j H3 =>
   ∃ k xs x y,a=.ref k∧H3[k]?=some (.list xs)∧xs.length≤1000000∧vW i=some x∧vW j=some y∧(∀ u v,x=some u→y=some v→u≤v∧v≤xs.length)∧R (.ref H3.length) (H3++[.list (rV xs x y)])))))
  (hs:∀ o i,∃ ops,gc (.Slice lo hi none p) false o i=gC ops (fz o i):=by intro _ _;with_unfolding_all exact ⟨_,rfl⟩) :
  EX an w am d nm ρ H (fun be=>eval (.Subscript value (.Slice lo hi none p) pos) be) R:=fun be A L m α s Q E hr S I D c=>by
 refine hY (h.then hr S I D fun a v rS H1 s1 h1 x1 I1 V1 Z1 S1 D1=>?_)
 refine kH (EX.then h1 hr S1 I1 D1 fun i vi sP H2 s2 h2 x2 I2 V2 Z2 S2 D2=>?_)
 refine EX.then h2 hr S2 I2 D2 fun j vj sQ H3 s3 h3 x3 I3 V3 Z3 S3 D3=>?_
 rw [jP]
 refine ai ?_
 obtain ⟨k,xs,x,y,rfl,hk,hz,e1,e2,hb,hR⟩:=h3
 have He:=(V1.ext x2 I1.kt).ext x3 I2.kt
 refine He.sO fun _=>?_
 rename_i sj
 have Kw:=V2.ext x3 I2.kt
 obtain ⟨vs,n,g,hl,VV⟩:=I3.isList hk
 have mo:=VV.length
 have xa:=vr sQ H3.length s3.heap L {cls:=.type "slice",data:=.fields #[vi,vj,.none]}
 have Ia:Inv am L m sQ H3 (s3.heap.push {cls:=.type "slice",data:=.fields #[vi,vj,.none]}):=I3.same xa (I3.fr.push _) fun i hi=>cW _ _ _ (ax (I3.lt hi))
 obtain ⟨ops,hs⟩:=hs (.ref (sQ k)) (.ref s3.heap.objs.size)
 refine fJ (s:={s3 with heap:=s3.heap.push {cls:=.type "slice",data:=.fields #[vi,vj,.none]}}) (hl.push _).typeIs kJ.lookup (k7 (hl.push _) (l8 ..) (yA e1 Kw) (yA e2 V3) .none (by simp) ?_ (by rw [bZ,mo];unfold cX;exact nI hz)) hs
 rw [y5 vs x y (by rw [mo];exact hb)]
 have xb:=tf sQ H3.length (s3.heap.push {cls:=.type "slice",data:=.fields #[vi,vj,.none]}) L (bU (rV vs x y).toArray 0)
 have Ib:=Ia.push (o:=bU (rV vs x y).toArray 0) (ao:=.list (rV xs x y)) (tW (rV vs x y) 0 (bj _ rfl) (((VV.pick x y).ext xa I3.kt).ext xb Ia.kt))
 have FK : (H3++[AO.list (rV xs x y)]).length=H3.length+1:=by simp
 refine c _ _ _ _ {s3 with heap:=_} hR (FK▸(((x1.trans x2).trans x3).trans xa).trans xb) Ib ?_ (((Z1.trans Z2).trans Z3).trans ⟨rfl,id⟩)
 rw [FK]
 have:pp ((s3.heap.push {cls:=.type "slice",data:=.fields #[vi,vj,.none]}).push (bU (rV vs x y).toArray 0)) (put sQ H3.length (s3.heap.push {cls:=.type "slice",data:=.fields #[vi,vj,.none]}).objs.size) (H3.length+1) (.ref H3.length) (.ref (put sQ H3.length (s3.heap.push {cls:=.type "slice",data:=.fields #[vi,vj,.none]}).objs.size H3.length)):=.ref (bB _)
 rwa [nn] at this
end
end
inductive Hg (h:Heap) (α:Nat→Addr) (n:Nat):Option AV→Option aa→Prop
 | none:Hg h α n none none
 | some {a:AV} {v:aa}:pp h α n a v→Hg h α n (some a) (some v)
noncomputable def NX (an:aD) (w:aw) (am:Heap) (d:Nat) (H:AH) (k:Nat) (R:Option AV→AH→Prop):Prop :=
 ∀ (A:au) (L:Addr) (m:Str→Option aa) (α:Nat→Addr) (s:af) (Q:Option aa→af→Prop) (E:aa→af→Prop),td A d→Inv am L m α H s.heap→k < H.length →
  (∀ o ov dL H' s',R o H'→Ext L α dL H.length H'.length s.heap s'.heap→Inv am L m dL H' s'.heap→Hg s'.heap dL H'.length o ov→rM s s'→Q ov s')→ag (ah an w) A (cf (.ref (α k))) Q E s
noncomputable def AS (an:aD) (w:aw) (am:Heap) (d:Nat) (nm:List Str) (ρ:List ci) (H:AH) (t:Expr) (a:AV) (R:List ci→AH→Prop):Prop :=
 ∀ (be:Env) (A:au) (L:Addr) (m:Str→Option aa) (α:Nat→Addr) (s:af) (Q:Unit→af→Prop) (E:aa→af→Prop) (v:aa),
  td A d→u8 be L α H.length nm ρ→Inv am L m α H s.heap→vQ m s.heap α H.length nm ρ→pp s.heap α H.length a v →
  (∀ ρ' m' dL H' s',R ρ' H'→Ext L α dL H.length H'.length s.heap s'.heap→Inv am L m' dL H' s'.heap→u8 be L dL H'.length nm ρ'→vQ m' s'.heap dL H'.length nm ρ'→rM s s'→Q () s') →
  ag (ah an w) A (cL t be v) Q E s
noncomputable def SF (an:aD) (w:aw) (am:Heap) (d:Nat) (nm:List Str) (ρ:List ci) (H:AH) (k:Nat) (c:Env→aa→Code) (R:AF→List ci→AH→Prop):Prop :=
 ∀ (be:Env) (A:au) (L:Addr) (m:Str→Option aa) (α:Nat→Addr) (s:af) (Q:dR→af→Prop),
  td A d→u8 be L α H.length nm ρ→Inv am L m α H s.heap→vQ m s.heap α H.length nm ρ→k < H.length →
  (∀ f fl ρ' m' dL H' s',R f ρ' H'→Ext L α dL H.length H'.length s.heap s'.heap→Inv am L m' dL H' s'.heap→u8 be L dL H'.length nm ρ'→vQ m' s'.heap dL H'.length nm ρ'→Ch s'.heap dL H'.length f fl→rM s s'→Q (.ok fl) s') →
  bA (ah an w) A (c be (.ref (α k))) Q s
noncomputable def TP (an:aD) (w:aw) (am:Heap) (d:Nat) (nm:List Str) (k:Nat) (t:Expr) (b o:List Stmt) (R:AF→List ci→AH→Prop):AF→List ci→AH→Prop:=fun f wn H3=>match f with
    | .next=>SF an w am d nm wn H3 k (fun be it=>.forLoop t it b o be) R
    | .cont=>SF an w am d nm wn H3 k (fun be it=>.forLoop t it b o be) R
    | .brk=>R .next wn H3
    | .ret v=>R (.ret v) wn H3
noncomputable def Yc (an:aD) (w:aw) (am:Heap) (d:Nat) (nm:List Str) (k:Nat) (t:Expr) (b o:List Stmt) (R:AF→List ci→AH→Prop):List ci→AH→Prop:=fun sZ H2=>ST an w am d nm sZ H2 (fun be=>aG b be) (TP an w am d nm k t b o R)
noncomputable def Yd (an:aD) (w:aw) (am:Heap) (d:Nat) (nm:List Str) (ρ:List ci) (k:Nat) (t:Expr) (b o:List Stmt) (R:AF→List ci→AH→Prop):Option AV→AH→Prop:=fun x H1=>match x with
   | none=>ST an w am d nm ρ H1 (fun be=>aG o be) R
   | some a=>AS an w am d nm ρ H1 t a (Yc an w am d nm k t b o R)
section
variable {nm:List Str} {ρ:List ci} {H:AH} {R:AF→List ci→AH→Prop}
theorem wQ {i:Nat} {x:Str} {p:Pos} {a:AV} {ρ' : List ci} {H' : AH} {R:List ci→AH→Prop} (hx:nm[i]?=some x) (hn:nm.Nodup) (e:FH ρ H i a=some (ρ',H')) (r:R ρ' H'):AS an w am d nm ρ H (.Name x p) a R :=
 fun be A L m α s Q E v hr S I D V k=>qh (vy e hx hn S I D V fun m' s' x2 I2 S2 D2 Z2=>k ρ' m' α H' s' r x2 I2 S2 D2 Z2)
theorem vo (i:Nat) {x:Str} {p:Pos} {a:AV} {ρ' : List ci} {H' : AH} {R:List ci→AH→Prop} (hx:nm[i]?=some x) (e:FH ρ H i a=some (ρ',H')) (r:R ρ' H') (hn:nm.Nodup:=by decide +kernel):AS an w am d nm ρ H (.Name x p) a R:=wQ hx hn e r
theorem SF.mono {k:Nat} {c:Env→aa→Code} {R R' : AF→List ci→AH→Prop} (h1:SF an w am d nm ρ H k c R) (h:∀ f ρ' H',R f ρ' H'→R' f ρ' H'):SF an w am d nm ρ H k c R' :=
 fun be A L m α s Q hr S I D hk kk=>h1 be A L m α s Q hr S I D hk fun f fl ρ' m' dL H' s' r=>kk f fl ρ' m' dL H' s' (h f ρ' H' r)
theorem tQ {k:Nat} {t:Expr} {b o:List Stmt} (h:NX an w am d H k (Yd an w am d nm ρ k t b o R))
  (hg:∀ it v,f6 t it v=pure ():=by intro _ _;rfl):SF an w am d nm ρ H k (fun be it=>.forLoop t it b o be) R:=by
 intro be A L m α s Q hr S I D hk kk
 refine eN ?_
 refine (?_:ag _ A ((forTurn t (.ref (α k)) b o be).onRaise (fun x=>do gH x be;gK x)) _ _ s)
 refine gT ?_
 unfold forTurn
 refine ab (dq (ab (jB (h A L m α s _ _ hr I hk fun x ov rS H1 s1 h1 x1 I1 VV Z1=>?_))))
 have S1:=S.ext x1
 have D1:=D.ext x1 I.kt
 cases VV with
 | none=>exact ai ⟨rfl,codeAny_block (h1 be A L m rS s1 _ _ hr S1 I1 D1 fun f fl wn m2 sP H2 s2 r2 x2 I2 S2 D2 F2 Z2=>kk f fl wn m2 sP H2 s2 r2 (x1.trans x2) I2 S2 D2 F2 (Z1.trans Z2))⟩
 | some V1 =>
  refine ab (fZ (hg _ _) ?_)
  refine ab (h1 be A L m rS s1 _ _ _ hr S1 I1 D1 V1 fun wn m2 sP H2 s2 h2 x2 I2 S2 D2 Z2=>?_)
  refine ab (h2 be A L m2 sP s2 _ _ hr S2 I2 D2 fun f fl Dq m3 sQ H3 s3 h3 x3 I3 S3 D3 F3 Z3=>?_)
  have xx:=(x1.trans x2).trans x3
  have cC (q:SF an w am d nm Dq H3 k (fun be it=>.forLoop t it b o be) R):bA (ah an w) A (.forLoop t (.ref (α k)) b o be) Q s3:=by
   have:=q be A L m3 sQ s3 Q hr S3 I3 D3 (aC hk xx.le) fun f fl Si m4 Dw H4 s4 r4 x4 I4 S4 D4 F4 Z4=>kk f fl Si m4 Dw H4 s4 r4 (xx.trans x4) I4 S4 D4 F4 (((Z1.trans Z2).trans Z3).trans Z4)
   rwa [xx.al k hk] at this
  cases F3 with
  | next=>exact ai ⟨rfl,cC h3⟩
  | cont=>exact ai ⟨rfl,cC h3⟩
  | brk=>exact ai (kk _ _ Dq m3 sQ H3 s3 h3 xx I3 S3 D3 .next ((Z1.trans Z2).trans Z3))
  | ret V=>exact ai (kk _ _ Dq m3 sQ H3 s3 h3 xx I3 S3 D3 (.ret V) ((Z1.trans Z2).trans Z3))
noncomputable def IT (an:aD) (w:aw) (am:Heap) (d:Nat) (H:AH) (a:AV) (R:Nat→AH→Prop):Prop:=FG an w am d H a pyIter (fun r H'=>∃ k,r=.ref k∧R k H')
noncomputable def Ye (an:aD) (w:aw) (am:Heap) (d:Nat) (nm:List Str) (ρ:List ci) (t:Expr) (b o:List Stmt) (R:AF→List ci→AH→Prop):Nat→AH→Prop:=fun k H2=>SF an w am d nm ρ H2 k (fun be it=>.forLoop t it b o be) R
noncomputable def Yg (an:aD) (w:aw) (am:Heap) (d:Nat) (nm:List Str) (ρ:List ci) (t:Expr) (b o:List Stmt) (R:AF→List ci→AH→Prop):AV→AH→Prop:=fun a H1=>IT an w am d H1 a (Ye an w am d nm ρ t b o R)
theorem wr {t it:Expr} {b o:List Stmt} {pos:Pos} (h:EX an w am d nm ρ H (fun be=>eval it be) (Yg an w am d nm ρ t b o R))
  (hs:∀ be x,fP it be x=pure x:=by intro _ _;rfl):ST an w am d nm ρ H (fun be=>exec (.For t it b o pos) be) R:=fun be A L m α s Q E hr S I D c=>by
 refine wpAny_For (h.then hr S I D fun a v rS H1 s1 h1 x1 I1 V1 Z1 S1 D1=>?_) (hs be)
 refine h1 A L m rS s1 _ E v hr I1 V1 fun r x sP H2 s2 h2 x2 I2 V2 Z2=>?_
 obtain ⟨k,rfl,q⟩:=h2
 refine V2.sO fun _=>?_
 rename_i hk
 exact q be A L m sP s2 _ hr (S1.ext x2) I2 (D1.ext x2 I1.kt) hk fun f fl ρ' m' dL H' s' r x3 I3 S3 D3 F3 Z3=>c f fl ρ' m' dL H' s' r ((x1.trans x2).trans x3) I3 S3 D3 F3 ((Z1.trans Z2).trans Z3)
end
section
variable {A:au} {E:aa→af→Prop} {s:af}
theorem Aw {it l:Addr} {i:Nat} {items:Array aa} {Q:Option aa→af→Prop} (hh:A.handled=none)
  (hit:s.heap.IsListIter it l i) (hl:s.heap.IsList l items) (hx:items[i]?=none)
  (hQ:∀ h',eX it s.heap h'→s.heap.objs.size≤h'.objs.size→Q none {s with heap:=h'}):ag (ah an w) A (cf (.ref it)) Q E s:=by
 obtain ⟨o,ho,hc,hd⟩:=id hit
 obtain ⟨ol,Hh,_,nl,wj⟩:=hl
 unfold cf
 refine ab (kr (fg (name:="__next__") hit.typeIs jh
  (dA jh hit.typeIs qx ?_ (rt _))))
 refine (?_:ag _ _ (ey (.ref it) 0 >>= _) _ _ s)
 refine ab (cT ho hd (x:=.ref l) rfl ?_)
 refine (?_:ag _ _ (if (dz l == eM)=true then _ else _) _ _ s)
 rw [if_neg (show ¬ ((dz l == eM)=true) from l6)]
 refine (?_:ag _ _ (ey (.ref it) 1 >>= _) _ _ s)
 refine ab (cT ho hd (x:=.int i 0) rfl ?_)
 refine (?_:ag _ _ (seqItems? (.ref l) >>= _) _ _ s)
 refine ab (fa Hh wj ?_)
 simp only [kq,hx]
 refine ab (fj (ab (jq ho hd (by simp) ?_)))
 refine (?_:ag _ _ (gL (.type "StopIteration") [] >>= _) _ _ _)
 refine ab ?_
 simp only [gL,jF]
 refine ab (fy ?_ (by size_fits))
 refine ab (m:=gO _ _) (fZ (a:=eM) (by first | rfl | (simp only [gO];rfl)) ?_)
 refine fy ?_ (by size_fits)
 unfold raiseNew
 refine ab (nr ?_)
 rw [show A.in1.handled=none from hh]
 refine ab (ai (m9 ?_))
 refine ab (gx (T:="StopIteration") (b:=true) (i12 _ (bj _ rfl) rfl) ly ?_)
 exact ai (hQ _ (((ik ..).extBut.push _).push _) (by rw [cF,cF,fp];exact lR 2 lO))
end
section
variable {H:AH}
theorem vX {l:Nat} {xs:List AV} {R:Nat→AH→Prop} (hl:H[l]?=some (.list xs)) (r:R H.length (H++[.iter l 0])):IT an w am d H (.ref l) R:=by
 intro A L m α s Q E v hr I V k
 refine V.sO fun _=>?_
 rename_i ui
 obtain ⟨vs,n,g,AM,VV⟩:=I.isList hl
 refine ie AM ?_
 have xt:=tf α H.length s.heap L {cls:=.type "list_iterator",data:=.fields #[.ref (α l),.int 0 0]}
 have mo:(H++[AO.iter l 0]).length=H.length+1:=by simp
 have I':=I.push (o:={cls:=.type "list_iterator",data:=.fields #[.ref (α l),.int 0 0]}) (ao:=.iter l 0) ⟨bJ ui,by rw [r8 _ _ (ax ui)];exact (sN _ (bj _ rfl) rfl rfl)⟩
 refine k _ _ _ _ {s with heap:=_} (i12 _ rfl r) (mo▸xt) I' ?_ ⟨rfl,id⟩
 rw [mo]
 have:pp (s.heap.push {cls:=.type "list_iterator",data:=.fields #[.ref (α l),.int 0 0]}) (put α H.length s.heap.objs.size) (H.length+1) (.ref H.length) (.ref (put α H.length s.heap.objs.size H.length)):=.ref (bB _)
 rwa [nn] at this
theorem Inv.zQ {L:Addr} {m:Str→Option aa} {α:Nat→Addr} {h:Heap} (I:Inv am L m α H h) {k l i:Nat} (hk:H[k]?=some (.iter l i)):h.IsListIter (α k) (α l) i:=(I.obj k _ hk).2
theorem tK {k l i:Nat} {xs:List AV} {R:Option AV→AH→Prop} (hk:H[k]?=some (.iter l i)) (hl:H[l]?=some (.list xs))
  (h1:∀ a,xs[i]?=some a→R (some a) (H.set k (.iter l (i+1)))) (h2:xs[i]?=none→R none (H.set k .s9)):NX an w am d H k R:=by
 intro A L m α s Q E hr I sj c
 obtain ⟨vs,n,g,AM,VV⟩:=I.isList hl
 have hit:=I.zQ hk
 have ui:=(I.obj k _ hk).1
 cases hx:xs[i]? with
 | some a =>
  obtain ⟨y,hy,Y⟩:=VV.get hx
  refine wpAny_pyNext_list_item hit AM (by simpa using hy) fun h' hi hs=>?_
  have xt:Ext L α α H.length H.length s.heap h':=vc I sj hs
  have mo:(H.set k (AO.iter l (i+1))).length=H.length:=aP
  exact c _ _ α _ {s with heap:=h'} (h1 a hx) (mo.symm▸xt) (I.upd sj hs (ao:=.iter l (i+1)) ⟨ui,hi⟩) (.some (mo.symm▸Y.ext xt I.kt)) ⟨rfl,id⟩
 | none =>
  refine Aw hr.handled hit AM (by have:=bM.mp hx;simp;have:=VV.length;lia) fun h' hb hz=>?_
  have xt:Ext L α α H.length H.length s.heap h':=⟨fun _ _=>rfl,ar _,hz,fun b o e _ uw=>hb b o (uw k sj) e,fun _ a b=>absurd b (bG.mpr a)⟩
  have mo:(H.set k AO.s9).length=H.length:=aP
  refine c none none α _ {s with heap:=h'} (h2 hx) (mo.symm▸xt) ⟨?_,fun i hi=>I.low i (mo▸hi),fun i j hi hj=>I.inj i j (mo▸hi) (mo▸hj),fun j o e=>?_⟩ .none ⟨rfl,id⟩
  ·exact ⟨I.fr.ns.extBut hb (aq (I.low k sj).2),fun b o e=>hb b o (ne_old (I.low k sj).1 e) (I.fr.keep b o e),I.fr.above⟩
  ·rw [mo]
   by_cases q:j=k
   ·subst q
    rw [az sj] at e
    obtain rfl:=ay e
    exact aC (I.lt sj) hz
   ·rw [aF (aq q)] at e
    exact (I.obj j o e).ext xt I.kt fun ob g=>hb _ _ (fun z=>q (I.inj j k (rK e) sj z)) g
end
section
variable {A:au} {E:aa→af→Prop} {s:af}
theorem zR {it:Addr} {x left step:Int} {Q:Option aa→af→Prop} (hh:A.handled=none) (hit:IsRangeIter s.heap it x left step) (Qf:left≤0)
  (hQ:∀ h',eX it s.heap h'→s.heap.objs.size≤h'.objs.size→Q none {s with heap:=h'}):ag (ah an w) A (cf (.ref it)) Q E s:=by
 have hT:s.TypeIs (.ref it) "range_iterator":=(i12 _ hit rfl)
 unfold cf
 refine ab (kr (fg (name:="__next__") hT pA
  (dA pA hT F.entry_range_iterator_next ?_ (F.args_range_iterator_next_1 _))))
 refine (?_:ag _ _ (ey (.ref it) 0 >>= _) _ _ s)
 refine ab (cT hit rfl (x:=bP x) rfl ?_)
 refine (?_:ag _ _ (ey (.ref it) 1 >>= _) _ _ s)
 refine ab (cT hit rfl (x:=bP left) rfl ?_)
 refine (?_:ag _ _ (ey (.ref it) 2 >>= _) _ _ s)
 refine ab (cT hit rfl (x:=bP step) rfl ?_)
 refine (?_:ag _ _ (if left≤0 then _ else _) _ _ s)
 rw [if_pos Qf]
 refine ab (fj ?_)
 refine ab ?_
 refine (?_:ag _ _ (gL (.type "StopIteration") [] >>= _) _ _ _)
 refine ab ?_
 unfold gL jF
 refine ab (fy ?_ (by size_fits))
 refine ab (m:=gO _ _) (fZ (a:=eM) (by first | rfl | (unfold gO;rfl)) ?_)
 refine fy ?_ (by size_fits)
 unfold raiseNew
 refine ab (nr ?_)
 first | rw [show A.in1.handled=none from hh] | rw [hh]
 refine ab (ai (m9 ?_))
 refine ab (gx (T:="StopIteration") (b:=true) (i12 _ (bj _ rfl) rfl) ly ?_)
 exact ai (hQ _ (((eX.refl it s.heap).push _).push _) (by simp only [cF,fp];exact lR 2 lO))
end
noncomputable def sn (a b:Int):AO:=.raw 0 fun _ o=>∃ t u v,o={cls:=.type "range",data:=.fields #[.int a t,.int b u,.int 1 v]}
noncomputable def rI (x left:Int):AO:=.raw 0 fun _ o=>o={cls:=.type "range_iterator",data:=.fields #[bP x,bP left,bP 1]}
section
variable {H:AH}
theorem Inv.ux {L:Addr} {m:Str→Option aa} {α:Nat→Addr} {h:Heap} (I:Inv am L m α H h) {p:(Nat→Addr)→Obj→Prop} {o:Obj} {b:Nat} (hb:b≤H.length) (hp:∀ α dL : Nat→Addr,(∀ k < b,dL k=α k)→p dL=p α) (z:p α o) (live:∀ o,p α o→o.isFreed=false) :
  Ext L α (put α H.length h.objs.size) H.length (H++[AO.raw b p]).length h (h.push o)∧Inv am L m (put α H.length h.objs.size) (H++[.raw b p]) (h.push o)∧pp (h.push o) (put α H.length h.objs.size) (H++[AO.raw b p]).length (.ref H.length) (.ref h.objs.size):=by
 have mo:(H++[AO.raw b p]).length=H.length+1:=by simp
 have e:p (put α H.length h.objs.size)=p α:=hp _ _ fun k hk=>r8 _ _ (ax (aC hk hb))
 have xt:=tf α H.length h L o
 refine (sS (mo▸xt) (I.push (sS (mA hb) (fun β Dp=>hp _ _ Dp) (i12 o (bj _ (live o z)) (by rw [e];exact z)))) ?_)
 rw [mo]
 have:pp (h.push o) (put α H.length h.objs.size) (H.length+1) (.ref H.length) (.ref (put α H.length h.objs.size H.length)):=.ref (bB _)
 rwa [nn] at this
theorem tL {n:Int} {R:AV→AH→Prop} (r:R (.ref H.length) (H++[sn 0 n])):FN an w am d (.type "range") H [.int n] [] R:=by
 intro A L m α s Q E vs hr I V c
 refine V.se fun _ _ b V=>?_
 refine V.t0 ?_
 refine b.tI fun _=>?_
 refine call_range_1 ?_
 obtain ⟨x,I',V'⟩:=I.ux (b:=0) (p:=fun _ o=>∃ t u v,o={cls:=.type "range",data:=.fields #[.int 0 t,.int n u,.int 1 v]}) (o:={cls:=.type "range",data:=.fields #[.int 0 s.toks,.int n _,.int 1 (s.toks+1)]}) (bK _) (fun _ _ _=>rfl) (Ko _ _ _ rfl) (fun o z=>by obtain ⟨_,_,_,rfl⟩:=z;rfl)
 exact c _ _ _ _ {s with heap:=_,toks:=_} r x I' V' ⟨rfl,id⟩
end
section
variable {H:AH}
theorem tS {l:Nat} {a b:Int} {R:Nat→AH→Prop} (hl:H[l]?=some (sn a b)) (ha:-(2 ^ 62)≤a) (AN : a < 2 ^ 62) (hb:-(2 ^ 62)≤b) (uw : b < 2 ^ 62) (r:R H.length (H++[rI a (if a < b then b - a else 0)])):IT an w am d H (.ref l) R:=by
 intro A L m α s Q E v hr I V k
 refine V.sO fun _=>?_
 obtain ⟨_,_,o,g,t,u,v,rfl⟩:=I.obj l _ hl
 refine wpAny_pyIter_range g (small_one ha AN hb uw) ?_
 obtain ⟨x,I',V'⟩:=I.ux (b:=0) (p:=fun _ o=>o={cls:=.type "range_iterator",data:=.fields #[bP a,bP (if a < b then b - a else 0),bP 1]}) (bK _) (fun _ _ _=>rfl) rfl (fun o z=>by subst z;rfl)
 rw [rangeSize_one]
 exact k _ _ _ _ {s with heap:=_} (i12 _ rfl r) x I' V' ⟨rfl,id⟩
theorem sw {k:Nat} {x left:Int} {R:Option AV→AH→Prop} (hk:H[k]?=some (rI x left)) (h1:0 < left→R (some (.int x)) (H.set k (rI (x+1) (left - 1)))) (h2:left≤0→R none (H.set k .s9)):NX an w am d H k R:=by
 intro A L m α s Q E hr I sj c
 obtain ⟨_,_,o,g,rfl⟩:=I.obj k _ hk
 by_cases hx:0 < left
 ·refine wpAny_pyNext_range_item g hx fun h' hi hs=>?_
  have xt:Ext L α α H.length H.length s.heap h':=vc I sj hs
  have mo:(H.set k (rI (x+1) (left - 1))).length=H.length:=aP
  exact c _ _ α _ {s with heap:=h',toks:=_} (h1 hx) (mo.symm▸xt) (I.upd sj hs (ao:=rI (x+1) (left - 1)) (sS (bK _) (fun _ _=>rfl) (i12 _ hi rfl))) (.some (.int _ _)) ⟨rfl,id⟩
 ·refine zR hr.handled g (mZ hx) fun h' hb hz=>?_
  have xt:Ext L α α H.length H.length s.heap h':=⟨fun _ _=>rfl,ar _,hz,fun b o e _ uw=>hb b o (uw k sj) e,fun _ a b=>absurd b (bG.mpr a)⟩
  have mo:(H.set k AO.s9).length=H.length:=aP
  refine c none none α _ {s with heap:=h'} (h2 (mZ hx)) (mo.symm▸xt) ⟨?_,fun i hi=>I.low i (mo▸hi),fun i j hi hj=>I.inj i j (mo▸hi) (mo▸hj),fun j o e=>?_⟩ .none ⟨rfl,id⟩
  ·exact ⟨I.fr.ns.extBut hb (aq (I.low k sj).2),fun b o e=>hb b o (ne_old (I.low k sj).1 e) (I.fr.keep b o e),I.fr.above⟩
  ·rw [mo]
   by_cases q:j=k
   ·subst q
    rw [az sj] at e
    obtain rfl:=ay e
    exact aC (I.lt sj) hz
   ·rw [aF (aq q)] at e
    exact (I.obj j o e).ext xt I.kt fun ob g=>hb _ _ (fun z=>q (I.inj j k (rK e) sj z)) g
end
section
variable {H:AH}
theorem Inv.zS {L:Addr} {m:Str→Option aa} {α:Nat→Addr} {h:Heap} (I:Inv am L m α H h) {xs:List AV} {vs:List aa} (V:po h α H.length xs vs) :
  Ext L α (put α H.length h.objs.size) H.length (H++[AO.list xs]).length h (h.push {cls:=.type "list",data:=.seq vs.toArray})∧Inv am L m (put α H.length h.objs.size) (H++[.list xs]) (h.push {cls:=.type "list",data:=.seq vs.toArray})∧pp (h.push {cls:=.type "list",data:=.seq vs.toArray}) (put α H.length h.objs.size) (H++[AO.list xs]).length (.ref H.length) (.ref h.objs.size):=by
 have mo:(H++[AO.list xs]).length=H.length+1:=by simp
 have xt:=tf α H.length h L {cls:=.type "list",data:=.seq vs.toArray}
 refine (sS (mo▸xt) (I.push (tW vs 0 (bj _ rfl) (V.ext xt I.kt))) ?_)
 rw [mo]
 have:pp (h.push {cls:=.type "list",data:=.seq vs.toArray}) (put α H.length h.objs.size) (H.length+1) (.ref H.length) (.ref (put α H.length h.objs.size H.length)):=.ref (bB _)
 rwa [nn] at this
theorem wR {a b:Nat} {xs ys:List AV} {R:AV→AH→Prop} (ha:H[a]?=some (.list xs)) (hb:H[b]?=some (.list ys)) (hz:xs.length+ys.length≤1000000) (r:R (.ref H.length) (H++[.list (xs++ys)])):y0 an w am d H (.ref a) (.ref b) (gn .Add) R:=by
 intro A L m α s Q E v u hr I V U c
 refine V.sO fun _=>?_
 refine U.sO fun _=>?_
 obtain ⟨vs,n,ho,hl,VV⟩:=I.isList ha
 obtain ⟨ws,n2,Wc,u9,WW⟩:=I.isList hb
 have e:vs.toArray++ws.toArray=(vs++ws).toArray:=by simp
 refine concat_meets (i12 _ ho rfl) (i12 _ Wc rfl) noFill_list_add seq_list_add PySem.F.slot_list_add PySem.F.entry_list_add (PySem.F.args_list_add_2 _ _) (list_addW _ _ vs.toArray ws.toArray n n2 none none #[] #[] (by simp [VV.length,WW.length];unfold cX;exact nI hz)) (sS ho Wc ?_)
 rw [e]
 obtain ⟨x,I',V'⟩:=I.zS (VV.append WW)
 exact c _ _ _ _ _ r x I' V' ⟨rfl,id⟩
end
section
variable {nm:List Str} {ρ:List ci} {H:AH} {R:AF→List ci→AH→Prop}
theorem Hi {i:Nat} {x:Str} {av:AV} {R:AV→AH→Prop} (hx:nm[i]?=some x) (hv:ρ[i]?=some (.loc (some av))) (h:R av H) :
  EX an w am d nm ρ H (fun be=>loadName be x) R:=fun be A L m α s Q E hr S I D k=>by
 obtain ⟨v,hm,V⟩:=D i x av hx hv
 exact gy S.kind (S.slots i x _ hx hv) (S.loc▸I.fr.ns) hm (k av v α H s h Ext.refl I V rM.refl)
theorem Hj {i:Nat} {x:Str} {e:Expr} {op:cV} {p' pos:Pos} (hx:nm[i]?=some x) (hn:nm.Nodup) (h:EX an w am d nm ρ H (fun be=>loadName be x) (fun a H1=>EX an w am d nm ρ H1 (fun be=>eval e be) (fun b H2=>y0 an w am d H2 a b (iY op) (fun c H3=>∃ ρ' H4,FH ρ H3 i c=some (ρ',H4)∧R .next ρ' H4)))) :
  ST an w am d nm ρ H (fun be=>exec (.AugAssign (.Name x p') op e pos) be) R:=fun be A L m α s Q E hr S I D k=>by
 refine wpAny_AugAssign_Name (h.then hr S I D fun a v rS H1 s1 h1 x1 I1 V1 Z1 S1 D1=>?_)
 refine h1.then hr S1 I1 D1 fun b u sP H2 s2 h2 x2 I2 V2 Z2 S2 D2=>?_
 refine h2 A L m sP s2 _ E v u hr I2 (V1.ext x2 I1.kt) V2 fun c t sQ H3 s3 h3 x3 I3 V3 Z3=>?_
 obtain ⟨ρ',H4,e4,r⟩:=h3
 exact vy e4 hx hn (S2.ext x3) I3 (D2.ext x3 I2.kt) V3 fun m' s' x4 I4 S4 D4 Z4=>k _ _ ρ' m' sQ H4 s' r (((x1.trans x2).trans x3).trans x4) I4 S4 D4 .next (((Z1.trans Z2).trans Z3).trans Z4)
end
section
set_option tactic.hygienic true
section
variable {H:AH} {R:AV→AH→Prop}
theorem NI {i j:Int} (r:R (.int (kS i j)) H):y0 an w am d H (.int i) (.int j) (iY .BitOr) R:=by
 intro A L m α s Q E v u hr I V U k
 refine V.tI fun _=>?_
 refine U.tI fun _=>?_
 exact PyProof.Rows.ior_int (k _ _ α _ _ r Ext.refl I (.int _ _) ⟨rfl,id⟩)
theorem Kx {i j:Int} (h0:0≤j) (h1:j≤1000000) (h2:i.natAbs < 2 ^ 64) (r:R (.int (i * 2 ^ j.toNat)) H):y0 an w am d H (.int i) (.int j) (iY .LShift) R:=by
 intro A L m α s Q E v u hr I V U k
 refine V.tI fun _=>?_
 refine U.tI fun _=>?_
 exact PyProof.Rows.ilshift_int_small h0 h1 h2 (k _ _ α _ _ r Ext.refl I (.int _ _) ⟨rfl,id⟩)
end
end
theorem entry_next:hV table "next"=some aT.«next»:=iV (by kernel_rfl)
theorem FL:builtinKind "next"=none:=by decide +kernel
theorem Dx:plainId "next"=true:=by decide +kernel
theorem Dy (a:aa):fM "next" ⟨[a],[]⟩:=by unfold fM;kernel_rfl
section
variable {A:au} {E:aa→af→Prop} {s:af}
theorem zV {it l:Addr} {i:Nat} {items:Array aa} {x:aa} {Q:aa→af→Prop} (hit:s.heap.IsListIter it l i) (hl:s.heap.IsList l items) (hx:items[i]?=some x)
  (hQ:∀ h',h'.IsListIter it l (i+1)→du it s.heap h'→Q x {s with heap:=h'}):ag (ah an w) A (call (.builtin "next") [.ref it]) Q E s:=by
 refine pb FL Dx entry_next (Dy _) ?_
 unfold aT.«next»
 refine ab (m:=someArgs "next" 1 2 _) (ai ?_)
 refine ab (iw hit.typeIs jh.lookup ?_)
 obtain ⟨o,ho,hc,hd⟩:=id hit
 obtain ⟨ol,Hh,_,nl,wj⟩:=hl
 refine (?_:ag _ _ (callSpecial? (.ref it) "__next__" >>= _) _ _ s)
 refine ab (fg (name:="__next__") hit.typeIs jh
  (dA jh hit.typeIs qx ?_ (rt _)))
 refine (?_:ag _ _ (ey (.ref it) 0 >>= _) _ _ s)
 refine ab (cT ho hd (x:=.ref l) rfl ?_)
 refine (?_:ag _ _ (if (dz l == eM)=true then _ else _) _ _ s)
 rw [if_neg (show ¬ ((dz l == eM)=true) from l6)]
 refine (?_:ag _ _ (ey (.ref it) 1 >>= _) _ _ s)
 refine ab (cT ho hd (x:=.int i 0) rfl ?_)
 refine (?_:ag _ _ (seqItems? (.ref l) >>= _) _ _ s)
 refine ab (fa Hh wj ?_)
 simp only [kq,hx]
 refine ab (jq ho hd (by simp) (ai (i12 x rfl (ai (i12 x rfl (hQ _ ?_ (ik ..)))))))
 exact (sN _ (j6 _ ho (qH (jz hd _))) ((oY ..).trans hc) (by
  rw [jz hd];simp [bP]))
end
section
variable {H:AH} {R:AV→AH→Prop}
theorem EH {k l i:Nat} {xs:List AV} {a:AV} (hk:H[k]?=some (.iter l i)) (hl:H[l]?=some (.list xs)) (ha:xs[i]?=some a) (r:R a (H.set k (.iter l (i+1)))):FN an w am d (.builtin "next") H [.ref k] [] R:=by
 intro A L m α s Q E vs hr I V c
 refine V.se fun _ _ b V=>?_
 refine V.t0 ?_
 refine b.sO fun _=>?_
 rename_i sj
 obtain ⟨vs,n,g,AM,VV⟩:=I.isList hl
 have ui:=(I.obj k _ hk).1
 obtain ⟨y,hy,Y⟩:=VV.get ha
 refine zV (I.zQ hk) AM (by simpa using hy) fun h' hi hs=>?_
 have xt:Ext L α α H.length H.length s.heap h':=vc I sj hs
 have mo:(H.set k (AO.iter l (i+1))).length=H.length:=aP
 exact c _ _ α _ {s with heap:=h'} r (mo.symm▸xt) (I.upd sj hs (ao:=.iter l (i+1)) ⟨ui,hi⟩) (mo.symm▸Y.ext xt I.kt) ⟨rfl,id⟩
end
section
set_option backward.match.sparseCases false
mutual
noncomputable def xf (n:Nat):AV→Bool
 | .ref k=>decide (k < n)
 | .tup vs=>uL n vs
 | _=>true
noncomputable def uL (n:Nat):List AV→Bool
 | []=>true
 | a::r=>xf n a && uL n r
end
theorem EI {n:Nat} {a:AV} {r:List AV}:uL n (a::r)=(xf n a && uL n r):=rfl
theorem pp.lowG {h:Heap} {α dL : Nat→Addr} {b n n' : Nat} (hb:b≤n') (uG:∀ k < b,dL k=α k) (hi:∀ k < n',∃ i,i < n∧dL k=α i) {a:AV} {v:aa} (r:pp h α n a v) (l:xf b a=true):pp h dL n' a v :=
 pp.rec (motive_1:=fun a v _=>xf b a=true→pp h dL n' a v) (motive_2:=fun as vs _=>uL b as=true→po h dL n' as vs) (fun _=>.none) (fun b _=>.bool b) (fun i t _=>.int i t) (fun s t _=>.str s t)
  (fun e ne _ r l=>.tup e (fun k hk=>let ⟨i,h1,h2⟩:=hi k hk;h2▸ne i h1) (r l))
  (fun {k} _ l=>have Dr : k < b:=of_decide_eq_true l;uG k Dr▸.ref (aC Dr hb)) (fun v _=>.con v) (fun _=>.nil)
  (fun _ _ a r l=>have q:=eJ.mp l;.cons (a q.1) (r q.2)) r l
theorem po.lowG {h:Heap} {α dL : Nat→Addr} {b n n' : Nat} (hb:b≤n') (uG:∀ k < b,dL k=α k) (hi:∀ k < n',∃ i,i < n∧dL k=α i) {as:List AV} {vs:List aa} (r:po h α n as vs) (l:uL b as=true):po h dL n' as vs:=by
 induction as generalizing vs with
 | nil=>refine r.t0 ?_;exact .nil
 | cons a as ih=>cases r with | cons x r=>exact .cons (x.lowG hb uG hi (eJ.mp l).1) (ih r (eJ.mp l).2)
theorem pp.low {h:Heap} {α dL : Nat→Addr} {n n' : Nat} (hn:n'≤n) (uG:∀ k < n',dL k=α k) {a:AV} {v:aa} (V:pp h α n a v) (l:xf n' a=true):pp h dL n' a v :=
 V.lowG (ar _) uG (fun k hk=>(i12 k (aC hk hn) (uG k hk))) l
theorem pp.y6 {h:Heap} {α:Nat→Addr} {n:Nat} {a:AV} {v:aa} (r:pp h α n a v):xf n a=true :=
 pp.rec (motive_1:=fun a v _=>xf n a=true) (motive_2:=fun as vs _=>uL n as=true) rfl (fun _=>rfl) (fun _ _=>rfl) (fun _ _=>rfl) (fun _ _ _ r=>r)
  (fun hk=>decide_eq_true hk) (fun _=>rfl) rfl (fun _ _ a r=>eJ.mpr ⟨a,r⟩) r
theorem po.y6 {h:Heap} {α:Nat→Addr} {n:Nat} {as:List AV} {vs:List aa} (r:po h α n as vs):uL n as=true:=by
 induction as generalizing vs with
 | nil=>rfl
 | cons a as ih=>cases r with | cons x r=>exact eJ.mpr ⟨x.y6,ih r⟩
noncomputable def vz (n:Nat):AO→Prop
 | .list vs=>uL n vs=true
 | .cell o=>∀ a,o=some a→xf n a=true
 | .inst _ d=>d < n
 | .ns as=>∀ x a,(x,a)∈as→xf n a=true
 | .dict _=>False
 | .iter l _=>l < n
 | .zz=>False
 | .raw b _=>b≤n
 | .s9=>True
section
variable {am h h' : Heap} {L:Addr} {m:Str→Option aa} {α dL : Nat→Addr} {n n' : Nat} {H H' : AH}
theorem tP.y6 {a:Addr} {o:AO} (r:tP h α n a o):vz n o:=by
 cases o with
 | list vs=>obtain ⟨_,_,_,V⟩:=r;exact V.y6
 | cell v=>obtain ⟨ob,cv,g,d,z⟩:=r;exact fun av q=>let ⟨u,a,b⟩:=z av q;b.y6
 | inst C d=>exact r.1
 | ns as=>obtain ⟨es,e,g,z,y⟩:=r;exact fun q av hq=>let ⟨u,a,b⟩:=z q av hq;b.y6
 | dict es=>obtain ⟨_,_,_,z⟩:=r;exact z.elim
 | iter l i=>exact r.1
 | zz=>exact r.elim
 | raw b p=>exact r.1
 | s9=>trivial
theorem tP.lowG {b:Nat} {a:Addr} {o:AO} (r:tP h α n a o) (hb:b≤n') (uG:∀ k < b,dL k=α k) (hi:∀ k < n',∃ i,i < n∧dL k=α i) (l:vz b o):tP h dL n' a o:=by
 cases o with
 | list vs=>obtain ⟨xC,e,g,V⟩:=r;exact (tW xC e g (V.lowG hb uG hi l))
 | cell v=>obtain ⟨ob,cv,g,d,z⟩:=r;exact (Do ob cv g d (fun av q=>let ⟨u,a,c⟩:=z av q;(i12 u a (c.lowG hb uG hi (l av q)))))
 | inst C d=>exact ⟨aC l hb,by rw [uG d l];exact r.2⟩
 | ns as=>obtain ⟨es,e,g,z,y⟩:=r;exact (Do es e g (fun q av hq=>let ⟨u,a,c⟩:=z q av hq;(i12 u a (c.lowG hb uG hi (l q av hq)))) y)
 | dict es=>exact l.elim
 | iter l' i=>exact ⟨aC l hb,by rw [uG l' l];exact r.2⟩
 | zz=>exact l.elim
 | raw c p =>
  obtain ⟨h1,h2,o,g,z⟩:=r
  have e:p dL=p α:=h2 dL fun i hi=>uG i (aC hi l)
  refine (sS (aj l hb) (fun β Dp=>?_) (i12 o g (by rw [e];exact z)))
  rw [e]
  exact h2 β fun i hi=>(Dp i hi).trans (uG i (aC hi l))
 | s9=>exact r
theorem tP.low {a:Addr} {o:AO} (r:tP h α n a o) (hn:n'≤n) (uG:∀ k < n',dL k=α k) (l:vz n' o):tP h dL n' a o :=
 r.lowG (ar _) uG (fun k hk=>(i12 k (aC hk hn) (uG k hk))) l
theorem Inv.forget (I:Inv am L m α (H++H') h) (l:∀ (k:Nat) (o:AO),H[k]?=some o→vz H.length o):Inv am L m α H h:=by
 have hn:H.length≤(H++H').length:=by simp
 exact ⟨I.fr,fun k hk=>I.low k (aC hk hn),fun i j hi hj=>I.inj i j (aC hi hn) (aC hj hn),fun k o e =>
  (I.obj k o (by rw [aR (rK e)];exact e)).low hn (fun _ _=>rfl) (l k o e)⟩
theorem Ext.forget {h h' : Heap} (x:Ext L α dL n n' h h') {k:Nat} (h1:n≤k) (h2:k≤n'):Ext L α dL n k h h' :=
 ⟨x.al,h1,x.size,x.keep,fun i a b=>x.new i a (aC b h2)⟩
end
noncomputable def uY (H H0:AH):Prop:=H.length≤H0.length∧∀ (k:Nat) (o:AO),H0[k]?=some o→H[k]?=some o∨vz H0.length o
mutual
theorem yB {n n' : Nat} (h:n≤n'):∀ a:AV,xf n a=true→xf n' a=true
 | .none,_=>rfl
 | .bool _,_=>rfl
 | .int _,_=>rfl
 | .str _,_=>rfl
 | .con _,_=>rfl
 | .ref k,e=>decide_eq_true (lT (of_decide_eq_true e) h)
 | .tup vs,e=>xu h vs e
theorem xu {n n' : Nat} (h:n≤n'):∀ a:List AV,uL n a=true→uL n' a=true
 | [],_=>rfl
 | a::r,e=>by
  rw [EI,eI] at e ⊢
  exact ⟨yB h a e.1,xu h r e.2⟩
end
theorem vz.mono {n n' : Nat} (h:n≤n'):∀ {o:AO},vz n o→vz n' o:=by
 intro o l
 cases o with
 | list vs=>exact xu h vs l
 | cell v=>exact fun a e=>yB h a (l a e)
 | inst C d=>exact aC l h
 | ns as=>exact fun x a e=>yB h a (l x a e)
 | dict es=>exact l.elim
 | iter l' i=>exact aC l h
 | zz=>exact l.elim
 | raw b p=>exact aj l h
 | s9=>trivial
theorem uY.low {L:Addr} {m:Str→Option aa} {α:Nat→Addr} {h:Heap} {H H0:AH} (K:uY H H0) (I:Inv am L m α H h):∀ (k:Nat) (o:AO),H0[k]?=some o→vz H0.length o:=fun k o e=>by
 rcases K.2 k o e with q | q
 ·exact ((I.obj k o q).y6).mono K.1
 ·exact q
theorem uY.refl (H:AH):uY H H:=⟨ar _,fun _ _ e=>.inl e⟩
theorem uY.set {H H0:AH} (K:uY H H0) {k:Nat} {o:AO} (l:vz H0.length o):uY H (H0.set k o):=by
 refine ⟨by rw [aP];exact K.1,fun i o' e=>?_⟩
 rw [aP]
 by_cases q:k=i
 ·subst q
  have hl:=(rK e)
  rw [aP] at hl
  rw [az hl] at e
  cases e
  exact .inr l
 ·rw [aF q] at e
  exact K.2 i o' e
section
variable {nm:List Str} {ρ:List ci} {H:AH} {R:AV→AH→Prop}
noncomputable def ME (H:AH) (R:AV→AH→Prop):AV→AH→Prop:=fun a H'=>∃ H0 G,H'=H0++G∧uY H H0∧xf H0.length a=true∧R a H0
theorem EX.drop {T:Env→Sem aa} (h:EX an w am d nm ρ H T (ME H R)):EX an w am d nm ρ H T R:=fun be A L m α s Q E hr S I D k =>
 h be A L m α s Q E hr S I D fun av v dL H' s' r x I' V Z=>by
  obtain ⟨H0,G,rfl,K,l,r⟩:=r
  have hn:H0.length≤(H0++G).length:=by simp
  exact k av v dL H0 s' r (x.forget K.1 hn) (I'.forget (K.low I)) (V.low hn (fun _ _=>rfl) l) Z
theorem FN.drop {f:aa} {args:List AV} {kw:List Str} (h:FN an w am d f H args kw (ME H R)):FN an w am d f H args kw R:=fun A L m α s Q E vs hr I V k =>
 h A L m α s Q E vs hr I V fun av v dL H' s' r x I' V Z=>by
  obtain ⟨H0,G,rfl,K,l,r⟩:=r
  have hn:H0.length≤(H0++G).length:=by simp
  exact k av v dL H0 s' r (x.forget K.1 hn) (I'.forget (K.low I)) (V.low hn (fun _ _=>rfl) l) Z
end
end
section
set_option backward.match.sparseCases false
inductive SK where
 | loc
 | sG (j k:Nat)
 | rc
noncomputable def SK.slot:SK→ci
 | .loc=>.loc none
 | .sG _ k=>.sG k
 | .rc=>.rc
noncomputable def SK.kind:SK→aW
 | .loc=>.local
 | .sG _ _=>.free
 | .rc=>.globalImplicit
noncomputable def Qg (ns:List (Str×aW)) (nm nm' : List Str) (ks:List aW) (js:List Nat):Bool :=
 decide (ns=nm'.zip ks) && decide nm'.Nodup && decide (nm'.length=ks.length) && (js.length == ks.length) && (nm'.zip (ks.zip js)).all fun (x,k,j)=>k != .free || nm[j]? == some x
noncomputable def SK.place:SK→Nat
 | .sG j _=>j
 | _=>0
noncomputable def EJ (ρ:List ci):List SK→Prop
 | []=>True
 | .sG j k::r=>ρ[j]?=some (.sG k)∧EJ ρ r
 | _::r=>EJ ρ r
theorem wS {ρ:List ci}:∀ {sk:List SK},EJ ρ sk→∀ {j k:Nat},SK.sG j k∈sk→ρ[j]?=some (.sG k)
 | .sG _ _::_,h,_,_,m=>by
  rcases aA.mp m with e | e
  ·cases e;exact h.1
  ·exact wS h.2 e
 | .loc::r,h,_,_,m=>by
  rcases aA.mp m with e | e
  ·cases e
  ·exact wS (sk:=r) h e
 | .rc::r,h,_,_,m=>by
  rcases aA.mp m with e | e
  ·cases e
  ·exact wS (sk:=r) h e
theorem Dz {be:Env} {f:Str→Addr}:∀ (ns:List (Str×aW)) (cs:List (Str×Addr)),(∀ x,(x,gh)∈ns→be.cells.lookup x=some (f x)) →
  (forIn ns cs fun (p:Str×aW) (r:List (Str×Addr))=>(do
   if p.2 == .free then pure (.yield ((p.1,← cellOf be p.1)::r)) else pure (.yield r):Sem (ForInStep (List (Str×Addr)))))=pure (((ns.filter fun p=>p.2 == .free).map fun p=>(p.1,f p.1)).reverse++cs):=by
 intro v_
 induction v_ with
 | nil =>
  intro cs _
  exact rfl
 | cons TQ r sg =>
  obtain ⟨x,k⟩:=TQ
  intro cs h
  rw [gP]
  by_cases hk:k=.free
  ·subst hk
   have e:cellOf be x=pure (f x):=by unfold cellOf;rw [h x aZ]
   simp only [e,beq_self_eq_true,if_true,pure_bind]
   rw [sg _ fun y hy=>h y (ba _ hy)]
   simp
  ·have hb:(k == gh)=false:=by simpa using hk
   simp only [hb,cG,if_false,pure_bind]
   rw [sg _ fun y hy=>h y (ba _ hy)]
   simp [hb]
theorem Ax {scope:aO} {be:Env} {f:Str→Addr} (h:∀ x,(x,gh)∈scope.names→be.cells.lookup x=some (f x)) :
  mm scope be=pure ((scope.names.filter fun p=>p.2 == .free).map fun p=>(p.1,f p.1)).reverse:=by
 have:=Dz scope.names [] h
 rw [cO] at this
 rw [← this]
 unfold mm
 simp only [bind_pure]
noncomputable def zW (ifs:List Expr) (be:Env):Sem Bool:=forIn ifs true fun c r=>if r=true then (do let ok ← isTrue c be (eval c be);pure (qp ok)) else pure (qp r)
theorem DB (elt db iter:Expr) (ifs:List Expr) (scope:aO) (pos:Pos) (it pi:aa) (be:Env) :
  fL (.ListComp elt [⟨db,iter,ifs,0⟩] scope pos) 0 it pi be=(do
   cj iter.pos
   match ← cf it with
   | none=>pure (.done .next)
   | some v =>
    f6 db it v
    cL db be v
    let ok ← zW ifs be
    if ok then
     (do let _ ← call (.builtin "list.append") [pi,← eval elt be])
    cC (.compLoop (.ListComp elt [⟨db,iter,ifs,0⟩] scope pos) 0 it pi be)):=by rfl
theorem DC (elt db iter:Expr) (ifs:List Expr) (g:iA) (scope:aO) (pos:Pos) (it pi:aa) (be:Env) :
  fL (.ListComp elt [g,⟨db,iter,ifs,0⟩] scope pos) 1 it pi be=(do
   cj iter.pos
   match ← cf it with
   | none=>pure (.done .next)
   | some v =>
    f6 db it v
    cL db be v
    let ok ← zW ifs be
    if ok then
     (do let _ ← call (.builtin "list.append") [pi,← eval elt be])
    cC (.compLoop (.ListComp elt [g,⟨db,iter,ifs,0⟩] scope pos) 1 it pi be)):=by rfl
theorem DE (elt db iter t2 i2:Expr) (f2:List Expr) (scope:aO) (pos:Pos) (it pi:aa) (be:Env) :
  fL (.ListComp elt [⟨db,iter,[],0⟩,⟨t2,i2,f2,0⟩] scope pos) 0 it pi be=(do
   cj iter.pos
   match ← cf it with
   | none=>pure (.done .next)
   | some v =>
    f6 db it v
    cL db be v
    let x ← eval i2 be
    cj i2.pos
    let x ← fP i2 be x
    let _ ← runOwn (.compStart (.ListComp elt [⟨db,iter,[],0⟩,⟨t2,i2,f2,0⟩] scope pos) 1 (← eh [x] (pyIter x)) pi be) be
    cC (.compLoop (.ListComp elt [⟨db,iter,[],0⟩,⟨t2,i2,f2,0⟩] scope pos) 0 it pi be)):=by rfl
theorem FM (kx vx db iter:Expr) (ifs:List Expr) (scope:aO) (pos:Pos) (it:aa) (D:Addr) (be:Env) :
  fL (.DictComp kx vx [⟨db,iter,ifs,0⟩] scope pos) 0 it (.ref D) be=(do
   cj iter.pos
   match ← cf it with
   | none=>pure (.done .next)
   | some v =>
    f6 db it v
    cL db be v
    let ok ← zW ifs be
    if ok then
     (do
      let kv ← eval kx be
      let vv ← eh [kv] (eval vx be)
      cj {kx.pos with endLine:=vx.pos.endLine,endCol:=vx.pos.endCol}
      eh [kv,vv] (dictSet D kv vv))
    cC (.compLoop (.DictComp kx vx [⟨db,iter,ifs,0⟩] scope pos) 0 it (.ref D) be)):=by rfl
end
section
variable {am h rJ yC:Heap} {L C:Addr} {m m' m2:Str→Option aa} {α dL : Nat→Addr} {H H' : AH}
theorem Inv.enter (I:Inv am L m α H h) (hC:h.objs.size≤C) (xk:rJ.Ns C m') (hk:∀ b o,h.get? b=some o→rJ.get? b=some o) (hs:h.objs.size≤rJ.objs.size) :
  Inv am C m' α H rJ∧Ext L α α H.length H.length h rJ:=by
 have x0:Ext L α α H.length H.length h rJ:=⟨fun _ _=>rfl,ar _,hs,fun b o e _ _=>hk b o e,fun _ a b=>absurd b (bG.mpr a)⟩
 refine ⟨⟨⟨xk,fun b o e=>hk b o (I.fr.keep b o e),aj I.fr.above (aj (bp I.wl) hC)⟩,fun i hi=>⟨(I.low i hi).1,ax (aC (I.lt hi) hC)⟩,I.inj,fun i oo e=>?_⟩,x0⟩
 have hi:i < H.length:=(rK e)
 exact (I.obj i oo e).ext x0 I.kt fun ob q=>hk _ _ q
theorem Inv.back (I:Inv am L m α H h) (hC:h.objs.size≤C) (hk:∀ b o,h.get? b=some o→rJ.get? b=some o) (hs:h.objs.size≤rJ.objs.size) (x:Ext C α dL H.length H'.length rJ yC) (I2:Inv am C m2 dL H' yC) :
  Inv am L m dL H' yC∧Ext L α dL H.length H'.length h yC:=by
 have xx:Ext L α dL H.length H'.length h yC :=
  ⟨x.al,x.le,aj hs x.size,fun b o e hb uG=>x.keep b o (hk b o e) (ax (aC (aH e) hC)) uG,fun k a b=>aj hs (x.new k a b)⟩
 have ll:=I.wl
 obtain ⟨oL,es,ep,hL,r1⟩:=I.fr.ns
 have Qc : yC.get? L=some oL:=x.keep L oL (hk L oL hL) (ax (aC ll hC)) fun i hi=>aq (I.low i hi).2
 refine ⟨⟨⟨(Nw oL es ep Qc r1),I2.fr.keep,I.fr.above⟩,fun i hi=>⟨(I2.low i hi).1,?_⟩,I2.inj,I2.obj⟩,xx⟩
 by_cases q:i < H.length
 ·rw [x.al i q];exact (I.low i q).2
 ·exact br (aC ll (aj hs (x.new i (bC q) hi)))
theorem Inv.outer (I:Inv am L m α H h) (hC:am.objs.size≤C) (hL:C≠L) (uG:∀ k < H.length,α k≠C) (hT:∀ vs e,h.get? C≠some (sv vs e)) (s:du C h rJ):Inv am L m α H rJ:=by
 have x:Ext C α α H.length H.length h rJ:=xF s
 exact ⟨⟨I.fr.ns.sameBut s (aq hL),fun b o e=>(s.2 b (ax (aC (aH e) hC))).trans (I.fr.keep b o e),I.fr.above⟩,I.low,I.inj,fun i o e =>
  (I.obj i o e).ext x hT fun ob q=>(s.2 _ (uG i (rK e))).trans q⟩
end
noncomputable def LG (an:aD) (w:aw) (am:Heap) (d:Nat) (H:AH) (t:Expr) (k:Nat) (a:AV) (R:AH→Prop):Prop :=
 ∀ (A:au) (L:Addr) (m:Str→Option aa) (α:Nat→Addr) (s:af) (Q:Unit→af→Prop) (E:aa→af→Prop) (v:aa),td A d→Inv am L m α H s.heap→k < H.length→pp s.heap α H.length a v →
  (∀ dL H' s',R H'→Ext L α dL H.length H'.length s.heap s'.heap→Inv am L m dL H' s'.heap→rM s s'→Q () s')→ag (ah an w) A (f6 t (.ref (α k)) v) Q E s
noncomputable def SL (an:aD) (w:aw) (am:Heap) (d:Nat) (nm:List Str) (ρ:List ci) (H:AH) (k pi:Nat) (c:Env→aa→aa→Code) (R:List ci→AH→Prop):Prop :=
 ∀ (be:Env) (A:au) (L:Addr) (m:Str→Option aa) (α:Nat→Addr) (s:af) (Q:dR→af→Prop),
  td A d→u8 be L α H.length nm ρ→Inv am L m α H s.heap→vQ m s.heap α H.length nm ρ→k < H.length→pi < H.length →
  (∀ fl ρ' m' dL H' s',R ρ' H'→Ext L α dL H.length H'.length s.heap s'.heap→Inv am L m' dL H' s'.heap→u8 be L dL H'.length nm ρ'→vQ m' s'.heap dL H'.length nm ρ'→rM s s'→Q (.ok fl) s') →
  bA (ah an w) A (c be (.ref (α k)) (.ref (α pi))) Q s
section
variable {nm:List Str} {ρ:List ci} {H:AH}
theorem uy {x:Str} {p:Pos} {k:Nat} {a:AV} {R:AH→Prop} (r:R H):LG an w am d H (.Name x p) k a R :=
 fun A L m α s Q E v hr I hk V c=>ai (c α H s r Ext.refl I rM.refl)
theorem Ky {es:List Expr} {j:Nat} {p:Pos} {k l i:Nat} {vs:List AV} {R:AH→Prop} (hk:H[k]?=some (.iter l i)) (r:R H):LG an w am d H (.Tuple es j p) k (.tup vs) R :=
 fun A L m α s Q E v hr I sj V c=>by
  cases V
  exact wpAny_letOwnedTupleGo_listiter (I.obj k _ hk).2 (c α H s r Ext.refl I rM.refl)
theorem SL.mono {k pi:Nat} {c:Env→aa→aa→Code} {R R' : List ci→AH→Prop} (h1:SL an w am d nm ρ H k pi c R) (h:∀ ρ' H',R ρ' H'→R' ρ' H'):SL an w am d nm ρ H k pi c R' :=
 fun be A L m α s Q hr S I D hk ha kk=>h1 be A L m α s Q hr S I D hk ha fun fl ρ' m' dL H' s' r=>kk fl ρ' m' dL H' s' (h ρ' H' r)
theorem tl {R:Bool→AH→Prop} (h:R true H):EB an w am d nm ρ H (zW []) R:=fun be A L m α s Q E hr S I D k=>ai (k true α H s h Ext.refl I rM.refl)
theorem EK {c:Expr} {R:Bool→AH→Prop} (h:EB an w am d nm ρ H (AL c) R):EB an w am d nm ρ H (zW [c]) R:=fun be A L m α s Q E hr S I D k=>by
 unfold zW
 rw [gP]
 simp -iota only [if_true]
 refine ab (ab (h be A L m α s _ E hr S I D fun b dL H' s' r x I' Z=>ai ?_))
 refine (?_:ag _ _ (forIn [] b _) _ _ _)
 rw [i7]
 exact ai (k b dL H' s' r x I' Z)
noncomputable def Yh (an:aD) (w:aw) (am:Heap) (d:Nat) (nm:List Str) (k pi:Nat) (c:Env→aa→aa→Code) (R:List ci→AH→Prop) (sZ:List ci):AV→AH→Prop:=fun v H5=>∃ ys,H5[pi]?=some (.list ys)∧ys.length≤1000000∧SL an w am d nm sZ (H5.set pi (.list (ys++[v]))) k pi c R
noncomputable def Yi (an:aD) (w:aw) (am:Heap) (d:Nat) (nm:List Str) (k pi:Nat) (elt:Expr) (c:Env→aa→aa→Code) (R:List ci→AH→Prop) (sZ:List ci):Bool→AH→Prop:=fun b H4=>if b=true then EX an w am d nm sZ H4 (fun be=>eval elt be) (Yh an w am d nm k pi c R sZ) else SL an w am d nm sZ H4 k pi c R
noncomputable def Yj (an:aD) (w:aw) (am:Heap) (d:Nat) (nm:List Str) (k pi:Nat) (elt:Expr) (ifs:List Expr) (c:Env→aa→aa→Code) (R:List ci→AH→Prop):List ci→AH→Prop:=fun sZ H3=>EB an w am d nm sZ H3 (zW ifs) (Yi an w am d nm k pi elt c R sZ)
noncomputable def Yk (an:aD) (w:aw) (am:Heap) (d:Nat) (nm:List Str) (ρ:List ci) (k pi:Nat) (db elt:Expr) (ifs:List Expr) (c:Env→aa→aa→Code) (R:List ci→AH→Prop) (a:AV):AH→Prop:=fun H2=>AS an w am d nm ρ H2 db a (Yj an w am d nm k pi elt ifs c R)
noncomputable def Yl (an:aD) (w:aw) (am:Heap) (d:Nat) (nm:List Str) (ρ:List ci) (k pi:Nat) (db elt:Expr) (ifs:List Expr) (c:Env→aa→aa→Code) (R:List ci→AH→Prop):Option AV→AH→Prop:=fun x H1=>match x with
  | none=>R ρ H1
  | some a=>LG an w am d H1 db k a (Yk an w am d nm ρ k pi db elt ifs c R a)
noncomputable def DF (an:aD) (w:aw) (am:Heap) (d:Nat) (nm:List Str) (ρ:List ci) (H:AH) (k pi:Nat) (db elt:Expr) (ifs:List Expr) (c:Env→aa→aa→Code) (R:List ci→AH→Prop):Prop :=
 NX an w am d H k (Yl an w am d nm ρ k pi db elt ifs c R)
set_option tactic.hygienic true in
theorem EL {db iter elt:Expr} {ifs:List Expr} {k pi:Nat} {c:Env→aa→aa→Code} {R:List ci→AH→Prop} (h:DF an w am d nm ρ H k pi db elt ifs c R)
  {be:Env} {A:au} {L:Addr} {m:Str→Option aa} {α:Nat→Addr} {s:af} {Q:dR→af→Prop} {E:aa→af→Prop} (hr:td A d) (S:u8 be L α H.length nm ρ) (I:Inv am L m α H s.heap) (D:vQ m s.heap α H.length nm ρ) (hk:k < H.length) (ha:pi < H.length) (hq:(c be (.ref (α k)) (.ref (α pi))).quiet=true)
  (kk:∀ fl ρ' m' dL H' s',R ρ' H'→Ext L α dL H.length H'.length s.heap s'.heap→Inv am L m' dL H' s'.heap→u8 be L dL H'.length nm ρ'→vQ m' s'.heap dL H'.length nm ρ'→rM s s'→Q (.ok fl) s') :
  ag (ah an w) A (do
   cj iter.pos
   match ← cf (.ref (α k)) with
   | none=>pure (.done .next)
   | some v =>
    f6 db (.ref (α k)) v
    cL db be v
    let ok ← zW ifs be
    if ok then
     (do let _ ← call (.builtin "list.append") [.ref (α pi),← eval elt be])
    cC (c be (.ref (α k)) (.ref (α pi)))) (fun f s'=>match f with
     | .done fl=>Q (.ok fl) s'
     | .again c'=>c'.quiet=true∧bA (ah an w) A c' Q s') E s:=by
 refine ab (dq (ab (h A L m α s _ _ hr I hk fun x ov rS H1 s1 h1 x1 I1 VV Z1=>?_)))
 have S1:=S.ext x1
 have D1:=D.ext x1 I.kt
 cases VV with
 | none=>exact ai (kk .next ρ m rS H1 s1 h1 x1 I1 S1 D1 Z1)
 | some V1 =>
  rename_i a v
  dsimp only
  have vA:k < H1.length:=aC hk x1.le
  rw [← x1.al k hk]
  refine ab (h1 A L m rS s1 _ _ v hr I1 vA V1 fun sP H2 s2 h2 x2 I2 Z2=>?_)
  have S2:=S1.ext x2
  have D2:=D1.ext x2 I1.kt
  refine ab (h2 be A L m sP s2 _ _ v hr S2 I2 D2 (V1.ext x2 I1.kt) fun Dq m3 sQ H3 s3 h3 x3 I3 S3 D3 Z3=>?_)
  refine ab (h3 be A L m3 sQ s3 _ _ hr S3 I3 D3 fun b Dw H4 s4 h4 x4 I4 Z4=>?_)
  have S4:=S3.ext x4
  have D4:=D3.ext x4 I3.kt
  have Wd:=((x1.trans x2).trans x3).trans x4
  have We:=((Z1.trans Z2).trans Z3).trans Z4
  have cC:∀ Bw (H5:AH) s5,Ext L α Bw H.length H5.length s.heap s5.heap→Inv am L m3 Bw H5 s5.heap→rM s s5→u8 be L Bw H5.length nm Dq→vQ m3 s5.heap Bw H5.length nm Dq→SL an w am d nm Dq H5 k pi c R →
    bA (ah an w) A (c be (.ref (α k)) (.ref (α pi))) Q s5:=fun Bw H5 s5 x5 I5 Z5 S5 D5 q=>by
   have:=q be A L m3 Bw s5 Q hr S5 I5 D5 (aC hk x5.le) (aC ha x5.le) fun f MF m6 EM H6 s6 r6 x6 I6 S6 D6 Z6=>kk f MF m6 EM H6 s6 r6 (x5.trans x6) I6 S6 D6 (Z5.trans Z6)
   rwa [x5.al k hk,x5.al pi ha] at this
  cases b with
  | false =>
   simp -iota only [cG,if_false] at h4 ⊢
   rw [x1.al k hk]
   exact ai ⟨hq,cC Dw H4 s4 Wd I4 We S4 D4 h4⟩
  | true =>
   simp -iota only [if_true] at h4 ⊢
   rw [x1.al k hk]
   refine ab (ab (h4.then hr S4 I4 D4 fun e u Bw H5 s5 h5 x5 I5 V5 Z5 S5 D5=>?_))
   obtain ⟨ys,hy,hz,q⟩:=h5
   obtain ⟨vs,n,g,hl,VV⟩:=I5.isList hy
   have Ds:=Wd.trans x5
   have Qh:pi < H5.length:=aC ha Ds.le
   have Qi:=uT (an:=an) (w:=w) (am:=am) (d:=d) (a:=e) hy hz
   have V0:pp s5.heap Bw H5.length (.ref pi) (.ref (α pi)):=by
    have:pp s5.heap Bw H5.length (.ref pi) (.ref (Bw pi)):=.ref Qh
    rwa [Ds.al pi ha] at this
   refine ab (Qi.pos hr I5 (.cons V0 (.cons V5 .nil)) fun av x' EM H6 s6 r6 x6 I6 V6 Z6=>ai (ai ⟨hq,?_⟩))
   obtain ⟨_,rfl⟩:=r6
   have S6:=S5.ext x6
   have D6:=D5.ext x6 I5.kt
   exact cC EM _ s6 (Ds.trans x6) I6 ((We.trans Z5).trans Z6) S6 D6 q
end
section
set_option tactic.hygienic true
noncomputable def SI (an:aD) (w:aw) (am:Heap) (d:Nat) (H:AH) (k:Nat):Prop :=
 ∀ (A:au) (L:Addr) (m:Str→Option aa) (α:Nat→Addr) (s:af) (Q E:aa→af→Prop),td A d→Inv am L m α H s.heap→k < H.length→Q (.ref (α k)) s→ag (ah an w) A (pyIter (.ref (α k))) Q E s
noncomputable abbrev FO (elt db iter:Expr) (ifs:List Expr) (scope:aO) (pos:Pos):Env→aa→aa→Code:=fun be it pi=>.compLoop (.ListComp elt [⟨db,iter,ifs,0⟩] scope pos) 0 it pi be
noncomputable abbrev FP (elt t1 i1 db iter:Expr) (ifs:List Expr) (scope:aO) (pos:Pos) (j:Nat):Env→aa→aa→Code:=fun be it pi=>.compLoop (.ListComp elt [⟨t1,i1,[],0⟩,⟨db,iter,ifs,0⟩] scope pos) j it pi be
theorem wU {e:Expr} {j:Nat} {db iter:Expr} {ifs:List Expr} {it pi:aa} {be:Env} {an:aD} {w:aw} {A:au} {R:dR→af→Prop} {s:af}
  (he:(clausesOf e)[j]?=some ⟨db,iter,ifs,0⟩) (hq:∀ it,(Code.compLoop e j it pi be).quiet=true) (hu:A.under (.compStart e j it pi be)=A)
  (hd:(ah an w).den (.compStart e j it pi be)=(compStart e j it pi be).onRaise (fun x=>do gH x be;cj theWindowsPlace))
  (h0:bA (ah an w) A (.compLoop e j it pi be) R s)
  (h:ag (ah an w) A (pyIter it) (fun NJ s'=>bA (ah an w) A (.compLoop e j NJ pi be) R s')
   (notedBy (ah an w) A be fun x s'=>R (.error x) s') s) :
  bA (ah an w) A (.compStart e j it pi be) R s:=by
 refine eN ?_
 rw [hu,hd]
 refine wpAny_notedAt ?_
 unfold compStart
 rw [he]
 refine (?_:ag _ _ (ask >>= _) _ _ s)
 refine ab (wpAny_askSetting (wpAny_ite ?_))
 split
 ·first
   | exact ab (ai (ai (iL (hq _) h0)))
   | exact ai (iL (hq _) h0)
 ·first
   | exact ab (fj (ab (dq (ab (dm h (fun NJ s' h'=>ai (iL (hq _) h')) fun _ _ x=>x)))))
   | (refine ab (fj ?_);refine (?_:ag _ _ (cj iter.pos >>= _) _ _ s);exact ab (dq (ab (dm h (fun NJ s' h'=>ai (iL (hq _) h')) fun _ _ x=>x))))
section
variable {nm:List Str} {ρ:List ci} {H:AH}
theorem wV {k l i:Nat} (hk:H[k]?=some (.iter l i)):SI an w am d H k:=fun A L m α s Q E hr I sj q=>qV (I.obj k _ hk).2 q
theorem uC {db iter elt:Expr} {ifs:List Expr} {scope:aO} {pos:Pos} {k pi:Nat} {R:List ci→AH→Prop} (h:DF an w am d nm ρ H k pi db elt ifs (FO elt db iter ifs scope pos) R) :
  SL an w am d nm ρ H k pi (FO elt db iter ifs scope pos) R:=by
 intro be A L m α s Q hr S I D hk ha kk
 refine eN ?_
 refine (?_:ag _ A ((fL (.ListComp elt [⟨db,iter,ifs,0⟩] scope pos) 0 (.ref (α k)) (.ref (α pi)) be).onRaise (fun x=>do gH x be;gK x)) _ _ s)
 refine gT ?_
 rw [DB]
 exact EL h hr S I D hk ha rfl kk
theorem xN {t1 i1 db iter elt:Expr} {ifs:List Expr} {scope:aO} {pos:Pos} {k pi:Nat} {R:List ci→AH→Prop} (h:DF an w am d nm ρ H k pi db elt ifs (FP elt t1 i1 db iter ifs scope pos 1) R) :
  SL an w am d nm ρ H k pi (FP elt t1 i1 db iter ifs scope pos 1) R:=by
 intro be A L m α s Q hr S I D hk ha kk
 refine eN ?_
 refine (?_:ag _ A ((fL (.ListComp elt [⟨t1,i1,[],0⟩,⟨db,iter,ifs,0⟩] scope pos) 1 (.ref (α k)) (.ref (α pi)) be).onRaise (fun x=>do gH x be;gK x)) _ _ s)
 refine gT ?_
 rw [DC]
 exact EL h hr S I D hk ha rfl kk
theorem xO {db iter t2 i2 elt:Expr} {f2:List Expr} {scope:aO} {pos:Pos} {k pi:Nat} {R:List ci→AH→Prop}
  (h:NX an w am d H k (fun x H1=>match x with
   | none=>R ρ H1
   | some a=>LG an w am d H1 db k a (fun H2=>AS an w am d nm ρ H2 db a (fun sZ H3=>EX an w am d nm sZ H3 (fun be=>eval i2 be) (fun v H4=>IT an w am d H4 v (fun k2 H5=>SI an w am d H5 k2 ∧
     SL an w am d nm sZ H5 k2 pi (FP elt db iter t2 i2 f2 scope pos 1) (fun wn H6=>SL an w am d nm wn H6 k pi (FP elt db iter t2 i2 f2 scope pos 0) R)))))))
  (hs:∀ be x,fP i2 be x=pure x:=by intro _ _;rfl) :
  SL an w am d nm ρ H k pi (FP elt db iter t2 i2 f2 scope pos 0) R:=by
 intro be A L m α s Q hr S I D hk ha kk
 refine eN ?_
 refine (?_:ag _ A ((fL (.ListComp elt [⟨db,iter,[],0⟩,⟨t2,i2,f2,0⟩] scope pos) 0 (.ref (α k)) (.ref (α pi)) be).onRaise (fun x=>do gH x be;gK x)) _ _ s)
 refine gT ?_
 rw [DE]
 refine ab (dq (ab (h A L m α s _ _ hr I hk fun x ov rS H1 s1 h1 x1 I1 VV Z1=>?_)))
 have S1:=S.ext x1
 have D1:=D.ext x1 I.kt
 cases VV with
 | none=>exact ai (kk .next ρ m rS H1 s1 h1 x1 I1 S1 D1 Z1)
 | some V1 =>
  rename_i a v
  dsimp only
  have vA:k < H1.length:=aC hk x1.le
  rw [← x1.al k hk]
  refine ab (h1 A L m rS s1 _ _ v hr I1 vA V1 fun sP H2 s2 h2 x2 I2 Z2=>?_)
  have S2:=S1.ext x2
  have D2:=D1.ext x2 I1.kt
  refine ab (h2 be A L m sP s2 _ _ v hr S2 I2 D2 (V1.ext x2 I1.kt) fun Dq m3 sQ H3 s3 h3 x3 I3 S3 D3 Z3=>?_)
  refine ab (h3.then hr S3 I3 D3 fun b u Dw H4 s4 h4 x4 I4 V4 Z4 S4 D4=>?_)
  refine ab (dq (ab (fZ (hs be u) (ab (cH (h4 A L m3 Dw s4 _ _ u hr I4 V4 fun r it Bw H5 s5 h5 x5 I5 V5 Z5=>?_))))))
  obtain ⟨k2,rfl,si,q⟩:=h5
  refine V5.sO fun _=>?_
  rename_i u7
  have S5:=S4.ext x5
  have D5:=D4.ext x5 I4.kt
  have Ds:=(((x1.trans x2).trans x3).trans x4).trans x5
  have TR:=(((Z1.trans Z2).trans Z3).trans Z4).trans Z5
  have Sj:pi < H5.length:=aC ha Ds.le
  have run:∀ (Q' : dR→af→Prop),(∀ fl ρ' m' dL H' s',SL an w am d nm ρ' H' k pi (FP elt db iter t2 i2 f2 scope pos 0) R→Ext L Bw dL H5.length H'.length s5.heap s'.heap→Inv am L m' dL H' s'.heap→u8 be L dL H'.length nm ρ'→vQ m' s'.heap dL H'.length nm ρ'→rM s5 s'→Q' (.ok fl) s') →
    bA (ah an w) A (FP elt db iter t2 i2 f2 scope pos 1 be (.ref (Bw k2)) (.ref (α pi))) Q' s5:=fun Q' Wf=>by
   have:=q be A L m3 Bw s5 Q' hr S5 I5 D5 u7 Sj fun fl MF m6 EM H6 s6 r6 x6 I6 S6 D6 Z6=>Wf fl MF m6 EM H6 s6 r6 x6 I6 S6 D6 Z6
   rwa [Ds.al pi ha] at this
  have fin:∀ (fl:Flow) ρ' m' dL H' s',SL an w am d nm ρ' H' k pi (FP elt db iter t2 i2 f2 scope pos 0) R→Ext L Bw dL H5.length H'.length s5.heap s'.heap→Inv am L m' dL H' s'.heap→u8 be L dL H'.length nm ρ'→vQ m' s'.heap dL H'.length nm ρ'→rM s5 s' →
    bA (ah an w) A (FP elt db iter t2 i2 f2 scope pos 0 be (.ref (α k)) (.ref (α pi))) Q s':=fun fl MF m6 EM H6 s6 r6 x6 I6 S6 D6 Z6=>by
   have NK:=Ds.trans x6
   have:=r6 be A L m6 EM s6 Q hr S6 I6 D6 (aC hk NK.le) (aC ha NK.le) fun f TS m7 TU H7 s7 r7 x7 I7 S7 D7 Z7=>kk f TS m7 TU H7 s7 r7 (NK.trans x7) I7 S7 D7 ((TR.trans Z6).trans Z7)
   rwa [NK.al k hk,NK.al pi ha] at this
  rw [x1.al k hk]
  refine ab (wpAny_runOwn (wU (db:=t2) (iter:=i2) (ifs:=f2) rfl (fun _=>rfl) rfl rfl ?_ ?_))
  ·exact run _ fun fl MF m6 EM H6 s6 r6 x6 I6 S6 D6 Z6=>ai ⟨rfl,fin fl MF m6 EM H6 s6 r6 x6 I6 S6 D6 Z6⟩
  ·exact si A L m3 Bw s5 _ _ hr I5 u7 (run _ fun fl MF m6 EM H6 s6 r6 x6 I6 S6 D6 Z6=>ai ⟨rfl,fin fl MF m6 EM H6 s6 r6 x6 I6 S6 D6 Z6⟩)
end
end
theorem Ay {f:Str→Addr}:∀ (ns:List (Str×aW)) (x:Str),(∃ k,(x,k)∈ns)→(ns.map fun p=>(p.1,f p.1)).lookup x=some (f x):=by
 intro v_
 induction v_ with
 | nil =>
  intro x h
  obtain ⟨_,h⟩:=h;cases h
 | cons TQ r sg =>
  obtain ⟨y,j⟩:=TQ
  intro x Ym
  obtain ⟨k,h⟩:=Ym
  rw [bD,eg]
  by_cases e:x=y
  ·subst e;simp
  ·have:(x == y)=false:=by simpa using e
   rw [this]
   rcases aA.mp h with q | q
   ·cases q;exact absurd rfl e
   ·exact sg x ⟨k,q⟩
theorem uk:∀ {nm:List Str} {ks:List aW} {i:Nat} {x:Str} {k:aW},nm.Nodup→nm[i]?=some x→ks[i]?=some k→(nm.zip ks).lookup x=some k:=by
 intro v_
 induction v_ with
 | nil =>
  intro xJ MC x k n h e
  simp at h
 | cons y nm sg =>
  intro xJ MC x k n h e
  cases xJ with
  | nil =>
   simp at e
  | cons j ks =>
   cases MC with
   | zero =>
    simp at h e
    subst h e
    simp
   | succ i =>
    simp at h e
    have hx:x∈nm:=bx h
    have ne:(x == y)=false:=by
     simp only [beq_eq_false_iff_ne,ne_eq]
     intro q
     exact (cq.mp n).1 (q▸hx)
    rw [dx,eg,ne]
    exact sg (cq.mp n).2 h e
theorem wt {be:Env} {x:Str} {k:aW}:∀ {names:List (Str×aW)},names.lookup x=some k →
  (names.map fun (n,k)=>if (k == gh && be.scope.kind == .function && be.kindOf n == some .cell) then (n,fV) else (n,k)).lookup x =
   some (if (k == gh && be.scope.kind == .function && be.kindOf x == some .cell) then fV else k)
 | [],h=>by simp at h
 | (n,j)::r,h=>by
  have ih:=@wt be x k r
  rw [bD]
  try dsimp only
  by_cases hx:x=n
  ·subst hx
   simp only [eg,beq_self_eq_true] at h
   cases h
   split
   ·rename_i q;simp [eg]
   ·rename_i q;simp [eg]
  ·have hb:(x == n)=false:=by simpa using hx
   rw [eg,hb] at h
   split
   ·rw [eg,hb];exact ih h
   ·rw [eg,hb];exact ih h
structure rO (scope:aO) (nm:List Str) (ρ:List ci) (nm' : List Str) (sk:List SK):Prop where
 kind:scope.kind=.function
 names:scope.names=nm'.zip (sk.map SK.kind)
 nodup:nm'.Nodup
 len:nm'.length=sk.length
 free:∀ (i j k:Nat) (x:Str),nm'[i]?=some x→sk[i]?=some (.sG j k)→nm[j]?=some x∧ρ[j]?=some (.sG k)
noncomputable def Hk (scope:aO) (nm nm' : List Str) (ks:List aW) (js:List Nat):Bool:=scope.kind == .function && Qg scope.names nm nm' ks js
theorem rO.of {scope:aO} {nm:List Str} {ρ:List ci} {nm' : List Str} {sk:List SK} (h:Hk scope nm nm' (sk.map SK.kind) (sk.map SK.place)=true) (hc:EJ ρ sk):rO scope nm ρ nm' sk:=by
 unfold Hk Qg at h
 simp only [eI,decide_eq_true_eq] at h
 obtain ⟨h0,⟨⟨⟨h1,h2⟩,h3⟩,h4⟩,h5⟩:=h
 refine ⟨by simpa using h0,h1,h2,by simpa using h3,fun i j k x hx hs=>⟨?_,wS hc (bx hs)⟩⟩
 have e1:(sk.map SK.kind)[i]?=some .free:=by rw [bu,hs];rfl
 have e2:(sk.map SK.place)[i]?=some j:=by rw [bu,hs];rfl
 have hm:(x,gh,j)∈nm'.zip ((sk.map SK.kind).zip (sk.map SK.place)):=by
  refine bx (i:=i) ?_
  rw [iS,iS]
  exact (sS hx e1 e2)
 have:=d0.mp h5 _ hm
 simpa using this
theorem rO.at {scope:aO} {nm:List Str} {ρ:List ci} {nm' : List Str} {sk:List SK} (c:rO scope nm ρ nm' sk) {i:Nat} {x:Str} {k:SK} (hx:nm'[i]?=some x) (hs:sk[i]?=some k):scope.names.lookup x=some k.kind:=by
 rw [c.names]
 exact uk c.nodup hx (by rw [bu,hs];rfl)
theorem rO.mem {scope:aO} {nm:List Str} {ρ:List ci} {nm' : List Str} {sk:List SK} (c:rO scope nm ρ nm' sk) {x:Str} {k:aW} (h:(x,k)∈scope.names):∃ (i:Nat) (s:SK),nm'[i]?=some x∧sk[i]?=some s∧s.kind=k:=by
 rw [c.names] at h
 obtain ⟨i,hi⟩:=gj.mp h
 rw [iS] at hi
 obtain ⟨h1,h2⟩:=hi
 rw [bu] at h2
 obtain ⟨s,h3,h4⟩:=ig.mp h2
 exact (Do i s h1 h3 h4)
noncomputable def EN (be:Env) (x:Str):Addr:=(be.cells.lookup x).getD 0
noncomputable def zi (scope:aO) (be:Env):List (Str×Addr):=((scope.names.filter fun p=>p.2 == .free).map fun p=>(p.1,EN be p.1)).reverse
section
variable {nm:List Str} {ρ:List ci} {H:AH}
theorem rO.closure {scope:aO} {nm' : List Str} {sk:List SK} (c:rO scope nm ρ nm' sk) {be:Env} {L:Addr} {α:Nat→Addr} {n:Nat} (S:u8 be L α n nm ρ):mm scope be=pure (zi scope be):=by
 refine Ax fun x hx=>?_
 obtain ⟨i,s,h1,h2,h3⟩:=c.mem hx
 cases s with
 | loc=>cases h3
 | rc=>cases h3
 | sG j k =>
  obtain ⟨a,b⟩:=c.free i j k x h1 h2
  have:=S.slots j x _ a b
  unfold EN
  rw [this.2.2]
  rfl
theorem rO.Yn {scope:aO} {nm' : List Str} {sk:List SK} (c:rO scope nm ρ nm' sk) {be:Env} {L C:Addr} {α:Nat→Addr} {n:Nat} (S:u8 be L α n nm ρ):u8 (fC scope (zi scope be) C be) C α n nm' (sk.map SK.slot):=by
 refine ⟨c.kind,rfl,S.rc,S.blt,fun i x s hx hs=>?_⟩
 rw [bu] at hs
 obtain ⟨t,ht,rfl⟩:=ig.mp hs
 have hl:=wt (be:=be) (c.at hx ht)
 have hk:(fC scope (zi scope be) C be).kindOf x=some (if (t.kind == gh && be.scope.kind == .function && be.kindOf x == some .cell) then fV else t.kind):=hl
 cases t with
 | loc=>exact hk
 | rc=>exact hk
 | sG j k =>
  obtain ⟨a,b⟩:=c.free i j k x hx ht
  have q:=S.slots j x _ a b
  refine (sS q.1 ?_ ?_)
  ·rw [hk,S.kind,q.2.1];rfl
  ·refine (?_:(zi scope be).lookup x=some (α k))
   have:EN be x=α k:=by unfold EN;rw [q.2.2];rfl
   rw [← this]
   unfold zi
   rw [← List.map_reverse]
   refine Ay _ x ⟨.free,qC.mpr (dE.mpr ⟨?_,rfl⟩)⟩
   rw [c.names]
   refine bx (i:=i) ?_
   rw [iS]
   exact ⟨hx,by rw [bu,ht];rfl⟩
theorem rO.dyn {nm' : List Str} {sk:List SK} {m:Str→Option aa} {h:Heap} {α:Nat→Addr} {n:Nat}:vQ m h α n nm' (sk.map SK.slot):=by
 intro i x av hx hs
 rw [bu] at hs
 obtain ⟨t,ht,e⟩:=ig.mp hs
 cases t <;> cases e
theorem rO.wq {scope:aO} {nm' : List Str} {sk:List SK} (c:rO scope nm ρ nm' sk):∀ x∈scope.names,x.2≠.cell:=by
 rintro ⟨x,k⟩ hx rfl
 obtain ⟨i,s,_,_,h⟩:=c.mem hx
 cases s <;> cases h
theorem rO.locals {scope:aO} {nm' : List Str} {sk:List SK} (c:rO scope nm ρ nm' sk):∀ x∈scope.names,x.2=.local→scope.names.lookup x.1=some .local:=by
 rintro ⟨x,k⟩ hx rfl
 obtain ⟨i,s,h1,h2,h⟩:=c.mem hx
 rw [c.at h1 h2,h]
end
theorem Ext.outer {L C:Addr} {α dL : Nat→Addr} {n n' : Nat} {h yC vB:Heap} (x:Ext L α dL n n' h yC) (hC:h.objs.size≤C) (s:du C yC vB):Ext L α dL n n' h vB :=
 ⟨x.al,x.le,aj x.size (aJ s.1.symm),fun b o e hb uG=>(s.2 b (ax (aC (aH e) hC))).trans (x.keep b o e hb uG),x.new⟩
theorem Heap.Ns.Kz {h h' : Heap} {a:Addr} {m:Str→Option aa} (n:h.Ns a m) (k:∀ o,h.get? a=some o→h'.get? a=some o):h'.Ns a m:=by
 obtain ⟨o,es,ep,ho,r⟩:=n
 exact (Nw o es ep (k o ho) r)
section
variable {nm:List Str} {ρ:List ci} {H:AH}
theorem yD {c:Env→aa→aa→Code} {e:Expr} {scope:aO} {nm' : List Str} {sk:List SK} (ok:rO scope nm ρ nm' sk) {Hl:Sem aa} {o:Obj} {ao:AO} {k:Nat} {R:List ci→AH→Prop} {use:Option (aa→Sem Unit)}
  (tD:∀ {A:au} {E:aa→af→Prop} {s:af} {Q:aa→af→Prop},Q (.ref s.heap.objs.size) {s with heap:=s.heap.push o}→ag (ah an w) A Hl Q E s)
  (Yo:∀ (h:Heap) (α:Nat→Addr) (n:Nat),h.get? h.objs.size=none→tP (h.push o) α n h.objs.size ao)
  (NL:∀ {A:au} {R:dR→af→Prop} {s:af} {it pi:aa} {be:Env},bA (ah an w) A (c be it pi) R s →
   ag (ah an w) A (pyIter it) (fun NJ s'=>bA (ah an w) A (c be NJ pi) R s') (notedBy (ah an w) A be fun x s'=>R (.error x) s') s→bA (ah an w) A (.compStart e 0 it pi be) R s)
  (h:SI an w am d (H++[ao]) k∧SL an w am d nm' (sk.map SK.slot) (H++[ao]) k H.length c R)
  {be:Env} {A:au} {L:Addr} {m:Str→Option aa} {α:Nat→Addr} {s:af} {Q E:aa→af→Prop} (hr:td A d) (S:u8 be L α H.length nm ρ) (I:Inv am L m α H s.heap) (hk:k < H.length)
  (kk:∀ (fl:Flow) ρ' C m' dL (H' : AH) s',R ρ' H'→s.heap.objs.size≤C→Ext L α dL H.length H'.length s.heap s'.heap→Inv am L m dL H' s'.heap→s'.heap.Ns C m'→(∀ k < H'.length,dL k≠C)→C≠L→rM s s' →
   (H.length < H'.length∧dL H.length=s.heap.objs.size)→gD (ah an w) A E use Q (.ref s.heap.objs.size) C (.ok fl) s') :
  ag (ah an w) A Hl (fun pi TV=>ag (ah an w) A (newFunctionEnv scope be.globals (zi scope be) [] be.qual none .none (some be)) (fun Qj TW =>
   bA (ah an w) A (.compStart e 0 (.ref (α k)) pi {Qj with scope:=relabel scope be}) (gD (ah an w) A E use Q pi Qj.locals) TW) E TV) E s:=by
 have hn:(H++[ao]).length=H.length+1:=by simp
 have xp:=tf α H.length s.heap L o
 have KA:s.heap.get? s.heap.objs.size=none:=by
  cases q:s.heap.get? s.heap.objs.size with
  | none=>rfl
  | some o'=>exact absurd (aH q) (ff _)
 have Ip:=I.push (o:=o) (ao:=ao) (Yo s.heap _ _ KA)
 refine tD ?_
 refine qI ok.wq (by intro y hy;simp at hy) (fun rJ DG Hm=>?_) ok.kind
 skip
 generalize Sk:s.heap.push o=H2 at DG Hm xp Ip ⊢
 have hC:H2.objs.size=s.heap.objs.size+1:=by rw [← Sk,cF]
 have old:∀ b ob,H2.get? b=some ob→rJ.get? b=some ob:=fun b ob q=>Hm.extBut b ob (ax (aH q)) (bT _ q)
 have hz:H2.objs.size≤rJ.objs.size:=bp DG.lt
 obtain ⟨I1,x1⟩:=Ip.enter (m':=fun x=>([]:List (Str×aa)).reverse.lookup x) (ar _) DG old hz
 have Sp:u8 be L (put α H.length s.heap.objs.size) (H++[ao]).length nm ρ:=hn▸S.ext xp
 have S1:u8 (fC scope (zi scope be) H2.objs.size be) H2.objs.size (put α H.length s.heap.objs.size) (H++[ao]).length nm' (sk.map SK.slot):=ok.Yn Sp
 have Qk:put α H.length s.heap.objs.size k=α k:=r8 _ _ (ax hk)
 have Wg:put α H.length s.heap.objs.size H.length=s.heap.objs.size:=nn _ _ _
 have goal:∀ tE:af,tE.heap=rJ→rM s tE→bA (ah an w) A (c (fC scope (zi scope be) H2.objs.size be) (.ref (α k)) (.ref s.heap.objs.size)) (gD (ah an w) A E use Q (.ref s.heap.objs.size) H2.objs.size) tE:=fun tE e1 Z1=>by
  subst e1
  have fin:∀ (fl:Flow) ρ' m' dL (H' : AH) s',R ρ' H'→Ext H2.objs.size (put α H.length s.heap.objs.size) dL (H++[ao]).length H'.length tE.heap s'.heap→Inv am H2.objs.size m' dL H' s'.heap →
    u8 (fC scope (zi scope be) H2.objs.size be) H2.objs.size dL H'.length nm' ρ'→vQ m' s'.heap dL H'.length nm' ρ'→rM tE s'→gD (ah an w) A E use Q (.ref s.heap.objs.size) H2.objs.size (.ok fl) s':=fun fl ρ' m' dL H' s' r x I' S' D' Z=>by
   obtain ⟨I2,x2⟩:=Ip.back (ar _) old hz x I'
   have xx:Ext L α dL H.length H'.length s.heap s'.heap:=xp.trans (hn▸x2)
   have hle:=x.le
   rw [hn] at hle
   exact kk fl ρ' H2.objs.size m' dL H' s' r (by rw [hC];exact bX _) xx I2 I'.fr.ns (fun k hk=>(I'.low k hk).2) (by rw [hC];exact br (bJ I.wl)) (Z1.trans Z) ⟨hle,by rw [x.al H.length (by rw [hn];exact bB _)];exact Wg⟩
  have:=h.2 (fC scope (zi scope be) H2.objs.size be) A H2.objs.size _ _ tE (gD (ah an w) A E use Q (.ref s.heap.objs.size) H2.objs.size) hr S1 I1 rO.dyn (by rw [hn];exact bJ hk) (by rw [hn];exact bB _) fin
  rwa [Qk,Wg] at this
 refine NL (goal _ rfl ⟨rfl,id⟩) ?_
 have si:=h.1 A H2.objs.size _ _ {s with heap:=rJ,toks:=s.toks+([]:List (Str×aa)).length} (fun NJ s'=>bA (ah an w) A (c (fC scope (zi scope be) H2.objs.size be) NJ (.ref s.heap.objs.size)) (gD (ah an w) A E use Q (.ref s.heap.objs.size) H2.objs.size) s')
  (notedBy (ah an w) A (fC scope (zi scope be) H2.objs.size be) fun x s'=>gD (ah an w) A E use Q (.ref s.heap.objs.size) H2.objs.size (.error x) s') hr I1 (by rw [hn];exact bJ hk)
 rw [Qk] at si
 exact si (goal _ rfl ⟨rfl,id⟩)
end
section
variable {nm:List Str} {ρ:List ci} {H:AH}
theorem Co {A:au} {E:aa→af→Prop} {s:af} {Q:aa→af→Prop} (h:Q (.ref s.heap.objs.size) {s with heap:=s.heap.push {cls:=.type "list",data:=.seq ([]:List aa).toArray}}):ag (ah an w) A (newList []) Q E s :=
 jb h (by decide)
theorem EO (h:Heap) (α:Nat→Addr) (n:Nat):tP (h.push {cls:=.type "list",data:=.seq ([]:List aa).toArray}) α n h.objs.size (.list []):=(tW [] 0 (bj _ rfl) .nil)
theorem uZ {c:Env→aa→aa→Code} {elt db iter:Expr} {ifs:List Expr} {rest:List iA} {scope:aO} {pos:Pos} {nm' : List Str} {sk:List SK} (ok:rO scope nm ρ nm' sk) {R:AV→AH→Prop}
  (hc:c=fun be it pi=>.compLoop (.ListComp elt (⟨db,iter,ifs,0⟩::rest) scope pos) 0 it pi be)
  (hq:∀ {A:au} {it pi:aa} {be:Env},A.under (.compStart (.ListComp elt (⟨db,iter,ifs,0⟩::rest) scope pos) 0 it pi be)=A)
  (h:EX an w am d nm ρ H (fun be=>eval iter be) (fun a H1=>IT an w am d H1 a (fun k H2=>SI an w am d (H2++[.list []]) k∧SL an w am d nm' (sk.map SK.slot) (H2++[.list []]) k H2.length c (fun _ H3=>R (.ref H2.length) H3))))
  (hs:∀ be x,fP iter be x=pure x:=by intro _ _;rfl) :
  EX an w am d nm ρ H (fun be=>eval (.ListComp elt (⟨db,iter,ifs,0⟩::rest) scope pos) be) R:=fun be A L m α s Q E hr S I D kk=>by
 refine (?_:ag _ _ (mi (.ListComp elt (⟨db,iter,ifs,0⟩::rest) scope pos) scope be (mj (⟨db,iter,ifs,0⟩::rest) pos) (newList []) false (eval iter be)) Q E s)
 refine mO (use:=none) rfl (hs be) (ok.closure S) ok.kind ok.locals (h.then hr S I D fun a v rS H1 s1 h1 x1 I1 V1 Z1 S1 D1=>?_)
 refine h1 A L m rS s1 _ E v hr I1 V1 fun r it sP H2 s2 h2 x2 I2 V2 Z2=>?_
 obtain ⟨k,rfl,q⟩:=h2
 refine V2.sO fun _=>?_
 rename_i hk
 refine yD ok (c:=c) Co (fun h α n _=>EO h α n) (fun h0 h'=>?_) q hr (S1.ext x2) I2 hk ?_
 ·subst hc
  exact wU (db:=db) (iter:=iter) (ifs:=ifs) rfl (fun _=>rfl) hq rfl h0 h'
 ·intro fl ρ' C m' dL H' s' r hC x I' hn uG hL Z hl
  have ne:C≠s2.heap.objs.size:=fun e=>uG _ hl.1 (by rw [hl.2,e])
  refine (i12 m' hn (fun h' KB=>?_))
  have hT:∀ vs e,s'.heap.get? C≠some (sv vs e):=fun vs e q=>by
   obtain ⟨o,es,ep,ho,hd,_⟩:=hn
   rw [q] at ho
   obtain rfl:=ay ho
   cases hd
  have I3:=I'.outer (C:=C) (aj (aj I.fr.above (bp (aC I.wl (aj x1.size x2.size)))) hC) hL uG hT KB
  refine kk _ _ dL H' {s' with heap:=h'} r ((x1.trans x2).trans (x.outer hC KB)) I3 ?_ ((Z1.trans Z2).trans (Z.trans ⟨rfl,id⟩))
  rw [← hl.2]
  exact .ref hl.1
end
section
variable {am h:Heap} {L:Addr} {m:Str→Option aa} {α dL : Nat→Addr} {H0 G:AH}
theorem Inv.pick (I:Inv am L m α (H0++G) h) {j:Nat} {o:AO} (hj:(H0++G)[j]?=some o) (hle:H0.length≤j) (l:vz H0.length o) (K:∀ (k:Nat) (o:AO),H0[k]?=some o→vz H0.length o):Inv am L m (put α H0.length (α j)) (H0++[o]) h:=by
 have hl:(H0++[o]).length=H0.length+1:=by simp
 have hn:H0.length≤(H0++G).length:=by simp
 have wo:=(rK hj)
 have same:∀ k < H0.length,put α H0.length (α j) k=α k:=fun k hk=>r8 _ _ (ax hk)
 have EQ:∀ k < H0.length+1,∃ i,i < (H0++G).length∧put α H0.length (α j) k=α i∧(i=k∧k < H0.length∨i=j∧k=H0.length):=fun k hk=>by
  by_cases q:k < H0.length
  ·exact (sN k (aC q hn) (same k q) (.inl ⟨rfl,q⟩))
  ·have:k=H0.length:=lA (lD 1 hk) (lN q)
   subst this
   exact (sN j wo (nn _ _ _) (.inr ⟨rfl,rfl⟩))
 have up:∀ {a:Addr} {ob:AO},tP h α (H0++G).length a ob→vz H0.length ob→tP h (put α H0.length (α j)) (H0.length+1) a ob:=fun {a ob} r lo=>by
  exact r.lowG (bX _) same (fun k hk=>let ⟨i,h1,h2,_⟩:=EQ k hk;(i12 i h1 h2)) lo
 refine ⟨I.fr,fun k hk=>?_,fun i k hi hk e=>?_,fun k ob e=>?_⟩
 ·obtain ⟨i,hi,e,_⟩:=EQ k (hl▸hk)
  rw [e];exact I.low i hi
 ·obtain ⟨a,ha,ea,ca⟩:=EQ i (hl▸hi)
  obtain ⟨b,hb,eb,cb⟩:=EQ k (hl▸hk)
  rw [ea,eb] at e
  have:=I.inj a b ha hb e
  exact ca.elim (fun p=>cb.elim (fun q=>p.1.symm.trans (this.trans q.1)) (fun q=>absurd (p.1.symm.trans (this.trans q.1)) (ax (aC p.2 hle)))) (fun p=>cb.elim (fun q=>absurd (q.1.symm.trans (this.symm.trans p.1)) (ax (aC q.2 hle))) (fun q=>p.2.trans q.2.symm))
 ·rw [hl]
  by_cases q:k < H0.length
  ·rw [aR q] at e
   rw [same k q]
   exact up (I.obj k ob (by rw [aR q];exact e)) (K k ob e)
  ·have hk:k=H0.length:=by have:=(rK e);exact lA (lD 1 (lT this (lE hl))) (lN q)
   subst hk
   rw [aK (ar _)] at e
   simp at e
   subst e
   rw [nn]
   exact up (I.obj j o hj) l
theorem Ext.pick {n n' j k:Nat} {h h' : Heap} (x:Ext L α dL n n' h h') (h1:n≤k) (h2:k≤j) (h3:j < n'):Ext L α (put dL k (dL j)) n (k+1) h h' :=
 ⟨fun i hi=>(r8 _ _ (lL (lT hi h1))).trans (x.al i hi),lR 1 h1,x.size,x.keep,fun i a b=>by
  by_cases q:i=k
  ·subst q;rw [nn];exact x.new j (lT a h2) h3
  ·rw [r8 _ _ q];exact x.new i a (lT b (lT (lU 1 h2) h3))⟩
end
noncomputable def AP (H:AH) (j:Nat) (H' : AH) (R:AH→Nat→Prop):Prop:=∃ H0 G o,H'=H0++G∧uY H H0∧H0.length≤j∧H'[j]?=some o∧vz H0.length o∧R (H0++[o]) H0.length
section
variable {nm:List Str} {ρ:List ci} {H:AH}
theorem AP.use {L:Addr} {m m' : Str→Option aa} {α dL : Nat→Addr} {h h' : Heap} {H' : AH} {j:Nat} {R:AH→Nat→Prop} (p:AP H j H' R) (I:Inv am L m α H h) (I' : Inv am L m' dL H' h') (x:Ext L α dL H.length H'.length h h') :
  ∃ vT AQ k,R AQ k∧k < AQ.length∧vT k=dL j∧Inv am L m' vT AQ h'∧Ext L α vT H.length AQ.length h h'∧∀ k < AQ.length,∃ i,i < H'.length∧vT k=dL i:=by
 obtain ⟨H0,G,o,rfl,K,hle,hj,l,r⟩:=p
 have wo:=(rK hj)
 have hl:(H0++[o]).length=H0.length+1:=by simp
 exact (Kp _ _ _ r (by rw [hl];exact bB _) (nn _ _ _) (I'.pick hj hle l (K.low I)) (hl▸x.pick K.1 hle wo) (fun k hk=>by
  by_cases q:k < H0.length
  ·exact (i12 k (by simp;exact lT q lI) (r8 _ _ (ax q)))
  ·have:k=H0.length:=lA (lD 1 (lT hk (lE hl))) (lN q)
   subst this
   exact (i12 j wo (nn _ _ _))))
theorem EX.pick {T:Env→Sem aa} {R:AV→AH→Prop} (h:EX an w am d nm ρ H T (fun a H'=>∃ j,a=.ref j∧AP H j H' (fun AQ k=>R (.ref k) AQ))):EX an w am d nm ρ H T R:=fun be A L m α s Q E hr S I D k =>
 h be A L m α s Q E hr S I D fun av v dL H' s' r x I' V Z=>by
  obtain ⟨j,rfl,p⟩:=r
  refine V.sO fun _=>?_
  obtain ⟨vT,AQ,i,r,hi,e,Ql,NM,_⟩:=p.use I I' x
  rw [← e]
  exact k _ _ vT AQ s' r NM Ql (.ref hi) Z
theorem FN.pick {f:aa} {args:List AV} {kw:List Str} {R:AV→AH→Prop} (h:FN an w am d f H args kw (fun a H'=>∃ j,a=.ref j∧AP H j H' (fun AQ k=>R (.ref k) AQ))):FN an w am d f H args kw R:=fun A L m α s Q E vs hr I V k =>
 h A L m α s Q E vs hr I V fun av v dL H' s' r x I' V Z=>by
  obtain ⟨j,rfl,p⟩:=r
  refine V.sO fun _=>?_
  obtain ⟨vT,AQ,i,r,hi,e,Ql,NM,_⟩:=p.use I I' x
  rw [← e]
  exact k _ _ vT AQ s' r NM Ql (.ref hi) Z
theorem MG {h:Heap} {C:Addr} {m:Str→Option aa} (hn:h.Ns C m):∀ vs e,h.get? C≠some (sv vs e):=fun vs e q=>by
 obtain ⟨o,es,ep,ho,hd,_⟩:=hn
 rw [q] at ho
 cases ho
 cases hd
theorem wu {c:Env→aa→aa→Code} {i:Nat} {y:Str} {py FQ:Pos} {elt db iter:Expr} {ifs:List Expr} {rest:List iA} {scope:aO} {pos:Pos} {nm' : List Str} {sk:List SK} (hy:nm[i]?=some y) (xv:nm.Nodup) (ok:rO scope nm ρ nm' sk) {R:AF→List ci→AH→Prop}
  (hc:c=fun be it pi=>.compLoop (.ListComp elt (⟨db,iter,ifs,0⟩::rest) scope pos) 0 it pi be)
  (hq:∀ {A:au} {it pi:aa} {be:Env},A.under (.compStart (.ListComp elt (⟨db,iter,ifs,0⟩::rest) scope pos) 0 it pi be)=A)
  {o:Option AV} (KC:ρ[i]?=some (.loc o)) (JN:∀ be:Env,be.scope.kind=.function→be.kindOf y=some .local→dw (.ListComp elt (⟨db,iter,ifs,0⟩::rest) scope pos) (some (.Name y py)) FQ.line be=pure true)
  (h:EX an w am d nm ρ H (fun be=>eval iter be) (fun a H1=>IT an w am d H1 a (fun k H2=>SI an w am d (H2++[.list []]) k∧SL an w am d nm' (sk.map SK.slot) (H2++[.list []]) k H2.length c (fun _ H3=>AP H H2.length H3 (fun H4 j=>R .next (ρ.set i (.loc (some (.ref j)))) H4)))))
  (hs:∀ be x,fP iter be x=pure x:=by intro _ _;rfl) :
  ST an w am d nm ρ H (fun be=>exec (.Assign [.Name y py] (.ListComp elt (⟨db,iter,ifs,0⟩::rest) scope pos) FQ) be) R:=fun be A L m α s Q E hr S I D kk=>by
 have kd:be.kindOf y=some .local:=S.slots i y _ hy KC
 refine (?_:ag _ _ (exec (.Assign [.Name y py] (.ListComp elt (⟨db,iter,ifs,0⟩::rest) scope pos) FQ) be) Q E s)
 rw [exec_Assign_Name_used _ _ _ _ (JN be S.kind kd)]
 refine ab (dq (ab ?_))
 refine (?_:ag _ A (do let _ ← mi (.ListComp elt (⟨db,iter,ifs,0⟩::rest) scope pos) scope be (mj (⟨db,iter,ifs,0⟩::rest) pos) (newList []) false (eval iter be) (some (cL (.Name y py) be))) _ _ s)
 refine ab (dm (mO (Q:=fun _ s'=>Q .next s') (use:=some (cL (.Name y py) be)) rfl (hs be) (ok.closure S) ok.kind ok.locals (h.then hr S I D fun a v rS H1 s1 h1 x1 I1 V1 Z1 S1 D1=>?_))
  (fun _ s' hq=>ai (ai hq)) fun _ _ e=>e)
 refine h1 A L m rS s1 _ E v hr I1 V1 fun r it sP H2 s2 h2 x2 I2 V2 Z2=>?_
 obtain ⟨k,rfl,q⟩:=h2
 refine V2.sO fun _=>?_
 rename_i hk
 refine yD ok (c:=c) Co (fun h α n _=>EO h α n) (fun h0 h'=>?_) q hr (S1.ext x2) I2 hk ?_
 ·subst hc
  exact wU (db:=db) (iter:=iter) (ifs:=ifs) rfl (fun _=>rfl) hq rfl h0 h'
 ·intro fl ρ' C m' dL H' s' r hC x I' hn uG hL Z hl
  have x0:=(x1.trans x2).trans x
  obtain ⟨vT,AQ,j,r,hj,e,Ql,NM,im⟩:=r.use I I' x0
  rw [hl.2] at e
  have C0:s.heap.objs.size≤C:=aj (aj x1.size x2.size) hC
  have Yp : pp s'.heap vT AQ.length (.ref j) (.ref s2.heap.objs.size):=by rw [← e];exact .ref hj
  have Yq:=S.ext NM
  have Yr:=D.ext NM I.kt
  have es:FH ρ AQ i (.ref j)=some (ρ.set i (.loc (some (.ref j))),AQ):=by unfold FH;rw [KC]
  have MH : ∀ k < AQ.length,C≠vT k:=fun k hk=>by
   obtain ⟨i,h1,h2⟩:=im k hk
   rw [h2]
   exact aq (uG i h1)
  refine qh (vy (an:=an) (w:=w) es hy xv Yq Ql Yr Yp fun m3 s3 x3 I3 S3 D3 Z3=>?_)
  have TX:s3.heap.Ns C m':=Heap.Ns.Kz hn fun o ho=>x3.keep C o ho hL MH
  refine (i12 m' TX (fun h' KB=>?_))
  have I4:=I3.outer (C:=C) (aj (aj I.fr.above (bp I.wl)) C0) hL (fun k hk=>aq (MH k hk)) (MG TX) KB
  have D4:vQ m3 h' vT AQ.length nm (ρ.set i (.loc (some (.ref j)))):=D3.ext (xF KB) (MG TX)
  exact kk .next .next _ m3 vT AQ {s3 with heap:=h'} r ((NM.trans x3).outer C0 KB) I4 S3 D4 .next ((((Z1.trans Z2).trans Z).trans Z3).trans ⟨rfl,id⟩)
end
structure SrcAt (an:aD) (w:aw) (am:Heap) (d:Nat) (H:AH) (as:List AV) (t:Expr) (k:Nat) (H2:AH) (G:AH) (C:AH→Prop) (o:Nat→AO):Prop where
 eq:H2=H++G
 le:H.length≤k
 Hn:H2[k]?=some (o 0)
 nx:∀ (i:Nat) (H' : AH) (R:Option AV→AH→Prop),C H'→H'[k]?=some (o i)→(∀ a,as[i]?=some a→R (some a) (H'.set k (o (i+1))))→(as[i]?=none→R none (H'.set k .s9))→NX an w am d H' k R
 self:∀ H' : AH,H'[k]?=some (o 0)→SI an w am d H' k
 Bx:∀ H' : AH,(∀ (j:Nat) (ob:AO),j≠k→H2[j]?=some ob→H'[j]?=some ob)→C H'
 lg:∀ (i:Nat) (H' : AH) (a:AV) (R:AH→Prop),C H'→H'[k]?=some (o i)→a∈as→R H'→LG an w am d H' t k a R
noncomputable def dJ (an:aD) (w:aw) (am:Heap) (d:Nat) (H:AH) (as:List AV) (t:Expr):Nat→AH→Prop:=fun k H2=>∃ G C o,SrcAt an w am d H as t k H2 G C o
section
variable {nm:List Str} {ρ:List ci} {H:AH}
theorem SL.imp {k pi:Nat} {c:Env→aa→aa→Code} {R:List ci→AH→Prop} {ρ:List ci} {H H' : AH} (e:H=H') (h1:SL an w am d nm ρ H' k pi c R):SL an w am d nm ρ H k pi c R:=e▸h1
theorem ER {as:List AV} {db iter elt:Expr} {ifs:List Expr} {scope:aO} {pos:Pos} {k:Nat} {H2 G:AH} {C:AH→Prop} {o:Nat→AO} (S:SrcAt an w am d H as db k H2 G C o) {nm' : List Str} {Sl:List ci} (Cp:AV→List ci) (p:AV→Bool) (g:AV→AV)
  (hz:as.length≤1000000)
  (has:∀ a∈as,∀ (G:AH) sZ,(sZ=Sl∨∃ b,sZ=Cp b)→AS an w am d nm' sZ (H++G) db a (fun wn H1=>wn=Cp a∧H1=H++G))
  (Ho:∀ a∈as,∀ G:AH,EB an w am d nm' (Cp a) (H++G) (zW ifs) (fun b H'=>b=p a∧H'=H++G))
  (KD:∀ a∈as,p a=true→∀ G:AH,EX an w am d nm' (Cp a) (H++G) (fun be=>eval elt be) (fun v H'=>v=g a∧H'=H++G)) :
  SL an w am d nm' Sl (H2++[.list []]) k H2.length (FO elt db iter ifs scope pos) (fun _ H3=>∃ x,H3=H2.set k x++[.list ((as.filter p).map g)]):=by
 have hk:k < H2.length:=(rK S.Hn)
 have shape:∀ x ys,∃ G' : AH,H2.set k x++[AO.list ys]=H++G':=fun x ys=>by
  refine ⟨G.set (k - H.length) x++[AO.list ys],?_⟩
  rw [S.eq,bY _ _ S.le,ak]
 have loop:∀ (n i:Nat) (ys:List AV) (sZ:List ci),as.length - i=n→i≤as.length→(sZ=Sl∨∃ b,sZ=Cp b)→ys=((as.take i).filter p).map g →
   SL an w am d nm' sZ (H2.set k (o i)++[.list ys]) k H2.length (FO elt db iter ifs scope pos) (fun _ H3=>∃ x,H3=H2.set k x++[.list ((as.filter p).map g)]):=by
  intro n
  induction n with
  | zero =>
   intro i ys sZ hn hi KC NN
   refine uC (S.nx i _ _ (S.Bx _ fun j ob hj e=>?_) ?_ (fun a e=>?_) (fun _=>?_))
   ·have wo:=(rK e)
    rw [aR (by simpa using wo),aF (aq hj)];exact e
   ·rw [aR (by simpa using hk),az hk]
   ·have:=(rK e);exact absurd this (fm (jQ hn))
   ·refine ⟨.s9,?_⟩
    have:i=as.length:=VN hn hi
    subst this
    rw [cA _ _ (by simpa using hk),bQ,NN,jE]
  | succ n ih =>
   intro i ys sZ hn hi KC NN
   refine uC (S.nx i _ _ (S.Bx _ fun j ob hj e=>?_) ?_ (fun a e=>?_) (fun e=>?_))
   ·have wo:=(rK e)
    rw [aR (by simpa using wo),aF (aq hj)];exact e
   ·rw [aR (by simpa using hk),az hk]
   ·have ha:a∈as:=bx e
    have Ca : i < as.length:=(rK e)
    rw [cA _ _ (by simpa using hk),bQ]
    have MI:as.take (i+1)=as.take i++[a]:=by rw [ju,e];rfl
    refine S.lg (i+1) _ a _ (S.Bx _ fun j ob hj e=>?_) ?_ ha ?_
    ·have wo:=(rK e)
     rw [aR (by simpa using wo),aF (aq hj)];exact e
    ·rw [aR (by simpa using hk),az hk]
    ·obtain ⟨G',eG⟩:=shape (o (i+1)) ys
     rw [eG]
     intro be A L m α s Q E v hr S' I D V kk
     refine has a ha G' sZ KC be A L m α s Q E v hr S' I D V fun wn m' dL H' s' r=>?_
     obtain ⟨rfl,rfl⟩:=r
     refine kk _ m' dL _ s' ((Ho a ha G').mono ?_)
     rintro b H1 ⟨rfl,rfl⟩
     by_cases hp:p a=true
     ·refine tX hp ?_
      refine (KD a ha hp G').mono ?_
      rintro v' H1 ⟨rfl,rfl⟩
      refine (sN ys ?_ ?_ ?_)
      ·rw [← eG,aK (by simp)];simp
      ·rw [NN,aM]
       refine aj (nJ _ _) ?_
       rw [dO];exact aj (jT _ _) hz
      ·refine SL.imp (H':=H2.set k (o (i+1))++[.list (ys++[g a])]) ?_ (ih (i+1) _ _ (TD hn hi Ca) (Ca) (.inr ⟨a,rfl⟩) ?_)
       ·rw [← eG,bY _ _ (by simp)];simp
       ·rw [MI,oQ,dF,← NN,oJ,if_pos hp];rfl
     ·refine so hp ?_
      refine SL.imp (H':=H2.set k (o (i+1))++[.list ys]) eG.symm (ih (i+1) _ _ (TD hn hi Ca) (Ca) (.inr ⟨a,rfl⟩) ?_)
      rw [MI,oQ,oJ,if_neg hp,List.filter_nil,cO]
      exact NN
   ·have:=bM.mp e;exact VO hn hi this
 have e0:H2.set k (o 0)=H2:=by
  obtain ⟨h,e⟩:=cQ.mp S.Hn
  rw [← e]
  exact lh h
 have:=loop as.length 0 [] Sl rfl lZ (.inl rfl) rfl
 rwa [e0] at this
end
theorem vC {n:Nat}:∀ {l:List AV},(∀ a∈l,xf n a=true)→uL n l=true:=by
 intro v_
 induction v_ with
 | nil =>
  intro _
  exact rfl
 | cons a r sg =>
  intro h
  rw [EI,h a aZ,sg fun b hb=>h b (ba _ hb)];rfl
theorem SrcAt.picks {H:AH} {as:List AV} {db:Expr} {k:Nat} {H2 G:AH} {C:AH→Prop} {o:Nat→AO} (S:SrcAt an w am d H as db k H2 G C o) {x:AO} {ys:List AV} {R:AH→Nat→Prop}
  (hl:∀ a∈ys,xf H.length a=true) (r:R (H++[.list ys]) H.length):AP H H2.length (H2.set k x++[.list ys]) R:=by
 refine (Kp H (G.set (k - H.length) x++[.list ys]) (.list ys) ?_ (uY.refl H) ?_ ?_ (vC hl) r)
 ·rw [S.eq,bY _ _ S.le,ak]
 ·rw [S.eq];simp
 ·rw [aK (by simp)];simp
section
variable {nm:List Str} {ρ:List ci} {H:AH}
theorem uP {as:List AV} {db iter elt:Expr} {ifs:List Expr} {scope:aO} {pos:Pos} {R:AV→AH→Prop} (nm' : List Str) (sk:List SK) (Cp:AV→List ci) (p:AV→Bool) (g:AV→AV) (ok:rO scope nm ρ nm' sk)
  (hit:EX an w am d nm ρ H (fun be=>eval iter be) (fun a H1=>IT an w am d H1 a (dJ an w am d H as db)))
  (hz:as.length≤1000000)
  (has:∀ a∈as,∀ (G:AH) sZ,(sZ=sk.map SK.slot∨∃ b,sZ=Cp b)→AS an w am d nm' sZ (H++G) db a (fun wn H1=>wn=Cp a∧H1=H++G))
  (Ho:∀ a∈as,∀ G:AH,EB an w am d nm' (Cp a) (H++G) (zW ifs) (fun b H'=>b=p a∧H'=H++G))
  (KD:∀ a∈as,p a=true→∀ G:AH,EX an w am d nm' (Cp a) (H++G) (fun be=>eval elt be) (fun v H'=>v=g a∧H'=H++G))
  (hl:∀ a∈as,p a=true→xf H.length (g a)=true)
  (r:R (.ref H.length) (H++[.list ((as.filter p).map g)]))
  (hs:∀ be x,fP iter be x=pure x:=by intro _ _;rfl) :
  EX an w am d nm ρ H (fun be=>eval (.ListComp elt [⟨db,iter,ifs,0⟩] scope pos) be) R:=by
 refine EX.pick (uZ ok (c:=FO elt db iter ifs scope pos) rfl rfl (hit.mono fun a H1 h1 A L m α s Q E v hr I V kk=>h1 A L m α s Q E v hr I V fun r it dL H' s' h2=>?_) hs)
 refine kk r it dL H' s' ?_
 obtain ⟨k,rfl,G,C,o,S⟩:=h2
 have hk:k < H'.length:=(rK S.Hn)
 refine (sN k rfl (S.self _ (by rw [aR hk];exact S.Hn)) ((ER S Cp p g hz has Ho KD).mono ?_))
 rintro ρ' H3 ⟨x,rfl⟩
 refine (i12 _ rfl (S.picks (fun a ha=>?_) r))
 obtain ⟨b,hb,rfl⟩:=aE.mp ha
 exact hl b (dE.mp hb).1 (dE.mp hb).2
theorem By {i:Nat} {y:Str} {py FQ:Pos} {ov:Option AV} {as:List AV} {db iter elt:Expr} {ifs:List Expr} {scope:aO} {pos:Pos} {R:AF→List ci→AH→Prop} (nm' : List Str) (sk:List SK) (Cp:AV→List ci) (p:AV→Bool) (g:AV→AV)
  (hy:nm[i]?=some y) (xv:nm.Nodup) (KC:ρ[i]?=some (.loc ov)) (JN:∀ be:Env,be.scope.kind=.function→be.kindOf y=some .local→dw (.ListComp elt [⟨db,iter,ifs,0⟩] scope pos) (some (.Name y py)) FQ.line be=pure true) (ok:rO scope nm ρ nm' sk)
  (hit:EX an w am d nm ρ H (fun be=>eval iter be) (fun a H1=>IT an w am d H1 a (dJ an w am d H as db)))
  (hz:as.length≤1000000)
  (has:∀ a∈as,∀ (G:AH) sZ,(sZ=sk.map SK.slot∨∃ b,sZ=Cp b)→AS an w am d nm' sZ (H++G) db a (fun wn H1=>wn=Cp a∧H1=H++G))
  (Ho:∀ a∈as,∀ G:AH,EB an w am d nm' (Cp a) (H++G) (zW ifs) (fun b H'=>b=p a∧H'=H++G))
  (KD:∀ a∈as,p a=true→∀ G:AH,EX an w am d nm' (Cp a) (H++G) (fun be=>eval elt be) (fun v H'=>v=g a∧H'=H++G))
  (hl:∀ a∈as,p a=true→xf H.length (g a)=true)
  (r:R .next (ρ.set i (.loc (some (.ref H.length)))) (H++[.list ((as.filter p).map g)]))
  (hs:∀ be x,fP iter be x=pure x:=by intro _ _;rfl) :
  ST an w am d nm ρ H (fun be=>exec (.Assign [.Name y py] (.ListComp elt [⟨db,iter,ifs,0⟩] scope pos) FQ) be) R:=by
 refine wu hy xv ok (c:=FO elt db iter ifs scope pos) rfl rfl KC JN (hit.mono fun a H1 h1 A L m α s Q E v hr I V kk=>h1 A L m α s Q E v hr I V fun r it dL H' s' h2=>?_) hs
 refine kk r it dL H' s' ?_
 obtain ⟨k,rfl,G,C,o,S⟩:=h2
 have hk:k < H'.length:=(rK S.Hn)
 refine (sN k rfl (S.self _ (by rw [aR hk];exact S.Hn)) ((ER S Cp p g hz has Ho KD).mono ?_))
 rintro ρ' H3 ⟨x,rfl⟩
 refine S.picks (fun a ha=>?_) r
 obtain ⟨b,hb,rfl⟩:=aE.mp ha
 exact hl b (dE.mp hb).1 (dE.mp hb).2
theorem t9 {l:Nat} {xs:List AV} {t:Expr} {x:Str} {p:Pos} (hl:H[l]?=some (.list xs)) (ht:t=.Name x p):IT an w am d H (.ref l) (dJ an w am d H xs t):=by
 have ui:=(rK hl)
 refine vX hl (Ko [.iter l 0] (fun H'=>H'[l]?=some (.list xs)) (fun i=>.iter l i) ⟨rfl,ar _,by simp,fun i H' R hC hk h1 h2=>tK hk hC h1 h2,fun H' hk=>wV hk,fun H' h=>h l _ (ax ui) (by rw [aR ui];exact hl),fun i H' a R hC hk ha r=>?_⟩)
 subst ht
 exact uy r
theorem vY {l:Nat} {xs:List AV} {t:Expr} {es:List Expr} {j:Nat} {p:Pos} (hl:H[l]?=some (.list xs)) (ht:t=.Tuple es j p) (hx:∀ a∈xs,∃ vs,a=.tup vs):IT an w am d H (.ref l) (dJ an w am d H xs t):=by
 have ui:=(rK hl)
 refine vX hl (Ko [.iter l 0] (fun H'=>H'[l]?=some (.list xs)) (fun i=>.iter l i) ⟨rfl,ar _,by simp,fun i H' R hC hk h1 h2=>tK hk hC h1 h2,fun H' hk=>wV hk,fun H' h=>h l _ (ax ui) (by rw [aR ui];exact hl),fun i H' a R hC hk ha r=>?_⟩)
 subst ht
 obtain ⟨vs,rfl⟩:=hx a ha
 exact Ky hk r
end
theorem yE {M:dv} {Γ:Ctx} {p:Pos} {t:Sem PySem.Fin} {fs:List Frame} {s s' : af} {e:End} (h:Runs M Γ p t fs s e s'):s.heap.objs.size≤s'.heap.objs.size:=by
 induction h <;> (try simp only [af.setGen,cF,fp] at *) <;> first | assumption | exact ar _ | exact lT Ys TY | lia
theorem Bz {M:dv} {Γ:Ctx} {p:Pos} {s s' : af} {r:dR} (h:Returns M Γ p s r s'):s.heap.objs.size≤s'.heap.objs.size:=yE h
theorem DH {M:dv} {Γ:Ctx} {p:Pos} {g:Nat} {r:Resume} {s s' : af} {res:GenResult} (h:Wakes M Γ p g r s res s'):s.heap.objs.size≤s'.heap.objs.size:=by
 unfold Wakes at h
 split at h
 ·exact h.elim
 ·split at h
  ·obtain ⟨TZ,tE,hr,_,_,rfl⟩:=h;exact (yE hr:(s.setGen g .running).heap.objs.size≤tE.heap.objs.size)
  ·rw [h.2];exact ar _
  ·rw [h.2];exact ar _
 ·obtain ⟨TZ,tE,hr,_,_,rfl⟩:=h;exact (yE hr:(s.setGen g .running).heap.objs.size≤tE.heap.objs.size)
 ·rw [h.2];exact ar _
 ·rw [h.2];exact ar _
theorem KE {α:Type} (M:dv) (Γ:Ctx) (n:Nat) (t:Sem α):∀ (Q:α→Pos→af→Prop) (E:aa→Pos→af→Prop) (p:Pos) (s:af),n≤s.heap.objs.size→fF M Γ t Q E p s →
  fF M Γ t (fun a p' s'=>n≤s'.heap.objs.size∧Q a p' s') (fun e p' s'=>n≤s'.heap.objs.size∧E e p' s') p s:=by
 induction t with
 | pure a=>intro Q E p s hn h;exact ⟨hn,h⟩
 | raise e=>intro Q E p s hn h;exact ⟨hn,h⟩
 | unsupported _=>intro Q E p s _ h;exact h
 | finish _=>intro Q E p s _ h;exact h
 | rule _ k ih=>intro Q E p s hn h;exact ih () Q E p s hn h
 | «at» p' k ih=>intro Q E p s hn h;exact ih () Q E p' s hn h
 | load a _ k ih=>intro Q E p s hn h;obtain ⟨o,ho,h⟩:=h;exact (i12 o ho (ih o Q E p s hn h))
 | update a _ f k ih=>intro Q E p s hn h;exact ⟨h.1,ih () Q E p _ (by simpa using hn) h.2⟩
 | loadIfAlive a k ih=>intro Q E p s hn h;exact ih _ Q E p s hn h
 | point _ k ih=>intro Q E p s hn h;exact ih () Q E p s hn h
 | register _ _=>intro Q E p s _ h;exact h
 | alloc o k ih=>intro Q E p s hn h;exact ih _ Q E p _ (by simp only [cF];exact lR 1 hn) h
 | fresh k ih=>intro Q E p s hn h;exact ih _ Q E p _ hn h
 | ask k ih=>intro Q E p s hn h;exact ih _ Q E p s hn h
 | choose src m k ih=>intro Q E p s hn h;exact ⟨h.1,ih _ Q E p _ hn h.2⟩
 | os q _ k ih=>intro Q E p s hn h;exact ih _ Q E p _ hn h
 | call c hd _ _ k ih=>intro Q E p s hn h;obtain ⟨r,s',hr,h⟩:=h;exact (tW r s' hr (ih r Q E p s' (aj hn (Bz hr)) h))
 | handled own k ih=>intro Q E p s hn h;exact ih _ Q E p s hn h
 | genState g k ih=>intro Q E p s hn h;obtain ⟨st,hs,h⟩:=h;exact (i12 st hs (ih _ Q E p s hn h))
 | newGen c k ih=>intro Q E p s hn h;exact ih _ Q E p _ hn h
 | resume g r _ k ih=>intro Q E p s hn h;obtain ⟨res,s',hw,h⟩:=h;exact (tW res s' hw (ih res Q E p s' (aj hn (DH hw)) h))
 | yield _ _ _ _=>intro Q E p s _ h;exact h
 | stack k ih=>intro Q E p s hn h;exact ih _ Q E p s hn h
 | fork _ _=>intro Q E p s _ h;exact h
 | thread k ih=>intro Q E p s hn h;exact ih _ Q E p s hn h
 | await _ _ _ _ _=>intro Q E p s _ h;exact h
theorem sC {α:Type} {M:dv} {A:au} {s:af} {t:Sem α} {Q:α→af→Prop} {E:aa→af→Prop}
  (h:ag M A t (fun a s'=>s.heap.objs.size≤s'.heap.objs.size→Q a s') (fun e s'=>s.heap.objs.size≤s'.heap.objs.size→E e s') s):ag M A t Q E s:=by
 have key:ag M A t (fun a s'=>s.heap.objs.size≤s'.heap.objs.size∧(s.heap.objs.size≤s'.heap.objs.size→Q a s')) (fun e s'=>s.heap.objs.size≤s'.heap.objs.size∧(s.heap.objs.size≤s'.heap.objs.size→E e s')) s :=
  fun Γ p Sm=>KE M Γ s.heap.objs.size t _ _ p s (ar _) (h Γ p Sm)
 exact dm key (fun _ _ x=>x.2 x.1) (fun _ _ x=>x.2 x.1)
section
variable {am h h' : Heap} {L:Addr} {m:Str→Option aa} {α:Nat→Addr} {H:AH}
theorem Inv.BA (I:Inv am L m α H h) {k:Nat} {ao:AO} (hk:k < H.length) (s:du (α k) h h') (r:tP h' α H.length (α k) ao):Ext L α α H.length (H.set k ao).length h h'∧Inv am L m α (H.set k ao) h':=by
 have mo:(H.set k ao).length=H.length:=aP
 exact ⟨mo.symm▸vc I hk s,I.upd hk s r⟩
theorem Inv.Hp (I:Inv am L m α H h) {k:Nat} (hk:k < H.length) (hb:eX (α k) h h') (hz:h.objs.size≤h'.objs.size):Ext L α α H.length (H.set k .s9).length h h'∧Inv am L m α (H.set k .s9) h':=by
 have xt:Ext L α α H.length H.length h h':=⟨fun _ _=>rfl,ar _,hz,fun b o e _ uw=>hb b o (uw k hk) e,fun _ a b=>absurd b (bG.mpr a)⟩
 have mo:(H.set k AO.s9).length=H.length:=aP
 refine ⟨mo.symm▸xt,?_,fun i hi=>I.low i (mo▸hi),fun i j hi hj=>I.inj i j (mo▸hi) (mo▸hj),fun j o e=>?_⟩
 ·exact ⟨I.fr.ns.extBut hb (aq (I.low k hk).2),fun b o e=>hb b o (ne_old (I.low k hk).1 e) (I.fr.keep b o e),I.fr.above⟩
 ·rw [mo]
  by_cases q:j=k
  ·subst q
   rw [az hk] at e
   cases e
   exact aC (I.lt hk) hz
  ·rw [aF (aq q)] at e
   exact (I.obj j o e).ext xt I.kt fun ob g=>hb _ _ (fun z=>q (I.inj j k (rK e) hk z)) g
theorem Inv.vf (I:Inv am L m α H h) (hk:∀ b o,h.get? b=some o→h'.get? b=some o) (hs:h.objs.size≤h'.objs.size):Ext L α α H.length H.length h h'∧Inv am L m α H h':=by
 have x0:Ext L α α H.length H.length h h':=⟨fun _ _=>rfl,ar _,hs,fun b o e _ _=>hk b o e,fun _ a b=>absurd b (bG.mpr a)⟩
 exact ⟨x0,⟨I.fr.ns.keeps hk,fun b o e=>hk b o (I.fr.keep b o e),I.fr.above⟩,I.low,I.inj,fun i oo e=>(I.obj i oo e).ext x0 I.kt fun ob q=>hk _ _ q⟩
end
noncomputable def wg (l i n ep:Nat):AO:=.raw (l+1) fun α o=>o.cls=.type "dict_keyiterator"∧o.data=.fields #[.ref (α l),.int i 0,.int n 0,.int ep 0]
noncomputable def uQ (l i n ep:Nat):AO:=.raw (l+1) fun α o=>o.cls=.type "dict_valueiterator"∧o.data=.fields #[.ref (α l),.int i 0,.int n 0,.int ep 0]
noncomputable def ug (l:Nat):AO:=.raw (l+1) fun α o=>o.cls=.type "dict_values"∧o.data=.fields #[.ref (α l)]
noncomputable def BC (x:List Nat) (i:Nat):AO:=.raw 0 fun _ o=>∃ t,o.cls=.type "str_ascii_iterator"∧o.data=.fields #[.str ⟨x.toArray⟩ t,.int i 0]
noncomputable def Sn (es:List (List Nat×Int)) (kvs:List (Str×aa)):Prop:=kvs.length=es.length∧∀ (i:Nat) (k:List Nat) (v:Int),es[i]?=some (k,v)→∃ t,kvs[i]?=some (⟨k.toArray⟩,.int v t)
noncomputable def T0 (an:aD) (w:aw) (es:List (List Nat×Int)) (ep:Nat) (o:Obj):Prop :=
 ∃ kvs,Sn es kvs∧∃ ents,o.ExactDict∧o.data=.dict ents ep∧KeysOf (cJ an w) ents∧Pairs (cJ an w) ents.toList kvs∧(kvs.map (·.1)).Nodup
noncomputable def sa (an:aD) (w:aw) (es:List (List Nat×Int)) (ep:Nat):AO:=.raw 0 fun _ o=>T0 an w es ep o
theorem Hq {p:(Nat→Addr)→Obj→Prop} {b n:Nat} {h:Heap} {α:Nat→Addr} {a:Addr} {o:Obj} (hb:b≤n) (e:∀ dL,(∀ k < b,dL k=α k)→p dL=p α) (g:h.get? a=some o) (z:p α o):tP h α n a (.raw b p):=(sS hb e (i12 o g z))
section
variable {nm:List Str} {ρ:List ci} {H:AH}
theorem Inv.dictAt {L:Addr} {m:Str→Option aa} {α:Nat→Addr} {h:Heap} (I:Inv am L m α H h) {k:Nat} {es:List (List Nat×Int)} {ep:Nat} (e:H[k]?=some (sa an w es ep)):∃ kvs,Sn es kvs∧h.DictAt (cJ an w) (α k) kvs ep:=by
 obtain ⟨_,_,o,g,kvs,hv,ents,a,b,c,d,f⟩:=I.obj k _ e
 exact (i12 kvs hv (Pc o ents g a b c d f))
theorem Hr {L:Addr} {m:Str→Option aa} {α:Nat→Addr} {h:Heap} (I:Inv am L m α H h) {k:Nat} (hk:k < H.length) (h0:∃ o,am.get? gi=some o):(α k == gi)=false:=by
 obtain ⟨o,ho⟩:=h0
 have h2:α k≠gi:=aq (ne_old (I.low k hk).1 ho)
 simpa using h2
theorem ES {l:Nat} {es:List (List Nat×Int)} {ep:Nat} {R:Nat→AH→Prop} (h0:∃ o,am.get? gi=some o) (hl:H[l]?=some (sa an w es ep)) (r:R H.length (H++[wg l 0 es.length ep])):IT an w am d H (.ref l) R:=by
 intro A L m α s Q E v hr I V k
 refine V.sO fun _=>?_
 rename_i ui
 obtain ⟨kvs,hv,D⟩:=I.dictAt hl
 refine wpAny_pyIter_dict (Hr I ui h0) D ?_
 rw [hv.1]
 obtain ⟨x,I',V'⟩:=I.ux (b:=l+1) (p:=fun α o=>o.cls=.type "dict_keyiterator"∧o.data=.fields #[.ref (α l),.int 0 0,.int es.length 0,.int ep 0]) (o:={cls:=.type "dict_keyiterator",data:=.fields #[.ref (α l),.int 0 0,.int es.length 0,.int ep 0]})
  ui (fun α dL h=>by funext o;simp only [h l (bB _)]) ⟨rfl,rfl⟩ (fun o z=>by obtain ⟨c,dd,dt,sl⟩:=o;obtain ⟨_,z⟩:=z;cases z;rfl)
 exact k _ _ _ _ {s with heap:=_} (i12 _ rfl r) x I' V' ⟨rfl,id⟩
set_option tactic.hygienic true in
theorem BD {k l i n ep:Nat} {es:List (List Nat×Int)} {R:Option AV→AH→Prop} (hn:n=es.length) (hk:H[k]?=some (wg l i n ep)) (hl:H[l]?=some (sa an w es ep)) (h1:∀ x v,es[i]?=some (x,v)→R (some (.str x)) (H.set k (wg l (i+1) n ep))) (h2:es[i]?=none→R none (H.set k .s9)):NX an w am d H k R:=by
 intro A L m α s Q E hr I sj c
 subst hn
 obtain ⟨kvs,hv,D⟩:=I.dictAt hl
 obtain ⟨hb,_,o,g,hc,hd⟩:=I.obj k _ hk
 have ui:=(rK hl)
 have hit:s.heap.IsKeyIter (α k) (α l) i kvs.length ep:=(sN o g hc (by rw [hv.1];exact hd))
 cases hx:es[i]? with
 | some p =>
  obtain ⟨x,v⟩:=p
  obtain ⟨t,ht⟩:=hv.2 i x v hx
  refine wpAny_pyNext_dict_item hit D ht fun key h' KF hi hs=>?_
  obtain ⟨o',g',NO,JM⟩:=hi
  obtain ⟨xt,I'⟩:=I.BA (ao:=wg l (i+1) es.length ep) sj hs (sS hb (fun dL h=>by funext o;simp only [h l (bB _)]) (sN o' g' NO (by rw [JM,hv.1])))
  refine c _ _ α _ {s with heap:=h'} (h1 x v hx) xt I' (.some ?_) ⟨rfl,id⟩
  unfold cJ at KF
  simp only at KF
  cases key <;> simp [qA] at KF
  rename_i y t'
  subst KF
  exact .str x t'
 | none =>
  refine sC (wpAny_pyNext_dict_end hr.handled hit D (by have:=bM.mp hx;rw [bM,hv.1];exact this) fun h' he hz=>?_)
  obtain ⟨xt,I'⟩:=I.Hp sj he hz
  exact c none none α _ {s with heap:=h'} (h2 hx) xt I' .none ⟨rfl,id⟩
theorem ET {k l i n ep:Nat} (hk:H[k]?=some (wg l i n ep)):SI an w am d H k:=fun A L m α s Q E hr I sj q=>by
 obtain ⟨hb,_,o,g,hc,hd⟩:=I.obj k _ hk
 exact wpAny_pyIter_keyiter (sN o g hc hd) q
theorem y7 {l:Nat} {es:List (List Nat×Int)} {ep:Nat} {t:Expr} {x:Str} {p:Pos} (h0:∃ o,am.get? gi=some o) (hl:H[l]?=some (sa an w es ep)) (ht:t=.Name x p):IT an w am d H (.ref l) (dJ an w am d H (es.map fun e=>.str e.1) t):=by
 have ui:=(rK hl)
 refine ES h0 hl (Ko [wg l 0 es.length ep] (fun H'=>H'[l]?=some (sa an w es ep)) (fun i=>wg l i es.length ep) ⟨rfl,ar _,by simp,fun i H' R hC hk h1 h2=>BD rfl hk hC (fun x v e=>h1 _ (by rw [bu,e];rfl)) (fun e=>h2 (by rw [bu,e];rfl)),fun H' hk=>ET hk,fun H' h=>h l _ (ax ui) (by rw [aR ui];exact hl),fun i H' a R hC hk ha r=>?_⟩)
 subst ht
 exact uy r
end
noncomputable def ul (l:List Int):Int:=l.foldl (·+·) 0
theorem Cq (l:List Int) (val:Nat→Int) (h:∀ i v,l[i]?=some v→val i=v):∀ n,n≤l.length→preSum val n=ul (l.take n):=by
 intro v_
 induction v_ with
 | zero =>
  intro _
  exact rfl
 | succ n sg =>
  intro hn
  rw [preSum,sg (lD 1 (lR 1 hn))]
  have e:l[n]?=some (l[n]'hn):=aQ _
  rw [h n _ e,ju,e]
  unfold ul
  rw [mv]
  rfl
theorem zX (l:List Int) (val:Nat→Int) (h:∀ i v,l[i]?=some v→val i=v) {n:Nat} (hn:n=l.length):preSum val n=ul l:=by
 rw [Cq l val h n (lE hn),hn,jE]
section
variable {nm:List Str} {ρ:List ci} {H:AH} {R:AV→AH→Prop}
theorem yF {i:Int} (r:R (.int (-i)) H):FG an w am d H (.int i) (unaryOp .USub) R:=by
 intro A L m α s Q E v hr I V k
 refine V.tI fun _=>?_
 exact PyProof.Rows.neg_int (k _ _ α _ _ r Ext.refl I (.int _ _) ⟨rfl,id⟩)
theorem um {l:List Nat} (hz:l.length≤1000000) (r:R (.int l.length) H):FN an w am d (.builtin "len") H [.str l] [] R:=by
 intro A L m α s Q E vs hr I V c
 refine V.se fun _ _ b V=>?_
 refine V.t0 ?_
 refine b.ub fun _=>?_
 rename_i t
 refine call_len_gives (m8 s _ t) F.slot_str_len F.entry_str_len (F.args_str_len_1 _) (gives_str_len _ t) (nE _) (by simp [di];lia) ?_
 have:((⟨l.toArray⟩ : Str).length:Int)=l.length:=by simp [di]
 rw [this]
 exact c (.int l.length) _ α _ _ r Ext.refl I (.int _ _) ⟨rfl,id⟩
theorem yG {l:Nat} {es:List (List Nat×Int)} {ep:Nat} (h0:∃ o,am.get? gi=some o) (hl:H[l]?=some (sa an w es ep)) (r:R (.ref H.length) (H++[ug l])):FN an w am d (.builtin "dict.values") H [.ref l] [] R:=by
 intro A L m α s Q E vs hr I V c
 refine V.se fun _ _ b V=>?_
 refine V.t0 ?_
 refine b.sO fun _=>?_
 rename_i ui
 obtain ⟨kvs,hv,D⟩:=I.dictAt hl
 refine call_meetsIn jA D.dictOf.typeIs F.entry_dict_values (F.args_dict_values_1 _) (meets_dict_values (cJ an w) (α l) (Hr I ui h0)) ⟨⟨kvs,D.dictOf⟩,?_⟩
 obtain ⟨x,I',V'⟩:=I.ux (b:=l+1) (p:=fun α o=>o.cls=.type "dict_values"∧o.data=.fields #[.ref (α l)]) (o:={cls:=.type "dict_values",data:=.fields #[.ref (α l)]})
  ui (fun α dL h=>by funext o;simp only [h l (bB _)]) ⟨rfl,rfl⟩ (fun o z=>by obtain ⟨c,dd,dt,sl⟩:=o;obtain ⟨_,z⟩:=z;cases z;rfl)
 exact c _ _ _ _ {s with heap:=_} r x I' V' ⟨rfl,id⟩
theorem BE {name:Str} {id:String} {k:Nat} {es:List (List Nat×Int)} {ep:Nat} (slot:Slot "dict" name id) (TM:typeOf (.builtin id)=pure (.type "method_descriptor")) (hk:H[k]?=some (sa an w es ep)) :
  ∀ (A:au) (L:Addr) (m:Str→Option aa) (α:Nat→Addr) (s:af) (v:aa) (pl:Sem Bool) (Q:aa×List aa→af→Prop) (E:aa→af→Prop),Inv am L m α H s.heap→pp s.heap α H.length (.ref k) v→Q (.builtin id,[v]) s→ag (ah an w) A (dT v name pl) Q E s:=by
 intro A L m α s v pl Q E I V hq
 cases V
 obtain ⟨kvs,hv,D⟩:=I.dictAt hk
 exact pF D.dictOf.typeIs F.plainAttrs_dict slot TM (fun a e=>by cases e;exact D.dictOf.mapOf.noDict _ rfl) hq
theorem xm {v l:Nat} {es:List (List Nat×Int)} {ep:Nat} (hv:H[v]?=some (ug l)) (hl:H[l]?=some (sa an w es ep)) (r:R (.int (ul (es.map (·.2)))) H):FN an w am d (.builtin "sum") H [.ref v] [] R:=by
 intro A L m α s Q E vs hr I V c
 refine V.se fun _ _ b V=>?_
 refine V.t0 ?_
 refine b.sO fun _=>?_
 obtain ⟨kvs,BF,D⟩:=I.dictAt hl
 obtain ⟨hb,_,o,g,hc,hd⟩:=I.obj v _ hv
 have ui:=I.lt (rK hl)
 refine sC (call_sum_walkG (qq ⟨o,g,hc,hd⟩ D ?_))
 have val:∀ (i:Nat) (u:aa),(∃ k:Str,kvs[i]?=some (k,u))→∃ t,u=.int (((es.map (·.2))[i]?).getD 0) t:=fun i u ⟨k,e⟩=>by
  have hi:i < es.length:=by have:=(rK e);have:=BF.1;lia
  obtain ⟨⟨x,n⟩,hx⟩ : ∃ p,es[i]?=some p:=⟨_,aQ hi⟩
  obtain ⟨t,ht⟩:=BF.2 i x n hx
  rw [ht] at e
  cases e
  exact ⟨t,by rw [bu,hx];rfl⟩
 refine ⟨s.heap.objs.size,[s.heap.objs.size,α l],[s.heap.objs.size],kvs.length,_,_,fun i=>((es.map (·.2))[i]?).getD 0,rfl,Walks.dictValues (A:=A.in1) hr.handled _ (α l) (ax ui) kvs ep,⟨⟨_,bj _ rfl,rfl,rfl⟩,D.push _⟩,?_,val,?_⟩
 ·intro b hb
  refine (?_:b < (s.heap.push _).objs.size)
  rw [cF]
  rcases aA.mp hb with rfl | hb
  ·exact bB _
  ·rw [aU.mp hb];exact bJ ui
 ·intro h' tk t' hk hz
  have keep:∀ b o,s.heap.get? b=some o→h'.get? b=some o:=fun b o e=>hk b o (by simp only [aU];exact ax (aH e)) (bT _ e)
  obtain ⟨x,I'⟩:=I.vf keep hz
  rw [zX (es.map (·.2)) _ (fun i v e=>by simp only [e];rfl) (by rw [aM];exact BF.1)]
  exact c _ _ α _ {s with heap:=h',toks:=tk} r x I' (.int _ t') ⟨rfl,id⟩
theorem KG {value slice:Expr} {pos:Pos} (h:EX an w am d nm ρ H (fun be=>eval value be) (fun a H1=>EX an w am d nm ρ H1 (fun be=>eval slice be) (fun i H2=>∃ (l:Nat) (es:List (List Nat×Int)) (ep:Nat) (x:List Nat) (v:Int) (j:Nat),a=.ref l∧i=.str x∧H2[l]?=some (sa an w es ep)∧es[j]?=some (x,v)∧R (.int v) H2)))
  (hs:∀ o i,∃ ops,gc slice false o i=gC ops (fz o i):=by intro _ _;with_unfolding_all exact ⟨_,rfl⟩) :
  EX an w am d nm ρ H (fun be=>eval (.Subscript value slice pos) be) R:=fun be A L m α s Q E hr S I D k=>by
 refine hY (h.then hr S I D fun a v rS H1 s1 h1 x1 I1 V1 Z1 S1 D1=>?_)
 refine h1.then hr S1 I1 D1 fun b u sP H2 s2 h2 x2 I2 V2 Z2 S2 D2=>?_
 obtain ⟨l,es,ep,x,n,j,rfl,rfl,hl,hj,r⟩:=h2
 have He:=V1.ext x2 I1.kt
 refine He.sO fun _=>?_
 refine V2.ub fun _=>?_
 rename_i t
 obtain ⟨kvs,BF,D⟩:=I2.dictAt hl
 obtain ⟨ops,hs⟩:=hs (.ref (sP l)) (.str ⟨x.toArray⟩ t)
 obtain ⟨t',Yt⟩:=BF.2 j x n hj
 refine fJ D.dictOf.typeIs slot_dict_getitem.lookup (wpAny_getItem_of (strKind_is an w _ t) D.dictOf.mapOf (valueAt_of_get D.nodup Yt) ?_) hs
 exact k _ _ sP _ _ r (x1.trans x2) I2 (.int _ _) ((Z1.trans Z2).trans ⟨rfl,id⟩)
theorem NP {x:List Nat} {R:Nat→AH→Prop} (hx:x.all (· < 128)=true) (r:R H.length (H++[BC x 0])):IT an w am d H (.str x) R:=by
 intro A L m α s Q E v hr I V k
 refine V.ub fun _=>?_
 rename_i t
 refine wpAny_pyIter_ascii (by simpa using hx) ?_
 obtain ⟨xt,I',V'⟩:=I.ux (b:=0) (p:=fun _ o=>∃ t,o.cls=.type "str_ascii_iterator"∧o.data=.fields #[.str ⟨x.toArray⟩ t,.int 0 0]) (o:={cls:=.type "str_ascii_iterator",data:=.fields #[.str ⟨x.toArray⟩ t,.int 0 0]})
  (bK _) (fun _ _ _=>rfl) (i12 t rfl rfl) (fun o z=>by obtain ⟨c,dd,dt,sl⟩:=o;obtain ⟨_,_,z⟩:=z;cases z;rfl)
 exact k _ _ _ _ {s with heap:=_} (i12 _ rfl r) xt I' V' ⟨rfl,id⟩
theorem Hs {k i:Nat} {x:List Nat} {R:Option AV→AH→Prop} (hk:H[k]?=some (BC x i)) (h1:∀ c,x[i]?=some c→R (some (.str [c])) (H.set k (BC x (i+1)))) (h2:x[i]?=none→R none (H.set k .s9)):NX an w am d H k R:=by
 intro A L m α s Q E hr I sj c
 obtain ⟨hb,_,o,g,t,hc,hd⟩:=I.obj k _ hk
 have hit:s.heap.IsStrIter (α k) "str_ascii_iterator" ⟨x.toArray⟩ t i:=(sN o g hc hd)
 cases hx:x[i]? with
 | some y =>
  refine wpAny_pyNext_ascii_item (c:=y) hit (by simpa using hx) fun h' hi hs=>?_
  obtain ⟨o',g',NO,JM⟩:=hi
  obtain ⟨xt,I'⟩:=I.BA (ao:=BC x (i+1)) sj hs (sS (bK _) (fun _ _=>rfl) (i12 o' g' (i12 t NO JM)))
  exact c _ _ α _ {s with heap:=h',toks:=_} (h1 y hx) xt I' (.some (.str [y] _)) ⟨rfl,id⟩
 | none =>
  refine sC (wpAny_pyNext_ascii_end hr.handled hit (by simpa using hx) fun h' he hz=>?_)
  obtain ⟨xt,I'⟩:=I.Hp sj he hz
  exact c none none α _ {s with heap:=h'} (h2 hx) xt I' .none ⟨rfl,id⟩
end
section
set_option backward.match.sparseCases false
noncomputable def un:List aW→List AV→Nat→List ci
 | [],_,_=>[]
 | .cell::ks,args,c=>.sG c::un ks args.tail (c+1)
 | .local::ks,args,c=>.loc args.head?::un ks args.tail c
 | _::ks,args,c=>.rc::un ks args.tail c
noncomputable def sy:List aW→List AV→List AO
 | [],_=>[]
 | .cell::ks,args=>.cell args.head?::sy ks args.tail
 | _::ks,args=>sy ks args.tail
noncomputable def cb (ks:List aW) (i:Nat):Nat:=(ks.take i).countP (· == .cell)
theorem wW:∀ (ks:List aW) (args:List AV) (c i:Nat) (k:aW),ks[i]?=some k→(un ks args c)[i]?=some (match k with | .cell=>.sG (c+cb ks i) | .local=>.loc args[i]? | _=>.rc):=by
 intro v_
 induction v_ with
 | nil =>
  intro args c MJ k h
  simp at h
 | cons k' ks sg =>
  intro args c MJ k h
  cases MJ with
  | zero =>
   simp at h
   subst h
   cases k' <;> simp [un,cb,mz]
  | succ i =>
   have ih:=fun c=>sg args.tail c i k (by simpa using h)
   have ht:args.tail[i]?=args[i+1]?:=by simp
   cases k' <;> simp only [un,List.getElem?_cons_succ,ih,ht,cb,hH,gJ] <;> cases k <;> simp <;> exact cR _ _ _
theorem AR:∀ (ks:List aW) (args:List AV) (i:Nat),ks[i]?=some .cell→(sy ks args)[cb ks i]?=some (.cell args[i]?):=by
 intro v_
 induction v_ with
 | nil =>
  intro args MC h
  simp at h
 | cons k' ks sg =>
  intro args MC h
  cases MC with
  | zero =>
   simp at h
   subst h
   simp [sy,cb,mz]
  | succ i =>
   have ih:=sg args.tail i (by simpa using h)
   have ht:args.tail[i]?=args[i+1]?:=by simp
   rw [ht] at ih
   cases k' <;> simp [sy,cb,gJ] <;> exact ih
theorem y8:∀ (ks:List aW) (args:List AV) (j:Nat) (o:AO),(sy ks args)[j]?=some o→∃ i,ks[i]?=some fV∧cb ks i=j∧o=.cell args[i]?:=by
 intro v_
 induction v_ with
 | nil =>
  intro _ _ _ h
  simp [sy] at h
 | cons k' ks sg =>
  intro args j o h
  have ht:∀ i:Nat,args.tail[i]?=args[i+1]?:=by simp
  by_cases q:k'=.cell
  ·subst q
   cases j with
   | zero =>
    simp [sy] at h
    exact (sN 0 rfl rfl (by rw [← h,mz]))
   | succ j =>
    obtain ⟨i,a,b,c⟩:=sg args.tail j o (by simpa [sy] using h)
    exact (sN (i+1) (by simpa using a) (by simp [cb,gJ] at b ⊢;exact b) (by rw [c,ht]))
  ·obtain ⟨i,a,b,c⟩:=sg args.tail j o (by cases k' <;> first | exact absurd rfl q | exact h)
   refine (sN (i+1) (by simpa using a) ?_ (by rw [c,ht]))
   have:(k' == fV)=false:=by simpa using q
   simp [cb,gJ,this] at b ⊢
   exact b
theorem Cr {K:Str→Option aW} {x:Str}:∀ (ps:List Str) (vs:List aa) (m:Str→Option aa),x∉ps→dX K (ps.zip vs) m x=m x:=by
 intro v_
 induction v_ with
 | nil =>
  intro xJ m h
  exact rfl
 | cons p ps sg =>
  intro xJ m h
  cases xJ with
  | nil =>
   exact rfl
  | cons v vs =>
   rw [dx,dX,sg vs _ (fun q=>h (ba _ q))]
   have:x≠p:=fun e=>h (e▸aZ)
   split
   ·simp [this]
   ·rfl
theorem Cs {K:Str→Option aW} {x:Str} {v:aa} (hk:K x=some .local):∀ (ps:List Str) (vs:List aa) (m:Str→Option aa) (i:Nat),ps.Nodup→ps[i]?=some x→vs[i]?=some v→dX K (ps.zip vs) m x=some v:=by
 intro v_
 induction v_ with
 | nil =>
  intro xJ m MJ n h e
  simp at h
 | cons p ps sg =>
  intro xJ m MJ n h e
  cases xJ with
  | nil =>
   simp at e
  | cons u vs =>
   cases MJ with
   | zero =>
    simp at h e
    subst h e
    rw [dx,dX,if_pos hk,Cr ps vs _ (cq.mp n).1]
    simp
   | succ i =>
    rw [dx,dX]
    exact sg vs _ i (cq.mp n).2 (by simpa using h) (by simpa using e)
theorem Ct {K:Str→Option aW} {x:Str}:∀ (ps:List Str) (vs:List aa) (m:Str→Option aa),x∉ps→bindC K (ps.zip vs) m x=m x:=by
 intro v_
 induction v_ with
 | nil =>
  intro xJ m h
  exact rfl
 | cons p ps sg =>
  intro xJ m h
  cases xJ with
  | nil =>
   exact rfl
  | cons v vs =>
   rw [dx,bindC,sg vs _ (fun q=>h (ba _ q))]
   have:x≠p:=fun e=>h (e▸aZ)
   split
   ·rfl
   ·simp [this]
theorem Cu {K:Str→Option aW} {x:Str} {v:aa} (hk:K x≠some .local):∀ (ps:List Str) (vs:List aa) (m:Str→Option aa) (i:Nat),ps.Nodup→ps[i]?=some x→vs[i]?=some v→bindC K (ps.zip vs) m x=some v:=by
 intro v_
 induction v_ with
 | nil =>
  intro xJ m MJ n h e
  simp at h
 | cons p ps sg =>
  intro xJ m MJ n h e
  cases xJ with
  | nil =>
   simp at e
  | cons u vs =>
   cases MJ with
   | zero =>
    simp at h e
    subst h e
    rw [dx,bindC,if_neg hk,Ct ps vs _ (cq.mp n).1]
    simp
   | succ i =>
    rw [dx,bindC]
    exact sg vs _ i (cq.mp n).2 (by simpa using h) (by simpa using e)
theorem zj {x:Str}:∀ (nm:List Str) (ks:List aW) (n:Nat) (pi:List (Str×Addr)),x∉nm→(dU n (nm.zip ks) pi).lookup x=pi.lookup x:=by
 intro v_
 induction v_ with
 | nil =>
  intro xJ n pi h
  exact rfl
 | cons y nm sg =>
  intro xJ n pi h
  cases xJ with
  | nil =>
   exact rfl
  | cons k ks =>
   have ih:=fun n pi=>sg ks n pi (fun q=>h (ba _ q))
   have ne:(x == y)=false:=by simp only [beq_eq_false_iff_ne,ne_eq];exact fun e=>h (e▸aZ)
   rw [dx,dU]
   split
   ·rw [ih,eg,ne]
   ·exact ih _ _
theorem xP {x:Str}:∀ (nm:List Str) (ks:List aW) (n:Nat) (pi:List (Str×Addr)) (i:Nat),nm.Nodup→nm[i]?=some x→ks[i]?=some .cell→(dU n (nm.zip ks) pi).lookup x=some (n+cb ks i):=by
 intro v_
 induction v_ with
 | nil =>
  intro xJ n pi Wh nd h e
  simp at h
 | cons y nm sg =>
  intro xJ n pi Wh nd h e
  cases xJ with
  | nil =>
   simp at e
  | cons k ks =>
   cases Wh with
   | zero =>
    simp at h e
    subst h e
    rw [dx,dU,if_pos (by rfl),zj nm ks _ _ (cq.mp nd).1]
    simp [cb]
   | succ i =>
    have ih:=fun n pi=>sg ks n pi i (cq.mp nd).2 (by simpa using h) (by simpa using e)
    rw [dx,dU]
    by_cases q:(k == fV)=true
    ·rw [if_pos q,ih]
     simp only [cb,hH,gJ,q,if_true]
     congr 1
     exact cR _ _ _
    ·rw [if_neg q,ih]
     simp only [cb,hH,gJ,q,cG,if_false]
     rfl
end
structure Sq (am:Heap) (f:Addr) (fd:da) (body:List Stmt) (nm:List Str) (ks:List aW) (np:Nat):Prop where
 at_:∃ o,am.get? f=some o∧o.data=.func fd
 nolimit:am.NoLimit
 code:am.CodeRec fd.code fd.qualname
 body:fd.body=.stmts body
 Wi:fd.closure=[]
 co:fd.scope.isCoroutine=false
 gen:fd.scope.isGenerator=false
 kind:fd.scope.kind=.function
 rc:fd.globals=dK
 blt:fd.builtins=fQ
 names:fd.scope.names=nm.zip ks
 nodup:nm.Nodup
 len:nm.length=ks.length
 Qm:∀ i < np,ks[i]?=some .local∨ks[i]?=some .cell
 kinds:∀ k∈ks,k=.local∨k=.cell∨k=.globalImplicit
 Wj:np≤nm.length
noncomputable def Wk (fd:da) (nm:List Str) (ks:List aW) (np:Nat):Bool :=
 fd.closure.isEmpty && !fd.scope.isCoroutine && !fd.scope.isGenerator && fd.scope.kind == .function && fd.globals == dK && fd.builtins == fQ && decide (fd.scope.names=nm.zip ks) && decide nm.Nodup && decide (nm.length=ks.length) &&
  ((ks.take np).all fun k=>k == .local || k == .cell) && (ks.all fun k=>k == .local || k == .cell || k == .globalImplicit) && decide (np≤nm.length)
section
variable {nm:List Str} {ks:List aW} {np:Nat} {H:AH} {R:AV→AH→Prop}
theorem wv {f:Addr} {fd:da} {body:List Stmt} {args:List AV} (F:Sq am f fd body nm ks np) (hl:args.length=np)
  (bind:∀ vs:List aa,vs.length=np→dH fd ⟨vs,[]⟩=pure ((nm.take np).zip vs))
  (h:ST an w am d nm (un ks args H.length) (H++sy ks args) (fun be=>aG body be) (NC R)) :
  FN an w am (d+1) (.ref f) H args [] R:=by
 intro A L m α s Q E vs hr I V k
 obtain ⟨o,ho,hd⟩:=F.at_
 have keep:=I.fr.keep
 have lv:=V.length
 have T3:vs.length=np:=by lia
 have hK:∀ {i:Nat} {x:Str} {kd:aW},nm[i]?=some x→ks[i]?=some kd→fd.scope.names.lookup x=some kd:=fun h1 h2=>by rw [F.names];exact uk F.nodup h1 h2
 have hC:∀ {i:Nat} {x:Str},nm[i]?=some x→ks[i]?=some .cell→(dU (s.heap.objs.size+1) fd.scope.names []).lookup x=some (s.heap.objs.size+1+cb ks i):=fun h1 h2=>by rw [F.names];exact xP nm ks _ [] _ F.nodup h1 h2
 have Qn:(nm.take np).Nodup:=(mC np nm).nodup F.nodup
 refine (?_:ag _ A (call (.ref f) (vs.take (vs.length - 0)) (([]:List Str).zip (vs.drop (vs.length - 0)))) Q E s)
 have e0:vs.take (vs.length - 0)=vs:=by simp
 rw [e0,List.zip_nil_left]
 refine dg (ox (binds:=(nm.take np).zip vs) (by have:=hr.depth;exact VP this) (keep _ _ ho) hd (F.nolimit.keeps keep) (F.code.keeps keep) F.body (bind vs T3) F.Wi ?_ (fun tE X=>?_) F.co F.gen F.kind)
 ·rintro ⟨x,v⟩ hx
  obtain ⟨i,hi⟩:=gj.mp (jG hx).1
  have KH:i < np:=by have:=(rK hi);rw [dO] at this;exact XQ this
  have Ca : nm[i]?=some x:=by rw [fW KH] at hi;exact hi
  rcases F.Qm i KH with q | q
  ·exact .inl (hK Ca q)
  ·exact .inr ⟨hK Ca q,by refine (?_:((dU (s.heap.objs.size+1) fd.scope.names []).lookup x).isSome=true);rw [hC Ca q];rfl⟩
 ·obtain ⟨⟨rJ,tk,rfl⟩,xk,hk,_⟩:=X.toInCall
  dsimp only at xk hk
  have Ht:∀ n c,(dU (s.heap.objs.size+1) fd.scope.names []).lookup n=some c→rJ.IsCell c (bindC (bO fd s.heap.objs.size f).kindOf ((nm.take np).zip vs) (fun _=>none) n):=X.cell
  have Hu : rJ.Ns s.heap.objs.size (dX (bO fd s.heap.objs.size f).kindOf ((nm.take np).zip vs) fun _=>none):=xk
  have tO:s.heap.objs.size < rJ.objs.size:=Hu.lt
  have mo:(H++sy ks args).length=H.length+(sy ks args).length:=aI
  have uG:∃ rS:Nat→Addr,(∀ k < H.length,rS k=α k)∧∀ j,rS (H.length+j)=s.heap.objs.size+1+j :=
   ⟨fun k=>if k < H.length then α k else s.heap.objs.size+1+(k - H.length),fun k hk=>if_pos hk,fun j=>by show (if _ then _ else _)=_;rw [if_neg (lF lI)];congr 1;exact nB _ _⟩
  obtain ⟨rS,ww,vD⟩:=uG
  have x0:Ext s.heap.objs.size α rS H.length (H++sy ks args).length s.heap rJ :=
   ⟨ww,lT lI (lS mo),bp tO,fun b o e _ _=>hk b o e,fun i a b=>by
    obtain ⟨j,rfl⟩ : ∃ j,i=H.length+j:=⟨i - H.length,nL a⟩
    rw [vD];exact (show s.heap.objs.size≤s.heap.objs.size+1+j by lia)⟩
  have NQ:∀ vs e,s.heap.get? s.heap.objs.size≠some (sv vs e):=fun vs e q=>ff _ (aH q)
  have I1:Inv am s.heap.objs.size (dX (bO fd s.heap.objs.size f).kindOf ((nm.take np).zip vs) fun _=>none) rS (H++sy ks args) rJ:=by
   refine ⟨⟨Hu,fun b o e=>hk b o (keep b o e),aj I.fr.above (bp I.wl)⟩,fun i hi=>?_,fun i j hi hj e=>?_,fun i oo e=>?_⟩
   ·by_cases q:i < H.length
    ·rw [ww i q];exact ⟨(I.low i q).1,ax (I.lt q)⟩
    ·obtain ⟨j,rfl⟩ : ∃ j,i=H.length+j:=⟨i - H.length,nL (lN q)⟩
     rw [vD]
     have h1:@LE.le Nat _ am.objs.size L:=I.fr.above
     have h2:@dM Nat _ L s.heap.objs.size:=I.wl
     exact ⟨g8 (aj h1 (aj (bp h2) (aj (bX _) (cp _ _)))),fun e=>absurd (show s.heap.objs.size+1+j=s.heap.objs.size from e) (by lia)⟩
   ·by_cases qi:i < H.length <;> by_cases qj:j < H.length
    ·rw [ww i qi,ww j qj] at e;exact I.inj i j qi qj e
    ·obtain ⟨u,rfl⟩ : ∃ u,j=H.length+u:=⟨j - H.length,nL (lN qj)⟩
     rw [ww i qi,vD] at e
     have h1:@dM Nat _ (α i) s.heap.objs.size:=I.lt qi
     have h2:@Eq Nat (α i) (s.heap.objs.size+1+u):=e
     exact lX (lS e) (lD 1 (lR 1 (lT (lU 1 h1) lI)))
    ·obtain ⟨u,rfl⟩ : ∃ u,i=H.length+u:=⟨i - H.length,nL (lN qi)⟩
     rw [ww j qj,vD] at e
     have h1:@dM Nat _ (α j) s.heap.objs.size:=I.lt qj
     have h2:@Eq Nat (s.heap.objs.size+1+u) (α j):=e
     exact lX (lE e) (lD 1 (lR 1 (lT (lU 1 h1) lI)))
    ·obtain ⟨u,rfl⟩ : ∃ u,j=H.length+u:=⟨j - H.length,nL (lN qj)⟩
     obtain ⟨v,rfl⟩ : ∃ v,i=H.length+v:=⟨i - H.length,nL (lN qi)⟩
     rw [vD,vD] at e
     have h2:@Eq Nat (s.heap.objs.size+1+v) (s.heap.objs.size+1+u):=e
     lia
   ·by_cases q:i < H.length
    ·rw [aR q] at e
     rw [ww i q]
     exact (I.obj i oo e).ext x0 NQ fun ob g=>hk _ _ g
    ·obtain ⟨j,rfl⟩ : ∃ j,i=H.length+j:=⟨i - H.length,nL (lN q)⟩
     rw [aK lI,show H.length+j - H.length=j from by exact nB _ _] at e
     obtain ⟨u,a,b,rfl⟩:=y8 ks args j oo e
     have Qo:u < nm.length:=by rw [F.len];exact (rK a)
     obtain ⟨x,hx⟩ : ∃ x,nm[u]?=some x:=⟨_,aQ Qo⟩
     obtain ⟨ob,Qp,yH⟩:=Ht x _ (hC hx a)
     rw [vD,← b]
     refine ⟨ob,_,Qp,yH,fun av MD=>?_⟩
     obtain ⟨v,hv,rv⟩:=V.get MD
     have NR:u < np:=by have:=(rK MD);exact lT this (lE hl)
     refine ⟨v,Cu ?_ _ _ _ u Qn (by rw [fW NR];exact hx) hv,rv.ext x0 NQ⟩
     have:(bO fd s.heap.objs.size f).kindOf x=some .cell:=hK hx a
     rw [this]
     simp
  have S1:u8 (bO fd s.heap.objs.size f) s.heap.objs.size rS (H++sy ks args).length nm (un ks args H.length):=by
   refine ⟨F.kind,rfl,F.rc,F.blt,fun i x sl a b=>?_⟩
   have va:i < ks.length:=by rw [← F.len];exact (rK a)
   obtain ⟨kd,BG⟩ : ∃ kd,ks[i]?=some kd:=⟨_,aQ va⟩
   rw [wW ks args H.length i kd BG] at b
   have y9:(bO fd s.heap.objs.size f).kindOf x=some kd:=hK a BG
   rcases F.kinds kd (bx BG) with rfl | rfl | rfl
   ·cases b;exact y9
   ·obtain rfl:=ay b
    refine ⟨?_,y9,?_⟩
    ·have:=(rK (AR ks args i BG))
     exact VQ mo this
    ·rw [vD];exact hC a BG
   ·cases b;exact y9
  have D1:vQ (dX (bO fd s.heap.objs.size f).kindOf ((nm.take np).zip vs) fun _=>none) rJ rS (H++sy ks args).length nm (un ks args H.length):=by
   intro i x av a b
   have va:i < ks.length:=by rw [← F.len];exact (rK a)
   obtain ⟨kd,BG⟩ : ∃ kd,ks[i]?=some kd:=⟨_,aQ va⟩
   rw [wW ks args H.length i kd BG] at b
   have y9:(bO fd s.heap.objs.size f).kindOf x=some kd:=hK a BG
   rcases F.kinds kd (bx BG) with rfl | rfl | rfl
   ·simp only [iK,ci.loc.injEq] at b
    obtain ⟨v,hv,rv⟩:=V.get b
    have NR:i < np:=by have:=(rK b);exact lT this (lE hl)
    exact ⟨v,Cs y9 _ _ _ i Qn (by rw [fW NR];exact a) hv,rv.ext x0 NQ⟩
   ·cases b
   ·cases b
  refine h _ _ _ _ _ {s with heap:=rJ,toks:=tk} _ _ ⟨hr.handled,?_,?_⟩ S1 I1 D1 fun fl Wa ρ' m' dL H' s' r x1 I2 S2 D2 FR Z=>?_
  ·refine (?_:A.depth+1+8 * d+8 < _);have:=hr.depth;exact zD this
  ·refine (?_:A.units+3+100 * d+100 < _);have:=hr.units;exact zC this
  ·have xx:=x0.trans x1
   obtain ⟨I3,x3⟩:=I.back (ar _) (fun _ _ e=>e) (ar _) xx I2
   cases FR with
   | next=>exact k .none .none dL H' s' r x3 I3 .none ⟨Z.os,Z.gens⟩
   | ret W=>exact k _ _ dL H' s' r x3 I3 W ⟨Z.os,Z.gens⟩
   | brk=>exact r.elim
   | cont=>exact r.elim
end
noncomputable def uz (am:Heap) (L:Addr) (h:Heap):List (Addr×Obj):=(bq h.objs.size).filterMap fun b=>if b=L then none else match am.get? b with
 | some _=>none
 | none=>(h.get? b).map fun o=>(b,o)
section
variable {am h h' : Heap} {L:Addr} {m m' : Str→Option aa} {α:Nat→Addr} {H:AH}
theorem wx:News am L h (uz am L h):=by
 intro p hp
 obtain ⟨b,hb,e⟩:=rm.mp hp
 split at e
 ·cases e
 ·rename_i hL
  split at e
  ·cases e
  ·rename_i h0
   obtain ⟨o,ho,rfl⟩:=ig.mp e
   exact (sS ho hL h0)
theorem BH {b:Addr} {o:Obj} (e:h.get? b=some o) (hL:b≠L) (h0:am.get? b=none):(b,o)∈uz am L h:=by
 refine rm.mpr (i12 b (dc.mpr (aH e)) ?_)
 rw [if_neg hL,h0]
 skip
 rw [e]
 rfl
theorem zY (F:Fr am L h m) (F' : Fr am L h' m') (N' : News am L h' (uz am L h)) {b:Addr} {o:Obj} (e:h.get? b=some o) (hL:b≠L):h'.get? b=some o:=by
 cases q:am.get? b with
 | some o' =>
  have:=F.keep b o' q
  rw [e] at this
  cases this
  exact F'.keep b o q
 | none=>exact (N' _ (BH e hL q)).1
end
section
set_option tactic.hygienic true
noncomputable def seg (p:aD) (a n:Nat):List Stmt:=((kM p).drop a).take n
noncomputable def DI (p:aD):Env:={scope:=p.main.scope,locals:=mainNs,globals:=mainNs,cells:=[],code:=.ref 36,frame:=some 37}
noncomputable def cE (p:aD):Code:=.body (kM p) (DI p)
noncomputable def B0:List Frame:=[topFrame ⟨0,0,0,0⟩]
theorem Yu (w:aw):(fencedOpening et pw w 20000).map (fun s=>(s.heap,s.gens,s.drawn,s.toks))=some (e8 (yZ tw w.params) 34 {},#[],{},318):=by
 unfold fencedOpening
 rw [PySem.W.Fast.te10274390034422433532,ft,PySem.W.Fast.te1435165496053646825,PySem.W.Fast.te14289696077712309145,vk]
 kernel_rfl
theorem Qq (w:aw):((e8 (yZ tw w.params) 34 {}).isNs dK && (#[]:Array GenState).size == 0,(e8 (yZ tw w.params) 34 {}).objs.size,(e8 (yZ tw w.params) 34 {}).nsMap dK "__annotations__")=(true,34,some (.ref 6)):=by
 rw [PySem.W.Fast.te8920871248978507458,vk]
 kernel_rfl
theorem pre (w:aw) (os:bR):topGo et pw w 34 (some (.ref 6)) 12 (PK tw w os).abs (topStub pw)=some ((JU tw w os).abs,⟨denote et (cE pw),cE pw,⟨0,0,0,0⟩,B0⟩):=by
 rw [PySem.W.Fast.te15667345088766844465,ft,PySem.W.Fast.te11892475500146522536,vk]
 kernel_rfl
theorem Yv (w:aw) (os:bR):segRun et pw w 34 (some (.ref 6)) 1 1 (JU tw w os).abs (blockOf (kM pw) (DI pw) (cE pw) ⟨0,0,0,0⟩ B0)=some (.next,(JU tw w os).abs,cE pw,⟨0,0,0,0⟩):=by
 unfold blockOf
 rw [PySem.W.Fast.te14374325043358763698,ft,PySem.W.Fast.te1066825118222455980,vk]
 kernel_rfl
theorem Yw (w:aw) (os:bR):i9 et pw w 34 (some (.ref 6)) 1 2000 (JU tw w os) (eR (seg pw 0 17) (DI pw) (cE pw) ⟨0,0,0,0⟩ B0)=some (.next,Mw tw w os,cE pw,⟨82,0,83,21⟩):=by
 unfold eR
 rw [iy,ft,jj,vk]
 kernel_rfl
theorem Yx (w:aw) (os:bR):i9 et pw w 34 (some (.ref 6)) 1 1400 (Mw tw w os) (eR (seg pw 17 1) (DI pw) (cE pw) ⟨82,0,83,21⟩ B0)=some (.next,Mx tw w os,cE pw,⟨84,0,253,17⟩):=by
 unfold eR
 rw [iy,ft,jj,vk]
 kernel_rfl
theorem Yy (w:aw) (os:bR):i9 et pw w 34 (some (.ref 6)) 1 1700 (Mx tw w os) (eR (seg pw 18 1) (DI pw) (cE pw) ⟨84,0,253,17⟩ B0)=some (.next,My tw w os,cE pw,⟨254,0,458,17⟩):=by
 unfold eR
 rw [iy,ft,jj,vk]
 kernel_rfl
theorem Yz (w:aw) (os:bR):i9 et pw w 34 (some (.ref 6)) 1 1500 (My tw w os) (eR (seg pw 19 10) (DI pw) (cE pw) ⟨254,0,458,17⟩ B0)=some (.next,Mz tw w os,cE pw,⟨524,0,775,20⟩):=by
 unfold eR
 rw [iy,ft,jj,vk]
 kernel_rfl
theorem YA (w:aw) (os:bR):i9 et pw w 34 (some (.ref 6)) 1 1500 (Mz tw w os) (eR (seg pw 29 15) (DI pw) (cE pw) ⟨524,0,775,20⟩ B0)=some (.next,ED tw w os,cE pw,⟨855,0,877,63⟩):=by
 unfold eR
 rw [iy,ft,jj,vk]
 kernel_rfl
theorem fin (w:aw) (os:bR):topRun et pw w 34 (some (.ref 6)) 2 (ED tw w os).abs ⟨doneF .next,cE pw,⟨855,0,877,63⟩,B0⟩=some (ED tw w os).abs:=by
 rw [PySem.W.Fast.te14082659384304107361,ft,vk]
 kernel_rfl
end
noncomputable def Wl:List Nat:=[0,1,2,3,4,5,6,7,9,10,11,12,13,14,15,16,17,19,20,21,22,23,24,25,26,28,29,30,31,32,33,34,36,37,38,40,41,43,44,45,47,48,50,51,52,54,55,57,58,59,61,62,64,65,66,68,69,71,72,73,75,76,78,79,80,82,83,85,86,87,88,89,90,91,92,94,95,97,98,99,101,102,104,105,106,107,108,109,111,112,113,114,115,116,117,118,119,120,121,122,124,125,126,128,129,131,132,133,134,135,136,137,138,139,140,141,142,143,144,146,147,148,149,150,151,152,153,154,155,156,158,159,160,161,162,163,164,165,166,167,168,170,171,172,173,175,176,178,179,180,182,183,185,186,187,189,190,192,193,194,196,197,199,200,201,202,204,205,207,208,209,211,212,214,215,216,218,219,221,222,223,225,226,228,229,230,232,233,235,236,237,239,240,242,243,244,246,247,249,250,251,253,254,256,257,258,260,261,263,264,265,267,268,270,271,272,274,275,277,278,279,281,282,284,285,286,288,289,291,292,293,294,296,297,299,300,301,302,304,305,307,308,309,310,312,313,315,316,317,318,320,321,323,324,325,327,328,330,331,332,334,335,337,338,339,340,342,343,345,346,347,348,350,351,353,354,355,357,358,360,361,362,364,365,367,368,369,371,372,374,375,376,378,379,381,382,383,385,386,388,389,390,391,392,393,394,395,396,397,398,400,401,402,403,405,406,408,409,410,412,413,415,416,417,419,420,422,423,424,426,427,429,430,431,433,434,436,437,438,440,441,443,444,445,446,448,449,451,452,453,454,456,457,459,460,461,462,464,465,467,468,469,470,472,473,475,476,477,478,480,481,483,484,485,487,488,490,491,492,494,495,497,498,499,501,502,504,505,506,508,509,511,512,513,515,516,518,519,520,522,523,525,526,527,529,530,532,533,534,536,537,539,540,541,543,544,546,547,548,550,551,553,554,555,557,558,560,561,562,563,565,566,568,569,570,571,573,574,576,577,578,579,581,582,584,585,586,587,589,590,592,593,594,595,597,598,600,601,602,604,605,607,608,609,611,612,614,615,616,618,619,621,622,623,625,626,628,629,630,632,633,635,636,637,638,639,640,641,642,644,645,647,648,649,651,652,654,655,656,658,659,661,662,663,665,666,668,669,670,672,673,675,676,677,679,680,682,683,684,685,686,687,689,690,691,692,694,695,697,698,699,701,702,704,705,706,707,709,710,712,713,714,715,717,718,720,721,722,724,725,727,728,729,731,732,734,735,736,738,739,741,742,743,745,746,748,749,750,751,753,754,756,757,758,760,761,763,764,765,767,768,770,771,772,773,774,775,776,777,778,779,780,782,783,785,786,787,789,790,792,793,794,795,797,798,800,801,802,804,805,807,808,809,811,812,814,815,816,819,820,821,824,825,826,829,830,831,834,835,836,839,840,841,843,844,846,847,848,851,852]
noncomputable def KK:aL→Frag:=fun P=>Wl.map fun a=>(a,HD.fin a tw P)
noncomputable def loose:List Str:=[aB "_wall",aB "heappush",aB "heappop",aB "heapreplace",aB "_siftdown",aB "_siftup",aB "_parse_varint",aB "_twin_re_1",aB "_whence",aB "_index",aB "UnsupportedOperation",aB "IOBase",aB "BufferedIOBase",aB "TextIOBase",aB "BytesIO",aB "StringIO",aB "_kind",aB "_fspath",aB "_check_arg_types",aB "isabs",aB "join",aB "join_path",aB "dirname",aB "shlex",aB "split",aB "join_shlex",aB "_find_unsafe",aB "quote",aB "_law_octets",aB "_law_weight",aB "_law_first",aB "_law_heaviest",aB "_law_other",aB "_law_most",aB "_law_fits",aB "_law_cut"]
noncomputable def qv:aD:=view pw [0,1,45]
theorem Hv:kM pw=seg pw 0 17++(seg pw 17 1++(seg pw 18 1++(seg pw 19 10++(seg pw 29 15++[])))):=by kernel_rfl
theorem NS (w:aw) (os:bR):topRun et pw w 34 (some (.ref 6)) (12+(1+(2000+(1400+(1700+(1500+(1500+2))))))) (PK tw w os).abs (topStub pw)=some (ED tw w os).abs:=by
 refine go_top (pre w os) (piece_block (Yv w os) ?_)
 rw [Hv]
 exact jc (iE (Yw w os)) (jc (iE (Yx w os)) (jc (iE (Yy w os)) (jc (iE (Yz w os)) (jc (iE (YA w os)) (piece_nil (fin w os))))))
noncomputable abbrev DJ (P:aL):Heap:=e8 (Du tw P) 853 {}
theorem Qr (w:aw) (os:bR):(staticsOk (importedModules pw.main.body) (e8 (yZ tw w.params) 34 {}) (DJ w.params) && namesBound pw (DJ w.params) && gensDone ⟨DJ w.params,#[],{},1386,os⟩ && laidKept (e8 (yZ tw w.params) 34 {}) (DJ w.params))=true:=by
 kernel_rfl
theorem getAll (t:BT) (n:Nat):∀ l:List Nat,(l.all fun a=>Nat.blt a n && (t.get a).isSome)=true→l.map (e8 t n {}).get?=l.map fun a=>(t.get a).bind alive:=by
 intro v_
 induction v_ with
 | nil =>
  intro _
  exact rfl
 | cons a l sg =>
  intro h
  rw [List.all_cons,eI,eI] at h
  obtain ⟨⟨h1,h2⟩,h3⟩:=h
  obtain ⟨o,ho⟩:=Option.isSome_iff_exists.mp h2
  rw [bD,bD,sg h3,abs_get (Nat.le_of_ble_eq_true h1) ho,ho]
  rfl
noncomputable abbrev T4:af→Bool:=fun s=>xlAt qv [] s && recOk (RowW.records (ro (q8 g6))) s
theorem Qs (w:aw) (os:bR):openSeen qv loose (importedModules pw.main.body) T4 true ⟨DJ w.params,#[],{},1386,os⟩=openGood qv loose:=by
 rw [PySem.W.Fast.te4187177175401517315]
 kernel_rfl
section
set_option backward.match.sparseCases false
noncomputable abbrev HP:=Int×List Nat
noncomputable def pv (a:HP):AV:=.tup [.int a.1,.str a.2]
noncomputable def rY (l:List HP):AO:=.list (l.map pv)
noncomputable def tz (a b:HP):Bool:=decide (a.1 < b.1) || (a.1 == b.1 && decide (a.2 < b.2))
noncomputable def wd (sp:Nat) (ni:HP):Nat→Nat→List HP→List HP
 | 0,p,xs=>xs.set p ni
 | f+1,p,xs=>if sp < p then (match xs[(p - 1) / 2]? with
   | some q=>if tz ni q then wd sp ni f ((p - 1) / 2) (xs.set p q) else xs.set p ni
   | none=>xs.set p ni) else xs.set p ni
theorem zo {sp f p:Nat} {ni:HP} {xs:List HP}:wd sp ni (f+1) p xs=if sp < p then (match xs[(p - 1) / 2]? with
   | some q=>if tz ni q then wd sp ni f ((p - 1) / 2) (xs.set p q) else xs.set p ni
   | none=>xs.set p ni) else xs.set p ni:=rfl
section
variable {nm:List Str} {ρ:List ci} {H:AH} {R:AV→AH→Prop}
theorem vZ {p n:Nat} (h:p < n) (hn:n≤1000000):idx (p:Int) n=some p:=by
 unfold idx
 rw [if_pos (nF _),if_pos (⟨mK h,iO.mpr (aC h hn)⟩)]
 simp
theorem tY {k:Nat} {xs:List HP} {x:HP} {p:Nat} (hk:H[k]?=some (rY xs)) (hx:xs[p]?=some x) (hz:xs.length≤1000000):sT (.ref k) (.int p) H=some (pv x):=by
 refine (?_:(match H[k]? with | some (.list xs)=>(idx p xs.length).bind (xs[·]?) | _=>none)=_)
 rw [hk]
 refine (?_:(idx p (xs.map pv).length).bind ((xs.map pv)[·]?)=_)
 have:=(rK hx)
 rw [vZ (by simpa using this) (by simpa using hz)]
 simp [hx]
theorem yI {k:Nat} {xs:List HP} {x:HP} {p:Nat} (hk:H[k]?=some (rY xs)) (hp:p < xs.length) (hz:xs.length≤1000000):Kv (.ref k) (.int p) (pv x) H=some (H.set k (rY (xs.set p x))):=by
 refine (?_:(match H[k]? with | some (.list xs)=>if 0≤(p:Int)∧(p:Int) < xs.length∧xs.length≤1000000 then some (H.set k (.list (xs.set (p:Int).toNat (pv x)))) else none | _=>none)=_)
 rw [hk]
 refine (?_:(if 0≤(p:Int)∧(p:Int) < (xs.map pv).length∧(xs.map pv).length≤1000000 then some (H.set k (.list ((xs.map pv).set (p:Int).toNat (pv x)))) else none)=_)
 rw [if_pos (by simp;exact ⟨hp,hz⟩)]
 simp [rY,List.map_set]
theorem sR {k:Nat} {o o' : AO} (hk:H[k]?=some o):(H.set k o')[k]?=some o':=az (rK hk)
theorem set_same {k:Nat} {o:AO} (hk:H[k]?=some o):H.set k o=H:=by
 obtain ⟨h,e⟩:=cQ.mp hk
 rw [← e]
 exact lh h
noncomputable def Sr:List Stmt:=fBody (vP pw 7)
noncomputable def wT:Stmt→Expr
 | .While t ..=>t
 | _=>.Constant .none 0 ⟨0,0,0,0⟩
noncomputable def wB:Stmt→List Stmt
 | .While _ b ..=>b
 | _=>[]
noncomputable def wO:Stmt→List Stmt
 | .While _ _ o _=>o
 | _=>[]
noncomputable abbrev YB:List Str:=["heap","startpos","pos","newitem","parentpos","parent"]
noncomputable abbrev Wm (k sp p:Nat) (ni:HP) (o1 o2:Option AV):List ci:=[.loc (some (.ref k)),.loc (some (.int sp)),.loc (some (.int p)),.loc (some (pv ni)),.loc o1,.loc o2]
theorem KI {k sp:Nat} {ni:HP}:∀ (f p:Nat) (xs:List HP) (H:AH) (o1 o2:Option AV),H[k]?=some (rY xs)→p≤f→p < xs.length→xs.length≤1000000 →
  SC an w am d YB (Wm k sp p ni o1 o2) H (fun be=>.whileLoop (wT (nb Sr 1)) (wB (nb Sr 1)) (wO (nb Sr 1)) be) (fun fl ρ' H'=>fl=.next∧∃ p' zp YC YD,p' < zp.length∧zp.length=xs.length∧ρ'=Wm k sp p' ni YC YD∧H'=H.set k (rY zp)∧zp.set p' ni=wd sp ni f p xs):=by
 intro f
 induction f with
 | zero =>
  intro p xs H o1 o2 hk hp hl hz
  obtain rfl:p=0:=lA hp lZ
  refine tu (dl (lm 2 rfl rfl (lm 1 rfl rfl (.mk _ rfl ?_))))
  refine so (by simp) ?_
  refine ev (vm rfl (PU 0 xs o1 o2 hl rfl rfl ((set_same hk).symm) rfl))
 | succ f ih =>
  intro p xs H o1 o2 hk hp hl hz
  refine tu (dl (lm 2 rfl rfl (lm 1 rfl rfl (.mk _ rfl ?_))))
  by_cases h:sp < p
  ·refine tX (by simpa using h) ?_
   have hq:(p - 1) / 2 < xs.length:=nT (zA h) hl
   have e1:sH .RShift (.int ((p:Int) - 1)) (.int 1) H=some (.int ((p - 1) / 2:Nat),H):=by
    refine (?_:(if (0:Int)≤1 then some (AV.int (((p:Int) - 1).fdiv (2 ^ (1:Int).toNat)),H) else none)=_)
    rw [if_pos (by lia)]
    congr 3
    refine (?_:((p:Int) - 1).fdiv 2=_)
    rw [oZ _ (by lia)]
    exact congrArg (· / (2:Int)) (nY (zA h))
   refine bd (t6 4 rfl (pc (pc (lm 2 rfl rfl (f8 (.mk rfl (f8 (.mk e1 (.mk rfl ?_)))))))))
   obtain ⟨q,Wn⟩ : ∃ q,xs[(p - 1) / 2]?=some q:=⟨_,aQ hq⟩
   refine bd (t6 5 rfl (rR (lm 0 rfl rfl (lm 4 rfl rfl (.mk _ (tY hk Wn hz) (.mk rfl ?_))))))
   refine bd (m0 (Hf (lm 3 rfl rfl (lm 5 rfl rfl (PT _ _ _ _ rfl rfl ?_)))))
   have sd:wd sp ni (f+1) p xs=if tz ni q then wd sp ni f ((p - 1) / 2) (xs.set p q) else xs.set p ni:=by
    rw [zo,if_pos h,Wn]
   refine (?_:if tz ni q=true then _ else _)
   by_cases tO:tz ni q=true
   ·rw [if_pos tO] at sd ⊢
    refine bd (yz (lm 5 rfl rfl (lm 0 rfl rfl (lm 2 rfl rfl (.mk _ (yI hk hl hz) ?_)))))
    refine bd (t6 2 rfl (lm 4 rfl rfl (.mk rfl ?_)))
    refine bd (Ci ?_)
    refine (ih ((p - 1) / 2) (xs.set p q) (H.set k (rY (xs.set p q))) (some (.int ((p - 1) / 2:Nat))) (some (pv q)) (sR hk) (aj (n8 _ _) (jW hp)) (by simpa using hq) (by simpa using hz)).mono ?_
    rintro fl ρ' H' ⟨rfl,p',zp,a,b,h1,h2,rfl,rfl,h3⟩
    exact (vm rfl (PU p' zp a b h1 (by simpa using h2) rfl (by simp) (h3.trans sd.symm)))
   ·rw [if_neg tO] at sd ⊢
    refine ev ?_
    refine bd (xI ?_)
    exact (vm rfl (PU p xs _ _ hl rfl rfl ((set_same hk).symm) sd.symm))
  ·refine so (by simpa using h) ?_
   have sd:wd sp ni (f+1) p xs=xs.set p ni:=by rw [zo,if_neg h]
   exact ev (vm rfl (PU p xs o1 o2 hl rfl rfl ((set_same hk).symm) sd.symm))
end
end
noncomputable def KJ (d:Data):Array cB:=match d with | .dict es _=>es | _=>#[]
noncomputable def Wo (v:aa):Bool:=match v with | .str ..=>true | _=>false
noncomputable def Wp (d:Data):Bool:=match d with | .dict es _=>es.toList.all fun e=>Wo e.key | _=>false
set_option tactic.hygienic true in
theorem Hw {K:Frag} {am:Heap} (X:K.In am) {a:Addr} {o:Obj} (hl:K.lookup a=some o) (hd:Wp o.data=true):am.Ns a (fx (KJ o.data)):=by
 unfold Wp at hd
 split at hd
 ·rename_i es ep q
  refine (Sd o es ep (X _ _ hl) q (fun e he=>?_) (fun x=>by rw [q];rfl))
  have:=d0.mp hd e (rq.mpr he)
  unfold Wo at this
  split at this
  ·rename_i n t z;exact (Km n t z)
  ·cases this
 ·cases hd
section
theorem xT (X:(KK P).In am):am.Ns dK (fx (KJ (AK tw P).data)):=Hw X (by kernel_rfl) (by kernel_rfl)
theorem Hx (X:(KK P).In am):am.Ns fQ (fx (KJ (PL tw P).data)):=Hw X (by kernel_rfl) (by kernel_rfl)
theorem xU (X:(KK P).In am):am.NoLimit:=(i12 _ (Hw X (o:=PM tw P) (by kernel_rfl) (by kernel_rfl)) (by kernel_rfl))
theorem su (X:(KK P).In am) {x:Str} {v:aa} (e:fx (KJ (AK tw P).data) x=some v):GL am x v:=(Do _ _ (xT X) (Hx X) (.inl e))
theorem t7 (X:(KK P).In am) {x:Str} {v:aa} (e:fx (KJ (AK tw P).data) x=none) (e2:fx (KJ (PL tw P).data) x=some v):GL am x v:=(Do _ _ (xT X) (Hx X) (.inr ⟨e,e2⟩))
theorem EU (X:(KK P).In am):GL am "_siftdown" (.ref 72):=su X (by kernel_rfl)
theorem ue (X:(KK P).In am):GL am "len" (.builtin "len"):=t7 X (by kernel_rfl) (by kernel_rfl)
noncomputable def T6 (fd:da) (ps nl ng:List Str):Bool :=
 (fd.scope.names.all fun x=>x.2 != .cell) && !fd.scope.isCoroutine && !fd.scope.isGenerator && fd.scope.kind == .function && fd.globals == dK && fd.builtins == fQ && decide (ps++(nl++ng)).Nodup &&
  ((ps++nl).all fun x=>fd.scope.names.lookup x == some .local) && ng.all fun x=>fd.scope.names.lookup x == some .globalImplicit
theorem u0 (X:(KK P).In am) {f:Addr} {o:Obj} {fd:da} {body:List Stmt} {ps nl ng:List Str} (hl:(KK P).lookup f=some o) (hd:o.data=.func fd) (hc:codeIn (KK P) fd.code fd.qualname=true) (hb:fd.body=.stmts body) (e:T6 fd ps nl ng=true):Ck am f fd body ps nl ng:=by
 unfold T6 at e
 simp only [eI,decide_eq_true_eq] at e
 obtain ⟨⟨⟨⟨⟨⟨⟨⟨a1,a2⟩,a3⟩,a4⟩,a5⟩,a6⟩,a7⟩,a8⟩,a9⟩:=e
 refine ⟨(i12 o (X _ _ hl) hd),xU X,codeRec_of X hc,hb,fun x hx q=>?_,by simpa using a2,by simpa using a3,by simpa using a4,by simpa using a5,by simpa using a6,a7,fun x hx=>by simpa using d0.mp a8 x hx,fun x hx=>by simpa using d0.mp a9 x hx⟩
 have:=d0.mp a1 x hx
 rw [q] at this
 simp at this
end
theorem bind1 {fd:da} {p0:Str} (h:∀ a,dH fd ⟨[a],[]⟩=pure [(p0,a)]) (s:af) (vs:List aa) (hv:vs.length=1):iI s fd ⟨vs.take (vs.length - 0),([]:List Str).zip (vs.drop (vs.length - 0))⟩ ([p0].zip vs):=by
 exact Bt hv fun a=>.of_eq (h a)
theorem EV {fd:da} {p0 p1:Str} (h:∀ a b,dH fd ⟨[a,b],[]⟩=pure [(p0,a),(p1,b)]) (s:af) (vs:List aa) (hv:vs.length=2):iI s fd ⟨vs.take (vs.length - 0),([]:List Str).zip (vs.drop (vs.length - 0))⟩ ([p0,p1].zip vs):=by
 exact zh hv fun a b=>.of_eq (h a b)
theorem MK {fd:da} {p0 p1 p2:Str} (h:∀ a b c,dH fd ⟨[a,b,c],[]⟩=pure [(p0,a),(p1,b),(p2,c)]) (s:af) (vs:List aa) (hv:vs.length=3):iI s fd ⟨vs.take (vs.length - 0),([]:List Str).zip (vs.drop (vs.length - 0))⟩ ([p0,p1,p2].zip vs):=by
 exact G7 hv fun a b c=>.of_eq (h a b c)
section
variable {H:AH}
theorem EW (X:(KK P).In am) {k sp p:Nat} {xs:List HP} {ni:HP} (hk:H[k]?=some (rY xs)) (hp:xs[p]?=some ni) (hz:xs.length≤1000000) :
  FN an w am (d+1) (.ref 72) H [.ref k,.int sp,.int p] [] (Is .none (H.set k (rY (wd sp ni p p xs)))):=by
 have hl:=(rK hp)
 refine uN (ps:=["heap","startpos","pos"]) (nl:=["newitem","parentpos","parent"]) (ng:=[]) (body:=Sr)
  (u0 X (o:=Nq tw P) (by kernel_rfl) rfl (by kernel_rfl) rfl (by kernel_rfl)) rfl (fun s vs hv _=>MK (fun a b c=>by kernel_rfl) s vs hv) ?_
 refine bd (t6 3 rfl (rR (lm 0 rfl rfl (lm 2 rfl rfl (.mk _ (tY hk hp hz) (.mk rfl ?_))))))
 refine bd (uB ((KI (sp:=sp) (ni:=ni) p p xs H none none hk (ar _) hl hz).mono ?_))
 rintro f ρ' H' ⟨rfl,p',zp,o1,o2,h1,h2,rfl,rfl,h3⟩
 refine bd (yz (lm 3 rfl rfl (lm 0 rfl rfl (lm 2 rfl rfl (.mk _ (yI (sR hk) h1 (h2▸hz)) ?_)))))
 refine ev ⟨rfl,?_⟩
 rw [bQ,h3]
end
section
set_option backward.match.sparseCases false
theorem yJ {p:Nat} (h:p≤1000000):small (p:Int)=true:=by
 unfold small
 rw [decide_eq_true_eq,qo]
 exact bN h (by decide +kernel)
noncomputable def sup:Nat→Nat→List HP→Nat×List HP
 | 0,p,xs=>(p,xs)
 | f+1,p,xs=>match xs[2 * p+1]? with
  | none=>(p,xs)
  | some a=>match xs[2 * p+2]? with
   | some b=>if tz a b then sup f (2 * p+1) (xs.set p a) else sup f (2 * p+2) (xs.set p b)
   | none=>sup f (2 * p+1) (xs.set p a)
theorem AT {f p:Nat} {xs:List HP}:sup (f+1) p xs=match xs[2 * p+1]? with
  | none=>(p,xs)
  | some a=>match xs[2 * p+2]? with
   | some b=>if tz a b then sup f (2 * p+1) (xs.set p a) else sup f (2 * p+2) (xs.set p b)
   | none=>sup f (2 * p+1) (xs.set p a):=rfl
section
noncomputable def ML:List Stmt:=fBody (vP pw 8)
noncomputable abbrev T7:List Str:=["heap","pos","endpos","startpos","newitem","childpos","rightpos","len","_siftdown"]
noncomputable abbrev Ss (k p n sp:Nat) (ni:HP) (o:Option AV):List ci:=[.loc (some (.ref k)),.loc (some (.int p)),.loc (some (.int n)),.loc (some (.int sp)),.loc (some (pv ni)),.loc (some (.int (2 * p+1:Nat))),.loc o,.rc,.rc]
theorem KL {k n sp:Nat} {ni:HP}:∀ (f p:Nat) (xs:List HP) (H:AH) (o:Option AV),H[k]?=some (rY xs)→xs.length=n→n≤p+f→p < n→n≤100000 →
  SC an w am d T7 (Ss k p n sp ni o) H (fun be=>.whileLoop (wT (nb ML 4)) (wB (nb ML 4)) (wO (nb ML 4)) be) (fun fl ρ' H'=>fl=.next∧∃ p' zp o',p' < zp.length∧zp.length=xs.length∧ρ'=Ss k p' n sp ni o'∧H'=H.set k (rY zp)∧(p',zp)=sup f p xs):=by
 intro f
 induction f with
 | zero=>intro p xs H o1 hk hn hf hp hz;exact lX hf hp
 | succ f ih =>
  intro p xs H o hk hn hf hp hz
  refine tu (dl (lm 5 rfl rfl (lm 2 rfl rfl (.mk _ rfl ?_))))
  by_cases h:2 * p+1 < n
  ·refine tX (by rw [decide_eq_true_eq];exact mK h) ?_
   obtain ⟨a,ha⟩ : ∃ a,xs[2 * p+1]?=some a:=⟨_,aQ (hn▸h)⟩
   have e1:sH .Add (.int (2 * p+1:Nat)) (.int 1) H=some (.int (2 * p+2:Nat),H):=by
    refine (?_:some (AV.int (((2 * p+1:Nat):Int)+1),H)=_)
    congr 3
   refine bd (t6 6 rfl (pc (lm 5 rfl rfl (f8 (.mk e1 (.mk rfl ?_))))))
   have rest:∀ (c:Nat) (x:HP) (o' : Option AV),xs[c]?=some x→p < c→(sup (f+1) p xs=sup f c (xs.set p x)) →
     ST an w am d T7 ((Ss k p n sp ni o').set 5 (.loc (some (.int (c:Nat))))) H (fun be=>aG ((wB (nb ML 4)).drop 2) be) (fun fl sZ H2=>match fl with
      | .next=>SC an w am d T7 sZ H2 (fun be=>.whileLoop (wT (nb ML 4)) (wB (nb ML 4)) (wO (nb ML 4)) be) (fun fl ρ' H'=>fl=.next∧∃ p' zp o',p' < zp.length∧zp.length=xs.length∧ρ'=Ss k p' n sp ni o'∧H'=H.set k (rY zp)∧(p',zp)=sup (f+1) p xs)
      | _=>False):=by
    intro c x o' hx YE T8
    have hc:=(rK hx)
    refine bd (yz (rR (lm 0 rfl rfl (lm 5 rfl rfl (.mk _ (tY hk hx (lR 900000 (lT (lE hn) hz))) ?_)))))
    refine lm 0 rfl rfl (lm 1 rfl rfl (.mk _ (yI hk (lT hp (lS hn)) (lR 900000 (lT (lE hn) hz))) ?_))
    refine bd (t6 1 rfl (lm 5 rfl rfl (.mk rfl ?_)))
    have e2:sH .Mult (.int 2) (.int c) (H.set k (rY (xs.set p x)))=some (.int (2 * c:Nat),H.set k (rY (xs.set p x))):=by
     refine (?_:(if small 2 && small c then some (AV.int (2 * (c:Int)),H.set k (rY (xs.set p x))) else none)=_)
     rw [if_pos (by rw [yJ (lR 900001 (lD 1 (lT hc (lT (lE hn) hz)))),nz];decide +kernel)]
     congr 3
    have e3:sH .Add (.int (2 * c:Nat)) (.int 1) (H.set k (rY (xs.set p x)))=some (.int (2 * c+1:Nat),H.set k (rY (xs.set p x))):=rfl
    refine bd (t6 5 rfl (pc (pc (f8 (lm 1 rfl rfl (.mk e2 (f8 (.mk e3 (.mk rfl ?_)))))))))
    refine ev ?_
    refine (ih c (xs.set p x) (H.set k (rY (xs.set p x))) o' (sR hk) (by simpa using hn) (aj hf (aj (aJ (cR _ _ 1)) (eQ YE _))) (lT hc (lE hn)) hz).mono ?_
    rintro fl ρ' H' ⟨rfl,p',zp,o',h1,h2,rfl,rfl,h3⟩
    exact (vm rfl (TE p' zp o' h1 (by simpa using h2) rfl (by simp) (h3.trans T8.symm)))
   refine bd (m0 (r9 (dl (lm 6 rfl rfl (lm 2 rfl rfl (.mk _ rfl ?_))))))
   by_cases h2:2 * p+2 < n
   ·refine tX (by rw [decide_eq_true_eq];exact mK h2) ?_
    obtain ⟨b,hb⟩ : ∃ b,xs[2 * p+2]?=some b:=⟨_,aQ (hn▸h2)⟩
    refine r9 (ud (Hf (rR (lm 0 rfl rfl (lm 5 rfl rfl (.mk _ (tY hk ha (lR 900000 (lT (lE hn) hz))) ?_))))))
    refine rR (lm 0 rfl rfl (lm 6 rfl rfl (.mk _ (tY hk hb (lR 900000 (lT (lE hn) hz))) (PT _ _ _ _ rfl rfl ?_))))
    refine (?_:if (!tz a b)=true then _ else _)
    by_cases tO:tz a b=true
    ·refine so (by simp [tO]) ?_
     refine so (by simp) ?_
     refine ev ((rest (2 * p+1) a _ ha (by lia) ?_).mono ?_)
     ·rw [AT,ha,hb];simp [tO]
     ·rintro fl ρ' H' hh
      cases fl <;> first | exact hh | exact hh.elim
    ·refine tX (by simp [tO]) ?_
     refine xH ?_
     refine tX rfl ?_
     refine bd (t6 5 rfl (lm 6 rfl rfl (.mk rfl ?_)))
     refine ev ((rest (2 * p+2) b _ hb (by lia) ?_).mono ?_)
     ·rw [AT,ha,hb];simp [tO]
     ·rintro fl ρ' H' hh
      cases fl <;> first | exact hh | exact hh.elim
   ·refine so (by rw [decide_eq_true_eq];exact mM h2) ?_
    refine so (by simp) ?_
    have hb:xs[2 * p+2]?=none:=e9 (lT (lE hn) (lN h2))
    refine ev ((rest (2 * p+1) a _ ha (by lia) ?_).mono ?_)
    ·rw [AT,ha,hb]
    ·rintro fl ρ' H' hh
     cases fl <;> first | exact hh | exact hh.elim
  ·refine so (by rw [decide_eq_true_eq];exact mM h) ?_
   have ha:xs[2 * p+1]?=none:=e9 (lT (lE hn) (lN h))
   refine ev (vm rfl (TE p xs o (lT hp (lS hn)) rfl rfl ((set_same hk).symm) ?_))
   rw [AT,ha]
end
end
noncomputable def v4 (p:Nat) (ni:HP) (xs:List HP):List HP:=let r:=sup xs.length p xs;wd p ni r.1 r.1 (r.2.set r.1 ni)
noncomputable def rW (xs:List HP) (x:HP):List HP:=wd 0 x xs.length xs.length (xs++[x])
noncomputable def tg (xs:List HP) (x:HP):List HP:=v4 0 x (xs.set 0 x)
noncomputable def Cv (xs:List HP) (x:HP):List HP:=match xs.dropLast with
 | []=>[]
 | _::_=>v4 0 x (xs.dropLast.set 0 x)
section
variable {H:AH}
theorem FN.to {f:aa} {as:List AV} {kw:List Str} {x:AV} {H' : AH} {R:AV→AH→Prop} (h:FN an w am d f H as kw (Is x H')) (r:R x H'):FN an w am d f H as kw R:=h.mono fun _ _ e=>e.1▸e.2▸r
theorem EY {k:Nat} {xs:List HP} {R:AV→AH→Prop} (hk:H[k]?=some (rY xs)) (hz:xs.length≤1000000) (r:R (.int xs.length) H):FN an w am d (.builtin "len") H [.ref k] [] R :=
 (xr (xs:=xs.map pv) hk (by simpa using hz)).to (by rw [aM];exact r)
theorem AU (X:(KK P).In am) {k p:Nat} {xs:List HP} {ni:HP} (hk:H[k]?=some (rY xs)) (hp:xs[p]?=some ni) (hz:xs.length≤100000) :
  FN an w am (d+2) (.ref 79) H [.ref k,.int p] [] (Is .none (H.set k (rY (v4 p ni xs)))):=by
 have hl:=(rK hp)
 refine uN (ps:=["heap","pos"]) (nl:=["endpos","startpos","newitem","childpos","rightpos"]) (ng:=["len","_siftdown"]) (body:=ML)
  (u0 X (o:=Nr tw P) (by kernel_rfl) rfl (by kernel_rfl) rfl (by kernel_rfl)) rfl (fun s vs hv _=>EV (fun a b=>by kernel_rfl) s vs hv) ?_
 refine bd (t6 2 rfl (io (ti 7 rfl rfl (ue X) (.mk nw (bi (lm 0 rfl rfl (cr (EY hk (lR 900000 hz) (tW _ _ rfl ?_)))))))))
 refine bd (t6 3 rfl (lm 1 rfl rfl (.mk rfl ?_)))
 refine bd (t6 4 rfl (rR (lm 0 rfl rfl (lm 1 rfl rfl (.mk _ (tY hk hp (lR 900000 hz)) (.mk rfl ?_))))))
 have e2:sH .Mult (.int 2) (.int p) H=some (.int (2 * p:Nat),H):=by
  refine (?_:(if small 2 && small p then some (AV.int (2 * (p:Int)),H) else none)=_)
  rw [if_pos (by rw [yJ (lR 900001 (lD 1 (lT hl hz))),nz];decide +kernel)]
  congr 3
 have e3:sH .Add (.int (2 * p:Nat)) (.int 1) H=some (.int (2 * p+1:Nat),H):=rfl
 refine bd (t6 5 rfl (pc (pc (f8 (lm 1 rfl rfl (.mk e2 (f8 (.mk e3 (.mk rfl ?_)))))))))
 refine bd (uB ((KL (n:=xs.length) (sp:=p) (ni:=ni) xs.length p xs H none hk rfl lJ hl hz).mono ?_))
 rintro f ρ' H' ⟨rfl,p',zp,o1,h1,h2,rfl,rfl,h3⟩
 refine bd (yz (lm 4 rfl rfl (lm 0 rfl rfl (lm 1 rfl rfl (.mk _ (yI (sR hk) h1 (lR 900000 (lT (lE h2) hz))) ?_)))))
 rw [bQ]
 refine bd (te (io (ti 8 rfl rfl (EU X) (.mk (tC X (by kernel_rfl)) (bi (lm 0 rfl rfl (bi (lm 3 rfl rfl (bi (lm 1 rfl rfl (cr ((EW X (sR hk) (by rw [az h1]) (by simp;exact lR 900000 (lT (lE h2) hz))).to ?_))))))))))))
 refine ev ⟨rfl,?_⟩
 rw [bQ]
 simp only [v4,← h3]
theorem AW (X:(KK P).In am):GL am "_siftup" (.ref 79):=su X (by kernel_rfl)
theorem zZ (X:(KK P).In am) {k:Nat} {xs:List HP} {a x:HP} (hk:H[k]?=some (rY xs)) (hp:xs[0]?=some a) (hz:xs.length≤100000) :
  FN an w am (d+3) (.ref 65) H [.ref k,pv x] [] (Is (pv a) (H.set k (rY (tg xs x)))):=by
 have hl:=(rK hp)
 refine uN (ps:=["heap","item"]) (nl:=["returnitem"]) (ng:=["_siftup"]) (body:=fBody (vP pw 6))
  (u0 X (o:=Np tw P) (by kernel_rfl) rfl (by kernel_rfl) rfl (by kernel_rfl)) rfl (fun s vs hv _=>EV (fun a b=>by kernel_rfl) s vs hv) ?_
 refine bd (t6 2 rfl (rR (lm 0 rfl rfl (f8 (.mk _ (tY (p:=0) hk hp (lR 900000 hz)) (.mk rfl ?_))))))
 refine bd (yz (lm 1 rfl rfl (lm 0 rfl rfl (f8 (.mk _ (yI (p:=0) hk hl (lR 900000 hz)) ?_)))))
 refine bd (te (io (ti 3 rfl rfl (AW X) (.mk (tC X (by kernel_rfl)) (bi (lm 0 rfl rfl (bi (f8 (cr ((AU (p:=0) X (sR hk) (by rw [az hl]) (by simpa using hz)).to ?_))))))))))
 refine bd (sF (lm 2 rfl rfl ⟨rfl,?_⟩))
 rw [bQ]
 rfl
end
section
variable {H:AH}
theorem DK {k:Nat} {xs:List HP} {x:HP} {R:AV→AH→Prop} (hk:H[k]?=some (rY xs)) (hz:xs.length≤1000000) (r:R .none (H.set k (rY (xs++[x])))):FN an w am d (.builtin "list.append") H [.ref k,pv x] [] R :=
 (uT (xs:=xs.map pv) hk (by simpa using hz)).to (by simpa [rY] using r)
theorem KM {k:Nat} {xs:List HP} {x:HP} {R:AV→AH→Prop} (hk:H[k]?=some (rY xs)) (hl:xs.getLast?=some x) (hz:xs.length≤1000000) (r:R (pv x) (H.set k (rY xs.dropLast))):FN an w am d (.builtin "list.pop") H [.ref k] [] R :=
 (NF (xs:=xs.map pv) (a:=pv x) hk (by rw [List.getLast?_map,hl];rfl) (by simpa using hz)).to (by simpa [rY,List.map_dropLast] using r)
theorem vg (X:(KK P).In am) {k:Nat} {xs:List HP} {x:HP} (hk:H[k]?=some (rY xs)) (hz:xs.length≤99999) :
  FN an w am (d+2) (.ref 51) H [.ref k,pv x] [] (Is .none (H.set k (rY (rW xs x)))):=by
 refine uN (ps:=["heap","item"]) (nl:=[]) (ng:=["_siftdown","len"]) (body:=fBody (vP pw 4))
  (u0 X (o:=Nn tw P) (by kernel_rfl) rfl (by kernel_rfl) rfl (by kernel_rfl)) rfl (fun s vs hv _=>EV (fun a b=>by kernel_rfl) s vs hv) ?_
 refine bd (te (uu (lm 0 rfl rfl (i12 _ (uO PySem.F.slot_list_append PySem.F.type_list_append hk) (bi (lm 1 rfl rfl (cr (DK hk (lR 900001 hz) ?_))))))))
 have e3:sH .Sub (.int (xs++[x]).length) (.int 1) (H.set k (rY (xs++[x])))=some (.int xs.length,H.set k (rY (xs++[x]))):=by
  refine (?_:some (AV.int (((xs++[x]).length:Int) - 1),H.set k (rY (xs++[x])))=_)
  congr 3
  simp
 refine bd (te (io (ti 2 rfl rfl (EU X) (.mk (tC X (by kernel_rfl)) (bi (lm 0 rfl rfl (bi (f8 (bi (pc (io (ti 3 rfl rfl (ue X) (.mk nw (bi (lm 0 rfl rfl (cr (EY (sR hk) (by simp;exact lR 900000 hz) (f8 (.mk e3 ?_)))))))))))))))))))
 refine cr ((EW (sp:=0) X (sR hk) (show (xs++[x])[xs.length]?=some x by simp) (by simp;exact lR 900000 hz)).to ?_)
 refine ev ⟨rfl,?_⟩
 rw [bQ]
 rfl
theorem DL (X:(KK P).In am) {k:Nat} {xs:List HP} {a x:HP} (hk:H[k]?=some (rY xs)) (hp:xs[0]?=some a) (hx:xs.getLast?=some x) (hz:xs.length≤100000) :
  FN an w am (d+3) (.ref 58) H [.ref k] [] (Is (pv a) (H.set k (rY (Cv xs x)))):=by
 refine uN (ps:=["heap"]) (nl:=["lastelt","returnitem"]) (ng:=["_siftup"]) (body:=fBody (vP pw 5))
  (u0 X (o:=No tw P) (by kernel_rfl) rfl (by kernel_rfl) rfl (by kernel_rfl)) rfl (fun s vs hv _=>bind1 (fun a=>by kernel_rfl) s vs hv) ?_
 refine bd (t6 1 rfl (xL (lm 0 rfl rfl (i12 _ (uO mn PySem.F.type_list_pop hk) (KM hk hx (lR 900000 hz) (tW _ _ rfl ?_))))))
 have tr:vU (.ref k) (H.set k (rY xs.dropLast))=some (!xs.dropLast.isEmpty):=by
  unfold vU
  dsimp only
  rw [sR hk]
  refine (?_:(if (xs.dropLast.map pv).length≤1000000 then some (!(xs.dropLast.map pv).isEmpty) else none)=_)
  rw [if_pos (by simp;exact lR 900001 hz),List.isEmpty_map]
 refine bd (m0 (rN (lm 0 rfl rfl (.mk _ tr ?_))))
 cases hd:xs.dropLast with
 | nil =>
  refine so (by simp) ?_
  refine ev (bd (sF (lm 1 rfl rfl ⟨?_,?_⟩)))
  ·have:xs=[x]:=by
    rcases ry xs with rfl | ⟨l,b,rfl⟩
    ·exact uH hp
    ·simp at hd hx
     subst hd hx
     rfl
   subst this
   simp at hp
   rw [hp]
  ·rw [Cv,hd]
 | cons b r =>
  have h0:0 < xs.dropLast.length:=by rw [hd];simp
  have hb:xs.dropLast[0]?=some a:=by
   rw [oM,if_pos (by simpa using h0),hp]
  refine tX rfl ?_
  rw [← hd]
  refine bd (t6 2 rfl (rR (lm 0 rfl rfl (f8 (.mk _ (tY (p:=0) (sR hk) hb (by simp;exact lR 900001 hz)) (.mk rfl ?_))))))
  refine bd (yz (lm 1 rfl rfl (lm 0 rfl rfl (f8 (.mk _ (yI (p:=0) (sR hk) h0 (by simp;exact lR 900001 hz)) ?_)))))
  rw [bQ]
  refine bd (te (io (ti 3 rfl rfl (AW X) (.mk (tC X (by kernel_rfl)) (bi (lm 0 rfl rfl (bi (f8 (cr ((AU (p:=0) X (sR hk) (by rw [az h0]) (by simp;exact lR 1 hz)).to ?_))))))))))
  refine bd (sF (lm 2 rfl rfl ⟨rfl,?_⟩))
  rw [bQ,Cv,hd]
end
noncomputable def BI:Nat→Nat→List Nat→List Nat
 | 0,n,l=>l
 | f+1,n,l=>if 63 < n then BI f (n / 64) ((n / 64 % 64+64)::l) else l
theorem BJ {f n:Nat} {l:List Nat}:BI (f+1) n l=if 63 < n then BI f (n / 64) ((n / 64 % 64+64)::l) else l:=rfl
noncomputable def iv (n:Nat):AV:=.int n
section
noncomputable def St:List Stmt:=fBody (vP pw 37)
noncomputable abbrev YF:List Str:=["number","octets"]
theorem KN:∀ (f n:Nat) (l:List Nat) (j:Nat) (H:AH),n≤f→H[j]?=some (.list (l.map iv))→l.length+f≤100000 →
  SC an w am d YF [.loc (some (.int n)),.loc (some (.ref j))] H (fun be=>.whileLoop (wT (nb St 1)) (wB (nb St 1)) (wO (nb St 1)) be) (fun fl ρ' H'=>fl=.next∧∃ n' j',ρ'=[.loc (some (.int (n' : Nat))),.loc (some (.ref j'))]∧H'[j']?=some (.list ((BI f n l).map iv))∧∃ G,H'=H++G):=by
 intro f
 induction f with
 | zero =>
  intro n l j H hn hj hz
  obtain rfl:n=0:=lA hn lZ
  refine tu (dl (lm 0 rfl rfl (f8 (.mk _ rfl ?_))))
  refine so (by simp) ?_
  exact ev (vm rfl (Do 0 j rfl hj (Au [] (by simp))))
 | succ f ih =>
  intro n l j H hn hj hz
  refine tu (dl (lm 0 rfl rfl (f8 (.mk _ rfl ?_))))
  by_cases h:63 < n
  ·refine tX (by simpa using (by exact mK h:(63:Int) < n)) ?_
   have e1:sH .FloorDiv (.int n) (.int 64) H=some (.int (n / 64:Nat),H):=by
    refine (?_:(if (64:Int)≠0∧(64:Int).natAbs < 1073741824 then some (AV.int ((n:Int).fdiv 64),H) else none)=_)
    rw [if_pos (by decide),oZ _ (by lia)]
    congr 3
   refine bd (t6 0 rfl (pc (lm 0 rfl rfl (f8 (.mk e1 (.mk rfl ?_))))))
   have e2:sH .Mod (.int (n / 64:Nat)) (.int 64) H=some (.int (n / 64 % 64:Nat),H):=by
    refine (?_:(if (64:Int)≠0 then some (AV.int (((n / 64:Nat):Int).fmod 64),H) else none)=_)
    rw [if_pos (by decide),rz _ (by lia)]
    congr 3
   have e3:sH .Add (.int (n / 64 % 64:Nat)) (.int 64) H=some (.int (n / 64 % 64+64:Nat),H):=rfl
   have wo:=(rK hj)
   refine bd (t6 1 rfl (uc (sB (bi (pc (pc (lm 0 rfl rfl (f8 (.mk e2 (f8 (.mk e3 (cr ⟨by simp,?_⟩))))))))))))
   refine lm 1 rfl rfl (wR (xs:=[iv (n / 64 % 64+64)]) (ys:=l.map iv) (by simp [iv]) (by rw [aR wo];exact hj) (by simp;exact XM hn hz h) (tW _ _ rfl ?_))
   refine ev ((ih (n / 64) ((n / 64 % 64+64)::l) _ _ (de (aC (Nat.div_lt_self (zA h) (by decide)) hn)) (by rw [aK (ar _)];simp) (by simp;exact nO hz)).mono ?_)
   rintro fl ρ' H' ⟨rfl,n',j',rfl,h2,G,rfl⟩
   refine (vm rfl (Do n' j' rfl ?_ (Au _ (ak _ _ _ |>.trans (ak _ _ _)))))
   rw [BJ,if_pos h]
   exact h2
  ·refine so (by simpa using (by lia:(n:Int)≤63)) ?_
   refine ev (vm rfl (Do n j rfl ?_ (Au [] (by simp))))
   rw [BJ,if_neg h]
   exact hj
noncomputable def sU (n:Nat):List Nat:=match BI n n [n % 64] with
 | []=>[]
 | a::r=>(a+128)::r
theorem KO:∀ (f n:Nat) (l:List Nat),l≠[]→BI f n l≠[]:=by
 intro v_
 induction v_ with
 | zero =>
  intro _ l h
  exact h
 | succ f sg =>
  intro n l h
  rw [BJ]
  split
  ·exact sg _ _ (by simp)
  ·exact h
theorem Hy:∀ (f n:Nat) (l:List Nat),(BI f n l).length≤l.length+f:=by
 intro v_
 induction v_ with
 | zero =>
  intro _ l
  exact ar _
 | succ f sg =>
  intro n l
  rw [BJ]
  split
  ·have:=sg (n / 64) ((n / 64 % 64+64)::l);simp at this ⊢;exact aj this (aJ (cR _ 1 _))
  ·exact lI
theorem FS (X:(KK P).In am) {n:Nat} {H:AH} (hn:n≤90000):FN an w am (d+1) (.ref 808) H [.int n] [] (fun r H'=>∃ j G,r=.ref j∧H'=H++G∧H.length≤j∧H'[j]?=some (.list ((sU n).map iv))):=by
 refine uN (ps:=["number"]) (nl:=["octets"]) (ng:=[]) (body:=St)
  (u0 X (o:=Kc tw P) (by kernel_rfl) rfl (by kernel_rfl) rfl (by kernel_rfl)) rfl (fun s vs hv _=>bind1 (fun a=>by kernel_rfl) s vs hv) ?_
 have e2:sH .Mod (.int n) (.int 64) H=some (.int (n % 64:Nat),H):=by
  refine (?_:(if (64:Int)≠0 then some (AV.int ((n:Int).fmod 64),H) else none)=_)
  rw [if_pos (by decide),rz _ (by lia)]
  congr 3
 refine bd (t6 1 rfl (sB (bi (pc (lm 0 rfl rfl (f8 (.mk e2 (cr (vm (by simp) (tW _ _ rfl ?_))))))))))
 refine bd (uB ((KN n n [n % 64] H.length (H++[.list [iv (n % 64)]]) (ar _) (by simp) (by simp;lia)).mono ?_))
 rintro fl ρ' H' ⟨rfl,n',j',rfl,h2,G,rfl⟩
 obtain ⟨a,r,ho⟩ : ∃ a r,BI n n [n % 64]=a::r:=by
  cases q:BI n n [n % 64] with
  | nil=>exact absurd q (KO _ _ _ (by simp))
  | cons a r=>exact (Km a r rfl)
 have mo:=Hy n n [n % 64]
 rw [ho] at h2 mo
 have hr:r.length≤100000:=by simp at mo;lia
 have wo:=(rK h2)
 have e4:sH .Add (.int (a:Nat)) (.int 128) (H++[AO.list [iv (n % 64)]]++G)=some (.int (a+128:Nat),H++[AO.list [iv (n % 64)]]++G):=rfl
 have e5:sT (.ref j') (.int 0) (H++[AO.list [iv (n % 64)]]++G)=some (.int (a:Nat)):=by
  unfold sT
  dsimp only
  rw [h2]
  simp [idx,iv]
 refine bd (sF (uc (sB (bi (pc (rR (lm 1 rfl rfl (f8 (.mk _ e5 (f8 (.mk e4 (cr ⟨by simp,?_⟩))))))))))))
 refine xM (lm 1 rfl rfl (uv (f8 (ve ⟨j',_,some 1,none,rfl,(by rw [aR wo];exact h2),(by simp;exact lR 899999 hr),rfl,rfl,(by simp),?_⟩))))
 refine wR (xs:=[iv (a+128)]) (ys:=r.map iv) (by rw [aR (by simp)];simp [iv]) (by simp [rV]) (by simp;lia) ⟨_,[AO.list [iv (n % 64)]]++(G++([AO.list [AV.int (a+128:Nat)]]++([AO.list (rV (jM iv (a::r)) (some 1) none)]++[AO.list ([iv (a+128)]++r.map iv)]))),rfl,?_,?_,?_⟩
 ·simp only [ak]
 ·simp
 ·rw [aK (ar _)]
  simp [sU,ho]
end
section
set_option tactic.hygienic true
theorem wy (a b:Nat):gS (a:Int) (b:Int)=((a &&& b:Nat):Int):=by
 rw [PyProof.Rows.bitAnd_pp (nF _) (nF _)]
 simp
theorem KQ (a b:Nat):kS (a:Int) (b:Int)=((a ||| b:Nat):Int):=by
 have h:=PyProof.Rows.nat_or_add_and a b
 rw [PyProof.Rows.bitOr_and,wy]
 lia
end
noncomputable def KR (os:List Nat):Nat→Nat→Nat→Nat→Option (Nat×Nat)
 | 0,b,v,i=>if b &&& 64=0 then some (v,i) else none
 | f+1,b,v,i=>if b &&& 64=0 then some (v,i) else if v < 2 ^ 58 then (match os[i]? with
  | none=>none
  | some c=>KR os f c (v * 64 ||| (c &&& 63)) (i+1)) else none
theorem MM {os:List Nat} {f b v i:Nat}:KR os (f+1) b v i=if b &&& 64=0 then some (v,i) else if v < 2 ^ 58 then (match os[i]? with
  | none=>none
  | some c=>KR os f c (v * 64 ||| (c &&& 63)) (i+1)) else none:=rfl
theorem Hz {os:List Nat} {b v i:Nat}:KR os 0 b v i=if b &&& 64=0 then some (v,i) else none:=rfl
section
noncomputable def Su:List Stmt:=fBody (vP pw 10)
noncomputable abbrev YG:List Str:=["iterator","b","val","next"]
theorem EZ (X:(KK P).In am):GL am "next" (.builtin "next"):=t7 X (by kernel_rfl) (by kernel_rfl)
noncomputable abbrev Wq (k b v:Nat):List ci:=[.loc (some (.ref k)),.loc (some (.int b)),.loc (some (.int v)),.rc]
set_option tactic.hygienic true in
theorem KS (X:(KK P).In am) {k l:Nat} {os:List Nat} (sj:l≠k):∀ (f b v i:Nat) (H:AH) (v' i' : Nat),H[k]?=some (.iter l i)→H[l]?=some (.list (os.map iv))→KR os f b v i=some (v',i') →
  SC an w am d YG (Wq k b v) H (fun be=>.whileLoop (wT (nb Su 2)) (wB (nb Su 2)) (wO (nb Su 2)) be) (fun fl ρ' H'=>fl=.next∧∃ b',ρ'=Wq k b' v'∧H'=H.set k (.iter l i')):=by
 intro f
 induction f with
 | zero =>
  intro b v i H v' i' hk hl h
  rw [Hz] at h
  split at h
  ·rename_i hb
   cases h
   have e:sH .BitAnd (.int b) (.int 64) H=some (.int (b &&& 64:Nat),H):=by
    refine (?_:some (AV.int (gS b 64),H)=_)
    rw [show (64:Int)=((64:Nat):Int) from rfl,wy]
   refine tu (rN (pc (lm 1 rfl rfl (f8 (.mk e (.mk _ rfl ?_))))))
   refine so (by rw [hb];simp) ?_
   exact ev (vm rfl (i12 b rfl ((set_same hk).symm)))
  ·exact uH h
 | succ f ih =>
  intro b v i H v' i' hk hl h
  rw [MM] at h
  have e:sH .BitAnd (.int b) (.int 64) H=some (.int (b &&& 64:Nat),H):=by
   refine (?_:some (AV.int (gS b 64),H)=_)
   rw [show (64:Int)=((64:Nat):Int) from rfl,wy]
  refine tu (rN (pc (lm 1 rfl rfl (f8 (.mk e (.mk _ rfl ?_))))))
  split at h
  ·rename_i hb
   cases h
   refine so (by rw [hb];simp) ?_
   exact ev (vm rfl (i12 b rfl ((set_same hk).symm)))
  ·rename_i hb
   refine tX (by simpa using hb) ?_
   split at h
   ·rename_i hv
    split at h
    ·exact uH h
    ·rename_i c hc
     refine bd (Hj (i:=2) rfl (by decide +kernel) (Hi (i:=2) rfl rfl (f8 (Kx (nF _) (nF _) (by rw [qo];exact nI hv) (tW _ _ rfl ?_)))))
     refine bd (t6 1 rfl (io (ti 3 rfl rfl (EZ X) (.mk nw (bi (lm 0 rfl rfl (cr (EH (a:=iv c) hk hl (by simp [hc]) (tW _ _ rfl ?_)))))))))
     have e2:sH .BitAnd (.int c) (.int 63) (H.set k (.iter l (i+1)))=some (.int (c &&& 63:Nat),H.set k (.iter l (i+1))):=by
      refine (?_:some (AV.int (gS c 63),_)=_)
      rw [show (63:Int)=((63:Nat):Int) from rfl,wy]
     refine bd (Hj (i:=2) rfl (by decide +kernel) (Hi (i:=2) rfl rfl (pc (lm 1 rfl rfl (f8 (.mk e2 (NI (tW _ _ rfl ?_))))))))
     have e3:kS ((v:Int) * 2 ^ (6:Int).toNat) ((c &&& 63:Nat):Int)=((v * 64 ||| (c &&& 63):Nat):Int):=by
      rw [show (v:Int) * 2 ^ (6:Int).toNat=((v * 64:Nat):Int) by simp,KQ]
     rw [e3]
     refine ev ((ih c _ (i+1) (H.set k (.iter l (i+1))) v' i' (sR hk) (by rw [aF (aq sj)];exact hl) h).mono ?_)
     rintro fl ρ' H' ⟨rfl,b',rfl,rfl⟩
     exact (vm rfl (i12 b' rfl (by simp)))
   ·exact uH h
theorem FT (X:(KK P).In am) {k l i f b v' i' : Nat} {os:List Nat} {H:AH} (hk:H[k]?=some (.iter l i)) (hl:H[l]?=some (.list (os.map iv))) (hb:os[i]?=some b) (h:KR os f b (b &&& 63) (i+1)=some (v',i')) :
  FN an w am (d+1) (.ref 86) H [.ref k] [] (Is (.int v') (H.set k (.iter l i'))):=by
 have sj:l≠k:=fun e=>by subst e;rw [hk] at hl;cases hl
 refine uN (ps:=["iterator"]) (nl:=["b","val"]) (ng:=["next"]) (body:=Su)
  (u0 X (o:=Nt tw P) (by kernel_rfl) rfl (by kernel_rfl) rfl (by kernel_rfl)) rfl (fun s vs hv _=>bind1 (fun a=>by kernel_rfl) s vs hv) ?_
 refine bd (t6 1 rfl (io (ti 3 rfl rfl (EZ X) (.mk nw (bi (lm 0 rfl rfl (cr (EH (a:=iv b) hk hl (by simp [hb]) (tW _ _ rfl ?_)))))))))
 have e2:sH .BitAnd (.int b) (.int 63) (H.set k (.iter l (i+1)))=some (.int (b &&& 63:Nat),H.set k (.iter l (i+1))):=by
  refine (?_:some (AV.int (gS b 63),_)=_)
  rw [show (63:Int)=((63:Nat):Int) from rfl,wy]
 refine bd (t6 2 rfl (pc (lm 1 rfl rfl (f8 (.mk e2 (.mk rfl ?_))))))
 refine bd (uB ((KS X sj f b (b &&& 63) (i+1) (H.set k (.iter l (i+1))) v' i' (sR hk) (by rw [aF (aq sj)];exact hl) h).mono ?_))
 rintro fl ρ' H' ⟨rfl,b',rfl,rfl⟩
 refine bd (sF (lm 2 rfl rfl ⟨rfl,?_⟩))
 simp
end
structure W3 where
 a:Int
 b:Int
 c:Int
noncomputable def W3.es (W:W3):List (List Nat×Int):=[([39],W.a),([32],W.b),([35],W.c)]
noncomputable def W3.of (W:W3) (x:Nat):Int:=if x=39 then W.a else if x=32 then W.b else W.c
noncomputable def W3.sum (W:W3):Int:=W.a+W.b+W.c
structure W3.Ok (W:W3):Prop where
 a1:1≤W.a
 a2:W.a≤2 ^ 100
 b1:1≤W.b
 b2:W.b≤2 ^ 100
 c1:1≤W.c
 c2:W.c≤2 ^ 100
noncomputable def tT (x:Nat):Bool:=x == 39 || x == 32 || x == 35
noncomputable def sM (W:W3) (t:Nat) (x:List Nat):Int:=x.foldl (fun pi y=>pi * W.of y) (W.sum ^ (t - x.length))
theorem W3.of_le {W:W3} (h:W.Ok) (y:Nat):1≤W.of y∧W.of y≤2 ^ 102:=by
 have:=h.a1;have:=h.a2;have:=h.b1;have:=h.b2;have:=h.c1;have:=h.c2
 unfold W3.of
 split
 ·lia
 ·split <;> lia
theorem W3.wz {W:W3} (h:W.Ok):1≤W.sum∧W.sum≤2 ^ 102:=by
 have:=h.a1;have:=h.a2;have:=h.b1;have:=h.b2;have:=h.c1;have:=h.c2
 unfold W3.sum
 lia
theorem wX {S:Int} (h1:1≤S) (h2:S≤2 ^ 102):∀ n:Nat,1≤S ^ n∧S ^ n≤2 ^ (102 * n):=by
 intro v_
 induction v_ with
 | zero =>
  simp
 | succ n sg =>
  obtain ⟨a,b⟩:=sg
  rw [mr,pH,Int.pow_add]
  exact ⟨by have:=fR a h1 (by decide) (bI a);simpa using this,fR b h2 (bI h1) (by exact bI (Int.pow_pos (by decide)))⟩
theorem z0 {W:W3} (h:W.Ok):∀ (x:List Nat) (v:Int) (n:Nat),1≤v→v≤2 ^ (102 * n)→1≤x.foldl (fun pi y=>pi * W.of y) v∧x.foldl (fun pi y=>pi * W.of y) v≤2 ^ (102 * (n+x.length)):=by
 intro v_
 induction v_ with
 | nil =>
  intro v n a b
  exact ⟨a,b⟩
 | cons y r sg =>
  intro v n a b
  obtain ⟨c,e⟩:=W3.of_le h y
  have h1:1≤v * W.of y:=by have:=fR a c (by decide) (bI a);simpa using this
  have h2:v * W.of y≤2 ^ (102 * (n+1)):=by
   rw [pH,Int.pow_add]
   exact fR b e (bI c) (bI (Int.pow_pos (by decide)))
  have:=sg (v * W.of y) (n+1) h1 h2
  rw [fN,aS,show n+(r.length+1)=n+1+r.length from by lia]
  exact this
theorem xV {v:Int} {n:Nat} (h1:1≤v) (h2:v≤2 ^ (102 * n)) (hn:n≤8):small v=true:=by
 unfold small
 rw [decide_eq_true_eq]
 have e:(2:Int) ^ (102 * n)≤2 ^ 816:=by
  have:(2:Nat) ^ (102 * n)≤2 ^ 816:=qG (by decide) (by lia)
  exact_mod_cast this
 have:(2:Int) ^ 816 < 2 ^ 900:=by decide
 have h3:v < 2 ^ 900:=jw (aY h2 e) (by decide +kernel)
 have:(v.natAbs:Int) < ((2 ^ 900:Nat):Int):=by
  rw [qf (bI h1)]
  have e2:((2 ^ 900:Nat):Int)=2 ^ 900:=by norm_cast
  rw [e2];exact h3
 exact_mod_cast this
theorem HA {W:W3} (h:W.Ok) {t:Nat} {x:List Nat} (hx:x.length≤t):1≤sM W t x∧sM W t x≤2 ^ (102 * t):=by
 obtain ⟨a,b⟩:=W3.wz h
 obtain ⟨c,e⟩:=wX a b (t - x.length)
 have:=z0 h x _ _ c e
 rw [show t - x.length+x.length=t from by exact oD hx] at this
 exact this
section
set_option backward.match.sparseCases false
noncomputable def fT:Stmt→Expr
 | .For t ..=>t
 | _=>.Constant .none 0 ⟨0,0,0,0⟩
noncomputable def fB:Stmt→List Stmt
 | .For _ _ b ..=>b
 | _=>[]
noncomputable def fO:Stmt→List Stmt
 | .For _ _ _ o _=>o
 | _=>[]
theorem vE (X:(KK P).In am):∃ o,am.get? gi=some o:=⟨_,X 1 (Tk tw P) (by kernel_rfl)⟩
section
theorem yK (X:(KK P).In am):GL am "sum" (.builtin "sum"):=t7 X (by kernel_rfl) (by kernel_rfl)
noncomputable def Sv:List Stmt:=fBody (vP pw 38)
noncomputable abbrev YH:List Str:=["word","weights","turns","weight","letter","sum","len"]
theorem W3.find {W:W3} {y:Nat} (h:tT y=true):∃ j:Nat,W.es[j]?=some ([y],W.of y):=by
 simp only [tT,cZ,beq_iff_eq] at h
 rcases h with (rfl | rfl) | rfl
 ·exact ⟨0,rfl⟩
 ·exact ⟨1,rfl⟩
 ·exact ⟨2,rfl⟩
theorem KT {W:W3} (hW:W.Ok) {l k t ep n0:Nat} {x:List Nat} {v0:Int} (hx:∀ y∈x,tT y=true) (h1:1≤v0) (h2:v0≤2 ^ (102 * n0)) (hn:n0+x.length≤8) (YI:l≠k):∀ (n i:Nat) (H:AH) (o:Option AV),x.length - i=n→i≤x.length→H[l]?=some (sa an w W.es ep)→H[k]?=some (BC x i) →
  SF an w am d YH [.loc (some (.str x)),.loc (some (.ref l)),.loc (some (.int t)),.loc (some (.int ((x.take i).foldl (fun pi y=>pi * W.of y) v0))),.loc o,.rc,.rc] H k (fun be it=>.forLoop (fT (nb Sv 1)) it (fB (nb Sv 1)) (fO (nb Sv 1)) be)
   (fun f ρ' H'=>f=.next∧∃ o',ρ'=[.loc (some (.str x)),.loc (some (.ref l)),.loc (some (.int t)),.loc (some (.int (x.foldl (fun pi y=>pi * W.of y) v0))),.loc o',.rc,.rc]∧H'=H.set k .s9):=by
 intro n
 induction n with
 | zero =>
  intro i H o Ph hi hl hk
  have:i=x.length:=VN Ph hi
  subst this
  refine tQ (Hs hk (fun c e=>?_) (fun _=>?_))
  ·have:=(rK e);exact lX this lO
  ·exact ev ⟨rfl,o,by rw [jE],rfl⟩
 | succ n ih =>
  intro i H o Ph hi hl hk
  have sj:k < H.length:=(rK hk)
  refine tQ (Hs hk (fun c e=>?_) (fun e=>?_))
  ·have va:=(rK e)
   have hc:=hx c (bx e)
   refine vo 4 rfl rfl ?_
   obtain ⟨j,hj⟩:=W3.find (W:=W) hc
   have FK : (H.set k (BC x (i+1)))[l]?=some (sa an w W.es ep):=by rw [aF (aq YI)];exact hl
   have tk:x.take (i+1)=x.take i++[c]:=by rw [ju,e];rfl
   have q_:=z0 hW (x.take i) v0 n0 h1 h2;have f1:=q_.1;have f2:=q_.2
   have q_:=W3.of_le hW c;have w1:=q_.1;have w2:=q_.2
   have e1:sH .Mult (.int ((x.take i).foldl (fun pi y=>pi * W.of y) v0)) (.int (W.of c)) (H.set k (BC x (i+1)))=some (.int ((x.take (i+1)).foldl (fun pi y=>pi * W.of y) v0),H.set k (BC x (i+1))):=by
    refine (?_:(if small _ && small _ then some _ else none)=_)
    rw [xV f1 f2 (by rw [dO];exact XN hn hi va),xV (n:=1) w1 (by simpa using w2) (lR 7 lO)]
    simp [tk,mv]
   refine bd (t6 3 rfl (pc (lm 3 rfl rfl (KG (lm 1 rfl rfl (lm 4 rfl rfl ⟨l,W.es,ep,[c],W.of c,j,rfl,rfl,FK,hj,_,_,_,_,rfl,rfl,e1,_,_,rfl,?_⟩))))))
   refine ev ?_
   refine (ih (i+1) (H.set k (BC x (i+1))) (some (.str [c])) (TD Ph hi va) va FK (az sj)).mono ?_
   rintro f ρ' H' ⟨rfl,o',rfl,rfl⟩
   exact (vm rfl (i12 o' rfl (by rw [bQ])))
  ·have:=bM.mp e;exact VO Ph hi this
theorem wY (X:(KK P).In am) {W:W3} (hW:W.Ok) {l t ep:Nat} {x:List Nat} {H:AH} (hx:∀ y∈x,tT y=true) (hl:H[l]?=some (sa an w W.es ep)) (Qt:x.length≤t) (ht:t≤3) :
  FN an w am (d+1) (.ref 815) H [.str x,.ref l,.int t] [] (Is (.int (sM W t x)) H):=by
 refine FN.drop (uN (ps:=["word","weights","turns"]) (nl:=["weight","letter"]) (ng:=["sum","len"]) (body:=Sv)
  (u0 X (o:=Kd tw P) (by kernel_rfl) rfl (by kernel_rfl) rfl (by kernel_rfl)) rfl (fun s vs hv _=>MK (fun a b c=>by kernel_rfl) s vs hv) ?_)
 have ui:=(rK hl)
 have q_:=W3.wz hW;have s1:=q_.1;have s2:=q_.2
 have es:ul (W.es.map (·.2))=W.sum:=by simp [ul,W3.es,W3.sum]
 have e1:sH .Sub (.int t) (.int x.length) (H++[ug l])=some (.int (t - x.length:Nat),H++[ug l]):=by
  refine (?_:some (AV.int ((t:Int) - x.length),_)=_)
  rw [qc Qt]
 have e2:sH .Pow (.int W.sum) (.int (t - x.length:Nat)) (H++[ug l])=some (.int (W.sum ^ (t - x.length)),H++[ug l]):=by
  refine (?_:(if small W.sum∧0≤((t - x.length:Nat):Int)∧((t - x.length:Nat):Int)≤64 then some (AV.int (W.sum ^ ((t - x.length:Nat):Int).toNat),H++[ug l]) else none)=_)
  rw [if_pos (sS (xV (n:=1) s1 (by simpa using s2) (lR 7 lO)) (nF _) (XO ht))]
  rfl
 have q_:=wX s1 s2 (t - x.length);have p1:=q_.1;have p2:=q_.2
 refine bd (t6 3 rfl (pc (io (ti 5 rfl rfl (yK X) (.mk nw (bi (xL (lm 1 rfl rfl (.mk "dict.values" (BE jA my hl) (yG (vE X) hl (cr (xm (l:=l) (v:=H.length) (by simp) (by rw [aR ui];exact hl) ?_))))))))))))
 rw [es]
 refine pc (lm 2 rfl rfl (io (ti 6 rfl rfl (ue X) (.mk nw (bi (lm 0 rfl rfl (cr (um (lR 999997 (lT Qt ht)) (JL _ _ _ _ rfl rfl e1 (JL _ _ _ _ rfl rfl e2 (tW _ _ rfl ?_)))))))))))
 refine bd (wr (lm 0 rfl rfl (NP ?_ ?_)))
 ·rw [d0]
  intro y hy
  have:=hx y hy
  simp only [tT,cZ,beq_iff_eq] at this
  simp only [decide_eq_true_eq]
  exact this.elim (fun q=>q.elim (fun e=>e▸(by decide)) (fun e=>e▸(by decide))) (fun e=>e▸(by decide))
 refine (KT hW (l:=l) (n0:=t - x.length) hx p1 p2 (aj (aJ (fA Qt)) (aj ht (by decide))) (by simp;exact lL (lR 1 ui)) x.length 0 _ none rfl lZ (by rw [aR (by simp;exact lR 1 ui),aR ui];exact hl) (by simp)).mono ?_
 rintro f ρ' H' ⟨rfl,o',rfl,rfl⟩
 refine bd (sF (lm 3 rfl rfl ?_))
 refine (Kn H [ug l,.s9] ?_ (uY.refl H) rfl rfl rfl)
 rw [ak,bY _ _ (by simp)]
 simp
end
end
theorem po.ints {h:Heap} {α:Nat→Addr} {n:Nat} {l:List Int} {vs:List aa} (V:po h α n (l.map .int) vs) {i:Nat} {u:aa} (e:vs[i]?=some u):∃ t,u=.int (l[i]?.getD 0) t:=by
 have hi:i < l.length:=by have:=(rK e);rw [V.length,aM] at this;exact this
 obtain ⟨v,hv,r⟩:=V.get (i:=i) (a:=.int l[i]) (by rw [bu,aQ hi];rfl)
 rw [e] at hv
 cases hv
 refine r.tI fun _=>?_
 exact ⟨_,by rw [aQ hi];rfl⟩
section
variable {nm:List Str} {ρ:List ci} {H:AH} {R:AV→AH→Prop}
theorem BK {k:Nat} {l:List Int} (hk:H[k]?=some (.list (l.map .int))) (r:R (.int (ul l)) H):FN an w am d (.builtin "sum") H [.ref k] [] R:=by
 intro A L m α s Q E vs hr I V c
 refine V.se fun _ _ b V=>?_
 refine V.t0 ?_
 refine b.sO fun _=>?_
 obtain ⟨vs,n,g,hl,VV⟩:=I.isList hk
 have sj:=I.lt (rK hk)
 have mo:vs.length=l.length:=by rw [VV.length,aM]
 refine sC (call_sum_walkG (ie hl ?_))
 refine ⟨s.heap.objs.size,[s.heap.objs.size,α k],[s.heap.objs.size],vs.toArray.size,_,_,fun i=>l[i]?.getD 0,rfl,ny (A:=A.in1) hr.handled _ (α k) (ax sj) vs.toArray,⟨⟨_,bj _ rfl,rfl,rfl⟩,hl.push _⟩,?_,fun i u e=>VV.ints (by simpa using e),?_⟩
 ·intro b hb
  refine (?_:b < (s.heap.push _).objs.size)
  rw [cF]
  rcases aA.mp hb with rfl | hb
  ·exact bB _
  ·rw [aU.mp hb];exact bJ sj
 ·intro h' tk t' hk hz
  have keep:∀ b o,s.heap.get? b=some o→h'.get? b=some o:=fun b o e=>hk b o (by simp only [aU];exact ax (aH e)) (bT _ e)
  obtain ⟨x,I'⟩:=I.vf keep hz
  rw [zX l _ (fun i v e=>by simp only [e];rfl) (by simpa using mo)]
  exact c _ _ α _ {s with heap:=h',toks:=tk} r x I' (.int _ t') ⟨rfl,id⟩
theorem Cw (l:List Int):∀ k,k < l.length→argBest (fun i j=>decide (l[i]?.getD 0 > l[j]?.getD 0)) k≤k∧∀ i≤k,l[i]?.getD 0≤l[argBest (fun i j=>decide (l[i]?.getD 0 > l[j]?.getD 0)) k]?.getD 0:=by
 intro v_
 induction v_ with
 | zero =>
  intro _
  exact ⟨ar _,fun i hi=>by have:i=0:=(lA hi lZ);subst this;exact fw _⟩
 | succ k sg =>
  intro h
  obtain ⟨a,b⟩:=sg (lD 1 (lR 1 h))
  rw [argBest]
  split
  ·rename_i q
   have q:=of_decide_eq_true q
   refine ⟨ar _,fun i hi=>?_⟩
   by_cases e:i=k+1
   ·subst e;exact fw _
   ·have:=b i (lD 1 (lC hi e));lia
  ·rename_i q
   have q:¬ _:=fun h=>q (decide_eq_true h)
   refine ⟨lR 1 a,fun i hi=>?_⟩
   by_cases e:i=k+1
   ·subst e;exact mZ q
   ·exact b i (lD 1 (lC hi e))
theorem NT {k:Nat} {l:List Int} (hk:H[k]?=some (.list (l.map .int))) (sz:l≠[]) (r:∀ v,v∈l→(∀ u∈l,u≤v)→R (.int v) H):FN an w am d (.builtin "max") H [.ref k] [] R:=by
 intro A L m α s Q E vs hr I V c
 refine V.se fun _ _ b V=>?_
 refine V.t0 ?_
 refine b.sO fun _=>?_
 obtain ⟨vs,n,g,hl,VV⟩:=I.isList hk
 have sj:=I.lt (rK hk)
 have mo:vs.length=l.length:=by rw [VV.length,aM]
 have HC:0 < l.length:=ky.mpr sz
 refine sC (call_max_walk (ie hl ?_))
 refine ⟨s.heap.objs.size,[s.heap.objs.size,α k],[s.heap.objs.size],vs.toArray.size,_,_,fun i j=>decide (l[i]?.getD 0 > l[j]?.getD 0),rfl,ny (A:=A.in1) hr.handled _ (α k) (ax sj) vs.toArray,⟨⟨_,bj _ rfl,rfl,rfl⟩,hl.push _⟩,?_,by simpa [mo] using HC,?_,?_⟩
 ·intro b hb
  refine (?_:b < (s.heap.push _).objs.size)
  rw [cF]
  rcases aA.mp hb with rfl | hb
  ·exact bB _
  ·rw [aU.mp hb];exact bJ sj
 ·intro i j vi vj s' Q' E' hi hj hQ
  obtain ⟨t,rfl⟩:=VV.ints (i:=i) (u:=vi) (by simpa using hi)
  obtain ⟨t',rfl⟩:=VV.ints (i:=j) (u:=vj) (by simpa using hj)
  exact pD hQ
 ·intro v h' tk hv hk hz
  have keep:∀ b o,s.heap.get? b=some o→h'.get? b=some o:=fun b o e=>hk b o (by simp only [aU];exact ax (aH e)) (bT _ e)
  obtain ⟨x,I'⟩:=I.vf keep hz
  have hs:vs.toArray.size - 1=l.length - 1:=by simp [mo]
  rw [hs] at hv
  obtain ⟨h1,h2⟩:=Cw l (l.length - 1) (dh HC dC)
  obtain ⟨t,rfl⟩:=VV.ints (u:=v) (by simpa using hv)
  have hb:argBest (fun i j=>decide (l[i]?.getD 0 > l[j]?.getD 0)) (l.length - 1) < l.length:=bN h1 (dh HC dC)
  refine c _ _ α _ {s with heap:=h',toks:=tk} (r _ ?_ fun u hu=>?_) x I' (.int _ t) ⟨rfl,id⟩
  ·rw [aQ hb];exact eL hb
  ·obtain ⟨i,hi⟩:=gj.mp hu
   have:=h2 i (by have:=(rK hi);exact jk this)
   rw [hi] at this
   exact this
theorem FU {a b:Int} (r:R (.ref H.length) (H++[sn a b])):FN an w am d (.type "range") H [.int a,.int b] [] R:=by
 intro A L m α s Q E vs hr I V c
 refine V.se fun _ _ x V=>?_
 refine V.se fun _ _ y V=>?_
 refine V.t0 ?_
 refine x.tI fun _=>?_
 refine y.tI fun _=>?_
 refine call_range_2 ?_
 obtain ⟨x,I',V'⟩:=I.ux (b:=0) (p:=fun _ o=>∃ t u v,o={cls:=.type "range",data:=.fields #[.int a t,.int b u,.int 1 v]}) (o:={cls:=.type "range",data:=.fields #[.int a _,.int b _,.int 1 _]}) (bK _) (fun _ _ _=>rfl) (Ko _ _ _ rfl) (fun o z=>by obtain ⟨_,_,_,rfl⟩:=z;rfl)
 exact c _ _ _ _ {s with heap:=_,toks:=_} r x I' V' ⟨rfl,id⟩
theorem HE {k j:Nat} {i:Int} {xs:List AV} {a:AV} (hk:H[k]?=some (.list xs)) (hi:idx i xs.length=some j) (ha:xs[j]?=some a) (hz:xs.length≤1000000) (r:R a (H.set k (.list (xs.eraseIdx j)))):FN an w am d (.builtin "list.pop") H [.ref k,.int i] [] R:=by
 intro A L m α s Q E vs hr I V c
 refine V.se fun _ _ b V=>?_
 refine V.se fun _ _ b2 V=>?_
 refine V.t0 ?_
 refine b.sO fun _=>?_
 refine b2.tI fun _=>?_
 rename_i sj t
 obtain ⟨vs,n,g,AM,VV⟩:=I.isList hk
 obtain ⟨y,hy,Y⟩:=VV.get ha
 have mo:=VV.length
 have q:=Bv hi
 have hj:j < vs.length:=(rK hy)
 have er:vs.toArray.eraseIdxIfInBounds j=(vs.eraseIdx j).toArray:=by simp [oS,hj]
 obtain ⟨xt,I'⟩:=I.turn hk g (f:=fun xs=>xs.eraseIdxIfInBounds j) (ys:=xs.eraseIdx j) (us:=vs.eraseIdx j) er (VV.eraseIdx _)
 refine lY mn (i12 _ g rfl) qe (PySem.F.args_list_pop_2 _ _) (MeetsSeq.list_pop_at (α k) vs.toArray n i t j y ?_ (by simpa [mo] using q.1) (by simpa using hy) (by rw [bZ,mo];unfold cX;exact nI hz)) ⟨g,?_⟩
 ·unfold aT.List.listFitsIndex
  simp only [eI,decide_eq_true_eq]
  exact ⟨q.2.1,q.2.2⟩
 ·exact c _ _ α _ _ r xt I' (Y.ext xt I.kt) ⟨rfl,id⟩
theorem AX {k j:Nat} {xs ys:List AV} (hk:H[k]?=some (.list xs)) (hj:H[j]?=some (.list ys)) (hz:xs.length+ys.length≤1000000) (r:R .none (H.set k (.list (xs++ys)))):FN an w am d (.builtin "list.extend") H [.ref k,.ref j] [] R:=by
 intro A L m α s Q E vs hr I V c
 refine V.se fun _ _ b V=>?_
 refine V.se fun _ _ b2 V=>?_
 refine V.t0 ?_
 refine b.sO fun _=>?_
 refine b2.sO fun _=>?_
 obtain ⟨vs,n,g,AM,VV⟩:=I.isList hk
 obtain ⟨us,n2,g2,YJ,UU⟩:=I.isList hj
 have mo:=VV.length
 have MN:=UU.length
 obtain ⟨xt,I'⟩:=I.turn hk g (f:=fun x=>x++us.toArray) (ys:=xs++ys) (us:=vs++us) (by simp) (VV.append UU)
 refine lY PySem.F.slot_list_extend (i12 _ g rfl) PySem.F.entry_list_extend (PySem.F.args_list_extend_2 _ _) (PySem.AutoSeq1.list_extend_list_list_0 (α k) vs.toArray n (α j) us.toArray n2 ?_ (by rw [bZ,mo];unfold cX;lia) (by simp only [bZ];unfold cX;exact aj (aJ (congr (congrArg HAdd.hAdd mo) MN)) (aj hz (by decide)))) (sS g g2 ?_)
 ·unfold aT.List.listTooLong
  simp
  intro _
  refine (?_:vs.length+us.length≤16777216)
  exact aj (aJ (congr (congrArg HAdd.hAdd mo) MN)) (aj hz (by decide))
 ·exact c _ _ α _ {s with heap:=_} r xt I' .none ⟨rfl,id⟩
end
theorem DM (l:List Nat) (a:Nat):∀ m,((bq m).map fun k=>a+k).filterMap (l[·]?)=(l.drop a).take m:=by
 intro v_
 induction v_ with
 | zero =>
  simp -iota
 | succ m sg =>
  rw [jl,dF,List.filterMap_append,sg,ju]
  congr 1
  simp -iota only [bD,List.map_nil,List.filterMap_cons,List.filterMap_nil,l5]
  cases l[a+m]? <;> rfl
theorem uo (l:List Nat) (x y:Option Int) (a m:Nat) (hm:a+m≤l.length) (e:kz x y 1 l.length=(bq m).map (fun k=>a+k)):jn ⟨l.toArray⟩ x y=⟨((l.drop a).take m).toArray⟩:=by
 unfold jn
 have hl:(⟨l.toArray⟩ : Str).length=l.length:=by simp -iota [di]
 rw [hl,e]
 have hg:∀ k:Nat,(⟨l.toArray⟩ : Str).cps[k]?=l[k]?:=fun k=>by simp -iota
 split
 ·rename_i q
  simp -iota only [aM,ji,beq_self_eq_true,Bool.true_and,beq_iff_eq] at q
  have:a=0:=by lia
  subst this
  rw [fh,q,jE]
 ·simp -iota only [hg]
  rw [DM]
noncomputable def E0 (len:Nat) (d:Int):Option Int→Int
 | none=>d
 | some i=>max 0 (min (if i < 0 then i+(len:Int) else i) len)
theorem HF (x y:Option Int) (len:Nat):kz x y 1 len=sliceRange (E0 len 0 x) (E0 len len y) 1:=by
 unfold kz
 simp -iota only [show (1:Int) > 0 from by decide,if_true]
 cases x <;> cases y <;> rfl
theorem vF {x y:Option Int} {len a b:Nat} (hx:E0 len 0 x=(a:Int)) (hy:E0 len len y=(b:Int)) :
  kz x y 1 len=(bq (b - a)).map (fun k=>a+k):=by
 rw [HF]
 rw [hx,hy]
 unfold sliceRange
 simp -iota only [show (1:Int) > 0 from by decide,if_true]
 have:(if (a:Int) < (b:Int) then ((b:Int) - a+1 - 1) / 1 else 0).toNat=b - a:=by
  split
  ·exact (congrArg mh ((Int.ediv_one _).trans (qy _ _))).trans (oU b a)
  ·rename_i h;exact (qz (bC fun q=>h (mK q))).symm
 rw [this]
 refine gN fun k _=>?_
 exact congrArg (_+·) (Nat.one_mul _)
theorem NU (l:List Nat):∀ (x y:Option Nat),(∀ u v,x=some u→y=some v→u≤v∧v≤l.length)→jn ⟨l.toArray⟩ (x.map gV) (y.map gV)=⟨(rV l x y).toArray⟩
 | none,none,_=>by
  rw [uo l _ _ 0 l.length (by lia) (vF (a:=0) (b:=l.length) rfl rfl)]
  simp [rV]
 | some u,none,_=>by
  by_cases h:u≤l.length
  ·rw [uo l _ _ u (l.length - u) (aJ (dG h)) (vF (a:=u) (b:=l.length) (by refine (?_:max 0 (min (if (u:Int) < 0 then _ else (u:Int)) _)=_);rw [if_neg (nE _)];exact mJ h) rfl)]
   rw [oE (by simp)]
   rfl
  ·rw [uo l _ _ l.length (l.length - l.length) (by lia) (vF (a:=l.length) (b:=l.length) (by refine (?_:max 0 (min (if (u:Int) < 0 then _ else (u:Int)) _)=_);rw [if_neg (by lia)];exact PN h) rfl)]
   simp [rV,ki (oq h)]
 | none,some v,_=>by
  by_cases h:v≤l.length
  ·rw [uo l _ _ 0 (v - 0) (by lia) (vF (a:=0) (b:=v) rfl (by refine (?_:max 0 (min (if (v:Int) < 0 then _ else (v:Int)) _)=_);rw [if_neg (nE _)];exact mJ h))]
   simp [rV]
  ·rw [uo l _ _ 0 (l.length - 0) (by lia) (vF (a:=0) (b:=l.length) rfl (by refine (?_:max 0 (min (if (v:Int) < 0 then _ else (v:Int)) _)=_);rw [if_neg (by lia)];exact PN h))]
   simp [rV,oE (oq h)]
 | some u,some v,h=>by
  have q_:=h u v rfl rfl;have h1:=q_.1;have h2:=q_.2
  rw [uo l _ _ u (v - u) (aj (aJ (dG h1)) h2) (vF (a:=u) (b:=v) (by refine (?_:max 0 (min (if (u:Int) < 0 then _ else (u:Int)) _)=_);rw [if_neg (nE _)];exact mJ (aj h1 h2)) (by refine (?_:max 0 (min (if (v:Int) < 0 then _ else (v:Int)) _)=_);rw [if_neg (nE _)];exact mJ h2))]
  rfl
section
variable {nm:List Str} {ρ:List ci} {H:AH} {R:AV→AH→Prop}
theorem v5 {A:au} {E:aa→af→Prop} {s:af} {t:Addr} {items:Array aa} {targets:List (Bool×(aa→Sem Unit))} {Q:Unit→af→Prop} (hh:A.handled=none) (ht:IsTup s.heap t items)
  (hn:targets.length=items.size) (HG:targets.findIdx? (·.1)=none)
  (h:∀ h',eX s.heap.objs.size s.heap h'→s.heap.objs.size≤h'.objs.size→ag (ah an w) A (assignInOrder (targets.map (·.2)) items.toList) Q E {s with heap:=h'}) :
  ag (ah an w) A (unpack (.ref t) targets) Q E s:=by
 unfold unpack
 rw [hn,HG]
 exact ab (cH (sC (dm (unpackItems_tuple (Q:=fun items s'=>∃ h',items=_∧s'={s with heap:=h'}∧eX s.heap.objs.size s.heap h') hh ht fun h' hx=>(sN h' rfl rfl hx)) (fun _ _ q hz=>by obtain ⟨h',rfl,rfl,hx⟩:=q;exact h h' hx hz) fun _ _ e _=>e)))
noncomputable def Sw (an:aD) (w:aw) (am:Heap) (d:Nat) (nm:List Str) (t:Expr) (a:AV) (R:List ci→AH→Prop):List ci→AH→Prop:=fun sZ H1=>AS an w am d nm sZ H1 t a R
set_option tactic.hygienic true in
theorem xW {t1 t2:Expr} {k:Nat} {p:Pos} {a1 a2:AV} {R:List ci→AH→Prop} (h:AS an w am d nm ρ H t1 a1 (Sw an w am d nm t2 a2 R))
  (he:∀ be,mQ [t1,t2] be=[(false,cL t1 be),(false,cL t2 be)]:=by intro _;rfl):AS an w am d nm ρ H (.Tuple [t1,t2] k p) (.tup [a1,a2]) R:=by
 intro be A L m α s Q E v hr S I D V kk
 refine V.FF fun _ _ _ g ne VV=>?_
 cases VV with | cons V1 VV =>
 cases VV with | cons V2 VV =>
 cases VV
 rename_i a e v1 v2
 have ht:IsTup s.heap a #[v1,v2]:=(sN _ g rfl (Au _ rfl))
 rw [mx]
 refine ab (dq ?_)
 rw [he be]
 refine v5 hr.handled ht rfl rfl fun h' hx hz=>?_
 have q_:=I.vf (h':=h') (fun b o e=>hx b o (ax (aH e)) e) hz;have x1:=q_.1;have I1:=q_.2
 refine gq (h be A L m α {s with heap:=h'} _ E v1 hr (S.ext x1) I1 (D.ext x1 I.kt) (V1.ext x1 I.kt) fun wn m2 sP H2 s2 h2 x2 I2 S2 D2 Z2=>?_)
 refine gq (h2 be A L m2 sP s2 _ E v2 hr S2 I2 D2 ((V2.ext x1 I.kt).ext x2 I1.kt) fun Dq m3 sQ H3 s3 h3 x3 I3 S3 D3 Z3=>?_)
 exact lp (kk Dq m3 sQ H3 s3 h3 ((x1.trans x2).trans x3) I3 S3 D3 ((rM.trans (s:=s) (s':={s with heap:=h'}) ⟨rfl,id⟩ Z2).trans Z3))
set_option tactic.hygienic true in
theorem KU {t1 t2 t3:Expr} {k:Nat} {p:Pos} {a1 a2 a3:AV} {R:List ci→AH→Prop} (h:AS an w am d nm ρ H t1 a1 (Sw an w am d nm t2 a2 (Sw an w am d nm t3 a3 R)))
  (he:∀ be,mQ [t1,t2,t3] be=[(false,cL t1 be),(false,cL t2 be),(false,cL t3 be)]:=by intro _;rfl):AS an w am d nm ρ H (.Tuple [t1,t2,t3] k p) (.tup [a1,a2,a3]) R:=by
 intro be A L m α s Q E v hr S I D V kk
 refine V.FF fun _ _ _ g ne VV=>?_
 cases VV with | cons V1 VV =>
 cases VV with | cons V2 VV =>
 cases VV with | cons V3 VV =>
 cases VV
 rename_i a e v1 v2 v3
 have ht:IsTup s.heap a #[v1,v2,v3]:=(sN _ g rfl (Au _ rfl))
 rw [mx]
 refine ab (dq ?_)
 rw [he be]
 refine v5 hr.handled ht rfl rfl fun h' hx hz=>?_
 have q_:=I.vf (h':=h') (fun b o e=>hx b o (ax (aH e)) e) hz;have x1:=q_.1;have I1:=q_.2
 refine gq (h be A L m α {s with heap:=h'} _ E v1 hr (S.ext x1) I1 (D.ext x1 I.kt) (V1.ext x1 I.kt) fun wn m2 sP H2 s2 h2 x2 I2 S2 D2 Z2=>?_)
 refine gq (h2 be A L m2 sP s2 _ E v2 hr S2 I2 D2 ((V2.ext x1 I.kt).ext x2 I1.kt) fun Dq m3 sQ H3 s3 h3 x3 I3 S3 D3 Z3=>?_)
 refine gq (h3 be A L m3 sQ s3 _ E v3 hr S3 I3 D3 (((V3.ext x1 I.kt).ext x2 I1.kt).ext x3 I2.kt) fun Si m4 Dw H4 s4 h4 x4 I4 S4 D4 Z4=>?_)
 exact lp (kk Si m4 Dw H4 s4 h4 (((x1.trans x2).trans x3).trans x4) I4 S4 D4 (((rM.trans (s:=s) (s':={s with heap:=h'}) ⟨rfl,id⟩ Z2).trans Z3).trans Z4))
theorem DN {elts:List Expr} {k:Nat} {tp pos:Pos} {value:Expr} {R:AF→List ci→AH→Prop} (h:EX an w am d nm ρ H (fun be=>eval value be) (fun a H1=>AS an w am d nm ρ H1 (.Tuple elts k tp) a (R .next)))
  (hs:∀ be,swapsWithSole [.Tuple elts k tp] value pos.line be=pure false:=by intro _;rfl)
  (hw:∀ be,swappedStores [.Tuple elts k tp] value be=pure none:=by intro _;rfl):ST an w am d nm ρ H (fun be=>exec (.Assign [.Tuple elts k tp] value pos) be) R:=fun be A L m α s Q E hr S I D kk=>by
 refine Assign_Tuple (h.then hr S I D fun a v rS H1 s1 h1 x1 I1 V1 Z1 S1 D1=>?_) (hs be) (hw be)
 exact h1 be A L m rS s1 _ E v hr S1 I1 D1 V1 fun ρ' m' dL H' s' r x2 I2 S2 D2 Z2=>kk _ _ ρ' m' dL H' s' r (x1.trans x2) I2 S2 D2 .next (Z1.trans Z2)
theorem Qu {t b o:Expr} {pos:Pos} (h:EB an w am d nm ρ H (AL t) (fun c H1=>if c=true then EX an w am d nm ρ H1 (fun be=>eval b be) R else EX an w am d nm ρ H1 (fun be=>eval o be) R)) :
  EX an w am d nm ρ H (fun be=>eval (.IfExp t b o pos) be) R:=fun be A L m α s Q E hr S I D kk=>by
 refine wpAny_IfExp (h.then hr S I D fun c rS H1 s1 h1 x1 I1 Z1 S1 D1=>?_)
 cases c with
 | true =>
  simp -iota only [if_true] at h1 ⊢
  exact h1.then hr S1 I1 D1 fun a v sP H2 s2 h2 x2 I2 V2 Z2 _ _=>kk a v sP H2 s2 h2 (x1.trans x2) I2 V2 (Z1.trans Z2)
 | false =>
  simp -iota only [cG,if_false] at h1 ⊢
  exact h1.then hr S1 I1 D1 fun a v sP H2 s2 h2 x2 I2 V2 Z2 _ _=>kk a v sP H2 s2 h2 (x1.trans x2) I2 V2 (Z1.trans Z2)
end
noncomputable def rQ (l:List (List Nat)):List AV:=l.map .str
theorem po.strs {h:Heap} {α:Nat→Addr} {n:Nat} {l:List (List Nat)} {vs:List aa} (V:po h α n (rQ l) vs):∃ ps:List (Str×Tok),vs=bc ps∧ps.map (·.1)=l.map fun x=>(⟨x.toArray⟩ : Str):=by
 induction l generalizing vs with
 | nil=>exact po.t0 (D:=fun vs=>∃ ps:List (Str×Tok),vs=bc ps∧ps.map (·.1)=_) V (i12 [] rfl rfl)
 | cons x l ih =>
  refine po.se V fun _ _ a r=>a.ub fun t=>?_
  obtain ⟨ps,rfl,e⟩:=ih r
  exact (i12 ((⟨x.toArray⟩,t)::ps) rfl (by simp [e]))
noncomputable def sA (sep:List Nat):List (List Nat)→List Nat
 | []=>[]
 | [x]=>x
 | x::y::r=>x++sep++sA sep (y::r)
theorem KV {s x y:List Nat} {r:List (List Nat)}:sA s (x::y::r)=x++s++sA s (y::r):=rfl
theorem E1 {s x:List Nat}:sA s [x]=x:=rfl
theorem join_list (sep:List Nat):∀ l:List (List Nat),Str.join ⟨sep.toArray⟩ (l.map fun x=>(⟨x.toArray⟩ : Str))=⟨(sA sep l).toArray⟩
 | []=>rfl
 | [x]=>rfl
 | x::y::r=>by
  have ih:=join_list sep (y::r)
  simp only [bD] at ih ⊢
  rw [Str.join,ih,wN,wN,KV]
  exact fun h=>by cases h
theorem z3 (sep:List Nat) (l:List (List Nat)):Txt.join ⟨sep.toArray⟩ (l.map fun x=>(⟨x.toArray⟩ : Str))=⟨(sA sep l).toArray⟩:=by
 rw [← join_list]
 exact StrLaws.glued_eq_join _ _
noncomputable def th (l:List (List Nat)):Nat:=(l.map eZ).sum
theorem HI (k:Nat):∀ (l:List (List Nat)) (a:Nat),((l.map fun x=>(⟨x.toArray⟩ : Str))).foldl (fun a p=>a+p.length+k) a=a+th l+l.length * k:=by
 intro v_
 induction v_ with
 | nil =>
  intro a
  simp [th]
 | cons x l sg =>
  intro a
  rw [bD,fN,sg]
  have:(⟨x.toArray⟩ : Str).length=x.length:=by simp [di]
  rw [this]
  simp only [th,bD,pP,aS,Nat.succ_mul]
  lia
theorem KW {sep:List Nat} {l:List (List Nat)} (h:th l+l.length * sep.length≤1000000):JoinOk ⟨sep.toArray⟩ (l.map fun x=>(⟨x.toArray⟩ : Str))=true:=by
 unfold JoinOk
 rw [List.foldl_toArray,HI]
 have:(⟨sep.toArray⟩ : Str).length=sep.length:=by simp [di]
 rw [this]
 unfold aT.Str.tooLong
 simp only [qN,decide_eq_false_iff_not]
 have:=cD
 lia
section
variable {nm:List Str} {ρ:List ci} {H:AH} {R:AV→AH→Prop}
theorem E2 {x:List Nat}:∀ (A:au) (L:Addr) (m:Str→Option aa) (α:Nat→Addr) (s:af) (v:aa) (pl:Sem Bool) (Q:aa×List aa→af→Prop) (E:aa→af→Prop),Inv am L m α H s.heap→pp s.heap α H.length (.str x) v→Q (.builtin "str.join",[v]) s→ag (ah an w) A (dT v "join" pl) Q E s:=by
 intro A L m α s v pl Q E I V q
 cases V
 exact GM.join q
theorem E3 {k:Nat} {sep:List Nat} {l:List (List Nat)} (hk:H[k]?=some (.list (rQ l))) (hz:th l+l.length * sep.length≤1000000) (r:R (.str (sA sep l)) H):FN an w am d (.builtin "str.join") H [.str sep,.ref k] [] R:=by
 intro A L m α s Q E vs hr I V c
 refine V.se fun _ _ b V=>?_
 refine V.se fun _ _ b2 V=>?_
 refine V.t0 ?_
 refine b.ub fun _=>?_
 refine b2.sO fun _=>?_
 obtain ⟨vs,n,g,hl,VV⟩:=I.isList hk
 obtain ⟨ps,rfl,e⟩:=VV.strs
 refine SC.join hl e (KW hz) fun t' kk=>?_
 rw [z3]
 exact c _ _ α _ {s with toks:=kk} r Ext.refl I (.str _ t') ⟨rfl,id⟩
theorem part_of {v:aa} {o:Option Int} (p:IsPart v o):∃ q:Option (Int×Tok),v=gA q∧q.map (·.1)=o:=by
 cases p with
 | none=>exact (i12 none rfl rfl)
 | int i t=>exact (i12 (some (i,t)) rfl rfl)
theorem wZ {value:Expr} {lo hi:Option Expr} {p pos:Pos} (h:EX an w am d nm ρ H (fun be=>eval value be) (fun a H1=>EP an w am d nm ρ H1 lo (fun i H2=>EP an w am d nm ρ H2 hi (fun j H3 =>
   ∃ l x y,a=.str l∧l.length≤1000000∧vW i=some x∧vW j=some y∧(∀ u v,x=some u→y=some v→u≤v∧v≤l.length)∧R (.str (rV l x y)) H3))))
  (hs:∀ o i,∃ ops,gc (.Slice lo hi none p) false o i=gC ops (fz o i):=by intro _ _;with_unfolding_all exact ⟨_,rfl⟩) :
  EX an w am d nm ρ H (fun be=>eval (.Subscript value (.Slice lo hi none p) pos) be) R:=fun be A L m α s Q E hr S I D c=>by
 refine hY (h.then hr S I D fun a v rS H1 s1 h1 x1 I1 V1 Z1 S1 D1=>?_)
 refine kH (EX.then h1 hr S1 I1 D1 fun i vi sP H2 s2 h2 x2 I2 V2 Z2 S2 D2=>?_)
 refine EX.then h2 hr S2 I2 D2 fun j vj sQ H3 s3 h3 x3 I3 V3 Z3 S3 D3=>?_
 rw [jP]
 refine ai ?_
 obtain ⟨l,x,y,rfl,hz,e1,e2,hb,hR⟩:=h3
 have He:=(V1.ext x2 I1.kt).ext x3 I2.kt
 refine He.ub fun _=>?_
 rename_i t
 have Kw:=V2.ext x3 I2.kt
 obtain ⟨p1,q1,r1⟩:=part_of (yA e1 Kw)
 obtain ⟨p2,q2,r2⟩:=part_of (yA e2 V3)
 subst q1 q2
 have xa:=vr sQ H3.length s3.heap L {cls:=.type "slice",data:=.fields #[gA p1,gA p2,.none]}
 have Ia:Inv am L m sQ H3 (s3.heap.push {cls:=.type "slice",data:=.fields #[gA p1,gA p2,.none]}):=I3.same xa (I3.fr.push _) fun i hi=>cW _ _ _ (ax (I3.lt hi))
 obtain ⟨ops,hs⟩:=hs (.str ⟨l.toArray⟩ t) (.ref s3.heap.objs.size)
 have es:=NU l x y hb
 rw [← r1,← r2] at es
 refine fJ (s:={s3 with heap:=s3.heap.push {cls:=.type "slice",data:=.fields #[gA p1,gA p2,.none]}}) (m8 _ _ _) F.slot_str_getitem.lookup (wpAny_getItem_str_slice (l:=p1) (u:=p2) (st:=none) (sN _ (bj _ rfl) rfl rfl) rfl (post_val_or_str (Q:=Q) (y:=⟨l.toArray⟩) ?_)) hs
 refine (?_:(jn ⟨l.toArray⟩ (p1.map (·.1)) (p2.map (·.1))).length≤cX∧∀ t' k,Q (.str (jn ⟨l.toArray⟩ (p1.map (·.1)) (p2.map (·.1))) t') _)
 rw [es]
 refine ⟨?_,fun t' k=>c _ _ sQ H3 {s3 with heap:=_,toks:=k} hR (((x1.trans x2).trans x3).trans xa) Ia (.str _ t') (((Z1.trans Z2).trans Z3).trans ⟨rfl,id⟩)⟩
 have:(rV l x y).length≤l.length:=by
  cases x <;> cases y <;> simp [rV] <;> first | exact jT _ _ | exact aj (jT _ _) (dS _ _) | lia
 refine (?_:(rV l x y).toArray.size≤16777216)
 rw [bZ]
 exact lR 15777216 (lT this hz)
theorem zq (l r:List (List Nat)) {ps qs:List (Str×Tok)} (e1:ps.map (·.1)=l.map fun x=>(⟨x.toArray⟩ : Str)) (e2:qs.map (·.1)=r.map fun x=>(⟨x.toArray⟩ : Str)):(ps.map (·.1) == qs.map (·.1))=(l == r):=by
 rw [e1,e2]
 induction l generalizing r ps qs with
 | nil=>cases r <;> rfl
 | cons x l ih =>
  cases r with
  | nil=>rfl
  | cons y r =>
   have:=ih r (ps:=l.map fun x=>((⟨x.toArray⟩ : Str),0)) (qs:=r.map fun x=>((⟨x.toArray⟩ : Str),0)) (by simp [aX,j9]) (by simp [aX,j9])
   simp only [bD]
   rw [pZ,pZ,this,str_beq]
theorem E4 {A:au} {s:af} {ps qs:List (Str×Tok)} (j:Nat) (h1:j < (bc ps).toArray.size) (h2:j < (bc qs).toArray.size) :
  SeqAt.EqAt A s (bc ps).toArray[j] (bc qs).toArray[j] (((ps.map (·.1))[j]?) == ((qs.map (·.1))[j]?)):=by
 have l1:j < ps.length:=by simpa [bc] using h1
 have l2:j < qs.length:=by simpa [bc] using h2
 have e1:(bc ps).toArray[j]=.str ps[j].1 ps[j].2:=by simp [bc]
 have e2:(bc qs).toArray[j]=.str qs[j].1 qs[j].2:=by simp [bc]
 rw [e1,e2]
 intro an w E Q hq
 refine n9 ?_
 have:((ps.map (·.1))[j]? == (qs.map (·.1))[j]?)=(ps[j].1 == qs[j].1):=by simp [l1,l2]
 rw [← this]
 exact hq
theorem all_eq {β:Type} [BEq β] [LawfulBEq β] (a b:List β) (h:a.length=b.length):((bq a.length).all fun j=>a[j]? == b[j]?)=(a == b):=by
 by_cases e:a=b
 ·subst e;simp
 ·have:(a == b)=false:=by simpa using e
  rw [this,oI]
  intro q
  refine e (jK fun i=>?_)
  by_cases hi:i < a.length
  ·have:=d0.mp q i (dc.mpr hi)
   simpa using this
  ·rw [e9 (lN hi),e9 (lT (lS h) (lN hi))]
theorem E5 {ps qs:List (Str×Tok)} (h:ps.length≠qs.length):((ps.map (·.1)) == (qs.map (·.1)))=false:=by
 rw [oI]
 intro q
 exact h (by simpa using congrArg eZ (eq_of_beq q))
theorem KX {a b:Nat} {l r:List (List Nat)} {R:AV→AH→Prop} (ha:H[a]?=some (.list (rQ l))) (hb:H[b]?=some (.list (rQ r))) (rr:R (.bool (l == r)) H):y0 an w am d H (.ref a) (.ref b) (dQ .Eq) R:=by
 intro A L m α s Q E v u hr I V U c
 refine V.sO fun _=>?_
 refine U.sO fun _=>?_
 obtain ⟨vs,n,g,hl,VV⟩:=I.isList ha
 obtain ⟨us,n2,g2,u9,UU⟩:=I.isList hb
 obtain ⟨ps,rfl,e1⟩:=VV.strs
 obtain ⟨qs,rfl,e2⟩:=UU.strs
 have fin:=c _ (.bool (l == r)) α H s rr Ext.refl I (.bool _) rM.refl
 have hu:A.units < cLine:=by have:=hr.units;exact lD 100 (lR 100 (lT (lU 101 lI) this))
 by_cases hz:ps.length=qs.length
 ·refine SeqAt.eq_listAt (e:=fun j=>((ps.map (·.1))[j]?) == ((qs.map (·.1))[j]?)) hl u9 (by simp [bc,hz]) hu (fun j h1 h2=>E4 j h1 h2) ?_
  have e3:(bq (bc ps).toArray.size).all (fun j=>((ps.map (·.1))[j]?) == ((qs.map (·.1))[j]?))=(l == r):=by
   rw [show (bc ps).toArray.size=(ps.map (·.1)).length by simp [bc],all_eq _ _ (by simpa using hz),zq l r e1 e2]
  rw [e3]
  exact fin
 ·refine SeqAt.eq_list_lengthsAt hl u9 (by simp [bc,hz]) hu ?_
  have e3:(l == r)=false:=by rw [← zq l r e1 e2,E5 hz]
  rw [e3] at fin
  exact fin
theorem zr {a b:Nat} {l r:List (List Nat)} {R:AV→AH→Prop} (ha:H[a]?=some (.list (rQ l))) (hb:H[b]?=some (.list (rQ r))) (rr:R (.bool (l != r)) H):y0 an w am d H (.ref a) (.ref b) (dQ .NotEq) R:=by
 intro A L m α s Q E v u hr I V U c
 refine V.sO fun _=>?_
 refine U.sO fun _=>?_
 obtain ⟨vs,n,g,hl,VV⟩:=I.isList ha
 obtain ⟨us,n2,g2,u9,UU⟩:=I.isList hb
 obtain ⟨ps,rfl,e1⟩:=VV.strs
 obtain ⟨qs,rfl,e2⟩:=UU.strs
 have fin:=c _ (.bool (l != r)) α H s rr Ext.refl I (.bool _) rM.refl
 have hu:A.units < cLine:=by have:=hr.units;exact lD 100 (lR 100 (lT (lU 101 lI) this))
 by_cases hz:ps.length=qs.length
 ·refine rp (op:=.NotEq) (i12 _ g rfl) (i12 _ g2 rfl) oR oF (pj _ _) (SeqAt.list_neAt _ _ _ _ _ _ _ _ _ _ (by simp [bc,hz]) (fun j=>((ps.map (·.1))[j]?) == ((qs.map (·.1))[j]?)))
   (FE g g2 (fun j h1 h2=>E4 j h1 h2) ?_) hu
  have e3:(bq (bc ps).toArray.size).all (fun j=>((ps.map (·.1))[j]?) == ((qs.map (·.1))[j]?))=(l == r):=by
   rw [show (bc ps).toArray.size=(ps.map (·.1)).length by simp [bc],all_eq _ _ (by simpa using hz),zq l r e1 e2]
  rw [e3]
  exact ⟨(fun x=>nomatch x),fin⟩
 ·have e3:(l != r)=true:=by simp only [bne];rw [← zq l r e1 e2,E5 hz];rfl
  rw [e3] at fin
  exact rp (op:=.NotEq) (i12 _ g rfl) (i12 _ g2 rfl) oR oF (pj _ _) (SeqAt.list_ne_lengthsAt _ _ _ _ _ _ _ _ _ _ (by simp [bc,hz]))
   (sS g g2 ⟨(fun x=>nomatch x),fin⟩) hu
end
noncomputable def tF {α:Type} (lt:Nat→Nat→Bool):KasT α→α
 | .ret a=>a
 | .ask i j k=>tF lt (k (lt i j))
theorem uU {α β:Type} (lt:Nat→Nat→Bool) (f:α→KasT β):∀ t:KasT α,tF lt (t.bind f)=tF lt (f (tF lt t))
 | .ret _=>rfl
 | .ask i j k=>uU lt f (k (lt i j))
noncomputable def zk {α:Type} (lt:Nat→Nat→Bool) (N:Nat):KasT α→Prop
 | .ret _=>True
 | .ask i j k=>i < N∧j < N∧zk lt N (k (lt i j))
theorem uV {α β:Type} {lt:Nat→Nat→Bool} {N:Nat} {f:α→KasT β}:∀ {t:KasT α},zk lt N t→zk lt N (f (tF lt t))→zk lt N (t.bind f)
 | .ret _,_,h=>h
 | .ask i j k,h1,h=>(sS h1.1 h1.2.1 (uV (t:=k (lt i j)) h1.2.2 h))
theorem AY {α:Type} {cmp:Nat→Nat→(Bool→af→Prop)→af→Prop} {lt:Nat→Nat→Bool} {N:Nat} {J:af→Prop} (hc:∀ i j C s,i < N→j < N→J s→(∀ s',J s'→C (lt i j) s')→cmp i j C s) :
  ∀ (t:KasT α) (Q:α→af→Prop) (s:af),zk lt N t→J s→(∀ s',J s'→Q (tF lt t) s')→t.kasWp cmp Q s
 | .ret a,Q,s,_,j,h=>h s j
 | .ask i k t,Q,s,q,j,h=>hc i k _ s q.1 q.2.1 j fun s' j'=>AY hc (t (lt i k)) Q s' q.2.2 j' h
section
variable {lt:Nat→Nat→Bool} {N:Nat}
noncomputable abbrev g (p:Array Nat) (i:Nat):Nat:=p.getD i 0
theorem zs {p q:Array Nat} {i j:Nat} (h:p[i]?=q[j]?):g p i=g q j:=by
 unfold g
 rw [qw,qw,h]
noncomputable def So (lt:Nat→Nat→Bool) (p:Array Nat) (k:Nat):Prop:=∀ i j,i < j→j < k→lt (g p i) (g p j)=true
noncomputable def De (lt:Nat→Nat→Bool) (p:Array Nat) (k:Nat):Prop:=∀ i j,i < j→j < k→lt (g p j) (g p i)=true
structure Ord (lt:Nat→Nat→Bool) (N:Nat):Prop where
 tr:∀ a b c,a < N→b < N→c < N→lt a b=true→lt b c=true→lt a c=true
 T9:∀ a b,a < N→b < N→a≠b→lt a b=false→lt b a=true
 YK:∀ a b,a < N→b < N→lt a b=true→lt b a=false
structure Pm (p:Array Nat) (N:Nat):Prop where
 size:p.size=N
 perm:p.toList.Perm (bq N)
theorem Pm.lw {p:Array Nat} (P:Pm p N) {i:Nat} (h:i < N):g p i < N:=by
 have hi:i < p.size:=by rw [P.size];exact h
 have:g p i=p[i]:=by unfold g;simp [lu,hi]
 rw [this]
 have hm:p[i]∈p.toList:=rq.mpr (Array.getElem_mem hi)
 exact dc.mp (P.perm.mem_iff.mp hm)
theorem Pm.ne {p:Array Nat} (P:Pm p N) {i j:Nat} (hi:i < N) (hj:j < N) (h:i≠j):g p i≠g p j:=by
 have nd:p.toList.Nodup:=P.perm.nodup_iff.mpr jD
 have Ca : i < p.toList.length:=by simp [P.size];exact hi
 have Qv : j < p.toList.length:=by simp [P.size];exact hj
 have e1:g p i=p.toList[i]:=by unfold g;simp [lu,show i < p.size by rw [P.size];exact hi]
 have e2:g p j=p.toList[j]:=by unfold g;simp [lu,show j < p.size by rw [P.size];exact hj]
 rw [e1,e2]
 intro e
 rcases kZ i j with q | q | q
 ·exact (cK.mp nd) i j Ca Qv q e
 ·exact h q
 ·exact (cK.mp nd) j i Qv Ca q e.symm
theorem Pm.mirror {p:Array Nat} (P:Pm p N) (i j:Nat):Pm (iF p i j) N:=⟨by unfold iF;rw [mirror_size,P.size],(pf.mp (mirror_perm p i j _)).trans P.perm⟩
theorem Pm.bubble {p:Array Nat} (P:Pm p N) (k d:Nat):Pm (bubble p k d) N:=⟨by rw [bubble_size,P.size],(pf.mp (bubble_perm p k d)).trans P.perm⟩
theorem So.snoc {p:Array Nat} (O:Ord lt N) (P:Pm p N) {n:Nat} (h1:1≤n) (hn:n < N) (s:So lt p n) (h:lt (g p (n - 1)) (g p n)=true):So lt p (n+1):=by
 intro i j xX hj
 by_cases q:j < n
 ·exact s i j xX q
 ·have:j=n:=lA (lD 1 hj) (lN q)
  subst this
  by_cases r:i=j - 1
  ·subst r;exact h
  ·exact O.tr _ _ _ (P.lw (lD 1 (lR 1 (lT (lU 1 xX) hn)))) (P.lw (lT (lU 1 lV) hn)) (P.lw hn) (s i (j - 1) (VR xX h1 r) (dh h1 dC)) h
theorem De.snoc {p:Array Nat} (O:Ord lt N) (P:Pm p N) {n:Nat} (h1:1≤n) (hn:n < N) (s:De lt p n) (h:lt (g p n) (g p (n - 1))=true):De lt p (n+1):=by
 intro i j xX hj
 by_cases q:j < n
 ·exact s i j xX q
 ·have:j=n:=lA (lD 1 hj) (lN q)
  subst this
  by_cases r:i=j - 1
  ·subst r;exact h
  ·exact O.tr _ _ _ (P.lw hn) (P.lw (lT (lU 1 lV) hn)) (P.lw (lD 1 (lR 1 (lT (lU 1 xX) hn)))) h (s i (j - 1) (VR xX h1 r) (dh h1 dC))
theorem BL (O:Ord lt N) {p:Array Nat} (P:Pm p N):∀ (f n:Nat),1≤n→n+f≤N→So lt p n →
  n≤tF lt (cP p f n)∧tF lt (cP p f n)≤n+f∧So lt p (tF lt (cP p f n))∧(tF lt (cP p f n) < n+f→lt (g p (tF lt (cP p f n))) (g p (tF lt (cP p f n) - 1))=true):=by
 intro v_
 induction v_ with
 | zero =>
  intro n _ _ s
  exact (FE (ar _) (ar _) s (fun h=>absurd h (ff _)))
 | succ f sg =>
  intro n h1 h2 s
  show n≤tF lt (if lt (g p n) (g p (n - 1))=true then hX n else cP p f (n+1))∧tF lt (if lt (g p n) (g p (n - 1))=true then hX n else cP p f (n+1))≤n+(f+1) ∧
   So lt p (tF lt (if lt (g p n) (g p (n - 1))=true then hX n else cP p f (n+1)))∧(tF lt (if lt (g p n) (g p (n - 1))=true then hX n else cP p f (n+1)) < n+(f+1)→lt (g p (tF lt (if lt (g p n) (g p (n - 1))=true then hX n else cP p f (n+1)))) (g p (tF lt (if lt (g p n) (g p (n - 1))=true then hX n else cP p f (n+1)) - 1))=true)
  by_cases q:lt (g p n) (g p (n - 1))=true
  ·rw [if_pos q]
   exact (FE (ar _) (by refine (?_:n≤n+(f+1));exact lI) s (fun _=>q))
  ·rw [if_neg q]
   have:=sg (n+1) (lU 1 lZ) (nO h2) (s.snoc O P h1 (nP h2) (O.T9 _ _ (P.lw (nP h2)) (P.lw (mB h1 (mT h2))) (P.ne (nP h2) (mB h1 (mT h2)) (mD h1)) (by simpa using q)))
   have a:=this.1;have b:=this.2.1;have c:=this.2.2.1;have e:=this.2.2.2
   exact (FE (lD 1 (lR 1 a)) (aj b (aJ (cR _ 1 _))) c (fun h=>e (XR b h)))
theorem Cx (O:Ord lt N) {p:Array Nat} (P:Pm p N):∀ (f n:Nat),1≤n→n+f≤N→De lt p n→∃ m,tF lt (jI f p n 0)=(p,m,0)∧n≤m∧m≤n+f∧De lt p m:=by
 intro v_
 induction v_ with
 | zero =>
  intro n _ _ s
  exact (Kl n rfl (ar _) (ar _) s)
 | succ f sg =>
  intro n h1 h2 s
  by_cases q:lt (g p n) (g p (n - 1))=true
  ·have e:tF lt (jI (f+1) p n 0)=tF lt (jI f p (n+1) 0):=by
    refine (?_:tF lt (if lt (g p n) (g p (n - 1))=true then _ else _)=_)
    rw [if_pos q]
    rfl
   obtain ⟨m,a,b,c,d⟩:=sg (n+1) (lU 1 lZ) (nO h2) (s.snoc O P h1 (nP h2) q)
   exact (Kl m (e.trans a) (lD 1 (lR 1 b)) (aj c (aJ (cR _ 1 _))) d)
  ·refine (Kl n ?_ (ar _) lI s)
   have q2:=O.T9 _ _ (P.lw (nP h2)) (P.lw (mB h1 (mT h2))) (P.ne (nP h2) (mB h1 (mT h2)) (mD h1)) (by simpa using q)
   refine (?_:tF lt (if lt (g p n) (g p (n - 1))=true then _ else _)=_)
   rw [if_neg q]
   refine (?_:tF lt (if lt (g p (n - 1)) (g p n)=true then _ else _)=_)
   rw [if_pos q2]
   rfl
theorem DO {p:Array Nat} (P:Pm p N) {m:Nat} (hm:m≤N) (s:De lt p m):So lt (iF p 0 m) m:=by
 have at_:∀ i,i < m→g (iF p 0 m) i=g p (m - 1 - i):=fun i hi=>zs (by
  unfold iF
  rw [getElem?_mirror_all (by rw [P.size];exact hm),if_pos ⟨bK _,hi⟩]
  congr 1
  lia)
 intro i j xX hj
 rw [at_ i (lD 1 (lR 1 (lT (lU 1 xX) hj))),at_ j hj]
 exact s _ _ (Nat.sub_lt_sub_left (aC xX (jk hj)) xX) (bN (dS _ _) (dh (zA hj) dC))
theorem AZ (O:Ord lt N) {p:Array Nat} (P:Pm p N) (hN:1≤N):∃ m p',tF lt (jO N p)=(m,p')∧1≤m∧m≤N∧Pm p' N∧So lt p' m:=by
 unfold jO
 rw [uU]
 have q_:=BL O P (N - 1) 1 (ar _) (nM hN) (fun i j h1 h2=>lX h1 (lT h2 (lU 1 lZ)));have a:=q_.1;have b:=q_.2.1;have c:=q_.2.2.1;have e:=q_.2.2.2
 generalize tF lt (cP p (N - 1) 1)=n at a b c e
 by_cases q:n=N
 ·subst q
  exact (Kn n p (by rw [if_pos (by simp)];rfl) a (ar _) P c)
 ·rw [if_neg (by simpa using q)]
  by_cases q1:n > 1
  ·rw [if_pos q1]
   refine (Kn n p ?_ a (aj b (nM hN)) P c)
   refine (?_:tF lt (if lt (g p 0) (g p (n - 1))=true then _ else _)=_)
   rw [if_pos (c 0 (n - 1) (l0 q1) (dh a dC))]
   rfl
  ·rw [if_neg q1]
   have:n=1:=lA (lN q1) a
   subst this
   unfold mU
   rw [uU]
   have d2:De lt p 2:=De.snoc (n:=1) O P (ar _) (lC hN q) (fun i j h1 h2=>lX h1 (lT h2 (lU 1 lZ))) (e (VS hN q))
   obtain ⟨m,h1,h2,h3,h4⟩:=Cx O P (N - (1+1)) (1+1) (lR 1 lO) (aJ (dG (gw hN q))) d2
   rw [h1]
   dsimp only
   rw [if_neg (lF lO)]
   unfold kas_tail3
   rw [uU]
   have q_:=BL O (P.mirror 0 m) (N - m) m (lD 1 (lR 1 h2)) (VM hN q h3) (DO P (VL hN q h3) h4);have a':=q_.1;have b':=q_.2.1;have c':=q_.2.2.1
   exact (Kn _ _ rfl (lD 1 (lR 1 (lT h2 a'))) (aj b' (VM hN q h3)) (P.mirror 0 m) c')
theorem FV (O:Ord lt N) {p:Array Nat} (P:Pm p N) {k:Nat} (hk:k < N):∀ (f l r:Nat),r - l≤f→l≤r→r≤k→So lt p k→(∀ i,i < l→lt (g p i) (g p k)=true)→(∀ i,r≤i→i < k→lt (g p k) (g p i)=true) →
  ∃ m,tF lt (f7 p k f l r)=m∧m≤k∧(∀ i,i < m→lt (g p i) (g p k)=true)∧(∀ i,m≤i→i < k→lt (g p k) (g p i)=true):=by
 intro v_
 induction v_ with
 | zero =>
  intro l r h h1 h2 s a b
  exact (Kl l rfl (lT h1 h2) a (fun i hi=>b i (aj (jQ (Nat.le_zero.mp h)) hi)))
 | succ f sg =>
  intro l r h h1 h2 s a b
  by_cases q:l≥r
  ·exact (Kl l (by refine (?_:tF lt (if l≥r then _ else _)=_);rw [if_pos q];rfl) (lT h1 h2) a (fun i hi=>b i (lT q hi)))
  ·have e:tF lt (f7 p k (f+1) l r)=tF lt (if lt (g p k) (g p ((l+r) / 2))=true then f7 p k f l ((l+r) / 2) else f7 p k f ((l+r) / 2+1) r):=by
    refine (?_:tF lt (if l≥r then _ else _)=_)
    rw [if_neg q]
    rfl
   rw [e]
   by_cases q2:lt (g p k) (g p ((l+r) / 2))=true
   ·rw [if_pos q2]
    exact sg l ((l+r) / 2) (de (aC (oG (mI (dB q)) (mH (dB q))) h)) (mI (dB q)) (XS h2 q) s a fun i h3 h4=>by
     by_cases e:i=(l+r) / 2
     ·subst e;exact q2
     ·exact O.tr _ _ _ (P.lw hk) (P.lw (Sb hk h2 q)) (P.lw (lD 1 (lR 1 (lT (lU 1 h4) hk)))) q2 (s _ _ (lB h3 e) h4)
   ·rw [if_neg q2]
    have q3:=O.T9 _ _ (P.lw hk) (P.lw (Sb hk h2 q)) (P.ne hk (Sb hk h2 q) (br (mG (dB q) h2))) (by simpa using q2)
    exact sg ((l+r) / 2+1) r (Nat.pred_le_pred (aj (Nat.sub_le_sub_left (mI (dB q)) r) h)) (mH (dB q)) h2 s (fun i h3=>by
     by_cases e:i=(l+r) / 2
     ·subst e;exact q3
     ·exact O.tr _ _ _ (P.lw (bN (de h3) (mG (dB q) (bp (bN h2 hk))))) (P.lw (Sb hk h2 q)) (P.lw hk) (s _ _ (lC (lD 1 h3) e) (mG (dB q) h2)) q3) b
theorem Az {p:Array Nat} (P:Pm p N) {k m:Nat} (hk:k < N) (hm:m≤k) (s:So lt p k) (a:∀ i,i < m→lt (g p i) (g p k)=true) (b:∀ i,m≤i→i < k→lt (g p k) (g p i)=true):So lt (bubble p k (k - m)) (k+1):=by
 have at_:∀ i,i≤k→g (bubble p k (k - m)) i=if i=m then g p k else if m < i then g p (i - 1) else g p i:=fun i hi=>by
  have e:=getElem?_bubble (xs:=p) (src:=k) (by rw [P.size];exact hk) (k - m) lV i
  have:k - (k - m)=m:=Nat.sub_sub_self hm
  rw [this] at e
  by_cases q:i=m
  ·rw [if_pos q] at e ⊢;exact zs e
  ·rw [if_neg q] at e ⊢
   by_cases q2:m < i
   ·rw [if_pos ⟨q2,hi⟩] at e;rw [if_pos q2];exact zs e
   ·rw [if_neg (fun q=>q2 q.1)] at e;rw [if_neg q2];exact zs e
 intro i j xX hj
 rw [at_ i (lD 2 (lR 1 (lT (lU 1 xX) hj))),at_ j (lD 1 hj)]
 by_cases i1:i=m
 ·rw [if_pos i1,if_neg (by lia),if_pos (by lia)]
  exact b _ (jk (i1▸xX)) (mB (zA xX) (de hj))
 ·rw [if_neg i1]
  by_cases j1:j=m
  ·rw [if_pos j1,if_neg (lF (lD 1 (lR 1 (lT xX (lE j1)))))]
   exact a _ (lT xX (lE j1))
  ·rw [if_neg j1]
   by_cases i2:m < i
   ·rw [if_pos i2,if_pos (dj i2 xX)]
    exact s _ _ (mE xX (zA i2)) (mB (zA xX) (de hj))
   ·rw [if_neg i2]
    by_cases j2:m < j
    ·rw [if_pos j2];exact s _ _ (aC (gw (bC i2) i1) (jk j2)) (mB (zA j2) (de hj))
    ·rw [if_neg j2];exact s _ _ xX (lT (lC (lN j2) j1) hm)
theorem KY (O:Ord lt N):∀ (f:Nat) (p:Array Nat) (k:Nat),Pm p N→So lt p k→k+f=N→∃ p',tF lt (kas_bin f p k)=p'∧Pm p' N∧So lt p' N:=by
 intro v_
 induction v_ with
 | zero =>
  intro p k P s h
  exact (sN p rfl P (by rw [← h];exact s))
 | succ f sg =>
  intro p k P s h
  refine (?_:∃ p',tF lt ((f7 p k k 0 k).bind fun l=>kas_bin f (bubble p k (k - l)) (k+1))=p'∧_)
  rw [uU]
  obtain ⟨m,e,h1,a,b⟩:=FV O P (nQ h) k 0 k lV lZ (ar _) s (fun i h=>lX h (lU 1 lZ)) (fun i h1 h2=>lX h1 h2)
  rw [e]
  exact sg _ (k+1) (P.bubble k _) (Az P (nQ h) h1 s a b) (nN h)
theorem E6 {p:Array Nat} (P:Pm p N):∀ (f n:Nat),1≤n→n+f≤N→zk lt N (cP p f n):=by
 intro v_
 induction v_ with
 | zero =>
  intro _ _ _
  exact trivial
 | succ f sg =>
  intro n h1 h2
  refine (sS (P.lw (nP h2)) (P.lw (mB h1 (mT h2))) ?_)
  dsimp only
  split
  ·trivial
  ·exact sg (n+1) (lU 1 lZ) (nO h2)
theorem HJ:∀ (f:Nat) (p:Array Nat) (n q:Nat),Pm p N→1≤n→n+f≤N→zk lt N (jI f p n q):=by
 intro v_
 induction v_ with
 | zero =>
  intro _ _ _ _ _ _
  exact trivial
 | succ f sg =>
  intro p n q P h1 h2
  refine (sS (P.lw (nP h2)) (P.lw (mB h1 (mT h2))) ?_)
  dsimp only
  split
  ·split
   ·exact sg _ (n+1) 0 (P.mirror _ _) (lU 1 lZ) (nO h2)
   ·exact sg p (n+1) 0 P (lU 1 lZ) (nO h2)
  ·refine (sS (P.lw (mB h1 (mT h2))) (P.lw (nP h2)) ?_)
   dsimp only
   split
   ·trivial
   ·exact sg p (n+1) (q+1) P (lU 1 lZ) (nO h2)
theorem FW (O:Ord lt N) {p:Array Nat} (P:Pm p N) (hN:1≤N):zk lt N (jO N p):=by
 unfold jO
 obtain ⟨a,b,c,e⟩:=BL O P (N - 1) 1 (ar _) (nM hN) (fun i j h1 h2=>lX h1 (lT h2 (lU 1 lZ)))
 refine uV (E6 P _ _ (ar _) (nM hN)) ?_
 generalize tF lt (cP p (N - 1) 1)=n at a b c e
 have dp:n=1→1 < N→∀ q,Pm q N→De lt q 2→zk lt N (mU n N q):=fun hn hN q Q d2=>by
  subst hn
  unfold mU
  obtain ⟨m,h1,h2,h3,h4⟩:=Cx O Q (N - (1+1)) (1+1) (lR 1 lO) (aJ (dG hN)) d2
  refine uV (HJ _ _ _ _ Q (lR 1 lO) (aJ (dG hN))) ?_
  rw [h1]
  dsimp only
  rw [if_neg (lF lO)]
  exact uV (E6 (Q.mirror _ _) _ _ (lD 1 (lR 1 h2)) (by lia)) trivial
 by_cases q:n=N
 ·rw [if_pos (by simpa using q)];trivial
 ·rw [if_neg (by simpa using q)]
  by_cases q1:n > 1
  ·rw [if_pos q1]
   refine (sS (P.lw hN) (P.lw (mB (dj dC q1) (aj b (nM hN)))) ?_)
   dsimp only
   rw [if_pos (c 0 (n - 1) (l0 q1) (dh (dj dC q1) dC))]
   trivial
  ·rw [if_neg q1]
   have hn:n=1:=lA (lN q1) a
   refine dp hn (lT (lU 1 a) (lC (lT (lN q1) hN) q)) p P ?_
   subst hn
   exact De.snoc (n:=1) O P (ar _) (lC hN q) (fun i j h1 h2=>lX h1 (lT h2 (lU 1 lZ))) (e (VS hN q))
theorem FX {p:Array Nat} (P:Pm p N) {k:Nat} (hk:k < N):∀ (f l r:Nat),r≤k→zk lt N (f7 p k f l r):=by
 intro v_
 induction v_ with
 | zero =>
  intro _ _ _
  exact trivial
 | succ f sg =>
  intro l r h
  unfold f7
  split
  ·trivial
  ·refine (sS (P.lw hk) (P.lw (by lia)) ?_)
   dsimp only
   split
   ·exact sg _ _ (by lia)
   ·exact sg _ _ h
theorem KZ:∀ (f:Nat) (p:Array Nat) (k:Nat),Pm p N→k+f=N→zk lt N (kas_bin f p k):=by
 intro v_
 induction v_ with
 | zero =>
  intro _ _ _ _
  exact trivial
 | succ f sg =>
  intro p k P h
  exact uV (FX P (nQ h) k 0 k (ar _)) (sg _ (k+1) (P.bubble k _) (nN h))
theorem HK (O:Ord lt N) (hN:1≤N):zk lt N (ko N):=by
 have P0:Pm (dD (bq N)) N:=⟨by simp,by simp⟩
 unfold ko
 refine uV (FW O P0 hN) ?_
 obtain ⟨m,p',e,h1,h2,P,s⟩:=AZ O P0 hN
 rw [e]
 dsimp only
 split
 ·have:max m 1=m:=mW h1
  rw [this]
  exact KZ _ _ _ P (by lia)
 ·trivial
theorem HL (O:Ord lt N) (hN:1≤N):∃ p,tF lt (ko N)=p∧Pm p N∧So lt p N:=by
 have P0:Pm (dD (bq N)) N:=⟨by simp,by simp⟩
 unfold ko
 rw [uU]
 obtain ⟨m,p',e,h1,h2,P,s⟩:=AZ O P0 hN
 rw [e]
 dsimp only
 by_cases q:m < N
 ·rw [if_pos q]
  have:max m 1=m:=mW h1
  rw [this]
  exact KY O (N - m) p' m P s (dG (bp q))
 ·rw [if_neg q]
  have:m=N:=lA h2 (lN q)
  subst this
  exact (sN p' rfl P s)
end
theorem DP {h:Heap} {α:Nat→Addr} {n:Nat} {x:HP} {v:aa} (V:pp h α n (pv x) v):∃ a e t u,v=.ref a∧h.get? a=some (sv [.int x.1 t,.str ⟨x.2.toArray⟩ u] e):=by
 unfold pv at V
 refine V.FF fun _ _ _ g ne r=>?_
 cases r with | cons a r =>
 cases r with | cons b r =>
 cases r
 cases a
 cases b
 exact (TF _ _ _ _ rfl g)
noncomputable def tO (xs:List HP) (i j:Nat):Bool:=tz (xs.getD i (0,[])) (xs.getD j (0,[]))
section
variable {A:au} {E:aa→af→Prop} {s:af}
theorem NV {a b:Addr} {x y:HP} {e e' : Nat} {t u t' u' : Tok} {Q:Bool→af→Prop} (ha:s.heap.get? a=some (sv [.int x.1 t,.str ⟨x.2.toArray⟩ u] e)) (hb:s.heap.get? b=some (sv [.int y.1 t',.str ⟨y.2.toArray⟩ u'] e'))
  (h:Q (tz x y) s):ag (ah an w) A (keyLt' (tuples' true) (.ref a) (.ref b)) Q E s:=by
 refine kat_lt ha rfl hb rfl ?_
 refine (?_:KatLex an w A true _ Q [(.int x.1 t,.int y.1 t'),(.str ⟨x.2.toArray⟩ u,.str ⟨y.2.toArray⟩ u')] 0 s)
 refine kat_cons (PySem.wpAny_eqBool_int ?_)
 by_cases q:x.1=y.1
 ·rw [q,beq_self_eq_true]
  refine kat_yes (kat_cons (n9 ?_))
  by_cases q2:x.2=y.2
  ·rw [q2,beq_self_eq_true]
   refine kat_yes (kat_nil ?_)
   have:tz x y=false:=by
    unfold tz
    rw [q,q2]
    simp [nk]
   rw [this] at h
   exact h
  ·have e:((⟨x.2.toArray⟩ : Str) == ⟨y.2.toArray⟩)=false:=by rw [str_beq];simpa using q2
   rw [e]
   refine kat_no (kat_one _ _ (pJ ?_))
   have:tz x y=decide (x.2 < y.2):=by
    unfold tz
    rw [q]
    simp
   rw [this] at h
   exact h
 ·have e:(x.1 == y.1)=false:=by simpa using q
  rw [e]
  refine kat_no (oneLt_int ?_)
  have:tz x y=decide (x.1 < y.1):=by
   unfold tz
   rw [e]
   simp
  rw [this] at h
  exact h
end
theorem xw {a b c:HP} (h1:tz a b=true) (h2:tz b c=true):tz a c=true:=by
 unfold tz at *
 simp only [cZ,decide_eq_true_eq,eI,beq_iff_eq] at *
 rcases h1 with h1 | ⟨h1,h3⟩ <;> rcases h2 with h2 | ⟨h2,h4⟩
 ·exact .inl (oC h1 h2)
 ·exact .inl (h2▸h1)
 ·exact .inl (by lia)
 ·exact .inr ⟨Eq.trans h1 h2,List.lt_trans h3 h4⟩
theorem xY (a:HP):tz a a=false:=by
 unfold tz
 simp [nk]
theorem E7 {a b:HP} (ne:a.2≠b.2) (h:tz a b=false):tz b a=true:=by
 unfold tz at *
 simp only [nV,decide_eq_false_iff_not,Bool.and_eq_false_iff,beq_eq_false_iff_ne,cZ,decide_eq_true_eq,eI,beq_iff_eq] at *
 obtain ⟨h1,h2⟩:=h
 by_cases q:b.1 < a.1
 ·exact .inl q
 ·have e:a.1=b.1:=iu (jR.mp q) (jR.mp h1)
  rcases h2 with h2 | h2
  ·exact absurd e h2
  ·refine .inr ⟨e.symm,?_⟩
   by_cases z:b.2 < a.2
   ·exact z
   ·exact absurd (List.le_antisymm (pE.mp z) (pE.mp h2)) ne
theorem vG {a b:HP} (h:tz a b=true):tz b a=false:=by
 cases q:tz b a with
 | false=>rfl
 | true=>have:=xw h q;rw [xY] at this;cases this
theorem K4 {xs:List HP} (hd:(xs.map (·.2)).Nodup):Ord (tO xs) xs.length:=by
 refine ⟨fun a b c _ _ _ h1 h2=>xw h1 h2,fun a b ha hb sz h=>E7 ?_ h,fun a b _ _ h=>vG h⟩
 have e1:xs.getD a (0,[])=xs[a]:=by simp [ha]
 have e2:xs.getD b (0,[])=xs[b]:=by simp [hb]
 rw [e1,e2]
 intro e
 have pw:=cK.mp hd
 have AN : a < (xs.map (·.2)).length:=by simpa using ha
 have uw : b < (xs.map (·.2)).length:=by simpa using hb
 rcases kZ a b with q | q | q
 ·exact pw a b AN uw q (by simpa using e)
 ·exact sz q
 ·exact pw b a uw AN q (by simpa using e.symm)
theorem po.MO {h:Heap} {α:Nat→Addr} {n:Nat} {as:List AV} {vs:List aa} (V:po h α n as vs):∀ (p:List Nat),(∀ i∈p,i < as.length)→po h α n (p.map fun i=>as.getD i .none) (p.map fun i=>vs.getD i .none)
 | [],_=>.nil
 | i::p,hp=>by
  have hi:=hp i aZ
  obtain ⟨v,hv,r⟩:=V.get (aQ hi)
  refine .cons ?_ (V.MO p fun j hj=>hp j (ba _ hj))
  have e1:as.getD i .none=as[i]:=by simp [hi]
  have e2:vs.getD i .none=v:=by simp [hv]
  refine (?_:pp h α n (as.getD i .none) (vs.getD i .none))
  rw [e1,e2]
  exact r
theorem Inv.newList {am h h' : Heap} {L D:Addr} {m:Str→Option aa} {α:Nat→Addr} {H:AH} (I:Inv am L m α H h) {ys:List AV} {out:List aa} {c:Nat} (V:po h α H.length ys out) (hD:h.objs.size≤D) (hz:h.objs.size≤h'.objs.size)
  (F' : Fr am L h' m) (N' : News am L h' ((D,bU (dD out) c)::uz am L h)) :
  Ext L α (put α H.length D) H.length (H++[AO.list ys]).length h h'∧Inv am L m (put α H.length D) (H++[.list ys]) h'∧pp h' (put α H.length D) (H++[AO.list ys]).length (.ref H.length) (.ref D):=by
 have hn:(H++[AO.list ys]).length=H.length+1:=by simp
 have N2:News am L h' (uz am L h):=fun p hp=>N' p (ba _ hp)
 have ND:=N' _ aZ
 have xt:Ext L α (put α H.length D) H.length (H.length+1) h h':=by
  refine ⟨fun k hk=>r8 _ _ (ax hk),bX _,hz,fun b o e hb _=>zY I.fr F' N2 e hb,fun k h1 h2=>?_⟩
  have:k=H.length:=ir (de h2) h1
  subst this
  rw [nn]
  exact hD
 refine (sS (hn▸xt) ⟨F',fun k hk=>?_,fun i j hi hj e=>?_,fun k o' e=>?_⟩ ?_)
 ·by_cases q:k=H.length
  ·subst q
   rw [nn]
   exact ⟨g8 (aj I.fr.above (aj (bp I.wl) hD)),ND.2.1⟩
  ·rw [r8 _ _ q]
   exact I.low k (lC (lD 1 (lT hk (lE hn))) q)
 ·by_cases qi:i=H.length <;> by_cases qj:j=H.length
  ·exact lA (lT (lE qi) (lS qj)) (lT (lE qj) (lS qi))
  ·subst qi
   rw [nn,r8 _ _ qj] at e
   exact absurd (aC (I.lt (k:=j) (lC (lD 1 (lT hj (lE hn))) qj)) hD) (by rw [← e];exact ff _)
  ·subst qj
   rw [nn,r8 _ _ qi] at e
   exact absurd (aC (I.lt (k:=i) (lC (lD 1 (lT hi (lE hn))) qi)) hD) (by rw [e];exact ff _)
  ·rw [r8 _ _ qi,r8 _ _ qj] at e
   exact I.inj i j (lC (lD 1 (lT hi (lE hn))) qi) (lC (lD 1 (lT hj (lE hn))) qj) e
 ·rw [hn]
  by_cases q:k < H.length
  ·rw [aR q] at e
   rw [r8 _ _ (ax q)]
   exact (I.obj k o' e).ext xt I.kt fun ob g=>zY I.fr F' N2 g (I.low k q).2
  ·have hk:k=H.length:=by
    have:=(rK e)
    exact lA (lD 1 (lT this (lE hn))) (lN q)
   subst hk
   rw [aK (ar _)] at e
   simp at e
   subst e
   rw [nn]
   exact (tW out c ND.1 (V.ext xt I.kt))
 ·rw [hn]
  have:pp h' (put α H.length D) (H.length+1) (.ref H.length) (.ref (put α H.length D H.length)):=.ref (bB _)
  rwa [nn] at this
theorem K6 {h:Heap} {α:Nat→Addr} {n:Nat} {xs:List HP} {vs:List aa} (V:po h α n (xs.map pv) vs):∃ fs,iq h vs fs∧fs.length=xs.length∧∀ v∈fs,∃ i t,v=.int i t:=by
 induction xs generalizing vs with
 | nil=>exact po.t0 (D:=fun vs=>∃ fs,iq h vs fs∧fs.length=_∧∀ v∈fs,∃ i t,v=.int i t) V (sN [] trivial rfl (fun _ h=>by cases h))
 | cons x xs ih =>
  refine po.se V fun _ _ a r=>?_
  obtain ⟨ad,e,t,u,rfl,g⟩:=DP a
  obtain ⟨fs,k,l,q⟩:=ih r
  refine (sN (.int x.1 t::fs) (iq.cons g rfl rfl rfl k) (by simp [l]) (fun v hv=>?_))
  rcases aA.mp hv with rfl | hv
  ·exact (Km _ _ rfl)
  ·exact q v hv
theorem A6 {h h' : Heap}:∀ {vs fs:List aa},iq h vs fs→(∀ a vs e,h.get? a=some (sv vs e)→h'.get? a=some (sv vs e))→(∀ v∈vs,∃ a us e,v=.ref a∧h.get? a=some (sv us e))→iq h' vs fs
 | [],[],_,_,_=>trivial
 | v::vs,f::fs,⟨⟨a,o,xs,n,e,ho,r⟩,t⟩,k,hv=>by
  refine ⟨(PT a o xs n e ?_ r),A6 t k fun u hu=>hv u (ba _ hu)⟩
  obtain ⟨a',us,e',rfl,g⟩:=hv v aZ
  cases e
  rw [ho] at g
  cases g
  exact k _ _ _ ho
section
variable {H:AH} {R:AV→AH→Prop}
theorem FY {k:Nat} {xs:List HP} (hk:H[k]?=some (rY xs)) (hd:(xs.map (·.2)).Nodup) (h2:2≤xs.length) (Sx:xs.length < 64)
  (r:∀ ys:List HP,ys.Perm xs→ys.Pairwise (fun a b=>tz a b=true)→R (.ref H.length) (H++[rY ys])):FN an w am d (.builtin "sorted") H [.ref k] [] R:=by
 intro A L m α s Q E YL hr I V c
 refine V.se fun _ _ b V=>?_
 refine V.t0 ?_
 refine b.sO fun _=>?_
 obtain ⟨vs,n,g,hl,VV⟩:=I.isList hk
 have mo:vs.length=xs.length:=by rw [VV.length,aM]
 refine (?_:ag _ A (call (.builtin "sorted") [.ref (α k)]) Q E s)
 refine sC (pb kind_sorted plain_sorted entry_sorted (args_sorted1 _) ?_)
 unfold aT.«sorted»
 refine ab (m:=checkCount "sorted" 1 1 _) (ai ?_)
 refine ab (collect_list hl ?_ (by rw [cD];exact lR 16777153 (lD 1 (lT (lU 1 (lE mo)) Sx))))
 refine ab (jb ?_ (by rw [cD];lia))
 have xZ:((s.heap.push (bh "list" #[] 0)).update s.heap.objs.size (bo (·++vs.toArray))).objs.size=s.heap.objs.size+1:=by
  rw [fp,jx]
 have HM:(((s.heap.push (bh "list" #[] 0)).update s.heap.objs.size (bo (·++vs.toArray))).push (bh "list" vs.toArray 0)).get? (s.heap.objs.size+1)=some (bh "list" vs.toArray 0):=by
  rw [← xZ];exact bj _ rfl
 have keep:∀ b o,s.heap.get? b=some o→(((s.heap.push (bh "list" #[] 0)).update s.heap.objs.size (bo (·++vs.toArray))).push (bh "list" vs.toArray 0)).get? b=some o:=fun b o q=>by
  have tO:b < s.heap.objs.size:=aH q
  rw [cW _ _ _ (by rw [xZ];exact ax (bJ tO)),kh _ _ _ _ (ax tO),cW _ _ _ (ax tO)]
  exact q
 refine (?_:ag _ _ _ _ _ {s with heap:=((s.heap.push (bh "list" #[] 0)).update s.heap.objs.size (bo (·++vs.toArray))).push (bh "list" vs.toArray 0)})
 rw [xZ]
 generalize ((s.heap.push (bh "list" #[] 0)).update s.heap.objs.size (bo (·++vs.toArray))).push (bh "list" vs.toArray 0)=hs at HM keep
 have hL:L < s.heap.objs.size:=I.fr.ns.lt
 have F0:Fr am L hs m:=I.fr.kept keep
 have N0:News am L hs (uz am L s.heap):=wx.grown keep
 refine ab (cH (dA slot_list_sort (i12 _ HM rfl) entry_list_sort ?body (args_list_sort _)))
 case body =>
  refine kat_list_sort (s:={s with heap:=hs}) F0 N0 HM (br (bJ hL)) (g8 (aj I.fr.above (mA (bp hL))))
   (fun p hp=>ax (bJ (aH (wx p hp).1))) (lT h2 (lS mo)) (lT (lU 1 (lE mo)) Sx) fun e1 h1 F1 N1=>?_
  have K1:∀ b o,s.heap.get? b=some o→b≠L→h1.get? b=some o:=fun b o e hb=>zY I.fr F1 (fun p hp=>N1 p (ba _ hp)) e hb
  have Qw:∀ a us e,s.heap.get? a=some (sv us e)→h1.get? a=some (sv us e):=fun a us e q=>K1 a _ q fun z=>I.kt us e (z▸q)
  obtain ⟨fs,T,NW,YM⟩:=K6 VV
  have YN:∀ v∈vs,∃ a us e,v=.ref a∧s.heap.get? a=some (sv us e):=fun v hv=>by
   obtain ⟨i,hi⟩:=gj.mp hv
   have va:i < xs.length:=by rw [← mo];exact (rK hi)
   obtain ⟨u,hu,ru⟩:=VV.get (i:=i) (a:=pv xs[i]) (by rw [bu,aQ va];rfl)
   rw [hi] at hu
   obtain rfl:=ay hu
   obtain ⟨a,e,_,_,rfl,g⟩:=DP ru
   exact (Nw a _ e rfl g)
  refine kat_kind (T:=.type "int") (A6 T Qw YN) (by rw [NW];exact lD 1 (lR 1 h2)) (fun v hv=>?_) (by decide) ?_
  ·obtain ⟨i,t,rfl⟩:=YM v hv
   exact mY rfl
  have eb:(dN "int" != dN "tuple")=true:=by decide
  rw [eb]
  have O:=K4 hd
  obtain ⟨p,hp,P,So⟩:=HL O (lD 1 (lR 1 h2))
  have SA:=HK O (show 1≤xs.length by lia)
  rw [mo]
  have at_:∀ (i:Nat) (hi:i < xs.length),∃ a e t u,vs.getD i eM=.ref a∧h1.get? a=some (sv [.int (xs.getD i (0,[])).1 t,.str ⟨(xs.getD i (0,[])).2.toArray⟩ u] e):=fun i hi=>by
   obtain ⟨u,hu,ru⟩:=VV.get (i:=i) (a:=pv xs[i]) (by rw [bu,aQ hi];rfl)
   obtain ⟨a,e,t,u',rfl,g⟩:=DP ru
   have e1:xs.getD i (0,[])=xs[i]:=by simp [hi]
   rw [e1]
   exact (TF a e t u' (by simp [hu]) (Qw _ _ _ g))
  refine AY (lt:=tO xs) (J:=fun s'=>s'.heap=h1∧rM s s') (N:=xs.length) (fun i j C s' hi hj hJ hC=>?_) _ _ _ SA ⟨rfl,⟨rfl,id⟩⟩ fun s' hJ=>?_
  ·obtain ⟨a,e,t,u,ea,ga⟩:=at_ i hi
   obtain ⟨b,e',t',u',YO,gb⟩:=at_ j hj
   unfold kas_ask
   rw [ea,YO]
   exact NV (hJ.1▸ga) (hJ.1▸gb) (hC s' hJ)
  ·rw [hp]
   have Cy:∀ i∈p.toList,i < (xs.map pv).length:=fun i hi=>by
    rw [aM]
    exact dc.mp (P.perm.mem_iff.mp hi)
   refine KasFin.intro (hJ.1▸F1) (hJ.1▸N1) (.head fun q hq=>ax (bJ (aH (wx q hq).1))) fun h' c' F' N'=>(i12 _ rfl (ai (i12 _ rfl (fun hz=>?_))))
   have V':=VV.MO p.toList Cy
   obtain ⟨x,I',W⟩:=I.newList (D:=s.heap.objs.size+1) V' (bX _) hz F' N'
   have em:p.toList.map (fun i=>(xs.map pv).getD i AV.none)=(p.toList.map fun i=>xs.getD i (0,[])).map pv:=by
    rw [aX]
    refine gN fun i hi=>?_
    have Ca:=Cy i hi
    rw [aM] at Ca
    simp [Ca]
   rw [em] at x I' W
   refine c _ _ _ _ {s' with heap:=h'} (r (p.toList.map fun i=>xs.getD i (0,[])) ?_ ?_) x I' W ⟨hJ.2.os,hJ.2.gens⟩
   ·have e0:xs=(bq xs.length).map fun i=>xs.getD i (0,[]):=by
     apply jK
     intro i
     rw [bu]
     by_cases hi:i < xs.length
     ·rw [mP hi]
      simp [hi]
     ·rw [e9 (lN hi),e9 (by rw [ji];exact lN hi)]
      rfl
    refine List.Perm.trans (P.perm.map _) ?_
    rw [← e0]
   ·rw [cK]
    intro i j hi hj xX
    rw [aM,Array.length_toList] at hi hj
    have:=So i j xX (by rw [← P.size];exact hj)
    unfold tO at this
    simp only [List.getElem_map,Array.getElem_toList]
    simpa [hi,hj] using this
end
section
variable {A:au} {E:aa→af→Prop} {s:af}
theorem HN {a:Addr} {v:aa} {n:Nat} {P:PySem.Fin→af→Prop} (ho:s.heap.get? a=some (bh "list" [v].toArray n))
  (h:∀ h' c,(∀ b o,b≠a→s.heap.get? b=some o→h'.get? b=some o)→h'.get? a=some (bU [v].toArray c)→P (.done (.ret .none)) {s with heap:=h'}) :
  ag (ah an w) A (aT.«list.sort» ⟨[.ref a],[]⟩) P E s:=by
 rw [list_sort_plain]
 have ha:a < s.heap.objs.size:=aH ho
 refine ab (listItems_at ho rfl ?_)
 refine ab (listUpdate_at ho rfl ?_ (by rw [cD];simp) (bK _))
 obtain ⟨e1,Sy⟩ : ∃ e1,(s.heap.update a (bo fun _=>#[])).get? a=some (bh "list" #[] e1):=⟨_,get?_update_seq ho (fun _=>#[])⟩
 refine ab (seqEpoch_at Sy rfl ?_)
 refine ab (i8 ?_ (by rw [cD];simp))
 refine ab (jb ?_ (bK _))
 refine cH ?_
 have Ua:(((s.heap.update a (bo fun _=>#[])).push (bh "tuple" [v].toArray 0)).push (bh "list" #[] 0)).get? a=some (bh "list" #[] e1):=by
  rw [cW _ _ _ (by rw [jx,fp];exact ax (bJ ha)),cW _ _ _ (by rw [fp];exact ax ha)]
  exact Sy
 refine (?_:ag (ah an w) A _ P E {s with heap:=((s.heap.update a (bo fun _=>#[])).push (bh "tuple" [v].toArray 0)).push (bh "list" #[] 0)})
 dsimp only
 have h2:[v].toArray.size < 2:=by simp
 rw [if_pos h2,if_pos h2]
 refine ab (ai ?_)
 rw [StateT.run_pure]
 refine ab (ai ?_)
 dsimp only
 have e0:(arrOf (rx general' ([v].toArray.zip [v].toArray) #[] 7 none)).map (·.2)=[v].toArray:=by
  have:arrOf (rx general' ([v].toArray.zip [v].toArray) #[] 7 none)=[v].toArray.zip [v].toArray:=rfl
  rw [this]
  simp
 refine ab (seqEpoch_at Ua rfl ?_)
 rw [e0]
 refine ab (listUpdate_at Ua rfl ?_ (bK _) (by rw [cD];simp))
 simp only [bne_self_eq_false,cG,if_false]
 obtain ⟨c,hc⟩ : ∃ c,((((s.heap.update a (bo fun _=>#[])).push (bh "tuple" [v].toArray 0)).push (bh "list" #[] 0)).update a (bo fun _=>[v].toArray)).get? a=some (bh "list" [v].toArray c) :=
  ⟨_,get?_update_seq Ua fun _=>[v].toArray⟩
 refine ai (h _ c (fun b o hb e=>?_) hc)
 have tO:b < s.heap.objs.size:=aH e
 rw [kh _ _ _ _ hb,cW _ _ _ (by rw [jx,fp];exact ax (bJ tO)),cW _ _ _ (by rw [fp];exact ax tO),kh _ _ _ _ hb]
 exact e
end
section
variable {H:AH} {R:AV→AH→Prop}
theorem DQ {k:Nat} {a:AV} (hk:H[k]?=some (.list [a])) (r:R (.ref H.length) (H++[.list [a]])):FN an w am d (.builtin "sorted") H [.ref k] [] R:=by
 intro A L m α s Q E YL hr I V c
 refine V.se fun _ _ b V=>?_
 refine V.t0 ?_
 cases b
 obtain ⟨vs,n,g,hl,VV⟩:=I.isList hk
 cases VV with | cons av VV =>
 rename_i v us
 cases VV
 refine (?_:ag _ A (call (.builtin "sorted") [.ref (α k)]) Q E s)
 refine sC (pb kind_sorted plain_sorted entry_sorted (args_sorted1 _) ?_)
 unfold aT.«sorted»
 refine ab (m:=checkCount "sorted" 1 1 _) (ai ?_)
 refine ab (collect_list hl ?_ (by rw [cD];simp))
 refine ab (jb ?_ (by rw [cD];simp))
 have xZ:((s.heap.push (bh "list" #[] 0)).update s.heap.objs.size (bo (·++[v].toArray))).objs.size=s.heap.objs.size+1:=by
  rw [fp,jx]
 have HM:(((s.heap.push (bh "list" #[] 0)).update s.heap.objs.size (bo (·++[v].toArray))).push (bh "list" [v].toArray 0)).get? (s.heap.objs.size+1)=some (bh "list" [v].toArray 0):=by
  rw [← xZ];exact bj _ rfl
 have keep:∀ b o,s.heap.get? b=some o→(((s.heap.push (bh "list" #[] 0)).update s.heap.objs.size (bo (·++[v].toArray))).push (bh "list" [v].toArray 0)).get? b=some o:=fun b o q=>by
  have tO:b < s.heap.objs.size:=aH q
  rw [cW _ _ _ (by rw [xZ];exact ax (bJ tO)),kh _ _ _ _ (ax tO),cW _ _ _ (ax tO)]
  exact q
 refine (?_:ag _ _ _ _ _ {s with heap:=((s.heap.push (bh "list" #[] 0)).update s.heap.objs.size (bo (·++[v].toArray))).push (bh "list" [v].toArray 0)})
 rw [xZ]
 generalize ((s.heap.push (bh "list" #[] 0)).update s.heap.objs.size (bo (·++[v].toArray))).push (bh "list" [v].toArray 0)=hs at HM keep
 have hL:L < s.heap.objs.size:=I.fr.ns.lt
 refine ab (cH (dA slot_list_sort (i12 _ HM rfl) entry_list_sort (HN (s:={s with heap:=hs}) HM fun h' c' k' g'=>(i12 _ rfl (ai (i12 _ rfl (fun hz=>?_))))) (args_list_sort _)))
 have MP : ∀ b o,s.heap.get? b=some o→h'.get? b=some o:=fun b o e=>k' b o (ax (bJ (aH e))) (keep b o e)
 obtain ⟨x,I',W⟩:=I.newList (D:=s.heap.objs.size+1) (ys:=[a]) (out:=[v]) (c:=c') (.cons av .nil) (bX _) hz (I.fr.kept MP) (fun p hp=>by
  rcases aA.mp hp with rfl | hp
  ·exact (sS g' (br (bJ hL)) (g8 (aj I.fr.above (mA (bp hL)))))
  ·exact wx.grown MP p hp)
 exact c _ _ _ _ {s with heap:=h'} r x I' W ⟨rfl,id⟩
end
section
set_option backward.match.sparseCases false
theorem yL (X:(KK P).In am) {f:Addr} {o:Obj} {fd:da} {body:List Stmt} {nm:List Str} {ks:List aW} {np:Nat} (hl:(KK P).lookup f=some o) (hd:o.data=.func fd) (hc:codeIn (KK P) fd.code fd.qualname=true) (hb:fd.body=.stmts body) (e:Wk fd nm ks np=true):Sq am f fd body nm ks np:=by
 unfold Wk at e
 simp only [eI,decide_eq_true_eq] at e
 obtain ⟨⟨⟨⟨⟨⟨⟨⟨⟨⟨⟨a1,a2⟩,a3⟩,a4⟩,a5⟩,a6⟩,a7⟩,a8⟩,a9⟩,YQ⟩,YR⟩,Wr⟩:=e
 refine ⟨(i12 o (X _ _ hl) hd),xU X,codeRec_of X hc,hb,List.isEmpty_iff.mp a1,by simpa using a2,by simpa using a3,by simpa using a4,by simpa using a5,by simpa using a6,a7,a8,a9,fun i hi=>?_,fun k hk=>?_,Wr⟩
 ·have va:i < ks.length:=lT hi (lT Wr (lE a9))
  have:=d0.mp YQ ks[i] (bx (i:=i) (by rw [fW hi,aQ va]))
  rw [aQ va]
  simp only [cZ,beq_iff_eq] at this
  rcases this with q | q
  ·exact .inl (by rw [q])
  ·exact .inr (by rw [q])
 ·have:=d0.mp YR k hk
  simp only [cZ,beq_iff_eq] at this
  rcases this with (q | q) | q
  ·exact .inl q
  ·exact .inr (.inl q)
  ·exact .inr (.inr q)
noncomputable def rE:Stmt→Expr
 | .Return (some e) _=>e
 | .Assign _ e _=>e
 | .Expr e _=>e
 | _=>.Constant .none 0 ⟨0,0,0,0⟩
theorem tU (X:(KK P).In am):GL am "range" (.type "range"):=t7 X (by kernel_rfl) (by kernel_rfl)
theorem x8 {H:AH} {k:Nat} {x left:Int} (hk:H[k]?=some (rI x left)):SI an w am d H k:=fun A L m α s Q E hr I sj q=>by
 obtain ⟨_,_,o,g,rfl⟩:=I.obj k _ hk
 exact wpAny_pyIter_rangeiter g q
noncomputable def z4 (a:Int) (n:Nat):List AV:=(bq n).map fun (i:Nat)=>.int (a+i)
theorem Cz {a:Int} {n i:Nat}:(z4 a n)[i]?=if i < n then some (.int (a+i)) else none:=by
 unfold z4
 rw [bu]
 by_cases h:i < n
 ·rw [if_pos h,mP h];rfl
 ·rw [if_neg h,e9 (by rw [ji];exact lN h)];rfl
theorem BM {H:AH} {l:Nat} {a b:Int} {n:Nat} {t:Expr} {x:Str} {p:Pos} (hl:H[l]?=some (sn a b)) (hn:(n:Int)=if a < b then b - a else 0) (ha:-(2 ^ 60)≤a) (AN : a < 2 ^ 60) (hb:-(2 ^ 60)≤b) (uw : b < 2 ^ 60) (ht:t=.Name x p):IT an w am d H (.ref l) (dJ an w am d H (z4 a n) t):=by
 have ui:=(rK hl)
 refine tS hl (aY (by decide) ha) (aY AN (by decide)) (aY (by decide) hb) (aY uw (by decide)) (Ko [rI a (if a < b then b - a else 0)] (fun H'=>True) (fun i=>rI (a+i) (n - i)) ⟨rfl,ar _,by simp [hn],fun i H' R hC hk h1 h2=>?_,fun H' hk=>x8 hk,fun H' h=>trivial,fun i H' a R hC hk ha r=>?_⟩)
 ·refine sw hk (fun h=>?_) (fun h=>h2 (by rw [Cz,if_neg (by lia)]))
  have:=h1 (.int (a+i)) (by rw [Cz,if_pos (iO.mp (Int.lt_of_sub_pos h))])
  have e:rI (a+i+1) (n - i - 1)=rI (a+(i+1:Nat)) (n - (i+1:Nat)):=by
   congr 1 <;> lia
  rw [e]
  exact this
 ·subst ht
  exact uy r
theorem dJ.Qx {H:AH} {G:AH} {as:List AV} {t:Expr} {k:Nat} {H2:AH} (h:dJ an w am d (H++G) as t k H2):dJ an w am d H as t k H2:=by
 obtain ⟨G',C,o,S⟩:=h
 exact (Ko (G++G') C o ⟨by rw [S.eq,ak],by have:=S.le;simp at this;exact lT lI this,S.Hn,S.nx,S.self,S.Bx,S.lg⟩)
theorem x9 {H G:AH} {a:AV} {as:List AV} {t:Expr} (h:IT an w am d (H++G) a (dJ an w am d (H++G) as t)):IT an w am d (H++G) a (dJ an w am d H as t) :=
 fun A L m α s Q E v hr I V kk=>h A L m α s Q E v hr I V fun r x dL H' s' q=>kk r x dL H' s' (let ⟨k,e,q⟩:=q;(i12 k e q.Qx))
end
section
set_option backward.match.sparseCases false
theorem bv {H G:AH} {k:Nat} {o:AO} (h:H[k]?=some o):(H++G)[k]?=some o:=by
 rw [aR (rK h)];exact h
noncomputable def re (text:List Nat) (bm:List (List Nat)):List Nat:=(bq bm.length).filter fun k=>text.take (bm.getD k []).length == bm.getD k []
noncomputable def uD (l:List Nat):List AV:=l.map fun (n:Nat)=>.int n
noncomputable def YS:List Stmt:=fBody (vP pw 43)
noncomputable def Ub:Expr→Expr
 | .ListComp e ..=>e
 | .DictComp k ..=>k
 | _=>.Constant .none 0 ⟨0,0,0,0⟩
section
theorem E8 (X:(KK P).In am) {k:Nat} {text:List Nat} {bm:List (List Nat)} {H:AH} (hk:H[k]?=some (.list (rQ bm))) (hz:bm.length≤1000) (ht:text.length≤1000) (hw:∀ x∈bm,x.length≤1000) :
  FN an w am (d+1) (.ref 840) H [.str text,.ref k] [] (Is (.ref H.length) (H++[.list (uD (re text bm))])):=by
 refine FN.pick (wv (nm:=["text","words","range","len"]) (ks:=[.cell,.cell,.globalImplicit,.globalImplicit]) (np:=2) (body:=YS)
  (yL X (o:=Ki tw P) (by kernel_rfl) rfl (by kernel_rfl) rfl (by kernel_rfl)) rfl (fun vs hv=>by refine zh hv fun a b=>?_;kernel_rfl) ?_)
 refine (?_:ST an w am d _ [.sG H.length,.sG (H.length+1),.rc,.rc] (H++[.cell (some (.str text)),.cell (some (.ref k))]) _ _)
 have sj:=(rK hk)
 have c0:∀ G:AH,(H++[AO.cell (some (.str text)),.cell (some (.ref k))]++G)[H.length]?=some (.cell (some (.str text))):=fun G=>by simp
 have c1:∀ G:AH,(H++[AO.cell (some (.str text)),.cell (some (.ref k))]++G)[H.length+1]?=some (.cell (some (.ref k))):=fun G=>by
  rw [ak,aK (lR 1 lO)]
  simp
 have ck:∀ G:AH,(H++[AO.cell (some (.str text)),.cell (some (.ref k))]++G)[k]?=some (.list (rQ bm)):=fun G=>bv (bv hk)
 have Uc : (H++[AO.cell (some (.str text)),.cell (some (.ref k))])[H.length+1]?=some (.cell (some (.ref k))):=by have:=c1 [];rwa [cO] at this
 have YT : (H++[AO.cell (some (.str text)),.cell (some (.ref k))])[k]?=some (.list (rQ bm)):=bv hk
 have K7:(rQ bm).length=bm.length:=by simp [rQ]
 refine bd (sF (uP (as:=z4 0 bm.length) [".0","k","len","text","words"] [.loc,.loc,.rc,.sG 0 H.length,.sG 1 (H.length+1)]
  (fun a=>[.loc none,.loc (some a),.rc,.sG H.length,.sG (H.length+1)]) (fun a=>match a with | .int i=>text.take (bm.getD i.toNat []).length == bm.getD i.toNat [] | _=>false) id
  (rO.of (by kernel_rfl) (sS rfl rfl trivial)) ?_ ?_ ?_ ?_ ?_ ?_ ?_))
 ·refine io (ti 2 rfl rfl (tU X) (.mk sJ (bi (io (ti 3 rfl rfl (ue X) (.mk nw (bi (uh 1 (j:=H.length+1) rfl rfl Uc (cr ((xr (xs:=rQ bm) YT (lR 999000 (lT (lE K7) hz))).to (cr (tL ?_))))))))))))
  rw [K7]
  exact x9 (BM (a:=0) (b:=bm.length) (n:=bm.length) (by simp) (by split <;> lia) (nF _) (nF _) (nF _) (by lia) rfl)
 ·simp [z4];exact lR 999000 hz
 ·rintro a ha G sZ (rfl | ⟨b,rfl⟩)
  ·exact vo 1 rfl rfl ⟨rfl,rfl⟩
  ·exact vo 1 rfl rfl ⟨rfl,rfl⟩
 ·intro a ha G
  obtain ⟨i,hi,rfl⟩ : ∃ i,i < bm.length∧a=.int (i:Nat):=by
   obtain ⟨i,hi,rfl⟩:=aE.mp ha
   exact (i12 i (dc.mp hi) (by simp))
  have hx:bm[i]?=some bm[i]:=aQ hi
  have hg:bm.getD ((i:Int).toNat) []=bm[i]:=by simp [hi]
  have e1:sT (.ref k) (.int (i:Nat)) (H++[AO.cell (some (.str text)),.cell (some (.ref k))]++G)=some (.str bm[i]):=by
   unfold sT
   dsimp only
   rw [ck G]
   refine (?_:(idx (i:Int) (rQ bm).length).bind ((rQ bm)[·]?)=_)
   rw [vZ (by rw [K7];exact hi) (lR 999000 (lT (lE K7) hz))]
   simp [rQ,hi]
  have JO:=hw bm[i] (eL hi)
  refine EK (dl (wZ (uh 3 rfl rfl (c0 G) (ve (uv ?_)))))
  refine io (ti 2 rfl rfl (ue X) (.mk nw (bi ?_)))
  refine rR (uh 4 rfl rfl (c1 G) (lm 1 rfl rfl (.mk _ e1 (cr (um (lR 999000 JO) ?_)))))
  refine (Kp text none (some bm[i].length) rfl (lR 999000 ht) rfl ?_ (fun u v h=>by exact uH h) ?_)
  ·refine (?_:(if (0:Int)≤(bm[i].length:Int) then some (some (bm[i].length:Int).toNat) else none)=_)
   rw [if_pos (nF _)]
   simp
  refine rR (uh 4 rfl rfl (c1 G) (lm 1 rfl rfl (.mk _ e1 (.mk _ rfl ?_))))
  dsimp only
  rw [hg]
  exact ⟨rfl,rfl⟩
 ·intro a ha _ G
  exact lm 1 rfl rfl ⟨rfl,rfl⟩
 ·intro a ha _
  obtain ⟨i,hi,rfl⟩:=aE.mp ha
  rfl
 ·refine (i12 _ rfl (VU H [.cell (some (.str text)),.cell (some (.ref k)),.list (uD (re text bm))] (.list (uD (re text bm))) ?_ (uY.refl H) (by simp) ?_ ?_ rfl rfl))
  ·rw [ak]
   congr 2
   unfold z4 re uD
   rw [mf,aX]
   simp [j9]
  ·rw [aK (by simp)]
   simp only [eO]
   unfold z4 re uD
   rw [mf,aX]
   simp [j9]
  ·refine vC fun a ha=>?_
   obtain ⟨i,hi,rfl⟩:=aE.mp ha
   rfl
end
end
section
set_option backward.match.sparseCases false
mutual
noncomputable def mapR (f:Nat→Nat):AV→AV
 | .ref k=>.ref (f k)
 | .tup vs=>.tup (z5 f vs)
 | a=>a
noncomputable def z5 (f:Nat→Nat):List AV→List AV
 | []=>[]
 | a::r=>mapR f a::z5 f r
end
theorem NY {f:Nat→Nat} {k:Nat}:mapR f (.ref k)=.ref (f k):=rfl
theorem NZ {f:Nat→Nat} {v:List AV}:mapR f (.tup v)=.tup (z5 f v):=rfl
theorem N3 {f:Nat→Nat} {l:List Nat}:mapR f (.str l)=.str l:=rfl
theorem N4 {f:Nat→Nat} {a:AV} {r:List AV}:z5 f (a::r)=mapR f a::z5 f r:=rfl
theorem N5 {f:Nat→Nat}:z5 f []=[]:=rfl
mutual
noncomputable def HO (p:Nat→Prop):AV→Prop
 | .ref k=>p k
 | .tup vs=>HQ p vs
 | _=>True
noncomputable def HQ (p:Nat→Prop):List AV→Prop
 | []=>True
 | a::r=>HO p a∧HQ p r
end
theorem pp.YU {h:Heap} {α dL : Nat→Addr} {n n' : Nat} {f:Nat→Nat} {p:Nat→Prop} (hp:∀ k,p k→f k < n'∧dL (f k)=α k) (hi:∀ k < n',∃ i,i < n∧dL k=α i) {a:AV} {v:aa} (r:pp h α n a v) (l:HO p a):pp h dL n' (mapR f a) v :=
 pp.rec (motive_1:=fun a v _=>HO p a→pp h dL n' (mapR f a) v) (motive_2:=fun as vs _=>HQ p as→po h dL n' (z5 f as) vs) (fun _=>.none) (fun b _=>.bool b) (fun i t _=>.int i t) (fun s t _=>.str s t)
  (fun e ne _ r l=>.tup e (fun k hk=>let ⟨i,h1,h2⟩:=hi k hk;h2▸ne i h1) (r l))
  (fun {k} _ l=>(hp k l).2▸.ref (hp k l).1) (fun v _=>.con v) (fun _=>.nil) (fun _ _ a r l=>.cons (a l.1) (r l.2)) r l
noncomputable def DR (n:Nat) (js:List Nat) (k:Nat):Nat:=if k < n then k else n+js.idxOf k
noncomputable def xn (α:Nat→Addr) (n:Nat) (js:List Nat) (k:Nat):Addr:=if k < n then α k else α (js.getD (k - n) 0)
section
variable {am h:Heap} {L:Addr} {m:Str→Option aa} {α dL : Nat→Addr} {H0 G:AH} {js:List Nat} {os:List AO}
structure Kept (H0 G:AH) (js:List Nat) (os:List AO):Prop where
 nd:js.Nodup
 len:js.length=os.length
 at_:∀ (i j:Nat) (o:AO),js[i]?=some j→os[i]?=some o→H0.length≤j∧(H0++G)[j]?=some o∧vz H0.length o
theorem Kept.Pi (K:Kept H0 G js os) {k:Nat} (hk:k < H0.length+os.length):∃ i,i < (H0++G).length∧xn α H0.length js k=α i∧(k < H0.length∧i=k∨H0.length≤k∧H0.length≤i∧js[k - H0.length]?=some i):=by
 unfold xn
 by_cases q:k < H0.length
 ·exact (sN k (by simp;exact lT q lI) (if_pos q) (.inl ⟨q,rfl⟩))
 ·have sj:k - H0.length < js.length:=by rw [K.len];exact nZ hk (lN q)
  have e1:js[k - H0.length]?=some js[k - H0.length]:=aQ sj
  have Hh:k - H0.length < os.length:=nZ hk (lN q)
  have q_:=K.at_ _ _ _ e1 (aQ Hh);have a:=q_.1;have b:=q_.2.1;have c:=q_.2.2
  refine (sN (js[k - H0.length]) (rK b) ?_ (.inr (sS (lN q) a e1)))
  rw [if_neg q]
  simp [sj]
theorem Inv.picks (I:Inv am L m α (H0++G) h) (K:Kept H0 G js os) (l:∀ (k:Nat) (o:AO),H0[k]?=some o→vz H0.length o):Inv am L m (xn α H0.length js) (H0++os) h:=by
 have hl:(H0++os).length=H0.length+os.length:=aI
 have hn:H0.length≤(H0++G).length:=by simp
 have same:∀ k < H0.length,xn α H0.length js k=α k:=fun k hk=>if_pos hk
 have up:∀ {a:Addr} {ob:AO},tP h α (H0++G).length a ob→vz H0.length ob→tP h (xn α H0.length js) (H0++os).length a ob:=fun {a ob} r lo =>
  r.lowG (lT lI (lS hl)) same (fun k hk=>let ⟨i,h1,h2,_⟩:=K.Pi (α:=α) (hl▸hk);(i12 i h1 h2)) lo
 refine ⟨I.fr,fun k hk=>?_,fun i k hi hk e=>?_,fun k ob e=>?_⟩
 ·obtain ⟨i,hi,e,_⟩:=K.Pi (α:=α) (hl▸hk)
  rw [e];exact I.low i hi
 ·obtain ⟨a,ha,ea,ca⟩:=K.Pi (α:=α) (hl▸hi)
  obtain ⟨b,hb,eb,cb⟩:=K.Pi (α:=α) (hl▸hk)
  rw [ea,eb] at e
  have:=I.inj a b ha hb e
  subst this
  rcases ca with ⟨c1,c2⟩ | ⟨c1,c2,c3⟩ <;> rcases cb with ⟨d1,d2⟩ | ⟨d1,d2,d3⟩
  ·exact lA (lT (lS c2) (lE d2)) (lT (lS d2) (lE c2))
  ·exact lX c1 (lU 1 (lT d2 (lE c2)))
  ·exact lX c2 (lT (lU 1 (lE d2)) d1)
  ·have li:=(rK c3)
   have lk:=(rK d3)
   have ei:js[i - H0.length]=a:=(cQ.mp c3).2
   have ek:js[k - H0.length]=a:=(cQ.mp d3).2
   have nd:=cK.mp K.nd
   rcases kZ (i - H0.length) (k - H0.length) with q | q | q
   ·exact absurd (ei.trans ek.symm) (nd _ _ li lk q)
   ·exact Tl c1 d1 q
   ·exact absurd (ek.trans ei.symm) (nd _ _ lk li q)
 ·by_cases q:k < H0.length
  ·rw [aR q] at e
   rw [same k q]
   exact up (I.obj k ob (by rw [aR q];exact e)) (l k ob e)
  ·rw [aK (lN q)] at e
   have Hh:=(rK e)
   have sj:k - H0.length < js.length:=by rw [K.len];exact Hh
   have e1:js[k - H0.length]?=some js[k - H0.length]:=aQ sj
   have q_:=K.at_ _ _ _ e1 e;have a:=q_.1;have b:=q_.2.1;have c:=q_.2.2
   have e2:xn α H0.length js k=α js[k - H0.length]:=by
    unfold xn
    rw [if_neg q]
    simp [sj]
   rw [e2]
   exact up (I.obj _ ob b) c
theorem Ext.picks {n:Nat} {h h' : Heap} (x:Ext L α dL n (H0++G).length h h') (K:Kept H0 G js os) (h1:n≤H0.length):Ext L α (xn dL H0.length js) n (H0++os).length h h':=by
 have hl:(H0++os).length=H0.length+os.length:=aI
 refine ⟨fun i hi=>(if_pos (lT hi h1)).trans (x.al i hi),lT h1 (lT lI (lS hl)),x.size,x.keep,fun i a b=>?_⟩
 obtain ⟨k,hk,e,c⟩:=K.Pi (α:=dL) (hl▸b)
 rw [e]
 exact x.new k (c.elim (fun q=>q.2▸a) fun q=>lT h1 q.2.1) hk
theorem pp.picks {a:AV} {v:aa} (V:pp h α (H0++G).length a v) (K:Kept H0 G js os) (ha:HO (fun k=>k < H0.length∨k∈js) a):pp h (xn α H0.length js) (H0++os).length (mapR (DR H0.length js) a) v:=by
 have hl:(H0++os).length=H0.length+os.length:=aI
 refine V.YU (p:=fun k=>k < H0.length∨k∈js) (fun k hk=>?_) (fun k hk=>let ⟨i,h1,h2,_⟩:=K.Pi (α:=α) (hl▸hk);(i12 i h1 h2)) ha
 unfold DR xn
 by_cases q:k < H0.length
 ·rw [if_pos q,if_pos q];exact ⟨lT q (lT lI (lS hl)),rfl⟩
 ·have hm:k∈js:=hk.resolve_left q
  have hi:js.idxOf k < js.length:=List.idxOf_lt_length_iff.mpr hm
  rw [if_neg q,if_neg (lF lI)]
  refine ⟨by rw [hl,← K.len];exact oB hi,?_⟩
  have:H0.length+js.idxOf k - H0.length=js.idxOf k:=nB _ _
  rw [this]
  simp [hi,List.getElem_idxOf]
end
section
variable {nm:List Str} {ρ:List ci} {H:AH} {R:AV→AH→Prop}
noncomputable def N6 (H:AH) (R:AV→AH→Prop):AV→AH→Prop:=fun a H'=>∃ H0 G js os,H'=H0++G∧uY H H0∧Kept H0 G js os∧HO (fun k=>k < H0.length∨k∈js) a∧R (mapR (DR H0.length js) a) (H0++os)
theorem FN.picks {f:aa} {args:List AV} {kw:List Str} (h:FN an w am d f H args kw (N6 H R)):FN an w am d f H args kw R:=fun A L m α s Q E vs hr I V k =>
 h A L m α s Q E vs hr I V fun av v dL H' s' r x I' V Z=>by
  obtain ⟨H0,G,js,os,rfl,K,J,ha,r⟩:=r
  exact k _ v _ _ s' r (x.picks J K.1) (I'.picks J (K.low I)) (V.picks J ha) Z
theorem vH (n:Nat):vW (.int (n:Nat))=some (some n):=by
 refine (?_:(if (0:Int)≤(n:Int) then some (some (n:Int).toNat) else none)=_)
 rw [if_pos (nF _)]
 simp
end
end
noncomputable def tR (bm:List (List Nat)):Nat→List Nat→List Nat→List Nat×List Nat×List Nat
 | 0,t,p=>(p,t,re t bm)
 | f+1,t,p=>if (re t bm).length=1∧bm.getD ((re t bm).getD 0 0) []≠[] then tR bm f (t.drop (bm.getD ((re t bm).getD 0 0) []).length) (p++[(re t bm).getD 0 0]) else (p,t,re t bm)
theorem z6 {bm:List (List Nat)} {f:Nat} {t p:List Nat}:tR bm (f+1) t p=if (re t bm).length=1∧bm.getD ((re t bm).getD 0 0) []≠[] then tR bm f (t.drop (bm.getD ((re t bm).getD 0 0) []).length) (p++[(re t bm).getD 0 0]) else (p,t,re t bm):=rfl
theorem E9 {t:List Nat} {bm:List (List Nat)} {i:Nat} (h:i∈re t bm):i < bm.length∧t.take (bm.getD i []).length=bm.getD i []:=by
 unfold re at h
 have q_:=dE.mp h;have a:=q_.1;have b:=q_.2
 exact ⟨dc.mp a,by simpa using b⟩
noncomputable def Sz:List Stmt:=fBody (vP pw 44)
noncomputable abbrev Ws:List Str:=["text","words","places","fits","_law_fits","len"]
theorem mt {H G:AH} {j:Nat} {o:AO} (h:H.length≤j):(H++G).set j o=H++G.set (j - H.length) o:=bY _ _ h
theorem ce {H:AH} {i j:Nat} {o:AO} (h:i≠j):(H.set i o)[j]?=H[j]?:=aF h
section
theorem Fa (X:(KK P).In am):GL am "_law_fits" (.ref 840):=su X (by kernel_rfl)
theorem ya {H:AH} {k i:Nat} {l:List Nat} {n:Nat} (hk:H[k]?=some (.list (uD l))) (hi:l[i]?=some n) (hz:l.length≤1000000):sT (.ref k) (.int (i:Nat)) H=some (.int (n:Nat)):=by
 unfold sT
 dsimp only
 rw [hk]
 refine (?_:(idx (i:Int) (uD l).length).bind ((uD l)[·]?)=_)
 have va:=(rK hi)
 rw [vZ (by simpa [uD] using va) (by simpa [uD] using hz)]
 simp [uD,hi]
theorem yb {H:AH} {k i:Nat} {l:List (List Nat)} {x:List Nat} (hk:H[k]?=some (.list (rQ l))) (hi:l[i]?=some x) (hz:l.length≤1000000):sT (.ref k) (.int (i:Nat)) H=some (.str x):=by
 unfold sT
 dsimp only
 rw [hk]
 refine (?_:(idx (i:Int) (rQ l).length).bind ((rQ l)[·]?)=_)
 have va:=(rK hi)
 rw [vZ (by simpa [rQ] using va) (by simpa [rQ] using hz)]
 simp [rQ,hi]
theorem K8 (X:(KK P).In am) {k j:Nat} {bm:List (List Nat)} {H:AH} (hk:H[k]?=some (.list (rQ bm))) (hz:bm.length≤1000) (hw:∀ x∈bm,x.length≤1000) (hj:H.length≤j):∀ (f:Nat) (t p:List Nat) (q:Nat) (G:AH),t.length≤f→f≤1000→p.length+f≤10000→H.length≤q→q≠j →
  (H++G)[j]?=some (.list (uD p))→(H++G)[q]?=some (.list (uD (re t bm))) →
  SC an w am (d+1) Ws [.loc (some (.str t)),.loc (some (.ref k)),.loc (some (.ref j)),.loc (some (.ref q)),.rc,.rc] (H++G) (fun be=>.whileLoop (wT (nb Sz 2)) (wB (nb Sz 2)) (wO (nb Sz 2)) be)
   (fun fl ρ' H'=>fl=.next∧∃ q' G',ρ'=[.loc (some (.str (tR bm f t p).2.1)),.loc (some (.ref k)),.loc (some (.ref j)),.loc (some (.ref q')),.rc,.rc]∧H'=H++G'∧H.length≤q'∧q'≠j∧H'[j]?=some (.list (uD (tR bm f t p).1))∧H'[q']?=some (.list (uD (tR bm f t p).2.2))):=by
 intro f
 induction f with
 | zero =>
  intro t p q G ht hf hp hq Pj h1 h2
  have:t=[]:=j7 (lA ht lZ)
  subst this
  have NW:(re [] bm).length≤bm.length:=by
   unfold re
   refine aj (nJ _ _) (by simp)
  refine tu (r9 (dl (io (ti 5 rfl rfl (ue X) (.mk nw (bi (lm 3 rfl rfl (cr ((xr h2 (by simp [uD];exact lR 999000 (lT NW hz))).to (f8 (.mk _ rfl ?_)))))))))))
  have el:(uD (re [] bm)).length=(re [] bm).length:=by simp [uD]
  rw [el]
  by_cases h:(re [] bm).length=1
  ·rw [h]
   refine tX (by rfl) ?_
   obtain ⟨i,hi⟩ : ∃ i,(re [] bm)[0]?=some i:=⟨_,aQ (lS h)⟩
   have q_:=E9 (bx hi);have a:=q_.1;have b:=q_.2
   have hx:bm[i]?=some bm[i]:=aQ a
   have Ud:bm[i]=[]:=by
    have:bm.getD i []=bm[i]:=by simp [a]
    rw [this] at b
    simpa using b.symm
   refine r9 (dl (rR (lm 1 rfl rfl (rR (lm 3 rfl rfl (f8 (.mk _ (ya (i:=0) h2 hi (lR 999999 (lE h))) (.mk _ (yb (bv hk) hx (lR 999000 hz)) (pu (l:=[]) rfl (.mk _ rfl ?_))))))))))
   rw [Ud];refine so (by simp) ?_
   refine so (by simp) ?_
   exact ev (vm rfl (Pc q G rfl rfl hq Pj h1 h2))
  ·have e:(((re [] bm).length:Int) == 1)=false:=by simp;lia
   rw [e];refine so (by simp) ?_;refine so (by simp) ?_
   exact ev (vm rfl (Pc q G rfl rfl hq Pj h1 h2))
 | succ f ih =>
  intro t p q G ht hf hp hq Pj h1 h2
  have NW:(re t bm).length≤bm.length:=by
   unfold re
   refine aj (nJ _ _) (by simp)
  refine tu (r9 (dl (io (ti 5 rfl rfl (ue X) (.mk nw (bi (lm 3 rfl rfl (cr ((xr h2 (by simp [uD];exact lR 999000 (lT NW hz))).to (f8 (.mk _ rfl ?_)))))))))))
  have el:(uD (re t bm)).length=(re t bm).length:=by simp [uD]
  rw [el]
  by_cases h:(re t bm).length=1
  ·rw [h]
   refine tX (by rfl) ?_
   obtain ⟨i,hi⟩ : ∃ i,(re t bm)[0]?=some i:=⟨_,aQ (lS h)⟩
   have q_:=E9 (bx hi);have a:=q_.1;have b:=q_.2
   have hx:bm[i]?=some bm[i]:=aQ a
   have hg:bm.getD i []=bm[i]:=by simp [a]
   have MQ:(re t bm).getD 0 0=i:=by rw [gB,hi];rfl
   have JO:=hw bm[i] (eL a)
   refine r9 (dl (rR (lm 1 rfl rfl (rR (lm 3 rfl rfl (f8 (.mk _ (ya (i:=0) h2 hi (lR 999999 (lE h))) (.mk _ (yb (bv hk) hx (lR 999000 hz)) (pu (l:=[]) rfl (.mk _ rfl ?_))))))))))
   by_cases sz:bm[i]=[]
   ·rw [sz];refine so (by simp) ?_;refine so (by simp) ?_
    have e:tR bm (f+1) t p=(p,t,re t bm):=by
     rw [z6,if_neg]
     rintro ⟨_,q⟩
     rw [MQ,hg,sz] at q
     exact q rfl
    rw [e]
    exact ev (vm rfl (Pc q G rfl rfl hq Pj h1 h2))
   ·refine tX (by simpa using sz) ?_
    refine xH ?_
    refine tX rfl ?_
    have e:tR bm (f+1) t p=tR bm f (t.drop bm[i].length) (p++[i]):=by
     rw [z6,if_pos ⟨h,by rw [MQ,hg];exact sz⟩,MQ,hg]
    rw [e]
    have HC:0 < bm[i].length:=ky.mpr sz
    have wo:j < (H++G).length:=(rK h1)
    refine bd (te (uu (lm 2 rfl rfl (.mk "list.append" (uO qB qt h1) (bi (rR (lm 3 rfl rfl (f8 (.mk _ (ya (i:=0) h2 hi (lR 999999 (lE h))) (cr ((uT h1 (by simp [uD];exact lR 990000 (lT lI hp))).to ?_)))))))))))
    have ea:uD p++[.int (i:Nat)]=uD (p++[i]):=by simp [uD]
    rw [ea,mt hj]
    have g1:(H++G.set (j - H.length) (.list (uD (p++[i]))))[j]?=some (.list (uD (p++[i]))):=by rw [← mt hj,az wo]
    have g2:(H++G.set (j - H.length) (.list (uD (p++[i]))))[q]?=some (.list (uD (re t bm))):=by rw [← mt hj,ce (aq Pj)];exact h2
    generalize G.set (j - H.length) (.list (uD (p++[i])))=G1 at g1 g2
    refine bd (t6 0 rfl (wZ (lm 0 rfl rfl (uv ?_))))
    refine io (ti 5 rfl rfl (ue X) (.mk nw (bi (rR (lm 1 rfl rfl (rR (lm 3 rfl rfl (f8 (.mk _ (ya (i:=0) g2 hi (lR 999999 (lE h))) (.mk _ (yb (bv hk) hx (lR 999000 hz)) (cr (um (lR 999000 JO) (ve (Kp t _ none rfl (lR 999000 (lT ht hf)) (vH _) rfl (by simp) (tW _ _ rfl ?_)))))))))))))))
    refine (?_:ST an w am (d+1) Ws [.loc (some (.str (t.drop bm[i].length))),.loc (some (.ref k)),.loc (some (.ref j)),.loc (some (.ref q)),.rc,.rc] (H++G1) _ _)
    refine bd (t6 3 rfl (io (ti 4 rfl rfl (Fa X) (.mk (tC X (by kernel_rfl)) (bi (lm 0 rfl rfl (bi (lm 1 rfl rfl (cr ((E8 X (bv hk) hz (by simp;exact lT ht (lT hf lI)) hw).to (tW _ _ rfl ?_)))))))))))
    refine ev ?_
    have Ue:j < (H++G1).length:=(rK g1)
    refine (SC.mono (R:=_) (by
     have:=ih (t.drop bm[i].length) (p++[i]) (H++G1).length (G1++[.list (uD (re (t.drop bm[i].length) bm))]) (by simp;exact aj ht (cx HC _)) (lR 1 (lD 1 hf)) (by simp;exact nO hp) (by simp) (lH Ue) (by rw [← ak];exact bv g1) (by rw [← ak];simp)
     rw [← ak] at this
     exact this) ?_)
    rintro fl ρ' H' ⟨rfl,q',G',rfl,rfl,a1,a2,a3,a4⟩
    exact (vm rfl (Pc q' G' rfl rfl a1 a2 a3 a4))
  ·have e:(((re t bm).length:Int) == 1)=false:=by simp;lia
   rw [e];refine so (by simp) ?_;refine so (by simp) ?_
   have e:tR bm (f+1) t p=(p,t,re t bm):=by
    rw [z6,if_neg]
    rintro ⟨q,_⟩
    exact h q
   rw [e]
   exact ev (vm rfl (Pc q G rfl rfl hq Pj h1 h2))
end
section
set_option backward.match.sparseCases false
theorem keep_base {H:AH}:uY H H:=uY.refl H
theorem Fb {n:Nat} {l:List Nat}:uL n (uD l)=true:=vC fun a ha=>by
 obtain ⟨i,_,rfl⟩:=aE.mp ha
 rfl
theorem yc {n:Nat} {l:List (List Nat)}:uL n (rQ l)=true:=vC fun a ha=>by
 obtain ⟨i,_,rfl⟩:=aE.mp ha
 rfl
theorem K9 {n:Nat} {l:List HP}:uL n (l.map pv)=true:=vC fun a ha=>by
 obtain ⟨i,_,rfl⟩:=aE.mp ha
 rfl
theorem MR {H G:AH} {j:Nat} {o:AO} (h1:H.length≤j) (h2:(H++G)[j]?=some o) (h3:vz H.length o):Kept H G [j] [o]:=by
 refine ⟨by simp,rfl,fun i j' o' a b=>?_⟩
 match i,a,b with
 | 0,a,b=>cases a;cases b;exact (sS h1 h2 h3)
theorem Qy {H G:AH} {j q:Nat} {o o2:AO} (ne:q≠j) (h1:H.length≤j) (h2:(H++G)[j]?=some o) (h3:vz H.length o) (g1:H.length≤q) (g2:(H++G)[q]?=some o2) (g3:vz H.length o2):Kept H G [j,q] [o,o2]:=by
 refine ⟨by simp;exact aq ne,rfl,fun i j' o' a b=>?_⟩
 match i,a,b with
 | 0,a,b=>cases a;cases b;exact (sS h1 h2 h3)
 | 1,a,b=>cases a;cases b;exact (sS g1 g2 g3)
theorem HR {n j:Nat} {r:List Nat} (h:n≤j):DR n (j::r) j=n:=by
 unfold DR
 rw [if_neg (lF h)]
 simp
theorem Qz {n j q:Nat} {r:List Nat} (h:n≤q) (ne:q≠j):DR n (j::q::r) q=n+1:=by
 unfold DR
 rw [if_neg (lF h)]
 have:(j == q)=false:=by simpa using aq ne
 simp [List.idxOf_cons,this]
section
theorem N7 (X:(KK P).In am) {k:Nat} {t:List Nat} {bm:List (List Nat)} {H:AH} (hk:H[k]?=some (.list (rQ bm))) (hz:bm.length≤1000) (ht:t.length≤1000) (hw:∀ x∈bm,x.length≤1000) :
  FN an w am (d+2) (.ref 847) H [.str t,.ref k] [] (Is (.tup [.ref H.length,.str (tR bm t.length t []).2.1,.ref (H.length+1)]) (H++[.list (uD (tR bm t.length t []).1),.list (uD (tR bm t.length t []).2.2)])):=by
 refine FN.picks (uN (ps:=["text","words"]) (nl:=["places","fits"]) (ng:=["_law_fits","len"]) (body:=Sz)
  (u0 X (o:=Kj tw P) (by kernel_rfl) rfl (by kernel_rfl) rfl (by kernel_rfl)) rfl (fun s vs hv _=>EV (fun a b=>by kernel_rfl) s vs hv) ?_)
 refine bd (t6 2 rfl (sB (cr (vm (by simp) (tW _ _ rfl ?_)))))
 refine bd (t6 3 rfl (io (ti 4 rfl rfl (Fa X) (.mk (tC X (by kernel_rfl)) (bi (lm 0 rfl rfl (bi (lm 1 rfl rfl (cr ((E8 X (bv hk) hz ht hw).to (tW _ _ rfl ?_)))))))))))
 have e:(H++[AO.list []]).length=H.length+1:=by simp
 rw [e,ak]
 refine bd (uB ((K8 X hk hz hw (j:=H.length) (ar _) t.length t [] (H.length+1) _ (ar _) ht (by simp;exact lR 9000 ht) (lR 1 lO) (lH lO) (by simp [uD]) (by rw [aK (lR 1 lO)];simp)).mono ?_))
 rintro fl ρ' H' ⟨rfl,q,G,rfl,rfl,h1,h2,h3,h4⟩
 refine bd (sF (vn (bi (lm 2 rfl rfl (bi (lm 0 rfl rfl (bi (lm 3 rfl rfl (cr ⟨by simp,?_⟩)))))))))
 refine (Se H G [H.length,q] _ rfl keep_base (Qy h2 (ar _) h3 Fb h1 h4 Fb) (FE (.inr (by simp)) trivial (.inr (by simp)) trivial) ?_ rfl)
 simp only [NY,NZ,N3,N4,N5,HR (ar _),Qz h1 h2]
end
end
section
set_option backward.match.sparseCases false
noncomputable def vh:List Nat:=[39,32,35]
noncomputable def yd:List (List Nat):=vh.map (fun a=>[a])++vh.flatMap (fun a=>vh.map fun b=>[a,b])++vh.flatMap (fun a=>vh.flatMap fun b=>vh.map fun c=>[a,b,c])
theorem w4 {y:Nat} (h:tT y=true):y∈vh:=by
 simp only [tT,cZ,beq_iff_eq] at h
 simp only [vh,aA,bH,or_false]
 rcases h with (h | h) | h
 ·exact .inl h
 ·exact .inr (.inl h)
 ·exact .inr (.inr h)
theorem MS {x:List Nat} (h:∀ y∈x,tT y=true) (h0:x≠[]) (h3:x.length≤3):x∈yd:=by
 unfold yd
 simp only [bV,aE,iB]
 cases x with
 | nil=>exact absurd rfl h0
 | cons a x=>cases x with
  | nil=>exact .inl (.inl ⟨a,w4 (h a (.head _)),rfl⟩)
  | cons b x=>cases x with
   | nil=>exact .inl (.inr ⟨a,w4 (h a (.head _)),b,w4 (h b pL),rfl⟩)
   | cons c x=>cases x with
    | nil=>exact .inr ⟨a,w4 (h a (.head _)),b,w4 (h b pL),c,w4 (h c pM),rfl⟩
    | cons=>exact absurd h3 (qn (j8 4 _))
noncomputable def HT:Array Nat:=#[14,17,4,1,1,21,9,0,604043296,1,0,0,0,0,0,8,4,0,13,14,21,9,0,604043296,1,0,0,0,0,0,8,4,0,1]
noncomputable def HU (S:dY) (x:List Nat):Bool:=match peek [] S (aT.Re.reRunToEnd (Sre.forSearch HT x.toArray 0 0 x.length false)) with
 | some (some _)=>true
 | _=>false
theorem FZ (S:dY):yd.all (HU S)=true:=by kernel_rfl
end
theorem BN:hV table "re.Pattern.search"=some aT.«re.Pattern.search»:=kY (by kernel_rfl)
theorem ye:plainId "re.Pattern.search"=true:=by decide +kernel
section
theorem N8 (S:dY) (P:aL) (x:List Nat) (t:Tok):peek (KK P) S (checkBoundCall "re.Pattern.search" ⟨[.ref 91,.str ⟨x.toArray⟩ t],[]⟩)=some ():=by kernel_rfl
theorem N9 (S:dY) (P:aL) (x:List Nat) (t:Tok):peek (KK P) S (aT.Re.reTarget "re.Pattern.search" "search" ⟨[.ref 91,.str ⟨x.toArray⟩ t],[]⟩) =
  some {pattern:=.ref 91,string:=.str ⟨x.toArray⟩ t,code:=HT,text:=x.toArray,kind:=0,groups:=0,pos:=min 0 x.toArray.size,lim:=min (2 ^ 63 - 1) x.toArray.size}:=by kernel_rfl
theorem Oa {h:Heap}:Frag.In [] h:=fun a o e=>by cases e
end
section
set_option tactic.hygienic true
noncomputable def pt (x:List Nat):List Nat:=if x=[] then [39,39] else 39::(x.flatMap fun c=>if c=39 then [39,34,39,34,39] else [c])++[39]
noncomputable def u1 (x:List Nat):List Nat:=x.flatMap fun c=>if c=39 then [39,34,39,34,39] else [c]
noncomputable def rep1 (x:List Nat):Bool:=(kG ⟨x.toArray⟩ ⟨#[39]⟩ ⟨#[39,34,39,34,39]⟩).cps.toList == u1 x
theorem Le:yd.all rep1=true:=by decide +kernel
theorem HV {x:List Nat} (h:x∈yd):kG ⟨x.toArray⟩ ⟨#[39]⟩ ⟨#[39,34,39,34,39]⟩=⟨(u1 x).toArray⟩:=by
 have:=d0.mp Le x h
 unfold rep1 at this
 have e:=eq_of_beq this
 generalize kG ⟨x.toArray⟩ ⟨#[39]⟩ ⟨#[39,34,39,34,39]⟩=z at e ⊢
 obtain ⟨z⟩:=z
 simp only at e
 rw [← e]
section
variable {nm:List Str} {ρ:List ci} {H:AH} {R:AV→AH→Prop}
end
end
section
set_option tactic.hygienic true
theorem Lf (X:(KK w.params).In am):KP (ah an w) am (.ref 794):=fun h k=>(i12 .machine (.inr (.inl rfl)) (cM (X.keeps k) (by kernel_rfl)))
theorem CA (x:List Nat):(u1 x).length≤5 * x.length:=by
 induction x with
 | nil=>simp [u1]
 | cons a r ih =>
  unfold u1 at ih ⊢
  rw [nq,aI,aS]
  have:(if a=39 then [39,34,39,34,39] else [a]).length≤5:=by split <;> simp
  exact Tm ih this
noncomputable def YV:List Stmt:=fBody (vP pw 35)
end
section
variable {A:au} {s:af} {Q E:aa→af→Prop}
set_option tactic.hygienic true in
theorem CB (Xs:(KK w.params).In s.heap) {x:List Nat} {t:Tok} (hx:∀ y∈x,tT y=true) (h0:x≠[]) (h3:x.length≤3)
  (hQ:∀ a h',(∀ b o,s.heap.get? b=some o→h'.get? b=some o)→Q (.ref a) {s with heap:=h'}):ag (ah an w) A (call (.ref 794) [.str ⟨x.toArray⟩ t]) Q E s:=by
 have hb:s.heap.get? 794=some {cls:=.type "builtin_function_or_method",dict:=none,data:=.fields #[.builtin "re.Pattern.search",.ref 91],slots:=#[]}:=Xs 794 _ (by kernel_rfl)
 refine dg (eN ?_)
 refine (?_:ag _ A.in1 (iN (.ref 794) ⟨[.str ⟨x.toArray⟩ t],[]⟩) _ _ _)
 unfold iN
 refine ab (lK hb ?_)
 refine (?_:ag _ A.in1 (checkBoundCall "re.Pattern.search" ⟨[.ref 91,.str ⟨x.toArray⟩ t],[]⟩ >>= fun _=>cC (.builtin "re.Pattern.search" ⟨[.ref 91,.str ⟨x.toArray⟩ t],[]⟩)) _ _ s)
 refine ab ((cM (M:=ah an w) Xs (N8 _ _ x t)).here ?_)
 refine ai ⟨kO ye _,fE BN ?_⟩
 rw [iX ye _]
 unfold aT.«re.Pattern.search»
 refine ab ((cM (M:=ah an w) Xs (N9 _ _ x t)).here ?_)
 unfold aT.Re.reAnswer
 have hf:=d0.mp (FZ ⟨an,w.params⟩) x (MS hx h0 h3)
 unfold HU at hf
 have e1:min 0 x.toArray.size=0:=(nA _).symm
 have e2:min (2 ^ 63 - 1) x.toArray.size=x.length:=by simp -iota;exact rg (aj h3 (by decide))
 dsimp only
 rw [e1,e2]
 split at hf
 ·rename_i m' YW
  refine ab ((cM (M:=ah an w) (h:=s.heap) Oa YW).here ?_)
  dsimp only
  unfold aT.Re.reNewMatch
  simp -iota only [List.range_zero,List.any_nil,List.flatMap_nil,cG,if_false]
  refine ab (ab (i8 ?_ (by rw [cD];simp -iota)))
  unfold newFields
  refine fy ?_ (by size_fits)
  exact ai (hQ _ _ fun b o e=>bT _ (bT _ e))
 ·exact nomatch hf
end
section
variable {A:au} {s:af} {Q E:aa→af→Prop}
theorem sV {M:dv} {be:Env} {st:Stmt} {rest:List Stmt} {Q:Flow→af→Prop} (h:ag M A (exec st be) (fun f s'=>match f with | .next=>ag M A (aG rest be) Q E s' | f=>Q f s') E s):ag M A (aG (st::rest) be) Q E s:=by
 refine (?_:ag M A (do match ← exec st be with | .next=>aG rest be | f=>pure f) Q E s)
 refine ab (dm h (fun f s' h'=>?_) fun _ _ x=>x)
 cases f <;> first | exact h' | exact ai h'
theorem DS (Xs:(KK w.params).In s.heap) {x:List Nat} {t:Tok} (hd:A.depth+10 < kc) (hx:∀ y∈x,tT y=true) (h3:x.length≤3)
  (hQ:∀ t' tk h',(∀ b o,s.heap.get? b=some o→h'.get? b=some o)→Q (.str ⟨(pt x).toArray⟩ t') {s with heap:=h',toks:=tk}):ag (ah an w) A (call (.ref 801) [.str ⟨x.toArray⟩ t]) Q E s:=by
 obtain ⟨fd,F,Lg⟩ : ∃ fd,Ck s.heap 801 fd YV [aB "s"] [] [aB "_find_unsafe"]∧∀ a,dH fd ⟨[a],[]⟩=pure [(aB "s",a)] :=
  (i12 _ (u0 Xs (o:=Kb tw w.params) (by kernel_rfl) rfl (by kernel_rfl) rfl (by kernel_rfl)) (fun a=>by kernel_rfl))
 obtain ⟨o,ho,yH⟩:=F.at_
 refine dg (ix (binds:=[(aB "s",.str ⟨x.toArray⟩ t)]) (lD 10 (lR 10 hd)) ho yH F.nolimit F.code F.body (.of_eq (Lg _)) F.wq (fun y hy=>?_) (fun rJ xk hk=>?_) F.co F.gen F.kind)
 ·rw [aU.mp hy];exact F.locals _ (by simp -iota)
 dsimp only [hZ]
 have Uf:∀ {A' : au} {pos:Pos} (s1:af) {Q' E' : aa→af→Prop},s1.heap.Ns s.heap.objs.size (fun y=>gZ y [(aB "s",fX ⟨x.toArray⟩ t)].reverse)→Q' (.str ⟨x.toArray⟩ t) s1→ag (ah an w) A' (eval (.Name (aB "s") pos) (bF fd s.heap.objs.size 801)) Q' E' s1 :=
  fun s1 Q' E' hn h=>gI (gy (show (bF fd s.heap.objs.size 801).scope.kind=.function from F.kind) (F.locals _ (by simp -iota)) hn (by rfl) h) (by decide +kernel)
 have hg:=xT Xs
 have YX:∀ {A' : au} {pos:Pos} (s1:af) {Q' E' : aa→af→Prop},s1.heap.Ns dK (fx (KJ (AK tw w.params).data))→Q' (.ref 794) s1→ag (ah an w) A' (eval (.Name (aB "_find_unsafe") pos) (bF fd s.heap.objs.size 801)) Q' E' s1 :=
  fun s1 Q' E' hn h=>g7 (show (bF fd s.heap.objs.size 801).scope.kind=.function from F.kind) (F.xl _ (by simp -iota)) (jN (by rw [show (bF fd s.heap.objs.size 801).globals=dK from F.rc];exact hn) (by kernel_rfl) h) (by decide +kernel)
 have lx:((⟨x.toArray⟩ : Str).length:Int)=(x.length:Int):=by simp -iota [di]
 refine sV (jY (isTrue_not (isTrue_plain (Uf _ xk (qY (by rw [lx];lia) ?_)))))
 rw [lx]
 by_cases h0:x=[]
 ·subst h0
  refine tX (by decide) ?_
  refine sV (iG (fS ?_))
  exact hQ _ _ rJ hk
 ·have mo:0 < x.length:=ky.mpr h0
  refine so (by simp -iota;lia) ?_
  refine lG ?_
  have X1:=Xs.keeps hk
  refine sV (jY (oT (Call_ (YX _ (hg.keeps hk) ?_) (by rfl)) (by rfl)))
  refine cY (P:=fun h=>∀ b o,s.heap.get? b=some o→h.get? b=some o) rfl (Lf Xs) (eE (f5 (Uf _ xk (hM ⟨hk,?_⟩)) rfl))
  refine CB X1 hx h0 h3 fun a h2 u7=>?_
  have MT:∀ b o,s.heap.get? b=some o→h2.get? b=some o:=fun b o e=>u7 b o (hk b o e)
  refine rG (is_none_gen (qg ?_))
  refine so (by simp -iota) ?_
  refine lG ?_
  have hl:=CA x
  refine sV (iG (nj (nj (fS (fU (Uf _ (xk.keeps u7) (GM.replace ?_)) (by rfl))))))
  refine cY (P:=fun h=>∀ b o,s.heap.get? b=some o→h.get? b=some o) rfl (nw) (eE (f5 (fS (f5 (fS (hM ⟨MT,?_⟩)) rfl)) rfl))
  refine SC.replaceW (mu _) (mu _) (ax (bB _)) (by decide +kernel) (by simp -iota [di];exact lR 1048573 h3) (by decide +kernel) fun t' k=>?_
  have e1:kG ⟨x.toArray⟩ (aB "'") (aB "'\"'\"'")=⟨(u1 x).toArray⟩:=HV (MS hx h0 h3)
  rw [e1]
  have e2:aB "'"=⟨[39].toArray⟩:=rfl
  rw [e2]
  refine ma (fun t2 tk=>?_) (by simp -iota only [di,bZ];rw [cD];simp -iota;exact aj (cx (aj hl (cy 5 h3)) 1) (by decide))
  rw [wN]
  refine fS (ma (fun t3 tk3=>?_) (by simp -iota only [di,bZ];rw [cD];simp -iota;lia))
  rw [wN]
  have e3:[39]++u1 x++[39]=pt x:=by unfold pt;rw [if_neg h0];rfl
  rw [e3]
  exact hQ _ _ h2 MT
end
noncomputable def yM (name:Str) (av:AV):List (Str×AV)→List (Str×AV)
 | []=>[(name,av)]
 | p::r=>if p.1=name then (name,av)::r else p::yM name av r
theorem DT {name:Str} {av:AV} {p:Str×AV} {r:List (Str×AV)}:yM name av (p::r)=if p.1=name then (name,av)::r else p::yM name av r:=rfl
theorem DU {name:Str} {av:AV}:yM name av []=[(name,av)]:=rfl
theorem HW {name:Str} {av:AV}:∀ {as:List (Str×AV)},(as.map (·.1)).Nodup→∀ {x:Str} {b:AV},(x,b)∈yM name av as→(x=name∧b=av)∨(x≠name∧(x,b)∈as):=by
 intro v_
 induction v_ with
 | nil =>
  intro _ x b h
  simp [DU] at h;exact .inl h
 | cons p r sg =>
  intro nd x b h
  rw [DT] at h
  rw [bD,cq] at nd
  split at h
  ·rename_i e
   rcases aA.mp h with q | q
   ·cases q;exact .inl ⟨rfl,rfl⟩
   ·refine .inr ⟨fun z=>nd.1 ?_,ba _ q⟩
    rw [e,← z]
    exact dZ (f:=(·.1)) q
  ·rename_i e
   rcases aA.mp h with q | q
   ·subst q;exact .inr ⟨e,aZ⟩
   ·exact (sg nd.2 q).imp id fun z=>⟨z.1,ba _ z.2⟩
theorem HX {name:Str} {av:AV}:∀ {as:List (Str×AV)} {x:Str},x∉(yM name av as).map (·.1)→x≠name∧x∉as.map (·.1):=by
 intro v_
 induction v_ with
 | nil =>
  intro x h
  simp [DU] at h;exact ⟨h,by simp⟩
 | cons p r sg =>
  intro x h
  rw [DT] at h
  split at h
  ·rename_i e
   simp only [bD,aA,not_or] at h ⊢
   exact (sS h.1 (by rw [e];exact h.1) h.2)
  ·simp only [bD,aA,not_or] at h ⊢
   have:=sg h.2
   exact (sS this.1 h.1 this.2)
theorem HY {name:Str} {av:AV}:∀ {as:List (Str×AV)},(yM name av as).length=if name∈as.map (·.1) then as.length else as.length+1:=by
 intro v_
 induction v_ with
 | nil =>
  simp [DU]
 | cons p r sg =>
  rw [DT]
  split
  ·rename_i e
   rw [if_pos (by simp [e])]
   rfl
  ·rename_i e
   rw [aS,sg]
   have:name∈(p::r).map (·.1)↔name∈r.map (·.1):=by
    rw [bD,aA]
    exact ⟨fun z=>z.elim (fun q=>absurd q.symm e) id,.inr⟩
   by_cases q:name∈r.map (·.1)
   ·rw [if_pos q,if_pos (this.mpr q)];rfl
   ·rw [if_neg q,if_neg fun z=>q (this.mp z)];rfl
set_option tactic.hygienic true in
theorem isStr_of {v:aa} {x:Str} (h:v.isStr x=true):∃ t,v=.str x t:=by
 unfold kf at h
 cases v <;> simp at h
 rename_i y t
 exact ⟨t,by rw [h]⟩
theorem CD {v:aa} {x y:Str} (h:v.isStr x=true) (n:y≠x):v.isStr y=false:=by
 obtain ⟨t,rfl⟩:=isStr_of h
 unfold kf
 simp
 exact fun e=>n e.symm
theorem CE {name:Str} {hs:Int} {v:aa} {t:Tok}:∀ (es:List cB),∃ e,(putL name hs (.str name t) v es).find? (·.key.isStr name)=some e∧e.val=v
 | []=>(i12 ⟨hs,.str name t,v⟩ (by simp [putL,kf]) rfl)
 | e::r=>by
  unfold putL
  split
  ·rename_i h
   exact (i12 ⟨e.hash,e.key,v⟩ (by rw [gQ,h]) rfl)
  ·rename_i h
   obtain ⟨e',h1,h2⟩:=CE (name:=name) (hs:=hs) (v:=v) (t:=t) r
   exact (i12 e' (by rw [gQ];simp only [h];exact h1) h2)
theorem CF {name y:Str} {hs:Int} {v:aa} {t:Tok} (n:y≠name):∀ (es:List cB),(putL name hs (.str name t) v es).find? (·.key.isStr y)=es.find? (·.key.isStr y):=by
 intro v_
 induction v_ with
 | nil =>
  have:(fX name t).isStr y=false:=CD (x:=name) (by simp [kf]) n
  simp [putL,this]
 | cons e r sg =>
  unfold putL
  split
  ·rename_i h
   have:e.key.isStr y=false:=CD h n
   rw [gQ,gQ,this]
  ·rw [gQ,gQ,sg]
theorem Lh {name:Str} {hs:Int} {v:aa} {t:Tok} (hr:(fX name t)=(fX name t)):∀ (es:List cB),(putL name hs (.str name t) v es).any (·.refKey)=es.any (·.refKey):=by
 intro v_
 induction v_ with
 | nil =>
  simp [putL];rfl
 | cons e r sg =>
  unfold putL
  split
  ·rw [jd,jd];rfl
  ·rw [jd,jd,sg]
theorem Fc {name:Str} {hs:Int} {k v:aa}:∀ (es:List cB),(putL name hs k v es).length=if es.any (·.key.isStr name) then es.length else es.length+1:=by
 intro v_
 induction v_ with
 | nil =>
  exact rfl
 | cons e r sg =>
  unfold putL
  cases h:e.key.isStr name with
  | true=>simp [h]
  | false =>
   simp only [cG,if_false,aS,jd,h,Bool.false_or]
   rw [sg]
   split <;> rfl
theorem HZ {name:Str} {hs:Int} {v:aa} {t:Tok} (es:List cB):getL name (putL name hs (.str name t) v es)=some (some v):=by
 obtain ⟨e,h1,h2⟩:=CE (name:=name) (hs:=hs) (v:=v) (t:=t) es
 unfold getL
 rw [h1]
 dsimp only
 rw [h2]
theorem za {name y:Str} {hs:Int} {v:aa} {t:Tok} (n:y≠name) (es:List cB):getL y (putL name hs (.str name t) v es)=getL y es:=by
 unfold getL
 rw [CF n,Lh rfl]
set_option tactic.hygienic true in
theorem CG {name:Str} {es:List cB} {v:aa} (h:getL name es=some (some v)):es.any (·.key.isStr name)=true:=by
 unfold getL at h
 split at h
 ·rename_i e he
  exact qu.mpr (i12 e (List.mem_of_find?_eq_some he) (List.find?_some (p:=fun x:cB=>x.key.isStr name) he))
 ·split at h <;> cases h
theorem BO {name:Str} {es:List cB} (h:getL name es=some none):es.any (·.key.isStr name)=false:=by
 unfold getL at h
 split at h
 ·cases h
 ·rename_i he
  cases q:es.any (·.key.isStr name) with
  | false=>rfl
  | true =>
   obtain ⟨e,m,z⟩:=qu.mp q
   have:=List.find?_eq_none.mp he e m
   exact absurd z this
section
variable {am h h' : Heap} {L:Addr} {m m' : Str→Option aa} {α:Nat→Addr} {H:AH}
theorem AA {a:Addr} {o:Obj} (g:h.get? a=some o) (hL:a≠L) (h0:am.get? a=none):∃ pre post,uz am L h=pre++(a,o)::post∧(∀ p∈pre,p.1≠a)∧∀ p∈post,p.1≠a:=by
 obtain ⟨pre,post,e⟩:=List.append_of_mem (BH g hL h0)
 have nd:(uz am L h).Pairwise (fun x y=>x.1≠y.1):=by
  unfold uz
  rw [List.pairwise_filterMap]
  refine (jD (n:=h.objs.size)).imp ?_
  intro x y MU b hb b' uw
  have f:∀ {z:Nat} {q:Addr×Obj},(if z=L then none else match am.get? z with
    | some _=>none
    | none=>(h.get? z).map fun o=>(z,o))=some q→q.1=z:=by
   intro z q e
   split at e
   ·exact uH e
   ·split at e
    ·exact uH e
    ·obtain ⟨o',_,rfl⟩:=ig.mp e
     rfl
  rw [f hb,f uw]
  exact MU
 rw [e,kU] at nd
 obtain ⟨_,n2,n3⟩:=nd
 refine (Do pre post e (fun p hp=>n3 p hp _ aZ) (fun p hp=>?_))
 exact aq ((gE.mp n2).1 p hp)
theorem Ob {d:Addr} {o o' : Obj} {post:List (Addr×Obj)} (h2:∀ p∈post,p.1≠d):∀ {pre:List (Addr×Obj)},(∀ p∈pre,p.1≠d)→Upd d o o' (pre++(d,o)::post) (pre++(d,o')::post):=by
 intro v_
 induction v_ with
 | nil =>
  intro _
  exact .head h2
 | cons p r sg =>
  intro h1
  exact .tail (h1 p aZ) (sg fun q hq=>h1 q (ba _ hq))
theorem Inv.QA (I:Inv am L m α H h) {k:Nat} {o o' : Obj} {ao:AO} {pre post:List (Addr×Obj)} (hk:k < H.length) (e:uz am L h=pre++(α k,o)::post) (F' : Fr am L h' m') (N' : News am L h' (pre++(α k,o')::post)) (hz:h.objs.size≤h'.objs.size)
  (r:Ext L α α H.length H.length h h'→tP h' α H.length (α k) ao):Ext L α α H.length (H.set k ao).length h h'∧Inv am L m' α (H.set k ao) h':=by
 have keep:∀ b ob,h.get? b=some ob→b≠L→b≠α k→h'.get? b=some ob:=by
  intro b ob g hL hb
  cases q:am.get? b with
  | some o2 =>
   have:=I.fr.keep b o2 q
   rw [g] at this
   obtain rfl:=ay this
   exact F'.keep b ob q
  | none =>
   have hm:=BH g hL q
   rw [e] at hm
   rcases bV.mp hm with z | z
   ·exact (N' _ (fb _ z)).1
   ·rcases aA.mp z with z | z
    ·cases z;exact absurd rfl hb
    ·exact (N' _ (jf _ (ba _ z))).1
 have x0:Ext L α α H.length H.length h h':=⟨fun _ _=>rfl,ar _,hz,fun b ob g hL hb=>keep b ob g hL (hb k hk),fun _ a b=>absurd b (bG.mpr a)⟩
 have mo:(H.set k ao).length=H.length:=aP
 rw [mo]
 refine ⟨x0,F',fun i hi=>I.low i (by rwa [mo] at hi),fun i j hi hj=>I.inj i j (by rwa [mo] at hi) (by rwa [mo] at hj),fun i oo ei=>?_⟩
 rw [mo]
 by_cases q:i=k
 ·subst q
  rw [az hk] at ei
  obtain rfl:=ay ei
  exact r x0
 ·rw [aF (aq q)] at ei
  have hi:=(rK ei)
  exact (I.obj i oo ei).ext x0 I.kt fun ob g=>keep _ _ g (I.low i hi).2 fun z=>q (I.inj i k hi hk z)
end
section
variable {K:Frag} {nm:List Str} {ρ:List ci} {H:AH}
theorem uR {L:Addr} {m:Str→Option aa} {α:Nat→Addr} {h:Heap} (I:Inv am L m α H h) {k dd:Nat} {C:Addr} {as:List (Str×AV)} (hk:H[k]?=some (.inst C dd)) (hd:H[dd]?=some (.ns as)) :
  ∃ es n,InstAt h (α k) (eD C (α dd)) C (some (dictOf es n))∧h.get? (α dd)=some (dictOf es n)∧(∀ x av,(x,av)∈as→∃ v,getL x es=some (some v)∧pp h α H.length av v)∧(∀ x,x∉as.map (·.1)→getL x es=some none)∧es.length=as.length:=by
 obtain ⟨_,g⟩:=I.obj k _ hk
 obtain ⟨es,n,g2,h1,h2,h3⟩:=I.obj dd _ hd
 exact (Kn es n ⟨g,rfl,rfl,g2⟩ g2 h1 h2 h3)
theorem BP (X:K.In am) {k dd i:Nat} {C:Addr} {as:List (Str×AV)} {name:Str} {av:AV} {attr:Option aa} {R:AV→AH→Prop} (hk:H[k]?=some (.inst C dd)) (hd:H[dd]?=some (.ns as)) (hi:as[i]?=some (name,av))
  (hg:ij K C name=true) (hh:gW K C=true) (ha:bf K (.ref C) name=some attr) (hn:noGet K attr=true) (hv:∀ x,av=.con x→g9 x=true) (r:R av H):FG an w am d H (.ref k) (fun v=>fG v name true) R:=by
 intro A L m α s Q E v hr I V c
 refine V.sO fun _=>?_
 obtain ⟨es,n,J,g,h1,h2,h3⟩:=uR I hk hd
 obtain ⟨v,e,V⟩:=h1 _ _ (bx hi)
 have Pf : g9 v=true:=by
  cases V with
  | con x=>exact hv _ rfl
  | _=>rfl
 exact get_own I.fr X J hg hh ha hn e Pf (c av v α H {s with toks:=s.toks+1} r Ext.refl I V rM.tok)
noncomputable def YY (an:aD) (w:aw) (am:Heap) (d:Nat) (name:Str) (R:AV→AH→Prop):AV→AH→Prop:=fun a H1=>FG an w am d H1 a (fun v=>fG v name true) R
theorem uA {o:Expr} {name:Str} {pos:Pos} {R:AV→AH→Prop} (h:EX an w am d nm ρ H (fun be=>eval o be) (YY an w am d name R))
  (he:∀ be,eval (.Attribute o name pos) be=(do
   let o' ← eval o be
   cj pos.atName
   let r ← eh [o'] (fG o' name true)
   letTemporaryGo o o' r
   pure r):=by intro _;with_unfolding_all rfl):EX an w am d nm ρ H (fun be=>eval (.Attribute o name pos) be) R:=fun be A L m α s Q E hr S I D k =>
 Attribute_any_ (h.then hr S I D fun a v rS H1 s1 h1 x1 I1 V1 Z1 S1 D1=>h1 A L m rS s1 Q E v hr I1 V1 fun av u sP H2 s2 r x2 I2 V2 Z2=>k av u sP H2 s2 r (x1.trans x2) I2 V2 (Z1.trans Z2)) (he be)
theorem CH (X:K.In am) {k dd:Nat} {C:Addr} {as:List (Str×AV)} {name:Str} {av:AV} {as' : List (Str×AV)} (hk:H[k]?=some (.inst C dd)) (hd:H[dd]?=some (.ns as)) (BQ:yM name av as=as') (nd:(as.map (·.1)).Nodup) (hz:as.length≤500)
  (hs:bf K (.ref C) "__setattr__"=some (some (.builtin "object.__setattr__"))) (hp:plainOver K C=true) (ht:eU K C name=some none) (hh:gW K C=true)
  {A:au} {L:Addr} {m:Str→Option aa} {α:Nat→Addr} {s:af} {v:aa} {Q:Unit→af→Prop} {E:aa→af→Prop} (I:Inv am L m α H s.heap) (V:pp s.heap α H.length av v)
  (c:∀ s',Ext L α α H.length (H.set dd (.ns as')).length s.heap s'.heap→Inv am L m α (H.set dd (.ns as')) s'.heap→rM s s'→Q () s'):ag (ah an w) A (setAttr (.ref (α k)) name v) Q E s:=by
 obtain ⟨es,n,J,g,h1,h2,h3⟩:=uR I hk hd
 have wj:=(rK hd)
 obtain ⟨pre,post,e,p1,p2⟩:=AA g (I.low dd wj).2 (I.low dd wj).1
 have KH:(getL name es).isSome=true∧(name∈as.map (·.1)↔es.any (·.key.isStr name)=true):=by
  by_cases q:name∈as.map (·.1)
  ·obtain ⟨⟨x,b⟩,hm,rfl⟩:=aE.mp q
   obtain ⟨u,e,_⟩:=h1 x b hm
   skip
   exact ⟨by rw [e];rfl,fun _=>CG e,fun _=>q⟩
  ·have e:=h2 name q
   exact ⟨by rw [e];rfl,fun z=>absurd z q,fun z=>by rw [BO e] at z;cases z⟩
 have N0:=wx (am:=am) (L:=L) (h:=s.heap)
 rw [e] at N0
 refine sC (set_dict I.fr X N0 J rfl hs hp ht hh KH.1 rfl (Ob p2 p1) (by rw [Fc];split <;> lia) fun h' F' N' xZ=>?_)
 have g':=(N' (α dd,dictOf (putL name (pR w.params name) (.str name (s.toks+1)) v es) (putN name es n)) (jf _ aZ)).1
 obtain ⟨x1,I1⟩:=I.QA (ao:=.ns as') wj e F' N' xZ (fun x0=>by
  subst BQ
  refine (Nv _ _ g' (fun x b hb=>?_) (fun x hx=>?_) ?_)
  ·rcases HW nd hb with ⟨rfl,rfl⟩ | ⟨ne,hm⟩
   ·exact (i12 v (HZ _) (V.ext x0 I.kt))
   ·obtain ⟨u,eu,U⟩:=h1 x b hm
    exact (i12 u (by rw [za ne];exact eu) (U.ext x0 I.kt))
  ·have:=HX hx
   rw [za this.1]
   exact h2 x this.2
  ·rw [Fc,HY,h3]
   by_cases q:name∈as.map (·.1)
   ·rw [if_pos q,if_pos (KH.2.mp q)]
   ·rw [if_neg q,if_neg fun z=>q (KH.2.mpr z)])
 exact c _ x1 I1 ⟨rfl,id⟩
structure SB (K:Frag) (C:Addr):Prop where
 set:bf K (.ref C) "__setattr__"=some (some (.builtin "object.__setattr__"))
 over:plainOver K C=true
 dict:gW K C=true
 get:ij K C ""=true
theorem tm {o e:Expr} {name:Str} {p' pos:Pos} {R:AF→List ci→AH→Prop} (X:K.In am) (h:EX an w am d nm ρ H (fun be=>eval e be) (fun x H1=>EX an w am d nm ρ H1 (fun be=>eval o be) (fun a H2 =>
   ∃ (k dd:Nat) (C:Addr) (as as' : List (Str×AV)),a=.ref k∧H2[k]?=some (.inst C dd)∧H2[dd]?=some (.ns as)∧SB K C∧eU K C name=some none∧(as.map (·.1)).Nodup∧as.length≤500∧yM name x as=as'∧R .next ρ (H2.set dd (.ns as')))))
  (hs:∀ be,dw e (some (.Attribute o name p')) pos.line be=pure false:=by intro _;rfl):ST an w am d nm ρ H (fun be=>exec (.Assign [.Attribute o name p'] e pos) be) R:=by
 intro be A L m α s Q E hr S I D k
 refine plainObj_wpAny_Assign_Attribute (h.then hr S I D fun x v rS H1 s1 h1 x1 I1 V1 Z1 S1 D1=>?_) (hs be)
 refine h1.then hr S1 I1 D1 fun a u sP H2 s2 h2 x2 I2 V2 Z2 S2 D2=>?_
 obtain ⟨j,dd,C,as,as',rfl,hk,hd,cl,ht,nd,hz,BQ,r⟩:=h2
 refine V2.sO fun _=>?_
 refine CH X hk hd BQ nd hz cl.set cl.over ht cl.dict I2 (V1.ext x2 I1.kt) fun s3 x3 I3 Z3=>?_
 have mo:(H2.set dd (.ns as')).length=H2.length:=aP
 refine k .next .next ρ m sP _ s3 r ((x1.trans x2).trans x3) I3 ?_ ?_ .next ((Z1.trans Z2).trans Z3)
 ·exact S2.ext x3
 ·exact D2.ext x3 I2.kt
theorem z7 {o e:Expr} {name:Str} {op:cV} {p' pos:Pos} {R:AF→List ci→AH→Prop} (X:K.In am) (h:EX an w am d nm ρ H (fun be=>eval o be) (fun a H1=>FG an w am d H1 a (fun v=>fG v name true) (fun y H2 =>
   EX an w am d nm ρ H2 (fun be=>eval e be) (fun b H3=>y0 an w am d H3 y b (iY op) (fun x H4 =>
   ∃ (k dd:Nat) (C:Addr) (as as' : List (Str×AV)),a=.ref k∧H4[k]?=some (.inst C dd)∧H4[dd]?=some (.ns as)∧SB K C∧eU K C name=some none∧(as.map (·.1)).Nodup∧as.length≤500∧yM name x as=as'∧R .next ρ (H4.set dd (.ns as'))))))) :
  ST an w am d nm ρ H (fun be=>exec (.AugAssign (.Attribute o name p') op e pos) be) R:=by
 intro be A L m α s Q E hr S I D k
 refine wpAny_AugAssign_AttributeAny (h.then hr S I D fun a v rS H1 s1 h1 x1 I1 V1 Z1 S1 D1=>?_)
 refine h1 A L m rS s1 _ E v hr I1 V1 fun y u sP H2 s2 h2 x2 I2 V2 Z2=>?_
 refine h2.then hr (S1.ext x2) I2 (D1.ext x2 I1.kt) fun b t sQ H3 s3 h3 x3 I3 V3 Z3 S3 D3=>?_
 refine h3 A L m sQ s3 _ E u t hr I3 (V2.ext x3 I2.kt) V3 fun x q Dw H4 s4 h4 x4 I4 V4 Z4=>?_
 obtain ⟨j,dd,C,as,as',rfl,hk,hd,cl,ht,nd,hz,BQ,r⟩:=h4
 have He:=(V1.ext ((x2.trans x3).trans x4) I1.kt)
 refine He.sO fun _=>?_
 refine CH X hk hd BQ nd hz cl.set cl.over ht cl.dict I4 V4 fun s5 x5 I5 Z5=>?_
 refine k .next .next ρ m Dw _ s5 r ((((x1.trans x2).trans x3).trans x4).trans x5) I5 ?_ ?_ .next ((((Z1.trans Z2).trans Z3).trans Z4).trans Z5)
 ·exact (S3.ext x4).ext x5
 ·exact (D3.ext x4 I3.kt).ext x5 I4.kt
end
section
variable {K:Frag} {nm:List Str} {ρ:List ci} {H:AH}
noncomputable def GM (an:aD) (w:aw) (am:Heap) (H:AH) (a:AV) (name:Str) (fv:aa):Prop :=
 ∀ (A:au) (L:Addr) (m:Str→Option aa) (α:Nat→Addr) (s:af) (v:aa) (pl:Sem Bool) (Q:aa×List aa→af→Prop) (E:aa→af→Prop),Inv am L m α H s.heap→pp s.heap α H.length a v→Q (fv,[v]) s→ag (ah an w) A (dT v name pl) Q E s
theorem w5 (X:K.In am) {k dd f:Nat} {C:Addr} {as:List (Str×AV)} {name:Str} (hk:H[k]?=some (.inst C dd)) (hd:H[dd]?=some (.ns as)) (hg:ij K C name=true) (hf:bf K (.ref C) name=some (some (.ref f))) (ht:isFn K (.ref f)=true) (hn:name∉as.map (·.1)) :
  GM an w am H (.ref k) name (.ref f):=by
 intro A L m α s v pl Q E I V hq
 cases V
 obtain ⟨es,n,J,g,h1,h2,h3⟩:=uR I hk hd
 exact method_inst I.fr X J hg hf ht (h2 _ hn) hq
theorem CI {o e:Expr} {rest:List Expr} {name:Str} {apos pos:Pos} {pl:Env→Sem Bool} {R:AV→AH→Prop} (h:EX an w am d nm ρ H (fun be=>eval o be) (fun a H1=>∃ fv:aa,GM an w am H1 a name fv∧KP (ah an w) am fv ∧
   GT an w am d nm ρ H1 (e::rest) (fun as H2=>FN an w am d fv H2 (a::as) [] R)))
  (he:∀ be,eval (.Call (.Attribute o name apos) (e::rest) [] pos) be=(do
   let ov ← eval o be
   cj apos.atName
   let (f,first) ← eh [ov] (dT ov name (pl be))
   fk pos f first (bE pos (aV (e::rest) be)) []):=by intro _;rfl)
  (hs:∀ be,aV (e::rest) be=(false,eval e be)::aV rest be:=by intro _;rfl)
  (hp:∀ be,(bE pos (aV rest be)).any (·.1)=false:=by intro _;rfl) :
  EX an w am d nm ρ H (fun be=>eval (.Call (.Attribute o name apos) (e::rest) [] pos) be) R:=fun be A L m α s Q E hr S I D k=>by
 refine fU (h.then hr S I D fun a v rS H1 s1 h1 x1 I1 V1 Z1 S1 D1=>?_) (he be)
 obtain ⟨fv,gm,kp,hx⟩:=h1
 refine gm A L m rS s1 v _ _ E I1 V1 ?_
 have key:ag (ah an w) A (iC (bE pos (aV (e::rest) be))) (fun vs s'=>(∀ b o,am.get? b=some o→s'.heap.get? b=some o)∧ag (ah an w) A (call fv ([v]++vs)) Q E s') E s1 :=
  hx be A L m rS s1 pos _ E hr S1 I1 D1 fun as vs sP H2 s2 r x2 I2 V2 Z2=>⟨I2.fr.keep,r.pos hr I2 (.cons (V1.ext x2 I1.kt) V2) fun av x dL H' s' r x3 I3 V3 Z3=>k av x dL H' s' r ((x1.trans x2).trans x3) I3 V3 ((Z1.trans Z2).trans Z3)⟩
 skip
 rw [hs be] at key ⊢
 exact cY (P:=fun h=>∀ b o,am.get? b=some o→h.get? b=some o) (by refine (?_:((false || (bE pos (aV rest be)).any (·.1)) || false)=false);rw [hp be];rfl) kp (eE key)
theorem w6 {o:Expr} {name:Str} {apos pos:Pos} {pl:Env→Sem Bool} {R:AV→AH→Prop} (h:EX an w am d nm ρ H (fun be=>eval o be) (fun a H1=>∃ fv:aa,GM an w am H1 a name fv∧KP (ah an w) am fv∧FN an w am d fv H1 [a] [] R))
  (he:∀ be,eval (.Call (.Attribute o name apos) [] [] pos) be=(do
   let ov ← eval o be
   cj apos.atName
   let (f,first) ← eh [ov] (dT ov name (pl be))
   fk pos f first (bE pos (aV [] be)) []):=by intro _;rfl) :
  EX an w am d nm ρ H (fun be=>eval (.Call (.Attribute o name apos) [] [] pos) be) R:=fun be A L m α s Q E hr S I D k=>by
 refine fU (h.then hr S I D fun a v rS H1 s1 h1 x1 I1 V1 Z1 S1 D1=>?_) (he be)
 obtain ⟨fv,gm,kp,fn⟩:=h1
 refine gm A L m rS s1 v _ _ E I1 V1 ?_
 refine cY (P:=fun h=>∀ b o,am.get? b=some o→h.get? b=some o) rfl kp (lr ⟨I1.fr.keep,?_⟩)
 exact fn.pos hr I1 (.cons V1 .nil) fun av x dL H' s' r x2 I2 V2 Z2=>k av x dL H' s' r (x1.trans x2) I2 V2 (Z1.trans Z2)
theorem td.in1 {A:au} (h:td A (d+1)):td A.in1 d:=⟨h.handled,by refine (?_:A.depth+8 * d+8 < _);have:=h.depth;exact nP this,by refine (?_:A.units+1+100 * d+100 < _);have:=h.units;exact zM this⟩
theorem td.less {A:au} (h:td A (d+1)):td A d:=⟨h.handled,by have:=h.depth;exact nP this,by have:=h.units;exact nP this⟩
theorem Li (X:K.In am) {k dd p fget:Nat} {rest:List aa} {C:Addr} {as:List (Str×AV)} {name:Str} {R:AV→AH→Prop} (hk:H[k]?=some (.inst C dd)) (hd:H[dd]?=some (.ns as))
  (hg:ij K C name=true) (hh:gW K C=true) (ha:bf K (.ref C) name=some (some (.ref p))) (hn:specialIn K (.ref p) "__get__"=some (some (.builtin "property.__get__"))) (ht:takesIn K (.ref p)=some true) (hp:recIn K p "property"=some (.ref fget::rest))
  (h:FC an w am d (.ref fget) H [.ref k] [] R) (hv:∀ a H' x,R a H'→a=.con x→g9 x=true):FG an w am (d+1) H (.ref k) (fun v=>fG v name true) R:=by
 intro A L m α s Q E v hr I V c
 refine V.sO fun _=>?_
 rename_i sj
 obtain ⟨es,n,J,g,h1,h2,h3⟩:=uR I hk hd
 refine get_prop I.fr X J hg hh ha hn ht hp ?_
 have:=h A.in1 L m α {s with toks:=s.toks+1} (fun v s'=>ag (ah an w) A (handedOut v) Q E s') (fun e s'=>ag (ah an w) A (noteIf true (.ref (α k)) (.str name s.toks) e) (fun _ Pe=>E e Pe) E s') [.ref (α k)] hr.in1 I (.cons (.ref sj) .nil) (fun av x dL H' s' r x' I' V' Z=>by
  have YZ:g9 x=true:=by
   cases V' with
   | con u=>exact hv _ _ _ r rfl
   | _=>rfl
  rw [handedOut_of YZ]
  exact ai (c av x dL H' s' r x' I' V' ⟨Z.os,Z.gens⟩))
 exact this
theorem F5 {fe e ke:Expr} {kn:Str} {kp pos:Pos} {R:AV→AH→Prop} (h:EX an w am d nm ρ H (fun be=>eval fe be) (fun f H1=>∃ fv,f=.con fv∧KP (ah an w) am fv∧GT an w am d nm ρ H1 [e] (fun as H2=>EX an w am d nm ρ H2 (fun be=>eval ke be) (fun b H3=>FN an w am d fv H3 (as++[b]) [kn] R))))
  (he:∀ be,eval (.Call fe [e] [⟨some kn,ke,kp⟩] pos) be=(do fk pos (← eval fe be) [] (bE pos (aV [e] be)) (iz pos (jm [⟨some kn,ke,kp⟩] be))):=by intro _;rfl)
  (hs:∀ be,aV [e] be=[(false,eval e be)]:=by intro _;rfl) :
  EX an w am d nm ρ H (fun be=>eval (.Call fe [e] [⟨some kn,ke,kp⟩] pos) be) R:=fun be A L m α s Q E hr S I D k=>by
 refine (?_:ag (ah an w) A (eval (.Call fe [e] [⟨some kn,ke,kp⟩] pos) be) Q E s)
 rw [he be]
 refine ab (dm (h.then hr S I D (Q:=fun f s1=>ag (ah an w) A (fk pos f [] (bE pos (aV [e] be)) (iz pos (jm [⟨some kn,ke,kp⟩] be))) Q E s1) (E:=E) fun a v rS H1 s1 h1 x1 I1 V1 Z1 S1 D1=>?_) (fun _ _ z=>z) fun _ _ z=>z)
 obtain ⟨fv,rfl,Y0,h1⟩:=h1
 refine V1.Ce ?_
 have HG:((bE pos (aV [e] be)).any (·.1) || (iz pos (jm [⟨some kn,ke,kp⟩] be)).any (·.1.isNone))=false:=by rw [hs be];rfl
 refine cY (P:=fun h=>∀ b o,am.get? b=some o→h.get? b=some o) HG Y0 ?_
 refine evalArgs_kw2 (by rfl) ?_ (by rw [hs be];rfl)
 refine h1 be A L m rS s1 pos _ E hr S1 I1 D1 fun as vs sP H2 s2 h2 x2 I2 V2 Z2=>?_
 refine kwAll_cons (h2.then hr (S1.ext x2) I2 (D1.ext x2 I1.kt) fun b u sQ H3 s3 fn x3 I3 V3 Z3 S3 D3=>kwAll_nil ?_)
 refine ⟨I3.fr.keep,?_⟩
 have VV:po s3.heap sQ H3.length (as++[b]) (vs++[u]):=(V2.ext x3 I2.kt).append (.cons V3 .nil)
 have l1:(vs++[u]).length - [kn].length=vs.length:=by simp
 have:=fn A L m sQ s3 Q E (vs++[u]) hr I3 VV fun av x dL H' s' r x4 I4 V4 Z4=>k av x dL H' s' r (((x1.trans x2).trans x3).trans x4) I4 V4 (((Z1.trans Z2).trans Z3).trans Z4)
 rw [l1,qQ,jv] at this
 exact this
end
section
variable {am h h' : Heap} {L:Addr} {m:Str→Option aa} {α:Nat→Addr} {H:AH}
theorem Inv.CJ (I:Inv am L m α H h) (hk:∀ b o,h.get? b=some o→h'.get? b=some o) (hs:h.objs.size≤h'.objs.size) (C:Addr) :
  Ext L α (put (put α H.length h'.objs.size) (H.length+1) (h'.objs.size+1)) H.length (H++[AO.ns [],AO.inst C H.length]).length h ((h'.push bW).push (eD C h'.objs.size)) ∧
  Inv am L m (put (put α H.length h'.objs.size) (H.length+1) (h'.objs.size+1)) (H++[.ns [],.inst C H.length]) ((h'.push bW).push (eD C h'.objs.size)) ∧
  pp ((h'.push bW).push (eD C h'.objs.size)) (put (put α H.length h'.objs.size) (H.length+1) (h'.objs.size+1)) (H++[AO.ns [],AO.inst C H.length]).length (.ref (H.length+1)) (.ref (h'.objs.size+1)):=by
 have q_:=I.vf hk hs;have x0:=q_.1;have I0:=q_.2
 have r1:tP (h'.push bW) (put α H.length h'.objs.size) (H.length+1) h'.objs.size (.ns []):=(Nv [] 0 (bj _ rfl) (fun _ _ q=>(by cases q)) (fun _ _=>rfl) rfl)
 have I1:=I0.push r1
 have x1:=tf α H.length h' L bW
 have hl:(H++[AO.ns []]).length=H.length+1:=by simp
 have xZ:(h'.push bW).objs.size=h'.objs.size+1:=cF _ _
 have x2:=tf (put α H.length h'.objs.size) (H.length+1) (h'.push bW) L (eD C h'.objs.size)
 have e1:put (put α H.length h'.objs.size) (H.length+1) (h'.objs.size+1) H.length=h'.objs.size:=by rw [r8 _ _ (lL lO),nn]
 have r2:tP ((h'.push bW).push (eD C h'.objs.size)) (put (put α H.length h'.objs.size) (H++[AO.ns []]).length (h'.push bW).objs.size) ((H++[AO.ns []]).length+1) (h'.push bW).objs.size (.inst C H.length):=by
  rw [hl,xZ]
  refine ⟨lR 1 lO,?_⟩
  rw [e1,← xZ]
  exact bj _ rfl
 have I2:=I1.push r2
 rw [hl,xZ,ak] at I2
 rw [xZ] at x2
 have u9:(H++[AO.ns [],AO.inst C H.length]).length=H.length+1+1:=by simp
 refine (sS ?_ I2 ?_)
 ·rw [u9];exact (x0.trans x1).trans x2
 ·have:=pp.ref (h:=(h'.push bW).push (eD C h'.objs.size)) (α:=put (put α H.length h'.objs.size) (H.length+1) (h'.objs.size+1)) (n:=(H++[AO.ns [],AO.inst C H.length]).length) (k:=H.length+1) (by rw [u9];exact lO)
  rwa [nn] at this
end
section
variable {K:Frag} {H:AH}
theorem F6 (C:Addr) (rest:List aa) (kw:List (Str×aa)):(jX "type.__call__" ⟨.ref C::rest,kw⟩).weight=1:=rfl
theorem H8 (C:Addr) (rest:List aa) (kw:List (Str×aa)):(jX "type.__call__" ⟨.ref C::rest,kw⟩).cUnits=1:=rfl
theorem td.tc {A:au} (h:td A (d+1)) (C:Addr) (rest:List aa) (kw:List (Str×aa)):td (A.under (.builtin "type.__call__" ⟨.ref C::rest,kw⟩)) d :=
 ⟨h.handled,by refine (?_:A.depth+(jX "type.__call__" ⟨.ref C::rest,kw⟩).weight+8 * d+8 < _);rw [F6];have:=h.depth;exact zD this,by refine (?_:A.units+(jX "type.__call__" ⟨.ref C::rest,kw⟩).cUnits+100 * d+100 < _);rw [H8];have:=h.units;exact zM this⟩
theorem Lj (X:K.In am) {C fI:Addr} {args:List AV} {kw:List Str} {R:AV→AH→Prop} (hm:makesIn K C=true) (hi:bf K (.ref C) "__init__"=some (some (.ref fI))) (hf:typeIn K (.ref fI)=some (.type "function")) (Y1:kw.length≤args.length)
  (h:FC an w am d (.ref fI) (H++[.ns [],.inst C H.length]) (.ref (H.length+1)::args) kw (fun a H'=>a=.none∧H.length+1 < H'.length∧R (.ref (H.length+1)) H')) :
  FN an w am (d+1) (.ref C) H args kw R:=by
 intro A L m α s Q E vs hr I V c
 obtain ⟨hh,g,dr,tk,os⟩:=s
 have X' : K.In hh:=X.keeps I.fr.keep
 refine dg (make_core (makes_of X' hm) (k8 X' hi) (fun self=>bind_fn X' self hf) (.inl rfl) ?_)
 obtain ⟨x1,I1,V1⟩:=I.CJ (fun b o e=>e) (ar _) C
 have lv:=V.length
 have e1:(dz (hh.objs.size+1)::vs).length - kw.length=(vs.length - kw.length)+1:=by simp only [aS];exact Nat.succ_sub (aj Y1 (aJ lv.symm))
 have:=h (A.under (.builtin "type.__call__" ⟨.ref C::vs.take (vs.length - kw.length),kw.zip (vs.drop (vs.length - kw.length))⟩)) L m _ ⟨(hh.push bW).push (eD C hh.objs.size),g,dr,tk,os⟩ (fun v s'=>v=.none∧Q (.ref (hh.objs.size+1)) s') E (.ref (hh.objs.size+1)::vs) (hr.tc C _ _) I1 (.cons V1 (V.ext x1 I.kt)) (fun av x dL H' s' r x' I' V' Z=>by
  obtain ⟨rfl,hl,r⟩:=r
  refine V'.none_ ?_
  refine ⟨rfl,?_⟩
  have u9:H.length+1 < (H++[AO.ns [],AO.inst C H.length]).length:=by simp
  have ea:=x'.al (H.length+1) u9
  rw [nn] at ea
  have:=pp.ref (h:=s'.heap) (α:=dL) (n:=H'.length) hl
  rw [ea] at this
  exact c _ _ dL H' s' r (x1.trans x') I' this ⟨Z.os,Z.gens⟩)
 rw [e1,hH,List.drop_succ_cons] at this
 refine codeAny_mono this fun r s' z=>?_
 rcases r with e | (v | _ | _ | _) <;> exact z
end
section
set_option backward.match.sparseCases false
section
variable {K:Frag} {nm:List Str} {ρ:List ci} {H:AH} {R:AV→AH→Prop}
theorem H9 {body:List Stmt} (h:ST an w am d nm ρ H (fun be=>aG body be) (NC R))
  {A:au} {be:Env} {L L' : Addr} {m m' : Str→Option aa} {α:Nat→Addr} {s:af} {rJ:Heap} {tk:Nat} {Q E:aa→af→Prop} (hr:td A (d+1)) (I:Inv am L m α H s.heap) (hL:s.heap.objs.size≤L')
  (xk:rJ.Ns L' m') (hk:∀ b o,s.heap.get? b=some o→rJ.get? b=some o) (S1:u8 be L' α H.length nm ρ) (D1:vQ m' rJ α H.length nm ρ)
  (k:∀ av x dL H' s',R av H'→Ext L α dL H.length H'.length s.heap s'.heap→Inv am L m dL H' s'.heap→pp s'.heap dL H'.length av x→rM s s'→Q x s') :
  ag (ah an w) (A.deeper be) (aG body be) (fun f s'=>Q (match f with | .ret v=>v | _=>.none) s') E {s with heap:=rJ,toks:=tk}:=by
 have keep:=I.fr.keep
 have QB : L' < rJ.objs.size:=xk.lt
 have tO:s.heap.objs.size < rJ.objs.size:=bN hL QB
 have F1:Fr am L' rJ m':=⟨xk,fun b o e=>hk b o (keep b o e),aj (aj I.fr.above (bp I.wl)) hL⟩
 have x0:Ext L α α H.length H.length s.heap rJ:=⟨fun _ _=>rfl,ar _,bp tO,fun b o e _ _=>hk b o e,fun _ a b=>absurd b (bG.mpr a)⟩
 have I1:Inv am L' m' α H rJ:=by
  refine ⟨F1,fun i hi=>⟨(I.low i hi).1,ax (aC (I.lt hi) hL)⟩,I.inj,fun i oo e=>?_⟩
  have hi:i < H.length:=(rK e)
  exact (I.obj i oo e).ext x0 I.kt fun ob q=>hk _ _ q
 refine h be _ L' m' α {s with heap:=rJ,toks:=tk} _ _ ⟨hr.handled,?_,?_⟩ S1 I1 D1 fun fl Wa ρ' m' dL H' s' r x1 I2 S2 D2 FR Z=>?_
 ·refine (?_:A.depth+1+8 * d+8 < _);have:=hr.depth;exact zD this
 ·refine (?_:A.units+3+100 * d+100 < _);have:=hr.units;exact zC this
 ·have xx:Ext L α dL H.length H'.length s.heap s'.heap:=by
   refine ⟨x1.al,x1.le,aj (bp tO) x1.size,fun b o e hb uG=>x1.keep b o (hk b o e) (ax (aC (aH e) hL)) uG,fun k a b=>aj (bp tO) (x1.new k a b)⟩
  have ll:=I.wl
  obtain ⟨oL,es,ep,Qc,r1⟩:=I.fr.ns
  have QC:s'.heap.get? L=some oL:=x1.keep L oL (hk L oL Qc) (ax (aC ll hL)) fun i hi=>aq (I.low i hi).2
  have I3:Inv am L m dL H' s'.heap:=by
   refine ⟨⟨(Nw oL es ep QC r1),I2.fr.keep,I.fr.above⟩,fun i hi=>⟨(I2.low i hi).1,?_⟩,I2.inj,I2.obj⟩
   by_cases q:i < H.length
   ·rw [x1.al i q];exact (I.low i q).2
   ·have:=x1.new i (bC q) hi
    exact br (aC ll (aj (bp tO) this))
  cases FR with
  | next=>exact k .none .none dL H' s' r xx I3 .none ⟨Z.os,Z.gens⟩
  | ret W=>exact k _ _ dL H' s' r xx I3 W ⟨Z.os,Z.gens⟩
  | brk=>exact r.elim
  | cont=>exact r.elim
theorem z8 (X:K.In am) {a b:Addr} {c:Bool} (e:∀ S,peek K S (isSame (.ref a) (.ref b))=some c) (r:R (.bool (!c)) H):y0 an w am d H (.con (.ref a)) (.con (.ref b)) (dQ .IsNot) R:=by
 intro A L m α s Q E v u hr I V U k
 refine V.Ce ?_
 refine U.Ce ?_
 refine (?_:ag (ah an w) A (do return aa.bool (!(← isSame (.ref a) (.ref b)))) Q E s)
 exact ab ((cM (M:=ah an w) (X.keeps I.fr.keep) (e _)).here (ai (k _ _ α H s r Ext.refl I (.bool _) rM.refl)))
theorem Ic {o e:Expr} {rest:List Expr} {name:Str} {apos pos:Pos} {pl:Env→Sem Bool} (h:EX an w am d nm ρ H (fun be=>eval o be) (fun a H1=>∃ fv:aa,
   (∀ (A:au) (L:Addr) (m:Str→Option aa) (α:Nat→Addr) (s:af) (v:aa) (pl:Sem Bool) (Q:aa×List aa→af→Prop) (E:aa→af→Prop),Inv am L m α H1 s.heap→pp s.heap α H1.length a v→(∀ tk,Q (fv,[]) {s with toks:=tk})→ag (ah an w) A (dT v name pl) Q E s)∧KP (ah an w) am fv ∧
   GT an w am d nm ρ H1 (e::rest) (fun as H2=>FN an w am d fv H2 as [] R)))
  (he:∀ be,eval (.Call (.Attribute o name apos) (e::rest) [] pos) be=(do
   let ov ← eval o be
   cj apos.atName
   let (f,first) ← eh [ov] (dT ov name (pl be))
   fk pos f first (bE pos (aV (e::rest) be)) []):=by intro _;rfl)
  (hs:∀ be,aV (e::rest) be=(false,eval e be)::aV rest be:=by intro _;rfl)
  (hp:∀ be,(bE pos (aV rest be)).any (·.1)=false:=by intro _;rfl) :
  EX an w am d nm ρ H (fun be=>eval (.Call (.Attribute o name apos) (e::rest) [] pos) be) R:=fun be A L m α s Q E hr S I D k=>by
 refine fU (h.then hr S I D fun a v rS H1 s1 h1 x1 I1 V1 Z1 S1 D1=>?_) (he be)
 obtain ⟨fv,gm,kp,hx⟩:=h1
 refine gm A L m rS s1 v _ _ E I1 V1 fun tk=>?_
 have key:ag (ah an w) A (iC (bE pos (aV (e::rest) be))) (fun vs s'=>(∀ b o,am.get? b=some o→s'.heap.get? b=some o)∧ag (ah an w) A (call fv ([]++vs)) Q E s') E {s1 with toks:=tk} :=
  hx be A L m rS {s1 with toks:=tk} pos _ E hr S1 I1 D1 fun as vs sP H2 s2 r x2 I2 V2 Z2=>⟨I2.fr.keep,r.pos hr I2 V2 fun av x dL H' s' r x3 I3 V3 Z3=>k av x dL H' s' r ((x1.trans x2).trans x3) I3 V3 ((Z1.trans ⟨Z2.os,Z2.gens⟩).trans Z3)⟩
 skip
 rw [hs be] at key ⊢
 exact cY (P:=fun h=>∀ b o,am.get? b=some o→h.get? b=some o) (by refine (?_:((false || (bE pos (aV rest be)).any (·.1)) || false)=false);rw [hp be];rfl) kp (eE key)
end
end
section
variable {nm:List Str} {ρ:List ci} {H:AH} {R:AV→AH→Prop}
theorem u2 (X:(KK P).In am) {f:Addr} {o:Obj} {fd:da} {body:List Stmt} {ps nl ng:List Str} {args full:List AV} {kw:List Str} (hl:(KK P).lookup f=some o) (hd:o.data=.func fd) (hc:codeIn (KK P) fd.code fd.qualname=true) (hb:fd.body=.stmts body) (e:T6 fd ps nl ng=true)
  (mo:full.length=ps.length)
  (bind:∀ (vs:List aa),vs.length=args.length→∃ us,(∀ S,peek (KK P) S (dH fd ⟨vs.take (vs.length - kw.length),kw.zip (vs.drop (vs.length - kw.length))⟩)=some (ps.zip us))∧(∀ (h:Heap) (α:Nat→Addr) (n:Nat),po h α n args vs→po h α n full us))
  (h:ST an w am d (ps++(nl++ng)) (vV full nl.length ng.length) H (fun be=>aG body be) (NC R)) :
  FC an w am (d+1) (.ref f) H args kw R:=by
 refine EF (u0 X hl hd hc hb e) mo (fun s vs hh α n V keep=>?_) h
 obtain ⟨us,h1,h2⟩:=bind vs V.length
 exact (i12 us (fun M A E Q hq=>(cM (M:=M) (h:=s.heap) (X.keeps keep) (h1 _)).here hq) (h2 _ _ _ V))
theorem BR (X:(KK P).In am):GL am "type" (.type "type"):=t7 X (by kernel_rfl) (by kernel_rfl)
theorem gl_int (X:(KK P).In am):GL am "int" (.type "int"):=t7 X (by kernel_rfl) (by kernel_rfl)
theorem gl_str (X:(KK P).In am):GL am "str" (.type "str"):=t7 X (by kernel_rfl) (by kernel_rfl)
theorem Id (X:(KK P).In am):GL am "_index" (.ref 105):=su X (by kernel_rfl)
theorem Ie {i:Int}:FN an w am d (.type "type") H [.int i] [] (Is (.con (.type "int")) H):=by
 intro A L m α s Q E vs hr I V k
 refine V.se fun _ _ a V=>?_
 refine V.t0 ?_
 refine a.tI fun _=>?_
 exact call_type_of (s:=s) (Tx:="int") rfl (by decide +kernel) (k _ _ α H s ⟨rfl,rfl⟩ Ext.refl I (.con _) rM.refl)
theorem CK {x:List Nat}:FN an w am d (.type "type") H [.str x] [] (Is (.con (.type "str")) H):=by
 intro A L m α s Q E vs hr I V k
 refine V.se fun _ _ a V=>?_
 refine V.t0 ?_
 refine a.ub fun _=>?_
 exact call_type_of (s:=s) (Tx:="str") rfl (by decide +kernel) (k _ _ α H s ⟨rfl,rfl⟩ Ext.refl I (.con _) rM.refl)
theorem Lk {i:Int}:FN an w am d (.type "int") H [.int i] [] (Is (.int i) H):=by
 intro A L m α s Q E vs hr I V k
 refine V.se fun _ _ a V=>?_
 refine V.t0 ?_
 refine a.tI fun _=>?_
 exact call_int_int (k _ _ α H s ⟨rfl,rfl⟩ Ext.refl I (.int _ _) rM.refl)
noncomputable def Y2:List Stmt:=fBody (vP pw 14)
theorem Ig (X:(KK P).In am) {i:Int} {x:List Nat} (h1:0≤i) (h2:i≤1000):FN an w am (d+1) (.ref 105) H [.int i,.str x] [] (Is (.int i) H):=by
 refine (u2 X (o:=JV tw P) (ps:=["n","what"]) (nl:=[]) (ng:=["type","int","bool","_wall"]) (full:=[.int i,.str x]) (body:=Y2) (by kernel_rfl) rfl (by kernel_rfl) rfl (by kernel_rfl) rfl
  (fun vs hv=>by refine zh hv fun a b=>?_;exact (i12 [a,b] (fun S=>by kernel_rfl) (fun _ _ _ V=>V))) ?_).fn
 refine (?_:ST an w am d ["n","what","type","int","bool","_wall"] [.loc (some (.int i)),.loc (some (.str x)),.rc,.rc,.rc,.rc] H _ _)
 refine bd (m0 (r9 (uj (io (ti 2 rfl rfl (BR X) (.mk sJ (bi (lm 0 rfl rfl (cr (Ie.to ?_))))))))))
 refine ti 3 rfl rfl (gl_int X) ((Bu (c:=false) rfl).to (i12 false rfl ?_))
 refine so (by decide) ?_;refine so (by decide) ?_
 refine ev ?_
 refine bd (t6 0 rfl (io (ti 3 rfl rfl (gl_int X) (.mk sJ (bi (lm 0 rfl rfl (cr (Lk.to (tW _ _ rfl ?_)))))))))
 refine (?_:ST an w am d ["n","what","type","int","bool","_wall"] [.loc (some (.int i)),.loc (some (.str x)),.rc,.rc,.rc,.rc] H _ _)
 refine bd (m0 (vw (dl (lm 0 rfl rfl (f8 (.mk false ?_ ?_))))))
 ·refine (?_:some (decide ((1099511627776:Int) < i))=_)
  rw [decide_eq_false (by lia)]
 refine so (by decide) ?_
 refine vw (dl (lm 0 rfl rfl (vt (f8 (yF (i12 false ?_ ?_))))))
 ·refine (?_:some (decide (i < (-1099511627776:Int)))=_)
  rw [decide_eq_false (by lia)]
 refine so (by decide) ?_
 refine yw ?_
 refine so (by decide) ?_
 refine ev ?_
 exact bd (sF (lm 0 rfl rfl ⟨rfl,rfl⟩))
end
theorem Ll {h:Heap} {α:Nat→Addr} {n:Nat} {l:List Int} {vs:List aa} (V:po h α n (l.map .int) vs):IntsAre vs l:=by
 induction l generalizing vs with
 | nil=>exact po.t0 V .nil
 | cons i l ih=>exact po.se V fun _ _ a r=>a.tI fun _=>.cons _ _ (ih r)
theorem F7 {h:Heap} {α:Nat→Addr} {n:Nat} {l:List Int} {vs:List aa} (r:IntsAre vs l):po h α n (l.map .int) vs:=by
 induction r with
 | nil=>exact .nil
 | cons i t r ih=>exact .cons (.int i t) ih
section
variable {nm:List Str} {ρ:List ci} {H:AH} {R:AV→AH→Prop}
theorem F8 {value:Expr} {lo st:Expr} {p pos:Pos} (h:EX an w am d nm ρ H (fun be=>eval value be) (fun a H1=>EX an w am d nm ρ H1 (fun be=>eval lo be) (fun i H2=>EX an w am d nm ρ H2 (fun be=>eval st be) (fun j H3 =>
   ∃ (k:Nat) (l:List Int) (x:Nat) (y:Nat),a=.ref k∧H3[k]?=some (.list (l.map .int))∧l.length≤1000000∧i=.int x∧j=.int y∧y≠0∧R (.ref H3.length) (H3++[.list ((ef l (some x) none (some y)).map .int)])))))
  (hs:∀ o i,∃ ops,gc (.Slice (some lo) none (some st) p) false o i=gC ops (fz o i):=by intro _ _;with_unfolding_all exact ⟨_,rfl⟩) :
  EX an w am d nm ρ H (fun be=>eval (.Subscript value (.Slice (some lo) none (some st) p) pos) be) R:=fun be A L m α s Q E hr S I D c=>by
 refine hY (h.then hr S I D fun a v rS H1 s1 h1 x1 I1 V1 Z1 S1 D1=>?_)
 refine kH (EX.then h1 hr S1 I1 D1 fun i vi sP H2 s2 h2 x2 I2 V2 Z2 S2 D2=>?_)
 rw [jP]
 refine ai ?_
 refine EX.then h2 hr S2 I2 D2 fun j vj sQ H3 s3 h3 x3 I3 V3 Z3 S3 D3=>?_
 obtain ⟨k,l,x,y,rfl,hk,hz,rfl,rfl,hb,hR⟩:=h3
 have He:=(V1.ext x2 I1.kt).ext x3 I2.kt
 refine He.sO fun _=>?_
 rename_i sj
 have Kw:=V2.ext x3 I2.kt
 refine Kw.tI fun _=>?_
 refine V3.tI fun _=>?_
 rename_i t1 t2
 obtain ⟨vs,n,g,hl,VV⟩:=I3.isList hk
 have mo:=VV.length
 have Y3:=Ll VV
 have xa:=vr sQ H3.length s3.heap L {cls:=.type "slice",data:=.fields #[.int x t1,.none,.int y t2]}
 have Ia:Inv am L m sQ H3 (s3.heap.push {cls:=.type "slice",data:=.fields #[.int x t1,.none,.int y t2]}):=I3.same xa (I3.fr.push _) fun i hi=>cW _ _ _ (ax (I3.lt hi))
 obtain ⟨ops,hs⟩:=hs (.ref (sQ k)) (.ref s3.heap.objs.size)
 refine fJ (s:={s3 with heap:=s3.heap.push {cls:=.type "slice",data:=.fields #[.int x t1,.none,.int y t2]}}) (hl.push _).typeIs kJ.lookup (k7 (hl.push _) (l8 ..) (.int _ _) .none (.int _ _) (by simp;exact hb) ?_ (by rw [bZ,mo,aM];unfold cX;exact nI hz)) hs
 have Wt:=Y3.pick (some (x:Int)) none (some (y:Int))
 generalize Wu:slicePick vs.toArray (some (x:Int)) none (some (y:Int))=sp at Wt
 have xb:=tf sQ H3.length (s3.heap.push {cls:=.type "slice",data:=.fields #[.int x t1,.none,.int y t2]}) L (bU sp 0)
 have Ib:=Ia.push (o:=bU sp 0) (ao:=.list ((ef l (some x) none (some y)).map .int)) (tW sp.toList 0 (by rw [Array.toArray_toList];exact bj _ rfl) (F7 Wt))
 have FK : (H3++[AO.list ((ef l (some x) none (some y)).map .int)]).length=H3.length+1:=by simp
 refine c _ _ _ _ {s3 with heap:=_} hR (FK▸(((x1.trans x2).trans x3).trans xa).trans xb) Ib ?_ (((Z1.trans Z2).trans Z3).trans ⟨rfl,id⟩)
 rw [FK]
 have:pp ((s3.heap.push {cls:=.type "slice",data:=.fields #[.int x t1,.none,.int y t2]}).push (bU sp 0)) (put sQ H3.length (s3.heap.push {cls:=.type "slice",data:=.fields #[.int x t1,.none,.int y t2]}).objs.size) (H3.length+1) (.ref H3.length) (.ref (put sQ H3.length (s3.heap.push {cls:=.type "slice",data:=.fields #[.int x t1,.none,.int y t2]}).objs.size H3.length)):=.ref (bB _)
 rwa [nn] at this
end
theorem DV:hV table "iter"=some aT.«iter»:=iV (by kernel_rfl)
theorem F9:builtinKind "iter"=none:=by decide +kernel
theorem DW:plainId "iter"=true:=by decide +kernel
theorem DX (a:aa):fM "iter" ⟨[a],[]⟩:=by unfold fM;kernel_rfl
section
variable {H:AH} {R:AV→AH→Prop}
theorem Ga {a b:Bool} (r:R (.bool (a == b)) H):y0 an w am d H (.bool a) (.bool b) (dQ .Eq) R:=by
 intro A L m α s Q E v u hr I V U k
 refine V.G8 ?_
 refine U.G8 ?_
 exact PySem.EqBoolInt.of_rc (SeqAt.RcAt.bool_bool a b) (k _ _ α _ _ r Ext.refl I (.bool _) rM.refl)
theorem Lm {k:Nat} {xs:List AV} (hk:H[k]?=some (.list xs)) (r:R (.ref H.length) (H++[.iter k 0])):FN an w am d (.builtin "iter") H [.ref k] [] R:=by
 intro A L m α s Q E vs hr I V c
 refine V.se fun _ _ b V=>?_
 refine V.t0 ?_
 refine b.sO fun _=>?_
 rename_i sj
 obtain ⟨vs,n,g,AM,VV⟩:=I.isList hk
 refine pb F9 DW DV (DX _) ?_
 unfold aT.«iter»
 refine ab (m:=someArgs "iter" 1 2 _) (ai ?_)
 refine ab (ie AM (ai (i12 _ rfl ?_)))
 have xt:=tf α H.length s.heap L {cls:=.type "list_iterator",data:=.fields #[.ref (α k),.int 0 0]}
 have mo:(H++[AO.iter k 0]).length=H.length+1:=by simp
 have I':=I.push (o:={cls:=.type "list_iterator",data:=.fields #[.ref (α k),.int 0 0]}) (ao:=.iter k 0) ⟨bJ sj,by rw [r8 _ _ (ax sj)];exact (sN _ (bj _ rfl) rfl rfl)⟩
 refine c _ _ _ _ {s with heap:=_} r (mo▸xt) I' ?_ ⟨rfl,id⟩
 rw [mo]
 have:pp (s.heap.push {cls:=.type "list_iterator",data:=.fields #[.ref (α k),.int 0 0]}) (put α H.length s.heap.objs.size) (H.length+1) (.ref H.length) (.ref (put α H.length s.heap.objs.size H.length)):=.ref (bB _)
 rwa [nn] at this
end
noncomputable abbrev zl:String:="collections.deque"
theorem Oc:jV (.type zl) (.type zl)=pure true:=by rw [gR];kernel_rfl
theorem QD:(dN zl == dN "type")=false:=by decide +kernel
theorem Od:((rh zl).bind fun x=>List.findSome? (fun t=>(rh t).bind fun b =>
  if b.noNew=true then some true else if (b.attrs.any fun x=>x.fst == "__new__")=true then some false else none) x.mro).getD false=false:=by kernel_rfl
theorem Oe:checkTypeCall zl ⟨[],[]⟩=pure ():=by kernel_rfl
theorem Of:∃ m,mroOf (.type zl)=pure m∧m.isEmpty=false:=⟨[.type zl,.type "object"],by rw [mroOf_type];kernel_rfl,rfl⟩
theorem Ln:n6 (.type zl)=pure (some "collections.deque.__new__"):=by kernel_rfl
theorem Ih:qr "collections.deque.__new__" ⟨[.type zl],[]⟩=pure ():=by kernel_rfl
theorem Lo:Code.quiet (.builtin "collections.deque.__new__" ⟨[.type zl],[]⟩)=true:=by decide +kernel
theorem Lp:hV table "collections.deque.__new__"=some aT.«collections.deque.__new__»:=by first | exact iV (by kernel_rfl) | exact kY (by kernel_rfl)
theorem Fd:Slot zl "__init__" "collections.deque.__init__" :=
 .of (owner:=zl) (n:="__init__") (by rw [mF,om];kernel_rfl) (by decide +kernel) (by decide +kernel) (by decide +kernel)
  (by first | exact .inl (by decide +kernel) | exact .inr (by decide +kernel)) (by rw [gR];kernel_rfl)
theorem BS:Slot zl "__len__" "collections.deque.__len__" :=
 .of (owner:=zl) (n:="__len__") (by rw [mF,om];kernel_rfl) (by decide +kernel) (by decide +kernel) (by decide +kernel)
  (by first | exact .inl (by decide +kernel) | exact .inr (by decide +kernel)) (by rw [gR];kernel_rfl)
theorem Ii:hV table "collections.deque.__init__"=some aT.«collections.deque.__init__»:=by first | exact iV (by kernel_rfl) | exact kY (by kernel_rfl)
theorem Lq:hV table "collections.deque.__len__"=some aT.«collections.deque.__len__»:=by first | exact iV (by kernel_rfl) | exact kY (by kernel_rfl)
theorem Ij (a:aa):fM "collections.deque.__init__" ⟨[a],[]⟩:=by unfold fM;kernel_rfl
theorem Lr (a:aa):fM "collections.deque.__len__" ⟨[a],[]⟩:=by unfold fM;kernel_rfl
theorem A7:typeLookup (.type zl) "__bool__"=pure none:=by rw [mF,om];kernel_rfl
noncomputable abbrev xo:Obj:={cls:=.type zl,data:=.fields #[.none,.int 0 0]}
noncomputable def A8:AO:=.raw 0 fun _ o=>o=xo
section
variable {A:au} {E:aa→af→Prop} {s:af}
theorem Og {R:dR→af→Prop} (h:R (.ok (.ret (.ref s.heap.objs.size))) {s with heap:=s.heap.push xo}) :
  bA (ah an w) A (.builtin "collections.deque.__new__" ⟨[.type zl],[]⟩) R s:=by
 refine fE Lp ?_
 unfold aT.«collections.deque.__new__» aT.Deque.newArgs aT.Deque.new
 refine (?_:ag _ _ (newObj (.type zl) (.fields #[.none,.int 0 0]) none >>= fun v=>ret v) _ _ s)
 refine ab (fy ?_)
 exact ai h
end
section
variable {M:dv} {A:au} {E:aa→af→Prop} {s:af}
theorem A9 {a:Addr} {o:Obj} {vs:Array aa} {Q:Array aa→af→Prop} (ho:s.heap.get? a=some o) (hd:o.data=.fields vs) (h:Q vs s):ag M A (fieldsOf (.ref a)) Q E s:=by
 unfold fieldsOf
 skip
 refine ab (lK ho ?_)
 rw [hd]
 exact ai h
end
section
variable {A:au} {E:aa→af→Prop} {s:af}
theorem DY {Q:aa→af→Prop} {e:Addr} (he:s.heap.get? e=some xo)
  (h:∀ h',h'.get? e=some xo→(∀ b o,b≠e→s.heap.get? b=some o→h'.get? b=some o)→Q .none {s with heap:=h'}) :
  ag (ah an w) A (call (.builtin "collections.deque.__init__") [.ref e]) Q E s:=by
 refine dA Fd (show s.TypeIs (.ref e) zl from (i12 _ he rfl)) Ii ?_ (Ij _)
 unfold aT.«collections.deque.__init__»
 dsimp only
 rw [if_neg (by decide)]
 refine (?_:ag _ _ (setField (.ref e) 0 .none >>= fun _=>pQ (.ref e) >>= fun _=>ret .none) _ _ s)
 refine ab (jq he rfl (by refine (?_:0 < 2);decide) ?_)
 have e1:(s.heap.update e (km (·.setIfInBounds 0 .none))).get? e=some xo:=by
  rw [j6 _ he rfl]
  rfl
 unfold pQ aT.Deque.items
 refine ab (ab (ab (A9 e1 rfl (ai ?_))))
 rw [if_neg (by simp)]
 refine ai (ai (i12 _ rfl (h _ e1 fun b o hb ho=>?_)))
 rw [Heap.get?_update_other _ _ (aq hb)]
 exact ho
theorem BU {Q:Fin→af→Prop} (h:∀ h',h'.get? s.heap.objs.size=some xo→(∀ b o,s.heap.get? b=some o→h'.get? b=some o)→Q (.done (.ret (.ref s.heap.objs.size))) {s with heap:=h'}) :
  ag (ah an w) A (aT.«type.__call__» ⟨.type zl::[],[]⟩) Q E s:=by
 have hnt:=QD
 have Y4:=Od
 have Y5:=Oe
 obtain ⟨m,Y6,sz⟩:=Of
 have Wv:=Ln
 wp_walk
 refine pX Lo (fZ Ih ?_)
 refine Og ?_
 refine (?_:ag _ _ _ _ _ _)
 have Oh:(s.heap.push xo).get? s.heap.objs.size=some xo:=bj _ rfl
 refine ab (gx (i12 _ Oh rfl) Oc ?_)
 wp_step
 refine ab (cH (fg (i12 _ Oh rfl) Fd (DY Oh fun h' e1 e2=>?_)))
 wp_walk
 exact h h' e1 fun b o hb=>e2 b o (ax (aH hb)) (bT _ hb)
theorem Ls {Q:aa→af→Prop} (h:∀ h',h'.get? s.heap.objs.size=some xo→(∀ b o,s.heap.get? b=some o→h'.get? b=some o)→Q (.ref s.heap.objs.size) {s with heap:=h'}) :
  ag (ah an w) A (call (.type zl) []) Q E s:=by
 refine dg (eN ?_)
 refine (?_:ag _ _ (iN (.type zl) ⟨[],[]⟩) _ _ _)
 unfold iN
 exact ai ⟨nG _ (by decide +kernel),fE entry_type_call (BU fun h' e1 e2=>h h' e1 e2)⟩
theorem Gb {l:Addr} {Q:Bool→af→Prop} (ho:s.heap.get? l=some xo) (h:Q false {s with toks:=s.toks+1+1}):ag (ah an w) A (truthy (.ref l)) Q E s:=by
 have hT:s.TypeIs (.ref l) zl:=(i12 _ ho rfl)
 have body:ag (ah an w) A.in1 (aT.«len» ⟨[.ref l],[]⟩) (fun fin s'=>∃ r,fin=.done (.ret r)∧r=.int 0 (s.toks+1)∧Q false s') E s:=by
  unfold aT.«len»
  refine ab (m:=oneArg "len" _) (ai ?_)
  refine ab (m:=callSpecial? (.ref l) "__len__") (fg (name:="__len__") hT BS (dA BS hT Lq ?_ (Lr _)))
  refine (?_:ag _ _ ((fieldsOf (.ref l) >>= fun vs=>pure (vs.size - 2)) >>= fun n=>retInt (n:Nat)) _ _ s)
  refine ab (ab (A9 ho rfl (ai (ab (wpAny_mkInt (ai (i12 _ rfl ?_)))))))
  refine ab (cH (ai ?_))
  refine ab (iH ?_)
  exact ab (wpAny_mkInt (ai (sN _ rfl rfl h)))
 have key:ag (ah an w) A (runValue (.builtin "len" ⟨[.ref l],[]⟩)) (fun r s'=>r=.int 0 (s.toks+1)∧Q false s') E s:=by
  refine wpAny_runValue (fE entry_len ?_)
  rw [iX plain_len _]
  exact dm body (fun fin s' h'=>by obtain ⟨r,rfl,hq⟩:=h';exact hq) fun _ _ e=>e
 unfold truthy
 first
  | refine ab (qX (name:="__bool__") hT A7 ?_)
  | refine ab (ai (ab (qX (name:="__bool__") hT A7 ?_)))
 first
  | refine ab (iw (name:="__len__") hT BS.lookup ?_)
  | refine ab (ai (ab (iw (name:="__len__") hT BS.lookup ?_)))
 first
  | exact ab (dm key (fun r s' h'=>by obtain ⟨rfl,hq⟩:=h';exact ai hq) fun _ _ e=>e)
  | exact ab (ai (ab (dm key (fun r s' h'=>by obtain ⟨rfl,hq⟩:=h';exact ai hq) fun _ _ e=>e)))
end
section
variable {A:au} {R:dR→af→Prop} {h:Heap} {g:Array GenState} {d:Drawn} {t:Nat} {os:bR}
theorem Lu (S:dY) (P:aL):peek (KK P) S (qr "object.__new__" ⟨[.ref 639],[]⟩)=some ():=by kernel_rfl
theorem Ik (S:dY) (P:aL):peek (KK P) S (ra "object.__new__" (.ref 639))=some ():=by kernel_rfl
noncomputable def Ba:ClassData:=n7 (X 359) [HD.r 162] [HD.r 639,HD.r 162,HD.r 135,HD.y tw 63] 638 (X 359) true [] [] false none false
theorem Fe (X:(KK P).In h):∃ oc od sl,h.get? 639=some ⟨oc,od,.cls Ba,sl⟩:=(Ko _ _ _ (X 639 (J1 tw P) (by kernel_rfl)))
theorem Lv:Ba.abstract=false:=by kernel_rfl
theorem Lw:Ba.hasDel=false:=by kernel_rfl
theorem Oi (X:(KK P).In h) (hq:R (.ok (.ret (.ref (h.objs.size+1)))) ⟨(h.push bW).push (eD 639 h.objs.size),g,d,t,os⟩) :
  bA (ah an w) A (.call (.builtin "object.__new__") ⟨[.ref 639],[]⟩) R ⟨h,g,d,t,os⟩:=by
 have F:=PySem.F.objNew
 refine pX (nG _ F.quiet) ?_
 refine (cM (M:=ah an w) (h:=h) X (Lu _ P)) _ _ _ _ (fun _ _ e=>e) ?_
 refine fE F.entry ?_
 unfold aT.«object.__new__»
 obtain ⟨oc,od,sl,hC⟩:=Fe X
 have here:eC (ah an w) h (ra "object.__new__" (.ref 639)) ():=cM X (Ik _ P)
 have e1:=Lv
 have e2:=Lw
 have fin:∀ A',ag (ah an w) A' (do
   let d ← if typeHasDict (.ref 639) then some <$> alloc {cls:=.type "dict",data:=.dict #[]} else pure none
   ret (← newObj (.ref 639) .plain d)) (fun fin s'=>match fin with | .done f=>R (.ok f) s' | .again c'=>c'.quiet=true∧bA (ah an w) A c' R s') (fun e s'=>R (.error e) s') ⟨h,g,d,t,os⟩:=by
  intro A'
  refine (?_:ag _ _ ((alloc bW >>= fun x=>pure (some x)) >>= _) _ _ _)
  refine ab (ab (j0 (ai (ab ?_))))
  refine (?_:ag _ _ (newObjAsIs _ _ _) _ _ _)
  unfold newObjAsIs classHasDel
  refine ab (j0 (ab (ab (lK (bT _ (bT _ hC)) (ai ?_)))))
  rw [e2]
  refine ai (ai ?_)
  refine (?_:R _ _)
  rw [cF]
  exact hq
 repeat (first | simp only [e1,cG,if_false] | exact fin _ | lk)
end
section
variable {H:AH}
noncomputable def Ww:List Stmt:=fBody (zg pw 16 1)
noncomputable abbrev Y7:List Str:=["cls","args","kwargs","BytesIO","StringIO","_wall","object"]
theorem DZ (X:(KK P).In am):GL am "BytesIO" (.ref 392):=su X (by kernel_rfl)
theorem zb (X:(KK P).In am):GL am "StringIO" (.ref 639):=su X (by kernel_rfl)
theorem Gc (X:(KK P).In am):GL am "object" (.type "object"):=t7 X (by kernel_rfl) (by kernel_rfl)
theorem Il:typeOf (.type "object")=pure (.type "type"):=by kernel_rfl
theorem Gd (X:(KK P).In am):FN an w am d (.builtin "object.__new__") H [.con (.ref 639)] [] (Is (.ref (H.length+1)) (H++[.ns [],.inst 639 H.length])):=by
 intro A L m α s Q E vs hr I V c
 cases V with | cons a V =>
 cases V
 cases a
 obtain ⟨hh,g,dr,tk,os⟩:=s
 obtain ⟨x1,I1,V1⟩:=I.CJ (fun b o e=>e) (ar _) 639
 exact dg (Oi (X.keeps I.fr.keep) (c _ _ _ _ ⟨_,g,dr,tk,os⟩ ⟨rfl,rfl⟩ x1 I1 V1 ⟨rfl,id⟩))
theorem Lx (X:(KK P).In am):ST an w am d Y7 [.loc (some (.con (.ref 639))),.loc none,.loc none,.rc,.rc,.rc,.rc] H (fun be=>aG Ww be) (fun f _ H'=>f=.ret (.ref (H.length+1))∧H'=H++[.ns [],.inst 639 H.length]):=by
 refine bd (m0 (r9 (uj (lm 0 rfl rfl (ti 3 rfl rfl (DZ X) (z8 X (c:=false) (fun S=>by kernel_rfl) ⟨true,rfl,?_⟩))))))
 refine tX rfl ?_
 refine r9 (uj (lm 0 rfl rfl (ti 4 rfl rfl (zb X) (z8 X (c:=true) (fun S=>by kernel_rfl) ⟨false,rfl,?_⟩))))
 refine so (by decide) ?_
 refine so (by decide) ?_
 refine ev ?_
 refine bd (sF (Ic (ti 6 rfl rfl (Gc X) ⟨.builtin "object.__new__",?_,nw,bi (lm 0 rfl rfl (cr ((Gd X).mono ?_)))⟩)))
 ·intro A L m α s v pl Q E I V hq
  cases V
  have e:findCls (KK P) (.type "object") (.type "type") (aB "__new__")=some (.val (.builtin "object.__new__")):=by kernel_rfl
  exact @method_type an w A E s (KK P) L am m _ _ _ pl Q I.fr X Il (by decide +kernel) e rfl (hq _)
 ·rintro a H' ⟨rfl,rfl⟩
  exact ⟨rfl,rfl⟩
end
section
set_option tactic.hygienic true
section
variable {H:AH}
theorem Im (S:dY) (P:aL):peek (KK P) S (gU (.ref 639) "__call__")=some (some (.builtin "type.__call__")):=by kernel_rfl
theorem Ly (S:dY) (P:aL):peek (KK P) S (mq (.ref 639) (.type "type"))=some true:=by kernel_rfl
theorem Lz (S:dY) (P:aL):peek (KK P) S (mroOf (.ref 639))=some Ba.mro:=by kernel_rfl
theorem Oj (S:dY) (P:aL):peek (KK P) S (n6 (.ref 639))=some none:=by kernel_rfl
theorem Io (S:dY) (P:aL):peek (KK P) S (jV (.ref 639) (.ref 639))=some true:=by kernel_rfl
theorem Iq (P:aL):bf (KK P) (.ref 639) "__init__"=some (some (.ref 409)):=by kernel_rfl
theorem Ge (P:aL):typeIn (KK P) (.ref 409)=some (.type "function"):=by kernel_rfl
theorem Ol (P:aL):typeIn (KK P) (.ref 639)=some (.type "type"):=by kernel_rfl
theorem Om (P:aL):readsIn (KK P) 639 (.type "type")=true:=by kernel_rfl
theorem On (P:aL):findCls (KK P) (.ref 639) (.type "type") "__new__"=some (.get (.builtin "staticmethod.__get__") (.ref 136) .none (.ref 639)):=by kernel_rfl
theorem LB (P:aL):recIn (KK P) 136 "staticmethod"=some (.ref 132::[]):=by kernel_rfl
theorem Gf:Ba.mro.isEmpty=false:=by kernel_rfl
theorem Oo (X:(KK P).In am) {x:List Nat} {R:AV→AH→Prop}
  (h:FC an w am d (.ref 409) (H++[.ns [],.inst 639 H.length]) [.ref (H.length+1),.str x] [] (fun a H'=>a=.none∧H.length+1 < H'.length∧R (.ref (H.length+1)) H')) :
  FN an w am (d+2) (.ref 639) H [.str x] [] R:=by
 intro A L m α s Q E vs hr I V c
 refine V.se fun _ _ a1 V=>?_
 cases V
 rename_i v
 obtain ⟨hh,g,dr,tk,os⟩:=s
 have X' : (KK P).In hh:=X.keeps I.fr.keep
 obtain ⟨oc,od,sl,hC⟩:=Fe X'
 have call:eC (ah an w) hh (gU (.ref 639) "__call__") (some (.builtin "type.__call__")):=cM X' (Im _ P)
 have typ:eC (ah an w) hh (mq (.ref 639) (.type "type")) true:=cM X' (Ly _ P)
 have made:eC (ah an w) hh (n6 (.ref 639)) none:=cM X' (Oj _ P)
 have hm:eC (ah an w) hh (mroOf (.ref 639)) Ba.mro:=cM X' (Lz _ P)
 have e4:=Gf
 refine dg (eN ?_)
 refine (?_:ag _ _ (iN (.ref 639) _) _ _ _)
 refine nd_load hC ?_
 refine (?_:ag _ _ (q7 (.ref 639) _) _ _ _)
 unfold q7
 refine ab (call.at ?_)
 dsimp only
 rw [tc_bind]
 refine ab (ai (ab (ai ?_)))
 refine ai (a:=Fin.again (.call (.builtin "type.__call__") ⟨[.ref 639,v],[]⟩)) (iL rfl ?_)
 refine codeAny_call_builtin_at (nG _ (by decide +kernel)) entry_typeCall (check_slot tc_kind tc_split typ (tc_args _ _ _) ?_)
 unfold aT.«type.__call__»
 iterate 5 (first | simp -iota only [e4,cG,if_false] | lk)
 refine ab (made.at ?_)
 dsimp only
 refine ab (cls_sm I.fr X (Ol P) (Om P) (On P) (LB P) rfl ?_)
 refine ab (cH ?_)
 obtain ⟨fd,F,Lg⟩ : ∃ fd,Ck hh 132 fd Ww ["cls","args","kwargs"] [] ["BytesIO","StringIO","_wall","object"]∧∀ a b,dH fd ⟨[a,b],[]⟩=(jF [b] >>= fun t=>alloc bW >>= fun d=>pure [(aB "cls",a),("args",t),("kwargs",.ref d)]) :=
  (i12 _ (u0 X' (o:=JW tw P) (by kernel_rfl) rfl (by kernel_rfl) rfl (by kernel_rfl)) (fun a b=>by kernel_rfl))
 obtain ⟨o,ho,yH⟩:=F.at_
 have Bb:A.depth+1 < kc:=by have:=hr.depth;exact lD 7 (lR 7 (lT (lU 9 lI) this))
 have rA:=hr.tc 639 [v] []
 generalize hA:A.under (.builtin "type.__call__" ⟨.ref 639::[v],[]⟩)=A1 at rA ⊢
 refine dg (codeAny_call_function (by have:=rA.depth;exact lD 8 (lR 8 (lT (lU 9 lI) this))) ho yH F.co F.gen F.body F.code ?_)
 rw [Lg]
 refine ab (i8 ?_ (by rw [cD];simp -iota))
 refine ab (j0 (ai ?_))
 refine qI F.wq (fun y hy=>?_) (fun rJ xk Ug=>?_) F.kind
 ·simp -iota only [aA,bH,or_false] at hy
  rcases hy with rfl | rfl | rfl
  ·exact F.locals _ (by simp -iota)
  ·exact F.locals _ (by simp -iota)
  ·exact F.locals _ (by simp -iota)
 have u7:∀ b o,hh.get? b=some o→rJ.get? b=some o:=fun b o e=>by
  have e2:=bT bW (bT {cls:=.type "tuple",data:=.seq [v].toArray} e)
  exact Ug.extBut b o (ax (aH e2)) (bT _ e2)
 refine ⟨F.nolimit.keeps u7,codeAny_func ?_⟩
 have Uh:=H9 (an:=an) (w:=w) (s:=⟨hh,g,dr,tk,os⟩) (Q:=fun x s'=>∃ dL,Ext L α dL H.length (H++[AO.ns [],AO.inst 639 H.length]).length hh s'.heap∧Inv am L m dL (H++[.ns [],.inst 639 H.length]) s'.heap∧pp s'.heap dL (H++[AO.ns [],AO.inst 639 H.length]).length (.ref (H.length+1)) x∧rM ⟨hh,g,dr,tk,os⟩ s')
  (E:=fun _ _=>False) (R:=fun a H'=>a=.ref (H.length+1)∧H'=H++[.ns [],.inst 639 H.length]) (tk:=tk+1+3) (be:=newEnv fd.scope ((hh.push {cls:=.type "tuple",data:=.seq [v].toArray}).push bW).objs.size fd.globals fd.closure (fd.qualname++".<locals>.") (some 132) fd.code none fd.builtins)
  ((Lx (an:=an) (w:=w) (d:=d) (H:=H) X).mono (fun f ρ' H' z=>by obtain ⟨rfl,rfl⟩:=z;exact ⟨rfl,rfl⟩)) rA I (L':=((hh.push {cls:=.type "tuple",data:=.seq [v].toArray}).push bW).objs.size) (by refine (?_:hh.objs.size≤_);rw [cF,cF];exact lR 2 lO) xk u7 ?_ ?_
  (fun av x dL H' s' r xx I' V' Z=>by obtain ⟨rfl,rfl⟩:=r;exact (Kl dL xx I' V' Z))
 ·refine dm Uh (fun f s' hq=>?_) (fun _ _ e=>e.elim)
  obtain ⟨dL,xx,I',V',Z⟩:=hq
  cases f with
  | next=>cases V'
  | brk=>cases V'
  | cont=>cases V'
  | ret z =>
  cases V'
  rename_i GU
  have X2:(KK P).In s'.heap:=X.keeps I'.fr.keep
  have self:eC (ah an w) s'.heap (jV (.ref 639) (.ref 639)) true:=cM X2 (Io _ P)
  obtain ⟨es,n,J,gg,_⟩:=uR I' (k:=H.length+1) (dd:=H.length) (C:=639) (as:=[]) (by simp -iota) (by simp -iota)
  have inst:eC (ah an w) s'.heap (mq (.ref (dL (H.length+1))) (.ref 639)) true:=J.type.andThen self
  dsimp only
  refine ab (inst.here ?_)
  simp -iota only [Bool.not_true,cG,if_false]
  refine ab (cH (special_fn X2 J (Iq P) (Ge P) ?_))
  have Qi:=h.fn A1 L m dL s' (fun v Pe=>v=.none∧Q (.ref (dL (H.length+1))) Pe) E [.ref (dL (H.length+1)),v] rA.less I' (.cons (.ref GU) (.cons (a1.ext xx I.kt) .nil)) (fun av x sP H2 s2 r x2 I2 V2 Z2=>by
   obtain ⟨rfl,u9,r⟩:=r
   refine V2.none_ ?_
   refine ⟨rfl,?_⟩
   have:=pp.ref (h:=s2.heap) (α:=sP) (n:=H2.length) u9
   rw [x2.al _ GU] at this
   exact c _ _ sP H2 s2 r (xx.trans x2) I2 this (Z.trans Z2))
  refine dm Qi (fun r s2 z=>?_) (fun _ _ z=>z)
  obtain ⟨rfl,z⟩:=z
  exact ai z
 ·refine ⟨F.kind,rfl,F.rc,F.blt,fun i x sl a b=>?_⟩
  match i,a,b with
  | 0,a,b=>cases a;cases b;exact F.locals _ (by simp -iota)
  | 1,a,b=>cases a;cases b;exact F.locals _ (by simp -iota)
  | 2,a,b=>cases a;cases b;exact F.locals _ (by simp -iota)
  | 3,a,b=>cases a;cases b;exact F.xl _ (by simp -iota)
  | 4,a,b=>cases a;cases b;exact F.xl _ (by simp -iota)
  | 5,a,b=>cases a;cases b;exact F.xl _ (by simp -iota)
  | 6,a,b=>cases a;cases b;exact F.xl _ (by simp -iota)
  | n+7,a,b=>cases b
 ·intro i x av a b
  match i,a,b with
  | 0,a,b=>cases a;cases b;exact (i12 _ (by rfl) (.con _))
  | 1,a,b=>cases b
  | 2,a,b=>cases b
  | 3,a,b=>cases b
  | 4,a,b=>cases b
  | 5,a,b=>cases b
  | 6,a,b=>cases b
  | n+7,a,b=>cases b
end
end
section
variable {nm:List Str} {ρ:List ci} {H:AH} {R:AV→AH→Prop}
noncomputable abbrev LC:Str:="_StringIO__newline"
noncomputable abbrev CL:Str:="_StringIO__buf"
noncomputable abbrev Gg:Str:="_StringIO__pos"
noncomputable abbrev sD:Str:="self"
noncomputable def u3 (rH:List Nat) (pos:Nat):List (Str×AV):=[(LC,.str [10]),(CL,.str rH),(Gg,.int pos)]
theorem CM (name:Str):ij (KK P) 639 name=true:=by kernel_rfl
theorem MV:gW (KK P) 639=true:=by kernel_rfl
theorem Aa:SB (KK P) 639:=⟨by kernel_rfl,by kernel_rfl,MV,CM _⟩
theorem QE:bf (KK P) (.ref 639) LC=some none:=by kernel_rfl
theorem D0:bf (KK P) (.ref 639) CL=some none:=by kernel_rfl
theorem Op:bf (KK P) (.ref 639) Gg=some none:=by kernel_rfl
theorem QF:eU (KK P) 639 LC=some none:=by kernel_rfl
theorem Ir:eU (KK P) 639 CL=some none:=by kernel_rfl
theorem It:eU (KK P) 639 Gg=some none:=by kernel_rfl
theorem QG (X:(KK P).In am) {k dd i:Nat} {as:List (Str×AV)} {name:Str} {av:AV} (hk:H[k]?=some (.inst 639 dd)) (hd:H[dd]?=some (.ns as)) (hi:as[i]?=some (name,av)) (ha:bf (KK P) (.ref 639) name=some none) (hv:∀ x,av=.con x→g9 x=true) (r:R av H):FG an w am d H (.ref k) (fun v=>fG v name true) R :=
 BP X hk hd hi (CM _) MV ha rfl hv r
noncomputable def Y8:List Stmt:=fBody (zg pw 20 2)
theorem AB (X:(KK P).In am) {k dd:Nat} {as:List (Str×AV)} {x:List Nat} (hk:H[k]?=some (.inst 639 dd)) (hd:H[dd]?=some (.ns as)) (h0:as[0]?=some (LC,.str [10])):FN an w am (d+1) (.ref 416) H [.ref k,.str x] [] (Is (.str x) H):=by
 refine (u2 X (o:=JY tw P) (ps:=[sD,"s"]) (nl:=["newline"]) (ng:=[]) (full:=[.ref k,.str x]) (body:=Y8) (by kernel_rfl) rfl (by kernel_rfl) rfl (by kernel_rfl) rfl
  (fun vs hv=>by refine zh hv fun a b=>?_;exact (i12 [a,b] (fun S=>by kernel_rfl) (fun _ _ _ V=>V))) ?_).fn
 refine (?_:ST an w am d [sD,"s","newline"] [.loc (some (.ref k)),.loc (some (.str x)),.loc none] H _ _)
 refine bd (t6 2 rfl (uA (lm 0 rfl rfl (QG X hk hd h0 QE (by intro x e;cases e) (tW _ _ rfl ?_)))))
 refine (?_:ST an w am d [sD,"s","newline"] [.loc (some (.ref k)),.loc (some (.str x)),.loc (some (.str [10]))] H _ _)
 refine bd (m0 (dl (lm 2 rfl rfl (ss (.mk false rfl ?_)))))
 refine so (by decide) ?_
 refine ev ?_
 refine bd (m0 (vw (dl (lm 2 rfl rfl (pu (l:=[13]) rfl (.mk false rfl ?_))))))
 refine so (by decide) ?_
 refine vw (dl (lm 2 rfl rfl (pu (l:=[13,10]) rfl (.mk false rfl ?_))))
 refine so (by decide) ?_
 refine yw ?_
 refine so (by decide) ?_
 refine ev ?_
 exact bd (sF (lm 1 rfl rfl ⟨rfl,rfl⟩))
noncomputable def Y9:List Stmt:=fBody (zg pw 20 3)
theorem Iu (X:(KK P).In am) {k dd:Nat} {as:List (Str×AV)} {x:List Nat} (hk:H[k]?=some (.inst 639 dd)) (hd:H[dd]?=some (.ns as)) (h1:as[1]?=some (CL,.str x)):FN an w am (d+1) (.ref 423) H [.ref k] [] (Is .none H):=by
 refine (u2 X (o:=JZ tw P) (ps:=[sD]) (nl:=[]) (ng:=["ValueError"]) (full:=[.ref k]) (body:=Y9) (by kernel_rfl) rfl (by kernel_rfl) rfl (by kernel_rfl) rfl
  (fun vs hv=>by refine Bt hv fun a=>?_;exact (i12 [a] (fun S=>by kernel_rfl) (fun _ _ _ V=>V))) ?_).fn
 refine (?_:ST an w am d [sD,"ValueError"] [.loc (some (.ref k)),.rc] H _ _)
 refine bd (m0 (dl (uA (lm 0 rfl rfl (QG X hk hd h1 D0 (by intro x e;cases e) (ss (.mk false rfl ?_)))))))
 refine so (by decide) ?_
 refine ev ?_
 exact ev ⟨rfl,rfl⟩
noncomputable def Za:List Stmt:=fBody (zg pw 20 1)
noncomputable abbrev Zb:List Str:=[sD,"initial_value","newline","type","str","_wall","ValueError"]
theorem D8 (X:(KK P).In am) {k dd:Nat} {x:List Nat} (hk:H[k]?=some (.inst 639 dd)) (hd:H[dd]?=some (.ns [])):FC an w am (d+3) (.ref 409) H [.ref k,.str x] [] (Is .none (H.set dd (.ns (u3 x 0)))):=by
 refine (u2 X (o:=JX tw P) (ps:=[sD,"initial_value","newline"]) (nl:=[]) (ng:=["type","str","_wall","ValueError"]) (full:=[.ref k,.str x,.str [10]]) (body:=Za) (by kernel_rfl) rfl (by kernel_rfl) rfl (by kernel_rfl) rfl
  (fun vs hv=>by refine zh hv fun a b=>?_;exact (i12 [a,b,.str ⟨[10].toArray⟩ 820] (fun S=>by kernel_rfl) (fun _ _ _ V=>V.append (.cons (.str _ _) .nil)))) ?_)
 have wj:=(rK hd)
 have sz:dd≠k:=fun e=>by rw [e,hk] at hd;exact nomatch hd
 have kk:∀ as,(H.set dd (.ns as))[k]?=some (.inst 639 dd):=fun as=>by rw [aF sz];exact hk
 have dk:∀ as,(H.set dd (.ns as))[dd]?=some (.ns as):=fun as=>az wj
 refine (?_:ST an w am (d+2) Zb [.loc (some (.ref k)),.loc (some (.str x)),.loc (some (.str [10])),.rc,.rc,.rc,.rc] H _ _)
 refine bd (m0 (r9 (dl (lm 2 rfl rfl (ss (.mk true rfl ?_))))))
 refine tX rfl ?_
 refine r9 (dl (io (ti 3 rfl rfl (BR X) (.mk sJ (bi (lm 2 rfl rfl (cr (CK.to (ti 4 rfl rfl (gl_str X) (.mk false rfl ?_))))))))))
 refine so (by decide) ?_;refine so (by decide) ?_
 refine ev ?_
 refine bd (m0 (r9 (dl (lm 2 rfl rfl (ss (.mk true rfl ?_))))))
 refine tX rfl ?_
 refine r9 (dl (lm 2 rfl rfl (pu (l:=[]) rfl (.mk true rfl ?_))))
 refine tX rfl ?_
 refine r9 (dl (lm 2 rfl rfl (pu (l:=[10]) rfl (.mk false rfl ?_))))
 refine so (by decide) ?_;refine so (by decide) ?_
 refine ev ?_
 refine bd (m0 (r9 (dl (lm 1 rfl rfl (ss (.mk true rfl ?_))))))
 refine tX rfl ?_
 refine r9 (dl (io (ti 3 rfl rfl (BR X) (.mk sJ (bi (lm 1 rfl rfl (cr (CK.to (ti 4 rfl rfl (gl_str X) (.mk false rfl ?_))))))))))
 refine so (by decide) ?_;refine so (by decide) ?_
 refine ev ?_
 refine bd (tm X (lm 2 rfl rfl (lm 0 rfl rfl ⟨k,dd,639,_,[(LC,.str [10])],rfl,hk,hd,Aa,QF,by decide +kernel,by decide +kernel,by kernel_rfl,?_⟩)))
 refine bd (tm X (pu (l:=[]) rfl (lm 0 rfl rfl ⟨k,dd,639,_,[(LC,.str [10]),(CL,.str [])],rfl,kk _,dk _,Aa,Ir,by decide +kernel,by decide +kernel,by kernel_rfl,?_⟩)))
 rw [bQ]
 refine bd (tm X (f8 (lm 0 rfl rfl ⟨k,dd,639,_,u3 [] 0,rfl,kk _,dk _,Aa,It,by decide +kernel,by decide +kernel,by kernel_rfl,?_⟩)))
 rw [bQ]
 refine bd (m0 (dl (lm 1 rfl rfl (ss (.mk true rfl ?_)))))
 refine tX rfl ?_
 refine bd (tm X (CI (lm 0 rfl rfl (sN _ (w5 X (kk _) (dk _) (CM _) (f:=416) (by kernel_rfl) (by kernel_rfl) (by decide +kernel)) (tC X (by kernel_rfl)) (bi (lm 1 rfl rfl (cr ((AB X (kk _) (dk _) rfl).to ?_))))))))
 refine lm 0 rfl rfl ⟨k,dd,639,_,u3 x 0,rfl,kk _,dk _,Aa,Ir,by decide +kernel,by decide +kernel,by kernel_rfl,?_⟩
 rw [bQ]
 refine ev ?_
 exact ev ⟨rfl,rfl⟩
end
section
variable {H:AH} {R:AV→AH→Prop}
noncomputable def Wx:List Stmt:=fBody (zg pw 20 25)
noncomputable abbrev Ui:List Str:=[sD,"size","start","stop","_index","len"]
theorem LD (X:(KK P).In am) {k dd p:Nat} {rH:List Nat} (hk:H[k]?=some (.inst 639 dd)) (hd:H[dd]?=some (.ns (u3 rH p))) (hz:rH.length≤1000) (hp:p≤1000)
  (r1:∀ c,rH[p]?=some c→R (.str [c]) (H.set dd (.ns (u3 rH (p+1))))) (r2:rH[p]?=none→R (.str []) H):FN an w am (d+2) (.ref 585) H [.ref k,.int 1] [] R:=by
 refine (u2 X (o:=J0 tw P) (ps:=[sD,"size"]) (nl:=["start","stop"]) (ng:=["_index","len"]) (full:=[.ref k,.int 1]) (body:=Wx) (by kernel_rfl) rfl (by kernel_rfl) rfl (by kernel_rfl) rfl
  (fun vs hv=>by refine zh hv fun a b=>?_;exact (i12 [a,b] (fun S=>by kernel_rfl) (fun _ _ _ V=>V))) ?_).fn
 refine (?_:ST an w am (d+1) Ui [.loc (some (.ref k)),.loc (some (.int 1)),.loc none,.loc none,.rc,.rc] H _ _)
 refine bd (m0 (dl (lm 1 rfl rfl (ss (.mk false rfl ?_)))))
 refine so (by decide) ?_
 refine ev ?_
 refine bd (t6 1 rfl (io (ti 4 rfl rfl (Id X) (.mk (tC X (by kernel_rfl)) (bi (lm 1 rfl rfl (bi (pu (l:=(aB "StringIO.read of a size that is no exact int").cps.toList) rfl (cr ((Ig X (by decide) (by decide)).to (tW _ _ rfl ?_)))))))))))
 refine bd (te (w6 (lm 0 rfl rfl (sN _ (w5 X hk hd (CM _) (f:=423) (by kernel_rfl) (by kernel_rfl) (by refine (?_:_∉[LC,CL,Gg]);decide +kernel)) (tC X (by kernel_rfl)) ((Iu X hk hd rfl).to ?_)))))
 refine bd (t6 2 rfl (uA (lm 0 rfl rfl (QG X hk hd (i:=2) rfl Op (by intro x e;cases e) (tW _ _ rfl ?_)))))
 refine bd (t6 3 rfl (io (ti 5 rfl rfl (ue X) (.mk nw (bi (uA (lm 0 rfl rfl (QG X hk hd (i:=1) rfl D0 (by intro x e;cases e) (cr (um (lR 999000 hz) (tW _ _ rfl ?_)))))))))))
 refine (?_:ST an w am (d+1) Ui [.loc (some (.ref k)),.loc (some (.int 1)),.loc (some (.int p)),.loc (some (.int rH.length)),.rc,.rc] H _ _)
 by_cases tO:p < rH.length
 ·obtain ⟨c,hc⟩ : ∃ c,rH[p]?=some c:=⟨_,aQ tO⟩
  refine bd (m0 (dl (lm 2 rfl rfl (lm 3 rfl rfl (.mk false ?_ ?_)))))
  ·refine (?_:some (decide ((rH.length:Int)≤(p:Int)))=_)
   rw [decide_eq_false (by lia)]
  refine so (by decide) ?_
  refine ev ?_
  have Ff:ST an w am (d+1) Ui [.loc (some (.ref k)),.loc (some (.int 1)),.loc (some (.int p)),.loc (some (.int (p+1:Nat))),.rc,.rc] H (fun be=>aG (Wx.drop 7) be) (NC R):=by
   have wj:=(rK hd)
   have sz:dd≠k:=fun e=>by rw [e,hk] at hd;cases hd
   refine bd (tm X (lm 3 rfl rfl (lm 0 rfl rfl ⟨k,dd,639,_,u3 rH (p+1),rfl,hk,hd,Aa,It,(by decide +kernel:[LC,CL,Gg].Nodup),(by decide:3≤500),by kernel_rfl,?_⟩)))
   have kk:(H.set dd (.ns (u3 rH (p+1))))[k]?=some (.inst 639 dd):=by rw [aF sz];exact hk
   have dk:(H.set dd (.ns (u3 rH (p+1))))[dd]?=some (.ns (u3 rH (p+1))):=az wj
   refine bd (sF (wZ (uA (lm 0 rfl rfl (QG X kk dk (i:=1) rfl D0 (by intro x e;cases e) (uv (lm 2 rfl rfl (uv (lm 3 rfl rfl (Kp rH (some p) (some (p+1)) rfl (lR 999000 hz) (vH _) (vH _) (fun u v a b=>?_) ?_))))))))))
   ·cases a;cases b;exact ⟨(lR 1 lO),tO⟩
   ·have:rV rH (some p) (some (p+1))=[c]:=by
     refine (?_:(rH.drop p).take (p+1 - p)=[c])
     have e1:p+1 - p=1:=nB _ _
     obtain ⟨hl,e⟩:=cQ.mp hc
     rw [e1,ez hl,e]
     rfl
    rw [this]
    exact r1 c hc
  refine bd (m0 (r9 (dl (lm 1 rfl rfl (f8 (.mk true rfl ?_))))))
  refine tX rfl ?_
  by_cases h2:p+1 < rH.length
  ·refine r9 (dl (pc (lm 2 rfl rfl (lm 1 rfl rfl (.mk rfl (lm 3 rfl rfl (.mk true ?_ ?_)))))))
   ·refine (?_:some (decide ((p:Int)+1 < (rH.length:Int)))=_)
    rw [decide_eq_true (by lia)]
   refine tX rfl ?_
   refine xH ?_
   refine tX rfl ?_
   refine bd (t6 3 rfl (pc (lm 2 rfl rfl (lm 1 rfl rfl (.mk rfl (.mk rfl ?_))))))
   refine ev ?_
   exact Ff
  ·refine r9 (dl (pc (lm 2 rfl rfl (lm 1 rfl rfl (.mk rfl (lm 3 rfl rfl (.mk false ?_ ?_)))))))
   ·refine (?_:some (decide ((p:Int)+1 < (rH.length:Int)))=_)
    rw [decide_eq_false (by lia)]
   refine so (by decide) ?_;refine so (by decide) ?_
   refine ev ?_
   have:rH.length=p+1:=lA (lN h2) tO
   rw [this]
   exact Ff
 ·refine bd (m0 (dl (lm 2 rfl rfl (lm 3 rfl rfl (.mk true ?_ ?_)))))
  ·refine (?_:some (decide ((rH.length:Int)≤(p:Int)))=_)
   rw [decide_eq_true (by lia)]
  refine tX rfl ?_
  exact bd (sF (pu (l:=[]) rfl (r2 (bM.mpr (lN tO)))))
end
section
variable {A:au} {s:af} {K:Type} {knd:K→aa→Prop}
theorem Iv {A:au} {s:af} {it d:Addr} {i ep:Nat} {kvs:List (Str×aa)} {Q:Fin→af→Prop} {E:aa→af→Prop} (hh:A.handled=none)
  (hit:s.heap.IsValIter it d i kvs.length ep) (hm:s.heap.DictAt (cJ an w) d kvs ep)
  (hQ:∀ k v,kvs[i]?=some (k,v)→∀ h',h'.IsValIter it d (i+1) kvs.length ep→du it s.heap h'→Q (.done (.ret v)) {s with heap:=h'})
  (hE:kvs[i]?=none→∀ h' e,eX it s.heap h'→(∃ o,h'.get? e=some o∧o.cls=.type "StopIteration")→E (.ref e) {s with heap:=h'}) :
  ag (ah an w) A (aT.«dict_valueiterator.__next__» ⟨[.ref it],[]⟩) Q E s:=by
 obtain ⟨o,ho,hc,hd⟩:=id hit
 obtain ⟨od,es,Wy,hcd,Wz,hk,hp,hn⟩:=id hm
 have xZ:es.size=kvs.length:=by rw [← hp.length];simp -iota
 have Uj:aT.Dict_items.ownsTuple "dict_valueiterator"=false:=by decide
 have Iw:∀ {Q' : String→af→Prop},Q' "dict_valueiterator" s→ag (ah an w) A (typeNameOfWhole (.ref it)) Q' E s:=fun h=>wpAny_typeNameOfWhole_valiter hit.typeIs h
 refine ab (ai (ab (ab (ab (Iw (ai (ab (wpAny_fieldsOf ho hd ?_))))))))
 rw [Uj]
 simp -iota only [cG,if_false]
 refine (?_:ag _ _ (if (dz d == eM)=true then _ else _) _ _ s)
 rw [if_neg (show ¬ ((dz d == eM)=true) from l6)]
 refine ab (ai (ab (wpAny_dictEntries Wy Wz ?_)))
 rw [if_neg (by rw [xZ];simp -iota)]
 refine ab (ai (ab (wpAny_dictEpoch Wy Wz ?_)))
 rw [if_neg (by simp -iota)]
 refine ai ?_
 cases hx:kvs[i]? with
 | some kv =>
  obtain ⟨k,v⟩:=kv
  have tO:i < es.size:=by rw [xZ];exact (cQ.mp hx).1
  have Uk:es[i].val=v:=(hp.get? (e:=es[i]) (by simp -iota [tO]) hx).2
  simp only [show ¬ ((i:Int) < 0) from nE _,if_false,kq,oy tO]
  refine ab (ab (Iw (ai (ab (oK hit.typeIs ?_)))))
  refine (?_:ag _ _ (setField (.ref it) 1 (bP ((i:Int)+1)) >>= _) _ _ s)
  refine ab (jq ho hd (by simp -iota) ?_)
  have QH : (s.heap.update it (km (·.setIfInBounds 1 (bP ((i:Int)+1))))).IsValIter it d (i+1) kvs.length ep :=
   (sN _ (j6 _ ho (qH (jz hd _))) ((oY ..).trans hc) (by rw [jz hd];simp -iota [bP]))
  have one:∀ {ts:List String} {Q' : Bool→af→Prop},Q' (ts.any fun t=>[dN "dict_valueiterator",dN "object"].contains (.type t)) {s with heap:=s.heap.update it (km (·.setIfInBounds 1 (bP ((i:Int)+1))))} →
    ag (ah an w) A (aT.Dict_items.isOneOf (.ref it) ts) Q' E {s with heap:=s.heap.update it (km (·.setIfInBounds 1 (bP ((i:Int)+1))))}:=fun h=>oK QH.typeIs h
  refine ab (cH (ab (one (ab (one ?_)))))
  refine (?_:ag _ _ (pure es[i].val) _ _ _)
  exact ai (ai (Uk▸hQ k v hx _ QH (ik ..)))
 | none =>
  have Zc:es.size≤i:=by rw [xZ];simpa -iota using hx
  simp only [show ¬ ((i:Int) < 0) from nE _,if_false,kq,Array.getElem?_eq_none Zc]
  refine ab (ab (Iw (ai ?_)))
  refine (?_:ag _ _ (setField (.ref it) 0 .none >>= _) _ _ s)
  refine ab (jq ho hd (by simp -iota) ?_)
  refine (?_:ag _ _ (gL (.type "StopIteration") [] >>= _) _ _ _)
  refine ab ?_
  simp -iota only [gL,jF]
  refine ab (fy ?_ (by size_fits))
  refine ab (m:=gO _ _) (fZ (a:=eM) (by first | rfl | (simp -iota only [gO];rfl)) ?_)
  refine fy ?_ (by size_fits)
  unfold raiseNew
  refine ab (nr ?_)
  rw [hh]
  refine ab (ai (m9 ?_))
  exact hE hx _ _ (((ik ..).extBut.push _).push _) (i12 _ (bj _ rfl) rfl)
theorem Ab {A:au} {s:af} {it d:Addr} {i ep:Nat} {kvs:List (Str×aa)} {Q:aa→af→Prop} {E:aa→af→Prop} (hh:A.handled=none)
  (hit:s.heap.IsValIter it d i kvs.length ep) (hm:s.heap.DictAt (cJ an w) d kvs ep)
  (hQ:∀ k v,kvs[i]?=some (k,v)→∀ h',h'.IsValIter it d (i+1) kvs.length ep→du it s.heap h'→Q v {s with heap:=h'})
  (hE:kvs[i]?=none→∀ h' e,eX it s.heap h'→(∃ o,h'.get? e=some o∧o.cls=.type "StopIteration")→E (.ref e) {s with heap:=h'}) :
  ag (ah an w) A (iZ (.ref it)) Q E s:=by
 unfold iZ
 refine ab (fg (name:="__next__") hit.typeIs oO
  (dA oO hit.typeIs F.entry_dict_valueiterator_next (Iv hh hit hm (fun k v e h' h1 h2=>(i12 _ rfl (ai (hQ k v e h' h1 h2)))) hE) (F.args_dict_valueiterator_next_1 _)))
end
section
variable {A:au} {s:af} {E:aa→af→Prop}
theorem BV {z TI TO i1 i2 d l2:Addr} {k1 k2 ep:Nat} {kvs:List (Str×aa)} {ys:Array aa} {k:Str} {x y a b:aa} {Q:aa→af→Prop} (hh:A.handled=none) (D:iP z TI TO i1 i2 d l2)
  (hz:dy s.heap z TI TO .none) (Bc:cg s.heap TI (.ref i1) (.ref i2)) (BW:cg s.heap TO a b)
  (h1:s.heap.IsValIter i1 d k1 kvs.length ep) (hm:s.heap.DictAt (cJ an w) d kvs ep) (h2:s.heap.IsListIter i2 l2 k2) (u9:s.heap.IsList l2 ys) (hx:kvs[k1]?=some (k,x)) (hy:ys[k2]?=some y)
  (hQ:∀ h',dy h' z TI TO (bP s.heap.objs.size)→cg h' TO x y→h'.IsValIter i1 d (k1+1) kvs.length ep→h'.IsListIter i2 l2 (k2+1)→cg h' s.heap.objs.size x y→h'.objs.size=s.heap.objs.size+1 →
   (∀ c o,c≠z→c≠TO→c≠i1→c≠i2→s.heap.get? c=some o→h'.get? c=some o)→Q (.ref s.heap.objs.size) {s with heap:=h'}) :
  ag (ah an w) A (aT.«zip.__next__» ⟨[.ref z],[]⟩) (fun fin s'=>∃ v,fin=.done (.ret v)∧Q v s') E s:=by
 refine (?_:ag _ _ (ey (.ref z) 2 >>= _) _ _ _)
 refine ab (cT hz rfl (x:=.bool false) rfl ?_)
 refine (?_:ag _ _ (ey (.ref z) 3 >>= _) _ _ _)
 refine ab (cT hz rfl (x:=.ref TI) rfl (ab (fa Bc rfl ?_)))
 refine (?_:ag _ _ (kQ (.ref z) >>= _) _ _ _)
 refine ab ?_
 unfold kQ
 refine ab (cT hz rfl (x:=.none) rfl (ai ?_))
 simp -iota only [if_true]
 refine ab (fj (ab (cT hz rfl (x:=.ref TO) rfl (ab (ja hz (by simp -iota) fun rJ Ac wA=>?_)))))
 replace Ac:dy rJ z TI TO .ellipsis:=Ac
 refine ab ?_
 simp -iota only [pG,pC,gP,i7]
 refine ab (ab (jB ?_))
 refine (?_:ag _ _ (iZ (.ref i1) >>= _) _ _ _)
 refine ab (Ab hh (h1.extBut wA.extBut D.i1z) (hm.extBut wA.extBut D.l1z) (fun k' v e yC QI yf=>?_) (fun e=>by rw [hx] at e;cases e))
 rw [hx] at e
 cases e
 refine ai ?_
 have Ix:cg yC TO a b:=yf.extBut _ _ D.TOi1 (wA.extBut _ _ D.TOz BW)
 refine ab (fa Ix rfl (ab (qD Ix fun vB D9 yg=>?_)))
 replace D9:cg vB TO x b:=D9
 refine ab (iH (ai (ab (ab (jB ?_)))))
 refine (?_:ag _ _ (iZ (.ref i2) >>= _) _ _ _)
 refine ab (wpAny_nextOf_list_item (((h2.extBut wA.extBut D.i2z).extBut yf.extBut D.i12.symm).extBut yg.extBut D.TOi2.symm)
  (((u9.extBut wA.extBut D.l2z).extBut yf.extBut D.l2i1).extBut yg.extBut D.l2TO) hy fun Ul QJ CN=>ai ?_)
 have Iy:cg Ul TO x b:=CN.extBut _ _ D.TOi2 D9
 refine ab (fa Iy rfl (ab (qD Iy fun wC BX CO=>?_)))
 replace BX:cg wC TO x y:=BX
 refine ab (iH (ai (ai (ab (fa BX rfl (ab (i8 ?_)))))))
 have xZ:wC.objs.size=s.heap.objs.size:=by rw [CO.1,CN.1,yg.1,yf.1,wA.1]
 have MW:dy wC z TI TO .ellipsis:=CO.extBut _ _ D.TOz.symm (CN.extBut _ _ D.i2z.symm (yg.extBut _ _ D.TOz.symm (yf.extBut _ _ D.i1z.symm Ac)))
 have QK:∀ c o,c≠z→c≠TO→c≠i1→c≠i2→s.heap.get? c=some o→wC.get? c=some o:=fun c o c1 c2 c3 c4 e =>
  CO.extBut _ _ c2 (CN.extBut _ _ c4 (yg.extBut _ _ c2 (yf.extBut _ _ c3 (wA.extBut _ _ c1 e))))
 have QL:wC.IsValIter i1 d (k1+1) kvs.length ep:=((QI.extBut yg.extBut D.TOi1.symm).extBut CN.extBut D.i12).extBut CO.extBut D.TOi1.symm
 have QM:wC.IsListIter i2 l2 (k2+1):=QJ.extBut CO.extBut D.TOi2.symm
 refine (?_:ag _ _ (oH (.ref z) (.ref wC.objs.size) >>= _) _ _ _)
 refine ab ?_
 unfold oH
 have QN:dy (wC.push {cls:=.type "tuple",data:=.seq #[x,y]}) z TI TO .ellipsis:=bT _ MW
 refine ab (ja QN (by simp -iota) fun Um Iz IA=>?_)
 replace Iz:dy Um z TI TO (bP wC.objs.size):=Iz
 refine ja Iz (by simp -iota) fun IB Fg IC=>?_
 replace Fg:dy IB z TI TO (bP wC.objs.size):=Fg
 have up:∀ c o,c≠z→wC.get? c=some o→IB.get? c=some o:=fun c o c1 e=>IC.extBut _ _ c1 (IA.extBut _ _ c1 (bT _ e))
 have QO:z < wC.objs.size:=aH MW
 have MX:cg IB wC.objs.size x y:=IC.extBut _ _ (br QO) (IA.extBut _ _ (br QO) (bj _ rfl))
 have Oq:IB.objs.size=wC.objs.size+1:=by rw [IC.1,IA.1,cF]
 rw [xZ] at Fg MX Oq
 refine ai (i12 _ rfl ?_)
 refine (?_:Q (.ref wC.objs.size) _)
 rw [xZ]
 exact hQ IB Fg (up _ _ D.TOz BX) (let ⟨o,e,r⟩:=QL;(i12 o (up _ o D.i1z e) r)) (QM.at fun o e=>up _ o D.i2z e) MX Oq fun c o c1 c2 c3 c4 e=>up c o c1 (QK c o c1 c2 c3 c4 e)
theorem CP {z TI TO i1 i2 d l2:Addr} {k1 ep:Nat} {kvs:List (Str×aa)} {a b:aa} {Q:Fin→af→Prop} (hh:A.handled=none) (D:iP z TI TO i1 i2 d l2)
  (hz:dy s.heap z TI TO .none) (Bc:cg s.heap TI (.ref i1) (.ref i2)) (BW:cg s.heap TO a b)
  (h1:s.heap.IsValIter i1 d k1 kvs.length ep) (hm:s.heap.DictAt (cJ an w) d kvs ep) (hx:kvs[k1]?=none)
  (hE:∀ h' e,(∀ c o,c≠z→c≠i1→s.heap.get? c=some o→h'.get? c=some o)→(∃ o,h'.get? e=some o∧o.cls=.type "StopIteration")→E (.ref e) {s with heap:=h'}) :
  ag (ah an w) A (aT.«zip.__next__» ⟨[.ref z],[]⟩) Q E s:=by
 refine (?_:ag _ _ (ey (.ref z) 2 >>= _) _ _ _)
 refine ab (cT hz rfl (x:=.bool false) rfl ?_)
 refine (?_:ag _ _ (ey (.ref z) 3 >>= _) _ _ _)
 refine ab (cT hz rfl (x:=.ref TI) rfl (ab (fa Bc rfl ?_)))
 refine (?_:ag _ _ (kQ (.ref z) >>= _) _ _ _)
 refine ab ?_
 unfold kQ
 refine ab (cT hz rfl (x:=.none) rfl (ai ?_))
 simp -iota only [if_true]
 refine ab (fj (ab (cT hz rfl (x:=.ref TO) rfl (ab (ja hz (by simp -iota) fun rJ Ac wA=>?_)))))
 replace Ac:dy rJ z TI TO .ellipsis:=Ac
 refine ab ?_
 simp -iota only [pG,pC,gP,i7]
 refine ab (ab (jB ?_))
 refine (?_:ag _ _ (iZ (.ref i1) >>= _) _ _ _)
 refine ab (Ab hh (h1.extBut wA.extBut D.i1z) (hm.extBut wA.extBut D.l1z) (fun k' v e=>by rw [hx] at e;cases e) (fun _ yC e yf he=>?_))
 obtain ⟨oe,Un,WA⟩:=he
 have MY:dy yC z TI TO .ellipsis:=yf _ _ D.i1z.symm Ac
 have Zd:e≠z:=fun x=>by subst x;rw [MY] at Un;cases Un;simp -iota at WA
 exact ja MY (by simp -iota) fun vB _ yg=>hE vB e (fun c o c1 c3 x=>yg.extBut _ _ c1 (yf _ _ c3 (wA.extBut _ _ c1 x))) (i12 oe (yg.extBut _ _ Zd Un) WA)
end
section
variable {A:au} {s:af} {E:aa→af→Prop}
theorem Ad {z TI TO i1 i2 d l2:Addr} {k1 k2 ep:Nat} {kvs:List (Str×aa)} {ys:Array aa} {k:Str} {x y a b:aa} {Q:Option aa→af→Prop} (hh:A.handled=none) (D:iP z TI TO i1 i2 d l2)
  (hz:dy s.heap z TI TO .none) (Bc:cg s.heap TI (.ref i1) (.ref i2)) (BW:cg s.heap TO a b)
  (h1:s.heap.IsValIter i1 d k1 kvs.length ep) (hm:s.heap.DictAt (cJ an w) d kvs ep) (h2:s.heap.IsListIter i2 l2 k2) (u9:s.heap.IsList l2 ys) (hx:kvs[k1]?=some (k,x)) (hy:ys[k2]?=some y)
  (hQ:∀ h',dy h' z TI TO (bP s.heap.objs.size)→cg h' TO x y→h'.IsValIter i1 d (k1+1) kvs.length ep→h'.IsListIter i2 l2 (k2+1)→cg h' s.heap.objs.size x y→h'.objs.size=s.heap.objs.size+1 →
   (∀ c o,c≠z→c≠TO→c≠i1→c≠i2→s.heap.get? c=some o→h'.get? c=some o)→Q (some (.ref s.heap.objs.size)) {s with heap:=h'}) :
  ag (ah an w) A (cf (.ref z)) Q E s:=by
 have hT:s.TypeIs (.ref z) "zip":=(i12 _ hz rfl)
 unfold cf
 exact ab (kr (fg (name:="__next__") hT kD
  (dA kD hT qO
   (BV hh D hz Bc BW h1 hm h2 u9 hx hy fun h' a1 a2 a3 a4 a5 a6 a7=>ai (hQ h' a1 a2 a3 a4 a5 a6 a7)) (rl _))))
theorem AC {z TI TO i1 i2 d l2:Addr} {k1 ep:Nat} {kvs:List (Str×aa)} {a b:aa} {Q:Option aa→af→Prop} (hh:A.handled=none) (D:iP z TI TO i1 i2 d l2)
  (hz:dy s.heap z TI TO .none) (Bc:cg s.heap TI (.ref i1) (.ref i2)) (BW:cg s.heap TO a b)
  (h1:s.heap.IsValIter i1 d k1 kvs.length ep) (hm:s.heap.DictAt (cJ an w) d kvs ep) (hx:kvs[k1]?=none)
  (hQ:∀ h',(∀ c o,c≠z→c≠i1→s.heap.get? c=some o→h'.get? c=some o)→Q none {s with heap:=h'}):ag (ah an w) A (cf (.ref z)) Q E s:=by
 have hT:s.TypeIs (.ref z) "zip":=(i12 _ hz rfl)
 unfold cf
 refine ab (kr (fg (name:="__next__") hT kD
  (dA kD hT qO (CP hh D hz Bc BW h1 hm hx fun h' e hk he=>?_) (rl _))))
 obtain ⟨o,ho,hc⟩:=he
 refine ab (gx (T:="StopIteration") (b:=true) (i12 o ho hc) ly ?_)
 exact ai (hQ _ hk)
noncomputable abbrev Ea (h:Heap) (d:Addr) (n ep:Nat):Heap:=h.push {cls:=.type "dict_valueiterator",data:=.fields #[.ref d,.int 0 0,.int n 0,.int ep 0]}
noncomputable abbrev CQ (h:Heap) (d l2:Addr) (n ep:Nat):Heap:=(Ea h d n ep).push {cls:=.type "list_iterator",data:=.fields #[.ref l2,.int 0 0]}
noncomputable abbrev Gh (h:Heap) (d l2:Addr) (n ep:Nat):Heap:=(CQ h d l2 n ep).push {cls:=.type "tuple",data:=.seq #[.ref h.objs.size,.ref (Ea h d n ep).objs.size]}
noncomputable abbrev LF (h:Heap) (d l2:Addr) (n ep:Nat):Heap:=(Gh h d l2 n ep).push {cls:=.type "tuple",data:=.seq #[.none,.none]}
noncomputable abbrev QP (h:Heap) (d l2:Addr) (n ep:Nat):Heap:=(LF h d l2 n ep).push {cls:=.type "zip",data:=.fields #[.none,.bool false,.bool false,.ref (CQ h d l2 n ep).objs.size,.ref (Gh h d l2 n ep).objs.size]}
theorem Ae (v d l2:Addr) (kvs:List (Str×aa)) (ep:Nat) (ys:Array aa) :
  MeetsIn an w (aT.«zip.__new__» ⟨[.type "zip",.ref v,.ref l2],[]⟩) (fun _ R s=>s.heap.IsValuesView v d∧s.heap.DictAt (cJ an w) d kvs ep∧s.heap.IsList l2 ys ∧
   R (.ok (.ret (.ref (LF s.heap d l2 kvs.length ep).objs.size))) {s with heap:=QP s.heap d l2 kvs.length ep}) :=
 .of_wp fun A R s h=>by
  obtain ⟨hp,g,dr,tk,os⟩:=s;obtain ⟨hv,hm,u9,h⟩:=h
  have Os:=sub_zip
  have QQ:Heap.IsValuesView (qM ⟨hp,g,dr,tk,os⟩) v d:=hv
  have QC:ri (qM ⟨hp.push {cls:=.type "dict_valueiterator",data:=.fields #[.ref d,.int 0 0,.int kvs.length 0,.int ep 0]},g,dr,tk,os⟩) l2 ys:=ri.push u9 _
  wp_walk using qq QQ hm,ie QC
  exact (i12 _ rfl h)
theorem Gi {v d l2:Addr} {kvs:List (Str×aa)} {ep:Nat} {ys:Array aa} {Q:aa→af→Prop} (hv:s.heap.IsValuesView v d) (hm:s.heap.DictAt (cJ an w) d kvs ep) (u9:s.heap.IsList l2 ys)
  (h:Q (.ref (LF s.heap d l2 kvs.length ep).objs.size) {s with heap:=QP s.heap d l2 kvs.length ep}):ag (ah an w) A (call (.type "zip") [.ref v,.ref l2]) Q E s:=by
 refine callType_newIn F.called_zip (by decide) (F.typeCall_zip_2 _ _) (F.newCall_zip_2 _ _) (fun obj=>F.args_object_init_3 obj _ _) F.entry_zip_new
  (Ae v d l2 kvs ep ys) (FE hv hm u9 ?_)
 exact ⟨(i12 _ (bj _ rfl) rfl),h⟩
end
noncomputable def CR (p:Nat):AO:=.raw (p+2) fun α o=>o={cls:=.type "tuple",data:=.seq #[.ref (α p),.ref (α (p+1))]}
noncomputable def Cb:AO:=.raw 0 fun _ o=>∃ a b,o={cls:=.type "tuple",data:=.seq #[a,b]}
noncomputable def vb (t:Nat):AO:=.raw (t+2) fun α o=>o={cls:=.type "zip",dict:=none,data:=.fields #[.none,.bool false,.bool false,.ref (α t),.ref (α (t+1))],slots:=#[]}
section
variable {H:AH} {R:AV→AH→Prop}
theorem LH {v l k:Nat} {es:List (List Nat×Int)} {ep:Nat} {xs:List AV} (hv:H[v]?=some (ug l)) (hl:H[l]?=some (sa an w es ep)) (hk:H[k]?=some (.list xs))
  (r:R (.ref (H.length+4)) (H++[uQ l 0 es.length ep,.iter k 0,CR H.length,Cb,vb (H.length+2)])):FN an w am d (.type "zip") H [.ref v,.ref k] [] R:=by
 intro A L m α s Q E vs hr I V c
 refine V.se fun _ _ b V=>?_
 refine V.se fun _ _ b2 V=>?_
 refine V.t0 ?_
 refine b.sO fun _=>?_
 refine b2.sO fun _=>?_
 rename_i Ot sj
 have ui:=(rK hl)
 obtain ⟨kvs,BF,D⟩:=I.dictAt hl
 obtain ⟨_,_,o,g,hc,hd⟩:=I.obj v _ hv
 obtain ⟨us,n,g2,AM,VV⟩:=I.isList hk
 refine Gi (sN o g hc hd) D AM ?_
 obtain ⟨x1,I1,_⟩:=I.ux (b:=l+1) (p:=fun α o=>o.cls=.type "dict_valueiterator"∧o.data=.fields #[.ref (α l),.int (0:Nat) 0,.int (es.length:Nat) 0,.int ep 0]) (o:={cls:=.type "dict_valueiterator",data:=.fields #[.ref (α l),.int 0 0,.int kvs.length 0,.int ep 0]})
  ui (fun α dL h=>by funext o;simp only [h l (bB _)]) ⟨rfl,by rw [BF.1];rfl⟩ (fun o z=>by obtain ⟨c,dd,dt,sl⟩:=o;obtain ⟨_,z⟩:=z;cases z;rfl)
 have ww:put α H.length s.heap.objs.size k=α k:=r8 _ _ (ax sj)
 have l1:(H++[uQ l 0 es.length ep]).length=H.length+1:=by simp
 have Ze : Inv am L m (put α H.length s.heap.objs.size) (H++[uQ l 0 es.length ep]) (Ea s.heap (α l) kvs.length ep):=I1
 have x2:=tf (put α H.length s.heap.objs.size) (H.length+1) (Ea s.heap (α l) kvs.length ep) L {cls:=.type "list_iterator",data:=.fields #[.ref (α k),.int 0 0]}
 have I2:=Ze.push (o:={cls:=.type "list_iterator",data:=.fields #[.ref (α k),.int 0 0]}) (ao:=.iter k 0) ⟨by rw [l1];exact lR 2 sj,by
  rw [l1,r8 _ _ (show k≠H.length+1 by lia),ww]
  exact (sN _ (bj _ rfl) rfl rfl)⟩
 rw [l1] at I2
 have l2:(H++[uQ l 0 es.length ep]++[AO.iter k 0]).length=H.length+2:=by simp
 generalize vD:put (put α H.length s.heap.objs.size) (H.length+1) (Ea s.heap (α l) kvs.length ep).objs.size=sP at I2 x2
 have q0:sP H.length=s.heap.objs.size:=by rw [← vD,r8 _ _ (lL lO),nn]
 have q1:sP (H.length+1)=(Ea s.heap (α l) kvs.length ep).objs.size:=by rw [← vD,nn]
 have Zf : Inv am L m sP (H++[uQ l 0 es.length ep]++[AO.iter k 0]) (CQ s.heap (α l) (α k) kvs.length ep):=I2
 obtain ⟨x3,I3,_⟩:=Zf.ux (b:=H.length+2) (p:=fun α o=>o={cls:=.type "tuple",data:=.seq #[.ref (α H.length),.ref (α (H.length+1))]}) (o:={cls:=.type "tuple",data:=.seq #[.ref s.heap.objs.size,.ref (Ea s.heap (α l) kvs.length ep).objs.size]})
  (by rw [l2];exact ar _) (fun α dL h=>by funext o;simp only [h H.length (lR 1 lO),h (H.length+1) lO]) (by rw [q0,q1]) (fun o z=>by rw [z];rfl)
 have l3:(H++[uQ l 0 es.length ep]++[AO.iter k 0]++[CR H.length]).length=H.length+3:=by simp
 rw [l2] at x3 I3
 generalize Uo:put sP (H.length+2) (CQ s.heap (α l) (α k) kvs.length ep).objs.size=sQ at I3 x3
 have q2:sQ (H.length+2)=(CQ s.heap (α l) (α k) kvs.length ep).objs.size:=by rw [← Uo,nn]
 have Zg : Inv am L m sQ (H++[uQ l 0 es.length ep]++[AO.iter k 0]++[CR H.length]) (Gh s.heap (α l) (α k) kvs.length ep):=I3
 obtain ⟨x4,I4,_⟩:=Zg.ux (b:=0) (p:=fun _ o=>∃ a b,o={cls:=.type "tuple",data:=.seq #[a,b]}) (o:={cls:=.type "tuple",data:=.seq #[.none,.none]})
  (bK _) (fun α dL h=>rfl) (Km _ _ rfl) (fun o z=>by obtain ⟨_,_,rfl⟩:=z;rfl)
 have l4:(H++[uQ l 0 es.length ep]++[AO.iter k 0]++[CR H.length]++[Cb]).length=H.length+4:=by simp
 rw [l3] at x4 I4
 generalize QR:put sQ (H.length+3) (Gh s.heap (α l) (α k) kvs.length ep).objs.size=Dw at I4 x4
 have Up : Dw (H.length+2)=(CQ s.heap (α l) (α k) kvs.length ep).objs.size:=by rw [← QR,r8 _ _ (lL lO),q2]
 have q3:Dw (H.length+3)=(Gh s.heap (α l) (α k) kvs.length ep).objs.size:=by rw [← QR,nn]
 have Zh : Inv am L m Dw (H++[uQ l 0 es.length ep]++[AO.iter k 0]++[CR H.length]++[Cb]) (LF s.heap (α l) (α k) kvs.length ep):=I4
 obtain ⟨x5,I5,V5⟩:=Zh.ux (b:=H.length+4) (p:=fun α o=>o={cls:=.type "zip",dict:=none,data:=.fields #[.none,.bool false,.bool false,.ref (α (H.length+2)),.ref (α (H.length+2+1))],slots:=#[]})
  (o:={cls:=.type "zip",data:=.fields #[.none,.bool false,.bool false,.ref (CQ s.heap (α l) (α k) kvs.length ep).objs.size,.ref (Gh s.heap (α l) (α k) kvs.length ep).objs.size]})
  (by rw [l4];exact ar _) (fun α dL h=>by funext o;simp only [h (H.length+2) (lR 1 lO),h (H.length+2+1) lO]) (by rw [Up,q3]) (fun o z=>by rw [z];rfl)
 have eH:H++[uQ l 0 es.length ep]++[AO.iter k 0]++[CR H.length]++[Cb]++[vb (H.length+2)]=H++[uQ l 0 es.length ep,.iter k 0,CR H.length,Cb,vb (H.length+2)]:=by simp
 have Ou:Ext L α sP H.length (H.length+2) s.heap (CQ s.heap (α l) (α k) kvs.length ep):=Ext.trans (l1▸x1) x2
 have xx:=((Ext.trans Ou (l3▸x3)).trans (l4▸x4)).trans (l4▸x5)
 rw [l4] at V5 I5
 refine c _ _ _ _ {s with heap:=_} r (eH▸xx) (eH▸I5) (eH▸V5) ⟨rfl,id⟩
end
theorem Inv.many {L:Addr} {m:Str→Option aa} {α dL : Nat→Addr} {H H' : AH} {h h' : Heap} (I:Inv am L m α H h) (xt:Ext L α dL H.length H'.length h h') (QS:∀ o,h.get? L=some o→h'.get? L=some o) (one:H'.length≤H.length+1)
  (ch:∀ (k:Nat) (o:AO),H'[k]?=some o→(k < H.length∧H[k]?=some o∧∀ ob,h.get? (α k)=some ob→h'.get? (α k)=some ob)∨tP h' dL H'.length (dL k) o):Inv am L m dL H' h':=by
 have Zi:L < h.objs.size:=I.fr.ns.lt
 refine ⟨⟨I.fr.ns.at' QS,fun b o e=>?_,I.fr.above⟩,fun k hk=>?_,fun i j hi hj e=>?_,fun k o e=>?_⟩
 ·exact xt.keep b o (I.fr.keep b o e) (ax (aC (aH e) I.fr.above)) fun k hk=>ne_old (I.low k hk).1 e
 ·by_cases q:k < H.length
  ·rw [xt.al k q];exact I.low k q
  ·have h1:=xt.new k (bC q) hk
   refine ⟨?_,fun z=>?_⟩
   ·cases g:am.get? (dL k) with
    | none=>rfl
    | some o=>exact absurd (aH (I.fr.keep _ _ g)) (bG.mpr h1)
   ·rw [z] at h1
    exact absurd Zi (bG.mpr h1)
 ·have old:∀ k,k < H.length→dL k < h.objs.size:=fun k hk=>by rw [xt.al k hk];exact I.lt hk
  by_cases q1:i < H.length
  ·by_cases q2:j < H.length
   ·rw [xt.al i q1,xt.al j q2] at e
    exact I.inj i j q1 q2 e
   ·have h1:=xt.new j (bC q2) hj
    rw [← e] at h1
    exact absurd (old i q1) (bG.mpr h1)
  ·by_cases q2:j < H.length
   ·have h1:=xt.new i (bC q1) hi
    rw [e] at h1
    exact absurd (old j q2) (bG.mpr h1)
   ·exact lA (lD 1 (lT hi (lT one (lU 1 (lN q2))))) (lD 1 (lT hj (lT one (lU 1 (lN q1)))))
 ·rcases ch k o e with ⟨hk,e2,keep⟩ | r
  ·rw [xt.al k hk]
   exact (I.obj k o e2).ext xt I.kt keep
  ·exact r
section
variable {nm:List Str} {ρ:List ci} {H:AH} {R:AV→AH→Prop}
theorem meta_str:typeOf (.type "str")=pure (.type "type"):=by kernel_rfl
theorem LI:jV (.type "str") (.type "str")=pure true:=by rw [gR];kernel_rfl
theorem Ov {x:List Nat}:FN an w am d (.builtin "isinstance") H [.str x,.con (.type "str")] [] (Is (.bool true) H):=by
 intro A L m α s Q E vs hr I V k
 refine V.se fun _ _ a V=>?_
 refine V.se fun _ _ b V=>?_
 refine V.t0 ?_
 refine a.ub fun _=>?_
 refine b.Ce ?_
 exact call_isinstance_yes (s:=s) (Tx:="str") rfl meta_str LI (k _ _ α H s ⟨rfl,rfl⟩ Ext.refl I (.bool _) rM.refl)
theorem CS:FN an w am d (.type zl) H [] [] (Is (.ref H.length) (H++[A8])):=by
 intro A L m α s Q E vs hr I V k
 refine V.t0 ?_
 refine sC (Ls fun h' e1 e2 xZ=>?_)
 obtain ⟨x0,I0⟩:=I.vf e2 xZ
 have hl:(H++[A8]).length=H.length+1:=by simp
 have tO:s.heap.objs.size < h'.objs.size:=aH e1
 have r1:tP h' (put α H.length s.heap.objs.size) (H.length+1) s.heap.objs.size A8:=(sS (bK _) (fun _ _=>rfl) (i12 _ e1 rfl))
 have x1:Ext L α (put α H.length s.heap.objs.size) H.length (H++[A8]).length s.heap h':=by
  rw [hl]
  refine ⟨fun i hi=>r8 _ _ (ax hi),bX _,xZ,fun b ob g _ _=>e2 b ob g,fun i a b=>?_⟩
  have:i=H.length:=lA (lD 1 b) a
  subst this
  rw [nn]
  exact ar _
 refine k (.ref H.length) _ (put α H.length s.heap.objs.size) (H++[A8]) _ ⟨rfl,rfl⟩ x1 (I.many x1 (fun o g=>e2 _ _ g) (by rw [hl];exact ar _) fun i o e=>?_) ?_ ⟨rfl,id⟩
 ·rcases Nat.lt_or_ge i H.length with q | q
  ·rw [aR q] at e
   exact .inl (sS q e (fun ob g=>e2 _ _ g))
  ·have:i=H.length:=by
    have:=(rK e)
    rw [hl] at this
    exact lA (lD 1 this) q
   subst this
   rw [aK (ar _),eO] at e
   obtain rfl:=ay e
   refine .inr ?_
   rw [hl,nn]
   exact r1
 ·have:=pp.ref (h:=h') (α:=put α H.length s.heap.objs.size) (n:=(H++[A8]).length) (k:=H.length) (by rw [hl];exact lO)
  rwa [nn] at this
theorem CT {e:Expr} {RB:Bool→AH→Prop} (h:EX an w am d nm ρ H (fun be=>eval e be) (fun a H1=>∃ k,a=.ref k∧H1[k]?=some A8∧RB false H1))
  (he:∀ be,isTrue e be (eval e be)=(do let v ← eval e be;cj e.pos;eh [v] (truthy v)):=by intro _;rfl):EB an w am d nm ρ H (AL e) RB:=fun be A L m α s Q E hr S I D k=>by
 refine (?_:ag (ah an w) A (isTrue e be (eval e be)) Q E s)
 rw [he be]
 refine ab (h.then hr S I D fun a v rS H1 s1 h1 x1 I1 V1 Z1 S1 D1=>ab (dq (cH ?_)))
 obtain ⟨j,rfl,hj,r⟩:=h1
 refine V1.sO fun _=>?_
 obtain ⟨_,_,o,g,rfl⟩:=I1.obj j _ hj
 exact Gb g (k false rS H1 {s1 with toks:=s1.toks+1+1} r x1 I1 ⟨Z1.os,Z1.gens⟩)
theorem CU {x y:List Nat} (hz:x.length+y.length≤1000000) (r:R (.str (x++y)) H):y0 an w am d H (.str x) (.str y) (iY .Add) R:=by
 intro A L m α s Q E v u hr I V U k
 refine V.ub fun _=>?_
 refine U.ub fun _=>?_
 refine PyProof.Rows.iadd_str (fun t' tk=>?_) (by simp only [di,bZ];rw [cD];exact lR 15777216 hz)
 rw [wN]
 exact k _ _ α _ _ r Ext.refl I (.str _ _) ⟨rfl,id⟩
theorem AD (X:(KK P).In am):GL am "isinstance" (.builtin "isinstance"):=t7 X (by kernel_rfl) (by kernel_rfl)
theorem CV (X:(KK P).In am):GL am "deque" (.type zl):=su X (by kernel_rfl)
end
noncomputable abbrev Gj:List Str:=["instream","infile","posix","eof","commenters","wordchars","whitespace","whitespace_split","quotes","escape","escapedquotes","state","pushback","lineno","debug","token","filestack","source","_punctuation_chars"]
noncomputable def zc:List Nat:=(aB "abcdfeghijklmnopqrstuvwxyzABCDEFGHIJKLMNOPQRSTUVWXYZ0123456789_").cps.toList
noncomputable def MZ:List Nat:=(aB "ßàáâãäåæçèéêëìíîïðñòóôõöøùúûüýþÿÀÁÂÃÄÅÆÇÈÉÊËÌÍÎÏÐÑÒÓÔÕÖØÙÚÛÜÝÞ").cps.toList
noncomputable def vp (i q1 q2:Nat) (Dt:List Nat) (ws:Bool) (st:AV) (tok:List Nat):List (Str×AV) :=
 [(aB "instream",.ref i),("infile",.none),("posix",.bool true),("eof",.none),("commenters",.str Dt),("wordchars",.str (zc++MZ)),("whitespace",.str [32,9,13,10]),("whitespace_split",.bool ws),("quotes",.str [39,34]),("escape",.str [92]),("escapedquotes",.str [34]),("state",st),("pushback",.ref q1),("lineno",.int 1),("debug",.int 0),("token",.str tok),("filestack",.ref q2),("source",.none),("_punctuation_chars",.str [])]
theorem Fh:Gj.Nodup:=by decide +kernel
theorem Eb {i q1 q2:Nat} {Dt:List Nat} {ws:Bool} {st:AV} {tok:List Nat}:(vp i q1 q2 Dt ws st tok).map (·.1)=Gj:=rfl
theorem Ow {i q1 q2:Nat} {Dt:List Nat} {ws:Bool} {st:AV} {tok:List Nat} (n:Nat):(((vp i q1 q2 Dt ws st tok).take n).map (·.1)).Nodup:=by
 rw [List.map_take,Eb]
 exact Fh.sublist (mC _ _)
theorem zt {i q1 q2:Nat} {Dt:List Nat} {ws:Bool} {st:AV} {tok:List Nat}:((vp i q1 q2 Dt ws st tok).map (·.1)).Nodup:=Fh
theorem str_list (x:Str):x=⟨x.cps.toList.toArray⟩:=by cases x;simp
theorem CW {H G:AH} {dd:Nat} {o o' : AO} (h:dd < H.length):(H.set dd o++G).set dd o'=H.set dd o'++G:=by rw [cA _ _ (by simpa using h),bQ]
theorem FC.mono {f:aa} {H:AH} {args:List AV} {kw:List Str} {R R' : AV→AH→Prop} (h1:FC an w am d f H args kw R) (h:∀ a H',R a H'→R' a H'):FC an w am d f H args kw R' :=
 fun A L m α s Q E vs hr I V k=>h1 A L m α s Q E vs hr I V fun av x dL H' s' r=>k av x dL H' s' (h av H' r)
section
variable {nm:List Str} {ρ:List ci} {H G:AH}
theorem zd (name:Str):ij (KK P) 774 name=true:=by kernel_rfl
theorem CX:gW (KK P) 774=true:=by kernel_rfl
theorem yN:SB (KK P) 774:=⟨by kernel_rfl,by kernel_rfl,CX,zd _⟩
theorem sK (X:(KK P).In am) {k dd:Nat} {as as' : List (Str×AV)} {name:Str} {e:Expr} {p0 p1 pos:Pos} {R:AF→List ci→AH→Prop} (hk:H[k]?=some (.inst 774 dd)) (wj:dd < H.length) (sz:dd≠k) (i0:nm[0]?=some sD) (r0:ρ[0]?=some (.loc (some (.ref k))))
  (ht:eU (KK P) 774 name=some none) (nd:(as.map (·.1)).Nodup) (hz:as.length≤500)
  (hv:EX an w am d nm ρ (H.set dd (.ns as)++G) (fun be=>eval e be) (fun a H1=>∃ G',H1=H.set dd (.ns as)++G'∧yM name a as=as'∧R .next ρ (H.set dd (.ns as')++G')))
  (hs:∀ be,dw e (some (.Attribute (.Name sD p0) name p1)) pos.line be=pure false:=by intro _;rfl) :
  ST an w am d nm ρ (H.set dd (.ns as)++G) (fun be=>exec (.Assign [.Attribute (.Name sD p0) name p1] e pos) be) R:=by
 refine tm X (hv.mono ?_) hs
 rintro a H1 ⟨G',rfl,BQ,r⟩
 refine lm 0 i0 r0 ⟨k,dd,774,as,as',rfl,bv (by rw [aF sz];exact hk),bv (az wj),yN,ht,nd,hz,BQ,?_⟩
 rw [CW wj]
 exact r
noncomputable def Zj:List Stmt:=fBody (zg pw 30 0)
noncomputable abbrev WB:List Str:=[sD,"instream","infile","posix","punctuation_chars","t","isinstance","str","StringIO","_wall","deque","dict"]
theorem Ec (X:(KK P).In am) {k dd:Nat} {x:List Nat} (hk:H[k]?=some (.inst 774 dd)) (hd:H[dd]?=some (.ns [])):FC an w am (d+6) (.ref 698) H [.ref k,.str x,.bool true] ["posix"]
  (Is .none (H.set dd (.ns (vp (H.length+1) (H.length+2) (H.length+3) [35] false (.str [32]) []))++[.ns (u3 x 0),.inst 639 H.length,A8,A8])):=by
 refine (u2 X (o:=J2 tw P) (ps:=[sD,"instream","infile","posix","punctuation_chars"]) (nl:=["t"]) (ng:=["isinstance","str","StringIO","_wall","deque","dict"]) (full:=[.ref k,.str x,.none,.bool true,.bool false]) (body:=Zj) (by kernel_rfl) rfl (by kernel_rfl) rfl (by kernel_rfl) rfl
  (fun vs hv=>by refine G7 hv fun a b c=>?_;exact (i12 [a,b,.none,c,.bool false] (fun S=>by kernel_rfl) (fun _ _ _ V=>by cases V with | cons V1 V=>cases V with | cons V2 V=>cases V with | cons V3 V=>exact .cons V1 (.cons V2 (.cons .none (.cons V3 (.cons (.bool _) .nil))))))) ?_)
 have wj:=(rK hd)
 have sz:dd≠k:=fun e=>by rw [e,hk] at hd;exact nomatch hd
 have Uq:H=H.set dd (.ns []):=(set_same hd).symm
 have xv:∀ n,(((vp (H.length+1) (H.length+2) (H.length+3) [35] false (.str [32]) []).take n).map (·.1)).Nodup:=fun n=>Ow n
 have ui:∀ n,((vp (H.length+1) (H.length+2) (H.length+3) [35] false (.str [32]) []).take n).length≤500:=fun n=>aj (List.length_take_le' _ _) (by refine (?_:19≤500);decide)
 generalize zm:vp (H.length+1) (H.length+2) (H.length+3) [35] false (.str [32]) []=LA at xv ui
 refine (?_:ST an w am (d+5) WB [.loc (some (.ref k)),.loc (some (.str x)),.loc (some .none),.loc (some (.bool true)),.loc (some (.bool false)),.loc none,.rc,.rc,.rc,.rc,.rc,.rc] H _ _)
 refine bd (m0 (rN (io (ti 6 rfl rfl (AD X) (.mk nw (bi (lm 1 rfl rfl (bi (ti 7 rfl rfl (gl_str X) (cr (Ov.to (i12 true rfl ?_))))))))))))
 refine tX rfl ?_
 refine bd (t6 1 rfl (io (ti 8 rfl rfl (zb X) (.mk (tC X (by kernel_rfl)) (bi (lm 1 rfl rfl (cr (Oo X ((D8 X (k:=H.length+1) (dd:=H.length) (x:=x) (by simp) (by simp)).mono ?_)))))))))
 rintro a H' ⟨rfl,rfl⟩
 have e1:(H++[AO.ns [],.inst 639 H.length]).set H.length (.ns (u3 x 0))=H++[.ns (u3 x 0),.inst 639 H.length]:=by
  rw [bY _ _ (ar _),eO];rfl
 rw [e1]
 refine (sS rfl (by simp) (tW _ _ rfl ?_))
 refine ev ?_
 refine (?_:ST an w am (d+5) WB [.loc (some (.ref k)),.loc (some (.ref (H.length+1))),.loc (some .none),.loc (some (.bool true)),.loc (some (.bool false)),.loc none,.rc,.rc,.rc,.rc,.rc,.rc] (H++[.ns (u3 x 0),.inst 639 H.length]) _ _)
 have e2:H++[AO.ns (u3 x 0),.inst 639 H.length]=H.set dd (.ns [])++[.ns (u3 x 0),.inst 639 H.length]:=by rw [← Uq]
 rw [e2]
 refine bd (m0 (dl (lm 1 rfl rfl (ss (.mk true rfl ?_)))))
 refine tX rfl ?_
 refine bd (sK X hk wj sz rfl rfl (as':=LA.take 1) (by kernel_rfl) (by decide +kernel) (by decide) (lm 1 rfl rfl (sN _ rfl (by rw [← zm];kernel_rfl) ?_)))
 refine bd (sK X hk wj sz rfl rfl (as':=LA.take 2) (by kernel_rfl) (xv 1) (ui 1) (lm 2 rfl rfl (sN _ rfl (by rw [← zm];kernel_rfl) ?_)))
 refine ev ?_
 refine bd (sK X hk wj sz rfl rfl (as':=LA.take 3) (by kernel_rfl) (xv 2) (ui 2) (lm 3 rfl rfl (sN _ rfl (by rw [← zm];kernel_rfl) ?_)))
 refine bd (m0 (rN (lm 3 rfl rfl (.mk true rfl ?_))))
 refine tX rfl ?_
 refine bd (sK X hk wj sz rfl rfl (as':=LA.take 4) (by kernel_rfl) (xv 3) (ui 3) (ss (sN _ rfl (by rw [← zm];kernel_rfl) ?_)))
 refine ev ?_
 refine bd (sK X hk wj sz rfl rfl (as':=LA.take 5) (by kernel_rfl) (xv 4) (ui 4) (pu (l:=[35]) rfl (sN _ rfl (by rw [← zm];kernel_rfl) ?_)))
 refine bd (sK X hk wj sz rfl rfl (as':=LA.take 5++[(aB "wordchars",.str zc)]) (by kernel_rfl) (xv 5) (ui 5) (pu (l:=zc) (str_list _) (sN _ rfl (by rw [← zm];kernel_rfl) ?_)))
 have gk:∀ (as:List (Str×AV)) (G:AH),(H.set dd (.ns as)++G)[k]?=some (.inst 774 dd):=fun as G=>bv (by rw [aF sz];exact hk)
 have gd:∀ (as:List (Str×AV)) (G:AH),(H.set dd (.ns as)++G)[dd]?=some (.ns as):=fun as G=>bv (az wj)
 have h2:(LA.take 5++[(aB "wordchars",AV.str zc)])[2]?=some (aB "posix",.bool true):=by rw [← zm];rfl
 have h5:(LA.take 5++[(aB "wordchars",AV.str zc)])[5]?=some (aB "wordchars",.str zc):=by rw [← zm];rfl
 have Zk:((LA.take 5++[(aB "wordchars",AV.str zc)]).map (·.1)).Nodup:=by rw [← zm];exact (by decide +kernel:(Gj.take 6).Nodup)
 have WC:(LA.take 5++[(aB "wordchars",AV.str zc)]).length≤500:=by rw [← zm];exact (by decide:6≤500)
 refine bd (m0 (rN (uA (lm 0 rfl rfl (BP X (gk _ _) (gd _ _) h2 (zd _) CX (attr:=none) (by kernel_rfl) rfl (by intro x e;cases e) (i12 true rfl ?_))))))
 refine tX rfl ?_
 refine bd (z7 X (lm 0 rfl rfl (BP X (gk _ _) (gd _ _) h5 (zd _) CX (attr:=none) (by kernel_rfl) rfl (by intro x e;cases e) (pu (l:=MZ) (str_list _) (CU (by decide +kernel) ⟨k,dd,774,_,LA.take 6,rfl,gk _ _,gd _ _,yN,by kernel_rfl,Zk,WC,by rw [← zm];kernel_rfl,?_⟩)))))
 rw [CW wj]
 refine ev ?_
 refine bd (sK X hk wj sz rfl rfl (as':=LA.take 7) (by kernel_rfl) (xv 6) (ui 6) (pu (l:=[32,9,13,10]) rfl (sN _ rfl (by rw [← zm];kernel_rfl) ?_)))
 refine bd (sK X hk wj sz rfl rfl (as':=LA.take 8) (by kernel_rfl) (xv 7) (ui 7) (wP (sN _ rfl (by rw [← zm];kernel_rfl) ?_)))
 refine bd (sK X hk wj sz rfl rfl (as':=LA.take 9) (by kernel_rfl) (xv 8) (ui 8) (pu (l:=[39,34]) rfl (sN _ rfl (by rw [← zm];kernel_rfl) ?_)))
 refine bd (sK X hk wj sz rfl rfl (as':=LA.take 10) (by kernel_rfl) (xv 9) (ui 9) (pu (l:=[92]) rfl (sN _ rfl (by rw [← zm];kernel_rfl) ?_)))
 refine bd (sK X hk wj sz rfl rfl (as':=LA.take 11) (by kernel_rfl) (xv 10) (ui 10) (pu (l:=[34]) rfl (sN _ rfl (by rw [← zm];kernel_rfl) ?_)))
 refine bd (sK X hk wj sz rfl rfl (as':=LA.take 12) (by kernel_rfl) (xv 11) (ui 11) (pu (l:=[32]) rfl (sN _ rfl (by rw [← zm];kernel_rfl) ?_)))
 have zh:(H.set dd (.ns (LA.take 12))++[AO.ns (u3 x 0),.inst 639 H.length]).length=H.length+2:=by simp
 refine bd (sK X hk wj sz rfl rfl (as':=LA.take 13) (by kernel_rfl) (xv 12) (ui 12) (Cm (ti 10 rfl rfl (CV X) (.mk sJ (CS.to (sN _ (ak _ _ _) (by rw [zh,← zm];kernel_rfl) ?_))))))
 refine bd (sK X hk wj sz rfl rfl (as':=LA.take 14) (by kernel_rfl) (xv 13) (ui 13) (f8 (sN _ rfl (by rw [← zm];kernel_rfl) ?_)))
 refine bd (sK X hk wj sz rfl rfl (as':=LA.take 15) (by kernel_rfl) (xv 14) (ui 14) (f8 (sN _ rfl (by rw [← zm];kernel_rfl) ?_)))
 refine bd (sK X hk wj sz rfl rfl (as':=LA.take 16) (by kernel_rfl) (xv 15) (ui 15) (pu (l:=[]) rfl (sN _ rfl (by rw [← zm];kernel_rfl) ?_)))
 have G7:(H.set dd (.ns (LA.take 16))++([AO.ns (u3 x 0),.inst 639 H.length]++[A8])).length=H.length+3:=by simp
 refine bd (sK X hk wj sz rfl rfl (as':=LA.take 17) (by kernel_rfl) (xv 16) (ui 16) (Cm (ti 10 rfl rfl (CV X) (sN _ rfl sJ (CS.to (sN _ (ak _ _ _) (by rw [G7,← zm];kernel_rfl) ?_))))))
 refine bd (sK X hk wj sz rfl rfl (as':=LA.take 18) (by kernel_rfl) (xv 17) (ui 17) (ss (sN _ rfl (by rw [← zm];kernel_rfl) ?_)))
 refine bd (m0 (ud (rN (lm 4 rfl rfl (.mk false rfl (.f ?_))))))
 refine tX (by decide) ?_
 refine bd (t6 4 rfl (pu (l:=[]) rfl (.mk rfl ?_)))
 refine ev ?_
 refine bd (sK X hk wj sz rfl rfl (as':=LA.take 19) (by kernel_rfl) (xv 18) (ui 18) (lm 4 rfl rfl (sN _ rfl (by rw [← zm];kernel_rfl) ?_)))
 refine bd (m0 (rN (lm 4 rfl rfl (i12 false rfl ?_))))
 refine so (by decide) ?_
 refine ev ?_
 refine ev ⟨rfl,?_⟩
 have:LA.take 19=LA:=by rw [← zm];rfl
 rw [this]
 simp only [ak]
 rfl
end
section
set_option backward.match.sparseCases false
section
variable {nm:List Str} {ρ:List ci} {H:AH} {R:AV→AH→Prop}
set_option tactic.hygienic true in
theorem BY {x a b:List Nat} (r:R (.bool (a == x || b == x)) H):y0 an w am d H (.str x) (.tup [.str a,.str b]) (dQ .In) R:=by
 intro A L m α s Q E v u hr I V U k
 refine V.ub fun _=>?_
 cases U with | tup g1 n1 U =>
 cases U with | cons a1 U =>
 cases U with | cons b1 U =>
 cases U
 cases a1
 cases b1
 rename_i t ad e ta tb
 refine SeqAt.in_tupleAt (fun y=>match y with | .str z _=>z == (⟨x.toArray⟩ : Str) | _=>false) (sN _ g1 rfl (Au _ rfl)) (fun y hy=>?_) ?_
 ·simp only [List.mem_toArray,aA,bH,or_false] at hy
  rcases hy with rfl | rfl
  ·exact rF _ _ _ _
  ·exact rF _ _ _ _
 ·have:([fX ⟨a.toArray⟩ ta,.str ⟨b.toArray⟩ tb].toArray.any fun y=>match y with | .str z _=>z == (⟨x.toArray⟩ : Str) | _=>false)=(a == x || b == x):=by
   simp [str_beq]
  rw [this]
  exact k _ _ α H s r Ext.refl I (.bool _) rM.refl
structure tv (H:AH) (k dd i ds q1 q2:Nat):Prop where
 hk:H[k]?=some (.inst 774 dd)
 hd:dd < H.length
 hi:H[i]?=some (.inst 639 ds)
 hs:ds < H.length
 h1:H[q1]?=some A8
 h2:H[q2]?=some A8
 ne:[k,dd,i,ds,q1,q2].Nodup
noncomputable def HS (H:AH) (dd i ds q1 q2:Nat) (rH:List Nat) (st:AV) (tok:List Nat) (p:Nat):AH:=(H.set dd (.ns (vp i q1 q2 [] true st tok))).set ds (.ns (u3 rH p))
section
variable {k dd i ds q1 q2:Nat} {rH:List Nat} {st:AV} {tok:List Nat} {p:Nat} (hL:tv H k dd i ds q1 q2)
include hL
theorem yO:(HS H dd i ds q1 q2 rH st tok p)[k]?=some (.inst 774 dd):=by
 have:=Pd hL.ne
 unfold HS
 rw [aF (aq this.1.2.2.1),aF (aq this.1.1)]
 exact hL.hk
theorem QT:(HS H dd i ds q1 q2 rH st tok p)[i]?=some (.inst 639 ds):=by
 have:=Pd hL.ne
 unfold HS
 rw [aF (aq this.2.2.1.1),aF (this.2.1.1)]
 exact hL.hi
theorem QU:(HS H dd i ds q1 q2 rH st tok p)[q1]?=some A8:=by
 have:=Pd hL.ne
 unfold HS
 rw [aF (this.2.2.2.1.1),aF (this.2.1.2.2.1)]
 exact hL.h1
theorem QV:(HS H dd i ds q1 q2 rH st tok p)[q2]?=some A8:=by
 have:=Pd hL.ne
 unfold HS
 rw [aF (this.2.2.2.1.2),aF (this.2.1.2.2.2)]
 exact hL.h2
theorem zn:(HS H dd i ds q1 q2 rH st tok p)[dd]?=some (.ns (vp i q1 q2 [] true st tok)):=by
 have:=Pd hL.ne
 unfold HS
 rw [aF (aq this.2.1.2.1)]
 exact az hL.hd
theorem QW:(HS H dd i ds q1 q2 rH st tok p)[ds]?=some (.ns (u3 rH p)):=by
 unfold HS
 exact az (by simpa using hL.hs)
theorem Fi (st' : AV) (tok' : List Nat):(HS H dd i ds q1 q2 rH st tok p).set dd (.ns (vp i q1 q2 [] true st' tok'))=HS H dd i ds q1 q2 rH st' tok' p:=by
 have:=Pd hL.ne
 unfold HS
 rw [nD _ _ (aq this.2.1.2.1),bQ]
theorem LJ (p' : Nat):(HS H dd i ds q1 q2 rH st tok p).set ds (.ns (u3 rH p'))=HS H dd i ds q1 q2 rH st tok p':=by
 unfold HS
 rw [bQ]
end
theorem Ur (X:(KK P).In am) {k dd j:Nat} {as:List (Str×AV)} {name:Str} {av:AV} (hk:H[k]?=some (.inst 774 dd)) (hd:H[dd]?=some (.ns as)) (hi:as[j]?=some (name,av)) (ha:bf (KK P) (.ref 774) name=some none) (hv:∀ x,av=.con x→g9 x=true) (r:R av H):FG an w am d H (.ref k) (fun v=>fG v name true) R :=
 BP X hk hd hi (zd _) CX ha rfl hv r
theorem rP:bf (KK P) (.ref 774) "state"=some none:=by kernel_rfl
theorem yh:bf (KK P) (.ref 774) "token"=some none:=by kernel_rfl
theorem u4:bf (KK P) (.ref 774) "posix"=some none:=by kernel_rfl
theorem uq:bf (KK P) (.ref 774) "quotes"=some none:=by kernel_rfl
theorem vI:bf (KK P) (.ref 774) "escape"=some none:=by kernel_rfl
theorem ID:bf (KK P) (.ref 774) "whitespace"=some none:=by kernel_rfl
theorem IE:bf (KK P) (.ref 774) "commenters"=some none:=by kernel_rfl
theorem QX:bf (KK P) (.ref 774) "wordchars"=some none:=by kernel_rfl
theorem wD:bf (KK P) (.ref 774) "debug"=some none:=by kernel_rfl
theorem Ox:bf (KK P) (.ref 774) "instream"=some none:=by kernel_rfl
theorem QY:bf (KK P) (.ref 774) "pushback"=some none:=by kernel_rfl
theorem QZ:bf (KK P) (.ref 774) "filestack"=some none:=by kernel_rfl
theorem Oy:bf (KK P) (.ref 774) "source"=some none:=by kernel_rfl
theorem Af:bf (KK P) (.ref 774) "eof"=some none:=by kernel_rfl
theorem Oz:bf (KK P) (.ref 774) "_punctuation_chars"=some none:=by kernel_rfl
theorem wE:eU (KK P) 774 "state"=some none:=by kernel_rfl
theorem yi:eU (KK P) 774 "token"=some none:=by kernel_rfl
noncomputable def Zl:List Stmt:=fBody (zg pw 30 1)
theorem Q0 (X:(KK P).In am) {k dd:Nat} {as:List (Str×AV)} (hk:H[k]?=some (.inst 774 dd)) (hd:H[dd]?=some (.ns as)) (Us:as[18]?=some (aB "_punctuation_chars",.str [])):FC an w am (d+1) (.ref 705) H [.ref k] [] (Is (.str []) H):=by
 refine u2 X (o:=J4 tw P) (ps:=[sD]) (nl:=[]) (ng:=[]) (full:=[.ref k]) (body:=Zl) (by kernel_rfl) rfl (by kernel_rfl) rfl (by kernel_rfl) rfl
  (fun vs hv=>by refine Bt hv fun a=>?_;exact (i12 [a] (fun S=>by kernel_rfl) (fun _ _ _ V=>V))) ?_
 refine (?_:ST an w am d [sD] [.loc (some (.ref k))] H _ _)
 exact bd (sF (uA (lm 0 rfl rfl (Ur X hk hd Us Oz (by intro x e;cases e) ⟨rfl,rfl⟩))))
theorem FG.to {a x:AV} {H' : AH} {T:aa→Sem aa} {R' : AV→AH→Prop} (h1:FG an w am d H a T (Is x H')) (h:R' x H'):FG an w am d H a T R' :=
 fun A L m α s Q E v hr I V k=>h1 A L m α s Q E v hr I V fun av y dL H2 s' r=>k av y dL H2 s' (r.1▸r.2▸h)
theorem M0 (X:(KK P).In am) {k dd:Nat} {as:List (Str×AV)} (hk:H[k]?=some (.inst 774 dd)) (hd:H[dd]?=some (.ns as)) (Us:as[18]?=some (aB "_punctuation_chars",.str [])) (r:R (.str []) H):FG an w am (d+2) H (.ref k) (fun v=>fG v "punctuation_chars" true) R :=
 (Li X hk hd (zd _) CX (p:=706) (fget:=705) (rest:=[.none,.none,.none,.str (Mine.X 431) 1184,.bool false]) (R:=Is (.str []) H) (by kernel_rfl) (by kernel_rfl) (by kernel_rfl) (by kernel_rfl) (Q0 X hk hd Us) (fun a H' x e q=>by subst q;cases e.1)).to r
end
end
section
variable {nm:List Str} {ρ:List ci} {H:AH}
variable {k dd i ds q1 q2:Nat} {rH:List Nat} {st:AV} {tok:List Nat} {p:Nat}
theorem tM (X:(KK P).In am) (hL:tv H k dd i ds q1 q2) {R:AV→AH→Prop} {name:Str} {av:AV} {j:Nat} {p0 p1:Pos} (i0:nm[0]?=some sD) (r0:ρ[0]?=some (.loc (some (.ref k)))) (hi:(vp i q1 q2 [] true st tok)[j]?=some (name,av)) (ha:bf (KK P) (.ref 774) name=some none) (hv:∀ x,av≠.con x)
  (r:R av (HS H dd i ds q1 q2 rH st tok p)):EX an w am d nm ρ (HS H dd i ds q1 q2 rH st tok p) (fun be=>eval (.Attribute (.Name sD p0) name p1) be) R :=
 uA (lm 0 i0 r0 (Ur X (yO hL) (zn hL) hi ha (fun x e=>absurd e (hv x)) r))
theorem M1 (X:(KK P).In am) (hL:tv H k dd i ds q1 q2) {R:AF→List ci→AH→Prop} {name:Str} {st' : AV} {tok' : List Nat} {e:Expr} {p0 p1 pos:Pos} (i0:nm[0]?=some sD) (r0:ρ[0]?=some (.loc (some (.ref k)))) (ht:eU (KK P) 774 name=some none)
  (hv:EX an w am d nm ρ (HS H dd i ds q1 q2 rH st tok p) (fun be=>eval e be) (fun a H1=>H1=HS H dd i ds q1 q2 rH st tok p∧yM name a (vp i q1 q2 [] true st tok)=vp i q1 q2 [] true st' tok'∧R .next ρ (HS H dd i ds q1 q2 rH st' tok' p)))
  (hs:∀ be,dw e (some (.Attribute (.Name sD p0) name p1)) pos.line be=pure false:=by intro _;rfl) :
  ST an w am d nm ρ (HS H dd i ds q1 q2 rH st tok p) (fun be=>exec (.Assign [.Attribute (.Name sD p0) name p1] e pos) be) R:=by
 refine tm X (hv.mono ?_) hs
 rintro a H1 ⟨rfl,BQ,r⟩
 refine lm 0 i0 r0 ⟨k,dd,774,_,_,rfl,yO hL,zn hL,yN,ht,zt,by refine (?_:19≤500);decide,BQ,?_⟩
 rw [Fi hL]
 exact r
noncomputable def M2:List Stmt:=fBody (zg pw 30 6)
noncomputable def Ed:List Stmt:=wB (nb M2 2)
noncomputable abbrev xg:List Str:=[sD,"quoted","escapedstate","nextchar","result","print","ValueError","repr"]
noncomputable abbrev w7 (k:Nat) (q:Bool) (nc:Option AV):List ci:=[.loc (some (.ref k)),.loc (some (.bool q)),.loc (some (.str [32])),.loc nc,.loc none,.rc,.rc,.rc]
theorem LK (X:(KK P).In am) (hL:tv H k dd i ds q1 q2) {q:Bool} {nc:Option AV} {R:AF→List ci→AH→Prop} (hz:rH.length≤1000) (hp:p≤1000) (wk:∀ c∈rH,c≠10)
  (h1:∀ c,rH[p]?=some c→ST an w am (d+2) xg (w7 k q (some (.str [c]))) (HS H dd i ds q1 q2 rH st tok (p+1)) (fun be=>aG [nb Ed 3] be) R)
  (h2:rH[p]?=none→ST an w am (d+2) xg (w7 k q (some (.str []))) (HS H dd i ds q1 q2 rH st tok p) (fun be=>aG [nb Ed 3] be) R) :
  ST an w am (d+2) xg (w7 k q nc) (HS H dd i ds q1 q2 rH st tok p) (fun be=>aG Ed be) R:=by
 refine bd (m0 (r9 (rN (uA (lm 0 rfl rfl (M0 X (yO hL) (zn hL) rfl (i12 false rfl ?_)))))))
 refine so (by decide) ?_;refine so (by decide) ?_
 have tail:∀ (c:List Nat) (p' : Nat),c≠[10]→ST an w am (d+2) xg (w7 k q (some (.str c))) (HS H dd i ds q1 q2 rH st tok p') (fun be=>aG [nb Ed 3] be) R→ST an w am (d+2) xg (w7 k q (some (.str c))) (HS H dd i ds q1 q2 rH st tok p') (fun be=>aG (Ed.drop 1) be) R:=by
  intro c p' hc hh
  refine bd (m0 (dl (lm 3 rfl rfl (pu (l:=[10]) rfl (.mk false ?_ ?_)))))
  ·refine (?_:some (c == [10])=_)
   rw [beq_false_of_ne hc]
  refine so (by decide) ?_
  refine ev ?_
  refine bd (m0 (dl (tM X hL rfl rfl (j:=14) rfl wD (by intro x e;cases e) (f8 (.mk false rfl ?_)))))
  refine so (by decide) ?_
  refine ev ?_
  exact hh
 refine bd (t6 3 rfl (CI (tM X hL rfl rfl (j:=0) rfl Ox (by intro x e;cases e) (sN _ (w5 X (QT hL) (QW hL) (CM _) (f:=585) (by kernel_rfl) (by kernel_rfl) (by refine (?_:_∉[LC,CL,Gg]);decide +kernel)) (tC X (by kernel_rfl)) (bi (f8 (cr (LD X (QT hL) (QW hL) hz hp (fun c hc=>(tW _ _ rfl ?_)) (fun hc=>(tW _ _ rfl ?_))))))))))
 ·refine ev ?_
  rw [LJ hL]
  refine tail [c] (p+1) (fun e=>wk c (bx hc) (by cases e;rfl)) (h1 c hc)
 ·refine ev ?_
  exact tail [] p (by decide) (h2 hc)
end
section
variable {H:AH}
variable {k dd i ds q1 q2:Nat} {rH:List Nat} {st:AV} {tok:List Nat} {p:Nat} {R:AF→List ci→AH→Prop} {q:Bool}
theorem Ut (X:(KK P).In am) (hL:tv H k dd i ds q1 q2) (r:R .brk (w7 k q (some (.str []))) (HS H dd i ds q1 q2 rH .none [] p)) :
  ST an w am (d+2) xg (w7 k q (some (.str []))) (HS H dd i ds q1 q2 rH .none tok p) (fun be=>aG [nb Ed 3] be) R:=by
 refine bd (m0 (dl (tM X hL rfl rfl (j:=11) rfl rP (by intro x e;cases e) (ss (.mk true rfl ?_)))))
 refine tX rfl ?_
 refine bd (M1 (st':=.none) (tok':=[]) X hL rfl rfl yi (pu (l:=[]) rfl (sS rfl (by kernel_rfl) ?_)))
 exact bd (xI r)
theorem Q1 (X:(KK P).In am) (hL:tv H k dd i ds q1 q2) (r:R .next (w7 k q (some (.str [39]))) (HS H dd i ds q1 q2 rH (.str [39]) tok p)) :
  ST an w am (d+2) xg (w7 k q (some (.str [39]))) (HS H dd i ds q1 q2 rH (.str [32]) tok p) (fun be=>aG [nb Ed 3] be) R:=by
 refine bd (m0 (dl (tM X hL rfl rfl (j:=11) rfl rP (by intro x e;cases e) (ss (.mk false rfl ?_)))))
 refine so (by decide) ?_
 refine bd (m0 (dl (tM X hL rfl rfl (j:=11) rfl rP (by intro x e;cases e) (pu (l:=[32]) rfl (.mk true rfl ?_)))))
 refine tX rfl ?_
 refine bd (m0 (ud (rN (lm 3 rfl rfl (.mk true rfl (.t ?_))))))
 refine so (by decide) ?_
 refine bd (m0 (dl (lm 3 rfl rfl (tM X hL rfl rfl (j:=6) rfl ID (by intro x e;cases e) (.mk false (by kernel_rfl) ?_)))))
 refine so (by decide) ?_
 refine bd (m0 (dl (lm 3 rfl rfl (tM X hL rfl rfl (j:=4) rfl IE (by intro x e;cases e) (.mk false (by kernel_rfl) ?_)))))
 refine so (by decide) ?_
 refine bd (m0 (r9 (rN (tM X hL rfl rfl (j:=2) rfl u4 (by intro x e;cases e) (.mk true rfl ?_)))))
 refine tX rfl ?_
 refine r9 (dl (lm 3 rfl rfl (tM X hL rfl rfl (j:=9) rfl vI (by intro x e;cases e) (.mk false (by kernel_rfl) ?_))))
 refine so (by decide) ?_;refine so (by decide) ?_
 refine bd (m0 (dl (lm 3 rfl rfl (tM X hL rfl rfl (j:=5) rfl QX (by intro x e;cases e) (.mk false (by kernel_rfl) ?_)))))
 refine so (by decide) ?_
 refine bd (m0 (dl (lm 3 rfl rfl (uA (lm 0 rfl rfl (M0 X (yO hL) (zn hL) rfl (i12 false (by kernel_rfl) ?_)))))))
 refine so (by decide) ?_
 refine bd (m0 (dl (lm 3 rfl rfl (tM X hL rfl rfl (j:=8) rfl uq (by intro x e;cases e) (.mk true (by kernel_rfl) ?_)))))
 refine tX rfl ?_
 refine bd (m0 (ud (rN (tM X hL rfl rfl (j:=2) rfl u4 (by intro x e;cases e) (.mk true rfl (.t ?_))))))
 refine so (by decide) ?_
 refine ev ?_
 refine bd (M1 (st':=.str [39]) (tok':=tok) X hL rfl rfl wE (lm 3 rfl rfl (sS rfl (by kernel_rfl) ?_)))
 repeat refine ev ?_
 exact r
theorem IF (X:(KK P).In am) (hL:tv H k dd i ds q1 q2) {x:Nat} (hx:x=39∨x=34) (r:R .next (w7 k true (some (.str [x]))) (HS H dd i ds q1 q2 rH (.str [97]) tok p)) :
  ST an w am (d+2) xg (w7 k q (some (.str [x]))) (HS H dd i ds q1 q2 rH (.str [x]) tok p) (fun be=>aG [nb Ed 3] be) R:=by
 have e1:vd .Eq (.str [x]) (.str [32])=some false:=by rcases hx with rfl | rfl <;> rfl
 have e2:vd .In (.str [x]) (.str [39,34])=some true:=by rcases hx with rfl | rfl <;> kernel_rfl
 have e3:vd .Eq (.str [x]) (.str [x])=some true:=by rcases hx with rfl | rfl <;> rfl
 refine bd (m0 (dl (tM X hL rfl rfl (j:=11) rfl rP (by intro x e;cases e) (ss (.mk false rfl ?_)))))
 refine so (by decide) ?_
 refine bd (m0 (dl (tM X hL rfl rfl (j:=11) rfl rP (by intro x e;cases e) (pu (l:=[32]) rfl (.mk false e1 ?_)))))
 refine so (by decide) ?_
 refine bd (m0 (dl (tM X hL rfl rfl (j:=11) rfl rP (by intro x e;cases e) (tM X hL rfl rfl (j:=8) rfl uq (by intro x e;cases e) (.mk true e2 ?_)))))
 refine tX rfl ?_
 refine bd (t6 1 rfl (wP (.mk rfl ?_)))
 refine (?_:ST an w am (d+2) xg (w7 k true (some (.str [x]))) _ _ _)
 refine bd (m0 (ud (rN (lm 3 rfl rfl (.mk true rfl (.t ?_))))))
 refine so (by decide) ?_
 refine ev ?_
 refine bd (m0 (dl (lm 3 rfl rfl (tM X hL rfl rfl (j:=11) rfl rP (by intro x e;cases e) (.mk true e3 ?_)))))
 refine tX rfl ?_
 refine bd (m0 (ud (rN (tM X hL rfl rfl (j:=2) rfl u4 (by intro x e;cases e) (.mk true rfl (.t ?_))))))
 refine so (by decide) ?_
 refine bd (M1 (st':=.str [97]) (tok':=tok) X hL rfl rfl wE (pu (l:=[97]) rfl (sS rfl (by kernel_rfl) ?_)))
 repeat refine ev ?_
 exact r
theorem M3 (X:(KK P).In am) (hL:tv H k dd i ds q1 q2) {x c:Nat} (hx:x=39∨x=34) (hc:c=39∨c=34∨c=32∨c=35) (sz:c≠x) (hz:tok.length≤1000) (r:R .next (w7 k true (some (.str [c]))) (HS H dd i ds q1 q2 rH (.str [x]) (tok++[c]) p)) :
  ST an w am (d+2) xg (w7 k q (some (.str [c]))) (HS H dd i ds q1 q2 rH (.str [x]) tok p) (fun be=>aG [nb Ed 3] be) R:=by
 have e1:vd .Eq (.str [x]) (.str [32])=some false:=by rcases hx with rfl | rfl <;> rfl
 have e2:vd .In (.str [x]) (.str [39,34])=some true:=by rcases hx with rfl | rfl <;> kernel_rfl
 have e3:vd .Eq (.str [c]) (.str [x])=some false:=by
  refine (?_:some ([c] == [x])=_)
  rw [beq_false_of_ne (by intro e;cases e;exact sz rfl)]
 have e4:vd .In (.str [c]) (.str [92])=some false:=by rcases hc with rfl | rfl | rfl | rfl <;> kernel_rfl
 refine bd (m0 (dl (tM X hL rfl rfl (j:=11) rfl rP (by intro x e;cases e) (ss (.mk false rfl ?_)))))
 refine so (by decide) ?_
 refine bd (m0 (dl (tM X hL rfl rfl (j:=11) rfl rP (by intro x e;cases e) (pu (l:=[32]) rfl (.mk false e1 ?_)))))
 refine so (by decide) ?_
 refine bd (m0 (dl (tM X hL rfl rfl (j:=11) rfl rP (by intro x e;cases e) (tM X hL rfl rfl (j:=8) rfl uq (by intro x e;cases e) (.mk true e2 ?_)))))
 refine tX rfl ?_
 refine bd (t6 1 rfl (wP (.mk rfl ?_)))
 refine (?_:ST an w am (d+2) xg (w7 k true (some (.str [c]))) _ _ _)
 refine bd (m0 (ud (rN (lm 3 rfl rfl (.mk true rfl (.t ?_))))))
 refine so (by decide) ?_
 refine ev ?_
 refine bd (m0 (dl (lm 3 rfl rfl (tM X hL rfl rfl (j:=11) rfl rP (by intro x e;cases e) (.mk false e3 ?_)))))
 refine so (by decide) ?_
 refine bd (m0 (r9 (rN (tM X hL rfl rfl (j:=2) rfl u4 (by intro x e;cases e) (.mk true rfl ?_)))))
 refine tX rfl ?_
 refine r9 (dl (lm 3 rfl rfl (tM X hL rfl rfl (j:=9) rfl vI (by intro x e;cases e) (.mk false e4 ?_))))
 refine so (by decide) ?_;refine so (by decide) ?_
 refine bd (z7 X (lm 0 rfl rfl (Ur X (yO hL) (zn hL) (j:=15) rfl yh (by intro x e;cases e) (lm 3 rfl rfl (CU (by simp;exact lR 998999 hz) ⟨k,dd,774,_,_,rfl,yO hL,zn hL,yN,yi,zt,by refine (?_:19≤500);decide,(by kernel_rfl:yM _ _ _=vp i q1 q2 [] true (.str [x]) (tok++[c])),?_⟩)))))
 rw [Fi hL]
 repeat refine ev ?_
 exact r
theorem Q2 (X:(KK P).In am) (hL:tv H k dd i ds q1 q2) (r:R .brk (w7 k q (some (.str []))) (HS H dd i ds q1 q2 rH .none tok p)) :
  ST an w am (d+2) xg (w7 k q (some (.str []))) (HS H dd i ds q1 q2 rH (.str [97]) tok p) (fun be=>aG [nb Ed 3] be) R:=by
 refine bd (m0 (dl (tM X hL rfl rfl (j:=11) rfl rP (by intro x e;cases e) (ss (.mk false rfl ?_)))))
 refine so (by decide) ?_
 refine bd (m0 (dl (tM X hL rfl rfl (j:=11) rfl rP (by intro x e;cases e) (pu (l:=[32]) rfl (.mk false rfl ?_)))))
 refine so (by decide) ?_
 refine bd (m0 (dl (tM X hL rfl rfl (j:=11) rfl rP (by intro x e;cases e) (tM X hL rfl rfl (j:=8) rfl uq (by intro x e;cases e) (.mk false (by kernel_rfl) ?_)))))
 refine so (by decide) ?_
 refine bd (m0 (dl (tM X hL rfl rfl (j:=11) rfl rP (by intro x e;cases e) (tM X hL rfl rfl (j:=9) rfl vI (by intro x e;cases e) (.mk false (by kernel_rfl) ?_)))))
 refine so (by decide) ?_
 refine bd (m0 (uj (tM X hL rfl rfl (j:=11) rfl rP (by intro x e;cases e) (vn (bi (pu (l:=[97]) rfl (bi (pu (l:=[99]) rfl (cr ⟨by decide,BY (i12 true rfl ?_)⟩)))))))))
 refine tX rfl ?_
 refine bd (m0 (ud (rN (lm 3 rfl rfl (.mk false rfl (.f ?_))))))
 refine tX (by decide) ?_
 refine bd (M1 (st':=.none) (tok':=tok) X hL rfl rfl wE (ss (sS rfl (by kernel_rfl) ?_)))
 exact bd (xI r)
theorem Q3 (X:(KK P).In am) (hL:tv H k dd i ds q1 q2) (hz:tok.length≤1000) (hn:tok≠[]) (r:R .brk (w7 k q (some (.str [32]))) (HS H dd i ds q1 q2 rH (.str [32]) tok p)) :
  ST an w am (d+2) xg (w7 k q (some (.str [32]))) (HS H dd i ds q1 q2 rH (.str [97]) tok p) (fun be=>aG [nb Ed 3] be) R:=by
 refine bd (m0 (dl (tM X hL rfl rfl (j:=11) rfl rP (by intro x e;cases e) (ss (.mk false rfl ?_)))))
 refine so (by decide) ?_
 refine bd (m0 (dl (tM X hL rfl rfl (j:=11) rfl rP (by intro x e;cases e) (pu (l:=[32]) rfl (.mk false rfl ?_)))))
 refine so (by decide) ?_
 refine bd (m0 (dl (tM X hL rfl rfl (j:=11) rfl rP (by intro x e;cases e) (tM X hL rfl rfl (j:=8) rfl uq (by intro x e;cases e) (.mk false (by kernel_rfl) ?_)))))
 refine so (by decide) ?_
 refine bd (m0 (dl (tM X hL rfl rfl (j:=11) rfl rP (by intro x e;cases e) (tM X hL rfl rfl (j:=9) rfl vI (by intro x e;cases e) (.mk false (by kernel_rfl) ?_)))))
 refine so (by decide) ?_
 refine bd (m0 (uj (tM X hL rfl rfl (j:=11) rfl rP (by intro x e;cases e) (vn (bi (pu (l:=[97]) rfl (bi (pu (l:=[99]) rfl (cr ⟨by decide,BY (i12 true rfl ?_)⟩)))))))))
 refine tX rfl ?_
 refine bd (m0 (ud (rN (lm 3 rfl rfl (.mk true rfl (.t ?_))))))
 refine so (by decide) ?_
 refine bd (m0 (dl (lm 3 rfl rfl (tM X hL rfl rfl (j:=6) rfl ID (by intro x e;cases e) (.mk true (by kernel_rfl) ?_)))))
 refine tX rfl ?_
 refine bd (m0 (dl (tM X hL rfl rfl (j:=14) rfl wD (by intro x e;cases e) (f8 (.mk false rfl ?_)))))
 refine so (by decide) ?_
 refine ev ?_
 refine bd (M1 (st':=.str [32]) (tok':=tok) X hL rfl rfl wE (pu (l:=[32]) rfl (sS rfl (by kernel_rfl) ?_)))
 refine bd (m0 (vw (rN (tM X hL rfl rfl (j:=15) rfl yh (by intro x e;cases e) (.mk true ?_ ?_)))))
 ·refine (?_:(if tok.length≤1000000 then some (!tok.isEmpty) else none)=_)
  rw [if_pos (lR 999000 hz)]
  cases tok with
  | nil=>exact absurd rfl hn
  | cons _ _=>rfl
 refine tX rfl ?_;refine tX rfl ?_
 exact bd (xI r)
theorem M4 (X:(KK P).In am) (hL:tv H k dd i ds q1 q2) {x:Nat} (hx:x=39∨x=34) (r:R .next (w7 k q (some (.str [x]))) (HS H dd i ds q1 q2 rH (.str [x]) tok p)) :
  ST an w am (d+2) xg (w7 k q (some (.str [x]))) (HS H dd i ds q1 q2 rH (.str [97]) tok p) (fun be=>aG [nb Ed 3] be) R:=by
 have e1:vd .In (.str [x]) (.str [32,9,13,10])=some false:=by rcases hx with rfl | rfl <;> kernel_rfl
 have e2:vd .In (.str [x]) (.str [])=some false:=by rcases hx with rfl | rfl <;> kernel_rfl
 have e3:vd .In (.str [x]) (.str [39,34])=some true:=by rcases hx with rfl | rfl <;> kernel_rfl
 refine bd (m0 (dl (tM X hL rfl rfl (j:=11) rfl rP (by intro x e;cases e) (ss (.mk false rfl ?_)))))
 refine so (by decide) ?_
 refine bd (m0 (dl (tM X hL rfl rfl (j:=11) rfl rP (by intro x e;cases e) (pu (l:=[32]) rfl (.mk false rfl ?_)))))
 refine so (by decide) ?_
 refine bd (m0 (dl (tM X hL rfl rfl (j:=11) rfl rP (by intro x e;cases e) (tM X hL rfl rfl (j:=8) rfl uq (by intro x e;cases e) (.mk false (by kernel_rfl) ?_)))))
 refine so (by decide) ?_
 refine bd (m0 (dl (tM X hL rfl rfl (j:=11) rfl rP (by intro x e;cases e) (tM X hL rfl rfl (j:=9) rfl vI (by intro x e;cases e) (.mk false (by kernel_rfl) ?_)))))
 refine so (by decide) ?_
 refine bd (m0 (uj (tM X hL rfl rfl (j:=11) rfl rP (by intro x e;cases e) (vn (bi (pu (l:=[97]) rfl (bi (pu (l:=[99]) rfl (cr ⟨by decide,BY (i12 true rfl ?_)⟩)))))))))
 refine tX rfl ?_
 refine bd (m0 (ud (rN (lm 3 rfl rfl (.mk true rfl (.t ?_))))))
 refine so (by decide) ?_
 refine bd (m0 (dl (lm 3 rfl rfl (tM X hL rfl rfl (j:=6) rfl ID (by intro x e;cases e) (.mk false e1 ?_)))))
 refine so (by decide) ?_
 refine bd (m0 (dl (lm 3 rfl rfl (tM X hL rfl rfl (j:=4) rfl IE (by intro x e;cases e) (.mk false e2 ?_)))))
 refine so (by decide) ?_
 refine bd (m0 (dl (tM X hL rfl rfl (j:=11) rfl rP (by intro x e;cases e) (pu (l:=[99]) rfl (.mk false rfl ?_)))))
 refine so (by decide) ?_
 refine bd (m0 (r9 (rN (tM X hL rfl rfl (j:=2) rfl u4 (by intro x e;cases e) (.mk true rfl ?_)))))
 refine tX rfl ?_
 refine r9 (dl (lm 3 rfl rfl (tM X hL rfl rfl (j:=8) rfl uq (by intro x e;cases e) (.mk true e3 ?_))))
 refine tX rfl ?_
 refine xH ?_
 refine tX rfl ?_
 refine bd (M1 (st':=.str [x]) (tok':=tok) X hL rfl rfl wE (lm 3 rfl rfl (sS rfl (by kernel_rfl) ?_)))
 repeat refine ev ?_
 exact r
end
theorem drop_cons {l t:List Nat} {p c:Nat} (h:l.drop p=c::t):l[p]?=some c∧l.drop (p+1)=t:=by
 have h1:(l.drop p)[0]?=some c:=by rw [h];rfl
 rw [l5] at h1
 refine ⟨h1,?_⟩
 have:l.drop (p+1)=(l.drop p).drop 1:=by rw [ip]
 rw [this,h]
 rfl
theorem Bd {l:List Nat} {p:Nat} (h:l.drop p=[]):l[p]?=none:=by
 rw [List.drop_eq_nil_iff] at h
 exact bM.mpr h
section
variable {H:AH}
variable {k dd i ds q1 q2:Nat} {rH:List Nat} {R:AF→List ci→AH→Prop}
noncomputable def GV:Env→Code:=fun be=>.whileLoop (wT (nb M2 2)) (wB (nb M2 2)) (wO (nb M2 2)) be
theorem BZ (X:(KK P).In am) (hL:tv H k dd i ds q1 q2) {st:AV} {tok:List Nat} {p:Nat} {q:Bool} {nc:Option AV} (hz:rH.length≤900) (hp:p≤1000) (wk:∀ c∈rH,c≠10)
  (h1:∀ c,rH[p]?=some c→ST an w am (d+2) xg (w7 k q (some (.str [c]))) (HS H dd i ds q1 q2 rH st tok (p+1)) (fun be=>aG [nb Ed 3] be) (fun f sZ H2=>match f with
   | .next=>SC an w am (d+2) xg sZ H2 GV R | .cont=>SC an w am (d+2) xg sZ H2 GV R | .brk=>R .next sZ H2 | .ret v=>R (.ret v) sZ H2))
  (h2:rH[p]?=none→ST an w am (d+2) xg (w7 k q (some (.str []))) (HS H dd i ds q1 q2 rH st tok p) (fun be=>aG [nb Ed 3] be) (fun f sZ H2=>match f with
   | .next=>SC an w am (d+2) xg sZ H2 GV R | .cont=>SC an w am (d+2) xg sZ H2 GV R | .brk=>R .next sZ H2 | .ret v=>R (.ret v) sZ H2)) :
  SC an w am (d+2) xg (w7 k q nc) (HS H dd i ds q1 q2 rH st tok p) GV R:=by
 refine tu (rN (wP (.mk true rfl ?_)))
 refine tX rfl ?_
 exact LK X hL (lR 100 hz) hp wk h1 h2
theorem uS (X:(KK P).In am) (hL:tv H k dd i ds q1 q2) {st:AV} {tok:List Nat} {p c:Nat} {q:Bool} {nc:Option AV} (hz:rH.length≤900) (wk:∀ c∈rH,c≠10) (hc:rH[p]?=some c)
  (h:ST an w am (d+2) xg (w7 k q (some (.str [c]))) (HS H dd i ds q1 q2 rH st tok (p+1)) (fun be=>aG [nb Ed 3] be) (fun f sZ H2=>match f with
   | .next=>SC an w am (d+2) xg sZ H2 GV R | .cont=>SC an w am (d+2) xg sZ H2 GV R | .brk=>R .next sZ H2 | .ret v=>R (.ret v) sZ H2)) :
  SC an w am (d+2) xg (w7 k q nc) (HS H dd i ds q1 q2 rH st tok p) GV R:=by
 have:=(rK hc)
 refine BZ X hL hz (lR 101 (lD 1 (lT this hz))) wk (fun c' e=>?_) (fun e=>?_)
 ·rw [hc] at e;cases e;exact h
 ·rw [hc] at e;cases e
theorem Q4 (X:(KK P).In am) (hL:tv H k dd i ds q1 q2) (hz:rH.length≤900) (wk:∀ c∈rH,c≠10) {tail:List Nat}:∀ (x:List Nat) (tok:List Nat) (p:Nat) (q:Bool) (nc:Option AV),(∀ y∈x,tT y=true)→rH.drop p=u1 x++39::tail→tok.length+x.length≤900 →
  (rH.drop (p+(u1 x).length+1)=tail→SC an w am (d+2) xg (w7 k true (some (.str [39]))) (HS H dd i ds q1 q2 rH (.str [97]) (tok++x) (p+(u1 x).length+1)) GV R) →
  SC an w am (d+2) xg (w7 k q nc) (HS H dd i ds q1 q2 rH (.str [39]) tok p) GV R:=by
 intro x
 induction x with
 | nil =>
  intro tok p q nc hx hb ht r
  obtain ⟨e1,e2⟩:=drop_cons hb
  refine uS X hL hz wk e1 (IF X hL (.inl rfl) ?_)
  have:=r e2
  rw [cO] at this
  exact this
 | cons c x ih =>
  intro tok p q nc hx hb ht r
  have WD:=hx c aZ
  have SD : ∀ y∈x,tT y=true:=fun y hy=>hx y (ba _ hy)
  rw [aS] at ht
  have eta:tok++c::x=(tok++[c])++x:=by simp
  have LL:(tok++[c]).length+x.length≤900:=by rw [aI,hZ];exact nO ht
  by_cases Uu:c=39
  ·subst Uu
   have er:u1 (39::x)=[39,34,39,34,39]++u1 x:=rfl
   rw [er] at hb r
   obtain ⟨a1,b1⟩:=drop_cons hb
   obtain ⟨a2,b2⟩:=drop_cons b1
   obtain ⟨a3,b3⟩:=drop_cons b2
   obtain ⟨a4,b4⟩:=drop_cons b3
   obtain ⟨a5,b5⟩:=drop_cons b4
   refine uS X hL hz wk a1 (IF X hL (.inl rfl) ?_)
   refine uS X hL hz wk a2 (M4 X hL (.inr rfl) ?_)
   refine uS X hL hz wk a3 (M3 X hL (.inr rfl) (.inl rfl) (by decide) (lR 100 (lT lI ht)) ?_)
   refine uS X hL hz wk a4 (IF X hL (.inr rfl) ?_)
   refine uS X hL hz wk a5 (M4 X hL (.inl rfl) ?_)
   refine ih (tok++[39]) (p+5) true _ SD b5 LL fun Gn=>?_
   have el:p+([39,34,39,34,39]++u1 x).length+1=p+5+(u1 x).length+1:=by simp;lia
   rw [el,eta] at r
   exact r Gn
  ·have er:u1 (c::x)=c::u1 x:=by simp [u1,Uu]
   rw [er] at hb r
   obtain ⟨a1,b1⟩:=drop_cons hb
   have hc:c=39∨c=34∨c=32∨c=35:=by
    simp only [tT,cZ,beq_iff_eq] at WD
    rcases WD with (rfl | rfl) | rfl
    ·exact .inl rfl
    ·exact .inr (.inr (.inl rfl))
    ·exact .inr (.inr (.inr rfl))
   refine uS X hL hz wk a1 (M3 X hL (.inl rfl) hc Uu (lR 100 (lT lI ht)) ?_)
   refine ih (tok++[c]) (p+1) true _ SD b1 LL fun Gn=>?_
   have el:p+(c::u1 x).length+1=p+1+(u1 x).length+1:=by rw [aS];exact cR _ _ _
   rw [el,eta] at r
   exact r Gn
theorem Fj (X:(KK P).In am) (hL:tv H k dd i ds q1 q2) (hz:rH.length≤900) (wk:∀ c∈rH,c≠10) {x tail:List Nat} {p:Nat} {nc:Option AV} (hx:∀ y∈x,tT y=true) (IG:x.length≤900) (sz:x≠[]) (hb:rH.drop p=pt x++tail)
  (r0:tail=[]→∀ nc,R .next (w7 k true nc) (HS H dd i ds q1 q2 rH .none x (p+(pt x).length)))
  (r1:∀ t,tail=32::t→∀ nc,R .next (w7 k true nc) (HS H dd i ds q1 q2 rH (.str [32]) x (p+(pt x).length+1)))
  (Pk:tail=[]∨∃ t,tail=32::t) :
  SC an w am (d+2) xg (w7 k false nc) (HS H dd i ds q1 q2 rH (.str [32]) [] p) GV R:=by
 have eq:pt x=39::u1 x++[39]:=by unfold pt;rw [if_neg sz];rfl
 have uw : rH.drop p=39::(u1 x++39::tail):=by rw [hb,eq];simp
 have el:p+(pt x).length=p+1+(u1 x).length+1:=by rw [eq];simp;lia
 obtain ⟨a1,b1⟩:=drop_cons uw
 refine uS X hL hz wk a1 (Q1 X hL ?_)
 refine Q4 X hL hz wk x [] (p+1) false _ hx b1 (by rw [cS];exact cx IG _) fun Gn=>?_
 rw [gG,← el]
 rw [← el] at Gn
 have OA:p+(pt x).length≤1000:=by
  have h1:(rH.drop p).length=rH.length - p:=gY
  rw [hb,aI] at h1
  have h2:(pt x).length≠0:=by rw [eq];simp
  exact zK hz el h1
 rcases Pk with rfl | ⟨t,rfl⟩
 ·refine BZ X hL hz OA wk (fun c e=>?_) (fun e=>?_)
  ·rw [Bd Gn] at e;exact uH e
  ·exact Q2 X hL (r0 rfl _)
 ·obtain ⟨a2,b2⟩:=drop_cons Gn
  exact uS X hL hz wk a2 (Q3 X hL (lR 100 IG) sz (r1 t rfl _))
end
section
set_option backward.match.sparseCases false
section
variable {H:AH}
variable {k dd i ds q1 q2:Nat} {rH:List Nat}
theorem CY (X:(KK P).In am) (hL:tv H k dd i ds q1 q2) {st:AV} {tok:List Nat} {p:Nat} {nc:Option AV} {R:AF→List ci→AH→Prop} (r:∀ ρ,R (.ret (.str tok)) ρ (HS H dd i ds q1 q2 rH st [] p)) :
  ST an w am (d+2) xg (w7 k true nc) (HS H dd i ds q1 q2 rH st tok p) (fun be=>aG (M2.drop 3) be) R:=by
 refine bd (t6 4 rfl (tM X hL rfl rfl (j:=15) rfl yh (by intro x e;cases e) (.mk rfl ?_)))
 refine bd (M1 (st':=st) (tok':=[]) X hL rfl rfl yi (pu (l:=[]) rfl (sS rfl (by kernel_rfl) ?_)))
 refine bd (m0 (r9 (rN (tM X hL rfl rfl (j:=2) rfl u4 (by intro x e;cases e) (.mk true rfl ?_)))))
 refine tX rfl ?_
 refine r9 (ud (rN (lm 1 rfl rfl (.mk true rfl (.t ?_)))))
 refine so (by decide) ?_;refine so (by decide) ?_
 refine ev ?_
 refine bd (m0 (dl (tM X hL rfl rfl (j:=14) rfl wD (by intro x e;cases e) (f8 (.mk false rfl ?_)))))
 refine so (by decide) ?_
 refine ev ?_
 exact bd (sF (lm 4 rfl rfl (r _)))
theorem IH (X:(KK P).In am) (hL:tv H k dd i ds q1 q2) {st:AV} {p:Nat} {nc:Option AV} {R:AF→List ci→AH→Prop} (r:∀ ρ,R (.ret .none) ρ (HS H dd i ds q1 q2 rH st [] p)) :
  ST an w am (d+2) xg (w7 k false nc) (HS H dd i ds q1 q2 rH st [] p) (fun be=>aG (M2.drop 3) be) R:=by
 refine bd (t6 4 rfl (tM X hL rfl rfl (j:=15) rfl yh (by intro x e;cases e) (.mk rfl ?_)))
 refine bd (M1 (st':=st) (tok':=[]) X hL rfl rfl yi (pu (l:=[]) rfl (sS rfl (by kernel_rfl) ?_)))
 refine bd (m0 (r9 (rN (tM X hL rfl rfl (j:=2) rfl u4 (by intro x e;cases e) (.mk true rfl ?_)))))
 refine tX rfl ?_
 refine r9 (ud (rN (lm 1 rfl rfl (.mk false rfl (.f ?_)))))
 refine tX (by decide) ?_
 refine r9 (dl (lm 4 rfl rfl (pu (l:=[]) rfl (.mk true rfl ?_))))
 refine tX rfl ?_
 refine xH ?_
 refine tX rfl ?_
 refine bd (t6 4 rfl (ss (.mk rfl ?_)))
 refine ev ?_
 refine bd (m0 (dl (tM X hL rfl rfl (j:=14) rfl wD (by intro x e;cases e) (f8 (.mk false rfl ?_)))))
 refine so (by decide) ?_
 refine ev ?_
 exact bd (sF (lm 4 rfl rfl (r _)))
theorem II (X:(KK P).In am) {HH:AH} {R:AV→AH→Prop} (h:SC an w am (d+2) xg (w7 k false none) HH GV (fun f sZ H1=>match f with | .next=>ST an w am (d+2) xg sZ H1 (fun be=>aG (M2.drop 3) be) (NC R) | _=>False)) :
  FN an w am (d+3) (.ref 742) HH [.ref k] [] R:=by
 refine (u2 X (o:=J6 tw P) (ps:=[sD]) (nl:=["quoted","escapedstate","nextchar","result"]) (ng:=["print","ValueError","repr"]) (full:=[.ref k]) (body:=M2) (by kernel_rfl) rfl (by kernel_rfl) rfl (by kernel_rfl) rfl
  (fun vs hv=>by refine Bt hv fun a=>?_;exact (i12 [a] (fun S=>by kernel_rfl) (fun _ _ _ V=>V))) ?_).fn
 refine (?_:ST an w am (d+2) xg [.loc (some (.ref k)),.loc none,.loc none,.loc none,.loc none,.rc,.rc,.rc] HH _ _)
 refine bd (t6 1 rfl (wP (.mk rfl ?_)))
 refine bd (t6 2 rfl (pu (l:=[32]) rfl (.mk rfl ?_)))
 refine bd (uB ?_)
 refine SC.mono h fun f sZ H1 z=>?_
 cases f with
 | next=>exact z
 | _=>exact z.elim
noncomputable def Zm:List Stmt:=fBody (zg pw 30 5)
noncomputable abbrev Zn:List Str:=[sD,"tok","raw","spec","newfile","newstream","print","repr"]
theorem IJ (X:(KK P).In am) (hL:tv H k dd i ds q1 q2) {st st' raw:AV} {tok:List Nat} {p p' : Nat} {R:AV→AH→Prop} (Uv:raw=.none∨∃ x,raw=.str x)
  (h:FN an w am (d+3) (.ref 742) (HS H dd i ds q1 q2 rH st tok p) [.ref k] [] (Is raw (HS H dd i ds q1 q2 rH st' [] p'))) (r:R raw (HS H dd i ds q1 q2 rH st' [] p')) :
  FN an w am (d+4) (.ref 735) (HS H dd i ds q1 q2 rH st tok p) [.ref k] [] R:=by
 refine (u2 X (o:=J5 tw P) (ps:=[sD]) (nl:=["tok","raw","spec","newfile","newstream"]) (ng:=["print","repr"]) (full:=[.ref k]) (body:=Zm) (by kernel_rfl) rfl (by kernel_rfl) rfl (by kernel_rfl) rfl
  (fun vs hv=>by refine Bt hv fun a=>?_;exact (i12 [a] (fun S=>by kernel_rfl) (fun _ _ _ V=>V))) ?_).fn
 refine (?_:ST an w am (d+3) Zn [.loc (some (.ref k)),.loc none,.loc none,.loc none,.loc none,.loc none,.rc,.rc] _ _ _)
 refine bd (m0 (CT (tM X hL rfl rfl (j:=12) rfl QY (by intro x e;cases e) (sN _ rfl (QU hL) ?_))))
 refine so (by decide) ?_
 refine ev ?_
 refine bd (t6 2 rfl (w6 (lm 0 rfl rfl (sN _ (w5 X (yO hL) (zn hL) (zd _) (f:=742) (by kernel_rfl) (by kernel_rfl) (by refine (?_:_∉Gj);decide +kernel)) (tC X (by kernel_rfl)) (h.to (tW _ _ rfl ?_))))))
 refine bd (m0 (dl (tM X hL rfl rfl (j:=17) rfl Oy (by intro x e;cases e) (ss (i12 false rfl ?_)))))
 refine so (by decide) ?_
 refine ev ?_
 rcases Uv with rfl | ⟨x,rfl⟩
 ·refine bd (uB (tu (dl (lm 2 rfl rfl (tM X hL rfl rfl (j:=3) rfl Af (by intro x e;cases e) (.mk true rfl ?_))))))
  refine tX rfl ?_
  refine bd (m0 (ud (CT (tM X hL rfl rfl (j:=16) rfl QZ (by intro x e;cases e) (sN _ rfl (QV hL) ?_)))))
  refine Pg.f (tX (by decide) ?_)
  exact bd (sF (tM X hL rfl rfl (j:=3) rfl Af (by intro x e;cases e) r))
 ·refine bd (uB (tu (dl (lm 2 rfl rfl (tM X hL rfl rfl (j:=3) rfl Af (by intro x e;cases e) (.mk false rfl ?_))))))
  refine so (by decide) ?_
  refine ev ?_
  refine bd (m0 (dl (tM X hL rfl rfl (j:=14) rfl wD (by intro x e;cases e) (f8 (.mk false rfl ?_)))))
  refine so (by decide) ?_
  refine ev ?_
  exact bd (sF (lm 2 rfl rfl r))
theorem LM (X:(KK P).In am) (hL:tv H k dd i ds q1 q2) (hz:rH.length≤900) (wk:∀ c∈rH,c≠10) {x t:List Nat} {p:Nat} {R:AV→AH→Prop} (hx:∀ y∈x,tT y=true) (IG:x.length≤900) (sz:x≠[]) (hb:rH.drop p=pt x++32::t)
  (r:R (.str x) (HS H dd i ds q1 q2 rH (.str [32]) [] (p+(pt x).length+1))):FN an w am (d+4) (.ref 735) (HS H dd i ds q1 q2 rH (.str [32]) [] p) [.ref k] [] R :=
 IJ X hL (.inr ⟨x,rfl⟩) (II X (Fj X hL hz wk hx IG sz hb (fun e=>by cases e) (fun t' _ nc=>CY X hL fun _=>⟨rfl,rfl⟩) (.inr ⟨t,rfl⟩))) r
theorem LN (X:(KK P).In am) (hL:tv H k dd i ds q1 q2) (hz:rH.length≤900) (wk:∀ c∈rH,c≠10) {x:List Nat} {p:Nat} {R:AV→AH→Prop} (hx:∀ y∈x,tT y=true) (IG:x.length≤900) (sz:x≠[]) (hb:rH.drop p=pt x)
  (r:R (.str x) (HS H dd i ds q1 q2 rH .none [] (p+(pt x).length))):FN an w am (d+4) (.ref 735) (HS H dd i ds q1 q2 rH (.str [32]) [] p) [.ref k] [] R :=
 IJ X hL (.inr ⟨x,rfl⟩) (II X (Fj X hL hz wk hx IG sz (tail:=[]) (by rw [cO];exact hb) (fun _ nc=>CY X hL fun _=>⟨rfl,rfl⟩) (fun t' e=>by cases e) (.inl rfl))) r
theorem OB (X:(KK P).In am) (hL:tv H k dd i ds q1 q2) (hz:rH.length≤900) (wk:∀ c∈rH,c≠10) {p:Nat} {R:AV→AH→Prop} (hp:p≤1000) (hb:rH.drop p=[])
  (r:R .none (HS H dd i ds q1 q2 rH .none [] p)):FN an w am (d+4) (.ref 735) (HS H dd i ds q1 q2 rH .none [] p) [.ref k] [] R:=by
 refine IJ X hL (.inl rfl) (II X (BZ X hL hz hp wk (fun c e=>?_) (fun e=>?_))) r
 ·rw [Bd hb] at e;cases e
 ·exact Ut X hL (IH X hL fun _=>⟨rfl,rfl⟩)
end
end
section
set_option backward.match.sparseCases false
section
variable {H:AH}
variable {k dd i ds q1 q2:Nat} {rH:List Nat}
theorem LO (X:(KK P).In am):GL am "StopIteration" (.type "StopIteration"):=t7 X (by kernel_rfl) (by kernel_rfl)
noncomputable def Zo:List Stmt:=fBody (zg pw 30 9)
theorem CZ (X:(KK P).In am) {k:Nat}:FN an w am (d+1) (.ref 764) H [.ref k] [] (Is (.ref k) H):=by
 refine (u2 X (o:=J7 tw P) (ps:=[sD]) (nl:=[]) (ng:=[]) (full:=[.ref k]) (body:=Zo) (by kernel_rfl) rfl (by kernel_rfl) rfl (by kernel_rfl) rfl
  (fun vs hv=>by refine Bt hv fun a=>?_;exact (i12 [a] (fun S=>by kernel_rfl) (fun _ _ _ V=>V))) ?_).fn
 refine (?_:ST an w am d [sD] [.loc (some (.ref k))] H _ _)
 exact bd (sF (lm 0 rfl rfl ⟨rfl,rfl⟩))
noncomputable def SE:List Stmt:=fBody (zg pw 30 10)
noncomputable abbrev Q5:List Str:=[sD,"token","StopIteration"]
noncomputable def Zp:Stmt→Expr
 | .If t ..=>t
 | _=>.Constant .none 0 ⟨0,0,0,0⟩
theorem C1 (X:(KK P).In am) (hL:tv H k dd i ds q1 q2) {st st' : AV} {tok x:List Nat} {p p' : Nat} {R:AV→AH→Prop}
  (h:FN an w am (d+4) (.ref 735) (HS H dd i ds q1 q2 rH st tok p) [.ref k] [] (Is (.str x) (HS H dd i ds q1 q2 rH st' [] p'))) (r:R (.str x) (HS H dd i ds q1 q2 rH st' [] p')) :
  FN an w am (d+5) (.ref 771) (HS H dd i ds q1 q2 rH st tok p) [.ref k] [] R:=by
 refine (u2 X (o:=EE tw P) (ps:=[sD]) (nl:=["token"]) (ng:=["StopIteration"]) (full:=[.ref k]) (body:=SE) (by kernel_rfl) rfl (by kernel_rfl) rfl (by kernel_rfl) rfl
  (fun vs hv=>by refine Bt hv fun a=>?_;exact (i12 [a] (fun S=>by kernel_rfl) (fun _ _ _ V=>V))) ?_).fn
 refine (?_:ST an w am (d+4) Q5 [.loc (some (.ref k)),.loc none,.rc] _ _ _)
 refine bd (t6 1 rfl (w6 (lm 0 rfl rfl (sN _ (w5 X (yO hL) (zn hL) (zd _) (f:=735) (by kernel_rfl) (by kernel_rfl) (by refine (?_:_∉Gj);decide +kernel)) (tC X (by kernel_rfl)) (h.to (tW _ _ rfl ?_))))))
 refine bd (m0 (dl (lm 1 rfl rfl (tM X hL rfl rfl (j:=3) rfl Af (by intro x e;cases e) (i12 false rfl ?_)))))
 refine so (by decide) ?_
 refine ev ?_
 exact bd (sF (lm 1 rfl rfl r))
theorem IK (X:(KK P).In am) (hL:tv H k dd i ds q1 q2) (hz:rH.length≤900) (wk:∀ c∈rH,c≠10) {p:Nat} (hp:p≤1000) (hb:rH.drop p=[]) :
  ST an w am (d+4) Q5 [.loc (some (.ref k)),.loc none,.rc] (HS H dd i ds q1 q2 rH .none [] p) (fun be=>exec (nb SE 0) be) (fun f ρ' H'=>f=.next∧ρ'=[.loc (some (.ref k)),.loc (some .none),.rc]∧H'=HS H dd i ds q1 q2 rH .none [] p) :=
 t6 1 rfl (w6 (lm 0 rfl rfl (sN _ (w5 X (yO hL) (zn hL) (zd _) (f:=735) (by kernel_rfl) (by kernel_rfl) (by refine (?_:_∉Gj);decide +kernel)) (tC X (by kernel_rfl)) (OB X hL hz wk hp hb (Nv _ _ rfl rfl rfl rfl)))))
theorem IL (X:(KK P).In am) (hL:tv H k dd i ds q1 q2) {p:Nat} :
  EB an w am (d+4) Q5 [.loc (some (.ref k)),.loc (some .none),.rc] (HS H dd i ds q1 q2 rH .none [] p) (AL (Zp (nb SE 1))) (fun b H'=>b=true∧H'=HS H dd i ds q1 q2 rH .none [] p) :=
 dl (lm 1 rfl rfl (tM X hL rfl rfl (j:=3) rfl Af (by intro x e;cases e) (.mk true rfl ⟨rfl,rfl⟩)))
theorem Ag {nm:List Str} {ρ:List ci} {be:Env} {A:au} {L:Addr} {m:Str→Option aa} {α:Nat→Addr} {s:af} {Q E:aa→af→Prop} {j:Nat} {x:Str} {pos:Pos} {v:aa} (S:u8 be L α H.length nm ρ) (I:Inv am L m α H s.heap) (hx:nm[j]?=some x) (hv:ρ[j]?=some .rc) (g:GL am x v) (hd:(x == ("__debug__" : Str))=false) (h:Q v s) :
  ag (ah an w) A (eval (.Name x pos) be) Q E s:=by
 have kd:=S.slots j x _ hx hv
 obtain ⟨mg,mb,hg,hb,h1 | ⟨h1,h2⟩⟩:=g
 ·exact g7 S.kind kd (jN (by rw [S.rc];exact hg.keeps I.fr.keep) h1 h) hd
 ·exact g7 S.kind kd (q6 (by rw [S.rc];exact hg.keeps I.fr.keep) h1 (by rw [S.blt];exact hb.keeps I.fr.keep) h2 h) hd
theorem Ext.hide {L:Addr} {α:Nat→Addr} {n:Nat} {h:Heap}:Ext L α α n n h (h.hide L) :=
 ⟨fun _ _=>rfl,ar _,aJ (qW h L).symm,fun b o e hb _=>(fq h hb).trans e,fun _ a b=>absurd b (bG.mpr a)⟩
end
end
structure Fk (A:au) (am:Heap) (L L0:Addr) (o0:Obj) (α:Nat→Addr) (n:Nat) (h:Heap):Prop where
 fr:∃ be Ah,A.frames=some [be,Ah]∧be.scope.kind=.function∧Ah.scope.kind=.function∧be.frame=some L∧Ah.frame=some L0
 at_:h.get? L0=some o0
 nf:∀ vs,o0.data≠.fields vs
 nt:∀ vs e,o0≠sv vs e
 fresh:am.get? L0=none
 ne:L0≠L
 na:∀ j < n,α j≠L0
section
variable {H:AH}
variable {k dd i ds q1 q2:Nat} {rH:List Nat}
theorem Gq (X:(KK P).In am) (hL:tv H k dd i ds q1 q2) (hz:rH.length≤900) (wk:∀ c∈rH,c≠10) {p:Nat} (hp:p≤1000) (hb:rH.drop p=[])
  {A:au} {L L0:Addr} {m:Str→Option aa} {α:Nat→Addr} {s:af} {o0:Obj} {Q:Option aa→af→Prop} {E:aa→af→Prop} (hr:td A (d+5))
  (T:Fk A am L L0 o0 α (HS H dd i ds q1 q2 rH .none [] p).length s.heap) (I:Inv am L m α (HS H dd i ds q1 q2 rH .none [] p) s.heap)
  (c:∀ dL s',(∀ j < (HS H dd i ds q1 q2 rH .none [] p).length,dL j=α j)→s.heap.objs.size≤s'.heap.objs.size→(∀ b o,s.heap.get? b=some o→b≠L→b≠L0→(∀ j < (HS H dd i ds q1 q2 rH .none [] p).length,b≠α j)→s'.heap.get? b=some o) →
   (∃ sl,s'.heap.get? L0=some {o0 with slots:=sl})→Inv am L m dL (HS H dd i ds q1 q2 rH .none [] p) s'.heap→rM s s'→Q none s') :
  ag (ah an w) A (cf (.ref (α k))) Q E s:=by
 have stN:=IK (an:=an) (w:=w) (d:=d) X hL hz wk hp hb
 have WE:=IL (an:=an) (w:=w) (d:=d) (rH:=rH) X hL (p:=p)
 have Pl:=yO (rH:=rH) (st:=.none) (tok:=[]) (p:=p) hL
 have Q6:=zn (rH:=rH) (st:=.none) (tok:=[]) (p:=p) hL
 generalize HS H dd i ds q1 q2 rH .none [] p=HH at T I c stN WE Pl Q6
 obtain ⟨⟨be,Ah,Zq,k1,k0,f1,f0⟩,a0,WF,Zr,n0,ne0,na⟩:=T
 obtain ⟨es,n,J,g,_⟩:=uR I Pl Q6
 refine owit_next I.fr X J (f:=771) (by kernel_rfl) (by kernel_rfl) ?_
 have keep:=I.fr.keep
 have X' : (KK P).In s.heap:=X.keeps keep
 obtain ⟨fd,F,Lg⟩ : ∃ fd,Ck am 771 fd SE [sD] ["token"] ["StopIteration"]∧∀ a,dH fd ⟨[a],[]⟩=pure [(sD,a)] :=
  (i12 _ (u0 X (o:=EE tw P) (by kernel_rfl) rfl (by kernel_rfl) rfl (by kernel_rfl)) (fun a=>by kernel_rfl))
 obtain ⟨o,ho,yH⟩:=F.at_
 refine sC (dg (ix (binds:=[(sD,.ref (α k))]) (by have:=hr.depth;exact lD 8 (lR 8 (lT (lU 9 lI) this))) (keep _ _ ho) yH (F.nolimit.keeps keep) (F.code.keeps keep) F.body (.of_eq (Lg _)) F.wq (fun y hy=>?_) (fun rJ xk hk=>?_) F.co F.gen F.kind))
 ·rw [aU.mp hy];exact F.locals _ (by simp)
 have tO:s.heap.objs.size < rJ.objs.size:=xk.lt
 obtain ⟨I1,x1⟩:=I.enter (ar _) xk hk (bp tO)
 have S1:u8 (bF fd s.heap.objs.size 771) s.heap.objs.size α HH.length Q5 [.loc (some (.ref k)),.loc none,.rc]:=by
  refine ⟨F.kind,rfl,F.rc,F.blt,fun i x sl a b=>?_⟩
  match i,a,b with
  | 0,a,b=>cases a;cases b;exact F.locals _ (by simp)
  | 1,a,b=>cases a;cases b;exact F.locals _ (by simp)
  | 2,a,b=>cases a;cases b;exact F.xl _ (by simp)
  | n+3,a,b=>cases b
 have sj:=(rK Pl)
 have D1:vQ (fun x=>gZ x [(sD,dz (α k))].reverse) rJ α HH.length Q5 [.loc (some (.ref k)),.loc none,.rc]:=by
  intro i x av a b
  match i,a,b with
  | 0,a,b=>cases a;cases b;exact (i12 _ (by rfl) (.ref sj))
  | 1,a,b=>cases b
  | 2,a,b=>cases b
  | n+3,a,b=>cases b
 have Bb:td (A.deeper (bF fd s.heap.objs.size 771)) (d+4):=⟨hr.handled,by refine (?_:A.depth+1+8 * (d+4)+8 < _);have:=hr.depth;exact zD this,by refine (?_:A.units+3+100 * (d+4)+100 < _);have:=hr.units;exact zC this⟩
 refine sV (stN _ _ _ _ _ {s with heap:=rJ,toks:=s.toks+[(sD,dz (α k))].length} _ _ Bb S1 I1 D1 fun f fl wn m2 sP H2 s2 r2 x2 I2 S2 D2 FR Z2=>?_)
 obtain ⟨rfl,rfl,rfl⟩:=r2
 cases FR
 refine sV (jY (WE _ _ _ _ _ s2 _ _ Bb S2 I2 D2 fun b sQ H3 s3 r3 x3 I3 Z3=>?_))
 obtain ⟨rfl,rfl⟩:=r3
 refine tX rfl ?_
 have S3:=S2.ext x3
 refine sV (sC (owsi_raiseC hr.handled (Ag S3 I3 (j:=2) rfl rfl (LO X) (by decide +kernel) ⟨rfl,rfl⟩) fun h' e hm Zs=>?_))
 refine (?_:ag (ah an w) (A.deeper (bF fd s.heap.objs.size 771)) (leaving (bF fd s.heap.objs.size 771) (.ref e)) _ _ _)
 have WG:=x2.trans x3
 have Uw:∀ b o,s.heap.get? b=some o→(∀ j < H3.length,b≠α j)→s3.heap.get? b=some o:=fun b o q uG=>WG.keep b o (hk b o q) (ax (aH q)) uG
 have LP:=I.wl
 have Zt:=aH a0
 obtain ⟨oL,Ux,Uy,HM,M5,rL⟩:=I.fr.ns
 obtain ⟨o1,es1,ep1,Sy,Q7,r1⟩:=I3.fr.ns
 have b0:=Uw L0 o0 a0 fun j hj=>aq (na j hj)
 have bL:=Uw L oL HM fun j hj=>aq (I.low j hj).2
 have Uz:∀ j < H3.length,sQ j=α j:=WG.al
 generalize hB:hideAll s3.heap [s.heap.objs.size,L,L0]=B
 have zg:B.StaysIn s3.heap:=fun b o q=>by rw [← hB] at q;exact of_hideAll _ q
 have UA:∀ b o,s3.heap.get? b=some o→b≠s.heap.objs.size→b≠L→b≠L0→B.get? b=some o:=fun b o q n1 n2 n3=>by
  rw [← hB]
  exact hideAll_get _ q (by simp only [aA,bH,or_false,not_or];exact (sS n1 n2 n3))
 have SG:∀ b,b∈[s.heap.objs.size,L,L0]→B.get? b=none:=fun b q=>by rw [← hB];exact hideAll_none _ q
 have fn:s3.heap.FunFrames B [bF fd s.heap.objs.size 771,be,Ah]:=by
  refine (XV (by rw [show (bF fd s.heap.objs.size 771).scope.kind=.function from F.kind];decide) (Nv _ o1 rfl (SG _ (by simp)) Sy (fun vs q=>by rw [Q7] at q;cases q)) (by rw [k1];decide) (Nv L oL f1 (SG _ (by simp)) bL (fun vs q=>by rw [M5] at q;cases q)) (by rw [k0];decide) (Nv L0 o0 f0 (SG _ (by simp)) b0 WF) trivial)
 refine sC (wpAny_leaves_madeW (mc Zq) rfl zg fn ⟨hm.keeps,hm.new,hm.there⟩ fun h2 t SH tup bt ups Zu=>?_)
 have Q8:s3.heap.UpToSlots h2:=(Heap.UpToSlots.of_keeps hm.keeps).trans ups
 have WH:∀ b o,s3.heap.get? b=some o→b≠s.heap.objs.size→b≠L→b≠L0→h2.get? b=some o:=fun b o q n1 n2 n3=>SH.1 b o (UA b o q n1 n2 n3)
 obtain ⟨ob,Qp,UB⟩:=SH.there
 intro xZ
 refine (?_:OwitStop (ah an w) A Q E (.ref e) _)
 unfold OwitStop
 refine gx (T:="StopIteration") (b:=true) (i12 ob Qp UB) (by rw [gR];kernel_rfl) ?_
 refine tX rfl ?_
 have low:∀ i < H3.length,am.get? (sQ i)=none∧sQ i≠L∧sQ i≠L0∧sQ i≠s.heap.objs.size:=fun i hi=>(FE ((I3.low i hi).1) (by rw [Uz i hi];exact (I.low i hi).2) (by rw [Uz i hi];exact na i hi) ((I3.low i hi).2))
 refine c sQ _ Uz xZ (fun b o q n1 n2 uG=>WH b o (Uw b o q uG) (ax (aH q)) n1 n2) ?_ ?_ ⟨Z3.os.trans Z2.os,fun z=>Z3.gens (Z2.gens z)⟩
 ·obtain ⟨sl,q⟩:=Q8 L0 o0 b0 WF
  exact ⟨sl,q⟩
 ·have F3:Fr am L s3.heap m:=⟨(VT oL Ux Uy bL M5 rL),I3.fr.keep,I.fr.above⟩
  have SJ:am.objs.size≤L:=I.fr.above
  have F4:Fr am L h2 m:=F3.of_stays (fun b o q=>by
   have:=aH q
   exact WH b o (I3.fr.keep b o q) (ax (dj (aC this SJ) LP)) (ax (aC this SJ)) (fun z=>by rw [z,n0] at q;exact uH q)) Q8
  refine ⟨F4,fun i hi=>⟨(low i hi).1,(low i hi).2.1⟩,I3.inj,fun i oo e=>?_⟩
  have hi:=(rK e)
  obtain ⟨_,l1,l2,l3⟩:=low i hi
  have t1:=I3.kt
  have t2:∀ vs e,(s3.heap.hide s.heap.objs.size).get? L≠some (sv vs e):=fun vs e q=>by
   have q:=mV q
   rw [bL] at q
   obtain rfl:=ay q
   cases M5
  have t3:∀ vs e,((s3.heap.hide s.heap.objs.size).hide L).get? L0≠some (sv vs e):=fun vs e q=>by
   have q:=mV (mV q)
   rw [b0] at q
   exact Zr vs e (ay q)
  have r1:=(I3.obj i oo e).ext (Ext.hide (L:=s.heap.objs.size)) t1 fun ob q=>(fq _ l3).trans q
  have r2:=r1.ext (Ext.hide (L:=L)) t2 fun ob q=>(fq _ l1).trans q
  have r3:=r2.ext (Ext.hide (L:=L0)) t3 fun ob q=>(fq _ l2).trans q
  have Zv:((s3.heap.hide s.heap.objs.size).hide L).hide L0=B:=hB
  rw [Zv] at r3
  have Zw:B.objs.size=s3.heap.objs.size:=by rw [← hB];exact hideAll_size _ _
  have xx:Ext L sQ sQ H3.length H3.length B h2:=⟨fun _ _=>rfl,ar _,by rw [Zw];exact aj Zs Zu,fun b o q _ _=>SH.1 b o q,fun _ a b=>absurd b (bG.mpr a)⟩
  exact r3.ext xx (fun vs e q=>by rw [SG L (by simp)] at q;exact uH q) fun ob q=>SH.1 _ _ q
end
structure LQ (L L0:Addr) (o0:Obj) (α dL : Nat→Addr) (n n' : Nat) (h h' : Heap):Prop where
 al:∀ k < n,dL k=α k
 le:n≤n'
 size:h.objs.size≤h'.objs.size
 keep:∀ b o,h.get? b=some o→b≠L→b≠L0→(∀ k < n,b≠α k)→h'.get? b=some o
 new:∀ k,n≤k→k < n'→h.objs.size≤dL k
 WI:∃ sl,h'.get? L0=some {o0 with slots:=sl}
theorem Ext.to2 {L L0:Addr} {o0:Obj} {α dL vT : Nat→Addr} {n n' PW : Nat} {h h' PX : Heap} (x:Ext L α dL n n' h h') (y:LQ L L0 o0 dL vT n' PW h' PX):LQ L L0 o0 α vT n PW h PX:=by
 refine ⟨fun k hk=>(y.al k (aC hk x.le)).trans (x.al k hk),aj x.le y.le,aj x.size y.size,fun b o e hL h0 hb=>?_,fun k h1 h2=>?_,y.WI⟩
 ·refine y.keep b o (x.keep b o e hL hb) hL h0 fun k hk=>?_
  by_cases hn:k < n
  ·rw [x.al k hn];exact hb k hn
  ·exact ax (aC (aH e) (x.new k (bC hn) hk))
 ·by_cases hn:k < n'
  ·rw [y.al k hn];exact x.new k h1 hn
  ·exact aj x.size (y.new k (bC hn) h2)
theorem Fk.step {A:au} {am:Heap} {L L0:Addr} {o0:Obj} {α dL : Nat→Addr} {n n' : Nat} {h h' : Heap} (T:Fk A am L L0 o0 α n h) (x:Ext L α dL n n' h h'):Fk A am L L0 o0 dL n' h':=by
 refine ⟨T.fr,x.keep _ _ T.at_ T.ne fun j hj=>aq (T.na j hj),T.nf,T.nt,T.fresh,T.ne,fun j hj=>?_⟩
 by_cases q:j < n
 ·rw [x.al j q];exact T.na j q
 ·exact br (aC (aH T.at_) (x.new j (bC q) hj))
theorem Fk.in1 {A:au} {am:Heap} {L L0:Addr} {o0:Obj} {α:Nat→Addr} {n:Nat} {h:Heap} (T:Fk A am L L0 o0 α n h):Fk A.in1 am L L0 o0 α n h:=⟨T.fr,T.at_,T.nf,T.nt,T.fresh,T.ne,T.na⟩
theorem tv.Q9 {H:AH} {k dd i ds q1 q2 pi:Nat} {o:AO} (hL:tv H k dd i ds q1 q2) (ha:pi∉[k,dd,i,ds,q1,q2]):tv (H.set pi o) k dd i ds q1 q2:=by
 simp only [aA,bH,or_false,not_or] at ha
 obtain ⟨a1,a2,a3,a4,a5,a6⟩:=ha
 exact ⟨by rw [aF a1];exact hL.hk,by rw [aP];exact hL.hd,by rw [aF a3];exact hL.hi,by rw [aP];exact hL.hs,by rw [aF a5];exact hL.h1,by rw [aF a6];exact hL.h2,hL.ne⟩
theorem OC {H:AH} {dd i ds q1 q2 p pi:Nat} {rH tok:List Nat} {st:AV} {o:AO} (h1:pi≠dd) (h2:pi≠ds):(HS H dd i ds q1 q2 rH st tok p).set pi o=HS (H.set pi o) dd i ds q1 q2 rH st tok p:=by
 unfold HS
 rw [nD _ _ (aq h2),nD _ _ (aq h1)]
theorem u5 {H:AH} {dd i ds q1 q2 p:Nat} {rH tok:List Nat} {st:AV}:(HS H dd i ds q1 q2 rH st tok p).length=H.length:=by simp [HS]
section
variable {k dd i ds q1 q2 pi:Nat} {rH:List Nat}
theorem IM (X:(KK P).In am) (hz:rH.length≤900) (wk:∀ c∈rH,c≠10) (ha:pi∉[k,dd,i,ds,q1,q2]) {A:au} {L L0:Addr} {m:Str→Option aa} {o0:Obj} {R:dR→af→Prop} (hr:td A (d+6)) :
  ∀ (ws:List (List Nat)) (done:List (List Nat)) (H:AH) (p:Nat) (α:Nat→Addr) (s:af),ws≠[]→(∀ x∈ws,(∀ y∈x,tT y=true)∧x.length≤900∧x≠[])→done.length+ws.length≤1000→rH.drop p=sA [32] (ws.map pt)→tv H k dd i ds q1 q2→H[pi]?=some (.list (rQ done)) →
   Fk A am L L0 o0 α H.length s.heap→Inv am L m α (HS H dd i ds q1 q2 rH (.str [32]) [] p) s.heap →
   (∀ dL s',LQ L L0 o0 α dL H.length H.length s.heap s'.heap→(∃ p',Inv am L m dL (HS (H.set pi (.list (rQ (done++ws)))) dd i ds q1 q2 rH .none [] p') s'.heap)→rM s s'→R (.ok (.ret .none)) s') →
   bA (ah an w) A (.builtin "list.extend.loop" ⟨[.ref (α pi),.ref (α k),.none],[]⟩) R s:=by
 have AN:=ha
 simp only [aA,bH,or_false,not_or] at AN
 obtain ⟨a1,a2,a3,a4,a5,a6⟩:=AN
 have turn:∀ (x:List Nat) (done:List (List Nat)) (H:AH) (p p' : Nat) (st' : AV) (α:Nat→Addr) (s:af),done.length≤1000→tv H k dd i ds q1 q2→H[pi]?=some (.list (rQ done)) →
   Fk A am L L0 o0 α H.length s.heap→Inv am L m α (HS H dd i ds q1 q2 rH (.str [32]) [] p) s.heap →
   FN an w am (d+5) (.ref 771) (HS H dd i ds q1 q2 rH (.str [32]) [] p) [.ref k] [] (Is (.str x) (HS H dd i ds q1 q2 rH st' [] p')) →
   (∀ dL s',Ext L α dL H.length H.length s.heap s'.heap→Fk A am L L0 o0 dL H.length s'.heap→Inv am L m dL (HS (H.set pi (.list (rQ (done++[x])))) dd i ds q1 q2 rH st' [] p') s'.heap→rM s s'→bA (ah an w) A (.builtin "list.extend.loop" ⟨[.ref (dL pi),.ref (dL k),.none],[]⟩) R s') →
   bA (ah an w) A (.builtin "list.extend.loop" ⟨[.ref (α pi),.ref (α k),.none],[]⟩) R s:=by
  intro x done H p p' st' α s WJ hL tD T I Qi c
  obtain ⟨es,n,J,g,_⟩:=uR I (yO hL) (zn hL)
  have sj:k < (HS H dd i ds q1 q2 rH (.str [32]) [] p).length:=(rK (yO hL))
  have GW:pi < H.length:=(rK tD)
  refine fE og ?_
  rw [iX gX _]
  refine (?_:ag _ A.in1 (cf (.ref (α k)) >>= _) _ _ s)
  refine ab (owit_next I.fr X J (f:=771) (by kernel_rfl) (by kernel_rfl) (Qi.pos hr.in1 I (.cons (.ref sj) .nil) fun av v sP H2 s2 r x2 I2 V2 Z2=>?_))
  obtain ⟨rfl,rfl⟩:=r
  rw [u5,u5] at x2
  have C2:(HS H dd i ds q1 q2 rH st' [] p')[pi]?=some (.list (rQ done)):=by
   unfold HS
   rw [aF (aq a4),aF (aq a2)]
   exact tD
  obtain ⟨vs,n2,g2,u9,VV⟩:=I2.isList C2
  have eS:α pi=sP pi:=(x2.al pi GW).symm
  have eK:α k=sP k:=(x2.al k (by rw [u5] at sj;exact sj)).symm
  have Ot:vs.length=done.length:=by rw [VV.length];simp [rQ]
  obtain ⟨x3,I3⟩:=I2.turn (f:=fun a=>a.push v) (us:=vs++[v]) (ys:=rQ (done++[x])) C2 g2 (by simp) (by unfold rQ;rw [dF];exact VV.append (.cons V2 .nil))
  rw [OC a2 a4] at x3 I3
  rw [u5,u5,aP] at x3
  rw [eS,eK]
  refine (?_:ag _ A.in1 (iJ (sP pi) (·.push v) >>= _) _ _ _)
  refine ab (jr (hz:=by rw [bZ,Ot,cD];exact lR 16776216 WJ) (_hz':=by refine (?_:(vs.toArray.push v).size≤_);rw [Array.size_push,bZ,Ot,cD];exact lR 16776216 (lU 1 WJ)) g2 rfl (ai ⟨kO gX _,?_⟩))
  exact c sP _ (x2.trans x3) (T.step (x2.trans x3)) I3 ⟨Z2.os,Z2.gens⟩
 intro ws
 induction ws with
 | nil=>intro done H p α s h;exact absurd rfl h
 | cons x ws ih =>
  intro done H p α s _ hw mo hb hL tD T I c
  obtain ⟨w1,w2,w3⟩:=hw x aZ
  rw [aS] at mo
  cases ws with
  | nil =>
   rw [cS] at mo
   replace hb:rH.drop p=pt x:=hb
   refine turn x done H p (p+(pt x).length) .none α s (lT lI mo) hL tD T I (C1 X hL (LN X hL hz wk w1 w2 w3 hb ⟨rfl,rfl⟩) ⟨rfl,rfl⟩) fun dL s' xx T' I' Z'=>?_
   have Zx:rH.drop (p+(pt x).length)=[]:=by
    rw [← ip,hb]
    exact m5
   have OA:p+(pt x).length≤1000:=by
    have h1:(rH.drop p).length=rH.length - p:=gY
    rw [hb] at h1
    have h2:(pt x).length≠0:=by unfold pt;rw [if_neg w3];simp
    exact Tz hz h1 h2
   have QC:=hL.Q9 (o:=.list (rQ (done++[x]))) ha
   have T2:Fk A am L L0 o0 dL (HS (H.set pi (.list (rQ (done++[x])))) dd i ds q1 q2 rH .none [] (p+(pt x).length)).length s'.heap:=by rw [u5,aP];exact T'
   refine fE og ?_
   rw [iX gX _]
   refine (?_:ag _ A.in1 (cf (.ref (dL k)) >>= _) _ _ s')
   refine ab (Gq X QC hz wk OA Zx hr.in1 T2.in1 I' fun sQ s3 e1 e2 e3 e4 I3 Z3=>?_)
   refine ai (c sQ s3 (xx.to2 ⟨fun j hj=>e1 j (by rw [u5,aP];exact hj),ar _,e2,fun b o q n1 n2 n3=>e3 b o q n1 n2 fun j hj=>n3 j (by rwa [u5,aP] at hj),fun _ a b=>absurd b (bG.mpr a),e4⟩) ⟨_,I3⟩ (Z'.trans Z3))
  | cons y r =>
   have uw : rH.drop p=pt x++32::sA [32] ((y::r).map pt):=by
    rw [hb]
    refine (?_:pt x++[32]++sA [32] (pt y::r.map pt)=_)
    simp
   refine turn x done H p (p+(pt x).length+1) (.str [32]) α s (lT lI mo) hL tD T I (C1 X hL (LM X hL hz wk w1 w2 w3 uw ⟨rfl,rfl⟩) ⟨rfl,rfl⟩) fun dL s' xx T' I' Z'=>?_
   have Gn:rH.drop (p+(pt x).length+1)=sA [32] ((y::r).map pt):=by
    rw [← ip,← ip,uw,jv]
    rfl
   have u9:(H.set pi (AO.list (rQ (done++[x])))).length=H.length:=aP
   refine ih (done++[x]) (H.set pi (.list (rQ (done++[x])))) _ dL s' (by simp) (fun z PY=>hw z (ba _ PY)) (by rw [aI,hZ];exact nO mo) Gn (hL.Q9 ha) (az (rK tD)) (by rw [u9];exact T') I' fun sQ s3 x3 I3 Z3=>?_
   rw [u9] at x3
   rw [bQ,ak] at I3
   exact c sQ s3 (xx.to2 x3) I3 (Z'.trans Z3)
end
theorem tv.more {H G:AH} {k dd i ds q1 q2:Nat} (hL:tv H k dd i ds q1 q2):tv (H++G) k dd i ds q1 q2 :=
 ⟨bv hL.hk,by rw [aI];exact aC hL.hd (cp _ _),bv hL.hi,by rw [aI];exact aC hL.hs (cp _ _),bv hL.h1,bv hL.h2,hL.ne⟩
theorem OD {H G:AH} {k dd i ds q1 q2 p:Nat} {rH tok:List Nat} {st:AV} (hL:tv H k dd i ds q1 q2):HS H dd i ds q1 q2 rH st tok p++G=HS (H++G) dd i ds q1 q2 rH st tok p:=by
 unfold HS
 rw [cA _ _ hL.hd,cA _ _ (by rw [aP];exact hL.hs)]
theorem tv.fresh {H:AH} {k dd i ds q1 q2:Nat} (hL:tv H k dd i ds q1 q2):H.length∉[k,dd,i,ds,q1,q2]:=by
 have lt:∀ {j:Nat} {o:AO},H[j]?=some o→j < H.length:=fun e=>(rK e)
 simp -iota only [aA,bH,or_false,not_or]
 exact (XU (br (lt hL.hk)) (br hL.hd) (br (lt hL.hi)) (br hL.hs) (br (lt hL.h1)) (br (lt hL.h2)))
section
variable {H:AH}
variable {k dd i ds q1 q2:Nat} {rH:List Nat}
theorem Ee {HH:AH} {L:Addr} {m:Str→Option aa} {α:Nat→Addr} {h:Heap} {a:Nat} (I:Inv am L m α HH h) (tD:HH[a]?=some (.list [])) {f:Array aa→Array aa} {us:List aa} {ys:List AV} (hf:f #[]=us.toArray) (hu:po h α HH.length ys us) :
  ∃ n,h.get? (α a)=some (bU #[] n)∧Ext L α α HH.length HH.length h (h.update (α a) (bo f))∧Inv am L m α (HH.set a (.list ys)) (h.update (α a) (bo f)):=by
 obtain ⟨vs,n,g,hl,VV⟩:=I.isList tD
 cases VV
 obtain ⟨x,I'⟩:=I.turn (f:=f) (us:=us) (ys:=ys) tD g hf hu
 rw [aP] at x
 exact (sN n g x I')
theorem Gr:bf (KK P) (.ref 774) "__len__"=some none:=by kernel_rfl
theorem Ef:bf (KK P) (.ref 774) "__length_hint__"=some none:=by kernel_rfl
theorem AE (X:(KK P).In am) (hL:tv H k dd i ds q1 q2) (hz:rH.length≤900) (wk:∀ c∈rH,c≠10) {A:au} {L L0:Addr} {m:Str→Option aa} {o0:Obj} {Q E:aa→af→Prop} (hr:td A (d+7))
  {ws:List (List Nat)} (sz:ws≠[]) (hw:∀ x∈ws,(∀ y∈x,tT y=true)∧x.length≤900∧x≠[]) (mo:ws.length≤1000) {p:Nat} (hb:rH.drop p=sA [32] (ws.map pt)) {α:Nat→Addr} {s:af}
  (T:Fk A am L L0 o0 α H.length s.heap) (I:Inv am L m α (HS H dd i ds q1 q2 rH (.str [32]) [] p) s.heap)
  (c:∀ dL s',LQ L L0 o0 α dL H.length (H.length+1) s.heap s'.heap→(∃ p',Inv am L m dL (HS (H++[.list (rQ ws)]) dd i ds q1 q2 rH .none [] p') s'.heap)→rM s s'→Q (.ref (dL H.length)) s') :
  ag (ah an w) A (call (.type "list") [.ref (α k)]) Q E s:=by
 have sj:k < H.length:=(rK hL.hk)
 refine callType_codes (Q₁:=fun obj tE=>obj=.ref s.heap.objs.size∧tE={s with heap:=s.heap.push {cls:=.type "list",data:=.seq #[]}}) F.called_list (pU _) pg
  (code_list_new _ ⟨rfl,rfl⟩) fun obj tE rJ=>?_
 obtain ⟨rfl,rfl⟩:=rJ
 have hS:(s.heap.push {cls:=.type "list",data:=.seq #[]}).get? s.heap.objs.size=some {cls:=.type "list",data:=.seq #[]}:=bj _ rfl
 refine (sS (i12 _ hS rfl) (qF _ _) ?_)
 obtain ⟨x1,I1,V1⟩:=I.zS (xs:=[]) (vs:=[]) .nil
 rw [OD hL] at x1 I1
 have LL:(HS H dd i ds q1 q2 rH (.str [32]) [] p).length=H.length:=u5
 have u9:(HS (H++[AO.list []]) dd i ds q1 q2 rH (.str [32]) [] p).length=H.length+1:=by rw [u5];simp -iota
 rw [LL] at I1
 rw [u9,LL] at x1
 have eS:put α H.length s.heap.objs.size H.length=s.heap.objs.size:=nn _ _ _
 have eK:put α H.length s.heap.objs.size k=α k:=r8 _ _ (lL sj)
 have T1:=T.step x1
 have QQ:=hL.more (G:=[AO.list []])
 have hf:=hL.fresh
 have WK:=hf
 simp -iota only [aA,bH,or_false,not_or] at WK
 obtain ⟨_,f2,_,f4,_,_⟩:=WK
 generalize put α H.length s.heap.objs.size=rS at x1 I1 T1 eS eK
 rw [← eS,← eK]
 rw [← eS] at hS
 refine (?_:ag _ A.in1.in1 (do let old ← jS (.ref (rS H.length));qP (.ref (rS H.length)) (fun _=>#[]);letGo old.toList.reverse;ic (.ref (rS H.length)) (.ref (rS k)) .none) _ _ _)
 have M6:(H++[AO.list []])[H.length]?=some (.list []):=by simp -iota
 have tD:(HS (H++[AO.list []]) dd i ds q1 q2 rH (.str [32]) [] p)[H.length]?=some (.list []):=by
  unfold HS
  rw [aF (aq f4),aF (aq f2)]
  exact M6
 have OE:rS H.length≠rS k:=fun e=>absurd (I1.inj H.length k (by rw [u9];exact lO) (by rw [u9];exact lR 1 sj) e) (lH sj)
 generalize B1:HS (H++[AO.list []]) dd i ds q1 q2 rH (.str [32]) [] p=HH at x1 I1 T1 tD u9
 refine ab ?_
 unfold jS
 refine ab (fa hS rfl (ai ?_))
 refine (?_:ag _ _ (iJ (rS H.length) (fun _=>#[]) >>= fun _=>letGo (#[]:Array aa).toList.reverse >>= fun _=>ic (.ref (rS H.length)) (.ref (rS k)) .none) _ _ _)
 obtain ⟨n1,g1,x2,I2⟩:=Ee I1 tD (f:=fun _=>#[]) (us:=[]) (ys:=[]) rfl .nil
 rw [set_same tD] at I2
 rw [u9] at x2
 refine ab (jr g1 rfl ?_)
 refine ab (iH ?_)
 have T2:=T1.step x2
 have Ou:=x1.trans x2
 have Ra:rM s {s with heap:=(s.heap.push {cls:=.type "list",data:=.seq #[]}).update (rS H.length) (bo fun _=>#[])}:=⟨rfl,id⟩
 clear hS g1
 generalize UC:({s with heap:=(s.heap.push {cls:=.type "list",data:=.seq #[]}).update (rS H.length) (bo fun _=>#[])}:af)=s2 at Ra ⊢
 have Pn:(s.heap.push {cls:=.type "list",data:=.seq #[]}).update (rS H.length) (bo fun _=>#[])=s2.heap:=by rw [← UC]
 rw [Pn] at I2 T2 Ou
 have Pl:HH[k]?=some (.inst 774 dd):=by rw [← B1];exact yO QQ
 have Q6:HH[dd]?=some (.ns (vp i q1 q2 [] true (.str [32]) [])):=by rw [← B1];exact zn QQ
 have Eg:k < HH.length:=by rw [u9];exact lR 1 sj
 obtain ⟨es,n,J,g,_⟩:=uR I2 Pl Q6
 unfold ic
 refine ab (J.type.here ?_)
 have h1:jL (.ref (rS H.length)) (.ref (rS k))=false:=by simp [jL,OE]
 have h2:(dz 774 == dN "list")=false:=by decide
 have h3:(dz 774 == dN "tuple")=false:=by decide
 simp -iota only [h1,h2,h3,Bool.or_false,cG,if_false]
 refine ab (owit_iter I2.fr X J (f:=764) (by kernel_rfl) (by kernel_rfl) ((CZ (d:=d+4) X).pos (as:=[.ref k]) hr.in1.in1 I2 (.cons (.ref Eg) .nil) fun av v sQ H3 s3 r x3 I3 V3 Z3=>?_))
 obtain ⟨rfl,Zy⟩:=r
 rw [Zy] at x3 I3 V3
 refine V3.sO fun _=>?_
 obtain ⟨es3,n3,J3,g3,_⟩:=uR I3 Pl Q6
 have X3:(KK P).In s3.heap:=X.keeps I3.fr.keep
 have e1:sQ k=rS k:=x3.al k Eg
 have e2:sQ H.length=rS H.length:=x3.al H.length (by rw [u9];exact lO)
 refine owit_it I3.fr X J3 (g:=.ref 771) (by kernel_rfl) ?_
 refine ab (cH ?_)
 unfold qa
 rw [← e1,← e2]
 have Zz : eC (ah an w) s3.heap (gU (.ref (sQ k)) "__len__") none:=J3.type.andThen (k8 X3 Gr)
 have Up : eC (ah an w) s3.heap (gU (.ref (sQ k)) "__length_hint__") none:=J3.type.andThen (k8 X3 Ef)
 refine ab (Zz.here ?_)
 refine (?_:ag _ _ (gU (.ref (sQ k)) "__length_hint__" >>= _) _ _ _)
 refine ab (Up.here ?_)
 refine ai ?_
 show ag _ _ (rule "list.extend.makes-room" >>= fun _=>aT.List.listTouch (.ref (sQ H.length)) >>= fun _ =>
  cC (.builtin "list.extend.loop" ⟨[.ref (sQ H.length),.ref (sQ k),.none],[]⟩)) _ _ _
 refine ab (fj (ab ?_))
 refine (?_:ag _ _ (iJ (sQ H.length) (·.push .none) >>= fun _=>iJ (sQ H.length) (·.pop)) _ _ _)
 obtain ⟨n4,g4,x4,I4⟩:=Ee I3 tD (f:=fun a=>a.push .none) (us:=[.none]) (ys:=[.none]) rfl (.cons .none .nil)
 have M7:(HH.set H.length (.list [.none]))[H.length]?=some (.list [.none]):=az (rK tD)
 obtain ⟨vs5,n5,g5,WC,UD⟩:=I4.isList M7
 cases UD with | cons V5 UD =>
 cases UD
 cases V5
 obtain ⟨x5,I5⟩:=I4.turn (f:=fun a=>a.pop) (us:=[]) (ys:=[]) M7 g5 rfl .nil
 rw [bQ,set_same tD] at I5
 simp -iota only [aP] at x5
 refine ab (jr g4 rfl (jr (hz:=by size_fits) (_hz':=by seq_fits) g5 rfl ?_))
 have T5:=((T2.step (by rw [u9] at x3;exact x3)).step (by rw [u9] at x4;exact x4)).step (by rw [u9] at x5;exact x5)
 rw [u9] at x3 x4 x5
 have UE:=Ou.trans ((x3.trans x4).trans x5)
 refine ai ⟨kO gX _,?_⟩
 rw [← B1] at I5
 refine IM X hz wk hf hr.in1 ws [] (H++[.list []]) p sQ _ sz hw (by simpa -iota using mo) hb QQ M6 (by rw [aI];exact T5.in1) I5 fun EM s6 x6 I6 Z6=>?_
 rw [aI] at x6
 obtain ⟨p6,I6⟩:=I6
 have UF:(H++[AO.list []]).set H.length (.list (rQ ([]++ws)))=H++[.list (rQ ws)]:=by rw [bY _ _ (ar _),eO];rfl
 rw [UF] at I6
 have x7:=UE.to2 x6
 have eF:EM H.length=sQ H.length:=x6.al H.length (by simp -iota)
 refine ⟨rfl,?_⟩
 rw [← eF]
 exact c EM s6 x7 ⟨p6,I6⟩ (Ra.trans (Z3.trans ⟨Z6.os,Z6.gens⟩))
end
theorem Eh {M:dv} {Γ:Ctx} {be:Env} {l2:List Stmt} {Q:Flow→Pos→af→Prop} {E:aa→Pos→af→Prop}:∀ (l1:List Stmt) (p:Pos) (s:af),fF M Γ (aG l1 be) (fun f p' s'=>match f with | .next=>fF M Γ (aG l2 be) Q E p' s' | f=>Q f p' s') E p s→fF M Γ (aG (l1++l2) be) Q E p s:=by
 intro v_
 induction v_ with
 | nil =>
  intro p s h
  exact h
 | cons st r sg =>
  intro p s h
  have h' : fF M Γ (exec st be >>= fun f=>match f with | .next=>aG r be | f=>pure f) (fun f p' s'=>match f with | .next=>fF M Γ (aG l2 be) Q E p' s' | f=>Q f p' s') E p s:=h
  refine (?_:fF M Γ (exec st be >>= fun f=>match f with | .next=>aG (r++l2) be | f=>pure f) Q E p s)
  rw [Sem.wp_bind'] at h' ⊢
  refine Sem.wp_mono M Γ _ (fun f p' s' hf=>?_) (fun _ _ _ x=>x) p s h'
  cases f with
  | next=>exact sg p' s' hf
  | _=>exact hf
theorem yP {M:dv} {A:au} {E:aa→af→Prop} {be:Env} {l1 l2:List Stmt} {Q:Flow→af→Prop} {s:af} (h:ag M A (aG l1 be) (fun f s'=>match f with | .next=>ag M A (aG l2 be) Q E s' | f=>Q f s') E s):ag M A (aG (l1++l2) be) Q E s:=by
 intro Γ p Sm
 refine Eh l1 p s (Sem.wp_mono M Γ _ (fun f p' s' hf=>?_) (fun _ _ _ x=>x) p s (h Γ p Sm))
 cases f with
 | next=>exact hf Γ p' Sm
 | _=>exact hf
section
variable {H:AH}
theorem IN (X:(KK P).In am):GL am "shlex" (.ref 774):=su X (by kernel_rfl)
theorem Fl (X:(KK P).In am):GL am "list" (.type "list"):=t7 X (by kernel_rfl) (by kernel_rfl)
noncomputable def SM:List Stmt:=fBody (vP pw 31)
noncomputable abbrev SN:List Str:=["s","comments","posix","lex","ValueError","shlex","list"]
noncomputable def AG (H:AH) (x:List Nat) (Dt:List Nat) (ws:Bool):AH:=H++[.ns (vp (H.length+3) (H.length+4) (H.length+5) Dt ws (.str [32]) []),.inst 774 H.length,.ns (u3 x 0),.inst 639 (H.length+2),A8,A8]
theorem zu {x:List Nat} {Dt:List Nat} {ws:Bool}:(AG H x Dt ws).length=H.length+6:=by simp [AG]
theorem vq {x:List Nat} {Dt:List Nat} {ws:Bool} (j:Nat):(AG H x Dt ws)[H.length+j]?=[AO.ns (vp (H.length+3) (H.length+4) (H.length+5) Dt ws (.str [32]) []),.inst 774 H.length,.ns (u3 x 0),.inst 639 (H.length+2),A8,A8][j]?:=by
 unfold AG
 rw [aK lI]
 congr 1
 exact nB _ _
theorem Fm {x:List Nat} {Dt Rb : List Nat} {ws WL : Bool}:(AG H x Dt ws).set H.length (.ns (vp (H.length+3) (H.length+4) (H.length+5) Rb WL (.str [32]) []))=AG H x Rb WL:=by
 unfold AG
 rw [bY _ _ (ar _),eO]
 rfl
theorem LR (X:(KK P).In am) {x:List Nat}:ST an w am (d+8) SN [.loc (some (.str x)),.loc (some (.bool false)),.loc (some (.bool true)),.loc none,.rc,.rc,.rc] H (fun be=>aG (SM.take 4) be)
  (fun f ρ' H'=>f=.next∧ρ'=[.loc (some (.str x)),.loc (some (.bool false)),.loc (some (.bool true)),.loc (some (.ref (H.length+1))),.rc,.rc,.rc]∧H'=AG H x [] true):=by
 refine bd (m0 (dl (lm 0 rfl rfl (ss (.mk false rfl ?_)))))
 refine so (by decide) ?_
 refine ev ?_
 refine bd (t6 3 rfl (F5 (ti 5 rfl rfl (IN X) (sN _ rfl (tC X (by kernel_rfl)) (bi (lm 0 rfl rfl (cr (lm 2 rfl rfl (Lj X (C:=774) (fI:=698) (by kernel_rfl) (by kernel_rfl) (by kernel_rfl) (by simp) ((Ec X (k:=H.length+1) (dd:=H.length) (x:=x) (by simp) (by simp)).mono ?_))))))))))
 rintro a H' ⟨rfl,rfl⟩
 have e1:(H++[AO.ns [],.inst 774 H.length]).length=H.length+2:=by simp
 have e2:(H++[AO.ns [],.inst 774 H.length]).set H.length (.ns (vp (H.length+2+1) (H.length+2+2) (H.length+2+3) [35] false (.str [32]) []))++[.ns (u3 x 0),.inst 639 (H.length+2),A8,A8]=AG H x [35] false:=by
  rw [bY _ _ (ar _),eO,ak]
  rfl
 rw [e1,e2]
 refine (sS rfl (by rw [zu];exact lR 4 lO) (tW _ _ rfl ?_))
 refine (?_:ST an w am (d+8) SN [.loc (some (.str x)),.loc (some (.bool false)),.loc (some (.bool true)),.loc (some (.ref (H.length+1))),.rc,.rc,.rc] _ _ _)
 refine bd (tm X (wP (lm 3 rfl rfl ⟨H.length+1,H.length,774,_,vp (H.length+3) (H.length+4) (H.length+5) [35] true (.str [32]) [],rfl,vq 1,vq 0,yN,by kernel_rfl,zt,by refine (?_:19≤500);decide,by kernel_rfl,?_⟩)))
 rw [Fm]
 refine bd (m0 (ud (rN (lm 1 rfl rfl (.mk false rfl (.f ?_))))))
 refine tX (by decide) ?_
 refine bd (tm X (pu (l:=[]) rfl (lm 3 rfl rfl ⟨H.length+1,H.length,774,_,vp (H.length+3) (H.length+4) (H.length+5) [] true (.str [32]) [],rfl,vq 1,vq 0,yN,by kernel_rfl,zt,by refine (?_:19≤500);decide,by kernel_rfl,?_⟩)))
 rw [Fm]
 refine ev ?_
 exact ev (sS rfl rfl rfl)
end
noncomputable def Rc (A:au) (L:Addr):Prop:=∃ Ah,A.frames=some [Ah]∧Ah.scope.kind=.function∧Ah.frame=some L
section
variable {H:AH}
theorem Ei (X:(KK P).In am) {x:List Nat} {ws:List (List Nat)} (hz:x.length≤900) (wk:∀ c∈x,c≠10) (sz:ws≠[]) (hw:∀ x∈ws,(∀ y∈x,tT y=true)∧x.length≤900∧x≠[]) (mo:ws.length≤1000) (hb:x=sA [32] (ws.map pt))
  {A:au} {L:Addr} {m:Str→Option aa} {α:Nat→Addr} {s:af} {Q E:aa→af→Prop} {v:aa} (hr:td A (d+9)) (hF:Rc A L) (I:Inv am L m α H s.heap) (V:pp s.heap α H.length (.str x) v)
  (c:∀ dL s' v',Ext L α dL H.length (H.length+1) s.heap s'.heap→Inv am L m dL (H++[.list (rQ ws)]) s'.heap→pp s'.heap dL (H.length+1) (.ref H.length) v'→rM s s'→Q v' s') :
  ag (ah an w) A (call (.ref 786) [v]) Q E s:=by
 have keep:=I.fr.keep
 have X' : (KK P).In s.heap:=X.keeps keep
 obtain ⟨fd,F,Lg⟩ : ∃ fd,Ck am 786 fd SM ["s","comments","posix"] ["lex"] ["ValueError","shlex","list"]∧∀ S a,peek (KK P) S (dH fd ⟨[a],[]⟩)=some [(aB "s",a),("comments",.bool false),("posix",.bool true)] :=
  (i12 _ (u0 X (o:=J8 tw P) (by kernel_rfl) rfl (by kernel_rfl) rfl (by kernel_rfl)) (fun S a=>by kernel_rfl))
 obtain ⟨o,ho,yH⟩:=F.at_
 refine dg (ix (binds:=[(aB "s",v),("comments",.bool false),("posix",.bool true)]) (by have:=hr.depth;exact lD 8 (lR 8 (lT (lU 9 lI) this))) (keep _ _ ho) yH (F.nolimit.keeps keep) (F.code.keeps keep) F.body
  (fun M A E Q hq=>(cM (M:=M) (h:=s.heap) X' (Lg _ _)).here hq) F.wq (fun y hy=>?_) (fun rJ xk hk=>?_) F.co F.gen F.kind)
 ·simp only [aA,bH,or_false] at hy
  rcases hy with rfl | rfl | rfl
  ·exact F.locals _ (by simp)
  ·exact F.locals _ (by simp)
  ·exact F.locals _ (by simp)
 have tO:s.heap.objs.size < rJ.objs.size:=xk.lt
 obtain ⟨I1,x1⟩:=I.enter (ar _) xk hk (bp tO)
 have S1:u8 (bF fd s.heap.objs.size 786) s.heap.objs.size α H.length SN [.loc (some (.str x)),.loc (some (.bool false)),.loc (some (.bool true)),.loc none,.rc,.rc,.rc]:=by
  refine ⟨F.kind,rfl,F.rc,F.blt,fun i x sl a b=>?_⟩
  match i,a,b with
  | 0,a,b=>cases a;cases b;exact F.locals _ (by simp)
  | 1,a,b=>cases a;cases b;exact F.locals _ (by simp)
  | 2,a,b=>cases a;cases b;exact F.locals _ (by simp)
  | 3,a,b=>cases a;cases b;exact F.locals _ (by simp)
  | 4,a,b=>cases a;cases b;exact F.xl _ (by simp)
  | 5,a,b=>cases a;cases b;exact F.xl _ (by simp)
  | 6,a,b=>cases a;cases b;exact F.xl _ (by simp)
  | n+7,a,b=>cases b
 have D1:vQ (fun x=>gZ x [(aB "s",v),("comments",.bool false),("posix",.bool true)].reverse) rJ α H.length SN [.loc (some (.str x)),.loc (some (.bool false)),.loc (some (.bool true)),.loc none,.rc,.rc,.rc]:=by
  intro i x av a b
  match i,a,b with
  | 0,a,b=>cases a;cases b;exact (i12 _ (by rfl) (V.ext x1 I.kt))
  | 1,a,b=>cases a;cases b;exact (i12 _ (by rfl) (.bool _))
  | 2,a,b=>cases a;cases b;exact (i12 _ (by rfl) (.bool _))
  | 3,a,b=>cases b
  | 4,a,b=>cases b
  | 5,a,b=>cases b
  | 6,a,b=>cases b
  | n+7,a,b=>cases b
 have Bb:td (A.deeper (bF fd s.heap.objs.size 786)) (d+8):=⟨hr.handled,by refine (?_:A.depth+1+8 * (d+8)+8 < _);have:=hr.depth;exact zD this,by refine (?_:A.units+3+100 * (d+8)+100 < _);have:=hr.units;exact zC this⟩
 refine (?_:ag (ah an w) (A.deeper (bF fd s.heap.objs.size 786)) (aG (SM.take 4++SM.drop 4) (bF fd s.heap.objs.size 786)) _ _ _)
 refine yP (LR (d:=d) X (bF fd s.heap.objs.size 786) _ _ _ _ {s with heap:=rJ,toks:=_} _ _ Bb S1 I1 D1 fun f fl wn m2 sP H2 s2 r2 x2 I2 S2 D2 FR Z2=>?_)
 obtain ⟨rfl,rfl,rfl⟩:=r2
 cases FR
 dsimp only
 have ZB:tv (AG H x [] true) (H.length+1) H.length (H.length+3) (H.length+2) (H.length+4) (H.length+5) :=
  ⟨vq 1,by rw [zu];exact lR 5 lO,vq 3,by rw [zu];exact lR 3 lO,vq 4,vq 5,by simp⟩
 have ZC:HS (AG H x [] true) H.length (H.length+3) (H.length+2) (H.length+4) (H.length+5) x (.str [32]) [] 0=AG H x [] true:=by
  unfold HS
  rw [set_same (show (AG H x [] true)[H.length]?=_ from vq 0),set_same (show (AG H x [] true)[H.length+2]?=_ from vq 2)]
 have WM:=I2
 rw [← ZC] at WM
 have C3:(AG H x [] true).length=H.length+6:=zu
 obtain ⟨oL,Ux,Uy,HM,M5,rL⟩:=I.fr.ns
 have LP:=I.wl
 have T2:Fk (A.deeper (bF fd s.heap.objs.size 786)) am s.heap.objs.size L oL sP (AG H x [] true).length s2.heap:=by
  obtain ⟨Ah,f0,f1,f2⟩:=hF
  have T1:Fk (A.deeper (bF fd s.heap.objs.size 786)) am s.heap.objs.size L oL α H.length rJ:=by
   refine ⟨(Kn _ Ah (mc f0) F.kind f1 rfl f2),hk L oL HM,fun vs q=>(by rw [M5] at q;cases q),fun vs e q=>(by rw [q] at M5;cases M5),?_,ax LP,fun j hj=>(I.low j hj).2⟩
   cases q:am.get? L with
   | none=>rfl
   | some o'=>exact absurd (aH q) (bG.mpr I.fr.above)
  exact T1.step x2
 have ZD:=D2 3 "lex" _ rfl rfl
 obtain ⟨vl,Ot,Vl⟩:=ZD
 cases Vl
 refine sV (iG (Call_ (Ag S2 I2 (j:=6) rfl rfl (Fl X) (by decide +kernel) ?_) (by rfl)))
 refine cY (P:=fun h=>∀ b o,am.get? b=some o→h.get? b=some o) rfl sJ (eE (f5 (gI (gy S2.kind (S2.slots 3 _ _ rfl rfl) (S2.loc▸I2.fr.ns) Ot (hM ⟨I2.fr.keep,?_⟩)) (by decide +kernel)) rfl))
 refine (?_:ag _ _ (call (.type "list") [.ref (sP (H.length+1))]) _ _ _)
 refine AE (d:=d+1) X ZB hz wk Bb sz hw mo (by rw [fh];exact hb) T2 WM fun sQ s3 x3 I3 Z3=>?_
 obtain ⟨p3,I3⟩:=I3
 have JP:=x2.to2 x3
 rw [C3] at JP
 have Po:(HS (AG H x [] true++[.list (rQ ws)]) H.length (H.length+3) (H.length+2) (H.length+4) (H.length+5) x .none [] p3).length=H.length+7:=by rw [u5,aI,C3];rfl
 have Rd:∀ j < H.length,sQ j=α j:=fun j hj=>JP.al j hj
 obtain ⟨sl,UG⟩:=JP.WI
 have I4:Inv am L m sQ (HS (AG H x [] true++[.list (rQ ws)]) H.length (H.length+3) (H.length+2) (H.length+4) (H.length+5) x .none [] p3) s3.heap:=by
  refine ⟨⟨(VT _ Ux Uy UG M5 rL),I3.fr.keep,I.fr.above⟩,fun j hj=>⟨(I3.low j hj).1,?_⟩,I3.inj,I3.obj⟩
  by_cases q:j < H.length
  ·rw [Rd j q];exact (I.low j q).2
  ·have:=JP.new j (bC q) (by rw [Po] at hj;exact hj)
   exact br (aC (dj LP tO) this)
 obtain ⟨G,hG⟩ : ∃ G,HS (AG H x [] true++[.list (rQ ws)]) H.length (H.length+3) (H.length+2) (H.length+4) (H.length+5) x .none [] p3=H++G:=by
  unfold HS AG
  rw [ak,mt (ar _),mt (lR 2 lO)]
  exact ⟨_,rfl⟩
 have LS:(HS (AG H x [] true++[.list (rQ ws)]) H.length (H.length+3) (H.length+2) (H.length+4) (H.length+5) x .none [] p3)[H.length+6]?=some (.list (rQ ws)):=by
  unfold HS
  rw [aF (lL (lR 3 lO)),aF (lL (lR 5 lO)),aK (lE C3),C3,eO]
  rfl
 rw [hG] at I4 LS Po
 have I5:=I4.pick LS (lR 6 lO) yc (fun j o e=>(I.obj j o e).y6)
 refine c (put sQ H.length (sQ (H.length+6))) s3 _ ⟨fun j hj=>?_,bX _,aj (bp tO) JP.size,fun b o q hL uG=>?_,fun j a b=>?_⟩ I5 ?_ ⟨Z3.os.trans Z2.os,fun z=>Z3.gens (Z2.gens z)⟩
 ·rw [r8 _ _ (ax hj)];exact Rd j hj
 ·exact JP.keep b o (hk b o q) (ax (aH q)) hL uG
 ·have:j=H.length:=lA (lD 1 b) a
  subst this
  rw [nn]
  exact aj (bp tO) (JP.new _ (lR 6 lO) lO)
 ·have:=pp.ref (h:=s3.heap) (α:=put sQ H.length (sQ (H.length+6))) (n:=H.length+1) (k:=H.length) (bB _)
  rw [nn] at this
  rw [C3]
  exact this
end
noncomputable def IO (t q:Nat):AO:=.raw (max (t+2) (q+1)) fun α o=>o={cls:=.type "zip",dict:=none,data:=.fields #[bP (α q),.bool false,.bool false,.ref (α t),.ref (α (t+1))],slots:=#[]}
noncomputable def yj (i j:Int):AO:=.raw 0 fun _ o=>∃ t u,o={cls:=.type "tuple",data:=.seq #[.int i t,.int j u]}
section
variable {H:AH}
theorem Be {α:Nat→Addr} {n t p l k z:Nat} (inj:∀ i j,i < n→j < n→α i=α j→i=j) (D:[t,t+1,p,p+1,l,k,z].Nodup) (hz:z < n) (hT:t < n) (hO:t+1 < n) (h1:p < n) (h2:p+1 < n) (hl:l < n) (hk:k < n):iP (α z) (α t) (α (t+1)) (α p) (α (p+1)) (α l) (α k):=by
 replace D:=PV.mp D
 obtain ⟨⟨_,_,_,_,_,_⟩,⟨_,_,_,_,_⟩,⟨_,_,_,_⟩,⟨_,_,_⟩,⟨_,_⟩,_,_⟩:=D
 constructor <;> refine (fun e=>absurd (inj _ _ ?_ ?_ e) ?_) <;> first | assumption | exact aq (by assumption)
set_option tactic.hygienic true in
theorem LU {z t p k l i ep:Nat} {es:List (List Nat×Int)} {ys:List Int} {R:Option AV→AH→Prop} (hz:H[z]?=some (vb t)) (Bc:H[t]?=some (CR p)) (BW:H[t+1]?=some Cb) (h1:H[p]?=some (uQ l i es.length ep)) (h2:H[p+1]?=some (.iter k i))
  (hl:H[l]?=some (sa an w es ep)) (hk:H[k]?=some (.list (ys.map .int))) (D:[t,t+1,p,p+1,l,k,z].Nodup)
  (r1:∀ key x y,es[i]?=some (key,x)→ys[i]?=some y→R (some (.ref H.length)) (((((H.set z (IO t H.length)).set (t+1) Cb).set p (uQ l (i+1) es.length ep)).set (p+1) (.iter k (i+1)))++[yj x y])) (MU:es[i]?≠none) (NN:ys[i]?≠none):NX an w am d H z R:=by
 intro A L m α s Q E hr I GU c
 obtain ⟨_,_,oz,gz,rfl⟩:=I.obj z _ hz
 obtain ⟨_,_,ot,gt,rfl⟩:=I.obj t _ Bc
 obtain ⟨_,_,ou,gu,a,b,rfl⟩:=I.obj (t+1) _ BW
 obtain ⟨kvs,BF,DD⟩:=I.dictAt hl
 obtain ⟨_,_,o1,g1,Ej,Q7⟩:=I.obj p _ h1
 have ZE:=I.zQ h2
 obtain ⟨us,n,gk,AM,VV⟩:=I.isList hk
 cases hx:es[i]? with
 | none=>exact absurd hx MU
 | some kx =>
 cases hy:ys[i]? with
 | none=>exact absurd hy NN
 | some y =>
 obtain ⟨key,x⟩:=kx
 obtain ⟨tx,ZF⟩:=BF.2 i key x hx
 obtain ⟨yv,ZG,Y⟩:=VV.get (i:=i) (a:=.int y) (by rw [bu,hy];rfl)
 cases Y
 rename_i ty
 have lt:∀ {j:Nat} {o:AO},H[j]?=some o→j < H.length:=fun e=>(rK e)
 have ZA:=Be (fun i j=>I.inj i j) D (rK hz) (rK Bc) (rK BW) (rK h1) (rK h2) (rK hl) (rK hk)
 replace D:=PV.mp D
 have ne:∀ {i j:Nat},i < H.length→j < H.length→i≠j→α i≠α j:=fun hi hj n e=>n (I.inj _ _ hi hj e)
 have lz:=lt hz;have lT:=lt Bc;have lO:=lt BW;have l1:=lt h1;have l2:=lt h2;have ll:=lt hl;have lk:=lt hk
 refine Ad hr.handled ZA gz gt gu (kvs:=kvs) (k1:=i) (k2:=i) (k:=⟨key.toArray⟩) (x:=.int x tx) (y:=.int y ty) (sN o1 g1 Ej (by rw [BF.1];exact Q7)) DD ZE AM ZF (by simpa using ZG) fun h' b1 b2 b3 b4 b5 b6 b7=>?_
 have mo:(((((H.set z (IO t H.length)).set (t+1) Cb).set p (uQ l (i+1) es.length ep)).set (p+1) (.iter k (i+1)))++[yj x y]).length=H.length+1:=by simp
 have xt:Ext L α (put α H.length s.heap.objs.size) H.length (H.length+1) s.heap h':=⟨fun k hk=>r8 _ _ (ax hk),bX _,by rw [b6];exact bX _,fun b o e _ hb=>b7 b o (hb z lz) (hb _ lO) (hb p l1) (hb _ l2) e,fun k h1 h2=>by
  have:k=H.length:=lA (lD 1 h2) h1
  subst this
  rw [nn];exact ar _⟩
 have pe:∀ {j:Nat},j < H.length→put α H.length s.heap.objs.size j=α j:=fun hj=>r8 _ _ (ax hj)
 refine c _ _ (put α H.length s.heap.objs.size) _ {s with heap:=h'} (r1 key x y hx hy) (mo.symm▸xt) (I.many (mo.symm▸xt) (fun o e=>b7 L o (aq (I.low z lz).2) (aq (I.low _ lO).2) (aq (I.low p l1).2) (aq (I.low _ l2).2) e) (by rw [mo];exact ar _) fun j o e=>?_) ?_ ⟨rfl,id⟩
 ·rw [mo]
  by_cases hj:j < H.length
  ·rw [aR (by simpa using hj)] at e
   rw [pe hj]
   by_cases j1:j=p+1
   ·subst j1
    rw [az (by simpa using hj)] at e
    obtain rfl:=ay e
    exact .inr ⟨lR 1 lk,by rw [pe lk];exact b4⟩
   rw [aF (aq j1)] at e
   by_cases j2:j=p
   ·subst j2
    rw [az (by simpa using hj)] at e
    obtain rfl:=ay e
    obtain ⟨ov,ZH,q1,q2⟩:=b3
    exact .inr (sS (by lia) (fun β Dp=>by funext o;simp only [Dp l (bB _)]) (sN ov ZH q1 (by rw [pe ll,q2,BF.1])))
   rw [aF (aq j2)] at e
   by_cases j3:j=t+1
   ·subst j3
    rw [az (by simpa using hj)] at e
    obtain rfl:=ay e
    exact .inr (sS (lR 1 lZ) (fun β Dp=>rfl) (i12 _ b2 (Km _ _ rfl)))
   rw [aF (aq j3)] at e
   by_cases j4:j=z
   ·subst j4
    rw [az (by simpa using hj)] at e
    obtain rfl:=ay e
    refine .inr (sS (Nat.max_le.mpr ⟨dP lT,ar _⟩) (fun β Dp=>by funext o;simp only [Dp H.length (Nat.le_max_right _ _),Dp t (by lia),Dp (t+1) (Nat.le_max_left _ _)]) (i12 _ b1 ?_))
    simp only [nn,pe lT,pe lO]
   rw [aF (aq j4)] at e
   exact .inl (sS hj e (fun ob g=>b7 _ ob (ne hj lz j4) (ne hj lO j3) (ne hj l1 j2) (ne hj l2 j1) g))
  ·have:j=H.length:=by
    have:=(rK e)
    rw [mo] at this
    exact lA (lD 1 this) (lN hj)
   subst this
   rw [aK (by simp)] at e
   simp at e
   subst e
   rw [nn]
   exact .inr (sS (lR 1 lZ) (fun β Dp=>rfl) (i12 _ b5 (Km _ _ rfl)))
 ·rw [mo]
  have:pp h' (put α H.length s.heap.objs.size) (H.length+1) (.ref H.length) (.ref (put α H.length s.heap.objs.size H.length)):=.ref (bB _)
  rw [nn] at this
  exact .some this
end
section
variable {nm:List Str} {ρ:List ci} {H:AH}
theorem OF {z t q j:Nat} {es:List Expr} {p:Pos} {R:AH→Prop} (hz:H[z]?=some (IO t q)) (r:R (H.set z (vb t))):LG an w am d H (.Tuple es j p) z (.ref q) R:=by
 intro A L m α s Q E v hr I GU V c
 refine V.sO fun _=>?_
 obtain ⟨hb,_,oz,gz,rfl⟩:=I.obj z _ hz
 refine wpAny_letOwnedTupleGo_zip gz fun h' PY hs=>?_
 obtain ⟨xt,I'⟩:=I.BA GU hs (ao:=vb t) (sS (by lia) (fun β Dp=>by funext o;simp only [Dp t (lR 1 lO),Dp (t+1) lO]) (i12 _ PY rfl))
 exact c α _ {s with heap:=h'} r xt I' ⟨rfl,id⟩
theorem LV {t1 t2:Expr} {k q:Nat} {p:Pos} {x y:Int} {R:List ci→AH→Prop} (hq:H[q]?=some (yj x y)) (h:AS an w am d nm ρ H t1 (.int x) (Sw an w am d nm t2 (.int y) R))
  (he:∀ be,mQ [t1,t2] be=[(false,cL t1 be),(false,cL t2 be)]:=by intro _;rfl):AS an w am d nm ρ H (.Tuple [t1,t2] k p) (.ref q) R:=by
 intro be A L m α s Q E v hr S I D V kk
 refine V.sO fun _=>?_
 obtain ⟨_,_,ob,g,tx,ty,rfl⟩:=I.obj q _ hq
 have ht:IsTup s.heap (α q) #[.int x tx,.int y ty]:=(sN _ g rfl (Au _ rfl))
 rw [mx]
 refine ab (dq ?_)
 rw [he be]
 refine v5 hr.handled ht rfl rfl fun h' hx hz=>?_
 obtain ⟨x1,I1⟩:=I.vf (h':=h') (fun b o e=>hx b o (ax (aH e)) e) hz
 refine gq (h be A L m α {s with heap:=h'} _ E _ hr (S.ext x1) I1 (D.ext x1 I.kt) (.int x tx) fun wn m2 sP H2 s2 h2 x2 I2 S2 D2 Z2=>?_)
 refine gq (h2 be A L m2 sP s2 _ E _ hr S2 I2 D2 (.int y ty) fun Dq m3 sQ H3 s3 h3 x3 I3 S3 D3 Z3=>?_)
 exact lp (kk Dq m3 sQ H3 s3 h3 ((x1.trans x2).trans x3) I3 S3 D3 ((rM.trans (s:=s) (s':={s with heap:=h'}) ⟨rfl,id⟩ Z2).trans Z3))
end
section
variable {H:AH}
theorem IP {z t:Nat} (hz:H[z]?=some (vb t)):SI an w am d H z:=fun A L m α s Q E hr I GU q=>by
 obtain ⟨_,_,oz,gz,rfl⟩:=I.obj z _ hz
 exact wpAny_pyIter_zip gz q
theorem C4 {z t p k l i ep:Nat} {es:List (List Nat×Int)} {R:Option AV→AH→Prop} (hz:H[z]?=some (vb t)) (Bc:H[t]?=some (CR p)) (BW:H[t+1]?=some Cb) (h1:H[p]?=some (uQ l i es.length ep)) (h2:H[p+1]?=some (.iter k i))
  (hl:H[l]?=some (sa an w es ep)) {ys:List Int} (hk:H[k]?=some (.list (ys.map .int))) (D:[t,t+1,p,p+1,l,k,z].Nodup) (he:es[i]?=none) (r:R none ((H.set z .s9).set p .s9)):NX an w am d H z R:=by
 intro A L m α s Q E hr I GU c
 obtain ⟨_,_,oz,gz,rfl⟩:=I.obj z _ hz
 obtain ⟨_,_,ot,gt,rfl⟩:=I.obj t _ Bc
 obtain ⟨_,_,ou,gu,a,b,rfl⟩:=I.obj (t+1) _ BW
 obtain ⟨kvs,BF,DD⟩:=I.dictAt hl
 obtain ⟨_,_,o1,g1,Ej,Q7⟩:=I.obj p _ h1
 have lt:∀ {j:Nat} {o:AO},H[j]?=some o→j < H.length:=fun e=>(rK e)
 have ZA:=Be (fun i j=>I.inj i j) D (rK hz) (rK Bc) (rK BW) (rK h1) (rK h2) (rK hl) (rK hk)
 replace D:=PV.mp D
 have ne:∀ {i j:Nat},i < H.length→j < H.length→i≠j→α i≠α j:=fun hi hj n e=>n (I.inj _ _ hi hj e)
 have lz:=lt hz;have lT:=lt Bc;have lO:=lt BW;have l1:=lt h1;have l2:=lt h2;have ll:=lt hl;have lk:=lt hk
 have M8:kvs[i]?=none:=by
  rw [bM] at he ⊢
  rw [BF.1];exact he
 refine sC (AC hr.handled ZA gz gt gu (kvs:=kvs) (k1:=i) (sN o1 g1 Ej (by rw [BF.1];exact Q7)) DD M8 fun h' b7 Rf=>?_)
 have mo:((H.set z AO.s9).set p .s9).length=H.length:=by simp
 have xt:Ext L α α H.length H.length s.heap h':=⟨fun _ _=>rfl,ar _,Rf,fun b o e _ hb=>b7 b o (hb z lz) (hb p l1) e,fun k h1 h2=>absurd h2 (bG.mpr h1)⟩
 refine c none none α _ {s with heap:=h'} r (mo.symm▸xt) (I.many (mo.symm▸xt) (fun o e=>b7 L o (aq (I.low z lz).2) (aq (I.low p l1).2) e) (by rw [mo];exact bX _) fun j o e=>?_) .none ⟨rfl,id⟩
 rw [mo]
 have hj:j < H.length:=by have:=(rK e);rw [mo] at this;exact this
 by_cases j2:j=p
 ·subst j2
  rw [az (by simpa using hj)] at e
  obtain rfl:=ay e
  exact .inr (aC (I.lt hj) Rf)
 rw [aF (aq j2)] at e
 by_cases j4:j=z
 ·subst j4
  rw [az hj] at e
  obtain rfl:=ay e
  exact .inr (aC (I.lt hj) Rf)
 rw [aF (aq j4)] at e
 exact .inl (sS hj e (fun ob g=>b7 _ ob (ne hj lz j4) (ne hj l1 j2) g))
end
noncomputable abbrev SO:List Str:=[".0","weight","k","most","n","whole"]
noncomputable abbrev UH (o1 o2:Option AV) (cm cn cw:Nat):List ci:=[.loc none,.loc o1,.loc o2,.sG cm,.sG cn,.sG cw]
structure Fn (an:aD) (w:aw) (es:List (List Nat×Int)) (ys:List Int) (ep z t p k l i:Nat) (H:AH):Prop where
 hz:H[z]?=some (vb t)
 Bc:H[t]?=some (CR p)
 BW:H[t+1]?=some Cb
 h1:H[p]?=some (uQ l i es.length ep)
 h2:H[p+1]?=some (.iter k i)
 hl:H[l]?=some (sa an w es ep)
 hk:H[k]?=some (.list (ys.map .int))
section
theorem OG {es:List (List Nat×Int)} {ys:List Int} {ep z t p k l pi cm cn cw:Nat} {elt iter:Expr} {scope:aO} {pos p1 p2 p3:Pos} {jt:Nat} {val:Int→Int→AV} {H0:AH} {R:List ci→AH→Prop} (D:[t,t+1,p,p+1,l,k,z].Nodup) (tD:pi∉[t,t+1,p,p+1,l,k,z])
  (mo:ys.length=es.length) (b1:H0.length≤z) (b2:H0.length≤t) (b3:H0.length≤p) (b4:H0.length≤pi)
  (KD:∀ (G:AH) (key:List Nat) (x y:Int),((key,x),y)∈es.zip ys→EX an w am d SO (UH (some (.int x)) (some (.int y)) cm cn cw) (H0++G) (fun be=>eval elt be) (Is (val x y) (H0++G))) :
  ∀ (r i:Nat) (G:AH) (vs:List AV) (o1 o2:Option AV),i+r=es.length→vs.length+r≤100000→Fn an w es ys ep z t p k l i (H0++G)→(H0++G)[pi]?=some (.list vs) →
   (∀ ρ' G',(H0++G')[pi]?=some (.list (vs++((es.zip ys).drop i).map fun e=>val e.1.2 e.2))→R ρ' (H0++G')) →
   SL an w am d SO (UH o1 o2 cm cn cw) (H0++G) z pi (FO elt (.Tuple [.Name "weight" p1,.Name "k" p2] jt p3) iter [] scope pos) R:=by
 simp only [aA,bH,or_false,not_or] at tD
 obtain ⟨a1,a2,a3,a4,a5,a6,a7⟩:=tD
 intro r
 induction r with
 | zero =>
  intro i G vs o1 o2 hi hy Z hv rr
  refine uC (C4 Z.hz Z.Bc Z.BW Z.h1 Z.h2 Z.hl Z.hk D (by rw [bM];exact lS hi) ?_)
  try dsimp only
  have Pf : (((H0++G).set z AO.s9).set p .s9)[pi]?=some (.list vs):=by rw [ce (aq a3),ce (aq a7)];exact hv
  rw [mt b1,mt b3] at Pf ⊢
  refine rr _ _ ?_
  rw [Pf,ki (by simp;exact aj (eY _ _) (aJ hi.symm))]
  simp
 | succ r ih =>
  intro i G vs o1 o2 hi hy Z hv rr
  have hie:i < es.length:=nQ hi
  have ZI:es[i]?≠none:=fun q=>by rw [bM] at q;lia
  have ZJ:ys[i]?≠none:=fun q=>by rw [bM] at q;lia
  refine uC (LU Z.hz Z.Bc Z.BW Z.h1 Z.h2 Z.hl Z.hk D (fun key x y hx ZK=>?_) ZI ZJ)
  try dsimp only
  have lt:∀ {j:Nat} {o:AO},(H0++G)[j]?=some o→j < (H0++G).length:=fun e=>(rK e)
  have lz:=lt Z.hz;have lO:=lt Z.BW;have l1:=lt Z.h1;have l2:=lt Z.h2;have la:=lt hv
  replace D:=PV.mp D
  obtain ⟨⟨d1,d2,d3,d4,d5,d6⟩,⟨d7,d8,d9,ZL,WN⟩,⟨d12,ZM,ZN,WO⟩,⟨ZO,ZP,WP⟩,⟨d19,WQ⟩,WR,_⟩:=D
  generalize hC:((((H0++G).set z (IO t (H0++G).length)).set (t+1) Cb).set p (uQ l (i+1) es.length ep)).set (p+1) (.iter k (i+1))=C
  have WS:C.length=(H0++G).length:=by rw [← hC];simp
  have cz:C[z]?=some (IO t (H0++G).length):=by rw [← hC,ce WP,ce WO,ce WN,az lz]
  refine OF (bv cz) ?_
  have e6:(C++[yj x y]).set z (vb t)=C.set z (vb t)++[yj x y]:=cA _ _ (lT lz (lS WS))
  rw [e6]
  obtain ⟨G1,WT⟩ : ∃ G1,C.set z (vb t)=H0++G1:=by
   rw [← hC,mt b1,mt (lR 1 b2),mt b3,mt (lR 1 b3),mt b1]
   exact ⟨_,rfl⟩
  have Z1:Fn an w es ys ep z t p k l (i+1) (C.set z (vb t)):=by
   rw [← hC]
   refine ⟨az (by simpa using lz),?_,?_,?_,?_,?_,?_⟩
   ·rw [ce (aq d6),ce (aq d3),ce (aq d2),ce (by lia),ce (aq d6)];exact Z.Bc
   ·rw [ce (aq WN),ce (fun q=>d2 (nh q.symm)),ce (aq d7),az (by simpa using lO)]
   ·rw [ce (aq WO),ce (by lia),az (by simpa using l1)]
   ·rw [ce (aq WP),az (by simpa using l2)]
   ·rw [ce (aq WQ),ce ZO,ce ZM,ce d9,ce (aq WQ)];exact Z.hl
   ·rw [ce (aq WR),ce ZP,ce ZN,ce ZL,ce (aq WR)];exact Z.hk
  have v1:(C.set z (vb t))[pi]?=some (.list vs):=by
   rw [← hC,ce (aq a7),ce (aq a4),ce (aq a3),ce (aq a2),ce (aq a7)];exact hv
  have ZQ:(H0++G1).length=(H0++G).length:=by rw [← WT,aP,WS]
  rw [WT] at Z1 v1 ⊢
  refine LV (x:=x) (y:=y) (by rw [← ZQ];simp) (vo 1 rfl rfl (vo 2 rfl rfl (tl ?_)))
  refine tX rfl ?_;rw [ak]
  have WU:(es.zip ys)[i]?=some ((key,x),y):=by rw [iS];exact ⟨hx,ZK⟩
  refine (KD (G1++[yj x y]) key x y (bx WU)).mono ?_
  rintro v H5 ⟨rfl,rfl⟩
  have up:∀ {j:Nat} {o:AO},(H0++G1)[j]?=some o→(H0++(G1++[yj x y]))[j]?=some o:=fun e=>by rw [← ak];exact bv e
  refine (sN vs (up v1) (lR 900000 (lT lI hy)) ?_)
  have GW:=(rK (up v1))
  have g3:=az (a:=AO.list (vs++[val x y])) GW
  have st:∀ {j:Nat} {o:AO},pi≠j→(H0++G1)[j]?=some o→((H0++(G1++[yj x y])).set pi (.list (vs++[val x y])))[j]?=some o:=fun n e=>by rw [ce n];exact up e
  have Z2:Fn an w es ys ep z t p k l (i+1) ((H0++(G1++[yj x y])).set pi (.list (vs++[val x y]))):=⟨st a7 Z1.hz,st a1 Z1.Bc,st a2 Z1.BW,st a3 Z1.h1,st a4 Z1.h2,st a5 Z1.hl,st a6 Z1.hk⟩
  rw [mt b4] at g3 Z2 ⊢
  refine ih (i+1) _ _ _ _ (nN hi) (by simp;exact nO hy) Z2 g3 (fun ρ' G' q=>rr ρ' G' ?_)
  rw [q]
  have hd:(es.zip ys).drop i=((key,x),y)::(es.zip ys).drop (i+1):=by
   obtain ⟨FK,e'⟩:=cQ.mp WU
   rw [ez FK,e']
  rw [hd]
  simp
end
theorem IQ {l:List HP} {i j:Nat} {a b:HP} (hi:i < l.length) (hj:j < l.length) (ne:i≠j):((l.set i a).set j b).Perm ((l.set i b).set j a):=by
 have h:=List.set_set_perm (as:=(l.set i b).set j a) (i:=i) (j:=j) (by simpa using hi) (by simpa using hj)
 have e1:((l.set i b).set j a)[j]'(by simpa using hj)=a:=by simp
 have e2:((l.set i b).set j a)[i]'(by simpa using hi)=b:=by rw [List.getElem_set_ne (aq ne)];simp
 rw [e1,e2] at h
 have e3:(((l.set i b).set j a).set i a).set j b=(l.set i a).set j b:=by
  apply jK
  intro k
  by_cases hk:k=j
  ·subst hk;simp [hj]
  ·by_cases Dr : k=i
   ·subst Dr;simp [qJ,hi,hk,aq hk]
   ·simp [qJ,aq hk,aq Dr]
 rw [e3] at h
 exact h
theorem Bf {l:List HP} {i:Nat} {a:HP} (h:l[i]?=some a):l.set i a=l:=by
 obtain ⟨hl,e⟩:=cQ.mp h
 rw [← e];exact lh hl
theorem zv {l:List HP} {i j:Nat} {q ni:HP} (hi:i < l.length) (hq:l[j]?=some q) (ne:i≠j):((l.set i q).set j ni).Perm (l.set i ni):=by
 have hj:=(rK hq)
 refine (IQ hi hj ne).trans ?_
 rw [Bf (l:=l.set i ni) (by rw [aF ne];exact hq)]
set_option tactic.hygienic true in
theorem Ai (sp:Nat) (ni:HP):∀ (f p:Nat) (xs:List HP),p < xs.length→(wd sp ni f p xs).Perm (xs.set p ni):=by
 intro f
 induction f with
 | zero=>intro p xs h;exact eP _
 | succ f ih =>
  intro p xs h
  rw [zo]
  split
  ·rename_i Wu
   split
   ·rename_i q hq
    split
    ·have hj:=(rK hq)
     exact (ih _ _ (by simpa using hj)).trans (zv h hq (br (nS (zA Wu))))
    ·exact eP _
   ·exact eP _
  ·exact eP _
set_option tactic.hygienic true in
theorem sup_spec (ni:HP):∀ (f p:Nat) (xs:List HP),p < xs.length→(sup f p xs).1 < (sup f p xs).2.length∧((sup f p xs).2.set (sup f p xs).1 ni).Perm (xs.set p ni):=by
 intro f
 induction f with
 | zero=>intro p xs h;exact ⟨h,eP _⟩
 | succ f ih =>
  intro p xs h
  rw [AT]
  split
  ·exact ⟨h,eP _⟩
  ·rename_i a ha
   have h1:=(rK ha)
   split
   ·rename_i b hb
    have h2:=(rK hb)
    split
    ·have:=ih (2 * p+1) (xs.set p a) (by simpa using h1)
     exact ⟨this.1,this.2.trans (zv h ha (nR _))⟩
    ·have:=ih (2 * p+2) (xs.set p b) (by simpa using h2)
     exact ⟨this.1,this.2.trans (zv h hb (XJ _))⟩
   ·have:=ih (2 * p+1) (xs.set p a) (by simpa using h1)
    exact ⟨this.1,this.2.trans (zv h ha (nR _))⟩
theorem ze {p:Nat} {ni:HP} {xs:List HP} (h:p < xs.length):(v4 p ni xs).Perm (xs.set p ni):=by
 unfold v4
 obtain ⟨h1,h2⟩:=sup_spec ni xs.length p xs h
 refine (Ai _ _ _ _ _ (by simpa using h1)).trans ?_
 rw [bQ]
 exact h2
theorem r5 (xs:List HP) (x:HP):(rW xs x).Perm (x::xs):=by
 unfold rW
 refine (Ai _ _ _ _ _ (by simp)).trans ?_
 have:(xs++[x]).set xs.length x=xs++[x]:=Bf (by simp)
 rw [this]
 exact k9 x xs
theorem ur (a:HP) (t:List HP) (x:HP):(tg (a::t) x).Perm (x::t):=by
 unfold tg
 exact (ze (by simp)).trans (by simp)
theorem Gs {a:HP} {t:List HP} {x:HP} (hx:(a::t).getLast?=some x):(Cv (a::t) x).Perm t:=by
 unfold Cv
 cases t with
 | nil=>simp
 | cons b r =>
  have e:(a::b::r).dropLast=a::(b::r).dropLast:=rfl
  rw [e]
  refine (?_:(v4 0 x ((a::(b::r).dropLast).set 0 x)).Perm _)
  refine (ze (by simp)).trans ?_
  simp only [List.set_cons_zero]
  have h2:(b::r).getLast?=some x:=by simpa using hx
  have h3:(b::r).dropLast++[x]=b::r:=by
   obtain ⟨h0,e0⟩ : ∃ h0,(b::r).getLast h0=x:=⟨by simp,by rw [qR (by simp)] at h2;exact ay h2⟩
   rw [← e0];exact List.dropLast_concat_getLast h0
  refine (k9 x _).symm.trans ?_
  rw [h3]
noncomputable def ZR:List Stmt:=fBody (vP pw 32)
noncomputable def C5:AO:=.raw 1 (fun α o=>α 0=788∧o={cls:=.none,data:=.fields #[]})
noncomputable def wF : AO:=.raw 1 (fun α o=>α 0=788∧∃ ps,o={cls:=.none,data:=.fields ps})
section
theorem Inv.LW {h h' : Heap} {L:Addr} {m:Str→Option aa} {α:Nat→Addr} {H:AH} (I:Inv am L m α H h) {k:Nat} {ao:AO} (hk:k < H.length) (hb:eX (α k) h h') (hz:h.objs.size≤h'.objs.size) (r:tP h' α H.length (α k) ao) :
  Ext L α α H.length (H.set k ao).length h h'∧Inv am L m α (H.set k ao) h':=by
 have xt:Ext L α α H.length H.length h h':=⟨fun _ _=>rfl,ar _,hz,fun b o e _ uw=>hb b o (uw k hk) e,fun _ a b=>absurd b (bG.mpr a)⟩
 have mo:(H.set k ao).length=H.length:=aP
 refine ⟨mo.symm▸xt,?_,fun i hi=>I.low i (mo▸hi),fun i j hi hj=>I.inj i j (mo▸hi) (mo▸hj),fun j o e=>?_⟩
 ·exact ⟨I.fr.ns.extBut hb (aq (I.low k hk).2),fun b o e=>hb b o (ne_old (I.low k hk).1 e) (I.fr.keep b o e),I.fr.above⟩
 ·rw [mo]
  by_cases q:j=k
  ·subst q
   rw [az hk] at e
   obtain rfl:=ay e
   exact r
  ·rw [aF (fun z=>q z.symm)] at e
   have hj:=(rK e)
   exact (I.obj j o e).ext xt I.kt fun ob g=>hb _ _ (fun z=>q (I.inj j k hj hk z)) g
theorem Gu {x:List Nat} (h:x.length≤3):(pt x).length≤17:=by
 unfold pt
 split
 ·decide
 ·have:=CA x
  unfold u1 at this
  simp only [aI,aS,cS]
  exact aj (eQ (aj this (cy 5 h)) 2) (by decide)
theorem Bg:∀ xs:List (List Nat),(∀ x∈xs,x.length≤3)→(xs.map fun x=>(pt x).length).sum≤17 * xs.length:=by
 intro v_
 induction v_ with
 | nil =>
  intro _
  simp
 | cons x xs sg =>
  intro h
  have h1:=Gu (h x aZ)
  have h2:=sg fun y hy=>h y (ba _ hy)
  simp only [bD,pP,aS]
  exact Tn h1 h2
theorem B2 (X:(KK w.params).In am) {xs:List (List Nat)} {k:Nat} {H:AH} (h0:H[0]?=some C5) (hk:H[k]?=some (.list (rQ xs))) (hx:∀ x∈xs,(∀ y∈x,tT y=true)∧x.length≤3) (hz:xs.length≤1000) :
  FN an w am (d+2) (.ref 793) H [.ref k] [] (Is (.str (sA [32] (xs.map pt))) (H.set 0 wF)):=by
 intro A L m α s Q E vs hr I V kk
 obtain ⟨v,rfl,hv⟩ : ∃ v,vs=[v]∧pp s.heap α H.length (.ref k) v:=by
  cases V with
  | cons a r=>refine r.t0 ?_;exact (i12 _ rfl a)
 cases hv with
 | ref sj =>
 have OH:0 < H.length:=(rK h0)
 obtain ⟨_,_,o8,Rg,uG,ZS⟩:=I.obj 0 _ h0
 rw [uG] at Rg
 have ZT:k≠0:=fun q=>by subst q;rw [h0] at hk;exact nomatch hk
 have WV:α k≠788:=fun q=>ZT (I.inj k 0 sj OH (q.trans uG.symm))
 obtain ⟨xC,ep,Fo,VV⟩:=I.obj k _ hk
 obtain ⟨ps,rfl,Sg⟩:=po.strs VV
 have WX:am.get? 788=none:=uG▸(I.low 0 OH).1
 have Xs:(KK w.params).In s.heap:=X.keeps I.fr.keep
 subst ZS
 have UI:s.heap.TableAt 792 788 #[]:=⟨(Nv _ _ (Xs 792 (Bs tw w.params) (by kernel_rfl)) rfl rfl rfl),Rg⟩
 have Rh:s.heap.IsCode 792 788 #[]:=⟨_,_,_,_,_,_,_,_,_,_,Xs 792 (Bs tw w.params) (by kernel_rfl),rfl,rfl,rfl,rfl,rfl,rfl,Rg,rfl,trivial,by decide⟩
 obtain ⟨fd,F,Lg,ZU⟩ : ∃ fd,Ck s.heap 793 fd ZR ["split_command"] [] []∧(∀ a,dH fd ⟨[a],[]⟩=pure [(aB "split_command",a)])∧fd.code=.ref 792 :=
  (sN _ (u0 Xs (o:=Ka tw w.params) (by kernel_rfl) rfl (by kernel_rfl) rfl (by kernel_rfl)) (fun a=>by kernel_rfl) (by kernel_rfl))
 obtain ⟨o,ho,yH⟩:=F.at_
 have OI:=hr.depth
 refine dg (ix (binds:=[(aB "split_command",.ref (α k))]) (lD 8 (lR 8 (lT (lU 9 lI) OI))) ho yH F.nolimit F.code F.body (.of_eq (Lg _)) F.wq (fun y hy=>?_) (fun rJ xk vA=>?_) F.co F.gen F.kind)
 ·rw [aU.mp hy];exact F.locals _ (by simp)
 dsimp only [hZ]
 have ZV:∀ {A' : au} {pos:Pos} (s1:af) {Q' E' : aa→af→Prop},s1.heap.Ns s.heap.objs.size (fun y=>gZ y [(aB "split_command",dz (α k))].reverse)→Q' (.ref (α k)) s1→ag (ah an w) A' (eval (.Name "split_command" pos) (bF fd s.heap.objs.size 793)) Q' E' s1 :=
  fun s1 Q' E' hn h=>gI (gy (show (bF fd s.heap.objs.size 793).scope.kind=.function from F.kind) (F.locals _ (by simp)) hn (by rfl) h) (by decide +kernel)
 refine sV (iG (fU (fS (GM.join ?_)) (by rfl)))
 refine cY (P:=fun h=>True) rfl (fun h _=>nw (am:=h) h (fun b o e=>e)) (eE ?_)
 refine Calls.spliced_cons ?_
 have LL:rJ.IsList (α k) (bc ps).toArray:=(sN _ (vA _ _ Fo) rfl (Au _ rfl))
 refine wpAny_GeneratorExp_walksQD hr.handled rfl (cl:=[]) rfl (by decide +kernel) (by decide +kernel) (by decide +kernel) rfl (by refine (?_:A.depth+1 < kc);exact lD 7 (lR 7 (lT (lU 9 lI) OI))) (ZV _ xk (ie LL ⟨F.nolimit.keeps fun b o e=>bT _ (vA b o e),?_⟩)) (fun _=>rfl)
 have u7:∀ b o,s.heap.get? b=some o→(rJ.push {cls:=.type "list_iterator",data:=.fields #[.ref (α k),.int 0 0]}).get? b=some o:=fun b o e=>bT _ (vA b o e)
 have SP:s.heap.objs.size < rJ.objs.size:=xk.lt
 refine wpAny_genexprCodeX (hc:=ZU) (Rh.keeps u7) (UI.keeps u7) rfl fun code vB WY IR _ _ _ _ ZW _=>?_
 have K3:∀ b o,b≠788→s.heap.get? b=some o→vB.get? b=some o:=fun b o hb e=>IR b o hb (u7 b o e)
 have X3:(KK w.params).In vB:=fun b o e=>K3 b o (ne_old WX (X b o e)) (Xs b o e)
 have K0:∀ b o,am.get? b=some o→vB.get? b=some o:=fun b o e=>K3 b o (ne_old WX e) (I.fr.keep b o e)
 have WZ:vB.IsListIter rJ.objs.size (α k) 0:=(sN _ (IR _ _ (fun q=>by have h1:=aH Rg;have h2:@Eq Nat rJ.objs.size 788:=q;have h3:788 < s.heap.objs.size:=h1;lia) (bj _ rfl)) rfl rfl)
 have UJ:vB.IsList (α k) (bc ps).toArray:=(sN _ (K3 _ _ WV Fo) rfl (Au _ rfl))
 have ZX:s.heap.NoLimit:=xU Xs
 have ZY:vB.NoLimit:=xU X3
 have ZZ:rJ.objs.size < vB.objs.size:=let ⟨_,e,_⟩:=WZ;aH e
 have Z0:α k < vB.objs.size:=aH (K3 _ _ WV Fo)
 refine (cM (M:=ah an w) X3 (r:=fQ) (t:=builtinsFor (bF fd s.heap.objs.size 793).globals (bF fd s.heap.objs.size 793).builtins) (by
  refine (?_:peek _ _ (builtinsFor fd.globals fd.builtins)=_)
  rw [F.rc,F.blt];kernel_rfl)).here ?_
 refine ⟨rJ.objs.size,[rJ.objs.size,α k],[rJ.objs.size],(bc ps).toArray.size,_,_,fun _=>true,fun i y=>∃ (x:List Nat) (u:Tok),xs[i]?=some x∧y=.str ⟨(pt x).toArray⟩ u,rfl,fun A' Z8=>ny Z8 _ _ (fun q=>by
  have h1:=aH Fo;have h2:@Eq Nat (α k) rJ.objs.size:=q;have h3:@dM Nat _ (α k) s.heap.objs.size:=h1;lia) _,⟨WZ,UJ⟩,?_,ZY,?_,?_,?_⟩
 ·intro b hb
  rcases aA.mp hb with rfl | hb
  ·exact ZZ
  ·rw [aU.mp hb];exact Z0
 ·intro hm
  have h1:=aU.mp hm
  obtain ⟨_,hn,_⟩:=ZX
  have h2:=hn.lt
  have h3:@Eq Nat cStatics rJ.objs.size:=h1
  have h4:@dM Nat _ cStatics s.heap.objs.size:=h2
  lia
 ·intro Z9 Ri
  have word:∀ (i:Nat) (v:aa),(bc ps).toArray[i]?=some v→∃ x t,xs[i]?=some x∧v=.str ⟨x.toArray⟩ t:=by
   intro i v e
   have e1:(ps.map (·.1))[i]?=(xs.map fun x=>(⟨x.toArray⟩ : Str))[i]?:=by rw [Sg]
   rw [bu,bu] at e1
   have e2:(ps.map fun p=>fX p.1 p.2)[i]?=some v:=by simpa [bc] using e
   rw [bu] at e2
   cases q:ps[i]? with
   | none=>rw [q] at e2;exact uH e2
   | some p =>
    rw [q] at e1 e2
    cases q2:xs[i]? with
    | none=>rw [q2] at e1;exact nomatch e1
    | some x =>
     rw [q2] at e1
     have e1:p.1=⟨x.toArray⟩:=by simpa using e1
     have e2:fX p.1 p.2=v:=by simpa using e2
     exact (tW x p.2 rfl (by rw [← e2,e1]))
  refine ⟨fun A' E' i v Gv m₂ hA hD hU hP hn hm Qk=>ai (vm rfl (tW Gv.heap Gv.toks rfl (fun _ _ e=>e))),fun A' E' i v Gv m₂ hA hD hU hP _ hn hm Qk=>?_⟩
  have K2:∀ b o,am.get? b=some o→Gv.heap.get? b=some o:=fun b o e=>Qk b (dc.mpr (aH (K0 b o e))) (fun UK=>by
   have h1:=aU.mp UK
   have h2:@dM Nat _ b s.heap.objs.size:=aH (I.fr.keep b o e)
   have h3:@Eq Nat b rJ.objs.size:=h1
   exact lX SP (lR 1 (lT (lU 1 (lS h1)) h2))) o (Ri b o (K0 b o e))
  have X2:=X.keeps K2
  obtain ⟨x,t,SQ,rfl⟩:=word i v hP
  obtain ⟨IG,hx3⟩:=hx x (bx SQ)
  refine Call_ (g7 rfl (by kernel_rfl) (jN (mg:=fx (KJ (AK tw w.params).data)) (v:=.ref 801) (by
   refine (?_:Gv.heap.Ns fd.globals _)
   rw [F.rc];exact xT X2) (by kernel_rfl) ?_) (by decide +kernel)) (by rfl)
  refine cY (P:=fun h=>∀ b o,Gv.heap.get? b=some o→h.get? b=some o) rfl (tC X2 (by kernel_rfl)) (eE (f5 (gI (gy rfl (by kernel_rfl) hn hm (hM ⟨fun _ _ e=>e,?_⟩)) (by decide +kernel)) rfl))
  refine DS X2 (by
   have h1:A'.depth≤A.depth+1+1:=hD
   exact To OI h1) IG hx3 fun t' tk h' Dr=>(vm (tW x t' SQ rfl) (tW h' tk rfl Dr))
 ·intro a wC tk gs hgb W0 UL Bh W hst
  refine Calls.spliced_nil ⟨trivial,?_⟩
  have mo:ps.length=xs.length:=by simpa using congrArg eZ Sg
  have Rj:passing (fun _=>true) (bc ps).toArray.size 0=bq xs.length:=by unfold passing;simp [bc,mo]
  rw [Rj] at W
  refine SC.joinGen W.in4_2 (fun i s' st=>st.1.typeIs) hst ?_ aZ (fun i v hv=>?_) (fun s' lt hm tD=>?_) (by rw [ji,cD];exact lR 16776216 hz)
  ·intro b hb
   refine (?_:b < wC.objs.size)
   rw [UL]
   rcases aA.mp hb with rfl | hb
   ·exact bB _
   ·rcases aA.mp hb with rfl | hb
    ·exact bJ W0
    ·exact bJ (dj (dc.mp hb) W0)
  ·obtain ⟨j,_,x,u,_,rfl⟩:=hv
   exact (Km _ u rfl)
  ·have tO:lt.map (·.1)=(xs.map pt).map fun x=>(⟨x.toArray⟩ : Str):=by
    have xZ:lt.length=xs.length:=by simpa [bc] using tD.1
    apply jK
    intro j
    by_cases hj:j < xs.length
    ·have Qv : j < lt.length:=xZ▸hj
     obtain ⟨i,hi,x,u,SQ,hv⟩:=tD.2 j (.str lt[j].1 lt[j].2) (by simp [bc,aQ Qv])
     rw [mP hj] at hi
     obtain rfl:=ay hi
     injection hv with h1 _
     simp [aQ Qv,SQ,h1]
    ·rw [e9 (by simpa [xZ] using bC hj),e9 (by simpa using bC hj)]
   rw [tO]
   refine ⟨?_,fun t' Wf=>?_⟩
   ·refine joinOk_of_weight ?_ (by decide)
    have hq:=Bg xs fun x SD=>(hx x SD).2
    simp only [aX,aM]
    have e:(xs.map ((fun y:Str=>y.length) ∘ (fun x:List Nat=>(⟨x.toArray⟩ : Str)) ∘ pt)).sum=(xs.map fun x=>(pt x).length).sum:=rfl
    rw [e]
    exact aj (fu (aj hq (cy 17 hz)) hz) (by decide)
   ·have e32:aB " "=⟨[32].toArray⟩:=rfl
    rw [e32,z3]
    have K5:∀ b o,b < vB.objs.size→b≠rJ.objs.size→vB.get? b=some o→s'.heap.get? b=some o:=fun b o tO sz e=>hm.heap b o (fun UK=>by
     rcases aA.mp UK with q | q
     ·have q' : @Eq Nat b vB.objs.size:=q
      have QB : @dM Nat _ b vB.objs.size:=tO
      exact lX tO (lU 1 (lS q))
     ·exact sz (aU.mp q)) (Bh b o e)
    have Ks:∀ b o,b≠788→s.heap.get? b=some o→s'.heap.get? b=some o:=fun b o hb e=>K5 b o (aH (K3 b o hb e)) (fun q=>by
     have q' : @Eq Nat b rJ.objs.size:=q
     have h3:@dM Nat _ b s.heap.objs.size:=aH e
     exact lX SP (lR 1 (lT (lU 1 (lS q)) h3))) (K3 b o hb e)
    have W1:=ZW.2
    have Oq:788 < s.heap.objs.size:=aH Rg
    have h8':=K5 788 _ (aH W1) (fun q=>by
     have q' : @Eq Nat 788 rJ.objs.size:=q
     have UM : @dM Nat _ 788 s.heap.objs.size:=Oq
     exact lX SP (lR 1 (lT (lU 1 (lS q)) Oq))) W1
    have Rf:s.heap.objs.size≤s'.heap.objs.size:=by
     obtain ⟨of,_,_,hof,_⟩:=xk
     have h1:vB.get? s.heap.objs.size=some of:=IR _ _ (fun q=>by
      have q' : @Eq Nat s.heap.objs.size 788:=q
      have UM : @dM Nat _ 788 s.heap.objs.size:=Oq
      exact lX Oq (lU 1 (lE q))) (bT _ hof)
     exact bp (aH (K5 _ _ (aH h1) (fun q=>by
      have q' : @Eq Nat s.heap.objs.size rJ.objs.size:=q
      exact lX SP (lU 1 (lS q))) h1))
    have TT:=I.LW (k:=0) (ao:=wF) (h':=s'.heap) OH (by rw [uG];exact Ks) Rf (sS OH (fun dL ha=>by funext o;refine (?_:(dL 0=788∧_)=(α 0=788∧_));rw [ha 0 (by decide)]) (sN _ (by rw [uG];exact h8') uG (Au _ rfl)))
    refine kk _ _ α _ _ ⟨rfl,rfl⟩ TT.1 TT.2 (.str _ _) ⟨hm.os,fun G=>AllBare.moved (AllBare.push G hgb) hm.gens⟩
end
noncomputable def ae (W:W3) (T:Nat) (x:List Nat):HP:=(-(sM W T x),x)
section
theorem w8 (X:(KK P).In am):GL am "_law_weight" (.ref 815):=su X (by kernel_rfl)
theorem zw (X:(KK P).In am):GL am "heappush" (.ref 51):=su X (by kernel_rfl)
theorem Ek (X:(KK P).In am):GL am "heappop" (.ref 58):=su X (by kernel_rfl)
theorem LX (X:(KK P).In am):GL am "heapreplace" (.ref 65):=su X (by kernel_rfl)
theorem B3 (X:(KK P).In am):GL am "join_shlex" (.ref 793):=su X (by kernel_rfl)
theorem B4 (X:(KK P).In am) {W:W3} (hW:W.Ok) {l T ep ct cw:Nat} {x:List Nat} {H:AH} {R:AV→AH→Prop} {o:Option AV} {p1 p2 p3 p4 p5 p6 p7 p8:Pos} {j:Nat}
  (hl:H[l]?=some (sa an w W.es ep)) (UN:H[cw]?=some (.cell (some (.ref l)))) (LY:H[ct]?=some (.cell (some (.int T)))) (hx:∀ y∈x,tT y=true) (Qt:x.length≤T) (ht:T≤3) (r:R (pv (ae W T x)) H) :
  EX an w am (d+1) [".0","word","_law_weight","turns","weights"] [.loc o,.loc (some (.str x)),.rc,.sG ct,.sG cw] H
   (fun be=>eval (.Tuple [.UnaryOp .USub (.Call (.Name "_law_weight" p1) [.Name "word" p2,.Name "weights" p3,.Name "turns" p4] [] p5) p6,.Name "word" p7] j p8) be) R:=by
 refine vn (bi (vt (io (ti 2 rfl rfl (w8 X) (.mk (tC X (by kernel_rfl)) (bi (lm 1 rfl rfl (bi (uh 4 rfl rfl UN (bi (uh 3 rfl rfl LY (cr ((wY X hW hx hl Qt ht).to ?_)))))))))))))
 exact yF (bi (lm 1 rfl rfl (cr ⟨by simp,r⟩)))
end
theorem u6 {elt:Expr} {gens:List iA} {scope:aO} {pos py:Pos} {y:Str} {line:Nat} (hl:(py.line == pos.line)=true) (hn:(scope.names.any fun (n,k)=>n == y && (k == .local || k == .cell))=false) :
  ∀ be:Env,be.scope.kind=.function→be.kindOf y=some .local→dw (.ListComp elt gens scope pos) (some (.Name y py)) line be=pure true:=by
 intro be h1 h2
 unfold dw
 have e1:be.blockKind=.function:=by unfold Env.blockKind;rw [h1];rfl
 show pure (be.blockKind == .function && be.kindOf y == some .local && py.line == pos.line && !(scope.names.any fun (n,k)=>n == y && (k == .local || k == .cell)))=_
 rw [hl,hn,e1,h2]
 rfl
noncomputable def SR:List Stmt:=fBody (vP pw 39)
noncomputable abbrev Pp:List Str:=["weights","turns","heap","opened","turn","longer","items","_law_weight","range","heapreplace","heappush","join_shlex"]
noncomputable def wG (W:W3) (T:Nat) (s:List HP×List (List Nat)):List HP×List (List Nat) :=
 (rW (rW (tg s.1 (ae W T ((s.1.headD (0,[])).2++[39]))) (ae W T ((s.1.headD (0,[])).2++[32]))) (ae W T ((s.1.headD (0,[])).2++[35])),s.2++[(s.1.headD (0,[])).2])
noncomputable def jp (W:W3) (T:Nat):Nat→List HP×List (List Nat)
 | 0=>([ae W T []],[])
 | n+1=>wG W T (jp W T n)
noncomputable def UO (W:W3) (T n:Nat) (h:List HP):Prop:=∀ a∈h,(∀ y∈a.2,tT y=true)∧a.2.length≤n∧a=ae W T a.2
theorem rs (W:W3) (T:Nat):∀ n,UO W T n (jp W T n).1∧(jp W T n).1.length=2 * n+1∧(jp W T n).2.length=n∧∀ x∈(jp W T n).2,(∀ y∈x,tT y=true)∧x.length≤n:=by
 intro n
 induction n with
 | zero =>
  refine (FE (fun a ha=>?_) rfl rfl (fun x hx=>(by cases hx)))
  have:=aU.mp ha
  subst this
  exact (sS (fun y hy=>(by cases hy)) (ar _) rfl)
 | succ n ih =>
  have h1:=ih.1;have h2:=ih.2.1;have h3:=ih.2.2.1;have h4:=ih.2.2.2
  have e:jp W T (n+1)=wG W T (jp W T n):=rfl
  rw [e]
  generalize jp W T n=s at h1 h2 h3 h4
  obtain ⟨hp,op⟩:=s
  cases hp with
  | nil=>simp at h2
  | cons a t =>
   have ha:=h1 a aZ
   have P1:=ur a t (ae W T (a.2++[39]))
   have P2:=(r5 (tg (a::t) (ae W T (a.2++[39]))) (ae W T (a.2++[32]))).trans (P1.cons _)
   have P3:=(r5 (rW (tg (a::t) (ae W T (a.2++[39]))) (ae W T (a.2++[32]))) (ae W T (a.2++[35]))).trans (P2.cons _)
   have hit:∀ c,tT c=true→(∀ y∈(ae W T (a.2++[c])).2,tT y=true)∧(ae W T (a.2++[c])).2.length≤n+1∧ae W T (a.2++[c])=ae W T (ae W T (a.2++[c])).2:=fun c hc=>(sS (fun y hy=>by
    rcases bV.mp hy with q | q
    ·exact ha.1 y q
    ·rw [aU.mp q];exact hc) (by simp [ae];exact ha.2.1) rfl)
   refine (FE (fun b hb=>?_) ?_ ?_ ?_)
   ·have uw:=P3.mem_iff.mp hb
    rcases aA.mp uw with rfl | uw
    ·exact hit 35 rfl
    ·rcases aA.mp uw with rfl | uw
     ·exact hit 32 rfl
     ·rcases aA.mp uw with rfl | uw
      ·exact hit 39 rfl
      ·have q_:=h1 b (ba _ uw);have q1:=q_.1;have q2:=q_.2.1;have q3:=q_.2.2
       exact (sS q1 (lR 1 q2) q3)
   ·have:=P3.length_eq
    simp only [aS] at this h2
    refine (?_:(rW _ _).length=_)
    simp only [wG,rf]
    exact this.trans (congrArg (·+2) h2)
   ·simp [wG];exact h3
   ·intro x hx
    simp only [wG,rf] at hx
    rcases bV.mp hx with q | q
    ·exact ⟨(h4 x q).1,by have:=(h4 x q).2;exact lR 1 this⟩
    ·rw [aU.mp q];exact ⟨ha.1,lR 1 ha.2.1⟩
section
set_option backward.match.sparseCases false
noncomputable def uf (H:AH) (l T:Nat) (hp:List HP) (op:List (List Nat)):AH:=H++[.cell (some (.ref l)),.cell (some (.int T)),.cell (some (.ref (H.length+3))),rY hp,.list (rQ op)]
theorem tn {H:AH} {l T:Nat} {hp:List HP} {op:List (List Nat)}:(uf H l T hp op).length=H.length+5:=by simp [uf]
theorem uI {H:AH} {l T:Nat} {hp:List HP} {op:List (List Nat)} (G:AH) (i:Nat) (hi:i < 5):(uf H l T hp op++G)[H.length+i]?=[AO.cell (some (.ref l)),.cell (some (.int T)),.cell (some (.ref (H.length+3))),rY hp,.list (rQ op)][i]?:=by
 rw [aR (by rw [tn];exact oB hi)]
 unfold uf
 rw [aK lI]
 congr 1
 exact nB _ _
theorem B5 {H:AH} {l T:Nat} {hp SS : List HP} {op:List (List Nat)} (G:AH):(uf H l T hp op++G).set (H.length+3) (rY SS)=uf H l T SS op++G:=by
 rw [cA _ _ (by rw [tn];exact lR 1 lO)]
 unfold uf
 rw [bY _ _ (lR 3 lO)]
 have:H.length+3 - H.length=3:=nB _ _
 rw [this]
 rfl
theorem OJ {H:AH} {l T:Nat} {hp:List HP} {op xD : List (List Nat)} (G:AH):(uf H l T hp op++G).set (H.length+4) (.list (rQ xD))=uf H l T hp xD++G:=by
 rw [cA _ _ (by rw [tn];exact lO)]
 unfold uf
 rw [bY _ _ (lR 4 lO)]
 have:H.length+4 - H.length=4:=nB _ _
 rw [this]
 rfl
noncomputable abbrev Rk (n:Nat) (ot ol oi:Option AV):List ci:=[.sG n,.sG (n+1),.sG (n+2),.loc (some (.ref (n+4))),.loc ot,.loc ol,.loc oi,.rc,.rc,.rc,.rc,.rc]
theorem LZ (X:(KK P).In am) {W:W3} (hW:W.Ok) {l T ep k:Nat} {H:AH} (hl:H[l]?=some (sa an w W.es ep)) (hT:T≤3) (Bh:H.length+5≤k):∀ (r i:Nat) (G:AH) (ot ol oi:Option AV),i+r=T→(uf H l T (jp W T i).1 (jp W T i).2++G)[k]?=some (rI i r) →
  SF an w am (d+4) Pp (Rk H.length ot ol oi) (uf H l T (jp W T i).1 (jp W T i).2++G) k (fun be it=>.forLoop (fT (nb SR 2)) it (fB (nb SR 2)) (fO (nb SR 2)) be)
   (fun f ρ' H'=>f=.next∧∃ ot ol oi G',ρ'=Rk H.length ot ol oi∧H'=uf H l T (jp W T T).1 (jp W T T).2++G'):=by
 intro r
 induction r with
 | zero =>
  intro i G ot ol oi vR hk
  have:i=T:=lA (lE vR) (lS vR)
  subst this
  refine tQ (sw hk (fun h=>absurd h (by decide)) (fun _=>?_))
  refine ev (vm rfl (TF ot ol oi (G.set (k - (H.length+5)) .s9) rfl ?_))
  rw [mt (by rw [tn];exact Bh),tn]
 | succ r ih =>
  intro i G ot ol oi vR hk
  have q_:=rs W T i;have g1:=q_.1;have g2:=q_.2.1;have g3:=q_.2.2.1;have g4:=q_.2.2.2
  have sj:=(rK hk)
  refine tQ (sw hk (fun _=>?_) (fun h=>absurd h (nE _)))
  refine vo 4 rfl rfl ?_
  have vA:=az (a:=rI ((i:Int)+1) (((r+1:Nat):Int) - 1)) sj
  rw [mt (by rw [tn];exact Bh)] at vA ⊢
  generalize G.set (k - (uf H l T (jp W T i).1 (jp W T i).2).length) (rI ((i:Int)+1) (((r+1:Nat):Int) - 1))=G1 at vA
  obtain ⟨a,t,LS⟩ : ∃ a t,(jp W T i).1=a::t:=by
   cases q:(jp W T i).1 with
   | nil=>rw [q] at g2;simp at g2
   | cons a t=>exact (Km a t rfl)
  generalize JQ:(jp W T i).2=op at *
  rw [LS] at vA g1 g2 ⊢
  have JR:∀ (hp:List HP) (op:List (List Nat)) (G:AH),(uf H l T hp op++G)[l]?=some (sa an w W.es ep):=fun hp op G=>by
   unfold uf
   rw [ak]
   exact bv hl
  have hn:jp W T (i+1)=(rW (rW (tg (a::t) (ae W T (a.2++[39]))) (ae W T (a.2++[32]))) (ae W T (a.2++[35])),op++[a.2]):=by
   refine (?_:wG W T (jp W T i)=_)
   unfold wG
   rw [LS,JQ]
   rfl
  have q_:=g1 a aZ;have w1:=q_.1;have w2:=q_.2.1;have w3:=q_.2.2
  have Rl:∀ (hp:List HP) (op:List (List Nat)) (G:AH),hp[0]?=some a→hp.length≤1000→sT (.ref (H.length+3)) (.int (0:Nat)) (uf H l T hp op++G)=some (pv a):=fun hp op G h0 hz=>tY (uI G 3 (by decide)) h0 (lR 999000 hz)
  refine bd (By (i:=5) (as:=W.es.map fun e=>.str e.1) [".0","letter","heap"] [.loc,.loc,.sG 2 (H.length+2)] (fun v=>[.loc none,.loc (some v),.sG (H.length+2)]) (fun _=>true)
   (fun v=>match v with | .str c=>.str (a.2++c) | v=>v) rfl (by decide +kernel) rfl (u6 (by decide +kernel) (by decide +kernel)) (rO.of (by kernel_rfl) ⟨rfl,trivial⟩) ?_ ?_ ?_ ?_ ?_ ?_ ?_)
  ·exact uh 0 rfl rfl (uI G1 0 (by decide)) (y7 (vE X) (JR _ _ _) rfl)
  ·simp [W3.es]
  ·rintro v hv G sZ (rfl | ⟨b,rfl⟩)
   ·exact vo 1 rfl rfl ⟨rfl,rfl⟩
   ·exact vo 1 rfl rfl ⟨rfl,rfl⟩
  ·intro v hv G
   exact tl ⟨rfl,rfl⟩
  ·intro v hv _ G
   obtain ⟨c,Ej,UP⟩ : ∃ c:List Nat,v=.str c∧c.length≤1:=by
    simp [W3.es] at hv
    rcases hv with rfl | rfl | rfl <;> exact (i12 _ rfl (by simp))
   subst Ej
   rw [ak]
   refine uc (rR (rR (uh 2 rfl rfl (uI _ 2 (by decide)) (f8 (.mk _ (Rl _ _ _ rfl (aj (aJ g2) (aj (dP (cy 2 (aj (mR vR) hT))) (by decide)))) (f8 (.mk _ rfl (lm 1 rfl rfl ((xE (x:=.str (a.2++c)) (H':=_) ?_).to ⟨rfl,rfl⟩)))))))))
   refine (?_:(if a.2.length+c.length≤1000000 then some (AV.str (a.2++c),_) else none)=_)
   rw [if_pos (PO hT vR w2 UP)]
  ·intro v hv _
   simp [W3.es] at hv
   rcases hv with rfl | rfl | rfl <;> rfl
  have Fp:∀ (hp:List HP) (op:List (List Nat)) (G:AH),(uf H l T hp op++G).length=H.length+5+G.length:=fun hp op G=>by rw [aI,tn]
  refine (?_:ST an w am (d+4) Pp (Rk H.length (some (.int i)) (some (.ref (uf H l T (a::t) op++G1).length)) oi) ((uf H l T (a::t) op++G1)++[.list (rQ [a.2++[39],a.2++[32],a.2++[35]])]) _ _)
  rw [Fp,ak]
  have UQ:(uf H l T (a::t) op++(G1++[.list (rQ [a.2++[39],a.2++[32],a.2++[35]])]))[H.length+5+G1.length]?=some (.list (rQ [a.2++[39],a.2++[32],a.2++[35]])):=by
   rw [← ak,← Fp (a::t) op G1];simp
  have u7:(uf H l T (a::t) op++(G1++[.list (rQ [a.2++[39],a.2++[32],a.2++[35]])]))[k]?=some (rI ((i:Int)+1) (((r+1:Nat):Int) - 1)):=by
   rw [← ak];exact bv vA
  generalize (G1++[AO.list (rQ [a.2++[39],a.2++[32],a.2++[35]])])=G2 at UQ u7
  generalize H.length+5+G1.length=j at UQ
  have M9:∀ x∈[a.2++[39],a.2++[32],a.2++[35]],(∀ y∈x,tT y=true)∧x.length≤T:=by
   intro x hx
   simp only [aA,bH,or_false] at hx
   rcases hx with rfl | rfl | rfl
   all_goals
    refine ⟨fun y hy=>?_,by simp;exact bN w2 (nQ vR)⟩
    rcases bV.mp hy with q | q
    ·exact w1 y q
    ·rw [aU.mp q];rfl
  refine bd (By (i:=6) (as:=rQ [a.2++[39],a.2++[32],a.2++[35]]) [".0","word","_law_weight","turns","weights"] [.loc,.loc,.rc,.sG 1 (H.length+1),.sG 0 H.length] (fun v=>[.loc none,.loc (some v),.rc,.sG (H.length+1),.sG H.length]) (fun _=>true)
   (fun v=>match v with | .str c=>pv (ae W T c) | v=>v) rfl (by decide +kernel) rfl (u6 (by decide +kernel) (by decide +kernel)) (rO.of (by kernel_rfl) (sS rfl rfl trivial)) ?_ ?_ ?_ ?_ ?_ ?_ ?_)
  ·exact lm 5 rfl rfl (t9 UQ rfl)
  ·simp [rQ]
  ·rintro v hv G sZ (rfl | ⟨b,rfl⟩)
   ·exact vo 1 rfl rfl ⟨rfl,rfl⟩
   ·exact vo 1 rfl rfl ⟨rfl,rfl⟩
  ·intro v hv G
   exact tl ⟨rfl,rfl⟩
  ·intro v hv _ G
   obtain ⟨x,hx,rfl⟩:=aE.mp hv
   rw [ak]
   exact B4 X hW (JR _ _ _) (uI _ 0 (by decide)) (uI _ 1 (by decide)) (M9 x hx).1 (M9 x hx).2 hT ⟨rfl,rfl⟩
  ·intro v hv _
   obtain ⟨x,hx,rfl⟩:=aE.mp hv
   rfl
  refine (?_:ST an w am (d+4) Pp (Rk H.length (some (.int i)) (some (.ref j)) (some (.ref (uf H l T (a::t) op++G2).length))) ((uf H l T (a::t) op++G2)++[rY [ae W T (a.2++[39]),ae W T (a.2++[32]),ae W T (a.2++[35])]]) _ _)
  rw [ak]
  have hit:∀ (hp:List HP) (xD : List (List Nat)),(uf H l T hp xD++(G2++[rY [ae W T (a.2++[39]),ae W T (a.2++[32]),ae W T (a.2++[35])]]))[(uf H l T (a::t) op++G2).length]?=some (rY [ae W T (a.2++[39]),ae W T (a.2++[32]),ae W T (a.2++[35])]):=fun hp xD=>by
   rw [← ak,show (uf H l T (a::t) op++G2).length=(uf H l T hp xD++G2).length by rw [Fp,Fp]];simp
  have MT:∀ (hp:List HP) (xD : List (List Nat)),(uf H l T hp xD++(G2++[rY [ae W T (a.2++[39]),ae W T (a.2++[32]),ae W T (a.2++[35])]]))[k]?=some (rI ((i:Int)+1) (((r+1:Nat):Int) - 1)):=fun hp xD=>by
   rw [← ak]
   refine bv ?_
   rw [aK (by rw [tn];exact Bh),tn]
   rw [aK (by rw [tn];exact Bh),tn] at u7
   exact u7
  generalize (G2++[rY [ae W T (a.2++[39]),ae W T (a.2++[32]),ae W T (a.2++[35])]])=G3 at hit MT
  generalize (uf H l T (a::t) op++G2).length=j2 at hit
  have UR:∀ (hp:List HP) (xD : List (List Nat)),(uf H l T hp xD++G3)[H.length+3]?=some (rY hp):=fun hp xD=>uI G3 3 (by decide)
  have W2:∀ (hp:List HP) (xD : List (List Nat)),(uf H l T hp xD++G3)[H.length+4]?=some (.list (rQ xD)):=fun hp xD=>uI G3 4 (by decide)
  have US:∀ (hp:List HP) (xD : List (List Nat)),(uf H l T hp xD++G3)[H.length+2]?=some (.cell (some (.ref (H.length+3)))):=fun hp xD=>uI G3 2 (by decide)
  have l1:(tg (a::t) (ae W T (a.2++[39]))).length=t.length+1:=by have:=(ur a t (ae W T (a.2++[39]))).length_eq;simpa using this
  have l2:(rW (tg (a::t) (ae W T (a.2++[39]))) (ae W T (a.2++[32]))).length=t.length+2:=by have:=(r5 (tg (a::t) (ae W T (a.2++[39]))) (ae W T (a.2++[32]))).length_eq;simp only [aS] at this;exact lA (lT (lE this) (lU 1 (lE l1))) (lT (lU 1 (lS l1)) (lS this))
  simp only [aS] at g2
  refine bd (te (uu (lm 3 rfl rfl (.mk "list.append" (uO qB qt (W2 _ _)) (bi (rR (io (ti 9 rfl rfl (LX X) (.mk (tC X (by kernel_rfl)) (bi (uh 2 rfl rfl (US _ _) (bi (rR (lm 6 rfl rfl (f8 (.mk _ (tY (p:=0) (hit _ _) rfl (by simp)) (cr ((zZ X (UR _ _) rfl (by simp;exact aj (bX _) (zL (aj (mR vR) hT) g2))).to ?_))))))))))))))))))
  rw [B5]
  refine f8 (i12 _ rfl (cr ((uT (W2 _ _) (by simp [rQ];exact lR 999997 (lT (lE g3) (lT lI (lT (lE vR) hT))))).to ?_)))
  have ea:rQ op++[.str a.2]=rQ (op++[a.2]):=by simp [rQ]
  rw [ea,OJ]
  refine bd (te (io (ti 10 rfl rfl (zw X) (.mk (tC X (by kernel_rfl)) (bi (uh 2 rfl rfl (US _ _) (bi (rR (lm 6 rfl rfl (f8 (.mk _ (tY (p:=1) (hit _ _) rfl (by simp)) (cr ((vg X (UR _ _) (zL (aj (mR vR) hT) (l1.trans g2))).to ?_)))))))))))))
  rw [B5]
  refine bd (te (io (ti 10 rfl rfl (zw X) (.mk (tC X (by kernel_rfl)) (bi (uh 2 rfl rfl (US _ _) (bi (rR (lm 6 rfl rfl (f8 (.mk _ (tY (p:=2) (hit _ _) rfl (by simp)) (cr ((vg X (UR _ _) (aj (aJ (l2.trans (congrArg (·+1) g2))) (aj (eQ (cy 2 (aj (mR vR) hT)) 2) (by decide)))).to ?_)))))))))))))
  rw [B5]
  refine ev ?_
  have:=ih (i+1) G3 (some (.int i)) (some (.ref j)) (some (.ref j2)) (nN vR) (by
   rw [hn]
   have e:=MT (rW (rW (tg (a::t) (ae W T (a.2++[39]))) (ae W T (a.2++[32]))) (ae W T (a.2++[35]))) (op++[a.2])
   have e2:(((r+1:Nat):Int) - 1)=(r:Int):=nC _
   rw [e2] at e
   exact e)
  rw [hn] at this
  exact this
end
noncomputable def tV (xs:List HP):List HP:=match xs.getLast? with
 | some x=>Cv xs x
 | none=>[]
noncomputable def uE:Nat→List HP→List HP
 | 0,_=>[]
 | n+1,xs=>match xs with
  | []=>[]
  | a::t=>a::uE n (tV (a::t))
noncomputable def rests:Nat→List HP→List HP
 | 0,xs=>xs
 | n+1,xs=>rests n (tV xs)
set_option tactic.hygienic true in
theorem v6 (a:HP) (t:List HP):(tV (a::t)).Perm t:=by
 unfold tV
 split
 ·rename_i x hx
  exact Gs hx
 ·rename_i hx
  simp at hx
theorem vJ:∀ (n:Nat) (xs:List HP),n≤xs.length→(uE n xs++rests n xs).Perm xs∧(uE n xs).length=n:=by
 intro v_
 induction v_ with
 | zero =>
  intro xs h
  exact ⟨eP _,rfl⟩
 | succ n sg =>
  intro xs h
  cases xs with
  | nil =>
   simp at h
  | cons a t =>
   have hl:=(v6 a t).length_eq
   simp only [aS] at h
   obtain ⟨h1,h2⟩:=sg (tV (a::t)) (lD 1 (lT h (lU 1 (lS hl))))
   refine ⟨?_,?_⟩
   ·refine (?_:(a::(uE n (tV (a::t))++rests n (tV (a::t)))).Perm (a::t))
    exact (h1.trans (v6 a t)).cons a
   ·refine (?_:(a::uE n (tV (a::t))).length=n+1)
    rw [aS,h2]
noncomputable abbrev L1:List Str:=[".0","k","heappop","heap"]
section
theorem wH (X:(KK P).In am) {k:Nat} {a:HP} {t:List HP} {H:AH} (hk:H[k]?=some (rY (a::t))) (hz:(a::t).length≤100000) :
  FN an w am (d+3) (.ref 58) H [.ref k] [] (Is (pv a) (H.set k (rY (tV (a::t))))):=by
 obtain ⟨x,hx⟩ : ∃ x,(a::t).getLast?=some x:=⟨_,qR (by simp)⟩
 have e:tV (a::t)=Cv (a::t) x:=by unfold tV;rw [hx]
 rw [e]
 exact DL X hk rfl hx hz
theorem Fq {elt iter:Expr} {scope:aO} {pos px:Pos} {val:HP→AV} {R:List ci→AH→Prop} (B:List HP→AH) {b ch k pi:Nat} (hb:∀ xs,(B xs).length=b)
  (KD:∀ (a:HP) (t:List HP) (G:AH) (v:AV) (o:Option AV),(a::t).length≤1000→EX an w am d L1 [.loc o,.loc (some v),.rc,.sG ch] (B (a::t)++G) (fun be=>eval elt be) (Is (val a) (B (tV (a::t))++G)))
  (hk:b≤k) (ha:b≤pi) (sz:k≠pi):∀ (n:Nat) (i:Int) (xs:List HP) (G:AH) (ys:List AV) (o o1:Option AV),n≤xs.length→xs.length≤1000→ys.length+n≤100000→(B xs++G)[k]?=some (rI i n)→(B xs++G)[pi]?=some (.list ys) →
   (∀ ρ' G',(B (rests n xs)++G')[pi]?=some (.list (ys++(uE n xs).map val))→R ρ' (B (rests n xs)++G')) →
   SL an w am d L1 [.loc o,.loc o1,.rc,.sG ch] (B xs++G) k pi (FO elt (.Name "k" px) iter [] scope pos) R:=by
 intro n
 induction n with
 | zero =>
  intro i xs G ys o o1 hn hx hy h1 h2 r
  refine uC (sw h1 (fun h=>absurd h (by decide)) (fun _=>?_))
  try dsimp only
  rw [mt (by rw [hb];exact hk)]
  refine r _ _ ?_
  refine (?_:(B xs++G.set (k - (B xs).length) AO.s9)[pi]?=some (.list (ys++[])))
  rw [← mt (by rw [hb];exact hk),ce sz,cO]
  exact h2
 | succ n ih =>
  intro i xs G ys o o1 hn hx hy h1 h2 r
  cases xs with
  | nil=>simp at hn
  | cons a t =>
  have sj:=(rK h1)
  refine uC (sw h1 (fun _=>?_) (fun h=>absurd h (nE _)))
  try dsimp only
  have vS:=az (a:=rI (i+1) (((n+1:Nat):Int) - 1)) sj
  have Cc : ((B (a::t)++G).set k (rI (i+1) (((n+1:Nat):Int) - 1)))[pi]?=some (.list ys):=by rw [ce sz];exact h2
  rw [mt (by rw [hb];exact hk)] at vS Cc ⊢
  generalize G.set (k - (B (a::t)).length) (rI (i+1) (((n+1:Nat):Int) - 1))=G1 at vS Cc
  refine uy (vo 1 rfl rfl (tl ?_))
  refine tX rfl ?_
  refine (KD a t G1 (.int i) o hx).mono ?_
  rintro v H5 ⟨rfl,rfl⟩
  have sh:∀ (j:Nat),b≤j→(B (tV (a::t))++G1)[j]?=(B (a::t)++G1)[j]?:=fun j hj=>by
   rw [aK (by rw [hb];exact hj),aK (by rw [hb];exact hj),hb,hb]
  have OK:=Cc
  rw [← sh pi ha] at OK
  refine (sN ys OK (lR 900000 (lT lI hy)) ?_)
  have GW:=(rK OK)
  have h3:=az (a:=AO.list (ys++[val a])) GW
  have h4:((B (tV (a::t))++G1).set pi (.list (ys++[val a])))[k]?=some (rI (i+1) (((n+1:Nat):Int) - 1)):=by rw [ce (aq sz),sh k hk];exact vS
  rw [mt (by rw [hb];exact ha)] at h3 h4 ⊢
  have hl:=(v6 a t).length_eq
  have e2:(((n+1:Nat):Int) - 1)=(n:Int):=nC _
  rw [e2] at h4
  simp only [aS] at hn hx
  refine ih (i+1) _ _ _ _ _ (lD 1 (lT hn (lU 1 (lS hl)))) (lR 1 (lD 1 (lT (lU 1 (lE hl)) hx))) (by simp;exact nO hy) h4 h3 (fun ρ' G' q=>?_)
  have:=r ρ' G'
  rw [show rests (n+1) (a::t)=rests n (tV (a::t)) from rfl] at this
  refine this ?_
  rw [q]
  simp [uE]
end
theorem yk {a b:HP} (h:tz a b=false) (h' : tz b a=false):a=b:=by
 by_cases e:a.2=b.2
 ·unfold tz at h h'
  simp only [nV,decide_eq_false_iff_not] at h h'
  exact Prod.ext (by have:=h.1;have:=h'.1;lia) e
 ·rw [E7 e h] at h'
  cases h'
noncomputable def sc (xs:List HP):List HP:=xs.mergeSort fun a b=>!tz b a
theorem rU (xs:List HP):(sc xs).Perm xs:=List.mergeSort_perm ..
theorem vK {xs:List HP} (hd:xs.Nodup):(sc xs).Pairwise (fun a b=>tz a b=true):=by
 have h1:(sc xs).Pairwise (fun a b=>(!tz b a)=true):=List.pairwise_mergeSort (fun a b c h1 h2=>by
  simp only [qN] at h1 h2 ⊢
  cases q:tz c a with
  | false=>rfl
  | true =>
   cases q2:tz b c with
   | true=>rw [xw q2 q] at h1;cases h1
   | false=>rw [yk q2 h2] at h1;rw [q] at h1;cases h1) (fun a b=>by
  cases q:tz b a with
  | false=>rfl
  | true=>rw [vG q];rfl) xs
 have h2:(sc xs).Nodup:=(rU xs).nodup_iff.mpr hd
 refine (cK.mpr fun i j hi hj xX=>?_)
 have a1:=(cK.mp h1) i j hi hj xX
 have a2:=(cK.mp h2) i j hi hj xX
 cases q:tz (sc xs)[i] (sc xs)[j] with
 | true=>rfl
 | false=>exact absurd (yk q (by simpa using a1)) a2
theorem yl {xs ys:List HP} (hp:ys.Perm xs) (hd:xs.Nodup) (h:ys.Pairwise (fun a b=>tz a b=true)):ys=sc xs :=
 List.Perm.eq_of_pairwise (le:=fun a b=>tz a b=true) (fun a b _ _ h1 h2=>by rw [vG h1] at h2;cases h2) h (vK hd) (hp.trans (rU xs).symm)
section
variable {H:AH} {R:AV→AH→Prop}
theorem wI {xs:List HP} (hd:(xs.map (·.2)).Nodup):xs.Nodup:=by
 unfold List.Nodup at hd ⊢
 rw [lQ] at hd
 exact hd.imp fun h e=>h (by rw [e])
theorem C6 {k:Nat} {xs:List HP} (hk:H[k]?=some (rY xs)) (hd:(xs.map (·.2)).Nodup) (h1:1≤xs.length) (Sx:xs.length < 64) (r:R (.ref H.length) (H++[rY (sc xs)])):FN an w am d (.builtin "sorted") H [.ref k] [] R:=by
 by_cases h2:2≤xs.length
 ·exact FY hk hd h2 Sx fun ys hp hs=>by rw [yl hp (wI hd) hs];exact r
 ·match xs,h1,h2 with
  | [a],_,_ =>
   refine DQ (a:=pv a) hk ?_
   have:sc [a]=[a]:=by simp [sc]
   rw [this] at r
   exact r
  | a::b::t,_,h2=>exact absurd (by simp) h2
end
theorem yQ {a b c:HP} (h1:tz b a=false) (h2:tz c b=false):tz c a=false:=by
 cases q:tz c a with
 | false=>rfl
 | true =>
  cases q2:tz b c with
  | true=>rw [xw q2 q] at h1;cases h1
  | false=>rw [yk q2 h2] at h1;rw [q] at h1;cases h1
noncomputable def sW (xs:List HP):Prop:=∀ (j:Nat) (a b:HP),0 < j→xs[j]?=some a→xs[(j - 1) / 2]?=some b→tz a b=false
noncomputable def wJ (p:Nat) (xs:List HP):Prop:=∀ (j:Nat) (a b:HP),0 < j→j≠p→(j - 1) / 2≠p→xs[j]?=some a→xs[(j - 1) / 2]?=some b→tz a b=false
noncomputable def Under (p:Nat) (xs:List HP):Prop:=0 < p→∀ (j:Nat) (a g:HP),0 < j→(j - 1) / 2=p→xs[j]?=some a→xs[(p - 1) / 2]?=some g→tz a g=false
set_option tactic.hygienic true in
theorem C7 (ni:HP):∀ (f p:Nat) (xs:List HP),p≤f→p < xs.length→wJ p xs→Under p xs→(∀ (j:Nat) (a:HP),0 < j→(j - 1) / 2=p→xs[j]?=some a→tz a ni=false)→sW (wd 0 ni f p xs):=by
 have fin:∀ (p:Nat) (xs:List HP),p < xs.length→wJ p xs→(∀ (j:Nat) (a:HP),0 < j→(j - 1) / 2=p→xs[j]?=some a→tz a ni=false)→(∀ q,0 < p→xs[(p - 1) / 2]?=some q→tz ni q=false)→sW (xs.set p ni):=by
  intro p xs hp hA hB hC j a b hj ha hb
  by_cases h1:j=p
  ·subst h1
   rw [az hp] at ha
   obtain rfl:=ay ha
   rw [aF (br (nS hj))] at hb
   exact hC _ hj hb
  ·rw [aF (aq h1)] at ha
   by_cases h2:(j - 1) / 2=p
   ·rw [h2,az hp] at hb
    obtain rfl:=ay hb
    exact hB j a hj h2 ha
   ·rw [aF (aq h2)] at hb
    exact hA j a b hj h1 h2 ha hb
 intro f
 induction f with
 | zero =>
  intro p xs hf hp hA hU hB
  have:p=0:=lA hf lZ
  subst this
  exact fin 0 xs hp hA hB (fun q h=>absurd h (lF lO))
 | succ f ih =>
  intro p xs hf hp hA hU hB
  rw [zo]
  split
  ·rename_i h0
   split
   ·rename_i q hq
    split
    ·rename_i tO
     have Na:(p - 1) / 2 < xs.length:=(rK hq)
     have Gw:∀ (j:Nat) (a:HP),0 < j→j≠p→(j - 1) / 2=(p - 1) / 2→xs[j]?=some a→tz a q=false:=fun j a hj sz he ha =>
      hA j a q hj sz (fun e=>nU h0 (he.symm.trans e)) ha (he▸hq)
     refine ih ((p - 1) / 2) (xs.set p q) (aj (n8 _ _) (jW hf)) (by simpa using Na) ?_ ?_ ?_
     ·intro j a b hj h1 h2 ha hb
      have Cd:j≠p:=fun e=>h2 (by rw [e])
      rw [aF (aq Cd)] at ha
      by_cases h3:(j - 1) / 2=p
      ·rw [h3,az hp] at hb
       obtain rfl:=ay hb
       exact hU h0 j a q hj h3 ha hq
      ·rw [aF (aq h3)] at hb
       exact hA j a b hj Cd h3 ha hb
     ·intro OL j a g hj h1 ha hg
      rw [aF (br (dj (nS OL) (nS h0)))] at hg
      have W4:tz q g=false:=hA ((p - 1) / 2) q g OL (nU h0) (ax (dj (nS OL) (nS h0))) hq hg
      by_cases Cd:j=p
      ·subst Cd
       rw [az hp] at ha
       obtain rfl:=ay ha
       exact W4
      ·rw [aF (aq Cd)] at ha
       exact yQ W4 (Gw j a hj Cd h1 ha)
     ·intro j a hj h1 ha
      by_cases Cd:j=p
      ·subst Cd
       rw [az hp] at ha
       obtain rfl:=ay ha
       exact vG tO
      ·rw [aF (aq Cd)] at ha
       exact yQ (vG tO) (Gw j a hj Cd h1 ha)
    ·rename_i tO
     exact fin p xs hp hA hB (fun q' _ Rm=>by rw [hq] at Rm;cases Rm;simpa using tO)
   ·rename_i hq
    have:=bM.mp hq
    exact absurd (dj hp (bN this (nS h0))) (ff _)
  ·exact fin p xs hp hA hB (fun q h=>absurd h (by lia))
theorem ym {xs:List HP} {x:HP} (h:sW xs):sW (rW xs x):=by
 unfold rW
 refine C7 x _ _ _ (ar _) (by simp) ?_ ?_ ?_
 ·intro j a b hj h1 h2 ha hb
  have wo:=(rK ha)
  simp at wo
  rw [aR (lC (lD 1 wo) h1)] at ha
  rw [aR (aC (nS hj) (de wo))] at hb
  exact h j a b hj ha hb
 ·intro h0 j a g hj h1 ha
  have wo:=(rK ha)
  simp at wo
  exact Tq h0 hj h1 wo
 ·intro j a hj h1 ha
  have wo:=(rK ha)
  simp at wo
  exact Tr hj h1 wo
set_option tactic.hygienic true in
theorem OM:∀ (f p:Nat) (xs:List HP),xs.length≤p+f→p < xs.length→wJ p xs→Under p xs→wJ (sup f p xs).1 (sup f p xs).2∧(sup f p xs).2.length≤2 * (sup f p xs).1+1∧(sup f p xs).2.length=xs.length∧(sup f p xs).1 < xs.length:=by
 intro f
 induction f with
 | zero=>intro p xs hf hp;exact lX hf hp
 | succ f ih =>
  intro p xs hf hp hA hU
  have step:∀ (c:Nat) (x:HP),xs[c]?=some x→0 < c→(c - 1) / 2=p→(∀ (j:Nat) (a:HP),0 < j→j≠c→(j - 1) / 2=p→xs[j]?=some a→tz a x=false)→wJ c (xs.set p x)∧Under c (xs.set p x):=by
   intro c x hx hc Rn Gw
   have UT:c≠p:=PP hc Rn
   refine ⟨?_,?_⟩
   ·intro j a b hj h1 h2 ha hb
    by_cases h3:(j - 1) / 2=p
    ·have Cd:j≠p:=PP hj h3
     rw [h3,az hp] at hb
     obtain rfl:=ay hb
     rw [aF (aq Cd)] at ha
     exact Gw j a hj h1 h3 ha
    ·rw [aF (aq h3)] at hb
     by_cases h4:j=p
     ·subst h4
      rw [az hp] at ha
      obtain rfl:=ay ha
      exact hU hj c x b hc Rn hx hb
     ·rw [aF (aq h4)] at ha
      exact hA j a b hj h4 h3 ha hb
   ·intro h0 j a g hj h1 ha hg
    rw [Rn,az hp] at hg
    obtain rfl:=ay hg
    rw [aF (ax (dj (Rn▸nS hc) (h1▸nS hj)))] at ha
    exact hA j a x hj (br (dj (Rn▸nS hc) (h1▸nS hj))) (h1▸UT) ha (h1▸hx)
  rw [AT]
  split
  ·rename_i hn
   have:=bM.mp hn
   exact (FE hA this rfl hp)
  ·rename_i a ha
   have GW:=(rK ha)
   have go:∀ (c:Nat) (x:HP),xs[c]?=some x→c=2 * p+1∨c=2 * p+2→(∀ (j:Nat) (a:HP),0 < j→j≠c→(j - 1) / 2=p→xs[j]?=some a→tz a x=false) →
     wJ (sup f c (xs.set p x)).1 (sup f c (xs.set p x)).2∧(sup f c (xs.set p x)).2.length≤2 * (sup f c (xs.set p x)).1+1∧(sup f c (xs.set p x)).2.length=xs.length∧(sup f c (xs.set p x)).1 < xs.length:=by
    intro c x hx hc Gw
    obtain ⟨s1,s2⟩:=step c x hx (hc.elim (fun e=>e▸q9 _) (fun e=>e▸q9 _)) (nW hc) Gw
    have W5:=(rK hx)
    have:=ih c (xs.set p x) (by simp;exact Ts hf hc) (by simpa using W5) s1 s2
    simp only [aP] at this
    exact this
   split
   ·rename_i b hb
    split
    ·rename_i tO
     refine go _ a ha (.inl rfl) (fun j a' hj sz Cd AN=>?_)
     have:j=2 * p+2:=PQ hj sz Cd
     subst this
     rw [hb] at AN
     obtain rfl:=ay AN
     exact vG tO
    ·rename_i tO
     refine go _ b hb (.inr rfl) (fun j a' hj sz Cd AN=>?_)
     have:j=2 * p+1:=(zB hj Cd).resolve_right sz
     subst this
     rw [ha] at AN
     obtain rfl:=ay AN
     simpa using tO
   ·rename_i hb
    refine go _ a ha (.inl rfl) (fun j a' hj sz Cd AN=>?_)
    have:j=2 * p+2:=PQ hj sz Cd
    subst this
    rw [hb] at AN
    cases AN
theorem Bi {ni:HP} {xs:List HP} (h0:0 < xs.length) (h:wJ 0 xs):sW (v4 0 ni xs):=by
 obtain ⟨s1,s2,s3,s4⟩:=OM xs.length 0 xs lJ h0 h (fun h=>absurd h (lF lO))
 unfold v4
 refine C7 ni _ _ _ (ar _) (by rw [aP];exact lT s4 (lS s3)) ?_ ?_ ?_
 ·intro j a b hj h1 h2 ha hb
  rw [aF (aq h1)] at ha
  rw [aF (aq h2)] at hb
  exact s1 j a b hj h1 h2 ha hb
 ·intro _ j a g hj h1 ha
  have:=(rK ha)
  rw [aP] at this
  exact PR s2 s3 hj h1 this
 ·intro j a hj h1 ha
  have:=(rK ha)
  rw [aP] at this
  exact PR s2 s3 hj h1 this
theorem Aj {xs:List HP} {x:HP} (h:sW xs):wJ 0 (xs.set 0 x):=by
 intro j a b hj h1 h2 ha hb
 rw [aF (aq h1)] at ha
 rw [aF (aq h2)] at hb
 exact h j a b hj ha hb
theorem IS {xs:List HP} {x:HP} (h0:0 < xs.length) (h:sW xs):sW (tg xs x):=by
 unfold tg
 exact Bi (by simpa using h0) (Aj h)
set_option tactic.hygienic true in
theorem IU {xs:List HP} (h:sW xs):sW (tV xs):=by
 unfold tV
 split
 ·rename_i x hx
  unfold Cv
  split
  ·intro j a b hj ha;simp at ha
  ·rename_i b r hd
   refine Bi (by simp [hd]) (Aj ?_)
   intro j a b hj ha hb
   rw [oM] at ha hb
   split at ha
   ·split at hb
    ·exact h j a b hj ha hb
    ·cases hb
   ·cases ha
 ·intro j a b hj ha;simp at ha
theorem Gx {xs:List HP} (h:sW xs) {m:HP} (hm:xs[0]?=some m):∀ (j:Nat) (a:HP),xs[j]?=some a→tz a m=false:=by
 intro j
 induction j using Nat.strongRecOn with
 | _ j ih =>
  intro a ha
  by_cases h0:j=0
  ·subst h0;rw [hm] at ha;cases ha;exact xY _
  ·have hl:=(rK ha)
   have hb:xs[(j - 1) / 2]?=some (xs[(j - 1) / 2]'(nT (lP h0) hl)):=aQ _
   exact yQ (ih ((j - 1) / 2) (nS (lP h0)) _ hb) (h j a _ (lP h0) ha hb)
section
set_option backward.match.sparseCases false
theorem IV (X:(KK w.params).In am) {W:W3} (hW:W.Ok) {l T ep:Nat} {H:AH} (h0:H[0]?=some C5) (hl:H[l]?=some (sa an w W.es ep)) (hT:T≤3) :
  FN an w am (d+5) (.ref 820) H [.ref l,.int T] [] (Is (.tup [.str (sA [32] (((uE (2 * T+1) (jp W T T).1).map (·.2)).map pt)),.ref H.length]) (H.set 0 wF++[.list (rQ (jp W T T).2)])):=by
 have OH:0 < H.length:=(rK h0)
 refine FN.picks (wv (nm:=Pp) (ks:=[.cell,.cell,.cell,.local,.local,.local,.local,.globalImplicit,.globalImplicit,.globalImplicit,.globalImplicit,.globalImplicit]) (np:=2) (body:=SR)
  (yL X (o:=Ke tw w.params) (by kernel_rfl) rfl (by kernel_rfl) rfl (by kernel_rfl)) rfl (fun vs hv=>by refine zh hv fun a b=>?_;kernel_rfl) ?_)
 refine (?_:ST an w am (d+4) Pp [.sG H.length,.sG (H.length+1),.sG (H.length+2),.loc none,.loc none,.loc none,.loc none,.rc,.rc,.rc,.rc,.rc] (H++[.cell (some (.ref l)),.cell (some (.int T)),.cell none]) _ _)
 have c0:(H++[AO.cell (some (.ref l)),.cell (some (.int T)),.cell none])[H.length]?=some (.cell (some (.ref l))):=by simp
 have c1:(H++[AO.cell (some (.ref l)),.cell (some (.int T)),.cell none])[H.length+1]?=some (.cell (some (.int T))):=by rw [aK (lR 1 lO)];simp
 have e1:(H++[AO.cell (some (.ref l)),.cell (some (.int T)),.cell none]++[rY [ae W T []]]).set (H.length+2) (.cell (some (.ref (H.length+3))))=H++[.cell (some (.ref l)),.cell (some (.int T)),.cell (some (.ref (H.length+3))),rY [ae W T []]]:=by
  rw [ak,bY _ _ (lR 2 lO)]
  have:H.length+2 - H.length=2:=nB _ _
  rw [this]
  rfl
 refine bd (t6 2 rfl (sB (bi (vn (bi (vt (io (ti 7 rfl rfl (w8 X) (.mk (tC X (by kernel_rfl)) (bi (pu (l:=[]) rfl (bi (uh 0 rfl rfl c0 (bi (uh 1 rfl rfl c1 (cr ((wY X hW (fun y hy=>(by cases hy)) (bv hl) (bK _) hT).to ?_)))))))))))))))))
 refine yF (bi (pu (l:=[]) rfl (cr ⟨by simp,cr ⟨by simp,?_⟩⟩)))
 refine (tW [.sG H.length,.sG (H.length+1),.sG (H.length+2),.loc none,.loc none,.loc none,.loc none,.rc,.rc,.rc,.rc,.rc] (H++[.cell (some (.ref l)),.cell (some (.int T)),.cell (some (.ref (H.length+3))),rY [ae W T []]]) ?_ ?_)
 ·have c2:(H++[AO.cell (some (.ref l)),.cell (some (.int T)),.cell none]++[rY [ae W T []]])[H.length+2]?=some (.cell none):=by
   rw [ak,aK (lR 2 lO)];simp
  have e0:(H++[AO.cell (some (.ref l)),.cell (some (.int T)),.cell none]).length=H.length+3:=by simp
  rw [e0,← e1]
  show (match (H++[AO.cell (some (.ref l)),.cell (some (.int T)),.cell none]++[rY [ae W T []]])[H.length+2]? with
   | some (.cell _)=>some (_,(H++[AO.cell (some (.ref l)),.cell (some (.int T)),.cell none]++[rY [ae W T []]]).set (H.length+2) (.cell (some (.ref (H.length+3)))))
   | _=>none)=_
  rw [c2]
 refine bd (t6 3 rfl (sB (cr (vm (by simp) (tW _ _ rfl ?_)))))
 have e2:H++[AO.cell (some (.ref l)),.cell (some (.int T)),.cell (some (.ref (H.length+3))),rY [ae W T []]]++[.list []]=uf H l T (jp W T 0).1 (jp W T 0).2++[]:=by simp [uf,jp,rQ]
 have e3:(H++[AO.cell (some (.ref l)),.cell (some (.int T)),.cell (some (.ref (H.length+3))),rY [ae W T []]]).length=H.length+4:=by simp
 rw [e2,e3]
 refine (?_:ST an w am (d+4) Pp (Rk H.length none none none) _ _ _)
 refine bd (wr (io (ti 8 rfl rfl (tU X) (.mk sJ (bi (uh 1 rfl rfl (uI [] 1 (by decide)) (cr (tL (tS (a:=0) (b:=T) (by simp) (nF _) (nF _) (nF _) (nH hT) ?_)))))))))
 have eT:(if (0:Int) < (T:Int) then (T:Int) - 0 else 0)=(T:Int):=by split <;> lia
 rw [eT,cO,ak]
 refine (LZ X hW (k:=(uf H l T (jp W T 0).1 (jp W T 0).2++[sn 0 T]).length) hl hT (by simp [tn]) T 0 ([sn 0 T]++[rI 0 T]) none none none (nA _) (by rw [← ak];simp)).mono ?_
 rintro f ρ' H' ⟨rfl,ot,ol,oi,G',rfl,rfl⟩
 have q_:=rs W T T;have f1:=q_.1;have f2:=q_.2.1;have f3:=q_.2.2.1;have f4:=q_.2.2.2
 generalize hfs:jp W T T=fs at f1 f2 f3 f4 ⊢
 obtain ⟨hp,op⟩:=fs
 simp only at f1 f2 f3 f4 ⊢
 have Uc : (uf H l T hp op++G')[H.length+1]?=some (.cell (some (.int T))):=uI _ 1 (by decide)
 refine bd (sF (vn (bi (io (ti 11 rfl rfl (B3 X) (.mk (tC X (by kernel_rfl)) (bi (uZ (nm':=L1) (sk:=[.loc,.loc,.rc,.sG 2 (H.length+2)]) (rO.of (by kernel_rfl) ⟨rfl,trivial⟩) (c:=FO _ _ _ _ _ _) rfl rfl ?_))))))))
 have e4:sH .Mult (.int 2) (.int T) (uf H l T hp op++G')=some (.int (2 * T:Nat),uf H l T hp op++G'):=by
  refine (?_:(if small 2 && small T then some (AV.int (2 * (T:Int)),uf H l T hp op++G') else none)=_)
  rw [if_pos (by rw [yJ (lR 999997 hT),nz];decide +kernel)]
  congr 3
 have e5:sH .Add (.int (2 * T:Nat)) (.int 1) (uf H l T hp op++G')=some (.int (2 * T+1:Nat),uf H l T hp op++G'):=rfl
 refine io (ti 8 rfl rfl (tU X) (.mk sJ (bi (pc (pc (f8 (uh 1 rfl rfl Uc (.mk e4 (f8 (.mk e5 (cr (tL (tS (a:=0) (b:=(2 * T+1:Nat)) (by simp) (nF _) (nF _) (nF _) (nH (dP (cy 2 hT))) ?_)))))))))))))
 have UV:(if (0:Int) < ((2 * T+1:Nat):Int) then ((2 * T+1:Nat):Int) - 0 else 0)=((2 * T+1:Nat):Int):=by split <;> lia
 rw [UV]
 have eA:uf H l T hp op++G'++[sn 0 (2 * T+1:Nat)]++[rI 0 (2 * T+1:Nat)]++[.list []]=uf H l T hp op++(G'++[sn 0 (2 * T+1:Nat)]++[rI 0 (2 * T+1:Nat)]++[.list []]):=by simp only [ak]
 have y9:(uf H l T hp op++G'++[sn 0 (2 * T+1:Nat)]++[rI 0 (2 * T+1:Nat)]++[.list []])[(uf H l T hp op++G'++[sn 0 (2 * T+1:Nat)]).length]?=some (rI 0 (2 * T+1:Nat)):=bv (by simp)
 have GX:(uf H l T hp op++G'++[sn 0 (2 * T+1:Nat)]++[rI 0 (2 * T+1:Nat)]++[.list []])[(uf H l T hp op++G'++[sn 0 (2 * T+1:Nat)]++[rI 0 (2 * T+1:Nat)]).length]?=some (.list []):=by simp
 have vA:H.length+5≤(uf H l T hp op++G'++[sn 0 (2 * T+1:Nat)]).length:=by simp [tn] <;> lia
 have u7:H.length+5≤(uf H l T hp op++G'++[sn 0 (2 * T+1:Nat)]++[rI 0 (2 * T+1:Nat)]).length:=by simp [tn] <;> lia
 have sz:(uf H l T hp op++G'++[sn 0 (2 * T+1:Nat)]).length≠(uf H l T hp op++G'++[sn 0 (2 * T+1:Nat)]++[rI 0 (2 * T+1:Nat)]).length:=by simp
 refine ⟨x8 y9,?_⟩
 rw [eA] at y9 GX ⊢
 generalize (uf H l T hp op++G'++[sn 0 (2 * T+1:Nat)]).length=k at y9 vA sz ⊢
 generalize (uf H l T hp op++G'++[sn 0 (2 * T+1:Nat)]++[rI 0 (2 * T+1:Nat)]).length=pi at GX u7 sz ⊢
 generalize (G'++[sn 0 (2 * T+1:Nat)]++[rI 0 (2 * T+1:Nat)]++[AO.list []])=G2 at y9 GX ⊢
 refine Fq (fun xs=>uf H l T xs op) (b:=H.length+5) (val:=fun a=>.str a.2) (fun _=>tn) ?_ vA u7 sz (2 * T+1) 0 hp G2 [] none none (lS f2) (zL hT f2) (by simp;exact aj (cy 2 hT) (by decide)) y9 GX (fun ρ' G3 tD=>?_)
 ·intro a t G v o hz
  refine rR (io (ti 2 rfl rfl (Ek X) (.mk (tC X (by kernel_rfl)) (bi (uh 3 rfl rfl (uI G 2 (by decide)) (cr ((wH X (uI G 3 (by decide)) (lR 99000 hz)).to (f8 (.mk _ rfl ?_)))))))))
  rw [B5]
  exact ⟨rfl,rfl⟩
 have Ro:∀ x∈(uE (2 * T+1) hp).map (·.2),(∀ y∈x,tT y=true)∧x.length≤3:=by
  intro x hx
  obtain ⟨b,hb,rfl⟩:=aE.mp hx
  have uw:=(vJ (2 * T+1) hp (lS f2)).1.mem_iff.mp (fb _ hb)
  exact ⟨(f1 b uw).1,by have:=(f1 b uw).2.1;exact lT this hT⟩
 have mo:(uE (2 * T+1) hp).length≤2 * T+1:=aJ (vJ (2 * T+1) hp (lS f2)).2
 have Rp : (uf H l T (rests (2 * T+1) hp) op++G3)[pi]?=some (.list (rQ ((uE (2 * T+1) hp).map (·.2)))):=by
  rw [tD];simp [rQ]
 refine cr ((B2 X (bv (by unfold uf;exact bv h0)) Rp Ro (by simp;lia)).to ?_)
 refine bi (lm 3 rfl rfl (cr ⟨by simp,?_⟩))
 have eB:(uf H l T (rests (2 * T+1) hp) op++G3).set 0 wF=H.set 0 wF++([.cell (some (.ref l)),.cell (some (.int T)),.cell (some (.ref (H.length+3))),rY (rests (2 * T+1) hp),.list (rQ op)]++G3):=by
  unfold uf
  rw [ak,cA _ _ OH]
 rw [eB]
 have SU:(H.set 0 wF).length=H.length:=aP
 refine (Se (H.set 0 wF) _ [H.length+4] _ rfl ((uY.refl H).set OH) (MR (o:=.list (rQ op)) (by rw [SU];exact lR 4 lO) (by rw [aK (by rw [SU];exact lR 4 lO),SU,show H.length+4 - H.length=4 by exact nB _ _];rfl) yc) (sS trivial (.inr (by simp)) trivial) ?_ rfl)
 simp only [NY,NZ,N3,N4,N5,SU,HR (show H.length≤H.length+4 by lia)]
end
noncomputable abbrev SV:List Str:=[".0","word","letter","weights"]
noncomputable abbrev v7:List (List Nat):=[[39],[32],[35]]
theorem ON (W:W3):W.es.map (·.1)=v7:=rfl
noncomputable def Fs (xs:List (List Nat)):List (List Nat):=xs.flatMap fun x=>v7.map (x++·)
section
noncomputable abbrev Rq (p1 p2 p3:Pos):Expr:=.BinOp (.Name "word" p1) .Add (.Name "letter" p2) p3
noncomputable abbrev W6 (p1 p2 p3 q1 q2 r1 r2:Pos) (scope:aO) (pos:Pos) (j:Nat):Env→aa→aa→Code :=
 FP (Rq p1 p2 p3) (.Name "word" q1) (.Name "level" q2) (.Name "letter" r1) (.Name "weights" r2) [] scope pos j
theorem Gy {W:W3} {l ep k k2 pi cw:Nat} {x:List Nat} {HH:AH} {it:AO} {p1 p2 p3 q1 q2 r1 r2:Pos} {scope:aO} {pos:Pos} {R:List ci→AH→Prop} (hl:HH[l]?=some (sa an w W.es ep)) (hx:x.length≤1000)
  (u7:HH.length≤k2) (hk:HH.length≤k) (ha:HH.length≤pi) (n1:k2≠pi) (n2:k2≠k) (n3:k≠pi):∀ (r j:Nat) (G:AH) (ys:List AV) (o0 o:Option AV),j+r=3→ys.length+r≤100000→(HH++G)[k2]?=some (wg l j 3 ep)→(HH++G)[k]?=some it→(HH++G)[pi]?=some (.list ys) →
   (∀ o' G',(HH++G')[k]?=some it→(HH++G')[pi]?=some (.list (ys++(v7.drop j).map fun c=>.str (x++c)))→R [.loc o0,.loc (some (.str x)),.loc o',.sG cw] (HH++G')) →
   SL an w am d SV [.loc o0,.loc (some (.str x)),.loc o,.sG cw] (HH++G) k2 pi (W6 p1 p2 p3 q1 q2 r1 r2 scope pos 1) R:=by
 intro r
 induction r with
 | zero =>
  intro j G ys o0 o hj hy h1 h2 h3 rr
  have:j=3:=lA (lE hj) (lS hj)
  subst this
  refine xN (BD (n:=3) (es:=W.es) rfl h1 (bv hl) (fun c v e=>by exact uH e) (fun _=>?_))
  try dsimp only
  rw [mt u7]
  refine rr _ _ ?_ ?_
  ·rw [← mt u7,ce n2];exact h2
  ·rw [← mt u7,ce n1,h3]
   simp
 | succ r ih =>
  intro j G ys o0 o hj hy h1 h2 h3 rr
  have sj:=(rK h1)
  refine xN (BD (n:=3) (es:=W.es) rfl h1 (bv hl) (fun c v e=>?_) (fun e=>?_))
  ·try dsimp only
   have hc:v7[j]?=some c:=by rw [← ON W,bu,e];rfl
   have W5:c.length=1:=by
    have:=bx hc
    simp at this
    rcases this with rfl | rfl | rfl <;> rfl
   have vS:=az (a:=wg l (j+1) 3 ep) sj
   have Cc : ((HH++G).set k2 (wg l (j+1) 3 ep))[k]?=some it:=by rw [ce n2];exact h2
   have we : ((HH++G).set k2 (wg l (j+1) 3 ep))[pi]?=some (.list ys):=by rw [ce n1];exact h3
   rw [mt u7] at vS Cc we ⊢
   generalize G.set (k2 - HH.length) (wg l (j+1) 3 ep)=G1 at vS Cc we
   refine uy (vo 2 rfl rfl (tl ?_))
   refine tX rfl ?_
   refine uc (lm 1 rfl rfl (lm 2 rfl rfl ((xE (x:=.str (x++c)) (H':=_) ?_).to (sN ys we (lR 900000 (lT lI hy)) ?_))))
   ·refine (?_:(if x.length+c.length≤1000000 then some (AV.str (x++c),_) else none)=_)
    rw [if_pos (by lia)]
   ·have GW:=(rK we)
    have g3:=az (a:=AO.list (ys++[.str (x++c)])) GW
    have g1:((HH++G1).set pi (.list (ys++[.str (x++c)])))[k2]?=some (wg l (j+1) 3 ep):=by rw [ce (aq n1)];exact vS
    have g2:((HH++G1).set pi (.list (ys++[.str (x++c)])))[k]?=some it:=by rw [ce (aq n3)];exact Cc
    rw [mt ha] at g1 g2 g3 ⊢
    refine ih (j+1) _ _ o0 (some (.str c)) (nN hj) (by simp;exact nO hy) g1 g2 g3 (fun o' G' a1 a2=>rr o' G' a1 ?_)
    rw [a2]
    have:v7.drop j=c::v7.drop (j+1):=by
     obtain ⟨wo,e⟩:=cQ.mp hc
     rw [ez wo,e]
    rw [this]
    simp
  ·have:W.es.length=3:=rfl
   have:=bM.mp e
   lia
theorem OO (X:(KK P).In am) {W:W3} {l ep k pi cw lv:Nat} {xs:List (List Nat)} {HH:AH} {p1 p2 p3 q1 q2 r1 r2:Pos} {scope:aO} {pos:Pos} {R:List ci→AH→Prop} (hl:HH[l]?=some (sa an w W.es ep)) (UN:HH[cw]?=some (.cell (some (.ref l)))) (OP:HH[lv]?=some (.list (rQ xs)))
  (hx:∀ x∈xs,x.length≤1000) (hk:HH.length≤k) (ha:HH.length≤pi) (n3:k≠pi):∀ (r i:Nat) (G:AH) (ys:List AV) (o o2:Option AV),i+r=xs.length→ys.length+3 * r≤10000→(HH++G)[k]?=some (.iter lv i)→(HH++G)[pi]?=some (.list ys) →
   (∀ ρ' G',(HH++G')[pi]?=some (.list (ys++rQ (Fs (xs.drop i))))→R ρ' (HH++G')) →
   SL an w am d SV [.loc none,.loc o,.loc o2,.sG cw] (HH++G) k pi (W6 p1 p2 p3 q1 q2 r1 r2 scope pos 0) R:=by
 intro r
 induction r with
 | zero =>
  intro i G ys o o2 hi hy h1 h3 rr
  have:i=xs.length:=lA (lE hi) (lS hi)
  subst this
  refine xO (tK h1 (bv OP) (fun v e=>?_) (fun _=>?_))
  ·have:=(rK e)
   simp [rQ] at this
  ·try dsimp only
   rw [mt hk]
   refine rr _ _ ?_
   rw [← mt hk,ce n3,h3]
   simp [Fs,rQ]
 | succ r ih =>
  intro i G ys o o2 hi hy h1 h3 rr
  have sj:=(rK h1)
  have va:i < xs.length:=nQ hi
  refine xO (tK h1 (bv OP) (fun v e=>?_) (fun e=>?_))
  ·have hv:v=.str xs[i]:=by
    unfold rQ at e
    rw [bu,aQ va] at e
    exact (ay e).symm
   subst hv
   try dsimp only
   have vS:=az (a:=AO.iter lv (i+1)) sj
   have we : ((HH++G).set k (.iter lv (i+1)))[pi]?=some (.list ys):=by rw [ce n3];exact h3
   rw [mt hk] at vS we ⊢
   generalize G.set (k - HH.length) (AO.iter lv (i+1))=G1 at vS we
   refine uy (vo 1 rfl rfl (uh 3 rfl rfl (bv UN) (ES (vE X) (bv hl) ⟨ET (by simp;rfl),?_⟩)))
   have g1:(HH++G1++[wg l 0 3 ep])[(HH++G1).length]?=some (wg l 0 3 ep):=by simp
   have g2:(HH++G1++[wg l 0 3 ep])[k]?=some (.iter lv (i+1)):=bv vS
   have g3:(HH++G1++[wg l 0 3 ep])[pi]?=some (.list ys):=bv we
   have m1:=(rK vS)
   have m3:=(rK we)
   refine (?_:SL an w am d SV [.loc none,.loc (some (.str xs[i])),.loc o2,.sG cw] (HH++G1++[wg l 0 3 ep]) (HH++G1).length pi _ _)
   rw [ak] at g1 g2 g3 ⊢
   refine Gy (it:=.iter lv (i+1)) hl (hx _ (eL va)) (by simp) hk ha (lH m3) (lH m1) n3 3 0 _ ys none o2 rfl (lR 89997 (lU 3 (lT lI hy))) g1 g2 g3 (fun o' G' a1 a2=>?_)
   refine ih (i+1) G' _ _ o' (nN hi) (by simp;exact aj (aJ (cR _ 3 _)) hy) a1 a2 (fun ρ' G2 a3=>rr ρ' G2 ?_)
   rw [a3]
   have:xs.drop i=xs[i]::xs.drop (i+1):=ez va
   rw [this]
   refine (?_:_=some (AO.list (ys++rQ ((v7.map (xs[i]++·))++Fs (xs.drop (i+1))))))
   unfold rQ
   rw [dF,ak]
   rfl
  ·have:=bM.mp e
   simp [rQ] at this
   exact absurd (nQ hi) (fm this)
end
section
set_option backward.match.sparseCases false
noncomputable def SW:List Stmt:=fBody (vP pw 40)
noncomputable abbrev Pq:List Str:=["weights","turns","level","items","turn","range","sorted"]
noncomputable def lvl:Nat→List (List Nat)
 | 0=>[[]]
 | n+1=>Fs (lvl n)
noncomputable def tG (n:Nat):List (List Nat):=(bq n).flatMap lvl
theorem Gz (n:Nat):tG (n+1)=tG n++lvl n:=by
 unfold tG
 rw [jl,List.flatMap_append]
 simp
theorem Ak (n:Nat):∀ x∈lvl n,(∀ y∈x,tT y=true)∧x.length=n:=by
 induction n with
 | zero =>
  intro x hx
  rw [aU.mp hx]
  exact ⟨fun y hy=>(by cases hy),rfl⟩
 | succ n ih =>
  intro x hx
  obtain ⟨z,hz,hx⟩:=iB.mp hx
  obtain ⟨c,hc,rfl⟩:=aE.mp hx
  obtain ⟨h1,h2⟩:=ih z hz
  have NO : (∀ y∈c,tT y=true)∧c.length=1:=by
   simp at hc
   rcases hc with rfl | rfl | rfl <;> exact ⟨by decide,rfl⟩
  exact ⟨fun y hy=>(bV.mp hy).elim (h1 y) (NO.1 y),by simp;lia⟩
theorem L2 {n:Nat} (h:n≤3):(lvl n).length≤27:=by
 have:n=0∨n=1∨n=2∨n=3:=Nu h
 rcases this with rfl | rfl | rfl | rfl <;> decide
theorem C8 {n:Nat} (h:n≤3):(tG n).length≤13:=by
 have:n=0∨n=1∨n=2∨n=3:=Nu h
 rcases this with rfl | rfl | rfl | rfl <;> decide
section
noncomputable def yu (H:AH) (l T:Nat) (its:List HP):AH:=H++[.cell (some (.ref l)),.cell (some (.int T)),.list (rQ [[]]),rY its]
theorem tZ {H:AH} {l T:Nat} {its:List HP}:(yu H l T its).length=H.length+4:=by simp [yu]
theorem v8 {H:AH} {l T:Nat} {its:List HP} (G:AH) (i:Nat) (hi:i < 4):(yu H l T its++G)[H.length+i]?=[AO.cell (some (.ref l)),.cell (some (.int T)),.list (rQ [[]]),rY its][i]?:=by
 rw [aR (by rw [tZ];exact oB hi)]
 unfold yu
 rw [aK lI]
 congr 1
 exact nB _ _
theorem Ft {H:AH} {l T:Nat} {its Hd : List HP} (G:AH):(yu H l T its++G).set (H.length+3) (rY Hd)=yu H l T Hd++G:=by
 rw [cA _ _ (by rw [tZ];exact lO)]
 unfold yu
 rw [bY _ _ (lR 3 lO)]
 have:H.length+3 - H.length=3:=nB _ _
 rw [this]
 rfl
noncomputable abbrev SX (n lv:Nat) (ot:Option AV):List ci:=[.sG n,.sG (n+1),.loc (some (.ref lv)),.loc (some (.ref (n+3))),.loc ot,.rc,.rc]
theorem L3 (X:(KK P).In am) {W:W3} (hW:W.Ok) {l T ep k:Nat} {H:AH} (hl:H[l]?=some (sa an w W.es ep)) (hT:T≤3) (Bh:H.length+4≤k):∀ (r i lv:Nat) (G:AH) (ot:Option AV),i+r=T→lv≠H.length+3→(yu H l T ((tG i).map (ae W T))++G)[k]?=some (rI i r)→(yu H l T ((tG i).map (ae W T))++G)[lv]?=some (.list (rQ (lvl i))) →
  SF an w am (d+2) Pq (SX H.length lv ot) (yu H l T ((tG i).map (ae W T))++G) k (fun be it=>.forLoop (fT (nb SW 2)) it (fB (nb SW 2)) (fO (nb SW 2)) be)
   (fun f ρ' H'=>f=.next∧∃ lv ot G',ρ'=SX H.length lv ot∧H'=yu H l T ((tG T).map (ae W T))++G'):=by
 intro r
 induction r with
 | zero =>
  intro i lv G ot vR sz hk OP
  have:i=T:=lA (lE vR) (lS vR)
  subst this
  refine tQ (sw hk (fun h=>absurd h (by decide)) (fun _=>?_))
  refine ev (vm rfl (Nw lv ot (G.set (k - (H.length+4)) .s9) rfl ?_))
  rw [mt (by rw [tZ];exact Bh),tZ]
 | succ r ih =>
  intro i lv G ot vR sz hk OP
  have sj:=(rK hk)
  have BF:k≠lv:=fun q=>by subst q;rw [hk] at OP;cases OP
  have Rr:=L2 (n:=i) (lT lI (lT (lE vR) hT))
  have SJ:=C8 (n:=i) (lT lI (lT (lE vR) hT))
  refine tQ (sw hk (fun _=>?_) (fun h=>absurd h (nE _)))
  refine vo 4 rfl rfl ?_
  have vA:=az (a:=rI ((i:Int)+1) (((r+1:Nat):Int) - 1)) sj
  have IW:((yu H l T ((tG i).map (ae W T))++G).set k (rI ((i:Int)+1) (((r+1:Nat):Int) - 1)))[lv]?=some (.list (rQ (lvl i))):=by rw [ce BF];exact OP
  rw [mt (by rw [tZ];exact Bh)] at vA IW ⊢
  generalize G.set (k - (yu H l T ((tG i).map (ae W T))).length) (rI ((i:Int)+1) (((r+1:Nat):Int) - 1))=G1 at vA IW
  generalize hits:(tG i).map (ae W T)=its at vA IW ⊢
  have L4:its.length≤13:=by rw [← hits,aM];exact SJ
  have JR:∀ (its:List HP) (G:AH),(yu H l T its++G)[l]?=some (sa an w W.es ep):=fun its G=>by
   unfold yu
   rw [ak]
   exact bv hl
  refine bd (te (uu (lm 3 rfl rfl (.mk "list.extend" (uO pW qm (v8 G1 3 (by decide))) (bi ?_)))))
  refine uP (as:=rQ (lvl i)) [".0","word","_law_weight","turns","weights"] [.loc,.loc,.rc,.sG 1 (H.length+1),.sG 0 H.length] (fun v=>[.loc none,.loc (some v),.rc,.sG (H.length+1),.sG H.length]) (fun _=>true)
   (fun v=>match v with | .str c=>pv (ae W T c) | v=>v) (rO.of (by kernel_rfl) (sS rfl rfl trivial)) ?_ ?_ ?_ ?_ ?_ ?_ ?_
  ·exact lm 2 rfl rfl (t9 IW rfl)
  ·simp [rQ];exact lR 999973 Rr
  ·rintro v hv G sZ (rfl | ⟨b,rfl⟩)
   ·exact vo 1 rfl rfl ⟨rfl,rfl⟩
   ·exact vo 1 rfl rfl ⟨rfl,rfl⟩
  ·intro v hv G
   exact tl ⟨rfl,rfl⟩
  ·intro v hv _ G
   obtain ⟨x,hx,rfl⟩:=aE.mp hv
   rw [ak]
   obtain ⟨q1,q2⟩:=Ak i x hx
   exact B4 X hW (JR _ _) (v8 _ 0 (by decide)) (v8 _ 1 (by decide)) q1 (lT (lE q2) (lT lI (lE vR))) hT ⟨rfl,rfl⟩
  ·intro v hv _
   obtain ⟨x,hx,rfl⟩:=aE.mp hv
   rfl
  have eF:((rQ (lvl i)).filter fun _=>true).map (fun v=>match v with | AV.str c=>pv (ae W T c) | v=>v)=((lvl i).map (ae W T)).map pv:=by
   rw [gM.mpr (fun _ _=>rfl)]
   unfold rQ
   rw [aX,aX]
   rfl
  rw [eF]
  have SY:(yu H l T its++G1++[.list (((lvl i).map (ae W T)).map pv)])[(yu H l T its++G1).length]?=some (.list (((lvl i).map (ae W T)).map pv)):=by simp
  have hj3:(yu H l T its++G1++[.list (((lvl i).map (ae W T)).map pv)])[H.length+3]?=some (rY its):=bv (v8 G1 3 (by decide))
  refine cr (AX hj3 SY (by simp;exact aj (fu L4 Rr) (by decide)) ?_)
  have ea:its.map pv++((lvl i).map (ae W T)).map pv=(its++(lvl i).map (ae W T)).map pv:=by rw [dF]
  rw [ea,ak]
  have hsu:its++(lvl i).map (ae W T)=(tG (i+1)).map (ae W T):=by rw [← hits,Gz,dF]
  rw [hsu]
  refine (?_:ST an w am (d+2) Pq _ ((yu H l T its++(G1++[AO.list (((lvl i).map (ae W T)).map pv)])).set (H.length+3) (rY ((tG (i+1)).map (ae W T)))) _ _)
  rw [Ft]
  have u7:(yu H l T ((tG (i+1)).map (ae W T))++(G1++[AO.list (((lvl i).map (ae W T)).map pv)]))[k]?=some (rI ((i:Int)+1) (((r+1:Nat):Int) - 1)):=by
   rw [← ak]
   refine bv ?_
   rw [aK (by rw [tZ];exact Bh),tZ]
   rw [aK (by rw [tZ];exact Bh),tZ] at vA
   exact vA
  have IX:(yu H l T ((tG (i+1)).map (ae W T))++(G1++[AO.list (((lvl i).map (ae W T)).map pv)]))[lv]?=some (.list (rQ (lvl i))):=by
   rw [← ak]
   refine bv ?_
   rw [← Ft (its:=its),ce (aq sz)]
   exact IW
  generalize (G1++[AO.list (((lvl i).map (ae W T)).map pv)])=G2 at u7 IX ⊢
  have Eg:=(rK u7)
  have UW:=(rK IX)
  refine bd (wu (i:=2) (nm':=SV) (sk:=[.loc,.loc,.loc,.sG 0 H.length]) rfl (by decide +kernel) (rO.of (by kernel_rfl) ⟨rfl,trivial⟩) (c:=FP _ _ _ _ _ _ _ _ 0) rfl rfl rfl (u6 (by decide +kernel) (by decide +kernel)) (lm 2 rfl rfl (vX IX ?_)))
  generalize OQ:yu H l T ((tG (i+1)).map (ae W T))++G2=HH at u7 IX Eg UW ⊢
  have Rs:HH[l]?=some (sa an w W.es ep):=by rw [← OQ];exact JR _ _
  have hHc:HH[H.length]?=some (.cell (some (.ref l))):=by rw [← OQ];exact v8 G2 0 (by decide)
  have hHn:H.length+4≤HH.length:=by rw [← OQ,aI,tZ];exact lI
  refine ⟨wV (l:=lv) (i:=0) (bv (by simp)),?_⟩
  rw [ak]
  refine OO X (i:=0) Rs hHc IX (fun x hx=>by have:=(Ak i x hx).2;exact lR 997 (lT (lE this) (lT lI (lT (lE vR) hT)))) (by simp) (by simp) (by simp) (lvl i).length _ [] _ _ (nA _) (by rw [cS];lia) (by rw [← ak];exact bv (by simp)) (by rw [← ak];simp) (fun ρ' G3 tD=>?_)
  refine (Kp HH G3 (.list (rQ (lvl (i+1)))) rfl (uY.refl HH) (by simp) ?_ yc ?_)
  ·rw [tD];rfl
  refine ev ?_
  unfold TP
  refine (?_:SF an w am (d+2) Pq (SX H.length HH.length (some (.int i))) (HH++[.list (rQ (lvl (i+1)))]) k _ _)
  rw [← OQ,ak]
  refine ih (i+1) _ _ _ (nN vR) (by rw [OQ];exact lH hHn) ?_ ?_
  ·rw [← ak,OQ]
   have e2:(((r+1:Nat):Int) - 1)=(r:Int):=nC _
   rw [e2] at u7
   exact bv u7
  ·rw [← ak,OQ];simp
end
end
section
set_option backward.match.sparseCases false
theorem v9 {n:Nat} (h:n≤3):(tG n).Nodup:=by
 have:n=0∨n=1∨n=2∨n=3:=Nu h
 rcases this with rfl | rfl | rfl | rfl <;> decide
theorem IY {n:Nat} (h:n≤3) (h2:2≤n):2≤(tG n).length:=by
 have:n=2∨n=3:=by lia
 rcases this with rfl | rfl <;> decide
noncomputable def s0 (W:W3) (T:Nat):List (List Nat):=((sc ((tG T).map (ae W T))).take T).map (·.2)
noncomputable def tA:AV→Option AV
 | .tup [a,b]=>some a
 | _=>none
noncomputable def tB:AV→Option AV
 | .tup [a,b]=>some b
 | _=>none
section
theorem Bj (X:(KK P).In am):GL am "sorted" (.builtin "sorted"):=t7 X (by kernel_rfl) (by kernel_rfl)
theorem C9 (X:(KK P).In am) {W:W3} (hW:W.Ok) {l T ep:Nat} {H:AH} (hl:H[l]?=some (sa an w W.es ep)) (IZ:1≤T) (hT:T≤3) :
  FN an w am (d+3) (.ref 825) H [.ref l,.int T] [] (Is (.ref H.length) (H++[.list (rQ (s0 W T))])):=by
 refine FN.pick (wv (nm:=Pq) (ks:=[.cell,.cell,.local,.local,.local,.globalImplicit,.globalImplicit]) (np:=2) (body:=SW)
  (yL X (o:=Kf tw P) (by kernel_rfl) rfl (by kernel_rfl) rfl (by kernel_rfl)) rfl (fun vs hv=>by refine zh hv fun a b=>?_;kernel_rfl) ?_)
 refine (?_:ST an w am (d+2) Pq [.sG H.length,.sG (H.length+1),.loc none,.loc none,.loc none,.rc,.rc] (H++[.cell (some (.ref l)),.cell (some (.int T))]) _ _)
 refine bd (t6 2 rfl (sB (bi (pu (l:=[]) rfl (cr (vm (by simp) (tW _ _ rfl ?_)))))))
 refine bd (t6 3 rfl (sB (cr (vm (by simp) (tW _ _ rfl ?_)))))
 have eB:H++[AO.cell (some (.ref l)),.cell (some (.int T))]++[.list [.str []]]++[.list []]=yu H l T ((tG 0).map (ae W T))++[]:=by simp [yu,tG,rQ,rY]
 have n1:(H++[AO.cell (some (.ref l)),.cell (some (.int T))]).length=H.length+2:=by simp
 have n2:(H++[AO.cell (some (.ref l)),.cell (some (.int T))]++[AO.list [.str []]]).length=H.length+3:=by simp
 rw [eB,n1,n2]
 refine (?_:ST an w am (d+2) Pq (SX H.length (H.length+2) none) _ _ _)
 refine bd (wr (io (ti 5 rfl rfl (tU X) (.mk sJ (bi (uh 1 rfl rfl (v8 [] 1 (by decide)) (cr (tL (tS (a:=0) (b:=T) (by simp) (nF _) (nF _) (nF _) (nH hT) ?_)))))))))
 have eT:(if (0:Int) < (T:Int) then (T:Int) - 0 else 0)=(T:Int):=by split <;> lia
 rw [eT,cO,ak]
 refine (L3 X hW (k:=(yu H l T ((tG 0).map (ae W T))++[sn 0 T]).length) hl hT (by simp [tZ]) T 0 (H.length+2) ([sn 0 T]++[rI 0 T]) none (nA _) (lL lO) (by rw [← ak];simp) (v8 _ 2 (by decide))).mono ?_
 rintro f ρ' H' ⟨rfl,lv,ot,G,rfl,rfl⟩
 have Qo:=C8 hT
 have hit:(yu H l T ((tG T).map (ae W T))++G)[H.length+3]?=some (rY ((tG T).map (ae W T))):=v8 G 3 (by decide)
 have Ej:∀ G,(yu H l T ((tG T).map (ae W T))++G)[H.length+1]?=some (.cell (some (.int T))):=fun G=>v8 G 1 (by decide)
 generalize hits:(tG T).map (ae W T)=its at hit Ej ⊢
 have L4:its.length≤13:=by rw [← hits,aM];exact Qo
 have UX:1≤its.length:=by
  rw [← hits,aM]
  have:T=1∨2≤T:=by lia
  rcases this with rfl | h2
  ·decide
  ·have:=IY hT h2;exact lD 1 (lR 1 this)
 have xv:(its.map (·.2)).Nodup:=by
  rw [← hits,aX]
  have:((fun x:HP=>x.2) ∘ ae W T)=id:=rfl
  rw [this,dW]
  exact v9 hT
 have hTl:T≤its.length:=by
  rw [← hits,aM]
  have:T=0∨T=1∨T=2∨T=3:=Tp IZ hT
  rcases this with rfl | rfl | rfl | rfl <;> decide
 have UG:(sc its).length=its.length:=(rU its).length_eq
 refine bd (sF (uP (as:=((sc its).take T).map pv) [".0","weight","word"] [.loc,.loc,.loc] (fun v=>[.loc none,.loc (tA v),.loc (tB v)]) (fun _=>true)
   (fun v=>match v with | .tup [a,b]=>b | v=>v) (rO.of (by kernel_rfl) trivial) ?_ ?_ ?_ ?_ ?_ ?_ ?_))
 ·refine xM (io (ti 6 rfl rfl (Bj X) (.mk nw (bi (lm 3 rfl rfl (cr (C6 hit xv UX (lR 50 (lU 1 L4)) ?_)))))))
  refine ve (uv (uh 1 rfl rfl (bv (Ej G)) ?_))
  refine ⟨_,(sc its).map pv,none,some T,rfl,by simp;rfl,by simp;exact lR 999987 (lT (lE UG) L4),rfl,vH T,(fun u v h=>by exact uH h),?_⟩
  rw [ak]
  refine x9 (vY (by rw [← ak];simp;rfl) rfl (fun a ha=>?_))
  obtain ⟨b,_,rfl⟩:=aE.mp ha
  exact ⟨_,rfl⟩
 ·simp;exact aj (eY _ _) (aj hT (by decide))
 ·rintro v hv G sZ (rfl | ⟨b,rfl⟩)
  all_goals
   obtain ⟨c,_,rfl⟩:=aE.mp hv
   exact xW (vo 1 rfl rfl (vo 2 rfl rfl ⟨rfl,rfl⟩))
 ·intro v hv G
  exact tl ⟨rfl,rfl⟩
 ·intro v hv _ G
  obtain ⟨b,_,rfl⟩:=aE.mp hv
  exact lm 2 rfl rfl ⟨rfl,rfl⟩
 ·intro v hv _
  obtain ⟨b,_,rfl⟩:=aE.mp hv
  rfl
 ·have eF:((((sc its).take T).map pv).filter fun _=>true).map (fun v=>match v with | AV.tup [a,b]=>b | v=>v)=rQ (s0 W T):=by
   rw [gM.mpr (fun _ _=>rfl),aX]
   unfold rQ s0
   rw [hits,aX]
   rfl
  rw [eF]
  refine (i12 _ rfl (VU H (([.cell (some (.ref l)),.cell (some (.int T)),.list (rQ [[]]),rY its]++G)++[.list (rQ (s0 W T))]) (.list (rQ (s0 W T))) ?_ (uY.refl H) ?_ ?_ yc rfl rfl))
  ·unfold yu
   rw [ak,ak,ak]
  ·simp [tZ];exact lD 4 (lR 4 lI)
  ·simp
end
end
noncomputable def OR:List Stmt:=fBody (vP pw 41)
noncomputable abbrev Pr:List Str:=["few","weights","turns","book","opened","turn","word","heap","range","sum","len","heappush","_law_weight","heappop"]
noncomputable def Al (few:List Int) (i n:Nat):Nat:=((ul (ef few (some (i:Int)) none (some ((3:Nat):Int)))).fmod n).toNat
noncomputable def yR (W:W3) (T:Nat) (j:Nat) (s:List (List Nat)×List HP):List (List Nat)×List HP :=
 (s.1.eraseIdx j++v7.map ((s.1.getD j [])++·),rW s.2 (sM W T (s.1.getD j []),s.1.getD j []))
noncomputable def ld (W:W3) (T:Nat) (few:List Int):Nat→List (List Nat)×List HP
 | 0=>([[]],[])
 | n+1=>yR W T (Al few n (ld W T few n).1.length) (ld W T few n)
theorem B6 {few:List Int} {i n:Nat} (h:0 < n):Al few i n < n∧((ul (ef few (some (i:Int)) none (some ((3:Nat):Int)))).fmod n)=(Al few i n:Nat):=by
 unfold Al
 have h1:=iD (ul (ef few (some (i:Int)) none (some ((3:Nat):Int)))) (b:=(n:Int)) (mK h)
 have h2:=je (ul (ef few (some (i:Int)) none (some ((3:Nat):Int)))) (b:=(n:Int)) (mK h)
 exact ⟨(qT h1).mpr h2,(jy h1).symm⟩
theorem tN (W:W3) (T:Nat) (few:List Int):∀ n,(∀ x∈(ld W T few n).1,(∀ y∈x,tT y=true)∧x.length≤n)∧(ld W T few n).1.length=2 * n+1∧(ld W T few n).2.length=n:=by
 intro n
 induction n with
 | zero=>exact (sS (fun x hx=>by rw [aU.mp hx];exact ⟨fun y hy=>(by cases hy),ar _⟩) rfl rfl)
 | succ n ih =>
  obtain ⟨h1,h2,h3⟩:=ih
  have e:ld W T few (n+1)=yR W T (Al few n (ld W T few n).1.length) (ld W T few n):=rfl
  rw [e]
  generalize ld W T few n=s at h1 h2 h3
  have hj:=(B6 (few:=few) (i:=n) (n:=s.1.length) (lT (lU 1 lZ) (lS h2))).1
  generalize Al few n s.1.length=j at hj
  have hw:s.1.getD j []∈s.1:=by
   rw [gB,aQ hj]
   exact eL hj
  refine (sS (fun x hx=>?_) ?_ ?_)
  ·rcases bV.mp hx with q | q
   ·have:=h1 x (List.mem_of_mem_eraseIdx q)
    exact ⟨this.1,lR 1 this.2⟩
   ·obtain ⟨c,hc,rfl⟩:=aE.mp q
    obtain ⟨w1,w2⟩:=h1 _ hw
    have NO : (∀ y∈c,tT y=true)∧c.length=1:=by
     simp at hc
     rcases hc with rfl | rfl | rfl <;> exact ⟨by decide,rfl⟩
    exact ⟨fun y hy=>(bV.mp hy).elim (w1 y) (NO.1 y),by rw [aI];lia⟩
  ·refine (?_:(s.1.eraseIdx j++v7.map _).length=_)
   rw [aI,qU,if_pos hj,aM]
   refine (?_:s.1.length - 1+3=_)
   exact h2▸rfl
  ·refine (?_:(rW _ _).length=_)
   rw [(r5 _ _).length_eq,aS,h3]
section
set_option backward.match.sparseCases false
theorem GA {α β:Type} (f:α→β):∀ (l:List α) (j:Nat),(l.map f).eraseIdx j=(l.eraseIdx j).map f:=by
 intro v_
 induction v_ with
 | nil =>
  intro xJ
  exact rfl
 | cons a l sg =>
  intro xJ
  cases xJ with
  | zero =>
   exact rfl
  | succ j =>
   simp [sg j]
section
noncomputable def ua (H:AH) (ow oh:Option AV) (bk:List (List Nat)) (op:List HP):AH:=H++[.cell ow,.cell oh,.list (rQ bk),rY op]
theorem sE {H:AH} {ow oh:Option AV} {bk:List (List Nat)} {op:List HP}:(ua H ow oh bk op).length=H.length+4:=by simp [ua]
theorem sX {H:AH} {ow oh:Option AV} {bk:List (List Nat)} {op:List HP} (G:AH) (i:Nat) (hi:i < 4):(ua H ow oh bk op++G)[H.length+i]?=[AO.cell ow,.cell oh,.list (rQ bk),rY op][i]?:=by
 rw [aR (by rw [sE];exact oB hi)]
 unfold ua
 rw [aK lI]
 congr 1
 exact nB _ _
theorem w9 {H:AH} {ow oh:Option AV} {bk:List (List Nat)} {op:List HP} (G:AH) (i:Nat) (hi:i < 4) (o:AO):(ua H ow oh bk op++G).set (H.length+i) o=H++[AO.cell ow,.cell oh,.list (rQ bk),rY op].set i o++G:=by
 rw [cA _ _ (by rw [sE];exact oB hi)]
 unfold ua
 rw [bY _ _ lI]
 have:H.length+i - H.length=i:=nB _ _
 rw [this]
noncomputable abbrev GY (f l T n:Nat) (ot:Option AV):List ci:=[.loc (some (.ref f)),.loc (some (.ref l)),.loc (some (.int T)),.loc (some (.ref (n+2))),.loc (some (.ref (n+3))),.loc ot,.sG n,.sG (n+1),.rc,.rc,.rc,.rc,.rc,.rc]
theorem L5 (X:(KK P).In am) {W:W3} (hW:W.Ok) {f l T ep k:Nat} {few:List Int} {H:AH} (hf:H[f]?=some (.list (few.map .int))) (UY:few.length≤1000) (hl:H[l]?=some (sa an w W.es ep)) (hT:T≤3) (Bh:H.length+4≤k):∀ (r i:Nat) (G:AH) (ow ot:Option AV),i+r=T→(ua H ow none (ld W T few i).1 (ld W T few i).2++G)[k]?=some (rI i r) →
  SF an w am (d+4) Pr (GY f l T H.length ot) (ua H ow none (ld W T few i).1 (ld W T few i).2++G) k (fun be it=>.forLoop (fT (nb OR 2)) it (fB (nb OR 2)) (fO (nb OR 2)) be)
   (fun fl ρ' H'=>fl=.next∧∃ ow ot G',ρ'=GY f l T H.length ot∧H'=ua H ow none (ld W T few T).1 (ld W T few T).2++G'):=by
 intro r
 induction r with
 | zero =>
  intro i G ow ot vR hk
  have:i=T:=lA (lE vR) (lS vR)
  subst this
  refine tQ (sw hk (fun h=>absurd h (by decide)) (fun _=>?_))
  refine ev (vm rfl (Nw ow ot (G.set (k - (H.length+4)) .s9) rfl ?_))
  rw [mt (by rw [sE];exact Bh),sE]
 | succ r ih =>
  intro i G ow ot vR hk
  have sj:=(rK hk)
  have q_:=tN W T few i;have g1:=q_.1;have g2:=q_.2.1;have g3:=q_.2.2
  refine tQ (sw hk (fun _=>?_) (fun h=>absurd h (nE _)))
  refine vo 5 rfl rfl ?_
  have vA:=az (a:=rI ((i:Int)+1) (((r+1:Nat):Int) - 1)) sj
  rw [mt (by rw [sE];exact Bh)] at vA ⊢
  generalize G.set (k - (ua H ow none (ld W T few i).1 (ld W T few i).2).length) (rI ((i:Int)+1) (((r+1:Nat):Int) - 1))=G1 at vA
  have hn:ld W T few (i+1)=yR W T (Al few i (ld W T few i).1.length) (ld W T few i):=rfl
  generalize hs:ld W T few i=s at vA g1 g2 g3 hn ⊢
  obtain ⟨bk,op⟩:=s
  simp only at vA g1 g2 g3 hn ⊢
  have q_:=B6 (few:=few) (i:=i) (n:=bk.length) (lT (lU 1 lZ) (lS g2));have hj:=q_.1;have W7:=q_.2
  generalize hjj:Al few i bk.length=j at hj W7 hn
  have hx:bk[j]?=some bk[j]:=aQ hj
  have SZ:bk.getD j []=bk[j]:=by rw [gB,hx];rfl
  have q_:=g1 _ (eL hj);have w1:=q_.1;have w2:=q_.2
  generalize bk[j]=x at hx SZ w1 w2
  have JR:∀ (ow oh:Option AV) (bk:List (List Nat)) (op:List HP) (G:AH),(ua H ow oh bk op++G)[l]?=some (sa an w W.es ep):=fun ow oh bk op G=>by
   unfold ua
   rw [ak]
   exact bv hl
  have hfb:∀ (ow oh:Option AV) (bk:List (List Nat)) (op:List HP) (G:AH),(ua H ow oh bk op++G)[f]?=some (.list (few.map .int)):=fun ow oh bk op G=>by
   unfold ua
   rw [ak]
   exact bv hf
  have L6:(rQ bk).length=bk.length:=by simp [rQ]
  have e1:∀ G:AH,sH .Mod (.int (ul (ef few (some (i:Int)) none (some ((3:Nat):Int))))) (.int ((rQ bk).length:Nat)) G=some (.int (j:Nat),G):=fun G=>by
   refine (?_:(if ((rQ bk).length:Int)≠0 then some (AV.int (Int.fmod _ _),G) else none)=_)
   rw [L6,if_pos (by lia),W7]
  refine bd (t6 6 rfl (uu (lm 3 rfl rfl (.mk "list.pop" (uO F.slot_list_pop F.type_list_pop (sX G1 2 (by decide))) (bi ?_)))))
  refine pc (io (ti 9 rfl rfl (yK X) (.mk nw (bi (F8 (lm 0 rfl rfl (lm 5 rfl rfl (f8 ⟨f,few,i,3,rfl,hfb _ _ _ _ _,lR 999000 UY,rfl,rfl,by decide,cr (BK (l:=ef few (some (i:Int)) none (some ((3:Nat):Int))) (by simp) ?_)⟩))))))))
  refine io (ti 10 rfl rfl (ue X) (.mk nw (bi (lm 3 rfl rfl (cr ((xr (bv (sX G1 2 (by decide))) (by rw [L6];exact zL (aj (mR vR) hT) g2)).to ?_))))))
  refine (JL _ _ _ _ rfl rfl (e1 _) (cr (HE (j:=j) (a:=.str x) (xs:=rQ bk) (bv (sX G1 2 (by decide))) (by rw [L6];exact vZ hj (zL (aj (mR vR) hT) g2)) (by unfold rQ;rw [bu,hx];rfl) (by rw [L6];exact zL (aj (mR vR) hT) g2) ?_)))
  have ee:(rQ bk).eraseIdx j=rQ (bk.eraseIdx j):=GA _ bk j
  rw [ee,ak,w9 _ 2 (by decide)]
  have u7:(ua H ow none bk op++(G1++[AO.list ((ef few (some (i:Int)) none (some ((3:Nat):Int))).map .int)]))[k]?=some (rI ((i:Int)+1) (((r+1:Nat):Int) - 1)):=by rw [← ak];exact bv vA
  generalize (G1++[AO.list ((ef few (some (i:Int)) none (some ((3:Nat):Int))).map .int)])=G2 at u7 ⊢
  have y9:∀ (ow oh:Option AV) (W8 : List (List Nat)) (xD : List HP),(ua H ow oh W8 xD++G2)[k]?=some (rI ((i:Int)+1) (((r+1:Nat):Int) - 1)):=fun UZ oh W8 xD=>by
   rw [aK (by rw [sE];exact Bh),sE]
   rw [aK (by rw [sE];exact Bh),sE] at u7
   exact u7
  have U0 : (ua H ow none (bk.eraseIdx j) op++G2)[H.length]?=some (.cell ow):=sX G2 0 (by decide)
  have Rt:(ua H ow none (bk.eraseIdx j) op++G2).set H.length (.cell (some (.str x)))=ua H (some (.str x)) none (bk.eraseIdx j) op++G2:=w9 G2 0 (by decide) _
  refine (tW (GY f l T H.length (some (.int i))) (ua H (some (.str x)) none (bk.eraseIdx j) op++G2) ?_ ?_)
  ·show (match (ua H ow none (bk.eraseIdx j) op++G2)[H.length]? with
    | some (.cell _)=>some (GY f l T H.length (some (.int i)),(ua H ow none (bk.eraseIdx j) op++G2).set H.length (.cell (some (.str x))))
    | _=>none)=_
   rw [U0,Rt]
  have hxT:x.length≤T:=lT w2 (lT lI (lE vR))
  have U1:ld W T few (i+1)=(bk.eraseIdx j++v7.map (x++·),rW op (sM W T x,x)):=by
   rw [hn]
   unfold yR
   simp only [SZ]
  refine bd (te (io (ti 11 rfl rfl (zw X) (.mk (tC X (by kernel_rfl)) (bi (lm 4 rfl rfl (bi (vn (bi (io (ti 12 rfl rfl (w8 X) (.mk (tC X (by kernel_rfl)) (bi (uh 6 rfl rfl (sX G2 0 (by decide)) (bi (lm 1 rfl rfl (bi (lm 2 rfl rfl (cr ((wY X hW w1 (JR _ _ _ _ _) hxT hT).to ?_))))))))))))))))))))
  refine bi (uh 6 rfl rfl (sX G2 0 (by decide)) (cr ⟨by simp,cr ((vg X (x:=(sM W T x,x)) (sX G2 3 (by decide)) (lR 99996 (lT (lE g3) (lT lI (lT (lE vR) hT))))).to ?_)⟩))
  rw [w9 _ 3 (by decide)]
  refine (?_:ST an w am (d+4) Pr (GY f l T H.length (some (.int i))) (ua H (some (.str x)) none (bk.eraseIdx j) (rW op (sM W T x,x))++G2) _ _)
  generalize rW op (sM W T x,x)=op2 at U1 ⊢
  generalize Gn:bk.eraseIdx j=U2 at U1 ⊢
  have U3:U2.length≤100:=by rw [← Gn,qU,if_pos hj];exact aj (dS _ _) (aj (aJ g2) (aj (dP (cy 2 (aj (mR vR) hT))) (by decide)))
  refine bd (te (uu (lm 3 rfl rfl (.mk "list.extend" (uO pW qm (sX G2 2 (by decide))) (bi ?_)))))
  refine uP (as:=W.es.map fun e=>.str e.1) [".0","letter","word"] [.loc,.loc,.sG 6 H.length] (fun v=>[.loc none,.loc (some v),.sG H.length]) (fun _=>true)
   (fun v=>match v with | .str c=>.str (x++c) | v=>v) (rO.of (by kernel_rfl) ⟨rfl,trivial⟩) ?_ ?_ ?_ ?_ ?_ ?_ ?_
  ·exact lm 1 rfl rfl (y7 (vE X) (JR _ _ _ _ _) rfl)
  ·simp [W3.es]
  ·rintro v hv G sZ (rfl | ⟨b,rfl⟩)
   ·exact vo 1 rfl rfl ⟨rfl,rfl⟩
   ·exact vo 1 rfl rfl ⟨rfl,rfl⟩
  ·intro v hv G
   exact tl ⟨rfl,rfl⟩
  ·intro v hv _ G
   obtain ⟨c,Ej,UP⟩ : ∃ c:List Nat,v=.str c∧c.length≤1:=by
    simp [W3.es] at hv
    rcases hv with rfl | rfl | rfl <;> exact (i12 _ rfl (by simp))
   subst Ej
   rw [ak]
   refine uc (uh 2 rfl rfl (sX _ 0 (by decide)) (lm 1 rfl rfl ((xE (x:=.str (x++c)) (H':=_) ?_).to ⟨rfl,rfl⟩)))
   refine (?_:(if x.length+c.length≤1000000 then some (AV.str (x++c),_) else none)=_)
   rw [if_pos (PO hT vR w2 UP)]
  ·intro v hv _
   simp [W3.es] at hv
   rcases hv with rfl | rfl | rfl <;> rfl
  have UJ:((W.es.map fun e=>AV.str e.1).filter fun _=>true).map (fun v=>match v with | AV.str c=>AV.str (x++c) | v=>v)=rQ (v7.map (x++·)):=rfl
  rw [UJ]
  refine cr (AX (ys:=rQ (v7.map (x++·))) (bv (sX G2 2 (by decide))) (by rw [aK (ar _),eO];rfl) (by simp [rQ];exact lR 999897 U3) ?_)
  have ea:rQ U2++rQ (v7.map (x++·))=rQ (U2++v7.map (x++·)):=by unfold rQ;rw [dF]
  rw [ea,ak,w9 _ 2 (by decide)]
  refine ev ?_
  have:=ih (i+1) (G2++[.list (rQ (v7.map (x++·)))]) (some (.str x)) (some (.int i)) (nN vR) (by
   rw [← ak]
   have e2:(((r+1:Nat):Int) - 1)=(r:Int):=nC _
   rw [e2] at y9
   exact bv (y9 _ _ _ _))
  rw [U1] at this
  exact this
end
end
section
set_option backward.match.sparseCases false
noncomputable def dI (W:W3) (T:Nat) (l:List (List Nat)):List HP:=l.foldl (fun h x=>rW h (ae W T x)) []
theorem GB (W:W3) (T:Nat):∀ (l:List (List Nat)) (h:List HP),(l.foldl (fun h x=>rW h (ae W T x)) h).length=h.length+l.length:=by
 intro v_
 induction v_ with
 | nil =>
  intro h
  exact rfl
 | cons x l sg =>
  intro h
  rw [fN,sg]
  have:=(r5 h (ae W T x)).length_eq
  simp only [aS] at this ⊢
  lia
section
theorem I8 (X:(KK P).In am) {W:W3} (hW:W.Ok) {f l T ep k hi:Nat} {bk:List (List Nat)} {op:List HP} {H:AH} (hl:H[l]?=some (sa an w W.es ep)) (hT:T≤3) (hb:∀ x∈bk,(∀ y∈x,tT y=true)∧x.length≤T) (U4:bk.length≤100) (Bh:H.length+4≤k) (W9:H.length+4≤hi) (sz:k≠hi) {ot:Option AV}:∀ (r i:Nat) (G:AH) (ow:Option AV) (hp:List HP),i+r=bk.length→hp.length≤i →
  (ua H ow (some (.ref hi)) bk op++G)[k]?=some (.iter (H.length+2) i)→(ua H ow (some (.ref hi)) bk op++G)[hi]?=some (rY hp) →
  SF an w am (d+4) Pr (GY f l T H.length ot) (ua H ow (some (.ref hi)) bk op++G) k (fun be it=>.forLoop (fT (nb OR 4)) it (fB (nb OR 4)) (fO (nb OR 4)) be)
   (fun fl ρ' H'=>fl=.next∧∃ ow G',ρ'=GY f l T H.length ot∧H'=ua H ow (some (.ref hi)) bk op++G'∧H'[hi]?=some (rY ((bk.drop i).foldl (fun h x=>rW h (ae W T x)) hp))):=by
 intro r
 induction r with
 | zero =>
  intro i G ow hp vR Cy hk hh
  have:i=bk.length:=lA (lE vR) (lS vR)
  subst this
  refine tQ (tK hk (sX G 2 (by decide)) (fun v e=>?_) (fun _=>?_))
  ·have:=(rK e)
   simp [rQ] at this
  ·refine ev (vm rfl (Do ow (G.set (k - (H.length+4)) .s9) rfl ?_ ?_))
   ·rw [mt (by rw [sE];exact Bh),sE]
   ·rw [ce sz,hh,m5]
    rfl
 | succ r ih =>
  intro i G ow hp vR Cy hk hh
  have sj:=(rK hk)
  have va:i < bk.length:=nQ vR
  refine tQ (tK hk (sX G 2 (by decide)) (fun v e=>?_) (fun e=>?_))
  ·have hv:v=.str bk[i]:=by
    unfold rQ at e
    rw [bu,aQ va] at e
    exact (ay e).symm
   subst hv
   have vA:=az (a:=AO.iter (H.length+2) (i+1)) sj
   have U5:((ua H ow (some (.ref hi)) bk op++G).set k (.iter (H.length+2) (i+1)))[hi]?=some (rY hp):=by rw [ce sz];exact hh
   rw [mt (by rw [sE];exact Bh)] at vA U5 ⊢
   generalize G.set (k - (ua H ow (some (.ref hi)) bk op).length) (AO.iter (H.length+2) (i+1))=G1 at vA U5
   obtain ⟨w1,w2⟩:=hb _ (eL va)
   have GZ:bk.drop i=bk[i]::bk.drop (i+1):=ez va
   generalize bk[i]=x at w1 w2 GZ ⊢
   have U0 : (ua H ow (some (.ref hi)) bk op++G1)[H.length]?=some (.cell ow):=sX G1 0 (by decide)
   have Rt:(ua H ow (some (.ref hi)) bk op++G1).set H.length (.cell (some (.str x)))=ua H (some (.str x)) (some (.ref hi)) bk op++G1:=w9 G1 0 (by decide) _
   refine wQ (i:=6) (ρ':=GY f l T H.length ot) (H':=ua H (some (.str x)) (some (.ref hi)) bk op++G1) rfl (by decide +kernel) ?_ ?_
   ·show (match (ua H ow (some (.ref hi)) bk op++G1)[H.length]? with
     | some (.cell _)=>some (GY f l T H.length ot,(ua H ow (some (.ref hi)) bk op++G1).set H.length (.cell (some (.str x))))
     | _=>none)=_
    rw [U0,Rt]
   have u7:(ua H (some (.str x)) (some (.ref hi)) bk op++G1)[k]?=some (.iter (H.length+2) (i+1)):=by
    rw [← Rt,ce (lL (lD 3 (lR 3 Bh)))];exact vA
   have Pn:(ua H (some (.str x)) (some (.ref hi)) bk op++G1)[hi]?=some (rY hp):=by
    rw [← Rt,ce (lL (lD 3 (lR 3 W9)))];exact U5
   have JR:(ua H (some (.str x)) (some (.ref hi)) bk op++G1)[l]?=some (sa an w W.es ep):=by
    unfold ua
    rw [ak]
    exact bv hl
   refine bd (te (io (ti 11 rfl rfl (zw X) (.mk (tC X (by kernel_rfl)) (bi (uh 7 rfl rfl (sX G1 1 (by decide)) (bi (vn (bi (vt (io (ti 12 rfl rfl (w8 X) (.mk (tC X (by kernel_rfl)) (bi (uh 6 rfl rfl (sX G1 0 (by decide)) (bi (lm 1 rfl rfl (bi (lm 2 rfl rfl (cr ((wY X hW w1 JR w2 hT).to ?_)))))))))))))))))))))
   refine yF (bi (uh 6 rfl rfl (sX G1 0 (by decide)) (cr ⟨by simp,cr ((vg X (x:=ae W T x) Pn (lR 99899 (lT Cy (lT lI (lT (lE vR) U4))))).to ?_)⟩)))
   have Ru:=(rK Pn)
   have Xa:=az (a:=rY (rW hp (ae W T x))) Ru
   have MT:((ua H (some (.str x)) (some (.ref hi)) bk op++G1).set hi (rY (rW hp (ae W T x))))[k]?=some (.iter (H.length+2) (i+1)):=by rw [ce (aq sz)];exact u7
   rw [mt (by rw [sE];exact W9)] at Xa MT ⊢
   refine ev ((ih (i+1) _ (some (.str x)) _ (nN vR) (by have:=(r5 hp (ae W T x)).length_eq;simp only [aS] at this;exact lT (lE this) (lU 1 Cy)) MT Xa).mono ?_)
   rintro fl ρ' H' ⟨rfl,ow,G',rfl,rfl,e⟩
   refine (vm rfl (Do ow G' rfl rfl ?_))
   rw [e,GZ]
   rfl
  ·have:=bM.mp e
   simp [rQ] at this
   exact absurd (nQ vR) (fm this)
end
end
theorem Am {xs:List HP} (h:sW xs) {m:HP} (hm:xs[0]?=some m):∀ a∈xs,tz a m=false:=fun a ha=>by
 obtain ⟨j,hj⟩:=qZ ha
 exact Gx h hm j a hj
theorem Fu:∀ (n:Nat) (xs:List HP),sW xs→n≤xs.length→(uE n xs).Pairwise (fun a b=>tz b a=false):=by
 intro v_
 induction v_ with
 | zero =>
  intro xJ ho h
  exact mw
 | succ n sg =>
  intro xJ ho h
  cases xJ with
  | nil =>
   simp at h
  | cons a t =>
   have hp:=v6 a t
   have hl:=hp.length_eq
   simp only [aS] at h
   refine nu.cons (fun b hb=>?_) (sg (tV (a::t)) (IU ho) (lD 1 (lT h (lU 1 (lS hl)))))
   have uw:=(vJ n (tV (a::t)) (lD 1 (lT h (lU 1 (lS hl))))).1.mem_iff.mp (fb _ hb)
   exact Am ho rfl b (ba _ (hp.mem_iff.mp uw))
theorem vL {n:Nat} {xs:List HP} (hn:n=xs.length):(uE n xs).Perm xs:=by
 obtain ⟨h1,h2⟩:=vJ n xs (aJ hn)
 have h3:=h1.length_eq
 rw [aI,h2] at h3
 have:rests n xs=[]:=j7 (by lia)
 rw [this,cO] at h1
 exact h1
theorem GC {n:Nat} {xs:List HP} (h:sW xs) (hd:xs.Nodup) (hn:n=xs.length):uE n xs=sc xs:=by
 have hp:=vL hn
 refine yl hp hd ?_
 have h1:=Fu n xs h (aJ hn)
 have h2:(uE n xs).Nodup:=hp.nodup_iff.mpr hd
 refine (cK.mpr fun i j hi hj xX=>?_)
 have a1:=(cK.mp h1) i j hi hj xX
 have a2:=(cK.mp h2) i j hi hj xX
 cases q:tz (uE n xs)[i] (uE n xs)[j] with
 | true=>rfl
 | false=>exact absurd (yk q a1) a2
theorem El (W:W3) (T:Nat):∀ (l:List (List Nat)) (h:List HP),(l.foldl (fun h x=>rW h (ae W T x)) h).Perm (l.map (ae W T)++h):=by
 intro v_
 induction v_ with
 | nil =>
  intro h
  exact eP _
 | cons x l sg =>
  intro h
  rw [fN,bD]
  refine (sg _).trans ?_
  refine ((r5 h (ae W T x)).append_left _).trans ?_
  exact List.perm_middle
theorem I9 (W:W3) (T:Nat):∀ (l:List (List Nat)) (h:List HP),sW h→sW (l.foldl (fun h x=>rW h (ae W T x)) h):=by
 intro v_
 induction v_ with
 | nil =>
  intro h o
  exact o
 | cons x l sg =>
  intro h o
  exact sg _ (ym o)
theorem Da (W:W3) (T:Nat) (l:List (List Nat)):(dI W T l).Perm (l.map (ae W T)):=by
 have:=El W T l []
 rwa [cO] at this
theorem Db:sW []:=fun j a b hj ha=>by simp at ha
theorem GD (W:W3) (T:Nat) (l:List (List Nat)):sW (dI W T l):=I9 W T l [] Db
theorem Ja (a:HP):sW [a]:=fun j x b hj ha=>by
 have:=(rK ha)
 simp at this
 exact lX hj (lU 1 (lE this))
theorem Bk (W:W3) (T:Nat):∀ n,sW (jp W T n).1:=by
 intro v_
 induction v_ with
 | zero =>
  exact Ja _
 | succ n sg =>
  exact ym (ym (IS (by rw [(rs W T n).2.1];exact lU 1 lZ) (sg)))
theorem Rv (W:W3) (T:Nat) (few:List Int):∀ n,sW (ld W T few n).2:=by
 intro v_
 induction v_ with
 | zero =>
  exact Db
 | succ n sg =>
  exact ym (sg)
theorem Bl (W:W3):∀ (x:List Nat) (v:Int),x.foldl (fun pi y=>pi * W.of y) v=v * x.foldl (fun pi y=>pi * W.of y) 1:=by
 intro v_
 induction v_ with
 | nil =>
  intro v
  simp
 | cons y r sg =>
  intro v
  rw [fN,fN,sg (v * W.of y),sg (1 * W.of y),Int.one_mul,iT]
theorem yn (W:W3) {t:Nat} {x:List Nat} (c:Nat) (h:x.length < t):sM W t (x++[c]) * W.sum=sM W t x * W.of c:=by
 unfold sM
 rw [mv,fN,List.foldl_nil,Bl W x (W.sum ^ (t - (x++[c]).length)),Bl W x (W.sum ^ (t - x.length))]
 have e:t - x.length=(t - (x++[c]).length)+1:=by rw [aI];simp;exact (Nat.succ_pred_eq_of_pos (l0 h)).symm
 rw [e,mr]
 generalize W.sum ^ (t - (x++[c]).length)=S
 generalize x.foldl (fun pi y=>pi * W.of y) 1=p
 rw [iT (S * p),kP (W.of c),← iT,iT S p W.sum,kP p W.sum,← iT]
theorem GE {W:W3} (h:W.Ok) (c:Nat):W.of c < W.sum:=by
 have:=h.a1;have:=h.b1;have:=h.c1
 unfold W3.of W3.sum
 split
 ·lia
 ·split <;> lia
theorem L7 {W:W3} (h:W.Ok) {t:Nat} {x:List Nat} (hx:x.length≤t):1≤sM W t x:=(HA h hx).1
theorem OS {W:W3} (h:W.Ok) {t:Nat} {x:List Nat} (c:Nat) (hx:x.length < t):sM W t (x++[c]) < sM W t x:=by
 have h1:=yn W c hx
 have h2:=L7 h (bp hx)
 have h3:=GE h c
 have h4:=(W3.wz h).1
 by_cases q:sM W t (x++[c]) < sM W t x
 ·exact q
 ·have h5:=Int.mul_le_mul_of_nonneg_right (a:=sM W t x) (b:=sM W t (x++[c])) (c:=W.sum) (mZ q) (bI h4)
  have h6:=Int.mul_lt_mul_of_pos_left (c:=sM W t x) h3 (by lia)
  exact absurd (Int.lt_of_lt_of_le h6 h5) (h1▸Int.lt_irrefl _)
theorem L8 {W:W3} (h:W.Ok) {t:Nat} {x:List Nat} (hx:x.length < t):sM W t (x++[39])+sM W t (x++[32])+sM W t (x++[35])=sM W t x:=by
 have h1:=yn W 39 hx
 have h2:=yn W 32 hx
 have h3:=yn W 35 hx
 have h4:=(W3.wz h).1
 have e:(sM W t (x++[39])+sM W t (x++[32])+sM W t (x++[35])) * W.sum=sM W t x * W.sum:=by
  rw [kB,kB,h1,h2,h3,← iR,← iR]
  rfl
 exact Int.eq_of_mul_eq_mul_right (Int.ne_of_gt h4) e
theorem Fv {W:W3} (h:W.Ok) {t:Nat} {x:List Nat} (c:Nat) (hx:x.length < t):tz (ae W t x) (ae W t (x++[c]))=true:=by
 have:=OS h c hx
 unfold tz ae
 simp only [cZ,decide_eq_true_eq]
 left
 lia
theorem Dc {W:W3} (h:W.Ok) {t:Nat}:∀ (r:List Nat) (x:List Nat),(x++r).length≤t→r≠[]→tz (ae W t x) (ae W t (x++r))=true:=by
 intro v_
 induction v_ with
 | nil =>
  intro x _ hr
  exact absurd rfl hr
 | cons c r sg =>
  intro x hl _
  have h1:x.length < t:=by rw [aI,aS] at hl;exact nP hl
  have h2:=Fv h c h1
  by_cases q:r=[]
  ·subst q;exact h2
  ·have h3:=sg (x++[c]) (by rw [ak];exact hl) q
   rw [ak] at h3
   exact xw h2 h3
theorem L9:∀ (n:Nat) (x:List Nat),(∀ y∈x,tT y=true)→x.length=n→x∈lvl n:=by
 intro v_
 induction v_ with
 | zero =>
  intro x _ h
  rw [j7 h];exact aU.mpr rfl
 | succ n sg =>
  intro x hl h
  rcases ry x with rfl | ⟨z,c,rfl⟩
  ·simp at h
  rw [List.concat_eq_append] at hl h ⊢
  rw [aI] at h
  have hz:=sg z (fun y hy=>hl y (fb _ hy)) (by simpa using h)
  have hc:=hl c (by simp)
  refine iB.mpr (i12 z hz (aE.mpr (i12 [c] ?_ rfl)))
  simp only [tT,cZ,beq_iff_eq] at hc
  rcases hc with (rfl | rfl) | rfl <;> simp
theorem cU {n:Nat} {x:List Nat}:x∈tG n↔(∀ y∈x,tT y=true)∧x.length < n:=by
 unfold tG
 rw [iB]
 constructor
 ·rintro ⟨i,hi,hx⟩
  obtain ⟨h1,h2⟩:=Ak i x hx
  exact ⟨h1,by rw [h2];exact dc.mp hi⟩
 ·rintro ⟨h1,h2⟩
  exact (i12 x.length (dc.mpr h2) (L9 _ x h1 rfl))
structure Rw (W:W3) (T n:Nat) (s:List HP×List (List Nat)):Prop where
 ops:∀ x∈s.2,(∀ y∈x,tT y=true)∧x.length < n
 U6:(s.2.map (ae W T)).Pairwise (fun a b=>tz a b=true)
 low:∀ o∈s.2,∀ a∈s.1,tz (ae W T o) a=true
 Ps:∀ x:List Nat,(∀ y∈x,tT y=true)→x∈s.2∨∃ a∈s.1,a.2 <+: x
 Jb:(s.1.map (·.2)).Pairwise (fun x y=>¬ x <+: y∧¬ y <+: x)
theorem Em (W:W3) (hW:W.Ok) (T:Nat):∀ n,n≤T→Rw W T n (jp W T n):=by
 intro n
 induction n with
 | zero =>
  intro _
  exact ⟨fun x hx=>(by cases hx),mw,fun o ho=>(by cases ho),fun x _=>.inr (i12 (ae W T []) (aU.mpr rfl) jU),me ..⟩
 | succ n ih =>
  intro hn
  have I:=ih (lD 1 (lR 1 hn))
  obtain ⟨f1,f2,_,_⟩:=rs W T n
  have ho:=Bk W T n
  have e:jp W T (n+1)=wG W T (jp W T n):=rfl
  rw [e]
  generalize jp W T n=s at I f1 f2 ho
  obtain ⟨hp,op⟩:=s
  cases hp with
  | nil=>simp at f2
  | cons a t =>
  obtain ⟨a1,a2,a3⟩:=f1 a aZ
  have P1:=ur a t (ae W T (a.2++[39]))
  have P2:=(r5 (tg (a::t) (ae W T (a.2++[39]))) (ae W T (a.2++[32]))).trans (P1.cons _)
  have P3:=(r5 (rW (tg (a::t) (ae W T (a.2++[39]))) (ae W T (a.2++[32]))) (ae W T (a.2++[35]))).trans (P2.cons _)
  refine (?_:Rw W T (n+1) (rW (rW (tg (a::t) (ae W T (a.2++[39]))) (ae W T (a.2++[32]))) (ae W T (a.2++[35])),op++[a.2]))
  generalize rW (rW (tg (a::t) (ae W T (a.2++[39]))) (ae W T (a.2++[32]))) (ae W T (a.2++[35]))=SS at P3
  have hA:=I.Jb
  rw [bD,gE] at hA
  obtain ⟨Rx,U7⟩:=hA
  have LS:∀ b∈t,tz a b=true:=fun b hb=>by
   cases q:tz a b with
   | true=>rfl
   | false =>
    have q2:=Am ho rfl b (ba _ hb)
    have:=yk q q2
    have h3:=(Rx b.2 (dZ hb)).1
    rw [this] at h3
    exact absurd (il _) h3
  have Ry:∀ b∈SS,(∃ c,tT c=true∧b=ae W T (a.2++[c]))∨b∈t:=fun b hb=>by
   have uw:=P3.mem_iff.mp hb
   rcases aA.mp uw with rfl | uw
   ·exact .inl (i12 35 rfl rfl)
   ·rcases aA.mp uw with rfl | uw
    ·exact .inl (i12 32 rfl rfl)
    ·rcases aA.mp uw with rfl | uw
     ·exact .inl (i12 39 rfl rfl)
     ·exact .inr uw
  have Jc:∀ c,tz a (ae W T (a.2++[c]))=true:=fun c=>by
   have:=Fv hW c (t:=T) (x:=a.2) (lT (lU 1 a2) hn)
   rw [← a3] at this
   exact this
  refine ⟨?_,?_,?_,?_,?_⟩
  ·intro x hx
   rcases bV.mp hx with q | q
   ·exact ⟨(I.ops x q).1,by have:=(I.ops x q).2;exact lR 1 this⟩
   ·rw [aU.mp q];exact ⟨a1,lU 1 a2⟩
  ·refine (?_:((op++[a.2]).map (ae W T)).Pairwise _)
   rw [dF,kU]
   refine (sS I.U6 (me ..) (fun x hx y hy=>?_))
   obtain ⟨o,MB,rfl⟩:=aE.mp hx
   have hy' : y=ae W T a.2:=by simpa using hy
   rw [hy',← a3]
   exact I.low o MB a aZ
  ·intro o MB b hb
   rcases bV.mp MB with q | q
   ·have h1:=I.low o q a aZ
    rcases Ry b hb with ⟨c,_,rfl⟩ | OT
    ·exact xw h1 (Jc c)
    ·exact I.low o q b (ba _ OT)
   ·rw [aU.mp q,← a3]
    rcases Ry b hb with ⟨c,_,rfl⟩ | OT
    ·exact Jc c
    ·exact LS b OT
  ·intro x hx
   rcases I.Ps x hx with q | ⟨b,hb,xh⟩
   ·exact .inl (fb _ q)
   ·rcases aA.mp hb with rfl | OT
    ·obtain ⟨r,rfl⟩:=xh
     cases r with
     | nil=>exact .inl (by simp)
     | cons c r =>
      have hc:tT c=true:=hx c (by simp)
      refine .inr (i12 (ae W T (b.2++[c])) (P3.mem_iff.mpr ?_) ⟨r,by simp [ae]⟩)
      simp only [tT,cZ,beq_iff_eq] at hc
      rcases hc with (rfl | rfl) | rfl <;> simp
    ·exact .inr (i12 b (P3.mem_iff.mpr (by simp [OT])) xh)
  ·have OU:∀ {x y:List Nat},(¬ x <+: y∧¬ y <+: x)→(¬ y <+: x∧¬ x <+: y):=fun h=>⟨h.2,h.1⟩
   refine (jC OU (P3.map (·.2))).mpr ?_
   have LY:∀ c,∀ y∈t.map (·.2),¬ (a.2++[c]) <+: y∧¬ y <+: (a.2++[c]):=fun c y hy=>by
    obtain ⟨k1,k2⟩:=Rx y hy
    refine ⟨fun q=>k1 ((gF _ _).trans q),fun q=>?_⟩
    rcases mX.mp q with q | q
    ·exact k1 (q▸gF _ _)
    ·exact k2 q
   have GF:∀ c c',c≠c'→¬ (a.2++[c]) <+: (a.2++[c']):=fun c c' sz q=>by
    have:=q.eq_of_length (by simp)
    exact sz (by simpa using this)
   simp only [bD,gE,ae]
   refine (FE (fun y hy=>?_) (fun y hy=>?_) (fun y hy=>?_) U7)
   ·rcases aA.mp hy with rfl | hy
    ·exact ⟨GF _ _ (by decide),GF _ _ (by decide)⟩
    ·rcases aA.mp hy with rfl | hy
     ·exact ⟨GF _ _ (by decide),GF _ _ (by decide)⟩
     ·exact LY _ y hy
   ·rcases aA.mp hy with rfl | hy
    ·exact ⟨GF _ _ (by decide),GF _ _ (by decide)⟩
    ·exact LY _ y hy
   ·exact LY _ y hy
theorem Dd {L O:List HP} (hL:L.Nodup) (hO:O.Pairwise (fun a b=>tz a b=true)) (sub:∀ a∈O,a∈L) (up:∀ b∈L,b∉O→∀ a∈O,tz a b=true):(sc L).take O.length=O:=by
 have U8:O.Nodup:=hO.imp fun {a b} h e=>by rw [e,xY] at h;exact nomatch h
 have p1:(L.filter (fun b=>decide (b∈O))).Perm O:=(List.perm_ext_iff_of_nodup (hL.filter _) U8).mpr fun a=>by
  rw [dE]
  simp only [decide_eq_true_eq]
  exact ⟨fun h=>h.2,fun h=>⟨sub a h,h⟩⟩
 have p2:=List.filter_append_perm (fun b=>decide (b∈O)) L
 have p3:(O++sc (L.filter fun b=>!decide (b∈O))).Perm L:=((p1.symm.append_right _).trans ((rU _).append_left _)).trans p2
 have hpw:(O++sc (L.filter fun b=>!decide (b∈O))).Pairwise (fun a b=>tz a b=true):=by
  rw [kU]
  refine ⟨hO,vK (hL.filter _),fun a ha b hb=>?_⟩
  have uw:=(rU _).mem_iff.mp hb
  rw [dE] at uw
  exact up b uw.1 (by simpa using uw.2) a ha
 rw [← yl p3 hL hpw,qQ]
theorem uF {W:W3} {T:Nat} {l:List (List Nat)} (h:l.Nodup):(l.map (ae W T)).Nodup:=by
 refine wI ?_
 rw [aX]
 have:((fun x:HP=>x.2) ∘ ae W T)=id:=rfl
 rw [this,dW]
 exact h
theorem tj {W:W3} (hW:W.Ok) {T:Nat} (hT:T≤3):(jp W T T).2=s0 W T:=by
 have I:=Em W hW T T (ar _)
 have mo:=(rs W T T).2.2.1
 have h:=Dd (L:=(tG T).map (ae W T)) (O:=(jp W T T).2.map (ae W T)) (uF (v9 hT)) I.U6
  (fun a ha=>by
   obtain ⟨x,hx,rfl⟩:=aE.mp ha
   exact dZ (cU.mpr (I.ops x hx)))
  (fun b hb hn a ha=>by
   obtain ⟨x,hx,rfl⟩:=aE.mp hb
   obtain ⟨o,ho,rfl⟩:=aE.mp ha
   obtain ⟨S0,Ma⟩:=cU.mp hx
   rcases I.Ps x S0 with q | ⟨c,hc,r,hr⟩
   ·exact absurd (dZ q) hn
   ·have h1:=I.low o ho c hc
    have h2:=((rs W T T).1 c hc).2.2
    by_cases q:r=[]
    ·subst q
     rw [cO] at hr
     rw [← hr,← h2]
     exact h1
    ·have h3:=Dc hW (t:=T) r c.2 (by rw [hr];exact lD 1 (lR 1 Ma)) q
     rw [hr,← h2] at h3
     exact xw h1 h3)
 unfold s0
 rw [aM,mo] at h
 rw [h,aX]
 have:((fun x:HP=>x.2) ∘ ae W T)=id:=rfl
 rw [this,dW]
noncomputable def sr (W:W3) (T:Nat):List (List Nat):=(uE (2 * T+1) (jp W T T).1).map (·.2)
theorem yS {W:W3} (hW:W.Ok) (T:Nat):(jp W T T).1.Nodup:=by
 have h:=(Em W hW T T (ar _)).Jb
 rw [lQ] at h
 exact h.imp fun {a b} h e=>h.1 (by rw [e];exact il _)
theorem GG {W:W3} (hW:W.Ok) (T:Nat):uE (2 * T+1) (jp W T T).1=sc (jp W T T).1 :=
 GC (Bk W T T) (yS hW T) (rs W T T).2.1.symm
theorem En {W:W3} (hW:W.Ok) (T:Nat):(sr W T).map (ae W T)=sc (jp W T T).1:=by
 unfold sr
 rw [GG hW,aX]
 conv=>rhs;rw [← dW (sc (jp W T T).1)]
 refine gN fun a ha=>?_
 exact (((rs W T T).1 a ((rU _).mem_iff.mp ha)).2.2).symm
theorem Eo {W:W3} (hW:W.Ok) (T:Nat):sc ((sr W T).map (ae W T))=(sr W T).map (ae W T):=by
 rw [En hW]
 exact (yl (eP _) ((rU _).nodup_iff.mpr (yS hW T)) (vK (yS hW T))).symm
theorem yT {W:W3} (T:Nat):(∀ x∈sr W T,(∀ y∈x,tT y=true)∧x.length≤T)∧(sr W T).length=2 * T+1:=by
 have hl:=(rs W T T).2.1
 obtain ⟨p1,p2⟩:=vJ (2 * T+1) (jp W T T).1 (lS hl)
 refine ⟨fun x hx=>?_,by unfold sr;rw [aM,p2]⟩
 obtain ⟨a,ha,rfl⟩:=aE.mp hx
 have:=(rs W T T).1 a (p1.mem_iff.mp (fb _ ha))
 exact ⟨this.1,this.2.1⟩
theorem yU {W:W3} (hW:W.Ok) (T:Nat):(sr W T).Pairwise (fun x y=>¬ x <+: y∧¬ y <+: x):=by
 have OU:∀ {x y:List Nat},(¬ x <+: y∧¬ y <+: x)→(¬ y <+: x∧¬ x <+: y):=fun h=>⟨h.2,h.1⟩
 unfold sr
 exact (jC OU ((vL (rs W T T).2.1.symm).map (·.2))).mpr (Em W hW T T (ar _)).Jb
theorem Jd {W:W3} (hW:W.Ok) (T:Nat) (x:List Nat) (hx:∀ y∈x,tT y=true):x∈(jp W T T).2∨∃ z∈sr W T,z <+: x:=by
 rcases (Em W hW T T (ar _)).Ps x hx with q | ⟨a,ha,h⟩
 ·exact .inl q
 ·refine .inr ⟨a.2,?_,h⟩
  exact dZ ((vL (rs W T T).2.1.symm).mem_iff.mpr ha)
theorem Je (W:W3) (T:Nat):∀ n,∀ o∈(jp W T n).2,∃ a∈(jp W T n).1,o <+: a.2:=by
 intro n
 induction n with
 | zero=>intro o ho;cases ho
 | succ n ih =>
  have q_:=rs W T n;have f1:=q_.1;have f2:=q_.2.1
  have e:jp W T (n+1)=wG W T (jp W T n):=rfl
  rw [e]
  generalize jp W T n=s at ih f1 f2
  obtain ⟨hp,op⟩:=s
  cases hp with
  | nil=>simp at f2
  | cons a t =>
  have P1:=ur a t (ae W T (a.2++[39]))
  have P2:=(r5 (tg (a::t) (ae W T (a.2++[39]))) (ae W T (a.2++[32]))).trans (P1.cons _)
  have P3:=(r5 (rW (tg (a::t) (ae W T (a.2++[39]))) (ae W T (a.2++[32]))) (ae W T (a.2++[35]))).trans (P2.cons _)
  refine (?_:∀ o∈op++[a.2],∃ b∈rW (rW (tg (a::t) (ae W T (a.2++[39]))) (ae W T (a.2++[32]))) (ae W T (a.2++[35])),o <+: b.2)
  have hc:ae W T (a.2++[39])∈rW (rW (tg (a::t) (ae W T (a.2++[39]))) (ae W T (a.2++[32]))) (ae W T (a.2++[35])):=P3.mem_iff.mpr (by simp)
  intro o ho
  rcases bV.mp ho with q | q
  ·obtain ⟨b,hb,xh⟩:=ih o q
   rcases aA.mp hb with rfl | OT
   ·exact (i12 _ hc (xh.trans (gF _ _)))
   ·exact (i12 b (P3.mem_iff.mpr (by simp [OT])) xh)
  ·rw [aU.mp q]
   exact (i12 _ hc (gF _ _))
theorem Fw {W:W3} (hW:W.Ok) {T:Nat} (hT:1≤T):[]∉sr W T:=by
 intro h
 have h1:=yU hW T
 have h2:=(yT (W:=W) T).2
 obtain ⟨i,hi,e⟩:=List.getElem_of_mem h
 rw [cK] at h1
 by_cases q:i=0
 ·have:=(h1 i 1 hi (fD (Nat.succ_lt_succ (Nat.mul_pos (by decide) hT)) h2.symm) (lU 1 (lE q))).1
  rw [e] at this
  exact this jU
 ·have:=(h1 0 i (lT (lU 1 lZ) (lS h2)) hi (lP q)).2
  rw [e] at this
  exact this jU
theorem take_prefix {x t:List Nat}:t.take x.length=x↔x <+: t:=by
 constructor
 ·intro h;rw [← h];exact nX _ _
 ·rintro ⟨r,rfl⟩;simp
theorem vM {t:List Nat} {bm:List (List Nat)} {k:Nat}:k∈re t bm↔∃ x,bm[k]?=some x∧x <+: t:=by
 unfold re
 rw [dE,dc]
 constructor
 ·rintro ⟨h1,h2⟩
  have:bm.getD k []=bm[k]:=by simp [h1]
  rw [this] at h2
  exact (i12 (bm[k]) (aQ h1) (take_prefix.mp (by simpa using h2)))
 ·rintro ⟨x,h1,h2⟩
  have q_:=cQ.mp h1;have hl:=q_.1;have e:=q_.2
  refine ⟨hl,?_⟩
  have:bm.getD k []=x:=by rw [gB,h1];rfl
  rw [this,take_prefix.mpr h2]
  simp
theorem Jf {bm:List (List Nat)} (h:bm.Pairwise (fun x y=>¬ x <+: y∧¬ y <+: x)) (t:List Nat):(re t bm).length≤1:=by
 have hn:(re t bm).Nodup:=jD.filter _
 cases e:re t bm with
 | nil=>simp
 | cons a r =>
  cases r with
  | nil=>simp
  | cons b r =>
   exfalso
   rw [e] at hn
   have Pt:a≠b:=fun q=>by rw [q] at hn;simp at hn
   obtain ⟨x,hx,px⟩:=vM.mp (show a∈re t bm by rw [e];simp)
   obtain ⟨y,hy,py⟩:=vM.mp (show b∈re t bm by rw [e];simp)
   have q_:=cQ.mp hx;have la:=q_.1;have ea:=q_.2
   have q_:=cQ.mp hy;have lb:=q_.1;have eb:=q_.2
   have hh:¬ x <+: y∧¬ y <+: x:=by
    rw [cK] at h
    by_cases q:a < b
    ·have:=h a b la lb q;rw [ea,eb] at this;exact this
    ·have:=h b a lb la (lB (lN q) Pt);rw [ea,eb] at this;exact ⟨this.2,this.1⟩
   rcases rk x.length y.length with q | q
   ·exact hh.1 (pI px py q)
   ·exact hh.2 (pI py px q)
noncomputable def glue (bm:List (List Nat)) (p:List Nat):List Nat:=(p.map fun k=>bm.getD k []).flatten
theorem Jg {bm:List (List Nat)} (h:bm.Pairwise (fun x y=>¬ x <+: y∧¬ y <+: x)) (sz:[]∉bm):∀ (f:Nat) (t p:List Nat),t.length≤f →
  (tR bm f t p).2.2=[]∧re (tR bm f t p).2.1 bm=[]∧(∃ q,(tR bm f t p).1=p++q∧glue bm q++(tR bm f t p).2.1=t∧q.length≤t.length∧∀ k∈q,k < bm.length):=by
 have stop:∀ t,¬ ((re t bm).length=1∧bm.getD ((re t bm).getD 0 0) []≠[])→re t bm=[]:=by
  intro t hn
  have h1:=Jf h t
  cases e:re t bm with
  | nil=>rfl
  | cons a r =>
   exfalso
   rw [e] at h1 hn
   simp only [aS] at h1 hn
   refine hn ⟨lA h1 (lU 1 lZ),fun q=>?_⟩
   obtain ⟨x,hx,_⟩:=vM.mp (show a∈re t bm by rw [e];simp)
   have:bm.getD a []=x:=by rw [gB,hx];rfl
   simp only [List.getD_cons_zero] at q
   rw [this] at q
   exact sz (q▸bx hx)
 intro f
 induction f with
 | zero =>
  intro t p ht
  have:t=[]:=j7 (lA ht lZ)
  subst this
  have hs:re [] bm=[]:=by
   cases e:re [] bm with
   | nil=>rfl
   | cons a r =>
    exfalso
    obtain ⟨x,hx,px⟩:=vM.mp (show a∈re [] bm by rw [e];simp)
    rw [qk] at px
    exact sz (px▸bx hx)
  exact (sS hs hs (Kl [] (List.append_nil p).symm rfl (ar _) (fun k hk=>by cases hk)))
 | succ f ih =>
  intro t p ht
  by_cases c:(re t bm).length=1∧bm.getD ((re t bm).getD 0 0) []≠[]
  ·have e:tR bm (f+1) t p=tR bm f (t.drop (bm.getD ((re t bm).getD 0 0) []).length) (p++[(re t bm).getD 0 0]):=by rw [z6,if_pos c]
   rw [e]
   have c1:=c.1;have c2:=c.2
   have hk:(re t bm).getD 0 0∈re t bm:=by
    cases q:re t bm with
    | nil=>rw [q] at c1;simp at c1
    | cons a r=>simp
   generalize (re t bm).getD 0 0=k at hk c2 ⊢
   obtain ⟨x,hx,px⟩:=vM.mp hk
   have hg:bm.getD k []=x:=by rw [gB,hx];rfl
   rw [hg] at c2 ⊢
   have IG:0 < x.length:=ky.mpr c2
   obtain ⟨r,rfl⟩:=px
   rw [jv]
   rw [aI] at ht
   obtain ⟨i1,i2,q,i3,i4,i5,i6⟩:=ih r (p++[k]) (by lia)
   refine (sS i1 i2 (Kl (k::q) (by rw [i3];simp) ?_ (by simp;lia) (fun j hj=>?_)))
   ·refine (?_:((k::q).map fun k=>bm.getD k []).flatten++_=_)
    rw [bD,List.flatten_cons,hg,ak]
    congr 1
   ·rcases aA.mp hj with rfl | hj
    ·exact (rK hx)
    ·exact i6 j hj
  ·have e:tR bm (f+1) t p=(p,t,re t bm):=by rw [z6,if_neg c]
   have hs:=stop t c
   rw [e]
   exact (sS hs hs (Kl [] (by simp) (by simp [glue]) (bK _) (fun k hk=>by cases hk)))
theorem Jh {W:W3} (hW:W.Ok) {T:Nat} (hT:1≤T) {t:List Nat} (ht:∀ y∈t,tT y=true) :
  (tR (sr W T) t.length t []).2.2=[]∧(∃ z∈sr W T,z.take (tR (sr W T) t.length t []).2.1.length=(tR (sr W T) t.length t []).2.1) ∧
  glue (sr W T) (tR (sr W T) t.length t []).1++(tR (sr W T) t.length t []).2.1=t∧(tR (sr W T) t.length t []).1.length≤t.length∧∀ k∈(tR (sr W T) t.length t []).1,k < (sr W T).length:=by
 obtain ⟨h1,h2,q,h3,h4,h5,h6⟩:=Jg (yU hW T) (Fw hW hT) t.length t [] (ar _)
 rw [gG] at h3
 rw [h3]
 refine (XT h1 ?_ h4 h5 h6)
 generalize (tR (sr W T) t.length t []).2.1=l at h2 h4 ⊢
 have hl:∀ y∈l,tT y=true:=fun y hy=>ht y (by rw [← h4];exact jf _ hy)
 rcases Jd hW T l hl with r | ⟨z,hz,pz⟩
 ·obtain ⟨a,ha,pa⟩:=Je W T T l r
  exact (i12 a.2 (dZ ((vL (rs W T T).2.1.symm).mem_iff.mpr ha)) (take_prefix.mpr pa))
 ·obtain ⟨k,hk⟩:=qZ hz
  have:=vM.mpr (i12 z hk pz)
  rw [h2] at this
  cases this
theorem GH {n:Nat} (h1:61≤n) (h2:n≤67) {os:List Nat} {i:Nat} {rest:List Nat} (h:os.drop i=sU n++rest) :
  ∃ f b,os[i]?=some b∧KR os f b (b &&& 63) (i+1)=some (n,i+(sU n).length):=by
 have Hn:∀ j,os[i+j]?=(sU n++rest)[j]?:=fun j=>by rw [← h,l5]
 have hc:n=61∨n=62∨n=63∨n=64∨n=65∨n=66∨n=67:=Tt h1 h2
 have one:∀ b,sU n=[b]→b &&& 64=0→b &&& 63=n→∃ f b,os[i]?=some b∧KR os f b (b &&& 63) (i+1)=some (n,i+(sU n).length):=fun b e e1 e2=>by
  refine (tW 0 b (by have:=Hn 0;rw [e] at this;simpa using this) ?_)
  rw [e,Hz,if_pos e1,e2]
  rfl
 have two:∀ b c,sU n=[b,c]→b &&& 64≠0→b &&& 63 < 2 ^ 58→c &&& 64=0→(b &&& 63) * 64 ||| (c &&& 63)=n→∃ f b,os[i]?=some b∧KR os f b (b &&& 63) (i+1)=some (n,i+(sU n).length):=fun b c e e1 e2 e3 e4=>by
  refine (tW 1 b (by have:=Hn 0;rw [e] at this;simpa using this) ?_)
  have hc:os[i+1]?=some c:=by have:=Hn 1;rw [e] at this;simpa using this
  rw [e,MM,if_neg e1,if_pos e2,hc]
  simp only
  rw [Hz,if_pos e3,e4]
  rfl
 rcases hc with rfl | rfl | rfl | rfl | rfl | rfl | rfl
 ·exact one 189 (by decide) (by decide) (by decide)
 ·exact one 190 (by decide) (by decide) (by decide)
 ·exact one 191 (by decide) (by decide) (by decide)
 ·exact two 193 0 (by decide) (by decide) (by decide) (by decide) (by decide)
 ·exact two 193 1 (by decide) (by decide) (by decide) (by decide) (by decide)
 ·exact two 193 2 (by decide) (by decide) (by decide) (by decide) (by decide)
 ·exact two 193 3 (by decide) (by decide) (by decide) (by decide) (by decide)
noncomputable def tH (lc:List Nat):List Nat:=lc.flatMap fun k=>sU (k+61)
noncomputable def s8 (l:List Int):Int:=l.foldr (·+·) 0
theorem wb {A B:List Int} (h:A.Perm B):s8 A=s8 B:=by
 induction h with
 | nil=>rfl
 | cons x _ ih=>exact congrArg (x+·) ih
 | swap x y l =>
  refine (?_:y+(x+s8 l)=x+(y+s8 l))
  lia
 | trans _ _ a b=>exact a.trans b
theorem Mb (l:List Int):ul l=s8 l:=by
 have:∀ (l:List Int) (v:Int),l.foldl (·+·) v=v+s8 l:=by
  intro l
  induction l with
  | nil=>intro v;simp [s8]
  | cons a r ih =>
   intro v
   rw [fN,ih]
   refine (?_:v+a+s8 r=v+(a+s8 r))
   lia
 unfold ul
 rw [this]
 lia
theorem Bm:∀ (S O:List HP),S.Pairwise (fun a b=>a.1≤b.1)→O.Nodup→(∀ a∈O,a∈S)→s8 ((S.take O.length).map (·.1))≤s8 (O.map (·.1)):=by
 intro v_
 induction v_ with
 | nil =>
  intro O _ _ sub
  cases O with
  | nil=>exact fw _
  | cons a r=>exact absurd (sub a aZ) (by simp)
 | cons s S sg =>
  intro O hs hO sub
  rw [gE] at hs
  by_cases q:s∈O
  ·have p:O.Perm (s::O.erase s):=qS q
   have hl:=p.length_eq
   rw [aS] at hl
   rw [wb (p.map (·.1)),hl,hH,bD,bD]
   have sz:=(p.nodup_iff.mp hO)
   rw [cq] at sz
   have:=sg (O.erase s) hs.2 sz.2 (fun a ha=>by
    have h1:=sub a (lq ha)
    rcases aA.mp h1 with rfl | h1
    ·exact absurd ha sz.1
    ·exact h1)
   refine (?_:s.1+_≤s.1+_)
   unfold s8 at this
   exact iQ this _
  ·cases O with
   | nil=>exact fw _
   | cons o O =>
    rw [cq] at hO
    have hm:∀ a∈o::O,a∈S:=fun a ha=>by
     rcases aA.mp (sub a ha) with rfl | h1
     ·exact absurd ha q
     ·exact h1
    have h1:=hs.1 o (hm o aZ)
    have:=sg O hs.2 hO.2 (fun a ha=>hm a (ba _ ha))
    rw [aS,hH,bD,bD]
    refine (?_:s.1+_≤o.1+_)
    unfold s8 at this
    exact qK h1 this
noncomputable def t8 (W:W3) (T:Nat) (l:List (List Nat)):Int:=s8 (l.map (sM W T))
noncomputable def wK (W:W3) (T:Nat) (l:List (List Nat)):Int:=s8 (l.map fun x=>sM W T x * x.length)
theorem uW {W:W3} {T:Nat} {l l' : List (List Nat)} (h:l.Perm l'):wK W T l=wK W T l':=wb (h.map _)
theorem yV {W:W3} {T:Nat} {l l' : List (List Nat)} (h:l.Perm l'):t8 W T l=t8 W T l':=wb (h.map _)
theorem Bn {W:W3} (hW:W.Ok) {T:Nat} {x:List Nat} (hx:x.length < T) (r:List (List Nat)):wK W T ((x++[39])::(x++[32])::(x++[35])::r)=wK W T (x::r)+sM W T x:=by
 have h:=L8 hW hx
 refine (?_:sM W T (x++[39]) * ((x++[39]).length:Nat)+(sM W T (x++[32]) * ((x++[32]).length:Nat)+(sM W T (x++[35]) * ((x++[35]).length:Nat)+wK W T r))=sM W T x * (x.length:Nat)+wK W T r+sM W T x)
 simp only [aI,aS,cS]
 have e:((x.length+(0+1):Nat):Int)=(x.length:Int)+1:=rfl
 rw [e,iR,iR,iR,oj,oj,oj]
 have e2:sM W T (x++[39]) * (x.length:Int)+sM W T (x++[32]) * (x.length:Int)+sM W T (x++[35]) * (x.length:Int)=sM W T x * (x.length:Int):=by rw [← kB,← kB,h]
 exact zJ h e2
theorem Ji {W:W3} (hW:W.Ok) {T:Nat}:∀ n,n≤T→wK W T ((jp W T n).1.map (·.2))=t8 W T (jp W T n).2:=by
 intro n
 induction n with
 | zero=>intro _;simp [jp,wK,t8,s8,ae]
 | succ n ih =>
  intro hn
  have I:=ih (lD 1 (lR 1 hn))
  have q_:=rs W T n;have f1:=q_.1;have f2:=q_.2.1
  have e:jp W T (n+1)=wG W T (jp W T n):=rfl
  rw [e]
  generalize jp W T n=s at I f1 f2
  obtain ⟨hp,op⟩:=s
  cases hp with
  | nil=>simp at f2
  | cons a t =>
  obtain ⟨a1,a2,a3⟩:=f1 a aZ
  have P1:=ur a t (ae W T (a.2++[39]))
  have P2:=(r5 (tg (a::t) (ae W T (a.2++[39]))) (ae W T (a.2++[32]))).trans (P1.cons _)
  have P3:=(r5 (rW (tg (a::t) (ae W T (a.2++[39]))) (ae W T (a.2++[32]))) (ae W T (a.2++[35]))).trans (P2.cons _)
  refine (?_:wK W T ((rW (rW (tg (a::t) (ae W T (a.2++[39]))) (ae W T (a.2++[32]))) (ae W T (a.2++[35]))).map (·.2))=t8 W T (op++[a.2]))
  have P4:((rW (rW (tg (a::t) (ae W T (a.2++[39]))) (ae W T (a.2++[32]))) (ae W T (a.2++[35]))).map (·.2)).Perm ((a.2++[39])::(a.2++[32])::(a.2++[35])::t.map (·.2)):=by
   refine (P3.map (·.2)).trans ?_
   simp only [bD,ae]
   refine (jJ _ _ _).trans ?_
   refine ((jJ _ _ _).cons _).trans ?_
   exact jJ _ _ _
  rw [uW P4,Bn hW (lT (lU 1 a2) hn),yV (k9 a.2 op)]
  refine (?_:wK W T ((a::t).map (·.2))+_=sM W T a.2+t8 W T op)
  rw [I]
  simp only
  exact jH _ _
theorem An {α:Type}:∀ (l:List α) (j:Nat) (h:j < l.length),l.Perm (l[j]::l.eraseIdx j)
 | a::l,0,_=>eP _
 | a::l,j+1,h=>((An l j (by simpa using h)).cons a).trans (jJ _ _ _)
structure OV (W:W3) (T n:Nat) (s:List (List Nat)×List HP):Prop where
 ops:∀ a∈s.2,(∀ y∈a.2,tT y=true)∧a.2.length < n∧a.1=sM W T a.2
 S8:(s.2.map (·.2)).Nodup
 Jb:s.1.Pairwise (fun x y=>¬ x <+: y∧¬ y <+: x)
 sep:∀ a∈s.2,∀ x∈s.1,¬ x <+: a.2
 Ps:∀ x:List Nat,(∀ y∈x,tT y=true)→x∈s.2.map (·.2)∨∃ y∈s.1,y <+: x
 par:∀ y∈s.1,∀ z,z <+: y→z≠y→z∈s.2.map (·.2)
 len:wK W T s.1=s8 (s.2.map (·.1))
theorem Jj {W:W3} (hW:W.Ok) {T:Nat} (few:List Int):∀ n,n≤T→OV W T n (ld W T few n):=by
 intro n
 induction n with
 | zero =>
  intro _
  refine ⟨fun x hx=>(by cases hx),mw,me ..,fun o ho=>(by cases ho),fun x _=>.inr (i12 [] (aU.mpr rfl) jU),fun y hy z hz sz=>?_,?_⟩
  ·rw [aU.mp hy,qk] at hz
   rw [aU.mp hy] at sz
   exact absurd hz sz
  ·simp [wK,s8,show ld W T few 0=([[]],[]) from rfl]
 | succ n ih =>
  intro hn
  have I:=ih (lD 1 (lR 1 hn))
  have q_:=tN W T few n;have f1:=q_.1;have f2:=q_.2.1
  have e:ld W T few (n+1)=yR W T (Al few n (ld W T few n).1.length) (ld W T few n):=rfl
  rw [e]
  generalize ld W T few n=s at I f1 f2
  obtain ⟨bk,op⟩:=s
  have hj:=(B6 (few:=few) (i:=n) (n:=bk.length) (by simp only at f2;exact lT (lU 1 lZ) (lS f2))).1
  refine (?_:OV W T (n+1) (yR W T (Al few n bk.length) (bk,op)))
  generalize Al few n bk.length=j at hj
  have SZ:bk.getD j []=bk[j]:=by simp [hj]
  have Rz:bk[j]∈bk:=eL hj
  have hP:bk.Perm (bk[j]::bk.eraseIdx j):=An bk j hj
  refine (?_:OV W T (n+1) (bk.eraseIdx j++v7.map ((bk.getD j [])++·),rW op (sM W T (bk.getD j []),bk.getD j [])))
  rw [SZ]
  have q_:=f1 _ Rz;have x1:=q_.1;have x2:=q_.2
  generalize bk[j]=x at Rz hP x1 x2
  generalize bk.eraseIdx j=r at hP
  have hA:=(jC (fun {a b} (h:¬ a <+: b∧¬ b <+: a)=>⟨h.2,h.1⟩) hP).mp I.Jb
  rw [gE] at hA
  have Rx:=hA.1;have U7:=hA.2
  have Xb:∀ y∈r,y∈bk:=fun y hy=>hP.mem_iff.mpr (ba _ hy)
  have JQ:(rW op (sM W T x,x)).Perm ((sM W T x,x)::op):=r5 _ _
  have Jk:((rW op (sM W T x,x)).map (·.2)).Perm (x::op.map (·.2)):=JQ.map (·.2)
  have RA:(r++v7.map (x++·)).Perm ((x++[39])::(x++[32])::(x++[35])::r):=List.perm_append_comm
  generalize rW op (sM W T x,x)=xD at JQ Jk
  have U9:∀ y∈v7.map (x++·),∃ c,y=x++[c]:=fun y hy=>by
   simp at hy
   rcases hy with rfl | rfl | rfl <;> exact ⟨_,rfl⟩
  have Va:∀ c,¬ (x++[c]) <+: x:=fun c q=>by
   have:=q.length_le
   rw [aI,hZ] at this
   exact lX this lO
  have RC:wK W T bk=wK W T (x::r):=uW hP
  refine ⟨?_,?_,?_,?_,?_,?_,?_⟩
  ·intro a ha
   rcases aA.mp (JQ.mem_iff.mp ha) with rfl | q
   ·exact (sS x1 (by refine (?_:x.length < n+1);exact lU 1 x2) rfl)
   ·have:=I.ops a q
    exact (sS this.1 (lR 1 this.2.1) this.2.2)
  ·refine Jk.nodup_iff.mpr (cq.mpr ⟨fun q=>?_,I.S8⟩)
   obtain ⟨a,ha,e2⟩:=aE.mp q
   exact I.sep a ha x Rz (e2▸il _)
  ·refine (jC (fun {a b} (h:¬ a <+: b∧¬ b <+: a)=>⟨h.2,h.1⟩) RA).mpr ?_
   have LY:∀ c,∀ y∈r,¬ (x++[c]) <+: y∧¬ y <+: (x++[c]):=fun c y hy=>by
    have q_:=Rx y hy;have k1:=q_.1;have k2:=q_.2
    refine ⟨fun q=>k1 ((gF _ _).trans q),fun q=>?_⟩
    rcases mX.mp q with q | q
    ·exact k1 (q▸gF _ _)
    ·exact k2 q
   have GF:∀ c c',c≠c'→¬ (x++[c]) <+: (x++[c']):=fun c c' sz q=>by
    have:=q.eq_of_length (by simp)
    exact sz (by simpa using this)
   simp only [gE]
   refine (FE (fun y hy=>?_) (fun y hy=>?_) (fun y hy=>?_) U7)
   ·rcases aA.mp hy with rfl | hy
    ·exact ⟨GF _ _ (by decide),GF _ _ (by decide)⟩
    ·rcases aA.mp hy with rfl | hy
     ·exact ⟨GF _ _ (by decide),GF _ _ (by decide)⟩
     ·exact LY _ y hy
   ·rcases aA.mp hy with rfl | hy
    ·exact ⟨GF _ _ (by decide),GF _ _ (by decide)⟩
    ·exact LY _ y hy
   ·exact LY _ y hy
  ·intro a ha y hy q
   rcases aA.mp (JQ.mem_iff.mp ha) with rfl | ha
   ·rcases bV.mp hy with hy | hy
    ·exact (Rx y hy).2 q
    ·obtain ⟨c,rfl⟩:=U9 y hy
     exact Va c q
   ·rcases bV.mp hy with hy | hy
    ·exact I.sep a ha y (Xb y hy) q
    ·obtain ⟨c,rfl⟩:=U9 y hy
     exact I.sep a ha x Rz ((gF _ _).trans q)
  ·intro z hz
   rcases I.Ps z hz with q | ⟨y,hy,xh⟩
   ·exact .inl (Jk.mem_iff.mpr (ba _ q))
   ·rcases aA.mp (hP.mem_iff.mp hy) with rfl | hyr
    ·obtain ⟨u,rfl⟩:=xh
     cases u with
     | nil=>exact .inl (Jk.mem_iff.mpr (by simp))
     | cons c u =>
      have hc:tT c=true:=hz c (by simp)
      refine .inr (i12 (y++[c]) (jf _ ?_) ⟨u,by simp⟩)
      simp only [tT,cZ,beq_iff_eq] at hc
      rcases hc with (rfl | rfl) | rfl <;> simp
    ·exact .inr (i12 y (fb _ hyr) xh)
  ·intro y hy z hz sz
   refine Jk.mem_iff.mpr ?_
   rcases bV.mp hy with hy | hy
   ·exact ba _ (I.par y (Xb y hy) z hz sz)
   ·obtain ⟨c,rfl⟩:=U9 y hy
    rcases mX.mp hz with q | q
    ·exact absurd q sz
    ·by_cases q2:z=x
     ·rw [q2];exact aZ
     ·exact ba _ (I.par x Rz z q q2)
  ·refine (?_:wK W T (r++v7.map (x++·))=_)
   rw [uW RA,Bn hW (lT (lU 1 x2) hn),← RC]
   have h1:=I.len
   simp only at h1
   rw [h1,wb (JQ.map (·.1))]
   refine (?_:_=sM W T x+s8 (op.map (·.1)))
   exact jH _ _
theorem GI {α:Type} (f:α→Int):∀ l:List α,s8 (l.map fun x=>-f x) = -s8 (l.map f):=by
 intro v_
 induction v_ with
 | nil =>
  exact rfl
 | cons a l sg =>
  have:=sg
  refine (?_:-f a+s8 (l.map fun x=>-f x) = -(f a+s8 (l.map f)))
  exact (congrArg (_+·) this).trans Int.neg_add.symm
theorem B7 {a b:HP} (h:tz a b=true):a.1≤b.1:=by
 unfold tz at h
 simp only [cZ,decide_eq_true_eq,eI,beq_iff_eq] at h
 lia
theorem xc {W:W3} {T:Nat} {S:List HP} (h:∀ a∈S,a=ae W T a.2):s8 (S.map (·.1)) = -t8 W T (S.map (·.2)):=by
 have e:S.map (·.1)=(S.map (·.2)).map fun x=>-sM W T x:=by
  rw [aX]
  refine gN fun a ha=>?_
  have:=h a ha
  exact congrArg (·.1) this
 rw [e,GI]
 rfl
theorem wL {W:W3} {T:Nat} {l:List (List Nat)}:∀ a∈sc (l.map (ae W T)),a=ae W T a.2:=fun a ha=>by
 obtain ⟨x,_,rfl⟩:=aE.mp ((rU _).mem_iff.mp ha)
 rfl
theorem yo {W:W3} {T:Nat} (hT:T≤3) {Q:List (List Nat)} (hn:Q.Nodup) (hs:∀ x∈Q,x∈tG T) (hl:Q.length=T):t8 W T Q≤t8 W T (s0 W T):=by
 have h:=Bm (sc ((tG T).map (ae W T))) (Q.map (ae W T)) ((vK (uF (v9 hT))).imp B7) (uF hn) (fun a ha=>by
  obtain ⟨x,hx,rfl⟩:=aE.mp ha
  exact (rU _).mem_iff.mpr (dZ (hs x hx)))
 rw [aM,hl,xc (fun a ha=>wL a (List.mem_of_mem_take ha)),xc (S:=Q.map (ae W T)) (fun a ha=>by obtain ⟨x,_,rfl⟩:=aE.mp ha;rfl)] at h
 have e:(Q.map (ae W T)).map (·.2)=Q:=by
  rw [aX]
  have:((fun x:HP=>x.2) ∘ ae W T)=id:=rfl
  rw [this,dW]
 rw [e] at h
 unfold s0
 exact lW.mp h
theorem yW {α:Type} [DecidableEq α]:∀ (A B:List α),A.Nodup→(∀ a∈A,a∈B)→A.length≤B.length:=by
 intro v_
 induction v_ with
 | nil =>
  intro _ _ _
  exact bK _
 | cons a A sg =>
  intro B hn hs
  rw [cq] at hn
  have ha:=hs a aZ
  have:=sg (B.erase a) hn.2 (fun b hb=>(List.mem_erase_of_ne (fun q=>hn.1 (by rw [← q];exact hb))).mpr (hs b (ba _ hb)))
  rw [oX ha] at this
  have:=List.length_pos_of_mem ha
  rw [aS]
  lia
theorem Ao {W:W3} (hW:W.Ok) {T:Nat} {x y:List Nat} (h:x <+: y) (hy:y.length≤T):sM W T y≤sM W T x:=by
 obtain ⟨r,rfl⟩:=h
 by_cases q:r=[]
 ·subst q;rw [cO];exact fw _
 ·have:=B7 (Dc hW r x hy q)
  simp only [ae] at this
  exact lW.mp this
section
variable {W:W3} (hW:W.Ok) {T:Nat} (hT:T≤3) {few:List Int}
include hW hT
theorem Ep:s8 ((ld W T few T).2.map (·.1))=t8 W T ((ld W T few T).2.map (·.2)):=by
 have I:=Jj hW few T (ar _)
 unfold t8
 rw [aX]
 congr 1
 exact gN fun a ha=>(I.ops a ha).2.2
theorem Jl:∀ x∈(ld W T few T).2.map (·.2),x∈tG T:=fun x hx=>by
 obtain ⟨a,ha,rfl⟩:=aE.mp hx
 have:=(Jj hW few T (ar _)).ops a ha
 exact cU.mpr ⟨this.1,this.2.1⟩
theorem Df:s8 ((ld W T few T).2.map (·.1))≤t8 W T (s0 W T):=by
 rw [Ep hW hT]
 exact yo hT (Jj hW few T (ar _)).S8 (Jl hW hT) (by rw [aM,(tN W T few T).2.2])
theorem Jm:s8 ((ld W T few T).2.map (·.1))=t8 W T (s0 W T)↔∀ z∈(ld W T few T).1,∀ a∈(ld W T few T).2,sM W T z≤a.1:=by
 have I:=Jj hW few T (ar _)
 have Os:=Jl hW hT (few:=few)
 have q_:=tN W T few T;have g1:=q_.1;have g2:=q_.2.1;have g3:=q_.2.2
 constructor
 ·intro h z hz a ha
  by_cases q:sM W T z≤a.1
  ·exact q
  exfalso
  have haw:=(I.ops a ha).2.2
  have Vb:a.2∈(ld W T few T).2.map (·.2):=dZ ha
  obtain ⟨z1,z2⟩:=g1 z hz
  have hzn:z∉(ld W T few T).2.map (·.2):=fun h=>by
   obtain ⟨b,hb,e⟩:=aE.mp h
   exact I.sep b hb z hz (e▸il _)
  have GU:z.length < T:=by
   by_cases c:z.length < T
   ·exact c
   exfalso
   have hpn:(a.2::(bq T).map fun i=>z.take i).Nodup→False:=fun hn=>by
    have:=yW _ ((ld W T few T).2.map (·.2)) hn (fun b hb=>by
     rcases aA.mp hb with rfl | hb
     ·exact Vb
     ·obtain ⟨i,hi,rfl⟩:=aE.mp hb
      have hi:=dc.mp hi
      refine I.par z hz _ (nX _ _) (fun e=>?_)
      have:=congrArg eZ e
      rw [dO] at this
      exact Tu z2 c hi this)
    rw [aS,aM,ji,aM,g3] at this
    exact lX this lO
   refine hpn (cq.mpr ⟨fun hm=>?_,?_⟩)
   ·obtain ⟨i,_,e⟩:=aE.mp hm
    have:=Ao hW (x:=a.2) (y:=z) (e▸nX _ _) z2
    lia
   ·unfold List.Nodup
    rw [lQ]
    refine nu.imp_of_mem (fun {i j} hi hj sz e=>?_) jD
    have hi:=dc.mp hi
    have hj:=dc.mp hj
    have:=congrArg eZ e
    rw [dO,dO] at this
    exact zN c sz hj this
  have hQ:=yo (W:=W) hT (Q:=z::((ld W T few T).2.map (·.2)).erase a.2) (cq.mpr ⟨fun h=>hzn (lq h),I.S8.erase _⟩) (fun x hx=>by
   rcases aA.mp hx with rfl | hx
   ·exact cU.mpr ⟨z1,GU⟩
   ·exact Os x (lq hx)) (by rw [aS,oX Vb,aM,g3];exact fA (zA GU))
  have hp:=yV (W:=W) (T:=T) (qS Vb)
  rw [← Ep hW hT,h] at hp
  have e1:t8 W T (z::((ld W T few T).2.map (·.2)).erase a.2)=sM W T z+t8 W T (((ld W T few T).2.map (·.2)).erase a.2):=rfl
  have e2:t8 W T (a.2::((ld W T few T).2.map (·.2)).erase a.2)=sM W T a.2+t8 W T (((ld W T few T).2.map (·.2)).erase a.2):=rfl
  exact q (haw▸Int.le_of_add_le_add_right (e1▸e2▸hp▸hQ))
 ·intro h
  refine iu (Df hW hT) ?_
  rw [Ep hW hT]
  have RD:∀ x∈tG T,x∉(ld W T few T).2.map (·.2)→∀ a∈(ld W T few T).2,sM W T x≤a.1:=fun x hx hn a ha=>by
   have q_:=cU.mp hx;have x1:=q_.1;have x2:=q_.2
   rcases I.Ps x x1 with q | ⟨y,hy,xh⟩
   ·exact absurd q hn
   ·exact aY (Ao hW xh (lD 1 (lR 1 x2))) (h y hy a ha)
  generalize hO:(ld W T few T).2.map (·.2)=O at Os RD
  have U8:O.Nodup:=hO▸I.S8
  have hOl:O.length=T:=by rw [← hO,aM,g3]
  have Vc:∀ x∈tG T,x∉O→∀ o∈O,sM W T x≤sM W T o:=fun x hx hn o ho=>by
   rw [← hO] at ho
   obtain ⟨a,ha,rfl⟩:=aE.mp ho
   rw [← (I.ops a ha).2.2]
   exact RD x hx hn a ha
  have hl:=Bm (sc (O.map (ae W T))++sc (((tG T).filter fun x=>!decide (x∈O)).map (ae W T))) ((s0 W T).map (ae W T)) ?_ ?_ ?_
  ·rw [aM] at hl
   have Ru:(s0 W T).length=T:=by rw [← tj hW hT];exact (rs W T T).2.2.1
   rw [Ru] at hl
   have e1:(sc (O.map (ae W T))++sc (((tG T).filter fun x=>!decide (x∈O)).map (ae W T))).take T=sc (O.map (ae W T)):=by
    exact List.take_left' (by rw [(rU _).length_eq,aM,hOl])
   rw [e1,xc (fun a ha=>wL a ha),xc (S:=(s0 W T).map (ae W T)) (fun a ha=>by obtain ⟨x,_,rfl⟩:=aE.mp ha;rfl)] at hl
   have e2:∀ l:List (List Nat),(l.map (ae W T)).map (·.2)=l:=fun l=>by
    rw [aX]
    have:((fun x:HP=>x.2) ∘ ae W T)=id:=rfl
    rw [this,dW]
   have e3:=yV (W:=W) (T:=T) ((rU (O.map (ae W T))).map (·.2))
   rw [e2] at hl e3
   exact aY (lW.mp hl) (iW e3)
  ·rw [kU]
   refine ⟨(vK (uF U8)).imp B7,(vK (uF ((v9 hT).filter _))).imp B7,fun a ha b hb=>?_⟩
   obtain ⟨o,ho,rfl⟩:=aE.mp ((rU _).mem_iff.mp ha)
   obtain ⟨x,hx,rfl⟩:=aE.mp ((rU _).mem_iff.mp hb)
   rw [dE] at hx
   have:=Vc x hx.1 (by simpa using hx.2) o ho
   simp only [ae]
   lia
  ·rw [← tj hW hT]
   exact (Em W hW T T (ar _)).U6.imp fun {a b} h e=>by rw [e,xY] at h;exact nomatch h
  ·intro a ha
   obtain ⟨x,hx,rfl⟩:=aE.mp ha
   rw [← tj hW hT] at hx
   have Ma:=cU.mpr ((Em W hW T T (ar _)).ops x hx)
   by_cases q:x∈O
   ·exact fb _ ((rU _).mem_iff.mpr (dZ q))
   ·exact jf _ ((rU _).mem_iff.mpr (dZ (dE.mpr ⟨Ma,by simpa using q⟩)))
end
noncomputable def uJ:List Int→Int
 | []=>0
 | [a]=>a
 | a::b::r=>if uJ (b::r)≤a then a else uJ (b::r)
theorem vN:∀ (l:List Int),l≠[]→uJ l∈l∧∀ u∈l,u≤uJ l
 | [],h=>absurd rfl h
 | [a],_=>⟨(.head _),fun u hu=>by rw [aU.mp hu];exact fw _⟩
 | a::b::r,_=>by
  have q_:=vN (b::r) (by simp);have h1:=q_.1;have h2:=q_.2
  refine (?_:(if uJ (b::r)≤a then a else uJ (b::r))∈a::b::r∧∀ u∈a::b::r,u≤(if uJ (b::r)≤a then a else uJ (b::r)))
  split
  ·rename_i q
   exact ⟨aZ,fun u hu=>by
    rcases aA.mp hu with rfl | hu
    ·exact fw _
    ·exact aY (h2 u hu) q⟩
  ·rename_i q
   exact ⟨ba _ h1,fun u hu=>by
    rcases aA.mp hu with rfl | hu
    ·lia
    ·exact h2 u hu⟩
theorem Mc {l:List Int} {v:Int} (h1:v∈l) (h2:∀ u∈l,u≤v):v=uJ l:=by
 have q_:=vN l (fun e=>by rw [e] at h1;cases h1);have a:=q_.1;have b:=q_.2
 exact iu (b v h1) (h2 _ a)
noncomputable def yp (W:W3) (m:List Int) (n a b:Nat):Int :=
 ul [W.a * m.getD a 0 * W.sum ^ (n - 1 - a),W.b * m.getD b 0 * W.sum ^ (n - 1 - b),W.c * m.getD (n - 1 - a - b) 0 * W.sum ^ (n - 1 - (n - 1 - a - b))]
noncomputable def uM (W:W3) (m:List Int) (n:Nat):List Int:=(bq n).flatMap fun a=>(bq (n - a)).map fun b=>yp W m n a b
noncomputable def sI (W:W3):Nat→List Int
 | 0=>[0]
 | n+1=>sI W n++[W.sum ^ (n+1)+uJ (uM W (sI W n) (n+1))]
theorem xy (W:W3) (T n:Nat):∀ b∈(jp W T (n+1)).1,b∈(jp W T n).1∨∃ c,tT c=true∧b=ae W T (((jp W T n).1.headD (0,[])).2++[c]):=by
 have q_:=rs W T n;have f1:=q_.1;have f2:=q_.2.1
 have e:jp W T (n+1)=wG W T (jp W T n):=rfl
 rw [e]
 generalize jp W T n=s at f1 f2
 obtain ⟨hp,op⟩:=s
 cases hp with
 | nil=>simp at f2
 | cons a t =>
 have P1:=ur a t (ae W T (a.2++[39]))
 have P2:=(r5 (tg (a::t) (ae W T (a.2++[39]))) (ae W T (a.2++[32]))).trans (P1.cons _)
 have P3:=(r5 (rW (tg (a::t) (ae W T (a.2++[39]))) (ae W T (a.2++[32]))) (ae W T (a.2++[35]))).trans (P2.cons _)
 intro b hb
 have uw:=P3.mem_iff.mp hb
 rcases aA.mp uw with rfl | uw
 ·exact .inr (i12 35 rfl rfl)
 ·rcases aA.mp uw with rfl | uw
  ·exact .inr (i12 32 rfl rfl)
  ·rcases aA.mp uw with rfl | uw
   ·exact .inr (i12 39 rfl rfl)
   ·exact .inl (ba _ uw)
theorem head_mem (W:W3) (T n:Nat):(jp W T n).1.headD (0,[])∈(jp W T n).1:=by
 have:=(rs W T n).2.1
 cases h:(jp W T n).1 with
 | nil=>rw [h] at this;simp at this
 | cons a t=>exact aZ
theorem tJ (W:W3) (T n:Nat):(jp W T (n+1)).2=(jp W T n).2++[((jp W T n).1.headD (0,[])).2]:=rfl
theorem Jn (W:W3) (T:Nat):((jp W T 0).1.headD (0,[])).2=[]:=rfl
theorem Ap {W:W3} (hW:W.Ok) {T n:Nat} (hn:n≤T):((jp W T n).1.headD (0,[])).2∉(jp W T n).2:=fun h=>by
 have h1:=(Em W hW T n hn).low _ h _ (head_mem W T n)
 rw [← ((rs W T n).1 _ (head_mem W T n)).2.2,xY] at h1
 cases h1
theorem Nb {W:W3} (hW:W.Ok) {T:Nat} (hT:1≤T):∃ c,tT c=true∧((jp W T 1).1.headD (0,[])).2=[c]:=by
 rcases xy W T 0 _ (head_mem W T 1) with h | ⟨c,hc,e⟩
 ·exfalso
  have h:=aU.mp (show (jp W T 1).1.headD (0,[])∈[ae W T []] from h)
  refine Ap hW hT ?_
  rw [h]
  exact aU.mpr rfl
 ·exact (i12 c hc (by rw [e];rfl))
theorem RE {W:W3} (hW:W.Ok) {T:Nat} (hT:2≤T) {c:Nat} (h1:((jp W T 1).1.headD (0,[])).2=[c]):∃ d,tT d=true∧(((jp W T 2).1.headD (0,[])).2=[c,d]∨(((jp W T 2).1.headD (0,[])).2=[d]∧d≠c)):=by
 have hn:=Ap hW hT
 have ho:(jp W T 2).2=[[],[c]]:=by
  rw [tJ,tJ,h1,Jn]
  rfl
 rcases xy W T 1 _ (head_mem W T 2) with h | ⟨d,hd,e⟩
 ·rcases xy W T 0 _ h with h | ⟨d,hd,e⟩
  ·exfalso
   have h:=aU.mp (show (jp W T 2).1.headD (0,[])∈[ae W T []] from h)
   rw [h,ho] at hn
   exact hn (by simp [ae])
  ·refine (i12 d hd (.inr ?_))
   have e2:((jp W T 2).1.headD (0,[])).2=[d]:=by rw [e];rfl
   refine ⟨e2,fun q=>hn ?_⟩
   rw [e2,ho,q]
   simp
 ·refine (i12 d hd (.inl ?_))
  rw [e,h1]
  rfl
theorem xd {c:Nat} (h:tT c=true):c=39∨c=32∨c=35:=by
 simp only [tT,cZ,beq_iff_eq] at h
 exact h.elim (fun e=>e.elim .inl fun e=>.inr (.inl e)) fun e=>.inr (.inr e)
theorem Er (S:Int):S ^ 1=S:=by rw [mr,Int.pow_zero,Int.one_mul]
theorem Jo (W:W3):sI W 1=[0,W.sum]:=by
 have:uM W [0] 1=[0]:=by simp [uM,yp,ul,jl]
 refine (?_:[0]++[W.sum ^ 1+uJ (uM W [0] 1)]=_)
 rw [this]
 refine (?_:[0]++[W.sum ^ 1+0]=_);simp [Er]
theorem RF (W:W3):uM W [0,W.sum] 2=[W.c * W.sum,W.b * W.sum,W.a * W.sum]:=by
 simp [uM,yp,ul,jl,Er]
theorem RG (W:W3) (M:Int):uM W [0,W.sum,M] 3=[W.c * M,W.b * W.sum * W.sum+W.c * W.sum * W.sum,W.b * M,W.a * W.sum * W.sum+W.c * W.sum * W.sum,W.a * W.sum * W.sum+W.b * W.sum * W.sum,W.a * M]:=by
 simp [uM,yp,ul,jl,Er]
theorem xz (W:W3):W.of 39=W.a∧W.of 32=W.b∧W.of 35=W.c:=(sS rfl rfl rfl)
theorem Jp (W:W3):sI W 2=[0,W.sum,W.sum ^ 2+uJ [W.c * W.sum,W.b * W.sum,W.a * W.sum]]:=by
 refine (?_:sI W 1++[W.sum ^ 2+uJ (uM W (sI W 1) 2)]=_)
 rw [Jo,RF]
 rfl
theorem Fx (W:W3) {d:Nat} (hd:tT d=true):W.of d * W.sum≤uJ [W.c * W.sum,W.b * W.sum,W.a * W.sum]:=by
 have q_:=vN [W.c * W.sum,W.b * W.sum,W.a * W.sum] (by simp);have h:=q_.2
 rcases xd hd with rfl | rfl | rfl
 ·exact h _ (by rw [(xz W).1];simp)
 ·exact h _ (by rw [(xz W).2.1];simp)
 ·exact h _ (by rw [(xz W).2.2];simp)
theorem Aq (W:W3):∃ d,tT d=true∧uJ [W.c * W.sum,W.b * W.sum,W.a * W.sum]=W.of d * W.sum:=by
 have q_:=vN [W.c * W.sum,W.b * W.sum,W.a * W.sum] (by simp);have h:=q_.1
 simp only [aA,bH,or_false] at h
 rcases h with h | h | h
 ·exact (i12 35 rfl h)
 ·exact (i12 32 rfl h)
 ·exact (i12 39 rfl h)
theorem Jq {W:W3} (hW:W.Ok) {T:Nat} (h1:1≤T) (h3:T≤3):(sI W T).getD T 0=t8 W T (s0 W T):=by
 have hc:T=1∨T=2∨T=3:=by lia
 rcases hc with rfl | rfl | rfl
 ·rw [← tj hW (by decide),Jo]
  refine (?_:W.sum=sM W 1 []+0)
  simp [sM,Er]
 ·obtain ⟨c,hc,e⟩:=Nb hW (T:=2) (by decide)
  have ho:(jp W 2 2).2=[[],[c]]:=by rw [tJ,tJ,e,Jn];rfl
  have Vd:t8 W 2 (s0 W 2)=W.sum ^ 2+W.of c * W.sum:=by
   rw [← tj hW (by decide),ho]
   refine (?_:sM W 2 []+(sM W 2 [c]+0)=_)
   simp [sM,Er]
   exact kP _ _
  rw [Jp]
  refine (?_:W.sum ^ 2+uJ [W.c * W.sum,W.b * W.sum,W.a * W.sum]=_)
  refine iu ?_ ?_
  ·obtain ⟨d,hd,ed⟩:=Aq W
   rw [ed]
   have:=yo (W:=W) (T:=2) (by decide) (Q:=[[],[d]]) (by simp) (fun x hx=>by
    simp only [aA,bH,or_false] at hx
    rcases hx with rfl | rfl
    ·exact cU.mpr ⟨fun y hy=>(by cases hy),by decide⟩
    ·exact cU.mpr ⟨fun y hy=>by rw [aU.mp hy];exact hd,by simp⟩) rfl
   have e2:t8 W 2 [[],[d]]=W.sum ^ 2+W.of d * W.sum:=by
    refine (?_:sM W 2 []+(sM W 2 [d]+0)=_)
    simp [sM,Er]
    exact kP _ _
   exact e2▸this
  ·rw [Vd]
   have:=Fx W hc
   exact iQ this _
 ·obtain ⟨c,hc,e⟩:=Nb hW (T:=3) (by decide)
  obtain ⟨d,hd,e2⟩:=RE hW (T:=3) (by decide) e
  have ho:(jp W 3 3).2=[[],[c],((jp W 3 2).1.headD (0,[])).2]:=by rw [tJ,tJ,tJ,e,Jn];rfl
  have Ej:1≤W.of c:=(W3.of_le hW c).1
  have hm:(sI W 3).getD 3 0=W.sum ^ 3+uJ (uM W [0,W.sum,W.sum ^ 2+uJ [W.c * W.sum,W.b * W.sum,W.a * W.sum]] 3):=by
   refine (?_:(sI W 2++[W.sum ^ 3+uJ (uM W (sI W 2) 3)]).getD 3 0=_)
   rw [Jp]
   rfl
  rw [hm,RG]
  have w0:sM W 3 []=W.sum ^ 3:=by simp [sM]
  have w1:∀ x,sM W 3 [x]=W.of x * W.sum * W.sum:=fun x=>by simp [sM];grind
  have w2:∀ x y,sM W 3 [x,y]=W.of x * (W.of y * W.sum):=fun x y=>by simp [sM,Er];grind
  have sq:W.sum ^ 2=W.sum * W.sum:=by grind
  have up1:∀ x y,tT x=true→tT y=true→W.sum ^ 3+W.of x * (W.sum ^ 2+W.of y * W.sum)≤t8 W 3 (s0 W 3):=fun x y hx hy=>by
   have:=yo (W:=W) (T:=3) (by decide) (Q:=[[],[x],[x,y]]) (by simp) (fun z hz=>by
    simp only [aA,bH,or_false] at hz
    rcases hz with rfl | rfl | rfl
    ·exact cU.mpr ⟨fun y hy=>(by cases hy),by decide⟩
    ·exact cU.mpr ⟨fun y hy=>by rw [aU.mp hy];exact hx,by simp⟩
    ·exact cU.mpr ⟨fun u hu=>by
      simp only [aA,bH,or_false] at hu
      rcases hu with rfl | rfl
      ·exact hx
      ·exact hy,by simp⟩) rfl
   have e3:t8 W 3 [[],[x],[x,y]]=W.sum ^ 3+W.of x * (W.sum ^ 2+W.of y * W.sum):=by
    refine (?_:sM W 3 []+(sM W 3 [x]+(sM W 3 [x,y]+0))=_)
    rw [w0,w1,w2]
    grind
   exact e3▸this
  have Ve:∀ x y,tT x=true→tT y=true→x≠y→W.sum ^ 3+(W.of x * W.sum * W.sum+W.of y * W.sum * W.sum)≤t8 W 3 (s0 W 3):=fun x y hx hy sz=>by
   have:=yo (W:=W) (T:=3) (by decide) (Q:=[[],[x],[y]]) (by simp;exact sz) (fun z hz=>by
    simp only [aA,bH,or_false] at hz
    rcases hz with rfl | rfl | rfl
    ·exact cU.mpr ⟨fun y hy=>(by cases hy),by decide⟩
    ·exact cU.mpr ⟨fun y hy=>by rw [aU.mp hy];exact hx,by simp⟩
    ·exact cU.mpr ⟨fun u hu=>by rw [aU.mp hu];exact hy,by simp⟩) rfl
   have e3:t8 W 3 [[],[x],[y]]=W.sum ^ 3+(W.of x * W.sum * W.sum+W.of y * W.sum * W.sum):=by
    refine (?_:sM W 3 []+(sM W 3 [x]+(sM W 3 [y]+0))=_)
    rw [w0,w1,w1]
    lia
   exact e3▸this
  generalize Ma:uJ [W.c * W.sum,W.b * W.sum,W.a * W.sum]=x2
  obtain ⟨m,Vf,em⟩:=Aq W
  rw [Ma] at em
  have q_:=vN [W.c * (W.sum ^ 2+x2),W.b * W.sum * W.sum+W.c * W.sum * W.sum,W.b * (W.sum ^ 2+x2),W.a * W.sum * W.sum+W.c * W.sum * W.sum,W.a * W.sum * W.sum+W.b * W.sum * W.sum,W.a * (W.sum ^ 2+x2)] (by simp);have g1:=q_.1;have g2:=q_.2
  refine iu ?_ ?_
  ·simp only [aA,bH,or_false] at g1
   rcases g1 with h | h | h | h | h | h <;> rw [h]
   ·rw [em];exact up1 35 m rfl Vf
   ·exact Ve 32 35 rfl rfl (by decide)
   ·rw [em];exact up1 32 m rfl Vf
   ·exact Ve 39 35 rfl rfl (by decide)
   ·exact Ve 39 32 rfl rfl (by decide)
   ·rw [em];exact up1 39 m rfl Vf
  ·rw [← tj hW (by decide),ho]
   rcases e2 with e2 | ⟨e2,sz⟩
   ·rw [e2]
    refine (?_:sM W 3 []+(sM W 3 [c]+(sM W 3 [c,d]+0))≤_)
    rw [w0,w1,w2]
    have k1:=Fx W hd
    rw [Ma] at k1
    have k2:=Int.mul_le_mul_of_nonneg_left (c:=W.of c) k1 (bI Ej)
    have k3:W.of c * (W.sum ^ 2+x2)=W.of c * W.sum * W.sum+W.of c * x2:=by grind
    have k4:W.of c * (W.sum ^ 2+x2)≤uJ [W.c * (W.sum ^ 2+x2),W.b * W.sum * W.sum+W.c * W.sum * W.sum,W.b * (W.sum ^ 2+x2),W.a * W.sum * W.sum+W.c * W.sum * W.sum,W.a * W.sum * W.sum+W.b * W.sum * W.sum,W.a * (W.sum ^ 2+x2)]:=by
     rcases xd hc with rfl | rfl | rfl
     ·exact g2 _ (by rw [(xz W).1];simp)
     ·exact g2 _ (by rw [(xz W).2.1];simp)
     ·exact g2 _ (by rw [(xz W).2.2];simp)
    lia
   ·rw [e2]
    refine (?_:sM W 3 []+(sM W 3 [c]+(sM W 3 [d]+0))≤_)
    rw [w0,w1,w1]
    have q_:=xz W;have q1:=q_.1;have q2:=q_.2.1;have q3:=q_.2.2
    have k1:=g2 (W.b * W.sum * W.sum+W.c * W.sum * W.sum) (by simp)
    have k2:=g2 (W.a * W.sum * W.sum+W.c * W.sum * W.sum) (by simp)
    have k3:=g2 (W.a * W.sum * W.sum+W.b * W.sum * W.sum) (by simp)
    rcases xd hc with rfl | rfl | rfl <;> rcases xd hd with rfl | rfl | rfl <;> first
     | exact absurd rfl sz
     | (simp only [q1,q2,q3];first | exact zH k1 | exact zI k1 | exact zH k2 | exact zI k2 | exact zH k3 | exact zI k3)
section
set_option backward.match.sparseCases false
theorem Jr {H:AH} {W:W3} {T:Nat} {few:List Int}:H++[AO.cell none,.cell none]++[.list [.str []]]++[.list []]=ua H none none (ld W T few 0).1 (ld W T few 0).2++[]:=by simp [ua,ld,rQ,rY]
theorem Js (X:(KK P).In am) {W:W3} (hW:W.Ok) {f l T ep:Nat} {few:List Int} {H:AH} (hf:H[f]?=some (.list (few.map .int))) (UY:few.length≤1000) (hl:H[l]?=some (sa an w W.es ep)) (IZ:1≤T) (hT:T≤3) :
  FN an w am (d+5) (.ref 830) H [.ref f,.ref l,.int T] [] (Is (.tup [.ref H.length,.int ((ld W T few T).2.headD (0,[])).1]) (H++[rY (uE (2 * T+1) (dI W T (ld W T few T).1))])):=by
 refine FN.picks (wv (nm:=Pr) (ks:=[.local,.local,.local,.local,.local,.local,.cell,.cell,.globalImplicit,.globalImplicit,.globalImplicit,.globalImplicit,.globalImplicit,.globalImplicit]) (np:=3) (body:=OR)
  (yL X (o:=Kg tw P) (by kernel_rfl) rfl (by kernel_rfl) rfl (by kernel_rfl)) rfl (fun vs hv=>by refine G7 hv fun a b c=>?_;kernel_rfl) ?_)
 refine (?_:ST an w am (d+4) Pr [.loc (some (.ref f)),.loc (some (.ref l)),.loc (some (.int T)),.loc none,.loc none,.loc none,.sG H.length,.sG (H.length+1),.rc,.rc,.rc,.rc,.rc,.rc] (H++[.cell none,.cell none]) _ _)
 refine bd (t6 3 rfl (sB (bi (pu (l:=[]) rfl (cr (vm (by simp) (tW _ _ rfl ?_)))))))
 refine bd (t6 4 rfl (sB (cr (vm (by simp) (tW _ _ rfl ?_)))))
 have n1:(H++[AO.cell none,.cell none]).length=H.length+2:=by simp
 have n2:(H++[AO.cell none,.cell none]++[AO.list [.str []]]).length=H.length+3:=by simp
 rw [Jr (W:=W) (T:=T) (few:=few),n1,n2]
 refine (?_:ST an w am (d+4) Pr (GY f l T H.length none) _ _ _)
 refine bd (wr (io (ti 8 rfl rfl (tU X) (.mk sJ (bi (lm 2 rfl rfl (cr (tL (tS (a:=0) (b:=T) (by simp) (nF _) (nF _) (nF _) (by lia) ?_)))))))))
 have eT:(if (0:Int) < (T:Int) then (T:Int) - 0 else 0)=(T:Int):=by split <;> lia
 rw [eT,cO,ak]
 refine (L5 X hW (k:=(ua H none none (ld W T few 0).1 (ld W T few 0).2++[sn 0 T]).length) hf UY hl hT (by simp [sE]) T 0 ([sn 0 T]++[rI 0 T]) none none (nA _) (by rw [← ak];simp)).mono ?_
 rintro fl ρ' H' ⟨rfl,ow,ot,G,rfl,rfl⟩
 have q_:=tN W T few T;have f1:=q_.1;have f2:=q_.2.1;have f3:=q_.2.2
 generalize ld W T few T=s at f1 f2 f3 ⊢
 obtain ⟨bk,op⟩:=s
 simp only at f1 f2 f3 ⊢
 have c1:(ua H ow none bk op++G++[AO.list []])[H.length+1]?=some (.cell none):=bv (sX G 1 (by decide))
 refine bd (t6 7 rfl (sB (cr (vm (by simp) (tW (GY f l T H.length ot) (ua H ow (some (.ref (ua H ow none bk op++G).length)) bk op++(G++[rY []])) ?_ ?_)))))
 ·show (match (ua H ow none bk op++G++[AO.list []])[H.length+1]? with
   | some (.cell _)=>some (GY f l T H.length ot,(ua H ow none bk op++G++[AO.list []]).set (H.length+1) (.cell (some (.ref (ua H ow none bk op++G).length))))
   | _=>none)=_
  rw [c1,ak,w9 _ 1 (by decide)]
  rfl
 have Vg:H.length+4≤(ua H ow none bk op++G).length:=by rw [aI,sE];exact lI
 have Ru:(ua H ow none bk op++G).length=H.length+4+G.length:=by rw [aI,sE]
 rw [Ru] at Vg ⊢
 generalize Pu:H.length+4+G.length=hi at Vg ⊢
 have h5:(ua H ow (some (.ref hi)) bk op++(G++[rY []]))[hi]?=some (rY []):=by
  rw [← ak,← Pu,aK (by rw [aI,sE];exact lO),aI,sE]
  simp
 refine bd (wr (lm 3 rfl rfl (vX (sX _ 2 (by decide)) ?_)))
 have Xc:H.length+4≤(ua H ow (some (.ref hi)) bk op++(G++[rY []])).length:=by rw [aI,sE];exact lI
 have RH:(ua H ow (some (.ref hi)) bk op++(G++[rY []])).length≠hi:=by have:=(rK h5);exact lH this
 have h6:(ua H ow (some (.ref hi)) bk op++(G++[rY []])++[.iter (H.length+2) 0])[(ua H ow (some (.ref hi)) bk op++(G++[rY []])).length]?=some (.iter (H.length+2) 0):=by simp
 have h7:(ua H ow (some (.ref hi)) bk op++(G++[rY []])++[.iter (H.length+2) 0])[hi]?=some (rY []):=bv h5
 rw [ak] at h6 h7 ⊢
 generalize (ua H ow (some (.ref hi)) bk op++(G++[rY []])).length=k6 at Xc RH h6 ⊢
 refine (I8 X hW (k:=k6) hl hT f1 (zL hT f2) Xc Vg RH bk.length 0 _ ow [] (nA _) (by simp) h6 h7).mono ?_
 rintro fl ρ' H' ⟨rfl,UZ,G',rfl,rfl,Ar⟩
 rw [fh] at Ar
 replace Ar:(ua H UZ (some (.ref hi)) bk op++G')[hi]?=some (rY (dI W T bk)):=Ar
 have Cy:(dI W T bk).length=2 * T+1:=by unfold dI;rw [GB];simp;exact f2
 generalize dI W T bk=hp at Ar Cy ⊢
 have RI:(rQ bk).length=2 * T+1:=by simp [rQ];exact f2
 generalize RJ:ua H UZ (some (.ref hi)) bk op++G'=H1 at Ar ⊢
 have a1:H1[H.length+1]?=some (.cell (some (.ref hi))):=by rw [← RJ];exact sX G' 1 (by decide)
 have a2:H1[H.length+2]?=some (.list (rQ bk)):=by rw [← RJ];exact sX G' 2 (by decide)
 have a3:H1[H.length+3]?=some (rY op):=by rw [← RJ];exact sX G' 3 (by decide)
 have va:=(rK Ar)
 obtain ⟨a,t,rfl⟩ : ∃ a t,op=a::t:=by
  cases op with
  | nil=>simp at f3;exact lX IZ (lU 1 (lS f3))
  | cons a t=>exact (Km a t rfl)
 refine bd (sF (vn (bi (uZ (nm':=L1) (sk:=[.loc,.loc,.rc,.sG 7 (H.length+1)]) (rO.of (by kernel_rfl) ⟨rfl,trivial⟩) (c:=FO _ _ _ _ _ _) rfl rfl ?_))))
 refine io (ti 8 rfl rfl (tU X) (.mk sJ (bi (io (ti 10 rfl rfl (ue X) (.mk nw (bi (lm 3 rfl rfl (cr ((xr a2 (zL hT RI)).to (cr (tL (tS (a:=0) (b:=(rQ bk).length) (by simp) (nF _) (nF _) (nF _) (by lia) ?_)))))))))))))
 rw [RI]
 have UV:(if (0:Int) < ((2 * T+1:Nat):Int) then ((2 * T+1:Nat):Int) - 0 else 0)=((2 * T+1:Nat):Int):=by split <;> lia
 rw [UV]
 have y9:(H1++[sn 0 (2 * T+1:Nat)]++[rI 0 (2 * T+1:Nat)]++[.list []])[(H1++[sn 0 (2 * T+1:Nat)]).length]?=some (rI 0 (2 * T+1:Nat)):=bv (by simp)
 have GX:(H1++[sn 0 (2 * T+1:Nat)]++[rI 0 (2 * T+1:Nat)]++[.list []])[(H1++[sn 0 (2 * T+1:Nat)]++[rI 0 (2 * T+1:Nat)]).length]?=some (.list []):=by simp
 have vA:H1.length≤(H1++[sn 0 (2 * T+1:Nat)]).length:=by simp
 have u7:H1.length≤(H1++[sn 0 (2 * T+1:Nat)]++[rI 0 (2 * T+1:Nat)]).length:=by simp
 have sz:(H1++[sn 0 (2 * T+1:Nat)]).length≠(H1++[sn 0 (2 * T+1:Nat)]++[rI 0 (2 * T+1:Nat)]).length:=by simp
 refine ⟨x8 y9,?_⟩
 have eA:H1++[sn 0 (2 * T+1:Nat)]++[rI 0 (2 * T+1:Nat)]++[.list []]=H1.set hi (rY hp)++([sn 0 (2 * T+1:Nat)]++[rI 0 (2 * T+1:Nat)]++[.list []]):=by rw [set_same Ar];simp only [ak]
 rw [eA] at y9 GX ⊢
 generalize (H1++[sn 0 (2 * T+1:Nat)]).length=k at y9 vA sz ⊢
 generalize (H1++[sn 0 (2 * T+1:Nat)]++[rI 0 (2 * T+1:Nat)]).length=pi at GX u7 sz ⊢
 generalize ([sn 0 (2 * T+1:Nat)]++[rI 0 (2 * T+1:Nat)]++[AO.list []])=G2 at y9 GX ⊢
 have RK:∀ (xs zp : List HP) (G:AH),(H1.set hi (rY xs)++G).set hi (rY zp)=H1.set hi (rY zp)++G:=fun xs zp G=>by
  rw [cA _ _ (by simpa using va),bQ]
 refine Fq (fun xs=>H1.set hi (rY xs)) (b:=H1.length) (val:=pv) (fun _=>aP) ?_ vA u7 sz (2 * T+1) 0 hp G2 [] none none (lS Cy) (zL hT Cy) (by simp;lia) y9 GX (fun ρ' G3 tD=>?_)
 ·intro a t G v o hz
  refine io (ti 2 rfl rfl (Ek X) (.mk (tC X (by kernel_rfl)) (bi (uh 3 (j:=H.length+1) rfl rfl (bv (by rw [ce (lH (lD 2 (lR 2 (lT lI (lE Pu)))))];exact a1)) (cr ((wH X (bv (az va)) (lR 99000 hz)).to ?_))))))
  rw [RK]
  exact ⟨rfl,rfl⟩
 have b3:(H1.set hi (rY (rests (2 * T+1) hp))++G3)[H.length+3]?=some (rY (a::t)):=bv (by rw [ce (lH (lT lI (lE Pu)))];exact a3)
 refine bi (rR (io (ti 13 rfl rfl (Ek X) (.mk (tC X (by kernel_rfl)) (bi (lm 4 rfl rfl (cr ((wH X b3 (lR 99997 (lT (lE f3) hT))).to ?_))))))))
 refine f8 (i12 _ rfl (cr ⟨by simp,?_⟩))
 have Rs:H.length+4≤H1.length:=by rw [← RJ,aI,sE];exact lI
 have C2:((H1.set hi (rY (rests (2 * T+1) hp))++G3).set (H.length+3) (rY (tV (a::t))))[pi]?=some (rY (uE (2 * T+1) hp)):=by
  rw [ce (lL (lD 1 (lR 1 (lT (lU 1 lI) (lT (lU 1 (lE Pu)) (lT va u7)))))),tD]
  rfl
 obtain ⟨G4,hG4⟩ : ∃ G4,(H1.set hi (rY (rests (2 * T+1) hp))++G3).set (H.length+3) (rY (tV (a::t)))=H++G4:=by
  obtain ⟨R1,hR⟩ : ∃ R1,H1=H++R1:=⟨_,by rw [← RJ];unfold ua;rw [ak]⟩
  have e7:H1.set hi (rY (rests (2 * T+1) hp))++G3=H++(R1.set (hi - H.length) (rY (rests (2 * T+1) hp))++G3):=by rw [hR,mt (H:=H) (lD 4 (lR 4 (lT lI (lE Pu)))),ak]
  rw [e7,mt (H:=H) (lR 3 lO)]
  exact ⟨_,rfl⟩
 rw [hG4] at C2 ⊢
 refine (Se H G4 [pi] _ rfl (uY.refl H) (MR (o:=rY (uE (2 * T+1) hp)) (lD 5 (lR 5 (lT (lU 1 lI) (lT (lU 1 (lE Pu)) (lT va u7))))) C2 K9) (sS (.inr (by simp)) trivial trivial) ?_ rfl)
 simp only [NY,NZ,N3,N4,N5,HR (show H.length≤pi by lia)]
 rfl
end
section
set_option backward.match.sparseCases false
theorem vO {v:Int} (h1:0≤v) (h2:v≤2 ^ 612):small v=true:=by
 unfold small
 rw [decide_eq_true_eq]
 have:(2:Int) ^ 612 < 2 ^ 900:=by decide
 have h3:v < 2 ^ 900:=jw h2 (by decide)
 have:(v.natAbs:Int) < ((2 ^ 900:Nat):Int):=by
  rw [qf (by lia)]
  have e2:((2 ^ 900:Nat):Int)=2 ^ 900:=by norm_cast
  rw [e2];exact h3
 exact_mod_cast this
theorem Md {W:W3} (hW:W.Ok) {n:Nat} (hn:n≤2):∀ k,0≤(sI W n).getD k 0∧(sI W n).getD k 0≤2 ^ 206:=by
 have q_:=W3.wz hW;have s1:=q_.1;have s2:=q_.2
 have mo:(sI W n).length=n+1:=by
  have:∀ m,(sI W m).length=m+1:=fun m=>by
   induction m with
   | zero=>rfl
   | succ m ih=>simp [sI,ih]
  exact this n
 intro k
 by_cases hk:(sI W n).length≤k
 ·rw [gB,bM.mpr hk]
  exact (⟨by decide,by decide⟩ : (0:Int)≤0∧(0:Int)≤2 ^ 206)
 rw [mo] at hk
 have big:(2:Int) ^ 102≤2 ^ 206:=by decide
 have Ph : n=0∨n=1∨n=2:=by lia
 rcases Ph with rfl | rfl | rfl
 ·have:k=0:=lA (lD 1 (lM hk)) lZ
  subst this
  exact (⟨by decide,by decide⟩ : (0:Int)≤0∧(0:Int)≤2 ^ 206)
 ·rw [Jo]
  have Dr : k=0∨k=1:=by lia
  rcases Dr with rfl | rfl
  ·exact (⟨by decide,by decide⟩ : (0:Int)≤0∧(0:Int)≤2 ^ 206)
  ·refine (?_:0≤W.sum∧W.sum≤_)
   exact PS s1 s2
 ·rw [Jp]
  have Dr : k=0∨k=1∨k=2:=zE (dB hk)
  rcases Dr with rfl | rfl | rfl
  ·exact (⟨by decide,by decide⟩ : (0:Int)≤0∧(0:Int)≤2 ^ 206)
  ·refine (?_:0≤W.sum∧W.sum≤_)
   exact PS s1 s2
  ·refine (?_:0≤W.sum ^ 2+uJ _∧W.sum ^ 2+uJ _≤_)
   obtain ⟨dd,hd,e⟩:=Aq W
   rw [e]
   have q_:=W3.of_le hW dd;have o1:=q_.1;have o2:=q_.2
   have q_:=wX s1 s2 2;have p1:=q_.1;have p2:=q_.2
   have q1:1≤W.of dd * W.sum:=by have:=fR o1 s1 (by decide) (bI o1);simpa using this
   have q2:W.of dd * W.sum≤2 ^ 102 * 2 ^ 102:=fR o2 s2 (bI s1) (by decide)
   have q3:(2:Int) ^ 102 * 2 ^ 102=2 ^ 204:=by decide
   have q4:(2:Int) ^ 206=4 * 2 ^ 204:=by decide
   have q5:(2:Int) ^ (102 * 2)=2 ^ 204:=by decide
   exact ⟨ml (bI p1) (bI q1),aY (qK p2 q2) (by decide)⟩
theorem Dg (W:W3):∀ m,(sI W m).length=m+1:=fun m=>by
 induction m with
 | zero=>rfl
 | succ m ih=>simp [sI,ih]
noncomputable def AI (W:W3) (m:List Int) (n:Nat) (x y:Int):Int:=x * m.getD y.toNat 0 * W.sum ^ ((n:Int) - 1 - y).toNat
theorem Me (W:W3) (m:List Int) {n a b:Nat} (h:a+b < n):ul ((W.es.zip [(a:Int),(b:Int),(n:Int) - 1 - a - b]).map fun e=>AI W m n e.1.2 e.2)=yp W m n a b:=by
 unfold yp
 refine (?_:ul [AI W m n W.a a,AI W m n W.b b,AI W m n W.c ((n:Int) - 1 - a - b)]=_)
 unfold AI
 have e1:((a:Nat):Int).toNat=a:=rfl
 have e2:((b:Nat):Int).toNat=b:=rfl
 have e3:((n:Int) - 1 - a - b).toNat=n - 1 - a - b:=Tv h
 have e4:((n:Int) - 1 - (a:Int)).toNat=n - 1 - a:=zT (k:=1)
 have e5:((n:Int) - 1 - (b:Int)).toNat=n - 1 - b:=zT (k:=1)
 have e6:((n:Int) - 1 - ((n:Int) - 1 - a - b)).toNat=n - 1 - (n - 1 - a - b):=Tw h e3
 rw [e1,e2,e3,e4,e5,e6]
noncomputable def OW:List Stmt:=fBody (vP pw 42)
noncomputable abbrev Jt:List Str:=["weights","turns","whole","most","n","ways","a","b","parts","sum","range","zip","max"]
noncomputable abbrev Es (l T n:Nat) (ow oa ob op:Option AV):List ci:=[.loc (some (.ref l)),.loc (some (.int T)),.sG n,.sG (n+1),.sG (n+2),.loc ow,.loc oa,.loc ob,.loc op,.rc,.rc,.rc,.rc]
noncomputable def zf (H:AH) (l:Nat) (S:Int) (cn:Option AV) (ms:List Int):AH:=H++[.cell (some (.int S)),.cell (some (.ref (H.length+4))),.cell cn,ug l,.list (ms.map .int)]
theorem tq {H:AH} {l:Nat} {S:Int} {cn:Option AV} {ms:List Int}:(zf H l S cn ms).length=H.length+5:=by simp [zf]
theorem ut {H:AH} {l:Nat} {S:Int} {cn:Option AV} {ms:List Int} (G:AH) (i:Nat) (hi:i < 5):(zf H l S cn ms++G)[H.length+i]?=[AO.cell (some (.int S)),.cell (some (.ref (H.length+4))),.cell cn,ug l,.list (ms.map .int)][i]?:=by
 rw [aR (by rw [tq];exact oB hi)]
 unfold zf
 rw [aK lI]
 congr 1
 exact nB _ _
theorem Fy {H:AH} {l:Nat} {S:Int} {cn:Option AV} {ms:List Int} (G:AH) (i:Nat) (hi:i < 5) (o:AO):(zf H l S cn ms++G).set (H.length+i) o=H++[AO.cell (some (.int S)),.cell (some (.ref (H.length+4))),.cell cn,ug l,.list (ms.map .int)].set i o++G:=by
 rw [cA _ _ (by rw [tq];exact oB hi)]
 unfold zf
 rw [bY _ _ lI]
 have:H.length+i - H.length=i:=nB _ _
 rw [this]
section
theorem OX (X:(KK P).In am):GL am "zip" (.type "zip"):=t7 X (by kernel_rfl) (by kernel_rfl)
theorem OY (X:(KK P).In am):GL am "max" (.builtin "max"):=t7 X (by kernel_rfl) (by kernel_rfl)
theorem Mf {H:AH} {k:Nat} {R:Nat→AH→Prop} (hk:k < H.length) (s:SI an w am d H k) (r:R k H):IT an w am d H (.ref k) R:=by
 intro A L m α s' Q E v hr I V kk
 refine V.sO fun _=>?_
 exact s A L m α s' Q E hr I hk (kk (.ref k) _ α H s' ⟨k,rfl,r⟩ Ext.refl I (.ref hk) rM.refl)
theorem Bo {H:AH} {k j:Nat} {l:List Int} (hk:H[k]?=some (.list (l.map .int))) (hj:j < l.length) (hz:l.length≤100000):sT (.ref k) (.int j) H=some (.int (l.getD j 0)):=by
 refine (?_:(match H[k]? with | some (.list xs)=>(idx j xs.length).bind (xs[·]?) | _=>none)=_)
 rw [hk]
 refine (?_:(idx j (l.map AV.int).length).bind ((l.map AV.int)[·]?)=_)
 rw [vZ (by simpa using hj) (by simp;exact lR 900000 hz)]
 simp [hj]
theorem RL {W:W3} (hW:W.Ok) {l n:Nat} {H G:AH} {ms:List Int} {x:Int} {y:Nat} {p1 p2 p3 p4 p5 p6 p7 p8 p9 p10 p11 p12 pos' : Pos} {j1:Nat} (S0:1≤x) (Ma:x≤2 ^ 102) (hy:y < n) (hn:n≤3) (hyl:y < ms.length) (hmz:ms.length≤10) (hm:∀ k,0≤ms.getD k 0∧ms.getD k 0≤2 ^ 206) :
  EX an w am d SO (UH (some (.int x)) (some (.int y)) (H.length+1) (H.length+2) H.length) (zf H l W.sum (some (.int n)) ms++G)
   (fun be=>eval (.BinOp (.BinOp (.Name "weight" p1) .Mult (.Subscript (.Name "most" p2) (.Name "k" p3) p4) p5) .Mult
    (.BinOp (.Name "whole" p6) .Pow (.BinOp (.BinOp (.Name "n" p7) .Sub (.Constant (.int 1) j1 p8) p9) .Sub (.Name "k" p10) p11) p12) pos') be) (Is (.int (AI W ms n x y)) (zf H l W.sum (some (.int n)) ms++G)):=by
 have q_:=W3.wz hW;have s1:=q_.1;have s2:=q_.2
 have q_:=hm y;have m1:=q_.1;have m2:=q_.2
 have c0:(zf H l W.sum (some (.int n)) ms++G)[H.length]?=some (.cell (some (.int W.sum))):=ut G 0 (by decide)
 have q1:0≤x * ms.getD y 0:=Int.mul_nonneg (bI S0) m1
 have q2:x * ms.getD y 0≤2 ^ 102 * 2 ^ 206:=fR Ma m2 m1 (by decide)
 have q3:(2:Int) ^ 102 * 2 ^ 206≤2 ^ 612:=by decide
 have e1:∀ G:AH,sH .Mult (.int x) (.int (ms.getD y 0)) G=some (.int (x * ms.getD y 0),G):=fun G=>by
  refine (?_:(if small x && small (ms.getD y 0) then some (AV.int (x * ms.getD y 0),G) else none)=_)
  rw [vO (bI S0) (by have:(2:Int) ^ 102≤2 ^ 612:=(by decide);exact aY Ma (by decide)),vO m1 (by have:(2:Int) ^ 206≤2 ^ 612:=(by decide);exact aY m2 (by decide))]
  rfl
 have hj:((n:Int) - 1 - (y:Int)).toNat≤2:=aj (aJ (zT (k:=1))) (aj (dS _ _) (jW hn))
 have q_:=wX s1 s2 ((n:Int) - 1 - (y:Int)).toNat;have t1:=q_.1;have t2:=q_.2
 have t3:(2:Int) ^ (102 * ((n:Int) - 1 - (y:Int)).toNat)≤2 ^ 204:=by
  have:(2:Nat) ^ (102 * ((n:Int) - 1 - (y:Int)).toNat)≤2 ^ 204:=qG (by decide) (cy 102 hj)
  exact_mod_cast this
 have e2:∀ G:AH,sH .Pow (.int W.sum) (.int ((n:Int) - 1 - (y:Int))) G=some (.int (W.sum ^ ((n:Int) - 1 - (y:Int)).toNat),G):=fun G=>by
  refine (?_:(if small W.sum∧0≤(n:Int) - 1 - (y:Int)∧(n:Int) - 1 - (y:Int)≤64 then some (AV.int (W.sum ^ ((n:Int) - 1 - (y:Int)).toNat),G) else none)=_)
  rw [if_pos ⟨vO (bI s1) (by have:(2:Int) ^ 102≤2 ^ 612:=(by decide);exact aY s2 (by decide)),by lia,by lia⟩]
 have e3:∀ G:AH,sH .Mult (.int (x * ms.getD y 0)) (.int (W.sum ^ ((n:Int) - 1 - (y:Int)).toNat)) G=some (.int (AI W ms n x y),G):=fun G=>by
  refine (?_:(if small (x * ms.getD y 0) && small (W.sum ^ ((n:Int) - 1 - (y:Int)).toNat) then some (AV.int (x * ms.getD y 0 * W.sum ^ ((n:Int) - 1 - (y:Int)).toNat),G) else none)=_)
  rw [vO q1 (aY q2 (by decide)),vO (bI t1) (by have:(2:Int) ^ 204≤2 ^ 612:=(by decide);exact aY (aY t2 t3) (by decide +kernel))]
  rfl
 refine pc (pc (lm 1 rfl rfl (rR (uh 3 rfl rfl (ut G 1 (by decide)) (lm 2 rfl rfl (.mk _ (Bo (ut G 4 (by decide)) hyl (lR 99990 hmz)) (.mk (e1 _) ?_)))))))
 refine pc (uh 5 rfl rfl c0 (pc (pc (uh 4 rfl rfl (ut G 2 (by decide)) (f8 (.mk rfl (lm 2 rfl rfl (.mk rfl (.mk (e2 _) (.mk (e3 _) ⟨rfl,rfl⟩))))))))))
end
end
noncomputable def S9:List Stmt:=fB (nb (fB (nb OW 2)) 1)
theorem Vh (X:(KK P).In am) {W:W3} (hW:W.Ok) {l T n a ep wi ka kb:Nat} {H HH G0:AH} {ms:List Int} {it:AO} (hl:H[l]?=some (sa an w W.es ep)) (Ta:1≤n) (hn:n≤3) (ha:a < n) (GJ:ms.length=n) (hm:∀ k,0≤ms.getD k 0∧ms.getD k 0≤2 ^ 206)
  (B1:HH=zf H l W.sum (some (.int n)) ms++G0) (JO:HH.length≤wi) (OZ:HH.length≤ka) (RM:HH.length≤kb) (n1:wi≠ka) (n2:wi≠kb) (n3:ka≠kb) :
  ∀ (r b:Nat) (G:AH) (ws:List Int) (ob op:Option AV),b+r=n - a→ws.length+r≤1000→(HH++G)[kb]?=some (rI b r)→(HH++G)[ka]?=some it→(HH++G)[wi]?=some (.list (ws.map .int)) →
  SF an w am d Jt (Es l T H.length (some (.ref wi)) (some (.int a)) ob op) (HH++G) kb (fun be it=>.forLoop (fT (nb S9 0)) it (fB (nb S9 0)) (fO (nb S9 0)) be)
   (fun f ρ' H'=>f=.next∧∃ ob op G',ρ'=Es l T H.length (some (.ref wi)) (some (.int a)) ob op∧H'=HH++G'∧(HH++G')[ka]?=some it∧(HH++G')[wi]?=some (.list ((ws++((bq (n - a)).drop b).map fun b=>yp W ms n a b).map .int))):=by
 have q_:=W3.wz hW;have s1:=q_.1;have s2:=q_.2
 intro r
 induction r with
 | zero =>
  intro b G ws ob op hb hz hk h2 h3
  refine tQ (sw hk (fun h=>absurd h (by decide)) (fun _=>?_))
  have Cc : ((HH++G).set kb .s9)[ka]?=some it:=by rw [ce (aq n3)];exact h2
  have we : ((HH++G).set kb .s9)[wi]?=some (.list (ws.map .int)):=by rw [ce (aq n2)];exact h3
  rw [mt RM] at Cc we ⊢
  refine ev (vm rfl (Sd ob op _ rfl rfl Cc ?_))
  rw [we,ki (by simp;exact aJ ((fA (bp ha)).symm.trans (congrArg (·+_) hb.symm)))]
  simp
 | succ r ih =>
  intro b G ws ob op hb hz hk h2 h3
  have sj:=(rK hk)
  have Pt:a+b < n:=Nat.add_lt_of_lt_sub' (nQ hb)
  refine tQ (sw hk (fun _=>?_) (fun h=>absurd h (nE _)))
  refine vo 7 rfl rfl ?_
  have vS:=az (a:=rI ((b:Int)+1) (((r+1:Nat):Int) - 1)) sj
  have Cc : ((HH++G).set kb (rI ((b:Int)+1) (((r+1:Nat):Int) - 1)))[ka]?=some it:=by rw [ce (aq n3)];exact h2
  have we : ((HH++G).set kb (rI ((b:Int)+1) (((r+1:Nat):Int) - 1)))[wi]?=some (.list (ws.map .int)):=by rw [ce (aq n2)];exact h3
  rw [mt RM] at vS Cc we ⊢
  generalize G.set (kb - HH.length) (rI ((b:Int)+1) (((r+1:Nat):Int) - 1))=G1 at vS Cc we
  refine (?_:ST an w am d Jt (Es l T H.length (some (.ref wi)) (some (.int a)) (some (.int b)) op) (HH++G1) _ _)
  have Po:∀ G:AH,(HH++G)[l]?=some (sa an w W.es ep):=fun G=>by
   rw [B1];unfold zf;rw [ak,ak];exact bv hl
  have mo:l < H.length:=(rK hl)
  have Rs:H.length+5≤HH.length:=by rw [B1,aI,tq];exact lI
  have cN:∀ G:AH,(HH++G)[H.length+2]?=some (.cell (some (.int n))):=fun G=>by rw [B1,ak];exact ut _ 2 (by decide)
  refine bd (t6 8 rfl (io (ti 11 rfl rfl (OX X) (.mk sJ (bi ?_)))))
  refine xL (lm 0 rfl rfl (.mk "dict.values" (BE jA my (Po G1)) (yG (vE X) (Po G1) ?_)))
  rw [ak]
  refine bi (sB (bi (lm 6 rfl rfl (bi (lm 7 rfl rfl (bi ?_))))))
  refine pc (pc (pc (uh 4 rfl rfl (cN _) (f8 (.mk rfl (lm 6 rfl rfl (.mk rfl (lm 7 rfl rfl (.mk rfl (cr ⟨by simp,cr ?_⟩))))))))))
  have Sk:(HH++G1).length=HH.length+G1.length:=aI
  have k0:(HH++(G1++[ug l])++[AO.list [.int a,.int b,.int ((n:Int) - 1 - a - b)]])[(HH++G1).length]?=some (ug l):=by
   refine bv ?_
   rw [← ak];simp
  have k1:(HH++(G1++[ug l])++[AO.list [.int a,.int b,.int ((n:Int) - 1 - a - b)]])[(HH++(G1++[ug l])).length]?=some (.list ([(a:Int),(b:Int),(n:Int) - 1 - a - b].map .int)):=by simp
  have k2:(HH++(G1++[ug l])++[AO.list [.int a,.int b,.int ((n:Int) - 1 - a - b)]])[l]?=some (sa an w W.es ep):=bv (Po _)
  have k3:(HH++(G1++[ug l])++[AO.list [.int a,.int b,.int ((n:Int) - 1 - a - b)]])[wi]?=some (.list (ws.map .int)):=by
   refine bv ?_
   rw [← ak];exact bv we
  have k4:(HH++(G1++[ug l])++[AO.list [.int a,.int b,.int ((n:Int) - 1 - a - b)]])[ka]?=some it:=by
   refine bv ?_
   rw [← ak];exact bv Cc
  have k5:(HH++(G1++[ug l])++[AO.list [.int a,.int b,.int ((n:Int) - 1 - a - b)]])[kb]?=some (rI ((b:Int)+1) (((r+1:Nat):Int) - 1)):=by
   refine bv ?_
   rw [← ak];exact bv vS
  have RN:(HH++(G1++[ug l])).length=HH.length+G1.length+1:=by simp;exact rfl
  rw [Sk] at k0
  rw [RN] at k1
  rw [Sk,RN]
  have Vi:HH++(G1++[ug l])++[AO.list [.int a,.int b,.int ((n:Int) - 1 - a - b)]]=HH++(G1++[ug l]++[AO.list [.int a,.int b,.int ((n:Int) - 1 - a - b)]]):=by simp only [ak]
  rw [Vi] at k0 k1 k2 k3 k4 k5 ⊢
  have RO:(G1++[ug l]++[AO.list [.int a,.int b,.int ((n:Int) - 1 - a - b)]]).length=G1.length+2:=by simp
  generalize hG2:(G1++[ug l]++[AO.list [.int a,.int b,.int ((n:Int) - 1 - a - b)]])=G2 at k0 k1 k2 k3 k4 k5 RO ⊢
  refine LH k0 k2 k1 (tW _ _ rfl ?_)
  have O0:(HH++G2).length=HH.length+G1.length+2:=by rw [aI,RO];exact rfl
  refine (?_:ST an w am d Jt (Es l T H.length (some (.ref wi)) (some (.int a)) (some (.int b)) (some (.ref ((HH++G2).length+4)))) _ _ _)
  refine bd (te (uu (lm 5 rfl rfl (.mk "list.append" (uO pB oW (bv k3)) (bi ?_)))))
  refine io (ti 9 rfl rfl (yK X) (.mk nw (bi (uZ (nm':=SO) (sk:=[.loc,.loc,.loc,.sG 3 (H.length+1),.sG 4 (H.length+2),.sG 2 H.length]) (rO.of (by kernel_rfl) (FE rfl rfl rfl trivial)) (c:=FO _ _ _ _ _ _) rfl rfl ?_))))
  have Vj:(HH++G2++[uQ l 0 W.es.length ep,.iter (HH.length+G1.length+1) 0,CR (HH++G2).length,Cb,vb ((HH++G2).length+2)])[(HH++G2).length+4]?=some (vb ((HH++G2).length+2)):=by
   rw [aK (lR 4 lO)]
   simp
  have GU:=(rK Vj)
  refine lm 8 rfl rfl (Mf GU (IP Vj) ⟨IP (bv Vj),?_⟩)
  have RP:(HH++G2++[uQ l 0 W.es.length ep,.iter (HH.length+G1.length+1) 0,CR (HH++G2).length,Cb,vb ((HH++G2).length+2)]).length=(HH++G2).length+5:=by rw [aI (bs:=[uQ l 0 W.es.length ep,.iter (HH.length+G1.length+1) 0,CR (HH++G2).length,Cb,vb ((HH++G2).length+2)])];rfl
  have GX:(HH++G2++[uQ l 0 W.es.length ep,.iter (HH.length+G1.length+1) 0,CR (HH++G2).length,Cb,vb ((HH++G2).length+2)]++[.list []])[(HH++G2).length+5]?=some (.list []):=by rw [← RP];simp
  rw [RP]
  have Z:Fn an w W.es [(a:Int),(b:Int),(n:Int) - 1 - a - b] ep ((HH++G2).length+4) ((HH++G2).length+2) (HH++G2).length (HH.length+G1.length+1) l 0 (HH++G2++([uQ l 0 W.es.length ep,.iter (HH.length+G1.length+1) 0,CR (HH++G2).length,Cb,vb ((HH++G2).length+2)]++[.list []])):=by
   have RQ:∀ (j:Nat),(HH++G2++([uQ l 0 W.es.length ep,.iter (HH.length+G1.length+1) 0,CR (HH++G2).length,Cb,vb ((HH++G2).length+2)]++[.list []]))[(HH++G2).length+j]?=([uQ l 0 W.es.length ep,.iter (HH.length+G1.length+1) 0,CR (HH++G2).length,Cb,vb ((HH++G2).length+2)]++[AO.list []])[j]?:=fun j=>by
    rw [aK lI]
    congr 1
    exact nB _ _
   exact ⟨RQ 4,RQ 2,RQ 3,RQ 0,RQ 1,bv k2,bv k1⟩
  rw [ak] at GX ⊢
  refine OG (H0:=HH++G2) (val:=fun x y=>.int (AI W ms n x y)) (ys:=[(a:Int),(b:Int),(n:Int) - 1 - a - b]) (k:=HH.length+G1.length+1) (l:=l) (t:=(HH++G2).length+2) (p:=(HH++G2).length) ?_ ?_ rfl (lR 4 lO) (lR 2 lO) lO (lR 5 lO) ?_ 3 0 _ [] none none rfl (by simp) Z GX (fun ρ' G' tD=>?_)
  ·exact XX (aC (rK hl) (aj (cp _ 5) (aj Rs (aj (cp _ _) (bX _))))) (fD (Nat.lt_succ_self _) O0.symm)
  ·simp only [aA,bH,or_false,not_or]
   exact ⟨lH (lR 2 lO),⟨lH (lR 1 lO),⟨lH (lR 4 lO),⟨lH (lR 3 lO),⟨lH (lR 5 (lD 7 (lR 7 (lT (lU 7 mo) (lT (lU 2 Rs) (lT (lU 2 lI) (lS O0))))))),⟨lH (lR 5 (lS O0)),lH lO⟩⟩⟩⟩⟩⟩
  ·intro G key x y MU
   have hy:∃ y' : Nat,y=(y' : Int)∧y' < n∧y' < ms.length∧1≤x∧x≤2 ^ 102:=by
    have:=hW.a1;have:=hW.a2;have:=hW.b1;have:=hW.b2;have:=hW.c1;have:=hW.c2
    simp [W3.es] at MU
    rcases MU with ⟨⟨_,rfl⟩,rfl⟩ | ⟨⟨_,rfl⟩,rfl⟩ | ⟨⟨_,rfl⟩,rfl⟩
    ·exact (Sc a rfl ha (lT ha (lS GJ)) (by first | assumption | lia) (by first | exact aY (by assumption) (by decide) | lia))
    ·exact (Sc b rfl (lT (lU 1 lJ) Pt) (lT (lU 1 lJ) (lT Pt (lS GJ))) (by lia) (by lia))
    ·exact (Sc (n - 1 - a - b) (zU Pt) (bN (aj (dS _ _) (dS _ _)) (dh Ta dC)) (fD (bN (aj (dS _ _) (dS _ _)) (dh Ta dC)) GJ.symm) (by lia) (aY this (by decide)))
   obtain ⟨y',rfl,y1,y2,y3,y4⟩:=hy
   rw [B1]
   simp only [ak]
   exact RL hW y3 y4 y1 hn y2 (lR 7 (lT (lE GJ) hn)) hm
  rw [fh,gG] at tD
  have RR:(W.es.zip [(a:Int),(b:Int),(n:Int) - 1 - a - b]).map (fun e=>AV.int (AI W ms n e.1.2 e.2))=((W.es.zip [(a:Int),(b:Int),(n:Int) - 1 - a - b]).map (fun e=>AI W ms n e.1.2 e.2)).map .int:=by rw [aX];rfl
  rw [RR] at tD
  refine cr (BK tD (cr ((uT (bv k3) (by rw [aM];exact lR 999000 (lT lI hz))).to ?_)))
  rw [Me W ms Pt]
  have Vk:=(rK (bv (G:=G') k3))
  have e3:=az (a:=AO.list (ws.map .int++[.int (yp W ms n a b)])) Vk
  have e2:((HH++G2++G').set wi (.list (ws.map .int++[.int (yp W ms n a b)])))[ka]?=some it:=by rw [ce n1];exact bv k4
  have e1:((HH++G2++G').set wi (.list (ws.map .int++[.int (yp W ms n a b)])))[kb]?=some (rI ((b:Int)+1) (((r+1:Nat):Int) - 1)):=by rw [ce n2];exact bv k5
  rw [ak,mt JO] at e1 e2 e3 ⊢
  have er:(((r+1:Nat):Int) - 1)=(r:Int):=nC _
  have eb:(b:Int)+1=((b+1:Nat):Int):=rfl
  rw [er,eb] at e1
  have ew:ws.map AV.int++[.int (yp W ms n a b)]=(ws++[yp W ms n a b]).map .int:=by rw [dF];rfl
  rw [ew] at e1 e2 e3 ⊢
  refine ev ?_
  unfold TP
  refine (?_:SF an w am d Jt (Es l T H.length (some (.ref wi)) (some (.int a)) (some (.int b)) (some (.ref ((HH++G2).length+4)))) _ kb _ _)
  refine (ih (b+1) _ _ _ _ (nN hb) (by simp;exact nO hz) e1 e2 e3).mono ?_
  rintro f ρ' H' ⟨hf,Pv,xD,Vm,h1,h2,h3,h4⟩
  refine (vm hf (Sd Pv xD Vm h1 h2 h3 ?_))
  rw [h4]
  have hd:(bq (n - a)).drop b=b::(bq (n - a)).drop (b+1):=by
   have U4:b < (bq (n - a)).length:=by simp;exact nQ hb
   rw [ez U4]
   simp
  rw [hd]
  simp
section
set_option backward.match.sparseCases false
theorem GK {β:Type} (f:Nat→List β) {n a:Nat} (h:a < n):((bq n).drop a).flatMap f=f a++((bq n).drop (a+1)).flatMap f:=by
 have hl:a < (bq n).length:=by simpa using h
 rw [ez hl,nq]
 simp
theorem Fz {ρ:List ci} {H:AH} {i j:Nat} {c:Option AV} {a:AV} (h1:ρ[i]?=some (.sG j)) (h2:H[j]?=some (.cell c)):FH ρ H i a=some (ρ,H.set j (.cell (some a))):=by
 unfold FH
 rw [h1]
 dsimp only
 rw [h2]
section
theorem Vn (X:(KK P).In am) {W:W3} (hW:W.Ok) {l T n ep wi ka:Nat} {H HH G0:AH} {ms:List Int} (hl:H[l]?=some (sa an w W.es ep)) (Ta:1≤n) (hn:n≤3) (GJ:ms.length=n) (hm:∀ k,0≤ms.getD k 0∧ms.getD k 0≤2 ^ 206)
  (B1:HH=zf H l W.sum (some (.int n)) ms++G0) (JO:HH.length≤wi) (OZ:HH.length≤ka) (n1:wi≠ka) :
  ∀ (r a:Nat) (G:AH) (ws:List Int) (oa ob op:Option AV),a+r=n→ws.length+10 * r≤100→(HH++G)[ka]?=some (rI a r)→(HH++G)[wi]?=some (.list (ws.map .int)) →
  SF an w am d Jt (Es l T H.length (some (.ref wi)) oa ob op) (HH++G) ka (fun be it=>.forLoop (fT (nb (fB (nb OW 2)) 1)) it S9 (fO (nb (fB (nb OW 2)) 1)) be)
   (fun f ρ' H'=>f=.next∧∃ oa ob op G',ρ'=Es l T H.length (some (.ref wi)) oa ob op∧H'=HH++G'∧(HH++G')[wi]?=some (.list ((ws++((bq n).drop a).flatMap fun a=>(bq (n - a)).map fun b=>yp W ms n a b).map .int))):=by
 intro r
 induction r with
 | zero =>
  intro a G ws oa ob op hb hz hk h3
  refine tQ (sw hk (fun h=>absurd h (by decide)) (fun _=>?_))
  have we : ((HH++G).set ka .s9)[wi]?=some (.list (ws.map .int)):=by rw [ce (aq n1)];exact h3
  rw [mt OZ] at we ⊢
  refine ev (vm rfl (PT oa ob op _ rfl rfl ?_))
  rw [we,ki (by simp;exact lS hb)]
  simp
 | succ r ih =>
  intro a G ws oa ob op hb hz hk h3
  have sj:=(rK hk)
  refine tQ (sw hk (fun _=>?_) (fun h=>absurd h (nE _)))
  refine vo 6 rfl rfl ?_
  have vS:=az (a:=rI ((a:Int)+1) (((r+1:Nat):Int) - 1)) sj
  have we : ((HH++G).set ka (rI ((a:Int)+1) (((r+1:Nat):Int) - 1)))[wi]?=some (.list (ws.map .int)):=by rw [ce (aq n1)];exact h3
  rw [mt OZ] at vS we ⊢
  generalize G.set (ka - HH.length) (rI ((a:Int)+1) (((r+1:Nat):Int) - 1))=G1 at vS we
  refine (?_:ST an w am d Jt (Es l T H.length (some (.ref wi)) (some (.int a)) ob op) (HH++G1) _ _)
  have cN:∀ G:AH,(HH++G)[H.length+2]?=some (.cell (some (.int n))):=fun G=>by rw [B1,ak];exact ut _ 2 (by decide)
  have en:((n:Int) - (a:Int))=((n - a:Nat):Int):=nY (mR hb)
  have eT:(if (0:Int) < ((n - a:Nat):Int) then ((n - a:Nat):Int) - 0 else 0)=((n - a:Nat):Int):=by split <;> lia
  refine bd (wr (io (ti 10 rfl rfl (tU X) (.mk sJ (bi (pc (uh 4 rfl rfl (cN _) (lm 6 rfl rfl (.mk rfl (cr (tL (tS (a:=0) (b:=(n:Int) - (a:Int)) (by simp) (nF _) (nF _) (aY (by decide) (Int.sub_nonneg_of_le (mL (mR hb)))) (jw (Int.sub_le_self _ (nF _)) (nH hn)) ?_))))))))))))
  rw [en,eT]
  have RM:(HH++G1++[sn 0 (n - a:Nat)]++[rI 0 (n - a:Nat)])[(HH++G1++[sn 0 (n - a:Nat)]).length]?=some (rI 0 (n - a:Nat)):=by simp
  have RS:(HH++G1++[sn 0 (n - a:Nat)]++[rI 0 (n - a:Nat)])[ka]?=some (rI ((a:Int)+1) (((r+1:Nat):Int) - 1)):=bv (bv vS)
  have RT:(HH++G1++[sn 0 (n - a:Nat)]++[rI 0 (n - a:Nat)])[wi]?=some (.list (ws.map .int)):=bv (bv we)
  have Vo:HH.length≤(HH++G1++[sn 0 (n - a:Nat)]).length:=by rw [aI,aI];exact lT lI lI
  have l1:=(rK vS)
  have l3:=(rK we)
  have l4:(HH++G1).length < (HH++G1++[sn 0 (n - a:Nat)]).length:=by simp
  have e5:HH++G1++[sn 0 (n - a:Nat)]++[rI 0 (n - a:Nat)]=HH++(G1++[sn 0 (n - a:Nat)]++[rI 0 (n - a:Nat)]):=by simp only [ak]
  rw [e5] at RM RS RT ⊢
  refine (Vh X hW hl Ta hn (nQ hb) GJ hm B1 JO OZ Vo n1 (lL (lD 1 (lR 1 (lT (lU 1 l3) l4)))) (lL (lD 1 (lR 1 (lT (lU 1 l1) l4)))) (n - a) 0 _ ws ob op (nA _) (Ty hb hz en) RM RS RT).mono ?_
  rintro f ρ' H' ⟨rfl,Pv,xD,G',rfl,rfl,e1,e2⟩
  rw [fh] at e2
  have er:(((r+1:Nat):Int) - 1)=(r:Int):=nC _
  have eb:(a:Int)+1=((a+1:Nat):Int):=rfl
  rw [er,eb] at e1
  refine ev ?_
  refine (ih (a+1) G' _ _ _ _ (nN hb) (by rw [aI];simp;lia) e1 e2).mono ?_
  rintro f ρ' H' ⟨hf,Vp,Pv,xD,Vm,h1,h2,h3⟩
  refine (vm hf (PT Vp Pv xD Vm h1 h2 ?_))
  rw [h3,GK (fun a=>(bq (n - a)).map fun b=>yp W ms n a b) (show a < n by lia),ak]
theorem Mg (W:W3) (ms:List Int) {n:Nat} (h:1≤n):uM W ms n≠[]:=by
 unfold uM
 obtain ⟨m,rfl⟩ : ∃ m,n=m+1:=⟨n - 1,(fA h).symm⟩
 rw [List.range_succ_eq_map,nq]
 simp
theorem Vq (X:(KK P).In am) {W:W3} (hW:W.Ok) {l T ep kn:Nat} {H:AH} (hl:H[l]?=some (sa an w W.es ep)) (hT:T≤3) (M8:H.length+5≤kn) :
  ∀ (r i:Nat) (G:AH) (cn ow oa ob op:Option AV),i+r=T→(zf H l W.sum cn (sI W i)++G)[kn]?=some (rI ((i:Int)+1) r) →
  SF an w am d Jt (Es l T H.length ow oa ob op) (zf H l W.sum cn (sI W i)++G) kn (fun be it=>.forLoop (fT (nb OW 2)) it (fB (nb OW 2)) (fO (nb OW 2)) be)
   (fun f ρ' H'=>f=.next∧∃ cn ow oa ob op G',ρ'=Es l T H.length ow oa ob op∧H'=zf H l W.sum cn (sI W T)++G'):=by
 have q_:=W3.wz hW;have s1:=q_.1;have s2:=q_.2
 intro r
 induction r with
 | zero =>
  intro i G cn ow oa ob op hi hk
  have:i=T:=lA (lE hi) (lS hi)
  subst this
  refine tQ (sw hk (fun h=>absurd h (by decide)) (fun _=>?_))
  refine ev (vm rfl (XW cn ow oa ob op (G.set (kn - (H.length+5)) .s9) rfl ?_))
  rw [mt (by rw [tq];exact M8),tq]
 | succ r ih =>
  intro i G cn ow oa ob op hi hk
  have sj:=(rK hk)
  have GJ:=Dg W i
  have hm:=Md hW (n:=i) (de (aC (nQ hi) hT))
  have Nc:sI W (i+1)=sI W i++[W.sum ^ (i+1)+uJ (uM W (sI W i) (i+1))]:=rfl
  generalize sI W i=ms at hk GJ hm Nc sj ⊢
  refine tQ (sw hk (fun _=>?_) (fun h=>absurd h (nE _)))
  have vS:=az (a:=rI ((i:Int)+1+1) (((r+1:Nat):Int) - 1)) sj
  rw [mt (by rw [tq];exact M8)] at vS ⊢
  generalize G.set (kn - (zf H l W.sum cn ms).length) (rI ((i:Int)+1+1) (((r+1:Nat):Int) - 1))=G1 at vS
  have ei:(i:Int)+1=((i+1:Nat):Int):=rfl
  have er:(((r+1:Nat):Int) - 1)=(r:Int):=nC _
  rw [ei,er] at vS
  have cst:FH (Es l T H.length ow oa ob op) (zf H l W.sum cn ms++G1) 4 (.int ((i:Int)+1))=some (Es l T H.length ow oa ob op,zf H l W.sum (some (.int (i+1:Nat))) ms++G1):=by
   show (match (zf H l W.sum cn ms++G1)[H.length+2]? with
    | some (.cell _)=>some (Es l T H.length ow oa ob op,(zf H l W.sum cn ms++G1).set (H.length+2) (.cell (some (.int ((i:Int)+1)))))
    | _=>none)=_
   rw [ut G1 2 (by decide),Fy G1 2 (by decide),ei]
   rfl
  refine vo 4 rfl cst ?_
  have h1:(zf H l W.sum (some (.int (i+1:Nat))) ms++G1)[kn]?=some (rI (((i+1:Nat):Int)+1) r):=by
   rw [aK (by rw [tq];exact M8),tq]
   rw [aK (by rw [tq];exact M8),tq] at vS
   exact vS
  refine bd (t6 5 rfl (sB (cr (vm (by simp) (tW _ _ rfl ?_)))))
  generalize B1:zf H l W.sum (some (.int (i+1:Nat))) ms++G1=HH at h1 ⊢
  have cN:∀ G:AH,(HH++G)[H.length+2]?=some (.cell (some (.int (i+1:Nat)))):=fun G=>by rw [← B1,ak];exact ut _ 2 (by decide)
  refine (?_:ST an w am d Jt (Es l T H.length (some (.ref HH.length)) oa ob op) (HH++[.list []]) _ _)
  have eT:(if (0:Int) < ((i+1:Nat):Int) then ((i+1:Nat):Int) - 0 else 0)=((i+1:Nat):Int):=by split <;> lia
  refine bd (wr (io (ti 10 rfl rfl (tU X) (.mk sJ (bi (uh 4 rfl rfl (cN _) (cr (tL (tS (a:=0) (b:=((i+1:Nat):Int)) (by simp) (nF _) (nF _) (nF _) (nH (aj (nQ hi) hT)) ?_)))))))))
  rw [eT]
  have OZ:(HH++[AO.list []]++[sn 0 (i+1:Nat)]++[rI 0 (i+1:Nat)])[(HH++[AO.list []]++[sn 0 (i+1:Nat)]).length]?=some (rI 0 (i+1:Nat)):=by simp
  have JO:(HH++[AO.list []]++[sn 0 (i+1:Nat)]++[rI 0 (i+1:Nat)])[HH.length]?=some (.list (([]:List Int).map .int)):=bv (bv (by simp))
  have Eg:(HH++[AO.list []]++[sn 0 (i+1:Nat)]).length=HH.length+2:=by simp
  have e5:HH++[AO.list []]++[sn 0 (i+1:Nat)]++[rI 0 (i+1:Nat)]=HH++([AO.list []]++[sn 0 (i+1:Nat)]++[rI 0 (i+1:Nat)]):=by simp only [ak]
  rw [e5,Eg] at OZ
  rw [e5] at JO
  rw [e5,Eg]
  refine (Vn X hW hl (n:=i+1) (lU 1 lZ) (aj (nQ hi) hT) GJ hm B1.symm (ar _) (lR 2 lO) (lL (lR 1 lO)) (i+1) 0 _ [] oa ob op (nA _) (by simp;exact aj (cy 10 (aj (nQ hi) hT)) (by decide)) OZ JO).mono ?_
  rintro f ρ' H' ⟨rfl,Vp,Pv,xD,G',rfl,rfl,e2⟩
  rw [fh,gG] at e2
  replace e2:(HH++G')[HH.length]?=some (.list ((uM W ms (i+1)).map .int)):=e2
  have c0:(HH++G')[H.length]?=some (.cell (some (.int W.sum))):=by rw [← B1,ak];exact ut _ 0 (by decide)
  have c1:(HH++G')[H.length+1]?=some (.cell (some (.ref (H.length+4)))):=by rw [← B1,ak];exact ut _ 1 (by decide)
  have c4:(HH++G')[H.length+4]?=some (.list (ms.map .int)):=by rw [← B1,ak];exact ut _ 4 (by decide)
  have sz:=Mg W ms (n:=i+1) (lU 1 lZ)
  have e6:∀ G:AH,sH .Pow (.int W.sum) (.int (i+1:Nat)) G=some (.int (W.sum ^ (i+1)),G):=fun G=>by
   refine (?_:(if small W.sum∧0≤((i+1:Nat):Int)∧((i+1:Nat):Int)≤64 then some (AV.int (W.sum ^ ((i+1:Nat):Int).toNat),G) else none)=_)
   rw [if_pos (sS (vO (bI s1) (by have:(2:Int) ^ 102≤2 ^ 612:=(by decide);exact aY s2 (by decide))) (nF _) (nK (aj (nQ hi) hT)))]
   rfl
  refine bd (te (uu (uh 3 rfl rfl c1 (.mk "list.append" (uO pB oW c4) (bi ?_)))))
  refine pc (pc (uh 2 rfl rfl c0 (uh 4 rfl rfl (cN _) (.mk (e6 _) ?_))))
  refine io (ti 12 rfl rfl (OY X) (.mk nw (bi (lm 5 rfl rfl (cr (NT e2 sz fun v v1 v2=>(JL _ _ _ _ rfl rfl rfl (cr ((uT c4 (by rw [aM];exact lR 999996 (lT (lE GJ) (lU 1 (lT lI (lT (lE hi) hT)))))).to ?_)))))))))
  rw [Mc v1 v2]
  refine ev ?_
  have ems:ms.map AV.int++[.int (W.sum ^ (i+1)+uJ (uM W ms (i+1)))]=(sI W (i+1)).map .int:=by rw [Nc,dF];rfl
  rw [ems,← B1,ak,Fy _ 4 (by decide)]
  have:=ih (i+1) (G1++G') (some (.int (i+1:Nat))) (some (.ref (zf H l W.sum (some (.int (i+1:Nat))) ms++G1).length)) Vp Pv xD (nN hi) (by
   rw [← ak]
   refine bv ?_
   rw [← B1] at h1
   rw [aK (by rw [tq];exact M8),tq]
   rw [aK (by rw [tq];exact M8),tq] at h1
   exact h1)
  exact this
theorem Mh (X:(KK P).In am) {W:W3} (hW:W.Ok) {l T ep:Nat} {H:AH} (hl:H[l]?=some (sa an w W.es ep)) (hT:T≤3) :
  FN an w am (d+1) (.ref 835) H [.ref l,.int T] [] (Is (.int ((sI W T).getD T 0)) H):=by
 refine FN.drop (wv (nm:=Jt) (ks:=[.local,.local,.cell,.cell,.cell,.local,.local,.local,.local,.globalImplicit,.globalImplicit,.globalImplicit,.globalImplicit]) (np:=2) (body:=OW)
  (yL X (o:=Kh tw P) (by kernel_rfl) rfl (by kernel_rfl) rfl (by kernel_rfl)) rfl (fun vs hv=>by refine zh hv fun a b=>?_;kernel_rfl) ?_)
 refine (?_:ST an w am d Jt [.loc (some (.ref l)),.loc (some (.int T)),.sG H.length,.sG (H.length+1),.sG (H.length+2),.loc none,.loc none,.loc none,.loc none,.rc,.rc,.rc,.rc] (H++[.cell none,.cell none,.cell none]) _ _)
 have ui:=(rK hl)
 refine bd (t6 2 rfl (io (ti 9 rfl rfl (yK X) (.mk nw (bi (xL (lm 0 rfl rfl (.mk "dict.values" (BE jA my (bv hl)) (yG (vE X) (bv hl) ?_)))))))))
 have n1:(H++[AO.cell none,.cell none,.cell none]).length=H.length+3:=by simp
 rw [n1]
 refine cr (xm (v:=H.length+3) (by rw [ak,aK (lR 3 lO)];simp) (bv (bv hl)) ?_)
 have hS:ul (W.es.map (·.2))=W.sum:=by unfold ul W3.es W3.sum;simp
 rw [hS]
 refine (tW _ _ (Fz (j:=H.length) (c:=none) rfl (by rw [ak,aK lO,eO];rfl)) ?_)
 rw [ak,bY _ _ lO,eO]
 refine bd (t6 3 rfl (sB (bi (f8 (cr (vm (by simp) (tW _ _ (Fz (j:=H.length+1) (c:=none) rfl (by
  have e2:H.length+1 - H.length=1:=nB _ _
  rw [ak,aK (lR 1 lO),e2];rfl)) ?_)))))))
 have e1:(H++([AO.cell none,.cell none,.cell none]++[ug l]).set 0 (.cell (some (.int W.sum)))).length=H.length+4:=by simp
 have e2:H.length+1 - H.length=1:=nB _ _
 rw [e1,ak,bY _ _ (lR 1 lO),e2]
 have eB:H++(([AO.cell none,.cell none,.cell none]++[ug l]).set 0 (.cell (some (.int W.sum)))++[AO.list [.int 0]]).set 1 (.cell (some (.ref (H.length+4))))=zf H l W.sum none (sI W 0)++[]:=by rw [cO];rfl
 rw [eB]
 refine (?_:ST an w am d Jt (Es l T H.length none none none none) _ _ _)
 have eT:(if (1:Int) < (T:Int)+1 then (T:Int)+1 - 1 else 0)=(T:Int):=by split <;> lia
 refine bd (wr (io (ti 10 rfl rfl (tU X) (.mk sJ (bi (f8 (bi (pc (lm 1 rfl rfl (f8 (.mk rfl (cr (FU (tS (a:=1) (b:=(T:Int)+1) (by simp) (by lia) (by lia) (by lia) (by lia) ?_))))))))))))))
 rw [eT,cO,ak]
 refine (Vq X hW (kn:=(zf H l W.sum none (sI W 0)++[sn 1 (T+1)]).length) hl hT (by simp [tq]) T 0 ([sn 1 (T+1)]++[rI 1 T]) none none none none none (nA _) (by rw [← ak];simp)).mono ?_
 rintro f ρ' H' ⟨rfl,cn,ow,oa,ob,op,G,rfl,rfl⟩
 have GJ:=Dg W T
 refine bd (sF (rR (uh 3 rfl rfl (ut G 1 (by decide)) (lm 1 rfl rfl (.mk _ (Bo (ut G 4 (by decide)) (lS GJ) (lR 99996 (lT (lE GJ) (lU 1 hT)))) ?_)))))
 refine (Kn H ([.cell (some (.int W.sum)),.cell (some (.ref (H.length+4))),.cell cn,ug l,.list ((sI W T).map .int)]++G) (by unfold zf;rw [ak]) (uY.refl H) rfl rfl rfl)
end
end
noncomputable def Bp (ls:List Int) (xC:List aa):Prop:=∀ (h:Heap) (α:Nat→Addr) (n:Nat),po h α n (ls.map .int) xC
noncomputable def rZ:List Stmt:=fBody (vP pw 45)
noncomputable abbrev wM:List Str:=["script","few","numbers","weights","turns","line","opened","words","text","order","places","left","fits","octets","told","given","lightest","sizes","len","range","sum","_law_first","split","sorted","_law_cut","iter","_law_heaviest","list","_law_other","_law_most"]
noncomputable abbrev uK (lst:Addr) (few line opened text rX lc fits told given Ju RU:Option AV):List ci :=
 [.loc (some (.con (.ref lst))),.loc few,.sG 1,.sG 2,.sG 3,.loc line,.loc opened,.sG 4,.loc text,.loc rX,.loc lc,.sG 5,.loc fits,.sG 6,.loc told,.loc given,.loc Ju,.loc RU,.rc,.rc,.rc,.rc,.rc,.rc,.rc,.rc,.rc,.rc,.rc,.rc]
section
variable {nm:List Str} {ρ:List ci} {H:AH} {R:AV→AH→Prop}
theorem GN {value:Expr} {lo hi:Option Expr} {p pos:Pos} (h:EX an w am d nm ρ H (fun be=>eval value be) (fun a H1=>EP an w am d nm ρ H1 lo (fun i H2=>EP an w am d nm ρ H2 hi (fun j H3 =>
   ∃ a0 ls xC x y,a=.con (.ref a0)∧am.IsList a0 (dD xC)∧Bp ls xC∧ls.length≤1000000∧vW i=some x∧vW j=some y∧(∀ u v,x=some u→y=some v→u≤v∧v≤ls.length)∧R (.ref H3.length) (H3++[.list ((rV ls x y).map .int)])))))
  (hs:∀ o i,∃ ops,gc (.Slice lo hi none p) false o i=gC ops (fz o i):=by intro _ _;with_unfolding_all exact ⟨_,rfl⟩) :
  EX an w am d nm ρ H (fun be=>eval (.Subscript value (.Slice lo hi none p) pos) be) R:=fun be A L m α s Q E hr S I D c=>by
 refine hY (h.then hr S I D fun a v rS H1 s1 h1 x1 I1 V1 Z1 S1 D1=>?_)
 refine kH (EX.then h1 hr S1 I1 D1 fun i vi sP H2 s2 h2 x2 I2 V2 Z2 S2 D2=>?_)
 refine EX.then h2 hr S2 I2 D2 fun j vj sQ H3 s3 h3 x3 I3 V3 Z3 S3 D3=>?_
 rw [jP]
 refine ai ?_
 obtain ⟨a0,ls,vs,x,y,rfl,⟨lo,hk,hlc,hld⟩,hv,hz,e1,e2,hb,hR⟩:=h3
 refine V1.Ce ?_
 have Kw:=V2.ext x3 I2.kt
 have g:=I3.fr.keep a0 _ hk
 have hl:s3.heap.IsList a0 vs.toArray:=(sN _ g hlc hld)
 have VV:=hv s3.heap sQ H3.length
 have mo:=VV.length
 rw [aM] at mo
 have xa:=vr sQ H3.length s3.heap L {cls:=.type "slice",data:=.fields #[vi,vj,.none]}
 have Ia:Inv am L m sQ H3 (s3.heap.push {cls:=.type "slice",data:=.fields #[vi,vj,.none]}):=I3.same xa (I3.fr.push _) fun i hi=>cW _ _ _ (ax (I3.lt hi))
 obtain ⟨ops,hs⟩:=hs (.ref a0) (.ref s3.heap.objs.size)
 refine fJ (s:={s3 with heap:=s3.heap.push {cls:=.type "slice",data:=.fields #[vi,vj,.none]}}) (hl.push _).typeIs kJ.lookup (k7 (hl.push _) (l8 ..) (yA e1 Kw) (yA e2 V3) .none (by simp) ?_ (by rw [bZ,mo];unfold cX;exact nI hz)) hs
 rw [y5 vs x y (by rw [mo];exact hb)]
 have xb:=tf sQ H3.length (s3.heap.push {cls:=.type "slice",data:=.fields #[vi,vj,.none]}) L (bU (rV vs x y).toArray 0)
 have epk:(rV ls x y).map AV.int=rV (ls.map AV.int) x y:=by cases x <;> cases y <;> simp [rV]
 have Ib:=Ia.push (o:=bU (rV vs x y).toArray 0) (ao:=.list ((rV ls x y).map .int)) (tW (rV vs x y) 0 (bj _ rfl) (by rw [epk];exact ((VV.pick x y).ext xa I3.kt).ext xb Ia.kt))
 have FK : (H3++[AO.list ((rV ls x y).map .int)]).length=H3.length+1:=by simp
 refine c _ _ _ _ {s3 with heap:=_} hR (FK▸(((x1.trans x2).trans x3).trans xa).trans xb) Ib ?_ (((Z1.trans Z2).trans Z3).trans ⟨rfl,id⟩)
 rw [FK]
 have:pp ((s3.heap.push {cls:=.type "slice",data:=.fields #[vi,vj,.none]}).push (bU (rV vs x y).toArray 0)) (put sQ H3.length (s3.heap.push {cls:=.type "slice",data:=.fields #[vi,vj,.none]}).objs.size) (H3.length+1) (.ref H3.length) (.ref (put sQ H3.length (s3.heap.push {cls:=.type "slice",data:=.fields #[vi,vj,.none]}).objs.size H3.length)):=.ref (bB _)
 rwa [nn] at this
end
theorem items_int {R:WRecords} {xs:List WData} (h:WShape.hasItems R xs .int=true):∃ ls:List Int,xs=ls.map .int:=by
 induction xs with
 | nil=>exact ⟨[],rfl⟩
 | cons x r ih =>
  obtain ⟨h1,h2⟩:=eJ.mp h
  obtain ⟨ls,rfl⟩:=ih h2
  cases x with
  | int i=>exact ⟨i::ls,rfl⟩
  | _=>cases h1
theorem Et {R:WRecords} {cl:Str→Option Addr} {h:Heap} {ls:List Int} {vs:List aa} {as:List Addr} (r:ReadsAllW R cl h vs (ls.map .int) as):Bp ls vs:=fun h' α n=>by
 induction ls generalizing vs as with
 | nil=>cases r;exact .nil
 | cons i ls ih =>
  cases r with
  | cons a r=>cases a;exact .cons (.int i _) (ih r)
noncomputable abbrev wc:RowW:=ro (q8 g6)
theorem Mi {ls:List Int} (h:wc.pre.holds wc.records {args:=[.list (ls.map .int)]}=true):ls.length≤63:=by
 have e:wc.pre=.and (.not (.lt (.lit (.int 63)) (.len (.arg 0)))) (.lit (.bool true)):=rfl
 rw [e] at h
 by_cases q:ls.length≤63
 ·exact q
 exfalso
 have:(63:Int) < ls.length:=by lia
 simp [WTm.holds,WTm.value,less?,Num.less?,this] at h
theorem Mj {cl:Str→Option Addr} {h:Heap} {vals:List aa} {args:List WData} {as:List Addr} (xh:wc.claim.pre args=true) (hR:ReadsAllW wc.records cl h vals args as) :
  ∃ (ls:List Int) (lst:Addr) (xC:List aa),args=[.list (ls.map .int)]∧vals=[.ref lst]∧h.IsList lst (dD xC)∧Bp ls xC∧ls.length≤1000:=by
 obtain ⟨h1,h2⟩:=pre_splitW xh
 obtain ⟨d,r,rfl,h3,h4⟩:=hasAllW_cons h1
 obtain ⟨xs,rfl,h5⟩:=hasW_list h3
 obtain ⟨ls,rfl⟩:=items_int h5
 cases r with
 | cons a b=>cases h4
 | nil =>
  cases hR with
  | cons a b =>
   cases b
   cases a with
   | @list _ o vs n _ _ ho hc hd hr =>
    refine (TE ls _ vs.toList rfl rfl (sN _ ho hc (Au _ hd)) (Et hr) ?_)
    have:=Mi h2
    exact lR 937 this
noncomputable abbrev RV (kx vx db iter:Expr) (ifs:List Expr) (scope:aO) (pos:Pos):Env→aa→aa→Code:=fun be it pi=>.compLoop (.DictComp kx vx [⟨db,iter,ifs,0⟩] scope pos) 0 it pi be
section
variable {nm:List Str} {ρ:List ci} {H:AH}
theorem Jv {es:List (List Nat×Int)} {kvs:List (Str×aa)} {x:List Nat} {v:Int} {t:Tok} (K:Sn es kvs) (hx:x∉es.map (·.1)):stored kvs (⟨x.toArray⟩ : Str) (.int v t)=kvs++[(⟨x.toArray⟩,.int v t)]∧Sn (es++[(x,v)]) (kvs++[(⟨x.toArray⟩,.int v t)]):=by
 have kl:=K.1;have kk:=K.2
 have hn:(kvs.any fun kv=>decide (kv.1=(⟨x.toArray⟩ : Str)))=false:=by
  rw [List.any_eq_false]
  intro p hp hq
  obtain ⟨i,hi⟩:=gj.mp hp
  have va:=(rK hi)
  have Vr:=aQ (show i < es.length by lia)
  generalize es[i]=pq at Vr
  obtain ⟨y,u⟩:=pq
  obtain ⟨t',e⟩:=kk i y u Vr
  rw [hi] at e
  obtain rfl:=ay e
  have Rm:=of_decide_eq_true hq
  unfold Str.mk.injEq at Rm
  have MU:y=x:=by simpa -iota using Rm
  subst MU
  exact hx (aE.mpr (i12 _ (gj.mpr ⟨i,Vr⟩) rfl))
 refine (sS (by unfold stored;rw [hn];rfl) (by simp -iota [kl]) (fun i k u e=>?_))
 by_cases q:i < es.length
 ·rw [aR q] at e
  rw [aR (lT q (lS kl))]
  exact kk i k u e
 ·rw [aK (lN q)] at e
  have:i - es.length=0:=by have:=(rK e);simp -iota at this;exact lA (lE this) (lS this)
  rw [this] at e
  simp -iota at e
  obtain ⟨rfl,rfl⟩:=e
  rw [aK (lT (lE kl) (lN q)),kl,this]
  exact ⟨t,rfl⟩
set_option tactic.hygienic true in
theorem Dh {db iter kx vx:Expr} {scope:aO} {pos:Pos} {k pi:Nat} {R:List ci→AH→Prop}
  (h:NX an w am d H k (fun x H1=>match x with
   | none=>R ρ H1
   | some a=>LG an w am d H1 db k a (fun H2=>AS an w am d nm ρ H2 db a (fun sZ H3=>EX an w am d nm sZ H3 (fun be=>eval kx be) (fun kv H4=>EX an w am d nm sZ H4 (fun be=>eval vx be) (fun vv H5 =>
     ∃ (x:List Nat) (v:Int) (es:List (List Nat×Int)) (ep:Nat),kv=.str x∧vv=.int v∧H5[pi]?=some (sa an w es ep)∧x∉es.map (·.1)∧es.length≤1000∧∀ G5,SL an w am d nm sZ (H5.set pi (sa an w (es++[(x,v)]) G5)) k pi (RV kx vx db iter [] scope pos) R)))))) :
  SL an w am d nm ρ H k pi (RV kx vx db iter [] scope pos) R:=by
 intro be A L m α s Q hr S I D hk ha kk
 refine eN ?_
 refine (?_:ag _ A ((fL (.DictComp kx vx [⟨db,iter,[],0⟩] scope pos) 0 (.ref (α k)) (.ref (α pi)) be).onRaise (fun x=>do gH x be;gK x)) _ _ s)
 refine gT ?_
 rw [FM]
 refine ab (dq (ab (h A L m α s _ _ hr I hk fun x ov rS H1 s1 h1 x1 I1 VV Z1=>?_)))
 have S1:=S.ext x1
 have D1:=D.ext x1 I.kt
 cases VV with
 | none=>exact ai (kk .next ρ m rS H1 s1 h1 x1 I1 S1 D1 Z1)
 | some V1 =>
  rename_i a v
  try dsimp only
  have vA:k < H1.length:=aC hk x1.le
  rw [← x1.al k hk]
  refine ab (h1 A L m rS s1 _ _ v hr I1 vA V1 fun sP H2 s2 h2 x2 I2 Z2=>?_)
  have S2:=S1.ext x2
  have D2:=D1.ext x2 I1.kt
  refine ab (h2 be A L m sP s2 _ _ v hr S2 I2 D2 (V1.ext x2 I1.kt) fun Dq m3 sQ H3 s3 h3 x3 I3 S3 D3 Z3=>?_)
  refine (?_:ag _ _ (forIn ([]:List Expr) true _ >>= _) _ _ _)
  rw [i7]
  refine ab (ai ?_)
  simp -iota only [if_true]
  refine ab (ab (h3.then hr S3 I3 D3 fun kv ku Dw H4 s4 h4 x4 I4 V4 Z4 S4 D4=>?_))
  refine ab (cH (h4.then hr S4 I4 D4 fun vv vu Bw H5 s5 h5 x5 I5 V5 Z5 S5 D5=>?_))
  obtain ⟨xs,vi,es,ep,rfl,rfl,LS,Va,hz,q⟩:=h5
  have V4':=V4.ext x5 I4.kt
  refine V4'.ub fun _=>?_
  refine V5.tI fun _=>?_
  rename_i t4 t5
  have Ds:=(((x1.trans x2).trans x3).trans x4).trans x5
  have TR:=(((Z1.trans Z2).trans Z3).trans Z4).trans Z5
  have Sj:pi < H5.length:=aC ha Ds.le
  obtain ⟨kvs,BF,DA⟩:=I5.dictAt LS
  have q_:=Jv (t:=t5) (v:=vi) BF Va;have e1:=q_.1;have e2:=q_.2
  have sj:=BF.1
  rw [Ds.al pi ha] at DA
  refine ab (dq (cH (wpAny_dictSet_pairs (knd:=cJ an w) (k:=⟨xs.toArray⟩) (by simp [cJ,qA]) DA.dictOf (fun h' hD hs=>?_) (by unfold cX;lia))))
  rw [e1] at hD
  obtain ⟨G5,o,ents,ho,Ff⟩:=hD.dictAt
  have Ug:du (Bw pi) s5.heap h':=by rw [Ds.al pi ha];exact hs
  have q_:=I5.BA (ao:=sa an w (es++[(xs,vi)]) G5) Sj Ug (Hq (bK _) (fun _ _=>rfl) (by rw [Ds.al pi ha];exact ho) (i12 _ e2 (Au ents Ff)));have x6:=q_.1;have I6:=q_.2
  have Xd:(H5.set pi (sa an w (es++[(xs,vi)]) G5)).length=H5.length:=aP
  have NK:=Ds.trans x6
  rw [x1.al k hk]
  refine ai ⟨rfl,?_⟩
  have S6:=S5.ext x6
  have D6:=D5.ext x6 I5.kt
  have:=q G5 be A L m3 Bw {s5 with heap:=h',toks:=s5.toks+1} Q hr S6 I6 D6 (by rw [Xd];exact aC hk Ds.le) (by rw [Xd];exact Sj) fun f TS m7 TU H7 s7 r7 x7 I7 S7 D7 Z7=>kk f TS m7 TU H7 s7 r7 (NK.trans x7) I7 S7 D7 (TR.trans ((show rM s5 {s5 with heap:=h',toks:=s5.toks+1} from ⟨rfl,id⟩).trans Z7))
  rwa [Ds.al k hk,Ds.al pi ha] at this
theorem Jw {A:au} {E:aa→af→Prop} {s:af} {Q:aa→af→Prop} (h:Q (.ref s.heap.objs.size) {s with heap:=s.heap.push {cls:=.type "dict",data:=.dict #[]}}):ag (ah an w) A newDict Q E s :=
 by
 unfold newDict newObj
 try dsimp only
 rw [if_neg (by decide)]
 exact ab (j0 (ai h))
theorem Mk (h:Heap) (α:Nat→Addr) (n:Nat):tP (h.push {cls:=.type "dict",data:=.dict #[]}) α n h.objs.size (sa an w [] 0) :=
 Hq (bK _) (fun _ _=>rfl) (bj _ rfl) (i12 [] ⟨rfl,fun i k v e=>by simp -iota at e⟩ (Sc (#[]) (sS rfl rfl rfl) rfl (fun e he=>by simp -iota at he) .nil l9))
theorem Eu {c:Env→aa→aa→Code} {kx vx db iter:Expr} {ifs:List Expr} {scope:aO} {pos:Pos} {nm' : List Str} {sk:List SK} (ok:rO scope nm ρ nm' sk) {R:AV→AH→Prop}
  (hc:c=fun be it pi=>.compLoop (.DictComp kx vx [⟨db,iter,ifs,0⟩] scope pos) 0 it pi be)
  (hq:∀ {A:au} {it pi:aa} {be:Env},A.under (.compStart (.DictComp kx vx [⟨db,iter,ifs,0⟩] scope pos) 0 it pi be)=A)
  (h:EX an w am d nm ρ H (fun be=>eval iter be) (fun a H1=>IT an w am d H1 a (fun k H2=>SI an w am d (H2++[sa an w [] 0]) k∧SL an w am d nm' (sk.map SK.slot) (H2++[sa an w [] 0]) k H2.length c (fun _ H3=>R (.ref H2.length) H3))))
  (hs:∀ be x,fP iter be x=pure x:=by intro _ _;rfl) :
  EX an w am d nm ρ H (fun be=>eval (.DictComp kx vx [⟨db,iter,ifs,0⟩] scope pos) be) R:=fun be A L m α s Q E hr S I D kk=>by
 refine (?_:ag _ _ (mi (.DictComp kx vx [⟨db,iter,ifs,0⟩] scope pos) scope be (mj [⟨db,iter,ifs,0⟩] pos) newDict false (eval iter be)) Q E s)
 refine mO (use:=none) rfl (hs be) (ok.closure S) ok.kind ok.locals (h.then hr S I D fun a v rS H1 s1 h1 x1 I1 V1 Z1 S1 D1=>?_)
 refine h1 A L m rS s1 _ E v hr I1 V1 fun r it sP H2 s2 h2 x2 I2 V2 Z2=>?_
 obtain ⟨k,rfl,q⟩:=h2
 refine V2.sO fun _=>?_
 rename_i hk
 refine yD ok (c:=c) Jw (fun h α n _=>Mk h α n) (fun h0 h'=>?_) q hr (S1.ext x2) I2 hk ?_
 ·subst hc
  exact wU (db:=db) (iter:=iter) (ifs:=ifs) rfl (fun _=>rfl) hq rfl h0 h'
 ·intro fl ρ' C m' dL H' s' r hC x I' hn uG hL Z hl
  have ne:C≠s2.heap.objs.size:=fun e=>uG _ hl.1 (by rw [hl.2,e])
  refine (i12 m' hn (fun h' KB=>?_))
  have hT:∀ vs e,s'.heap.get? C≠some (sv vs e):=fun vs e q=>by
   obtain ⟨o,es,ep,ho,hd,_⟩:=hn
   rw [q] at ho
   obtain rfl:=ay ho
   cases hd
  have I3:=I'.outer (C:=C) (aj (aj I.fr.above (bp (aC I.wl (aj x1.size x2.size)))) hC) hL uG hT KB
  refine kk _ _ dL H' {s' with heap:=h'} r ((x1.trans x2).trans (x.outer hC KB)) I3 ?_ ((Z1.trans Z2).trans (Z.trans ⟨rfl,id⟩))
  rw [← hl.2]
  exact .ref hl.1
end
section
set_option backward.match.sparseCases false
noncomputable def JS (n:Int):Int:=1+(n.fdiv 2).fmod (if n.fmod 2 == 1 then 4 else 10 ^ 30)
theorem yX (n:Int):1≤JS n∧JS n≤2 ^ 100:=by
 unfold JS
 have h:∀ m:Int,0 < m→m≤10 ^ 30→1≤1+(n.fdiv 2).fmod m∧1+(n.fdiv 2).fmod m≤2 ^ 100:=fun m h0 h1=>by
  have a:=iD (n.fdiv 2) h0
  have b:=je (n.fdiv 2) h0
  have c:(10:Int) ^ 30≤2 ^ 100:=by decide
  exact ⟨pd a,aY (iQ (bI b) 1) (aY (iQ h1 1) (by decide))⟩
 split
 ·exact h 4 (by decide) (by decide)
 ·exact h (10 ^ 30) (by decide) (fw _)
noncomputable def sb (a b c:Int):W3:=⟨JS a,JS b,JS c⟩
theorem yY (a b c:Int):(sb a b c).Ok:=⟨(yX a).1,(yX a).2,(yX b).1,(yX b).2,(yX c).1,(yX c).2⟩
section
variable {nm:List Str} {ρ:List ci} {H:AH}
theorem Ev {i j:Nat} {x:Str} {e:Expr} {p' pos:Pos} {R:AF→List ci→AH→Prop} (hx:nm[i]?=some x) (hn:nm.Nodup) (KC:ρ[i]?=some (.sG j)) (h:EX an w am d nm ρ H (fun be=>eval e be) (fun a H1=>∃ ρ' H2,FH ρ H1 i a=some (ρ',H2)∧R .next ρ' H2))
  (hs:∀ be:Env,be.kindOf x=some .cell→dw e (some (.Name x p')) pos.line be=pure false):ST an w am d nm ρ H (fun be=>exec (.Assign [.Name x p'] e pos) be) R:=fun be A L m α s Q E hr S I D k=>by
 have hk:=(S.slots i x _ hx KC).2.1
 refine l7 (h.then hr S I D fun a v rS H1 s1 h1 x1 I1 V1 Z1 S1 D1=>?_) (hs be hk)
 obtain ⟨ρ',H2,e2,r⟩:=h1
 exact vy e2 hx hn S1 I1 D1 V1 fun m' s' x2 I2 S2 D2 Z2=>k _ _ ρ' m' rS H2 s' r (x1.trans x2) I2 S2 D2 .next (Z1.trans Z2)
theorem Ew {k v:Expr} {gens:List iA} {scope:aO} {pos py:Pos} {y:Str} {line:Nat}:∀ be:Env,be.kindOf y=some .cell→dw (.DictComp k v gens scope pos) (some (.Name y py)) line be=pure false:=by
 intro be h2
 show pure (be.blockKind == .function && be.kindOf y == some .local && py.line == pos.line && !(scope.names.any fun (n,k)=>n == y && (k == .local || k == .cell)))=_
 rw [h2]
 have:(some fV == some aW.local)=false:=rfl
 rw [this,Bool.and_false,rC,rC]
noncomputable abbrev Vs:List Str:=[".0","i","numbers"]
noncomputable def eK:Expr→Expr
 | .DictComp k ..=>k
 | e=>e
noncomputable def eV:Expr→Expr
 | .DictComp _ v ..=>v
 | e=>e
noncomputable def FA:Expr:=rE (nb rZ 2)
theorem Ml {H:AH} {a b c:AO} {i:Nat} (h:i < 3):(H++[a,b,c])[H.length+i]?=[a,b,c][i]?:=by
 rw [aK lI]
 congr 1
 exact nB _ _
theorem O1 {H:AH} {a b c o:AO} {i:Nat}:(H++[a,b,c]).set (H.length+i) o=H++[a,b,c].set i o:=by
 rw [mt lI]
 congr 2
 exact nB _ _
theorem Ex {x y z:Int} {q cn:Nat} {px:Pos} {iter:Expr} {scope:aO} {pos:Pos} {R:List ci→AH→Prop} {H:AH} (hc:H[cn]?=some (.cell (some (.ref q)))) (hq:H[q]?=some (.list [.int x,.int y,.int z])) :
  ∀ (r i ep:Nat) (o:Option AV) (a:AO),i+r=3→(∀ ρ' a G5,R ρ' (H++[a,.s9,sa an w (sb x y z).es G5])) →
   SL an w am d Vs [.loc none,.loc o,.sG cn] (H++[a,rI i r,sa an w ((sb x y z).es.take i) ep]) (H.length+1) (H.length+2) (RV (eK FA) (eV FA) (.Name "i" px) iter [] scope pos) R:=by
 intro r
 induction r with
 | zero =>
  intro i ep o a hi hR
  have:i=3:=lA (lE hi) (lS hi)
  subst this
  refine Dh (sw (Ml (by decide)) (fun h=>absurd h (by decide)) fun _=>?_)
  rw [O1]
  exact hR _ _ _
 | succ r ih =>
  intro i ep o a hi hR
  refine Dh (sw (Ml (by decide)) (fun _=>?_) fun h=>absurd h (nE _))
  rw [O1]
  refine uy (wQ (i:=1) (ρ':=[.loc none,.loc (some (.int i)),.sG cn]) (H':=H++[a,rI (i+1) ((r+1:Nat) - 1),sa an w ((sb x y z).es.take i) ep]) rfl (by decide +kernel) rfl ?_)
  have mo:cn < H.length:=(rK hc)
  obtain ⟨c,ec,n,en,ee⟩ : ∃ c,([39,32,35]:List Nat)[i]?=some c∧∃ n,([AV.int x,.int y,.int z])[i]?=some (.int n)∧((sb x y z).es.take (i+1)=(sb x y z).es.take i++[([c],JS n)]∧[c]∉((sb x y z).es.take i).map (·.1)):=by
   have:i=0∨i=1∨i=2:=zE (nQ hi)
   rcases this with rfl | rfl | rfl
   ·exact (i12 _ rfl (sN _ rfl rfl (by simp)))
   ·exact (i12 _ rfl (sN _ rfl rfl (by simp [sb,W3.es])))
   ·exact (i12 _ rfl (sN _ rfl rfl (by simp [sb,W3.es])))
  have e0:sT (.str [39,32,35]) (.int (i:Nat)) (H++[a,rI (i+1) ((r+1:Nat) - 1),sa an w ((sb x y z).es.take i) ep])=some (.str [c]):=by
   have:i=0∨i=1∨i=2:=zE (nQ hi)
   rcases this with rfl | rfl | rfl <;> (cases ec;rfl)
  have hq1:(H++[a,rI (i+1) ((r+1:Nat) - 1),sa an w ((sb x y z).es.take i) ep])[q]?=some (.list [.int x,.int y,.int z]):=bv hq
  have e1:sT (.ref q) (.int (i:Nat)) (H++[a,rI (i+1) ((r+1:Nat) - 1),sa an w ((sb x y z).es.take i) ep])=some (.int n):=by
   rw [xK hq1]
   have:i=0∨i=1∨i=2:=zE (nQ hi)
   rcases this with rfl | rfl | rfl <;> exact en
  have Ej:(H++[a,rI (i+1) ((r+1:Nat) - 1),sa an w ((sb x y z).es.take i) ep])[cn]?=some (.cell (some (.ref q))):=bv hc
  refine rR (pu (l:=[39,32,35]) rfl (lm 1 rfl rfl (.mk _ e0 ?_)))
  have fin:∀ m:Int,(if n.fmod 2 == 1 then 4 else 10 ^ 30)=m→1+(n.fdiv 2).fmod m=JS n:=fun m e=>by rw [← e];rfl
  refine pc (f8 (pc (pc (rR (uh 2 rfl rfl Ej (lm 1 rfl rfl (.mk _ e1 (f8 (.mk rfl ?_)))))))))
  refine Qu (dl (pc (rR (uh 2 rfl rfl Ej (lm 1 rfl rfl (.mk _ e1 (f8 (.mk rfl (f8 (.mk _ rfl ?_))))))))))
  have Xe:∃ (Vt:List Nat) (v:Int) (es:List (List Nat×Int)) (Vu:Nat),AV.str [c]=.str Vt∧AV.int (JS n)=.int v∧(H++[a,rI (i+1) ((r+1:Nat) - 1),sa an w ((sb x y z).es.take i) ep])[H.length+2]?=some (sa an w es Vu)∧Vt∉es.map (·.1)∧es.length≤1000 ∧
    ∀ G5,SL an w am d Vs [.loc none,.loc (some (.int i)),.sG cn] ((H++[a,rI (i+1) ((r+1:Nat) - 1),sa an w ((sb x y z).es.take i) ep]).set (H.length+2) (sa an w (es++[(Vt,v)]) G5)) (H.length+1) (H.length+2) (RV (eK FA) (eV FA) (.Name "i" px) iter [] scope pos) R:=by
   refine (Se [c] (JS n) _ ep rfl rfl (Ml (by decide)) ee.2 (by rw [dO];exact aj (jT _ _) (by simp [W3.es])) (fun G5=>?_))
   rw [O1]
   have er:(((r+1:Nat):Int) - 1)=(r:Nat):=nC _
   rw [er,← ee.1]
   exact ih (i+1) G5 _ a (nN hi) hR
  by_cases hm:(n.fmod 2 == 1)=true
  ·refine tX hm ?_
   refine f8 (JL _ _ _ _ rfl rfl rfl (JL _ _ _ _ rfl rfl rfl ?_))
   rw [fin 4 (by rw [if_pos hm])]
   exact Xe
  ·refine so hm ?_
   refine pc (f8 (f8 (.mk rfl (.mk rfl (.mk rfl ?_)))))
   exact (fin (10 ^ 30) (by rw [if_neg hm]))▸Xe
end
end
noncomputable def sf (ls:List Int):List Int:=ls.take 8
noncomputable def fc (ls:List Int):List Int:=(sf ls).take 3++([8,2,4]:List Int).drop (sf ls).length
theorem B8 (ls:List Int):∃ x y z,fc ls=[x,y,z]:=by
 have h:(fc ls).length=3:=by
  unfold fc
  rw [aI,dO,gY]
  simp only [aS,cS]
  exact TA
 generalize fc ls=l at h ⊢
 cases l with
 | nil=>cases h
 | cons x l=>cases l with
  | nil=>cases h
  | cons y l=>cases l with
   | nil=>cases h
   | cons z l=>cases l with
    | nil=>exact Ko x y z rfl
    | cons=>cases h
noncomputable def rT (ls:List Int):Nat:=(1+(1+ul (sf ls)).fmod 3).toNat
theorem xA (ls:List Int):1≤rT ls∧rT ls≤3∧(1+(1+ul (sf ls)).fmod 3)=(rT ls:Nat):=by
 have a:=iD (1+ul (sf ls)) (b:=3) (by decide)
 have b:=je (1+ul (sf ls)) (b:=3) (by decide)
 exact zG a b
section
theorem Jx (X:(KK P).In am):GL am "_law_first" (.ref 820):=su X (by kernel_rfl)
noncomputable abbrev Jy (tb c1 c2 c3 c4 c5 c6:AO):AH:=[tb,c1,c2,c3,c4,c5,c6]
noncomputable abbrev hA (ls ns:List Int) (c4 c5 c6:AO) (W:W3) (ep:Nat) (a:AO) (opened:List (List Nat)):AH :=
 [wF,.cell (some (.ref 11)),.cell (some (.ref 14)),.cell (some (.int (rT ls))),c4,c5,c6,.list ((sf ls).map .int),.list (((sf ls).take 3).map .int),.list [.int 8,.int 2,.int 4],.list (([8,2,4]:List Int).drop (sf ls).length |>.map .int),.list (ns.map .int),a,.s9,sa an w W.es ep,.list (rQ opened)]
theorem RW (X:(KK w.params).In am) {lst:Nat} {ls:List Int} {xC:List aa} (hS:am.IsList lst (dD xC)) (hI:Bp ls xC) (hz:ls.length≤1000) {x y z:Int} (hn:fc ls=[x,y,z]) :
  ST an w am (d+6) wM (uK lst none none none none none none none none none none none) (Jy C5 (.cell none) (.cell none) (.cell none) (.cell none) (.cell none) (.cell none)) (fun be=>aG (rZ.take 5) be)
   (fun f ρ' H'=>f=.next∧∃ a ep,ρ'=uK lst (some (.ref 7)) (some (.str (sA [32] (((uE (2 * rT ls+1) (jp (sb x y z) (rT ls) (rT ls)).1).map (·.2)).map pt)))) (some (.ref 15)) none none none none none none none none ∧
    H'=hA (an:=an) (w:=w) ls [x,y,z] (.cell none) (.cell none) (.cell none) (sb x y z) ep a (jp (sb x y z) (rT ls) (rT ls)).2):=by
 have O2:(sf ls).length≤8:=by unfold sf;rw [dO];exact eY _ _
 refine bd (t6 1 rfl (GN (lm 0 rfl rfl (ve (uv (f8 ⟨_,_,_,_,_,rfl,hS,hI,lR 999000 hz,rfl,rfl,(fun u v a=>by exact uH a),_,_,rfl,?_⟩))))))
 refine (?_:ST an w am (d+6) wM (uK lst (some (.ref 7)) none none none none none none none none none none) (Jy C5 (.cell none) (.cell none) (.cell none) (.cell none) (.cell none) (.cell none)++[.list ((sf ls).map .int)]) _ _)
 refine bd (t6 2 rfl (uc (xM (lm 1 rfl rfl (ve (uv (f8 ⟨_,_,_,_,rfl,rfl,by rw [aM];exact lR 999992 O2,rfl,rfl,(fun u v a=>by exact uH a),?_⟩)))))))
 refine xM (sB (bi (f8 (bi (f8 (bi (f8 (cr ⟨by simp,uv (io (ti 18 rfl rfl (ue X) ⟨_,rfl,nw,bi (lm 1 rfl rfl (cr ((xr (k:=7) (xs:=(sf ls).map .int) rfl (by rw [aM];exact lR 999992 O2)).to (ve ⟨_,_,_,_,rfl,rfl,by simp,vH _,rfl,(fun u v a b=>by exact uH b),?_⟩))))⟩))⟩))))))))
 refine wR rfl rfl ?_ (tW _ _ rfl ?_)
 ·simp only [rV,dO,aM,gY];simp only [aS,cS];exact aj (fu (eY _ _) (dS _ _)) (by decide)
 have e1:rV ((sf ls).map AV.int) none (some 3)=((sf ls).take 3).map .int:=by simp [rV]
 have e2:rV ([AV.int 8,AV.int 2,AV.int 4]) (some (jM AV.int (sf ls)).length) none=(([8,2,4]:List Int).drop (sf ls).length).map .int:=by simp [rV,List.map_drop]
 have e3:rV ((sf ls).map AV.int) none (some (mh 3))++rV ([AV.int 8,AV.int 2,AV.int 4]) (some (jM AV.int (sf ls)).length) none=(fc ls).map .int:=by
  refine (?_:rV ((sf ls).map AV.int) none (some 3)++_=_)
  rw [e1,e2,← dF];rfl
 rw [e3]
 refine (?_:ST an w am (d+6) wM _ (Jy C5 (.cell (some (.ref 11))) (.cell none) (.cell none) (.cell none) (.cell none) (.cell none)++[.list ((sf ls).map .int),.list (rV ((sf ls).map AV.int) none (some 3)),.list [.int 8,.int 2,.int 4],.list (rV ([AV.int 8,AV.int 2,AV.int 4]) (some (jM AV.int (sf ls)).length) none),.list ((fc ls).map .int)]) _ _)
 rw [e1,e2,hn]
 have hnn:∀ H:AH,H[11]?=some (.list ((fc ls).map .int))→H[11]?=some (.list [.int x,.int y,.int z]):=fun H e=>by rw [e,hn];rfl
 generalize hB:(Jy C5 (.cell (some (.ref 11))) (.cell none) (.cell none) (.cell none) (.cell none) (.cell none)++[.list ((sf ls).map .int),.list (((sf ls).take 3).map .int),.list [.int 8,.int 2,.int 4],.list ((([8,2,4]:List Int).drop (sf ls).length).map .int),.list (([x,y,z]:List Int).map .int)])=HB
 have b1:HB[1]?=some (.cell (some (.ref 11))):=by rw [← hB];rfl
 have Tj:HB[11]?=some (.list [.int x,.int y,.int z]):=by rw [← hB];rfl
 have b12:HB.length=12:=by rw [← hB];rfl
 refine bd (Ev (i:=3) (j:=2) rfl (by decide +kernel) rfl (Eu (nm':=Vs) (sk:=[.loc,.loc,.sG 2 1]) (rO.of (by kernel_rfl) ⟨rfl,trivial⟩) (c:=RV _ _ _ _ _ _ _) rfl rfl ?_) Ew)
 refine io (ti 19 rfl rfl (tU X) (.mk sJ (bi (f8 (cr (tL (tS (a:=0) (b:=3) (by simp) (by decide) (by decide) (by decide) (by decide) ?_)))))))
 have l1:(HB++[sn 0 3]).length=HB.length+1:=by simp
 have l2:(HB++[sn 0 3]++[rI 0 (if (0:Int) < 3 then 3 - 0 else 0)]).length=HB.length+2:=by simp
 have l3:HB++[sn 0 3]++[rI 0 (if (0:Int) < 3 then 3 - 0 else 0)]++[sa an w [] 0]=HB++[sn 0 3,rI ((0:Nat):Int) ((3:Nat):Int),sa an w ((sb x y z).es.take 0) 0]:=by simp
 rw [l1,l2,l3]
 refine ⟨x8 (Ml (i:=1) (by decide)),Ex b1 Tj 3 0 0 none _ rfl fun ρ' a ep=>?_⟩
 rw [b12]
 subst hB
 refine (tW _ _ rfl ?_)
 have hW:=yY x y z
 have q_:=xA ls;have t1:=q_.1;have t2:=q_.2.1;have t3:=q_.2.2
 refine bd (t6 4 rfl (pc (f8 (pc (pc (f8 (io (ti 20 rfl rfl (yK X) (.mk nw (bi (lm 1 rfl rfl (cr (BK (k:=7) (l:=sf ls) rfl (JL _ _ _ _ rfl rfl rfl (f8 (.mk rfl (JL _ _ _ _ rfl rfl rfl (tW _ _ rfl ?_))))))))))))))))))
 rw [t3]
 refine bd (DN (io (ti 21 rfl rfl (Jx X) (.mk (tC X (by kernel_rfl)) (bi (uh 3 (j:=2) rfl rfl rfl (bi (uh 4 (j:=3) rfl rfl rfl (cr ((IV X hW (l:=14) (ep:=ep) rfl rfl t2).to
  (xW (vo 5 rfl rfl (vo 6 rfl rfl ?_)))))))))))))
 refine ev (vm rfl (tW a ep rfl rfl))
end
section
set_option backward.match.sparseCases false
noncomputable def sL (x:Int):Nat:=([39,32,35]:List Nat).getD (x.fmod 3).toNat 0
noncomputable def xB (ls:List Int):List (List Nat):=(([0,0,2,0,2,1,0]:List Int)++sf ls).map fun x=>[sL x]
noncomputable def sY (ls:List Int):List Nat:=sA [] (xB ls)
theorem AJ (x:Int) (H:AH):sT (.str [39,32,35]) (.int (x.fmod 3)) H=some (.str [sL x]):=by
 have a:=iD x (b:=3) (by decide)
 have b:=je x (b:=3) (by decide)
 unfold sL
 generalize x.fmod 3=y at a b ⊢
 have:y=0∨y=1∨y=2:=zO a b
 rcases this with rfl | rfl | rfl <;> rfl
theorem B9 (x:Int):tT (sL x)=true:=by
 have a:=iD x (b:=3) (by decide)
 have b:=je x (b:=3) (by decide)
 unfold sL
 generalize x.fmod 3=y at a b ⊢
 have:y=0∨y=1∨y=2:=zO a b
 rcases this with rfl | rfl | rfl <;> rfl
theorem yq:∀ (l:List Int),sA [] (l.map fun x=>[sL x])=l.map sL
 | []=>rfl
 | [x]=>rfl
 | x::y::r=>by
  refine (?_:[sL x]++[]++sA [] ((y::r).map fun x=>[sL x])=_)
  rw [yq (y::r)]
  rfl
theorem Bq (ls:List Int):sY ls=(([0,0,2,0,2,1,0]:List Int)++sf ls).map sL:=yq _
theorem Ey (ls:List Int):∀ y∈sY ls,tT y=true:=by
 rw [Bq]
 intro y hy
 obtain ⟨x,_,rfl⟩:=aE.mp hy
 exact B9 x
theorem xe (ls:List Int):(sf ls).length≤8:=by unfold sf;rw [dO];exact eY _ _
theorem As (ls:List Int):(sY ls).length≤15:=by
 rw [Bq,aM,aI]
 have:=xe ls
 simp only [aS,cS]
 exact cx this _
theorem Jz (ls:List Int):th (xB ls)+(xB ls).length * ([]:List Nat).length≤1000000:=by
 have h:∀ l:List Int,th (l.map fun x=>[sL x])=l.length:=by
  intro l
  induction l with
  | nil=>rfl
  | cons x r ih =>
   have:th ((x::r).map fun x=>[sL x])=1+th (r.map fun x=>[sL x]):=by simp [th]
   rw [this,ih,aS];exact fH _ _
 unfold xB
 rw [h,aI]
 have:=xe ls
 simp only [aS,cS]
 exact aj (cx this _) (by decide)
section
theorem O3 (X:(KK P).In am):GL am "_law_cut" (.ref 847):=su X (by kernel_rfl)
theorem RX (X:(KK P).In am) {lst:Nat} {ls:List Int} {W:W3} (hW:W.Ok) {T ep:Nat} (hT:T≤3) {bm:List (List Nat)} {ln:List Nat} {B:AH} (hB:B.length=17) (b2:B[2]?=some (.cell (some (.ref 14)))) (b3:B[3]?=some (.cell (some (.int T)))) (b4:B[4]?=some (.cell (some (.ref 16)))) {c5:Option AV} (b5:B[5]?=some (.cell c5))
  (b7:B[7]?=some (.list ((sf ls).map .int))) (RY:B[14]?=some (sa an w W.es ep)) (JA:B[16]?=some (.list (rQ bm))) (hw:∀ x∈bm,(∀ y∈x,tT y=true)∧x.length≤T) (xv:bm.Nodup) (h1:1≤bm.length) (h7:bm.length≤7) :
  ST an w am (d+3) wM (uK lst (some (.ref 7)) (some (.str ln)) (some (.ref 15)) none none none none none none none none) B (fun be=>aG ([nb rZ 6,nb rZ 7,nb rZ 8]) be)
   (fun f ρ' H'=>f=.next∧ρ'=uK lst (some (.ref 7)) (some (.str ln)) (some (.ref 15)) (some (.str (sY ls))) (some (.ref 19)) (some (.ref 20)) (some (.ref 21)) none none none none ∧
    H'=(B++[.list (rQ (xB ls)),rY (bm.map (ae W T)),rY (sc (bm.map (ae W T))),.list (uD (tR bm (sY ls).length (sY ls) []).1),.list (uD (tR bm (sY ls).length (sY ls) []).2.2)]).set 5 (.cell (some (.str (tR bm (sY ls).length (sY ls) []).2.1)))):=by
 have O2:=xe ls
 refine bd ?_
 refine yx (i:=8) (hs:=?hs) ?hx ?hn ?_
 case hs=>(intro _;rfl)
 case hx=>rfl
 case hn=>(decide +kernel)
 refine uu ?_
 refine pu (l:=[]) rfl (i12 "str.join" E2 ?_)
 refine bi ?_
 refine uP (as:=(([0,0,2,0,2,1,0]:List Int)++sf ls).map .int) [".0","x"] [.loc,.loc] (fun v=>[.loc none,.loc (some v)]) (fun _=>true)
  (fun v=>match v with | .int x=>.str [sL x] | v=>v) (rO.of (by kernel_rfl) trivial) ?_ ?_ ?_ ?_ ?_ ?_ ?_
 ·refine uc (sB ?_)
  iterate 7 refine bi (f8 ?_)
  refine cr ⟨by simp,?_⟩
  refine lm 1 rfl rfl (wR (xs:=[.int 0,.int 0,.int 2,.int 0,.int 2,.int 1,.int 0]) (by simp) (bv b7) (by simp only [aS,cS,aM];exact aj (cx O2 _) (by decide)) ?_)
  rw [ak]
  refine x9 (t9 ?_ rfl)
  rw [dF,← ak,aK (by simp)]
  simp
 ·rw [aM,aI];simp only [aS,cS];exact aj (cx O2 _) (by decide)
 ·rintro v hv G sZ (rfl | ⟨b,rfl⟩)
  ·exact vo 1 rfl rfl ⟨rfl,rfl⟩
  ·exact vo 1 rfl rfl ⟨rfl,rfl⟩
 ·intro v hv G
  exact tl ⟨rfl,rfl⟩
 ·intro v hv _ G
  obtain ⟨x,hx,rfl⟩:=aE.mp hv
  exact rR (pu (l:=[39,32,35]) rfl (pc (lm 1 rfl rfl (f8 (.mk rfl (.mk _ (AJ x _) ⟨rfl,rfl⟩))))))
 ·intro v hv _
  obtain ⟨x,hx,rfl⟩:=aE.mp hv
  rfl
 have eF:((([0,0,2,0,2,1,0]:List Int)++sf ls).map AV.int |>.filter fun _=>true).map (fun v=>match v with | AV.int x=>AV.str [sL x] | v=>v)=rQ (xB ls):=by
  rw [gM.mpr (fun _ _=>rfl),aX]
  unfold rQ xB
  rw [aX]
  rfl
 rw [eF]
 refine cr ((E3 (k:=B.length) (l:=xB ls) (by simp) (Jz ls) ?_))
 refine (tW _ _ rfl ?_)
 refine (?_:ST an w am (d+3) wM (uK lst (some (.ref 7)) (some (.str ln)) (some (.ref 15)) (some (.str (sY ls))) none none none none none none none) (B++[.list (rQ (xB ls))]) _ _)
 refine bd (t6 9 rfl (io (ti 23 rfl rfl (Bj X) (.mk nw (bi ?_)))))
 refine uP (as:=rQ bm) [".0","word","_law_weight","turns","weights"] [.loc,.loc,.rc,.sG 4 3,.sG 3 2] (fun v=>[.loc none,.loc (some v),.rc,.sG 3,.sG 2]) (fun _=>true)
   (fun v=>match v with | .str c=>pv (ae W T c) | v=>v) (rO.of (by kernel_rfl) (sS rfl rfl trivial)) ?_ ?_ ?_ ?_ ?_ ?_ ?_
 ·exact uh 7 (j:=4) rfl rfl (bv b4) (t9 (bv JA) rfl)
 ·simp [rQ];exact lR 999993 h7
 ·rintro v hv G sZ (rfl | ⟨b,rfl⟩)
  ·exact vo 1 rfl rfl ⟨rfl,rfl⟩
  ·exact vo 1 rfl rfl ⟨rfl,rfl⟩
 ·intro v hv G
  exact tl ⟨rfl,rfl⟩
 ·intro v hv _ G
  obtain ⟨x,hx,rfl⟩:=aE.mp hv
  obtain ⟨q1,q2⟩:=hw x hx
  exact B4 X hW (bv (bv RY)) (bv (bv b2)) (bv (bv b3)) q1 q2 hT ⟨rfl,rfl⟩
 ·intro v hv _
  obtain ⟨x,hx,rfl⟩:=aE.mp hv
  rfl
 have eF2:((rQ bm).filter fun _=>true).map (fun v=>match v with | AV.str c=>pv (ae W T c) | v=>v)=(bm.map (ae W T)).map pv:=by
  rw [gM.mpr (fun _ _=>rfl)]
  unfold rQ
  rw [aX,aX]
  rfl
 rw [eF2]
 have Vv : ((bm.map (ae W T)).map (·.2)).Nodup:=by
  rw [aX]
  have:((fun x:HP=>x.2) ∘ ae W T)=id:=rfl
  rw [this,dW]
  exact xv
 refine cr (C6 (k:=(B++[AO.list (rQ (xB ls))]).length) (xs:=bm.map (ae W T)) (by simp [rY]) Vv (by rw [aM];exact h1) (by rw [aM];exact lR 56 (lU 1 h7)) ?_)
 refine (tW _ _ rfl ?_)
 have hBB:(B++[AO.list (rQ (xB ls))]++[AO.list ((bm.map (ae W T)).map pv)]++[rY (sc (bm.map (ae W T)))]).length=20:=by simp [hB]
 refine bd (DN (io (ti 24 rfl rfl (O3 X) (.mk (tC X (by kernel_rfl)) (bi (lm 8 rfl rfl (bi (uh 7 (j:=4) rfl rfl (bv (bv (bv b4))) (cr ((N7 (d:=d+1) X (k:=16) (t:=sY ls) (bm:=bm) (bv (bv (bv JA))) (lR 993 h7) (by have:=As ls;exact lR 985 this) (fun x hx=>by have:=(hw x hx).2;exact lR 997 (lT this hT))).to ?_))))))))))
 rw [hBB]
 generalize hL:(tR bm (sY ls).length (sY ls) [])=cu
 obtain ⟨pl,lf,fi⟩:=cu
 generalize hC:B++[AO.list (rQ (xB ls))]++[AO.list ((bm.map (ae W T)).map pv)]++[rY (sc (bm.map (ae W T)))]++[AO.list (uD pl),.list (uD fi)]=C
 have Tb : C[5]?=some (.cell c5):=by rw [← hC];exact bv (bv (bv (bv b5)))
 have e19:(B++[AO.list (rQ (xB ls))]++[AO.list ((bm.map (ae W T)).map pv)]).length=19:=by simp [hB]
 rw [e19]
 refine KU (wQ (i:=10) (ρ':=uK lst (some (.ref 7)) (some (.str ln)) (some (.ref 15)) (some (.str (sY ls))) (some (.ref 19)) (some (.ref 20)) none none none none none) (H':=C) rfl (by decide +kernel) rfl ?_)
 refine wQ (i:=11) (ρ':=uK lst (some (.ref 7)) (some (.str ln)) (some (.ref 15)) (some (.str (sY ls))) (some (.ref 19)) (some (.ref 20)) none none none none none) (H':=C.set 5 (.cell (some (.str lf)))) rfl (by decide +kernel) ?_ ?_
 ·show (match C[5]? with
   | some (.cell _)=>some (_,C.set 5 (.cell (some (.str lf))))
   | _=>none)=_
  rw [Tb]
 refine wQ (i:=12) (ρ':=uK lst (some (.ref 7)) (some (.str ln)) (some (.ref 15)) (some (.str (sY ls))) (some (.ref 19)) (some (.ref 20)) (some (.ref 21)) none none none none) (H':=C.set 5 (.cell (some (.str lf)))) rfl (by decide +kernel) rfl ?_
 refine ev (sS rfl rfl ?_)
 rw [← hC]
 simp only [rY,ak,qE,gG]
end
end
noncomputable abbrev Vw:List Str:=[".0","place","octet","_law_octets"]
section
theorem GO (X:(KK P).In am):GL am "_law_octets" (.ref 808):=su X (by kernel_rfl)
theorem GP (X:(KK P).In am):GL am "_parse_varint" (.ref 86):=su X (by kernel_rfl)
theorem Mm (X:(KK P).In am):GL am "iter" (.builtin "iter"):=t7 X (by kernel_rfl) (by kernel_rfl)
noncomputable abbrev Vx (a1 a2 a3 a4 a5:Pos) (c:Nat):Expr:=.Call (.Name "_law_octets" a1) [.BinOp (.Name "place" a2) .Add (.Constant (.int 61) c a3) a4] [] a5
noncomputable abbrev Xf (p1:Pos) (a1 a2 a3 a4 a5:Pos) (c:Nat) (q1 q2 r1:Pos) (scope:aO) (pos:Pos) (j:Nat):Env→aa→aa→Code :=
 FP (.Name "octet" p1) (.Name "place" q1) (.Name "places" q2) (.Name "octet" r1) (Vx a1 a2 a3 a4 a5 c) [] scope pos j
theorem RZ {k k2 pi jo c:Nat} {os:List Nat} {HH:AH} {it:AO} {p1 a1 a2 a3 a4 a5 q1 q2 r1:Pos} {scope:aO} {pos:Pos} {R:List ci→AH→Prop}
  (u7:HH.length≤k2) (hk:HH.length≤k) (ha:HH.length≤pi) (n1:k2≠pi) (n2:k2≠k) (n3:k≠pi) (m1:k2≠jo) (m2:pi≠jo):∀ (r i:Nat) (G:AH) (ys:List AV) (o1 o:Option AV),i+r=os.length→ys.length+r≤100000→(HH++G)[k2]?=some (.iter jo i)→(HH++G)[k]?=some it→(HH++G)[jo]?=some (.list (os.map iv))→(HH++G)[pi]?=some (.list ys) →
   (∀ o' G',(HH++G')[k]?=some it→(HH++G')[pi]?=some (.list (ys++(os.drop i).map iv))→R [.loc none,.loc o1,.loc o',.rc] (HH++G')) →
   SL an w am d Vw [.loc none,.loc o1,.loc o,.rc] (HH++G) k2 pi (Xf p1 a1 a2 a3 a4 a5 c q1 q2 r1 scope pos 1) R:=by
 intro r
 induction r with
 | zero =>
  intro i G ys o1 o hj hy h1 h2 h4 h3 rr
  have:i=os.length:=lA (lE hj) (lS hj)
  subst this
  refine xN (tK h1 h4 (fun v e=>?_) (fun _=>?_))
  ·have:=(rK e)
   simp at this
  try dsimp only
  rw [mt u7]
  refine rr _ _ ?_ ?_
  ·rw [← mt u7,ce n2];exact h2
  ·rw [← mt u7,ce n1,h3]
   simp
 | succ r ih =>
  intro i G ys o1 o hj hy h1 h2 h4 h3 rr
  have sj:=(rK h1)
  have va:i < os.length:=nQ hj
  refine xN (tK h1 h4 (fun v e=>?_) (fun e=>?_))
  ·try dsimp only
   have hv:v=iv os[i]:=by
    rw [bu,aQ va] at e
    exact (ay e).symm
   subst hv
   have GZ:os.drop i=os[i]::os.drop (i+1):=ez va
   generalize os[i]=x at GZ
   have vS:=az (a:=AO.iter jo (i+1)) sj
   have Cc : ((HH++G).set k2 (.iter jo (i+1)))[k]?=some it:=by rw [ce n2];exact h2
   have we : ((HH++G).set k2 (.iter jo (i+1)))[pi]?=some (.list ys):=by rw [ce n1];exact h3
   have Vy : ((HH++G).set k2 (.iter jo (i+1)))[jo]?=some (.list (os.map iv)):=by rw [ce m1];exact h4
   rw [mt u7] at vS Cc we Vy ⊢
   generalize G.set (k2 - HH.length) (.iter jo (i+1))=G1 at vS Cc we Vy
   refine uy (vo 2 rfl rfl (tl ?_))
   refine tX rfl ?_
   refine lm 2 rfl rfl (sN ys we (lR 900000 (lT lI hy)) ?_)
   have GW:=(rK we)
   have g3:=az (a:=AO.list (ys++[iv x])) GW
   have g1:((HH++G1).set pi (.list (ys++[iv x])))[k2]?=some (.iter jo (i+1)):=by rw [ce (aq n1)];exact vS
   have g2:((HH++G1).set pi (.list (ys++[iv x])))[k]?=some it:=by rw [ce (aq n3)];exact Cc
   have g4:((HH++G1).set pi (.list (ys++[iv x])))[jo]?=some (.list (os.map iv)):=by rw [ce m2];exact Vy
   rw [mt ha] at g1 g2 g3 g4 ⊢
   refine ih (i+1) _ _ o1 (some (iv x)) (nN hj) (by simp;exact nO hy) g1 g2 g4 g3 (fun o' G' b1 b2=>rr o' G' b1 ?_)
   rw [b2,GZ]
   simp
  ·have:=bM.mp e
   simp at this
   exact absurd (nQ hj) (fm this)
theorem O4 (X:(KK P).In am) {k pi pl c:Nat} {lc:List Nat} {HH:AH} {p1 a1 a2 a3 a4 a5 q1 q2 r1:Pos} {scope:aO} {pos:Pos} {R:List ci→AH→Prop} (hp:HH[pl]?=some (.list (uD lc))) (Cy:∀ x∈lc,x≤6)
  (hk:HH.length≤k) (ha:HH.length≤pi) (n3:k≠pi):∀ (r i:Nat) (G:AH) (ys:List AV) (o1 o:Option AV),i+r=lc.length→ys.length+3 * r≤10000→(HH++G)[k]?=some (.iter pl i)→(HH++G)[pi]?=some (.list ys) →
   (∀ ρ' G',(HH++G')[pi]?=some (.list (ys++(tH (lc.drop i)).map iv))→R ρ' (HH++G')) →
   SL an w am (d+1) Vw [.loc none,.loc o1,.loc o,.rc] (HH++G) k pi (Xf p1 a1 a2 a3 a4 a5 c q1 q2 r1 scope pos 0) R:=by
 intro r
 induction r with
 | zero =>
  intro i G ys o1 o hi hy h1 h3 rr
  have:i=lc.length:=lA (lE hi) (lS hi)
  subst this
  refine xO (tK h1 (bv hp) (fun v e=>?_) (fun _=>?_))
  ·have:=(rK e)
   simp [uD] at this
  ·try dsimp only
   rw [mt hk]
   refine rr _ _ ?_
   rw [← mt hk,ce n3,h3]
   simp [tH]
 | succ r ih =>
  intro i G ys o1 o hi hy h1 h3 rr
  have sj:=(rK h1)
  have va:i < lc.length:=nQ hi
  refine xO (tK h1 (bv hp) (fun v e=>?_) (fun e=>?_))
  ·have hv:v=.int (lc[i]:Nat):=by
    unfold uD at e
    rw [bu,aQ va] at e
    exact (ay e).symm
   subst hv
   have GZ:lc.drop i=lc[i]::lc.drop (i+1):=ez va
   have Pw:=Cy _ (eL va)
   generalize lc[i]=x at GZ Pw
   try dsimp only
   have vS:=az (a:=AO.iter pl (i+1)) sj
   have we : ((HH++G).set k (.iter pl (i+1)))[pi]?=some (.list ys):=by rw [ce n3];exact h3
   rw [mt hk] at vS we ⊢
   generalize G.set (k - HH.length) (AO.iter pl (i+1))=G1 at vS we
   refine uy (vo 1 rfl rfl ?_)
   refine io (ti 3 rfl rfl (GO X) (.mk (tC X (by kernel_rfl)) (bi (pc (lm 1 rfl rfl (f8 (.mk rfl (cr ?_))))))))
   have e61:((x:Nat):Int)+61=((x+61:Nat):Int):=rfl
   rw [e61]
   refine (FS X (n:=x+61) (lR 89933 (lU 61 Pw))).mono ?_
   rintro v H' ⟨jo,G2,rfl,rfl,SY,Vz⟩
   have wo:=(rK Vz)
   have vA:k < (HH++G1).length:=(rK vS)
   have Xg:pi < (HH++G1).length:=(rK we)
   refine vX Vz ?_
   have f1:(HH++G1++G2++[.iter jo 0])[(HH++G1++G2).length]?=some (.iter jo 0):=by simp
   have f2:(HH++G1++G2++[.iter jo 0])[k]?=some (.iter pl (i+1)):=bv (bv vS)
   have f3:(HH++G1++G2++[.iter jo 0])[pi]?=some (.list ys):=bv (bv we)
   have f4:(HH++G1++G2++[.iter jo 0])[jo]?=some (.list ((sU (x+61)).map iv)):=bv Vz
   have Hh:(sU (x+61)).length≤2:=by
    have:∀ x≤6,(sU (x+61)).length≤2:=by decide
    exact this x Pw
   refine ⟨wV f1,?_⟩
   have mo:(HH++G1).length≤(HH++G1++G2).length:=by simp
   have Xh:HH.length≤(HH++G1).length:=by simp
   generalize (HH++G1++G2).length=k2 at f1 mo wo ⊢
   have eG:HH++G1++G2++[AO.iter jo 0]=HH++(G1++G2++[.iter jo 0]):=by simp only [ak]
   rw [eG] at f1 f2 f3 f4 ⊢
   generalize G1++G2++[AO.iter jo 0]=G3 at f1 f2 f3 f4
   refine RZ (os:=sU (x+61)) (lD 2 (lR 2 (lT (lU 2 ha) (lT (lU 1 Xg) (lT (lU 1 SY) wo))))) hk ha (by lia) (by lia) n3 (lH wo) (lL (lT Xg SY)) (sU (x+61)).length 0 G3 ys (some (.int x)) o (nA _) (aj (fu (mT hy) Hh) (by decide)) f1 f2 f4 f3 (fun o' G4 b1 b2=>?_)
   rw [fh] at b2
   refine ih (i+1) G4 _ (some (.int x)) o' (nN hi) (by rw [aI,aM];exact TB hy Hh) b1 b2 (fun ρ' G' b3=>rr ρ' G' ?_)
   rw [b3,GZ]
   simp [tH]
  ·have:=bM.mp e
   simp [uD] at this
   exact absurd (nQ hi) (fm this)
end
noncomputable abbrev Xi:List Str:=[".0","place","_parse_varint","octets","words"]
section
noncomputable abbrev R0 (a1 a2 a3 a4 a5 a6 a7:Pos) (c:Nat):Expr:=.Subscript (.Name "words" a1) (.BinOp (.Call (.Name "_parse_varint" a2) [.Name "octets" a3] [] a4) .Sub (.Constant (.int 61) c a5) a6) a7
theorem GQ (X:(KK P).In am) {k pi pl oi ol wi b co cw c:Nat} {lc os:List Nat} {bm:List (List Nat)} {BB:Nat→AH} {a1 a2 a3 a4 a5 a6 a7 q1:Pos} {iter:Expr} {scope:aO} {pos:Pos} {R:List ci→AH→Prop}
  (hb:∀ p,(BB p).length=b) (e1:∀ p,(BB p)[oi]?=some (.iter ol p)) (e2:∀ p,(BB p)[ol]?=some (.list (os.map iv))) (e3:∀ p q,(BB p).set oi (.iter ol q)=BB q) (e4:∀ p,(BB p)[co]?=some (.cell (some (.ref oi)))) (e5:∀ p,(BB p)[cw]?=some (.cell (some (.ref wi))))
  (e6:∀ p,(BB p)[wi]?=some (.list (rQ bm))) (e7:∀ p,(BB p)[pl]?=some (.list (uD lc))) (Cy:∀ x∈lc,x≤6∧x < bm.length) (K7:bm.length≤7)
  (hk:b≤k) (ha:b≤pi) (n3:k≠pi):∀ (r i p:Nat) (G:AH) (ys:List AV) (o1:Option AV),i+r=lc.length→ys.length+r≤10000→p≤os.length→os.drop p=tH (lc.drop i)→(BB p++G)[k]?=some (.iter pl i)→(BB p++G)[pi]?=some (.list ys) →
   (∀ ρ' G',(BB os.length++G')[pi]?=some (.list (ys++rQ ((lc.drop i).map fun x=>bm.getD x [])))→R ρ' (BB os.length++G')) →
   SL an w am (d+1) Xi [.loc none,.loc o1,.rc,.sG co,.sG cw] (BB p++G) k pi (FO (R0 a1 a2 a3 a4 a5 a6 a7 c) (.Name "place" q1) iter [] scope pos) R:=by
 intro r
 induction r with
 | zero =>
  intro i p G ys o1 hi hy Xj GZ h1 h3 rr
  have:i=lc.length:=lA (lE hi) (lS hi)
  subst this
  have hp:p=os.length:=by
   have:(os.drop p).length=0:=by rw [GZ,m5];rfl
   rw [gY] at this
   exact ir Xj (jQ this)
  subst hp
  refine uC (tK h1 (bv (e7 _)) (fun v e=>?_) (fun _=>?_))
  ·have:=(rK e)
   simp [uD] at this
  ·try dsimp only
   have Dr : (BB os.length).length≤k:=by rw [hb];exact hk
   rw [mt Dr]
   refine rr _ _ ?_
   rw [← mt Dr,ce n3,h3]
   simp [rQ]
 | succ r ih =>
  intro i p G ys o1 hi hy Xj GZ h1 h3 rr
  have sj:=(rK h1)
  have va:i < lc.length:=nQ hi
  refine uC (tK h1 (bv (e7 _)) (fun v e=>?_) (fun e=>?_))
  ·have hv:v=.int (lc[i]:Nat):=by
    unfold uD at e
    rw [bu,aQ va] at e
    exact (ay e).symm
   subst hv
   have VA:lc.drop i=lc[i]::lc.drop (i+1):=ez va
   obtain ⟨Pw,Tc⟩:=Cy _ (eL va)
   generalize lc[i]=x at VA Pw Tc
   try dsimp only
   have Dr : (BB p).length≤k:=by rw [hb];exact hk
   have AN : ∀ q,(BB q).length≤pi:=fun q=>by rw [hb];exact ha
   have vS:=az (a:=AO.iter pl (i+1)) sj
   have we : ((BB p++G).set k (.iter pl (i+1)))[pi]?=some (.list ys):=by rw [ce n3];exact h3
   rw [mt Dr] at vS we ⊢
   generalize G.set (k - (BB p).length) (AO.iter pl (i+1))=G1 at vS we
   refine uy (vo 1 rfl rfl (tl ?_))
   refine tX rfl ?_
   have O5:os.drop p=sU (x+61)++tH (lc.drop (i+1)):=by rw [GZ,VA];rfl
   obtain ⟨f,bb,hb1,Gn⟩:=GH (n:=x+61) (lU 61 lZ) (lU 60 (lT Tc K7)) O5
   have VB:oi < (BB p).length:=(rK (e1 p))
   refine rR (uh 4 rfl rfl (bv (e5 p)) (pc (io (ti 2 rfl rfl (GP X) (.mk (tC X (by kernel_rfl)) (bi (uh 3 rfl rfl (bv (e4 p)) (cr ((FT X (bv (e1 p)) (bv (e2 p)) hb1 Gn).to ?_)))))))))
   rw [cA _ _ VB,e3]
   generalize hq:p+(sU (x+61)).length=q
   have VC:os.drop q=tH (lc.drop (i+1)):=by rw [← hq,← ip,O5,jv]
   have hqo:q≤os.length:=by
    have:=congrArg eZ O5
    rw [gY,aI] at this
    have h0:1≤(sU (x+61)).length:=by
     have:∀ x≤6,1≤(sU (x+61)).length:=by decide
     exact this x Pw
    exact TC hq this h0
   have sm:∀ (j:Nat) (o:AO),b≤j→(BB p++G1)[j]?=some o→(BB q++G1)[j]?=some o:=fun j o hj e=>by
    rw [aK (by rw [hb];exact hj),hb] at e ⊢
    exact e
   have h1q:=sm _ _ hk vS
   have Xk:=sm _ _ ha we
   have ex:((x+61:Nat):Int) - 61=((x:Nat):Int):=by lia
   have hwx:bm[x]?=some (bm.getD x []):=by
    rw [aQ Tc]
    simp [Tc]
   refine f8 (JL _ _ _ _ rfl rfl rfl (i12 (.str (bm.getD x [])) ?_ (sN ys Xk (lR 990000 (lT lI hy)) ?_)))
   ·rw [ex]
    exact yb (bv (e6 q)) hwx (lR 999993 K7)
   ·have GW:=(rK Xk)
    have g3:=az (a:=AO.list (ys++[.str (bm.getD x [])])) GW
    have g1:((BB q++G1).set pi (.list (ys++[.str (bm.getD x [])])))[k]?=some (.iter pl (i+1)):=by rw [ce (aq n3)];exact h1q
    rw [mt (AN q)] at g1 g3 ⊢
    refine ih (i+1) q _ _ _ (nN hi) (by simp;exact nO hy) hqo VC g1 g3 (fun ρ' G' b3=>rr ρ' G' ?_)
    rw [b3,VA]
    simp [rQ]
  ·have:=bM.mp e
   simp [uD] at this
   exact absurd (nQ hi) (fm this)
end
section
set_option backward.match.sparseCases false
theorem JB:∀ (l:List Nat),(∀ x∈l,x≤6)→(tH l).length≤2 * l.length:=by
 intro v_
 induction v_ with
 | nil =>
  intro _
  exact ar _
 | cons x r sg =>
  intro h
  have h0:∀ x≤6,(sU (x+61)).length≤2:=by decide
  have h1:=h0 x (h x aZ)
  have h2:=sg fun y hy=>h y (ba _ hy)
  have:tH (x::r)=sU (x+61)++tH r:=rfl
  rw [this,aI,aS]
  exact aj (fu h1 h2) (aJ (fH 2 _))
theorem O6 {n:Nat} {l:List Nat}:uL n (l.map iv)=true:=vC fun a ha=>by
 obtain ⟨x,_,rfl⟩:=aE.mp ha
 rfl
section
noncomputable def Av (B:AH) (os:List Nat) (p:Nat):AH:=B.set 6 (.cell (some (.ref 23)))++[.list (os.map iv),.iter 22 p]
theorem zx {B:AH} (hB:B.length=22) (os:List Nat) (p:Nat):(Av B os p).length=24:=by unfold Av;rw [aI,aP,hB];rfl
theorem yr {B:AH} (hB:B.length=22) {os:List Nat} {p j:Nat} {o:AO} (hj:j≠6) (h:B[j]?=some o):(Av B os p)[j]?=some o:=bv (by rw [ce (aq hj)];exact h)
theorem Nd {B:AH} (hB:B.length=22) {os:List Nat} {p:Nat}:(Av B os p)[6]?=some (.cell (some (.ref 23))):=bv (az (lD 15 (lR 15 (lS hB))))
theorem zy {B:AH} (hB:B.length=22) {os:List Nat} {p:Nat} (j:Nat):(Av B os p)[22+j]?=[AO.list (os.map iv),.iter 22 p][j]?:=by
 unfold Av
 rw [aK (by rw [aP];exact lT (lE hB) lI),aP,hB]
 congr 1
 exact nB _ _
theorem FB {B:AH} (hB:B.length=22) {os:List Nat} {p q:Nat}:(Av B os p).set 23 (.iter 22 q)=Av B os q:=by
 unfold Av
 rw [bY _ _ (by rw [aP];exact lR 1 (lE hB)),aP,hB]
 rfl
theorem R2 (X:(KK P).In am) {lst:Nat} {bm:List (List Nat)} {lc:List Nat} {ln tx:List Nat} {B:AH} (hB:B.length=22) (b4:B[4]?=some (.cell (some (.ref 16)))) {c6:Option AV} (b6:B[6]?=some (.cell c6))
  (JA:B[16]?=some (.list (rQ bm))) (Td:B[20]?=some (.list (uD lc))) (Cy:∀ x∈lc,x≤6∧x < bm.length) (K7:bm.length≤7) (hpz:lc.length≤1000) :
  ST an w am (d+2) wM (uK lst (some (.ref 7)) (some (.str ln)) (some (.ref 15)) (some (.str tx)) (some (.ref 19)) (some (.ref 20)) (some (.ref 21)) none none none none) B (fun be=>aG [nb rZ 9,nb rZ 10] be)
   (fun f ρ' H'=>f=.next∧ρ'=uK lst (some (.ref 7)) (some (.str ln)) (some (.ref 15)) (some (.str tx)) (some (.ref 19)) (some (.ref 20)) (some (.ref 21)) (some (.ref 24)) none none none ∧
    H'=Av B (tH lc) (tH lc).length++[.list (rQ (lc.map fun x=>bm.getD x []))]):=by
 have Xl:∀ x∈lc,x≤6:=fun x hx=>(Cy x hx).1
 have Hh:=JB lc Xl
 refine bd ?_
 refine yx (i:=13) (hs:=?hs) ?hx ?hn ?_
 case hs=>(intro _;rfl)
 case hx=>rfl
 case hn=>(decide +kernel)
 refine io (ti 25 rfl rfl (Mm X) (.mk nw ?_))
 refine bi (EX.pick (uZ (nm':=Vw) (sk:=[.loc,.loc,.loc,.rc]) (rO.of (by kernel_rfl) trivial) (c:=FP _ _ _ _ _ _ _ _ 0) rfl rfl ?_))
 refine lm 10 rfl rfl (vX Td ?_)
 have k1:(B++[AO.iter 20 0]++[.list []])[B.length]?=some (.iter 20 0):=bv (by simp)
 have k2:(B++[AO.iter 20 0]++[.list []])[(B++[AO.iter 20 0]).length]?=some (.list []):=by simp
 refine ⟨wV k1,?_⟩
 have l1:(B++[AO.iter 20 0]).length=B.length+1:=by simp
 rw [l1] at k2 ⊢
 rw [ak] at k1 k2 ⊢
 refine O4 X Td Xl (ar _) (lR 1 lO) (lL lO) lc.length 0 _ [] none none (nA _) (by simp only [cS];lia) k1 k2 (fun ρ' G' b3=>?_)
 rw [fh,gG] at b3
 refine (i12 _ rfl (Kp B G' _ rfl (uY.refl B) (lR 1 lO) b3 O6 ?_))
 refine cr (Lm (k:=B.length) (xs:=(tH lc).map iv) (by simp) ?_)
 have l2:(B++[AO.list ((tH lc).map iv)]).length=23:=by simp [hB]
 rw [l2,hB]
 have eo:(B++[AO.list ((tH lc).map iv)]++[AO.iter 22 0]).set 6 (.cell (some (.ref 23)))=Av B (tH lc) 0:=by
  rw [ak,cA _ _ (lD 15 (lR 15 (lS hB)))]
  rfl
 refine (tW (uK lst (some (.ref 7)) (some (.str ln)) (some (.ref 15)) (some (.str tx)) (some (.ref 19)) (some (.ref 20)) (some (.ref 21)) none none none none) (Av B (tH lc) 0) ?_ ?_)
 ·rw [← eo]
  show (match (B++[AO.list ((tH lc).map iv)]++[AO.iter 22 0])[6]? with
   | some (.cell _)=>some (_,(B++[AO.list ((tH lc).map iv)]++[AO.iter 22 0]).set 6 (.cell (some (.ref 23))))
   | _=>none)=_
  rw [bv (bv b6)]
 refine bd ?_
 refine wu (i:=14) (o:=none) (nm':=Xi) (sk:=[.loc,.loc,.rc,.sG 13 6,.sG 7 4]) (c:=FO _ _ _ _ _ _) ?hy ?xv (rO.of ?O7 (sS rfl rfl trivial)) rfl rfl ?hr ?JN ?_
 case hy=>rfl
 case xv=>(decide +kernel)
 case O7=>kernel_rfl
 case hr=>rfl
 case JN=>exact u6 (by decide +kernel) (by decide +kernel)
 refine lm 10 rfl rfl (vX (yr hB (by decide) Td) ?_)
 have lx:=fun p=>zx hB (tH lc) p
 have m1:(Av B (tH lc) 0++[AO.iter 20 0]++[.list []])[(Av B (tH lc) 0).length]?=some (.iter 20 0):=bv (by simp)
 have m2:(Av B (tH lc) 0++[AO.iter 20 0]++[.list []])[(Av B (tH lc) 0++[AO.iter 20 0]).length]?=some (.list []):=by simp
 refine ⟨wV m1,?_⟩
 have l3:(Av B (tH lc) 0++[AO.iter 20 0]).length=25:=by simp [lx]
 rw [l3] at m2 ⊢
 rw [ak] at m1 m2 ⊢
 rw [lx] at m1 ⊢
 refine GQ X (BB:=Av B (tH lc)) (b:=24) (oi:=23) (ol:=22) (wi:=16) (os:=tH lc) lx (fun p=>zy hB 1) (fun p=>zy hB 0) (fun p q=>FB hB) (fun p=>Nd hB) (fun p=>yr hB (by decide) b4) (fun p=>yr hB (by decide) JA) (fun p=>yr hB (by decide) Td) Cy K7 (ar _) (lR 1 lO) (lL lO)
  lc.length 0 0 _ [] none (nA _) (by simp only [cS];lia) lZ rfl m1 m2 (fun ρ' G' Xm=>?_)
 rw [fh,gG] at Xm
 refine (Kp (Av B (tH lc) (tH lc).length) G' _ rfl ?_ (by rw [lx];exact lR 1 lO) Xm yc ?_)
 ·have:=(uY.refl (Av B (tH lc) 0)).set (k:=23) (o:=.iter 22 (tH lc).length) (show 22 < (Av B (tH lc) 0).length by rw [lx];exact lR 1 lO)
  rwa [FB hB] at this
 ·rw [lx]
  exact ev (sS rfl rfl rfl)
end
end
section
variable {H:AH} {R:AV→AH→Prop}
theorem Di {k l i:Nat} {xs:List AV} (hk:H[k]?=some (.iter l i)) (hl:H[l]?=some (.list xs)) (he:xs.length≤i) (r:R (.ref H.length) (H.set k .s9++[.list []])):FN an w am (d+2) (.type "list") H [.ref k] [] R:=by
 intro A L m α s Q E vs hr I V c
 refine V.se fun _ _ b V=>?_
 refine V.t0 ?_
 refine b.sO fun _=>?_
 rename_i sj
 refine (?_:ag _ A (call (.type "list") [.ref (α k)]) Q E s)
 refine callType_codes (Q₁:=fun obj tE=>obj=.ref s.heap.objs.size∧tE={s with heap:=s.heap.push {cls:=.type "list",data:=.seq #[]}}) F.called_list (pU _) pg
  (code_list_new _ ⟨rfl,rfl⟩) fun obj tE rJ=>?_
 obtain ⟨rfl,rfl⟩:=rJ
 have hS:(s.heap.push {cls:=.type "list",data:=.seq #[]}).get? s.heap.objs.size=some {cls:=.type "list",data:=.seq #[]}:=bj _ rfl
 refine (sS (i12 _ hS rfl) (qF _ _) ?_)
 obtain ⟨x1,I1,V1⟩:=I.zS (xs:=[]) (vs:=[]) .nil
 have u9:(H++[AO.list []]).length=H.length+1:=by simp
 rw [u9] at x1
 have eS:put α H.length s.heap.objs.size H.length=s.heap.objs.size:=nn _ _ _
 have eK:put α H.length s.heap.objs.size k=α k:=r8 _ _ (lL sj)
 generalize put α H.length s.heap.objs.size=rS at x1 I1 eS eK
 rw [← eS,← eK]
 rw [← eS] at hS
 refine (?_:ag _ A.in1.in1 (do let old ← jS (.ref (rS H.length));qP (.ref (rS H.length)) (fun _=>#[]);letGo old.toList.reverse;ic (.ref (rS H.length)) (.ref (rS k)) .none) _ _ _)
 have tD:(H++[AO.list []])[H.length]?=some (.list []):=by simp
 have vA:(H++[AO.list []])[k]?=some (.iter l i):=bv hk
 have AM:(H++[AO.list []])[l]?=some (.list xs):=bv hl
 have OE:rS H.length≠rS k:=fun e=>absurd (I1.inj H.length k (by rw [u9];exact lO) (by rw [u9];exact lR 1 sj) e) (lH sj)
 refine ab ?_
 unfold jS
 refine ab (fa hS rfl (ai ?_))
 refine (?_:ag _ _ (iJ (rS H.length) (fun _=>#[]) >>= fun _=>letGo (#[]:Array aa).toList.reverse >>= fun _=>ic (.ref (rS H.length)) (.ref (rS k)) .none) _ _ _)
 obtain ⟨n1,g1,x2,I2⟩:=Ee I1 tD (f:=fun _=>#[]) (us:=[]) (ys:=[]) rfl .nil
 rw [set_same tD] at I2
 rw [u9] at x2
 refine ab (jr g1 rfl ?_)
 refine ab (iH ?_)
 have Ou:=x1.trans x2
 have Ra:rM s {s with heap:=(s.heap.push {cls:=.type "list",data:=.seq #[]}).update (rS H.length) (bo fun _=>#[])}:=⟨rfl,id⟩
 clear hS g1
 generalize UC:({s with heap:=(s.heap.push {cls:=.type "list",data:=.seq #[]}).update (rS H.length) (bo fun _=>#[])}:af)=s2 at Ra ⊢
 have Pn:(s.heap.push {cls:=.type "list",data:=.seq #[]}).update (rS H.length) (bo fun _=>#[])=s2.heap:=by rw [← UC]
 rw [Pn] at I2 Ou
 have T2:=(I2.zQ vA).typeIs
 unfold ic
 refine ab (wpAny_typeOf T2 ?_)
 have h1:jL (.ref (rS H.length)) (.ref (rS k))=false:=by simp [jL,OE]
 rw [if_neg (by rw [h1];decide)]
 refine ab (qV (I2.zQ vA) ?_)
 refine ab (cH ?_)
 unfold qa
 refine ab (iw T2 F.nolen_li ?_)
 refine (?_:ag _ _ (gU (dz (rS k)) "__length_hint__" >>= _) _ _ _)
 refine ab (iw T2 F.hint_li ?_)
 generalize Xn:("list_iterator.__length_hint__" : String)=id0
 wp_delta
 rw [show splitId id0=some ("list_iterator","__length_hint__") from by subst Xn;decide +kernel]
 subst Xn
 refine ab (gx (b:=true) T2 (by rw [gR];kernel_rfl) ?_)
 refine ai ?_
 rw [if_neg (by decide)]
 refine ai ⟨kO gX _,?_⟩
 refine fE og ?_
 rw [iX gX _]
 refine (?_:ag _ A.in1.in1 (cf (.ref (rS k)) >>= _) _ _ s2)
 refine ab ((tK (an:=an) (w:=w) (am:=am) (d:=d) (R:=fun x H'=>x=none∧H'=(H++[AO.list []]).set k .s9) vA AM (fun a e=>absurd (rK e) (lF he)) fun _=>⟨rfl,rfl⟩) A.in1.in1 L m rS s2 _ _ hr.in1.in1 I2 (by rw [u9];exact lR 1 sj) fun x ov sQ H3 s3 r3 x3 I3 VV Z3=>?_)
 obtain ⟨rfl,rfl⟩:=r3
 cases VV
 refine ai ⟨rfl,?_⟩
 have JP:=Ou.trans (by rw [u9] at x3;exact x3)
 rw [cA _ _ sj] at I3 JP
 have e3:rS H.length=sQ H.length:=(x3.al H.length (by rw [u9];exact lO)).symm
 rw [e3]
 refine c (.ref H.length) _ sQ _ s3 r JP I3 (.ref (by simp)) (Ra.trans Z3)
end
section
set_option backward.match.sparseCases false
theorem Dj (X:(KK P).In am):GL am "_law_heaviest" (.ref 825):=su X (by kernel_rfl)
theorem Mn (X:(KK P).In am) {lst:Nat} {W:W3} (hW:W.Ok) {T ep:Nat} (IZ:1≤T) (hT:T≤3) {bm opened:List (List Nat)} {rX:List HP} {o1 o2 o3 o4 o5 o6 o7 o8 o9:Option AV} {C:AH}
  (c2:C[2]?=some (.cell (some (.ref 14)))) (c3:C[3]?=some (.cell (some (.int T)))) (c4:C[4]?=some (.cell (some (.ref 16)))) (Pb:C[14]?=some (sa an w W.es ep)) (Tf:C[15]?=some (.list (rQ opened))) (PA:C[16]?=some (.list (rQ bm))) (PB:C[19]?=some (rY rX))
  (h1:opened=s0 W T) (h2:rX.map (·.2)=bm) (hz:rX.length≤1000) :
  ST an w am (d+3) wM (uK lst o1 o2 (some (.ref 15)) o3 (some (.ref 19)) o4 o5 o6 o7 o8 o9) C (fun be=>exec (nb rZ 11) be)
   (fun f ρ' H'=>f=.next∧ρ'=uK lst o1 o2 (some (.ref 15)) o3 (some (.ref 19)) o4 o5 o6 o7 o8 o9∧∃ G,H'=C++G):=by
 refine m0 (vw (uj (lm 6 rfl rfl (io (ti 26 rfl rfl (Dj X) (.mk (tC X (by kernel_rfl)) (bi (uh 3 (j:=2) rfl rfl c2 (bi (uh 4 (j:=3) rfl rfl c3 (cr ((C9 X hW Pb IZ hT).to ?_))))))))))))
 refine zr (l:=opened) (r:=s0 W T) (bv Tf) (by simp) (i12 _ rfl ?_)
 have e1:(opened != s0 W T)=false:=by rw [h1];simp
 rw [e1];refine so (by decide) ?_
 refine vw (uj ?_)
 refine uP (as:=rX.map pv) [".0","weight","word"] [.loc,.loc,.loc] (fun v=>[.loc none,.loc (tA v),.loc (tB v)]) (fun _=>true)
   (fun v=>match v with | .tup [a,b]=>b | v=>v) (rO.of (by kernel_rfl) trivial) ?_ ?_ ?_ ?_ ?_ ?_ ?_
 ·refine lm 9 rfl rfl (vY (xs:=rX.map pv) (bv PB) rfl (fun a ha=>?_))
  obtain ⟨b,_,rfl⟩:=aE.mp ha
  exact ⟨_,rfl⟩
 ·simp;exact lR 999000 hz
 ·rintro v hv G sZ (rfl | ⟨b,rfl⟩)
  all_goals
   obtain ⟨c,_,rfl⟩:=aE.mp hv
   exact xW (vo 1 rfl rfl (vo 2 rfl rfl ⟨rfl,rfl⟩))
 ·intro v hv G
  exact tl ⟨rfl,rfl⟩
 ·intro v hv _ G
  obtain ⟨b,_,rfl⟩:=aE.mp hv
  exact lm 2 rfl rfl ⟨rfl,rfl⟩
 ·intro v hv _
  obtain ⟨b,_,rfl⟩:=aE.mp hv
  rfl
 have eF:((rX.map pv).filter fun _=>true).map (fun v=>match v with | AV.tup [a,b]=>b | v=>v)=rQ (rX.map (·.2)):=by
  rw [gM.mpr (fun _ _=>rfl),aX]
  unfold rQ
  rw [aX]
  rfl
 rw [eF]
 refine uh 7 (j:=4) rfl rfl (bv (bv c4)) (zr (l:=rX.map (·.2)) (r:=bm) (by simp) (bv (bv PA)) (i12 _ rfl ?_))
 have e2:((rX.map (·.2)) != bm)=false:=by rw [h2];simp
 rw [e2];refine so (by decide) ?_
 refine yw ?_
 refine so (by decide) ?_
 exact ev (sS rfl rfl (Au _ (ak _ _ _)))
theorem Mo (X:(KK P).In am) {lst:Nat} {bm:List (List Nat)} {left:List Nat} {fits:List Nat} {o1 o2 o3 o4 o5 o6 o7 o8 o9 Xo:Option AV} {C:AH}
  (c4:C[4]?=some (.cell (some (.ref 16)))) (c5:C[5]?=some (.cell (some (.str left)))) (PA:C[16]?=some (.list (rQ bm))) (Tg:C[21]?=some (.list (uD fits)))
  (h1:fits=[]) (h2:∃ z∈bm,z.take left.length=left) (hz:bm.length≤1000) (hw:∀ x∈bm,x.length≤1000) (hlz:left.length≤1000) :
  ST an w am d wM (uK lst o1 o2 o3 o4 o5 o6 (some (.ref 21)) o7 o8 o9 Xo) C (fun be=>exec (nb rZ 12) be)
   (fun f ρ' H'=>f=.next∧ρ'=uK lst o1 o2 o3 o4 o5 o6 (some (.ref 21)) o7 o8 o9 Xo∧∃ G,H'=C++G):=by
 subst h1
 refine m0 (vw (uj (lm 12 rfl rfl (sB (cr ⟨by simp,?_⟩)))))
 refine zr (l:=[]) (r:=[]) (bv Tg) (by simp [rQ]) (i12 _ rfl ?_)
 refine so (by decide) ?_
 refine vw (uj ?_)
 refine uP (as:=rQ bm) [".0","word","len","left"] [.loc,.loc,.rc,.sG 11 5] (fun v=>[.loc none,.loc (some v),.rc,.sG 5]) (fun v=>match v with | .str x=>x.take left.length == left | _=>false) id (rO.of (by kernel_rfl) ⟨rfl,trivial⟩) ?_ ?_ ?_ ?_ ?_ ?_ ?_
 ·exact uh 7 (j:=4) rfl rfl (bv c4) (t9 (bv PA) rfl)
 ·simp [rQ];exact lR 999000 hz
 ·rintro v hv G sZ (rfl | ⟨b,rfl⟩)
  ·exact vo 1 rfl rfl ⟨rfl,rfl⟩
  ·exact vo 1 rfl rfl ⟨rfl,rfl⟩
 ·intro v hv G
  obtain ⟨x,hx,rfl⟩:=aE.mp hv
  have IG:=hw x hx
  have Tb : (C++[AO.list []]++G)[5]?=some (.cell (some (.str left))):=bv (bv c5)
  refine EK (dl (wZ (lm 1 rfl rfl (ve (uv ?_)))))
  refine io (ti 2 rfl rfl (ue X) (.mk nw (bi (uh 3 (j:=5) rfl rfl Tb (cr (um (lR 999000 hlz) ?_))))))
  refine (Kp x none (some left.length) rfl (lR 999000 IG) rfl (vH _) (fun u v h=>by exact uH h) ?_)
  exact uh 3 (j:=5) rfl rfl Tb (sN _ rfl rfl rfl)
 ·intro v hv _ G
  exact lm 1 rfl rfl ⟨rfl,rfl⟩
 ·intro v hv _
  obtain ⟨x,hx,rfl⟩:=aE.mp hv
  rfl
 have eF:((rQ bm).filter fun v=>match v with | AV.str x=>x.take left.length == left | _=>false).map id=rQ (bm.filter fun x=>x.take left.length == left):=by
  rw [dW]
  unfold rQ
  rw [mf]
  rfl
 rw [eF]
 refine sB (cr ⟨by simp,?_⟩)
 refine KX (l:=bm.filter fun x=>x.take left.length == left) (r:=[]) (bv (by simp)) (by simp [rQ]) (i12 _ rfl ?_)
 have e2:((bm.filter fun x=>x.take left.length == left) == ([]:List (List Nat)))=false:=by
  obtain ⟨z,hz,e⟩:=h2
  have:z∈bm.filter fun x=>x.take left.length == left:=dE.mpr ⟨hz,by simp [e]⟩
  cases q:bm.filter fun x=>x.take left.length == left with
  | nil=>rw [q] at this;cases this
  | cons a r=>rfl
 rw [e2];refine so (by decide) ?_
 refine yw ?_
 refine so (by decide) ?_
 refine ev (sS rfl rfl (Au ([AO.list []]++([.list (rQ (bm.filter fun x=>x.take left.length == left))]++[.list []])) ?_))
 simp only [ak]
theorem Mp (X:(KK P).In am) {lst:Nat} {told:List (List Nat)} {left tx:List Nat} {os:List Nat} {o1 o2 o3 o4 o5 o6 o7 o8 o9:Option AV} {C:AH}
  (c5:C[5]?=some (.cell (some (.str left)))) (c6:C[6]?=some (.cell (some (.ref 23)))) (Th:C[22]?=some (.list (os.map iv))) (Ti:C[23]?=some (.iter 22 os.length)) (c24:C[24]?=some (.list (rQ told)))
  (h1:sA [] told++left=tx) (hz:th told+told.length * ([]:List Nat).length≤1000000) (htx:tx.length≤1000) :
  ST an w am (d+2) wM (uK lst o1 o2 o3 (some (.str tx)) o4 o5 o6 (some (.ref 24)) o7 o8 o9) C (fun be=>exec (nb rZ 13) be)
   (fun f ρ' H'=>f=.next∧ρ'=uK lst o1 o2 o3 (some (.str tx)) o4 o5 o6 (some (.ref 24)) o7 o8 o9∧∃ G,H'=C.set 23 .s9++G):=by
 refine m0 (vw (dl (uc ?_)))
 refine uu ?_
 refine pu (l:=[]) rfl (i12 "str.join" E2 ?_)
 refine bi (lm 14 rfl rfl (cr (E3 (k:=24) (l:=told) c24 hz ?_)))
 refine uh 11 (j:=5) rfl rfl c5 ((xE (x:=.str tx) (H':=C) ?_).to ?_)
 ·refine (?_:(if (sA [] told).length+left.length≤1000000 then some (AV.str (sA [] told++left),C) else none)=_)
  have:=congrArg eZ h1
  rw [aI] at this
  rw [if_pos (lR 999000 (lT (lE this) htx)),h1]
 refine lm 8 rfl rfl (i12 _ rfl ?_)
 have e1:(tx != tx)=false:=by simp
 rw [e1];refine so (by decide) ?_
 refine vw (uj ?_)
 refine io (ti 27 rfl rfl (Fl X) (.mk sJ (bi (uh 13 (j:=6) rfl rfl c6 (cr (Di (k:=23) Ti Th (by simp) ?_))))))
 refine sB (cr ⟨by simp,?_⟩)
 refine zr (l:=[]) (r:=[]) (bv (by rw [aK (by simp)];simp [rQ])) (by simp [rQ]) (i12 _ rfl ?_)
 refine so (by decide) ?_
 refine yw ?_
 refine so (by decide) ?_
 exact ev (sS rfl rfl (Au _ (ak _ _ _)))
end
section
set_option backward.match.sparseCases false
noncomputable def pr (row:List HP):Int:=ul (row.map fun a=>-a.1 * a.2.length)
noncomputable abbrev Xp:List Str:=[".0","row","sum"]
section
theorem JC (X:(KK P).In am):GL am "_law_other" (.ref 830):=su X (by kernel_rfl)
theorem Mq (X:(KK P).In am):GL am "_law_most" (.ref 835):=su X (by kernel_rfl)
theorem JD (X:(KK P).In am) {k:Nat} {row:List HP} {H:AH} (hk:H[k]?=some (rY row)) (hz:row.length≤1000) (hs:∀ a∈row,small (-a.1)=true∧a.2.length≤1000) :
  EX an w am d Xp [.loc none,.loc (some (.ref k)),.rc] H (fun be=>eval (Ub (rE (nb rZ 15))) be) (fun v H'=>v=.int (pr row)∧H'=H):=by
 refine EX.drop (io (ti 2 rfl rfl (yK X) (.mk nw (bi ?_))))
 refine uP (as:=row.map pv) [".0","weight","word","len"] [.loc,.loc,.loc,.rc] (fun v=>[.loc none,.loc (tA v),.loc (tB v),.rc]) (fun _=>true)
   (fun v=>match v with | .tup [.int a,.str x]=>.int (-a * x.length) | v=>v) (rO.of (by kernel_rfl) trivial) ?_ ?_ ?_ ?_ ?_ ?_ ?_
 ·refine lm 1 rfl rfl (vY (xs:=row.map pv) hk rfl (fun a ha=>?_))
  obtain ⟨b,_,rfl⟩:=aE.mp ha
  exact ⟨_,rfl⟩
 ·simp;exact lR 999000 hz
 ·rintro v hv G sZ (rfl | ⟨b,rfl⟩)
  all_goals
   obtain ⟨c,_,rfl⟩:=aE.mp hv
   exact xW (vo 1 rfl rfl (vo 2 rfl rfl ⟨rfl,rfl⟩))
 ·intro v hv G
  exact tl ⟨rfl,rfl⟩
 ·intro v hv _ G
  obtain ⟨b,hb,rfl⟩:=aE.mp hv
  obtain ⟨s1,s2⟩:=hs b hb
  obtain ⟨a,x⟩:=b
  simp only at s1 s2
  have sx:small (x.length:Int)=true:=by
   unfold small
   rw [decide_eq_true_eq]
   have e1:((x.length:Int)).natAbs=x.length:=rfl
   have e2:(1000:Nat) < 2 ^ 900:=by decide +kernel
   rw [e1]
   exact bN s2 (by decide +kernel)
  have eb:sH .Mult (.int (-a)) (.int x.length) (H++G)=some (.int (-a * x.length),H++G):=by
   refine (?_:(if small (-a) && small (x.length:Int) then some (AV.int (-a * x.length),H++G) else none)=_)
   rw [s1,sx]
   rfl
  exact pc (vt (lm 1 rfl rfl (yF (io (ti 3 rfl rfl (ue X) (.mk nw (bi (lm 2 rfl rfl (cr (um (l:=x) (lR 999000 s2) (PU _ _ _ _ rfl rfl eb rfl rfl)))))))))))
 ·intro v hv _
  obtain ⟨b,_,rfl⟩:=aE.mp hv
  rfl
 have eF:((row.map pv).filter fun _=>true).map (fun v=>match v with | AV.tup [.int a,.str x]=>AV.int (-a * x.length) | v=>v)=(row.map fun a=>-a.1 * (a.2.length:Int)).map .int:=by
  rw [gM.mpr (fun _ _=>rfl),aX,aX]
  rfl
 rw [eF]
 refine cr (BK (k:=H.length) (l:=row.map fun a=>-a.1 * (a.2.length:Int)) (by simp) ?_)
 exact (Kn H _ rfl (uY.refl H) rfl rfl rfl)
theorem R3 (X:(KK P).In am) {lst:Nat} {ls:List Int} {W:W3} (hW:W.Ok) {T ep:Nat} (IZ:1≤T) (hT:T≤3) {rX gv:List HP} {g0:HP} {gr:List HP} {lt:Int} {o2 o3 o4 o5 o6 o7 o8:Option AV} {D:AH} (hD:25≤D.length) {ot:AO} (c0:D[0]?=some ot)
  (c2:D[2]?=some (.cell (some (.ref 14)))) (c3:D[3]?=some (.cell (some (.int T)))) (c7:D[7]?=some (.list ((sf ls).map .int))) (Pb:D[14]?=some (sa an w W.es ep)) (PB:D[19]?=some (rY rX))
  (hg:uE (2 * T+1) (dI W T (ld W T (sf ls) T).1)=gv) (tO:((ld W T (sf ls) T).2.headD (0,[])).1=lt) (MQ:gv=g0::gr) (hoz:rX.length≤1000) (Xq:gv.length≤1000)
  (hos:∀ a∈rX,small (-a.1)=true∧a.2.length≤1000) (hgs:∀ a∈gv,small (-a.1)=true∧a.2.length≤1000) (h1:(sI W T).getD T 0=pr rX) (h2:pr gv≤pr rX) (h3:((pr gv == pr rX) == decide (-g0.1≤lt))=true) :
  ST an w am (d+5) wM (uK lst (some (.ref 7)) o2 o3 o4 (some (.ref 19)) o5 o6 o7 none none none) D (fun be=>aG [nb rZ 14,nb rZ 15,nb rZ 16,nb rZ 17] be) (fun f ρ' H'=>f=.ret (.bool true)∧H'[0]?=some ot):=by
 have O2:=xe ls
 refine bd (DN (io (ti 28 rfl rfl (JC X) (.mk (tC X (by kernel_rfl)) (bi (lm 1 rfl rfl (bi (uh 3 (j:=2) rfl rfl c2 (bi (uh 4 (j:=3) rfl rfl c3 (cr ((Js X hW c7 (lR 992 O2) Pb IZ hT).to ?_))))))))))))
 rw [hg,tO]
 refine xW (vo 15 rfl rfl (vo 16 rfl rfl ?_))
 refine (?_:ST an w am (d+5) wM (uK lst (some (.ref 7)) o2 o3 o4 (some (.ref 19)) o5 o6 o7 (some (.ref D.length)) (some (.int lt)) none) (D++[rY gv]) _ _)
 have l1:(D++[rY gv]).length=D.length+1:=by simp
 have a19:(D++[rY gv])[19]?=some (rY rX):=bv PB
 have aN:(D++[rY gv])[D.length]?=some (rY gv):=by simp
 refine bd ?_
 refine By (i:=17) (as:=[.ref 19,.ref D.length]) (ov:=none) Xp [.loc,.loc,.rc] (fun v=>[.loc none,.loc (some v),.rc]) (fun _=>true) (fun v=>match v with | .ref k=>if k=19 then .int (pr rX) else .int (pr gv) | v=>v) ?hy ?xv ?hr ?JN (rO.of ?O7 trivial) ?_ ?_ ?_ ?_ ?_ ?_ ?_
 case hy=>rfl
 case xv=>(decide +kernel)
 case O7=>kernel_rfl
 case hr=>rfl
 case JN=>exact u6 (by decide +kernel) (by decide +kernel)
 ·refine sB (bi (lm 9 rfl rfl (bi (lm 15 rfl rfl (cr ⟨by simp,x9 (t9 (xs:=[.ref 19,.ref D.length]) (by simp) rfl)⟩)))))
 ·simp
 ·rintro v hv G sZ (rfl | ⟨b,rfl⟩)
  ·exact vo 1 rfl rfl ⟨rfl,rfl⟩
  ·exact vo 1 rfl rfl ⟨rfl,rfl⟩
 ·intro v hv G
  exact tl ⟨rfl,rfl⟩
 ·intro v hv _ G
  simp only [aA,bH,or_false] at hv
  rcases hv with rfl | rfl
  ·exact JD X (bv a19) hoz hos
  ·have:D.length≠19:=lH (lD 5 (lR 5 hD))
   simp only [this,if_false]
   exact JD X (bv aN) Xq hgs
 ·intro v hv _
  simp only [aA,bH,or_false] at hv
  rcases hv with rfl | rfl
  ·rfl
  ·have:D.length≠19:=lH (lD 5 (lR 5 hD))
   simp only [this,if_false]
   rfl
 have eF:(([AV.ref 19,.ref D.length]).filter fun _=>true).map (fun v=>match v with | AV.ref k=>if k=19 then AV.int (pr rX) else .int (pr gv) | v=>v)=[.int (pr rX),.int (pr gv)]:=by
  have:D.length≠19:=lH (lD 5 (lR 5 hD))
  simp [this]
 rw [eF,l1]
 refine (?_:ST an w am (d+5) wM (uK lst (some (.ref 7)) o2 o3 o4 (some (.ref 19)) o5 o6 o7 (some (.ref D.length)) (some (.int lt)) (some (.ref (D.length+1)))) (D++[rY gv]++[.list [.int (pr rX),.int (pr gv)]]) _ _)
 have bS:(D++[rY gv]++[.list [.int (pr rX),.int (pr gv)]])[D.length+1]?=some (.list [.int (pr rX),.int (pr gv)]):=by rw [← l1];simp
 have b0:sT (.ref (D.length+1)) (.int 0) (D++[rY gv]++[.list [.int (pr rX),.int (pr gv)]])=some (.int (pr rX)):=by rw [xK bS];rfl
 have b1:sT (.ref (D.length+1)) (.int 1) (D++[rY gv]++[.list [.int (pr rX),.int (pr gv)]])=some (.int (pr gv)):=by rw [xK bS];rfl
 have bg:sT (.ref D.length) (.int 0) (D++[rY gv]++[.list [.int (pr rX),.int (pr gv)]])=some (pv g0):=by
  have:(D++[rY gv]++[AO.list [.int (pr rX),.int (pr gv)]])[D.length]?=some (rY gv):=bv aN
  rw [MQ] at this ⊢
  unfold rY at this ⊢
  rw [xK this]
  refine (?_:(idx ((0:Nat):Int) _).bind _=_)
  rw [vZ (by simp) (by rw [aM,← MQ];exact lR 999000 Xq)]
  rfl
 have bl:(D++[rY gv]++[AO.list [.int (pr rX),.int (pr gv)]])[2]?=some (.cell (some (.ref 14))):=bv (bv c2)
 have bt:(D++[rY gv]++[AO.list [.int (pr rX),.int (pr gv)]])[3]?=some (.cell (some (.int T))):=bv (bv c3)
 have bw:(D++[rY gv]++[AO.list [.int (pr rX),.int (pr gv)]])[14]?=some (sa an w W.es ep):=bv (bv Pb)
 have bz:(D++[rY gv]++[AO.list [.int (pr rX),.int (pr gv)]])[0]?=some ot:=bv (bv c0)
 generalize D++[rY gv]++[AO.list [.int (pr rX),.int (pr gv)]]=F at b0 b1 bg bl bt bw bz ⊢
 refine bd (m0 (vw (dl (rR (lm 17 rfl rfl (f8 (.mk _ b0 ?_)))))))
 refine io (ti 29 rfl rfl (Mq X) (.mk (tC X (by kernel_rfl)) (bi (uh 3 (j:=2) rfl rfl bl (bi (uh 4 (j:=3) rfl rfl bt (cr ((Mh X hW bw hT).to ?_))))))))
 refine (i12 _ rfl ?_)
 have e1:(pr rX != (sI W T).getD T 0)=false:=by rw [h1];simp
 rw [e1];refine so (by decide) ?_
 refine vw (dl (rR (lm 17 rfl rfl (f8 (.mk _ b1 (rR (lm 17 rfl rfl (f8 (.mk _ b0 (.mk _ rfl ?_))))))))))
 have e2:(decide (pr rX < pr gv))=false:=by simp;lia
 rw [e2];refine so (by decide) ?_
 refine yw ?_
 refine so (by decide) ?_
 refine ev ?_
 refine bd (sF (Dv (Dv (rR (lm 17 rfl rfl (f8 (.mk _ b1 (rR (lm 17 rfl rfl (f8 (.mk _ b0 ((Bu (op:=.Eq) (a:=.int (pr gv)) (b:=.int (pr rX)) (c:=pr gv == pr rX) rfl).to ?_))))))))))))
 refine Dv (vt (rR (rR (lm 15 rfl rfl (f8 (.mk _ bg (f8 (i12 (.int g0.1) rfl (yF (lm 16 rfl rfl ((Bu (op:=.LtE) (a:=.int (-g0.1)) (b:=.int lt) (c:=decide (-g0.1≤lt)) rfl).to ?_)))))))))))
 refine Ga ?_
 rw [h3]
 exact ⟨rfl,bz⟩
end
end
theorem Dk (sep:List Nat):∀ (l:List (List Nat)),(sA sep l).length≤th l+l.length * sep.length
 | []=>bK _
 | [x]=>by simp [E1,th]
 | x::y::r=>by
  have ih:=Dk sep (y::r)
  have e:sA sep (x::y::r)=x++sep++sA sep (y::r):=rfl
  have e2:th (x::y::r)=x.length+th (y::r):=by simp [th]
  rw [e,e2,aI,aI]
  have:(x::y::r).length * sep.length=sep.length+(y::r).length * sep.length:=by
   rw [aS,Nat.add_mul];lia
  rw [this]
  lia
theorem Dl (sep:List Nat) (p:Nat→Prop) (hs:∀ c∈sep,p c):∀ (l:List (List Nat)),(∀ x∈l,∀ c∈x,p c)→∀ c∈sA sep l,p c
 | [],_,c,h=>by cases h
 | [x],hl,c,h=>hl x aZ c h
 | x::y::r,hl,c,h=>by
  have e:sA sep (x::y::r)=x++sep++sA sep (y::r):=rfl
  rw [e] at h
  rcases bV.mp h with h | h
  ·rcases bV.mp h with h | h
   ·exact hl x aZ c h
   ·exact hs c h
  ·exact Dl sep p hs (y::r) (fun z hz=>hl z (ba _ hz)) c h
theorem GR {x:List Nat} (hx:∀ y∈x,tT y=true):∀ c∈pt x,c≠10:=by
 have h0:∀ y,tT y=true→y≠10:=fun y h e=>by subst e;revert h;decide
 intro c hc
 unfold pt at hc
 split at hc
 ·simp at hc;exact lH (lD 28 (lR 28 (lS hc)))
 ·simp only [qE,aA,bV,iB,bH,or_false] at hc
  rcases hc with rfl | ⟨a,ha,hc⟩ | rfl
  ·decide
  ·split at hc
   ·simp at hc;lia
   ·simp at hc;subst hc;exact h0 _ (hx _ ha)
  ·decide
theorem Mr {ws:List (List Nat)} (hw:∀ x∈ws,(∀ y∈x,tT y=true)∧x.length≤3) (hl:ws.length≤7):(sA [32] (ws.map pt)).length≤900∧∀ c∈sA [32] (ws.map pt),c≠10:=by
 constructor
 ·have h1:=Dk [32] (ws.map pt)
  have h2:=Bg ws fun x hx=>(hw x hx).2
  have e:th (ws.map pt)=(ws.map fun x=>(pt x).length).sum:=by unfold th;rw [aX];rfl
  rw [e,aM] at h1
  simp only [aS,cS] at h1
  exact aj h1 (aj (fu (aj h2 (cy 17 hl)) (Nat.mul_le_mul_right 1 hl)) (by decide))
 ·refine Dl [32] (·≠10) (by simp) _ fun x hx=>?_
  obtain ⟨z,hz,rfl⟩:=aE.mp hx
  exact GR (hw z hz).1
theorem Ez {l:List (List Nat)} (h:l.Pairwise (fun x y=>¬ x <+: y∧¬ y <+: x)):l.Nodup:=nu.imp (fun {a b} h=>fun (e:a=b)=>h.1 (by rw [e];exact il _)) h
theorem Br:∀ l:List (List Nat),sA [] l=l.flatten
 | []=>rfl
 | [x]=>by simp [E1]
 | x::y::r=>by
  have e:sA [] (x::y::r)=x++[]++sA [] (y::r):=rfl
  rw [e,Br (y::r)]
  simp
theorem At {W:W3} (hW:W.Ok) {T:Nat} (hT:T≤3) {a:HP} (h:a=ae W T a.2) (hl:a.2.length≤T):small (-a.1)=true∧a.2.length≤1000:=by
 obtain ⟨w1,w2⟩:=HA hW hl
 have e0:a.1 = -(sM W T a.2):=congrArg (·.1) h
 have e:-a.1=sM W T a.2:=(congrArg Neg.neg e0).trans (Int.neg_neg _)
 exact ⟨by rw [e];exact xV w1 w2 (lR 5 hT),lR 997 (lT hl hT)⟩
theorem yt {W:W3} {T:Nat} {row:List HP} (h:∀ a∈row,a=ae W T a.2):pr row=wK W T (row.map (·.2)):=by
 unfold pr wK
 rw [Mb,aX]
 congr 1
 refine gN fun a ha=>?_
 have e0:a.1 = -(sM W T a.2):=congrArg (·.1) (h a ha)
 have e:-a.1=sM W T a.2:=(congrArg Neg.neg e0).trans (Int.neg_neg _)
 refine (?_:-a.1 * (a.2.length:Int)=sM W T a.2 * (a.2.length:Int))
 rw [e]
theorem FD {a m:HP} (h:tz a m=false):m.1≤a.1:=by
 have:¬ a.1 < m.1:=fun q=>by
  unfold tz at h
  simp [q] at h
 exact mZ this
section
variable {W:W3} (hW:W.Ok) {T:Nat} (IZ:1≤T) (hT:T≤3) (few:List Int)
include hW IZ hT
theorem GS:(sI W T).getD T 0=pr (sc ((sr W T).map (ae W T)))∧pr (sc ((sr W T).map (ae W T)))=t8 W T (s0 W T):=by
 have e:pr (sc ((sr W T).map (ae W T)))=t8 W T (s0 W T):=by
  rw [yt wL,uW (((rU _).map (·.2))),aX]
  have e1:(sr W T).map ((fun x:HP=>x.2) ∘ ae W T)=sr W T:=by
   have:((fun x:HP=>x.2) ∘ ae W T)=id:=rfl
   rw [this,dW]
  rw [e1]
  unfold sr
  rw [uW ((vL (rs W T T).2.1.symm).map (·.2)),Ji hW T (ar _),tj hW hT]
 exact ⟨by rw [e];exact Jq hW IZ hT,e⟩
theorem Dm:∃ g0 gr,uE (2 * T+1) (dI W T (ld W T few T).1)=g0::gr∧(∀ a∈g0::gr,a=ae W T a.2∧a.2.length≤T)∧(g0::gr).length=2 * T+1∧pr (g0::gr)≤t8 W T (s0 W T) ∧
  ((pr (g0::gr) == t8 W T (s0 W T)) == decide (-g0.1≤((ld W T few T).2.headD (0,[])).1))=true:=by
 have q_:=tN W T few T;have f1:=q_.1;have f2:=q_.2.1;have f3:=q_.2.2
 have I:=Jj hW few T (ar _)
 have hle:=Df hW hT (few:=few)
 have heq:=Jm hW hT (few:=few)
 have O7:=Rv W T few T
 generalize ld W T few T=s at f1 f2 f3 I hle heq O7 ⊢
 obtain ⟨bk,op⟩:=s
 simp only at f1 f2 f3 hle heq O7 ⊢
 have RD:=Da W T bk
 have VD:=GD W T bk
 have mo:2 * T+1=(dI W T bk).length:=by rw [RD.length_eq,aM];exact f2.symm
 have R4:=vL mo
 have R5:=Fu (2 * T+1) _ VD (aJ mo)
 have Na:=R4.trans RD
 generalize uE (2 * T+1) (dI W T bk)=gv at R4 R5 Na
 have Te:gv.length=2 * T+1:=by rw [Na.length_eq,aM];exact f2
 cases gv with
 | nil=>simp at Te
 | cons g0 gr =>
  have hit:∀ a∈g0::gr,a=ae W T a.2∧a.2.length≤T:=fun a ha=>by
   obtain ⟨z,hz,rfl⟩:=aE.mp (Na.mem_iff.mp ha)
   exact ⟨rfl,(f1 z hz).2⟩
  have R6:pr (g0::gr)=s8 (op.map (·.1)):=by
   rw [yt fun a ha=>(hit a ha).1,uW (Na.map (·.2)),aX]
   have e1:bk.map ((fun x:HP=>x.2) ∘ ae W T)=bk:=by
    have:((fun x:HP=>x.2) ∘ ae W T)=id:=rfl
    rw [this,dW]
   rw [e1]
   exact I.len
  cases op with
  | nil=>simp at f3;exact lX IZ (lU 1 (lS f3))
  | cons o0 t =>
   refine (Kn g0 gr rfl hit Te (by rw [R6];exact hle) ?_)
   have VE:∀ z∈bk,sM W T z≤-g0.1:=fun z hz=>by
    have hm:ae W T z∈g0::gr:=Na.mem_iff.mpr (dZ hz)
    have:g0.1≤(ae W T z).1:=by
     rcases aA.mp hm with e | hm
     ·rw [e];exact fw _
     ·exact FD ((gE.mp R5).1 _ hm)
    have e:(ae W T z).1 = -(sM W T z):=rfl
    exact Int.le_neg_of_le_neg (aY this (iW e))
   have MQ:∃ z∈bk,sM W T z = -g0.1:=by
    obtain ⟨z,hz,e⟩:=aE.mp (Na.mem_iff.mp (aZ (a:=g0) (l:=gr)))
    refine (i12 z hz ?_)
    rw [← e]
    refine (?_:sM W T z = -(-(sM W T z)))
    lia
   have VF:∀ a∈o0::t,o0.1≤a.1:=fun a ha=>FD (Am O7 (m:=o0) rfl a ha)
   have key:pr (g0::gr)=t8 W T (s0 W T)↔-g0.1≤o0.1:=by
    rw [R6,heq]
    constructor
    ·intro h
     obtain ⟨z,hz,e⟩:=MQ
     rw [← e]
     exact h z hz o0 aZ
    ·intro h z hz a ha
     have h1:=VE z hz
     have h2:=VF a ha
     exact aY h1 (aY h h2)
   refine (?_:((pr (g0::gr) == t8 W T (s0 W T)) == decide (-g0.1≤o0.1))=true)
   by_cases q:-g0.1≤o0.1
   ·rw [key.mpr q,decide_eq_true q]
    simp
   ·rw [decide_eq_false q]
    have:(pr (g0::gr) == t8 W T (s0 W T))=false:=beq_eq_false_iff_ne.mpr fun e=>q (key.mp e)
    rw [this]
    rfl
end
section
set_option backward.match.sparseCases false
section
variable {nm:List Str} {ρ:List ci} {H:AH}
theorem JE {l1 l2:List Stmt} {R:AF→List ci→AH→Prop} (h:ST an w am d nm ρ H (fun be=>aG l1 be) (fun f sZ H1=>match f with | .next=>ST an w am d nm sZ H1 (fun be=>aG l2 be) R | f=>R f sZ H1)) :
  ST an w am d nm ρ H (fun be=>aG (l1++l2) be) R:=fun be A L m α s Q E hr S I D k =>
 yP (h be A L m α s _ E hr S I D fun f fl ρ' m' dL H' s' r x I' S' D' FR Z=>by
  cases FR with
  | next=>exact r be A L m' dL s' Q E hr S' I' D' fun f2 fl2 wn m2 sP H2 s2 r2 x2 I2 S2 D2 FR2 Z2=>k f2 fl2 wn m2 sP H2 s2 r2 (x.trans x2) I2 S2 D2 FR2 (Z.trans Z2)
  | brk=>exact k _ _ ρ' m' dL H' s' r x I' S' D' .brk Z
  | cont=>exact k _ _ ρ' m' dL H' s' r x I' S' D' .cont Z
  | ret V=>exact k _ _ ρ' m' dL H' s' r x I' S' D' (.ret V) Z)
theorem Dn (l:List (List Nat)):th l=l.flatten.length:=by
 unfold th
 rw [List.length_flatten]
theorem JF (X:(KK P).In am) {lst:Nat} {ls:List Int} {x y z:Int} {ep:Nat} {a:AO} {ln:List Nat} :
  ST an w am (d+5) wM (uK lst (some (.ref 7)) (some (.str ln)) (some (.ref 15)) none none none none none none none none)
   (hA (an:=an) (w:=w) ls [x,y,z] (.cell (some (.ref 16))) (.cell none) (.cell none) (sb x y z) ep a (jp (sb x y z) (rT ls) (rT ls)).2++[.list (rQ (sr (sb x y z) (rT ls)))])
   (fun be=>aG ([nb rZ 6,nb rZ 7,nb rZ 8]++([nb rZ 9,nb rZ 10]++(nb rZ 11::nb rZ 12::nb rZ 13::[nb rZ 14,nb rZ 15,nb rZ 16,nb rZ 17]))) be) (fun f ρ' H'=>f=.ret (.bool true)∧H'[0]?=some wF):=by
 have Lb:=@RX an w P am (d+2) X
 have Lc:=@R2 an w P am (d+3) X
 have Xr:=@Mn an w P am (d+2) X
 have Xu:=@Mo an w P am (d+5) X
 have Xv:=@Mp an w P am (d+3) X
 have Ld:=@R3 an w P am d X
 generalize [nb rZ 6,nb rZ 7,nb rZ 8]=k1 at Lb ⊢
 generalize [nb rZ 9,nb rZ 10]=k2 at Lc ⊢
 generalize nb rZ 11=k3 at Xr ⊢
 generalize nb rZ 12=k4 at Xu ⊢
 generalize nb rZ 13=k5 at Xv ⊢
 generalize [nb rZ 14,nb rZ 15,nb rZ 16,nb rZ 17]=k6 at Ld ⊢
 have hW:=yY x y z
 generalize sb x y z=W at hW ⊢
 generalize hB:hA (an:=an) (w:=w) ls [x,y,z] (.cell (some (.ref 16))) (.cell none) (.cell none) W ep a (jp W (rT ls) (rT ls)).2++[.list (rQ (sr W (rT ls)))]=B
 have bn:B.length=17:=by rw [← hB];rfl
 have b0:B[0]?=some wF:=by rw [← hB];rfl
 have b2:B[2]?=some (.cell (some (.ref 14))):=by rw [← hB];rfl
 have b3:B[3]?=some (.cell (some (.int (rT ls)))):=by rw [← hB];rfl
 have b4:B[4]?=some (.cell (some (.ref 16))):=by rw [← hB];rfl
 have b5:B[5]?=some (.cell none):=by rw [← hB];rfl
 have b6:B[6]?=some (.cell none):=by rw [← hB];rfl
 have b7:B[7]?=some (.list ((sf ls).map .int)):=by rw [← hB];rfl
 have RY:B[14]?=some (sa an w W.es ep):=by rw [← hB];rfl
 have Xw:B[15]?=some (.list (rQ (jp W (rT ls) (rT ls)).2)):=by rw [← hB];rfl
 have JA:B[16]?=some (.list (rQ (sr W (rT ls)))):=by rw [← hB];rfl
 clear hB
 obtain ⟨t1,t2,t3⟩:=xA ls
 clear t3
 obtain ⟨w1,w2⟩:=yT (W:=W) (rT ls)
 have wa:=yU hW (rT ls)
 have cut:=Jh hW t1 (Ey ls)
 have ord:=GS hW t1 t2
 have gf:=Dm hW t1 t2 (sf ls)
 have JQ:=tj hW t2
 have O8:=Eo hW (rT ls)
 have Pk:=As ls
 generalize rT ls=T at b3 Xw JA t1 t2 w1 w2 wa cut ord gf JQ O8 ⊢
 generalize sr W T=bm at JA w1 w2 wa cut ord O8 ⊢
 have hb:=@Lb lst ls W hW T ep t2 bm ln B bn b2 b3 b4 none b5 b7 RY JA w1 (Ez wa) (by rw [w2];exact j8 1 _) (by rw [w2];exact dP (cy 2 t2))
 refine JE (ST.mono hb ?_)
 clear hb
 rintro f ρ' H' ⟨rfl,rfl,rfl⟩
 generalize tR bm (sY ls).length (sY ls) []=cu at cut ⊢
 obtain ⟨lc,left,fits⟩:=cu
 simp only at cut ⊢
 obtain ⟨q1,q2,q3,q4,q5⟩:=cut
 have ui:left.length≤15:=by
  have:=congrArg eZ q3
  rw [aI] at this
  exact lT lJ (lT (lE this) Pk)
 have VG:(sc (bm.map (ae W T))).length=bm.length:=by rw [(rU _).length_eq,aM]
 have VH:∀ a∈sc (bm.map (ae W T)),a=ae W T a.2∧a.2.length≤T:=fun a ha=>by
  obtain ⟨v,hv,rfl⟩:=aE.mp ((rU _).mem_iff.mp ha)
  exact ⟨rfl,(w1 v hv).2⟩
 have JN:(sc (bm.map (ae W T))).map (·.2)=bm:=by
  rw [O8,aX]
  have:((fun x:HP=>x.2) ∘ ae W T)=id:=rfl
  rw [this,dW]
 generalize sc (bm.map (ae W T))=rX at ord VG VH JN ⊢
 generalize hC:(B++[AO.list (rQ (xB ls)),rY (bm.map (ae W T)),rY rX,.list (uD lc),.list (uD fits)]).set 5 (.cell (some (.str left)))=C
 have cn:C.length=22:=by rw [← hC,aP,aI,bn];rfl
 have xi:∀ {j:Nat} {o:AO},j≠5→B[j]?=some o→C[j]?=some o:=fun {j o} hj e=>by
  rw [← hC,ce (aq hj)]
  exact bv e
 have Ms:∀ (j:Nat),C[17+j]?=[AO.list (rQ (xB ls)),rY (bm.map (ae W T)),rY rX,.list (uD lc),.list (uD fits)][j]?:=fun j=>by
  rw [← hC,ce (lL (lD 11 (lR 11 lI))),aK (lT (lE bn) lI),bn]
  congr 1
  exact nB _ _
 have c5:C[5]?=some (.cell (some (.str left))):=by rw [← hC];exact az (by rw [aI,bn];simp)
 clear hC
 refine JE ((Lc (bm:=bm) (lc:=lc) cn (xi (by decide) b4) (xi (by decide) b6) (xi (by decide) JA) (Ms 3) (fun k hk=>⟨by have:=q5 k hk;exact de (aC this (aj (aJ w2) (dP (cy 2 t2)))),q5 k hk⟩) (by lia) (lR 985 (lT q4 Pk))).mono ?_)
 rintro f ρ' H' ⟨rfl,rfl,rfl⟩
 generalize hD:Av C (tH lc) (tH lc).length++[AO.list (rQ (lc.map fun x=>bm.getD x []))]=D
 have dn:D.length=25:=by rw [← hD,aI,zx cn];rfl
 have wh:∀ {j:Nat} {o:AO},j≠6→C[j]?=some o→D[j]?=some o:=fun {j o} hj e=>by
  rw [← hD]
  exact bv (yr cn hj e)
 have d6:D[6]?=some (.cell (some (.ref 23))):=by rw [← hD];exact bv (Nd cn)
 have d22:D[22]?=some (.list ((tH lc).map iv)):=by rw [← hD];exact bv (zy cn 0)
 have d23:D[23]?=some (.iter 22 (tH lc).length):=by rw [← hD];exact bv (zy cn 1)
 have d24:D[24]?=some (.list (rQ (lc.map fun x=>bm.getD x []))):=by rw [← hD,aK (aJ (zx cn _ _)),zx cn];rfl
 clear hD
 have Te:sA [] (lc.map fun x=>bm.getD x [])++left=sY ls:=by rw [Br];exact q3
 have NW:((lc.map fun x=>bm.getD x []).flatten).length≤15:=by
  have:=congrArg eZ q3
  rw [aI] at this
  unfold glue at this
  exact lT lI (lT (lE this) Pk)
 refine bd ((Xr hW (T:=T) (ep:=ep) t1 t2 (bm:=bm) (opened:=(jp W T T).2) (rX:=rX) (wh (by decide) (xi (by decide) b2)) (wh (by decide) (xi (by decide) b3)) (wh (by decide) (xi (by decide) b4)) (wh (by decide) (xi (by decide) RY)) (wh (by decide) (xi (by decide) Xw)) (wh (by decide) (xi (by decide) JA)) (wh (by decide) (Ms 2)) JQ JN (zL t2 (VG.trans w2))).mono ?_)
 rintro f ρ' H' ⟨rfl,rfl,G1,rfl⟩
 refine bd ((Xu (bm:=bm) (left:=left) (fits:=fits) (bv (wh (by decide) (xi (by decide) b4))) (bv (wh (by decide) c5)) (bv (wh (by decide) (xi (by decide) JA))) (bv (wh (by decide) (Ms 4))) q1 q2 (zL t2 w2) (fun x hx=>by have:=(w1 x hx).2;exact lR 997 (lT this t2)) (lR 985 ui)).mono ?_)
 rintro f ρ' H' ⟨rfl,rfl,G2,rfl⟩
 refine bd ((Xv (told:=lc.map fun x=>bm.getD x []) (left:=left) (tx:=sY ls) (os:=tH lc) (bv (bv (wh (by decide) c5))) (bv (bv d6)) (bv (bv d22)) (bv (bv d23)) (bv (bv d24)) Te (by rw [Dn,cS,Nat.mul_zero];exact lR 999985 NW) (lR 985 Pk)).mono ?_)
 rintro f ρ' H' ⟨rfl,rfl,G3,rfl⟩
 have fold:∀ {j:Nat} {o:AO},j≠23→D[j]?=some o→((D++G1++G2).set 23 .s9++G3)[j]?=some o:=fun {j o} hj e=>bv (by rw [ce (aq hj)];exact bv (bv e))
 have fn:25≤((D++G1++G2).set 23 .s9++G3).length:=by simp only [aI,aP];exact lT (lS dn) (lT lI (lT lI lI))
 obtain ⟨g0,gr,g1,g2,g3,g4,g5⟩:=gf
 obtain ⟨o1,o2⟩:=ord
 refine Ld hW t1 t2 (o8:=none) (rX:=rX) (gv:=g0::gr) (g0:=g0) (gr:=gr) fn (fold (by decide) (wh (by decide) (xi (by decide) b0))) (fold (by decide) (wh (by decide) (xi (by decide) b2))) (fold (by decide) (wh (by decide) (xi (by decide) b3))) (fold (by decide) (wh (by decide) (xi (by decide) b7))) (fold (by decide) (wh (by decide) (xi (by decide) RY))) (fold (by decide) (wh (by decide) (Ms 2))) g1 rfl rfl (zL t2 (VG.trans w2)) (zL t2 g3)
  (fun a ha=>At hW t2 (VH a ha).1 (VH a ha).2) (fun a ha=>At hW t2 (g2 a ha).1 (g2 a ha).2) o1 (by rw [o2];exact g4) (by rw [o2];exact g5)
end
end
structure R7 (am:Heap) (α:Nat→Addr) (H:AH) (h:Heap):Prop where
 keep:∀ b o,am.get? b=some o→h.get? b=some o
 size:am.objs.size≤h.objs.size
 low:∀ k < H.length,am.get? (α k)=none∧α k < h.objs.size
 inj:∀ i j,i < H.length→j < H.length→α i=α j→i=j
 obj:∀ (k:Nat) (o:AO),H[k]?=some o→tP h α H.length (α k) o
section
variable {nm:List Str} {ks:List aW} {np:Nat} {H:AH}
theorem call_top {f:Addr} {fd:da} {body:List Stmt} {args:List AV} {α:Nat→Addr} {A:au} {s:af} {Q E:aa→af→Prop} {vs:List aa} (F:Sq am f fd body nm ks np) (I:R7 am α H s.heap) (V:po s.heap α H.length args vs) (hr:td A (d+1)) (hl:args.length=np)
  (bind:∀ vs:List aa,vs.length=np→dH fd ⟨vs,[]⟩=pure ((nm.take np).zip vs))
  (h:∀ (E' : aa→af→Prop) (tE:af) (rS:Nat→Addr) (m1:Str→Option aa),rM s tE→Ext s.heap.objs.size α rS H.length (H++sy ks args).length s.heap tE.heap→u8 (bO fd s.heap.objs.size f) s.heap.objs.size rS (H++sy ks args).length nm (un ks args H.length) →
   Inv am s.heap.objs.size m1 rS (H++sy ks args) tE.heap→vQ m1 tE.heap rS (H++sy ks args).length nm (un ks args H.length)→td (A.deeper (bO fd s.heap.objs.size f)) d →
   ag (ah an w) (A.deeper (bO fd s.heap.objs.size f)) (aG body (bO fd s.heap.objs.size f)) (fun fl s'=>∃ v,fl=.ret v∧Q v s') E' tE) :
  ag (ah an w) A (call (.ref f) vs) Q E s:=by
 obtain ⟨o,ho,hd⟩:=F.at_
 have keep:=I.keep
 have lv:=V.length
 have T3:vs.length=np:=by lia
 have hK:∀ {i:Nat} {x:Str} {kd:aW},nm[i]?=some x→ks[i]?=some kd→fd.scope.names.lookup x=some kd:=fun h1 h2=>by rw [F.names];exact uk F.nodup h1 h2
 have hC:∀ {i:Nat} {x:Str},nm[i]?=some x→ks[i]?=some .cell→(dU (s.heap.objs.size+1) fd.scope.names []).lookup x=some (s.heap.objs.size+1+cb ks i):=fun h1 h2=>by rw [F.names];exact xP nm ks _ [] _ F.nodup h1 h2
 have Qn:(nm.take np).Nodup:=(mC np nm).nodup F.nodup
 refine dg (ox (binds:=(nm.take np).zip vs) (by have:=hr.depth;exact VP this) (keep _ _ ho) hd (F.nolimit.keeps keep) (F.code.keeps keep) F.body (bind vs T3) F.Wi ?_ (fun tE X=>?_) F.co F.gen F.kind)
 ·rintro ⟨x,v⟩ hx
  obtain ⟨i,hi⟩:=gj.mp (jG hx).1
  have KH:i < np:=by have:=(rK hi);rw [dO] at this;exact aC this (eY _ _)
  have Ca : nm[i]?=some x:=by rw [fW KH] at hi;exact hi
  rcases F.Qm i KH with q | q
  ·exact .inl (hK Ca q)
  ·exact .inr ⟨hK Ca q,by refine (?_:((dU (s.heap.objs.size+1) fd.scope.names []).lookup x).isSome=true);rw [hC Ca q];rfl⟩
 ·obtain ⟨⟨rJ,tk,rfl⟩,xk,hk,_⟩:=X.toInCall
  dsimp only at xk hk
  have Ht:∀ n c,(dU (s.heap.objs.size+1) fd.scope.names []).lookup n=some c→rJ.IsCell c (bindC (bO fd s.heap.objs.size f).kindOf ((nm.take np).zip vs) (fun _=>none) n):=X.cell
  have Hu : rJ.Ns s.heap.objs.size (dX (bO fd s.heap.objs.size f).kindOf ((nm.take np).zip vs) fun _=>none):=xk
  have tO:s.heap.objs.size < rJ.objs.size:=Hu.lt
  have mo:(H++sy ks args).length=H.length+(sy ks args).length:=aI
  have uG:∃ rS:Nat→Addr,(∀ k < H.length,rS k=α k)∧∀ j,rS (H.length+j)=s.heap.objs.size+1+j :=
   (i12 (fun k=>if k < H.length then α k else s.heap.objs.size+1+(k - H.length)) (fun k hk=>if_pos hk) (fun j=>by show (if _ then _ else _)=_;rw [if_neg (lF lI)];congr 1;exact nB _ _))
  obtain ⟨rS,ww,vD⟩:=uG
  have x0:Ext s.heap.objs.size α rS H.length (H++sy ks args).length s.heap rJ :=
   ⟨ww,lT lI (lS mo),bp tO,fun b o e _ _=>hk b o e,fun i a b=>by
    obtain ⟨j,rfl⟩ : ∃ j,i=H.length+j:=⟨i - H.length,nL a⟩
    rw [vD];exact (show s.heap.objs.size≤s.heap.objs.size+1+j by lia)⟩
  have NQ:∀ vs e,s.heap.get? s.heap.objs.size≠some (sv vs e):=fun vs e q=>ff _ (aH q)
  have I1:Inv am s.heap.objs.size (dX (bO fd s.heap.objs.size f).kindOf ((nm.take np).zip vs) fun _=>none) rS (H++sy ks args) rJ:=by
   refine ⟨⟨Hu,fun b o e=>hk b o (keep b o e),I.size⟩,fun i hi=>?_,fun i j hi hj e=>?_,fun i oo e=>?_⟩
   ·by_cases q:i < H.length
    ·rw [ww i q];exact ⟨(I.low i q).1,ax (I.low i q).2⟩
    ·obtain ⟨j,rfl⟩ : ∃ j,i=H.length+j:=⟨i - H.length,nL (lN q)⟩
     rw [vD]
     have h1:@LE.le Nat _ am.objs.size s.heap.objs.size:=I.size
     exact ⟨g8 (aj h1 (aj (bX _) (cp _ _))),fun e=>absurd (show s.heap.objs.size+1+j=s.heap.objs.size from e) (by lia)⟩
   ·by_cases qi:i < H.length <;> by_cases qj:j < H.length
    ·rw [ww i qi,ww j qj] at e;exact I.inj i j qi qj e
    ·obtain ⟨u,rfl⟩ : ∃ u,j=H.length+u:=⟨j - H.length,nL (lN qj)⟩
     rw [ww i qi,vD] at e
     have h1:@dM Nat _ (α i) s.heap.objs.size:=(I.low i qi).2
     have h2:@Eq Nat (α i) (s.heap.objs.size+1+u):=e
     exact lX (lS e) (lD 1 (lR 1 (lT (lU 1 h1) lI)))
    ·obtain ⟨u,rfl⟩ : ∃ u,i=H.length+u:=⟨i - H.length,nL (lN qi)⟩
     rw [ww j qj,vD] at e
     have h1:@dM Nat _ (α j) s.heap.objs.size:=(I.low j qj).2
     have h2:@Eq Nat (s.heap.objs.size+1+u) (α j):=e
     exact lX (lE e) (lD 1 (lR 1 (lT (lU 1 h1) lI)))
    ·obtain ⟨u,rfl⟩ : ∃ u,j=H.length+u:=⟨j - H.length,nL (lN qj)⟩
     obtain ⟨v,rfl⟩ : ∃ v,i=H.length+v:=⟨i - H.length,nL (lN qi)⟩
     rw [vD,vD] at e
     have h2:@Eq Nat (s.heap.objs.size+1+v) (s.heap.objs.size+1+u):=e
     exact congrArg (_+·) (pn e)
   ·by_cases q:i < H.length
    ·rw [aR q] at e
     rw [ww i q]
     exact (I.obj i oo e).ext x0 NQ fun ob g=>hk _ _ g
    ·obtain ⟨j,rfl⟩ : ∃ j,i=H.length+j:=⟨i - H.length,nL (lN q)⟩
     rw [aK lI,show H.length+j - H.length=j from by exact nB _ _] at e
     obtain ⟨u,a,b,rfl⟩:=y8 ks args j oo e
     have Qo:u < nm.length:=by rw [F.len];exact (rK a)
     obtain ⟨x,hx⟩ : ∃ x,nm[u]?=some x:=⟨_,aQ Qo⟩
     obtain ⟨ob,Qp,yH⟩:=Ht x _ (hC hx a)
     rw [vD,← b]
     refine (Do ob _ Qp yH (fun av MD=>?_))
     obtain ⟨v,hv,rv⟩:=V.get MD
     have NR:u < np:=by have:=(rK MD);exact lT this (lE hl)
     refine (i12 v (Cu ?_ _ _ _ u Qn (by rw [fW NR];exact hx) hv) (rv.ext x0 NQ))
     have:(bO fd s.heap.objs.size f).kindOf x=some .cell:=hK hx a
     rw [this]
     simp
  have S1:u8 (bO fd s.heap.objs.size f) s.heap.objs.size rS (H++sy ks args).length nm (un ks args H.length):=by
   refine ⟨F.kind,rfl,F.rc,F.blt,fun i x sl a b=>?_⟩
   have va:i < ks.length:=by rw [← F.len];exact (rK a)
   obtain ⟨kd,BG⟩ : ∃ kd,ks[i]?=some kd:=⟨_,aQ va⟩
   rw [wW ks args H.length i kd BG] at b
   have y9:(bO fd s.heap.objs.size f).kindOf x=some kd:=hK a BG
   rcases F.kinds kd (bx BG) with rfl | rfl | rfl
   ·cases b;exact y9
   ·obtain rfl:=ay b
    refine (sS ?_ y9 ?_)
    ·have:=(rK (AR ks args i BG))
     exact VQ mo this
    ·rw [vD];exact hC a BG
   ·cases b;exact y9
  have D1:vQ (dX (bO fd s.heap.objs.size f).kindOf ((nm.take np).zip vs) fun _=>none) rJ rS (H++sy ks args).length nm (un ks args H.length):=by
   intro i x av a b
   have va:i < ks.length:=by rw [← F.len];exact (rK a)
   obtain ⟨kd,BG⟩ : ∃ kd,ks[i]?=some kd:=⟨_,aQ va⟩
   rw [wW ks args H.length i kd BG] at b
   have y9:(bO fd s.heap.objs.size f).kindOf x=some kd:=hK a BG
   rcases F.kinds kd (bx BG) with rfl | rfl | rfl
   ·simp only [iK,ci.loc.injEq] at b
    obtain ⟨v,hv,rv⟩:=V.get b
    have NR:i < np:=by have:=(rK b);exact lT this (lE hl)
    exact (i12 v (Cs y9 _ _ _ i Qn (by rw [fW NR];exact a) hv) (rv.ext x0 NQ))
   ·cases b
   ·cases b
  refine dm (h _ {s with heap:=rJ,toks:=tk} rS _ ⟨rfl,id⟩ x0 S1 I1 D1 ⟨hr.handled,?_,?_⟩) (fun fl s' r=>?_) fun _ _ x=>x
  ·refine (?_:A.depth+1+8 * d+8 < _);have:=hr.depth;exact zD this
  ·refine (?_:A.units+3+100 * d+100 < _);have:=hr.units;exact zC this
  ·obtain ⟨v,rfl,q⟩:=r
   exact q
end
theorem Mt:rZ=rZ.take 5++(nb rZ 5::([nb rZ 6,nb rZ 7,nb rZ 8]++([nb rZ 9,nb rZ 10]++(nb rZ 11::nb rZ 12::nb rZ 13::[nb rZ 14,nb rZ 15,nb rZ 16,nb rZ 17])))):=by kernel_rfl
section
theorem JG (X:(KK P).In am):GL am "split" (.ref 786):=su X (by kernel_rfl)
theorem ST.go {nm:List Str} {ρ:List ci} {H:AH} {T:Env→Sem Flow} {R:AF→List ci→AH→Prop} (h:ST an w am d nm ρ H T R) {be:Env} {A:au} {L:Addr} {m:Str→Option aa} {α:Nat→Addr} {s:af} {Q:Flow→af→Prop} {E:aa→af→Prop} (hr:td A d) (S:u8 be L α H.length nm ρ) (I:Inv am L m α H s.heap) (D:vQ m s.heap α H.length nm ρ)
  (k:∀ f fl ρ' m' dL H' s',R f ρ' H'→Ext L α dL H.length H'.length s.heap s'.heap→Inv am L m' dL H' s'.heap→u8 be L dL H'.length nm ρ'→vQ m' s'.heap dL H'.length nm ρ'→Ch s'.heap dL H'.length f fl→rM s s'→Q fl s'):ag (ah an w) A (T be) Q E s:=h be A L m α s Q E hr S I D k
theorem JH (X:(KK w.params).In am) {lst:Nat} {ls:List Int} {xC:List aa} (hS:am.IsList lst (dD xC)) (hI:Bp ls xC) (hz:ls.length≤1000) {be:Env} {A:au} {L:Addr} {m:Str→Option aa} {α:Nat→Addr} {s:af} {Q:Flow→af→Prop} {E:aa→af→Prop}
  (hr:td A (d+9)) (hF:Rc A L) (S:u8 be L α 7 wM (uK lst none none none none none none none none none none none)) (I:Inv am L m α (Jy C5 (.cell none) (.cell none) (.cell none) (.cell none) (.cell none) (.cell none)) s.heap)
  (D:vQ m s.heap α 7 wM (uK lst none none none none none none none none none none none))
  (k:∀ m' dL H' s',H'[0]?=some wF→Inv am L m' dL H' s'.heap→rM s s'→Q (.ret (.bool true)) s'):ag (ah an w) A (aG rZ be) Q E s:=by
 obtain ⟨x,y,z,hn⟩:=B8 ls
 rw [Mt]
 have La:=@RW an w am (d+3) X lst ls xC hS hI hz x y z hn
 have Lt:=@JF an w w.params am (d+4) X lst ls x y z
 generalize rZ.take 5=k1 at La ⊢
 generalize ([nb rZ 6,nb rZ 7,nb rZ 8]++([nb rZ 9,nb rZ 10]++(nb rZ 11::nb rZ 12::nb rZ 13::[nb rZ 14,nb rZ 15,nb rZ 16,nb rZ 17])))=k2 at Lt ⊢
 refine yP (ST.go La hr S I D fun f fl sZ m1 rS H1 s1 r1 x1 I1 S1 D1 FR Z1=>?_)
 obtain ⟨rfl,a,ep,rfl,rfl⟩:=r1
 cases FR
 dsimp only
 obtain ⟨t1,t2,_⟩:=xA ls
 obtain ⟨w1,w2⟩:=yT (W:=sb x y z) (rT ls)
 have wne:=Fw (yY x y z) t1
 obtain ⟨LL,u9⟩:=Mr (ws:=sr (sb x y z) (rT ls)) (fun v hv=>⟨(w1 v hv).1,aj (w1 v hv).2 t2⟩) (by rw [w2];exact dP (cy 2 t2))
 obtain ⟨vl,Ot,Vl⟩:=D1 5 "line" _ rfl rfl
 refine sV (l7 (Call_ (Ag S1 I1 (j:=22) rfl rfl (JG X) (by decide +kernel) ?_) (by rfl)) (by rfl))
 refine cY (P:=fun h=>∀ b o,am.get? b=some o→h.get? b=some o) rfl (tC X (by kernel_rfl)) (eE (f5 (gI (gy S1.kind (S1.slots 5 _ _ rfl rfl) (S1.loc▸I1.fr.ns) Ot (hM ⟨I1.fr.keep,?_⟩)) (by decide +kernel)) rfl))
 refine (?_:ag _ _ (call (.ref 786) [vl]) _ _ _)
 refine Ei (d:=d) X (ws:=sr (sb x y z) (rT ls)) LL u9 (fun e=>by rw [e] at w2;simp at w2) (fun v hv=>⟨(w1 v hv).1,aj (aj (w1 v hv).2 t2) (by decide),fun e=>wne (e▸hv)⟩) (by rw [w2];exact aj (dP (cy 2 t2)) (by decide)) rfl hr hF I1 Vl fun sP s2 v2 x2 I2 V2 Z2=>?_
 have S2:=S1.ext x2
 have D2:=D1.ext x2 I1.kt
 refine vy (i:=7) (a:=.ref 16) (ρ':=uK lst (some (.ref 7)) (some (.str (sA [32] ((sr (sb x y z) (rT ls)).map pt)))) (some (.ref 15)) none none none none none none none none)
  (H':=hA (an:=an) (w:=w) ls [x,y,z] (.cell (some (.ref 16))) (.cell none) (.cell none) (sb x y z) ep a (jp (sb x y z) (rT ls) (rT ls)).2++[.list (rQ (sr (sb x y z) (rT ls)))]) rfl rfl (by decide +kernel) S2 I2 D2 V2 fun m3 s3 x3 I3 S3 D3 Z3=>?_
 dsimp only
 refine ST.go (@Lt ep a _) hr S3 I3 D3 fun f fl Si m4 Dw H4 s4 r4 x4 I4 S4 D4 FR Z4=>?_
 obtain ⟨rfl,h0⟩:=r4
 cases FR with
 | ret V =>
  refine V.G8 ?_
  exact k _ _ _ _ h0 I4 (((Z1.trans Z2).trans Z3).trans Z4)
end
noncomputable def K2:aL→Frag:=fun P=>(788,J9 tw P)::KK P
noncomputable def O9:List Nat:=788::Wl
noncomputable def JI:Hook:=kHook K2 O9 (fun _=>by kernel_rfl)
theorem R8 (w:aw):O9.map (DJ w.params).get?=(K2 w.params).map fun p=>some p.2 :=
 (getAll (Du tw w.params) 853 O9 (by kernel_rfl)).trans (by kernel_rfl)
theorem R9:LeftO pw qv loose T4 JI.obs JI.val 20000 :=
 LeftO.of_pieces (H₀:=fun P=>e8 (yZ tw P) 34 {}) (H₁:=DJ) (gs₀:=#[]) (gs₁:=#[]) (d₀:={}) (d₁:={}) (k₀:=318) (k₁:=1386) (m₀:=34) (ann:=some (.ref 6)) (M:=12+(1+(2000+(1400+(1700+(1500+(1500+2))))))) Yu Qq (fun w os=>NS w os) (by decide) (fun w=>funext fun os=>by
  rw [Qr w os,Qs w os]
  exact congrArg (fun x=>(true,openGood qv loose,x)) (R8 w))
theorem Pa {h:Heap} (Y:JI.says w h):h.get? 788=some {cls:=.none,data:=.fields #[]}:=kIn_of Y 788 _ rfl
theorem Mu {h:Heap} (Y:JI.says w h):(KK w.params).In (h.hide 788):=by
 have X:(K2 w.params).In h:=kIn_of Y
 intro a o e
 have sz:a≠788:=fun q=>by
  subst q
  have:(KK w.params).lookup 788=none:=by kernel_rfl
  rw [this] at e
  cases e
 rw [fq _ sz]
 refine X a o ?_
 refine (?_:gZ a ((788,_)::KK w.params)=_)
 rw [eg]
 have:(a == 788)=false:=beq_eq_false_iff_ne.mpr sz
 rw [this]
 exact e
noncomputable abbrev VI:List aW:=[.local,.local,.cell,.cell,.cell,.local,.local,.cell,.local,.local,.local,.cell,.local,.cell,.local,.local,.local,.local,.globalImplicit,.globalImplicit,.globalImplicit,.globalImplicit,.globalImplicit,.globalImplicit,.globalImplicit,.globalImplicit,.globalImplicit,.globalImplicit,.globalImplicit,.globalImplicit]
section
theorem JJ {s:af} {A:au} (Y:JI.says w s.heap) (hr:td A (d+10)) (hA:A.frames=some []) {lst:Nat} {ls:List Int} {xC:List aa} (hL:s.heap.IsList lst (dD xC)) (hI:Bp ls xC) (hz:ls.length≤1000) {Q E:aa→af→Prop}
  (k:∀ s',OldK s.heap s'.heap→rM s s'→Q (.bool true) s'):ag (ah an w) A (call (.ref 852) [.ref lst]) Q E s:=by
 have X:(KK w.params).In (s.heap.hide 788):=Mu Y
 have h8:=Pa Y
 have Xx:(s.heap.hide 788).get? 788=none:=Heap.hide_self _ _
 have keep:∀ b o,(s.heap.hide 788).get? b=some o→s.heap.get? b=some o:=fun b o e=>by
  by_cases q:b=788
  ·subst q;rw [Xx] at e;exact uH e
  ·rwa [fq _ q] at e
 have hS:(s.heap.hide 788).IsList lst (dD xC):=by
  obtain ⟨o,ho,hc,hd⟩:=hL
  have q:lst≠788:=fun q=>by
   subst q
   rw [h8] at ho
   obtain rfl:=ay ho
   cases hc
  exact (sN o (by rw [fq _ q];exact ho) hc hd)
 have I0:R7 (s.heap.hide 788) (fun _=>788) [C5] s.heap:=by
  refine ⟨keep,aJ (qW _ _),fun k hk=>⟨Xx,aH h8⟩,fun i j hi hj _=>?_,fun k o e=>?_⟩
  ·simp only [hZ] at hi hj
   exact lA (lD 1 (lT hi (lU 1 lZ))) (lD 1 (lT hj (lU 1 lZ)))
  ·cases k with
   | zero =>
    obtain rfl:=ay e
    exact (sS (ar _) (fun dL ha=>by funext o;refine (?_:(dL 0=788∧_)=((788:Nat)=788∧_));rw [ha 0 (by decide)]) (sN _ h8 rfl rfl))
   | succ k=>exact uH e
 have F:∃ fd,Sq (s.heap.hide 788) 852 fd rZ wM VI 1∧∀ vs:List aa,vs.length=1→dH fd ⟨vs,[]⟩=pure ((wM.take 1).zip vs) :=
  (i12 _ (yL X (o:=Kk tw w.params) (by kernel_rfl) rfl (by kernel_rfl) rfl (by kernel_rfl)) (fun vs hv=>by refine Bt hv fun a=>?_;kernel_rfl))
 obtain ⟨fd,F,hb⟩:=F
 refine call_top (d:=d+9) (args:=[.con (.ref lst)]) F I0 (.cons (.con _) .nil) hr rfl hb fun E' s1 rS m1 Z1 x1 S1 I1 D1 hr1=>?_
 refine JH (d:=d) X hS hI hz hr1 (sN _ (mc hA) F.kind rfl) S1 I1 D1 fun m' dL H' s' h0 I' Z'=>(i12 _ rfl (k s' ?_ (Z1.trans Z')))
 obtain ⟨_,_,o,ho,h1,ps,rfl⟩:=I'.obj 0 _ h0
 rw [h1] at ho
 have ht:isCodeTable s.heap 788:=(Sd 792 _ _ (keep _ _ (X 792 (Bs tw w.params) (by kernel_rfl))) rfl rfl rfl)
 refine ⟨fun b o e=>?_,fun b o e=>?_⟩
 ·by_cases q:b=788
  ·subst q
   rw [h8] at e
   obtain rfl:=ay e
   exact .inr (.inl (sS ht rfl (tW (#[]) ps rfl (by rw [ho];simp))))
  ·exact .inl (I'.fr.keep b o (by rw [fq _ q];exact e))
 ·by_cases q:b=788
  ·subst q;exact ⟨_,ho⟩
  ·exact ⟨o,I'.fr.keep b o (by rw [fq _ q];exact e)⟩
end
theorem Mv {h:Heap} {a:Addr} {m m' : Str→Option aa} (x:h.Ns a m) (y:h.Ns a m') {n:Str} {v v' : aa} (e:m n=some v) (e' : m' n=some v'):v=v':=by
 obtain ⟨o,es,ep,ho,hd,r⟩:=x
 obtain ⟨o',es',G5,MB,JM,r'⟩:=y
 rw [ho] at MB
 cases MB
 rw [hd] at JM
 cases JM
 have h1:=r.2 n
 have h2:=r'.2 n
 rw [e] at h1
 rw [e'] at h2
 rw [h1] at h2
 cases h2
 rfl
theorem walk (w:aw) (EA tE:af) (Y:JI.says w tE.heap) (mg:Str→Option aa) (hg:tE.heap.Ns dK mg) (a:Addr) (VJ:mg "law"=some (.ref a)) (JK:tE.gens=#[]) (args:List WData) (vals:List aa) (as:List Addr)
  (xh:wc.claim.pre args=true) (hR:ReadsAllW wc.records (classAt EA.heap) tE.heap vals args as) :
  ag (ah pw w) callerA (call (.ref a) vals) (fun v s'=>GoodWG wc.claim (classAt EA.heap) (pT EA.heap) args tE (.ok (.ret v)) s')
   (fun e s'=>GoodWG wc.claim (classAt EA.heap) (pT EA.heap) args tE (.error e) s') tE:=by
 have ha:a=852:=by
  have X:(KK w.params).In tE.heap:=fun b o e=>kIn_of Y b o (by
   refine (?_:gZ b ((788,_)::KK w.params)=_)
   rw [eg]
   have:(b == 788)=false:=beq_eq_false_iff_ne.mpr fun q=>by
    subst q
    have h8:(KK w.params).lookup 788=none:=by kernel_rfl
    rw [h8] at e
    exact uH e
   rw [this]
   exact e)
  have e2:fx (KJ (AK tw w.params).data) "law"=some (.ref 852):=by kernel_rfl
  have:=Mv hg (xT X) VJ e2
  cases this
  rfl
 subst ha
 obtain ⟨ls,lst,xC,rfl,rfl,hL,hI,hz⟩:=Mj xh hR
 refine JJ (d:=0) Y ⟨rfl,by decide,by decide⟩ rfl hL hI hz fun s' hold Z=>?_
 refine ⟨.inl ⟨_,.bool true,[],rfl,fun _=>rfl,.bool true,?_,fun hu=>?_⟩,hold,Z.os,Z.gens (.of_eq JK)⟩
 ·kernel_rfl
 ·exact ⟨l9,fun a h=>by cases h⟩
theorem Sa:g6.wellSaid=true:=by
 rw [PySem.W.Fast.te9446332074065402090]
 unfold PySem.W.Fast.tw9446332074065402090 PySem.W.Fast.tw17960256430627541270 PySem.W.Fast.tw2436336058641802641 PySem.W.Fast.tw12908688711261696721
 repeat' (with_reducible apply look_both)
 all_goals decide +kernel
theorem holds:g6.Holds:=by
 refine holds_law Sa fun VK=>?_
 refine holds_open (r:=g6.row) (q:=qv) (loose:=loose) (Xt:=T4) (XP:=XL qv []) (Yf:=JI.obs) (Ya:=JI.val) (YP:=JI.says) (N:=20000) R9 JI.of JI.keeps (fun s e=>xl_of s (eJ.mp e).1) XL.keeps (by rfl) (by rfl) (by rfl) (fun s e=>recFacts_of (eJ.mp e).2) (by rfl) VK (by decide +kernel) ⟨rfl,rfl,rfl,rfl,rfl,by decide +kernel⟩ ?hw ?hc
 case hw=>w_witness2
 case hc =>
  intro w EA tE mg mb G Y a o pm cd doc dV kV h2 h3 h4 h5 VJ JK args vals as xh aaT hR Xy aaU
  exact walk w EA tE Y mg G.T.g a VJ JK args vals as xh hR
end Mine
theorem PySem.Challenge.cw_oy0381_01_holds : PySem.Challenge.rw_oy0381_01.Holds := by
  exact Mine.holds
