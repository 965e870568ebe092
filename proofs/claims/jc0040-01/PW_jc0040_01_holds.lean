import PyProof.Rows.All
import KE.KRevSl
import KE.KSuperObj
import OpenK.AllK
import PyProof.AttrMissHeap
import PyProof.CallStr
import PyProof.InstSpecial
import PyProof.Rows.StrCountLaw
import PyProof.Rows.StrStrike
import PyProof.StrLawsTight
import PyProof.SumWalkG
import PyProof.WalkInts
import Wide.All
import Wide.FinOn
import Lean
import PySem.Challenge.RW_jc0040_01
set_option Elab.async false
set_option maxRecDepth 100000
set_option maxHeartbeats 0
set_option linter.all false
set_option hygiene false
open Array.Perm renaming refl→Mk
open Array renaming any_toList→Ml,eraseIdxIfInBounds→Mm,getD_eq_getD_getElem?→Ci,getElem?_eq_getElem→qp,getElem?_eq_none→nk,getElem?_eq_some_iff→qq,getElem?_push→Mo,getElem?_toList→jM,length_toList→gG,mem_toList_iff→Mp,replicate→afm,size_append→Mq,size_extract→Cj,toList_append→wN,toList_push→oK,toList_setIfInBounds→Mr
open Bool renaming and_eq_true→fe,and_false→Ck,eq_false_iff→wO,eq_iff_iff→mh,false→ai,false_eq_true→fX,false_ne_true→ff,not_eq_true→Ms,not_eq_true'→wQ,not_true→sM,or_eq_false_iff→sN,or_eq_true→qr,or_false→sO,or_true→sP,true→ae
open Eq renaming ndrec→agp,refl→afn,symm→afa
open Exists renaming casesOn→ajr,elim→ahl,intro→ajs
open ForInStep renaming yield→lk
open HAdd renaming hAdd→ahm
open HSub renaming hSub→ahn
open IO renaming Ref→afo,getNumHeartbeats→Cp,mkRef→agq
open Iff renaming rfl→wX
open Int renaming emod_lt_of_pos→wY,emod_nonneg→Cq,eq_ofNat_of_zero_le→Mv,fdiv_eq_ediv_of_nonneg→Cr,fmod_eq_emod_of_nonneg→Cs,mul_add→aho,natAbs_natCast→sU,natCast_mul→aka,natCast_nonneg→oL,toNat_natCast→Mx
open Lean renaming ConstantInfo→Tf,Declaration→ahp,Expr→er,LocalDecl→xb,MVarId→fh,Name→hi,instantiateMVars→fi,logInfo→xf,mkApp→aei,mkApp2→qu,mkApp3→ael,mkAppN→nx,mkConst→Cv,mkFVar→Cw,mkFreshFVarId→ahr,mkNatLit→ml,mkRawNatLit→Cy
open Lean.Core renaming transform→agr
open Lean.Elab.Tactic renaming TacticM→iS,getMainGoal→nu,getUnsolvedGoals→My,withoutRecover→akb
open Lean.Elab.Term renaming elabType→akc,synthesizeSyntheticMVarsNoPostponing→akd
open Lean.Expr renaming proj→age
open Lean.Meta renaming MetaM→en,evalNat→xc,forallMetaTelescope→xd,forallTelescope→ahq,getLocalDeclFromUserName→Ct,inferType→xe,isDefEq→hE,isProp→afd,mkAppM→jO,mkEqRefl→nv,mkFreshExprSyntheticOpaqueMVar→Cu,mkLambdaFVars→afp,mkListLit→qt,unfoldDefinition?→Mz,whnf→bY,withLocalDeclD→afq,withReducible→jm
open Lean.Name renaming mkSimple→ake
open Lean.Parser renaming runParserCategory→akf
open List.IsPrefix renaming trans→Za
open List renaming Nodup→MA,all_eq_true→eT,any_nil→MB,append_assoc→cQ,append_nil→fy,cons→CB,cons_append→fA,cons_lt_cons_iff→MC,contains_cons→sW,contains_iff_mem→CC,count_le_length→MD,dropLast_eq_take→ME,drop_append_of_le_length→lp,drop_drop→jP,drop_eq_getElem_cons→ny,drop_eq_nil_of_le→qv,drop_left→CD,drop_length→qw,drop_of_length_le→qx,drop_sublist→xg,drop_take→xh,drop_zero→nz,eq_nil_of_length_eq_zero→MF,filter_append→xi,filter_congr→sX,filter_cons→sY,filter_eq_nil_iff→CE,filter_eq_self→nA,filter_sublist→CF,findIdx?_eq_some_iff_getElem→MG,flatMap→MH,flatMap_cons→mm,flatMap_nil→MI,flatten_cons→MK,foldl_append→mn,foldl_cons→dN,foldl_map→ML,foldr_cons→MM,forIn_cons→lq,forIn_nil→qy,getD_eq_getElem?_getD→dO,getElem?_append_left→cG,getElem?_append_right→dZ,getElem?_drop→iv,getElem?_eq_getElem→bB,getElem?_eq_none→oM,getElem?_eq_some_iff→bu,getElem?_map→cb,getElem?_range→qz,getElem?_reverse→MN,getElem?_set_ne→nB,getElem?_set_self→nC,getElem?_take_of_lt→es,getElem?_zip_eq_some→oN,getElem_idxOf→xj,getElem_mem→jQ,getElem_range→xk,getLast?→CG,headD_cons→MO,idxOf_cons→MP,idxOf_lt_length_iff→nD,isEmpty_nil→MQ,le_antisymm→MR,le_of_lt→MS,le_refl→xl,length→gI,length_append→aV,length_cons→cc,length_drop→cR,length_eq_zero_iff→nE,length_filter_le→sZ,length_flatten→CH,length_map→aQ,length_nil→et,length_pos_of_mem→CI,length_range→gq,length_reverse→ta,length_set→tb,length_singleton→CJ,length_tail→tc,length_take→bH,lookup→mo,lookup_cons→fO,lt_of_le_of_lt→MT,map_append→gJ,map_congr_left→lr,map_cons→dh,map_drop→td,map_id→te,map_map→gr,map_nil→oO,map_reverse→MU,map_set→tf,map_take→xm,mem_append→cK,mem_append_left→xn,mem_append_right→tg,mem_cons→bc,mem_cons_of_mem→dH,mem_cons_self→fB,mem_filter→iT,mem_flatMap→CK,mem_iff_getElem→CL,mem_iff_getElem?→gK,mem_map→bI,mem_of_getElem?→bC,mem_of_mem_drop→eU,mem_of_mem_tail→MV,mem_of_mem_take→eA,mem_range→eH,mem_reverse→qA,mem_singleton→aY,mem_singleton_self→CM,nil→qB,nil_append→hX,nil_prefix→CN,nil_suffix→CO,nodup_append→qC,nodup_cons→jn,nodup_iff_pairwise_ne→MW,not_lt→qD,not_mem_nil→gu,of_mem_zip→MX,pairwise_cons→xo,pairwise_iff_getElem→qE,pairwise_map→th,perm_middle→MY,prefix_append→eB,prefix_refl→ko,range→aW,range_succ→MZ,range_succ_eq_map→Na,rec→jo,replicate→cL,replicate_succ→qF,reverse_cons→xp,set_append_right→Nb,set_eq_take_append_cons_drop→Nc,singleton_append→ti,size_toArray→xq,suffix_cons→jq,suffix_refl→xr,sum_append→CP,sum_cons→CQ,take_add_one→qG,take_append→CR,take_append_drop→hF,take_append_of_le_length→ls,take_left→mq,take_length→gL,take_of_length_le→hY,take_prefix→Nd,take_sublist→lu,take_succ→xt,take_succ_eq_append_getElem→lx,take_zero→Ng
open List.Pairwise renaming imp_of_mem→Cz
open List.Perm renaming nodup_iff→CA
open List.Sublist renaming append→Zb,refl→Zc
open Nat renaming add→qH,add_assoc→qI,add_comm→xu,add_le_add_left→Ni,add_lt_add_left→Nj,add_mul→oP,add_mul_div_right→Nk,add_mul_mod_self_right→Nl,add_right_comm→qJ,add_sub_cancel'→Nm,add_sub_cancel_left→xv,add_zero→qK,and_one_is_mod→Nn,and_two_pow_sub_one_eq_mod→xw,beq→eV,ble→mu,div_add_mod→kp,div_div_eq_div_mul→Np,div_eq_of_lt→CS,div_le_self→Nq,div_lt_iff_lt_mul→mv,eq_zero_or_pos→CT,le_add_left→xy,le_add_right→hZ,le_max_left→Nr,le_max_right→Nt,le_min→CU,le_mul_of_pos_left→Nu,le_mul_of_pos_right→Nv,le_of_ble_eq_true→bx,le_of_eq→eC,le_of_lt→ea,le_refl→aO,le_succ→du,le_succ_of_le→eI,le_total→nF,le_trans→aH,le_zero→CV,log2_lt→CW,lt_irrefl→fk,lt_log2_self→CX,lt_of_le_of_lt→jR,lt_of_lt_of_le→eo,lt_or_ge→gd,lt_succ_of_lt→kq,lt_succ_self→hG,lt_trans→jr,lt_trichotomy→xA,max_eq_left→xB,max_eq_right→xC,min→agj,min_eq_left→kr,min_eq_right→qL,mod_eq_of_lt→xD,mod_lt→hH,mod_two_eq_zero_or_one→CZ,mul_add→Dc,mul_add_div→Nw,mul_add_mod→Nx,mul_assoc→nG,mul_comm→hI,mul_le_mul→mw,mul_le_mul_left→Ny,mul_le_mul_right→oQ,mul_lt_mul_of_pos_right→Dd,mul_one→tj,mul_succ→De,mul_zero→xE,ne_of_gt→hj,ne_of_lt→cz,not_le→xF,not_lt→bK,not_lt_zero→Df,one_le_two_pow→xG,one_mul→Dg,one_pos→Nz,pow_add→jS,pow_le_pow_right→eb,pow_lt_pow_right→xH,pow_mul→NB,pow_pos→xI,pow_succ→oR,pow_succ'→Dh,pow_zero→NC,rec→qM,strongRecOn→ND,sub_le→ahs,sub_self→ks,sub_zero→xJ,succ→iw,succ_mul→ly,succ_ne_zero→NF,two_mul→xK,two_pow_pos→iU,zero_add→gM,zero_le→aT,zero_mul→qN
open Nat.le renaming dest→xx
open Ne renaming symm→ku
open OfNat renaming ofNat→afe
open Option renaming elim→oS,isSome_iff_exists→xM,map_eq_some_iff→dP,none→ab,some→aa
open Option.some renaming inj→hk
open PUnit renaming unit→Dj
open Prod.mk renaming injEq→qO
open Pure renaming pure→av
open PyProof.Rows renaming AllBare→qP,SortedToK→Dk,add_int→NH,and_int→Zd,arrOf→lB,assignInOrder_cons→lC,assignInOrder_nil→tm,call_int_bit_length→Ze,cnt→Zf,cnt_cons→Zg,eq_int→NI,floordiv_int→Zh,get?_update_seq→Dl,getItem_str→Zi,iadd_int→Zj,iand_int→Zk,ifloordiv_int→Zl,ilshift_int→Zm,imod_int→Zn,ior_int→Zo,ipow_int→Zp,irshift_int→Zq,isub_int→Zr,ixor_int→Zs,listUpdate_at→xN,lshift_int→Zt,lt_int→Zu,mod_int'→NJ,or_int→Zv,pow_int→Zw,rshift_int→Zx,seqObj→di,size_push'→tn,sub_int→NK,truthy_none→Zy,truthy_tuple→Zz,xor_int→ZA
open PyProof.Rows.AllBare renaming moved→NG
open PyProof renaming noPylong_of_log2→NL,noPylong_small→xO
open PySem renaming Addr→ao,Arguments→lD,Around→aR,BindsTo→qQ,Builtin→qR,Data→lF,Drawn→hK,Env→aN,Expr→aP,Fin→ky,Flow→hM,FuncBody→tu,FuncData→gN,GenEnd→tv,GenState→eW,Heap→bk,IntMulOk→mx,IsPair→gf,IsPart→nI,IsZip→iV,Keyword→qU,NameKind→fC,Obj→ck,ObjNewFacts→DK,OsState→gw,Params→iB,PlainAttrs→yf,Pos→aZ,Program→mz,Protocol→qV,Result→mA,Scope→bq,Seg→fm,Sem→dw,Shared→fR,Slot→nL,Stmt→aL,StoreFacts→yh,Str→aq,Tok→fP,TriplesOk→DR,Value→af,World→aD,am_entry_list_getattribute→Po,argBest→iW,argsOk→kB,args_list_getitem→Pp,args_listiter_next→Pq,arm_assign_Tuple→DV,arm_eval_Attribute→tE,arm_eval_Call→tF,assignEach→qY,attributeBase→ec,backTo→jT,backToKw→kC,binaryOp→bL,bindArgs→tG,boundAndCalled→DW,builtinKind→pa,builtinLookup_eq_fast→cA,builtinsNs→cS,cStatics→ia,call→dQ,callEnv→cM,callGetattribute→DX,callWith→lI,callWith_type→qZ,call_meets→kD,calleeOf→tH,cellsFrom→nP,checkBoundCall→pb,checkBuiltinCall→lJ,classOwn→pd,clipAt→iX,clipAt_nat→tI,codeAmong→ju,codeAny→jv,codeAny_builtin→yj,codeAny_call_builtin→yk,codeAny_call_builtin_code→yl,codeAny_call_def→ym,codeAny_forLoop_any→DY,codeAny_obj_new→DZ,codeAny_of_tree→Pr,codeAny_sum_loopAnyB→Pt,compEnvC→ra,compareOp→dj,defaultsOf→yn,entryFor→kE,entryFor_of_tree→tJ,entry_list_getitem→Pu,entry_listiter_next→Pw,eval→aU,evalArgs→yo,excClassObj→eu,exec→jU,execs→fQ,execs_cons→Ea,field→rb,firstArgMember→Eb,fitsIndex_of→Ec,foldedSetIterable→lK,getAttr→lL,getAttrBy→tK,getAttrByItsOwn→yp,getItem→rd,getMethod→rf,handedOut→pe,holding→tL,hookBefore→Ed,inplaceOp→dR,instanceDict→rg,isInstance→yq,isSubtype_stop→yr,isSubtype_type→tM,isTrue→tN,keywordEach→kF,ks_codeAny_call_bound→Ee,ks_wpAny_isType_cls→Ef,ks_wpAt_Return_some→Px,ks_wpAt_execs_cons→tO,letOwnedTupleGo→Eg,letTemporaryGo→rh,listSliceParts_eq→Py,mainGlobals→ed,makeFunction→Eh,methodCall→tP,methodCallForm→pf,methodCallPos→tQ,model→aE,mroOf→jw,name_of_addr→Ei,newFields→Ej,notIterableAtAll→Pz,nsFind→pg,onTheHeap→ys,opaqueClassAbove→PA,partValue→gg,plainId→tR,plainId_quiet→yt,plainObj_wpAny_Assign_Attribute→Ek,post_val_or_str→PB,preSum→kG,pyIter→kH,pyNext→jV,rawInt→cC,recursionLimit→yu,richCompare_gives→PC,seg_again→yv,seg_bind_wrap→kI,seqIndex?→kJ,setItem→tS,sizeLine→aB,sizeLine_eq→dp,sliceBounds→jx,sliceIndices_raw→PD,slicePick_plain→PE,slot_list_getitem→ph,slot_list_iter→El,slot_listiter_next→ri,standAt→yw,starEach→jy,storeName→yx,strIterType→Em,strValues→yy,sub_int_bytearray→PF,sub_int_str→PG,swappedStores→kK,swapsWith→jz,swapsWithSole→tT,table→kL,typeIs_int→mB,typeIs_str→iE,typeLookup→bg,typeLookup_type→cB,typeOf→iY,wpAny→aw,wpAny_Assign_Name→yz,wpAny_Assign_Subscript→PI,wpAny_Assign_stores→PJ,wpAny_Call_NameR→ib,wpAny_Call_method_late→pj,wpAny_Constant_bool→PK,wpAny_Constant_int→rj,wpAny_Constant_str→nQ,wpAny_For→yA,wpAny_GeneratorExp_walksQTD→PL,wpAny_Name→ho,wpAny_Return_some→yB,wpAny_Slice→pk,wpAny_Tuple_spliced→yC,wpAny_assign_Name→jW,wpAny_attempt→iF,wpAny_bind→ag,wpAny_bindName→En,wpAny_builtinsFor→Eo,wpAny_call→gi,wpAny_callSpecial?_own→PM,wpAny_callSpecial?_slot→lM,wpAny_call_entry→iG,wpAny_check_obj_new→Ep,wpAny_collect_seq→PN,wpAny_eqBool_str→PO,wpAny_execs_cons→lN,wpAny_execs_nil→PQ,wpAny_field→dS,wpAny_fieldsOf→yD,wpAny_getItem_list→Er,wpAny_getItem_list_slice→Es,wpAny_getItem_str_slice→PR,wpAny_handled→Eu,wpAny_holding→cf,wpAny_isInstance→lO,wpAny_isNot_plain→PS,wpAny_isSubtype_exc→jX,wpAny_isTrue_Compare1→Ew,wpAny_isTrue_value→PT,wpAny_letGo→tU,wpAny_letTemporaryGo→PU,wpAny_listItems→PV,wpAny_listPart→rk,wpAny_listSubscript_int→PW,wpAny_load→kM,wpAny_loadName_cell→Ey,wpAny_loadName_free→yE,wpAny_loadName_local→ic,wpAny_loadPart_at→gx,wpAny_madeBy_exc→PX,wpAny_mkText→tV,wpAny_mono→dk,wpAny_newFunctionEnv→Ez,wpAny_newList→EA,wpAny_newObj_type→jA,wpAny_nextOf_list_item→PY,wpAny_nsGet→mC,wpAny_of_eq→cN,wpAny_onRaise→rl,wpAny_operating→PZ,wpAny_point→EB,wpAny_pure→az,wpAny_pyIter_list→rm,wpAny_pyIter_listiter→EC,wpAny_pyIter_revIter→Qa,wpAny_pyNext_list_end→Qb,wpAny_pyNext_list_item→ED,wpAny_rule→hN,wpAny_runValue→EE,wpAny_seqItemAt→Qc,wpAny_seqItems→kN,wpAny_setField_rec→nR,wpAny_specialOf→iZ,wpAny_standAt→dI,wpAny_storeName_local→Qd,wpAny_throw→EF,wpAny_truthy_bool→rn,wpAny_typeLookup_exc→ja,wpAny_typeOf→nS,wpAny_typeOf_ref→kO,wpAny_unpackItems_tuple→yF,wpAny_updateSeq→yG,wpAny_updateSeq_pair→Qe,wpAny_with_toks→kP
open PySem.Around renaming under_plainId→NM
open PySem.Bind renaming checkArgs→oT,lastOf→Dm
open PySem.BindsTo renaming of_defaults→xP
open PySem.BoolOp renaming And→NN
open PySem.Builtin.Builtins renaming bindParams→ZC
open PySem.Builtin.Generator renaming genWake→NO
open PySem.Builtin.Int renaming intBits→bN
open PySem.Builtin.List renaming listAllItems→ZD,listFitsIndex→ZE,listItems→NP,listSameRef→NQ,listSubscript?→tp,listTooLong→NR
open PySem.Builtin.ObjectAttr renaming copiedAttributeGuard→ZF,find→Dn,inDict→ZG,inOwnDict→NS,ownDict→NT,ownThenClass→NU,storeInDict→ZH,storeInOwnDict→ZI
open PySem.Builtin.Range renaming rangeFitsLong→NV,rangeSize→oU,small→tq
open PySem.Builtin.Re renaming ReTarget→NW,reDrive→NX,reMachineGroup→NY,reNextFound→xQ,reSlice→Dq
open PySem.Builtin.SmallTypes renaming nextOf→NZ,ownedTupleHandOut→Oa,ownedTupleIsFree→Oc
open PySem.Builtin.Str renaming strKind→Od,strOf→Oe,strSub→Of,tooLong→Og
open PySem.Builtin renaming bitAnd→Dr,bitNot→oV,bitOr→xR,bitXor→xS,divisionGoesByPylong→oW
open PySem.Calls renaming Name_function_global→Oh,callWith_builtin→kx,callWith_function→Ds,call_function_entry→Oi,loadGlobal_builtin→xT,loadGlobal_global→Dt,spliced_cons→iA,spliced_nil→lE
open PySem.Challenge renaming pw_jc0040_01→Oj,rw_jc0040_01→ZJ
open PySem.Code renaming builtin→xU,quiet_builtin→xV
open PySem.EqBoolInt renaming of_rcne→Du
open PySem.Expr renaming Attribute→xW,Call→Dv,Compare→Ol,ListComp→Om,Name→hL,Subscript→Dx,Tuple→Dy,UnaryOp→Oo
open PySem.F renaming args_int_rmul_2→ZK,args_list_add_2→ZL,args_list_append_2→Oq,args_list_getattribute_2→Ot,args_list_index_2→ZM,args_list_mul_2→ZN,args_list_pop_1→ZO,args_list_pop_2→ZP,args_list_reverse_1→ZQ,args_list_setitem_3→Ou,args_object_getattribute_2→ZR,args_object_init_3→ZS,args_str_gt_2→ZT,args_str_join_2→ZU,args_str_lt_2→ZV,args_str_split_2→Dz,args_zip_next_1→Ov,called_str→DA,called_zip→ZW,canon_object_ga→DB,entry_int_rmul→ZX,entry_list_add→ZY,entry_list_append→Ow,entry_list_index→ZZ,entry_list_len→aaa,entry_list_mul→aab,entry_list_new→aac,entry_list_pop→DC,entry_list_reverse→aad,entry_list_setitem→Ox,entry_object_getattribute→aae,entry_object_sa→DD,entry_str_gt→aaf,entry_str_join→aag,entry_str_lt→aah,entry_str_split→DE,entry_sum→aai,entry_zip_new→aaj,entry_zip_next→Oy,fills_int_mul→aak,kind_sum→aal,ks_canon_super_ga→aam,ks_entry_function_get→aan,ks_entry_super_ga→aao,ks_gaArgs_super→aap,ks_getArgs_function→aaq,ks_slot_function_get→Oz,ks_slot_super_ga→OA,lk_object_ga→OB,lk_object_getattr→OC,mro_object→tr,newCall_zip_2→aar,objNew→DF,plainAttrs_int→aas,plainAttrs_list→xX,plainAttrs_str→lG,plainObj_entry_getattr_hooked→OD,plain_sum→aat,plain_sum_loop→OE,slot_int_bit_length→aba,slot_int_index→abb,slot_int_rmul→OF,slot_list_add→abc,slot_list_append→xY,slot_list_getattribute→xZ,slot_list_index→OG,slot_list_iter→OH,slot_list_mul→abd,slot_list_pop→ya,slot_list_reverse→OI,slot_list_setitem→yb,slot_str_count→abe,slot_str_getitem→DG,slot_str_gt→abf,slot_str_isspace→OJ,slot_str_join→yc,slot_str_lt→abg,slot_str_replace→OK,slot_str_split→ts,slot_tuple_getitem→OL,slot_zip_next→yd,store_object→OM,typeCall_zip_2→abh,type_int_bit_length→abi,type_list_append→ON,type_list_index→abj,type_list_pop→abk,type_list_reverse→abl,type_str_count→abm,type_str_isspace→OO,type_str_join→DH,type_str_replace→OP,type_str_split→OQ
open PySem.Heap renaming ExtBut→ye,Ns→qS,SameBut→oX,get?_push_ne→OS,get?_push_of_some→bM,get?_push_size→cm,get?_update_ne→qT,get?_update_self→tx,lt_size→bj,size_push→cH,size_update→DI
open PySem.Heap.IsSliceOf renaming new→tw
open PySem.Heap.SameBut renaming update→oY
open PySem.Made renaming takes→OT
open PySem.Manifest renaming canonical→my,signature?→nJ
open PySem.Module renaming body→gv
open PySem.NameKind renaming cell→tz,free→jt,globalImplicit→nK
open PySem.Obj renaming data→tA,data_mapFields→OU,isFreed_of_fields→OV,mapFields→DJ,mapSeq→dB
open PySem.P renaming add_str→abn,eq_int→abo,eq_str→abp,ge_int→abq,getItem_tuple→DL,gt_int→abr,gt_str→abt,iadd_str→aca,imul_int→acb,in_str→acd,le_int→ace,len_str→OW,lt_int→acf,mul_int→acg,ne_int→ach,ne_str→aci,neg_int→acj,notIn_str→ack,truthy_int→acm,truthy_str→acn
open PySem.Program renaming main→CY
open PySem.Scope renaming names→OX
open PySem.Sem renaming wp→tB,wp_bind'→OY,wp_mono→DM,wrap_congr→DN
open PySem.SeqAt renaming EqAt→OZ
open PySem.SeqAt.EqAt renaming str_str→DO
open PySem.SeqAt.RcNeAt renaming lists→Dp,tuples→Pa
open PySem.SeqRoads2.EqGives renaming str→aco
open PySem.Sre renaming M→kz,Seen→gO,forSearch→Pc,run→yg
open PySem.Sre.M renaming runFor→kA
open PySem.Sre.Seen renaming add→DP
open PySem.Stmt renaming ClassDef→Pd,FunctionDef→Pe
open PySem.Str renaming join→nM,length→DQ,ofString→ak
open PySem.StrLaws renaming dbl→lH,found_one→Pf,glued_eq_join→Pg
open PySem.Txt renaming isspace→nN,join→DS,replace→oZ,slice_le→Ph,split→nO
open PySem.UnaryOp renaming Not→Dw
open PySem.Value renaming bool→Pj,builtin→yi,int→DT,none→qW,ref→iC,str→qX,type→iD
open PySem.W.Frag renaming In→Pk
open PySem.W.X renaming AllIn→acp,script_at→acq,script_obj→acr,z_facts→acs
open PySem.W renaming fn_get→Pl,kla_callFunE→ada,kla_codeExpr→adb,kla_eval→ade,ks_loadName_global→tC,typeIn→Pm
open PySem.Walks renaming list→DU
open PySem.WalksS renaming of_in1→tD
open PySem.WalksT renaming enumerateD→Pn
local macro_rules
|`(#[oj,$a])=>`([X,o0,m0,#[fx],d,l0,n0,p0,q0,s0,b0,t0,v0,c,y,A,I,j0,$a,N,.list r])
|`(#[oi])=>`([X,h0,f0,m0,o0,p0,q0,s0,t0,v0,n0,x0,y0,A0,E0,F0,N0,O0,L0,G0,H0,I0])
|`(#[oh,$a])=>`(($a #[aR,"dict",.dict,#[]]).objs.size)
|`(#[og])=>`(#[dd,((f0.take E).drop i).map])
|`(#[of,$a])=>`(#[aE,$a,#[M,by rw[<-c.rel.len];simp]])
|`(#[oe])=>`(∀z∈c,A z=ae->bR (f z)=ae)
|`(#[od])=>`(#[aa,m.contains (p+bp l),eQ l (bp l),l])
|`(#[oc])=>`(#[kw,f0.scope.names.lookup])
|`(#[ob,$a])=>`(([[40],[41]]:#[bz]).contains (ax M $a))
|`(#[oa,$a])=>`(∀b e0,#[bl,b,e0]->($a).get? b=aa e0)
local macro_rules
|`(#[n9])=>`(λb Z n0=>#[a9,F.slt.tab b n0,Z])
|`(#[n8,$a,$b,$c])=>`(∀(A:aR)(J:aN)(O:#[s])(s:fR)(Q:#[aG,$a])(E:#[E]),#[bk]->#[ah]->($b)->#[aM,$c])
|`(#[n7])=>`(S.getD ((bF S).getD k 0+1) 0)
|`(#[n6,$a])=>`(($a).get? h.objs.size=aa #[aR,"dict",.dict,#[]])
|`(#[n5])=>`(s.TypeIs (.ref I) "callable_iterator")
|`(#[n4])=>`(#[ew,#[eS],(vK T (r+2) [])]++v0)
|`(#[n3,$a])=>`((iC C::$a).contains (.type "list")=ae)
|`(#[n2])=>`((O.take C.length++[O[C.length+1]]))
|`(#[n1,$a,$b])=>`(pf ($a+([]:List qU).length) $b (kC i0 (kF [] J))=ae)
|`(#[n0])=>`(f0.closure=[(ak "__class__",124)])
local macro_rules
|`(#[nZ,$a,$b])=>`(⟨($a),λb Z=>⟨λn0=>#[a9,$b b n0,Z.1],Z.2⟩,λo e=>?_⟩)
|`(#[nY,$a,$b,$c])=>`(∀(l:#[L])(s:fR),l.length=k->$a->qQ s $b #[Y,l] $c)
|`(#[nX,$a,$b])=>`(aj.cutAt $a 1 $b (λ_ _ _ h=>h.1) (λv s h=>?_))
|`(#[nW,$a,$b])=>`(Fn B w n 329 [#[fx],#[cv,#[bq]],#[bg,$a,#[im]]] #[cr,ah ($b #[cx])])
|`(#[nV,$a,$b])=>`(aj.seq (R:=$a) (λA J O s Q E g M q=>$b) (λv s h=>h) λo v s p h=>tZ h p)
|`(#[nU])=>`(⟨f.os,f.drawn,f.gens,f.size,f.keep⟩)
|`(#[nT,$a,$b])=>`(r0::T::U::u::P::g::$a ::#[dr]::b0::Q::#[cL]::$b ::Y)
|`(#[nS])=>`(λq0=>q0.eraseIdxIfInBounds (Y.size-1))
|`(#[nR])=>`(λiL L=>∃v,iL=.done (.ret v)/\Q v L)
|`(#[nQ])=>`((v++#[cC i0.line,cC i0.col,.ref y]))
local macro_rules
|`(#[nP,$a])=>`(#[I,S.sc.names,(ak $a,.globalImplicit)])
|`(#[nO])=>`(o0.set i (kd (o0.length+1) o0.length))
|`(#[nN,$a,$b,$c])=>`(∀z∈c,mD B w n #[d7,$a,S.fz] $b $c T b0 r (A z) (f z) i (g z))
|`(#[nM])=>`(V.str (gz (cU b 6 j)++[u.getD i 0]))
|`(#[nL])=>`((x.cps.extract p f).toList)
|`(#[nK])=>`(#[et,aU e J,λv k0=>#[dS,kH v,k0],s])
|`(#[nJ])=>`([.ob H.length,.ob H.length])
|`(#[nI])=>`((#[eQ,x.1].set j (aa x.2)))
|`(#[nH,$a])=>`(q _ _ (O++[s.heap.objs.size]) ($a) #[M,by rw[<-M.len];simp])
|`(#[nG])=>`(ag (jA ?_ (by size_fits)))
local macro_rules
|`(#[nF])=>`(#[es][1]?=aa (.str #[eo].qualname (ql #[es][1]?)))
|`(#[nE])=>`((jL.contains f||jL.contains c)=ai)
|`(#[nD])=>`(#[cC x.pos.line,cC x.pos.col,.ref g])
|`(#[nC,$a])=>`(cJ B w (n+1) $a #[aP,"_iter_escaped_chars",p] #[K,246])
|`(#[nB,$a])=>`((($a).trans (jq _ _)).trans (jq _ _))
|`(#[nA])=>`(cO ((f0.take E).drop i) #[bq])
|`(#[nz])=>`((j0.names.all λq=>!(q.2==.free))=ae)
|`(#[ny,$a])=>`(∀a∈j.drop S.fz,a∈O.drop S.fz\/$a)
|`(#[nx,$a])=>`(∀k z q0 v s,X[k]?=aa z->c k q0 v s->ir v s->bD s.length z->$a)
|`(#[nw,$a,$b])=>`(∃o,$a a=aa o/\OR [a] o (.list (cY $b)))
local macro_rules
|`(#[nv,$a,$b,$c,$d])=>`([40]++ay f ($a (bp l)) p $b++[$c (bp l) 0]++$d++[41])
|`(#[nu])=>`(cg B w n S #[cR,#[aP,"range",p],[e,f,g]] U H X #[fX] w0)
|`(#[nt,$a])=>`(aM (λk v=>jf k/\gj k=o (gj v)) $a Y)
|`(#[ns])=>`(#[hm,u0,C0,e0,#[P,T],#[bX],Y])
|`(#[nr])=>`((f0.params.posonlyargs++f0.params.args).head?=aa n)
|`(#[nq,$a])=>`(aj B w n #[d7,j0,$a] r0 T H (cZ L r m0))
|`(#[np,$a,$b,$c,$d,$e])=>`(fg B w n #[d7,$a,S.fz] $b #[eQ,z] s b $c/\if b then$d else gQ S.fz (r+1) (c #[u] q0) #[eQ,z] $e)
|`(#[no,$a])=>`(_root_.PySem.wpAt #[aH] A (.func r0 (cM f0 L f)) (aU $a (cM f0 L f)) Q E #[bt])
|`(#[nn])=>`((max #[kx].1 #[kx].2.1).toNat)
|`(#[nm])=>`({cls:=.type "super",dict:=ab,data:=.fields #[.ref f,#[am],.ref C],slots:=#[]})
local macro_rules
|`(#[nl])=>`(o=.ret r\/(o=.next/\r=.none))
|`(#[nk])=>`(#[oj,#[bg,u.map,λp=>V.int (p:Nat)]])
|`(#[nj,$a])=>`((dJ P $a).params.args.headD default)
|`(#[ni,$a,$b])=>`([⟨aa "key",.Lambda z r0 d $a,$b⟩])
|`(#[nh])=>`(∀v s,h0 (.ret (.bool ae)) v s)
|`(#[ng])=>`((x.cps.extract f (f+r)).toList)
|`(#[nf])=>`(λr L=>∃z t,r=.str z t/\Q r L)
|`(#[ne])=>`(∀k q0 v s,c k q0 v s->C s/\i<v.length/\#[aX,s,r,q0]/\q0.length<=k)
|`(#[nd])=>`(∀q0 v s,c X.length q0 v s->s=m0)
|`(#[nc])=>`({S with full:=s!"{(ak "_Accumulator").toString}.{Dm "list.pop"}"})
local macro_rules
|`(#[nb,$a])=>`(".".intercalate ($a '.').dropLast="list")
|`(#[na])=>`(.inr ⟨j,by simpa using N,a0⟩)
|`(#[m9])=>`([c,y,A,I,.list q,#[gR],.list (u.map #[a1]).reverse])
|`(#[m8])=>`(#[bu,#[d3,h.push,o,#[.builtin P,#[am]]],t+1])
|`(#[m7,$a])=>`(fm $a A R Y n l c (h0 .next) j0 L)
|`(#[m6])=>`(λc=>(hV l k).getD (#[eP].idxOf c) 0)
|`(#[m5])=>`(.inl (#[ho,u,(by cases d;cases v),(by cases d)]))
|`(#[m4,$a])=>`(∀(A:aR)(J:aN)(O:#[s])(s:fR)(Q:#[aG,Bool])(E:#[E]),#[bk]->#[ah]->(∀L j,#[ep]->Q b L)->$a)
|`(#[m3,$a])=>`(⟨R.len,R.nodup,R.high,λi a e0 I Z=>$a⟩)
|`(#[m2])=>`([V.str [40],V.str [41]]=ah [[40],[41]])
local macro_rules
|`(#[m1])=>`(ag (m:=Eb _ _) (cN (a:=qW) #[ak] ?_))
|`(#[m0,$a])=>`(⟨"list",_,rX,($a).typeIs,?_⟩)
|`(#[mZ,$a,$b,$c])=>`(aw #[cP] (A.over #[hn] j0) $a ($b) (#[fY]) $c)
|`(#[mY])=>`(#[aR,"list_iterator",.fields,#[#[am],.int 0 0]])
|`(#[mX])=>`((W.mS .nil rfl #[aB] rfl rfl))
|`(#[mW,$a,$b,$c,$d,$e,$f])=>`(Ev B w n #[d7,$a,S.fz] $b #[eQ,z] $c y $d/\#[aX,$e,r,q0]/\gQ S.fz (r+1) (c #[u] (q0++[y])) #[eQ,z] ($f r #[cr,q0++[y]]))
|`(#[mV])=>`(((hV l k).getD (#[eP].idxOf c) 0))
|`(#[mU,$a])=>`(ag (cN (a:=(iC x,[qX $a t])) rfl ?_))
|`(#[mT])=>`(d0 (ak "len")=ab/\g0 (ak "len")=aa (.builtin "len"))
|`(#[mS])=>`(t.length+(t.length+1)*z.length<=16777216)
local macro_rules
|`(#[mR])=>`(q _ _ _ _ _ _ (p _ _ _ #[z] A0) c b)
|`(#[mQ,$a,$b,$c,$d,$e])=>`((M.code j a $a I Z).keep (λo e=>($b).symm.trans e) λb o e X _=>($c b λp=>$d $e (p▸X)).trans e)
|`(#[mP,$a,$b,$c,$d,$e,$f,$g,$h])=>`((om (A:=#[eS]) (v0:=#[gH]) (b:=$a) (Y:=$b) Q $c $d $e rfl #[aD,10] rfl $f $g #[f] #[aZ] $h rfl #[aj] #[i] #[i]))
|`(#[mO,$a])=>`(∀(g J:bk)(o:ck),(∀b e0,$a)->T g o->T J o)
|`(#[mN])=>`(λY=>if(ju i0 Y.toList).isSome=ae then Y else Y++#[cC i0.line,cC i0.col,.ref y])
|`(#[mM,$a,$b])=>`(∀{c0:bk}{t:Nat}{A:aR},#[hp]->(∀b e0,#[bl,b,e0]->c0.get? b=aa e0)->#[et,$a #[Y,[#[am]]],$b,#[bu,c0,t]])
|`(#[mL])=>`(((bb (bf L.length #[ar])).getD m []))
|`(#[mK])=>`((gQ S.fz b0.length (c #[u])))
|`(#[mJ,$a,$b])=>`(aC B S J O U H C O L->L.heap.get? a=aa (di "list" $a c)->#[a6,$b,ah r]->P (.done (.ret .none)) L)
|`(#[mI])=>`((c0.push #[aR,"function",.func,f0]))
local macro_rules
|`(#[mH,$a,$b])=>`(#[bM,ko _,λ_ h=>.inl h,{M with gh:=?_,ns:=$a,store:=λj a e0 I Z=>?_,code:=$b,cp:=λr Y=>?_}])
|`(#[mG,$a])=>`($a (l.idxOf (fI l)) (l.idxOf (fH l)))
|`(#[mF])=>`(.Constant .none 0 ⟨0,0,0,0⟩)
|`(#[mE])=>`(#[oi]++[#[az,I.set (eh J0 l) (#[js]+1)]]++([]++w0))
|`(#[mD,$a])=>`(#[l9,#[bk]->#[ah]->($a)->#[gJ,e]])
|`(#[mC,$a])=>`($a (P.new a) λq=>.inr (aH P.fx.size q))
|`(#[mB,$a])=>`(#[dQ,∀v,s.heap.IsCell p.2 v->$a p.2 v])
|`(#[mA,$a,$b])=>`(ag (iF (lM $a oH (iG oH $b zK ?_ (yQ _)))))
|`(#[mz,$a,$b,$c])=>`(Ev.iM p (.inl (let⟨_,h⟩:=N;#[M,h])) xX $a $b u #[aY,I] $c L P #[z])
|`(#[my])=>`(ir T (b0++[#[d2]])->c 0 [] T (b0++[#[d2]]))
local macro_rules
|`(#[mx])=>`(∀o x0 m0 f L j,h0 o x0 m0->#[cy,x0,m0,j,L]->tk j f o->Q f L)
|`(#[mw,$a,$b,$c,$d,$e])=>`({R with ns:=?_,len:=$a,cX:=$b,store:=?_,code:=?_,nodup:=$c,high:=$d,dT:=$e,cp:=?_})
|`(#[mv,$a])=>`(∀(A:aR)(O:#[s])(l:#[L])(s:fR)(R:#[aG,mA]),$a)
|`(#[mu,$a])=>`(∃A a0,v=[#[bj],A,#[ag],#[e6],#[P,[g]],#[P,[b]],#[P,bA $a],a0,ab,ab,ab,ab,ab,ab,ab,ab,ab,ab])
|`(#[mt])=>`(#[cR,#[d5,ak "replace",y0],[.Constant #[an,y] A0 G0,.Constant #[an,z] t0 E0]])
|`(#[ms,$a,$b,$c,$d])=>`(ah (($a++[41]).map (ax M))=[V.str [40]]++ah (($b).map (ax M))++[#[eu,$c k 0]]++ah (($d).map (ax M))++[V.str [41]])
|`(#[mr,$a,$b])=>`(km B w 6 309 [.str $a] (.ob 7) (dr 1 $b []))
|`(#[mq,$a])=>`(km B w $a 116 [#[ad,T],#[ad,N],.str p0,.str j0] (.ob 1) (#[bm,j0,[],T,[]]))
|`(#[mp,$a,$b,$c])=>`(aj.seq (R:=λo I L=>$a) (#[c9,$b,q _ _ _ _ s _ #[b9] #[eq] $c]) (λI L h=>nomatch h.1) (λo I L p h=>#[R]))
|`(#[mo])=>`(∃c O0 Y t,#[gI,c]/\#[al,c]/\B.heap.get? c=aa O0/\O0.data=.fields Y/\Y[1]?=aa (.str f0.qualname t))
local macro_rules
|`(#[mn,$a,$b])=>`(aj.ite (B:=B) (w:=w) (n:=n) (S:=bE) (t:=$a) $b ?_)
|`(#[mm,$a,$b,$c,$d])=>`(fm #[aH] A.in1 $a $b $c s (.func fE J) $d [] s)
|`(#[ml,$a,$b,$c])=>`(⟨_,$a,aT _,#[],0,rfl,$b,sL,λy _=>rfl,$c⟩)
|`(#[mk])=>`((.BinOp (.List [.Call #[aP,"iter",E0] [a] [] N0] M) .Mult (.Constant #[T,2] t S0) R0))
|`(#[mj,$a])=>`(∀I r L j,#[aV,b0,j,L]->hh B w n X I b0.length $a r->r 0 j L.heap->#[Q,I]->I∉j->#[bN,I,L])
|`(#[mi])=>`(∀c0,fw #[dM] w d0 g0 s0 L)
|`(#[mh,$a,$b])=>`([#[ag],$a,#[P,s],#[P,cE],#[V,5],$b,ab,ab,ab])
|`(#[mg,$a,$b,$c,$d,$e])=>`(xP (T:=$a) (n:=sy #[bB,$b]) (items:=#[zS #[bB,$c]]) $d (uK J k $e rfl) #[p] rfl rfl)
|`(#[mf])=>`(∃v0 e0,#[c8,"__builtins__",v0]/\v0≠cS/\#[bl,v0,e0]/\e0.cls=.type "module"/\e0.dict=aa cS/\e0.data=.plain)
|`(#[me,$a,$b,$c,$d,$e])=>`($a $b (q _ _ _ _ (c.trans (aC.heap c.rel (#[z]) #[e7])) ($c #[U,P]) ⟨l,R,$d,$e⟩ c.fx.size λf=>#[aN,c.rel.fT _ f,fk _]))
local macro_rules
|`(#[md,$a,$b])=>`(#[cp]::P::g::j::i0::b0::Q::T0::S::#[gK]::$a ::$b ::Y)
|`(#[mc])=>`([X,o0,m0,#[fx],d,t0,v0,x0,y0,A0,n0,E0,F0,c,y,A,I,s0,#[gR],N,.list r])
|`(#[mb])=>`([X,h0,f0,m0,o0,p0,q0,s0,t0,v0,j0,n0,x0,y0,A0,E0,I0,J0,G0,F0,#[aq,(aW N).map #[hq]],.list [#[ad,0]]])
|`(#[ma])=>`([X,#[dz],f0,m0,o0,p0,q0,s0,t0,v0,x0,A0,C0,E0,F0,H0,O0,Q0,M0,I0,J0,L0,#[az,I],#[az,j0],#[kv],#[az,j0.drop #[u]]])
|`(#[l9,$a])=>`(∀(A:aR)(J:aN)(O:#[s])(s:fR)(Q E:#[E]),$a)
|`(#[l8,$a])=>`(hl S J O B s.heap.objs.size $a)
|`(#[l7])=>`(f0.scope.names.lookup _=_)
|`(#[l6])=>`(#[ip,"object.__getattribute__"])
|`(#[l5])=>`([bQ 0 [],de 2 116 0 ab])
|`(#[l4])=>`(#[er,(j0.lookup G)])
local macro_rules
|`(#[l3,$a,$b,$c])=>`(.inr ⟨q,c,v,F,$a _ (mem_of_lookup F) _ $b,$c⟩)
|`(#[l2])=>`(λc=>(if#[gM]then[92]++[c]else[c]:Tx))
|`(#[l1])=>`(#[kN,λp0 n Z=>by grind])
|`(#[l0,$a])=>`(([[40],[41]]:#[bz]).contains (ax (aA M) $a))
|`(#[lZ,$a,$b])=>`(S.sc.names[$a]?=aa (ak $b,.globalImplicit))
|`(#[lY,$a])=>`(k A _ _ _ Q E g c.rel $a)
|`(#[lX,$a])=>`((f0.2 a λe=>$a (e▸bC I)))
|`(#[lW,$a])=>`(lJ "wrapper_descriptor.__get__" #[Y,[$a,a,b]]=av ())
|`(#[lV,$a])=>`((eh (($a).filter #[gN]) L.length))
|`(#[lU])=>`((E0.endLine==N0.line)=ae)
local macro_rules
|`(#[lT])=>`(iV s.heap z r g .none)
|`(#[lS,$a,$b,$c,$d])=>`(aG w (h+1) (bL $a) #[cf,$b] $c #[cf,$d])
|`(#[lR])=>`(⟨#[f4],ab,.seq Y k,#[]⟩)
|`(#[lQ,$a,$b])=>`(($a #[aR,"list_iterator",.fields,#[$b,.int 0 0]]))
|`(#[lP])=>`(gf s.heap r #[K,i] #[K,i])
|`(#[lO,$a,$b])=>`(#[bY,bL,.Sub,#[v,$a],#[a5],#[cf,$b]])
|`(#[lN,$a,$b,$c,$d])=>`(#[b8,t,40,$a,#[b8,t,41,#[aa,$b,ai,$c],$d]])
|`(#[lM,$a])=>`(u0::C0::e0::R::J::l0::k0::O::$a)
|`(#[lL])=>`(h0.length=f0.length)
|`(#[lK,$a])=>`(∀t,#[kO,$a,"function"])
local macro_rules
|`(#[lJ,$a])=>`(λ⟨Y,n,e,h⟩=>#[aC,n,e,$a h])
|`(#[lI])=>`(λ⟨_,a0⟩=>⟨by omega,a0⟩)
|`(#[lH])=>`((vx λ_ _ _=>by kernel_rfl))
|`(#[lG])=>`((F0++[a0.objs.size]))
|`(#[lF])=>`((ah ((aW #[f0]).map #[io])))
|`(#[lE,$a])=>`(#[cQ,#[aa,($a !="object.__getattribute__")=ae,_,_]])
|`(#[lD])=>`(([t]++bh [] (r.map (eD M))))
|`(#[lC,$a])=>`(eE (dE a b) (cU c 12) 0 $a)
|`(#[lB])=>`(f.gB I λb o e X n0 _=>k b o e X n0)
|`(#[lA])=>`(bQ (j+1) [(ak "read",.ob j)])
local macro_rules
|`(#[lz])=>`(∀y∈X,∀j,y≠.ob j)
|`(#[ly,$a])=>`(aG.cast ($a #[f] Z) #[ak])
|`(#[lx])=>`(∀c,br (M c) (-#[a5])=aa c)
|`(#[lw])=>`(dX B w n S c0 U b0 i o0)
|`(#[lv])=>`(#[gO,g,H[b+i]?=aa (aX b e0)])
|`(#[lu,$a,$b,$c])=>`($a #[aH] A.in1 (od B (hv t C z)) (oe B (bZ C z) (hv t C z) #[de,t]) $b (.send .none) $c)
|`(#[lt,$a,$b])=>`(R2 _ _ $a $b (j2 _ (o2 _ #[z])))
|`(#[ls,$a,$b])=>`(yh $a $b "object.__setattr__" "object")
|`(#[lr,$a,$b,$c,$d,$e])=>`(∀S U H,#[aX,H,$a,ah (l.map #[cs])]->bW B w $b S #[cZ,$c] $d U H #[an,[$e]] H)
|`(#[lq,$a,$b,$c])=>`(λS U H h=>$a h rfl (bI.mpr #[M,$b]) $c)
local macro_rules
|`(#[lp,$a])=>`(#[da]->#[bc,H,.raw,$a]->gb B #[fr] s.heap a)
|`(#[lo,$a])=>`(∀k,k∈aW L.length->$a)
|`(#[ln,$a,$b])=>`((tA #[aR,"callable_iterator",.fields,$a])=.fields $b)
|`(#[lm,$a])=>`(el B $a l.gens.size l s)
|`(#[ll])=>`(∃a,O[d]?=aa a/\o.dict=aa a)
|`(#[lk])=>`(#[d3,h.push,"list_iterator",#[#[am],.int 0 0]])
|`(#[lj])=>`(de (b0.length+1) C b0.length ab)
|`(#[li])=>`(_=h0.set k (ik f0 R E k))
|`(#[lh,$a])=>`(⟨_,_,G,E,r,$a,λz x e=>?_⟩)
|`(#[lg])=>`(∀J,yn z J=([],[]))
local macro_rules
|`(#[lf,$a])=>`(∀l0,(l0,jt)∈j0.names->l0∈f0.closure.map (·.1)/\(l0==$a)=ai)
|`(#[le])=>`(∀q0,C (b0++[.list q0]))
|`(#[ld,$a])=>`([#[ft],#[bg,c0.map,#[cO]],#[aq,(c0.map #[is]).map M],#[aq,R.map M],$a])
|`(#[lc,$a,$b,$c])=>`(pC (w:=w) (n:=n) $a (b:=$b) $c #[f])
|`(#[lb,$a])=>`(.inl ⟨_,h0.set k (R.getD ($a%R.length) 0),rfl,?_,?_⟩)
|`(#[la])=>`(b0[t]?=aa (.tup [u,v]))
|`(#[k9,$a])=>`(#[dx,.AugAssign $a I a i0])
|`(#[k8])=>`(k1 h0 k _ (u0 _ a0))
|`(#[k7,$a])=>`(f0.globals=ed/\f0.builtins=cS/\$a)
|`(#[k6])=>`([Q,#[dz],.list u,.list C,.list [.str #[gL],.str [34,101,110,100],.str [101,110,100,10]]])
local macro_rules
|`(#[k5])=>`(Ev B w n h Q v d y f)
|`(#[k4,$a])=>`([#[ft],.list X,#[bg,c0.map,#[cO]],#[aq,(c0.map #[is]).map M],#[aq,R.map M],$a])
|`(#[k3,$a])=>`(∀c o,c≠z->c≠g->c≠i->s.heap.get? c=aa o->$a)
|`(#[k2,$a])=>`(∀H∈bb (bf l.length #[bG]),$a)
|`(#[k1,$a,$b])=>`(f0.getD (iW (#[fs,$a,$b]) #[gP]) [])
|`(#[k0,$a,$b,$c,$d,$e])=>`(($a $b).at' λo e=>$c _ (eH.mpr (bj e)) ($d) o ($e _ _ e))
|`(#[kZ,$a,$b])=>`(aj.set $a $b rfl #[a0] #[aZ] #[ai] ?_)
|`(#[kY])=>`(∀b o,#[cq]->bt h b->#[al,b]->Yg B b o->#[eT])
|`(#[kX])=>`(λA O l s R g=>h A _ _ s R (g.le U))
|`(#[kW,$a,$b])=>`(sQ B s.heap f f0 j0 $a k $b)
local macro_rules
|`(#[kV,$a,$b,$c,$d,$e,$f,$g])=>`(aj.gS (i:=3) (X:=c0.map #[cO]) (C:=λs=>#[aX,s,$a,c0.map #[cO]]) (b0:=$b) (c:=λm v s=>∃y h0,v=[#[bj],#[B,E],#[B,n],y,$c,$d,#[cz,$e],$f,ab,ab,ab,ab,ab]/\h0=(c0.take m).foldl (λo k=>o.set k (ik f0 R E k)) f0/\s=$g) ?_ rfl #[a0] #[ds,ab,f0,rfl,rfl] ?_ ?_ ?_ #[ai])
|`(#[kU])=>`([144,160,167,174,182,189,197,152,64,78,106,113])
|`(#[kT,$a])=>`([X,h0,f0,m0,o0,p0,q0,s0,t0,v0,j0,n0,x0,y0,A0,E0,I0,J0,G0,F0,#[aq,(aW N).map #[hq]],.list [#[ad,0]],#[az,hQ L C $a]])
|`(#[kS,$a])=>`((eu l0 q C N J0 $a ae i P j I0 F0 H0 A0 t0 x0 L0 F))
|`(#[kR])=>`([.Name x G0,.Name y E0])
|`(#[kQ])=>`({cls:=.ref 298,dict:=aa b0.objs.size,data:=.plain})
|`(#[kP,$a])=>`($a (ak "thirdparty.any")=ab)
|`(#[kO,$a,$b])=>`((#[bt]:fR).TypeIs (.ref $a) $b)
|`(#[kN,$a])=>`(bt.no S (λp0 q t Z=>#[R]) $a)
|`(#[kM])=>`((by have:=g.depth;omega))
local macro_rules
|`(#[kL])=>`((by rw[tM];kernel_rfl))
|`(#[kK])=>`(((I[i]?.getD ([],[])).1))
|`(#[kJ])=>`(((I[i]?.getD ([],[])).2))
|`(#[kI])=>`((f0.closure.map (·.1)).Nodup)
|`(#[kH])=>`((s.heap.objs.size+1))
|`(#[kG,$a])=>`($a++[#[aq,#[aK].flatMap #[fZ]]])
|`(#[kF,$a])=>`((Ev.name $a rfl rfl #[ak]))
|`(#[kE])=>`((A++(dr j g l).map (aX A.length)++v0))
|`(#[kD])=>`([c,y,A,I,.list p0,f,N])
|`(#[kC,$a,$b])=>`({s with heap:=($a).push (di "list" $b 0)})
local macro_rules
|`(#[kB])=>`(o.cls=.type "function")
|`(#[kA])=>`(∀a∈O,a<s.heap.objs.size)
|`(#[kz])=>`(#[bg,(bF f).map,#[a1]])
|`(#[ky])=>`((jF λ_=>by kernel_rfl))
|`(#[kx])=>`((jx c0 a ab f.size))
|`(#[kw,$a])=>`($a (ak "self")=aa .local)
|`(#[kv])=>`(.list [#[ad,0],#[ad,1],#[ad,f-1]])
|`(#[ku])=>`((by rw[z.size];exact R))
|`(#[kt,$a])=>`(λA J O s Q E g M q=>h A _ _ s Q E g M $a)
|`(#[ks])=>`(λx e=>by cases e;rfl)
local macro_rules
|`(#[kr,$a])=>`((#[ew,#[eS],(vK T $a [])]++v0))
|`(#[kq,$a])=>`($a=s.heap.objs.size+1)
|`(#[kp])=>`(("__classdict__":aq))
|`(#[ko,$a])=>`(#[aS,($a).trans N,a0])
|`(#[kn,$a])=>`(($a !="object.__getattribute__")=ai)
|`(#[km])=>`(#[d8,T,"__getattr__"])
|`(#[kl])=>`((bh [] #[db,f0.map]))
|`(#[kk])=>`(f0.kwdefaults=.none)
|`(#[kj,$a])=>`(#[aE,$a,#[M,by rw[<-M.len];simp]])
|`(#[ki])=>`(bh [] (f0.map (eD M)))
local macro_rules
|`(#[kh,$a,$b])=>`(#[l9,#[bk]->#[ah]->($a)->$b])
|`(#[kg,$a])=>`($a∈j0.names.take k)
|`(#[kf,$a])=>`(#[bN,h.objs.size,#[bu,$a,t]])
|`(#[ke,$a])=>`(#[#[am],.str #[du] $a,#[dt]])
|`(#[kd])=>`(#[aa,H.contains (p+bp l),eQ l (bp l),l])
|`(#[kc,$a])=>`(c0.CodeRec (.ref $a) x.qual)
|`(#[kb])=>`((x=="__debug__")=ai)
|`(#[ka])=>`(f0.body=.stmts r0)
|`(#[j9])=>`((.Slice c0 P ab p))
|`(#[j8])=>`(∀i,i<n->j[i]?=O[i]?)
local macro_rules
|`(#[j7])=>`(∀x∈L,97<=x/\x<=101)
|`(#[j6,$a])=>`(($a).mono λo v s h=>?_)
|`(#[j5,$a])=>`(⟨eB _ _,λb Z=>?_,?_,$a⟩)
|`(#[j4,$a,$b])=>`(#[jt,$a,[$b,#[am],.ref C]])
|`(#[j3])=>`(#[dc,_::[],_,_,_])
|`(#[j2])=>`(∃S,h.Ns ia S/\#[kP,S])
|`(#[j1,$a,$b])=>`(fm $a A R Y n l c ((jU $b J).wrap h0 H a g) j0 s)
|`(#[jZ])=>`(ib (t A _ _ _ _ s _ E g M ?_))
|`(#[jY,$a,$b])=>`(∀x:V,D.atom ($a $b)=D.atom x->bR x=ae)
|`(#[jX])=>`((A++(#[bm,j0,d,T,I]).map (aX A.length)))
local macro_rules
|`(#[jW])=>`(k+1+r.length=k+(r.length+1))
|`(#[jV,$a,$b])=>`(∀l:#[bz],l.Perm f0->l.Pairwise (λa b=>$a a<=$b b)->l=r)
|`(#[jU,$a,$b,$c,$d,$e,$f,$g])=>`(aj.gS (B:=B) (w:=w) (n:=n) (S:=bE) (i:=$a) (X:=$b) (C:=$c) (b0:=$d) (c:=λm v s=>$e) $f rfl #[a0] $g ?_ ?_ ?_ ?_)
|`(#[jT,$a])=>`(∀n R P T M k,e0=.hp n R P T M k->$a)
|`(#[jS])=>`(λe=>(ai,aU e J))
|`(#[jR,$a,$b])=>`($a (λk=>V.int ($b :Nat))=X)
|`(#[jQ,$a,$b])=>`($a=.free->(J.cells.lookup $b).isSome=ae)
|`(#[jP])=>`(kh (k:=k+1) (by simpa using h))
|`(#[jO,$a])=>`(cP [] (j0.names.map λ_=>ab) $a=T)
|`(#[jN])=>`([9,10]++eE M A 0 L)
local macro_rules
|`(#[jM,$a,$b,$c])=>`(($a (aC.push $b rfl #[cw,0,$c])))
|`(#[jL])=>`([.ob 1,.str f,.str p])
|`(#[jK,$a,$b,$c,$d])=>`(fp B w n S (dj $a) $b $c U H $d H)
|`(#[jJ])=>`((cP U (eJ S.sc.names j0.names) Y))
|`(#[jI])=>`((kR.take (eG a)))
|`(#[jH])=>`(cJ B w n S #[aP,"range",p] (.type "range"))
|`(#[jG])=>`(df T.text (T.text.size-p) p)
|`(#[jF])=>`(dX B w n S P U o0 j w0)
|`(#[jE])=>`([#[aq,l.map M],#[aq,l.map #[cs]],O,J,.list f0])
|`(#[jD])=>`(#[aR,"function",.func,f0])
local macro_rules
|`(#[jC])=>`((O.drop b).take g.length)
|`(#[jB])=>`(ba B 113 hB 3 kS)
|`(#[jA])=>`(fJ (j0.getD k 0) r)
|`(#[jz])=>`(((N.update f (dB λ_=>(#[]:#[be]))).push (di "tuple" Y.toList.toArray 0)))
|`(#[jy])=>`(#[f1,tT #[eO] a i0.line J=av ai])
|`(#[jx,$a])=>`([X,#[dz],f0,m0,o0,p0,q0,s0,t0,v0,x0,A0,F0,H0,I0,J0,$a,#[kz],#[gR],L0,N0,O0,Y0])
|`(#[jw,$a])=>`((ay L.length L 0 $a))
|`(#[jv,$a])=>`(∀p∈$a,J.cells.lookup p.1=aa p.2)
|`(#[ju,$a,$b])=>`(.raw (gc z ($a r0) d $b))
|`(#[jt,$a,$b])=>`((dQ (.builtin $a) $b))
local macro_rules
|`(#[js])=>`(I.getD (eh J0 l) 0)
|`(#[jr,$a])=>`($a=s.heap.objs.size)
|`(#[jq])=>`(λb o e=>bM _ (bM _ e))
|`(#[jp,$a])=>`($a (by simpa[da]using h))
|`(#[jo])=>`(List (Option Nat))
|`(#[jn])=>`(#[Q,L.heap.objs.size])
|`(#[jm,$a])=>`(#[aM,#[cM,dQ,f,$a]])
|`(#[jl])=>`((n0.reverse.take k))
|`(#[jk])=>`(r0 "__getattr__"=ab)
|`(#[jj])=>`((bU c L.length))
local macro_rules
|`(#[ji,$a,$b])=>`($a=.local\/($b=.cell/\x∈S.mc))
|`(#[jh])=>`((cM f0 L 174))
|`(#[jg])=>`(b0[d]?=aa (bQ k j0))
|`(#[jf,$a])=>`(hl S J O B C.heap.objs.size $a)
|`(#[je])=>`(eb #[f] #[f])
|`(#[jd])=>`(#[jv,f0.closure])
|`(#[jc,$a])=>`(s.heap.IsListIter i l $a)
|`(#[jb,$a])=>`($a b o (by simpa using Z) e)
|`(#[ja,$a])=>`(#[aC,rfl,λ_ _ x=>x,$a])
|`(#[i9])=>`((bf l.length #[bG]))
local macro_rules
|`(#[i8])=>`(A.depth+1+n<_)
|`(#[i7,$a,$b])=>`(($a λo e=>#[aL,c.rel.gh,e,$b]))
|`(#[i6])=>`((h.push #[aR,"dict",.dict,#[]]))
|`(#[i5])=>`(J0.getD #[u] 0)
|`(#[i4])=>`((b0++[#[ju,.expr,d1]]))
|`(#[i3,$a])=>`(#[cY,T,"__getattribute__",$a])
|`(#[i2,$a])=>`(ay l.length l 0 $a)
|`(#[i1,$a])=>`(cg B w n S $a U H X C b0)
|`(#[i0,$a,$b,$c])=>`(n1.mono _ _ _ _ _ $a $b λo e=>$c)
|`(#[iZ])=>`([#[bg,Q.map,V.int],#[bg,u.map,V.int]])
local macro_rules
|`(#[iY])=>`(∀c∈L,iy c)
|`(#[iX])=>`(gE (ay L.length L 0 []))
|`(#[iW])=>`((s.heap.update x (dB f)))
|`(#[iV])=>`((di "list" #[] F))
|`(#[iU])=>`(bg (.type T) G=av y)
|`(#[iT,$a,$b])=>`(E::u0::$a ::e0::R::J::l0::k0::O::c0::$b)
|`(#[iS])=>`([b0,#[d4],a,#[d4],.list P,.list u])
|`(#[iR])=>`(((O.drop b).take g.length))
|`(#[iQ])=>`(h.objs.size=335)
|`(#[iP,$a,$b])=>`(⟨P.pre,P.new,$a,$b⟩)
local macro_rules
|`(#[iO])=>`(T.length<=10000)
|`(#[iN])=>`([h.objs.size,h.objs.size+1])
|`(#[iM,$a])=>`(∀l,l.length=$a->p l)
|`(#[iL])=>`(∀c,o.data≠.cls c)
|`(#[iK])=>`((A.over c j0))
|`(#[iJ])=>`(((b0.push #[aR,"dict",.dict,#[]]).push #[kQ]))
|`(#[iI])=>`(((h.push #[aR,"dict",.dict,#[]]).push #[fv,200,.seq #[]]))
|`(#[iH])=>`(B.heap.get? f=aa q0)
|`(#[iG])=>`(∀b,#[ap,b]->#[al,b])
|`(#[iF,$a])=>`(#[dN,L.take,$a,aA (dE a b)])
local macro_rules
|`(#[iE])=>`(λS=>[aS M (n0 S),aS M (n0 (f0::S))])
|`(#[iD,$a])=>`(ag (jK H R U z X $a ?_))
|`(#[iC])=>`((aA (dE a b) L[j]))
|`(#[iB,$a,$b])=>`(aF B eL J [] $a [] $b)
|`(#[iA])=>`(h.Inst x C s0)
|`(#[iz,$a,$b])=>`(#[aF,.Constant $a k i0,$b,H])
|`(#[iy])=>`([E0,S,H,C,v0])
|`(#[ix,$a])=>`((ag (lO (T:="int") (b:=ai) (mB _ _ _) $a ?_)))
|`(#[iw,$a,$b,$c])=>`((show mo (ak $a) [(ak ".0",NameKind.local),(ak "fws",NameKind.local),(ak "part",NameKind.local),(ak $b,nK)]=aa $c from by decide+kernel))
|`(#[iv,$a,$b,$c,$d])=>`(aj.oE z $a #[aD,0] rfl cy.de rfl #[i] #[aB] #[aB] $b $c ($d) #[aj] rfl rfl rfl ?_)
local macro_rules
|`(#[iu])=>`([X,h0,f0,m0,o0,p0,q0,s0,t0,v0,f,j,k,m,q,y,z,A,C,M,.list r])
|`(#[it,$a])=>`(∀b o,$a b=aa o->#[eT])
|`(#[is])=>`(λk=>f0.getD k 0)
|`(#[ir,$a,$b])=>`(iY (.builtin $a)=av (.type $b))
|`(#[iq,$a,$b,$c,$d,$e])=>`((cw.cons $a $b #[av] (cw.cons $c $d #[av] $e)))
|`(#[ip,$a])=>`(hc B C T v0 F $a r0)
|`(#[io])=>`(λm=>aS M #[jw,#[mL]])
|`(#[im])=>`(λq=>V.int (q:Nat))
|`(#[il,$a,$b])=>`(($a #[aR,"dict",.dict,#[]]).push $b)
|`(#[ik,$a,$b])=>`(⟨$a,λo f0 U z1=>$b⟩)
local macro_rules
|`(#[ij,$a])=>`(∀t∈$a,t=40\/t=41\/(97<=t/\t<=101))
|`(#[ii])=>`(λ_ _ _ _ _ _ h=>nomatch h)
|`(#[ih])=>`(λ_ _ h=>h.elim)
|`(#[ig])=>`(λ_ _ r=>r.pre (eB _ _))
|`(#[ie,$a,$b])=>`((hdz.heap_328 P).lookup $a=aa $b)
|`(#[id,$a,$b])=>`((#[ew,#[eS],(vK T j $a)]++$b))
|`(#[ic])=>`(#[B,L.length])
|`(#[ib])=>`(#[P,aS M f])
|`(#[ia,$a])=>`(#[bb,$a,l.length])
|`(#[h9,$a,$b])=>`(#[bb,$a,($b).length])
local macro_rules
|`(#[h8])=>`(#[de,dF a])
|`(#[h7,$a,$b])=>`((∀x∈$a,eN x=ae)/\$b)
|`(#[h6])=>`(#[bc,b0,.list,X])
|`(#[h5])=>`(#[e8,d.kind])
|`(#[h4])=>`(r0 "__getattribute__"=ab)
|`(#[h3])=>`((λc=>#[eu,c]))
|`(#[h2])=>`(q0.data=.func f0)
|`(#[h1])=>`(cI B O H s.heap)
|`(#[h0])=>`({s with heap:=c0})
|`(#[hZ])=>`((ah (f.map #[cx])))
local macro_rules
|`(#[hY])=>`((cM f0 L 167))
|`(#[hX,$a])=>`(#[ir,$a,"method_descriptor"])
|`(#[hW,$a,$b])=>`(⟨$a,aa M0,.seq Y $b,#[]⟩)
|`(#[hV])=>`(b+g.length<=H.length)
|`(#[hU,$a,$b,$c,$d,$e,$f])=>`(aC B S J $a U $b $c $d {$e with heap:=$f})
|`(#[hT,$a])=>`((C.G.gl $a _ _ rfl))
|`(#[hS])=>`(λQ E p s U h=>d _ Q E p s U h)
|`(#[hR])=>`(#[bx,cu,d,Y])
|`(#[hQ,$a,$b,$c])=>`(($a gI).sum+$b *#[f2,$c]<=aB)
|`(#[hP])=>`(nA.mpr #[df])
local macro_rules
|`(#[hO])=>`(f0.globals=ed)
|`(#[hN])=>`(f0.builtins=cS)
|`(#[hM])=>`(#[cE,l,U,m0,h0])
|`(#[hL,$a])=>`(#[dv,.tail _ $a,by kernel_rfl])
|`(#[hK,$a])=>`(((be P.length ai $a).foldl (eP a) d))
|`(#[hJ,$a,$b,$c])=>`(λe=>$a (il R.nodup $b (e▸$c)))
|`(#[hI])=>`(eJ S.sc.names d.names=G)
|`(#[hH,$a])=>`(jz a (aa $a) i0.line J=av ai)
|`(#[hG])=>`([.list i,.list a,.list u,#[fx],.list g])
|`(#[hF])=>`(∀R,e0≠.raw R)
local macro_rules
|`(#[hE])=>`(λs0=>Z (by simp[s0]))
|`(#[hD,$a,$b])=>`(pd (.type "list") $a=av (aa #[cZ,$b]))
|`(#[hC,$a])=>`(cu B w n S $a U b0 Y o0)
|`(#[hB])=>`(((h.push #[aR,"dict",.dict,#[]]).push #[fv,116,.plain]))
|`(#[hA,$a])=>`(($a t a s r i b))
|`(#[hz])=>`(λp=>[p.1,p.2])
|`(#[hy,$a,$b])=>`(bW B w n S $a ($b ::Y) U o0 r w0)
|`(#[hx])=>`(d0 (ak "super")=ab/\g0 (ak "super")=aa (.type "super"))
|`(#[hw,$a,$b])=>`(mb (w:=w) (n:=n) $a $b #[f] #[f])
|`(#[hv])=>`(ba B f j0 k r0 E0)
local macro_rules
|`(#[hu,$a,$b])=>`(ew J #[aw] #[ak] #[aw] rfl $a (λx h=>$b))
|`(#[ht])=>`([X,#[dz],f0,m0,o0,p0,q0,s0,t0,v0,u0,x0,y0,A0,E0,F0,N0,O0,L0,G0,I0,J0,#[az,I],#[az,j0]])
|`(#[hs,$a])=>`(#[cE,$a,U,H,h0])
|`(#[hr])=>`((aC.refl M))
|`(#[hq])=>`(λm=>aS M (C m))
|`(#[hp])=>`(h.objs.size<=c0.objs.size)
|`(#[ho,$a,$b,$c])=>`(bt.no $a (λY q t d v=>$b) λY n d=>$c)
|`(#[hn])=>`((.forLoop T d r0 z J))
|`(#[hm,$a,$b,$c,$d,$e,$f])=>`($a ::$b ::$c ::R::J::l0::$d ::O::c0::$e ::$f)
|`(#[hl])=>`(λS=>aS M (n0 S))
local macro_rules
|`(#[hk])=>`(GH B L.heap)
|`(#[hj,$a])=>`((ah ($a (ax M))))
|`(#[hi,$a,$b])=>`($a (ak $b)=aa .globalImplicit)
|`(#[hh])=>`(A.handled=ab)
|`(#[hg])=>`(#[bl,C,#[kS,v0]])
|`(#[hf])=>`(#[a6,Y,ah f0])
|`(#[he])=>`(.inr (by cases e;rfl))
|`(#[hd])=>`(I.length-1-k)
|`(#[hc,$a,$b,$c])=>`(Ev B w (n+1) S $a U H $b $c)
|`(#[hb,$a])=>`(#[fu,$a,#[aw],#[ky]])
local macro_rules
|`(#[ha,$a,$b,$c,$d])=>`(#[bY,bL,$a,$b,#[v,$c],#[cf,$d]])
|`(#[g9])=>`(Y.size=I.length)
|`(#[g8,$a])=>`(#[cR,#[d5,ak $a,y0],[e]])
|`(#[g7])=>`(ag (dI (ag (cf ?_))))
|`(#[g6])=>`([.atom (.str a)])
|`(#[g5,$a,$b])=>`(#[aN,$a _ $b,fk _])
|`(#[g4,$a])=>`(q _ _ _ _ _ _ #[b9] $a rfl)
|`(#[g3])=>`(1+T.count 10)
|`(#[g2,$a,$b,$c])=>`((Et.ht $a $b $c (by rfl)))
|`(#[g1,$a,$b])=>`(⟨ko _,λ_ h=>.inl h,$a,$b⟩)
local macro_rules
|`(#[g0])=>`((mR λ_ _=>by kernel_rfl))
|`(#[gZ,$a,$b])=>`(aj.expr ($a) (#[df]) $b)
|`(#[gY,$a,$b,$c,$d])=>`((.ListComp $a [⟨.Name x $b,$c,$d,0⟩] d i0))
|`(#[gX,$a])=>`((cj M (bO l) [] $a))
|`(#[gW])=>`(∀c∈I,#[fy,c.1]/\#[fy,c.2])
|`(#[gV,$a,$b,$c,$d])=>`(#[.str ($a).1 ($b).2,.str ($c).2.2.1 $d])
|`(#[gU,$a,$b,$c])=>`(∀(i:Nat)(a:ao)(e0:Ob),$a->#[cD,$b]->$c)
|`(#[gT,$a,$b,$c,$d])=>`(bG.dM $a $b $c rfl rfl rfl $d rfl rfl rfl ?_)
|`(#[gS,$a,$b,$c,$d,$e])=>`(Mine.W.set (B:=B) (w:=w) (n:=n) (S:=bE) (v:=$a) (b0:=$b) (x0:=$c) $d $e rfl #[a0] #[aZ] #[ai] rfl ?_)
|`(#[gR])=>`(#[bg,u.map,#[a1]])
local macro_rules
|`(#[gQ,$a])=>`((dC B k d $a))
|`(#[gP])=>`((Y.size-1))
|`(#[gO,$a,$b])=>`(∀(i:Nat)(e0:Ob),#[cD,$a]->$b)
|`(#[gN])=>`(λt=>! dV t)
|`(#[gM])=>`(#[ax,c∈[92,34]])
|`(#[gL])=>`([101,110,100])
|`(#[gK])=>`(#[B,bU c l])
|`(#[gJ,$a])=>`(#[aM,aU $a J])
|`(#[gI,$a])=>`(f0.code=.ref $a)
|`(#[gH])=>`([c,y,A,I,.list P,f,N])
local macro_rules
|`(#[gG,$a])=>`(⟨trivial,$a⟩)
|`(#[gF,$a])=>`(∀x J,lK $a J x=av x)
|`(#[gE,$a])=>`(B.heap.get? $a=aa o)
|`(#[gD])=>`(.type "tuple")
|`(#[gC,$a])=>`(#[aW,$a,#[gQ,I]])
|`(#[gB])=>`(j<U.length)
|`(#[gA,$a,$b,$c])=>`($a/\(#[dQ,p.2≠$b])/\$c)
|`(#[gz])=>`(L.length<=5)
|`(#[gy])=>`(List (aq×fC))
|`(#[gx,$a,$b,$c])=>`(#[cg,bW,#[cZ,$a],$b,$c,m0])
local macro_rules
|`(#[gw])=>`(R.store i a _ I Z)
|`(#[gv])=>`(#[bu,h,t+1])
|`(#[gu,$a,$b])=>`(#[bY,dj,$a,i,j,.bool (decide ($b))])
|`(#[gt])=>`((s.setGen g .running))
|`(#[gs])=>`(q0.cls=.type "function")
|`(#[gr])=>`((cm _ rfl))
|`(#[gq,$a])=>`(#[aM,#[ct,jV,$a]])
|`(#[gp,$a])=>`((eC ($a).1.symm))
|`(#[go])=>`(h.Ns cS g0)
|`(#[gn])=>`(h.Ns ed d0)
local macro_rules
|`(#[gm])=>`((aA (gy M)))
|`(#[gl])=>`(#[a6,Y.toList,X])
|`(#[gk,$a])=>`((if$a then _ else _)=_)
|`(#[gj])=>`(λx z=>h x #[br,z])
|`(#[gi,$a])=>`(λb o Z e=>($a b Z).trans e)
|`(#[gh])=>`(#[bc,H,.tup,X])
|`(#[gg,$a,$b,$c,$d])=>`(Fn B w n $a [$b,#[cv,#[v,$c]]] $d)
|`(#[gf,$a])=>`(Fn.dM F J rfl rfl rfl rfl $a ?_)
|`(#[ge,$a,$b,$c])=>`(∀b o,$a->$b->#[al,b]->$c)
|`(#[gd,$a])=>`(∀(l:#[g])(a:Nat),$a)
local macro_rules
|`(#[gc,$a,$b,$c])=>`(#[aF,.Subscript a $a i0,$b,$c])
|`(#[gb,$a])=>`((jT i0 (jy $a J)))
|`(#[ga,$a,$b])=>`(∀(i:Nat)(x:V),#[f3,$a]->$b)
|`(#[f9,$a])=>`(∀x∈$a,x≠40/\x≠41)
|`(#[f8])=>`(jw (.type T)=av v0)
|`(#[f7])=>`((fS J d.names []))
|`(#[f6])=>`([34,92,34,41,34])
|`(#[f5])=>`(#[o]->#[l]->Prop)
|`(#[f4])=>`(.type "list")
|`(#[f3,$a])=>`(#[bc,$a,aa,x])
local macro_rules
|`(#[f2,$a])=>`(($a :Tx).length)
|`(#[f1,$a])=>`(∀J,J.scope=S.sc->$a)
|`(#[f0])=>`(#[t,bb,#[ba]])
|`(#[fZ])=>`(λc=>[c.1,c.2])
|`(#[fY])=>`(λ_ _=>False)
|`(#[fX])=>`((λ_=>True))
|`(#[fW])=>`(λh=>nomatch h)
|`(#[fV])=>`(λc=>#[dP])
|`(#[fU])=>`(t.length<=aB)
|`(#[fT])=>`(b0.length=r)
local macro_rules
|`(#[fS])=>`(#[d7,j0,S.fz])
|`(#[fR,$a,$b])=>`(s0 $a=aa (.ref $b))
|`(#[fQ,$a,$b,$c])=>`(∀b o,$a->$b->$c b=aa o)
|`(#[fP,$a])=>`($a (q _ _ rfl))
|`(#[fO,$a,$b,$c])=>`(br $a #[v,$b]=#[P,$c])
|`(#[fN,$a])=>`(#[cR,#[d5,G,y0],$a])
|`(#[fM,$a,$b,$c])=>`(#[cg,bW,#[cZ,$a],$b,$c,H])
|`(#[fL])=>`(#[b2,o,#[ce]])
|`(#[fK])=>`(#[B,2^bU c l])
|`(#[fJ])=>`((#[dO,A,l]++[dy]))
local macro_rules
|`(#[fI,$a])=>`(#[aE,#[hr].toks _,$a])
|`(#[fH,$a])=>`($a (f0.getD k 0))
|`(#[fG,$a,$b])=>`(o.data=.seq $a $b)
|`(#[fF])=>`({s with toks:=p0})
|`(#[fE])=>`(bU c L.length)
|`(#[fD])=>`((u.map (dW (bU c l) f)))
|`(#[fC,$a,$b,$c])=>`(($a #[aR,"tuple",.seq,#[$b,$c]]))
|`(#[fB])=>`(∀o,#[dw,a]->#[cu])
|`(#[fA,$a,$b,$c])=>`(aj.cutAt $a $b ($c) (λ_ _ _ h=>h.1) (λv s h=>?_))
|`(#[fz,$a])=>`(#[aq,$a #[cx]])
local macro_rules
|`(#[fy,$a])=>`(($a).length<=2^20)
|`(#[fx])=>`(#[aq,L.map (aA M)])
|`(#[fw,$a,$b])=>`((λo v s=>#[d6,$a,$b]))
|`(#[fv,$a,$b])=>`({cls:=.ref $a,dict:=aa h.objs.size,data:=$b})
|`(#[fu,$a,$b,$c])=>`(ew J (c:=$a) #[aw] #[ak] $b rfl $c #[av])
|`(#[ft])=>`(#[aq,#[dd,f0.map]])
|`(#[fs,$a,$b])=>`(λi j=>#[ax,$a<$b])
|`(#[fr])=>`((cM f0 s.heap.objs.size f))
|`(#[fq,$a])=>`(∀x∈$a,bR x=ae)
|`(#[fp])=>`(#[G,if_neg])
local macro_rules
|`(#[fo,$a,$b])=>`(aM (VR []) $a $b)
|`(#[fn,$a])=>`(#[d8,"list",$a])
|`(#[fm,$a])=>`((U.set i (aa $a)))
|`(#[fl])=>`(#[d7,ft d S.sc,S.fz])
|`(#[fk])=>`(List (aq×V))
|`(#[fj])=>`(f0.getD j [])
|`(#[fi,$a,$b])=>`((c.rel.gh.2.1 _ _ $a $b))
|`(#[fh,$a])=>`((.list (ah $a)))
|`(#[fg])=>`(#[it,s.heap.get?])
|`(#[ff])=>`(#[cN,c0,p0])
local macro_rules
|`(#[fe,$a,$b])=>`([.str $a,.str $b])
|`(#[fd])=>`((G0++[k0.heap.objs.size]))
|`(#[fc])=>`((I++[(f,p)]))
|`(#[fb])=>`((ay l.length l 0 H))
|`(#[fa,$a,$b])=>`([X,#[dz],f0,m0,o0,p0,q0,s0,t0,v0,x0,A0,F0,H0,I0,J0,$a,#[kz],#[gR],L0,N0,O0,Y0,$b])
|`(#[e9,$a])=>`(h.get? $a=aa o)
|`(#[e8,$a])=>`($a=.function)
|`(#[e7])=>`(λb o e=>bM _ e)
|`(#[e6])=>`(#[B,l.length])
|`(#[e5,$a,$b])=>`(($a).cps.toList=$b)
local macro_rules
|`(#[e4])=>`(#[a7,Int])
|`(#[e3,$a,$b,$c,$d])=>`(aG w n (dj $a) $b $c $d)
|`(#[e2])=>`(bz (j0.drop k))
|`(#[e1])=>`(#[bl,C,#[kS,#[ev]]])
|`(#[e0,$a,$b,$c,$d])=>`(aj.seq (R:=$a) (λA J O s Q E g M q=>$b) ($c) ($d))
|`(#[eZ])=>`(Cx (n+1) A)
|`(#[eY])=>`(cy e0 C d)
|`(#[eX])=>`(je S.mc d=ae)
|`(#[eW])=>`(cU c 12 j)
|`(#[eV])=>`([34,40,34])
local macro_rules
|`(#[eU,$a])=>`(#[dx,.Assign $a a i0])
|`(#[eT])=>`(c0.get? b=aa o)
|`(#[eS])=>`([X,o0,m0,C,d])
|`(#[eR])=>`(#[l]->Prop)
|`(#[eQ,$a])=>`((v.set i (aa $a)))
|`(#[eP])=>`((aej l k))
|`(#[eO])=>`([.Tuple #[kR] M0 N0])
|`(#[eN,$a])=>`(∀l:#[g],$a)
|`(#[eM,$a])=>`(#[T,($a :Nat)])
|`(#[eL])=>`(#[a7,Bool])
local macro_rules
|`(#[eK])=>`(i<U.length)
|`(#[eJ])=>`(I.length<=2^20)
|`(#[eI])=>`(Array Nat)
|`(#[eH])=>`(#[aQ,if_neg])
|`(#[eG])=>`(j0.isCoroutine=ai)
|`(#[eF])=>`(j0.isGenerator=ai)
|`(#[eE])=>`(#[bm,cE,d,T,I])
|`(#[eD,$a,$b])=>`(∀b o,$a b=aa o->$b b=aa o)
|`(#[eC,$a,$b])=>`(r0 $a=aa (.ref $b))
|`(#[eB,$a])=>`(#[I,S.sc.names,(x,$a)])
local macro_rules
|`(#[eA,$a])=>`(#[I,S.sc.names,(l0,$a)])
|`(#[ez])=>`(f0.getD i [])
|`(#[ey,$a])=>`(aw M A $a Q E s)
|`(#[ex,$a,$b])=>`(#[aW,S.sc.names,($a,$b)])
|`(#[ew,$a,$b])=>`($a++($b).map (aX 5))
|`(#[ev])=>`([#[f4],.type "object"])
|`(#[eu,$a])=>`(V.str (M $a))
|`(#[et,$a,$b,$c])=>`(aw #[aH] A $a ($b) E $c)
|`(#[es])=>`((fG #[bB,c]))
|`(#[er,$a])=>`(($a).isNone=ae)
local macro_rules
|`(#[eq])=>`((.refl M))
|`(#[ep])=>`(#[aV,m0,j,L])
|`(#[eo])=>`((dJ P f))
|`(#[en])=>`(λ_ _ _ h=>nomatch h)
|`(#[em])=>`((bp l+1))
|`(#[el])=>`(#[Q,c0.objs.size])
|`(#[ek])=>`(cv [e]=ae)
|`(#[ej,$a])=>`(#[cQ,$a>>=_])
|`(#[ei])=>`(#[e8,j0.kind])
|`(#[eh])=>`(∀J,ec o G J (aU o J)=aU o J)
local macro_rules
|`(#[eg,$a])=>`(∀J,ec o (ak $a) J (aU o J)=aU o J)
|`(#[ef,$a])=>`($a++[.list q0]=m0)
|`(#[ee])=>`((f0.getD k 0))
|`(#[ed])=>`(#[aq,#[db,f.map]])
|`(#[ec])=>`(M c++[e c])
|`(#[eb,$a])=>`(aw #[cP] A $a Q E #[bt])
|`(#[ea,$a,$b,$c,$d,$e,$f])=>`(#[dc,(ee.drop $a).take $b,$c,$d,#[fw,$e,s=$f]])
|`(#[d9])=>`(l.length%2)
|`(#[d8,$a,$b])=>`(bg (.type $a) $b=av ab)
|`(#[d7,$a,$b])=>`(⟨$a,$b,[],[]⟩)
local macro_rules
|`(#[d6,$a,$b])=>`(o=.next/\$a/\$b)
|`(#[d5,$a,$b])=>`((.Attribute o $a $b))
|`(#[d4])=>`(#[fz,f.map])
|`(#[d3,$a,$b,$c])=>`($a #[aR,$b,.fields,$c])
|`(#[d2])=>`(.list [])
|`(#[d1,$a])=>`(#[dS,$a,#[bt]])
|`(#[d0,$a,$b])=>`(#[cE,l,$a,$b,h0])
|`(#[dZ])=>`(bz (j0.drop #[u]))
|`(#[dY,$a])=>`($a (q _ _ #[aU]))
|`(#[dX])=>`((bF f).getD k 0)
local macro_rules
|`(#[dW])=>`(o.data=.func f0)
|`(#[dV,$a,$b,$c])=>`($a=.local\/($b=.cell/\$c∈S.mc))
|`(#[dU,$a,$b])=>`($a A J O s _ E g M $b)
|`(#[dT])=>`(h.Ns N r0)
|`(#[dS,$a,$b])=>`(aw #[aH] A $a Q E $b)
|`(#[dR,$a,$b,$c,$d])=>`(Ev B w n S $a U $b $c $d)
|`(#[dQ,$a])=>`(∀p∈J.cells,$a)
|`(#[dP])=>`(V.str [c])
|`(#[dO,$a,$b])=>`(cj M (bO l) $a $b)
|`(#[dN,$a,$b,$c])=>`(ah (($a $b).map $c))
local macro_rules
|`(#[dM])=>`((B.at_ c0))
|`(#[dL,$a,$b])=>`(s.heap.Ns $a $b)
|`(#[dK,$a,$b])=>`(#[ew,#[eS],(vK T j $a)]++$b)
|`(#[dJ,$a])=>`(λb o e _=>$a b o e)
|`(#[dI,$a,$b,$c,$d])=>`(.inl ⟨$a,$b,$c,$d⟩)
|`(#[dH,$a,$b,$c])=>`((.Attribute $a (ak $b) $c))
|`(#[dG,$a,$b,$c])=>`($a λo e=>#[aL,$b,e,$c])
|`(#[dF,$a])=>`(aj.nil (aj.nil $a))
|`(#[dE])=>`(dn _ _ u)
|`(#[dD,$a])=>`(∀t∈$a,hy t)
local macro_rules
|`(#[dC])=>`(⟨#[c]⟩)
|`(#[dB])=>`(bJ->#[o]->#[eR])
|`(#[dA,$a])=>`(V.int #[v,$a])
|`(#[dz])=>`(.list [.int a,.int b,.int c,.int d])
|`(#[dy,$a,$b])=>`($a/\bX (B0 h c0) $b)
|`(#[dx,$a])=>`(#[hs,$a ::l])
|`(#[dw,$a])=>`(c0.get? $a=aa o)
|`(#[dv,$a,$b])=>`(⟨$a,rfl,$b⟩)
|`(#[du])=>`(⟨#[]⟩)
|`(#[dt])=>`(.bool ai)
local macro_rules
|`(#[ds,$a,$b,$c,$d])=>`(⟨$a,$b,$c,$d,rfl⟩)
|`(#[dr])=>`(#[V,20])
|`(#[dq])=>`(#[de,t].length)
|`(#[dp,$a])=>`(∀b∈M,$a)
|`(#[dn])=>`(.inl rfl)
|`(#[dm,$a])=>`(#[aN,rfl,$a])
|`(#[dl,$a])=>`(#[aN,h.1,$a])
|`(#[dk])=>`((#[bm,j0,d,T,I]++v0))
|`(#[dj])=>`((c.trans y))
|`(#[di,$a,$b])=>`(∀b o,$a->$b->#[eT])
local macro_rules
|`(#[dh])=>`(o.cls=.ref C)
|`(#[dg,$a,$b,$c])=>`(aF B S J $a U $b $c)
|`(#[df])=>`(λ_ _=>rfl)
|`(#[de,$a])=>`((be 0 ai $a))
|`(#[dd,$a])=>`(($a (ax M)))
|`(#[dc,$a,$b,$c,$d])=>`(aj B w n bE $a $b $c $d)
|`(#[db,$a])=>`(($a (ax (aA M))))
|`(#[da])=>`(#[I,O,a])
|`(#[c9,$a,$b])=>`(λA J O s Q E g M q=>$a ($b))
|`(#[c8,$a,$b])=>`(d0 (ak $a)=aa (.ref $b))
local macro_rules
|`(#[c7])=>`(s.heap.get? b=aa o)
|`(#[c6,$a])=>`(ag (az $a))
|`(#[c5])=>`(Array eW)
|`(#[c4])=>`(GH B s.heap)
|`(#[c3,$a,$b,$c])=>`($a A _ _ _ _ E g $b $c)
|`(#[c2,$a,$b])=>`(#[bY,dR,$a,i,j,#[T,$b]])
|`(#[c1])=>`(if_neg ff)
|`(#[c0])=>`(fw B w d0 g0 s0 L)
|`(#[cZ,$a])=>`((.builtin $a))
|`(#[cY,$a,$b,$c])=>`(bg (.type $a) $b=av (aa #[cZ,$c]))
local macro_rules
|`(#[cX])=>`(λi x e=>?_)
|`(#[cW,$a,$b,$c])=>`((($a $b).trans $c))
|`(#[cV,$a,$b])=>`((.str ($a $b)))
|`(#[cU])=>`(Nat->Tx)
|`(#[cT,$a])=>`(#[bf,cN,$a])
|`(#[cS,$a])=>`(#[cw,$a,rfl])
|`(#[cR,$a,$b])=>`(#[bO,$a,$b,i0])
|`(#[cQ,$a])=>`(aw _ _ $a _ _ _)
|`(#[cP])=>`((aE k w))
|`(#[cO])=>`(λk=>#[dA,k])
local macro_rules
|`(#[cN,$a,$b])=>`({s with heap:=$a,toks:=$b})
|`(#[cM,$a,$b,$c])=>`(($a (.ref $b) $c))
|`(#[cL])=>`(#[V,22])
|`(#[cK,$a])=>`((.bool $a))
|`(#[cJ])=>`(#[V,16])
|`(#[cI,$a])=>`(($a).length<=aB)
|`(#[cH])=>`(k<l.length)
|`(#[cG])=>`(([t]++R))
|`(#[cF,$a,$b,$c,$d,$e])=>`(#[dy,ba #[bA] $a $b $c $d,$e])
|`(#[cE,$a,$b,$c,$d])=>`(aj B w n S $a $b $c $d)
local macro_rules
|`(#[cD,$a])=>`(#[I,$a,e0])
|`(#[cC])=>`(#[dg,O,H,h])
|`(#[cB])=>`(if_pos rfl)
|`(#[cA])=>`((az ?_))
|`(#[cz,$a])=>`(aa (.int $a))
|`(#[cy,$a,$b,$c,$d])=>`(aC B S J O $a $b s $c $d)
|`(#[cx])=>`((ax (aA M)))
|`(#[cw,$a,$b])=>`(#[aC,$a,rfl,$b])
|`(#[cv,$a])=>`(.atom (.int $a))
|`(#[cu])=>`(#[e9,a])
local macro_rules
|`(#[ct,$a,$b])=>`(($a (.ref $b)))
|`(#[cs])=>`(λc=>[c])
|`(#[cr,$a])=>`((.list $a))
|`(#[cq])=>`(h.get? b=aa o)
|`(#[cp])=>`(#[V,18])
|`(#[co,$a])=>`(show$a from rfl)
|`(#[cn])=>`(#[V,23])
|`(#[cm,$a,$b,$c,$d])=>`(ag (dS $a $b (x:=$c) rfl $d))
|`(#[cl])=>`(#[e9,x])
|`(#[ck,$a])=>`(#[d8,"object",$a])
local macro_rules
|`(#[cj,$a,$b])=>`(#[bY,bL,$a,i,j,#[T,$b]])
|`(#[ci,$a])=>`(ct 0 $a=[])
|`(#[ch])=>`(λ_ h=>nomatch h)
|`(#[cg,$a,$b,$c,$d,$e])=>`($a B w n S $b $c U H $d $e)
|`(#[cf,$a])=>`(#[T,#[v,$a]])
|`(#[ce])=>`((.ob i))
|`(#[cd,$a,$b])=>`(s.heap.get? $a=aa $b)
|`(#[cc])=>`((.ob j))
|`(#[cb])=>`(#[K,f])
|`(#[ca,$a])=>`(.inl ⟨e,T $a y e⟩)
local macro_rules
|`(#[b9])=>`(#[au,rfl,rfl])
|`(#[b8,$a,$b,$c,$d])=>`(if$a==$b then$c else$d)
|`(#[b7,$a,$b])=>`(∀x∈$a,bD $b x)
|`(#[b6,$a])=>`(ag (cf $a))
|`(#[b5,$a])=>`((Ev.name $a rfl rfl #[p]))
|`(#[b4,$a])=>`(#[as,rfl,$a])
|`(#[b3])=>`((y0.endLine==i0.line)=ae)
|`(#[b2,$a,$b])=>`(#[aF,$a,$b,b0])
|`(#[b1,$a])=>`((λx z=>$a))
|`(#[b0])=>`((dt l k))
local macro_rules
|`(#[bZ])=>`((bV B T I))
|`(#[bY,$a,$b,$c,$d,$e])=>`(aG w n ($a $b) #[T,$c] #[T,$d] $e)
|`(#[bX])=>`(#[V,12])
|`(#[bW])=>`(#[v,k])
|`(#[bV])=>`(#[V,17])
|`(#[bU,$a])=>`((ah ($a M)))
|`(#[bT,$a])=>`(ag (ag $a))
|`(#[bS])=>`(#[bC,rfl])
|`(#[bR])=>`(#[bc,H,.list,X])
|`(#[bQ])=>`((.Name x p))
local macro_rules
|`(#[bP])=>`(#[a7,af])
|`(#[bO,$a,$b,$c])=>`((.Call $a $b [] $c))
|`(#[bN,$a,$b])=>`(Q (.ref $a) $b)
|`(#[bM,$a,$b,$c])=>`(⟨$a,$b,$c,?_⟩)
|`(#[bL,$a,$b])=>`(⟨$a,$b,?_⟩)
|`(#[bK,$a])=>`(if_neg ($a))
|`(#[bJ])=>`((.head _))
|`(#[bI,$a,$b,$c])=>`(ag ($a $b $c ?_))
|`(#[bH])=>`(ek B s0)
|`(#[bG])=>`((ay l.length l 0 []))
local macro_rules
|`(#[bF,$a])=>`(⟨_,$a⟩)
|`(#[bE])=>`(Array _)
|`(#[bD,$a])=>`(aH $a #[i])
|`(#[bC,$a])=>`(⟨$a,rfl⟩)
|`(#[bB,$a])=>`((bw P $a).data)
|`(#[bA])=>`((B0 h c0))
|`(#[bz])=>`(List Tx)
|`(#[bx,$a,$b,$c])=>`($a B w n S $b U H $c b0)
|`(#[bw])=>`(List aq)
|`(#[bv,$a,$b])=>`(#[dR,$a,b0,$b,o0])
local macro_rules
|`(#[bu,$a,$b])=>`(⟨$a,g,d,$b,h0⟩)
|`(#[bt])=>`(#[bu,h,t])
|`(#[bs])=>`(.ref i)
|`(#[br,$a])=>`((.tail _ $a))
|`(#[bq])=>`(#[v,0])
|`(#[bp])=>`(X.length<=aB)
|`(#[bo])=>`(#[an,t])
|`(#[bn,$a])=>`(VR O v $a)
|`(#[bm,$a,$b,$c,$d])=>`(bo B N p0 $a $b $c $d)
|`(#[bl,$a,$b])=>`(h.get? $a=aa $b)
local macro_rules
|`(#[bk])=>`(Cx n A)
|`(#[bj])=>`(#[V,0])
|`(#[bi])=>`((1:Nat))
|`(#[bh])=>`(#[a7,V])
|`(#[bg,$a,$b])=>`(.list ($a $b))
|`(#[bf,$a,$b])=>`(ag ($a $b ?_))
|`(#[be])=>`(Array af)
|`(#[bd,$a,$b])=>`(#[t,$a,$b]<=aB)
|`(#[bc,$a,$b,$c])=>`(($a)[i]?=aa ($b $c))
|`(#[bb,$a,$b])=>`(($a).length=$b)
local macro_rules
|`(#[ba])=>`((bf L.length #[ar]))
|`(#[a9,$a,$b])=>`(absurd $a (bK.mpr $b))
|`(#[a8,$a,$b])=>`(⟨_,$a,rfl,$b,rfl⟩)
|`(#[a7,$a])=>`(Option $a)
|`(#[a6,$a,$b])=>`(aM (VR O) $a $b)
|`(#[a5])=>`(#[v,1])
|`(#[a4,$a])=>`(⟨$a,?_⟩)
|`(#[a3,$a])=>`(ag ($a ?_))
|`(#[a2,$a,$b])=>`(($a).length<=$b)
|`(#[a1])=>`(λp=>#[dA,p])
local macro_rules
|`(#[a0])=>`((.inl rfl))
|`(#[aZ])=>`((bx rfl))
|`(#[aY,$a])=>`((.cons $a .nil))
|`(#[aX,$a,$b,$c])=>`(($a)[$b]?=aa (.list $c))
|`(#[aW,$a,$b])=>`(($a)[j]?=aa $b)
|`(#[aV,$a,$b,$c])=>`(#[cy,U,$a,$b,$c])
|`(#[aU])=>`(#[bC,_])
|`(#[aT])=>`(cm _ rfl)
|`(#[aS,$a,$b])=>`(⟨o,$a,$b⟩)
|`(#[aR,$a,$b,$c])=>`({cls:=.type $a,data:=$b $c})
local macro_rules
|`(#[aQ,$a])=>`($a (by decide))
|`(#[aP,$a,$b])=>`((.Name (ak $a) $b))
|`(#[aO])=>`((aO _))
|`(#[aN,$a,$b])=>`(absurd $a $b)
|`(#[aM,$a])=>`(#[dS,$a,s])
|`(#[aL,$a,$b,$c])=>`(($a).2.1 _ _ $b $c)
|`(#[aK])=>`((I++[c]))
|`(#[aJ,$a])=>`(⟨rfl,$a⟩)
|`(#[aI,$a])=>`(#[b2,a,$a])
|`(#[aH])=>`((aE P0 w))
local macro_rules
|`(#[aG,$a])=>`($a->fR->Prop)
|`(#[aF,$a,$b,$c])=>`(Ev B w n S $a U H $b $c)
|`(#[aE,$a,$b])=>`(q _ _ _ $a $b)
|`(#[aD,$a])=>`((Ev.name $a rfl rfl #[C]))
|`(#[aC,$a,$b,$c])=>`(⟨_,$a,$b,$c⟩)
|`(#[aB])=>`((aT _))
|`(#[aA,$a,$b])=>`($a A _ _ s _ E g M $b)
|`(#[az,$a])=>`(#[bg,aJ,$a])
|`(#[ay])=>`(bJ->#[f5])
|`(#[ax,$a])=>`(decide ($a))
local macro_rules
|`(#[aw])=>`((by kernel_rfl))
|`(#[av])=>`((#[ch]))
|`(#[au,$a,$b])=>`(⟨$a,$b,rfl⟩)
|`(#[as,$a,$b])=>`(⟨_,$a,$b⟩)
|`(#[ar])=>`((ay L.length L 0 []))
|`(#[aq,$a])=>`(#[bg,ah,$a])
|`(#[ap,$a])=>`(B.heap.objs.size<=$a)
|`(#[ao,$a])=>`((by decide:$a))
|`(#[an,$a])=>`((.str $a))
|`(#[am])=>`(.ref x)
local macro_rules
|`(#[al,$a])=>`($a∉B.tabs)
|`(#[ak])=>`((#[p]))
|`(#[aj])=>`((λ_=>rfl))
|`(#[ai])=>`((#[df]))
|`(#[ah])=>`(#[dg,O,H,s.heap])
|`(#[ag])=>`(#[V,1])
|`(#[af])=>`(List (Tx×Tx))
|`(#[ae])=>`(HZ h P)
|`(#[ad,$a])=>`(.int #[v,$a])
|`(#[ac])=>`(Nat->Nat)
local macro_rules
|`(#[aa,$a,$b,$c])=>`((if$a then$b else$c))
|`(#[Y,$a])=>`(⟨$a,[]⟩)
|`(#[W])=>`(Gl B d0 g0)
|`(#[V,$a])=>`(aa (.ob $a))
|`(#[U,$a])=>`((bu.mp $a).1)
|`(#[T,$a])=>`((.int $a))
|`(#[R])=>`((by simp_all))
|`(#[Q,$a])=>`(s.heap.objs.size<=$a)
|`(#[P,$a])=>`(aa (.str $a))
|`(#[M,$a])=>`(#[au,_,$a])
local macro_rules
|`(#[L])=>`(List af)
|`(#[K,$a])=>`((.ref $a))
|`(#[J])=>`(.inl e)
|`(#[I,$a,$b])=>`(($a)[i]?=aa $b)
|`(#[G,$a])=>`($a (by omega))
|`(#[E])=>`(#[aG,af])
|`(#[D])=>`(List V)
|`(#[C])=>`((by decide+kernel))
|`(#[B,$a])=>`(#[cz,#[v,$a]])
|`(#[z])=>`((by simp))
local macro_rules
|`(#[y])=>`(List aL)
|`(#[w])=>`(aK B d0 g0)
|`(#[v,$a])=>`((($a :Nat):Int))
|`(#[u])=>`((k+1))
|`(#[t,$a,$b])=>`(($a $b).length)
|`(#[s])=>`(List ao)
|`(#[p])=>`((rfl))
|`(#[o])=>`(List (Option V))
|`(#[n])=>`(aq->#[bP])
|`(#[l])=>`(List Ob)
local macro_rules
|`(#[j])=>`(List Nat)
|`(#[i])=>`((by decide))
|`(#[g])=>`(List _)
|`(#[f])=>`((by omega))
namespace Mine
namespace Lia
inductive N where|v(i:Nat)|k(n:Nat)|a(x y:N)|l(n:Nat)(x:N)|r(x:N)(n:Nat)
inductive Z where|c(x:N)|v(i:Nat)|k(n:Int)|a(x y:Z)|s(x y:Z)|neg(x:Z)|l(n:Int)(x:Z)|r(x:Z)(n:Int)
inductive F where|nle(x y:N)|nlt(x y:N)|neq(x y:N)|afh(x y:N)|afi(x y:N)|zle(x y:Z)|zlt(x y:Z)|zeq(x y:Z)|afk(x y:Z)|afl(x y:Z)
def at_{O:Type}(d:O):List O->Nat->O|[],_=>d|x::_,0=>x|_::l,i+1=>at_ d l i
def N.d(X:List Nat):N->Nat|.v i=>at_ 0 X i|.k n=>n|.a x y=>x.d X+y.d X|.l n x=>n*x.d X|.r x n=>x.d X*n
def Z.d(X:List Nat)(Y:List Int):Z->Int|.c x=>((x.d X:Nat):Int)|.v i=>at_ 0 Y i|.k n=>n|.a x y=>x.d X Y+y.d X Y|.s x y=>x.d X Y-y.d X Y|.neg x=>-x.d X Y|.l n x=>n*x.d X Y|.r x n=>x.d X Y*n
def F.d(X:List Nat)(Y:List Int):F->Prop|.nle x y=>x.d X<=y.d X|.nlt x y=>x.d X<y.d X|.neq x y=>x.d X=y.d X|.afh x y=>¬x.d X<=y.d X|.afi x y=>¬x.d X<y.d X|.zle x y=>x.d X Y<=y.d X Y|.zlt x y=>x.d X Y<y.d X Y|.zeq x y=>x.d X Y=y.d X Y|.afk x y=>¬x.d X Y<=y.d X Y|.afl x y=>¬x.d X Y<y.d X Y
structure L where
 c:Int
 n:List Int
 z:List Int
def add:List Int->List Int->List Int|[],m=>m|x::l,[]=>x::l|x::l,y::m=>(x+y)::add l m
def unit(q:Int):Nat->List Int|0=>[q]|i+1=>0::unit q i
def PH(X:List Int):List Int->Int|[]=>0|k::l=>match X with|[]=>0|x::X=>k*x+PH X l
def L.add(f g:L):L:=⟨f.c+g.c,Lia.add f.n g.n,Lia.add f.z g.z⟩
def L.mul(q:Int)(f:L):L:=⟨q*f.c,f.n.map (q*·),f.z.map (q*·)⟩
def L.d(X:List Nat)(Y:List Int)(f:L):Int:=f.c+PH (X.map λ(x:Nat)=>(x:Int)) f.n+PH Y f.z
theorem agt:∀(X l m:List Int),PH X (add l m)=PH X l+PH X m|[],[],[]=>rfl|[],[],_::_=>rfl|[],_::_,[]=>rfl|[],_::_,_::_=>rfl|x::X,[],m=>by simp[add,PH]|x::X,k::l,[]=>by simp[add,PH]|x::X,k::l,j::m=>by simp only[add,PH,agt X l m,Int.add_mul];omega
theorem aha(q:Int):∀(X l:List Int),PH X (l.map (q*·))=q*PH X l|[],[]=>by simp[PH]|[],_::_=>by simp[PH]|x::X,[]=>by simp[PH]|x::X,k::l=>by simp only[dh,PH,aha q X l,aho,Int.mul_assoc]
theorem ahb(q:Int):∀(X:List Int)(i:Nat),PH X (unit q i)=q*at_ 0 X i|[],0=>by simp[PH,unit,at_]|[],i+1=>by simp[PH,unit,at_]|x::X,0=>by cases X<;>simp[PH,unit,at_]|x::X,i+1=>by simp[PH,unit,at_,ahb q X i]
theorem aid:∀(X:List Nat)(i:Nat),at_ (0:Int) (X.map λ(x:Nat)=>(x:Int)) i=((at_ 0 X i:Nat):Int)|[],_=>by simp[at_]|x::X,0=>by simp[at_]|x::X,i+1=>by simp[at_,aid X i]
theorem aft(X:List Int):PH X []=0:=by cases X<;>rfl
variable(X:List Nat)(Y:List Int)
theorem L.afs(f g:L):(f.add g).d X Y=f.d X Y+g.d X Y:=by show(f.c+g.c)+PH (X.map λ(x:Nat)=>(x:Int)) (Lia.add f.n g.n)+PH Y (Lia.add f.z g.z)=_;rw[agt,agt];unfold L.d;omega
theorem L.afb(q:Int)(f:L):(f.mul q).d X Y=q*f.d X Y:=by unfold L.mul L.d;rw[aha,aha,aho,aho]
def N.ru:N->L|.v i=>⟨0,unit 1 i,[]⟩|.k n=>⟨(n:Int),[],[]⟩|.a x y=>x.ru.add y.ru|.l n x=>x.ru.mul (n:Int)|.r x n=>x.ru.mul (n:Int)
theorem N.aek:∀x:N,x.ru.d X Y=((x.d X:Nat):Int)|.v i=>by simp[N.ru,L.d,N.d,ahb,aid,aft]|.k n=>by simp[N.ru,L.d,N.d,aft]|.a x y=>by rw[N.ru,L.afs,N.aek x,N.aek y,N.d];omega|.l n x=>by rw[N.ru,L.afb,N.aek x,N.d,aka]|.r x n=>by rw[N.ru,L.afb,N.aek x,N.d,aka,Int.mul_comm]
def Z.ru:Z->L|.c x=>x.ru|.v i=>⟨0,[],unit 1 i⟩|.k n=>⟨n,[],[]⟩|.a x y=>x.ru.add y.ru|.s x y=>x.ru.add (y.ru.mul (-1))|.neg x=>x.ru.mul (-1)|.l n x=>x.ru.mul n|.r x n=>x.ru.mul n
theorem Z.aek:∀x:Z,x.ru.d X Y=x.d X Y|.c x=>N.aek X Y x|.v i=>by simp[Z.ru,L.d,Z.d,ahb,aft]|.k n=>by simp[Z.ru,L.d,Z.d,aft]|.a x y=>by rw[Z.ru,L.afs,Z.aek x,Z.aek y,Z.d]|.s x y=>by rw[Z.ru,L.afs,L.afb,Z.aek x,Z.aek y,Z.d];omega|.neg x=>by rw[Z.ru,L.afb,Z.aek x,Z.d];omega|.l n x=>by rw[Z.ru,L.afb,Z.aek x,Z.d]|.r x n=>by rw[Z.ru,L.afb,Z.aek x,Z.d,Int.mul_comm]
def gap(x y:L)(q:Int):L:=(y.add (x.mul (-1))).add ⟨-q,[],[]⟩
theorem ako(x y:L)(q:Int):(gap x y q).d X Y=y.d X Y-x.d X Y-q:=by
 unfold gap;rw[L.afs,L.afs,L.afb];have:(⟨-q,[],[]⟩:L).d X Y=-q:=by simp[L.d,aft]
 rw[this];omega
def F.ru:F->L×Bool|.nle x y=>(gap x.ru y.ru 0,ai)|.nlt x y=>(gap x.ru y.ru 1,ai)|.neq x y=>(gap x.ru y.ru 0,ae)|.afh x y=>(gap y.ru x.ru 1,ai)|.afi x y=>(gap y.ru x.ru 0,ai)|.zle x y=>(gap x.ru y.ru 0,ai)|.zlt x y=>(gap x.ru y.ru 1,ai)|.zeq x y=>(gap x.ru y.ru 0,ae)|.afk x y=>(gap y.ru x.ru 1,ai)|.afl x y=>(gap y.ru x.ru 0,ai)
theorem F.aek(f:F)(h:f.d X Y):0<=f.ru.1.d X Y/\(f.ru.2=ae->f.ru.1.d X Y=0):=by cases f<;>simp only[F.d]at h<;>simp only[F.ru,ako,N.aek,Z.aek]<;>constructor<;>first|omega|(intro e;cases e)|(intro _;omega)
def imp:List F->Prop|[]=>False|f::j0=>f.d X Y->imp j0
def sum:List F->List Int->L×Bool|[],_=>(⟨0,[],[]⟩,ae)|f::j0,[]=>let s:=sum j0 [];s|f::j0,m::a=>let s:=sum j0 a;let q:=f.ru;(s.1.add (q.1.mul m),s.2&&(q.2||decide (0<=m)))
def YY:List Int->Bool|[]=>ae|k::l=>k==0&&YY l
def ago:List Int->Bool|[]=>ae|k::l=>decide (k<=0)&&ago l
def ags(j0:List F)(f:List Int):Bool:=let s:=sum j0 f;s.2&&decide (s.1.c<0)&&ago s.1.n&&YY s.1.z
theorem aii:∀(X:List Nat)(l:List Int),ago l=ae->PH (X.map λ(x:Nat)=>(x:Int)) l<=0|[],[],_=>by simp[PH]|[],_::_,_=>by simp[PH]|_::_,[],_=>by simp[PH]|x::X,k::l,h=>by simp only[ago,fe,decide_eq_true_eq]at h;have N:=aii X l h.2;have a0:k*(x:Int)<=0:=Int.mul_nonpos_of_nonpos_of_nonneg h.1 (oL x);simp only[dh,PH];omega
theorem aij:∀(Y:List Int)(l:List Int),YY l=ae->PH Y l=0|[],[],_=>by simp[PH]|[],_::_,_=>by simp[PH]|_::_,[],_=>by simp[PH]|y::Y,k::l,h=>by simp only[YY,fe,beq_iff_eq]at h;simp[PH,h.1,aij Y l h.2]
def all:List F->Prop|[]=>True|f::j0=>f.d X Y/\all j0
theorem aio:∀j0:List F,(all X Y j0->False)->imp X Y j0|[],h=>h trivial|f::j0,h=>λt=>aio j0 λI=>h ⟨t,I⟩
theorem ahk:∀(j0:List F)(a:List Int),all X Y j0->(sum j0 a).2=ae->0<=(sum j0 a).1.d X Y
 |[],_,_,_=>by simp[sum,L.d,aft]
 |f::j0,[],h,e=>ahk j0 [] h.2 e
 |f::j0,m::a,h,e=>by
  simp only[sum,fe,qr,decide_eq_true_eq]at e⊢;have N:=ahk j0 a h.2 e.1;have a0:=F.aek X Y f h.1;rw[L.afs,L.afb];rcases e.2 with d|d;.rw[a0.2 d];omega
  .have:=Int.mul_nonneg d a0.1;omega
theorem alb(j0:List F)(f:List Int)(h:ags j0 f=ae):imp X Y j0:=aio X Y j0 λI=>by simp only[ags,fe,decide_eq_true_eq]at h;obtain⟨⟨⟨N,a0⟩,G⟩,E⟩:=h;have r:=ahk X Y j0 f I N;have m:=aii X _ G;have p:=aij Y _ E;unfold L.d at r;omega
theorem XZ{a b:Nat}{P:Prop}(N:b<=a->a=(a-b)+b->P)(a0:a<=b->a-b=0->P):P:=by
 rcases nF b a with h|h;.exact N h (by omega)
 .exact a0 h (by omega)
theorem neC{a b:Nat}{P:Prop}(h:a≠b)(N:a<b->P)(a0:b<a->P):P:=(Nat.lt_or_gt_of_ne h).elim N a0
theorem neZ{a b:Int}{P:Prop}(h:a≠b)(N:a<b->P)(a0:b<a->P):P:=(Int.lt_or_gt_of_ne h).elim N a0
theorem BS(a b:Nat):a-b<=a:=ahs a b
theorem ajl(a b:Nat):a<=(a-b)+b:=by omega
theorem aih(x k:Nat):k*(x/k)<=x:=Nat.mul_div_le x k
theorem aif(x k:Nat)(h:Nat.blt 0 k=ae):x<k*(x/k)+k:=by have:=Nat.lt_mul_div_succ x (b:=k) (bx h);rwa[Dc,tj]at this
theorem ajb(x k:Nat):k*(x/k)+x%k=x:=kp x k
theorem ajc(x k:Nat)(h:Nat.blt 0 k=ae):x%k<k:=hH x (bx h)
noncomputable abbrev ahc{O:Type}(d:O)(l:List O)(i:Nat):O:=(@jo O (λ_=>Nat->O) (λ_=>d) (λx _ f i=>@qM (λ_=>O) x (λi _=>f i) i) l) i
noncomputable abbrev N.e(X:List Nat)(x:N):Nat:=N.rec (motive:=λ_=>Nat) (λi=>ahc 0 X i) (λn=>n) (λ_ _ a b=>a+b) (λn _ a=>n*a) (λ_ n a=>a*n) x
noncomputable abbrev Z.e(X:List Nat)(Y:List Int)(x:Z):Int:=Z.rec (motive:=λ_=>Int) (λx=>((x.e X:Nat):Int)) (λi=>ahc 0 Y i) (λn=>n) (λ_ _ a b=>a+b) (λ_ _ a b=>a-b) (λ_ a=>-a) (λn _ a=>n*a) (λ_ n a=>a*n) x
noncomputable abbrev F.e(X:List Nat)(Y:List Int)(f:F):Prop:=F.rec (motive:=λ_=>Prop) (λx y=>x.e X<=y.e X) (λx y=>x.e X<y.e X) (λx y=>x.e X=y.e X) (λx y=>¬x.e X<=y.e X) (λx y=>¬x.e X<y.e X) (λx y=>x.e X Y<=y.e X Y) (λx y=>x.e X Y<y.e X Y) (λx y=>x.e X Y=y.e X Y) (λx y=>¬x.e X Y<=y.e X Y) (λx y=>¬x.e X Y<y.e X Y) f
noncomputable abbrev aim(X:List Nat)(Y:List Int)(l:List F):Prop:=jo (motive:=λ_=>Prop) False (λf _ p=>f.e X Y->p) l
theorem ahd{O:Type}(d:O):∀(l:List O)(i:Nat),ahc d l i=at_ d l i|[],i=>by cases i<;>rfl|x::l,0=>rfl|x::l,i+1=>ahd d l i
theorem N.AK(X:List Nat):∀x:N,x.e X=x.d X|.v i=>ahd 0 X i|.k n=>rfl|.a x y=>by show x.e X+y.e X=x.d X+y.d X;rw[N.AK X x,N.AK X y]|.l n x=>by show n*x.e X=n*x.d X;rw[N.AK X x]|.r x n=>by show x.e X*n=x.d X*n;rw[N.AK X x]
theorem Z.AK(X:List Nat)(Y:List Int):∀x:Z,x.e X Y=x.d X Y|.c x=>by show((x.e X:Nat):Int)=((x.d X:Nat):Int);rw[N.AK X x]|.v i=>ahd 0 Y i|.k n=>rfl|.a x y=>by show x.e X Y+y.e X Y=x.d X Y+y.d X Y;rw[Z.AK X Y x,Z.AK X Y y]|.s x y=>by show x.e X Y-y.e X Y=x.d X Y-y.d X Y;rw[Z.AK X Y x,Z.AK X Y y]|.neg x=>by show-x.e X Y=-x.d X Y;rw[Z.AK X Y x]|.l n x=>by show n*x.e X Y=n*x.d X Y;rw[Z.AK X Y x]|.r x n=>by show x.e X Y*n=x.d X Y*n;rw[Z.AK X Y x]
theorem F.AK(X:List Nat)(Y:List Int):∀f:F,f.e X Y=f.d X Y|.nle x y=>by show(x.e X<=y.e X)=(x.d X<=y.d X);rw[N.AK X x,N.AK X y]|.nlt x y=>by show(x.e X<y.e X)=(x.d X<y.d X);rw[N.AK X x,N.AK X y]|.neq x y=>by show(x.e X=y.e X)=(x.d X=y.d X);rw[N.AK X x,N.AK X y]|.afh x y=>by show(¬x.e X<=y.e X)=(¬x.d X<=y.d X);rw[N.AK X x,N.AK X y]|.afi x y=>by show(¬x.e X<y.e X)=(¬x.d X<y.d X);rw[N.AK X x,N.AK X y]|.zle x y=>by show(x.e X Y<=y.e X Y)=(x.d X Y<=y.d X Y);rw[Z.AK X Y x,Z.AK X Y y]|.zlt x y=>by show(x.e X Y<y.e X Y)=(x.d X Y<y.d X Y);rw[Z.AK X Y x,Z.AK X Y y]|.zeq x y=>by show(x.e X Y=y.e X Y)=(x.d X Y=y.d X Y);rw[Z.AK X Y x,Z.AK X Y y]|.afk x y=>by show(¬x.e X Y<=y.e X Y)=(¬x.d X Y<=y.d X Y);rw[Z.AK X Y x,Z.AK X Y y]|.afl x y=>by show(¬x.e X Y<y.e X Y)=(¬x.d X Y<y.d X Y);rw[Z.AK X Y x,Z.AK X Y y]
theorem ain(X:List Nat)(Y:List Int):∀l:List F,imp X Y l->aim X Y l|[],h=>h|f::l,h=>λt=>ain X Y l (h (F.AK X Y f▸t))
theorem ajj(X:List Nat)(Y:List Int)(j0:List F)(f:List Int)(h:ags j0 f=ae):aim X Y j0:=ain X Y j0 (alb X Y j0 f h)
theorem fI{a b:Nat}:(a<=b/\min a b=a)\/(b<=a/\min a b=b):=(nF a b).elim (λh=>.inl ⟨h,kr h⟩) (λh=>.inr ⟨h,qL h⟩)
theorem fH{a b:Nat}:(a<=b/\max a b=b)\/(b<=a/\max a b=a):=(nF a b).elim (λh=>.inl ⟨h,xC h⟩) (λh=>.inr ⟨h,xB h⟩)
theorem ait{a b:Int}:(a<=b/\min a b=a)\/(b<=a/\min a b=b):=(Int.le_total a b).elim (λh=>.inl ⟨h,Int.min_eq_left h⟩) (λh=>.inr ⟨h,Int.min_eq_right h⟩)
theorem ais{a b:Int}:(a<=b/\max a b=b)\/(b<=a/\max a b=a):=(Int.le_total a b).elim (λh=>.inl ⟨h,Int.max_eq_right h⟩) (λh=>.inr ⟨h,Int.max_eq_left h⟩)
theorem ajn{x:Int}:(0<=x/\(x.toNat:Int)=x)\/(x<=0/\x.toNat=0):=by omega
theorem aia{x:Int}:(0<=x/\(x.natAbs:Int)=x)\/(x<=0/\(x.natAbs:Int)=-x):=by omega
theorem agm{O:Type}{c:Prop}[Decidable c]{a b:O}:(c/\(if c then a else b)=a)\/(¬c/\(if c then a else b)=b):=by by_cases h:c<;>simp[h]
theorem ajd{a b:Prop}(h:¬(a/\b)):¬a\/¬b:=Classical.not_and_iff_not_or_not.mp h
theorem aje{a b:Prop}(h:¬(a↔b)):(a/\¬b)\/(¬a/\b):=by by_cases I:a<;>by_cases Z:b<;>simp_all
theorem aik{a b:Prop}(h:a↔b):(a/\b)\/(¬a/\¬b):=by by_cases I:a<;>by_cases Z:b<;>simp_all
theorem alg{a b:Prop}(h:a->b):¬a\/b:=by by_cases I:a<;>simp_all
theorem alh{a b:Prop}(h:¬(a->b)):a/\¬b:=by by_cases I:a<;>by_cases Z:b<;>simp_all
theorem ajf{a:Prop}(h:¬¬a):a:=Classical.byContradiction h
end Lia
section
open Lean Meta Elab Tactic
namespace Lia
structure Row where
 k:Array Int
 c:Int
 m:Array Int deriving Inhabited
structure ajt where
 f:Expr
 p:Expr
 n:Array (Nat×Int)
 z:Array (Nat×Int)
 c:Int
 eq:Bool deriving Inhabited
structure S where
 X:Array Expr:=#[]
 Y:Array Expr:=#[]
 facts:Array ajt:=#[]
 subs:Array (Expr×Expr):=#[]
 ors:Array Expr:=#[]
 nes:Array (Expr×Expr×Expr×Bool):=#[]
abbrev M:=StateT S en
abbrev Lin:=Array (Nat×Int)×Array (Nat×Int)×Int
def aib(a b:Array (Nat×Int)):Array (Nat×Int):=b.foldl (λa(i,k)=>match a.findIdx? (·.1==i)with|aa j=>a.modify j (λ(i,q)=>(i,q+k))|ab=>a.push (i,k)) a
def Lin.add(a b:Lin):Lin:=(aib a.1 b.1,aib a.2.1 b.2.1,a.2.2+b.2.2)
def Lin.mul(q:Int)(a:Lin):Lin:=(a.1.map λ(i,k)=>(i,q*k),a.2.1.map λ(i,k)=>(i,q*k),q*a.2.2)
def ajg:Expr:=mkConst ``Nat
def aiq:Expr:=mkConst ``Int
def agb(n:Nat):Expr:=Cy n
def agn(n:Int):Expr:=match n with|.ofNat k=>aei (mkConst ``Int.ofNat) (Cy k)|.negSucc k=>aei (mkConst ``Int.negSucc) (Cy k)
def afg(e:Expr):Option Nat:=match e with
 |.lit (.natVal n)=>aa n
 |_=>match e.getAppFnArgs with
  |(``afe,#[_,.lit (.natVal n),_])=>aa n
  |(``HPow.hPow,#[_,_,_,_,a,b])=>do
   let x<-(match a.getAppFnArgs with|(``afe,#[_,.lit (.natVal n),_])=>aa n|_=>ab);let y<-(match b.getAppFnArgs with|(``afe,#[_,.lit (.natVal n),_])=>aa n|_=>ab);if y<=200 then aa (x^y)else ab
  |_=>ab
def ahe(e:Expr):Option Int:=match e.getAppFnArgs with
 |(``afe,#[_,.lit (.natVal n),_])=>aa n
 |(``Neg.neg,#[_,_,a])=>match a.getAppFnArgs with|(``afe,#[_,.lit (.natVal n),_])=>aa (-(n:Int))|(``Nat.cast,#[_,_,a])=>(afg a).map λn=>-(n:Int)|_=>ab
 |(``Nat.cast,#[_,_,a])=>(afg a).map λn=>(n:Int)
 |(``HPow.hPow,#[_,_,_,_,a,b])=>do
  let x<-(match a.getAppFnArgs with|(``afe,#[_,.lit (.natVal n),_])=>aa n|_=>ab);let y<-(match b.getAppFnArgs with|(``afe,#[_,.lit (.natVal n),_])=>aa n|_=>ab);if y<=200 then aa ((x:Int)^y)else ab
 |_=>ab
mutual def aes:Nat->Expr->M (Expr×Lin)
 |0,e=>aeo e
 |g+1,e=>do
  let e:=e.consumeMData;if let aa n:=afg e then return(aei (mkConst ``N.k) (agb n),(#[],#[],n))
  match e.getAppFnArgs with
   |(``ahm,#[_,_,_,_,a,b])=>
    let(x,l)<-aes g a;let(y,m)<-aes g b;return(qu (mkConst ``N.a) x y,l.add m)
   |(``iw,#[a])=>
    let(x,l)<-aes g a;return(qu (mkConst ``N.a) x (aei (mkConst ``N.k) (agb 1)),l.add (#[],#[],1))
   |(``HMul.hMul,#[_,_,_,_,a,b])=>
    if let aa n:=afg a then
     let(y,m)<-aes g b;return(qu (mkConst ``N.l) (agb n) y,m.mul n)
    if let aa n:=afg b then
     let(x,m)<-aes g a;return(qu (mkConst ``N.r) x (agb n),m.mul n)
    aeo e
   |(``ahn,#[_,_,_,_,a,b])=>
    if !(<-get).X.contains e then
     let r<-aeo e;modify λs=>{s with subs:=s.subs.push (a,b)};aem g (qu (mkConst ``BS) a b);aem g (qu (mkConst ``ajl) a b);return r
    aeo e
   |(``HDiv.hDiv,#[_,_,_,_,a,b])=>
    if let aa n:=afg b then
     if n>0&&!(<-get).X.contains e then
      let r<-aeo e;aem g (qu (mkConst ``aih) a b);aem g (ael (mkConst ``aif) a b (qu (mkConst ``afn [1]) (mkConst ``Bool) (mkConst ``ae)));return r
    aeo e
   |(``HMod.hMod,#[_,_,_,_,a,b])=>
    if let aa n:=afg b then
     if n>0&&!(<-get).X.contains e then
      let r<-aeo e;aem g (qu (mkConst ``ajb) a b);aem g (ael (mkConst ``ajc) a b (qu (mkConst ``afn [1]) (mkConst ``Bool) (mkConst ``ae)));return r
    aeo e
   |(``min,#[_,_,a,b])=>bp g e (qu (mkConst ``fI) a b)
   |(``max,#[_,_,a,b])=>bp g e (qu (mkConst ``fH) a b)
   |(``Int.toNat,#[x])=>bp g e (aei (mkConst ``ajn) x)
   |(``Int.natAbs,#[x])=>bp g e (aei (mkConst ``aia) x)
   |(``ite,#[O,c,d,a,b])=>bp g e (nx (mkConst ``agm) #[O,c,d,a,b])
   |_=>aeo e def bp:Nat->Expr->Expr->M (Expr×Lin)
 |0,e,_=>aeo e
 |g+1,e,p=>do
  if !(<-get).X.contains e then
   let r<-aeo e;aem g p;return r
  aeo e def ahi:Nat->Expr->Expr->M (Expr×Lin)
 |0,e,_=>afr e
 |g+1,e,p=>do
  if !(<-get).Y.contains e then
   let r<-afr e;aem g p;return r
  afr e def aeo(e:Expr):M (Expr×Lin):=do
 let s<-get;let i:=(s.X.findIdx? (·==e)).getD s.X.size;if i==s.X.size then set {s with X:=s.X.push e}
 return(aei (mkConst ``N.v) (agb i),(#[(i,1)],#[],0))def aet:Nat->Expr->M (Expr×Lin)
 |0,e=>afr e
 |g+1,e=>do
  let e:=e.consumeMData;if let aa n:=ahe e then return(aei (mkConst ``Z.k) (agn n),(#[],#[],n))
  match e.getAppFnArgs with
   |(``ahm,#[_,_,_,_,a,b])=>
    let(x,l)<-aet g a;let(y,m)<-aet g b;return(qu (mkConst ``Z.a) x y,l.add m)
   |(``ahn,#[_,_,_,_,a,b])=>
    let(x,l)<-aet g a;let(y,m)<-aet g b;return(qu (mkConst ``Z.s) x y,l.add (m.mul (-1)))
   |(``Neg.neg,#[_,_,a])=>
    let(x,l)<-aet g a;return(aei (mkConst ``Z.neg) x,l.mul (-1))
   |(``HMul.hMul,#[_,_,_,_,a,b])=>
    if let aa n:=ahe a then
     let(y,m)<-aet g b;return(qu (mkConst ``Z.l) (agn n) y,m.mul n)
    if let aa n:=ahe b then
     let(x,m)<-aet g a;return(qu (mkConst ``Z.r) x (agn n),m.mul n)
    afr e
   |(``Nat.cast,#[_,_,a])=>
    let(x,l)<-aes g a;return(aei (mkConst ``Z.c) x,l)
   |(``Int.ofNat,#[a])=>
    let(x,l)<-aes g a;return(aei (mkConst ``Z.c) x,l)
   |(``Min.min,#[_,_,a,b])=>ahi g e (qu (mkConst ``ait) a b)
   |(``Max.max,#[_,_,a,b])=>ahi g e (qu (mkConst ``ais) a b)
   |(``ite,#[O,c,d,a,b])=>ahi g e (nx (mkConst ``agm) #[O,c,d,a,b])
   |_=>afr e def afr(e:Expr):M (Expr×Lin):=do
 let s<-get;let i:=(s.Y.findIdx? (·==e)).getD s.Y.size;if i==s.Y.size then set {s with Y:=s.Y.push e}
 return(aei (mkConst ``Z.v) (agb i),(#[],#[(i,1)],0))def aem:Nat->Expr->M Unit
 |0,_=>av ()
 |g+1,p=>do
  let T<-fi (<-xe p);aga g p T.consumeMData.headBeta def aga:Nat->Expr->Expr->M Unit
 |0,_,_=>av ()
 |g+1,p,T=>do
  let f(N:Bool)(a b:Expr)(R C:hi)(q:Int)(E:Bool)(S:Bool):M Unit:=do
   let(x,l)<-(if N then aes g a else aet g a);let(y,m)<-(if N then aes g b else aet g b);let d:=if S then(l.add (m.mul (-1)))else(m.add (l.mul (-1)));let d:=d.add (#[],#[],-q);modify λs=>{s with facts:=s.facts.push {f:=qu (mkConst (if N then R else C)) x y,p:=p,n:=d.1,z:=d.2.1,c:=d.2.2,eq:=E}}
  let I(O:Expr):Option Bool:=if O.isConstOf ``Nat then aa ae else if O.isConstOf ``Int then aa ai else ab
  match T.getAppFnArgs with
   |(``LE.le,#[O,_,a,b])=>if let aa k:=I O then f k a b ``F.nle ``F.zle 0 ai ai
   |(``LT.lt,#[O,_,a,b])=>if let aa k:=I O then f k a b ``F.nlt ``F.zlt 1 ai ai
   |(``GE.ge,#[O,_,a,b])=>if let aa k:=I O then f k b a ``F.nle ``F.zle 0 ai ai
   |(``GT.gt,#[O,_,a,b])=>if let aa k:=I O then f k b a ``F.nlt ``F.zlt 1 ai ai
   |(``Nat.le,#[a,b])=>f ae a b ``F.nle ``F.zle 0 ai ai
   |(``Nat.lt,#[a,b])=>f ae a b ``F.nlt ``F.zlt 1 ai ai
   |(``Eq,#[O,a,b])=>if let aa k:=I O then f k a b ``F.neq ``F.zeq 0 ae ai
   |(``And,#[a,b])=>
    aga g (ael (mkConst ``And.left) a b p) a.consumeMData;aga g (ael (mkConst ``And.right) a b p) b.consumeMData
   |(``Or,#[_,_])=>modify λs=>{s with ors:=s.ors.push p}
   |(``Ne,#[O,a,b])=>if let aa k:=I O then modify λs=>{s with nes:=s.nes.push (p,a,b,k)}
   |(``Iff,#[a,b])=>modify λs=>{s with ors:=s.ors.push (ael (mkConst ``aik) a b p)}
   |(``Not,#[q])=>
    let q:=q.consumeMData
    match q.getAppFnArgs with
     |(``LE.le,#[O,_,a,b])=>if let aa k:=I O then f k a b ``F.afh ``F.afk 1 ai ae
     |(``LT.lt,#[O,_,a,b])=>if let aa k:=I O then f k a b ``F.afi ``F.afl 0 ai ae
     |(``GE.ge,#[O,_,a,b])=>if let aa k:=I O then f k b a ``F.afh ``F.afk 1 ai ae
     |(``GT.gt,#[O,_,a,b])=>if let aa k:=I O then f k b a ``F.afi ``F.afl 0 ai ae
     |(``Eq,#[O,a,b])=>if let aa k:=I O then modify λs=>{s with nes:=s.nes.push (p,a,b,k)}
     |(``Or,#[a,b])=>
      aga g (mkLambda `h .default a (aei p (ael (mkConst ``Or.inl) a b (.bvar 0)))) (aei (mkConst ``Not) a);aga g (mkLambda `h .default b (aei p (ael (mkConst ``Or.inr) a b (.bvar 0)))) (aei (mkConst ``Not) b)
     |(``Not,#[r])=>aga g (qu (mkConst ``ajf) r p) r
     |(``And,#[a,b])=>modify λs=>{s with ors:=s.ors.push (ael (mkConst ``ajd) a b p)}
     |(``Iff,#[a,b])=>modify λs=>{s with ors:=s.ors.push (ael (mkConst ``aje) a b p)}
     |_=>av ()
   |_=>av ()end
def akn(s:S):Option (Array Int):=Id.run do
 let d:=s.X.size;let n:=d+s.Y.size;let w:=s.facts.size;let mut R:Array Row:=#[]
 for i in[0:w]do
  let f:=s.facts[i]!;let mut k:Array Int:=afm n 0;for(j,q)in f.n do k:=k.modify j (·+q)
  for(j,q)in f.z do k:=k.modify (d+j) (·+q)
  let m:=(afm w (0:Int)).set! i 1;R:=R.push ⟨k,f.c,m⟩;if f.eq then R:=R.push ⟨k.map (-·),-f.c,m.map (-·)⟩
 for j in[0:d]do R:=R.push ⟨(afm n (0:Int)).set! j 1,0,afm w 0⟩
 let mut t:=(aW n)
 for _ in[0:n+1]do
  for r in R do if r.c<0&&r.k.all (·==0)then return aa r.m
  if t.isEmpty then return ab
  let mut B:=0;let mut C:=1000000000
  for j in t do
   let p:=(R.filter λr=>r.k[j]!>0).size;let q:=(R.filter λr=>r.k[j]!<0).size
   if p*q<C then
    C:=p*q;B:=j
  t:=t.filter (·!=B);let j:=B;let v:=R.filter λr=>r.k[j]!>0;let o:=R.filter λr=>r.k[j]!<0;let mut u:=R.filter λr=>r.k[j]! ==0;if v.size*o.size+u.size>300 then return ab
  for p in v do
   for q in o do
    let a:=p.k[j]!;let b:=-q.k[j]!;let g:Nat:=Nat.gcd a.toNat b.toNat;let(a,b):=(a/g,b/g);let k:=(p.k.zip q.k).map λ(x,y)=>b*x+a*y;let c:=b*p.c+a*q.c;if k.all (·==0)&&c>=0 then continue
    u:=u.push ⟨k,c,(p.m.zip q.m).map λ(x,y)=>b*x+a*y⟩
  R:=u
 return ab
def mkL(O:Expr)(l:List Expr):Expr:=l.foldr (λa r=>ael (mkConst ``CB [0]) O a r) (aei (mkConst ``qB [0]) O)
def aie(s:S):Option Expr:=do
 let m<-akn s;let U:=(aW s.facts.size).filter λi=>m[i]! !=0;let g:=U.foldl (λg i=>Nat.gcd g (m[i]!).natAbs) 0;let j0:=U.map λi=>s.facts[i]!;let f:=U.map λi=>agn (m[i]!/g);let X:=mkL ajg s.X.toList;let Y:=mkL aiq s.Y.toList;let F:=mkL (mkConst ``F) (j0.map (·.f));let M:=mkL aiq f;let r:=nx (mkConst ``ajj) #[X,Y,F,M,qu (mkConst ``afn [1]) (mkConst ``Bool) (mkConst ``ae)];return nx r (j0.map (·.p)).toArray
def fls:Expr:=mkConst ``False
def agi:Nat->S->en (Option Expr)
 |0,s=>return aie s
 |d+1,s=>do
  if let aa p:=aie s then return aa p
  let g(A:Expr)(k:Expr->M Unit):en (Option Expr):=afq `h A λh=>do
   let(_,L)<-(k h).run s
   let aa p<-agi d L|return ab
   return aa (<-afp #[h] p)
  if h:0<s.ors.size then
   let p:=s.ors[0];let T<-fi (<-xe p);let T:=T.consumeMData;let(a,b):=(T.getArg! 0,T.getArg! 1);let s:={s with ors:=s.ors.eraseIdx 0}
   let g(A:Expr):en (Option Expr):=afq `h A λh=>do
    let(_,L)<-(aem 30 h).run s
    let aa p<-agi d L|return ab
    return aa (<-afp #[h] p)
   let aa x<-g a|return ab
   let aa y<-g b|return ab
   return aa (nx (mkConst ``Or.elim) #[a,b,fls,p,x,y])
  if h:0<s.nes.size then
   let(p,a,b,k):=s.nes[0];let s:={s with nes:=s.nes.eraseIdx 0}
   let g(A:Expr):en (Option Expr):=afq `h A λh=>do
    let(_,L)<-(aem 30 h).run s
    let aa p<-agi d L|return ab
    return aa (<-afp #[h] p)
   let aa x<-g (<-jO ``LT.lt #[a,b])|return ab
   let aa y<-g (<-jO ``LT.lt #[b,a])|return ab
   return aa (nx (mkConst (if k then``neC else``neZ)) #[a,b,fls,p,x,y])
  if h:0<s.subs.size then
   let(a,b):=s.subs[0];let s:={s with subs:=s.subs.eraseIdx 0};let e<-jO ``ahn #[a,b];let F<-jO ``ahm #[e,b]
   let g(A B:Expr):en (Option Expr):=afq `h A λN=>afq `h B λa0=>do
    let(_,L)<-(do
     aem 30 N;aem 30 a0:M Unit).run s
    let aa p<-agi d L|return ab
    return aa (<-afp #[N,a0] p)
   let aa x<-g (<-jO ``LE.le #[b,a]) (<-mkEq a F)|return ab
   let aa y<-g (<-jO ``LE.le #[a,b]) (<-mkEq e (ael (mkConst ``afe [0]) ajg (Cy 0) (aei (mkConst ``instOfNatNat) (Cy 0))))|return ab
   return aa (nx (mkConst ``XZ) #[a,b,fls,x,y])
  return ab
def akt(T:Expr):en (Option Expr):=ahq T λX g=>do
 unless g.isConstOf ``False do return ab
 let mut s:S:={}
 for x in X do
  let t<-fi (<-xe x);if<-afd t then s:=(<-(aem 60 x).run s).2
 let aa p<-agi 7 s|return ab
 return aa (<-afp X p)
end Lia
end
section
open Lean Meta Elab Tactic
namespace Z
def cn(s:String)(k:Nat):hi:=(`Mine.Q).str s!"{s}{k}"
def js(k:Nat)(f:Nat->String)(s:String:=" "):String:=s.intercalate ((aW k).map λi=>f (i+1))
def ajk(s:String):TermElabM Syntax:=do
 let .ok x:=akf (<-getEnv) `term s|throwError s
 return x
def agk(n:hi)(k:Nat)(a r:String):TermElabM Unit:=do
 let l:=(aW k).map λi=>ake s!"u{i+1}"
 Term.withLevelNames l do
  let T<-akc (<-ajk a);akd;let T<-fi T;let v<-Term.elabTermEnsuringType (<-ajk r) T;akd;addDecl (.thmDecl {name:=n,levelParams:=l,type:=T,value:=<-fi v})
def akh:TermElabM Unit:=do
 for j in[0:11]do
  let k:=j+2;let c:=js k (s!"a{·}");let f:=js k (λi=>"{α"++s!"{i}:Sort u{i}"++"}");let p:="{p:"++js k (s!"α{·}→")++"Prop}";agk (cn "e" k) k s!"∀{f}{p}\{G:Prop}(h:∃{c},p {c})(k:∀{c},p {c}→G),G" (if k==2 then"fun h k=>h.elim fun a h=>h.elim (k a)"else s!"fun h k=>h.elim fun a h=>{cn "e" (k-1)} h (k a)");agk (cn "i" k) k s!"∀{f}{p}{js k (λi=>s!"(a{i}:α{i})")}(h:p {c}),∃{c},p {c}" s!"fun {c} h=>⟨{js k (s!"a{·}") ","},h⟩";if k>2 then agk (cn "a" k) 0 s!"∀\{{js k (s!"A{·}")}:Prop}{js k (λi=>s!"(a{i}:A{i})")},{js k (s!"A{·}") "∧"}" s!"fun {c}=>⟨{js k (s!"a{·}") ","}⟩"
  if k<8 then
   let k:=k-1;agk (cn "r" k) k s!"∀{js k (λi=>"{α"++s!"{i}:Sort u{i}"++"}")}\{f:{js k (s!"α{·}→")}Prop}{js k (λi=>"{x"++s!"{i}:α{i}"++"}")}{js k (λi=>"{y"++s!"{i}:α{i}"++"}")}{js k (λi=>s!"(h{i}:x{i}=y{i})")}(m:f {js k (s!"y{·}")}),f {js k (s!"x{·}")}" s!"fun {js k (s!"h{·}")} m=>by subst {js k (s!"h{·}")};exact m"
end Z
end
section
open Lean Meta Elab Tactic
namespace Z
abbrev HM:=Std.HashMap
abbrev HS:=Std.HashSet
def agf:Nat->Expr->Nat->StateM (HM (Expr×Nat) Nat) Nat
 |0,_,_=>return 2
 |g+1,e,i=>do
  if e.looseBVarRange<=i then return 0
  if let .bvar j:=e then return if i==j then 1 else 0
  if let aa r:=(<-get)[(e,i)]? then return r
  let t(a:Expr)(i:Nat)(b:Expr)(j:Nat):StateM (HM (Expr×Nat) Nat) Nat:=do
   let k<-agf g a i;if k>=2 then return 2 else return agj 2 (k+(<-agf g b j))
  let r<-match e with
   |.app f a=>t f i a i
   |.lam _ d b _|.forallE _ d b _=>t d i b (i+1)
   |.letE _ d v b _=>
    do
     let k<-t d i v i;if k>=2 then av 2 else av (agj 2 (k+(<-agf g b (i+1))))
   |.mdata _ b|.proj _ _ b=>agf g b i
   |_=>av 0
  modify λm=>m.insert (e,i) r;return r
def occ(e:Expr)(i:Nat):Nat:=if e.looseBVarRange<=i then 0 else((agf 100000 e i).run {}).1
def ajm:Expr->Bool|.bvar _|.fvar _|.const ..|.sort _|.lit _=>ae|_=>ai
def akl(e:Expr):Option (Array Expr×Level):=do
 let e:=if e.isAppOfArity ``id 2 then e.appArg! else e;guard (e.isAppOfArity ``congrArg 6)
 let .const _ [u,_]:=e.getAppFn|ab
 return(e.getAppArgs,u)
def szT(l:Nat):Nat->Expr->Nat->Nat|0,_,_=>l|g+1,e,n=>if n>=l then n else match e with|.app f a=>szT l g a (szT l g f (n+32))|.lam _ d b _|.forallE _ d b _=>szT l g b (szT l g d (n+48))|.letE _ d v b _=>szT l g b (szT l g v (szT l g d (n+56)))|.mdata _ b=>szT l g b n|.proj _ _ b=>szT l g b (n+40)|_=>n
def aep(j:Nat):Nat->Expr->Nat->StateM (HS (Expr×Nat)×Array Nat) Unit
 |0,_,_=>return
 |g+1,e,i=>do
  if e.looseBVarRange<=i then return
  if let .bvar q:=e then
   if q<i+j then modify λ(s,m)=>(s,m.modify (j-1-(q-i)) (·+1))
   return
  let k:=(e,j*1000+i);if(<-get).1.contains k then return
  modify λ(s,m)=>(s.insert k,m)
  match e with
   |.app f a=>
    aep j g f i;aep j g a i
   |.lam _ d b _|.forallE _ d b _=>
    aep j g d i;aep j g b (i+1)
   |.letE _ d v b _=>
    aep j g d i;aep j g v i;aep j g b (i+1)
   |.mdata _ b|.proj _ _ b=>aep j g b i
   |_=>return
def row:Nat->Expr->Array (Expr×Expr)->Array (Expr×Expr)×Expr|0,e,l=>(l,e)|g+1,e,l=>match e with|.letE _ T v b _=>row g b (l.push (T,v))|.app (.lam _ T b _) a=>row g b (l.push (T,a))|.mdata _ b=>row g b l|e=>(l,e)
def ajp(a:afo (HS Expr))(e:Expr):en Expr:=do
 let(l,b):=row 100000 e #[]
 let((),(_,m)):=(do
  for h:j in[0:l.size]do
   aep j 100000 l[j].1 0;aep j 100000 l[j].2 0
  aep l.size 100000 b 0:StateM (HS (Expr×Nat)×Array Nat) Unit).run ({},afm l.size 0)
 let mut P:Array Expr:=#[];let mut d:Array (Expr×Expr×Expr):=#[]
 for h:j in[0:l.size]do
  let(T,v):=l[j];let c:=m[j]!;let s:=szT 400 1000 v 0;let I:=v.instantiateRev P
  if c<=1||ajm v||(s<400&&(c-1)*s<=28+szT 2000 1000 T 0/2)then P:=P.push I else
   let x:=Expr.fvar (<-ahr);d:=d.push (x,T.instantiateRev P,I);P:=P.push x
 let mut r:=b.instantiateRev P
 for(x,T,v)in d.reverse do
  r:=.letE `x T v ((r.liftLooseBVars 0 1).abstract #[x]) ai;a.modify (·.insert r)
 return r
def head(d:afo (HS Expr)):Nat->Expr->en Expr
 |0,e=>return e
 |g+1,e=>match e with
  |.letE ..=>do
   if(<-d.get).contains e then return e
   let r<-ajp d e;if r.isLet then return r else head d g r
  |.mdata _ b=>head d g b
  |.app F _=>do
   match e.getAppFn with
    |.lam _ T b _=>
     if F.isLambda then
      let r<-ajp d e;if r.isLet then return r else head d g r else
      let z:=e.getAppArgs;let a:=z[0]!;let _:=T;if ajm a||occ b 0<=1 then head d g (mkAppRange (b.instantiate1 a) 1 z.size z)else return e
    |.const c _=>
     if(c==``Eq.mpr||c==``Eq.mp)&&e.getAppNumArgs==4 then
      let a:=e.getAppArgs
      match akl a[2]! with
       |aa (q,u)=>
        let(O,x,y,f,h):=(q[0]!,q[2]!,q[3]!,q[4]!,q[5]!);return if !f.isLambda then e else if c==``Eq.mp then nx (mkConst ``agp [.zero,u]) #[O,x,f,a[3]!,y,h]else nx (mkConst ``agp [.zero,u]) #[O,y,f,a[3]!,x,mkApp4 (mkConst ``afa [u]) O x y h]
       |ab=>return e else if c==``afa&&e.getAppNumArgs==4&&e.appArg!.isAppOfArity ``afa 4 then return e.appArg!.appArg! else if c==``id&&e.getAppNumArgs==2 then head d g e.appArg! else return e
    |_=>return e
  |_=>return e
def air(e:Expr):Expr:=match e with|.lam _ d b _=>.lam `x d b .default|.forallE _ d b _=>.forallE `x d b .default|.letE _ d v b _=>.letE `x d v b ai|e=>e
def ala(e:Expr):en Expr:=do
 let b<-agq {}
 agr e (pre:=λe=>do match e with|.letE ..|.mdata ..|.app ..=>return .continue (<-head b 1000 e)|_=>return .continue) (post:=λe=>do
  match e with
   |.app ..=>
    let r<-head b 1000 e;if r==e then return .done e else return .visit r
   |_=>return .done (air e))
def ahh(R:afo (HM hi (Option (Nat×Nat))))(a:hi):en (Option (Nat×Nat)):=do
 if let aa r:=(<-R.get)[a]? then return r
 let J<-getEnv
 let r<-(do
  let aa (.inductInfo i):=J.find? a|return ab
  let[c]:=i.ctors|return ab
  if i.numIndices !=0||i.isRec then return ab
  let aa (.ctorInfo C):=J.find? c|return ab
  let M<-(ahq i.type λ_ b=>return b.isProp:en Bool);unless M do return ab
  let M<-(ahq C.type λX _=>do
   for x in X[i.numParams:]do unless<-afd (<-xe x)do return ai
   return ae:en Bool)
  unless M do return ab
  return aa (i.numParams,C.numFields):en (Option (Nat×Nat)))
 R.modify (·.insert a r);return r
def aff:Nat->Expr->Option (Array Expr×Expr)
 |0,e=>aa (#[],e)
 |k+1,.lam _ d b _=>do
  let(a,e)<-aff k b;return(#[d]++a,e)
 |_,_=>ab
def pis:Nat->Expr->Option (Array Expr×Expr)
 |0,e=>aa (#[],e)
 |k+1,.forallE _ d b _=>do
  let(a,e)<-pis k b;return(#[d]++a,e)
 |_,_=>ab
def dn1(e:Expr):Expr:=e.lowerLooseBVars 1 1
def kOf(s:String)(n:hi):Option Nat:=match n with|.str (.str _ "Q") t=>if t.startsWith s then(t.drop 1).toNat? else ab|_=>ab
def aki(e:Expr):Option (List Level×Array Expr×Expr×Expr×Expr×Expr):=do
 let .const c l:=e.getAppFn|ab
 let a:=e.getAppArgs
 if c==``ahl then
  guard (a.size==5);return(l,#[a[0]!],a[1]!,a[2]!,a[3]!,a[4]!)
 let k<-kOf "e" c;guard (a.size==k+4);return(l,a.extract 0 k,a[k]!,a[k+1]!,a[k+2]!,a[k+3]!)
def akj(e:Expr):Option (List Level×Nat×Array Expr×Expr):=do
 let .const c l:=e.getAppFn|ab
 let a:=e.getAppArgs
 if c==``ajs then
  guard (a.size==4);return(l,1,#[a[2]!],a[3]!)
 let k<-kOf "i" c;guard (a.size==2*k+2);return(l,k,a.extract (k+1) (2*k+1),a[2*k+1]!)
def aic(e:Expr):Option (Array Expr×Array Expr):=do
 let .const c _:=e.getAppFn|ab
 let a:=e.getAppArgs
 if c==``And.intro then
  guard (a.size==4);return(#[a[0]!,a[1]!],#[a[2]!,a[3]!])
 let k<-kOf "a" c;guard (a.size==2*k);return(a.extract 0 k,a.extract k (2*k))
def ajo:Nat->Expr->Option (Array Expr×Expr)
 |0,b=>aa (#[],b)
 |k+1,b=>do
  guard (b.isAppOfArity ``Exists 2)
  let .lam _ _ E _:=b.appArg!|ab
  let(f0,r)<-ajo k E;return(#[b.appFn!.appArg!]++f0,r)
def aja(f0:Array Expr)(b:Expr):Expr:=f0.foldr (λt b=>.lam `x t b .default) b
def akp(f0:Array Expr):Option (Array Expr):=Id.run do
 let mut u:=#[]
 for h:i in[0:f0.size]do
  let t:=f0[i];for j in[0:i]do if t.hasLooseBVar j then return ab
  u:=u.push (t.lowerLooseBVars i i)
 return aa u
def akk(e:Expr):Option (List Level×Array Expr×Expr×Array Expr×Array Expr×Array Expr×Expr):=do
 let .const c l:=e.getAppFn|ab
 let k<-kOf "r" c;let a:=e.getAppArgs;guard (a.size==4*k+2);return(l,a.extract 0 k,a[k]!,a.extract (k+1) (2*k+1),a.extract (2*k+1) (3*k+1),a.extract (3*k+1) (4*k+1),a[4*k+1]!)
def mrg(k:Nat)(y:Expr)(X:Array Expr):Nat->Nat->Expr->Expr->Option Expr
 |0,_,_,_=>ab
 |g+1,d,p,q=>do
  if p==q then return p
  if p==.bvar (k+d)then
   if q==y.liftLooseBVars 0 (1+k+d)then return p
   ab
  if let .bvar i:=q then
   if i>=d&&i<k+d then
    if p==(X[k-1-(i-d)]!).liftLooseBVars 0 (1+k+d)then return q
    ab
  let m:=mrg k y X g;match p,q with|.app f a,.app N b=>return .app (<-m d f N) (<-m d a b)|.lam n t b i,.lam _ c B _=>return .lam n (<-m d t c) (<-m (d+1) b B) i|.forallE n t b i,.forallE _ c B _=>return .forallE n (<-m d t c) (<-m (d+1) b B) i|.proj s i b,.proj L e B=>if s==L&&i==e then return .proj s i (<-m d b B)else ab|_,_=>ab
def vl(R:afo (HM hi (Option (Nat×Nat)))):Nat->Expr->en (Option Expr)
 |0,_=>return ab
 |g+1,e=>match e with
  |.bvar _|.fvar _=>return aa e
  |.proj r i b=>return(<-vl R g b).map (age r i)
  |.app ..=>do
   let .const c _:=e.getAppFn|return ab
   let aa p:=(<-getEnv).getProjectionFnInfo? c|return ab
   unless !p.fromClass&&e.getAppNumArgs==p.numParams+1 do return ab
   let r:=p.ctorName.getPrefix;unless(<-ahh R r).isSome do return ab
   return(<-vl R g e.appArg!).map (age r p.i)
  |.mdata _ b=>vl R g b
  |_=>return ab
def ar:Expr->Nat|.forallE _ _ b _=>ar b+1|_=>0
def isP(t:Expr):Bool:=match t with|.forallE n _ _ _=>n.eraseMacroScopes==`P|_=>ai
def ajh:Expr->Nat->Option Nat|t@(.forallE _ d b _),i=>if d.isSort&&b.isForall&&isP t then aa i else ajh b (i+1)|_,_=>ab
def nth:Nat->Expr->Option Expr|0,t=>aa t|i+1,.forallE _ _ b _=>nth i b|_,_=>ab
def qc(s:String)(k:Nat)(l:List Level)(a:Array Expr):Expr:=nx (mkConst (cn s k) l) a
def akm(R:afo (HM hi (Option (Nat×Nat))))(b0:Bool)(e:Expr):en (Option Expr):=do
 match e with
  |.proj E i h=>
   if b0||E !=``And then return ab
   if let aa (_,X):=aic h then
    if i==0 then return aa X[0]!
    if X.size==2 then return aa X[1]!
   return ab
  |.app ..=>
   let .const c w:=e.getAppFn|return ab
   let a:=e.getAppArgs
   if b0 then
    if let .str E f:=c then
     if f=="casesOn"||f=="rec"then
      if let aa (m0,l0)<-ahh R E then
       let(v,Q):=if f=="casesOn"then(m0+1,m0+2)else(m0+2,m0+1)
       if a.size>=m0+3 then
        let h:=a[v]!;let w0:=a.extract (m0+3) a.size
        if let aa (_,r0):=aff l0 a[Q]! then
         let A(x:Expr):Array Expr:=(Array.range l0).map λi=>age E i x;if let aa h:=<-vl R 100 h then return aa ((r0.instantiateRev (A h)).beta w0)
         let mut G0:=0;for i in[0:l0]do G0:=G0+occ r0 i
         if G0<=1 then return aa ((r0.instantiateRev (A h)).beta w0)
         let d0:=mkConst E (w.drop (w.length-(((<-getEnv).find? E).map (·.levelParams.length)).getD 0));let T:=(r0.liftLooseBVars l0 1).instantiateRev (A (.bvar 0));return aa (.letE `x (nx d0 (a.extract 0 m0)) h (T.beta (w0.map (·.liftLooseBVars 0 1))) ai)
    if let aa s0:=(<-getEnv).getProjectionFnInfo? c then
     if !s0.fromClass&&a.size>s0.numParams then
      let E:=s0.ctorName.getPrefix;if let aa _<-ahh R E then return aa (nx (.proj E s0.i a[s0.numParams]!) (a.extract (s0.numParams+1) a.size))
   if c==``ajr||c==``ahl then
    if a.size<5||(b0&&a.size==5)then return ab
    let(O,p,h):=(a[0]!,a[1]!,a[3]!);let mut G:=a[2]!;let mut k:=a[4]!;let w0:=a.extract 5 a.size;let mut L:=ai
    if c==``ajr then
     let .lam _ _ g _:=G|return ab
     if g.hasLooseBVar 0 then return ab
     G:=dn1 g;L:=ae
    if w0.size>0 then
     let aa (o,r0):=aff 2 k|return ab
     let mut g:=G
     for x in w0 do
      let .forallE _ _ b _:=g|return ab
      g:=b.instantiate1 x
     G:=g;k:=aja o (r0.beta (w0.map (·.liftLooseBVars 0 2)));L:=ae
    if let aa (o,r0):=aff 2 k then
     if let aa (Y,f0,P,_,a0,t0):=aki r0 then
      let E0(t:Expr):Bool:=t.hasLooseBVar 0
      if a0==.bvar 0&&f0.size+1<=12&&f0.all (λt=>!E0 t&&!t.hasLooseBVar 1)&&!E0 P&&!E0 t0 then
       let R0:=#[O]++f0.map (λt=>t.lowerLooseBVars 2 2);return aa (qc "e" (f0.size+1) (w++Y) (R0++#[.lam `x O (dn1 P) .default,G,h,.lam `x o[0]! (dn1 t0) .default]))
    if L then return aa (nx (mkConst ``ahl w) #[O,p,G,h,k])
    return ab
   if !b0&&a.size==4 then
    if c==``ajs then
     let aa (Y,k,p0,h):=akj a[3]!|return ab
     if k+1>12 then return ab
     let .lam _ _ l _:=a[1]!|return ab
     let aa (S0,r0):=ajo k l|return ab
     let aa I0:=akp (#[a[0]!]++S0)|return ab
     return aa (qc "i" (k+1) (w++Y) (I0++#[aja (I0.mapIdx λi t=>t.liftLooseBVars 0 i) r0,a[2]!]++p0++#[h]))
    if c==``And.intro then
     let aa (f0,X):=aic a[3]!|return ab
     if f0.size+1>12 then return ab
     return aa (qc "a" (f0.size+1) [] (#[a[0]!]++f0++#[a[2]!]++X))
   if !b0&&c==``Or.casesOn&&a.size==6 then
    let .lam _ _ g _:=a[2]!|return ab
    if g.hasLooseBVar 0 then return ab
    return aa (nx (mkConst ``Or.elim) #[a[0]!,a[1]!,dn1 g,a[3]!,a[4]!,a[5]!])
   if c==``Eq.casesOn&&a.size>=6 then
    let .lam n d (.lam _ _ M _) _:=a[2]!|return ab
    let u:=w.getLast!
    if a.size>=8 then
     let .forallE _ e0 (.forallE _ h0 _ _) _:=M|return ab
     unless e0.isAppOf ``Eq&&h0.isAppOf ``HEq&&a[6]!.isAppOf ``afn&&a[7]!.isAppOf ``HEq.refl do return ab
     let(O,x,y,h):=(a[0]!,a[1]!,a[3]!,a[4]!);let A0(p q:Expr):=ael (mkConst ``Eq [u]) O p q;let F:=mkApp4 (mkConst ``afa [u]) O x y h;let H:=mkApp4 (mkConst ``proof_irrel_heq) (A0 x y) (A0 x x) h (qu (mkConst ``afn [u]) O x);return aa (a[5]!.beta (#[F,H]++a.extract 8 a.size))
    if a.size>6||M.hasLooseBVar 0 then return ab
    return aa (nx (mkConst ``agp w) #[a[0]!,a[1]!,.lam n d (dn1 M) .default,a[5]!,a[3]!,a[4]!])
   if !b0&&a.size==6&&kOf "r" c==aa 1 then
    let aa (Y,f0,g,X,q0,B,m):=akk a[5]!|return ab
    let k:=f0.size;if k>=6 then return ab
    let .lam _ _ L0 _:=a[1]!|return ab
    let aa (_,M0):=aff k g|return ab
    let aa b:=mrg k a[3]! X 10000 0 (L0.liftLooseBVars 0 k) (M0.liftLooseBVars k 1)|return ab
    let f:=f0.mapIdx (λi t=>t.liftLooseBVars 0 (i+1))|>.foldr (λt b=>Expr.lam `x t b .default) b;return aa (qc "r" (k+1) (w++Y) (#[a[0]!]++f0++#[.lam `x a[0]! f .default,a[2]!]++X++#[a[3]!]++q0++#[a[4]!]++B++#[m]))
   if c==``agp&&a.size>=6 then
    if a.size==6&&!b0 then if let[.zero,u]:=w then if a[5]!.isAppOfArity ``afa 4&&a[2]!.isLambda then return aa (qc "r" 1 [u] #[a[0]!,a[2]!,a[4]!,a[1]!,a[5]!.appArg!,a[3]!])
    let .lam n d H0 v0:=a[2]!|return ab
    if a.size==6&&!H0.hasLooseBVar 0 then return aa a[3]!
    let k:=a.size-6;if k==0 then return ab
    let aa (o,r0):=aff k a[3]!|return ab
    let aa (S,G):=pis k H0|return ab
    for t in[0:k]do
     let i:=k-1-t;if r0.hasLooseBVar t||G.hasLooseBVar t then continue
     let mut u0:=ai;for j in[i+1:k]do if S[j]!.hasLooseBVar (j-1-i)||o[j]!.hasLooseBVar (j-1-i)then u0:=ae
     if u0 then continue
     let y0(s:Nat)(e:Expr):Expr:=e.lowerLooseBVars (s+1) 1;let mut f:=y0 t r0;let mut g:=y0 t G
     for U in[0:k]do
      let j:=k-1-U;if j==i then continue
      f:=.lam `x (if j>i then y0 (j-1-i) o[j]! else o[j]!) f .default;g:=.forallE `x (if j>i then y0 (j-1-i) S[j]! else S[j]!) g .default
     return aa (nx e.getAppFn (#[a[0]!,a[1]!,.lam n d g v0,f,a[4]!,a[5]!]++(a.extract 6 (6+i))++(a.extract (7+i) a.size)))
    return ab
   if let .str C "noConfusion":=c then
    let J<-getEnv
    let aa (.ctorInfo _):=J.find? C|return ab
    let aa C0:=J.find? (C.str "inj")|return ab
    let aa k0:=J.find? c|return ab
    let aa F0:=ajh k0.type 0|return ab
    let n:=ar k0.type;unless n==ar C0.type+2&&a.size>=n do return ab
    let k:=a[n-1]!
    let aa (.forallE _ j0 _ _):=nth (n-1) k0.type|return ab
    let q:=ar j0
    let aa (n0,_):=pis q j0|return ab
    let N0:=((a.extract 0 F0)++(a.extract (F0+1) (n-2))).push a[n-2]!;let Q0:=match nth F0 k0.type with|aa (.forallE _ (.sort (.param n)) _ _)=>aa n|_=>ab
    let J0:=(k0.levelParams.zip w).filterMap λ(x,u)=>if Q0==aa x then ab else aa u;unless J0.length==C0.levelParams.length&&q>0 do return ab
    let g0:=nx (mkConst (C.str "inj") J0) N0
    let aa (O0,r0):=aff q k|return ab
    let mut z:=#[];let mut x0:=g0
    for i in[0:q]do
     let x:=if i+1==q then x0 else age ``And 0 x0;if i+1<q then x0:=age ``And 1 x0
     if n0[i]!.isAppOf ``Eq then z:=z.push x else if n0[i]!.isAppOf ``HEq then
      let t:=O0[i]!;unless t.isAppOfArity ``HEq 4 do return ab
      let i0:=t.getAppArgs;if i0.any λx=>(aW i).any λj=>x.hasLooseBVar j then return ab
      let c0(x:Expr):=x.lowerLooseBVars i i;z:=z.push (nx (mkConst ``heq_of_eq t.getAppFn.constLevels!) #[c0 i0[0]!,c0 i0[1]!,c0 i0[3]!,x])else return ab
    return aa ((r0.instantiateRev z).beta (a.extract n a.size))
   if b0 then return ab
   if c==``eq_of_heq&&a.size>=4 then
    if a[3]!.isAppOfArity ``heq_of_eq 4 then return aa (nx (a[3]!.appArg!) (a.extract 4 a.size))
    return ab
   if c==``afa&&a.size==4 then
    if a[3]!.isAppOfArity ``afa 4 then return aa a[3]!.appArg!
    return ab
   if c==``of_eq_true&&a.size==2 then
    let h:=a[1]!;unless h.isAppOfArity ``Eq.trans 6 do return ab
    let I:=h.getAppArgs;unless I[5]!.isAppOf ``eq_self&&a[0]!.isAppOfArity ``Eq 3 do return ab
    let u:=a[0]!.getAppFn.constLevels!
    let#[O,x,y]:=a[0]!.getAppArgs|return ab
    let N:=I[4]!;let o0:=N.getAppArgs
    if N.isAppOfArity ``congr 8 then
     let f:=o0[6]!;unless f.isAppOfArity ``congrArg 6 do return ab
     let Z:=f.getAppArgs;unless Z[4]!.isAppOfArity ``Eq 1 do return ab
     return aa (nx (mkConst ``Eq.trans u) #[O,x,Z[3]!,y,Z[5]!,mkApp4 (mkConst ``afa u) O y Z[3]! o0[7]!])
    if N.isAppOfArity ``congrArg 6 then
     if o0[4]!.isAppOfArity ``Eq 2 then return aa (mkApp4 (mkConst ``afa u) O y x o0[5]!)
     if let .lam _ _ (.app (.app (.app (.const ``Eq _) _) (.bvar 0)) r) _:=o0[4]! then if !r.hasLooseBVar 0 then return aa o0[5]!
    return ab
   return ab
  |_=>return ab
def ahj(R:afo (HM hi (Option (Nat×Nat))))(k:Bool):Nat->Expr->en Expr|0,e=>return e|g+1,e=>do match<-akm R k e with|aa r=>ahj R k g r|ab=>return e
def elim(R:afo (HM hi (Option (Nat×Nat))))(e:Expr):en Expr:=agr e (pre:=λe=>match e with|.app ..=>return .continue (<-ahj R ae 100 e)|.mdata _ b=>return .visit b|_=>return .continue) (post:=λe=>match e with|.app ..|.proj ..=>return .done (<-ahj R ai 20 e.headBeta)|e=>return .done (air e))
end Z
end
section
open Lean Meta Elab Tactic
namespace Z
def szE:Expr->Nat|.const _ _|.app _ _=>32|.lam ..|.forallE ..=>48|.letE ..=>56|.proj ..=>40|_=>24
structure aht where
 e:Expr
 k:Nat
 a:Nat:=0
 b:Nat:=0
 c:Nat:=0
 x:Nat:=0
 inn:Nat:=0
 sz:Nat:=0 deriving Inhabited
structure Bnd where
 lvl:Nat
 node:Nat
 lam:Bool
 fv:FVarId deriving Inhabited
structure Sc where
 nodes:Array aht:=#[]
 aer:Array Bnd:=#[]
 ids:HM Expr Nat:={}
 fvs:HM FVarId Nat:={}
 lctx:LocalContext:={}
def inner(s:Sc)(i j:Nat):Nat:=let l(i:Nat):Nat:=if i==0 then 0 else s.aer[i-1]!.lvl;if l i<l j then j else i
def agg(n:aht):StateT Sc en Nat:=do
 let s<-get;let i:=s.nodes.size;set {s with nodes:=s.nodes.push n,ids:=s.ids.insert n.e i};return i
def afc:Nat->Expr->StateT Sc en Nat
 |0,_=>throwError"scan"
 |g+1,e=>do
  if let aa i:=(<-get).ids[e]? then return i
  let B(k:Nat)(d:Expr)(v:Option Expr)(b:Expr):StateT Sc en Nat:=do
   let i<-afc g d;let l<-match v with|aa v=>afc g v|ab=>av 0
   let C<-get;let j0:=if e.hasFVar then(collectFVars {} e).fvarIds else#[];let T:=j0.foldl (λt f=>match C.fvs[f]? with|aa j=>Nat.max t C.aer[j]!.lvl|ab=>t) 0;let f<-ahr;let x:=C.aer.size;modify λs=>{s with aer:=s.aer.push ⟨T+1,0,k==2,f⟩,fvs:=s.fvs.insert f x,lctx:=match v with|aa v=>s.lctx.mkLetDecl f `x d v ai|ab=>s.lctx.mkLocalDecl f `x d .default};let j<-afc g (b.instantiate1 (.fvar f));let s<-get;let u:=j0.foldl (λt f=>match s.fvs[f]? with|aa q=>inner s t (q+1)|ab=>t) (if v.isSome then 0 else s.nodes[i]!.inn);let z:=s.nodes[i]!.sz+s.nodes[j]!.sz;let r<-agg (if v.isSome then{e:=e,k:=k,a:=i,b:=l,c:=j,x:=x,inn:=u,sz:=agj 1000000 (z+s.nodes[l]!.sz+56)}else{e:=e,k:=k,a:=i,b:=j,x:=x,inn:=u,sz:=agj 1000000 (z+48)});modify λs=>{s with aer:=s.aer.modify x λq=>{q with node:=r}};return r
  match e with
   |.app f a=>
    let i<-afc g f;let j<-afc g a;let s<-get;agg {e:=e,k:=1,a:=i,b:=j,inn:=inner s s.nodes[i]!.inn s.nodes[j]!.inn,sz:=agj 1000000 (s.nodes[i]!.sz+s.nodes[j]!.sz+32)}
   |.lam _ d b _=>B 2 d ab b
   |.forallE _ d b _=>B 3 d ab b
   |.letE _ d v b _=>B 4 d (aa v) b
   |.mdata _ b=>afc g b
   |.proj _ _ b=>
    let j<-afc g b;let s<-get;agg {e:=e,k:=5,a:=j,inn:=s.nodes[j]!.inn,sz:=s.nodes[j]!.sz+40}
   |.fvar f=>agg {e:=e,k:=0,inn:=match(<-get).fvs[f]? with|aa q=>q+1|ab=>0,sz:=24}
   |_=>agg {e:=e,k:=0,sz:=szE e}
def aks(n:Nat):Nat:=Id.run do
 let mut n:=n;let mut c:=0
 while n !=0 do
  n:=n&&&(n-1);c:=c+1
 return c
def aji(v:Expr):en Expr:=do
 let(r,s)<-(afc 100000 v).run {}
 withReader (λc=>{c with lctx:=s.lctx}) do
  let n:=s.nodes.size;let mut A:Array Nat:=afm n 0;A:=A.set! r 1;let mut H:HM Nat (Array (Nat×Expr×FVarId)):={};let mut o:HM Nat FVarId:={};let mut g:HM Nat Bool:={}
  for t in[0:r+1]do
   let i:=r-t;let N:=s.nodes[i]!;let mut m:=A[i]!;if m==0 then continue
   if N.k !=0&&N.inn !=0&&N.sz>=100&&m&&&(m-1)!=0 then
    if(aks m-1)*N.sz>=250 then
     let x:=N.inn-1;let R:=s.aer[x]!
     if R.lam then
      let I<-match g[x]? with
       |aa b=>av b
       |ab=>
        do
         let b<-(try isProof s.nodes[s.nodes[R.node]!.b]!.e catch _=>av ai);g:=g.insert x b;av b
      if I then
       let B<-(try
        let T<-xe N.e;if<-afd T then av ab else av (aa T)catch _=>av ab)
       if let aa T:=B then
        let y<-ahr;H:=H.insert x ((H.getD x #[]).push (i,T,y));o:=o.insert i y;let f:=A[R.node]!;m:=(f^^^(f&&&(f-1)))<<<1
        if let aa j:=s.ids[T]? then
         let w:=m;A:=A.modify j (·|||w)
   let w:=m;match N.k with|1=>A:=(A.modify N.a (·|||w)).modify N.b (·|||w)|2|3=>A:=(A.modify N.a (·|||w)).modify N.b (·|||(w<<<1))|4=>A:=((A.modify N.a (·|||w)).modify N.b (·|||w)).modify N.c (·|||(w<<<1))|5=>A:=A.modify N.a (·|||w)|_=>av ()
  let mut d:Array Expr:=afm n (.bvar 0);let l(d:Array Expr)(i:Nat):Expr:=match o[i]? with|aa y=>.fvar y|ab=>d[i]!
  for i in[0:r+1]do
   if A[i]! ==0 then continue
   let N:=s.nodes[i]!;let p(e:Expr):Expr:=e.abstract #[.fvar s.aer[N.x]!.fv]
   let e:=match N.k with
    |1=>Expr.app (l d N.a) (l d N.b)
    |2|3=>Id.run do
     let mut r0:=l d N.b
     if let aa u:=H[N.x]? then
      let u:=u.qsort λa b=>a.1>b.1
      for(h,T,y)in u do
       let z:=match s.ids[T]? with|aa j=>if A[j]! ==0||j>=i then T else(let t:=l d j;if u.any (λq=>q.1>h&&t.hasAnyFVar (·==q.2.2))then T else t)|ab=>T
       r0:=.letE `y z d[h]! (r0.abstract #[.fvar y]) ai
     if N.k==2 then return Expr.lam `x (l d N.a) (p r0) .default else return Expr.forallE `x (l d N.a) (p r0) (match N.e with|.forallE _ _ _ b=>b|_=>.default)
    |4=>Expr.letE `x (l d N.a) (l d N.b) (p (l d N.c)) ai
    |5=>match N.e with|.proj t k _=>age t k (l d N.a)|_=>N.e
    |_=>N.e
   d:=d.set! i e
  return d[r]!
def ord(f:hi->Option Tf):Nat->hi->StateM (HS hi×Array hi) Unit
 |0,_=>return
 |g+1,n=>do
  if(<-get).1.contains n then return
  let aa c:=f n|return
  modify λ(s,o)=>(s.insert n,o);let a(e:Expr):StateM (HS hi×Array hi) Unit:=do for u in e.getUsedConstants do ord f g u
  a c.type;if let aa v:=c.value? (allowOpaque:=ae)then a v
  match c with|.inductInfo i=>for u in i.ctors do if let aa l:=f u then a l.type|.ctorInfo i=>ord f g i.induct|.recInfo i=>for u in i.all do ord f g u|_=>av ()
  modify λ(s,o)=>(s,o.push n)
def inl(u:HM hi (List hi×Expr))(v:Expr):en Expr:=agr v (pre:=λe=>match e with
 |.app ..=>match e.getAppFn with
  |.const n l=>match u[n]? with|aa (a,v)=>return .visit ((v.instantiateLevelParams a l).beta e.getAppArgs)|ab=>return .continue
  |_=>return .continue
 |.const n l=>match u[n]? with|aa (a,v)=>return .visit (v.instantiateLevelParams a l)|ab=>return .continue
 |_=>return .continue)
def ajq(u:HS hi)(v:Expr)(m:HM hi (Nat×Nat)):en (HM hi (Nat×Nat)):=do
 let r<-agq m
 v.forEach' (m:=en) λe=>do
  match e.getAppFn with
   |.const c _=>
    if u.contains c then
     let k:=e.getAppNumArgs;r.modify λm=>match m[c]? with|aa (a,n)=>if a==k then m.insert c (a,n+1)else if a<k then m.insert c (k,1)else m|ab=>m.insert c (k,1)
   |_=>av ()
  return ae
 r.get
def afj(n:hi)(l:List String):Bool:=l.any λt=>(n.toString.splitOn t).length>1
def isF:Expr->Bool|.forallE _ _ b _=>isF b|t=>t.isConstOf ``False
def ahf:hi->Bool|.str _ s=>s.startsWith "_proof_"|.num p _=>ahf p|_=>ai
def akr(k:Nat)(e:Expr):en Bool:=do
 let r<-agq 0
 e.forEach' (m:=en) λ_=>do
  let n<-r.get;r.set (n+1);return n<=k
 return(<-r.get)<=k
def aeq(c:Tf)(T v:Expr):Tf:=match c with|.thmInfo d=>.thmInfo {d with type:=T,value:=v}|.defnInfo d=>.defnInfo {d with type:=T,value:=v}|c=>c
def agd(c:Tf):Option Expr:=c.value? (allowOpaque:=ae)
def ahg:Tf->Bool|.thmInfo _=>ae|_=>ai
def hz(n:hi):Bool:=afj n ["hdz","W.Fast"]
def alc(E0:hi->Bool)(e:hi):en (Array Tf):=do
 let J<-getEnv;let f(n:hi):Option Tf:=if E0 n then J.find? n else ab;let o:=((ord f 100000 e).run ({},#[])).2.2;let mut I:Array Tf:=#[]
 for n in o do
  let aa c:=J.find? n|continue
  let c<-match c with|.defnInfo d=>if<-afd d.type then av (ConstantInfo.thmInfo {name:=d.name,levelParams:=d.levelParams,type:=d.type,value:=d.value})else av c|c=>av c
  if ahf n&&isF c.type then
   if let aa p:=<-(try withCurrHeartbeats (Lia.akt c.type)catch _=>av ab)then
    I:=I.push (aeq c c.type p);continue
  I:=I.push c
 let mut C:HM hi Nat:={}
 for c in I do
  for u in c.type.getUsedConstants do C:=C.insert u 2
  if let aa v:=agd c then for u in v.getUsedConstants do C:=C.insert u (C.getD u 0+1)
 let mut b:HS hi:={};for c in I do if ahg c&&!hz c.name&&c.name !=e&&C.getD c.name 0==1 then b:=b.insert c.name
 let mut m:HM hi (Nat×Nat):={};for c in I do if let aa v:=agd c then if v.getUsedConstants.any b.contains then m<-ajq b v m
 let mut a:HM hi (List hi×Expr):={};let mut R:Array Tf:=#[]
 for c in I do
  if ahg c&&!hz c.name then
   let aa v:=agd c|continue
   let u0<-if v.getUsedConstants.any a.contains then inl a v else av v
   if b.contains c.name&&(m.getD c.name (0,0)).2<=1&&(ahf c.name||(<-akr 6000 u0))then a:=a.insert c.name (c.levelParams,u0)else R:=R.push (aeq c c.type u0)else match c with|.defnInfo d=>R:=R.push (aeq c d.type (<-if d.value.getUsedConstants.any a.contains then inl a d.value else av d.value))|c=>R:=R.push c
 let mut i:HS hi:={};let mut g:HM hi Nat:={}
 for c in R do
  for u in c.type.getUsedConstants do i:=i.insert u
  if let aa v:=agd c then for u in v.getUsedConstants do if ahg c then g:=g.insert u (g.getD u 0+1)else i:=i.insert u
 b:={};for c in R do if let .defnInfo d:=c then if !i.contains d.name&&g.getD d.name 0<=1&&afj d.name ["match_","_f","_sparseCasesOn","._unary","else_eq"]&&!hz d.name then b:=b.insert d.name
 m:={};for c in R do if let aa v:=agd c then if v.getUsedConstants.any b.contains then m<-ajq b v m
 a:={};let mut r:Array Tf:=#[];for c in R do match c with|.defnInfo d=>if b.contains d.name&&(m.getD d.name (0,0)).2<=1 then a:=a.insert d.name (d.levelParams,<-inl a d.value)else r:=r.push c|.thmInfo d=>r:=r.push (aeq c d.type (<-if d.value.getUsedConstants.any a.contains then inl a d.value else av d.value))|c=>r:=r.push c
 return r
def mS(e:Expr):Nat->List Expr|0=>[]|k+1=>if e.isAppOfArity ``CB 3 then e.appFn!.appArg!::mS e.appArg! k else[]
def akq(e:Expr):en Expr:=agr e (pre:=λe=>match e with|.letE _ _ v b _=>return .visit (b.instantiate1 v)|_=>return .continue)
def alf(I:Array Tf):en (Array Tf):=do
 let u:HM hi Tf:=I.foldl (λm c=>m.insert c.name c) {};let mut x:HM hi hi:={};let mut F:HM hi Expr:={}
 for c in I do
  unless afj c.name ["W.Fast.te"]do continue
  let aa (O,a,b):=c.type.eq?|continue
  if a.isConst&&b.isConst&&afj a.constName! ["hdz."]then
   x:=x.insert a.constName! b.constName!;F:=F.insert c.name (qu (mkConst ``afn c.type.getAppFn.constLevels!) O b)
 let aa g:=u[`Mine.hdz.heap_1005]?|throwError"heap"
 let aa s:=u[`Mine.hdz.heap_328]?|throwError"heap"
 let H(h:Tf):en (List Expr):=do
  let v<-akq h.value!;return mS ((v.find? λe=>e.isAppOfArity ``CB 3).getD v) 100000
 let J:=(<-H g).toArray
 for p in<-H s do
  let a:=p.getAppArgs;unless p.isAppOfArity ``Prod.mk 4 do continue
  let aa i:=(match a[2]!.nat? with|aa i=>aa i|ab=>a[2]!.rawNatLit?)|continue
  let z:=a[3]!.getAppFn;let o:=J[i]!.getAppFn;if z.isConst&&o.isConst then x:=x.insert z.constName! (x.getD o.constName! o.constName!)
 let B(e:Expr):Expr:=e.replace λe=>match e with
  |.const n f=>match x[n]? with|aa j=>aa (.const j f)|ab=>F[n]?
  |_=>ab
 let mut R:Array Tf:=#[]
 for c in I do
  if x.contains c.name||F.contains c.name then continue
  let T:=B c.type
  match c with
   |.thmInfo d=>
    if afj c.name ["W.Fast.te"]then
     let aa (O,_,b):=T.eq?|continue
     R:=R.push (aeq c T (qu (mkConst ``afn T.getAppFn.constLevels!) O b))else R:=R.push (aeq c T (B d.value))
   |.defnInfo d=>R:=R.push (aeq c T (B d.value))
   |_=>R:=R.push c
 let M:List hi:=[1035,1040,1010,1064,1043,1063,1069,1055].map λ(k:Nat)=>`Mine.hdz++ake s!"thread_{k}";let mut L:HM hi Expr:={}
 for c in R do
  unless afj c.name ["hdz._proof_"]do continue
  let .forallE n d b C:=c.type|continue
  let aa (_,l,r):=b.eq?|continue
  let .lam q y E _:=l|continue
  let .lam _ _ G _:=r|continue
  unless G.isAppOfArity ``aa 2 do continue
  let p:=G.appArg!;unless p.isAppOfArity ``Prod.mk 4 do continue
  let t:=p.appArg!.getAppFn;unless t.isConst&&M.contains t.constName!&&!L.contains t.constName! do continue
  unless afj (E.getAppFn.constName?.getD .anonymous) ["W.Fast"]do continue
  let A:=G.appFn!.appArg!;let w:=p.getAppArgs;let U(e:Expr):Expr:=e.liftLooseBVars 0 1;let v:=nx (mkConst ``Option.rec [1,0]) #[A,.lam `x (aei (mkConst ``Option [0]) A) (U w[1]!) .default,qu (mkConst `Mine.hdz.thread_1011) (.bvar 1) (.bvar 0),.lam `p A (ael (mkConst ``Prod.snd [0,0]) (U w[0]!) (U w[1]!) (.bvar 0)) .default,E];L:=L.insert t.constName! (.lam n d (.lam q y v .default) C)
 return R.map λc=>match L[c.name]? with|aa v=>aeq c c.type v|ab=>c
def ald(I:Array Tf):en (Array Tf):=do
 let R<-agq {};let mut a:Array Tf:=#[]
 for c in I do
  match c with
   |.thmInfo d=>
    if hz d.name then
     a:=a.push (aeq c d.type (<-aji d.value));continue
    let u0<-elim R d.value;let C0<-ala u0;let C0<-elim R C0;let e0<-try aji C0 catch _=>av C0
    a:=a.push (aeq c d.type e0)
   |_=>a:=a.push c
 return a
def ale(I:Array Tf)(E0:hi->Bool)(p:hi):en (Array ahp×hi):=do
 let J<-getEnv;let b:HM hi Tf:=I.foldl (λm c=>m.insert c.name c) {};let f(n:hi):Option Tf:=match b[n]? with|aa c=>aa c|ab=>if E0 n then J.find? n else ab
 let o:=((ord f 100000 p).run ({},#[])).2.2;let mut m:HM hi hi:={};let mut k:Nat:=0
 for n in o do
  match f n with
   |aa (.thmInfo _)|aa (.defnInfo _)=>
    m:=m.insert n ((`Mine).str s!"a{k}");k:=k+1
   |_=>av ()
 let r(e:Expr):Expr:=e.replace λe=>match e with
  |.const n l=>match m[n]? with|aa g=>aa (.const g l)|ab=>ab
  |_=>ab
 let mut a:Array Expr:=#[];let mut A:Array Tf:=#[]
 for n in o do
  let aa c:=f n|continue
  a:=a.push (r c.type)|>.push (match agd c with|aa v=>r v|ab=>.bvar 0);A:=A.push c
 a:=ShareCommon.shareCommon' a;let mut R:Array ahp:=#[]
 for h:i in[0:A.size]do
  let c:=A[i];let T:=a[2*i]!;let v:=a[2*i+1]!;let l0:=m.getD c.name c.name
  match c with
   |.thmInfo d=>R:=R.push (.thmDecl {d with name:=l0,type:=T,value:=v,all:=[l0]})
   |.defnInfo d=>R:=R.push (.defnDecl {d with name:=l0,type:=T,value:=v,all:=[l0]})
   |.inductInfo d=>
    let mut j:List Constructor:=[]
    for u in d.ctors do
     let aa (.ctorInfo C):=f u|throwError"constructor"
     j:=j++[{name:=u,type:=r C.type}]
    R:=R.push (.inductDecl d.levelParams d.numParams [{name:=c.name,type:=T,ctors:=j}] ai)
   |_=>av ()
 return(R,m.getD p p)
def akg(J:Environment)(n0:Array ahp):en Environment:=do
 let mut J:=J;for d in n0 do match J.addDeclCore 0 0 d ab with|.ok e=>J:=e|.error w0=>throwError w0.toMessageData {}
 return J
end Z
end
open PySem PyProof.Rows PySem.W
abbrev P0:mz:=Oj
abbrev Tx:=#[j]
inductive V where|none|bool(b:Bool)|int(i:Int)|str(t:Tx)|ob(i:Nat)deriving DecidableEq,Inhabited
inductive aM{O d:Type}(R:O->d->Prop):List O->List d->Prop where|nil:aM R [] []|cons{a b l m}:R a b->aM R l m->aM R (a::l) (b::m)
theorem aM.mono{R C:O->d->Prop}(h:∀a b,R a b->C a b)(x:aM R l m):aM C l m:=by induction x with|nil=>exact .nil|cons a _ Q=>exact .cons (h _ _ a) Q
theorem aM.length{l:List O}{m:List d}(x:aM R l m):l.length=m.length:=by induction x with|nil=>rfl|cons _ _ Q=>simp[Q]
theorem aM.append{l L:List O}{m A:List d}(x:aM R l m)(y:aM R L A):aM R (l++L) (m++A):=by induction x with|nil=>exact y|cons a _ Q=>exact .cons a Q
theorem aM.get{l:List O}{m:List d}(x:aM R l m):∀{i:Nat}{b:d},#[I,m,b]->∃a,#[I,l,a]/\R a b:=by induction x with|nil=>intro i b h;simp at h|cons a _ Q=>intro i b h;cases i with|zero=>simp at h;subst h;exact#[b4,a]|succ i=>simp_all
theorem aM.get'{l:List O}{m:List d}(x:aM R l m):∀{i:Nat}{a:O},#[I,l,a]->∃b,#[I,m,b]/\R a b:=by induction x with|nil=>intro i b h;simp at h|cons a _ Q=>intro i b h;cases i with|zero=>simp at h;subst h;exact#[b4,a]|succ i=>simp_all
theorem aM.set{R:O->d->Prop}(x:aM R l m)(r:R a b):∀(i:Nat),aM R (l.set i a) (m.set i b):=by induction x with|nil=>intro i;exact .nil|cons e h Q=>intro i;cases i with|zero=>exact .cons r h|succ i=>exact .cons e (Q i)
theorem aM.take{l:List O}{m:List d}(x:aM R l m):∀(i:Nat),aM R (l.take i) (m.take i):=by induction x with|nil=>intro i;simp;exact .nil|cons e h Q=>intro i;cases i with|zero=>exact .nil|succ i=>exact .cons e (Q i)
theorem aM.drop{l:List O}{m:List d}(x:aM R l m):∀(i:Nat),aM R (l.drop i) (m.drop i):=by induction x with|nil=>intro i;simp;exact .nil|cons e h Q=>intro i;cases i with|zero=>exact .cons e h|succ i=>exact Q i
theorem aM.rev{l:List O}{m:List d}(x:aM R l m):aM R l.reverse m.reverse:=by induction x with|nil=>exact .nil|cons e h Q=>rw[xp,xp];exact Q.append (.cons e .nil)
def VR(O:#[s])(v:af):V->Prop|.none=>v=.none|.bool b=>v=.bool b|.int i=>∃t,v=.int i t|.str t=>∃s k,v=.str s k/\s.cps.toList=t|.ob i=>∃a,#[da]/\v=.ref a
theorem gU{O:Type}{l L:#[g]}(h:l<+:L){i:Nat}{a:O}(e:#[I,l,a]):#[I,L,a]:=by
 obtain⟨t,rfl⟩:=h;rw[cG];.exact e
 .exact#[U,e]
theorem VR.pre(h:O<+:j)(r:#[bn,x]):VR j v x:=by cases x with|ob i=>obtain⟨a,e,rfl⟩:=r;exact#[au,a,gU h e]|none=>exact r|bool b=>exact r|int i=>exact r|str t=>exact r
def bt(h:bk)(a:ao):Prop:=∃o,#[cu]/\((∃Y q t,o.data=.fields Y/\Y[1]?=aa (.str q t)/\q.cps.size≠0)\/(o.cls=.type "tuple"/\∃Y n,#[fG,Y,n]))
theorem bt.no(e:#[cu])(N:∀Y q t,o.data=.fields Y->Y[1]?=aa (.str q t)->q.cps.size=0)(a0:∀Y n,#[fG,Y,n]->o.cls≠#[gD]):¬bt h a:=λ⟨L,_,k⟩=>by grind
inductive Ob where|list(X:#[D])|tup(X:#[D])|raw(R:ck->Prop)|rel(n:Nat)(R:#[s]->ck->Prop)(h:∀(O j:#[s])(o:ck),(#[j8])->R O o->R j o)|hp(n:Nat)(R:#[s]->ck->Prop)(P:ao->Prop)(T:bk->ck->Prop)(h:∀(O j:#[s])(o:ck),(#[j8])->R O o->R j o)(k:#[mO,g.get? b=aa e0->bt g b->P b->J.get? b=aa e0])deriving Inhabited
def OR(O:#[s])(o:ck):Ob->Prop|.list X=>∃Y n,o=⟨#[f4],ab,.seq Y n,#[]⟩/\#[gl]|.tup X=>∃Y n,o=⟨#[gD],ab,.seq Y n,#[]⟩/\#[gl]|.raw R=>R o|.rel n R _=>n<=O.length/\R O o|.hp n R _ _ _ _=>n<=O.length/\R O o
theorem OR.pre(h:O<+:j)(r:OR O o x):OR j o x:=by cases x with|list X=>obtain⟨Y,n,e,a⟩:=r;exact#[aC,n,e,a.mono λ_ _ q=>q.pre h]|tup X=>obtain⟨Y,n,e,a⟩:=r;exact#[aC,n,e,a.mono λ_ _ q=>q.pre h]|raw R=>exact r|rel n R k=>exact⟨aH r.1 h.length_le,k _ _ o (λi b=>by obtain⟨t,rfl⟩:=h;exact cG (eo b r.1)) r.2⟩|hp n R P T k _=>exact⟨aH r.1 h.length_le,k _ _ o (λi b=>by obtain⟨t,rfl⟩:=h;exact cG (eo b r.1)) r.2⟩
structure fD where
 c:ao
 P:ao
 pos:aZ
 name:aq
 qual:aq
structure Bs where
 heap:bk
 fb:List fD
 lo:ao:=0
def Bs.tabs(B:Bs):#[s]:=B.fb.map (·.P)
abbrev ng(v:#[be]):ck:={cls:=.none,data:=.fields v}
def tY(B:Bs)(h:bk):Prop:=∀x∈B.fb,x.qual.cps.size≠0/\∃v,h.IsCode x.c x.P v/\(h.get? x.P=aa (ng v)/\∃q a,B.heap.get? x.P=aa (ng q)/\v=q++a)/\(ju x.pos v.toList=ab\/∃y,ju x.pos v.toList=aa (.ref y)/\h.CodeRec (.ref y) x.qual/\#[al,y])
def lA(B:Bs)(h:bk)(a:ao):Prop:=¬bt h a\/(a<B.lo/\∃o Y n,#[cu]/\#[fG,Y,n])
def Yg(B:Bs)(b:ao)(o:ck):Prop:=∀Y n,#[fG,Y,n]->B.lo<=b
theorem lA.ne(x:lA B h a)(e:#[cq])(X:bt h b)(m:Yg B b o):b≠a:=λw=>by
 subst w;obtain x|⟨x,L,Y,n,F,d⟩:=x;.exact x X
 .rw[e]at F;cases F;exact absurd (m _ n d) (xF.mpr x)
theorem tY.keep(t:tY B h)(X:#[g])(k:#[di,#[cq],b∉X])(q:∀x∈X,lA B h x/\∀y∈B.fb,x≠y.c/\x≠y.P):tY B c0:=λx z=>by
 obtain⟨n,v,⟨o,Y,U,s,F,T,G,l,m,I,a,d,i,j,Z,w,R,b,r⟩,p,O⟩:=t x z;refine⟨n,_,⟨o,_,_,_,_,_,_,_,_,_,k _ _ a (λf=>((q _ f).2 x z).1 rfl),d,i,j,Z,w,R,k _ _ b (λf=>((q _ f).2 x z).2 rfl),r⟩,⟨k _ _ p.1 (λf=>((q _ f).2 x z).2 rfl),p.2⟩,?_⟩;obtain O|⟨g,O,⟨c,L,u,Q,e,S,H,A⟩,n0⟩:=O;.exact .inl O
 .cases e;exact .inr #[aC,O,⟨_,_,_,_,rfl,k _ _ S (λf=>(q _ f).1.ne S #[as,S,.inl ⟨_,_,_,H,A,n⟩] (λ_ _ e=>by simp_all) rfl),H,A⟩,n0]
def GH(B:Bs)(h:bk):Prop:=#[ap,h.objs.size]/\(∀b o,B.heap.get? b=aa o->#[al,b]->#[cq])/\tY B h/\B.lo<=h.objs.size
def hq(B:Bs):Prop:=∀x∈B.fb,x.c<B.heap.objs.size/\x.P<B.heap.objs.size/\∀y∈B.fb,x.c≠y.P/\(x.P=y.P->x.c=y.c/\(x=y\/¬((x.pos.line:Int)=y.pos.line/\(x.pos.col:Int)=y.pos.col)))
theorem hq.tab(h:hq B):∀t∈B.tabs,t<B.heap.objs.size:=λt n0=>by obtain⟨x,z,rfl⟩:=bI.mp n0;exact(h x z).2.1
theorem hq.ne(h:hq B){a:ao}(I:#[ap,a]):∀y∈B.fb,a≠y.c/\a≠y.P:=λy m=>⟨hj (eo (h y m).1 I),hj (eo (h y m).2.1 I)⟩
theorem GH.one(g:GH B h)(s:hq B){a:ao}(I:#[ap,a])(U:¬bt h a)(u:#[hp])(k:#[di,b≠a,#[cq]]):GH B c0:=⟨aH g.1 u,λb o e n0=>k b o (cz (eo (bj e) I)) (g.2.1 b o e n0),g.2.2.1.keep [a] (λb o e Z=>#[jb,k]) #[b1,by rw[aY.mp z];exact⟨.inl U,s.ne I⟩],aH g.2.2.2 u⟩
theorem GH.grow(g:GH B h)(u:#[hp])(k:#[it,h.get?]):GH B c0:=⟨aH g.1 u,λb o e n0=>k b o (g.2.1 b o e n0),g.2.2.1.keep [] (#[dJ,k]) #[av],aH g.2.2.2 u⟩
structure Gm where
 sc:bq
 fz:Nat:=0
 mc:#[bw]:=[]
 own:List fD:=[]
def gb(B:Bs)(J:aN)(h:bk)(a:ao):Prop:=∀o f0,#[cu]->#[dW]->(∃c,#[gI,c]/\#[al,c]/\h.CodeRec (.ref c) f0.qualname/\f0.qualname.cps.size≠0)/\#[jd]
theorem gb.gB(f:gb B J h a)(I:#[fB])(k:#[kY]):gb B J c0 a:=λo f0 p Z=>by obtain⟨⟨c,N,a0,⟨P,m0,Y,t,e,S,H,A⟩,n⟩,X⟩:=f o _ (I o p) Z;cases e;refine⟨⟨c,N,a0,⟨c,_,_,t,rfl,k c _ S #[as,S,.inl ⟨_,_,t,H,A,n⟩] a0 (λ_ _ e=>#[R]),H,A⟩,n⟩,X⟩
def gH(B:Bs)(h:bk)(a:ao):Prop:=∀o f0,#[cu]->#[dW]->∃c,#[gI,c]/\#[al,c]/\h.CodeRec (.ref c) f0.qualname/\f0.qualname.cps.size≠0
theorem gH.gB(f:gH B h a)(I:#[fB])(k:#[kY]):gH B c0 a:=λo f0 p Z=>by obtain⟨c,N,a0,⟨P,m0,Y,t,e,S,H,A⟩,n⟩:=f o _ (I o p) Z;cases e;exact⟨c,N,a0,⟨c,_,_,t,rfl,k c _ S #[as,S,.inl ⟨_,_,t,H,A,n⟩] a0 (λ_ _ e=>#[R]),H,A⟩,n⟩
structure hg(B:Bs)(h:bk)(a:ao)(P:ao->Prop)(T:bk->ck->Prop):Prop where
 fn:gH B h a
 low:∀b,P b->#[al,b]/\B.lo<=b
 at_:∀o,#[cu]->T h o
theorem hg.gB(x:hg B h a P T)(m:#[mO,g.get? b=aa e0->bt g b->P b->J.get? b=aa e0])(I:#[fB])(k:#[ge,#[cq],bt h b,Yg B b o->#[eT]]):hg B c0 a P T:=⟨x.fn.gB I k,x.low,λo e=>m h _ o (λb e0 F d Q=>k b _ F d (x.low b Q).1 λ_ _ _=>(x.low b Q).2) (x.at_ o (I o e))⟩
def iP(B:Bs)(h:bk)(a:ao):Ob->Prop|.rel _ _ _=>gH B h a|.hp _ _ P T _ _=>hg B h a P T|_=>True
theorem iP.gB(f:iP B h a ob)(I:#[fB])(k:#[kY]):iP B c0 a ob:=by cases ob with|rel n R M=>exact gH.gB f I k|hp n R P T M m=>exact hg.gB f m I k|_=>trivial
def dG(B:Bs)(J:aN)(h:bk)(a:ao):Ob->Prop|.raw _=>gb B J h a|.rel _ _ _=>gH B h a|.hp _ _ P T _ _=>hg B h a P T|_=>True
theorem dG.gB(f:dG B env h a e0)(I:#[fB])(k:#[kY]):dG B env c0 a e0:=by cases e0 with|raw R=>exact gb.gB f I k|rel n R M=>exact gH.gB f I k|hp n R P T M m=>exact hg.gB f m I k|list X=>trivial|tup X=>trivial
theorem gb.keep(f:gb B J h a)(I:#[fB])(k:∀b o,#[cq]->bt h b->#[al,b]->#[eT]):gb B J c0 a:=#[lB]
theorem gH.keep(f:gH B h a)(I:#[fB])(k:∀b o,#[cq]->bt h b->#[al,b]->#[eT]):gH B c0 a:=#[lB]
theorem hg.keep(x:hg B h a P T)(m:#[mO,g.get? b=aa e0->bt g b->P b->J.get? b=aa e0])(I:#[fB])(k:#[ge,#[cq],bt h b,#[eT]]):hg B c0 a P T:=x.gB m I λb o e X n0 _=>k b o e X n0
theorem iP.keep(f:iP B h a ob)(I:#[fB])(k:#[ge,#[cq],bt h b,#[eT]]):iP B c0 a ob:=#[lB]
theorem dG.keep(f:dG B env h a e0)(I:#[fB])(k:#[ge,#[cq],bt h b,#[eT]]):dG B env c0 a e0:=#[lB]
theorem dG.Cc(f:dG B env h a e0):iP B h a e0:=by cases e0<;>first|trivial|exact f
theorem iP.ob{e0:Ob}(f:iP B h a e0)(r:∀R,e0=.raw R->gb B J h a):dG B J h a e0:=by cases e0<;>first|exact r _ rfl|trivial|exact f
theorem dG.of(f:∀R,e0=.raw R->gb B env h a)(g:∀n R M,e0=.rel n R M->gH B h a)(p:#[jT,hg B h a P T]:=by exact#[ii]):dG B env h a e0:=by cases e0 with|raw R=>exact f R rfl|rel n R M=>exact g n R M rfl|hp n R P T M k=>exact p n R P T M k rfl|list X=>trivial|tup X=>trivial
theorem dG.env{J l:aN}(f:dG B J h a e0)(g:gb B J h a->gb B l h a):dG B l h a e0:=by cases e0 with|raw R=>exact g f|rel n R M=>exact f|hp n R P T M k=>exact f|list X=>trivial|tup X=>trivial
def Qg(J:aN)(O:#[s])(m:#[n])(h:bk)(l0:aq)(k:fC)(x:V):Prop:=(k=.local/\∃v,m l0=aa v/\#[bn,x])\/((k=.cell\/(k=.free/\(l0==#[kp])=ai))/\∃c v,J.cells.lookup l0=aa c/\h.IsCell c (aa v)/\#[bn,x])
structure aF(B:Bs)(S:Gm)(J:aN)(O:#[s])(U:#[o])(H:#[l])(h:bk):Prop where
 scope:J.scope=S.sc
 kind:#[e8,S.sc.kind]
 jJ:∀x∈S.own,x∈B.fb/\J.code=.ref x.c/\J.qual++x.name=x.qual
 nd:(S.sc.names.map (·.1)).Nodup
 glob:J.globals=ed
 eX:J.builtins=cS
 gh:GH B h
 slt:hq B
 ns:∃m,h.Ns J.locals m/\#[ga,U,∃l0 k,#[eA,k]/\Qg J O m h l0 k x]
 kU:∀l0∈S.mc,(J.cells.lookup l0).isSome=ae
 len:O.length=H.length
 cX:S.fz<=O.length
 store:#[gU,#[da],H,∃o,#[cu]/\OR O o e0]
 code:#[gU,#[da],H,dG B J h a e0]
 nodup:O.Nodup
 high:∀a∈O,#[ap,a]
 dT:J.locals∉O
 hR:#[ap,J.locals]
 cp:#[dQ,p.2∉O/\p.2≠J.locals/\#[ap,p.2]/\∃v,h.IsCell p.2 v]
 kb:J.cells.Pairwise λx y=>x.2≠y.2
theorem aF.lb{H:#[g]}(R:#[cC]):∀t∈B.tabs,t<B.heap.objs.size:=R.slt.tab
structure Cx(n:Nat)(A:aR):Prop where
 handled:#[hh]
 depth:A.depth+n<yu
 units:A.units+8*n+8<cLine
def kn(g J:#[c5]):Prop:=(∀(i:Nat)(x:eW),#[I,g,x]->#[I,J,x])/\(qP g->qP J)
structure Fx(B:Bs)(X:#[s])(s L:fR):Prop where
 os:L.os=s.os
 drawn:L.drawn=s.drawn
 gens:kn s.gens L.gens
 size:#[jn]
 keep:#[ge,#[c7],b∉X,L.heap.get? b=aa o]
theorem kn.refl(g:#[bE]):kn g g:=⟨λ_ _ h=>h,id⟩
theorem kn.trans(h:kn a b)(k:kn b c):kn a c:=⟨λi x e=>k.1 i x (h.1 i x e),λx=>k.2 (h.2 x)⟩
section
variable{B:Bs}
theorem Fx.refl(X:#[g])(s:fR):Fx B X s s:=⟨rfl,rfl,.refl _,aO _,λ_ _ e _ _=>e⟩
theorem Fx.toks(f:Fx B X s L)(t:Nat):Fx B X s {L with toks:=t}:=#[nU]
theorem Fx.trans(f:Fx B X a b)(g:Fx B Y b c)(H:∀y∈Y,y∈X\/a.heap.objs.size<=y):Fx B X a c:=⟨g.os.trans f.os,g.drawn.trans f.drawn,f.gens.trans g.gens,aH f.size g.size,λb o e z n0=>g.keep b o (f.keep b o e z n0) (λm=>(H b m).elim z λq=>absurd (bj e) (bK.mpr q)) n0⟩
theorem Fx.widen(f:Fx B X s L)(h:∀x∈X,x∈Y\/#[Q,x]):Fx B Y s L:=⟨f.os,f.drawn,f.gens,f.size,λb o e m n0=>f.keep b o e (λz=>(h b z).elim m λq=>absurd (bj e) (bK.mpr q)) n0⟩
theorem Fx.fU(u:#[el])(k:#[di,#[c7],b∉X]):Fx B X s #[cN,c0,t]:=⟨rfl,rfl,.refl _,u,λb o e z _=>k b o e z⟩
def eZ(S:Gm)(J:aN)(O:#[s]):#[s]:=J.locals::(((J.cells.filter λp=>S.mc.contains p.1).map (·.2))++O.drop S.fz)
theorem ou(h:a∈O.drop S.fz):a∈eZ S J O:=dH _ (tg _ h)
structure aC(B:Bs)(S:Gm)(J:aN)(O:#[s])(U:#[o])(H:#[l])(s:fR)(j:#[s])(L:fR):Prop where
 pre:O<+:j
 new:#[ny,#[Q,a]]
 rel:#[dg,j,H,L.heap]
 fx:Fx B (eZ S J O) s L
theorem HD{O j:#[s]}{n:Nat}(h:#[ny,n<=a]):∀y∈eZ S J j,y∈eZ S J O\/n<=y:=λy m=>by
 obtain rfl|m:=bc.mp m;.exact .inl (.head _)
 .obtain m|m:=cK.mp m;.exact .inl (dH _ (xn _ m))
  .exact(h y m).imp ou id
theorem aC.refl{H:#[g]}(R:#[ah]):#[aV,H,O,s]:=#[g1,R,.refl _ _]
theorem aC.toks{H:#[g]}(P:#[aV,H,j,L])(t:Nat):#[aV,H,j,{L with toks:=t}]:=#[iP,P.rel,P.fx.toks t]
theorem aC.trans{H m0:#[g]}(P:#[aV,H,j,L])(R:aC B S J j x0 m0 L g e):#[cy,x0,m0,g,e]:=⟨P.pre.trans R.pre,λa h=>#[mC,(R.new a h).elim],R.rel,P.fx.trans R.fx (HD P.new)⟩
theorem lV{l:#[g]}(h:(l.map (·.1)).Nodup):∀{i:Nat}{l0:aq}{k:fC},#[I,l,(l0,k)]->l.lookup l0=aa k:=by induction l with
|nil=>intro i l0 k e;simp at e
|cons p l Q=>intro i l0 k e;obtain⟨g,F0⟩:=p;cases i with
|zero=>simp at e;obtain⟨rfl,rfl⟩:=e;simp
|succ i=>
 simp at e;rw[dh,jn]at h;have n:(l0==g)=ai:=by rw[beq_eq_false_iff_ne];rintro rfl;exact h.1 (bI.mpr #[M,bC e])
 rw[fO,n];exact Q h.2 e
theorem aF.kindOf{H:#[g]}(R:#[cC]){i:Nat}(e:#[eA,k]):J.kindOf l0=aa k:=by show J.scope.names.lookup _=aa k;rw[R.scope];exact lV R.nd e
theorem aF.gR{H:#[g]}(R:#[cC]):#[e8,J.scope.kind]:=R.scope▸R.kind
def Ev(B:Bs)(w:aD)(n:Nat)(S:Gm)(e:aP)(U:#[o])(H:#[l])(v:V)(m0:#[l]):Prop:=#[mD,∀I L j,#[ep]->VR j I v->Q I L]
inductive bJ where|next|brk|cont|ret(v:V)
def tk(O:#[s])(f:hM):bJ->Prop|.next=>f=.next|.brk=>f=.brk|.cont=>f=.cont|.ret v=>∃u,f=.ret u/\VR O u v
def Ex(B:Bs)(w:aD)(n:Nat)(S:Gm)(c:aL)(U:#[o])(H:#[l])(h0:#[ay]):Prop:=#[n8,hM,#[mx],jU c J]
def aj(B:Bs)(w:aD)(n:Nat)(S:Gm)(c:#[y])(U:#[o])(H:#[l])(h0:#[ay]):Prop:=#[n8,hM,#[mx],fQ c J]
def Et(B:Bs)(w:aD)(n:Nat)(S:Gm)(e:aP)(U:#[o])(H:#[l])(b:Bool)(m0:#[l]):Prop:=#[m4,#[aM,tN e J (aU e J)]]
end
section
variable{B:Bs}{w:aD}{n:Nat}{S:Gm}{U:#[o]}{H b0 o0 w0:#[l]}{a b c:aP}{i0:aZ}
theorem Ev.mI:#[iz,#[T,i],#[T,i]]:=λA J O s Q E _ M q=>rj (#[fI,#[aU]])
theorem Ev.mJ:#[iz,#[an,x],#[an,x.cps.toList]]:=λA J O s Q E _ M q=>nQ (#[fI,⟨x,_,rfl,rfl⟩])
theorem Ev.zm{b:Bool}:#[iz,#[cK,b],#[cK,b]]:=λA J O s Q E _ M q=>PK (#[aE,#[hr],rfl])
theorem Ev.rD:#[iz,.none,.none]:=λA J O s Q E _ M q=>wpAny_Constant_none (#[aE,#[hr],rfl])
theorem Ev.name(i:Nat){v:V}(T:#[bc,U,aa,v])(z:#[eB,k])(Z:#[kb]):#[aF,.Name x i0,v,H]:=λA J O s Q E _ M q=>by
 obtain⟨m,f,j⟩:=M.ns;obtain⟨l0,F0,N,a0⟩:=j i v T;have C:=M.kindOf N;rw[z]at N;cases N;refine ho ?_ Z;obtain⟨rfl,u,e,r⟩|⟨k,c,u,F,d,r⟩:=a0;.exact ic M.gR C f e (#[aE,#[hr],r])
 .obtain rfl|⟨rfl,t⟩:=k;.exact Ey M.gR C F d (#[aE,#[hr],r])
  .exact yE M.gR C F d (#[aE,#[hr],r]) t
def aG(w:aD)(n:Nat)(t:af->af->dw af)(x y r:V):Prop:=∀(A:aR)(O:#[s])(u v:af)(s:fR)(Q E:#[E]),#[bk]->VR O u x->#[bn,y]->(∀z p0,VR O z r->Q z #[fF])->#[aM,t u v]
def fp(B:Bs)(w:aD)(n:Nat)(S:Gm)(t:af->af->dw af)(x y:V)(U:#[o])(H:#[l])(r:V)(m0:#[l]):Prop:=∀(A:aR)(J:aN)(O:#[s])(u v:af)(s:fR)(Q E:#[E]),#[bk]->#[ah]->VR O u x->#[bn,y]->(∀z L j,#[ep]->VR j z r->Q z L)->#[aM,t u v]
theorem aG.up(h:aG w n t x y r):fp B w n S t x y U H r H:=λA J O u v s Q E g M e T q=>h A _ u v s Q E g e T λz p0 Y=>#[fI,Y]
theorem Ev.mH(c:#[aI,x])(Z:#[bv,b,y])(h:fp B w n S (bL I) x y U o0 r w0):#[aF,.BinOp a I b i0,r,w0]:=#[c9,wpAny_BinOp,#[aA,c,λu0 k0 G d f=>#[c3,Z,d.rel,λC0 m L e i=>h A _ _ _ _ _ Q E g e.rel (f.pre e.pre) i λz N j v Y=>#[aE,#[cW,d.trans,e,v],Y]]]]
theorem Ev.ht(c:#[aI,x])(Z:#[bv,b,y])(h:fp B w n S (dj I) x y U o0 r w0)(f:behindInMarks I b=ai):#[aF,.Compare a [I] [b] i0,r,w0]:=λA J O s Q E g M q=>wpAny_Compare1 (#[aA,c,λu0 k0 G d i=>#[c3,Z,d.rel,λC0 m L e j=>h A _ _ _ _ _ Q E g e.rel (i.pre e.pre) j λz N k v Y=>#[aE,#[cW,d.trans,e,v],Y]]]) f
theorem Et.ht(c:#[aI,x])(Z:#[bv,b,y])(h:fp B w n S (dj I) x y U o0 (.bool r) w0)(f:behindInMarks I b=ai):Et B w n S (.Compare a [I] [b] i0) U H r w0:=λA J O s Q E g M q=>Ew (#[aA,c,λu0 k0 G d i=>#[c3,Z,d.rel,λC0 m L e j=>h A _ _ _ _ _ _ E g e.rel (i.pre e.pre) j λz N k v Y=>by cases Y;exact rn (q _ _ #[cW,d.trans,e,v])]]) f
theorem Ev.ite(h:#[bx,Et,c,t])(k:#[bv,#[aa,t,a,b],r]):#[aF,.IfExp c a b i0,r,o0]:=#[c9,wpAny_IfExp,#[aA,h,λk0 G d=>by
 cases t;.exact k A _ _ _ Q E g d.rel λv m L y i=>q v _ _ (d.trans y) i
 .exact k A _ _ _ Q E g d.rel λv m L y i=>q v _ _ (d.trans y) i]]
theorem aG.add_int:#[cj,.Add,i+j]:=by rintro A O u v s Q E g⟨t,rfl⟩⟨k,rfl⟩q;exact#[dY,NH]
theorem aG.sub_int:#[cj,.Sub,i-j]:=by rintro A O u v s Q E g⟨t,rfl⟩⟨k,rfl⟩q;exact#[dY,NK]
theorem aG.adt(h:j≠0):#[bY,bL,.Mod,i,j,.int (i.fmod j)]:=by rintro A O u v s Q E g⟨t,rfl⟩⟨k,rfl⟩q;exact NJ h (q _ _ #[aU])
theorem aG.eq_int:#[bY,dj,.Eq,i,j,.bool (i==j)]:=by rintro A O u v s Q E g⟨t,rfl⟩⟨k,rfl⟩q;exact#[fP,NI]
theorem aG.lt_int:#[gu,.Lt,i<j]:=by rintro A O u v s Q E g⟨t,rfl⟩⟨k,rfl⟩q;exact#[fP,Zu]
end
theorem Vl{O:Type}{l:List O}(h:l.Nodup)(P:i<l.length)(b:j<l.length)(e:l[i]=l[j]):i=j:=by
 have c0:=qE.mp h;obtain q|q|q:=xA i j;.exact#[aN,e,c0 i j _ _ q]
 .exact q
 .exact#[aN,e.symm,c0 j i _ _ q]
theorem il{O:Type}{l:#[g]}(h:l.Nodup){i j:Nat}{a:O}(P:#[I,l,a])(b:#[aW,l,a]):i=j:=by obtain⟨N,F⟩:=bu.mp P;obtain⟨a0,d⟩:=bu.mp b;exact Vl h _ _ (F.trans d.symm)
theorem jG(U:h.Ns a m):¬bt h a:=by obtain⟨L,b,s,w,c,_⟩:=U;exact bt.no w (λY q t d=>#[R]) λY n d=>by grind
theorem Jz(U:h.IsCell a v):¬bt h a:=by obtain⟨L,w,m⟩:=U;exact bt.no w (λY q t d=>#[R]) λY n d=>by grind
theorem JA(U:#[bl,a,⟨c,d,.seq X n,s⟩])(b:c≠#[gD]:=by exact#[fW]):¬bt h a:=bt.no U (λY q t d=>by cases d) λ_ _ _=>b
theorem mM{O:Type}{l m:List O}(h:k<=l.length):(l++m).drop k=l.drop k++m:=by rw[lp h]
section
variable{B:Bs}{w:aD}{n:Nat}{S:Gm}{J:aN}{O:#[s]}{U:#[o]}{H:#[l]}
theorem aF.gB(R:#[cC])(u:#[hp])(X:#[g])(k:#[ge,#[cq],b∉X,#[eT]])(n:∀x∈X,#[ap,x]/\x≠J.locals/\#[gA,x∉O,x,lA B h x])(l:GH B c0):#[dg,O,H,c0]:=by
 have s:#[iG]:=λb Z n0=>#[a9,R.lb b n0,Z];have Y:#[dQ,∀v,h.IsCell _ v->c0.IsCell _ v]:=λp y v⟨o,N,a0⟩=>#[aS,k _ _ N (λz=>(n _ z).2.2.2.1 p y rfl) (s _ (R.cp p y).2.2.1),a0];refine{R with gh:=l,ns:=?_,store:=?_,code:=?_,cp:=?_}
 .obtain⟨m,g,T⟩:=R.ns;refine⟨m,g.at' λo e=>k _ o e (λz=>(n _ z).2.1 rfl) (s _ R.hR),#[cX]⟩;obtain⟨l0,Q,N,a0⟩:=T i x e;refine#[aC,_,N,?_];obtain q|⟨q,c,v,F,j,r⟩:=a0;.exact .inl q
  .exact#[l3,Y,j,r]
 .intro i a e0 I Z;obtain⟨o,N,a0⟩:=#[gw];exact#[aS,k _ _ N (λz=>(n _ z).2.2.1 (bC I)) (s _ (R.high a (bC I))),a0]
 .intro i a C I Z;obtain⟨o,N,_⟩:=#[gw];have a0:=k _ _ N (λz=>(n _ z).2.2.1 (bC I)) (s _ (R.high a (bC I)));exact(R.code i a _ I Z).gB (λL e=>#[R]) λb L e d n0 f=>k b _ e (λz=>(n b z).2.2.2.2.ne e d f rfl) n0
 .intro p y;obtain⟨N,a0,G,v,E⟩:=R.cp p y;exact⟨N,a0,G,v,Y p y v E⟩
theorem aF.keep(R:#[cC])(u:#[hp])(X:#[g])(k:#[ge,#[cq],b∉X,#[eT]])(g:∀x∈X,#[ap,x]/\x≠J.locals/\#[gA,x∉O,x,¬bt h x])(a:GH B c0):#[dg,O,H,c0]:=R.gB u X k (λx z=>⟨(g x z).1,(g x z).2.1,(g x z).2.2.1,(g x z).2.2.2.1,.inl (g x z).2.2.2.2⟩) a
theorem aF.ow{h c0:bk}{l:#[s]}(R:#[dg,O,H,c0])(u:#[hp])(M:J.locals<h.objs.size)(n:#[dQ,p.2<h.objs.size])(A:∀a∈O,a<h.objs.size)(d:∀a∈l,h.objs.size<=a)(g:l.Nodup)(t:l.length=j.length)(s:#[ap,h.objs.size])(z:#[gU,#[I,l,a],j,∃o,#[dw,a]/\OR (O++l) o e0])(w:#[gU,#[I,l,a],j,dG B J c0 a e0]):#[dg,O++l,H++j,c0]:=by
 refine#[mw,by simp[R.len,t],by rw[aV];exact aH R.cX (hZ _ _),?_,?_,?_]
 .obtain⟨m,f,T⟩:=R.ns;refine⟨m,f,#[cX]⟩;obtain⟨l0,Q,N,a0⟩:=T i x e;refine#[bM,l0,Q,N];obtain⟨q,v,F,r⟩|⟨q,c,v,F,k,r⟩:=a0;.exact#[dI,q,v,F,r.pre (eB _ _)]
  .exact .inr ⟨q,c,v,F,k,r.pre (eB _ _)⟩
 .intro i a e0 I Z;by_cases P:i<O.length;.rw[cG P]at I;rw[cG (R.len▸P)]at Z;obtain⟨o,N,a0⟩:=R.store i a e0 I Z;exact#[aS,N,a0.pre (eB _ _)]
  .rw[dZ (bK.mp P)]at I;rw[dZ (R.len▸bK.mp P),<-R.len]at Z;exact z _ a e0 I Z
 .intro i a C I Z;by_cases P:i<O.length;.rw[cG P]at I;rw[cG (R.len▸P)]at Z;exact R.code i a C I Z
  .rw[dZ (bK.mp P)]at I;rw[dZ (R.len▸bK.mp P),<-R.len]at Z;exact w _ a C I Z
 .rw[qC];exact⟨R.nodup,g,λa I b Z e=>by subst e;exact#[a9,A a I,d a Z]⟩
 .intro a I;rcases cK.mp I with N|N;.exact R.high a N
  .exact aH s (d a N)
 .intro I;rcases cK.mp I with N|N;.exact R.dT N
  .exact#[a9,M,d _ N]
 .intro p y;obtain⟨N,a0,G,E⟩:=R.cp p y;refine⟨λI=>?_,a0,G,E⟩;grind
theorem aF.jj(R:#[cC]):J.locals<h.objs.size:=by obtain⟨m,⟨o,_,_,e,_⟩,_⟩:=R.ns;exact bj e
theorem aF.ji(R:#[cC]):#[dQ,p.2<h.objs.size]:=λp y=>by obtain⟨_,_,_,v,o,e,_⟩:=R.cp p y;exact bj e
theorem aF.fT(R:#[cC]):∀a∈O,a<h.objs.size:=λa I=>by obtain⟨i,P,e⟩:=CL.mp I;have Z:=R.len▸P;obtain⟨o,N,_⟩:=R.store i a H[i] (by rw[bB P,e]) (bB _);exact bj N
theorem aC.alloc{s:fR}{t:Nat}{a:ao}(R:#[ah])(u:#[el])(k:#[fg])(I:#[Q,a])(p:∃o,#[dw,a]/\OR (O++[a]) o e0)(X:∀R,e0=.raw R->gb B J c0 a)(g:∀n R M,e0=.rel n R M->gH B c0 a:=by exact#[en])(A:#[jT,hg B c0 a P T]:=by exact#[ii]):#[aV,H++[e0],O++[a],#[cN,c0,t]]:=by
 refine#[j5,.fU u #[dJ,k]]
 .rw[mM R.cX]at Z;rcases cK.mp Z with q|q;.exact .inl q
  .rw[aY.mp q];exact .inr I
 .refine aF.ow (R.keep u [] (λb o e _ _=>k b o e) #[av] (R.gh.grow u k)) u R.jj R.ji R.fT (λb Z=>by rw[aY.mp Z];exact I) #[z] rfl R.gh.1 (λi b m c Z=>?_) λi b C c Z=>?_;.cases i with|zero=>simp at c Z;subst c;subst Z;exact p|succ i=>simp at c
  .cases i with|zero=>simp at c Z;subst c Z;exact dG.of X g A|succ i=>simp at c
theorem aC.push{s:fR}{t:Nat}(R:#[ah])(a:o.isFreed=ai)(p:OR (O++[s.heap.objs.size]) o e0)(X:∀R,e0=.raw R->gb B J (s.heap.push o) s.heap.objs.size:=by exact#[ch])(g:∀n R M,e0=.rel n R M->gH B (s.heap.push o) s.heap.objs.size:=by exact#[en])(A:#[jT,hg B (s.heap.push o) s.heap.objs.size P T]:=by exact#[ii]):#[aV,H++[e0],O++[s.heap.objs.size],#[cN,s.heap.push o,t]]:=aC.alloc R (#[z]) (#[e7]) #[aO] #[aS,cm _ a,p] X g A
theorem aC.heap(R:#[ah])(u:#[el])(k:#[fg]):#[aV,H,O,#[cN,c0,t]]:=#[g1,R.keep u [] (λb o e _ _=>k b o e) (#[ch]) (R.gh.grow u k),.fU u #[dJ,k]]
theorem pN{O:Type}{l:#[g]}{a:O}(h:#[I,l,a])(C:k<=i):a∈l.drop k:=by have:(l.drop k)[i-k]?=aa a:=#[R];exact bC this
theorem aC.AL{s:fR}{t:Nat}(R:#[ah])(f:#[da])(I:S.fz<=i)(u:oX a s.heap c0)(w:¬bt s.heap a)(d:∃o,#[dw,a]/\OR O o e0)(Y:#[hF]:=by exact#[ch])(m0:∀n R M,e0=.rel n R M->gH B c0 a:=by exact#[en])(k0:#[jT,hg B c0 a P T]:=by exact#[ii]):#[aV,H.set i e0,O,#[cN,c0,t]]:=by
 have L:#[dQ,p.2≠a]:=λp y e=>(R.cp p y).1 (e▸bC f);have g0:J.locals≠a:=λe=>R.dT (e▸bC f);refine#[g1,{R with gh:=?_,ns:=?_,len:=by simp[R.len],store:=?_,code:=?_,cp:=?_},.fU (eC u.1.symm) λb o e z=>?_];.exact R.gh.one R.slt (R.high a (bC f)) w #[gp,u] #[gi,u.2]
 .obtain⟨m,l,g⟩:=R.ns;refine⟨m,l.sameBut u g0,λj x e=>?_⟩;obtain⟨l0,h0,N,a0⟩:=g j x e;refine#[bM,l0,h0,N];rcases a0 with q|⟨q,c,v,F,A,r⟩;.exact .inl q
  .exact .inr ⟨q,c,v,F,A.sameBut u (L _ (mem_of_lookup F)),r⟩
 .intro j b i0 Z d0;by_cases C:j=i
  .subst C;rw[f]at Z;cases Z;have Q:j<H.length:=by rw[<-R.len];exact#[U,f]
   rw[nC Q]at d0;cases d0;exact d
  .rw[nB (ku C)]at d0;obtain⟨o,N,a0⟩:=R.store j b i0 Z d0;exact#[ko,(u.2 b #[hJ,C,Z,f])]
 .intro j b f0 Z d0;by_cases C:j=i
  .subst C;rw[f]at Z;cases Z;have Q:j<H.length:=by rw[<-R.len];exact#[U,f]
   rw[nC Q]at d0;cases d0;exact dG.of (λR e=>absurd e (Y R)) m0 k0
  .rw[nB (ku C)]at d0;have L:b≠a:=#[hJ,C,Z,f];exact(R.code j b f0 Z d0).keep (λo e=>(u.2 b L).symm.trans e) λj0 o e X _=>(u.2 j0 λb0=>w (b0▸X)).trans e
 .intro p y;obtain⟨N,a0,G,v,E⟩:=R.cp p y;exact⟨N,a0,G,v,E.sameBut u (L p y)⟩
 .exact(u.2 b λb0=>z (ou (b0▸pN f I))).trans e
theorem aF.KN{A:aR}{E:#[E]}{s:fR}{i:Nat}{l0:aq}{k:fC}{v:af}{x:V}{Q:#[aG,Unit]}(M:#[ah])(P:#[eA,k])(C:#[dV,k,k,l0])(t:#[eK])(T:#[bn,x])(q:∀L,#[cy,#[fm,x],H,O,L]->#[jr,L.heap.objs.size]->Q () L):#[aM,yx J l0 v]:=by
 obtain⟨m,f,g0⟩:=M.ns;have i0:=M.kindOf P;have s0:∀(j:Nat)(n0:aq)(o0:fC),#[ex,n0,o0]->j≠i->n0≠l0:=λj n0 o0 g n e=>by subst e;exact n (il M.nd (a:=n0) (by rw[cb,g];rfl) (by rw[cb,P];rfl))
 rcases C with rfl|⟨rfl,X⟩
 .refine Qd i0 f (λc0 q0 f0=>q _ #[mH,#[as,q0,λj y g=>?_],λj a b0 I Z=>#[mQ,b0,#[lX,M.dT],f0.2,jG,f]] f0.1) (by rw[M.gR];rfl);.exact M.gh.one M.slt M.hR (jG f) #[gp,f0] #[gi,f0.2]
  .by_cases p0:j=i;.subst p0;rw[nC t]at g;cases g;exact⟨l0,_,P,#[dI,rfl,v,by simp,T]⟩
   .rw[nB (ku p0)]at g;obtain⟨n0,o0,N,a0⟩:=g0 j y g;refine#[bM,n0,o0,N];rcases a0 with⟨k,u,e,r⟩|⟨k,c,u,F,d,r⟩;.exact#[dI,k,u,by(simp);rw[#[bK,s0 j n0 o0 N p0]];exact e,r]
    .exact .inr ⟨k,c,u,F,d.sameBut f0 (M.cp _ (mem_of_lookup F)).2.1,r⟩
  .obtain⟨o,N,a0⟩:=M.store j a e0 I Z;exact#[ko,#[lX,M.dT]]
  .obtain⟨N,a0,G,u,l⟩:=M.cp r Y;exact⟨N,a0,G,u,l.sameBut f0 a0⟩
  .exact .fU (eC f0.1.symm) λb o e z=>(f0.2 b λh=>z (h▸.head _)).trans e
 .have r0:=X;obtain⟨c,X⟩:=xM.mp (M.kU l0 X);have k0:=mem_of_lookup X;obtain⟨h0,d0,j0,t0,m0⟩:=M.cp _ k0;refine wpAny_storeName_cell M.gR i0 X m0 (λc0 q0 f0=>q _ #[mH,⟨m,f.sameBut f0 (ku d0),λj y g=>?_⟩,λj a b0 I Z=>#[mQ,b0,#[lX,h0],f0.2,Jz,m0]] f0.1);.exact M.gh.one M.slt j0 (Jz m0) #[gp,f0] #[gi,f0.2]
  .by_cases p0:j=i;.subst p0;rw[nC t]at g;cases g;exact⟨l0,_,P,.inr ⟨#[dn],c,v,X,q0,T⟩⟩
   .rw[nB (ku p0)]at g;obtain⟨n0,o0,N,a0⟩:=g0 j y g;refine#[bM,n0,o0,N];rcases a0 with⟨k,u,e,r⟩|⟨k,R,u,F,d,r⟩;.exact#[dI,k,u,e,r]
    .exact .inr ⟨k,R,u,F,d.sameBut f0 (λe=>s0 j n0 o0 N p0 (Ei M.kb (mem_of_lookup F) (e▸k0))),r⟩
  .obtain⟨o,N,a0⟩:=M.store j a e0 I Z;exact#[ko,#[lX,h0]]
  .obtain⟨N,a0,G,u,l⟩:=M.cp r Y;by_cases e:r.2=c;.exact⟨N,a0,G,aa v,by rw[e];exact q0⟩
   .exact⟨N,a0,G,u,l.sameBut f0 e⟩
  .refine Fx.fU (t:=s.toks) #[gp,f0] λb o e z=>(f0.2 b λh=>z ?_).trans e;rw[h];refine dH _ (xn _ (bI.mpr #[au,(l0,c),iT.mpr #[a4,k0]]));simpa using r0
theorem aF.gY(M:#[ah])(a:#[eA,k])(C:#[dV,k,k,l0])(t:#[eK])(T:#[bn,x])(q:∀L,#[cy,#[fm,x],H,O,L]->Q () L):#[aM,yx J l0 v]:=M.KN a C t T λL P _=>q _ P
def bD(j:Nat):V->Prop|.ob i=>i<j|_=>True
def fl(j:Nat):Ob->Prop|.list X=>#[b7,X,j]|.tup X=>#[b7,X,j]|.raw _=>True|.rel n _ _=>n<=j|.hp n _ _ _ _ _=>n<=j
theorem VR.take(h:#[bn,x])(b:bD j x):VR (O.take j) v x:=by cases x with|ob i=>obtain⟨a,e,rfl⟩:=h;exact#[au,a,by rw[es b];exact e]|none=>exact h|bool _=>exact h|int _=>exact h|str _=>exact h
theorem aM.qn(h:#[a6,Y,X])(b:#[b7,X,j]):aM (VR (O.take j)) Y X:=by induction h with|nil=>exact .nil|cons a _ Q=>exact .cons (a.take (b _ fB)) (Q λy m=>b y (dH _ m))
theorem OR.take(h:OR O o e0)(b:fl j e0):OR (O.take j) o e0:=by cases e0 with|list X=>obtain⟨Y,n,e,a⟩:=h;exact#[aC,n,e,a.qn b]|tup X=>obtain⟨Y,n,e,a⟩:=h;exact#[aC,n,e,a.qn b]|raw R=>exact h|rel n R k=>exact⟨by rw[bH];exact CU.mpr ⟨b,h.1⟩,k _ _ o (λi c=>es (eo c b)) h.2⟩|hp n R P T k _=>exact⟨by rw[bH];exact CU.mpr ⟨b,h.1⟩,k _ _ o (λi c=>es (eo c b)) h.2⟩
theorem aF.take(R:#[cC])(g:S.fz<=j)(T:#[ga,U,bD j x])(u:∀(i:Nat)(e0:Ob),i<j->#[cD,H]->fl j e0):#[dg,O.take j,H.take j,h]:=by
 have P:∀a∈O.take j,a∈O:=λa I=>eA I;refine#[mw,by simp[R.len],?_,(lu _ _).nodup R.nodup,λa I=>R.high a (P a I),λI=>R.dT (P _ I)]
 .obtain⟨m,f,k⟩:=R.ns;refine⟨m,f,#[cX]⟩;obtain⟨l0,Q,N,a0⟩:=k i x e;refine#[aC,_,N,?_];obtain⟨q,v,F,r⟩|⟨q,c,v,F,d,r⟩:=a0;.exact#[dI,q,v,F,r.take (T i x e)]
  .exact .inr ⟨q,c,v,F,d,r.take (T i x e)⟩
 .rw[bH];exact CU.mpr ⟨g,R.cX⟩
 .intro i a e0 I Z;have b:i<j:=by have:=#[U,I];rw[bH]at this;omega
  rw[es b]at I Z;obtain⟨o,N,a0⟩:=#[gw];exact#[aS,N,a0.take (u i _ b Z)]
 .intro i a C I Z;have b:i<j:=by have:=#[U,I];rw[bH]at this;omega
  rw[es b]at I Z;exact R.code i a _ I Z
 .intro p y;obtain⟨N,a0,G,E⟩:=R.cp p y;exact⟨λI=>N (P _ I),a0,G,E⟩
theorem aF.forget(R:#[cC])(k:#[ga,x0,#[f3,U]]):aF B S J O x0 H h:={R with ns:=let⟨m,f,T⟩:=R.ns;⟨m,f,λi x e=>T i x (k i x e)⟩}
end
section
variable{B:Bs}{w:aD}{n:Nat}{S:Gm}{U d e:#[o]}{H b0 o0 w0:#[l]}{a b c:aP}{x y:aL}{l:#[y]}{i0:aZ}{h0:#[ay]}
theorem aj.nil(h:h0 .next U H):#[hs,[]]:=λA J O s Q E _ M q=>PQ (q _ _ _ _ _ _ h #[eq] rfl)
theorem aj.seq(h:Ex B w n S x U H R)(k:∀v s,R .next v s->#[d0,v,s])(F0:∀o v s,o≠.next->R o v s->h0 o v s):#[dx,x]:=#[c9,lN,#[aA,h,( λo I X f k0 G Y c a=>by cases o with|next=>cases a;exact k _ _ Y A _ _ _ Q E g c.rel λm0 C0 b f m L j y i=>q _ _ _ f _ _ j #[dj] i|brk=>cases a;exact q _ _ _ _ _ _ (F0 _ _ _ #[z] Y) c rfl|cont=>cases a;exact q _ _ _ _ _ _ (F0 _ _ _ #[z] Y) c rfl|ret v=>obtain⟨u,rfl,r⟩:=a;exact q _ _ _ _ _ _ (F0 _ _ _ #[z] Y) c #[dv,u,r])]]
theorem aj.set(i:Nat)(h:#[aI,v])(P:#[eA,k])(C:#[dV,k,k,l0])(t:#[eK])(u:#[f1,#[hH,.Name l0 L]])(Y:#[d0,#[fm,v],b0]):#[eU,[.Name l0 L]]:=#[e0,λo I b=>#[d6,I=U.set i _,b=b0],yz (#[aA,h,λu0 k0 G c f=>aF.gY c.rel P C t f λm y=>#[g4,#[dj]]]) (u _ M.scope),λI b h=>#[R],λo I b p h=>#[dl,p]]
theorem aj.rv(i:Nat)(T:#[bc,U,aa,u])(h:#[aI,v])(m0:fp B w n S (dR I) u v U b0 r o0)(P:#[eA,k])(C:#[dV,k,k,l0])(X:#[eK])(Y:#[d0,#[fm,r],o0]):#[k9,.Name l0 L]:=#[e0,λo G b=>#[d6,G=U.set i _,b=o0],by
 obtain⟨m,f,f0⟩:=M.ns;obtain⟨r0,F0,N,a0⟩:=f0 i u T;rw[P]at N;cases N;have q0:∀n0,VR _ n0 u->aw _ A _ (λv j0=>aw _ A _ (λr p0=>aw (aE _ w) A _ (λ_=>Q _) E _) E _) E s:=λn0 p=>#[aA,h,λu0 k0 R d z=>m0 A _ _ _ _ _ _ E g d.rel (p.pre d.pre) z λd0 x e0 y Y=>aF.gY y.rel P C X Y λc0 Z=>#[g4,#[cW,d.trans,y,Z]]];refine wpAny_AugAssign_Name ?_;have g0:=M.kindOf P;obtain⟨rfl,n0,e,r⟩|⟨k,c,n0,F,j,r⟩:=a0;.exact ic M.gR g0 f e (q0 _ r)
 .obtain rfl|⟨rfl,t⟩:=k;.exact Ey M.gR g0 F j (q0 _ r)
  .exact yE M.gR g0 F j (q0 _ r) t,λG b h=>#[R],λo G b p h=>#[dl,p]]
theorem aj.ret(h:#[aI,v])(j:h0 (.ret v) U b0):#[dx,.Return (aa a) i0]:=aj.seq (R:=λo I L=>o=.ret v/\I=U/\L=b0) (#[c9,yB,#[aA,h,λu0 k0 G c f=>q _ _ _ _ _ _ #[b9] c #[b4,f]]]) (λI L h=>nomatch h.1) (λo I L p h=>#[R])
theorem aj.brk(j:h0 .brk U H):#[dx,.Break i0]:=#[mp,o=.brk/\I=U/\L=H,wpAny_Break,rfl]
theorem aj.cont(j:h0 .cont U H):#[dx,.Continue i0]:=#[mp,o=.cont/\I=U/\L=H,wpAny_Continue,rfl]
theorem aF.inter(R:#[cC]):interactive J=ai:=by unfold interactive;rw[R.gR];rfl
theorem aj.expr(h:#[aI,v])(u:#[f1,jz a ab i0.line J=av ai])(Y:#[cE,l,U,b0,h0]):#[dx,.Expr a i0]:=#[e0,λo I L=>#[d6,I=U,L=b0],wpAny_Expr_any (#[aA,h,λu0 k0 G c f=>#[g4,c]]) M.inter (u _ M.scope),λI L h=>#[R],λo I L p h=>#[dl,p]]
def hO(B:Bs)(w:aD)(n:Nat)(S:Gm)(l:#[y])(h0:#[ay]):#[ay]:=λo v s=>match o with|.next=>#[d0,v,s]|o=>h0 o v s
theorem aj.ite{t:Bool}(h:#[bx,Et,a,t])(k:#[cE,#[aa,t,R,j],U,b0,hO B w n S l h0]):#[dx,.If a R j i0]:=aj.seq (R:=hO B w n _ l h0) (#[c9,wpAny_If,#[aA,h,λk0 G c=>by
 cases t;.exact#[lY,λo I X f m L Y y i=>q o _ _ f _ _ Y #[dj] i]
 .exact#[lY,λo I X f m L Y y i=>q o _ _ f _ _ Y #[dj] i]]]) (λv s h=>h) (λo v s p h=>by cases o with|next=>exact#[dm,p]|brk=>exact h|cont=>exact h|ret v=>exact h)
theorem aj.mono(h:#[hs,l])(k:∀o v s,h0 o v s->m o v s):#[cE,l,U,H,m]:=#[kt,λo I X f L j C=>q o _ _ f _ _ (k _ _ _ C)]
end
structure aK(B:Bs)(d0 g0:#[n]):Prop where
 g:B.heap.Ns ed d0
 b:B.heap.Ns cS g0
 nolimit:B.heap.NoLimit
 gT:#[al,ed]
 bT:#[al,cS]
 cT:#[al,ia]
 slt:hq B
 bm:∃v0 o,#[c8,"__builtins__",v0]/\v0≠cS/\#[al,v0]/\#[gE,v0]/\o.cls=.type "module"/\o.dict=aa cS/\o.data=.plain
section
variable{B:Bs}{w:aD}{n:Nat}{S:Gm}{d0 g0:#[n]}{U:#[o]}{H b0 o0 w0:#[l]}{a b c:aP}{i0:aZ}{J:aN}{O:#[s]}
theorem aK.gs(F:#[w])(g:GH B h):#[gn]:=F.g.at' λo e=>g.2.1 _ o e F.gT
theorem aK.bs(F:#[w])(g:GH B h):#[go]:=F.b.at' λo e=>g.2.1 _ o e F.bT
theorem aK.nl(F:#[w])(g:GH B h):h.NoLimit:=F.nolimit.at λo e=>g.2.1 _ o e F.cT
def cJ(B:Bs)(w:aD)(n:Nat)(S:Gm)(e:aP)(u:af):Prop:=∀(A:aR)(J:aN)(O:#[s])(U:#[o])(H:#[l])(s:fR)(Q E:#[E]),#[bk]->#[ah]->Q u s->#[gJ,e]
theorem cJ.glob(F:#[w])(i:Nat)(z:#[eB,.globalImplicit])(T:d0 x=aa u)(Z:#[kb]):cJ B w n S (.Name x i0) u:=λA J O U H s Q E g M q=>Oh M.gR (M.kindOf z) (Dt (M.glob▸F.gs M.gh) T q) Z
theorem cJ.eX(F:#[w])(i:Nat)(z:#[eB,.globalImplicit])(f:d0 x=ab)(T:g0 x=aa u)(Z:#[kb]):cJ B w n S (.Name x i0) u:=λA J O U H s Q E g M q=>Oh M.gR (M.kindOf z) (xT (M.glob▸F.gs M.gh) f (M.eX▸F.bs M.gh) T q) Z
theorem Ev.zZ(h:cJ B w n S a (.int i t)):#[aF,a,#[T,i],H]:=λA J O s Q E g M q=>h A _ _ _ _ s Q E g M (q _ s _ #[eq] #[bC,t])
def cu(B:Bs)(w:aD)(n:Nat)(S:Gm)(a:List aP)(U:#[o])(H:#[l])(Y:#[D])(m0:#[l]):Prop:=#[n8,#[L],∀l L j,#[ep]->aM (VR j) l Y->Q l L,spliced (a.map #[jS])]
theorem cu.nil:cu B w n S [] U H [] H:=#[c9,lE,q _ s _ #[eq] .nil]
theorem cu.cons(h:#[aI,v])(k:#[hC,d]):cu B w n S (a::d) U H (v::Y) o0:=#[c9,iA,#[aA,h,λu0 k0 G c f=>#[c3,k,c.rel,λl m L y i=>#[aE,#[dj],.cons (f.pre y.pre) i]]]]
def Ic:aP->Bool|.Starred _ _=>ae|_=>ai
def cv(a:List aP):Bool:=a.all λe=>!Ic e
theorem XB(h:Ic e=ai)(l:#[g]):jy (e::l) J=(ai,aU e J)::jy l J:=by cases e<;>first|rfl|cases h
theorem dn(i0:aZ)(J:aN):∀{d:#[g]},cv d=ae->jT i0 (jy d J)=d.map #[jS]|[],_=>rfl|e::l,h=>by simp only[cv,List.all_cons,fe,wQ]at h;have Q:=dn i0 J h.2;rw[XB h.1];unfold jT at Q⊢;rw[dh,Q];rfl
theorem EZ{O:Type}(l:List O):l.toArray.toList=l:=rfl
theorem Ev.mS(h:#[hR])(u:cv d=ae)(R:Y.length<=aB):#[aF,.List d i0,.ob b0.length,b0++[.list Y]]:=λA J O s Q E g M q=>by refine wpAny_List_spliced ?_;rw[#[dE]];exact#[aA,h,λl k0 G c f=>⟨by rw[f.length];exact R,#[of,#[jM,c.trans,c.rel,f.mono #[ig]]]⟩]
theorem Ev.tup(h:#[hR])(u:cv d=ae)(R:Y.length<=aB):#[aF,.Tuple d M0 i0,.ob b0.length,b0++[.tup Y]]:=λA J O s Q E g M q=>by refine yC ?_;rw[#[dE]];exact#[aA,h,λl k0 G c f=>⟨by rw[f.length];exact R,#[of,#[jM,c.trans,c.rel,f.mono #[ig]]]⟩]
theorem aF.list{s:fR}(R:#[ah])(T:#[bn,#[ce]])(P:#[bR]):∃a Y k,v=.ref a/\#[da]/\#[cd,a,#[lR]]/\#[gl]:=by obtain⟨a,e,rfl⟩:=T;obtain⟨o,N,Y,k,rfl,a0⟩:=R.store i a _ e P;exact⟨a,_,k,rfl,e,N,a0⟩
theorem aF.tup{s:fR}(R:#[ah])(T:#[bn,#[ce]])(P:#[gh]):∃a Y k,v=.ref a/\#[da]/\#[cd,a,⟨#[gD],ab,.seq Y k,#[]⟩]/\#[gl]:=by obtain⟨a,e,rfl⟩:=T;obtain⟨o,N,Y,k,rfl,a0⟩:=R.store i a _ e P;exact⟨a,_,k,rfl,e,N,a0⟩
theorem aM.size{Y:#[bE]}(h:#[gl]):Y.size=X.length:=by rw[<-h.length,gG]
theorem aM.at{Y:#[bE]}(h:#[gl]){j:Nat}(e:#[aW,X,x]):∃u,#[aW,Y,u]/\VR O u x:=by obtain⟨u,N,a0⟩:=h.get e;exact⟨u,by rw[<-jM];exact N,a0⟩
def br{O:Type}(X:List O)(i:Int):#[a7,O]:=(kJ i X.length).bind (X[·]?)
theorem hU(h:i<n):kJ i n=aa i:=by
 unfold kJ;have u:¬(i:Int)<0:=by omega
 simp[u,if_false];simp_all
theorem Xb(u:i<0)(h:-(n:Int)<=i):kJ i n=aa (i+n).toNat:=by unfold kJ;simp only[u,if_true];rw[if_pos (by simp;omega)]
theorem Fb{i:Nat}{x:d}(h:#[I,X,x]):br X i=aa x:=by unfold br;rw[hU #[U,h]];exact h
theorem QL{i:Nat}{x:d}(P:i<X.length)(h:X[X.length-1-i]?=aa x):br X (-i-1)=aa x:=by
 unfold br;rw[Xb #[f] #[f]];have:(-(i:Int)-1+X.length).toNat=X.length-1-i:=by omega
 rw[this];exact h
theorem yR{x:d}(h:br X i=aa x):∃j,kJ i X.length=aa j/\#[aW,X,x]/\-X.length<=i/\i<X.length/\j=if i<0 then i+X.length else i:=by unfold br at h;cases b:kJ i _ with
|none=>simp_all
|some j=>
 rw[b]at h;refine#[bM,j,rfl,h];unfold kJ at b;by_cases u:i<0
 .simp only[u,if_true]at b⊢;by_cases a:(#[ax,0<=i+X.length]&&#[ax,i+X.length<X.length])=ae;.rw[if_pos a]at b;simp at a;cases b;omega
  simp_all
 .simp only[u,if_false]at b⊢;by_cases a:(#[ax,0<=i]&&#[ax,i<X.length])=ae;.rw[if_pos a]at b;simp at a;cases b;omega
  .rw[if_neg a]at b;cases b
theorem lg(h:#[et,aU v J,λo f=>#[et,aU e J,λi k=>SubscriptOn #[aH] A o i Q E k,f],s]):#[gJ,.Subscript v e i0]:=by
 refine ag (dk h (λo f C=>#[b6,dk C (λi k p=>#[a3,dI]) λ_ _ x=>x]) λ_ _ x=>x);obtain⟨T,P,R,l,S⟩:=p;refine ag ?_;refine#[bI,iZ,l,R];have d:∀Y,aw _ A (operate Y _) (λr b=>#[dS,rh v o r>>=λ_=>av r,_]) E _:=λY=>PZ (dk S (λr b j=>ag (PU (az j))) λ_ _ x=>x);refine az (ag ?_);unfold subscripted;split;.exact d _
 .simp_all
 .exact d _
theorem rX:#[cY,"list","__getitem__","list.__getitem__"]:=ph.lookup
theorem Ev.BS(I:#[aI,#[cc]])(Z:#[bv,b,#[T,i]])(e:#[aX,o0,j,X])(R:#[bp])(f:br X i=aa r):#[gc,b,r,o0]:=#[c9,lg,#[aA,I,λu0 k0 F c o=>#[c3,Z,c.rel,λC0 h T y⟨t,d⟩=>by
 subst d;obtain⟨l,Y,k,rfl,_,p,z⟩:=y.rel.list (o.pre y.pre) e;have c0:h.heap.IsList l _:=#[a8,p,k];refine⟨_,_,rX,c0.typeIs,?_⟩;obtain⟨m,N,a0,G,v,P⟩:=yR f;obtain⟨u,x,e0⟩:=z.at a0;have C:=z.size;have d0:aB=2^24:=rfl;by_cases L:0<=i;.refine Er c0 L #[f] ?_ (#[aE,#[dj],e0]);rw[#[fp]]at P;rw[<-P];simpa using x
 .refine wpAny_getItem_list_neg c0 #[f] #[f] #[f] ?_ (#[aE,#[dj],e0]);rw[#[G,if_pos]]at P;rw[C,<-P];simpa using x]]]
theorem Ev.Ya(I:#[aI,#[cc]])(Z:#[bv,b,#[T,i]])(e:o0[j]?=aa (.tup X))(R:#[bp])(f:br X i=aa r):#[gc,b,r,o0]:=#[c9,lg,#[aA,I,λu0 k0 C c o=>#[c3,Z,c.rel,λC0 h L y⟨t,d⟩=>by subst d;obtain⟨l,Y,k,rfl,_,p,z⟩:=y.rel.tup (o.pre y.pre) e;refine⟨_,_,OL.lookup,#[M,p],?_⟩;obtain⟨m,N,a0,G,v,F⟩:=yR f;obtain⟨u,x,T⟩:=z.at a0;have P:aB=2^24:=rfl;exact DL p #[f] #[f] (by rw[z.size];exact N) x (#[aE,#[dj],T])]]]
theorem Ev.LD(I:#[aI,#[an,X]])(Z:#[bv,b,#[T,i]])(R:#[bp])(Y:br X i=aa r):#[gc,b,#[an,[r]],o0]:=#[c9,lg,#[dU,I,λu0 k0 j c f=>Z A J j k0 _ E g c.rel λC0 e L y⟨t,d⟩=>by
 subst d;obtain⟨x,k,rfl,z⟩:=f;refine⟨"str",_,DG.lookup,iE _ x k,?_⟩;obtain⟨m,N,a0,G,h,l⟩:=yR Y;have o:aB=2^24:=rfl;refine Zi ?_ ?_ (q _ _ L (#[dj].toks _) #[cS,_]);.simp only[sN,decide_eq_false_iff_not];omega
 .rw[(by rw[<-z];rfl:x.length=X.length),N];show x.cps[m]?=aa r;rw[<-jM,z];exact a0]]
end
section
variable{B:Bs}{w:aD}{n:Nat}{S:Gm}{d0 g0:#[n]}{U:#[o]}{H b0 o0 w0:#[l]}{a b c:aP}{i0 y0:aZ}{J:aN}{O:#[s]}
def bW(B:Bs)(w:aD)(n:Nat)(S:Gm)(f:af)(Y:#[D])(U:#[o])(H:#[l])(r:V)(m0:#[l]):Prop:=∀(A:aR)(J:aN)(O:#[s])(l:#[L])(s:fR)(Q E:#[E]),#[bk]->#[ah]->#[a6,l,Y]->(∀z L j,#[ep]->VR j z r->Q z L)->#[aM,dQ f l]
theorem eK{a:#[g]}(h:aw M A (spliced (a.map #[jS])) (λY L=>Q #[Y,Y] L) E s):#[ey,yo f ae (a.map #[jS]) []]:=by cases a with|nil=>exactλS p H=>PySem.evalArgs_none (h _ p H) _ p H|cons e l=>exact Calls.evalArgs_plain h
theorem oh(u:cv d=ae)(R:d.length<30):(#[gb,d].all (λx=>!x.1)&&(kC i0 (kF [] J)).all (λx=>x.1.isSome)&&#[ax,d.length+([]:List qU).length+#[aa,([]:List qU).isEmpty,0,1]<30])=ae:=by rw[#[dE]];simp[kC,kF,R]
theorem fV(J:aN)(a:#[g]):(a.map #[jS]).any (·.1)=ai:=by simp
theorem Ev.px{P:String}(t:cJ B w n S #[bQ] #[cZ,P])(u:cv d=ae)(I:#[hR])(X:bW B w n S #[cZ,P] Y U b0 r o0):#[aF,#[cR,#[bQ],d],r,o0]:=λA J O s Q E g M q=>by refine#[jZ];rw[#[dE]];exact kx (fV _ _) (eK (#[aA,I,λl k0 G c f=>X A _ _ l _ Q E g c.rel f λz m L y i=>#[aE,#[dj],i]]))
theorem Ev.rF(t:cJ B w n S #[bQ] (.type T))(u:cv d=ae)(I:#[hR])(X:bW B w n S (.type T) Y U b0 r o0):#[aF,#[cR,#[bQ],d],r,o0]:=λA J O s Q E g M q=>by refine#[jZ];rw[#[dE]];exact qZ (fV _ _) (eK (#[aA,I,λl k0 G c f=>X A _ _ l _ Q E g c.rel f λz m L y i=>#[aE,#[dj],i]]))
structure sT(B:Bs)(a:ao)(f0:gN):Prop where
 at_:∃o,#[gE,a]/\#[dW]
 out:#[al,a]
theorem Ev.uA(t:cJ B w n S #[bQ] #[cb])(e:sT B f f0)(u:cv d=ae)(I:#[hR])(X:bW B w n S #[cb] Y U b0 r o0):#[aF,#[cR,#[bQ],d],r,o0]:=λA J O s Q E g M q=>by refine#[jZ];rw[#[dE]];obtain⟨⟨o,a,Z⟩,R⟩:=e;exact Ds (eK (#[aA,I,λl k0 G c b=>⟨⟨#[aL,c.rel.gh,a,R],Z⟩,X A _ _ _ _ Q E g c.rel b λz m L y i=>#[aE,#[dj],i]⟩]))
def VT(H:#[l]):V->String->Prop|.int _,T=>T="int"|.str _,T=>T="str"|.ob i,T=>(∃X,#[bR]/\T="list")\/(∃X,#[gh]/\T="tuple")|_,_=>False
theorem VT.typeIs{s:fR}(h:VT H x T)(R:#[ah])(c:#[bn,x]):s.TypeIs v T/\∀a,v=.ref a->∃e0,#[cd,a,e0]/\e0.dict=ab:=by cases x with
|int i=>obtain⟨t,rfl⟩:=c;cases h;exact⟨mB s i t,#[ch]⟩
|str i=>obtain⟨x,t,rfl,_⟩:=c;cases h;exact⟨iE s x t,#[ch]⟩
|none=>exact h.elim
|bool _=>exact h.elim
|ob i=>
 obtain⟨X,N,rfl⟩|⟨X,N,rfl⟩:=h;.obtain⟨a,Y,k,rfl,_,p,_⟩:=R.list c N;exact⟨#[M,p],λb e=>by cases e;exact#[M,p]⟩
 .obtain⟨a,Y,k,rfl,_,p,_⟩:=R.tup c N;exact⟨#[M,p],λb e=>by cases e;exact#[M,p]⟩
theorem Ev.iM{G:aq}{T P:String}(p:#[b2,o,x])(b:VT b0 x T)(Z:yf T)(a0:nL T G P)(F:#[hX,P])(u:cv d=ae)(I:#[hC,d])(X:#[hy,#[cZ,P],x])(e:#[eh])(h:#[b3])(R:d.length<30):#[aF,#[fN,d],r,w0]:=λA J O s Q E g M q=>by refine pj (e _) (oh u R) h (dn _ _ u) (#[aA,p,λu0 k0 a c f=>?_]);obtain⟨C,k⟩:=b.typeIs c.rel f;refine⟨T,_,Z,a0,F,C,k,(kx (fV _ _) (eK (#[c3,I,c.rel,λl m L y i=>X A _ _ (u0::l) _ Q E g y.rel (.cons (f.pre y.pre) i) λz N t v j=>#[aE,#[cW,c.trans,y,v],j]])))⟩
end
inductive D where|atom(x:V)|list(X:#[D])|tup(X:#[D])
def D.ob:D->#[a7,Ob]|.atom _=>ab|.list X=>aa (.list X)|.tup X=>aa (.tup X)
def dv:Nat->List D->#[D]|_,[]=>[]|k,.atom x::r=>x::dv k r|k,.list _::r=>.ob k::dv #[u] r|k,.tup _::r=>.ob k::dv #[u] r
def da:List D->#[l]|[]=>[]|.atom _::r=>da r|.list X::r=>.list X::da r|.tup X::r=>.tup X::da r
inductive hW(h:bk):#[s]->#[L]->List D->Prop where|nil:hW h [] [] []|atom{O l n0 v x}:VR [] v x->hW h O l n0->hW h O (v::l) (.atom x::n0)|list{O l n0 a X}:(∃o,#[cu]/\OR [] o #[cr,X])->hW h O l n0->hW h (a::O) (.ref a::l) (.list X::n0)|tup{O l n0 a X}:(∃o,#[cu]/\OR [] o (.tup X))->hW h O l n0->hW h (a::O) (.ref a::l) (.tup X::n0)
theorem VR.nil(O:#[g])(h:VR [] v x):#[bn,x]:=h.pre (CN)
theorem hW.vr(d:hW h O l n0):∀(k:#[g]),aM (VR (k++O)) l (dv k.length n0):=by induction d with|nil=>intro k;exact .nil|atom u _ Q=>intro k;exact .cons (u.nil _) (Q _)|@list O l n0 a X u _ Q=>intro k;have:=Q (k++[a]);rw[cQ,aV]at this;exact .cons #[au,a,by simp] this|@tup O l n0 a X u _ Q=>intro k;have:=Q (k++[a]);rw[cQ,aV]at this;exact .cons #[au,a,by simp] this
theorem hW.all(d:hW h O l n0):aM (λa e0=>∃o,#[cu]/\OR [] o e0) O (da n0):=by induction d with|nil=>exact .nil|atom u _ Q=>exact Q|list u _ Q=>exact .cons u Q|tup u _ Q=>exact .cons u Q
theorem uO:∀{n0:List D}{i:Nat},#[bc,(da n0),.raw,R]->False|[],i,h=>by simp[da]at h|.atom _::r,i,h=>uO (n0:=r) h|.list _::r,0,h=>by simp[da]at h|.list _::r,i+1,h=>#[jp,uO]|.tup _::r,0,h=>by simp[da]at h|.tup _::r,i+1,h=>#[jp,uO]
theorem uP:∀{n0:List D}{i:Nat},#[I,(da n0),.rel n R M]->False|[],i,h=>by simp[da]at h|.atom _::r,i,h=>uP (n0:=r) h|.list _::r,0,h=>by simp[da]at h|.list _::r,i+1,h=>#[jp,uP]|.tup _::r,0,h=>by simp[da]at h|.tup _::r,i+1,h=>#[jp,uP]
theorem uN:∀{n0:List D}{i:Nat},#[I,(da n0),.hp n R P T M F]->False|[],i,h=>by simp[da]at h|.atom _::r,i,h=>uN (n0:=r) h|.list _::r,0,h=>by simp[da]at h|.list _::r,i+1,h=>#[jp,uN]|.tup _::r,0,h=>by simp[da]at h|.tup _::r,i+1,h=>#[jp,uN]
theorem OR.nil(O:#[g])(h:OR [] o x):OR O o x:=h.pre (CN)
def Cm(c0:Nat)(h:bk)(u:af):D->Prop|.atom x=>VR [] u x|.list X=>∃a o,u=.ref a/\c0<=a/\#[cu]/\OR [] o #[cr,X]|.tup X=>∃a o,u=.ref a/\c0<=a/\#[cu]/\OR [] o (.tup X)
def Fn(B:Bs)(w:aD)(n:Nat)(f:ao)(n0:List D)(r:D):Prop:=∀(A:aR)(O:#[s])(l:#[L])(s:fR)(Q E:#[E]),#[bk]->#[c4]->hW s.heap O l n0->O.Nodup->(∀a∈O,#[ap,a])->(∀u L,Fx B [] s L->#[hk]->Cm s.heap.objs.size L.heap u r->Q u L)->#[jm,l]
structure ba(B:Bs)(f:ao)(j0:bq)(k:Nat)(r0:#[y])(E0:List fD:=[]):Prop where
 ex:∃f0 o,#[gE,f]/\#[dW]/\f0.scope=j0/\#[ka]/\f0.closure=[]/\#[k7,(#[mo])/\(∀x∈E0,x∈B.fb/\#[gI,x.c]/\(f0.qualname++".<locals>.")++x.name=x.qual)/\∀l:#[L],l.length=k->tG f0 #[Y,l]=av ((j0.names.map (·.1)).zip l)]
 out:#[al,f]
theorem ba.at_(h:#[hv]):∃f0,sT B f f0:=by obtain⟨f0,o,N,a0,_⟩:=h.ex;exact#[as,#[aS,N,a0],h.out]
theorem Mi{O d:Type}{l:#[g]}{m:#[g]}{i:Nat}{a:O}{b:d}(N:#[I,l,a])(a0:#[I,m,b]):#[I,(l.zip m),(a,b)]:=by rw[oN];exact⟨N,a0⟩
theorem Cg{O d:Type}:∀(l:List O)(m:List d),(l.zip m).map (·.1)=l.take m.length|[],_=>by simp|_::_,[]=>rfl|a::l,b::m=>by simp[Cg l m]
theorem FA:∀{b:#[g]}{m:aq->Option _},(∀p∈b,p.1≠l0)->bindL Q b m l0=m l0
 |[],_,_=>rfl
 |(g,v)::r,m,h=>by
  unfold bindL;rw[FA λp y=>h p (dH _ y)];split;.show#[aa,l0=g,aa v,m _]=m _;rw[if_neg (ku (h _ fB))]
  .rfl
theorem Fy:∀{b:#[g]}{m:aq->Option _},(∀p∈b,p.1≠l0)->bindC Q b m l0=m l0
 |[],_,_=>rfl
 |(g,v)::r,m,h=>by
  unfold bindC;rw[Fy λp y=>h p (dH _ y)];split;.rfl
  .show#[aa,l0=g,aa v,m _]=m _;rw[if_neg (ku (h _ fB))]
theorem Fz(C:Q l0=aa .local):∀{b:#[g]}{m:aq->Option _}{i:Nat},(b.map (·.1)).Nodup->#[I,b,(l0,v)]->bindL Q b m l0=aa v|[],_,_,_,h=>by simp at h|(g,I)::r,m,0,U,h=>by simp at h;obtain⟨rfl,rfl⟩:=h;rw[dh,jn]at U;unfold bindL;rw[FA λp y e=>U.1 (bI.mpr ⟨p,y,e⟩),if_pos C];simp|(g,I)::r,m,i+1,U,h=>by rw[dh,jn]at U;unfold bindL;exact Fz C U.2 (by simpa using h)
theorem Fw(C:¬Q l0=aa .local):∀{b:#[g]}{m:aq->Option _}{i:Nat},(b.map (·.1)).Nodup->#[I,b,(l0,v)]->bindC Q b m l0=aa v|[],_,_,_,h=>by simp at h|(g,I)::r,m,0,U,h=>by simp at h;obtain⟨rfl,rfl⟩:=h;rw[dh,jn]at U;unfold bindC;rw[Fy λp y e=>U.1 (bI.mpr ⟨p,y,e⟩),if_neg C];simp|(g,I)::r,m,i+1,U,h=>by rw[dh,jn]at U;unfold bindC;exact Fw C U.2 (by simpa using h)
theorem zt:∀(a:#[g])(n:Nat)(A:#[g])(l0:aq),(A.lookup l0).isSome=ae->((nP n a A).lookup l0).isSome=ae
 |[],_,_,_,h=>h
 |(g,k)::r,n,A,l0,h=>by
  unfold nP;split;.refine zt r _ _ _ ?_;rw[fO];cases l0==g<;>simp[h]
  .exact zt r _ _ _ h
theorem uB:∀(a:#[g])(n:Nat)(A:#[g])(l0:aq),(l0,tz)∈a->((nP n a A).lookup l0).isSome=ae
 |(g,k)::r,n,A,l0,h=>by
  unfold nP;obtain e|h:=bc.mp h;.cases e;refine zt r _ _ _ ?_;simp
  .split<;>exact uB r _ _ _ h
theorem zu:∀(a:#[g])(n:Nat)(A:#[g]),(A.map (·.1)++a.map (·.1)).Nodup->((nP n a A).map (·.1)).Nodup
 |[],_,A,h=>by unfold nP;simpa using h
 |(g,k)::r,n,A,h=>by
  unfold nP;have c0:=by refine(CA MY).mp h
  split;.exact zu r _ _ (c0)
  .exact zu r _ _ (jn.mp c0).2
theorem oq{O:Type}:∀{l:#[g]}{p:aq×O},(l.map (·.1)).Nodup->p∈l->l.lookup p.1=aa p.2
 |(g,k)::r,p,h,y=>by
  rw[dh,jn]at h;obtain rfl|y:=bc.mp y;.simp
  .have n:(p.1==g)=ai:=by rw[beq_eq_false_iff_ne];intro e;exact h.1 (bI.mpr ⟨p,y,e⟩)
   rw[fO,n];exact oq h.2 y
def JH(j0:bq):#[bw]:=(j0.names.filter λp=>p.2==.cell).map (·.1)
theorem UW(h:l0∈JH j0):(l0,tz)∈j0.names:=by obtain⟨⟨g,k⟩,N,rfl⟩:=bI.mp h;obtain⟨a0,G⟩:=iT.mp N;grind
def ey(j0:bq)(S:Nat)(E0:List fD:=[]):Gm:=⟨j0,S,JH j0,E0⟩
def qm(j0:bq)(n0:List D):#[o]:=(dv 0 n0).map aa++cL (j0.names.length-n0.length) ab
theorem rW:∀(k:Nat)(n0:List D),#[bb,(dv k n0),n0.length]|_,[]=>rfl|k,.atom _::r=>by simp[dv,rW k r]|k,.list _::r=>by simp[dv,rW _ r]|k,.tup _::r=>by simp[dv,rW _ r]
def ip(j0:bq)(k:Nat):Bool:=decide ((j0.names.map (·.1)).Nodup)&&(j0.names.take k).all (λp=>p.2==.local||p.2==.cell)&&#[ax,k<=j0.names.length]
theorem VR.atom(h:#[bn,x])(z:∀i,x≠.ob i):VR [] v x:=by cases x with|ob i=>exact absurd rfl (z i)|none=>exact h|bool b=>exact h|int i=>exact h|str t=>exact h
theorem aM.atoms(h:#[a6,Y,X])(z:#[lz]):#[fo,Y,X]:=by induction h with|nil=>exact .nil|cons a _ Q=>exact .cons (a.atom (z _ fB)) (Q λy m=>z y (dH _ m))
def dx(S:Nat)(r:D):#[ay]:=λo v st=>∃x,(o=.ret x\/(o=.next/\x=.none))/\match r with|.atom y=>x=y/\∀i,y≠.ob i|.list X=>∃i,x=.ob i/\S<=i/\#[bc,st,.list,X]/\#[lz]|.tup X=>∃i,x=.ob i/\S<=i/\#[bc,st,.tup,X]/\#[lz]
theorem Gy{B:Bs}{w:aD}{n:Nat}{d0 g0:#[n]}{f:ao}{j0:bq}{k:Nat}{r0:#[y]}{E0:List fD}{n0:List D}(F:#[w])(M:#[hv])(C:n0.length=k)(y0:#[ei])(C0:#[eG])(F0:#[eF])(U:ip j0 k=ae){A:aR}{O:#[s]}{r:#[L]}{s:fR}{Q E:#[E]}(g:#[eZ])(i0:#[c4])(Z:hW s.heap O r n0)(x0:O.Nodup)(U0:∀a∈O,#[ap,a])(h:∀(J:aN)(k0:fR)(X0:#[E]),Cx n (A.deeper J)->aF B (ey j0 #[t,da,n0] E0) J O (qm j0 n0) (da n0) k0.heap->Fx B [] s k0->#[Q,J.locals]->(#[dQ,#[Q,p.2]])->#[t,da,n0]=O.length->aw #[aH] (A.deeper J) (fQ r0 J) (λf L=>Q (match f with|.ret v=>v|_=>.none) L) X0 k0):#[jm,r]:=by
 obtain⟨f0,o,d,j1,rfl,g1,f1,k1,Y0,⟨c,O0,Y,t,X,Z0,Q0,e1,v0⟩,a1,L0⟩:=M.ex;have l1:r.length=k:=by rw[<-C,<-rW 0 n0];exact#[t,Z.vr,[]]
 simp only[ip,fe,decide_eq_true_eq,eT]at U;obtain⟨⟨I0,S0⟩,u0⟩:=U;have i1:(((f0.scope.names.map (·.1)).zip r).map (·.1)).Nodup:=by rw[Cg];exact(lu _ _).nodup I0
 have R0:∀x∈(f0.scope.names.map (·.1)).zip r,f0.scope.names.lookup x.1=aa .local\/(f0.scope.names.lookup x.1=aa .cell/\((nP #[kH] f0.scope.names []).lookup x.1).isSome=ae):=by
  intro x z;obtain⟨i,j⟩:=gK.mp z;obtain⟨N,a0⟩:=oN.mp j;rw[cb]at N;obtain⟨p,G,b1⟩:=dP.mp N;have o0:i<k:=by rw[<-l1];exact#[U,a0]
  have N0:p∈f0.scope.names.take k:=bC (i:=i) (by rw[es o0];exact G);obtain⟨l0,w0⟩:=p;have m:=lV I0 G;have A0:=S0 _ N0;simp only[qr,beq_iff_eq]at A0;rw[<-b1];rcases A0 with rfl|rfl;.exact .inl m
  .exact .inr ⟨m,uB _ _ _ _ (bC G)⟩
 refine gi (codeAny_call_cells (o:=o) (fd:=f0) (body:=r0) (binds:=(f0.scope.names.map (·.1)).zip r) (by have:=g.depth;omega) (i0.2.1 f o d M.out) j1 (F.nl i0) ⟨c,O0,Y,t,X,i0.2.1 c O0 Q0 Z0,e1,v0⟩ g1 (L0 r l1) f1 R0 ?_ C0 F0 y0);intro k0 x;obtain⟨N,p0,rfl⟩:=x.toInCall.same;have s0:=x.toInCall.keep;have c0:#[Q,N.objs.size]:=ea x.toInCall.ns.lt;have T0:=Z.all;have J0:=Z.vr [];simp only[hX,et]at J0;have o0:#[kA]:=λa I=>by obtain⟨i,j⟩:=gK.mp I;obtain⟨e0,_,t0,a0,_⟩:=T0.get' j;exact bj a0
 have h1:aF B (ey f0.scope #[t,da,n0] E0) (callEnvC f0 s.heap.objs.size f) O (qm f0.scope n0) (da n0) N:=by
  refine{scope:=rfl,kind:=y0,jJ:=a1,nd:=I0,glob:=k1,eX:=Y0,gh:=i0.grow c0 s0,slt:=F.slt,ns:=#[as,x.toInCall.ns,λi v e=>?_],kU:=λl0 h=>?_,len:=T0.length,cX:=eC T0.length.symm,store:=λi a e0 N a0=>?_,code:=λi a e0 _ a0=>dG.of (λR e=>(uO (e▸a0)).elim) (λn R m0 e=>(uP (e▸a0)).elim) λn R P T m0 k e=>(uN (e▸a0)).elim,nodup:=x0,high:=U0,dT:=λI=>#[g5,o0,I],hR:=i0.1,cp:=λp G=>?_,kb:=x.apart}
  .unfold qm at e;by_cases j:i<(dv 0 n0).length
   .rw[cG (by simpa using j),cb]at e;obtain⟨h0,y,H⟩:=dP.mp e;cases H;obtain⟨u,S,q⟩:=J0.get y;have d1:i<k:=by rw[<-C,<-rW 0 n0];exact j
    have G0:i<f0.scope.names.length:=eo d1 u0;obtain⟨⟨l0,w0⟩,G⟩:∃p,#[I,f0.scope.names,p]:=#[bF,bB G0];have N0:(l0,w0)∈f0.scope.names.take k:=bC (i:=i) (by rw[es d1];exact G);have A0:=S0 _ N0;simp only[qr,beq_iff_eq]at A0;have b0:#[I,((f0.scope.names.map (·.1)).zip r),(l0,u)]:=Mi (by rw[cb,G];rfl) S;have m:(callEnvC f0 s.heap.objs.size f).kindOf l0=aa w0:=lV I0 G;refine#[bM,l0,w0,G];rcases A0 with rfl|rfl;.exact#[dI,rfl,u,Fz m i1 b0,q]
    .obtain⟨l,c1⟩:=xM.mp (uB f0.scope.names #[kH] [] l0 (bC G));refine .inr ⟨#[dn],l,u,c1,?_,q⟩;have:=x.cell l0 l c1;rwa[Fw (by rw[m];decide) i1 b0]at this
   .rw[dZ (by simpa using j)]at e;have:=bC e;cases(List.mem_replicate.mp this).2
  .exact uB _ _ _ _ (UW h)
  .obtain⟨H0,y,t0,H,q0⟩:=T0.get' N;rw[a0]at y;cases y;exact⟨t0,s0 _ _ H,q0.nil _⟩
  .have M0:s.heap.objs.size<p.2:=x.above p.1 p.2 G;exact⟨λI=>#[aN,o0 _ I,bK.mpr (ea M0)],hj M0,aH i0.1 (ea M0),_,x.cell p.1 p.2 (oq (zu _ _ _ (by simpa using I0)) G)⟩
 refine h _ _ _ ⟨g.handled,by have:=g.depth;show#[i8];omega,by have:=g.units;show A.units+3+8*n+8<_;omega⟩ h1 (Fx.fU c0 #[dJ,s0]) #[aO] (λp G=>ea (x.above p.1 p.2 G)) T0.length.symm
theorem Fn.dM(F:#[w])(t:#[hv])(C:n0.length=k)(S:#[ei])(b0:#[eG])(e0:#[eF])(U:ip j0 k=ae)(h:aj B w n (ey j0 #[t,da,n0] E0) r0 (qm j0 n0) (da n0) (dx #[t,da,n0] r)):Fn B w (n+1) f n0 r:=by
 intro A O l s Q E g d Z R l0 q;refine Gy F t C S b0 e0 U g d Z R l0 λJ k0 o0 i0 u0 T t0 w0 o=>?_;refine h _ _ _ _ _ _ i0 u0 ?_;rintro x0 v H p0 L j⟨m0,z,Y⟩P f0
 have v0:∀y∈eZ (ey j0 #[t,da,n0] E0) J _,#[Q,y]:=λy m=>by
  obtain rfl|m:=bc.mp m;.exact t0
  .obtain m|m:=cK.mp m;.obtain⟨p,c,rfl⟩:=bI.mp m;exact w0 p (iT.mp c).1
   .rw[show O.drop (ey _ _ _).fz=[]from qv (eC o.symm)]at m;cases m
 have N:=T.trans P.fx λy m=>.inr (v0 y m);have c0:∀i a,#[a2,(da _),i]->#[I,j,a]->#[Q,a]:=λi a b I=>(P.new a (pN I b)).elim (λh=>by rw[show O.drop (ey _ _ _).fz=[]from qv (eC o.symm)]at h;cases h) (aH T.size);have s0:∀u,VR j u m0->Cm s.heap.objs.size L.heap u r:=λu e=>by cases r with|atom y=>obtain⟨rfl,m⟩:=Y;exact VR.atom e m|list X=>obtain⟨i,rfl,b,x,h0⟩:=Y;obtain⟨a,I,rfl⟩:=e;obtain⟨M,a0,q0,F0,rfl,G⟩:=P.rel.store i a _ I x;exact⟨a,_,rfl,c0 i a b I,a0,_,_,rfl,G.atoms h0⟩|tup X=>obtain⟨i,rfl,b,x,h0⟩:=Y;obtain⟨a,I,rfl⟩:=e;obtain⟨M,a0,q0,F0,rfl,G⟩:=P.rel.store i a _ I x;exact⟨a,_,rfl,c0 i a b I,a0,_,_,rfl,G.atoms h0⟩
 have y0:=P.rel.gh;obtain rfl|⟨rfl,rfl⟩:=z;.obtain⟨u,rfl,e⟩:=f0;exact q u _ N y0 (s0 u e)
 .cases f0;exact q .none _ N y0 (s0 _ rfl)
def D.val(k:Nat):D->V|.atom x=>x|.list _=>.ob k|.tup _=>.ob k
def D.obs:D->#[l]|.atom _=>[]|.list X=>[.list X]|.tup X=>[.tup X]
def bR:V->Bool|.ob _=>ai|_=>ae
theorem sf(h:bR x=ae):∀i,x≠.ob i:=λi e=>by subst e;cases h
inductive eS(H:#[l]):#[D]->#[j]->List D->Prop where|nil:eS H [] [] []|atom{Y v n0 x}:bR x=ae->eS H Y v n0->eS H (x::Y) v (.atom x::n0)|list{Y v n0 i X}:#[bR]->(#[fq,X])->eS H Y v n0->eS H (.ob i::Y) (i::v) (.list X::n0)|tup{Y v n0 i X}:#[gh]->(#[fq,X])->eS H Y v n0->eS H (.ob i::Y) (i::v) (.tup X::n0)
theorem yN{X:#[D]}(h:X.all bR=ae):#[lz]:=λy m=>sf (eT.mp h y m)
theorem dx.tup{H:#[g]}(h:#[gh])(P:S<=i)(z:X.all bR=ae):dx S (.tup X) (.ret (.ob i)) v H:=⟨_,#[dn],i,rfl,P,h,yN z⟩
theorem dx.list{H:#[g]}(h:#[bR])(P:S<=i)(z:X.all bR=ae):dx S #[cr,X] (.ret (.ob i)) v H:=⟨_,#[dn],i,rfl,P,h,yN z⟩
theorem dx.atom{H:#[g]}(z:bR x=ae):dx S (.atom x) (.ret x) v H:=#[cw,#[dn],sf z]
theorem dx.none{H:#[g]}:dx S (.atom .none) .next v H:=#[cw,.inr #[bS],#[ch]]
section
variable{B:Bs}{w:aD}{n m:Nat}{S:Gm}{U:#[o]}{H b0 o0 w0:#[l]}{J:aN}{O:#[s]}
theorem eS.RM{s:fR}(R:#[ah])(d:eS H Y v n0):∀{l:#[g]},#[a6,l,Y]->∃j,hW s.heap j l n0/\aM (λa i=>#[da]) j v:=by induction d with
|nil=>intro l h;cases h;exact#[as,.nil,.nil]
|atom z _ Q=>intro l h;cases h with|cons N a0=>obtain⟨j,G,E⟩:=Q a0;exact#[as,.atom (N.atom (sf z)) G,E]
|list P z _ Q=>intro l h;cases h with|cons N a0=>obtain⟨j,G,E⟩:=Q a0;obtain⟨a,T,k,rfl,b,p,c⟩:=R.list N P;exact#[as,.list ⟨_,p,_,k,rfl,c.atoms λy m=>sf (z y m)⟩ G,.cons b E]
|tup P z _ Q=>intro l h;cases h with|cons N a0=>obtain⟨j,G,E⟩:=Q a0;obtain⟨a,T,k,rfl,b,p,c⟩:=R.tup N P;exact#[as,.tup ⟨_,p,_,k,rfl,c.atoms λy m=>sf (z y m)⟩ G,.cons b E]
theorem Vm(z:O.Nodup){v:#[j]}(h:aM (λa i=>#[da]) b v)(U:v.Nodup):b.Nodup:=by induction h with|nil=>exact .nil|@cons a i l m N a0 Q=>rw[jn]at U⊢;refine⟨λI=>?_,Q U.2⟩;obtain⟨j,c⟩:=gK.mp I;obtain⟨e,F,d⟩:=a0.get' c;have:=il z N d;subst this;exact U.1 (bC F)
theorem Cx.le(h:Cx m A)(U:n<=m):#[bk]:=⟨h.handled,by have:=h.depth;omega,by have:=h.units;omega⟩
theorem Fn.call(h:Fn B w n f n0 r)(y:n<=m)(d:eS H Y g0 n0)(c:g0.Nodup)(C:∀x,r=.atom x->bR x=ae):bW B w m S #[cb] Y U H (r.val H.length) (H++r.obs):=λA J O t s Q E g M l q=>by
 obtain⟨v,N,a0⟩:=d.RM M l;refine h A v t s Q E (g.le y) M.gh N (Vm M.nodup a0 c) (λa I=>?_) λu L d0 F p=>?_;.obtain⟨j,z⟩:=gK.mp I;obtain⟨i,_,e⟩:=a0.get' z;exact M.high a (bC e)
 have i0:=M.keep d0.size [] d0.keep (#[ch]) F;have k0:#[aV,H,O,L]:=#[g1,i0,d0.widen #[ch]]
 have j0:∀a o e0,#[Q,a]->L.heap.get? a=aa o->OR [] o e0->(#[hF])->(∀n R G,e0≠.rel n R G)->(∀n R P T G k,e0≠.hp n R P T G k)->#[aV,H++[e0],O++[a],L]:=λa o e0 I p h0 o0 l0 m0=>by
  refine#[j5,d0.widen #[ch]]
  .rw[mM M.cX]at Z;rcases cK.mp Z with q|q;.exact .inl q
   .rw[aY.mp q];exact .inr I
  .refine aF.ow i0 d0.size M.jj M.ji M.fT (λb Z=>by rw[aY.mp Z];exact I) #[z] rfl M.gh.1 (λi b f0 c Z=>?_) λi b c0 c Z=>?_;.cases i with|zero=>simp at c Z;subst c;subst Z;exact#[aS,p,h0.nil _]|succ i=>simp at c
   .cases i with|zero=>simp at c Z;subst c Z;exact dG.of (λR e=>absurd e (o0 R)) (λn R G e=>#[aN,e,l0 n R G]) λn R P T G k e=>#[aN,e,m0 n R P T G k]|succ i=>simp at c
 cases r with|atom x=>rw[show H++D.obs (.atom x)=H from fy H]at q;exact q u L O k0 (p.nil _)|list X=>obtain⟨a,o,rfl,I,b0,h0⟩:=p;exact q _ L (O++[a]) (j0 a o _ I b0 h0 #[av] (#[en]) (#[ii])) #[au,a,by rw[<-M.len];simp]|tup X=>obtain⟨a,o,rfl,I,b0,h0⟩:=p;exact q _ L (O++[a]) (j0 a o _ I b0 h0 #[av] (#[en]) (#[ii])) #[au,a,by rw[<-M.len];simp]
theorem Fn.le(h:Fn B w n f n0 r)(U:n<=m):Fn B w m f n0 r:=λA O l s Q E g=>h A _ _ s Q E (g.le U)
end
theorem Bq(h:Runs M S p t j0 s e L):#[jn]:=by induction h<;>(try simp[Shared.setGen,cH,DI]at*)<;>first|omega|skip
theorem WK(h:Returns M S p s r L):#[jn]:=Bq h
theorem YS(h:Wakes M S p g r s R L):#[jn]:=by
 unfold Wakes at h;split at h;.exact h.elim
 .split at h;.obtain⟨_,_,Y,_,_,rfl⟩:=h;exact(Bq Y:(s.setGen g _).heap.objs.size<=_)
  all_goals(rw[h.2];exact aO _)
 .obtain⟨_,_,Y,_,_,rfl⟩:=h;exact(Bq Y:(s.setGen g _).heap.objs.size<=_)
 all_goals(rw[h.2];exact aO _)
theorem YW(M:Model)(S:Ctx)(n:Nat)(t:dw _):∀(Q:O->#[aG,aZ])(E:af->#[aG,aZ])(p:aZ)(s:fR),n<=s.heap.objs.size->tB M S t Q E p s->tB M S t (λa P L=>n<=L.heap.objs.size/\Q a P L) (λe P L=>n<=L.heap.objs.size/\E e P L) p s:=by induction t with|pure a=>exactλQ E p s U h=>⟨U,h⟩|raise e=>exactλQ E p s U h=>⟨U,h⟩|rule _ k d=>exact#[hS]|«at» P k d=>exactλQ E p s U h=>d _ Q E _ s U h|load a _ k d=>exactλQ E p s U⟨o,b,h⟩=>#[aS,b,d o Q E p s U h]|update a _ f k d=>exactλQ E p s U h=>⟨h.1,d _ Q E p _ (#[R]) h.2⟩|loadIfAlive a k d=>exact#[hS]|point _ k d=>exact#[hS]|alloc o k d=>exactλQ E p s U h=>d _ Q E p _ (by rw[cH];exact eI U) h|fresh k d=>exactλQ E p s U h=>d _ Q E p _ U h|ask k d=>exact#[hS]|choose i m k d=>exactλQ E p s U h=>⟨h.1,d _ Q E p _ U h.2⟩|os q _ k d=>exactλQ E p s U h=>d _ Q E p _ U h|call c Z _ _ k d=>exactλQ E p s U⟨r,_,Y,h⟩=>⟨r,_,Y,d r Q E p _ (aH U (WK Y)) h⟩|handled E0 k d=>exact#[hS]|genState g k d=>exactλQ E p s U⟨st,u,h⟩=>#[as,u,d _ Q E p s U h]|newGen c k d=>exactλQ E p s U h=>d _ Q E p _ U h|resume g r _ k d=>exactλQ E p s U⟨R,_,X,h⟩=>#[aC,_,X,d _ Q E p _ (aH U (YS X)) h]|stack k d=>exact#[hS]|thread k d=>exact#[hS]|_=>exactλQ E p s U h=>h
theorem eR{Q:#[aG,O]}(h:aw M A t (λa L=>#[jn]->Q a L) E s):#[ey,t]:=λS p H=>DM M _ t (λ_ _ _ x=>x.2 x.1) (λ_ _ _ x=>x.2) p s (YW M _ _ t _ _ p s #[aO] (h _ p H))
structure hh(B:Bs)(w:aD)(n:Nat)(X:#[D])(I:ao)(L:Nat)(C:#[eR])(r:Nat->#[s]->bk->Prop):Prop where
 next:∀(k:Nat)(x:V)(A:aR)(S:Gm)(J:aN)(O:#[s])(U:#[o])(H:#[l])(s:fR)(Q:#[aG,#[bP]])(E:#[E]),X[k]?=aa x->r k O s.heap->C H->#[bk]->#[ah]->(∀v c0 p0,#[bn,x]->r #[u] O c0->(#[di,b≠I,#[c7]])->Q (aa v) #[ff])->#[gq,I]
 done:∀(A:aR)(S:Gm)(J:aN)(O:#[s])(U:#[o])(H:#[l])(s:fR)(Q:#[aG,#[bP]])(E:#[E]),r X.length O s.heap->C H->#[bk]->#[ah]->(∀c0 p0,(#[di,b≠I,#[c7]])->Q ab #[ff])->#[gq,I]
 mono:∀k O j h c0,r k O h->(∀i,i<L->j[i]?=O[i]?)->(∀o,#[e9,I]->#[dw,I])->r k j c0
 live:∀k O h,r k O h->∃o,#[e9,I]
 hx:∀k O h,r k O h->¬bt h I
 self:∀k O(A:aR)(s:fR)(Q E:#[E]),#[hh]->r k O s.heap->#[bN,I,s]->#[aM,#[ct,kH,I]]
section
variable{B:Bs}{w:aD}{n:Nat}{S:Gm}{d0 g0:#[n]}{U:#[o]}{H b0 o0 w0:#[l]}{a b c:aP}{i0 y0:aZ}{J:aN}{O:#[s]}{l:#[y]}{h0:#[ay]}
def cg(B:Bs)(w:aD)(n:Nat)(S:Gm)(e:aP)(U:#[o])(H:#[l])(X:#[D])(C:#[eR])(b0:#[l]):Prop:=#[kh,#[mj,C],#[nK]]
theorem hh.list(P:i<L):hh B w n X I L (λH=>#[bR]) (λk O h=>∃a,#[da]/\a≠I/\h.IsListIter I a k)where
 next:=λk x A S J O U H s Q E z⟨a,c,r,G⟩R g M q=>by obtain⟨o,p,Y,m,rfl,F⟩:=M.store i a _ c R;obtain⟨u,l,T⟩:=F.at z;exact ED G #[a8,p,m] l λc0 N f=>q u _ _ T ⟨a,c,r,N⟩ λb o Z e=>f.extBut b o Z e
 done:=λA S J O U H s Q E⟨a,c,_,G⟩R g M q=>by obtain⟨o,p,Y,m,rfl,F⟩:=M.store i a _ c R;exact Qb g.handled G #[a8,p,m] (by simp[F.size]) λc0 f=>q _ _ λb o Z e=>f b o Z e
 mono:=λk O j h c0⟨a,c,r,G⟩y C=>⟨a,(y i P).trans c,r,G.at C⟩
 live:=λk O h⟨a,_,_,o,p,_⟩=>⟨o,p⟩
 hx:=λk O h⟨a,_,_,o,p,_,_⟩=>#[ho,p,by simp_all,#[R]]
 self:=λk O A s Q E _⟨a,_,_,G⟩q=>EC G q
theorem cg.list(h:#[aI,#[ce]])(P:#[h6]):cg B w n S a U H X (λH=>#[bR]) b0:=λA J O s Q E g M q=>#[aA,h,λv k0 G c d=>by obtain⟨l,Y,k,rfl,R,p,z⟩:=c.rel.list d P;refine#[me,rm,#[a8,p,k],hh.list,cz (bj p),#[cS,#[aT]]]]
theorem hh.aI{l:Nat->bk->Prop}(c:∀k v,P k v->∀x,X[k]?=aa x->VR [] v x)(M:∀A:aR,A.handled=ab->Walks P0 w A I [I] [I] X.length P l)(m:∀k h,l k h->∃o,#[e9,I])(f:∀k h,l k h->¬bt h I):hh B w n X I L #[fX] (λk _ h=>l k h)where
 next:=λk x A S J O U H s Q E z d R g a q=>(M A g.handled).item k s Q E #[U,z] d λv c0 p0 T i C=>q v _ _ ((c k v T x z).nil _) i λb o Z e=>#[jb,C]
 done:=λA S J O U H s Q E d R g a q=>(M A g.handled).done s Q E d λc0 p0 C=>q _ _ λb o Z e=>#[jb,C]
 mono:=λk O j h c0 d y C=>by refine(M {} rfl).frame k h _ d λb Z o e=>?_;rw[aY.mp Z]at e⊢;exact C o e
 live:=λk O h d=>m k h d
 hx:=λk O h d=>f k h d
 self:=λk O A s Q E g d q=>(M A g).self k s Q E d q
theorem cg.str{t:Tx}(h:#[aI,#[bo]]):cg B w n S a U H (t.map λc=>.str [c]) #[fX] b0:=λA J O s Q E g f q=>h A J O s _ E g f λv k0 G j⟨x,k,e,z⟩=>by
 subst e;have C:#[t,t.map,#[fV]]=x.cps.size:=by rw[aQ,<-z,gG]
 have F:∀(T:String)(L:(k0.heap.push #[aR,T,.fields,#[.str x k,.int 0 0]]).IsStrIter k0.heap.objs.size T x k 0)(M:∀A:aR,A.handled=ab->Walks P0 w A k0.heap.objs.size [k0.heap.objs.size] [k0.heap.objs.size] x.cps.size (SignAt x) (λi h=>h.IsStrIter k0.heap.objs.size T x k i)),#[bN,k0.heap.objs.size,{k0 with heap:=#[d3,k0.heap.push,T,#[.str x k,.int 0 0]]}]:=λT L M=>by refine q _ (λF0 _ h=>h.IsStrIter k0.heap.objs.size T x k F0) _ G (j.trans (aC.heap j.rel (t:=k0.toks) (#[z]) #[e7])) (hh.aI (P:=SignAt x) (λi v⟨l,u,N,a0⟩y m=>?_) (λP R=>by rw[C];exact M P R) (λF0 c0⟨o,p,_⟩=>⟨o,p⟩) (λF0 c0⟨o,p,_,Z⟩=>#[ho,p,by simp_all,by grind])) L j.fx.size λr=>#[g5,j.rel.fT,r];rw[cb,<-z,jM,N]at m;cases m;exact#[aC,u,a0,rfl]
 cases I:x.cps.all (·<128);.exact wpAny_pyIter_wide I (F _ #[cS,#[aT]] λP R=>Walks.strWide R _ x k)
 .exact wpAny_pyIter_ascii I (F _ #[cS,#[aT]] λP R=>Walks.strAscii R _ x k)
def mr(B:Bs)(w:aD)(n:Nat)(S:Gm)(l:#[y])(h0:#[ay])(c:#[f5]):#[dB]:=λo v s=>match o with|.next=>c v s|.cont=>c v s|.brk=>#[d0,v,s]|.ret r=>h0 (.ret r) v s
theorem tZ(h:hO B w n S l h0 o v s)(p:o≠.next):h0 o v s:=by cases o with|next=>exact#[dm,p]|brk=>exact h|cont=>exact h|ret v=>exact h
theorem mG{s:fR}{I:ao}(R:#[ah])(r:#[Q,I]):#[gA,I≠J.locals,I,#[ap,I]]:=⟨hj (eo R.jj r),λp y=>cz (eo (R.ji p y) r),aH R.gh.1 r⟩
theorem mV(N:I≠J.locals)(a0:#[dQ,p.2≠I])(G:I∉O):I∉eZ S J O:=λh=>by
 obtain e|h:=bc.mp h;.exact N e
 grind
theorem aF.other(R:#[cC])(u:#[hp])(k:#[di,b≠I,#[cq]])(r:#[ap,I]/\I≠J.locals/\I∉O/\#[dQ,p.2≠I])(a:¬bt h I):#[dg,O,H,c0]:=R.keep u [I] (λb o e Z _=>#[jb,k]) (λx z=>by rw[aY.mp z];exact⟨r.1,r.2.1,r.2.2.1,r.2.2.2,a⟩) (R.gh.one R.slt r.1 a u k)
theorem aC.other(P:#[cy,x0,b0,j,k0])(u:k0.heap.objs.size<=c0.objs.size)(k:#[di,b≠I,k0.heap.get? b=aa o])(r:I≠J.locals/\I∉j/\#[dQ,p.2≠I])(U:#[Q,I])(a:#[ap,I])(X:¬bt k0.heap I):#[cy,x0,b0,j,{k0 with heap:=c0,toks:=t}]:=#[iP,P.rel.other u k ⟨a,r⟩ X,P.fx.trans (Fx.fU (X:=[I]) u λb o e Z=>#[jb,k]) λy m=>by rw[aY.mp m];exact .inr U]
theorem VR.below(h:#[bn,x]):bD O.length x:=by cases x with|ob i=>obtain⟨a,e,_⟩:=h;exact#[U,e]|none=>trivial|bool _=>trivial|int _=>trivial|str _=>trivial
theorem ES(h:#[a6,Y,X]):#[b7,X,O.length]:=by induction h with
|nil=>simp
|cons N _ Q=>
 intro x z;obtain rfl|z:=bc.mp z;.exact N.below
 .exact Q x z
def ir(v:#[o])(s:#[l]):Prop:=(#[ga,v,bD s.length x])/\#[gO,s,fl s.length e0]
theorem aF.below(R:#[cC]):ir U H:=by
 refine⟨#[cX],λi e0 e=>?_⟩
 .obtain⟨m,_,d⟩:=R.ns;obtain⟨l0,k,_,a0⟩:=d i x e;rw[<-R.len];obtain⟨_,v,_,r⟩|⟨_,c,v,_,_,r⟩:=a0;.exact r.below
  .exact r.below
 .have b:i<O.length:=by rw[R.len];exact#[U,e]
  obtain⟨o,_,a0⟩:=R.store i O[i] _ (bB _) e;rw[<-R.len];cases e0 with|list X=>obtain⟨Y,n,_,a⟩:=a0;exact ES a|tup X=>obtain⟨Y,n,_,a⟩:=a0;exact ES a|raw R=>trivial|rel n R M=>exact a0.1|hp n R P T M k=>exact a0.1
def wU(S j:Nat)(v:#[o])(s:#[l]):Prop:=S<=j/\(#[ga,v,bD j x])/\∀(i:Nat)(e0:Ob),i<j->#[cD,s]->fl j e0
def gQ(S L:Nat)(c:#[f5])(v:#[o])(s:#[l]):Prop:=c v s\/∃j,L<=j/\wU S j v s/\c v (s.take j)
theorem aC.trim(P:#[cy,x0,b0,e,d])(M:O.length<=L)(h:gQ S.fz L f x0 b0):∃g t,f x0 t/\#[cy,x0,t,g,d]/\(∀a∈g,a∈e)/\∀i,i<L->g[i]?=e[i]?:=by
 obtain h|⟨j,c,⟨N,a0,G⟩,h⟩:=h;.exact⟨_,_,h,P,λ_ h=>h,#[df]⟩
 .refine⟨_,_,h,⟨?_,λa I=>?_,P.rel.take N a0 G,P.fx⟩,λa I=>eA I,λi b=>es (eo b c)⟩;.obtain⟨v0,rfl⟩:=P.pre;rw[CR];rw[hY (aH M c)];simp
  .refine P.new a ?_;rw[xh]at I;exact eA I
theorem aj.gS{l0:aq}{c1:aZ}{O0:aP}{r0 T0:#[y]}{X:#[D]}{C:#[eR]}{c:Nat->#[f5]}(i:Nat){L0:fC}(x0:#[i1,O0])(a:#[eA,L0])(b:#[dV,L0,L0,l0])(m0:c 0 U b0)(R:∀k v s,c k v s->C s/\i<v.length)(U0:∀k x v s,X[k]?=aa x->c k v s->ir v s->bD s.length x->#[cE,r0,#[eQ,x],s,mr B w n S l h0 #[mK]])(N0:∀v s,c X.length v s->#[cE,T0,v,s,hO B w n S l h0])(Z0:#[gF,O0]):#[dx,.For (.Name l0 c1) O0 r0 T0 i0]:=#[nV,hO B w n S l h0,by
 refine yA (#[dU,x0,λI z k0 f0 d Q0 h1 i1 o1=>?_]) (λx=>Z0 x J);obtain⟨f1,e1,a1⟩:=mG M i1;refine DY (λm L=>∃k v t y,m=X.length+1-k/\k<=X.length/\c k v t/\#[cy,v,t,y,L]/\z k y L.heap/\I∉y/\f0.length<=y.length) ?_ (X.length+1) ⟨0,U,b0,f0,rfl,aT _,m0,d,h1,o1,aO _⟩;have n1:O.length<=b0.length:=by rw[<-d.rel.len];exact d.pre.length_le
 rintro m L⟨k,v,t,y,rfl,I0,b1,P,G0,d1,j1⟩;obtain⟨E0,j0⟩:=R k v t b1;by_cases u0:k<X.length
 .refine eR (Q0.next k X[k] A S J y v t L _ _ (bB u0) G0 E0 g P.rel λu c0 p0 a0 m1 g1 d0=>?_);have G:#[cy,v,t,y,{L with heap:=c0,toks:=p0}]:=P.other d0 g1 ⟨f1,d1,e1⟩ i1 a1 (Q0.hx _ _ _ G0);refine az (jW (aF.gY G.rel a b j0 a0 λN q0=>?_));have k1:z #[u] y N.heap:=Q0.mono _ _ _ _ _ m1 #[ai] λo e=>q0.fx.keep I o e (mV f1 e1 d1) λn0=>#[a9,P.rel.lb I n0,a1];refine U0 k X[k] v t (bB u0) b1 P.rel.below (P.rel.len▸a0.below) A J y N _ _ g q0.rel λo e0 C0 f s0 H0 p y0 T=>?_;have J0:=(G.trans q0).trans y0
  have q1:I∉H0:=λj=>by
   by_cases Z:I∈H0.drop S.fz
   .rcases y0.new I Z with h|h;.exact d1 (eU h)
    .obtain⟨F0,w0⟩:=Q0.live _ _ _ k1;exact absurd (bj w0) (bK.mpr h)
   .have S0:I∈H0.take S.fz:=by have:=hF S.fz H0;rw[<-this]at j;exact(cK.mp j).resolve_right Z
    obtain⟨v0,rfl⟩:=y0.pre;rw[ls P.rel.cX]at S0;exact d1 (eA S0)
  have p1:b0.length<=y.length:=by rw[<-d.rel.len];exact j1
  have r1:z #[u] H0 s0.heap:=Q0.mono _ _ _ _ _ k1 (λi a=>by obtain⟨v0,rfl⟩:=y0.pre;exact cG (eo a p1)) λo e=>y0.fx.keep I o e (mV f1 e1 d1) λn0=>#[a9,P.rel.lb I n0,a1]
  cases o with
  |next=>cases T;obtain⟨Y0,l1,g0,t0,A0,M0⟩:=J0.trim n1 p;exact⟨X.length+1-#[u],by omega,k+1,e0,l1,Y0,rfl,u0,g0,t0,Q0.mono _ _ _ _ _ r1 M0 (λ_ e=>e),λh=>q1 (A0 _ h),by
   have:Y0.length>=b0.length:=by
    rcases gd Y0.length b0.length with o0|o0;.have F:=M0 _ o0;rw[oM (aO _)]at F;obtain⟨v0,rfl⟩:=y0.pre;rw[bB (by rw[aV];omega)]at F;cases F
    .exact o0
   rw[d.rel.len];exact this⟩
  |cont=>cases T;obtain⟨Y0,l1,g0,t0,A0,M0⟩:=J0.trim n1 p;exact⟨X.length+1-#[u],by omega,k+1,e0,l1,Y0,rfl,u0,g0,t0,Q0.mono _ _ _ _ _ r1 M0 (λ_ e=>e),λh=>q1 (A0 _ h),by
   have:Y0.length>=b0.length:=by
    rcases gd Y0.length b0.length with o0|o0;.have F:=M0 _ o0;rw[oM (aO _)]at F;obtain⟨v0,rfl⟩:=y0.pre;rw[bB (by rw[aV];omega)]at F;cases F
    .exact o0
   rw[d.rel.len];exact this⟩
  |brk=>cases T;exact q .next _ _ _ s0 H0 p J0 rfl
  |ret r=>obtain⟨X0,rfl,Y⟩:=T;exact q (.ret r) _ _ _ s0 H0 p J0 #[dv,X0,Y]
 .have R0:k=X.length:=by omega
  subst R0;refine eR (Q0.done A S J y v t L _ _ G0 E0 g P.rel λc0 p0 g1 d0=>?_);have G:#[cy,v,t,y,{L with heap:=c0,toks:=p0}]:=P.other d0 g1 ⟨f1,d1,e1⟩ i1 a1 (Q0.hx _ _ _ G0);exact N0 v t b1 A J y _ _ _ g G.rel λo e0 C0 f s0 H0 p y0 T=>q o _ _ _ s0 H0 p (G.trans y0) T]
theorem aj.YV{c:Nat->#[g]->#[g]->Prop}(m:Nat)(e:c m U H)(T:∀k v s,c k v s->∃b k0,Et B w n S e0 v s b k0/\if b then#[cE,r0,v,k0,mr B w n S l h0 λI L=>∃F0,F0<k/\c F0 I L]else#[cE,R,v,k0,hO B w n S l h0]):#[dx,.While e0 r0 R i0]:=#[nV,hO B w n _ l h0,(by refine wpAny_While (codeAny_whileLoop (λk L=>∃v t j,c k v t/\aC B _ _ _ v t s j L) ?_ m ⟨_,_,_,e,.refl M⟩);rintro k L⟨v,t,j,c0,P⟩;obtain⟨b,G,Z,u⟩:=T k v t c0;refine Z A _ _ _ _ _ g P.rel λa x y=>?_;cases b with
|true=>refine u A _ _ _ _ _ g y.rel λo I X f i C p z d=>?_;have F:=(P.trans y).trans z;cases o with|next=>cases d;obtain⟨F0,N,a0⟩:=p;exact⟨_,N,_,_,_,a0,F⟩|cont=>cases d;obtain⟨F0,N,a0⟩:=p;exact⟨_,N,_,_,_,a0,F⟩|brk=>cases d;exact q .next _ _ _ _ _ p F rfl|ret r=>obtain⟨b0,rfl,Y⟩:=d;exact q (.ret r) _ _ _ _ _ p F #[b4,Y]
|false=>exact u A _ _ _ _ _ g y.rel λo I X f i C p z d=>q o _ _ _ _ _ p #[cW,P.trans,y,z] d)]
theorem aj.wh{x y:aq}{G0 E0 N0:aZ}{M0}{r0 t0:fC}{u v:V}{t:Nat}(i j:Nat)(h:#[aI,.ob t])(n0:#[la])(P:#[eB,r0])(x0:#[ji,r0,r0])(r:#[ex,y,t0])(A0:#[dV,t0,t0,y])(C0:i≠j)(w0:#[eK])(y0:#[gB])(s0:#[jy])(g0:(#[f1,kK #[eO] a J=av ab])\/(#[f1,kK #[eO] a J=av (aa [x,y])]))(C:#[d0,#[fm,u].set j (aa v),b0]):#[eU,#[eO]]:=aj.seq (R:=λo X L=>#[d6,X=#[fm,u].set j (aa v),L=b0]) (λA J O s Q E g M q=>by
 have F0:∀{k0:fR}{Z:List ao}{p0:af},aF B S J Z U b0 k0.heap->VR Z p0 (.ob t)->∃a Y k l0 m0,p0=.ref a/\k0.heap.get? a=aa ⟨.type "tuple",ab,.seq Y k,#[]⟩/\Y.size=2/\Y.toList=[l0,m0]/\VR Z l0 u/\VR Z m0 v:=λ{k0 Z p0}R N=>by obtain⟨p0,Y,k,rfl,c,p,z⟩:=R.tup N n0;obtain⟨l0,F,o0⟩:=z.at (j:=0) rfl;obtain⟨m0,f,q0⟩:=z.at (j:=1) rfl;have T:Y.size=2:=z.size;refine⟨p0,Y,k,l0,m0,rfl,p,T,?_,o0,q0⟩;apply List.ext_getElem?;intro m;match m with|0=>rw[jM,F];rfl|1=>rw[jM,f];rfl|m+2=>rw[oM ((by simp_all))];rfl
 rcases g0 with g0|g0;.refine PJ (h A J O s _ E g M λu0 k0 Z d N=>?_) (s0 J M.scope) (g0 J M.scope);obtain⟨p0,Y,k,l0,m0,rfl,p,T,j0,o0,q0⟩:=F0 d.rel N;show aw _ A (assign (.Tuple [.Name x G0,.Name y E0] M0 N0) J (.ref p0)) _ E k0;rw[DV];refine ag (dI ?_);unfold unpack;rw[show(qY [hL x G0,hL y E0] J).length=Y.size from T.symm,show(qY [hL x G0,hL y E0] J).findIdx? (·.1)=ab from rfl];refine ag (cf (eR (yF g.handled ⟨_,p,rfl,k,rfl⟩ λc0 f0 v0=>?_)));have G:aC B S J Z U b0 k0 Z {k0 with heap:=c0}:=aC.heap d.rel v0 λb o e=>f0 b o (cz (bj e)) e;rw[j0];refine lC (jW (aF.gY G.rel P x0 w0 o0 λI a0=>lC (jW (aF.gY a0.rel r A0 (by simpa using y0) q0 λd0 e0=>tm ?_))));exact q .next _ _ _ d0 Z ⟨rfl,rfl,rfl⟩ (((d.trans G).trans a0).trans e0) rfl
 .rw[exec_Assign_arm];refine ag (dI ?_);rw[s0 J M.scope];refine ag (az ?_);rw[if_neg (by decide)];refine ag (h A J O s _ E g M λu0 k0 Z d N=>?_);rw[g0 J M.scope];obtain⟨p0,Y,k,l0,m0,rfl,p,T,j0,o0,q0⟩:=F0 d.rel N;refine ag (az ?_);refine ag (hN (ag ?_));rw[show([x,y]:List aq).length=Y.size from T.symm];refine eR (yF g.handled ⟨_,p,rfl,k,rfl⟩ λc0 f0 v0=>?_);have G:aC B S J Z U b0 k0 Z {k0 with heap:=c0}:=aC.heap d.rel v0 λb o e=>f0 b o (cz (bj e)) e;rw[j0];refine ag (lC (En (aF.gY G.rel r A0 y0 q0 λI a0=>lC (En (aF.gY a0.rel P x0 (by simpa using w0) o0 λd0 e0=>tm (az ?_))))));refine q .next _ _ _ d0 Z ⟨rfl,rfl,rfl⟩ ?_ rfl;rw[List.set_comm _ _ C0];exact((d.trans G).trans a0).trans e0) (λX L h=>by obtain⟨_,rfl,rfl⟩:=h;exact C) (λo X L p h=>#[dl,p])
end
namespace St
section
variable{B:Bs}{w:aD}{n:Nat}{i j:Int}
theorem add:#[cj,.Add,i+j]:=by rintro A O u v s Q E g⟨t,rfl⟩⟨k,rfl⟩q;exact#[dY,NH]
theorem agl:#[c2,.Add,i+j]:=by rintro A O u v s Q E g⟨t,rfl⟩⟨k,rfl⟩q;exact#[dY,Zj]
theorem sub:#[cj,.Sub,i-j]:=by rintro A O u v s Q E g⟨t,rfl⟩⟨k,rfl⟩q;exact#[dY,NK]
theorem Ig:#[c2,.Sub,i-j]:=by rintro A O u v s Q E g⟨t,rfl⟩⟨k,rfl⟩q;exact#[dY,Zr]
theorem mod(h:j≠0):#[bY,bL,.Mod,i,j,.int (i.fmod j)]:=by rintro A O u v s Q E g⟨t,rfl⟩⟨k,rfl⟩q;exact NJ h (q _ _ #[aU])
theorem Ag(h:j≠0):#[bY,dR,.Mod,i,j,.int (i.fmod j)]:=by rintro A O u v s Q E g⟨t,rfl⟩⟨k,rfl⟩q;exact Zn h (q _ _ #[aU])
theorem zb:#[cj,.BitAnd,Dr i j]:=by rintro A O u v s Q E g⟨t,rfl⟩⟨k,rfl⟩q;exact#[dY,Zd]
theorem Ac:#[c2,.BitAnd,Dr i j]:=by rintro A O u v s Q E g⟨t,rfl⟩⟨k,rfl⟩q;exact#[dY,Zk]
theorem zh:#[cj,.BitOr,xR i j]:=by rintro A O u v s Q E g⟨t,rfl⟩⟨k,rfl⟩q;exact#[dY,Zv]
theorem Ad:#[c2,.BitOr,xR i j]:=by rintro A O u v s Q E g⟨t,rfl⟩⟨k,rfl⟩q;exact#[dY,Zo]
theorem zk:#[cj,.BitXor,xS i j]:=by rintro A O u v s Q E g⟨t,rfl⟩⟨k,rfl⟩q;exact#[dY,ZA]
theorem Ae:#[c2,.BitXor,xS i j]:=by rintro A O u v s Q E g⟨t,rfl⟩⟨k,rfl⟩q;exact#[dY,Zs]
theorem Bn(h:0<=j):#[bY,bL,.RShift,i,j,.int (i.fdiv (2^j.toNat))]:=by rintro A O u v s Q E g⟨t,rfl⟩⟨k,rfl⟩q;exact Zx h (q _ _ #[aU])
theorem Al(h:0<=j):#[bY,dR,.RShift,i,j,.int (i.fdiv (2^j.toNat))]:=by rintro A O u v s Q E g⟨t,rfl⟩⟨k,rfl⟩q;exact Zq h (q _ _ #[aU])
theorem AG(h:0<=j)(Z:bN i+j<=2^27):#[cj,.LShift,i*2^j.toNat]:=by rintro A O u v s Q E g⟨t,rfl⟩⟨k,rfl⟩q;exact Zt h Z (q _ _ #[aU])
theorem Af(h:0<=j)(Z:bN i+j<=2^27):#[c2,.LShift,i*2^j.toNat]:=by rintro A O u v s Q E g⟨t,rfl⟩⟨k,rfl⟩q;exact Zm h Z (q _ _ #[aU])
theorem pow(h:0<=j)(Z:bN i*j<=2^27):#[cj,.Pow,i^j.toNat]:=by rintro A O u v s Q E g⟨t,rfl⟩⟨k,rfl⟩q;exact Zw h Z (q _ _ #[aU])
theorem Ak(h:0<=j)(Z:bN i*j<=2^27):#[c2,.Pow,i^j.toNat]:=by rintro A O u v s Q E g⟨t,rfl⟩⟨k,rfl⟩q;exact Zp h Z (q _ _ #[aU])
theorem mul(h:mx i j):#[cj,.Mult,i*j]:=by rintro A O u v s Q E g⟨t,rfl⟩⟨k,rfl⟩q;exact#[dY,acg]
theorem Ah(h:mx i j):#[c2,.Mult,i*j]:=by rintro A O u v s Q E g⟨t,rfl⟩⟨k,rfl⟩q;exact#[dY,acb]
theorem fdiv(h:j≠0)(y:oW i j=ai):#[bY,bL,.FloorDiv,i,j,.int (i.fdiv j)]:=by rintro A O u v s Q E g⟨t,rfl⟩⟨k,rfl⟩q;exact Zh h (q _ _ #[aU]) (.inl y)
theorem vn(h:j≠0)(y:oW i j=ai):#[bY,dR,.FloorDiv,i,j,.int (i.fdiv j)]:=by rintro A O u v s Q E g⟨t,rfl⟩⟨k,rfl⟩q;exact Zl h (q _ _ #[aU]) (.inl y)
theorem eq:#[bY,dj,.Eq,i,j,.bool (i==j)]:=by rintro A O u v s Q E g⟨t,rfl⟩⟨k,rfl⟩q;exact#[fP,abo]
theorem ne:#[bY,dj,.NotEq,i,j,.bool (i !=j)]:=by rintro A O u v s Q E g⟨t,rfl⟩⟨k,rfl⟩q;exact#[fP,ach]
theorem lt:#[gu,.Lt,i<j]:=by rintro A O u v s Q E g⟨t,rfl⟩⟨k,rfl⟩q;exact#[fP,acf]
theorem le:#[gu,.LtE,i<=j]:=by rintro A O u v s Q E g⟨t,rfl⟩⟨k,rfl⟩q;exact#[fP,ace]
theorem gt:#[gu,.Gt,i>j]:=by rintro A O u v s Q E g⟨t,rfl⟩⟨k,rfl⟩q;exact#[fP,abr]
theorem ge:#[gu,.GtE,i>=j]:=by rintro A O u v s Q E g⟨t,rfl⟩⟨k,rfl⟩q;exact#[fP,abq]
section
variable{B:Bs}{w:aD}{n:Nat}{i j:Nat}
theorem aG.cast(h:aG w n t x y #[T,r])(e:r=z):aG w n t x y #[T,z]:=e▸h
theorem aG.pA(h:aG w n t x y (.bool r))(e:r=z):aG w n t x y #[cK,z]:=e▸h
theorem AO(a b:Nat):xR a b=a|||b:=by
 unfold xR;rw[bitAnd_nn (by unfold oV;omega) (by unfold oV;omega)];have e:∀c,(oV (oV c))=c:=λc=>by unfold oV;omega
 rw[e,e,e];simp
theorem AM(a b:Nat):Dr a b=a&&&b:=#[p]
theorem Jr(a b:Nat):xS a b=(a|||b)-(a&&&b):=by unfold xS;rw[AO,AM];have N:a&&&b<=a:=Nat.and_le_left;have a0:a<=a|||b:=Nat.left_le_or;omega
theorem sd(a b:Nat):(a:Int).fdiv b=(a/b:Nat):=by rw[Cr _ (oL b)];rfl
theorem AN(a b:Nat):(a:Int).fmod b=(a%b:Nat):=by rw[Cs _ (oL b)];rfl
theorem rt:#[cj,.Add,(i+j:Nat)]:=aG.cast (add) #[p]
theorem vm:#[c2,.Add,(i+j:Nat)]:=aG.cast (agl) #[p]
theorem iO(h:j<=i):#[cj,.Sub,(i-j:Nat)]:=aG.cast sub #[f]
theorem vI(h:mx i j):#[cj,.Mult,(i*j:Nat)]:=aG.cast (mul h) #[p]
theorem vo(h:mx i j):#[c2,.Mult,(i*j:Nat)]:=aG.cast (Ah h) #[p]
theorem Jl(h:j≠0):#[cj,.Mod,(i%j:Nat)]:=aG.cast (mod #[f]) (AN i j)
theorem ail(h:j≠0):#[c2,.Mod,(i%j:Nat)]:=aG.cast (Ag #[f]) (AN i j)
theorem va(h:j≠0)(y:oW i j=ai):#[cj,.FloorDiv,(i/j:Nat)]:=aG.cast (fdiv #[f] y) (sd i j)
theorem HK(h:j≠0)(y:oW i j=ai):#[c2,.FloorDiv,(i/j:Nat)]:=aG.cast (vn #[f] y) (sd i j)
theorem so:#[cj,.RShift,(i/2^j:Nat)]:=aG.cast (Bn #[f]) (by rw[<-sd];simp)
theorem HX:#[c2,.RShift,(i/2^j:Nat)]:=aG.cast (Al #[f]) (by rw[<-sd];simp)
theorem vE(Z:(bN i:Int)+j<=2^27):#[cj,.LShift,(i*2^j:Nat)]:=#[ly,AG]
theorem HL(Z:(bN i:Int)+j<=2^27):#[c2,.LShift,(i*2^j:Nat)]:=#[ly,Af]
theorem vR(Z:(bN i:Int)*j<=2^27):#[cj,.Pow,(i^j:Nat)]:=#[ly,pow]
theorem HW(Z:(bN i:Int)*j<=2^27):#[c2,.Pow,(i^j:Nat)]:=#[ly,Ak]
theorem ur:#[cj,.BitAnd,i&&&j]:=aG.cast (zb) (AM i j)
theorem HH:#[c2,.BitAnd,i&&&j]:=aG.cast (Ac) (AM i j)
theorem FG:#[cj,.BitOr,i|||j]:=aG.cast (zh) (AO i j)
theorem HI:#[c2,.BitOr,i|||j]:=aG.cast (Ad) (AO i j)
theorem zl:#[cj,.BitXor,(i|||j)-(i&&&j)]:=aG.cast (zk) (Jr i j)
theorem HJ:#[c2,.BitXor,(i|||j)-(i&&&j)]:=aG.cast (Ae) (Jr i j)
theorem zM:#[bY,dj,.Eq,i,j,.bool (i==j)]:=aG.pA eq (by rw[mh];simp<;>omega)
theorem AP:#[bY,dj,.NotEq,i,j,.bool (i !=j)]:=aG.pA ne (by rw[mh];simp<;>omega)
theorem Ja:#[gu,.Lt,i<j]:=aG.pA lt (#[z])
theorem Iy:#[gu,.LtE,i<=j]:=aG.pA le (#[z])
theorem vj:#[gu,.Gt,i>j]:=aG.pA gt (#[z])
theorem HG:#[gu,.GtE,i>=j]:=aG.pA ge (#[z])
end
variable{x y:Tx}
theorem oI{x:aq}{t:Tx}(h:x.cps.toList=t):x.length=t.length:=by rw[<-h];rfl
theorem KA{x y:aq}{t u:fP}(R:x.cps.toList.length+y.cps.toList.length<=aB)(q:∀z p0,VR O z #[an,x.cps.toList++y.cps.toList]->Q z #[fF]):#[aa,x.length==0,Made.val (.str y u),#[b8,y.length,0,Made.val (.str x t),Made.str (x++y)]].post Q s:=by
 by_cases N:(x.length==0)=ae;.rw[if_pos N];refine q _ _ #[bM,y,u,rfl];have:=MF (eq_of_beq N);rw[this];rfl
 .rw[if_neg N];by_cases a0:(y.length==0)=ae;.rw[if_pos a0];refine q _ _ #[bM,x,t,rfl];have:=MF (eq_of_beq a0);rw[this,fy]
  .rw[if_neg a0];have e:(x++y).cps.toList=x.cps.toList++y.cps.toList:=by show(x.cps++y.cps).toList=_;simp
   refine⟨?_,q _ _ #[cw,_,e]⟩;rw[oI e,aV];exact R
theorem Bw(h:x.length+y.length<=aB):aG w n (bL .Add) #[an,x] #[an,y] #[an,x++y]:=by rintro A O u v s Q E g⟨a,t,rfl,rfl⟩⟨b,k,rfl,rfl⟩q;exact abn (KA h q)
theorem Ie(h:x.length+y.length<=aB):aG w n (dR .Add) #[an,x] #[an,y] #[an,x++y]:=by rintro A O u v s Q E g⟨a,t,rfl,rfl⟩⟨b,k,rfl,rfl⟩q;exact aca (KA h q)
theorem seq:#[e3,.Eq,#[an,x],#[an,y],.bool (x==y)]:=by rintro A O u v s Q E g⟨a,t,rfl,rfl⟩⟨b,k,rfl,rfl⟩q;exact#[fP,abp]
theorem qf:#[e3,.NotEq,#[an,x],#[an,y],.bool (x !=y)]:=by rintro A O u v s Q E g⟨a,t,rfl,rfl⟩⟨b,k,rfl,rfl⟩q;exact aci (q _ s.toks rfl)
theorem BB:#[e3,.Gt,#[an,x],#[an,y],.bool (decide (x>y))]:=by rintro A O u v s Q E g⟨a,t,rfl,rfl⟩⟨b,k,rfl,rfl⟩q;exact#[fP,abt]
end
end St
section
variable{B:Bs}{w:aD}{n m:Nat}{S:Gm}{d0 g0:#[n]}{U x0:#[o]}{H b0 o0 w0 m0:#[l]}{a b c:aP}{i0 y0:aZ}{l:#[y]}{h0:#[ay]}
theorem W.mS(h:#[hR])(u:cv d=ae)(R:Y.length<=aB)(C:b0.length=k)(Z:b0++[.list Y]=m0):#[aF,.List d i0,.ob k,m0]:=by subst C Z;exact Ev.mS h u R
theorem W.tup(h:#[hR])(u:cv d=ae)(R:Y.length<=aB)(C:b0.length=k)(Z:b0++[.tup Y]=m0):#[aF,.Tuple d M0 i0,.ob k,m0]:=by subst C Z;exact Ev.tup h u R
theorem W.set(i:Nat)(h:#[aI,v])(P:#[eA,k])(C:#[dV,k,k,l0])(t:#[eK])(u:#[f1,#[hH,.Name l0 L]])(T:U.set i (aa v)=x0)(Y:#[d0,x0,b0]):#[eU,[.Name l0 L]]:=by subst T;exact aj.set i h P C t u Y
theorem W.rv(i:Nat)(e:#[bc,U,aa,u])(h:#[aI,v])(z:fp B w n S (dR I) u v U b0 r o0)(P:#[eA,k])(C:#[dV,k,k,l0])(t:#[eK])(T:U.set i (aa r)=x0)(Y:#[d0,x0,o0]):#[k9,.Name l0 L]:=by subst T;exact aj.rv i e h z P C t Y
theorem W.wh(i j:Nat)(h:#[aI,.ob t])(n0:#[la])(P:#[eB,f])(L:#[ji,f,f])(b:#[ex,y,F])(O:#[dV,F,F,y])(g:i≠j)(k:#[eK])(e:#[gB])(A:#[jy])(X:(#[f1,kK #[eO] a J=av ab])\/(#[f1,kK #[eO] a J=av (aa [x,y])]))(T:#[fm,u].set j (aa v)=x0)(Y:#[d0,x0,b0]):#[eU,#[eO]]:=by subst T;exact aj.wh i j h n0 P L b O g k e A X Y
theorem W.uA(t:cJ B w n S #[bQ] #[cb])(c:sT B f f0)(u:cv e=ae)(I:#[bx,cu,e,Y])(d:eS b0 Y v n0)(X:Fn B w m f n0 r)(a:m<=n)(P:v.Nodup)(b:∀x,r=.atom x->bR x=ae)(T:r.val b0.length=y)(Z:b0++r.obs=m0):#[aF,#[cR,#[bQ],e],y,m0]:=by subst T Z;exact Ev.uA t c u I (X.call a d P b)
theorem W.zZ(F:#[w])(i:Nat)(a:#[eB,.globalImplicit])(T:d0 x=aa (.int z t))(Z:#[kb]):#[aF,.Name x i0,#[T,z],H]:=Ev.zZ (cJ.glob F i a T Z)
theorem W.step(h:aG w n t x y r)(Z:H=m0):fp B w n S t x y U H r m0:=by subst Z;exact h.up
theorem Yh(h:J.scope=d.scope):kK f0 v J=kK f0 v d:=by unfold kK Env.kindOf Env.blockKind;rw[h]
def QU(j0:bq):aN:={scope:=j0,locals:=0,globals:=0,cells:=[]}
theorem W.KE(i j:Nat)(h:#[aI,.ob t])(n0:#[la])(P:#[eB,f])(L:#[ji,f,f])(b:#[ex,y,F])(O:#[dV,F,F,y])(g:i≠j)(k:#[eK])(e:#[gB])(A:#[jy])(X:∀J,kK #[eO] a J=av ab)(T:#[fm,u].set j (aa v)=x0)(Y:#[d0,x0,b0]):#[eU,#[eO]]:=W.wh i j h n0 P L b O g k e A (.inl λJ _=>X _) T Y
theorem W.KG(i j:Nat)(h:#[aI,.ob t])(n0:#[la])(P:#[eB,f])(L:#[ji,f,f])(b:#[ex,y,F])(O:#[dV,F,F,y])(g:i≠j)(k:#[eK])(e:#[gB])(A:#[jy])(X:kK #[eO] a (QU S.sc)=av (aa [x,y]))(T:#[fm,u].set j (aa v)=x0)(Y:#[d0,x0,b0]):#[eU,#[eO]]:=W.wh i j h n0 P L b O g k e A (.inr λJ h=>(Yh h).trans X) T Y
theorem W.ka{i:Int}{k q:Nat}(h:i=q):#[iz,#[T,i],#[T,q]]:=by subst h;exact Ev.mI
end
section
variable{B:Bs}{w:aD}{n m:Nat}{S:Gm}{d0 g0:#[n]}{U x0:#[o]}{H b0 o0 w0 m0:#[l]}{a b c o:aP}{i0 y0:aZ}{l:#[y]}{h0:#[dB]}{J:aN}{O:#[s]}
def dq(H:#[l])(x:V)(b:Bool):Prop:=match x with|.none=>b=ai|.bool x=>b=x|.int i=>b=(i !=0)|.str t=>#[fU]/\b=!t.isEmpty|.ob i=>(∃X,#[bR]/\#[bp]/\b=!X.isEmpty)\/(∃X,#[gh]/\#[bp]/\b=!X.isEmpty)
theorem dq.none:dq H .none ai:=rfl
theorem dq.bool:dq H #[cK,x] x:=rfl
theorem dq.int:dq H #[T,i] (i !=0):=rfl
theorem dq.Jn{i:Nat}:dq H #[T,i] (i !=0):=by show(i !=0)=((i:Int)!=0);rw[mh];simp
theorem dq.str(h:#[fU]):dq H #[bo] (!t.isEmpty):=#[bC,h]
theorem dq.list(h:#[bR])(R:#[bp]):dq H #[ce] (!X.isEmpty):=.inl #[aC,h,R,rfl]
theorem dq.tup(h:#[gh])(R:#[bp]):dq H #[ce] (!X.isEmpty):=.inr #[aC,h,R,rfl]
theorem HY{Y:#[be]}{X:#[D]}(h:Y.size=X.length):Y.isEmpty=X.isEmpty:=by cases X with
|nil=>simp at h;subst h;rfl
|cons x l=>
 have:Y.size≠0:=by rw[h];simp
 simp;intro e;subst e;exact this rfl
theorem Yz{A:aR}{s:fR}{v:af}{x:V}{t:Bool}{Q:#[aG,Bool]}{E:#[E]}(R:#[ah])(T:#[bn,x])(n0:dq H x t)(h:∀p0,Q t #[fF]):#[aM,truthy v]:=by have u:aB=2^24:=rfl;cases x with
|none=>cases T;cases n0;exact Zy (h s.toks)
|bool b=>cases T;cases n0;exact rn (h s.toks)
|int i=>obtain⟨k,rfl⟩:=T;cases n0;exact acm (h s.toks)
|str t=>
 obtain⟨y,k,rfl,e⟩:=T;obtain⟨n0,rfl⟩:=n0;have c:=St.oI e;refine acn #[f] ?_;have:((y.length:Int)!=0)=!t.isEmpty:=by rw[c];cases t<;>simp<;>omega
 rw[this];exact h _
|ob i=>
 rcases n0 with⟨X,N,a0,rfl⟩|⟨X,N,a0,rfl⟩;.obtain⟨a,Y,k,rfl,_,p,z⟩:=R.list T N;refine wpAny_truthy_list #[a8,p,k] (by rw[z.size];omega) ?_;rw[HY z.size];exact h _
 .obtain⟨a,Y,k,rfl,_,p,z⟩:=R.tup T N;refine Zz #[a8,p,k] (by rw[z.size];omega) ?_;rw[HY z.size];exact h _
theorem Et.val(h:#[aI,x])(n0:dq b0 x t)(I:∀J T,tN a J T=(do
 let v<-T;yw a.pos;tL [v] (truthy v))):#[bx,Et,a,t]:=λA J O s Q E g M q=>PT (#[aA,h,λu0 k0 G c f=>Yz c.rel f n0 λp0=>q _ _ (c.toks _)]) (I _ _)
theorem Et.Jy(h:#[bx,Et,a,t])(n0:(!t)=X):#[bx,Et,.UnaryOp .Not a i0,X]:=λA J O s Q E g M q=>by subst n0;exact wpAny_isTrue_Not (#[aA,h,q])
def dA(B:Bs)(w:aD)(n:Nat)(S:Gm)(I:BoolOp)(a:List aP)(U:#[o])(H:#[l])(b:Bool)(m0:#[l]):Prop:=#[m4,#[aM,allTrue I a J]]
def dg(B:Bs)(w:aD)(n:Nat)(S:Gm)(I:BoolOp)(t:Bool)(a:List aP)(U:#[o])(H:#[l])(b:Bool)(m0:#[l]):Prop:=if I=.And then#[aa,t,#[cg,dA,I,a,b,m0],b=ai/\m0=H]else#[aa,t,b=ae/\m0=H,#[cg,dA,I,a,b,m0]]
theorem dg.pq{b:Bool}(n0:t=ae)(h:#[cg,dA,.And,d,b,m0]):dg B w n S .And t d U H b m0:=by subst n0;simpa[dg]using h
theorem dg.ue(n0:t=ai):dg B w n S .And t d U H ai H:=by subst n0;simp[dg]
theorem dg.JG(n0:t=ae):dg B w n S .Or t d U H ae H:=by subst n0;simp[dg]
theorem dg.ma{b:Bool}(n0:t=ai)(h:#[cg,dA,.Or,d,b,m0]):dg B w n S .Or t d U H b m0:=by subst n0;simpa[dg]using h
theorem dA.yO:#[cg,dA,.And,[],ae,H]:=#[c9,wpAny_allTrue_And_nil,q s _ #[eq]]
theorem dA.vO:#[cg,dA,.Or,[],ai,H]:=#[c9,wpAny_allTrue_Or_nil,q s _ #[eq]]
theorem dA.cons(h:#[bx,Et,a,t])(k:dg B w n S I t d U b0 r o0):#[cg,dA,I,a::d,r,o0]:=λA J O s Q E g M q=>by cases I with
|And=>refine wpAny_allTrue_And_cons (#[aA,h,λk0 G c=>?_]);cases t with|true=>exact#[lY,λm L y=>q _ _ #[dj]]|false=>obtain⟨rfl,rfl⟩:=k;exact q _ _ c
|Or=>refine wpAny_allTrue_Or_cons (#[aA,h,λk0 G c=>?_]);cases t with|true=>obtain⟨rfl,rfl⟩:=k;exact q _ _ c|false=>exact#[lY,λm L y=>q _ _ #[dj]]
theorem Et.pw(h:#[cg,dA,I,d,r,b0]):#[bx,Et,.BoolOp I d i0,r]:=#[c9,wpAny_isTrue_BoolOp,h A _ _ s Q E g M q]
theorem Ev.neg(h:#[aI,#[T,i]]):#[b2,.UnaryOp .USub a i0,#[T,-i]]:=#[c9,wpAny_UnaryOp,#[aA,h,λu0 k0 G c⟨t,e⟩=>by subst e;exact acj (#[aE,c.toks _,#[aU]])]]
theorem W.iM{T P:String}(p:#[b2,o,x])(l:VT b0 x T)(b:yf T)(c:nL T G P)(e:#[hX,P])(u:cv d=ae)(I:#[hC,d])(X:#[hy,#[cZ,P],x])(L:#[eh])(a:#[b3])(R:d.length<30):#[aF,#[fN,d],r,w0]:=Ev.iM p l b c e u I X L a R
theorem bW.Vt(h:∀(A:aR)(t:fP)(s:fR)(Q E:#[E]),(∀z p0,VR [] z r->Q z #[fF])->#[aM,dQ f [.int i t]]):#[cg,bW,f,[.int i],r,H]:=λA J O l s Q E g M T q=>by cases T with|cons N a0=>cases a0;obtain⟨t,rfl⟩:=N;exact h A t s Q E λz p0 Y=>#[fI,Y.nil _]
theorem W.FC(p:#[b2,o,#[T,i]])(L:#[eg,"bit_length"])(P:#[b3]):#[b2,#[cR,#[d5,ak "bit_length",y0],[]],.int (bN i)]:=Ev.iM p #[p] aas aba abi rfl .nil (bW.Vt λA t s Q E q=>#[dY,Ze]) L P #[i]
theorem Cl.Gn{i j:Nat}(b:j≠0)(y:oW i j=ai)(C:H.length=k)(Z:H++[.tup [.int (i/j:Nat),.int (i%j:Nat)]]=m0):#[gx,"divmod",[.int i,.int j],.ob k]:=λA J O l s Q E g M T q=>by subst C Z;cases T with|cons N a0=>cases a0 with|cons a0 G=>cases G;obtain⟨t,rfl⟩:=N;obtain⟨u,rfl⟩:=a0;refine divmod_int #[f] ?_ (.inl y);refine#[kj,aC.push M rfl #[cw,0,.cons #[bF,by rw[St.sd]] #[aY,#[bF,by rw[St.AN]]]]]
end
section
variable{B:Bs}{w:aD}{n m:Nat}{S:Gm}{d0 g0:#[n]}{U x0:#[o]}{H b0 o0 w0 m0:#[l]}{a b c o:aP}{i0 y0:aZ}{l:#[y]}{h0:#[ay]}{J:aN}{O:#[s]}
theorem aM.push{Y:#[bE]}(h:#[gl])(T:VR O u v):#[a6,(Y.push u).toList,X++[v]]:=by rw[oK];exact h.append (.cons T .nil)
theorem aC.list{a:ao}{q0:#[D]}(R:#[ah])(P:#[da])(q:S.fz<=i)(p:#[cd,a,#[lR]])(m:#[a6,(f Y).toList,q0])(t:Nat):#[aV,H.set i #[cr,q0],O,#[cN,s.heap.update a (dB f),t]]:=aC.AL R P q (oY ..) (JA p) ⟨_,IsL.update p f,_,_,rfl,m⟩
theorem Cl.append(h:#[bR])(b:S.fz<=i)(R:#[bp])(Z:H.set i #[cr,X++[v]]=m0):#[gx,"list.append",[.ob i,v],.none]:=λA J O l s Q E g M T q=>by subst Z;cases T with|cons N a0=>cases a0 with|cons a0 G=>cases G;obtain⟨a,Y,k,rfl,P,p,z⟩:=M.list N h;refine kD xY #[M,p] Ow (Oq _ _) (list_append a _ k _ #[ku]) ⟨p,(#[aE,aC.list M P b p (z.push a0) _,rfl])⟩
theorem Cl.reverse(h:#[bR])(b:S.fz<=i)(R:#[bp])(Z:H.set i #[cr,X.reverse]=m0):#[gx,"list.reverse",[.ob i],.none]:=λA J O l s Q E g M T q=>by subst Z;cases T with|cons N a0=>cases a0;obtain⟨a,Y,k,rfl,P,p,z⟩:=M.list N h;refine kD OI #[M,p] aad (ZQ _) (AutoSeq1.list_reverse_list_0 a _ k #[ku]) ⟨p,(#[aE,aC.list M P b p (by rw[Array.toList_reverse];exact z.rev) _,rfl])⟩
theorem Cl.Iz(h:#[bR])(R:#[bp])(b:X.length=r):#[fM,"len",[.ob i],#[eM,r]]:=λA J O l s Q E g M T q=>by subst b;have u:aB=2^24:=rfl;cases T with|cons N a0=>cases a0;obtain⟨a,Y,k,rfl,P,p,z⟩:=M.list N h;refine Calls.call_len_list #[a8,p,k] (by rw[z.size];omega) (#[fI,#[bF,by rw[z.size]]])
theorem Cl.Av(R:#[fU])(Y:t.length=r):#[fM,"len",[.str t],#[eM,r]]:=λA J O l s Q E g M T q=>by subst Y;have u:aB=2^24:=rfl;cases T with|cons N a0=>cases a0;obtain⟨x,k,rfl,e⟩:=N;have z:=St.oI e;refine OW (#[f]) (#[fI,#[bF,by rw[z]]])
theorem W.append(p:#[fL])(I:#[bv,e,v])(N:∃q0,#[bc,b0,.list,q0])(h:#[bc,o0,.list,X])(q:S.fz<=i)(R:#[bp])(Z:o0.set i #[cr,X++[v]]=m0)(u:#[ek])(L:#[eg,"append"])(P:#[b3]):#[aF,#[g8,"append"],.none,m0]:=#[mz,xY,ON,Cl.append h q R Z]
theorem W.reverse(p:#[fL])(h:#[h6])(q:S.fz<=i)(R:#[bp])(Z:b0.set i #[cr,X.reverse]=m0)(L:#[eg,"reverse"])(P:#[b3]):#[aF,#[cR,#[d5,ak "reverse",y0],[]],.none,m0]:=Ev.iM p (.inl #[M,h]) xX OI abl rfl .nil (Cl.reverse h q R Z) L P #[i]
end
section
variable{B:Bs}{w:aD}{n m:Nat}{S:Gm}{d0 g0:#[n]}{U x0:#[o]}{H b0 o0 w0 m0:#[l]}{a b c o:aP}{i0 y0:aZ}{l:#[y]}{h0:#[ay]}{J:aN}{O:#[s]}
def sk(a c:Int)(n:Nat):#[D]:=(aW n).map λk=>V.int (a+(k:Nat)*c)
theorem hh.range{a c:Int}:hh B w n (sk a c k) I L #[fX] (λi _ h=>IsRangeIter h I (a+i*c) (k-i) c):=by refine hh.aI (P:=λi v=>∃t,v=.int (a+i*c) t) (λi v⟨t,e⟩x z=>?_) (λA g=>by rw[(by simp[sk]:#[bb,(sk a c k),k])];exact Walks.range g I a c k) (λi h T=>#[bF,T]) λi h T=>#[ho,T,(by cases d;cases v),(by cases d)];.unfold sk at z;rw[cb]at z;obtain⟨j,N,rfl⟩:=dP.mp z;obtain⟨a0,G⟩:=bu.mp N;rw[xk]at G;subst G;exact⟨t,e⟩
theorem Bb{k:Nat}(c:#[aV,b0,G,k0])(a:tq x y z=ae)(C:oU x y z=k)(m:sk x z k=X)(q:#[mj,#[fX]]):#[dS,#[ct,kH,k0.heap.objs.size],{k0 with heap:=#[d3,k0.heap.push,"range",#[.int x t,.int y u,.int z v]],toks:=p0}]:=by
 subst m;refine wpAny_pyIter_range (IsRange.new ..) a ?_;refine q _ _ _ _ (c.trans (aC.heap c.rel ?_ ((λo0 m0 b o e=>bM _ (bM _ e):∀o0 m0 b o,k0.heap.get? b=aa o->((k0.heap.push o0).push m0).get? b=aa o) _ _))) hh.range ?_ ?_ λf=>?_;.rw[cH,cH];exact aH (du _) (du _)
 .rw[(by simp:(x+(0:Nat)*z)=x),(by simp_all:(k-(0:Nat))=oU x y z)];exact#[aT]
 .rw[cH];exact eI c.fx.size
 .refine#[aN,c.rel.fT _ f,?_];simp
theorem cg.JZ{N:Nat}(a:#[jH])(u:#[ek])(h:#[b2,e,#[T,N]])(b:N<2^62)(m:#[jR,(aW N).map,k]):cg B w n S #[cR,#[aP,"range",p],[e]] U H X #[fX] b0:=λA J O s Q E g M q=>by refine ib (a A _ _ _ _ s _ E g M ?_);rw[#[dE]];refine qZ (fV _ _) (eK (#[aA,(cu.cons h .nil),λl k0 G c f=>?_]));cases f with
|cons f i=>
 cases i;obtain⟨t,rfl⟩:=f;refine call_range_1 (Bb c (small_one #[i] #[i] #[f] #[f]) (k:=N) ?_ ?_ q);.rw[rangeSize_one];split<;>omega
 .rw[<-m];apply lr;intro k _;simp
theorem cg.Ka{M N:Nat}(d:#[jH])(u:cv [e,f]=ae)(h:#[b2,e,#[T,M]])(c0:#[bv,f,#[T,N]])(v:M<2^62)(j:N<2^62)(r:#[jR,(aW (N-M)).map,M+k]):cg B w n S #[cR,#[aP,"range",p],[e,f]] U H X #[fX] o0:=λA J O s Q E g a q=>by refine ib (d A _ _ _ _ s _ E g a ?_);rw[#[dE]];refine qZ (fV _ _) (eK ((cu.cons h #[aY,c0]) A _ _ s _ E g a λl k0 G c b=>?_));cases b with
|cons b i=>cases i with
|cons i o=>
 cases o;obtain⟨t,rfl⟩:=b;obtain⟨m,rfl⟩:=i;refine call_range_2 (Bb c (small_one #[f] #[f] #[f] #[f]) (k:=N-M) ?_ ?_ q);.rw[rangeSize_one];split<;>omega
 .rw[<-r];apply lr;intro k _;simp
end
section
variable{B:Bs}{w:aD}{n m:Nat}{S:Gm}{d0 g0:#[n]}{U x0:#[o]}{H b0 o0 w0 m0:#[l]}{a b c o:aP}{i0 y0:aZ}{l:#[y]}{h0:#[ay]}{J:aN}{O:#[s]}
theorem hh.rev(a0:i<L):hh B w n X.reverse I L (λH=>#[bR]) (λk O h=>∃a,#[da]/\a≠I/\h.IsRevIter I a (X.length-1-k))where
 next:=λk x A S J O U H s Q E z⟨a,c,F,N⟩R g M q=>by
  obtain⟨o,p,Y,m,rfl,G⟩:=M.store i a _ c R;have C:=by simpa using#[U,z]
  rw[MN C]at z;obtain⟨u,r,T⟩:=G.at z;have e:(X.length:Int)-1-k=(X.length-1-k:Nat):=by omega
  rw[e]at N;refine wpAny_pyNext_rev_item N #[a8,p,m] r λc0 P f=>q u c0 s.toks T #[bM,a,c,F] λb o Z e=>f.extBut b o Z e;rw[(by omega:(X.length:Int)-1-(k+1:Nat)=(X.length-1-k:Nat)-1)];exact P
 done:=λA S J O U H s Q E⟨a,c,F,N⟩R g M q=>by
  have e:(X.length:Int)-1-X.reverse.length=-1:=by rw[ta];omega
  rw[e]at N;exact wpAny_pyNext_rev_end g.handled N λc0 f=>q c0 s.toks λb o Z e=>f b o Z e
 mono:=λk O j h c0⟨a,c,F,N⟩y C=>⟨a,(y i a0).trans c,F,N.at C⟩
 live:=λk O h⟨a,_,_,o,p,_⟩=>⟨o,p⟩
 hx:=λk O h⟨a,_,_,o,p,_,l⟩=>#[ho,p,(by rw[l]at d;cases d;cases v),#[R]]
 self:=λk O A s Q E _⟨a,_,_,N⟩q=>Qa N q
theorem cg.rev(t:cJ B w n S #[aP,"reversed",p] (.type "reversed"))(u:#[ek])(h:#[b2,e,#[ce]])(P:#[h6])(m:X.reverse=q0):cg B w n S #[cR,#[aP,"reversed",p],[e]] U H q0 (λH=>#[bR]) b0:=λA J O s Q E g M q=>by subst m;refine#[jZ];rw[#[dE]];refine qZ (fV _ _) (eK (#[aA,(cu.cons h .nil),λd k0 G c j=>?_]));cases j with|cons j r=>cases r;obtain⟨l,Y,k,rfl,R,a,z⟩:=c.rel.list j P;refine call_reversed_list #[a8,a,k] ?_;have v:(k0.heap.push (revObj l #[gP])).IsRevIter _ l (X.length-1-(0:Nat)):=#[cw,#[aT],by rw[<-z.size];simp[revObj]];refine#[me,Qa,v,hh.rev,cz (bj a),v]
end
theorem Ru(n:¬(a=i0.line/\b=i0.col))(l:#[g])(h:DR l):ju i0 (l++[cC a,cC b,c])=ju i0 l:=by fun_induction DR l with
|case1=>
 have:(a==i0.line&&b==i0.col)=ai:=by rw[wO];intro c0;grind
 simp[hX,cC,ju,this,fX,if_false]
|case2 e t B u x m Q=>
 simp only[fA,ju];split;.rfl
 .exact Q h
|case3 l N a0=>exact h.elim
section
variable{B:Bs}{w:aD}{n m:Nat}{S:Gm}{d0 g0:#[n]}{U x0:#[o]}{H b0 o0 w0 m0:#[l]}{a b c o:aP}{i0 y0:aZ}{l:#[y]}{h0:#[ay]}{J:aN}{O:#[s]}
theorem Rv{s:fR}{c P:ao}(X:J.code=.ref c)(d:s.heap.IsCode c P v)(l:s.heap.get? P=aa (ng v))(m:ju i0 v.toList=ab)(f:∀x(Q:#[E]),(∀y c0 p0,(#[fg])->#[Q,y]->y<c0.objs.size->c0.CodeRec (.ref y) j->#[bN,y,#[ff]])->#[ey,F x])(h:∀y c0 p0,ye P s.heap c0->#[Q,y]->y<c0.objs.size->c0.IsCode c P #[nQ]->c0.get? P=aa (ng #[nQ])->c0.CodeRec (.ref y) j->#[bN,y,#[ff]]):#[ey,codeAt J i0 F]:=by
 obtain⟨o,Y,U,r,S,T,f0,O,k,I,p,a,d0,a0,i,G,b0,z,N,t,n⟩:=id d;unfold codeAt;rw[X];refine#[bI,yD,p,a];rw[d0];refine#[bI,yD,l,rfl];rw[m,a0,i,G,b0];refine ag (f _ _ λy c0 p0 C q g H=>?_);have e0:=C _ _ l;have R:(v++#[cC i0.line,cC i0.col,iC y]).toList=v.toList++[cC i0.line,cC i0.col,.ref y]:=by simp
 have u:DJ (#[mN]) (ng v)=ng #[nQ]:=by show ng (if(ju i0 v.toList).isSome=ae then v else v++#[cC i0.line,cC i0.col,.ref y])=_;rw[m];rfl
 refine#[bI,wpAny_updateFieldsOfTheText,e0,rfl];have B:=tx (λo=>DJ (#[mN]) o) e0 (OV #[p]);rw[u]at B;have w:ye P c0 (c0.update P λo=>DJ (#[mN]) o):=(oY ..).extBut;refine ag (yD B rfl ?_);rw[R,codeAmong_snoc _ t m];refine az (h _ _ _ (λb L Z e=>w b L Z (C b L e)) q (#[R]) ?_ B ?_);.exact⟨o,Y,U,r,S,T,f0,O,k,_,w _ _ n (C _ _ p),a,d0,a0,i,G,b0,B,rfl,by rw[R];exact TriplesOk_snoc _ _ _ _ t,n⟩
 .obtain⟨n0,j0,m0,l0,g0,h0,k0⟩:=H;cases g0;exact⟨_,j0,m0,l0,rfl,w _ _ (hj (eo (bj l) q)) h0,k0⟩
theorem KU{s:fR}{x:fD}{k0:CodeContext->dw af}{Q:#[E]}(z:x∈B.fb)(X:J.code=.ref x.c)(k:#[c4])(u:hq B)(f:∀f0(Q:#[E]),(∀g c0 p0,(#[fg])->#[Q,g]->g<c0.objs.size->#[kc,g]->#[bN,g,#[ff]])->#[ey,k0 f0])(j:∀g c0 p0,#[el]->(#[di,#[c7],#[al,b]])->GH B c0->#[kc,g]->#[al,g]->#[bN,g,#[ff]]):#[ey,codeAt J x.pos k0]:=by
 obtain⟨v0,v,a,l,O⟩:=k.2.2.1 x z;rcases O with R|⟨g,t,a0,n0⟩
 .refine Rv X a l.1 R f λg c0 p0 L r U j0 r0 a0=>?_;have I:=aH r (ea U);have g0:x.P∈B.tabs:=bI.mpr #[au,x,z];have Y:#[di,#[c7],#[al,b]]:=λb o e Z=>L b o (λw=>Z (w▸g0)) e;have T:#[al,g]:=λh=>#[a9,u.tab g h,aH k.1 r];refine j g c0 p0 I Y ⟨aH k.1 I,λb o e Z=>Y b o (k.2.1 b o e Z) Z,λy m=>?_,aH k.2.2.2 I⟩ a0 T;obtain⟨t0,d0,s0,l0,q0⟩:=k.2.2.1 y m;refine#[a4,t0];by_cases p:y.P=x.P
  .obtain⟨e0,u0⟩:=((u y m).2.2 x z).2 p;have o0:d0=v:=#[R];subst o0;refine#[aC,by rw[e0,p];exact j0,#[a4,by rw[p];exact r0],?_];.obtain⟨_,i0,h0,F,d⟩:=l0;exact⟨i0,h0++#[nD],F,by simp_all⟩
   have b0:DR d0.toList:=by obtain⟨_,_,_,_,_,_,_,_,_,_,_,_,_,_,_,_,_,_,_,h,_⟩:=a;exact h
   rcases u0 with rfl|n;.refine .inr ⟨g,?_,a0,T⟩;rw[show(d0++#[cC y.pos.line,cC y.pos.col,.ref g]).toList=d0.toList++[cC y.pos.line,cC y.pos.col,.ref g]by simp];exact codeAmong_snoc _ b0 R
   .have e:ju y.pos (d0++#[nD]).toList=ju y.pos d0.toList:=by rw[show(d0++#[nD]).toList=d0.toList++[cC x.pos.line,cC x.pos.col,.ref g]by simp];exact Ru (λh=>n ⟨h.1.symm,h.2.symm⟩) _ b0
    rw[e];rcases q0 with h|⟨P,N,⟨H,C,m0,S,c,i,q⟩,G⟩;.exact .inl h
    .cases c;exact .inr ⟨P,N,⟨P,C,m0,S,rfl,Y _ _ i G,q⟩,G⟩
  .refine#[bM,d0,s0.extBut L (((u y m).2.2 x z).1) p,⟨L _ _ p l0.1,l0.2⟩];rcases q0 with h|⟨P,N,⟨H,C,m0,S,c,i,q⟩,G⟩;.exact .inl h
   .cases c;exact .inr ⟨P,N,⟨P,C,m0,S,rfl,Y _ _ i G,q⟩,G⟩
 .exact wpAny_codeAt_hit X a t (j g s.heap s.toks #[aO] (λ_ _ e _=>e) k a0 n0)
theorem Xn(z:x∈B.fb)(X:J.code=.ref x.c)(k:#[c4])(u:hq B)(g:∀y c0 p0,#[el]->(#[di,#[c7],#[al,b]])->GH B c0->#[kc,y]->#[al,y]->#[bN,y,#[ff]]):#[ey,functionCode J x.pos f G x.qual p d r0]:=KU z X k u (λh Q q=>wpAny_newCodeX λy _ c0 p0 C j _ a _ H=>q _ _ _ C j a.lt.1 H) g
end
def fS(J:aN):#[gy]->List (aq×ao)->List (aq×ao)|[],A=>A|(n,k)::r,A=>#[b8,k,.free,fS J r ((n,(J.cells.lookup n).getD 0)::A),fS J r A]
theorem uE:fS J ((n,k)::r) A=if(k==.free)=ae then fS J r ((n,(J.cells.lookup n).getD 0)::A)else fS J r A:=rfl
theorem Rj(h:J.cells.lookup n=aa c):cellOf J n=av c:=by unfold cellOf;rw[h]
theorem FT(h:∀p∈d.names,#[jQ,p.2,p.1]):closureFor d J=av #[f7]:=by
 have o:∀l A,(∀p∈l,#[jQ,p.2,p.1])->(forIn l A λx I=>match x with
  |(G,b)=>if(b==jt)=ae then do
   let c<-cellOf J G;av (lk ((G,c)::I))else av (lk I):dw _)=av (fS J l A):=by intro l;induction l with
 |nil=>intro A _;rfl
 |cons p l Q=>
  intro A R;obtain⟨n,k⟩:=p;rw[lq];by_cases C:(k==jt)=ae;.obtain⟨c,X⟩:=xM.mp (R _ fB #[R]);simp only[C,if_true,Rj X,pure_bind];rw[Q _ λp y=>R p (dH _ y)];rw[uE,if_pos C,X];rfl
  .simp only[C,if_false,pure_bind,fX];rw[Q _ λp y=>R p (dH _ y)];rw[uE,if_neg C]
 exact(bind_pure _).trans (o _ _ h)
section
variable{B:Bs}{w:aD}{n m:Nat}{S:Gm}{d0 g0:#[n]}{U x0:#[o]}{H b0 o0 w0 m0:#[l]}{i0 y0:aZ}{J:aN}{O:#[s]}
theorem UR(F:#[w])(R:#[ah])(z:x∈S.own)(k:∀q∈d.names,#[jQ,q.2,q.1])(j0:∀b,r0=.stmts b->docOf b=ab)(g:∀f0 c0 p0,f0.params=p->f0.body=r0->f0.scope=d->#[hO]->#[hN]->f0.closure=fS J d.names []->f0.defaults=.none->#[kk]->f0.qualname=x.qual->#[el]->(#[di,#[c7],#[al,b]])->GH B c0->(∃c,#[gI,c]/\#[al,c]/\#[kc,c])->#[bN,c0.objs.size,#[cN,c0.push #[aR,"function",.func,f0],p0]]):#[aM,Eh x.name x.qual p r0 d J [] [] [] x.pos l0]:=by
 obtain⟨m,C,a⟩:=R.jJ x z;simp only[Eh,List.zip_nil_right,List.filterMap_nil,MQ,if_true,pure_bind,FT k]
 have T:∀M N k0,#[Q,N.objs.size]->(#[eD,s.heap.get?,N.get?])->#[dS,do
  let n<-functionCode J x.pos l0 x.name x.qual p d r0;let h0<-builtinsFor J.globals J.builtins;let m0<-nsGet J.globals "__name__";let i0<-match r0 with|.stmts b=>(match docOf b with|aa s=>mkText s|ab=>av .none)|.expr _=>av .none
  newObj (.type "function") (.func {name:=x.name,qualname:=x.qual,params:=p,body:=r0,scope:=d,globals:=J.globals,closure:=fS J d.names [],closureTuple:=M,code:=n,builtins:=h0,defaults:=.none,kwdefaults:=.none,annotations:=ab,pyModule:=m0.getD .none,doc:=i0}),#[cN,N,k0]]:=by
  intro M N k0 r v;have P:=R.gh.grow r v;refine ag (Xn m C P R.slt λy c0 p0 L t l G u=>?_);obtain⟨v0,o,i,j,Y,I,a0,b0,e0⟩:=F.bm;have f:c0.Ns J.globals d0:=by rw[R.glob];exact F.gs l
  refine ag (Eo f i j (l.2.1 _ _ I Y) a0 b0 e0 ?_);refine#[bf,mC,f];have h:∀i0,#[dS,newObj (.type "function") (.func {name:=x.name,qualname:=x.qual,params:=p,body:=r0,scope:=d,globals:=J.globals,closure:=fS J d.names [],closureTuple:=M,code:=.ref y,builtins:=cS,defaults:=.none,kwdefaults:=.none,annotations:=ab,pyModule:=(d0 "__name__").getD .none,doc:=i0}),#[ff]]:=λi0=>ag (wpAny_alloc (az (g _ c0 p0 rfl rfl rfl R.glob rfl rfl rfl rfl rfl (aH r L) (λb o e Z=>t b o (v b o e) Z) l ⟨y,rfl,u,G⟩)));cases r0 with|stmts b=>dsimp;rw[j0 b rfl];exact#[c6,h _]|expr e=>dsimp;exact#[c6,h _]
 by_cases X:#[f7].isEmpty=ae;.simp[X,if_true,pure_bind];exact T .none s.heap s.toks #[aO] λ_ _ e=>e
 .simp only[X,if_false,fX];refine ag ?_;refine wpAny_newObjAsIs_type ?_;exact T _ _ s.toks (by rw[cH];exact du _) #[e7]
end
def gc(p:lD)(r0:tu)(j0:bq)(R:#[bw])(o:ck):Prop:=∃f0,o=#[jD]/\f0.params=p/\f0.body=r0/\f0.scope=j0/\#[k7,f0.closure.map (·.1)=R/\f0.defaults=.none/\#[kk]]
def iJ:#[gy]->#[bw]->#[bw]|[],A=>A|(n,k)::r,A=>#[b8,k,.free,iJ r (n::A),iJ r A]
theorem uF:∀(l:#[gy])(A:List (aq×ao)),(fS J l A).map (·.1)=iJ l (A.map (·.1))
 |[],A=>rfl
 |(n,k)::r,A=>by
  rw[uE];unfold iJ;split;.exact uF r _
  .exact uF r _
theorem rH:∀(l:#[gy])(A:List (aq×ao)),(∀q∈l,#[jQ,q.2,q.1])->(#[jv,A])->#[jv,fS J l A]
 |[],A,_,h=>h
 |(n,k)::r,A,R,h=>by
  rw[uE];split
  .have a:k=.free:=#[R];obtain⟨c,X⟩:=xM.mp (R (n,k) fB a);refine rH r _ (λq O=>R q (dH _ O)) λp y=>?_;rcases bc.mp y with rfl|y;.rw[X];rfl
   .exact h p y
  .exact rH r _ (λq O=>R q (dH _ O)) h
def je(S:#[bw])(j0:bq):Bool:=j0.names.all λq=>#[b8,q.2,.free,S.contains q.1,ae]
section
variable{B:Bs}{w:aD}{n m:Nat}{S:Gm}{d0 g0:#[n]}{U x0:#[o]}{H b0 o0 w0 m0:#[l]}{i0 y0:aZ}{J:aN}{O:#[s]}{l:#[y]}{h0:#[dB]}
theorem aC.QC{s:fR}{t:Nat}{a:ao}(R:#[ah])(u:#[el])(k:#[di,#[c7],#[al,b]])(d:GH B c0)(I:#[Q,a])(p:∃o,#[dw,a]/\OR (O++[a]) o e0)(X:∀R,e0=.raw R->gb B J c0 a)(g:∀n R M,e0=.rel n R M->gH B c0 a:=by exact#[en])(A:#[jT,hg B c0 a P T]:=by exact#[ii]):#[aV,H++[e0],O++[a],#[cN,c0,t]]:=by
 refine#[j5,⟨rfl,rfl,.refl _,u,λb o e _ n0=>k b o e n0⟩]
 .rw[mM R.cX]at Z;rcases cK.mp Z with q|q;.exact .inl q
  .rw[aY.mp q];exact .inr I
 .refine aF.ow (R.keep u [] (λb o e _ n0=>k b o e n0) #[av] d) u R.jj R.ji R.fT (λb Z=>by rw[aY.mp Z];exact I) #[z] rfl R.gh.1 (λi b m c Z=>?_) λi b C c Z=>?_;.cases i with|zero=>simp at c Z;subst c;subst Z;exact p|succ i=>simp at c
  .cases i with|zero=>simp at c Z;subst c Z;exact dG.of X g A|succ i=>simp at c
theorem vg(h:je S.mc j0=ae)(R:#[dg,O,H,y]):∀q∈j0.names,#[jQ,q.2,q.1]:=λq a C=>by have:=eT.mp h q a;rw[C]at this;exact R.kU q.1 (by simpa using this)
theorem made(F:#[w])(R:#[ah])(z:x∈S.own)(y:#[eX])(q0:∀b,r0=.stmts b->docOf b=ab)(j0:iJ d.names []=G)(v:∀a L,#[aV,H++[.raw (gc p r0 d G)],O++[a],L]->VR (O++[a]) #[K,a] (.ob H.length)->#[bN,a,L]):#[aM,Eh x.name x.qual p r0 d J [] [] [] x.pos s0]:=by
 subst j0;have j:=vg y R;refine UR F R z j q0 λf0 c0 p0 g i n M N T i0 h0 o0 u C l⟨c,X,k0,l0⟩=>?_;have I:c0.objs.size<=#[mI].objs.size:=#[z];have b0:∀b o,#[eT]->#[mI].get? b=aa o:=#[e7];have a0:#[mI].get? c0.objs.size=aa #[jD]:=#[aT];refine v _ _ (aC.QC R (aH u I) (λb o e n0=>b0 b o (C b o e n0)) (l.grow I b0) u #[as,a0,?_] λr _=>?_) ?_;.refine⟨f0,rfl,g,i,n,M,N,?_,i0,h0⟩;rw[T];exact uF _ _
 .intro o e0 f Z;rw[a0]at f;cases f;cases Z;refine#[a4,#[bM,c,X,k0]];.rw[o0];obtain⟨P,m0,Y,t,e,k,m,q⟩:=l0;exact⟨⟨P,m0,Y,t,e,b0 _ _ k,m,q⟩,(R.gh.2.2.1 x (R.jJ x z).1).1⟩
  .rw[T];exact rH _ _ j #[ch]
 .exact#[M,by rw[<-R.len];simp]
theorem aj.Ge(F:#[w])(i j:Nat)(c:#[aW,S.own,x])(m:x.name=G)(y:x.pos=i0)(P:#[I,S.sc.names,(G,k)])(C:#[dV,k,k,G])(N:#[eK])(R:#[eX])(e0:docOf r0=ab)(c0:#[lg])(f0:∀J,annTrees z ab J=[])(a0:iJ d.names []=X)(Z:H++[#[ju,.stmts,X]]=m0)(t:H.length=q)(T:U.set i (aa (.ob q))=x0)(Y:#[d0,x0,m0]):#[dx,.FunctionDef G z r0 [] ab [] d ab G i0]:=by
 refine#[e0,λo I L=>#[d6,I=U.set i (aa (.ob H.length)),L=H++[#[ju,.stmts,X]]],?_,λI L h=>#[R],λo I L p h=>#[dl,p]];rw[exec_def];refine#[g7];rw[c0 J,f0 J];refine#[a3,wpAny_evalAll_nil];refine#[a3,cf];refine az ?_
 have b0:qualnameIn J G G=x.qual:=by
  unfold qualnameIn;rw[M.kindOf P];have:(aa k==aa NameKind.globalExplicit)=ai:=by rcases C with rfl|⟨rfl,_⟩<;>rfl
  rw[this,#[eH],<-(M.jJ x (bC c)).2.2,m]
 rw[b0];subst m y;refine made F M (bC c) R (λb e=>by cases e;exact e0) a0 λa k0 f v=>?_;refine ag (dI (ag (En (aF.gY f.rel P C N v λu r=>?_))));exact az (q .next _ _ _ u _ #[b9] (f.trans r) rfl)
end
def eJ(U:#[gy]):#[gy]->#[jo]|[]=>[]|(l0,k)::r=>#[aa,k==.free,U.findIdx? (λq=>q.1==l0&&(q.2==.cell||q.2==.free)),ab]::eJ U r
def cP(U:#[o]):#[jo]->#[D]->#[o]|[],_=>[]|_::r,v::Y=>aa v::cP U r Y|aa j::r,[]=>(match U[j]? with|aa (aa x)=>aa x|_=>ab)::cP U r []|ab::r,[]=>ab::cP U r []
theorem zr:∀{l:#[g]}{i j:Nat},#[bc,(eJ U l),aa,j]->∃l0 k,#[I,l,(l0,.free)]/\#[aW,U,(l0,k)]/\(k=.cell\/k=.free)
 |[],_,_,h=>by simp[eJ]at h
 |(l0,k)::r,0,j,h=>by
  have c0:#[aa,k==.free,U.findIdx? (λq=>q.1==l0&&(q.2==.cell||q.2==.free)),ab]=aa j:=by simpa[eJ]using h
  split at c0;.rename_i C;have a:=beq_iff_eq.mp C;subst a;obtain⟨b,N,_⟩:=MG.mp c0;simp at N;refine⟨_,_,rfl,?_,N.2⟩;rw[bB _,<-N.1]
  .cases c0
 |_::r,i+1,j,h=>by obtain⟨l0,k,N,a0⟩:=zr (by simpa[eJ]using h);exact#[aC,k,by simpa using N,a0]
theorem pz{U:#[o]}:∀{l:#[jo]}{Y:#[D]}{i:Nat}{x:V},#[f3,(cP U l Y)]->#[I,Y,x]\/∃j,#[bc,l,aa,j]/\U[j]?=aa (aa x)
 |[],_,_,_,h=>by simp[cP]at h
 |_::r,v::Y,0,x,h=>by simp[cP]at h;subst h;exact .inl (rfl)
 |_::r,v::Y,i+1,x,h=>by
  have c0:#[f3,(cP U r Y)]:=by simpa[cP]using h
  rcases pz c0 with N|⟨j,N,a0⟩;.exact .inl (by simpa using N)
  .exact#[na]
 |aa j::r,[],0,x,h=>by
  have c0:(match U[j]? with|aa (aa x)=>aa x|_=>ab)=aa x:=by simpa[cP]using h
  refine .inr #[bL,j,rfl];split at c0;.grind
  .cases c0
 |ab::r,[],0,x,h=>by simp[cP]at h
 |aa j::r,[],i+1,x,h=>by
  have c0:#[f3,(cP U r [])]:=by simpa[cP]using h
  rcases pz c0 with N|⟨j,N,a0⟩;.simp at N
  .exact#[na]
 |ab::r,[],i+1,x,h=>by
  have c0:#[f3,(cP U r [])]:=by simpa[cP]using h
  rcases pz c0 with N|⟨j,N,a0⟩;.simp at N
  .exact#[na]
def gP(r:V)(m0:#[l]):#[ay]:=λo _ s=>(#[nl])/\s=m0
theorem gP.ret:gP r s (.ret r) v s:=#[bC,#[dn]]
theorem gP.next:gP .none s .next v s:=#[bC,.inr #[bS]]
def iq(j0:bq)(k:Nat):Bool:=decide ((j0.names.map (·.1)).Nodup)&&(j0.names.take k).all (λp=>p.2==.local)&&#[ax,k<=j0.names.length]&&j0.names.all (λp=>!(p.2==.cell))
section
variable{B:Bs}{w:aD}{n m:Nat}{S:Gm}{d0 g0:#[n]}{U x0:#[o]}{H b0 o0 w0 m0:#[l]}{i0 y0:aZ}{J:aN}{O:#[s]}{l:#[y]}{h0:#[ay]}
theorem Mj{a:#[bw]}{l:#[L]}(U:a.Nodup){i:Nat}(N:#[I,a,l0])(a0:#[I,l,u]):(a.zip l).reverse.lookup l0=aa u:=by refine oq ?_ (qA.mpr (bC (Mi N a0)));rw[MU];refine(CA (List.reverse_perm _)).mpr ?_;rw[Cg];exact(lu _ _).nodup U
structure sQ(B:Bs)(h:bk)(f:ao)(f0:gN)(j0:bq)(r0:tu)(k:Nat)(a:#[L]):Prop where
 at_:∃o,#[e9,f]/\#[dW]
 Bx:f0.scope=j0
 FF:f0.body=r0
 g:#[hO]
 b:#[hN]
 code:h.CodeRec f0.code f0.qualname
 bind:tG f0 #[Y,a]=av ((j0.names.map (·.1)).zip a)
 ok:iq j0 k=ae
 len:a.length=k
 kind:#[ei]
theorem FN{s:fR}{f:ao}{f0:gN}{j0:bq}{r0:tu}{k:Nat}{r:#[L]}{Y:#[D]}{c0:bk}(R:#[ah])(C:#[kW,r0,r])(g:#[a6,r,Y])(m0:#[jd])(x0:∀(i:Nat)(a:ao)(p0:ck->Prop),#[lp,p0])(v0:#[kI])(A0:#[lf,#[kp]])(w0:c0.Ns s.heap.objs.size (λx=>((j0.names.map (·.1)).zip r).reverse.lookup x))(n0:#[fg]):aF B #[fS] #[fr] O #[jJ] H c0:=by
 have M:#[el]:=by obtain⟨o,_,_,e,_⟩:=w0;exact ea (bj e)
 have b0:=C.ok;simp only[iq,fe,decide_eq_true_eq,eT]at b0;obtain⟨⟨⟨I0,L0⟩,s0⟩,C0⟩:=b0;have N0:#[fr].cells=f0.closure:=rfl;have R0:#[jr,#[fr].locals]:=rfl;refine{scope:=C.Bx,kind:=C.kind,jJ:=?_,nd:=I0,glob:=C.g,eX:=C.b,gh:=R.gh.grow M n0,slt:=R.slt,ns:=#[as,w0,#[cX]],kU:=?_,len:=R.len,cX:=R.cX,store:=?_,code:=?_,nodup:=R.nodup,high:=R.high,dT:=?_,hR:=R.gh.1,cp:=?_,kb:=?_};.simp
 .rcases pz e with h|⟨j,G,o0⟩
  .obtain⟨u,L,A⟩:=g.get h;have Q0:i<k:=by rw[<-C.len];exact#[U,L]
   have E0:i<j0.names.length:=eo Q0 s0;obtain⟨⟨l0,u0⟩,t⟩:∃p,#[I,j0.names,p]:=#[bF,bB E0];have J0:#[kg,(l0,u0)]:=bC (i:=i) (by rw[es Q0];exact t);have y0:=L0 _ J0;simp only[beq_iff_eq]at y0;subst y0;exact⟨l0,_,t,#[dI,rfl,u,Mj I0 (by rw[cb,t];rfl) L,A]⟩
  .obtain⟨l0,u0,N,Q,h0⟩:=zr G;obtain⟨E,a0⟩:=A0 l0 (bC N);refine⟨l0,.free,N,.inr #[a4,.inr #[aJ,a0]]⟩;obtain⟨p,t,rfl⟩:=bI.mp E;obtain⟨m,q,t0⟩:=R.ns;obtain⟨S0,T0,F,w⟩:=t0 j x o0;rw[Q]at F;cases F;have d:=m0 p t;rcases w with⟨rfl,_⟩|⟨_,c,v,k0,⟨o,F0,H0⟩,G0⟩;.rcases h0 with h|h<;>cases h
   .rw[d]at k0;cases k0;exact⟨p.2,v,oq v0 t,#[aS,n0 _ _ F0,H0],G0⟩
 .intro _ h;cases h
 .intro i a e0 I Z;obtain⟨o,N,a0⟩:=R.store i a e0 I Z;exact#[aS,n0 _ _ N,a0]
 .intro i a e0 I Z;obtain⟨o,N,_⟩:=#[gw];have c0:dG B #[fr] s.heap a e0:=by have a0:=R.code i a e0 I Z;cases e0 with|raw p0=>exact x0 i a p0 I Z|rel n p0 d0=>exact a0|hp n R P T d0 k=>exact a0|list X=>trivial|tup X=>trivial
  exact c0.keep (λq0 e=>by rw[n0 _ _ N]at e;cases e;exact N) λb q0 e _ _=>n0 _ _ e
 .exactλI=>#[g5,R.fT,I]
 .intro p t;have d:=mem_of_lookup (m0 p t);obtain⟨N,a0,G,v,o,E,i0⟩:=R.cp _ d;exact⟨N,λe=>absurd (bj E) (by rw[e,R0];exact fk _),G,v,o,n0 _ _ E,i0⟩
 .have E0:=R.kb;rw[MW,th]at v0;refine Cz (R:=λx y=>x.1≠y.1) (λ{x y}z l g0 e=>g0 ?_) v0;have M0:=mem_of_lookup (m0 x z);have O0:=mem_of_lookup (m0 y l);exact Ei E0 M0 (by rw[e];exact O0)
theorem Yc{d:#[o]}(R:#[ah])(o0:#[Q,p0.locals])(X:#[jv,p0.cells])(b0:#[Q,k0.heap.objs.size])(Y:#[eD,s.heap.get?,k0.heap.get?])(g0:k0.os=s.os)(h0:k0.drawn=s.drawn)(c0:k0.gens=s.gens)(P:aC B #[fS] p0 O q0 m0 k0 t L):#[aV,m0,t,L]:=by
 have t0:eZ #[fS] p0 O=p0.locals::O.drop S.fz:=by unfold eZ;rw[CE.mpr (λp _=>by simp)];rfl
 have r0:Fx B [] s k0:=⟨g0,h0,c0▸.refl _,b0,λb o e _ _=>Y b o e⟩;have i0:=(r0.widen #[ch]).trans (t0▸P.fx) λy j=>.inl j
 have s0:Fx B (eZ S J O) s L:=i0.widen λx z=>by
  rcases bc.mp z with rfl|z;.exact .inr o0
  .exact .inl (ou z)
 have M:∀a∈t,a∈O\/#[Q,a]:=λa I=>by
  by_cases n:a∈t.drop S.fz;.exact(P.new a n).imp eU (aH b0)
  .have A:=by have:=hF S.fz t;rw[<-this]at I;exact(cK.mp I).resolve_right n
   obtain⟨v0,rfl⟩:=P.pre;rw[ls R.cX]at A;exact .inl (eA A)
 have w:∀a,a∉O->a<s.heap.objs.size->a∉p0.locals::O.drop S.fz:=λa N a0 h=>by grind
 have d0:#[iG]:=λb Z n0=>#[a9,R.lb b n0,Z];have e0:#[mB,L.heap.IsCell]:=λp l v⟨o,N,a0⟩=>#[aS,i0.keep _ _ N (w _ (R.cp p l).1 (R.ji p l)) (d0 _ (R.cp p l).2.2.1),a0];refine⟨P.pre,λa I=>(P.new a I).imp id (aH b0),?_,s0⟩;refine{R with gh:=P.rel.gh,ns:=?_,len:=P.rel.len,cX:=P.rel.cX,store:=P.rel.store,code:=λi a C I Z=>?_,nodup:=P.rel.nodup,high:=P.rel.high,dT:=λI=>?_,cp:=λp l=>?_}
 .obtain⟨m,k,T⟩:=R.ns;refine⟨m,k.at' λo e=>i0.keep _ o e (w _ R.dT R.jj) (d0 _ R.hR),#[cX]⟩;obtain⟨l0,Q,N,a0⟩:=T i x e;refine#[bM,l0,Q,N];rcases a0 with⟨q,v,F,r⟩|⟨q,c,v,F,u,r⟩;.exact#[dI,q,v,F,r.pre P.pre]
  .exact#[l3,e0,u,r.pre P.pre]
 .exact(P.rel.code i a C I Z).env λf o f0 g n=>by obtain⟨N,a0⟩:=f o f0 g n;exact⟨N,λp l=>by have:=mem_of_lookup (a0 p l);exact X _ this⟩
 .rcases M _ I with h|h;.exact R.dT h
  .exact#[a9,R.jj,h]
 .obtain⟨N,a0,G,v,E⟩:=R.cp p l;refine⟨λI=>?_,a0,G,v,e0 p l v E⟩;rcases M _ I with h|h;.exact N h
  .exact#[a9,R.ji p l,h]
theorem FO{d:#[o]}(R:#[ah])(X:#[jd])(k:#[Q,k0.heap.objs.size])(Y:#[eD,s.heap.get?,k0.heap.get?])(a:k0.os=s.os)(e:k0.drawn=s.drawn)(t:k0.gens=s.gens)(P:aC B #[fS] #[fr] O A m0 k0 j L):#[ep]:=Yc (d:=d) R #[aO] X k Y a e t P
theorem FJ{F:#[w]}(g:#[eZ])(R:#[ah])(C:#[kW,.stmts r0,d])(T:#[a6,d,Y])(X:#[jd])(k0:∀(i:Nat)(a:ao)(Q:ck->Prop),#[lp,Q])(e0:#[kI])(n0:#[lf,"__classdict__"])(p0:#[eG])(s0:#[eF])(h:aj B w n #[fS] r0 #[jJ] H (gP r o0))(q:∀G L j,#[aV,o0,j,L]->VR j G r->Q (.ok (.ret G)) L):jv #[aH] A #[cM,.call,f,#[Y,d]] Q s:=by
 obtain⟨o,b,Z⟩:=C.at_;have m:=C.ok;simp only[iq,fe,decide_eq_true_eq,eT]at m;obtain⟨⟨⟨u0,x0⟩,b0⟩,q0⟩:=m;have h0:=C.Bx;refine(ym #[kM] b Z (F.nl R.gh) C.code C.FF (.of_eq C.bind) (λx z e=>?_) #[b1,?_] (λt i0 M=>?_) (by rw[h0];exact p0) (by rw[h0];exact s0) (by rw[h0];exact C.kind));.grind
 .rw[h0];obtain⟨i,c⟩:=gK.mp z;obtain⟨N,a0⟩:=oN.mp c;rw[cb]at N;obtain⟨p,y,C0⟩:=dP.mp N;have E:i<k:=by rw[<-C.len];exact#[U,a0]
  have v0:=bC (by rw[es E];exact y);have m0:=x0 _ v0;simp[beq_iff_eq]at m0;obtain⟨l0,c0⟩:=p;cases m0;rw[<-C0];exact lV u0 y
 .have E0:=FN R C T X k0 e0 n0 i0 M;have I:#[Q,t.objs.size]:=by obtain⟨o,_,_,e,_⟩:=i0;exact ea (bj e)
  refine h (A.deeper _) _ O _ _ _ #[bL,g.handled,?_] E0 ?_;.have:=g.depth;show#[i8];omega
  .have:=g.units;show A.units+3+8*n+8<_;omega
  rintro F0 v w0 A0 L j⟨z,rfl⟩P t0;have y0:=FO (d:=[]) R X (k0:=#[cN,t,s.toks+((j0.names.map (·.1)).zip d).length]) I M rfl rfl rfl P;rcases z with rfl|⟨rfl,rfl⟩;.obtain⟨u,rfl,l⟩:=t0;exact q u L j y0 l
  .cases t0;exact q .none L j y0 rfl
theorem Rf{F:#[w]}(g:#[eZ])(R:#[ah])(C:#[kW,.stmts r0,b])(T:#[a6,b,Y])(X:#[jd])(v:∀(i:Nat)(a:ao)(c:ck->Prop),#[lp,c])(o:#[kI])(d:#[lf,"__classdict__"])(e:#[eG])(l:#[eF])(h:aj B w n #[fS] r0 #[jJ] H (gP r o0))(q:∀z L j,#[aV,o0,j,L]->VR j z r->Q z L):#[jm,b]:=gi (FJ (F:=F) g R C T X v o d e l h q)
end
structure iu(b:lD)(r0:#[y])(j0:bq)(R:#[bw])(k:Nat):Prop where
 bind:∀(f0:gN)(l:#[L]),f0.params=b->f0.defaults=.none->#[kk]->l.length=k->tG f0 #[Y,l]=av ((j0.names.map (·.1)).zip l)
 ok:iq j0 k=ae
 kind:#[ei]
 co:#[eG]
 gen:#[eF]
 mK:R.Nodup
 pK:(j0.names.all λq=>#[b8,q.2,.free,R.contains q.1&&!(q.1==#[kp]),ae])=ae
def ct:Nat->#[l]->#[j]|_,[]=>[]|k,.raw _::r=>k::ct #[u] r|k,.list _::r=>ct #[u] r|k,.tup _::r=>ct #[u] r|k,.rel _ _ _::r=>ct #[u] r|k,.hp _ _ _ _ _ _::r=>ct #[u] r
theorem kh:∀{H:#[l]}{k j:Nat}{R:ck->Prop},H[j]?=aa (.raw R)->k+j∈ct k H|[],_,_,_,h=>by simp at h|.raw _::r,k,0,_,h=>by unfold ct;exact fB|.list _::r,k,0,_,h=>by simp at h|.tup _::r,k,0,_,h=>by simp at h|.rel _ _ _::r,k,0,_,h=>by simp at h|.hp _ _ _ _ _ _::r,k,0,_,h=>by simp at h|.raw _::r,k,j+1,R,h=>by have:=#[jP];refine dH _ ?_;rw[qJ]at this;exact this|.list _::r,k,j+1,R,h=>by have:=#[jP];rw[qJ]at this;exact this|.tup _::r,k,j+1,R,h=>by have:=#[jP];rw[qJ]at this;exact this|.rel _ _ _::r,k,j+1,R,h=>by have:=#[jP];rw[qJ]at this;exact this|.hp _ _ _ _ _ _::r,k,j+1,R,h=>by have:=#[jP];rw[qJ]at this;exact this
section
variable{B:Bs}{w:aD}{n m:Nat}{S:Gm}{d0 g0:#[n]}{U x0:#[o]}{H b0 o0 w0 m0:#[l]}{i0 y0:aZ}{J:aN}{O:#[s]}{l:#[y]}{h0:#[ay]}
theorem zp(y:z.any (·.1)=ai)(h:aw M A (yo #[K,a] ae z []) (λx k0=>(∃o f0,k0.heap.get? a=aa o/\#[dW])/\aw M A (dQ #[K,a] x.pos x.kw) Q E k0) E s):#[ey,lI i0 #[K,a] [] z []]:=by
 refine#[b6,dk h (λx k0 N=>#[a3,dI]) λ_ _ x=>x];obtain⟨⟨o,f0,p,Z⟩,X⟩:=N
 have d:∀{t:dw _},aw M A t Q E k0->aw M A (do
  let r<-t;tL [r] _;av r) Q E _:=λn0=>ag (dk n0 (λr m Y=>#[b6,EB (az Y)]) λ_ _ x=>x)
 simp only[y,MB,sO,hX];refine ag ?_;refine#[bf,kM,p];rw[Z];refine az ?_;dsimp only;split;.exact d X
 .exact d (Calls.wpAny_keep X)
theorem Ev.FI(F:#[w])(h0:#[hc,#[bQ],#[ce],H])(u:cv e0=ae)(I:cu B w (n+1) S e0 U H Y b0)(P:#[bc,b0,.raw,gc U0 (.stmts r0) j0 L0])(v:iu U0 r0 j0 L0 k)(d1:ct 0 b0=[i])(C:Y.length=k)(X0:eJ S.sc.names j0.names=G)(T:cP U G Y=x0)(h:aj B w n #[fS] r0 x0 b0 (gP r o0)):#[hc,#[cR,#[bQ],e0],r,o0]:=λA J O s Q E g M q=>by
 subst X0 T;refine ib (#[dU,h0,λu0 k0 n0 e c0=>?_]);obtain⟨f,f1,rfl⟩:=c0;rw[dn i0 _ u]
 have C0:∀m Z y0,aC B _ _ _ _ _ _ y0 Z->aM (VR _) m _->∃o f0,Z.heap.get? f=aa o/\#[dW]/\aw (aE _ w) A (dQ _ _) Q E _:=λm Z y0 X m0=>by
  have Z0:=gU X.pre f1;obtain⟨o,b,f0,rfl,t,z,w0,Q0,S0,R0,b1,a1⟩:=X.rel.store i f _ Z0 P;refine⟨_,_,b,rfl,?_⟩;obtain⟨⟨c,J0,I0,M0,O0⟩,A0⟩:=X.rel.code i f _ Z0 P _ _ b rfl;have p0:=m0.length.trans C;refine Rf (F:=F) g X.rel ⟨#[M,b],w0,z,Q0,S0,J0▸M0,v.bind _ _ t b1 a1 p0,v.ok,p0,v.kind⟩ m0 A0 (λj a E0 L R=>?_) (R0▸v.mK) (λl0 l=>?_) v.co v.gen h λv0 s0 H0 q0 G0=>#[aE,#[cW,e.trans,X,q0],G0]
  .have e1:=by have:=kh (k:=0) R;rw[d1,gM]at this;exact aY.mp this
   subst e1;rw[Z0]at L;cases L;intro F0 Y0 N0 T0;rw[b]at N0;cases N0;cases T0;refine⟨⟨c,J0,I0,M0,O0⟩,λc1 y=>(oq (R0▸v.mK) y)⟩
  .rw[R0];have:=eT.mp v.pK _ l;simp only[BEq.rfl,if_true,fe,wQ,CC]at this;exact this
 exact zp (fV _ _) (eK (#[c3,I,e.rel,λm Z y0 X t0=>by obtain⟨o,f0,N,a0,d⟩:=C0 _ _ _ X t0;exact⟨⟨o,_,N,a0⟩,d⟩]))
end
section
variable{B:Bs}{w:aD}{n m:Nat}{S:Gm}{d0 g0:#[n]}{U x0:#[o]}{H b0 o0 w0 m0:#[l]}{i0 y0:aZ}{J:aN}{O:#[s]}{l:#[y]}{h0:#[ay]}{a b c:aP}
theorem KI{A:aR}{E:#[E]}{s:fR}{l:ao}{f:#[be]}{m:Nat}{k:Nat}{t:fP}{v:af}{Q:#[aG,Unit]}(p:#[cd,l,⟨#[f4],ab,.seq f m,#[]⟩])(C:k<f.size)(M:k<2^62)(q:Q () {s with heap:=s.heap.update l (dB λX=>X.setIfInBounds k v)}):#[aM,tS #[K,l] (.int (k:Nat) t) v]:=by
 have R:s.heap.IsList l f:=#[a8,p,m];have Z:(⟨#[f4],ab,.seq f m,#[]⟩:ck).data=.seq f m:=rfl;have u:0<=#[bW]:=by omega
 have H:#[bW]<2^63:=by omega
 obtain⟨x,z⟩:∃x:Int,x=#[bW]:=#[aU];rw[<-z]at u H;rw[<-z];unfold tS;try with_reducible refine cf ?_
 refine ag (wpAny_sequenceKey R.typeIs (#[p]) ?_);refine ag (lM (name:=ak "__setitem__") R.typeIs yb (iG yb R.typeIs Ox ?_ (Ou _ _ _)));show aw _ _ (tp (.int x t)>>=_) _ _ s;refine#[bf,PW,Ec u H];clear H;subst z;refine#[bT,Qc p Z #[cA]];rw[qp C];refine#[bI,wpAny_setSeqItemAt,p,Z];first|exact#[c6,az #[dv,.none,az q]]|exact az #[dv,.none,az q]
theorem aj.KL(T:#[aI,v])(p:#[bv,o,#[cc]])(P:#[dR,i,o0,#[eM,k],w0])(d:#[aX,w0,j,X])(r:S.fz<=j)(C:k<X.length)(l0:k<2^62)(u:∀J,#[hH,.Subscript o i L])(Z:w0.set j (.list (X.set k v))=m0)(e:#[hM]):#[eU,[.Subscript o i L]]:=by refine#[e0,λo I b=>#[d6,I=U,b=w0.set j (.list (X.set k v))],?_,λI b h=>#[R],λo I b p h=>#[dl,p]];refine PI (#[aA,T,λu0 k0 G c f=>#[c3,p,c.rel,λC0 m d0 y a0=>#[c3,P,y.rel,λe0 N g0 x f0=>?_]]]) (u _);obtain⟨t,rfl⟩:=f0;obtain⟨j0,Y,F,rfl,R,c0,z⟩:=x.rel.list (a0.pre x.pre) d;refine KI c0 (by rw[z.size];exact C) l0 ?_;refine#[g4,((c.trans y).trans x).trans (aC.list (t:=N.toks) x.rel R r c0 ?_)];rw[Mr];exact z.set ((f.pre y.pre).pre x.pre) k
theorem aj.Kn(j:h0 (.ret .none) U H):#[dx,.Return ab i0]:=#[mp,o=.ret .none/\I=U/\L=H,wpAny_Return_none,#[M,rfl]]
theorem W.mJ{x:aq}{t:Tx}(h:x.cps.toList=t):#[iz,#[an,x],#[bo]]:=by subst h;exact Ev.mJ
inductive iI(H:#[l]):V->Int->V->Prop where|list{j:Nat}{X:#[D]}{i:Int}{r:V}:#[aX,H,j,X]->#[bp]->br X i=aa r->iI H #[cc] i r|tup{j:Nat}{X:#[D]}{i:Int}{r:V}:H[j]?=aa (.tup X)->#[bp]->br X i=aa r->iI H #[cc] i r|str{X:Tx}{i:Int}{r:Nat}:#[bp]->br X i=aa r->iI H #[an,X] i #[an,[r]]
theorem Ev.sub(I:#[aI,x])(Z:#[bv,b,#[T,i]])(h:iI o0 x i r):#[gc,b,r,o0]:=by cases h with|list N a0 G=>exact Ev.BS I Z N a0 G|tup N a0 G=>exact Ev.Ya I Z N a0 G|str N a0=>exact Ev.LD I Z N a0
theorem Kl{f:#[be]}:∀(k:Nat)(A:#[bE]),(List.foldl (λM0 d=>M0++d) A (cL k f)).toList=A.toList++(cL k f.toList).flatten|0,A=>by simp|k+1,A=>by rw[qF,dN,Kl k];simp[qF]
theorem Kk(h:#[a6,Y,X]):∀(k:Nat),#[a6,(cL k Y).flatten,(cL k X).flatten]|0=>.nil|k+1=>h.append (Kk h k)
theorem St.rZ{j k:Nat}{X q0:#[D]}{r:Nat}(b:#[aX,H,j,X])(C:X.length*k<=2^24)(i:k<2^62)(m:(cL k X).flatten=q0)(a:H.length=r)(Z:#[ef,H]):fp B w n S (bL .Mult) #[cc] #[eM,k] U H (.ob r) m0:=by
 subst m a Z;intro A J O u v s Q E g M c T q;obtain⟨t,rfl⟩:=T;obtain⟨h,Y,F,rfl,R,l,z⟩:=M.list c b;have G:(Y.size*(k:Int).toNat)<=2^24:=by rw[z.size];simpa using C
 have y:#[bW].toNat=k:=rfl;have P:-(2^63:Int)<=#[bW]:=by omega
 have o:#[bW]<2^63:=by omega
 generalize p:#[bW]=x at*;refine wpAny_binaryOp_repeat_ref (T:="list") (U:="int") #[p] #[M,l] (λL=>mB L _ t) noFill_list_mul aak OF repeat_list abb.lookup (kD OF (mB s _ t) ZX (ZK _ _) (int___rmul___int_list _ t h Y F) ⟨l,rfl,#[M,l],kD abd #[M,l] aab (ZN _ _) (AutoListH.list___mul___list_int_3 h Y F x t (by simp[ZE];omega) #[f] (by simp[NR,aB];omega)) #[a4,l]⟩);refine#[nH,aC.push (t:=s.toks) M rfl #[cw,0,?_]];rw[Kl];simp only[hX];have:=Kk (z.mono λ_ _ r=>r.pre (eB O [s.heap.objs.size])) k;rw[y];by_cases d:Y.isEmpty=ae
 .rw[if_pos d];have:Y=#[]:=by simpa using d
  subst this;have f:X=[]:=by have:=z.size;simp at this;exact nE.mp this.symm
  subst f;have e:∀k,(cL k ([]:#[D])).flatten=[]:=λk=>by induction k<;>simp_all[qF]
  rw[e];simp;exact .nil
 .rw[if_neg d];simpa using this
end
structure el(B:Bs)(M:#[s])(G:Nat)(s L:fR):Prop where
 os:L.os=s.os
 drawn:L.drawn=s.drawn
 gens:(∀(i:Nat)(x:eW),i<G->#[I,s.gens,x]->#[I,L.gens,x])/\(qP s.gens->qP L.gens)
 size:#[jn]
 keep:#[ge,#[c7],b∉M,L.heap.get? b=aa o]
 gh:#[hk]
structure mj(B:Bs)(w:aD)(n:Nat)(A:aR)(X:List (V×V))(I:ao)(G L:Nat)(C:#[eR])(r:Nat->#[s]->#[aG,#[s]]):Prop where
 next:∀(k:Nat)(x:V×V)(M:#[s])(S:Gm)(J:aN)(O:#[s])(U:#[o])(H:#[l])(s:fR)(Q:#[E])(E:#[E])(d:List aP)(M0:Nat)(i0:aZ)(R:#[aG,#[bP]]),X[k]?=aa x->r k O M s->C H->#[ah]->(∀v k0,#[et,Eg (.Tuple d M0 i0) #[K,I] v,λ_ m=>Q v m,k0]->R (aa v) k0)->(∀T Z c F m t,m.heap.get? T=aa ⟨#[gD],ab,.seq #[Z,c] F,#[]⟩->VR O Z x.1->VR O c x.2->r #[u] O t m->el B M.tail G s m->(∀b∈t,b∈M\/#[Q,b])->#[bN,T,m])->aw #[aH] A #[ct,jV,I] R E s
 done:∀(M:#[s])(S:Gm)(J:aN)(O:#[s])(U:#[o])(H:#[l])(s:fR)(Q:#[aG,#[bP]])(E:#[E]),r X.length O M s->C H->#[ah]->(∀a,el B M.tail G s a->Q ab a)->#[gq,I]
 mono:∀k O j M s a,r k O M s->(∀i,i<L->j[i]?=O[i]?)->(#[dp,∀o,s.heap.get? b=aa o->a.heap.get? b=aa o])->kn s.gens a.gens->#[Q,a.heap.objs.size]->GH B a.heap->r k j M a
 live:∀k O M s,r k O M s->#[dp,∃o,#[c7]]
 hx:∀k O M s,r k O M s->∀b∈M.tail,lA B s.heap b
section
variable{B:Bs}{w:aD}{n m:Nat}{S:Gm}{d0 g0:#[n]}{U x0:#[o]}{H b0 o0 w0 m0:#[l]}{i0 y0:aZ}{J:aN}{O:#[s]}{l:#[y]}{h0:#[dB]}{a b c:aP}
theorem GH.many{M:#[s]}(g:GH B h)(s:hq B)(Y:#[dp,#[ap,b]/\lA B h b])(u:#[hp])(k:#[di,#[cq],b∉M]):GH B c0:=⟨aH g.1 u,λb o e n0=>k b o (g.2.1 b o e n0) (λZ=>absurd (bj e) (bK.mpr (Y b Z).1)),g.2.2.1.keep M #[f] #[b1,⟨(Y x z).2,s.ne (Y x z).1⟩],aH g.2.2.2 u⟩
theorem el.trans{a b c:fR}(f:el B M a.gens.size a b)(g:el B t b.gens.size b c)(h:∀x∈t,x∈M\/a.heap.objs.size<=x):el B M a.gens.size a c:=by
 have l:∀{s:fR}{i:Nat}{x:eW},#[I,s.gens,x]->i<s.gens.size:=λ{s i x}e=>by
  obtain h|h:=gd i _;.exact h
  simp_all
 exact⟨g.os.trans f.os,g.drawn.trans f.drawn,⟨λi x P e=>have F:=f.gens.1 i x P e;g.gens.1 i x (l F) F,λh=>g.gens.2 (f.gens.2 h)⟩,aH f.size g.size,λb o e Z n0=>g.keep b o (f.keep b o e Z n0) (λd=>(h b d).elim Z λq=>absurd (bj e) (bK.mpr q)) n0,g.gh⟩
def qs(B:Bs)(w:aD)(n:Nat)(S:Gm)(e:aP)(U:#[o])(H:#[l])(X:List (V×V))(C:#[eR])(b0:#[l]):Prop:=#[kh,∀I M r L j,#[aV,b0,j,L]->mj B w n A X I s.gens.size b0.length C r->r 0 j M L->(#[dp,#[Q,b]/\b∉j])->#[bN,I,L],#[nK]]
theorem aF.chg(R:#[ah])(C:el B M G s L)(Y:#[dp,b≠J.locals/\#[gA,b∉O,b,#[ap,b]]])(a:#[dp,lA B s.heap b]):#[dg,O,H,L.heap]:=R.gB C.size M (λb o e Z n0=>C.keep b o e Z n0) (λx z=>⟨(Y x z).2.2.2,(Y x z).1,(Y x z).2.1,(Y x z).2.2.1,a x z⟩) C.gh
theorem aC.chg(P:#[cy,x0,b0,j,k0])(C:el B M s.gens.size k0 d)(Y:#[dp,b≠J.locals/\b∉j/\(#[dQ,p.2≠b])/\#[ap,b]/\#[Q,b]])(U:#[dp,lA B k0.heap b]):#[cy,x0,b0,j,d]:=by
 refine#[iP,P.rel.chg C (λb Z=>⟨(Y b Z).1,(Y b Z).2.1,(Y b Z).2.2.1,(Y b Z).2.2.2.1⟩) U,⟨C.os.trans P.fx.os,C.drawn.trans P.fx.drawn,⟨#[cX],λh=>C.gens.2 (P.fx.gens.2 h)⟩,aH P.fx.size C.size,λb o e z n0=>?_⟩]
 .have a:i<s.gens.size:=by
   obtain h|h:=gd i _;.exact h
   simp_all
  exact C.gens.1 i x a (P.fx.gens.1 i x e)
 .refine C.keep b o (P.fx.keep b o e z n0) (λZ=>(absurd (bj e) (bK.mpr (Y b Z).2.2.2.2))) n0
theorem vL{b:ao}(P:aC B S J j I X s x L)(q:S.fz<=j.length)(Z:b∉j)(R:∃o,#[c7]):b∉x:=λf=>by
 by_cases a:b∈x.drop S.fz
 .obtain h|h:=P.new b a;.exact Z (eU h)
  .obtain⟨c,w⟩:=R;exact absurd (bj w) (bK.mpr h)
 .have E:=by have:=hF S.fz x;rw[<-this]at f;exact(cK.mp f).resolve_right a
  obtain⟨v0,rfl⟩:=P.pre;rw[ls q]at E;exact Z (eA E)
def Nh(R:#[ay])(c:#[f5]):#[ay]:=λo v s=>match o with|.next=>c v s|.cont=>c v s|.brk=>R .next v s|.ret r=>R (.ret r) v s
theorem IX{R:#[dB]}{x y:aq}{G0 E0 N0:aZ}{M0:Nat}{r0 Y0:#[y]}{X:List (V×V)}{C:#[eR]}{c:Nat->#[f5]}(i j:Nat){b1 d1:fC}{A:aR}{g0:#[s]}{s k0:fR}{I:ao}{M:#[s]}{G:Nat->#[s]->#[aG,#[s]]}{Q:#[aG,hM]}{E:#[E]}(g:#[bk])(f1:∀b,#[Q,b]->#[gA,b≠J.locals,b,#[ap,b]])(l:#[aV,b0,g0,k0])(R0:mj B w n A X I s.gens.size b0.length C G)(q1:G 0 g0 M k0)(s0:#[dp,#[Q,b]/\b∉g0])(d:#[eB,b1])(n1:#[ji,b1,b1])(H:#[ex,y,d1])(p1:#[dV,d1,d1,y])(i0:c 0 U b0)(d0:∀k v s,c k v s->C s/\i<v.length/\j<v.length)(Z0:∀k x v s,X[k]?=aa x->c k v s->ir v s->bD s.length x.1->bD s.length x.2->#[cE,r0,#[nI],s,Nh R #[mK]])(O0:∀v s,c X.length v s->#[cE,Y0,v,s,R])(q:∀o f0 A0 f L z,R o f0 A0->#[cy,f0,A0,z,L]->tk z f o->Q f L):jv #[aH] A (.forLoop (.Tuple #[kR] M0 N0) #[K,I] r0 Y0 J) (λr L=>match r with|.ok f=>Q f L|.error e=>cameBackBy #[aH] A J E e L) k0:=by
 have B1:O.length<=b0.length:=by rw[<-l.rel.len];exact l.pre.length_le
 refine DY (λm L=>∃k v t z M,m=X.length+1-k/\k<=X.length/\c k v t/\#[cy,v,t,z,L]/\G k z M L/\(#[dp,#[Q,b]/\b∉z])/\g0.length<=z.length) ?_ (X.length+1) ⟨0,U,b0,g0,M,rfl,aT _,i0,l,q1,s0,aO _⟩;clear s0 q1 M;rintro m L⟨k,v,t,z,M,rfl,H0,j1,P,y0,s0,s1⟩;have m1:#[dp,#[gA,b≠J.locals,b,#[ap,b]]]:=λb Z=>f1 b (s0 b Z).1;have l1:#[dp,b∉z]:=λb Z=>(s0 b Z).2;obtain⟨x0,h1,o1⟩:=d0 k v t j1;have G1:#[dp,b≠J.locals/\#[gA,b∉z,b,#[ap,b]/\#[Q,b]]]:=λb Z=>⟨(m1 b Z).1,l1 b Z,(m1 b Z).2.1,(m1 b Z).2.2,(s0 b Z).1⟩;by_cases q0:k<X.length
 .refine R0.next k X[k] M S J z v t L _ _ #[kR] M0 N0 _ (bB q0) y0 x0 P.rel (λI1 k0 Y=>Y) λT T0 U0 p0 a0 r1 t0 X0 a1 v1 t1 M1=>?_
  .have N:#[cy,v,t,z,a0]:=P.chg t1 (λb Z=>G1 b (MV Z)) (R0.hx _ _ _ _ y0);rw[DV];refine#[a3,dI];unfold unpack;rw[#[co,#[bb,(qY [hL x G0,hL y E0] J),(#[T0,U0]:#[be]).size]],#[co,(qY [hL x G0,hL y E0] J).findIdx? (·.1)=ab]];refine#[b6,eR (yF g.handled #[a8,t0,p0] λc0 J0 g1=>?_)];have l0:aC B S J z v t a0 z {a0 with heap:=c0}:=aC.heap N.rel g1 λb o e=>J0 b o (cz (bj e)) e;refine lC (jW (aF.gY l0.rel d n1 h1 X0 λm0 u0=>lC (jW (aF.gY u0.rel H p1 (by simpa using o1) a1 λQ0 I0=>tm ?_))));have u1:aC B S J z _ t a0 z Q0:=(l0.trans u0).trans I0;have A1:∀b∈r1,#[Q,b]/\b∉z:=λb Z=>(M1 b Z).elim (s0 b) λh=>⟨aH P.fx.size h,λu=>#[a9,P.rel.fT b u,h]⟩;have C1:∀b∈r1,#[gA,b≠J.locals,b,#[ap,b]]:=λb Z=>f1 b (A1 b Z).1;have F1:∀b∈r1,b∉eZ S J z:=λb Z=>mV (C1 b Z).1 (C1 b Z).2.1 (A1 b Z).2;have H1:∀b∈r1,#[al,b]:=λb Z n0=>#[a9,P.rel.lb b n0,(C1 b Z).2.2];have y1:G #[u] z r1 Q0:=R0.mono _ _ _ _ _ _ v1 #[ai] (λb Z o e=>u1.fx.keep b o e (F1 b Z) (H1 b Z)) u1.fx.gens u1.fx.size u1.rel.gh;refine Z0 k X[k] v t (bB q0) j1 P.rel.below (P.rel.len▸X0.below) (P.rel.len▸a1.below) A J z Q0 _ _ g u1.rel λo f0 A0 f k1 z1 a c1 e0=>?_;have i1:=(N.trans u1).trans c1;have J1:∀b∈r1,b∉z1:=λb Z=>vL c1 P.rel.cX (A1 b Z).2 (R0.live _ _ _ _ y1 b Z);have E1:b0.length<=z.length:=by rw[<-l.rel.len];exact s1
   have L1:G #[u] z1 r1 k1:=R0.mono _ _ _ _ _ _ y1 (λi d=>by obtain⟨v0,rfl⟩:=c1.pre;exact cG (eo d E1)) (λb Z o e=>c1.fx.keep b o e (F1 b Z) (H1 b Z)) c1.fx.gens c1.fx.size c1.rel.gh
   have x1:gQ S.fz b0.length (c #[u]) f0 A0->∃m,m<X.length+1-k/\∃F0 v t z M,m=X.length+1-F0/\F0<=X.length/\c F0 v t/\#[cy,v,t,z,k1]/\G F0 z M k1/\(#[dp,#[Q,b]/\b∉z])/\g0.length<=z.length:=λa=>by
    obtain⟨w1,N1,h0,o0,w0,L0⟩:=i1.trim B1 a;refine⟨X.length+1-#[u],by omega,k+1,f0,N1,w1,r1,rfl,q0,h0,o0,R0.mono _ _ _ _ _ _ L1 L0 (λ_ _ _ e=>e) (.refl _) #[aO] o0.rel.gh,λb Z=>⟨(A1 b Z).1,λh=>J1 b Z (w0 _ h)⟩,?_⟩
    have:w1.length>=b0.length:=by
     rcases gd w1.length b0.length with j0|j0;.have F:=L0 _ j0;rw[oM (aO _)]at F;obtain⟨v0,rfl⟩:=c1.pre;rw[bB (by rw[aV];omega)]at F;cases F
     .exact j0
    rw[l.rel.len];exact this
   cases o with|next=>cases e0;exact x1 a|cont=>cases e0;exact x1 a|brk=>cases e0;exact q .next _ _ _ k1 z1 a i1 rfl|ret r=>obtain⟨e1,rfl,Y⟩:=e0;exact q (.ret r) _ _ _ k1 z1 a i1 #[dv,e1,Y]
 .have S0:k=X.length:=by omega
  subst S0;refine R0.done M S J z v t L _ _ y0 x0 P.rel λa0 t1=>?_;have N:#[cy,v,t,z,a0]:=P.chg t1 (λb Z=>G1 b (MV Z)) (R0.hx _ _ _ _ y0);exact O0 v t j1 A J z _ _ _ g N.rel λo f0 A0 f m0 C0 a u0 e0=>q o _ _ _ m0 C0 a (N.trans u0) e0
theorem aj.HB{c:Nat->#[g]->#[g]->Prop}(i j:Nat)(z:qs B w n S L U H X C b0)(P:#[eB,e0])(j0:#[ji,e0,e0])(e:#[ex,y,f0])(l0:#[dV,f0,f0,y])(u:c 0 U b0)(R:∀k v s,c k v s->C s/\i<v.length/\j<v.length)(d0:∀k x v s,X[k]?=aa x->c k v s->ir v s->bD s.length x.1->bD s.length x.2->#[cE,r0,#[nI],s,mr B w n S l h0 #[mK]])(F:∀v s,c X.length v s->#[cE,c0,v,s,hO B w n S l h0])(g0:#[gF,L]):#[dx,.For (.Tuple #[kR] M0 N0) L r0 c0 i0]:=aj.seq (R:=hO B w n _ l h0) (λA J O s Q E g a q=>by refine yA (z A _ _ s _ E g a λI M r k0 m d T m0 Y=>(IX i j g (λb Z=>mG a Z) d T m0 Y P j0 e l0 u R (λk x v s N a0 G f t=>aj.mono (d0 k x v s N a0 G f t) λo v s h=>by cases o<;>exact h) F q)) (λx=>g0 x _)) (λv s h=>h) λo v s p h=>tZ h p
end
section
open PySem.Builtin.Str(strSliceIndices)
def cq(t:Tx):aq:=⟨t.toArray⟩
theorem kg{x:aq}{t:Tx}(h:x.cps.toList=t):x=cq t:=by subst h;rfl
theorem Va(t:Tx):#[e5,(cq t),t]:=#[p]
def cF{O:Type}(l:List O)(c0 P:#[e4]):List O:=(l.drop (c0.elim 0 (iX l.length))).take (P.elim l.length (iX l.length)-c0.elim 0 (iX l.length))
theorem oG(l:List O)(i:Nat):cF l (aa i) ab=l.drop i:=by
 unfold cF;simp[oS,tI];obtain h|h:=nF i _;.rw[kr h,hY (by simp)]
 simp_all
theorem KX(l:List O)(i j:Nat):cF l (aa i) (aa j)=(l.drop i).take (j-i):=by
 unfold cF;simp[oS,tI];obtain h|h:=nF i _
 .rw[kr h];obtain a0|a0:=nF j _;.rw[kr a0]
  .rw[qL a0,hY (by simp),hY (by simp;omega)]
 .rw[qL h,qv h];simp
theorem KY(l:List O)(j:Nat):cF l ab (aa j)=l.take j:=by unfold cF;simp only[oS,tI,nz,xJ];simp
theorem KW(l:List O):cF l ab (aa (-1))=l.dropLast:=by unfold cF;have:iX _ (-1)=l.length-1:=clipAt_neg _ 1 #[aO];simp[oS,this,nz,xJ];rw[ME]
theorem Xo(l:List O):cF l (aa #[bi]) (aa (-1))=(l.drop 1).dropLast:=by
 unfold cF;have:iX _ (-1)=l.length-1:=clipAt_neg _ 1 #[aO];simp only[oS,this,tI];rw[ME,cR];obtain h|h:=gd l.length 1;.have:l=[]:=#[G,nE.mp];subst this;rfl
 .rw[kr h]
theorem BH(l:List O)(c0 P:Option _):#[a2,(cF l c0 P),l.length]:=by unfold cF;rw[bH,cR];omega
theorem Rt(n:Nat)(i:Int):iX n i<=n:=by have:=clipAt_cast n i;omega
theorem Lw(x:aq)(c0 P:Option _):strSliceIndices c0 P 1 x.length=(aW (P.elim x.length (iX x.length)-c0.elim 0 (iX x.length))).map (c0.elim 0 (iX x.length)+·):=by
 have e:strSliceIndices c0 P 1 x.length=sliceRange (c0.elim 0 (iX x.length):Nat) (P.elim x.length (iX x.length):Nat) 1:=by cases c0<;>cases P<;>simp[oS,show 1>0 by decide,if_true,clipAt_cast]<;>rfl
 rw[e,sliceRange_one]
theorem Ly(x:aq)(c0 P:#[e4]):#[e5,(Txt.slice x c0 P),cF x.cps.toList c0 P]:=by
 have U:x.cps.toList.length=x.length:=#[p];have u:((strSliceIndices c0 P 1 x.length).filterMap (x.cps[·]?))=cF x.cps.toList c0 P:=by rw[Lw,pick_run];rfl
 unfold Txt.slice;split
 .rename_i X;have j:=by simpa using X
  rw[Lw,aQ,gq]at j;have Z:P.elim x.length (iX x.length)<=x.length:=by cases P;exact aO _;exact Rt _ _
  unfold cF;rw[U];rcases CT x.length with a|a;.have:=nE.mp (U.trans a);rw[this];simp
  .have F:c0.elim 0 (iX x.length)=0:=by omega
   have d:P.elim x.length (iX x.length)=x.length:=by omega
   rw[F,d,xJ,nz,<-U,gL]
 .rw[<-u]
section
variable{B:Bs}{w:aD}{n m:Nat}{S:Gm}{d0 g0:#[n]}{U x0:#[o]}{H b0 o0 w0 m0:#[l]}{i0 y0 p:aZ}{J:aN}{O:#[s]}{l:#[y]}{h0:#[ay]}{a b c o:aP}
def dX(B:Bs)(w:aD)(n:Nat)(S:Gm)(e:#[a7,aP])(U:#[o])(H:#[l])(i:#[e4])(m0:#[l]):Prop:=#[kh,∀I L j,#[ep]->(∃p0,I=gg (i.map λk=>(k,p0)))->Q I L,#[aM,evalPart e J]]
theorem dX.none:dX B w n S none U H none H:=#[c9,az,q _ s _ #[eq] #[bC,0]]
theorem dX.some(h:#[aI,#[T,i]]):#[bx,dX,some a,some i]:=#[kt,λv k0 G c⟨t,e⟩=>q v _ _ c ⟨t,e⟩]
theorem Ev.wq{c0 P:#[a7,aP]}{t u:Tx}{i j:#[e4]}(I:#[aI,#[bo]])(R:#[lw])(h:#[jF])(l:#[fU])(Y:cF t i j=u):#[gc,#[j9],#[an,u],w0]:=λA J O s Q E g M q=>lg (I A J O s _ E g M λu0 k0 G c f=>pk (R A J G k0 _ E g c.rel λC0 m L y C=>h A J L m _ E g y.rel λe0 N a0 v Z=>by
 obtain⟨x,k,rfl,z⟩:=f;obtain⟨t0,rfl⟩:=C;obtain⟨x0,rfl⟩:=Z;refine az ⟨"str",_,DG.lookup,iE _ x k,?_⟩;refine PR (l:=i.map λq=>(q,t0)) (u:=j.map λq=>(q,x0)) (st:=ab) ⟨_,cm _ rfl,rfl,rfl⟩ rfl ?_;have T:=((c.trans y).trans v).trans (aC.heap v.rel (t:=N.toks) (c0:=N.heap.push {cls:=.type "slice",data:=.fields #[gg (i.map λq=>(q,t0)),gg (j.map λq=>(q,x0)),.none]}) ((by simp)) λb o e=>bM _ e);have F:(i.map λq=>(q,t0)).map (·.1)=i:=by cases i<;>rfl
 have d:(j.map λq=>(q,x0)).map (·.1)=j:=by cases j<;>rfl
 unfold sliceMade slicePicked;rw[F,d];have d0:x.length=t.length:=by rw[<-z];rfl
 refine PB ⟨?_,λX r=>q _ _ a0 (T.toks r) ⟨_,X,rfl,?_⟩⟩;.refine aH (Ph x i j) ?_;rw[d0];exact l
 .subst Y;rw[<-z];exact Ly x i j))
theorem Ev.wo{c0 P:#[a7,aP]}(I:#[aI,.ob k])(R:#[lw])(t:#[jF])(C:#[aX,w0,k,X])(u:#[bp])(h:cF X i j=q0)(f:w0.length=r)(Z:#[ef,w0]):#[gc,#[j9],.ob r,m0]:=λA J O s Q E g M q=>by subst f Z;exact lg (#[dU,I,λu0 k0 G d l=>pk (R A J G k0 _ E g d.rel λC0 m T y x=>t A J T m _ E g y.rel λe0 N h0 v g0=>by
 obtain⟨t0,rfl⟩:=x;obtain⟨x0,rfl⟩:=g0;obtain⟨j0,Y,F,rfl,R,L,c⟩:=v.rel.list ((l.pre y.pre).pre v.pre) C;have d0:N.heap.IsList j0 Y:=#[a8,L,F];refine az #[m0,(d0.push _)];have a0:#[hU,h0,w0,N,h0,N,#[d3,N.heap.push,"slice",#[gg (i.map λq=>(q,t0)),gg (j.map λq=>(q,x0)),.none]]]:=aC.heap v.rel (#[z]) #[e7];have p0:∀z n0,nI (gg (z.map λq=>(q,n0))) z:=λz n0=>by cases z;exact .none;exact .int _ _
 refine Es (d0.push _) (tw ..) (p0 i t0) (p0 j x0) .none #[z] ?_ (by rw[c.size];exact u);have f0:=((d.trans y).trans v).trans a0;refine q _ _ (h0++[_]) #[jM,f0.trans,a0.rel,?_] #[M,by rw[<-a0.rel.len];simp];subst h;rw[PE];have l0:=c.length;rw[gG]at l0;rw[l0];exact((c.drop _).take _).mono #[ig])])
theorem St.HQ{c:Nat}:#[e3,.In,#[an,[c]],#[bo],.bool (decide (c∈t))]:=by
 rintro A O u v s Q E g⟨x,k,rfl,z⟩⟨y,j,rfl,m⟩q;have:x=#[dC]:=by rw[kg z];rfl
 subst this;refine acd ?_;rw[Pf,m];exact q _ _ rfl
theorem St.Jv{c:Nat}:#[e3,.NotIn,#[an,[c]],#[bo],#[cK,!#[ax,c∈t]]]:=by
 rintro A O u v s Q E g⟨x,k,rfl,z⟩⟨y,j,rfl,m⟩q;have:x=#[dC]:=by rw[kg z];rfl
 subst this;refine ack ?_;rw[Pf,m];exact q _ _ rfl
def kT:V->Bool|.none=>ae|_=>ai
theorem Ib(h:#[bn,x]):(v==qW)=kT x/\plainIs v .none=ae:=by cases x with|none=>cases h;exact#[bS]|bool b=>cases h;exact#[bS]|int i=>obtain⟨t,rfl⟩:=h;exact#[bS]|str t=>obtain⟨x,k,rfl,_⟩:=h;exact#[bS]|ob i=>obtain⟨a,_,rfl⟩:=h;exact#[bS]
theorem St.kT:#[e3,.Is,x,.none,.bool (Mine.kT x)]:=by rintro A O u v s Q E g e rfl q;obtain⟨N,a0⟩:=Ib e;exact wpAny_is_plain a0 (by rw[N];exact q _ _ rfl)
theorem St.Am:#[e3,.IsNot,x,.none,#[cK,!Mine.kT x]]:=by rintro A O u v s Q E g e rfl q;obtain⟨N,a0⟩:=Ib e;exact PS a0 (by rw[N];exact q _ _ rfl)
theorem St.Ia:#[e3,.IsNot,#[cK,x],.bool y,.bool (x !=y)]:=by
 rintro A O u v s Q E g rfl rfl q;refine PS rfl ?_;have:(!(Pj x==Pj y))=(x !=y):=by cases x<;>cases y<;>rfl
 rw[this];exact q _ _ rfl
def bh(f:Tx):#[bz]->Tx|[]=>[]|[x]=>x|x::y::r=>x++f++bh f (y::r)
def ah(f0:#[bz]):#[D]:=f0.map V.str
theorem XY(h:#[hf]):∃l:#[g],Y=yy l/\l.map (·.1)=f0.map cq:=by induction f0 generalizing Y with|nil=>cases h;exact#[au,[],rfl]|cons t r Q=>cases h with|cons N a0=>obtain⟨x,k,rfl,z⟩:=N;obtain⟨l,rfl,R⟩:=Q a0;exact#[dv,(x,k)::l,by simp[kg z,R]]
theorem vt(f:Tx):∀(f0:#[g]),(nM (cq f) (f0.map cq)).cps.toList=bh f f0
 |[]=>rfl
 |[x]=>by simp[nM,bh,cq]
 |x::y::r=>by
  have Q:=vt f (y::r);simp at Q⊢;have e:nM (cq f) (cq x::cq y::r.map cq)=cq x++cq _++nM _ _:=rfl;rw[e];have h:∀a b:aq,(a++b).cps.toList=a.cps.toList++b.cps.toList:=λa b=>by show(a.cps++b.cps).toList=_;simp
  rw[h,h,Q];rfl
theorem Cl.join(h:#[bR])(r:X=ah f0)(Z:(f0.map gI).sum+f0.length*f.length<=aB)(d:bh f f0=u):#[fM,"str.join",[.str f,.ob i],#[an,u]]:=λA J O c s Q E b M T q=>by subst r d;cases T with
|cons N a0=>cases a0 with
|cons a0 G=>
 cases G;obtain⟨x,k,rfl,z⟩:=N;obtain⟨v,Y,F,rfl,R,j,o⟩:=M.list a0 h;obtain⟨l,t,P⟩:=XY o;have y:=kg z;subst y;have C:(l.map (·.1)).toArray.foldl (λa p=>a+p.length+#[t,cq,f]) 0<=aB:=by rw[StrLaws.joinTotal,P,aQ,gr];exact Z
 have L:Og ((l.map (·.1)).toArray.foldl (·+·.length+(cq f).length) 0)=ai:=by unfold Og;simp only[decide_eq_false_iff_not];omega
 refine kD yc rfl aag (ZU _ _) (meets_str_join_list _ k _ l L) #[a4,⟨_,j,rfl,F,?_⟩];.rw[<-t]
 .have e:DS (cq f) (l.map (·.1))=nM _ _:=Pg _ _;refine post_join l ⟨?_,by rw[e];exact(λm g=>#[fI,#[cw,_,by rw[P];exact vt _ _]]:∀m g,Q (.str (nM _ (l.map _)) _) _)⟩;rw[e];refine aH (StrLaws.join_length_le _ _) ?_;rw[P,aQ,gr];exact Z
inductive jY(H:#[l]):V->#[e4]->#[e4]->V->#[l]->Prop where|str{t u:Tx}{i j:#[e4]}:#[fU]->cF t i j=u->jY H #[bo] i j #[an,u] H|list{k r:Nat}{X q0:#[D]}{i j:#[e4]}{m0:#[l]}:#[aX,H,k,X]->#[bp]->cF X i j=q0->H.length=r->H++[.list q0]=m0->jY H (.ob k) i j (.ob r) m0
theorem Ev.slice{c0 P:Option _}(I:#[aI,x])(R:#[lw])(e:#[jF])(h:jY w0 x i j r m0):#[gc,#[j9],r,m0]:=by cases h with|str N a0=>exact Ev.wq I R e N a0|list N a0 G E b=>exact Ev.wo I R e N a0 G E b
theorem W.join(p:#[b2,o,#[an,f]])(I:#[bv,e,#[ce]])(h:#[bc,o0,.list,X])(m:X=ah f0)(Z:(f0.map gI).sum+f0.length*f.length<=aB)(Y:bh f f0=u)(a:#[ek])(L:#[eg,"join"])(P:#[b3]):#[aF,#[g8,"join"],#[an,u],o0]:=Ev.iM p #[p] lG yc DH a #[aY,I] (Cl.join h m Z Y) L P #[z]
end
end
def ft(d j0:bq):bq:={d with names:=d.names.map λ(n,k)=>if(k==.free&&j0.kind==.function&&j0.names.lookup n==aa .cell)then(n,.cell)else(n,k)}
def lZ(d:bq):Bool:=decide ((d.names.map (·.1)).Nodup)&&d.names.all (λp=>!(p.2==.cell))&&d.names.all (λp=>!(p.1==#[kp]))
theorem WA(d j0:bq):((ft d j0).names.map (·.1))=d.names.map (·.1):=by unfold ft;simp only[gr];apply lr;rintro⟨n,k⟩_;show#[aa,_,(n,tz),(n,k)].1=n;split<;>rfl
theorem Wz{i:Nat}{n:aq}(h:#[I,d.names,(n,k)]):#[I,(ft d j0).names,#[aa,k==.free&&j0.kind==.function&&j0.names.lookup n==aa .cell,(n,.cell),(n,k)]]:=by unfold ft;simp only[cb,h,Option.map_some]
section
variable{B:Bs}{w:aD}{n m:Nat}{S:Gm}{d0 g0:#[n]}{U x0 T:#[o]}{H b0 o0 w0 m0:#[l]}{i0 y0 p:aZ}{J:aN}{O:#[s]}{l:#[y]}{h0:#[ay]}{a b c o:aP}
theorem Wy(R:#[cC])(d:bq):relabel d J=ft d S.sc:=by unfold relabel ft Env.kindOf;rw[R.scope]
theorem Rw{d:bq}{s:fR}{c0:bk}{G:#[jo]}(R:#[ah])(b0:lZ d=ae)(C:#[h5])(v0:#[eX])(J0:#[hI])(t0:#[ci,H])(s0:c0.Ns s.heap.objs.size (λ_=>ab))(k0:#[fg]):aF B #[fl] (ra d #[f7] s.heap.objs.size J) O (cP U G []) H c0:=by
 subst J0;have L:#[el]:=by obtain⟨o,_,_,e,_⟩:=s0;exact ea (bj e)
 simp only[lZ,fe,decide_eq_true_eq,eT]at b0;obtain⟨⟨r0,w0⟩,I0⟩:=b0;have H0:=vg v0 R;have j0:=rH (J:=J) d.names [] H0 #[av];have N0:=uF (J:=J) d.names []
 have R0:((fS J d.names []).map (·.1)).Nodup:=by
  rw[N0]
  have:∀(l:#[gy])(M:#[bw]),(l.map (·.1)++M).Nodup->(iJ l M).Nodup:=by intro l;induction l with
  |nil=>intro M h;show M.Nodup;simpa using h
  |cons q r Q=>
   intro M h;obtain⟨y0,F0⟩:=q;unfold iJ;split;.refine Q _ ?_;exact(CA (by simp only[dh,fA];exact MY.symm)).mp h
   .refine Q _ ?_;simp only[dh,fA]at h;exact(jn.mp h).2
  exact this _ _ (#[R])
 refine{scope:=Wy R d,kind:=C,jJ:=?_,nd:=by rw[WA];exact r0,glob:=R.glob,eX:=R.eX,gh:=R.gh.grow L k0,slt:=R.slt,ns:=#[as,s0,#[cX]],kU:=?_,len:=R.len,cX:=R.cX,store:=?_,code:=?_,nodup:=R.nodup,high:=R.high,dT:=?_,hR:=R.gh.1,cp:=?_,kb:=?_};.intro _ h;cases h
 .rcases pz e with h|⟨j,g,m0⟩;.simp at h
  .obtain⟨l0,q0,N,Y,g0⟩:=zr g;have M0:=Wz (j0:=S.sc) N;obtain⟨m,u,p0⟩:=R.ns;obtain⟨S0,X0,F,w⟩:=p0 j x m0;rw[Y]at F;cases F;have T0:(l0==#[kp])=ai:=by have:=I0 _ (bC N);simpa using this
   rcases w with⟨rfl,_⟩|⟨_,c,v,i0,⟨o,C0,G0⟩,E0⟩;.rcases g0 with h|h<;>cases h
   .have A0:l0∈#[f7].map (·.1):=by
     rw[N0]
     have:∀(l:#[gy])(M:#[bw]),(l0,jt)∈l\/l0∈M->l0∈iJ l M:=by intro l;induction l with
     |nil=>intro M h;rcases h with h|h;cases h;exact h
     |cons q r Q=>
      intro M h;obtain⟨y0,F0⟩:=q;unfold iJ;split
      .rename_i u0;refine Q _ ?_;rcases h with h|h
       .rcases bc.mp h with h|h;.cases h;exact .inr (.head _)
        .exact .inl h
       .exact .inr #[br,h]
      .rename_i u0;refine Q _ ?_;rcases h with h|h
       .rcases bc.mp h with h|h;.cases h;exact#[dm,u0]
        .exact .inl h
       .exact .inr h
     exact this _ _ (.inl (bC N))
    obtain⟨q,A,rfl⟩:=bI.mp A0;have p:=j0 q A;rw[p]at i0;cases i0;have U0:(ra d #[f7] s.heap.objs.size J).cells.lookup q.1=aa q.2:=oq R0 A;have Q0:∃c v,(ra d #[f7] s.heap.objs.size J).cells.lookup q.1=aa c/\c0.IsCell c (aa v)/\#[bn,x]:=⟨q.2,v,U0,#[aS,k0 _ _ C0,G0],E0⟩;by_cases f:(jt==jt&&S.sc.kind==.function&&S.sc.names.lookup q.1==aa .cell)=ae;.rw[if_pos f]at M0;exact⟨q.1,.cell,M0,.inr ⟨#[dn],Q0⟩⟩
    .rw[if_neg f]at M0;exact⟨q.1,.free,M0,.inr ⟨.inr #[aJ,T0],Q0⟩⟩
 .intro _ h;cases h
 .intro i a e0 I Z;obtain⟨o,N,a0⟩:=R.store i a e0 I Z;exact#[aS,k0 _ _ N,a0]
 .intro i a e0 I Z;have a0:=R.code i a e0 I Z;obtain⟨o,N,_⟩:=#[gw];cases e0 with|raw n0=>have:=kh (k:=0) Z;rw[t0]at this;cases this|rel n n0 d0=>exact gH.keep a0 (λo0 e=>by rw[k0 _ _ N]at e;cases e;exact N) λb o0 e _ _=>k0 _ _ e|hp n R P T d0 k=>exact hg.keep a0 k (λo0 e=>by rw[k0 _ _ N]at e;cases e;exact N) λb o0 e _ _=>k0 _ _ e|list X=>trivial|tup X=>trivial
 .exactλI=>#[g5,R.fT,I]
 .intro q A;have p:=mem_of_lookup (j0 q A);obtain⟨N,a0,g,v,o,E,h0⟩:=R.cp _ p;exact⟨N,λe=>absurd (bj E) (by rw[e];exact fk _),g,v,o,k0 _ _ E,h0⟩
 .have x0:=R.kb;rw[MW,th]at R0;refine Cz (R:=λx y=>x.1≠y.1) (λ{x y}z t f0 e=>f0 ?_) R0;have L0:=mem_of_lookup (j0 x z);have O0:=mem_of_lookup (j0 y t);exact Ei x0 L0 (by rw[e];exact O0)
theorem oB:∀(k:Nat)(a b:#[g]),ct k (a++b)=ct k a++ct (k+a.length) b|k,[],b=>#[p]|k,.raw _::r,b=>by have:=oB #[u] r b;simp only[fA,ct,cc,this];rw[show#[jW]by omega]|k,.list _::r,b=>by have:=oB #[u] r b;simp only[fA,ct,cc,this];rw[show#[jW]by omega]|k,.tup _::r,b=>by have:=oB #[u] r b;simp only[fA,ct,cc,this];rw[show#[jW]by omega]|k,.rel _ _ _::r,b=>by have:=oB #[u] r b;simp only[fA,ct,cc,this];rw[show#[jW]by omega]|k,.hp _ _ _ _ _ _::r,b=>by have:=oB #[u] r b;simp only[fA,ct,cc,this];rw[show#[jW]by omega]
def fg(B:Bs)(w:aD)(n:Nat)(S:Gm)(e:List aP)(U:#[o])(H:#[l])(b:Bool)(m0:#[l]):Prop:=#[m4,#[aM,forIn e ae λc r=>if r=ae then do
 let M<-tN c J (aU c J);av (lk M)else av (lk r)]]
theorem fg.nil:fg B w n S [] U H ae H:=#[c9,az,q s _ #[eq]]
theorem fg.one(h:#[bx,Et,a,t]):#[bx,fg,[a],t]:=λA J O s Q E g M q=>by rw[lq];refine#[bT,#[aA,h,λk0 G c=>az (az (q _ _ c))]]
structure aen(B:Bs)(S:Gm)(J:aN)(I:ao)(O:#[s])(U:#[o])(H:#[l])(s:fR)(j:#[s])(L:fR):Prop where
 pre:O<+:j
 new:#[ny,#[Q,a]]
 rel:#[dg,j,H,L.heap]
 fx:Fx B (I::eZ S J O) s L
theorem aen.step(P:aen B S J I O U H s j L)(R:aC B S J j d X L g e):aen B S J I O d X s g e:=⟨P.pre.trans R.pre,λa h=>#[mC,(R.new a h).elim],R.rel,P.fx.trans R.fx λy m=>(HD P.new y m).imp (λh=>.tail _ h) id⟩
theorem aen.other(P:aen B S J I O U H s j L)(u:L.heap.objs.size<=c0.objs.size)(k:#[di,b≠I,L.heap.get? b=aa o])(r:#[ap,I]/\I≠J.locals/\I∉j/\#[dQ,p.2≠I])(a:¬bt L.heap I):aen B S J I O U H s j {L with heap:=c0,toks:=p0}:=#[iP,P.rel.other u k r a,P.fx.trans (Fx.fU (X:=[I]) u λb o e Z=>#[jb,k]) λy m=>by rw[aY.mp m];exact .inl (.head _)]
theorem aen.trim(P:aen B S J I O U b0 s e d)(M:O.length<=L)(h:gQ S.fz L k U b0):∃g t,k U t/\aen B S J I O U t s g d/\(∀a∈g,a∈e)/\(∀i,i<L->g[i]?=e[i]?)/\(L<=e.length->L<=g.length):=by
 obtain h|⟨j,f,⟨N,a0,G⟩,h⟩:=h;.exact⟨_,_,h,P,λ_ h=>h,#[df],id⟩
 .refine⟨_,_,h,⟨?_,λa b=>?_,P.rel.take N a0 G,P.fx⟩,λa b=>eA b,λi c=>es (eo c f),λh=>by rw[bH];omega⟩;.obtain⟨v0,rfl⟩:=P.pre;rw[CR];rw[hY (aH M f)];simp
  .refine P.new a ?_;rw[xh]at b;exact eA b
structure EG(B:Bs)(J:aN)(O:#[s])(H:#[l])(h:bk):Prop where
 gh:GH B h
 len:O.length=H.length
 store:#[gU,#[da],H,∃o,#[cu]/\OR O o e0]
 code:#[gU,#[da],H,dG B J h a e0]
 nodup:O.Nodup
 high:∀a∈O,#[ap,a]
theorem aF.XJ(R:#[cC])(u:oX J.locals h c0):EG B J O H c0:=by
 obtain⟨m,f,_⟩:=R.ns;have n:∀a∈O,a≠J.locals:=λa I e=>R.dT (e▸I);refine⟨R.gh.one R.slt R.hR (jG f) #[gp,u] #[gi,u.2],R.len,λi a e0 I Z=>?_,λi a t I Z=>?_,R.nodup,R.high⟩;.obtain⟨o,N,a0⟩:=#[gw];exact#[ko,(u.2 a (n a (bC I)))]
 .exact(R.code i a _ I Z).keep (λo e=>(u.2 a (n a (bC I))).symm.trans e) λb o e X _=>(u.2 b λw=>jG f (w▸X)).trans e
theorem SX(M:#[ah])(P:#[aV,o0,C,A])(p0:Fx B X A d)(g0:∀x∈X,x∈C.drop S.fz\/#[Q,x])(e0:C<+:t)(L:∀a∈t.drop S.fz,a∈C.drop S.fz\/A.heap.objs.size<=a)(Q:EG B j0 t m0 d.heap)(r0:S.fz<=t.length)(w:#[jv,j0.cells]):#[aV,m0,t,d]:=by
 have n:∀x∈C.drop _,x∈eZ _ J _\/#[Q,x]:=λx z=>(P.new x z).imp ou id;have R:=P.rel
 have d0:∀a∈t,a∈C\/A.heap.objs.size<=a:=λa I=>by
  by_cases n:a∈t.drop S.fz;.exact(L a n).imp eU id
  .have c0:=by have:=hF S.fz t;rw[<-this]at I;exact(cK.mp I).resolve_right n
   obtain⟨v0,rfl⟩:=e0;rw[ls R.cX]at c0;exact .inl (eA c0)
 have b0:∀a,a∉C->a<s.heap.objs.size->a∉X:=λa N a0 h=>(g0 a h).elim (λq=>N (eU q)) λq=>bK.mpr q a0;have h0:#[iG]:=λb Z n0=>#[a9,R.lb b n0,Z];have i0:#[dQ,∀v,A.heap.IsCell _ v->d.heap.IsCell _ v]:=λp l v⟨o,N,a0⟩=>#[aS,p0.keep _ _ N (b0 _ (R.cp p l).1 (M.ji p l)) (h0 _ (R.cp p l).2.2.1),a0];refine⟨P.pre.trans e0,λa I=>#[mC,(L a I).elim],?_,(P.fx.trans p0 λy j=>(g0 y j).elim (n y) .inr)⟩;refine{R with gh:=Q.gh,ns:=?_,len:=Q.len,cX:=r0,store:=Q.store,code:=λi a q0 I Z=>?_,nodup:=Q.nodup,high:=Q.high,dT:=λI=>?_,cp:=λp l=>?_}
 .obtain⟨m,k,T⟩:=R.ns;refine⟨m,k.at' λo e=>p0.keep _ o e (b0 _ R.dT M.jj) (h0 _ R.hR),#[cX]⟩;obtain⟨l0,Y,N,a0⟩:=T i x e;refine#[aC,_,N,?_];obtain⟨q,v,F,r⟩|⟨q,c,v,F,u,r⟩:=a0;.exact#[dI,q,v,F,r.pre e0]
  .exact#[l3,i0,u,r.pre e0]
 .exact(Q.code i a _ I Z).env λf o k0 g f0=>by obtain⟨N,a0⟩:=f o _ g f0;exact⟨N,λp l=>w _ (mem_of_lookup (a0 p l))⟩
 .obtain h|h:=d0 _ I;.exact R.dT h
  .exact#[a9,R.jj,h]
 .obtain⟨N,a0,G,v,E⟩:=R.cp p l;refine⟨λI=>?_,a0,G,v,i0 p l v E⟩;obtain h|h:=d0 _ I;.exact N h
  .exact#[a9,R.ji p l,h]
def Co(B:Bs)(w:aD)(n:Nat)(S:Gm)(e:aP)(U:#[o])(H:#[l])(X:#[D])(C:#[eR])(b0:#[l])(A:aR)(J:aN)(O:#[s])(s:fR):Prop:=∀(Q E:#[E]),(#[mj,C])->#[nK]
def nr(N:Nat)(B:Bs)(w:aD)(n:Nat)(S:Gm)(e:aP)(U:#[o])(H:#[l])(X:#[D])(C:#[eR])(b0:#[l]):Prop:=∀(A:aR)(J:aN)(O:#[s])(s:fR),N<=s.toks->#[bk]->#[ah]->Co B w n S e U H X C b0 A J O s
def dY(N:Nat)(B:Bs)(w:aD)(n:Nat)(S:Gm)(c:#[y])(U:#[o])(H:#[l])(h0:#[ay]):Prop:=∀(A:aR)(J:aN)(O:#[s])(s:fR)(Q:#[aG,hM])(E:#[E]),N<=s.toks->#[bk]->#[ah]->(#[mx])->#[aM,fQ c J]
theorem dY.of{c:#[g]}(h:#[hs,c]):dY N B w n S c U H h0:=λA J O s Q E _ g M q=>h A _ _ s Q E g M q
theorem aj.vM{c:#[g]}(h:dY 0 B w n S c U H h0):#[hs,c]:=λA J O s Q E g M q=>h A _ _ s Q E #[aB] g M q
theorem cg.N(h:#[i1,d])(N:Nat):nr N B w n S d U H X C b0:=λA J O s _ g M Q E q=>h A _ _ s Q E g M q
theorem FZ(F:#[w]){u1 l1:aP}{x:aq}{M1:aZ}{s1:List aP}{d:bq}{z1:bq}{X:#[D]}{C:#[eR]}{c:Nat->#[D]->#[f5]}{r:Nat}(i:Nat){G:#[jo]}(g1:ft d S.sc=z1)(L0:lZ d=ae)(Y:#[h5])(p1:#[eX])(L1:#[hI])(j1:#[ci,b0])(h0:cP U G []=T)(u0:#[fT])(R:#[I,z1.names,(x,.local)])(I0:#[bp])(M0:#[my])(y0:#[ne])(t1:#[nx,∃b A0,#[np,z1,s1,A0,∃y N0,#[mW,z1,u1,A0,N0,N0,N0.set],A0]])(k1:#[nd])(F1:#[gF,l1]){A:aR}{s:fR}{Q E:#[E]}{I2:Option (af->dw Unit)}{b3:aZ}(l:#[bk])(M:#[ah])(R0:Co B w n S l1 U H X C b0 A J O s)(Z0:∀T1 f r0 N1,#[aV,m0,r0,N1]->VR r0 #[cb] (.ob r)->(∃m,N1.heap.Ns T1 m)->#[Q,T1]->T1∉r0->compPost #[aH] A E I2 Q #[cb] T1 (.ok .next) N1):#[aM,comprehension #[gY,u1,M1,l1,s1] d J b3 (newList []) ai (aU l1 J) I2]:=by
 subst g1 u0 h0;have x2:=L0;simp only[lZ,fe,decide_eq_true_eq,eT]at x2;obtain⟨⟨f1,q1⟩,C1⟩:=x2;have k3:=FT (J:=J) (d:=d) (vg p1 M);have T0:=rH (J:=J) d.names [] (vg p1 M) #[av];refine wpAny_comprehension_free (g:=⟨.Name x M1,l1,s1,0⟩) (gs:=[]) rfl (λx=>F1 x J) k3 Y (λy j0 e0=>?_) (R0 _ E λI s0 k0 G0 f0 n1 d2 f2 A2=>?_);.obtain⟨j,t0⟩:=gK.mp j0;obtain⟨l0,e1⟩:=y;cases e0;exact lV f1 t0
 refine jA ?_ (by show 0<=aB;exact aT _);have w0:#[hU,G0,b0++[#[d2]],k0,#[fd],k0,k0.heap.push #[aR,"list",.seq,([]:#[L]).toArray]]:=aC.push (t:=k0.toks) f0.rel rfl ⟨#[],0,rfl,.nil⟩;have N2:I<k0.heap.objs.size:=by obtain⟨o,N⟩:=n1.live _ _ _ d2;exact bj N
 generalize R1:({k0 with heap:=k0.heap.push #[aR,"list",.seq,([]:#[L]).toArray]}:fR)=A0 at*;have v1:A0.heap.objs.size=k0.heap.objs.size+1:=by rw[<-R1];exact cH ..
 have B1:#[eD,k0.heap.get?,A0.heap.get?]:=λb o e=>by rw[<-R1];exact bM _ e
 have n3:#[ci,b0++[#[d2]]]:=by rw[oB,j1];rfl
 have m2:s0 0 #[fd] A0.heap:=#[i0,d2,λi R=>by rw[cG (by rw[f0.rel.len];exact R)],B1 I o e];refine Ez (λy j0=>?_) #[av] (λc0 h1 b2=>?_) Y;.have:=q1 y j0;intro e;rw[e]at this;cases this
 have G2:c0.objs.size=A0.heap.objs.size+1:=by rw[b2.1,cH]
 have U0:#[it,A0.heap.get?]:=λb o e=>b2.extBut b o (cz (bj e)) (bM _ e);have u2:=Rw (c0:=c0) w0.rel L0 Y p1 L1 n3 h1 U0;generalize h2:({A0 with heap:=c0,toks:=A0.toks+([]:List (aq×af)).length}:fR)=m1;have u2:aF B #[fl] (ra d #[f7] A0.heap.objs.size J) #[fd] (cP U G []) (b0++[#[d2]]) m1.heap:=by rw[<-h2];exact u2
 have U2:A0.heap.objs.size<=m1.heap.objs.size:=by rw[<-h2];show _<=c0.objs.size;omega
 have X2:#[eD,A0.heap.get?,m1.heap.get?]:=by rw[<-h2];exact U0
 have E2:m1.os=A0.os/\m1.drawn=A0.drawn/\m1.gens=A0.gens:=by rw[<-h2];exact#[b9]
 have s2:s0 0 #[fd] m1.heap:=#[i0,m2,#[ai],X2 I o e];have e3:I≠A0.heap.objs.size:=cz (eo N2 (by rw[v1];exact du _));have y2:G0.length=b0.length:=f0.rel.len;have r1:#[fd][b0.length]?=aa k0.heap.objs.size:=by rw[<-y2];simp
 have h3:I∉G0++[k0.heap.objs.size]:=λo0=>by
  rcases cK.mp o0 with h|h;.exact A2 h
  .exact absurd (aY.mp h) (cz N2)
 have w1:S.fz<=b0.length:=by rw[<-y2];exact f0.rel.cX
 have E0:#[ap,I]:=aH M.gh.1 f2;have Y1:∀q∈(ra d #[f7] A0.heap.objs.size J).cells,q.2≠I:=λq x0 e=>by have e0:=mem_of_lookup (T0 q x0);have:=M.ji _ e0;exact#[a9,(e▸this:I<s.heap.objs.size),f2]
 generalize C2:ra d #[f7] A0.heap.objs.size J=A1 at*;have q2:A1.locals=A0.heap.objs.size:=by rw[<-C2];rfl
 have j3:#[jv,A1.cells]:=by rw[<-C2];exact T0
 have m3:eZ #[fl] A1 #[fd]=A1.locals::#[fd].drop S.fz:=by unfold eZ;congr 1;rw[CE.mpr (λp _=>by simp)];rfl
 have t2:jv #[aH] A (.compLoop #[gY,u1,M1,l1,s1] 0 #[K,I] #[K,k0.heap.objs.size] A1) (compPost #[aH] A E I2 Q #[K,k0.heap.objs.size] A0.heap.objs.size) m1:=by
  refine codeAny_compLoop_tests (λm L=>∃k q0 v t r0,m=X.length+1-k/\k<=X.length/\c k q0 v t/\aen B #[fl] A1 I #[fd] v t m1 r0 L/\s0 k r0 L.heap/\I∉r0/\b0.length+1<=r0.length) ?_ (X.length+1) ⟨0,[],_,_,_,rfl,aT _,M0 u2.below,#[g1,u2,.refl _ _],s2,h3,by simp[y2]⟩;rintro m L⟨k,q0,v,t,r0,rfl,c1,J1,P,a1,O1,g2⟩;obtain⟨Y0,G1,c2,e2⟩:=y0 k q0 v t J1;have Z1:I≠A1.locals:=by rw[q2];exact e3
  by_cases Q0:k<X.length
  .refine eR (n1.next k X[k] A _ _ r0 v t L _ _ (bB Q0) a1 Y0 l P.rel λu a0 p0 C0 r2 a2 F0=>?_);have d1:=P.other (p0:=p0) F0 a2 ⟨E0,Z1,O1,Y1⟩ (n1.hx _ _ _ a1);refine jW (aF.gY d1.rel R #[a0] G1 C0 λX1 x1=>?_);have Z2:=d1.step x1;have O2:I∉eZ #[fl] A1 r0:=mV Z1 Y1 O1;have l2:#[al,I]:=λn0=>#[a9,P.rel.lb I n0,E0];have Q2:s0 #[u] r0 X1.heap:=#[i0,r2,#[ai],x1.fx.keep I o e O2 l2];obtain⟨b,b1,Z,J0⟩:=t1 k X[k] q0 v t (bB Q0) J1 P.rel.below (P.rel.len▸C0.below);refine Z A A1 r0 X1 _ _ l x1.rel λi2 k2 I1=>?_;have J2:=Z2.step I1;have z2:I∉k2:=vL I1 x1.rel.cX O1 (n1.live _ _ _ Q2);have B2:s0 #[u] k2 i2.heap:=#[i0,Q2,λi R=>by obtain⟨v0,rfl⟩:=I1.pre;exact#[G,cG],I1.fx.keep I o e O2 l2];have P2:b0.length+1<=k2.length:=aH g2 I1.pre.length_le;have p2:∀{j2 H2 P1 H1},gQ S.fz (b0.length+1) (c #[u] j2) #[eQ,X[k]] H2->aen B #[fl] A1 I #[fd] #[eQ,X[k]] H2 m1 P1 H1->s0 #[u] P1 H1.heap->I∉P1->b0.length+1<=P1.length->∃m,m<X.length+1-k/\∃k q0 v t r0,m=X.length+1-k/\k<=X.length/\c k q0 v t/\aen B #[fl] A1 I #[fd] v t m1 r0 H1/\s0 k r0 H1.heap/\I∉r0/\b0.length+1<=r0.length:=λ{j2 H2 P1 H1}F2 Q1 w2 v2 i3=>by obtain⟨Y2,q3,H0,O0,X0,i1,y1⟩:=Q1.trim (L:=b0.length+1) (by simp[y2]) F2;exact⟨X.length+1-#[u],by omega,k+1,j2,_,q3,Y2,rfl,Q0,H0,O0,n1.mono _ _ _ _ _ w2 (λi R=>i1 i #[f]) (λ_ e=>e),λh=>v2 (X0 _ h),y1 i3⟩
   cases b with|false=>simp only[fX,if_false]at J0⊢;exact p2 J0 J2 B2 z2 P2|true=>simp only[if_true]at J0⊢;obtain⟨y,E1,l3,T2,F2⟩:=J0;refine l3 A A1 k2 i2 _ _ l I1.rel λs3 H1 P1 Q1 o3=>?_;have L2:=J2.step Q1;have f3:I∉eZ #[fl] A1 k2:=mV Z1 Y1 z2;have w2:s0 #[u] P1 H1.heap:=#[i0,B2,λi R=>by obtain⟨v0,rfl⟩:=Q1.pre;exact#[G,cG],Q1.fx.keep I o e f3 l2];have v2:I∉P1:=vL Q1 I1.rel.cX z2 (n1.live _ _ _ B2);have n2:VR P1 #[K,k0.heap.objs.size] (.ob b0.length):=#[M,gU L2.pre r1];refine(Cl.append (S:=#[fl]) (n:=n) (U:=v.set i (aa X[k])) T2 w1 #[f] rfl) A A1 P1 _ H1 _ _ l Q1.rel (.cons n2 #[aY,o3]) λS0 r3 Y2 o2 _=>?_;have g3:I∉eZ #[fl] A1 P1:=mV Z1 Y1 v2;have a3:=L2.step o2;exact p2 F2 a3 (#[i0,w2,λi R=>by obtain⟨v0,rfl⟩:=o2.pre;exact cG (by have:=Q1.pre.length_le;omega),o2.fx.keep I o e g3 l2]) (vL o2 Q1.rel.cX v2 (n1.live _ _ _ w2)) (aH P2 (aH Q1.pre.length_le o2.pre.length_le))
  .have o1:k=X.length:=by omega
   subst o1;have U1:=k1 q0 v t J1;subst U1;refine eR (n1.done A _ _ r0 v t L _ _ a1 Y0 l P.rel λa0 p0 a2 F0=>?_);have d1:=P.other (p0:=p0) F0 a2 ⟨E0,Z1,O1,Y1⟩ (n1.hx _ _ _ a1);obtain⟨p3,R2,_⟩:=d1.rel.ns;rw[q2]at R2;have c3:Fx B (I::eZ #[fl] A1 #[fd]) A0 m1:=⟨E2.1,E2.2.1,by rw[E2.2.2];exact .refl _,U2,λb o e _ _=>X2 b o e⟩;have d3:=c3.trans d1.fx λy j0=>.inl j0;have M2:#[Q,A1.locals]:=by rw[q2,v1];exact eI f0.fx.size
   refine Z0 _ _ r0 _ (SX M (f0.trans w0) d3 (λy j0=>?_) d1.pre (λa g=>(d1.new a g).imp id (aH U2)) (d1.rel.XJ (.refl ..)) d1.rel.cX j3) #[M,gU d1.pre r1] ⟨p3,R2⟩ (q2▸M2) (q2▸d1.rel.dT);rcases bc.mp j0 with rfl|j0;.exact .inr f2
   .rw[m3]at j0;rcases bc.mp j0 with rfl|j0;.exact .inr M2
    .exact .inl j0
 rw[<-C2]at t2;exact codeAny_compStart_list t2 (n1.self 0 _ A m1 _ _ l.handled s2 t2)
theorem Ev.comp(F:#[w]){c:Nat->#[D]->#[f5]}(i:Nat)(L:#[i1,j0])(e0:ft d S.sc=r0)(u:lZ d=ae)(f:#[h5])(k0:#[eX])(u0:#[hI])(f0:#[ci,b0])(h:cP U G []=T)(Y:#[fT])(a:#[I,r0.names,(x,.local)])(p:#[bp])(I:#[my])(R:#[ne])(o0:#[nx,∃b t,#[np,r0,n0,t,∃y N,#[mW,r0,p0,t,N,N,N.set],t]])(h0:#[nd])(t0:#[gF,j0]):#[aF,#[gY,p0,v0,j0,n0],.ob r,m0]:=λA J O s Q E g M q=>by refine FZ F i e0 u f k0 u0 f0 h Y a p I R o0 h0 t0 g M (λQ E q=>L A J O s Q E g M q) λx0 D l w0 P l0⟨m,j⟩y0 A0=>⟨m,j,λc0 a0=>?_⟩;have s0:=mG M y0;exact#[aE,P.other #[gp,a0] (#[gi,a0.2]) ⟨s0.1,A0,s0.2.1⟩ y0 s0.2.2 (jG j),l0]
theorem dY.KH{N:Nat}(F:#[w]){I0 C0:aP}{x:aq}{Y0:aZ}{G0:List aP}{d:bq}{M0:bq}{X:#[D]}{C:#[eR]}{c:Nat->#[D]->#[f5]}{r:Nat}(i:Nat){G:#[jo]}(o0:nr N B w n S C0 U H X C b0)(v0:ft d S.sc=M0)(f0:lZ d=ae)(p:#[h5])(E0:#[eX])(X0:#[hI])(y0:#[ci,b0])(q:cP U G []=T)(Y:#[fT])(h:#[I,M0.names,(x,.local)])(e0:#[bp])(j0:#[my])(R:#[ne])(H0:#[nx,∃b I,#[np,M0,G0,I,∃y k0,#[mW,M0,I0,I,k0,k0,k0.set],I]])(A0:#[nd])(R0:#[gF,C0]){l0:aq}{L i1:aZ}(j:Nat)(N0:#[f1,jz #[gY,I0,Y0,C0,G0] (aa (.Name l0 L)) i1.line J=av ae])(d1:#[ex,l0,.local])(O0:#[gB])(f1:U.set j (aa (.ob r))=x0)(S0:dY N B w n S l x0 m0 h0):dY N B w n S (.Assign [.Name l0 L] #[gY,I0,Y0,C0,G0] i1::l) U H h0:=by subst f1;intro A J O s k1 j1 p0 g M J0;refine lN (kP p0 ?_);rw[exec_Assign_Name_used _ _ _ _ (N0 J M.scope)];refine ag (dI (ag ?_));refine ag (dk (FZ F (Q:=λ_ a=>N<=a.toks->aw #[aH] A (fQ l J) k1 j1 a) (c:=c) i v0 f0 p E0 X0 y0 q Y h e0 j0 R H0 A0 R0 g M (o0 A J O s p0 g M) λc1 D u Z0 P F0 w0 g1 h1=>?_) (λ_ a E=>az (az E)) λ_ _ e=>e);obtain⟨m,t⟩:=w0;refine jW (aF.gY P.rel d1 #[a0] O0 F0 λe1 L0=>?_);have Q0:=mG M g1;have m1:c1∉eZ S J u:=mV Q0.1 Q0.2.1 h1;have s0:#[al,c1]:=λn0=>#[a9,M.lb c1 n0,Q0.2.2];have l1:e1.heap.Ns c1 m:=t.at' λo e=>L0.fx.keep c1 o e m1 s0;refine⟨m,l1,λc0 t0=>?_⟩;intro n1;have U0:=(P.trans L0).other (t:=e1.toks) #[gp,t0] (#[gi,t0.2]) ⟨Q0.1,h1,Q0.2.1⟩ g1 Q0.2.2 (jG l1);exact S0 A J u _ k1 j1 n1 g U0.rel λo a0 r0 f T0 a1 u0 b1 Q=>J0 o a0 r0 f T0 a1 u0 (U0.trans b1) Q
end
theorem GB(Y:#[be])(k:Nat):(Y.eraseIdxIfInBounds k).toList=Y.toList.eraseIdx k:=#[z]
theorem aM.eraseIdx{l:List O}{m:List d}(x:aM R l m):∀(i:Nat),aM R (l.eraseIdx i) (m.eraseIdx i):=by induction x with|nil=>intro i;exact .nil|cons e h Q=>intro i;cases i with|zero=>exact h|succ i=>exact .cons e (Q i)
theorem EU:∀{l:#[g]}{m:#[g]},l.length=m.length->(∀(j:Nat)(a:O)(b:d),#[aW,l,a]->#[aW,m,b]->R a b)->aM R l m|[],[],_,_=>.nil|a::l,b::m,h,k=>.cons (k 0 a b rfl rfl) (EU (by simpa using h) λj x y z c=>k (j+1) x y (by simpa using z) (by simpa using c))
theorem BM{x y:aq}{a b:Tx}(z:x.cps.toList=a)(m:y.cps.toList=b)(t u:fP):MeetsSeq.EqGives (.str x t) (.str y u) (a==b):=by subst z m;exact aco x y t u
section
variable{B:Bs}{w:aD}{n m:Nat}{S:Gm}{d0 g0:#[n]}{U x0 T:#[o]}{H b0 o0 w0 m0:#[l]}{i0 y0 p:aZ}{J:aN}{O:#[s]}{l:#[y]}{h0:#[ay]}{a b c o:aP}
theorem Cl.mW(h:#[bR])(a:S.fz<=i)(R:#[bp])(C:X[k]?=aa v)(r:k<2^62)(m:X.eraseIdx k=q0)(Z:H.set i #[cr,q0]=m0):#[gx,"list.pop",[.ob i,.int (k:Nat)],v]:=λA J O l s Q E g M T q=>by subst m Z;cases T with
|cons N a0=>cases a0 with
|cons a0 G=>
 cases G;obtain⟨b,Y,F,rfl,P,p,z⟩:=M.list N h;obtain⟨t,rfl⟩:=a0;obtain⟨u,e,j⟩:=z.at C;have d:0<=(k:Int):=by omega
 have c:=Ec d #[f];have f:=hU (by rw[z.size];exact#[U,C]:k<Y.size);generalize(k:Int)=x at c f d⊢;refine kD ya #[M,p] DC (ZP _ _) (MeetsSeq.list_pop_at _ _ _ x t k u c f e #[ku]) ⟨p,(#[aE,aC.list (t:=s.toks) M P a p (by rw[GB];exact z.eraseIdx k),j])⟩
theorem Cl.aeb(h:#[bR])(a:S.fz<=i)(R:#[bp])(C:X[X.length-1]?=aa v)(m:X.eraseIdx (X.length-1)=q0)(Z:H.set i #[cr,q0]=m0):#[gx,"list.pop",[.ob i],v]:=λA J O l s Q E g M T q=>by subst m Z;cases T with|cons N a0=>cases a0;obtain⟨b,Y,F,rfl,P,p,z⟩:=M.list N h;obtain⟨u,e,j⟩:=z.at C;rw[<-z.size]at e;refine kD ya #[M,p] DC (ZO _) (MeetsSeq.list_pop_last _ _ _ u e #[ku]) ⟨p,(#[aE,aC.list (t:=s.toks) M P a p (by rw[GB,z.size];exact z.eraseIdx _),j])⟩
theorem Cl.vp(h:#[bR])(o:X=ah f0)(R:X.length<2^62)(b:f0.findIdx? (·==t)=aa j):#[fM,"list.index",[.ob i,.str t],#[T,j]]:=λA J O l s Q E g M T q=>by subst o;cases T with
|cons N a0=>cases a0 with
|cons a0 G=>
 cases G;obtain⟨C,Y,k,rfl,P,p,z⟩:=M.list N h;obtain⟨y,u,rfl,a⟩:=a0;obtain⟨Z,c,r⟩:=MG.mp b;have I:Y.size=f0.length:=by rw[z.size];simp[ah]
 have d0:(j:Int)<2^63-1:=by
  have:=by simpa[ah]using R
  omega
 let e:af->Bool:=λv=>match v with|.str x _=>x.cps.toList==t|_=>ai
 have c0:∀m(f:m<Y.size),∃x L,Y[m]=.str x L/\x.cps.toList=f0[m]'(I▸f):=λm f=>by
  have:(ah f0)[m]?=aa (.str (f0[m]'(I▸f))):=by simp[ah]
  obtain⟨L,b0,x,F0,rfl,g0⟩:=z.at this;rw[qp f]at b0;exact⟨x,F0,by simpa using b0,g0⟩
 refine kD OG #[M,p] ZZ (ZM _ _) (MeetsSeq.list_index C Y k (.str y u) e (λv T=>?_) j (by rw[I];exact Z) d0 ?_ λm f e0=>?_) #[a4,p];.obtain⟨m,f,rfl⟩:=Array.mem_iff_getElem.mp T;obtain⟨x,L,F,d⟩:=c0 m _;rw[F];exact BM rfl a _ _
 .obtain⟨x,L,F,d⟩:=c0 j _;rw[F];show(x.cps.toList==t)=ae;rw[d];exact c
 .obtain⟨x,L,F,d⟩:=c0 m _;rw[F];show(x.cps.toList==t)=ai;rw[d];have:=r m e0;simpa using this
 .exact#[fI,#[aU]]
theorem Cl.IG(R:#[fU])(m:(t.map λc=>#[dP])=q0)(Y:H.length=r)(Z:#[ef,H]):#[cg,bW,.type "list",[.str t],.ob r,m0]:=λA J O l s Q E g M T q=>by subst m Y Z;cases T with
|cons N a0=>
 cases a0;obtain⟨x,k,rfl,z⟩:=N;have a:x.cps.size=t.length:=by rw[<-z,gG]
 refine eR (call_list_str g.handled x k (λc0 p0 f d C b e I=>?_) (by rw[a];exact R));refine#[nH,aC.alloc M I C #[aO] ⟨_,b,f,d,rfl,?_⟩ #[av]];refine EU (by rw[gG,e.1,a,aQ]) λj v y T m=>?_;rw[jM]at T;obtain⟨c,u,G,rfl⟩:=e.2 j v T;rw[cb,<-z,jM,G]at m;cases m;exact#[cS,u]
theorem Cl.IF(h:#[bR])(R:#[bp])(a:H.length=r)(Z:H++[.list X]=m0):#[cg,bW,.type "list",[.ob i],.ob r,m0]:=λA J O l s Q E g M T q=>by subst a Z;cases T with|cons N a0=>cases a0;obtain⟨c,Y,F,rfl,P,p,z⟩:=M.list N h;refine eR (call_list_seq _ #[a0] p rfl rfl (λc0 y C b I=>(#[kj,aC.alloc M I C #[aO] ⟨_,b,_,_,rfl,z.mono #[ig]⟩ #[av]])) #[ku])
end
theorem UM{a b c:Tx}(h:a<b)(k:b<=c):a<c:=by
 by_cases X:a<c;.exact X
 .exact absurd (MT #[f] h) #[f]
theorem Fv(f:#[cU]):∀k j,j<=k->f (iW (#[fs,f i,f j]) k)<=f j
 |0,j,h=>by
  have:j=0:=by omega
  subst this;exact xl _
 |k+1,j,h=>by
  have Q:=Fv f k;unfold iW;by_cases X:f (k+1)<f (iW (#[fs,f i,f j]) k)
  .rw[if_pos (by simpa using X)];obtain b|b:=gd j #[u];.exact MS (UM X (Q j #[f]))
   .have:j=k+1:=by omega
    subst this;exact xl _
  .rw[#[bK,by simpa using X]];obtain b|b:=gd j #[u];.exact Q j #[f]
   .have:j=k+1:=by omega
    simp_all
theorem Fu(f:#[cU]):∀k j,j<=k->f j<=f (iW (#[fs,f j,f i]) k)
 |0,j,h=>by
  have:j=0:=by omega
  subst this;exact xl _
 |k+1,j,h=>by
  have Q:=Fu f k;unfold iW;by_cases X:f (iW (#[fs,f j,f i]) k)<f (k+1)
  .rw[if_pos (by simpa using X)];obtain b|b:=gd j #[u];.exact MS (MT (Q j #[f]) X)
   .have:j=k+1:=by omega
    subst this;exact xl _
  .rw[#[bK,by simpa using X]];obtain b|b:=gd j #[u];.exact Q j #[f]
   .have:j=k+1:=by omega
    simp_all
theorem ze(b:Nat->Nat->Bool):∀k,iW b k<=k|0=>aO _|k+1=>by unfold iW;split;exact aO _;exact eI (ze _ k)
section
variable{B:Bs}{w:aD}{n m:Nat}{S:Gm}{d0 g0:#[n]}{U x0 T:#[o]}{H b0 o0 w0 m0:#[l]}{i0 y0 p:aZ}{J:aN}{O:#[s]}{l:#[y]}{h0:#[ay]}{a b c o:aP}
theorem qi{Y:#[bE]}(z:#[a6,Y.toList,ah f0]){i:Nat}(h:#[I,Y,v]):∃x u,v=.str x u/\x.cps.toList=f0.getD i []:=by rw[<-jM]at h;obtain⟨y,m,a⟩:=z.get' h;unfold ah at m;rw[cb]at m;obtain⟨t,n0,rfl⟩:=dP.mp m;obtain⟨x,u,rfl,e⟩:=a;exact⟨x,u,rfl,#[R]⟩
theorem Ih{s:fR}{l:ao}(R:s.heap.IsList l d)(h:∀k:fR,k={s with heap:=#[d3,s.heap.push,"list_iterator",#[.ref l,.int 0 0]]}->(k.heap.IsListIter s.heap.objs.size l 0/\k.heap.IsList l d)->(∀b∈[s.heap.objs.size,l],b<k.heap.objs.size)->#[bN,s.heap.objs.size,k]):#[aM,#[ct,kH,l]]:=by
 refine rm R (h _ rfl ⟨#[cS,#[aT]],R.push _⟩ (λb Z=>?_));rw[cH];obtain rfl|Z:=bc.mp Z;.exact hG _
 .rw[aY.mp Z];exact kq (by obtain⟨_,e,_⟩:=R;exact bj e)
theorem Il{s:fR}{c0:bk}(C:#[di,b∉[s.heap.objs.size],(s.heap.push d).get? b=aa o]):#[fg]:=λb o e=>by refine C b o (λf=>(absurd ((aY.mp f)▸bj e) (fk _))) (bM _ e)
theorem Cl.Jk{i:Nat}{f0:#[bz]}{X:#[D]}{t:Tx}(h:#[bR])(L:X=ah f0)(f:t∈f0)(d0:∀x∈f0,t<=x):#[fM,"min",[.ob i],#[bo]]:=λA J O l s Q E g a T q=>by subst L;cases T with
|cons N a0=>
 cases a0;obtain⟨R,Y,m,rfl,P,p,z⟩:=a.list N h;have I:Y.size=f0.length:=by rw[z.size];simp[ah]
 refine eR (call_min_walk (Ih (d:=Y) #[a8,p,m] λg0 e C l0=>?_));subst e;have M:=DU (prog:=P0) (w:=w) (A:=A.in1) g.handled s.heap.objs.size R (cz (bj p)) Y;have k0:0<Y.size:=by rw[I];exact CI f
 refine⟨_,_,_,_,_,_,#[fs,#[ez],#[fj]],rfl,M,C,l0,k0,λi j i0 b0 s Q E P k h=>?_,λv c0 p0 G c m0=>?_⟩;.obtain⟨x,t,rfl,F⟩:=qi z P;obtain⟨y,u,rfl,d⟩:=qi z k;refine PC (T:="str") (iE s x t) (iE s y u) abg aah (ZV _ _) (PySem.gives_str_lt x y t u) (by unfold OT;first|trivial|exact .bool _|simp) ?_;show Q _ s;rw[F,d];exact h
 .have j0:Y[iW (#[fs,#[ez],#[fj]]) #[gP]]?=aa v:=G;obtain⟨x,u,rfl,F⟩:=qi z j0;have h0:#[fg]:=λb o e=>Il c b o e;refine q _ _ O (aC.heap (t:=p0) a m0 h0) #[bM,x,u,rfl];rw[F];have r:=ze (#[fs,#[ez],#[fj]]) #[gP];have Z:∀x∈f0,#[k1,#[ez],#[fj]]<=x:=λx z=>by obtain⟨j,k,rfl⟩:=CL.mp z;have:=Fv (λi=>#[ez]) #[gP] j #[f];rw[dO (i:=j),bB k]at this;exact this
  have e0:#[k1,#[ez],#[fj]]∈f0:=by rw[dO,#[G,bB]];exact jQ _
  exact MR (Z t f) (d0 _ e0)
theorem Cl.Jf{i:Nat}{f0:#[bz]}{X:#[D]}{t:Tx}(h:#[bR])(L:X=ah f0)(f:t∈f0)(d0:∀x∈f0,x<=t):#[fM,"max",[.ob i],#[bo]]:=λA J O l s Q E g a T q=>by subst L;cases T with
|cons N a0=>
 cases a0;obtain⟨R,Y,m,rfl,P,p,z⟩:=a.list N h;have I:Y.size=f0.length:=by rw[z.size];simp[ah]
 refine eR (call_max_walk (Ih (d:=Y) #[a8,p,m] λg0 e C l0=>?_));subst e;have M:=DU (prog:=P0) (w:=w) (A:=A.in1) g.handled s.heap.objs.size R (cz (bj p)) Y;have k0:0<Y.size:=by rw[I];exact CI f
 refine⟨_,_,_,_,_,_,#[fs,#[fj],#[ez]],rfl,M,C,l0,k0,λi j i0 b0 s Q E P k h=>?_,λv c0 p0 G c m0=>?_⟩
 .obtain⟨x,t,rfl,F⟩:=qi z P;obtain⟨y,u,rfl,d⟩:=qi z k;refine PC (T:="str") (iE s x t) (iE s y u) abf aaf (ZT _ _) (PySem.gives_str_gt x y t u) (by unfold OT;first|trivial|exact .bool _|simp) ?_;show Q _ s;have:(decide (y.cps.toList<x.cps.toList))=decide (#[fj]<#[ez]):=by rw[F,d]
  rw[this];exact h
 .have j0:Y[iW (#[fs,#[fj],#[ez]]) #[gP]]?=aa v:=G;obtain⟨x,u,rfl,F⟩:=qi z j0;have h0:#[fg]:=λb o e=>Il c b o e;refine q _ _ O (aC.heap (t:=p0) a m0 h0) #[bM,x,u,rfl];rw[F];have r:=ze (#[fs,#[fj],#[ez]]) #[gP];have Z:∀x∈f0,x<=#[k1,#[fj],#[ez]]:=λx z=>by obtain⟨j,k,rfl⟩:=CL.mp z;have:=Fu (λi=>#[ez]) #[gP] j #[f];rw[dO (i:=j),bB k]at this;exact this
  have e0:#[k1,#[fj],#[ez]]∈f0:=by rw[dO,#[G,bB]];exact jQ _
  exact MR (d0 _ e0) (Z t f)
theorem Cl.Jd(Y:max x y=r):#[fM,"max",[.int (x:Nat),.int y],#[T,r]]:=λA J O l s Q E g M T q=>by subst Y;cases T with
|cons N a0=>cases a0 with
|cons a0 G=>
 cases G;obtain⟨t,rfl⟩:=N;obtain⟨u,rfl⟩:=a0;refine eR (max_two_ints g.handled λc0 p0 C I=>#[aE,aC.heap M I C,?_]);split;.exact⟨u,by rw[#[G,xC]]⟩
 .exact⟨t,by rw[#[G,xB]]⟩
theorem St.HN{L:#[g]}{X:#[D]}(h:#[bR])(b:X=L.map V.int):#[jK,.In,#[T,k],#[ce],(.bool (L.any (·==k)))]:=λA J O u v s Q E g M e T q=>by
 subst b;obtain⟨t,rfl⟩:=e;obtain⟨c,Y,F,rfl,P,p,z⟩:=M.list T h;have o:∀{l:#[g]}{f:#[g]},#[a6,l,f.map V.int]->IntsAre l f:=by intro l f;induction f generalizing l with|nil=>intro h;cases h;exact .nil|cons m r a=>intro h;cases h with|cons N a0=>obtain⟨t,rfl⟩:=N;exact .cons _ _ (a a0)
 refine in_list_ints #[a8,p,_] (o z) (#[aE,#[eq],rfl])
theorem St.It(P:#[bR])(b:#[aX,H,j,q0])(c:X++q0=d)(R:d.length<=aB)(a:H.length=r)(Z:H++[.list d]=m0):fp B w n S (bL .Add) #[ce] #[cc] U H (.ob r) m0:=λA J O u v s Q E g M e T q=>by subst c a Z;obtain⟨f,Y,F,rfl,l,p,z⟩:=M.list e P;obtain⟨h,p0,o,rfl,I,k,m⟩:=M.list T b;rw[aV]at R;refine concat_meets #[M,p] #[M,k] noFill_list_add seq_list_add abc ZY (ZL _ _) (list_addW _ _ _ _ F _ _ _ _ _ (by rw[z.size,m.size];exact R)) #[bL,p,k];refine#[kj,aC.push M rfl #[cw,0,?_]];rw[wN];exact(z.append m).mono #[ig]
end
section
variable{B:Bs}{w:aD}{n m:Nat}{S:Gm}{d0 g0:#[n]}{U x0 T:#[o]}{H b0 o0 w0 m0:#[l]}{i0 y0 p:aZ}{J:aN}{O:#[s]}{l:#[y]}{h0:#[ay]}{a b c o:aP}
theorem Ev.lam(F:#[w])(j:Nat)(c:#[aW,S.own,x])(h:x.name="<lambda>")(y:x.pos=i0)(m:#[eX])(T:#[lg])(o:iJ d.names []=R)(i:H.length=q)(Z:H++[#[ju,.expr,R]]=m0):#[aF,.Lambda z r0 d i0,.ob q,m0]:=λA J O s Q E g M k=>by
 subst Z i;refine ade (T _) ?_;have p:=by have:=(M.jJ x (bC c)).2.2;rw[h]at this;exact this
 rw[p,<-h];subst y;exact made F M (bC c) m (λb e=>nomatch e) o λa k0 f l=>k _ _ _ f l
theorem Ra(F:#[w])(g:#[eZ])(R:#[ah])(C:#[kW,.expr r0,j])(T:#[a6,j,Y])(X:#[jd])(m0:∀(i:Nat)(a:ao)(c0:ck->Prop),#[lp,c0])(h0:#[kI])(p0:#[lf,"__classdict__"])(q0:#[eG])(t0:#[eF])(h:Ev B w n #[fS] r0 #[jJ] H r o0)(q:∀G L t,#[aV,o0,t,L]->VR t G r->Q G L):#[jm,j]:=by
 obtain⟨o,c,Z⟩:=C.at_;have m:=C.ok;simp only[iq,fe,decide_eq_true_eq,eT]at m;obtain⟨⟨⟨u0,w0⟩,b0⟩,s0⟩:=m;have i0:=C.Bx;refine gi (ada #[kM] c Z (by rw[i0];exact q0) (by rw[i0];exact t0) C.FF C.code ?_);rw[C.bind];refine az (Ez (λx z e=>?_) #[b1,?_] (λu k0 A0=>?_) (by rw[i0];exact C.kind));.grind
 .rw[i0];obtain⟨i,d⟩:=gK.mp z;obtain⟨N,a0⟩:=oN.mp d;rw[cb]at N;obtain⟨p,y,y0⟩:=dP.mp N;have v:i<k:=by rw[<-C.len];exact#[U,a0]
  have v0:=bC (by rw[es v];exact y);have n0:=w0 _ v0;simp[beq_iff_eq]at n0;obtain⟨l0,e0⟩:=p;cases n0;rw[<-y0];exact lV u0 y
 .have M:=λb o e=>A0.extBut b o (cz (bj e)) (bM _ e);refine#[a4,(F.nl R.gh).fresh _ A0];have C0:=FN R C T X m0 h0 p0 k0 M;have I:#[Q,u.objs.size]:=by obtain⟨o,_,_,e,_⟩:=k0;exact ea (bj e)
  refine adb ?_;refine h (A.deeper _) _ O _ _ _ #[bL,g.handled,?_] C0 ?_;.have:=g.depth;show#[i8];omega
  .have:=g.units;show A.units+3+8*n+8<_;omega
  intro G L t P l;have x0:=FO (d:=[]) R X (k0:=#[cN,u,s.toks+((j0.names.map (·.1)).zip j).length]) I M rfl rfl rfl P;exact q G L t x0 l
theorem bW.Ss(F:#[w])(P:#[bc,b0,.raw,gc n0 (.expr r0) j0 Z])(l:iu n0 [] j0 Z k)(v0:ct 0 b0=[i])(C:Y.length=k)(h:Ev B w n #[fS] r0 #[jJ] b0 r o0)(g:#[eZ])(M:#[dg,O,b0,s.heap])(q0:#[I,O,f])(x:#[a6,d,Y])(q:∀G L t,#[aV,o0,t,L]->VR t G r->Q G L):#[jm,d]:=by
 obtain⟨o,p,f0,rfl,e,m,H,h0,k0,i0,t0,s0⟩:=M.store i f _ q0 P;obtain⟨⟨c,T,R,a0,e0⟩,X⟩:=M.code i f _ q0 P _ _ p rfl;have z:=x.length.trans C;refine Ra F g M ⟨#[M,p],H,m,h0,k0,T▸a0,l.bind _ _ e t0 s0 z,l.ok,z,l.kind⟩ x X (λj a I u v=>?_) (i0▸l.mK) (λl0 b=>?_) l.co l.gen h q
 .have w0:=by have:=kh (k:=0) v;rw[v0,gM]at this;exact aY.mp this
  subst w0;rw[q0]at u;cases u;intro N p0 c0 m0;rw[p]at c0;cases c0;cases m0;exact⟨⟨c,T,R,a0,e0⟩,λu0 y=>oq (i0▸l.mK) y⟩
 .rw[i0];have:=eT.mp l.pK _ b;simp only[BEq.rfl,if_true,fe,wQ,CC]at this;exact this
end
def gj:af->Tx|.str x _=>x.cps.toList|_=>[]
def jf:af->Prop|.str _ _=>True|_=>False
theorem SS(h:jf v):#[bn,#[cV,gj,v]]:=by cases v with|str x t=>exact⟨x,t,rfl,rfl⟩|_=>exact h.elim
theorem An(h:#[bn,#[bo]]):jf v/\gj v=t:=by obtain⟨x,k,rfl,e⟩:=h;exact#[gG,e]
theorem uJ:∀{Y:#[g]}{f0:#[g]},#[hf]->Y.map gj=f0/\∀v∈Y,jf v
 |Y,[],h=>by cases h;simp
 |Y,t::r,h=>by cases h with
 |cons N a0=>
  obtain⟨F,d⟩:=uJ a0;obtain⟨S,H⟩:=An N;refine⟨#[R],λv T=>?_⟩;obtain rfl|T:=bc.mp T;.exact S
  .exact d v T
theorem yM:∀{Y:#[g]},(∀v∈Y,jf v)->#[a6,Y,ah (Y.map gj)]|[],_=>.nil|v::r,h=>.cons (SS (h v fB)) (yM λu e=>h u (dH _ e))
theorem Jh{f:O->af}:∀{l:#[g]}{k:#[g]}{R:af->O->Prop}{p:af×O},aM R k l->p∈k.zip l->R p.1 p.2
 |[],k,R,p,h,y=>#[R]
 |a::l,k,R,p,h,y=>by cases h with
 |cons N a0=>
  obtain rfl|y:=bc.mp y;.exact N
  .exact Jh (f:=f) a0 y
theorem Ta{Y:#[g]}(h:∀v∈Y,jf v)(a0:2<=Y.length):keyKind' Y.toArray=av oneType':=by
 have o:∀l,(∀v∈l,jf v)->∃S,StrsAre l S:=λl=>by induction l with|nil=>exactλ_=>#[bF,.nil]|cons v r Q=>intro h;obtain⟨S,a⟩:=Q λu e=>h u (dH _ e);cases v with|str x t=>exact#[bF,.cons x t a]|_=>exact(h _ fB).elim
 obtain⟨S,a⟩:=o _ h;match Y,a0,a with|b::c::r,_,a=>exact keyKind_strs a
theorem Xu{o:Tx->Tx}{x:#[bE]}(T:#[hf])(C:#[nt,x.toList])(y:X.Perm (x.zip Y.toArray))(u:Dk strKind X X.size):∃r:#[g],#[a6,(X.map (·.2)).toList,ah r]/\r.Perm f0/\r.Pairwise λa b=>o a<=o b:=by
 obtain⟨F,d⟩:=uJ T;have R:X.toList.Perm (x.toList.zip Y):=by rw[<-ksk_zip];exact Array.perm_iff_toList_perm.mp y
 have t:=C.length;have w:∀p∈X.toList,(jf _/\gj _=o _)/\jf _:=λp y=>by have g:=R.mem_iff.mp y;exact⟨Jh (f:=λv=>v) C g,d _ (MX (g)).2⟩
 refine#[bM,X.toList.map λp=>gj p.2,?_,?_]
 .have:(X.map (·.2)).toList=X.toList.map (·.2):=by simp
  rw[this];have h:=yM (O:=O) λv T=>by obtain⟨p,y,rfl⟩:=bI.mp T;exact(w p y).2
  rw[gr]at h;exact h
 .have h:=R.map (λp=>gj p.2)
  have e:(x.toList.zip Y).map (λp:Keyed=>gj p.2)=f0:=by
   have:(x.toList.zip Y).map (λp:Keyed=>gj p.2)=((x.toList.zip Y).map Prod.snd).map gj:=by rw[gr];rfl
   rw[this,#[G,List.map_snd_zip],F]
  rw[e]at h;exact h
 .rw[th,qE];intro i j P c l;have q:=u i j (ea l) #[f];have E:∀m f,KK strKind _ m=o _:=λm f=>by have z:=(w X[m] #[z]).1;unfold KK;rw[qp f];show(strKind.keyOf _).getD _=_;rw[<-z.2];have N:=z.1;revert N;cases(X[m]).1<;>intro N<;>first|rfl|exact N.elim
  rw[E i _,E j _]at q;have:=qD.mp (of_decide_eq_false (q));simpa using this
section
variable{B:Bs}{w:aD}{n m:Nat}{S:Gm}{d0 g0:#[n]}{U x0 T:#[o]}{H b0 o0 w0 m0:#[l]}{i0 y0 p:aZ}{J:aN}{O:#[s]}{l:#[y]}{h0:#[dB]}{a b c o:aP}
structure hl(S:Gm)(J:aN)(O:#[s])(B:Bs)(c0:Nat)(I:ao):Prop where
 ge:c0<=I
 loc:I≠J.locals
 out:I∉O
 cell:#[dQ,p.2≠I]
 base:#[ap,I]
theorem hl.new{s:fR}(R:#[ah]){I:ao}(h:#[Q,I]):#[l8,I]:=⟨h,(mG R h).1,λf=>#[a9,R.fT _ f,h],(mG R h).2.1,(mG R h).2.2⟩
theorem hl.nf{c0:Nat}(h:hl S J O B c0 I):I∉eZ S J O:=mV h.loc h.cell h.out
theorem hl.kept{c0:Nat}(h:hl S J O B c0 I)(R:#[ah])(P:#[cy,x0,m0,O,L])(e:#[cd,I,e0]):L.heap.get? I=aa e0:=P.fx.keep I _ e h.nf λn0=>#[a9,R.lb I n0,h.base]
theorem aC.upd(P:#[aV,H,O,k0])(h:#[l8,I])(p:k0.heap.get? I=aa ⟨d,ab,.seq X k,#[]⟩)(f:#[be]->#[be])(a:d≠#[gD]:=by exact#[fW]):#[aV,H,O,{k0 with heap:=k0.heap.update I (dB f)}]:=P.other (#[z]) (λb o Z e=>(qT _ _ _ _ Z).trans e) ⟨h.loc,h.out,h.cell⟩ h.ge h.base (JA p a)
theorem Lh{A:aR}{C s:fR}{a Q:ao}{f0 r:#[bz]}{Y:#[L]}{x:#[be]}{e F:Nat}{o:Tx->Tx}{f:SortSt}{P:#[aG,ky]}{E:#[E]}(e0:aC B S J O U H C O s)(z:#[jf,a])(M:#[jf,Q])(R:Q≠a)(b0:#[cd,Q,di "list" x e])(I:#[cd,a,#[iV]])(T:#[hf])(d:#[nt,x.toList])(X:Y.length<64)(y:(lB f).Perm (x.zip Y.toArray))(u:Dk strKind (lB f) (lB f).size)(t:failedOf f=ab)(c0:#[jV,o,o])(h:∀L c q,#[mJ,q,q.toList]):aw #[aH] A (ksk_tail a ai F #[K,Q] f) P E s:=by
 obtain⟨j,N,a0,G⟩:=Xu T d y u;have:=c0 j a0 G;subst this;have m:=d.length;rw[gG]at m;have p:(lB f).size=Y.length:=by rw[y.size_eq,Array.size_zip,m,xq,Nat.min_self]
 have g:=e0.upd M b0 (λ_=>(#[]:#[be]));have d0:(s.heap.update Q (dB λ_=>(#[]:#[be]))).get? a=aa #[iV]:=(qT _ _ _ _ R.symm).trans I;have i:=g.upd z d0 (λ_=>(lB f).map (·.2));unfold ksk_tail;try dsimp only
 refine ag (xN b0 rfl ?_ (by rw[m,dp];omega) #[aB]);refine#[a3,tU];refine#[bI,seqEpoch_at,d0,rfl];refine ag (xN d0 rfl ?_ #[aB] (by simp only[fX,if_false,Array.size_map];rw[p,dp];omega));rw[t];simp only[bne_self_eq_false,fX,if_false];obtain⟨n,Z⟩:∃n,((s.heap.update Q (dB λ_=>(#[]:Array af))).update a (dB λ_=>(lB f).map (·.2))).get? a=aa (di "list" ((lB f).map (·.2)) n):=#[bF,Dl d0 λ_=>(lB f).map (·.2)];exact az (h _ n _ i Z N)
theorem Xs{A:aR}{C s:fR}{a X:ao}{f0 r:#[bz]}{Y:#[L]}{R:#[be]}{e F:Nat}{o:Tx->Tx}{P:#[aG,ky]}{E:#[E]}(i0:aC B S J O U H C O s)(z:#[jf,a])(M:#[jf,X])(c0:X≠a)(e0:#[cd,X,di "list" R e])(I:#[cd,a,#[iV]])(T:#[hf])(f:#[nt,R.toList])(b0:Y.length<64)(g0:#[jV,o,o])(h:∀L c q,#[mJ,q,q.toList]):aw #[aH] A (ksk_end a ai Y.toArray F #[K,X] R) P E s:=by
 have m:=f.length;rw[gG]at m;have h0:(R.zip Y.toArray).size=Y.length:=#[R];unfold ksk_end;try dsimp only
 by_cases a0:Y.toArray.size<2
 .rw[if_pos a0,if_pos a0];refine Lh (f:=SortSt.mk' general' (R.zip Y.toArray) #[] 7 ab) i0 z M c0 e0 I T f b0 (Mk _) ?_ rfl g0 h;intro i j d0 g;have j0:j<(R.zip Y.toArray).size:=g;rw[xq]at a0;have:i=j:=by omega
  subst this;exact KeyOrd.kle_refl _
 .rw[if_neg a0,if_neg a0];rw[xq]at a0;have k0:∀k∈R.toList,jf k:=λk x=>by obtain⟨i,d⟩:=gK.mp x;obtain⟨b,_,Z⟩:=f.get' d;exact Z.1
  rw[show keyKind' R=av oneType' by exact Ta k0 (by rw[gG,m];omega)];refine#[a3,az];refine ag (dk (wpS_sortRunsK strKind_oneLt (a₀:=R.zip Y.toArray) (Q:=λ_ m0=>(lB m0).Perm (R.zip Y.toArray)/\failedOf m0=ab/\Dk strKind (lB m0) (R.zip Y.toArray).size) (λp y=>?_) ⟨Mk _,rfl,rfl,rfl⟩ (by rw[h0];omega) (by rw[h0];exact b0) λm0 Q G n=>⟨Q,G,n⟩) ?_ λ_ _ e=>e);.have N:=k0 _ (MX ((by simp_all:p∈R.toList.zip Y))).1;revert N;obtain⟨k,v⟩:=p;cases k<;>intro N<;>first|exact#[aU]|exact N.elim
  .rintro⟨⟨⟩,m0⟩L⟨rfl,y,t,u⟩;exact Lh i0 z M c0 e0 I T f b0 y (by rw[y.size_eq];exact u) t g0 h
def wZ(B:Bs)(w:aD)(n:Nat)(S:Gm)(J:aN)(O:#[s])(U:#[o])(H:#[l])(f:af)(f0:#[bz])(o:Tx->Tx):Prop:=∀(A:aR)(u:af)(t:Tx)(s:fR)(Q E:#[E]),#[bk]->#[ah]->VR O u #[bo]->t∈f0->(∀G L,#[aV,H,O,L]->VR O G #[cV,o,t]->Q G L)->#[aM,dQ f [u]]
theorem Xt{C s:fR}{a b0:ao}(g:#[bk])(r0:wZ B w n S J O U H f f0 key)(o0:aC B S J O U H C O s)(z:#[jf,a])(R:#[jf,b0])(e0:b0≠a)(k0:#[cd,b0,di "list" #[] 0])(I:#[cd,a,#[iV]])(T:#[hf])(d0:Y.length<64)(l0:#[jV,key,key])(h:∀L c M,#[mJ,M,M.toList]):aw #[aH] A (ksk_rest a f ai Y.toArray F #[K,b0]) P E s:=by
 refine#[a3,hN];first|rw[List.forIn_toArray]|rfl|rfl
 refine ag (ksk_fold (λi L=>∃q0 e,aC B S J O U H C O L/\L.heap.get? b0=aa (di "list" q0 e)/\L.heap.get? a=aa #[iV]/\aM (λk v=>jf k/\gj k=key (gj v)) q0.toList (Y.take i)) Y 0 s ⟨#[],0,o0,k0,I,.nil⟩ ?X ?c0)
 case X=>
  rintro j x L d⟨q0,e,m,i0,m0,g0⟩;simp only[gM]at g0⊢;have G:=by have N:=g0.length;rw[gG,bH]at N;omega
  obtain⟨y,o,p0⟩:=T.get' d;unfold ah at o;rw[cb]at o;obtain⟨t,n0,rfl⟩:=dP.mp o;refine ag (iF (r0 A x t L _ _ g m.rel p0 (bC n0) λZ q p u=>?_));obtain⟨s0,t0⟩:=An u;obtain⟨_,j0⟩:=An p0;have a0:=R.kept m.rel p i0;obtain⟨Q,h0⟩:∃Q,(q.heap.update b0 (dB (·.push Z))).get? b0=aa (di "list" (q0.push Z) Q):=#[bF,Dl a0 (·.push Z)];refine ag (xN a0 rfl ?_ (by rw[dp];omega) (aH (eC (Array.size_push ..)) (by rw[dp];omega)));refine az ⟨rfl,q0.push Z,Q,((m.trans p).upd R a0 (·.push Z)),h0,(qT _ _ _ _ e0.symm).trans (z.kept m.rel p m0),?_⟩;rw[oK,qG,d];exact g0.append (.cons ⟨s0,by rw[t0,j0]⟩ .nil)
 case c0=>rintro L⟨q0,e,m,i0,m0,g0⟩;rw[gM,gL]at g0;refine ag (listItems_at i0 rfl (Xs m z R e0 i0 m0 T g0 d0 l0 h))
theorem Xr{A:aR}{s:fR}{b0 c0:ao}{k:Nat}{f0 r:#[bz]}{Y:#[be]}{C:Tx->Tx}{Q E:#[E]}(g:#[eZ])(p0:wZ B w n S J O U H #[K,c0] f0 C)(M:#[ah])(p:#[cd,b0,#[lR]])(T:#[a6,Y.toList,ah f0])(h0:f0.length<64)(l0:#[jV,C,C])(h:∀f L,#[aV,H++[#[aq,r]],O++[f],L]->#[bN,f,L]):#[aM,dQ #[cZ,"sorted"] [.ref b0] [(ak "key",.ref c0)]]:=by
 have i0:Y.toList.length<64:=by rw[T.length];simpa[ah]using h0
 have a0:Y.toList.toArray=Y:=by simp
 refine call_function_entry_kw kind_sorted plain_sorted entry_sorted (ksk_s1 _ _) ?_;unfold qR.«sorted»;refine ag (m:=checkCount "sorted" 1 1 _) #[cA];refine ag (collect_list (vs:=Y.toList) ⟨_,p,rfl,k,by simp⟩ ?_ (by rw[dp];omega));refine ag (EA ?_ (by rw[dp];omega));have I:#[kq,((s.heap.push (di "list" #[] 0)).update s.heap.objs.size (dB (·++Y.toList.toArray))).objs.size]:=by rw[DI,tn]
 have n0:(((s.heap.push (di "list" #[] 0)).update s.heap.objs.size (dB (·++Y.toList.toArray))).push (di "list" Y.toList.toArray 0)).get? (s.heap.objs.size+1)=aa (di "list" Y.toList.toArray 0):=by rw[<-I];exact#[aT]
 have u:#[eD,s.heap.get?,(((s.heap.push (di "list" #[] 0)).update s.heap.objs.size (dB (·++Y.toList.toArray))).push (di "list" Y.toList.toArray 0)).get?]:=λb o q=>by have t:b<s.heap.objs.size:=bj q;rw[OS _ _ _ (by rw[I];exact cz (kq t)),qT _ _ _ _ (cz t),OS _ _ _ (cz t)];exact q
 have g0:#[Q,(((s.heap.push (di "list" #[] 0)).update s.heap.objs.size (dB (·++Y.toList.toArray))).push (di "list" Y.toList.toArray 0)).objs.size]:=by rw[tn,I];omega
 show aw _ _ _ _ _ #[kC,((s.heap.push (di "list" #[] 0)).update s.heap.objs.size (dB (·++Y.toList.toArray))),Y.toList.toArray];rw[I];have d:#[aV,H,O,#[kC,((s.heap.push (di "list" #[] 0)).update s.heap.objs.size (dB (·++Y.toList.toArray))),Y.toList.toArray]]:=aC.heap (t:=s.toks) M g0 u;generalize q0:((s.heap.push (di "list" #[] 0)).update s.heap.objs.size (dB (·++Y.toList.toArray))).push (di "list" Y.toList.toArray 0)=N at*;have t0:s.heap.objs.size+1<N.objs.size:=bj n0;refine#[b6,wpAny_call_entry_kw slot_list_sort #[M,n0] entry_list_sort ?r0 (ksk_l1 _ _)]
 case r0=>
  show aw #[aH] A.in1.in1 (Builtin.«list.sort» ⟨[.ref (s.heap.objs.size+1)],[(ak "key",.ref c0)]⟩) _ _ _;rw[ksk_t1];generalize d0:s.heap.objs.size+1=f at*;have o0:#[l8,f]:=hl.new M #[f];obtain⟨F,j0⟩:∃F,(N.update f (dB λ_=>(#[]:#[be]))).get? f=aa #[iV]:=#[bF,Dl n0 λ_=>#[]];have y:=d.upd o0 n0 (λ_=>(#[]:#[be]));have k0:#[jz].objs.size=N.objs.size+1:=by rw[tn,DI]
  have u0:#[l8,#[jz].objs.size]:=by rw[k0];exact hl.new M #[f]
  have s0:#[jz].objs.size≠f:=by rw[k0];exact hj (kq t0)
  unfold ksk_tree;refine#[bI,listItems_at,n0,rfl];refine ag (xN n0 rfl ?_ (by rw[xq,dp];omega) #[aB]);refine#[bI,seqEpoch_at,j0,rfl];refine ag (wpAny_newTuple ?_ (by show Y.toList.toArray.toList.length<=_;rw[List.toList_toArray,dp];omega));refine ag (EA ?_ #[aB]);refine cf ?_;have v:#[aV,H,O,#[kC,#[jz],#[]]]:=y.trans (aC.heap (t:=s.toks) y.rel (by show(N.update f _).objs.size<=_;rw[tn,tn];omega) #[jq]);have m0:Cx n A.in1.in1:=⟨g.handled,by have:=g.depth;show A.depth+n<_;omega,by have:=g.units;show A.units+1+1+8*n+8<_;omega⟩;rw[a0];refine Xt (s:=#[kC,#[jz],#[]]) m0 p0 v o0 u0 s0 #[gr] (bM _ (bM _ j0)) T i0 l0 λL c X G j m=>#[b4,?_];refine az #[b4,h f L #[j5,G.fx]]
  .rw[mM M.cX]at Z;rcases cK.mp Z with q|q;.exact .inl q
   .rw[aY.mp q];exact .inr o0.ge
  .have v0:f<L.heap.objs.size:=bj j;have:=aF.ow (h:=s.heap) (l:=[f]) (j:=[#[aq,r]]) G.rel G.fx.size M.jj M.ji M.fT #[b1,by rw[aY.mp z];exact o0.ge] #[z] rfl M.gh.1 (λi x e0 P Z=>?_) (λi x R P Z=>?_);.exact this
   .cases i with|zero=>simp at P Z;subst P;subst Z;exact⟨_,j,X,c,rfl,m.mono λ_ _ q=>q.pre (eB _ _)⟩|succ i=>simp at P
   .cases i with|zero=>simp at Z;subst Z;trivial|succ i=>simp at P
end
section
variable{B:Bs}{w:aD}{n m:Nat}{S:Gm}{d0 g0:#[n]}{U x0 T:#[o]}{H b0 o0 w0 m0:#[l]}{i0 y0 p:aZ}{J:aN}{O:#[s]}{l:#[y]}{h0:#[ay]}{a b c o:aP}
theorem Ev.wu(F:#[w]){x:aq}{e:aP}{z:lD}{r0:aP}{d:bq}{t1 B1:aZ}{y:fD}(j:Nat){i q:Nat}{d1:#[bw]}{f0 r:#[bz]}{X q0:#[D]}{O0:Tx->Tx}(s0:cJ B w (n+2) S #[bQ] #[cZ,"sorted"])(C:#[ek])(I:Ev B w (n+2) S e U H #[ce] b0)(P:#[h6])(U0:X=ah f0)(c:#[aW,S.own,y])(c0:y.name="<lambda>")(R:y.pos=t1)(c1:#[eX])(s1:#[lg])(m1:iJ d.names []=d1)(T:iu z [] d d1 1)(a1:#[ci,b0])(Z:∀t∈f0,Ev B w n #[d7,d,S.fz] r0 (cP U (eJ S.sc.names d.names) [.str t]) #[i4] #[cV,O0,t] #[i4])(k1:f0.length<64)(n1:#[jV,O0,O0])(m:ah r=q0)(l0:b0.length=q)(A0:#[ef,b0]):Ev B w (n+2) S (.Call #[bQ] [e] #[ni,t1,B1] i0) U H (.ob q) m0:=λA J O s Q E g M k=>by subst U0 m l0 A0;show aw _ A (do lI i0 (<-aU (.Name x p) J) [] #[gb,[e]] (kC i0 (kF #[ni,t1,B1] J))) Q E s;refine ag (s0 A J O U H s _ E g M ?_);rw[dn i0 J C];refine callWith_builtin_kwB #[p] (#[p]) ?_;simp only[dh,oO];refine evalArgs_kwB (by simp[kC,kF]) ?_;have w0:=(cu.cons I cu.nil:cu B w (n+2) S [e] U H [.ob i] b0);refine#[dU,w0,λo k0 x0 f p0=>?_];refine evalAll_cons (ag (?_:aw _ A (aU (.Lambda z r0 d t1) J) _ E k0));refine(Ev.lam (w:=w) (n:=n+2) F j c c0 R c1 s1 m1 rfl rfl) A J x0 k0 _ E g f.rel λv o0 N0 j0 I0=>?_;refine ag (dI (az (evalAll_nil ?_)));cases p0 with
|cons N a0=>
 cases a0;have r1:=N.pre j0.pre;have q1:#[bc,#[i4],.list,ah f0]:=by rw[cG #[U,P]];exact P
 obtain⟨b1,Y,H0,rfl,Z0,J0,S0⟩:=j0.rel.list r1 q1;obtain⟨e1,p1,rfl⟩:=I0;have x1:ct 0 #[i4]=[b0.length]:=by rw[oB,a1];simp[ct]
 have T0:#[i4][b0.length]?=aa (.raw (gc z (.expr r0) d d1)):=by simp
 have w1:N0.length=b0.length+1:=by rw[j0.rel.len];simp
 have v1:wZ B w (n+1) S J N0 U #[i4] #[K,e1] f0 O0:=λi1 u t L y1 l1 o1 Q0 t0 n0 F0=>by
  refine bW.Ss F T0 T x1 rfl (Z t n0) o1 Q0 p1 #[aY,t0] λL0 E0 X0 C0 R0=>?_;have:X0=N0:=by obtain⟨v0,M0⟩:=C0.pre;have E1:=C0.rel.len;rw[<-M0,aV,w1]at E1;simp at E1;rw[<-M0,E1,fy]
  subst this;exact F0 L0 E0 C0 R0
 have j1:aM (VR N0) Y.toList (ah f0):=S0;refine Xr g v1 j0.rel J0 j1 k1 n1 λD E0 C0=>?_;have h1:=C0.rel;have A1:x0.length=b0.length:=f.rel.len;have L1:x0<+:N0:=j0.pre;have u0:=f.rel.below
 have C1:#[dg,x0,b0,E0.heap]:=by
  have N:=h1.take (j:=b0.length) (by rw[<-A1];exact f.rel.cX) u0.1 λi e0 P J0=>?_
  .obtain⟨v0,rfl⟩:=L1;have G:((x0++v0)++[D]).take b0.length=x0:=by rw[cQ,<-A1,mq]
   have h0:((b0++[Ob.raw (gc z (.expr r0) d d1)])++[Ob.list (ah r)]).take b0.length=b0:=by rw[cQ,mq]
   rw[G,h0]at N;exact N
  .rw[cQ,cG P]at J0;exact u0.2 i e0 J0
 have I1:(N0++[D])[b0.length+1]?=aa D:=by rw[<-w1];simp
 obtain⟨u1,F1,J1⟩:=h1.store (b0.length+1) D #[fh,r] I1 #[z]
 have G1:k0.heap.objs.size<=D:=by
  have f1:D∈(N0++[D]).drop S.fz:=by rw[mM j0.rel.cX];exact tg _ (aY.mpr rfl)
  rcases C0.new D f1 with h|h;.exfalso;have Y0:=h1.nodup;rw[qC]at Y0;exact Y0.2.2 D (eU h) D (aY.mpr rfl) rfl
  .exact aH j0.fx.size h
 have z1:#[dg,x0++[D],b0++[#[aq,r]],E0.heap]:=by
  refine aF.ow (h:=k0.heap) (l:=[D]) (j:=[Ob.list (ah r)]) C1 (aH j0.fx.size C0.fx.size) f.rel.jj f.rel.ji f.rel.fT (λx c=>by rw[aY.mp c];exact G1) #[z] rfl f.rel.gh.1 (λi x e0 P Z=>?_) (λi x Q0 P Z=>?_);.cases i with|zero=>simp at P Z;subst P;subst Z;obtain⟨o,g1,G,h0⟩:=J1;obtain⟨y0,G0⟩:=uJ h0;exact⟨_,F1,o,g1,G,by rw[<-y0];exact yM G0⟩|succ i=>simp at P
  .cases i with|zero=>simp at Z;subst Z;trivial|succ i=>simp at P
 have H1:=j0.trans C0;refine k #[K,D] E0 (x0++[D]) (f.trans ⟨eB _ _,λx c=>?_,z1,H1.fx⟩) #[au,D,by rw[<-A1];simp];rw[mM f.rel.cX]at c;rcases cK.mp c with h|h;.exact .inl h
 .rw[aY.mp h];exact .inr G1
end
theorem pP(h:bR x=ae):bD k x:=by cases x with|ob i=>cases h|_=>trivial
section
variable{B:Bs}{w:aD}{n m:Nat}{S:Gm}{d0 g0:#[n]}{U x0 T:#[o]}{H b0 o0 w0 m0:#[l]}{i0 y0 p:aZ}{J:aN}{O:#[s]}{l:#[y]}{h0:#[ay]}{a b c o:aP}
def BW(j0 d:bq)(t:aq)(i0 v:aZ):Bool:=#[aa,j0.kind.isAnnotationScope,ScopeKind.function,j0.kind]==.function&&j0.names.lookup t==aa .local&&i0.line==v.line&&!(d.names.any λ(n,k)=>n==t&&(k==.local||k==.cell))
theorem BX{b:Bool}(Z:BW j0 d t L v=b):∀J:aN,J.scope=j0->jz (.ListComp e f d v) (aa (.Name t L)) g J=av b:=λJ h=>by subst h Z;rfl
def sV{O:Type}(T:#[o])(b0:#[l])(X:List O)(A:O->Bool)(f:O->V)(i:Nat)(k:Nat)(q0:#[D])(v:#[o])(s:#[l]):Prop:=(v=T\/∃z,bR z=ae/\v=T.set i (aa z))/\s=b0++[.list q0]/\q0=((X.take k).filter A).map f/\ir T (b0++[#[d2]])
def mD(B:Bs)(w:aD)(n:Nat)(c:Gm)(Q:aP)(e:List aP)(T:#[o])(b0:#[l])(r:Nat)(b:Bool)(y:V)(i:Nat)(z:V):Prop:=∀q0,∃m,fg B w n c e (T.set i (aa z)) (b0++[.list q0]) b m/\#[aa,b,∃N,Ev B w n c Q (T.set i (aa z)) m y N/\N.take (r+1)=b0++[.list q0],m.take (r+1)=b0++[.list q0]]
theorem Lr{O:Type}{g:O->V}{c0:Gm}{Q:aP}{J:List aP}{r S:Nat}{X:List O}{A:O->Bool}{f:O->V}{i:Nat}(Y:#[fT])(P:S<=r)(U:∀z∈X,bR (g z)=ae)(t:∀z∈X,A z=ae->bR (f z)=ae)(I:i<T.length)(M:∀z∈X,mD B w n c0 Q J T b0 r (A z) (f z) i (g z)):∀k z q0 v s,(X.map g)[k]?=aa z->sV T b0 X A f i k q0 v s->ir v s->bD s.length z->∃b q,fg B w n c0 J #[eQ,z] s b q/\if b then∃y u,Ev B w n c0 Q #[eQ,z] q y u/\#[aX,u,r,q0]/\gQ S (r+1) (sV T b0 X A f i #[u] (q0++[y])) #[eQ,z] (u.set r #[cr,q0++[y]])else gQ S (r+1) (sV T b0 X A f i #[u] q0) #[eQ,z] q:=by
 rintro k t0 q0 v s h0⟨c,rfl,R,o⟩_ _;rw[cb]at h0;obtain⟨z,C,rfl⟩:=dP.mp h0;have l:z∈X:=bC C
 have k0:v.set i (aa (g z))=T.set i (aa (g z)):=by
  rcases c with rfl|⟨y,_,rfl⟩;.rfl
  .rw[List.set_set]
 rw[k0];obtain⟨q,N,a0⟩:=M z l q0;have H:X.take (k+1)=X.take k++[z]:=by rw[qG,C];rfl
 have m0:#[fq,q0]:=λx a=>by rw[R]at a;obtain⟨y,m,rfl⟩:=bI.mp a;obtain⟨i0,l0⟩:=iT.mp m;exact t y (eA i0) l0
 have r0:∀(j:Nat)(x:V),(T.set i (aa (g z)))[j]?=aa (aa x)->bD (r+1) x:=λj x e=>by
  by_cases d0:i=j;.subst d0;rw[nC I]at e;cases e;exact pP (U z l)
  .rw[nB d0]at e;have:=o.1 j x e;rw[aV,Y]at this;exact this
 have o0:∀(j0:#[D])(L:#[l]),(#[fq,j0])->L.take (r+1)=b0++[.list j0]->∀(j:Nat)(e0:Ob),j<r+1->#[aW,L,e0]->fl (r+1) e0:=λj0 L f0 n0 j e0 e F=>by
  rw[<-es e,n0]at F;rcases gd j r with p|Z;.rw[#[G,cG]]at F;have:=o.2 j e0 (by rw[#[G,cG]];exact F);rw[aV,Y]at this;exact this
  .have:j=r:=by omega
   subst this;rw[#[G,dZ],Y]at F;simp at F;subst F;exactλx a=>pP (f0 x a)
 refine#[bM,A z,q,N]
 cases d:A z with
 |false=>rw[d]at a0;simp only[fX,if_false]at a0⊢;refine .inr ⟨r+1,aO _,⟨by omega,r0,o0 q0 q m0 a0⟩,.inr #[au,g z,U z l],a0,?_,o⟩;rw[H,xi,sY,d];simpa using R
 |true=>
  rw[d]at a0;simp only[if_true]at a0⊢;obtain⟨u,G,E⟩:=a0;have g0:#[aX,u,r,q0]:=by rw[<-es (hG r),E,#[G,dZ],Y];simp
  have s0:#[fq,q0++[f z]]:=λx a=>by
   rcases cK.mp a with h|h;.exact m0 x h
   .rw[aY.mp h];exact t z l d
  have p0:(u.set r #[cr,q0++[f z]]).take (r+1)=b0++[.list (q0++[f z])]:=by rw[List.take_set,E,Nb _ _ #[f],Y];simp
  refine⟨f z,u,G,g0,.inr ⟨r+1,aO _,⟨by omega,r0,o0 _ _ s0 p0⟩,.inr #[au,g z,U z l],p0,?_,o⟩⟩;rw[H,xi,sY,d,R];simp
theorem HV{C:#[g]->Prop}{X:List d}(Y:#[fT])(I:i<T.length)(R:#[le]):∀k q0 v s,sV T b0 X A f i k q0 v s->C s/\i<v.length/\#[aX,s,r,q0]/\q0.length<=k:=by
 rintro k q0 v s⟨a,rfl,e,_⟩;refine#[bM,R _,?_,?_]
 .obtain rfl|⟨z,_,rfl⟩:=a;.exact I
  simp_all
 .rw[#[G,dZ],Y];simp
 .rw[e,aQ];exact aH (sZ _ _) (List.length_take_le _ _)
theorem Ev.FY{O:Type}{c:List O}(F:#[w])(g:O->V)(A:O->Bool)(f:O->V)(i:Nat)(m:#[i1,q])(M:ft d S.sc=N)(l:lZ d=ae)(a:#[h5])(u:#[eX])(e0:#[hI])(p:#[ci,b0])(b:cP U G []=T)(Y:#[fT])(P:#[I,N.names,(x,.local)])(k:#[bp])(R:#[le])(I:i<T.length)(L:S.fz<=r)(o:X=c.map g)(e:∀z∈c,bR (g z)=ae)(t:#[oe])(E:#[nN,N,Q,y])(c0:#[gF,q])(a0:(c.filter A).map f=q0)(Z:#[ef,b0]):#[aF,#[gY,Q,f0,q,y],.ob r,m0]:=by subst a0 Z o;exact Ev.comp F i m M l a u e0 p b Y P k (λj=>⟨#[dn],rfl,rfl,j⟩) (HV Y I R) (Lr Y L e t I E) (λq0 v s⟨_,h,_,_⟩=>#[R]) c0
theorem dY.pZ{O:Type}{c:List O}(F:#[w]){X q0:#[D]}{r:Nat}(g:O->V)(A:O->Bool)(f:O->V)(i:Nat)(p:nr N B w n S y U H X C b0)(M:ft d S.sc=f0)(o:lZ d=ae)(a:#[h5])(E:#[eX])(r0:#[hI])(u:#[ci,b0])(b:cP U G []=T)(Y:#[fT])(P:#[I,f0.names,(x,.local)])(m:#[bp])(R:#[le])(I:i<T.length)(e0:S.fz<=r)(q:X=c.map g)(e:∀z∈c,bR (g z)=ae)(t:#[oe])(a0:#[nN,f0,c0,Q])(o0:#[gF,y])(n0:(c.filter A).map f=q0)(Z:#[ef,b0])(j:Nat)(j0:BW S.sc d l0 L i0=ae)(t0:#[ex,l0,.local])(k0:#[gB])(u0:U.set j (aa (.ob r))=x0)(p0:dY N B w n S l x0 m0 h0):dY N B w n S (.Assign [.Name l0 L] #[gY,c0,s0,y,Q] v0::l) U H h0:=by subst n0 Z q;exact dY.KH F i p M o a E r0 u b Y P m (λk=>⟨#[dn],rfl,rfl,k⟩) (HV Y I R) (Lr Y e0 e t I a0) (λq0 v s⟨_,h,_,_⟩=>#[R]) o0 j (BX j0) t0 k0 u0 p0
theorem aj.pZ{O:Type}{c:List O}(F:#[w])(g:O->V)(A:O->Bool)(f:O->V)(i:Nat)(m:#[i1,q])(M:ft d S.sc=E)(k:lZ d=ae)(a:#[h5])(p:#[eX])(j0:#[hI])(v:#[ci,b0])(b:cP U G []=T)(Y:#[fT])(P:#[I,E.names,(x,.local)])(h:#[bp])(R:#[le])(I:i<T.length)(y:S.fz<=r)(o:X=c.map g)(e:∀z∈c,bR (g z)=ae)(t:#[oe])(u:#[nN,E,Q,s])(e0:#[gF,q])(c0:(c.filter A).map f=q0)(Z:#[ef,b0])(j:Nat)(N:BW S.sc d l0 L i0=ae)(n0:#[ex,l0,.local])(a0:#[gB])(o0:U.set j (aa (.ob r))=x0)(f0:#[d0,x0,m0]):#[dx,.Assign [.Name l0 L] #[gY,Q,k0,q,s] p0]:=aj.vM (dY.pZ F g _ f i (m.N 0) M k a p j0 v b Y P h R I y o e t u e0 c0 Z _ N n0 a0 o0 (.of f0))
end
section
variable{B:Bs}{w:aD}{n m:Nat}{S:Gm}{d0 g0:#[n]}{U x0 T:#[o]}{H b0 o0 w0 m0:#[l]}{i0 y0 p:aZ}{J:aN}{O:#[s]}{l:#[y]}{h0:#[ay]}{a b c o e:aP}
theorem W.vp(p:#[fL])(I:#[bv,e,#[bo]])(N:∃q0,#[bc,b0,.list,q0])(h:#[bc,o0,.list,X])(m:X=ah f0)(R:X.length<2^62)(b:f0.findIdx? (·==t)=aa j)(u:#[ek])(L:#[eg,"index"])(P:#[b3]):#[aF,#[g8,"index"],#[T,j],o0]:=#[mz,OG,abj,Cl.vp h m R b]
theorem W.mW(p:#[fL])(I:#[bv,e,#[eM,k]])(N:∃q0,#[bc,b0,.list,q0])(h:#[bc,o0,.list,X])(q:S.fz<=i)(R:#[bp])(C:X[k]?=aa v)(r:k<2^62)(m:X.eraseIdx k=q0)(Z:o0.set i #[cr,q0]=m0)(u:#[ek])(L:#[eg,"pop"])(P:#[b3]):#[aF,#[g8,"pop"],v,m0]:=#[mz,ya,abk,Cl.mW h q R C r m Z]
theorem EV(h:#[hf])(m:y∈Y):∃x u,y=.str x u:=by have:=(uJ h).2 y m;cases y with|str x u=>exact#[au,x,u]|_=>exact this.elim
theorem EY{t:Tx}(h:#[hf]):Y.any (λv=>match v with|.str x _=>x.cps.toList==t|_=>ai)=f0.contains t:=by induction f0 generalizing Y with|nil=>cases h;rfl|cons a r Q=>cases h with|cons N a0=>obtain⟨x,u,rfl,e⟩:=N;rw[List.any_cons,Q a0,sW];show((x.cps.toList==t)||_)=_;rw[e,Bool.beq_comm]
theorem St.HP(h:#[gh])(c:X=ah f0):#[jK,.In,#[bo],#[ce],.bool (f0.contains t)]:=λA J O u v s Q E g M e T q=>by
 subst c;obtain⟨y,k,rfl,m⟩:=e;obtain⟨d,Y,F,rfl,P,p,a⟩:=M.tup T h;refine SeqAt.in_tupleAt (λv=>match v with|.str x _=>x.cps.toList==t|_=>ai) #[a8,p,_] (λz b=>?_) ?_;.obtain⟨x,u,rfl⟩:=EV a (Mp.mpr b);exact(BM rfl m _ _).at _ _
 .rw[<-Ml,EY a];exact#[aE,#[eq],rfl]
theorem St.Ju(h:#[gh])(c:X=ah f0):#[jK,.NotIn,#[bo],#[ce],#[cK,!f0.contains t]]:=λA J O u v s Q E g M e T q=>by
 subst c;obtain⟨y,k,rfl,m⟩:=e;obtain⟨d,Y,F,rfl,P,p,a⟩:=M.tup T h;refine SeqAt.notIn_tupleAt (λv=>match v with|.str x _=>x.cps.toList==t|_=>ai) #[a8,p,_] (λz b=>?_) ?_;.obtain⟨x,u,rfl⟩:=EV a (Mp.mpr b);exact(BM rfl m _ _).at _ _
 .rw[<-Ml,EY a];exact#[aE,#[eq],rfl]
def rp{O:Type}(c:List O)(g k:O->Tx)(r:#[bz]):Prop:=∃o:Tx->Tx,(∀a∈c,o (g a)=k a)/\∀l:#[bz],l.Perm (c.map g)->l.Pairwise (λa b=>o a<=o b)->l=r
theorem W.wu(F:#[w]){l:Type}{c:List l}{g Y:l->Tx}{x:aq}{z:lD}{r0:aP}{d:bq}{Q c0:aZ}(j:Nat)(w0:rp c g Y r)(o:cJ B w (n+2) S #[bQ] #[cZ,"sorted"])(u:#[ek])(I:Ev B w (n+2) S e U H #[ce] b0)(P:#[h6])(A:X=ah (c.map g))(b:#[aW,S.own,y])(k:y.name="<lambda>")(f:y.pos=Q)(E:#[eX])(T:#[lg])(L:iJ d.names []=R)(h:iu z [] d R 1)(C:#[ci,b0])(Z:∀a∈c,Ev B w n #[d7,d,S.fz] r0 (cP U (eJ S.sc.names d.names) [.str (g a)]) (b0++[#[ju,.expr,R]]) #[cV,Y,a] (b0++[#[ju,.expr,R]]))(G:c.length<64)(m:ah r=q0)(O:b0.length=q)(s:#[ef,b0]):Ev B w (n+2) S (.Call #[bQ] [e] #[ni,Q,c0] i0) U H (.ob q) m0:=by obtain⟨v,N,a0⟩:=w0;refine Ev.wu F j o u I P A b k f E T L h C (λt n0=>?_) (by rw[aQ];exact G) a0 m O s;obtain⟨a,M,rfl⟩:=bI.mp n0;rw[N a M];exact Z a M
def hD(l I0:Nat){O:Type}(c:List O)(g:O->V)(A:O->Bool)(f:O->V):Prop:=True
theorem Ls(N:fg B w n h g v s ae d)(a0:#[k5])(G:f.take k=t):∃d,fg B w n h g v s ae d/\#[aa,ae,∃f,#[k5]/\f.take k=t,d.take k=t]:=#[as,N,#[as,a0,G]]
theorem Lq{b:Bool}(N:fg B w n h g v s b d)(a0:b=ae->#[k5])(G:f.take k=t)(E:d.take k=t):∃d,fg B w n h g v s b d/\#[aa,b,∃f,#[k5]/\f.take k=t,d.take k=t]:=#[as,N,(by cases b with|true=>exact#[as,a0 rfl,G]|false=>exact E)]
end
theorem Kd{M:Nat}:oU M (-#[bi]) (-#[bi])=(M+1:Nat):=by unfold oU;have:((M:Int)- -#[bi]-1)/(- -#[bi])=M:=#[z];omega
theorem Xq{M:Nat}(h:M<2^62):tq M (-#[bi]) (-#[bi])=ae:=by unfold tq;rw[Kd];simp[NV,fe,qr,decide_eq_true_eq,beq_iff_eq,by omega,if_false];omega
section
variable{B:Bs}{w:aD}{n m:Nat}{S:Gm}{d0 g0:#[n]}{U x0:#[o]}{H b0 o0 w0 m0:#[l]}{a b c o:aP}{i0 y0:aZ}{l:#[y]}{h0:#[dB]}{J:aN}{O:#[s]}
theorem cg.Kc{M N:Nat}(i:#[jH])(u:cv [e,f,g]=ae)(h:#[b2,e,#[T,M]])(c0:#[bv,f,#[T,z]])(I:#[dR,g,o0,#[T,-#[bi]],w0])(j:-1<=z/\z<=0)(F:M<2^62)(o:N<=M+1)(y:tq M z (-#[bi])=ae)(C:oU M z (-#[bi])=N)(x:#[jR,(aW N).map,M-k]):#[nu]:=λA J O s Q E b a q=>by refine ib (i A _ _ _ _ s _ E b a ?_);rw[#[dE]];refine qZ (fV _ _) (eK ((cu.cons h (.cons c0 #[aY,I])) A _ _ s _ E b a λl k0 G c d=>?_));cases d with|cons d m=>cases m with|cons m v=>cases v with|cons v Z=>cases Z;obtain⟨t,rfl⟩:=d;obtain⟨r,rfl⟩:=m;obtain⟨T,rfl⟩:=v;refine call_range_3 #[f] (Bb c y C ?_ q) (Or.inl rfl);rw[<-x];apply lr;intro k C;rw[eH]at C;refine congrArg _ ?_;omega
theorem cg.Kb{M:Nat}(t:#[jH])(u:cv [e,f,g]=ae)(h:#[b2,e,#[T,M]])(c0:#[bv,f,#[T,-#[bi]]])(d:#[dR,g,o0,#[T,-#[bi]],w0])(a:M<2^62)(m:#[jR,(aW (M+1)).map,M-k]):#[nu]:=cg.Kc t u h c0 d #[f] a #[aO] (Xq a) Kd m
theorem Ke{M:Nat}:oU M (0:Nat) (-#[bi])=M:=by unfold oU;simp_all
theorem cg.Ws{M:Nat}(t:#[jH])(u:cv [e,f,g]=ae)(h:#[b2,e,#[T,M]])(c0:#[bv,f,#[T,(0:Nat)]])(d:#[dR,g,o0,#[T,-#[bi]],w0])(a:M<2^62)(m:#[jR,(aW M).map,M-k]):#[nu]:=cg.Kc t u h c0 d #[f] a (du _) (by unfold tq;rw[Ke];simp[NV,fe,qr,decide_eq_true_eq,beq_iff_eq,by omega,if_false];omega) Ke m
inductive jN(b0:#[l]):V->#[D]->(#[eR])->Prop where|list{i:Nat}{X:#[D]}:#[h6]->jN b0 #[ce] X (λH=>#[bR])|str{t:Tx}{X:#[D]}:(t.map λc=>#[dP])=X->jN b0 #[bo] X #[fX]
theorem cg.seq(h:#[aI,x])(z:jN b0 x X C):#[i1,a]:=by cases z with|list N=>exact cg.list h N|str N=>subst N;exact cg.str h
theorem Ev.split(N:t=ae->#[aI,u0])(a0:t=ai->#[b2,b,C0]):#[b2,#[aa,t,a,b],#[aa,t,u0,C0]]:=by cases t with|true=>exact N rfl|false=>exact a0 rfl
end
noncomputable def pL:List (String×af):=[("law",.ref 334),("_div2n1n",.ref 211),("_div3n2n",.ref 218),("_int2digits",.ref 225),("_digits2int",.ref 232),("_divmod_pos",.ref 239),("_iter_escaped_chars",.ref 246),("_strip_quoted_realnames",.ref 253),("_check_parenthesis",.ref 260),("_netrclex",.ref 298),("_law_lexer",.ref 309),("_law_spelled",.ref 314),("_law_tree",.ref 319),("_law_traded",.ref 324),("_law_due",.ref 329),("_ValueFormatter",.ref 116),("_Accumulator",.ref 200),("_twin_re_1",.ref 43)]
noncomputable def pv:List (String×af):=[("len",.builtin "len"),("range",.type "range"),("list",#[f4]),("min",.builtin "min"),("max",.builtin "max"),("sorted",.builtin "sorted"),("sum",.builtin "sum"),("reversed",.type "reversed"),("divmod",.builtin "divmod"),("zip",.type "zip"),("iter",.builtin "iter"),("str",.type "str"),("enumerate",.type "enumerate"),("super",.type "super")]
noncomputable def vf:#[s]:=[334,211,218,225,232,239,246,253,260,309,314,319,324,329]
structure Gl(B:Bs)(d0 g0:#[n]):Prop where
 gl:∀(j:Nat)(x:String)(u:af),#[aW,pL,(x,u)]->d0 (ak x)=aa u
 bl:∀(j:Nat)(x:String)(u:af),#[aW,pv,(x,u)]->d0 (ak x)=ab/\g0 (ak x)=aa u
 fn:∀a∈vf,∃f0,sT B a f0
 nb:(∃S,B.heap.Ns ia S/\S sharingNotToldKey=ab)/\#[al,ia]
 lim:∃t,d0 (ak "_DIV_LIMIT")=aa (.int 4000 t)
section
variable{B:Bs}{w:aD}{n m:Nat}{S:Gm}{d0 g0:#[n]}{U x0:#[o]}{H b0 o0 w0 m0:#[l]}{a b c:aP}{i0 y0:aZ}{l:#[y]}{h0:#[dB]}
theorem W.glob(F:#[w])(G:#[W])(i j:Nat)(b:#[aW,pL,(x,u)])(z:#[nP,x])(Z:(ak x=="__debug__")=ai):cJ B w n S #[aP,x,i0] u:=cJ.glob F i z (G.gl j x u b) Z
theorem W.eX(F:#[w])(G:#[W])(i j:Nat)(b:#[aW,pv,(x,u)])(z:#[nP,x])(Z:(ak x=="__debug__")=ai):cJ B w n S #[aP,x,i0] u:=cJ.eX F i z (G.bl j x u b).1 (G.bl j x u b).2 Z
theorem W.lim(F:#[w])(G:#[W])(i:Nat)(z:#[nP,"_DIV_LIMIT"]):#[aF,#[aP,"_DIV_LIMIT",i0],#[eM,4000],H]:=by obtain⟨t,n0⟩:=G.lim;exact Ev.zZ (cJ.glob F i z n0 #[ak])
theorem W.FL(G:#[W])(t:cJ B w n S #[bQ] #[cb])(c:f∈vf)(u:cv e=ae)(I:#[bx,cu,e,Y])(X:Fn B w m f n0 r)(d:eS b0 Y v n0)(a:m<=n)(P:v.Nodup)(b:∀x,r=.atom x->bR x=ae)(T:r.val b0.length=y)(Z:b0++r.obs=m0):#[aF,#[cR,#[bQ],e],y,m0]:=by obtain⟨f0,h⟩:=G.fn f c;exact W.uA t h u I d X a P b T Z
end
section
variable{B:Bs}{w:aD}{n m:Nat}{S:Gm}{d0 g0:#[n]}{U x0:#[o]}{H b0 o0 w0 m0:#[l]}{i0 y0 p:aZ}{J:aN}{O:#[s]}{l:#[y]}{h0:#[ay]}{a b c o:aP}
def fK(B:Bs)(w:aD)(n:Nat)(S:Gm)(e:aP)(U:#[o])(H:#[l])(v:V)(m0:#[l]):Prop:=#[kh,∀I L j,1<=L.toks->#[ep]->VR j I v->Q I L,#[gJ,e]]
def ez(B:Bs)(w:aD)(n:Nat)(S:Gm)(e:aP)(U:#[o])(H:#[l])(v:V)(m0:#[l]):Prop:=#[l9,1<=s.toks->#[bk]->#[ah]->(∀I L j,1<=L.toks->#[ep]->VR j I v->Q I L)->#[gJ,e]]
def lj(B:Bs)(w:aD)(n:Nat)(S:Gm)(e:#[a7,aP])(U:#[o])(H:#[l])(i:#[e4])(m0:#[l]):Prop:=#[kh,∀I L j,1<=L.toks->#[ep]->(∃p0,I=gg (i.map λk=>(k,p0)))->Q I L,#[aM,evalPart e J]]
theorem Ev.JB(h:#[bx,fK,a,v]):#[aI,v]:=#[kt,λI L j _=>q _ _ _]
theorem ez.of(h:#[aI,v]):#[bx,ez,a,v]:=λA J O s Q E n0 g M q=>kP n0 (h A _ _ s _ _ g M λI L j P r N=>q _ _ _ N P r)
theorem ez.JB(h:#[bx,fK,a,v]):#[bx,ez,a,v]:=λA J O s Q E n0 g M q=>h A _ _ s _ _ g M q
theorem lj.int:lj B w n S (aa (.Constant #[T,i] k i0)) U H (aa i) H:=λA J O s Q E g M q=>rj (k:=k) (pos:=i0) (q _ _ _ (xy 1 _) (#[hr].toks _) #[aU])
theorem fK.wq{c0 P:#[a7,aP]}{t u:Tx}{i j:#[e4]}(I:#[aI,#[bo]])(R:lj B w n S c0 U b0 i o0)(h:#[jF])(l:#[fU])(Y:cF t i j=u):fK B w n S (.Subscript a #[j9] i0) U H #[an,u] w0:=λA J O s Q E g M q=>lg (I A J O s _ E g M λu0 k0 G c f=>pk (R A J G k0 _ E g c.rel λC0 m T g0 y L=>kP g0 (h A J T m _ _ g y.rel λe0 r d0 v a0 h0=>by
 obtain⟨x,k,rfl,z⟩:=f;obtain⟨t0,rfl⟩:=L;obtain⟨x0,rfl⟩:=a0;refine az ⟨"str",_,DG.lookup,iE _ x k,kP h0 ?_⟩;refine PR (l:=i.map λq=>(q,t0)) (u:=j.map λq=>(q,x0)) (st:=ab) ⟨_,cm _ rfl,rfl,rfl⟩ rfl ?_;have Z:=((c.trans y).trans v).trans (aC.heap v.rel (t:=r.toks) (c0:=r.heap.push {cls:=.type "slice",data:=.fields #[gg (i.map λq=>(q,t0)),gg (j.map λq=>(q,x0)),.none]}) ((by simp)) λb o e=>bM _ e);have F:(i.map λq=>(q,t0)).map (·.1)=i:=by cases i<;>rfl
 have d:(j.map λq=>(q,x0)).map (·.1)=j:=by cases j<;>rfl
 unfold sliceMade slicePicked;rw[F,d];have f0:x.length=t.length:=by rw[<-z];rfl
 refine PB ⟨?_,λX C N=>q _ _ d0 N (Z.toks C) ⟨_,X,rfl,?_⟩⟩;.refine aH (Ph x i j) ?_;rw[f0];exact l
 .subst Y;rw[<-z];exact Ly x i j)))
theorem Jx(G:#[W])(g:GH B h):NoneBooked h:=by obtain⟨⟨S,N,a0⟩,a⟩:=G.nb;exact#[as,N.at' λo e=>g.2.1 _ o e a,a0]
theorem LN{x y:aq}(h:x.cps.toList=y.cps.toList):x=y:=by cases x;congr 1;exact Array.ext' h
theorem ez.replace(G:#[W]){G0 E0:aZ}{t u:Tx}(p:#[bx,ez,o,#[bo]])(Z:#[mS])(Y:#[e5,(oZ (cq t) y z),u])(L:#[eg,"replace"])(P:#[b3]):#[bx,ez,#[mt],#[an,u]]:=λA J O s Q E n0 g M q=>by refine pj (L _) rfl P (dn _ _ rfl) (p A _ _ s _ E n0 g M λu0 k0 b h c f=>?_);obtain⟨i,d⟩:=(#[co,VT _ #[bo] _]).typeIs c.rel f;refine⟨_,_,lG,OK,OP,i,d,?_⟩;refine kx #[p] (eK (iA (nQ (iA (nQ (lE ?_))))));obtain⟨x,k,rfl,a⟩:=f;have R:=kg a;subst R;have T:#[t,cq,t]=t.length:=#[p];refine kP (by show 1<=k0.toks+1+1;omega) ?_;refine SC.replaceA (hj h) (NF _) (cz (hG _)) (Z) (λX F N=>(q _ _ _ N (c.toks _) #[cw,_,Y])) (Jx G c.rel.gh)
theorem fK.replace(G:#[W]){G0 E0:aZ}{t u:Tx}(p:#[bx,fK,o,#[bo]])(Z:#[mS])(Y:#[e5,(oZ (cq t) y z),u])(L:#[eg,"replace"])(P:#[b3]):#[bx,fK,#[mt],#[an,u]]:=λA J O s Q E g M q=>by refine pj (L _) rfl P (dn _ _ rfl) (#[aA,p,λu0 k0 b h c f=>?_]);obtain⟨i,d⟩:=(#[co,VT _ #[bo] _]).typeIs c.rel f;refine⟨_,_,lG,OK,OP,i,d,?_⟩;refine kx #[p] (eK (iA (nQ (iA (nQ (lE ?_))))));obtain⟨x,k,rfl,a⟩:=f;have R:=kg a;subst R;have T:#[t,cq,t]=t.length:=#[p];refine kP (by show 1<=k0.toks+1+1;omega) ?_;refine SC.replaceA (hj h) (NF _) (cz (hG _)) (Z) (λX F N=>(q _ _ _ N (c.toks _) #[cw,_,Y])) (Jx G c.rel.gh)
theorem W.Bh(G:#[W]){t u:Tx}(p:#[bx,fK,o,#[bo]])(Z:#[mS])(Y:#[e5,(oZ (cq t) y z),u])(L:#[eg,"replace"])(P:#[b3]):#[b2,#[mt],#[an,u]]:=Ev.JB (fK.replace G p Z Y L P)
end
namespace au
open Lean Meta Elab Tactic
def jl(e:er):en (Option String):=do
 let e<-fi e
 match e.getAppFnArgs with
  |(``ak,#[.lit (.strVal v)])=>return aa v
  |_=>
   let e<-whnfR e;match e.getAppFnArgs with|(``ak,#[.lit (.strVal v)])=>return aa v|_=>return ab
def gF:Nat->er->en (Option (List er))
 |0,_=>return ab
 |k+1,e=>do
  let e<-bY e
  match e.getAppFnArgs with
   |(``qB,_)=>return aa []
   |(``CB,#[_,a,l])=>
    do
     let aa r<-gF k l|return ab
     return aa (a::r)
   |_=>return ab
def vJ(e:er):en (List (String×hi)):=do
 let L<-bY e
 let aa l<-gF 200 L|throwError"names"
 l.mapM λp=>do
  let p<-bY p
  match p.getAppFnArgs with
   |(``Prod.mk,#[_,_,x,k])=>
    do
     let aa s<-jl x|throwError"name {x}"
     return(s,(<-bY k).getAppFn.constName?.getD .anonymous)
   |_=>throwError"pair"
def pO(S:er):en (List (String×hi)):=do vJ (<-jO ``OX #[<-jO ``Gm.sc #[S]])
def bS(g:fh)(l0:hi)(o:List (hi×er):=[])(r:Bool:=ai):en (List fh):=g.withContext do
 let c<-mkConstWithFreshMVarLevels l0;let C<-xe c;let(f,B,T)<-xd C;let mut t:=C
 for i in[0:f.size]do
  match t with
   |.forallE d _ b _=>
    for(a,v)in o do if a==d then unless<-hE f[i]! v do throwError"argument {d}"
    t:=b
   |_=>av ()
 let G<-g.getType;unless<-(if r then jm (hE G T)else hE G T)do throwError"rule {l0} does not fit {<-g.getType}"
 g.assign (nx c f);let mut u:=#[]
 for i in[0:f.size]do
  if B[i]!.isExplicit then
   let m:=f[i]!.mvarId!;unless<-m.isAssigned do if<-afd (<-m.getType)then u:=u.push m
 return u.toList
def fF(g:fh)(b:String):iS Bool:=do
 let .ok S:=akf (<-getEnv) `tactic ("("++b++")")|throwError"byTac"
 let s<-saveState
 try
  let n<-Term.withoutErrToSorry<|Tactic.run g (akb (evalTactic S));if n.isEmpty then return ae
  s.restore;return ai catch _=>
  s.restore;return ai
def natVal:Nat->er->en (Option Nat)
 |0,_=>return ab
 |k+1,e=>do
  if let aa n<-xc e then return aa n
  let e<-bY e;match e with|.lit (.natVal n)=>return aa n|_=>match e.getAppFnArgs with|(``Nat.zero,_)=>return aa 0|(``iw,#[a])=>return(<-natVal k a).map (·+1)|_=>xc e
def Vn(g:fh):en Bool:=g.withContext do
 let T<-fi (<-g.getType)
 let aa (O,l,r):=T.eq?|return ai
 unless r.isMVar do
  if<-hE l r then
   g.assign (<-nv l);return ae
  return ai
 let b<-whnfR O
 let v<-match b.getAppFnArgs with
  |(``List,#[d])=>
   do
    let aa a<-gF 500 l|return ai
    let a<-a.mapM fi
    let a<-if d.isAppOf ``Option then
     a.mapM λe=>do
      let w<-bY e;if w.isAppOf ``aa&&(w.getArg! 1).isMVar then av e else av w else av a
    qt d a
  |(``Nat,_)=>do match<-natVal 200 l with|aa k=>av (ml k)|ab=>bY l
  |(``Bool,_)=>
   do
    let e<-bY l;if e.isConstOf ``ae||e.isConstOf ``ai then av e else av l
  |_=>
   do
    let e<-bY l;if e.isAppOf ``V.ob then match<-natVal 200 (e.getArg! 0)with|aa n=>av (aei (mkConst ``V.ob) (ml n))|ab=>av e else av e
 unless<-hE r v do return ai
 g.assign (<-nv v);return ae
def cV(e:er):hi:=e.getAppFn.constName?.getD .anonymous
def uT(g:fh):en Bool:=g.withContext do
 let n0:=(<-getLCtx).foldl (λ(l:List xb)d=>d::l) []
 for d in n0 do
  if d.isImplementationDetail then continue
  let t<-fi d.type;unless t.isForall do continue
  let s<-saveState;let(f,B,T)<-xd t
  if T.eq?.isSome||cV T==``LE.le||cV T==``LT.lt then
   if<-jm (hE (<-g.getType) T)then
    let mut M:=ae
    for m in f do
     if M then
      unless<-m.mvarId!.isAssigned do
       if<-afd (<-xe m)then
        M<-(try
         do
          jm m.mvarId!.assumption;av ae catch _=>av ai)
    for m in f do if M then M<-m.mvarId!.isAssigned
    if M then
     g.assign (nx d.toExpr f);return ae
  s.restore
 return ai
def KS(g:fh):iS Bool:=do
 if<-g.isAssigned then return ae
 let T<-fi (<-g.getType)
 if<-(try
  (do
   jm g.assumption;return ae)catch _=>av ai)then return ae
 if let aa (O,l,r):=T.eq? then
  if cV l==``eJ then
   let L<-vJ (l.getArg! 0);let I<-vJ (l.getArg! 1);let o:=aei (mkConst ``Option [levelZero]) (mkConst ``Nat);let G<-I.mapM λ(x,k)=>do match(if k==``jt then L.findIdx? (λ(y,F0)=>y==x&&(F0==``tz||F0==``jt))else ab)with|aa j=>jO ``aa #[ml j]|ab=>av (aei (mkConst ``ab [levelZero]) (mkConst ``Nat))
   let v<-qt o G
   if<-hE r v then
    g.assign (<-nv v);return ae
   return ai
  if cV l==``kK then return<-fF g "kernel_rfl"
  if<-(try uT g catch _=>av ai)then return ae
  unless r.hasExprMVar do
   let s<-saveState;let H<-Cu (<-mkEq r l)
   let M<-(try
    do
     (jm H.mvarId!.assumption);av ae catch _=>(try uT H.mvarId! catch _=>av ai))
   if M then
    g.assign (<-mkEqSymm H);return ae
   s.restore
  if<-(try Vn g catch _=>av ai)then return ae
  if<-(try
   (g.withContext do
    g.refl;return ae)catch _=>av ai)then return ae
  if(<-whnfR O).isConstOf ``Bool then if<-fF g "decide +kernel"then return ae
  if<-fF g "omega"then return ae
  return<-fF g "simp"
 match cV T with
  |``Or=>
   if<-fF g "exact .inl rfl"then return ae
   if<-fF g "exact .inr rfl"then return ae
   if<-fF g "exact .inr ⟨rfl, by decide +kernel⟩"then return ae
   fF g "exact .inr ⟨rfl, List.elem_iff.mp (by kernel_rfl)⟩"
  |``LT.lt|``LE.le=>
   if(<-whnfR (T.getArg! 0)).isConstOf ``Nat then
    if(T.find? (·.isConstOf ``gI)).isSome then if<-fF g "exact Nat.le_of_ble_eq_true rfl"then return ae
    unless(T.hasFVar)do if<-fF g "decide +kernel"then return ae
   if<-fF g "omega"then return ae
   if<-(try uT g catch _=>av ai)then return ae
   fF g "exact Nat.le_of_ble_eq_true rfl"
  |``Ne|``Not|``GT.gt|``GE.ge=>
   if<-fF g "omega"then return ae
   fF g "decide +kernel"
  |``Exists=>fF g "exact ⟨_, rfl⟩"
  |``MA|``Membership.mem=>fF g "decide +kernel"
  |_=>
   if T.isForall then
    if<-fF g "intros; rfl"then return ae
    if<-fF g "intros; trivial"then return ae
    if<-fF g "(intro x e; cases e; rfl)"then return ae
    if<-fF g "exact BX (by first | rfl | decide +kernel)"then return ae
    if<-fF g "intro x e; cases e"then return ae
    let s<-saveState;let(_,J)<-g.intros;if<-(try uT J catch _=>av ai)then return ae
    s.restore;return ai else return ai
def ih(h:hi):en (Option er):=do
 for d in<-getLCtx do
  if d.isImplementationDetail then continue
  let t<-fi d.type;if cV t==h then return aa d.toExpr
 return ab
def nj(g:fh)(h:hi):en (Option (List fh)):=g.withContext do
 let n0:=(<-getLCtx).foldl (λ(l:List xb)d=>d::l) []
 for d in n0 do
  if d.isImplementationDetail then continue
  let t<-fi d.type;let s<-saveState;let(f,B,T)<-xd t
  if cV T==h then
   if<-(try hE (<-g.getType) T catch _=>av ai)then
    g.assign (nx d.toExpr f);let mut u:=#[];for i in[0:f.size]do unless<-f[i]!.mvarId!.isAssigned do if<-afd (<-xe f[i]!)then u:=u.push f[i]!.mvarId!
    return aa u.toList
  s.restore
 return ab
def RW(a b:er):en Bool:=do
 if<-jm (hE a b)then return ae
 let aa l<-gF 100 a|return ai
 let aa m<-gF 100 b|return ai
 unless l.length==m.length do return ai
 for(x,y)in l.zip m do
  let x<-fi x;let y<-fi y;let X<-jm (bY x);let Y<-jm (bY y);let M<-if X.isAppOf ``Ob.raw&&Y.isAppOf ``Ob.raw then hE x y else jm (hE x y)
  unless M do return ai
 return ae
def YQ(g:fh):en (Option (List fh)):=g.withContext do
 let G:=(<-fi (<-g.getType)).consumeMData;let n0:=(<-getLCtx).foldl (λ(l:List xb)d=>d::l) []
 for d in n0 do
  if d.isImplementationDetail then continue
  let t<-fi d.type;let s<-saveState;let(f,B,T)<-xd t
  if cV T==``aj then
   let M<-(try
    do
     if<-hE (G.getArg! 4) (T.getArg! 4)<&&>hE (G.getArg! 3) (T.getArg! 3)then
      jm do
       let mut M:=ae;for i in[0,1,2,5,7]do if M then M<-hE (G.getArg! i) (T.getArg! i)
       if M then M<-withDefault (RW (G.getArg! 6) (T.getArg! 6))
       return M else return ai catch _=>av ai)
   if M then
    g.assign (nx d.toExpr f);let mut u:=#[];for i in[0:f.size]do unless<-f[i]!.mvarId!.isAssigned do if<-afd (<-xe f[i]!)then u:=u.push f[i]!.mvarId!
    return aa u.toList
  s.restore
 return ab
def hS(e:Nat):er:=ml e
def FX(e:er):en (List fh×List (hi×er)):=do
 let aa [g]<-gF 5 (e.getArg! 1)|throwError"one clause"
 let g<-bY g;let t<-bY (g.getArg! 0)
 let aa x<-jl (t.getArg! 0)|throwError"name"
 let L<-vJ (<-jO ``OX #[e.getArg! 2])
 let aa i:=L.findIdx? (·.1==x)|throwError"clause's name"
 let n0:=(<-getLCtx).foldl (λ(l:List xb)d=>d::l) []
 for d in n0 do
  if d.isImplementationDetail then continue
  let t<-fi d.type
  if cV t==``hD then
   let p<-bY (e.getArg! 3);if(<-natVal 100 (t.getArg! 0))==(<-natVal 100 (p.getArg! 0))&&(<-natVal 100 (t.getArg! 1))==(<-natVal 100 (p.getArg! 1))then return([],[(`c,t.getArg! 3),(`g,t.getArg! 4),(`A,t.getArg! 5),(`f,t.getArg! 6),(`i,hS i)])
 throwError"no CompSpec"
def XI:List hi:=[``St.rt,``St.vI,``St.Jl,``St.va,``St.so,``St.vE,``St.vR,``St.ur,``St.FG,``St.zl,``St.vm,``St.vo,``St.ail,``St.HK,``St.HX,``St.HL,``St.HW,``St.HH,``St.HI,``St.HJ,``St.zM,``St.AP,``St.Ja,``St.Iy,``St.vj,``St.HG,``St.add,``St.sub,``St.mul,``St.zb,``St.zh,``St.zk,``St.Bn,``St.AG,``St.pow,``St.fdiv,``St.mod,``St.agl,``St.Ig,``St.Ah,``St.Ac,``St.Ad,``St.Ae,``St.Al,``St.Af,``St.Ak,``St.vn,``St.Ag,``St.eq,``St.ne,``St.lt,``St.le,``St.gt,``St.ge,``St.Bw,``St.Ie,``St.seq,``St.qf,``St.BB,``St.HQ,``St.Jv,``St.kT,``St.Am,``St.Ia]
def XM:List hi:=[``St.rZ,``St.It,``St.HN,``St.HP,``St.Ju]
def jd(g:fh)(l:List hi)(r:Bool:=ai):en (List fh):=do
 for l0 in l do
  let s<-saveState;try return<-bS g l0 [] r catch _=>s.restore
 throwError"no rule for {<-g.getType}"
def Rd:List hi:=[``Cl.Gn,``Cl.Iz,``Cl.Av,``Cl.append,``Cl.reverse,``Cl.Jd,``Cl.IG,``Cl.IF,`Mine.Cl.SW]
def UY:List (String×List hi):=[("bit_length",[``W.FC]),("append",[``W.append]),("reverse",[``W.reverse]),("join",[``W.join]),("index",[``W.vp]),("pop",[``W.mW]),("split",[`Mine.W.split])]
def Ip(t:er):iS (Option (Bool×er)):=do
 let t<-fi t;let y<-(jm (bY t):en _);if y.isConstOf ``ae then return aa (ae,<-nv t)
 if y.isConstOf ``ai then return aa (ai,<-nv t)
 for d in<-getLCtx do
  if d.isImplementationDetail then continue
  let a<-fi d.type
  let aa (_,l,r):=a.eq?|continue
  unless r.isConstOf ``ae||r.isConstOf ``ai do continue
  if<-jm (hE l t)then return aa (r.isConstOf ``ae,d.toExpr)
 unless t.hasFVar do
  let y<-(whnfD t:en _);if y.isConstOf ``ae then return aa (ae,<-nv t)
  if y.isConstOf ``ai then return aa (ai,<-nv t)
 for b in[ae,ai]do
  let m<-Cu (<-mkEq t (mkConst (if b then``ae else``ai)));if<-fF m.mvarId! "first | exact decide_eq_true (by omega) | exact decide_eq_false (by omega) | exact beq_iff_eq.mpr (by omega) | exact beq_eq_false_iff_ne.mpr (by omega) | exact bne_iff_ne.mpr (by omega) | exact bne_eq_false_iff_eq.mpr (by omega)"then return aa (b,<-fi m)
 return ab
def rP(g:fh)(l0:hi)(o:List (hi×er):=[]):en (List fh):=g.withContext do
 for d in<-getLCtx do
  if d.isImplementationDetail then continue
  let t<-fi d.type
  if cV t==`Mine.hc then
   let s<-saveState;try return<-bS g l0 ((`m,d.toExpr)::o)catch _=>s.restore
 throwError"no class for {l0}"
def one(g:fh):iS (List fh):=g.withContext do
 let T<-fi (<-g.getType);let T:=T.consumeMData.headBeta
 match cV T with
  |``hO|``mr=>
   do
    let aa t<-Mz T|throwError"unfold"
    return[<-g.change (<-whnfCore t)]
  |``cu=>
   do
    let d<-bY (T.getArg! 4);if cV d==``qB then bS g ``cu.nil else bS g ``cu.cons
  |``fg=>
   do
    let d<-bY (T.getArg! 4);if cV d==``qB then bS g ``fg.nil else bS g ``fg.one
  |``mD=>
   do
    let aa t<-Mz T|throwError"unfold"
    let g<-g.change (<-whnfCore t);let(_,g)<-g.intro `q0
    g.withContext do
     let b<-bY (T.getArg! 8)
     if b.isConstOf ``ae then bS g ``Ls else
      let n<-bS g ``Lq
      n.mapM λh=>do
       let n0<-fi (<-h.getType)
       if n0.isArrow then
        do
         let(_,h)<-h.intro `Z;return h else return h
  |``fK=>
   do
    let e<-bY (T.getArg! 4)
    match cV e with
     |``Dx=>bS g ``fK.wq
     |``Dv=>
      let aa G<-ih ``Gl|throwError"no Gl"
      bS g ``fK.replace [(`G,G)]
     |_=>throwError"Ev1 {cV e}"
  |``lj=>bS g ``lj.int
  |`Mine.cy=>jd g [`Mine.cy.de,`Mine.cy.acc]
  |``jN=>jd g [``jN.list,``jN.str]
  |``iI=>jd g [``iI.list,``iI.tup,``iI.str]
  |``jY=>jd g [``jY.str,``jY.list]
  |``dX=>
   do
    let e<-bY (T.getArg! 4);bS g (if e.isAppOf ``ab then``dX.none else``dX.some)
  |``gP=>jd g [``gP.ret,``gP.next]
  |``iu=>
   do
    if let aa n<-nj g ``iu then return n
    throwError"no FnSt"
  |``dx=>jd g [``dx.tup,``dx.list,``dx.atom,``dx.none]
  |``eS=>jd g [``eS.nil,``eS.atom,``eS.list,``eS.tup]
  |``fp=>
   do
    if let aa n<-nj g ``fp then return n
    let x<-bY (T.getArg! 5);let y<-bY (T.getArg! 6);if x.isAppOf ``V.ob||y.isAppOf ``V.ob then try return<-jd g XM ae catch _=>av ()
    try bS g ``W.step catch _=>throwError"step"
  |``aG=>
   do
    if let aa n<-jm (nj g ``aG)then return n
    jd g XI ae
  |``cJ=>
   do
    let e<-bY (T.getArg! 4);let S:=T.getArg! 3
    let aa x<-jl (e.getArg! 0)|throwError"global's name"
    let L<-pO S
    let aa i:=L.findIdx? (·.1==x)|throwError"not a name of the frame: {x}"
    let aa F<-ih ``aK|throwError"no Found"
    let aa G<-ih ``Gl|throwError"no Gl"
    let u(c:hi):en (Option Nat):=do
     let aa l<-gF 100 (mkConst c)|return ab
     let mut k:=0
     for p in l do
      let p<-bY p;if p.getArg! 2==.lit (.strVal x)then return aa k
      k:=k+1
     return ab
    if let aa j<-u ``pL then return<-bS g ``W.glob [(`F,F),(`G,G),(`i,hS i),(`j,hS j)]
    if let aa j<-u ``pv then return<-bS g ``W.eX [(`F,F),(`G,G),(`i,hS i),(`j,hS j)]
    throwError"global {x}"
  |``Fn=>
   do
    if let aa n<-nj g ``Fn then return n
    throwError"no contract"
  |``bW=>
   do
    if let aa n<-nj g ``bW then return n
    jd g Rd ae
  |``dq=>jd g [``dq.Jn,``dq.int,``dq.bool,``dq.none,``dq.str,``dq.list,``dq.tup] ae
  |``dA=>
   do
    let I<-bY (T.getArg! 4);let d<-bY (T.getArg! 5);if cV d==``qB then bS g (if cV I==``NN then``dA.yO else``dA.vO)else bS g ``dA.cons
  |``dg=>
   do
    let I<-bY (T.getArg! 4);let t:=T.getArg! 5
    let aa (b,r)<-Ip t|throwError"test not known: {t}"
    let l0:=if cV I==``NN then(if b then``dg.pq else``dg.ue)else(if b then``dg.JG else``dg.ma);bS g l0 [(`n0,r)]
  |``Et=>
   do
    if let aa n<-nj g ``Et then return n
    let e<-bY (T.getArg! 4);match cV e with|``Ol=>bS g ``Et.ht|``PySem.Expr.BoolOp=>bS g ``Et.pw|``Oo=>do if cV (<-bY (e.getArg! 0))==``Dw then bS g ``Et.Jy else bS g ``Et.val|_=>bS g ``Et.val
  |``Ev=>
   do
    if(T.getArg! 4).isAppOf ``ite then return<-bS g ``Ev.split
    if let aa n<-nj g ``Ev then return n
    let e<-bY (T.getArg! 4);let S:=T.getArg! 3
    match cV e with
     |``PySem.Expr.Constant=>
      do
       let c<-bY (e.getArg! 0);if c.isAppOf ``PySem.Const.int then if let aa v:=(c.getArg! 0).int? then if v>=0 then return<-bS g ``W.ka [(`q,hS v.toNat)]
       if c.isAppOf ``PySem.Const.str then
        if let aa v<-jl (c.getArg! 0)then
         let t<-qt (mkConst ``Nat) (v.toList.map λE=>ml E.toNat);let s<-saveState
         try
          let n<-bS g ``W.mJ [(`t,t)]
          for h in n do
           let T<-fi (<-h.getType)
           let aa (_,l,_):=T.eq?|throwError"W.cStr"
           h.assign (<-nv l)
          return[]catch _=>s.restore
       jd g [``Ev.mI,``Ev.mJ,``Ev.zm,``Ev.rD]
     |``hL=>
      do
       let aa x<-jl (e.getArg! 0)|throwError"name"
       let L<-pO S
       let aa i:=L.findIdx? (·.1==x)|throwError"not a name of the frame: {x}"
       let aa (_,k):=L[i]?|throwError"name"
       if k==``nK then
        if x=="_DIV_LIMIT"then
         let aa F<-ih ``aK|throwError"no Found"
         let aa G<-ih ``Gl|throwError"no Gl"
         return<-bS g ``W.lim [(`F,F),(`G,G),(`i,hS i)]
        throwError"a global as a value"
       bS g ``Ev.name [(`i,hS i)]
     |``PySem.Expr.BinOp=>bS g ``Ev.mH
     |``Ol=>bS g ``Ev.ht
     |``PySem.Expr.List=>bS g ``W.mS
     |``Dy=>bS g ``W.tup
     |``Dv=>
      do
       let f<-bY (e.getArg! 0)
       match cV f with
        |``hL=>
         do
          let aa G<-ih ``Gl|throwError"no Gl"
          let s<-saveState
          let aa x<-jl (f.getArg! 0)|throwError"name"
          let L<-pO S
          if(match L.find? (·.1==x)with|aa (_,k)=>k !=``nK|ab=>ai)then
           let aa F<-ih ``aK|throwError"no Found"
           return<-bS g ``Ev.FI [(`F,F)]
          if x=="sorted"then
           let aa F<-ih ``aK|throwError"no Found"
           let aa P<-ih ``rp|throwError"no SortSpec"
           let aa [m]<-gF 5 (e.getArg! 2)|throwError"sorted's keyword"
           let m<-bY m;let B<-bY (m.getArg! 1)
           let aa w<-gF 20 (<-jO ``Gm.own #[S])|throwError"sites"
           let mut j:=0
           for st in w do
            if<-hE (<-jO ``fD.pos #[st]) (B.getArg! 3)then return<-bS g ``W.wu [(`F,F),(`j,hS j),(`w0,P)]
            j:=j+1
           throwError"no site"
          let A:=!["len","range","list","min","max","sorted","sum","reversed","divmod","zip","iter","str","enumerate"].contains x;if A then bS g ``W.FL [(`G,G)]else if["range","list","reversed","zip","str","enumerate"].contains x then bS g ``Ev.rF else bS g ``Ev.px
        |``xW=>
         do
          let aa x<-jl (f.getArg! 1)|throwError"method"
          if x=="replace"then
           let aa G<-ih ``Gl|throwError"no Gl"
           return<-bS g ``W.Bh [(`G,G)]
          match UY.lookup x with
           |aa l=>try jd g l catch _=>rP g `Mine.Ev.lX
           |ab=>
            if x=="read"then
             let aa F<-ih ``aK|throwError"no Found"
             let aa G<-ih ``Gl|throwError"no Gl"
             return<-bS g `Mine.Ev.Rc [(`F,F),(`G,G)]
            rP g `Mine.Ev.lX
        |_=>throwError"call"
     |``xW=>rP g `Mine.Ev.nU
     |``Oo=>bS g ``Ev.neg
     |``Om=>
      do
       let aa F<-ih ``aK|throwError"no Found"
       let(n,o)<-FX e;return<-bS g ``Ev.FY (o++[(`F,F)])
     |``PySem.Expr.IfExp=>bS g ``Ev.ite
     |``Dx=>
      do
       let i<-bY (e.getArg! 1);if cV i==``PySem.Expr.Slice then return<-bS g ``Ev.slice
       bS g ``Ev.sub
     |_=>throwError"expression {cV e}"
  |``cg=>
   do
    if let aa n<-nj g ``cg then return n
    let e<-bY (T.getArg! 4)
    if cV e==``Dv then
     let f<-bY (e.getArg! 0)
     if cV f==``hL then
      if(<-jl (f.getArg! 0))==aa "range"then
       let aa z<-gF 5 (e.getArg! 1)|throwError"range"
       return<-bS g (if z.length==1 then``cg.JZ else if z.length==2 then``cg.Ka else``cg.Kb)
      if(<-jl (f.getArg! 0))==aa "reversed"then return<-bS g ``cg.rev
    bS g ``cg.seq
  |``aj=>
   do
    if(T.getArg! 5).isAppOf ``List.set then
     if let aa Y<-gF 300 (T.getArg! 5)then
      let q<-jO ``Option #[mkConst ``V];return[<-g.change (nx T.getAppFn (T.getAppArgs.set! 5 (<-qt q (<-Y.mapM fi))))]
    if let aa n<-YQ g then return n
    let c<-bY (T.getArg! 4);let S:=T.getArg! 3;if cV c==``qB then return<-bS g ``aj.nil
    if cV c !=``CB then throwError"block"
    let x<-bY (c.getArg! 1)
    let N(e:er):en Nat:=do
     let e<-bY e
     let aa x<-jl (e.getArg! 0)|throwError"name"
     let L<-pO S
     let aa i:=L.findIdx? (·.1==x)|throwError"not a name of the frame: {x}"
     return i
    match cV x with
     |``PySem.Stmt.Assign=>
      do
       let aa [t]<-gF 5 (x.getArg! 0)|throwError"targets"
       let t<-bY t
       match cV t with
        |``hL=>
         do
          if cV (<-bY (x.getArg! 1))==``Om then
           let aa l0<-jl (t.getArg! 0)|throwError"name"
           if((<-pO S).lookup l0)==aa ``PySem.NameKind.local then
            let aa F<-ih ``aK|throwError"no Found"
            let(_,o)<-FX (<-bY (x.getArg! 1));return<-bS g ``aj.pZ (o++[(`F,F),(`j,hS (<-N t))])
          bS g ``W.set [(`i,hS (<-N t))]
        |``Dx=>bS g ``aj.KL
        |``xW=>rP g `Mine.aj.oE
        |``Dy=>
         do
          let aa [a,b]<-gF 5 (t.getArg! 0)|throwError"two names"
          let v<-bY (x.getArg! 1);bS g (if cV v==``Dy then``W.KG else``W.KE) [(`i,hS (<-N a)),(`j,hS (<-N b))]
        |_=>throwError"target"
     |``PySem.Stmt.AugAssign=>
      do
       let t<-bY (x.getArg! 0);match cV t with|``hL=>bS g ``W.rv [(`i,hS (<-N t))]|``xW=>rP g `Mine.aj.QQ|_=>throwError"target"
     |``PySem.Stmt.Return=>
      do
       let v<-bY (x.getArg! 0);bS g (if v.isAppOf ``ab then``aj.Kn else``aj.ret)
     |``Pe=>
      do
       let aa l0<-jl (x.getArg! 0)|throwError"name"
       let L<-pO S
       let aa i:=L.findIdx? (·.1==l0)|throwError"not a name of the frame: {l0}"
       let aa F<-ih ``aK|throwError"no Found"
       let aa w<-gF 20 (<-jO ``Gm.own #[S])|throwError"sites"
       let mut j:=0
       for st in w do
        if<-hE (<-jO ``fD.pos #[st]) (x.getArg! 9)then return<-bS g ``aj.Ge [(`F,F),(`i,hS i),(`j,hS j)]
        j:=j+1
       throwError"no site"
     |``PySem.Stmt.If=>bS g ``aj.ite
     |``PySem.Stmt.Break=>bS g ``aj.brk
     |``PySem.Stmt.Continue=>bS g ``aj.cont
     |``PySem.Stmt.Expr=>bS g ``aj.expr
     |_=>throwError"statement {cV x}"
  |h=>throwError"goal {h}"
def LK(g:fh):en fh:=g.withContext do
 let T:=(<-fi (<-g.getType)).consumeMData;unless cV T==``aj do return g
 let U:=T.getArg! 5;unless U.isAppOf ``qm do return g
 let S:=T.getArg! 3
 let b<-(match S.getAppFnArgs with
  |(``ey,#[j0,k,E0])=>do
   let F0<-bY k
   let aa a<-xc F0|match F0 with|.lit (.natVal v)=>return ael (mkConst ``ey) j0 (ml v) E0|_=>return S
   return ael (mkConst ``ey) j0 (ml a) E0
  |_=>av S:en er)
 let aa Y<-gF 200 U|return g
 let aa H<-gF 200 (T.getArg! 6)|return g
 let Y<-Y.mapM λv=>do
  let v<-bY v;match v.getAppFnArgs with|(``aa,#[O,x])=>return qu v.getAppFn O (<-bY x)|_=>return v
 let H<-H.mapM bY;let h0:=T.getArg! 7
 let m<-(match h0.getAppFnArgs with
  |(``dx,#[k,r])=>do match<-bY k with|.lit (.natVal v)=>return qu (mkConst ``dx) (ml v) r|F0=>match<-xc F0 with|aa v=>return qu (mkConst ``dx) (ml v) r|ab=>return h0
  |_=>av h0:en er)
 let q<-jO ``Option #[mkConst ``V];g.change (nx T.getAppFn ((((T.getAppArgs.set! 3 b).set! 5 (<-qt q Y)).set! 6 (<-qt (mkConst ``Ob) H)).set! 7 m))
def LY:List hi:=[``Ev,``cu,``aj,``Et,``fp,``aG,``cJ,``Fn,``bW,``eS,``hO,``mr,``dx,``gP,``iI,``jY,``dX,``iu,``dq,``dA,``dg,``cg,``fg,``mD,``fK,``lj,``jN,`Mine.cy]
def VX(g:fh):iS (Option fh):=g.withContext do
 let T:=(<-fi (<-g.getType)).consumeMData;unless cV T==``aj||cV T==``Ev do return ab
 let i:=4;let c:=T.getArg! i;unless c.isAppOf ``ite do return ab
 let p:=c.getArg! 1
 let aa (_,t,_):=p.eq?|return ab
 let aa (b,r)<-Ip t|return ab
 let a:=if b then c.getArg! 3 else c.getArg! 4;let n:=nx T.getAppFn (T.getAppArgs.set! i a);let m<-Cu n
 let M<-afq `b (mkConst ``Bool) λb=>do
  let I<-mkAppOptM ``ite #[ab,<-mkEq b (mkConst ``ae),ab,c.getArg! 3,c.getArg! 4];afp #[b] (nx T.getAppFn (T.getAppArgs.set! i I))
 g.assign (<-mkEqNDRec M m (<-mkEqSymm r));return aa m.mvarId!
def Ld(w:MessageData)(t:Nat):iS Unit:=do
 let X<-Cp;if X-t>20000000 then xf m!"slow {(X-t)/1000000}: {w}"
def run:Nat->List fh->List fh->iS (List fh)
 |0,n,L=>return n++L
 |_,[],[]=>return[]
 |k+1,[],L=>do
  let mut u:=#[];for g in L do unless<-g.isAssigned do unless<-KS g do u:=u.push g
  return u.toList
 |k+1,g::n,L=>do
  if<-g.isAssigned then return<-run k n L
  let T:=(<-fi (<-g.getType)).consumeMData.headBeta
  if T.isForall&&LY.contains (cV T.getForallBody)then
   let(_,J)<-g.intros;return<-run k (J::n) L
  if LY.contains (cV T)then
   if let aa J<-tryCatchRuntimeEx (VX g) (λe=>do
    xf m!"arm: {e.toMessageData}";return ab)then return<-run k (J::n) L
   let s<-saveState;let b0<-Cp
   let r<-tryCatchRuntimeEx (Except.ok<$>one g) λe=>do
    let m<-e.toMessageData.toString;av (Except.error m)
   Ld m!"{T}" b0
   match r with
    |.ok l=>run k (l++n) L
    |.error m=>
     do
      s.restore;xf m!"walk stops: {m}";return g::(n++L)else if T.hasExprMVar&&T.eq?.isNone then run k n (L++[g])else
   let b0<-Cp;let s<-saveState
   let r<-tryCatchRuntimeEx (KS g) λe=>do
    s.restore;xf m!"side goal: {T}: {e.toMessageData}";av ai
   Ld m!"{T}" b0
   if r then run k n L else
    do
     let r<-run k n L;return g::r
def Yn:iS Unit:=do
 let n<-My;setGoals (<-n.mapM λg=>(LK g:en _))
def aI:iS Unit:=do
 let n<-My;let n<-n.mapM λg=>(LK g:en _);let r<-run 5000 n [];let r<-r.filterM λg=>return !(<-g.isAssigned);setGoals r
end au
namespace au
open Lean Meta Elab Tactic
def Sk(l:er)(l0:String):en (Option er):=do
 let aa S<-gF 400 l|return ab
 for s in S do
  let s<-bY s;if s.isAppOf ``Pe||s.isAppOf ``Pd then if(<-jl (s.getArg! 0))==aa l0 then return aa s
 return ab
def rQ:List String->er->en er
 |[],_=>throwError"path"
 |l0::r,l=>do
  let aa s<-Sk l l0|throwError"not found: {l0}"
  match r with|[]=>return s|r=>rQ r (if s.isAppOf ``Pd then s.getArg! 3 else s.getArg! 2)
def wJ:en er:=do
 let e<-jO ``gv #[<-jO ``CY #[mkConst ``Oj]];bY e
def dc(p:List String):iS Unit:=do
 let s<-rQ p (<-wJ);(<-nu).assign (s.getArg! 2)
def dd(p:List String):iS Unit:=do
 let s<-rQ p (<-wJ);(<-nu).assign (s.getArg! 6)
end au
noncomputable def rx:List aL:=by run_tac au.dc ["_div2n1n"]
noncomputable def pV:bq:=by run_tac au.dd ["_div2n1n"]
noncomputable def ry:List aL:=by run_tac au.dc ["_div3n2n"]
noncomputable def pW:bq:=by run_tac au.dd ["_div3n2n"]
theorem JC:ip pV 3=ae:=(rfl)
theorem Vx:ip pW 6=ae:=(rfl)
theorem aG.ie{r z:Nat}(h:aG w n t x y (.int r))(e:r=z):aG w n t x y (.int z):=e▸h
theorem sg(h:y<2^k):x*2^k|||y=x*2^k+y:=by have:=Nat.two_pow_add_eq_or_of_lt h x;rw[hI]at this;exact this.symm
theorem gV{x k:Nat}(h:x<2^k):bN x<=k:=by
 unfold bN;split;.exact aT _
 .have:=(CW ((by simp_all))).mpr h;simp only[sU];omega
theorem sb{x y k l:Nat}(z:x<2^k)(m:y<2^l)(C:k<=2^20)(R:l<=2^20):mx x y:=IntMulOk.of_bits (aH (gV z) C) (aH (gV m) R)
theorem RD(i E P d t:Nat):(P:Int)*(i*(P+1)+E:Nat)+(((d+i)*(P+1)+t:Nat)-(P*E:Nat))=((i*(P+1)+d)*(P+1)+t:Nat):=by push_cast;grind
section
variable{B:Bs}{w:aD}{d0 g0:aq->Option af}
theorem RG(F:aK B d0 g0)(G:Gl B d0 g0)(J:ba B 218 pW 6 ry)(t y b o E k:Nat)(n:Nat)(Z:b=o*2^k+E)(S:E<2^k)(j0:y<2^k)(I:t<b)(R:0<o)(l0:o<2^k)(C:k<=8000)(a0:t<o*2^k->Fn B w n 211 [.atom (.int t),.atom (.int o),.atom (.int k)] (.tup [.int (t/o:Nat),.int (t%o:Nat)])):Fn B w (n+1) 218 [.atom (.int t),.atom (.int y),.atom (.int b),.atom (.int o),.atom (.int E),.atom (.int k)] (.tup [.int ((t*2^k+y)/b:Nat),.int ((t*2^k+y)%b:Nat)]):=by
 refine Fn.dM F J rfl rfl rfl rfl Vx ?_;run_tac au.Yn
 have i0:0<2^k:=iU k
 have m0:t<2^(2*k+1):=by
  have:o*2^k<=2^k*2^k:=oQ _ (ea l0);have e:2^(2*k+1)=2^k*2^k*2:=by rw[oR,xK,jS]
  have:2^k<=2^k*2^k:=Nu _ i0;omega
 have h0:∀(q r:Int)(H:List Ob),q*b+r=(t*2^k+y:Nat)->r<b->aj B w n (ey pW 0) (ry.drop 2) [aa (.int t),aa (.int y),aa (.int b),aa (.int o),aa (.int E),aa (.int k),aa (.int q),aa (.int r),ab] H (dx 0 (.tup [.int ((t*2^k+y)/b:Nat),.int ((t*2^k+y)%b:Nat)])):=by
  intro q r H f0 Y;refine aj.YV (c:=λm v s=>∃q r:Int,v=[aa (.int t),aa (.int y),aa (.int b),aa (.int o),aa (.int E),aa (.int k),aa (.int q),aa (.int r),ab]/\s=H/\q*b+r=(t*2^k+y:Nat)/\r<b/\m=(-r).toNat) (-r).toNat ⟨q,r,rfl,rfl,f0,Y,rfl⟩ ?_;rintro m v s⟨q,r,rfl,rfl,f0,Y,rfl⟩;refine⟨_,_,by run_tac au.aI,?_⟩;by_cases h:r<0
  .rw[if_pos (by simpa using h)];run_tac au.aI
   exact⟨_,by omega,_,_,rfl,rfl,by push_cast at f0⊢;rw[<-f0,Int.sub_mul];omega,by omega,rfl⟩
  .rw[if_neg (by simpa using h)];have e0:0<b:=by omega
   obtain⟨z,rfl⟩:=Mv (Int.not_lt.mp h)
   have c0:0<=q:=by
    rcases Int.lt_or_le q 0 with u|u;.have:q*b<=(-1)*b:=Int.mul_le_mul_of_nonneg_right (by omega) (by omega);omega
    .exact u
   obtain⟨b0,rfl⟩:=Mv c0;have e:b0*b+z=t*2^k+y:=by exact_mod_cast f0
   have X:z<b:=by omega
   have c:(t*2^k+y)/b=b0:=by rw[<-e,xu,Nk _ _ e0,CS X,gM]
   have i:(t*2^k+y)%b=z:=by rw[<-e,xu,Nl,xD X]
   rw[c,i];run_tac au.aI
 cases h:(t/2^k==o)
 .have U:t<o*2^k:=by
   have N:t/2^k≠o:=by simpa using h
   have a:t/2^k<=o:=by apply Nat.le_of_lt_succ;rw[mv i0,ly];omega
   have:t/2^k<o:=by omega
   exact(mv i0).mp this
  have a0:=a0 U;have O:t/o<2^k:=(mv R).mpr (by rw[hI];exact U);have f:t%o<o:=hH _ R;have x:(bN ((t%o:Nat):Int):Int)+(k:Int)<=2^27:=by have:=gV (x:=t%o) (k:=k) (by omega);omega
  have p:mx ((t/o:Nat):Int) E:=sb O S (by omega) (by omega);run_tac au.aI
  all_goals rw[sg j0]
  .have e:=kp t o;generalize t/o=q at*;generalize t%o=r at*;generalize 2^k=P at*;subst Z;subst e;push_cast;grind
  .have e:(t%o+1)*2^k<=o*2^k:=oQ _ f;rw[ly]at e;omega
 .have N:t/2^k=o:=by simpa using h
  have L:o*2^k<=t:=by rw[<-N];exact Nat.div_mul_le_self _ _
  have k0:=St.iO (w:=w) (n:=n) L;have j:=St.iO (w:=w) (n:=n) (i:=1*2^k) (j:=1) (by omega);have x:(bN ((t-o*2^k+o:Nat):Int):Int)+(k:Int)<=2^27:=by have:=gV (x:=t-o*2^k+o) (k:=k+1) (by rw[oR];omega);omega
  have p:mx ((1*2^k-1:Nat):Int) E:=sb (k:=k) (by omega) S (by omega) (by omega);have A:(bN ((1:Nat):Int):Int)+(k:Int)<=2^27:=by have:=gV (x:=1) (k:=1) (by omega);omega
  have M:(bN (o:Int):Int)+(k:Int)<=2^27:=by have:=gV l0;omega
  run_tac au.aI
  all_goals rw[sg j0]
  all_goals have Q:(2^k-1)*E+E=2^k*E:=by rw[<-ly];congr 1;omega
  all_goals
   obtain⟨d,g⟩:=Nat.exists_eq_add_of_le L;have T:t-o*2^k=d:=by omega
   rw[T,Dg]
  .have:=RD o E (2^k-1) d y;rw[show 2^k-1+1=2^k by omega,<-Z,<-g]at this;exact this
  .have l:(d+1)*2^k<=E*2^k:=oQ _ (by omega);rw[ly,hI E]at l;rw[oP];omega
theorem Gk(F:aK B d0 g0)(G:Gl B d0 g0)(J:ba B 211 pV 3 rx)(a b k:Nat)(n:Nat)(Z:0<b)(O:b<2^8000)(C:bN a<=k+4000):Fn B w (n+1) 211 [.atom (.int a),.atom (.int b),.atom (.int k)] (.tup [.int (a/b:Nat),.int (a%b:Nat)]):=by
 refine Fn.dM F J rfl rfl rfl rfl JC ?_;have y:oW a b=ai:=by refine NL ?_;have:(b:Int).natAbs=b:=sU b;rw[this];have:=(CW (by omega)).mpr O;omega
 run_tac au.aI
theorem RF(F:aK B d0 g0)(G:Gl B d0 g0)(J:ba B 211 pV 3 rx)(m0:ba B 218 pW 6 ry)(a b k:Nat)(C:k<=6000)(Z:0<b)(q:2^k<=b*2)(s:b<2^k)(I:a<b*2^k):Fn B w 3 211 [.atom (.int a),.atom (.int b),.atom (.int k)] (.tup [.int (a/b:Nat),.int (a%b:Nat)]):=by
 have y:b<2^8000:=eo s (eb (by omega) (by omega));by_cases L:bN (a:Int)<=k+4000;.exact(Gk F G J a b k 0 Z y L).le (by omega)
 have c:∀(h b:Nat),h<=4000->1<=h->b<2^(2*h)->2^(2*h)<=b*2->∀g t:Nat,g<b->t<2^h->Fn B w 2 218 [.atom (.int g),.atom (.int t),.atom (.int b),.atom (.int (b/2^h:Nat)),.atom (.int (b&&&(2^h-1):Nat)),.atom (.int h)] (.tup [.int ((g*2^h+t)/b:Nat),.int ((g*2^h+t)%b:Nat)]):=by
  intro h b M a0 s q g t X c;have e:0<2^h:=iU h;have d:2^(2*h)=2^h*2^h:=by rw[xK,jS]
  have k0:b&&&(2^h-1)=b%2^h:=xw b h;rw[k0];have O:b/2^h<2^h:=(mv e).mpr (d▸s);have x:0<b/2^h:=Nat.div_pos (by have:2^1<=2^h:=eb (by omega) a0;have:2^h*2<=2^h*2^h:=Ny _ this;omega) e;refine RG F G m0 g t b (b/2^h) (b%2^h) h 1 ?_ (hH _ e) c X x O (by omega) λU=>?_;.rw[hI];exact(kp b (2^h)).symm
  .refine Gk F G J g (b/2^h) h 0 x (eo O (eb (by omega) (by omega))) ?_;have:g<2^(2*h):=jr U (d▸Dd O e);have:=gV this;omega
 have Y:a<2^(2*k):=by rw[xK,jS];exact jr I (Dd s (iU k))
 have l0:4000<k:=by have:=gV Y;omega
 have E:∀(a b h N:Nat),h<=4000->1<=h->b<2^(2*h)->2^(2*h)<=b*2->a<b*2^(2*h)->(N=0\/N=1)->aj B w 2 (ey pV 0) (rx.drop 3) [aa (.int a),aa (.int b),aa (.int ((2*h:Nat):Int)),aa (.int N),ab,ab,ab,ab,ab,ab,ab,ab,ab,ab] [] (dx 0 (.tup [.int (a/b:Nat),.int (a%b/2^N:Nat)])):=by
  intro a b h N M a0 s q I n0;have e:=iU h;have z:0<b:=by have:=iU (2*h);omega
  have d:2^(2*h)=2^h*2^h:=by rw[xK,jS]
  have f:aG w 2 (bL .RShift) (.int ((2*h:Nat):Int)) (.int ((1:Nat):Int)) (.int (h:Int)):=aG.ie St.so (by omega);have i:aG w 2 (bL .LShift) (.int ((1:Nat):Int)) (.int (h:Int)) (.int ((2^h:Nat):Int)):=aG.ie (St.vE (by have:=gV (x:=1) (k:=1) (by omega);omega)) (by omega);have j:=St.iO (w:=w) (n:=2) (i:=2^h) (j:=1) (by omega);have c:=c h b (by omega) (by omega) s q;have R:a/2^(2*h)*2^h+(a/2^h&&&2^h-1)=a/2^h:=by rw[xw,d,<-Np,hI];exact kp _ _
  have T:a&&&2^h-1=a%2^h:=xw a h;have Q:(a/2^h%b*2^h+a%2^h)/b<2^h:=by rw[mv z];have r:(a/2^h%b+1)*2^h<=b*2^h:=oQ _ (hH _ z);have m:=hH a e;rw[ly]at r;rw[hI (2^h) b];omega
  have S:(bN (((a/2^(2*h)*2^h+(a/2^h&&&2^h-1))/b:Nat):Int):Int)+(h:Int)<=2^27:=by
   have p:a<2^(4*h):=by
    have:2^(4*h)=2^(2*h)*2^(2*h):=by rw[<-jS];congr 1;omega
    rw[this];exact jr I (Dd s (iU _))
   have u:(a/2^(2*h)*2^h+(a/2^h&&&2^h-1))/b<2^(4*h):=by rw[R];exact jR (aH (Nq _ _) (Nq _ _)) p
   have:=gV u;omega
  have H:a/2^(2*h)<b:=by rw[mv (iU _)];exact I
  have A:a/2^h&&&2^h-1<2^h:=by rw[xw];exact hH _ e
  have l:(a/2^(2*h)*2^h+(a/2^h&&&2^h-1))%b<b:=hH _ z;have o:a&&&2^h-1<2^h:=by rw[T];exact hH _ e
  have i0:=kp (a/2^h) b;have j0:=kp a (2^h)
  have e0:a=b*(a/2^h/b*2^h)+(a/2^h%b*2^h+a%2^h):=by
   conv=>lhs;rw[<-j0,<-i0,hI,oP]
   rw[nG,qI]
  have f0:(a/2^h/b)*2^h+(a/2^h%b*2^h+a%2^h)/b=a/b:=by conv=>rhs;rw[e0,Nw z]
  have h0:(a/2^h%b*2^h+a%2^h)%b=a%b:=by conv=>rhs;rw[e0,Nx]
  rcases n0 with rfl|rfl
  .run_tac au.aI
   rw[R,T,sg Q,f0,h0];simp
  .run_tac au.aI
   rw[R,T,sg Q,f0,h0];simp
 refine Fn.dM F J rfl rfl rfl rfl JC ?_;obtain⟨h,rfl|rfl⟩:∃h,k=2*h\/k=2*h+1:=⟨k/2,by omega⟩;.have c0:aG w 2 (bL .BitAnd) (.int ((2*h:Nat):Int)) (.int ((1:Nat):Int)) (.int ((0:Nat):Int)):=aG.ie St.ur (by rw[Nn];omega);have:=E a b h 0 (by omega) (by omega) s q I (.inl rfl);rw[NC,Nat.div_one]at this;clear E c;run_tac au.aI
 .have c0:aG w 2 (bL .BitAnd) (.int ((2*h+1:Nat):Int)) (.int ((1:Nat):Int)) (.int ((1:Nat):Int)):=aG.ie St.ur (by rw[Nn];omega);have b0:decide (((bN (a:Int):Nat):Int)-((2*h+1:Nat):Int)<=((4000:Nat):Int))=ai:=by clear y E c Y I q s;exact decide_eq_false (by omega)
  have d:2^(2*(h+1))=2^(2*h+1)*2:=by rw[<-oR];congr 1
  have:=E (a*2^1) (b*2^1) (h+1) 1 (by omega) (by omega) (by omega) (by omega) (by rw[d];have:=I;rw[show b*2^1*(2^(2*h+1)*2)=(b*2^(2*h+1))*4 by grind];omega) (.inr rfl);rw[Nat.mul_div_mul_right _ _ (by omega),Nat.mul_mod_mul_right,Nat.mul_div_cancel _ (by omega)]at this;have v:aG w 2 (dR .Add) (.int ((2*h+1:Nat):Int)) (.int ((1:Nat):Int)) (.int ((2*(h+1):Nat):Int)):=aG.ie St.vm (by omega);have n:(bN (a:Int):Int)+((1:Nat):Int)<=2^27:=by have:=gV Y;omega
  have P:(bN (b:Int):Int)+((1:Nat):Int)<=2^27:=by have:=gV s;omega
  clear E c;run_tac au.aI
end
section
variable{M:Model}{A:aR}{R:tv}{Y:qV}{n:Nat}{l:fR}{c:Code}{j0:List Frame}{s:fR}{J:aN}{h0:hM->dw Fin}{H:af->dw Fin}{a:Bool->Bool}{g:#[L]->#[L]}
theorem Sb(x:aL)(J:aN):fQ [x] J=jU x J:=by rw[Ea];refine Eq.trans ?_ (bind_pure _);congr 1;funext f;cases f<;>rfl
def Bi(J:aN)(m:#[y])(h0:hM->dw Fin)(H:af->dw Fin)(a:Bool->Bool)(g:#[L]->#[L]):hM->dw Fin|.next=>(fQ m J).wrap h0 H a g|f=>h0 f
theorem ki(h:fm M A R Y n l c ((jU x J).wrap (Bi J m h0 H a g) H a g) j0 s):fm M A R Y n l c ((fQ (x::m) J).wrap h0 H a g) j0 s:=by refine seg_execs_cons (Eq.mp (congrArg (λt=>fm M A R Y n _ c t _ s) (DN _ _ _ (λf=>#[p]) #[aj])) h)
theorem KR(h:aw M #[iK] (jU x J) (λf L=>f=.next/\#[m7,M]) (#[fY]) s):#[j1,M,x]:=by refine seg_wrap (dk h (λf L t=>?_) #[ih]);simp_all
theorem BA(h:aw M #[iK] (tN T J (aU T J)) (λb L=>fm M A R Y n l c ((fQ #[aa,b,r0,z] J).wrap h0 H a g) j0 L) (#[fY]) s):#[j1,M,.If T r0 z i0]:=by refine kI (dI (kI (dk h (λb L Z=>?_) #[ih])));cases b<;>exact Z
def vB(J:aN)(h0:hM->dw Fin)(H:af->dw Fin)(a:Bool->Bool)(g:#[L]->#[L]):mA->dw Fin:=λr=>((match r with|.ok f=>(.pure f:dw hM)|.error e=>.raise e).onRaise λ(x:af)=>do
 if(<-rb x 1)==qW then unsupported "frame.own-activation:exception-without-traceback"
 setFlight x J.frame).wrap h0 H a g
theorem ads:vB J h0 H a g (.ok .next)=h0 .next:=rfl
theorem Xl(h:aw M #[iK] (aU b J) (λv k0=>aw M #[iK] (kH v) (λd m=>∀(p:aZ),fm M A R Y n l #[hn] (M.den #[hn]) (.ret (vB J h0 H a g) ab (a ai) (g []) c p []::j0) m) (#[fY]) k0) (#[fY]) s)(u:∀x,lK b J x=av x):#[j1,M,.For T b r0 z i0]:=by refine kI (dI (kI (dk h (λv k0 N=>?_) #[ih])));rw[u v];refine kI (az (kI (dI (kI (cf (dk N (λd m a0=>(seg_call λp=>a0 p)) #[ih]))))))
def YF(T:aP)(d:af)(r0 z:#[y])(J:aN):hM->dw Fin|.next|.cont=>.pure (.again #[hn])|.brk=>.pure (.done .next)|.ret v=>.pure (.done (.ret v))
end
section
variable{k:mz}{w:aD}{A:aR}{R:tv}{Y:qV}{n:Nat}{l:fR}{j0:List Frame}{s:fR}{J:aN}
theorem KQ(h:#[mZ,jV d,λr k0=>match r with|ab=>fm #[cP] A R Y n l #[hn] (.pure (.again (.block z J))) j0 k0|aa v=>#[mZ,Eg T d v,λ_ m=>#[mZ,assign T J v,λ_ N=>∀H,fm #[cP] A R Y n l #[hn] ((fQ r0 J).wrap (YF T d r0 z J) H id id) j0 N,m],k0],s]):fm #[cP] A R Y n l #[hn] (#[cP].den #[hn]) j0 s:=by show fm _ A R Y n _ _ ((forTurn _ _ _ _ _).onRaise _) _ s;rw[Sem.onRaise_eq_wrap];refine kI (dI (kI (rl (dk h (λr k0 a=>?_) #[ih]))));cases r with|none=>exact a|some v=>refine kI (dk a (λ_ m a0=>kI (dk a0 (λ_ N G=>?_) #[ih])) #[ih]);rw[Sem.bind_eq_wrap',Sem.wrap_wrap];exact Eq.mp (congrArg (λt=>fm _ A R Y n _ _ t _ _) (DN _ _ _ (λf=>by cases f<;>rfl) #[aj])) (G (λe=>(Sem.raise e).wrap _ _ _ _))
end
noncomputable def fE:#[y]:=by run_tac au.dc ["_iter_escaped_chars"]
noncomputable def jH:bq:=by run_tac au.dd ["_iter_escaped_chars"]
def be:Nat->Bool->Tx->List (Nat×Tx)|_,ai,[]=>[]|i,ae,[]=>[(i-1,[92])]|i,ae,c::r=>(i,[92,c])::be (i+1) ai r|i,ai,c::r=>if c=92 then be (i+1) ae r else(i,[c])::be (i+1) ai r
noncomputable def eL:Gm:=#[d7,jH,0]
noncomputable def vh(C f:ao)(q:aq)(c:af):aN:=newEnv jH C ed [] q (aa f) c ab cS
def bZ(C z:ao):#[s]:=[C,z,z+1]
structure lh(B:Bs)(M:#[s])(s e:fR):Prop where
 keep:#[dp,∀o,s.heap.get? b=aa o->e.heap.get? b=aa o]
 size:#[Q,e.heap.objs.size]
 gh:GH B e.heap
def od(B:Bs)(M:#[s]):tv:=λn l r s=>r=.ok (.ret .none)/\(n=0/\#[lm,M])
def oe(B:Bs)(M E:#[s])(d:List (Nat×Tx)):qV:=λm l v s k=>(∃p y T Z C F,d[d.length-1-m]?=aa (p,y)/\v=.ref T/\#[cd,T,⟨#[gD],ab,.seq #[Z,C] F,#[]⟩]/\VR [] Z #[eM,p]/\VR [] C #[an,y])/\#[lm,M]/\(∀b∈#[aa,m=0,E,M],(∃o,#[c7])/\¬bt s.heap b)/\∀e,lh B #[aa,m=0,E,M] s e->k (.send .none) e
def hu:Bool->Tx->Bool|e,[]=>e|ae,_::r=>hu ai r|ai,c::r=>hu (c==92) r
theorem zI:∀(r:Tx)(i:Nat)(e:Bool),hu e r=ae->1<=(be i e r).length
 |[],i,ae,_=>by simp[be]
 |c::r,i,ae,h=>by simp[be]
 |c::r,i,ai,h=>by
  unfold be;split;.rename_i X;subst X;exact zI r _ _ (by simpa[hu]using h)
  .simp
theorem el.refl(h:#[c4]):el B M G s s:=⟨rfl,rfl,⟨λ_ _ _ e=>e,id⟩,aO _,λ_ _ e _ _=>e,h⟩
theorem sh{O:Type}{d l:#[g]}{a:O}(h:d.drop (d.length-(m+1))=a::l)(f:m+1<=d.length):d[d.length-1-m]?=aa a/\d.drop (d.length-m)=l:=by
 refine#[a4,?_];.rw[(by omega:d.length-1-m=d.length-(m+1))];have:=congrArg (·[0]?) h;simpa using this
 .rw[(by omega:d.length-m=(d.length-(m+1))+1),<-jP,h];rfl
theorem Gd(h:#[eZ])(J:aN)(b:#[g]):Cx n (A.in1.over (.func b J) []):=by
 refine#[bL,h.handled,?_];.have:=h.depth;show A.depth+0+(1+0+0+0)+n<_;omega
 .have:=h.units;show A.units+1+0+3+8*n+8<_;omega
theorem RA(h:#[eZ])(J:aN)(b:#[g]):Cx n (A.in1.over (.forLoop t d R e J) [.ret k ab ai [] (.func b J) p []]):=by
 refine#[bL,h.handled,?_];.have:=h.depth;show A.depth+((1+0+0+0)+0)+0+n<_;omega
 .have:=h.units;show A.units+1+(3+0)+0+8*n+8<_;omega
section
variable{B:Bs}{w:aD}{d0 g0:#[n]}{A:aR}{m n:Nat}{R:tv}{Y:qV}{l s:fR}{c:Code}{j0:List Frame}{J:aN}{h0:hM->dw ky}{H:af->dw ky}{a:Bool->Bool}{g:#[L]->#[L]}{U x0:#[o]}
def se(U:#[o]):Prop:=#[ga,U,bD 0 x]
theorem aF.bare{H:#[g]}(R:#[cC])(q:S.fz=0)(T:se U):#[dg,[],[],h]:=by have:=R.take #[f] T #[f];simpa using this
theorem aC.nh{O j:#[g]}{H:#[g]}(P:#[aV,H,j,L])(h:∀b∈eZ S J O,b∈M):el B M s.gens.size s L:=⟨P.fx.os,P.fx.drawn,⟨λi x _ e=>P.fx.gens.1 i x e,P.fx.gens.2⟩,P.fx.size,λb o e Z n0=>P.fx.keep b o e (λz=>Z (h b z)) n0,P.rel.gh⟩
theorem mO(h:S.mc=[]):eZ S J []=[J.locals]:=by unfold eZ;rw[h];rw[CE.mpr (λp _=>by simp)];simp
theorem KP(d:Cx m #[iK])(M:#[iB,U,s.heap])(z:aj B w m eL [x] U [] (λo v st=>o=.next/\v=x0))(T:se x0)(k:∀L,#[iB,x0,L.heap]->el B [J.locals] s.gens.size s L->#[m7,#[aH]]):#[j1,#[aH],x]:=by refine KR ?_;rw[<-Sb];refine z _ _ _ s _ _ d M λo I m0 f L j C P t=>?_;obtain⟨rfl,rfl⟩:=C;refine⟨t,k _ (P.rel.bare rfl T) (P.nh λb Z=>by rw[mO rfl]at Z;exact Z)⟩
end
namespace au
open Lean Meta Elab Tactic
def AV:er->List Nat->en er
 |e,[]=>return e
 |e,k::r=>do
  let e<-bY e
  if e.isAppOf ``CB||e.isAppOf ``qB then
   let aa l<-gF 200 e|throwError"list"
   let aa x:=l[k]?|throwError"place"
   AV x r else AV (e.getArg! k) r
def gA(p:List String)(k:List Nat):iS Unit:=do
 let s<-rQ p (<-wJ);(<-nu).assign (<-fi (<-AV (s.getArg! 2) k))
end au
def oJ:Expr:=by run_tac au.gA ["_iter_escaped_chars"] [2,0]
def SU:Expr:=by run_tac au.gA ["_iter_escaped_chars"] [2,1]
noncomputable def uz:List aL:=by run_tac au.gA ["_iter_escaped_chars"] [2,2]
noncomputable def Wd:aZ:=by run_tac au.gA ["_iter_escaped_chars"] [2,4]
noncomputable def WU:aL:=by run_tac au.gA ["_iter_escaped_chars"] [0]
noncomputable def WV:aL:=by run_tac au.gA ["_iter_escaped_chars"] [1]
def Au:aL:=by run_tac au.gA ["_iter_escaped_chars"] [3]
def YC:Expr:=by run_tac au.gA ["_iter_escaped_chars"] [3,0]
def MJ:Expr:=by run_tac au.gA ["_iter_escaped_chars"] [3,1,0,0,0,1]
def YA:Expr:=by run_tac au.gA ["_iter_escaped_chars"] [2,2,0,0]
def NA:Expr:=by run_tac au.gA ["_iter_escaped_chars"] [2,2,0,1,0,0,0,1]
noncomputable def Mn:aL:=by run_tac au.gA ["_iter_escaped_chars"] [2,2,0,1,1]
def YB:Expr:=by run_tac au.gA ["_iter_escaped_chars"] [2,2,0,2,0,0]
noncomputable def Mw:aL:=by run_tac au.gA ["_iter_escaped_chars"] [2,2,0,2,0,1,0]
def Pb:Expr:=by run_tac au.gA ["_iter_escaped_chars"] [2,2,0,2,0,2,0,0,0,1]
theorem QR:fE=[WU,WV,.For oJ SU uz [] Wd,Au]:=rfl
def Ap:hM->dw ky:=λf=>.pure (.done (.ret (match f with|.ret v=>v|_=>.none)))
section
variable{B:Bs}{w:aD}{d0 g0:aq->Option af}{A:aR}{J:aN}{t:Tx}{x:aq}{p0:fP}{z:ao}{d:List (Nat×Tx)}
abbrev WS(B:Bs)(w:aD)(A:aR)(M E:List ao)(d:List (Nat×Tx))(n:Nat)(l:fR)(c:Code)(H:dw ky)(j0:List Frame)(s:fR):Prop:=fm (aE P0 w) A.in1 (od B E) (oe B M E d) n l c H j0 s
theorem zO{h0:hM->dw ky}{p:Nat}(y0:splitAtGen j0=ab)(E0:j0.any Frame.guarded=ai)(x0:J.cells=[])(g:Cx 0 (A.in1.over c j0))(f:aF B eL J [] U [] s.heap)(u:se U)(f0:Ev B w 0 eL e U [] (.ob 0) [.tup [.int p,.str y]])(r:d[d.length-1-n]?=aa (p,y))(R:J.locals∈M)(w0:J.locals∈(if n=0 then v0 else M))(C:el B M l.gens.size l s)(k0:∀L,el B [J.locals] s.gens.size s L->aF B eL J [] U [] L.heap->∀b∈(if n=0 then v0 else M),(∃o,L.heap.get? b=aa o)/\¬bt L.heap b)(k:∀L r0,el B [J.locals] s.gens.size s L->lh B (if n=0 then v0 else M) L r0->aF B eL J [] U [] r0.heap->WS B w A M v0 d n r0 c (h0 .next) j0 r0):WS B w A M v0 d (n+1) l c ((jU (.Expr (.Yield (aa e) G0) i0) J).wrap h0 H id id) j0 s:=by
 refine seg_Expr_Yield y0 rfl E0 (f0 (A.in1.over c j0) J [] s _ _ g f λv L E P I F0 C0=>?_) (by rw[f.scope];rfl) f.inter;have u0:=P.nh λb Z=>by rw[mO rfl]at Z;exact Z
 obtain⟨T,Y,d0,rfl,m0,g0,z⟩:=P.rel.tup I rfl;obtain⟨s0,F,N⟩:=z.at (j:=0) rfl;obtain⟨t0,G,a0⟩:=z.at (j:=1) rfl;have p0:Y=#[s0,t0]:=by have Q:Y.size=2:=z.size;apply Array.ext_getElem?;intro j;match j with|0=>rw[F];rfl|1=>rw[G];rfl|j+2=>rw[nk (by omega),nk (by simp)]
 subst p0;refine⟨⟨p,y,T,s0,t0,d0,r,rfl,g0,N.atom λi=>by simp,a0.atom λi=>by simp⟩,C.trans u0 (λb Z=>.inl (by rw[aY.mp Z];exact R)),k0 L u0 (P.rel.bare rfl u),λr0 X=>?_⟩;refine C0 .none r0 (k L r0 u0 X ?_);have o0:=P.rel.bare rfl u;obtain⟨m,x,A0⟩:=o0.ns;refine{o0 with gh:=X.gh,ns:=⟨m,x.at' λo r=>X.keep _ w0 o r,λi v t=>?_⟩,store:=λi a e0 h=>by simp at h,code:=λi a e0 h=>by simp at h,cp:=λq O=>?_}
 .obtain⟨l0,q0,b0,c0⟩:=A0 i v t;refine⟨l0,q0,b0,?_⟩;rcases c0 with c0|⟨_,c,S,n0,_⟩;.exact .inl c0
  .rw[x0]at n0;cases n0
 .rw[x0]at O;cases O
def fZ(x:aq)(p0:fP)(z:ao)(i:Nat)(h:bk):Prop:=(∃j,IsEnum h (z+1) z i j)/\h.IsStrIter z (Em x) x p0 i
theorem fZ.keep(e:fZ x p0 z i h)(A0:∀o,h.get? (z+1)=aa o->c0.get? (z+1)=aa o)(t0:∀o,h.get? z=aa o->c0.get? z=aa o):fZ x p0 z i c0:=by obtain⟨⟨j,N⟩,o,a0,G⟩:=e;exact⟨⟨_,A0 _ N⟩,o,t0 _ a0,G⟩
theorem fZ.aI(b:A.handled=ab)(a:x.cps.toList=t):∃(k:Nat->Array _->Prop)(y:Nat->ao->bk->Prop),WalksT P0 w A (z+1) [z+1,z] [z+1,z] t.length k (fZ x p0 z) y/\∀i O,k i O->∃f c u,t[i]?=aa c/\O=#[.int i f,.str ⟨#[c]⟩ u]:=by
 have R:x.cps.size=t.length:=by rw[<-a,gG]
 have d:∀(i:Nat)O,(∃f v,(∃c u,x.cps[i]?=aa c/\v=qX ⟨#[c]⟩ u)/\O=#[.int i f,v])->∃f c u,t[i]?=aa c/\O=#[.int i f,.str ⟨#[c]⟩ u]:=by rintro i O⟨f,v,⟨c,u,N,rfl⟩,rfl⟩;exact⟨_,c,u,by rw[<-a,jM];exact N,rfl⟩
 have n:=Nat.succ_ne_self z;have g:=λh=>n (aY.mp h);cases I:x.cps.all (·<128)
 .have M:=Pn (Draws.strWide (prog:=P0) (w:=w) (A:=A.in1) b z x p0) (z+1) n g (by simp);rw[R]at M;have e:(λ(i:Nat)h=>(∃j,IsEnum h (z+1) z i j)/\h.IsStrIter z "str_iterator" x p0 i)=fZ x p0 z:=by funext i h;unfold fZ;simp[Em,I]
  rw[e]at M;exact⟨_,_,M,d⟩
 .have M:=Pn (Draws.strAscii (prog:=P0) (w:=w) (A:=A.in1) b z x p0) (z+1) n g (by simp);rw[R]at M;have e:(λ(i:Nat)h=>(∃j,IsEnum h (z+1) z i j)/\h.IsStrIter z "str_ascii_iterator" x p0 i)=fZ x p0 z:=by funext i h;unfold fZ;simp[Em,I]
  rw[e]at M;exact⟨_,_,M,d⟩
theorem fZ.hx(e:fZ x p0 z i h):∀b∈[z+1,z],(∃o,h.get? b=aa o)/\¬bt h b:=by
 obtain⟨⟨j,N⟩,o,a0,X,G⟩:=e;intro b Z;obtain rfl|Z:=bc.mp Z;.exact⟨⟨_,N⟩,bt.no N (λY q u d Q=>by cases d;cases Q) λY n d=>by cases d⟩
 .rw[aY.mp Z];exact⟨⟨_,a0⟩,bt.no a0 (λY q u d Q=>(by simp_all)) λY n d=>by grind⟩
theorem WW(h:fm (aE P0 w) A R Y n l (.block [] J) (.pure (.done .next)) j0 s):fm (aE P0 w) A R Y n l (.block [] J) ((aE P0 w).den (.block [] J)) j0 s:=h
theorem RX(F:aK B d0 g0)(G:Gl B d0 g0){f:ao}{q:aq}{q1:af}{C:ao}(x1:J=vh C f q q1)(y:Cx 1 A)(a:x.cps.toList=t)(C0:C≠z/\C≠z+1)(f1:∀b∈bZ C z,B.heap.objs.size<=b){H:af->dw ky}{p:aZ}(j0:t.length<=aB){S0:List ao}:∀(r:Tx)(i:Nat)(d1:Bool)(E:Option V)(l s:fR)(n:Nat),t.drop i=r->d.drop (d.length-n)=be i d1 r->n=(be i d1 r).length->n<=d.length->(d1=ae->1<=i)->i<=t.length->S0=(if hu d1 r then[C]else bZ C z)->fZ x p0 z i s.heap->aF B eL J [] [aa (.str t),aa (.int ((i-1:Nat):Int)),aa (.bool d1),E,ab] [] s.heap->(∀v,E=aa v->bD 0 v)->el B (bZ C z) l.gens.size l s->WS B w A (bZ C z) S0 d n l (.forLoop oJ (.ref (z+1)) uz [] J) ((aE P0 w).den (.forLoop oJ (.ref (z+1)) uz [] J)) [.ret (vB J (Bi J [Au] Ap H id id) H id id) ab ai [] (.func fE J) p []] s:=by
 intro r;have j1:J.cells=[]:=by rw[x1];rfl
 have T0:J.locals=C:=by rw[x1];rfl
 have a1:∀{Z0:List aL}{k:mA->dw ky},Cx 0 (A.in1.over (.forLoop oJ (.ref (z+1)) Z0 [] J) [.ret k ab ai [] (.func fE J) p []]):=RA y J fE;have o2:∀b∈bZ C z,b∉B.tabs:=λb Z n0=>absurd (F.slt.tab b n0) (bK.mpr (f1 b Z))
 have k1:∀{s L:fR}{i:Nat},fZ x p0 z i s.heap->el B [J.locals] s.gens.size s L->fZ x p0 z i L.heap:=λ{s L i}e X=>by
  refine e.keep (λo I=>X.keep _ o I ?_ (o2 _ (by simp[bZ]))) (λo I=>X.keep _ o I ?_ (o2 _ (by simp[bZ])));.rw[T0];simp;exact C0.2.symm
  .rw[T0];simp;exact C0.1.symm
 have b2:∀{L:fR}{i:Nat}{U:List (Option V)},fZ x p0 z i L.heap->aF B eL J [] U [] L.heap->∀b∈bZ C z,(∃o,L.heap.get? b=aa o)/\¬bt L.heap b:=λ{L i U}e R b Z=>by
  obtain⟨m,S,_⟩:=R.ns;have y2:=S;obtain⟨o,_,_,I,_⟩:=S;simp only[bZ,bc,gu,or_false]at Z;rcases Z with rfl|rfl|rfl;.rw[<-T0];exact⟨⟨o,I⟩,jG y2⟩
  .exact e.hx _ (by simp)
  .exact e.hx _ (by simp)
 have d2:∀{s L:fR}{i:Nat},fZ x p0 z i s.heap->lh B (bZ C z) s L->fZ x p0 z i L.heap:=λ{s L i}e X=>e.keep (λo I=>X.keep _ (by simp[bZ]) o I) (λo I=>X.keep _ (by simp[bZ]) o I);have c2:∀{s:fR}{c0:bk}{i1 i:Nat}{U:List (Option V)},fZ x p0 z i s.heap->aF B eL J [] U [] s.heap->s.heap.objs.size<=c0.objs.size->(∀b o,b∉[z+1,z]->s.heap.get? b=aa o->c0.get? b=aa o)->el B [z+1,z] s.gens.size s {s with heap:=c0,toks:=i1}:=λ{s c0 i1 i U}e R i0 O=>⟨rfl,rfl,⟨λ_ _ _ e=>e,id⟩,i0,λb o e Z _=>O b o Z e,R.gh.many F.slt (λb Z=>⟨f1 b (by simp[bZ]at Z⊢;rcases Z with h|h<;>simp[h]),.inl (e.hx b Z).2⟩) i0 λb o e Z=>O b o Z e⟩;have q2:∀{s L:fR}{i:Nat}{U:List (Option V)},fZ x p0 z i s.heap->aF B eL J [] U [] s.heap->el B [z+1,z] s.gens.size s L->aF B eL J [] U [] L.heap:=λ{s L i U}e R X=>R.chg X (λb Z=>⟨λh=>by rw[T0]at h;simp at Z;rcases Z with c0|c0;exact C0.2 (h.symm.trans c0);exact C0.1 (h.symm.trans c0),by simp,by rw[j1];simp,f1 b (by simp[bZ]at Z⊢;rcases Z with h|h<;>simp[h])⟩) λb Z=>.inl (e.hx b Z).2;have p2:∀{l:fR},∀b∈[z+1,z],b∈bZ C z\/l.heap.objs.size<=b:=λ{l}b Z=>.inl (by simp[bZ]at Z⊢;rcases Z with h|h<;>simp[h]);have L1:∀{l:fR},∀b∈[J.locals],b∈bZ C z\/l.heap.objs.size<=b:=λ{l}b Z=>.inl (by rw[aY.mp Z,T0];simp[bZ]);have r2:∀{s L:fR},el B [J.locals] s.gens.size s L->el B (bZ C z) s.gens.size s L:=λ{s L}h=>⟨h.os,h.drawn,h.gens,h.size,λb o e Z n0=>h.keep b o e (λS=>Z (by rw[aY.mp S,T0];simp[bZ])) n0,h.gh⟩;have u1:∀{E:Option V}{i:Nat}{e:Bool},(∀v,E=aa v->bD 0 v)->se [aa (.str t),aa (.int (i:Int)),aa (.bool e),E,ab]:=λ{E i e}A0 j v b0=>by match j with|0=>cases b0;trivial|1=>cases b0;trivial|2=>cases b0;trivial|3=>exact A0 v (by simpa using b0)|4=>cases b0|j+5=>cases b0
 have H1:Cx 0 (A.in1.over (.func fE J) []):=Gd y J fE;obtain⟨v1,a2,M,P1⟩:=fZ.aI (w:=w) (A:=A.in1.over (.forLoop oJ (.ref (z+1)) uz [] J) [.ret (vB J (Bi J [Au] Ap H id id) H id id) ab ai [] (.func fE J) p []]) (x:=x) (p0:=p0) (z:=z) (t:=t) a1.handled a
 induction r with
 |nil=>
  intro i d1 E l s n e1 t1 Y Q0 b1 N g1 X0 g A0 w1
  have x0:i=t.length:=by
   rcases gd i t.length with h|h;.have:=List.drop_eq_nil_iff.mp e1;omega
   .omega
  subst x0;refine KQ (eR (M.done s _ _ X0 λc0 i1 O i0=>?_));have s1:el B [z+1,z] s.gens.size s {s with heap:=c0,toks:=i1}:=c2 X0 g i0 λb o Z=>O b o Z;have Q1:=q2 X0 g s1;have n1:=w1.trans s1 p2;refine yv rfl (WW (seg_leaf (.ok .next) (ki (BA ?_))));have n0:Et B w 0 eL YC [aa (.str t),aa (.int ((t.length-1:Nat):Int)),aa (.bool d1),E,ab] [] d1 []:=by run_tac au.aI
  refine n0 _ J [] _ _ _ H1 Q1 λh0 s0 e0=>?_;have l1:=e0.nh (M:=[J.locals]) λb Z=>by rw[mO rfl]at Z;exact Z
  have z1:=e0.rel.bare rfl (u1 A0);have J1:=n1.trans l1 L1
  cases d1 with
  |false=>subst Y;rw[show S0=bZ C z from g1];exact seg_end (.ok (.ret .none)) ⟨rfl,rfl,J1⟩
  |true=>
   subst Y;have v2:S0=[C]:=g1;subst v2;refine ki (zO (p:=t.length-1) (y:=[92]) rfl rfl j1 H1 z1 (u1 A0) ?_ (sh t1 Q0).1 ?_ ?_ J1 ?_ ?_);.run_tac au.aI
   .rw[T0];simp[bZ]
   .rw[T0];simp
   .intro m0 U1 J0 b Z;have O0:b∈[C]:=Z;rw[aY.mp O0];obtain⟨m,S,_⟩:=J0.ns;rw[T0]at S;obtain⟨o,_,_,I,_⟩:=id S;exact⟨⟨o,I⟩,jG S⟩
   .intro m0 y0 U1 H0 R1;exact seg_end (.ok (.ret .none)) ⟨rfl,rfl,.refl R1.gh⟩
 |cons c r f0=>
  intro i d1 E l s n e1 t1 Y Q0 b1 N g1 X0 g A0 w1;have X:t[i]?=aa c:=by have:=congrArg (·[0]?) e1;simpa[iv]using this
  have o0:i<t.length:=(bu.mp X).1;have Y1:t.drop (i+1)=r:=by rw[<-jP,e1];rfl
  refine KQ (eR (M.item i s _ _ o0 X0 λT Y0 c0 i1 v0 r0 i2 O1 O i0=>?_));refine eR (M.go _ _ _ i T _ _ _ O1 λa0 f2 R0 I0=>?_);have n2:∀b o,b∉[z+1,z]->s.heap.get? b=aa o->a0.get? b=aa o:=λb o Z e=>R0 b o Z (O b o Z e);have s1:el B [z+1,z] s.gens.size s {s with heap:=a0,toks:=i1}:=c2 X0 g (aH i0 I0) n2;have z1:=q2 X0 g s1;have n1:=w1.trans s1 p2;have h2:a0.IsTuple T Y0:=by obtain⟨o,I,r⟩:=i2;exact⟨o,R0 T o (M.apart i T _ O1) I,r⟩
  obtain⟨F0,t0,u,h1,rfl⟩:=P1 i Y0 v0;rw[X]at h1;cases h1;obtain⟨G0,E0,M0,N0,A2⟩:∃G0 E0 M0 N0,oJ=.Tuple [.Name (ak "pos") G0,.Name (ak "ch") E0] M0 N0:=⟨_,_,_,_,rfl⟩;rw[show assign oJ J (.ref T)=assign (.Tuple [.Name (ak "pos") G0,.Name (ak "ch") E0] M0 N0) J (.ref T)by rw[A2],DV];refine ag (dI ?_);unfold unpack;rw[show(qY [hL (ak "pos") G0,hL (ak "ch") E0] J).length=(#[DT i F0,.str ⟨#[c]⟩ u]:Array af).size from rfl,show(qY [hL (ak "pos") G0,hL (ak "ch") E0] J).findIdx? (·.1)=ab from rfl];refine ag (cf (eR (yF a1.handled h2 λQ o1 z2=>?_)));have l0:aC B eL J [] _ [] {s with heap:=a0,toks:=i1} [] {s with heap:=Q,toks:=i1}:=aC.heap z1 z2 λb o e=>o1 b o (cz (bj e)) e;refine lC (jW (aF.gY l0.rel (i:=1) (x:=.int (i:Nat)) rfl (.inl rfl) (by simp) ⟨F0,rfl⟩ λm0 u0=>lC (jW (aF.gY u0.rel (i:=3) (x:=.str [c]) rfl (.inl rfl) (by simp) ⟨_,u,rfl,rfl⟩ λy0 w0=>tm ?_))));have P:=(l0.trans u0).trans w0;have R1:aF B eL J [] [aa (.str t),aa (.int ((i+1-1:Nat):Int)),aa (.bool d1),aa (.str [c]),ab] [] y0.heap:=P.rel;have X1:=P.nh (M:=[J.locals]) λb Z=>by rw[mO rfl]at Z;exact Z
  have s2:=k1 f2 X1;have x2:=n1.trans X1 L1;have p1:∀v,aa (V.str [c])=aa v->bD 0 v:=λv e=>by cases e;trivial
  clear P l0 u0 w0 X1 h2 f2 n2 s1 n1 z1 O1 i2 v0;intro B2;have n0:Et B w 0 eL YA [aa (.str t),aa (.int ((i+1-1:Nat):Int)),aa (.bool d1),aa (.str [c]),ab] [] d1 []:=by run_tac au.aI
  refine ki (BA (n0 _ J [] _ _ _ a1 R1 λc1 F1 w0=>?_));have j2:=w0.nh (M:=[J.locals]) λb Z=>by rw[mO rfl]at Z;exact Z
  have g2:=w0.rel.bare rfl (u1 p1);have M1:=k1 s2 j2;have l2:=x2.trans j2 L1
  have k2:∀m,J.locals∈(if m=0 then S0 else bZ C z):=λm=>by
   rw[g1,T0];split;.split<;>simp[bZ]
   .simp[bZ]
  cases d1 with
  |true=>
   obtain⟨m,rfl⟩:∃m,n=m+1:=⟨(be (i+1) ai r).length,by rw[Y];simp[be]⟩;have S:m=(be (i+1) ai r).length:=by simpa[be]using Y
   have C1:(if m=0 then S0 else bZ C z)=bZ C z:=by
    split
    .rename_i k0
     have:hu ai r=ai:=by
      cases q0:hu ai r;.rfl
      .have:=zI r (i+1) ai q0;omega
     rw[g1];simp[hu,this]
    .rfl
   refine ki (zO (p:=i) (y:=[92,c]) rfl rfl j1 a1 g2 (u1 p1) ?_ (sh t1 Q0).1 (by rw[T0];simp[bZ]) (k2 m) l2 (λm1 r1 I1 b Z=>b2 (k1 M1 r1) I1 b (C1▸Z)) λm1 y1 r1 H0 T1=>?_);.run_tac au.aI
   rw[C1]at H0;have t2:=d2 (k1 M1 r1) H0;refine ki (KP (x0:=[aa (.str t),aa (.int ((i+1-1:Nat):Int)),aa (.bool ai),aa (.str [c]),ab]) a1 T1 ?_ (u1 p1) λU0 A1 E1=>?_)
   .run_tac au.aI
    exact⟨rfl,rfl⟩
   .exact yv rfl (f0 (i+1) ai _ y1 U0 m Y1 (sh t1 Q0).2 S (by omega) (λh=>nomatch h) (by omega) (by rw[g1];rfl) (k1 t2 E1) A1 p1 (r2 E1))
  |false=>
   have Z1:Et B w 0 eL YB [aa (.str t),aa (.int ((i+1-1:Nat):Int)),aa (.bool ai),aa (.str [c]),ab] [] ([c]==[92]) []:=by run_tac au.aI
   refine ki (BA (Z1 _ J [] _ _ _ a1 g2 λm1 B1 L0=>?_));have r1:=L0.nh (M:=[J.locals]) λb Z=>by rw[mO rfl]at Z;exact Z
   have I1:=L0.rel.bare rfl (u1 p1);have N1:=k1 M1 r1;have m2:=l2.trans r1 L1;by_cases G1:c=92
   .subst G1;rw[show([92]==[92]:Bool)=ae from rfl,if_pos rfl];have b1:be i ai (92::r)=be (i+1) ae r:=by simp[be]
    refine ki (KP (x0:=[aa (.str t),aa (.int ((i+1-1:Nat):Int)),aa (.bool ae),aa (.str [92]),ab]) a1 I1 ?_ (u1 p1) λU0 A1 E1=>?_)
    .run_tac au.aI
     exact⟨rfl,rfl⟩
    .exact yv rfl (f0 (i+1) ae _ l U0 n Y1 (t1.trans b1) (Y.trans (congrArg _ b1)) Q0 (λ_=>by omega) (by omega) (by rw[g1];rfl) (k1 N1 E1) A1 p1 (m2.trans (r2 E1) λ_ h=>.inl h))
   .rw[show([c]==[92]:Bool)=ai by simp[G1],if_neg (by decide)];have b1:be i ai (c::r)=(i,[c])::be (i+1) ai r:=by simp[be,G1]
    have e2:(c==92)=ai:=by simp[G1]
    rw[b1]at t1 Y;obtain⟨m,rfl⟩:∃m,n=m+1:=⟨(be (i+1) ai r).length,by rw[Y];simp⟩;have S:m=(be (i+1) ai r).length:=by simpa using Y
    have C1:(if m=0 then S0 else bZ C z)=bZ C z:=by
     split
     .rename_i k0
      have:hu ai r=ai:=by
       cases q0:hu ai r;.rfl
       .have:=zI r (i+1) ai q0;omega
      rw[g1];simp[hu,this,e2]
     .rfl
    refine ki (zO (p:=i) (y:=[c]) rfl rfl j1 a1 I1 (u1 p1) ?_ (sh t1 Q0).1 (by rw[T0];simp[bZ]) (k2 m) m2 (λm1 r1 T1 b Z=>b2 (k1 N1 r1) T1 b (C1▸Z)) λy1 U0 w2 H0 A1=>?_);.run_tac au.aI
    rw[C1]at H0;have u2:=d2 (k1 N1 w2) H0;exact yv rfl (f0 (i+1) ai _ U0 U0 m Y1 (sh t1 Q0).2 S (by omega) (λh=>nomatch h) (by omega) (by rw[g1];simp[hu,e2]) u2 A1 p1 (.refl A1.gh))
end
section
variable{B:Bs}{w:aD}{d0 g0:#[n]}{A:aR}{J:aN}{t:Tx}{x:aq}{p0:fP}{z:ao}{m n:Nat}{R:tv}{Y:qV}{l s:fR}{c:Code}{j0:List Frame}{h0:hM->dw ky}{H:af->dw ky}{a:Bool->Bool}{g:#[L]->#[L]}{U x0:#[o]}
theorem KO(j:Nat)(M:#[iB,U,s.heap])(T:∀(E:#[E])(Q:#[E]),(∀u p0,VR [] u v->Q u #[fF])->aw #[aH] #[iK] (aU (.Constant C F p) J) Q E s)(f:#[aW,eL.sc.names,(l0,.local)])(d:#[gB])(G:se (U.set j (aa v)))(e:jz (.Constant C F p) (aa (.Name l0 N)) i0.line J=av ai)(k:∀L,#[iB,U.set j (aa v),L.heap]->el B [J.locals] s.gens.size s L->#[jr,L.heap.objs.size]->#[m7,#[aH]]):#[j1,#[aH],.Assign [.Name l0 N] (.Constant C F p) i0]:=by
 refine KR (yz (T _ _ λu p0 i=>?_) e);refine aF.KN M f #[a0] d i λL P q=>#[aJ,?_];have h:=P.nh λb Z=>by rw[mO rfl]at Z;exact Z
 exact k _ P.rel ⟨h.os,h.drawn,h.gens,h.size,h.keep,h.gh⟩ q
theorem aF.Vb{H:#[g]}(M:#[ah])(i:Nat)(T:#[bc,U,aa,v])(z:#[eA,.local])(Z:(l0=="__debug__")=ai):∃u,VR O u v/\∀(A:aR)(Q E:#[E]),Q u s->#[gJ,.Name l0 p]:=by
 obtain⟨m,f,j⟩:=M.ns;obtain⟨F,F0,N,a0⟩:=j i v T;have C:=M.kindOf N;rw[z]at N;cases N;obtain⟨_,u,e,r⟩|⟨h,_⟩:=a0;.exact⟨u,r,λA Q E a=>ho (ic M.gR C f e a) Z⟩
 grind
theorem RY(F:#[w])(G:#[W])(h0:J=vh C f q e0)(g:Cx 1 A)(n:#[fU])(M:#[iB,[#[P,t],ab,ab,ab,ab],s.heap]):∃z,#[Q,z]/\#[mm,od B #[aa,hu ai t,[C],bZ C z],oe B (bZ C z) #[aa,hu ai t,[C],bZ C z] #[de,t],#[dq],#[aH].den (.func fE J)]:=by
 refine⟨s.heap.objs.size,aO _,seg_func ?_⟩;have U:J.locals=C:=by rw[h0];rfl
 have j0:Cx 0 (A.in1.over (.func fE J) []):=Gd g J fE;suffices h:∀H,#[mm,od B #[aa,hu ai t,[C],bZ C s.heap.objs.size],oe B (bZ C s.heap.objs.size) #[aa,hu ai t,[C],bZ C s.heap.objs.size] #[de,t],#[dq],(fQ fE J).wrap Ap H id id]by exact Eq.mp (congrArg (λP=>#[mm,_,_,_,P]) (DN (fQ fE J) id id (λf=>#[p]) #[aj])) (h _)
 intro H;rw[QR];refine ki (KO (v:=#[ad,0]) 1 M (λE Q O=>rj (O _ _ #[aU])) rfl #[z] ?_ rfl λk0 m0 b0 T=>?_);.intro j v i;match j with|0=>cases i;trivial|1=>cases i;trivial|2=>cases i|3=>cases i|4=>cases i|j+5=>cases i
 refine ki (KO (v:=#[dt]) 2 m0 (λE Q O=>PK (O _ _ rfl)) rfl #[z] ?_ rfl λm i0 a0 R=>?_);.intro j v i;match j with|0=>cases i;trivial|1=>cases i;trivial|2=>cases i;trivial|3=>cases i|4=>cases i|j+5=>cases i
 have l0:=b0.trans a0 (λb Z=>.inl Z);have o0:#[iB,[#[P,t],#[B,0-1],aa (.bool ai),ab,ab],m.heap]:=i0;have r0:#[jr,m.heap.objs.size]:=R.trans T;refine ki (Xl ?_ #[aj]);have S:∀p,cJ B w 0 eL #[aP,"enumerate",p] (.type "enumerate"):=λp=>by run_tac au.aI
 refine ib (S _ _ J [] _ [] m _ _ j0 o0 ?_);rw[dn _ J rfl];obtain⟨u,k,N⟩:=o0.Vb (w:=w) (p:=⟨185,29,185,33⟩) 0 rfl rfl #[p];obtain⟨x,p0,rfl,a⟩:=k;refine qZ (fV J _) (eK (iA (N _ _ _ (lE ?_))));refine call_enumerate_str λc0 y L I c=>wpAny_pyIter_enum y λp=>?_;have Y:m.heap.objs.size<=c0.objs.size:=by omega
 have r:aC B eL J [] _ [] m [] {m with heap:=c0}:=aC.heap (t:=m.toks) o0 Y c;have q0:=r.nh (M:=[J.locals]) λb Z=>by rw[mO rfl]at Z;exact Z
 have X:=l0.trans q0 (λb Z=>.inl Z);have f0:J.locals<s.heap.objs.size:=M.jj;rw[r0]at y L⊢;refine RX (x:=x) (p0:=p0) (z:=s.heap.objs.size) F G h0 g a ?_ ?_ n t 0 ai ab s _ _ rfl ?_ rfl #[aO] (#[fW]) #[aB] rfl ⟨#[bF,y],L⟩ r.rel (λv h=>nomatch h) ?_;.rw[<-U];exact⟨cz f0,cz (kq f0)⟩
 .intro b Z;simp only[bZ,bc,gu,or_false]at Z;have l:=M.gh.1;rcases Z with rfl|rfl|rfl;.rw[<-U];exact M.hR
  .exact l
  .exact eI l
 .rw[ks];rfl
 .exact⟨X.os,X.drawn,X.gens,X.size,λb o e Z n0=>X.keep b o e (λd=>Z (by rw[aY.mp d,U];simp[bZ])) n0,X.gh⟩
end
def hv(t:Tx)(C z:ao):#[s]:=if hu ai t then[C]else bZ C z
def Cn(B:Bs)(w:aD)(A:aR)(t:Tx)(C I:ao)(g G:Nat)(k:Nat)(O:#[s])(M:#[s])(s:fR):Prop:=∃n a,s.gens[g]?=aa n/\G<=g/\M=I::a/\s.heap.IsGen I g/\(#[dp,(∃o,#[c7])/\(b∈a->¬bt s.heap b)/\#[ap,b]])/\C∈a/\I∉a/\((k=0/\a=[C]/\∀e,lh B a s e->∃z,e.heap.objs.size<=z/\#[lu,n.Goes,#[dq],e])\/(∃z,a=#[aa,#[dq]-k=0,hv t C z,bZ C z]/\∀e,lh B a s e->#[lu,n.Goes,#[dq]-k,e]))
def iK(t:Tx):List (V×V):=#[de,t].map λq=>(#[dA,q.1],V.str q.2)
theorem GD(h:b∈hv t C z):b∈bZ C z:=by
 unfold hv at h;split at h;.rw[aY.mp h];simp[bZ]
 .exact h
section
variable{B:Bs}{w:aD}{d0 g0:#[n]}{A:aR}{t:Tx}{C I:ao}{g G m n L:Nat}
theorem agh{s:fR}(h:i≠g):(s.setGen g x).gens[i]?=s.gens[i]?:=by show(s.gens.setIfInBounds g x)[i]?=_;rw[Array.getElem?_setIfInBounds_ne (ku h)]
theorem By{s:fR}(h:s.gens[g]?=aa y):(s.setGen g x).gens[g]?=aa x:=by show(s.gens.setIfInBounds g x)[g]?=_;rw[Array.getElem?_setIfInBounds_self_of_lt (qq.mp h).1]
theorem uw{s:fR}(h:qP s.gens)(a:x.bare=ae):qP (s.setGen g x).gens:=λy m=>by
 obtain⟨i,P⟩:=Array.mem_iff_getElem?.mp m;by_cases e:i=g
 .subst e
  obtain⟨z,q⟩:∃z,#[I,s.gens,z]:=by
   obtain h|h:=gd i _;.exact#[bF,qp h]
   .rw[nk (by show(s.gens.setIfInBounds i x).size<=i;simpa using h)]at P;cases P
  rw[By q]at P;grind
 .rw[agh e]at P;exact h y (Array.mem_of_getElem? P)
theorem Vg{A:aR}{E:#[E]}{s:fR}{a:ao}{g n:Nat}{e:eW}{P:Nat->#[aG,fR]}{Y:qV}{Q:#[aG,#[bP]]}(M:#[hh])(R:s.heap.NoLimit)(B:A.depth<yu)(S:s.heap.IsGen a g)(q:s.gens[g]?=aa e)(H:∀(v:af)(i:fR)(p:eW),p.bare=ae->Y (n-1) #[gt] v i (λd j=>match n with|0=>False|m+1=>p.Goes #[aH] A.in1 (λn l r i=>r=.ok (.ret .none)/\P n l i) Y m d j)->Q (aa v) (i.setGen g p))(f:∀i,P n #[gt] i->∀c0,(#[it,i.heap.get?])->Q ab {i.setGen g .finished with heap:=c0})(N:e.Goes #[aH] A.in1 (λn l r i=>r=.ok (.ret .none)/\P n l i) Y n (.send .none) #[gt]):#[gq,a]:=by unfold jV;refine ag (iF (lM (name:=ak "__next__") S.typeIs slot_gen_next (iG slot_gen_next S.typeIs entry_gen_next ?_ (args_gen_next _))));show aw _ A.in1 #[cM,NO,a,.send .none] _ _ s;unfold NO;refine#[b6,wpAny_genNumber S (ag (wpAny_genState q ?_))];have t:∀i,P n #[gt] i->∀c0,(#[it,i.heap.get?])->Q ab {i.setGen g .finished with heap:=c0}:=f;have u:∀{O:Type}{k:GenResult->dw O}{J:#[aG,O]}{X:#[E]},(e=.running\/e=.finished->False)->(∀i,P n #[gt] i->aw #[aH] A.in1 (k (End.ret (.ok (.ret .none))).result) J X (i.setGen g .finished))->(∀(v:af)(i:fR)(p:eW),p.bare=ae->Q (aa v) (i.setGen g p)->aw #[aH] A.in1 (k (.yielded v)) J X (i.setGen g p))->aw #[aH] A.in1 (.resume g (.send .none) [] k) J X s:=λ_ c a0=>wpAny_resumeQ q N (λx i z=>by obtain⟨rfl,y⟩:=z;exact c i y) λv i p Z T=>a0 v i p Z (H v i p Z T);cases e with|running=>exact N.elim|finished=>exact N.elim|_=>refine#[bI,wpAny_roomToWake,R,B];refine u (λh=>h.elim nofun nofun) (λi y=>?_) λv i p _ T=>az #[dv,v,az T];show aw _ A.in1 (newExc (.type "StopIteration") []>>=_) _ _ _;refine ag ?_;simp only[newExc,newTuple];refine#[nG];refine#[m1];refine jA ?_ (by size_fits);simp only[raiseNew];refine#[bT,Eu ?_];rw[show A.in1.handled=ab from M];refine EF ?_;refine ag (lO (T:="StopIteration") (b:=ae) #[M,#[aT]] yr ?_);exact az (t i y _ λb o Z=>bM _ (bM _ Z))
theorem mj.uU(F:#[w])(q:#[eZ])(G:Nat):mj B w (n+1) A (iK t) I G L #[fX] (λk O M s=>Cn B w A t C I g G k O M s)where
 next:=λk x M S J O U st s Q E q1 M0 i0 R a O0 q0 f w1 J0=>by
  obtain⟨L0,d1,d,a0,H,r0,C0,Q0,R0,f1⟩:=O0;have u:k<#[dq]:=by have:=#[U,a];simpa[iK]using this
  have m1:lh B d1 s #[gt]:=⟨λ_ _ _ e=>e,aO _,f.gh⟩
  obtain⟨z,s0,N,r1⟩:∃z,(∀b∈bZ C z,b∈d1\/#[Q,b])/\#[lu,L0.Goes,#[dq]-k,#[gt]]/\I∉bZ C z:=by
   have t1:I<s.heap.objs.size:=by obtain⟨⟨o,r⟩,_⟩:=C0 I (by rw[H];exact .head _);exact bj r
   rcases f1 with⟨rfl,rfl,H0⟩|⟨z,f0,p0⟩
   .obtain⟨z,X0,Y0⟩:=H0 _ m1;have h1:#[Q,z]:=X0;refine⟨z,λb Z=>?_,Y0,λb0=>?_⟩
    .simp only[bZ,bc,gu,or_false]at Z;rcases Z with rfl|rfl|rfl;.exact .inl (.head _)
     .exact .inr h1
     .exact .inr (eI h1)
    .simp only[bZ,bc,gu,or_false]at b0;rcases b0 with rfl|rfl|rfl;.exact R0 (.head _)
     .exact#[a9,t1,h1]
     .exact#[aN,t1,bK.mpr (eI h1)]
   .rw[#[fp]]at f0;subst f0;exact⟨z,λb Z=>.inl Z,p0 _ m1,R0⟩
  have o1:A.depth<yu:=by have:=q.depth;omega
  refine Vg (N:=N) (P:=λn l s=>n=0/\#[lm,hv t C z]) q.handled (F.nl f.gh) o1 r0 d (λv k0 g1 l1 Y=>?_) (λk0 h0=>?_)
  .obtain⟨⟨p,y,T,X0,Y0,E0,r,rfl,G0,b1,c1⟩,Z0,n1,k1⟩:=Y;have j1:#[al,I]:=λn0=>#[a9,F.slt.tab I n0,(C0 I (by rw[H];exact .head _)).2.2];obtain⟨o,l0,U0,v0,A0,I0,S0⟩:=r0;have i1:k0.heap.get? I=aa o:=Z0.keep I o v0 r1 j1;refine w1 _ _ ?_;unfold Eg;refine#[bf,kM,show(k0.setGen g g1).heap.get? I=aa o from i1];rw[A0,I0];refine az ?_;have f0:#[dq]-1-(#[dq]-k-1)=k:=by omega
   rw[f0]at r;have x1:x=(#[dA,p],V.str y):=by rw[iK,cb,r]at a;cases a;rfl
   subst x1;have u1:g<s.gens.size:=(qq.mp d).1
   have p1:∀b∈#[aa,#[dq]-#[u]=0,hv t C z,bZ C z],b∈bZ C z:=λb Z=>by
    split at Z;.exact GD Z
    .exact Z
   have e1:#[dq]-k-1=#[dq]-#[u]:=by omega
   rw[e1]at n1 k1;refine J0 T X0 Y0 E0 (k0.setGen g g1) (I::#[aa,#[dq]-#[u]=0,hv t C z,bZ C z]) G0 (b1.nil _) (c1.nil _) ⟨g1,_,?_,a0,rfl,⟨o,l0,U0,i1,A0,I0,S0⟩,?_,?_,?_,.inr #[dv,z,λT0 X=>?_]⟩ ⟨Z0.os,Z0.drawn,⟨?_,λh=>uw (Z0.gens.2 (uw h rfl)) l1⟩,Z0.size,?_,Z0.gh⟩ ?_;.have:=Z0.gens.1 g .running (by show g<(s.gens.setIfInBounds g .running).size;simpa using u1) (By d);exact By this
   .intro b Z;rcases bc.mp Z with rfl|Z;.exact⟨⟨o,i1⟩,λb0=>absurd (p1 b b0) r1,(C0 _ (by rw[H];exact .head _)).2.2⟩
    .refine#[bL,(n1 b Z).1,λ_=>(n1 b Z).2];rcases s0 b (p1 b Z)with h|h;.exact(C0 b (by rw[H];exact .tail _ h)).2.2
     .exact aH f.gh.1 h
   .split;.unfold hv;split<;>simp[bZ]
    .simp[bZ]
   .exactλb0=>r1 (p1 I b0)
   .have:=k1 T0 ⟨X.keep,X.size,X.gh⟩;obtain⟨m,b0⟩:∃m,#[dq]-k=m+1:=⟨#[dq]-#[u],by omega⟩;have s1:#[dq]-#[u]=m:=by omega
    rw[b0]at this;rw[s1];exact this
   .intro i y P e;have y0:i≠g:=by omega
    rw[agh y0];refine Z0.gens.1 i y (by show i<(s.gens.setIfInBounds g .running).size;simp;omega) ?_;rw[agh y0];exact e
   .intro b N0 e Z n0;refine Z0.keep b N0 e (λb0=>?_) n0;rcases s0 b b0 with h|h;.exact Z (by rw[H];exact h)
    .exact absurd (bj e) (bK.mpr h)
   .intro b Z;rcases bc.mp Z with rfl|Z;.exact .inl (by rw[H];exact .head _)
    .exact(s0 b (p1 b Z)).imp (λh=>by rw[H];exact .tail _ h) id
  .exact#[aN,h0.1,#[f]]
 done:=λM S J O U st s Q E O0 q0 f J0=>by
  obtain⟨L0,d1,d,a0,H,r0,C0,Q0,R0,f1⟩:=O0;have x0:#[t,iK,t]=#[dq]:=by simp[iK]
  rw[x0]at f1;have m1:lh B d1 s #[gt]:=⟨λ_ _ _ e=>e,aO _,f.gh⟩
  obtain⟨z,s0,N⟩:∃z,(∀b∈hv t C z,b∈d1\/#[Q,b])/\#[lu,L0.Goes,0,#[gt]]:=by
   rcases f1 with⟨a1,rfl,H0⟩|⟨z,f0,p0⟩
   .obtain⟨z,X0,Y0⟩:=H0 _ m1;rw[a1]at Y0;have h1:#[Q,z]:=X0;refine⟨z,λb Z=>?_,Y0⟩;have Z:=GD Z;simp only[bZ,bc,gu,or_false]at Z;rcases Z with rfl|rfl|rfl;.exact .inl (.head _)
    .exact .inr h1
    .exact .inr (eI h1)
   .rw[ks,#[cB]]at f0;subst f0;rw[ks]at p0;exact⟨z,λb Z=>.inl Z,p0 _ m1⟩
  have o1:A.depth<yu:=by have:=q.depth;omega
  refine eR (wpAny_pyNext_gen (P:=λn l s=>n=0/\#[lm,hv t C z]) q.handled (F.nl f.gh) o1 r0 d N (λv k0 g1 Y=>?_) (λk0 h0 c0 u u0=>?_));.obtain⟨_,Z0,_,k1⟩:=Y;exact(k1 k0 ⟨λ_ _ _ e=>e,aO _,Z0.gh⟩).elim
  .obtain⟨_,Z0⟩:=h0;have u1:g<s.gens.size:=(qq.mp d).1;refine J0 _ ⟨Z0.os,Z0.drawn,⟨λi y P e=>?_,λh=>uw (Z0.gens.2 (uw h rfl)) rfl⟩,u0,λb N0 e Z n0=>u b N0 (Z0.keep b N0 e (λb0=>?_) n0),⟨aH f.gh.1 u0,λb o e n0=>u b o (Z0.gh.2.1 b o e n0),Z0.gh.2.2.1.keep [] (#[dJ,u]) #[av],aH f.gh.2.2.2 u0⟩⟩
   .have y0:i≠g:=by omega
    show#[I,(k0.setGen g .finished).gens,y];rw[agh y0];refine Z0.gens.1 i y (by show i<(s.gens.setIfInBounds g .running).size;simp;omega) ?_;rw[agh y0];exact e
   .rcases s0 b b0 with h|h;.exact Z (by rw[H];exact h)
    .exact absurd (bj e) (bK.mpr h)
 mono:=λk O j0 M s j⟨L0,d1,d,a0,H,⟨o,l0,U0,v0,A0,I0,S0⟩,C0,Q0,R0,f1⟩h0 u F0 e0 w0=>by
  have v1:∀T0,lh B d1 j T0->lh B d1 s T0:=λT0 c=>⟨λb Z o e=>c.keep b Z o (u b (by rw[H];exact .tail _ Z) o e),aH e0 c.size,c.gh⟩;refine⟨L0,d1,F0.1 _ _ d,a0,H,⟨o,l0,U0,u I (by rw[H];exact .head _) o v0,A0,I0,S0⟩,λb Z=>?_,Q0,R0,?_⟩;.obtain⟨⟨o,r⟩,o0,t0⟩:=C0 b Z;exact⟨⟨o,u b Z o r⟩,λb0⟨m0,f0,p0⟩=>o0 b0 #[aS,r,by rw[u b Z o r]at f0;cases f0;exact p0],t0⟩
  .rcases f1 with⟨f0,p0,H0⟩|⟨z,f0,p0⟩;.exact .inl ⟨f0,p0,λT0 c=>H0 T0 (v1 T0 c)⟩
   .exact .inr ⟨z,f0,λT0 c=>p0 T0 (v1 T0 c)⟩
 live:=λk O M s⟨L0,d1,d,a0,H,r0,C0,Q0⟩b Z=>(C0 b Z).1
 hx:=λk O M s⟨L0,d1,d,a0,H,r0,C0,Q0⟩b Z=>by rw[H]at Z;exact .inl ((C0 b (by rw[H];exact .tail _ Z)).2.1 Z)
end
theorem kn.size(h:kn a b):a.size<=b.size:=by
 obtain q|q:=gd b.size _;.have e:=h.1 _ _ (qp q);simp_all
 .exact q
section
variable{B:Bs}{w:aD}{d0 g0:#[n]}{n:Nat}{S:Gm}{U:#[o]}{H b0:#[l]}{t:Tx}
theorem qs.uU(F:#[w])(G:#[W]){p i0:aZ}{e:aP}(s0:ba B 246 jH 1 fE)(j0:#[nC,S])(L:#[ek])(I:#[hc,e,#[bo],b0])(r0:#[fU]){X:List (V×V)}(d:iK t=X):qs B w (n+1) S #[cR,#[aP,"_iter_escaped_chars",p],[e]] U H X #[fX] b0:=λA J O s Q E g f q=>by subst d;refine ib (j0 A J O U H s _ E g f ?_);rw[dn i0 J L];obtain⟨f0,o,j,Y0,x0,X0,T0,a1,J0,⟨c,O0,Y,F0,l,L0,H0,R0,w0⟩,M0,G0⟩:=s0.ex;refine zp (fV J _) (eK ((cu.cons I .nil) A J O s _ E g f λC k0 q0 m h0=>?_));have N0:=#[aL,m.rel.gh,j,s0.out];refine#[a4,⟨o,f0,N0,Y0⟩];cases h0 with
|cons h0 t0=>
 cases t0;obtain⟨x,p0,rfl,d⟩:=h0;refine gi (codeAny_call_generator (o:=o) (fd:=f0) (body:=fE) #[kM] N0 Y0 (by rw[x0];rfl) (by rw[x0];rfl) X0 ⟨c,O0,Y,F0,l,m.rel.gh.2.1 c O0 H0 L0,R0,w0⟩ ?_);rw[G0 [.str x p0] rfl];refine az ?_;refine Ez ?_ ?_ (λc0 y0 Q0=>?_) (by rw[x0];rfl);.rw[x0];decide+kernel
 .rw[x0];intro y r;have:y=(ak "addr",.str x p0):=by have:jH.names.map (·.1)=[ak "addr",ak "pos",ak "escape",ak "ch",ak "enumerate"]:=rfl;rw[this]at r;simpa using r
  subst this;exact(#[p]:jH.names.lookup (ak "addr")=aa .local)
 have o0:c0.objs.size=k0.heap.objs.size+1:=by rw[Q0.1,cH]
 have u0:#[it,k0.heap.get?]:=λb o e=>Q0.extBut b o (cz (bj e)) (bM _ e);have E0:GH B c0:=m.rel.gh.grow #[f] u0;refine#[a4,F.nl E0];have S0:k0.heap.objs.size<c0.objs.size:=by omega
 refine wpAny_pyIter_gen (g:=k0.gens.size) ⟨_,_,_,#[aT],rfl,rfl,rfl⟩ ?_;have C0:∀(v0:ck)b o,k0.heap.get? b=aa o->(c0.push v0).get? b=aa o:=λv0 b o e=>bM _ (u0 b o e);refine q c0.objs.size [c0.objs.size,k0.heap.objs.size] (λk O M c1=>Cn B w A t k0.heap.objs.size c0.objs.size k0.gens.size s.gens.size k O M c1) _ q0 ?_ ?_ ?_ ?_
 .refine⟨m.pre,m.new,m.rel.keep ?_ [] (λb o e _ _=>C0 _ b o e) (#[ch]) (m.rel.gh.grow ?_ (C0 _)),⟨m.fx.os,m.fx.drawn,⟨λi y e=>?_,λh=>(m.fx.gens.2 h).push rfl⟩,?_,λb o e Z n0=>C0 _ b o (m.fx.keep b o e Z n0)⟩⟩;.show k0.heap.objs.size<=(c0.push _).objs.size;rw[cH];omega
  .show k0.heap.objs.size<=(c0.push _).objs.size;rw[cH];omega
  .have T:=m.fx.gens.1 i y e;have P:i<k0.gens.size:=(qq.mp T).1;show#[I,(k0.gens.push _),y];rw[Array.getElem?_push_lt P];rw[<-T];exact(qp P).symm
  .show#[Q,(c0.push _).objs.size];have:=m.fx.size;rw[cH];omega
 .exact mj.uU F g s.gens.size
 .refine⟨_,[k0.heap.objs.size],Array.getElem?_push_size ..,m.fx.gens.size,rfl,⟨_,_,_,#[aT],rfl,rfl,rfl⟩,λb Z=>?_,.head _,λu=>?_,.inl #[dv,rfl,λA0 l=>?_]⟩
  .have l0:=m.rel.gh.1;rcases bc.mp Z with rfl|Z;.refine⟨#[bF,#[aT]],λu=>?_,by rw[o0];exact eI l0⟩;have:=aY.mp u;exact absurd this (hj S0)
   .rw[aY.mp Z];have Z0:(c0.push {cls:=.type "generator",data:=.fields #[.int k0.gens.size 0,.str f0.name (k0.toks+((jH.names.map (·.1)).zip [qX x p0]).length),.str f0.qualname (k0.toks+((jH.names.map (·.1)).zip [qX x p0]).length+1)]}).Ns k0.heap.objs.size _:=y0.push _;obtain⟨m0,_,_,I0,_⟩:=id Z0;exact⟨⟨m0,I0⟩,λ_=>jG Z0,l0⟩
  .exact absurd (aY.mp u) (hj S0)
  .have U0:newEnv f0.scope k0.heap.objs.size f0.globals f0.closure (f0.qualname++ak ".<locals>.") (aa 246) f0.code ab f0.builtins=vh k0.heap.objs.size 246 (f0.qualname++ak ".<locals>.") f0.code:=by rw[x0,T0,a1,J0];rfl
   have Z0:=l.keep k0.heap.objs.size #[bJ]
   have b1:aF B eL (vh k0.heap.objs.size 246 (f0.qualname++ak ".<locals>.") f0.code) [] [#[P,t],ab,ab,ab,ab] [] A0.heap:=by
    refine{scope:=rfl,kind:=rfl,jJ:=?_,nd:=by decide+kernel,glob:=rfl,eX:=rfl,gh:=l.gh,slt:=F.slt,ns:=#[as,(y0.push _).at' λo j=>Z0 o j,λi v P=>?_],kU:=?_,len:=rfl,cX:=aO _,store:=?_,code:=?_,nodup:=.nil,high:=?_,dT:=?_,hR:=m.rel.gh.1,cp:=?_,kb:=.nil};.intro _ h;cases h
    .match i with|0=>cases P;exact⟨ak "addr",.local,rfl,.inl ⟨rfl,.str x p0,rfl,x,p0,rfl,d⟩⟩|1=>cases P|2=>cases P|3=>cases P|4=>cases P|i+5=>cases P
    .intro _ h;cases h
    .intro i a e0 h;simp at h
    .intro i a R h;simp at h
    .intro a h;cases h
    .intro h;cases h
    .intro q h;cases h
   obtain⟨z,N,a0⟩:=RY (w:=w) F G rfl ((#[G,g.le]:Cx 1 A)) r0 b1;refine#[bL,z,N];rw[U0];exact#[aJ,a0]
 .intro b Z;have:=m.fx.size;rcases bc.mp Z with rfl|Z;.exact⟨aH this (ea S0),λu=>#[aN,m.rel.fT _ u,bK.mpr (ea S0)]⟩
  .rw[aY.mp Z];exact⟨m.fx.size,λu=>#[g5,m.rel.fT,u]⟩
end
noncomputable def um:#[y]:=by run_tac au.dc ["_strip_quoted_realnames"]
noncomputable def pX:bq:=by run_tac au.dd ["_strip_quoted_realnames"]
noncomputable def ug:#[y]:=by run_tac au.dc ["_check_parenthesis"]
noncomputable def pU:bq:=by run_tac au.dd ["_check_parenthesis"]
theorem VC:ip pX 1=ae:=#[p]
theorem Vv:ip pU 1=ae:=#[p]
def eY:List (Nat×Tx)->Int->Bool|[],o=>o==#[bq]|q::r,o=>#[b8,q.2,[40],eY r (o+#[a5]),#[b8,q.2,[41],#[aa,o-#[a5]<#[bq],ai,eY r (o-#[a5])],eY r o]]
theorem FR:eY (q::r) o=#[b8,q.2,[40],eY r (o+#[bi]),#[b8,q.2,[41],#[aa,o-#[bi]<(0:Nat),ai,eY r (o-#[bi])],eY r o]]:=rfl
structure kQ where
 start:Nat
 opn:#[a7,Nat]
 res:#[bz]
def eP(a:Tx)(s:kQ)(q:Nat×Tx):kQ:=#[b8,q.2,[34],match s.opn with|ab=>{s with opn:=aa q.1}|aa p=>{start:=q.1+1,opn:=ab,res:=if s.start !=p then s.res++[cF a (aa (s.start:Int)) (aa (p:Int))]else s.res},s]
def gZ(a:Tx)(s:kQ):Tx:=bh [] #[aa,s.start<a.length,s.res++[cF a (aa (s.start:Int)) ab],s.res]
def dF(a:Tx):Tx:=if 34∈a then gZ a (#[de,a].foldl (eP a) ⟨0,ab,[]⟩)else a
def vN:#[a7,Nat]->V|ab=>.none|aa p=>#[ad,p]
theorem GC{k:Nat}(h:(iK t)[k]?=aa x):∃p y,#[de,t][k]?=aa (p,y)/\x=(.int p,.str y):=by unfold iK at h;rw[cb]at h;obtain⟨q,N,rfl⟩:=dP.mp h;exact#[aC,_,N,rfl]
theorem RL{O:Type}{l:#[g]}{a:O}(h:l[k]?=aa a):l.drop k=a::l.drop (k+1):=by obtain⟨N,a0⟩:=bu.mp h;rw[<-a0];exact ny _
section
variable{B:Bs}{w:aD}{d0 g0:#[n]}
theorem FQ(F:#[w])(G:#[W])(J:ba B 260 pU 1 ug)(e:ba B 246 jH 1 fE)(a:Tx)(n:Nat)(b:a.length<=aB)(H:#[bd,dF,a])(N:Fn B w n 253 #[g6] (.atom #[cV,dF,a])):Fn B w (n+2) 260 #[g6] (.atom (.bool (eY #[h8] #[bq]))):=by
 refine#[gf,Vv];run_tac au.aI
 have r:∀p,#[nC,ey pU 0]:=λp=>by run_tac au.aI
 generalize j:eY #[h8] #[bq]=R at*;refine aj.HB (i:=2) (j:=3) (X:=iK (dF a)) (C:=λ_=>True) (b0:=[]) (c:=λk v s=>∃x y o,v=[#[P,dF a],#[cz,o],x,y,ab,ab]/\s=[]/\eY (#[h8].drop k) o=R) (qs.uU F G e (r _) rfl (by run_tac au.aI) H rfl) rfl #[a0] rfl #[a0] ⟨ab,ab,_,rfl,rfl,j⟩ ?_ ?_ ?_ #[ai];.rintro k v s⟨x,y,o,rfl,rfl,_⟩;exact⟨trivial,bx rfl,bx rfl⟩
 .rintro k z v s q⟨x,y,o,rfl,rfl,X⟩_ _ _;obtain⟨p,E,S,rfl⟩:=GC q;rw[RL S]at X;rw[FR]at X;dsimp only at X⊢;cases T:(E==[40])with
 |true=>
  rw[T,#[cB]]at X;run_tac au.aI
  exact .inl ⟨_,_,_,rfl,rfl,X⟩
 |false=>rw[T,#[eH]]at X;cases h:(E==[41])with
 |true=>
  rw[h,#[cB]]at X;by_cases m:o-#[a5]<#[bq];.rw[if_pos m]at X;have b0:#[ax,o-#[a5]<#[bq]]=ae:=decide_eq_true m;rw[<-X];run_tac au.aI
  .rw[if_neg m]at X;have b0:#[ax,o-#[a5]<#[bq]]=ai:=decide_eq_false m;run_tac au.aI
   exact .inl ⟨_,_,_,rfl,rfl,X⟩
 |false=>
  rw[h,#[eH]]at X;run_tac au.aI
  exact .inl ⟨_,_,_,rfl,rfl,X⟩
 .rintro v s⟨x,y,o,rfl,rfl,X⟩;have:#[h9,(iK (dF a)),#[h8]]:=by simp[iK]
  rw[this,qw]at X;rw[<-X];run_tac au.aI
theorem rN:∀(r:Tx)(i:Nat)(e:Bool),#[a2,(be i e r),r.length+#[aa,e,1,0]]
 |[],i,e=>by cases e<;>simp[be]
 |c::r,i,ae=>by have:=rN r (i+1) ai;simp only[be,cc,if_true]at*;simp at this;omega
 |c::r,i,ai=>by
  unfold be;split;.have:=rN r (i+1) ae;simp at this⊢;omega
  .have:=rN r (i+1) ai;simp_all
theorem sI{O:Type}{l:#[g]}{a:O}(h:l[k]?=aa a):l.take (k+1)=l.take k++[a]:=by rw[qG,h];rfl
theorem qj{l:#[bz]}(h:∀x∈l,x.length<=m):(l.map gI).sum<=l.length*m:=by induction l with|nil=>simp|cons x l Q=>have N:=h x fB;have a0:=Q λy a=>h y (dH _ a);simp only[dh,CQ,cc,ly];omega
theorem Lu(l:#[g])(t:Tx):ah l++[V.str t]=ah (l++[t]):=by simp[ah]
theorem BQ(F:#[w])(G:#[W])(J:ba B 253 pX 1 um)(j:ba B 246 jH 1 fE)(a:Tx)(n:Nat)(Q:a.length<=4000):Fn B w (n+2) 253 #[g6] (.atom (.str (dF a))):=by
 have R:a.length<=aB:=#[bD,Q];refine#[gf,VC];by_cases C:34∈a
 .have b0:(!#[ax,34∈a])=ai:=by simp[C]
  have T:dF a=gZ a (#[de,a].foldl (eP a) ⟨0,ab,[]⟩):=by rw[dF,if_pos C]
  rw[T];run_tac au.aI
  have e:∀p,#[nC,ey pX 0]:=λp=>by run_tac au.aI
  refine aj.HB (i:=4) (j:=5) (X:=iK a) (C:=λ_=>True) (b0:=[#[d2]]) (c:=λk v s=>∃x y r,v=[#[P,a],#[B,r.start],aa (vN r.opn),#[bj],x,y,ab,ab]/\s=[#[aq,r.res]]/\r=(#[de,a].take k).foldl (eP a) ⟨0,ab,[]⟩/\r.res.length<=k/\∀z∈r.res,z.length<=a.length) (qs.uU F G j (e _) rfl (by run_tac au.aI) R rfl) rfl #[a0] rfl #[a0] ⟨ab,ab,⟨0,ab,[]⟩,rfl,rfl,rfl,aO _,#[ch]⟩ ?_ ?_ ?_ #[ai];.rintro k v s⟨x,y,r,rfl,rfl,_⟩;exact⟨trivial,bx rfl,bx rfl⟩
  .rintro k z v s c⟨x,y,r,rfl,rfl,L,o,u⟩_ _ _;obtain⟨p,E,S,rfl⟩:=GC c;have g:k<#[de,a].length:=#[U,S];have X:=rN a 0 ai;have e0:#[bd,ah,r.res]:=by simp only[ah,aQ];simp at X;exact#[bD,(by omega:r.res.length<=4000)]
   have A:∀P,P=eP a r (p,E)->P=(#[de,a].take #[u]).foldl (eP a) ⟨0,ab,[]⟩:=λP h=>by rw[sI S,mn,<-L,h];rfl
   dsimp only
   cases O:(E==[34])with
   |false=>
    run_tac au.aI
    exact .inl ⟨_,_,r,rfl,rfl,A _ (by simp only[eP,O];rfl),by omega,u⟩
   |true=>obtain⟨H,I,Y⟩:=r;cases I with
   |none=>
    have i:Mine.kT (vN (kQ.mk H ab Y).opn)=ae:=rfl;run_tac au.aI
    exact .inl ⟨_,_,⟨H,aa p,Y⟩,rfl,rfl,A _ (by simp only[eP,O];rfl),eI o,u⟩
   |some q=>have i:Mine.kT (vN (kQ.mk H (aa q) Y).opn)=ai:=rfl;dsimp only[vN]at*;cases d:(H !=q)with
   |false=>
    run_tac au.aI
    exact .inl ⟨_,_,⟨p+1,ab,Y⟩,rfl,rfl,A _ (by simp only[eP,O,d];rfl),eI o,u⟩
   |true=>
    run_tac au.aI
    refine .inl ⟨_,_,⟨p+1,ab,Y++[cF a (aa (H:Int)) (aa (q:Int))]⟩,rfl,by rw[Lu],A _ (by simp only[eP,O,d];rfl),by simp;omega,λy m=>?_⟩;rcases cK.mp m with h|h;.exact u y h
    .rw[aY.mp h];exact BH _ _ _
  .rintro v s⟨x,y,r,rfl,rfl,L,o,u⟩;have t:#[t,iK,a]=#[de,a].length:=by simp[iK]
   rw[t]at L o;rw[gL]at L;rw[<-L];have X:=rN a 0 ai;simp at X;have c0:r.res.length<=4000:=by omega
   have e0:#[bd,ah,r.res]:=by simp only[ah,aQ];exact#[bD,c0]
   have Z:∀l:#[bz],l.length<=4001->(∀z∈l,z.length<=a.length)->#[hQ,l.map,l.length,[]]:=λl N a0=>by have:=qj a0;have b:l.length*a.length<=4001*4000:=mw N Q;show _<=2^24;simp;omega
   by_cases U:r.start<a.length
   .have i:#[ax,r.start<a.length]=ae:=decide_eq_true U;have f0:=Lu r.res (cF a (aa (r.start:Int)) ab)
    have f:=Z (r.res++[cF a (aa (r.start:Int)) ab]) (by simp;omega) λy m=>by
     rcases cK.mp m with h|h;.exact u y h
     .rw[aY.mp h];exact BH _ _ _
    have M:gZ a r=bh [] (r.res++[cF a (aa (r.start:Int)) ab]):=by rw[gZ,if_pos U]
    rw[M];run_tac au.aI
   .have i:#[ax,r.start<a.length]=ai:=decide_eq_false U;have f:=Z r.res #[f] u;have M:gZ a r=bh [] r.res:=by rw[gZ,if_neg U]
    rw[M];run_tac au.aI
 .have b0:(!#[ax,34∈a])=ae:=by simp[C]
  have T:dF a=a:=by rw[dF,if_neg C]
  rw[T];run_tac au.aI
end
def fI(l:#[j]):Nat:=l.foldl min (l.headD 0)
def fH(l:#[j]):Nat:=l.foldl max (l.headD 0)
def mQ(c:Nat):#[j]->#[j]|[]=>[c]|d::r=>if c<=d then c::d::r else d::mQ c r
def la:#[j]->#[j]|[]=>[]|c::r=>mQ c (la r)
theorem Aj(c:Nat):∀l,(mQ c l).Perm (c::l)
 |[]=>.refl _
 |d::r=>by
  unfold mQ;split;.exact .refl _
  .exact((Aj c r).cons d).trans (.swap c d r)
theorem sE:∀l,(la l).Perm l|[]=>.refl _|c::r=>(Aj c _).trans ((sE r).cons c)
theorem aip(c:Nat):#[eN,l.Pairwise (·<=·)->(mQ c l).Pairwise (·<=·)]
 |[],_=>by simp[mQ]
 |d::r,h=>by
  rw[xo]at h;unfold mQ;split
  .rename_i X;refine xo.mpr ⟨λx z=>?_,xo.mpr h⟩;obtain rfl|z:=bc.mp z;.exact X
   .exact aH X (h.1 x z)
  .refine xo.mpr ⟨λx z=>?_,aip c r h.2⟩;obtain rfl|z:=bc.mp ((Aj c r).mem_iff.mp z);.omega
   .exact h.1 x z
theorem Lg:∀l,(la l).Pairwise (·<=·)|[]=>.nil|c::r=>aip c _ (Lg r)
theorem Lf(l:#[g]):#[t,la,l]=l.length:=(sE l).length_eq
theorem sD:x∈la l↔x∈l:=(sE l).mem_iff
theorem Hy:#[gd,l.foldl min a<=a/\∀x∈l,l.foldl min a<=x]
 |[],a=>⟨aO _,#[ch]⟩
 |b::l,a=>by
  obtain⟨N,a0⟩:=Hy l _;refine⟨aH N (Nat.min_le_left _ _),λx z=>?_⟩;obtain rfl|z:=bc.mp z;.exact aH N (Nat.min_le_right _ _)
  .exact a0 x z
theorem Hw:#[gd,a<=l.foldl max a/\∀x∈l,x<=l.foldl max a]
 |[],a=>⟨aO _,#[ch]⟩
 |b::l,a=>by
  obtain⟨N,a0⟩:=Hw l _;refine⟨aH (Nr _ _) N,λx z=>?_⟩;obtain rfl|z:=bc.mp z;.exact aH (Nt _ _) N
  .exact a0 x z
theorem Hz:#[gd,l.foldl min a=a\/l.foldl min a∈l]
 |[],a=>#[dn]
 |b::l,a=>by
  obtain h|h:=Hz l (min a b)
  .obtain H|H:=nF a b;.rw[kr H]at h;exact .inl (by rw[dN,kr H];exact h)
   .rw[qL H]at h;exact .inr (by rw[dN,qL H,h];exact fB)
  .exact .inr (dH _ h)
theorem Hx:#[gd,l.foldl max a=a\/l.foldl max a∈l]
 |[],a=>#[dn]
 |b::l,a=>by
  obtain h|h:=Hx l (max a b)
  .obtain H|H:=nF a b;.rw[xC H]at h;exact .inr (by rw[dN,xC H,h];exact fB)
   .rw[xB H]at h;exact .inl (by rw[dN,xB H];exact h)
  .exact .inr (dH _ h)
theorem ov(h:l≠[]):fI l∈l/\∀x∈l,fI l<=x:=by cases l with
|nil=>exact#[dm,h]
|cons a r=>
 refine⟨?_,(Hy _ a).2⟩;obtain h|h:=Hz _ a;.unfold fI;rw[MO,h];exact fB
 .exact h
theorem ot(h:l≠[]):fH l∈l/\∀x∈l,x<=fH l:=by cases l with
|nil=>exact#[dm,h]
|cons a r=>
 refine⟨?_,(Hw _ a).2⟩;obtain h|h:=Hx _ a;.unfold fH;rw[MO,h];exact fB
 .exact h
def bp(l:#[j]):Nat:=#[mG,max]
theorem qg(h:l≠[]):bp l<l.length:=by unfold bp;have N:=nD.mpr (ov h).1;have a0:=nD.mpr (ot h).1;omega
def dt(l:#[j])(k:Nat):#[j]:=la (l.take #[u])
def hb(l:#[j])(k:Nat):Nat:=#[b8,l.getD k 0,#[b0].getD 0 0,#[b0].getD k 0,#[b0].getD 0 0]
def hV(l:#[j])(k:Nat):#[j]:=#[b0].filter (·!=hb l k)
def aej(l:#[j])(k:Nat):#[j]:=#[b0].filter (·!=l.getD k 0)
def eQ(l:#[j])(k:Nat):#[j]:=((l.take k).map λc=>(hV l k).getD (#[eP].idxOf c) 0)++[hb l k]++l.drop (k+1)
def ay:Nat->#[j]->Nat->#[j]->#[j]|0,_,_,_=>[]|f+1,l,p,H=>if l.isEmpty then[]else#[nv,#[kd].take,H,#[kd].getD,ay f (#[kd].drop #[em]) (p+bp l+1) H]
structure hs(M:#[cU]):Prop where
 last:∀c,∃d,M c=d++[c]
 len:∀c,#[t,M,c]<=64
theorem hs.inj(h:hs M)(e:M a=M b):a=b:=by obtain⟨d,N⟩:=h.last a;obtain⟨m,a0⟩:=h.last b;simp_all
theorem yS(d:#[g])(c:O):br (d++[c]) (-1)=aa c:=by
 have:kJ (-1) (d.length+1)=aa d.length:=by
  unfold kJ;have e:(-1:Int)+(d.length+1:Nat)=d.length:=by omega
  simp only[show-1<0 by decide,if_true,e];rw[if_pos (by simp only[fe,decide_eq_true_eq];omega)];simp
 unfold br;rw[(by simp:#[bb,(d++[c]),d.length+1]),this];simp
theorem hs.at_(h:hs M)(c:Nat):br (M c) (-1)=aa c:=by obtain⟨d,N⟩:=h.last c;rw[N];exact yS d c
def key(t:Tx):Tx:=match t.getLast? with|aa c=>[c]|ab=>[]
theorem hs.key(h:hs M)(c:Nat):key (M c)=[c]:=by obtain⟨d,N⟩:=h.last c;rw[N];simp[Mine.key]
theorem pQ{a b:Nat}:[a]<=[b]↔a<=b:=by rw[<-qD,MC];simp
theorem vc{M:#[cU]}(I:∀{a b},M a=M b->a=b){l:#[g]}(h:c∈l):(l.map M).findIdx? (·==M c)=aa (l.idxOf c):=by induction l with
|nil=>cases h
|cons d r Q=>
 rw[dh,List.findIdx?_cons,MP];by_cases Z:d=c;.subst Z;simp
 .rw[(by rw[beq_eq_false_iff_ne];exactλe=>Z (I e):(M d==M c)=ai),(by rw[beq_eq_false_iff_ne];exact Z:(d==c)=ai),Q ((bc.mp h).resolve_left (λe=>Z e.symm))];simp
theorem Li(Y:hs M)(x:#[g])(y:x.Perm (l.map M))(u:x.Pairwise λa b=>Mine.key a<=Mine.key b):x=(la l).map M:=by
 refine List.Perm.eq_of_pairwise (λa b I Z N a0=>?_) u ?_ (y.trans ((sE l).map M).symm);.obtain⟨c,_,rfl⟩:=bI.mp (y.mem_iff.mp I);obtain⟨d,_,rfl⟩:=bI.mp Z;rw[Y.key,Y.key]at N a0;rw[pQ]at N a0;rw[Nat.le_antisymm N a0]
 .rw[th];refine(Lg l).imp λh=>?_;rw[Y.key,Y.key,pQ];exact h
theorem adm(Y:hs M)(l:#[g])(c:Nat):(l.map M).filter (λt=>t !=M c)=(l.filter (·!=c)).map M:=by
 rw[List.filter_map];congr 1;apply sX;intro d _;show(M d !=M c)=(d !=c);by_cases h:d=c;.subst h;simp
 .have:=λe=>h (Y.inj e);rw[bne_iff_ne.mpr this,bne_iff_ne.mpr h]
theorem lU{l:#[g]}{k:Nat}(h:#[cH]):l.getD k 0∈l:=#[R]
theorem Hl{l:#[j]}(U:l.Nodup)(z:x∈l):(l.filter (·!=x)).length+1=l.length:=by induction l with
|nil=>cases z
|cons a r Q=>
 rw[jn]at U;by_cases h:a=x
 .subst h;have:r.filter (·!=a)=r:=nA.mpr λy m=>by rw[bne_iff_ne];rintro rfl;exact U.1 m
  simp[this]
 .rw[sY,(bne_iff_ne.mpr h),#[cB]];have:=Q U.2 ((bc.mp z).resolve_left (λe=>h e.symm));simp;omega
section
variable{l:#[j]}{k:Nat}
theorem vi(C:#[cH]):#[bb,#[b0],k+1]:=by unfold dt;rw[Lf,bH];omega
theorem Ab(U:l.Nodup):#[b0].Nodup:=(sE _).symm.nodup ((lu _ _).nodup U)
theorem Jt(C:#[cH]):hb l k∈dt l k:=by
 unfold hb;have:=vi C;split;.exact#[G,lU]
 .exact#[G,lU]
theorem QM(C:#[cH]):l.getD k 0∈dt l k:=by unfold dt;rw[sD,dO,bB C];rw[lx C];exact tg _ (aY.mpr rfl)
theorem Im(U:l.Nodup)(C:#[cH]):#[bb,(hV l k),k]:=by have:=Hl (Ab U) (Jt C);rw[vi C]at this;unfold hV;omega
theorem JF(U:l.Nodup)(C:#[cH]):#[bb,#[eP],k]:=by have:=Hl (Ab U) (QM C);rw[vi C]at this;unfold aej;omega
theorem wF(U:l.Nodup)(C:#[cH])(X:c∈l.take k):c∈aej l k:=by unfold aej dt;rw[iT,sD,qG];refine#[a4,xn _ X];rw[bne_iff_ne];rintro rfl;have:(l.take #[u]).Nodup:=(lu _ _).nodup U;rw[qG]at this;grind
theorem vs(U:l.Nodup)(C:#[cH])(X:c∈l.take k):#[eP].idxOf c<(hV l k).length:=by have:=nD.mpr (wF U C X);rw[JF U C]at this;rw[Im U C];exact this
theorem LW(C:#[cH]):(eQ l k).take k=(l.take k).map #[m6]:=by unfold eQ;rw[cQ,ls (by simp;omega),hY (by simp;omega)]
theorem YH(C:#[cH]):(eQ l k).drop (k+1)=l.drop #[u]:=by
 unfold eQ;have e:#[bb,((l.take k).map (#[m6])++[hb l k]),k+1]:=by simp;omega
 grind
theorem YG(C:#[cH]):(eQ l k).getD k 0=hb l k:=by
 unfold eQ;rw[dO,cQ,dZ (by simp;omega)];have:k-#[t,(l.take k).map,λc=>(hV l k).getD (#[eP].idxOf c) 0]=0:=by simp;omega
 rw[this];rfl
theorem YI(C:#[cH]):#[ia,(eQ l k)]:=by unfold eQ;simp;omega
theorem YJ(U:l.Nodup)(C:#[cH]):((eQ l k).take k).Nodup:=by
 rw[LW C];have f:(hV l k).Nodup:=(CF).nodup (Ab U);unfold MA;rw[th];refine Cz (λ{a b}I Z H e=>H ?_) ((lu _ _).nodup U);rw[dO,dO,bB (vs U C I),bB (vs U C Z)]at e
 have N:#[eP].idxOf a=#[eP].idxOf b:=by
  have w:=by simpa using e
  obtain h|h|h:=xA _ _;.exact#[aN,w,qE.mp f _ _ _ _ h]
  .exact h
  .exact#[aN,w.symm,qE.mp f _ _ _ _ h]
 have F:=xj (nD.mpr (wF U C I));simp_all
end
def ax(M:#[cU])(t:Nat):Tx:=if t=40\/t=41 then[t]else M t
noncomputable def yX:#[y]:=by run_tac au.dc ["_divmod_pos"]
noncomputable def wa:bq:=by run_tac au.dd ["_divmod_pos"]
theorem Vy:ip wa 2=ae:=#[p]
def aJ(n0:#[j]):#[D]:=n0.map λ(d:Nat)=>#[dA,d]
def fq(b P:Nat):#[j]->Nat->#[j]×Nat|[],r=>([],r)|d::l,r=>((r*P+d)/b::(fq b P l ((r*P+d)%b)).1,(fq b P l ((r*P+d)%b)).2)
theorem Gr(b P:Nat)(d:Nat):∀(l:#[g])(r:Nat),fq b P (l++[d]) r=((fq b P l r).1++[((fq b P l r).2*P+d)/b],((fq b P l r).2*P+d)%b)|[],r=>rfl|e::l,r=>by simp[fA,fq,Gr b P d l]
theorem uM(b P:Nat)(Z:0<b):∀(l:#[g])(c r:Nat),r<b->(fq b P l r).1.foldl (λx d=>x*P+d) c*b+(fq b P l r).2=l.foldl (λx d=>x*P+d) (c*b+r)/\(fq b P l r).2<b|[],c,r,Y=>#[aJ,Y]|d::l,c,r,Y=>by have Q:=uM b P Z l (c*P+(r*P+d)/b) ((r*P+d)%b) (hH _ Z);simp;refine⟨Q.1.trans ?_,Q.2⟩;rw[oP,qI,hI ((r*P+d)/b) b,kp _ b,oP];rw[Nat.mul_right_comm,qI]
theorem uL(b P:Nat):∀(l:#[g])(r:Nat),#[ia,(fq b P l r).1]|[],r=>rfl|d::l,r=>by simp[fq,uL b P l]
theorem Gq(b P:Nat)(Z:0<b):∀(l:#[g])(r:Nat),(∀d∈l,d<P)->r<b->∀q∈(fq b P l r).1,q<P
 |[],r,_,_,q,h=>nomatch h
 |d::l,r,R,Y,q,h=>by
  obtain rfl|h:=bc.mp h;.have a:=R d fB;rw[mv Z];have:(r+1)*P<=b*P:=oQ _ Y;rw[ly]at this;rw[hI P b];omega
  .exact Gq b P Z l _ (λd a=>R d (dH _ a)) (hH _ Z) q h
theorem Jo(j:Nat)(n0:#[g]):∀z∈aJ n0,bD j z:=λz q=>by obtain⟨d,_,rfl⟩:=bI.mp q;exact trivial
theorem Ga(h:S<=j)(T:∀o∈v,∀x,o=aa x->bD j x)(u:∀e0∈s.take j,fl j e0):wU S j v s:=⟨h,λi x e=>T _ (bC e) x rfl,λi e0 P e=>u _ (bC (by rw[es P];exact e))⟩
section
variable{B:Bs}{w:aD}{d0 g0:#[n]}
theorem RJ(F:#[w])(G:#[W])(J:ba B 239 wa 2 yX)(a b f:Nat)(m:Nat)(n0:#[j])(Z:0<b)(L:f<=8000)(C:∀d∈n0,d<2^f)(l:n0.length<=aB)(U:n0.reverse.foldl (λx d=>x*2^f+d) 0=a)(I:bN (b:Int)=f)(N:Fn B w m 225 [#[cv,a],#[cv,(bN (b:Int):Nat)]] (.list (aJ n0)))(c:∀p:#[j],(∀d∈p,d<2^f)->p.length=n0.length->Fn B w m 232 [.list (aJ p).reverse,#[cv,(bN (b:Int):Nat)]] (.atom (.int #[v,p.foldl (λx d=>x*2^f+d) 0])))(a0:∀r d:Nat,r<b->d<2^f->Fn B w m 211 [#[cv,(r*2^f+d:Nat)],#[cv,b],#[cv,(bN (b:Int):Nat)]] (.tup [.int ((r*2^f+d)/b:Nat),.int ((r*2^f+d)%b:Nat)])):Fn B w (m+1) 239 [#[cv,a],#[cv,b]] (.tup [.int (a/b:Nat),.int (a%b:Nat)]):=by
 have O:b<2^f:=by rw[<-I];unfold bN;rw[#[bK,by simp;omega]];simp only[sU];exact CX
 refine#[gf,Vy];run_tac au.aI
 refine aj.gS (i:=6) (c:=λk v s=>∃x y,v=[#[cz,a],#[cz,b],#[cz,(bN (b:Int):Nat)],#[bj],#[cz,((fq b (2^f) #[jl] 0).2:Nat)],#[ag],x,y,ab,ab,ab,ab,ab]/\s=[#[az,n0],#[az,(fq b (2^f) #[jl] 0).1]]) (by run_tac au.aI) rfl #[a0] ⟨ab,ab,rfl,rfl⟩ ?_ ?_ ?_ #[ai];.rintro k v s⟨x,y,rfl,rfl⟩;exact#[aJ,bx rfl]
 .rintro k z v s q⟨x,y,rfl,rfl⟩_ _;obtain⟨d,i,rfl⟩:∃d,n0.reverse[k]?=aa d/\z=.int (d:Int):=by unfold aJ at q;rw[<-MU,cb]at q;obtain⟨d,h,e⟩:=dP.mp q;exact⟨d,h,e.symm⟩
  have E:n0.reverse.take (k+1)=n0.reverse.take k++[d]:=by rw[qG,i];rfl
  have n:=Gr b (2^f) d #[jl] 0;rw[<-E]at n;have Y:(fq b (2^f) #[jl] 0).2<b:=(uM b _ Z _ 0 0 Z).2;have A:d<2^f:=C d (qA.mp (bC i));have P:#[bb,(fq b (2^f) #[jl] 0).1,k]:=by rw[uL,bH];exact kr (ea #[U,i])
  have u:k<n0.length:=by simpa using#[U,i]
  have a0:=a0 _ d Y A;generalize fq b (2^f) #[jl] 0=M at*;obtain⟨Q,R⟩:=M;have j:aG w m (bL .LShift) #[T,(R:Int)] #[eM,bN (b:Int)] #[cf,R*2^f]:=aG.ie (St.vE (by have:=gV (x:=R) (k:=f) (jr Y O);omega)) (by rw[I]);have g:#[bd,aJ,Q]:=by rw[aJ,aQ];have:Q.length=k:=P;omega
  dsimp only at*;run_tac au.aI
  refine .inr ⟨2,aO _,Ga #[aB] ?_ ?_,_,_,by rw[n],by rw[n];simp[aJ]⟩;.simp[bD]
  .intro e0 o;simp only[List.take_succ_cons,Ng,bc,gu,or_false]at o;rcases o with rfl|rfl;.exact Jo _ _
   .intro z q;rcases cK.mp q with h|h;.exact Jo _ _ z h
    .rw[aY.mp h];exact trivial
 .rintro v s⟨x,y,rfl,rfl⟩;have H:(aJ n0).reverse.length=n0.reverse.length:=by simp[aJ]
  rw[H,gL];have t:(fq b (2^f) n0.reverse 0).1.foldl (λx d=>x*2^f+d) 0=a/b:=by have:=uM b (2^f) Z n0.reverse 0 0 Z;rw[qN,gM,U]at this;rw[<-this.1,xu,Nk _ _ Z,CS this.2,gM]
  have S:(fq b (2^f) n0.reverse 0).2=a%b:=by have:=uM b (2^f) Z n0.reverse 0 0 Z;rw[qN,gM,U]at this;rw[<-this.1,xu,Nl,xD this.2]
  have c:=c (fq b (2^f) n0.reverse 0).1 (Gq b _ Z _ 0 (λd i=>C d (qA.mp i)) Z) (by rw[uL,ta]);rw[t]at c;rw[S];have g:#[bd,aJ,(fq b (2^f) n0.reverse 0).1]:=by rw[aJ,aQ,uL,ta];exact l
  run_tac au.aI
  intro z q;obtain⟨d,_,rfl⟩:=bI.mp (qA.mp q);rfl
end
namespace au
open Lean Meta Elab Tactic
def mP(p:List String)(k:Nat):iS Unit:=do
 let s<-rQ p (<-wJ);(<-nu).assign (s.getArg! k)
end au
noncomputable def yY:List aL:=by run_tac au.dc ["_int2digits"]
noncomputable def su:bq:=by run_tac au.dd ["_int2digits"]
noncomputable def yZ:List aL:=by run_tac au.dc ["_int2digits","inner"]
noncomputable def Bt:bq:=by run_tac au.dd ["_int2digits","inner"]
noncomputable def EI:lD:=by run_tac au.mP ["_int2digits","inner"] 1
noncomputable def VN:aZ:=by run_tac au.mP ["_int2digits","inner"] 9
noncomputable def agc(c P:ao):fD:=⟨c,P,VN,"inner","_int2digits.<locals>.inner"⟩
theorem Vz:ip su 2=ae:=(rfl)
def FV:List aq:=["n","inner","a_digits"]
theorem HF:iu EI yZ Bt FV 3 where
 bind:=by rintro⟨⟩l N a0 G R;dsimp at N a0 G;subst N a0 G;match l,R with|[a,b,c],_=>rfl
 ok:=(rfl)
 kind:=rfl
 co:=rfl
 gen:=rfl
 mK:=by decide
 pK:=rfl
abbrev z0:Ob:=.list [.int ((0:Nat):Int)]
abbrev Kg:Ob:=.raw (gc EI (.stmts yZ) Bt FV)
def gk(n:Nat):Nat->Nat->List Nat|_,0=>[]|x,k+1=>x%2^n::gk n (x/2^n) k
theorem rL(n:Nat):∀(x k:Nat),(gk n x k).length=k|_,0=>rfl|x,k+1=>by simp[gk,rL n _ k]
theorem Gg(n:Nat):∀(x i j:Nat),gk n x (i+j)=gk n (x%2^(n*i)) i++gk n (x/2^(n*i)) j|x,0,j=>by simp[gk]|x,i+1,j=>by rw[(by omega:i+1+j=(i+j)+1)];simp only[gk,fA];rw[Gg n _ i j,(by rw[De,jS,hI]:2^(n*(i+1))=2^n*2^(n*i)),Nat.mod_mul_right_mod,Nat.mod_mul_right_div_self,Np]
theorem Gh(n:Nat):∀(x k:Nat),∀d∈gk n x k,d<2^n
 |_,0,d,h=>nomatch h
 |x,k+1,d,h=>by
  obtain rfl|h:=bc.mp h;.exact hH _ (iU n)
  .exact Gh n _ k d h
theorem Hv(P:Nat):∀(l:List _)(c:Nat),l.foldl (λx d=>x*P+d) c=c*P^l.length+l.foldl (λx d=>x*P+d) 0|[],c=>by simp|d::l,c=>by simp only[dN,cc];rw[Hv P l _,Hv P l (0*P+d)];rw[oP,nG,<-Dh,qN,gM,qI]
theorem Gi(n:Nat):∀(x k:Nat),x<2^(n*k)->(gk n x k).reverse.foldl (λx d=>x*2^n+d) 0=x
 |x,0,h=>by simp at h;subst h;rfl
 |x,k+1,h=>by
  have z:x/2^n<2^(n*k):=by rw[mv (iU n),<-jS];rwa[De]at h
  simp only[gk,xp,mn,dN,List.foldl_nil];rw[Gi n _ k z,hI];exact kp _ _
def jI(n:Nat)(n0:List Nat)(L k x:Nat):List Nat:=n0.take L++(gk n x k++n0.drop (L+k))
theorem KJ(h:L+k<=n0.length):(jI n n0 L k x).length=n0.length:=by simp[jI,aV,bH,cR,rL];omega
theorem Xf(h:L<n0.length)(z:x<2^n):n0.set L x=jI n n0 L 1 x:=by simp[jI,gk,xD z,fA,hX];rw[Nc,if_pos h]
theorem Xg(h:L+(i+j)<=n0.length):jI n (jI n n0 L i (x%2^(n*i))) (L+i) j (x/2^(n*i))=jI n n0 L (i+j) x:=by
 have R:(n0.take L++gk n (x%2^(n*i)) i).length=L+i:=by rw[aV,rL,bH];omega
 simp[jI];rw[Gg,<-cQ (n0.take L),ls (by omega),hY (by omega)];rw[show(n0.take L++gk n _ i++n0.drop _).drop _=n0.drop (L+(i+j))by rw[List.drop_append,qv (by omega),hX,jP];congr 1;omega];simp
theorem Ve{i x:Nat}:(aJ n0).set i (.int x)=aJ (n0.set i x):=by simp[aJ,tf]
theorem YX(x s:Nat):(x|||x/2^s*2^s)-(x&&&x/2^s*2^s)=x%2^s:=by
 have e:x=x/2^s*2^s|||x%2^s:=by rw[sg (hH _ (iU s)),hI];exact(kp x _).symm
 have F:x|||x/2^s*2^s=x:=by grind
 have d:x&&&x/2^s*2^s=x/2^s*2^s:=by
  apply Nat.eq_of_testBit_eq;intro k;rw[Nat.testBit_and];by_cases h:(x/2^s*2^s).testBit k=ae;.rw[e,Nat.testBit_or,h];rfl
  .rw[Ms]at h;rw[h,Ck]
 have:=kp x (2^s);rw[hI]at this;omega
section
variable{B:Bs}{w:aD}{d0 g0:aq->Option af}
theorem SJ(F:aK B d0 g0)(G:Gl B d0 g0)(n:Nat)(U:n<=8000):∀(k m:Nat),1<=k->k<=m+1->k<=1000->∀(x L R:Nat)(n0:List Nat),R=L+k->L+k<=n0.length->n0.length<=1000->x<2^(n*k)->aj B w m ⟨Bt,0,[],[]⟩ yZ [aa (.int x),aa (.int L),aa (.int R),ab,ab,ab,ab,aa (.ob 1),aa (.ob 2),aa (.int n)] [z0,.list (aJ n0),Kg] (gP .none [z0,.list (aJ (jI n n0 L k x)),Kg]):=by intro k;induction k using ND with
|ind k Q=>
 intro m C h s x L R n0 M d p z;have r:=HF;have t:(aJ n0).length=n0.length:=by simp[aJ]
 by_cases N:k=1
 .subst N;have b0:(L+1==R)=ae:=by simp[M]
  rw[tj]at z;have o:=Xf (n:=n) (L:=L) (n0:=n0) (by omega) z;rw[<-o,<-Ve];have b:L<(aJ n0).length:=by omega
  run_tac au.aI
 .have b0:(L+1==R)=ai:=by simp[M];omega
  obtain⟨m,rfl⟩:∃l,m=l+1:=⟨m-1,by omega⟩;have g:=iU (n*(k/2))
  have O:x/2^(n*(k/2))<2^(n*(k-k/2)):=by
   rw[mv g,<-jS,<-Dc];have:k-k/2+k/2=k:=by omega
   rwa[this]
  have S:=Q (k/2) (by omega) m (by omega) (by omega) (by omega) (x%2^(n*(k/2))) L (L+k/2) n0 rfl (by omega) p (hH _ g);have H:=Q (k-k/2) (by omega) m (by omega) (by omega) (by omega) (x/2^(n*(k/2))) (L+k/2) R (jI n n0 L (k/2) (x%2^(n*(k/2)))) (by omega) (by rw[KJ (by omega)];omega) (by rw[KJ (by omega)];exact p) O;rw[Xg (by omega),show k/2+(k-k/2)=k by omega]at H;have f:aG w (m+1) (bL .RShift) (.int ((L+R:Nat):Int)) (.int ((1:Nat):Int)) (.int ((L+k/2:Nat):Int)):=aG.ie St.so (by omega);have i:aG w (m+1) (bL .Sub) (.int ((L+k/2:Nat):Int)) (.int (L:Int)) (.int ((k/2:Nat):Int)):=aG.ie (St.iO (by omega)) (by omega);have q:mx ((k/2:Nat):Int) n:=sb (k:=10) (l:=13) (by omega) (by omega) (by omega) (by omega);have j:aG w (m+1) (bL .Mult) (.int ((k/2:Nat):Int)) (.int (n:Int)) (.int ((n*(k/2):Nat):Int)):=aG.ie (St.vI q) (hI _ _);have e:(bN ((x/2^(n*(k/2)):Nat):Int):Int)+((n*(k/2):Nat):Int)<=2^27:=by have a:=gV O;have E:n*(k-k/2)<=8000*1000:=mw U (by omega);have c:n*(k/2)<=8000*1000:=mw U (by omega);omega
  have Z:aG w (m+1) (bL .BitXor) (.int (x:Int)) (.int ((x/2^(n*(k/2))*2^(n*(k/2)):Nat):Int)) (.int ((x%2^(n*(k/2)):Nat):Int)):=aG.ie St.zl (YX _ _);clear Q;run_tac au.aI
end
section
variable{B:Bs}{w:aD}{d0 g0:aq->Option af}
theorem Vd(k:Nat):(cL k [V.int (0:Nat)]).flatten=aJ (cL k 0):=by induction k with|zero=>rfl|succ k Q=>rw[qF,MK,Q];rfl
theorem Xe:jI n (cL k 0) 0 k x=gk n x k:=by simp[jI]
theorem YY(n k:Nat):gk n 0 k=cL k 0:=by induction k with|zero=>rfl|succ k Q=>simp[gk,Q,qF]
theorem Vc(n0:List _):∀x∈aJ n0,bR x=ae:=λx z=>by obtain⟨d,_,rfl⟩:=bI.mp z;rfl
theorem Jp(n0:List _):(aJ n0).all bR=ae:=eT.mpr (Vc _)
theorem SP(F:aK B d0 g0)(G:Gl B d0 g0)(c P:ao)(J:ba B 225 su 2 yY [agc c P])(a n k:Nat)(d:1<=n)(U:n<=8000)(C:(bN (a:Int)+n-1)/n=k)(m:k<=30):Fn B w 32 225 [.atom (.int a),.atom (.int n)] (.list (aJ (gk n a k))):=by
 refine Fn.dM F J rfl rfl rfl rfl Vz ?_;have r:=HF;have f:aG w 31 (bL .Sub) (.int ((bN (a:Int)+n:Nat):Int)) (.int ((1:Nat):Int)) (.int ((bN (a:Int)+n-1:Nat):Int)):=St.iO (by omega);have H:bN (a:Int)<=n*k:=by have:=kp (bN (a:Int)+n-1) n;rw[C]at this;have:=hH (bN (a:Int)+n-1) (by omega:0<n);omega
 have z:a<2^(n*k):=by
  by_cases u:a=0;.subst u;exact iU _
  .refine eo CX (eb (by omega) ?_);unfold bN at H;rw[if_neg (by simp;exact u)]at H;simpa using H
 have y:oW ((bN (a:Int)+n-1:Nat):Int) (n:Int)=ai:=by refine NL ?_;rw[sU];have:Nat.log2 n<8000:=(CW (by omega)).mpr (eo (Nat.lt_pow_self (by omega:1<2)) (eb (by omega) U));omega
 have i:aG w 31 (bL .FloorDiv) (.int ((bN (a:Int)+n-1:Nat):Int)) (.int (n:Int)) (.int (k:Int)):=aG.ie (St.va (by omega) y) C;have j:fp B w 31 (ey su 0 [agc c P]) (bL .Mult) (.ob 0) (.int (k:Int)) [aa (.int a),aa (.int n),ab,ab,ab] [z0] (.ob 1) [z0,.list (aJ (cL k 0))]:=St.rZ (X:=[.int ((0:Nat):Int)]) rfl (by simp;omega) (by omega) (Vd k) rfl rfl;have t:(aJ (cL k 0)).length=k:=by simp[aJ]
 by_cases u:a=0
 .have b0:(a !=0)=ai:=by simp[u]
  subst u;rw[YY];run_tac au.aI
  exact Jp _
 .have b0:(a !=0)=ae:=by simp[u]
  have b:1<=k:=by
   rcases CT k with h|h;.subst h;simp at z;omega
   .exact h
  have g:=SJ (w:=w) F G n U k 30 b (by omega) (by omega) a 0 k (cL k 0) (by omega) (by simp) (by simp;omega) z;rw[Xe]at g;have e:(aJ (cL k 0)).length<=aB:=by rw[t];show k<=2^24;omega
  run_tac au.aI
  exact Jp _
end
noncomputable def Ff:#[y]:=by run_tac au.dc ["_law_due"]
noncomputable def wb:bq:=by run_tac au.dd ["_law_due"]
theorem JD:ip wb 3=ae:=#[p]
def Ar:aP:=by run_tac au.gA ["_law_due"] [3,1,0,1,2,0,1]
def Iv:aP->aZ|.Lambda _ _ _ p=>p|e=>e.pos
def Iu:aP->lD|.Lambda a _ _ _=>a|_=>⟨[],[],ab,[],[],ab,[]⟩
noncomputable def Iw:aP->bq|.Lambda _ _ s _=>s|_=>wb
def wm(c P:ao):fD:=⟨c,P,Iv Ar,"<lambda>","_law_due.<locals>.<lambda>"⟩
theorem SA:iu (Iu Ar) [] (Iw Ar) [] 1 where
 bind:=by rintro⟨⟩l N a0 G R;dsimp at N a0 G;subst N a0 G;match l,R with|[a],_=>rfl
 ok:=#[p]
 kind:=rfl
 co:=rfl
 gen:=rfl
 mK:=by simp
 pK:=rfl
theorem rM:∀(f:Nat)(l:#[g])(p:Nat)(H:#[g]),(ay f l p H).length+3<=3*2^f
 |0,_,_,_=>by simp[ay]
 |f+1,l,p,H=>by
  have y:1<=2^f:=xG;unfold ay;split;.simp;omega
  .have N:=rM f (#[kd].take (bp l)) p H;have a0:=rM f (#[kd].drop #[em]) (p+bp l+1) H;simp only[aV,cc,et];omega
theorem oy(f0:#[g]):#[fq,ah f0]:=λx z=>by obtain⟨t,_,rfl⟩:=bI.mp z;rfl
theorem kj(a b:#[g]):ah (a++b)=ah a++ah b:=by simp[ah]
theorem Bd(M:#[cU]):ax M 40=[40]:=rfl
theorem Be(M:#[cU]):ax M 41=[41]:=rfl
theorem sm(h:c≠40/\c≠41):ax M c=M c:=by unfold ax;rw[if_neg];omega
section
variable{B:Bs}{w:aD}{d0 g0:#[n]}
theorem RO(F:#[w])(G:#[W]){c P:ao}(J:ba B 329 wb 3 Ff [wm c P]){M:#[cU]}(Y:hs M):∀(f:Nat)(l:#[j])(p:Nat)(m:#[j]),l.length<=f->f<=5->l.Nodup->(#[f9,l])->p+l.length<=1000->m.length<=1000->Fn B w (f+3) 329 [#[aq,l.map M],#[cv,(p:Nat)],#[bg,m.map,#[im]]] #[fh,#[dd,(ay f l p m).map]]:=by intro f;induction f with
|zero=>intro l p m i n j Z y n0;have:l=[]:=#[G,nE.mp];subst this;refine#[gf,JD];run_tac au.aI
|succ f Q=>
 intro l p m i n j Z y n0;refine#[gf,JD];by_cases h0:l=[];.subst h0;run_tac au.aI
 .have s:(!!#[bU,l.map].isEmpty)=ai:=by cases l with|nil=>exact#[dm,h0]|cons a r=>rfl
  have l0:#[cI,#[bU,l.map]]:=by simp only[ah,aQ];exact aH i (by simp only[dp];omega)
  run_tac au.aI
  have f0:(l.map λc=>#[eu,c])=ah (l.map M):=by simp[ah]
  have L:#[lx]:=Y.at_;have G0:∀c,#[bd,M,c]:=λc=>aH (Y.len c) #[i];have A0:(l.filter λ_=>ae).map (#[fV])=ah (l.map #[cs]):=by rw[#[hP]];simp[ah]
  have t0:hD 317 14 l #[h3] (λ_=>ae) (λc=>#[dP]):=trivial;have S0:#[lr,2,f+3,"min",[.ob 2],fI l]:=#[lq,Cl.Jk,(ov h0).1,λx b=>by obtain⟨c,X,rfl⟩:=bI.mp b;exact pQ.mpr ((ov h0).2 c X)];have R0:#[lr,2,f+3,"max",[.ob 2],fH l]:=#[lq,Cl.Jf,(ot h0).1,λx b=>by obtain⟨c,X,rfl⟩:=bI.mp b;exact pQ.mpr ((ot h0).2 c X)];have m1:(l.map #[cs]).findIdx? (·==[fI l])=aa (l.idxOf (fI l)):=vc (M:=#[cs]) (λh=>by simpa using h) (ov h0).1;have l1:(l.map #[cs]).findIdx? (·==[fH l])=aa (l.idxOf (fH l)):=vc (M:=#[cs]) (λh=>by simpa using h) (ot h0).1;have o1:(ah (l.map #[cs])).length<2^62:=by simp only[ah,aQ];omega
  have u0:#[mG,max]=bp l:=rfl;have v:=qg h0;have s0:(m.map #[im])=(m.map λq=>#[v,q]).map V.int:=by simp
  have F0:((m.map λq=>#[v,q]).any λx=>x==#[v,p+bp l])=m.contains (p+bp l):=by rw[List.any_map,List.contains_eq_any_beq];congr 1;funext x;show((x:Int)==#[v,p+bp l])=((p+bp l)==x);rw[mh];simp only[beq_iff_eq];omega
  have C:ay (f+1) l p m=#[nv,#[od].take,m,#[od].getD,ay f (#[od].drop #[em]) (p+bp l+1) m]:=by
   have:l.isEmpty=ai:=by cases l with|nil=>exact#[dm,h0]|cons a r=>rfl
   show#[gk,l.isEmpty];rw[this];rfl
  have e0:∀(r:#[j])(k:Nat),cF #[bU,r.map] ab (aa #[bW])=#[dN,r.take,k,M]:=λr k=>by rw[KY];simp[ah,xm]
  have Y0:∀(r:#[j])(k:Nat),cF #[bU,r.map] (aa #[bW]) ab=#[dN,r.drop,k,M]:=λr k=>by rw[oG];simp[ah,td]
  have i0:∀(r:#[j])(k:Nat),k<r.length->br #[bU,r.map] #[bW]=#[P,M (r.getD k 0)]:=λr k h=>by unfold br;rw[hU (by simpa[ah]using h)];simp[ah,bB h,dO]
  cases X:m.contains (p+bp l)with
  |false=>
   rw[X]at F0 C;rw[C];simp only[fX,if_false];generalize O:bp l=k at*;have y0:#[t,l.take,k]<=f:=by rw[bH];omega
   have O0:#[t,l.drop,#[u]]<=f:=by rw[cR];omega
   have U0:(l.take k).Nodup:=(lu _ _).nodup j;have N0:(l.drop #[u]).Nodup:=(xg _ _).nodup j;have e1:#[f9,l.take k]:=λx b=>Z x (eA b);have f1:#[f9,l.drop (k+1)]:=λx b=>Z x (eU b);have g1:p+#[t,l.take,k]<=1000:=by rw[bH];omega
   have h1:p+k+1+#[t,l.drop,#[u]]<=1000:=by rw[cR];omega
   have c0:=oy;have c1:#[fq,m.map #[im]]:=λx b=>by obtain⟨t,_,rfl⟩:=bI.mp b;rfl
   have j0:∀l p m,#[a2,(ay f l p m),100]:=λl p m=>by have N:=rM f l p m;have a0:2^f<=2^5:=#[je];omega
   have v0:=j0 (l.take k) p m;have I0:=j0 (l.drop #[u]) (p+k+1) m;have p0:#[ms,[40]++ay f (l.take k) p m++[l.getD k 0]++ay f (l.drop #[u]) (p+k+1) m,(ay f (l.take k) p m),l.getD,(ay f (l.drop #[u]) (p+k+1) m)]:=by simp only[gJ,kj,dh,oO,Bd,Be,sm (Z _ (lU v))];rfl
   rw[p0];run_tac au.aI
   all_goals first|(simp only[dp,aV,cc,et,ah,aQ];omega)|(rw[<-p0];simp[ah,bR])
  |true=>
   rw[X]at F0 C;rw[C];simp only[if_true];generalize O:bp l=k at*;have r0:rp (l.take #[u]) M (#[cs]) (#[b0].map M):=⟨Mine.key,λc _=>Y.key c,λx N a0=>Li Y x N a0⟩;have b1:=SA;generalize g:eQ l k=R at*;have k1:R.length=l.length:=by rw[<-g];exact YI v
   have E0:R.take k=(l.take k).map #[m6]:=by rw[<-g];exact LW v
   have Q0:R.drop (k+1)=l.drop #[u]:=by rw[<-g];exact YH v
   have T0:R.getD k 0=hb l k:=by rw[<-g];exact YG v
   have X0:k<R.length:=by omega
   have w0:∀x∈dt l k,x∈l:=λx b=>eA (sD.mp b);have y0:#[t,R.take,k]<=f:=by rw[bH];omega
   have O0:#[t,R.drop,#[u]]<=f:=by rw[cR];omega
   have U0:(R.take k).Nodup:=by rw[<-g];exact YJ j v
   have N0:(R.drop #[u]).Nodup:=by rw[Q0];exact(xg _ _).nodup j
   have e1:#[f9,R.take k]:=λx b=>by rw[E0]at b;obtain⟨c,k0,rfl⟩:=bI.mp b;exact Z _ (w0 _ ((iT.mp (lU (vs j v k0))).1))
   have f1:#[f9,R.drop (k+1)]:=λx b=>by rw[Q0]at b;exact Z x (eU b)
   have g1:p+#[t,R.take,k]<=1000:=by rw[bH];omega
   have h1:p+k+1+#[t,R.drop,#[u]]<=1000:=by rw[cR];omega
   have c0:=oy;have c1:#[fq,m.map #[im]]:=λx b=>by obtain⟨t,_,rfl⟩:=bI.mp b;rfl
   have j0:∀l p m,#[a2,(ay f l p m),100]:=λl p m=>by have N:=rM f l p m;have a0:2^f<=2^5:=#[je];omega
   have v0:=j0 (R.take k) p m;have I0:=j0 (R.drop #[u]) (p+k+1) m;have p0:#[ms,[40]++ay f (R.take k) p m++[R.getD k 0]++ay f (R.drop #[u]) (p+k+1) m,(ay f (R.take k) p m),R.getD,(ay f (R.drop #[u]) (p+k+1) m)]:=by simp only[gJ,kj,dh,oO,Bd,Be,sm (show R.getD k 0≠40/\R.getD k 0≠41 by rw[T0];exact Z _ (w0 _ (Jt v)))];rfl
   rw[p0];have m0:hD 322 15 #[b0] #[h3] (λc=>M c !=M (hb l k)) #[h3]:=trivial;have i1:hD 323 14 #[b0] #[h3] (λc=>M c !=M (l.getD k 0)) #[h3]:=trivial;have j1:hD 324 14 (l.take k) #[h3] (λ_=>ae) (λc=>#[eu,#[mV]]):=trivial;have d1:∀r:#[j],(r.map λc=>#[eu,c])=ah (r.map M):=λr=>by simp[ah]
   have a1:∀(r:#[j])(c:Nat),(r.filter λd=>M d !=M c).map (λd=>#[eu,d])=ah ((r.filter (·!=c)).map M):=λr c=>by rw[<-d1,show(λd=>M d !=M c)=λd=>d !=c from funext λd=>by
    by_cases h:d=c;.subst h;simp
    .rw[bne_iff_ne.mpr h,bne_iff_ne.mpr λe=>h (Y.inj e)]]
   have M0:(#[b0].filter λd=>M d !=M (hb l k)).map (λd=>#[eu,d])=ah ((hV l k).map M):=a1 _ _;have Z0:(#[b0].filter λd=>M d !=M (l.getD k 0)).map (λd=>#[eu,d])=ah (#[eP].map M):=a1 _ _;have q1:((l.take k).filter λ_=>ae).map (λc=>#[eu,#[mV]])=#[dN,R.take,k,M]:=by rw[#[hP],E0];unfold ah;rw[gr,gr];rfl
   have C0:∀c,c∈l.take k->(#[eP].map M).findIdx? (·==M c)=aa (#[eP].idxOf c):=λc h=>vc (λe=>Y.inj e) (wF j v h);have J0:∀c,c∈l.take k->#[fO,#[bU,(hV l k).map],#[eP].idxOf c,M #[mV]]:=λc h=>i0 _ _ (vs j v h);have T:#[dN,R.take,k,M]++[#[eu,hb l k]]=#[dN,R.take,#[u],M]:=by rw[lx X0,gJ,kj,<-T0,dO,bB X0];rfl
   have I:#[dN,R.take,#[u],M]++ah ((l.drop #[u]).map M)=ah (R.map M):=by rw[<-kj,<-gJ,<-Q0,hF]
   have n1:=vi v;have b0:#[cI,#[bU,(R.take #[u]).map]]:=by simp only[dp,ah,aQ,bH];omega
   have o0:#[cI,#[bU,R.map]]:=by simp only[dp,ah,aQ];omega
   have q0:#[cI,#[bU,#[b0].map]]:=by simp only[dp,ah,aQ];omega
   have x0:#[cI,#[bU,(hV l k).map]]:=by simp only[dp,ah,aQ,Im j v];omega
   have L0:#[bU,#[eP].map].length<2^62:=by simp only[ah,aQ,JF j v];omega
   have p1:#[t,l.take,#[u]]<64:=by rw[bH];omega
   cases E:(l.getD k 0==#[b0].getD 0 0)with
   |true=>
    have u:hb l k=#[b0].getD k 0:=by unfold hb;rw[E];rfl
    have A:(M (l.getD k 0)==M (#[b0].getD 0 0))=ae:=by rw[beq_iff_eq]at E⊢;rw[E]
    have H0:=i0 #[b0] 0 #[f]
    have o:br #[bU,#[b0].map] (-#[a5])=#[P,M (hb l k)]:=by
     have e:dt l k=#[b0].take k++[#[b0].getD k 0]:=by have N:#[b0].take (k+1)=dt l k:=#[G,hY];rw[#[G,lx]]at N;rw[dO,#[G,bB]];exact N.symm
     rw[u];generalize#[b0].getD k 0=z at e;rw[e,gJ,kj];exact yS _ _
    run_tac au.aI
    all_goals first|(simp only[dp,aV,cc,et,ah,aQ,bH];omega)|(rw[<-p0];simp[ah,bR])
   |false=>
    have u:hb l k=#[b0].getD 0 0:=by unfold hb;rw[E];rfl
    have A:(M (l.getD k 0)==M (hb l k))=ai:=by rw[beq_eq_false_iff_ne]at E⊢;rw[u];exactλe=>E (Y.inj e)
    have H0:br #[bU,#[b0].map] #[bq]=#[P,M (hb l k)]:=by rw[u];exact i0 #[b0] 0 #[f]
    run_tac au.aI
    all_goals first|(simp only[dp,aV,cc,et,ah,aQ,bH];omega)|(rw[<-p0];simp[ah,bR])
end
def dV(t:Nat):Bool:=t==40||t==41
def cO:#[j]->Int->Bool|[],o=>o==#[bq]|t::r,o=>#[lN,cO r (o+#[a5]),o-#[a5]<#[bq],cO r (o-#[a5]),cO r o]
def hC(f0:#[j])(E:Nat):#[ac]|0=>0|i+1=>if f0.getD i 0==40&&#[nA]then i else hC f0 E i
def nc(f0:#[j])(s E:Nat):#[j]:=((aW (E+1-s)).map (s+·)).filter λk=>!#[fH,dV]
def rS(f0:#[j])(s E:Nat):#[j]:=la ((nc f0 s E).map #[is])
def ik(f0 g:#[j])(E k:Nat):Nat:=g.getD (#[aa,f0.getD E 0==g.getD 0 0,#[fH,g.idxOf]+g.length-1,#[fH,g.idxOf]+1]%g.length) 0
def mf(f0:#[j])(E:Nat):#[j]:=(nc f0 (hC f0 E E) E).foldl (λo k=>o.set k (ik f0 (rS f0 (hC f0 E E) E) E k)) f0
theorem Lo(f0:#[g])(E:Nat):∀i,hC f0 E i<=i|0=>aO _|i+1=>by unfold hC;split;exact du _;exact eI (Lo _ _ i)
theorem Bg(Y:hs M)(t:Nat):(ax M t==[40])=(t==40):=by
 unfold ax;by_cases h:t=40;.subst h;simp
 .by_cases a0:t=41;.subst a0;simp
  .rw[#[fp]];obtain⟨d,Z⟩:=Y.last t;rw[(by rw[beq_eq_false_iff_ne];exact h:(t==40)=ai),beq_eq_false_iff_ne,Z];intro e;have:=congrArg CG e;simp at this;exact h this
theorem Kj(Y:hs M)(t:Nat):(ax M t==[41])=(t==41):=by
 unfold ax;by_cases h:t=40;.subst h;simp
 .by_cases a0:t=41;.subst a0;simp
  .rw[#[fp]];obtain⟨d,Z⟩:=Y.last t;rw[(by rw[beq_eq_false_iff_ne];exact a0:(t==41)=ai),beq_eq_false_iff_ne,Z];intro e;have:=congrArg CG e;simp at this;exact a0 this
theorem Bf(Y:hs M)(t:Nat):(!#[ob,t])=!dV t:=by rw[sW,sW,Bg Y,Kj Y];unfold dV;simp
theorem vW(Y:hs M)(t:Nat):#[a2,(ax M t),64]:=by
 unfold ax;split;.simp
 .exact Y.len t
theorem XA{s E k:Nat}(h:k∈nc f0 s E):s<=k/\k<=E/\dV #[ee]=ai:=by obtain⟨N,a0⟩:=iT.mp h;obtain⟨j,b,rfl⟩:=bI.mp N;rw[eH]at b;exact⟨by omega,by omega,by grind⟩
theorem FH(h:dV t=ai):t≠40/\t≠41:=by unfold dV at h;simpa using h
noncomputable section
def fN{O:Type}(a:Nat)(k:Nat->O):O:=qM (k 0) (λn _=>k (iw n)) a
theorem og(a:Nat)(k:Nat->O):fN a k=k a:=by cases a<;>rfl
def fL{O:Type}(l:#[j]):(#[j]->O)->O:=jo (λk=>k []) (λa _ Q k=>fN a λa=>Q λr=>k (a::r)) l
theorem pF:∀(l:#[g])(k:#[g]->O),fL l k=k l|[],_=>rfl|a::l,k=>by show fN a (λa=>fL l λr=>k _)=_;rw[og,pF]
theorem ps(a b:Nat):eV a b=(a==b):=by rw[mh,Nat.beq_eq];exact beq_iff_eq.symm
theorem oa(a b:Nat){O:Type}(x y:O):(bif eV a b then x else y)=#[b8,a,b,x,y]:=#[z]
theorem rJ(a b:Nat){O:Type}(x y:O):(bif mu a b then x else y)=if a<=b then x else y:=#[z]
def AJ(l:#[j]):#[ac]:=jo (λa=>a) (λc _ Q a=>Q (bif mu a c then a else c)) l
def AI(l:#[j]):#[ac]:=jo (λa=>a) (λc _ Q a=>Q (bif mu a c then c else a)) l
theorem Jj:#[gd,AJ l a=l.foldl min a]|[],_=>rfl|c::l,a=>by show AJ l _=l.foldl _ _;rw[Jj,rJ];rfl
theorem Je:#[gd,AI l a=l.foldl max a]|[],_=>rfl|c::l,a=>by show AI l _=l.foldl _ _;rw[Je,rJ];rfl
def oj(c:Nat)(l:#[j]):Nat:=jo 0 (λd _ Q=>bif eV d c then 0 else iw Q) l
theorem rU(c:Nat):#[eN,oj c l=l.idxOf c]|[]=>rfl|d::l=>by show(bif eV d c then 0 else iw (oj c l))=_;rw[oa,rU c l,MP];cases d==c<;>rfl
def eF(l:#[j]):#[ac]:=jo (λ_=>0) (λa _ Q i=>qM a (λn _=>Q n) i) l
theorem jD:∀(l:#[g])(i:Nat),eF l i=l.getD i 0|[],_=>rfl|a::l,0=>rfl|a::l,i+1=>jD l i
def wx(l:#[j]):Nat:=fN (oj (AJ l (l.headD 0)) l) λa=>fN (oj (AI l (l.headD 0)) l) λb=>bif mu a b then b else a
theorem Xx(l:#[g]):wx l=bp l:=by unfold wx;rw[og,og,rJ,rU,rU,Jj,Je];rfl
def vq(c:Nat)(l:#[j]):#[j]:=jo [c] (λd r Q=>bif mu c d then c::d::r else d::Q) l
theorem HR(c:Nat):#[eN,vq c l=mQ c l]|[]=>rfl|d::r=>by show(bif mu c d then c::d::r else d::vq c r)=_;rw[rJ,HR c r];rfl
def wt(l:#[j]):#[j]:=jo [] (λc _ Q=>vq c Q) l
theorem BI:#[eN,wt l=la l]|[]=>rfl|c::r=>by show vq c (wt r)=_;rw[HR,BI r];rfl
def rK(c:Nat)(l:#[j]):#[j]:=jo [] (λd _ Q=>bif eV d c then Q else d::Q) l
theorem Gf(c:Nat):#[eN,rK c l=l.filter (·!=c)]|[]=>rfl|d::l=>by show(bif eV d c then rK c l else d::rK c l)=_;rw[Gf c l,sY];simp
def wL(l:#[j])(k:Nat):#[j]:=fL (wt (l.take (iw k))) λg=>fN (eF l k) λx=>fN (bif eV x (eF g 0)then eF g k else eF g 0) λy=>fL (rK y g) λa=>fL (rK x g) λj=>(l.take k).map (λc=>eF a (oj c j))++(y::l.drop (iw k))
theorem YE(l:#[g])(k:Nat):wL l k=eQ l k:=by unfold wL;simp only[pF,og,oa,jD,BI,Gf,rU];unfold eQ hV aej hb dt;rw[cQ];rfl
def vG(c:Nat)(l:#[j]):Bool:=jo ai (λd _ Q=>bif eV c d then ae else Q) l
theorem Jg(c:Nat):#[eN,vG c l=l.contains c]|[]=>rfl|d::l=>by show(bif eV c d then ae else vG c l)=_;rw[Jg c l,sW,ps];cases c==d<;>rfl
def uQ(f:Nat):#[j]->Nat->#[j]->#[j]->#[j]:=qM (λ_ _ _ A=>A) (λ_ Q l p H A=>bif l.isEmpty then A else fN (wx l) λk=>fL (bif vG (qH p k) H then wL l k else l) λr=>fL (r.take k) λa=>fL (r.drop (iw k)) λi=>fN (iw (qH p k)) λq=>40::Q a p H (eF r k::Q i q H (41::A))) f
theorem Gs:∀(f:Nat)(l:#[g])(p:Nat)(H A:#[g]),uQ f l p H A=ay f l p H++A|0,_,_,_,_=>rfl|f+1,l,p,H,A=>by show(bif l.isEmpty then A else fN _ λk=>fL _ λr=>fL _ λa=>fL _ λi=>fN _ λq=>40::uQ f _ p _ (eF r k::uQ f _ q _ _))=_;simp only[pF,og,Xx,Jg,YE,jD,Gs f];show _=#[aa,l.isEmpty,[],_]++A;cases l.isEmpty with|true=>rfl|false=>rw[#[c1]];simp only[cQ,fA,hX];cases X:H.contains (p+bp l)with|true=>rfl|false=>rfl
def lS(f:Nat)(l:#[j])(H:#[j]):#[j]:=uQ f l 0 H []
theorem Gu(f:Nat)(l H:#[g]):lS f l H=ay f l 0 H:=by unfold lS;rw[Gs,fy]
def nW(l:#[j]):Nat->Bool:=jo (λo=>eV o 0) (λt _ Q o=>bif eV t 40 then Q (iw o)else bif eV t 41 then qM ai (λn _=>Q n) o else Q o) l
theorem rB:∀(l:#[g])(o:Nat),nW l o=cO l o
 |[],o=>by show eV o 0=((o:Int)==0);rw[mh];simp
 |t::l,o=>by
  show(bif eV t _ then nW l _ else bif eV t _ then qM _ (λn _=>nW l n) o else nW l o)=#[lN,cO l _,(o:Int)-#[bi]<0,cO l _,cO l o];rw[oa,oa];split;.rw[rB l];rfl
  .split;.cases o with|zero=>rfl|succ n=>rw[show#[v,n+1]-#[bi]=n by omega];exact rB l n
   .exact rB l o
def nY(t:Nat):Bool:=bif eV t 40 then ae else eV t 41
theorem zj(t:Nat):nY t=dV t:=by unfold nY dV;rw[ps,ps];cases t==40<;>rfl
def wy(f0:#[j])(E:Nat)(i:Nat):Nat:=qM 0 (λi Q=>bif eV (eF f0 i) 40 then bif nW ((f0.take E).drop i) 0 then i else Q else Q) i
theorem Ln(f0:#[g])(E:Nat):∀i,wy f0 E i=hC f0 E i|0=>rfl|i+1=>by show(bif eV _ _ then bif nW _ 0 then i else wy _ _ i else wy _ _ i)=if f0.getD i 0==40&&cO _ _ then i else hC _ _ i;rw[oa,Ln _ _ i,rB,jD];cases f0.getD i 0==40 with|true=>cases cO _ _<;>rfl|false=>rfl
def wK(f0:#[j])(E:Nat):#[j]:=fN (wy f0 E E) λs=>fL (((aW (E+1-s)).map (s+·)).filter λk=>!nY (eF f0 k)) λP=>fL (wt (P.map (eF f0))) λg=>P.foldl (λo k=>o.set k (eF g (Nat.mod (bif eV (eF f0 E) (eF g 0)then Nat.sub (qH (oj (eF f0 k) g) g.length) 1 else iw (oj (eF f0 k) g)) g.length))) f0
theorem Yr(f0:#[g])(E:Nat):wK f0 E=mf f0 E:=by unfold wK;simp only[og,pF,Ln,zj,funext (jD f0),BI,jD,oa,rU];rfl
def pD(l:#[j]):#[j]->Bool:=jo (λm=>m.isEmpty) (λa _ Q m=>jo ai (λb r _=>bif eV a b then Q r else ai) m) l
theorem zL:∀l m:#[g],pD l m=(l==m)|[],[]=>rfl|[],_::_=>rfl|_::_,[]=>rfl|a::l,b::m=>by show(bif eV a b then pD l m else ai)=_;rw[zL l m,ps];simp
end
def bF(S:#[j]):#[j]:=(aW S.length).filter λp=>!dV (S.getD p 0)
def bf(n:Nat)(S:#[j]):#[j]:=(aW n).filter λk=>S.getD ((bF S).getD k 0-1) 0==41
def bb:#[j]->List (List Nat)|[]=>[[]]|k::r=>(bb r).flatMap λH=>[H,k::H]
def ni(l S:#[j]):#[j]->Bool|[]=>ae|k::r=>ni l S r&&(bb r).all λH=>mf #[fb] ((bF S).getD k 0)==#[i2,k::H]
def eh(o:#[j])(n:Nat):Nat:=((aW (n-1)).map λk=>if o.getD #[u] 0<o.getD k 0 then 2^k else 0).foldl (·+·) 0
def oc(l S:#[j]):#[j]:=(bb (bf l.length S)).foldl (λc H=>c.set (eh (#[fb].filter #[gN]) l.length) (c.getD (eh (#[fb].filter #[gN]) l.length) 0+1)) (cL (2^(l.length-1)) 0)
def ud:#[j]->#[j]->#[j]|[],m=>m|a::l,[]=>a::l|a::l,b::m=>(a+b)::ud l m
def vH(c:#[j])(a b:Nat):#[j]:=ud (cL a 0++c) (cL b 0++c)
def mX(l S:#[j]):#[j]:=(bf l.length S).foldl (λc k=>vH c (2^(k-1)) #[aa,#[n7]==40,2^k,0]) [1]
def jc(S:#[j])(k:Nat):Nat:=#[b8,#[n7],40,2^k,2^(k-1)]
def oC:Nat->#[j]->List (List Nat)|0,_=>[[]]|n+1,u=>(aW (n+1)).flatMap λd=>(oC n (u.eraseIdx d)).map λr=>u.getD d 0::r
def lW(u:#[j])(m:Nat):#[j]:=((aW u.length).filter λb=>(m>>>b)&&&1 !=0).map λb=>u.getD b 0
def Bl(l:#[j]):Bool:=ni l #[bG] #[i9]&&(oc l #[bG]==mX l #[bG]++cL (2^(l.length-1)-(mX l #[bG]).length) 0)&&(#[i9].all λk=>#[ax,1<=k/\jc #[bG] k<=8])&&cO #[bG] #[bq]&&decide ((bF (ay l.length l 0 [])).length=l.length/\(ay l.length l 0 []).length=3*l.length/\(ay l.length l 0 []).getD 0 0=40/\((bf l.length (ay l.length l 0 [])).map (jc (ay l.length l 0 []))).foldr (·+·) 0<=15)&&((bF #[bG]).all λp=>#[ax,1<=p/\p+1<#[bG].length])&&((bb (bf l.length #[bG])).all λH=>(#[fb].all λt=>t==40||t==41||#[ax,97<=t/\t<=101])&&((bF #[bG]).all λp=>!dV (#[fb].getD p 0))&&#[ax,#[fb].length=3*l.length/\#[t,#[fb].filter,#[gN]]=l.length])&&((aW #[t,bb,#[i9]]).all λm=>(bb (bf l.length #[bG])).getD m []==lW (bf l.length #[bG]) m)
noncomputable section
def BJ(S:#[j]):#[j]:=(aW S.length).filter λp=>!nY (eF S p)
theorem Xv(S:#[g]):BJ S=bF S:=by unfold BJ;simp only[zj,jD];rfl
def Ai(n:Nat)(S P:#[j]):#[j]:=(aW n).filter λk=>eV (eF S (Nat.sub (eF P k) 1)) 41
theorem SN(n:Nat)(S:#[g]):Ai n S (bF S)=bf n S:=by unfold Ai;simp only[ps,jD];rfl
def Cd(n:Nat)(l P:#[j]):#[j]->Bool:=jo ae λk r Q=>bif Q then(bb r).all (λH=>fL (lS n l H) λf0=>pD (wK f0 (eF P k)) (lS n l (k::H)))else ai
theorem LQ(l S:#[g]):∀r,Cd l.length l (bF S) r=ni l S r|[]=>rfl|k::r=>by show(bif Cd _ l _ r then(bb r).all (λH=>fL _ λf0=>pD (wK _ (eF _ k)) _)else ai)=(ni l _ r&&_);rw[LQ l _ r];simp only[pF,zL,Yr,jD,Gu];cases ni l _ r<;>rfl
def AH(o:#[j])(n:Nat):Nat:=(aW (n-1)).foldl (λs k=>qH s (bif mu (eF o k) (eF o (iw k))then 0 else Nat.pow 2 k)) 0
theorem US(o:#[g])(n:Nat):AH o n=eh o n:=by
 unfold AH eh;rw[ML];congr 1;funext s k;rw[rJ,jD,jD];by_cases h:o.getD k 0<=o.getD #[u] 0;.rw[if_pos h,if_neg (bK.mpr h)]
 .rw[if_neg h,if_pos (xF.mp h)];rfl
def vX(l:#[j]):Bool:=fL l λl=>fN l.length λn=>fL (lS n l []) λS=>fL (BJ S) λP=>fL (Ai n S P) λu=>Cd n l P u&&pD ((bb u).foldl (λc H=>fN (AH ((lS n l H).filter λt=>!nY t) n) λm=>fL (c.set m (iw (eF c m))) λc=>c) (cL (2^(n-1)) 0)) (mX l S++cL (2^(n-1)-(mX l S).length) 0)&&(u.all λk=>#[ax,1<=k/\jc S k<=8])&&nW S 0&&decide (P.length=n/\S.length=3*n/\S.getD 0 0=40/\(u.map (jc S)).foldr (·+·) 0<=15)&&(P.all λp=>#[ax,1<=p/\p+1<S.length])&&((bb u).all λH=>fL (lS n l H) λf0=>(f0.all λt=>eV t 40||eV t 41||#[ax,97<=t/\t<=101])&&(P.all λp=>!nY (eF f0 p))&&#[ax,f0.length=3*n/\#[t,f0.filter,λt=>!nY t]=n])&&((aW #[t,bb,u]).all λm=>pD ((bb u).getD m []) (lW u m))
theorem WL(l:#[g]):vX l=Bl l:=by unfold vX;simp only[pF,og,Gu,Xv,SN,LQ,zL,US,zj,rB,ps,jD];rfl
end
theorem WN:(oC 4 [97,98,99,100]).all vX=ae:=by decide
theorem WO:(oC 5 [97,98,99,100,101]).all vX=ae:=by decide+kernel
noncomputable def uo:#[y]:=by run_tac au.dc ["_law_traded"]
noncomputable def sx:bq:=by run_tac au.dd ["_law_traded"]
theorem VD:ip sx 2=ae:=#[p]
def As:aP:=by run_tac au.gA ["_law_traded"] [2,1,2,0,1]
def qe(c P:ao):fD:=⟨c,P,Iv As,"<lambda>","_law_traded.<locals>.<lambda>"⟩
theorem SD:iu (Iu As) [] (Iw As) [] 1 where
 bind:=by rintro⟨⟩l N a0 G R;dsimp at N a0 G;subst N a0 G;match l,R with|[a],_=>rfl
 ok:=#[p]
 kind:=rfl
 co:=rfl
 gen:=rfl
 mK:=by simp
 pK:=rfl
section
variable{B:Bs}{w:aD}{d0 g0:#[n]}
theorem Ys(F:#[w])(G:#[W]){c P:ao}(A:ba B 324 sx 2 uo [qe c P]){M:#[cU]}(L:hs M)(f0:#[j])(E:Nat)(v1:1<=E)(k0:E<f0.length)(O0:f0.length<=30)(p0:dV (f0.getD E 0)=ai)(R0:∀i,Fn B w 4 260 [.atom (.str (bh [] #[og]))] (.atom (.bool (cO ((f0.take E).drop i) #[bq])))):Fn B w 5 324 [#[ft],#[cv,(E:Nat)]] #[fh,#[dd,(mf f0 E).map]]:=by
 refine Fn.dM F A rfl rfl rfl rfl VD ?_;have q0:aG w 4 (bL .Sub) #[cf,E] #[T,#[a5]] #[cf,E-1]:=by have:=St.sub (w:=w) (n:=4) (i:=(E:Int)) (j:=#[a5]);rwa[show((E:Int)-#[a5])=#[v,E-1]by omega]at this
 have F1:#[cI,#[hj,f0.map]]:=by simp only[dp,ah,aQ];omega
 have x0:∀(r:#[j])(k:Nat),k<r.length->br (ah #[dd,r.map]) #[bW]=#[P,ax M (r.getD k 0)]:=λr k h=>by unfold br;rw[hU (by simpa[ah]using h)];simp[ah,bB h,dO]
 run_tac au.aI
 have i0:∀(X:#[D])(H:#[l]),(H=[#[ft]]\/H=[#[ft],.list X])->aj B w 4 (ey sx #[t,da,[D.list (ah #[dd,f0.map]),D.atom (V.int #[v,E])]] [qe c P]) (uo.drop 1) [#[bj],#[B,E],#[B,hC f0 E E],ab,ab,ab,ab,ab,ab,ab,ab,ab,ab] H (dx #[t,da,[D.list (ah #[dd,f0.map]),D.atom (V.int #[v,E])]] #[cr,#[hj,(mf f0 E).map]]):=by
  intro X H Z;have O:mf f0 E=(nc f0 (hC f0 E E) E).foldl (λo k=>o.set k (ik f0 (rS f0 (hC f0 E E) E) E k)) f0:=rfl;have B1:=Lo f0 E E;rw[O];generalize hC f0 E E=n at*;generalize c1:nc f0 n E=c0;have b1:c0.length<=30:=by rw[<-c1];unfold nc;exact aH (sZ _ _) (by simp;omega)
  have w0:∀k∈c0,n<=k/\k<=E/\dV #[ee]=ai:=λk C=>by rw[<-c1]at C;exact XA C
  have w1:E∈c0:=by rw[<-c1];unfold nc;rw[iT];exact⟨bI.mpr ⟨E-n,#[G,eH.mpr],by omega⟩,by rw[p0];rfl⟩
  have f1:rS f0 n E=la (c0.map #[is]):=by unfold rS;rw[c1]
  generalize rS f0 n E=R at*;have r1:∀k∈c0,f0.getD k 0∈R:=λk C=>by rw[f1,sD];exact bI.mpr #[au,k,C]
  have z1:∀x∈R,dV x=ai:=λx z=>by rw[f1,sD]at z;obtain⟨k,C,rfl⟩:=bI.mp z;exact(w0 k C).2.2
  have S0:R.length=c0.length:=by rw[f1,Lf,aQ]
  have e1:0<R.length:=CI (r1 E w1);generalize p1:(aW (E+1-n)).map (n+·)=t0;have j0:∀k∈t0,k<f0.length:=λk C=>by rw[<-p1]at C;obtain⟨j,q,rfl⟩:=bI.mp C;rw[eH]at q;omega
  have s0:(t0.map #[cO])=(aW (E+1-n)).map λk=>#[dA,n+k]:=by rw[<-p1,gr];rfl
  have l1:∀k,k∈t0->br (ah #[dd,f0.map]) #[bW]=#[P,ax M #[ee]]:=λk C=>x0 f0 k (j0 k C);have A1:∀k,k∈c0->ax M #[ee]=M #[ee]:=λk C=>sm (FH (w0 k C).2.2);have Z0:∀k,k∈c0->br #[hj,f0.map] #[bW]=#[P,M (f0.getD k 0)]:=λk C=>by rw[<-A1 k C];exact x0 f0 k (by have:=w0 k C;omega)
  have x1:=Z0 E w1;have Y0:#[m2]:=rfl;have J0:hD 307 12 t0 (#[cO]) (λk=>!#[ob,#[ee]]) (#[cO]):=trivial;have U0:(t0.filter λk=>!#[ob,#[ee]]).map (#[cO])=c0.map #[cO]:=by rw[<-c1,<-p1];unfold nc;congr 1;apply sX;intro k _;exact Bf L _
  have C0:hD 308 19 c0 (#[cO]) (λ_=>ae) (λk=>#[eu,#[ee]]):=trivial;have n1:(c0.filter λ_=>ae).map (λk=>#[eu,#[ee]])=#[dN,c0.map,#[is],M]:=by rw[#[hP]];unfold ah;rw[gr,gr];rfl
  have m0:#[lx]:=L.at_;have a1:∀c,#[bd,M,c]:=λc=>aH (L.len c) #[i];have I0:rp (c0.map #[is]) M (#[cs]) (R.map M):=⟨Mine.key,λc _=>L.key c,λx N a0=>by rw[f1];exact Li L x N a0⟩;have y1:=SD;have o0:#[bd,c0.map,#[cO]]:=by simp only[dp,aQ];omega
  have E0:#[bd,(aW (E+1-n)).map,λk=>#[dA,n+k]]:=by simp only[dp,aQ,gq];omega
  have H0:#[cI,#[bU,R.map]]:=by simp only[dp,ah,aQ];omega
  have T0:#[t,c0.map,#[is]]<64:=by rw[aQ];omega
  have q1:br #[bU,R.map] #[bq]=#[P,M (R.getD 0 0)]:=by unfold br;rw[hU (by simpa[ah]using e1)];simp[ah,bB e1,dO]
  have b0:(M (f0.getD E 0)==M (R.getD 0 0))=(f0.getD E 0==R.getD 0 0):=by rw[mh,beq_iff_eq,beq_iff_eq];exact⟨λe=>L.inj e,λe=>by rw[e]⟩
  have k1:∀(o:#[j])(k x:Nat),dV x=ai->#[hj,o.map].set k #[cV,M,x]=ah ((o.set k x).map (ax M)):=λo k x z=>by rw[<-sm (M:=M) (FH z)];unfold ah;rw[tf,tf]
  have n0:∀(l:#[j])(o:#[j]),#[bb,(l.foldl (λo k=>o.set k (ik f0 R E k)) o),o.length]:=λl=>by induction l with|nil=>intro o;rfl|cons a r Q=>intro o;rw[dN,Q,tb]
  have g1:∀k,k∈c0->#[fH,R.idxOf]<R.length:=λk C=>nD.mpr (r1 k C);have G0:∀k,k∈c0->(R.map M).findIdx? (·==M (f0.getD k 0))=aa (R.idxOf #[ee]):=λk C=>vc (λe=>L.inj e) (r1 k C);have j1:#[bU,R.map].length<2^62:=by simp only[ah,aQ];omega
  have G1:#[bb,#[bU,R.map],R.length]:=by simp[ah]
  have C1:∀j,j<R.length->#[fO,#[bU,R.map],j,M (R.getD j 0)]:=λj q=>by unfold br;rw[hU (by simpa[ah]using q)];simp[ah,bB q,dO]
  have u0:∀j,j<R.length->dV (R.getD j 0)=ai:=λj q=>z1 _ (lU q);have E1:∀o:#[j],o.length=f0.length->#[cI,#[hj,o.map]]:=λo p=>by simp only[dp,ah,aQ];omega
  have d1:∀(Y J:#[l])(L1:Int)(u U J1:Nat),True:=λ_ _ _ _ _ _=>trivial
  cases m1:(f0.getD E 0==R.getD 0 0)with
  |true=>
   rw[m1]at b0
   have H1:∀i,i<R.length->aG w 4 (bL .Mod) #[T,#[v,i]+-#[a5]] #[cf,R.length] #[cf,(i+R.length-1)%R.length]:=λi b=>by
    have h:=St.mod (w:=w) (n:=4) (i:=#[v,i]+-#[a5]) (j:=#[v,R.length]) #[f]
    have e:(#[v,i]+-#[a5]).fmod #[v,R.length]=#[v,(i+R.length-1)%R.length]:=by
     rw[Cs _ #[f]];have:(#[v,i]+-#[a5])=#[v,i+R.length-1]-#[v,R.length]:=by omega
     rw[this,Int.sub_emod_right];rfl
    rw[e]at h;exact h
   have N0:∀k,ik f0 R E k=R.getD ((#[fH,R.idxOf]+R.length-1)%R.length) 0:=λk=>by unfold ik;rw[m1];rfl
   have y0:∀i,(i+R.length-1)%R.length<R.length:=λi=>hH _ e1;rcases Z with rfl|rfl
   .run_tac au.aI
    refine#[kV,1,#[ld,#[ft]],#[ag],#[V,3],-#[a5],#[V,4],#[ld,#[aq,#[dd,h0.map]]]];.run_tac au.aI
    .rintro k v s⟨y,h0,rfl,_,rfl⟩;exact#[aJ,bx rfl]
    .rintro m x v s z⟨y,h0,rfl,l0,rfl⟩_ _;rw[cb]at z;obtain⟨k,C,rfl⟩:=dP.mp z;have A0:k∈c0:=bC C;have o1:#[lL]:=by rw[l0];exact n0 _ _
     have i1:=w0 k A0;have s1:k<#[t,ah,#[dd,h0.map]]:=by simp only[ah,aQ];omega
     have N:=g1 k A0;have a0:=y0 (R.idxOf #[ee]);have f:=#[k8];run_tac au.aI
     refine#[lb,#[fH,R.idxOf]+R.length-1];.rw[sI C,mn,<-l0];show#[li];rw[N0]
     .rw[<-f]
    .rintro v s⟨y,h0,rfl,l0,rfl⟩;rw[aQ,gL]at l0;rw[<-l0];run_tac au.aI
     all_goals simp[ah,bR]
   .run_tac au.aI
    refine#[kV,2,#[k4,#[ft]],#[V,2],#[V,4],-#[a5],#[V,5],#[k4,#[aq,#[dd,h0.map]]]];.run_tac au.aI
    .rintro k v s⟨y,h0,rfl,_,rfl⟩;exact#[aJ,bx rfl]
    .rintro m x v s z⟨y,h0,rfl,l0,rfl⟩_ _;rw[cb]at z;obtain⟨k,C,rfl⟩:=dP.mp z;have A0:k∈c0:=bC C;have o1:#[lL]:=by rw[l0];exact n0 _ _
     have i1:=w0 k A0;have s1:k<#[hj,h0.map].length:=by simp only[ah,aQ];omega
     have N:=g1 k A0;have a0:=y0 (R.idxOf #[ee]);have f:=#[k8];run_tac au.aI
     refine#[lb,#[fH,R.idxOf]+R.length-1];.rw[sI C,mn,<-l0];show#[li];rw[N0]
     .rw[<-f]
    .rintro v s⟨y,h0,rfl,l0,rfl⟩;rw[aQ,gL]at l0;rw[<-l0];run_tac au.aI
     all_goals simp[ah,bR]
  |false=>
   rw[m1]at b0;have N0:∀k,ik f0 R E k=R.getD ((#[fH,R.idxOf]+1)%R.length) 0:=λk=>by unfold ik;rw[m1];rfl
   have y0:∀i,(i+1)%R.length<R.length:=λi=>hH _ e1;rcases Z with rfl|rfl
   .run_tac au.aI
    refine#[kV,1,#[ld,#[ft]],#[ag],#[V,3],#[a5],#[V,4],#[ld,#[aq,#[dd,h0.map]]]];.run_tac au.aI
    .rintro k v s⟨y,h0,rfl,_,rfl⟩;exact#[aJ,bx rfl]
    .rintro m x v s z⟨y,h0,rfl,l0,rfl⟩_ _;rw[cb]at z;obtain⟨k,C,rfl⟩:=dP.mp z;have A0:k∈c0:=bC C;have o1:#[lL]:=by rw[l0];exact n0 _ _
     have i1:=w0 k A0;have s1:k<#[hj,h0.map].length:=by simp only[ah,aQ];omega
     have N:=g1 k A0;have a0:=y0 (R.idxOf #[ee]);have f:=#[k8];run_tac au.aI
     refine#[lb,#[fH,R.idxOf]+1];.rw[sI C,mn,<-l0];show#[li];rw[N0]
     .rw[<-f]
    .rintro v s⟨y,h0,rfl,l0,rfl⟩;rw[aQ,gL]at l0;rw[<-l0];run_tac au.aI
     all_goals simp[ah,bR]
   .run_tac au.aI
    refine#[kV,2,#[k4,#[ft]],#[V,2],#[V,4],#[a5],#[V,5],#[k4,#[aq,#[dd,h0.map]]]];.run_tac au.aI
    .rintro k v s⟨y,h0,rfl,_,rfl⟩;exact#[aJ,bx rfl]
    .rintro m x v s z⟨y,h0,rfl,l0,rfl⟩_ _;rw[cb]at z;obtain⟨k,C,rfl⟩:=dP.mp z;have A0:k∈c0:=bC C;have o1:#[lL]:=by rw[l0];exact n0 _ _
     have i1:=w0 k A0;have s1:k<#[t,ah,#[dd,h0.map]]:=by simp only[ah,aQ];omega
     have N:=g1 k A0;have a0:=y0 (R.idxOf #[ee]);have f:=#[k8];run_tac au.aI
     refine#[lb,#[fH,R.idxOf]+1];.rw[sI C,mn,<-l0];show#[li];rw[N0]
     .rw[<-f]
    .rintro v s⟨y,h0,rfl,l0,rfl⟩;rw[aQ,gL]at l0;rw[<-l0];run_tac au.aI
     all_goals simp[ah,bR]
 refine aj.gS (i:=2) (X:=(aW (E-1+1)).map λk=>#[dA,E-1-k]) (C:=λ_=>True) (b0:=[#[ft]]) (c:=λk v s=>∃y,v=[#[bj],#[B,E],y,ab,ab,ab,ab,ab,ab,ab,ab,ab,ab]/\(0<k->y=aa (.int #[v,E-k]))/\s=[#[ft]]/\hC f0 E E=hC f0 E (E-k)) ?_ rfl #[a0] #[ds,ab,rfl,λh=>absurd h #[f],rfl] ?_ ?_ ?_ #[ai];.run_tac au.aI
 .rintro k v s⟨y,rfl,_⟩;exact#[gG,bx rfl]
 .rintro k x v s z⟨y,rfl,_,rfl,Z⟩_ _;rw[cb]at z;obtain⟨j,q,rfl⟩:=dP.mp z;obtain⟨X0,h1⟩:=bu.mp q;rw[xk]at h1;subst h1;rw[gq]at X0;have b:E-k=(E-1-k)+1:=by omega
  have M0:E-#[u]=E-1-k:=by omega
  generalize u1:E-1-k=i at*;have r0:cF (ah #[dd,f0.map]) (aa #[v,i]) (aa #[v,E])=#[dN,(f0.take E).drop,i,ax M]:=by rw[KX];simp[ah,xm,td,xh]
  have S:=x0 f0 i #[f];have e0:=Bg L (f0.getD i 0);rw[b]at Z;have T:hC f0 E (i+1)=if f0.getD i 0==40&&#[nA]then i else hC f0 E i:=rfl;rw[T]at Z;have d:=R0 i;have v0:#[hQ,#[og].map,#[og].length,[]]:=by have:=qj (l:=((f0.take E).drop i).map (ax M)) (m:=64) #[b1,by obtain⟨t,_,rfl⟩:=bI.mp z;exact vW L t];simp only[aQ,cR,bH,et,xE,qK,dp]at this⊢;omega
  cases F0:(f0.getD i 0==40)with
  |false=>
   rw[F0]at e0 Z;run_tac au.aI
   exact .inl ⟨_,rfl,λ_=>by rw[M0],rfl,by rw[M0];exact Z⟩
  |true=>rw[F0]at e0 Z;cases Q0:#[nA]with
  |false=>
   rw[Q0]at Z d;run_tac au.aI
   refine .inr ⟨1,aO _,Ga #[aO] ?_ ?_,_,rfl,λ_=>by rw[M0],rfl,by rw[M0];exact Z⟩;.simp[bD]
   .simp[fl,ah,bD]
  |true=>rw[Q0]at Z d;have t1:hC f0 E E=i:=Z;rw[t1]at i0;run_tac au.aI
 .rintro v s⟨y,rfl,g,rfl,Z⟩;rw[aQ,gq]at Z g;have I:E-(E-1+1)=0:=by omega
  rw[I]at Z g;have t1:hC f0 E E=0:=Z;rw[t1]at i0;have L0:=#[G,g];subst L0;have I1:=i0 [] _ #[a0];clear i0;run_tac au.aI
end
noncomputable def uk:#[y]:=by run_tac au.dc ["_law_spelled"]
noncomputable def sv:bq:=by run_tac au.dd ["_law_spelled"]
theorem VB:ip sv 2=ae:=#[p]
def pE(w:Tx):Tx:=w.flatMap λc=>[92]++[c]
def mN(w:Tx):Tx:=w.flatMap λc=>if#[gM]then[92]++[c]else[c]
def fc:Tx->Nat->Tx|w,2=>pE w|w,1=>[34]++mN w++[34]|[],_=>[]|c::r,_=>#[aa,#[gM],[92],[]]++[c]++lH 92 r
theorem jE:#[eN,bh [] l=l.flatten]|[]=>rfl|[x]=>by simp[bh]|x::y::r=>by show x++[]++bh _ _=_;rw[jE _];simp
theorem zN:∀w:Tx,#[t,mN,w]<=2*w.length
 |[]=>aO _
 |c::r=>by
  have Q:=zN r;unfold mN at Q⊢;rw[mm,aV,cc];generalize(MH _ r).length=k at Q⊢;split;.show 2+k<=_;omega
  .show 1+k<=_;omega
theorem uI(c:Nat):∀w:Tx,#[a2,(lH c w),2*w.length]|[]=>aO _|k::r=>by have Q:=uI c r;unfold lH;split<;>simp<;>omega
section
variable{B:Bs}{w:aD}{d0 g0:#[n]}
theorem Xw(F:#[w])(G:#[W])(J:ba B 314 sv 2 uk)(d:Tx)(g:Nat)(a:d≠[])(R:d.length<=64)(h:g<=2):Fn B w 2 314 [.atom (.str d),#[cv,(g:Nat)]] (.atom (.str (fc d g))):=by
 refine#[gf,VB];have l:d.length<=aB:=by rw[dp];omega
 have e:#[bd,d.map,#[fV]]:=#[R]
 match g,h with
  |2,_=>
   have I:hD 281 23 d (λc=>#[dP]) (λ_=>ae) (λc=>V.str ([92]++[c])):=trivial;have m:(d.filter λ_=>ae).map (λc=>V.str ([92]++[c]))=ah (d.map λc=>[92]++[c]):=by rw[#[hP]];simp[ah]
   have Z:#[hQ,(d.map λc=>([92]++[c]:Tx)).map,#[t,d.map,λc=>([92]++[c]:Tx)],[]]:=by have:=qj (l:=d.map λc=>([92]++[c]:Tx)) (m:=2) #[b1,by obtain⟨c,_,rfl⟩:=bI.mp z;simp];rw[dp];simp only[aQ,et,xE]at this⊢;omega
   have b:bh [] (d.map λc=>([92]++[c]:Tx))=fc d 2:=by rw[jE];simp[fc,pE,MH]
   run_tac au.aI
  |1,_=>
   have I:hD 283 29 d (λc=>#[dP]) (λ_=>ae) (λc=>if#[gM]then V.str ([92]++[c])else#[dP]):=trivial;have m:(d.filter λ_=>ae).map (λc=>if#[gM]then V.str ([92]++[c])else#[dP])=ah (d.map λc=>if#[gM]then[92]++[c]else[c]):=by rw[#[hP]];unfold ah;rw[gr];apply lr;intro c _;simp only[Function.comp];split<;>rfl
   have H:∀c:Nat,bR (if#[gM]then V.str ([92]++[c])else#[dP])=ae:=λc=>by split<;>rfl
   have Z:#[hQ,(d.map #[l2]).map,#[t,d.map,#[l2]],[]]:=by have:=qj (l:=d.map #[l2]) (m:=2) #[b1,by obtain⟨c,_,rfl⟩:=bI.mp z;split<;>simp];rw[dp];simp only[aQ,et,xE]at this⊢;omega
   have b:bh [] (d.map #[l2])=mN d:=by rw[jE];rfl
   have T:fc d 1=[34]++mN d++[34]:=by unfold fc;rfl
   rw[T];have p:#[t,mN,d]<=128:=by have:=zN d;omega
   run_tac au.aI
   all_goals(simp only[dp,aV,cc,et];omega)
  |0,_=>
   obtain⟨c,r,rfl⟩:∃c r,d=c::r:=by cases d with|nil=>exact#[dm,a]|cons c r=>exact#[au,c,r]
   have u:br (c::r) #[bq]=aa c:=by unfold br;rw[hU (by simp)];rfl
   have k:cF (c::r) (aa (1:Int)) ab=r:=oG (c::r) 1;have f:∀t:Tx,(oZ (cq t) (ak "\\") (ak "\\\\")).cps.toList=lH 92 t:=λt=>by have:=StrLaws.replace_double (cq t) 92;rw[Va]at this;exact this
   have i:r.length+(r.length+1)*#[t,ak,"\\\\"]<=16777216:=by have:#[t,ak,"\\\\"]=2:=rfl;rw[this];simp only[cc]at R;omega
   have T:fc (c::r) 0=#[aa,#[gM],[92],[]]++[c]++lH 92 r:=by unfold fc;rfl
   rw[T];have p:#[a2,(lH 92 r),128]:=by have:=uI 92 r;simp only[cc]at R;omega
   cases X:#[gM]with
   |true=>
    run_tac au.aI
    all_goals(simp only[dp,aV,cc,et];omega)
   |false=>
    run_tac au.aI
    all_goals(simp only[dp,aV,cc,et];omega)
end
def gz:#[cU]|0=>[]|1=>#[eV]|2=>[92,41]|3=>#[f6]|4=>[92,92,59]|_=>[92,34]
def nX:#[cU]|0=>[]|1=>[]|2=>[92,41]|3=>[]|4=>[92,92,59]|_=>[92,34]
def aA(M:#[ac])(c:Nat):Tx:=gz (M c)++[c]
def eD(M:#[ac])(t:Nat):Tx:=if t=40\/t=41 then[t]else nX (M t)++[t]
def hy(t:Nat):Prop:=t≠92/\t≠34
theorem kk(M:#[ac]):hs (aA M)where
 last:=λc=>#[aU]
 len:=λc=>by
  unfold aA;have:#[a2,(gz (M c)),5]:=by unfold gz;split<;>simp
  simp;omega
theorem jg(x:Tx)(l:#[g]):bh [] (x::l)=x++bh [] l:=by rw[jE,jE];rfl
theorem lT(h:c≠92)(i:Nat)(r:Tx):be i ai (c::r)=(i,[c])::be (i+1) ai r:=by simp[be,h]
theorem uV(c i:Nat)(r:Tx):be i ai (92::c::r)=(i+1,[92,c])::be (i+2) ai r:=#[p]
theorem uC(M:#[ac]):∀(f0:#[j])(i:Nat)(o:Int),(#[dD,f0])->eY (be i ai (bh [] (f0.map (eD M)))) o=cO f0 o
 |[],i,o,_=>rfl
 |t::r,i,o,h=>by
  have N:=h t fB;have a0:=λx z=>h x (dH _ z);rw[dh,jg];by_cases Z:t=40\/t=41
  .rcases Z with rfl|rfl;.exact uC M r (i+1) _ a0
   .show(if o-#[bi]<(0:Nat)then ai else eY _ _)=if o-#[bi]<(0:Nat)then ai else cO r _;split;.rfl
    .exact uC M r (i+1) _ a0
  .have X:eD M t=nX (M t)++[t]:=by unfold eD;rw[if_neg Z]
   have n:cO (t::r) o=cO r o:=by
    have F:(t==40)=ai:=by rw[beq_eq_false_iff_ne];exactλe=>Z (.inl e)
    have d:(t==41)=ai:=by rw[beq_eq_false_iff_ne];exactλe=>Z (.inr e)
    show(#[b8,t,40,_,#[b8,t,41,_,cO r o]])=_;rw[F,d];rfl
   have a:∀j,eY (be j ai #[lD]) o=cO r o:=λj=>by
    rw[ti,lT N.1,FR];have F:([t]==[40])=ai:=by rw[beq_eq_false_iff_ne];intro e;exact Z (.inl (by simpa using e))
    have d:([t]==[41])=ai:=by rw[beq_eq_false_iff_ne];intro e;exact Z (.inr (by simpa using e))
    rw[F,d];exact uC M r (j+1) o a0
   rw[X,n,cQ];unfold nX;split;.exact a i
   .exact a i
   .exact a (i+2)
   .exact a i
   .exact a (i+2+1)
   .exact a (i+2)
structure kl(a P:Tx)(r:kQ)(b:Tx):Prop where
 opn:r.opn=ab
 le:r.start<=P.length
 val:bh [] r.res++P.drop r.start=b
theorem Ao(l:#[g])(x:Tx):bh [] (l++[x])=bh [] l++x:=by rw[jE,jE];simp
theorem kl.plain(h:kl a P r b)(x:Tx):kl a (P++x) r (b++x):=⟨h.opn,by rw[aV];exact aH h.le (hZ _ _),by rw[lp h.le,<-cQ,h.val]⟩
theorem kl.quote(h:kl a P r c)(I:a=P++q++R):kl a (P++q) ⟨P.length+q.length,ab,if r.start !=P.length then r.res++[cF a (aa r.start) (aa P.length)]else r.res⟩ c:=by
 refine#[bL,rfl,#[z]];rw[qx (by simp),fy];have u:cF a (aa r.start) (aa P.length)=P.drop r.start:=by rw[KX,I,cQ,lp h.le,ls (by simp)];exact hY (by simp)
 show bh _ #[aa,r.start !=P.length,_,_]=c;by_cases b:r.start=P.length;.rw[b,bne_self_eq_false];have:=h.val;rw[b,qw,fy]at this;exact this
 .rw[bne_iff_ne.mpr b,#[cB],Ao,u,h.val]
theorem mg{q:Nat×Tx}(h:q.2≠[34]):eP a r q=r:=by unfold eP;simp_all
theorem Ce(h:r.opn=ab):eP a r (i,[34])={r with opn:=aa i}:=by unfold eP;rw[h];rfl
theorem LV{r:kQ}:eP a {r with opn:=aa p} (i,[34])=⟨i+1,ab,if r.start !=p then r.res++[cF a (aa r.start) (aa p)]else r.res⟩:=rfl
theorem LB(h:kl a a r b):gZ a r=b:=by
 unfold gZ;by_cases R:r.start<a.length;.rw[if_pos R,Ao,oG,h.val]
 .rw[if_neg R];have:=h.val;rw[#[G,qx],fy]at this;exact this
theorem BR(M:#[ac])(a J:Tx)(F:Tx->Tx)(k:∀(P:Tx)(d:kQ)(f:Tx),a=P++J->kl a P d f->gZ a #[hK,J]=F f):∀(f0:#[j])(P:Tx)(d:kQ)(f:Tx),(#[dD,f0])->a=P++(bh [] (f0.map #[cx])++J)->kl a P d f->gZ a #[hK,bh [] (f0.map #[cx])++J]=F (f++#[ki])
 |[],P,d,f,_,I,h=>by rw[oO,oO,#[co,bh [] []=([]:Tx)],fy];exact k P d f I h
 |t::r,P,d,f,n0,I,h=>by
  have N:=n0 t fB;have a0:∀x∈r,hy x:=λx z=>n0 x (dH _ z);have o:∀(x:Nat),([x]:Tx)≠[34]↔x≠34:=λx=>by simp
  have s:∀(x y:Nat),([x,y]:Tx)≠[34]:=λx y=>by simp
  rw[dh,jg,cQ]at I;rw[dh,dh,jg,jg,cQ];generalize b:bh [] #[db,r.map]++J=R at*;have l:∀(m:Tx)(g:kQ)(i:Tx),a=m++#[cG]->kl a m g i->gZ a ((be m.length ai #[cG]).foldl (eP a) g)=F (i++#[lD]):=λm g i E j=>by have Q:=BR M a J F k r (m++[t]) g (i++[t]) a0 (by rw[b,E];simp) (j.plain [t]);rw[b,aV]at Q;rw[ti,lT N.1,dN,mg ((o t).mpr N.2)];rw[<-cQ i];exact Q
  by_cases Z:t=40\/t=41
  .have c:ax (aA M) t=[t]:=by unfold ax;rw[if_pos Z]
   have e:eD M t=[t]:=by unfold eD;rw[if_pos Z]
   rw[c]at I⊢;rw[e];exact l P d f I h
  .have c:ax (aA M) t=gz (M t)++[t]:=by unfold ax;rw[if_neg Z];rfl
   have e:eD M t=nX (M t)++[t]:=by unfold eD;rw[if_neg Z]
   rw[c,cQ]at I⊢;rw[e,cQ];have n:∀q:Tx,a=P++(q++#[cG])->gZ a ((be (P++q).length ai #[cG]).foldl (eP a) ⟨P.length+q.length,ab,if d.start !=P.length then d.res++[cF a (aa #[v,d.start]) (aa #[v,P.length])]else d.res⟩)=F (f++#[lD]):=λq O=>l (P++q) _ f (by rw[O];simp) (h.quote (R:=[t]++R) (by rw[O];simp));have p:∀q:Tx,a=P++(q++#[cG])->gZ a ((be (P++q).length ai #[cG]).foldl (eP a) d)=F (f++(q++#[lD])):=λq O=>by rw[<-cQ f];exact l (P++q) d (f++q) (by rw[O];simp) (h.plain q)
   have T:d={d with opn:=ab}:=by have:=h.opn;cases d;simp at this;subst this;rfl
   unfold gz at I⊢;unfold nX;split at I;.exact l P d f I h
   .have O:=n #[eV] I;show gZ a #[hK,34::40::34::#[cG]]=F (f++([]++_));rw[#[aQ,lT],#[aQ,lT],#[aQ,lT],dN,Ce h.opn,dN,mg ((o 40).mpr #[i]),dN,LV];rw[aV]at O;exact O
   .have O:=p [92,41] I;show gZ a #[hK,92::41::#[cG]]=_;rw[uV,dN,mg (s _ _)];rw[aV]at O;exact O
   .have O:=n #[f6] I;show gZ a #[hK,34::92::34::41::34::#[cG]]=F (f++([]++_));rw[#[aQ,lT],uV,#[aQ,lT],#[aQ,lT],dN,Ce h.opn,dN,mg (s _ _),dN,mg ((o 41).mpr #[i]),dN,LV];rw[aV]at O;exact O
   .have O:=p [92,92,59] I;show gZ a #[hK,92::92::59::#[cG]]=_;rw[uV,#[aQ,lT],dN,mg (s _ _),dN,mg ((o 59).mpr #[i])];rw[aV]at O;exact O
   .have O:=p [92,34] I;show gZ a #[hK,92::34::#[cG]]=_;rw[uV,dN,mg (s _ _)];rw[aV]at O;exact O
theorem uW:∀(a:Tx)(i:Nat)(e:Bool),∀q∈be i e a,q.2=[34]->34∈a
 |[],i,e,q,O,h=>by cases e<;>simp[be]at O;subst O;simp at h
 |c::r,i,ae,q,O,h=>by
  obtain rfl|O:=bc.mp O;.simp at h
  .exact dH _ (uW r _ _ q O h)
 |c::r,i,ai,q,O,h=>by
  unfold be at O;split at O;.exact dH _ (uW r _ _ q O h)
  .obtain rfl|O:=bc.mp O;.simp_all
   .exact dH _ (uW r _ _ q O h)
theorem HA:∀l:List (Nat×Tx),(∀q∈l,q.2≠[34])->l.foldl (eP a) r=r|[],_=>rfl|q::l,h=>by rw[dN,mg (h q fB)];exact HA l λx z=>h x (dH _ z)
theorem wC(M:#[ac])(f0:#[g])(h:#[dD,f0]):dF #[kl]=#[ki]:=by
 have o:=BR M (bh _ (f0.map (ax _))) _ _ (λP r b I h=>by rw[fy]at I;subst I;exact LB h) _ [] ⟨0,_,[]⟩ _ h (fy _).symm #[au,rfl,aO _];rw[fy]at o;unfold dF;split;.exact o
 .rename_i f;rw[HA _ λq O e=>f (uW _ _ _ q O e)]at o;rw[LB #[au,rfl,aT _]]at o;exact o
theorem XW(M:#[ac])(f0:#[g])(h:#[dD,f0]):dF (bh [] #[db,f0.map]++[34])=#[ki]++[34]:=by have o:=BR M (bh _ (f0.map (ax _))++[34]) _ _ (λP r b I h=>by rw[#[co,be _ _ _=[(P.length,[34])]],dN,Ce h.opn];have p:=h.le;rw[I];show bh _ #[aa,r.start<(P++[34]).length,r.res++[cF _ (aa r.start) _],r.res]=_;rw[if_pos (by rw[aV];exact Nat.lt_succ_of_le p),Ao,oG,lp p,<-cQ,h.val]) _ [] ⟨0,_,[]⟩ _ h rfl #[au,rfl,aO _];unfold dF;rw[if_pos (tg _ (aY.mpr rfl))];exact o
theorem Js(M:#[ac])(f0:#[g])(h:#[dD,f0]):eY #[de,dF (bh [] (f0.map #[cx]))] (0:Nat)=cO f0 (0:Nat):=by rw[wC _ _ h];exact uC _ _ 0 _ h
theorem vu(M:#[ac])(f0:#[g]):#[a2,#[kl],f0.length*64]:=by rw[jE,CH];have:=qj (l:=f0.map (ax (aA M))) #[b1,by obtain⟨t,_,rfl⟩:=bI.mp z;exact vW (kk _) t];rw[aQ]at this;exact this
theorem zd(M:#[ac])(f0:#[g]):#[a2,(bh [] (f0.map (eD M))),f0.length*64]:=by
 rw[jE,CH]
 have:=qj (l:=f0.map (eD M)) (m:=64) #[b1,by
  obtain⟨t,_,rfl⟩:=bI.mp z;unfold eD;split;.simp
  .unfold nX;split<;>simp]
 rw[aQ]at this;exact this
section
variable{B:Bs}{w:aD}{d0 g0:#[n]}
theorem Rk(F:#[w])(G:#[W])(b:ba B 260 pU 1 ug)(a:ba B 253 pX 1 um)(e:ba B 246 jH 1 fE)(M:#[ac])(f0:#[g])(h:#[dD,f0])(R:f0.length<=60):Fn B w 4 260 [.atom (.str #[kl])] (.atom (.bool (cO f0 (0:Nat)))):=by have N:=vu M f0;have a0:=zd M f0;have u:=dp;have X:=FQ F G b e (w:=w) #[kl] 2 #[f] (by rw[wC _ _ h];omega) (BQ F G a e _ 0 #[f]);rw[Js _ _ h]at X;exact X
theorem Yt(F:#[w])(G:#[W])(J:ba B 324 sx 2 uo [qe c P])(b:ba B 260 pU 1 ug)(a:ba B 253 pX 1 um)(e:ba B 246 jH 1 fE)(M:#[ac])(f0:#[g])(h:#[dD,f0])(E:Nat)(g:1<=E)(j:E<f0.length)(H:f0.length<=30)(z:dV (f0.getD E 0)=ai):Fn B w 5 324 [#[fz,f0.map],#[cv,E]] #[cr,ah ((mf f0 E).map #[cx])]:=Ys F G J (kk _) _ _ g j H z λi=>Rk F G b a e _ _ (λt n0=>h t (eA (eU n0))) (by rw[cR,bH];omega)
end
theorem VR.same(h:#[j8])(r:#[bn,x])(b:bD n x):VR j v x:=by cases x with|ob i=>obtain⟨a,e,rfl⟩:=r;exact#[au,a,(h i b).trans e]|none=>exact r|bool _=>exact r|int _=>exact r|str _=>exact r
theorem bD.le(h:bD n x)(k:n<=m):bD m x:=by cases x with|ob i=>exact eo h k|none=>trivial|bool _=>trivial|int _=>trivial|str _=>trivial
theorem aM.same(h:#[j8])(r:#[a6,Y,X]):(∀x∈X,bD n x)->aM (VR j) Y X:=by induction r with|nil=>exactλ_=>.nil|cons a _ Q=>exactλb=>.cons (a.same h (b _ fB)) (Q λy m=>b y (dH _ m))
def kv(n:Nat)(j0:#[fk])(O:#[s])(o:ck):Prop:=∃a s,o.data=.dict a s/\StrKeys a/\UniqKeys a/\(∀y,#[er,(j0.lookup y)]->pg a y=ab)/\∀y x,j0.lookup y=aa x->∃v,pg a y=aa v/\#[bn,x]/\bD n x
def bQ(n:Nat)(j0:#[fk]):Ob:=.rel n (kv n j0) λO j o h⟨a,s,G,E,r,m,p⟩=>⟨a,s,G,E,r,m,λy x e=>let⟨v,S,H,A⟩:=p y x e;⟨v,S,H.same h A,A⟩⟩
def ll(n:Nat)(O:#[s]):Option (List V)->lF->Prop|ab,d=>d=.plain|aa X,d=>∃Y k,d=.seq Y k/\#[gl]/\∀x∈X,bD n x
theorem ll.same(h:#[j8])(r:ll n O X d):ll n j X d:=by cases X with|none=>exact r|some X=>obtain⟨Y,k,N,a0,G⟩:=r;exact⟨_,k,N,a0.same h G,G⟩
theorem ll.free(r:ll n O X d):(∀c,d≠.cls c)/\(∀f,d≠.func f)/\(∀f,d≠.fields f)/\(∀a s,d≠.dict a s):=by cases X with|none=>cases r;simp|some X=>obtain⟨Y,k,rfl,a0,G⟩:=r;simp
def Mu(n:Nat)(C:ao)(d:Nat)(X:Option (List V))(O:#[s])(o:ck):Prop:=#[dh]/\ll n O X o.data/\d<n/\#[ll]
def de(n:Nat)(C:ao)(d:Nat)(X:Option (List V)):Ob:=.rel n (Mu n C d X) λO j o h⟨N,a0,u,a,G,E⟩=>⟨N,a0.same h,u,a,(h d u).trans G,E⟩
structure cy(e0:Ob)(C:ao)(d:Nat):Prop where
 h:∀(O:#[s])(o:ck),OR O o e0->#[dh]/\(#[iL])/\(∀f,o.data≠.func f)/\(∀f,o.data≠.fields f)/\#[ll]
theorem cy.de:cy (de n C d X) C d:=⟨λO o⟨_,N,a0,_,a,G,E⟩=>⟨N,a0.free.1,a0.free.2.1,a0.free.2.2.1,a,G,E⟩⟩
structure hc(B:Bs)(C:ao)(T:String)(v0:#[L])(F g:String)(r0:#[n]):Prop where
 ex:∃l0 q N J0 I0 F0 H0 A0 t0 x0 L0,B.heap.get? C=aa (eu l0 q C N J0 v0 ae [] [] ai I0 F0 H0 A0 t0 x0 L0 F)/\B.heap.Ns N r0/\#[al,C]/\#[al,N]
 mro:#[f8]
 ga:#[i3,g]
 zq:#[kn,my g]
 ha:#[km]
 sa:#[ls,T,v0]
 kV:#[h4]
 ox:#[jk]
 Vq:r0 "__setattr__"=ab
section
variable{k:mz}{w:aD}{A:aR}{E:#[E]}{h:bk}{g:#[c5]}{d:hK}{t:Nat}{h0:gw}
variable{l0 q:aq}{C N x:ao}{J0 v0:#[L]}{i:#[bw]}{P:#[L]}{j:Bool}{I0:#[eL]}{F0:#[a7,ao]}{H0 A0 t0 x0 L0:#[bP]}{F:String}{r0 s0:#[n]}{G:aq}{v:af}{T:String}
theorem UI{p0:fP}{Q:#[aG,Fin]}(H:#[f8])(R:#[hg])(U:#[dT])(y:r0 G=ab)(b:#[d8,T,G])(I:#[iA])(a:s0 G=aa v)(O:Q (.done (.ret v)) #[bt]):#[eb,Builtin.«proto.getattr_hooked» #[Y,[#[am],.str G p0]]]:=by
 obtain⟨o,z,X,s,⟨_,m⟩|⟨M0,f,n,e⟩⟩:=I;.grind
 unfold Builtin.«proto.getattr_hooked»;repeat(first|(with_reducible refine gx z ?_;rw[X])|(with_reducible refine ja R U H b ?_;rw[y])|wp_step)
 split;.rename_i c l;exact absurd l (s c)
 unfold rg;repeat(first|(with_reducible refine gx z ?_;rw[X])|with_reducible refine gx R ?_|wp_step)
 rw[f];repeat(first|(with_reducible refine mC e.ns ?_;rw[a])|wp_step)
 exact O
theorem AD(H:#[f8])(m:#[i3,"object.__getattribute__"])(R:#[hg])(U:#[dT])(B:#[h4])(y:r0 G=ab)(b:#[d8,T,G])(I:#[iA])(a:s0 G=aa v)(M:pe v=av v)(O:Q v #[gv]):#[eb,lL #[K,x] G c]:=by
 obtain⟨o,z,X,_⟩:=id I;unfold lL tK;repeat(first|(with_reducible rw[X])|(with_reducible refine ja R U H m ?_;rw[B])|wp_step)
 refine rl (EE (yj OD (UI H R U y b I a ?_)));show#[cQ,_];rw[M];exact az O
theorem jK(H:#[f8])(R:#[hg])(U:#[dT])(z:#[cl])(X:#[dh])(a:#[iU])(O:Q (match r0 G with|aa v=>aa v|ab=>y) #[bt]):aw M A #[cM,specialOf,x,G] Q E #[bt]:=by refine#[bf,kO,z];rw[X];exact ja R U H a O
theorem Ji(H:#[f8])(m:#[i3,l])(r:#[kn,my l])(v:#[km])(R:#[hg])(U:#[dT])(B:#[h4])(J:#[jk])(a:#[eC,G,f])(C0:#[bl,f,q0])(p:#[gs])(b:#[iU])(I:#[iA])(M:s0 G=ab)(O:Q (.ref f,[#[am]]) #[bt]):#[eb,rf #[K,x] G n]:=by
 obtain⟨o,z,X,s,Z⟩:=I;refine#[iD,m];rw[B];show#[lE,my _];rw[r];refine#[iD,v];rw[J];refine#[iD,b];rw[a];refine#[bf,kO,C0];rw[p];refine#[bf,gx,z];obtain⟨u,_⟩|⟨M0,e,_,c⟩:=Z;.rw[u];exact ag (hN (az O))
 .rw[e];refine#[bf,mC,c.ns];rw[M];exact ag (hN (az O))
theorem UZ{c l:String}(H:#[f8])(p:#[i3,l])(r:#[kn,my l])(v:#[km])(R:#[hg])(U:#[dT])(B:#[h4])(J:#[jk])(a:r0 G=ab)(b:#[cY,T,G,c])(m:#[hX,c])(I:#[iA])(M:s0 G=ab)(O:Q (.builtin c,[#[am]]) #[bt]):#[eb,rf #[K,x] G n]:=by
 obtain⟨o,z,X,s,Z⟩:=I;refine#[iD,p];rw[B];show#[lE,my _];rw[r];refine#[iD,v];rw[J];refine#[iD,b];rw[a];refine#[cT,m];refine#[bf,gx,z];obtain⟨u,_⟩|⟨M0,f,_,e⟩:=Z;.rw[u];exact ag (hN (az O))
 .rw[f];refine#[bf,mC,e.ns];rw[M];exact ag (hN (az O))
end
section
variable{B:Bs}{w:aD}{n m k F0:Nat}{S:Gm}{U:#[o]}{H b0:#[l]}{J:aN}{O:#[s]}{a b c o:aP}{i0 y0 p:aZ}
theorem aF.inst(R:#[cC])(a:#[I,O,x])(P:#[cD,H])(g:#[eY])(Z:H[d]?=aa (bQ k j0))(l:i≠d):∃s0 M0,#[iA]/\O[d]?=aa M0/\(∃o,#[cl]/\#[dh]/\o.dict=aa M0/\(∀f,o.data≠.func f)/\(∀f,o.data≠.fields f)/\OR O o e0)/\(∀y,#[er,(j0.lookup y)]->s0 y=ab)/\∀y z,j0.lookup y=aa z->∃v,s0 y=aa v/\#[bn,z]/\bD k z:=by obtain⟨o,N,u⟩:=R.store i x _ a P;obtain⟨a0,G,m,p,M0,E,r⟩:=g.h O o u;obtain⟨A,c,_,b,s,j,n,t,w,q⟩:=R.store d _ _ E Z;refine⟨_,_,⟨o,N,a0,G,.inr #[aC,r,#[hJ,l,a,E],⟨_,_,_,c,j,n,t,λ_=>rfl⟩]⟩,E,⟨o,N,a0,r,m,p,u⟩,w,λy z e=>?_⟩;simp_all
theorem vk(h:#[bn,x]):pe v=av v:=by cases x with|ob i=>obtain⟨a,_,rfl⟩:=h;rfl|none=>cases h;rfl|bool b=>cases h;rfl|int i=>obtain⟨t,rfl⟩:=h;rfl|str t=>obtain⟨y,k,rfl,_⟩:=h;rfl
theorem Ev.nU{G:aq}(m:#[l6])(p:#[fL])(P:#[cD,b0])(t:#[eY])(Z:#[jg])(I:i≠d)(b:j0.lookup G=aa x)(X:r0 G=ab)(j:#[d8,T,G])(L:#[eh])(Y:∀g0 r,rh o g0 r=av ()):#[b2,#[d5,G,y0],x]:=λA J O s Q E g M q=>by rw[tE,L _];refine ag (#[aA,p,λu0 k0 h c f=>?_]);obtain⟨d0,f0,rfl⟩:=f;obtain⟨s0,M0,c0,_,_,_,h0⟩:=c.rel.inst f0 P t Z I;obtain⟨v,a,a0,_⟩:=h0 _ x b;obtain⟨l0,z,N,J0,I0,F0,H0,A0,t0,x0,L0,R,l,u,y⟩:=m.ex;refine#[g7];refine AD m.mro m.ga #[fi,R,u] #[i7,l.at',y] m.kV X j c0 a (vk a0) ?_;rw[Y];exact#[c6,az (q v _ _ (c.toks _) a0)]
variable{d0 g0:#[n]}{o0 w0:#[l]}
def sR(B:Bs)(w:aD)(n:Nat)(S:Gm)(e:aP)(U:#[o])(H:#[l])(T:#[s]->bk->af->Prop)(m0:#[l]):Prop:=#[mD,∀I L j,#[ep]->T j L.heap I->Q I L]
def wR(B:Bs)(w:aD)(n:Nat)(S:Gm)(f:af)(Y:#[D])(U:#[o])(H:#[l])(T:#[s]->bk->af->Prop)(m0:#[l]):Prop:=∀(A:aR)(J:aN)(O:#[s])(l:#[L])(s:fR)(Q E:#[E]),#[bk]->#[ah]->#[a6,l,Y]->(∀z L j,#[ep]->T j L.heap z->Q z L)->#[aM,dQ f l]
theorem sR.lX(m:#[ip,Z0])(p:#[fL]){e0:Ob}(P:#[cD,b0])(m0:#[eY])(Z:#[jg])(S0:i≠d)(X0:#[l4])(v:#[eC,G,f])(C0:∃q0,#[iH]/\#[gs]/\#[h2])(T0:#[al,f])(x:#[iU])(u:cv t=ae)(I:#[hC,t])(X:wR B w n S #[cb] (.ob i::Y) U o0 R w0)(E0:#[eh])(G0:#[b3])(a:t.length<30):sR B w n S #[fN,t] U H R w0:=λA J O s Q E g M q=>by
 rw[tF,E0 J];refine ag (#[dU,p,λu0 k0 z c j=>#[a3,dI]]);have e1:=j;obtain⟨a1,b1,rfl⟩:=j;obtain⟨s0,M0,Y0,_,_,d1,_⟩:=c.rel.inst b1 P m0 Z S0;obtain⟨l0,Q0,N,J0,I0,F0,H0,A0,t0,x0,L0,r,g0,n0,O0⟩:=m.ex;obtain⟨q0,R0,U0,c1⟩:=C0;have g1:#[n1,t.length,#[gb,t]]:=by rw[#[dE]];simp[pf,kC,kF,a]
 have f1:#[dS,lI i0 #[cb] [.ref a1] #[gb,t] [],k0]:=by rw[#[dE]];exact Ds (eK (#[c3,I,c.rel,λl h h0 b c0=>⟨⟨#[aL,b.rel.gh,R0,T0],c1⟩,X A _ _ (.ref _::l) _ Q E g b.rel (.cons (e1.pre b.pre) c0) λd0 a0 N0 L p0=>#[aE,#[cW,c.trans,b,L],p0]⟩]))
 unfold tP tH tQ;simp only[g1,G0,if_true,sM,sP];refine#[b6,Ji m.mro m.ga m.zq m.ha #[fi,r,n0] #[i7,g0.at',O0] m.kV m.ox v #[fi,R0,T0] U0 x Y0 (d1 _ X0) (ag (az f1))]
theorem Ev.lX{G:aq}(m:#[ip,h])(p:#[fL])(P:#[cD,b0])(a:#[eY])(Z:#[jg])(c:i≠d)(M:#[l4])(t:#[eC,G,f])(C0:∃q0,#[iH]/\#[gs]/\#[h2])(g:#[al,f])(j:#[iU])(u:cv e=ae)(I:#[hC,e])(X:#[hy,#[cb],.ob i])(L:#[eh])(b:#[b3])(R:e.length<30):#[aF,#[fN,e],r,w0]:=sR.lX (R:=λO _ v=>VR _ v r) m p P a Z c M t C0 g j u I X L b R
theorem Ev.UX{C:ao}{T F R0 c0:String}{G:aq}(m:#[ip,R0])(p:#[fL])(P:#[cD,b0])(g0:#[eY])(Z:#[jg])(G0:i≠d)(O0:#[l4])(t:r0 G=ab)(j:#[cY,T,G,c0])(S0:#[hX,c0])(u:cv h=ae)(I:#[hC,h])(X:#[hy,#[cZ,c0],.ob i])(n0:#[eh])(p0:#[b3])(R:h.length<30):#[aF,#[fN,h],r,w0]:=λA J O s Q E g M q=>by
 rw[tF,n0 J];refine ag (#[dU,p,λu0 k0 v c f=>#[a3,dI]]);have Y0:=f;obtain⟨T0,U0,rfl⟩:=f;obtain⟨s0,M0,Q0,_,_,X0,_⟩:=c.rel.inst U0 P g0 Z G0;obtain⟨l0,E0,N,J0,I0,F0,H0,A0,t0,x0,L0,b,d0,h0,C0⟩:=m.ex;have N0:=#[dG,d0.at',c.rel.gh,C0];have a1:#[n1,h.length,#[gb,h]]:=by rw[#[dE]];simp[pf,kC,kF,R]
 have Z0:#[dS,lI i0 #[cZ,c0] [.ref T0] #[gb,h] [],k0]:=by rw[#[dE]];exact kx (fV _ _) (eK (#[c3,I,c.rel,λl a f0 y L=>X A _ _ (.ref _::l) _ Q E g y.rel (.cons (Y0.pre y.pre) L) λa0 z q0 x m0=>#[aE,#[cW,c.trans,y,x],m0]]))
 unfold tP tH tQ;simp only[a1,p0,if_true,sM,sP];refine#[b6,UZ m.mro m.ga m.zq m.ha #[fi,b,h0] N0 m.kV m.ox t j S0 Q0 (X0 _ O0) (ag (az Z0))]
end
section
variable{B:Bs}{w:aD}{n m k:Nat}{S:Gm}{U x0:#[o]}{H b0 o0 w0 m0:#[l]}{J:aN}{O:#[s]}
theorem aC.LX{a b:ao}(R:#[ah])(P:#[da])(k:#[aW,O,b])(h0:i≠j)(g0:S.fz<=i)(t0:S.fz<=j)(u:#[el])(C:∀c o,c≠a->c≠b->s.heap.get? c=aa o->#[dw,c])(Y:¬bt s.heap a)(b0:¬bt s.heap b)(m0:∃o,#[dw,a]/\OR O o z)(A:∃o,#[eT]/\OR O o e0)(r0:dG B J c0 a z)(s0:dG B J c0 b e0):#[aV,(H.set i z).set j e0,O,#[cN,c0,t]]:=by
 have j0:=bC P;have k0:=bC k;have d0:#[mB,c0.IsCell]:=λp y v⟨o,N,a0⟩=>#[aS,C _ _ (λe=>(R.cp p y).1 (e▸j0)) (λe=>(R.cp p y).1 (e▸k0)) N,a0];have u0:∀q c,O[q]?=aa c->q≠i->q≠j->c≠a/\c≠b:=λq c X N a0=>⟨#[hJ,N,X,P],#[hJ,a0,X,k]⟩;have Z:i<H.length:=by rw[<-R.len];exact#[U,P]
 have f0:j<H.length:=by rw[<-R.len];exact#[U,k]
 have q0:GH B c0:=⟨aH R.gh.1 u,λc o e n0=>C c o (λw=>fk _ (eo (w▸bj e) (R.high a j0))) (λw=>fk _ (eo (w▸bj e) (R.high b k0))) (R.gh.2.1 c o e n0),R.gh.2.2.1.keep [a,b] (λc o e X=>C c o (λw=>X (w▸.head _)) (λw=>X (w▸.tail _ #[bJ])) e) (λx d=>by
  rcases bc.mp d with rfl|d;.exact⟨.inl Y,R.slt.ne (R.high _ j0)⟩
  .rw[aY.mp d];exact⟨.inl b0,R.slt.ne (R.high _ k0)⟩),aH R.gh.2.2.2 u⟩
 have i0:∀q c x,O[q]?=aa c->((H.set i z).set j e0)[q]?=aa x->(c=a/\x=z)\/(c=b/\x=e0)\/(c≠a/\c≠b/\H[q]?=aa x):=λq c x X d=>by
  by_cases o0:q=j;.subst o0;rw[nC (by simpa using f0)]at d;rw[k]at X;simp_all
  .rw[nB (ku o0)]at d;by_cases p0:q=i;.simp_all
   .rw[nB (ku p0)]at d;obtain⟨N,a0⟩:=u0 q c X p0 o0;exact .inr (.inr ⟨N,a0,d⟩)
 refine#[g1,{R with gh:=q0,ns:=?_,len:=by simp[R.len],store:=λq c x X d=>?_,code:=λq c x X d=>?_,cp:=λp y=>?_},.fU u λc o e d=>C c o (λw=>d (w▸ou (pN P g0))) (λw=>d (w▸ou (pN k t0))) e]
 .obtain⟨m,f,T⟩:=R.ns;refine⟨m,f.at' λo e=>C _ o (λw=>R.dT (w▸j0)) (λw=>R.dT (w▸k0)) e,λq x e=>?_⟩;obtain⟨l0,Q,N,a0⟩:=T q x e;refine#[bM,l0,Q,N];rcases a0 with q|⟨q,c,v,F,g,r⟩;.exact .inl q
  .exact#[l3,d0,g,r]
 .rcases i0 q c x X d with⟨rfl,rfl⟩|⟨rfl,rfl⟩|⟨N,a0,G⟩;.exact m0
  .exact A
  .obtain⟨o,l,n⟩:=R.store q c x X G;exact#[aS,C _ _ N a0 l,n]
 .rcases i0 q c x X d with⟨rfl,rfl⟩|⟨rfl,rfl⟩|⟨N,a0,G⟩;.exact r0
  .exact s0
  .obtain⟨o,l,_⟩:=R.store q c x X G;refine(R.code q c x X G).keep (λM e=>by have:=C _ _ N a0 l;rw[this]at e;cases e;exact l) λI M e L _=>C I M (λw=>Y (w▸L)) (λw=>b0 (w▸L)) e
 .obtain⟨N,a0,G,v,E⟩:=R.cp p y;exact⟨N,a0,G,v,d0 p y v E⟩
end
def jk:#[fk]->aq->V->#[fk]|[],y,v=>[(y,v)]|(z,u)::r,y,v=>#[b8,y,z,(z,v)::r,(z,u)::jk r y v]
theorem AY:∀(j0:#[g])(y:aq)(v:V)(z:aq),(jk j0 y v).lookup z=if z=y then aa v else j0.lookup z
 |[],y,v,z=>by
  unfold jk;rw[fO];by_cases h:z=y;.subst h;simp
  .rw[if_neg h,beq_eq_false_iff_ne.mpr h]
 |(x,u)::r,y,v,z=>by
  unfold jk;by_cases m:y=x
  .subst m;rw[beq_self_eq_true,#[cB],fO,fO];by_cases q:z=y;.subst q;simp
   .rw[if_neg q,beq_eq_false_iff_ne.mpr q]
  .rw[beq_eq_false_iff_ne.mpr m,#[eH],fO,fO,AY r y v z];by_cases q:z=x;.subst q;simp[show¬z=y fromλe=>m e.symm]
   .rw[beq_eq_false_iff_ne.mpr q]
section
variable{B:Bs}{w:aD}{n m k F0 t0:Nat}{S:Gm}{U x0:#[o]}{H b0 o0 w0 m0:#[l]}{J:aN}{O:#[s]}{a b c o:aP}{i0 y0 p:aZ}{l:#[y]}{h0:#[ay]}
theorem AR{a:ao}{o:ck}(e:#[cu])(d:o.data=.dict f s):¬bt h a:=bt.no e (λY q t m=>#[R]) λY n m=>by grind
theorem ll.Vk{a C:ao}{o:ck}(e:#[cu])(d:ll k O X o.data)(b:#[dh]):¬bt h a:=bt.no e (λY q t m=>#[aN,m,d.free.2.2.1 _]) λY n m e=>#[R]
theorem Xk{O:Type}{l:#[g]}{x:O}(h:#[I,l,x]):l.set i x=l:=by obtain⟨R,a⟩:=bu.mp h;rw[<-a];exact List.set_getElem_self _
theorem aF.setAttr(R:#[ah])(m:#[ip,m1])(a:#[I,O,x])(P:#[cD,H])(E0:#[eY])(Z:H[d]?=aa (bQ k j0))(h1:i≠d)(v1:S.fz<=i)(H1:S.fz<=d)(a0:VR O u v)(f:t0<=O.length)(k1:k<=t0)(M1:bD t0 v)(j1:r0 G=ab)(b0:#[d8,T,G])(h0:j0.length+1<=aB)(q:∀L,#[aV,H.set d (bQ t0 (jk j0 G v)),O,L]->Q () L):#[aM,setAttr #[K,x] G u]:=by
 obtain⟨s0,M0,l1,b1,⟨w0,s1,e2,O1,f2,b2,a2⟩,B1,F1⟩:=R.inst a P E0 Z h1;obtain⟨l0,g1,N,J0,I0,F0,H0,A0,G1,x0,L0,I,C0,N0,T0⟩:=m.ex;have c1:=#[aL,R.gh,I,N0];have i1:=#[dG,C0.at',R.gh,T0];have x1:x≠C:=λe=>absurd (bj I) (bK.mpr (e▸R.high x (bC a)));have u0:Within s0 (j0.map (·.1)):=λy j=>by cases g:j0.lookup y with|none=>exact absurd (B1 y (by rw[g];rfl)) j|some z=>exact bI.mpr #[au,(y,z),mem_of_lookup g]
 obtain⟨r1,g0,_,M,f1,a1,_⟩:=R.store d M0 _ b1 Z;have E1:=bt.no s1 (λY q t d=>#[aN,d,b2 _]) λY n _ e=>#[R];have L1:=R.code i x e0 a P;refine eR ?_;refine store_attr m.sa c1 i1 m.Vq j1 b0 x1 l1 (λc0 t1 Z1 A1 c2 d0=>?_) u0 (by rw[aQ];omega);obtain⟨o0,d1,o1,u1,C1,N1⟩:=c2 w0 s1;have R1:=N1 M0 O1;obtain⟨m0,r,_,_,n1⟩:=Z1;have Q1:o0=w0:=by obtain⟨Z0,q1,X0,k0⟩:=o0;obtain⟨S0,y1,R0,l⟩:=w0;grind
 rw[d1]at r;cases r;rcases n1 with⟨I1,_⟩|⟨P1,I1,_,d2,Y1,X1,k0,l,p0,e1,p1⟩;.rw[R1]at I1;cases I1
 .rw[R1]at I1;cases I1;have Q0:=aC.LX (t:=t1) (c0:=c0) (e0:=bQ t0 (jk j0 G v)) R a b1 h1 v1 H1 d0 (λc o z1 w1 e=>A1 c o z1 (λX U1 i0 J1=>by rw[s1]at i0;cases i0;rw[O1]at J1;cases J1;exact w1) e) E1 (AR g0 a1) ⟨o0,d1,Q1▸a2⟩ ⟨d2,k0,f,Y1,X1,l,p0,e1,λy j=>?_,λy z j=>?_⟩ (L1.keep (λo e=>by rw[d1]at e;cases e;rw[Q1];exact s1) λb o e G0 n0=>A1 b o (λq0=>E1 (q0▸G0)) (λX U1 i0 J1=>by rw[s1]at i0;cases i0;rw[O1]at J1;cases J1;exactλq0=>AR g0 a1 (q0▸G0)) e) (λo f0 p Y0=>by rw[k0]at p;cases p;rw[l]at Y0;cases Y0);.rw[Xk P]at Q0;exact q _ Q0
  .rw[p1];rw[AY]at j;by_cases h:y=G;.rw[if_pos h]at j;cases j
   .rw[if_neg h]at j;exact(if_neg h).trans (B1 y j)
  .rw[AY]at j;rw[p1];by_cases h:y=G;.rw[if_pos h]at j;cases j;exact⟨u,if_pos h,a0,M1⟩
   .rw[if_neg h]at j;obtain⟨T1,y0,O0,U0⟩:=F1 y z j;exact⟨T1,(if_neg h).trans y0,O0,U0.le k1⟩
theorem aj.setAttr(t0:Nat)(m:#[ip,q0])(f:#[aI,v])(b:#[bv,o,#[ce]])(P:#[cD,o0])(g0:#[eY])(Z:o0[d]?=aa (bQ k j0))(l0:i≠d)(s0:S.fz<=i)(x0:S.fz<=d)(c:t0<=o0.length)(p0:k<=t0)(y0:bD t0 v)(n0:r0 G=ab)(t:#[d8,T,G])(R:j0.length+1<=aB)(u:∀J,#[hH,#[d5,G,p]])(w0:jk j0 G v=A0)(X:o0.set d (bQ t0 A0)=m0)(Y:#[hM]):#[eU,[.Attribute o G p]]:=by refine#[e0,λo I L=>#[d6,I=U,L=o0.set d (bQ t0 (jk j0 G v))],?_,λI L h=>#[R],λo I L b h=>#[dl,b]];refine Ek (#[aA,f,λu0 k0 N e r=>#[c3,b,e.rel,λC0 j f0 y d0=>?_]]) (u _);obtain⟨x,z,rfl⟩:=d0;exact aF.setAttr y.rel m z P g0 Z l0 s0 x0 (r.pre y.pre) (y.rel.len▸c) p0 y0 n0 t R λc0 a0=>#[g4,#[cW,e.trans,y,a0]]
theorem aj.QQ(m:#[l6])(c:#[fL])(P:#[cD,b0])(E0:#[eY])(Z:#[jg])(t:j0.lookup G=aa u)(j:#[dR,a,b0,v,b0])(d1:fp B w n S (dR I) u v U b0 r b0)(Z0:i≠d)(g1:S.fz<=i)(l1:S.fz<=d)(n1:bD k r)(a1:r0 G=ab)(X:#[d8,T,G])(f0:j0.length+1<=aB)(h1:jk j0 G r=i1)(g0:b0.set d (bQ k i1)=m0)(Y:#[hM]):#[k9,#[d5,G,p]]:=by
 refine#[e0,λo a0 L=>#[d6,a0=U,L=b0.set d (bQ k (jk j0 G r))],?_,λa0 L h=>#[R],λo a0 L c h=>#[dl,c]];refine wpAny_AugAssign_AttributeAny (#[aA,c,λu0 k0 c0 f z=>?_]);obtain⟨c1,e1,rfl⟩:=z;obtain⟨s0,M0,b1,U0,_,_,j1⟩:=f.rel.inst e1 P E0 Z Z0;obtain⟨q1,p1,o1,_⟩:=j1 _ u t;obtain⟨l0,Y0,N,J0,I0,F0,H0,A0,t0,x0,L0,R,w0,N0,S0⟩:=m.ex;obtain⟨b,d0,f1,T0,m1⟩:=k0;refine AD m.mro m.ga (f.rel.gh.2.1 _ _ R N0) (w0.at' λo e=>#[aL,f.rel.gh,e,S0]) m.kV a1 X b1 p1 (vk o1) ?_;have k1:=f.toks (T0+1);refine#[c3,j,k1.rel,λC0 x y0 y p0=>d1 A _ _ _ _ _ _ E g y.rel (o1.pre y.pre) p0 λq0 o0 Q0 n0 O0=>?_];have R0:k<=Q0.length:=by obtain⟨o,_,h,_⟩:=f.rel.store d _ _ U0 Z;exact aH h (y.pre.trans n0.pre).length_le
 exact aF.setAttr n0.rel m (gU (y.pre.trans n0.pre) e1) P E0 Z Z0 g1 l1 O0 R0 #[aO] n1 a1 X f0 λX0 G0=>#[g4,#[cW,(k1.trans y).trans,n0,G0]]
end
theorem II:#[cY,"function","__get__","function.__get__"]:=Oz.lookup
theorem IK:#[d8,"function","__set__"]:=by rw[cB,cA];kernel_rfl
theorem IH:#[d8,"function","__delete__"]:=by rw[cB,cA];kernel_rfl
def pS(G:aq):Bool:=!(["__module__","__name__","__qualname__","__doc__","__annotations__"]:#[bw]).contains G
abbrev lY(f x:ao):ck:=#[aR,"method",.fields,#[.ref f,#[am]]]
section
variable{k:mz}{w:aD}{A:aR}{E:#[E]}{h:bk}{g:#[c5]}{d:hK}{t:Nat}{h0:gw}
variable{l0 q:aq}{C N x:ao}{J0 v0:#[L]}{i:#[bw]}{P:#[L]}{j:Bool}{I0:#[eL]}{F0:#[a7,ao]}{H0 A0 t0 x0 L0:#[bP]}{F:String}{r0 s0:#[n]}{G:aq}{v:af}{T:String}
theorem adi(C0:#[bl,f,q0])(p:#[gs])(O:#[kf,h.push (lY f x)]):#[eb,#[jt,"function.__get__",[.ref f,#[am],y]]]:=by
 refine iG Oz #[as,C0,p] aan ?_ (aaq _ _ _);repeat wp_step
 exact#[b4,O]
theorem QY{f:ao}{q0:ck}{i0:Bool}{Q:#[E]}(M:#[f8])(g0:#[i3,"object.__getattribute__"])(k0:#[km])(R:#[hg])(U:#[dT])(d0:#[h4])(e0:#[jk])(p:#[eC,G,f])(C0:#[bl,f,q0])(a0:#[gs]){y:#[bP]}(s:#[iU])(m:pS G=ae)(I:#[iA])(S:s0 G=ab)(O:#[bN,h.objs.size,#[bu,h.push (lY f x),t+1]]):#[eb,lL #[K,x] G i0]:=by
 obtain⟨o,b,l,H,n⟩:=I;have m0:#[lK,f]:=λ_=>#[as,C0,a0];have u0:=II;have j0:=IK;have f0:=IH;unfold lL tK;repeat(first|(with_reducible refine gx b ?_;rw[l])|(with_reducible refine ja R U M g0 ?_;rw[d0])|wp_step)
 show#[cQ,(runValue (.builtin "proto.getattr_hooked" #[Y,[#[am],.str G t]])).onRaise (noteIf ae #[K,x] (.str G t))];refine rl (EE (yj OD ?_));unfold Builtin.«proto.getattr_hooked»;have n0:=m0 (t+1)
 have E0:∀(J:aR)(F0:#[a7,ao]),F0=o.dict->aw #[cP] J (ZG G F0) (λr L=>r=ab/\L=#[gv]) (#[fY]) #[gv]:=λJ F0 e=>by
  subst e;rcases n with⟨c0,_⟩|⟨M0,B,_,v⟩;.rw[c0];exact az #[bS]
  .rw[B];exact mC v.ns #[bC,S]
 have u:∀J,aw #[cP] J (rg x ai) (λr L=>r=o.dict/\L=#[gv]) (#[fY]) #[gv]:=λJ=>by
  unfold rg;repeat(first|(with_reducible refine gx b ?_;rw[l])|with_reducible refine gx R ?_|wp_step)
  rcases n with⟨c0,_⟩|⟨M0,B,_,v⟩
  .rw[c0];repeat wp_step
   exact#[bS]
  .rw[B];repeat wp_step
   exact#[bS]
 repeat(first|(with_reducible refine gx b ?_;rw[l])|(with_reducible refine ja R U M s ?_;rw[p])|(with_reducible refine ja R U M k0 ?_;rw[e0])|wp_step)
 split;.rename_i c b0;exact absurd b0 (H c)
 refine dk (u _) (λr L Y=>?_) λ_ _ z=>z.elim;obtain⟨rfl,rfl⟩:=Y;refine dk (E0 _ _ rfl) (λr L Y=>?_) λ_ _ z=>z.elim;obtain⟨rfl,rfl⟩:=Y;unfold ZF;dsimp only;rw[#[bK,show¬(([ak "__module__",ak "__name__",ak "__qualname__",ak "__doc__",ak "__annotations__"]:#[bw]).contains G=ae)from by unfold pS at m;simpa using m]];repeat(first|(with_reducible refine ja R U M k0 ?_;rw[e0])|wp_step)
 have X:Pk [(f,q0)] h:=λa o e=>by
  rw[fO]at e;split at e;.rename_i Z;cases e;rw[beq_iff_eq.mp Z];exact C0
  .cases e
 refine Pl (K:=[(f,q0)]) X (by simp[Pm,a0]) ?_;exact az (az O)
end
section
variable{B:Bs}{w:aD}{n m k:Nat}{S:Gm}{d0 g0:#[n]}{U x0 T:#[o]}{H b0 o0 w0 m0:#[l]}{i0 y0 p:aZ}{J:aN}{O:#[s]}{l:#[y]}{h0:#[dB]}{a b c o:aP}
def fY(B:Bs)(w:aD)(n:Nat)(S:Gm)(f:af)(Y:#[D])(U:#[o])(H:#[l])(r:V)(m0:#[l]):Prop:=∀(A:aR)(J:aN)(O:#[s])(l:#[L])(s:fR)(R:#[aG,mA]),#[bk]->#[ah]->#[a6,l,Y]->(∀z L j,#[ep]->VR j z r->R (.ok (.ret z)) L)->jv #[aH] A (.call f #[Y,l]) R s
theorem fY.s(h:#[cg,fY,f,Y,r,m0]):#[cg,bW,f,Y,r,m0]:=λA J O l s Q E g M e q=>gi (h A _ _ _ s _ g M e q)
theorem fY.sh(F:#[w])(L:#[hv])(x0:iq j0 k=ae)(v0:#[ei])(q0:#[eG])(s0:#[eF])(w0:#[nz])(n0:#[ci,H])(C:Y.length=k)(b:#[jO,Y])(h:aj B w n #[fS] r0 T H (gP r o0)):fY B w (n+1) S #[cb] Y U H r o0:=λA J O i s R g M v q=>by
 subst b;obtain⟨f0,o,N,a0,G,E,Z,e0,m0,⟨c,O0,X,t,k0,h0,p0,t0,y0⟩,_,u0⟩:=L.ex;have I:=v.length.trans C;have A0:∀l0,(l0,jt)∉j0.names:=λl0 d=>by have:=eT.mp w0 _ d;simp at this
 have F0:=by
  have:∀l,(∀q∈l,q.2≠.free)->eJ S.sc.names l=l.map λ_=>ab:=λl=>by induction l with|nil=>exactλ_=>rfl|cons q r Q=>intro s;obtain⟨l0,i0⟩:=q;unfold eJ;have P:(i0==jt)=ai:=#[R];rw[P,Q λx z=>s x (dH _ z)];rfl
  exact this _ λq s e=>A0 q.1 (by rw[<-e];exact s)
 have C0:cP U (eJ S.sc.names j0.names) Y=cP [] (j0.names.map λ_=>ab) Y:=by
  rw[F0];have:∀(j:#[gy])i,cP U (j.map λ_=>ab) i=cP [] (j.map λ_=>ab) i:=λj=>by induction j with|nil=>intro i;rfl|cons x r Q=>intro i;cases i with|nil=>show ab::_=ab::_;rw[Q]|cons u b0=>show aa u::_=aa u::_;rw[Q]
  exact this j0.names Y
 refine FJ (F:=F) g M ⟨#[aS,#[aL,M.gh,N,L.out],a0],G,E,e0,m0,⟨c,O0,X,t,k0,(M.gh.2.1 _ _ p0 h0),t0,y0⟩,u0 i I,x0,I,v0⟩ v (λp y=>by grind) (λj a c0 _ m=>?_) (by rw[Z];exact .nil) (λl0 d=>absurd d (A0 l0)) q0 s0 (by rw[C0];exact h) q;have:=kh (k:=0) m;grind
end
theorem oH:nL "callable_iterator" "__next__" "callable_iterator.__next__":=.of (owner:="callable_iterator") (n:="__next__") #[p] #[ak] #[p] #[p] #[i] #[p]
theorem zK:kE kL "callable_iterator.__next__"=aa Builtin.«callable_iterator.__next__»:=tJ (#[p])
theorem yQ(a:af):kB "callable_iterator.__next__" #[Y,[a]]:=#[p]
theorem La:nL "callable_iterator" "__iter__" "callable_iterator.__iter__":=.of (owner:="callable_iterator") (n:="__iter__") #[p] #[ak] #[p] #[p] #[i] #[p]
theorem QF(a:af):kB "callable_iterator.__iter__" #[Y,[a]]:=by kernel_rfl
theorem RR:kE kL "callable_iterator.__iter__"=aa Builtin.«dict_keyiterator.__iter__»:=entryFor_alias (id':="dict_keyiterator.__iter__") #[aw] (by first|rfl|decide+kernel|(unfold String.splitOn;simp+decide[String.splitOnAux])) #[C] #[aw]
def mT(n:Nat)(f:ao)(i:Nat):Ob:=.rel n (λO o=>i<n/\∃x,#[I,O,x]/\o=lY f x) λO j o h⟨N,x,a0,G⟩=>⟨N,x,(h i N).trans a0,G⟩
def kc(n:Nat)(j:Nat)(f:Bool):Ob:=.rel n (λO o=>j<n/\if f then∃x k,#[aW,O,x]/\o=#[aR,"callable_iterator",.fields,#[ke,k]]else o=#[aR,"callable_iterator",.fields,#[.none,.none,.bool ae]]) λO a o h⟨N,G⟩=>by refine#[a4,N];cases f with|true=>obtain⟨x,k,E,r⟩:=G;exact⟨x,k,(h j N).trans E,r⟩|false=>exact G
section
variable{B:Bs}{w:aD}{n m k F0 t0:Nat}{S:Gm}{U x0:#[o]}{H b0 o0 w0 m0:#[l]}{J:aN}{O:#[s]}{a b c o:aP}{i0 y0 p:aZ}{l:#[y]}{h0:#[ay]}
theorem Cx.in1(h:#[eZ]):Cx n A.in1:=⟨h.handled,by have:=h.depth;show A.depth+n<_;omega,by have:=h.units;show A.units+1+8*n+8<_;omega⟩
theorem Md(X:jv M A (.call f #[Y,d]) (λr L=>match r with|.ok (.ret v)=>Q v L|.ok _=>False|.error e=>E e L) s):#[ey,callBorrowed f d]:=λS p H=>by obtain⟨r,L,N,a0⟩:=X (S.enter (.call f _) ab p) p rfl (H.enter _ _ p #[i]);refine#[bM,r,_,N];cases r with|error e=>exact a0|ok f=>cases f<;>first|exact a0|exact a0.elim
theorem zi(r:#[cd,I,#[aR,"method",.fields,#[.ref f,x]]])(t:#[cd,f,q0])(T:#[h2])(q:Q ae s):#[ey,#[ct,borrowsExactly,I]]:=by refine#[bf,kM,r];refine#[bf,kM,t];rw[T];exact az q
def ix(B:Bs)(w:aD)(n:Nat)(S:Gm)(d:Nat)(U:#[o])(H:#[l])(r:#[bh])(m0:#[l]):Prop:=∀(A:aR)(J:aN)(O:#[s])(s:fR)(I:ao)(Q:#[aG,#[bP]])(E:#[E]),#[bk]->#[ah]->O[d]?=aa I->(∀v L j,#[ep]->(match r with|aa x=>∃u,v=aa u/\VR j u x|ab=>v=ab)->Q v L)->#[gq,I]
theorem XR{t:Tx}{x:aq}(h:x.cps.toList=t)(n:t≠[]):#[ax,#[du]=x]=ai:=by refine decide_eq_false λe=>n ?_;rw[<-h,<-e]
theorem XQ{x:aq}(h:x.cps.toList=[]):#[ax,#[du]=x]=ae:=by refine decide_eq_true ?_;obtain⟨a⟩:=x;simp_all
theorem ix.item(G:H[d]?=aa (kc l0 j ae))(b:#[aW,H,mT M f i])(C0:#[iH])(a0:#[h2])(F:#[al,f])(X:#[cg,fY,#[cb],[.ob i],#[bo],b0])(k0:b0[d]?=aa (kc l0 j ae))(c:t≠[]):ix B w (n+1) S d U H (aa (.str t)) b0:=λA J O s I Q E g R r q=>by obtain⟨o,p,i0,e0,x,g0,z,rfl⟩:=R.store d I _ r G;have Z:#[ln,#[ke,g0],#[ke,g0]]:=rfl;obtain⟨n0,h0,m0,C,y,m,rfl⟩:=R.store j x _ z b;have l:#[n5]:=#[M,p];refine#[mA,l,l];refine#[cT,rfl];refine#[cm,p,Z,.bool _,?_];refine#[cm,p,Z,#[am],?_];refine#[a3,iF];refine ag (zi h0 (R.gh.2.1 _ _ C0 F) a0 ?_);refine Md (Ee h0 ?_);refine X _ _ _ [.ref y] s _ g.in1 R #[aY,#[au,y,m]] λh L a P Y=>?_;obtain⟨v,N,_,_,d0,j0,c0,rfl⟩:=P.rel.store _ I _ (gU P.pre r) k0;have T:#[ln,#[.ref d0,.str #[du] j0,#[dt]],#[.ref _,.str ⟨_⟩ _,.bool _]]:=rfl;obtain⟨u,k,rfl,e⟩:=Y;refine#[cm,N,T,.bool _,?_];refine#[cm,N,T,.str ⟨_⟩ _,?_];refine#[b6,PO ?_];rw[XR e c];exact az #[b4,az (#[aE,P,⟨_,rfl,u,k,rfl,e⟩])]
end
def ej(b:Nat):V->V|.ob i=>.ob (b+i)|x=>x
def aX(b:Nat):Ob->Ob|.list X=>#[bg,X.map,ej b]|.tup X=>.tup (X.map (ej b))|.raw R=>.raw R|.rel n R h=>.rel (b+n) (λO o=>R (O.drop b) o) λO j o M r=>h _ _ o (λi a=>by rw[iv,iv];exact M _ (Nj a b)) r|.hp n R P T h k=>.hp (b+n) (λO o=>R (O.drop b) o) P T (λO j o M r=>h _ _ o (λi a=>by rw[iv,iv];exact M _ (Nj a b)) r) k
theorem oF:#[bn,ej b x]↔VR (O.drop b) v x:=by
 cases x<;>first|exact wX|skip
 show(∃a,O[b+_]?=aa a/\_)↔∃a,(O.drop b)[_]?=aa a/\_;rw[iv]
theorem lQ:#[a6,Y,X.map (ej b)]↔aM (VR (O.drop b)) Y X:=by
 constructor;.intro h;induction X generalizing Y with|nil=>cases h;exact .nil|cons x r Q=>cases h with|cons N a0=>exact .cons (oF.mp N) (Q a0)
 .intro h;induction h with|nil=>exact .nil|cons N _ Q=>exact .cons (oF.mpr N) Q
theorem sA(Z:b<=O.length):OR O o (aX b e0)↔OR (O.drop b) o e0:=by cases e0 with|list X=>exact⟨#[lJ,lQ.mp],#[lJ,lQ.mpr]⟩|tup X=>exact⟨#[lJ,lQ.mp],#[lJ,lQ.mpr]⟩|raw R=>exact wX|rel n R M=>show(b+n<=O.length/\_)↔(n<=#[t,O.drop,b]/\_);rw[cR];exact⟨#[lI],#[lI]⟩|hp n R P T M k=>show(b+n<=O.length/\_)↔(n<=#[t,O.drop,b]/\_);rw[cR];exact⟨#[lI],#[lI]⟩
theorem wi:iP B h a (aX b e0)↔iP B h a e0:=by cases e0<;>exact wX
theorem VR.drop_take(h:VR (O.take L) v x):#[bn,x]:=h.pre (Nd _ _)
theorem OR.Vu(h:OR (O.take L) o e0):OR O o e0:=h.pre (Nd _ _)
def iN(e0:Ob):Prop:=∀(O:#[s])(o:ck),OR O o e0->∀h a,#[cu]->¬bt h a
structure cw(L:Nat)(g:#[l]):Prop where
 len:g.length=L
 ok:#[gO,g,fl L e0/\iN e0/\#[hF]]
structure cI(B:Bs)(O:#[s])(H:#[l])(h:bk):Prop where
 len:O.length=H.length
 nodup:O.Nodup
 high:∀a∈O,#[ap,a]
 store:#[gU,#[da],H,(∃o,#[cu]/\OR O o e0)/\iP B h a e0]
def bG(B:Bs)(w:aD)(n:Nat)(f:ao)(z:#[D])(H:#[l])(r:V)(m0:#[l]):Prop:=#[mv,#[bk]->#[c4]->#[h1]->#[a6,l,z]->(∀u L,Fx B O s L->#[hk]->cI B O m0 L.heap->VR O u r->R (.ok (.ret u)) L)->jv #[aH] A #[cM,.call,f,#[Y,l]] R s]
theorem bG.le{H m0:#[g]}(h:bG B w n f z H r m0)(U:n<=m):bG B w m f z H r m0:=#[kX]
def cZ(L:Nat)(r:V)(m0:#[l]):#[ay]:=λo _ s=>(#[nl])/\bD L r/\L<=s.length/\(∀(i:Nat)(e0:Ob),i<L->#[cD,s]->fl L e0)/\s.take L=m0
def dD(j0:bq):Gm:=#[d7,j0,0]
def ep(B:Bs)(w:aD)(n:Nat)(f:ao)(z:#[D])(S:Nat)(H:#[l])(r:V)(m0:#[l]):Prop:=#[mv,#[bk]->#[c4]->#[h1]->#[a6,l,z]->(∀u L j,O<+:j->(∀a∈j,a∈O\/#[Q,a])->Fx B (O.drop S) s L->#[hk]->cI B j m0 L.heap->VR j u r->R (.ok (.ret u)) L)->jv #[aH] A #[cM,.call,f,#[Y,l]] R s]
theorem ep.run{B:Bs}{w:aD}{n k U0 L:Nat}{d0 g0:#[n]}{f:ao}{j0:bq}{r0:#[y]}{z:#[D]}{T:#[o]}{H m0:#[l]}{r:V}{f0:gN}{o:ck}{G1 U:#[L]}{A:aR}{O:#[s]}{s:fR}{R:#[aG,mA]}(F:#[w])(z1:#[al,f])(N:#[gE,f])(a0:#[dW])(G:f0.scope=j0)(o0:#[ka])(C0:f0.closure=[])(N0:#[hO])(X0:#[hN])(l1:#[mo])(n1:qQ s f0 #[Y,G1] ((j0.names.map (·.1)).zip U))(s1:iq j0 k=ae)(p1:#[ei])(e1:#[eG])(g1:#[eF])(a1:#[ci,H])(C:z.length=k)(Q:#[jO,z])(j1:U0<=H.length)(J0:H.length<=L)(h:#[nq,U0])(l:#[eZ])(t0:#[c4])(q0:#[h1])(p0:#[a6,U,z])(q:∀u g h0,O<+:h0->(∀a∈h0,a∈O\/#[Q,a])->Fx B (O.drop U0) s g->GH B g.heap->cI B h0 m0 g.heap->VR h0 u r->R (.ok (.ret u)) g):jv #[aH] A #[cM,.call,f,#[Y,G1]] R s:=by
 subst Q;obtain⟨c,O0,X,t,T0,R0,d1,i1,t1⟩:=l1;have u0:U.length=k:=p0.length.trans C;have A1:=s1;simp only[iq,fe,decide_eq_true_eq,eT]at A1;obtain⟨⟨⟨m1,q1⟩,Q0⟩,f1⟩:=A1;have E1:=#[aL,t0,N,z1];have E:=#[aL,t0,d1,R0];refine ym (o:=o) (fd:=f0) (body:=r0) (binds:=(j0.names.map (·.1)).zip U) (by have:=l.depth;omega) E1 a0 (F.nl t0) ⟨c,O0,X,t,T0,E,i1,t1⟩ o0 n1 (λx d e=>?_) (λx d=>?_) (λy0 Y0 I0=>?_) (by rw[G];exact e1) (by rw[G];exact g1) (by rw[G];exact p1);.rw[G]at d;have:=f1 x d;rw[e]at this;cases this
 .rw[G];obtain⟨i,m⟩:=gK.mp d;obtain⟨b0,k0⟩:=oN.mp m;rw[cb]at b0;obtain⟨p,c0,w1⟩:=dP.mp b0;have E0:i<k:=by rw[<-u0];exact#[U,k0]
  have o1:#[kg,p]:=bC (i:=i) (by rw[es E0];exact c0);have b1:=q1 _ o1;simp only[beq_iff_eq]at b1;obtain⟨l0,S0⟩:=p;cases b1;rw[<-w1];exact lV m1 c0
 have s0:#[Q,y0.objs.size]:=by obtain⟨o,_,_,e,_⟩:=Y0;exact ea (bj e)
 have E0:#[kA]:=λa I=>by
  obtain⟨i,m⟩:=gK.mp I;have J:i<H.length:=by rw[<-q0.len];exact#[U,m]
  obtain⟨⟨o,e,_⟩,_⟩:=q0.store i a _ m (bB J);exact bj e
 have M:aF B #[d7,j0,U0] #[fr] O (cP [] (j0.names.map λ_=>ab) z) H y0:=by
  refine{scope:=G,kind:=p1,jJ:=?_,nd:=m1,glob:=N0,eX:=X0,gh:=t0.grow s0 I0,slt:=F.slt,ns:=#[as,Y0,#[cX]],kU:=?_,len:=q0.len,cX:=q0.len▸j1,store:=?_,code:=?_,nodup:=q0.nodup,high:=q0.high,dT:=?_,hR:=t0.1,cp:=?_,kb:=?_};.intro _ h;cases h
  .rcases pz e with A0|⟨j,H0,_⟩
   .obtain⟨u,u1,n0⟩:=p0.get A0;have y1:i<k:=by rw[<-u0];exact#[U,u1]
    obtain⟨⟨l0,S0⟩,c0⟩:∃p,#[I,j0.names,p]:=#[bF,bB (eo y1 Q0)];have b1:=q1 _ (bC (i:=i) (by rw[es y1];exact c0):#[kg,(l0,S0)]);simp only[beq_iff_eq]at b1;subst b1;exact⟨l0,_,c0,#[dI,rfl,u,Mj m1 (by rw[cb,c0];rfl) u1,n0]⟩
   .rw[cb]at H0;cases A0:j0.names[i]?<;>rw[A0]at H0<;>cases H0
  .intro _ h;cases h
  .intro i a e0 I Z;obtain⟨⟨o,b0,k0⟩,_⟩:=q0.store i a e0 I Z;exact#[aS,I0 _ _ b0,k0]
  .intro i a e0 I Z;obtain⟨⟨o,b0,_⟩,k0⟩:=q0.store i a e0 I Z;refine(k0.keep (λL0 F0=>by rw[I0 _ _ b0]at F0;cases F0;exact b0) λb L0 F0 _ _=>I0 _ _ F0).ob λR e=>?_;have:=kh (k:=0) (e▸Z);rw[a1]at this;cases this
  .exactλI=>#[g5,E0,I]
  .intro p c0;have:#[fr].cells=f0.closure:=rfl;rw[this,C0]at c0;cases c0
  .show f0.closure.Pairwise _;rw[C0];exact .nil
 refine h (A.deeper _) _ O _ _ _ ⟨l.handled,by have:=l.depth;show#[i8];omega,by have:=l.units;show A.units+3+8*n+8<_;omega⟩ M ?_;rintro C1 v w0 v1 g h0⟨d,Z,J,G0,x0⟩P h1;have B1:O<+:h0.take L:=by obtain⟨v0,rfl⟩:=P.pre;rw[CR,hY (by rw[q0.len];exact J0)];exact eB _ _
 have r1:∀a∈h0,a∈O\/#[Q,a]:=λa I=>by
  by_cases i0:a∈h0.drop U0;.exact(P.new a i0).imp eU (aH s0)
  .have c1:a∈h0.take U0:=by have:=hF U0 h0;rw[<-this]at I;exact(cK.mp I).resolve_right i0
   obtain⟨v0,rfl⟩:=P.pre;rw[ls (by rw[q0.len];exact j1)]at c1;exact .inl (eA c1)
 have M0:Fx B (O.drop U0) s g:=by
  have Z0:Fx B (O.drop U0) s #[cN,y0,s.toks+((j0.names.map (·.1)).zip U).length]:=Fx.fU s0 #[dJ,I0];refine Z0.trans P.fx λy S=>?_;rcases bc.mp S with rfl|S;.exact .inr (aO _)
  .rcases cK.mp S with S|S;.obtain⟨p,c0,_⟩:=bI.mp S;have:=(iT.mp c0).2;simp at this
   .exact .inl S
 have F1:cI B (h0.take L) m0 g.heap:=by
  refine⟨by rw[<-x0,bH,bH,P.rel.len],(lu _ _).nodup P.rel.nodup,λa I=>P.rel.high a (eA I),λi a e0 I k1=>?_⟩;have m:i<L:=by have:=#[U,I];rw[bH]at this;omega
  rw[es m]at I;rw[<-x0,es m]at k1;obtain⟨o,b0,k0⟩:=P.rel.store i a e0 I k1;exact⟨#[aS,b0,k0.take (G0 i e0 m k1)],(P.rel.code i a e0 I k1).Cc⟩
 have x1:∀u,VR h0 u r->VR (h0.take L) u r:=λu p0=>p0.take Z;rcases d with rfl|⟨rfl,rfl⟩;.obtain⟨u,rfl,u1⟩:=h1;exact q u g _ B1 (λa I=>r1 a (eA I)) M0 P.rel.gh F1 (x1 u u1)
 .cases h1;exact q .none g _ B1 (λa I=>r1 a (eA I)) M0 P.rel.gh F1 rfl
theorem ep.dM{H m0:#[g]}(F:#[w])(J:#[hv])(P:iq j0 k=ae)(y:#[ei])(d:#[eG])(i:#[eF])(I:#[nz])(v:#[ci,H])(C:z.length=k)(a:#[jO,z])(u:S<=H.length)(M:H.length<=L)(h:#[nq,S]):ep B w (n+1) f z S H r m0:=λA O l s R g b j e q=>by obtain⟨f0,o,N,a0,G,E,c,m,p,t,_,x⟩:=J.ex;exact ep.run F J.out N a0 G E c m p t (.of_eq (x _ (e.length.trans C))) P y d i v C a u M h g b j e q
theorem ep.Cb{H m0:#[g]}(h:ep B w n f z 0 H r m0)(t:m0.length=H.length):bG B w n f z H r m0:=λA O l s R g k a e q=>h A _ _ s R g k a e λu L j y _ G Y U T=>by have:=(y.eq_of_length (by rw[U.len,t,a.len])).symm;simp_all
theorem bG.dM{H m0:#[l]}(F:#[w])(J:#[hv])(o:iq j0 k=ae)(b:#[ei])(c:#[eG])(d:#[eF])(e:#[nz])(v:#[ci,H])(C:z.length=k)(a:#[jO,z])(h:aj B w n (dD j0) r0 T H (cZ H.length r m0))(t:m0.length=H.length:=by rfl):bG B w (n+1) f z H r m0:=(ep.dM F J o b c d e v C a #[aB] #[aO] h).Cb t
section
variable{B:Bs}{w:aD}{n m k:Nat}{S:Gm}{U x0:#[o]}{H b0 o0 w0 m0:#[l]}{J:aN}{O:#[s]}
def gX(H:#[l])(b:Nat)(g:#[l]):#[l]:=H.take b++(g.map (aX b)++H.drop (b+g.length))
theorem Wk(R:#[hV])(P:i<g.length):(gX H b g)[b+i]?=aa (aX b g[i]):=by unfold gX;rw[dZ (by rw[bH];omega),bH,#[G,kr],xv,cG (by simpa using P),cb,bB _];rfl
theorem Wn(R:#[hV])(P:i<b\/b+g.length<=i):(gX H b g)[i]?=H[i]?:=by
 unfold gX;obtain P|P:=P;.rw[cG (by rw[bH];omega),es P]
 .rw[dZ (by rw[bH];omega),bH,dZ (by rw[aQ];omega),aQ,iv];congr 1;omega
theorem Wl(R:#[hV]):#[bb,(gX H b g),H.length]:=by unfold gX;simp;omega
theorem FD(I:#[I,((O.drop b).take L),a]):i<L/\O[b+i]?=aa a:=by
 have P:i<L:=by have:=#[U,I];rw[bH]at this;omega
 rw[es P,iv]at I;exact⟨P,I⟩
theorem aF.hP{s:fR}{g:#[g]}(b:Nat)(M:#[ah])(R:#[hV])(t:#[lv])(j:cw g.length g):cI B #[iR] g s.heap:=by
 have h:b+g.length<=O.length:=by rw[M.len];exact R
 refine⟨by rw[bH,cR];omega,((lu _ _).trans (xg _ _)).nodup M.nodup,λa I=>M.high a (eU (eA I)),λi a e0 I l=>?_⟩;obtain⟨P,E⟩:=FD I;have u:=t i _ l;obtain⟨o,F,d⟩:=M.store _ a _ E u;exact⟨#[aS,F,((sA #[f]).mp d).take (j.ok i _ l).1],wi.mp (M.code _ a _ E u).Cc⟩
theorem aC.hP{s L:fR}{g l:#[l]}(b:Nat)(M:#[ah])(t:S.fz<=b)(f:#[hV])(g0:cw g.length g)(v0:cw g.length l)(u:cI B #[iR] g s.heap)(d0:Fx B #[iR] s L)(A:#[hk])(k0:cI B #[iR] l L.heap):#[aV,gX H b l,O,L]:=by
 have s0:=v0.len;have y0:b+g.length<=O.length:=by rw[M.len];exact f
 have A0:b<=O.length:=by omega
 have u0:∀(i:Nat)(a:ao),#[I,#[iR],a]->i<g.length/\O[b+i]?=aa a:=λi a I=>FD I;have p0:∀a∈#[jC],a∈O:=λa I=>eU (eA I);have f0:∀(q:Nat)(a:ao),O[q]?=aa a->(q<b\/b+g.length<=q)->a∉#[jC]:=λq a n d j=>by obtain⟨i,P⟩:=gK.mp j;obtain⟨N,a0⟩:=u0 i a P;have:=il M.nodup n a0;omega
 have q0:∀c,#[ap,c]->#[al,c]:=λc X n0=>#[a9,M.lb c n0,X];have x0:#[dQ,p.2∉#[jC]]:=λp y j=>(M.cp p y).1 (p0 _ j);have r0:#[mB,L.heap.IsCell]:=λp y v⟨o,N,a0⟩=>#[aS,d0.keep _ _ N (x0 p y) (q0 _ (M.cp p y).2.2.1),a0];have t0:b+l.length<=H.length:=by rw[s0];exact f
 have w0:∀(q:Nat)(a:ao)(e0:Ob),O[q]?=aa a->(gX H b l)[q]?=aa e0->(∃i o0,#[I,l,o0]/\#[I,#[iR],a]/\e0=aX b o0)\/(a∉#[jC]/\H[q]?=aa e0):=λq a e0 I Q=>by
  by_cases n:q<b\/b+g.length<=q;.rw[Wn t0 (by rw[s0];exact n)]at Q;exact .inr ⟨f0 q a I n,Q⟩
  .obtain⟨i,rfl⟩:∃i,q=b+i:=⟨q-b,by omega⟩;have P:i<l.length:=by rw[s0];omega
   rw[Wk t0 P]at Q;cases Q;exact .inl #[ds,i,_,bB P,by rw[#[G,es],iv];exact I]
 refine#[g1,{M with gh:=A,ns:=?_,len:=by rw[Wl t0];exact M.len,store:=λq a e0 I Q=>?_,code:=λq a e0 I Q=>?_,cp:=λp y=>?_},d0.widen λx z=>.inl (ou ?_)]
 .obtain⟨m,j,h0⟩:=M.ns;refine⟨m,j.at' λo e=>d0.keep _ o e (λj=>M.dT (p0 _ j)) (q0 _ M.hR),λq x e=>?_⟩;obtain⟨l0,i0,N,a0⟩:=h0 q x e;refine#[bM,l0,i0,N];rcases a0 with h|⟨h,c,v,F,k,r⟩;.exact .inl h
  .exact .inr ⟨h,c,v,F,r0 _ (mem_of_lookup F) _ k,r⟩
 .rcases w0 q a e0 I Q with⟨i,o0,N,a0,rfl⟩|⟨N,a0⟩;.obtain⟨⟨o,F,k⟩,_⟩:=k0.store i a o0 a0 N;exact#[aS,F,(sA A0).mpr k.Vu]
  .obtain⟨o,F,k⟩:=M.store q a e0 I a0;exact#[aS,d0.keep _ _ F N (q0 _ (M.high a (bC I))),k]
 .rcases w0 q a e0 I Q with⟨i,o0,N,a0,rfl⟩|⟨N,a0⟩;.obtain⟨_,T⟩:=k0.store i a o0 a0 N;refine(wi.mpr T).ob λR e=>?_;cases o0 with|raw b0=>exact absurd rfl ((v0.ok i _ N).2.2 b0)|_=>cases e
  .obtain⟨o,F,_⟩:=M.store q a e0 I a0;have C:=d0.keep _ _ F N (q0 _ (M.high a (bC I)));refine(M.code q a e0 I a0).keep (λc0 e=>by rw[C]at e;cases e;exact F) λc c0 e Y n0=>d0.keep _ _ e (λj=>?_) n0;obtain⟨i,P⟩:=gK.mp j;obtain⟨w,_⟩:=u0 i c P;obtain⟨⟨m0,Z,j0⟩,_⟩:=u.store i c _ P (bB w);exact(g0.ok i _ (bB w)).2.1 _ _ j0 _ _ Z Y
 .obtain⟨N,a0,G,v,E⟩:=M.cp p y;exact⟨N,a0,G,v,r0 p y v E⟩
 .obtain⟨i,P⟩:=gK.mp z;obtain⟨N,a0⟩:=u0 i x P;exact pN a0 #[f]
theorem bG.call(b:Nat)(h:bG B w n f z g r l)(d:S.fz<=b)(R:#[hV])(t:#[lv])(m:cw g.length g)(v:cw g.length l)(X:#[b7,z,g.length])(o:z.map (ej b)=Y)(E:ej b r=y)(Z:gX H b l=m0):#[cg,fY,#[cb],Y,y,m0]:=λA J O c s C a M e q=>by subst o E Z;have j:=M.hP b R t m;refine h A _ _ s _ a M.gh j ((lQ.mp e).qn X) λu L G k p T=>(q u _ _ (aC.hP b M d R m v j G k p) (oF.mpr T.drop_take))
end
section
variable{B:Bs}{w:aD}{n m k F0 t0:Nat}{S:Gm}{d0 g0:#[n]}{U x0:#[o]}{H b0 o0 w0 m0:#[l]}{J:aN}{O:#[s]}{a b c o:aP}{i0 y0 p:aZ}{l:#[y]}{h0:#[dB]}
theorem Mf{Q:#[aG,#[bP]]}(M:#[hh])(q:∀c0 p0,(#[fg])->#[el]->Q ab #[ff]){T:dw d}(l:T=(do raiseNew (<-newExc (.type "StopIteration") []))):aw #[aH] A.in1 T R (λe L=>#[dS,do if<-yq e (.type "StopIteration")then av ab else throw e,L]) s:=by subst l;refine ag ?_;refine#[m1];refine jA ?_ (by size_fits);refine#[a3,Eu];rw[M];refine#[c6,EF ?_];refine#[bI,lO,#[M,#[aT]],yr];refine az (q _ _ (#[jq]) ?_);simp;omega
theorem ix.over(G:H[d]?=aa (kc l0 j ai)):ix B w n S d U H ab H:=λA J O s I Q E g R r q=>by obtain⟨o,p,b,h,rfl⟩:=R.store _ I _ r G;have l:s.TypeIs (.ref I) _:=#[M,p];refine#[mA,l,l];refine#[cT,rfl];refine#[cm,p,(rfl:(tA {cls:=.type _,data:=.fields _})=.fields _),.bool _,?_];refine#[a3,hN];refine ag (Mf g.handled (λc0 p0 C u=>#[aE,aC.heap R u C,rfl]) rfl)
theorem ix.last(n0:H[d]?=aa (kc l0 j ae))(l:#[aW,H,mT v0 f i])(L0:S.fz<=d)(C0:#[iH])(y0:#[h2])(s0:#[al,f])(X:#[cg,fY,#[cb],[.ob i],#[an,[]],b0])(Y0:b0[d]?=aa (kc l0 j ae))(T0:#[aW,b0,mT v0 f i])(N:b0.set d (kc l0 j ai)=m0):ix B w (n+1) S d U H ab m0:=λA J O s I Q E a R i0 q=>by subst N;obtain⟨o,p,U0,N0,x,R0,z,rfl⟩:=R.store d I _ i0 n0;have Z:#[ln,#[ke,R0],#[ke,R0]]:=rfl;obtain⟨a1,S0,Z0,r0,y,m,rfl⟩:=R.store j x _ z l;have g0:#[n5]:=#[M,p];refine#[mA,g0,g0];refine#[cT,rfl];refine#[cm,p,Z,#[dt],?_];refine#[cm,p,Z,#[am],?_];refine#[a3,iF];refine ag (zi S0 (R.gh.2.1 _ _ C0 s0) y0 ?_);refine Md (Ee S0 ?_);refine X _ J O [.ref y] s _ a.in1 R #[aY,#[au,y,m]] λe0 L c P r=>?_;have A0:=gU P.pre i0;obtain⟨j0,t0,b1,_,G0,X0,F0,rfl⟩:=P.rel.store d I _ A0 Y0;have x0:#[ln,#[.ref G0,.str #[du] X0,#[dt]],#[.ref G0,.str #[du] X0,#[dt]]]:=rfl;obtain⟨d1,c1,_,_,M0,O0,rfl⟩:=P.rel.store j G0 _ F0 T0;obtain⟨u,k,rfl,M⟩:=r;refine#[cm,t0,x0,#[dt],?_];refine#[cm,t0,x0,.str #[du] X0,?_];refine#[b6,PO ?_];rw[XQ M];refine#[a3,hN];refine ag ?_;refine#[cm,t0,x0,.ref G0,?_];refine ag ?_;refine ag (zi c1 (P.rel.gh.2.1 _ _ C0 s0) y0 ?_);refine az ?_;refine ag (nR t0 (by simp) λa0 e v=>?_);refine ag (nR e (by simp) λG h0 d0=>?_);refine nR h0 (by simp) λF w0 o0=>?_;have E0:oX I L.heap F:=⟨o0.1.trans (d0.1.trans v.1),λy m=>(o0.2 y m).trans ((d0.2 y m).trans (v.2 y m))⟩;have t:aC B S J c U (b0.set d (kc l0 j ai)) L c {L with heap:=F,toks:=L.toks}:=aC.AL P.rel A0 L0 E0 (bt.no t0 (λY Q0 u0 H0 I0=>by cases H0;cases I0;rfl) λY n g=>by cases g) ⟨_,w0,b1,N0,rfl⟩ #[av] λn R T _ o f0 J0 k0=>#[R];refine Mf a.handled (λc0 p0 C b=>q ab _ c ((P.trans t).trans (aC.heap t.rel b C)) rfl) rfl
theorem aj.zV{c:Nat->#[o]->#[eR]}(i m:Nat)(m0:#[b2,A0,.ob d])(M0:∀(A:aR)(J:aN)(O:#[s])(s:fR)(I:ao)(Q E:#[E]),#[bk]->#[dg,O,b0,s.heap]->O[d]?=aa I->#[bN,I,s]->#[aM,#[ct,kH,I]])(a:#[eA,v0])(C:#[dV,v0,v0,l0])(f0:c m U b0)(x0:∀k v s,c k v s->∃r k0,ix B w n S d v s r k0/\match r with|aa x=>i<v.length/\#[cE,r0,#[eQ,x],k0,mr B w n S l h0 λc0 L=>∃F0,F0<k/\c F0 c0 L]|ab=>#[cE,C0,v,k0,hO B w n S l h0])(H0:#[gF,A0]):#[dx,.For (.Name l0 J0) A0 r0 C0 i0]:=#[nV,hO B w n S l h0,(by refine yA (#[dU,m0,λu0 k0 d0 b G=>?_]) (λx=>H0 x J);obtain⟨I,o0,rfl⟩:=G;refine M0 A J d0 k0 I _ E g b.rel o0 ?_;refine DY (λk L=>∃v t j,c k v t/\#[cy,v,t,j,L]/\j[d]?=aa I) ?_ m ⟨U,b0,d0,f0,b,o0⟩;rintro k L⟨v,t,j,I0,P,E0⟩;obtain⟨r,t0,y,e⟩:=x0 k v t I0;refine y A J j L I _ _ g P.rel E0 λL0 F n0 z T=>?_;cases r with
|some x=>obtain⟨u,rfl,X⟩:=T;obtain⟨e0,Z⟩:=e;refine az (jW (aF.gY z.rel a C e0 X λj0 g0=>?_));refine Z A J n0 j0 _ _ g g0.rel λo c0 q0 f w0 G0 p p0 R=>?_;have s0:=((P.trans z).trans g0).trans p0;have N0:=gU p0.pre (gU z.pre E0);cases o with|next=>cases R;obtain⟨F0,N,a0⟩:=p;exact⟨F0,N,c0,q0,G0,a0,s0,N0⟩|cont=>cases R;obtain⟨F0,N,a0⟩:=p;exact⟨F0,N,c0,q0,G0,a0,s0,N0⟩|brk=>cases R;exact q .next _ _ _ w0 G0 p s0 rfl|ret r=>obtain⟨y0,rfl,Y⟩:=R;exact q (.ret r) _ _ _ w0 G0 p s0 #[dv,y0,Y]
|none=>cases T;exact e A _ n0 F _ _ g z.rel λo c0 q0 f w0 G0 p p0 R=>q o _ _ _ w0 G0 p #[cW,P.trans,z,p0] R)]
theorem zx{d j l0:Nat}(G:H[d]?=aa (kc l0 j f)):∀(A:aR)(J:aN)(O:#[g])(s:fR)(I:ao)(Q E:#[E]),#[bk]->#[ah]->O[d]?=aa I->#[bN,I,s]->#[aM,#[ct,kH,I]]:=λA J O s I Q E g M r q=>by
 obtain⟨o,p,b,h,z⟩:=M.store _ I _ r G;have l:#[n5]:=by cases f with|true=>obtain⟨x,k,_,rfl⟩:=z;exact#[M,p]|false=>cases z;exact#[M,p]
 refine wpAny_pyIter_slot l La (iG La l RR (az ⟨_,rfl,_,_,l,oH.lookup,q⟩) (QF _))
end
theorem Jm:jw (.type "function")=av [.type "function",.type "object"]:=by rw[mroOf_type];kernel_rfl
theorem Um:#[cY,"function","__getattribute__","object.__getattribute__"]:=by rw[cB,cA];kernel_rfl
theorem Un:#[d8,"function","__getattr__"]:=by rw[cB,cA];kernel_rfl
theorem IJ:#[d8,"function","read"]:=by rw[cB,cA];kernel_rfl
theorem Uv:#[cY,"method","__call__","method.__call__"]:=by rw[cB,cA];kernel_rfl
theorem wz:#[ls,"function",[.type "function",.type "object"]]where
 mro:=Jm
 slot:=.of (owner:="object") (n:="__setattr__") #[ak] #[i] #[p] #[p] (by first|exact .inl (by decide+kernel)|exact .inr (by decide+kernel)) #[kL]
 entry:=DD
 kind:=by decide+kernel
 split:=by decide+kernel
 hasOwner:=by decide+kernel
 args:=λa b c=>by kernel_rfl
 passes:=λs=>by kernel_rfl
theorem Lb:nL "function" "__getattribute__" "object.__getattribute__":=.of (owner:="object") (n:="__getattribute__") (by rw[cB,cA];kernel_rfl) #[ak] #[p] #[p] (#[i]) #[kL]
section
variable{k:mz}{w:aD}{A:aR}{E:#[E]}{h:bk}{g:#[c5]}{d:hK}{t:Nat}{h0:gw}{x:ao}{v:af}{o:ck}{f0:gN}
theorem Su{M0:ao}{m:#[n]}{n:dw Bool}{Q:#[aG,af×#[L]]}(z:#[cl])(X:#[kB])(c:#[dW])(Z:o.dict=aa M0)(U:h.Ns M0 m)(T:m "read"=aa v)(M:pe v=av v)(O:Q (v,[]) #[gv]):#[eb,rf #[K,x] "read" n]:=by have l:#[lK,x]:=λ_=>#[as,z,X];have a:=l t;have f:=l (t+1);have u0:=Um;have j0:=Un;have H:=IJ;have r:=DB;unfold rf;refine#[bI,iZ,a,u0];show#[lE,my "object.__getattribute__"];rw[r];refine#[bI,iZ,a,j0];refine#[bI,iZ,a,H];dsimp only;refine ag ?_;unfold lL tK;refine ag (tV (cf (ag (nS f (ag (cN u0 ?_))))));show#[cQ,yp #[K,x] (.str "read" t) (.type "function") #[cZ,"object.__getattribute__"] ae ai];unfold yp Ed DX DW;refine#[cT,#[co,#[aa,ys (.type "function"),bg (.type "function") "__getattr__",av ab]=av ab]];refine ag (iF (cf ?_));show#[ej,bindSpecial (.builtin "object.__getattribute__") #[K,x]];refine#[cT,Lb.bind _];refine iG Lb f aae ?_ (ZR _ _);unfold Builtin.«object.__getattribute__»;refine#[mU,"read"];dsimp only;refine#[c6,ag (nS f (ag ?_))];unfold Dn;refine ag (cN H (ag (az (ag (az ?_)))));dsimp only;unfold NU NS NT;refine#[bT,ag (gx z ?_)];rw[c];refine#[bf,gx,z];rw[X];rw[Z];refine az (mC U ?_);rw[T];refine ag (hN (az (az #[b4,?_])));rw[M];exact az (az O)
theorem Sv{A:aR}{Q:#[aG,Unit]}(z:#[cl])(X:#[kB])(f:#[dW])(a:o.dict=ab)(O:∀c0 p0,(∀b e0,b≠x->b≠h.objs.size->#[i6].get? b=aa e0->c0.get? b=aa e0)->c0.get? x=aa {o with dict:=aa h.objs.size}->c0.Ns1 h.objs.size (λy=>if y="read"then aa v else ab)->Q () #[bu,c0,p0]):#[eb,setAttr #[K,x] "read" v]:=by
 have l:#[lK,x]:=λ_=>#[as,z,X];unfold setAttr;refine#[a3,tV];refine ag (lM (name:=ak "__setattr__") (l _) wz.slot (iG wz.slot (l _) DD ?_ (wz.args _ _ _)));unfold Builtin.«object.__setattr__»;have j:=l (t+1);have q:∀T,(#[bu,h,T]:fR).toks=T:=λ_=>rfl;simp only[MQ,sM,fX,if_false];refine ag ?_;rw[refuse_eq];refine ag (nS (l _) (ag (cN Jm ?_)));rw[wz.passes];refine az (ag (az (ag (nS (l _) (ag (cN IJ (ag (az ?_))))))));dsimp only;unfold ZI;refine ag (m:=ownStreamTells _ _) #[cA];rw[#[eH]];refine ag ?_;show#[cQ,rg x ae];unfold rg;refine#[bf,gx,z];rw[X];dsimp only;rw[a];dsimp only;rw[#[bK,#[i]],f];have m:x≠h.objs.size:=cz (bj z);have L:#[i6].get? x=aa o:=bM _ z;refine ag (wpAny_alloc' (ag (wpAny_update' L ?_)));show#[cQ,av (aa h.objs.size)];refine az ?_;have P:#[n6,(#[i6].update x λo=>{cls:=o.cls,dict:=aa h.objs.size,data:=o.data,slots:=o.slots})]:=(qT _ _ _ _ m.symm).trans (Heap.get?_push_at rfl rfl);have i:(#[i6].update x λo=>{cls:=o.cls,dict:=aa h.objs.size,data:=o.data,slots:=o.slots}).Ns h.objs.size (λ_=>ab):=⟨_,#[],_,P,rfl,λe c=>absurd c #[z],λ_=>rfl⟩;show#[cQ,ZH h.objs.size _ _ v];refine#[c6,ag (wpAny_nsSet1 (Heap.Ns1.of_empty i) λc0 F u=>?_)];obtain⟨B,C,s,n,r,H⟩:=F.count (Within.cons "read" v Within.nil);refine ag (wpAny_lookBehind n (by rw[r];exact pastItsLine_dict (aH H (by rw[cc,et,dp];omega))) ?_);refine az #[b4,az (O c0 _ (λb e0 Z p e=>?_) ?_ F)];.exact(u.2 b p).trans ((qT _ _ _ _ Z).trans e)
 .refine(u.2 x m).trans (tx _ L ?_);rw[f];rfl
end
noncomputable def rA:#[y]:=by run_tac au.dc ["_law_lexer","read"]
noncomputable def oD:bq:=by run_tac au.dd ["_law_lexer","read"]
noncomputable def yI:lD:=by run_tac au.mP ["_law_lexer","read"] 1
def rG(n i:Nat):Ob:=.rel n (λO o=>i<n/\∃a,#[da]/\o.data=.cell (aa #[K,a])) λO j o h⟨N,a,a0,G⟩=>⟨N,a,(h i N).trans a0,G⟩
def kd(n d:Nat):Ob:=.rel n (λO o=>d<n/\#[kB]/\(∃f0,#[dW])/\#[ll]) λO j o h⟨N,a0,G,a,E,r⟩=>⟨N,a0,G,a,(h d N).trans E,r⟩
def sl(n c:Nat):Ob:=.rel n (λO o=>c<n/\∃f0 a,O[c]?=aa a/\o=#[jD]/\f0.params=yI/\f0.body=.stmts rA/\f0.scope=oD/\f0.globals=ed/\f0.builtins=cS/\f0.closure=[(ak "signs",a)]/\f0.defaults=.none/\#[kk]) λO j o h⟨N,f0,a,a0,G⟩=>⟨N,f0,a,(h c N).trans a0,G⟩
def cY(t:Tx):#[D]:=t.map λc=>.str [c]
theorem cZ.of(N:bD L r)(a0:L<=s.length)(G:∀(i:Nat)(e0:Ob),i<L->#[cD,s]->fl L e0)(E:s.take L=m0):cZ L r m0 (.ret r) v s:=⟨#[dn],N,a0,G,E⟩
theorem zw:#[b7,cY t,L]:=λx z=>by obtain⟨c,_,rfl⟩:=bI.mp z;trivial
theorem Wv(B:Bs)(w:aD)(F:#[w])(G:#[W])(g:Tx)(R:g.length<=aB):aj B w 2 (dD oD) rA [#[cz,#[bi]],#[bj]] [#[bg,cY,g]] (cZ 1 #[cV,g.take,1] [#[bg,cY,g.tail]]):=by cases g with
|nil=>
 run_tac au.aI
 refine cZ.of trivial #[z] (λi e0 P Z=>?_) rfl;obtain rfl:i=0:=by omega
 cases Z;intro x z;cases z
|cons c I=>
 have e:(cY (c::I))=.str _::cY _:=rfl;rw[e];have N:#[cI,(#[dP]::cY I)]:=by simpa[cY]using R
 have a0:(!(#[dP]::cY I).isEmpty)=ae:=rfl;have a:(#[dP]::cY I).eraseIdx 0=cY _:=rfl;run_tac au.aI
 refine cZ.of trivial #[z] (λi e0 P Z=>?_) rfl;obtain rfl:i=0:=by omega
 cases Z;exact zw
theorem Ww{B:Bs}{w:aD}{d0 g0:#[n]}(F:#[w])(G:#[W]){A:aR}{s:fR}{f c a:ao}{f0:gN}{g:Tx}{p0:fP}{R:#[aG,mA]}(l:g.length<=aB)(k:Cx 3 A)(O:#[c4])(H:#[cd,f,#[jD]])(j0:f0.params=yI/\f0.body=.stmts rA/\f0.scope=oD/\#[k7,f0.closure=[(ak "signs",c)]/\f0.defaults=.none/\#[kk]])(k0:s.heap.CodeRec f0.code f0.qualname)(X:s.heap.IsCell c #[ct,aa,a])(y0:a≠c)(I:#[ap,a])(u0:#[ap,c])(H0:#[nw,s.heap.get?,g])(q:∀u L,Fx B [a] s L->#[hk]->(#[nw,L.heap.get?,g.tail])->VR [] u #[cV,g.take,1]->R (.ok (.ret u)) L):jv #[aH] A #[cM,.call,f,#[Y,[.int 1 p0]]] R s:=by
 obtain⟨G0,E0,N0,M,S0,R0,T0,T⟩:=j0;have l0:tG f0 #[Y,[.int 1 p0]]=av [(ak "count",.int 1 p0)]:=by obtain⟨⟩:=f0;dsimp only at G0 T0 T;subst G0 T0 T;rfl
 refine ym (fd:=f0) (body:=rA) (binds:=[(ak "count",.int 1 p0)]) (by have:=k.depth;omega) H rfl (F.nl O) k0 E0 (.of_eq l0) (λx d e=>?_) (λx d=>?_) (λS c0 Y=>?_) (by rw[N0];rfl) (by rw[N0];rfl) (by rw[N0];rfl)
 .rw[N0]at d;have:(oD.names.all λq=>!(q.2==.cell))=ae:=by decide+kernel
  have:=eT.mp this x d;rw[e]at this;cases this
 .rw[aY.mp d,N0];exact(by decide+kernel:mo (ak "count") oD.names=aa NameKind.local)
 have J:#[Q,S.objs.size]:=by obtain⟨o,_,_,e,_⟩:=c0;exact ea (bj e)
 obtain⟨z,A0,x0⟩:=H0;obtain⟨O0,n0,m0⟩:=X;have o0:#[fr].cells=[(ak "signs",c)]:=R0
 have j:aF B (dD oD) #[fr] [a] [#[B,1],#[bj]] [#[bg,cY,g]] S:=by
  refine{scope:=N0,kind:=rfl,jJ:=#[av],nd:=by decide+kernel,glob:=M,eX:=S0,gh:=O.grow J Y,slt:=F.slt,ns:=#[as,c0,#[cX]],kU:=#[av],len:=rfl,cX:=aT _,store:=λi b e0 Z U=>?_,code:=λi b e0 Z U=>?_,nodup:=by simp,high:=λb Z=>by rw[aY.mp Z];exact I,dT:=λn=>?_,hR:=O.1,cp:=λp t=>?_,kb:=by rw[o0];exact List.pairwise_singleton _ _};.match i,e with|0,e=>cases e;exact⟨ak "count",.local,by rfl,.inl #[ds,rfl,.int 1 p0,by simp[mo],p0]⟩|1,e=>cases e;exact⟨ak "signs",.free,by rfl,.inr ⟨.inr #[aJ,by decide+kernel],c,.ref a,by rw[o0];rfl,⟨O0,Y _ _ n0,m0⟩,a,rfl,rfl⟩⟩|i+2,e=>simp at e
  .match i,Z,U with|0,Z,U=>cases Z;cases U;exact⟨z,Y _ _ A0,x0⟩|i+1,Z,U=>simp at Z
  .match i,Z,U with|0,Z,U=>cases U;trivial|i+1,Z,U=>simp at Z
  .have:=aY.mp n;have N:=bj A0;have a0:#[jr,#[fr].locals]:=rfl;rw[a0]at this;exact#[aN,N,by rw[this];exact fk _]
  .rw[o0]at t;rw[aY.mp t];refine⟨λn=>y0 (aY.mp n).symm,?_,u0,_,O0,Y _ _ n0,m0⟩;exact cz (bj n0)
 refine Wv B w F G g l (A.deeper _) _ [a] _ _ _ ⟨k.handled,by have:=k.depth;show A.depth+1+2<_;omega,by have:=k.units;show A.units+3+8*2+8<_;omega⟩ j ?_;rintro C0 v w0 r0 L C⟨d,Z,s0,U,Q⟩P i0
 have b0:Fx B [a] s L:=by
  have h0:Fx B [a] s #[cN,S,s.toks+[(ak "count",DT 1 p0)].length]:=Fx.fU J #[dJ,Y];refine h0.trans P.fx λy m=>?_;rcases bc.mp m with rfl|m;.exact .inr (aO _)
  .rcases cK.mp m with m|m;.obtain⟨p,t,_⟩:=bI.mp m;have:=(iT.mp t).2;simp[dD]at this
   .exact .inl (eU m)
 have F0:#[nw,L.heap.get?,g.tail]:=by
  have t0:C[0]?=aa a:=gU P.pre rfl
  have I0:#[aX,w0,0,cY g.tail]:=by
   have:#[aX,(w0.take 1),0,cY g.tail]:=by rw[Q];rfl
   rwa[#[G,es]]at this
  obtain⟨o,r,E⟩:=P.rel.store 0 a _ t0 I0;have:C.take 1=[a]:=by obtain⟨v0,rfl⟩:=P.pre;rfl
  exact#[aS,r,this▸E.take (U 0 _ #[f] I0)]
 rcases d with rfl|⟨_,d⟩;.obtain⟨u,rfl,q0⟩:=i0;exact q u L b0 P.rel.gh F0 (q0.atom #[ch])
 .cases d
section
variable{B:Bs}{w:aD}{n m k F0 t0:Nat}{S:Gm}{d0 g0:#[n]}{U x0:#[o]}{H b0 o0 w0 m0:#[l]}{J:aN}{O:#[s]}{a b c o:aP}{i0 y0 p:aZ}{l:#[y]}{h0:#[ay]}
theorem FP{b:Nat}:(cY t).map (ej b)=cY t:=by unfold cY;rw[gr];rfl
theorem Wm{b:Nat}(h:b<H.length):gX H b [x]=H.set b (aX b x):=by rw[Nc,if_pos h];rfl
theorem iN.list:iN (.list X):=λO o⟨Y,k,e,_⟩h a S=>#[kN,λp0 n _ b=>by grind]
theorem cw.cY:cw 1 [#[bg,cY,t]]:=#[aJ,λi e0 h=>by match i,h with|0,h=>cases h;exact⟨zw,.list,#[ch]⟩|i+1,h=>simp at h]
theorem Ev.Rc(F:#[w])(G:#[W]){j C z1 R1 g l0 m1 U1 X1:Nat}{j0:#[fk]}{t:Tx}{e:aP}(R:#[fU])(p:Ev B w (n+4) S o U H #[cc] b0)(Y:#[aW,b0,kd l0 C])(Z:b0[C]?=aa (bQ m1 j0))(B1:j0.lookup (ak "read")=#[V,z1])(c0:b0[z1]?=aa (sl U1 R1))(X:b0[R1]?=aa (rG X1 g))(m:#[aX,b0,g,cY t])(q1:g≠R1)(v0:S.fz<=g)(I:Ev B w (n+4) S e U b0 #[T,#[a5]] b0)(H0:b0.set g (.list (cY t.tail))=m0)(e1:#[ek])(Y0:#[eg,"read"])(Z0:#[b3]):Ev B w (n+4) S #[g8,"read"] U H #[cV,t.take,1] m0:=λA J O s Q E c b q=>by
 subst H0;rw[tF,Y0 J];refine ag (p A J O s _ E c b λu0 k0 A0 d o0=>#[a3,dI]);obtain⟨x,z,rfl⟩:=o0;obtain⟨w0,y1,_,a2,Q1,⟨i2,g1⟩,M0,d2,e2⟩:=d.rel.store j x _ z Y;obtain⟨v1,C1,_,r0,i1,f1,n1,w1,x1,s1⟩:=d.rel.store C M0 _ d2 Z;obtain⟨v,k,⟨f,s0,rfl⟩,_⟩:=s1 _ _ B1;obtain⟨q0,j1,_,U0,f0,Z1,P1,rfl,G0,E0,N0,M,S0,R0,T0,T⟩:=d.rel.store z1 f _ s0 c0;have J1:#[n1,[e].length,#[gb,[e]]]:=by rw[dn i0 J e1];rfl
 have H1:∀p0,#[dS,lI i0 #[cb] [] #[gb,[e]] [],{k0 with toks:=p0}]:=λp0=>by rw[dn i0 J e1];have I1:=d.toks p0;refine zp (fV J [e]) (eK ((cu.cons I .nil) A J A0 _ _ E c I1.rel λl n0 Q0 h0 L0=>?_));have c2:=I1.trans h0;have u1:=gU h0.pre s0;obtain⟨q0,j1,_,U0,f0,Z1,P1,rfl,G0,E0,N0,M,S0,R0,T0,T⟩:=h0.rel.store z1 f _ u1 c0;have o1:=h0.rel.code z1 f _ u1 c0;obtain⟨O1,d1,b1,k1,_⟩:=o1 _ f0 j1 rfl;obtain⟨O0,r1,_,j2,N1,T1,p1⟩:=h0.rel.store R1 Z1 _ P1 X;obtain⟨L1,E1,F1⟩:=h0.rel.store g N1 _ T1 m;refine#[a4,#[aC,f0,j1,rfl]];cases L0 with
 |cons L0 X0=>
  cases X0;obtain⟨Y1,rfl⟩:=L0;have A1:g+[Ob.list (cY t)].length<=b0.length:=by have:=#[U,m];simp only[CJ];omega
  have l1:#[gO,[Ob.list (cY t)],b0[g+i]?=aa (aX g e0)]:=λi e0 h=>by match i,h with|0,h=>cases h;rw[qK,m];show _=aa (Ob.list ((cY t).map (ej g)));rw[FP]|i+1,h=>simp at h
  have x0:=h0.rel.hP g A1 l1 cw.cY
  have G1:(Q0.drop g).take [Ob.list (cY t)].length=[N1]:=by
   have N:(Q0.drop g)[0]?=aa N1:=by rw[iv];exact T1
   match I0:Q0.drop g,N with|y::r,N=>cases N;rfl
  rw[G1]at x0;obtain⟨⟨h2,f2,g2⟩,_⟩:=x0.store 0 N1 _ rfl rfl;refine gi (Ww F G (c:=Z1) (a:=N1) R (c.le #[f]) h0.rel.gh j1 ⟨G0,E0,N0,M,S0,R0,T0,T⟩ (d1▸k1) ⟨O0,r1,p1⟩ (λh=>q1 (il h0.rel.nodup T1 (h▸P1))) (h0.rel.high _ (bC T1)) (h0.rel.high _ (bC P1)) ⟨h2,f2,g2⟩ λu L a1 F0 b2 t0=>?_);have h1:cI B [N1] [#[bg,cY,t.tail]] L.heap:=⟨rfl,by simp,x0.high,λi a e0 N a0=>by match i,N,a0 with|0,N,a0=>cases N;cases a0;exact⟨b2,trivial⟩|i+1,N,a0=>simp at N⟩;have J0:=aC.hP g h0.rel v0 A1 cw.cY cw.cY (by rw[G1];exact x0) (by rw[G1];exact a1) F0 (by rw[G1];exact h1);rw[Wm (by simp only[CJ]at A1;omega)]at J0;have P:aX g (.list (cY t.tail))=#[bg,cY,t.tail]:=by show Ob.list ((cY t.tail).map (ej g))=_;rw[FP]
  rw[P]at J0;exact q u L Q0 (c2.trans J0) (t0.nil _)
 obtain⟨N,C0,t1,c1,M1⟩:=k0;unfold tP tH tQ;simp only[J1,Z0,if_true,sM,sP];refine#[b6,Su y1 Q1 g1 e2 ⟨v1,r0,i1,C1,f1,n1,λ_=>rfl⟩ k rfl ?_];exact#[c6,H1 _]
end
section
variable{B:Bs}{w:aD}{n m k F0 t0:Nat}{S:Gm}{d0 g0:#[n]}{U x0:#[o]}{H b0 o0 w0 m0:#[l]}{J:aN}{O:#[s]}{a b c o:aP}{i0 y0 p:aZ}{l:#[y]}{h0:#[ay]}
theorem aj.oE(m:#[ip,s0])(e:#[aI,v])(b:#[bv,o,#[ce]])(P:#[cD,o0])(g0:#[eY])(Z:o0[d]?=aa (bQ k j0))(l0:i≠d)(x0:S.fz<=i)(E0:S.fz<=d)(n0:r0 G=ab)(r:#[d8,T,G])(N:j0.length+1<=aB)(u:∀J,#[hH,#[d5,G,p]])(y0:jk j0 G v=A0)(q0:o0.length=t0)(X:o0.set d (bQ t0 A0)=m0)(Y:#[hM]):#[eU,[.Attribute o G p]]:=by
 refine#[e0,λo I L=>#[d6,I=U,L=o0.set d (bQ o0.length (jk j0 G v))],?_,λI L h=>#[R],λo I L b h=>#[dl,b]];refine Ek (#[aA,e,λu0 k0 t c j=>#[c3,b,c.rel,λC0 f f0 y d0=>?_]]) (u _);obtain⟨x,z,rfl⟩:=d0;have R:=y.rel.len
 have p0:k<=o0.length:=by
  rw[<-R];have w0:d<f0.length:=by rw[R];exact#[U,Z]
  obtain⟨o,_,h,_⟩:=y.rel.store d f0[d] _ (bB _) Z;exact h
 exact aF.setAttr y.rel m z P g0 Z l0 x0 E0 (j.pre y.pre) (eC R.symm) p0 (R▸(j.pre y.pre).below) n0 r N λc0 a0=>#[g4,#[cW,c.trans,y,a0]]
theorem Ev.QO{G:aq}(m:#[l6])(p:#[fL])(P:#[cD,b0])(L:#[eY])(Z:#[jg])(n0:i≠d)(p0:#[l4])(t:#[eC,G,f])(C0:#[iH])(G0:#[gs])(o0:#[al,f])(l:#[iU])(U0:pS G=ae)(a0:#[eh])(w0:∀R0 r,rh o R0 r=av ())(x:b0++[mT (i+1) f i]=m0)(Y:#[fT]):#[aF,#[d5,G,y0],.ob r,m0]:=λA J O s Q E g M q=>by subst x Y;rw[tE,a0 J];refine ag (#[dU,p,λu0 k0 u c b=>?_]);obtain⟨N0,O0,rfl⟩:=b;obtain⟨s0,M0,E0,_,_,S0,_⟩:=c.rel.inst O0 P L Z n0;obtain⟨l0,i0,N,J0,I0,F0,H0,A0,t0,x0,L0,j,I,X,c0⟩:=m.ex;have h0:=#[U,O0];refine#[g7];obtain⟨a,v,Q0,d0,T0⟩:=k0;refine QY m.mro m.ga m.ha #[fi,j,X] #[i7,I.at',c0] m.kV m.ox t #[fi,C0,o0] G0 l U0 E0 (S0 _ p0) ?_;rw[w0];refine#[c6,az (#[of,c.trans (aC.push c.rel rfl #[ds,by rw[aV];omega,hG _,_,by rw[cG h0];exact O0] #[av] λn R z _ o f0 p g0=>?_)])];rw[#[aT]]at p;grind
theorem Io:pa "iter"=ab:=#[p]
theorem JQ:tR "iter"=ae:=#[p]
theorem Gz:kE kL "iter"=aa qR.«iter»:=tJ (#[p])
theorem QH(a b:af):kB "iter" #[Y,[a,b]]:=#[p]
theorem Cl.SW(b:#[aW,H,mT u f i])(Z:H++[kc (j+1) j ae]=m0)(Y:H.length=r):#[gx,"iter",[.ob j,.str []],.ob r]:=λA J O l s Q E g M T q=>by subst Z Y;cases T with
|cons N a0=>cases a0 with
|cons a0 G=>
 cases G;obtain⟨x,a,rfl⟩:=N;obtain⟨y,p0,rfl,m⟩:=a0;obtain⟨F,C,_,t,z,c,rfl⟩:=M.store j x _ a b;have v:=#[U,a];refine Oi Io JQ Gz (QH _ _) ?_;refine#[cT,#[ak]];refine#[bI,iZ,#[M,C],Uv];refine#[a3,hN];refine#[nG];obtain⟨⟨e⟩⟩:=y;have:=by simpa using m
 subst this;refine az #[b4,#[kj,aC.push M rfl ⟨by rw[aV];omega,hG _,x,_,by rw[cG v];exact a,rfl⟩ #[av] λn R d _ o f0 p k=>?_]];rw[#[aT]]at p;grind
end
section
noncomputable def Fo:#[y]:=by run_tac au.dc ["_netrclex","_read_char"]
noncomputable def Kz:bq:=by run_tac au.dd ["_netrclex","_read_char"]
noncomputable def ui:#[y]:=by run_tac au.dc ["_netrclex","get_token"]
noncomputable def kY:bq:=by run_tac au.dd ["_netrclex","get_token"]
noncomputable def Fl:#[y]:=by run_tac au.dc ["_netrclex","push_token"]
noncomputable def Kx:bq:=by run_tac au.dd ["_netrclex","push_token"]
theorem BY:#[ck,"lineno"]:=by rw[cB,cA];kernel_rfl
theorem LL:#[ck,"instream"]:=by rw[cB,cA];kernel_rfl
theorem wH:#[ck,"whitespace"]:=by rw[cB,cA];kernel_rfl
theorem wG:#[ck,"pushback"]:=by rw[cB,cA];kernel_rfl
theorem BZ:#[ck,"_read_char"]:=by rw[cB,cA];kernel_rfl
theorem aef:#[ck,"get_token"]:=by rw[cB,cA];kernel_rfl
theorem aeg:#[ck,"push_token"]:=by rw[cB,cA];kernel_rfl
structure bX(B:Bs)(f:ao):Prop where
 ex:∃q0 f0,#[iH]/\#[gs]/\#[h2]
 out:#[al,f]
structure fj(B:Bs)(r0:#[n]):Prop where
 cl:hc B 298 "object" [.type "object"] "object.__new__" "object.__getattribute__" r0
 n1:r0 "lineno"=ab
 n2:r0 "instream"=ab
 n3:r0 "whitespace"=ab
 n4:r0 "pushback"=ab
 m1:#[eC,"_read_char",281]
 m2:#[eC,"get_token",288]
 m3:#[eC,"push_token",295]
 o1:bX B 281
 o2:bX B 288
 o3:bX B 295
 f1:ba B 281 Kz 1 Fo
 f2:ba B 288 kY 1 ui
 f3:ba B 295 Kx 2 Fl
abbrev jh(j:Nat):#[fk]:=[(ak "lineno",#[ad,j]),(ak "instream",.ob 4),(ak "whitespace",.str [10,9,13,32]),(ak "pushback",.ob 5)]
abbrev dr(j:Nat)(g:Tx)(l:#[bz]):#[l]:=[#[bg,cY,g],rG 1 0,sl 2 1,bQ 3 [(ak "read",.ob 2)],kd 4 3,#[aq,l],bQ 6 (jh j),de 7 298 6 ab]
theorem TU:(jh j).lookup (ak "lineno")=aa (.int j):=by rfl
theorem adq:(jh j).lookup (ak "instream")=#[V,4]:=by rfl
theorem Ax:(jh j).lookup (ak "whitespace")=aa (.str [10,9,13,32]):=by rfl
theorem TX:(jh j).lookup (ak "pushback")=#[V,5]:=by rfl
theorem TY{j r:Nat}:jk (jh j) (ak "lineno") #[T,r]=jh r:=by rfl
theorem oz:iN (bQ n j0):=λO o⟨_,b,_,h,_⟩g a S=>#[l1]
theorem HO:iN (de n C d X):=λO o⟨_,b,h,_⟩g a S=>h.Vk S b
theorem Ri:iN (rG n i):=λO o⟨_,_,a,_,h⟩g a S=>#[l1]
theorem Sj:iN (kd n d):=λO o⟨_,_,_,_,_⟩g a S=>#[l1]
theorem Wt:iN (sl n c):=λO o⟨_,_,f0,a,_,h,_⟩g a S=>#[l1]
theorem qh:#[b7,ah l,L]:=λx z=>by obtain⟨c,_,rfl⟩:=bI.mp z;trivial
theorem cw.cons(h:fl L e0)(k:iN e0)(r:#[hF])(t:#[gO,l,fl L e0/\iN e0/\#[hF]]):∀(i:Nat)(x:Ob),#[I,(e0::l),x]->fl L x/\iN x/\∀R,x≠.raw R|0,x,e=>by cases e;exact⟨h,k,r⟩|i+1,x,e=>t i x (by simpa using e)
theorem kf:cw 8 (dr j g l):=#[aJ,cw.cons zw .list #[av] #[iq,#[ao,1<=8],Ri,#[ao,2<=8],Wt,#[iq,#[ao,3<=8],oz,#[ao,4<=8],Sj,cw.cons qh .list #[av] #[iq,#[ao,6<=8],oz,#[ao,7<=8],HO,λi e0 h=>by simp at h]]]]
theorem cZ.hP(h:cw L s)(k:bD L r):cZ L r s (.ret r) v s:=cZ.of k (eC h.len.symm) (λi e0 _ e=>(h.ok i _ e).1) (hY (eC h.len))
theorem cZ.zf(h:cw L s):cZ L .none s .next v s:=⟨.inr #[bS],trivial,eC h.len.symm,λi e0 _ e=>(h.ok i _ e).1,hY (eC h.len)⟩
variable{B:Bs}{w:aD}{d0 g0 r0:#[n]}
theorem Wx(F:#[w])(G:#[W])(L:fj B r0)(j:Nat)(g:Tx)(l:#[bz])(R:g.length<=aB)(Z:j<2^40):bG B w 5 281 [.ob 7] (dr j g l) #[cV,g.take,1] (dr (j+if g.head?=aa 10 then 1 else 0) g.tail l):=by refine#[gT,F,L.f1,#[ak],#[p]];have m:=L.cl;have l0:=L.n1;have o:=L.n2;have i:=BY;have n:=LL;have Q:=@TY j;cases g with
|nil=>
 run_tac au.aI
 exact cZ.hP kf trivial
|cons c I=>
 by_cases X:c=10
 .subst X;run_tac au.aI
  .trivial
  .exact cZ.hP kf trivial
 .have y0:(List.take 1 (c::I)==[10])=ai:=by simpa using X
  have e:(j+if(c::I).head?=aa 10 then 1 else 0)=j:=by simp[X]
  rw[e];run_tac au.aI
  exact cZ.hP kf trivial
end
theorem BF(x:V):ej 0 x=x:=by cases x<;>first|rfl|simp[ej]
theorem BE(e0:Ob):aX 0 e0=e0:=by have h:=funext BF;cases e0 with|list X=>simp[aX,h]|tup X=>simp[aX,h]|raw R=>rfl|rel n R M=>have e:=gM n;simp only[aX,nz];congr 1|hp n R P T M k=>have e:=gM n;simp only[aX,nz];congr 1
theorem fY.le{H m0:#[g]}(h:#[cg,fY,f,Y,r,m0])(a:n<=m):fY B w m S f Y U H r m0:=λA J O l s R g=>h A _ _ _ s R (g.le a)
theorem bG.rE(h:bG B w n f z g r l)(q:S.fz=0)(j:cw L g)(a:cw L l)(X:#[b7,z,L]):fY B w n S #[cb] z U (g++v0) r (l++v0):=by
 have M:=j.len;subst M;refine bG.call 0 h (eC q) (#[z]) (λi e0 e=>?_) j a X ?_ (BF r) ?_;.rw[BE,gM,cG #[U,e]];exact e
 .rw[show ej 0=id from funext BF,te]
 .unfold gX;rw[show aX 0=id from funext BE,te,Ng,hX,gM,a.len,CD]
def eN(c:Nat):Bool:=#[ax,c∈([10,9,13,32]:Tx)]
def dU:Tx->Tx->Tx×Tx|a,[]=>(a,[])|a,c::r=>if eN c then(a,r)else#[b8,c,92,match r with|[]=>(a,[])|d::z=>dU (a++[d]) z,dU (a++[c]) r]
def fs:Tx->Tx->Tx×Tx|a,[]=>(a,[])|a,c::r=>#[b8,c,34,(a,r),#[b8,c,92,match r with|[]=>(a,[])|d::z=>fs (a++[d]) z,fs (a++[c]) r]]
def cx:Tx->Tx×Tx|[]=>([],[])|c::r=>if eN c then cx r else#[b8,c,34,fs [] r,#[b8,c,92,match r with|[]=>([],[])|d::z=>dU [d] z,dU [c] r]]
abbrev eM(T:Nat)(g:Tx)(f:Bool):#[l]:=[#[bg,cY,g],rG 1 0,sl 2 1,bQ 3 [(ak "read",.ob 2)],kd 4 3,#[aq,[]],bQ 6 (jh (T-g.count 10)),de 7 298 6 ab,mT 8 281 7,kc 9 8 f]
theorem Yb{r:Tx}(h:(c::r).count 10<=T):(T-(c::r).count 10+if(c::r).head?=aa 10 then 1 else 0)=T-r.count 10:=by
 rw[List.count_cons]at h⊢;by_cases X:c=10;.simp at h⊢;omega
 simp_all
section
variable{B:Bs}{w:aD}{d0 g0 r0:#[n]}
theorem Bc(F:#[w])(G:#[W])(L:fj B r0)(l:T<2^40){g:Tx}(R:g.length<=aB)(X:g.count 10<=T)(U:#[g])(f:Bool):fY B w 5 (dD kY) #[K,281] [.ob 7] U (eM T g f) #[cV,g.take,1] (eM T g.tail f):=by
 have h:=Wx (w:=w) F G L (T-g.count 10) _ [] R (jR (ahs _ _) l);have e:(T-g.count 10+if g.head?=aa 10 then 1 else 0)=T-g.tail.count 10:=by cases g with|nil=>rfl|cons c r=>exact Yb X
 rw[e]at h;exact bG.rE h rfl kf kf #[b1,by rw[aY.mp z];exact#[ao,7<8]]
theorem rT:cZ 8 #[bo] (dr (T-g.count 10) g []) (.ret (.str t)) v (eM T g f):=cZ.of trivial #[z] (λi e0 P e=>(kf).ok i _ (by
 have:(eM T g f)[i]?=(dr (T-g.count 10) g [])[i]?:=by rw[#[co,eM T _ _=dr _ _ _++[mT 8 _ 7,kc 9 8 _]],cG (#[f])]
 rw[<-this];exact e)|>.1) rfl
end
theorem Ay:∀(p0 r:Tx),(∀x∈p0,eN x=ae)->cx (p0++r)=cx r|[],_,_=>rfl|c::p0,r,h=>by show(if eN c then cx (p0++r)else _)=_;rw[if_pos (h c #[bJ]),Ay _ r #[gj]]
structure iy(c:Nat):Prop where
 ws:eN c=ai
 q:(c==34)=ai
 b:(c==92)=ai
def KD(g:Nat)(f:Tx):Prop:=#[h7,f,f=[]->g=1]
theorem adn(c:Nat):eN c=(#[ax,c=10]||#[ax,c=9]||#[ax,c=13]||#[ax,c=32]):=by unfold eN;grind
theorem Ft{a f r:Tx}(u:∀x∈f,eN x=ae)(n:f≠[]):∃p0,#[h7,p0,dU a (f++r)=(a,p0++r)]:=by cases f with|nil=>exact#[dm,n]|cons s f=>refine#[as,λx z=>u x #[br,z],?_];rw[dU.eq_def];simp[u s #[bJ]]
theorem uu{a r:Tx}{c:Nat}(h:iy c):dU a (c::r)=dU (a++[c]) r:=by rw[dU.eq_def];simp[h.ws,h.b]
theorem vU{a r:Tx}{c:Nat}(h:iy c):fs a (c::r)=fs (a++[c]) r:=by rw[fs.eq_def];simp[h.q,h.b]
theorem Fs{a r:Tx}:dU a (92::d::r)=dU (a++[d]) r:=#[p]
theorem Wq{a r:Tx}:fs a (92::d::r)=fs (a++[d]) r:=#[p]
theorem Wr{a r:Tx}:fs a (34::r)=(a,r):=by rw[fs.eq_def];simp
theorem Ub{r:Tx}(h:iy c):cx (c::r)=dU [c] r:=by rw[cx.eq_def];simp[h.ws,h.b,h.q]
theorem IC{r:Tx}:cx (92::d::r)=dU [d] r:=#[p]
theorem Ud{r:Tx}:cx (34::r)=fs [] r:=#[p]
theorem JM:iy 40:=#[b9]
theorem JN:iy 41:=#[b9]
theorem JO:iy 59:=#[b9]
theorem QV{a r:Tx}:dU a (34::r)=dU (a++[34]) r:=by rw[dU.eq_def];simp[eN]
theorem Ug(M:#[ac]){c g:Nat}(h:iy c)(X:g<=2){f r:Tx}(u:KD g f):∃p0,#[h7,p0,cx (fc (aA M c) g++f++r)=(aA M c,p0++r)]:=by
 have O:c≠34:=by have:=h.q;simpa using this
 have Z:c≠92:=by have:=h.b;simpa using this
 have o:∀d,d∈([[],#[eV],[92,41],#[f6],[92,92,59],[92,34]]:#[bz])->∃p0,#[h7,p0,cx (fc (d++[c]) g++f++r)=(d++[c],p0++r)]:=by
  intro d a;rcases(show g=0\/g=1\/g=2 by omega)with rfl|rfl|rfl
  .have n:f≠[]:=λe=>by have:=u.2 e;cases this
   simp only[bc,gu,or_false]at a;rcases a with rfl|rfl|rfl|rfl|rfl|rfl;all_goals simp only[fc,lH,hX,fA,cQ];simp[O,Z,lH,Ub h,IC,uu h,uu JM,uu JN,uu JO,Fs,QV];exact Ft u.1 n
  .refine#[bL,f,u.1];simp only[bc,gu,or_false]at a;rcases a with rfl|rfl|rfl|rfl|rfl|rfl;all_goals simp only[fc,mN,mm,MI,hX,fA,cQ];simp[O,Z,Ud,vU h,vU JM,vU JN,vU JO,Wq,Wr]
  .have n:f≠[]:=λe=>by have:=u.2 e;cases this
   simp only[bc,gu,or_false]at a;rcases a with rfl|rfl|rfl|rfl|rfl|rfl;all_goals simp only[fc,pE,mm,MI,hX,fA,cQ];simp[IC,Fs];exact Ft u.1 n
 refine o (gz (M c)) ?_;generalize M c=k;match k with|0=>decide|1=>decide|2=>decide|3=>decide|4=>decide|k+5=>show[92,34]∈_;decide
def hT(f:Nat):Tx:=if f/3=0 then[32]else if f/3=1 then[9]else if f/3=2 then[13,10]else if f=10 then[]else[10]
theorem WX(h:f<12):KD (f%3) (hT f):=by
 have:∀f<12,#[h7,hT f,hT f=[]->f%3=1]:=by decide
 exact this f h
def eE(M A:#[ac]):Nat->#[j]->Tx|_,[]=>[]|k,c::r=>fc (aA M c) (A k%3)++hT (A k)++eE M A #[u] r
theorem FE(M A:#[ac]):∀(k:Nat)(l:#[g])(c:Nat),eE M A k (l++[c])=eE M A k l++(fc (aA M c) (A (k+l.length)%3)++hT (A (k+l.length)))|k,[],c=>by simp[eE]|k,d::r,c=>by show fc _ _++hT _++eE _ _ _ (r++[c])=_;rw[FE _ _ _ r c,show k+1+r.length=k+(d::r).length by simp;omega];show _=fc _ _++hT _++eE _ _ _ r++_;simp only[cQ]
theorem IE(M A:#[ac]){r v0 p0:Tx}(h:iy c)(t:A k<12)(d:∀x∈p0,eN x=ae):∃w,#[h7,w,cx (p0++(eE M A k (c::r)++v0))=(aA M c,w++(eE M A #[u] r++v0))]:=by rw[Ay _ _ d];show∃w,_/\cx (fc _ _++hT _++eE _ _ _ r++v0)=_;rw[cQ _ _];exact Ug _ h #[f] (WX t)
def ig:#[cU]|0=>#[gL]|1=>[34,101,110,100]|_=>[101,110,100,10]
theorem Ue(d:∀x∈p0,eN x=ae):cx (p0++ig t)=(#[gL],[]):=by rw[Ay _ _ d];match t with|0=>decide|1=>decide|t+2=>rfl
theorem uv:∀(n:Nat)(r a:Tx),r.length<=n->(dU a r).2<:+r
 |_,[],_,_=>xr _
 |0,c::r,_,h=>absurd h #[z]
 |n+1,c::r,a,h=>by
  have Y:=by simpa using h
  rw[dU.eq_def];dsimp;split;.exact jq _ _
  .split;.cases r with|nil=>exact CO|cons d z=>exact#[nB,(uv n _ _ (by simp at Y;omega))]
   .exact(uv n r _ Y).trans (jq _ _)
theorem Ba:∀(n:Nat)(r a:Tx),r.length<=n->(fs a r).2<:+r
 |_,[],_,_=>xr _
 |0,c::r,_,h=>absurd h #[z]
 |n+1,c::r,a,h=>by
  have Y:=by simpa using h
  rw[fs.eq_def];dsimp;split;.exact jq _ _
  .split;.cases r with|nil=>exact CO|cons d z=>exact#[nB,(Ba n _ _ (by simp at Y;omega))]
   .exact(Ba n r _ Y).trans (jq _ _)
theorem ID:∀r:Tx,(cx r).2<:+r
 |[]=>xr _
 |c::r=>by
  rw[cx.eq_def];dsimp;split;.exact(ID r).trans (jq _ _)
  .split;.exact(Ba _ r _ #[aO]).trans (jq _ _)
   .split;.cases r with|nil=>exact CO|cons d z=>exact#[nB,(uv _ _ _ #[aO])]
    .exact(uv _ r _ #[aO]).trans (jq _ _)
def fW:Nat->Tx->Tx|0,t=>t|k+1,t=>(cx (fW k t)).2
theorem Bk(t:Tx):∀k,fW k t<:+t|0=>xr _|k+1=>(ID _).trans (Bk t k)
theorem WI(t:Tx)(k:Nat):#[a2,(fW k t),t.length]:=(Bk t k).length_le
theorem WG(t:Tx)(k:Nat):(fW k t).count 10<=t.count 10:=(Bk t k).sublist.count_le _
theorem Bj(M A:#[ac])(t:∀k,A k<12)(y:#[iY])(v0:Tx):∀k,k<=L.length->∃p0,#[h7,p0,fW k (#[jN]++v0)=p0++(eE M A k (L.drop k)++v0)]|0,_=>⟨[9,10],by decide,#[p]⟩|k+1,h=>by obtain⟨p0,N,a0⟩:=Bj _ _ t y _ k #[f];rw[ny h]at a0;obtain⟨w,G,E⟩:=IE _ _ (y _ (jQ _)) (t k) N;refine#[as,G,?_];show(cx _).2=_;rw[a0,E]
theorem WJ(M A:#[ac])(t:∀k,A k<12)(y:#[iY])(v0:Tx)(C:k<L.length):(cx (fW k (#[jN]++v0))).1=aA M L[k]:=by obtain⟨p0,N,a0⟩:=Bj _ _ t y _ k (ea C);rw[ny _]at a0;obtain⟨w,G,E⟩:=IE _ _ (y _ (jQ _)) (t k) N;rw[a0,E]
theorem WH(M A:#[ac])(t:∀k,A k<12)(y:#[iY])(e:Nat):cx (fW L.length (#[jN]++ig e))=(#[gL],[]):=by obtain⟨p0,N,a0⟩:=Bj _ _ t y _ _ #[aO];rw[a0,qw];exact Ue N
namespace au
open Lean Meta Elab Tactic
def sub:List Nat->er->en er
 |[],_=>throwError"path"
 |k::r,l=>do
  let aa S<-gF 400 l|throwError"block"
  let aa s:=S[k]?|throwError"place"
  let s<-bY s
  match r with
   |[]=>return s
   |q::r=>
    let b:=if s.isAppOf ``PySem.Stmt.For then(if q==0 then 2 else 3)else if q==0 then 1 else 2;sub r (s.getArg! b)
def rR(c:hi)(p:List Nat):iS Unit:=do(<-nu).assign (<-sub p (mkConst c))
end au
noncomputable def Sg:aL:=by run_tac au.rR `Mine.ui [3,0,1,0,0]
noncomputable def Se:aL:=by run_tac au.rR `Mine.ui [3,0,1,1,2]
theorem AZ{r:Tx}:fs a (c::r)=if c==34 then(a,r)else if c==92 then fs (a++r.take 1) r.tail else fs (a++[c]) r:=by cases r<;>simp[fs]
theorem zc{r:Tx}:dU a (c::r)=if eN c then(a,r)else if c==92 then dU (a++r.take 1) r.tail else dU (a++[c]) r:=by cases r<;>simp[dU]
theorem Uc{r:Tx}:cx (c::r)=if eN c then cx r else if c==34 then fs [] r else if c==92 then dU (r.take 1) r.tail else dU [c] r:=by rw[cx.eq_def];cases r<;>simp[dU]
section
variable{B:Bs}{w:aD}{d0 g0 r0:aq->Option af}
theorem Wi(F:aK B d0 g0)(G:Gl B d0 g0)(L:fj B r0)(j:Nat)(g:Tx)(l:List _)(t:Tx)(R:l.length<2^20):bG B w 3 295 [.ob 7,.str t] (dr j g l) .none (dr j g (l++[t])):=by
 refine bG.dM F L.f3 ((rfl)) rfl rfl rfl (rfl) rfl rfl rfl ?_;have m:=L.cl;have l0:=L.n4;have i:=wG;have N:(ah l).length<=aB:=by simp[ah,aB];omega
 run_tac au.aI
 rw[(by simp[ah]:ah _++[.str t]=ah (l++[t]))];exact cZ.zf kf
theorem Wb(F:aK B d0 g0)(G:Gl B d0 g0)(L:fj B r0)(j:Nat)(g:Tx)(l:List _)(t:Tx)(R:l.length<2^20):bG B w 3 288 [.ob 7] (dr j g (t::l)) (.str t) (dr j g l):=by
 refine bG.dM F L.f2 ((rfl)) rfl rfl rfl ((rfl)) rfl rfl rfl ?_;have m:=L.cl;have l0:=L.n4;have i:=wG;have N:(ah (t::l)).length<=aB:=by simp[ah,aB];omega
 run_tac au.aI
 exact cZ.hP kf trivial
theorem dz(h:n<=2^20):n<=aB:=aH h (by decide)
theorem qk{r:Tx}(h:r.count 10<=T):r.tail.count 10<=T:=by cases r with|nil=>exact h|cons c r=>exact aH (List.count_le_count_cons ..) h
theorem Wp(F:aK B d0 g0)(G:Gl B d0 g0)(L:fj B r0){T:Nat}(l:T<2^40){h0:bJ->List (Option V)->List Ob->Prop}{h r:Tx}{E:Option V}(e:h.length+r.length<=2^20)(P:r.count 10<=T)(Q:∀t z v,fs h r=(t,z)->h0 (.ret (.str t)) v (eM T z ae))(A:∀t E,fs h r=(t,[])->h0 .next [aa (.ob 7),aa (.str t),aa (.ob 9),E,ab] (eM T [] ai)):aj B w 6 (dD kY) [Sg] [aa (.ob 7),aa (.str h),aa (.ob 9),E,ab] (eM T r ae) h0:=by have m:=L.cl;have o:=L.n3;have q:=L.m1;have n:=wH;have S:=BZ;have b:=λj=>@Ax j;obtain⟨⟨b0,M,o0,m0,C⟩,d⟩:=L.o1;have Y:∃q0,B.heap.get? 281=aa q0/\q0.cls=.type "function"/\q0.data=.func M:=⟨_,o0,m0,C⟩;have y:=λ(g:Tx)(R:g.length<=aB)(X:g.count 10<=T)U f=>(Bc (w:=w) F G L l R X U f);have c0:=λ(g:Tx)(R:g.length<=aB)(X:g.count 10<=T)U f=>((y g R X U f).le (by decide:5<=6)).s;refine aj.zV (d:=9) 3 (r.length+1) (c:=λk v s=>∃H x E,k=H.length+1/\x.length+H.length<=2^20/\H.count 10<=T/\fs x H=fs h r/\v=[aa (.ob 7),aa (.str x),aa (.ob 9),E,ab]/\s=eM T H ae) (Ev.name 2 rfl rfl (by decide+kernel)) (zx rfl) rfl (.inl rfl) ⟨r,h,E,rfl,e,P,rfl,rfl,rfl⟩ ?_ (λ_ _=>rfl);rintro k v s⟨g,x,J,rfl,N,a0,a,rfl,rfl⟩;cases g with
|nil=>refine⟨ab,eM T [] ai,ix.last rfl rfl (aT _) o0 C d (y [] (dz (by simp)) a0 _ ae) rfl rfl rfl,?_⟩;have:=A x J (by rw[<-a,fs]);show aj B w 6 (dD kY) [] _ _ _;exact aj.nil (aj.nil this)
|cons c g=>
 have I:(c::g).length<=aB:=dz (by omega);refine⟨aa (.str [c]),eM T g ae,ix.item rfl rfl o0 C d (y (c::g) I a0 _ ae) rfl (by simp),by simp,?_⟩;have p:g.count 10<=T:=qk a0;have i:g.length<=aB:=aH (du _) I;simp only[cc]at N;by_cases O:c=34
 .subst O;run_tac au.aI
  exact Q _ _ _ (by rw[<-a,AZ,if_pos (by decide)])
 .have y0:(([c]:Tx)==[34])=ai:=by simpa using O
  by_cases Z:c=92
  .subst Z;have u:x.length+(g.take 1).length<=aB:=dz (by rw[bH];omega);run_tac au.aI
   exact⟨g.tail.length+1,by rw[tc,cc];omega,g.tail,_,_,rfl,by rw[aV,bH,tc];omega,qk p,by rw[<-a,AZ,if_neg (by decide),if_pos (by decide)],rfl,rfl⟩
  .have O0:(([c]:Tx)==[92])=ai:=by simpa using Z
   have u:x.length+([c]:Tx).length<=aB:=dz (by simp;omega);run_tac au.aI
   exact⟨g.length+1,by simp,g,_,_,rfl,by simp;omega,p,by rw[<-a,AZ,if_neg (by simpa using O),if_neg (by simpa using Z)],rfl,rfl⟩
theorem Fq(F:aK B d0 g0)(G:Gl B d0 g0)(L:fj B r0){T:Nat}(l:T<2^40){h0:bJ->List (Option V)->List Ob->Prop}{h r:Tx}{E:Option V}(e:h.length+r.length<=2^20)(P:r.count 10<=T)(Q:∀t z v,dU h r=(t,z)->h0 (.ret (.str t)) v (eM T z ae))(A:∀t E,dU h r=(t,[])->h0 .next [aa (.ob 7),aa (.str t),aa (.ob 9),E,ab] (eM T [] ai)):aj B w 6 (dD kY) [Se] [aa (.ob 7),aa (.str h),aa (.ob 9),E,ab] (eM T r ae) h0:=by have m:=L.cl;have o:=L.n3;have q:=L.m1;have n:=wH;have S:=BZ;have b:=λj=>@Ax j;obtain⟨⟨b0,M,o0,m0,C⟩,d⟩:=L.o1;have Y:∃q0,B.heap.get? 281=aa q0/\q0.cls=.type "function"/\q0.data=.func M:=⟨_,o0,m0,C⟩;have y:=λ(g:Tx)(R:g.length<=aB)(X:g.count 10<=T)U f=>(Bc (w:=w) F G L l R X U f);have c0:=λ(g:Tx)(R:g.length<=aB)(X:g.count 10<=T)U f=>((y g R X U f).le (by decide:5<=6)).s;refine aj.zV (d:=9) 3 (r.length+1) (c:=λk v s=>∃H x E,k=H.length+1/\x.length+H.length<=2^20/\H.count 10<=T/\dU x H=dU h r/\v=[aa (.ob 7),aa (.str x),aa (.ob 9),E,ab]/\s=eM T H ae) (Ev.name 2 rfl rfl (by decide+kernel)) (zx rfl) rfl (.inl rfl) ⟨r,h,E,rfl,e,P,rfl,rfl,rfl⟩ ?_ (λ_ _=>rfl);rintro k v s⟨g,x,J,rfl,N,a0,a,rfl,rfl⟩;cases g with
|nil=>refine⟨ab,eM T [] ai,ix.last rfl rfl (aT _) o0 C d (y [] (dz (by simp)) a0 _ ae) rfl rfl rfl,?_⟩;have:=A x J (by rw[<-a,dU]);show aj B w 6 (dD kY) [] _ _ _;exact aj.nil (aj.nil this)
|cons c g=>
 have I:(c::g).length<=aB:=dz (by omega);refine⟨aa (.str [c]),eM T g ae,ix.item rfl rfl o0 C d (y (c::g) I a0 _ ae) rfl (by simp),by simp,?_⟩;have p:g.count 10<=T:=qk a0;have i:g.length<=aB:=aH (du _) I;simp only[cc]at N;by_cases O:eN c=ae
 .have y0:(decide (c∈([10,9,13,32]:Tx)))=ae:=O;run_tac au.aI
  exact Q _ _ _ (by rw[<-a,zc,if_pos O])
 .have y0:(decide (c∈([10,9,13,32]:Tx)))=ai:=by simpa[eN]using O
  by_cases Z:c=92
  .subst Z;have u:x.length+(g.take 1).length<=aB:=dz (by rw[bH];omega);run_tac au.aI
   exact⟨g.tail.length+1,by rw[tc,cc];omega,g.tail,_,_,rfl,by rw[aV,bH,tc];omega,qk p,by rw[<-a,zc,if_neg (by decide),if_pos (by decide)],rfl,rfl⟩
  .have O0:(([c]:Tx)==[92])=ai:=by simpa using Z
   have u:x.length+([c]:Tx).length<=aB:=dz (by simp;omega);run_tac au.aI
   exact⟨g.length+1,by simp,g,_,_,rfl,by simp;omega,p,by rw[<-a,zc,if_neg O,if_neg (by simpa using Z)],rfl,rfl⟩
theorem SE(F:aK B d0 g0)(G:Gl B d0 g0)(L:fj B r0)(T:Nat)(g:Tx)(R:g.length<=2^20)(n:T<2^40)(X:g.count 10<=T):bG B w 7 288 [.ob 7] (dr (T-g.count 10) g []) (.str (cx g).1) (dr (T-(cx g).2.count 10) (cx g).2 []):=by
 refine bG.dM F L.f2 (by decide+kernel) rfl rfl rfl (by decide+kernel) rfl rfl rfl ?_;have m:=L.cl;have l0:=L.n4;have q:=L.n3;have r:=L.m1;have p:=wG;have o:=wH;have S:=BZ;have b:=λj=>@TX j;have i:=λj=>@Ax j;obtain⟨⟨Y,P,o0,m0,C⟩,d⟩:=L.o1;have Q:∃q0,B.heap.get? 281=aa q0/\q0.cls=.type "function"/\q0.data=.func P:=⟨_,o0,m0,C⟩;have A:=λ(g:Tx)(R:g.length<=aB)(X:g.count 10<=T)U f=>(Bc (w:=w) F G L n R X U f);have b0:=λ(g:Tx)(R:g.length<=aB)(X:g.count 10<=T)U f=>((A g R X U f).le (by decide:5<=6)).s;have J:∀G0 E0,Ev B w 6 (dD kY) (.Attribute (.Name (ak "self") G0) (ak "_read_char") E0) [aa (.ob 7),aa (.str []),ab,ab,ab] (dr (T-g.count 10) g []) (.ob 8) (dr (T-g.count 10) g []++[mT 8 281 7]):=λG0 E0=>Ev.QO m (Ev.name 0 rfl rfl (by decide+kernel)) (i:=7) (d:=6) (j0:=jh (T-g.count 10)) (e0:=de 7 298 6 ab) rfl cy.de rfl (by decide) rfl r o0 m0 d S (by decide+kernel) (λ_=>rfl) (λ_ _=>rfl) rfl rfl;run_tac au.aI
 refine aj.zV (d:=9) 3 (g.length+1) (c:=λk v s=>(∃H E,k=H.length+1/\H.length<=2^20/\H.count 10<=T/\cx H=cx g/\v=[aa (.ob 7),aa (.str []),aa (.ob 9),E,ab]/\s=eM T H ae)\/∃E t,k=0/\cx g=(t,[])/\v=[aa (.ob 7),aa (.str t),aa (.ob 9),E,ab]/\s=eM T [] ai) (Ev.name 2 rfl rfl (by decide+kernel)) (zx (l0:=9) (j:=8) (f:=ae) rfl) rfl (.inl rfl) (.inl ⟨g,ab,rfl,R,X,rfl,rfl,rfl⟩) ?_ (λ_ _=>rfl);rintro k v s(⟨H,M,rfl,N,a0,a,rfl,rfl⟩|⟨M,t,rfl,N,rfl,rfl⟩)
 .cases H with
 |nil=>
  refine⟨ab,eM T [] ai,ix.last rfl rfl (aT _) o0 C d (A [] (dz (by simp)) a0 _ ae) rfl rfl rfl,?_⟩;have l:cx g=([],[]):=by rw[<-a,cx]
  rw[l];show aj B w 6 (dD kY) [] _ _ _;run_tac au.aI
  exact rT
 |cons c H=>
  have I:(c::H).length<=aB:=dz (by omega);refine⟨aa (.str [c]),eM T H ae,ix.item rfl rfl o0 C d (A (c::H) I a0 _ ae) rfl (by simp),by simp,?_⟩;have y:H.count 10<=T:=qk a0;have x:H.length<=aB:=aH (du _) I;simp only[cc]at N;rw[Uc]at a;by_cases O:eN c=ae
  .have y0:(decide (c∈([10,9,13,32]:Tx)))=ae:=O;rw[if_pos O]at a;run_tac au.aI
   exact⟨H.length+1,by simp,.inl ⟨H,_,rfl,by omega,y,a,rfl,rfl⟩⟩
  .have y0:(decide (c∈([10,9,13,32]:Tx)))=ai:=by simpa[eN]using O
   rw[if_neg O]at a;by_cases Z:c=34
   .subst Z;rw[if_pos (by decide)]at a;run_tac au.aI
    refine Wp F G L n (by simp;omega) y (λt z v e=>?_) λt E e=>?_;.show cZ 8 (.str (cx g).1) (dr (T-(cx g).2.count 10) (cx g).2 []) (.ret (.str t)) v (eM T z ae);rw[a.symm.trans e];exact rT
    .exact aj.nil ⟨0,by simp,.inr ⟨E,t,rfl,a.symm.trans e,rfl,rfl⟩⟩
   .have O0:(([c]:Tx)==[34])=ai:=by simpa using Z
    rw[if_neg (by simpa using Z)]at a;by_cases h:c=92
    .subst h;rw[if_pos (by decide)]at a;have u:([]:Tx).length+(H.take 1).length<=aB:=dz (by rw[bH];simp;omega);run_tac au.aI
     case C0=>exact Q
     refine Fq F G L n (by rw[aV,bH,tc];simp;omega) (qk y) (λt z v e=>?_) λt E e=>?_;.show cZ 8 (.str (cx g).1) (dr (T-(cx g).2.count 10) (cx g).2 []) (.ret (.str t)) v (eM T z ae);rw[a.symm.trans e];exact rT
     .exact aj.nil ⟨0,by simp,.inr ⟨E,t,rfl,a.symm.trans e,rfl,rfl⟩⟩
    .have U0:(([c]:Tx)==[92])=ai:=by simpa using h
     rw[if_neg (by simpa using h)]at a;have u:([]:Tx).length+([c]:Tx).length<=aB:=dz (by simp);run_tac au.aI
     refine Fq F G L n (by simp;omega) y (λt z v e=>?_) λt E e=>?_;.show cZ 8 (.str (cx g).1) (dr (T-(cx g).2.count 10) (cx g).2 []) (.ret (.str t)) v (eM T z ae);rw[a.symm.trans e];exact rT
     .exact aj.nil ⟨0,by simp,.inr ⟨E,t,rfl,a.symm.trans e,rfl,rfl⟩⟩
 .refine⟨ab,eM T [] ai,ix.over rfl,?_⟩;rw[N];show aj B w 6 (dD kY) [] _ _ _;run_tac au.aI
  exact rT
end
section
variable{k:mz}{w:aD}{E:#[E]}{h a0:bk}{g:#[c5]}{d:hK}{t:Nat}{h0:gw}
variable{l0 q:aq}{C N x:ao}{J0 v0:#[L]}{i:#[bw]}{P:#[L]}{I0:#[eL]}{F0:#[a7,ao]}{H0 A0 t0 x0 L0:#[bP]}{F T:String}{w0:ck}
theorem uD{A:aR}{r0:#[n]}{m:#[L]}{G:ao}{c0:ck}{y:#[bP]}{Q:#[E]}(H:#[f8])(B:bg (.type T) "__init__"=av y)(c:#[bl,C,eu l0 q C N J0 v0 ae i P ai I0 F0 H0 A0 t0 x0 L0 F])(U:#[dT])(a:#[eC,"__init__",G])(d0:#[bl,G,c0])(p:c0.cls=.type "function")(Z:#[eD,h.get?,a0.get?])(z:a0.get? x=aa w0)(b0:w0.cls=.ref C)(u:∀(n:aR)(R:#[aG,mA]),R (.ok #[ct,.ret,x]) #[bu,a0,t]->jv #[cP] n (.call (.builtin F) #[Y,.ref C::m]) R #[bt])(O:aw #[cP] (A.under (.builtin "type.__call__" #[Y,.ref C::m])) #[cM,dQ,G,#[am]::m] (λr L=>r=.none/\#[bN,x,L]) E #[bu,a0,t]):#[eb,#[cM,dQ,C,m]]:=by
 have S:=tc_lookup;have M:=tc_bind (.ref C);have l:#[kO,C,"type"]:=#[M,c];have J:=Z _ _ c;have X:a0.Ns N r0:=let⟨o,f,s,e,r⟩:=U;⟨o,f,s,Z _ _ e,r⟩;have v:=Z _ _ d0;have I:(iC C::v0).contains (.ref C)=ae:=by simp
 refine gi (Pr ?_);show#[cQ,#[cM,callAny,C,_]];repeat(any_goals(first|assumption|rfl|wp_step))
 refine#[aJ,?_];refine codeAny_call_builtin_at (xV _ #[C]) entry_typeCall (wpAny_check_type_call_sub c ?_);unfold Builtin.«type.__call__»;repeat(first|with_reducible refine gx c ?_|with_reducible refine PX c ?_|wp_step)
 refine u _ _ ?_;show#[cQ,_];unfold yq;repeat(first|with_reducible refine gx z ?_|(with_reducible refine jX J ?_;rw[I])|wp_step)
 rw[b0];repeat(first|(with_reducible refine jX J ?_;rw[I])|wp_step)
 rw[b0];refine ja J X H B ?_;rw[a];refine cf (ag ?_);unfold bindSpecial;refine ag (nS (T:="function") #[as,v,p] ?_);rw[#[aQ,if_pos]];refine az (ag (dk O (λr L Y=>?_) λ_ _ x=>x));obtain⟨rfl,j⟩:=Y;wp_walk;exact j
end
section
variable{B:Bs}{w:aD}{n m k F0 t0:Nat}{S:Gm}{d0 g0:#[n]}{U x0:#[o]}{H b0 o0 w0 m0:#[l]}{J:aN}{O:#[s]}{a b c o:aP}{i0 y0 p:aZ}{l:#[y]}{h0:#[ay]}
theorem YU(C:ao)(m:#[g]):(xU "type.__call__" #[Y,.ref C::m]).weight=1:=#[p]
theorem YO(C:ao)(m:#[g]):(xU "type.__call__" #[Y,.ref C::m]).cUnits=1:=#[p]
theorem Cx.typeCall(h:#[eZ]):Cx n (A.under (.builtin "type.__call__" #[Y,.ref C::d])):=by
 refine#[bL,h.handled,?_];.have:=h.depth;show A.depth+(xU _ _).weight+n<_;rw[YU];omega
 .have:=h.units;show A.units+(xU _ _).cUnits+8*n+8<_;rw[YO];omega
theorem zo(y:z.any (·.1)=ai)(h:aw M A (yo #[K,C] ae z []) (λx k0=>(∃o d,k0.heap.get? C=aa o/\o.cls=.type "type"/\o.data=.cls d)/\aw M A (dQ #[K,C] x.pos x.kw) Q E k0) E s):#[ey,lI i0 #[K,C] [] z []]:=by refine#[b6,dk h (λx k0 N=>#[a3,dI]) λ_ _ x=>x];obtain⟨⟨o,d,p,H,Z⟩,X⟩:=N;simp only[y,MB,sO,hX];refine ag ?_;refine#[bf,kM,p];rw[Z];refine#[bI,iZ,#[as,p,H],tc_lookup];refine az (ag (dk X (λr m Y=>#[b6,EB (az Y)]) λ_ _ x=>x))
theorem sL:UniqKeys #[]:=.nil
theorem Ev.aea{C Y0:ao}{r0:#[n]}{x:aq}{F:List aP}{Y:#[D]}{r:Nat}(m:hc B C "object" [.type "object"] "object.__new__" "object.__getattribute__" r0)(G:cJ B w (n+1) S #[bQ] #[K,C])(u:cv F=ae)(I:cu B w (n+1) S F U H Y b0)(P:#[eC,"__init__",Y0])(C0:bX B Y0)(X:bW B w n S #[K,Y0] (.ob (b0.length+1)::Y) U (b0++[bQ 0 [],#[lj]]) .none o0)(i:b0.length+1=r):#[hc,#[cR,#[bQ],F],.ob r,o0]:=λA J O s Q E g M q=>by
 subst i;refine ib (G A J O U H s _ E g M ?_);rw[dn i0 J u];refine zo (fV J F) (eK (#[dU,I,λl k0 Z d t=>?_]));obtain⟨l0,w0,N,J0,I0,F0,H0,A0,t0,x0,L0,v,h0,m0,n0⟩:=m.ex;have v0:=#[aL,d.rel.gh,v,m0];have E0:k0.heap.Ns N r0:=#[dG,h0.at',d.rel.gh,n0];obtain⟨⟨q0,f0,y0,N0,S0⟩,G0⟩:=C0;have U0:=#[aL,d.rel.gh,y0,G0];refine#[a4,⟨_,_,v0,rfl,rfl⟩];obtain⟨a,a0,R0,s0,Z0⟩:=k0;have T0:DK "object.__new__":=DF;have k:aC B S J Z U (b0++[bQ 0 []]) ⟨a,a0,R0,s0,Z0⟩ (Z++[a.objs.size]) ⟨a.push #[aR,"dict",.dict,#[]],a0,R0,s0,Z0⟩:=aC.push (t:=s0) d.rel rfl ⟨aT _,#[],0,rfl,λe e0=>#[aN,e0,#[z]],sL,λy _=>rfl,λy x f=>by cases f⟩ #[av] λn R c0 _ o f0 c u0=>by rw[#[aT]]at c;grind
 have Q0:Z.length=b0.length:=d.rel.len;have d0:aC B S J (Z++[a.objs.size]) U (b0++[bQ 0 []]++[#[lj]]) ⟨a.push #[aR,"dict",.dict,#[]],a0,R0,s0,Z0⟩ (Z++[a.objs.size]++[#[oh,a.push]]) ⟨#[il,a.push,{cls:=.ref C,dict:=aa a.objs.size,data:=.plain}],a0,R0,s0,Z0⟩:=aC.push (t:=s0) k.rel rfl ⟨by simp[Q0],rfl,rfl,hG _,a.objs.size,#[R],rfl⟩ #[av] λn R c0 _ o f0 c u0=>by rw[#[aT]]at c;cases c;cases u0
 have T:#[oh,a.push]=a.objs.size+1:=by rw[cH]
 have j0:=k.trans d0;rw[T]at j0;refine uD (x:=a.objs.size+1) tr (y:=aa (.builtin "object.__init__")) (by rw[cB,cA];kernel_rfl) v0 E0 P U0 N0 (#[jq]) (by rw[<-T];exact#[aT]) rfl (λM0 R M=>yl (xV _ T0.quiet) (Ep T0 v0 (DZ T0 v0 E0 P M))) ?_;have z:(Z++[a.objs.size]++[a.objs.size+1])[b0.length+1]?=aa (a.objs.size+1):=by rw[dZ (by simp[Q0])];simp[Q0]
 have X0:aM (VR (Z++[a.objs.size]++[a.objs.size+1])) l Y:=t.mono λ_ _ r=>r.pre j0.pre;refine X _ J _ (.ref (a.objs.size+1)::l) _ _ E g.typeCall (by rw[show b0++[bQ 0 [],#[lj]]=b0++[bQ 0 []]++[#[lj]]by simp];exact j0.rel) (.cons #[M,z] X0) λg0 L j p0 O0=>⟨O0,q _ L j ((d.trans j0).trans ?_) #[M,gU p0.pre z]⟩;exact p0
end
theorem Mg:∀(u0:#[g])(p:aZ)(s:fR),tB M S (fQ u0 J) (λf p L=>match f with|.next=>tB M S (fQ j0 J) Q E p L|f=>Q f p L) E p s->tB M S (fQ (u0++j0) J) Q E p s|[],p,s,h=>h|x::u0,p,s,h=>by rw[Ea,OY]at h;rw[fA,Ea,OY];refine DM M _ _ (λf P L c0=>?_) (λ_ _ _ c0=>c0) p s h;cases f with|next=>exact Mg _ _ _ c0|brk=>exact c0|cont=>exact c0|ret v=>exact c0
theorem Me(h:aw M A (fQ u0 J) (λf L=>match f with|.next=>aw M A (fQ j0 J) Q E L|f=>Q f L) E s):#[ey,fQ (u0++j0) J]:=λS p H=>Mg _ p s (DM M _ _ (λf P L c0=>by cases f with|next=>exact c0 _ _ H|brk=>exact c0|cont=>exact c0|ret v=>exact c0) (λ_ _ _ c0=>c0) p s (h _ p H))
def yP:Ob:=.rel 0 (λ_ _=>True) λ_ _ _ _ h=>h
section
variable{B:Bs}{w:aD}{n m k F0 t0:Nat}{S:Gm}{d0 g0:#[n]}{U x0:#[o]}{H b0 o0 w0 m0:#[l]}{J:aN}{O:#[s]}{a b c o:aP}{i0 y0 p:aZ}{l:#[y]}{h0:#[ay]}
theorem aj.Xd{i j:Nat}{e1:lD}{r0:tu}{j0:bq}{R0:#[bw]}(T:#[aI,#[cc]])(f:#[bv,o,#[ce]])(P:#[bc,o0,.raw,gc e1 r0 j0 R0])(e0:S.fz<=i)(v:∀J,#[hH,#[d5,ak "read",p]])(t0:#[nO]++[#[lA]]=m0)(I:#[hM]):#[eU,[.Attribute o (ak "read") p]]:=by
 subst t0;refine#[e0,λo n0 L=>#[d6,n0=U,L=#[nO]++[#[lA]]],?_,λn0 L h=>#[R],λo n0 L f h=>#[dl,f]];refine Ek (#[dU,T,λu0 k0 s0 m Z=>f A J s0 k0 _ E g m.rel λC0 X F0 N y0=>?_]) (v J);obtain⟨x,b,rfl⟩:=y0;have o1:=Z.pre N.pre;obtain⟨y,r,rfl⟩:=o1;obtain⟨q0,T0,f0,rfl,F,G,E0,Z0,b1,a1,k1,i1⟩:=N.rel.store i x _ b P;have k:=N.rel.len;have Q0:i<o0.length:=#[U,P];have d1:j<o0.length:=by rw[<-k];exact#[U,r]
 refine eR ?_;obtain⟨a0,x0,m1,H0,A1⟩:=X;refine Sv T0 rfl rfl rfl λc0 p0 C f1 N0 g0=>?_;have w0:aC B S J F0 U (o0++[bQ 0 []]) ⟨a0,x0,m1,H0,A1⟩ #[lG] ⟨a0.push #[aR,"dict",.dict,#[]],x0,m1,H0,A1⟩:=aC.push (t:=H0) N.rel rfl ⟨aT _,#[],0,rfl,λe A0=>#[aN,A0,#[z]],sL,λy _=>rfl,λy x r=>by cases r⟩ #[av] λn R v0 _ o f0 f L0=>by rw[#[aT]]at f;grind
 have B1:#[I,#[lG],x]:=by rw[#[G,cG]];exact b
 have x1:#[lG][o0.length]?=aa a0.objs.size:=by simp_all
 have y1:#[aW,#[lG],y]:=by rw[#[G,cG]];exact r
 have c1:gb B J a0 x:=N.rel.code i x _ b P;obtain⟨h1,d0,S0,l0,X0,t1,u1,z1⟩:=N0;have U0:a0.objs.size<c0.objs.size:=bj l0;have p1:∀v0:bk,v0.get? x=aa #[jD]->¬bt v0 x:=λv0 e=>bt.no e (λY q t d=>by cases d) λY n d=>by cases d
 have G0:=aC.LX (t:=p0) (c0:=c0) (z:=kd (o0.length+1) o0.length) (e0:=#[lA]) w0.rel B1 x1 (cz Q0) e0 #[f] (by rw[cH];exact U0) (λc o n1 l1 e=>C c o n1 l1 e) (p1 _ (bM _ T0)) (AR #[gr] rfl) ⟨_,f1,by simp[k],hG _,rfl,#[bC,f0],_,x1,rfl⟩ ⟨h1,l0,by rw[aV];omega,d0,S0,X0,t1,u1,λz e0=>?_,λz u e0=>?_⟩ ?_ ?_
 .have J0:=w0.trans G0;have e:((o0++[bQ 0 []]).set i (kd (o0.length+1) o0.length)).set o0.length (bQ (j+1) [(ak "read",.ob j)])=#[nO]++[#[lA]]:=by rw[List.set_append_left _ _ Q0,Nb _ _ #[z]];simp
  rw[e]at J0;exact q .next _ _ _ _ _ #[b9] #[cW,m.trans,N,J0] rfl
 .have:z≠ak "read":=λe=>by subst e;simp[mo]at e0
  exact(z1 z).trans (if_neg this)
 .have:z=ak "read":=by
   by_cases h:z=ak "read";.exact h
   .rw[fO,beq_eq_false_iff_ne.mpr h]at e0;cases e0
  subst this;cases e0;exact⟨.ref y,(z1 _).trans (if_pos rfl),#[au,y,y1],hG j⟩
 .intro o g1 f L0;rw[f1]at f;cases f;cases L0;obtain⟨⟨c,M0,I0,⟨q1,O0,Y,v1,w1,Y0,j1,r1⟩,s1⟩,_⟩:=c1 _ f0 T0 rfl;cases w1;exact⟨c,M0,I0,⟨c,O0,Y,v1,rfl,C _ _ (λe=>p1 a0 T0 ⟨O0,e▸Y0,.inl ⟨Y,_,v1,j1,r1,s1⟩⟩) (cz (bj Y0)) (bM _ Y0),j1,r1⟩,s1⟩
 .intro o g1 f L0;rw[l0]at f;cases f;rw[X0]at L0;cases L0
end
noncomputable def za:#[y]:=by run_tac au.dc ["_netrclex","__init__"]
noncomputable def Bv:bq:=by run_tac au.dd ["_netrclex","__init__"]
noncomputable def nV:#[y]:=by run_tac au.dc ["_law_lexer"]
noncomputable def wd:bq:=by run_tac au.dd ["_law_lexer"]
noncomputable def adf:lD:=by run_tac au.mP ["_law_lexer","stream"] 1
noncomputable def adh:#[y]:=by run_tac au.dc ["_law_lexer","stream"]
noncomputable def aed:bq:=by run_tac au.dd ["_law_lexer","stream"]
noncomputable def VP:aZ:=by run_tac au.mP ["_law_lexer","stream"] 9
noncomputable def VO:aZ:=by run_tac au.mP ["_law_lexer","read"] 9
noncomputable def mZ(c P:ao):fD:=⟨c,P,VP,"stream","_law_lexer.<locals>.stream"⟩
noncomputable def mY(c P:ao):fD:=⟨c,P,VO,"read","_law_lexer.<locals>.read"⟩
abbrev IB:#[fk]:=[(ak "lineno",#[ad,1]),(ak "instream",.ob 0),(ak "whitespace",.str [10,9,13,32]),(ak "pushback",.ob 3)]
section
variable{B:Bs}{w:aD}{d0 g0 r0:#[n]}
theorem TZ(F:#[w])(G:#[W])(L:fj B r0)(J:ba B 274 Bv 2 za):ep B w 3 274 [.ob 2,.ob 0] 1 [yP,bQ 0 [],de 2 298 1 ab] .none [yP,bQ 4 IB,de 2 298 1 ab,#[d2]]:=by
 refine ep.dM (L:=4) F J #[ak] rfl rfl rfl #[p] rfl rfl rfl #[i] #[i] ?_;have m:=L.cl;have l0:=L.n1;have o:=L.n2;have N:=L.n3;have e:=L.n4;have a:=BY;have n:=LL;have S:=wH;have T:=wG;run_tac au.aI
 refine#[ds,.inr #[bS],trivial,by simp,λi e0 P Z=>?_];match i,Z with|0,Z=>cases Z;exact aT _|1,Z=>cases Z;exact aO _|2,Z=>cases Z;exact#[ao,2<=4]|3,Z=>cases Z;intro x z;cases z|i+4,Z=>simp at Z
theorem Uy(F:#[w])(G:#[W])(R:O.length<=aB)(n c P y:ao):aj B w 3 (ey wd 0 [mZ n c,mY P y]) (nV.take 4) [#[P,O],ab,ab,ab,ab,ab] [] #[fw,v=[#[P,O],#[ag],#[V,2],#[bj],ab,ab],s=[#[bg,cY,O],kd 4 3,.raw (gc yI (.stmts rA) oD [ak "signs"]),bQ 3 [(ak "read",.ob 2)]]]:=by
 run_tac au.aI
 refine aj.Xd #[kF,2] #[b5,1] rfl #[aB] #[aj] rfl (aj.nil #[b9])
end
def km(B:Bs)(w:aD)(n:Nat)(f:ao)(z:#[D])(r:V)(g:#[l]):Prop:=∀(A:aR)(l:#[L])(s:fR)(Q E:#[E]),#[bk]->#[c4]->#[fo,l,z]->(∀u L c,Fx B [] s L->#[hk]->cI B c g L.heap->(∀a∈c,#[Q,a])->VR c u r->Q u L)->#[jm,l]
section
variable{B:Bs}{w:aD}{n m k F0 t0:Nat}{S:Gm}{d0 g0 r0:#[n]}{U x0:#[o]}{H b0 o0 w0 m0:#[l]}{J:aN}{O:#[s]}{a b c o:aP}{i0 y0 p:aZ}{l:#[y]}{h0:#[ay]}
theorem km.call(h:km B w n f z r g)(j:n<=m)(I:z.all bR=ae)(X:∀e0∈g,#[hF])(Y:ej H.length r=f0)(y:H++g.map (aX H.length)=m0):bW B w m S #[cb] z U H f0 m0:=λA J O l s Q E c M t q=>by
 subst Y y;refine h A _ s Q E (c.le j) M.gh (t.atoms (yN I)) λu L d0 N x v a0 T=>?_;have d:=M.len;have k:(O++d0).drop _=d0:=CD;refine q u _ (O++d0) #[j5,N.widen #[ch]] ?_;.rw[mM M.cX]at Z;exact(cK.mp Z).imp id λq=>a0 b q
 .refine aF.ow (M.keep N.size _ N.keep #[av] x) N.size M.jj M.ji M.fT a0 v.nodup (by rw[aQ];exact v.len) M.gh.1 (λi a e0 P Z=>?_) λi a e0 P Z=>?_;.rw[cb]at Z;obtain⟨b0,c0,rfl⟩:=dP.mp Z;obtain⟨⟨o,F,p⟩,_⟩:=v.store i a _ P c0;refine#[aS,F,?_];rw[<-d,sA (#[z]),k];exact p
  .rw[cb]at Z;obtain⟨b0,c0,rfl⟩:=dP.mp Z;obtain⟨_,C⟩:=v.store i a _ P c0;refine(wi.mpr C).ob λR e=>?_;cases b0 with|raw G=>exact#[dm,X _ (bC c0) _]|_=>cases e
 .rw[<-d];exact oF.mpr (by rw[k];exact T)
theorem kv.Kh{o:ck}(h:kv n j0 O o)(U:∀y,#[er,(f.lookup y)]->#[er,(j0.lookup y)])(u:∀y x,f.lookup y=aa x->∃e,j0.lookup y=aa e/\bD g x/\∀v,#[bn,e]->VR j v x):kv g f j o:=by obtain⟨a,s,N,a0,G,E,r⟩:=h;refine⟨_,_,N,a0,G,λy m=>E y (U y m),λy x m=>?_⟩;obtain⟨e,F,d,Q⟩:=u y x m;obtain⟨v,S,H,_⟩:=r y _ F;exact⟨v,S,Q v H,d⟩
theorem TS(h:(jh j).lookup y=aa x):(y=ak "lineno"/\x=.int j)\/(y=ak "instream"/\x=.ob 4)\/(y=ak "whitespace"/\x=.str [10,9,13,32])\/(y=ak "pushback"/\x=.ob 5):=by
 by_cases N:y=ak "lineno";.simp_all
 .rw[fO,beq_eq_false_iff_ne.mpr N]at h;by_cases a0:y=ak "instream";.simp_all
  .dsimp at h;rw[fO,beq_eq_false_iff_ne.mpr a0]at h;by_cases G:y=ak "whitespace";.simp_all
   .dsimp at h;rw[fO,beq_eq_false_iff_ne.mpr G]at h;by_cases E:y=ak "pushback";.subst E;simp_all
    .dsimp at h;rw[fO,beq_eq_false_iff_ne.mpr E]at h;cases h
theorem TV(h:#[er,((jh j).lookup y)]):#[er,(IB.lookup y)]:=#[R]
theorem TG(F:#[w])(G:#[W])(L:fj B r0)(y3:#[eC,"__init__",274])(X:bX B 274)(n2:ba B 274 Bv 2 za){A1 h0 v1 U0:ao}(f1:ba B 309 wd 1 nV [mZ A1 h0,mY v1 U0]){y1:Tx}(c0:y1.length<=2^20):#[mr,y1,y1]:=λA s0 s Q E S d1 b1 q=>by
 have R1:hW s.heap [] s0 [.atom (.str y1)]:=by cases b1 with|cons n a0=>cases a0;exact .atom n .nil
 refine Gy (n:=5) F f1 rfl rfl rfl rfl #[C] S d1 R1 .nil #[av] λJ k0 w2 m2 c3 F1 Q2 h3 e1=>?_;rw[show nV=nV.take 4++nV.drop 4 from(hF _ _).symm];refine Me (Uy F G (dz c0) A1 h0 v1 U0 _ J [] k0 _ w2 (m2.le #[i]) c3 λo v o0 f X0 n1⟨n,a0,b0⟩P U=>?_);subst n a0 b0;cases U;have t:=P.rel;have L3:nV.drop 4=[.Return (aa #[bO,#[aP,"_netrclex",⟨278,11,278,20⟩],[.Name (ak "stream") ⟨278,21,278,27⟩],⟨278,11,278,28⟩]) ⟨278,4,278,28⟩]:=rfl;rw[L3];refine lN (yB ?_);refine ib ((W.glob F G 5 9 rfl rfl #[C]:cJ B w 5 _ #[aP,"_netrclex",_] #[K,298]) _ J n1 _ _ X0 _ w2 m2 P.rel ?_);rw[dn _ J rfl];refine zo (fV J _) (eK ((cu.cons #[aD,1] .nil:cu B w 5 _ [.Name (ak "stream") _] _ _ [.ob 1] _) _ J n1 X0 _ w2 m2 P.rel λk4 h1 u1 g1 s1=>?_));have e3:=P.trans g1;have b2:=e3.rel;obtain⟨g,A2,v2,T2,rfl⟩:∃a b c d,u1=[a,b,c,d]:=by match u1,b2.len with|[a,b,c,d],_=>exact#[ds,a,b,c,d]
 cases s1 with
 |cons s1 g2=>
  cases g2;obtain⟨j4,Q1,rfl⟩:=s1;cases Q1;obtain⟨l0,J1,N,J0,I0,F0,H0,A0,t0,x0,L0,Y0,l1,q1,w1⟩:=L.cl.ex;have C1:=#[aL,b2.gh,Y0,q1];have O1:h1.heap.Ns N r0:=#[dG,l1.at',b2.gh,w1];obtain⟨⟨q0,f0,M1,e2,s2⟩,U1⟩:=X;have G2:=#[aL,b2.gh,M1,U1];refine#[a4,⟨_,_,C1,rfl,rfl⟩];obtain⟨a4,Y3,E3⟩:=b2.store 0 g _ rfl rfl;obtain⟨i4,d3,_,_,f2,d2,d4,Q3,P3⟩:=b2.store 1 A2 _ rfl rfl;cases Q3;obtain⟨g4,A3,f3,rfl,G0,E0,N0,M,S0,R0,T0,T⟩:=b2.store 2 v2 _ rfl rfl;obtain⟨h4,X3,_,r3⟩:=b2.store 3 T2 _ rfl rfl;obtain⟨⟨v3,F3,w3,G3,H3⟩,I3⟩:=b2.code 2 v2 _ rfl rfl _ f3 A3 rfl;obtain⟨M2,Z2,x1⟩:=b2.ns;obtain⟨a3,f4,y0,Q0⟩:=x1 3 (.ob 0) rfl;have J3:(ey wd 0 [mZ A1 h0,mY v1 U0]).sc.names[3]?=aa (ak "signs",tz):=rfl;rw[J3]at y0;cases y0
  obtain⟨l,p3,o1,⟨Z3,z3,x3⟩,O3⟩:∃l p3,J.cells.lookup (ak "signs")=aa l/\h1.heap.IsCell l (aa p3)/\VR [g,A2,v2,T2] p3 (.ob 0):=by
   rcases Q0 with⟨h,_⟩|⟨_,c,v,c1,i1,p1⟩;.cases h
   .exact⟨c,v,c1,i1,p1⟩
  obtain⟨H,m1,rfl⟩:=O3;cases m1
  have P2:f3.closure=[(ak "signs",l)]:=by match a1:f3.closure,R0 with
   |[(x,a)],R0=>
    have m:x=ak "signs":=by simpa using R0
    subst m;have:=I3 (_,a) (by rw[a1];exact CM _);rw[o1]at this;cases this;rfl
  have X1:=mem_of_lookup o1;obtain⟨t3,c4,u3,_⟩:=b2.cp _ X1;have B1:=b2.nodup;have p2:∀a∈[g,A2,v2,T2],#[Q,a]:=λa O=>aH F1.size ((e3.new a O).resolve_left #[fW]);have F2:#[Q,l]:=h3 _ X1
  have g3:Fx B [] s h1:=F1.trans e3.fx λy m0=>.inr (by
   rcases bc.mp m0 with rfl|m0;.exact Q2
   .rcases cK.mp m0 with m0|m0;.obtain⟨p,C0,rfl⟩:=bI.mp m0;exact h3 p (iT.mp C0).1
    .cases m0)
  have j1:=b2.fT;have N3:l<h1.heap.objs.size:=bj z3;have b3:=b2.gh.1;have M3:=b2.gh;have o2:=b2.high;have i2:gH B h1.heap A2:=b2.code 1 A2 _ rfl rfl;clear Z2 x1 Q0 b2 e3 g1 P;obtain⟨b0,p1,q3,h2,s3⟩:=h1;have B2:DK "object.__new__":=DF;have L1:#[eD,b0.get?,#[iJ].get?]:=#[jq];have Y1:#[iJ].objs.size=b0.objs.size+2:=by rw[cH,cH]
  have z2:#[iJ].get? (b0.objs.size+1)=aa #[kQ]:=by have:#[iJ].get? #[oh,b0.push]=aa #[kQ]:=#[aT];rwa[cH]at this
  have J2:#[iJ].get? b0.objs.size=aa #[aR,"dict",.dict,#[]]:=bM _ #[gr];refine uD (x:=b0.objs.size+1) tr (y:=aa (.builtin "object.__init__")) (by rw[cB,cA];kernel_rfl) C1 O1 y3 G2 e2 L1 z2 rfl (λc2 R t=>yl (xV _ B2.quiet) (Ep B2 C1 (DZ B2 C1 O1 y3 t))) ?_;have Y2:A2<b0.objs.size:=j1 A2 #[z]
  have I2:cI B [A2,b0.objs.size,b0.objs.size+1] [yP,bQ 0 [],de 2 298 1 ab] #[iJ]:=by
   refine⟨rfl,jn.mpr ⟨λh=>?_,by simp⟩,λa O=>?_,λi a e0 n a0=>?_⟩
   .simp only[bc,gu,or_false]at h;rcases h with h|h;.exact cz Y2 h
    .exact cz (kq Y2) h
   .simp at O;rcases O with rfl|rfl|rfl;.exact o2 _ #[z]
    .exact b3
    .exact eI b3
   .match i,n,a0 with|0,n,a0=>cases n;cases a0;exact⟨#[aC,L1 _ _ d3,aT _,trivial],i2.keep (λo e=>by rw[L1 _ _ d3]at e;cases e;exact d3) λb o e _ _=>L1 b o e⟩|1,n,a0=>cases n;cases a0;exact#[ik,#[ml,J2,λe k1=>#[aN,k1,#[z]],(λy x m0=>by cases m0)],(by rw[J2]at U;cases U;cases z1)]|2,n,a0=>cases n;cases a0;exact#[ik,⟨_,z2,bx rfl,rfl,rfl,hG 1,_,rfl,rfl⟩,(by rw[z2]at U;cases U;cases z1)]|i+3,n,a0=>simp at n
  refine gi (TZ F G L n2 _ [A2,b0.objs.size,b0.objs.size+1] [.ref (b0.objs.size+1),.ref A2] ⟨_,p1,q3,h2,s3⟩ _ ((m2.le #[ao,4<=5]).typeCall) (M3.grow (by rw[Y1];exact hZ _ _) L1) I2 (.cons #[M,rfl] #[aY,#[M,rfl]]) λu C r2 C0 P1 t1 T1 G1 i0=>#[a4,i0]);obtain⟨u2,rfl⟩:∃u2,r2=[A2,b0.objs.size,b0.objs.size+1,u2]:=by obtain⟨v0,rfl⟩:=C0;match v0,G1.len with|[u2],_=>exact#[bC,u2]
  obtain⟨⟨q2,N2,R3⟩,_⟩:=G1.store 1 _ _ rfl rfl;obtain⟨⟨w0,t2,U3⟩,_⟩:=G1.store 2 _ _ rfl rfl;obtain⟨⟨I,k2,T3⟩,_⟩:=G1.store 3 _ _ rfl rfl;have i3:=G1.nodup
  have C3:b0.objs.size+2<=u2:=by
   rcases P1 u2 #[z]with h|h
   .exfalso;simp only[jn,bc,gu,or_false,not_or]at h i3;rcases h with h|h|h;.exact i3.1.2.2 h.symm
    .exact i3.2.1.2 h.symm
    .exact i3.2.2.1 h.symm
   .rw[<-Y1];exact h
  have R2:#[ge,b<b0.objs.size,b0.get? b=aa o,C.heap.get? b=aa o]:=λb o Z e n0=>t1.keep b o (L1 b o e) (λp0=>by
   rcases bc.mp p0 with h|p0;.exact cz Z h
   .exact cz (kq Z) (aY.mp p0)) n0
  have j2:#[iG]:=#[n9];have u0:g<b0.objs.size:=j1 g #[z];have j0:v2<b0.objs.size:=j1 v2 #[z];have L2:T2<b0.objs.size:=j1 T2 #[z];have j3:l<b0.objs.size:=N3;refine q _ C [g,l,v2,T2,A2,u2,b0.objs.size,b0.objs.size+1] ?_ T1 #[bM,rfl,?_,?_] ?_ #[M,rfl]
  .have c1:Fx B [] _ ⟨#[il,b0.push,#[kQ]],p1,q3,h2,s3⟩:=g3.trans (Fx.fU (X:=[]) (t:=h2) (by rw[Y1];exact hZ _ _) #[dJ,L1]) λy m0=>nomatch m0;refine c1.trans t1 λy m0=>.inr ?_;rcases bc.mp m0 with rfl|m0;.exact g3.size
   .rw[aY.mp m0];exact eI g3.size
  .simp only[jn,bc,gu,or_false,not_or,not_false_eq_true,List.nodup_nil,and_true]at B1 t3⊢;obtain⟨⟨Z1,N1,E1⟩,⟨C2,m3⟩,n3⟩:=B1;obtain⟨r1,H1,x2,O2⟩:=t3;have l2:∀x y:Nat,x<b0.objs.size->b0.objs.size<=y->¬x=y:=λx y n a0 e=>by omega
   exact⟨⟨λe=>r1 e.symm,N1,E1,Z1,l2 _ _ u0 #[f],l2 _ _ u0 #[aO],l2 _ _ u0 (du _)⟩,⟨x2,O2,H1,l2 _ _ j3 #[f],l2 _ _ j3 #[aO],l2 _ _ j3 (du _)⟩,⟨n3,λe=>C2 e.symm,l2 _ _ j0 #[f],l2 _ _ j0 #[aO],l2 _ _ j0 (du _)⟩,⟨λe=>m3 e.symm,l2 _ _ L2 #[f],l2 _ _ L2 #[aO],l2 _ _ L2 (du _)⟩,⟨l2 _ _ Y2 #[f],l2 _ _ Y2 #[aO],l2 _ _ Y2 (du _)⟩,⟨hj (show b0.objs.size<u2 by omega),hj (show b0.objs.size+1<u2 by omega)⟩,cz (hG _)⟩
  .intro a O;simp only[bc,gu,or_false]at O;rcases O with rfl|rfl|rfl|rfl|rfl|rfl|rfl|rfl;.exact o2 _ #[z]
   .exact u3
   .exact o2 _ #[z]
   .exact o2 _ #[z]
   .exact o2 _ #[z]
   .exact aH b3 (by show b0.objs.size<=_;omega)
   .exact b3
   .exact eI b3
  .intro i a e0 O Z;match i,O,Z with
   |0,O,Z=>cases O;cases Z;obtain⟨Y,k,e,h⟩:=E3;refine⟨⟨a4,#[lt,u0,Y3],Y,k,e,(h.atoms λy m0 j e=>?_).mono λ_ _ r=>r.nil _⟩,trivial⟩;obtain⟨c,_,rfl⟩:=bI.mp m0;cases e
   |1,O,Z=>cases O;cases Z;have:=R2 _ _ j3 z3 (j2 _ u3);exact#[ik,⟨Z3,this,by simp,by decide,g,rfl,x3⟩,(by rw[this]at U;cases U;rw[x3]at z1;cases z1)]
   |2,O,Z=>cases O;cases Z;have:=#[lt,j0,A3];refine#[ik,⟨_,this,by simp,by decide,f3,l,rfl,rfl,G0,E0,N0,M,S0,P2,T0,T⟩,?_];rw[this]at U;cases U;cases z1;obtain⟨U2,O0,Y,k3,o3,a2,y2,X2⟩:=G3;cases o3;exact⟨v3,F3,w3,⟨v3,O0,Y,k3,rfl,R2 _ _ (bj a2) a2 w3,y2,X2⟩,H3⟩
   |3,O,Z=>
    cases O;cases Z;have:=#[lt,L2,X3];refine#[ik,#[aC,this,by simp,kv.Kh r3 (λy h=>h) λy x h=>⟨x,h,?_,λv i0=>?_⟩],?_]
    .rw[fO]at h;split at h;.cases h;exact#[ao,2<3]
     .cases h
    .rw[fO]at h;split at h;.cases h;obtain⟨z,e,rfl⟩:=i0;cases e;exact#[M,rfl]
     .cases h
    .obtain⟨Z0,I1,e,_⟩:=r3;rw[this]at U;cases U;rw[e]at z1;cases z1
   |4,O,Z=>cases O;cases Z;have:=#[lt,Y2,d3];exact⟨⟨_,this,by simp,by decide,f2,d2,T2,rfl,P3⟩,i2.keep (λo e=>by rw[this]at e;cases e;exact d3) λb o e _ n0=>R2 _ _ (bj e) e n0⟩
   |5,O,Z=>cases O;cases Z;obtain⟨Y,k,e,h⟩:=T3;exact⟨⟨I,k2,Y,k,e,(h.atoms λy m0 j e=>nomatch m0).mono λ_ _ r=>r.nil _⟩,trivial⟩
   |6,O,Z=>
    cases O;cases Z;obtain⟨e4,B3⟩:=R3;refine#[ik,⟨q2,N2,by simp,kv.Kh B3 (λy h=>TV h) λy x h=>?_⟩,?_]
    .rcases TS h with⟨rfl,rfl⟩|⟨rfl,rfl⟩|⟨rfl,rfl⟩|⟨rfl,rfl⟩;.exact#[aC,rfl,trivial,λv i0=>i0]
     .exact⟨.ob 0,rfl,#[ao,4<6],λv⟨z,e,h⟩=>by cases e;exact#[b4,h]⟩
     .exact#[aC,rfl,trivial,λv i0=>i0]
     .exact⟨.ob 3,rfl,#[ao,5<6],λv⟨z,e,h⟩=>by cases e;exact#[b4,h]⟩
    .obtain⟨Z0,I1,e,_⟩:=B3;rw[N2]at U;cases U;rw[e]at z1;cases z1
   |7,O,Z=>cases O;cases Z;obtain⟨_,M0,E2,_,z,l3,b4⟩:=U3;cases l3;exact#[ik,⟨w0,t2,by simp,M0,E2,by decide,_,rfl,b4⟩,by rw[t2]at U;cases U;exact#[aN,z1,(E2:ll 2 _ ab w0.data).free.2.1 _]]
   |i+8,O,Z=>simp at O
  .intro a O;have H2:#[Q,b0.objs.size]:=g3.size;simp only[bc,gu,or_false]at O;rcases O with rfl|rfl|rfl|rfl|rfl|rfl|rfl|rfl;.exact p2 _ #[z]
   .exact F2
   .exact p2 _ #[z]
   .exact p2 _ #[z]
   .exact p2 _ #[z]
   .exact aH H2 #[f]
   .exact H2
   .exact eI H2
end
theorem gW:jw (.type "list")=av #[ev]:=by rw[mroOf_type];kernel_rfl
theorem Az:#[cY,"list","__getattribute__","list.__getattribute__"]:=by rw[cB,cA];kernel_rfl
theorem adj:#[kn,my "list.__getattribute__"]:=by decide+kernel
theorem AA:#[fn,"__getattr__"]:=by rw[cB,cA];kernel_rfl
theorem XK:#[ls,"list",#[ev]]where
 mro:=gW
 slot:=.of (owner:="object") (n:="__setattr__") #[p] #[i] #[p] #[C] (by first|exact .inl (by decide+kernel)|exact .inr (by decide+kernel)) #[kL]
 entry:=DD
 kind:=by decide+kernel
 split:=by decide+kernel
 hasOwner:=by decide+kernel
 args:=λa b c=>by unfold kB;kernel_rfl
 passes:=λs=>by kernel_rfl
def mE(h:bk)(t:ao)(c:Tx×Tx):Prop:=∃Y n,#[bl,t,⟨#[gD],ab,.seq Y n,#[]⟩]/\#[fo,Y.toList,#[fe,c.1,c.2]]
theorem mE.keep(x:mE h t c)(k:∀o,#[e9,t]->bt h t->#[dw,t]):mE c0 t c:=by obtain⟨Y,n,e,a⟩:=x;exact#[aC,n,k _ e #[as,e,.inr ⟨rfl,_,n,rfl⟩],a]
def hr(B:Bs)(h:bk)(v:af)(c:Tx×Tx):Prop:=∃t,v=.ref t/\(#[ap,t]/\B.lo<=t)/\mE h t c
def nT(B:Bs)(I:#[af])(h:bk)(o:ck):Prop:=∃Y n,o.data=.seq Y n/\aM (hr B h) Y.toList I
theorem nT.mono{B:Bs}(g J:bk)(o:ck)(k:∀b e0,g.get? b=aa e0->bt g b->(#[ap,b]/\B.lo<=b)->J.get? b=aa e0)(x:nT B I g o):nT B I J o:=by obtain⟨Y,n,e,a⟩:=x;exact#[aC,n,e,a.mono λv c⟨t,N,a0,G⟩=>⟨t,N,a0,G.keep λo e c=>k t o e c a0⟩]
def dC(B:Bs)(n d:Nat)(I:#[af]):Ob:=.hp n (λO o=>o.cls=.ref 200/\o.slots=#[]/\d<n/\(∃Y k,o.data=.seq Y k/\#[g9])/\#[ll]) (λt=>#[ap,t]/\B.lo<=t) (nT B I) (λO j o h⟨N,a0,G,E,a,r,m⟩=>⟨N,a0,G,E,a,(h d G).trans r,m⟩) nT.mono
def hA(B:Bs)(I:#[af]):Ob:=.hp 0 (λO o=>∃Y k,o=#[lR]/\#[g9]) (λt=>#[ap,t]/\B.lo<=t) (nT B I) (λO j o h r=>r) nT.mono
theorem cy.acc:cy (dC B n d I) 200 d:=⟨λO o⟨_,N,_,_,_,a,G,E⟩=>⟨N,(λc e=>#[R]),(λc e=>by grind),(λc e=>by grind),a,G,E⟩⟩
theorem uc:iN (dC B n d I):=λO o⟨_,_,_,_,_,_⟩g a S=>#[kN,λp0 n _ X=>by grind]
section
variable{k:mz}{w:aD}{A:aR}{E:#[E]}{h:bk}{g:#[c5]}{d:hK}{t:Nat}{h0:gw}
variable{l0 q:aq}{C N x:ao}{J0 v0:#[L]}{i:#[bw]}{P:#[L]}{j:Bool}{I0:#[eL]}{F0:#[a7,ao]}{H0 A0 t0 x0 L0:#[bP]}{F:String}{o:ck}
theorem Rm{M:Model}{e a b:String}{m:#[L]}{Q:#[aG,Unit]}(R:#[hg])(z:#[cl])(X:#[dh])(c:pa e=aa .method\/pa e=aa .slot)(u:splitId e=aa (a,b))(Z:v0.contains (.type a)=ae)(I:kB e #[Y,#[am]::m])(O:Q () #[bt]):aw M A (lJ e #[Y,#[am]::m]) Q E #[bt]:=by
 have n:(iC C::v0).contains (.type a)=ae:=by rw[sW,Z,sP]
 rcases c with c|c
 all_goals
  simp only[lJ,c,u];unfold yq;repeat(first|(with_reducible rw[X])|(with_reducible refine jX R ?_;rw[n])|wp_step)
  cases H:nJ e with|none=>exact az O|some S=>simp only[kB,H]at I;have a0:oT e S #[Y,#[am]::m]=av ():=I;show aw M A (oT e S #[Y,#[am]::m]) Q E _;rw[a0];exact az O
theorem nZ{l a b:String}(R:#[hg])(z:#[cl])(X:#[dh])(c:pa l=aa .method\/pa l=aa .slot)(u:splitId l=aa (a,b))(Z:v0.contains (.type a)=ae)(I:kB l #[Y,#[am]::m])(y:tR l=ae)(f:kE kL l=aa B)(O:aw #[cP] A.in1 (B #[Y,#[am]::m]) (#[nR]) E #[bt]):#[eb,#[jt,l,#[am]::m]]:=by refine gi (yk y f (Rm R z X c u Z I (dk O (λiL L⟨v,e,T⟩=>?_) λ_ _ e=>e)));subst e;exact T
end
section
variable{B:Bs}{w:aD}{n m k F0 t0:Nat}{S:Gm}{d0 g0 s0:#[n]}{U x0:#[o]}{H b0 o0 w0 m0:#[l]}{J:aN}{O:#[s]}{a b c o:aP}{i0 y0 p:aZ}{l:#[y]}{h0:#[ay]}{I:#[af]}
abbrev ek(B:Bs)(s0:#[n]):Prop:=hc B 200 "list" #[ev] "list.__new__" "list.__getattribute__" s0
theorem aF.acc{i d:Nat}(R:#[cC])(z:#[I,O,x])(P:#[I,H,#[gQ,I]]):∃Y q M0,#[bl,x,#[hW,.ref 200,q]]/\O[d]?=aa M0/\aM (hr B h) Y.toList I/\k<=O.length/\d<k:=by obtain⟨o,N,a0,G,E,r,⟨Y,q,m,_⟩,M0,p,u⟩:=R.store i x _ z P;obtain⟨_,_,l⟩:=R.code i x _ z P;obtain⟨T,Q,F,a⟩:=l o N;rw[m]at F;cases F;obtain⟨c,F0,b,s⟩:=o;dsimp at G E m u;subst G E m u;exact⟨_,q,_,N,p,a,a0,r⟩
theorem hr.keep{c:Tx×Tx}(x:hr B h v c)(k:∀t o,#[ap,t]->#[e9,t]->bt h t->#[dw,t]):hr B c0 v c:=by obtain⟨t,N,a0,G⟩:=x;exact⟨t,N,a0,G.keep λo e c=>k t o a0.1 e c⟩
theorem aC.acc(F:hq B)(R:#[ah])(z:#[I,O,x])(a:#[I,H,#[gQ,I]])(l:S.fz<=i)(p:#[cd,x,#[hW,.ref 200,q]])(E:O[d]?=aa M0)(C:k<=O.length)(j:d<k)(m:aM (hr B s.heap) (f Y).toList u)(t:Nat):#[aV,H.set i #[gQ,u],O,#[cN,s.heap.update x (dB f),t]]:=by have L:=bt.no p (#[en]) #[en];have G:oX x _ #[iW]:=oY ..;obtain⟨Q,y⟩:∃Q,#[iW].get? x=aa ⟨.ref _,aa _,.seq _ Q,_⟩:=#[bF,tx _ p rfl];refine aC.AL R z l G L ⟨_,y,C,rfl,rfl,j,#[cw,_,m.length],_,E,rfl⟩ #[av] (#[en]) λn A P T M r e=>?_;cases e;refine#[nZ,λo f0 e j=>#[R],F.tab];rw[y]at e;cases e;exact#[cw,_,m.mono λv c g=>g.keep λt o _ e X=>(G.2 t λw=>L (w▸X)).trans e]
def Mh(B:Bs)(j:Nat)(c:Tx×Tx):Ob:=.rel (j+1) (λO o=>∃Y n a,o=⟨#[gD],ab,.seq Y n,#[]⟩/\#[fo,Y.toList,#[fe,c.1,c.2]]/\#[aW,O,a]/\B.lo<=a) λO b o h⟨Y,n,a,N,a0,G,E⟩=>⟨Y,n,a,N,a0,(h j (hG j)).trans G,E⟩
theorem Ev.YD{f p:Tx}(h:#[bx,cu,i,#[fe,f,p]])(u:cv i=ae)(C:b0.length=j)(k:b0++[Mh B j (f,p)]=m0):#[aF,.Tuple i M0 i0,#[cc],m0]:=λA J O s Q E g M q=>by
 subst C k;refine yC ?_;rw[#[dE]];refine#[aA,h,λl k0 G c d=>#[a4,by rw[d.length];exact(show 2<=aB by decide)]];have b:(G++[k0.heap.objs.size])[b0.length]?=aa k0.heap.objs.size:=by rw[<-c.rel.len];simp
 refine#[aE,c.trans (aC.push c.rel rfl ⟨by rw[aV,c.rel.len];exact aO _,_,0,_,rfl,?_,b,c.rel.gh.2.2.2⟩ #[av] λ_ _ _ _ o f0 a Z=>?_),#[M,b]];.exact d.atoms λy m j e=>#[R]
 .rw[#[aT]]at a;grind
theorem QE(a b:af):kB "list.append" #[Y,[a,b]]:=Oq _ _
theorem Cl.Qj{i j d:Nat}{f p:Tx}(F:#[w])(m:#[bH])(h:#[I,H,#[gQ,I]])(e:#[aW,H,Mh B j (f,p)])(r:S.fz<=i)(R:I.length<=aB)(v:H.set i #[gQ,#[fc]]=m0):#[gx,"list.append",[.ob i,.ob j],.none]:=λA J O l s Q E b M T q=>by subst v;cases T with
|cons a a0=>cases a0 with
|cons a0 G=>
 cases G;obtain⟨x,z,rfl⟩:=a;obtain⟨t,n0,rfl⟩:=a0;obtain⟨Y,Q0,M0,c,i0,c0,C,Z⟩:=M.acc z h;obtain⟨r0,w0,_,f0,q0,X,rfl,u0,v0,o0⟩:=M.store j t _ n0 e;rw[n0]at v0;cases v0;obtain⟨l0,k0,N,J0,I0,F0,H0,A0,t0,x0,L0,o,L,b0,e0⟩:=m.ex;have j0:=#[aL,M.gh,o,b0];have y0:hr B s.heap #[K,t] (f,p):=⟨t,rfl,⟨M.high t (bC n0),o0⟩,f0,q0,w0,u0⟩;have P:=aC.acc (f:=λx=>x.push (.ref t)) (u:=I++[(f,p)]) F.slt M z h r c i0 C Z (by rw[oK];exact c0.append (.cons y0 .nil)) s.toks;have u:#[g9]:=by rw[<-gG];exact c0.length
 obtain⟨y,g,C0,p0,h0⟩:=s;refine nZ (a:="list") (b:="append") j0 c rfl (.inl #[p]) #[C] #[C] (QE _ _) xY.plain Ow ?_;show#[cQ,(updateSeq x (·.push (.ref t))>>=λ_=>ret .none)];refine ag (yG c rfl (az #[dv,.none,q _ _ O P rfl]))
end
section
noncomputable def Fm:#[y]:=by run_tac au.dc ["_Accumulator","push"]
noncomputable def Ky:bq:=by run_tac au.dd ["_Accumulator","push"]
theorem Yo:#[cY,"list","append","list.append"]:=xY.lookup
abbrev bV(B:Bs)(T:Nat)(I:#[af]):#[l]:=[bQ 0 [(ak "_initial_size",#[ad,T])],dC B 2 0 I]
theorem lP:cw 2 #[bZ]:=#[aJ,cw.cons #[ao,0<=2] oz #[av] (cw.cons #[ao,2<=2] uc #[av] λi e0 h=>by simp at h)]
theorem cZ.ux{H s:#[g]}(h:cw L H)(p:#[nl])(Y:bD L r)(u:s.take L=H):cZ L r H o v s:=⟨p,Y,by have:=h.len;rw[<-u,bH]at this;omega,λi e0 P e=>(h.ok i _ (by rw[<-u,es P];exact e)).1,u⟩
structure gp(s0:#[n]):Prop where
 append:s0 "append"=ab
 rV:s0 "_initial_size"=ab
 push:#[fR,"push",144]
 Wc:#[fR,"pop_from",152]
 pop:#[fR,"pop",160]
 len:#[fR,"__len__",167]
 str:#[fR,"__str__",174]
 reset:#[fR,"reset",182]
 VG:#[fR,"is_onlyws",189]
 count:#[fR,"part_count",197]
 init:#[fR,"__init__",137]
 bool:s0 "__bool__"=ab
 iter:s0 "__iter__"=ab
 zY:s0 "__getitem__"=ab
 Bz:s0 "__setitem__"=ab
variable{B:Bs}{w:aD}{d0 g0 s0:#[n]}{I:#[af]}
theorem Qv(F:#[w])(G:#[W])(v:#[bH])(N:gp s0)(J:ba B 144 Ky 3 Fm)(T:Nat)(f p:Tx)(R:#[eJ]):bG B w 3 144 #[jL] #[bZ] .none (bV B T #[fc]):=by refine#[gT,F,J,#[ak],#[p]];refine#[gZ,Ev.UX v #[b5,0] rfl cy.acc rfl #[i] rfl N.append Yo ON rfl #[aY,Ev.YD (.cons #[b5,1] #[aY,#[b5,2]]) rfl rfl rfl] (Mine.Cl.Qj F v rfl rfl #[aB] (dz R) rfl) #[aj] rfl #[i],aj.nil (cZ.ux lP (.inr #[bS]) trivial rfl)]
end
theorem VJ:#[hD,"__len__","list.__len__"]:=#[p]
theorem VI:#[hD,"__init__","list.__init__"]:=by kernel_rfl
theorem VK:#[hD,"pop","list.pop"]:=by kernel_rfl
theorem YL:#[ir,"list.__len__","wrapper_descriptor"]:=by kernel_rfl
theorem YK:#[ir,"list.__init__","wrapper_descriptor"]:=by kernel_rfl
theorem YM:#[hX,"list.pop"]:=by kernel_rfl
theorem Ux:#[cY,"wrapper_descriptor","__get__","wrapper_descriptor.__get__"]:=by rw[cB,cA];kernel_rfl
theorem Uu:#[cY,"method_descriptor","__get__","method_descriptor.__get__"]:=by rw[cB,cA];kernel_rfl
theorem RU:kE kL "wrapper_descriptor.__get__"=aa Builtin.«wrapper_descriptor.__get__»:=tJ (#[p])
theorem RS:kE kL "method_descriptor.__get__"=aa Builtin.«method_descriptor.__get__»:=tJ (#[p])
theorem Rn(P:String)(a b:af):#[lW,.builtin "list.__len__"]:=by kernel_rfl
theorem Ro(P:String)(a b:af):#[lW,.builtin "list.__init__"]:=by kernel_rfl
theorem Rl(P:String)(a b:af):lJ "method_descriptor.__get__" #[Y,[.builtin "list.pop",a,b]]=av ():=by kernel_rfl
section
variable{k:mz}{w:aD}{A:aR}{E:#[E]}{h:bk}{g:#[c5]}{d:hK}{t:Nat}{h0:gw}
variable{l0 q:aq}{C N x:ao}{J0 v0:#[L]}{i:#[bw]}{P:#[L]}{j:Bool}{I0:#[eL]}{F0:#[a7,ao]}{H0 A0 t0 x0 L0:#[bP]}{F:String}{o:ck}
theorem SG{c:String}{Q:#[E]}(e:#[nb,c.cutAt])(p:∀a b,#[lW,.builtin c])(R:#[e1])(z:#[cl])(X:#[dh])(O:#[kf,#[d3,h.push,"method-wrapper",#[.builtin c,#[am]]]]):#[eb,#[j4,"wrapper_descriptor.__get__",.builtin c]]:=by
 have n:#[n3,#[ev]]:=rfl;refine gi (yk #[C] RU (cN (p _ _) ?_));unfold Builtin.«wrapper_descriptor.__get__»;repeat(first|(with_reducible refine gx z ?_;rw[X])|(with_reducible refine jX R ?_;rw[n])|wp_step)
 rw[e];refine jX R ?_;rw[n];refine az (ag ?_);unfold Ej;exact jA (az O) (by size_fits)
theorem SF{c:String}{Q:#[E]}(e:#[nb,c.cutAt])(Z:Manifest.toldItsClass.contains c=ai)(p:∀a b,lJ "method_descriptor.__get__" #[Y,[.builtin c,a,b]]=av ())(R:#[e1])(z:#[cl])(X:#[dh])(O:#[kf,#[d3,h.push,"builtin_function_or_method",#[.builtin c,#[am]]]]):#[eb,#[j4,"method_descriptor.__get__",.builtin c]]:=by
 have n:#[n3,#[ev]]:=rfl;refine gi (yk #[C] RS (cN (p _ _) ?_));unfold Builtin.«method_descriptor.__get__»;repeat(first|(with_reducible refine gx z ?_;rw[X])|(with_reducible refine jX R ?_;rw[n])|(rw[Z])|wp_step)
 rw[e];refine jX R ?_;rw[n];refine az (ag ?_);unfold Ej;exact jA (az O) (by size_fits)
theorem Yf{j f:ao}{G:aq}{p0:fP}{a l:#[L]}{P y p:String}{Q:#[aG,Fin]}(s:#[bl,j,#[nm]])(H:Looks #[cP] h #[ct,PA,C] ab)(b:Looks #[cP] h #[ct,jw,C] a)(R:(a.dropWhile (·!=.ref f)).drop 1=#[f4]::l)(U:(G==("__class__":aq))=ai)(J:x≠C)(u:#[hD,G,P])(e:#[ir,P,p])(i:#[cY,p,"__get__",y])(O:aw #[cP] A #[j4,y,.builtin P] (λv L=>Q (.done (.ret v)) L) E #[bt]):#[eb,Builtin.«super.__getattribute__» #[Y,[.ref j,.str G p0]]]:=by
 have n:(iC x==iC C)=ai:=by simp[J]
 have c:(#[nm]:ck).data=.fields #[.ref f,#[am],.ref C]:=rfl;have F:(#[.ref f,#[am],.ref C]:#[be])[0]?=aa (.ref f):=rfl;have S:(#[.ref f,#[am],.ref C]:#[be])[1]?=aa (.ref x):=rfl;have M:(#[.ref f,#[am],.ref C]:#[be])[2]?=aa (.ref C):=rfl;unfold Builtin.«super.__getattribute__»;repeat(first|(with_reducible refine dS s c F ?_)|(with_reducible refine dS s c S ?_)|(with_reducible refine dS s c M ?_)|(with_reducible refine ks_wpAny_notOpaque H ?_)|(with_reducible refine Looks.at b ?_;rw[R,lq])|(with_reducible refine cN u ?_)|(with_reducible refine cN e ?_)|(with_reducible refine cN i ?_)|(rw[n,#[c1]];refine dk O (λv L T=>?_) λ_ _ z=>z)|(simp only[U,sO,fX,if_false])|wp_step|dsimp only)
 all_goals assumption
theorem Ye{j:ao}{P y p o:String}{G:aq}{n:dw Bool}{a l:#[L]}{f:ao}{Q:#[aG,af×#[L]]}(s:#[bl,j,#[nm]])(H:Looks #[cP] h #[ct,PA,C] ab)(b:Looks #[cP] h #[ct,jw,C] a)(R:(a.dropWhile (·!=.ref f)).drop 1=#[f4]::l)(U:(G==("__class__":aq))=ai)(J:x≠C)(u:#[hD,G,P])(e:#[ir,P,p])(i:#[cY,p,"__get__",y])(B:∀{A:aR}{E:#[E]}{Q:#[E]},#[bN,h.objs.size,#[m8]]->aw #[cP] A #[j4,y,.builtin P] Q E #[gv])(O:Q (.ref h.objs.size,[]) #[m8]):#[eb,rf #[K,j] G n]:=by have m:=OA.lookup;have r:=aam;have c:∀X,(#[bu,h,X]:fR).TypeIs (.ref j) "super":=λ_=>#[M,s];unfold rf;refine#[bI,iZ,c _,m];show#[lE,my "super.__getattribute__"];rw[if_pos r];refine#[bT,tV (cf (ag (nS (c _) (ag (cN m ?_)))))];refine#[cT,#[co,#[aa,ys (.type "super"),bg (.type "super") "__getattr__",av ab]=av ab]];refine ag (iF (cf ?_));refine dk (Q:=λv L=>v=.ref h.objs.size/\L=#[m8]) (E:=#[fY]) (iG OA (c _) aao (Yf s H b R U J u e i (B #[cS,rfl])) (aap _ _)) (λv L T=>?_) λ_ _ z=>z.elim;obtain⟨rfl,rfl⟩:=T;exact az (az O)
end
theorem VL:(P0.main.scope.names.lookup (ak "super")).isSome=ai:=#[p]
structure jB(B:Bs)(d0 g0:#[n])(f:ao)(j0:bq)(k:Nat)(r0:#[y]):Prop where
 ex:∃f0 o,#[gE,f]/\#[kB]/\#[dW]/\f0.scope=j0/\#[ka]/\#[n0]/\#[k7,(∃c O0 Y t q U,#[gI,c]/\#[al,c]/\B.heap.get? c=aa O0/\O0.data=.fields Y/\Y[1]?=aa (.str f0.qualname t)/\Y[2]?=aa (.str U q)/\((P0.main.file:aq)==U)=ae)/\(∃n,#[nr]/\n.arg=ak "self")/\#[nY,#[c4],f0,((j0.names.map (·.1)).zip l)]]
 out:#[al,f]
 cell:(∃o,#[gE,124]/\o.data=.cell (aa #[K,200]))/\#[al,124]
 sup:#[hx]
 VH:∃S,B.heap.Ns ia S/\#[kP,S]
section
variable{k:mz}{w:aD}{A:aR}{E:#[E]}{s:fR}{i0:aZ}
theorem QZ{b x:ao}{T P:String}{B:qR}{Q:#[E]}(Z:#[cd,b,{cls:=.type T,dict:=ab,data:=.fields #[.builtin P,#[am]],slots:=#[]}])(l:T="method-wrapper"\/T="builtin_function_or_method")(I:∀{A:aR}{Q:#[aG,Unit]}{E:#[E]},Q () s->aw #[cP] A (pb P #[Y,[#[am]]]) Q E s)(y:tR P=ae)(c:kE kL P=aa B)(O:aw #[cP] A.in1 (B #[Y,[#[am]]]) (#[nR]) E s):aw #[cP] A (lI i0 #[K,b] [] [] []) Q E s:=by
 refine#[b6,az (ag (dI ?_))];refine ag (m:=keeperOf (.ref b)) ?_;refine#[bf,kM,Z];have N:(iD T !=iD "method")=ae:=by rcases l with rfl|rfl<;>decide
 have a0:(iD T==iD "builtin_function_or_method"||iD T==iD "method-wrapper")=ae:=by rcases l with rfl|rfl<;>decide
 have G:(iD T==iD "method"||iD T==iD "builtin_function_or_method"||iD T==iD "method-wrapper")=ae:=by rcases l with rfl|rfl<;>decide
 simp only[N,a0,if_true];refine az ?_;refine ag (gi (Pr ?_));refine#[bf,kM,Z];dsimp only;simp only[G,if_true];have q:#[yi P,#[am]][0]?=aa (.builtin P):=rfl;have F:#[yi P,#[am]][1]?=aa (.ref x):=rfl;simp only[q,F,N,if_true];refine ag (I (az ⟨yt y _,yj c ?_⟩));rw[NM y _];refine dk O (λiL L⟨v,e,a⟩=>?_) λ_ _ z=>z;subst e;exact#[b6,EB (az a)]
end
section
variable{w:aD}{A:aR}{E:#[E]}{h:bk}{g:#[c5]}{d:hK}{t:Nat}{h0:gw}
variable{l0 q:aq}{C N x f L l:ao}{J0:#[L]}{i:#[bw]}{P:#[L]}{j:Bool}{I0:#[eL]}{F0:#[a7,ao]}{H0 A0 t0 x0 L0:#[bP]}{F:String}{o q0 O0 p:ck}{f0:gN}
theorem LI{r0:#[y]}{s1 G0 E0 N0:aZ}{G:aq}{n:Arg}{Y:#[be]}{X0:aq}{d1:fP}{m d0 g0 n0:#[n]}{a0 k1 j1 i1:String}{g1:qR}{Q:#[E]}(y:#[e8,f0.scope.kind])(C0:#[hi,f0.scope.names.lookup,"super"])(f1:f0.scope.names.lookup (ak "__class__")=aa .free)(U0:#[oc])(J:#[bl,f,q0])(y0:#[h2])(H:#[nr])(q1:n.arg=ak "self")(n1:#[n0])(p1:#[hO])(Z0:#[hN])(s0:#[gI,l])(e1:#[bl,l,O0])(R0:O0.data=.fields Y)(m0:Y[2]?=aa (.str X0 d1))(r1:((P0.main.file:aq)==X0)=ae)(S:#[gn])(Z:#[go])(Q0:#[hx])(M:h.Ns ia n0)(T0:#[kP,n0])(w1:#[bl,124,p])(M0:p.data=.cell (aa #[K,C]))(j0:h.Ns L m)(h1:m (ak "self")=aa (.ref x))(R:#[e1])(z:#[cl])(X:#[dh])(u0:#[iL])(c1:x≠C)(k0:#[lU])(U:(G==(ak "__class__"))=ai)(b1:#[hD,G,a0])(S0:#[ir,a0,j1])(a1:#[cY,j1,"__get__",k1])(Y0:∀{c0:bk}{t:Nat}{A:aR}{E:#[E]}{Q:#[E]},c0.get? C=aa #[kS,#[ev]]->#[dw,x]->#[bN,c0.objs.size,#[bu,#[d3,c0.push,i1,#[.builtin a0,#[am]]],t]]->#[dS,#[j4,k1,.builtin a0],#[bu,c0,t]])(b0:i1="method-wrapper"\/i1="builtin_function_or_method")(m1:∀{c0:bk}{t:Nat}{A:aR}{Q:#[aG,Unit]}{E:#[E]},c0.get? C=aa #[kS,#[ev]]->#[dw,x]->Q () #[bu,c0,t]->#[dS,pb a0 #[Y,[#[am]]],#[bu,c0,t]])(w0:tR a0=ae)(T:kE kL a0=aa g1)(O:#[mM,g1,λiL u=>∃v,iL=.done (.ret v)/\Q v u]):#[no,#[bO,.Attribute #[bO,#[aP,"super",s1],[],G0] G E0,[],N0]]:=by
 have o1:pf (([]:List aP).length+([]:List qU).length) (jT N0 (jy [] (cM f0 L f))) (kC N0 (kF [] (cM f0 L f)))=ae:=#[p];refine _root_.PySem.wpAt_bind ?_;refine ks_wpAt_super_base (env:=cM f0 L f) C0 f1 U rfl J y0 H s0 e1 R0 m0 r1 VL ?_;refine tC y C0 (xT (env:=cM f0 L f) (by show h.Ns f0.globals d0;rw[p1];exact S) Q0.1 (by show h.Ns f0.builtins g0;rw[Z0];exact Z) Q0.2 #[aJ,?_]);refine yE y f1 (by show f0.closure.lookup _=aa 124;rw[n1];rfl) #[as,w1,M0] ?_;rw[q1];refine ic y U0 j0 h1 ?_;refine Ef R rfl #[aJ,?_];have t1:(iC C::#[ev]).contains (.ref C)=ae:=by simp
 refine ks_wpAny_call_super R rfl z X u0 (λA Q E s k q=>?_) (λa B A0=>?_);.exact jX (k _ _ R) (by rw[t1];exact q)
 refine _root_.PySem.wpAt_of_wpAny (ag (dI ?_));unfold tP tH tQ;simp only[o1,k0,if_true,sM,sP];have u1:a.Ns ia n0:=let⟨o,I,o0,e,r⟩:=M;⟨o,I,o0,A0 _ _ e,r⟩;refine#[b6,Ye (f:=C) (a:=iC C::#[ev]) (l:=[.type "object"]) B (λA Q E s k q=>?_) (λA Q E s k q=>?_) ?_ U c1 b1 S0 a1 (Y0 (A0 _ _ R) (A0 _ _ z)) ?_];.obtain⟨c0,v0,p0,i0,l1⟩:=s;have v1:c0.Ns ia n0:=let⟨o,I,o0,e,r⟩:=u1;⟨o,I,o0,k _ _ e,r⟩;refine#[bT,mC v1 ?_];rw[show n0 _=ab from T0];refine az ?_;exact az q
 .exact wpAny_mroOf_exc (k _ _ (A0 _ _ R)) q
 .rw[List.dropWhile_cons,#[bK,by simp]];rfl
 have t0:#[oa,(a.push #[aR,i1,.fields,#[.builtin a0,#[am]]])]:=λb e0 e=>bM _ (A0 _ _ e);exact QZ #[gr] b0 (m1 (t0 _ _ R) (t0 _ _ z)) w0 T (O (by rw[cH];exact eI (ea (bj B))) t0)
end
structure tW(d0 g0:#[n])(f:ao)(j0:bq)(f0:gN)(h:bk):Prop where
 scope:f0.scope=j0
 fn:∃o,#[e9,f]/\#[dW]
 par:∃n,#[nr]/\n.arg=ak "self"
 zy:#[n0]
 gl:#[hO]
 bl:#[hN]
 code:∃l O0 Y U q,#[gI,l]/\#[bl,l,O0]/\O0.data=.fields Y/\Y[2]?=aa (.str U q)/\((P0.main.file:aq)==U)=ae
 g:#[gn]
 b:#[go]
 sup:#[hx]
 st:#[j2]
 cell:∃o,#[e9,124]/\o.data=.cell (aa #[K,200])
section
variable{B:Bs}{w:aD}{n k:Nat}{d0 g0 s0:#[n]}{f:ao}{j0:bq}{r0:#[y]}{z:#[D]}{H m0:#[l]}{r:V}
theorem jB.at_(F:#[w])(J:jB B d0 g0 f j0 k r0)(b:GH B h):∃f0 o,#[e9,f]/\#[dW]/\#[ka]/\h.CodeRec f0.code f0.qualname/\(∀(l:List _)(s:fR),l.length=k->GH B s.heap->qQ s f0 ⟨l,[]⟩ ((j0.names.map (·.1)).zip l))/\tW d0 g0 f j0 f0 h:=by obtain⟨f0,o,N,w,a0,G,E,r,g,p,⟨c,O0,Y,t,j,U,n,P,H,Z,q,X,u⟩,v,i⟩:=J.ex;obtain⟨⟨m0,a,d⟩,Q⟩:=J.cell;obtain⟨S,k0,m⟩:=J.VH;have A0:=b.2.1;exact⟨_,o,A0 _ _ N J.out,a0,E,⟨c,_,_,t,n,A0 _ _ H P,Z,q⟩,i,G,#[aS,A0 _ _ N J.out,a0],v,r,g,p,⟨c,_,_,_,_,n,A0 _ _ H P,Z,X,u⟩,F.gs b,F.bs b,J.sup,#[as,k0.at' λo e=>A0 _ o e F.cT,m],_,A0 _ _ a Q,d⟩
def fM(B:Bs)(w:aD)(n:Nat)(f:ao)(z:#[D])(H:#[l])(T:#[s]->bk->af->Prop)(m0:#[l]):Prop:=#[mv,#[bk]->#[c4]->#[h1]->#[a6,l,z]->(∀u L,Fx B O s L->#[hk]->cI B O m0 L.heap->T O L.heap u->R (.ok (.ret u)) L)->jv #[aH] A #[cM,.call,f,#[Y,l]] R s]
theorem fM.sup{T:#[s]->bk->af->Prop}(F:#[w])(k0:jB B d0 g0 f j0 k r0)(X0:iq j0 k=ae)(S0:#[ei])(H0:#[eG])(L0:#[eF])(C:z.length=k)(h:∀(f0:gN)(A:aR)(O:#[s])(t:#[L])(L:ao)(s:fR)(Q:#[aG,hM])(E:#[E]),#[bk]->#[c4]->#[h1]->#[a6,t,z]->tW d0 g0 f j0 f0 s.heap->#[dL,L,(λx=>((j0.names.map (·.1)).zip t).reverse.lookup x)]->#[ap,L]->L∉O->(∀Y0 d,Fx B (L::O) s d->GH B d.heap->cI B O m0 d.heap->T O d.heap (match Y0 with|.ret v=>v|_=>.none)->Q Y0 d)->_root_.PySem.wpAt #[aH] A (.func r0 (cM f0 L f)) (fQ r0 (cM f0 L f)) Q E s):fM B w (n+1) f z H T m0:=λA O t s R g h0 Y X q=>by
 obtain⟨f0,o,N,a0,G,U,Q0,M⟩:=k0.at_ F h0;have i0:t.length=k:=X.length.trans C;have a1:=X0;simp only[iq,fe,decide_eq_true_eq,eT]at a1;obtain⟨⟨⟨O0,T0⟩,x0⟩,I0⟩:=a1;have A0:=M.scope;refine ks_codeAny_call_defAt (o:=o) (fd:=f0) (body:=r0) (binds:=(j0.names.map (·.1)).zip t) #[kM] N a0 (F.nl h0) U G (Q0 t s i0 h0) (λx c e=>?_) (λx c=>?_) (λn0 C0 u0=>?_) (by rw[A0];exact H0) (by rw[A0];exact L0) (by rw[A0];exact S0);.rw[A0]at c;have:=I0 x c;rw[e]at this;cases this
 .rw[A0];obtain⟨i,P⟩:=gK.mp c;obtain⟨u,S⟩:=oN.mp P;rw[cb]at u;obtain⟨p,J,Z0⟩:=dP.mp u;have q0:i<k:=by rw[<-i0];exact#[U,S]
  have R0:#[kg,p]:=bC (i:=i) (by rw[es q0];exact J);have G0:=T0 _ R0;simp only[beq_iff_eq]at G0;obtain⟨l0,y0⟩:=p;cases G0;rw[<-Z0];exact lV O0 J
 have b0:#[Q,n0.objs.size]:=by obtain⟨o,_,_,e,_⟩:=C0;exact ea (bj e)
 have q0:#[kA]:=λa I=>by
  obtain⟨i,P⟩:=gK.mp I;have j:i<H.length:=by rw[<-Y.len];exact#[U,P]
  obtain⟨⟨o,e,_⟩,_⟩:=Y.store i a _ P (bB j);exact bj e
 have b1:=h0.grow b0 u0;obtain⟨U0,_,_,M0,_,_,_,d1⟩:=k0.at_ F b1;have c1:cI B O H n0:=⟨Y.len,Y.nodup,Y.high,λi a e0 I Z=>by obtain⟨⟨o,u,S⟩,t0⟩:=Y.store i a e0 I Z;exact⟨#[aS,u0 _ _ u,S],t0.keep (λv0 s0=>by rw[u0 _ _ u]at s0;cases s0;exact u) λb v0 s0 _ _=>u0 _ _ s0⟩⟩;have N0:U0=f0:=by obtain⟨o0,c0,p0⟩:=d1.fn;rw[u0 _ _ N]at c0;cases c0;rw[a0]at p0;cases p0;rfl
 subst N0;refine h U0 _ O t s.heap.objs.size _ _ _ ⟨g.handled,by have:=g.depth;show#[i8];omega,by have:=g.units;show A.units+3+8*n+8<_;omega⟩ b1 c1 X d1 C0 h0.1 (λr=>#[g5,q0,r]) λY0 d w0 J0 F0 l=>?_;refine q _ d ?_ J0 F0 l;have E0:Fx B O s #[cN,n0,s.toks+((j0.names.map (·.1)).zip t).length]:=Fx.fU b0 #[dJ,u0];refine E0.trans w0 λy m=>?_;rcases bc.mp m with rfl|m;.exact .inr (aO _)
 .exact .inl m
end
section
variable{w:aD}{A:aR}{E:#[E]}{h:bk}{g:#[c5]}{d:hK}{t:Nat}{h0:gw}
variable{B:Bs}{d0 g0 s0:#[n]}{f L x:ao}{j0:bq}{r0:#[y]}{f0:gN}{o:ck}
theorem Rq(x:af):pb "list.__len__" #[Y,[x]]=av ():=by kernel_rfl
theorem Rp(x:af):pb "list.__init__" #[Y,[x]]=av ():=by kernel_rfl
theorem LH{P:String}(r:tW d0 g0 f j0 f0 h)(H:#[bH])(k:GH B h)(C:#[ei])(v0:#[hi,j0.names.lookup,"super"])(Y0:j0.names.lookup (ak "__class__")=aa .free)(Q0:#[kw,j0.names.lookup])(M:h.Ns L m)(a1:m (ak "self")=aa (.ref x))(z:#[cl])(X:o.cls=.ref 200)(o0:#[iL])(T0:x≠200)(S:#[lU])(U:(G==(ak "__class__"))=ai)(S0:#[hD,G,P])(C0:#[ir,P,"wrapper_descriptor"])(n0:#[nb,P.cutAt])(d1:∀a b,#[lW,.builtin P])(b1:∀x,pb P #[Y,[x]]=av ())(p0:tR P=ae)(s:kE kL P=aa Z0)(O:#[mM,Z0,λiL e=>∃v,iL=.done (.ret v)/\Q v e]):#[no,#[bO,.Attribute #[bO,#[aP,"super",f1],[],G0] G E0,[],N0]]:=by obtain⟨l0,k0,N,J0,I0,F0,H0,A0,t0,x0,L0,R,u,J,T⟩:=H.ex;have b0:=r.scope;obtain⟨q0,j,u0⟩:=r.fn;obtain⟨n,y,c1⟩:=r.par;obtain⟨l,O0,Y,R0,U0,m0,X0,y0,a0,e1⟩:=r.code;obtain⟨i0,Z,M0⟩:=r.st;obtain⟨p,I,w0⟩:=r.cell;subst b0;exact LI C v0 Y0 Q0 j u0 y c1 r.zy r.gl r.bl m0 X0 y0 a0 e1 r.g r.b r.sup Z M0 I w0 M a1 (k.2.1 _ _ R J) z X o0 T0 S U S0 C0 Ux (λF i q=>SG n0 d1 F i X q) #[a0] (λ_ _ q=>cN (b1 _) q) p0 s O
end
noncomputable def yU:#[y]:=by run_tac au.dc ["_Accumulator","part_count"]
noncomputable def Br:bq:=by run_tac au.dd ["_Accumulator","part_count"]
section
variable{B:Bs}{w:aD}{d0 g0 s0:#[n]}{I:#[af]}
theorem cI.acc{n d i:Nat}{H:#[g]}(R:cI B O H h)(z:#[I,O,x])(P:#[I,H,dC B n d I]):∃Y q M0,#[bl,x,#[hW,.ref 200,q]]/\O[d]?=aa M0/\aM (hr B h) Y.toList I/\n<=O.length/\d<n:=by obtain⟨⟨o,N,a0,G,E,r,⟨Y,q,m,_⟩,M0,p,u⟩,j⟩:=R.store i x _ z P;obtain⟨_,_,l⟩:=j;obtain⟨T,Q,F,a⟩:=l o N;rw[m]at F;cases F;obtain⟨c,F0,b,s⟩:=o;dsimp at G E m u;subst G E m u;exact⟨_,q,_,N,p,a,a0,r⟩
theorem cI.keep{H:#[g]}(R:cI B O H h)(k:#[it,h.get?]):cI B O H c0:=by refine#[m3,?_];obtain⟨⟨o,F,d⟩,Q⟩:=#[gw];exact⟨#[aS,k _ _ F,d],Q.keep (λL w=>#[R]) λb L w _ _=>k _ _ w⟩
theorem Xp:kE kL "list.__len__"=aa Builtin.«list.__len__»:=aaa
theorem AQ(k:GH B h)(v:#[bH])(z:#[cl])(s:#[iL]):x≠200:=λe=>by obtain⟨l0,l,N,J0,I0,F0,H0,A0,t0,x0,L0,R,b,a,H⟩:=v.ex;have u:=#[aL,k,R,a];grind
theorem EM(F:#[w])(v:#[bH])(J:jB B d0 g0 197 Br 1 yU)(T:Nat):bG B w 1 197 [.ob 1] #[bZ] #[T,(I.length:Int)] #[bZ]:=by refine fM.sup (T:=λO _ u=>VR O u #[T,(I.length:Int)]) F J #[ak] rfl rfl rfl rfl λf0 A O l L s Q E g k j a r M y m q=>?_;cases a with|cons N a0=>cases a0;obtain⟨x,z,rfl⟩:=N;obtain⟨Y,Q0,M0,p,i,f,C,Z⟩:=j.acc z rfl;have c:#[g9]:=f.length;refine tO (Px (LH r v k rfl #[p] #[p] #[p] M (by rfl) p rfl #[av] (AQ k v p #[ch]) #[p] #[p] VJ YL #[p] (Rn "") Rq #[C] Xp λH d=>?_));refine#[cT,rfl];dsimp;refine#[bT,gx (d _ _ p) #[cA]];refine ag (wpAny_mkInt' (az #[b4,q _ _ (Fx.fU H #[dJ,d]) (k.grow H d) (j.keep d) #[bF,by rw[c]]]))
end
theorem aee:(match nJ "list.pop"with|aa S=>oT "list.pop" #[nc] #[Y,[.ref 0]]|ab=>av ())=av ():=#[p]
theorem Yi(x:ao):∀S,nJ "list.pop"=aa S->oT "list.pop" #[nc] #[Y,[#[am]]]=av ():=λS e=>by
 have:(match nJ "list.pop"with|aa S=>oT "list.pop" #[nc] #[Y,[#[am]]]|ab=>av ())=av ():=by kernel_rfl
 rw[e]at this;exact this
def wM(B:Bs):Prop:=∃o c,#[gE,200]/\o.data=.cls c/\c.qualname=ak "_Accumulator"
section
variable{w:aD}{A:aR}{E:#[E]}{h:bk}{g:#[c5]}{d:hK}{t:Nat}{h0:gw}
variable{l0 q:aq}{N x:ao}{J0:#[L]}{i:#[bw]}{P:#[L]}{j:Bool}{I0:#[eL]}{F0:#[a7,ao]}{H0 A0 t0 x0 L0:#[bP]}{F:String}{o:ck}
theorem Rr{Q:#[aG,Unit]}(R:#[bl,200,eu l0 q 200 N J0 #[ev] ae i P j I0 F0 H0 A0 t0 x0 L0 F])(z:#[cl])(X:o.cls=.ref 200)(s:#[iL])(a:q=ak "_Accumulator")(O:Q () #[bt]):#[d1,pb "list.pop" #[Y,[#[am]]]]:=by subst a;have f:(iC 200::#[ev]).contains (.type "module")=ai:=#[p];have C:pa "list.pop"=aa .method:=rfl;have T:Manifest.varargsMethods.contains "list.pop"=ai:=rfl;unfold pb;cases H:nJ "list.pop"with|none=>exact az O|some S=>simp only[C];rw[#[eH]];unfold yq;refine#[bT,kO z ?_];rw[X];refine jX R ?_;rw[f];simp only[T,sO,fX,if_false];refine#[bI,ks_wpAny_isType_inst,z,s];refine#[bf,kO,z];rw[X];refine#[bT,kM R ?_];refine az (ag (kO R ?_));exact cN (Yi x S H) O
end
section
variable{w:aD}{A:aR}{E:#[E]}{h:bk}{g:#[c5]}{d:hK}{t:Nat}{h0:gw}
variable{B:Bs}{d0 g0 s0:#[n]}{f L x:ao}{j0:bq}{r0:#[y]}{f0:gN}{o:ck}{I:#[af]}
theorem Yd{U0 G0 E0 N0:aZ}{m:#[n]}{Q:#[E]}(r:tW d0 g0 f j0 f0 h)(u:#[bH])(X0:wM B)(k:GH B h)(C:#[ei])(m0:#[hi,j0.names.lookup,"super"])(Q0:j0.names.lookup (ak "__class__")=aa .free)(u0:#[kw,j0.names.lookup])(M:h.Ns L m)(R0:m (ak "self")=aa (.ref x))(z:#[cl])(X:o.cls=.ref 200)(i0:#[iL])(y0:x≠200)(P:#[lU])(O:#[mM,Builtin.«list.pop»,λiL a=>∃v,iL=.done (.ret v)/\Q v a]):#[no,#[bO,#[dH,#[bO,#[aP,"super",U0],[],G0],"pop",E0],[],N0]]:=by
 obtain⟨l0,a0,N,J0,I0,F0,H0,A0,t0,x0,L0,R,j,H,I⟩:=u.ex;have w0:a0=ak "_Accumulator":=by obtain⟨o,c,F,e,s⟩:=X0;grind
 have T:=#[aL,k,R,H];have S:=r.scope;obtain⟨q0,i,k0⟩:=r.fn;obtain⟨n,y,S0⟩:=r.par;obtain⟨l,O0,Y,v0,C0,b0,M0,o0,J,T0⟩:=r.code;obtain⟨U,Z,p0⟩:=r.st;obtain⟨p,G,n0⟩:=r.cell;subst S;exact LI C m0 Q0 u0 i k0 y S0 r.zy r.gl r.bl b0 M0 o0 J T0 r.g r.b r.sup Z p0 G n0 M R0 T z X i0 y0 P #[ak] VK YM Uu (λF e q=>SF #[p] #[C] (Rl "") F e X q) (.inr rfl) (λF e q=>Rr F e X i0 w0 q) #[C] DC O
theorem cI.pn{H:#[g]}{M0:ao}{Y:#[bE]}{q:Nat}{f:#[bE]->#[bE]}(G:hq B)(r:#[c4])(R:#[h1])(z:#[I,O,x])(P:#[I,H,dC B n F0 I])(p:#[cd,x,#[hW,.ref 200,q]])(E:O[F0]?=aa M0)(C:n<=O.length)(g:F0<n)(m:aM (hr B s.heap) (f Y).toList u)(t:Nat):GH B #[iW]/\cI B O (H.set i (dC B n F0 u)) #[iW]/\Fx B O s #[cN,s.heap.update x (dB f),t]:=by
 have b0:=bC z;have a0:=bt.no p (#[en]) #[en];have M:oX x _ #[iW]:=oY ..;obtain⟨J,S⟩:∃J,#[iW].get? x=aa ⟨.ref _,aa _,.seq (f _) J,_⟩:=#[bF,tx _ p rfl];have U:#[fQ,b≠x,#[c7],(s.heap.update x _).get?]:=#[gi,M.2];refine⟨r.one G (R.high x b0) a0 #[gp,M] U,⟨by rw[tb];exact R.len,R.nodup,R.high,λj a e0 d Z=>?_⟩,Fx.fU (eC M.1.symm) λb o e Z=>U b o (λy=>Z (y▸b0)) e⟩;by_cases l:j=i;.subst l;rw[z]at d;cases d;rw[nC (by have:=#[U,P];exact this)]at Z;cases Z;refine#[a4,⟨_,S,C,rfl,rfl,g,⟨f _,_,rfl,m.length⟩,_,E,rfl⟩];refine#[nZ,λo f0 e g=>#[R],G.tab];rw[S]at e;cases e;exact#[cw,_,m.mono λv c T=>T.keep λt o _ e X=>(M.2 t λy=>a0 (y▸X)).trans e]
 .rw[nB (λe=>l e.symm)]at Z;have w:a≠x:=#[hJ,l,d,z];obtain⟨⟨o,F,k⟩,Q⟩:=R.store j a _ d Z;have N:=U a o w F;exact⟨#[aS,N,k],Q.keep (λL y=>by grind) λb L y A _=>U b _ (λe=>a0 (e▸A)) y⟩
end
noncomputable def Fk:#[y]:=by run_tac au.dc ["_Accumulator","pop"]
noncomputable def Kw:bq:=by run_tac au.dd ["_Accumulator","pop"]
section
variable{B:Bs}{w:aD}{d0 g0 s0:#[n]}{I:#[af]}
theorem cI.inst{H:#[g]}(R:cI B O H h)(a:#[I,O,x])(P:#[I,H,dC B n d I])(Z:H[d]?=aa (bQ k j0))(c:i≠d):∃s0,h.Inst x 200 s0/\(∀y,#[er,(j0.lookup y)]->s0 y=ab)/\∀y z,j0.lookup y=aa z->∃v,s0 y=aa v/\#[bn,z]/\bD k z:=by obtain⟨Y,q,M0,N,E,_,_,_⟩:=R.acc a P;obtain⟨⟨A,S,_,b,s,J,C,U,g,f⟩,_⟩:=R.store d _ _ E Z;refine#[aC,⟨_,N,rfl,#[av],.inr #[aC,rfl,#[hJ,c,a,E],⟨_,_,_,S,J,C,U,λ_=>rfl⟩]⟩,g,λy z e=>?_];simp_all
theorem IL:#[fn,"part_count"]:=by rw[cB,cA];kernel_rfl
theorem Ul{h0:gw}(p:#[cl])(Z:#[fG,Y,q])(R:Y.size<=aB)(T:Y[Y.size-1]?=aa v)(O:Q (.done (.ret v)) #[bu,h.update x (dB #[nS]),t]):#[d1,Builtin.«list.pop» #[Y,[#[am]]]]:=by
 have G:0<Y.size:=by
  obtain e|e:=CT Y.size;.simp_all
  .exact e
 refine#[cT,rfl];refine#[a3,az];refine#[bI,PV,p,Z];have a:Y.isEmpty=ai:=by simp;intro e;rw[e]at G;cases G
 simp[a,fX,if_false];rw[(by rw[seqIndex_neg #[f] #[f]];congr 1;omega:kJ _ _=aa #[gP]),Option.bind_some,T];refine ag (yG p Z (az O) R (eI (aH ?_ R)));rw[Mm,#[G,dif_pos],Array.size_eraseIdx];exact ahs _ _
theorem Qt(F:#[w])(u0:#[bH])(N:gp s0)(F1:wM B)(H1:jB B d0 g0 197 Br 1 yU)(e0:jB B d0 g0 160 Kw 1 Fk)(T:Nat){c:Tx×Tx}(R:I.length+1<=2^20):fM B w 2 160 [.ob 1] (bV B T #[aK]) (λ_ h u=>hr B h u c) #[bZ]:=by refine fM.sup F e0 #[C] rfl rfl rfl rfl λf0 A O n L s Q E i U P M G E0 t1 w1 q=>?_;have A1:=EM (w:=w) (I:=I++[c]) F u0 H1 T;cases M with
|cons a a0=>
 cases a0;obtain⟨x,z,rfl⟩:=a;obtain⟨a2,Z1,M0,X1,U0,U1,C,Z⟩:=P.acc z rfl;obtain⟨Y1,v0,u1,x1⟩:=P.inst z rfl rfl #[i];obtain⟨l0,a1,M1,J0,I0,F0,H0,A0,t0,x0,L0,J,r0,C0,T0⟩:=u0.ex;have X0:=#[aL,U,J,C0];have e1:#[dL,M1,s0]:=#[dG,r0.at',U,T0];obtain⟨O1,O0,S,P1,j0,w0,_⟩:=H1.ex;have z1:=#[aL,U,S,H1.out];show _root_.PySem.wpAt _ _ _ (fQ [.If (.Compare #[bO,#[dH,#[aP,"self",_],"part_count",_],[],_] [.Eq] [.Constant #[T,0] 0 _] _) _ [] _,.Return (aa #[bO,#[dH,#[bO,#[aP,"super",_],[],_],"pop",_],[],_]) _] _) _ _ _;refine tO (ks_wpAt_If (_root_.PySem.wpAt_of_wpAny (Ew ?_)));have n1:#[oc]:=by rw[G.scope];decide+kernel
 have l1:#[e8,f0.scope.kind]:=by rw[G.scope];rfl
 rw[tF];refine ag (m:=aU #[aP,"self",_] _) (ho (ic l1 n1 E0 rfl ?_) #[C]);refine#[a3,dI];obtain⟨h,g,d,t,h0⟩:=s;unfold tP tH tQ;rw[if_pos (by rfl),if_pos (by rfl)];refine#[b6,Ji u0.mro u0.ga u0.zq u0.ha X0 e1 u0.kV u0.ox N.count z1 P1 IL v0 (u1 _ rfl) ?_];refine#[a3,az];refine Ds (o:=O0) (fd:=O1) ?_;unfold yo;refine az #[a4,⟨z1,j0⟩];refine gi (A1 A O [#[am]] #[bt] _ i U P #[aY,#[au,x,z]] λu f S0 g1 Y0 k=>?_);obtain⟨p0,rfl⟩:=k;obtain⟨c0,i1,c1,y0,y1⟩:=f;refine rj ?_;refine NI ?_;have i0:(#[v,#[aK].length]==(0:Int))=ai:=by rw[aV];exact beq_eq_false_iff_ne.mpr (by simp only[CJ];omega)
 rw[i0];refine rn ?_;rw[#[c1]];refine _root_.PySem.wpAt_of_wpAny (az ?_);have Q1:(160:Nat)∉O:=λl=>by obtain⟨N1,X,f1,_⟩:=e0.ex;exact#[aN,P.high _ l,xF.mpr (bj f1)]
 obtain⟨q1,_,_,_,_,_,_,o1⟩:=e0.at_ F g1;have m1:q1=f0:=by obtain⟨o0,k1,d1⟩:=G.fn;obtain⟨m0,G0,Z0⟩:=o1.fn;rw[S0.keep _ _ k1 Q1 e0.out]at G0;cases G0;rw[d1]at Z0;cases Z0;rfl
 subst m1;have R1:c0.Ns L _:=E0.at' λo e=>S0.keep _ _ e w1 λn0=>#[a9,F.slt.tab L n0,t1];obtain⟨Y,Q0,I1,p,G1,R0,_,_⟩:=Y0.acc z rfl;have b0:Y.size=I.length+1:=by rw[<-gG,R0.length,aV];rfl
 refine tO (Px (Yd o1 u0 F1 g1 rfl #[C] #[C] #[C] R1 rfl p rfl #[av] (AQ g1 u0 p #[ch]) #[i] λ{a0 N0 L1}j1 b1=>?_));have h1:=g1.grow j1 b1;have v1:=Y0.keep b1;obtain⟨v,T1,k⟩:=R0.get (i:=I.length) (b:=c) #[z];have r1:Y[Y.size-1]?=aa v:=by rw[<-jM,b0];exact T1
 have J1:∀{u c},hr B c0 u c->hr B a0 u c:=λM=>M.keep λt o _ e _=>b1 _ _ e
 obtain⟨E1,B1,C1⟩:=v1.pn (s:=⟨a0,i1,c1,N0,y1⟩) (f:=#[nS]) (u:=I) F.slt h1 z rfl (b1 _ _ p) G1 C Z (by
  have r:=(R0.mono λu c M=>J1 M).eraseIdx (Y.size-1);have H:#[aK].eraseIdx (Y.size-1)=I:=by rw[b0];simp[List.eraseIdx_append_of_length_le]
  rw[H]at r;rw[Mm,#[G,dif_pos],Array.toList_eraseIdx];exact r) N0
 refine Ul (b1 _ _ p) rfl (by rw[b0];exact dz R) r1 #[bL,v,rfl];refine q _ _ ((S0.trans ((Fx.fU (X:=O) (t:=N0) j1 #[dJ,b1]).trans C1 λy m=>.inl m) λy m=>.inl m).widen λy m=>.inl (dH _ m)) E1 B1 ?_;have s1:¬bt a0 x:=bt.no (b1 _ _ p) (#[en]) #[en];have p1:oX x a0 (a0.update x (dB #[nS])):=oY ..;exact(J1 k).keep λt o _ e j=>(p1.2 t λk0=>s1 (k0▸j)).trans e
end
noncomputable def yT:#[y]:=by run_tac au.dc ["_Accumulator","__init__"]
noncomputable def sr:bq:=by run_tac au.dd ["_Accumulator","__init__"]
def AU(f0:gN)(L f:ao):aN:={cM f0 L f with cells:=[]}
section
variable{B:Bs}{w:aD}{d0 g0 s0:#[n]}{I:#[af]}
theorem cI.rel{H:#[g]}(F:#[w])(b:f0.scope=j0)(C:#[ei])(o:(j0.names.map (·.1)).Nodup)(u:#[hO])(n:#[hN])(k:GH B h)(j:cI B O H h)(c:#[ci,H])(M:h.Ns L m)(d:#[ap,L])(z:L∉O)(T:#[ga,U,∃l0 v,#[I,j0.names,(l0,.local)]/\m l0=aa v/\#[bn,x]]):aF B #[d7,j0,0] (AU f0 L f) O U H h:=by
 refine{scope:=b,kind:=C,jJ:=?_,nd:=o,glob:=u,eX:=n,gh:=k,slt:=F.slt,ns:=⟨m,M,#[cX]⟩,kU:=?_,len:=j.len,cX:=aT _,store:=?_,code:=?_,nodup:=j.nodup,high:=j.high,dT:=z,hR:=d,cp:=?_,kb:=?_};.simp
 .obtain⟨l0,v,N,a0,G⟩:=T i x e;exact#[aC,_,N,#[dI,rfl,v,a0,G]]
 .grind
 .intro i a e0 I Z;exact(j.store i a _ I Z).1
 .intro i a e0 I Z;refine(j.store i a _ I Z).2.ob λR e=>?_;have:=kh (k:=0) (e▸Z);grind
 .intro p y;cases y
 .exact .nil
theorem aF.QX{H:#[g]}(R:#[cC]):cI B O H h:=#[m3,⟨#[gw],(R.code i a _ I Z).Cc⟩]
theorem rY:#[fn,"_initial_size"]:=by rw[cB,cA];kernel_rfl
theorem Uh{h0:gw}(p:#[cl])(Z:#[fG,#[],q])(O:Q (.done (.ret .none)) #[bu,h.update x (dB λ_=>#[]),t]):#[d1,Builtin.«list.__init__» #[Y,[#[am]]]]:=by refine#[bI,PV,p,Z];refine ag (yG p Z (az O) #[aB] #[aB])
theorem Qo(F:#[w])(M:#[bH])(N:gp s0)(J:jB B d0 g0 137 sr 2 yT)(T:Nat):bG B w 1 137 [.ob 1,#[ad,T]] [bQ 0 [],dC B 2 0 []] .none (bV B T []):=by refine fM.sup (T:=λO _ u=>VR O u .none) F J #[C] rfl rfl rfl rfl λf0 A O l L s Q E g t n k r b0 L0 R0 q=>?_;cases k with
|cons a a0=>cases a0 with
|cons a0 G=>
 cases G;obtain⟨x,z,rfl⟩:=a;obtain⟨J0,rfl⟩:=a0;show _root_.PySem.wpAt _ _ _ (fQ [.Assign [.Attribute #[aP,"self",_] (ak "_initial_size") _] #[aP,"initial_size",_] _,.Expr #[bO,#[dH,#[bO,#[aP,"super",_],[],_],"__init__",_],[],_] _] _) _ _ _;have E0:#[oc]:=by rw[r.scope];decide+kernel
 have d1:f0.scope.names.lookup (ak "initial_size")=aa .local:=by rw[r.scope];decide+kernel
 have A0:#[e8,f0.scope.kind]:=by rw[r.scope];rfl
 refine tO (ks_wpAt_Assign_Attr (_root_.PySem.wpAt_of_wpAny (ho (ic A0 d1 b0 rfl ?_) #[C])) (by rfl));refine ho (ic A0 E0 b0 rfl ?_) #[C];have R:aF B #[d7,sr,0] (AU f0 L 137) O [#[ag],#[B,T]] [bQ 0 [],dC B 2 0 []] s.heap:=n.rel F r.scope rfl #[C] r.gl r.bl t rfl b0 L0 R0 λi y e=>by match i,e with|0,e=>cases e;exact⟨_,_,rfl,rfl,x,z,rfl⟩|1,e=>cases e;exact⟨_,_,rfl,rfl,J0,rfl⟩|i+2,e=>simp at e
 refine R.setAttr (t0:=0) (v:=#[ad,T]) M z rfl cy.acc rfl #[i] #[aB] #[aB] #[bC,J0] #[aB] #[aO] trivial N.rV rY #[i] λc P=>?_;have l0:=P.rel.QX;have u0:=P.rel.gh;obtain⟨F0,N0,j0⟩:=P.rel.ns;obtain⟨f1,e1,d,j⟩:=j0 0 (.ob 1) rfl;cases d
 have O0:F0 (ak "self")=aa (.ref x):=by
  rcases j with⟨_,v,S,I0,I,rfl⟩|⟨h,_⟩;.rw[z]at I;cases I;exact S
  .rcases h with h|⟨h,_⟩<;>cases h
 have c1:∀y∈eZ #[d7,sr,0] (AU f0 L 137) O,#[ap,y]:=λy m=>by
  rcases bc.mp m with rfl|m;.exact L0
  .rcases cK.mp m with m|m;.cases m
   .exact n.high y m
 obtain⟨H0,_,_,_,_,_,_,G0⟩:=J.at_ F u0;have C0:H0=f0:=by obtain⟨o0,y0,r0⟩:=r.fn;obtain⟨m0,e0,n0⟩:=G0.fn;rw[P.fx.keep _ _ y0 (λf=>by obtain⟨b1,X,t0,_⟩:=J.ex;exact#[aN,c1 _ f,xF.mpr (bj t0)]) J.out]at e0;cases e0;rw[r0]at n0;cases n0;rfl
 subst C0;obtain⟨c0,w0,q0,U,S0⟩:=c;obtain⟨Y,Q0,Z0,p,Y0,i0,C,Z⟩:=l0.acc z rfl;have H:Y=#[]:=Array.eq_empty_of_size_eq_zero (by rw[<-gG,i0.length];rfl);subst H;refine tO (ks_wpAt_Expr_any (LH G0 M u0 rfl #[C] #[C] #[C] N0 O0 p rfl #[av] (AQ u0 M p #[ch]) #[i] #[C] VI YK #[C] (Ro "") Rp #[C] PySem.F.entry_list_init λ{a0 h0 a1}x0 p0=>?_) R.inter (by rfl));have v0:=u0.grow x0 p0;have M0:=l0.keep p0;obtain⟨X0,T0,U0⟩:=M0.pn (s:=⟨a0,w0,q0,h0,S0⟩) (f:=λ_=>#[]) (u:=[]) F.slt v0 z rfl (p0 _ _ p) Y0 C Z .nil h0;refine Uh (p0 _ _ p) rfl #[bL,.none,rfl];refine _root_.PySem.wpAt_of_wpAny (az ?_);refine q _ _ ?_ X0 T0 rfl
 have k0:Fx B (L::O) s _:=P.fx.widen λy m=>.inl (by
  rcases bc.mp m with rfl|m;.exact fB
  .rcases cK.mp m with m|m;.cases m
   .exact dH _ m)
 exact k0.trans (((Fx.fU (X:=O) (t:=h0) x0 #[dJ,p0]).trans U0 λy m=>.inl m).widen λy m=>.inl (dH _ m)) λy m=>.inl m
end
section
variable{w:aD}{A:aR}{E:#[E]}{h:bk}{g:#[c5]}{d:hK}{t:Nat}{h0:gw}
variable{l0 q:aq}{C N x:ao}{J0:#[L]}{i:#[bw]}{P:#[L]}{j:Bool}{I0:#[eL]}{F0:#[a7,ao]}{H0 A0 t0 x0 L0:#[bP]}{F:String}{o:ck}{r0:#[n]}{f:#[be]}{Q0:Nat}
theorem yK(R:#[e1])(z:#[cl])(X:#[dh])(O:Q k #[bt]):#[d1,sequenceKey #[K,x] k G]:=by refine#[bf,kO,z];rw[X];dsimp;have e:seqItemTypes=["collections.deque"]:=rfl;rw[e];refine ag ?_;simp only[List.anyM];refine ag (jX R (az (az O)))
theorem yL{a:String}(R:#[e1])(b:#[dT])(z:#[cl])(X:#[dh])(f:r0 G=ab)(s:nL "list" G a)(O:#[et,#[jt,a,#[am]::m],λv=>Q (aa v),#[bt]]):#[d1,callSpecial? #[K,x] G m]:=by refine ag (jK gW R b z X s.lookup ?_);rw[f];simp only[s.bind];exact cf (ag (az (ag (dk O (λv L c0=>az c0) λ_ _ c0=>c0))))
theorem Qn{s:ao}{l S Y:af}{c0 a H:#[e4]}{Q:#[E]}(R:#[e1])(k:#[dT])(z:#[cl])(X:#[dh])(b:r0 (ak "__getitem__")=ab)(Z:#[fG,f,Q0])(u:h.IsSliceOf s l S Y)(r:nI l c0)(J:nI S a)(v:nI Y H)(e:H≠aa 0)(O:#[kf,h.push {cls:=#[f4],data:=.seq (slicePick f c0 a H)}])(I:f.size<=aB):#[d1,#[cM,rd,x,#[K,s]]]:=by
 obtain⟨B,n,m,p⟩:=id u;have T:#[kO,s,"slice"]:=⟨B,n,m⟩;refine cf (ag (yK R z X ?_));refine ag (yL R k z X b ph ?_);refine nZ (a:="list") (b:="__getitem__") R z X (.inl #[p]) #[ak] #[p] (Pp _ _) ph.plain Pu ?_;show#[ej,tp (.ref s)];refine ag ?_;refine#[bI,iZ,T,slice_no_index];refine az ?_;refine#[bf,nS,T];rw[Py]
 have y:¬((rawPart H==cC 0)=ae):=by cases H with
 |none=>exact ff
 |some c=>
  intro M;have:c=0:=by simpa[rawPart,cC]using M
  exact e (by rw[this])
 refine#[bT,dS n p (x:=Y) rfl (ag (rk v ?_))];rw[if_neg y];refine#[cm,n,p,l,ag (rk r ?_)];refine#[cm,n,p,S,ag (rk J #[cA])];refine ag (m:=NP (.ref x)) ?_;refine ag (kN z Z #[cA]);refine#[cT,PD c0 a H f.size e];exact ag (jA (az #[b4,az O]) (aH (slicePick_size_le f c0 a H) I))
theorem Qm{k:Nat}{p0:fP}{v:af}{Q:#[E]}(R:#[e1])(b:#[dT])(z:#[cl])(X:#[dh])(a:r0 (ak "__getitem__")=ab)(Z:#[fG,f,Q0])(T:f[k]?=aa v)(M:k<2^62)(O:Q v #[bt]):#[d1,#[cM,rd,x,.int (k:Nat) p0]]:=by
 unfold rd;refine cf (ag (yK R z X ?_));refine ag (yL R b z X a ph ?_);refine nZ (a:="list") (b:="__getitem__") R z X (.inl #[ak]) #[p] #[p] (Pp _ _) ph.plain Pu ?_;have u:0<=#[bW]:=by omega
 have H:#[bW]<2^63:=by omega
 clear M;obtain⟨y,m⟩:∃y:Int,y=#[bW]:=#[aU];rw[<-m]at u H;rw[<-m];show#[ej,tp (.int y p0)];refine#[bf,PW,Ec u H];clear H;subst m;show#[cQ,((seqItemAt x k>>=λr=>av (r.map (k,·)))>>=_)];refine#[bT,Qc z Z #[cA]];rw[T];exact az #[b4,az O]
theorem Qz{s y:ao}{l T Y:af}{c0 a:#[e4]}{b0:ck}{L:#[be]}{f0:Nat}{Q:#[aG,Unit]}(R:#[e1])(k:#[dT])(z:#[cl])(b:#[dh])(c:r0 (ak "__setitem__")=ab)(Z:#[fG,f,Q0])(u:h.IsSliceOf s l T Y)(H:nI l c0)(J:nI T a)(v:nI Y ab)(m:#[bl,y,b0])(S:b0.cls=.type "list")(e0:b0.data=.seq L f0)(U:x≠y)(I:f.size+L.size<=aB)(O:Q () #[bu,h.update x (dB λX=>X.extract 0 #[kx].1.toNat++L++X.extract #[nn] X.size),t]):#[d1,tS #[K,x] #[K,s] #[K,y]]:=by
 obtain⟨M,G,p,B⟩:=id u;have a0:#[kO,s,"slice"]:=⟨M,G,p⟩;unfold tS;refine cf (ag (yK R z b ?_));refine ag (yL R k z b c yb ?_);refine nZ (a:="list") (b:="__setitem__") R z b (.inr (#[i])) #[ak] #[p] (Ou _ _ _) yb.plain Ox ?_;show#[ej,tp (.ref s)];refine ag ?_;unfold tp;refine#[bI,iZ,a0,slice_no_index];simp only[Option.isNone_none,if_true];refine az ?_;show#[ej,iY (.ref s)];refine#[bf,nS,a0];rw[#[eH]];rw[Py];refine#[bT,dS G B (x:=Y) rfl (ag (rk v ?_))];rw[#[bK,show¬((rawPart ab==cC 0)=ae)from ff]];refine#[cm,G,B,l,ag (rk H ?_)];refine#[cm,G,B,T,ag (rk J #[cA])];have d0:NQ #[K,x] #[K,y]=ai:=by simp[NQ,U]
 simp only[d0,fX,if_false];unfold ZD;refine#[bT,kO m ?_];rw[S,#[aQ,if_pos]];unfold NP;refine ag (kN m e0 #[cA]);refine#[bT,kN z Z #[cA]];refine#[cT,PD c0 a ab f.size #[z]];have e:(#[kx].2.2==1)=ae:=rfl;have n:NR (f.size+L.size)=ai:=by exact decide_eq_false (bK.mpr I)
 simp only[e,n,if_true,fX,if_false];refine ag (m:=updateSeq x _) (yG z Z ?_ (aH (hZ _ _) I) ?_);.exact ag (tU (az #[b4,az O]))
 .have c:#[kx].1.toNat<=#[nn]:=Int.toNat_le_toNat (Int.le_max_left _ _);rw[Mq,Mq,Cj,Cj];generalize#[nn]=r at c⊢;omega
end
section
variable{B:Bs}{w:aD}{n m k F0 t0 d:Nat}{S:Gm}{d0 g0 s0:#[n]}{U x0:#[o]}{H b0 o0 w0 m0:#[l]}{J:aN}{O:#[s]}{a b c o:aP}{i0 y0 p:aZ}{l:#[y]}{h0:#[ay]}{I n0:#[af]}
theorem Mc(h:#[et,aU v J,λo f=>#[et,aU q J,λi e=>∃x,o=.ref x/\#[et,#[cM,specialOf,x,ak "__getitem__"],λr g=>r=aa (.builtin "list.__getitem__")/\#[dS,#[cM,rd,x,i],g],e],f],s]):#[gJ,.Subscript v q i0]:=by
 refine ag (dk h (λo f C=>#[b6,dk C (λi e p=>#[a3,dI]) λ_ _ x=>x]) λ_ _ x=>x);obtain⟨x,rfl,S⟩:=p;refine ag ?_;refine ag (dk S (λr g j=>?_) λ_ _ z=>z);obtain⟨rfl,H⟩:=j;have d:∀Y,aw _ A (operate Y _) (λr g=>#[dS,rh v #[K,x] r>>=λ_=>av r,_]) E _:=λY=>PZ (dk H (λr g j=>ag (PU (az j))) λ_ _ x=>x);refine az (ag ?_);unfold subscripted;split;.exact d _
 .simp_all
 .exact d _
theorem Ev.Ql{i j r:Nat}{c0:aP}(G0:#[bH])(y:s0 "__getitem__"=ab)(f:#[aI,#[cc]])(R:#[bv,c0,#[T,(i:Int)]])(L:#[gC,o0])(j0:I.length<=aB)(P:o0.length=r)(p0:o0++[hA B (I.drop i)]=m0):#[gc,.Slice (aa c0) ab ab p,.ob r,m0]:=λA J O s Q E g M q=>by
 subst P p0;refine Mc (#[dU,f,λu0 k0 h0 m d0=>pk (dX.some R A J h0 k0 _ E g m.rel λC0 a0 N0 X y0=>dX.none A J N0 a0 _ E g X.rel λe0 v0 Y0 r0 U0=>?_)]);obtain⟨t0,rfl⟩:=y0;obtain⟨x0,rfl⟩:=U0;obtain⟨x,z,rfl⟩:=(d0.pre X.pre).pre r0.pre;obtain⟨Y,Q0,M0,l,a1,X0,C,F⟩:=r0.rel.acc z L;obtain⟨l0,c1,N,J0,I0,F0,H0,A0,i1,m1,L0,g0,E0,T0,Z0⟩:=G0.ex;have O0:#[hU,Y0,o0,v0,Y0,v0,#[d3,v0.heap.push,"slice",#[gg (aa (i:Int)|>.map λq=>(q,t0)),gg (ab.map λq=>(q,x0)),.none]]]:=aC.heap r0.rel (#[z]) #[e7];have b1:=#[aL,O0.rel.gh,g0,T0];have d1:=#[dG,E0.at',O0.rel.gh,Z0];have j1:=bM #[aR,"slice",.fields,#[gg (aa (i:Int)|>.map λq=>(q,t0)),gg (ab.map λq=>(q,x0)),.none]] l;obtain⟨G,R0,k1,e1,l1⟩:=v0;have h1:#[g9]:=X0.length;refine az #[dv,x,jK gW b1 d1 j1 rfl ph.lookup ?_];rw[y];refine#[aJ,Qn b1 d1 j1 rfl y rfl (tw ..) (.int _ _) .none .none #[z] ?_ (by rw[h1];exact j0)];rw[slicePick_from'];have g1:#[t,Y.toList.drop,i]=#[t,I.drop,i]:=by simp_all
 refine#[aE,#[cW,((m.trans X).trans r0).trans,O0,aC.push O0.rel rfl ⟨aT _,_,0,rfl,by omega⟩ #[av] (#[en]) λn S0 f1 T q0 w0 e=>?_],#[M,by rw[<-O0.rel.len];simp]];cases e;refine#[nZ,(λo f0 e F=>by rw[#[aT]]at e;cases e;cases F),M.slt.tab];rw[#[aT]]at e;cases e;exact#[cw,_,((X0.mono λv c u=>u.keep λt o _ e _=>bM _ e:aM (hr B (G.push {cls:=.type _,data:=.fields #[gg (aa _|>.map λq=>(q,t0)),gg (ab.map _),.none]})) _ _).drop i).mono λv c u=>u.keep λt o _ e _=>bM _ e]
def Di(B:Bs)(H:#[l])(j:Nat)(n0:#[af]):Prop:=#[aW,H,hA B n0]\/(n0=[]/\#[aX,H,j,[]])
theorem aF.pl(R:#[cC])(m:#[aW,O,y])(b:Di B H j n0):∃Y q,#[bl,y,⟨#[f4],ab,.seq Y q,#[]⟩]/\aM (hr B h) Y.toList n0:=by
 obtain b|⟨rfl,b⟩:=b;.obtain⟨o,N,_,Y,q,rfl,_⟩:=R.store j y _ m b;obtain⟨_,_,a⟩:=R.code j y _ m b;obtain⟨T,Q,F,d⟩:=a _ N;cases F;exact#[aC,q,N,d]
 .obtain⟨o,N,Y,q,rfl,z⟩:=R.store j y _ m b;refine#[aC,q,N,?_];generalize Y.toList=l at z;cases z;exact .nil
end
section
variable{B:Bs}{w:aD}{n m k F0 t0 d:Nat}{S:Gm}{d0 g0 s0:#[n]}{U x0:#[o]}{H b0 o0 w0 m0:#[l]}{J:aN}{O:#[s]}{a b c o:aP}{i0 y0 p:aZ}{l:#[y]}{h0:#[dB]}{I n0:#[af]}
theorem aj.pn{c0:#[a7,aP]}(F:#[w])(a1:#[bH])(v:s0 "__setitem__"=ab)(T:#[aI,.ob y])(f:#[bv,o,#[cc]])(r:dX B w n S c0 U o0 w1 w0)(B1:w1=aa #[v,i]\/(w1=ab/\i=0))(f0:#[gC,w0])(u:Di B w0 y n0)(F1:j≠y)(G0:S.fz<=j)(m:i<=I.length)(R0:I.length+n0.length<=aB)(G:∀J,#[hH,.Subscript o (.Slice c0 ab ab p) L])(S0:w0.set j #[gQ,I.take i++n0]=m0)(j0:#[hM]):#[eU,[.Subscript o (.Slice c0 ab ab p) L]]:=by
 refine#[e0,λo N0 c=>#[d6,N0=U,c=w0.set j #[gQ,I.take i++n0]],?_,λN0 c h=>#[R],λo N0 c f h=>#[dl,f]];refine PI (#[dU,T,λu0 k0 O0 t v0=>f A J O0 k0 _ E g t.rel λC0 r0 b1 q0 X0=>pk (r A J b1 r0 _ E g q0.rel λe0 U0 h1 T0 f1=>dX.none A J h1 U0 _ E g T0.rel λR n1 t1 c1 u1=>?_)]) (G J);obtain⟨t0,rfl⟩:=f1;obtain⟨x0,rfl⟩:=u1;obtain⟨x,z,rfl⟩:=(X0.pre T0.pre).pre c1.pre;obtain⟨e1,E1,rfl⟩:=((v0.pre q0.pre).pre T0.pre).pre c1.pre;obtain⟨l0,o1,N,J0,I0,F0,H0,A0,y1,H1,L0,y0,Y0,d1,i1⟩:=a1.ex;have j1:#[hU,t1,w0,n1,t1,n1,#[d3,n1.heap.push,"slice",#[gg (w1.map λq=>(q,t0)),gg (ab.map λq=>(q,x0)),.none]]]:=aC.heap c1.rel (by simp) #[e7];have P:=(((t.trans q0).trans T0).trans c1).trans j1;have m1:=#[aL,j1.rel.gh,y0,d1];have q1:=#[dG,Y0.at',j1.rel.gh,i1];obtain⟨Y,Q0,M0,v1,l1,g1,C,Z⟩:=j1.rel.acc z f0;obtain⟨p0,M1,G1,C1⟩:=j1.rel.pl E1 u;have x1:#[g9]:=g1.length;have J1:p0.size=n0.length:=C1.length;have z1:x≠e1:=λe=>F1 (il j1.rel.nodup z (e▸E1));obtain⟨E0,k1,I1,A1,L1⟩:=n1;refine az ?_;refine Qz (c0:=w1) m1 q1 v1 rfl v rfl (tw ..) (by cases w1;exact .none;exact .int _ _) .none .none G1 rfl rfl z1 #[R] ?_;refine q .next _ _ _ _ t1 #[b9] (P.trans (aC.acc (t:=A1) F.slt j1.rel z f0 G0 v1 l1 C Z ?_)) rfl
 have X:jx w1 ab ab Y.size=((i:Int),(Y.size:Int),1):=by
  rw[sliceBounds_plain];rcases B1 with rfl|⟨rfl,rfl⟩;.simp only[oS,tI];rw[kr (by rw[x1];exact m)]
  .rfl
 have a0:(max (jx w1 ab ab Y.size).1 (jx w1 ab ab Y.size).2.1).toNat=Y.size:=by rw[X];dsimp;omega
 have Z0:(jx w1 ab ab Y.size).1.toNat=i:=by rw[X];rfl
 rw[a0,Z0]
 have s1:((Y.extract 0 i)++p0++Y.extract Y.size).toList=Y.toList.take i++p0.toList:=by
  rw[wN,wN];have r1:(Y.extract 0 i).toList=Y.toList.take i:=by simp
  have p1:(Y.extract Y.size).toList=[]:=by simp
  rw[r1,p1,fy]
 rw[s1];exact(g1.take i).append C1
end
noncomputable def Fj:#[y]:=by run_tac au.dc ["_Accumulator","pop_from"]
noncomputable def Kv:bq:=by run_tac au.dd ["_Accumulator","pop_from"]
noncomputable def uj:#[y]:=by run_tac au.dc ["_Accumulator","reset"]
noncomputable def wg:bq:=by run_tac au.dd ["_Accumulator","reset"]
section
variable{B:Bs}{w:aD}{d0 g0 s0:#[n]}{I n0:#[af]}
structure mi(B:Bs)(f:ao)(j0:bq)(k:Nat)(r0:#[y])(b:#[L]):Prop where
 ex:∃f0 o,#[gE,f]/\#[dW]/\f0.scope=j0/\#[ka]/\f0.closure=[]/\f0.globals=ed/\f0.builtins=cS/\(#[mo])/\#[nY,#[c4],f0,((j0.names.map (·.1)).zip (l++b))]
 out:#[al,f]
theorem ep.AS{Q:#[g]}{H m0:#[g]}(F:#[w])(J:mi B f j0 k r0 Q)(Z:∀O,#[a6,Q,g])(P:iq j0 (k+g.length)=ae)(I:#[ei])(i:#[eG])(t:#[eF])(v:#[ci,H])(C:z.length=k)(b:#[jO,z++g])(u:S<=H.length)(M:H.length<=L)(h:#[nq,S]):ep B w (n+1) f z S H r m0:=λA O l s R a c j e q=>by obtain⟨f0,o,N,a0,G,E,d,m,p,x,y⟩:=J.ex;exact ep.run F J.out N a0 G E d m p x (y _ s (e.length.trans C) c) P I i t v (by rw[aV,C]) b u M h a c j (e.append (Z _)) q
theorem JP:iN (hA B I):=λO o⟨_,Y,k,_,_⟩g a S=>#[kN,λp0 n _ X=>by grind]
theorem Qu(F:#[w])(v:#[bH])(N:gp s0)(J:mi B 152 Kv 2 Fj [])(T i:Nat)(P:i<=I.length)(R:#[eJ]):ep B w 3 152 [.ob 1,.int (i:Int)] 0 #[bZ] (.ob 2) (bV B T (I.take i)++[hA B (I.drop i)]):=by refine ep.AS (L:=3) F J (λ_=>.nil) #[ak] rfl rfl rfl rfl rfl rfl #[aB] #[aZ] ?_;refine#[kZ,2,Ev.Ql v N.zY #[b5,0] #[b5,1] rfl (dz R) rfl rfl];refine aj.pn (y:=3) F v N.Bz #[mX] #[b5,0] (dX.some #[b5,1]) #[a0] rfl (.inr #[bS]) #[i] #[aB] P (by simpa using dz R) #[aj] rfl ?_;refine aj.ret #[b5,2] ?_;rw[show I.take i++[]=I.take i from fy _];refine cZ.of #[ao,2<3] #[aZ] (λi e0 P e=>?_) rfl;match i,P,e with|0,_,e=>cases e;exact aT _|1,_,e=>cases e;exact#[ao,2<=3]|2,_,e=>cases e;exact aT _
end
section
variable{B:Bs}{w:aD}{d0 g0 s0:#[n]}{I n0:#[af]}
theorem Qx(F:#[w])(v:#[bH])(N:gp s0)(J:mi B 182 wg 2 uj [])(T:Nat)(R:I.length+n0.length<=2^20):bG B w 3 182 [.ob 1,.ob 2] (bV B T I++[hA B n0]) .none (bV B 0 n0++[hA B n0]):=by refine(ep.AS F J (λ_=>.nil) #[ak] rfl rfl rfl rfl rfl rfl #[aB] #[aO] ?_).Cb rfl;refine aj.ite #[g2,#[b5,1],Ev.rD,St.kT.up] ?_;refine aj.nil ?_;refine aj.pn F v N.Bz #[b5,1] #[b5,0] dX.none (.inr #[bS]) rfl #[a0] #[i] #[aB] #[aB] (dz R) #[aj] rfl ?_;refine aj.setAttr 0 v Ev.mI #[b5,0] rfl cy.acc rfl #[i] #[aB] #[aB] #[aB] #[aO] trivial N.rV rY (show 1+1<=aB by decide) #[aj] rfl rfl ?_;refine aj.nil (cZ.ux #[aJ,cw.cons #[aB] oz #[av] #[iq,#[ao,2<=3],uc,#[aB],JP,λi e0 h=>by simp at h]] (.inr #[bS]) trivial rfl)
theorem Qy(F:#[w])(v:#[bH])(N:gp s0)(J:mi B 182 wg 1 uj [.none])(T:Nat)(R:#[eJ]):bG B w 3 182 [.ob 1] #[bZ] .none (bV B 0 []):=by refine(ep.AS (L:=2) (g:=[.none]) F J (λ_=>.cons rfl .nil) #[ak] rfl rfl rfl rfl rfl rfl #[aB] #[aO] ?_).Cb rfl;refine aj.ite #[g2,#[b5,1],Ev.rD,St.kT.up] ?_;refine#[kZ,1,#[mX]];refine aj.nil ?_;refine aj.pn (y:=2) F v N.Bz #[b5,1] #[b5,0] dX.none (.inr #[bS]) rfl (.inr #[bS]) #[i] #[aB] #[aB] (by simpa using dz R) #[aj] rfl ?_;refine aj.setAttr 0 v Ev.mI #[b5,0] rfl cy.acc rfl #[i] #[aB] #[aB] #[aB] #[aO] trivial N.rV rY (show 1+1<=aB by decide) #[aj] rfl rfl ?_;refine aj.nil ?_;refine#[ds,.inr #[bS],trivial,bx rfl,λi e0 P e=>?_];match i,P,e with|0,_,e=>cases e;exact aT _|1,_,e=>cases e;exact aO 2
end
section
variable{w:aD}{A:aR}{E:#[E]}{h:bk}{g:#[c5]}{d:hK}{t:Nat}{h0:gw}
variable{l0 q:aq}{C N x M0:ao}{J0:#[L]}{i:#[bw]}{P:#[L]}{j:Bool}{I0:#[eL]}{F0:#[a7,ao]}{H0 A0 t0 x0 L0:#[bP]}{F:String}{Y:#[be]}{Q0:Nat}{r0 m:#[n]}
theorem ua{G:aq}{v:af}{f:Bool}{Q:#[E]}(R:#[e1])(e:#[dT])(B:#[h4])(J:#[jk])(y:r0 G=ab)(c:#[fn,G])(a:#[bl,x,#[hW,.ref C,Q0]])(Z:h.Ns M0 m)(T:m G=aa v)(M:pe v=av v)(O:Q v #[gv]):#[d1,lL #[K,x] G f]:=by
 unfold lL tK;refine ag (tV (cf (ag (kO a (ag (ja R e gW Az ?_))))));rw[B];dsimp only;rw[#[bK,by simp]];unfold yp Ed DX DW;refine ag ?_;rw[if_pos (by rfl)];refine ja R e gW AA ?_;rw[J];refine ag (iF (cf ?_));rw[#[bK,by rw[#[co,ys (yi "list.__getattribute__")=ai],Ck];exact ff]];refine#[cT,xZ.bind _];refine dk (nZ (Q:=λr L=>r=v/\L=#[gv]) (E:=#[fY]) (a:="list") (b:="__getattribute__") R a rfl (.inr #[ak]) #[C] #[C] (Ot _ _) xZ.plain Po ?_) (λr L b=>?_) λ_ _ z=>z.elim;.unfold Builtin.«object.__getattribute__»;refine#[mU,G];dsimp only;refine#[c6,ag (kO a (ag ?_))];unfold Dn;refine ag (ja R e gW c ?_);rw[y];refine#[c6,ag (az ?_)];dsimp only;unfold NU NS NT;refine#[bT,ag (gx a ?_)];dsimp only;unfold rg;refine#[bf,gx,a];dsimp only;unfold classData;refine#[bT,kM R ?_];refine az ?_;rw[#[bK,show¬((!ae)=ae)from ff]];refine az ?_;show#[cQ,nsGet M0 G];refine mC Z ?_;rw[T];exact ag (hN (az (az #[cS,rfl])))
 .obtain⟨rfl,rfl⟩:=b;show#[cQ,pe r];rw[M];exact az O
end
section
variable{B:Bs}{w:aD}{n k d j:Nat}{S:Gm}{s0:#[n]}{U:#[o]}{H b0:#[l]}{o:aP}{y0:aZ}{I:#[af]}
theorem Ev.ua{G:aq}(y:#[bH])(p:#[b2,o,#[cc]])(b:#[gC,b0])(Z:b0[d]?=aa (bQ 0 j0))(q0:j≠d)(m:j0.lookup G=aa x)(c0:s0 G=ab)(h:#[fn,G])(L:#[eh])(e0:∀p0 r,rh o p0 r=av ()):#[b2,#[d5,G,y0],x]:=λA J O s Q E g M q=>by rw[tE,L _];refine ag (#[aA,p,λu0 k0 i c f=>?_]);obtain⟨g0,i0,rfl⟩:=f;obtain⟨Y,Q0,M0,t,P,_,_,_⟩:=c.rel.acc i0 b;obtain⟨m0,l,_,a,X,F,d0,n0,o0,h0⟩:=c.rel.store d _ _ P Z;obtain⟨v,T,f0,_⟩:=h0 _ x m;obtain⟨l0,a0,N,J0,I0,F0,H0,A0,t0,x0,L0,R,u,z,C⟩:=y.ex;refine#[g7];refine Mine.ua #[fi,R,z] #[i7,u.at',C] y.kV y.ox c0 h t ⟨_,_,_,l,F,d0,λ_=>rfl⟩ T (vk f0) ?_;rw[e0];exact#[c6,az (q v _ _ (c.toks _) f0)]
end
def nt(h:bk)(a:ao)(f:#[be]):Prop:=∃o,#[cu]/\∃n,#[fG,f,n]
section
variable{w:aD}{A:aR}{E:#[E]}{s:fR}
theorem Vi(G:s.heap.IsListIter d l i)(R:nt s.heap l f)(z:#[I,f,x])(g:∀c0,c0.IsListIter d l (i+1)->oX d s.heap c0->Q (aa x) #[h0]):#[gq,d]:=by obtain⟨o,p,X,Z⟩:=id G;obtain⟨O,N,a,I⟩:=R;refine ag (iF (lM G.typeIs ri (iG ri G.typeIs Pw ?_ (Pq _))));show aw _ _ (rb _ 0>>=_) _ _ s;refine#[cm,p,Z,.ref l,?_];refine#[cm,p,Z,.int i 0,?_];refine#[bI,kN,N,I];simp[Mx,z];refine ag (wpAny_setField p Z #[z] (az #[dv,x,az (g _ #[aC,tx _ p (OV (OU Z _)),(Obj.cls_mapFields ..).trans X,by rw[OU Z];simp[cC]] (oY ..))]))
theorem Vh(M:#[hh])(G:s.heap.IsListIter d l i)(R:nt s.heap l f)(z:f[i]?=ab)(g:∀c0,ye d s.heap c0->Q ab #[h0]):#[gq,d]:=by obtain⟨o,p,X,Z⟩:=id G;obtain⟨O,N,a,I⟩:=R;refine ag (iF (lM G.typeIs ri (iG ri G.typeIs Pw ?_ (Pq _))));show aw _ _ (rb (.ref d) 0>>=_) _ _ s;refine#[cm,p,Z,.ref l,?_];refine#[cm,p,Z,.int i 0,?_];refine#[bI,kN,N,I];simp[Mx,z];refine ag (hN (ag (wpAny_setField p Z #[z] ?_)));refine ag ?_;refine#[m1];refine jA ?_ (by size_fits);refine#[a3,Eu];rw[M];refine#[c6,EF ?_];refine ag (lO #[M,#[aT]] yr (az (g _ (((oY ..).extBut.push _).push _))))
end
theorem nt.at(x:nt h a f)(k:∀o,#[cu]->#[dw,a]):nt c0 a f:=let⟨o,e,r⟩:=x;#[aS,k _ e,r]
theorem LZ(M:#[hh])(I m:ao)(n:m≠I)(f:#[bE])(t:Nat->ao)(O:Nat->#[bE])(G:∀j,j<f.size->f[j]?=aa (.ref (t j)))(u:∀j,j<f.size->t j≠I):WalksU P0 w A I (I::m::(aW f.size).map t) [I] f.size (λj v=>v=O j) (λj h=>h.IsListIter I m j/\nt h m f/\∀k,k<f.size->h.IsTuple (t k) (O k)) (λj T h=>(j<f.size/\T=t j)/\h.IsListIter I m (j+1)/\nt h m f/\∀k,k<f.size->h.IsTuple (t k) (O k))where
 sub:=λb Z=>#[R]
 frame:=λ_ _ _ st C=>⟨st.1.at λo e=>C I #[z] o e,st.2.1.at λo e=>C _ #[z] o e,λk c=>(st.2.2 k c).at λo e=>C _ (dH _ (dH _ (bI.mpr #[au,k,eH.mpr c]))) o e⟩
 item:=λi s Q E P st g=>by refine Vi st.1 st.2.1 (G i P) λc0 r l=>?_;have p:=λk c=>(st.2.2 k c).extBut l.extBut (u k c);exact g _ _ _ _ rfl (p i P) ⟨#[bC,P],r,st.2.1.at (λo e=>l.extBut _ o n e),p⟩ λb o Z e=>l.extBut b o (λh=>Z (by simp[h])) e
 go:=λ_ _ _ _ _ s Q _ a g=>wpAny_letOwnedTupleGo_listiter a.2.1 (g _ a.2 λ_ _ _ e=>e)
 apart:=λj T _ a d=>by grind
 done:=λs Q E st g=>Vh M st.1 st.2.1 #[z] λc0 H=>g _ _ λb o Z e=>H b o (λh=>Z (by simp[h])) e
 self:=λ_ _ _ _ st g=>EC st.1 g
theorem YT{l:#[aG,Nat]}(M:WalksS k w A I F m G n P l):WalksS k w A I F m G (n+1) (λj v=>match j with|0=>False|j+1=>P j v) (λj s=>match j with|0=>False|j+1=>l j s)where
 sub:=M.sub
 grefl:=M.grefl
 gtrans:=M.gtrans
 frame:=λi s c0 p0 st n0 C=>match i,st with|i+1,st=>M.frame i s _ _ st n0 C
 item:=λi s Q E a st g=>match i,st,g with|i+1,st,g=>M.item i s Q E (Nat.lt_of_succ_lt_succ a) st g
 done:=λs Q E st g=>M.done s Q E st g
 self:=λi s Q E st g=>match i,st with|i+1,st=>M.self i s Q E st g
theorem QJ(a b:af):kB "sum" #[Y,[a,b]]:=#[p]
theorem AW(a:Int)(c:Nat->Int):∀n,kG (λj=>match j with|0=>a|j+1=>c j) (n+1)=a+kG c n|0=>by simp[kG]|n+1=>by rw[kG,AW a _ n];exact Int.add_assoc _ _ _
section
variable{w:aD}{A:aR}{E:#[E]}{s:fR}
theorem Rh{x:af}{a:Int}{T:fP}{Q:#[E]}(h:aw #[aH] A.in1 (kH x) (λd k=>∃I F m G n P l c,d=.ref I/\WalksS P0 w A.in1 I F m G n P l/\l 0 k/\(∀b∈F,b<k.heap.objs.size)/\(∀i v,P i v->NumOf (c i) v)/\∀L X,Moved m G k L->Q (.int (a+kG c n) X) L) E s):#[aM,#[jt,"sum",[x,.int a T]]]:=by
 refine call_function_tree aal aat aai (QJ _ _) ?_;unfold qR.«sum»;simp only[cc,et];rw[#[eH]];refine#[cT,#[co,ZC "sum" ["start"] 0 #[Y,[.int a T]]=av [aa (.int a T)]]];refine ag (dk h (λd k p=>?_) λ_ _ e=>e);obtain⟨I,F,m,G,n,P,l,c,rfl,M,Z,r,U,g⟩:=p;dsimp only;have t:=YT M;have z:∀i v,(match i with|0=>False|j+1=>P j v)->NumOf ((λj=>match j with|0=>a|j+1=>c j) i) v:=λi v y=>match i,y with|j+1,y=>U j v y;have H:kG (λj=>match j with|0=>a|j+1=>c j) 1=a:=by rw[AW];simp[kG]
 have u:=AW a c n;have q:k.heap.objs.size∉F:=λf=>fk _ (r _ f);split;.refine ag (hN (ag (wpAny_mkInt (ag (az ?_)))));simp only[lq,qy];refine#[bT,#[ix,PG]];simp only[fX,if_false];refine az (ag #[ix,sub_int_bytes]);simp only[fX,if_false];refine az (ag #[ix,PF]);simp only[fX,if_false];refine az (az ?_);refine#[a3,jA];refine az ⟨yt OE _,Pt t _ z k.heap.objs.size q n 1 _ k.toks 0 0 #[a0] #[f] #[f] (M.frame 0 k _ _ Z #[z] λb _ o e=>bM _ e) (by rw[H];exact#[aT]) λL X f=>?_⟩;rw[u];exact g L X (f.drop_new (by first|exact aO _|exact du _|omega))
 .refine#[a3,az];simp only[lq,qy];refine#[bT,#[ix,PG]];simp only[fX,if_false];refine az (ag #[ix,sub_int_bytes]);simp only[fX,if_false];refine az (ag #[ix,PF]);simp only[fX,if_false];refine az (az ?_);refine#[a3,jA];refine az ⟨yt OE _,Pt t _ z k.heap.objs.size q n 1 _ T 0 2 (.inr rfl) #[f] #[f] (M.frame 0 k _ _ Z (by first|exact aO _|exact du _|omega) λb _ o e=>bM _ e) (by rw[H];exact#[aT]) λL X f=>?_⟩;rw[u];exact g L X (f.drop_new (by first|exact aO _|exact du _|omega))
end
section
variable{M:Model}{A:aR}{E:#[E]}{s:fR}
theorem KV(z:x∈B.fb)(X:J.code=.ref x.c)(k:#[c4])(u:hq B)(g:∀y c0 p0,#[el]->(#[di,#[c7],#[al,b]])->GH B c0->#[kc,y]->#[al,y]->#[bN,y,#[ff]]):#[ey,genexprCode J x.pos x.qual d]:=KU z X k u (λh Q q=>wpAny_newCodeX λy _ c0 p0 C j _ a _ H=>q _ _ _ C j a.lt.1 H) g
end
section
variable{w:aD}{A:aR}{E:#[E]}{h:bk}{g:#[c5]}{d:hK}{t:Nat}{h0:gw}
variable{l0 q:aq}{C N x:ao}{J0:#[L]}{i:#[bw]}{P:#[L]}{j:Bool}{I0:#[eL]}{F0:#[a7,ao]}{H0 A0 t0 x0 L0:#[bP]}{F:String}{o:ck}{r0:#[n]}{f:#[be]}{Q0:Nat}
theorem EN{Q:#[E]}(a:#[e1])(b:#[dT])(z:#[cl])(X:#[dh])(f:r0 (ak "__iter__")=ab)(O:#[kf,#[lk]]):#[d1,#[ct,kH,x]]:=by
 have R:=El.lookup;refine ag (jK gW a b z X R ?_);rw[f];refine ag ?_;refine cf (ag (ag (jK gW a b z X R ?_)));rw[f];simp only[El.bind];refine ag (wpAny_askSetting (wpAny_ite ?_));have r:∀{e:#[E]},e (.ref h.objs.size) #[bu,#[lk],t]->aw #[aH] A #[jt,"list.__iter__",[#[am]]] e E #[bt]:=λc=>by refine nZ (a:="list") (b:="__iter__") a z X (.inr #[i]) #[ak] #[p] (args_list_iter _) El.plain entry_list_iter ?_;show#[cQ,do ret (<-Ej "list_iterator" [#[am],cC 0])];exact ag (jA (az #[b4,c]))
 split;.refine#[c6,#[cA]];refine ag (r #[cA]);exact ag (iZ #[M,#[aT]] ri.lookup (az O))
 .refine wpAny_tryCatch (ag (az (az ?_)));refine ag (r #[cA]);exact ag (iZ #[M,#[aT]] ri.lookup (az O))
end
structure Mt(B:Bs)(d0 g0:#[n])(j0:bq)(E0:List fD)(f0:gN):Prop where
 scope:f0.scope=j0
 zy:f0.closure=[]
 gl:#[hO]
 bl:#[hN]
 own:∀x∈E0,x∈B.fb/\#[gI,x.c]/\(f0.qualname++".<locals>.")++x.name=x.qual
section
variable{B:Bs}{w:aD}{n k:Nat}{d0 g0 s0:#[n]}{f:ao}{j0:bq}{r0:#[y]}{z:#[D]}{H m0:#[l]}{E0:List fD}
theorem fM.enter{T:#[s]->bk->af->Prop}(F:#[w])(o0:#[hv])(c1:iq j0 k=ae)(a1:#[ei])(Q0:#[eG])(T0:#[eF])(C:z.length=k)(h:∀(f0:gN)(A:aR)(O:#[s])(M:#[L])(L:ao)(s:fR)(Q:#[aG,hM])(E:#[E]),#[bk]->#[c4]->#[h1]->#[a6,M,z]->Mt B d0 g0 j0 E0 f0->#[dL,L,(λx=>((j0.names.map (·.1)).zip M).reverse.lookup x)]->#[ap,L]->L∉O->(∀f1 g,Fx B (L::O) s g->GH B g.heap->cI B O m0 g.heap->T O g.heap (match f1 with|.ret v=>v|_=>.none)->Q f1 g)->#[aM,fQ r0 (cM f0 L f)]):fM B w (n+1) f z H T m0:=λA O M s R j k0 h0 c0 q=>by
 obtain⟨f0,o,N,a0,G,b0,q0,y0,H0,⟨c,O0,X,t,G0,C0,N0,U0,d1⟩,e1,Y0⟩:=o0.ex;have n0:M.length=k:=c0.length.trans C;have h1:=c1;simp only[iq,fe,decide_eq_true_eq,eT]at h1;obtain⟨⟨⟨X0,b1⟩,A0⟩,R0⟩:=h1;have k1:=#[aL,k0,N,o0.out];have l:=#[aL,k0,N0,C0];refine ym (o:=o) (fd:=f0) (body:=r0) (binds:=(j0.names.map (·.1)).zip M) (by have:=j.depth;omega) k1 a0 (F.nl k0) ⟨c,O0,X,t,G0,l,U0,d1⟩ b0 (.of_eq (Y0 M n0)) (λx d e=>?_) (λx d=>?_) (λp0 I0 v0=>?_) (by rw[G];exact Q0) (by rw[G];exact T0) (by rw[G];exact a1);.rw[G]at d;have:=R0 x d;rw[e]at this;cases this
 .rw[G];obtain⟨i,P⟩:=gK.mp d;obtain⟨S,Y⟩:=oN.mp P;rw[cb]at S;obtain⟨p,U,g1⟩:=dP.mp S;have s0:i<k:=by rw[<-n0];exact#[U,Y]
  have Z0:#[kg,p]:=bC (i:=i) (by rw[es s0];exact U);have M0:=b1 _ Z0;simp only[beq_iff_eq]at M0;obtain⟨l0,F0⟩:=p;cases M0;rw[<-g1];exact lV X0 U
 have i0:#[Q,p0.objs.size]:=by obtain⟨o,_,_,e,_⟩:=I0;exact ea (bj e)
 have s0:#[kA]:=λa I=>by
  obtain⟨i,P⟩:=gK.mp I;have m:i<H.length:=by rw[<-h0.len];exact#[U,P]
  obtain⟨⟨o,e,_⟩,_⟩:=h0.store i a _ P (bB m);exact bj e
 have i1:=k0.grow i0 v0;have j1:cI B O H p0:=⟨h0.len,h0.nodup,h0.high,λi a e0 I Z=>by obtain⟨⟨o,S,Y⟩,u0⟩:=h0.store i a e0 I Z;exact⟨#[aS,v0 _ _ S,Y],u0.keep (λw0 t0=>by rw[v0 _ _ S]at t0;cases t0;exact S) λb w0 t0 _ _=>v0 _ _ t0⟩⟩;refine h f0 _ O M s.heap.objs.size _ _ _ ⟨j.handled,by have:=j.depth;show#[i8];omega,by have:=j.units;show A.units+3+8*n+8<_;omega⟩ i1 j1 c0 ⟨G,q0,y0,H0,e1⟩ I0 k0.1 (λJ=>#[g5,s0,J]) λf1 g x0 S0 L0 r=>?_;refine q _ g ?_ S0 L0 r;have J0:Fx B O s #[cN,p0,s.toks+((j0.names.map (·.1)).zip M).length]:=Fx.fU i0 #[dJ,v0];refine J0.trans x0 λy u=>?_;rcases bc.mp u with rfl|u;.exact .inr (aO _)
 .exact .inl u
end
section
variable{w:aD}{A:aR}{E:#[E]}{s:fR}{J:aN}{d0 g0 m:#[n]}
theorem GF(C:#[e8,J.scope.kind])(h:J.kindOf l0=aa .local)(o:(l0=="__debug__")=ai)(b:#[hi,J.kindOf,"len"])(S:#[dL,J.globals,d0])(Z:#[dL,J.builtins,g0])(a:#[mT])(U:#[dL,J.locals,m])(z:m l0=aa (.str x f))(R:x.length<=aB)(q:∀t p0,Q (.int x.length t) #[fF]):#[gJ,#[bO,#[aP,"len",G0],[.Name l0 E0],N0]]:=by
 refine ib (ho (tC C b (xT S a.1 Z a.2 ?_)) #[ak]);rw[dn _ _ rfl];refine kx (fV _ _) (eK ?_);refine iA (ho (ic C h U z (lE ?_)) o);have I:aB<2^63:=by decide
 refine OW #[f] (q _ _)
theorem RZ(C:#[e8,J.scope.kind])(N:J.kindOf (ak "fws")=aa .local)(a0:J.kindOf (ak "part")=aa .local)(c:#[hi,J.kindOf,"len"])(S:#[dL,J.globals,d0])(Z:#[dL,J.builtins,g0])(b:#[mT])(U:#[dL,J.locals,m])(z:m (ak "fws")=aa (.str x f))(a:m (ak "part")=aa (.str y F))(R:x.length<=aB)(H:y.length<=aB):#[et,aU (.BinOp #[bO,#[aP,"len",G0],[.Name (ak "fws") E0],N0] .Add #[bO,#[aP,"len",M],[.Name (ak "part") S0],R0] T0) J,λv L=>(∃t,v=.int (x.length+y.length) t)/\Keeps s L,s]:=by refine wpAny_BinOp (GF C N #[ak] c S Z b U z R λt p0=>?_);refine GF C a0 #[p] c S Z b U a H λn d=>(wpAny_add_int ⟨#[aU],_,_,rfl,λ_ _ e=>e⟩)
end
noncomputable def Fh:#[y]:=by run_tac au.dc ["_Accumulator","__len__"]
noncomputable def Ku:bq:=by run_tac au.dd ["_Accumulator","__len__"]
def qd(c P:ao):fD:=⟨c,P,⟨101,19,101,63⟩,ak "<genexpr>",ak "_Accumulator.__len__.<locals>.<genexpr>"⟩
def bP(I:#[af]):Nat:=(I.map λc=>c.1.length+c.2.length).sum
def vy(I:#[af])(i:Nat):Int:=#[v,(I[i]?.getD ([],[])).1.length]+#[v,(I[i]?.getD ([],[])).2.length]
theorem JU(I:#[g]):∀k,k<=I.length->kG (vy I) k=bP (I.take k)|0,_=>rfl|k+1,h=>by rw[kG,JU _ k #[f],xt,bP,bP,gJ];unfold vy;rw[#[G,bB]];simp
theorem LS{Y:#[bE]}(i:aM (hr B h) Y.toList I):∃f:Nat->ao×(aq×fP)×(aq×fP),∀j,(j<Y.size->Y[j]?=aa (.ref (f j).1)/\#[ap,(f j).1]/\h.IsTuple (f j).1 #[gV,(f j).2.1,(f j).2.1,(f j),(f j).2.2.2])/\#[e5,(f j).2.1.1,(I[j]?.getD ([],[])).1]/\#[e5,(f j).2.2.1,(I[j]?.getD ([],[])).2]:=by
 refine Classical.axiomOfChoice (r:=λj(z:ao×(aq×fP)×(aq×fP))=>(j<Y.size->Y[j]?=aa (.ref _)/\#[ap,z.1]/\h.IsTuple _ #[gV,z.2.1,z.2.1,z,z.2.2.2])/\#[e5,z.2.1.1,(I[j]?.getD _).1]/\#[e5,z.2.2.1,(I[j]?.getD _).2]) λj=>?_;by_cases e:j<Y.size
 .have X:j<I.length:=by rw[<-i.length];exact e
  obtain⟨u,g,t,rfl,n0,p0,n,F,d⟩:=i.get (bB _);have E:∃a k b m,p0=#[.str a k,.str b m]/\a.cps.toList=I[j].1/\b.cps.toList=I[j].2:=by obtain⟨l⟩:=p0;cases d with|cons N a0=>cases a0 with|cons a0 G=>cases G;obtain⟨a,k,rfl,c⟩:=N;obtain⟨b,m,rfl,Z⟩:=a0;exact⟨a,_,b,_,rfl,c,Z⟩
  obtain⟨a,k,b,m,rfl,c,Z⟩:=E;rw[bB X];exact⟨⟨t,(a,k),(b,m)⟩,λ_=>⟨by rw[<-jM];exact g,n0.1,#[a8,F,n]⟩,c,Z⟩
 .rw[(oM (by rw[<-i.length,gG];omega))];exact⟨⟨0,(#[du],0),(#[du],0)⟩,λh=>absurd h e,rfl,rfl⟩
section
variable{B:Bs}{w:aD}{d0 g0 s0:#[n]}{I:#[af]}
theorem cI.Ik{H:#[g]}(s:hq B)(R:cI B O H h)(k:#[di,#[al,b],#[cq]]):cI B O H c0:=by refine#[m3,?_];obtain⟨⟨o,F,d⟩,Q⟩:=#[gw];have c:=k a o (λn0=>#[a9,s.tab a n0,R.high a (bC I)]) F;exact⟨#[aS,c,d],Q.keep (λL w=>#[R]) λb L w _ Z=>k b _ Z w⟩
theorem vP(n:Nat):passing (λ_=>ae) n 0=aW n:=by unfold passing;simp
theorem ub(F:#[w])(Z0:#[bH])(N:gp s0){c P:ao}(O0:ba B 167 Ku 1 Fh [qd c P])(L1:d0 (ak "sum")=ab/\g0 (ak "sum")=aa (.builtin "sum"))(N0:#[mT])(T:Nat)(R:#[gW]):fM B w 2 167 [.ob 1] #[bZ] (λO _ u=>VR O u #[cf,T+bP I]) #[bZ]:=by refine fM.enter F O0 #[C] rfl rfl rfl rfl λf0 A O S L s Q E p G0 C0 y0 U e1 i2 p2 q=>?_;cases y0 with
|cons l a0=>
 cases a0;obtain⟨x,f,rfl⟩:=l;obtain⟨Y,Q0,M0,r,m1,i1,C,k0⟩:=C0.acc f rfl;obtain⟨⟨Z1,E0,_,w0,r1,l1,C1,a2,b2,N1⟩,_⟩:=C0.store 0 M0 _ m1 rfl;obtain⟨i0,g3,I1,_⟩:=N1 (ak "_initial_size") #[cf,T] rfl;obtain⟨d2,rfl⟩:=I1;obtain⟨l0,s1,J1,J0,I0,F0,H0,A0,t0,x0,L0,q0,Y0,d1,k1⟩:=Z0.ex;obtain⟨q1,c2⟩:=LS i1;have h2:#[g9]:=by rw[<-gG];exact i1.length
 have B1:#[e8,#[hY].scope.kind]:=by show f0.scope.kind=_;rw[U.scope];rfl
 have H1:#[kw,#[hY].kindOf]:=by show#[l7];rw[U.scope];decide+kernel
 have U1:#[hi,#[hY].kindOf,"sum"]:=by show#[l7];rw[U.scope];decide+kernel
 have N2:∀{h:bk},GH B h->h.Ns #[hY].globals d0:=λg=>by show qS _ f0.globals d0;rw[U.gl];exact F.gs g
 have e3:∀{h:bk},GH B h->h.Ns #[hY].builtins g0:=λg=>by show qS _ f0.builtins g0;rw[U.bl];exact F.bs g
 obtain⟨j1,G1,Q2⟩:=U.own _ (CM _);obtain⟨h,g,d,t,h0⟩:=s;refine lN (yB (ib (ho (tC B1 U1 (xT (N2 G0) L1.1 (e3 G0) L1.2 ?_)) #[C])));rw[dn _ _ rfl];refine kx (fV _ _) (eK ?_);refine iA ?_;refine PL p.handled rfl (cl:=[]) (by rfl) #[C] #[C] #[C] #[C] #[C] rfl (by have:=p.depth;omega) ?_ #[aj];refine ho (ic B1 H1 e1 rfl ?_) #[C];have n1:=#[aL,G0,q0,d1];have t1:h.Ns J1 s0:=#[dG,Y0.at',G0,k1];refine EN n1 t1 r rfl N.iter ?_;have w2:#[oa,#[lQ,h.push,#[am]]]:=λb e0 e=>bM _ e;have v2:=G0.grow (c0:=#[lk]) (by rw[cH];exact du _) w2;refine#[a4,F.nl v2];have j2:#[hY].qual++"<genexpr>"=(qd c P).qual:=Q2;rw[j2];refine KV (x:=qd c P) j1 G1 v2 F.slt λb1 a0 t2 x1 x2 v1 l2 g2=>?_;obtain⟨v0,h3,f1,o1,f2,u2,E2,F2,G2⟩:=F.bm;refine Eo (N2 v1) f1 o1 (v1.2.1 _ _ u2 f2) E2 F2 G2 ?_;have a1:∀b,b<h.objs.size->b≠h.objs.size:=λb Z=>cz Z;have M1:#[iG]:=#[n9];have O1:#[ap,h.objs.size]:=G0.1;have U2:#[ap,x]:=C0.high x (bC f);have J2:∀j,j<Y.size->(q1 j).1<h.objs.size:=λj m0=>let⟨_,e,_⟩:=((c2 j).1 m0).2.2;bj e;have s2:#[fQ,#[ap,b],#[cq],a0.get?]:=λb o Z e=>x2 b o (w2 b o e) (M1 b Z);have k2:h.objs.size<a0.objs.size:=by have:=x1;rw[cH]at this;exact this
 have I2:a0.get? h.objs.size=aa #[mY]:=x2 _ _ #[gr] (M1 _ O1);refine⟨h.objs.size,h.objs.size::x::(aW Y.size).map (λj=>(q1 j).1),[h.objs.size],Y.size,(λj v=>v=#[gV,(q1 j).2.1,(q1 j).2.1,(q1 j),(q1 j).2.2.2]),_,_,(λ_=>ae),(λi y=>∃t,y=.int (vy I i) t),rfl,(λy1 R0=>LZ R0 h.objs.size x (a1 _ (bj r)) Y (λj=>(q1 j).1) (λj=>#[gV,(q1 j).2.1,(q1 j).2.1,(q1 j),(q1 j).2.2.2]) (λj m0=>((c2 j).1 m0).1) (λj m0=>a1 _ (J2 j m0))),(λi Q1 e=>#[as,_,e]),?_,?_,F.nl v1,?_,?_,?_⟩;.refine⟨#[cS,I2],#[aC,s2 _ _ U2 r,_,rfl],λk C=>?_⟩;obtain⟨_,X0,B2⟩:=(c2 k).1 C;exact B2.at λo e=>s2 _ _ X0 e
 .intro b Z;rcases bc.mp Z with rfl|Z;.exact k2
  .rcases bc.mp Z with rfl|Z;.exact jr (bj r) k2
   .obtain⟨j,m0,rfl⟩:=bI.mp Z;exact jr (J2 j (eH.mp m0)) k2
 .intro J;have:ia=h.objs.size:=aY.mp J;obtain⟨p1,P2,_⟩:=F.nolimit;exact#[a9,P2.lt,this▸O1]
 .intro Z2 O2;have Y1:∀(o0:fR),(∀b∈aW a0.objs.size,b∉[h.objs.size]->∀o,Z2.get? b=aa o->o0.heap.get? b=aa o)->o0.heap.Ns ed d0/\o0.heap.Ns cS g0:=λo0 X1=>⟨#[k0,F.gs,v1,X1,λJ=>#[a9,F.g.lt,(aY.mp J)▸O1],O2],#[k0,F.bs,v1,X1,λJ=>#[a9,F.b.lt,(aY.mp J)▸O1],O2]⟩;refine⟨λy1 e2 i H r0 o0 X _ _ _ _ _ _ _ _=>?_,λy1 e2 i H r0 o0 X _ _ _ h1 _ c0 q2 r2 X1=>?_⟩;.rw[qy];exact az ⟨rfl,o0.heap,o0.toks,rfl,λ_ _ e=>e⟩
  .have R1:#[H,r0]=#[gV,(q1 i).2.1,(q1 i).2.1,(q1 i),(q1 i).2.2.2]:=h1;injection R1 with R1;injection R1 with n R1;injection R1 with Z _;subst n Z;obtain⟨Y2,F1⟩:=Y1 o0 X1;have u0:#[h9,(q1 i).2.1.1,#[kK]]:=St.oI (c2 i).2.1;have j0:#[h9,(q1 i).2.2.1,#[kJ]]:=St.oI (c2 i).2.2;have L2:#[fy,#[kK]]/\#[fy,#[kJ]]:=by cases X2:I[i]? with|none=>exact⟨aT _,aT _⟩|some A2=>exact R A2 (bC X2)
   refine dk (RZ (d0:=d0) (g0:=g0) rfl #[iw,"fws","len",.local] #[iw,"part","len",.local] #[iw,"len","len",.globalImplicit] ?_ F1 N0 c0 q2 r2 (by rw[u0];exact dz L2.1) (by rw[j0];exact dz L2.2)) (λv m G=>?_) λ_ _ z=>z;.show qS _ f0.globals d0;rw[U.gl];exact Y2
   .obtain⟨⟨b0,e⟩,T0⟩:=G;exact⟨⟨b0,by rw[e,u0,j0];rfl⟩,T0⟩
 .intro a S0 p0 g1 M2 n o2 y2 M A1;have z2:#[fQ,#[al,b],#[cq],S0.get?]:=λb o Z e=>y2 b o (x2 b o (w2 b o e) Z);have H2:GH B S0:=v1.grow (by rw[o2];exact eI (ea n)) y2;have a3:=#[aL,H2,q0,d1];have c3:S0.Ns J1 s0:=#[dG,Y0.at',H2,k1];have b3:S0.Ns L _:=e1.at' λo e=>z2 _ o (M1 _ i2) e;have f3:#[ap,M0]:=C0.high M0 (bC m1);refine iA ?_;rw[tE];refine ag (m:=aU #[aP,"self",_] #[hY]) (ho (ic B1 H1 b3 rfl ?_) #[C]);refine#[g7];refine Mine.ua a3 c3 Z0.kV Z0.ox N.rV rY (z2 _ _ (M1 _ U2) r) (m:=λy=>pg w0 y) ⟨Z1,w0,r1,z2 _ _ (M1 _ f3) E0,l1,C1,λ_=>rfl⟩ g3 rfl ?_;refine ag (cN (a:=()) rfl #[cA]);refine lE ?_;have C2:=tD (tD (tD M));have d3:=C2.frame 0 _ S0 (p0+1) A1 (du _) λb _ o e=>e;refine eR (Rh ?_);refine C2.self 0 _ _ _ d3 ⟨a,_,_,_,_,_,_,vy I,rfl,C2,d3,?_,?_,λm c1 J R2=>?_⟩
  .intro b Z;show b<S0.objs.size;rw[o2];rcases bc.mp Z with rfl|Z;.exact hG _
   .rcases bc.mp Z with rfl|Z;.exact kq n
    .exact kq (jr (eH.mp Z) n)
  .rintro i v⟨H0,n2,b0,rfl⟩;rw[vP]at n2;have:H0=i:=by obtain⟨l,a0⟩:=bu.mp n2;rw[xk]at a0;exact a0.symm
   subst this;exact .inl #[bC,b0]
  .have T2:#[fQ,#[al,b],#[cq],m.heap.get?]:=λb o Z e=>J.heap b o (λw1=>by
    have U0:=bj e;rcases bc.mp w1 with rfl|w1;.exact#[aN,U0,bK.mpr (ea k2)]
    .rw[aY.mp w1]at U0;exact fk _ U0) (z2 b o Z e)
   have u1:GH B m.heap:=v1.one F.slt O1 (bt.no I2 (λm2 P1 c1 E1=>by cases E1;exact#[fW]) λ_ _ E1=>by cases E1) (aH (by rw[o2];exact eI (ea n)) R2) λb o Z e=>J.heap b o (λw1=>by
    rcases bc.mp w1 with rfl|w1;.exact absurd (bj e) (fk _)
    .exact Z (aY.mp w1)) (y2 b o e)
   refine q _ m ⟨J.os,J.drawn,⟨?_,λh=>NG (h.push M2) J.gens⟩,?_,λb o e _ Z=>T2 b o Z e⟩ u1 (C0.Ik F.slt T2) #[a4,c1]
   .intro i y e;have U0:i<g.size:=(qq.mp e).1;have z1:#[I,(g.push g1),y]:=by rw[Mo,if_neg (cz U0)];exact e
    rcases J.gens with T1|⟨⟨_,T1⟩,_⟩;.rw[T1];exact z1
    .rw[T1 i (cz U0)];exact z1
   .exact aH (ea (jr k2 n)) (aH (by rw[o2];exact du _) R2)
   .show DT _ c1=_;rw[vP,gq,h2,JU _ _ #[aO],gL,Int.natCast_add]
end
theorem SY(x y:aq):(x++#[du]++y).cps.toList=x.cps.toList++y.cps.toList:=by show(x.cps++#[]++y.cps).toList=_;simp
section
variable{w:aD}{A:aR}{E:#[E]}{s:fR}{J:aN}{d0 g0 m:#[n]}
theorem Sa(C:#[e8,J.scope.kind])(N:J.kindOf (ak "fws")=aa .local)(a0:J.kindOf (ak "part")=aa .local)(Y:#[hi,J.kindOf,"EMPTYSTRING"])(S:#[dL,J.globals,d0])(g:d0 (ak "EMPTYSTRING")=aa (.str q I))(j:q.cps.toList=[])(U:#[dL,J.locals,m])(c:m (ak "fws")=aa (.str x f))(d:m (ak "part")=aa (.str y F))(R:x.length<=2^20)(H:y.length<=2^20)(P:(E0.endLine==M.line)=ae):#[et,aU #[bO,#[dH,#[aP,"EMPTYSTRING",G0],"join",E0],[.Tuple [.Name (ak "fws") S0,.Name (ak "part") R0] H0 N0],M] J,λv L=>(∃z t,v=.str z t/\z.cps.toList=x.cps.toList++y.cps.toList)/\Keeps s L,s]:=by have n:q=#[du]:=kg j;subst n;refine pj rfl (oh rfl (show 1<30 by decide)) P (dn M J rfl) ?_;refine ho (tC C Y (Dt S g ?_)) #[ak];refine⟨"str","str.join",lG,yc,DH,iE _ _ _,(λa h=>by cases h),?_⟩;refine kx (fV J _) (eK ?_);refine iA (yC ?_);refine iA (ho (ic C N U c ?_) #[p]);refine iA (ho (ic C a0 U d ?_) #[p]);refine lE ⟨(show 2<=aB by decide),lE ?_⟩;refine join_tuple #[a8,#[aT],_] (.cons _ _ (.cons _ _ .nil)) (by simp;have:#[bb,(#[du]:aq),0]:=rfl;omega) λX k=>?_;refine⟨#[cw,_,SY x y],_,k,rfl,#[e7]⟩
end
noncomputable def Fe:#[y]:=by run_tac au.dc ["_Accumulator","__str__"]
noncomputable def Ks:bq:=by run_tac au.dd ["_Accumulator","__str__"]
def qb(c P:ao):fD:=⟨c,P,⟨104,32,104,85⟩,ak "<genexpr>",ak "_Accumulator.__str__.<locals>.<genexpr>"⟩
def bA(I:#[af]):Tx:=(I.map λc=>c.1++c.2).flatten
def strVal(I:#[af])(i:Nat):Tx:=(I[i]?.getD ([],[])).1++(I[i]?.getD ([],[])).2
theorem Ym{P:Nat->af->Prop}(a:∀i v,P i v->∃z t,v=.str z t/\z.cps.toList=strVal I i)(h:ItemsOf P (yy l).toArray I.length):l.map (·.1)=(I.map λc=>c.1++c.2).map cq:=by
 obtain⟨N,a0⟩:=h;have R:=by simpa[yy]using N
 apply List.ext_getElem (by simp[R]);intro j S H;have b:=by simpa using S
 have X:=R▸b;obtain⟨z,t,F,d⟩:=a j _ (a0 j (.str l[j].1 l[j].2) (by simp[yy,b]));cases F;simp only[List.getElem_map];have:strVal I j=I[j].1++I[j].2:=by unfold strVal;rw[bB _];rfl
 rw[<-this,<-d];exact kg rfl
section
variable{B:Bs}{w:aD}{d0 g0 s0:#[n]}{I:#[af]}
theorem rr(F:#[w])(b1:#[bH])(N:gp s0){c P:ao}(S0:ba B 174 Ks 1 Fe [qb c P]){x1:aq}{b3:fP}(z2:d0 (ak "EMPTYSTRING")=aa (.str x1 b3))(G2:x1.cps.toList=[])(T:Nat)(R:#[gW])(q3:#[eJ])(H2:#[t,bA,I]<=2^20):fM B w 2 174 [.ob 1] #[bZ] (λO _ u=>VR O u #[cV,bA,I]) #[bZ]:=by refine fM.enter F S0 #[C] rfl rfl rfl rfl λf0 A O U L s Q E r R0 N0 G0 k0 g1 l2 s2 q=>?_;cases G0 with
|cons m a0=>
 cases a0;obtain⟨x,f,rfl⟩:=m;obtain⟨Y,Q0,M0,C,p1,k1,G,o0⟩:=N0.acc f rfl;obtain⟨⟨c2,O0,_,E0,u1,o1,H1,d2,e2,Q1⟩,_⟩:=N0.store 0 M0 _ p1 rfl;obtain⟨i0,p3,N1,_⟩:=Q1 (ak "_initial_size") #[cf,T] rfl;obtain⟨g2,rfl⟩:=N1;obtain⟨l0,v1,O1,J0,I0,F0,H0,A0,t0,x0,L0,C0,a1,f1,m1⟩:=b1.ex;obtain⟨t1,f2⟩:=LS k1;have k2:#[g9]:=by rw[<-gG];exact k1.length
 have G1:#[e8,#[jh].scope.kind]:=by show f0.scope.kind=_;rw[k0.scope];rfl
 have M1:#[kw,#[jh].kindOf]:=by show#[l7];rw[k0.scope];decide+kernel
 have Z1:#[hi,#[jh].kindOf,"EMPTYSTRING"]:=by show#[l7];rw[k0.scope];decide+kernel
 have U2:∀{h:bk},GH B h->h.Ns #[jh].globals d0:=λg=>by show qS _ f0.globals d0;rw[k0.gl];exact F.gs g
 have n3:∀{h:bk},GH B h->h.Ns #[jh].builtins g0:=λg=>by show qS _ f0.builtins g0;rw[k0.bl];exact F.bs g
 obtain⟨l1,L1,Z2⟩:=k0.own _ (CM _);obtain⟨h,g,d,t,h0⟩:=s;have e3:x1=#[du]:=kg G2;subst e3;refine lN (yB (pj rfl (oh rfl (show 1<30 by decide)) #[i] (dn _ _ rfl) ?_));refine ho (tC G1 Z1 (Dt (U2 R0) z2 ?_)) #[C];refine⟨"str","str.join",lG,yc,DH,iE _ _ _,(λa h=>by cases h),?_⟩;refine kx (fV _ _) (eK ?_);refine iA ?_;refine PL r.handled rfl (cl:=[]) (by rfl) #[C] #[C] #[C] #[C] #[C] rfl (by have:=r.depth;omega) ?_ #[aj];refine ho (ic G1 M1 g1 rfl ?_) #[C];have q1:=#[aL,R0,C0,f1];have w1:h.Ns O1 s0:=#[dG,a1.at',R0,m1];refine EN q1 w1 C rfl N.iter ?_;have A2:#[oa,#[lQ,h.push,#[am]]]:=λb e0 e=>bM _ e;have y2:=R0.grow (c0:=#[lk]) (by rw[cH];exact du _) A2;refine#[a4,F.nl y2];have m2:#[jh].qual++"<genexpr>"=(qb c P).qual:=Z2;rw[m2];refine KV (x:=qb c P) l1 L1 y2 F.slt λd1 a0 w2 B1 B2 z1 o2 j2=>?_;obtain⟨v0,r3,h1,r1,i2,x2,L2,M2,N2⟩:=F.bm;refine Eo (U2 z1) h1 r1 (z1.2.1 _ _ x2 i2) L2 M2 N2 ?_;have c1:∀b,b<h.objs.size->b≠h.objs.size:=λb Z=>cz Z;have P1:#[iG]:=#[n9];have R1:#[ap,h.objs.size]:=R0.1;have d3:#[ap,x]:=N0.high x (bC f);have Q2:∀j,j<Y.size->(t1 j).1<h.objs.size:=λj w0=>let⟨_,e,_⟩:=((f2 j).1 w0).2.2;bj e;have v2:#[fQ,#[ap,b],#[cq],a0.get?]:=λb o Z e=>B2 b o (A2 b o e) (P1 b Z);have n2:h.objs.size<a0.objs.size:=by have:=B1;rw[cH]at this;exact this
 have P2:a0.get? h.objs.size=aa #[mY]:=B2 _ _ #[gr] (P1 _ R1);refine⟨h.objs.size,h.objs.size::x::(aW Y.size).map (λj=>(t1 j).1),[h.objs.size],Y.size,(λj v=>v=#[gV,(t1 j).2.1,(t1 j).2.1,(t1 j),(t1 j).2.2.2]),_,_,(λ_=>ae),(λi y=>∃z t,y=.str z t/\z.cps.toList=strVal I i),rfl,(λC1 T0=>LZ T0 h.objs.size x (c1 _ (bj C)) Y (λj=>(t1 j).1) (λj=>#[gV,(t1 j).2.1,(t1 j).2.1,(t1 j),(t1 j).2.2.2]) (λj w0=>((f2 j).1 w0).1) (λj w0=>c1 _ (Q2 j w0))),(λi U1 e=>#[as,_,e]),?_,?_,F.nl z1,?_,?_,?_⟩;.refine⟨#[cS,P2],#[aC,v2 _ _ d3 C,_,rfl],λk G=>?_⟩;obtain⟨_,Z0,I2⟩:=(f2 k).1 G;exact I2.at λo e=>v2 _ _ Z0 e
 .intro b Z;rcases bc.mp Z with rfl|Z;.exact n2
  .rcases bc.mp Z with rfl|Z;.exact jr (bj C) n2
   .obtain⟨j,w0,rfl⟩:=bI.mp Z;exact jr (Q2 j (eH.mp w0)) n2
 .intro S;have:ia=h.objs.size:=aY.mp S;obtain⟨s1,Y2,_⟩:=F.nolimit;exact#[a9,Y2.lt,this▸R1]
 .intro i3 X2;have b2:∀(y0:fR),(∀b∈aW a0.objs.size,b∉[h.objs.size]->∀o,i3.get? b=aa o->y0.heap.get? b=aa o)->y0.heap.Ns ed d0/\y0.heap.Ns cS g0:=λy0 a2=>⟨#[k0,F.gs,z1,a2,λS=>#[a9,F.g.lt,(aY.mp S)▸R1],X2],#[k0,F.bs,z1,a2,λS=>#[a9,F.b.lt,(aY.mp S)▸R1],X2]⟩;refine⟨λC1 h2 i H r0 y0 X _ _ _ _ _ _ _ _=>?_,λC1 h2 i H r0 y0 X _ _ _ j1 _ m0 t2 u2 a2=>?_⟩;.rw[qy];exact az ⟨rfl,y0.heap,y0.toks,rfl,λ_ _ e=>e⟩
  .have X1:#[H,r0]=#[gV,(t1 i).2.1,(t1 i).2.1,(t1 i),(t1 i).2.2.2]:=j1;injection X1 with X1;injection X1 with p X1;injection X1 with Z _;subst p Z;obtain⟨h3,J1⟩:=b2 y0 a2;have u0:#[h9,(t1 i).2.1.1,#[kK]]:=St.oI (f2 i).2.1;have j0:#[h9,(t1 i).2.2.1,#[kJ]]:=St.oI (f2 i).2.2;have R2:#[fy,#[kK]]/\#[fy,#[kJ]]:=by cases g3:I[i]? with|none=>exact⟨aT _,aT _⟩|some F2=>exact R F2 (bC g3)
   refine dk (Sa (d0:=d0) rfl #[iw,"fws","EMPTYSTRING",.local] #[iw,"part","EMPTYSTRING",.local] #[iw,"EMPTYSTRING","EMPTYSTRING",.globalImplicit] ?_ z2 rfl m0 t2 u2 (by rw[u0];exact R2.1) (by rw[j0];exact R2.2) #[i]) (λv n J=>?_) λ_ _ z=>z;.show qS _ f0.globals d0;rw[k0.gl];exact h3
   .obtain⟨⟨z,b0,e,f3⟩,X0⟩:=J;exact⟨⟨z,b0,e,by rw[f3,(f2 i).2.1,(f2 i).2.2];rfl⟩,X0⟩
 .intro a U0 p0 i1 T2 p r2 C2 M F1;have E2:#[fQ,#[al,b],#[cq],U0.get?]:=λb o Z e=>C2 b o (B2 b o (A2 b o e) Z);have O2:GH B U0:=z1.grow (by rw[r2];exact eI (ea p)) C2;have k3:=#[aL,O2,C0,f1];have m3:U0.Ns O1 s0:=#[dG,a1.at',O2,m1];have l3:U0.Ns L _:=g1.at' λo e=>E2 _ o (P1 _ l2) e;have o3:#[ap,M0]:=N0.high M0 (bC p1);refine lE ?_;have J2:=tD (tD M);refine eR (SC.joinGen J2 (λi n st=>st.1.typeIs) F1 ?_ fB ?_ (λn l S n1=>?_) ?_)
  .intro b Z;show b<U0.objs.size;rw[r2];rcases bc.mp Z with rfl|Z;.exact hG _
   .rcases bc.mp Z with rfl|Z;.exact kq p
    .exact kq (jr (eH.mp Z) p)
  .rintro i v⟨H0,q2,z,b0,rfl,_⟩;exact#[au,z,b0]
  .rw[vP,gq,k2]at n1
   have j3:=Ym (I:=I) (λi v J=>by
    obtain⟨H0,q2,z,b0,e,f3⟩:=J;have:H0=i:=by obtain⟨m,a0⟩:=bu.mp q2;rw[xk]at a0;exact a0.symm
    subst this;exact⟨z,b0,e,f3⟩) n1
   rw[j3];refine⟨joinOk_of ?_,λe1 k a3=>?_⟩
   .have c0:(((I.map λc=>c.1++c.2).map cq).map (·.length))=(I.map λc=>c.1++c.2).map gI:=by rw[gr];exact lr λt _=>by simp[cq,DQ]
    rw[c0,<-CH];have q0:#[bb,(#[du]:aq),0]:=rfl;rw[q0,xE,qK];exact#[bD,H2]
   .have c3:#[fQ,#[al,b],#[cq],n.heap.get?]:=λb o Z e=>S.heap b o (λA1=>by
     have Y0:=bj e;rcases bc.mp A1 with rfl|A1;.exact#[aN,Y0,bK.mpr (ea n2)]
     .rw[aY.mp A1]at Y0;exact fk _ Y0) (E2 b o Z e)
    have y1:GH B n.heap:=z1.one F.slt R1 (bt.no P2 (λp2 T1 e1 I1=>by cases I1;exact#[fW]) λ_ _ I1=>by cases I1) (aH (by rw[r2];exact eI (ea p)) a3) λb o Z e=>S.heap b o (λA1=>by
     rcases bc.mp A1 with rfl|A1;.exact absurd (bj e) (fk _)
     .exact Z (aY.mp A1)) (C2 b o e)
    refine q _ {n with toks:=k} ⟨S.os,S.drawn,⟨?_,λh=>NG (h.push T2) S.gens⟩,?_,λb o e _ Z=>c3 b o Z e⟩ y1 (N0.Ik F.slt c3) #[cw,e1,?_]
    .intro i y e;have Y0:i<g.size:=(qq.mp e).1;have E1:#[I,(g.push i1),y]:=by rw[Mo,if_neg (cz Y0)];exact e
     rcases S.gens with Y1|⟨⟨_,Y1⟩,_⟩;.show n.gens[i]?=_;rw[Y1];exact E1
     .show n.gens[i]?=_;rw[Y1 i (cz Y0)];exact E1
    .exact aH (ea (jr n2 p)) (aH (by rw[r2];exact du _) a3)
    .show(DS #[du] _).cps.toList=_;unfold DS;rw[Pg];refine(vt [] _).trans ?_;rw[jE];rfl
  .rw[vP,gq,k2];exact dz q3
end
theorem IM:#[cY,"list","__len__","list.__len__"]:=by rw[cB,cA];kernel_rfl
theorem Ut:#[cY,"list","__str__","object.__str__"]:=by rw[cB,cA];kernel_rfl
section
variable{B:Bs}{w:aD}{n k d j r:Nat}{S:Gm}{s0:#[n]}{U:#[o]}{H:#[l]}{I:#[af]}
theorem Cl.ub(v:#[bH])(N:gp s0)(C0:bX B 167)(c:#[gC,H])(X:#[cg,fY,#[K,167],[.ob j],#[T,r],H])(f:r<2^62):bW B w (n+1) S #[cZ,"len"] [.ob j] U H #[T,r] H:=λA J O l s Q E g M T q=>by cases T with|cons a a0=>cases a0;obtain⟨x,z,rfl⟩:=a;obtain⟨Y,Q0,M0,p,F,t,C,Z⟩:=M.acc z c;obtain⟨l0,G,e0,J0,I0,F0,H0,A0,t0,x0,L0,R,i,m,y⟩:=v.ex;obtain⟨⟨q0,f0,b0,d0,g0⟩,c0⟩:=C0;refine len_own (⟨_,_,_,_,_,_,_,_,_,_,_,_,_,_,_,_,_,_,_,_,_,p,rfl,#[aL,M.gh,R,m],(i.at' λo e=>#[aL,M.gh,e,y]),N.len,(M.gh.2.1 _ _ b0 c0),d0,gW,IM⟩) (gi (X _ _ _ _ _ _ g.in1 M #[aY,#[au,x,z]] λu L b P h=>?_));obtain⟨h0,rfl⟩:=h;exact⟨_,_,rfl,oL _,#[f],#[aE,P.toks _,#[aU]]⟩
end
section
variable{w:aD}{A:aR}{E:#[E]}{s:fR}
theorem XN(h:aw #[aH] A.in1.in1 #[ct,Oe,x] (#[nf]) E s):#[aM,dQ (.type "str") [#[am]]]:=by
 refine callType_codes (Q₁:=λa f=>f.TypeIs a "str"/\Q a f) DA (PySem.F.typeCall_str_1 _) PySem.F.entry_object_init (yk #[C] PySem.F.entry_str_new (cN (PySem.F.newCall_str_1 _) ?_)) λa f O=>#[bL,O.1,PySem.F.args_object_init_2 a _];.rw[str_new_tree];refine#[a3,az];refine#[cT,isSubtype_str_str];refine ag (dk h (λr L Y=>?_) λ_ _ e=>e);obtain⟨z,t,rfl,O⟩:=Y;exact az ⟨iE _ _ _,O⟩
 .exact(object_init_meets DA.init.lookup DA.made #[ak]) P0 w A.in1 _ f #[dv,O.1,O.2]
theorem XP{h0:gw}{Q:#[E]}(X:h.OwnSpecial x C f T "__str__")(e:A.units<cLine)(H:#[et,#[cM,dQ,f,[#[am]]],#[nf],#[bt]]):#[et,#[ct,Oe,x],#[nf],#[bt]]:=by refine#[bf,wpAny_cRoomFor,e];refine ag (PM X (dk H (λr L Y=>?_) λ_ _ y=>y));obtain⟨z,t,rfl,O⟩:=Y;exact az ⟨z,t,rfl,O⟩
end
section
variable{B:Bs}{w:aD}{n k d j:Nat}{S:Gm}{s0:#[n]}{U:#[o]}{H:#[l]}{I:#[af]}{b0:Tx}
theorem Cl.rr(v:#[bH])(N:gp s0)(C0:bX B 174)(f:#[gC,H])(X:#[cg,fY,#[K,174],[.ob j],#[an,b0],H]):bW B w (n+2) S (.type "str") [.ob j] U H #[an,b0] H:=λA J O l s Q E g M T q=>by cases T with|cons b a0=>cases a0;obtain⟨x,a,rfl⟩:=b;obtain⟨Y,Q0,M0,p,F,t,C,Z⟩:=M.acc a f;obtain⟨l0,G,g0,J0,I0,F0,H0,A0,t0,x0,L0,R,m,r,y⟩:=v.ex;obtain⟨⟨q0,f0,c0,e0,h0⟩,d0⟩:=C0;have i0:=g.in1.in1;refine XN (XP ⟨_,_,_,_,_,_,_,_,_,_,_,_,_,_,_,_,_,_,_,_,_,p,rfl,#[aL,M.gh,R,r],#[dG,m.at',M.gh,y],N.str,#[aL,M.gh,c0,d0],e0,gW,Ut⟩ (by have:=i0.units;omega) (gi (X _ _ _ _ _ _ i0 M #[aY,#[au,x,a]] λu L c P h=>?_)));obtain⟨z,j0,rfl,i⟩:=h;exact⟨z,_,rfl,#[aE,P,⟨z,_,rfl,i⟩]⟩
end
theorem Uo:#[fn,"__bool__"]:=by rw[cB,cA];kernel_rfl
section
variable{w:aD}{A:aR}{E:#[E]}{h:bk}{g:#[c5]}{d:hK}{t:Nat}{h0:gw}
variable{l0 q:aq}{C N x f:ao}{J0:#[L]}{i:#[bw]}{P:#[L]}{j:Bool}{I0:#[eL]}{F0:#[a7,ao]}{H0 A0 t0 x0 L0:#[bP]}{F:String}{o q0:ck}{r0:#[n]}
theorem ER(c:#[e1])(l:#[dT])(z:#[cl])(b:#[dh])(Z:r0 (ak "__bool__")=ab)(R:r0 (ak "__len__")=aa (.ref f))(e:#[bl,f,q0])(p:#[gs])(H:aw #[aH] A.in1 #[cM,dQ,f,[#[am]]] (λr L=>∃n u,r=.int n u/\0<=n/\n<2^63/\Q (n !=0) {L with toks:=L.toks+1}) E #[bt]):#[d1,#[ct,truthy,x]]:=by have X:h.OwnSpecial x C f _ _:=⟨o,_,_,q,N,_,_,_,_,_,_,_,_,_,_,_,_,_,_,_,_,z,b,c,l,R,e,p,gW,IM⟩;refine ag ?_;refine ag (jK gW c l z b Uo ?_);rw[Z];refine az ?_;refine#[bf,wpAny_specialOf_own,X];refine ag (EE (yj PySem.entry_len ?_));rw[NM PySem.plain_len _];refine ag (m:=callSpecial? _ _) (PM X (dk H (λr L Y=>?_) λ_ _ y=>y));obtain⟨n,u,rfl,k,a,O⟩:=Y;refine#[b6,#[cA]];refine#[a3,tU];rw[#[fp]];rw[#[fp]];exact ag (wpAny_mkInt (az (az O)))
end
section
variable{B:Bs}{w:aD}{n k d j r:Nat}{S:Gm}{s0:#[n]}{U:#[o]}{H b0:#[l]}{I:#[af]}{a:aP}
theorem Et.acc(F:#[bH])(N:gp s0)(C0:bX B 167)(b:#[hc,a,#[cc],b0])(h:#[gC,b0])(X:fY B w n S #[K,167] [.ob j] U b0 #[T,r] b0)(i:r<2^62)(t:∀J n0,tN a J n0=(do
 let v<-n0;yw a.pos;tL [v] (truthy v))):Et B w (n+1) S a U H (r !=0) b0:=λA J O s Q E g M q=>by
 refine PT (#[aA,b,λu0 k0 G c l=>?_]) (t _ _);obtain⟨x,z,rfl⟩:=l;obtain⟨Y,Q0,M0,p,d0,a0,C,Z⟩:=c.rel.acc z h;obtain⟨l0,e0,j0,J0,I0,F0,H0,A0,t0,x0,L0,R,y,T,c0⟩:=F.ex;obtain⟨⟨q0,f0,g0,i0,m0⟩,h0⟩:=C0;refine ER #[fi,R,T] #[i7,y.at',c0] p rfl N.bool N.len #[fi,g0,h0] i0 (gi (X _ _ _ _ _ _ g.in1 c.rel #[aY,#[au,x,z]] λu L f P m=>?_));obtain⟨o0,rfl⟩:=m;refine⟨_,_,rfl,oL _,by omega,?_⟩;have e:(((r:Int))!=0)=(r !=0):=by rw[mh];simp
 rw[e];exact q _ _ ((c.trans P).toks _)
end
section
variable{B:Bs}{w:aD}{n k d j r:Nat}{S:Gm}{s0:#[n]}{U:#[o]}{H b0 o0:#[l]}{I:#[af]}{a b:aP}{i0:aZ}{v:V}
theorem Ev.pq(I:#[aI,#[cK,ae]])(Z:#[bv,b,v]):#[aF,.BoolOp .And [a,b] i0,v,o0]:=λA J O s Q E g M q=>by refine ag (#[aA,I,λu0 k0 G c f=>#[g7]]);cases f;refine rn (Z A _ _ _ Q E g c.rel λC0 m L y i=>#[aE,#[dj],i])
theorem Ev.ma(I:#[aI,#[cK,ai]])(Z:#[bv,b,v]):#[aF,.BoolOp .Or [a,b] i0,v,o0]:=λA J O s Q E g M q=>by refine ag (#[aA,I,λu0 k0 G c f=>#[g7]]);cases f;refine rn (Z A _ _ _ Q E g c.rel λC0 m L y i=>#[aE,#[dj],i])
theorem Ev.Vo(v:#[bH])(N:gp s0)(C0:bX B 167)(b:#[hc,a,#[cc],b0])(h:#[gC,b0])(X:fY B w n S #[K,167] [.ob j] U b0 #[T,r] b0)(i:r<2^62):#[hc,.UnaryOp .Not a i0,#[cK,!(r !=0)],b0]:=λA J O s Q E g M q=>by
 refine ag (#[aA,b,λu0 k0 G c l=>ag (dI (cf ?_))]);obtain⟨x,z,rfl⟩:=l;obtain⟨Y,Q0,M0,p,a0,F,C,Z⟩:=c.rel.acc z h;obtain⟨l0,c0,h0,J0,I0,F0,H0,A0,t0,x0,L0,R,t,y,T⟩:=v.ex;obtain⟨⟨q0,f0,d0,g0,j0⟩,e0⟩:=C0;refine cf ?_;refine ag (ER #[fi,R,y] #[i7,t.at',T] p rfl N.bool N.len #[fi,d0,e0] g0 (gi (X _ _ _ _ _ _ g.in1 c.rel #[aY,#[au,x,z]] λu L f P m=>?_)));obtain⟨m0,rfl⟩:=m;refine⟨_,_,rfl,oL _,by omega,az ?_⟩;have e:(((r:Int))!=0)=(r !=0):=by rw[mh];simp
 rw[e];exact#[aE,(c.trans P).toks _,rfl]
theorem Cl.isspace:#[fM,"str.isspace",[.str t],.bool (nN (cq t))]:=λA J O l s Q E g M T q=>by cases T with|cons N a0=>cases a0;obtain⟨x,f,rfl,e⟩:=N;rw[kg e];exact SC.isspace (q _ s _ #[eq] rfl)
end
noncomputable def Fi:#[y]:=by run_tac au.dc ["_Accumulator","is_onlyws"]
noncomputable def we:bq:=by run_tac au.dd ["_Accumulator","is_onlyws"]
section
variable{B:Bs}{w:aD}{d0 g0 s0:#[n]}{I:#[af]}
theorem adg:#[gO,#[bZ],#[bZ][0+i]?=aa (aX 0 e0)]:=λi e0 h=>by rw[gM,BE];exact h
theorem Qs(F:#[w])(G:#[W])(v:#[bH])(N:gp s0)(J:ba B 189 we 1 Fi)(c:bX B 167)(d:bX B 174)(M:bG B w n 167 [.ob 1] (bV B 0 I) #[T,(bP I:Int)] (bV B 0 I))(T:bG B w n 174 [.ob 1] (bV B 0 I) #[cV,bA,I] (bV B 0 I))(y:0<bP I)(Z:bP I<2^62)(H:d0 (ak "str")=ab/\g0 (ak "str")=aa (.type "str")):bG B w (n+3) 189 [.ob 1] (bV B 0 I) #[cK,nN (cq (bA I))] (bV B 0 I):=by
 refine#[gT,F,J,#[ak],#[p]];have j:cw 2 (bV B 0 I):=lP;have h:=by have:=bG.rE (S:=dD we) (U:=[#[ag],ab]) (v0:=[]) (M.le (du n)) rfl j j #[b1,by rw[aY.mp z];exact#[ao,1<2]];omega
 have a:=by have:=bG.rE (S:=dD we) (U:=[#[ag],ab]) (v0:=[]) T rfl j j #[b1,by rw[aY.mp z];exact#[ao,1<2]];omega
 have f:=λG0 E0=>by have:=Ev.Vo (i0:=E0) v N c (Ev.name (i0:=G0) 0 rfl rfl #[p]) rfl h Z;rwa[(by simp;omega:(!(bP I !=0))=ai)]at this
 refine aj.ret (Ev.pq (Ev.ht (Ev.ua v #[b5,0] rfl rfl #[i] rfl N.rV rY #[aj] #[ai]) Ev.mI St.zM.up (by rfl)) (Ev.ma (f _ _) ?_)) (cZ.hP lP trivial);refine Ev.iM (Ev.rF (cJ.eX F 1 rfl H.1 H.2 #[p]) rfl #[aY,#[b5,0]] (Cl.rr v N d rfl a)) rfl lG OJ OO rfl .nil Cl.isspace #[aj] #[p] #[i]
end
section
variable{B:Bs}{w:aD}{n k d j i c:Nat}{S:Gm}{s0:#[n]}{U:#[o]}{H b0 o0 w0:#[l]}{I:#[af]}{a b e:aP}{i0 L:aZ}{p:Tx×Tx}
theorem Ev.Qp(g0:#[bH])(N:gp s0)(c:#[aI,#[cc]])(Z:#[bv,b,#[T,i]])(t:#[gC,o0])(P:#[I,I,p])(T0:i<2^62)(X:(O0=0/\r=p.1)\/(O0=1/\r=p.2)):#[aF,.Subscript (.Subscript a b i0) (.Constant #[T,O0] c0 Z0) L,#[an,r],o0]:=λA J O s Q E g M q=>by refine lg (Mc (#[aA,c,λu0 k0 a0 h F=>#[c3,Z,h.rel,λC0 v h0 y d0=>?_]]));obtain⟨n0,rfl⟩:=d0;obtain⟨x,z,rfl⟩:=F.pre y.pre;obtain⟨Y,Q0,M0,f,w0,q0,C,m⟩:=y.rel.acc z t;obtain⟨l0,E0,N0,J0,I0,F0,H0,A0,t0,x0,L0,R,f0,j0,r0⟩:=g0.ex;have y0:=#[aL,y.rel.gh,R,j0];have G0:=#[dG,f0.at',y.rel.gh,r0];obtain⟨u,G,T,rfl,e0,p0,Y0,R0,v0⟩:=q0.get P;have m0:=h.trans y;refine#[dv,x,jK gW y0 G0 f rfl ph.lookup ?_];rw[N.zY];refine#[aJ,Qm y0 G0 f rfl N.zY rfl (by rw[<-jM];exact G) T0 ?_];refine rj ?_;refine⟨_,_,OL.lookup,#[M,R0],?_⟩;obtain⟨l⟩:=p0;cases v0 with
|cons U0 S0=>cases S0 with
|cons S0 X0=>
 cases X0;obtain⟨rfl,rfl⟩|⟨rfl,rfl⟩:=X;.exact DL R0 #[f] #[f] rfl rfl (#[aE,m0.toks _,U0.nil _])
 .exact DL R0 #[f] #[f] rfl rfl (#[aE,m0.toks _,S0.nil _])
end
section
variable{w:aD}{A:aR}{E:#[E]}{h:bk}{g:#[c5]}{d:hK}{t:Nat}{h0:gw}
variable{l0 q:aq}{C N:ao}{J0:#[L]}{i:#[bw]}{P:#[L]}{I0:#[eL]}{F0:#[a7,ao]}{H0 A0 t0 x0 L0:#[bP]}
theorem Ui(a:#[bl,C,eu l0 q C N J0 #[ev] ae i P ai I0 F0 H0 A0 t0 x0 L0 "list.__new__"])(O:R (.ok #[ct,.ret,h.objs.size+1]) #[bu,#[il,h.push,#[fv,C,.seq #[]]],t]):jv #[aH] A (.builtin "list.__new__" #[Y,.ref C::m]) R #[bt]:=by
 refine codeAny_builtin_stack aac rfl λp st=>?_;simp only[(owner_list_new)];refine#[bI,Ef,a,rfl];refine#[bf,jX,a];refine#[a3,az];refine#[nG];dsimp;repeat wp_step
 simp_all
theorem Uj(C:ao)(v:af):∀S,nJ "list.__new__"=aa S->oT "list.__new__" S #[Y,[.ref C,v]]=av ():=λS e=>by have:(match nJ "list.__new__"with|aa S=>oT "list.__new__" S #[Y,[.ref C,v]]|ab=>av ())=av ():=rfl;rw[e]at this;exact this
theorem Uk{v:af}{Q:#[aG,Unit]}(R:#[bl,C,eu l0 q C N J0 #[ev] ae i P ai I0 F0 H0 A0 t0 x0 L0 "list.__new__"])(O:Q () #[bt]):#[d1,lJ "list.__new__" #[Y,[.ref C,v]]]:=by have U:#[n3,[iD "list",.type "object"]]:=rfl;have a:pa "list.__new__"=aa .builtinFn:=#[p];have u:splitId "list.__new__"=aa ("list","__new__"):=rfl;simp only[lJ,a,u];rw[#[aQ,if_pos]];refine#[bI,Ef,R,rfl];rw[#[eH]];refine#[bf,jX,R];rw[U,#[eH]];refine#[bf,wpAny_staticBase_exc,R];refine#[bf,PX,R];dsimp only;rw[#[eH]];skip;cases H:nJ "list.__new__"with|none=>exact az O|some S=>exact cN (Uj C v S H) O
end
theorem Up:#[cY,"list","__init__","list.__init__"]:=by rw[cB,cA];kernel_rfl
section
variable{B:Bs}{w:aD}{d0 g0 s0:#[n]}
theorem Qr(F:#[w])(G:#[bH])(N:gp s0)(J:jB B d0 g0 137 sr 2 yT)(C0:bX B 137)(T:Nat):km B w 2 200 [#[ad,T]] (.ob 1) (bV B T []):=λA l s Q E f v r q=>by cases r with
|cons c a0=>
 cases a0;obtain⟨y0,rfl⟩:=c;obtain⟨l0,b0,v0,J0,I0,F0,H0,A0,t0,x0,L0,n,C,H,P⟩:=G.ex;have U:=#[aL,v,n,H];have j0:#[dL,v0,s0]:=#[dG,C.at',v,P];obtain⟨⟨q0,f0,i0,u0,w0⟩,o0⟩:=C0;have G0:=#[aL,v,i0,o0];obtain⟨h,g,d,t,h0⟩:=s;have c0:#[eD,h.get?,#[iI].get?]:=#[jq];have p0:#[iI].objs.size=h.objs.size+2:=by rw[cH,cH]
 have E0:#[iI].get? (h.objs.size+1)=aa #[fv,200,.seq #[]]:=by have:#[iI].get? #[i6].objs.size=aa #[fv,200,.seq #[]]:=#[aT];rwa[cH]at this
 have N0:#[n6,#[iI]]:=bM _ #[gr];refine uD (x:=h.objs.size+1) gW Up U j0 N.init G0 u0 c0 E0 rfl (λr0 R M=>yl (yt PySem.F.plain_list_new _) (Uk U (Ui U M))) ?_;have m0:=v.grow (c0:=#[il,h.push,#[fv,200,.seq #[]]]) (by rw[p0];exact hZ _ _) c0
 have M0:cI B #[iN] [bQ 0 [],dC B 2 0 []] #[iI]:=by
  refine⟨rfl,by simp,λa I=>?_,λi a e0 c a0=>?_⟩
  .simp at I;rcases I with rfl|rfl;.exact v.1
   .exact eI v.1
  .match i,c,a0 with|0,c,a0=>cases c;cases a0;exact⟨#[ml,N0,λe z=>#[aN,z,#[z]],(λy x m=>by cases m)],λo f0 p S=>by rw[N0]at p;cases p;cases S⟩|1,c,a0=>cases c;cases a0;refine⟨⟨_,E0,aO 2,rfl,rfl,#[i],⟨#[],0,rfl,rfl⟩,_,rfl,rfl⟩,(λo f0 e k=>by rw[E0]at e;cases e;cases k),λb Z=>⟨λn0=>#[a9,F.slt.tab b n0,Z.1],Z.2⟩,λo e=>?_⟩;rw[E0]at e;cases e;exact⟨#[],0,rfl,.nil⟩|i+2,c,a0=>simp at c
 refine gi (Qo F G N J T _ #[iN] [.ref (h.objs.size+1),.int #[v,T] y0] #[bu,_,t] _ (f.typeCall) m0 M0 (.cons #[M,rfl] #[aY,#[bC,y0]]) λu L O k0 Y j=>#[a4,j]);refine q _ L #[iN] ?_ k0 Y (λa I=>?_) #[M,rfl]
 .have X:Fx B [] #[bt] #[bu,#[il,h.push,#[fv,200,.seq #[]]],t]:=Fx.fU (X:=[]) (s:=#[bt]) (t:=t) (by rw[p0];exact hZ _ _) #[dJ,c0];refine X.trans O λy m=>.inr ?_;simp at m;rcases m with rfl|rfl;.exact aO _
  .exact du _
 .simp at I;rcases I with rfl|rfl;.exact aO _
  .exact du _
end
section
variable{B:Bs}{w:aD}{n:Nat}{S:Gm}{s0:#[n]}{U:#[o]}{H b0 o0:#[l]}{i0 p:aZ}
theorem Ev.FK(m:hc B C T v0 F k s0)(t:cJ B w n S #[bQ] #[K,C])(u:cv b=ae)(I:#[bx,cu,b,Y])(X:bW B w n S #[K,C] Y U b0 r o0):#[aF,#[cR,#[bQ],b],r,o0]:=λA J O s Q E g M q=>by refine#[jZ];rw[#[dE]];refine zo (fV _ _) (eK (#[aA,I,λl k0 G c f=>?_]));obtain⟨l0,j,o,J0,I0,F0,H0,A0,t0,x0,L0,R,d,h,e⟩:=m.ex;exact⟨⟨_,_,#[aL,c.rel.gh,R,h],rfl,rfl⟩,X A _ _ _ _ Q E g c.rel f λz a L y i=>#[aE,#[dj],i]⟩
end
noncomputable def Fg:#[y]:=by run_tac au.dc ["_ValueFormatter","__init__"]
noncomputable def Kt:bq:=by run_tac au.dd ["_ValueFormatter","__init__"]
abbrev sS(B:Bs)(L:#[n]):Prop:=hc B 116 "object" [.type "object"] "object.__new__" "object.__getattribute__" L
structure wV(L:#[n]):Prop where
 a1:L "_maxlen"=ab
 a2:L "_continuation_ws"=ab
 a3:L "_continuation_ws_len"=ab
 a4:L "_splitchars"=ab
 a5:L "_lines"=ab
 a6:L "_current_line"=ab
abbrev vd(N:Nat)(p0 j0:Tx):#[fk]:=[(ak "_maxlen",#[ad,N]),(ak "_continuation_ws",.str p0),(ak "_continuation_ws_len",#[ad,p0.length]),(ak "_splitchars",.str j0),(ak "_lines",.ob 2),(ak "_current_line",.ob 4)]
abbrev bo(B:Bs)(N:Nat)(p0 j0:Tx)(d:#[D])(T:Nat)(I:#[af]):#[l]:=[bQ 5 (vd N p0 j0),de 2 116 0 ab,.list d]++#[bZ].map (aX 3)
theorem IS:#[ck,"_maxlen"]:=by rw[cB,cA];kernel_rfl
theorem UB:#[ck,"_continuation_ws"]:=by rw[cB,cA];kernel_rfl
theorem UC:#[ck,"_continuation_ws_len"]:=by rw[cB,cA];kernel_rfl
theorem IT:#[ck,"_splitchars"]:=by rw[cB,cA];kernel_rfl
theorem IU:#[ck,"_lines"]:=by rw[cB,cA];kernel_rfl
theorem IV:#[ck,"_current_line"]:=by rw[cB,cA];kernel_rfl
section
variable{B:Bs}{w:aD}{d0 g0 s0 L:#[n]}
theorem Sn(F:#[w])(G:#[W])(z:sS B L)(n:wV L)(v:#[bH])(u:∀T,km B w 2 200 [#[ad,T]] (.ob 1) (bV B T []))(a:#[c8,"_Accumulator",200])(J:ba B 57 Kt 5 Fg)(T N:Nat)(p0 j0:Tx)(X:p0.length<=2^20):ep B w 3 57 [.ob 1,#[ad,T],#[ad,N],.str p0,.str j0] 0 #[l5] .none (#[bm,j0,[],T,[]]):=by
 refine ep.dM (L:=5) F J #[C] rfl rfl rfl #[C] rfl rfl rfl #[aB] #[i] ?_;refine#[iv,#[aD,2],n.a1,IS,show 0+1<=aB by decide];refine#[iv,#[aD,3],n.a2,UB,show 1+1<=aB by decide];refine#[iv,Ev.px (W.eX F G 5 0 rfl rfl #[C]) rfl #[aY,#[aD,3]] (Cl.Av (dz X) rfl),n.a3,UC,show 2+1<=aB by decide];refine#[iv,#[aD,4],n.a4,IT,show 3+1<=aB by decide];refine#[iv,#[mX],n.a5,IU,show 4+1<=aB by decide];refine#[iv,Ev.FK v (cJ.glob F 6 rfl a #[C]) rfl #[aY,#[aD,1]] ((u T).call #[aO] rfl (λe0 l R=>?_) rfl rfl),n.a6,IV,show 5+1<=aB by decide]
 .rcases bc.mp l with rfl|l;.exact#[fW]
  .rw[aY.mp l];exact#[fW]
 refine aj.nil #[ds,.inr #[bS],trivial,bx rfl,λi e0 P e=>?_];match i,P,e with|0,_,e=>cases e;exact aO 5|1,_,e=>cases e;exact#[ao,2<=5]|2,_,e=>cases e;exactλx h=>nomatch h|3,_,e=>cases e;exact#[ao,3<=5]|4,_,e=>cases e;exact aO 5
end
section
variable{B:Bs}{w:aD}{n f:Nat}{S:Gm}{U:#[o]}{N:Nat}{p0 j0:Tx}{d:#[D]}{T b:Nat}{I u:#[af]}{z:#[D]}{r:V}{v0:#[l]}
theorem pG(h:bG B w n f z #[bZ] r (bV B b u))(q:S.fz<=3)(X:#[b7,z,2]):fY B w n S #[cb] (z.map (ej 3)) U #[dk] (ej 3 r) (#[bm,j0,d,b,u]++v0):=by
 refine bG.call 3 h q ?_ (λi e0 e=>?_) lP lP X rfl rfl ?_;.rw[aV];exact hZ 5 _
 .match i,e with|0,e=>cases e;rfl|1,e=>cases e;rfl|i+2,e=>simp at e
 .rfl
end
theorem IP:#[fn,"push"]:=by rw[cB,cA];kernel_rfl
section
variable{w:aD}{A:aR}{E:#[E]}{h:bk}{g:#[c5]}{d:hK}{t:Nat}{h0:gw}
variable{l0 q:aq}{C N x M0 f:ao}{J0:#[L]}{i:#[bw]}{P:#[L]}{j:Bool}{I0:#[eL]}{F0:#[a7,ao]}{H0 A0 t0 x0 L0:#[bP]}{F:String}{Y:#[be]}{Q0:Nat}{r0 m:#[n]}{q0:ck}
theorem Qk{G:aq}{u:Bool}{Q:#[E]}(R:#[e1])(n:#[dT])(B:#[h4])(J:#[jk])(p:#[eC,G,f])(l:#[fn,G])(C0:#[bl,f,q0])(s:#[gs])(y:pS G=ae)(b:#[bl,x,#[hW,.ref C,Q0]])(c:h.Ns M0 m)(T:m G=ab)(O:#[bN,h.objs.size,#[bu,h.push (lY f x),t+1]]):#[d1,lL #[K,x] G u]:=by
 have S:#[lK,f]:=λ_=>#[as,C0,s];have u0:=II;have j0:=IK;have H:=IH;unfold lL tK;refine ag (tV (cf (ag (kO b (ag (ja R n gW Az ?_))))));rw[B];dsimp only;rw[#[bK,by simp]];unfold yp Ed DX DW;refine ag ?_;rw[if_pos (by rfl)];refine ja R n gW AA ?_;rw[J];refine ag (iF (cf ?_));rw[#[bK,by rw[#[co,ys (yi "list.__getattribute__")=ai],Ck];exact ff]];refine#[cT,xZ.bind _];refine dk (nZ (Q:=λr L=>r=.ref h.objs.size/\L=#[bu,h.push (lY f x),t+1]) (E:=#[fY]) (a:="list") (b:="__getattribute__") R b rfl (.inr #[C]) #[C] #[C] (Ot _ _) xZ.plain Po ?_) (λr L k=>?_) λ_ _ z=>z.elim
 .unfold Builtin.«object.__getattribute__»;refine#[mU,G];dsimp only;have v:=S (t+1);refine#[c6,ag (kO b (ag ?_))];unfold Dn;refine ag (ja R n gW l ?_);rw[p];repeat(first|(with_reducible refine mC c ?_;rw[T])|wp_step)
  rw[#[bK,show¬(([ak "__module__",ak "__name__",ak "__qualname__",ak "__doc__",ak "__annotations__"]:#[bw]).contains G=ae)from by unfold pS at y;simpa using y]];repeat wp_step
  have X:Pk [(f,q0)] h:=λa o e=>by
   rw[fO]at e;split at e;.rename_i Z;cases e;rw[beq_iff_eq.mp Z];exact C0
   .cases e
  refine Pl (K:=[(f,q0)]) X (by simp[Pm,s]) ?_;exact az #[cS,rfl]
 .obtain⟨rfl,rfl⟩:=k;show#[cQ,pe _];exact az O
end
section
variable{B:Bs}{w:aD}{n k d j:Nat}{S:Gm}{d0 g0 s0:#[n]}{U:#[o]}{H b0:#[l]}{J:aN}{O:#[s]}{I:#[af]}{i0:aZ}
theorem aF.Xi{i:Nat}(M:#[ah])(P:#[eA,.local])(T:#[I,U,ab])(q:∀L,#[aV,H,O,L]->(#[fQ,b≠J.locals,#[c7],L.heap.get?])->(∃m,L.heap.Ns J.locals m/\m l0=aa v)->Q () L):#[aM,yx J l0 v]:=by
 obtain⟨m,f,x⟩:=M.ns;have R:=M.kindOf P;have h0:∀j b0 d0,#[ex,b0,d0]->j≠i->b0≠l0:=λj b0 d0 g n e=>by subst e;exact n (il M.nd (a:=b0) (by rw[cb,g];rfl) (by rw[cb,P];rfl))
 refine Qd R f (λc0 g0 t=>q _ #[mH,#[as,g0,λj y g=>?_],λj a C I Z=>#[mQ,C,(t.2 a λe=>M.dT (e▸bC I)),t.2,jG,f]] (#[gi,t.2]) #[as,g0,by simp]) (by rw[M.gR];rfl);.exact M.gh.one M.slt M.hR (jG f) #[gp,t] #[gi,t.2]
 .have f0:j≠i:=λe=>#[R];obtain⟨b0,d0,N,a0⟩:=x j y g;refine#[bM,b0,d0,N];rcases a0 with⟨k,u,e,r⟩|⟨k,c,u,F,d,r⟩;.exact#[dI,k,u,by(simp);rw[#[bK,h0 j b0 d0 N f0]];exact e,r]
  .exact .inr ⟨k,c,u,F,d.sameBut t (M.cp _ (mem_of_lookup F)).2.1,r⟩
 .obtain⟨o,N,a0⟩:=M.store j a e0 I Z;exact#[ko,(t.2 a λe=>M.dT (e▸bC I))]
 .obtain⟨N,a0,G,u,l⟩:=M.cp r Y;exact⟨N,a0,G,u,l.sameBut t a0⟩
 .exact .fU (eC t.1.symm) λb o e z=>(t.2 b λh=>z (h▸.head _)).trans e
theorem fM.Rg{T:bk->af->Prop}(b:Nat)(h:fM B w n f z g (λ_ h u=>T h u) l)(j:S.fz<=b)(R:#[hV])(t:#[lv])(o:cw g.length g)(v:cw g.length l)(X:#[b7,z,g.length])(r:z.map (ej b)=Y)(Z:gX H b l=m0):#[cg,wR,#[cb],Y,λ_ h u=>T h u,m0]:=λA J O d s Q E a M e q=>by subst r Z;have k:=M.hP b R t o;refine gi (h A _ _ s _ a M.gh k ((lQ.mp e).qn X) λu L G m p c=>(q u _ _ (aC.hP b M j R o v k G m p) c))
theorem VQ(f:A.units<cLine)(n0:mE s.heap t c)(I:mE s.heap a e)(n:c≠e)(q:Q (.bool ae) s):#[aM,dj .NotEq #[K,t] #[K,a]]:=by obtain⟨Y,l0,N,a0⟩:=n0;obtain⟨l,o,G,b⟩:=I;obtain⟨Y⟩:=Y;obtain⟨l⟩:=l;cases a0 with
|cons M0 a0=>cases a0 with
|cons O a0=>cases a0;cases b with
|cons h0 b=>cases b with
|cons f0 b=>
 cases b;obtain⟨G0,A0,rfl,F⟩:=M0;obtain⟨E0,t0,rfl,d⟩:=O;obtain⟨y0,u0,rfl,g⟩:=h0;obtain⟨O0,j0,rfl,M⟩:=f0;refine Du (Pa (e:=λj=>if j=0 then G0==y0 else E0==O0) #[a8,N,_] #[a8,G,_] f λj S H=>?_) ?_;.match j,S with|0,_=>exact DO _ _ _ _|1,_=>exact DO _ _ _ _|j+2,S=>exact#[aN,S,#[z]]
 .have:(!((aW (min 2 2)).all (λj=>if j=0 then G0==y0 else E0==O0)&&2==2))=ae:=by show(!((G0==y0)&&((E0==O0)&&ae)&&ae))=ae;grind
  show Q (.bool (!((aW (min 2 2)).all _&&2==2))) s;rw[this];exact q
end
section
variable{B:Bs}{w:aD}{n k d j:Nat}{S:Gm}{d0 g0 s0:#[n]}{U:#[o]}{H b0:#[l]}{J:aN}{O:#[s]}{I:#[af]}{i0:aZ}
def iQ(B:Bs)(w:aD)(n:Nat)(S:Gm)(e:aP)(U:#[o])(H:#[l])(v:V):Prop:=#[mD,∀I p0,VR O I v->Q I #[fF]]
theorem iQ.ev(h:iQ B w n S e U H v):#[aF,e,v,H]:=#[kt,λI p0 r=>#[fI,r]]
theorem iQ.name{k:fC}(i:Nat){v:V}(T:#[bc,U,aa,v])(z:#[eB,k])(Z:#[kb]):iQ B w n S (.Name x i0) U H v:=λA J O s Q E _ M q=>by
 obtain⟨m,f,j⟩:=M.ns;obtain⟨l0,F0,N,a0⟩:=j i v T;have C:=M.kindOf N;rw[z]at N;cases N;refine ho ?_ Z;obtain⟨rfl,u,e,r⟩|⟨k,c,u,F,d,r⟩:=a0;.exact ic M.gR C f e (q _ _ r)
 .obtain rfl|⟨rfl,t⟩:=k;.exact Ey M.gR C F d (q _ _ r)
  .exact yE M.gR C F d (q _ _ r) t
theorem iQ.nU{G:aq}(m:#[l6])(p:iQ B w n S o U H #[ce])(P:#[cD,H])(h:#[eY])(Z:H[d]?=aa (bQ k j0))(y:i≠d)(b:j0.lookup G=aa x)(z:r0 G=ab)(j:#[d8,T,G])(L:#[eh])(I:∀c0 r,rh o c0 r=av ()):iQ B w n S #[d5,G,y0] U H x:=λA J O s Q E g M q=>by rw[tE,L _];refine ag (#[aA,p,λu0 p0 f=>?_]);obtain⟨a0,b0,rfl⟩:=f;obtain⟨s0,M0,Y,_,_,_,d0⟩:=M.inst b0 P h Z y;obtain⟨v,a,X,_⟩:=d0 _ x b;obtain⟨l0,u,N,J0,I0,F0,H0,A0,t0,x0,L0,R,c,l,t⟩:=m.ex;refine#[g7];refine AD m.mro m.ga (M.gh.2.1 _ _ R l) (c.at' λo e=>#[aL,M.gh,e,t]) m.kV z j Y a (vk X) ?_;rw[I];exact#[c6,az (q v _ X)]
theorem VY:pS (ak "push")=ae:=#[p]
theorem XC{A:aR}{s:fR}{Q E:#[E]}{t x:ao}{M0:ao}{c:Tx×Tx}{m X:#[n]}{Y:#[be]}{Q0:Nat}{u0:aq}{G0 E0:aZ}(F:#[w])(n:#[bH])(N:gp s0)(C0:bX B 144)(R:#[ah])(z:#[cd,x,#[hW,.ref 200,Q0]])(Z:#[dL,M0,X])(T0:X "push"=ab)(C:J.kindOf u0=aa .local)(I:(u0==("__debug__":aq))=ai)(d:#[dL,J.locals,m])(O0:m u0=aa (.ref t))(n0:mE s.heap t c)(i:∀l c0 p0,#[fo,l,#[fe,c.1,c.2]]->(#[fg])->#[el]->jv #[aH] A #[cM,.call,144,#[Y,#[am]::l]] (λr L=>match r with|.ok (.ret v)=>Q v L|.ok _=>False|.error e=>E e L) #[ff]):#[aM,do
 let(f,u)<-tL [#[am]] (do av (<-lL #[K,x] (ak "push") ae,([]:#[L])));let U0<-(av i0:dw aZ);lI U0 f u #[gb,[.Starred (.Name u0 G0) E0]] []]:=by
 obtain⟨l0,b0,o0,J0,I0,F0,H0,A0,t0,x0,L0,j,k,q,G⟩:=n.ex;have P:=#[aL,R.gh,j,q];have j0:#[dL,o0,s0]:=#[dG,k.at',R.gh,G];obtain⟨q0,f0,e0,m0,v0⟩:=C0.ex;have y0:=#[aL,R.gh,e0,C0.out];obtain⟨h,g,M,p0,h0⟩:=s;refine#[b6,ag (Qk P j0 n.kV n.ox N.push IP y0 m0 VY z Z T0 #[cA])];refine#[a3,az];have p:(h.push (lY 144 x)).get? h.objs.size=aa (lY 144 x):=#[aT];have r0:#[eD,h.get?,(h.push (lY 144 x)).get?]:=#[e7]
 show#[cQ,lI i0 #[K,h.objs.size] [] [(ae,(do
  let v<-aU (.Name u0 G0) J;yw i0;av v))] []]
 refine ks_call rfl (P:=λa0=>a0.get? h.objs.size=aa (lY 144 x)/\a0.get? 144=aa q0) (λa0 y=>#[as,.inr (.inr rfl),λk0 S0 w0 L R0 X0=>?_]) (ks_lone ?_);.unfold keeperOf;refine#[bf,kM,R0 _ _ y.1];dsimp only;rw[#[eH]];refine#[bf,kM,R0 _ _ y.2];rw[v0];exact az X0
 .refine ho (ic R.gR C (d.at' λo e=>r0 _ _ e) O0 ?_) I;obtain⟨l,Y0,a,a0⟩:=n0;have N0:=r0 _ _ a;unfold StarOf Pz;refine ag (iZ #[M,N0] PySem.F.slot_tuple_iter.lookup (az #[aJ,?_]));refine PN t (.inr rfl) N0 rfl rfl (λc0 T=>#[a4,⟨T _ _ p,T _ _ (r0 _ _ y0)⟩]) (by rw[<-gG,a0.length];exact(show 2<=aB by decide));refine gi (Ee (T _ _ p) ?_);refine i l.toList c0 _ a0 (λb o e=>T _ _ (r0 _ _ e)) ?_;refine aH (du _) ?_;have:=bj (T _ _ p);exact this
end
theorem Us:#[cY,"list","pop","list.pop"]:=ya.lookup
section
variable{B:Bs}{w:aD}{n k F0 g d j:Nat}{S:Gm}{d0 g0 s0:#[n]}{U:#[o]}{H b0:#[l]}{J:aN}{O:#[s]}{I:#[af]}{l:#[y]}{h0:#[ay]}
theorem aj.Wa{i:Nat}{c:Tx×Tx}{j0:#[fk]}{E1:aq}{o e1:aP}{p1 n1 G0 E0 N0 M S0 R0 T0 T k2 y0 O0 U0 X1:aZ}{A0 t0 x0:Nat}(F:#[w])(a1:#[bH])(N:gp s0)(Z1:bX B 160)(C0:bX B 144)(v:#[hc,o,#[cc],H])(i0:#[aW,H,#[gQ,#[aK]]])(a0:H[d]?=aa (bQ F0 j0))(a2:j≠d)(j2:#[er,(j0.lookup (ak "pop"))])(c2:#[er,(j0.lookup (ak "push"))])(b2:wR B w (n+1) S #[K,160] [.ob j] U H (λ_ h u=>hr B h u c) b0)(o1:iQ B w (n+1) S e1 U b0 #[cc])(P1:#[gC,b0])(L1:b0[d]?=aa (bQ g j0))(Y1:fY B w (n+1) S #[K,144] [.ob j,.str c.1,.str c.2] U b0 .none H)(L0:c≠([32],[]))(P:#[I,S.sc.names,(E1,.local)])(G:#[I,U,ab])(h1:(E1==("__debug__":aq))=ai)(s1:#[eg,"pop"])(A1:(p1.endLine==E0.line)=ae)(u1:∀J,ec e1 (ak "push") J (aU e1 J)=aU e1 J)(t1:∀J,jz #[bO,#[d5,ak "pop",p1],[],E0] (aa (.Name E1 G0)) N0.line J=av ai)(I1:∀J,jz #[bO,#[dH,e1,"push",n1],[.Starred (.Name E1 y0) O0],U0] ab X1.line J=av ai)(l0:aj B w (n+1) S l U H h0):aj B w (n+1) S (.Assign [.Name E1 G0] #[bO,#[d5,ak "pop",p1],[],E0] N0::.If (.Compare (.Name E1 M) [.NotEq] [.Tuple [.Constant #[cV,ak," "] A0 S0,.Constant #[cV,ak,""] t0 R0] x0 T0] T) [.Expr #[bO,#[dH,e1,"push",n1],[.Starred (.Name E1 y0) O0],U0] X1] [] k2::l) U H h0:=λA J O s Q E p a q=>by obtain⟨q0,f0,m1,v1,H1⟩:=Z1.ex;refine lN (yz (sR.lX (j0:=j0) (k:=F0) (Y:=[]) (o0:=H) a1 v i0 cy.acc a0 a2 j2 N.pop ⟨q0,m1,v1,H1⟩ Z1.out Us rfl .nil b2 s1 A1 #[i] A J O s _ E p a λu0 k0 H0 C Z0=>?_) (t1 J));obtain⟨t,rfl,n2,M1⟩:=Z0;refine aF.Xi C.rel P G λn0 m0 w1 L=>?_;obtain⟨m,L,Q1⟩:=L;have d2:mE n0.heap t c:=M1.keep λo e X=>w1 _ _ (λX0=>by subst X0;obtain⟨T1,I0,_⟩:=C.rel.ns;exact jG I0 X) e;have f2:=C.trans m0;have k1:=a.kindOf P;refine lN (wpAny_If (Ew (ho (ic a.gR k1 L Q1 ?_) h1) rfl));refine yC ?_;rw[dn T0 J rfl];refine iA (nQ (iA (nQ (lE #[a4,show 2<=aB by decide]))));have B1:∀b e0,n0.heap.get? b=aa e0->#[fC,n0.heap.push,.str (ak " ") n0.toks,.str (ak "") (n0.toks+1)].get? b=aa e0:=λb e0 e=>bM _ e;have J0:=aC.heap (t:=n0.toks+1+1) m0.rel (c0:=n0.heap.push #[aR,"tuple",.seq,#[.str (ak " ") n0.toks,.str (ak "") (n0.toks+1)]]) (by rw[cH];exact du _) B1;refine VQ (c:=c) (e:=([32],[])) (jR #[f] p.units) (d2.keep λo e _=>B1 _ _ e) #[aC,0,#[aT],.cons #[cS,_] #[aY,#[cS,_]]] L0 ?_;refine rn ?_;rw[#[cB]];refine lN (wpAny_Expr_any ?_ a.inter (I1 J));rw[tF,u1 J];refine ag (o1 A J H0 _ _ E p J0.rel λR m2 x1=>#[a3,dI]);obtain⟨x,z,rfl⟩:=x1;have c1:=J0.toks m2;obtain⟨Y,Q0,M0,U1,j1,_,_,_⟩:=c1.rel.acc z P1;obtain⟨C1,i1,r1⟩:=c1.rel.store d M0 _ j1 L1;obtain⟨_,o0,l1,F1,G1,z1,i2,_⟩:=r1;have g2:=f2.trans c1;refine XC F a1 N C0 c1.rel U1 (X:=λy=>pg o0 y) ⟨C1,o0,l1,i1,F1,G1,λ_=>rfl⟩ (i2 _ c2) k1 h1 (L.at' λo e=>B1 _ _ e) Q1 (d2.keep λo e _=>B1 _ _ e) λZ c0 p0 r0 b1 v0=>?_;have f1:=aC.heap (t:=p0) c1.rel v0 b1;have h2:=g2.trans f1;refine Y1 A J H0 (#[am]::Z) _ _ p f1.rel (.cons #[au,x,z] (r0.mono λ_ _ r=>VR.nil _ r)) λY0 J1 R1 q1 e2=>?_;refine PQ (l0 A J R1 J1 Q E p q1.rel λo w0 d1 f N1 O1 g1 y1 l2=>q o w0 d1 f N1 O1 g1 #[cW,h2.trans,q1,y1] l2)
end
theorem qa:aX 3 (dC B 2 0 I)=dC B 5 3 I:=by refine(λR C e P T h c0 k=>by subst e;rfl:∀R C e P T h c0 k,Ob.hp 5 R P T h k=Ob.hp 5 C P T c0 k) _ _ (funext λO=>funext λo=>?_) _ _ _ _ _;simp
theorem BC:aX 3 (bQ 0 [(y,.int i)])=bQ 3 [(y,.int i)]:=by
 have b:∀O o,kv 0 [(y,.int i)] (O.drop 3) o=kv 3 _ O o:=λO o=>by
  have:∀z x,[(y,V.int i)].lookup z=aa x->x=.int i:=λz x q=>by
   rw[fO]at q;split at q;.cases q;rfl
   .cases q
  refine propext ⟨λ⟨a,s,G,E,r,m,p⟩=>#[lh,m],λ⟨a,s,G,E,r,m,p⟩=>#[lh,m]⟩;all_goals obtain⟨v,S,H,A⟩:=p z x e;have:=this z x e;subst this;exact⟨v,S,H,trivial⟩
 exact(λR C e h c0=>by subst e;rfl:∀R C e h c0,Ob.rel 3 R h=Ob.rel 3 C c0) _ _ (funext λO=>funext λo=>b O o) _ _
structure fw(B:Bs)(w:aD)(d0 g0 s0 L:#[n]):Prop where
 F:#[w]
 G:#[W]
 Ca:#[bH]
 N:gp s0
 Cf:sS B L
 Nf:wV L
 push:∀(T:Nat)(I:#[af])(f p:Tx),#[eJ]->bG B w 6 144 #[jL] #[bZ] .none (bV B T #[fc])
 pop:∀(T:Nat)(I:#[af])(c:Tx×Tx),I.length+1<=2^20->fM B w 6 160 [.ob 1] (bV B T #[aK]) (λ_ h u=>hr B h u c) #[bZ]
 count:∀(T:Nat)(I:#[af]),bG B w 6 197 [.ob 1] #[bZ] #[cf,I.length] #[bZ]
 len:∀(T:Nat)(I:#[af]),(#[gW])->bG B w 6 167 [.ob 1] #[bZ] #[cf,T+bP I] #[bZ]
 str:∀(T:Nat)(I:#[af]),(#[gW])->#[eJ]->#[t,bA,I]<=2^20->bG B w 6 174 [.ob 1] #[bZ] #[cV,bA,I] #[bZ]
 only:∀(I:#[af]),(#[gW])->#[eJ]->#[t,bA,I]<=2^20->0<bP I->bP I<2^62->bG B w 6 189 [.ob 1] (bV B 0 I) #[cK,nN (cq (bA I))] (bV B 0 I)
 WD:∀(T:Nat)(I:#[af]),#[eJ]->bG B w 6 182 [.ob 1] #[bZ] .none (bV B 0 [])
 reset:∀(T:Nat)(I n0:#[af]),I.length+n0.length<=2^20->bG B w 6 182 [.ob 1,.ob 2] (bV B T I++[hA B n0]) .none (bV B 0 n0++[hA B n0])
 VZ:∀(T i:Nat)(I:#[af]),i<=I.length->#[eJ]->ep B w 6 152 [.ob 1,#[ad,i]] 0 #[bZ] (.ob 2) (bV B T (I.take i)++[hA B (I.drop i)])
 fo:∀a∈(#[kU]:#[s]),bX B a
 Vf:L "newline"=aa (.ref 78)
 QD:L "_append_chunk"=aa (.ref 113)
 QK:L "_ascii_split"=aa (.ref 106)
 XX:L "_str"=aa (.ref 64)
theorem Uq:#[fn,"is_onlyws"]:=by rw[cB,cA];kernel_rfl
theorem IQ:#[fn,"reset"]:=by rw[cB,cA];kernel_rfl
theorem fM.le{H m0:#[g]}(h:fM B w n f z H T m0)(U:n<=m):fM B w m f z H T m0:=#[kX]
theorem jC(R:#[b7,d,0]):cw 5 (#[bm,j0,d,T,I]):=#[aJ,cw.cons (aO 5) oz #[av] #[iq,#[ao,2<=5],HO,#[b1,(R x z).le (aT _)],iN.list,#[iq,#[ao,3<=5],λO o h=>oz _ o ⟨aT _,h.2⟩,aO 5,λO o h=>uc (B:=B) _ o ⟨by have:=h.1;rw[cR];exact#[G,Nat.le_sub_of_add_le],h.2⟩,λi x e=>by simp at e]]]
section
variable{B:Bs}{w:aD}{n:Nat}{S:Gm}{d0 g0 s0 L:#[n]}{U:#[o]}{N:Nat}{p0 j0:Tx}{d:#[D]}{T b:Nat}{I u:#[af]}{v0:#[l]}{a:aP}{p i0 y0:aZ}
theorem ve(h0:#[c0])(a:U[0]?=aa (aa (.ob 1)))(z:S.sc.names[0]?=aa (x,k))(Z:(x==("__debug__":aq))=ai):iQ B w n S #[dH,#[bQ],"_current_line",y0] U #[dk] (.ob 4):=iQ.nU h0.Cf (iQ.name 0 a z Z) rfl cy.de rfl #[i] rfl h0.Nf.a6 IV #[aj] #[ai]
theorem zU(h0:#[c0])(a:U[0]?=aa (aa (.ob 1)))(z:S.sc.names[0]?=aa (x,k))(Z:(x==("__debug__":aq))=ai):#[dR,#[dH,#[bQ],"_lines",y0],#[dk],.ob 2,#[dk]]:=Ev.nU h0.Cf (Ev.name 0 a z Z) rfl cy.de rfl #[i] rfl h0.Nf.a5 IU #[aj] #[ai]
theorem pH(h0:#[c0])(t:#[fR,G,f])(C0:f∈#[kU])(j:bg (.type "list") G=av y)(M:#[er,(([(ak "_initial_size",.int T)]:#[fk]).lookup G)])(p:#[dR,o,#[dk],.ob 4,#[dk]])(u:cv e=ae)(b:cu B w n S e U #[dk] Y o0)(X:#[hy,#[cb],.ob 4])(g:#[eh])(P:#[b3])(R:e.length<30):#[dR,#[fN,e],#[dk],r,w0]:=by obtain⟨q0,f0,a,a0,c⟩:=(h0.fo f C0).ex;exact Ev.lX h0.Ca p (congrArg _ qa) cy.acc (congrArg _ BC) #[i] M t #[aC,a,a0,c] (h0.fo f C0).out j u b X g P R
theorem Hp(h0:#[c0])(q:S.fz<=3)(a:#[gW])(Z:T+bP I<2^62)(f:6<=m):bW B w (m+1) S #[cZ,"len"] [.ob 4] U #[dk] #[eM,T+bP I] #[dk]:=Cl.ub h0.Ca h0.N (h0.fo _ #[i]) (congrArg _ qa) ((pG (h0.len _ _ a) q λx z=>by rw[aY.mp z];exact#[ao,1<2]).le f) Z
theorem Hs(h0:#[c0])(q:S.fz<=3)(a:#[gW])(R:#[eJ])(Z:#[t,bA,I]<=2^20)(f:6<=m):bW B w (m+2) S (.type "str") [.ob 4] U #[dk] #[cV,bA,I] #[dk]:=Cl.rr h0.Ca h0.N (h0.fo _ #[i]) (congrArg _ qa) ((pG (h0.str _ _ a R Z) q λx z=>by rw[aY.mp z];exact#[ao,1<2]).le f)
end
noncomputable def rz:#[y]:=by run_tac au.dc ["_ValueFormatter","newline"]
noncomputable def kZ:bq:=by run_tac au.dd ["_ValueFormatter","newline"]
section
variable{B:Bs}{w:aD}{n:Nat}{d0 g0 s0 L:#[n]}{N:Nat}{p0 j0:Tx}{d:#[D]}{I:#[af]}
structure hJ(I:#[af]):Prop where
 each:#[gW]
 len:I.length+1<=2^20
 sum:#[t,bA,I]<=2^20
theorem ke(I:#[g]):#[t,bA,I]=bP I:=by induction I with|nil=>rfl|cons c r Q=>unfold bA bP at*;simp[Q,qI]
theorem Sp(h0:#[c0])(J:ba B 78 kZ 1 rz)(c:Tx×Tx)(a:c≠([32],[]))(P:hJ (I++[c]))(y:0<bP (I++[c]))(w0:nN (cq (bA #[aK]))=ai)(R:#[b7,d,0])(C:d.length+1<=2^20):bG B w 10 78 [.ob 1] (#[bm,j0,d,0,#[aK]]) .none (#[bm,j0,d++[.str (bA #[aK])],0,[]]):=by
 have t:I.length+1<=2^20:=by have:=P.len;rw[aV]at this;simp at this;omega
 have g:bP (I++[c])<2^62:=by have:=P.sum;rw[ke]at this;omega
 have X:#[b7,([.ob 1]:#[D]),2]:=λx z=>by rw[aY.mp z];exact#[ao,1<2]
 have q:(dD kZ).fz<=3:=aT _;refine#[gT,h0.F,J,#[C],#[C]];have j:∀{f:ao}{r:V}{b:Nat}{E A:#[af]}{d:#[D]}{U:#[o]},bG B w 6 f [.ob 1] (bV B 0 E) r (bV B b A)->fY B w 6 (dD kZ) #[cb] [.ob 4] U (#[bm,j0,d,0,E]) (ej 3 r) (#[bm,j0,d,b,A]):=λ{f r b E A d U}h=>pG (U:=U) (N:=N) (p0:=p0) (j0:=j0) (d:=d) (v0:=[]) (S:=dD kZ) h q X;have l:∀{n:Nat}{p y0:aZ}{d:#[D]}{I:#[af]},iQ B w n (dD kZ) #[dH,#[aP,"self",p],"_current_line",y0] [#[ag],ab,ab,ab] (#[bm,j0,d,0,I]) (.ob 4):=λ{n p y0 d I}=>ve (N:=N) (p0:=p0) (j0:=j0) (d:=d) (T:=0) (I:=I) (v0:=[]) (U:=[#[ag],ab,ab,ab]) h0 rfl rfl #[C];refine aj.Wa (n:=8) (k:=5) (F0:=3) (g:=3) (I:=I) (b0:=#[bm,j0,d,0,I]) (c:=c) (i:=1) (d:=3) (j:=4) (j0:=[(ak "_initial_size",#[ad,0])]) h0.F h0.Ca h0.N (h0.fo 160 #[i]) (h0.fo 144 #[i]) l.ev (congrArg aa qa) (congrArg aa BC) #[i] rfl rfl (fM.Rg 3 ((h0.pop 0 I c t).le #[ao,6<=9]) q #[aZ] (λi e0 e=>?_) lP lP X rfl rfl) l (congrArg aa qa) (congrArg aa BC) ((pG (N:=N) (p0:=p0) (j0:=j0) (d:=d) (v0:=[]) (S:=dD kZ) (h0.push 0 I c.1 c.2 #[f]) q λx z=>?_).le #[ao,6<=9]) a rfl rfl #[C] #[aj] #[i] #[aj] #[aj] #[aj] ?_;.match i,e with|0,e=>cases e;rfl|1,e=>cases e;rfl|i+2,e=>simp at e
 .simp at z;rcases z with rfl|rfl|rfl;.exact#[ao,1<2]
  .trivial
  .trivial
 have o:=h0.only #[aK] P.each (by have:=P.len;omega) P.sum y g;rw[w0]at o;refine aj.ite #[g2,Ev.px (W.eX h0.F h0.G 2 0 rfl rfl #[C]) rfl #[aY,l.ev] (Hp (v0:=[]) (m:=8) h0 q P.each #[f] #[i]),W.ka (q:=0) rfl,St.vj.up] ?_;rw[show#[ax,0+bP (I++[c])>0]=ae from#[G,decide_eq_true],#[cB]];refine aj.ite (t:=ai) (Et.pw (dA.cons (t:=ai) (Et.val (x:=#[dt]) (pH (v0:=[]) (Y:=[]) h0 h0.N.VG #[i] Uq rfl l.ev rfl .nil ((j o).le #[ao,6<=9]).s #[aj] #[i] #[i]) rfl #[ai]) (dg.ue rfl))) ?_;rw[#[c1]];refine#[gZ,W.append (zU (v0:=[]) h0 rfl rfl #[C]) (Ev.rF (W.eX h0.F h0.G 3 11 rfl rfl #[C]) rfl #[aY,l.ev] (Hs (v0:=[]) (m:=7) h0 q P.each (by have:=P.len;omega) P.sum #[i])) #[bC,d] rfl #[aB] (by have:=dz C;omega) rfl rfl #[aj] #[i],?_];refine#[dF,?_];refine#[gZ,pH (v0:=[]) (d:=d++[.str (bA #[aK])]) (Y:=[]) h0 h0.N.reset #[i] IQ rfl l.ev rfl .nil ((j (h0.WD 0 _ (by have:=P.len;omega))).le #[ao,6<=9]).s #[aj] #[i] #[i],?_];refine aj.nil (cZ.zf (jC λx z=>?_));rcases cK.mp z with z|z;.exact R x z
 .rw[aY.mp z];trivial
end
noncomputable def uh:#[y]:=by run_tac au.dc ["_ValueFormatter","_str"]
noncomputable def wc:bq:=by run_tac au.dd ["_ValueFormatter","_str"]
theorem UG:#[ck,"newline"]:=by rw[cB,cA];kernel_rfl
theorem UD:#[ck,"_append_chunk"]:=by rw[cB,cA];kernel_rfl
theorem UE:#[ck,"_ascii_split"]:=by rw[cB,cA];kernel_rfl
theorem UH:#[ck,"_str"]:=by rw[cB,cA];kernel_rfl
section
variable{B:Bs}{w:aD}{n:Nat}{S:Gm}{d0 g0 s0 L:#[n]}{U:#[o]}{N:Nat}{p0 j0:Tx}{d:#[D]}{T:Nat}{I:#[af]}{v0:#[l]}{a:aP}{p i0 y0:aZ}
theorem Hr(h0:#[c0])(t:L G=aa (.ref f))(C0:f∈#[kU])(j:#[ck,G])(M:#[er,((vd N p0 j0).lookup G)])(p:#[dR,o,#[dk],.ob 1,#[dk]])(u:cv e=ae)(b:cu B w n S e U #[dk] Y o0)(X:#[hy,#[cb],.ob 1])(g:#[eh])(P:#[b3])(R:e.length<30):#[dR,#[fN,e],#[dk],r,w0]:=by obtain⟨q0,f0,a,a0,c⟩:=(h0.fo f C0).ex;exact Ev.lX h0.Cf p rfl cy.de rfl #[i] M t #[aC,a,a0,c] (h0.fo f C0).out j u b X g P R
theorem XO(o:#[g])(t:Tx):ah o++[.str t]=ah (o++[t]):=by simp[ah]
theorem Sq(h0:#[c0])(J:ba B 64 wc 2 uh)(U:ba B 78 kZ 1 rz)(c:Tx×Tx)(n:c≠([32],[]))(P:hJ (I++[c]))(y:0<bP (I++[c]))(w0:nN (cq (bA #[aK]))=ai)(C:o.length+1<=2^20)(Z:((o++[bA (I++[c])]).map gI).sum+(o++[bA (I++[c])]).length*f.length<=aB):bG B w 11 64 [.ob 1,.str f] (#[bm,j0,ah o,0,#[aK]]) (.str (bh f (o++[bA (I++[c])]))) (#[bm,j0,ah (o++[bA (I++[c])]),0,[]]):=by have R:#[b7,ah o,0]:=λx z=>qh x z;have a:=Sp (N:=N) (p0:=p0) (j0:=j0) h0 U c n P y w0 R (by simpa[ah]using C);rw[XO]at a;refine#[gT,h0.F,J,#[ak],#[p]];refine#[gZ,Hr h0 h0.Vf #[i] UG rfl #[b5,0] rfl .nil (bG.rE a rfl (jC R) (jC λx z=>qh x z) #[b1,by rw[aY.mp z];exact#[ao,1<5]]).s #[aj] #[p] #[i],aj.ret (W.join #[b5,1] (zU h0 rfl rfl #[p]) rfl rfl Z rfl rfl #[aj] #[p]) (cZ.hP (jC λx z=>qh x z) trivial)]
end
section
variable{B:Bs}{w:aD}{n:Nat}{S:Gm}{U:#[o]}{H m0:#[l]}
theorem ep.Rb{f:ao}{z Y:#[D]}{g c L:#[l]}{r v0:V}(b:Nat)(h:ep B w n f z 0 g r (c++L))(G:S.fz<=b)(k:b+g.length=H.length)(o0:#[lv])(i0:cw g.length g)(w0:cw g.length c)(k0:∀e0∈L,#[hF])(s0:#[b7,z,g.length])(j0:z.map (ej b)=Y)(x0:ej b r=v0)(c0:gX H b c++L.map (aX b)=m0):#[cg,fY,#[cb],Y,v0,m0]:=λA J O p s g0 j M E q=>by
 subst j0 x0 c0;have Q:=M.hP b (eC k) o0 i0;have A0:=M.len;have Z:#[jC]=O.drop b:=hY (by rw[cR];omega);have u0:=(lQ.mp E).qn s0;rw[Z]at Q u0;refine h A _ p s g0 j M.gh Q u0 λu d t y n0 h0 X l0 T=>?_;obtain⟨l,rfl⟩:=y;have b0:#[t,O.drop,b]=g.length:=by rw[cR];omega
 have t0:l.length=L.length:=by have:=l0.len;rw[aV,aV,b0,w0.len]at this;omega
 have E0:cI B (O.drop b) c d.heap:=by
  refine⟨b0.trans w0.len.symm,(qC.mp l0.nodup).1,λa I=>l0.high a (xn _ I),λi a e0 N a0=>?_⟩;have P:i<g.length:=by rw[<-b0];exact#[U,N]
  obtain⟨⟨o,F,C⟩,d0⟩:=l0.store i a e0 (gU (eB _ _) N) (gU (eB _ _) a0);refine⟨#[aS,F,?_],d0⟩;have:=C.take (j:=g.length) (w0.ok i e0 a0).1;rwa[<-b0,mq]at this
 have m:#[aV,gX H b c,O,d]:=aC.hP b M G (eC k) i0 w0 (by rw[Z];exact Q) (by rw[Z];exact h0) X (by rw[Z];exact E0);have v:(O++l).drop b=O.drop b++l:=#[G,lp];have p0:b<=(O++l).length:=by rw[aV];omega
 have C0:∀a∈l,#[Q,a]:=λa I=>(n0 a (tg _ I)).elim (λq=>#[dm,(qC.mp l0.nodup).2.2 a q a I]) id;refine q u d (O++l) ⟨eB _ _,λa I=>?_,?_,m.fx⟩ (oF.mpr (by rw[v];exact T));.rw[mM M.cX]at I;exact(cK.mp I).imp id λq=>C0 a q
 .have f0:∀(i:Nat)(a:ao)(q0:Ob),#[I,l,a]->#[I,L,q0]->(∃o,d.heap.get? a=aa o/\OR (O.drop b++l) o q0)/\iP B d.heap a q0:=λi a q0 N a0=>l0.store (g.length+i) a q0 (by rw[#[G,dZ],b0,xv];exact N) (by rw[dZ (by rw[w0.len];omega),w0.len,xv];exact a0);refine aF.ow (h:=s.heap) m.rel h0.size M.jj M.ji M.fT C0 (qC.mp l0.nodup).2.1 (by rw[aQ];exact t0) M.gh.1 (λi a e0 P r0=>?_) λi a e0 P r0=>?_;.rw[cb]at r0;obtain⟨q0,y0,rfl⟩:=dP.mp r0;obtain⟨⟨o,F,C⟩,_⟩:=f0 i a q0 P y0;exact#[aS,F,by rw[sA p0,v];exact C]
  .rw[cb]at r0;obtain⟨q0,y0,rfl⟩:=dP.mp r0;obtain⟨_,d0⟩:=f0 i a q0 P y0;refine(wi.mpr d0).ob λR e=>?_;cases q0 with|raw g0=>exact#[dm,k0 _ (bC y0) g0]|_=>cases e
end
noncomputable def kS:#[y]:=by run_tac au.dc ["_ValueFormatter","_append_chunk"]
noncomputable def hB:bq:=by run_tac au.dd ["_ValueFormatter","_append_chunk"]
noncomputable def adl:aL:=by run_tac au.rR `Mine.kS [1,0,0]
noncomputable def Sf:aL:=by run_tac au.rR `Mine.kS [1,0,0,0,0]
noncomputable def Hi:aL:=by run_tac au.rR `Mine.kS [1,0,0,0,1]
theorem Ur:#[fn,"pop_from"]:=by rw[cB,cA];kernel_rfl
def nq(I:#[af])(j c:Nat):Prop:=∃x,#[aW,I,x]/\x.2.getLast?=aa c
def iR(I:#[af])(c:Nat):#[a7,Nat]->Prop|aa i=>1<=i/\i<I.length/\nq I (i-1) c/\∀j,i<j->j<I.length->¬nq I (j-1) c|ab=>∀j,1<=j->j<I.length->¬nq I (j-1) c
section
variable{B:Bs}{w:aD}{d0 g0 s0 L:#[n]}{N:Nat}{p0:Tx}{d:#[D]}{T:Nat}{I:#[af]}{m:#[dB]}{f p:Tx}{i A b E:#[bh]}
abbrev jZ(f p:Tx)(E i A b:#[bh]):#[o]:=[#[ag],#[P,f],#[P,p],E,i,A,ab,b,ab,ab,ab]
abbrev cE:Tx:=[59,44]
theorem rq(h0:#[c0]):iQ B w n (dD hB) #[dH,#[aP,"self",G0],"_current_line",y0] (jZ f p E i A b) #[dk] (.ob 4):=ve h0 rfl rfl #[ak]
theorem zv(h0:#[c0])(c:Nat)(X:nN (cq [c])=ai)(o:∀x∈I,x.2≠[])(P:hJ I)(O:#[a7,Nat])(u:iR I c O)(a0:2<=I.length)(o0:∀k,O=aa k->∀A,m .brk (jZ f p (aa (.str [c])) (aa (.int #[bW])) A ab) (#[eE]))(j0:O=ab->∀i A,m .cont (jZ f p (aa (.str [c])) i A ab) (#[eE])):aj B w 9 (dD hB) [Sf,Hi] (jZ f p (aa (.str [c])) i A ab) (#[eE]) m:=by
 have t:#[eJ]:=by have:=P.len;omega
 refine aj.gS (c:=λk v s=>s=#[eE]/\(∃i A,v=jZ f p (aa (.str [c])) i A ab)/\∀j,1<=j->I.length-k<=j->j<I.length->¬nq I (j-1) c) 4 (cg.Ws (M:=I.length-1) (W.eX h0.F h0.G 9 1 rfl rfl #[C]) rfl (Ev.mH (pH (v0:=[]) (Y:=[]) h0 h0.N.count #[i] IL rfl (rq (v0:=[]) h0).ev rfl .nil ((pG (v0:=[]) (h0.count T I) #[aB] λx a=>by rw[aY.mp a];exact#[ao,1<2]).le #[ao,6<=9]).s #[aj] #[i] #[i]) (W.ka (q:=1) rfl) (St.iO #[f]).up) (W.ka (q:=0) rfl) (Ev.neg (W.ka (q:=1) rfl)) #[f] rfl) rfl #[a0] ⟨rfl,#[M,_],λj g G E=>by omega⟩ (λk v s⟨_,⟨_,_,e⟩,_⟩=>#[gG,by rw[e];exact bx rfl]) ?_ ?_ #[ai]
 .rintro k x v s a⟨rfl,⟨i0,m0,rfl⟩,F⟩_ _;have C:k<I.length-1:=by have:=#[U,a];simpa using this
  obtain rfl:x=.int #[v,#[hd]]:=by rw[cb,qz C]at a;exact(hk a).symm
  obtain⟨y,l⟩:∃y,I[#[hd]-1]?=aa y:=#[bF,#[G,bB]];have e0:=bC l;obtain⟨z,q⟩:∃z,y.2.getLast?=aa z:=by cases h:y.2.getLast? with|some z=>exact#[bC,z]|none=>exact absurd (List.getLast?_eq_none_iff.mp h) (o y e0)
  have c0:=(P.each y e0).2;refine aj.ite (t:=ai) (Et.val (x:=#[dt]) (Ev.iM (x:=.str [c]) (Y:=[]) #[aD,3] rfl lG OJ OO rfl .nil (by rw[<-X];exact Cl.isspace) #[aj] #[i] #[i]) rfl #[ai]) ?_;rw[#[c1]];refine aj.nil ?_;refine#[kZ,5,Ev.Qp (k:=5) (d:=3) (i:=#[hd]-1) (p:=y) (r:=y.2) (o0:=#[eE]) h0.Ca h0.N (rq (v0:=[]) h0).ev (Ev.mH #[aD,4] (W.ka (q:=1) rfl) (St.iO #[f]).up) (congrArg aa qa) l #[f] (.inr #[bS])];have k0:br y.2 (-#[a5])=aa z:=by have q0:y.2≠[]:=o y e0;have Q:0<y.2.length:=List.length_pos_iff.mpr q0;exact QL (i:=0) Q (by rw[<-q,List.getLast?_eq_getElem?];rfl)
  have n0:∀{b:Bool},(([z]:Tx)==[c])=b->_:=λ{b}Z=>Et.pw (i0:=⟨65,23,65,54⟩) (dA.cons (B:=B) (w:=w) (n:=9) (S:=dD hB) (I:=.And) (r:=b) (t:=ae) (b0:=#[eE]) (H:=#[eE]) (U:=jZ f p (aa (.str [c])) (aa (.int #[v,#[hd]])) (aa (.str y.2)) ab) (Et.val (x:=.str y.2) (Ev.name (x:=ak "prevpart") (i0:=⟨65,23,65,31⟩) 5 rfl rfl #[C]) ⟨dz c0,by cases h:y.2 with|nil=>exact absurd h (o y e0)|cons _ _=>rfl⟩ #[ai]) (dg.pq rfl (dA.cons (t:=b) (r:=b) (b0:=#[eE]) (by rw[<-Z];exact Et.ht (i0:=⟨65,36,65,54⟩) (Ev.LD (i0:=⟨65,36,65,48⟩) (Ev.name (x:=ak "prevpart") (i0:=⟨65,36,65,44⟩) 5 rfl rfl #[C]) (Ev.neg (i0:=⟨65,45,65,47⟩) (W.ka (k:=0) (i0:=⟨65,46,65,47⟩) (q:=1) rfl)) (dz c0) k0) (Ev.name (x:=ak "ch") (i0:=⟨65,52,65,54⟩) 3 rfl rfl #[C]) St.seq.up (by rfl)) (show dg B w 9 (dD hB) .And b [] _ _ b _ by cases b;exact dg.ue rfl;exact dg.pq rfl dA.yO))));by_cases f0:z=c
  .refine aj.ite (t:=ae) (n0 (by rw[f0];exact beq_self_eq_true _)) ?_;rw[#[cB]];refine aj.brk ?_;show aj B w 9 (dD hB) [Hi] _ _ m;refine aj.brk ?_;have Y:nq I (#[hd]-1) c:=⟨y,l,f0▸q⟩;cases O with
  |none=>exact#[aN,Y,u _ #[f] #[f]]
  |some i=>
   obtain⟨S,H,J,M⟩:=u
   have:i=#[hd]:=by
    rcases xA i (I.length-1-k)with h|h|h;.exact#[aN,Y,M _ h #[f]]
    .exact h
    .exact#[aN,J,F i S #[f] H]
   subst this;exact o0 _ rfl _
  .refine aj.ite (t:=ai) (n0 (beq_eq_false_iff_ne.mpr λe=>f0 (List.cons.inj e).1)) ?_;rw[#[c1]];refine#[dF,.inl ⟨rfl,#[M,_],λj g G E r=>?_⟩];by_cases n:j=#[hd];.subst n;obtain⟨U,b0,l0⟩:=r;rw[l]at b0;cases b0;rw[q]at l0;exact f0 (hk l0)
   .exact F j g #[f] E r
 .rintro v s⟨rfl,⟨i0,m0,rfl⟩,F⟩;refine aj.cont ?_;have R:#[t,(aW (I.length-1)).map,λk=>#[dA,#[hd]]]=I.length-1:=by simp
  rw[R]at F;cases O with|none=>exact j0 rfl _ _|some i=>exact#[aN,u.2.2.1,F i u.1 (by have:=u.1;omega) u.2.1]
end
section
variable{B:Bs}{w:aD}{d0 g0 s0 L:#[n]}{N:Nat}{p0:Tx}{d:#[D]}{T:Nat}{I:#[af]}{f p:Tx}
theorem EP:cw 3 (bV B T I++[hA B n0]):=#[aJ,cw.cons #[aB] oz #[av] #[iq,#[ao,2<=3],uc,#[aB],JP,λi x e=>by simp at e]]
theorem Qi:#[b7,#[jL],2]:=λx z=>by
 simp at z;obtain rfl|rfl|rfl:=z;.exact#[ao,1<2]
 .trivial
 .trivial
noncomputable def EL:#[y]:=match kS with|_::.If _ (_::l) _ _::_=>l|_=>[]
theorem EJ(h0:#[c0])(R:#[eJ])(P:(n.endLine==N0.line)=ae)(h:aj B w 9 (dD hB) l (jZ f p ab ab ab ab) (#[bm,cE,d,T,#[fc]]) m):aj B w 9 (dD hB) (.Expr #[bO,#[dH,#[dH,#[aP,"self",G],"_current_line",t],"push",n],[.Name (ak "fws") G0,.Name (ak "string") E0],N0] M::l) (jZ f p ab ab ab ab) (#[eE]) m:=#[gZ,pH h0 h0.N.push #[i] IP rfl (rq h0).ev rfl (.cons #[kF,1] #[aY,#[b5,2]]) ((pG (h0.push _ _ f p R) #[aB] Qi).le #[i]).s #[aj] P #[aZ],h]
theorem EK(h0:#[c0])(P:hJ I)(S:T<=2^20):Et B w 9 (dD hB) (.Compare #[bO,#[aP,"len",G0],[.Attribute #[aP,"self",E0] (ak "_current_line") N0],M] [.Gt] [.Attribute #[aP,"self",S0] (ak "_maxlen") R0] T0) (jZ f p ab ab ab ab) (#[eE]) (decide (T+bP I>N)) (#[eE]):=Et.ht (Ev.px (W.eX h0.F h0.G 8 0 rfl rfl #[ak]) rfl #[aY,(rq h0).ev] (Hp h0 #[aB] P.each (by have:=P.sum;rw[ke]at this;omega) #[i])) (Ev.nU h0.Cf #[b5,0] rfl cy.de rfl #[i] rfl h0.Nf.a1 IS #[aj] #[ai]) St.vj.up (by rfl)
theorem Sm(h0:#[c0])(J:#[jB])(P:hJ (I++[(f,p)]))(S:T<=2^20)(M:T+bP (I++[(f,p)])<=N)(R:#[b7,d,0]):bG B w 10 113 #[jL] (#[eE]) .none (#[bm,cE,d,T,#[fc]]):=by refine#[gT,h0.F,J,#[ak],#[p]];refine EJ h0 (by have:=P.len;rw[aV]at this;omega) #[p] ?_;refine aj.ite (EK h0 P S) ?_;rw[#[G,decide_eq_false]];exact#[dF,cZ.zf (jC R)]
theorem Sr(h0:#[c0])(J:#[jB])(P:hJ (I++[(f,p)]))(n:∀x∈I++[(f,p)],x.2≠[])(S:T<=2^20)(y:N<T+bP (I++[(f,p)]))(i:Nat)(q:iR #[fc] 59 (aa i)\/(iR #[fc] 59 ab/\iR #[fc] 44 (aa i)))(C:d.length+1<=2^20)(g:#[b7,d,0]):bG B w 10 113 #[jL] (#[eE]) .none (#[bm,cE,d++[.str (bA (#[fc].take i))],0,#[fc].drop i]):=by
 have t:#[eJ]:=by have:=P.len;rw[aV]at this;omega
 have b:1<=i/\i<#[fc].length:=q.elim (λh=>⟨h.1,h.2.1⟩) λh=>⟨h.2.1,h.2.2.1⟩;refine#[gT,h0.F,J,#[C],#[C]];refine EJ h0 t #[i] ?_;generalize F:I++[(f,p)]=j at*;refine aj.ite (EK h0 P S) ?_;rw[show#[ax,T+bP j>N]=ae from#[G,decide_eq_true],#[cB]]
 have u:hJ (j.take i):=⟨λc X=>P.each c (eA X),by have:=P.len;rw[bH];omega,by
  have a:=P.sum;rw[ke]at a⊢;refine aH ?_ a;have:bP j=bP (j.take i)+bP (j.drop i):=by unfold bP;rw[<-CP,<-gJ,hF]
  omega⟩
 have m:∀E A,aj B w 9 (dD hB) EL (jZ f p E (aa (.int #[v,i])) A ab) (#[bm,cE,d,T,j]) (hO B w 9 (dD hB) [] (cZ 5 .none (#[bm,cE,d++[.str (bA (j.take i))],0,j.drop i]))):=λE A=>by
  have o:=P.len;have H:(dD hB).fz<=3:=aT _;refine aj.set (b0:=#[bm,cE,d,T,j.take i]++[aX 3 (hA B (j.drop i))]) 7 (pH (v0:=[]) (Y:=[#[ad,i]]) (r:=.ob 5) h0 h0.N.Wc #[i] Ur rfl (rq (v0:=[]) h0).ev rfl #[aY,#[aD,4]] ((ep.Rb (g:=bV B T j) (c:=bV B T (j.take i)) (L:=[hA B (j.drop i)]) 3 (h0.VZ T i j #[f] #[f]) H rfl (λk e0 e=>?_) lP lP (λe0 l R=>?_) #[b1,?_] rfl rfl rfl).le #[ao,6<=9]).s #[aj] #[i] #[i]) rfl #[a0] #[aZ] #[ai] ?_;.match k,e with|0,e=>cases e;rfl|1,e=>cases e;rfl|k+2,e=>simp at e
  .rw[aY.mp l];exact#[fW]
  .simp at z;rcases z with rfl|rfl;.exact#[ao,1<2]
   .trivial
  refine#[gZ,W.append (o0:=#[bm,cE,d,T,j.take i]++[aX 3 (hA B (j.drop i))]) (zU h0 rfl rfl #[C]) (Ev.rF (W.eX h0.F h0.G 10 11 rfl rfl #[C]) rfl #[aY,(ve h0 rfl rfl #[C]).ev] (Hs (m:=7) h0 H u.each (by have:=u.len;omega) u.sum #[i])) #[bC,d] rfl #[aB] (by have:=dz C;omega) rfl rfl #[aj] #[i],?_];refine aj.expr (b0:=#[bm,cE,d++[.str (bA (j.take i))],0,j.drop i]++[aX 3 (hA B (j.drop i))]) (pH (d:=d++[.str (bA (j.take i))]) (v0:=[aX 3 (hA B (j.drop i))]) (Y:=[.ob 5]) h0 h0.N.reset #[i] IQ rfl (ve h0 rfl rfl #[C]).ev rfl #[aY,#[aD,7]] ((bG.call (g:=bV B T (j.take i)++[hA B (j.drop i)]) (l:=bV B 0 (j.drop i)++[hA B (j.drop i)]) 3 (h0.reset T (j.take i) (j.drop i) (by rw[bH,cR];omega)) H #[aZ] (λk e0 e=>?_) ?_ ?_ #[b1,?_] rfl rfl rfl).le #[ao,6<=9]).s #[aj] #[i] #[i]) #[ai] ?_;.match k,e with|0,e=>cases e;rfl|1,e=>cases e;rfl|2,e=>cases e;rfl|k+3,e=>simp at e
  .exact EP
  .exact EP
  .simp at z;rcases z with rfl|rfl;.exact#[ao,1<3]
   .exact#[ao,2<3]
  refine#[dF,cZ.ux (jC λx z=>?_) (.inr #[bS]) trivial rfl];rcases cK.mp z with z|z;.exact g x z
  .rw[aY.mp z];trivial
 refine aj.gS (l:=EL) (c:=λk v s=>s=#[bm,cE,d,T,j]/\(∃E i A,v=jZ f p E i A ab)/\(k=0\/(k=1/\iR j 59 ab))) 3 (cg.str (t:=cE) (Ev.nU (k:=5) (j0:=vd N p0 cE) h0.Cf #[aD,0] rfl cy.de rfl #[i] rfl h0.Nf.a4 IT #[aj] #[ai])) rfl #[a0] ⟨rfl,#[aC,_,_,rfl],#[dn]⟩ (λk v s⟨_,⟨_,_,_,e⟩,_⟩=>#[gG,by rw[e];exact bx rfl]) ?_ ?_ #[ai]
 .rintro k x v s z⟨rfl,⟨M,Q,G,rfl⟩,r⟩_ _;rcases r with rfl|⟨rfl,U⟩
  .cases z;rcases q with h|⟨h,c0⟩;.exact zv h0 59 #[C] n P (aa i) h #[f] (λk e A=>by cases e;exact m _ _) λe=>nomatch e
   .exact zv h0 59 #[C] n P ab h #[f] (λk e=>nomatch e) λ_ i A=>.inl ⟨rfl,#[aC,_,_,rfl],.inr #[aJ,h]⟩
  .cases z
   have c0:iR j 44 (aa i):=by
    rcases q with h|⟨h,c0⟩;.exact#[aN,h.2.2.1,U i h.1 h.2.1]
    .exact c0
   exact zv h0 44 #[C] n P (aa i) c0 #[f] (λk e A=>by cases e;exact m _ _) λe=>nomatch e
 .rintro v s⟨_,_,h|⟨h,_⟩⟩<;>exact absurd h #[i]
end
namespace Re
abbrev code:#[eI]:=#[14,4,0,1,4294967295,17,0,24,11,1,4294967295,13,6,16,32,16,9,0,1,17,1,1]
def fa(c:Nat):Bool:=c==32||c==9
def ei(t:#[eI]):Nat->Nat->Nat|0,_=>0|n+1,p=>if fa (t.getD p 0)then ei t n (p+1)+1 else 0
theorem QB(c:Nat)(b:gO):∃L,Sre.accepts code 11 c b=.ok (fa c,L):=by
 by_cases h:c=32;.subst h;exact#[aU]
 .by_cases a0:c=9;.subst a0;exact#[aU]
  .refine#[a4,((b.add 16).add 16).add 0];show(if(c==32)=ae then _ else#[aa,(c==9)=ae,_,_])=_;rw[fa,(beq_eq_false_iff_ne.mpr h),(beq_eq_false_iff_ne.mpr a0)];rfl
theorem Kq(t:#[bE]):∀(n p f:Nat)(b:gO),∃L,yg code t 11 n p f b=.ok (f+ei t n p,L)|0,p,f,b=>#[aU]|n+1,p,f,b=>by obtain⟨k0,N⟩:=QB _ _;unfold yg ei;rw[N];cases Z:fa _ with|true=>obtain⟨m,a0⟩:=Kq t n _ _ _;refine#[a4,m];show yg _ t _ n _ _ _=_;rw[a0,#[cB]];congr 2;omega|false=>exact#[aU]
def St(t:#[eI])(a s:Nat)(i:Bool)(q:#[a7,Nat])(b:gO):kz:={code:=code,text:=t,lim:=a,start:=s,lastStart:=a,pc:=5,pos:=s,handed:=s,outermost:=i,marks:=#[q,ab],frames:=[{wait:=.nextStart,pc:=5,pos:=s,outermost:=i}],weight:=1,seen:=b}
theorem sq:∀(a b:Nat)(m:kz),m.runFor (a+b)=(m.runFor a).runFor b
 |0,b,m=>by rw[gM];rfl
 |a+1,b,m=>by
  rw[qJ];show(if m.outcome.isSome then m else(m.step).runFor _)=kA b #[aa,m.outcome.isSome,m,(m.step).runFor a];split;.cases b with|zero=>rfl|succ b=>show m=if m.outcome.isSome then m else _;rw[#[G,if_pos]]
  .exact sq a b _
def S1(t:#[eI])(a s:Nat)(i:Bool)(b:gO):kz:={St t a s i (aa s) b with lastmark:=0,pc:=7}
theorem Lp(t:#[bE])(a s:Nat)(i:Bool)(q:Option _)(b:gO):(St t a s i q b).step=S1 t a s i (b.add 17):=rfl
theorem XE(t:#[bE])(a:Nat)(i:Bool)(b:gO):(S1 t a a i b).step={S1 t a a i (b.add 24)with answer:=aa ai}:=by show#[gk,#[bi]>(a:Int)-a];rw[#[G,if_pos]];rfl
def S2(t:#[eI])(a s r:Nat)(i:Bool)(b:gO):kz:={St t a s i (aa s) b with lastmark:=0,pc:=19,pos:=s+r,handed:=s+r,weight:=2,frames:=[{wait:=.giveBack,pc:=7,pos:=s+r,outermost:=i,count:=r,kept:={lastmark:=0}},{wait:=.nextStart,pc:=5,pos:=s,outermost:=i}]}
theorem XD(t:#[bE])(a s:Nat)(i:Bool)(b:gO)(h:s<a)(R:a<=4294967295):∃L,(S1 t a s i b).step=if ei t (a-s) s<1 then{S1 t a s i L with answer:=aa ai}else S2 t a s (ei t (a-s) s) i L:=by obtain⟨L,u⟩:=Kq t _ s 0 _;refine#[a4,L];show#[gk,#[bi]>(a:Int)-s];rw[#[fp]];show(match yg code t 11 (min 4294967295 ((a:Int)-s).toNat) s 0 ((b.add 24).add 13)with|.error _=>_|.ok (n,S)=>_)=_;rw[show min _ _=a-s by omega,u,gM];rfl
def Fd(t:#[eI])(a s r:Nat)(o:Bool)(b:gO):kz:={code:=code,text:=t,lim:=a,start:=s,lastStart:=a,pc:=5,pos:=s,handed:=s+r,outermost:=o,marks:=#[aa s,aa (s+r)],lastmark:=1,lastindex:=1,seen:=b,answer:=aa ae,outcome:=aa .matched}
def S3(t:#[eI])(a s r:Nat)(i:Bool)(b:gO):kz:={S2 t a s r i (b.add 17)with marks:=#[aa s,aa (s+r)],lastmark:=1,lastindex:=1,pc:=21}
theorem XF(t:#[bE])(a s r:Nat)(i:Bool)(b:gO):#[hA,S2].step=S3 t a s r i b:=by kernel_rfl
def S4(t:#[eI])(a s r:Nat)(i:Bool)(b:gO):kz:={S3 t a s r i b with seen:=(b.add 17).add 1,answer:=aa ae}
theorem XG(t:#[bE])(a s r:Nat)(i:Bool)(b:gO):#[hA,S3].step=S4 t a s r i b:=by cases i<;>rfl
theorem XH(t:#[bE])(a s r:Nat)(i:Bool)(b:gO):#[hA,S4].step.step={Fd t a s r i ((b.add 17).add 1)with outcome:=ab}:=rfl
theorem Sz(t:#[eI])(a s r:Nat)(i:Bool)(b:gO):#[hA,S2].runFor 5=Fd t a s r i ((b.add 17).add 1):=by show kA 4 (#[hA,S2].step)=_;rw[XF];show kA 3 (#[hA,S3].step)=_;rw[XG];show kA 1 (#[hA,S4].step.step)=_;rw[XH];rfl
theorem again(t:#[bE])(a s:Nat)(i:Bool)(b:gO)(h:s<a):{S1 t a s i b with answer:=aa ai}.step=St t a (s+1) ai (aa s) b:=by show#[gk,s<a];rw[if_pos h];rfl
theorem RQ(t:#[bE])(a:Nat)(i:Bool)(b:gO):∃m,{S1 t a a i b with answer:=aa ai}.runFor 2=m/\(match m.outcome with|aa .failed=>True|_=>False):=by
 refine#[b4,?_];have e:{S1 t a a i b with answer:=aa ai}.step={S1 t a a i b with answer:=aa ai,frames:=[],weight:=0,pc:=5,outermost:=i}:=by show#[gk,a<a];rw[if_neg (fk _)];rfl
 show(match(kA 1 _).outcome with|aa .failed=>True|_=>False);rw[e];exact trivial
end Re
namespace Re
def df(t:#[eI]):Nat->Nat->Nat|0,_=>0|n+1,p=>if fa (t.getD p 0)then 0 else df t n (p+1)+1
def jb(t:#[eI])(a s:Nat)(m:kz):Prop:=if s+df t (a-s) s<a then∃o b,m=Fd t a (s+df t (a-s) s) (ei t (a-(s+df t (a-s) s)) (s+df t (a-s) s)) o b else(match m.outcome with|aa .failed=>True|_=>False)
theorem Lm(t:#[eI])(a:Nat)(R:a<=4294967295):∀(d s:Nat)(i:Bool)(q:#[a7,Nat])(f:gO),s+d=a->∃h0,h0<=3*d+7/\jb t a s ((St t a s i q f).runFor h0)
 |0,s,i,q,f,b=>by obtain rfl:s=a:=b;obtain⟨m,e,h⟩:=RQ t s i ((f.add 17).add 24);refine#[bL,4,by omega];show jb t s s (kA 3 ((St t s s i q f).step));rw[Lp];show jb t s s (kA 2 ((S1 t s s i (f.add 17)).step));rw[XE,e];unfold jb;rw[ks,#[bK,#[z]]];exact h
 |d+1,s,i,q,f,b=>by
  obtain⟨L,u⟩:=XD t a s i (f.add 17) #[f] R;have e:∀h0,(St t a s i q f).runFor (h0+2)=kA h0 #[aa,ei t (a-s) s<1,{S1 t a s i L with answer:=aa ai},S2 t a s (ei t (a-s) s) i L]:=λh0=>by show kA (h0+1) ((St t a s i q f).step)=_;rw[Lp];show kA h0 ((S1 t a s i (f.add 17)).step)=_;rw[u]
  have g:a-s=d+1:=by omega
  cases Z:fa (t.getD s 0)with
  |true=>
   refine#[bL,5+2,by omega];have Y:¬ei t (a-s) s<1:=by rw[g,ei,Z,#[cB]];omega
   rw[e,if_neg Y,Sz];have c:df t (a-s) s=0:=by rw[g,df,Z,#[cB]]
   unfold jb;rw[c,qK,#[G,if_pos]];exact#[M,_]
  |false=>
   have Y:ei t (a-s) s<1:=by rw[g,ei,Z,#[c1]];omega
   obtain⟨h0,j,h⟩:=Lm t a R d (s+1) ai (aa s) L #[f];refine#[bL,h0+1+2,by omega];rw[e,if_pos Y];show jb t a s (kA h0 (Sre.M.step _));rw[again _ _ _ _ _ #[f]];have c:s+df t (a-s) s=(s+1)+df t (a-(s+1)) (s+1):=by rw[g,df,Z,#[c1],show a-(s+1)=d by omega];omega
   unfold jb at h⊢;rw[c];exact h
theorem jb.ends(h:jb t a s m):m.outcome.isSome=ae:=by
 unfold jb at h;split at h;.obtain⟨o,b,rfl⟩:=h;rfl
 .cases e:m.outcome with|none=>simp_all|some _=>rfl
theorem Bp:∀(h0:Nat)(m:kz),m.outcome.isSome=ae->m.runFor h0=m|0,m,_=>rfl|h0+1,m,h=>by show(if m.outcome.isSome then m else _)=m;rw[if_pos h]
section
variable{w:aD}{A:aR}{E:#[E]}{s:fR}
theorem Gp:∀(t h0:Nat)(m:kz),h0<=4*t->0<t->(m.runFor h0).outcome.isSome=ae->Q (m.runFor h0) s->#[aM,NX t m]
 |0,h0,m,_,u,_,_=>absurd u (fk 0)
 |t+1,h0,m,j,_,Z,q=>by
  unfold NX;show#[cQ,#[aa,(m.runFor 4).outcome.isSome,av _,_]];by_cases a:(m.runFor 4).outcome.isSome=ae
  .rw[if_pos a]
   have e:m.runFor h0=m.runFor 4:=by
    obtain h|h:=nF h0 4;.obtain⟨c,X⟩:=xx h;rw[<-X,sq,Bp c _ Z]
    .obtain⟨c,X⟩:=xx h;rw[<-X,sq,Bp c _ a]
   exact az (e▸q)
  .rw[if_neg a];have H:4<h0:=by refine Nat.lt_of_not_le λh=>a ?_;obtain⟨c,X⟩:=xx h;rw[<-X,sq,Bp c _ Z];exact Z
   obtain⟨c,rfl⟩:=xx (ea H);rw[sq]at Z q;exact ag (hN (Gp _ c _ #[f] #[f] Z q))
theorem Bo{c:Nat->Bool}{x:Nat->String}(q:Q ⟨⟩ s):#[eN,#[aM,forIn l Dj λi _=>if c i=ae then(do
 rule (x i);av (lk Dj))else av (lk Dj)]]|[]=>az q|i::l=>by rw[lq];refine ag ?_;cases X:c i with|true=>exact ag (hN (az (Bo q l)))|false=>exact az (Bo q l)
theorem LM{a p h0:Nat}(j:h0<=2^60)(h:jb t a p (m.runFor h0))(y0:∀o b,p+df t (a-p) p<a->Q (aa (Fd t a (p+df t (a-p) p) (ei t (a-(p+df t (a-p) p)) (p+df t (a-p) p)) o b)) s)(O0:¬p+df t (a-p) p<a->Q ab s):#[aM,Builtin.Re.reRunToEnd m]:=by
 refine ag (Gp _ h0 m (aH j #[i]) #[i] h.ends ?_);refine ag (Bo ?_ _);unfold jb at h;split at h;.rename_i U;obtain⟨o,b,e⟩:=h;rw[e];exact az (y0 o _ U)
 .rename_i U;split at h;.rename_i e;rw[e];exact az (O0 U)
  .exact h.elim
theorem next{Q:#[aG,#[a7,kz]]}{T:NW}{p:Nat}(X:T.code=code)(S:T.groups=1)(R:T.lim=T.text.size)(Z:T.text.size<=2^20)(y:p<=T.text.size)(y0:∀o b,p+#[jG]<T.text.size->Q (aa (Fd T.text T.text.size (p+#[jG]) (ei T.text (T.text.size-(p+#[jG])) (p+#[jG])) o b)) s)(O0:¬p+#[jG]<T.text.size->Q ab s):#[aM,xQ T p ai]:=by
 unfold xQ;rw[X,S,R];by_cases a:p=T.text.size
 .have f:∃b,Pc code T.text 1 p T.text.size ai={St T.text T.text.size p ae ab b with frames:=[],weight:=0,lastStart:=0,answer:=aa ai}:=by refine#[a4,DP {} 14];show#[gk,#[ax,p>T.text.size]||#[ax,T.text.size-p<1]];rw[if_pos (by simp;omega)];rfl
  obtain⟨b,f⟩:=f;rw[f];refine LM (t:=T.text) (a:=T.text.size) (p:=p) (h0:=1) #[i] ?_ y0 O0;unfold jb;rw[a,ks,#[bK,show¬T.text.size+df T.text 0 T.text.size<T.text.size by unfold df;omega]];exact trivial
 .have f:Pc code T.text 1 p T.text.size ai=St T.text T.text.size p ae ab (DP {} 14):=by show#[gk,#[ax,p>T.text.size]||#[ax,T.text.size-p<1]];rw[#[bK,by simp;omega]];rfl
  rw[f];obtain⟨h0,j,h⟩:=Lm T.text T.text.size #[f] (T.text.size-p) p ae ab (DP {} 14) #[f];exact LM #[f] h y0 O0
end
end Re
namespace Re
def ef:Bool->Tx->Tx->#[bz]|ai,A,[]=>[A]|ae,A,[]=>[A,[]]|ai,A,c::r=>if fa c then A::ef ae [c] r else ef ai (A++[c]) r|ae,A,c::r=>if fa c then ef ae (A++[c]) r else A::ef ai [c] r
theorem uH:∀(a A r:Tx),(∀c∈a,fa c=ai)->ef ai A (a++r)=ef ai (A++a) r|[],A,r,_=>by simp|c::a,A,r,h=>by rw[fA,ef,h c #[bJ],uH a _ r #[gj]];simp
theorem zE:∀(b A r:Tx),(∀c∈b,fa c=ae)->ef ae A (b++r)=ef ae (A++b) r|[],A,r,_=>by simp|c::b,A,r,h=>by rw[fA,ef,h c #[bJ],zE b _ r #[gj]];simp
theorem Gb{A d:Tx}(h:∀c r,d=c::r->fa c=ai):ef ae A d=A::ef ai [] d:=by cases d with|nil=>rfl|cons c r=>rw[ef,ef,h c r rfl];rfl
theorem Rz{a b d:Tx}(I:∀c∈a,fa c=ai)(Z:∀c∈b,fa c=ae)(n:b≠[])(e:∀c r,d=c::r->fa c=ai):ef ai [] (a++(b++d))=a::b::ef ai [] d:=by rw[uH a _ _ I];cases b with|nil=>exact#[dm,n]|cons c b=>rw[fA,ef,Z c #[bJ],zE b _ _ λx z=>Z x #[br,z],Gb e];rfl
theorem zX{t:#[bE]}{p:Nat}(h:p<t.size):t.toList.drop p=t.getD p 0::t.toList.drop (p+1):=by rw[ny (#[f])];simp[Array.getD,h]
theorem BG(t:#[bE]):∀(n p:Nat),p+n=t.size->(∀c∈(t.toList.drop p).take (df t n p),fa c=ai)/\p+df t n p<=t.size/\(p+df t n p<t.size->fa (t.getD (p+df t n p) 0)=ae)
 |0,p,h=>⟨λc X=>by simp[df]at X,by simp[df];omega,λc0=>#[f]⟩
 |n+1,p,h=>by unfold df;cases Z:fa _ with
 |true=>rw[#[cB]];exact⟨λc X=>by simp at X,by omega,λ_=>Z⟩
 |false=>
  rw[#[c1]];obtain⟨N,a0,G⟩:=BG t n (p+1) #[f];refine⟨λc X=>?_,by omega,λc0=>?_⟩
  .rw[#[G,zX]]at X;obtain rfl|X:=bc.mp X;.exact Z
   .exact N c X
  .rw[show p+(df t n _+1)=p+1+df t n (p+1)by omega]at c0⊢;exact G c0
theorem Kr(t:#[bE]):∀(n p:Nat),p+n=t.size->(∀c∈(t.toList.drop p).take (ei t n p),fa c=ae)/\p+ei t n p<=t.size/\(p+ei t n p<t.size->fa (t.getD (p+ei t n p) 0)=ai)/\(p<t.size->fa (t.getD p 0)=ae->0<ei t n p)
 |0,p,h=>⟨λc X=>by simp[ei]at X,by simp[ei];omega,λc0=>by simp[ei]at c0;omega,λc0=>by omega⟩
 |n+1,p,h=>by unfold ei;cases Z:fa _ with
 |false=>rw[#[c1]];exact⟨λc X=>by simp at X,by omega,λ_=>Z,λ_ c0=>by cases c0⟩
 |true=>
  rw[#[cB]];obtain⟨N,a0,G,_⟩:=Kr t n (p+1) #[f];refine⟨λc X=>?_,by omega,λc0=>?_,λ_ _=>by omega⟩
  .rw[#[G,zX]]at X;obtain rfl|X:=bc.mp X;.exact Z
   .exact N c X
  .rw[show p+(ei t n _+1)=p+1+ei t n (p+1)by omega]at c0⊢;exact G c0
theorem Rx(t:#[eI])(p q e:Nat)(y:p<=t.size)(O:q=p+df t (t.size-p) p)(a:e=q+ei t (t.size-q) q)(U:q<t.size):p<=q/\q<e/\e<=t.size/\ef ai [] (t.toList.drop p)=(t.extract p q).toList::(t.extract q e).toList::ef ai [] (t.toList.drop e):=by
 obtain⟨N,a0,G⟩:=BG t (t.size-p) p #[f];rw[<-O]at a0 G;obtain⟨S,H,A,J⟩:=Kr t (t.size-q) q #[f];rw[<-a]at H A;have Y:=J U (G U);refine#[bM,by omega,by omega,H];have u:df t (t.size-p) p=q-p:=by omega
 have f:ei t (t.size-q) q=e-q:=by omega
 rw[u]at N;rw[f]at S;have F:=by have:=(hF (q-p) (t.toList.drop p)).symm;rwa[jP,show p+(q-p)=q by omega]at this
 have d:=by have:=(hF (e-q) (t.toList.drop q)).symm;rwa[jP,show q+(e-q)=e by omega]at this
 have M0:(t.extract p q).toList=(t.toList.drop p).take (q-p):=#[z];have b:(t.extract q e).toList=(t.toList.drop q).take (e-q):=by simp
 rw[M0,b,F,d];have A0:((t.toList.drop p).take (q-p)++((t.toList.drop q).take (e-q)++t.toList.drop e)).take (q-p)=(t.toList.drop p).take (q-p):=by rw[<-d,<-F]
 rw[A0];have t0:((t.toList.drop q).take (e-q)++t.toList.drop e).take (e-q)=(t.toList.drop q).take (e-q):=by rw[<-d]
 rw[t0];refine Rz N S (λh=>?_) λc r X=>?_;.have:=congrArg gI h;simp at this;omega
 .by_cases z:e<t.size;.rw[zX z]at X;cases X;exact A z
  .rw[qv (by simp;omega)]at X;cases X
theorem Ry(t:#[bE])(p:Nat)(y:p<=t.size)(h:¬p+df t (t.size-p) p<t.size):ef ai [] (t.toList.drop p)=[(t.extract p t.size).toList]:=by obtain⟨N,a0,G⟩:=BG t (t.size-p) p #[f];rw[(by omega:df t _ p=t.size-p)]at N;have e:(t.toList.drop p).take (t.size-p)=t.toList.drop p:=hY (by simp);have M0:(t.extract p t.size).toList=(t.toList.drop p).take (t.size-p):=#[z];rw[e]at M0;rw[e]at N;have:=uH _ [] [] N;rw[fy]at this;rw[this,M0];rfl
def tl(h:bk)(P:ao):Prop:=∃o j0 l Y n,#[e9,P]/\o.cls=.type "re.Pattern"/\o.dict=ab/\o.data=.fields j0/\j0[2]?=aa (cC 1)/\j0[6]?=aa (cC 0)/\j0[5]?=aa (.ref l)/\(∃O,#[bl,l,O]/\O.data=.seq Y n)/\(Y.map Builtin.Re.reRawOf).map (·.toNat)=code
section
variable{w:aD}{A:aR}{E:#[E]}{h:bk}{g:#[c5]}{d:hK}{t:Nat}{h0:gw}
theorem Yk(c:tl h P)(q:Q {pattern:=.ref P,string:=.str x k,code:=code,text:=x.cps,kind:=0,groups:=1,pos:=0,lim:=x.cps.size} #[bt]):#[d1,#[cM,Builtin.Re.reWholeTarget,P,.str x k]]:=by
 obtain⟨o,j0,l,Y,n,p,X,u,Z,a0,m,r,⟨O,N,H⟩,C⟩:=c;refine#[bI,yD,p,Z];refine#[cT,rfl];have T:j0.getD 6 .none=cC 0:=by rw[Ci,m];rfl
 rw[T,(by rw[Ci,r];rfl:j0.getD 5 _=.ref l),(by rw[Ci,a0];rfl:j0.getD 2 _=cC 1)];refine#[cT,rfl];refine#[bT,kN N H (az (az ?_))];rw[#[co,((aa Y).getD _).map _=Y.map _],C];exact q
def sJ(P:ao)(x:aq)(k:fP):NW:={pattern:=.ref P,string:=.str x k,code:=code,text:=x.cps,kind:=0,groups:=1,pos:=0,lim:=x.cps.size}
def body(P:ao)(x:aq)(k:fP):Nat->#[be]×Nat×Nat×Bool×Int×Bool->dw (ForInStep (#[be]×Nat×Nat×Bool×Int×Bool)):=λ_ r=>if(!r.2.2.2.2.2)=ae then do
 let M<-if(0 !=0&&#[ax,r.2.2.2.2.1>=0])=ae then av ab else xQ (sJ P x k) r.2.1 r.2.2.2.1
 match M with
  |ab=>av (lk (r.1,r.2.1,r.2.2.1,r.2.2.2.1,r.2.2.2.2.1,ae))
  |aa m=>
   do
    let a<-Dq x.cps 0 r.2.2.1 m.start
    let u<-forIn (aW 1) (r.1.push a) λg o=>do
     let b<-NY (sJ P x k) m (g+1) (av qW);av (lk (o.push b))
    av (lk (u,m.handed,m.handed,m.handed==m.start,r.2.2.2.2.1+1,r.2.2.2.2.2))else av (lk (r.1,r.2.1,r.2.2.1,r.2.2.2.1,r.2.2.2.2.1,r.2.2.2.2.2))
theorem slice(l:T.size<=2^20)(q:∀v p0,VR [] v #[an,(T.extract b e).toList]->Q v #[fF]):#[aM,Dq T 0 b e]:=wpAny_mkStr (q _ _ #[cS,_]) (dz (by show(T.extract b e).size<=_;rw[Cj];omega))
theorem SI{b:gO}{d:dw _}:NY (sJ P x k) (Fd T a c r o b) (0+1) d=Dq x.cps 0 c (c+r):=by show(if(0:Int)>=1 then _ else if c+r<c then _ else _)=_;rw[#[eH],#[fp]];rfl
theorem over:∀(l:#[g])(a:#[bE])(b c:Nat)(m:Bool)(n:Int),Q (a,b,c,m,n,ae) s->#[aM,forIn l (a,b,c,m,n,ae) (body P x k)]|[],a,b,c,m,n,q=>az q|i::l,a,b,c,m,n,q=>by rw[lq];exact#[c6,over l a b c m n q]
theorem IW{x:aq}{s:fR}(Z:x.cps.size<=2^20)(q:∀a b c m n X p0,#[fo,a.toList,ah X]->e=X++[(x.cps.extract c x.cps.size).toList]->Q (a,b,c,m,n,ae) #[fF]):∀(l:#[j])(a:#[be])(p:Nat)(n:Int)(X:#[bz])(p0:Nat),p<=x.cps.size->x.cps.size-p<l.length->#[fo,a.toList,ah X]->e=X++ef ai [] (x.cps.toList.drop p)->#[dS,forIn l (a,p,p,ai,n,ai) (body P x k),#[fF]]
 |[],a,p,n,X,p0,y,R,_,_=>#[aN,R,Df _]
 |i::l,a,p,n,X,p0,y,R,I,n0=>by
  rw[lq];refine ag ?_;show#[ej,xQ (sJ P x k) p ai];refine ag (next rfl rfl rfl Z y (λo seen U=>?_) λU=>?_);.rw[#[co,(sJ P x k).text=x.cps]]at U⊢;obtain⟨S,H,d,J⟩:=Rx x.cps p _ _ y rfl rfl U;generalize p+df x.cps (x.cps.size-p) p=f at*;generalize Y:ei x.cps (x.cps.size-f) f=r at*;refine ag (slice Z λv g T=>?_);refine ag ?_;rw[#[co,aW 1=[0]],lq];refine#[a3,ag];rw[SI];refine slice Z λC0 N u=>az ?_;dsimp only;rw[qy];refine az (az ?_);rw[show((Fd x.cps x.cps.size f r o seen).handed==(Fd x.cps x.cps.size f r o seen).start)=ai from beq_eq_false_iff_ne.mpr (show f+r≠f by omega)];refine IW Z q l _ (f+r) (n+1) (X++[#[nL],#[ng]]) N d (by simp at R;omega) ?_ (#[R]);rw[oK,oK,cQ,show ah (X++[#[nL],#[ng]])=ah X++([.str #[nL]]++[.str #[ng]])by simp[ah]];exact I.append (.cons T #[aY,u])
  .exact az (over l _ _ _ _ _ (q _ _ _ _ _ X p0 I (by rw[n0,Ry x.cps p y U])))
theorem split(e:tl h P)(Z:x.length<=2^20)(U:#[fy,(ef ai [] x.cps.toList)])(q:∀Y p0,#[fo,Y,ah (ef ai [] x.cps.toList)]->Q (.done #[ct,.ret,h.objs.size]) #[bu,h.push #[aR,"list",.seq,Y.toArray],p0]):#[d1,Builtin.«re.Pattern.split» #[Y,[.ref P,.str x k]]]:=by
 refine ag (cN (a:=[aa _,ab]) (by rfl) ?_);refine#[c6,ag (Yk e ?_)];show#[ej,forIn (aW (2*x.cps.size+3)) _ (body P x k)];refine ag (IW (e:=ef _ _ x.cps.toList) (s:=⟨h,g,d,t,_⟩) Z (λa b c m n X p0 I n0=>?_) _ _ 0 0 [] t #[aB] (by simp;omega) .nil #[p]);refine ag (slice Z λv N T=>?_);refine#[bf,EA,#[cA]];.have:=q (a.push v).toList N (by rw[oK,n0,show ah (X++[(x.cps.extract c _).toList])=ah X++[.str (x.cps.extract c x.cps.size).toList]by simp[ah]];exact I.append (.cons T .nil));exact this
 .rw[n0]at U;have:=I.length;rw[oK,aV,this];refine dz ?_;simpa[ah]using U
end
end Re
theorem Lc:nL "re.Pattern" "split" "re.Pattern.split":=.of (owner:="re.Pattern") (n:="split") (by rw[cB,cA];kernel_rfl) #[C] #[C] #[C] (by first|exact .inl (by decide+kernel)|exact .inr (by decide+kernel)) #[kL]
theorem RT:kE kL "re.Pattern.split"=aa Builtin.«re.Pattern.split»:=tJ (#[p])
theorem QI(a b:af):kB "re.Pattern.split" #[Y,[a,b]]:=by kernel_rfl
theorem YN:#[hX,"re.Pattern.split"]:=by show builtinType _=_;rw[builtinType_eq_fast];kernel_rfl
theorem QP:yf "re.Pattern":=⟨⟨"object.__getattribute__",by rw[cB,cA];kernel_rfl,by decide+kernel⟩,by rw[cB,cA];kernel_rfl⟩
def nH(B:Bs)(P:ao):Prop:=Re.tl B.heap P/\#[al,P]/\∀o j0 l,#[gE,P]->o.data=.fields j0->j0[5]?=aa (.ref l)->#[al,l]
theorem nH.at_(c:nH B P)(k:GH B h):Re.tl h P:=by obtain⟨⟨o,j0,l,Y,n,p,X,u,Z,a0,m,r,⟨O,N,H⟩,C⟩,q,U⟩:=c;exact⟨o,_,l,_,n,#[aL,k,p,q],X,u,Z,a0,m,r,#[as,#[aL,k,N,U o _ l p Z r],H],C⟩
section
variable{B:Bs}{w:aD}{n:Nat}{S:Gm}{U:#[o]}{H b0 m0:#[l]}{i0 y0 p:aZ}{e:aP}
theorem Ev.Wu{x:aq}{P:ao}{t:Tx}{q0:#[D]}{r:Nat}(C:cJ B w n S #[bQ] #[K,P])(R:nH B P)(u:#[ek])(I:#[b2,e,#[bo]])(Z:t.length<=2^20)(j:#[fy,(Re.ef ai [] t)])(m:ah (Re.ef ai [] t)=q0)(v:#[fT])(L:#[ef,b0])(a0:∀J,ec #[bQ] (ak "split") J (aU #[bQ] J)=aU (.Name x p) J)(c0:#[b3]):#[aF,#[cR,#[dH,#[bQ],"split",y0],[e]],.ob r,m0]:=λA J O s Q E b M q=>by
 subst m v L;refine pj (a0 J) (oh u #[z]) c0 (dn i0 J u) (C A J O U H s _ E b M ?_);have l0:∀{s:fR},#[c4]->s.TypeIs (.ref P) "re.Pattern"/\∀a,(iC P)=.ref a->∃e0,#[cd,a,e0]/\e0.dict=ab:=λF=>by obtain⟨o,j0,l,Y,n,c,X,d0,_⟩:=R.at_ F;exact⟨#[aS,c,X],λa e=>by cases e;exact#[aS,c,d0]⟩
 refine⟨"re.Pattern","re.Pattern.split",QP,Lc,YN,(l0 M.gh).1,(l0 M.gh).2,?_⟩;refine kx (fV J [e]) (eK ((cu.cons I .nil) A J O s _ E b M λi k0 G f z=>?_));cases z with|cons z N=>cases N;obtain⟨y,k,rfl,rfl⟩:=z;have g0:=R.at_ f.rel.gh;have n0:=(l0 f.rel.gh).1;obtain⟨h,g,d,p0,h0⟩:=k0;refine iG Lc n0 RT (Re.split g0 Z j λY f0 T=>#[b4,?_]) (QI _ _);refine q _ _ (G++[h.objs.size]) (f.trans (aC.push (s:=#[bu,h,p0]) (t:=f0) f.rel rfl #[cw,0,by rw[EZ];exact T.mono λ_ _ r=>r.nil _])) #[M,by rw[<-f.rel.len];simp]
end
namespace Re
structure wW(c:Tx×Tx):Prop where
 b:∀x∈c.1,fa x=ae
 bne:c.1≠[]
 w:∀x∈c.2,fa x=ai
 Mb:c.2≠[]
theorem Gc:∀(I:#[g])(A:Tx),(∀c∈I,wW c)->ef ai A (bA I)=A::I.flatMap #[fZ]
 |[],A,_=>rfl
 |c::r,A,h=>by have g:=h c #[bJ];rw[(by simp[bA]:bA _=c.1++(c.2++bA r))];cases N:c.1 with
 |nil=>exact#[aN,N,g.bne]
 |cons x b=>
  have Z:=g.b;rw[N]at Z;rw[fA,ef,Z x #[bJ],#[cB],zE b _ _ λy m=>Z y #[br,m],Gb,uH _ _ _ g.w,(Gc r _ λx a=>h x #[br,a])];.simp[N]
  .intro y d e;cases a0:c.2 with|nil=>exact#[aN,a0,g.Mb]|cons z f=>rw[a0]at e;cases e;exact g.w y (by rw[a0];exact .head _)
end Re
namespace mF
structure qo(z r g i l:ao):Prop where
 TIz:r≠z
 TOz:g≠z
 iz:i≠z
 TITO:r≠g
 Qf:r≠i
 tX:g≠i
 lz:l≠z
 Te:l≠g
 li:l≠i
section
variable{w:aD}{A:aR}{E:#[E]}{s:fR}{z r g i l:ao}{k:Nat}{X:#[be]}{x y a b:af}
theorem item{Q:#[E]}(f:qo z r g i l)(q:#[lT])(F:#[lP])(O:gf s.heap g a b)(N:#[jc,k])(R:s.heap.IsList l X)(d:X[k]?=aa x)(m:X[k+1]?=aa y)(h:∀c0,iV c0 z r g (cC s.heap.objs.size)->gf c0 g x y->c0.IsListIter i l (k+1+1)->gf c0 s.heap.objs.size x y->#[kq,c0.objs.size]->(#[k3,#[dw,c]])->#[bN,s.heap.objs.size,#[h0]]):#[et,Builtin.«zip.__next__» #[Y,[.ref z]],#[nR],s]:=by
 show#[ej,rb (.ref z) 2];refine#[cm,q,rfl,#[dt],?_];show#[ej,rb (.ref z) 3];refine#[cm,q,rfl,.ref r,ag (kN F rfl ?_)];show#[ej,Oc (.ref z)];unfold Oc;refine#[bT,dS q rfl (x:=.none) rfl #[cA]];simp only[if_true];refine ag (hN (ag (dS q rfl (x:=.ref g) rfl (ag (nR q #[z] λG J p=>ag ?_)))));replace J:iV G z r g .ellipsis:=J;simp only[List.zipIdx_cons,List.zipIdx_nil,lq,qy];refine#[bT,rl ?_];show#[ej,NZ (.ref i)];have j0:G.IsList l X:=R.extBut p.extBut f.lz;refine ag (PY (N.extBut p.extBut f.iz) j0 d λt m0 B=>az ?_);have g0:gf t g a b:=B.extBut _ _ f.tX (p.extBut _ _ f.TOz O);refine ag (kN g0 rfl (ag (Qe g0 λu b0 C=>ag (tU #[cA]))));replace b0:gf u g x b:=b0;refine#[bT,rl ?_];show#[ej,NZ (.ref i)];have q0:u.IsList l X:=(j0.extBut B.extBut f.li).extBut C.extBut f.Te;refine ag (PY (m0.extBut C.extBut f.tX.symm) q0 m λs0 n0 T=>az ?_);have h0:gf s0 g x b:=T.extBut _ _ f.tX b0;refine ag (kN h0 rfl (ag (Qe h0 λj S Y=>ag (tU (az (az ?_))))));replace S:gf j g x y:=S;refine ag (kN S rfl (ag (wpAny_newTuple ?_)));have I:#[jr,j.objs.size]:=by rw[Y.1,T.1,C.1,B.1,p.1]
 have l0:iV j z r g .ellipsis:=Y.extBut _ _ f.TOz.symm (T.extBut _ _ f.iz.symm (C.extBut _ _ f.TOz.symm (B.extBut _ _ f.iz.symm J)));have p0:#[k3,j.get? c=aa o]:=λc o n P H e=>Y.extBut _ _ P (T.extBut _ _ H (C.extBut _ _ P (B.extBut _ _ H (p.extBut _ _ n e))));have o0:j.IsListIter i l (k+1+1):=n0.extBut Y.extBut f.tX.symm;have Z:z<j.objs.size:=bj l0;show#[ej,Oa (.ref z) #[K,j.objs.size]];unfold Oa;have r0:iV #[fC,j.push,x,y] z r g .ellipsis:=bM _ l0;refine#[bT,nR r0 #[z] λt0 f0 d0=>?_];replace f0:iV t0 z r g (cC j.objs.size):=f0;refine nR f0 (by simp) λM a0 e0=>?_;replace a0:iV M z r g (cC j.objs.size):=a0;have U:∀c o,c≠z->j.get? c=aa o->M.get? c=aa o:=λc o n e=>e0.extBut _ _ n (d0.extBut _ _ n (bM _ e));have i0:gf M j.objs.size x y:=e0.extBut _ _ (hj Z) (d0.extBut _ _ (hj Z) #[gr]);have k0:M.objs.size=j.objs.size+1:=by rw[e0.1,d0.1,cH]
 rw[I]at a0 i0 k0;refine az #[b4,?_];rw[I];exact h M a0 (U _ _ f.TOz S) (o0.at λo e=>U _ o f.iz e) i0 k0 λc o n P H e=>U c o n (p0 c o n P H e)
theorem next(f:qo z r g i l)(q:#[lT])(u:#[lP])(J:gf s.heap g a b)(N:#[jc,k])(R:s.heap.IsList l X)(d:X[k]?=aa x)(m:X[k+1]?=aa y)(h:∀c0,iV c0 z r g (cC s.heap.objs.size)->gf c0 g x y->c0.IsListIter i l (k+1+1)->gf c0 s.heap.objs.size x y->#[kq,c0.objs.size]->(#[k3,#[dw,c]])->Q #[ct,aa,s.heap.objs.size] #[h0]):#[gq,z]:=by have e:s.TypeIs (.ref z) _:=#[M,q];exact ag (iF (lM e yd (iG yd e Oy (item f q u J N R d m λc0 G n t C j p=>az (h _ G n t C j p)) (Ov _))))
theorem done(M:#[hh])(f:qo z r g i l)(q:#[lT])(y:#[lP])(N:#[jc,k])(R:s.heap.IsList l X)(d:X[k]?=ab)(J:gf s.heap g a b)(m:∀c0,#[el]->(∀c o,c≠z->c≠i->s.heap.get? c=aa o->#[dw,c])->Q ab #[h0]):#[gq,z]:=by
 have j:s.TypeIs (.ref z) "zip":=#[M,q];refine eR (ag (iF (lM j yd (iG yd j Oy ?_ (Ov _)))));show#[ej,rb (.ref z) 2];refine#[cm,q,rfl,#[dt],?_];refine#[cm,q,rfl,.ref r,ag (kN y rfl ?_)];refine#[bT,dS q rfl (x:=.none) rfl #[cA]];refine ag (hN (ag (dS q rfl (x:=.ref g) rfl (ag (nR q #[z] λC F p=>ag ?_)))));refine#[bT,rl ?_];refine ag (wpAny_nextOf_list_end M (N.extBut p.extBut f.iz) (R.extBut p.extBut f.lz) d λt e v h=>?_);obtain⟨S,O,G⟩:=h;have P:iV t z r g .ellipsis:=v _ _ f.iz.symm F;have L:e≠z:=λx=>by grind
 refine nR P (by simp) λu _ B=>?_;refine#[bI,lO,⟨S,B.extBut _ _ L O,G⟩,yr];exact az λI=>m _ I λc o n H x=>B.extBut _ _ n (v _ _ H (p.extBut _ _ n x))
end
end mF
namespace mF
theorem UU(i l:ao):Meets (Builtin.«zip.__new__» #[Y,[.type "zip",#[bs],#[bs]]]) (λ_ R s=>#[jc,0]/\R (.ok (.ret #[K,s.heap.objs.size+2])) {s with heap:=#[d3,((s.heap.push #[aR,"tuple",.seq,#[#[bs],#[bs]]]).push #[aR,"tuple",.seq,#[.none,.none]]).push,"zip",#[.none,#[dt],#[dt],.ref s.heap.objs.size,.ref (s.heap.objs.size+1)]]}):=.of_wp λk w A R s h=>by
 obtain⟨y,g,d,p0,h0⟩:=s;obtain⟨a,h⟩:=h;have e:=sub_zip;have E:Heap.IsListIter (Shared.heap #[bu,y,p0]) i l 0:=a;wp_walk using EC E;have F:#[fC,y.push,#[bs],#[bs]].objs.size=y.objs.size+1:=cH ..;have b:#[fC,(y.push #[aR,"tuple",.seq,#[#[bs],#[bs]]]).push,.none,.none].objs.size=y.objs.size+2:=by rw[cH,F]
 have o:∀l0 c,l0=y.objs.size+1->c=y.objs.size+2->R (.ok #[ct,.ret,c]) #[bu,#[d3,((y.push #[aR,"tuple",.seq,#[#[bs],#[bs]]]).push #[aR,"tuple",.seq,#[.none,.none]]).push,"zip",#[.none,#[dt],#[dt],.ref y.objs.size,.ref l0]],p0]:=by rintro _ _ rfl rfl;exact h
 exact#[b4,o _ _ F b]
theorem new{s:fR}(P:#[jc,0])(h:∀c0,iV c0 (s.heap.objs.size+2) s.heap.objs.size #[kH] .none->gf c0 s.heap.objs.size #[K,i] #[K,i]->gf c0 #[kH] .none .none->c0.objs.size=s.heap.objs.size+3->(∀c o,s.heap.get? c=aa o->#[dw,c])->#[bN,s.heap.objs.size+2,#[h0]]):#[aM,dQ (.type "zip") [#[bs],#[bs]]]:=by
 refine callType_new ZW #[ak] (abh _ _) (aar _ _) (λa=>ZS a _ _) aaj (UU i l) #[a4,P];have F:#[kq,#[fC,s.heap.push,#[bs],#[bs]].objs.size]:=cH ..;have d:#[fC,(s.heap.push #[aR,"tuple",.seq,#[#[bs],#[bs]]]).push,.none,.none].objs.size=s.heap.objs.size+2:=by rw[cH,F]
 have S:#[fC,(s.heap.push #[aR,"tuple",.seq,#[#[bs],#[bs]]]).push,.none,.none].get? #[fC,s.heap.push,#[bs],#[bs]].objs.size=aa _:=#[aT];have H:(((s.heap.push #[aR,"tuple",.seq,#[#[bs],#[bs]]]).push #[aR,"tuple",.seq,#[.none,.none]]).push #[aR,"zip",.fields,#[.none,#[dt],#[dt],.ref s.heap.objs.size,.ref (s.heap.objs.size+1)]]).get? #[fC,(s.heap.push #[aR,"tuple",.seq,#[#[bs],#[bs]]]).push,.none,.none].objs.size=aa _:=#[aT];rw[F]at S;rw[d]at H;exact⟨#[M,H],h _ H (bM _ (bM _ (#[aT]:#[fC,s.heap.push,#[bs],#[bs]].get? s.heap.objs.size=aa _))) (bM _ S) (by rw[cH,d]) λc o x=>bM _ (bM _ (bM _ x))⟩
end mF
def vz(n j:Nat):Ob:=.rel n (λO o=>j<n/\∃x,#[aW,O,x]/\o=#[mY]) λO a o h⟨N,x,a0,G⟩=>⟨N,x,(h j N).trans a0,G⟩
theorem QG(a:af):kB "iter" #[Y,[a]]:=#[p]
section
variable{B:Bs}{w:aD}{n:Nat}{S:Gm}{d0 g0:#[n]}{U:#[o]}{H m0:#[l]}{J:aN}{O:#[s]}
theorem Cl.SV(c:#[aX,H,j,X])(Z:H++[vz (j+1) j]=m0)(d:H.length=r):#[gx,"iter",[.ob j],.ob r]:=λA J O b s Q E g M T q=>by subst Z d;cases T with|cons N a0=>cases a0;obtain⟨l,Y,k,rfl,a,p,_⟩:=M.list N c;have i:=#[U,a];refine Oi Io JQ Gz (QG _) ?_;refine#[cT,#[ak]];refine ag (rm #[a8,p,k] (az #[b4,?_]));refine#[kj,aC.push M rfl #[ds,by rw[aV];omega,hG _,l,by rw[cG i];exact a] #[av] λn R e _ o f0 p f=>?_];rw[#[aT]]at p;grind
theorem YZ(F:#[w])(G:#[W]){A:aR}{s:fR}{Q E:#[E]}{a:aP}{G0 E0 N0 M S0 R0 T0 T:aZ}{t j a1 Z0:Nat}{X:#[D]}(d:#[bk])(c:#[ah])(b0:#[lZ,a1,"zip"])(P:#[lZ,Z0,"iter"])(I:#[aF,a,#[cc],H])(u:cv [a]=ae)(p:#[aX,H,j,X])(q:∀i l z r g L,#[aV,H,O,L]->#[aW,O,l]->mF.qo z r g i l->iV L.heap z r g .none->gf L.heap r #[K,i] #[K,i]->gf L.heap g .none .none->L.heap.IsListIter i l 0->(#[Q,z]/\#[Q,r]/\#[Q,g]/\#[Q,i])->#[bN,z,L]):#[gJ,#[bO,#[aP,"zip",G0],[.Starred #[mk] T0],T]]:=by
 refine ib (W.eX F G a1 9 rfl b0 #[ak] A J O U H s _ E d c ?_);have h1:#[aF,#[mk],.ob (H.length+2),((H++[vz (j+1) j])++[.list [.ob H.length]])++[.list #[nJ]]]:=Ev.mH (W.mS #[aY,Ev.px (W.eX F G Z0 10 rfl P #[p]) u #[aY,I] (Cl.SV p rfl rfl)] rfl (show 1<=aB by decide) (k:=H.length+1) #[z] rfl) (W.ka (q:=2) rfl) (St.rZ (j:=H.length+1) (k:=2) (X:=[.ob H.length]) (by rw[dZ (by simp)];simp) #[z] #[i] rfl #[z] rfl)
 show#[cQ,lI T (.type "zip") [] [(ae,(do
  let v<-aU (.BinOp _ _ _ _) J;yw T;av v))] []]
 refine ks_call rfl (P:=λ_=>True) (λ_ _=>#[as,.inr (.inl rfl),Looks.of_pure rfl]) (ks_lone (h1 A J O s _ E d c λu0 k0 f0 k Z=>?_));obtain⟨n0,d1⟩:∃n0,f0[H.length+2]?=aa n0/\u0=.ref n0:=Z;obtain⟨L0,rfl⟩:=d1;have O0:O.length=H.length:=c.len;obtain⟨m0,C0,b1,t0,rfl,g1⟩:=k.rel.store (H.length+2) n0 #[cr,#[nJ]] L0 (by rw[dZ (by simp)];simp)
 obtain⟨i,X0⟩:∃i,f0[H.length]?=aa i:=by
  have:H.length<f0.length:=by rw[k.rel.len];simp
  exact#[bF,bB this]
 obtain⟨F0,U0,_,H0,l,R,rfl⟩:=k.rel.store H.length i (vz (j+1) j) X0 (by rw[cG (by simp),cG (by simp)];simp)
 have Y0:#[aW,O,l]:=by
  have e1:j<O.length:=by rw[O0];exact#[U,p]
  obtain⟨v0,rfl⟩:=k.pre;rw[cG e1]at R;exact R
 have J0:b1.toList=[#[bs],#[bs]]:=by obtain⟨r0⟩:=b1;cases g1 with|cons N a0=>cases a0 with|cons a0 f=>cases f;obtain⟨x,b,rfl⟩:=N;obtain⟨y,m,rfl⟩:=a0;rw[X0]at b m;cases b;cases m;rfl
 have q0:#[Q,i]:=by refine(k.new i (pN X0 (by rw[<-O0];exact c.cX))).elim (λo=>?_) id;obtain⟨w0,I0⟩:=gK.mp (eU o);have:=il k.rel.nodup (gU k.pre I0) X0;have:=#[U,I0];omega
 unfold StarOf Pz;refine ag (iZ #[M,C0] OH.lookup (az #[aJ,?_]));refine eR (PN n0 #[a0] C0 rfl rfl (λc0 l0 x0=>#[a4,trivial]) (by rw[<-gG,J0];exact(show 2<=aB by decide)));rw[J0];have C:=aC.heap (t:=k0.toks) k.rel x0 l0;show#[cQ,dQ (.type "zip") [#[bs],#[bs]]];refine mF.new (s:={k0 with heap:=c0}) #[cS,l0 _ _ U0] λf o0 p0 i1 j1 f1=>?_;have h0:=C.trans (aC.heap (t:=k0.toks) C.rel (by have k1:f.objs.size=c0.objs.size+3:=j1;show c0.objs.size<=f.objs.size;omega) f1);have Q0:f0.take H.length=O:=by obtain⟨v0,rfl⟩:=k.pre;rw[<-O0,mq]
 have M0:=h0.rel.take (j:=H.length) (by rw[<-O0];exact c.cX) (λq x b=>c.below.1 q x b) (λq e0 Y i0=>c.below.2 q e0 (by rw[cG (by simp;omega),cG (by simp;omega),cG Y]at i0;exact i0));rw[Q0]at M0;have c1:(((H++[vz (j+1) j])++[Ob.list [.ob H.length]])++[Ob.list #[nJ]]).take H.length=H:=by rw[cQ,cQ,mq]
 rw[c1]at M0;have s0:k0.heap.objs.size<=c0.objs.size:=x0;have j0:c0.objs.size>i:=bj (l0 _ _ U0);have A0:k0.heap.objs.size>l:=k.rel.fT l (bC (gU k.pre Y0));have y0:l≠i:=λe=>by subst e;have:=il k.rel.nodup (gU k.pre Y0) X0;have:=#[U,p];omega
 refine q i l (c0.objs.size+2) c0.objs.size (c0.objs.size+1) _ #[g1,M0,(k.trans h0).fx] Y0 ⟨#[G,cz],#[G,cz],#[G,cz],#[G,cz],#[G,hj],#[G,hj],#[G,cz],#[G,cz],y0⟩ o0 p0 i1 #[cS,f1 _ _ (l0 _ _ U0)] ?_;have:=k.fx.size;exact⟨by omega,by omega,by omega,q0⟩
end
def Qh(B:Bs)(j:Nat)(q0:#[D])(z r g i:ao)(k:Nat)(O M:#[s])(s:fR):Prop:=M=[r,z,g,i]/\(#[dp,#[ap,b]])/\g<B.lo/\∃l a b,#[aW,O,l]/\mF.qo z r g i l/\#[lT]/\#[lP]/\gf s.heap g a b/\#[jc,2*k]
section
variable{B:Bs}{w:aD}{n:Nat}{j L:Nat}{q0:#[D]}{X:List (V×V)}{z r g i:ao}
theorem Hm:∀{X:#[g]}{k:Nat}{x:V×V},X[k]?=aa x->(X.flatMap #[hz])[2*k]?=aa x.1/\(X.flatMap #[hz])[2*k+1]?=aa x.2|[],k,x,h=>by simp at h|p::r,0,x,h=>by simp at h;subst h;exact#[bS]|p::r,k+1,x,h=>by obtain⟨N,a0⟩:=Hm (by simpa using h);rw[show 2*#[u]=2*k+1+1 by omega];exact⟨by simpa using N,by simpa using a0⟩
theorem Hn:∀X:List (V×V),#[t,X.flatMap,#[hz]]=2*X.length|[]=>rfl|p::r=>by rw[mm,aV,Hn r];simp;omega
theorem mj.zip{A:aR}(H:#[bk])(G0:q0=X.flatMap #[hz])(a1:j<L)(G:Nat):mj B w n A X z G L (λst=>#[aX,st,j,q0]) (Qh B j q0 z r g i)where
 next:=λk x M S J O U st s Q E U0 M0 i0 R h v0 h0 y N q=>by
  obtain⟨rfl,k0,E0,l,a,b,b0,f,u,a0,T,j0⟩:=v0;obtain⟨o,I,Y,m,rfl,w0⟩:=y.store j l _ b0 h0;obtain⟨d0,g0⟩:=Hm h;rw[<-G0]at d0 g0;obtain⟨Y0,S0,b1⟩:=w0.at d0;obtain⟨e1,R0,X0⟩:=w0.at g0;refine mF.next f u a0 T j0 #[a8,I,m] S0 R0 λc0 n0 r0 u0 A0 F0 J0=>?_;refine N _ _ (wpAny_letOwnedTupleGo_zip n0 λI0 L0 H0=>?_);have T0:z<s.heap.objs.size:=bj u;have c1:s.heap.objs.size≠z:=hj T0;have t0:#[k3,I0.get? c=aa o]:=λc o y0 x0 C0 e=>H0.extBut _ _ y0 (J0 c o y0 x0 C0 e);have l0:#[kq,I0.objs.size]:=by rw[H0.1];exact F0
  have Q0:#[fQ,#[c7],b∉[z,g,i],I0.get?]:=λb o e Z=>t0 b o (#[hE]) (#[hE]) (#[hE]) e
  have d1:∀b∈[z,g,i],lA B s.heap b:=λb Z=>by
   rcases bc.mp Z with rfl|Z;.exact#[m5]
   rcases bc.mp Z with rfl|Z;.exact .inr ⟨E0,_,_,_,T,rfl⟩
   .rw[aY.mp Z];obtain⟨N0,o0,m0,C⟩:=j0;exact .inl (#[ho,o0,(by rw[C]at d;cases d;cases v),(by rw[C]at d;cases d)])
  have Z0:GH B I0:=y.gh.many y.slt (λb Z=>⟨k0 b #[br,Z],d1 b Z⟩) (by rw[l0];exact du _) Q0;refine q s.heap.objs.size Y0 e1 0 _ [r,z,g,i] (H0.extBut _ _ c1 A0) b1 X0 ⟨rfl,k0,E0,l,_,_,b0,f,L0,t0 _ _ f.TIz f.TITO f.Qf a0,H0.extBut _ _ f.TOz r0,u0.extBut H0.extBut f.iz⟩ ⟨rfl,rfl,⟨λ_ _ _ e=>e,id⟩,by show _<=I0.objs.size;rw[l0];exact du _,λb o e Z _=>Q0 b o e Z,Z0⟩ λb Z=>.inl Z
 done:=λM S J O U st s Q E v0 h0 y q=>by
  obtain⟨rfl,k0,E0,l,a,b,b0,f,u,a0,T,j0⟩:=v0;obtain⟨o,I,Y,m,rfl,w0⟩:=y.store j l _ b0 h0;have p0:q0.length=2*X.length:=by rw[G0,Hn]
  refine mF.done H.handled f u a0 j0 #[a8,I,m] (nk (by rw[w0.size,p0];exact aO _)) T λc0 l0 P=>q _ ?_;refine⟨rfl,rfl,⟨λ_ _ _ e=>e,id⟩,l0,λb o e Z _=>P b o (#[hE]) (#[hE]) e,?_⟩;refine y.gh.many y.slt (M:=[z,i]) (λb Z=>?_) l0 λb o e Z=>P b o (#[hE]) (#[hE]) e;rcases bc.mp Z with rfl|Z;.exact⟨k0 _ #[z],#[m5]⟩
  .rw[aY.mp Z];obtain⟨N0,o0,m0,C⟩:=j0;exact⟨k0 _ #[z],.inl (#[ho,o0,(by rw[C]at d;cases d;cases v),(by rw[C]at d;cases d)])⟩
 mono:=λk O f0 M s F v0 e0 P _ _ _=>by obtain⟨rfl,k0,E0,l,a,b,b0,f,u,a0,T,j0⟩:=v0;exact⟨rfl,k0,E0,l,a,b,(e0 j a1).trans b0,f,P z #[z] _ u,P r #[z] _ a0,P g #[z] _ T,j0.at λo e=>P i #[z] o e⟩
 live:=λk O M s v0 b Z=>by
  obtain⟨rfl,k0,E0,l,a,O0,b0,f,u,a0,T,j0⟩:=v0;simp at Z;rcases Z with rfl|rfl|rfl|rfl;.exact#[bF,a0]
  .exact#[bF,u]
  .exact#[bF,T]
  .obtain⟨o,I,_⟩:=j0;exact⟨o,I⟩
 hx:=λk O M s v0 b Z=>by
  obtain⟨rfl,k0,E0,l,a,O0,b0,f,u,a0,T,j0⟩:=v0;simp at Z;rcases Z with rfl|rfl|rfl;.exact#[m5]
  .exact .inr ⟨E0,_,_,_,T,rfl⟩
  .obtain⟨N0,o0,m0,C⟩:=j0;exact .inl (#[ho,o0,(by rw[C]at d;cases d;cases v),(by rw[C]at d;cases d)])
end
section
variable{B:Bs}{w:aD}{n:Nat}{S:Gm}{d0 g0:#[n]}{U:#[o]}{H:#[l]}{l r0:#[y]}{h0:#[ay]}{a:aP}{x y:aq}{y0 O0 U0 i0 G0 E0 N0 M S0 R0 T0 T:aZ}{M0 t:Nat}
def Bs.at_(B:Bs)(c0:ao):Bs:={B with lo:=c0}
theorem Fx.at_{c0:ao}(f:Fx B X s L):Fx #[dM] X s L:=#[nU]
theorem Fx.Vs{c0:ao}(f:Fx #[dM] X s L):Fx B X s L:=#[nU]
theorem aj.Sy{X:List (V×V)}{c:Bs->Nat->#[f5]}(i j o1 l1 k1:Nat){C:Bs->#[l]}(F:#[w])(G:#[W])(s0:#[lZ,l1,"zip"])(p1:#[lZ,k1,"iter"])(I:#[aF,a,.ob o1,H])(f0:cv [a]=ae)(c1:#[aX,H,o1,q0])(e1:q0=X.flatMap #[hz])(N:#[eB,.local])(l0:#[ex,y,.local])(g1:∀c0 J O h,c0<=h.objs.size->#[cC]->aF #[dM] S J O U (C (B.at_ c0)) h)(n1:∀c0,#[bb,(C (B.at_ c0)),H.length])(v0:∀c0,c #[dM] 0 U (C (B.at_ c0)))(o0:∀c0 k v s,c #[dM] k v s->#[aX,s,o1,q0]/\i<v.length/\j<v.length)(a1:∀c0 k x v s,X[k]?=aa x->c #[dM] k v s->aj #[dM] w n S r0 #[nI] s λo t0 L=>o=.next/\gQ S.fz H.length (c (B.at_ c0) #[u]) t0 L)(Y0:∀c0 J O h v s,B.lo<=c0->c #[dM] X.length v s->aF #[dM] S J O v s h->∃t0 L,aF B S J O t0 L h/\#[d0,t0,L]):#[dx,.For (.Tuple [.Name x y0,.Name y O0] M0 U0) #[bO,#[aP,"zip",G0],[.Starred #[mk] T0],T] r0 [] i0]:=λA J O s Q E u m q=>by
 refine lN (yA (YZ F G u m s0 p1 I f0 c1 λd Z0 z r g k0 a0 r1 D u0 A0 I0 X0 b1=>?_) #[aj]);refine wpAny_pyIter_zip u0 ?_;have m1:=g1 k0.heap.objs.size J O k0.heap #[aO] a0.rel;have h1:aC (B.at_ k0.heap.objs.size) S J O U (C (B.at_ k0.heap.objs.size)) s O k0:=⟨a0.pre,a0.new,m1,a0.fx.at_⟩;have d1:∀b,#[Q,b]->#[gA,b≠J.locals,b,#[ap,b]]:=λb Z=>mG m Z;have q1:=#[U,c1]
 have F0:∀b∈[r,z,g,d],#[Q,b]/\b∉O:=λb Z=>by
  have:#[Q,b]:=by
   simp at Z;rcases Z with rfl|rfl|rfl|rfl;.exact b1.2.1
   .exact b1.1
   .exact b1.2.2.1
   .exact b1.2.2.2
  exact⟨this,λb0=>#[a9,m.fT b b0,this]⟩
 refine IX (B:=B.at_ k0.heap.objs.size) (R:=λo v s=>o=.next/\c (B.at_ k0.heap.objs.size) X.length v s) i j u d1 h1 (mj.zip u e1 (#[R]) _) ⟨rfl,λb Z=>(d1 b (F0 b Z).1).2.2,bj I0,Z0,_,_,r1,D,u0,A0,I0,X0⟩ F0 N #[a0] l0 #[a0] (v0 _) (λk v s h=>o0 _ k v s h) (λk x v s e H0 _ _ _=>?_) (λv s H0=>aj.nil #[aJ,H0]) λo t0 J0 f L j0 Q0 P p0=>?_;.refine aj.mono (a1 _ k x v s e H0) λo t0 L h=>?_;obtain⟨rfl,h⟩:=h;rw[n1];exact h
 .obtain⟨rfl,H0⟩:=Q0;cases p0;obtain⟨C0,n0,j1,Y⟩:=Y0 _ J j0 L.heap t0 J0 a0.rel.gh.2.2.2 H0 P.rel;have m0:#[cy,C0,n0,j0,L]:=#[iP,j1,P.fx.Vs];exact Y A J j0 L Q E u j1 λo e0 f1 f x0 L0 R w0 i1=>q o e0 f1 f x0 L0 R (m0.trans w0) i1
end
theorem aF.rebase{f g:Bs}{H m0:#[g]}(F:g.heap=f.heap)(d:g.fb=f.fb)(R:aF f S J O U H h)(P:g.lo<=h.objs.size)(t:m0.length=H.length)(u:#[gO,m0,∃e,#[I,H,e]/\(∀O o,OR O o e->OR O o e0)/\∀a,dG f J h a e->dG g J h a e0]):aF g S J O U m0 h:=by
 obtain⟨N,k0,u0⟩:=f;dsimp at F d;subst F d;refine⟨R.scope,R.kind,R.jJ,R.nd,R.glob,R.eX,⟨R.gh.1,R.gh.2.1,R.gh.2.2.1,P⟩,R.slt,R.ns,R.kU,R.len.trans t.symm,R.cX,λi a e0 I Z=>?_,λi a e0 I Z=>?_,R.nodup,R.high,R.dT,R.hR,R.cp,R.kb⟩;.obtain⟨e,b,c,_⟩:=u i _ Z;obtain⟨o,A0,t0⟩:=R.store i a _ I b;exact#[aS,A0,c _ o t0]
 .obtain⟨e,b,_,A⟩:=u i _ Z;exact A a (R.code i a _ I b)
theorem QA(F:g.heap=f.heap)(d:g.fb=f.fb)(P:I=[]\/g.lo<=f.lo)(s:hq f)(x:dG f J h a (aX 3 (dC f 2 0 I))):dG g J h a (aX 3 (dC g 2 0 I)):=by
 obtain⟨a0,m,j0⟩:=g;dsimp at F d P;subst F d;obtain⟨M0,O,q⟩:hg _ h a _ _:=x;refine⟨M0,λb Z=>⟨λn0=>#[a9,s.tab b n0,Z.1],Z.2⟩,λo e=>?_⟩;obtain⟨Y,n,S,H⟩:=q o e;refine#[aC,n,S,?_];obtain rfl|P:=P;.cases T:Y.toList with|nil=>exact .nil|cons v r=>rw[T]at H;cases H
 .exact H.mono λv c⟨t,A0,t0,x0⟩=>⟨t,A0,⟨t0.1,aH P t0.2⟩,x0⟩
section
variable{f g:Bs}{S:Gm}{J:aN}{O:#[s]}{U:#[o]}{h:bk}{N T:Nat}{p0 j0:Tx}{d q0:#[D]}{I:#[af]}
theorem Ht(F:g.heap=f.heap)(c:g.fb=f.fb)(P:I=[]\/g.lo<=f.lo)(H:g.lo<=h.objs.size)(R:aF f S J O U (bo f N p0 j0 d T I++[.list q0]) h):aF g S J O U (bo g N p0 j0 d T I++[.list q0]) h:=by
 refine R.rebase F c H rfl λi e0 e=>?_;have s:∀n r M a,dG f J h a (.rel n r M)->dG g J h a (.rel n r M):=λn r M a x=>by obtain⟨b,k0,u0⟩:=f;dsimp at F c;subst F c;exact x
 match i,e with|0,e=>cases e;exact#[ja,λa=>s _ _ _ a]|1,e=>cases e;exact#[ja,λa=>s _ _ _ a]|2,e=>cases e;exact#[ja,λ_ _=>trivial]|3,e=>cases e;exact#[ja,λa=>s _ _ _ a]|4,e=>cases e;exact#[ja,λa x=>QA F c P R.slt x]|5,e=>cases e;exact#[ja,λ_ _=>trivial]|i+6,e=>simp at e
end
theorem ba.lo{c0 f:ao}(h:ba B f j0 k r0):ba #[dM] f j0 k r0:=⟨h.ex,h.out⟩
noncomputable def uf:#[y]:=by run_tac au.dc ["_ValueFormatter","_ascii_split"]
noncomputable def pT:bq:=by run_tac au.dd ["_ValueFormatter","_ascii_split"]
section
variable{B:Bs}{w:aD}{d0 g0 s0 L:#[n]}{N:Nat}{p0:Tx}{T:Nat}{I:#[af]}{c:Tx×Tx}{f s:Tx}
theorem hJ.take(P:hJ I)(k:Nat):hJ (I.take k)/\bP (I.take k)<=bP I:=by
 have p:bP (I.take k)<=bP I:=by
  have:bP I=bP (I.take k)+bP (I.drop k):=by unfold bP;rw[<-CP,<-gJ,hF]
  omega
 exact⟨⟨λc X=>P.each c (eA X),by have:=P.len;rw[bH];omega,by have:=P.sum;rw[ke]at this⊢;omega⟩,p⟩
theorem Sl(h0:#[c0])(f0:#[mi])(d:ba B 106 pT 4 uf)(l0:#[jB])(g:nH B 43)(S:f++s=bA #[aK])(n0:∀x∈I++[c],Re.wW x)(P:hJ (I++[c]))(A:2*(I.length+1)+1<=2^20)(j0:T<=2^20)(i0:T+bP I<=N)(r0:N<T+bP (I++[c]))(U:Nat)(Y:iR #[aK] 59 (aa U)\/(iR #[aK] 59 ab/\iR #[aK] 44 (aa U))):bG B w 11 106 [.ob 1,.str f,.str s,.str cE] (#[bm,cE,[],T,[]]) .none (#[bm,cE,[.str (bA (#[aK].take U))],0,#[aK].drop U]):=by
 have n:∀x∈I++[c],x.2≠[]:=λx z=>(n0 x z).Mb;have b0:Re.ef ai [] (f++s)=[]::#[aK].flatMap #[fZ]:=by rw[S];exact Re.Gc _ [] n0
 have o0:#[t,#[aK].flatMap,#[fZ]]=2*(I.length+1):=by
  have:∀l:#[af],#[t,l.flatMap,#[fZ]]=2*l.length:=λl=>by induction l with|nil=>rfl|cons a r Q=>rw[mm,aV,Q,cc];simp;omega
  rw[this];simp
 have F:#[fy,(f++s)]:=by rw[S];exact P.sum
 have G:∀l:#[bz],#[t,ah,l]=l.length:=λl=>by simp[ah]
 have u:#[t,ah,[]::#[aK].flatMap #[fZ]]<=2^20:=by rw[G,cc,o0];exact A
 refine#[gT,h0.F,d,#[C],#[C]];refine#[kZ,4,Ev.Wu (W.glob h0.F h0.G 6 17 rfl rfl #[C]) g rfl (Ev.mH #[aD,1] #[aD,2] (St.Bw (x:=f) (y:=s) (by rw[<-aV];exact dz F)).up) F (by rw[b0,cc,o0];exact A) rfl rfl rfl #[aj] #[i]];rw[b0];refine aj.ite (t:=ai) (Et.val (x:=.str []) (Ev.BS (i:=#[bq]) #[aD,4] (W.ka rfl) rfl (dz u) (Fb rfl)) #[bC,aT _] #[ai]) ?_;rw[#[c1]];refine#[gZ,W.mW (k:=0) (q0:=ah (#[aK].flatMap #[fZ])) (v:=.str []) #[aD,4] (W.ka rfl) #[aU] rfl #[aB] (dz u) rfl #[i] rfl rfl rfl #[aj] #[i],aj.nil ?_]
 have M:ah (#[aK].flatMap #[fZ])=(#[aK].map λc=>(V.str c.1,V.str c.2)).flatMap #[hz]:=by
  have:∀l:#[af],ah (l.flatMap #[fZ])=(l.map λc=>(V.str c.1,V.str c.2)).flatMap #[hz]:=λl=>by induction l with|nil=>rfl|cons a r Q=>simp only[mm,dh,ah,gJ]at Q⊢;rw[<-Q];rfl
  exact this _
 have q0:#[b7,[V.str (bA (#[aK].take U))],0]:=λx z=>by rw[aY.mp z];trivial
 have m0:#[bb,#[aK],I.length+1]:=by simp
 have X:∀{a b:Tx},#[b7,([.ob 1,.str a,.str b]:#[D]),5]:=λ{a b}x z=>by
  simp at z;rcases z with rfl|rfl|rfl;.exact#[ao,1<5]
  .trivial
  .trivial
 show aj B w 10 (dD pT) [.For (.Tuple [.Name (ak "fws") _,.Name (ak "part") _] _ _) #[bO,#[aP,"zip",_],[.Starred (.BinOp (.List [.Call #[aP,"iter",_] [.Name (ak "parts") _] [] _] _) .Mult (.Constant #[T,2] _ _) _) _],_] _ [] _] #[mh,#[P,f],ab] (#[bm,cE,[],T,[]]++[#[aq,#[aK].flatMap #[fZ]]]) _;refine aj.Sy (B:=B) (w:=w) (n:=10) (S:=dD pT) (U:=#[mh,#[P,f],ab]) (H:=#[kG,#[bm,cE,[],T,[]]]) (C:=λa0=>#[kG,bo a0 N p0 cE [] T []]) (X:=#[aK].map λc=>(.str c.1,.str c.2)) (c:=λa0 k v H=>H=#[kG,#[aa,k<=I.length,bo a0 N p0 cE [] T (#[aK].take k),bo a0 N p0 cE [.str (bA (#[aK].take U))] 0 (#[aK].drop U)]]/\∃a b,v=#[mh,a,b]) 1 5 5 7 8 h0.F h0.G rfl rfl #[aD,4] rfl rfl M rfl rfl (λc0 J O h t R=>Ht (f:=B) (g:=B.at_ c0) rfl rfl #[a0] t R) #[aj] (λc0=>⟨by rw[if_pos (aT _)];rfl,_,_,rfl⟩) ?_ ?_ ?_;.rintro c0 k v H⟨rfl,a,b,rfl⟩;refine⟨?_,bx rfl,bx rfl⟩;split<;>rfl
 .rintro c0 k x v H z⟨rfl,a,b,rfl⟩;rw[cb]at z;obtain⟨y,m,rfl⟩:=dP.mp z;have C:k<#[aK].length:=#[U,m];have E:#[aK].take k++[y]=#[aK].take #[u]:=by rw[xt,m];rfl
  rw[#[G,if_pos]]
  have Z:∃o,cw 5 o/\bG #[dM] w 10 113 [.ob 1,.str y.1,.str y.2] (bo #[dM] N p0 cE [] T (#[aK].take k)) .none o/\o=#[aa,k+1<=I.length,bo #[dM] N p0 cE [] T (#[aK].take #[u]),bo #[dM] N p0 cE [.str (bA (#[aK].take U))] 0 (#[aK].drop U)]:=by
   by_cases e0:k+1<=I.length
   .rw[if_pos e0];refine⟨bo #[dM] N p0 cE [] T (#[aK].take #[u]),jC (λx z=>nomatch z),?_,rfl⟩;have q:bP (#[aK].take #[u])<=bP I:=by rw[ls e0];exact(hJ.take (I:=I) (by have:=(P.take I.length).1;rwa[mq]at this) #[u]).2
    have:=Sm (p0:=p0) (d:=[]) (T:=T) (N:=N) (I:=#[aK].take k) (f:=y.1) (p:=y.2) (f0 c0) l0.lo (by rw[E];exact(P.take _).1) j0 (by rw[E];omega) λx z=>nomatch z;rw[E]at this;exact this
   .rw[if_neg e0];have i:k=I.length:=by omega
    subst i;have k0:y=c:=by rw[dZ (aO _),ks]at m;exact(hk m).symm
    subst k0;refine#[aC,jC q0,?_,rfl];rw[mq];exact Sr (d:=[]) (f0 c0) l0.lo P n j0 r0 U Y #[i] λx z=>nomatch z
  obtain⟨o,j,h,e⟩:=Z;refine aj.expr (b0:=#[kG,o]) (Hr (Y:=#[fe,y.1,y.2]) (f0 c0) (f0 c0).QD #[i] UD rfl #[aD,0] rfl (.cons #[aD,1] #[aY,#[aD,5]]) (bG.rE h rfl (jC λx z=>nomatch z) j X).s #[aj] #[i] #[i]) #[ai] (aj.nil #[aJ,#[dI,by rw[e],_,_,rfl]])
 .rintro c0 J O h v H t⟨rfl,a,b,rfl⟩R;have z:#[t,#[aK].map,λc=>(V.str c.1,V.str c.2)]=I.length+1:=by simp
  rw[z,#[fp]]at R;exact#[aC,_,Ht (f:=B.at_ c0) (g:=B) rfl rfl (.inr t) (aH t R.gh.2.2.2) R,aj.nil (cZ.ux (jC q0) (.inr #[bS]) trivial rfl)]
end
theorem Uw:#[cY,"object","__init__","object.__init__"]:=by rw[cB,cA];kernel_rfl
section
variable{B:Bs}{w:aD}{L:#[n]}
theorem So(r0:hq B)(Q0:sS B L)(P:L "__init__"=aa (.ref 57))(C0:bX B 57){n:Nat}{T N:Nat}{p0 j0:Tx}(S0:ep B w n 57 [.ob 1,#[ad,T],#[ad,N],.str p0,.str j0] 0 #[l5] .none (#[bm,j0,[],T,[]])):#[mq,n+1]:=λA l s Q E j G F q=>by
 obtain⟨l0,d0,w0,J0,I0,F0,H0,A0,t0,x0,L0,C,J,O,X⟩:=Q0.ex;have Z:=#[aL,G,C,O];have k0:#[dL,w0,L]:=#[dG,J.at',G,X];obtain⟨⟨q0,f0,i0,v0,y0⟩,o0⟩:=C0;have M0:=#[aL,G,i0,o0];have G0:DK "object.__new__":=DF;obtain⟨h,g,d,t,h0⟩:=s;have g0:#[eD,h.get?,#[hB].get?]:=#[jq];have s0:#[hB].objs.size=h.objs.size+2:=by rw[cH,cH]
 have E0:#[hB].get? (h.objs.size+1)=aa #[fv,116,.plain]:=by have:#[hB].get? #[i6].objs.size=aa #[fv,116,.plain]:=#[aT];rwa[cH]at this
 have O0:#[n6,#[hB]]:=bM _ #[gr];refine uD (x:=h.objs.size+1) tr Uw Z k0 P M0 v0 g0 E0 rfl (λu0 R M=>yl (xV _ G0.quiet) (Ep G0 Z (DZ G0 Z k0 P M))) ?_;have n0:=G.grow (c0:=#[il,h.push,#[fv,116,.plain]]) (by rw[s0];exact hZ _ _) g0
 have N0:cI B #[iN] #[l5] #[hB]:=by
  refine⟨rfl,by simp,λa I=>?_,λi a e0 c a0=>?_⟩
  .simp at I;rcases I with rfl|rfl;.exact G.1
   .exact eI G.1
  .match i,c,a0 with|0,c,a0=>cases c;cases a0;exact⟨#[ml,O0,λe H=>#[aN,H,#[z]],(λy x m=>by cases m)],λo f0 p Y=>#[R]⟩|1,c,a0=>cases c;cases a0;exact⟨⟨_,E0,aO 2,rfl,rfl,#[i],_,rfl,rfl⟩,λo f0 p Y=>by rw[E0]at p;cases p;cases Y⟩|i+2,c,a0=>simp at c
 refine gi (S0 _ #[iN] (.ref (h.objs.size+1)::l) #[bu,_,t] _ (j.typeCall) n0 N0 (.cons #[M,rfl] (F.mono λ_ _ r=>VR.nil _ r)) λu f z v U S m0 c0 k=>#[a4,k])
 have R0:∀a∈#[iN],h.objs.size<=a:=λa I=>by
  simp at I;rcases I with rfl|rfl;.exact aO _
  .exact du _
 refine q _ f z ?_ m0 c0 (λa I=>?_) #[M,gU v rfl];.have b0:Fx B [] #[bt] #[bu,#[il,h.push,#[fv,116,.plain]],t]:=Fx.fU (X:=[]) (s:=#[bt]) (t:=t) (by rw[s0];exact hZ _ _) #[dJ,g0];exact b0.trans S λy m=>.inr (R0 y m)
 .rcases U a I with c|c;.exact R0 a c
  .refine aH ?_ c;show h.objs.size<=#[hB].objs.size;rw[s0];exact hZ _ _
end
def fu(c:Nat):Tx->Tx->#[bz]|A,[]=>[A]|A,x::r=>#[b8,x,c,A::fu c [] r,fu c (A++[x]) r]
theorem BK:∀(a A r:Tx),c∉a->fu c A (a++r)=fu c (A++a) r|[],A,r,_=>by simp|x::a,A,r,h=>by rw[fA,fu,#[bK,by simp;rintro rfl;exact h (.head _)],BK a _ r λf=>h #[br,f]];simp
theorem sF:#[eN,l≠[]->(∀a∈l,c∉a)->fu c [] (bh [c] l)=l]|[],h,_=>#[dm,h]|[a],_,h=>by have:=BK a [] [] (h a #[bJ]);rw[fy]at this;show fu c _ a=[a];rw[this];rfl|a::b::r,_,h=>by show fu c _ (a++[c]++bh _ _)=_;rw[cQ,BK a _ _ (h a #[bJ])];show#[gk,(c==c)=ae];rw[if_pos (beq_self_eq_true c)];show a::fu c _ (bh _ _)=_;rw[sF _ #[z] #[gj]]
theorem Xy(x:aq)(c:Nat):(nO x #[dC]).map (·.cps.toList)=fu c [] x.cps.toList:=by
 have N:(nO x #[dC]).map (·.cps.toList)≠[]:=λe=>by have:=split_pos x #[dC];simp_all
 have a0:∀a∈(nO x #[dC]).map (·.cps.toList),c∉a:=λa I=>by obtain⟨p,y,rfl⟩:=bI.mp I;exact StrLaws.split_free x c p y
 have G:bh [c] ((nO x ⟨#[c]⟩).map (·.cps.toList))=x.cps.toList:=by
  rw[<-vt _]
  have F:((nO x ⟨#[c]⟩).map (·.cps.toList)).map cq=nO x #[dC]:=by
   rw[gr];conv=>rhs;rw[<-te (nO x _)]
   rfl
  have d:cq [c]=⟨_⟩:=rfl;rw[F,d,StrLaws.join_split]
 rw[<-G,sF _ N a0]
theorem LC:∀(p0:Nat)(l:#[g]),#[fo,strsFrom p0 l,(ah (l.map (·.cps.toList)))]|_,[]=>.nil|p0,x::r=>.cons ⟨x,_,rfl,rfl⟩ (LC _ r)
section
variable{B:Bs}{w:aD}{n:Nat}{S:Gm}{U:#[o]}{H b0 o0 m0:#[l]}{i0 y0:aZ}{o e:aP}
theorem Cl.split{c r:Nat}{t:Tx}{q0:#[D]}(R:t.length<=2^20)(m:ah (fu c [] t)=q0)(Z:#[ef,H])(a:H.length=r):#[gx,"str.split",#[fe,t,[c]],.ob r]:=λA J O l s Q E g M T q=>by subst m Z a;cases T with
|cons N a0=>cases a0 with
|cons a0 G=>
 cases G;obtain⟨x,k,rfl,rfl⟩:=N;obtain⟨y,t0,rfl,C⟩:=a0;obtain rfl:y=#[dC]:=by obtain⟨⟨b⟩⟩:=y;have:b=[c]:=C;subst this;rfl
 have w0:=Xy x c;have p:=split_le x #[dC];have d:∀Y p0,#[fo,Y,ah (fu c [] x.cps.toList)]->#[bN,s.heap.objs.size,#[cN,s.heap.push #[aR,"list",.seq,Y.toArray],p0]]:=λY p0 h=>#[nH,aC.push (t:=p0) M rfl #[cw,0,by rw[EZ];exact h.mono λ_ _ r=>r.nil _]];have f:x.length<=2^20:=R;unfold nO at w0 p;by_cases N:(#[ax,x.length<(#[dC]:aq).length]||#[ax,Od x<Od #[dC]])=ae;.rw[if_pos N]at w0;exact kD ts (iE s _ k) DE (Dz _ _) (meets_str_split_cannot_occur x #[dC] k t0 N) (d _ _ (by rw[<-w0];exact .cons ⟨x,k,rfl,rfl⟩ .nil))
 .rw[if_neg N]at w0 p;have e:=wO.mpr N;by_cases a0:(Builtin.Str.occurrences x #[dC] 0 x.length (x.length+1)).isEmpty=ae;.rw[if_pos a0]at w0;exact kD ts (iE s _ k) DE (Dz _ _) (meets_str_split_not_found x #[dC] k t0 e rfl a0) (d _ _ (by rw[<-w0];exact .cons ⟨x,k,rfl,rfl⟩ .nil))
  .rw[if_neg a0]at w0 p;exact kD ts (iE s _ k) DE (Dz _ _) (meets_str_split_sep x #[dC] k t0 e rfl (wO.mpr a0) (dz f) (aH p (by have i:(2:Nat)^20+2<=aB:=#[i];omega))) (d _ _ (by rw[<-w0];exact LC _ _))
theorem W.split(p:#[b2,o,#[bo]])(I:#[bv,e,#[an,[c]]])(R:t.length<=2^20)(m:ah (fu c [] t)=q0)(Y:o0.length=r)(Z:#[ef,o0])(u:#[ek])(L:#[eg,"split"])(P:#[b3]):#[aF,#[g8,"split"],.ob r,m0]:=Ev.iM p #[p] lG ts OQ u #[aY,I] (Cl.split R m Z Y) L P #[z]
end
theorem oo{j0:#[fk]}{g:V->V}:(j0.map λp=>(p.1,g p.2)).lookup y=(j0.lookup y).map g:=by induction j0 with|nil=>rfl|cons p r Q=>obtain⟨z,u⟩:=p;rw[dh,fO,fO];cases y==z with|true=>rfl|false=>exact Q
theorem wj:bD (b+n) (ej b x)↔bD n x:=by cases x with|ob i=>exact Nat.add_lt_add_iff_left|_=>exact wX
theorem BD:aX b (bQ n j0)=bQ (b+n) (j0.map λp=>(p.1,ej b p.2)):=by
 have c:∀O o,kv n j0 (O.drop b) o=kv (b+n) (j0.map λp=>(p.1,ej b p.2)) O o:=λO o=>by
  refine propext ⟨λ⟨a,s,G,E,r,d,f⟩=>#[lh,λy m=>d y ?_],λ⟨a,s,G,E,r,d,f⟩=>#[lh,λy m=>d y ?_]⟩;.rw[oo]at m;simpa using m
  .rw[oo]at e;obtain⟨g,i,rfl⟩:=dP.mp e;obtain⟨v,S,H,A⟩:=f z _ i;exact⟨v,S,oF.mpr H,wj.mpr A⟩
  .rw[oo];simpa using m
  .obtain⟨v,S,H,A⟩:=f z _ (by rw[oo,e];rfl);exact⟨v,S,oF.mp H,wj.mp A⟩
 have t0:∀R C(e:R=C)h c0,Ob.rel (b+n) R h=Ob.rel (b+n) C c0:=λR C e h c0=>by simp_all
 exact t0 _ _ (funext λO=>funext λo=>c O o) _ _
theorem cy.sh(h:#[eY]):cy (aX b e0) C (b+d)where
 h:=λO o x=>by
  have Z:b<=O.length\/OR (O.drop b) o e0:=by cases e0 with|rel n R M=>exact .inl (aH (hZ b n) x.1)|hp n R P T M k=>exact .inl (aH (hZ b n) x.1)|raw R=>exact .inr x|list X=>obtain⟨Y,n,rfl,c⟩:=x;exact .inr #[cw,n,lQ.mp c]|tup X=>obtain⟨Y,n,rfl,c⟩:=x;exact .inr #[cw,n,lQ.mp c]
  obtain⟨N,a0,G,E,a,r,m⟩:=h.h _ _ (Z.elim (λZ=>(sA Z).mp x) id);exact⟨N,a0,G,E,a,by rw[<-iv];exact r,m⟩
theorem Wj{A g l:#[g]}(h:l.length=g.length):gX (A++g.map (aX A.length)) A.length l=A++l.map (aX A.length):=by unfold gX;simp_all
section
variable{w:aD}{A:aR}{E:#[E]}{s:fR}
theorem YP(M:#[hh])(n0:s.heap.IsList t Y)(T:Y.toList=[u,v])(g:∀c0,ye s.heap.objs.size s.heap c0->Q [u,v] #[h0]):#[aM,unpackItems #[K,t] 2 ab]:=by
 have U:t≠s.heap.objs.size:=by obtain⟨o,p,_⟩:=n0;exact cz (bj p)
 obtain⟨Y⟩:=Y;obtain rfl:Y=[u,v]:=T;refine#[bT,iZ (by obtain⟨o,p,X,_⟩:=n0;exact#[aS,p,X]) OH.lookup #[cA]];refine#[b6,rm n0 ?_];have r:#[lQ,s.heap.push,.ref t].IsListIter s.heap.objs.size t 0:=#[cS,#[aT]];have H:#[lQ,s.heap.push,.ref t].IsList t ⟨[u,v]⟩:=Heap.IsList.push n0 _;refine#[a3,cf];refine ag (ED r H (x:=u) rfl λN a k=>?_);have h:=H.extBut k.extBut U;refine#[a3,cf];refine ag (ED a h (x:=v) rfl λa0 f L=>?_);refine#[b6,az (az (az ?_))];refine#[b6,Qb M f (h.extBut L.extBut U) rfl λG O=>(az (g G λb o Z e=>O b o Z (L.extBut b o Z (k.extBut b o Z (bM _ e)))))]
end
section
variable{B:Bs}{w:aD}{n:Nat}{S:Gm}{U:#[o]}{H b0:#[l]}{a:aP}{l:#[y]}{h0:#[ay]}{i0:aZ}
theorem aj.Xc(i j:Nat)(h:#[aI,.ob t])(n0:#[aX,b0,t,[u,v]])(P:#[eB,.local])(d:#[ex,y,.local])(t0:#[eK])(v0:#[gB])(r0:#[jy])(g0:#[f1,kK #[eO] a J=av ab])(f:#[d0,#[fm,u].set j (aa v),b0]):#[eU,#[eO]]:=#[e0,λo I L=>#[d6,I=#[fm,u].set j (aa v),L=b0],by
 refine PJ (#[dU,h,λu0 k0 T c F=>?_]) (r0 J M.scope) (g0 J M.scope);obtain⟨p0,Y,k,rfl,R,p,z⟩:=c.rel.list F n0;obtain⟨l0,m0,j0,o0,q0⟩:∃l0 m0,Y.toList=[l0,m0]/\VR T l0 u/\VR T m0 v:=by cases X:Y.toList with|nil=>rw[X]at z;cases z|cons l0 r=>rw[X]at z;cases z with|cons N a0=>cases a0 with|cons a0 G=>cases G;exact⟨_,_,rfl,N,a0⟩
 refine#[a3,dI];refine#[b6,eR (YP g.handled #[a8,p,k] j0 λc0 f0 s0=>?_)];have m:#[hU,T,b0,k0,T,k0,c0]:=aC.heap c.rel s0 λb o e=>f0 b o (cz (bj e)) e;refine lC (jW (aF.gY m.rel P #[a0] t0 o0 λC Z=>lC (jW (aF.gY Z.rel d #[a0] #[R] q0 λd0 e0=>tm (q .next _ _ _ d0 _ #[b9] #[cW,(c.trans m).trans,Z,e0] rfl))))),λI L h=>#[R],λo I L p h=>#[dl,p]]
end
section
def gD(A:Tx):Tx:=if A.length%2=0 then[32]else[9,32]
def bO(l:#[j])(c:Nat):Nat:=if c=fI l\/c=fH l then#[aa,#[d9]=0,59,44]else#[aa,#[d9]=0,44,58]
def cj(M:#[cU])(e:#[ac]):Tx->#[j]->#[af]|_,[]=>[]|A,c::r=>(gD A,#[ec])::cj M e (A++(gD A++(M c++[e c]))) r
variable{M:#[cU]}{e:#[ac]}
theorem wB(a b:#[g]):bA (a++b)=bA a++bA b:=by unfold bA;simp
theorem Lv(p:Tx×Tx):bA [p]=p.1++p.2:=by simp[bA]
theorem kW:∀(l:#[g])(A:Tx),#[ia,(cj M e A l)]|[],_=>rfl|_::r,_=>congrArg _ (kW r _)
theorem JI:∀(l:#[g])(A:Tx)(c:Nat),cj M e A (l++[c])=cj M e A l++[(gD (A++bA (cj M e A l)),#[ec])]|[],A,c=>by show[_]=[_];rw[#[co,bA _=[]],fy]|d::r,A,c=>by show _::cj M e _ (r++[c])=_::(_++_);rw[JI r];show _::(_++[(gD _,_)])=_::(_++[(gD (A++bA ((gD _,M d++[e d])::cj M e _ r)),_)]);rw[#[co,bA ((gD _,M d++[e d])::cj M e _ r)=(gD _++(M d++[e d]))++bA (cj M e _ r)],<-cQ _ (gD _++(M d++[e d]))]
theorem si:∀(l:#[g])(A:Tx),(cj M e A l).map (·.2)=l.map λc=>#[ec]|[],_=>rfl|_::r,_=>congrArg _ (si r _)
theorem oA:∀(l:#[g])(A:Tx),∀p∈cj M e A l,p.1=[32]\/p.1=[9,32]
 |[],_,p,h=>by cases h
 |c::r,A,p,h=>by
  obtain rfl|h:=bc.mp h
  .show gD _=_\/gD _=_;unfold gD;split;.exact#[dn]
   .exact .inr rfl
  .exact oA r _ p h
theorem vQ(h:p∈cj M e A l):∃c∈l,p.2=#[ec]:=by have N:p.2∈(cj M e _ l).map (·.2):=List.mem_map_of_mem h;rw[si]at N;obtain⟨c,X,h⟩:=bI.mp N;exact⟨c,X,h.symm⟩
theorem Gw(l:#[g])(c:Nat):bO l c=59\/bO l c=44\/bO l c=58:=by unfold bO;split<;>split<;>simp
structure iH(M:#[cU])(l:#[j]):Prop where
 words:hs M
 free:∀c∈l,∀x∈M c,x≠32/\x≠9/\x≠10
theorem iH.sub(h:iH M l)(u:∀x∈L,x∈l):iH M L:=⟨h.words,λc X=>h.free c (u c X)⟩
section
variable{l:#[j]}
abbrev dy:Tx×Tx:=([32],[46])
theorem aeh(h:hs M)(c:Nat):M c≠[]:=by obtain⟨d,e⟩:=h.last c;rw[e];simp
theorem JJ(h:iH M l)(A:Tx):∀x∈#[dO,A,l]++[dy],Re.wW x:=λx z=>by
 obtain z|z:=cK.mp z
 .obtain⟨c,X,d⟩:=vQ z;refine#[bM,?_,?_,?_];.rcases oA l _ x z with F|F<;>rw[F]<;>decide
  .rcases oA l _ x z with F|F<;>rw[F]<;>decide
  .rw[d];intro y m;obtain m|m:=cK.mp m;.obtain⟨N,a0,G⟩:=h.free c X y m;unfold Re.fa;simp[N,a0]
   .rw[aY.mp m];rcases Gw l c with Q|Q|Q<;>rw[Q]<;>decide
  .rw[d];simp
 .rw[aY.mp z];exact⟨by decide,by decide,by decide,by decide⟩
theorem Aw:∀I:#[g],(∀c∈I,c.1.length+c.2.length<=b)->bP I<=I.length*b|[],_=>aT _|c::r,h=>by have N:=Aw r #[gj];have a0:=h c #[bJ];show c.1.length+c.2.length+bP r<=(r.length+1)*b;rw[ly];omega
theorem VU(h:iH M l)(A:Tx):∀x∈#[dO,A,l]++[dy],x.1.length+x.2.length<=67:=λx z=>by
 obtain z|z:=cK.mp z;.obtain⟨c,X,d⟩:=vQ z;have N:=h.words.len c;rw[d];rcases oA l _ x z with F|F<;>rw[F]<;>simp<;>omega
 .rw[aY.mp z];decide
theorem JL(h:iH M l)(R:l.length<=5)(A:Tx):hJ (#[dO,A,l]++[dy])/\bP (#[dO,A,l]++[dy])<=402:=by
 have N:=VU h A;have a0:=Aw _ N;rw[aV,kW]at a0;simp only[cc,et]at a0;have G:bP (#[dO,A,l]++[dy])<=402:=by omega
 refine⟨#[bL,λc X=>?_,?_],G⟩;.have:=N c X;omega
 .rw[aV,kW];simp only[cc,et];omega
 .rw[ke];omega
theorem zJ(A:Tx)(j d:Nat):nq #[fJ] j d↔(∃c,#[aW,l,c]/\bO l c=d)\/(j=l.length/\d=46):=by
 unfold nq;obtain b|b:=gd j _
 .have H:j<(cj M (bO l) A l).length:=by rw[kW];exact b
  rw[cG H];have e:((cj M (bO l) A l).map (·.2))[j]?=(l.map λc=>M c++[bO l c])[j]?:=by rw[si]
  rw[cb,cb,bB b,bB H]at e;rw[bB b,bB H];have w:(cj M _ _ l)[j].2=M _++[bO l _]:=hk e;constructor;.simp_all
  .rintro(⟨c,X,a⟩|⟨h,_⟩);.cases X;exact#[b4,#[R]]
   .omega
 .rw[dZ (by rw[kW];exact b),kW];constructor
  .rintro⟨x,z,S⟩;obtain⟨N,rfl⟩:j-l.length=0/\x=dy:=by cases h:j-l.length with|zero=>rw[h]at z;exact#[aJ,(hk z).symm]|succ k=>simp_all
   exact .inr ⟨by omega,by simp_all⟩
  simp_all
theorem VV(n:l≠[])(U:l.Nodup)(A:Tx):iR #[fJ] 59 (aa #[em])\/(iR #[fJ] 59 ab/\iR #[fJ] 44 (aa #[em])):=by
 have C:=qg n;have Q:=nD.mpr (ov n).1;have O:=nD.mpr (ot n).1;have f:l[l.idxOf (fI l)]=fI l:=xj Q;have g:l[l.idxOf (fH l)]=fH l:=xj O;have t:#[bb,#[fJ],l.length+1]:=by rw[aV,kW];rfl
 have k:l[bp l]=fI l\/l[bp l]=fH l:=by
  rcases#[mG,nF]with h|h;.have e:bp l=l.idxOf (fH l):=xC h;right;simp only[e];exact g
  .have e:bp l=l.idxOf (fI l):=xB h;left;simp only[e];exact f
 have p:∀j(b:j<l.length),bp l<j->l[j]≠fI l/\l[j]≠fH l:=λj b h=>by have N:l.idxOf (fI l)<=bp l:=Nr _ _;have a0:l.idxOf (fH l)<=bp l:=Nt _ _;grind
 have o:∀d,(∀c,(c=fI l\/c=fH l)->bO l c=d)->(∀c,c≠fI l->c≠fH l->bO l c≠d)->d≠46->iR #[fJ] d (aa #[em]):=λd N a0 G=>by
  refine⟨xy _ _,#[f],(zJ A _ _).mpr (.inl ⟨l[bp l],bB C,N _ k⟩),λj R y h=>?_⟩;rcases(zJ A _ _).mp h with⟨c,X,a⟩|⟨_,h⟩;.obtain⟨b,rfl⟩:=bu.mp X;obtain⟨S,H⟩:=p (j-1) b #[f];exact a0 _ S H a
  .exact G h
 rcases CZ l.length with a|a
 .left;refine o 59 (λc X=>?_) (λc N a0=>?_) #[i];.unfold bO;rw[if_pos X,if_pos a]
  .unfold bO;rw[#[bK,by rintro(h|h);exact N h;exact a0 h],if_pos a];decide
 .right;refine⟨λj N a0 h=>?_,o 44 (λc X=>?_) (λc N a0=>?_) #[i]⟩
  .rcases(zJ A _ _).mp h with⟨c,X,h⟩|⟨_,h⟩;.unfold bO at h;rw[#[bK,show¬#[d9]=0 by omega],#[bK,show¬#[d9]=0 by omega]]at h;split at h<;>cases h
   .cases h
  .unfold bO;rw[if_pos X,#[fp]]
  .unfold bO;rw[#[bK,by rintro(h|h);exact N h;exact a0 h],#[fp]];decide
theorem Kp:∀I:#[af],(∀p∈I,(p.1=[32]\/p.1=[9,32])/\32∉p.2/\9∉p.2)->fu 32 [] ((bA I).filter (·!=9))=[]::I.map (·.2):=λI h=>by
 have N:(bA I).filter (·!=9)=bh [32] ([]::I.map (·.2)):=by induction I with|nil=>rfl|cons p r Q=>have y:=h p #[bJ];have F:bA (p::r)=(p.1++p.2)++bA r:=rfl;rw[F,xi,xi,Q λq O=>h q #[br,O],filter_free 9 _ y.2.2];rw[(by rcases y.1 with e|e<;>rw[e]<;>rfl:p.1.filter _=[32])];cases r with|nil=>show _=[]++[32]++p.2;simp[bh]|cons q z=>show[32]++p.2++([]++[32]++bh _ _)=[]++[32]++(p.2++[32]++bh _ (q.2::z.map _));simp
 rw[N,sF _ #[z] λa b=>?_];obtain rfl|b:=bc.mp b;.simp
 .obtain⟨p,y,rfl⟩:=bI.mp b;exact(h p y).2.1
theorem VW(h:iH M l)(A:Tx):∀p∈#[dO,A,l]++[dy],(p.1=[32]\/p.1=[9,32])/\32∉p.2/\9∉p.2:=λp y=>by
 have S:=JJ h _ p y;refine⟨?_,λf=>?_,λf=>?_⟩
 .obtain y|y:=cK.mp y;.exact oA l _ p y
  .rw[aY.mp y];exact#[dn]
 .have:=S.w _ f;cases this
 .have:=S.w 9 f;cases this
theorem JK(h:iH M l)(A:Tx):∀p∈#[dO,A,l]++[dy],10∉p.1/\10∉p.2:=λp y=>by
 obtain y|y:=cK.mp y
 .obtain⟨c,X,d⟩:=vQ y;refine⟨by rcases oA l _ p y with F|F<;>rw[F]<;>decide,λf=>?_⟩;rw[d]at f;obtain f|f:=cK.mp f;.exact(h.free c X _ f).2.2 rfl
  .have:=aY.mp f;rcases Gw l c with Q|Q|Q<;>rw[Q]at this<;>cases this
 .rw[aY.mp y];decide
theorem Jw(h:∀p∈I,10∉p.1/\10∉p.2):10∉bA I:=λf=>by obtain⟨t,n0,f⟩:=List.mem_flatten.mp f;grind
theorem WT(h:iH M l)(A:Tx)(i:Nat):fu 10 [] (bh [10] [bA (#[fJ].take i),bA (#[fJ].drop i)])=[bA (#[fJ].take i),bA (#[fJ].drop i)]:=by
 refine sF _ #[z] λa I=>?_;simp at I;obtain rfl|rfl:=I;.exact Jw λp y=>JK h _ p (eA y)
 .exact Jw λp y=>JK h _ p (eU y)
theorem Vp:nN (cq (t++bA (I++[dy])))=ai:=by unfold nN;rw[Bool.and_eq_false_iff];right;rw[<-Ms,Array.all_eq_true_iff_forall_mem];intro h;have:=h 46 (by simp[cq,bA]);revert this;decide
end
end
section
variable{B:Bs}{w:aD}{n m:Nat}{S:Gm}{d0 g0:#[n]}{U x0:#[o]}{H b0 o0 w0 m0:#[l]}{i0 y0 p:aZ}{J:aN}{O:#[s]}{l u0 j0:#[y]}{h0 d:#[dB]}{a b c o:aP}
theorem ez.iM{T P:String}(p:#[bx,ez,o,x])(b:VT b0 x T)(Z:yf T)(a0:nL T G P)(F:#[hX,P])(u:cv e=ae)(I:#[hC,e])(X:#[hy,#[cZ,P],x])(d:#[eh])(h:#[b3])(R:e.length<30):ez B w n S #[fN,e] U H r w0:=λA J O s Q E n0 g M q=>by refine kP n0 (pj (d _) (oh u R) h (dn _ _ u) (p A _ _ s _ _ n0 g M λu0 k0 a _ c f=>?_));obtain⟨C,k⟩:=b.typeIs c.rel f;refine⟨T,_,Z,a0,F,C,k,(kx (fV _ _) (eK (I A _ _ _ _ _ g c.rel λl m L y i=>X A _ _ (u0::l) _ _ _ g y.rel (.cons (f.pre y.pre) i) λz N t v j c0=>q _ _ _ c0 #[cW,c.trans,y,v] j)))⟩
theorem ez.split{c r:Nat}(p:#[bx,ez,o,#[bo]])(I:#[bv,e,#[an,[c]]])(R:t.length<=2^20)(m:ah (fu c [] t)=q0)(Y:o0.length=r)(Z:#[ef,o0])(u:#[ek])(L:#[eg,"split"])(P:#[b3]):ez B w n S #[g8,"split"] U H (.ob r) m0:=ez.iM p #[p] lG ts OQ u #[aY,I] (Cl.split R m Z Y) L P #[z]
theorem ez.wo{c0 P:#[a7,aP]}(I:#[bx,ez,a,.ob k])(R:#[lw])(t:#[jF])(C:#[aX,w0,k,X])(u:#[bp])(h:cF X i j=q0)(f:w0.length=r)(Z:#[ef,w0]):ez B w n S (.Subscript a #[j9] i0) U H (.ob r) m0:=λA J O s Q E n0 g M q=>by subst f Z;exact kP n0 (lg (I A J O s _ _ n0 g M λu0 k0 G _ d l=>pk (R A J G k0 _ _ g d.rel λC0 m T y x=>t A J T m _ _ g y.rel λe0 N h0 v g0=>by
 obtain⟨t0,rfl⟩:=x;obtain⟨x0,rfl⟩:=g0;obtain⟨j0,Y,F,rfl,R,L,c⟩:=v.rel.list ((l.pre y.pre).pre v.pre) C;have d0:N.heap.IsList j0 Y:=#[a8,L,F];refine az #[m0,(d0.push _)];have a0:#[hU,h0,w0,N,h0,N,#[d3,N.heap.push,"slice",#[gg (i.map λq=>(q,t0)),gg (j.map λq=>(q,x0)),.none]]]:=aC.heap v.rel (#[z]) #[e7];have r0:∀z p0,nI (gg (z.map λq=>(q,p0))) z:=λz p0=>by cases z;exact .none;exact .int _ _
 refine Es (d0.push _) (tw ..) (r0 i t0) (r0 j x0) .none #[z] ?_ (by rw[c.size];exact u);have f0:=((d.trans y).trans v).trans a0;refineλs0=>q _ _ (h0++[_]) s0 #[jM,f0.trans,a0.rel,?_] #[M,by rw[<-a0.rel.len];simp];subst h;rw[PE];have l0:=c.length;rw[gG]at l0;rw[l0];exact((c.drop _).take _).mono #[ig])))
theorem nr.list(h:#[bx,ez,a,#[ce]])(P:#[h6]):nr 1 B w n S a U H X (λH=>#[bR]) b0:=λA J O s n0 g M Q E q=>h A _ _ s _ E n0 g M λv k0 G _ c d=>by obtain⟨l,Y,k,rfl,R,p,z⟩:=c.rel.list d P;refine#[me,rm,#[a8,p,k],hh.list,cz (bj p),#[cS,#[aT]]]
theorem aj.Xh{y:aq}{t:Tx}(i:Nat)(P:#[eA,.local])(h:#[eK])(m:y.cps.toList=t)(Y:dY 1 B w n S l (U.set i (aa (.str t))) H h0):#[dx,.Assign [.Name l0 L] (.Constant #[an,y] H0 R) i0]:=λA J O s Q E g M q=>by subst m;have c:=#[hr].toks (s.toks+1);have e:VR O (.str y s.toks) (.str _):=⟨y,_,rfl,rfl⟩;refine lN (yz (nQ ?_));refine kP (xy 1 _) (aF.gY c.rel P #[a0] h e λd b N=>(Y A _ _ _ Q E N g b.rel λo I a f j x k v p=>q o _ _ f _ _ k #[cW,c.trans,b,v] p))
theorem dY.app(h:#[cE,u0,U,H,d])(a:∀v s,d .next v s->dY N B w n S j0 v s h0)(p:∀o v s,o≠.next->d o v s->h0 o v s):dY N B w n S (u0++j0) U H h0:=λA J O s Q E l g M q=>by refine Me (kP l (h A _ _ s _ _ g M λo I L f k0 G A0 c b n0=>?_));cases f with
|next=>cases o with|next=>exact a _ _ A0 A _ _ _ Q E n0 g c.rel λo C0 m f j x k i r=>q o _ _ f _ _ k (c.trans i) r|brk=>cases b|cont=>cases b|ret v=>obtain⟨_,e,_⟩:=b;cases e
|brk=>cases o with|next=>cases b|brk=>exact#[mR]|cont=>cases b|ret v=>obtain⟨_,e,_⟩:=b;cases e
|cont=>cases o with|next=>cases b|brk=>cases b|cont=>exact#[mR]|ret v=>obtain⟨_,e,_⟩:=b;cases e
|ret u=>cases o with|next=>cases b|brk=>cases b|cont=>cases b|ret v=>exact#[mR]
end
noncomputable def lR:#[y]:=by run_tac au.dc ["_law_tree"]
noncomputable def me:bq:=by run_tac au.dd ["_law_tree"]
theorem JE:ip me 1=ae:=#[p]
section
variable{B:Bs}{w:aD}{d0 g0:#[n]}{M:#[cU]}{e:#[ac]}{l:#[j]}{f k p:Nat}
def eO(o:Ob):Prop:=∀k r,ct k (o::r)=ct #[u] r
theorem Yv(F:#[w])(G:#[W])(i:#[c8,"_law_tree",319])(m:l.length<=5)(Y:iH M l)(Z:#[f9,l])(C:#[cH]){q v O:Tx}{A J:#[bh]}{g b:V}{p n R S N U c0:Ob}{f0 m0:#[D]}(l0:eO p)(s:eO n)(r0:eO R)(u:eO S)(X:eO N)(k0:eO U)(o0:eO c0)(t0:q.length<=1000)(n0:v.length<=1000)(b0:fu 32 [] (q.filter (·!=9))=[]::(l.take #[u]).map λc=>#[ec])(h0:fu 32 [] (v.filter (·!=9))=[]::(((l.drop #[u]).map λc=>#[ec])++[[46]])){F0:#[j]->#[j]}(d:∀r,#[t,F0,r]<=100){P:#[j]->Prop}(G0:P (l.take k))(E0:P (l.drop #[u]))(Q:∀r,P r->Fn B w (f+12) 319 [#[aq,r.map M]] #[fh,#[dd,(F0 r).map]]):dY 1 B w (f+12) (ey me 1 []) (lR.drop 10) [#[bj],A,#[ag],#[e6],aa g,aa b,#[P,O],J,#[V,6],#[P,q],#[P,v],ab,ab,ab,ab,ab,ab,ab] [#[aq,l.map M],#[aq,l.map #[cs]],p,n,.list f0,R,S,N,U,c0,.list m0] (dx 1 #[fh,#[dd,([40]++F0 (l.take k)++[l.getD k 0]++F0 (l.drop #[u])++[41]).map]]):=by
 have e0:(-1:Int)=-#[a5]:=rfl;have z:∀c,cF (M c++[e c]) ab (aa (-#[a5]))=M c:=λc=>by rw[<-e0,KW];simp
 have p0:∀c,#[cI,(M c++[e c])]:=λc=>by rw[aV];exact aH (Nat.add_le_add (Y.words.len c) #[aO]) (by show 64+1<=aB;decide)
 have E:(l.take #[u])=l.take k++[l.getD k 0]:=by rw[lx C,dO,bB C];rfl
 have q0:∀t:Tx,(oZ (cq t) (ak "\t") (ak "")).cps.toList=t.filter (·!=9):=λt=>replace_strikes (cq t) 9;have L:∀r:#[j],ah (r.map λc=>#[ec])=r.map λc=>V.str (M c++[e c]):=λr=>by unfold ah;rw[gr];rfl
 have j0:∀r:#[j],((r.filter λ_=>ae).map λc=>#[eu,c])=ah (r.map M):=λr=>by rw[#[hP]];unfold ah;rw[gr];rfl
 have u0:∀r:#[j],cF (ah ([]::((r.map λc=>#[ec])++[[46]]))) (aa #[a5]) (aa (-#[a5]))=ah (r.map λc=>#[ec]):=λr=>by rw[<-e0,Xo];show(ah ((r.map λc=>#[ec])++[[46]])).dropLast=_;rw[kj];exact List.dropLast_concat
 have I:∀{j:Nat},j<=1000->j<=aB:=λh=>aH h #[i];refine dY.pZ (c:=l.take (k+1)) F (λc=>.str (M c++[e c])) (λ_=>ae) (λc=>.str (M c)) 1 (G:=[ab,ab]) (X:=#[dN,l.take,#[u],λc=>#[ec]]) (q0:=#[dN,l.take,#[u],M]) (r:=13) (C:=λst=>#[aX,st,12,ah ((l.take #[u]).map λc=>#[ec])]) (nr.list (i:=12) (ez.wo (k:=11) (i:=aa ((1:Nat):Int)) (j:=ab) (ez.split (t:=q.filter (·!=9)) (c:=32) (ez.replace G (ez.of (Ev.name 9 rfl rfl (by decide+kernel))) (by show q.length+(q.length+1)*0<=_;omega) (q0 q) (λ_=>rfl) (by decide)) (by run_tac au.aI) (aH (sZ _ _) (aH t0 (by decide))) (by rw[b0]) rfl rfl rfl (λ_=>rfl) (by decide)) (by run_tac au.aI) (by run_tac au.aI) rfl (by rw[show ah ([]::(l.take (k+1)).map λc=>M c++[e c])=.str []::ah ((l.take (k+1)).map λc=>M c++[e c])from rfl];simp only[cc,ah,aQ,bH];exact I (by omega)) (oG _ 1) rfl rfl) rfl) rfl #[C] #[C] #[C] #[C] (by simp[ct,l0 _ _,s _ _,r0 _ _,u _ _,X _ _,k0 _ _,o0 _ _]) rfl rfl rfl (by simp only[ah,aQ,bH];exact#[G,I]) #[aj] #[aZ] #[aZ] (L _) #[ai] (λ_ _ _=>rfl) ?_ #[ai] ?_ rfl 11 #[C] rfl #[aZ] rfl ?_;.intro c a;run_tac au.aI
 .exact j0 _
 refine dY.pZ (c:=l.drop (k+1)) F (λc=>.str (M c++[e c])) (λ_=>ae) (λc=>.str (M c)) 1 (G:=[ab,ab]) (X:=#[dN,l.drop,#[u],λc=>#[ec]]) (q0:=#[dN,l.drop,#[u],M]) (r:=16) (C:=λst=>#[aX,st,15,ah ((l.drop #[u]).map λc=>#[ec])]) (nr.list (i:=15) (ez.wo (k:=14) (i:=aa ((1:Nat):Int)) (j:=aa (-((1:Nat):Int))) (ez.split (t:=v.filter (·!=9)) (c:=32) (ez.replace G (ez.of (Ev.name 10 rfl rfl (by decide+kernel))) (by show v.length+(v.length+1)*0<=_;omega) (q0 v) (λ_=>rfl) (by decide)) (by run_tac au.aI) (aH (sZ _ _) (aH n0 (by decide))) (by rw[h0]) rfl rfl rfl (λ_=>rfl) (by decide)) (by run_tac au.aI) (by run_tac au.aI) rfl (by simp only[cc,ah,aQ,aV,cR,et];exact I (by omega)) (u0 _) rfl rfl) rfl) rfl #[C] #[C] #[C] #[C] (by simp[ct,l0 _ _,s _ _,r0 _ _,u _ _,X _ _,k0 _ _,o0 _ _]) rfl rfl rfl (by simp only[ah,aQ,cR];exact#[G,I]) #[aj] #[aZ] #[aZ] (L _) #[ai] (λ_ _ _=>rfl) ?_ #[ai] ?_ rfl 12 #[C] rfl #[aZ] rfl ?_;.intro c a;run_tac au.aI
 .exact j0 _
 refine dY.of ?_;have o:cF #[bU,(l.take #[u]).map] ab (aa (-#[a5]))=#[dN,l.take,k,M]:=by rw[<-e0,KW,E];simp[ah]
 have y:br #[bU,(l.take #[u]).map] (-#[a5])=#[P,M (l.getD k 0)]:=by rw[E,gJ,kj,<-e0];exact yS _ _
 have H:=oy;have T:#[cI,#[bU,(l.take #[u]).map]]:=by simp only[ah,aQ,bH];exact#[G,I]
 have a0:#[ms,[40]++F0 (l.take k)++[l.getD k 0]++F0 (l.drop #[u]),(F0 (l.take k)),l.getD,(F0 (l.drop #[u]))]:=by simp only[gJ,kj,dh,oO,Bd,Be,sm (Z _ (lU C))];rfl
 rw[a0];have i0:=d (l.take k);have s0:=d (l.drop #[u]);run_tac au.aI
 all_goals first|(simp only[dp,aV,cc,et,ah,aQ];omega)|(rw[<-a0];simp[ah,bR])
end
theorem uy{A g:#[g]}(i:Nat)(e0:Ob)(h:#[cD,g]):(A++g.map (aX A.length))[A.length+i]?=aa (aX A.length e0):=by rw[dZ (hZ _ _),xv,cb,h];rfl
theorem wk(h:bR x=ae):ej b x=x:=by cases x<;>first|rfl|cases h
section
variable{B:Bs}{w:aD}{n m:Nat}{S:Gm}{d0 g0 s0 L:#[n]}{U:#[o]}{N:Nat}{p0 j0:Tx}{d a:#[D]}{T b:Nat}{I u:#[af]}{A:#[l]}{i0 y0:aZ}
theorem Ho(h0:#[c0])(v:L G=aa (.ref f))(C0:f∈#[kU])(C:#[ck,G])(M:#[er,((vd N p0 j0).lookup G)])(p:#[dR,o,#[jX],.ob (A.length+1),#[jX]])(q:cv t=ae)(g:cu B w n S t U #[jX] Y #[jX])(h:bG B w m f (.ob 1::Y) (#[bm,j0,d,T,I]) r (#[bm,j0,a,b,u]))(l:m<=n)(y:S.fz<=A.length)(k:#[fq,Y])(s:bR r=ae)(F:#[b7,d,0])(H:#[b7,a,0])(E:#[eh])(P:#[b3])(R:t.length<30):#[dR,#[fN,t],#[jX],r,A++(#[bm,j0,a,b,u]).map (aX A.length)]:=by
 obtain⟨q0,f0,c,a0,j⟩:=(h0.fo f C0).ex;refine Ev.lX h0.Cf p (uy 1 _ rfl) (cy.sh cy.de) ((uy 0 _ rfl).trans (congrArg aa BD)) #[f] (by rw[oo];simpa using M) v ⟨q0,c,a0,j⟩ (h0.fo f C0).out C q g ?_ E P R;refine((bG.call A.length h y (eC #[z]) (λi e0 e=>uy i e0 e) (jC F) (jC H) #[b1,?_] ?_ (wk s) (Wj rfl)).le l).s
 .obtain rfl|z:=bc.mp z;.exact#[ao,1<5]
  .exact pP (k x z)
 .show ej _ _::Y.map _=_;rw[show Y.map (ej _)=Y.map id from lr λx z=>wk (k x z),te];rfl
theorem hJ.drop(P:hJ I)(k:Nat):hJ (I.drop k)/\bP (I.drop k)<=bP I:=by
 have p:bP (I.drop k)<=bP I:=by
  have:bP I=bP (I.take k)+bP (I.drop k):=by unfold bP;rw[<-CP,<-gJ,hF]
  omega
 exact⟨⟨λc X=>P.each c (eU X),by have:=P.len;rw[cR];omega,by have:=P.sum;rw[ke]at this⊢;omega⟩,p⟩
variable{M:#[cU]}{l:#[j]}
theorem Yl(n:l≠[]):bA (#[dO,[],l])=[32]++(bA #[gX,l]).drop 1:=by cases l with|nil=>exact#[dm,n]|cons c r=>rfl
theorem Yx(h0:#[c0])(C0:#[mi])(I0:#[c8,"_ValueFormatter",116])(J:∀T N(p0 j0:Tx),p0.length<=2^20->#[mq,4])(J0:ba B 106 pT 4 uf)(G0:#[jB])(m0:ba B 64 wc 2 uh)(L0:ba B 78 kZ 1 rz)(p:nH B 43)(Y:iH M l)(n:l≠[])(U:l.Nodup)(c:l.length<=5)(f:11<=m){A f0:#[bh]}{g b:V}{O Q b0:Tx}{E0 S H C v0:Ob}(n0:O=bA #[gX,l])(w0:Q=bA ((#[dO,[],l]++[dy]).take #[em]))(A0:b0=bA ((#[dO,[],l]++[dy]).drop #[em])):aj B w m (ey me 1 []) ((lR.drop 6).take 4) [#[bj],A,#[ag],#[e6],aa g,aa b,#[P,O],f0,ab,ab,ab,ab,ab,ab,ab,ab,ab,ab] #[iy] #[fw,v=[#[bj],A,#[ag],#[e6],aa g,aa b,#[P,O],f0,#[V,6],#[P,Q],#[P,b0],ab,ab,ab,ab,ab,ab,ab],∃q0 F o0 t0 x0,eO q0/\eO F/\eO o0/\eO t0/\eO x0/\s=[E0,S,H,C,v0,q0,F,o0,t0,x0,#[aq,[Q,b0]]]]:=by
 obtain⟨y,l0⟩:=JL Y c [];have S0:=JJ Y ([]:Tx);generalize k0:#[dO,[],l]=I at*;have X:I.length=l.length:=by rw[<-k0];exact kW _ _
 have t:=qg n
 have i0:O.length+2<=402:=by
  rw[n0,ke];have:bP (I++[dy])=bP I+2:=by{unfold bP;simp}
  omega
 have U0:O.length=bP I:=by rw[n0,ke]
 have R0:(402:Nat)<=2^20:=by decide
 have T0:bA (I++[dy])=[32]++(O.drop 1++[32,46]):=by rw[wB,Lv];have:=Yl (M:=M) n;rw[k0,<-n0]at this;rw[<-n0,this];simp
 have d:∀{j:Nat},j<=1000->j<=aB:=λh=>aH h #[i];refine Mine.W.set (x0:=[#[bj],A,#[ag],#[e6],aa g,aa b,#[P,O],f0,#[V,6],ab,ab,ab,ab,ab,ab,ab,ab,ab]) 8 (Ev.FK (Y:=[#[ad,l.length],#[ad,l.length+O.length+#[d9]],.str [45],.str [59,44]]) (b0:=#[iy]) h0.Cf (cJ.glob h0.F 16 rfl I0 #[C]) rfl ?_ ((J l.length (l.length+O.length+#[d9]) [45] cE #[i]).call #[f] rfl ?_ rfl rfl)) rfl #[a0] #[aZ] #[ai] rfl ?_;.have:=h0.F;have:=h0.G;have Q0:O.length<=aB:=#[G,d];clear U0;run_tac au.aI
 .intro e0 k R h;subst h;simp[bo,bV,bQ,de,dC,aX]at k
 have r0:(I++[dy]).drop (bp l+1)=I.drop (bp l+1)++[dy]:=#[G,lp];have H0:bP (I++[dy])=bP I+2:=by{unfold bP;simp}
 have O0:=Sl (N:=l.length+O.length+#[d9]) (p0:=[45]) (T:=l.length) h0 C0 J0 G0 p T0.symm S0 y #[f] #[f] #[f] #[f] #[em] (by rw[<-k0];exact VV n U []);have M0:=y.drop (bp l+1);rw[r0]at O0 A0 M0;have u0:Q++b0=O++[32,46]:=by rw[w0,A0,<-r0,<-wB,hF,wB,<-n0];rfl
 have P:Q.length+b0.length<=402:=by have:=congrArg gI u0;rw[aV,aV]at this;have e:#[bb,([32,46]:Tx),2]:=rfl;omega
 refine#[gZ,Ho (A:=#[iy]) (Y:=[.str [32],.str (O.drop 1++[32,46]),.str cE]) h0 h0.QK #[i] UE rfl #[aD,8] rfl ?_ O0 f #[aZ] (by simp[bR]) rfl #[av] #[b1,by rw[aY.mp z];trivial] #[aj] #[i] #[i],?_]
 .have:=h0.F;have:=h0.G;have Q0:O.length<=aB:=#[G,d];have N0:cF O (aa #[a5]) ab=O.drop 1:=oG _ _;run_tac au.aI
  rw[cR];exact d (by simp;omega)
 rw[<-w0]
 have F0:=Sq (N:=l.length+O.length+#[d9]) (p0:=[45]) (j0:=cE) (o:=[Q]) (f:=[10]) h0 m0 L0 dy #[i] M0.1 (by
  have:bP (I.drop (bp l+1)++[dy])=bP (I.drop #[em])+2:=by{unfold bP;simp}
  omega) (Vp (t:=[])) (show 2<=2^20 by decide) (by rw[<-A0];simp;exact#[G,d])
 rw[<-A0]at F0;have y0:=WT Y [] #[em];rw[k0,<-w0,r0,<-A0]at y0;refine aj.Xc (U:=[#[bj],A,#[ag],#[e6],aa g,aa b,#[P,O],f0,#[V,6],ab,ab,ab,ab,ab,ab,ab,ab,ab]) (u:=.str Q) (v:=.str b0) 9 10 (Mine.W.split (o0:=#[ew,#[iy],(bo B (l.length+O.length+#[d9]) [45] cE (ah ([Q]++[b0])) 0 [])]) (r:=10) (q0:=ah [Q,b0]) (t:=bh [10] [Q,b0]) (c:=10) (Ho (A:=#[iy]) (Y:=[.str [10]]) h0 h0.XX #[i] UH rfl #[aD,8] rfl ?_ F0 f #[aZ] (by simp[bR]) rfl #[b1,by rw[aY.mp z];trivial] #[b1,qh x z] #[aj] #[i] #[i]) ?_ ?_ (congrArg ah y0) rfl rfl rfl #[aj] #[i]) rfl rfl rfl #[aZ] #[aZ] #[ai] #[ai] ?_;.have:=h0.F;have:=h0.G;run_tac au.aI
 .have:=h0.F;have:=h0.G;run_tac au.aI
 .simp[bh];omega
 have a:Q.length<=aB:=#[G,d];have a0:b0.length<=aB:=#[G,d];have G:O.length<=aB:=#[G,d];have E:#[cI,(Q++b0)]:=by rw[aV];exact#[G,d]
 have r:#[cI,(O++[32,46])]:=by rw[aV];exact d (aH i0 #[i])
 have Z:(Q++b0 !=O++[32,46])=ai:=by rw[u0];exact bne_self_eq_false _
 refine aj.ite (t:=ai) (b0:=#[ew,#[iy],(bo B (l.length+O.length+#[d9]) [45] cE (ah ([Q]++[b0])) 0 [])]++[#[aq,[Q,b0]]]) ?_ ?_
 .have:=h0.F;have:=h0.G;have i:aG w m (dj .NotEq) #[an,Q++b0] #[an,O++[32,46]] #[cK,ai]:=by rw[<-Z];exact St.qf
  have q:Q.length+b0.length<=aB:=#[G,d];have u:O.length+#[f2,[32,46]]<=aB:=d (aH i0 #[i]);run_tac au.aI
  all_goals first|rfl|decide
 rw[#[c1]];exact#[dF,⟨rfl,rfl,_,_,_,_,_,#[df],#[df],#[df],#[df],#[df],rfl⟩]
end
section
variable{B:Bs}{w:aD}{n m:Nat}{d0 g0:#[n]}{M:#[cU]}{l:#[j]}{g b:Nat}
theorem Yw(F:#[w])(G:#[W])(Y:iH M l)(q:l≠[])(R:l.length<=5)(b0:∀c,bO l c=if c=fI l\/c=fH l then g else b){O J:Ob}{f0:#[D]}:aj B w m (ey me 1 []) ((lR.drop 5).take 1) [#[bj],ab,#[ag],#[e6],#[P,[g]],#[P,[b]],#[P,[]],ab,ab,ab,ab,ab,ab,ab,ab,ab,ab,ab] #[jE] #[fw,#[mu,#[gX,l]],s=#[jE]]:=by
 have I:∀{j:Nat},j<=1000->j<=aB:=λh=>aH h #[i];have o0:#[lr,1,m,"min",[.ob 1],fI l]:=#[lq,Cl.Jk,(ov q).1,λx z=>by obtain⟨c,X,rfl⟩:=bI.mp z;exact pQ.mpr ((ov q).2 c X)];have m0:#[lr,1,m,"max",[.ob 1],fH l]:=#[lq,Cl.Jf,(ot q).1,λx z=>by obtain⟨c,X,rfl⟩:=bI.mp z;exact pQ.mpr ((ot q).2 c X)];have T:#[lx]:=Y.words.at_;have l0:∀c,#[bd,M,c]:=λc=>aH (Y.words.len c) #[i];refine aj.gS (l:=[]) (i:=1) (X:=ah (l.map M)) (C:=λs=>#[aX,s,0,#[bU,l.map]]) (b0:=#[jE]) (c:=λk v s=>(#[mu,#[gX,l.take k]])/\s=#[jE]) (cg.list #[aD,0] rfl) rfl #[a0] #[bC,#[au,ab,ab]] ?_ ?_ ?_ #[ai];.rintro k v s⟨⟨A,a0,rfl⟩,rfl⟩;exact#[aJ,bx rfl]
 .rintro k x v s z⟨⟨A,a0,rfl⟩,rfl⟩i0 _;unfold ah at z;rw[cb,cb]at z;obtain⟨y,a,rfl⟩:=dP.mp z;obtain⟨c,X,rfl⟩:=dP.mp a;have L:#[cH]:=#[U,X];have Q:l.take (k+1)=l.take k++[c]:=by rw[xt,X];rfl
  generalize n0:bA (#[dO,[],l.take k])=t;have j0:bA (#[dO,[],l.take #[u]])=t++(gD t++(M c++[bO l c])):=by rw[Q,JI,wB,Lv,hX,n0]
  have c0:t.length<=402:=by
   have N:=Aw (b:=67) #[gX,l.take k] λx z=>by obtain⟨d,Z,p⟩:=vQ z;have N:=Y.words.len d;rw[p,aV];rcases oA _ _ x z with n|n<;>rw[n]<;>simp<;>omega
   rw[kW,bH]at N;rw[<-n0,ke];omega
  have p0:#[fO,[V.str [32],V.str [9,32]],t.length%2,gD t]:=by unfold gD;rcases CZ t.length with h|h<;>rw[h]<;>rfl
  have h0:#[t,gD,t]<=2:=by unfold gD;split<;>simp
  have C:=Y.words.len c;have q0:∀{E:Tx}{w0:#[l]}(a0:#[bh]),(∃u,a0=aa (.str u))->E=bA #[gX,l.take #[u]]->gQ (ey me 1 []).fz 5 (λv s=>(#[mu,#[gX,l.take #[u]]])/\s=#[jE]) [#[bj],#[P,M c],#[ag],#[e6],#[P,[g]],#[P,[b]],#[P,E],a0,ab,ab,ab,ab,ab,ab,ab,ab,ab,ab] (#[aq,l.map M]::#[aq,l.map #[cs]]::O::J::.list f0::w0):=by rintro E w0 a0⟨u,rfl⟩rfl;refine .inr #[ds,5,aO _,⟨bx rfl,#[cX],λi e0 P e=>i0.2 i e0 (by rw[<-es P]at e;exact e)⟩,#[au,#[P,M c],#[P,u]]];have f:=bC e;simp at f;rcases f with rfl|rfl|rfl|rfl|rfl|rfl|rfl|rfl;all_goals first|trivial|exact#[ao,(0:Nat)<5]|exact#[ao,#[bi]<5]
  cases k0:([[fI l],[fH l]]:#[bz]).contains [c]with
  |true=>
   have r:bO l c=g:=by rw[b0,if_pos];simpa using k0
   run_tac au.aI
   all_goals first|(simp only[dp,aV,cc,et];omega)|exact q0 (aa (.str [g])) #[aU] (by rw[j0,r];simp)|rfl
  |false=>
   have r:bO l c=b:=by rw[b0,if_neg];simpa using k0
   run_tac au.aI
   all_goals first|(simp only[dp,aV,cc,et];omega)|exact q0 (aa (.str [b])) #[aU] (by rw[j0,r];simp)|rfl
 .rintro v s⟨⟨A,a0,rfl⟩,rfl⟩;refine#[dF,#[au,rfl,#[bL,A,a0]]];rw[show#[ia,#[bU,l.map]]from by simp[ah],gL]
end
theorem uS:∀(f:Nat)(l:#[g])(p q:Nat),ay f l p []=ay f l q []|0,_,_,_=>rfl|f+1,l,p,q=>by unfold ay;simp only[List.contains_nil,fX,if_false];rw[uS f _ p q,uS f _ (p+bp l+1) _]
section
variable{B:Bs}{w:aD}{n m:Nat}{d0 g0 s0 L:#[n]}{M:#[cU]}
theorem Yy(h0:#[c0])(L0:#[mi])(k:#[c8,"_law_tree",319])(T0:#[c8,"_ValueFormatter",116])(b0:∀T N(p0 j0:Tx),p0.length<=2^20->#[mq,4])(Y0:ba B 106 pT 4 uf)(O0:#[jB])(w0:ba B 64 wc 2 uh)(Z0:ba B 78 kZ 1 rz)(C:nH B 43)(J:ba B 319 me 1 lR):∀(f:Nat)(l:#[j])(p:Nat),l.length<=f->f<=5->l.Nodup->iH M l->(#[f9,l])->Fn B w (f+12) 319 [#[aq,l.map M]] #[cr,#[hj,(ay f l p []).map]]:=by have F:=h0.F;have G:=h0.G;intro f;induction f with
|zero=>intro l p R t U u Z;have:l=[]:=#[G,nE.mp];subst this;refine#[gf,JE];run_tac au.aI
|succ f Q=>
 intro l p R t U u Z;refine#[gf,JE];by_cases u0:l=[];.subst u0;run_tac au.aI
 .have n:(!!#[bU,l.map].isEmpty)=ai:=by cases l with|nil=>exact#[dm,u0]|cons a r=>rfl
  have I:=qg u0;have C0:#[cI,#[bU,l.map]]:=by simp only[ah,aQ];exact aH R (by simp only[dp];omega)
  have e0:ay (f+1) l p []=#[nv,l.take,[],l.getD,ay f (l.drop #[em]) (p+bp l+1) []]:=by
   have:l.isEmpty=ai:=by cases l with|nil=>exact#[dm,u0]|cons a r=>rfl
   show#[gk,l.isEmpty];rw[this];rfl
  have I0:=VW u ([]:Tx);obtain⟨y,v0⟩:=JL u (show l.length<=5 by omega) []
  have i0:∀(g b:Nat),(∀c,bO l c=if c=fI l\/c=fH l then g else b)->∀(P E:Ob)(f0:#[D]),eO P->eO E->aj B w (f+12) (ey me 1 []) (lR.drop 4) [#[bj],ab,#[ag],#[e6],#[P,[g]],#[P,[b]],ab,ab,ab,ab,ab,ab,ab,ab,ab,ab,ab,ab] [#[aq,l.map M],#[aq,l.map #[cs]],P,E,.list f0] (dx 1 #[fh,#[dd,(ay (f+1) l p []).map]]):=by
   intro g b r0 P E f0 l0 m0;refine aj.Xh (t:=[]) 6 rfl #[aZ] rfl ?_;show dY 1 B w (f+12) (ey me 1 []) ((lR.drop 5).take 1++((lR.drop 6).take 4++lR.drop 10)) _ _ _;refine dY.app (Yw F G u u0 #[f] r0) (λv s h=>?_) (λo v s e h=>#[dl,e]);obtain⟨_,⟨A,q0,rfl⟩,rfl⟩:=h;refine dY.app (Yx h0 L0 T0 b0 Y0 O0 w0 Z0 C u u0 U #[f] #[f] rfl rfl rfl) (λv s h=>?_) (λo v s e h=>#[dl,e]);obtain⟨_,rfl,y0,S,x0,E0,H0,U0,n0,X,N0,R0,rfl⟩:=h;rw[e0];have k0:#[ia,#[gX,l]]:=kW _ _;have A0:∀l p H,#[a2,(ay f l p H),100]:=λl p H=>by have d:=rM f l p H;have a0:2^f<=2^5:=#[je];omega
   have j:∀i,#[a2,(bA ((#[dO,[],l]++[dy]).take i)),1000]:=λi=>by have:=(y.take i).2;rw[ke];omega
   have Q0:∀i,#[a2,(bA ((#[dO,[],l]++[dy]).drop i)),1000]:=λi=>by have:=(y.drop i).2;rw[ke];omega
   have F0:fu 32 [] ((bA ((cj M (bO l) [] l++[dy]).take (bp l+1))).filter (·!=9))=[]::(l.take #[em]).map λc=>M c++[bO l c]:=by rw[Kp _ λq O=>I0 q (eA O),#[G,ls],xm,si,xm]
   have J0:fu 32 [] ((bA ((cj M (bO l) [] l++[dy]).drop (bp l+1))).filter (·!=9))=[]::(((l.drop #[em]).map λc=>M c++[bO l c])++[[46]]):=by rw[Kp _ λq O=>I0 q (eU O),#[G,lp],gJ,td,si,td];rfl
   rw[uS f _ p 0,uS f _ (p+bp l+1) 0];refine Yv (P:=λr=>r.length<=f/\r.Nodup/\∀x∈r,x∈l) (F0:=λr=>ay f r 0 []) F G k #[f] u Z I l0 m0 U0 n0 X N0 R0 (j _) (Q0 _) F0 J0 (λr=>A0 r 0 []) ⟨by rw[bH];omega,(lu _ _).nodup U,λx z=>eA z⟩ ⟨by rw[cR];omega,(xg _ _).nodup U,λx z=>eU z⟩ λr Y=>?_;exact Q r 0 Y.1 #[f] Y.2.1 (u.sub Y.2.2) λx z=>Z x (Y.2.2 x z)
  have t0:(l.map λc=>#[eu,c])=ah (l.map M):=by simp[ah]
  have o0:#[lx]:=u.words.at_;have S0:∀c,#[bd,M,c]:=λc=>aH (u.words.len c) #[i];have M0:(l.filter λ_=>ae).map (#[fV])=ah (l.map #[cs]):=by rw[#[hP]];simp[ah]
  have G0:hD 288 14 l #[h3] (λ_=>ae) (λc=>#[dP]):=trivial;have a1:#[ia,#[bU,l.map]]:=by simp[ah]
  rcases CZ l.length with m|m
  .have O:br [V.ob 2,V.ob 3] #[v,#[d9]]=#[V,2]:=by rw[m];rfl
   have X0:=i0 59 44 (λc=>by unfold bO;rw[if_pos m,if_pos m]) (.tup #[fe,[59],[44]]) (.tup #[fe,[44],[58]]) [.ob 2,.ob 3] #[ai] #[ai];clear i0;run_tac au.aI
   exact t0.symm
  .have O:br [V.ob 2,V.ob 3] #[v,#[d9]]=#[V,3]:=by rw[m];rfl
   have X0:=i0 44 58 (λc=>by unfold bO;rw[#[bK,show¬#[d9]=0 by omega],#[bK,show¬#[d9]=0 by omega]]) (.tup #[fe,[59],[44]]) (.tup #[fe,[44],[58]]) [.ob 2,.ob 3] #[ai] #[ai];clear i0;run_tac au.aI
   exact t0.symm
end
def pM:V->Bool|.str _=>ae|.int _=>ae|_=>ai
theorem RV(z:pM x=ae)(e:VR O u x)(T:#[bn,x]):OZ A s u v ae:=by cases x with|str t=>obtain⟨p,k,rfl,N⟩:=e;obtain⟨q,j,rfl,a0⟩:=T;have:=LN (N.trans a0.symm);subst this;have:=DO (A:=A) (s:=s) p k p j;simp_all|int i=>obtain⟨k,rfl⟩:=e;obtain⟨j,rfl⟩:=T;have:=SeqAt.EqAt.int_int (A:=A) (s:=s) i k i j;simp_all|_=>cases z
theorem EX(n:Nat):((aW n).all λ_=>ae)=ae:=by simp
theorem ET(h:#[a6,Y,X]):∀(j:Nat)(b:j<Y.length),∃x∈X,VR O Y[j] x/\#[aW,X,x]:=by induction h with|nil=>intro j b;exact#[aN,b,Df _]|cons N _ Q=>intro j b;cases j with|zero=>exact#[aC,.head _,N,rfl]|succ j=>simp_all
theorem Gv{Y l:#[bE]}(z:∀x∈X,pM x=ae)(N:#[gl])(a0:#[a6,l.toList,X]):∀j(S:j<Y.size)(H:j<l.size),OZ A s Y[j] l[j] ae:=λj S H=>by obtain⟨x,m,f,F⟩:=ET N j (#[f]);obtain⟨y,_,i,d⟩:=ET a0 j #[f];rw[F]at d;cases d;exact RV (z x m) (by simpa using f) (by simpa using i)
section
variable{B:Bs}{w:aD}{n m:Nat}{S:Gm}{d0 g0:#[n]}{U x0:#[o]}{H b0 o0 w0 d m0:#[l]}{i0 y0 p:aZ}{J:aN}{O:#[s]}{l:#[y]}{h0:#[ay]}{a b c o i:aP}
theorem St.Uz{i j:Nat}(P:#[bR])(b:#[aX,H,j,X])(z:X.all pM=ae):#[jK,.NotEq,#[ce],#[cc],#[cK,ai]]:=λA J O u v s Q E g M e T q=>by obtain⟨a,Y,A0,rfl,_,d,L⟩:=M.list e P;obtain⟨h,l,t0,rfl,_,k,p⟩:=M.list T b;refine Du (Dp #[a8,d,_] #[a8,k,_] (by rw[L.size,p.size]) (jR #[f] g.units) (Gv (λx f=>eT.mp z x f) L p)) ?_;rw[EX];exact q _ s _ #[eq] rfl
theorem St.Yp{i j:Nat}(P:#[gh])(b:H[j]?=aa (.tup X))(z:X.all pM=ae):#[jK,.NotEq,#[ce],#[cc],#[cK,ai]]:=λA J O u v s Q E g M e T q=>by obtain⟨a,Y,A0,rfl,_,d,L⟩:=M.tup e P;obtain⟨h,l,t0,rfl,_,k,p⟩:=M.tup T b;refine Du (Pa #[a8,d,_] #[a8,k,_] (jR #[f] g.units) (Gv (λx f=>eT.mp z x f) L p)) ?_;rw[EX,L.size,p.size,beq_self_eq_true];exact q _ s _ #[eq] rfl
theorem aj.Fc(e:#[b2,o,#[cc]])(P:#[bv,i,#[eM,k]])(y:#[aX,o0,j,X])(f:#[bp])(z:X[k]?=aa x)(T:#[dR,a,o0,v,w0])(I0:fp B w n S (dR I) x v U w0 r d)(U0:#[aX,d,j,X])(c0:S.fz<=j)(c:∀L0 R0 L,augStore i L0 R0 L=(do
 tL [L,L0,R0] (tS L0 R0 L);release [L,L0,R0] [];av .next))(g0:d.set j (.list (X.set k r))=m0)(F:#[hM]):#[k9,.Subscript o i p]:=by have C:=#[U,z];refine#[e0,λo d0 b=>#[d6,d0=U,b=d.set j (.list (X.set k r))],?_,λd0 b h=>#[R],λo d0 b e h=>#[dl,e]];refine wpAny_AugAssign_SubscriptAny (#[aA,e,λu0 k0 f0 m Z=>#[c3,P,m.rel,λC0 N s0 G q0=>?_]]) c;obtain⟨t,rfl⟩:=q0;have M0:=Z.pre G.pre;obtain⟨E0,Y,n0,rfl,J0,r0,x0⟩:=G.rel.list M0 y;obtain⟨u,a0,Q0⟩:=x0.at z;have G0:aB=2^24:=rfl;refine Er (#[a8,r0,_]:N.heap.IsList _ _) (oL k) #[f] (by simpa using a0) ?_;refine#[c3,T,G.rel,λe0 l0 y0 j0 v0=>I0 A _ _ u _ _ _ E g j0.rel (Q0.pre j0.pre) v0 λR A0 F0 t0 H0=>?_];obtain⟨Y0,N0,X0,p0,O0,S0,T0⟩:=t0.rel.list ((M0.pre j0.pre).pre t0.pre) U0;cases p0;refine KI S0 (by rw[T0.size];exact C) #[f] ?_;refine#[g4,(((m.trans G).trans j0).trans t0).trans (aC.list (t:=A0.toks) t0.rel O0 c0 S0 ?_)];rw[Mr];exact T0.set H0 k
end
theorem FW(c:Nat):∀t:Tx,Zf c t=t.count c
 |[]=>rfl
 |a::r=>by
  rw[Zg,FW c r];by_cases h:a=c;.subst h;simp;omega
  .simp[h]
theorem SR{L:#[g]}(h:#[a6,Y,L.map V.int]):∀(i:Nat)(v:af),#[I,Y,v]->∃t,v=.int (L.getD i 0) t:=by induction L generalizing Y with|nil=>cases h;intro i v e;cases e|cons m r Q=>cases h with|cons N a0=>intro i v e;cases i with|zero=>cases e;obtain⟨t,rfl⟩:=N;exact#[bC,t]|succ i=>exact Q a0 i v e
theorem JT(L:#[g]):∀k,k<=L.length->kG (λi=>L.getD i 0) k=(L.take k).foldl (·+·) 0
 |0,_=>rfl
 |k+1,h=>by
  rw[kG,JT _ k #[f],xt,mn];have:L[k]?=aa (L.getD k 0):=by rw[dO,#[G,bB]];rfl
  rw[this];rfl
section
variable{B:Bs}{w:aD}{n m:Nat}{S:Gm}{d0 g0:#[n]}{U x0:#[o]}{H b0 o0 w0 d m0:#[l]}{i0 y0 p:aZ}{J:aN}{O:#[s]}{l:#[y]}{h0:#[ay]}{a b c o e:aP}
theorem Cl.count{c:Nat}:#[fM,"str.count",#[fe,t,[c]],.int (t.count c)]:=λA J O l s Q E g M T q=>by cases T with|cons N a0=>cases a0 with|cons a0 G=>cases G;obtain⟨x,k,rfl,rfl⟩:=N;obtain⟨y,t0,rfl,m⟩:=a0;obtain rfl:y=#[dC]:=LN m;refine SC.count ?_;rw[count_is];refine#[fI,#[a4,s.toks]];rw[<-FW];rfl
theorem W.count{c:Nat}(p:#[b2,o,#[bo]])(I:#[bv,e,#[an,[c]]])(u:#[ek])(L:#[eg,"count"])(P:#[b3]):#[aF,#[g8,"count"],.int (t.count c),o0]:=Ev.iM p #[p] lG abe abm u #[aY,I] Cl.count L P #[z]
theorem Cl.sum{L:#[g]}(P:#[bR])(z:X=L.map V.int)(a:L.foldl (·+·) 0=r):#[fM,"sum",[.ob i],#[T,r]]:=λA J O l s Q E g M T q=>by subst z a;cases T with
|cons N a0=>
 cases a0;obtain⟨j,Y,F,rfl,R,p,m⟩:=M.list N P;have h:s.heap.IsList _ _:=#[a8,p,_];have d:=bj p;refine eR (call_sum_walkG (rm h ?_));refine⟨_,_,_,_,_,_,_,rfl,DU (A:=A.in1) g.handled _ _ (cz d) _,⟨#[cS,#[aT]],h.push _⟩,λb Z=>?_,λi v e=>SR m i v (#[R]),λc0 p0 f C I=>?_⟩
 .rw[cH];obtain rfl|Z:=bc.mp Z;.exact hG _
  .rw[aY.mp Z];exact kq d
 .refine#[aE,aC.heap M I λb o e=>old_kept C b o e,#[a4,f]];have c:=by have:=m.size;rw[aQ]at this;exact this
  rw[c,JT _ _ #[aO],gL]
theorem Ev.KZ(I:#[aI,.ob k])(u:dX B w n S (aa e) U b0 (aa (-1)) o0)(C:#[aX,o0,k,X])(t:#[bp])(f:X.reverse=q0)(d:o0.length=r)(Z:#[ef,o0]):#[gc,.Slice ab ab (aa e) p,.ob r,m0]:=λA J O s Q E g M q=>by subst d Z f;exact lg (#[dU,I,λu0 k0 G c h=>by refine pk ?_;refine az ?_;refine az (u A J G k0 _ E g c.rel λC0 m L y i=>?_);obtain⟨t0,rfl⟩:=i;obtain⟨x,Y,F,rfl,R,l,z⟩:=y.rel.list (h.pre y.pre) C;have j:m.heap.IsList x Y:=#[a8,l,F];refine#[m0,(j.push _)];have v:#[hU,L,o0,m,L,m,#[d3,m.heap.push,"slice",#[.none,.none,gg ((aa (-1)).map λq=>(q,t0))]]]:=aC.heap y.rel (by rw[cH];exact du _) #[e7];refine Es (j.push _) (tw ..) .none .none (.int _ _) #[i] ?_ (by rw[z.size];exact t);rw[krv_pick];refine q _ _ (L++[_]) #[jM,((c.trans y).trans v).trans,v.rel,(z.rev).mono #[ig]] #[M,by rw[<-v.rel.len];simp]])
end
noncomputable def ee:#[y]:=by run_tac au.dc ["law"]
noncomputable def Bu:bq:=by run_tac au.dd ["law"]
theorem VA:ip Bu 1=ae:=#[p]
def lv(l:#[o]):#[o]:=l++cL (43-l.length) ab
noncomputable abbrev bE:Gm:=ey Bu 1 []
section
variable{B:Bs}{w:aD}{n:Nat}{d0 g0:#[n]}
theorem Tg(F:#[w])(G:#[W]){Q:List Int}(q:Q.length<=63):#[dc,ee.take 2,[#[bj]]++cL 42 ab,[#[bg,Q.map,V.int]],λo v s=>o=.next/\∃(a:#[bh])(u:List Int),u.length=4/\v=[#[bj],#[ag],a]++cL 40 ab/\s=#[iZ]]:=by
 have I:#[bd,Q.map,V.int]:=by rw[aQ];exact#[bD,q]
 have h:#[t,Q.map,V.int]=Q.length:=aQ ..;run_tac au.aI
 refine aj.gS (l:=[]) (i:=2) (X:=(aW Q.length).map #[cO]) (C:=λ_=>True) (b0:=[#[bg,Q.map,V.int],.list [#[ad,206],#[ad,7465],#[ad,529608],#[ad,497]]]) (c:=λ_ v s=>∃(a:#[bh])(u:List Int),u.length=4/\v=[#[bj],#[ag],a]++cL 40 ab/\s=#[iZ]) ?_ rfl #[a0] #[ds,ab,[206,7465,529608,497],rfl,rfl] ?_ ?_ ?_ #[ai];.run_tac au.aI
 .rintro k v s⟨a,u,_,rfl,rfl⟩;exact#[gG,bx rfl]
 .rintro k x v s z⟨a,u,E,rfl,rfl⟩_ _;rw[cb]at z;obtain⟨j,b,rfl⟩:=dP.mp z;have C:k<Q.length:=by have:=#[U,b];simpa using this
  obtain rfl:j=k:=by rw[qz C]at b;exact(hk b).symm
  have f:j%4<u.length:=by rw[E];exact hH _ #[i]
  refine aj.Fc (k:=j%4) (X:=u.map V.int) (x:=.int (u[j%4])) (v:=.int (Q[j])) (r:=.int (u[j%4]+Q[j])) (b0:=#[iZ]) (o0:=#[iZ]) (w0:=#[iZ]) (d:=#[iZ]) #[aD,1] ?_ rfl (by rw[aQ,E];decide) (by rw[cb,bB f];rfl) (Ev.BS (j:=0) #[aD,0] #[aD,2] rfl I ?_) St.agl.up rfl #[aO] (λ_ _ _=>rfl) rfl (aj.nil (.inl ⟨_,u.set (j%4) (u[j%4]+Q[j]),by rw[tb];exact E,rfl,by rw[tf];rfl⟩));.run_tac au.aI
  .unfold br;rw[hU (by rw[aQ];exact C)];simp
 .rintro v s⟨a,u,E,rfl,rfl⟩;exact#[dF,⟨rfl,a,u,E,rfl,rfl⟩]
end
def kX:Nat->Int->#[j]->#[j]|0,_,_=>[]|n+1,code,u=>u.getD (code%#[v,n+1]).toNat 0::kX n (code/#[v,n+1]) (u.eraseIdx (code%#[v,n+1]).toNat)
theorem Bm:∀(n:Nat)(l:Int)(u:#[g]),kX n l u∈oC n u|0,_,_=>.head _|n+1,l,u=>by unfold oC kX;refine CK.mpr #[as,eH.mpr ?_,bI.mpr #[M,Bm n _ _]];have a0:=wY l (show(0:Int)<(n+1:Nat)by omega);omega
theorem Ko:∀(n:Nat)(l:Int)(u:#[g]),#[bb,(kX n l u),n]|0,_,_=>rfl|n+1,_,_=>congrArg _ (Ko n _ _)
theorem WQ:(oC 4 [97,98,99,100]).all (λl=>decide l.Nodup&&l.all λx=>#[ax,97<=x/\x<=101])=ae:=#[p]
theorem WR:(oC 5 [97,98,99,100,101]).all (λl=>decide l.Nodup&&l.all λx=>#[ax,97<=x/\x<=101])=ae:=by decide+kernel
theorem WZ(f:Nat)(h:f<12):br [V.str [32],V.str [9],V.str [13,10],if f=10 then V.str []else V.str [10]] (f/3:Nat)=#[P,hT f]:=by
 have:∀j,j<4->br [V.str [32],V.str [9],V.str [13,10],if f=10 then V.str []else V.str [10]] (j:Nat)=aa #[aa,j=0,V.str _,if j=1 then V.str _ else if j=2 then V.str _ else if f=10 then V.str _ else V.str _]:=λj b=>by rcases(show j=0\/j=1\/j=2\/j=3 by omega)with rfl|rfl|rfl|rfl<;>rfl
 rw[this _ #[f]];unfold hT;congr 1;split;.rfl
 .split;.rfl
  .split;.rfl
   .split<;>rfl
theorem RK(d:Nat)(h:d<6):br [V.str [],V.str #[eV],V.str [92,41],V.str #[f6],V.str [92,92,59],V.str [92,34]] d=#[P,gz d]:=by rcases(show d=0\/d=1\/d=2\/d=3\/d=4\/d=5 by omega)with rfl|rfl|rfl|rfl|rfl|rfl<;>rfl
def cU(h:Int)(b k:Nat):Nat:=((h/#[v,b^k])%#[v,b]).toNat
theorem vb(h:Int)(Z:0<b)(k:Nat):cU h b k<b:=by have a0:=wY (h/(b^k:Nat)) (show 0<(b:Int)by omega);unfold cU;omega
section
variable{B:Bs}{w:aD}{n:Nat}{d0 g0:#[n]}
theorem mU(i:Int){b:Nat}(Z:0<b):#[bY,bL,.Mod,i,b,#[T,((i%b).toNat:Int)]]:=by
 have h:=St.mod (w:=w) (n:=n) (i:=i) (j:=b) #[f];have e:i.fmod b=((i%b).toNat:Int):=by rw[Cs _ #[f]];have:=Cq i (show(b:Int)≠0 by omega);omega
 rw[e]at h;exact h
theorem pC(i:Int){b:Nat}(Z:0<b)(u:b<1073741824):#[bY,bL,.FloorDiv,i,b,#[T,i/b]]:=by have h:=St.fdiv (w:=w) (n:=n) (i:=i) (j:=b) #[f] (xO #[f]);rw[Cr _ #[f]]at h;exact h
theorem SK(i:Int){b:Nat}(Z:0<b)(u:b<1073741824):#[bY,dR,.FloorDiv,i,b,#[T,i/b]]:=by have h:=St.vn (w:=w) (n:=n) (i:=i) (j:=b) #[f] (xO #[f]);rw[Cr _ #[f]]at h;exact h
end
abbrev kR:Tx:=[97,98,99,100,101]
def eG(a:Int):Nat:=4+(a%#[v,2]).toNat
def gC(a:Int):#[j]:=kX (eG a) (a/#[v,2]) #[jI]
def dE(a b:Int)(c:Nat):Nat:=cU b 6 ((gC a).idxOf c)
theorem vw(a:Int):4<=eG a/\eG a<=5:=by unfold eG;omega
theorem Iq(a:Int):#[t,gC,a]=eG a:=Ko _ _ _
theorem Ir(a:Int):(gC a).Nodup/\∀x∈gC a,97<=x/\x<=101:=by
 have f:=Bm (eG a) (a/(2:Nat)) #[jI];obtain⟨N,a0⟩:=vw a
 have:(decide (gC a).Nodup&&(gC a).all λx=>#[ax,97<=x/\x<=101])=ae:=by
  unfold gC;obtain e|e:=(show eG a=4\/eG a=5 by omega);.rw[e]at f⊢;exact eT.mp WQ _ f
  .rw[e]at f⊢;exact eT.mp WR _ f
 rw[fe,decide_eq_true_eq,eT]at this;exact⟨this.1,λx z=>of_decide_eq_true (this.2 x z)⟩
theorem SM{l:#[j]}(U:l.Nodup)(C:#[cH]):l.idxOf l[k]=k:=#[R]
theorem GA{O d:Type}(g:O->d):∀(l:#[g])(i:Nat),(l.map g).eraseIdx i=(l.eraseIdx i).map g|[],_=>rfl|_::_,0=>rfl|_::r,i+1=>congrArg _ (GA g r i)
theorem wA(l:#[g]){k:Nat}(C:#[cH]):br (ah l) k=#[P,l[k]]:=by unfold br;rw[hU (by simpa[ah]using C)];simp[ah]
theorem Ll(w:Tx)(g:Nat):#[a2,(fc w g),2*w.length+2]:=by have N:=zN w;match w,g with
 |w,2=>
  have:∀w,#[t,pE,w]<=2*w.length:=λw=>by induction w with|nil=>exact aO _|cons c r Q=>unfold pE at*;rw[mm];simp only[aV,cc,et];omega
  have:=this w;show#[t,pE,w]<=_;omega
 |w,1=>show#[a2,([34]++mN w++[34]),_];simp_all
 |[],0=>exact aT _
 |[],n+3=>exact aT _
 |c::r,0=>have:=uI 92 r;show#[a2,(#[aa,decide _,[92],[]]++[c]++lH _ r),_];split<;>simp only[aV,cc,et]<;>omega
 |c::r,n+3=>have:=uI 92 r;show#[a2,(#[aa,decide _,[92],[]]++[c]++lH _ r),_];split<;>simp only[aV,cc,et]<;>omega
theorem KC(f:Nat):#[t,hT,f]<=2:=by
 unfold hT;split;.decide
 .split;.decide
  .split;.decide
   .split<;>decide
theorem zg(M A:#[ac]):∀(k:Nat)(l:#[g]),#[a2,(eE M A k l),140*l.length]|_,[]=>aT _|k,c::r=>by have N:=zg M A #[u] r;have a0:=Ll (aA M c) (A k%3);have G:=(kk M).len c;have E:=KC (A k);show#[a2,(fc _ _++hT _++eE _ _ _ r),140*(r.length+1)];rw[aV,aV];omega
def HT(r:Nat)(L:#[j])(M A:#[ac])(y:#[D])(Q:Ob)(k:Nat)(v:#[o])(s:#[l]):Prop:=∃(F0 m N:#[bh])(l:Int)(u:#[j]),u.length=r-k/\L=L.take k++kX (r-k) l u/\v=[#[bj],#[ag],F0,#[B,r],#[cz,l],#[V,2],#[V,3],#[P,[9,10]++eE M A 0 (L.take k)],m,N]++cL 33 ab/\s=[Q,.list y,#[bg,u.map,#[fV]],#[aq,(L.take k).map (aA M)]]
theorem HU{r j i:Nat}{L:#[j]}{M A:#[ac]}{y:#[D]}{Q:Ob}{l:Int}{u:#[j]}{g:Int}{d:Tx}(a:S<=4)(N:#[t,u.eraseIdx,i]=r-(j+1))(a0:L=L.take (j+1)++kX (r-(j+1)) l (u.eraseIdx i))(n0:k=[9,10]++eE M A 0 (L.take (j+1)))(J:fl 4 Q)(b:#[b7,y,4])(P:C=#[dN,L.take,j+1,aA M])(U:h=(u.eraseIdx i).map #[fV]):gQ S 4 (HT r L M A y Q (j+1)) [#[bj],#[ag],#[cz,(j:Int)],#[cz,(r:Int)],#[cz,l],#[V,2],#[V,3],#[P,k],#[P,d],#[cz,g],ab,ab,ab,ab,ab,ab,ab,ab,ab,ab,ab,ab,ab,ab,ab,ab,ab,ab,ab,ab,ab,ab,ab,ab,ab,ab,ab,ab,ab,ab,ab,ab,ab] (Q::.list y::.list h::.list C::w0):=by
 subst n0 P U;refine .inr ⟨4,aO _,⟨a,λq x e=>?_,λq e0 O e=>?_⟩,_,_,_,_,_,N,a0,rfl,rfl⟩;.have f:=bC e;simp at f;rcases f with rfl|rfl|rfl|rfl|rfl|rfl|rfl|rfl|rfl|rfl;all_goals first|trivial|exact#[ao,0<4]|exact#[ao,1<4]|exact#[ao,2<4]|exact#[ao,3<4]
 .match q,O,e with|0,_,e=>cases e;exact J|1,_,e=>cases e;exact b|2,_,e=>cases e;exactλx z=>by obtain⟨c,_,rfl⟩:=bI.mp z;trivial|3,_,e=>cases e;exactλx z=>(qh x z).le (aT _)
section
variable{B:Bs}{w:aD}{n:Nat}{d0 g0:#[n]}
theorem mb(i j:Nat)(P:i<16)(b:j<2^20):#[cj,.Pow,(i^j:Nat)]:=by
 refine St.vR ?_;have:∀i<16,bN (i:Nat)<=4:=by decide
 have:(bN i:Int)*j<=4*2^20:=by exact_mod_cast(mw (this i P) #[f])
 exact Int.le_trans this #[i]
theorem Ti(F:#[w])(G:#[W])(w0:#[c8,"_law_spelled",314])(i1:ba B 314 sv 2 uk)(U:2<=n)(a b c d:Int){O:Ob}(q:#[bh]):#[dc,(ee.drop 2).take 6,[#[bj],#[ag],q]++cL 40 ab,[O,#[dz]],λo v s=>o=.next/\∃(F0 y b0 n0:#[bh])(u:#[D]),v=[#[bj],#[ag],F0,#[B,eG a],y,#[V,2],#[V,3],#[P,[9,10]++#[lC,gC a]],b0,n0]++cL 33 ab/\s=[O,#[dz],.list u,#[aq,(gC a).map (aA (dE a b))]]]:=by
 have Y0:=vw a;have f0:=mU (w:=w) (n:=n) a (b:=2) #[f];have X:=#[lc,a,2,#[f]];have v0:cF kR ab (aa #[v,eG a])=kR.take (eG a):=KY _ _;have l1:4+(a%#[v,2]).toNat=eG a:=rfl;run_tac au.aI
 .exact#[bD,BH _ _ _]
 rw[l1,show cF ([97,98,99,100,101]:Tx) ab (aa #[v,eG a])=kR.take (eG a)from v0];have R0:=Iq a;obtain⟨R,A0⟩:=Ir a;have M0:kX (eG a) (a/#[v,2]) #[jI]=gC a:=rfl;have k1:#[jI].length=eG a:=by rw[bH];show min (eG a) 5=_;omega
 generalize M:gC a=L at*;have N0:∀k(C:k<L.length),dE a b L[k]=cU b 6 k:=λk C=>by unfold dE;rw[M,SM R C]
 generalize T:eG a=r at*;refine aj.gS (B:=B) (w:=w) (n:=n) (S:=bE) (l:=[]) (i:=2) (X:=(aW r).map #[cO]) (C:=λ_=>True) (b0:=[O,#[dz],#[bg,(kR.take r).map,#[fV]],#[d2]]) (c:=HT r L (dE a b) (cU c 12) [.int a,.int b,.int c,.int d] O) ?_ rfl #[a0] ⟨q,ab,ab,a/#[v,2],kR.take r,by rw[k1];rfl,M0.symm,rfl,rfl⟩ ?_ ?_ ?_ ?_;.run_tac au.aI
 .rintro k v s⟨F0,b0,n0,h0,u,_,_,rfl,rfl⟩;exact#[gG,bx rfl]
 .rintro k x v s z⟨F0,b0,n0,h0,u,s0,a1,rfl,rfl⟩q0 _;rw[cb]at z;obtain⟨j,p,rfl⟩:=dP.mp z;have C:k<r:=by have:=#[U,p];simpa using this
  obtain rfl:j=k:=by rw[qz C]at p;exact(hk p).symm
  have E:j<L.length:=by omega
  obtain⟨p0,J0⟩:∃p0,r-j=p0+1:=⟨r-j-1,by omega⟩;rw[J0]at a1 s0;have t0:0<r-j:=by omega
  have T0:=mU (w:=w) (n:=n) h0 t0;have X0:=SK (w:=w) (n:=n) h0 t0 #[f];rw[J0]at T0 X0;obtain⟨i,P⟩:∃i,i=(h0%#[v,p0+1]).toNat:=#[aU];have Y:i<u.length:=by have N:=Cq h0 (show#[v,p0+1]≠0 by omega);have a0:=wY h0 (show(0:Int)<#[v,p0+1]by omega);omega
  rw[<-P]at T0;have d1:L=L.take j++(u.getD i 0::kX p0 (h0/#[v,p0+1]) (u.eraseIdx i)):=by rw[P];exact a1
  have c1:L[j]=u.getD i 0:=by
   have e:#[aW,L,u.getD i 0]:=by rw[d1,dZ (by rw[bH];omega),bH,#[G,kr],ks];rfl
   rw[bB E]at e;exact hk e
  have Z:L.take (j+1)=L.take j++[L[j]]:=lx E;have J:gz (cU b 6 j)++[u.getD i 0]=aA (dE a b) L[j]:=by unfold aA;rw[N0 j E,c1]
  have A:6^j<=6^5:=#[je];have Z0:12^j<=12^5:=#[je];have j1:0<6^j:=#[G,xI];have h1:0<12^j:=#[G,xI];have G0:=#[hw,6,j];have E0:=#[hw,12,j];have r0:=pC (w:=w) (n:=n) b j1 #[f];have C0:=pC (w:=w) (n:=n) c h1 #[f];have y0:#[ha,.Mod,b/#[v,6^j],6,cU b 6 j]:=mU _ #[f];have O0:#[ha,.Mod,c/#[v,12^j],12,#[eW]]:=mU _ #[f];have g:=RK (cU b 6 j) (vb b #[f] j);have j0:#[eW]<12:=vb c #[f] j;have e1:#[bc,(u.map λc=>#[dP]),.str,[u.getD i 0]]:=by rw[cb,bB Y,dO,bB Y];rfl
  have m1:(u.map λc=>#[dP]).eraseIdx i=(u.eraseIdx i).map #[fV]:=GA _ _ _;have n1:i<2^62:=by omega
  have o1:#[bd,u.map,#[fV]]:=by rw[aQ,dp];omega
  have o0:#[iF,j]++[.str (aA (dE a b) L[j])]=#[iF,j+1]:=by rw[Z,gJ,kj];rfl
  have L0:br (ah ((L.take (j+1)).map (aA (dE a b)))) #[v,j]=#[P,#[iC]]:=by rw[wA _ (by rw[aQ,bH];omega)];simp
  have p1:#[gg,314,.atom (.str #[iC]),#[eW]%3,.atom (.str (fc #[iC] (#[eW]%3)))]:=(Xw F G i1 _ _ (by unfold aA;simp) ((kk (dE a b)).len _) #[f]).le U;have u0:#[ha,.FloorDiv,#[v,#[eW]],3,#[eW]/3]:=St.va #[f] (xO #[f]);have g1:=WZ (cU c 12 j) j0;have I0:#[ha,.Sub,#[v,r],j,p0+1]:=by have:=St.iO (w:=w) (n:=n) (i:=r) (j:=j) #[f];rwa[J0]at this
  have U0:[9,10]++#[lC,L.take j]++(fc (aA (dE a b) L[j]) (#[eW]%3)++hT (cU c 12 j))=[9,10]++#[lC,L.take (j+1)]:=by
   have e:0+#[t,L.take,j]=j:=by rw[bH];omega
   rw[Z,FE,e,cQ]
  have q1:=(kk (dE a b)).len L[j];have I:∀{j:Nat},j<=10000->j<=aB:=λh=>aH h #[i];have l:#[t,gz,cU b 6 j]+#[f2,[u.getD i 0]]<=aB:=by have:=congrArg gI J;rw[aV]at this;exact#[G,I]
  have m:#[bd,ah,(L.take j).map (aA (dE a b))]:=by simp only[ah,aQ,bH];exact#[G,I]
  have Q:#[cI,(#[iF,j]++[#[nM]])]:=by rw[aV];simp only[ah,aQ,bH,cc,et];exact#[G,I]
  have c0:#[fO,#[iF,j]++[#[nM]],j,#[iC]]:=by rw[J,o0];exact L0
  have l0:=Ll (aA (dE a b) L[j]) (#[eW]%3);have x0:=KC (cU c 12 j);have H0:=zg (dE a b) (cU c 12) 0 (L.take j);have S0:#[t,L.take,j]<=5:=by rw[bH];omega
  have i0:(fc #[iC] (#[eW]%3)).length+#[t,hT,cU c 12 j]<=aB:=#[G,I];have e0:#[f2,[9,10]++#[lC,L.take j]]+(fc (aA (dE a b) L[j]) (#[eW]%3)++hT (cU c 12 j)).length<=aB:=by rw[aV,aV];exact I (by simp only[cc,et];omega)
  have Q0:fl 4 O:=q0.2 0 _ rfl;have S:#[t,u.eraseIdx,i]=r-(j+1):=by rw[List.length_eraseIdx_of_lt Y];omega
  have H:L=L.take (j+1)++kX (r-(j+1)) (h0/#[v,p0+1]) (u.eraseIdx i):=by rw[Z,c1,cQ,show r-(j+1)=p0 by omega];exact d1
  have k0:#[b7,[V.int a,V.int b,V.int c,V.int d],4]:=λx z=>by simp at z;rcases z with rfl|rfl|rfl|rfl<;>trivial
  have b1:#[iF,j]++[#[nM]]=#[iF,j+1]:=by rw[J];exact o0
  have m0:#[jY,.str,fc #[iC] (#[eW]%3)]:=#[ks];generalize t:#[eW]=f at*
  cases f1:(f==10)with
  |true=>
   rw[if_pos (by simpa using f1)]at g1;run_tac au.aI
   all_goals first|assumption|exact HU #[aZ] S H U0 Q0 k0 b1 rfl
  |false=>
   rw[#[bK,by simpa using f1]]at g1;run_tac au.aI
   all_goals first|assumption|exact HU #[aZ] S H U0 Q0 k0 b1 rfl
 .rintro v s⟨F0,b0,n0,h0,u,s0,a1,rfl,rfl⟩;have z:#[t,(aW r).map,#[cO]]=L.length:=by rw[aQ,gq];exact R0.symm
  rw[z,gL];exact#[dF,⟨rfl,F0,_,b0,n0,_,rfl,rfl⟩]
 .exact#[df]
end
theorem Td(a:Int):Bl (gC a)=ae:=by
 have f:=Bm (eG a) (a/(2:Nat)) #[jI];obtain⟨N,a0⟩:=vw a;unfold gC;rw[<-WL];obtain e|e:=(show eG a=4\/eG a=5 by omega);.rw[e]at f⊢;exact eT.mp WN _ f
 .rw[e]at f⊢;exact eT.mp WO _ f
structure ro(l:#[j]):Prop where
 sG:#[t,bF,#[bG]]=l.length
 place:∀p∈bF (#[i2,[]]),1<=p/\p+1<#[bG].length
 len:#[bb,#[bG],3*l.length]
 head:#[bG].getD 0 0=40
 Yu:ni l #[bG] #[i9]=ae
 counts:oc l #[bG]=mX l #[bG]++cL (2^(l.length-1)-(mX l #[bG]).length) 0
 inner:∀k∈bf l.length #[bG],1<=k/\jc #[bG] k<=8
 RE:(#[i9].map (jc #[bG])).foldr (·+·) 0<=15
 QT:cO #[bG] 0=ae
structure yH(l:#[j]):Prop where
 len:#[k2,#[bb,#[fb],3*l.length]]
 lets:#[k2,#[t,#[fb].filter,#[gN]]=l.length]
 ok:#[k2,#[ij,#[i2,H]]]
 Xz:#[k2,∀p∈bF (#[i2,[]]),dV (#[fb].getD p 0)=ai]
 mask:∀m,m<#[t,bb,#[i9]]->(bb (bf l.length #[bG])).getD m []=lW (bf l.length #[bG]) m
theorem Aq(a:Int):ro (gC a)/\yH (gC a):=by have h:=Td a;unfold Bl at h;simp only[fe,decide_eq_true_eq,eT,beq_iff_eq,eH,qr,wQ]at h;obtain⟨⟨⟨⟨⟨⟨⟨N,a0⟩,G⟩,E⟩,r⟩,b⟩,p⟩,u⟩:=h;exact⟨⟨r.1,b,r.2.1,r.2.2.1,N,a0,G,r.2.2.2,E⟩,⟨λH n0=>(p _ n0).2.1,λH n0=>(p _ n0).2.2,λH n0 t m=>(by
 obtain(h|h)|h:=(p _ n0).1.1 t m;.exact .inl h
 .exact .inr (.inl h)
 .exact .inr (.inr h)),λH n0=>(p _ n0).1.2,u⟩⟩
theorem ado(a:Int):ro (gC a):=(Aq a).1
theorem JY(h:H∈bb r):H∈bb (k::r):=CK.mpr #[as,h,.head _]
theorem JX:∀(u:#[g])(i:Nat){H:#[g]},H∈bb (u.drop i)->H∈bb u|_,0,_,h=>h|[],i+1,_,h=>h|k::r,i+1,_,h=>JY (JX r i h)
theorem vT:∀r:#[g],#[t,bb,r]=2^r.length
 |[]=>rfl
 |k::r=>by
  have h:=vT r;have:∀q:#[g],#[t,q.flatMap,λH=>[H,k::H]]=2*q.length:=λq=>by induction q with|nil=>rfl|cons a q Q=>rw[mm,aV,Q];simp;omega
  show#[bb,((bb r).flatMap _),_];rw[this,cc];omega
theorem adp(a:Int):yH (gC a):=(Aq a).2
theorem rC{A g v0:#[g]}(i:Nat)(e0:Ob)(h:#[cD,g]):(A++g.map (aX A.length)++v0)[A.length+i]?=aa (aX A.length e0):=by have P:=#[U,h];rw[cG (#[R])];exact uy i _ h
theorem Wo{A g l v0:#[l]}(h:l.length=g.length):gX (A++g.map (aX A.length)++v0) A.length l=A++l.map (aX A.length)++v0:=by unfold gX;grind
section
variable{B:Bs}{w:aD}{n m:Nat}{S:Gm}{d0 g0 r0:#[n]}{U:#[o]}{j d:Nat}{g H:Tx}{l c:#[bz]}{A v0 o0:#[l]}{i0 y0:aZ}
theorem om(L:fj B r0)(t:#[eC,G,f])(C0:bX B f)(y:#[ck,G])(M:#[er,((jh j).lookup G)])(p:#[dR,o,#[kE],.ob (A.length+7),#[kE]])(u:cv s=ae)(I:cu B w n S s U #[kE] Y (A++(dr j g l).map (aX A.length)++b))(h:bG B w m f (.ob 7::Y) (dr j g l) r (dr d H c))(k:m<=n)(v:S.fz<=A.length)(T:#[fq,Y])(q:bR r=ae)(C:#[eh])(P:#[b3])(R:s.length<30):#[dR,#[fN,s],#[kE],r,A++(dr d H c).map (aX A.length)++b]:=by
 obtain⟨q0,f0,N,a0,a⟩:=C0.ex;refine Ev.lX L.cl p (rC 7 _ rfl) (cy.sh cy.de) ((rC 6 _ rfl).trans (congrArg _ BD)) #[f] (by rw[oo];simpa using M) t #[aC,N,a0,a] C0.out y u I ?_ C P R;refine((bG.call _ h v (by rw[aV,aV];exact hZ _ _) (λi e0 e=>rC i _ e) kf kf #[b1,?_] ?_ (wk q) (Wo rfl)).le k).s
 .obtain rfl|z:=bc.mp z;.exact#[ao,7<8]
  .exact pP (T x z)
 .show ej _ _::Y.map _=_;rw[show Y.map (ej _)=Y.map id from lr λx z=>wk (T x z),te];rfl
end
def ij(d:Int):Nat:=(d/#[v,81]%#[v,3]).toNat
theorem RP(e:Nat)(h:e<3):br [V.str #[gL],V.str [34,101,110,100],V.str [101,110,100,10]] e=#[P,ig e]:=by rcases(show e=0\/e=1\/e=2 by omega)with rfl|rfl|rfl<;>rfl
theorem Tc(d:Int):ij d<3:=by unfold ij;omega
theorem Gx(e:Nat):#[t,ig,e]<=4:=by match e with|0=>decide|1=>decide|e+2=>show#[a2,[101,110,100,10],4];decide
section
variable{B:Bs}{w:aD}{n:Nat}{d0 g0 r0:#[n]}
theorem Tn(F:#[w])(G:#[W])(H:#[c8,"_law_lexer",309])(e:bX B 309)(k:∀O:Tx,O.length<=2^20->#[mr,O,O])(g:6<=n)(a b c d:Int){Q:Ob}{F0 y m N:#[bh]}{r:Int}{u C:#[D]}{t:Tx}(n0:t.length<=1000):#[ea,8,2,[#[bj],#[ag],F0,#[cz,r],y,#[V,2],#[V,3],#[P,t],m,N]++cL 33 ab,[Q,#[dz],.list u,.list C],v=[#[bj],#[ag],F0,#[cz,r],y,#[V,2],#[V,3],#[P,t++ig (ij d)],m,N,#[bX]]++cL 32 ab,#[ew,#[k6],(dr 1 (t++ig (ij d)) [])]]:=by
 have E:=#[lc,d,81,#[f]];have y0:#[ha,.Mod,d/#[v,81],3,ij d]:=mU _ #[f];have i:=RP (ij d) (Tc d);have L:=Gx (ij d);have f:t.length+(ig (ij d)).length<=aB:=#[G,(λh=>aH h #[i]:∀{j:Nat},j<=10000->j<=aB)];have X:∀U,bW B w n bE #[K,309] [.str (t++ig (ij d))] U #[k6] (.ob 12) (#[k6]++(dr 1 (t++ig (ij d)) []).map (aX 5)):=λU=>(k _ (by rw[aV];omega)).call g rfl (λe0 l R h=>by subst h;simp[dr,rG,sl,bQ,kd,de]at l) rfl rfl;obtain⟨q0,f0,z,x,A⟩:=e.ex;have Y:∀p q i0,Ev B w n bE #[cR,#[aP,"_law_lexer",p],[.Name (ak "text") q]] [#[bj],#[ag],F0,#[cz,r],y,#[V,2],#[V,3],#[P,t++ig (ij d)],m,N,ab,ab,ab,ab,ab,ab,ab,ab,ab,ab,ab,ab,ab,ab,ab,ab,ab,ab,ab,ab,ab,ab,ab,ab,ab,ab,ab,ab,ab,ab,ab,ab,ab] #[k6] (.ob 12) _:=λp q i0=>Ev.uA (f0:=f0) (cJ.glob F 34 rfl H #[ak]) ⟨⟨q0,z,A⟩,e.out⟩ rfl #[aY,#[b5,7]] (X _);run_tac au.aI
 exact#[b9]
end
theorem JR{L:#[g]}(h:#[j7]):#[iY]:=λc X=>by
 obtain⟨N,a0⟩:=h c X;have:∀c,97<=c->c<=101->eN c=ai/\(c==34)=ai/\(c==92)=ai:=λc N a0=>by rcases(show c=97\/c=98\/c=99\/c=100\/c=101 by omega)with rfl|rfl|rfl|rfl|rfl<;>decide
 exact⟨(this c N a0).1,(this c N a0).2.1,(this c N a0).2.2⟩
abbrev vK(T:Tx)(k:Nat)(l:#[bz]):#[l]:=dr (#[g3]-(fW k T).count 10) (fW k T) l
noncomputable def YR:aP:=by run_tac au.gA ["law"] [10,1,1,0]
theorem vA:#[ck,"get_token"]:=by rw[cB,cA];kernel_rfl
theorem AB:#[ck,"push_token"]:=by rw[cB,cA];kernel_rfl
section
variable{B:Bs}{w:aD}{n:Nat}{d0 g0 r0:#[n]}
theorem zW(F:#[w])(G:#[W])(Q:fj B r0)(b:#[iO])(k:Nat):bG B w 7 288 [.ob 7] (vK T k []) #[an,(cx (fW k T)).1] (vK T #[u] []):=by have N:=WI T k;have a0:=WG T k;have a:T.count 10<=T.length:=MD;exact SE F G Q _ _ #[f] #[f] #[f]
theorem TO(F:#[w])(G:#[W])(Q:fj B r0)(U:7<=n){M A:#[ac]}(t:∀k,A k<12){L:#[j]}(y:#[iY])(b:#[gz]){e:Nat}{T:Tx}(l:T=#[jN]++ig e)(f:#[iO]){i a u:#[D]}{g:#[D]}{E u0 C0 e0 R J k0 O c0:#[bh]}{Y:#[o]}:Ev B w n bE YR (E::u0::C0::e0::R::J::#[V,3]::k0::O::c0::#[bX]::Y) (#[hG]++(vK T 0 []).map (aX 5)) (.ob 13) (#[ew,#[hG],(vK T L.length [])]++[#[fx]]):=by
 have d:#[t,ah,L.map (aA M)]=L.length:=by simp[ah]
 refine Ev.comp (r:=13) (X:=ah (L.map (aA M))) (C:=λs=>#[aX,s,3,ah (L.map (aA M))]) (b0:=#[ew,#[hG],(vK T 0 [])]) F (c:=λk q0 v s=>(∃z,v=[ab,z,#[bX]])/\q0=#[dN,L.take,k,aA M]/\s=#[ew,#[hG],(vK T k [])]++[.list q0]) 1 (G:=[ab,ab,aa 10]) (T:=[ab,ab,#[bX]]) (cg.list (i:=3) #[aD,6] rfl) rfl #[C] #[C] #[C] #[C] rfl rfl rfl rfl (by rw[d];exact#[bD,b]) (λ_=>#[au,#[aU],rfl]) ?_ ?_ ?_ #[ai];.rintro k q0 v s⟨⟨z,rfl⟩,rfl,rfl⟩;exact⟨rfl,bx rfl,rfl,by simp only[ah,aQ,bH];omega⟩
 .rintro k z q0 v s q⟨⟨Z,rfl⟩,rfl,rfl⟩_ _;have C:k<L.length:=by have:=#[U,q];rwa[d]at this
  have X:(cx (fW k T)).1=aA M L[k]:=by rw[l];exact WJ M A t y _ C
  have S:=zW (w:=w) F G Q f k;rw[X]at S;refine⟨ae,_,fg.nil,.str (aA M L[k]),_,om (A:=#[hG]) (b:=[#[aq,(L.take k).map (aA M)]]) Q Q.m2 Q.o2 vA rfl #[aD,2] rfl .nil S U #[aZ] #[av] rfl #[aj] #[i] #[i],rfl,.inl #[au,#[aU],?_]⟩;rw[lx C,gJ,kj];rfl
 .rintro q0 v s⟨_,N,a0⟩;rw[d,gL]at N;rw[a0,N,d]
end
section
variable{B:Bs}{w:aD}{n:Nat}{d0 g0 r0:#[n]}
theorem Tu(F:#[w])(G:#[W])(Q:fj B r0)(U:17<=n)(m0:#[c8,"_law_tree",319])(y0:#[c8,"_law_due",329]){M A:#[ac]}(t:∀k,A k<12){L:#[j]}(b:ro L)(y:#[iY])(Z:∀c∈L,c≠40/\c≠41)(m:L.Nodup)(d:#[gz])(p0:4<=L.length){e:Nat}{T:Tx}(l:T=#[jN]++ig e)(j0:#[iO])(G0:Fn B w n 319 [#[fx]] #[fh,#[ar].map #[cx]])(S:#[nW,([]:#[j]).map,#[ar].map]){i a u:#[D]}{g:#[D]}{F0 j x a0:#[bh]}:#[ea,10,5,[#[bj],#[ag],F0,#[ic],j,#[V,2],#[V,3],#[P,T],x,a0,#[bX]]++cL 32 ab,#[hG]++(vK T 0 []).map (aX 5),v=[#[bj],#[ag],F0,#[ic],j,#[V,2],#[V,3],#[P,T],x,a0,#[bX],#[V,14],#[cJ],#[bV],#[cp],#[B,1]]++cL 27 ab,#[ew,#[hG],(vK T L.length [])]++[#[fx],#[aq,#[db,#[ar].map]],#[d2],#[fz,#[ar].map],#[bg,(bF #[ar]).map,#[a1]],#[bg,#[ba].map,#[a1]]]]:=by
 have X:=λE u0 C0 e0 R J k0 O c0 Y=>TO (w:=w) (n:=n) F G Q #[f] (e:=e) t y d l j0 (i:=i) (a:=a) (u:=u) (g:=g) (E:=E) (u0:=u0) (C0:=C0) (e0:=e0) (R:=R) (J:=J) (k0:=k0) (O:=O) (c0:=c0) (Y:=Y);have P:=oy;have h:=kk M;generalize z:ay L.length L 0 []=f at*;have o0:f.length=3*L.length:=by rw[<-z];exact b.len
 have H:#[bb,#[hZ],f.length]:=by simp[ah]
 have N:#[bd,ah,#[db,f.map]]:=by rw[H,o0];exact aH (show 3*L.length<=15 by omega) #[i]
 have b0:#[t,bF,f]=L.length:=by rw[<-z];exact b.sG
 have I:#[lo,1<=#[dX]/\#[dX]+1<f.length]:=λk C=>by
  have r:k<#[t,bF,f]:=by rw[b0];exact eH.mp C
  have:=b.place;rw[z]at this;exact this _ (lU r)
 have f0:∀p,p<f.length->#[fO,#[hZ],p,ax (aA M) (f.getD p 0)]:=λp y=>by rw[wA _ (by rw[aQ];exact y)];simp[dO,bB y]
 have w0:∀p,p∈aW f.length->#[fO,#[hZ],p,ax (aA M) (f.getD p 0)]:=λp y=>f0 p (eH.mp y)
 have t0:#[lo,br ((bF f).map #[a1]) #[bW]=#[B,#[dX]]]:=λk C=>by
  have r:k<#[t,bF,f]:=by rw[b0];exact eH.mp C
  unfold br;rw[hU (by simpa using r)];simp[dO,bB r]
 have E0:#[lo,br (ah #[db,f.map]) #[v,#[dX]-1]=#[P,ax (aA M) (f.getD (#[dX]-1) 0)]]:=λk C=>f0 _ (by have:=I k C;omega);have l0:#[lo,#[lO,#[dX],#[dX]-1]]:=λk C=>St.iO (I k C).1;have n0:hD 345 12 (aW f.length) (#[a1]) (λp=>!#[l0,f.getD p 0]) (#[a1]):=trivial;have q0:((aW f.length).filter λp=>!#[l0,f.getD p 0]).map (#[a1])=(bF f).map #[a1]:=by unfold bF;congr 1;exact sX λp _=>Bf h _
 have i0:hD 346 12 (aW L.length) (#[a1]) (λk=>ax (aA M) (f.getD (#[dX]-1) 0)==[41]) (#[a1]):=trivial;have x0:((aW L.length).filter λk=>ax (aA M) (f.getD (#[dX]-1) 0)==[41]).map (#[a1])=(bf L.length f).map #[a1]:=by unfold bf;congr 1;exact sX λp _=>Kj h _
 have s0:#[m2]:=rfl;have h0:#[bd,(aW f.length).map,#[a1]]:=by rw[aQ,gq,o0];exact aH (show 3*L.length<=15 by omega) #[i]
 have v0:#[bd,(bF f).map,#[a1]]:=by rw[aQ,b0];exact#[bD,d]
 have A0:#[bd,(aW L.length).map,#[a1]]:=by rw[aQ,gq];exact#[bD,d]
 run_tac au.aI
 exact#[b9]
end
abbrev aS(M:#[ac])(f:#[j]):Tx:=bh [32] (f.map #[cx])
theorem Ii(f:Tx):#[eN,#[a2,(bh f l),(l.map gI).sum+l.length*f.length]]|[]=>aT _|[x]=>by show x.length<=_;simp|x::y::r=>by have:=Ii f (y::r);show#[a2,(x++f++bh _ _),_];simp at this⊢;rw[ly];omega
theorem wD(M:#[ac])(f:#[g]):((f.map #[cx]).map gI).sum<=f.length*64:=by induction f with|nil=>exact aO _|cons t r Q=>have:=vW (kk M) t;simp only[dh,CQ,cc]at Q⊢;omega
theorem wI(M:#[ac])(f:#[g]):#[a2,(aS M f),f.length*65]:=by have N:=Ii [32] #[db,f.map];have a0:=wD M f;rw[aQ]at N;simp only[cc,et]at N;show#[a2,(bh _ (f.map (ax _))),_];omega
noncomputable def Wh:aP:=by run_tac au.gA ["law"] [15,0,1,1,0]
section
variable{B:Bs}{w:aD}{n:Nat}{d0 g0 r0:#[n]}
theorem AX(F:#[w])(G:#[W])(Q:fj B r0)(k:Nat)(l:#[g])(t:Tx)(R:l.length<2^20):bG B w 3 295 [.ob 7,.str t] (vK T k l) .none (vK T k (l++[t])):=Wi F G Q _ _ _ _ R
theorem TC(F:#[w])(G:#[W])(Q:fj B r0)(U:17<=n){M:#[ac]}{f:#[j]}(r:f.length<=15){T:Tx}{j:Nat}{X o0 m0 C d:Ob}{b0 a:Ob}{P u:#[D]}{E u0 C0 e0 R J l0 k0 O c0:#[bh]}{Y:#[o]}:#[ea,15,1,E::u0::C0::e0::R::J::l0::k0::O::c0::#[bX]::#[V,14]::#[cJ]::Y,#[id,[],#[iS]],v=E::u0::C0::e0::R::J::l0::k0::O::c0::#[bX]::#[V,14]::#[cJ]::Y,#[dK,[aS M f],[b0,#[ed],a,#[d4],.list P,.list u]]]:=by
 have N:=wI M f;have S:#[hZ].all pM=ae:=by simp[ah,pM]
 have e:=wD M f;have k:#[hQ,(f.map #[cx]).map,#[t,f.map,#[cx]],[32]]:=by rw[aQ,#[co,#[bb,([32]:Tx),1]]];exact aH (show _<=2000 by omega) #[i]
 have h:Ev B w n bE Wh (#[iT,C0,#[bX]::#[V,14]::#[cJ]::Y]) #[id,[],#[iS]] .none #[id,[aS M f],[b0,#[ed],a,#[ed],.list P,.list u]]:=by refine om (n:=n) (m:=3) (l:=[]) (c:=[aS M f]) (A:=#[eS]) (v0:=#[iS]) (b:=#[iS]) (Y:=[.str (aS M f)]) Q Q.m3 Q.o3 AB rfl #[aD,10] rfl ?_ (AX F G Q j [] _ #[i]) #[f] #[aZ] #[b1,by rw[aY.mp z];rfl] rfl #[aj] #[i] #[i];refine .cons (W.join (i:=14) (f0:=f.map (ax (aA M))) (f:=[32]) ?_ #[aD,11] rfl rfl k rfl rfl #[aj] #[i]) .nil;run_tac au.aI
 refine aj.ite (B:=B) (w:=w) (n:=n) (S:=bE) (t:=ai) (b0:=#[dK,[aS M f],#[iS]]) (Et.pw (dA.cons (t:=ai) (b0:=#[dK,[],#[iS]]) #[g2,#[aD,11],#[aD,12],St.Uz rfl rfl S] (dg.ma rfl (dA.cons (t:=ai) #[g2,h,Ev.rD,St.Am.up] (dg.ma rfl dA.vO))))) ?_;rw[#[c1]];exact#[dF,#[b9]]
end
noncomputable def UO:#[y]:=match ee.drop 16 with|.For _ _ (.For _ _ b _ _::_) _ _::_=>b|_=>[]
theorem WB(M:#[ac]){t:Nat}(h:t=40\/t=41\/(97<=t/\t<=101)):32∉ax (aA M) t:=by
 have Z:∀k,32∉gz k:=λk=>by match k with|0=>decide|1=>decide|2=>decide|3=>decide|4=>decide|k+5=>show 32∉[92,34];decide
 unfold ax;split;.rename_i N;rcases N with rfl|rfl<;>decide
 .intro f;obtain f|f:=cK.mp f;.exact Z _ f
  grind
theorem LO(M:#[ac])(n:f0≠[])(h:#[ij,f0]):fu 32 [] (aS M f0)=f0.map (ax (aA M)):=sF _ (by simpa using n) λa I=>by obtain⟨t,n0,rfl⟩:=bI.mp I;exact WB _ (h t n0)
section
variable{B:Bs}{w:aD}{n:Nat}{d0 g0 r0:#[n]}
theorem mW(F:#[w])(G:#[W])(Q:fj B r0)(k:Nat)(l:#[g])(t:Tx)(R:l.length<2^20):bG B w 3 288 [.ob 7] (vK T k (t::l)) #[bo] (vK T k l):=Wb F G Q _ _ _ _ R
theorem TN(F:#[w])(G:#[W])(Q:fj B r0)(U:17<=n)(b0:#[c8,"_law_traded",324]){M:#[ac]}{f0 b:#[j]}(S:f0.length<=15)(h0:b.length<=15)(k:f0≠[])(e:#[ij,f0]){m p:Nat}{T:Tx}{j:Nat}{l:#[bz]}(Z:l.length<1000)(q0:#[gg,324,#[fz,f0.map],p,#[cr,ah (b.map #[cx])]]){X o0 m0 C d c y A I f N:Ob}{P:#[D]}(w0:br P #[v,m]=#[B,p])(a0:P.length<=aB){E u0 e0 R J l0 k0 O c0 L g x0 i j0 A0:#[bh]}{Y:#[o]}:#[dc,UO,#[iT,#[B,m],#[bX]::L::g::#[bV]::x0::i::j0::A0::Y],#[id,aS M f0::l,#[gH]],#[fw,v=E::u0::#[B,m]::e0::R::J::l0::k0::O::c0::#[bX]::L::g::#[bV]::x0::i::j0::#[P,aS M f0]::Y,s=#[dK,l++[aS M f0]++[aS M b],[c,y,A,I,.list P,f,N,#[fz,f0.map],#[aq,#[db,b.map]]]]]]:=by
 have u:ah (fu 32 [] (aS M f0))=ah (f0.map #[cx]):=congrArg ah (LO M k e);have a:=wI M f0;have n0:#[fy,(aS M f0)]:=aH (show _<=1000 by omega) #[i];have r:=wD M b;have q:#[hQ,(b.map #[cx]).map,#[db,b.map].length,[32]]:=by rw[aQ,#[co,#[bb,([32]:Tx),1]]];exact aH (show _<=2000 by omega) #[i]
 have H:=oy;have p0:#[bd,ah,#[db,f0.map]]:=by simp only[ah,aQ];exact#[bD,S]
 have i0:(1001:Nat)<2^20:=by decide
 refine Mine.W.set (B:=B) (w:=w) (n:=n) (S:=bE) (x0:=#[iT,#[B,m],#[bX]::L::g::#[bV]::x0::i::j0::#[P,aS M f0]::Y]) 17 #[mP,#[gH],[],Q.m2,Q.o2,vA,.nil,mW F G Q j l (aS M f0) #[f],#[av]] rfl #[a0] #[aZ] #[ai] rfl ?_;refine aj.expr (B:=B) (w:=w) (n:=n) (S:=bE) #[mP,#[gH],[.str (aS M f0)],Q.m3,Q.o3,AB,#[aY,#[aD,17]],AX F G Q j l (aS M f0) #[f],#[b1,by rw[aY.mp z];rfl]] #[ai] ?_;refine aj.expr (B:=B) (w:=w) (n:=n) (S:=bE) #[mP,[c,y,A,I,.list P,f,N,#[fz,f0.map],#[fz,b.map]],[.str (aS M b)],Q.m3,Q.o3,AB,?_,AX F G Q j (l++[aS M f0]) (aS M b) (by rw[aV];simp;omega),#[b1,by rw[aY.mp z];rfl]] #[ai] ?_
 .refine .cons (W.join (i:=21) (f0:=b.map (ax (aA M))) (f:=[32]) (b0:=#[dK,l++[aS M f0],#[gH]]) (o0:=#[dK,l++[aS M f0],[c,y,A,I,.list P,f,N,#[fz,f0.map],#[fz,b.map]]]) ?_ ?_ rfl rfl q rfl rfl #[aj] #[i]) .nil;.run_tac au.aI
  .run_tac au.aI
 exact aj.nil #[b9]
end
def gy(M:#[ac])(c:Nat):Nat:=if c=32 then 0 else M c
def gE:#[j]->#[j]|[]=>[]|[t]=>[t]|t::u::r=>t::32::gE (u::r)
theorem Ki(M:#[ac])(h:t≠32):ax #[gm] t=ax (aA M) t:=by unfold ax aA gy;rw[if_neg h]
theorem WC(M:#[ac]):ax #[gm] 32=[32]:=rfl
theorem LP(M:#[ac]):∀f:#[g],(∀t∈f,t≠32)->aS M f=bh [] ((gE f).map (ax #[gm]))|[],_=>rfl|[t],h=>by show ax _ t=ax (aA _) t;rw[Ki _ (h t #[bJ])]|t::u::r,h=>by show ax _ t++[32]++bh _ ((u::r).map (ax _))=_;rw[show bh _ ((u::r).map (ax _))=bh _ ((gE _).map (ax (aA _)))from(LP _ _ #[gj])];show _=bh _ (ax (aA _) t::ax (aA _) _::(gE _).map (ax (aA _)));rw[jg,jg,WC,Ki _ (h t #[bJ]),cQ]
theorem Lj:∀f:#[g],#[t,gE,f]<=2*f.length|[]=>aO _|[t]=>show 1<=2 by decide|t::u::r=>by have:=Lj (u::r);show(gE _).length+1+1<=2*((u::r).length+1);omega
theorem Lk:∀(f:#[g])(t:Nat),t∈gE f->t∈f\/t=32
 |[],t,h=>by cases h
 |[u],t,h=>.inl h
 |u::v::r,t,h=>by
  obtain rfl|h:=bc.mp h;.exact .inl (.head _)
  .obtain rfl|h:=bc.mp h;.exact .inr rfl
   .exact(Lk _ t h).imp (λh=>.tail _ h) id
theorem Fp:∀(f:#[g])(v0:#[g])(o:Int),cO (gE f++v0) o=cO (f++v0) o|[],_,_=>rfl|[_],_,_=>rfl|t::u::r,v0,o=>by have a:∀l o,cO (32::l) o=cO l o:=λl o=>rfl;show cO (t::32::(gE _++v0)) o=cO (t::(u::r++v0)) o;unfold cO;simp only[a,(λo=>Fp (u::r) v0 o)]
def cD(y:Tx):Nat->Tx->Tx|_,[]=>[]|k+1,_::r=>cD y k r|0,c::r=>if(c::r).take y.length=y then cD y (y.length-1) r else c::cD y 0 r
theorem Lz(y:Tx):∀(k:Nat)(l:Tx),cD y k l=cD y 0 (l.drop k)|0,l=>rfl|k+1,[]=>by simp[cD]|k+1,c::r=>Lz y k r
theorem XT{y l:Tx}(m:1<=y.length)(h:l.take y.length=y):cD y 0 l=cD y 0 (l.drop y.length):=by cases l with|nil=>rw[List.drop_nil]|cons c r=>show(if(c::r).take _=y then cD y _ r else _)=_;rw[if_pos h,Lz];obtain⟨k,C⟩:=Nat.exists_eq_succ_of_ne_zero (hj m);rw[C];rfl
theorem BO{y:Tx}{r:Tx}(h:(c::r).take y.length≠y):cD y 0 (c::r)=c::cD y 0 r:=if_neg h
theorem BN(y:Tx):∀(m:Nat)(L:Tx),m<=L.length->(∀k,k<m->(L.drop k).take y.length≠y)->cD y 0 L=L.take m++cD y 0 (L.drop m)|0,L,_,_=>rfl|m+1,[],h,_=>absurd h (Nat.not_succ_le_zero _)|m+1,c::r,h,U=>by rw[BO (U 0 (Nat.succ_pos _)),BN y m r (Nat.le_of_succ_le_succ h) λk C=>U _ (Nat.succ_lt_succ C)];rfl
open PySem.StrLaws in theorem XU(x y:aq)(m:1<=y.length):∀(b:#[j])(a f:Nat),a<=x.length->ChainG x y x.length a b f->(∀k,f<=k->¬At x y x.length k)->bh [] ((partsFrom x y.length a b).map λp=>p.cps.toList)=cD y.cps.toList 0 (x.cps.toList.drop a):=by
 have O:y.cps.toList.length=y.length:=by simp[DQ]
 have T:x.cps.toList.length=x.length:=by simp[DQ]
 have v:∀k,¬At x y x.length k->(x.cps.toList.drop k).take y.cps.toList.length≠y.cps.toList:=λk C e=>C ⟨by
  have N:#[t,(x.cps.toList.drop k).take,y.cps.toList.length]=y.cps.toList.length:=by rw[e]
  rw[bH,cR,O]at N;omega,by rw[subAt_eq,<-O,e];exact beq_self_eq_true _⟩
 intro b;induction b with|nil=>intro a f I h U;have e:f=a:=h;subst e;show(Of x f x.length).cps.toList=_;rw[strSub_toList,BN y.cps.toList (x.length-f) (x.cps.toList.drop f) (by rw[cR,T];exact aO _) λk _=>by rw[jP];exact v _ (U _ #[f])];rw[show cD y.cps.toList 0 ((x.cps.toList.drop f).drop (x.length-f))=[]by rw[qx (by rw[cR,T];exact aO _)];rfl];exact(fy _).symm|cons c r Q=>intro a f I h U;obtain⟨N,a0,G,E⟩:=h;show bh [] ((Of x a c).cps.toList::(partsFrom x y.length (c+y.length) r).map _)=_;have X:c<=x.length:=aH (hZ _ _) a0.1;rw[jg,Q (c+y.length) f a0.1 E U,strSub_toList];rw[BN y.cps.toList (c-a) (x.cps.toList.drop a) (by rw[cR,T];omega) λk C=>by rw[jP];exact v _ (G _ #[f] #[f])];rw[jP,Nm N];have M:=a0.2;rw[subAt_eq]at M;rw[XT (l:=x.cps.toList.drop c) (by rw[O];exact m) (by rw[O];exact eq_of_beq M),jP,O]
theorem Ij:#[eN,#[e5,(nM #[du] l),bh [] (l.map λp=>p.cps.toList)]]|[]=>rfl|[p]=>rfl|p::q::r=>by show(p++⟨_⟩++nM _ _).cps.toList=p.cps.toList++[]++bh _ ((q::r).map λp=>p.cps.toList);rw[<-Ij _];simp only[Str.cps_append,wN]
open PySem.StrLaws PySem.Builtin.Str in theorem Km(t:Tx)(y:aq)(m:1<=y.length):#[e5,(oZ (cq t) y #[du]),cD y.cps.toList 0 t]:=by
 obtain⟨f,N,a0⟩:=occ_tight (cq t) y m;have o:=XU (cq t) y m _ 0 f #[aB] N a0;rw[nz,#[co,#[e5,(cq t),t]]]at o;rw[<-o];unfold oZ;split;.rename_i a;rw[show(y.length==0)=ai from#[G,beq_eq_false_iff_ne.mpr],Bool.false_and,sO]at a;rw[List.isEmpty_iff.mp a];show t=(strSub (cq t) 0 #[t,cq,t]).cps.toList;rw[sub_whole];rfl
 .rw[glued_eq_join,partsBetween_eq,Ij]
theorem gn{y:Tx}{r:Tx}(h:c≠X):cD (X::h0::y) 0 (c::r)=c::cD (X::h0::y) 0 r:=BO λe=>h (#[R])
theorem sH{y:Tx}{r:Tx}(h:c≠h0):cD (X::h0::y) 0 (d::c::r)=d::cD (X::h0::y) 0 (c::r):=BO λe=>h (#[R])
def mL(M:#[ac])(c:Nat):Nat:=if M c=1 then 0 else M c
theorem adk(n:Nat):gz (n+5)=[92,34]:=rfl
theorem BP(M:#[ac]):∀f0:#[g],(#[dD,f0])->cD #[eV] 0 (bh [] (f0.map #[cx]))=bh [] (f0.map (ax (aA (mL M))))
 |[],_=>rfl
 |t::r,h=>by
  have N:=h t #[bJ];have Q:=BP M r #[gj];rw[dh,dh,jg,jg];generalize bh _ (r.map (ax _))=R at*;rw[<-Q];by_cases Z:t=40\/t=41;.rw[show ax _ t=[t]by unfold ax;rw[if_pos Z],show ax (aA _) t=[t]by unfold ax;rw[if_pos Z]];exact gn N.2
  .rw[show ax _ t=gz _++[t]by unfold ax;rw[if_neg Z];rfl,show ax (aA _) t=gz _++[t]by unfold ax;rw[if_neg Z];rfl];have a:cD #[eV] 0 #[cG]=[t]++cD _ 0 R:=gn N.2;have d:cD #[eV] 0 _=t::cD _ 0 R:=gn N.2;have T:=λe=>Z (.inl e);unfold mL;rcases b:M t with _|_|_|_|_|n;.exact a
   .exact a
   .show cD _ 0 (92::41::#[cG])=_;rw[#[aQ,gn],#[aQ,gn],a];rfl
   .show cD _ 0 (34::92::34::41::34::#[cG])=_;rw[#[aQ,sH],#[aQ,gn],#[aQ,sH],#[aQ,gn],ti,sH T,d];rfl
   .show cD _ 0 (92::92::59::#[cG])=_;rw[#[aQ,gn],#[aQ,gn],#[aQ,gn],a];rfl
   .show cD _ 0 (92::34::#[cG])=_;rw[#[aQ,gn],ti,sH T,d];rfl
theorem LA(M:#[ac])(u:∀t,M t≠1):∀f0:#[g],(#[dD,f0])->cD #[f6] 0 #[kl]=#[ki]
 |[],_=>rfl
 |t::r,h=>by
  have N:=h t #[bJ];have Q:=LA _ u r #[gj];rw[dh,dh,jg,jg];generalize bh _ (r.map (ax _))=R at*;rw[<-Q];by_cases Z:t=40\/t=41;.rw[show ax _ t=[t]by unfold ax;rw[if_pos Z],show eD _ t=[t]by unfold eD;rw[if_pos Z]];exact gn N.2
  .rw[show ax _ t=gz _++[t]by unfold ax;rw[if_neg Z];rfl,show eD _ t=nX _++[t]by unfold eD;rw[if_neg Z]];have a:cD #[f6] 0 #[cG]=[t]++cD _ 0 R:=gn N.2;rcases b:M t with _|_|_|_|_|n;.exact a
   .exact absurd b (u t)
   .show cD _ 0 (92::41::#[cG])=_;rw[#[aQ,gn],#[aQ,gn],a];rfl
   .exact a
   .show cD _ 0 (92::92::59::#[cG])=_;rw[#[aQ,gn],#[aQ,gn],#[aQ,gn],a];rfl
   .show cD _ 0 (92::34::#[cG])=_;rw[#[aQ,gn],ti,sH (N.1),gn N.2];rfl
theorem XS(M:#[ac])(f0:#[g])(h:#[dD,f0]):cD #[f6] 0 (cD #[eV] 0 (bh [] (f0.map #[cx])))=#[ki]:=by
 rw[BP _ _ h,LA _ (λt=>by unfold mL;split<;>omega) _ h];congr 1;refine lr λt _=>?_;unfold eD mL;split;.rfl
 .split;.rename_i e;rw[e];rfl
  .rfl
noncomputable def yV:#[y]:=by run_tac au.dc ["_digits2int"]
noncomputable def vY:bq:=by run_tac au.dd ["_digits2int"]
noncomputable def yW:#[y]:=by run_tac au.dc ["_digits2int","inner"]
noncomputable def vZ:bq:=by run_tac au.dd ["_digits2int","inner"]
noncomputable def EH:lD:=by run_tac au.mP ["_digits2int","inner"] 1
noncomputable def VM:aZ:=by run_tac au.mP ["_digits2int","inner"] 9
noncomputable def sC(c P:ao):fD:=⟨c,P,VM,"inner","_digits2int.<locals>.inner"⟩
theorem Vw:ip vY 2=ae:=#[p]
noncomputable def FU:#[bw]:=iJ vZ.names []
theorem HE:iu EH yW vZ FU 2 where
 bind:=by rintro⟨⟩l N a0 G R;dsimp at N a0 G;subst N a0 G;match l,R with|[a,b],_=>rfl
 ok:=#[p]
 kind:=rfl
 co:=rfl
 gen:=rfl
 mK:=by decide
 pK:=rfl
abbrev Kf:Ob:=.raw (gc EH (.stmts yW) vZ FU)
def cW(n:Nat)(l:#[j]):Nat:=l.foldr (λd x=>x*2^n+d) 0
theorem AF(n:Nat):∀(l m:#[g]),cW n (l++m)=cW n m*2^(n*l.length)+cW n l|[],m=>by simp[cW]|d::l,m=>by have Q:=AF n l m;simp only[cW,fA,MM,cc]at*;rw[Q,oP,nG,<-jS,qI];rfl
theorem IZ(n h0:Nat):∀(l:#[g]),(∀d∈l,d<2^h0)->cW n l<2^(h0+(n+1)*l.length)
 |[],_=>iU _
 |d::l,h=>by
  have Q:=IZ n h0 l λd Z=>h d (dH _ Z);have Z:=h d fB;simp only[cW,MM,cc]at*;generalize List.foldr _ 0 l=x at*;have e:2^(h0+(n+1)*(l.length+1))=2^(h0+(n+1)*l.length)*2^n*2:=by rw[<-jS,<-oR];congr 1;rw[De];omega
  have a:2^h0<=2^(h0+(n+1)*l.length)*2^n:=by rw[<-jS];exact#[je]
  have b:x*2^n<=2^(h0+(n+1)*l.length)*2^n:=oQ _ (ea Q);omega
theorem UK(n:Nat)(o:#[g])(L i j:Nat)(h:L+(i+j)<=o.length):cW n ((o.drop (L+i)).take j)*2^(n*i)+cW n ((o.drop L).take i)=cW n ((o.drop L).take (i+j)):=by
 have e:(o.drop L).take (i+j)=(o.drop L).take i++(o.drop (L+i)).take j:=by rw[List.take_add,jP]
 rw[e,AF,(by rw[bH,cR];omega:#[t,(o.drop L).take,i]=i)]
theorem QN{i d:Nat}(h:#[I,n0,d]):br (aJ n0) i=#[cz,d]:=Fb (by rw[aJ,cb,h];rfl)
section
variable{B:Bs}{w:aD}{d0 g0:#[n]}
theorem RC(F:#[w])(G:#[W])(n:Nat)(U:n<=8000)(o:#[j])(O:∀d∈o,d<2^8000)(u:o.length<=1000):∀(k h:Nat),1<=k->k<=h+1->k<=1000->∀(L R:Nat),R=L+k->L+k<=o.length->aj B w h #[d7,vZ,1] yW [#[cz,L],#[cz,R],ab,ab,#[bj],#[ag],#[cz,n]] [#[az,o],Kf] (gP #[eM,cW n ((o.drop L).take k)] [#[az,o],Kf]):=by intro k;induction k using ND with
|ind k Q=>
 intro h C g s L R M c;have r:=HE;have t:#[bd,aJ,o]:=by simp[aJ,aB];omega
 by_cases N:k=1
 .subst N;have b0:(L+1==R)=ae:=by simp[M]
  have P:o[L]?=aa (o[L]'#[f]):=#[G,bB];have v:=QN P;have T:cW n ((o.drop L).take 1)=o[L]'#[f]:=by rw[List.take_one,List.head?_drop,P];simp[cW]
  rw[T];run_tac au.aI
 .have b0:(L+1==R)=ai:=by simp[M];omega
  obtain⟨h,rfl⟩:∃l,h=l+1:=⟨h-1,by omega⟩;have S:=Q (k/2) #[f] h #[f] #[f] #[f] L (L+k/2) rfl #[f];have H:=Q (k-k/2) #[f] h #[f] #[f] #[f] (L+k/2) R #[f] #[f];have p:=UK n o L (k/2) (k-k/2) #[f];rw[show k/2+(k-k/2)=k by omega]at p;have f:#[lS,.RShift,L+R,#[T,#[a5]],L+k/2]:=aG.ie St.so #[f];have i:#[lS,.Sub,L+k/2,#[T,(L:Int)],k/2]:=aG.ie (St.iO #[f]) #[f];have q:mx #[v,k/2] n:=sb (k:=10) (l:=13) #[f] #[f] #[f] #[f];have j:#[lS,.Mult,k/2,#[T,(n:Int)],n*(k/2)]:=aG.ie (St.vI q) (hI _ _);have e:(bN #[v,cW n ((o.drop (L+k/2)).take (k-k/2))]:Int)+#[v,n*(k/2)]<=2^27:=by have a:=gV (IZ n 8000 ((o.drop (L+k/2)).take (k-k/2)) λd Z=>O d (eU (eA Z)));have E:(n+1)*#[t,(o.drop (L+k/2)).take,k-k/2]<=8001*1000:=mw #[f] (by rw[bH];omega);have b:n*(k/2)<=8000*1000:=mw U #[f];omega
  have m:#[lS,.Add,cW n ((o.drop (L+k/2)).take (k-k/2))*2^(n*(k/2)),#[cf,cW n ((o.drop L).take (k/2))],cW n ((o.drop L).take k)]:=aG.ie St.rt p;clear Q;run_tac au.aI
theorem Gj(F:#[w])(G:#[W])(c P:ao)(J:ba B 232 vY 2 yV [sC c P])(n:Nat)(U:n<=8000)(o:#[j])(O:∀d∈o,d<2^8000)(h:o.length<=30):Fn B w 32 232 [#[az,o],#[cv,n]] (.atom (.int (cW n o:Nat))):=by
 refine#[gf,Vw];have r:=HE;have t:#[t,aJ,o]=o.length:=by simp[aJ]
 have H:#[bd,aJ,o]:=by rw[t];show _<=2^24;omega
 cases o with|nil=>have b0:(!(aJ []).isEmpty)=ai:=rfl;run_tac au.aI|cons d l=>have b0:(!(aJ (d::l)).isEmpty)=ae:=rfl;have g:=RC (w:=w) F G n U (d::l) O #[f] (d::l).length 30 #[z] #[f] #[f] 0 (d::l).length #[f] #[f];rw[nz,gL]at g;generalize d::l=o at*;run_tac au.aI
theorem Sw(n:Nat)(o:#[g]):o.foldl (λx d=>x*2^n+d) 0=cW n o.reverse:=by rw[cW,List.foldr_reverse]
theorem Jq(o:#[g]):(aJ o).reverse=aJ o.reverse:=by simp[aJ]
theorem AE{b f:Nat}(Z:0<b)(h:bN b=f):b<2^f/\2^f<=b*2/\1<=f:=by unfold bN at h;rw[#[bK,by simp;omega]]at h;simp at h;subst h;refine⟨CX,?_,by omega⟩;have:=Nat.log2_self_le (by omega:b≠0);omega
theorem RI(F:#[w])(G:#[W])(c P y m:ao)(e:ba B 225 su 2 yY [agc c P])(h:ba B 232 vY 2 yV [sC y m])(a0:ba B 211 pV 3 rx)(g:ba B 218 pW 6 ry)(J:ba B 239 wa 2 yX)(a b f:Nat)(Z:0<b)(I:bN (b:Int)=f)(k:f<=6000)(C:(bN (a:Int)+f-1)/f<=30):Fn B w 33 239 [#[cv,a],#[cv,b]] (.tup [.int (a/b:Nat),.int (a%b:Nat)]):=by
 obtain⟨i,E,j⟩:=AE Z I;have H:bN (a:Int)<=f*((bN (a:Int)+f-1)/f):=by have:=kp (bN (a:Int)+f-1) f;have:=hH (bN (a:Int)+f-1) (by omega:0<f);omega
 have z:a<2^(f*((bN (a:Int)+f-1)/f)):=by
  by_cases u:a=0;.subst u;exact iU _
  .exact eo (AE #[f] rfl).1 (eb #[f] H)
 refine RJ F G J a b f 32 (gk f a ((bN (a:Int)+f-1)/f)) Z #[f] (Gh f a _) (by rw[rL];show _<=2^24;omega) (Gi f a _ z) I ?_ (λo O R=>?_) λr d Y A=>?_;.rw[I];exact SP F G c P e a f _ j #[f] rfl C
 .rw[I,Sw,Jq];refine Gj F G y m h f #[f] o.reverse (λd h=>eo (O d (qA.mp h)) (eb #[f] #[f])) ?_;rw[ta,R,rL];exact C
 .rw[I];refine#[G,(RF F G a0 g (r*2^f+d) b f k Z E i ?_).le];have:(r+1)*2^f<=b*2^f:=oQ _ Y;rw[ly]at this;omega
end
def bz(l:#[j]):Nat:=l.foldr (·*·) 1
theorem sj:∀l m:#[g],bz (l++m)=bz l*bz m|[],m=>(Dg _).symm|a::l,m=>by show a*bz (l++m)=a*bz l*bz m;rw[sj l m,nG]
theorem JV:#[eN,bz l.reverse=bz l]|[]=>rfl|a::l=>by rw[xp,sj,JV l,hI];show a*1*bz l=a*bz l;rw[tj]
theorem We{l:#[g]}{k:Nat}(h:#[cH]):bz (l.drop k)=l[k]*bz (l.drop #[u]):=by rw[ny h];rfl
theorem vS:#[eN,(∀f∈l,0<f)->0<bz l]|[],_=>Nz|a::l,h=>Nat.mul_pos (h a #[bJ]) (vS l λf t=>h f #[br,t])
def fJ(f r:Nat):Nat:=if r=0 then 0 else if r=1 then 1 else f-1
theorem WE(h:3<=f)(r:Nat):fJ f r<f:=by
 unfold fJ;split;.omega
 .split<;>omega
theorem RH{f p r:Nat}(h:r<f):(f*p+r)/f=p/\(f*p+r)%f=r:=by
 constructor;.rw[#[G,Nw],CS h,qK]
 .rw[Nx,xD h]
theorem vC(n d:Nat)(l:#[g]):cW n (d::l)=cW n l*2^n+d:=rfl
theorem IY(n:Nat):∀l m:#[g],cW n (ud l m)=cW n l+cW n m|[],m=>(gM _).symm|a::l,[]=>rfl|a::l,b::m=>by show cW n ((a+b)::ud l m)=_;rw[vC,vC,vC,IY n l m,oP];omega
theorem vD(n:Nat)(c:#[g]):∀a,cW n (cL a 0++c)=cW n c*(2^n)^a|0=>#[z]|a+1=>by show cW n (0::(cL a 0++c))=_;rw[vC,vD n c a,oR,qK,nG]
theorem UJ(n:Nat)(c:#[g])(a b:Nat):cW n (vH c a b)=cW n c*((2^n)^a+(2^n)^b):=by unfold vH;rw[IY,vD,vD,Dc]
theorem UL(n:Nat)(l:#[g]):∀m,cW n (l++cL m 0)=cW n l:=λm=>by
 have u:cW n (cL m 0)=0:=by have:=vD n [] m;rw[fy]at this;rw[this];exact qN _
 rw[AF,u,qN,gM]
theorem Xm(h:fl n e0):fl (b+n) (aX b e0):=by cases e0 with|list X=>exactλx z=>by obtain⟨y,a,rfl⟩:=bI.mp z;exact wj.mpr (h y a)|tup X=>exactλx z=>by obtain⟨y,a,rfl⟩:=bI.mp z;exact wj.mpr (h y a)|raw R=>exact h|rel m R M=>exact Ni (h) b|hp m R P T M k=>exact Ni (h) b
theorem Vr(h:fl n e0)(f:n<=m):fl m e0:=by cases e0 with|list X=>exactλx z=>(h x z).le f|tup X=>exactλx z=>(h x z).le f|raw R=>exact h|rel k R M=>exact aH (h) f|hp k R P T M q=>exact aH (h) f
theorem uG(Z:ir v (A++g++v0))(u:S<=(A++g++v0).length)(t:l.length=g.length)(H:∀e0∈l,fl (A++g++v0).length e0)(T:#[ga,I,#[f3,v]\/bR x=ae]):wU S (A++g++v0).length I (A++l++(v0++w0)):=by
 refine⟨u,#[cX],λi e0 P e=>?_⟩
 .obtain h|h:=T i x e;.exact Z.1 i x h
  .exact pP h
 .rw[aV,aV]at P;obtain N|N:=gd i _;.refine Z.2 i _ ?_;rw[cQ,cG N]at e⊢;exact e
  .obtain a0|a0:=gd i (A.length+g.length);.rw[cQ,dZ N,#[G,cG]]at e;exact H _ (bC e)
   .refine Z.2 i _ ?_;rw[dZ (#[R]),aV,t]at e;rw[dZ (by simp_all),aV];rwa[#[G,cG]]at e
theorem Ua(b:13<=N):∀e0∈(vK T k l).map (aX 5),fl N e0:=λe0 h=>by obtain⟨o,p,rfl⟩:=bI.mp h;obtain⟨i,P⟩:=gK.mp p;exact Vr (Xm (kf.ok i o P).1) b
noncomputable def UQ:#[y]:=match ee.drop 16 with|.For _ _ b _ _::_=>b|_=>[]
section
variable{B:Bs}{w:aD}{n:Nat}{d0 g0 r0:#[n]}
theorem TK(F:#[w])(G:#[W])(q0:fj B r0)(U:17<=n)(G0:#[c8,"_law_traded",324]){M:#[ac]}{n0:#[j]->#[j]}{r:#[j]}(H:r.length<=4){f0 p:Nat}(l:∀S,#[t,n0,S]<=15)(Z:∀S∈bb r,n0 S≠[]/\(#[ij,n0 S])/\#[gg,324,#[aq,#[db,(n0 S).map]],p,#[fh,#[db,(n0 (f0::S)).map]]]){T:Tx}{j:Nat}{X o0 m0 C d c y A I f N:Ob}{p0:#[D]}(w0:br p0 #[v,f0]=#[B,p])(F0:p0.length<=aB){E u0 e0 R J l0 k0 O c0 L g x0 j0 A0:#[bh]}{Y:#[o]}:#[dc,UQ,E::u0::#[B,f0]::e0::R::J::l0::k0::O::c0::#[bX]::L::g::#[bV]::x0::#[B,2^r.length]::j0::A0::Y,#[id,(bb r).map #[hl],#[kD]],#[fw,∃a b,v=E::u0::#[B,f0]::e0::R::J::l0::k0::O::c0::#[bX]::L::g::#[bV]::x0::#[B,2^(r.length+1)]::a::b::Y,s=#[dK,(bb (f0::r)).map #[hl],#[kD]]]]:=by
 have P:=vT r;have I0:2^r.length<=2^4:=eb #[f] H;have H0:#[bY,dR,.Mult,#[v,2^r.length],#[v,2],#[cf,2^(r.length+1)]]:=by have:=St.vo (w:=w) (n:=n) (i:=2^r.length) (j:=2) (IntMulOk.of_right #[i]);rwa[<-oR]at this
 show#[dc,_::[_],_,_,_];refine#[jU,16,(aW (2^r.length)).map #[cO],λ_=>True,#[dK,(bb r).map #[hl],#[kD]],(∃a b,v=E::u0::#[B,f0]::e0::R::J::l0::k0::O::c0::#[bX]::L::g::#[bV]::x0::#[B,2^r.length]::a::b::Y)/\s=#[dK,((bb r).drop m).map (#[hl])++((bb r).take m).flatMap #[iE],#[kD]],?_,⟨#[au,j0,A0],by simp⟩];.run_tac au.aI
 .rintro k v s⟨⟨a,b,rfl⟩,rfl⟩;exact#[gG,by simp]
 .rintro m x v s z⟨⟨a,b,rfl⟩,rfl⟩v0 _;rw[cb]at z;obtain⟨q,y0,rfl⟩:=dP.mp z;have u:m<#[t,bb,r]:=by rw[P];have:=#[U,y0];simpa using this
  obtain⟨a0,b0,h0⟩:=Z _ (jQ u);have C0:(bb r).drop m=(bb r)[m]::(bb r).drop (m+1):=ny u;have s0:(bb r).take (m+1)=(bb r).take m++[(bb r)[m]]:=lx u;rw[C0,dh,fA]at v0⊢
  have t0:(((bb r).drop (m+1)).map (#[hl])++((bb r).take m).flatMap #[iE]).length<1000:=by
   have:∀q:List (List Nat),#[t,q.flatMap,#[iE]]=2*q.length:=λq=>by induction q with|nil=>rfl|cons a q Q=>rw[mm,aV,Q,cc];simp;omega
   rw[aV,this,aQ,cR,bH];omega
  refine#[j6,TN F G q0 U G0 (l _) (l _) a0 b0 t0 h0 w0 F0];obtain⟨rfl,rfl,rfl⟩:=h;refine .inr ⟨20,aO _,uG (A:=#[eS]) (l:=(vK T j _).map (aX 5)) (w0:=[_,_]) v0 #[aZ] rfl (Ua (bx rfl)) (#[cX]),#[M,_],?_⟩;.match i,e with|0,e=>exact#[J]|1,e=>exact#[J]|2,e=>exact#[J]|3,e=>exact#[J]|4,e=>exact#[J]|5,e=>exact#[J]|6,e=>exact#[J]|7,e=>exact#[J]|8,e=>exact#[J]|9,e=>exact#[J]|10,e=>exact#[J]|11,e=>exact#[J]|12,e=>exact#[J]|13,e=>exact#[J]|14,e=>exact#[J]|15,e=>exact#[J]|16,e=>exact#[he]|17,e=>exact#[he]|i+18,e=>exact#[J]
  .have E0:((bb r).drop (m+1)).map (#[hl])++((bb r).take m).flatMap (#[iE])++[aS M (n0 (bb r)[m])]++[aS M (n0 (f0::(bb r)[m]))]=((bb r).drop (m+1)).map (#[hl])++((bb r).take (m+1)).flatMap #[iE]:=by rw[s0,List.flatMap_append];simp
   rw[<-E0];rfl
 .rintro v s⟨⟨a,b,rfl⟩,rfl⟩;have z:#[t,(aW (2^r.length)).map,#[cO]]=#[t,bb,r]:=by rw[aQ,gq,P]
  have i0:(bb (f0::r)).map (#[hl])=(bb r).flatMap #[iE]:=by show((bb r).flatMap λS=>[S,f0::S]).map _=_;rw[List.map_flatMap];rfl
  rw[z,qw,gL,oO,hX,i0];refine aj.nil ?_;run_tac au.aI
  exact#[au,rfl,#[au,a,b]]
 .exact#[df]
end
section
variable{B:Bs}{w:aD}{n:Nat}{d0 g0 r0:#[n]}
theorem TM(F:#[w])(G:#[W])(Q:fj B r0)(U:17<=n)(q0:#[c8,"_law_traded",324]){M:#[ac]}{n0:#[j]->#[j]}{u:#[j]}(f:u.length<=4)(e:∀H,#[t,n0,H]<=15){q:#[D]}(p0:q.length<=aB)(Z:∀(i:Nat)(P:i<u.length),∃p:Nat,br q #[v,u[i]]=#[B,p]/\∀H∈bb (u.drop (i+1)),n0 H≠[]/\(#[ij,n0 H])/\#[gg,324,#[fz,(n0 H).map],p,#[fh,#[db,(n0 (u[i]::H)).map]]]){T:Tx}{j:Nat}{X o0 m0 C d c y A I:Ob}{E u0 C0 e0 R J l0 k0 O c0 L g j0 A0:#[bh]}{Y:#[o]}:#[ea,16,1,E::u0::C0::e0::R::J::l0::k0::O::c0::#[bX]::L::g::#[bV]::#[cp]::#[B,1]::j0::A0::Y,#[id,[aS M (n0 [])],[c,y,A,I,.list q,#[gR]]],∃k a b,v=#[iT,k,#[bX]::L::g::#[bV]::#[cp]::#[B,2^u.length]::a::b::Y],#[dK,(bb u).map λH=>aS M (n0 H),#[m9]]]:=by
 have S:(u.map #[a1]).reverse.length=u.length:=#[z];have r:#[bd,u.map,#[a1]]:=by rw[aQ];exact#[bD,f]
 show#[j3];refine#[jU,2,(u.map #[a1]).reverse,λs=>#[aX,s,19,(u.map #[a1]).reverse],#[dK,[aS M (n0 [])],#[m9]],m<=u.length/\(∃k a b,v=E::u0::k::e0::R::J::l0::k0::O::c0::#[bX]::L::g::#[bV]::#[cp]::#[B,2^m]::a::b::Y)/\s=#[dK,(bb (u.drop (u.length-m))).map λH=>aS M (n0 H),#[m9]],cg.list (i:=19) (Ev.KZ (k:=18) (o0:=#[dK,[aS M (n0 [])],[c,y,A,I,.list q,#[gR]]]) #[aD,14] ?_ rfl r rfl rfl rfl) rfl,#[bL,aT _,⟨C0,j0,A0,rfl⟩]];.run_tac au.aI
 .rw[xJ,qw];rfl
 .rintro k v s⟨_,⟨F0,a,b,rfl⟩,rfl⟩;exact#[aJ,by simp]
 .rintro m x v s z⟨b0,⟨F0,a,b,rfl⟩,rfl⟩_ _;have t0:m<u.length:=by have:=#[U,z];rwa[S]at this
  have P:u.length-1-m<u.length:=by omega
  rw[MN (by rw[aQ];exact t0),aQ,cb,bB P]at z;obtain rfl:x=V.int #[v,u[u.length-1-m]]:=(hk z).symm;obtain⟨p,N,a0⟩:=Z _ P;have l:u.length-1-m+1=u.length-m:=by omega
  rw[l]at a0;have i0:#[t,u.drop,u.length-m]=m:=by rw[cR];omega
  have s0:u.drop (u.length-(m+1))=u[u.length-1-m]::u.drop (u.length-m):=by rw[show u.length-(m+1)=u.length-1-m by omega,ny P,l]
  have:=TK F G Q U q0 (r:=u.drop (u.length-m)) #[f] e a0 (T:=T) (j:=j) (X:=X) (o0:=o0) (m0:=m0) (C:=C) (d:=d) (c:=c) (y:=y) (A:=A) (I:=I) (f:=#[gR]) (N:=.list (u.map #[a1]).reverse) N p0 (E:=E) (u0:=u0) (e0:=e0) (R:=R) (J:=J) (l0:=l0) (k0:=k0) (O:=O) (c0:=c0) (L:=L) (g:=g) (x0:=#[cp]) (j0:=a) (A0:=b) (Y:=Y);rw[i0]at this;refine this.mono λo v s h=>?_;obtain⟨rfl,⟨f0,h0,rfl⟩,rfl⟩:=h;refine .inl #[bL,t0,#[aC,f0,h0,rfl]];rw[s0]
 .rintro v s⟨_,⟨F0,a,b,rfl⟩,rfl⟩;refine#[dF,#[bL,rfl,#[bM,F0,a,b]]];.rw[S]
  .rw[S,ks,nz]
 .exact#[df]
end
section
variable{B:Bs}{w:aD}{n:Nat}{d0 g0 r0:#[n]}
theorem Tp(F:#[w])(G:#[W])(Q:fj B r0)(U:17<=n){l:#[bz]}(u:l.length<=16){T:Tx}{j:Nat}{X o0 m0 C d c y A I f N:Ob}(x:eO X)(i:eO o0)(m:eO m0)(p:eO C)(Z:eO d)(M:eO c)(S:eO y)(b0:eO A)(f0:eO I)(h0:eO f)(i0:eO N){P:#[D]}{E u0 C0 e0 R J l0 k0 O c0 L g b x0 j0 A0 n0:#[bh]}{Y:#[o]}:#[ea,17,1,E::u0::C0::e0::R::J::l0::k0::O::c0::#[bX]::L::g::b::x0::#[e6]::j0::A0::n0::Y,#[id,l,#[gH]],v=E::#[hm,u0,C0,e0,k0,#[bX],L::g::b::x0::#[e6]::j0::A0::#[dr]::Y],#[dK,[],[c,y,A,I,.list P,f,N,#[aq,l]]]]:=by
 have t:#[t,(aW l.length).map,#[cO]]=l.length:=#[z];refine aj.vM (dY.KH (N:=0) (r:=20) (X:=(aW l.length).map #[cO]) (C:=λ_=>True) (b0:=#[dK,l,#[gH]]) F (c:=λk q0 v s=>k<=l.length/\(∃z,v=[ab,z,#[bX]])/\q0=ah (l.take k)/\s=#[ew,#[eS],(vK T j (l.drop k))]++#[gH]++[.list q0]) 1 (G:=[ab,ab,aa 10]) (T:=[ab,ab,#[bX]]) (cg.N ?_ 0) rfl #[p] #[p] #[p] #[p] ?_ rfl rfl rfl (by rw[t];exact#[bD,u]) (λ_=>⟨aT _,#[aU],rfl,rfl⟩) ?_ ?_ ?_ #[ai] (l:=[]) (m0:=#[dK,[],[c,y,A,I,.list P,f,N,#[aq,l]]]) (x0:=E::u0::C0::e0::R::J::l0::k0::O::c0::#[bX]::L::g::b::x0::#[e6]::j0::A0::#[dr]::Y) 18 (BX #[p]) rfl #[z] rfl (dY.of (aj.nil #[b9])));.run_tac au.aI
 .simp[ct,x _ _,i _ _,m _ _,p _ _,Z _ _,M _ _,S _ _,b0 _ _,f0 _ _,h0 _ _,i0 _ _];show ct 13 #[gH]=[];simp[ct,M _ _,S _ _,b0 _ _,f0 _ _,h0 _ _,i0 _ _]
 .rintro k q0 v s⟨e,⟨z,rfl⟩,rfl,rfl⟩;exact⟨trivial,bx rfl,rfl,by simp only[ah,aQ,bH];omega⟩
 .rintro k z q0 v s q⟨e,⟨p0,rfl⟩,rfl,rfl⟩_ _;have r:#[cH]:=by have:=#[U,q];rwa[t]at this
  have H:l.drop k=l[k]::l.drop (k+1):=ny r;rw[H];refine⟨ae,_,fg.nil,.str l[k],_,om (A:=#[eS]) (v0:=[c,y,A,I,.list P,f,N,#[aq,l.take k]]) (b:=[c,y,A,I,.list P,f,N,#[aq,l.take k]]) Q Q.m2 Q.o2 vA rfl #[aD,2] rfl .nil (mW F G Q j (l.drop #[u]) l[k] (by rw[cR];omega)) #[f] #[aZ] #[av] rfl #[aj] #[i] #[i],rfl,#[dI,r,#[aU],?_,rfl]⟩;rw[lx r,kj];rfl
 .rintro q0 v s⟨_,_,a,a0⟩;rw[t,gL]at a;rw[a0,a,t,qw];rfl
end
noncomputable def UP:#[y]:=match ee.drop 18 with|.For _ _ b _ _::_=>b|_=>[]
section
variable{B:Bs}{w:aD}{n:Nat}{d0 g0 r0:#[n]}
theorem Tr(F:#[w])(G:#[W])(h:17<=n)(I0:#[c8,"_law_due",329]){M:#[ac]}{L f u:#[j]}(a:#[gz])(t:u.length<=4)(Q:f.length<=15){m:Nat}(e:m<16){r:#[D]}(b0:#[fO,r,m,aS M f])(l:r.length<=16)(S:Fn B w n 329 [#[fx],#[cv,#[bq]],#[bg,(lW u m).map,#[im]]] #[fh,f.map #[cx]]){X o0 m0 d t0 v0 x0 y0 A0 n0 E0 F0 c y A I s0 N:Ob}(H0:#[ci,#[mc]]){E u0 C0 e0 R J k0 O c0 H r0 T U P g j:#[bh]}{Y:#[o]}:#[dc,UP,E::u0::C0::e0::R::J::#[V,3]::k0::O::c0::H::r0::T::U::#[cp]::P::g::j::#[dr]::#[B,m]::Y,#[mc],#[fw,v=E::u0::C0::e0::R::J::#[V,3]::k0::O::c0::H::r0::T::U::#[cp]::P::g::j::#[dr]::#[B,m]::Y,∃w0,s=#[mc]++w0]]:=by
 have i0:=oy;have a0:r.length<=aB:=#[bD,l];have f0:#[bd,ah,L.map (aA M)]:=by simp only[ah,aQ];exact#[bD,a]
 have M0:#[bd,u.map,#[a1]]:=by rw[aQ];exact#[bD,t]
 have p0:#[t,u.map,#[a1]]=u.length:=aQ ..;have l0:=wD M f;have j0:#[hQ,#[db,f.map].map,#[t,f.map,#[cx]],[32]]:=by rw[aQ,#[co,#[bb,([32]:Tx),1]]];exact aH (show _<=2000 by omega) #[i]
 have i:∀b,b∈aW u.length->br (u.map #[a1]) #[v,b]=#[B,u.getD b 0]:=λb Z=>by have h0:=eH.mp Z;unfold br;rw[hU (by simpa using h0)];simp[dO,bB h0]
 have q0:hD 358 48 (aW u.length) (#[a1]) (λb=>(m/2^b&&&1 !=0)) (λb=>#[dA,u.getD b 0]):=trivial;have G0:((aW u.length).filter λb=>(m/2^b&&&1 !=0)).map (λb=>#[dA,u.getD b 0])=(lW u m).map #[im]:=by unfold lW;rw[gr,show(λb=>(m>>>b)&&&1 !=0)=λb=>(m/2^b&&&1 !=0)from funext λb=>by rw[Nat.shiftRight_eq_div_pow]];rfl
 have J0:#[bd,(aW u.length).map,#[a1]]:=by rw[aQ,gq];exact#[bD,t]
 have L0:=wI M f;have k:(aS M f !=aS M f)=ai:=bne_self_eq_false _;have C:#[e3,.NotEq,.str (aS M f),.str (aS M f),#[cK,ai]]:=by rw[<-k];exact St.qf
 run_tac au.aI
 .intro x z;obtain⟨q,_,rfl⟩:=bI.mp z;rfl
 .exact⟨rfl,rfl,[_,_],rfl⟩
end
section
variable{B:Bs}{w:aD}{n:Nat}{d0 g0 r0:#[n]}
theorem TH(F:#[w])(G:#[W])(l:17<=n)(y0:#[c8,"_law_due",329]){M:#[ac]}{L u:#[j]}{C:Nat->#[j]}(b:#[gz])(P:u.length<=4){r:#[D]}(t:r.length<=16)(Q:∀m,#[t,C,m]<=15)(Z:∀m,m<r.length->#[fO,r,m,aS M (C m)]/\#[nW,(lW u m).map,(C m).map]){X o0 m0 d l0 n0 p0 q0 s0 b0 t0 v0 c y A I j0 N:Ob}(x0:#[ci,#[oj,#[gR]]]){E u0 C0 e0 R J k0 O c0 H r0 T U g j S:#[bh]}{Y:#[o]}:#[ea,18,1,E::u0::C0::e0::R::J::#[V,3]::k0::O::c0::H::r0::T::U::#[cp]::#[B,r.length]::g::j::#[dr]::S::Y,#[nk],∃i0,v=E::u0::C0::e0::R::J::#[V,3]::k0::O::c0::H::r0::T::U::#[cp]::#[cz,(r.length:Int)]::g::j::#[dr]::i0::Y,#[nk]]:=by
 show#[j3];refine aj.gS (i:=19) (X:=(aW r.length).map λk=>V.int (k:Nat)) (C:=λ_=>True) (c:=λ_ v s=>(∃i0,v=E::u0::C0::e0::R::J::#[V,3]::k0::O::c0::H::r0::T::U::#[cp]::#[cz,(r.length:Int)]::g::j::#[dr]::i0::Y)/\s=#[nk]) ?_ rfl (.inr #[aJ,by decide]) #[bC,#[bC,S]] ?_ ?_ ?_ ?_;.run_tac au.aI
 .rintro k v s⟨⟨i0,rfl⟩,rfl⟩;exact#[gG,by simp]
 .rintro m x v s z⟨⟨i0,rfl⟩,rfl⟩f0 _;rw[cb]at z;obtain⟨q,h0,rfl⟩:=dP.mp z;have f:=by have:=#[U,h0];simpa using this
  obtain rfl:q=m:=by rw[qz f]at h0;exact(hk h0).symm
  obtain⟨a,a0⟩:=Z q f;refine#[j6,Tr F G l y0 b P (Q q) #[f] a t a0 x0];obtain⟨rfl,rfl,w0,rfl⟩:=h;refine .inr #[ds,21,aO _,uG (A:=[]) (g:=[]) f0 #[aZ] rfl #[av] (#[cX]),#[aU]];match i,e with|0,e=>exact#[J]|1,e=>exact#[J]|2,e=>exact#[J]|3,e=>exact#[J]|4,e=>exact#[J]|5,e=>exact#[J]|6,e=>exact#[J]|7,e=>exact#[J]|8,e=>exact#[J]|9,e=>exact#[J]|10,e=>exact#[J]|11,e=>exact#[J]|12,e=>exact#[J]|13,e=>exact#[J]|14,e=>exact#[J]|15,e=>exact#[J]|16,e=>exact#[J]|17,e=>exact#[J]|18,e=>exact#[J]|19,e=>exact#[he]|i+20,e=>exact#[J]
 .rintro v s⟨⟨i0,rfl⟩,rfl⟩;exact#[dF,#[au,rfl,#[bC,i0]]]
 .exact#[df]
end
section
variable{B:Bs}{w:aD}{n:Nat}{d0 g0 r0:#[n]}
theorem Tv(F:#[w])(G:#[W])(Q:fj B r0)(U:17<=n){T:Tx}{r:Nat}(i:#[iO])(j:cx (fW r T)=(#[gL],[])){X o0 m0 C d:Ob}{v0:#[l]}{E u0 C0 e0 R J l0 O c0:#[bh]}{Y:#[o]}:#[ea,19,1,E::u0::C0::e0::R::J::l0::#[P,T]::O::c0::#[bX]::Y,#[kr,r],v=E::#[ns],#[n4]]:=by
 have S:=zW (w:=w) F G Q i r;have H:=zW (w:=w) F G Q i (r+1);have b:fW (r+1) T=[]:=by show(cx (fW r T)).2=_;rw[j]
 have c:fW (r+2) T=[]:=by show(cx (fW (r+1) T)).2=_;rw[b];rfl
 rw[j]at S;rw[show(cx (fW (r+1) T)).1=[]by rw[b];rfl]at H;have e:T.count 10<=T.length:=MD;have k0:#[e3,.NotEq,#[an,#[gL]],#[an,#[gL]],#[cK,ai]]:=St.qf;have m:#[e3,.NotEq,#[an,[]],#[an,[]],#[cK,ai]]:=St.qf;have N:#[bY,dj,.NotEq,#[v,#[g3]],#[v,#[g3]],#[cK,ai]]:=by have:=St.AP (w:=w) (n:=n) (i:=#[g3]) (j:=#[g3]);rwa[bne_self_eq_false]at this
 have f:∀(t:Tx)(k:Nat)(h:bG B w 7 288 [.ob 7] (vK T k []) #[bo] (vK T #[u] []))(G0 E0 N0:aZ)(a:#[lU]),Ev B w n bE #[bO,#[dH,#[aP,"lexer",G0],"get_token",E0],[],N0] (E::#[ns]) #[kr,k] #[bo] #[kr,#[u]]:=λt k h G0 E0 N0 a=>om (A:=#[eS]) (v0:=v0) (b:=v0) (Y:=[]) Q Q.m2 Q.o2 vA rfl #[kF,10] rfl .nil h #[f] #[aZ] #[av] rfl #[aj] a #[i];have g:∀G0 E0,Ev B w n bE #[dH,#[aP,"lexer",G0],"lineno",E0] (E::#[ns]) #[kr,r+2] #[cf,#[g3]] #[kr,r+2]:=λG0 E0=>by refine Ev.nU (d:=11) (k:=11) (j0:=(jh (#[g3]-(fW (r+2) T).count 10)).map λp=>(p.1,ej 5 p.2)) Q.cl #[aD,10] (rC (A:=#[eS]) 7 _ rfl) (cy.sh (b:=5) (d:=6) cy.de) ((rC (A:=#[eS]) 6 _ rfl).trans (congrArg aa BD)) #[i] ?_ Q.n1 BY #[aj] #[ai];rw[oo,TU,c];rfl
 refine aj.ite (B:=B) (w:=w) (n:=n) (S:=bE) (t:=ai) (b0:=#[n4]) (Et.pw (dA.cons (t:=ai) (b0:=#[ew,#[eS],(vK T (r+1) [])]++v0) #[g2,f _ r S _ _ _ #[i],Ev.mJ,k0.up] (dg.ma rfl (dA.cons (t:=ai) (b0:=#[n4]) #[g2,f _ (r+1) H _ _ _ #[i],Ev.mJ,m.up] (dg.ma rfl (dA.cons (t:=ai) #[g2,g _ _,?_,N.up] (dg.ma rfl dA.vO))))))) ?_;.refine Ev.mH Ev.mI (W.count (c:=10) (t:=T) #[aD,7] ?_ rfl #[aj] #[i]) St.rt.up;run_tac au.aI
 exact#[dF,#[b9]]
end
section
variable{B:Bs}{w:aD}{n:Nat}{d0 g0 r0:#[n]}
theorem Tq(F:#[w])(G:#[W])(H:#[c8,"_check_parenthesis",260])(n0:t.length<=2000)(p:r.length<=16)(u:br r (0:Nat)=#[P,t]){c:Tx->Bool}{P:Tx->Prop}(l:∀a,P a->Fn B w n 260 #[g6] (.atom (.bool (c a))))(G0:P t)(E0:P ([40]++t))(e:c t=ae)(h:c ([40]++t)=ai):#[ea,20,1,E::#[lM,c0::d::L::g::b::x0::i::j0::A0::#[dr]::Y],#[iu],v=E::u0::C0::e0::R::J::l0::k0::O::c0::d::L::g::b::x0::i::j0::A0::#[dr]::Y,#[iu]]:=by
 have T:r.length<=aB:=#[bD,p];have x:[40].length+t.length<=aB:=aH (show 1+t.length<=3000 by omega) #[i];run_tac au.aI
 all_goals first|exact#[b9]|rfl
end
section
variable{B:Bs}{w:aD}{n:Nat}{S:Gm}{d0 g0:#[n]}{U:#[o]}{H b0:#[l]}{i0 p:aZ}{a:aP}
theorem fK.XZ(I:#[aI,#[cc]])(d:#[aX,b0,j,X])(R:#[bp])(e:#[I,X,r]):#[bx,fK,.Subscript a (.Constant #[eM,i] k p) i0,r]:=#[c9,lg,#[aA,I,λu0 k0 G c f=>rj (by obtain⟨l,Y,F,rfl,_,b,z⟩:=c.rel.list f d;have m:k0.heap.IsList l _:=#[a8,b,_];refine⟨_,_,rX,m.typeIs,?_⟩;obtain⟨u,h,x⟩:=z.at e;have o:aB=2^24:=rfl;have P:=#[U,e];refine kP (xy 1 _) (Er m (oL i) #[f] (by simpa using h) λn0=>q _ _ _ n0 (c.toks _) x))]]
variable{E u0 C0 e0 R J l0 k0 O c0 d L g b x0 i j0 A0 N r0:#[bh]}{Y:#[o]}{X h0 f0 m0 o0 p0 q0 s0 t0 v0 f j k m q y z A C M:Ob}
theorem Tj(F:#[w])(G:#[W])(n0:t.length<=2000)(c:r.length<=16)(a:r[0]?=aa (.str t))(e:cD #[f6] 0 (cD #[eV] 0 t)=u)(H:#[a2,(cD #[eV] 0 t),2000]):#[ea,21,1,E::#[lM,c0::d::L::g::b::x0::i::j0::A0::#[dr]::N::r0::Y],#[iu],v=E::u0::C0::e0::R::J::l0::k0::O::c0::d::L::g::b::x0::i::j0::A0::#[dr]::N::#[P,u]::Y,#[iu]]:=by
 have Z:∀l,l<=2000->l+(l+1)*0<=16777216:=λl h=>by omega
 refine Mine.W.set 20 (W.Bh G (fK.replace G (fK.XZ #[kF,18] rfl (aH c #[i]) a) (Z _ n0) (Km t _ #[i]) #[aj] #[p]) (Z _ H) ((Km _ _ #[i]).trans e) #[aj] #[p]) rfl #[a0] #[aZ] #[ai] rfl (aj.nil #[b9])
end
section
variable{B:Bs}{w:aD}{n:Nat}{d0 g0 r0:#[n]}
theorem TL(F:#[w])(G:#[W]){t u:Tx}(n0:t.length<=2000)(i0:u.length<=2000){r:#[D]}(U:r.length<=16)(S:br r #[bq]=#[P,t]){c:Tx->Bool}{h:Tx->Tx}{P Q:Tx->Prop}(l:∀a,P a->Fn B w n 260 #[g6] (.atom (.bool (c a))))(I:∀a,Q a->Fn B w n 253 #[g6] (.atom #[cV,h,a]))(G0:P ([41]++t++[40]))(y0:Q t)(O0:Q (t++[34]))(p:c ([41]++t++[40])=ai)(H:h t=u)(T:h (t++[34])=u++[34]){X h0 f0 m0 o0 p0 q0 s0 t0 v0 f j k m q y z A C M:Ob}{E u0 C0 e0 R J l0 k0 O c0 d L g b x0 i j0 A0 N:#[bh]}{Y:#[o]}:#[ea,22,2,E::#[lM,c0::d::L::g::b::x0::i::j0::A0::#[dr]::N::#[P,u]::Y],#[iu],v=E::#[lM,c0::d::L::g::b::x0::i::j0::A0::#[dr]::N::#[P,u]::Y],#[iu]]:=by
 have a0:r.length<=aB:=#[bD,U];have r0:3000<=aB:=by decide
 have b0:#[f2,[41]]+t.length<=aB:=aH (show 1+t.length<=3000 by omega) r0;have E0:#[f2,[41]++t]+#[f2,[40]]<=aB:=aH (show#[f2,[41]++t]+1<=3000 by rw[aV];show 1+t.length+1<=3000;omega) r0;have I0:t.length+#[f2,[34]]<=aB:=aH (show t.length+1<=3000 by omega) r0;have J0:u.length+#[f2,[34]]<=aB:=aH (show u.length+1<=3000 by omega) r0;have w0:#[jY,.bool,c ([41]++t++[40])]:=#[ks];have F0:#[jY,.str,h t]:=#[ks];have H0:#[jY,.str,h (t++[34])]:=#[ks];have Z:(c ([41]++t++[40])!=ai)=ai:=by rw[p];rfl
 run_tac au.aI
 all_goals first|exact#[b9]|rfl
end
theorem md:∀(H:#[g])(k:Nat){X:#[D]},ct k H=[]->ct k (H++[.list X])=[]|[],_,_,_=>rfl|.raw _::r,k,_,h=>by cases h|.list _::r,k,_,h=>md r _ h|.tup _::r,k,_,h=>md r _ h|.rel _ _ _::r,k,_,h=>md r _ h|.hp _ _ _ _ _ _::r,k,_,h=>md r _ h
section
variable{B:Bs}{S:Gm}{J:aN}{O:#[s]}{U x0:#[o]}{H:#[l]}{h:bk}{w:aD}{n:Nat}{l:#[y]}{h0:#[dB]}
theorem aj.forget(h:#[cE,l,U,H,λo v s=>∃I,(#[ga,I,#[f3,v]])/\h0 o I s]):#[hs,l]:=#[kt,λo v s f L j C P r=>by obtain⟨I,X,k⟩:=C;exact q o _ s f _ _ k #[iP,P.rel.forget X,P.fx] r]
end
noncomputable def Jb:#[y]:=match ee.drop 25 with|.For _ _ b _ _::_=>b|_=>[]
theorem BU(p:Nat->Bool)(f:#[ac]):#[gd,((l.filter p).map f).foldl (·+·) a=(l.map λk=>if p k then f k else 0).foldl (·+·) a]|[],a=>rfl|k::r,a=>by rw[sY];cases y:p k with|true=>rw[#[cB],dh,dh,dN,dN,BU p f r,y,#[cB]]|false=>rw[#[c1],dh,BU p f r,y];rfl
theorem LF:#[gd,(l.map λk=>#[bW]).foldl (·+·) (a:Int)=l.foldl (·+·) a]|[],a=>rfl|k::r,a=>by rw[dh,dN,dN,<-LF r _];rfl
theorem VF{a b:Nat}:#[ax,[a]>[b]]=decide (b<a):=by rw[decide_eq_decide];show[b]<[a]↔b<a;rw[MC];simp
section
variable{B:Bs}{w:aD}{n:Nat}{d0 g0 r0:#[n]}
theorem TA(F:#[w])(G:#[W])(A:17<=n){M:#[ac]}{f J0:#[j]}(Q0:f.length<=15)(a0:f≠[])(Z:#[ij,f])(r1:(f.filter #[gN])=J0){l:Nat}(v1:J0.length=l)(U0:1<=l)(n1:l<=5){I:#[j]}(j0:I.length=2^(l-1))(q:eh J0 l<I.length){X h0 f0 m0 o0 p0 q0 s0 t0 v0 n0 x0 y0 A0 E0 F0 N0 O0 L0 G0 H0 I0:Ob}(j1:#[ci,#[oi]]){E u0 C0 R J l0 k0 O c0 H r0 T U u P g i0 b0 Q S:#[bh]}{Y:#[o]}:#[dc,Jb,E::u0::C0::#[B,l]::R::J::l0::k0::O::c0::H::r0::T::U::u::P::g::#[ib]::i0::b0::Q::#[cL]::S::Y,[X,h0,f0,m0,o0,p0,q0,s0,t0,v0,n0,x0,y0,A0,E0,F0,N0,O0,L0,G0,H0,I0,#[az,I]],#[fw,v=E::#[hm,u0,C0,#[B,l],k0,H,r0::T::U::u::P::g::#[ib]::i0::b0::Q::#[cL]::ab::Y],∃w0,s=#[mE]]]:=by
 have e0:=kk M;have X0:=oy;have d1:ah (fu 32 [] (aS M f))=ah (f.map #[cx]):=congrArg ah (LO M a0 Z);have N:=wI M f;have s1:#[fy,(aS M f)]:=aH (show _<=1000 by omega) #[i];have u1:#[ci,[X,h0,f0,m0,o0,p0,q0,s0,t0,v0,n0,x0,y0,A0,E0,F0,N0,O0,L0,G0,H0,I0,#[az,I],#[ed]]]:=md _ 0 (md _ 0 j1);have w1:#[ci,[X,h0,f0,m0,o0,p0,q0,s0,t0,v0,n0,x0,y0,A0,E0,F0,N0,O0,L0,G0,H0,I0,#[az,I],#[d4],#[aq,J0.map #[cs]]]]:=md _ 0 u1;have Z0:(f.map λc=>V.str (ax (aA M) c))=ah (f.map #[cx]):=by simp[ah]
 have T0:∀c,br (ax (aA M) c) (-#[a5])=aa c:=λc=>by
  unfold ax;split;.rfl
  .exact e0.at_ c
 have l1:∀c,#[cI,(ax (aA M) c)]:=λc=>aH (vW e0 c) #[i];have e1:hD 371 18 f (λc=>V.str (ax (aA M) c)) (λc=>!#[l0,c]) (λc=>#[dP]):=trivial;have g1:(f.filter λc=>!#[l0,c]).map (#[fV])=ah (J0.map #[cs]):=by rw[sX λp _=>Bf e0 p,r1];simp[ah]
 have h1:#[m2]:=rfl;have R0:#[cI,#[hZ]]:=by simp only[ah,aQ];exact#[bD,Q0]
 have S0:#[cI,(ah (J0.map #[cs]))]:=by simp only[ah,aQ];exact aH (show J0.length<=5 by omega) #[i]
 have p1:#[bd,(aW (l-1)).map,#[a1]]:=by rw[aQ,gq];exact aH (show l-1<=5 by omega) #[i]
 have Y0:#[lO,l,l-1]:=St.iO U0;have b1:∀k,k<J0.length->br (ah (J0.map #[cs])) #[bW]=#[P,[J0.getD k 0]]:=λp y=>by rw[wA _ (by rw[aQ];exact y)];simp[dO,bB y]
 have o1:∀k,k∈aW (l-1)->br (ah (J0.map #[cs])) #[bW]=#[P,[J0.getD k 0]]:=λk C=>b1 k (by have:=eH.mp C;omega);have i1:∀k,k∈aW (l-1)->#[fO,ah (J0.map #[cs]),k+1,[#[i5]]]:=λk C=>b1 #[u] (by have:=eH.mp C;omega);have q1:∀k,k∈aW (l-1)->#[e3,.Gt,#[an,[J0.getD k 0]],#[an,[#[i5]]],.bool (decide (#[i5]<J0.getD k 0))]:=λk _=>by rw[<-VF];exact St.BB
 have c1:hD 372 19 (aW (l-1)) (#[a1]) (λk=>#[ax,#[i5]<J0.getD k 0]) (λk=>#[dA,2^k]):=trivial;have t1:∀k,k∈aW (l-1)->#[bY,bL,.Pow,#[v,2],#[bW],#[cf,2^k]]:=λk C=>mb 2 k #[i] (by have:=eH.mp C;omega);have a1:∀v s,#[aX,s,25,((aW (l-1)).filter λk=>#[ax,#[i5]<J0.getD k 0]).map λk=>#[dA,2^k]]->bW B w n bE #[cZ,"sum"] [.ob 25] v s #[cf,eh J0 l] s:=λv s r=>Cl.sum (L:=(((aW (l-1)).filter λk=>decide (J0.getD (k+1) 0<J0.getD k 0)).map (2^·)).map λk=>#[bW]) r (by simp[gr]) (by rw[#[co,(0:Int)=#[bq]],LF,BU];unfold eh;simp only[decide_eq_true_eq]);have f1:#[bd,aJ,I]:=by simp only[aJ,aQ,j0];have:2^(l-1)<=2^5:=eb #[i] #[f];exact#[bD,this]
 have k1:(aJ I)[eh J0 l]?=aa (.int #[v,#[js]]):=by simp[aJ,dO,bB q]
 have m1:(aJ I).set (eh J0 l) #[cf,#[js]+1]=aJ (I.set (eh J0 l) (#[js]+1)):=by simp[aJ,tf]
 have M0:#[dc,Jb.drop 1,E::u0::C0::#[B,l]::R::J::l0::k0::O::c0::H::r0::T::U::u::P::g::#[ib]::i0::b0::Q::#[cL]::#[V,24]::Y,[X,h0,f0,m0,o0,p0,q0,s0,t0,v0,n0,x0,y0,A0,E0,F0,N0,O0,L0,G0,H0,I0,#[az,I],#[d4],#[aq,J0.map #[cs]]],#[fw,v=E::u0::C0::#[B,l]::R::J::l0::k0::O::c0::H::r0::T::U::u::P::g::#[ib]::i0::b0::Q::#[cL]::#[V,24]::Y,∃w0,s=#[mE]]]:=by
  refine aj.Fc (B:=B) (w:=w) (n:=n) (S:=bE) (j:=22) (k:=eh J0 l) (X:=aJ I) (r:=#[ad,#[js]+1]) (x:=#[ad,#[js]]) (v:=#[ad,1]) #[aD,21] (o0:=[X,h0,f0,m0,o0,p0,q0,s0,t0,v0,n0,x0,y0,A0,E0,F0,N0,O0,L0,G0,H0,I0,#[az,I],#[ed],#[aq,J0.map #[cs]],#[bg,((aW (l-1)).filter λk=>#[ax,#[i5]<J0.getD k 0]).map,λk=>#[dA,2^k]]]) ?_ rfl f1 k1 Ev.mI St.vm.up rfl #[aZ] (λ_ _ _=>rfl) rfl ?_;.run_tac au.aI
  .rw[m1];exact aj.nil ⟨rfl,rfl,[_,_,_],rfl⟩
 refine aj.forget ?_;refine aj.mono (h0:=λo v s=>#[d6,v=E::u0::C0::#[B,l]::R::J::l0::k0::O::c0::H::r0::T::U::u::P::g::#[ib]::i0::b0::Q::#[cL]::#[V,24]::Y,∃w0,s=#[mE]]) ?_ λo v s h=>?_
 .refine Mine.W.set (B:=B) (w:=w) (n:=n) (S:=bE) (v:=.ob 24) (x0:=E::#[hm,u0,C0,#[B,l],k0,H,r0::T::U::u::P::g::#[ib]::i0::b0::Q::#[cL]::#[V,24]::Y]) 22 ?_ rfl (.inr #[aJ,by decide+kernel]) #[aZ] (BX #[C]) rfl M0;run_tac au.aI
  exact Z0.symm
 .obtain⟨rfl,rfl,w0,rfl⟩:=h;refine⟨_,#[cX],rfl,rfl,w0,rfl⟩;by_cases m:i=22;.subst m;cases e
  .have:∀(a b:#[o])(z:#[bh]),a.length=22->i≠22->#[f3,(a++ab::b)]->#[f3,(a++z::b)]:=λa b z d m e=>by
    rcases gd i 22 with h|h;.rw[#[G,cG]]at e⊢;exact e
    .rw[#[G,dZ]]at e⊢;obtain⟨j,L⟩:=Nat.exists_eq_add_of_lt (Nat.lt_of_le_of_ne h (ku m));rw[d,show i-22=j+1 by omega]at e⊢;exact e
   exact this [E,u0,C0,#[B,l],R,J,l0,k0,O,c0,H,r0,T,U,u,P,g,#[ib],i0,b0,Q,#[cL]] Y (aa (.ob 24)) rfl m e
end
def hQ(L:#[j])(C:Nat->#[j])(k:Nat):#[j]:=(aW k).foldl (λc m=>c.set #[lV,(C m)] (c.getD #[lV,(C m)] 0+1)) (cL (2^(L.length-1)) 0)
theorem zC(L:#[g])(C:Nat->#[g])(k:Nat):hQ L C #[u]=(hQ L C k).set #[lV,(C k)] ((hQ L C k).getD #[lV,(C k)] 0+1):=by unfold hQ;rw[MZ,mn];rfl
theorem zB(L:#[g])(C:Nat->#[g]):∀k,#[bb,(hQ L C k),2^(L.length-1)]|0=>List.length_replicate|k+1=>by rw[zC,tb,zB L _ k]
section
variable{B:Bs}{w:aD}{n:Nat}{d0 g0 r0:#[n]}
theorem Ts(F:#[w])(G:#[W])(y:17<=n){M:#[ac]}{L:#[j]}(Q0:1<=L.length)(p:#[gz]){C:Nat->#[j]}{N:Nat}(i0:N<=16)(L0:∀m,m<N->#[t,C,m]<=15/\C m≠[]/\(#[ij,C m])/\#[t,(C m).filter,#[gN]]=L.length/\eh ((C m).filter #[gN]) L.length<2^(L.length-1)){X h0 f0 m0 o0 p0 q0 s0 t0 v0 j0 n0 x0 y0 A0 E0 I0 J0 G0 F0:Ob}(R0:#[ci,[X,h0,f0,m0,o0,p0,q0,s0,t0,v0,j0,n0,x0,y0,A0,E0,I0,J0,G0,F0]]){E u0 C0 R J l0 k0 O c0 H r0 T U u P g j b0 Q M0 S:#[bh]}{Y:#[o]}:#[ea,24,2,E::u0::C0::#[ic]::R::J::l0::k0::O::c0::H::r0::T::U::u::P::g::j::#[dr]::b0::Q::M0::S::Y,[X,h0,f0,m0,o0,p0,q0,s0,t0,v0,j0,n0,x0,y0,A0,E0,I0,J0,G0,F0,#[aq,(aW N).map #[hq]]],∃a b,v=E::u0::C0::#[ic]::R::J::l0::k0::O::c0::H::#[nT,a,b],#[kT,N]]:=by
 have H0:#[bb,(ah ((aW N).map #[hq])),N]:=by simp[ah]
 have N0:#[lO,L.length,L.length-1]:=St.iO Q0;have U0:#[ha,.Pow,#[v,2],L.length-1,2^(L.length-1)]:=mb 2 _ #[i] #[f];have T0:2^(L.length-1)<=2^4:=eb #[i] #[f];have S0:(cL (2^(L.length-1)) [#[dA,0]]).flatten=aJ (hQ L C 0):=by show _=aJ (cL _ 0);generalize 2^(L.length-1)=q;induction q with|zero=>rfl|succ q A=>rw[qF,MK,A];rfl
 have X0:=md _ 0 (X:=ah ((aW N).map #[hq])) R0;have Y0:=md _ 0 (X:=[#[ad,0]]) X0;refine#[gS,.ob 22,#[kT,0],E::#[hm,u0,C0,#[ic],k0,H,#[nT,j,S]],21,Ev.mH (x:=.ob 21) (y:=#[ad,2^(L.length-1)]) (b0:=#[mb]) (o0:=#[mb]) ?_ ?_ (St.rZ (j:=21) (X:=[#[dA,0]]) rfl (by show 1*_<=2^24;omega) #[f] S0 rfl rfl)];.run_tac au.aI
 .run_tac au.aI
 show#[j3];refine aj.gS (B:=B) (w:=w) (n:=n) (S:=bE) (i:=17) (X:=ah ((aW N).map #[hq])) (C:=λs=>#[aX,s,20,ah ((aW N).map #[hq])]) (b0:=#[kT,0]) (c:=λk v s=>(∃a b,v=E::u0::C0::#[ic]::R::J::l0::k0::O::c0::H::#[nT,a,b])/\s=#[kT,k]) (cg.list (i:=20) #[aD,18] rfl) rfl #[a0] #[bC,#[au,j,S]] ?_ ?_ ?_ ?_;.rintro k v s⟨⟨a,b,rfl⟩,rfl⟩;exact#[aJ,by simp]
 .rintro m x v s c⟨⟨a,b,rfl⟩,rfl⟩O0 _;have r:m<N:=by have:=#[U,c];rwa[H0]at this
  obtain rfl:x=.str (aS M (C m)):=by
   have:(ah ((aW N).map #[hq]))[m]?=aa (.str (aS M (C m))):=by simp[ah,r]
   rw[this]at c;exact(hk c).symm
  obtain⟨d,a0,l,I,Z⟩:=L0 m r;have f:=zB L C m;refine#[j6,TA F G y d a0 l rfl I Q0 p f (by rw[f];exact Z) Y0 (E:=E) (u0:=u0) (C0:=C0) (R:=R) (J:=J) (l0:=l0) (k0:=k0) (O:=O) (c0:=c0) (H:=H) (r0:=r0) (T:=T) (U:=U) (u:=u) (P:=P) (g:=g) (i0:=#[dr]) (b0:=b0) (Q:=Q) (S:=b) (Y:=Y)];obtain⟨rfl,rfl,w0,rfl⟩:=h;rw[<-zC];refine .inr #[ds,23,aO _,uG (A:=#[mb]) (g:=[#[az,hQ L C m]]) (l:=[#[az,hQ L C (m+1)]]) (v0:=[]) (w0:=w0) O0 #[aZ] rfl (λe0 h=>?_) (#[cX]),#[M,_]];.rw[aY.mp h];intro x c;obtain⟨z,_,rfl⟩:=bI.mp c;trivial
  .match i,e with|0,e=>exact#[J]|1,e=>exact#[J]|2,e=>exact#[J]|3,e=>exact#[J]|4,e=>exact#[J]|5,e=>exact#[J]|6,e=>exact#[J]|7,e=>exact#[J]|8,e=>exact#[J]|9,e=>exact#[J]|10,e=>exact#[J]|11,e=>exact#[J]|12,e=>exact#[J]|13,e=>exact#[J]|14,e=>exact#[J]|15,e=>exact#[J]|16,e=>exact#[J]|17,e=>exact#[he]|18,e=>exact#[J]|19,e=>exact#[J]|20,e=>exact#[J]|21,e=>exact#[J]|22,e=>cases e|i+23,e=>exact#[J]
 .rintro v s⟨⟨a,b,rfl⟩,rfl⟩;refine#[dF,#[bL,rfl,#[au,a,b]]];rw[H0]
 .exact#[df]
end
section
variable{B:Bs}{S:Gm}{J:aN}{O:#[s]}{U x0:#[o]}{H C:#[l]}{h:bk}{w:aD}{n:Nat}{l:#[y]}{h0:#[ay]}
theorem aF.pick{x:Ob}{X:#[D]}(R:#[dg,O,C++[x,.list X],h])(z:∀y∈X,bR y=ae)(n:S.fz<=C.length)(u:#[gO,C,fl C.length e0])(T:∀(i:Nat)(y:V),#[bc,x0,aa,y]->(#[bc,U,aa,y]/\bD C.length y)\/(y=.ob C.length/\#[bc,U,aa,.ob (C.length+1)])):∃a,O[C.length+1]?=aa a/\aF B S J (O.take C.length++[a]) x0 (C++[.list X]) h:=by
 have d:O.length=C.length+2:=by rw[R.len,aV];rfl
 have t:C.length+1<O.length:=by omega
 have I:O[C.length+1]?=aa O[C.length+1]:=bB t;have L:#[t,O.take,C.length]=C.length:=#[R];refine#[as,I,?_];have M:#[n2].Sublist O:=by have:=Zb (Zc (O.take C.length)) (List.singleton_sublist.mpr (show O[C.length+1]∈O.drop C.length from bC (i:=1) (by rw[iv];exact I)));rwa[hF]at this
 have b0:∀{v:af}{y c0:V},#[bn,c0]->(y=c0/\bD C.length y)\/(y=.ob C.length/\c0=.ob (C.length+1))->VR #[n2] v y:=λ{v y c0}r e=>by
  rcases e with⟨rfl,b⟩|⟨rfl,rfl⟩;.exact(r.take b).pre (eB _ _)
  .obtain⟨a,F,rfl⟩:=r;refine#[au,a,?_];rw[I]at F;rw[#[G,dZ],L,ks,<-F];rfl
 have Z:#[gU,#[I,#[n2],a],(C++[.list X]),(i<C.length/\#[da]/\#[cD,(C++[x,.list X])]/\#[cD,C])\/(O[C.length+1]?=aa a/\e0=.list X)]:=λi a e0 F l=>by
  rcases gd i C.length with P|P;.rw[#[G,cG],es P]at F;rw[cG P]at l;exact#[dI,P,F,by rw[cG P];exact l,l]
  .obtain rfl:i=C.length:=by have:=#[U,l];rw[aV]at this;simp at this;omega
   rw[#[G,dZ],L,ks]at F;rw[dZ (aO _),ks]at l;exact .inr ⟨by rw[I];exact F,(hk l).symm⟩
 refine#[mw,by rw[aV,L,aV];rfl,by rw[aV,L];exact eI n,M.nodup R.nodup,λa I=>R.high a (M.subset I),λI=>R.dT (M.subset I)]
 .obtain⟨m,g,w⟩:=R.ns;refine⟨m,g,λi y e=>?_⟩;have d0:=T i y e
  have:∃c0,#[bc,U,aa,c0]/\((y=c0/\bD C.length y)\/(y=.ob C.length/\c0=.ob (C.length+1))):=by
   rcases d0 with⟨N,a0⟩|⟨rfl,a0⟩;.exact⟨y,N,.inl #[aJ,a0]⟩
   .exact#[as,a0,.inr #[bS]]
  obtain⟨c0,N,a0⟩:=this;obtain⟨l0,Q,s,H⟩:=w i c0 N;refine#[bM,l0,Q,s];rcases H with⟨q,v,F,r⟩|⟨q,c,v,F,l,r⟩;.exact#[dI,q,v,F,b0 r a0]
  .exact .inr ⟨q,c,v,F,l,b0 r a0⟩
 .intro i a e0 F l;rcases Z i a e0 F l with⟨P,s,H,A⟩|⟨s,rfl⟩;.obtain⟨o,N,a0⟩:=R.store i a e0 s H;exact#[aS,N,(a0.take (u i e0 A)).pre (eB _ _)]
  .obtain⟨o,N,Y,k,rfl,G⟩:=R.store _ a #[cr,X] s (by rw[dZ (du _)];simp);exact⟨_,N,Y,k,rfl,(G.qn (j:=0) λy f=>pP (z y f)).mono λ_ _ r=>r.pre (CN)⟩
 .intro i a e0 F l;rcases Z i a e0 F l with⟨P,s,H,A⟩|⟨s,rfl⟩;.exact R.code i a e0 s H
  .trivial
 .intro p j;obtain⟨N,a0,G,E⟩:=R.cp p j;exact⟨λI=>N (M.subset I),a0,G,E⟩
theorem aj.pick(p:H.length<=C.length)(e:S.fz<=C.length)(h:ir U H->#[cE,l,U,H,λo v s=>o=.next/\(h0 o v s\/∃x X m,s=C++[x,.list X]/\(∀y∈X,bR y=ae)/\((#[gO,C,fl C.length e0])/\∀(i:Nat)(y:V),#[bc,m,aa,y]->(#[bc,v,aa,y]/\bD C.length y)\/(y=.ob C.length/\#[bc,v,aa,.ob (C.length+1)]))/\h0 o m (C++[.list X]))]):#[hs,l]:=λA J O s Q E g M q=>h M.below A J O s Q E g M λo v k0 f L j c P r=>by
 obtain⟨rfl,k|⟨x,X,m,rfl,z,Z,k⟩⟩:=c;.exact q .next v k0 f L j k P r
 .obtain⟨u,T⟩:=Z;obtain⟨a,I,t⟩:=P.rel.pick z e u T;refine q .next m _ f L _ k ⟨?_,λb Z=>?_,t,P.fx⟩ r
  .have d:=P.pre;have F:O.length<=C.length:=by rw[M.len];exact p
   refine Za ?_ (eB _ _);rw[List.prefix_take_iff];exact⟨d,F⟩
  .refine P.new b ?_;rw[lp (by rw[bH,P.rel.len,aV];omega)]at Z;rcases cK.mp Z with Z|Z;.rw[xh]at Z;exact eA Z
   .rw[aY.mp Z];refine bC (i:=C.length+1-S.fz) ?_;rw[iv,#[G,Nm]];exact I
end
noncomputable def UN:#[y]:=match ee.drop 29 with|.For _ _ b _ _::_=>b|_=>[]
def bU(c:Int)(l:Nat):Nat:=1+((c/#[v,12^l])%#[v,700]).toNat
theorem Ma(c:Int)(l:Nat):1<=bU c l/\bU c l<=700:=by unfold bU;omega
def dW(A:Nat)(f:#[j])(k:Nat):Nat:=(2^A)^2^(k-1)+#[aa,f.getD (#[dX]+1) 0==40,(2^A)^2^k,1]
section
variable{B:Bs}{w:aD}{n:Nat}{d0 g0 r0:#[n]}
theorem QW(A:Nat):bN (2^A:Nat)<=A+1:=gV (xH #[i] (hG _))
theorem JS{A e:Nat}(N:A<=700)(a0:e<=16):#[bY,bL,.Pow,(2^A:Nat),e,#[eM,(2^A)^e]]:=St.vR (by have G:=QW A;have E:=mw #[f] a0;omega)
theorem Tw(F:#[w])(G:#[W])(U:17<=n){M:#[ac]}{f:#[j]}(E0:f.length<=15){A k:Nat}(e:A<=700)(C0:1<=k)(O0:k<=4)(T:k<#[t,bF,f])(w0:#[t,bF,f]<=5)(y0:#[dX]+1<f.length){j0:#[j]}(m:j0.length<=4){X h0 f0 m0 o0 p0 q0 s0 t0 v0 r a d q c b l C N L n0:Ob}{E u0 e0 R J l0 k0 O c0 H r0 u P g j i0 b0 Q h S G0:#[bh]}{Y:#[o]}:#[dc,UN,#[iT,#[B,k],H::r0::#[cJ]::#[bV]::u::P::g::j::i0::b0::Q::h::S::G0::#[B,2^A]::#[cn]::Y],[X,h0,f0,m0,o0,p0,q0,s0,t0,v0,r,a,d,q,c,b,#[ed],#[kz],l,C,N,L,n0,#[az,j0]],#[fw,v=#[iT,#[B,k],H::r0::#[cJ]::#[bV]::u::P::g::j::i0::b0::Q::h::S::G0::#[B,2^A]::#[cn]::Y],s=[X,h0,f0,m0,o0,p0,q0,s0,t0,v0,r,a,d,q,c,b,#[d4],#[kz],l,C,N,L,n0,#[az,j0++[dW A f k]]]]]:=by
 have i:#[cI,#[hZ]]:=by simp only[ah,aQ];exact#[bD,E0]
 have I0:#[bd,(bF f).map,#[a1]]:=by rw[aQ];exact#[bD,w0]
 have F0:br ((bF f).map #[a1]) #[bW]=#[B,#[dX]]:=by unfold br;rw[hU (#[R])];simp[dO,bB T]
 have x0:∀p,p<f.length->#[fO,#[hZ],p,ax (aA M) (f.getD p 0)]:=λp y=>by rw[wA _ (by rw[aQ];exact y)];simp[dO,bB y]
 have L0:=x0 _ y0;clear x0;have a0:#[bY,bL,.Sub,#[bW],#[a5],#[cf,k-1]]:=St.iO C0;have H0:=#[hw,2,k-1];have Q0:=#[hw,2,k];have M0:2^(k-1)<=2^4:=eb #[i] #[f];have N0:2^k<=2^4:=eb #[i] #[f];have z:=JS (w:=w) (n:=n) e (e:=2^(k-1)) M0;have I:=JS (w:=w) (n:=n) e (e:=2^k) N0;have t:#[t,aJ,j0]<=100:=by simp only[aJ,aQ];omega
 have S0:#[bd,aJ,j0]:=#[bD,t];have R0:#[t,aJ,j0]<2^62:=jR t #[i];have J0:∀x:Nat,aJ j0++[#[ad,x]]=aJ (j0++[x]):=λx=>by simp[aJ]
 have A0:=Bg (kk M) (f.getD (#[dX]+1) 0);unfold dW;rw[<-A0,<-J0];clear A0 J0
 cases Z:(ax (aA M) (f.getD (#[dX]+1) 0)==[40])with
 |true=>
  rw[#[cB]];run_tac au.aI
  exact#[b9]
 |false=>
  rw[#[c1]];run_tac au.aI
  exact#[b9]
end
section
variable{B:Bs}{w:aD}{n:Nat}{d0 g0 r0:#[n]}
theorem Tz(F:#[w])(G:#[W])(e0:17<=n){M:#[ac]}{f u:#[j]}(d1:f.length<=15){l:Nat}(h1:l<=5)(Z0:#[t,bF,f]=l)(Q0:u.length<=4)(S0:∀k∈u,1<=k/\k<l/\#[dX]+1<f.length){a b c d:Int}{X f0 m0 o0 p0 q0 s0 t0 v0 x0 A0 F0 H0 I0 J0 L0 N0 O0 Y0:Ob}{E C0 R J l0 k0 O c0 H r0 P g j i0 b0 Q T0 S f1 L i1:#[bh]}{Y:#[o]}:#[ea,26,5,E::#[ag]::C0::#[B,l]::R::J::l0::k0::O::c0::H::r0::#[cJ]::#[bV]::#[cp]::P::g::j::i0::b0::Q::T0::S::f1::L::i1::Y,#[jx,#[ed]],∃u0,v=E::#[ag]::u0::#[B,l]::R::J::l0::k0::O::c0::H::r0::#[cJ]::#[bV]::#[cp]::P::g::j::i0::b0::Q::T0::S::#[gK]::#[fK]::#[cn]::Y,#[fa,#[d4],#[az,#[aa,d%#[v,2]=1,#[fD].reverse,#[fD]]]]]:=by
 have M0:=Ma c l;have j1:12^l<=12^5:=eb #[i] h1;have R0:#[t,u.map,#[a1]]=u.length:=aQ ..;have U0:#[bb,(aJ (u.map (dW (bU c l) f))),u.length]:=by simp[aJ]
 have X0:#[cI,(aJ (u.map (dW (bU c l) f)))]:=by rw[U0];exact#[bD,Q0]
 have A:#[ea,26,3,E::#[ag]::C0::#[B,l]::R::J::l0::k0::O::c0::H::r0::#[cJ]::#[bV]::#[cp]::P::g::j::i0::b0::Q::T0::S::f1::L::i1::Y,#[jx,#[d4]],v=E::#[ag]::C0::#[B,l]::R::J::l0::k0::O::c0::H::r0::#[cJ]::#[bV]::#[md,#[fK],#[cn]],#[fa,#[ed],#[d2]]]:=by
  have G0:=#[hw,12,l];have E0:=#[hw,2,bU c l];have c1:=#[lc,c,12^l,xI #[i]];have y0:=mU (w:=w) (n:=n) (c/#[v,12^l]) (b:=700) #[f];have j0:#[ha,.Add,#[a5],((c/#[v,12^l])%#[v,700]).toNat,bU c l]:=St.rt;refine#[gS,#[ad,bU c l],#[jx,#[d4]],E::#[ag]::C0::#[B,l]::R::J::l0::k0::O::c0::H::r0::#[cJ]::#[bV]::#[md,L,i1],23,?_];.run_tac au.aI
  refine#[gS,#[ad,2^bU c l],#[jx,#[d4]],E::#[ag]::C0::#[B,l]::R::J::l0::k0::O::c0::H::r0::#[cJ]::#[bV]::#[cp]::P::g::j::i0::b0::Q::T0::S::#[gK]::#[fK]::i1::Y,24,?_];.run_tac au.aI
  refine#[gS,.ob 23,#[fa,#[ed],#[d2]],E::#[hm,#[ag],C0,#[B,l],k0,H,r0::#[cJ]::#[bV]::#[cp]::P::g::j::i0::b0::Q::T0::S::#[gK]::#[fK]::#[cn]::Y],25,?_];.run_tac au.aI
  exact aj.nil #[b9]
 have C:#[ea,29,1,E::#[ag]::C0::#[B,l]::R::J::l0::k0::O::c0::H::r0::#[cJ]::#[bV]::#[md,#[fK],#[cn]],#[fa,#[ed],#[d2]],∃u0,v=E::#[ag]::u0::#[B,l]::R::J::l0::k0::O::c0::H::r0::#[cJ]::#[bV]::#[cp]::P::g::j::i0::b0::Q::T0::S::#[gK]::#[fK]::#[cn]::Y,#[fa,#[d4],#[az,#[fD]]]]:=by
  show#[j3];refine#[jU,2,u.map #[a1],λs=>#[aX,s,18,u.map #[a1]],#[fa,#[d4],#[d2]],m<=u.length/\(∃u0,v=E::#[ag]::u0::#[B,l]::R::J::l0::k0::O::c0::H::r0::#[cJ]::#[bV]::#[cp]::P::g::j::i0::b0::Q::T0::S::#[gK]::#[fK]::#[cn]::Y)/\s=#[fa,#[d4],#[az,(u.take m).map (dW (bU c l) f)]],cg.list (i:=18) #[aD,14] rfl,#[au,aT _,#[bC,C0]]];.rintro k v s⟨_,⟨u0,rfl⟩,rfl⟩;exact#[aJ,by simp]
  .rintro m x v s q⟨Z,⟨u0,rfl⟩,rfl⟩_ _;have a1:m<u.length:=by have:=#[U,q];rwa[R0]at this
   rw[cb,bB a1]at q;obtain rfl:x=V.int #[v,u[m]]:=(hk q).symm;obtain⟨N,a0,I⟩:=S0 _ (jQ a1);refine#[j6,Tw F G e0 d1 M0.2 N #[f] #[f] #[f] I (j0:=(u.take m).map (dW (bU c l) f)) (by rw[aQ,bH];omega)];obtain⟨rfl,rfl,rfl⟩:=h;refine .inl #[bL,a1,#[aU]];rw[lx a1,gJ];rfl
  .rintro v s⟨_,⟨u0,rfl⟩,rfl⟩;refine#[dF,#[bL,rfl,#[bC,u0]]];rw[R0,gL]
  .exact#[df]
 refine aj.pick (C:=#[jx,#[ed]]) #[aO] #[aZ] λb1=>?_;refine aj.vM (dY.app (N:=0) A (λv s h=>?_) λo v s r h=>#[dl,r]);obtain⟨_,rfl,rfl⟩:=h;refine dY.app (N:=0) C (λv s h=>?_) λo v s r h=>#[dl,r];obtain⟨_,⟨u0,rfl⟩,rfl⟩:=h;refine dY.of ?_;have Z:=mU (w:=w) (n:=n) d (b:=2) #[f];have e1:=Cq d (show#[v,2]≠0 by omega);have g1:=wY d (show(0:Int)<#[v,2]by omega);have w0:∀t:Bool,((d%#[v,2]).toNat==1)=t->Et B w n bE (match ee.drop 30 with|.If e _ _ _::_=>e|_=>#[mF]) (E::#[hm,#[ag],u0,#[B,l],k0,H,r0::#[cJ]::#[bV]::#[cp]::P::g::j::i0::b0::Q::T0::S::#[gK]::#[fK]::#[cn]::Y]) #[fa,#[ed],#[az,#[fD]]] t #[fa,#[ed],#[az,#[fD]]]:=λt n0=>by subst n0;run_tac au.aI
 show#[j3];by_cases h0:d%#[v,2]=1
 .refine#[mn,ae,w0 ae (by rw[h0];rfl)];rw[#[cB]];refine#[gS,.ob 24,[X,#[dz],f0,m0,o0,p0,q0,s0,t0,v0,x0,A0,F0,H0,I0,J0,#[d4],#[kz],#[gR],L0,N0,O0,Y0,#[az,#[fD]],#[az,#[fD].reverse]],E::#[ag]::u0::#[B,l]::R::J::l0::k0::O::c0::H::r0::#[cJ]::#[bV]::#[cp]::P::g::j::i0::b0::Q::T0::S::#[gK]::#[fK]::#[V,24]::Y,25,Ev.KZ (k:=23) (b0:=#[fa,#[d4],#[az,#[fD]]]) (o0:=#[fa,#[ed],#[az,#[fD]]]) #[aD,25] ?_ rfl X0 (Jq _) rfl rfl];.run_tac au.aI
  refine#[dF,#[aJ,.inr ⟨_,aJ #[fD].reverse,E::#[ag]::ab::#[B,l]::R::J::l0::k0::O::c0::H::r0::#[cJ]::#[bV]::#[cp]::P::g::j::i0::b0::Q::T0::S::#[gK]::#[fK]::#[cn]::Y,rfl,λy U=>?_,⟨b1.2,λi y e=>?_⟩,rfl,#[bC,ab],?_⟩]];.obtain⟨z,_,rfl⟩:=bI.mp U;rfl
  .have T:=b1.1;match i,e with|2,e=>cases e|23,e=>cases e;exact .inl #[aJ,trivial]|24,e=>cases e;exact .inl #[aJ,trivial]|25,e=>cases e;exact .inr #[bS]|0,e=>exact#[ca,0]|1,e=>exact#[ca,1]|3,e=>exact#[ca,3]|4,e=>exact#[ca,4]|5,e=>exact#[ca,5]|6,e=>exact#[ca,6]|7,e=>exact#[ca,7]|8,e=>exact#[ca,8]|9,e=>exact#[ca,9]|10,e=>exact#[ca,10]|11,e=>exact#[ca,11]|12,e=>exact#[ca,12]|13,e=>exact#[ca,13]|14,e=>exact#[ca,14]|15,e=>exact#[ca,15]|16,e=>exact#[ca,16]|17,e=>exact#[ca,17]|18,e=>exact#[ca,18]|19,e=>exact#[ca,19]|20,e=>exact#[ca,20]|21,e=>exact#[ca,21]|22,e=>exact#[ca,22]|i+26,e=>exact#[ca,i+26]
  .rw[if_pos h0];rfl
 .refine#[mn,ai,w0 ai ?_];.rw[beq_eq_false_iff_ne];omega
  rw[#[c1]];refine#[dF,#[aJ,.inl #[bL,rfl,#[bC,u0]]]];rw[if_neg h0]
end
theorem LG(f:#[ac])(h:∀k,f k<=2^k):∀m,((aW m).map f).foldl (·+·) 0<2^m|0=>Nz|m+1=>by have Q:=LG f h m;have:=h m;rw[MZ,gJ,mn];show((aW m).map f).foldl _ 0+f m<_;omega
theorem UT(o:#[g])(n:Nat):eh o n<2^(n-1):=LG _ (λk=>by
 split;.exact aO _
 .exact aT _) _
theorem Hu{O:Type}(f:O->#[j]->O):∀(q:#[g])(a:O),q.foldl f a=(aW q.length).foldl (λc m=>f c (q.getD m [])) a|[],_=>rfl|x::q,a=>by rw[cc,Na,dN,dN,ML,Hu f q];rfl
theorem zD(l S:#[g]):oc l S=hQ l (λm=>#[i2,(bb (bf l.length S)).getD m []]) #[t,bb,bf l.length S]:=by unfold oc hQ;rw[Hu]
theorem Wf(A:Nat)(l S:#[g]):cW A (mX l S)=bz ((bf l.length S).map (dW A S)):=by
 have o:∀(r c:#[g]),cW A (r.foldl (λc k=>vH c (2^(k-1)) #[aa,#[n7]==40,2^k,0]) c)=cW _ c*bz (r.map (dW _ S)):=λr=>by induction r with
 |nil=>intro c;exact(tj _).symm
 |cons k r Q=>
  intro c;rw[dN,Q,UJ,nG];congr 1;congr 1;congr 1;split;.rfl
  .exact NC _
 unfold mX;rw[o];show(0*2^A+1)*_=_;omega
theorem Hj(X:1<=A)(f:#[g])(C:1<=k):2^A<=dW A f k/\3<=dW A f k/\dW A f k<=2*(2^A)^jc f k:=by
 have g:=by have:2^1<=2^A:=eb #[i] X;exact this
 have N:=by have:(2^A)^1<=(2^A)^2^(k-1):=eb #[f] xG;rwa[Nat.pow_one]at this
 have a0:(2^A)^2^(k-1)<=(2^A)^2^k:=eb #[f] (eb #[i] #[f]);unfold dW jc;split<;>omega
theorem JW(X:1<=A)(f:#[g]):∀r:#[g],(∀k∈r,1<=k)->bz (r.map (dW A f))<=2^(r.length+A*(r.map (jc f)).foldr (·+·) 0)|[],_=>xG|k::r,h=>by show dW _ f k*bz (r.map _)<=2^(r.length+1+A*(jc f k+(r.map _).foldr _ 0));refine aH (mw ((Hj X f (h k #[bJ])).2.2) (JW X f r #[gj])) ?_;rw[<-NB,hI 2,nG,<-Dh,<-jS];refine eb #[i] ?_;rw[Dc];omega
theorem Wg(h:∀f∈l,1<=f)(k m:Nat):bz ((l.drop k).take m)<=bz l:=by
 have F:bz l=bz (l.take k)*(bz ((l.drop k).take m)*bz ((l.drop k).drop m)):=by rw[<-sj,hF,<-sj,hF]
 rw[F];exact aH (Nv _ (vS _ λf t=>h f (eU (eU t)))) (Nu _ (vS _ λf t=>h f (eA t)))
noncomputable def vF:#[y]:=match ee.drop 32 with|.For _ _ b _ _::_=>b|_=>[]
theorem Sx:#[gd,l.foldl (·*·) a=a*bz l]|[],a=>(tj a).symm|x::l,a=>by rw[dN,Sx l];exact nG _ _ _
section
variable{B:Bs}{w:aD}{n:Nat}{d0 g0 r0:#[n]}
theorem Tt(F:#[w])(G:#[W])(N:34<=n){a b c d:Int}{I j0:#[j]}(T0:j0.length<=4){k:Nat}(C:k<j0.length){r:Nat}(Z:cU d 3 k=r)(g1:∀m,m<=j0.length->bz ((j0.drop #[u]).take m)<2^40000)(X0:∀f∈j0,f<2^40000)(h1:∀f∈j0,3<=f)(j1:#[gg,239,#[cv,#[v,#[e2]+#[jA]]],j0.getD k 0,.tup [#[ad,#[dZ]],#[ad,#[jA]]]]){X f0 m0 o0 p0 q0 s0 t0 v0 x0 A0 C0 E0 F0 H0 O0 Q0 M0 I0 J0 L0:Ob}{E e0 R J l0 k0 O c0 H r0 T U u P g j i0 b0 Q S L A p l i:#[bh]}{Y:#[o]}:#[dc,vF,E::#[ag]::#[B,k]::e0::R::J::l0::k0::O::c0::H::r0::T::U::u::P::g::j::i0::b0::Q::#[cL]::S::A::L::#[cn]::#[B,#[e2]]::p::l::i::Y,[X,#[dz],f0,m0,o0,p0,q0,s0,t0,v0,x0,A0,C0,E0,F0,H0,O0,Q0,M0,I0,J0,L0,#[az,I],#[az,j0]],#[fw,∃R0,(∀y,R0=aa y->i=aa y\/bR y=ae)/\v=E::#[ag]::#[B,k]::e0::R::J::l0::k0::O::c0::H::r0::T::U::u::P::g::j::i0::b0::Q::#[cL]::S::A::L::#[cn]::#[B,#[dZ]]::#[B,#[jA]]::#[B,#[dZ]]::R0::Y,∃w0,s=[X,#[dz],f0,m0,o0,p0,q0,s0,t0,v0,x0,A0,C0,E0,F0,H0,O0,Q0,M0,I0,J0,L0,#[az,I],#[az,j0]]++[]++([]++w0)]]:=by
 generalize a0:j0.getD k 0=f at*;have i1:j0[k]=f:=by rw[<-a0,dO,bB C];rfl
 have e1:f∈j0:=by rw[<-i1];exact jQ C
 have l1:r<3:=by rw[<-Z];exact vb d #[i] k
 have o1:3^k<=3^4:=eb #[i] #[f];have G0:=#[hw,3,k];have a1:=#[lc,d,3^k,xI #[i]];have y0:#[ha,.Mod,d/#[v,3^k],3,r]:=by rw[<-Z];exact mU _ #[f]
 have Y0:#[lO,f,f-1]:=St.iO (aH #[i] (h1 f e1));have S0:br (aJ j0) #[bW]=#[B,f]:=by unfold br;rw[hU (by simpa[aJ]using C)];simp[aJ,bB C,i1]
 have f1:br [#[dA,0],#[ad,1],#[ad,f-1]] #[v,r]=#[B,fJ f r]:=by rcases(show r=0\/r=1\/r=2 by omega)with rfl|rfl|rfl<;>rfl
 have U0:#[bd,aJ,j0]:=by simp only[aJ,aQ];exact#[bD,T0]
 have d1:cF (aJ j0) (aa #[v,k+1]) ab=aJ (j0.drop #[u]):=by rw[oG];simp[aJ,td]
 have N0:#[bb,(aJ (j0.drop #[u])),#[t,j0.drop,#[u]]]:=by simp[aJ]
 have b1:#[t,j0.drop,#[u]]<=j0.length:=by rw[cR];omega
 have m1:∀x:V,D.tup [#[ad,#[dZ]],#[ad,fJ f r]]=D.atom x->bR x=ae:=λx e=>by cases e
 refine#[gS,#[ad,fJ f r],[X,#[dz],f0,m0,o0,p0,q0,s0,t0,v0,x0,A0,C0,E0,F0,H0,O0,Q0,M0,I0,J0,L0,#[az,I],#[az,j0],#[kv]],E::#[hm,#[ag],#[B,k],e0,k0,H,r0::T::U::u::P::g::j::i0::b0::Q::#[cL]::S::A::L::#[cn]::#[B,#[e2]]::#[B,fJ f r]::l::i::Y],27,?_];.run_tac au.aI
 refine#[gS,#[ad,1],[X,#[dz],f0,m0,o0,p0,q0,s0,t0,v0,x0,A0,C0,E0,F0,H0,O0,Q0,M0,I0,J0,L0,#[az,I],#[az,j0],#[kv]],E::#[ag]::#[B,k]::e0::R::J::l0::k0::O::c0::H::r0::T::U::u::P::g::j::i0::b0::Q::#[cL]::S::A::L::#[cn]::#[B,#[e2]]::#[B,fJ f r]::#[B,1]::i::Y,28,?_];.run_tac au.aI
 refine#[jU,29,aJ (j0.drop #[u]),λs=>#[aX,s,25,aJ (j0.drop #[u])],#[ma],m<=#[t,j0.drop,#[u]]/\(∃R0,(∀y,R0=aa y->i=aa y\/bR y=ae)/\v=E::#[ag]::#[B,k]::e0::R::J::l0::k0::O::c0::H::r0::T::U::u::P::g::j::i0::b0::Q::#[cL]::S::A::L::#[cn]::#[B,#[e2]]::#[B,fJ f r]::#[B,bz ((j0.drop #[u]).take m)]::R0::Y)/\s=#[ma],cg.list (i:=25) ?_ rfl,#[au,aT _,#[M,λy h=>.inl h]]];.run_tac au.aI
 .rintro m v s⟨_,⟨R0,_,rfl⟩,rfl⟩;exact#[aJ,by simp]
 .rintro m x v s q⟨M,⟨R0,c1,rfl⟩,rfl⟩_ _;have Z0:m<#[t,j0.drop,#[u]]:=by have:=#[U,q];rwa[N0]at this
  obtain⟨z,h0⟩:∃z,(j0.drop #[u])[m]=z:=#[aU];have n1:z∈j0:=by rw[<-h0];exact eU (jQ Z0)
  obtain rfl:x=.int #[v,z]:=by unfold aJ at q;rw[cb,bB Z0,h0]at q;exact(hk q).symm
  have k1:#[bY,dR,.Mult,#[v,bz ((j0.drop #[u]).take m)],#[v,z],#[cf,bz ((j0.drop #[u]).take (m+1))]]:=by have h:=St.vo (w:=w) (n:=n) (sb (g1 m #[f]) (X0 z n1) #[i] #[i]);rw[lx Z0,sj,h0,show bz [z]=z from tj z];exact h
  refine Mine.W.rv (B:=B) (w:=w) (n:=n) (S:=bE) (x0:=E::#[ag]::#[B,k]::e0::R::J::l0::k0::O::c0::H::r0::T::U::u::P::g::j::i0::b0::Q::#[cL]::S::A::L::#[cn]::#[B,#[e2]]::#[B,fJ f r]::#[B,bz ((j0.drop #[u]).take (m+1))]::#[B,z]::Y) 28 rfl #[aD,29] k1.up rfl #[a0] #[aZ] rfl ?_;exact aj.nil (.inl #[au,Z0,#[M,λy h=>.inr (by cases h;rfl)]])
 .rintro v s⟨_,⟨R0,c1,rfl⟩,rfl⟩;rw[N0,gL]
  have u0:∀t,t=(E::#[ag]::#[B,k]::e0::R::J::l0::k0::O::c0::H::r0::T::U::u::P::g::j::i0::b0::Q::#[cL]::S::A::L::#[cn]::#[B,#[e2]]::#[B,fJ f r]::#[B,#[dZ]]::R0::Y)->Et B w n bE (match vF.drop 3 with|.If e _ _ _::_=>e|_=>#[mF]) t #[ma] ai [X,#[dz],f0,m0,o0,p0,q0,s0,t0,v0,x0,A0,C0,E0,F0,H0,O0,Q0,M0,I0,J0,L0,#[az,I],#[az,j0],#[kv],#[az,j0.drop #[u]],.tup [#[ad,#[dZ]],#[ad,fJ f r]],.tup [#[ad,#[dZ]],#[ad,fJ f r]]]:=λt n0=>by
   subst n0;refine Et.ht (b0:=[X,#[dz],f0,m0,o0,p0,q0,s0,t0,v0,x0,A0,C0,E0,F0,H0,O0,Q0,M0,I0,J0,L0,#[az,I],#[az,j0],#[kv],#[az,j0.drop #[u]],.tup [#[ad,#[dZ]],#[ad,fJ f r]]]) (x:=.ob 26) (y:=.ob 27) ?_ ?_ (St.Yp (X:=[#[ad,#[dZ]],#[ad,fJ f r]]) rfl rfl rfl) (by rfl);.run_tac au.aI
   .run_tac au.aI
  refine aj.nil ?_;show#[dc,vF.drop 3,_,_,_];refine#[mn,ai,u0 _ rfl];rw[#[c1]];refine aj.nil ?_;show#[dc,vF.drop 4,_,_,_];refine Mine.W.set (B:=B) (w:=w) (n:=n) (S:=bE) (v:=#[ad,#[dZ]]) (x0:=E::#[ag]::#[B,k]::e0::R::J::l0::k0::O::c0::H::r0::T::U::u::P::g::j::i0::b0::Q::#[cL]::S::A::L::#[cn]::#[B,#[dZ]]::#[B,fJ f r]::#[B,#[dZ]]::R0::Y) 26 #[aD,28] rfl #[a0] #[aZ] #[ai] rfl ?_;exact aj.nil ⟨rfl,#[au,R0,c1],[_,_,_,_],rfl⟩
 .exact#[df]
end
section
variable{B:Bs}{w:aD}{n:Nat}{d0 g0 r0:#[n]}
theorem TF(F:#[w])(G:#[W])(N:34<=n){a b c d:Int}{I j0:#[j]}(R0:j0.length<=4){A:Nat}(b1:∀k m,bz ((j0.drop k).take m)<2^40000)(S0:∀f∈j0,f<2^40000)(c1:∀f∈j0,3<=f)(U0:I.length<=16)(f1:#[gg,232,#[az,I],A,.atom (.int #[v,bz j0])])(j1:∀k r,k<j0.length->#[gg,239,#[cv,#[v,#[e2]+#[jA]]],j0.getD k 0,.tup [#[ad,#[dZ]],#[ad,#[jA]]]]){X f0 m0 o0 p0 q0 s0 t0 v0 u0 x0 y0 A0 E0 F0 N0 O0 L0 G0 I0 J0:Ob}{E C0 e0 R J l0 k0 O c0 H r0 T U u P g j i0 b0 Q S L:#[bh]}{Y:#[o]}{h0:#[ay]}(H0:#[nh]):#[dc,ee.drop 31,E::#[ag]::C0::e0::R::J::l0::k0::O::c0::H::r0::T::U::u::P::g::j::i0::b0::Q::#[cL]::S::#[B,A]::L::#[cn]::ab::ab::ab::ab::Y,#[ht],h0]:=by
 have T0:#[jY,.int,#[v,bz j0]]:=#[ks];have h1:∀l:#[j],#[fq,aJ l]:=λl x p=>by obtain⟨z,_,rfl⟩:=bI.mp p;rfl
 have d1:=h1 I;have M0:#[t,(aW j0.length).map,#[cO]]=j0.length:=by rw[aQ,gq]
 have g1:#[t,aJ,j0]=j0.length:=by simp[aJ]
 have i1:∀t,t=(E::#[ag]::C0::e0::R::J::l0::k0::O::c0::H::r0::T::U::u::P::g::j::i0::b0::Q::#[cL]::S::#[B,A]::L::#[cn]::ab::ab::ab::ab::Y)->Ev B w n bE (match ee.drop 31 with|.Assign _ e _::_=>e|_=>#[mF]) t #[ht] #[cf,bz j0] #[ht]:=λt n0=>by subst n0;run_tac au.aI
 refine#[gS,#[ad,bz j0],#[ht],E::#[ag]::C0::e0::R::J::l0::k0::O::c0::H::r0::T::U::u::P::g::j::i0::b0::Q::#[cL]::S::#[B,A]::L::#[cn]::#[B,bz j0]::ab::ab::ab::Y,26,i1 _ rfl];refine#[jU,2,(aW j0.length).map #[cO],λ_=>True,#[ht],(∃a0 e1 a1 Q0,(∀y,Q0=aa y->bR y=ae)/\v=E::#[ag]::a0::e0::R::J::l0::k0::O::c0::H::r0::T::U::u::P::g::j::i0::b0::Q::#[cL]::S::#[B,A]::L::#[cn]::#[B,bz (j0.drop m)]::e1::a1::Q0::Y)/\s=#[ht],?_,#[bC,⟨C0,ab,ab,ab,λ_ h=>(nomatch h),rfl⟩]]
 .have Z:#[bd,aJ,j0]:=by rw[g1];exact#[bD,R0]
  rw[<-g1];run_tac au.aI
  all_goals first|exact jR (aH (eC g1) R0) #[ao,(4:Nat)<2^62]|exact jR R0 #[ao,(4:Nat)<2^62]|rw[g1]
 .rintro k v s⟨⟨a0,e1,a1,Q0,_,rfl⟩,rfl⟩;exact#[gG,by simp]
 .rintro m x v s p⟨⟨a0,e1,a1,Q0,Z0,rfl⟩,rfl⟩X0 _;rw[cb]at p;obtain⟨q,Y0,rfl⟩:=dP.mp p;have M:m<j0.length:=by have:=#[U,Y0];simpa using this
  obtain rfl:q=m:=by rw[qz M]at Y0;exact(hk Y0).symm
  refine#[j6,Tt F G N R0 M (r:=cU d 3 q) rfl (λm _=>b1 (q+1) m) S0 c1 (j1 q _ M) (I:=I) (E:=E) (e0:=e0) (R:=R) (J:=J) (l0:=l0) (k0:=k0) (O:=O) (c0:=c0) (H:=H) (r0:=r0) (T:=T) (U:=U) (u:=u) (P:=P) (g:=g) (j:=j) (i0:=i0) (b0:=b0) (Q:=Q) (S:=S) (L:=L) (A:=#[B,A]) (p:=e1) (l:=a1) (i:=Q0) (Y:=Y)];obtain⟨rfl,⟨l1,k1,rfl⟩,w0,rfl⟩:=h;refine .inr #[ds,24,aO _,uG (A:=#[ht]) (g:=[]) (l:=[]) (v0:=[]) (w0:=w0) X0 #[aZ] rfl #[av] (#[cX]),⟨_,_,_,l1,λy C=>(k1 y C).elim (Z0 y) id,rfl⟩];match i,e with|0,e=>exact#[J]|1,e=>exact#[J]|2,e=>exact#[he]|3,e=>exact#[J]|4,e=>exact#[J]|5,e=>exact#[J]|6,e=>exact#[J]|7,e=>exact#[J]|8,e=>exact#[J]|9,e=>exact#[J]|10,e=>exact#[J]|11,e=>exact#[J]|12,e=>exact#[J]|13,e=>exact#[J]|14,e=>exact#[J]|15,e=>exact#[J]|16,e=>exact#[J]|17,e=>exact#[J]|18,e=>exact#[J]|19,e=>exact#[J]|20,e=>exact#[J]|21,e=>exact#[J]|22,e=>exact#[J]|23,e=>exact#[J]|24,e=>exact#[J]|25,e=>exact#[J]|26,e=>exact#[he]|27,e=>exact#[he]|28,e=>exact#[he]|29,e=>exact .inr ((k1 x (hk e)).elim (Z0 x) id)|i+30,e=>exact#[J]
 .rintro v s⟨⟨a0,e1,a1,Q0,_,rfl⟩,rfl⟩;exact aj.nil (aj.ret Ev.zm (H0 _ _))
 .exact#[df]
end
structure xa(B:Bs)(w:aD)(n:Nat)(d0 g0 r0:#[n]):Prop where
 F:#[w]
 G:#[W]
 Lx:fj B r0
 hn:34<=n
 sp:ba B 314 sv 2 uk
 lo:bX B 309
 UA:∀O:Tx,O.length<=2^20->#[mr,O,O]
 tree:∀(M:#[ac])(L:#[j]),#[gz]->L.Nodup->(#[j7])->Fn B w n 319 [#[fx]] #[cr,ah (#[ar].map #[cx])]
 RN:∀(M:#[ac])(L H:#[j]),#[gz]->L.Nodup->(#[j7])->H.length<=1000->#[nW,H.map,#[jw,H].map]
 Yq:∀(M:#[ac])(f0:#[j])(E:Nat),(#[dD,f0])->1<=E->E<f0.length->f0.length<=30->dV (f0.getD E 0)=ai->Fn B w n 324 [#[aq,#[db,f0.map]],#[cv,(E:Nat)]] #[fh,#[db,(mf f0 E).map]]
 eY:∀a:Tx,a.length<=3000->#[t,dF,a]<=3000->Fn B w n 260 #[g6] (.atom (.bool (eY #[h8] #[bq])))
 strip:∀a:Tx,a.length<=3000->Fn B w n 253 #[g6] (.atom #[cV,dF,a])
 RB:∀(A:Nat)(o:#[j]),A<=8000->(∀d∈o,d<2^8000)->o.length<=30->#[gg,232,#[az,o],A,.atom (.int #[v,cW A o])]
 dm:∀a b:Nat,0<b->bN (b:Int)<=6000->(bN (a:Int)+bN (b:Int)-1)/bN (b:Int)<=30->#[gg,239,#[cv,#[v,a]],b,.tup [#[ad,a/b],#[ad,a%b]]]
theorem Xj:∀{l:#[j]},(∀y∈l,y<=m)->v<=m->x∈l.set k v->x<=m:=λh T z=>by
 obtain N|rfl:=List.mem_or_eq_of_mem_set z;.exact h x N
 .exact T
theorem zA(L:#[g])(C:Nat->#[g]):∀k,∀x∈hQ L C k,x<=k
 |0,x,h=>by rw[List.eq_of_mem_replicate h];exact aO _
 |k+1,x,h=>by
  rw[zC]at h;refine Xj (λy m=>eI (zA L _ k y m)) (Nat.succ_le_succ ?_) h;by_cases P:eh ((C k).filter #[gN]) L.length<(hQ L C k).length;.rw[dO,bB P];exact zA L _ k _ (jQ _)
  .rw[dO,oM (Nat.le_of_not_lt P)];exact aT _
theorem Jc{O:Type}(f:#[j]->O):∀q:#[g],q.map f=(aW q.length).map λm=>f (q.getD m [])|[]=>rfl|x::q=>by rw[cc,Na,dh,dh,gr,Jc f q];rfl
theorem uq:∀(l:#[g])(o d:Int),0<d->cO l o=ae->cO l (o+d)=ai
 |[],o,d,Z,h=>by have:=beq_iff_eq.mp h;show(o+d==0)=ai;rw[beq_eq_false_iff_ne];omega
 |t::r,o,d,Z,h=>by have c0:(#[lN,cO r _,o-#[bi]<(0:Nat),cO r _,cO r o])=ae:=h;show(#[lN,cO r _,o+d-#[bi]<0,cO r _,cO r _])=ai;cases F:t==40 with
 |true=>rw[F]at c0;rw[show o+d+#[bi]=o+#[bi]+d by omega];exact uq r _ d Z c0
 |false=>rw[F]at c0;rw[#[c1]];cases a:t==41 with
 |true=>
  rw[a]at c0;rw[#[cB]];by_cases U:o-#[bi]<(0:Nat);.rw[if_pos U]at c0;cases c0
  .rw[if_neg U]at c0;split;.rfl
   .rw[show o+d-#[bi]=o-#[bi]+d by omega];exact uq r _ d Z c0
 |false=>rw[a]at c0;exact uq r o d Z c0
section
variable{B:Bs}{w:aD}{n:Nat}{S:Gm}{d0 g0 r0:#[n]}{U:#[o]}{H:#[l]}{h0:#[dB]}
theorem aj.cutAt{R:#[g]}(i k:Nat)(A:#[cE,(R.drop i).take k,U,H,d])(p:∀o v s,d o v s->o=.next)(a:∀v s,d .next v s->#[cE,R.drop (i+k),v,s,h0]):#[hs,R.drop i]:=by rw[(by rw[<-jP];exact(hF k _).symm:R.drop i=(R.drop i).take k++R.drop _)];exact aj.vM (dY.app A (λv s h=>dY.of (a v s h)) λo v s N h=>#[aN,p o v s h,N])
theorem TJ(C:xa B w n d0 g0 r0){a b c d:Int}{M:#[ac]}{L:#[j]}(R:#[gz])(Z0:4<=L.length)(j:ro L)(P:yH L){T:Tx}(H0:#[iO])(N0:cx (fW L.length T)=(#[gL],[]))(Z:#[nh]){i u g:#[D]}{F0 I f0 q0 w1 f1 v1 v0:#[bh]}:#[dc,ee.drop 19,[#[bj],#[ag],F0,#[ic],I,#[V,2],#[V,3],#[P,T],f0,q0,#[bX],#[V,14],#[cJ],#[bV],#[cp],w1,f1,v1,#[dr],v0,ab,ab,ab,ab,ab,ab,ab,ab,ab,ab,ab,ab,ab,ab,ab,ab,ab,ab,ab,ab,ab,ab,ab],#[ew,[.list i,#[dz],.list u,#[fx],.list g],(vK T L.length [])]++[#[fx],#[fz,#[ar].map],#[d2],#[aq,#[db,#[ar].map]],#[bg,(bF #[ar]).map,#[a1]],#[bg,#[ba].map,#[a1]],.list (#[ba].map #[a1]).reverse,#[aq,(aW #[f0]).map #[io]]],h0]:=by
 have U:=C.hn;have I0:#[t,bb,#[ba]]=2^#[ba].length:=vT _
 have b0:#[a2,#[ba],4]:=by
  have E:0∉#[ba]:=λh=>#[aN,(j.inner 0 h).1,#[i]];have p0:#[ba].Sublist (aW L.length):=CF
  have F:#[ba].length<L.length\/#[ba]=aW L.length:=by
   rcases gd #[ba].length L.length with h|h;.exact .inl h
   .exact .inr (p0.eq_of_length_le (by rw[gq];exact h))
  rcases F with h|h;.omega
  .exact absurd (by rw[h];exact#[G,eH.mpr]) E
 have b1:#[t,bb,#[ba]]<=16:=by rw[I0];exact eb #[i] b0
 have x0:1<=#[f0]:=by rw[I0];exact xG
 have p1:∀m,m<#[f0]->(bb (bf L.length #[ar])).getD m []∈(bb (bf L.length #[ar])):=λm q=>by rw[dO,bB q];exact jQ q
 have X:#[a2,#[lF],16]:=by simp only[ah,aQ,gq];exact b1
 have i0:(bb (bf L.length #[ar])).getD 0 []=[]:=by rw[P.mask 0 x0];unfold lW;simp
 have k1:#[lF][0]?=aa (.str (aS M #[ar])):=by simp only[ah,gr];rw[cb,qz x0];show aa (V.str (aS M #[jw,(bb (bf L.length #[ar])).getD 0 []]))=_;rw[i0]
 have l1:br #[lF] #[bq]=#[P,aS M #[ar]]:=by unfold br;rw[hU (by simp only[ah,aQ,gq];exact x0)];exact k1
 have R0:=j.len;have n1:=p1 0 x0;rw[i0]at n1;have J:=P.ok [] n1;have j1:∀t∈#[ar],t≠32:=λt h e=>by rcases J t h with h|h|h<;>omega
 have U0:#[dD,#[iX]]:=λt h=>by
  rcases Lk _ t h with h|h;.rcases J t h with h|h|h<;>exact⟨by omega,by omega⟩
  .exact⟨by omega,by omega⟩
 have t0:#[t,gE,#[ar]]<=30:=aH (Lj _) #[f];have J0:=LP M #[ar] j1;have d1:∀l:#[j],l.length<=32->l.length*64<=3000:=λl h=>by omega
 have h1:∀l:#[j],(#[dD,l])->eY #[de,dF (bh [] (l.map (ax #[gm])))] #[bq]=cO l #[bq]:=λl h=>Js (gy M) l h;have X0:cO (gE #[ar]) #[bq]=ae:=by have:=Fp #[ar] [] #[bq];rw[fy,fy]at this;rw[this];exact j.QT
 have m0:∀l:#[j],(#[dD,l])->l.length<=32->(bh [] (l.map (ax #[gm]))).length<=3000/\#[t,dF,bh [] (l.map (ax #[gm]))]<=3000:=λl h a0=>⟨aH (vu _ l) (d1 l a0),by rw[wC _ l h];exact aH (zd _ l) (d1 l a0)⟩;have q1:([40]++aS M #[ar]:Tx)=bh [] ((40::#[iX]).map (ax (aA (gy M)))):=by rw[J0,dh,jg];rfl
 have r1:([41]++aS M #[ar]++[40]:Tx)=bh [] ((41::#[iX]++[40]).map (ax #[gm])):=by rw[J0];show _=bh [] (ax #[gm] 41::(#[iX]++[40]).map (ax #[gm]));rw[jg,gJ,jE,jE,List.flatten_append];rfl
 have s1:#[dD,40::#[iX]]:=λt h=>by
  rcases bc.mp h with rfl|h;.exact⟨by decide,by decide⟩
  .exact U0 t h
 have t1:#[dD,41::#[iX]++[40]]:=λt h=>by
  rcases cK.mp h with h|h
  .rcases bc.mp h with rfl|h;.exact⟨by decide,by decide⟩
   .exact U0 t h
  .rw[aY.mp h];exact⟨by decide,by decide⟩
 have o0:#[a2,(aS M #[ar]),2000]:=by rw[J0];exact aH (vu _ _) #[f]
 refine#[nX,19,Tv C.F C.G C.Lx #[f] H0 N0];obtain⟨_,rfl,rfl⟩:=h;refine#[fA,20,1,Tq C.F C.G #[hT,8] o0 X l1 (c:=λa=>eY #[h8] #[bq]) (P:=λa=>a.length<=3000/\#[t,dF,a]<=3000) (λa h=>C.eY a h.1 h.2) ?_ ?_ ?_ ?_];.rw[J0];exact m0 _ U0 #[f]
 .rw[q1];exact m0 _ s1 (by rw[cc];omega)
 .show eY #[de,dF (aS M #[ar])] #[bq]=ae;rw[J0,h1 _ U0,X0]
 .show eY #[de,dF ([40]++aS M #[ar])] #[bq]=ai;rw[q1,h1 _ s1];exact uq _ _ _ #[i] X0
 obtain⟨_,rfl,rfl⟩:=h;have i1:#[a2,(cD #[eV] 0 (aS M #[ar])),2000]:=by rw[J0,BP _ _ U0];exact aH (vu _ _) #[f]
 have A:cD #[f6] 0 (cD #[eV] 0 (aS M #[ar]))=bh [] ((gE #[ar]).map (eD (gy M))):=by rw[J0];exact XS _ _ U0
 have e1:#[a2,(bh [] ((gE #[ar]).map (eD (gy M)))),2000]:=aH (zd _ _) #[f];refine#[nX,21,Tj C.F C.G o0 X k1 A i1];obtain⟨_,rfl,rfl⟩:=h;refine#[fA,22,2,TL C.F C.G o0 e1 X l1 (c:=λa=>eY #[h8] #[bq]) (h:=dF) (P:=λa=>a.length<=3000/\#[t,dF,a]<=3000) (Q:=λa=>a.length<=3000) (λa h=>C.eY a h.1 h.2) (λa h=>C.strip a h) ?_ ?_ ?_ ?_ ?_ ?_];.rw[r1];exact m0 _ t1 (by rw[aV,cc];simp;omega)
 .exact#[bD,o0]
 .rw[aV];exact aH (Nat.add_le_add_right o0 1) #[i]
 .show eY #[de,dF ([41]++aS M #[ar]++[40])] #[bq]=ai;rw[r1,h1 _ t1];rfl
 .rw[J0];exact wC _ _ U0
 .rw[J0];exact XW _ _ U0
 obtain⟨_,rfl,rfl⟩:=h;refine#[fA,24,2,Ts C.F C.G #[f] #[f] R (C:=λm=>ay L.length L 0 #[mL]) b1 (λm q=>?_) ?_];.have S0:=p1 m q;have G:=P.len _ S0;exact⟨by omega,λe=>by rw[e]at G;simp at G;omega,P.ok _ S0,P.lets _ S0,UT _ _⟩
 .rfl
 obtain⟨_,⟨M0,L0,rfl⟩,rfl⟩:=h;rw[<-zD];have k0:∀k∈#[ba],1<=k/\k<L.length/\(bF #[ar]).getD k 0+1<#[ar].length:=λk o=>by have N:=(j.inner k o).1;have a0:k<L.length:=eH.mp (iT.mp o).1;exact⟨N,a0,(j.place _ (lU (by rw[j.sG];exact a0))).2⟩
 have Y:=Ma c L.length;refine#[fA,26,5,Tz C.F C.G #[f] (f:=#[ar]) (u:=#[ba]) (l:=L.length) #[f] R j.sG b0 k0];obtain⟨_,⟨g1,rfl⟩,rfl⟩:=h;have m1:∀f∈#[ba].map (dW #[jj] #[ar]),2^#[fE]<=f/\3<=f/\f<2^5602:=λf y=>by obtain⟨k,o,rfl⟩:=bI.mp y;obtain⟨N,a0⟩:=j.inner k o;obtain⟨Q,e0,E0⟩:=Hj Y.1 #[ar] N;refine⟨Q,e0,jR E0 ?_⟩;rw[<-NB,<-Dh];refine xH #[i] ?_;have:#[fE]*jc #[ar] k<=700*8:=mw Y.2 a0;omega
 have a1:bz (#[ba].map (dW #[jj] #[ar]))<=2^(4+15*#[fE]):=by refine aH (JW Y.1 #[ar] _ λk o=>(j.inner k o).1) (eb #[i] ?_);have:#[fE]*(#[ba].map (jc #[ar])).foldr (·+·) 0<=#[fE]*15:=Ny _ j.RE;omega
 generalize O0:#[aa,d%#[v,2]=1,(#[ba].map (dW #[jj] #[ar])).reverse,#[ba].map (dW #[jj] #[ar])]=j0
 have T0:bz j0=bz (#[ba].map (dW #[jj] #[ar])):=by
  rw[<-O0];split;.exact JV _
  .rfl
 have Y0:∀f∈j0,2^#[fE]<=f/\3<=f/\f<2^5602:=λf y=>by
  rw[<-O0]at y;split at y;.exact m1 f (qA.mp y)
  .exact m1 f y
 have n0:j0.length<=4:=by
  rw[<-O0];split;.rw[ta,aQ];exact b0
  .rw[aQ];exact b0
 have A0:cW (bU c L.length) (oc L #[ar])=bz j0:=by rw[j.counts,UL,Wf,T0]
 rw[<-T0]at a1;have u1:#[a2,(oc L #[ar]),16]:=by rw[zD,zB];exact eb #[i] (show L.length-1<=4 by omega)
 have o1:∀k m,bz ((j0.drop k).take m)<=bz j0:=Wg λf y=>aH #[i] (Y0 f y).2.1;refine TF C.F C.G U n0 (λk m=>jR (aH (o1 k m) a1) (xH #[i] #[f])) (λf y=>jr (Y0 f y).2.2 (xH #[i] #[i])) (λf y=>(Y0 f y).2.1) u1 ?_ (λk r o=>?_) Z
 .have:=C.RB #[jj] (oc L #[ar]) #[f] (λx z=>?_) #[f];.rw[A0]at this;exact this
  .refine jR (?_:x<=16) (eo #[ao,16<2^5] (eb #[i] #[i]));rw[zD]at z;exact aH (zA _ _ _ x z) b1
 .have c1:j0.getD k 0=j0[k]:=by rw[dO,bB o];rfl
  obtain⟨c0,w0,G0⟩:=Y0 _ (jQ o);have y0:=We o;have C0:1<=#[dZ]:=vS _ λf y=>eo #[i] (Y0 f (eU y)).2.1;have Q0:=WE w0 r;have l0:#[e2]<=bz j0:=by have:=o1 k j0.length;rwa[hY (by rw[cR];omega)]at this
  rw[c1];generalize j0[k]=f at*;have x1:f<=#[e2]:=by rw[y0];exact Nv _ C0
  obtain⟨Q,e0,E0⟩:=AE (b:=f) (f:=bN #[v,f]) #[f] rfl;have y1:#[fE]<bN #[v,f]:=(Nat.pow_lt_pow_iff_right #[i]).mp (jR c0 Q);have u0:=gV G0;have s0:bN #[v,#[e2]+fJ f r]<=5+15*#[fE]:=gV (by rw[show 5+15*#[fE]=(4+15*#[fE])+1 by omega,oR];omega);have O:=C.dm (#[e2]+fJ f r) f #[f] #[f] (Nat.div_le_of_le_mul #[f]);obtain⟨S,H⟩:=RH (p:=#[dZ]) Q0;rw[<-y0]at S H;rw[S,H]at O;exact O
end
theorem LU(h:#[cH]):#[ia,(eQ l k)]:=by unfold eQ;simp only[aV,aQ,bH,cR,cc,et];omega
theorem zH:∀(f:Nat)(l:#[g])(p:Nat)(H:#[g]),l.length<=f->#[bb,(ay f l p H),3*l.length]
 |0,l,p,H,h=>by obtain rfl:=nE.mp (CV.mp h);rfl
 |f+1,l,p,H,h=>by cases l with
 |nil=>rfl
 |cons x l=>
  have C:=qg (l:=x::l) #[z]
  have Y:#[h9,#[aa,H.contains (p+bp (x::l)),eQ (x::l) (bp (x::l)),x::l],(x::l)]:=by
   split;.exact LU C
   .rfl
  show#[bb,([40]++ay f _ p _++[_]++ay f _ _ _++[41]),_];generalize#[aa,H.contains _,eQ _ _,x::l]=r at*;generalize bp _=k at*;rw[<-Y]at C h⊢;simp only[aV,(zH f (r.take k) p _ (by rw[bH];omega)),zH f (r.drop #[u]) _ _ (by rw[cR];omega),bH,cR,cc,et];omega
theorem LR:∀(r:#[g]),ni l S r=ae->∀(i:Nat)(P:i<r.length),∀H∈bb (r.drop (i+1)),mf #[fb] ((bF S).getD r[i] 0)=#[i2,r[i]::H]|[],_,i,P,_,_=>#[aN,P,Df _]|k::r,h,i,P,H,n0=>by have c0:(ni l _ r&&(bb r).all λH=>mf _ _==ay _ l 0 _)=ae:=h;rw[fe]at c0;cases i with|zero=>exact beq_iff_eq.mp (eT.mp c0.2 _ n0)|succ i=>exact LR r c0.1 i _ _ n0
theorem Vj:∀r:#[g],[]∈bb r|[]=>.head _|k::r=>JY (Vj r)
theorem SO(M:ro L)(Q:4<=L.length)(R:#[gz]):#[a2,#[ba],4]:=by
 have w:#[ba].Sublist _:=CF;obtain h|h:=gd #[ba].length L.length;.omega
 .exact absurd (by rw[w.eq_of_length_le (by rw[gq];exact h)];exact#[G,eH.mpr]) (λh=>#[aN,(M.inner 0 h).1,#[i]])
theorem aec(h:H∈bb r):k::H∈bb (k::r):=CK.mpr #[as,h,.tail _ #[bJ]]
section
variable{B:Bs}{w:aD}{n:Nat}{d0 g0 r0:#[n]}{h0:#[dB]}
theorem Th(C:xa B w n d0 g0 r0){Q:List Int}(q:Q.length<=63)(G:#[nh]):#[dc,ee,[#[bj]]++cL 42 ab,[#[bg,Q.map,V.int]],h0]:=by
 have U:=C.hn;show#[dc,ee.drop 0,_,_,_];refine aj.cutAt 0 2 (Tg C.F C.G q) (λ_ _ _ h=>h.1) (λv s h=>?_);obtain⟨_,F,l,E,rfl,rfl⟩:=h;obtain⟨a,b,c,d,rfl⟩:∃a b c d,l=[a,b,c,d]:=by match l,E with|[a,b,c,d],_=>exact#[ds,a,b,c,d]
 refine#[fA,2,6,Ti C.F C.G #[hT,11] C.sp #[f] a b c d F];obtain⟨_,F0,y,S,c0,u,rfl,rfl⟩:=h;obtain⟨f,A⟩:=Aq a;obtain⟨N,k0⟩:=Ir a;have I:=vw a;rw[<-Iq a]at I⊢;have v0:∀k,cU c 12 k<12:=λk=>vb c #[i] k;have i0:=zg (dE a b) (cU c 12) 0 (gC a);generalize dE a b=M at*;generalize gC a=L at*;generalize cU c 12=O at*;have n0:#[a2,([9,10]++eE M O 0 L),1000]:=by rw[aV];show 2+_<=_;omega
 refine#[fA,8,2,Tn C.F C.G #[hT,10] C.lo C.UA #[f] a b c d n0];obtain⟨_,rfl,rfl⟩:=h;have m0:=WH M O v0 (JR k0) (ij d);have u0:=Gx (ij d);obtain⟨T,r⟩:∃T,T=[9,10]++eE M O 0 L++ig (ij d):=#[aU];have f0:#[iO]:=by rw[r,aV];omega
 rw[<-r]at m0⊢;have q0:dr 1 T []=vK T 0 []:=by show _=dr (#[g3]-T.count 10) T [];rw[Nat.add_sub_cancel]
 rw[q0];have Z:#[f9,L]:=λx z=>by have:=k0 x z;omega
 have G0:=C.tree M L I.2 N k0;have A0:=λH h=>C.RN M L H I.2 N k0 h;refine#[fA,10,5,Tu C.F C.G C.Lx #[f] #[hT,12] #[hT,14] v0 f (JR k0) Z N I.2 I.1 r f0 G0 (A0 [] #[i])];obtain⟨_,rfl,rfl⟩:=h;have o0:=f.len;refine#[nX,15,TC C.F C.G C.Lx #[f] #[f]];obtain⟨_,rfl,rfl⟩:=h;have j0:#[t,bb,#[ba]]=2^#[ba].length:=vT _;have R:#[a2,#[ba],4]:=SO f I.1 I.2;have s0:#[t,bb,#[ba]]<=16:=by rw[j0];exact eb #[i] R
 have E0:#[bd,(bF #[ar]).map,#[a1]]:=by rw[aQ,f.sG];exact#[bD,I.2]
 have y0:∀H,#[a2,#[jw,H],15]:=λH=>by rw[zH _ _ _ _ #[aO]];omega
 have b0:∀k∈#[ba],k<L.length:=λk g=>eH.mp (iT.mp g).1;refine#[fA,16,1,TM C.F C.G C.Lx #[f] #[hT,13] (n0:=λH=>ay L.length L 0 H) R y0 E0 λi P=>?_]
 .have g:=b0 _ (jQ P);have a0:#[ba][i]<#[t,bF,#[ar]]:=by rw[f.sG];exact g
  have e0:=lU a0;obtain⟨w0,C0⟩:=f.place _ e0;refine⟨(bF #[ar]).getD #[ba][i] 0,?_,λH n0=>?_⟩;.unfold br;rw[hU (by simpa using a0)];simp[dO,bB a0]
  .have x0:=JX _ _ n0;have o:=A.len _ x0;have J:=A.ok _ x0;refine#[bL,λe=>by rw[e]at o;simp at o;omega,J];have:=C.Yq M #[jw,H] ((bF #[ar]).getD #[ba][i] 0) (λt h=>by rcases J t h with h|h|h<;>exact⟨by omega,by omega⟩) w0 #[f] #[f] (A.Xz _ x0 _ e0);rw[LR _ f.Yu i P H n0]at this;exact this
 obtain⟨_,⟨t0,M0,l0,rfl⟩,rfl⟩:=h;rw[Jc (λH=>aS M #[jw,H]) (bb #[ba])];have Y:#[t,(aW #[f0]).map,#[io]]=#[f0]:=by rw[aQ,gq]
 rw[show(2^#[ba].length:Nat)=#[t,(aW #[f0]).map,#[io]]by rw[Y,j0]];refine#[fA,17,1,Tp C.F C.G C.Lx #[f] (l:=((aW #[f0]).map #[io])) (by rw[Y];exact s0) #[ai] #[ai] #[ai] #[ai] #[ai] #[ai] #[ai] #[ai] #[ai] #[ai] #[ai]];obtain⟨_,rfl,rfl⟩:=h;have X:#[bb,#[lF],#[t,(aW #[f0]).map,#[io]]]:=by simp[ah]
 rw[<-X];refine#[fA,18,1,TH C.F C.G #[f] #[hT,14] (M:=M) (L:=L) (u:=#[ba]) (C:=λm=>ay L.length L 0 #[mL]) I.2 R (r:=ah ((aW #[f0]).map #[io])) (by rw[X,Y];exact s0) (λm=>y0 _) (λm j=>?_) ?_]
 .rw[X,Y]at j;constructor;.unfold br;rw[hU (by rw[X,Y];exact j)];simp[ah,j]
  .rw[A.mask m j];refine A0 _ ?_;unfold lW;rw[aQ];refine aH (sZ _ _) ?_;rw[gq];omega
 .rfl
 obtain⟨_,⟨p0,rfl⟩,rfl⟩:=h;exact TJ C I.2 I.1 f A f0 m0 G
end
section
open Lean Meta Elab Tactic
namespace Z
def ali:iS Unit:=do
 let l0:=`Mine.hdz
 Term.withDeclName l0 do
  let a<-fi (<-akc (<-`((ZJ).Holds)));let g<-Cu a;let m<-Tactic.run g.mvarId! (akb (evalTactic (<-`(tactic|(w_on;o_law;z_head;(case hw=>w_witness2))))))
  let[X]:=m|throwError"head"
  let T<-fi (<-X.getType)
  let r<-afq `walk T λh=>do
   X.assign h;afp #[h] (<-fi g)
  addDecl (.thmDecl {name:=l0,levelParams:=[],type:=<-mkArrow T a,value:=r})
end Z
theorem hd0:True:=by
 run_tac Z.ali
 trivial
end
def HZ(h:bk)(P:iB):Prop:=∀(a:ao)(o:ck),(hdz.heap_328 P).lookup a=aa o->#[cu]
noncomputable def bw(P:iB)(a:ao):ck:=((hdz.heap_328 P).lookup a).getD default
noncomputable def dJ(P:iB)(a:ao):gN:=match#[bB,a]with|.func f0=>f0|_=>default
def fG:lF->#[be]|.fields Y=>Y|_=>#[]
def ql:#[bP]->fP|aa (.str _ t)=>t|_=>0
def jL:#[s]:=[220,227,321,326,304,304,162,169]
noncomputable def B0(h:bk)(c0:ao):Bs:={heap:=h,fb:=[agc 224 220,sC 231 227,qe 323 321,wm 328 326,mZ 308 304,mY 308 304,qd 166 162,qb 173 169],lo:=c0}
theorem gm{c0 a:ao}(e:jL.contains a=ai):a∉#[bA].tabs:=λf=>by have:jL.contains a=ae:=CC.mpr f;grind
noncomputable def pJ(P:iB)(f c:ao):=((hdz.heap_328 P).lookup f,#[bB,f],(bw P f).cls,#[eo].scope,#[eo].body,#[eo].globals,#[eo].builtins,#[eo].code,(hdz.heap_328 P).lookup c,#[bB,c])
noncomputable def pI(P:iB)(f c:ao)(j0:bq)(r0:#[y]):#[a7,ck]×lF×af×bq×tu×ao×ao×af×#[a7,ck]×lF:=(aa (bw P f),.func (dJ P f),.type "function",j0,.stmts r0,ed,cS,.ref c,aa (bw P c),.fields (fG #[bB,c]))
section
variable{h:bk}{P:iB}{c0:ao}
theorem HZ.at_(J:#[ae])(e:#[ie,a,bw P a]):#[bl,a,bw P a]:=J a _ e
theorem jF{p:#[L]->Prop}(h:∀a,p [a]):#[iM,1]:=λl e=>match l,e with|[_],_=>h _
theorem mR{p:#[L]->Prop}(h:∀a b,p [a,b]):#[iM,2]:=λl e=>match l,e with|[_,_],_=>h _ _
theorem vx{p:#[L]->Prop}(h:∀a b c,p [a,b,c]):#[iM,3]:=λl e=>match l,e with|[_,_,_],_=>h _ _ _
theorem TP{p:#[L]->Prop}(h:∀a b c d,p [a,b,c,d]):#[iM,4]:=λl e=>match l,e with|[_,_,_,_],_=>h _ _ _ _
theorem TQ{p:#[L]->Prop}(h:∀a b c d e,p [a,b,c,d,e]):#[iM,5]:=λl e=>match l,e with|[_,_,_,_,_],_=>h _ _ _ _ _
theorem TR{p:#[L]->Prop}(h:∀a b c d e f,p [a,b,c,d,e,f]):#[iM,6]:=λl e=>match l,e with|[_,_,_,_,_,_],_=>h _ _ _ _ _ _
theorem ew(J:#[ae]){f c k:ao}(e:pJ P f c=pI P f c j0 r0)(X:#[eo].closure=[])(O:#[nF])(n0:#[nE])(Z:∀l:#[L],l.length=k->tG (dJ P f) #[Y,l]=av ((j0.names.map (·.1)).zip l))(p:∀x∈E0,x∈#[bA].fb/\c=x.c/\(#[eo].qualname++".<locals>.")++x.name=x.qual):#[dy,ba #[bA] f j0 k r0 E0,f]:=by unfold pJ pI at e;simp at e;obtain⟨F,d,Q,w,B,T,E,v,i,a⟩:=e;rw[sN]at n0;have S:=J.at_ F;refine⟨⟨⟨_,_,S,d,w,B,X,T,E,⟨c,_,_,_,v,gm n0.2,J.at_ i,a,O⟩,λx z=>?_,Z⟩,gm n0.1⟩,⟨⟨_,_,S,Q,d⟩,gm n0.1⟩⟩;obtain⟨N,a0,G⟩:=p x z;exact⟨N,by rw[v,a0],G⟩
end
section
variable{h:bk}{P:iB}{c0:ao}
theorem Ha(J:#[ae]):#[cF,314,sv,2,uk,314]:=#[fu,313,#[aw],#[g0]]
theorem Hb(J:#[ae]):#[cF,319,me,1,lR,319]:=#[hb,318]
theorem Hc(J:#[ae]):#[dy,ba #[bA] 324 sx 2 uo [qe 323 321],324]:=#[hu,#[g0],by rw[aY.mp h];exact#[hL,#[br,#[bJ]]]]
theorem Hd(J:#[ae]):#[dy,ba #[bA] 329 wb 3 Ff [wm 328 326],329]:=#[hu,#[lH],by rw[aY.mp h];exact#[hL,#[br,#[br,#[bJ]]]]]
theorem zQ(J:#[ae]):#[cF,260,pU,1,ug,260]:=#[hb,259]
theorem uZ(J:#[ae]):#[cF,253,pX,1,um,253]:=#[hb,252]
theorem rO(J:#[ae]):#[cF,246,jH,1,fE,246]:=#[hb,245]
theorem GU(J:#[ae]):#[dy,ba #[bA] 225 su 2 yY [agc 224 220],225]:=#[hu,#[g0],by rw[aY.mp h];exact#[dv,.head _,by kernel_rfl]]
theorem zP(J:#[ae]):#[dy,ba #[bA] 232 vY 2 yV [sC 231 227],232]:=#[hu,#[g0],by rw[aY.mp h];exact#[hL,#[bJ]]]
theorem GR(J:#[ae]):#[cF,211,pV,3,rx,211]:=#[fu,210,#[aw],#[lH]]
theorem GS(J:#[ae]):#[cF,218,pW,6,ry,218]:=#[fu,217,#[aw],TR λ_ _ _ _ _ _=>by kernel_rfl]
theorem GV(J:#[ae]):#[cF,239,wa,2,yX,239]:=#[fu,238,#[aw],#[g0]]
theorem GW(J:#[ae]):#[cF,274,Bv,2,za,274]:=#[fu,273,#[aw],#[g0]]
theorem GX(J:#[ae]):#[cF,281,Kz,1,Fo,281]:=#[hb,280]
theorem GY(J:#[ae]):#[cF,288,kY,1,ui,288]:=#[hb,287]
theorem GZ(J:#[ae]):#[cF,295,Kx,2,Fl,295]:=#[fu,294,#[aw],#[g0]]
theorem zR(J:#[ae]):#[dy,ba #[bA] 309 wd 1 nV [mZ 308 304,mY 308 304],309]:=#[hu,#[ky],by
 obtain rfl|h:=bc.mp h;.exact#[hL,#[br,#[br,#[br,#[bJ]]]]]
 .rw[aY.mp h];exact#[hL,#[br,#[br,#[br,#[br,#[bJ]]]]]]]
theorem Hf(J:#[ae]):#[cF,57,Kt,5,Fg,57]:=ew J #[ak] #[p] #[p] rfl (TQ λ_ _ _ _ _=>by kernel_rfl) #[av]
theorem Hg(J:#[ae]):#[cF,64,wc,2,uh,64]:=ew J #[ak] #[p] rfl rfl #[g0] #[av]
theorem Hh(J:#[ae]):#[cF,78,kZ,1,rz,78]:=#[fu,77,#[p],#[ky]]
theorem GG(J:#[ae]):#[cF,106,pT,4,uf,106]:=#[fu,105,#[p],TP λ_ _ _ _=>by kernel_rfl]
theorem GI(J:#[ae]):#[cF,113,hB,3,kS,113]:=#[fu,112,#[p],#[lH]]
theorem GK(J:#[ae]):#[cF,144,Ky,3,Fm,144]:=#[fu,143,rfl,#[lH]]
theorem GP(J:#[ae]):#[cF,189,we,1,Fi,189]:=#[hb,188]
theorem uX(J:#[ae]):#[dy,ba #[bA] 167 Ku 1 Fh [qd 166 162],167]:=#[hu,#[ky],by rw[aY.mp h];exact#[hL,#[br,#[br,#[br,#[br,#[br,#[bJ]]]]]]]]
theorem uY(J:#[ae]):#[dy,ba #[bA] 174 Ks 1 Fe [qb 173 169],174]:=#[hu,#[ky],by rw[aY.mp h];exact#[hL,#[br,#[br,#[br,#[br,#[br,#[br,#[bJ]]]]]]]]]
theorem He(J:#[ae]):#[cF,334,Bu,1,ee,334]:=#[hb,333]
end
def zS:lF->af|.seq Y _=>Y.getD 0 .none|_=>.none
def sy:lF->Nat|.seq _ n=>n|_=>0
def strOf:#[bP]->aq|aa (.str s _)=>s|_=>ak ""
noncomputable def Si(P:iB):gN:=by run_tac
 do
  let g<-nu;g.withContext do g.assign (<-bY (qu (Cv ``dJ) (Cw (<-Ct `P).fvarId) (Cy 152)))
noncomputable def Hk(P:iB):gN:=by run_tac
 do
  let g<-nu;g.withContext do g.assign (<-bY (qu (Cv ``dJ) (Cw (<-Ct `P).fvarId) (Cy 182)))
noncomputable def Sh(P:iB):gN:=by run_tac
 do
  let g<-nu;g.withContext do g.assign (<-bY (qu (Cv ``dJ) (Cw (<-Ct `P).fvarId) (Cy 137)))
section
variable{h:bk}{P:iB}{c0:ao}
theorem uK(J:#[ae]){s:fR}(k:GH (B0 h c0) s.heap)(e:#[ie,T,bw P T])(n0:jL.contains T=ai):#[cd,T,bw P T]:=#[aL,k,J.at_ e,gm n0]
theorem zF(J:#[ae]){f c k:ao}{b:#[g]}(e:pJ P f c=pI P f c j0 r0)(X:#[eo].closure=[])(O:#[nF])(n0:#[nE])(Z:∀(l:#[g])(s:fR),l.length=k->GH (B0 h c0) s.heap->qQ s #[eo] #[Y,l] ((j0.names.map (·.1)).zip (l++b))):#[dy,mi #[bA] f j0 k r0 b,f]:=by unfold pJ pI at e;simp at e;obtain⟨F,d,Q,w,B,T,E,v,i,a⟩:=e;rw[sN]at n0;have S:=J.at_ F;exact⟨⟨⟨_,_,S,d,w,B,X,T,E,⟨c,_,_,_,v,gm n0.2,(J.at_ i),a,O⟩,Z⟩,gm n0.1⟩,⟨⟨_,_,S,Q,d⟩,gm n0.1⟩⟩
theorem GL(J:#[ae]):#[dy,mi #[bA] 152 Kv 2 Fj [],152]:=zF J #[ak] #[p] #[aw] rfl (λl s e k=>match l,e with|[_,_],_=>by rw[show dJ P 152=Si P by kernel_rfl];exact#[mg,145,145,145,#[aw],#[ak]])
theorem GO(J:#[ae]):#[dy,mi #[bA] 182 wg 2 uj [],182]:=zF J (c:=181) #[p] #[ak] #[aw] rfl (λl s e k=>match l,e with|[_,_],_=>by rw[show dJ P 182=Hk P by kernel_rfl];exact#[mg,175,175,175,rfl,#[aw]])
theorem Sd(J:#[ae]):#[dy,mi #[bA] 182 wg 1 uj [.none],182]:=zF J (c:=181) #[aw] #[ak] #[p] rfl (λl s e k=>match l,e with|[_],_=>by rw[show dJ P 182=Hk P by kernel_rfl];exact xP (T:=175) (n:=sy #[bB,175]) #[p] (uK J k #[p] rfl) #[ak] rfl rfl)
theorem BV(J:#[ae]){f c k:ao}(e:pJ P f c=pI P f c j0 r0)(X:#[eo].closure=[(ak "__class__",124)])(O:#[nF])(n0:#[nE])(t:#[es][2]?=aa (.str (strOf #[es][2]?) (ql #[es][2]?)))(m:(P0.main.file==strOf #[es][2]?)=ae)(I:(#[eo].params.posonlyargs++#[eo].params.args).head?=aa n)(Y:n.arg=ak "self")(Z:#[nY,GH (B0 h c0) s.heap,#[eo],((j0.names.map (·.1)).zip l)])(g:#[hx])(p:∃a,h.Ns ia a/\#[kP,a]):#[dy,jB #[bA] d0 g0 f j0 k r0,f]:=by unfold pJ pI at e;simp[qO]at e;obtain⟨F,d,Q,w,B,T,E,v,i,b⟩:=e;rw[sN]at n0;have S:=J.at_ F;have H:=J.at_ i;exact⟨⟨⟨_,_,S,Q,d,w,B,X,T,E,⟨c,_,_,_,_,_,v,gm n0.2,H,b,O,t,m⟩,⟨n,I,Y⟩,Z⟩,gm n0.1,⟨#[as,J.at_ (#[p]),by kernel_rfl],gm rfl⟩,g,p⟩,⟨⟨_,_,S,Q,d⟩,gm n0.1⟩⟩
variable{d0 g0:#[n]}
theorem GQ(J:#[ae])(g:#[hx])(p:#[j2]):#[dy,jB #[bA] d0 g0 197 Br 1 yU,197]:=BV J (c:=196) (n:=#[nj,197]) #[aw] #[ak] #[aw] rfl #[aw] #[p] #[aw] #[aw] (λl s e _=>.of_eq (match l,e with|[_],_=>by kernel_rfl)) g p
theorem GN(J:#[ae])(g:#[hx])(p:#[j2]):#[dy,jB #[bA] d0 g0 160 Kw 1 Fk,160]:=BV J (n:=#[nj,160]) #[ak] #[p] #[p] rfl #[aw] #[aw] #[aw] #[aw] (λl s e _=>.of_eq (match l,e with|[_],_=>by kernel_rfl)) g p
theorem GJ(J:#[ae])(g:#[hx])(p:#[j2]):#[dy,jB #[bA] d0 g0 137 sr 2 yT,137]:=BV J (n:=#[nj,137]) #[ak] #[p] #[aw] rfl #[aw] #[aw] #[ak] #[aw] (λl s e k=>match l,e with|[_,_],_=>by rw[show dJ P 137=Sh P by kernel_rfl];exact#[mg,129,129,129,#[aw],#[p]]) g p
end
def pB:lF->Array DictEntry|.dict a _=>a|_=>#[]
def Xa:lF->#[be]|.seq Y _=>Y|_=>#[]
def zG:lF->Nat|.dict _ n=>n|_=>0
def rI:lF->ClassData|.cls c=>c|_=>default
def vv(e:DictEntry):Bool:=match e.key with|.str _ _=>ae|_=>ai
theorem Tb(h:a.all vv=ae):StrKeys a:=λe b=>by
 rw[Array.all_eq_true']at h;have:=h e b;unfold vv at this;split at this;.rename_i n t C;exact⟨n,t,C⟩
 .cases this
def vV:#[bP]->ao|aa (.ref a)=>a|_=>0
noncomputable def dK(P:iB)(a:ao)(x:aq):#[bP]:=pg (pB #[bB,a]) x
section
variable{h:bk}{P:iB}{c0:ao}{d0 g0:#[n]}
theorem HZ.ns(J:#[ae])(e:#[ie,a,bw P a])(Z:#[bB,a]=.dict (pB #[bB,a]) (zG #[bB,a]))(C:(pB #[bB,a]).all vv=ae):h.Ns a (dK P a):=⟨_,_,_,J.at_ e,Z,Tb C,λ_=>rfl⟩
theorem HZ.name(J:#[ae])(e:#[ie,a,bw P a])(Z:#[bB,a]=.dict (pB #[bB,a]) (zG #[bB,a]))(U:h.Ns a m)(x:aq):m x=dK P a x:=by obtain⟨o,b,s,N,a0,_,G⟩:=U;rw[J.at_ e]at N;unfold dK;grind
theorem oi(J:#[ae])(S:#[gn])(x:aq):d0 x=dK P 3 x:=J.name #[ak] #[p] S x
theorem QS(J:#[ae])(Z:#[go])(x:aq):g0 x=dK P 0 x:=J.name #[ak] #[p] Z x
theorem BL(J:#[ae]):h.Ns ia (dK P 2):=J.ns #[ak] #[p] #[aw]
def pY(x y:fD):Prop:=x.c≠y.P/\(x.P=y.P->x.c=y.c/\(x=y\/¬((x.pos.line:Int)=y.pos.line/\(x.pos.col:Int)=y.pos.col)))
theorem WY(N:x.c≠y.P)(a0:x.P≠y.P):pY x y:=⟨N,λe=>#[aN,e,a0]⟩
theorem Le(u:#[iQ]):hq (B0 h c0):=by
 have o:∀x∈#[bA].fb,x.c<335/\x.P<335/\∀y∈#[bA].fb,pY x y:=by
  have n:∀x y,(x.c !=y.P&&x.P !=y.P)=ae->pY x y:=λx y e=>by rw[fe,bne_iff_ne,bne_iff_ne]at e;exact WY e.1 e.2
  intro x z;simp only[B0,bc,gu,or_false]at z;have m:∀y,y∈#[bA].fb->(y=agc _ _\/y=sC _ _\/y=qe _ _\/y=wm _ _\/y=mZ _ _\/y=mY _ _\/y=qd _ _\/y=qb _ _):=λy h=>by simpa only[B0,bc,gu,or_false]using h
  rcases z with rfl|rfl|rfl|rfl|rfl|rfl|rfl|rfl<;>refine⟨by decide,by decide,λy h=>?_⟩<;>rcases m y h with rfl|rfl|rfl|rfl|rfl|rfl|rfl|rfl<;>first|exact n _ _ rfl|exact(⟨by decide,λ_=>#[aJ,.inr (#[i])]⟩:pY (mZ 308 304) (mY _ 304))|exact(⟨by decide,λ_=>#[aJ,#[aQ,.inr]]⟩:pY (mY 308 304) (mZ _ 304))|exact(λx e=>⟨e,λ_=>#[aJ,#[dn]]⟩:∀x,x.c≠x.P->pY x x) _ #[i]
 intro x z;obtain⟨N,a0,G⟩:=o x z;exact⟨by show x.c<h.objs.size;rw[u];exact N,by show x.P<h.objs.size;rw[u];exact a0,G⟩
theorem HC(J:#[ae])(u:#[iQ])(S:#[gn])(Z:#[go])(R:h.NoLimit)(f:#[mf]):aK #[bA] d0 g0:=by
 refine⟨S,Z,R,gm rfl,gm rfl,gm rfl,Le u,?_⟩;obtain⟨v0,e0,N,a0,G,E,r,m⟩:=f;have a:dK P 3 (ak "__builtins__")=aa (.ref (vV (dK P 3 (ak "__builtins__")))):=by kernel_rfl
 rw[oi J S,a]at N;cases N;exact⟨_,_,by rw[oi J S];exact a,a0,gm (by kernel_rfl:jL.contains (vV (dK P 3 _))=ai),G,E,r,m⟩
theorem Aa(J:#[ae])(S:#[gn])(Z:#[go]):Gl #[bA] d0 g0 where
 gl:=λj x u e=>by
  rw[oi J S];have k:pL.map (λp=>dK P 3 (ak p.1))=pL.map λp=>aa p.2:=by kernel_rfl
  have:=congrArg (λl=>l[j]?) k;simp only[cb,e]at this;exact hk this
 bl:=λj x u e=>by
  rw[oi J S,QS J Z];have k:pv.map (λp=>(dK P 3 (ak p.1),dK P 0 (ak p.1)))=pv.map λp=>(ab,aa p.2):=by kernel_rfl
  have:=congrArg (λl=>l[j]?) k;simp only[cb,e]at this;have:=hk this;simp only[qO]at this;exact this
 fn:=λa I=>by
  have:∀a∈vf,bX (B0 h c0) a:=λa I=>by
   simp only[vf,bc,gu,or_false]at I;rcases I with rfl|rfl|rfl|rfl|rfl|rfl|rfl|rfl|rfl|rfl|rfl|rfl|rfl|rfl;.exact(He J).2
   .exact(GR J).2
   .exact(GS J).2
   .exact(GU J).2
   .exact(zP J).2
   .exact(GV J).2
   .exact(rO J).2
   .exact(uZ J).2
   .exact(zQ J).2
   .exact(zR J).2
   .exact(Ha J).2
   .exact(Hb J).2
   .exact(Hc J).2
   .exact(Hd J).2
  obtain⟨⟨q0,f0,N,_,a0⟩,G⟩:=this a I;exact⟨f0,⟨q0,N,a0⟩,G⟩
 nb:=⟨#[as,BL J,by kernel_rfl],gm rfl⟩
 lim:=#[bF,(oi J S _).trans (show dK P 3 (ak "_DIV_LIMIT")=aa (.int 4000 (match dK P 3 (ak "_DIV_LIMIT")with|aa (.int _ t)=>t|_=>0))by kernel_rfl)]
theorem zz(J:#[ae])(e:#[ie,C,bw P C])(p:bw P C=eu (rI #[bB,C]).name (rI #[bB,C]).qualname C N (rI #[bB,C]).bases v0 ae [] [] ai (rI #[bB,C]).collection (bw P C).dict ((bw P C).slots.getD 0 ab) ((bw P C).slots.getD 1 ab) ((bw P C).slots.getD 2 ab) ((bw P C).slots.getD 3 ab) ((bw P C).slots.getD 5 ab) F)(E:#[ie,N,bw P N])(Z:#[bB,N]=.dict (pB #[bB,N]) (zG #[bB,N]))(a:(pB #[bB,N]).all vv=ae)(n0:(jL.contains C||jL.contains N)=ai)(m:#[f8])(G:#[i3,g])(c:#[kn,my g])(I:#[km])(s:#[ls,T,v0])(f:(dK P N "__getattribute__",dK P N "__getattr__",dK P N "__setattr__")=(ab,ab,ab)):hc #[bA] C T v0 F g (dK P N):=by rw[sN]at n0;simp at f;exact⟨⟨_,_,N,_,_,_,_,_,_,_,_,(J.at_ e).trans (congrArg _ p),J.ns E Z a,gm n0.1,gm n0.2⟩,m,G,c,I,s,f.1,f.2.1,f.2.2⟩
theorem IA(J:#[ae]):fj (B0 h c0) (dK P 297)where
 cl:=zz J #[ak] #[aw] #[p] #[p] #[aw] rfl tr OB DB OC OM #[aw]
 n1:=by kernel_rfl
 n2:=by kernel_rfl
 n3:=by kernel_rfl
 n4:=by kernel_rfl
 m1:=by kernel_rfl
 m2:=by kernel_rfl
 m3:=by kernel_rfl
 o1:=(GX J).2
 o2:=(GY J).2
 o3:=(GZ J).2
 f1:=(GX J).1
 f2:=(GY J).1
 f3:=(GZ J).1
theorem zT(J:#[ae]):sS (B0 h c0) (dK P 115):=zz J #[ak] #[aw] #[p] rfl #[aw] rfl tr OB DB OC OM #[aw]
theorem Hq:wV (dK P 115):=⟨by kernel_rfl,by kernel_rfl,by kernel_rfl,by kernel_rfl,by kernel_rfl,by kernel_rfl⟩
theorem yJ(J:#[ae]):ek (B0 h c0) (dK P 199):=zz J #[ak] #[ak] #[aw] #[aw] #[aw] rfl gW Az #[C] AA XK #[aw]
theorem EO:gp (dK P 199):=⟨by kernel_rfl,by kernel_rfl,by kernel_rfl,by kernel_rfl,by kernel_rfl,by kernel_rfl,by kernel_rfl,by kernel_rfl,by kernel_rfl,by kernel_rfl,by kernel_rfl,by kernel_rfl,by kernel_rfl,by kernel_rfl,by kernel_rfl⟩
theorem Qw(J:#[ae]):wM (B0 h c0):=⟨_,rI #[bB,200],J.at_ (#[p]),rfl,rfl⟩
theorem VS(J:#[ae]):nH (B0 h c0) 43:=by have e:#[ie,43,_]:=#[p];refine⟨⟨_,_,_,Xa #[bB,42],_,J.at_ e,rfl,rfl,rfl,rfl,rfl,(rfl:(fG #[bB,43])[5]?=aa _),#[M,J.at_ (rfl)],by kernel_rfl⟩,gm rfl,λo j0 l N a0 G=>?_⟩;rw[show(B0 h _).heap.get? _=_ from J.at_ e]at N;cases N;cases a0;cases G;exact gm rfl
end
theorem uR:∀(f g:Nat)(l:#[g])(p:Nat)(H:#[g]),l.length<=f->l.length<=g->ay f l p H=ay g l p H
 |0,0,_,_,_,_,_=>rfl
 |0,g+1,l,_,_,h,_=>by obtain rfl:=nE.mp (CV.mp h);rfl
 |f+1,0,l,_,_,_,h=>by obtain rfl:=nE.mp (CV.mp h);rfl
 |f+1,g+1,l,p,H,N,a0=>by cases l with
 |nil=>rfl
 |cons x l=>
  have C:=qg (l:=x::l) #[z]
  have Y:#[h9,#[aa,H.contains (p+bp (x::l)),eQ (x::l) (bp (x::l)),x::l],(x::l)]:=by
   split;.exact LU C
   .rfl
  show[40]++ay f _ p _++[_]++ay f _ _ _++[41]=[40]++ay g _ p _++[_]++ay g _ _ _++[41];rw[uR f g _ p _ (by rw[bH];omega) (by rw[bH];omega),uR f g _ _ _ (by rw[cR];omega) (by rw[cR];omega)]
theorem WM(M:#[ac])(h:#[j7]):iH (aA M) L:=⟨kk _,λc X x z=>by
 have Z:∀k,∀x∈gz k,x≠32/\x≠9/\x≠10:=λk=>by match k with|0=>decide|1=>decide|2=>decide|3=>decide|4=>decide|k+5=>show∀x∈[92,34],_;decide
 obtain z|z:=cK.mp z;.exact Z _ x z
 .have:=aY.mp z;have:=h c X;omega⟩
theorem ep.up{H m0:#[g]}(h:ep B w n f z S H r m0)(U:n<=m):ep B w m f z S H r m0:=#[kX]
theorem bG.up{H m0:#[g]}(h:bG B w n f z H r m0)(U:n<=m):bG B w m f z H r m0:=#[kX]
section
variable{h:bk}{P:iB}{c0:ao}{d0 g0:#[n]}{w:aD}
theorem pR(J:#[ae]):#[j2]:=#[as,BL J,#[p]]
theorem Qq(J:#[ae])(u:#[iQ])(S:#[gn])(Z:#[go])(R:h.NoLimit)(j:∃v0 e0,#[c8,"__builtins__",v0]/\v0≠cS/\#[bl,v0,e0]/\e0.cls=.type "module"/\e0.dict=aa cS/\e0.data=.plain):fw #[bA] w d0 g0 (dK P 199) (dK P 115):=by
 have F:aK #[bA] d0 g0:=HC J u S Z R j;have G:Gl #[bA] d0 g0:=Aa J S Z;have v:=yJ (c0:=c0) J;have N:=EO (P:=P);have k:=G.bl 13 "super" _ rfl;have l:=G.bl 6 "sum" _ rfl;have t:=G.bl 0 "len" _ rfl;have H:=G.bl 11 "str" _ rfl;have m:d0 (ak "EMPTYSTRING")=aa (.str (strOf (dK P 3 (ak "EMPTYSTRING"))) (ql (dK P 3 (ak "EMPTYSTRING")))):=(oi J S _).trans (by kernel_rfl);have n:(strOf (dK P 3 (ak "EMPTYSTRING"))).cps.toList=[]:=by kernel_rfl
 have o:=(GQ (c0:=c0) J k (pR J)).1;refine⟨F,G,v,N,zT J,Hq,λT I f p R=>#[aQ,(Qv F G v N (GK J).1 T f p R).up],λT I c R=>#[aQ,(Qt F v N (Qw J) o (GN J k (pR J)).1 T R).le],λT I=>#[aQ,(EM F v o T).up],λT I R=>fM.le (ub F v N (uX J).1 l t T R) #[i],λT I b a0 g=>fM.le (rr F v N (uY J).1 m n T b a0 g) #[i],λI b a0 g E r=>?_,λT I R=>#[aQ,(Qy F v N (Sd J).1 T R).up],λT I n0 R=>#[aQ,(Qx F v N (GO J).1 T R).up],λT i I e R=>#[aQ,(Qu F v N (GL J).1 T i e R).up],λa d=>?_,by kernel_rfl,by kernel_rfl,by kernel_rfl,by kernel_rfl⟩;.have q:=ub (w:=w) F v N (uX J).1 l t 0 b;rw[gM]at q;exact#[aQ,(Qs F G v N (GP J).1 (uX J).2 (uY J).2 q (rr F v N (uY J).1 m n 0 b a0 g) E r H).up]
 .simp[bc,gu,or_false]at d;rcases d with rfl|rfl|rfl|rfl|rfl|rfl|rfl|rfl|rfl|rfl|rfl|rfl;.exact(GK J).2
  .exact(GN J k (pR J)).2
  .exact(uX J).2
  .exact(uY J).2
  .exact(GO J).2
  .exact(GP J).2
  .exact(GQ J k (pR J)).2
  .exact(GL J).2
  .exact(Hg J).2
  .exact(Hh J).2
  .exact(GG J).2
  .exact(GI J).2
theorem To(J:#[ae])(u:#[iQ])(S:#[gn])(Z:#[go])(R:h.NoLimit)(f:#[mf]):xa (B0 h 0) w 34 d0 g0 (dK P 297):=by
 have F:aK (B0 h 0) d0 g0:=HC J u S Z R f;have G:Gl (B0 h 0) d0 g0:=Aa J S Z;have g:=G.bl 13 "super" _ rfl;have h0:=λc0=>Qq (c0:=c0) (w:=w) J u S Z R f;have X:∀(L:#[j]),(#[j7])->#[f9,L]:=λL h x z=>by have:=h x z;omega
 have Q:∀(T N:Nat)p0 j0,p0.length<=2^20->ep (B0 h 0) w 3 57 [.ob 1,.int (T:Int),.int (N:Int),.str p0,.str j0] 0 #[l5] .none (bo (B0 h 0) N p0 j0 [] T []):=λT N p0 j0 l=>Sn F G (zT J) Hq (yJ J) (λT=>Qr F (yJ J) EO (GJ J g (pR J)).1 (GJ J g (pR J)).2 _) (G.gl 16 _ _ rfl) (Hf J).1 _ _ _ _ l;refine⟨F,G,IA J,by decide,(Ha J).1,(zR J).2,λO n0=>TG F G (IA J) #[aw] (GW J).2 (GW J).1 (zR J).1 n0,λM L k e Y=>?_,λM L H k e Y r=>?_,λM f0 E i y j R Z=>#[aQ,(Yt F G (Hc J).1 (zQ J).1 (uZ J).1 (rO J).1 _ _ i _ y j R Z).le],λa c a0=>?_,λa I=>#[aQ,(BQ F G (uZ J).1 (rO J).1 a 0 #[f]).le],λA o c a0 d=>#[aQ,(Gj F G _ _ (zP J).1 _ c _ a0 d).le],λa b c a0 d=>#[aQ,(RI F G _ _ _ _ (GU J).1 (zP J).1 (GR J).1 (GS J).1 (GV J).1 a b _ c rfl a0 d).le]⟩;.have:=Yy (h0 0) (λc0=>h0 _) (G.gl 12 _ _ rfl) (G.gl 15 _ _ rfl) (λT N p0 j0 l=>So (Le u) (zT J) #[aw] (Hf J).2 (Q _ _ _ _ l)) (GG J).1 (GI J).1 (Hg J).1 (Hh J).1 (VS J) (Hb J).1 5 L 0 k #[aO] e (WM M Y) (X L Y);rw[uR 5 _ L 0 _ k #[aO]]at this;exact#[aQ,this.le]
 .have:=RO (w:=w) F G (Hd J).1 (kk M) 5 L 0 _ k #[aO] e (X L Y) #[f] r;rw[uR 5 _ L 0 _ k #[aO]]at this;exact#[aQ,this.le]
 .have q:3000<=aB:=by decide
  exact#[aQ,(FQ F G (zQ J).1 (rO J).1 a 2 (aH c q) (aH a0 q) (BQ F G (uZ J).1 (rO J).1 a 0 #[f])).le]
end
theorem EW:∀{h0:Frag},acp h h0->∀(a:ao)(o:ck),h0.lookup a=aa o->#[cu]
 |[],_,_,_,e=>nomatch e
 |(b,p)::h0,A,a,o,e=>by
  rw[fO]at e;by_cases Z:(a==b)=ae;.rw[Z]at e;cases e;rw[beq_iff_eq.mp Z];exact A.1
  .rw[wO.mpr Z]at e;exact EW A.2 a o e
theorem SQ(h:IntsAre Y L):#[fo,Y,L.map V.int]:=by induction h with|nil=>exact .nil|cons _ _ _ Q=>exact .cons #[aU] Q
section
variable{h:bk}{P:iB}{c0:ao}{d0 g0:#[n]}{w:aD}
theorem Yj(J:#[ae])(e:((hdz.heap_328 P).lookup c,(bw P c).cls,#[bB,c],(hdz.heap_328 P).lookup T)=(aa (bw P c),.type "code",.fields (fG #[bB,c]),aa (ng #[])))(f:(#[es][11]?,#[es].getD 11 .none,#[es].getD 18 .none,#[es].getD 7 .none,#[es].getD 9 .none,#[es].getD 10 .none)=(aa (.ref T),.ref T,.str (strOf (aa (#[es].getD 18 .none))) (ql (aa (#[es].getD 18 .none))),.int 3 0,.bool ae,.int 276 0))(n:c≠T):h.IsCode c T #[]/\h.TableAt c T #[]:=by simp only[qO]at e f;obtain⟨F,d,Q,w⟩:=e;obtain⟨a,S,M,O,j,p⟩:=f;exact⟨⟨_,_,_,_,_,_,_,_,_,_,J.at_ F,Q,S,M,O,j,p,J _ _ w,rfl,trivial,n⟩,⟨_,_,J.at_ F,d,Q,a⟩,J _ _ w⟩
theorem LJ(J:#[ae]):∀x∈#[bA].fb,x.qual.cps.size≠0/\h.IsCode x.c x.P #[]/\h.TableAt x.c x.P #[]:=λx z=>by simp[B0,bc,gu,or_false]at z;rcases z with rfl|rfl|rfl|rfl|rfl|rfl|rfl|rfl<;>exact⟨#[i],Yj J #[aw] #[aw] #[i]⟩
theorem TB(J:#[ae])(u:#[iQ])(S:#[gn])(Z:#[go]){Q:List Int}(q:Q.length<=63):Fn (B0 h 0) w 35 334 [#[bg,Q.map,V.int]] (.atom (.bool ae)):=by have R:h.NoLimit:=#[M,BL J];have f:#[mf]:=⟨vV (dK P 3 (ak "__builtins__")),bw P (vV (dK P 3 (ak "__builtins__"))),(oi J S _).trans (rfl),Nat.ne_of_beq_eq_false (#[p]),J.at_ (by kernel_rfl),by kernel_rfl,by kernel_rfl,by kernel_rfl⟩;have C:=To (w:=w) J u S Z R f;exact Fn.dM C.F (He J).1 rfl rfl rfl rfl VA (Th C q λv s=>dx.atom rfl)
theorem SH(J:#[ae])(u:#[iQ])(C:#[eD,h.get?,N.get?])(I:N.objs.size=h.objs.size+1):GH (B0 h 0) N:=⟨by show h.objs.size<=_;omega,#[dJ,C],λx z=>by obtain⟨S,H,A⟩:=LJ J x z;exact⟨S,_,H.keeps C,#[ds,C _ _ A.2,_,#[],A.2],#[dn]⟩,aT _⟩
theorem VE(J:#[ae])(C:#[eD,h.get?,N.get?])(t:#[fQ,N.get? b=aa o,b∉(B0 h 0).tabs,a0.get?])(k:GH (B0 h 0) a0):OldK N a0:=by
 have a:∀b o,N.get? b=aa o->asItWas _ _ b o:=λb o e=>by
  by_cases Z:b∈(B0 h 0).tabs;.obtain⟨x,z,rfl⟩:=bI.mp Z;obtain⟨_,v,_,⟨S,q,d,H,A⟩,_⟩:=k.2.2.1 x z;obtain⟨_,_,c⟩:=LJ J x z;rw[C _ _ H]at e;cases e;exact .inr (.inl ⟨(c.keeps C).isCodeTable,rfl,_,_,rfl,by rw[S,A]⟩)
  .exact .inl (t b o e Z)
 refine⟨a,λb o e=>?_⟩;obtain h|⟨_,_,Y,d,_,h⟩|⟨_,_,⟨L,_,_,h,_⟩,_⟩:=a b o e;.exact#[bF,h]
 .exact#[bF,h]
 .exact#[bF,h]
end
theorem iL:ZJ.Holds:=by
 refine hdz ?_;intro w l s d0 g0 G y R o j0 U e0 p0 q0 p j E x f0 S z O c L c0 k0 l0 h0 P;refine Ground.open G ?_;intro T B D m0 o0;wrow_args c0 k0 l0 h0 P;rename_i Q _ _ _ _ _ _ _ a d _ M _ _ _ r _ t _;obtain⟨g,_,i,_⟩:=acs (K:=hdz.heap_328) (y:=y) (e:=λ_=>#[p]);have J:HZ l.heap w.params:=EW g;obtain⟨A,I⟩:=acq L;have m:=acr L M;have C:=L.keeps;have i0:l.heap.Ns ed d0:=T.g.at' λo e=>by have v:=J.at_ (a:=3) #[aw];have F:=C _ _ v;rw[show s.heap.get? 3=aa o from e]at F;cases F;exact v
 have b0:=T.b.at' λo e=>by have v:=J.at_ (a:=0) #[aw];have F:=C _ _ v;rw[show s.heap.get? 0=aa o from e]at F;cases F;exact v
 have q:Q.length<=63:=by omega
 have H:R=334:=by have N:=f0;have a0:=(Aa (c0:=0) J i0 b0).gl 0 "law" _ rfl;rw[N]at a0;cases a0;rfl
 subst H;have k:=SH J i C I;refine TB J i i0 b0 q callerA [a] [.ref a] s _ _ ⟨rfl,by decide,by decide⟩ k (.list ⟨_,m,_,_,rfl,SQ r⟩ .nil) #[z] (λb Z=>by rw[aY.mp Z,A];exact aO _) λu f n Y X=>?_;obtain rfl:u=.bool ae:=X;exact⟨.inl ⟨.bool ae,.bool ae,[],rfl,λ_=>rfl,.bool ae,by kernel_rfl,λ_=>⟨.nil,#[ch]⟩⟩,VE J C (λb o e n0=>n.keep b o e (#[fW]) n0) Y,n.os,n.gens.2 (.of_eq S)⟩
section
open Lean Meta Elab Tactic
namespace Z
def main:iS Unit:=do
 akh;let J<-getEnv;let E0(n:hi):Bool:=J.constants.map₂.contains n;let I<-ald (<-alf (<-alc E0 ``iL));let(n0,r)<-ale I E0 ``iL
 let aa q:=J.importEnv?|throwError"env"
 let e<-akg q n0;let g<-nu;setEnv e;g.assign (mkConst r)
end Z
end
end Mine
theorem PySem.Challenge.cw_jc0040_01_holds : PySem.Challenge.rw_jc0040_01.Holds := by
 run_tac Mine.Z.main
